import JvmDerived
import JvmDerived.Pilot.@@N@@Statement
import JvmDerived.Pilot.@@N@@Code
set_option linter.unusedVariables false
set_option linter.unusedSimpArgs false
namespace Jvm.RoadKit
open Sem ClassFile Op Lib Jvm.Stand Jvm.Free Jvm.LawKit
section New
variable {p : Program} {l : Launch} {e : Env} {R : Room} {s : State} {m : MethodId} {args : Array Value} {below : List Frame} {meth : Method} {c : Code} {T : State} {locs : List Loc} {cells slots : Nat}
theorem retI (X : Stand p l e R s m args below meth c T locs cells slots) (hx : p.tables.exec = Jvm.exec) {pc : Nat} {Ls : Array Slot} {z : Int32} {rest : List Value} (hret : meth.sig.returnType = some .int) (hd : decode c.code pc = .ok (.ireturn, 1)) {fs : List Frame}
    (hl : ∀ (f : JFrame) (acts : List Action), f.method = m → f.locked = none → f.entered = [] → (doReturn e (T.setTop f) acts (some (.int z))).1 = T.setFrames fs) : Steps p.tables e below (T.setTop (mkF m pc Ls (.int z :: rest))) (T.setFrames fs) := by
  have hm' : T.vm.method? m = some meth := X.method'
  have hn : narrow .int (.int z) = .int z := rfl
  show Steps p.tables e below (T.setTop { method := m, pc := pc, locals := Ls, stack := _ :: rest, locked := none }) _
  jvm_step X.here [X.here.top, hx, hd, hm', hret, hn]
  first | (intro acts; rw [hl _ acts rfl rfl rfl]) | rw [hl _ _ rfl rfl rfl]
  exact Steps.refl _
theorem own_miss {k : Int32} (q : Int32) {a : Int} (hq : q.toInt = a) (h : ¬ k = q) : a ≠ k.toInt := fun e => h (Int32.toInt_inj.mp (e.symm.trans hq.symm))
end New
end Jvm.RoadKit
namespace Jvm.Pilot.@@N@@
open Jvm Jvm.ClassFile Sem Op Lib Jvm.Free Jvm.Stand Jvm.LawKit Jvm.RoadKit Bundle Jvm.Pilot.@@N@@.Jvm.D
theorem d1_0 : decode prog_15_method_2_code 0 = .ok (.iload_n 0, 1) := by decide +kernel
theorem d1_1 : decode prog_15_method_2_code 1 = .ok (.iload_n 1, 1) := by decide +kernel
theorem d1_2 : decode prog_15_method_2_code 2 = .ok (.iand, 1) := by decide +kernel
theorem d1_3 : decode prog_15_method_2_code 3 = .ok (.lookupswitch 70 #[(1, 41), (5, 60), (16, 41), (80, 60)], 41) := by decide +kernel
theorem d1_44 : decode prog_15_method_2_code 44 = .ok (.iload_n 2, 1) := by decide +kernel
theorem d1_45 : decode prog_15_method_2_code 45 = .ok (.iload_n 3, 1) := by decide +kernel
theorem d1_46 : decode prog_15_method_2_code 46 = .ok (.iload_n 2, 1) := by decide +kernel
theorem d1_47 : decode prog_15_method_2_code 47 = .ok (.isub, 1) := by decide +kernel
theorem d1_48 : decode prog_15_method_2_code 48 = .ok (.iload 4, 2) := by decide +kernel
theorem d1_50 : decode prog_15_method_2_code 50 = .ok (.isub, 1) := by decide +kernel
theorem d1_51 : decode prog_15_method_2_code 51 = .ok (.iconst 2, 1) := by decide +kernel
theorem d1_52 : decode prog_15_method_2_code 52 = .ok (.idiv, 1) := by decide +kernel
theorem d1_53 : decode prog_15_method_2_code 53 = .ok (.iadd, 1) := by decide +kernel
theorem d1_54 : decode prog_15_method_2_code 54 = .ok (.iload 5, 2) := by decide +kernel
theorem d1_56 : decode prog_15_method_2_code 56 = .ok (.iadd, 1) := by decide +kernel
theorem d1_57 : decode prog_15_method_2_code 57 = .ok (.iload 6, 2) := by decide +kernel
theorem d1_59 : decode prog_15_method_2_code 59 = .ok (.isub, 1) := by decide +kernel
theorem d1_60 : decode prog_15_method_2_code 60 = .ok (.goto 17, 3) := by decide +kernel
theorem d1_63 : decode prog_15_method_2_code 63 = .ok (.iload_n 3, 1) := by decide +kernel
theorem d1_64 : decode prog_15_method_2_code 64 = .ok (.iload 4, 2) := by decide +kernel
theorem d1_66 : decode prog_15_method_2_code 66 = .ok (.isub, 1) := by decide +kernel
theorem d1_67 : decode prog_15_method_2_code 67 = .ok (.iload 6, 2) := by decide +kernel
theorem d1_69 : decode prog_15_method_2_code 69 = .ok (.isub, 1) := by decide +kernel
theorem d1_70 : decode prog_15_method_2_code 70 = .ok (.goto 7, 3) := by decide +kernel
theorem d1_73 : decode prog_15_method_2_code 73 = .ok (.iload_n 2, 1) := by decide +kernel
theorem d1_74 : decode prog_15_method_2_code 74 = .ok (.iload 5, 2) := by decide +kernel
theorem d1_76 : decode prog_15_method_2_code 76 = .ok (.iadd, 1) := by decide +kernel
theorem d1_77 : decode prog_15_method_2_code 77 = .ok (.ireturn, 1) := by decide +kernel
def f1_63_r (i3 : Int32) (i4 : Int32) (i6 : Int32) : Int32 := ((i3 - i4) - i6)
def f1_44_r (i2 : Int32) (i3 : Int32) (i4 : Int32) (i5 : Int32) (i6 : Int32) : Int32 := (((i2 + (((i3 - i2) - i4) / (2 : Int32))) + i5) - i6)
def f1_0_r (i0 : Int32) (i1 : Int32) (i2 : Int32) (i3 : Int32) (i4 : Int32) (i5 : Int32) (i6 : Int32) : Int32 := if (i0 &&& i1) = (1 : Int32) then f1_44_r i2 i3 i4 i5 i6 else if (i0 &&& i1) = (5 : Int32) then f1_63_r i3 i4 i6 else if (i0 &&& i1) = (16 : Int32) then f1_44_r i2 i3 i4 i5 i6 else if (i0 &&& i1) = (80 : Int32) then f1_63_r i3 i4 i6 else (i2 + i5)
set_option maxRecDepth 65536 in
set_option maxHeartbeats 40000000 in
theorem f1_63 {p : Program} {l : Launch} {e : Env} {R : Room} {s : State} {m : MethodId} {args : Array Value} {below : List Frame} {meth : Method} {c : Code} {T : State} {locs : List Loc} {cells slots : Nat} {Z : State} {a0 : Array Value} {target : State} (i0 : Int32) (i1 : Int32) (i2 : Int32) (i3 : Int32) (i4 : Int32) (i5 : Int32) (i6 : Int32) (X : Stand p l e R s m args below meth c T locs cells slots) (hx : p.tables.exec = Jvm.exec) (hZ : Z.Warmed39 s.vm) (hw : ∀ d ∈ tables_1, d.before a0 Z = true) (hby : c.code = prog_15_method_2_code) (hown : s.vm.findClass "com/example/tapeline/tapeline/Gravity" = some m.cls) (k : ∀ (pc : Nat) (Ls : Array Slot), decode c.code pc = .ok (.ireturn, 1) → Steps p.tables e below (T.setTop (mkF m pc Ls [(.int (f1_63_r i3 i4 i6))])) target) :
    Steps p.tables e below (T.setTop (mkF m 63 #[.val (.int i0), .val (.int i1), .val (.int i2), .val (.int i3), .val (.int i4), .val (.int i5), .val (.int i6)] [])) target := by
  show Steps p.tables e below (T.setTop (mkF m 63 #[.val (.int i0), .val (.int i1), .val (.int i2), .val (.int i3), .val (.int i4), .val (.int i5), .val (.int i6)] [])) _
  refine XS.iloadN X.here hx rfl (hb hby d1_63) rfl ?_
  show Steps p.tables e below (T.setTop (mkF m 64 #[.val (.int i0), .val (.int i1), .val (.int i2), .val (.int i3), .val (.int i4), .val (.int i5), .val (.int i6)] [(.int i3)])) _
  refine XS.iload X.here hx rfl (hb hby d1_64) rfl ?_
  show Steps p.tables e below (T.setTop (mkF m 66 #[.val (.int i0), .val (.int i1), .val (.int i2), .val (.int i3), .val (.int i4), .val (.int i5), .val (.int i6)] [(.int i4), (.int i3)])) _
  refine XS.isub X.here hx rfl (hb hby d1_66) rfl ?_
  show Steps p.tables e below (T.setTop (mkF m 67 #[.val (.int i0), .val (.int i1), .val (.int i2), .val (.int i3), .val (.int i4), .val (.int i5), .val (.int i6)] [(.int (i3 - i4))])) _
  refine XS.iload X.here hx rfl (hb hby d1_67) rfl ?_
  show Steps p.tables e below (T.setTop (mkF m 69 #[.val (.int i0), .val (.int i1), .val (.int i2), .val (.int i3), .val (.int i4), .val (.int i5), .val (.int i6)] [(.int i6), (.int (i3 - i4))])) _
  refine XS.isub X.here hx rfl (hb hby d1_69) rfl ?_
  show Steps p.tables e below (T.setTop (mkF m 70 #[.val (.int i0), .val (.int i1), .val (.int i2), .val (.int i3), .val (.int i4), .val (.int i5), .val (.int i6)] [(.int ((i3 - i4) - i6))])) _
  refine XS.goto X.here hx rfl (pc0 := 70) (pc' := 77) rfl (hb hby d1_70) (by decide) (by decide) ?_
  have e_r : (f1_63_r i3 i4 i6) = ((i3 - i4) - i6) := by rfl
  rw [e_r] at k
  exact k _ _ (hb hby d1_77)
set_option maxRecDepth 65536 in
set_option maxHeartbeats 40000000 in
theorem f1_44 {p : Program} {l : Launch} {e : Env} {R : Room} {s : State} {m : MethodId} {args : Array Value} {below : List Frame} {meth : Method} {c : Code} {T : State} {locs : List Loc} {cells slots : Nat} {Z : State} {a0 : Array Value} {target : State} (i0 : Int32) (i1 : Int32) (i2 : Int32) (i3 : Int32) (i4 : Int32) (i5 : Int32) (i6 : Int32) (X : Stand p l e R s m args below meth c T locs cells slots) (hx : p.tables.exec = Jvm.exec) (hZ : Z.Warmed39 s.vm) (hw : ∀ d ∈ tables_1, d.before a0 Z = true) (hby : c.code = prog_15_method_2_code) (hown : s.vm.findClass "com/example/tapeline/tapeline/Gravity" = some m.cls) (k : ∀ (pc : Nat) (Ls : Array Slot), decode c.code pc = .ok (.ireturn, 1) → Steps p.tables e below (T.setTop (mkF m pc Ls [(.int (f1_44_r i2 i3 i4 i5 i6))])) target) :
    Steps p.tables e below (T.setTop (mkF m 44 #[.val (.int i0), .val (.int i1), .val (.int i2), .val (.int i3), .val (.int i4), .val (.int i5), .val (.int i6)] [])) target := by
  show Steps p.tables e below (T.setTop (mkF m 44 #[.val (.int i0), .val (.int i1), .val (.int i2), .val (.int i3), .val (.int i4), .val (.int i5), .val (.int i6)] [])) _
  refine XS.iloadN X.here hx rfl (hb hby d1_44) rfl ?_
  show Steps p.tables e below (T.setTop (mkF m 45 #[.val (.int i0), .val (.int i1), .val (.int i2), .val (.int i3), .val (.int i4), .val (.int i5), .val (.int i6)] [(.int i2)])) _
  refine XS.iloadN X.here hx rfl (hb hby d1_45) rfl ?_
  show Steps p.tables e below (T.setTop (mkF m 46 #[.val (.int i0), .val (.int i1), .val (.int i2), .val (.int i3), .val (.int i4), .val (.int i5), .val (.int i6)] [(.int i3), (.int i2)])) _
  refine XS.iloadN X.here hx rfl (hb hby d1_46) rfl ?_
  show Steps p.tables e below (T.setTop (mkF m 47 #[.val (.int i0), .val (.int i1), .val (.int i2), .val (.int i3), .val (.int i4), .val (.int i5), .val (.int i6)] [(.int i2), (.int i3), (.int i2)])) _
  refine XS.isub X.here hx rfl (hb hby d1_47) rfl ?_
  show Steps p.tables e below (T.setTop (mkF m 48 #[.val (.int i0), .val (.int i1), .val (.int i2), .val (.int i3), .val (.int i4), .val (.int i5), .val (.int i6)] [(.int (i3 - i2)), (.int i2)])) _
  refine XS.iload X.here hx rfl (hb hby d1_48) rfl ?_
  show Steps p.tables e below (T.setTop (mkF m 50 #[.val (.int i0), .val (.int i1), .val (.int i2), .val (.int i3), .val (.int i4), .val (.int i5), .val (.int i6)] [(.int i4), (.int (i3 - i2)), (.int i2)])) _
  refine XS.isub X.here hx rfl (hb hby d1_50) rfl ?_
  show Steps p.tables e below (T.setTop (mkF m 51 #[.val (.int i0), .val (.int i1), .val (.int i2), .val (.int i3), .val (.int i4), .val (.int i5), .val (.int i6)] [(.int ((i3 - i2) - i4)), (.int i2)])) _
  refine XS.iconst X.here hx rfl (hb hby d1_51) ?_
  show Steps p.tables e below (T.setTop (mkF m 52 #[.val (.int i0), .val (.int i1), .val (.int i2), .val (.int i3), .val (.int i4), .val (.int i5), .val (.int i6)] [(.int (2 : Int32)), (.int ((i3 - i2) - i4)), (.int i2)])) _
  refine XS.idiv X.here hx rfl (hb hby d1_52) rfl (by decide) ?_
  show Steps p.tables e below (T.setTop (mkF m 53 #[.val (.int i0), .val (.int i1), .val (.int i2), .val (.int i3), .val (.int i4), .val (.int i5), .val (.int i6)] [(.int (((i3 - i2) - i4) / (2 : Int32))), (.int i2)])) _
  refine XS.iadd X.here hx rfl (hb hby d1_53) rfl ?_
  show Steps p.tables e below (T.setTop (mkF m 54 #[.val (.int i0), .val (.int i1), .val (.int i2), .val (.int i3), .val (.int i4), .val (.int i5), .val (.int i6)] [(.int (i2 + (((i3 - i2) - i4) / (2 : Int32))))])) _
  refine XS.iload X.here hx rfl (hb hby d1_54) rfl ?_
  show Steps p.tables e below (T.setTop (mkF m 56 #[.val (.int i0), .val (.int i1), .val (.int i2), .val (.int i3), .val (.int i4), .val (.int i5), .val (.int i6)] [(.int i5), (.int (i2 + (((i3 - i2) - i4) / (2 : Int32))))])) _
  refine XS.iadd X.here hx rfl (hb hby d1_56) rfl ?_
  show Steps p.tables e below (T.setTop (mkF m 57 #[.val (.int i0), .val (.int i1), .val (.int i2), .val (.int i3), .val (.int i4), .val (.int i5), .val (.int i6)] [(.int ((i2 + (((i3 - i2) - i4) / (2 : Int32))) + i5))])) _
  refine XS.iload X.here hx rfl (hb hby d1_57) rfl ?_
  show Steps p.tables e below (T.setTop (mkF m 59 #[.val (.int i0), .val (.int i1), .val (.int i2), .val (.int i3), .val (.int i4), .val (.int i5), .val (.int i6)] [(.int i6), (.int ((i2 + (((i3 - i2) - i4) / (2 : Int32))) + i5))])) _
  refine XS.isub X.here hx rfl (hb hby d1_59) rfl ?_
  show Steps p.tables e below (T.setTop (mkF m 60 #[.val (.int i0), .val (.int i1), .val (.int i2), .val (.int i3), .val (.int i4), .val (.int i5), .val (.int i6)] [(.int (((i2 + (((i3 - i2) - i4) / (2 : Int32))) + i5) - i6))])) _
  refine XS.goto X.here hx rfl (pc0 := 60) (pc' := 77) rfl (hb hby d1_60) (by decide) (by decide) ?_
  have e_r : (f1_44_r i2 i3 i4 i5 i6) = (((i2 + (((i3 - i2) - i4) / (2 : Int32))) + i5) - i6) := by rfl
  rw [e_r] at k
  exact k _ _ (hb hby d1_77)
set_option maxRecDepth 65536 in
set_option maxHeartbeats 40000000 in
theorem f1_0 {p : Program} {l : Launch} {e : Env} {R : Room} {s : State} {m : MethodId} {args : Array Value} {below : List Frame} {meth : Method} {c : Code} {T : State} {locs : List Loc} {cells slots : Nat} {Z : State} {a0 : Array Value} {target : State} (i0 : Int32) (i1 : Int32) (i2 : Int32) (i3 : Int32) (i4 : Int32) (i5 : Int32) (i6 : Int32) (X : Stand p l e R s m args below meth c T locs cells slots) (hx : p.tables.exec = Jvm.exec) (hZ : Z.Warmed39 s.vm) (hw : ∀ d ∈ tables_1, d.before a0 Z = true) (hby : c.code = prog_15_method_2_code) (hown : s.vm.findClass "com/example/tapeline/tapeline/Gravity" = some m.cls) (k : ∀ (pc : Nat) (Ls : Array Slot), decode c.code pc = .ok (.ireturn, 1) → Steps p.tables e below (T.setTop (mkF m pc Ls [(.int (f1_0_r i0 i1 i2 i3 i4 i5 i6))])) target) :
    Steps p.tables e below (T.setTop (mkF m 0 #[.val (.int i0), .val (.int i1), .val (.int i2), .val (.int i3), .val (.int i4), .val (.int i5), .val (.int i6)] [])) target := by
  show Steps p.tables e below (T.setTop (mkF m 0 #[.val (.int i0), .val (.int i1), .val (.int i2), .val (.int i3), .val (.int i4), .val (.int i5), .val (.int i6)] [])) _
  refine XS.iloadN X.here hx rfl (hb hby d1_0) rfl ?_
  show Steps p.tables e below (T.setTop (mkF m 1 #[.val (.int i0), .val (.int i1), .val (.int i2), .val (.int i3), .val (.int i4), .val (.int i5), .val (.int i6)] [(.int i0)])) _
  refine XS.iloadN X.here hx rfl (hb hby d1_1) rfl ?_
  show Steps p.tables e below (T.setTop (mkF m 2 #[.val (.int i0), .val (.int i1), .val (.int i2), .val (.int i3), .val (.int i4), .val (.int i5), .val (.int i6)] [(.int i1), (.int i0)])) _
  refine XS.iand X.here hx rfl (hb hby d1_2) rfl ?_
  show Steps p.tables e below (T.setTop (mkF m 3 #[.val (.int i0), .val (.int i1), .val (.int i2), .val (.int i3), .val (.int i4), .val (.int i5), .val (.int i6)] [(.int (i0 &&& i1))])) _
  by_cases q3_0 : (i0 &&& i1) = (1 : Int32)
  · refine lookupswitchHit X hx (g := (mkF m 3 #[.val (.int i0), .val (.int i1), .val (.int i2), .val (.int i3), .val (.int i4), .val (.int i5), .val (.int i6)] [(.int (i0 &&& i1))])) rfl rfl (hb hby d1_3) (by decide) (a := 1) (off := 41) (by rw [q3_0]; decide +kernel) (show (0 : Int) ≤ ((3 : Nat) : Int) + 41 from by decide) _ ?_
    have e_r : (f1_0_r i0 i1 i2 i3 i4 i5 i6) = f1_44_r i2 i3 i4 i5 i6 := by unfold f1_0_r; rw [if_pos q3_0]
    rw [e_r] at k
    exact f1_44 i0 i1 i2 i3 i4 i5 i6 X hx hZ hw hby hown k
  · by_cases q3_1 : (i0 &&& i1) = (5 : Int32)
    · refine lookupswitchHit X hx (g := (mkF m 3 #[.val (.int i0), .val (.int i1), .val (.int i2), .val (.int i3), .val (.int i4), .val (.int i5), .val (.int i6)] [(.int (i0 &&& i1))])) rfl rfl (hb hby d1_3) (by decide) (a := 5) (off := 60) (by rw [q3_1]; decide +kernel) (show (0 : Int) ≤ ((3 : Nat) : Int) + 60 from by decide) _ ?_
      have e_r : (f1_0_r i0 i1 i2 i3 i4 i5 i6) = f1_63_r i3 i4 i6 := by unfold f1_0_r; rw [if_neg q3_0, if_pos q3_1]
      rw [e_r] at k
      exact f1_63 i0 i1 i2 i3 i4 i5 i6 X hx hZ hw hby hown k
    · by_cases q3_2 : (i0 &&& i1) = (16 : Int32)
      · refine lookupswitchHit X hx (g := (mkF m 3 #[.val (.int i0), .val (.int i1), .val (.int i2), .val (.int i3), .val (.int i4), .val (.int i5), .val (.int i6)] [(.int (i0 &&& i1))])) rfl rfl (hb hby d1_3) (by decide) (a := 16) (off := 41) (by rw [q3_2]; decide +kernel) (show (0 : Int) ≤ ((3 : Nat) : Int) + 41 from by decide) _ ?_
        have e_r : (f1_0_r i0 i1 i2 i3 i4 i5 i6) = f1_44_r i2 i3 i4 i5 i6 := by unfold f1_0_r; rw [if_neg q3_0, if_neg q3_1, if_pos q3_2]
        rw [e_r] at k
        exact f1_44 i0 i1 i2 i3 i4 i5 i6 X hx hZ hw hby hown k
      · by_cases q3_3 : (i0 &&& i1) = (80 : Int32)
        · refine lookupswitchHit X hx (g := (mkF m 3 #[.val (.int i0), .val (.int i1), .val (.int i2), .val (.int i3), .val (.int i4), .val (.int i5), .val (.int i6)] [(.int (i0 &&& i1))])) rfl rfl (hb hby d1_3) (by decide) (a := 80) (off := 60) (by rw [q3_3]; decide +kernel) (show (0 : Int) ≤ ((3 : Nat) : Int) + 60 from by decide) _ ?_
          have e_r : (f1_0_r i0 i1 i2 i3 i4 i5 i6) = f1_63_r i3 i4 i6 := by unfold f1_0_r; rw [if_neg q3_0, if_neg q3_1, if_neg q3_2, if_pos q3_3]
          rw [e_r] at k
          exact f1_63 i0 i1 i2 i3 i4 i5 i6 X hx hZ hw hby hown k
        · refine lookupswitchMiss X hx (g := (mkF m 3 #[.val (.int i0), .val (.int i1), .val (.int i2), .val (.int i3), .val (.int i4), .val (.int i5), .val (.int i6)] [(.int (i0 &&& i1))])) rfl rfl (hb hby d1_3) (by decide) (find_miss (by
            intro p hp
            simp only [List.mem_cons, List.not_mem_nil, or_false] at hp
            rcases hp with rfl | rfl | rfl | rfl
            · exact own_miss (1 : Int32) rfl q3_0
            · exact own_miss (5 : Int32) rfl q3_1
            · exact own_miss (16 : Int32) rfl q3_2
            · exact own_miss (80 : Int32) rfl q3_3)) (show (0 : Int) ≤ ((3 : Nat) : Int) + 70 from by decide) _ ?_
          show Steps p.tables e below (T.setTop (mkF m 73 #[.val (.int i0), .val (.int i1), .val (.int i2), .val (.int i3), .val (.int i4), .val (.int i5), .val (.int i6)] [])) _
          refine XS.iloadN X.here hx rfl (hb hby d1_73) rfl ?_
          show Steps p.tables e below (T.setTop (mkF m 74 #[.val (.int i0), .val (.int i1), .val (.int i2), .val (.int i3), .val (.int i4), .val (.int i5), .val (.int i6)] [(.int i2)])) _
          refine XS.iload X.here hx rfl (hb hby d1_74) rfl ?_
          show Steps p.tables e below (T.setTop (mkF m 76 #[.val (.int i0), .val (.int i1), .val (.int i2), .val (.int i3), .val (.int i4), .val (.int i5), .val (.int i6)] [(.int i5), (.int i2)])) _
          refine XS.iadd X.here hx rfl (hb hby d1_76) rfl ?_
          have e_r : (f1_0_r i0 i1 i2 i3 i4 i5 i6) = (i2 + i5) := by unfold f1_0_r; rw [if_neg q3_0, if_neg q3_1, if_neg q3_2, if_neg q3_3]
          rw [e_r] at k
          exact k _ _ (hb hby d1_77)
theorem pn_0 : plainName "com/example/tapeline/tapeline/Gravity" = true := by first | (simp [plainName, overriddenIn]; done) | decide +kernel
theorem ef_rm1 (m : MethodId) (x0 : Int32) (x1 : Int32) (x2 : Int32) (x3 : Int32) (x4 : Int32) (x5 : Int32) (x6 : Int32) : entryFrame m #[(.int x0), (.int x1), (.int x2), (.int x3), (.int x4), (.int x5), (.int x6)] 7 = mkF m 0 #[.val (.int x0), .val (.int x1), .val (.int x2), .val (.int x3), .val (.int x4), .val (.int x5), .val (.int x6)] [] := by first | (simp [entryFrame, mkF, argsToLocals, Value.category]; done) | rfl
def Q_rm1 (Z : State) (p0 : Int32) (p1 : Int32) (p2 : Int32) (p3 : Int32) (p4 : Int32) (p5 : Int32) (p6 : Int32) (h0 : Heap) (n0 : Nat) (v : Option Value) (h : Heap) (L : List Loc) : Prop := v = some (.int (f1_0_r p0 p1 p2 p3 p4 p5 p6)) ∧ Fr n0 L ∧ h = h0
set_option maxRecDepth 65536 in
set_option maxHeartbeats 40000000 in
theorem rm1 (l : Launch) (Z : State) (a0 : Array Value) (hw : ∀ d ∈ tables_1, d.before a0 Z = true) (ws : List Jvm.Cond) (p0 : Int32) (p1 : Int32) (p2 : Int32) (p3 : Int32) (p4 : Int32) (p5 : Int32) (p6 : Int32) (h0 : Heap) (n0 : Nat) (Z0 : n0 ≤ h0.size) :
    MetFree l (⟨"com/example/tapeline/tapeline/Gravity", "place", "(IIIIIII)I"⟩ : MethodName) (head1 (Jvm.Cond.code (⟨"com/example/tapeline/tapeline/Gravity", "place", "(IIIIIII)I"⟩ : MethodName) prog_15_method_2_code 7 (some .int) :: ws) ({ frames := 0, cells := 0, slots := 0, locals := 0 } : Room)) (fun a U => a = #[(.int p0), (.int p1), (.int p2), (.int p3), (.int p4), (.int p5), (.int p6)] ∧ Z.Warmed39 U.vm ∧ U.heap = h0) (fun _ _ _ _ _ => True) (fun _ U o U' => ∃ v L, o = .returned v ∧ Q_rm1 Z p0 p1 p2 p3 p4 p5 p6 h0 n0 v U'.heap L ∧ FrameEnd U o U' L ({ frames := 0, cells := 0, slots := 0, locals := 0 } : Room).cells ({ frames := 0, cells := 0, slots := 0, locals := 0 } : Room).slots) := by
  refine MetFree.of_bodySF (plainFor_of_name pn_0) hisR ?_
  intro p e s m args below meth c s₁ Bd hml0 hP hK
  obtain ⟨rfl, hZ, hh⟩ := hP
  have hx := Bd.exec
  have hby := Bd.bytes
  have hml : c.maxLocals = 7 := hml0
  have hown : s.vm.findClass "com/example/tapeline/tapeline/Gravity" = some m.cls := findClass_of_methodNamed Bd.named
  have hnm := (name_of_methodNamed Bd.named Bd.method).1
  have X0 : Stand p l e ({ frames := 0, cells := 0, slots := 0, locals := 0 } : Room) s m #[(.int p0), (.int p1), (.int p2), (.int p3), (.int p4), (.int p5), (.int p6)] below meth c s₁ [] 0 0 := Stand.of_body Bd
  have e0 : s₁.heap = h0 := by rw [← hh, Bd.state]; rfl
  have N0 := Fr.nil n0
  have c0 : ∀ t, Steps p.tables e below (s₁.setTop (mkF m 0 #[.val (.int p0), .val (.int p1), .val (.int p2), .val (.int p3), .val (.int p4), .val (.int p5), .val (.int p6)] [])) t → Steps p.tables e below (s₁.setTop (entryFrame m #[(.int p0), (.int p1), (.int p2), (.int p3), (.int p4), (.int p5), (.int p6)] 7)) t := fun t k => castTop (ef_rm1 m p0 p1 p2 p3 p4 p5 p6) k
  obtain ⟨fs, hr, hrun, hended, hW, hsame⟩ := X0.leave (v := some (.int (f1_0_r p0 p1 p2 p3 p4 p5 p6))) (fun h => by rw [Bd.returns] at h; cases h)
  refine ⟨_, _, c0 _ (f1_0 p0 p1 p2 p3 p4 p5 p6 X0 hx hZ hw hby hown (fun pc Ls hd => retI X0 hx Bd.returns hd hr)), hrun, hended, _, _, rfl, ?_, ⟨_, rfl⟩, hW, hsame.mono (by decide) (by decide)⟩
  show Q_rm1 Z p0 p1 p2 p3 p4 p5 p6 h0 n0 _ s₁.heap _
  rw [e0]
  exact ⟨rfl, N0, rfl⟩
theorem own_c8 {b : Int32} (h : 0 ≤ b.toInt ∧ b.toInt ≤ (7 : Int32).toInt) : b = 0 ∨ b = 1 ∨ b = 2 ∨ b = 3 ∨ b = 4 ∨ b = 5 ∨ b = 6 ∨ b = 7 := by
  have e7 : (7 : Int32).toInt = 7 := rfl
  have e : b.toInt = 0 ∨ b.toInt = 1 ∨ b.toInt = 2 ∨ b.toInt = 3 ∨ b.toInt = 4 ∨ b.toInt = 5 ∨ b.toInt = 6 ∨ b.toInt = 7 := by omega
  rcases e with e | e | e | e | e | e | e | e
  · exact Or.inl (Int32.toInt_inj.mp e)
  · exact Or.inr (Or.inl (Int32.toInt_inj.mp e))
  · exact Or.inr (Or.inr (Or.inl (Int32.toInt_inj.mp e)))
  · exact Or.inr (Or.inr (Or.inr (Or.inl (Int32.toInt_inj.mp e))))
  · exact Or.inr (Or.inr (Or.inr (Or.inr (Or.inl (Int32.toInt_inj.mp e)))))
  · exact Or.inr (Or.inr (Or.inr (Or.inr (Or.inr (Or.inl (Int32.toInt_inj.mp e))))))
  · exact Or.inr (Or.inr (Or.inr (Or.inr (Or.inr (Or.inr (Or.inl (Int32.toInt_inj.mp e)))))))
  · exact Or.inr (Or.inr (Or.inr (Or.inr (Or.inr (Or.inr (Or.inr (Int32.toInt_inj.mp e)))))))
theorem own_nat (x : Nat) : x &&& 112 = ((x >>> 4) &&& 7) <<< 4 := by
  apply Nat.eq_of_testBit_eq
  intro i
  simp only [Nat.testBit_and, Nat.testBit_shiftLeft, Nat.testBit_shiftRight]
  by_cases h : 4 ≤ i
  · obtain ⟨j, rfl⟩ := Nat.exists_eq_add_of_le h
    have q : Nat.testBit 112 (4 + j) = Nat.testBit 7 j := by rw [← Nat.testBit_shiftRight]; rfl
    simp [q]
  · have q : i = 0 ∨ i = 1 ∨ i = 2 ∨ i = 3 := by omega
    rcases q with rfl | rfl | rfl | rfl <;> simp <;> (intro _; rfl)
theorem own_112 (g : Int32) : (g &&& 112).toBitVec.toNat = 16 * ((((g.toUInt32 >>> ((4 : Int32) &&& 31).toUInt32).toInt32) &&& (7 : Int32))).toBitVec.toNat := by
  have e1 : (g &&& 112).toBitVec.toNat = g.toBitVec.toNat &&& 112 := rfl
  have e2 : ((((g.toUInt32 >>> ((4 : Int32) &&& 31).toUInt32).toInt32) &&& (7 : Int32))).toBitVec.toNat = (g.toBitVec.toNat >>> 4) &&& 7 := rfl
  rw [e1, e2, own_nat, Nat.shiftLeft_eq]
  omega
theorem own_16 (g b : Int32) (k : Nat) (hb : b.toBitVec.toNat = k) (h : (g &&& 112).toBitVec.toNat = 16 * b.toBitVec.toNat) (q : Int32) (hq : q.toBitVec.toNat = 16 * k) : g &&& 112 = q :=
  Int32.toBitVec_inj.mp (BitVec.eq_of_toNat_eq (by rw [h, hb, hq]))
theorem own_mid (a b c d e : Int32) : (((a + (((b - a) - c) / (2 : Int32))) + d) - e) = (((a + d) - e) + (((b - a) - c) / (2 : Int32))) := by
  generalize (((b - a) - c) / (2 : Int32)) = q
  rw [Int32.sub_eq_add_neg, Int32.sub_eq_add_neg]
  ac_rfl
def g1_0_t0 (i1 : Int32) : Int32 := if (i1 &&& (1 : Int32)) = (0 : Int32) then (0 : Int32) else (1 : Int32)
set_option maxRecDepth 65536 in
set_option maxHeartbeats 40000000 in
theorem g1_0 {p : Program} {l : Launch} {e : Env} {R : Room} {s : State} {m : MethodId} {args : Array Value} {below : List Frame} {meth : Method} {c : Code} {T : State} {locs : List Loc} {cells slots : Nat} {Z : State} {a0 : Array Value} {target : State} (i0 : Int32) (i1 : Int32) (i2 : Int32) (i3 : Int32) (i4 : Int32) (j5 : Int64) (X : Stand p l e R s m args below meth c T locs cells slots) (hx : p.tables.exec = Jvm.exec) (hZ : Z.Warmed39 s.vm) (hw : ∀ d ∈ tables_1, d.before a0 Z = true) (hby : c.code = code) (hown : s.vm.findClass "com/example/tapeline/tapeline/GravityPlacePinLaw" = some m.cls) (k : Steps p.tables e below (T.setTop (mkF m 11 #[.val (.int i0), .val (.int i1), .val (.int i2), .val (.int i3), .val (.int i4), .val (.long j5), .second, .unset, .unset, .unset, .unset, .unset, .unset, .unset, .unset] [(.int (g1_0_t0 i1))])) target) :
    Steps p.tables e below (T.setTop (mkF m 0 #[.val (.int i0), .val (.int i1), .val (.int i2), .val (.int i3), .val (.int i4), .val (.long j5), .second, .unset, .unset, .unset, .unset, .unset, .unset, .unset, .unset] [])) target := by
  show Steps p.tables e below (T.setTop (mkF m 0 #[.val (.int i0), .val (.int i1), .val (.int i2), .val (.int i3), .val (.int i4), .val (.long j5), .second, .unset, .unset, .unset, .unset, .unset, .unset, .unset, .unset] [])) _
  refine XS.iloadN X.here hx rfl (hb hby at_0) rfl ?_
  show Steps p.tables e below (T.setTop (mkF m 1 #[.val (.int i0), .val (.int i1), .val (.int i2), .val (.int i3), .val (.int i4), .val (.long j5), .second, .unset, .unset, .unset, .unset, .unset, .unset, .unset, .unset] [(.int i1)])) _
  refine XS.iconst X.here hx rfl (hb hby at_1) ?_
  show Steps p.tables e below (T.setTop (mkF m 2 #[.val (.int i0), .val (.int i1), .val (.int i2), .val (.int i3), .val (.int i4), .val (.long j5), .second, .unset, .unset, .unset, .unset, .unset, .unset, .unset, .unset] [(.int (1 : Int32)), (.int i1)])) _
  refine XS.iand X.here hx rfl (hb hby at_2) rfl ?_
  show Steps p.tables e below (T.setTop (mkF m 3 #[.val (.int i0), .val (.int i1), .val (.int i2), .val (.int i3), .val (.int i4), .val (.long j5), .second, .unset, .unset, .unset, .unset, .unset, .unset, .unset, .unset] [(.int (i1 &&& (1 : Int32)))])) _
  by_cases q3 : (i1 &&& (1 : Int32)) = (0 : Int32)
  · refine XS.ifYes X.here hx rfl (pc0 := 3) (pc' := 10) rfl (hb hby at_3) rfl ((if0 _ _).trans (teq q3).1) (by decide) (by decide) ?_
    show Steps p.tables e below (T.setTop (mkF m 10 #[.val (.int i0), .val (.int i1), .val (.int i2), .val (.int i3), .val (.int i4), .val (.long j5), .second, .unset, .unset, .unset, .unset, .unset, .unset, .unset, .unset] [])) _
    refine XS.iconst X.here hx rfl (hb hby at_10) ?_
    have e_t0 : (g1_0_t0 i1) = (0 : Int32) := by unfold g1_0_t0; rw [if_pos q3]
    rw [e_t0] at k
    exact k
  · refine XS.ifNo X.here hx rfl (hb hby at_3) rfl ((if0 _ _).trans (feq q3).1) ?_
    show Steps p.tables e below (T.setTop (mkF m 6 #[.val (.int i0), .val (.int i1), .val (.int i2), .val (.int i3), .val (.int i4), .val (.long j5), .second, .unset, .unset, .unset, .unset, .unset, .unset, .unset, .unset] [])) _
    refine XS.iconst X.here hx rfl (hb hby at_6) ?_
    show Steps p.tables e below (T.setTop (mkF m 7 #[.val (.int i0), .val (.int i1), .val (.int i2), .val (.int i3), .val (.int i4), .val (.long j5), .second, .unset, .unset, .unset, .unset, .unset, .unset, .unset, .unset] [(.int (1 : Int32))])) _
    refine XS.goto X.here hx rfl (pc0 := 7) (pc' := 11) rfl (hb hby at_7) (by decide) (by decide) ?_
    have e_t0 : (g1_0_t0 i1) = (1 : Int32) := by unfold g1_0_t0; rw [if_neg q3]
    rw [e_t0] at k
    exact k
def g2_13_t0 (i7 : Int32) : Int32 := if i7 = (0 : Int32) then (112 : Int32) else (7 : Int32)
set_option maxRecDepth 65536 in
set_option maxHeartbeats 40000000 in
theorem g2_13 {p : Program} {l : Launch} {e : Env} {R : Room} {s : State} {m : MethodId} {args : Array Value} {below : List Frame} {meth : Method} {c : Code} {T : State} {locs : List Loc} {cells slots : Nat} {Z : State} {a0 : Array Value} {target : State} (i0 : Int32) (i1 : Int32) (i2 : Int32) (i3 : Int32) (i4 : Int32) (j5 : Int64) (i7 : Int32) (X : Stand p l e R s m args below meth c T locs cells slots) (hx : p.tables.exec = Jvm.exec) (hZ : Z.Warmed39 s.vm) (hw : ∀ d ∈ tables_1, d.before a0 Z = true) (hby : c.code = code) (hown : s.vm.findClass "com/example/tapeline/tapeline/GravityPlacePinLaw" = some m.cls) (k : Steps p.tables e below (T.setTop (mkF m 25 #[.val (.int i0), .val (.int i1), .val (.int i2), .val (.int i3), .val (.int i4), .val (.long j5), .second, .val (.int i7), .unset, .unset, .unset, .unset, .unset, .unset, .unset] [(.int (g2_13_t0 i7))])) target) :
    Steps p.tables e below (T.setTop (mkF m 13 #[.val (.int i0), .val (.int i1), .val (.int i2), .val (.int i3), .val (.int i4), .val (.long j5), .second, .val (.int i7), .unset, .unset, .unset, .unset, .unset, .unset, .unset] [])) target := by
  show Steps p.tables e below (T.setTop (mkF m 13 #[.val (.int i0), .val (.int i1), .val (.int i2), .val (.int i3), .val (.int i4), .val (.long j5), .second, .val (.int i7), .unset, .unset, .unset, .unset, .unset, .unset, .unset] [])) _
  refine XS.iload X.here hx rfl (hb hby at_13) rfl ?_
  show Steps p.tables e below (T.setTop (mkF m 15 #[.val (.int i0), .val (.int i1), .val (.int i2), .val (.int i3), .val (.int i4), .val (.long j5), .second, .val (.int i7), .unset, .unset, .unset, .unset, .unset, .unset, .unset] [(.int i7)])) _
  by_cases q15 : i7 = (0 : Int32)
  · refine XS.ifYes X.here hx rfl (pc0 := 15) (pc' := 23) rfl (hb hby at_15) rfl ((if0 _ _).trans (teq q15).1) (by decide) (by decide) ?_
    show Steps p.tables e below (T.setTop (mkF m 23 #[.val (.int i0), .val (.int i1), .val (.int i2), .val (.int i3), .val (.int i4), .val (.long j5), .second, .val (.int i7), .unset, .unset, .unset, .unset, .unset, .unset, .unset] [])) _
    refine XS.bipush X.here hx rfl (hb hby at_23) ?_
    have e_t0 : (g2_13_t0 i7) = (112 : Int32) := by unfold g2_13_t0; rw [if_pos q15]
    rw [e_t0] at k
    exact k
  · refine XS.ifNo X.here hx rfl (hb hby at_15) rfl ((if0 _ _).trans (feq q15).1) ?_
    show Steps p.tables e below (T.setTop (mkF m 18 #[.val (.int i0), .val (.int i1), .val (.int i2), .val (.int i3), .val (.int i4), .val (.long j5), .second, .val (.int i7), .unset, .unset, .unset, .unset, .unset, .unset, .unset] [])) _
    refine XS.bipush X.here hx rfl (hb hby at_18) ?_
    show Steps p.tables e below (T.setTop (mkF m 20 #[.val (.int i0), .val (.int i1), .val (.int i2), .val (.int i3), .val (.int i4), .val (.long j5), .second, .val (.int i7), .unset, .unset, .unset, .unset, .unset, .unset, .unset] [(.int (7 : Int32))])) _
    refine XS.goto X.here hx rfl (pc0 := 20) (pc' := 25) rfl (hb hby at_20) (by decide) (by decide) ?_
    have e_t0 : (g2_13_t0 i7) = (7 : Int32) := by unfold g2_13_t0; rw [if_neg q15]
    rw [e_t0] at k
    exact k
theorem pd_0 : parseMethodDescriptor "(IIIIIII)I" = some ⟨[.int, .int, .int, .int, .int, .int, .int], some .int⟩ := by decide +kernel
def g3_56_t0 (i0 : Int32) (i7 : Int32) : Int32 := if i7 = (0 : Int32) then (((i0.toUInt32 >>> ((4 : Int32) &&& 31).toUInt32).toInt32) &&& (7 : Int32)) else (i0 &&& (7 : Int32))
set_option maxRecDepth 65536 in
set_option maxHeartbeats 40000000 in
theorem g3_56 {p : Program} {l : Launch} {e : Env} {R : Room} {s : State} {m : MethodId} {args : Array Value} {below : List Frame} {meth : Method} {c : Code} {T : State} {locs : List Loc} {cells slots : Nat} {Z : State} {a0 : Array Value} {target : State} (i0 : Int32) (i1 : Int32) (i2 : Int32) (i3 : Int32) (i4 : Int32) (j5 : Int64) (i7 : Int32) (i8 : Int32) (i9 : Int32) (i10 : Int32) (i11 : Int32) (X : Stand p l e R s m args below meth c T locs cells slots) (hx : p.tables.exec = Jvm.exec) (hZ : Z.Warmed39 s.vm) (hw : ∀ d ∈ tables_1, d.before a0 Z = true) (hby : c.code = code) (hown : s.vm.findClass "com/example/tapeline/tapeline/GravityPlacePinLaw" = some m.cls) (k : Steps p.tables e below (T.setTop (mkF m 74 #[.val (.int i0), .val (.int i1), .val (.int i2), .val (.int i3), .val (.int i4), .val (.long j5), .second, .val (.int i7), .val (.int i8), .val (.int i9), .val (.int i10), .val (.int i11), .unset, .unset, .unset] [(.int (g3_56_t0 i0 i7))])) target) :
    Steps p.tables e below (T.setTop (mkF m 56 #[.val (.int i0), .val (.int i1), .val (.int i2), .val (.int i3), .val (.int i4), .val (.long j5), .second, .val (.int i7), .val (.int i8), .val (.int i9), .val (.int i10), .val (.int i11), .unset, .unset, .unset] [])) target := by
  show Steps p.tables e below (T.setTop (mkF m 56 #[.val (.int i0), .val (.int i1), .val (.int i2), .val (.int i3), .val (.int i4), .val (.long j5), .second, .val (.int i7), .val (.int i8), .val (.int i9), .val (.int i10), .val (.int i11), .unset, .unset, .unset] [])) _
  refine XS.iload X.here hx rfl (hb hby at_56) rfl ?_
  show Steps p.tables e below (T.setTop (mkF m 58 #[.val (.int i0), .val (.int i1), .val (.int i2), .val (.int i3), .val (.int i4), .val (.long j5), .second, .val (.int i7), .val (.int i8), .val (.int i9), .val (.int i10), .val (.int i11), .unset, .unset, .unset] [(.int i7)])) _
  by_cases q58 : i7 = (0 : Int32)
  · refine XS.ifYes X.here hx rfl (pc0 := 58) (pc' := 68) rfl (hb hby at_58) rfl ((if0 _ _).trans (teq q58).1) (by decide) (by decide) ?_
    show Steps p.tables e below (T.setTop (mkF m 68 #[.val (.int i0), .val (.int i1), .val (.int i2), .val (.int i3), .val (.int i4), .val (.long j5), .second, .val (.int i7), .val (.int i8), .val (.int i9), .val (.int i10), .val (.int i11), .unset, .unset, .unset] [])) _
    refine XS.iloadN X.here hx rfl (hb hby at_68) rfl ?_
    show Steps p.tables e below (T.setTop (mkF m 69 #[.val (.int i0), .val (.int i1), .val (.int i2), .val (.int i3), .val (.int i4), .val (.long j5), .second, .val (.int i7), .val (.int i8), .val (.int i9), .val (.int i10), .val (.int i11), .unset, .unset, .unset] [(.int i0)])) _
    refine XS.iconst X.here hx rfl (hb hby at_69) ?_
    show Steps p.tables e below (T.setTop (mkF m 70 #[.val (.int i0), .val (.int i1), .val (.int i2), .val (.int i3), .val (.int i4), .val (.long j5), .second, .val (.int i7), .val (.int i8), .val (.int i9), .val (.int i10), .val (.int i11), .unset, .unset, .unset] [(.int (4 : Int32)), (.int i0)])) _
    refine XS.iushr X.here hx rfl (hb hby at_70) rfl ?_
    show Steps p.tables e below (T.setTop (mkF m 71 #[.val (.int i0), .val (.int i1), .val (.int i2), .val (.int i3), .val (.int i4), .val (.long j5), .second, .val (.int i7), .val (.int i8), .val (.int i9), .val (.int i10), .val (.int i11), .unset, .unset, .unset] [(.int ((i0.toUInt32 >>> ((4 : Int32) &&& 31).toUInt32).toInt32))])) _
    refine XS.bipush X.here hx rfl (hb hby at_71) ?_
    show Steps p.tables e below (T.setTop (mkF m 73 #[.val (.int i0), .val (.int i1), .val (.int i2), .val (.int i3), .val (.int i4), .val (.long j5), .second, .val (.int i7), .val (.int i8), .val (.int i9), .val (.int i10), .val (.int i11), .unset, .unset, .unset] [(.int (7 : Int32)), (.int ((i0.toUInt32 >>> ((4 : Int32) &&& 31).toUInt32).toInt32))])) _
    refine XS.iand X.here hx rfl (hb hby at_73) rfl ?_
    have e_t0 : (g3_56_t0 i0 i7) = (((i0.toUInt32 >>> ((4 : Int32) &&& 31).toUInt32).toInt32) &&& (7 : Int32)) := by unfold g3_56_t0; rw [if_pos q58]
    rw [e_t0] at k
    exact k
  · refine XS.ifNo X.here hx rfl (hb hby at_58) rfl ((if0 _ _).trans (feq q58).1) ?_
    show Steps p.tables e below (T.setTop (mkF m 61 #[.val (.int i0), .val (.int i1), .val (.int i2), .val (.int i3), .val (.int i4), .val (.long j5), .second, .val (.int i7), .val (.int i8), .val (.int i9), .val (.int i10), .val (.int i11), .unset, .unset, .unset] [])) _
    refine XS.iloadN X.here hx rfl (hb hby at_61) rfl ?_
    show Steps p.tables e below (T.setTop (mkF m 62 #[.val (.int i0), .val (.int i1), .val (.int i2), .val (.int i3), .val (.int i4), .val (.long j5), .second, .val (.int i7), .val (.int i8), .val (.int i9), .val (.int i10), .val (.int i11), .unset, .unset, .unset] [(.int i0)])) _
    refine XS.bipush X.here hx rfl (hb hby at_62) ?_
    show Steps p.tables e below (T.setTop (mkF m 64 #[.val (.int i0), .val (.int i1), .val (.int i2), .val (.int i3), .val (.int i4), .val (.long j5), .second, .val (.int i7), .val (.int i8), .val (.int i9), .val (.int i10), .val (.int i11), .unset, .unset, .unset] [(.int (7 : Int32)), (.int i0)])) _
    refine XS.iand X.here hx rfl (hb hby at_64) rfl ?_
    show Steps p.tables e below (T.setTop (mkF m 65 #[.val (.int i0), .val (.int i1), .val (.int i2), .val (.int i3), .val (.int i4), .val (.long j5), .second, .val (.int i7), .val (.int i8), .val (.int i9), .val (.int i10), .val (.int i11), .unset, .unset, .unset] [(.int (i0 &&& (7 : Int32)))])) _
    refine XS.goto X.here hx rfl (pc0 := 65) (pc' := 74) rfl (hb hby at_65) (by decide) (by decide) ?_
    have e_t0 : (g3_56_t0 i0 i7) = (i0 &&& (7 : Int32)) := by unfold g3_56_t0; rw [if_neg q58]
    rw [e_t0] at k
    exact k
def g4_76_l13 (i2 : Int32) (i3 : Int32) (i4 : Int32) (i9 : Int32) (i10 : Int32) (i12 : Int32) : Int32 := if i12 = (1 : Int32) then (((i2 + i9) - i10) + (((i3 - i2) - i4) / (2 : Int32))) else if i12 = (5 : Int32) then ((i3 - i4) - i10) else (i2 + i9)
def g4_76_l14 (i2 : Int32) (i3 : Int32) (i4 : Int32) (i12 : Int32) : Slot := if i12 = (1 : Int32) then .val (.int ((i3 - i2) - i4)) else if i12 = (5 : Int32) then .unset else .unset
set_option maxRecDepth 65536 in
set_option maxHeartbeats 40000000 in
theorem g4_76 {p : Program} {l : Launch} {e : Env} {R : Room} {s : State} {m : MethodId} {args : Array Value} {below : List Frame} {meth : Method} {c : Code} {T : State} {locs : List Loc} {cells slots : Nat} {Z : State} {a0 : Array Value} {target : State} (i0 : Int32) (i1 : Int32) (i2 : Int32) (i3 : Int32) (i4 : Int32) (j5 : Int64) (i7 : Int32) (i8 : Int32) (i9 : Int32) (i10 : Int32) (i11 : Int32) (i12 : Int32) (X : Stand p l e R s m args below meth c T locs cells slots) (hx : p.tables.exec = Jvm.exec) (hZ : Z.Warmed39 s.vm) (hw : ∀ d ∈ tables_1, d.before a0 Z = true) (hby : c.code = code) (hown : s.vm.findClass "com/example/tapeline/tapeline/GravityPlacePinLaw" = some m.cls) (k : Steps p.tables e below (T.setTop (mkF m 131 #[.val (.int i0), .val (.int i1), .val (.int i2), .val (.int i3), .val (.int i4), .val (.long j5), .second, .val (.int i7), .val (.int i8), .val (.int i9), .val (.int i10), .val (.int i11), .val (.int i12), .val (.int (g4_76_l13 i2 i3 i4 i9 i10 i12)), (g4_76_l14 i2 i3 i4 i12)] [])) target) :
    Steps p.tables e below (T.setTop (mkF m 76 #[.val (.int i0), .val (.int i1), .val (.int i2), .val (.int i3), .val (.int i4), .val (.long j5), .second, .val (.int i7), .val (.int i8), .val (.int i9), .val (.int i10), .val (.int i11), .val (.int i12), .unset, .unset] [])) target := by
  show Steps p.tables e below (T.setTop (mkF m 76 #[.val (.int i0), .val (.int i1), .val (.int i2), .val (.int i3), .val (.int i4), .val (.long j5), .second, .val (.int i7), .val (.int i8), .val (.int i9), .val (.int i10), .val (.int i11), .val (.int i12), .unset, .unset] [])) _
  refine XS.iload X.here hx rfl (hb hby at_76) rfl ?_
  show Steps p.tables e below (T.setTop (mkF m 78 #[.val (.int i0), .val (.int i1), .val (.int i2), .val (.int i3), .val (.int i4), .val (.long j5), .second, .val (.int i7), .val (.int i8), .val (.int i9), .val (.int i10), .val (.int i11), .val (.int i12), .unset, .unset] [(.int i12)])) _
  refine XS.iconst X.here hx rfl (hb hby at_78) ?_
  show Steps p.tables e below (T.setTop (mkF m 79 #[.val (.int i0), .val (.int i1), .val (.int i2), .val (.int i3), .val (.int i4), .val (.long j5), .second, .val (.int i7), .val (.int i8), .val (.int i9), .val (.int i10), .val (.int i11), .val (.int i12), .unset, .unset] [(.int (1 : Int32)), (.int i12)])) _
  by_cases q79 : i12 = (1 : Int32)
  · refine XS.icmpNo X.here hx rfl (hb hby at_79) rfl (teq q79).2 ?_
    show Steps p.tables e below (T.setTop (mkF m 82 #[.val (.int i0), .val (.int i1), .val (.int i2), .val (.int i3), .val (.int i4), .val (.long j5), .second, .val (.int i7), .val (.int i8), .val (.int i9), .val (.int i10), .val (.int i11), .val (.int i12), .unset, .unset] [])) _
    refine XS.iloadN X.here hx rfl (hb hby at_82) rfl ?_
    show Steps p.tables e below (T.setTop (mkF m 83 #[.val (.int i0), .val (.int i1), .val (.int i2), .val (.int i3), .val (.int i4), .val (.long j5), .second, .val (.int i7), .val (.int i8), .val (.int i9), .val (.int i10), .val (.int i11), .val (.int i12), .unset, .unset] [(.int i3)])) _
    refine XS.iloadN X.here hx rfl (hb hby at_83) rfl ?_
    show Steps p.tables e below (T.setTop (mkF m 84 #[.val (.int i0), .val (.int i1), .val (.int i2), .val (.int i3), .val (.int i4), .val (.long j5), .second, .val (.int i7), .val (.int i8), .val (.int i9), .val (.int i10), .val (.int i11), .val (.int i12), .unset, .unset] [(.int i2), (.int i3)])) _
    refine XS.isub X.here hx rfl (hb hby at_84) rfl ?_
    show Steps p.tables e below (T.setTop (mkF m 85 #[.val (.int i0), .val (.int i1), .val (.int i2), .val (.int i3), .val (.int i4), .val (.long j5), .second, .val (.int i7), .val (.int i8), .val (.int i9), .val (.int i10), .val (.int i11), .val (.int i12), .unset, .unset] [(.int (i3 - i2))])) _
    refine XS.iload X.here hx rfl (hb hby at_85) rfl ?_
    show Steps p.tables e below (T.setTop (mkF m 87 #[.val (.int i0), .val (.int i1), .val (.int i2), .val (.int i3), .val (.int i4), .val (.long j5), .second, .val (.int i7), .val (.int i8), .val (.int i9), .val (.int i10), .val (.int i11), .val (.int i12), .unset, .unset] [(.int i4), (.int (i3 - i2))])) _
    refine XS.isub X.here hx rfl (hb hby at_87) rfl ?_
    show Steps p.tables e below (T.setTop (mkF m 88 #[.val (.int i0), .val (.int i1), .val (.int i2), .val (.int i3), .val (.int i4), .val (.long j5), .second, .val (.int i7), .val (.int i8), .val (.int i9), .val (.int i10), .val (.int i11), .val (.int i12), .unset, .unset] [(.int ((i3 - i2) - i4))])) _
    refine XS.istore X.here hx rfl (hb hby at_88) rfl (l' := #[.val (.int i0), .val (.int i1), .val (.int i2), .val (.int i3), .val (.int i4), .val (.long j5), .second, .val (.int i7), .val (.int i8), .val (.int i9), .val (.int i10), .val (.int i11), .val (.int i12), .unset, .val (.int ((i3 - i2) - i4))]) rfl ?_
    show Steps p.tables e below (T.setTop (mkF m 90 #[.val (.int i0), .val (.int i1), .val (.int i2), .val (.int i3), .val (.int i4), .val (.long j5), .second, .val (.int i7), .val (.int i8), .val (.int i9), .val (.int i10), .val (.int i11), .val (.int i12), .unset, .val (.int ((i3 - i2) - i4))] [])) _
    refine XS.iloadN X.here hx rfl (hb hby at_90) rfl ?_
    show Steps p.tables e below (T.setTop (mkF m 91 #[.val (.int i0), .val (.int i1), .val (.int i2), .val (.int i3), .val (.int i4), .val (.long j5), .second, .val (.int i7), .val (.int i8), .val (.int i9), .val (.int i10), .val (.int i11), .val (.int i12), .unset, .val (.int ((i3 - i2) - i4))] [(.int i2)])) _
    refine XS.iload X.here hx rfl (hb hby at_91) rfl ?_
    show Steps p.tables e below (T.setTop (mkF m 93 #[.val (.int i0), .val (.int i1), .val (.int i2), .val (.int i3), .val (.int i4), .val (.long j5), .second, .val (.int i7), .val (.int i8), .val (.int i9), .val (.int i10), .val (.int i11), .val (.int i12), .unset, .val (.int ((i3 - i2) - i4))] [(.int i9), (.int i2)])) _
    refine XS.iadd X.here hx rfl (hb hby at_93) rfl ?_
    show Steps p.tables e below (T.setTop (mkF m 94 #[.val (.int i0), .val (.int i1), .val (.int i2), .val (.int i3), .val (.int i4), .val (.long j5), .second, .val (.int i7), .val (.int i8), .val (.int i9), .val (.int i10), .val (.int i11), .val (.int i12), .unset, .val (.int ((i3 - i2) - i4))] [(.int (i2 + i9))])) _
    refine XS.iload X.here hx rfl (hb hby at_94) rfl ?_
    show Steps p.tables e below (T.setTop (mkF m 96 #[.val (.int i0), .val (.int i1), .val (.int i2), .val (.int i3), .val (.int i4), .val (.long j5), .second, .val (.int i7), .val (.int i8), .val (.int i9), .val (.int i10), .val (.int i11), .val (.int i12), .unset, .val (.int ((i3 - i2) - i4))] [(.int i10), (.int (i2 + i9))])) _
    refine XS.isub X.here hx rfl (hb hby at_96) rfl ?_
    show Steps p.tables e below (T.setTop (mkF m 97 #[.val (.int i0), .val (.int i1), .val (.int i2), .val (.int i3), .val (.int i4), .val (.long j5), .second, .val (.int i7), .val (.int i8), .val (.int i9), .val (.int i10), .val (.int i11), .val (.int i12), .unset, .val (.int ((i3 - i2) - i4))] [(.int ((i2 + i9) - i10))])) _
    refine XS.iload X.here hx rfl (hb hby at_97) rfl ?_
    show Steps p.tables e below (T.setTop (mkF m 99 #[.val (.int i0), .val (.int i1), .val (.int i2), .val (.int i3), .val (.int i4), .val (.long j5), .second, .val (.int i7), .val (.int i8), .val (.int i9), .val (.int i10), .val (.int i11), .val (.int i12), .unset, .val (.int ((i3 - i2) - i4))] [(.int ((i3 - i2) - i4)), (.int ((i2 + i9) - i10))])) _
    refine XS.iconst X.here hx rfl (hb hby at_99) ?_
    show Steps p.tables e below (T.setTop (mkF m 100 #[.val (.int i0), .val (.int i1), .val (.int i2), .val (.int i3), .val (.int i4), .val (.long j5), .second, .val (.int i7), .val (.int i8), .val (.int i9), .val (.int i10), .val (.int i11), .val (.int i12), .unset, .val (.int ((i3 - i2) - i4))] [(.int (2 : Int32)), (.int ((i3 - i2) - i4)), (.int ((i2 + i9) - i10))])) _
    refine XS.idiv X.here hx rfl (hb hby at_100) rfl (by decide) ?_
    show Steps p.tables e below (T.setTop (mkF m 101 #[.val (.int i0), .val (.int i1), .val (.int i2), .val (.int i3), .val (.int i4), .val (.long j5), .second, .val (.int i7), .val (.int i8), .val (.int i9), .val (.int i10), .val (.int i11), .val (.int i12), .unset, .val (.int ((i3 - i2) - i4))] [(.int (((i3 - i2) - i4) / (2 : Int32))), (.int ((i2 + i9) - i10))])) _
    refine XS.iadd X.here hx rfl (hb hby at_101) rfl ?_
    show Steps p.tables e below (T.setTop (mkF m 102 #[.val (.int i0), .val (.int i1), .val (.int i2), .val (.int i3), .val (.int i4), .val (.long j5), .second, .val (.int i7), .val (.int i8), .val (.int i9), .val (.int i10), .val (.int i11), .val (.int i12), .unset, .val (.int ((i3 - i2) - i4))] [(.int (((i2 + i9) - i10) + (((i3 - i2) - i4) / (2 : Int32))))])) _
    refine XS.istore X.here hx rfl (hb hby at_102) rfl (l' := #[.val (.int i0), .val (.int i1), .val (.int i2), .val (.int i3), .val (.int i4), .val (.long j5), .second, .val (.int i7), .val (.int i8), .val (.int i9), .val (.int i10), .val (.int i11), .val (.int i12), .val (.int (((i2 + i9) - i10) + (((i3 - i2) - i4) / (2 : Int32)))), .val (.int ((i3 - i2) - i4))]) rfl ?_
    show Steps p.tables e below (T.setTop (mkF m 104 #[.val (.int i0), .val (.int i1), .val (.int i2), .val (.int i3), .val (.int i4), .val (.long j5), .second, .val (.int i7), .val (.int i8), .val (.int i9), .val (.int i10), .val (.int i11), .val (.int i12), .val (.int (((i2 + i9) - i10) + (((i3 - i2) - i4) / (2 : Int32)))), .val (.int ((i3 - i2) - i4))] [])) _
    refine XS.goto X.here hx rfl (pc0 := 104) (pc' := 131) rfl (hb hby at_104) (by decide) (by decide) ?_
    have e_l13 : (g4_76_l13 i2 i3 i4 i9 i10 i12) = (((i2 + i9) - i10) + (((i3 - i2) - i4) / (2 : Int32))) := by unfold g4_76_l13; rw [if_pos q79]
    rw [e_l13] at k
    have e_l14 : (g4_76_l14 i2 i3 i4 i12) = .val (.int ((i3 - i2) - i4)) := by unfold g4_76_l14; rw [if_pos q79]
    rw [e_l14] at k
    exact k
  · refine XS.icmpYes X.here hx rfl (pc0 := 79) (pc' := 107) rfl (hb hby at_79) rfl (feq q79).2 (by decide) (by decide) ?_
    show Steps p.tables e below (T.setTop (mkF m 107 #[.val (.int i0), .val (.int i1), .val (.int i2), .val (.int i3), .val (.int i4), .val (.long j5), .second, .val (.int i7), .val (.int i8), .val (.int i9), .val (.int i10), .val (.int i11), .val (.int i12), .unset, .unset] [])) _
    refine XS.iload X.here hx rfl (hb hby at_107) rfl ?_
    show Steps p.tables e below (T.setTop (mkF m 109 #[.val (.int i0), .val (.int i1), .val (.int i2), .val (.int i3), .val (.int i4), .val (.long j5), .second, .val (.int i7), .val (.int i8), .val (.int i9), .val (.int i10), .val (.int i11), .val (.int i12), .unset, .unset] [(.int i12)])) _
    refine XS.iconst X.here hx rfl (hb hby at_109) ?_
    show Steps p.tables e below (T.setTop (mkF m 110 #[.val (.int i0), .val (.int i1), .val (.int i2), .val (.int i3), .val (.int i4), .val (.long j5), .second, .val (.int i7), .val (.int i8), .val (.int i9), .val (.int i10), .val (.int i11), .val (.int i12), .unset, .unset] [(.int (5 : Int32)), (.int i12)])) _
    by_cases q110 : i12 = (5 : Int32)
    · refine XS.icmpNo X.here hx rfl (hb hby at_110) rfl (teq q110).2 ?_
      show Steps p.tables e below (T.setTop (mkF m 113 #[.val (.int i0), .val (.int i1), .val (.int i2), .val (.int i3), .val (.int i4), .val (.long j5), .second, .val (.int i7), .val (.int i8), .val (.int i9), .val (.int i10), .val (.int i11), .val (.int i12), .unset, .unset] [])) _
      refine XS.iloadN X.here hx rfl (hb hby at_113) rfl ?_
      show Steps p.tables e below (T.setTop (mkF m 114 #[.val (.int i0), .val (.int i1), .val (.int i2), .val (.int i3), .val (.int i4), .val (.long j5), .second, .val (.int i7), .val (.int i8), .val (.int i9), .val (.int i10), .val (.int i11), .val (.int i12), .unset, .unset] [(.int i3)])) _
      refine XS.iload X.here hx rfl (hb hby at_114) rfl ?_
      show Steps p.tables e below (T.setTop (mkF m 116 #[.val (.int i0), .val (.int i1), .val (.int i2), .val (.int i3), .val (.int i4), .val (.long j5), .second, .val (.int i7), .val (.int i8), .val (.int i9), .val (.int i10), .val (.int i11), .val (.int i12), .unset, .unset] [(.int i4), (.int i3)])) _
      refine XS.isub X.here hx rfl (hb hby at_116) rfl ?_
      show Steps p.tables e below (T.setTop (mkF m 117 #[.val (.int i0), .val (.int i1), .val (.int i2), .val (.int i3), .val (.int i4), .val (.long j5), .second, .val (.int i7), .val (.int i8), .val (.int i9), .val (.int i10), .val (.int i11), .val (.int i12), .unset, .unset] [(.int (i3 - i4))])) _
      refine XS.iload X.here hx rfl (hb hby at_117) rfl ?_
      show Steps p.tables e below (T.setTop (mkF m 119 #[.val (.int i0), .val (.int i1), .val (.int i2), .val (.int i3), .val (.int i4), .val (.long j5), .second, .val (.int i7), .val (.int i8), .val (.int i9), .val (.int i10), .val (.int i11), .val (.int i12), .unset, .unset] [(.int i10), (.int (i3 - i4))])) _
      refine XS.isub X.here hx rfl (hb hby at_119) rfl ?_
      show Steps p.tables e below (T.setTop (mkF m 120 #[.val (.int i0), .val (.int i1), .val (.int i2), .val (.int i3), .val (.int i4), .val (.long j5), .second, .val (.int i7), .val (.int i8), .val (.int i9), .val (.int i10), .val (.int i11), .val (.int i12), .unset, .unset] [(.int ((i3 - i4) - i10))])) _
      refine XS.istore X.here hx rfl (hb hby at_120) rfl (l' := #[.val (.int i0), .val (.int i1), .val (.int i2), .val (.int i3), .val (.int i4), .val (.long j5), .second, .val (.int i7), .val (.int i8), .val (.int i9), .val (.int i10), .val (.int i11), .val (.int i12), .val (.int ((i3 - i4) - i10)), .unset]) rfl ?_
      show Steps p.tables e below (T.setTop (mkF m 122 #[.val (.int i0), .val (.int i1), .val (.int i2), .val (.int i3), .val (.int i4), .val (.long j5), .second, .val (.int i7), .val (.int i8), .val (.int i9), .val (.int i10), .val (.int i11), .val (.int i12), .val (.int ((i3 - i4) - i10)), .unset] [])) _
      refine XS.goto X.here hx rfl (pc0 := 122) (pc' := 131) rfl (hb hby at_122) (by decide) (by decide) ?_
      have e_l13 : (g4_76_l13 i2 i3 i4 i9 i10 i12) = ((i3 - i4) - i10) := by unfold g4_76_l13; rw [if_neg q79, if_pos q110]
      rw [e_l13] at k
      have e_l14 : (g4_76_l14 i2 i3 i4 i12) = .unset := by unfold g4_76_l14; rw [if_neg q79, if_pos q110]
      rw [e_l14] at k
      exact k
    · refine XS.icmpYes X.here hx rfl (pc0 := 110) (pc' := 125) rfl (hb hby at_110) rfl (feq q110).2 (by decide) (by decide) ?_
      show Steps p.tables e below (T.setTop (mkF m 125 #[.val (.int i0), .val (.int i1), .val (.int i2), .val (.int i3), .val (.int i4), .val (.long j5), .second, .val (.int i7), .val (.int i8), .val (.int i9), .val (.int i10), .val (.int i11), .val (.int i12), .unset, .unset] [])) _
      refine XS.iloadN X.here hx rfl (hb hby at_125) rfl ?_
      show Steps p.tables e below (T.setTop (mkF m 126 #[.val (.int i0), .val (.int i1), .val (.int i2), .val (.int i3), .val (.int i4), .val (.long j5), .second, .val (.int i7), .val (.int i8), .val (.int i9), .val (.int i10), .val (.int i11), .val (.int i12), .unset, .unset] [(.int i2)])) _
      refine XS.iload X.here hx rfl (hb hby at_126) rfl ?_
      show Steps p.tables e below (T.setTop (mkF m 128 #[.val (.int i0), .val (.int i1), .val (.int i2), .val (.int i3), .val (.int i4), .val (.long j5), .second, .val (.int i7), .val (.int i8), .val (.int i9), .val (.int i10), .val (.int i11), .val (.int i12), .unset, .unset] [(.int i9), (.int i2)])) _
      refine XS.iadd X.here hx rfl (hb hby at_128) rfl ?_
      show Steps p.tables e below (T.setTop (mkF m 129 #[.val (.int i0), .val (.int i1), .val (.int i2), .val (.int i3), .val (.int i4), .val (.long j5), .second, .val (.int i7), .val (.int i8), .val (.int i9), .val (.int i10), .val (.int i11), .val (.int i12), .unset, .unset] [(.int (i2 + i9))])) _
      refine XS.istore X.here hx rfl (hb hby at_129) rfl (l' := #[.val (.int i0), .val (.int i1), .val (.int i2), .val (.int i3), .val (.int i4), .val (.long j5), .second, .val (.int i7), .val (.int i8), .val (.int i9), .val (.int i10), .val (.int i11), .val (.int i12), .val (.int (i2 + i9)), .unset]) rfl ?_
      have e_l13 : (g4_76_l13 i2 i3 i4 i9 i10 i12) = (i2 + i9) := by unfold g4_76_l13; rw [if_neg q79, if_neg q110]
      rw [e_l13] at k
      have e_l14 : (g4_76_l14 i2 i3 i4 i12) = .unset := by unfold g4_76_l14; rw [if_neg q79, if_neg q110]
      rw [e_l14] at k
      exact k
theorem own_law (p0 p1 p2 p3 p4 : Int32) (q5 : Int64) : (f1_0_r p0 (g2_13_t0 (g1_0_t0 p1)) p2 p3 p4 ((q5 >>> ((32 : Int32) &&& 0x3f).toInt64).toInt32) (q5.toInt32)) = (g4_76_l13 p2 p3 p4 ((q5 >>> ((32 : Int32) &&& 0x3f).toInt64).toInt32) (q5.toInt32) (g3_56_t0 p0 (g1_0_t0 p1))) := by
  generalize ((q5 >>> ((32 : Int32) &&& 0x3f).toInt64).toInt32) = sm
  generalize (q5.toInt32) = em
  unfold g1_0_t0
  by_cases h : (p1 &&& (1 : Int32)) = (0 : Int32)
  · rw [if_pos h]
    rw [show g2_13_t0 (0 : Int32) = 112 from rfl, show g3_56_t0 p0 (0 : Int32) = (((p0.toUInt32 >>> ((4 : Int32) &&& 31).toUInt32).toInt32) &&& (7 : Int32)) from rfl]
    have e := c_and ((p0.toUInt32 >>> ((4 : Int32) &&& 31).toUInt32).toInt32) 7 (by decide)
    have hh := own_112 p0
    unfold f1_0_r g4_76_l13 f1_44_r f1_63_r
    generalize (((p0.toUInt32 >>> ((4 : Int32) &&& 31).toUInt32).toInt32) &&& (7 : Int32)) = b at *
    rcases own_c8 e with rfl | rfl | rfl | rfl | rfl | rfl | rfl | rfl
    · rw [own_16 p0 0 0 rfl hh 0 rfl]; rfl
    · rw [own_16 p0 1 1 rfl hh 16 rfl, own_mid]; rfl
    · rw [own_16 p0 2 2 rfl hh 32 rfl]; rfl
    · rw [own_16 p0 3 3 rfl hh 48 rfl]; rfl
    · rw [own_16 p0 4 4 rfl hh 64 rfl]; rfl
    · rw [own_16 p0 5 5 rfl hh 80 rfl]; rfl
    · rw [own_16 p0 6 6 rfl hh 96 rfl]; rfl
    · rw [own_16 p0 7 7 rfl hh 112 rfl]; rfl
  · rw [if_neg h]
    rw [show g2_13_t0 (1 : Int32) = 7 from rfl, show g3_56_t0 p0 (1 : Int32) = (p0 &&& (7 : Int32)) from rfl]
    have e := c_and p0 7 (by decide)
    unfold f1_0_r g4_76_l13 f1_44_r f1_63_r
    generalize (p0 &&& (7 : Int32)) = b at *
    rcases own_c8 e with rfl | rfl | rfl | rfl | rfl | rfl | rfl | rfl
    · rfl
    · rw [own_mid]; rfl
    · rfl
    · rfl
    · rfl
    · rfl
    · rfl
    · rfl
theorem pn_1 : plainName "com/example/tapeline/tapeline/GravityPlacePinLaw" = true := by first | (simp [plainName, overriddenIn]; done) | decide +kernel
theorem ef_rm0 (m : MethodId) (x0 : Int32) (x1 : Int32) (x2 : Int32) (x3 : Int32) (x4 : Int32) (x5 : Int64) : entryFrame m #[(.int x0), (.int x1), (.int x2), (.int x3), (.int x4), (.long x5)] maxLocals = mkF m 0 #[.val (.int x0), .val (.int x1), .val (.int x2), .val (.int x3), .val (.int x4), .val (.long x5), .second, .unset, .unset, .unset, .unset, .unset, .unset, .unset, .unset] [] := by first | (simp [entryFrame, mkF, argsToLocals, Value.category, maxLocals]; done) | rfl
def Q_rm0 (Z : State) (p0 : Int32) (p1 : Int32) (p2 : Int32) (p3 : Int32) (p4 : Int32) (q5 : Int64) (h0 : Heap) (n0 : Nat) (v : Option Value) (h : Heap) (L : List Loc) : Prop := v = some (.int (1 : Int32)) ∧ Fr n0 L
set_option maxRecDepth 65536 in
set_option maxHeartbeats 40000000 in
theorem rm0 (l : Launch) (Z : State) (a0 : Array Value) (hw : ∀ d ∈ tables_1, d.before a0 Z = true) (ws : List Jvm.Cond) (p0 : Int32) (p1 : Int32) (p2 : Int32) (p3 : Int32) (p4 : Int32) (q5 : Int64) (h0 : Heap) (n0 : Nat) (Z0 : n0 ≤ h0.size) :
    MetFree l x (head1 (Jvm.Cond.code x code maxLocals ret :: ws) room_1) (fun a U => a = #[(.int p0), (.int p1), (.int p2), (.int p3), (.int p4), (.long q5)] ∧ Z.Warmed39 U.vm ∧ U.heap = h0) (fun _ _ _ _ _ => True) (fun _ U o U' => ∃ v L, o = .returned v ∧ Q_rm0 Z p0 p1 p2 p3 p4 q5 h0 n0 v U'.heap L ∧ FrameEnd U o U' L room_1.cells room_1.slots) := by
  refine MetFree.of_bodySF (plainFor_of_name pn_1) hisR ?_
  intro p e s m args below meth c s₁ Bd hml0 hP hK
  obtain ⟨rfl, hZ, hh⟩ := hP
  have hx := Bd.exec
  have hby := Bd.bytes
  have hml : c.maxLocals = 15 := hml0
  have hown : s.vm.findClass "com/example/tapeline/tapeline/GravityPlacePinLaw" = some m.cls := findClass_of_methodNamed Bd.named
  have hnm := (name_of_methodNamed Bd.named Bd.method).1
  have X0 : Stand p l e room_1 s m #[(.int p0), (.int p1), (.int p2), (.int p3), (.int p4), (.long q5)] below meth c s₁ [] 0 0 := Stand.of_body Bd
  have e0 : s₁.heap = h0 := by rw [← hh, Bd.state]; rfl
  have N0 := Fr.nil n0
  have c0 : ∀ t, Steps p.tables e below (s₁.setTop (mkF m 0 #[.val (.int p0), .val (.int p1), .val (.int p2), .val (.int p3), .val (.int p4), .val (.long q5), .second, .unset, .unset, .unset, .unset, .unset, .unset, .unset, .unset] [])) t → Steps p.tables e below (s₁.setTop (entryFrame m #[(.int p0), (.int p1), (.int p2), (.int p3), (.int p4), (.long q5)] maxLocals)) t := fun t k => castTop (ef_rm0 m p0 p1 p2 p3 p4 q5) k
  have c1 : ∀ t, Steps p.tables e below (s₁.setTop (mkF m 11 #[.val (.int p0), .val (.int p1), .val (.int p2), .val (.int p3), .val (.int p4), .val (.long q5), .second, .unset, .unset, .unset, .unset, .unset, .unset, .unset, .unset] [(.int (g1_0_t0 p1))])) t → Steps p.tables e below (s₁.setTop (entryFrame m #[(.int p0), (.int p1), (.int p2), (.int p3), (.int p4), (.long q5)] maxLocals)) t := fun t k => c0 t (g1_0 p0 p1 p2 p3 p4 q5 X0 hx hZ hw hby hown k)
  have c2 : ∀ t, Steps p.tables e below (s₁.setTop (mkF m 13 #[.val (.int p0), .val (.int p1), .val (.int p2), .val (.int p3), .val (.int p4), .val (.long q5), .second, .val (.int (g1_0_t0 p1)), .unset, .unset, .unset, .unset, .unset, .unset, .unset] [])) t → Steps p.tables e below (s₁.setTop (entryFrame m #[(.int p0), (.int p1), (.int p2), (.int p3), (.int p4), (.long q5)] maxLocals)) t := fun t k => c1 t (by
      show Steps p.tables e below (s₁.setTop (mkF m 11 #[.val (.int p0), .val (.int p1), .val (.int p2), .val (.int p3), .val (.int p4), .val (.long q5), .second, .unset, .unset, .unset, .unset, .unset, .unset, .unset, .unset] [(.int (g1_0_t0 p1))])) _
      refine XS.istore X0.here hx rfl (hb hby at_11) rfl (l' := #[.val (.int p0), .val (.int p1), .val (.int p2), .val (.int p3), .val (.int p4), .val (.long q5), .second, .val (.int (g1_0_t0 p1)), .unset, .unset, .unset, .unset, .unset, .unset, .unset]) rfl ?_
      exact k)
  have c3 : ∀ t, Steps p.tables e below (s₁.setTop (mkF m 25 #[.val (.int p0), .val (.int p1), .val (.int p2), .val (.int p3), .val (.int p4), .val (.long q5), .second, .val (.int (g1_0_t0 p1)), .unset, .unset, .unset, .unset, .unset, .unset, .unset] [(.int (g2_13_t0 (g1_0_t0 p1)))])) t → Steps p.tables e below (s₁.setTop (entryFrame m #[(.int p0), (.int p1), (.int p2), (.int p3), (.int p4), (.long q5)] maxLocals)) t := fun t k => c2 t (g2_13 p0 p1 p2 p3 p4 q5 (g1_0_t0 p1) X0 hx hZ hw hby hown k)
  have c4 : ∀ t, Steps p.tables e below (s₁.setTop (mkF m 51 #[.val (.int p0), .val (.int p1), .val (.int p2), .val (.int p3), .val (.int p4), .val (.long q5), .second, .val (.int (g1_0_t0 p1)), .val (.int (g2_13_t0 (g1_0_t0 p1))), .val (.int ((q5 >>> ((32 : Int32) &&& 0x3f).toInt64).toInt32)), .val (.int (q5.toInt32)), .unset, .unset, .unset, .unset] [(.int (q5.toInt32)), (.int ((q5 >>> ((32 : Int32) &&& 0x3f).toInt64).toInt32)), (.int p4), (.int p3), (.int p2), (.int (g2_13_t0 (g1_0_t0 p1))), (.int p0)])) t → Steps p.tables e below (s₁.setTop (entryFrame m #[(.int p0), (.int p1), (.int p2), (.int p3), (.int p4), (.long q5)] maxLocals)) t := fun t k => c3 t (by
      show Steps p.tables e below (s₁.setTop (mkF m 25 #[.val (.int p0), .val (.int p1), .val (.int p2), .val (.int p3), .val (.int p4), .val (.long q5), .second, .val (.int (g1_0_t0 p1)), .unset, .unset, .unset, .unset, .unset, .unset, .unset] [(.int (g2_13_t0 (g1_0_t0 p1)))])) _
      refine XS.istore X0.here hx rfl (hb hby at_25) rfl (l' := #[.val (.int p0), .val (.int p1), .val (.int p2), .val (.int p3), .val (.int p4), .val (.long q5), .second, .val (.int (g1_0_t0 p1)), .val (.int (g2_13_t0 (g1_0_t0 p1))), .unset, .unset, .unset, .unset, .unset, .unset]) rfl ?_
      show Steps p.tables e below (s₁.setTop (mkF m 27 #[.val (.int p0), .val (.int p1), .val (.int p2), .val (.int p3), .val (.int p4), .val (.long q5), .second, .val (.int (g1_0_t0 p1)), .val (.int (g2_13_t0 (g1_0_t0 p1))), .unset, .unset, .unset, .unset, .unset, .unset] [])) _
      refine XS.lload X0.here hx rfl (hb hby at_27) rfl ?_
      show Steps p.tables e below (s₁.setTop (mkF m 29 #[.val (.int p0), .val (.int p1), .val (.int p2), .val (.int p3), .val (.int p4), .val (.long q5), .second, .val (.int (g1_0_t0 p1)), .val (.int (g2_13_t0 (g1_0_t0 p1))), .unset, .unset, .unset, .unset, .unset, .unset] [(.long q5)])) _
      refine XS.bipush X0.here hx rfl (hb hby at_29) ?_
      show Steps p.tables e below (s₁.setTop (mkF m 31 #[.val (.int p0), .val (.int p1), .val (.int p2), .val (.int p3), .val (.int p4), .val (.long q5), .second, .val (.int (g1_0_t0 p1)), .val (.int (g2_13_t0 (g1_0_t0 p1))), .unset, .unset, .unset, .unset, .unset, .unset] [(.int (32 : Int32)), (.long q5)])) _
      refine XS.lshr X0.here hx rfl (hb hby at_31) rfl ?_
      show Steps p.tables e below (s₁.setTop (mkF m 32 #[.val (.int p0), .val (.int p1), .val (.int p2), .val (.int p3), .val (.int p4), .val (.long q5), .second, .val (.int (g1_0_t0 p1)), .val (.int (g2_13_t0 (g1_0_t0 p1))), .unset, .unset, .unset, .unset, .unset, .unset] [(.long (q5 >>> ((32 : Int32) &&& 0x3f).toInt64))])) _
      refine XS.l2i X0.here hx rfl (hb hby at_32) rfl ?_
      show Steps p.tables e below (s₁.setTop (mkF m 33 #[.val (.int p0), .val (.int p1), .val (.int p2), .val (.int p3), .val (.int p4), .val (.long q5), .second, .val (.int (g1_0_t0 p1)), .val (.int (g2_13_t0 (g1_0_t0 p1))), .unset, .unset, .unset, .unset, .unset, .unset] [(.int ((q5 >>> ((32 : Int32) &&& 0x3f).toInt64).toInt32))])) _
      refine XS.istore X0.here hx rfl (hb hby at_33) rfl (l' := #[.val (.int p0), .val (.int p1), .val (.int p2), .val (.int p3), .val (.int p4), .val (.long q5), .second, .val (.int (g1_0_t0 p1)), .val (.int (g2_13_t0 (g1_0_t0 p1))), .val (.int ((q5 >>> ((32 : Int32) &&& 0x3f).toInt64).toInt32)), .unset, .unset, .unset, .unset, .unset]) rfl ?_
      show Steps p.tables e below (s₁.setTop (mkF m 35 #[.val (.int p0), .val (.int p1), .val (.int p2), .val (.int p3), .val (.int p4), .val (.long q5), .second, .val (.int (g1_0_t0 p1)), .val (.int (g2_13_t0 (g1_0_t0 p1))), .val (.int ((q5 >>> ((32 : Int32) &&& 0x3f).toInt64).toInt32)), .unset, .unset, .unset, .unset, .unset] [])) _
      refine XS.lload X0.here hx rfl (hb hby at_35) rfl ?_
      show Steps p.tables e below (s₁.setTop (mkF m 37 #[.val (.int p0), .val (.int p1), .val (.int p2), .val (.int p3), .val (.int p4), .val (.long q5), .second, .val (.int (g1_0_t0 p1)), .val (.int (g2_13_t0 (g1_0_t0 p1))), .val (.int ((q5 >>> ((32 : Int32) &&& 0x3f).toInt64).toInt32)), .unset, .unset, .unset, .unset, .unset] [(.long q5)])) _
      refine XS.l2i X0.here hx rfl (hb hby at_37) rfl ?_
      show Steps p.tables e below (s₁.setTop (mkF m 38 #[.val (.int p0), .val (.int p1), .val (.int p2), .val (.int p3), .val (.int p4), .val (.long q5), .second, .val (.int (g1_0_t0 p1)), .val (.int (g2_13_t0 (g1_0_t0 p1))), .val (.int ((q5 >>> ((32 : Int32) &&& 0x3f).toInt64).toInt32)), .unset, .unset, .unset, .unset, .unset] [(.int (q5.toInt32))])) _
      refine XS.istore X0.here hx rfl (hb hby at_38) rfl (l' := #[.val (.int p0), .val (.int p1), .val (.int p2), .val (.int p3), .val (.int p4), .val (.long q5), .second, .val (.int (g1_0_t0 p1)), .val (.int (g2_13_t0 (g1_0_t0 p1))), .val (.int ((q5 >>> ((32 : Int32) &&& 0x3f).toInt64).toInt32)), .val (.int (q5.toInt32)), .unset, .unset, .unset, .unset]) rfl ?_
      show Steps p.tables e below (s₁.setTop (mkF m 40 #[.val (.int p0), .val (.int p1), .val (.int p2), .val (.int p3), .val (.int p4), .val (.long q5), .second, .val (.int (g1_0_t0 p1)), .val (.int (g2_13_t0 (g1_0_t0 p1))), .val (.int ((q5 >>> ((32 : Int32) &&& 0x3f).toInt64).toInt32)), .val (.int (q5.toInt32)), .unset, .unset, .unset, .unset] [])) _
      refine XS.iloadN X0.here hx rfl (hb hby at_40) rfl ?_
      show Steps p.tables e below (s₁.setTop (mkF m 41 #[.val (.int p0), .val (.int p1), .val (.int p2), .val (.int p3), .val (.int p4), .val (.long q5), .second, .val (.int (g1_0_t0 p1)), .val (.int (g2_13_t0 (g1_0_t0 p1))), .val (.int ((q5 >>> ((32 : Int32) &&& 0x3f).toInt64).toInt32)), .val (.int (q5.toInt32)), .unset, .unset, .unset, .unset] [(.int p0)])) _
      refine XS.iload X0.here hx rfl (hb hby at_41) rfl ?_
      show Steps p.tables e below (s₁.setTop (mkF m 43 #[.val (.int p0), .val (.int p1), .val (.int p2), .val (.int p3), .val (.int p4), .val (.long q5), .second, .val (.int (g1_0_t0 p1)), .val (.int (g2_13_t0 (g1_0_t0 p1))), .val (.int ((q5 >>> ((32 : Int32) &&& 0x3f).toInt64).toInt32)), .val (.int (q5.toInt32)), .unset, .unset, .unset, .unset] [(.int (g2_13_t0 (g1_0_t0 p1))), (.int p0)])) _
      refine XS.iloadN X0.here hx rfl (hb hby at_43) rfl ?_
      show Steps p.tables e below (s₁.setTop (mkF m 44 #[.val (.int p0), .val (.int p1), .val (.int p2), .val (.int p3), .val (.int p4), .val (.long q5), .second, .val (.int (g1_0_t0 p1)), .val (.int (g2_13_t0 (g1_0_t0 p1))), .val (.int ((q5 >>> ((32 : Int32) &&& 0x3f).toInt64).toInt32)), .val (.int (q5.toInt32)), .unset, .unset, .unset, .unset] [(.int p2), (.int (g2_13_t0 (g1_0_t0 p1))), (.int p0)])) _
      refine XS.iloadN X0.here hx rfl (hb hby at_44) rfl ?_
      show Steps p.tables e below (s₁.setTop (mkF m 45 #[.val (.int p0), .val (.int p1), .val (.int p2), .val (.int p3), .val (.int p4), .val (.long q5), .second, .val (.int (g1_0_t0 p1)), .val (.int (g2_13_t0 (g1_0_t0 p1))), .val (.int ((q5 >>> ((32 : Int32) &&& 0x3f).toInt64).toInt32)), .val (.int (q5.toInt32)), .unset, .unset, .unset, .unset] [(.int p3), (.int p2), (.int (g2_13_t0 (g1_0_t0 p1))), (.int p0)])) _
      refine XS.iload X0.here hx rfl (hb hby at_45) rfl ?_
      show Steps p.tables e below (s₁.setTop (mkF m 47 #[.val (.int p0), .val (.int p1), .val (.int p2), .val (.int p3), .val (.int p4), .val (.long q5), .second, .val (.int (g1_0_t0 p1)), .val (.int (g2_13_t0 (g1_0_t0 p1))), .val (.int ((q5 >>> ((32 : Int32) &&& 0x3f).toInt64).toInt32)), .val (.int (q5.toInt32)), .unset, .unset, .unset, .unset] [(.int p4), (.int p3), (.int p2), (.int (g2_13_t0 (g1_0_t0 p1))), (.int p0)])) _
      refine XS.iload X0.here hx rfl (hb hby at_47) rfl ?_
      show Steps p.tables e below (s₁.setTop (mkF m 49 #[.val (.int p0), .val (.int p1), .val (.int p2), .val (.int p3), .val (.int p4), .val (.long q5), .second, .val (.int (g1_0_t0 p1)), .val (.int (g2_13_t0 (g1_0_t0 p1))), .val (.int ((q5 >>> ((32 : Int32) &&& 0x3f).toInt64).toInt32)), .val (.int (q5.toInt32)), .unset, .unset, .unset, .unset] [(.int ((q5 >>> ((32 : Int32) &&& 0x3f).toInt64).toInt32)), (.int p4), (.int p3), (.int p2), (.int (g2_13_t0 (g1_0_t0 p1))), (.int p0)])) _
      refine XS.iload X0.here hx rfl (hb hby at_49) rfl ?_
      exact k)
  obtain ⟨_, _, ⟨T5, L5, k5, n5⟩, -, X5, ⟨Lc5, hQ5, l5, y5, z5⟩, st5⟩ := Jvm.LawKit.callS X0 hx (y := (⟨"com/example/tapeline/tapeline/Gravity", "place", "(IIIIIII)I"⟩ : MethodName)) hown (mvT hZ (hw _ (List.mem_of_getElem? (i := 0) rfl))) (mvT hZ (hw _ (List.mem_of_getElem? (i := 1) rfl))) (mvT hZ (hw _ (List.mem_of_getElem? (i := 2) rfl))) (mvT hZ (hw _ (List.mem_of_getElem? (i := 3) rfl))) (by decide) (backOf (W := 0) (rm1 l Z a0 hw [] p0 (g2_13_t0 (g1_0_t0 p1)) p2 p3 p4 ((q5 >>> ((32 : Int32) &&& 0x3f).toInt64).toInt32) (q5.toInt32) h0 n0 Z0) hZ (hw _ (List.mem_of_getElem? (i := 3) rfl)) (hw _ (List.mem_of_getElem? (i := 2) rfl)) (by decide) (by decide)) (g := (mkF m 51 #[.val (.int p0), .val (.int p1), .val (.int p2), .val (.int p3), .val (.int p4), .val (.long q5), .second, .val (.int (g1_0_t0 p1)), .val (.int (g2_13_t0 (g1_0_t0 p1))), .val (.int ((q5 >>> ((32 : Int32) &&& 0x3f).toInt64).toInt32)), .val (.int (q5.toInt32)), .unset, .unset, .unset, .unset] [(.int (q5.toInt32)), (.int ((q5 >>> ((32 : Int32) &&& 0x3f).toInt64).toInt32)), (.int p4), (.int p3), (.int p2), (.int (g2_13_t0 (g1_0_t0 p1))), (.int p0)])) rfl (by rw [hml]; rfl) (argsL := [(.int p0), (.int (g2_13_t0 (g1_0_t0 p1))), (.int p2), (.int p3), (.int p4), (.int ((q5 >>> ((32 : Int32) &&& 0x3f).toInt64).toInt32)), (.int (q5.toInt32))]) (rest := []) (lenOf pd_0 rfl) rfl (by show 2 * 0 + _ ≤ _; exact Nat.le_of_eq rfl) (hb hby at_51) (fun _ _ => ⟨rfl, e0, (by decide : 0 + 0 ≤ _), (by decide : 0 + 0 ≤ _)⟩)
  dsimp only [Pt.U, Pt.locs, Pt.cells, Pt.slots] at X5 l5 y5 z5 st5 hQ5
  subst l5 y5 z5
  obtain ⟨rfl, N5q, e5⟩ := hQ5
  have N5 := Fr.app N0 N5q
  have c6 : ∀ t, Steps p.tables e below (T5.setTop (mkF m 54 #[.val (.int p0), .val (.int p1), .val (.int p2), .val (.int p3), .val (.int p4), .val (.long q5), .second, .val (.int (g1_0_t0 p1)), .val (.int (g2_13_t0 (g1_0_t0 p1))), .val (.int ((q5 >>> ((32 : Int32) &&& 0x3f).toInt64).toInt32)), .val (.int (q5.toInt32)), .unset, .unset, .unset, .unset] [(.int (f1_0_r p0 (g2_13_t0 (g1_0_t0 p1)) p2 p3 p4 ((q5 >>> ((32 : Int32) &&& 0x3f).toInt64).toInt32) (q5.toInt32)))])) t → Steps p.tables e below (s₁.setTop (entryFrame m #[(.int p0), (.int p1), (.int p2), (.int p3), (.int p4), (.long q5)] maxLocals)) t := fun t k => c4 t (st5 t k)
  have c7 : ∀ t, Steps p.tables e below (T5.setTop (mkF m 56 #[.val (.int p0), .val (.int p1), .val (.int p2), .val (.int p3), .val (.int p4), .val (.long q5), .second, .val (.int (g1_0_t0 p1)), .val (.int (g2_13_t0 (g1_0_t0 p1))), .val (.int ((q5 >>> ((32 : Int32) &&& 0x3f).toInt64).toInt32)), .val (.int (q5.toInt32)), .val (.int (f1_0_r p0 (g2_13_t0 (g1_0_t0 p1)) p2 p3 p4 ((q5 >>> ((32 : Int32) &&& 0x3f).toInt64).toInt32) (q5.toInt32))), .unset, .unset, .unset] [])) t → Steps p.tables e below (s₁.setTop (entryFrame m #[(.int p0), (.int p1), (.int p2), (.int p3), (.int p4), (.long q5)] maxLocals)) t := fun t k => c6 t (by
      show Steps p.tables e below (T5.setTop (mkF m 54 #[.val (.int p0), .val (.int p1), .val (.int p2), .val (.int p3), .val (.int p4), .val (.long q5), .second, .val (.int (g1_0_t0 p1)), .val (.int (g2_13_t0 (g1_0_t0 p1))), .val (.int ((q5 >>> ((32 : Int32) &&& 0x3f).toInt64).toInt32)), .val (.int (q5.toInt32)), .unset, .unset, .unset, .unset] [(.int (f1_0_r p0 (g2_13_t0 (g1_0_t0 p1)) p2 p3 p4 ((q5 >>> ((32 : Int32) &&& 0x3f).toInt64).toInt32) (q5.toInt32)))])) _
      refine XS.istore X5.here hx rfl (hb hby at_54) rfl (l' := #[.val (.int p0), .val (.int p1), .val (.int p2), .val (.int p3), .val (.int p4), .val (.long q5), .second, .val (.int (g1_0_t0 p1)), .val (.int (g2_13_t0 (g1_0_t0 p1))), .val (.int ((q5 >>> ((32 : Int32) &&& 0x3f).toInt64).toInt32)), .val (.int (q5.toInt32)), .val (.int (f1_0_r p0 (g2_13_t0 (g1_0_t0 p1)) p2 p3 p4 ((q5 >>> ((32 : Int32) &&& 0x3f).toInt64).toInt32) (q5.toInt32))), .unset, .unset, .unset]) rfl ?_
      exact k)
  have c8 : ∀ t, Steps p.tables e below (T5.setTop (mkF m 74 #[.val (.int p0), .val (.int p1), .val (.int p2), .val (.int p3), .val (.int p4), .val (.long q5), .second, .val (.int (g1_0_t0 p1)), .val (.int (g2_13_t0 (g1_0_t0 p1))), .val (.int ((q5 >>> ((32 : Int32) &&& 0x3f).toInt64).toInt32)), .val (.int (q5.toInt32)), .val (.int (f1_0_r p0 (g2_13_t0 (g1_0_t0 p1)) p2 p3 p4 ((q5 >>> ((32 : Int32) &&& 0x3f).toInt64).toInt32) (q5.toInt32))), .unset, .unset, .unset] [(.int (g3_56_t0 p0 (g1_0_t0 p1)))])) t → Steps p.tables e below (s₁.setTop (entryFrame m #[(.int p0), (.int p1), (.int p2), (.int p3), (.int p4), (.long q5)] maxLocals)) t := fun t k => c7 t (g3_56 p0 p1 p2 p3 p4 q5 (g1_0_t0 p1) (g2_13_t0 (g1_0_t0 p1)) ((q5 >>> ((32 : Int32) &&& 0x3f).toInt64).toInt32) (q5.toInt32) (f1_0_r p0 (g2_13_t0 (g1_0_t0 p1)) p2 p3 p4 ((q5 >>> ((32 : Int32) &&& 0x3f).toInt64).toInt32) (q5.toInt32)) X5 hx hZ hw hby hown k)
  have c9 : ∀ t, Steps p.tables e below (T5.setTop (mkF m 76 #[.val (.int p0), .val (.int p1), .val (.int p2), .val (.int p3), .val (.int p4), .val (.long q5), .second, .val (.int (g1_0_t0 p1)), .val (.int (g2_13_t0 (g1_0_t0 p1))), .val (.int ((q5 >>> ((32 : Int32) &&& 0x3f).toInt64).toInt32)), .val (.int (q5.toInt32)), .val (.int (f1_0_r p0 (g2_13_t0 (g1_0_t0 p1)) p2 p3 p4 ((q5 >>> ((32 : Int32) &&& 0x3f).toInt64).toInt32) (q5.toInt32))), .val (.int (g3_56_t0 p0 (g1_0_t0 p1))), .unset, .unset] [])) t → Steps p.tables e below (s₁.setTop (entryFrame m #[(.int p0), (.int p1), (.int p2), (.int p3), (.int p4), (.long q5)] maxLocals)) t := fun t k => c8 t (by
      show Steps p.tables e below (T5.setTop (mkF m 74 #[.val (.int p0), .val (.int p1), .val (.int p2), .val (.int p3), .val (.int p4), .val (.long q5), .second, .val (.int (g1_0_t0 p1)), .val (.int (g2_13_t0 (g1_0_t0 p1))), .val (.int ((q5 >>> ((32 : Int32) &&& 0x3f).toInt64).toInt32)), .val (.int (q5.toInt32)), .val (.int (f1_0_r p0 (g2_13_t0 (g1_0_t0 p1)) p2 p3 p4 ((q5 >>> ((32 : Int32) &&& 0x3f).toInt64).toInt32) (q5.toInt32))), .unset, .unset, .unset] [(.int (g3_56_t0 p0 (g1_0_t0 p1)))])) _
      refine XS.istore X5.here hx rfl (hb hby at_74) rfl (l' := #[.val (.int p0), .val (.int p1), .val (.int p2), .val (.int p3), .val (.int p4), .val (.long q5), .second, .val (.int (g1_0_t0 p1)), .val (.int (g2_13_t0 (g1_0_t0 p1))), .val (.int ((q5 >>> ((32 : Int32) &&& 0x3f).toInt64).toInt32)), .val (.int (q5.toInt32)), .val (.int (f1_0_r p0 (g2_13_t0 (g1_0_t0 p1)) p2 p3 p4 ((q5 >>> ((32 : Int32) &&& 0x3f).toInt64).toInt32) (q5.toInt32))), .val (.int (g3_56_t0 p0 (g1_0_t0 p1))), .unset, .unset]) rfl ?_
      exact k)
  have c10 : ∀ t, Steps p.tables e below (T5.setTop (mkF m 131 #[.val (.int p0), .val (.int p1), .val (.int p2), .val (.int p3), .val (.int p4), .val (.long q5), .second, .val (.int (g1_0_t0 p1)), .val (.int (g2_13_t0 (g1_0_t0 p1))), .val (.int ((q5 >>> ((32 : Int32) &&& 0x3f).toInt64).toInt32)), .val (.int (q5.toInt32)), .val (.int (f1_0_r p0 (g2_13_t0 (g1_0_t0 p1)) p2 p3 p4 ((q5 >>> ((32 : Int32) &&& 0x3f).toInt64).toInt32) (q5.toInt32))), .val (.int (g3_56_t0 p0 (g1_0_t0 p1))), .val (.int (g4_76_l13 p2 p3 p4 ((q5 >>> ((32 : Int32) &&& 0x3f).toInt64).toInt32) (q5.toInt32) (g3_56_t0 p0 (g1_0_t0 p1)))), (g4_76_l14 p2 p3 p4 (g3_56_t0 p0 (g1_0_t0 p1)))] [])) t → Steps p.tables e below (s₁.setTop (entryFrame m #[(.int p0), (.int p1), (.int p2), (.int p3), (.int p4), (.long q5)] maxLocals)) t := fun t k => c9 t (g4_76 p0 p1 p2 p3 p4 q5 (g1_0_t0 p1) (g2_13_t0 (g1_0_t0 p1)) ((q5 >>> ((32 : Int32) &&& 0x3f).toInt64).toInt32) (q5.toInt32) (f1_0_r p0 (g2_13_t0 (g1_0_t0 p1)) p2 p3 p4 ((q5 >>> ((32 : Int32) &&& 0x3f).toInt64).toInt32) (q5.toInt32)) (g3_56_t0 p0 (g1_0_t0 p1)) X5 hx hZ hw hby hown k)
  have c11 : ∀ t, Steps p.tables e below (T5.setTop (mkF m 143 #[.val (.int p0), .val (.int p1), .val (.int p2), .val (.int p3), .val (.int p4), .val (.long q5), .second, .val (.int (g1_0_t0 p1)), .val (.int (g2_13_t0 (g1_0_t0 p1))), .val (.int ((q5 >>> ((32 : Int32) &&& 0x3f).toInt64).toInt32)), .val (.int (q5.toInt32)), .val (.int (f1_0_r p0 (g2_13_t0 (g1_0_t0 p1)) p2 p3 p4 ((q5 >>> ((32 : Int32) &&& 0x3f).toInt64).toInt32) (q5.toInt32))), .val (.int (g3_56_t0 p0 (g1_0_t0 p1))), .val (.int (g4_76_l13 p2 p3 p4 ((q5 >>> ((32 : Int32) &&& 0x3f).toInt64).toInt32) (q5.toInt32) (g3_56_t0 p0 (g1_0_t0 p1)))), (g4_76_l14 p2 p3 p4 (g3_56_t0 p0 (g1_0_t0 p1)))] [(.int (1 : Int32))])) t → Steps p.tables e below (s₁.setTop (entryFrame m #[(.int p0), (.int p1), (.int p2), (.int p3), (.int p4), (.long q5)] maxLocals)) t := fun t k => c10 t (by
      show Steps p.tables e below (T5.setTop (mkF m 131 #[.val (.int p0), .val (.int p1), .val (.int p2), .val (.int p3), .val (.int p4), .val (.long q5), .second, .val (.int (g1_0_t0 p1)), .val (.int (g2_13_t0 (g1_0_t0 p1))), .val (.int ((q5 >>> ((32 : Int32) &&& 0x3f).toInt64).toInt32)), .val (.int (q5.toInt32)), .val (.int (f1_0_r p0 (g2_13_t0 (g1_0_t0 p1)) p2 p3 p4 ((q5 >>> ((32 : Int32) &&& 0x3f).toInt64).toInt32) (q5.toInt32))), .val (.int (g3_56_t0 p0 (g1_0_t0 p1))), .val (.int (g4_76_l13 p2 p3 p4 ((q5 >>> ((32 : Int32) &&& 0x3f).toInt64).toInt32) (q5.toInt32) (g3_56_t0 p0 (g1_0_t0 p1)))), (g4_76_l14 p2 p3 p4 (g3_56_t0 p0 (g1_0_t0 p1)))] [])) _
      refine XS.iload X5.here hx rfl (hb hby at_131) rfl ?_
      show Steps p.tables e below (T5.setTop (mkF m 133 #[.val (.int p0), .val (.int p1), .val (.int p2), .val (.int p3), .val (.int p4), .val (.long q5), .second, .val (.int (g1_0_t0 p1)), .val (.int (g2_13_t0 (g1_0_t0 p1))), .val (.int ((q5 >>> ((32 : Int32) &&& 0x3f).toInt64).toInt32)), .val (.int (q5.toInt32)), .val (.int (f1_0_r p0 (g2_13_t0 (g1_0_t0 p1)) p2 p3 p4 ((q5 >>> ((32 : Int32) &&& 0x3f).toInt64).toInt32) (q5.toInt32))), .val (.int (g3_56_t0 p0 (g1_0_t0 p1))), .val (.int (g4_76_l13 p2 p3 p4 ((q5 >>> ((32 : Int32) &&& 0x3f).toInt64).toInt32) (q5.toInt32) (g3_56_t0 p0 (g1_0_t0 p1)))), (g4_76_l14 p2 p3 p4 (g3_56_t0 p0 (g1_0_t0 p1)))] [(.int (f1_0_r p0 (g2_13_t0 (g1_0_t0 p1)) p2 p3 p4 ((q5 >>> ((32 : Int32) &&& 0x3f).toInt64).toInt32) (q5.toInt32)))])) _
      refine XS.iload X5.here hx rfl (hb hby at_133) rfl ?_
      show Steps p.tables e below (T5.setTop (mkF m 135 #[.val (.int p0), .val (.int p1), .val (.int p2), .val (.int p3), .val (.int p4), .val (.long q5), .second, .val (.int (g1_0_t0 p1)), .val (.int (g2_13_t0 (g1_0_t0 p1))), .val (.int ((q5 >>> ((32 : Int32) &&& 0x3f).toInt64).toInt32)), .val (.int (q5.toInt32)), .val (.int (f1_0_r p0 (g2_13_t0 (g1_0_t0 p1)) p2 p3 p4 ((q5 >>> ((32 : Int32) &&& 0x3f).toInt64).toInt32) (q5.toInt32))), .val (.int (g3_56_t0 p0 (g1_0_t0 p1))), .val (.int (g4_76_l13 p2 p3 p4 ((q5 >>> ((32 : Int32) &&& 0x3f).toInt64).toInt32) (q5.toInt32) (g3_56_t0 p0 (g1_0_t0 p1)))), (g4_76_l14 p2 p3 p4 (g3_56_t0 p0 (g1_0_t0 p1)))] [(.int (g4_76_l13 p2 p3 p4 ((q5 >>> ((32 : Int32) &&& 0x3f).toInt64).toInt32) (q5.toInt32) (g3_56_t0 p0 (g1_0_t0 p1)))), (.int (f1_0_r p0 (g2_13_t0 (g1_0_t0 p1)) p2 p3 p4 ((q5 >>> ((32 : Int32) &&& 0x3f).toInt64).toInt32) (q5.toInt32)))])) _
      refine XS.icmpNo X5.here hx rfl (hb hby at_135) rfl (teq (own_law p0 p1 p2 p3 p4 q5)).2 ?_
      show Steps p.tables e below (T5.setTop (mkF m 138 #[.val (.int p0), .val (.int p1), .val (.int p2), .val (.int p3), .val (.int p4), .val (.long q5), .second, .val (.int (g1_0_t0 p1)), .val (.int (g2_13_t0 (g1_0_t0 p1))), .val (.int ((q5 >>> ((32 : Int32) &&& 0x3f).toInt64).toInt32)), .val (.int (q5.toInt32)), .val (.int (f1_0_r p0 (g2_13_t0 (g1_0_t0 p1)) p2 p3 p4 ((q5 >>> ((32 : Int32) &&& 0x3f).toInt64).toInt32) (q5.toInt32))), .val (.int (g3_56_t0 p0 (g1_0_t0 p1))), .val (.int (g4_76_l13 p2 p3 p4 ((q5 >>> ((32 : Int32) &&& 0x3f).toInt64).toInt32) (q5.toInt32) (g3_56_t0 p0 (g1_0_t0 p1)))), (g4_76_l14 p2 p3 p4 (g3_56_t0 p0 (g1_0_t0 p1)))] [])) _
      refine XS.iconst X5.here hx rfl (hb hby at_138) ?_
      show Steps p.tables e below (T5.setTop (mkF m 139 #[.val (.int p0), .val (.int p1), .val (.int p2), .val (.int p3), .val (.int p4), .val (.long q5), .second, .val (.int (g1_0_t0 p1)), .val (.int (g2_13_t0 (g1_0_t0 p1))), .val (.int ((q5 >>> ((32 : Int32) &&& 0x3f).toInt64).toInt32)), .val (.int (q5.toInt32)), .val (.int (f1_0_r p0 (g2_13_t0 (g1_0_t0 p1)) p2 p3 p4 ((q5 >>> ((32 : Int32) &&& 0x3f).toInt64).toInt32) (q5.toInt32))), .val (.int (g3_56_t0 p0 (g1_0_t0 p1))), .val (.int (g4_76_l13 p2 p3 p4 ((q5 >>> ((32 : Int32) &&& 0x3f).toInt64).toInt32) (q5.toInt32) (g3_56_t0 p0 (g1_0_t0 p1)))), (g4_76_l14 p2 p3 p4 (g3_56_t0 p0 (g1_0_t0 p1)))] [(.int (1 : Int32))])) _
      refine XS.goto X5.here hx rfl (pc0 := 139) (pc' := 143) rfl (hb hby at_139) (by decide) (by decide) ?_
      exact k)
  obtain ⟨fs, hr, hrun, hended, hW, hsame⟩ := X5.leave (v := some (.int (1 : Int32))) (fun h => by rw [Bd.returns] at h; cases h)
  refine ⟨_, _, c11 _ (retN X5 hx (t := .boolean) Bd.returns (by simp) (hb hby at_143) hr), hrun, hended, _, _, rfl, ?_, ⟨_, rfl⟩, hW, hsame.mono (by decide) (by decide)⟩
  show Q_rm0 Z p0 p1 p2 p3 p4 q5 h0 n0 _ T5.heap _
  rw [e5]
  exact ⟨rfl, N5⟩
set_option maxRecDepth 65536 in
set_option maxHeartbeats 40000000 in
theorem comes_1 {Post : Tables → Env → Array Value → State → Outcome → State → Prop} (hpost : ∀ tb e args s v u, (limb_1_1.after args s (.returned v) u = true ∧ limb_1_2.after args s (.returned v) u = true ∧ True) → FrameEnd s (.returned v) u (Jvm.fieldLocs frame_1_writes args s ++ Jvm.arrayLocs frame_1_arrays args s ++ Jvm.staticLocs frame_1_statics s) 0 0 → Post tb e args s (.returned v) u) :
    ArmFor flags0 classFile x code maxLocals ret World_1 tables_1 room_1 Calls_1 rest_1 Pre_1 Post := by
  intro l hfl _ _ p e ha hc hk s m args below hf hA hF happ hP
  obtain ⟨hcalls, hrest, hpre⟩ := hP
  obtain ⟨-, -, -, hnamed, -, -, -, hat⟩ := (Spec.applies_iff hf).mp happ
  obtain ⟨hg, hn⟩ := and_e (Cond.before_iff.mp (show (Jvm.Cond.and given_1 narrow_1).before args s = true from hpre))
  obtain ⟨g1, g2⟩ := and_e hg
  obtain ⟨g3, g4⟩ := and_e g2
  obtain ⟨g5, g6⟩ := and_e g4
  obtain ⟨g7, g8⟩ := and_e g6
  obtain ⟨g9, g10⟩ := and_e g8
  obtain ⟨g11, g12⟩ := and_e g10
  obtain ⟨w0, w1, w2, w3, w4, w5, rfl⟩ : ∃ w0 w1 w2 w3 w4 w5 : Value, args = #[w0, w1, w2, w3, w4, w5] := by
    have hs : args.size = 6 := by simpa [Cond.value, given_1] using g1
    obtain ⟨L⟩ := args
    match L, hs with
    | [w0, w1, w2, w3, w4, w5], _ => exact ⟨w0, w1, w2, w3, w4, w5, rfl⟩
  have hw := fun d (hd : d ∈ tables_1) => atoms_spec (ws := Jvm.Cond.code x code maxLocals ret :: tables_1) hat d (List.mem_cons_of_mem _ hd)
  have hfit : Fit s := fun {y c} hc i hi => by
    obtain ⟨ha, rfl⟩ := Array.getElem?_eq_some_iff.mp hc
    have q := List.all_eq_true.mp ((Array.all_eq_true_iff_forall_mem.mp hF) _ (Array.getElem_mem ha)) i (List.mem_range.mpr hi)
    simpa [Array.getElem?_eq_getElem hi] using q
  obtain ⟨i0, ei0⟩ := is_v g3
  obtain rfl : w0 = (.int i0) := Option.some.inj ei0
  obtain ⟨i1, ei1⟩ := is_v g5
  obtain rfl : w1 = (.int i1) := Option.some.inj ei1
  obtain ⟨i2, ei2⟩ := is_v g7
  obtain rfl : w2 = (.int i2) := Option.some.inj ei2
  obtain ⟨i3, ei3⟩ := is_v g9
  obtain rfl : w3 = (.int i3) := Option.some.inj ei3
  obtain ⟨i4, ei4⟩ := is_v g11
  obtain rfl : w4 = (.int i4) := Option.some.inj ei4
  obtain ⟨i5, ei5⟩ := isL_v g12
  obtain rfl : w5 = (.long i5) := Option.some.inj ei5
  obtain ⟨n, o, h1, h2, h3, _, L, rfl, ⟨rfl, N⟩, hq⟩ := rm0 l s _ hw tables_1 i0 i1 i2 i3 i4 i5 s.heap s.heap.size (Nat.le_refl _) p e ha hc hk s m _ below hf ((Spec.applies_iff_loose hf).mp happ).1 ⟨rfl, State.Warmed39.refl s, rfl⟩ trivial
  refine ⟨n, _, h1, h2, h3, hpost _ _ _ _ _ _ ⟨Cond.after_iff.mpr rfl, Cond.after_iff.mpr (eq_i res_at (Term.int_eval (1)) rfl), trivial⟩ ⟨hq.1, hq.2.1, (hq.2.2.sift fun y hy => Or.inr (N y hy)).mono (by decide) (by decide)⟩⟩
theorem main_1_1 : Claimed_1_1 := comes_1 fun _ _ _ _ _ _ h hF => ⟨h.1, hF⟩
theorem main_1_2 : Claimed_1_2 := comes_1 fun _ _ _ _ _ _ h hF => ⟨h.2.1, hF⟩
end Jvm.Pilot.@@N@@
namespace Jvm.Pilot.@@N@@
open Jvm Jvm.ClassFile Sem Op Lib Jvm.Free Jvm.Stand Jvm.Pilot.@@N@@.Jvm.D
/-! MADE BY PROGRAM (witnessworld.py) out of the Statement's table words and the real class files: 9 classes; the members and pool entries that the words name. The judged class is class 1, her method 1. -/
namespace start1
open Jvm.ClassFile
def u (s : String) : CpInfo := .utf8 (stringToUtf16 s)
/-- a pool by its gaps: so many unusable entries, then the entry; so many at the end -/
def gap : Nat → List CpInfo → List CpInfo
  | 0, r => r
  | n + 1, r => .unusable :: gap n r
def poolList (es : List (Nat × CpInfo)) (last : Nat) : List CpInfo := es.foldr (fun e r => gap e.1 (e.2 :: r)) (gap last [])
def pool (es : List (Nat × CpInfo)) (last : Nat) : Array CpInfo := ⟨poolList es last⟩
def fileOf (pool : Array CpInfo) (this : Nat) (attrs : Array Attribute := #[]) (ms : Array MethodInfo := #[]) (fl : Nat := 33) (sup : Nat := 0) (ifs : Array Nat := #[]) (fds : Array FieldInfo := #[]) : ClassFile where
  minorVersion := 0
  majorVersion := 65
  constantPool := pool
  accessFlags := fl
  thisClass := this
  superClass := sup
  interfaces := ifs
  fields := fds
  methods := ms
  attributes := attrs
def plain (name : String) (sup : Option ClassId) : Class where
  name := name
  kind := .ordinary
  loader := none
  accessFlags := 33
  super := sup
  interfaces := #[]
  cf := none
  fields := #[]
  methods := #[]
  instanceTypes := #[]
  staticTypes := #[]
  resolved := #[]
  callSites := []
  init := .initialized
  statics := none
  mirror := none

def pool0 : Array CpInfo := pool [(5, u "<init>"), (0, u "()V"), (1, .class_ 10), (1, u "java/lang/Object")] 113

def k0m0 : Method := { name := "<init>", desc := "()V", sig := { parameters := [], returnType := none }, accessFlags := 1, code := none }
/-- java/lang/Object -/
def k0 : Class := { plain "java/lang/Object" none with
  accessFlags := 33
  interfaces := #[]
  cf := some (fileOf pool0 8 #[] #[{ accessFlags := 1, nameIndex := 5, descriptorIndex := 6, attributes := #[] }] 33 0 #[] #[])
  fields := #[]
  methods := #[k0m0]
  instanceTypes := #[]
  staticTypes := #[]
  resolved := Array.replicate 124 none
  statics := none }

def pool1 : Array CpInfo := pool [(2, .class_ 4), (1, u "java/lang/Object"), (0, u "<init>"), (0, u "()V"), (0, .methodref 8 9), (0, .class_ 10), (0, .nameAndType 11 12), (0, u "com/example/tapeline/tapeline/Gravity"), (0, u "place"), (0, u "(IIIIIII)I"), (0, .class_ 14), (0, u "com/example/tapeline/tapeline/GravityPlacePinLaw"), (2, u "law"), (0, u "(IIIIIJ)Z")] 3

def k1m0 : Method := { name := "<init>", desc := "()V", sig := { parameters := [], returnType := none }, accessFlags := 1, code := none }
def k1c1 : Code := { maxStack := 7, maxLocals := 15, code := code, exceptionTable := #[], attributes := #[] }
def k1m1 : Method := { name := "law", desc := "(IIIIIJ)Z", sig := { parameters := [.int, .int, .int, .int, .int, .long], returnType := some .boolean }, accessFlags := 9, code := some k1c1 }
/-- com/example/tapeline/tapeline/GravityPlacePinLaw -/
def k1 : Class := { plain "com/example/tapeline/tapeline/GravityPlacePinLaw" (some 0) with
  accessFlags := 49
  interfaces := #[]
  cf := some (fileOf pool1 13 #[] #[{ accessFlags := 1, nameIndex := 5, descriptorIndex := 6, attributes := #[] }, { accessFlags := 9, nameIndex := 17, descriptorIndex := 18, attributes := #[] }] 49 2 #[] #[])
  fields := #[]
  methods := #[k1m0, k1m1]
  instanceTypes := #[]
  staticTypes := #[]
  resolved := Array.replicate 22 none
  statics := none }

def pool2 : Array CpInfo := pool [(1, .class_ 2), (0, u "com/example/tapeline/tapeline/Gravity"), (1, .class_ 6), (1, u "java/lang/Object"), (0, u "<init>"), (0, u "()V"), (55, u "ATTRIBUTE_VALUES"), (0, u "Lcom/example/tapeline/tapeline/AttributeSet$Flags;"), (0, u "NO_GRAVITY"), (0, u "I"), (2, u "TOP"), (1, u "BOTTOM"), (1, u "LEFT"), (1, u "RIGHT"), (1, u "CENTER_VERTICAL"), (1, u "FILL_VERTICAL"), (1, u "CENTER_HORIZONTAL"), (1, u "FILL_HORIZONTAL"), (1, u "CENTER"), (1, u "FILL"), (1, u "CLIP_VERTICAL"), (1, u "CLIP_HORIZONTAL"), (1, u "RELATIVE_LAYOUT_DIRECTION"), (1, u "START"), (0, u "END"), (0, u "HORIZONTAL_GRAVITY_MASK"), (0, u "VERTICAL_GRAVITY_MASK"), (0, u "RELATIVE_HORIZONTAL_GRAVITY_MASK"), (3, u "place"), (0, u "(IIIIIII)I")] 11

def k2m0 : Method := { name := "<init>", desc := "()V", sig := { parameters := [], returnType := none }, accessFlags := 2, code := none }
def k2c1 : Code := { maxStack := 3, maxLocals := 7, code := prog_15_method_2_code, exceptionTable := #[], attributes := #[] }
def k2m1 : Method := { name := "place", desc := "(IIIIIII)I", sig := { parameters := [.int, .int, .int, .int, .int, .int, .int], returnType := some .int }, accessFlags := 8, code := some k2c1 }
/-- com/example/tapeline/tapeline/Gravity -/
def k2 : Class := { plain "com/example/tapeline/tapeline/Gravity" (some 0) with
  accessFlags := 49
  interfaces := #[]
  cf := some (fileOf pool2 1 #[] #[{ accessFlags := 2, nameIndex := 7, descriptorIndex := 8, attributes := #[] }, { accessFlags := 8, nameIndex := 104, descriptorIndex := 105, attributes := #[] }] 49 4 #[] #[{ accessFlags := 25, nameIndex := 66, descriptorIndex := 67, attributes := #[] }, { accessFlags := 25, nameIndex := 70, descriptorIndex := 67, attributes := #[] }, { accessFlags := 25, nameIndex := 72, descriptorIndex := 67, attributes := #[] }, { accessFlags := 25, nameIndex := 74, descriptorIndex := 67, attributes := #[] }, { accessFlags := 25, nameIndex := 76, descriptorIndex := 67, attributes := #[] }, { accessFlags := 25, nameIndex := 78, descriptorIndex := 67, attributes := #[] }, { accessFlags := 25, nameIndex := 80, descriptorIndex := 67, attributes := #[] }, { accessFlags := 25, nameIndex := 82, descriptorIndex := 67, attributes := #[] }, { accessFlags := 25, nameIndex := 84, descriptorIndex := 67, attributes := #[] }, { accessFlags := 25, nameIndex := 86, descriptorIndex := 67, attributes := #[] }, { accessFlags := 25, nameIndex := 88, descriptorIndex := 67, attributes := #[] }, { accessFlags := 25, nameIndex := 90, descriptorIndex := 67, attributes := #[] }, { accessFlags := 25, nameIndex := 92, descriptorIndex := 67, attributes := #[] }, { accessFlags := 25, nameIndex := 94, descriptorIndex := 67, attributes := #[] }, { accessFlags := 25, nameIndex := 96, descriptorIndex := 67, attributes := #[] }, { accessFlags := 25, nameIndex := 97, descriptorIndex := 67, attributes := #[] }, { accessFlags := 25, nameIndex := 98, descriptorIndex := 67, attributes := #[] }, { accessFlags := 25, nameIndex := 99, descriptorIndex := 67, attributes := #[] }, { accessFlags := 25, nameIndex := 100, descriptorIndex := 67, attributes := #[] }, { accessFlags := 24, nameIndex := 64, descriptorIndex := 65, attributes := #[] }])
  fields := #[{ name := "NO_GRAVITY", type := .int, accessFlags := 25, slot := 0, constantValue := 0 }, { name := "TOP", type := .int, accessFlags := 25, slot := 1, constantValue := 0 }, { name := "BOTTOM", type := .int, accessFlags := 25, slot := 2, constantValue := 0 }, { name := "LEFT", type := .int, accessFlags := 25, slot := 3, constantValue := 0 }, { name := "RIGHT", type := .int, accessFlags := 25, slot := 4, constantValue := 0 }, { name := "CENTER_VERTICAL", type := .int, accessFlags := 25, slot := 5, constantValue := 0 }, { name := "FILL_VERTICAL", type := .int, accessFlags := 25, slot := 6, constantValue := 0 }, { name := "CENTER_HORIZONTAL", type := .int, accessFlags := 25, slot := 7, constantValue := 0 }, { name := "FILL_HORIZONTAL", type := .int, accessFlags := 25, slot := 8, constantValue := 0 }, { name := "CENTER", type := .int, accessFlags := 25, slot := 9, constantValue := 0 }, { name := "FILL", type := .int, accessFlags := 25, slot := 10, constantValue := 0 }, { name := "CLIP_VERTICAL", type := .int, accessFlags := 25, slot := 11, constantValue := 0 }, { name := "CLIP_HORIZONTAL", type := .int, accessFlags := 25, slot := 12, constantValue := 0 }, { name := "RELATIVE_LAYOUT_DIRECTION", type := .int, accessFlags := 25, slot := 13, constantValue := 0 }, { name := "START", type := .int, accessFlags := 25, slot := 14, constantValue := 0 }, { name := "END", type := .int, accessFlags := 25, slot := 15, constantValue := 0 }, { name := "HORIZONTAL_GRAVITY_MASK", type := .int, accessFlags := 25, slot := 16, constantValue := 0 }, { name := "VERTICAL_GRAVITY_MASK", type := .int, accessFlags := 25, slot := 17, constantValue := 0 }, { name := "RELATIVE_HORIZONTAL_GRAVITY_MASK", type := .int, accessFlags := 25, slot := 18, constantValue := 0 }, { name := "ATTRIBUTE_VALUES", type := (.object "com/example/tapeline/tapeline/AttributeSet$Flags"), accessFlags := 24, slot := 19, constantValue := 0 }]
  methods := #[k2m0, k2m1]
  instanceTypes := #[]
  staticTypes := #[.int, .int, .int, .int, .int, .int, .int, .int, .int, .int, .int, .int, .int, .int, .int, .int, .int, .int, .int, (.object "com/example/tapeline/tapeline/AttributeSet$Flags")]
  resolved := Array.replicate 117 none
  statics := none }

def pool3 : Array CpInfo := pool [(1, u "java/lang/Cloneable"), (0, .class_ 1), (0, u "java/lang/Object"), (0, .class_ 3)] 3

/-- java/lang/Cloneable -/
def k3 : Class := { plain "java/lang/Cloneable" (some 0) with
  accessFlags := 1537
  interfaces := #[]
  cf := some (fileOf pool3 2 #[] #[] 1537 4 #[] #[])
  fields := #[]
  methods := #[]
  instanceTypes := #[]
  staticTypes := #[]
  resolved := Array.replicate 8 none
  statics := none }

def pool4 : Array CpInfo := pool [(1, u "java/io/Serializable"), (0, .class_ 1), (0, u "java/lang/Object"), (0, .class_ 3)] 3

/-- java/io/Serializable -/
def k4 : Class := { plain "java/io/Serializable" (some 0) with
  accessFlags := 1537
  interfaces := #[]
  cf := some (fileOf pool4 2 #[] #[] 1537 4 #[] #[])
  fields := #[]
  methods := #[]
  instanceTypes := #[]
  staticTypes := #[]
  resolved := Array.replicate 8 none
  statics := none }

/-- the primitive byte -/
def k5 : Class := { plain "byte" none with kind := .primitive 'B', accessFlags := 0x411 }
/-- [B -/
def k6 : Class := { plain "[B" (some 0) with kind := .array 5 .byte, interfaces := #[3, 4], accessFlags := 1041 }

/-- the primitive int -/
def k7 : Class := { plain "int" none with kind := .primitive 'I', accessFlags := 0x411 }
/-- [I -/
def k8 : Class := { plain "[I" (some 0) with kind := .array 7 .int, interfaces := #[3, 4], accessFlags := 1041 }

def heap : Heap := #[]
def classes : Array Class := #[k0, k1, k2, k3, k4, k5, k6, k7, k8]
def interned : List (Array UInt16 × Addr) := []
def slotsUsed : Nat := 0
def theMethod : MethodId := ⟨1, 1⟩
def args0 : Array Value := #[.int 5, .int 1, .int 3, .int 9, .int 2, .long 5]
def aboutOver (below : List Frame) : State where
  vm := { classes := classes, interned := interned.toArray }
  heap := heap
  slotsUsed := slotsUsed
  threads := #[{ frames := .invoking theMethod args0 :: below }]
def below0 : List Frame := [.native { method := ⟨0, 0⟩, args := #[] }]
def about1 : State := aboutOver below0
def p0 : Program := .bare "" "" ""
def e0 : Env := launch0.env 0 0 0
theorem w_frames : about1.frames = Frame.invoking theMethod args0 :: below0 := rfl
set_option maxRecDepth 65536 in
theorem w_args : argsFit about1.vm theMethod args0 = true := by decide +kernel
set_option maxRecDepth 65536 in
theorem w_heap : heapFits about1 = true := by decide +kernel
set_option maxRecDepth 65536 in
theorem w_runnable : about1.curStatus? = some .runnable := by decide +kernel
set_option maxRecDepth 65536 in
theorem w_alone : about1.alone = true := by decide +kernel
set_option maxRecDepth 65536 in
theorem w_named : about1.methodNamed? x = some theMethod := by decide +kernel
set_option maxRecDepth 65536 in
theorem w_hears : about1.hears theMethod below0 = true := by decide +kernel
set_option maxRecDepth 65536 in
theorem w_ripe : about1.ripe theMethod args0 below0 = true := by decide +kernel
theorem w_running : about1.status = .running := rfl
set_option maxRecDepth 65536 in
theorem w_room : about1.hasRoom e0.platform room_1 = true :=
  launch0.hasRoom_least _ room_1 (by decide +kernel) (by decide +kernel) (by decide +kernel) (by decide +kernel) (by decide +kernel) (by decide +kernel)
theorem allAtoms_all (ts : List Jvm.Cond) (a : Array Jvm.Value) (st : Jvm.State) : (allAtoms ts).before a st = ts.all (fun c => c.before a st) := by
  induction ts with
  | nil => rfl
  | cons c t ih =>
    show (Jvm.Cond.and c (allAtoms t)).before a st = _
    rw [Jvm.Cond.before_and, ih, List.all_cons]
def words1 : List Jvm.Cond := Jvm.Cond.code x code maxLocals ret :: tables_1
/-- a 'code' word, met by the world's own term for the bytes: nothing is compared byte by byte -/
theorem code_word {y : MethodName} {bytes : ByteArray} {mx : Nat} {rt : Option FieldType} {a : Array Value} {s : State} {m : MethodId} {meth : Method} {c : Code} (h1 : s.methodNamed? y = some m) (h2 : s.vm.method? m = some meth) (h3 : meth.code = some c) (h4 : c.code = bytes)
    (h5 : (c.maxLocals == mx && c.exceptionTable.isEmpty && decide (c.maxStack ≤ mostOperands) && decide (meth.sig.returnType = rt) && !meth.locks && decide (parseMethodDescriptor y.desc = some meth.sig)) = true) : (Jvm.Cond.code y bytes mx rt).before a s = true := by
  simp only [Bool.and_eq_true, beq_iff_eq, Bool.not_eq_true', decide_eq_true_eq] at h5
  obtain ⟨⟨⟨⟨⟨g1, g2⟩, g3⟩, g4⟩, g5⟩, g6⟩ := h5
  simp [Cond.before, Cond.holds, Cond.value, h1, h2, h3, h4, g1, g2, g3, g4, g5, g6]
def isCode : Jvm.Cond → Bool
  | .code _ _ _ _ => true
  | _ => false
theorem all_split {L : List Jvm.Cond} {P : Jvm.Cond → Bool} (h1 : L.all (fun c => isCode c || P c) = true) (h2 : ∀ c ∈ L.filter isCode, P c = true) : L.all P = true := by
  refine List.all_eq_true.mpr fun c hc => ?_
  have h := List.all_eq_true.mp h1 c hc
  rcases Bool.eq_false_or_eq_true (isCode c) with hi | hi
  · exact h2 c (List.mem_filter.mpr ⟨hc, hi⟩)
  · simpa [hi] using h
set_option maxRecDepth 65536 in
theorem w_c0 : (Jvm.Cond.code x code maxLocals ret).before args0 about1 = true := code_word (m := ⟨1, 1⟩) (meth := k1m1) (c := k1c1) (by decide +kernel) rfl rfl rfl (by decide +kernel)
set_option maxRecDepth 65536 in
theorem w_c1 : (Jvm.Cond.code ({ cls := "com/example/tapeline/tapeline/Gravity", name := "place", desc := "(IIIIIII)I" } : Jvm.MethodName) prog_15_method_2_code (7 : Nat) (Option.some Jvm.ClassFile.FieldType.int)).before args0 about1 = true := code_word (m := ⟨2, 1⟩) (meth := k2m1) (c := k2c1) (by decide +kernel) rfl rfl rfl (by decide +kernel)
def codes1 : List Jvm.Cond := [Jvm.Cond.code x code maxLocals ret, Jvm.Cond.code ({ cls := "com/example/tapeline/tapeline/Gravity", name := "place", desc := "(IIIIIII)I" } : Jvm.MethodName) prog_15_method_2_code (7 : Nat) (Option.some Jvm.ClassFile.FieldType.int)]
set_option maxRecDepth 65536 in
theorem codes_eq : words1.filter isCode = codes1 := rfl
theorem w_codes : ∀ c ∈ words1.filter isCode, c.before args0 about1 = true := by
  rw [codes_eq]
  intro c hc
  simp only [codes1, List.mem_cons, List.not_mem_nil, or_false] at hc
  rcases hc with rfl | rfl
  · exact w_c0
  · exact w_c1
set_option maxRecDepth 65536 in
theorem w_t1 : words1.all (fun c => isCode c || c.before args0 about1) = true := by decide +kernel
theorem w_tables : (allAtoms (Jvm.Cond.code x code maxLocals ret :: tables_1)).before args0 about1 = true := by
  rw [allAtoms_all]
  show words1.all (fun c => c.before args0 about1) = true
  refine all_split ?_ w_codes
  rw [w_t1]
set_option maxRecDepth 65536 in
theorem w_case : (Jvm.Cond.and given_1 narrow_1).before args0 about1 = true := by decide +kernel
theorem w_applies : (headSpec (Jvm.Cond.code x code maxLocals ret :: tables_1) room_1).applies x e0.platform about1 = true :=
  (Spec.applies_iff w_frames).mpr ⟨w_running, w_runnable, w_alone, w_named, w_hears, w_ripe, w_room, w_tables⟩
theorem atStart : AtStart classFile x code maxLocals ret World_1 tables_1 room_1 Calls_1 rest_1 Pre_1 launch0 p0 e0 about1 theMethod args0 below0 :=
  ⟨lists_1, trivial, launch0.admits_env _ _ _, launch0.least_env, fairChoices_fair.cas, fairChoices_fair.clock, w_frames, w_args, w_heap, w_applies, trivial, trivial, w_case⟩
end start1
theorem witness_1 : WitnessClaimed_1 := ⟨start1.p0, start1.e0, start1.about1, start1.theMethod, start1.args0, start1.below0, start1.atStart⟩
end Jvm.Pilot.@@N@@
