import JvmDerived
import JvmDerived.Pilot.@@N@@Statement
import JvmDerived.Pilot.@@N@@Code
set_option linter.unusedVariables false
set_option linter.unusedSimpArgs false
namespace Jvm.RoadKit
open Sem ClassFile Op Lib Jvm.Stand Jvm.Free Jvm.LawKit
section New
variable {p : Program} {l : Launch} {e : Env} {R : Room} {s : State} {m : MethodId} {args : Array Value} {below : List Frame} {meth : Method} {c : Code} {T : State} {locs : List Loc} {cells slots : Nat}
theorem retI (X : Stand p l e R s m args below meth c T locs cells slots) (hx : p.tables.exec = Jvm.exec) {pc : Nat} {Ls : Array Slot} {z : Int32} {rest : List Value} (hret : meth.sig.returnType = some .int) (hd : decode c.code pc = .ok (.ireturn, 1)) {fs : List Frame}
    (hl : ∀ (f : JFrame) (acts : List Action), f.method = m → f.locked = none → f.entered = [] → (doReturn e (T.setTop f) acts (some (.int z))).1 = T.setFrames fs) : Steps p.tables e below (T.setTop (mkF m pc Ls (.int z :: rest))) (T.setFrames fs) := by
  have hm' : T.vm.method? m = some meth := X.method'
  have hn : narrow .int (.int z) = .int z := rfl
  show Steps p.tables e below (T.setTop { method := m, pc := pc, locals := Ls, stack := _ :: rest, locked := none }) _
  jvm_step X.here [X.here.top, hx, hd, hm', hret, hn]
  first | (intro acts; rw [hl _ acts rfl rfl rfl]) | rw [hl _ _ rfl rfl rfl]
  exact Steps.refl _
theorem own_miss {k : Int32} (q : Int32) {a : Int} (hq : q.toInt = a) (h : ¬ k = q) : a ≠ k.toInt := fun e => h (Int32.toInt_inj.mp (e.symm.trans hq.symm))
end New
end Jvm.RoadKit
namespace Jvm.RoadKit
open Sem ClassFile Op Lib Jvm.Stand Jvm.Free Jvm.LawKit
section OwnArrs
variable {p : Program} {l : Launch} {e : Env} {R : Room} {s : State} {m : MethodId} {args : Array Value} {below : List Frame} {meth : Method} {c : Code} {T : State} {locs : List Loc} {cells slots : Nat} {Z : State} {h : Heap} {a : Addr} {k : ClassId} {n : Int32} {vs : List Value} {d : Value} {n0 : Nat}
theorem own_caload (X : Stand p l e R s m args below meth c T locs cells slots) (hx : p.tables.exec = Jvm.exec) (hZ : Z.Warmed39 s.vm) (eT : T.heap = h) (F : Arv Z h a k .char n vs d) {j : Int32} (hj : ¬ j < 0 ∧ j < n) {v : Value} (hv : vs.getD j.toNatClampNeg d = v) {g : JFrame} (hg : g.method = m) {rest : List Value} (hs : g.stack = .int j :: .ref a :: rest) (hd : decode c.code g.pc = .ok (.caload, 1)) (target : State) (hr : Steps p.tables e below (T.setTop { g with pc := g.pc + 1, stack := v :: rest }) target) : Steps p.tables e below (T.setTop g) target := by
  obtain ⟨cl, A, -, S, -, H, -⟩ := F
  have hin := inb_of S hj
  exact X.caload hx (by rw [eT]; exact A.1) (State.isArrayOf_alike hZ.alike A.2.1) A.2.2 hin (Has.at H hin hv) hg hs hd target hr
theorem own_iaload (X : Stand p l e R s m args below meth c T locs cells slots) (hx : p.tables.exec = Jvm.exec) (hZ : Z.Warmed39 s.vm) (eT : T.heap = h) (F : Arv Z h a k .int n vs d) {j : Int32} (hj : ¬ j < 0 ∧ j < n) {v : Value} (hv : vs.getD j.toNatClampNeg d = v) {g : JFrame} (hg : g.method = m) {rest : List Value} (hs : g.stack = .int j :: .ref a :: rest) (hd : decode c.code g.pc = .ok (.iaload, 1)) (target : State) (hr : Steps p.tables e below (T.setTop { g with pc := g.pc + 1, stack := v :: rest }) target) : Steps p.tables e below (T.setTop g) target := by
  obtain ⟨cl, A, -, S, -, H, -⟩ := F
  have hin := inb_of S hj
  exact X.iaload hx (by rw [eT]; exact A.1) (State.isArrayOf_alike hZ.alike A.2.1) A.2.2 hin (Has.at H hin hv) hg hs hd target hr
theorem own_stC (X : Stand p l e R s m args below meth c T locs cells slots) (hx : p.tables.exec = Jvm.exec) (hZ : Z.Warmed39 s.vm) (eT : T.heap = h) (F : Arv Z h a k .char n vs d) {j x : Int32} (hj : ¬ j < 0 ∧ j < n) (i : Nat) (hi : j.toNatClampNeg = i) (hl : i < vs.length) (N : Fr n0 locs) (ga : n0 ≤ a) {g : JFrame} (hg : g.method = m) {rest : List Value} (hs : g.stack = .int x :: .int j :: .ref a :: rest) (hd : decode c.code g.pc = .ok (.castore, 1)) :
    ∃ T' h' L', Stand p l e R s m args below meth c T' L' cells slots ∧ T'.heap = h' ∧ Fr n0 L' ∧ Wr h h' a j.toNatClampNeg (.int (nar .char x)) ∧ Arv Z h' a k .char n (vs.set i (.int (nar .char x))) d ∧ ∀ target, Steps p.tables e below (T'.setTop { g with pc := g.pc + 1, stack := rest }) target → Steps p.tables e below (T.setTop g) target := by
  obtain ⟨cl, A, q, S, M, H, G⟩ := F
  obtain ⟨T', h', X', e', W, st⟩ := stC X hx hZ eT A (inb_of S hj) hg hs hd
  exact ⟨T', h', _, X', e', Fr.snoc X' N ga, W, Arv.set A q S M H G (fits_nar_char _) W i hi hl, st⟩
theorem own_stI (X : Stand p l e R s m args below meth c T locs cells slots) (hx : p.tables.exec = Jvm.exec) (hZ : Z.Warmed39 s.vm) (eT : T.heap = h) (F : Arv Z h a k .int n vs d) {j x : Int32} (hj : ¬ j < 0 ∧ j < n) (i : Nat) (hi : j.toNatClampNeg = i) (hl : i < vs.length) (N : Fr n0 locs) (ga : n0 ≤ a) {g : JFrame} (hg : g.method = m) {rest : List Value} (hs : g.stack = .int x :: .int j :: .ref a :: rest) (hd : decode c.code g.pc = .ok (.iastore, 1)) :
    ∃ T' h' L', Stand p l e R s m args below meth c T' L' cells slots ∧ T'.heap = h' ∧ Fr n0 L' ∧ Wr h h' a j.toNatClampNeg (.int x) ∧ Arv Z h' a k .int n (vs.set i (.int x)) d ∧ ∀ target, Steps p.tables e below (T'.setTop { g with pc := g.pc + 1, stack := rest }) target → Steps p.tables e below (T.setTop g) target := by
  obtain ⟨cl, A, q, S, M, H, G⟩ := F
  obtain ⟨T', h', X', e', W, st⟩ := stI X hx hZ eT A (inb_of S hj) hg hs hd
  exact ⟨T', h', _, X', e', Fr.snoc X' N ga, W, Arv.set A q S M H G rfl W i hi hl, st⟩
end OwnArrs
end Jvm.RoadKit
namespace Jvm.Pilot.@@N@@
open Jvm Jvm.ClassFile Sem Op Lib Jvm.Free Jvm.Stand Jvm.LawKit Jvm.RoadKit Bundle Jvm.Pilot.@@N@@.Jvm.D
theorem d1_0 : decode prog_102_method_4_code 0 = .ok (.iload_n 0, 1) := by decide +kernel
theorem d1_1 : decode prog_102_method_4_code 1 = .ok (.bipush 97, 2) := by decide +kernel
theorem d1_3 : decode prog_102_method_4_code 3 = .ok (.if_icmp .lt 9, 3) := by decide +kernel
theorem d1_6 : decode prog_102_method_4_code 6 = .ok (.iload_n 0, 1) := by decide +kernel
theorem d1_7 : decode prog_102_method_4_code 7 = .ok (.bipush 122, 2) := by decide +kernel
theorem d1_9 : decode prog_102_method_4_code 9 = .ok (.if_icmp .le 182, 3) := by decide +kernel
theorem d1_12 : decode prog_102_method_4_code 12 = .ok (.iload_n 0, 1) := by decide +kernel
theorem d1_13 : decode prog_102_method_4_code 13 = .ok (.bipush 65, 2) := by decide +kernel
theorem d1_15 : decode prog_102_method_4_code 15 = .ok (.if_icmp .lt 9, 3) := by decide +kernel
theorem d1_18 : decode prog_102_method_4_code 18 = .ok (.iload_n 0, 1) := by decide +kernel
theorem d1_19 : decode prog_102_method_4_code 19 = .ok (.bipush 90, 2) := by decide +kernel
theorem d1_21 : decode prog_102_method_4_code 21 = .ok (.if_icmp .le 170, 3) := by decide +kernel
theorem d1_24 : decode prog_102_method_4_code 24 = .ok (.iload_n 0, 1) := by decide +kernel
theorem d1_25 : decode prog_102_method_4_code 25 = .ok (.bipush 95, 2) := by decide +kernel
theorem d1_27 : decode prog_102_method_4_code 27 = .ok (.if_icmp .eq 164, 3) := by decide +kernel
theorem d1_30 : decode prog_102_method_4_code 30 = .ok (.iload_n 0, 1) := by decide +kernel
theorem d1_31 : decode prog_102_method_4_code 31 = .ok (.sipush 192, 3) := by decide +kernel
theorem d1_34 : decode prog_102_method_4_code 34 = .ok (.if_icmp .lt 10, 3) := by decide +kernel
theorem d1_37 : decode prog_102_method_4_code 37 = .ok (.iload_n 0, 1) := by decide +kernel
theorem d1_38 : decode prog_102_method_4_code 38 = .ok (.sipush 214, 3) := by decide +kernel
theorem d1_41 : decode prog_102_method_4_code 41 = .ok (.if_icmp .le 150, 3) := by decide +kernel
theorem d1_44 : decode prog_102_method_4_code 44 = .ok (.iload_n 0, 1) := by decide +kernel
theorem d1_45 : decode prog_102_method_4_code 45 = .ok (.sipush 216, 3) := by decide +kernel
theorem d1_48 : decode prog_102_method_4_code 48 = .ok (.if_icmp .lt 10, 3) := by decide +kernel
theorem d1_51 : decode prog_102_method_4_code 51 = .ok (.iload_n 0, 1) := by decide +kernel
theorem d1_52 : decode prog_102_method_4_code 52 = .ok (.sipush 246, 3) := by decide +kernel
theorem d1_55 : decode prog_102_method_4_code 55 = .ok (.if_icmp .le 136, 3) := by decide +kernel
theorem d1_58 : decode prog_102_method_4_code 58 = .ok (.iload_n 0, 1) := by decide +kernel
theorem d1_59 : decode prog_102_method_4_code 59 = .ok (.sipush 248, 3) := by decide +kernel
theorem d1_62 : decode prog_102_method_4_code 62 = .ok (.if_icmp .lt 10, 3) := by decide +kernel
theorem d1_65 : decode prog_102_method_4_code 65 = .ok (.iload_n 0, 1) := by decide +kernel
theorem d1_66 : decode prog_102_method_4_code 66 = .ok (.sipush 767, 3) := by decide +kernel
theorem d1_69 : decode prog_102_method_4_code 69 = .ok (.if_icmp .le 122, 3) := by decide +kernel
theorem d1_72 : decode prog_102_method_4_code 72 = .ok (.iload_n 0, 1) := by decide +kernel
theorem d1_73 : decode prog_102_method_4_code 73 = .ok (.sipush 880, 3) := by decide +kernel
theorem d1_76 : decode prog_102_method_4_code 76 = .ok (.if_icmp .lt 10, 3) := by decide +kernel
theorem d1_79 : decode prog_102_method_4_code 79 = .ok (.iload_n 0, 1) := by decide +kernel
theorem d1_80 : decode prog_102_method_4_code 80 = .ok (.sipush 893, 3) := by decide +kernel
theorem d1_83 : decode prog_102_method_4_code 83 = .ok (.if_icmp .le 108, 3) := by decide +kernel
theorem d1_86 : decode prog_102_method_4_code 86 = .ok (.iload_n 0, 1) := by decide +kernel
theorem d1_87 : decode prog_102_method_4_code 87 = .ok (.sipush 895, 3) := by decide +kernel
theorem d1_90 : decode prog_102_method_4_code 90 = .ok (.if_icmp .lt 10, 3) := by decide +kernel
theorem d1_93 : decode prog_102_method_4_code 93 = .ok (.iload_n 0, 1) := by decide +kernel
theorem d1_94 : decode prog_102_method_4_code 94 = .ok (.sipush 8191, 3) := by decide +kernel
theorem d1_97 : decode prog_102_method_4_code 97 = .ok (.if_icmp .le 94, 3) := by decide +kernel
theorem d1_100 : decode prog_102_method_4_code 100 = .ok (.iload_n 0, 1) := by decide +kernel
theorem d1_101 : decode prog_102_method_4_code 101 = .ok (.sipush 8204, 3) := by decide +kernel
theorem d1_104 : decode prog_102_method_4_code 104 = .ok (.if_icmp .eq 87, 3) := by decide +kernel
theorem d1_107 : decode prog_102_method_4_code 107 = .ok (.iload_n 0, 1) := by decide +kernel
theorem d1_108 : decode prog_102_method_4_code 108 = .ok (.sipush 8205, 3) := by decide +kernel
theorem d1_111 : decode prog_102_method_4_code 111 = .ok (.if_icmp .eq 80, 3) := by decide +kernel
theorem d1_114 : decode prog_102_method_4_code 114 = .ok (.iload_n 0, 1) := by decide +kernel
theorem d1_115 : decode prog_102_method_4_code 115 = .ok (.sipush 8304, 3) := by decide +kernel
theorem d1_118 : decode prog_102_method_4_code 118 = .ok (.if_icmp .lt 10, 3) := by decide +kernel
theorem d1_121 : decode prog_102_method_4_code 121 = .ok (.iload_n 0, 1) := by decide +kernel
theorem d1_122 : decode prog_102_method_4_code 122 = .ok (.sipush 8591, 3) := by decide +kernel
theorem d1_125 : decode prog_102_method_4_code 125 = .ok (.if_icmp .le 66, 3) := by decide +kernel
theorem d1_128 : decode prog_102_method_4_code 128 = .ok (.iload_n 0, 1) := by decide +kernel
theorem d1_129 : decode prog_102_method_4_code 129 = .ok (.sipush 11264, 3) := by decide +kernel
theorem d1_132 : decode prog_102_method_4_code 132 = .ok (.if_icmp .lt 10, 3) := by decide +kernel
theorem d1_135 : decode prog_102_method_4_code 135 = .ok (.iload_n 0, 1) := by decide +kernel
theorem d1_136 : decode prog_102_method_4_code 136 = .ok (.sipush 12271, 3) := by decide +kernel
theorem d1_139 : decode prog_102_method_4_code 139 = .ok (.if_icmp .le 52, 3) := by decide +kernel
theorem d1_142 : decode prog_102_method_4_code 142 = .ok (.iload_n 0, 1) := by decide +kernel
theorem d1_143 : decode prog_102_method_4_code 143 = .ok (.sipush 12289, 3) := by decide +kernel
theorem d1_146 : decode prog_102_method_4_code 146 = .ok (.if_icmp .lt 9, 3) := by decide +kernel
theorem d1_149 : decode prog_102_method_4_code 149 = .ok (.iload_n 0, 1) := by decide +kernel
theorem d1_150 : decode prog_102_method_4_code 150 = .ok (.ldc 23, 2) := by decide +kernel
theorem d1_152 : decode prog_102_method_4_code 152 = .ok (.if_icmp .le 39, 3) := by decide +kernel
theorem d1_155 : decode prog_102_method_4_code 155 = .ok (.iload_n 0, 1) := by decide +kernel
theorem d1_156 : decode prog_102_method_4_code 156 = .ok (.ldc 24, 2) := by decide +kernel
theorem d1_158 : decode prog_102_method_4_code 158 = .ok (.if_icmp .lt 9, 3) := by decide +kernel
theorem d1_161 : decode prog_102_method_4_code 161 = .ok (.iload_n 0, 1) := by decide +kernel
theorem d1_162 : decode prog_102_method_4_code 162 = .ok (.ldc 25, 2) := by decide +kernel
theorem d1_164 : decode prog_102_method_4_code 164 = .ok (.if_icmp .le 27, 3) := by decide +kernel
theorem d1_167 : decode prog_102_method_4_code 167 = .ok (.iload_n 0, 1) := by decide +kernel
theorem d1_168 : decode prog_102_method_4_code 168 = .ok (.ldc 26, 2) := by decide +kernel
theorem d1_170 : decode prog_102_method_4_code 170 = .ok (.if_icmp .lt 9, 3) := by decide +kernel
theorem d1_173 : decode prog_102_method_4_code 173 = .ok (.iload_n 0, 1) := by decide +kernel
theorem d1_174 : decode prog_102_method_4_code 174 = .ok (.ldc 27, 2) := by decide +kernel
theorem d1_176 : decode prog_102_method_4_code 176 = .ok (.if_icmp .le 15, 3) := by decide +kernel
theorem d1_179 : decode prog_102_method_4_code 179 = .ok (.iload_n 0, 1) := by decide +kernel
theorem d1_180 : decode prog_102_method_4_code 180 = .ok (.ldc 28, 2) := by decide +kernel
theorem d1_182 : decode prog_102_method_4_code 182 = .ok (.if_icmp .lt 13, 3) := by decide +kernel
theorem d1_185 : decode prog_102_method_4_code 185 = .ok (.iload_n 0, 1) := by decide +kernel
theorem d1_186 : decode prog_102_method_4_code 186 = .ok (.ldc 29, 2) := by decide +kernel
theorem d1_188 : decode prog_102_method_4_code 188 = .ok (.if_icmp .gt 7, 3) := by decide +kernel
theorem d1_191 : decode prog_102_method_4_code 191 = .ok (.iconst 1, 1) := by decide +kernel
theorem d1_192 : decode prog_102_method_4_code 192 = .ok (.goto 4, 3) := by decide +kernel
theorem d1_195 : decode prog_102_method_4_code 195 = .ok (.iconst 0, 1) := by decide +kernel
theorem d1_196 : decode prog_102_method_4_code 196 = .ok (.ireturn, 1) := by decide +kernel
def f1_195_r  : Int32 := (0 : Int32)
def f1_191_r  : Int32 := (1 : Int32)
def f1_179_r (i0 : Int32) : Int32 := if i0 < (65536 : Int32) then f1_195_r else if (983039 : Int32) < i0 then f1_195_r else f1_191_r
def f1_167_r (i0 : Int32) : Int32 := if i0 < (65008 : Int32) then f1_179_r i0 else if (65533 : Int32) < i0 then f1_179_r i0 else f1_191_r
def f1_155_r (i0 : Int32) : Int32 := if i0 < (63744 : Int32) then f1_167_r i0 else if (64975 : Int32) < i0 then f1_167_r i0 else f1_191_r
def f1_142_r (i0 : Int32) : Int32 := if i0 < (12289 : Int32) then f1_155_r i0 else if (55295 : Int32) < i0 then f1_155_r i0 else f1_191_r
def f1_128_r (i0 : Int32) : Int32 := if i0 < (11264 : Int32) then f1_142_r i0 else if (12271 : Int32) < i0 then f1_142_r i0 else f1_191_r
def f1_100_r (i0 : Int32) : Int32 := if i0 = (8204 : Int32) then f1_191_r else if i0 = (8205 : Int32) then f1_191_r else if i0 < (8304 : Int32) then f1_128_r i0 else if (8591 : Int32) < i0 then f1_128_r i0 else f1_191_r
def f1_86_r (i0 : Int32) : Int32 := if i0 < (895 : Int32) then f1_100_r i0 else if (8191 : Int32) < i0 then f1_100_r i0 else f1_191_r
def f1_72_r (i0 : Int32) : Int32 := if i0 < (880 : Int32) then f1_86_r i0 else if (893 : Int32) < i0 then f1_86_r i0 else f1_191_r
def f1_58_r (i0 : Int32) : Int32 := if i0 < (248 : Int32) then f1_72_r i0 else if (767 : Int32) < i0 then f1_72_r i0 else f1_191_r
def f1_44_r (i0 : Int32) : Int32 := if i0 < (216 : Int32) then f1_58_r i0 else if (246 : Int32) < i0 then f1_58_r i0 else f1_191_r
def f1_24_r (i0 : Int32) : Int32 := if i0 = (95 : Int32) then f1_191_r else if i0 < (192 : Int32) then f1_44_r i0 else if (214 : Int32) < i0 then f1_44_r i0 else f1_191_r
def f1_12_r (i0 : Int32) : Int32 := if i0 < (65 : Int32) then f1_24_r i0 else if (90 : Int32) < i0 then f1_24_r i0 else f1_191_r
def f1_0_r (i0 : Int32) : Int32 := if i0 < (97 : Int32) then f1_12_r i0 else if (122 : Int32) < i0 then f1_12_r i0 else f1_191_r
set_option maxRecDepth 65536 in
set_option maxHeartbeats 40000000 in
theorem f1_195 {p : Program} {l : Launch} {e : Env} {R : Room} {s : State} {m : MethodId} {args : Array Value} {below : List Frame} {meth : Method} {c : Code} {T : State} {locs : List Loc} {cells slots : Nat} {Z : State} {a0 : Array Value} {target : State} (i0 : Int32) (X : Stand p l e R s m args below meth c T locs cells slots) (hx : p.tables.exec = Jvm.exec) (hZ : Z.Warmed39 s.vm) (hw : ∀ d ∈ tables_1, d.before a0 Z = true) (hby : c.code = prog_102_method_4_code) (hown : s.vm.findClass "com/example/node_sieve/nodesieve/XPathChars" = some m.cls) (k : ∀ (pc : Nat) (Ls : Array Slot), decode c.code pc = .ok (.ireturn, 1) → Steps p.tables e below (T.setTop (mkF m pc Ls [(.int (f1_195_r))])) target) :
    Steps p.tables e below (T.setTop (mkF m 195 #[.val (.int i0)] [])) target := by
  show Steps p.tables e below (T.setTop (mkF m 195 #[.val (.int i0)] [])) _
  refine XS.iconst X.here hx rfl (hb hby d1_195) ?_
  have e_r : (f1_195_r) = (0 : Int32) := by rfl
  rw [e_r] at k
  exact k _ _ (hb hby d1_196)
set_option maxRecDepth 65536 in
set_option maxHeartbeats 40000000 in
theorem f1_191 {p : Program} {l : Launch} {e : Env} {R : Room} {s : State} {m : MethodId} {args : Array Value} {below : List Frame} {meth : Method} {c : Code} {T : State} {locs : List Loc} {cells slots : Nat} {Z : State} {a0 : Array Value} {target : State} (i0 : Int32) (X : Stand p l e R s m args below meth c T locs cells slots) (hx : p.tables.exec = Jvm.exec) (hZ : Z.Warmed39 s.vm) (hw : ∀ d ∈ tables_1, d.before a0 Z = true) (hby : c.code = prog_102_method_4_code) (hown : s.vm.findClass "com/example/node_sieve/nodesieve/XPathChars" = some m.cls) (k : ∀ (pc : Nat) (Ls : Array Slot), decode c.code pc = .ok (.ireturn, 1) → Steps p.tables e below (T.setTop (mkF m pc Ls [(.int (f1_191_r))])) target) :
    Steps p.tables e below (T.setTop (mkF m 191 #[.val (.int i0)] [])) target := by
  show Steps p.tables e below (T.setTop (mkF m 191 #[.val (.int i0)] [])) _
  refine XS.iconst X.here hx rfl (hb hby d1_191) ?_
  show Steps p.tables e below (T.setTop (mkF m 192 #[.val (.int i0)] [(.int (1 : Int32))])) _
  refine XS.goto X.here hx rfl (pc0 := 192) (pc' := 196) rfl (hb hby d1_192) (by decide) (by decide) ?_
  have e_r : (f1_191_r) = (1 : Int32) := by rfl
  rw [e_r] at k
  exact k _ _ (hb hby d1_196)
set_option maxRecDepth 65536 in
set_option maxHeartbeats 40000000 in
theorem f1_179 {p : Program} {l : Launch} {e : Env} {R : Room} {s : State} {m : MethodId} {args : Array Value} {below : List Frame} {meth : Method} {c : Code} {T : State} {locs : List Loc} {cells slots : Nat} {Z : State} {a0 : Array Value} {target : State} (i0 : Int32) (X : Stand p l e R s m args below meth c T locs cells slots) (hx : p.tables.exec = Jvm.exec) (hZ : Z.Warmed39 s.vm) (hw : ∀ d ∈ tables_1, d.before a0 Z = true) (hby : c.code = prog_102_method_4_code) (hown : s.vm.findClass "com/example/node_sieve/nodesieve/XPathChars" = some m.cls) (k : ∀ (pc : Nat) (Ls : Array Slot), decode c.code pc = .ok (.ireturn, 1) → Steps p.tables e below (T.setTop (mkF m pc Ls [(.int (f1_179_r i0))])) target) :
    Steps p.tables e below (T.setTop (mkF m 179 #[.val (.int i0)] [])) target := by
  show Steps p.tables e below (T.setTop (mkF m 179 #[.val (.int i0)] [])) _
  refine XS.iloadN X.here hx rfl (hb hby d1_179) rfl ?_
  show Steps p.tables e below (T.setTop (mkF m 180 #[.val (.int i0)] [(.int i0)])) _
  refine X.ldcInt hx hown (mvT hZ (hw _ (List.mem_of_getElem? (i := 15) rfl))) (g := (mkF m 180 #[.val (.int i0)] [(.int i0)])) rfl (hb hby d1_180) _ ?_
  show Steps p.tables e below (T.setTop (mkF m 182 #[.val (.int i0)] [(.int (65536 : Int32)), (.int i0)])) _
  by_cases q182 : i0 < (65536 : Int32)
  · refine XS.icmpYes X.here hx rfl (pc0 := 182) (pc' := 195) rfl (hb hby d1_182) rfl (tlt q182).1 (by decide) (by decide) ?_
    have e_r : (f1_179_r i0) = f1_195_r := by unfold f1_179_r; rw [if_pos q182]
    rw [e_r] at k
    exact f1_195 i0 X hx hZ hw hby hown k
  · refine XS.icmpNo X.here hx rfl (hb hby d1_182) rfl (flt q182).1 ?_
    show Steps p.tables e below (T.setTop (mkF m 185 #[.val (.int i0)] [])) _
    refine XS.iloadN X.here hx rfl (hb hby d1_185) rfl ?_
    show Steps p.tables e below (T.setTop (mkF m 186 #[.val (.int i0)] [(.int i0)])) _
    refine X.ldcInt hx hown (mvT hZ (hw _ (List.mem_of_getElem? (i := 26) rfl))) (g := (mkF m 186 #[.val (.int i0)] [(.int i0)])) rfl (hb hby d1_186) _ ?_
    show Steps p.tables e below (T.setTop (mkF m 188 #[.val (.int i0)] [(.int (983039 : Int32)), (.int i0)])) _
    by_cases q188 : (983039 : Int32) < i0
    · refine XS.icmpYes X.here hx rfl (pc0 := 188) (pc' := 195) rfl (hb hby d1_188) rfl (tlt q188).2.2.1 (by decide) (by decide) ?_
      have e_r : (f1_179_r i0) = f1_195_r := by unfold f1_179_r; rw [if_neg q182, if_pos q188]
      rw [e_r] at k
      exact f1_195 i0 X hx hZ hw hby hown k
    · refine XS.icmpNo X.here hx rfl (hb hby d1_188) rfl (flt q188).2.2.1 ?_
      have e_r : (f1_179_r i0) = f1_191_r := by unfold f1_179_r; rw [if_neg q182, if_neg q188]
      rw [e_r] at k
      exact f1_191 i0 X hx hZ hw hby hown k
set_option maxRecDepth 65536 in
set_option maxHeartbeats 40000000 in
theorem f1_167 {p : Program} {l : Launch} {e : Env} {R : Room} {s : State} {m : MethodId} {args : Array Value} {below : List Frame} {meth : Method} {c : Code} {T : State} {locs : List Loc} {cells slots : Nat} {Z : State} {a0 : Array Value} {target : State} (i0 : Int32) (X : Stand p l e R s m args below meth c T locs cells slots) (hx : p.tables.exec = Jvm.exec) (hZ : Z.Warmed39 s.vm) (hw : ∀ d ∈ tables_1, d.before a0 Z = true) (hby : c.code = prog_102_method_4_code) (hown : s.vm.findClass "com/example/node_sieve/nodesieve/XPathChars" = some m.cls) (k : ∀ (pc : Nat) (Ls : Array Slot), decode c.code pc = .ok (.ireturn, 1) → Steps p.tables e below (T.setTop (mkF m pc Ls [(.int (f1_167_r i0))])) target) :
    Steps p.tables e below (T.setTop (mkF m 167 #[.val (.int i0)] [])) target := by
  show Steps p.tables e below (T.setTop (mkF m 167 #[.val (.int i0)] [])) _
  refine XS.iloadN X.here hx rfl (hb hby d1_167) rfl ?_
  show Steps p.tables e below (T.setTop (mkF m 168 #[.val (.int i0)] [(.int i0)])) _
  refine X.ldcInt hx hown (mvT hZ (hw _ (List.mem_of_getElem? (i := 14) rfl))) (g := (mkF m 168 #[.val (.int i0)] [(.int i0)])) rfl (hb hby d1_168) _ ?_
  show Steps p.tables e below (T.setTop (mkF m 170 #[.val (.int i0)] [(.int (65008 : Int32)), (.int i0)])) _
  by_cases q170 : i0 < (65008 : Int32)
  · refine XS.icmpYes X.here hx rfl (pc0 := 170) (pc' := 179) rfl (hb hby d1_170) rfl (tlt q170).1 (by decide) (by decide) ?_
    have e_r : (f1_167_r i0) = f1_179_r i0 := by unfold f1_167_r; rw [if_pos q170]
    rw [e_r] at k
    exact f1_179 i0 X hx hZ hw hby hown k
  · refine XS.icmpNo X.here hx rfl (hb hby d1_170) rfl (flt q170).1 ?_
    show Steps p.tables e below (T.setTop (mkF m 173 #[.val (.int i0)] [])) _
    refine XS.iloadN X.here hx rfl (hb hby d1_173) rfl ?_
    show Steps p.tables e below (T.setTop (mkF m 174 #[.val (.int i0)] [(.int i0)])) _
    refine X.ldcInt hx hown (mvT hZ (hw _ (List.mem_of_getElem? (i := 25) rfl))) (g := (mkF m 174 #[.val (.int i0)] [(.int i0)])) rfl (hb hby d1_174) _ ?_
    show Steps p.tables e below (T.setTop (mkF m 176 #[.val (.int i0)] [(.int (65533 : Int32)), (.int i0)])) _
    by_cases q176 : (65533 : Int32) < i0
    · refine XS.icmpNo X.here hx rfl (hb hby d1_176) rfl (tlt q176).2.2.2 ?_
      have e_r : (f1_167_r i0) = f1_179_r i0 := by unfold f1_167_r; rw [if_neg q170, if_pos q176]
      rw [e_r] at k
      exact f1_179 i0 X hx hZ hw hby hown k
    · refine XS.icmpYes X.here hx rfl (pc0 := 176) (pc' := 191) rfl (hb hby d1_176) rfl (flt q176).2.2.2 (by decide) (by decide) ?_
      have e_r : (f1_167_r i0) = f1_191_r := by unfold f1_167_r; rw [if_neg q170, if_neg q176]
      rw [e_r] at k
      exact f1_191 i0 X hx hZ hw hby hown k
set_option maxRecDepth 65536 in
set_option maxHeartbeats 40000000 in
theorem f1_155 {p : Program} {l : Launch} {e : Env} {R : Room} {s : State} {m : MethodId} {args : Array Value} {below : List Frame} {meth : Method} {c : Code} {T : State} {locs : List Loc} {cells slots : Nat} {Z : State} {a0 : Array Value} {target : State} (i0 : Int32) (X : Stand p l e R s m args below meth c T locs cells slots) (hx : p.tables.exec = Jvm.exec) (hZ : Z.Warmed39 s.vm) (hw : ∀ d ∈ tables_1, d.before a0 Z = true) (hby : c.code = prog_102_method_4_code) (hown : s.vm.findClass "com/example/node_sieve/nodesieve/XPathChars" = some m.cls) (k : ∀ (pc : Nat) (Ls : Array Slot), decode c.code pc = .ok (.ireturn, 1) → Steps p.tables e below (T.setTop (mkF m pc Ls [(.int (f1_155_r i0))])) target) :
    Steps p.tables e below (T.setTop (mkF m 155 #[.val (.int i0)] [])) target := by
  show Steps p.tables e below (T.setTop (mkF m 155 #[.val (.int i0)] [])) _
  refine XS.iloadN X.here hx rfl (hb hby d1_155) rfl ?_
  show Steps p.tables e below (T.setTop (mkF m 156 #[.val (.int i0)] [(.int i0)])) _
  refine X.ldcInt hx hown (mvT hZ (hw _ (List.mem_of_getElem? (i := 13) rfl))) (g := (mkF m 156 #[.val (.int i0)] [(.int i0)])) rfl (hb hby d1_156) _ ?_
  show Steps p.tables e below (T.setTop (mkF m 158 #[.val (.int i0)] [(.int (63744 : Int32)), (.int i0)])) _
  by_cases q158 : i0 < (63744 : Int32)
  · refine XS.icmpYes X.here hx rfl (pc0 := 158) (pc' := 167) rfl (hb hby d1_158) rfl (tlt q158).1 (by decide) (by decide) ?_
    have e_r : (f1_155_r i0) = f1_167_r i0 := by unfold f1_155_r; rw [if_pos q158]
    rw [e_r] at k
    exact f1_167 i0 X hx hZ hw hby hown k
  · refine XS.icmpNo X.here hx rfl (hb hby d1_158) rfl (flt q158).1 ?_
    show Steps p.tables e below (T.setTop (mkF m 161 #[.val (.int i0)] [])) _
    refine XS.iloadN X.here hx rfl (hb hby d1_161) rfl ?_
    show Steps p.tables e below (T.setTop (mkF m 162 #[.val (.int i0)] [(.int i0)])) _
    refine X.ldcInt hx hown (mvT hZ (hw _ (List.mem_of_getElem? (i := 24) rfl))) (g := (mkF m 162 #[.val (.int i0)] [(.int i0)])) rfl (hb hby d1_162) _ ?_
    show Steps p.tables e below (T.setTop (mkF m 164 #[.val (.int i0)] [(.int (64975 : Int32)), (.int i0)])) _
    by_cases q164 : (64975 : Int32) < i0
    · refine XS.icmpNo X.here hx rfl (hb hby d1_164) rfl (tlt q164).2.2.2 ?_
      have e_r : (f1_155_r i0) = f1_167_r i0 := by unfold f1_155_r; rw [if_neg q158, if_pos q164]
      rw [e_r] at k
      exact f1_167 i0 X hx hZ hw hby hown k
    · refine XS.icmpYes X.here hx rfl (pc0 := 164) (pc' := 191) rfl (hb hby d1_164) rfl (flt q164).2.2.2 (by decide) (by decide) ?_
      have e_r : (f1_155_r i0) = f1_191_r := by unfold f1_155_r; rw [if_neg q158, if_neg q164]
      rw [e_r] at k
      exact f1_191 i0 X hx hZ hw hby hown k
set_option maxRecDepth 65536 in
set_option maxHeartbeats 40000000 in
theorem f1_142 {p : Program} {l : Launch} {e : Env} {R : Room} {s : State} {m : MethodId} {args : Array Value} {below : List Frame} {meth : Method} {c : Code} {T : State} {locs : List Loc} {cells slots : Nat} {Z : State} {a0 : Array Value} {target : State} (i0 : Int32) (X : Stand p l e R s m args below meth c T locs cells slots) (hx : p.tables.exec = Jvm.exec) (hZ : Z.Warmed39 s.vm) (hw : ∀ d ∈ tables_1, d.before a0 Z = true) (hby : c.code = prog_102_method_4_code) (hown : s.vm.findClass "com/example/node_sieve/nodesieve/XPathChars" = some m.cls) (k : ∀ (pc : Nat) (Ls : Array Slot), decode c.code pc = .ok (.ireturn, 1) → Steps p.tables e below (T.setTop (mkF m pc Ls [(.int (f1_142_r i0))])) target) :
    Steps p.tables e below (T.setTop (mkF m 142 #[.val (.int i0)] [])) target := by
  show Steps p.tables e below (T.setTop (mkF m 142 #[.val (.int i0)] [])) _
  refine XS.iloadN X.here hx rfl (hb hby d1_142) rfl ?_
  show Steps p.tables e below (T.setTop (mkF m 143 #[.val (.int i0)] [(.int i0)])) _
  refine XS.sipush X.here hx rfl (hb hby d1_143) ?_
  show Steps p.tables e below (T.setTop (mkF m 146 #[.val (.int i0)] [(.int (12289 : Int32)), (.int i0)])) _
  by_cases q146 : i0 < (12289 : Int32)
  · refine XS.icmpYes X.here hx rfl (pc0 := 146) (pc' := 155) rfl (hb hby d1_146) rfl (tlt q146).1 (by decide) (by decide) ?_
    have e_r : (f1_142_r i0) = f1_155_r i0 := by unfold f1_142_r; rw [if_pos q146]
    rw [e_r] at k
    exact f1_155 i0 X hx hZ hw hby hown k
  · refine XS.icmpNo X.here hx rfl (hb hby d1_146) rfl (flt q146).1 ?_
    show Steps p.tables e below (T.setTop (mkF m 149 #[.val (.int i0)] [])) _
    refine XS.iloadN X.here hx rfl (hb hby d1_149) rfl ?_
    show Steps p.tables e below (T.setTop (mkF m 150 #[.val (.int i0)] [(.int i0)])) _
    refine X.ldcInt hx hown (mvT hZ (hw _ (List.mem_of_getElem? (i := 23) rfl))) (g := (mkF m 150 #[.val (.int i0)] [(.int i0)])) rfl (hb hby d1_150) _ ?_
    show Steps p.tables e below (T.setTop (mkF m 152 #[.val (.int i0)] [(.int (55295 : Int32)), (.int i0)])) _
    by_cases q152 : (55295 : Int32) < i0
    · refine XS.icmpNo X.here hx rfl (hb hby d1_152) rfl (tlt q152).2.2.2 ?_
      have e_r : (f1_142_r i0) = f1_155_r i0 := by unfold f1_142_r; rw [if_neg q146, if_pos q152]
      rw [e_r] at k
      exact f1_155 i0 X hx hZ hw hby hown k
    · refine XS.icmpYes X.here hx rfl (pc0 := 152) (pc' := 191) rfl (hb hby d1_152) rfl (flt q152).2.2.2 (by decide) (by decide) ?_
      have e_r : (f1_142_r i0) = f1_191_r := by unfold f1_142_r; rw [if_neg q146, if_neg q152]
      rw [e_r] at k
      exact f1_191 i0 X hx hZ hw hby hown k
set_option maxRecDepth 65536 in
set_option maxHeartbeats 40000000 in
theorem f1_128 {p : Program} {l : Launch} {e : Env} {R : Room} {s : State} {m : MethodId} {args : Array Value} {below : List Frame} {meth : Method} {c : Code} {T : State} {locs : List Loc} {cells slots : Nat} {Z : State} {a0 : Array Value} {target : State} (i0 : Int32) (X : Stand p l e R s m args below meth c T locs cells slots) (hx : p.tables.exec = Jvm.exec) (hZ : Z.Warmed39 s.vm) (hw : ∀ d ∈ tables_1, d.before a0 Z = true) (hby : c.code = prog_102_method_4_code) (hown : s.vm.findClass "com/example/node_sieve/nodesieve/XPathChars" = some m.cls) (k : ∀ (pc : Nat) (Ls : Array Slot), decode c.code pc = .ok (.ireturn, 1) → Steps p.tables e below (T.setTop (mkF m pc Ls [(.int (f1_128_r i0))])) target) :
    Steps p.tables e below (T.setTop (mkF m 128 #[.val (.int i0)] [])) target := by
  show Steps p.tables e below (T.setTop (mkF m 128 #[.val (.int i0)] [])) _
  refine XS.iloadN X.here hx rfl (hb hby d1_128) rfl ?_
  show Steps p.tables e below (T.setTop (mkF m 129 #[.val (.int i0)] [(.int i0)])) _
  refine XS.sipush X.here hx rfl (hb hby d1_129) ?_
  show Steps p.tables e below (T.setTop (mkF m 132 #[.val (.int i0)] [(.int (11264 : Int32)), (.int i0)])) _
  by_cases q132 : i0 < (11264 : Int32)
  · refine XS.icmpYes X.here hx rfl (pc0 := 132) (pc' := 142) rfl (hb hby d1_132) rfl (tlt q132).1 (by decide) (by decide) ?_
    have e_r : (f1_128_r i0) = f1_142_r i0 := by unfold f1_128_r; rw [if_pos q132]
    rw [e_r] at k
    exact f1_142 i0 X hx hZ hw hby hown k
  · refine XS.icmpNo X.here hx rfl (hb hby d1_132) rfl (flt q132).1 ?_
    show Steps p.tables e below (T.setTop (mkF m 135 #[.val (.int i0)] [])) _
    refine XS.iloadN X.here hx rfl (hb hby d1_135) rfl ?_
    show Steps p.tables e below (T.setTop (mkF m 136 #[.val (.int i0)] [(.int i0)])) _
    refine XS.sipush X.here hx rfl (hb hby d1_136) ?_
    show Steps p.tables e below (T.setTop (mkF m 139 #[.val (.int i0)] [(.int (12271 : Int32)), (.int i0)])) _
    by_cases q139 : (12271 : Int32) < i0
    · refine XS.icmpNo X.here hx rfl (hb hby d1_139) rfl (tlt q139).2.2.2 ?_
      have e_r : (f1_128_r i0) = f1_142_r i0 := by unfold f1_128_r; rw [if_neg q132, if_pos q139]
      rw [e_r] at k
      exact f1_142 i0 X hx hZ hw hby hown k
    · refine XS.icmpYes X.here hx rfl (pc0 := 139) (pc' := 191) rfl (hb hby d1_139) rfl (flt q139).2.2.2 (by decide) (by decide) ?_
      have e_r : (f1_128_r i0) = f1_191_r := by unfold f1_128_r; rw [if_neg q132, if_neg q139]
      rw [e_r] at k
      exact f1_191 i0 X hx hZ hw hby hown k
set_option maxRecDepth 65536 in
set_option maxHeartbeats 40000000 in
theorem f1_100 {p : Program} {l : Launch} {e : Env} {R : Room} {s : State} {m : MethodId} {args : Array Value} {below : List Frame} {meth : Method} {c : Code} {T : State} {locs : List Loc} {cells slots : Nat} {Z : State} {a0 : Array Value} {target : State} (i0 : Int32) (X : Stand p l e R s m args below meth c T locs cells slots) (hx : p.tables.exec = Jvm.exec) (hZ : Z.Warmed39 s.vm) (hw : ∀ d ∈ tables_1, d.before a0 Z = true) (hby : c.code = prog_102_method_4_code) (hown : s.vm.findClass "com/example/node_sieve/nodesieve/XPathChars" = some m.cls) (k : ∀ (pc : Nat) (Ls : Array Slot), decode c.code pc = .ok (.ireturn, 1) → Steps p.tables e below (T.setTop (mkF m pc Ls [(.int (f1_100_r i0))])) target) :
    Steps p.tables e below (T.setTop (mkF m 100 #[.val (.int i0)] [])) target := by
  show Steps p.tables e below (T.setTop (mkF m 100 #[.val (.int i0)] [])) _
  refine XS.iloadN X.here hx rfl (hb hby d1_100) rfl ?_
  show Steps p.tables e below (T.setTop (mkF m 101 #[.val (.int i0)] [(.int i0)])) _
  refine XS.sipush X.here hx rfl (hb hby d1_101) ?_
  show Steps p.tables e below (T.setTop (mkF m 104 #[.val (.int i0)] [(.int (8204 : Int32)), (.int i0)])) _
  by_cases q104 : i0 = (8204 : Int32)
  · refine XS.icmpYes X.here hx rfl (pc0 := 104) (pc' := 191) rfl (hb hby d1_104) rfl (teq q104).1 (by decide) (by decide) ?_
    have e_r : (f1_100_r i0) = f1_191_r := by unfold f1_100_r; rw [if_pos q104]
    rw [e_r] at k
    exact f1_191 i0 X hx hZ hw hby hown k
  · refine XS.icmpNo X.here hx rfl (hb hby d1_104) rfl (feq q104).1 ?_
    show Steps p.tables e below (T.setTop (mkF m 107 #[.val (.int i0)] [])) _
    refine XS.iloadN X.here hx rfl (hb hby d1_107) rfl ?_
    show Steps p.tables e below (T.setTop (mkF m 108 #[.val (.int i0)] [(.int i0)])) _
    refine XS.sipush X.here hx rfl (hb hby d1_108) ?_
    show Steps p.tables e below (T.setTop (mkF m 111 #[.val (.int i0)] [(.int (8205 : Int32)), (.int i0)])) _
    by_cases q111 : i0 = (8205 : Int32)
    · refine XS.icmpYes X.here hx rfl (pc0 := 111) (pc' := 191) rfl (hb hby d1_111) rfl (teq q111).1 (by decide) (by decide) ?_
      have e_r : (f1_100_r i0) = f1_191_r := by unfold f1_100_r; rw [if_neg q104, if_pos q111]
      rw [e_r] at k
      exact f1_191 i0 X hx hZ hw hby hown k
    · refine XS.icmpNo X.here hx rfl (hb hby d1_111) rfl (feq q111).1 ?_
      show Steps p.tables e below (T.setTop (mkF m 114 #[.val (.int i0)] [])) _
      refine XS.iloadN X.here hx rfl (hb hby d1_114) rfl ?_
      show Steps p.tables e below (T.setTop (mkF m 115 #[.val (.int i0)] [(.int i0)])) _
      refine XS.sipush X.here hx rfl (hb hby d1_115) ?_
      show Steps p.tables e below (T.setTop (mkF m 118 #[.val (.int i0)] [(.int (8304 : Int32)), (.int i0)])) _
      by_cases q118 : i0 < (8304 : Int32)
      · refine XS.icmpYes X.here hx rfl (pc0 := 118) (pc' := 128) rfl (hb hby d1_118) rfl (tlt q118).1 (by decide) (by decide) ?_
        have e_r : (f1_100_r i0) = f1_128_r i0 := by unfold f1_100_r; rw [if_neg q104, if_neg q111, if_pos q118]
        rw [e_r] at k
        exact f1_128 i0 X hx hZ hw hby hown k
      · refine XS.icmpNo X.here hx rfl (hb hby d1_118) rfl (flt q118).1 ?_
        show Steps p.tables e below (T.setTop (mkF m 121 #[.val (.int i0)] [])) _
        refine XS.iloadN X.here hx rfl (hb hby d1_121) rfl ?_
        show Steps p.tables e below (T.setTop (mkF m 122 #[.val (.int i0)] [(.int i0)])) _
        refine XS.sipush X.here hx rfl (hb hby d1_122) ?_
        show Steps p.tables e below (T.setTop (mkF m 125 #[.val (.int i0)] [(.int (8591 : Int32)), (.int i0)])) _
        by_cases q125 : (8591 : Int32) < i0
        · refine XS.icmpNo X.here hx rfl (hb hby d1_125) rfl (tlt q125).2.2.2 ?_
          have e_r : (f1_100_r i0) = f1_128_r i0 := by unfold f1_100_r; rw [if_neg q104, if_neg q111, if_neg q118, if_pos q125]
          rw [e_r] at k
          exact f1_128 i0 X hx hZ hw hby hown k
        · refine XS.icmpYes X.here hx rfl (pc0 := 125) (pc' := 191) rfl (hb hby d1_125) rfl (flt q125).2.2.2 (by decide) (by decide) ?_
          have e_r : (f1_100_r i0) = f1_191_r := by unfold f1_100_r; rw [if_neg q104, if_neg q111, if_neg q118, if_neg q125]
          rw [e_r] at k
          exact f1_191 i0 X hx hZ hw hby hown k
set_option maxRecDepth 65536 in
set_option maxHeartbeats 40000000 in
theorem f1_86 {p : Program} {l : Launch} {e : Env} {R : Room} {s : State} {m : MethodId} {args : Array Value} {below : List Frame} {meth : Method} {c : Code} {T : State} {locs : List Loc} {cells slots : Nat} {Z : State} {a0 : Array Value} {target : State} (i0 : Int32) (X : Stand p l e R s m args below meth c T locs cells slots) (hx : p.tables.exec = Jvm.exec) (hZ : Z.Warmed39 s.vm) (hw : ∀ d ∈ tables_1, d.before a0 Z = true) (hby : c.code = prog_102_method_4_code) (hown : s.vm.findClass "com/example/node_sieve/nodesieve/XPathChars" = some m.cls) (k : ∀ (pc : Nat) (Ls : Array Slot), decode c.code pc = .ok (.ireturn, 1) → Steps p.tables e below (T.setTop (mkF m pc Ls [(.int (f1_86_r i0))])) target) :
    Steps p.tables e below (T.setTop (mkF m 86 #[.val (.int i0)] [])) target := by
  show Steps p.tables e below (T.setTop (mkF m 86 #[.val (.int i0)] [])) _
  refine XS.iloadN X.here hx rfl (hb hby d1_86) rfl ?_
  show Steps p.tables e below (T.setTop (mkF m 87 #[.val (.int i0)] [(.int i0)])) _
  refine XS.sipush X.here hx rfl (hb hby d1_87) ?_
  show Steps p.tables e below (T.setTop (mkF m 90 #[.val (.int i0)] [(.int (895 : Int32)), (.int i0)])) _
  by_cases q90 : i0 < (895 : Int32)
  · refine XS.icmpYes X.here hx rfl (pc0 := 90) (pc' := 100) rfl (hb hby d1_90) rfl (tlt q90).1 (by decide) (by decide) ?_
    have e_r : (f1_86_r i0) = f1_100_r i0 := by unfold f1_86_r; rw [if_pos q90]
    rw [e_r] at k
    exact f1_100 i0 X hx hZ hw hby hown k
  · refine XS.icmpNo X.here hx rfl (hb hby d1_90) rfl (flt q90).1 ?_
    show Steps p.tables e below (T.setTop (mkF m 93 #[.val (.int i0)] [])) _
    refine XS.iloadN X.here hx rfl (hb hby d1_93) rfl ?_
    show Steps p.tables e below (T.setTop (mkF m 94 #[.val (.int i0)] [(.int i0)])) _
    refine XS.sipush X.here hx rfl (hb hby d1_94) ?_
    show Steps p.tables e below (T.setTop (mkF m 97 #[.val (.int i0)] [(.int (8191 : Int32)), (.int i0)])) _
    by_cases q97 : (8191 : Int32) < i0
    · refine XS.icmpNo X.here hx rfl (hb hby d1_97) rfl (tlt q97).2.2.2 ?_
      have e_r : (f1_86_r i0) = f1_100_r i0 := by unfold f1_86_r; rw [if_neg q90, if_pos q97]
      rw [e_r] at k
      exact f1_100 i0 X hx hZ hw hby hown k
    · refine XS.icmpYes X.here hx rfl (pc0 := 97) (pc' := 191) rfl (hb hby d1_97) rfl (flt q97).2.2.2 (by decide) (by decide) ?_
      have e_r : (f1_86_r i0) = f1_191_r := by unfold f1_86_r; rw [if_neg q90, if_neg q97]
      rw [e_r] at k
      exact f1_191 i0 X hx hZ hw hby hown k
set_option maxRecDepth 65536 in
set_option maxHeartbeats 40000000 in
theorem f1_72 {p : Program} {l : Launch} {e : Env} {R : Room} {s : State} {m : MethodId} {args : Array Value} {below : List Frame} {meth : Method} {c : Code} {T : State} {locs : List Loc} {cells slots : Nat} {Z : State} {a0 : Array Value} {target : State} (i0 : Int32) (X : Stand p l e R s m args below meth c T locs cells slots) (hx : p.tables.exec = Jvm.exec) (hZ : Z.Warmed39 s.vm) (hw : ∀ d ∈ tables_1, d.before a0 Z = true) (hby : c.code = prog_102_method_4_code) (hown : s.vm.findClass "com/example/node_sieve/nodesieve/XPathChars" = some m.cls) (k : ∀ (pc : Nat) (Ls : Array Slot), decode c.code pc = .ok (.ireturn, 1) → Steps p.tables e below (T.setTop (mkF m pc Ls [(.int (f1_72_r i0))])) target) :
    Steps p.tables e below (T.setTop (mkF m 72 #[.val (.int i0)] [])) target := by
  show Steps p.tables e below (T.setTop (mkF m 72 #[.val (.int i0)] [])) _
  refine XS.iloadN X.here hx rfl (hb hby d1_72) rfl ?_
  show Steps p.tables e below (T.setTop (mkF m 73 #[.val (.int i0)] [(.int i0)])) _
  refine XS.sipush X.here hx rfl (hb hby d1_73) ?_
  show Steps p.tables e below (T.setTop (mkF m 76 #[.val (.int i0)] [(.int (880 : Int32)), (.int i0)])) _
  by_cases q76 : i0 < (880 : Int32)
  · refine XS.icmpYes X.here hx rfl (pc0 := 76) (pc' := 86) rfl (hb hby d1_76) rfl (tlt q76).1 (by decide) (by decide) ?_
    have e_r : (f1_72_r i0) = f1_86_r i0 := by unfold f1_72_r; rw [if_pos q76]
    rw [e_r] at k
    exact f1_86 i0 X hx hZ hw hby hown k
  · refine XS.icmpNo X.here hx rfl (hb hby d1_76) rfl (flt q76).1 ?_
    show Steps p.tables e below (T.setTop (mkF m 79 #[.val (.int i0)] [])) _
    refine XS.iloadN X.here hx rfl (hb hby d1_79) rfl ?_
    show Steps p.tables e below (T.setTop (mkF m 80 #[.val (.int i0)] [(.int i0)])) _
    refine XS.sipush X.here hx rfl (hb hby d1_80) ?_
    show Steps p.tables e below (T.setTop (mkF m 83 #[.val (.int i0)] [(.int (893 : Int32)), (.int i0)])) _
    by_cases q83 : (893 : Int32) < i0
    · refine XS.icmpNo X.here hx rfl (hb hby d1_83) rfl (tlt q83).2.2.2 ?_
      have e_r : (f1_72_r i0) = f1_86_r i0 := by unfold f1_72_r; rw [if_neg q76, if_pos q83]
      rw [e_r] at k
      exact f1_86 i0 X hx hZ hw hby hown k
    · refine XS.icmpYes X.here hx rfl (pc0 := 83) (pc' := 191) rfl (hb hby d1_83) rfl (flt q83).2.2.2 (by decide) (by decide) ?_
      have e_r : (f1_72_r i0) = f1_191_r := by unfold f1_72_r; rw [if_neg q76, if_neg q83]
      rw [e_r] at k
      exact f1_191 i0 X hx hZ hw hby hown k
set_option maxRecDepth 65536 in
set_option maxHeartbeats 40000000 in
theorem f1_58 {p : Program} {l : Launch} {e : Env} {R : Room} {s : State} {m : MethodId} {args : Array Value} {below : List Frame} {meth : Method} {c : Code} {T : State} {locs : List Loc} {cells slots : Nat} {Z : State} {a0 : Array Value} {target : State} (i0 : Int32) (X : Stand p l e R s m args below meth c T locs cells slots) (hx : p.tables.exec = Jvm.exec) (hZ : Z.Warmed39 s.vm) (hw : ∀ d ∈ tables_1, d.before a0 Z = true) (hby : c.code = prog_102_method_4_code) (hown : s.vm.findClass "com/example/node_sieve/nodesieve/XPathChars" = some m.cls) (k : ∀ (pc : Nat) (Ls : Array Slot), decode c.code pc = .ok (.ireturn, 1) → Steps p.tables e below (T.setTop (mkF m pc Ls [(.int (f1_58_r i0))])) target) :
    Steps p.tables e below (T.setTop (mkF m 58 #[.val (.int i0)] [])) target := by
  show Steps p.tables e below (T.setTop (mkF m 58 #[.val (.int i0)] [])) _
  refine XS.iloadN X.here hx rfl (hb hby d1_58) rfl ?_
  show Steps p.tables e below (T.setTop (mkF m 59 #[.val (.int i0)] [(.int i0)])) _
  refine XS.sipush X.here hx rfl (hb hby d1_59) ?_
  show Steps p.tables e below (T.setTop (mkF m 62 #[.val (.int i0)] [(.int (248 : Int32)), (.int i0)])) _
  by_cases q62 : i0 < (248 : Int32)
  · refine XS.icmpYes X.here hx rfl (pc0 := 62) (pc' := 72) rfl (hb hby d1_62) rfl (tlt q62).1 (by decide) (by decide) ?_
    have e_r : (f1_58_r i0) = f1_72_r i0 := by unfold f1_58_r; rw [if_pos q62]
    rw [e_r] at k
    exact f1_72 i0 X hx hZ hw hby hown k
  · refine XS.icmpNo X.here hx rfl (hb hby d1_62) rfl (flt q62).1 ?_
    show Steps p.tables e below (T.setTop (mkF m 65 #[.val (.int i0)] [])) _
    refine XS.iloadN X.here hx rfl (hb hby d1_65) rfl ?_
    show Steps p.tables e below (T.setTop (mkF m 66 #[.val (.int i0)] [(.int i0)])) _
    refine XS.sipush X.here hx rfl (hb hby d1_66) ?_
    show Steps p.tables e below (T.setTop (mkF m 69 #[.val (.int i0)] [(.int (767 : Int32)), (.int i0)])) _
    by_cases q69 : (767 : Int32) < i0
    · refine XS.icmpNo X.here hx rfl (hb hby d1_69) rfl (tlt q69).2.2.2 ?_
      have e_r : (f1_58_r i0) = f1_72_r i0 := by unfold f1_58_r; rw [if_neg q62, if_pos q69]
      rw [e_r] at k
      exact f1_72 i0 X hx hZ hw hby hown k
    · refine XS.icmpYes X.here hx rfl (pc0 := 69) (pc' := 191) rfl (hb hby d1_69) rfl (flt q69).2.2.2 (by decide) (by decide) ?_
      have e_r : (f1_58_r i0) = f1_191_r := by unfold f1_58_r; rw [if_neg q62, if_neg q69]
      rw [e_r] at k
      exact f1_191 i0 X hx hZ hw hby hown k
set_option maxRecDepth 65536 in
set_option maxHeartbeats 40000000 in
theorem f1_44 {p : Program} {l : Launch} {e : Env} {R : Room} {s : State} {m : MethodId} {args : Array Value} {below : List Frame} {meth : Method} {c : Code} {T : State} {locs : List Loc} {cells slots : Nat} {Z : State} {a0 : Array Value} {target : State} (i0 : Int32) (X : Stand p l e R s m args below meth c T locs cells slots) (hx : p.tables.exec = Jvm.exec) (hZ : Z.Warmed39 s.vm) (hw : ∀ d ∈ tables_1, d.before a0 Z = true) (hby : c.code = prog_102_method_4_code) (hown : s.vm.findClass "com/example/node_sieve/nodesieve/XPathChars" = some m.cls) (k : ∀ (pc : Nat) (Ls : Array Slot), decode c.code pc = .ok (.ireturn, 1) → Steps p.tables e below (T.setTop (mkF m pc Ls [(.int (f1_44_r i0))])) target) :
    Steps p.tables e below (T.setTop (mkF m 44 #[.val (.int i0)] [])) target := by
  show Steps p.tables e below (T.setTop (mkF m 44 #[.val (.int i0)] [])) _
  refine XS.iloadN X.here hx rfl (hb hby d1_44) rfl ?_
  show Steps p.tables e below (T.setTop (mkF m 45 #[.val (.int i0)] [(.int i0)])) _
  refine XS.sipush X.here hx rfl (hb hby d1_45) ?_
  show Steps p.tables e below (T.setTop (mkF m 48 #[.val (.int i0)] [(.int (216 : Int32)), (.int i0)])) _
  by_cases q48 : i0 < (216 : Int32)
  · refine XS.icmpYes X.here hx rfl (pc0 := 48) (pc' := 58) rfl (hb hby d1_48) rfl (tlt q48).1 (by decide) (by decide) ?_
    have e_r : (f1_44_r i0) = f1_58_r i0 := by unfold f1_44_r; rw [if_pos q48]
    rw [e_r] at k
    exact f1_58 i0 X hx hZ hw hby hown k
  · refine XS.icmpNo X.here hx rfl (hb hby d1_48) rfl (flt q48).1 ?_
    show Steps p.tables e below (T.setTop (mkF m 51 #[.val (.int i0)] [])) _
    refine XS.iloadN X.here hx rfl (hb hby d1_51) rfl ?_
    show Steps p.tables e below (T.setTop (mkF m 52 #[.val (.int i0)] [(.int i0)])) _
    refine XS.sipush X.here hx rfl (hb hby d1_52) ?_
    show Steps p.tables e below (T.setTop (mkF m 55 #[.val (.int i0)] [(.int (246 : Int32)), (.int i0)])) _
    by_cases q55 : (246 : Int32) < i0
    · refine XS.icmpNo X.here hx rfl (hb hby d1_55) rfl (tlt q55).2.2.2 ?_
      have e_r : (f1_44_r i0) = f1_58_r i0 := by unfold f1_44_r; rw [if_neg q48, if_pos q55]
      rw [e_r] at k
      exact f1_58 i0 X hx hZ hw hby hown k
    · refine XS.icmpYes X.here hx rfl (pc0 := 55) (pc' := 191) rfl (hb hby d1_55) rfl (flt q55).2.2.2 (by decide) (by decide) ?_
      have e_r : (f1_44_r i0) = f1_191_r := by unfold f1_44_r; rw [if_neg q48, if_neg q55]
      rw [e_r] at k
      exact f1_191 i0 X hx hZ hw hby hown k
set_option maxRecDepth 65536 in
set_option maxHeartbeats 40000000 in
theorem f1_24 {p : Program} {l : Launch} {e : Env} {R : Room} {s : State} {m : MethodId} {args : Array Value} {below : List Frame} {meth : Method} {c : Code} {T : State} {locs : List Loc} {cells slots : Nat} {Z : State} {a0 : Array Value} {target : State} (i0 : Int32) (X : Stand p l e R s m args below meth c T locs cells slots) (hx : p.tables.exec = Jvm.exec) (hZ : Z.Warmed39 s.vm) (hw : ∀ d ∈ tables_1, d.before a0 Z = true) (hby : c.code = prog_102_method_4_code) (hown : s.vm.findClass "com/example/node_sieve/nodesieve/XPathChars" = some m.cls) (k : ∀ (pc : Nat) (Ls : Array Slot), decode c.code pc = .ok (.ireturn, 1) → Steps p.tables e below (T.setTop (mkF m pc Ls [(.int (f1_24_r i0))])) target) :
    Steps p.tables e below (T.setTop (mkF m 24 #[.val (.int i0)] [])) target := by
  show Steps p.tables e below (T.setTop (mkF m 24 #[.val (.int i0)] [])) _
  refine XS.iloadN X.here hx rfl (hb hby d1_24) rfl ?_
  show Steps p.tables e below (T.setTop (mkF m 25 #[.val (.int i0)] [(.int i0)])) _
  refine XS.bipush X.here hx rfl (hb hby d1_25) ?_
  show Steps p.tables e below (T.setTop (mkF m 27 #[.val (.int i0)] [(.int (95 : Int32)), (.int i0)])) _
  by_cases q27 : i0 = (95 : Int32)
  · refine XS.icmpYes X.here hx rfl (pc0 := 27) (pc' := 191) rfl (hb hby d1_27) rfl (teq q27).1 (by decide) (by decide) ?_
    have e_r : (f1_24_r i0) = f1_191_r := by unfold f1_24_r; rw [if_pos q27]
    rw [e_r] at k
    exact f1_191 i0 X hx hZ hw hby hown k
  · refine XS.icmpNo X.here hx rfl (hb hby d1_27) rfl (feq q27).1 ?_
    show Steps p.tables e below (T.setTop (mkF m 30 #[.val (.int i0)] [])) _
    refine XS.iloadN X.here hx rfl (hb hby d1_30) rfl ?_
    show Steps p.tables e below (T.setTop (mkF m 31 #[.val (.int i0)] [(.int i0)])) _
    refine XS.sipush X.here hx rfl (hb hby d1_31) ?_
    show Steps p.tables e below (T.setTop (mkF m 34 #[.val (.int i0)] [(.int (192 : Int32)), (.int i0)])) _
    by_cases q34 : i0 < (192 : Int32)
    · refine XS.icmpYes X.here hx rfl (pc0 := 34) (pc' := 44) rfl (hb hby d1_34) rfl (tlt q34).1 (by decide) (by decide) ?_
      have e_r : (f1_24_r i0) = f1_44_r i0 := by unfold f1_24_r; rw [if_neg q27, if_pos q34]
      rw [e_r] at k
      exact f1_44 i0 X hx hZ hw hby hown k
    · refine XS.icmpNo X.here hx rfl (hb hby d1_34) rfl (flt q34).1 ?_
      show Steps p.tables e below (T.setTop (mkF m 37 #[.val (.int i0)] [])) _
      refine XS.iloadN X.here hx rfl (hb hby d1_37) rfl ?_
      show Steps p.tables e below (T.setTop (mkF m 38 #[.val (.int i0)] [(.int i0)])) _
      refine XS.sipush X.here hx rfl (hb hby d1_38) ?_
      show Steps p.tables e below (T.setTop (mkF m 41 #[.val (.int i0)] [(.int (214 : Int32)), (.int i0)])) _
      by_cases q41 : (214 : Int32) < i0
      · refine XS.icmpNo X.here hx rfl (hb hby d1_41) rfl (tlt q41).2.2.2 ?_
        have e_r : (f1_24_r i0) = f1_44_r i0 := by unfold f1_24_r; rw [if_neg q27, if_neg q34, if_pos q41]
        rw [e_r] at k
        exact f1_44 i0 X hx hZ hw hby hown k
      · refine XS.icmpYes X.here hx rfl (pc0 := 41) (pc' := 191) rfl (hb hby d1_41) rfl (flt q41).2.2.2 (by decide) (by decide) ?_
        have e_r : (f1_24_r i0) = f1_191_r := by unfold f1_24_r; rw [if_neg q27, if_neg q34, if_neg q41]
        rw [e_r] at k
        exact f1_191 i0 X hx hZ hw hby hown k
set_option maxRecDepth 65536 in
set_option maxHeartbeats 40000000 in
theorem f1_12 {p : Program} {l : Launch} {e : Env} {R : Room} {s : State} {m : MethodId} {args : Array Value} {below : List Frame} {meth : Method} {c : Code} {T : State} {locs : List Loc} {cells slots : Nat} {Z : State} {a0 : Array Value} {target : State} (i0 : Int32) (X : Stand p l e R s m args below meth c T locs cells slots) (hx : p.tables.exec = Jvm.exec) (hZ : Z.Warmed39 s.vm) (hw : ∀ d ∈ tables_1, d.before a0 Z = true) (hby : c.code = prog_102_method_4_code) (hown : s.vm.findClass "com/example/node_sieve/nodesieve/XPathChars" = some m.cls) (k : ∀ (pc : Nat) (Ls : Array Slot), decode c.code pc = .ok (.ireturn, 1) → Steps p.tables e below (T.setTop (mkF m pc Ls [(.int (f1_12_r i0))])) target) :
    Steps p.tables e below (T.setTop (mkF m 12 #[.val (.int i0)] [])) target := by
  show Steps p.tables e below (T.setTop (mkF m 12 #[.val (.int i0)] [])) _
  refine XS.iloadN X.here hx rfl (hb hby d1_12) rfl ?_
  show Steps p.tables e below (T.setTop (mkF m 13 #[.val (.int i0)] [(.int i0)])) _
  refine XS.bipush X.here hx rfl (hb hby d1_13) ?_
  show Steps p.tables e below (T.setTop (mkF m 15 #[.val (.int i0)] [(.int (65 : Int32)), (.int i0)])) _
  by_cases q15 : i0 < (65 : Int32)
  · refine XS.icmpYes X.here hx rfl (pc0 := 15) (pc' := 24) rfl (hb hby d1_15) rfl (tlt q15).1 (by decide) (by decide) ?_
    have e_r : (f1_12_r i0) = f1_24_r i0 := by unfold f1_12_r; rw [if_pos q15]
    rw [e_r] at k
    exact f1_24 i0 X hx hZ hw hby hown k
  · refine XS.icmpNo X.here hx rfl (hb hby d1_15) rfl (flt q15).1 ?_
    show Steps p.tables e below (T.setTop (mkF m 18 #[.val (.int i0)] [])) _
    refine XS.iloadN X.here hx rfl (hb hby d1_18) rfl ?_
    show Steps p.tables e below (T.setTop (mkF m 19 #[.val (.int i0)] [(.int i0)])) _
    refine XS.bipush X.here hx rfl (hb hby d1_19) ?_
    show Steps p.tables e below (T.setTop (mkF m 21 #[.val (.int i0)] [(.int (90 : Int32)), (.int i0)])) _
    by_cases q21 : (90 : Int32) < i0
    · refine XS.icmpNo X.here hx rfl (hb hby d1_21) rfl (tlt q21).2.2.2 ?_
      have e_r : (f1_12_r i0) = f1_24_r i0 := by unfold f1_12_r; rw [if_neg q15, if_pos q21]
      rw [e_r] at k
      exact f1_24 i0 X hx hZ hw hby hown k
    · refine XS.icmpYes X.here hx rfl (pc0 := 21) (pc' := 191) rfl (hb hby d1_21) rfl (flt q21).2.2.2 (by decide) (by decide) ?_
      have e_r : (f1_12_r i0) = f1_191_r := by unfold f1_12_r; rw [if_neg q15, if_neg q21]
      rw [e_r] at k
      exact f1_191 i0 X hx hZ hw hby hown k
set_option maxRecDepth 65536 in
set_option maxHeartbeats 40000000 in
theorem f1_0 {p : Program} {l : Launch} {e : Env} {R : Room} {s : State} {m : MethodId} {args : Array Value} {below : List Frame} {meth : Method} {c : Code} {T : State} {locs : List Loc} {cells slots : Nat} {Z : State} {a0 : Array Value} {target : State} (i0 : Int32) (X : Stand p l e R s m args below meth c T locs cells slots) (hx : p.tables.exec = Jvm.exec) (hZ : Z.Warmed39 s.vm) (hw : ∀ d ∈ tables_1, d.before a0 Z = true) (hby : c.code = prog_102_method_4_code) (hown : s.vm.findClass "com/example/node_sieve/nodesieve/XPathChars" = some m.cls) (k : ∀ (pc : Nat) (Ls : Array Slot), decode c.code pc = .ok (.ireturn, 1) → Steps p.tables e below (T.setTop (mkF m pc Ls [(.int (f1_0_r i0))])) target) :
    Steps p.tables e below (T.setTop (mkF m 0 #[.val (.int i0)] [])) target := by
  show Steps p.tables e below (T.setTop (mkF m 0 #[.val (.int i0)] [])) _
  refine XS.iloadN X.here hx rfl (hb hby d1_0) rfl ?_
  show Steps p.tables e below (T.setTop (mkF m 1 #[.val (.int i0)] [(.int i0)])) _
  refine XS.bipush X.here hx rfl (hb hby d1_1) ?_
  show Steps p.tables e below (T.setTop (mkF m 3 #[.val (.int i0)] [(.int (97 : Int32)), (.int i0)])) _
  by_cases q3 : i0 < (97 : Int32)
  · refine XS.icmpYes X.here hx rfl (pc0 := 3) (pc' := 12) rfl (hb hby d1_3) rfl (tlt q3).1 (by decide) (by decide) ?_
    have e_r : (f1_0_r i0) = f1_12_r i0 := by unfold f1_0_r; rw [if_pos q3]
    rw [e_r] at k
    exact f1_12 i0 X hx hZ hw hby hown k
  · refine XS.icmpNo X.here hx rfl (hb hby d1_3) rfl (flt q3).1 ?_
    show Steps p.tables e below (T.setTop (mkF m 6 #[.val (.int i0)] [])) _
    refine XS.iloadN X.here hx rfl (hb hby d1_6) rfl ?_
    show Steps p.tables e below (T.setTop (mkF m 7 #[.val (.int i0)] [(.int i0)])) _
    refine XS.bipush X.here hx rfl (hb hby d1_7) ?_
    show Steps p.tables e below (T.setTop (mkF m 9 #[.val (.int i0)] [(.int (122 : Int32)), (.int i0)])) _
    by_cases q9 : (122 : Int32) < i0
    · refine XS.icmpNo X.here hx rfl (hb hby d1_9) rfl (tlt q9).2.2.2 ?_
      have e_r : (f1_0_r i0) = f1_12_r i0 := by unfold f1_0_r; rw [if_neg q3, if_pos q9]
      rw [e_r] at k
      exact f1_12 i0 X hx hZ hw hby hown k
    · refine XS.icmpYes X.here hx rfl (pc0 := 9) (pc' := 191) rfl (hb hby d1_9) rfl (flt q9).2.2.2 (by decide) (by decide) ?_
      have e_r : (f1_0_r i0) = f1_191_r := by unfold f1_0_r; rw [if_neg q3, if_neg q9]
      rw [e_r] at k
      exact f1_191 i0 X hx hZ hw hby hown k
theorem z01_f1_195_r  : (f1_195_r) = 0 ∨ (f1_195_r) = 1 := by
  unfold f1_195_r
  repeat' split
  all_goals first | exact Or.inl rfl | exact Or.inr rfl
theorem z01_f1_191_r  : (f1_191_r) = 0 ∨ (f1_191_r) = 1 := by
  unfold f1_191_r
  repeat' split
  all_goals first | exact Or.inl rfl | exact Or.inr rfl
theorem z01_f1_179_r (i0 : Int32) : (f1_179_r i0) = 0 ∨ (f1_179_r i0) = 1 := by
  unfold f1_179_r
  repeat' split
  all_goals first | exact Or.inl rfl | exact Or.inr rfl | exact z01_f1_195_r  | exact z01_f1_191_r 
theorem z01_f1_167_r (i0 : Int32) : (f1_167_r i0) = 0 ∨ (f1_167_r i0) = 1 := by
  unfold f1_167_r
  repeat' split
  all_goals first | exact Or.inl rfl | exact Or.inr rfl | exact z01_f1_179_r i0 | exact z01_f1_191_r 
theorem z01_f1_155_r (i0 : Int32) : (f1_155_r i0) = 0 ∨ (f1_155_r i0) = 1 := by
  unfold f1_155_r
  repeat' split
  all_goals first | exact Or.inl rfl | exact Or.inr rfl | exact z01_f1_167_r i0 | exact z01_f1_191_r 
theorem z01_f1_142_r (i0 : Int32) : (f1_142_r i0) = 0 ∨ (f1_142_r i0) = 1 := by
  unfold f1_142_r
  repeat' split
  all_goals first | exact Or.inl rfl | exact Or.inr rfl | exact z01_f1_155_r i0 | exact z01_f1_191_r 
theorem z01_f1_128_r (i0 : Int32) : (f1_128_r i0) = 0 ∨ (f1_128_r i0) = 1 := by
  unfold f1_128_r
  repeat' split
  all_goals first | exact Or.inl rfl | exact Or.inr rfl | exact z01_f1_142_r i0 | exact z01_f1_191_r 
theorem z01_f1_100_r (i0 : Int32) : (f1_100_r i0) = 0 ∨ (f1_100_r i0) = 1 := by
  unfold f1_100_r
  repeat' split
  all_goals first | exact Or.inl rfl | exact Or.inr rfl | exact z01_f1_191_r  | exact z01_f1_128_r i0
theorem z01_f1_86_r (i0 : Int32) : (f1_86_r i0) = 0 ∨ (f1_86_r i0) = 1 := by
  unfold f1_86_r
  repeat' split
  all_goals first | exact Or.inl rfl | exact Or.inr rfl | exact z01_f1_100_r i0 | exact z01_f1_191_r 
theorem z01_f1_72_r (i0 : Int32) : (f1_72_r i0) = 0 ∨ (f1_72_r i0) = 1 := by
  unfold f1_72_r
  repeat' split
  all_goals first | exact Or.inl rfl | exact Or.inr rfl | exact z01_f1_86_r i0 | exact z01_f1_191_r 
theorem z01_f1_58_r (i0 : Int32) : (f1_58_r i0) = 0 ∨ (f1_58_r i0) = 1 := by
  unfold f1_58_r
  repeat' split
  all_goals first | exact Or.inl rfl | exact Or.inr rfl | exact z01_f1_72_r i0 | exact z01_f1_191_r 
theorem z01_f1_44_r (i0 : Int32) : (f1_44_r i0) = 0 ∨ (f1_44_r i0) = 1 := by
  unfold f1_44_r
  repeat' split
  all_goals first | exact Or.inl rfl | exact Or.inr rfl | exact z01_f1_58_r i0 | exact z01_f1_191_r 
theorem z01_f1_24_r (i0 : Int32) : (f1_24_r i0) = 0 ∨ (f1_24_r i0) = 1 := by
  unfold f1_24_r
  repeat' split
  all_goals first | exact Or.inl rfl | exact Or.inr rfl | exact z01_f1_191_r  | exact z01_f1_44_r i0
theorem z01_f1_12_r (i0 : Int32) : (f1_12_r i0) = 0 ∨ (f1_12_r i0) = 1 := by
  unfold f1_12_r
  repeat' split
  all_goals first | exact Or.inl rfl | exact Or.inr rfl | exact z01_f1_24_r i0 | exact z01_f1_191_r 
theorem z01_f1_0_r (i0 : Int32) : (f1_0_r i0) = 0 ∨ (f1_0_r i0) = 1 := by
  unfold f1_0_r
  repeat' split
  all_goals first | exact Or.inl rfl | exact Or.inr rfl | exact z01_f1_12_r i0 | exact z01_f1_191_r 
theorem nz_f1 (p0 : Int32) : nar .boolean (f1_0_r p0) = (f1_0_r p0) := by rcases z01_f1_0_r p0 with h | h <;> rw [h] <;> rfl
theorem pn_0 : plainName "com/example/node_sieve/nodesieve/XPathChars" = true := by first | (simp [plainName, overriddenIn]; done) | decide +kernel
theorem ef_rm1 (m : MethodId) (x0 : Int32) : entryFrame m #[(.int x0)] 1 = mkF m 0 #[.val (.int x0)] [] := by first | (simp [entryFrame, mkF, argsToLocals, Value.category]; done) | rfl
def Q_rm1 (Z : State) (p0 : Int32) (h0 : Heap) (n0 : Nat) (v : Option Value) (h : Heap) (L : List Loc) : Prop := v = some (.int (f1_0_r p0)) ∧ Fr n0 L ∧ h = h0
set_option maxRecDepth 65536 in
set_option maxHeartbeats 40000000 in
theorem rm1 (l : Launch) (Z : State) (a0 : Array Value) (hw : ∀ d ∈ tables_1, d.before a0 Z = true) (ws : List Jvm.Cond) (p0 : Int32) (h0 : Heap) (n0 : Nat) (Z0 : n0 ≤ h0.size) :
    MetFree l (⟨"com/example/node_sieve/nodesieve/XPathChars", "isNameStart", "(I)Z"⟩ : MethodName) (head1 (Jvm.Cond.code (⟨"com/example/node_sieve/nodesieve/XPathChars", "isNameStart", "(I)Z"⟩ : MethodName) prog_102_method_4_code 1 (some .boolean) :: ws) ({ frames := 0, cells := 0, slots := 0, locals := 0 } : Room)) (fun a U => a = #[(.int p0)] ∧ Z.Warmed39 U.vm ∧ U.heap = h0) (fun _ _ _ _ _ => True) (fun _ U o U' => ∃ v L, o = .returned v ∧ Q_rm1 Z p0 h0 n0 v U'.heap L ∧ FrameEnd U o U' L ({ frames := 0, cells := 0, slots := 0, locals := 0 } : Room).cells ({ frames := 0, cells := 0, slots := 0, locals := 0 } : Room).slots) := by
  refine MetFree.of_bodySF (plainFor_of_name pn_0) hisR ?_
  intro p e s m args below meth c s₁ Bd hml0 hP hK
  obtain ⟨rfl, hZ, hh⟩ := hP
  have hx := Bd.exec
  have hby := Bd.bytes
  have hml : c.maxLocals = 1 := hml0
  have hown : s.vm.findClass "com/example/node_sieve/nodesieve/XPathChars" = some m.cls := findClass_of_methodNamed Bd.named
  have hnm := (name_of_methodNamed Bd.named Bd.method).1
  have X0 : Stand p l e ({ frames := 0, cells := 0, slots := 0, locals := 0 } : Room) s m #[(.int p0)] below meth c s₁ [] 0 0 := Stand.of_body Bd
  have e0 : s₁.heap = h0 := by rw [← hh, Bd.state]; rfl
  have N0 := Fr.nil n0
  have c0 : ∀ τ, Steps p.tables e below (s₁.setTop (mkF m 0 #[.val (.int p0)] [])) τ → Steps p.tables e below (s₁.setTop (entryFrame m #[(.int p0)] 1)) τ := fun τ κ => castTop (ef_rm1 m p0) κ
  obtain ⟨fs, hr, hrun, hended, hW, hsame⟩ := X0.leave (v := some (.int (f1_0_r p0))) (fun h => by rw [Bd.returns] at h; cases h)
  refine ⟨_, _, c0 _ (f1_0 p0 X0 hx hZ hw hby hown (fun pc Ls hd => retN X0 hx (t := .boolean) Bd.returns (by simp) hd (by rw [nz_f1 p0]; exact hr))), hrun, hended, _, _, rfl, ?_, ⟨_, rfl⟩, hW, hsame.mono (by decide) (by decide)⟩
  show Q_rm1 Z p0 h0 n0 _ s₁.heap _
  rw [e0]
  exact ⟨rfl, N0, rfl⟩
theorem d3_0 : decode method_2_code 0 = .ok (.iload_n 0, 1) := by decide +kernel
theorem d3_1 : decode method_2_code 1 = .ok (.iload_n 1, 1) := by decide +kernel
theorem d3_2 : decode method_2_code 2 = .ok (.if_icmp .lt 7, 3) := by decide +kernel
theorem d3_5 : decode method_2_code 5 = .ok (.iconst 1, 1) := by decide +kernel
theorem d3_6 : decode method_2_code 6 = .ok (.goto 4, 3) := by decide +kernel
theorem d3_9 : decode method_2_code 9 = .ok (.iconst 0, 1) := by decide +kernel
theorem d3_10 : decode method_2_code 10 = .ok (.ireturn, 1) := by decide +kernel
def f3_0_r (i0 : Int32) (i1 : Int32) : Int32 := if i0 < i1 then (0 : Int32) else (1 : Int32)
set_option maxRecDepth 65536 in
set_option maxHeartbeats 40000000 in
theorem f3_0 {p : Program} {l : Launch} {e : Env} {R : Room} {s : State} {m : MethodId} {args : Array Value} {below : List Frame} {meth : Method} {c : Code} {T : State} {locs : List Loc} {cells slots : Nat} {Z : State} {a0 : Array Value} {target : State} (i0 : Int32) (i1 : Int32) (X : Stand p l e R s m args below meth c T locs cells slots) (hx : p.tables.exec = Jvm.exec) (hZ : Z.Warmed39 s.vm) (hw : ∀ d ∈ tables_1, d.before a0 Z = true) (hby : c.code = method_2_code) (hown : s.vm.findClass "com/example/node_sieve/nodesieve/XPathCharsIsNameStartPinLaw" = some m.cls) (k : ∀ (pc : Nat) (Ls : Array Slot), decode c.code pc = .ok (.ireturn, 1) → Steps p.tables e below (T.setTop (mkF m pc Ls [(.int (f3_0_r i0 i1))])) target) :
    Steps p.tables e below (T.setTop (mkF m 0 #[.val (.int i0), .val (.int i1)] [])) target := by
  show Steps p.tables e below (T.setTop (mkF m 0 #[.val (.int i0), .val (.int i1)] [])) _
  refine XS.iloadN X.here hx rfl (hb hby d3_0) rfl ?_
  show Steps p.tables e below (T.setTop (mkF m 1 #[.val (.int i0), .val (.int i1)] [(.int i0)])) _
  refine XS.iloadN X.here hx rfl (hb hby d3_1) rfl ?_
  show Steps p.tables e below (T.setTop (mkF m 2 #[.val (.int i0), .val (.int i1)] [(.int i1), (.int i0)])) _
  by_cases q2 : i0 < i1
  · refine XS.icmpYes X.here hx rfl (pc0 := 2) (pc' := 9) rfl (hb hby d3_2) rfl (tlt q2).1 (by decide) (by decide) ?_
    show Steps p.tables e below (T.setTop (mkF m 9 #[.val (.int i0), .val (.int i1)] [])) _
    refine XS.iconst X.here hx rfl (hb hby d3_9) ?_
    have e_r : (f3_0_r i0 i1) = (0 : Int32) := by unfold f3_0_r; rw [if_pos q2]
    rw [e_r] at k
    exact k _ _ (hb hby d3_10)
  · refine XS.icmpNo X.here hx rfl (hb hby d3_2) rfl (flt q2).1 ?_
    show Steps p.tables e below (T.setTop (mkF m 5 #[.val (.int i0), .val (.int i1)] [])) _
    refine XS.iconst X.here hx rfl (hb hby d3_5) ?_
    show Steps p.tables e below (T.setTop (mkF m 6 #[.val (.int i0), .val (.int i1)] [(.int (1 : Int32))])) _
    refine XS.goto X.here hx rfl (pc0 := 6) (pc' := 10) rfl (hb hby d3_6) (by decide) (by decide) ?_
    have e_r : (f3_0_r i0 i1) = (1 : Int32) := by unfold f3_0_r; rw [if_neg q2]
    rw [e_r] at k
    exact k _ _ (hb hby d3_10)
theorem pn_1 : plainName "com/example/node_sieve/nodesieve/XPathCharsIsNameStartPinLaw" = true := by first | (simp [plainName, overriddenIn]; done) | decide +kernel
theorem ef_rm3 (m : MethodId) (x0 : Int32) (x1 : Int32) : entryFrame m #[(.int x0), (.int x1)] 2 = mkF m 0 #[.val (.int x0), .val (.int x1)] [] := by first | (simp [entryFrame, mkF, argsToLocals, Value.category]; done) | rfl
def Q_rm3 (Z : State) (p0 : Int32) (p1 : Int32) (h0 : Heap) (n0 : Nat) (v : Option Value) (h : Heap) (L : List Loc) : Prop := v = some (.int (f3_0_r p0 p1)) ∧ Fr n0 L ∧ h = h0
set_option maxRecDepth 65536 in
set_option maxHeartbeats 40000000 in
theorem rm3 (l : Launch) (Z : State) (a0 : Array Value) (hw : ∀ d ∈ tables_1, d.before a0 Z = true) (ws : List Jvm.Cond) (p0 : Int32) (p1 : Int32) (h0 : Heap) (n0 : Nat) (Z0 : n0 ≤ h0.size) :
    MetFree l (⟨"com/example/node_sieve/nodesieve/XPathCharsIsNameStartPinLaw", "ge", "(II)I"⟩ : MethodName) (head1 (Jvm.Cond.code (⟨"com/example/node_sieve/nodesieve/XPathCharsIsNameStartPinLaw", "ge", "(II)I"⟩ : MethodName) method_2_code 2 (some .int) :: ws) ({ frames := 0, cells := 0, slots := 0, locals := 0 } : Room)) (fun a U => a = #[(.int p0), (.int p1)] ∧ Z.Warmed39 U.vm ∧ U.heap = h0) (fun _ _ _ _ _ => True) (fun _ U o U' => ∃ v L, o = .returned v ∧ Q_rm3 Z p0 p1 h0 n0 v U'.heap L ∧ FrameEnd U o U' L ({ frames := 0, cells := 0, slots := 0, locals := 0 } : Room).cells ({ frames := 0, cells := 0, slots := 0, locals := 0 } : Room).slots) := by
  refine MetFree.of_bodySF (plainFor_of_name pn_1) hisR ?_
  intro p e s m args below meth c s₁ Bd hml0 hP hK
  obtain ⟨rfl, hZ, hh⟩ := hP
  have hx := Bd.exec
  have hby := Bd.bytes
  have hml : c.maxLocals = 2 := hml0
  have hown : s.vm.findClass "com/example/node_sieve/nodesieve/XPathCharsIsNameStartPinLaw" = some m.cls := findClass_of_methodNamed Bd.named
  have hnm := (name_of_methodNamed Bd.named Bd.method).1
  have X0 : Stand p l e ({ frames := 0, cells := 0, slots := 0, locals := 0 } : Room) s m #[(.int p0), (.int p1)] below meth c s₁ [] 0 0 := Stand.of_body Bd
  have e0 : s₁.heap = h0 := by rw [← hh, Bd.state]; rfl
  have N0 := Fr.nil n0
  have c0 : ∀ τ, Steps p.tables e below (s₁.setTop (mkF m 0 #[.val (.int p0), .val (.int p1)] [])) τ → Steps p.tables e below (s₁.setTop (entryFrame m #[(.int p0), (.int p1)] 2)) τ := fun τ κ => castTop (ef_rm3 m p0 p1) κ
  obtain ⟨fs, hr, hrun, hended, hW, hsame⟩ := X0.leave (v := some (.int (f3_0_r p0 p1))) (fun h => by rw [Bd.returns] at h; cases h)
  refine ⟨_, _, c0 _ (f3_0 p0 p1 X0 hx hZ hw hby hown (fun pc Ls hd => retI X0 hx Bd.returns hd hr)), hrun, hended, _, _, rfl, ?_, ⟨_, rfl⟩, hW, hsame.mono (by decide) (by decide)⟩
  show Q_rm3 Z p0 p1 h0 n0 _ s₁.heap _
  rw [e0]
  exact ⟨rfl, N0, rfl⟩
def own_s0 (c : Int32) : Int32 := (f3_0_r c (65 : Int32))
def own_s1 (c : Int32) : Int32 := own_s0 c + (f3_0_r c (91 : Int32))
def own_s2 (c : Int32) : Int32 := own_s1 c + (f3_0_r c (95 : Int32))
def own_s3 (c : Int32) : Int32 := own_s2 c + (f3_0_r c (96 : Int32))
def own_s4 (c : Int32) : Int32 := own_s3 c + (f3_0_r c (97 : Int32))
def own_s5 (c : Int32) : Int32 := own_s4 c + (f3_0_r c (123 : Int32))
def own_s6 (c : Int32) : Int32 := own_s5 c + (f3_0_r c (192 : Int32))
def own_s7 (c : Int32) : Int32 := own_s6 c + (f3_0_r c (215 : Int32))
def own_s8 (c : Int32) : Int32 := own_s7 c + (f3_0_r c (216 : Int32))
def own_s9 (c : Int32) : Int32 := own_s8 c + (f3_0_r c (247 : Int32))
def own_s10 (c : Int32) : Int32 := own_s9 c + (f3_0_r c (248 : Int32))
def own_s11 (c : Int32) : Int32 := own_s10 c + (f3_0_r c (768 : Int32))
def own_s12 (c : Int32) : Int32 := own_s11 c + (f3_0_r c (880 : Int32))
def own_s13 (c : Int32) : Int32 := own_s12 c + (f3_0_r c (894 : Int32))
def own_s14 (c : Int32) : Int32 := own_s13 c + (f3_0_r c (895 : Int32))
def own_s15 (c : Int32) : Int32 := own_s14 c + (f3_0_r c (8192 : Int32))
def own_s16 (c : Int32) : Int32 := own_s15 c + (f3_0_r c (8204 : Int32))
def own_s17 (c : Int32) : Int32 := own_s16 c + (f3_0_r c (8206 : Int32))
def own_s18 (c : Int32) : Int32 := own_s17 c + (f3_0_r c (8304 : Int32))
def own_s19 (c : Int32) : Int32 := own_s18 c + (f3_0_r c (8592 : Int32))
def own_s20 (c : Int32) : Int32 := own_s19 c + (f3_0_r c (11264 : Int32))
def own_s21 (c : Int32) : Int32 := own_s20 c + (f3_0_r c (12272 : Int32))
def own_s22 (c : Int32) : Int32 := own_s21 c + (f3_0_r c (12289 : Int32))
def own_s23 (c : Int32) : Int32 := own_s22 c + (f3_0_r c (55296 : Int32))
def own_s24 (c : Int32) : Int32 := own_s23 c + (f3_0_r c (63744 : Int32))
def own_s25 (c : Int32) : Int32 := own_s24 c + (f3_0_r c (64976 : Int32))
def own_s26 (c : Int32) : Int32 := own_s25 c + (f3_0_r c (65008 : Int32))
def own_s27 (c : Int32) : Int32 := own_s26 c + (f3_0_r c (65534 : Int32))
def own_s28 (c : Int32) : Int32 := own_s27 c + (f3_0_r c (65536 : Int32))
def own_s29 (c : Int32) : Int32 := own_s28 c + (f3_0_r c (983040 : Int32))
theorem d2_0 : decode method_3_code 0 = .ok (.iload_n 1, 1) := by decide +kernel
theorem d2_1 : decode method_3_code 1 = .ok (.aload_n 0, 1) := by decide +kernel
theorem d2_2 : decode method_3_code 2 = .ok (.iconst 0, 1) := by decide +kernel
theorem d2_3 : decode method_3_code 3 = .ok (.iaload, 1) := by decide +kernel
theorem d2_4 : decode method_3_code 4 = .ok (.invokestatic 7, 3) := by decide +kernel
theorem d2_7 : decode method_3_code 7 = .ok (.iload_n 1, 1) := by decide +kernel
theorem d2_8 : decode method_3_code 8 = .ok (.aload_n 0, 1) := by decide +kernel
theorem d2_9 : decode method_3_code 9 = .ok (.iconst 1, 1) := by decide +kernel
theorem d2_10 : decode method_3_code 10 = .ok (.iaload, 1) := by decide +kernel
theorem d2_11 : decode method_3_code 11 = .ok (.invokestatic 7, 3) := by decide +kernel
theorem d2_14 : decode method_3_code 14 = .ok (.iadd, 1) := by decide +kernel
theorem d2_15 : decode method_3_code 15 = .ok (.iload_n 1, 1) := by decide +kernel
theorem d2_16 : decode method_3_code 16 = .ok (.aload_n 0, 1) := by decide +kernel
theorem d2_17 : decode method_3_code 17 = .ok (.iconst 2, 1) := by decide +kernel
theorem d2_18 : decode method_3_code 18 = .ok (.iaload, 1) := by decide +kernel
theorem d2_19 : decode method_3_code 19 = .ok (.invokestatic 7, 3) := by decide +kernel
theorem d2_22 : decode method_3_code 22 = .ok (.iadd, 1) := by decide +kernel
theorem d2_23 : decode method_3_code 23 = .ok (.iload_n 1, 1) := by decide +kernel
theorem d2_24 : decode method_3_code 24 = .ok (.aload_n 0, 1) := by decide +kernel
theorem d2_25 : decode method_3_code 25 = .ok (.iconst 3, 1) := by decide +kernel
theorem d2_26 : decode method_3_code 26 = .ok (.iaload, 1) := by decide +kernel
theorem d2_27 : decode method_3_code 27 = .ok (.invokestatic 7, 3) := by decide +kernel
theorem d2_30 : decode method_3_code 30 = .ok (.iadd, 1) := by decide +kernel
theorem d2_31 : decode method_3_code 31 = .ok (.iload_n 1, 1) := by decide +kernel
theorem d2_32 : decode method_3_code 32 = .ok (.aload_n 0, 1) := by decide +kernel
theorem d2_33 : decode method_3_code 33 = .ok (.iconst 4, 1) := by decide +kernel
theorem d2_34 : decode method_3_code 34 = .ok (.iaload, 1) := by decide +kernel
theorem d2_35 : decode method_3_code 35 = .ok (.invokestatic 7, 3) := by decide +kernel
theorem d2_38 : decode method_3_code 38 = .ok (.iadd, 1) := by decide +kernel
theorem d2_39 : decode method_3_code 39 = .ok (.iload_n 1, 1) := by decide +kernel
theorem d2_40 : decode method_3_code 40 = .ok (.aload_n 0, 1) := by decide +kernel
theorem d2_41 : decode method_3_code 41 = .ok (.iconst 5, 1) := by decide +kernel
theorem d2_42 : decode method_3_code 42 = .ok (.iaload, 1) := by decide +kernel
theorem d2_43 : decode method_3_code 43 = .ok (.invokestatic 7, 3) := by decide +kernel
theorem d2_46 : decode method_3_code 46 = .ok (.iadd, 1) := by decide +kernel
theorem d2_47 : decode method_3_code 47 = .ok (.iload_n 1, 1) := by decide +kernel
theorem d2_48 : decode method_3_code 48 = .ok (.aload_n 0, 1) := by decide +kernel
theorem d2_49 : decode method_3_code 49 = .ok (.bipush 6, 2) := by decide +kernel
theorem d2_51 : decode method_3_code 51 = .ok (.iaload, 1) := by decide +kernel
theorem d2_52 : decode method_3_code 52 = .ok (.invokestatic 7, 3) := by decide +kernel
theorem d2_55 : decode method_3_code 55 = .ok (.iadd, 1) := by decide +kernel
theorem d2_56 : decode method_3_code 56 = .ok (.iload_n 1, 1) := by decide +kernel
theorem d2_57 : decode method_3_code 57 = .ok (.aload_n 0, 1) := by decide +kernel
theorem d2_58 : decode method_3_code 58 = .ok (.bipush 7, 2) := by decide +kernel
theorem d2_60 : decode method_3_code 60 = .ok (.iaload, 1) := by decide +kernel
theorem d2_61 : decode method_3_code 61 = .ok (.invokestatic 7, 3) := by decide +kernel
theorem d2_64 : decode method_3_code 64 = .ok (.iadd, 1) := by decide +kernel
theorem d2_65 : decode method_3_code 65 = .ok (.iload_n 1, 1) := by decide +kernel
theorem d2_66 : decode method_3_code 66 = .ok (.aload_n 0, 1) := by decide +kernel
theorem d2_67 : decode method_3_code 67 = .ok (.bipush 8, 2) := by decide +kernel
theorem d2_69 : decode method_3_code 69 = .ok (.iaload, 1) := by decide +kernel
theorem d2_70 : decode method_3_code 70 = .ok (.invokestatic 7, 3) := by decide +kernel
theorem d2_73 : decode method_3_code 73 = .ok (.iadd, 1) := by decide +kernel
theorem d2_74 : decode method_3_code 74 = .ok (.iload_n 1, 1) := by decide +kernel
theorem d2_75 : decode method_3_code 75 = .ok (.aload_n 0, 1) := by decide +kernel
theorem d2_76 : decode method_3_code 76 = .ok (.bipush 9, 2) := by decide +kernel
theorem d2_78 : decode method_3_code 78 = .ok (.iaload, 1) := by decide +kernel
theorem d2_79 : decode method_3_code 79 = .ok (.invokestatic 7, 3) := by decide +kernel
theorem d2_82 : decode method_3_code 82 = .ok (.iadd, 1) := by decide +kernel
theorem d2_83 : decode method_3_code 83 = .ok (.iload_n 1, 1) := by decide +kernel
theorem d2_84 : decode method_3_code 84 = .ok (.aload_n 0, 1) := by decide +kernel
theorem d2_85 : decode method_3_code 85 = .ok (.bipush 10, 2) := by decide +kernel
theorem d2_87 : decode method_3_code 87 = .ok (.iaload, 1) := by decide +kernel
theorem d2_88 : decode method_3_code 88 = .ok (.invokestatic 7, 3) := by decide +kernel
theorem d2_91 : decode method_3_code 91 = .ok (.iadd, 1) := by decide +kernel
theorem d2_92 : decode method_3_code 92 = .ok (.iload_n 1, 1) := by decide +kernel
theorem d2_93 : decode method_3_code 93 = .ok (.aload_n 0, 1) := by decide +kernel
theorem d2_94 : decode method_3_code 94 = .ok (.bipush 11, 2) := by decide +kernel
theorem d2_96 : decode method_3_code 96 = .ok (.iaload, 1) := by decide +kernel
theorem d2_97 : decode method_3_code 97 = .ok (.invokestatic 7, 3) := by decide +kernel
theorem d2_100 : decode method_3_code 100 = .ok (.iadd, 1) := by decide +kernel
theorem d2_101 : decode method_3_code 101 = .ok (.iload_n 1, 1) := by decide +kernel
theorem d2_102 : decode method_3_code 102 = .ok (.aload_n 0, 1) := by decide +kernel
theorem d2_103 : decode method_3_code 103 = .ok (.bipush 12, 2) := by decide +kernel
theorem d2_105 : decode method_3_code 105 = .ok (.iaload, 1) := by decide +kernel
theorem d2_106 : decode method_3_code 106 = .ok (.invokestatic 7, 3) := by decide +kernel
theorem d2_109 : decode method_3_code 109 = .ok (.iadd, 1) := by decide +kernel
theorem d2_110 : decode method_3_code 110 = .ok (.iload_n 1, 1) := by decide +kernel
theorem d2_111 : decode method_3_code 111 = .ok (.aload_n 0, 1) := by decide +kernel
theorem d2_112 : decode method_3_code 112 = .ok (.bipush 13, 2) := by decide +kernel
theorem d2_114 : decode method_3_code 114 = .ok (.iaload, 1) := by decide +kernel
theorem d2_115 : decode method_3_code 115 = .ok (.invokestatic 7, 3) := by decide +kernel
theorem d2_118 : decode method_3_code 118 = .ok (.iadd, 1) := by decide +kernel
theorem d2_119 : decode method_3_code 119 = .ok (.iload_n 1, 1) := by decide +kernel
theorem d2_120 : decode method_3_code 120 = .ok (.aload_n 0, 1) := by decide +kernel
theorem d2_121 : decode method_3_code 121 = .ok (.bipush 14, 2) := by decide +kernel
theorem d2_123 : decode method_3_code 123 = .ok (.iaload, 1) := by decide +kernel
theorem d2_124 : decode method_3_code 124 = .ok (.invokestatic 7, 3) := by decide +kernel
theorem d2_127 : decode method_3_code 127 = .ok (.iadd, 1) := by decide +kernel
theorem d2_128 : decode method_3_code 128 = .ok (.iload_n 1, 1) := by decide +kernel
theorem d2_129 : decode method_3_code 129 = .ok (.aload_n 0, 1) := by decide +kernel
theorem d2_130 : decode method_3_code 130 = .ok (.bipush 15, 2) := by decide +kernel
theorem d2_132 : decode method_3_code 132 = .ok (.iaload, 1) := by decide +kernel
theorem d2_133 : decode method_3_code 133 = .ok (.invokestatic 7, 3) := by decide +kernel
theorem d2_136 : decode method_3_code 136 = .ok (.iadd, 1) := by decide +kernel
theorem d2_137 : decode method_3_code 137 = .ok (.iload_n 1, 1) := by decide +kernel
theorem d2_138 : decode method_3_code 138 = .ok (.aload_n 0, 1) := by decide +kernel
theorem d2_139 : decode method_3_code 139 = .ok (.bipush 16, 2) := by decide +kernel
theorem d2_141 : decode method_3_code 141 = .ok (.iaload, 1) := by decide +kernel
theorem d2_142 : decode method_3_code 142 = .ok (.invokestatic 7, 3) := by decide +kernel
theorem d2_145 : decode method_3_code 145 = .ok (.iadd, 1) := by decide +kernel
theorem d2_146 : decode method_3_code 146 = .ok (.iload_n 1, 1) := by decide +kernel
theorem d2_147 : decode method_3_code 147 = .ok (.aload_n 0, 1) := by decide +kernel
theorem d2_148 : decode method_3_code 148 = .ok (.bipush 17, 2) := by decide +kernel
theorem d2_150 : decode method_3_code 150 = .ok (.iaload, 1) := by decide +kernel
theorem d2_151 : decode method_3_code 151 = .ok (.invokestatic 7, 3) := by decide +kernel
theorem d2_154 : decode method_3_code 154 = .ok (.iadd, 1) := by decide +kernel
theorem d2_155 : decode method_3_code 155 = .ok (.iload_n 1, 1) := by decide +kernel
theorem d2_156 : decode method_3_code 156 = .ok (.aload_n 0, 1) := by decide +kernel
theorem d2_157 : decode method_3_code 157 = .ok (.bipush 18, 2) := by decide +kernel
theorem d2_159 : decode method_3_code 159 = .ok (.iaload, 1) := by decide +kernel
theorem d2_160 : decode method_3_code 160 = .ok (.invokestatic 7, 3) := by decide +kernel
theorem d2_163 : decode method_3_code 163 = .ok (.iadd, 1) := by decide +kernel
theorem d2_164 : decode method_3_code 164 = .ok (.iload_n 1, 1) := by decide +kernel
theorem d2_165 : decode method_3_code 165 = .ok (.aload_n 0, 1) := by decide +kernel
theorem d2_166 : decode method_3_code 166 = .ok (.bipush 19, 2) := by decide +kernel
theorem d2_168 : decode method_3_code 168 = .ok (.iaload, 1) := by decide +kernel
theorem d2_169 : decode method_3_code 169 = .ok (.invokestatic 7, 3) := by decide +kernel
theorem d2_172 : decode method_3_code 172 = .ok (.iadd, 1) := by decide +kernel
theorem d2_173 : decode method_3_code 173 = .ok (.iload_n 1, 1) := by decide +kernel
theorem d2_174 : decode method_3_code 174 = .ok (.aload_n 0, 1) := by decide +kernel
theorem d2_175 : decode method_3_code 175 = .ok (.bipush 20, 2) := by decide +kernel
theorem d2_177 : decode method_3_code 177 = .ok (.iaload, 1) := by decide +kernel
theorem d2_178 : decode method_3_code 178 = .ok (.invokestatic 7, 3) := by decide +kernel
theorem d2_181 : decode method_3_code 181 = .ok (.iadd, 1) := by decide +kernel
theorem d2_182 : decode method_3_code 182 = .ok (.iload_n 1, 1) := by decide +kernel
theorem d2_183 : decode method_3_code 183 = .ok (.aload_n 0, 1) := by decide +kernel
theorem d2_184 : decode method_3_code 184 = .ok (.bipush 21, 2) := by decide +kernel
theorem d2_186 : decode method_3_code 186 = .ok (.iaload, 1) := by decide +kernel
theorem d2_187 : decode method_3_code 187 = .ok (.invokestatic 7, 3) := by decide +kernel
theorem d2_190 : decode method_3_code 190 = .ok (.iadd, 1) := by decide +kernel
theorem d2_191 : decode method_3_code 191 = .ok (.iload_n 1, 1) := by decide +kernel
theorem d2_192 : decode method_3_code 192 = .ok (.aload_n 0, 1) := by decide +kernel
theorem d2_193 : decode method_3_code 193 = .ok (.bipush 22, 2) := by decide +kernel
theorem d2_195 : decode method_3_code 195 = .ok (.iaload, 1) := by decide +kernel
theorem d2_196 : decode method_3_code 196 = .ok (.invokestatic 7, 3) := by decide +kernel
theorem d2_199 : decode method_3_code 199 = .ok (.iadd, 1) := by decide +kernel
theorem d2_200 : decode method_3_code 200 = .ok (.iload_n 1, 1) := by decide +kernel
theorem d2_201 : decode method_3_code 201 = .ok (.aload_n 0, 1) := by decide +kernel
theorem d2_202 : decode method_3_code 202 = .ok (.bipush 23, 2) := by decide +kernel
theorem d2_204 : decode method_3_code 204 = .ok (.iaload, 1) := by decide +kernel
theorem d2_205 : decode method_3_code 205 = .ok (.invokestatic 7, 3) := by decide +kernel
theorem d2_208 : decode method_3_code 208 = .ok (.iadd, 1) := by decide +kernel
theorem d2_209 : decode method_3_code 209 = .ok (.iload_n 1, 1) := by decide +kernel
theorem d2_210 : decode method_3_code 210 = .ok (.aload_n 0, 1) := by decide +kernel
theorem d2_211 : decode method_3_code 211 = .ok (.bipush 24, 2) := by decide +kernel
theorem d2_213 : decode method_3_code 213 = .ok (.iaload, 1) := by decide +kernel
theorem d2_214 : decode method_3_code 214 = .ok (.invokestatic 7, 3) := by decide +kernel
theorem d2_217 : decode method_3_code 217 = .ok (.iadd, 1) := by decide +kernel
theorem d2_218 : decode method_3_code 218 = .ok (.iload_n 1, 1) := by decide +kernel
theorem d2_219 : decode method_3_code 219 = .ok (.aload_n 0, 1) := by decide +kernel
theorem d2_220 : decode method_3_code 220 = .ok (.bipush 25, 2) := by decide +kernel
theorem d2_222 : decode method_3_code 222 = .ok (.iaload, 1) := by decide +kernel
theorem d2_223 : decode method_3_code 223 = .ok (.invokestatic 7, 3) := by decide +kernel
theorem d2_226 : decode method_3_code 226 = .ok (.iadd, 1) := by decide +kernel
theorem d2_227 : decode method_3_code 227 = .ok (.iload_n 1, 1) := by decide +kernel
theorem d2_228 : decode method_3_code 228 = .ok (.aload_n 0, 1) := by decide +kernel
theorem d2_229 : decode method_3_code 229 = .ok (.bipush 26, 2) := by decide +kernel
theorem d2_231 : decode method_3_code 231 = .ok (.iaload, 1) := by decide +kernel
theorem d2_232 : decode method_3_code 232 = .ok (.invokestatic 7, 3) := by decide +kernel
theorem d2_235 : decode method_3_code 235 = .ok (.iadd, 1) := by decide +kernel
theorem d2_236 : decode method_3_code 236 = .ok (.iload_n 1, 1) := by decide +kernel
theorem d2_237 : decode method_3_code 237 = .ok (.aload_n 0, 1) := by decide +kernel
theorem d2_238 : decode method_3_code 238 = .ok (.bipush 27, 2) := by decide +kernel
theorem d2_240 : decode method_3_code 240 = .ok (.iaload, 1) := by decide +kernel
theorem d2_241 : decode method_3_code 241 = .ok (.invokestatic 7, 3) := by decide +kernel
theorem d2_244 : decode method_3_code 244 = .ok (.iadd, 1) := by decide +kernel
theorem d2_245 : decode method_3_code 245 = .ok (.iload_n 1, 1) := by decide +kernel
theorem d2_246 : decode method_3_code 246 = .ok (.aload_n 0, 1) := by decide +kernel
theorem d2_247 : decode method_3_code 247 = .ok (.bipush 28, 2) := by decide +kernel
theorem d2_249 : decode method_3_code 249 = .ok (.iaload, 1) := by decide +kernel
theorem d2_250 : decode method_3_code 250 = .ok (.invokestatic 7, 3) := by decide +kernel
theorem d2_253 : decode method_3_code 253 = .ok (.iadd, 1) := by decide +kernel
theorem d2_254 : decode method_3_code 254 = .ok (.iload_n 1, 1) := by decide +kernel
theorem d2_255 : decode method_3_code 255 = .ok (.aload_n 0, 1) := by decide +kernel
theorem d2_256 : decode method_3_code 256 = .ok (.bipush 29, 2) := by decide +kernel
theorem d2_258 : decode method_3_code 258 = .ok (.iaload, 1) := by decide +kernel
theorem d2_259 : decode method_3_code 259 = .ok (.invokestatic 7, 3) := by decide +kernel
theorem d2_262 : decode method_3_code 262 = .ok (.iadd, 1) := by decide +kernel
theorem d2_263 : decode method_3_code 263 = .ok (.istore_n 2, 1) := by decide +kernel
theorem d2_264 : decode method_3_code 264 = .ok (.iload_n 2, 1) := by decide +kernel
theorem d2_265 : decode method_3_code 265 = .ok (.iconst 1, 1) := by decide +kernel
theorem d2_266 : decode method_3_code 266 = .ok (.iand, 1) := by decide +kernel
theorem d2_267 : decode method_3_code 267 = .ok (.ifCond .eq 7, 3) := by decide +kernel
theorem d2_270 : decode method_3_code 270 = .ok (.iconst 1, 1) := by decide +kernel
theorem d2_271 : decode method_3_code 271 = .ok (.goto 4, 3) := by decide +kernel
theorem d2_274 : decode method_3_code 274 = .ok (.iconst 0, 1) := by decide +kernel
theorem d2_275 : decode method_3_code 275 = .ok (.ireturn, 1) := by decide +kernel
theorem pd_1 : parseMethodDescriptor "(II)I" = some ⟨[.int, .int], some .int⟩ := by decide +kernel
def g9_264_t0 (i2 : Int32) : Int32 := if (i2 &&& (1 : Int32)) = (0 : Int32) then (0 : Int32) else (1 : Int32)
set_option maxRecDepth 65536 in
set_option maxHeartbeats 40000000 in
theorem g9_264 {p : Program} {l : Launch} {e : Env} {R : Room} {s : State} {m : MethodId} {args : Array Value} {below : List Frame} {meth : Method} {c : Code} {T : State} {locs : List Loc} {cells slots : Nat} {Z : State} {a0 : Array Value} {target : State} (o0 : Addr) (i1 : Int32) (i2 : Int32) (X : Stand p l e R s m args below meth c T locs cells slots) (hx : p.tables.exec = Jvm.exec) (hZ : Z.Warmed39 s.vm) (hw : ∀ d ∈ tables_1, d.before a0 Z = true) (hby : c.code = method_3_code) (hown : s.vm.findClass "com/example/node_sieve/nodesieve/XPathCharsIsNameStartPinLaw" = some m.cls) (k : Steps p.tables e below (T.setTop (mkF m 275 #[.val (.ref o0), .val (.int i1), .val (.int i2)] [(.int (g9_264_t0 i2))])) target) :
    Steps p.tables e below (T.setTop (mkF m 264 #[.val (.ref o0), .val (.int i1), .val (.int i2)] [])) target := by
  show Steps p.tables e below (T.setTop (mkF m 264 #[.val (.ref o0), .val (.int i1), .val (.int i2)] [])) _
  refine XS.iloadN X.here hx rfl (hb hby d2_264) rfl ?_
  show Steps p.tables e below (T.setTop (mkF m 265 #[.val (.ref o0), .val (.int i1), .val (.int i2)] [(.int i2)])) _
  refine XS.iconst X.here hx rfl (hb hby d2_265) ?_
  show Steps p.tables e below (T.setTop (mkF m 266 #[.val (.ref o0), .val (.int i1), .val (.int i2)] [(.int (1 : Int32)), (.int i2)])) _
  refine XS.iand X.here hx rfl (hb hby d2_266) rfl ?_
  show Steps p.tables e below (T.setTop (mkF m 267 #[.val (.ref o0), .val (.int i1), .val (.int i2)] [(.int (i2 &&& (1 : Int32)))])) _
  by_cases q267 : (i2 &&& (1 : Int32)) = (0 : Int32)
  · refine XS.ifYes X.here hx rfl (pc0 := 267) (pc' := 274) rfl (hb hby d2_267) rfl ((if0 _ _).trans (teq q267).1) (by decide) (by decide) ?_
    show Steps p.tables e below (T.setTop (mkF m 274 #[.val (.ref o0), .val (.int i1), .val (.int i2)] [])) _
    refine XS.iconst X.here hx rfl (hb hby d2_274) ?_
    have e_t0 : (g9_264_t0 i2) = (0 : Int32) := by unfold g9_264_t0; rw [if_pos q267]
    rw [e_t0] at k
    exact k
  · refine XS.ifNo X.here hx rfl (hb hby d2_267) rfl ((if0 _ _).trans (feq q267).1) ?_
    show Steps p.tables e below (T.setTop (mkF m 270 #[.val (.ref o0), .val (.int i1), .val (.int i2)] [])) _
    refine XS.iconst X.here hx rfl (hb hby d2_270) ?_
    show Steps p.tables e below (T.setTop (mkF m 271 #[.val (.ref o0), .val (.int i1), .val (.int i2)] [(.int (1 : Int32))])) _
    refine XS.goto X.here hx rfl (pc0 := 271) (pc' := 275) rfl (hb hby d2_271) (by decide) (by decide) ?_
    have e_t0 : (g9_264_t0 i2) = (1 : Int32) := by unfold g9_264_t0; rw [if_neg q267]
    rw [e_t0] at k
    exact k
theorem z01_g9_264_t0 (i2 : Int32) : (g9_264_t0 i2) = 0 ∨ (g9_264_t0 i2) = 1 := by
  unfold g9_264_t0
  repeat' split
  all_goals first | exact Or.inl rfl | exact Or.inr rfl
def own_ref (c : Int32) : Int32 := g9_264_t0 (own_s29 c)
theorem own_nz (c : Int32) : nar .boolean (own_ref c) = own_ref c := by rcases z01_g9_264_t0 (own_s29 c) with h | h <;> (show nar .boolean (g9_264_t0 (own_s29 c)) = g9_264_t0 (own_s29 c)) <;> rw [h] <;> rfl
theorem ef_rm2 (m : MethodId) (x0 : Addr) (x1 : Int32) : entryFrame m #[(.ref x0), (.int x1)] 3 = mkF m 0 #[.val (.ref x0), .val (.int x1), .unset] [] := by first | (simp [entryFrame, mkF, argsToLocals, Value.category]; done) | rfl
def Q_rm2 (Z : State) (o0 : Addr) (p1 : Int32) (ka : ClassId) (h0 : Heap) (n0 : Nat) (v : Option Value) (h : Heap) (L : List Loc) : Prop := v = some (.int (own_ref p1)) ∧ Fr n0 L ∧ h = h0
set_option maxRecDepth 65536 in
set_option maxHeartbeats 40000000 in
theorem rm2 (l : Launch) (Z : State) (a0 : Array Value) (hw : ∀ d ∈ tables_1, d.before a0 Z = true) (ws : List Jvm.Cond) (o0 : Addr) (p1 : Int32) (ka : ClassId) (h0 : Heap) (n0 : Nat) (Z0 : n0 ≤ h0.size) (FV : Arv Z h0 o0 ka .int (30 : Int32) [(.int (65 : Int32)), (.int (91 : Int32)), (.int (95 : Int32)), (.int (96 : Int32)), (.int (97 : Int32)), (.int (123 : Int32)), (.int (192 : Int32)), (.int (215 : Int32)), (.int (216 : Int32)), (.int (247 : Int32)), (.int (248 : Int32)), (.int (768 : Int32)), (.int (880 : Int32)), (.int (894 : Int32)), (.int (895 : Int32)), (.int (8192 : Int32)), (.int (8204 : Int32)), (.int (8206 : Int32)), (.int (8304 : Int32)), (.int (8592 : Int32)), (.int (11264 : Int32)), (.int (12272 : Int32)), (.int (12289 : Int32)), (.int (55296 : Int32)), (.int (63744 : Int32)), (.int (64976 : Int32)), (.int (65008 : Int32)), (.int (65534 : Int32)), (.int (65536 : Int32)), (.int (983040 : Int32))] (.int (0 : Int32))) :
    MetFree l (⟨"com/example/node_sieve/nodesieve/XPathCharsIsNameStartPinLaw", "ref", "([II)Z"⟩ : MethodName) (head1 (Jvm.Cond.code (⟨"com/example/node_sieve/nodesieve/XPathCharsIsNameStartPinLaw", "ref", "([II)Z"⟩ : MethodName) method_3_code 3 (some .boolean) :: ws) ({ frames := 1, cells := 0, slots := 0, locals := 14 } : Room)) (fun a U => a = #[(.ref o0), (.int p1)] ∧ Z.Warmed39 U.vm ∧ U.heap = h0) (fun _ _ _ _ _ => True) (fun _ U o U' => ∃ v L, o = .returned v ∧ Q_rm2 Z o0 p1 ka h0 n0 v U'.heap L ∧ FrameEnd U o U' L ({ frames := 1, cells := 0, slots := 0, locals := 14 } : Room).cells ({ frames := 1, cells := 0, slots := 0, locals := 14 } : Room).slots) := by
  refine MetFree.of_bodySF (plainFor_of_name pn_1) hisR ?_
  intro p e s m args below meth c s₁ Bd hml0 hP hK
  obtain ⟨rfl, hZ, hh⟩ := hP
  have hx := Bd.exec
  have hby := Bd.bytes
  have hml : c.maxLocals = 3 := hml0
  have hown : s.vm.findClass "com/example/node_sieve/nodesieve/XPathCharsIsNameStartPinLaw" = some m.cls := findClass_of_methodNamed Bd.named
  have hnm := (name_of_methodNamed Bd.named Bd.method).1
  have X0 : Stand p l e ({ frames := 1, cells := 0, slots := 0, locals := 14 } : Room) s m #[(.ref o0), (.int p1)] below meth c s₁ [] 0 0 := Stand.of_body Bd
  have e0 : s₁.heap = h0 := by rw [← hh, Bd.state]; rfl
  have N0 := Fr.nil n0
  have c0 : ∀ τ, Steps p.tables e below (s₁.setTop (mkF m 0 #[.val (.ref o0), .val (.int p1), .unset] [])) τ → Steps p.tables e below (s₁.setTop (entryFrame m #[(.ref o0), (.int p1)] 3)) τ := fun τ κ => castTop (ef_rm2 m o0 p1) κ
  have c1 : ∀ τ, Steps p.tables e below (s₁.setTop (mkF m 3 #[.val (.ref o0), .val (.int p1), .unset] [(.int (0 : Int32)), (.ref o0), (.int p1)])) τ → Steps p.tables e below (s₁.setTop (entryFrame m #[(.ref o0), (.int p1)] 3)) τ := fun τ κ => c0 τ (by
      show Steps p.tables e below (s₁.setTop (mkF m 0 #[.val (.ref o0), .val (.int p1), .unset] [])) _
      refine XS.iloadN X0.here hx rfl (hb hby d2_0) rfl ?_
      show Steps p.tables e below (s₁.setTop (mkF m 1 #[.val (.ref o0), .val (.int p1), .unset] [(.int p1)])) _
      refine XS.aloadN X0.here hx rfl (hb hby d2_1) rfl rfl ?_
      show Steps p.tables e below (s₁.setTop (mkF m 2 #[.val (.ref o0), .val (.int p1), .unset] [(.ref o0), (.int p1)])) _
      refine XS.iconst X0.here hx rfl (hb hby d2_2) ?_
      exact κ)
  have c2 : ∀ τ, Steps p.tables e below (s₁.setTop (mkF m 4 #[.val (.ref o0), .val (.int p1), .unset] [(.int (65 : Int32)), (.int p1)])) τ → Steps p.tables e below (s₁.setTop (entryFrame m #[(.ref o0), (.int p1)] 3)) τ := fun τ κ => c1 τ (own_iaload X0 hx hZ e0 FV (j := (0 : Int32)) ⟨by decide, by decide⟩ (v := (.int (65 : Int32))) rfl (g := (mkF m 3 #[.val (.ref o0), .val (.int p1), .unset] [(.int (0 : Int32)), (.ref o0), (.int p1)])) rfl rfl (hb hby d2_3) _ κ)
  obtain ⟨_, _, ⟨T3, L3, k3, n3⟩, -, X3, ⟨Lc3, hQ3, l3, y3, z3⟩, st3⟩ := Jvm.LawKit.callS X0 hx (y := (⟨"com/example/node_sieve/nodesieve/XPathCharsIsNameStartPinLaw", "ge", "(II)I"⟩ : MethodName)) hown (mvT hZ (hw _ (List.mem_of_getElem? (i := 20) rfl))) (mvT hZ (hw _ (List.mem_of_getElem? (i := 21) rfl))) (mvT hZ (hw _ (List.mem_of_getElem? (i := 18) rfl))) (mvT hZ (hw _ (List.mem_of_getElem? (i := 22) rfl))) (by decide) (backOf (W := 0) (rm3 l Z a0 hw [] p1 (65 : Int32) h0 n0 Z0) hZ (hw _ (List.mem_of_getElem? (i := 22) rfl)) (hw _ (List.mem_of_getElem? (i := 18) rfl)) (by decide) (by decide)) (g := (mkF m 4 #[.val (.ref o0), .val (.int p1), .unset] [(.int (65 : Int32)), (.int p1)])) rfl (by rw [hml]; rfl) (argsL := [(.int p1), (.int (65 : Int32))]) (rest := []) (lenOf pd_1 rfl) rfl (by show 2 * 0 + _ ≤ _; exact Nat.le_of_eq rfl) (hb hby d2_4) (fun _ _ => ⟨rfl, e0, (by decide : 0 + 0 ≤ _), (by decide : 0 + 0 ≤ _)⟩)
  dsimp only [Pt.U, Pt.locs, Pt.cells, Pt.slots] at X3 l3 y3 z3 st3 hQ3
  rw [y3, z3] at X3
  obtain ⟨rfl, N3q, e3⟩ := hQ3
  have N3 : Fr n0 L3 := by rw [l3]; exact Fr.app N0 N3q
  replace X3 : Stand p l e _ s m _ below meth c T3 L3 0 0 := X3
  clear l3 y3 z3
  have c4 : ∀ τ, Steps p.tables e below (T3.setTop (mkF m 7 #[.val (.ref o0), .val (.int p1), .unset] [(.int (f3_0_r p1 (65 : Int32)))])) τ → Steps p.tables e below (s₁.setTop (entryFrame m #[(.ref o0), (.int p1)] 3)) τ := fun τ κ => c2 τ (st3 τ κ)
  have c5 : ∀ τ, Steps p.tables e below (T3.setTop (mkF m 10 #[.val (.ref o0), .val (.int p1), .unset] [(.int (1 : Int32)), (.ref o0), (.int p1), (.int (own_s0 p1))])) τ → Steps p.tables e below (s₁.setTop (entryFrame m #[(.ref o0), (.int p1)] 3)) τ := fun τ κ => c4 τ (by
      show Steps p.tables e below (T3.setTop (mkF m 7 #[.val (.ref o0), .val (.int p1), .unset] [(.int (own_s0 p1))])) _
      refine XS.iloadN X3.here hx rfl (hb hby d2_7) rfl ?_
      show Steps p.tables e below (T3.setTop (mkF m 8 #[.val (.ref o0), .val (.int p1), .unset] [(.int p1), (.int (own_s0 p1))])) _
      refine XS.aloadN X3.here hx rfl (hb hby d2_8) rfl rfl ?_
      show Steps p.tables e below (T3.setTop (mkF m 9 #[.val (.ref o0), .val (.int p1), .unset] [(.ref o0), (.int p1), (.int (own_s0 p1))])) _
      refine XS.iconst X3.here hx rfl (hb hby d2_9) ?_
      exact κ)
  have c6 : ∀ τ, Steps p.tables e below (T3.setTop (mkF m 11 #[.val (.ref o0), .val (.int p1), .unset] [(.int (91 : Int32)), (.int p1), (.int (own_s0 p1))])) τ → Steps p.tables e below (s₁.setTop (entryFrame m #[(.ref o0), (.int p1)] 3)) τ := fun τ κ => c5 τ (own_iaload X3 hx hZ e3 FV (j := (1 : Int32)) ⟨by decide, by decide⟩ (v := (.int (91 : Int32))) rfl (g := (mkF m 10 #[.val (.ref o0), .val (.int p1), .unset] [(.int (1 : Int32)), (.ref o0), (.int p1), (.int (own_s0 p1))])) rfl rfl (hb hby d2_10) _ κ)
  obtain ⟨_, _, ⟨T7, L7, k7, n7⟩, -, X7, ⟨Lc7, hQ7, l7, y7, z7⟩, st7⟩ := Jvm.LawKit.callS X3 hx (y := (⟨"com/example/node_sieve/nodesieve/XPathCharsIsNameStartPinLaw", "ge", "(II)I"⟩ : MethodName)) hown (mvT hZ (hw _ (List.mem_of_getElem? (i := 20) rfl))) (mvT hZ (hw _ (List.mem_of_getElem? (i := 21) rfl))) (mvT hZ (hw _ (List.mem_of_getElem? (i := 18) rfl))) (mvT hZ (hw _ (List.mem_of_getElem? (i := 22) rfl))) (by decide) (backOf (W := 1) (rm3 l Z a0 hw [] p1 (91 : Int32) h0 n0 Z0) hZ (hw _ (List.mem_of_getElem? (i := 22) rfl)) (hw _ (List.mem_of_getElem? (i := 18) rfl)) (by decide) (by decide)) (g := (mkF m 11 #[.val (.ref o0), .val (.int p1), .unset] [(.int (91 : Int32)), (.int p1), (.int (own_s0 p1))])) rfl (by rw [hml]; rfl) (argsL := [(.int p1), (.int (91 : Int32))]) (rest := [(.int (own_s0 p1))]) (lenOf pd_1 rfl) rfl (by show 2 * 0 + _ ≤ _; exact Nat.le_of_eq rfl) (hb hby d2_11) (fun _ _ => ⟨rfl, e3, (by decide : 0 + 0 ≤ _), (by decide : 0 + 0 ≤ _)⟩)
  dsimp only [Pt.U, Pt.locs, Pt.cells, Pt.slots] at X7 l7 y7 z7 st7 hQ7
  rw [y7, z7] at X7
  obtain ⟨rfl, N7q, e7⟩ := hQ7
  have N7 : Fr n0 L7 := by rw [l7]; exact Fr.app N3 N7q
  replace X7 : Stand p l e _ s m _ below meth c T7 L7 0 0 := X7
  clear l7 y7 z7
  have c8 : ∀ τ, Steps p.tables e below (T7.setTop (mkF m 14 #[.val (.ref o0), .val (.int p1), .unset] [(.int (f3_0_r p1 (91 : Int32))), (.int (own_s0 p1))])) τ → Steps p.tables e below (s₁.setTop (entryFrame m #[(.ref o0), (.int p1)] 3)) τ := fun τ κ => c6 τ (st7 τ κ)
  have c9 : ∀ τ, Steps p.tables e below (T7.setTop (mkF m 15 #[.val (.ref o0), .val (.int p1), .unset] [(.int (own_s1 p1))])) τ → Steps p.tables e below (s₁.setTop (entryFrame m #[(.ref o0), (.int p1)] 3)) τ := fun τ κ => c8 τ (by
      show Steps p.tables e below (T7.setTop (mkF m 14 #[.val (.ref o0), .val (.int p1), .unset] [(.int (f3_0_r p1 (91 : Int32))), (.int (own_s0 p1))])) _
      refine XS.iadd X7.here hx rfl (hb hby d2_14) rfl ?_
      exact κ)
  have c10 : ∀ τ, Steps p.tables e below (T7.setTop (mkF m 18 #[.val (.ref o0), .val (.int p1), .unset] [(.int (2 : Int32)), (.ref o0), (.int p1), (.int (own_s1 p1))])) τ → Steps p.tables e below (s₁.setTop (entryFrame m #[(.ref o0), (.int p1)] 3)) τ := fun τ κ => c9 τ (by
      show Steps p.tables e below (T7.setTop (mkF m 15 #[.val (.ref o0), .val (.int p1), .unset] [(.int (own_s1 p1))])) _
      refine XS.iloadN X7.here hx rfl (hb hby d2_15) rfl ?_
      show Steps p.tables e below (T7.setTop (mkF m 16 #[.val (.ref o0), .val (.int p1), .unset] [(.int p1), (.int (own_s1 p1))])) _
      refine XS.aloadN X7.here hx rfl (hb hby d2_16) rfl rfl ?_
      show Steps p.tables e below (T7.setTop (mkF m 17 #[.val (.ref o0), .val (.int p1), .unset] [(.ref o0), (.int p1), (.int (own_s1 p1))])) _
      refine XS.iconst X7.here hx rfl (hb hby d2_17) ?_
      exact κ)
  have c11 : ∀ τ, Steps p.tables e below (T7.setTop (mkF m 19 #[.val (.ref o0), .val (.int p1), .unset] [(.int (95 : Int32)), (.int p1), (.int (own_s1 p1))])) τ → Steps p.tables e below (s₁.setTop (entryFrame m #[(.ref o0), (.int p1)] 3)) τ := fun τ κ => c10 τ (own_iaload X7 hx hZ e7 FV (j := (2 : Int32)) ⟨by decide, by decide⟩ (v := (.int (95 : Int32))) rfl (g := (mkF m 18 #[.val (.ref o0), .val (.int p1), .unset] [(.int (2 : Int32)), (.ref o0), (.int p1), (.int (own_s1 p1))])) rfl rfl (hb hby d2_18) _ κ)
  obtain ⟨_, _, ⟨T12, L12, k12, n12⟩, -, X12, ⟨Lc12, hQ12, l12, y12, z12⟩, st12⟩ := Jvm.LawKit.callS X7 hx (y := (⟨"com/example/node_sieve/nodesieve/XPathCharsIsNameStartPinLaw", "ge", "(II)I"⟩ : MethodName)) hown (mvT hZ (hw _ (List.mem_of_getElem? (i := 20) rfl))) (mvT hZ (hw _ (List.mem_of_getElem? (i := 21) rfl))) (mvT hZ (hw _ (List.mem_of_getElem? (i := 18) rfl))) (mvT hZ (hw _ (List.mem_of_getElem? (i := 22) rfl))) (by decide) (backOf (W := 1) (rm3 l Z a0 hw [] p1 (95 : Int32) h0 n0 Z0) hZ (hw _ (List.mem_of_getElem? (i := 22) rfl)) (hw _ (List.mem_of_getElem? (i := 18) rfl)) (by decide) (by decide)) (g := (mkF m 19 #[.val (.ref o0), .val (.int p1), .unset] [(.int (95 : Int32)), (.int p1), (.int (own_s1 p1))])) rfl (by rw [hml]; rfl) (argsL := [(.int p1), (.int (95 : Int32))]) (rest := [(.int (own_s1 p1))]) (lenOf pd_1 rfl) rfl (by show 2 * 0 + _ ≤ _; exact Nat.le_of_eq rfl) (hb hby d2_19) (fun _ _ => ⟨rfl, e7, (by decide : 0 + 0 ≤ _), (by decide : 0 + 0 ≤ _)⟩)
  dsimp only [Pt.U, Pt.locs, Pt.cells, Pt.slots] at X12 l12 y12 z12 st12 hQ12
  rw [y12, z12] at X12
  obtain ⟨rfl, N12q, e12⟩ := hQ12
  have N12 : Fr n0 L12 := by rw [l12]; exact Fr.app N7 N12q
  replace X12 : Stand p l e _ s m _ below meth c T12 L12 0 0 := X12
  clear l12 y12 z12
  have c13 : ∀ τ, Steps p.tables e below (T12.setTop (mkF m 22 #[.val (.ref o0), .val (.int p1), .unset] [(.int (f3_0_r p1 (95 : Int32))), (.int (own_s1 p1))])) τ → Steps p.tables e below (s₁.setTop (entryFrame m #[(.ref o0), (.int p1)] 3)) τ := fun τ κ => c11 τ (st12 τ κ)
  have c14 : ∀ τ, Steps p.tables e below (T12.setTop (mkF m 23 #[.val (.ref o0), .val (.int p1), .unset] [(.int (own_s2 p1))])) τ → Steps p.tables e below (s₁.setTop (entryFrame m #[(.ref o0), (.int p1)] 3)) τ := fun τ κ => c13 τ (by
      show Steps p.tables e below (T12.setTop (mkF m 22 #[.val (.ref o0), .val (.int p1), .unset] [(.int (f3_0_r p1 (95 : Int32))), (.int (own_s1 p1))])) _
      refine XS.iadd X12.here hx rfl (hb hby d2_22) rfl ?_
      exact κ)
  have c15 : ∀ τ, Steps p.tables e below (T12.setTop (mkF m 26 #[.val (.ref o0), .val (.int p1), .unset] [(.int (3 : Int32)), (.ref o0), (.int p1), (.int (own_s2 p1))])) τ → Steps p.tables e below (s₁.setTop (entryFrame m #[(.ref o0), (.int p1)] 3)) τ := fun τ κ => c14 τ (by
      show Steps p.tables e below (T12.setTop (mkF m 23 #[.val (.ref o0), .val (.int p1), .unset] [(.int (own_s2 p1))])) _
      refine XS.iloadN X12.here hx rfl (hb hby d2_23) rfl ?_
      show Steps p.tables e below (T12.setTop (mkF m 24 #[.val (.ref o0), .val (.int p1), .unset] [(.int p1), (.int (own_s2 p1))])) _
      refine XS.aloadN X12.here hx rfl (hb hby d2_24) rfl rfl ?_
      show Steps p.tables e below (T12.setTop (mkF m 25 #[.val (.ref o0), .val (.int p1), .unset] [(.ref o0), (.int p1), (.int (own_s2 p1))])) _
      refine XS.iconst X12.here hx rfl (hb hby d2_25) ?_
      exact κ)
  have c16 : ∀ τ, Steps p.tables e below (T12.setTop (mkF m 27 #[.val (.ref o0), .val (.int p1), .unset] [(.int (96 : Int32)), (.int p1), (.int (own_s2 p1))])) τ → Steps p.tables e below (s₁.setTop (entryFrame m #[(.ref o0), (.int p1)] 3)) τ := fun τ κ => c15 τ (own_iaload X12 hx hZ e12 FV (j := (3 : Int32)) ⟨by decide, by decide⟩ (v := (.int (96 : Int32))) rfl (g := (mkF m 26 #[.val (.ref o0), .val (.int p1), .unset] [(.int (3 : Int32)), (.ref o0), (.int p1), (.int (own_s2 p1))])) rfl rfl (hb hby d2_26) _ κ)
  obtain ⟨_, _, ⟨T17, L17, k17, n17⟩, -, X17, ⟨Lc17, hQ17, l17, y17, z17⟩, st17⟩ := Jvm.LawKit.callS X12 hx (y := (⟨"com/example/node_sieve/nodesieve/XPathCharsIsNameStartPinLaw", "ge", "(II)I"⟩ : MethodName)) hown (mvT hZ (hw _ (List.mem_of_getElem? (i := 20) rfl))) (mvT hZ (hw _ (List.mem_of_getElem? (i := 21) rfl))) (mvT hZ (hw _ (List.mem_of_getElem? (i := 18) rfl))) (mvT hZ (hw _ (List.mem_of_getElem? (i := 22) rfl))) (by decide) (backOf (W := 1) (rm3 l Z a0 hw [] p1 (96 : Int32) h0 n0 Z0) hZ (hw _ (List.mem_of_getElem? (i := 22) rfl)) (hw _ (List.mem_of_getElem? (i := 18) rfl)) (by decide) (by decide)) (g := (mkF m 27 #[.val (.ref o0), .val (.int p1), .unset] [(.int (96 : Int32)), (.int p1), (.int (own_s2 p1))])) rfl (by rw [hml]; rfl) (argsL := [(.int p1), (.int (96 : Int32))]) (rest := [(.int (own_s2 p1))]) (lenOf pd_1 rfl) rfl (by show 2 * 0 + _ ≤ _; exact Nat.le_of_eq rfl) (hb hby d2_27) (fun _ _ => ⟨rfl, e12, (by decide : 0 + 0 ≤ _), (by decide : 0 + 0 ≤ _)⟩)
  dsimp only [Pt.U, Pt.locs, Pt.cells, Pt.slots] at X17 l17 y17 z17 st17 hQ17
  rw [y17, z17] at X17
  obtain ⟨rfl, N17q, e17⟩ := hQ17
  have N17 : Fr n0 L17 := by rw [l17]; exact Fr.app N12 N17q
  replace X17 : Stand p l e _ s m _ below meth c T17 L17 0 0 := X17
  clear l17 y17 z17
  have c18 : ∀ τ, Steps p.tables e below (T17.setTop (mkF m 30 #[.val (.ref o0), .val (.int p1), .unset] [(.int (f3_0_r p1 (96 : Int32))), (.int (own_s2 p1))])) τ → Steps p.tables e below (s₁.setTop (entryFrame m #[(.ref o0), (.int p1)] 3)) τ := fun τ κ => c16 τ (st17 τ κ)
  have c19 : ∀ τ, Steps p.tables e below (T17.setTop (mkF m 31 #[.val (.ref o0), .val (.int p1), .unset] [(.int (own_s3 p1))])) τ → Steps p.tables e below (s₁.setTop (entryFrame m #[(.ref o0), (.int p1)] 3)) τ := fun τ κ => c18 τ (by
      show Steps p.tables e below (T17.setTop (mkF m 30 #[.val (.ref o0), .val (.int p1), .unset] [(.int (f3_0_r p1 (96 : Int32))), (.int (own_s2 p1))])) _
      refine XS.iadd X17.here hx rfl (hb hby d2_30) rfl ?_
      exact κ)
  have c20 : ∀ τ, Steps p.tables e below (T17.setTop (mkF m 34 #[.val (.ref o0), .val (.int p1), .unset] [(.int (4 : Int32)), (.ref o0), (.int p1), (.int (own_s3 p1))])) τ → Steps p.tables e below (s₁.setTop (entryFrame m #[(.ref o0), (.int p1)] 3)) τ := fun τ κ => c19 τ (by
      show Steps p.tables e below (T17.setTop (mkF m 31 #[.val (.ref o0), .val (.int p1), .unset] [(.int (own_s3 p1))])) _
      refine XS.iloadN X17.here hx rfl (hb hby d2_31) rfl ?_
      show Steps p.tables e below (T17.setTop (mkF m 32 #[.val (.ref o0), .val (.int p1), .unset] [(.int p1), (.int (own_s3 p1))])) _
      refine XS.aloadN X17.here hx rfl (hb hby d2_32) rfl rfl ?_
      show Steps p.tables e below (T17.setTop (mkF m 33 #[.val (.ref o0), .val (.int p1), .unset] [(.ref o0), (.int p1), (.int (own_s3 p1))])) _
      refine XS.iconst X17.here hx rfl (hb hby d2_33) ?_
      exact κ)
  have c21 : ∀ τ, Steps p.tables e below (T17.setTop (mkF m 35 #[.val (.ref o0), .val (.int p1), .unset] [(.int (97 : Int32)), (.int p1), (.int (own_s3 p1))])) τ → Steps p.tables e below (s₁.setTop (entryFrame m #[(.ref o0), (.int p1)] 3)) τ := fun τ κ => c20 τ (own_iaload X17 hx hZ e17 FV (j := (4 : Int32)) ⟨by decide, by decide⟩ (v := (.int (97 : Int32))) rfl (g := (mkF m 34 #[.val (.ref o0), .val (.int p1), .unset] [(.int (4 : Int32)), (.ref o0), (.int p1), (.int (own_s3 p1))])) rfl rfl (hb hby d2_34) _ κ)
  obtain ⟨_, _, ⟨T22, L22, k22, n22⟩, -, X22, ⟨Lc22, hQ22, l22, y22, z22⟩, st22⟩ := Jvm.LawKit.callS X17 hx (y := (⟨"com/example/node_sieve/nodesieve/XPathCharsIsNameStartPinLaw", "ge", "(II)I"⟩ : MethodName)) hown (mvT hZ (hw _ (List.mem_of_getElem? (i := 20) rfl))) (mvT hZ (hw _ (List.mem_of_getElem? (i := 21) rfl))) (mvT hZ (hw _ (List.mem_of_getElem? (i := 18) rfl))) (mvT hZ (hw _ (List.mem_of_getElem? (i := 22) rfl))) (by decide) (backOf (W := 1) (rm3 l Z a0 hw [] p1 (97 : Int32) h0 n0 Z0) hZ (hw _ (List.mem_of_getElem? (i := 22) rfl)) (hw _ (List.mem_of_getElem? (i := 18) rfl)) (by decide) (by decide)) (g := (mkF m 35 #[.val (.ref o0), .val (.int p1), .unset] [(.int (97 : Int32)), (.int p1), (.int (own_s3 p1))])) rfl (by rw [hml]; rfl) (argsL := [(.int p1), (.int (97 : Int32))]) (rest := [(.int (own_s3 p1))]) (lenOf pd_1 rfl) rfl (by show 2 * 0 + _ ≤ _; exact Nat.le_of_eq rfl) (hb hby d2_35) (fun _ _ => ⟨rfl, e17, (by decide : 0 + 0 ≤ _), (by decide : 0 + 0 ≤ _)⟩)
  dsimp only [Pt.U, Pt.locs, Pt.cells, Pt.slots] at X22 l22 y22 z22 st22 hQ22
  rw [y22, z22] at X22
  obtain ⟨rfl, N22q, e22⟩ := hQ22
  have N22 : Fr n0 L22 := by rw [l22]; exact Fr.app N17 N22q
  replace X22 : Stand p l e _ s m _ below meth c T22 L22 0 0 := X22
  clear l22 y22 z22
  have c23 : ∀ τ, Steps p.tables e below (T22.setTop (mkF m 38 #[.val (.ref o0), .val (.int p1), .unset] [(.int (f3_0_r p1 (97 : Int32))), (.int (own_s3 p1))])) τ → Steps p.tables e below (s₁.setTop (entryFrame m #[(.ref o0), (.int p1)] 3)) τ := fun τ κ => c21 τ (st22 τ κ)
  have c24 : ∀ τ, Steps p.tables e below (T22.setTop (mkF m 39 #[.val (.ref o0), .val (.int p1), .unset] [(.int (own_s4 p1))])) τ → Steps p.tables e below (s₁.setTop (entryFrame m #[(.ref o0), (.int p1)] 3)) τ := fun τ κ => c23 τ (by
      show Steps p.tables e below (T22.setTop (mkF m 38 #[.val (.ref o0), .val (.int p1), .unset] [(.int (f3_0_r p1 (97 : Int32))), (.int (own_s3 p1))])) _
      refine XS.iadd X22.here hx rfl (hb hby d2_38) rfl ?_
      exact κ)
  have c25 : ∀ τ, Steps p.tables e below (T22.setTop (mkF m 42 #[.val (.ref o0), .val (.int p1), .unset] [(.int (5 : Int32)), (.ref o0), (.int p1), (.int (own_s4 p1))])) τ → Steps p.tables e below (s₁.setTop (entryFrame m #[(.ref o0), (.int p1)] 3)) τ := fun τ κ => c24 τ (by
      show Steps p.tables e below (T22.setTop (mkF m 39 #[.val (.ref o0), .val (.int p1), .unset] [(.int (own_s4 p1))])) _
      refine XS.iloadN X22.here hx rfl (hb hby d2_39) rfl ?_
      show Steps p.tables e below (T22.setTop (mkF m 40 #[.val (.ref o0), .val (.int p1), .unset] [(.int p1), (.int (own_s4 p1))])) _
      refine XS.aloadN X22.here hx rfl (hb hby d2_40) rfl rfl ?_
      show Steps p.tables e below (T22.setTop (mkF m 41 #[.val (.ref o0), .val (.int p1), .unset] [(.ref o0), (.int p1), (.int (own_s4 p1))])) _
      refine XS.iconst X22.here hx rfl (hb hby d2_41) ?_
      exact κ)
  have c26 : ∀ τ, Steps p.tables e below (T22.setTop (mkF m 43 #[.val (.ref o0), .val (.int p1), .unset] [(.int (123 : Int32)), (.int p1), (.int (own_s4 p1))])) τ → Steps p.tables e below (s₁.setTop (entryFrame m #[(.ref o0), (.int p1)] 3)) τ := fun τ κ => c25 τ (own_iaload X22 hx hZ e22 FV (j := (5 : Int32)) ⟨by decide, by decide⟩ (v := (.int (123 : Int32))) rfl (g := (mkF m 42 #[.val (.ref o0), .val (.int p1), .unset] [(.int (5 : Int32)), (.ref o0), (.int p1), (.int (own_s4 p1))])) rfl rfl (hb hby d2_42) _ κ)
  obtain ⟨_, _, ⟨T27, L27, k27, n27⟩, -, X27, ⟨Lc27, hQ27, l27, y27, z27⟩, st27⟩ := Jvm.LawKit.callS X22 hx (y := (⟨"com/example/node_sieve/nodesieve/XPathCharsIsNameStartPinLaw", "ge", "(II)I"⟩ : MethodName)) hown (mvT hZ (hw _ (List.mem_of_getElem? (i := 20) rfl))) (mvT hZ (hw _ (List.mem_of_getElem? (i := 21) rfl))) (mvT hZ (hw _ (List.mem_of_getElem? (i := 18) rfl))) (mvT hZ (hw _ (List.mem_of_getElem? (i := 22) rfl))) (by decide) (backOf (W := 1) (rm3 l Z a0 hw [] p1 (123 : Int32) h0 n0 Z0) hZ (hw _ (List.mem_of_getElem? (i := 22) rfl)) (hw _ (List.mem_of_getElem? (i := 18) rfl)) (by decide) (by decide)) (g := (mkF m 43 #[.val (.ref o0), .val (.int p1), .unset] [(.int (123 : Int32)), (.int p1), (.int (own_s4 p1))])) rfl (by rw [hml]; rfl) (argsL := [(.int p1), (.int (123 : Int32))]) (rest := [(.int (own_s4 p1))]) (lenOf pd_1 rfl) rfl (by show 2 * 0 + _ ≤ _; exact Nat.le_of_eq rfl) (hb hby d2_43) (fun _ _ => ⟨rfl, e22, (by decide : 0 + 0 ≤ _), (by decide : 0 + 0 ≤ _)⟩)
  dsimp only [Pt.U, Pt.locs, Pt.cells, Pt.slots] at X27 l27 y27 z27 st27 hQ27
  rw [y27, z27] at X27
  obtain ⟨rfl, N27q, e27⟩ := hQ27
  have N27 : Fr n0 L27 := by rw [l27]; exact Fr.app N22 N27q
  replace X27 : Stand p l e _ s m _ below meth c T27 L27 0 0 := X27
  clear l27 y27 z27
  have c28 : ∀ τ, Steps p.tables e below (T27.setTop (mkF m 46 #[.val (.ref o0), .val (.int p1), .unset] [(.int (f3_0_r p1 (123 : Int32))), (.int (own_s4 p1))])) τ → Steps p.tables e below (s₁.setTop (entryFrame m #[(.ref o0), (.int p1)] 3)) τ := fun τ κ => c26 τ (st27 τ κ)
  have c29 : ∀ τ, Steps p.tables e below (T27.setTop (mkF m 47 #[.val (.ref o0), .val (.int p1), .unset] [(.int (own_s5 p1))])) τ → Steps p.tables e below (s₁.setTop (entryFrame m #[(.ref o0), (.int p1)] 3)) τ := fun τ κ => c28 τ (by
      show Steps p.tables e below (T27.setTop (mkF m 46 #[.val (.ref o0), .val (.int p1), .unset] [(.int (f3_0_r p1 (123 : Int32))), (.int (own_s4 p1))])) _
      refine XS.iadd X27.here hx rfl (hb hby d2_46) rfl ?_
      exact κ)
  have c30 : ∀ τ, Steps p.tables e below (T27.setTop (mkF m 51 #[.val (.ref o0), .val (.int p1), .unset] [(.int (6 : Int32)), (.ref o0), (.int p1), (.int (own_s5 p1))])) τ → Steps p.tables e below (s₁.setTop (entryFrame m #[(.ref o0), (.int p1)] 3)) τ := fun τ κ => c29 τ (by
      show Steps p.tables e below (T27.setTop (mkF m 47 #[.val (.ref o0), .val (.int p1), .unset] [(.int (own_s5 p1))])) _
      refine XS.iloadN X27.here hx rfl (hb hby d2_47) rfl ?_
      show Steps p.tables e below (T27.setTop (mkF m 48 #[.val (.ref o0), .val (.int p1), .unset] [(.int p1), (.int (own_s5 p1))])) _
      refine XS.aloadN X27.here hx rfl (hb hby d2_48) rfl rfl ?_
      show Steps p.tables e below (T27.setTop (mkF m 49 #[.val (.ref o0), .val (.int p1), .unset] [(.ref o0), (.int p1), (.int (own_s5 p1))])) _
      refine XS.bipush X27.here hx rfl (hb hby d2_49) ?_
      exact κ)
  have c31 : ∀ τ, Steps p.tables e below (T27.setTop (mkF m 52 #[.val (.ref o0), .val (.int p1), .unset] [(.int (192 : Int32)), (.int p1), (.int (own_s5 p1))])) τ → Steps p.tables e below (s₁.setTop (entryFrame m #[(.ref o0), (.int p1)] 3)) τ := fun τ κ => c30 τ (own_iaload X27 hx hZ e27 FV (j := (6 : Int32)) ⟨by decide, by decide⟩ (v := (.int (192 : Int32))) rfl (g := (mkF m 51 #[.val (.ref o0), .val (.int p1), .unset] [(.int (6 : Int32)), (.ref o0), (.int p1), (.int (own_s5 p1))])) rfl rfl (hb hby d2_51) _ κ)
  obtain ⟨_, _, ⟨T32, L32, k32, n32⟩, -, X32, ⟨Lc32, hQ32, l32, y32, z32⟩, st32⟩ := Jvm.LawKit.callS X27 hx (y := (⟨"com/example/node_sieve/nodesieve/XPathCharsIsNameStartPinLaw", "ge", "(II)I"⟩ : MethodName)) hown (mvT hZ (hw _ (List.mem_of_getElem? (i := 20) rfl))) (mvT hZ (hw _ (List.mem_of_getElem? (i := 21) rfl))) (mvT hZ (hw _ (List.mem_of_getElem? (i := 18) rfl))) (mvT hZ (hw _ (List.mem_of_getElem? (i := 22) rfl))) (by decide) (backOf (W := 1) (rm3 l Z a0 hw [] p1 (192 : Int32) h0 n0 Z0) hZ (hw _ (List.mem_of_getElem? (i := 22) rfl)) (hw _ (List.mem_of_getElem? (i := 18) rfl)) (by decide) (by decide)) (g := (mkF m 52 #[.val (.ref o0), .val (.int p1), .unset] [(.int (192 : Int32)), (.int p1), (.int (own_s5 p1))])) rfl (by rw [hml]; rfl) (argsL := [(.int p1), (.int (192 : Int32))]) (rest := [(.int (own_s5 p1))]) (lenOf pd_1 rfl) rfl (by show 2 * 0 + _ ≤ _; exact Nat.le_of_eq rfl) (hb hby d2_52) (fun _ _ => ⟨rfl, e27, (by decide : 0 + 0 ≤ _), (by decide : 0 + 0 ≤ _)⟩)
  dsimp only [Pt.U, Pt.locs, Pt.cells, Pt.slots] at X32 l32 y32 z32 st32 hQ32
  rw [y32, z32] at X32
  obtain ⟨rfl, N32q, e32⟩ := hQ32
  have N32 : Fr n0 L32 := by rw [l32]; exact Fr.app N27 N32q
  replace X32 : Stand p l e _ s m _ below meth c T32 L32 0 0 := X32
  clear l32 y32 z32
  have c33 : ∀ τ, Steps p.tables e below (T32.setTop (mkF m 55 #[.val (.ref o0), .val (.int p1), .unset] [(.int (f3_0_r p1 (192 : Int32))), (.int (own_s5 p1))])) τ → Steps p.tables e below (s₁.setTop (entryFrame m #[(.ref o0), (.int p1)] 3)) τ := fun τ κ => c31 τ (st32 τ κ)
  have c34 : ∀ τ, Steps p.tables e below (T32.setTop (mkF m 56 #[.val (.ref o0), .val (.int p1), .unset] [(.int (own_s6 p1))])) τ → Steps p.tables e below (s₁.setTop (entryFrame m #[(.ref o0), (.int p1)] 3)) τ := fun τ κ => c33 τ (by
      show Steps p.tables e below (T32.setTop (mkF m 55 #[.val (.ref o0), .val (.int p1), .unset] [(.int (f3_0_r p1 (192 : Int32))), (.int (own_s5 p1))])) _
      refine XS.iadd X32.here hx rfl (hb hby d2_55) rfl ?_
      exact κ)
  have c35 : ∀ τ, Steps p.tables e below (T32.setTop (mkF m 60 #[.val (.ref o0), .val (.int p1), .unset] [(.int (7 : Int32)), (.ref o0), (.int p1), (.int (own_s6 p1))])) τ → Steps p.tables e below (s₁.setTop (entryFrame m #[(.ref o0), (.int p1)] 3)) τ := fun τ κ => c34 τ (by
      show Steps p.tables e below (T32.setTop (mkF m 56 #[.val (.ref o0), .val (.int p1), .unset] [(.int (own_s6 p1))])) _
      refine XS.iloadN X32.here hx rfl (hb hby d2_56) rfl ?_
      show Steps p.tables e below (T32.setTop (mkF m 57 #[.val (.ref o0), .val (.int p1), .unset] [(.int p1), (.int (own_s6 p1))])) _
      refine XS.aloadN X32.here hx rfl (hb hby d2_57) rfl rfl ?_
      show Steps p.tables e below (T32.setTop (mkF m 58 #[.val (.ref o0), .val (.int p1), .unset] [(.ref o0), (.int p1), (.int (own_s6 p1))])) _
      refine XS.bipush X32.here hx rfl (hb hby d2_58) ?_
      exact κ)
  have c36 : ∀ τ, Steps p.tables e below (T32.setTop (mkF m 61 #[.val (.ref o0), .val (.int p1), .unset] [(.int (215 : Int32)), (.int p1), (.int (own_s6 p1))])) τ → Steps p.tables e below (s₁.setTop (entryFrame m #[(.ref o0), (.int p1)] 3)) τ := fun τ κ => c35 τ (own_iaload X32 hx hZ e32 FV (j := (7 : Int32)) ⟨by decide, by decide⟩ (v := (.int (215 : Int32))) rfl (g := (mkF m 60 #[.val (.ref o0), .val (.int p1), .unset] [(.int (7 : Int32)), (.ref o0), (.int p1), (.int (own_s6 p1))])) rfl rfl (hb hby d2_60) _ κ)
  obtain ⟨_, _, ⟨T37, L37, k37, n37⟩, -, X37, ⟨Lc37, hQ37, l37, y37, z37⟩, st37⟩ := Jvm.LawKit.callS X32 hx (y := (⟨"com/example/node_sieve/nodesieve/XPathCharsIsNameStartPinLaw", "ge", "(II)I"⟩ : MethodName)) hown (mvT hZ (hw _ (List.mem_of_getElem? (i := 20) rfl))) (mvT hZ (hw _ (List.mem_of_getElem? (i := 21) rfl))) (mvT hZ (hw _ (List.mem_of_getElem? (i := 18) rfl))) (mvT hZ (hw _ (List.mem_of_getElem? (i := 22) rfl))) (by decide) (backOf (W := 1) (rm3 l Z a0 hw [] p1 (215 : Int32) h0 n0 Z0) hZ (hw _ (List.mem_of_getElem? (i := 22) rfl)) (hw _ (List.mem_of_getElem? (i := 18) rfl)) (by decide) (by decide)) (g := (mkF m 61 #[.val (.ref o0), .val (.int p1), .unset] [(.int (215 : Int32)), (.int p1), (.int (own_s6 p1))])) rfl (by rw [hml]; rfl) (argsL := [(.int p1), (.int (215 : Int32))]) (rest := [(.int (own_s6 p1))]) (lenOf pd_1 rfl) rfl (by show 2 * 0 + _ ≤ _; exact Nat.le_of_eq rfl) (hb hby d2_61) (fun _ _ => ⟨rfl, e32, (by decide : 0 + 0 ≤ _), (by decide : 0 + 0 ≤ _)⟩)
  dsimp only [Pt.U, Pt.locs, Pt.cells, Pt.slots] at X37 l37 y37 z37 st37 hQ37
  rw [y37, z37] at X37
  obtain ⟨rfl, N37q, e37⟩ := hQ37
  have N37 : Fr n0 L37 := by rw [l37]; exact Fr.app N32 N37q
  replace X37 : Stand p l e _ s m _ below meth c T37 L37 0 0 := X37
  clear l37 y37 z37
  have c38 : ∀ τ, Steps p.tables e below (T37.setTop (mkF m 64 #[.val (.ref o0), .val (.int p1), .unset] [(.int (f3_0_r p1 (215 : Int32))), (.int (own_s6 p1))])) τ → Steps p.tables e below (s₁.setTop (entryFrame m #[(.ref o0), (.int p1)] 3)) τ := fun τ κ => c36 τ (st37 τ κ)
  have c39 : ∀ τ, Steps p.tables e below (T37.setTop (mkF m 65 #[.val (.ref o0), .val (.int p1), .unset] [(.int (own_s7 p1))])) τ → Steps p.tables e below (s₁.setTop (entryFrame m #[(.ref o0), (.int p1)] 3)) τ := fun τ κ => c38 τ (by
      show Steps p.tables e below (T37.setTop (mkF m 64 #[.val (.ref o0), .val (.int p1), .unset] [(.int (f3_0_r p1 (215 : Int32))), (.int (own_s6 p1))])) _
      refine XS.iadd X37.here hx rfl (hb hby d2_64) rfl ?_
      exact κ)
  have c40 : ∀ τ, Steps p.tables e below (T37.setTop (mkF m 69 #[.val (.ref o0), .val (.int p1), .unset] [(.int (8 : Int32)), (.ref o0), (.int p1), (.int (own_s7 p1))])) τ → Steps p.tables e below (s₁.setTop (entryFrame m #[(.ref o0), (.int p1)] 3)) τ := fun τ κ => c39 τ (by
      show Steps p.tables e below (T37.setTop (mkF m 65 #[.val (.ref o0), .val (.int p1), .unset] [(.int (own_s7 p1))])) _
      refine XS.iloadN X37.here hx rfl (hb hby d2_65) rfl ?_
      show Steps p.tables e below (T37.setTop (mkF m 66 #[.val (.ref o0), .val (.int p1), .unset] [(.int p1), (.int (own_s7 p1))])) _
      refine XS.aloadN X37.here hx rfl (hb hby d2_66) rfl rfl ?_
      show Steps p.tables e below (T37.setTop (mkF m 67 #[.val (.ref o0), .val (.int p1), .unset] [(.ref o0), (.int p1), (.int (own_s7 p1))])) _
      refine XS.bipush X37.here hx rfl (hb hby d2_67) ?_
      exact κ)
  have c41 : ∀ τ, Steps p.tables e below (T37.setTop (mkF m 70 #[.val (.ref o0), .val (.int p1), .unset] [(.int (216 : Int32)), (.int p1), (.int (own_s7 p1))])) τ → Steps p.tables e below (s₁.setTop (entryFrame m #[(.ref o0), (.int p1)] 3)) τ := fun τ κ => c40 τ (own_iaload X37 hx hZ e37 FV (j := (8 : Int32)) ⟨by decide, by decide⟩ (v := (.int (216 : Int32))) rfl (g := (mkF m 69 #[.val (.ref o0), .val (.int p1), .unset] [(.int (8 : Int32)), (.ref o0), (.int p1), (.int (own_s7 p1))])) rfl rfl (hb hby d2_69) _ κ)
  obtain ⟨_, _, ⟨T42, L42, k42, n42⟩, -, X42, ⟨Lc42, hQ42, l42, y42, z42⟩, st42⟩ := Jvm.LawKit.callS X37 hx (y := (⟨"com/example/node_sieve/nodesieve/XPathCharsIsNameStartPinLaw", "ge", "(II)I"⟩ : MethodName)) hown (mvT hZ (hw _ (List.mem_of_getElem? (i := 20) rfl))) (mvT hZ (hw _ (List.mem_of_getElem? (i := 21) rfl))) (mvT hZ (hw _ (List.mem_of_getElem? (i := 18) rfl))) (mvT hZ (hw _ (List.mem_of_getElem? (i := 22) rfl))) (by decide) (backOf (W := 1) (rm3 l Z a0 hw [] p1 (216 : Int32) h0 n0 Z0) hZ (hw _ (List.mem_of_getElem? (i := 22) rfl)) (hw _ (List.mem_of_getElem? (i := 18) rfl)) (by decide) (by decide)) (g := (mkF m 70 #[.val (.ref o0), .val (.int p1), .unset] [(.int (216 : Int32)), (.int p1), (.int (own_s7 p1))])) rfl (by rw [hml]; rfl) (argsL := [(.int p1), (.int (216 : Int32))]) (rest := [(.int (own_s7 p1))]) (lenOf pd_1 rfl) rfl (by show 2 * 0 + _ ≤ _; exact Nat.le_of_eq rfl) (hb hby d2_70) (fun _ _ => ⟨rfl, e37, (by decide : 0 + 0 ≤ _), (by decide : 0 + 0 ≤ _)⟩)
  dsimp only [Pt.U, Pt.locs, Pt.cells, Pt.slots] at X42 l42 y42 z42 st42 hQ42
  rw [y42, z42] at X42
  obtain ⟨rfl, N42q, e42⟩ := hQ42
  have N42 : Fr n0 L42 := by rw [l42]; exact Fr.app N37 N42q
  replace X42 : Stand p l e _ s m _ below meth c T42 L42 0 0 := X42
  clear l42 y42 z42
  have c43 : ∀ τ, Steps p.tables e below (T42.setTop (mkF m 73 #[.val (.ref o0), .val (.int p1), .unset] [(.int (f3_0_r p1 (216 : Int32))), (.int (own_s7 p1))])) τ → Steps p.tables e below (s₁.setTop (entryFrame m #[(.ref o0), (.int p1)] 3)) τ := fun τ κ => c41 τ (st42 τ κ)
  have c44 : ∀ τ, Steps p.tables e below (T42.setTop (mkF m 74 #[.val (.ref o0), .val (.int p1), .unset] [(.int (own_s8 p1))])) τ → Steps p.tables e below (s₁.setTop (entryFrame m #[(.ref o0), (.int p1)] 3)) τ := fun τ κ => c43 τ (by
      show Steps p.tables e below (T42.setTop (mkF m 73 #[.val (.ref o0), .val (.int p1), .unset] [(.int (f3_0_r p1 (216 : Int32))), (.int (own_s7 p1))])) _
      refine XS.iadd X42.here hx rfl (hb hby d2_73) rfl ?_
      exact κ)
  have c45 : ∀ τ, Steps p.tables e below (T42.setTop (mkF m 78 #[.val (.ref o0), .val (.int p1), .unset] [(.int (9 : Int32)), (.ref o0), (.int p1), (.int (own_s8 p1))])) τ → Steps p.tables e below (s₁.setTop (entryFrame m #[(.ref o0), (.int p1)] 3)) τ := fun τ κ => c44 τ (by
      show Steps p.tables e below (T42.setTop (mkF m 74 #[.val (.ref o0), .val (.int p1), .unset] [(.int (own_s8 p1))])) _
      refine XS.iloadN X42.here hx rfl (hb hby d2_74) rfl ?_
      show Steps p.tables e below (T42.setTop (mkF m 75 #[.val (.ref o0), .val (.int p1), .unset] [(.int p1), (.int (own_s8 p1))])) _
      refine XS.aloadN X42.here hx rfl (hb hby d2_75) rfl rfl ?_
      show Steps p.tables e below (T42.setTop (mkF m 76 #[.val (.ref o0), .val (.int p1), .unset] [(.ref o0), (.int p1), (.int (own_s8 p1))])) _
      refine XS.bipush X42.here hx rfl (hb hby d2_76) ?_
      exact κ)
  have c46 : ∀ τ, Steps p.tables e below (T42.setTop (mkF m 79 #[.val (.ref o0), .val (.int p1), .unset] [(.int (247 : Int32)), (.int p1), (.int (own_s8 p1))])) τ → Steps p.tables e below (s₁.setTop (entryFrame m #[(.ref o0), (.int p1)] 3)) τ := fun τ κ => c45 τ (own_iaload X42 hx hZ e42 FV (j := (9 : Int32)) ⟨by decide, by decide⟩ (v := (.int (247 : Int32))) rfl (g := (mkF m 78 #[.val (.ref o0), .val (.int p1), .unset] [(.int (9 : Int32)), (.ref o0), (.int p1), (.int (own_s8 p1))])) rfl rfl (hb hby d2_78) _ κ)
  obtain ⟨_, _, ⟨T47, L47, k47, n47⟩, -, X47, ⟨Lc47, hQ47, l47, y47, z47⟩, st47⟩ := Jvm.LawKit.callS X42 hx (y := (⟨"com/example/node_sieve/nodesieve/XPathCharsIsNameStartPinLaw", "ge", "(II)I"⟩ : MethodName)) hown (mvT hZ (hw _ (List.mem_of_getElem? (i := 20) rfl))) (mvT hZ (hw _ (List.mem_of_getElem? (i := 21) rfl))) (mvT hZ (hw _ (List.mem_of_getElem? (i := 18) rfl))) (mvT hZ (hw _ (List.mem_of_getElem? (i := 22) rfl))) (by decide) (backOf (W := 1) (rm3 l Z a0 hw [] p1 (247 : Int32) h0 n0 Z0) hZ (hw _ (List.mem_of_getElem? (i := 22) rfl)) (hw _ (List.mem_of_getElem? (i := 18) rfl)) (by decide) (by decide)) (g := (mkF m 79 #[.val (.ref o0), .val (.int p1), .unset] [(.int (247 : Int32)), (.int p1), (.int (own_s8 p1))])) rfl (by rw [hml]; rfl) (argsL := [(.int p1), (.int (247 : Int32))]) (rest := [(.int (own_s8 p1))]) (lenOf pd_1 rfl) rfl (by show 2 * 0 + _ ≤ _; exact Nat.le_of_eq rfl) (hb hby d2_79) (fun _ _ => ⟨rfl, e42, (by decide : 0 + 0 ≤ _), (by decide : 0 + 0 ≤ _)⟩)
  dsimp only [Pt.U, Pt.locs, Pt.cells, Pt.slots] at X47 l47 y47 z47 st47 hQ47
  rw [y47, z47] at X47
  obtain ⟨rfl, N47q, e47⟩ := hQ47
  have N47 : Fr n0 L47 := by rw [l47]; exact Fr.app N42 N47q
  replace X47 : Stand p l e _ s m _ below meth c T47 L47 0 0 := X47
  clear l47 y47 z47
  have c48 : ∀ τ, Steps p.tables e below (T47.setTop (mkF m 82 #[.val (.ref o0), .val (.int p1), .unset] [(.int (f3_0_r p1 (247 : Int32))), (.int (own_s8 p1))])) τ → Steps p.tables e below (s₁.setTop (entryFrame m #[(.ref o0), (.int p1)] 3)) τ := fun τ κ => c46 τ (st47 τ κ)
  have c49 : ∀ τ, Steps p.tables e below (T47.setTop (mkF m 83 #[.val (.ref o0), .val (.int p1), .unset] [(.int (own_s9 p1))])) τ → Steps p.tables e below (s₁.setTop (entryFrame m #[(.ref o0), (.int p1)] 3)) τ := fun τ κ => c48 τ (by
      show Steps p.tables e below (T47.setTop (mkF m 82 #[.val (.ref o0), .val (.int p1), .unset] [(.int (f3_0_r p1 (247 : Int32))), (.int (own_s8 p1))])) _
      refine XS.iadd X47.here hx rfl (hb hby d2_82) rfl ?_
      exact κ)
  have c50 : ∀ τ, Steps p.tables e below (T47.setTop (mkF m 87 #[.val (.ref o0), .val (.int p1), .unset] [(.int (10 : Int32)), (.ref o0), (.int p1), (.int (own_s9 p1))])) τ → Steps p.tables e below (s₁.setTop (entryFrame m #[(.ref o0), (.int p1)] 3)) τ := fun τ κ => c49 τ (by
      show Steps p.tables e below (T47.setTop (mkF m 83 #[.val (.ref o0), .val (.int p1), .unset] [(.int (own_s9 p1))])) _
      refine XS.iloadN X47.here hx rfl (hb hby d2_83) rfl ?_
      show Steps p.tables e below (T47.setTop (mkF m 84 #[.val (.ref o0), .val (.int p1), .unset] [(.int p1), (.int (own_s9 p1))])) _
      refine XS.aloadN X47.here hx rfl (hb hby d2_84) rfl rfl ?_
      show Steps p.tables e below (T47.setTop (mkF m 85 #[.val (.ref o0), .val (.int p1), .unset] [(.ref o0), (.int p1), (.int (own_s9 p1))])) _
      refine XS.bipush X47.here hx rfl (hb hby d2_85) ?_
      exact κ)
  have c51 : ∀ τ, Steps p.tables e below (T47.setTop (mkF m 88 #[.val (.ref o0), .val (.int p1), .unset] [(.int (248 : Int32)), (.int p1), (.int (own_s9 p1))])) τ → Steps p.tables e below (s₁.setTop (entryFrame m #[(.ref o0), (.int p1)] 3)) τ := fun τ κ => c50 τ (own_iaload X47 hx hZ e47 FV (j := (10 : Int32)) ⟨by decide, by decide⟩ (v := (.int (248 : Int32))) rfl (g := (mkF m 87 #[.val (.ref o0), .val (.int p1), .unset] [(.int (10 : Int32)), (.ref o0), (.int p1), (.int (own_s9 p1))])) rfl rfl (hb hby d2_87) _ κ)
  obtain ⟨_, _, ⟨T52, L52, k52, n52⟩, -, X52, ⟨Lc52, hQ52, l52, y52, z52⟩, st52⟩ := Jvm.LawKit.callS X47 hx (y := (⟨"com/example/node_sieve/nodesieve/XPathCharsIsNameStartPinLaw", "ge", "(II)I"⟩ : MethodName)) hown (mvT hZ (hw _ (List.mem_of_getElem? (i := 20) rfl))) (mvT hZ (hw _ (List.mem_of_getElem? (i := 21) rfl))) (mvT hZ (hw _ (List.mem_of_getElem? (i := 18) rfl))) (mvT hZ (hw _ (List.mem_of_getElem? (i := 22) rfl))) (by decide) (backOf (W := 1) (rm3 l Z a0 hw [] p1 (248 : Int32) h0 n0 Z0) hZ (hw _ (List.mem_of_getElem? (i := 22) rfl)) (hw _ (List.mem_of_getElem? (i := 18) rfl)) (by decide) (by decide)) (g := (mkF m 88 #[.val (.ref o0), .val (.int p1), .unset] [(.int (248 : Int32)), (.int p1), (.int (own_s9 p1))])) rfl (by rw [hml]; rfl) (argsL := [(.int p1), (.int (248 : Int32))]) (rest := [(.int (own_s9 p1))]) (lenOf pd_1 rfl) rfl (by show 2 * 0 + _ ≤ _; exact Nat.le_of_eq rfl) (hb hby d2_88) (fun _ _ => ⟨rfl, e47, (by decide : 0 + 0 ≤ _), (by decide : 0 + 0 ≤ _)⟩)
  dsimp only [Pt.U, Pt.locs, Pt.cells, Pt.slots] at X52 l52 y52 z52 st52 hQ52
  rw [y52, z52] at X52
  obtain ⟨rfl, N52q, e52⟩ := hQ52
  have N52 : Fr n0 L52 := by rw [l52]; exact Fr.app N47 N52q
  replace X52 : Stand p l e _ s m _ below meth c T52 L52 0 0 := X52
  clear l52 y52 z52
  have c53 : ∀ τ, Steps p.tables e below (T52.setTop (mkF m 91 #[.val (.ref o0), .val (.int p1), .unset] [(.int (f3_0_r p1 (248 : Int32))), (.int (own_s9 p1))])) τ → Steps p.tables e below (s₁.setTop (entryFrame m #[(.ref o0), (.int p1)] 3)) τ := fun τ κ => c51 τ (st52 τ κ)
  have c54 : ∀ τ, Steps p.tables e below (T52.setTop (mkF m 92 #[.val (.ref o0), .val (.int p1), .unset] [(.int (own_s10 p1))])) τ → Steps p.tables e below (s₁.setTop (entryFrame m #[(.ref o0), (.int p1)] 3)) τ := fun τ κ => c53 τ (by
      show Steps p.tables e below (T52.setTop (mkF m 91 #[.val (.ref o0), .val (.int p1), .unset] [(.int (f3_0_r p1 (248 : Int32))), (.int (own_s9 p1))])) _
      refine XS.iadd X52.here hx rfl (hb hby d2_91) rfl ?_
      exact κ)
  have c55 : ∀ τ, Steps p.tables e below (T52.setTop (mkF m 96 #[.val (.ref o0), .val (.int p1), .unset] [(.int (11 : Int32)), (.ref o0), (.int p1), (.int (own_s10 p1))])) τ → Steps p.tables e below (s₁.setTop (entryFrame m #[(.ref o0), (.int p1)] 3)) τ := fun τ κ => c54 τ (by
      show Steps p.tables e below (T52.setTop (mkF m 92 #[.val (.ref o0), .val (.int p1), .unset] [(.int (own_s10 p1))])) _
      refine XS.iloadN X52.here hx rfl (hb hby d2_92) rfl ?_
      show Steps p.tables e below (T52.setTop (mkF m 93 #[.val (.ref o0), .val (.int p1), .unset] [(.int p1), (.int (own_s10 p1))])) _
      refine XS.aloadN X52.here hx rfl (hb hby d2_93) rfl rfl ?_
      show Steps p.tables e below (T52.setTop (mkF m 94 #[.val (.ref o0), .val (.int p1), .unset] [(.ref o0), (.int p1), (.int (own_s10 p1))])) _
      refine XS.bipush X52.here hx rfl (hb hby d2_94) ?_
      exact κ)
  have c56 : ∀ τ, Steps p.tables e below (T52.setTop (mkF m 97 #[.val (.ref o0), .val (.int p1), .unset] [(.int (768 : Int32)), (.int p1), (.int (own_s10 p1))])) τ → Steps p.tables e below (s₁.setTop (entryFrame m #[(.ref o0), (.int p1)] 3)) τ := fun τ κ => c55 τ (own_iaload X52 hx hZ e52 FV (j := (11 : Int32)) ⟨by decide, by decide⟩ (v := (.int (768 : Int32))) rfl (g := (mkF m 96 #[.val (.ref o0), .val (.int p1), .unset] [(.int (11 : Int32)), (.ref o0), (.int p1), (.int (own_s10 p1))])) rfl rfl (hb hby d2_96) _ κ)
  obtain ⟨_, _, ⟨T57, L57, k57, n57⟩, -, X57, ⟨Lc57, hQ57, l57, y57, z57⟩, st57⟩ := Jvm.LawKit.callS X52 hx (y := (⟨"com/example/node_sieve/nodesieve/XPathCharsIsNameStartPinLaw", "ge", "(II)I"⟩ : MethodName)) hown (mvT hZ (hw _ (List.mem_of_getElem? (i := 20) rfl))) (mvT hZ (hw _ (List.mem_of_getElem? (i := 21) rfl))) (mvT hZ (hw _ (List.mem_of_getElem? (i := 18) rfl))) (mvT hZ (hw _ (List.mem_of_getElem? (i := 22) rfl))) (by decide) (backOf (W := 1) (rm3 l Z a0 hw [] p1 (768 : Int32) h0 n0 Z0) hZ (hw _ (List.mem_of_getElem? (i := 22) rfl)) (hw _ (List.mem_of_getElem? (i := 18) rfl)) (by decide) (by decide)) (g := (mkF m 97 #[.val (.ref o0), .val (.int p1), .unset] [(.int (768 : Int32)), (.int p1), (.int (own_s10 p1))])) rfl (by rw [hml]; rfl) (argsL := [(.int p1), (.int (768 : Int32))]) (rest := [(.int (own_s10 p1))]) (lenOf pd_1 rfl) rfl (by show 2 * 0 + _ ≤ _; exact Nat.le_of_eq rfl) (hb hby d2_97) (fun _ _ => ⟨rfl, e52, (by decide : 0 + 0 ≤ _), (by decide : 0 + 0 ≤ _)⟩)
  dsimp only [Pt.U, Pt.locs, Pt.cells, Pt.slots] at X57 l57 y57 z57 st57 hQ57
  rw [y57, z57] at X57
  obtain ⟨rfl, N57q, e57⟩ := hQ57
  have N57 : Fr n0 L57 := by rw [l57]; exact Fr.app N52 N57q
  replace X57 : Stand p l e _ s m _ below meth c T57 L57 0 0 := X57
  clear l57 y57 z57
  have c58 : ∀ τ, Steps p.tables e below (T57.setTop (mkF m 100 #[.val (.ref o0), .val (.int p1), .unset] [(.int (f3_0_r p1 (768 : Int32))), (.int (own_s10 p1))])) τ → Steps p.tables e below (s₁.setTop (entryFrame m #[(.ref o0), (.int p1)] 3)) τ := fun τ κ => c56 τ (st57 τ κ)
  have c59 : ∀ τ, Steps p.tables e below (T57.setTop (mkF m 101 #[.val (.ref o0), .val (.int p1), .unset] [(.int (own_s11 p1))])) τ → Steps p.tables e below (s₁.setTop (entryFrame m #[(.ref o0), (.int p1)] 3)) τ := fun τ κ => c58 τ (by
      show Steps p.tables e below (T57.setTop (mkF m 100 #[.val (.ref o0), .val (.int p1), .unset] [(.int (f3_0_r p1 (768 : Int32))), (.int (own_s10 p1))])) _
      refine XS.iadd X57.here hx rfl (hb hby d2_100) rfl ?_
      exact κ)
  have c60 : ∀ τ, Steps p.tables e below (T57.setTop (mkF m 105 #[.val (.ref o0), .val (.int p1), .unset] [(.int (12 : Int32)), (.ref o0), (.int p1), (.int (own_s11 p1))])) τ → Steps p.tables e below (s₁.setTop (entryFrame m #[(.ref o0), (.int p1)] 3)) τ := fun τ κ => c59 τ (by
      show Steps p.tables e below (T57.setTop (mkF m 101 #[.val (.ref o0), .val (.int p1), .unset] [(.int (own_s11 p1))])) _
      refine XS.iloadN X57.here hx rfl (hb hby d2_101) rfl ?_
      show Steps p.tables e below (T57.setTop (mkF m 102 #[.val (.ref o0), .val (.int p1), .unset] [(.int p1), (.int (own_s11 p1))])) _
      refine XS.aloadN X57.here hx rfl (hb hby d2_102) rfl rfl ?_
      show Steps p.tables e below (T57.setTop (mkF m 103 #[.val (.ref o0), .val (.int p1), .unset] [(.ref o0), (.int p1), (.int (own_s11 p1))])) _
      refine XS.bipush X57.here hx rfl (hb hby d2_103) ?_
      exact κ)
  have c61 : ∀ τ, Steps p.tables e below (T57.setTop (mkF m 106 #[.val (.ref o0), .val (.int p1), .unset] [(.int (880 : Int32)), (.int p1), (.int (own_s11 p1))])) τ → Steps p.tables e below (s₁.setTop (entryFrame m #[(.ref o0), (.int p1)] 3)) τ := fun τ κ => c60 τ (own_iaload X57 hx hZ e57 FV (j := (12 : Int32)) ⟨by decide, by decide⟩ (v := (.int (880 : Int32))) rfl (g := (mkF m 105 #[.val (.ref o0), .val (.int p1), .unset] [(.int (12 : Int32)), (.ref o0), (.int p1), (.int (own_s11 p1))])) rfl rfl (hb hby d2_105) _ κ)
  obtain ⟨_, _, ⟨T62, L62, k62, n62⟩, -, X62, ⟨Lc62, hQ62, l62, y62, z62⟩, st62⟩ := Jvm.LawKit.callS X57 hx (y := (⟨"com/example/node_sieve/nodesieve/XPathCharsIsNameStartPinLaw", "ge", "(II)I"⟩ : MethodName)) hown (mvT hZ (hw _ (List.mem_of_getElem? (i := 20) rfl))) (mvT hZ (hw _ (List.mem_of_getElem? (i := 21) rfl))) (mvT hZ (hw _ (List.mem_of_getElem? (i := 18) rfl))) (mvT hZ (hw _ (List.mem_of_getElem? (i := 22) rfl))) (by decide) (backOf (W := 1) (rm3 l Z a0 hw [] p1 (880 : Int32) h0 n0 Z0) hZ (hw _ (List.mem_of_getElem? (i := 22) rfl)) (hw _ (List.mem_of_getElem? (i := 18) rfl)) (by decide) (by decide)) (g := (mkF m 106 #[.val (.ref o0), .val (.int p1), .unset] [(.int (880 : Int32)), (.int p1), (.int (own_s11 p1))])) rfl (by rw [hml]; rfl) (argsL := [(.int p1), (.int (880 : Int32))]) (rest := [(.int (own_s11 p1))]) (lenOf pd_1 rfl) rfl (by show 2 * 0 + _ ≤ _; exact Nat.le_of_eq rfl) (hb hby d2_106) (fun _ _ => ⟨rfl, e57, (by decide : 0 + 0 ≤ _), (by decide : 0 + 0 ≤ _)⟩)
  dsimp only [Pt.U, Pt.locs, Pt.cells, Pt.slots] at X62 l62 y62 z62 st62 hQ62
  rw [y62, z62] at X62
  obtain ⟨rfl, N62q, e62⟩ := hQ62
  have N62 : Fr n0 L62 := by rw [l62]; exact Fr.app N57 N62q
  replace X62 : Stand p l e _ s m _ below meth c T62 L62 0 0 := X62
  clear l62 y62 z62
  have c63 : ∀ τ, Steps p.tables e below (T62.setTop (mkF m 109 #[.val (.ref o0), .val (.int p1), .unset] [(.int (f3_0_r p1 (880 : Int32))), (.int (own_s11 p1))])) τ → Steps p.tables e below (s₁.setTop (entryFrame m #[(.ref o0), (.int p1)] 3)) τ := fun τ κ => c61 τ (st62 τ κ)
  have c64 : ∀ τ, Steps p.tables e below (T62.setTop (mkF m 110 #[.val (.ref o0), .val (.int p1), .unset] [(.int (own_s12 p1))])) τ → Steps p.tables e below (s₁.setTop (entryFrame m #[(.ref o0), (.int p1)] 3)) τ := fun τ κ => c63 τ (by
      show Steps p.tables e below (T62.setTop (mkF m 109 #[.val (.ref o0), .val (.int p1), .unset] [(.int (f3_0_r p1 (880 : Int32))), (.int (own_s11 p1))])) _
      refine XS.iadd X62.here hx rfl (hb hby d2_109) rfl ?_
      exact κ)
  have c65 : ∀ τ, Steps p.tables e below (T62.setTop (mkF m 114 #[.val (.ref o0), .val (.int p1), .unset] [(.int (13 : Int32)), (.ref o0), (.int p1), (.int (own_s12 p1))])) τ → Steps p.tables e below (s₁.setTop (entryFrame m #[(.ref o0), (.int p1)] 3)) τ := fun τ κ => c64 τ (by
      show Steps p.tables e below (T62.setTop (mkF m 110 #[.val (.ref o0), .val (.int p1), .unset] [(.int (own_s12 p1))])) _
      refine XS.iloadN X62.here hx rfl (hb hby d2_110) rfl ?_
      show Steps p.tables e below (T62.setTop (mkF m 111 #[.val (.ref o0), .val (.int p1), .unset] [(.int p1), (.int (own_s12 p1))])) _
      refine XS.aloadN X62.here hx rfl (hb hby d2_111) rfl rfl ?_
      show Steps p.tables e below (T62.setTop (mkF m 112 #[.val (.ref o0), .val (.int p1), .unset] [(.ref o0), (.int p1), (.int (own_s12 p1))])) _
      refine XS.bipush X62.here hx rfl (hb hby d2_112) ?_
      exact κ)
  have c66 : ∀ τ, Steps p.tables e below (T62.setTop (mkF m 115 #[.val (.ref o0), .val (.int p1), .unset] [(.int (894 : Int32)), (.int p1), (.int (own_s12 p1))])) τ → Steps p.tables e below (s₁.setTop (entryFrame m #[(.ref o0), (.int p1)] 3)) τ := fun τ κ => c65 τ (own_iaload X62 hx hZ e62 FV (j := (13 : Int32)) ⟨by decide, by decide⟩ (v := (.int (894 : Int32))) rfl (g := (mkF m 114 #[.val (.ref o0), .val (.int p1), .unset] [(.int (13 : Int32)), (.ref o0), (.int p1), (.int (own_s12 p1))])) rfl rfl (hb hby d2_114) _ κ)
  obtain ⟨_, _, ⟨T67, L67, k67, n67⟩, -, X67, ⟨Lc67, hQ67, l67, y67, z67⟩, st67⟩ := Jvm.LawKit.callS X62 hx (y := (⟨"com/example/node_sieve/nodesieve/XPathCharsIsNameStartPinLaw", "ge", "(II)I"⟩ : MethodName)) hown (mvT hZ (hw _ (List.mem_of_getElem? (i := 20) rfl))) (mvT hZ (hw _ (List.mem_of_getElem? (i := 21) rfl))) (mvT hZ (hw _ (List.mem_of_getElem? (i := 18) rfl))) (mvT hZ (hw _ (List.mem_of_getElem? (i := 22) rfl))) (by decide) (backOf (W := 1) (rm3 l Z a0 hw [] p1 (894 : Int32) h0 n0 Z0) hZ (hw _ (List.mem_of_getElem? (i := 22) rfl)) (hw _ (List.mem_of_getElem? (i := 18) rfl)) (by decide) (by decide)) (g := (mkF m 115 #[.val (.ref o0), .val (.int p1), .unset] [(.int (894 : Int32)), (.int p1), (.int (own_s12 p1))])) rfl (by rw [hml]; rfl) (argsL := [(.int p1), (.int (894 : Int32))]) (rest := [(.int (own_s12 p1))]) (lenOf pd_1 rfl) rfl (by show 2 * 0 + _ ≤ _; exact Nat.le_of_eq rfl) (hb hby d2_115) (fun _ _ => ⟨rfl, e62, (by decide : 0 + 0 ≤ _), (by decide : 0 + 0 ≤ _)⟩)
  dsimp only [Pt.U, Pt.locs, Pt.cells, Pt.slots] at X67 l67 y67 z67 st67 hQ67
  rw [y67, z67] at X67
  obtain ⟨rfl, N67q, e67⟩ := hQ67
  have N67 : Fr n0 L67 := by rw [l67]; exact Fr.app N62 N67q
  replace X67 : Stand p l e _ s m _ below meth c T67 L67 0 0 := X67
  clear l67 y67 z67
  have c68 : ∀ τ, Steps p.tables e below (T67.setTop (mkF m 118 #[.val (.ref o0), .val (.int p1), .unset] [(.int (f3_0_r p1 (894 : Int32))), (.int (own_s12 p1))])) τ → Steps p.tables e below (s₁.setTop (entryFrame m #[(.ref o0), (.int p1)] 3)) τ := fun τ κ => c66 τ (st67 τ κ)
  have c69 : ∀ τ, Steps p.tables e below (T67.setTop (mkF m 119 #[.val (.ref o0), .val (.int p1), .unset] [(.int (own_s13 p1))])) τ → Steps p.tables e below (s₁.setTop (entryFrame m #[(.ref o0), (.int p1)] 3)) τ := fun τ κ => c68 τ (by
      show Steps p.tables e below (T67.setTop (mkF m 118 #[.val (.ref o0), .val (.int p1), .unset] [(.int (f3_0_r p1 (894 : Int32))), (.int (own_s12 p1))])) _
      refine XS.iadd X67.here hx rfl (hb hby d2_118) rfl ?_
      exact κ)
  have c70 : ∀ τ, Steps p.tables e below (T67.setTop (mkF m 123 #[.val (.ref o0), .val (.int p1), .unset] [(.int (14 : Int32)), (.ref o0), (.int p1), (.int (own_s13 p1))])) τ → Steps p.tables e below (s₁.setTop (entryFrame m #[(.ref o0), (.int p1)] 3)) τ := fun τ κ => c69 τ (by
      show Steps p.tables e below (T67.setTop (mkF m 119 #[.val (.ref o0), .val (.int p1), .unset] [(.int (own_s13 p1))])) _
      refine XS.iloadN X67.here hx rfl (hb hby d2_119) rfl ?_
      show Steps p.tables e below (T67.setTop (mkF m 120 #[.val (.ref o0), .val (.int p1), .unset] [(.int p1), (.int (own_s13 p1))])) _
      refine XS.aloadN X67.here hx rfl (hb hby d2_120) rfl rfl ?_
      show Steps p.tables e below (T67.setTop (mkF m 121 #[.val (.ref o0), .val (.int p1), .unset] [(.ref o0), (.int p1), (.int (own_s13 p1))])) _
      refine XS.bipush X67.here hx rfl (hb hby d2_121) ?_
      exact κ)
  have c71 : ∀ τ, Steps p.tables e below (T67.setTop (mkF m 124 #[.val (.ref o0), .val (.int p1), .unset] [(.int (895 : Int32)), (.int p1), (.int (own_s13 p1))])) τ → Steps p.tables e below (s₁.setTop (entryFrame m #[(.ref o0), (.int p1)] 3)) τ := fun τ κ => c70 τ (own_iaload X67 hx hZ e67 FV (j := (14 : Int32)) ⟨by decide, by decide⟩ (v := (.int (895 : Int32))) rfl (g := (mkF m 123 #[.val (.ref o0), .val (.int p1), .unset] [(.int (14 : Int32)), (.ref o0), (.int p1), (.int (own_s13 p1))])) rfl rfl (hb hby d2_123) _ κ)
  obtain ⟨_, _, ⟨T72, L72, k72, n72⟩, -, X72, ⟨Lc72, hQ72, l72, y72, z72⟩, st72⟩ := Jvm.LawKit.callS X67 hx (y := (⟨"com/example/node_sieve/nodesieve/XPathCharsIsNameStartPinLaw", "ge", "(II)I"⟩ : MethodName)) hown (mvT hZ (hw _ (List.mem_of_getElem? (i := 20) rfl))) (mvT hZ (hw _ (List.mem_of_getElem? (i := 21) rfl))) (mvT hZ (hw _ (List.mem_of_getElem? (i := 18) rfl))) (mvT hZ (hw _ (List.mem_of_getElem? (i := 22) rfl))) (by decide) (backOf (W := 1) (rm3 l Z a0 hw [] p1 (895 : Int32) h0 n0 Z0) hZ (hw _ (List.mem_of_getElem? (i := 22) rfl)) (hw _ (List.mem_of_getElem? (i := 18) rfl)) (by decide) (by decide)) (g := (mkF m 124 #[.val (.ref o0), .val (.int p1), .unset] [(.int (895 : Int32)), (.int p1), (.int (own_s13 p1))])) rfl (by rw [hml]; rfl) (argsL := [(.int p1), (.int (895 : Int32))]) (rest := [(.int (own_s13 p1))]) (lenOf pd_1 rfl) rfl (by show 2 * 0 + _ ≤ _; exact Nat.le_of_eq rfl) (hb hby d2_124) (fun _ _ => ⟨rfl, e67, (by decide : 0 + 0 ≤ _), (by decide : 0 + 0 ≤ _)⟩)
  dsimp only [Pt.U, Pt.locs, Pt.cells, Pt.slots] at X72 l72 y72 z72 st72 hQ72
  rw [y72, z72] at X72
  obtain ⟨rfl, N72q, e72⟩ := hQ72
  have N72 : Fr n0 L72 := by rw [l72]; exact Fr.app N67 N72q
  replace X72 : Stand p l e _ s m _ below meth c T72 L72 0 0 := X72
  clear l72 y72 z72
  have c73 : ∀ τ, Steps p.tables e below (T72.setTop (mkF m 127 #[.val (.ref o0), .val (.int p1), .unset] [(.int (f3_0_r p1 (895 : Int32))), (.int (own_s13 p1))])) τ → Steps p.tables e below (s₁.setTop (entryFrame m #[(.ref o0), (.int p1)] 3)) τ := fun τ κ => c71 τ (st72 τ κ)
  have c74 : ∀ τ, Steps p.tables e below (T72.setTop (mkF m 128 #[.val (.ref o0), .val (.int p1), .unset] [(.int (own_s14 p1))])) τ → Steps p.tables e below (s₁.setTop (entryFrame m #[(.ref o0), (.int p1)] 3)) τ := fun τ κ => c73 τ (by
      show Steps p.tables e below (T72.setTop (mkF m 127 #[.val (.ref o0), .val (.int p1), .unset] [(.int (f3_0_r p1 (895 : Int32))), (.int (own_s13 p1))])) _
      refine XS.iadd X72.here hx rfl (hb hby d2_127) rfl ?_
      exact κ)
  have c75 : ∀ τ, Steps p.tables e below (T72.setTop (mkF m 132 #[.val (.ref o0), .val (.int p1), .unset] [(.int (15 : Int32)), (.ref o0), (.int p1), (.int (own_s14 p1))])) τ → Steps p.tables e below (s₁.setTop (entryFrame m #[(.ref o0), (.int p1)] 3)) τ := fun τ κ => c74 τ (by
      show Steps p.tables e below (T72.setTop (mkF m 128 #[.val (.ref o0), .val (.int p1), .unset] [(.int (own_s14 p1))])) _
      refine XS.iloadN X72.here hx rfl (hb hby d2_128) rfl ?_
      show Steps p.tables e below (T72.setTop (mkF m 129 #[.val (.ref o0), .val (.int p1), .unset] [(.int p1), (.int (own_s14 p1))])) _
      refine XS.aloadN X72.here hx rfl (hb hby d2_129) rfl rfl ?_
      show Steps p.tables e below (T72.setTop (mkF m 130 #[.val (.ref o0), .val (.int p1), .unset] [(.ref o0), (.int p1), (.int (own_s14 p1))])) _
      refine XS.bipush X72.here hx rfl (hb hby d2_130) ?_
      exact κ)
  have c76 : ∀ τ, Steps p.tables e below (T72.setTop (mkF m 133 #[.val (.ref o0), .val (.int p1), .unset] [(.int (8192 : Int32)), (.int p1), (.int (own_s14 p1))])) τ → Steps p.tables e below (s₁.setTop (entryFrame m #[(.ref o0), (.int p1)] 3)) τ := fun τ κ => c75 τ (own_iaload X72 hx hZ e72 FV (j := (15 : Int32)) ⟨by decide, by decide⟩ (v := (.int (8192 : Int32))) rfl (g := (mkF m 132 #[.val (.ref o0), .val (.int p1), .unset] [(.int (15 : Int32)), (.ref o0), (.int p1), (.int (own_s14 p1))])) rfl rfl (hb hby d2_132) _ κ)
  obtain ⟨_, _, ⟨T77, L77, k77, n77⟩, -, X77, ⟨Lc77, hQ77, l77, y77, z77⟩, st77⟩ := Jvm.LawKit.callS X72 hx (y := (⟨"com/example/node_sieve/nodesieve/XPathCharsIsNameStartPinLaw", "ge", "(II)I"⟩ : MethodName)) hown (mvT hZ (hw _ (List.mem_of_getElem? (i := 20) rfl))) (mvT hZ (hw _ (List.mem_of_getElem? (i := 21) rfl))) (mvT hZ (hw _ (List.mem_of_getElem? (i := 18) rfl))) (mvT hZ (hw _ (List.mem_of_getElem? (i := 22) rfl))) (by decide) (backOf (W := 1) (rm3 l Z a0 hw [] p1 (8192 : Int32) h0 n0 Z0) hZ (hw _ (List.mem_of_getElem? (i := 22) rfl)) (hw _ (List.mem_of_getElem? (i := 18) rfl)) (by decide) (by decide)) (g := (mkF m 133 #[.val (.ref o0), .val (.int p1), .unset] [(.int (8192 : Int32)), (.int p1), (.int (own_s14 p1))])) rfl (by rw [hml]; rfl) (argsL := [(.int p1), (.int (8192 : Int32))]) (rest := [(.int (own_s14 p1))]) (lenOf pd_1 rfl) rfl (by show 2 * 0 + _ ≤ _; exact Nat.le_of_eq rfl) (hb hby d2_133) (fun _ _ => ⟨rfl, e72, (by decide : 0 + 0 ≤ _), (by decide : 0 + 0 ≤ _)⟩)
  dsimp only [Pt.U, Pt.locs, Pt.cells, Pt.slots] at X77 l77 y77 z77 st77 hQ77
  rw [y77, z77] at X77
  obtain ⟨rfl, N77q, e77⟩ := hQ77
  have N77 : Fr n0 L77 := by rw [l77]; exact Fr.app N72 N77q
  replace X77 : Stand p l e _ s m _ below meth c T77 L77 0 0 := X77
  clear l77 y77 z77
  have c78 : ∀ τ, Steps p.tables e below (T77.setTop (mkF m 136 #[.val (.ref o0), .val (.int p1), .unset] [(.int (f3_0_r p1 (8192 : Int32))), (.int (own_s14 p1))])) τ → Steps p.tables e below (s₁.setTop (entryFrame m #[(.ref o0), (.int p1)] 3)) τ := fun τ κ => c76 τ (st77 τ κ)
  have c79 : ∀ τ, Steps p.tables e below (T77.setTop (mkF m 137 #[.val (.ref o0), .val (.int p1), .unset] [(.int (own_s15 p1))])) τ → Steps p.tables e below (s₁.setTop (entryFrame m #[(.ref o0), (.int p1)] 3)) τ := fun τ κ => c78 τ (by
      show Steps p.tables e below (T77.setTop (mkF m 136 #[.val (.ref o0), .val (.int p1), .unset] [(.int (f3_0_r p1 (8192 : Int32))), (.int (own_s14 p1))])) _
      refine XS.iadd X77.here hx rfl (hb hby d2_136) rfl ?_
      exact κ)
  have c80 : ∀ τ, Steps p.tables e below (T77.setTop (mkF m 141 #[.val (.ref o0), .val (.int p1), .unset] [(.int (16 : Int32)), (.ref o0), (.int p1), (.int (own_s15 p1))])) τ → Steps p.tables e below (s₁.setTop (entryFrame m #[(.ref o0), (.int p1)] 3)) τ := fun τ κ => c79 τ (by
      show Steps p.tables e below (T77.setTop (mkF m 137 #[.val (.ref o0), .val (.int p1), .unset] [(.int (own_s15 p1))])) _
      refine XS.iloadN X77.here hx rfl (hb hby d2_137) rfl ?_
      show Steps p.tables e below (T77.setTop (mkF m 138 #[.val (.ref o0), .val (.int p1), .unset] [(.int p1), (.int (own_s15 p1))])) _
      refine XS.aloadN X77.here hx rfl (hb hby d2_138) rfl rfl ?_
      show Steps p.tables e below (T77.setTop (mkF m 139 #[.val (.ref o0), .val (.int p1), .unset] [(.ref o0), (.int p1), (.int (own_s15 p1))])) _
      refine XS.bipush X77.here hx rfl (hb hby d2_139) ?_
      exact κ)
  have c81 : ∀ τ, Steps p.tables e below (T77.setTop (mkF m 142 #[.val (.ref o0), .val (.int p1), .unset] [(.int (8204 : Int32)), (.int p1), (.int (own_s15 p1))])) τ → Steps p.tables e below (s₁.setTop (entryFrame m #[(.ref o0), (.int p1)] 3)) τ := fun τ κ => c80 τ (own_iaload X77 hx hZ e77 FV (j := (16 : Int32)) ⟨by decide, by decide⟩ (v := (.int (8204 : Int32))) rfl (g := (mkF m 141 #[.val (.ref o0), .val (.int p1), .unset] [(.int (16 : Int32)), (.ref o0), (.int p1), (.int (own_s15 p1))])) rfl rfl (hb hby d2_141) _ κ)
  obtain ⟨_, _, ⟨T82, L82, k82, n82⟩, -, X82, ⟨Lc82, hQ82, l82, y82, z82⟩, st82⟩ := Jvm.LawKit.callS X77 hx (y := (⟨"com/example/node_sieve/nodesieve/XPathCharsIsNameStartPinLaw", "ge", "(II)I"⟩ : MethodName)) hown (mvT hZ (hw _ (List.mem_of_getElem? (i := 20) rfl))) (mvT hZ (hw _ (List.mem_of_getElem? (i := 21) rfl))) (mvT hZ (hw _ (List.mem_of_getElem? (i := 18) rfl))) (mvT hZ (hw _ (List.mem_of_getElem? (i := 22) rfl))) (by decide) (backOf (W := 1) (rm3 l Z a0 hw [] p1 (8204 : Int32) h0 n0 Z0) hZ (hw _ (List.mem_of_getElem? (i := 22) rfl)) (hw _ (List.mem_of_getElem? (i := 18) rfl)) (by decide) (by decide)) (g := (mkF m 142 #[.val (.ref o0), .val (.int p1), .unset] [(.int (8204 : Int32)), (.int p1), (.int (own_s15 p1))])) rfl (by rw [hml]; rfl) (argsL := [(.int p1), (.int (8204 : Int32))]) (rest := [(.int (own_s15 p1))]) (lenOf pd_1 rfl) rfl (by show 2 * 0 + _ ≤ _; exact Nat.le_of_eq rfl) (hb hby d2_142) (fun _ _ => ⟨rfl, e77, (by decide : 0 + 0 ≤ _), (by decide : 0 + 0 ≤ _)⟩)
  dsimp only [Pt.U, Pt.locs, Pt.cells, Pt.slots] at X82 l82 y82 z82 st82 hQ82
  rw [y82, z82] at X82
  obtain ⟨rfl, N82q, e82⟩ := hQ82
  have N82 : Fr n0 L82 := by rw [l82]; exact Fr.app N77 N82q
  replace X82 : Stand p l e _ s m _ below meth c T82 L82 0 0 := X82
  clear l82 y82 z82
  have c83 : ∀ τ, Steps p.tables e below (T82.setTop (mkF m 145 #[.val (.ref o0), .val (.int p1), .unset] [(.int (f3_0_r p1 (8204 : Int32))), (.int (own_s15 p1))])) τ → Steps p.tables e below (s₁.setTop (entryFrame m #[(.ref o0), (.int p1)] 3)) τ := fun τ κ => c81 τ (st82 τ κ)
  have c84 : ∀ τ, Steps p.tables e below (T82.setTop (mkF m 146 #[.val (.ref o0), .val (.int p1), .unset] [(.int (own_s16 p1))])) τ → Steps p.tables e below (s₁.setTop (entryFrame m #[(.ref o0), (.int p1)] 3)) τ := fun τ κ => c83 τ (by
      show Steps p.tables e below (T82.setTop (mkF m 145 #[.val (.ref o0), .val (.int p1), .unset] [(.int (f3_0_r p1 (8204 : Int32))), (.int (own_s15 p1))])) _
      refine XS.iadd X82.here hx rfl (hb hby d2_145) rfl ?_
      exact κ)
  have c85 : ∀ τ, Steps p.tables e below (T82.setTop (mkF m 150 #[.val (.ref o0), .val (.int p1), .unset] [(.int (17 : Int32)), (.ref o0), (.int p1), (.int (own_s16 p1))])) τ → Steps p.tables e below (s₁.setTop (entryFrame m #[(.ref o0), (.int p1)] 3)) τ := fun τ κ => c84 τ (by
      show Steps p.tables e below (T82.setTop (mkF m 146 #[.val (.ref o0), .val (.int p1), .unset] [(.int (own_s16 p1))])) _
      refine XS.iloadN X82.here hx rfl (hb hby d2_146) rfl ?_
      show Steps p.tables e below (T82.setTop (mkF m 147 #[.val (.ref o0), .val (.int p1), .unset] [(.int p1), (.int (own_s16 p1))])) _
      refine XS.aloadN X82.here hx rfl (hb hby d2_147) rfl rfl ?_
      show Steps p.tables e below (T82.setTop (mkF m 148 #[.val (.ref o0), .val (.int p1), .unset] [(.ref o0), (.int p1), (.int (own_s16 p1))])) _
      refine XS.bipush X82.here hx rfl (hb hby d2_148) ?_
      exact κ)
  have c86 : ∀ τ, Steps p.tables e below (T82.setTop (mkF m 151 #[.val (.ref o0), .val (.int p1), .unset] [(.int (8206 : Int32)), (.int p1), (.int (own_s16 p1))])) τ → Steps p.tables e below (s₁.setTop (entryFrame m #[(.ref o0), (.int p1)] 3)) τ := fun τ κ => c85 τ (own_iaload X82 hx hZ e82 FV (j := (17 : Int32)) ⟨by decide, by decide⟩ (v := (.int (8206 : Int32))) rfl (g := (mkF m 150 #[.val (.ref o0), .val (.int p1), .unset] [(.int (17 : Int32)), (.ref o0), (.int p1), (.int (own_s16 p1))])) rfl rfl (hb hby d2_150) _ κ)
  obtain ⟨_, _, ⟨T87, L87, k87, n87⟩, -, X87, ⟨Lc87, hQ87, l87, y87, z87⟩, st87⟩ := Jvm.LawKit.callS X82 hx (y := (⟨"com/example/node_sieve/nodesieve/XPathCharsIsNameStartPinLaw", "ge", "(II)I"⟩ : MethodName)) hown (mvT hZ (hw _ (List.mem_of_getElem? (i := 20) rfl))) (mvT hZ (hw _ (List.mem_of_getElem? (i := 21) rfl))) (mvT hZ (hw _ (List.mem_of_getElem? (i := 18) rfl))) (mvT hZ (hw _ (List.mem_of_getElem? (i := 22) rfl))) (by decide) (backOf (W := 1) (rm3 l Z a0 hw [] p1 (8206 : Int32) h0 n0 Z0) hZ (hw _ (List.mem_of_getElem? (i := 22) rfl)) (hw _ (List.mem_of_getElem? (i := 18) rfl)) (by decide) (by decide)) (g := (mkF m 151 #[.val (.ref o0), .val (.int p1), .unset] [(.int (8206 : Int32)), (.int p1), (.int (own_s16 p1))])) rfl (by rw [hml]; rfl) (argsL := [(.int p1), (.int (8206 : Int32))]) (rest := [(.int (own_s16 p1))]) (lenOf pd_1 rfl) rfl (by show 2 * 0 + _ ≤ _; exact Nat.le_of_eq rfl) (hb hby d2_151) (fun _ _ => ⟨rfl, e82, (by decide : 0 + 0 ≤ _), (by decide : 0 + 0 ≤ _)⟩)
  dsimp only [Pt.U, Pt.locs, Pt.cells, Pt.slots] at X87 l87 y87 z87 st87 hQ87
  rw [y87, z87] at X87
  obtain ⟨rfl, N87q, e87⟩ := hQ87
  have N87 : Fr n0 L87 := by rw [l87]; exact Fr.app N82 N87q
  replace X87 : Stand p l e _ s m _ below meth c T87 L87 0 0 := X87
  clear l87 y87 z87
  have c88 : ∀ τ, Steps p.tables e below (T87.setTop (mkF m 154 #[.val (.ref o0), .val (.int p1), .unset] [(.int (f3_0_r p1 (8206 : Int32))), (.int (own_s16 p1))])) τ → Steps p.tables e below (s₁.setTop (entryFrame m #[(.ref o0), (.int p1)] 3)) τ := fun τ κ => c86 τ (st87 τ κ)
  have c89 : ∀ τ, Steps p.tables e below (T87.setTop (mkF m 155 #[.val (.ref o0), .val (.int p1), .unset] [(.int (own_s17 p1))])) τ → Steps p.tables e below (s₁.setTop (entryFrame m #[(.ref o0), (.int p1)] 3)) τ := fun τ κ => c88 τ (by
      show Steps p.tables e below (T87.setTop (mkF m 154 #[.val (.ref o0), .val (.int p1), .unset] [(.int (f3_0_r p1 (8206 : Int32))), (.int (own_s16 p1))])) _
      refine XS.iadd X87.here hx rfl (hb hby d2_154) rfl ?_
      exact κ)
  have c90 : ∀ τ, Steps p.tables e below (T87.setTop (mkF m 159 #[.val (.ref o0), .val (.int p1), .unset] [(.int (18 : Int32)), (.ref o0), (.int p1), (.int (own_s17 p1))])) τ → Steps p.tables e below (s₁.setTop (entryFrame m #[(.ref o0), (.int p1)] 3)) τ := fun τ κ => c89 τ (by
      show Steps p.tables e below (T87.setTop (mkF m 155 #[.val (.ref o0), .val (.int p1), .unset] [(.int (own_s17 p1))])) _
      refine XS.iloadN X87.here hx rfl (hb hby d2_155) rfl ?_
      show Steps p.tables e below (T87.setTop (mkF m 156 #[.val (.ref o0), .val (.int p1), .unset] [(.int p1), (.int (own_s17 p1))])) _
      refine XS.aloadN X87.here hx rfl (hb hby d2_156) rfl rfl ?_
      show Steps p.tables e below (T87.setTop (mkF m 157 #[.val (.ref o0), .val (.int p1), .unset] [(.ref o0), (.int p1), (.int (own_s17 p1))])) _
      refine XS.bipush X87.here hx rfl (hb hby d2_157) ?_
      exact κ)
  have c91 : ∀ τ, Steps p.tables e below (T87.setTop (mkF m 160 #[.val (.ref o0), .val (.int p1), .unset] [(.int (8304 : Int32)), (.int p1), (.int (own_s17 p1))])) τ → Steps p.tables e below (s₁.setTop (entryFrame m #[(.ref o0), (.int p1)] 3)) τ := fun τ κ => c90 τ (own_iaload X87 hx hZ e87 FV (j := (18 : Int32)) ⟨by decide, by decide⟩ (v := (.int (8304 : Int32))) rfl (g := (mkF m 159 #[.val (.ref o0), .val (.int p1), .unset] [(.int (18 : Int32)), (.ref o0), (.int p1), (.int (own_s17 p1))])) rfl rfl (hb hby d2_159) _ κ)
  obtain ⟨_, _, ⟨T92, L92, k92, n92⟩, -, X92, ⟨Lc92, hQ92, l92, y92, z92⟩, st92⟩ := Jvm.LawKit.callS X87 hx (y := (⟨"com/example/node_sieve/nodesieve/XPathCharsIsNameStartPinLaw", "ge", "(II)I"⟩ : MethodName)) hown (mvT hZ (hw _ (List.mem_of_getElem? (i := 20) rfl))) (mvT hZ (hw _ (List.mem_of_getElem? (i := 21) rfl))) (mvT hZ (hw _ (List.mem_of_getElem? (i := 18) rfl))) (mvT hZ (hw _ (List.mem_of_getElem? (i := 22) rfl))) (by decide) (backOf (W := 1) (rm3 l Z a0 hw [] p1 (8304 : Int32) h0 n0 Z0) hZ (hw _ (List.mem_of_getElem? (i := 22) rfl)) (hw _ (List.mem_of_getElem? (i := 18) rfl)) (by decide) (by decide)) (g := (mkF m 160 #[.val (.ref o0), .val (.int p1), .unset] [(.int (8304 : Int32)), (.int p1), (.int (own_s17 p1))])) rfl (by rw [hml]; rfl) (argsL := [(.int p1), (.int (8304 : Int32))]) (rest := [(.int (own_s17 p1))]) (lenOf pd_1 rfl) rfl (by show 2 * 0 + _ ≤ _; exact Nat.le_of_eq rfl) (hb hby d2_160) (fun _ _ => ⟨rfl, e87, (by decide : 0 + 0 ≤ _), (by decide : 0 + 0 ≤ _)⟩)
  dsimp only [Pt.U, Pt.locs, Pt.cells, Pt.slots] at X92 l92 y92 z92 st92 hQ92
  rw [y92, z92] at X92
  obtain ⟨rfl, N92q, e92⟩ := hQ92
  have N92 : Fr n0 L92 := by rw [l92]; exact Fr.app N87 N92q
  replace X92 : Stand p l e _ s m _ below meth c T92 L92 0 0 := X92
  clear l92 y92 z92
  have c93 : ∀ τ, Steps p.tables e below (T92.setTop (mkF m 163 #[.val (.ref o0), .val (.int p1), .unset] [(.int (f3_0_r p1 (8304 : Int32))), (.int (own_s17 p1))])) τ → Steps p.tables e below (s₁.setTop (entryFrame m #[(.ref o0), (.int p1)] 3)) τ := fun τ κ => c91 τ (st92 τ κ)
  have c94 : ∀ τ, Steps p.tables e below (T92.setTop (mkF m 164 #[.val (.ref o0), .val (.int p1), .unset] [(.int (own_s18 p1))])) τ → Steps p.tables e below (s₁.setTop (entryFrame m #[(.ref o0), (.int p1)] 3)) τ := fun τ κ => c93 τ (by
      show Steps p.tables e below (T92.setTop (mkF m 163 #[.val (.ref o0), .val (.int p1), .unset] [(.int (f3_0_r p1 (8304 : Int32))), (.int (own_s17 p1))])) _
      refine XS.iadd X92.here hx rfl (hb hby d2_163) rfl ?_
      exact κ)
  have c95 : ∀ τ, Steps p.tables e below (T92.setTop (mkF m 168 #[.val (.ref o0), .val (.int p1), .unset] [(.int (19 : Int32)), (.ref o0), (.int p1), (.int (own_s18 p1))])) τ → Steps p.tables e below (s₁.setTop (entryFrame m #[(.ref o0), (.int p1)] 3)) τ := fun τ κ => c94 τ (by
      show Steps p.tables e below (T92.setTop (mkF m 164 #[.val (.ref o0), .val (.int p1), .unset] [(.int (own_s18 p1))])) _
      refine XS.iloadN X92.here hx rfl (hb hby d2_164) rfl ?_
      show Steps p.tables e below (T92.setTop (mkF m 165 #[.val (.ref o0), .val (.int p1), .unset] [(.int p1), (.int (own_s18 p1))])) _
      refine XS.aloadN X92.here hx rfl (hb hby d2_165) rfl rfl ?_
      show Steps p.tables e below (T92.setTop (mkF m 166 #[.val (.ref o0), .val (.int p1), .unset] [(.ref o0), (.int p1), (.int (own_s18 p1))])) _
      refine XS.bipush X92.here hx rfl (hb hby d2_166) ?_
      exact κ)
  have c96 : ∀ τ, Steps p.tables e below (T92.setTop (mkF m 169 #[.val (.ref o0), .val (.int p1), .unset] [(.int (8592 : Int32)), (.int p1), (.int (own_s18 p1))])) τ → Steps p.tables e below (s₁.setTop (entryFrame m #[(.ref o0), (.int p1)] 3)) τ := fun τ κ => c95 τ (own_iaload X92 hx hZ e92 FV (j := (19 : Int32)) ⟨by decide, by decide⟩ (v := (.int (8592 : Int32))) rfl (g := (mkF m 168 #[.val (.ref o0), .val (.int p1), .unset] [(.int (19 : Int32)), (.ref o0), (.int p1), (.int (own_s18 p1))])) rfl rfl (hb hby d2_168) _ κ)
  obtain ⟨_, _, ⟨T97, L97, k97, n97⟩, -, X97, ⟨Lc97, hQ97, l97, y97, z97⟩, st97⟩ := Jvm.LawKit.callS X92 hx (y := (⟨"com/example/node_sieve/nodesieve/XPathCharsIsNameStartPinLaw", "ge", "(II)I"⟩ : MethodName)) hown (mvT hZ (hw _ (List.mem_of_getElem? (i := 20) rfl))) (mvT hZ (hw _ (List.mem_of_getElem? (i := 21) rfl))) (mvT hZ (hw _ (List.mem_of_getElem? (i := 18) rfl))) (mvT hZ (hw _ (List.mem_of_getElem? (i := 22) rfl))) (by decide) (backOf (W := 1) (rm3 l Z a0 hw [] p1 (8592 : Int32) h0 n0 Z0) hZ (hw _ (List.mem_of_getElem? (i := 22) rfl)) (hw _ (List.mem_of_getElem? (i := 18) rfl)) (by decide) (by decide)) (g := (mkF m 169 #[.val (.ref o0), .val (.int p1), .unset] [(.int (8592 : Int32)), (.int p1), (.int (own_s18 p1))])) rfl (by rw [hml]; rfl) (argsL := [(.int p1), (.int (8592 : Int32))]) (rest := [(.int (own_s18 p1))]) (lenOf pd_1 rfl) rfl (by show 2 * 0 + _ ≤ _; exact Nat.le_of_eq rfl) (hb hby d2_169) (fun _ _ => ⟨rfl, e92, (by decide : 0 + 0 ≤ _), (by decide : 0 + 0 ≤ _)⟩)
  dsimp only [Pt.U, Pt.locs, Pt.cells, Pt.slots] at X97 l97 y97 z97 st97 hQ97
  rw [y97, z97] at X97
  obtain ⟨rfl, N97q, e97⟩ := hQ97
  have N97 : Fr n0 L97 := by rw [l97]; exact Fr.app N92 N97q
  replace X97 : Stand p l e _ s m _ below meth c T97 L97 0 0 := X97
  clear l97 y97 z97
  have c98 : ∀ τ, Steps p.tables e below (T97.setTop (mkF m 172 #[.val (.ref o0), .val (.int p1), .unset] [(.int (f3_0_r p1 (8592 : Int32))), (.int (own_s18 p1))])) τ → Steps p.tables e below (s₁.setTop (entryFrame m #[(.ref o0), (.int p1)] 3)) τ := fun τ κ => c96 τ (st97 τ κ)
  have c99 : ∀ τ, Steps p.tables e below (T97.setTop (mkF m 173 #[.val (.ref o0), .val (.int p1), .unset] [(.int (own_s19 p1))])) τ → Steps p.tables e below (s₁.setTop (entryFrame m #[(.ref o0), (.int p1)] 3)) τ := fun τ κ => c98 τ (by
      show Steps p.tables e below (T97.setTop (mkF m 172 #[.val (.ref o0), .val (.int p1), .unset] [(.int (f3_0_r p1 (8592 : Int32))), (.int (own_s18 p1))])) _
      refine XS.iadd X97.here hx rfl (hb hby d2_172) rfl ?_
      exact κ)
  have c100 : ∀ τ, Steps p.tables e below (T97.setTop (mkF m 177 #[.val (.ref o0), .val (.int p1), .unset] [(.int (20 : Int32)), (.ref o0), (.int p1), (.int (own_s19 p1))])) τ → Steps p.tables e below (s₁.setTop (entryFrame m #[(.ref o0), (.int p1)] 3)) τ := fun τ κ => c99 τ (by
      show Steps p.tables e below (T97.setTop (mkF m 173 #[.val (.ref o0), .val (.int p1), .unset] [(.int (own_s19 p1))])) _
      refine XS.iloadN X97.here hx rfl (hb hby d2_173) rfl ?_
      show Steps p.tables e below (T97.setTop (mkF m 174 #[.val (.ref o0), .val (.int p1), .unset] [(.int p1), (.int (own_s19 p1))])) _
      refine XS.aloadN X97.here hx rfl (hb hby d2_174) rfl rfl ?_
      show Steps p.tables e below (T97.setTop (mkF m 175 #[.val (.ref o0), .val (.int p1), .unset] [(.ref o0), (.int p1), (.int (own_s19 p1))])) _
      refine XS.bipush X97.here hx rfl (hb hby d2_175) ?_
      exact κ)
  have c101 : ∀ τ, Steps p.tables e below (T97.setTop (mkF m 178 #[.val (.ref o0), .val (.int p1), .unset] [(.int (11264 : Int32)), (.int p1), (.int (own_s19 p1))])) τ → Steps p.tables e below (s₁.setTop (entryFrame m #[(.ref o0), (.int p1)] 3)) τ := fun τ κ => c100 τ (own_iaload X97 hx hZ e97 FV (j := (20 : Int32)) ⟨by decide, by decide⟩ (v := (.int (11264 : Int32))) rfl (g := (mkF m 177 #[.val (.ref o0), .val (.int p1), .unset] [(.int (20 : Int32)), (.ref o0), (.int p1), (.int (own_s19 p1))])) rfl rfl (hb hby d2_177) _ κ)
  obtain ⟨_, _, ⟨T102, L102, k102, n102⟩, -, X102, ⟨Lc102, hQ102, l102, y102, z102⟩, st102⟩ := Jvm.LawKit.callS X97 hx (y := (⟨"com/example/node_sieve/nodesieve/XPathCharsIsNameStartPinLaw", "ge", "(II)I"⟩ : MethodName)) hown (mvT hZ (hw _ (List.mem_of_getElem? (i := 20) rfl))) (mvT hZ (hw _ (List.mem_of_getElem? (i := 21) rfl))) (mvT hZ (hw _ (List.mem_of_getElem? (i := 18) rfl))) (mvT hZ (hw _ (List.mem_of_getElem? (i := 22) rfl))) (by decide) (backOf (W := 1) (rm3 l Z a0 hw [] p1 (11264 : Int32) h0 n0 Z0) hZ (hw _ (List.mem_of_getElem? (i := 22) rfl)) (hw _ (List.mem_of_getElem? (i := 18) rfl)) (by decide) (by decide)) (g := (mkF m 178 #[.val (.ref o0), .val (.int p1), .unset] [(.int (11264 : Int32)), (.int p1), (.int (own_s19 p1))])) rfl (by rw [hml]; rfl) (argsL := [(.int p1), (.int (11264 : Int32))]) (rest := [(.int (own_s19 p1))]) (lenOf pd_1 rfl) rfl (by show 2 * 0 + _ ≤ _; exact Nat.le_of_eq rfl) (hb hby d2_178) (fun _ _ => ⟨rfl, e97, (by decide : 0 + 0 ≤ _), (by decide : 0 + 0 ≤ _)⟩)
  dsimp only [Pt.U, Pt.locs, Pt.cells, Pt.slots] at X102 l102 y102 z102 st102 hQ102
  rw [y102, z102] at X102
  obtain ⟨rfl, N102q, e102⟩ := hQ102
  have N102 : Fr n0 L102 := by rw [l102]; exact Fr.app N97 N102q
  replace X102 : Stand p l e _ s m _ below meth c T102 L102 0 0 := X102
  clear l102 y102 z102
  have c103 : ∀ τ, Steps p.tables e below (T102.setTop (mkF m 181 #[.val (.ref o0), .val (.int p1), .unset] [(.int (f3_0_r p1 (11264 : Int32))), (.int (own_s19 p1))])) τ → Steps p.tables e below (s₁.setTop (entryFrame m #[(.ref o0), (.int p1)] 3)) τ := fun τ κ => c101 τ (st102 τ κ)
  have c104 : ∀ τ, Steps p.tables e below (T102.setTop (mkF m 182 #[.val (.ref o0), .val (.int p1), .unset] [(.int (own_s20 p1))])) τ → Steps p.tables e below (s₁.setTop (entryFrame m #[(.ref o0), (.int p1)] 3)) τ := fun τ κ => c103 τ (by
      show Steps p.tables e below (T102.setTop (mkF m 181 #[.val (.ref o0), .val (.int p1), .unset] [(.int (f3_0_r p1 (11264 : Int32))), (.int (own_s19 p1))])) _
      refine XS.iadd X102.here hx rfl (hb hby d2_181) rfl ?_
      exact κ)
  have c105 : ∀ τ, Steps p.tables e below (T102.setTop (mkF m 186 #[.val (.ref o0), .val (.int p1), .unset] [(.int (21 : Int32)), (.ref o0), (.int p1), (.int (own_s20 p1))])) τ → Steps p.tables e below (s₁.setTop (entryFrame m #[(.ref o0), (.int p1)] 3)) τ := fun τ κ => c104 τ (by
      show Steps p.tables e below (T102.setTop (mkF m 182 #[.val (.ref o0), .val (.int p1), .unset] [(.int (own_s20 p1))])) _
      refine XS.iloadN X102.here hx rfl (hb hby d2_182) rfl ?_
      show Steps p.tables e below (T102.setTop (mkF m 183 #[.val (.ref o0), .val (.int p1), .unset] [(.int p1), (.int (own_s20 p1))])) _
      refine XS.aloadN X102.here hx rfl (hb hby d2_183) rfl rfl ?_
      show Steps p.tables e below (T102.setTop (mkF m 184 #[.val (.ref o0), .val (.int p1), .unset] [(.ref o0), (.int p1), (.int (own_s20 p1))])) _
      refine XS.bipush X102.here hx rfl (hb hby d2_184) ?_
      exact κ)
  have c106 : ∀ τ, Steps p.tables e below (T102.setTop (mkF m 187 #[.val (.ref o0), .val (.int p1), .unset] [(.int (12272 : Int32)), (.int p1), (.int (own_s20 p1))])) τ → Steps p.tables e below (s₁.setTop (entryFrame m #[(.ref o0), (.int p1)] 3)) τ := fun τ κ => c105 τ (own_iaload X102 hx hZ e102 FV (j := (21 : Int32)) ⟨by decide, by decide⟩ (v := (.int (12272 : Int32))) rfl (g := (mkF m 186 #[.val (.ref o0), .val (.int p1), .unset] [(.int (21 : Int32)), (.ref o0), (.int p1), (.int (own_s20 p1))])) rfl rfl (hb hby d2_186) _ κ)
  obtain ⟨_, _, ⟨T107, L107, k107, n107⟩, -, X107, ⟨Lc107, hQ107, l107, y107, z107⟩, st107⟩ := Jvm.LawKit.callS X102 hx (y := (⟨"com/example/node_sieve/nodesieve/XPathCharsIsNameStartPinLaw", "ge", "(II)I"⟩ : MethodName)) hown (mvT hZ (hw _ (List.mem_of_getElem? (i := 20) rfl))) (mvT hZ (hw _ (List.mem_of_getElem? (i := 21) rfl))) (mvT hZ (hw _ (List.mem_of_getElem? (i := 18) rfl))) (mvT hZ (hw _ (List.mem_of_getElem? (i := 22) rfl))) (by decide) (backOf (W := 1) (rm3 l Z a0 hw [] p1 (12272 : Int32) h0 n0 Z0) hZ (hw _ (List.mem_of_getElem? (i := 22) rfl)) (hw _ (List.mem_of_getElem? (i := 18) rfl)) (by decide) (by decide)) (g := (mkF m 187 #[.val (.ref o0), .val (.int p1), .unset] [(.int (12272 : Int32)), (.int p1), (.int (own_s20 p1))])) rfl (by rw [hml]; rfl) (argsL := [(.int p1), (.int (12272 : Int32))]) (rest := [(.int (own_s20 p1))]) (lenOf pd_1 rfl) rfl (by show 2 * 0 + _ ≤ _; exact Nat.le_of_eq rfl) (hb hby d2_187) (fun _ _ => ⟨rfl, e102, (by decide : 0 + 0 ≤ _), (by decide : 0 + 0 ≤ _)⟩)
  dsimp only [Pt.U, Pt.locs, Pt.cells, Pt.slots] at X107 l107 y107 z107 st107 hQ107
  rw [y107, z107] at X107
  obtain ⟨rfl, N107q, e107⟩ := hQ107
  have N107 : Fr n0 L107 := by rw [l107]; exact Fr.app N102 N107q
  replace X107 : Stand p l e _ s m _ below meth c T107 L107 0 0 := X107
  clear l107 y107 z107
  have c108 : ∀ τ, Steps p.tables e below (T107.setTop (mkF m 190 #[.val (.ref o0), .val (.int p1), .unset] [(.int (f3_0_r p1 (12272 : Int32))), (.int (own_s20 p1))])) τ → Steps p.tables e below (s₁.setTop (entryFrame m #[(.ref o0), (.int p1)] 3)) τ := fun τ κ => c106 τ (st107 τ κ)
  have c109 : ∀ τ, Steps p.tables e below (T107.setTop (mkF m 191 #[.val (.ref o0), .val (.int p1), .unset] [(.int (own_s21 p1))])) τ → Steps p.tables e below (s₁.setTop (entryFrame m #[(.ref o0), (.int p1)] 3)) τ := fun τ κ => c108 τ (by
      show Steps p.tables e below (T107.setTop (mkF m 190 #[.val (.ref o0), .val (.int p1), .unset] [(.int (f3_0_r p1 (12272 : Int32))), (.int (own_s20 p1))])) _
      refine XS.iadd X107.here hx rfl (hb hby d2_190) rfl ?_
      exact κ)
  have c110 : ∀ τ, Steps p.tables e below (T107.setTop (mkF m 195 #[.val (.ref o0), .val (.int p1), .unset] [(.int (22 : Int32)), (.ref o0), (.int p1), (.int (own_s21 p1))])) τ → Steps p.tables e below (s₁.setTop (entryFrame m #[(.ref o0), (.int p1)] 3)) τ := fun τ κ => c109 τ (by
      show Steps p.tables e below (T107.setTop (mkF m 191 #[.val (.ref o0), .val (.int p1), .unset] [(.int (own_s21 p1))])) _
      refine XS.iloadN X107.here hx rfl (hb hby d2_191) rfl ?_
      show Steps p.tables e below (T107.setTop (mkF m 192 #[.val (.ref o0), .val (.int p1), .unset] [(.int p1), (.int (own_s21 p1))])) _
      refine XS.aloadN X107.here hx rfl (hb hby d2_192) rfl rfl ?_
      show Steps p.tables e below (T107.setTop (mkF m 193 #[.val (.ref o0), .val (.int p1), .unset] [(.ref o0), (.int p1), (.int (own_s21 p1))])) _
      refine XS.bipush X107.here hx rfl (hb hby d2_193) ?_
      exact κ)
  have c111 : ∀ τ, Steps p.tables e below (T107.setTop (mkF m 196 #[.val (.ref o0), .val (.int p1), .unset] [(.int (12289 : Int32)), (.int p1), (.int (own_s21 p1))])) τ → Steps p.tables e below (s₁.setTop (entryFrame m #[(.ref o0), (.int p1)] 3)) τ := fun τ κ => c110 τ (own_iaload X107 hx hZ e107 FV (j := (22 : Int32)) ⟨by decide, by decide⟩ (v := (.int (12289 : Int32))) rfl (g := (mkF m 195 #[.val (.ref o0), .val (.int p1), .unset] [(.int (22 : Int32)), (.ref o0), (.int p1), (.int (own_s21 p1))])) rfl rfl (hb hby d2_195) _ κ)
  obtain ⟨_, _, ⟨T112, L112, k112, n112⟩, -, X112, ⟨Lc112, hQ112, l112, y112, z112⟩, st112⟩ := Jvm.LawKit.callS X107 hx (y := (⟨"com/example/node_sieve/nodesieve/XPathCharsIsNameStartPinLaw", "ge", "(II)I"⟩ : MethodName)) hown (mvT hZ (hw _ (List.mem_of_getElem? (i := 20) rfl))) (mvT hZ (hw _ (List.mem_of_getElem? (i := 21) rfl))) (mvT hZ (hw _ (List.mem_of_getElem? (i := 18) rfl))) (mvT hZ (hw _ (List.mem_of_getElem? (i := 22) rfl))) (by decide) (backOf (W := 1) (rm3 l Z a0 hw [] p1 (12289 : Int32) h0 n0 Z0) hZ (hw _ (List.mem_of_getElem? (i := 22) rfl)) (hw _ (List.mem_of_getElem? (i := 18) rfl)) (by decide) (by decide)) (g := (mkF m 196 #[.val (.ref o0), .val (.int p1), .unset] [(.int (12289 : Int32)), (.int p1), (.int (own_s21 p1))])) rfl (by rw [hml]; rfl) (argsL := [(.int p1), (.int (12289 : Int32))]) (rest := [(.int (own_s21 p1))]) (lenOf pd_1 rfl) rfl (by show 2 * 0 + _ ≤ _; exact Nat.le_of_eq rfl) (hb hby d2_196) (fun _ _ => ⟨rfl, e107, (by decide : 0 + 0 ≤ _), (by decide : 0 + 0 ≤ _)⟩)
  dsimp only [Pt.U, Pt.locs, Pt.cells, Pt.slots] at X112 l112 y112 z112 st112 hQ112
  rw [y112, z112] at X112
  obtain ⟨rfl, N112q, e112⟩ := hQ112
  have N112 : Fr n0 L112 := by rw [l112]; exact Fr.app N107 N112q
  replace X112 : Stand p l e _ s m _ below meth c T112 L112 0 0 := X112
  clear l112 y112 z112
  have c113 : ∀ τ, Steps p.tables e below (T112.setTop (mkF m 199 #[.val (.ref o0), .val (.int p1), .unset] [(.int (f3_0_r p1 (12289 : Int32))), (.int (own_s21 p1))])) τ → Steps p.tables e below (s₁.setTop (entryFrame m #[(.ref o0), (.int p1)] 3)) τ := fun τ κ => c111 τ (st112 τ κ)
  have c114 : ∀ τ, Steps p.tables e below (T112.setTop (mkF m 200 #[.val (.ref o0), .val (.int p1), .unset] [(.int (own_s22 p1))])) τ → Steps p.tables e below (s₁.setTop (entryFrame m #[(.ref o0), (.int p1)] 3)) τ := fun τ κ => c113 τ (by
      show Steps p.tables e below (T112.setTop (mkF m 199 #[.val (.ref o0), .val (.int p1), .unset] [(.int (f3_0_r p1 (12289 : Int32))), (.int (own_s21 p1))])) _
      refine XS.iadd X112.here hx rfl (hb hby d2_199) rfl ?_
      exact κ)
  have c115 : ∀ τ, Steps p.tables e below (T112.setTop (mkF m 204 #[.val (.ref o0), .val (.int p1), .unset] [(.int (23 : Int32)), (.ref o0), (.int p1), (.int (own_s22 p1))])) τ → Steps p.tables e below (s₁.setTop (entryFrame m #[(.ref o0), (.int p1)] 3)) τ := fun τ κ => c114 τ (by
      show Steps p.tables e below (T112.setTop (mkF m 200 #[.val (.ref o0), .val (.int p1), .unset] [(.int (own_s22 p1))])) _
      refine XS.iloadN X112.here hx rfl (hb hby d2_200) rfl ?_
      show Steps p.tables e below (T112.setTop (mkF m 201 #[.val (.ref o0), .val (.int p1), .unset] [(.int p1), (.int (own_s22 p1))])) _
      refine XS.aloadN X112.here hx rfl (hb hby d2_201) rfl rfl ?_
      show Steps p.tables e below (T112.setTop (mkF m 202 #[.val (.ref o0), .val (.int p1), .unset] [(.ref o0), (.int p1), (.int (own_s22 p1))])) _
      refine XS.bipush X112.here hx rfl (hb hby d2_202) ?_
      exact κ)
  have c116 : ∀ τ, Steps p.tables e below (T112.setTop (mkF m 205 #[.val (.ref o0), .val (.int p1), .unset] [(.int (55296 : Int32)), (.int p1), (.int (own_s22 p1))])) τ → Steps p.tables e below (s₁.setTop (entryFrame m #[(.ref o0), (.int p1)] 3)) τ := fun τ κ => c115 τ (own_iaload X112 hx hZ e112 FV (j := (23 : Int32)) ⟨by decide, by decide⟩ (v := (.int (55296 : Int32))) rfl (g := (mkF m 204 #[.val (.ref o0), .val (.int p1), .unset] [(.int (23 : Int32)), (.ref o0), (.int p1), (.int (own_s22 p1))])) rfl rfl (hb hby d2_204) _ κ)
  obtain ⟨_, _, ⟨T117, L117, k117, n117⟩, -, X117, ⟨Lc117, hQ117, l117, y117, z117⟩, st117⟩ := Jvm.LawKit.callS X112 hx (y := (⟨"com/example/node_sieve/nodesieve/XPathCharsIsNameStartPinLaw", "ge", "(II)I"⟩ : MethodName)) hown (mvT hZ (hw _ (List.mem_of_getElem? (i := 20) rfl))) (mvT hZ (hw _ (List.mem_of_getElem? (i := 21) rfl))) (mvT hZ (hw _ (List.mem_of_getElem? (i := 18) rfl))) (mvT hZ (hw _ (List.mem_of_getElem? (i := 22) rfl))) (by decide) (backOf (W := 1) (rm3 l Z a0 hw [] p1 (55296 : Int32) h0 n0 Z0) hZ (hw _ (List.mem_of_getElem? (i := 22) rfl)) (hw _ (List.mem_of_getElem? (i := 18) rfl)) (by decide) (by decide)) (g := (mkF m 205 #[.val (.ref o0), .val (.int p1), .unset] [(.int (55296 : Int32)), (.int p1), (.int (own_s22 p1))])) rfl (by rw [hml]; rfl) (argsL := [(.int p1), (.int (55296 : Int32))]) (rest := [(.int (own_s22 p1))]) (lenOf pd_1 rfl) rfl (by show 2 * 0 + _ ≤ _; exact Nat.le_of_eq rfl) (hb hby d2_205) (fun _ _ => ⟨rfl, e112, (by decide : 0 + 0 ≤ _), (by decide : 0 + 0 ≤ _)⟩)
  dsimp only [Pt.U, Pt.locs, Pt.cells, Pt.slots] at X117 l117 y117 z117 st117 hQ117
  rw [y117, z117] at X117
  obtain ⟨rfl, N117q, e117⟩ := hQ117
  have N117 : Fr n0 L117 := by rw [l117]; exact Fr.app N112 N117q
  replace X117 : Stand p l e _ s m _ below meth c T117 L117 0 0 := X117
  clear l117 y117 z117
  have c118 : ∀ τ, Steps p.tables e below (T117.setTop (mkF m 208 #[.val (.ref o0), .val (.int p1), .unset] [(.int (f3_0_r p1 (55296 : Int32))), (.int (own_s22 p1))])) τ → Steps p.tables e below (s₁.setTop (entryFrame m #[(.ref o0), (.int p1)] 3)) τ := fun τ κ => c116 τ (st117 τ κ)
  have c119 : ∀ τ, Steps p.tables e below (T117.setTop (mkF m 209 #[.val (.ref o0), .val (.int p1), .unset] [(.int (own_s23 p1))])) τ → Steps p.tables e below (s₁.setTop (entryFrame m #[(.ref o0), (.int p1)] 3)) τ := fun τ κ => c118 τ (by
      show Steps p.tables e below (T117.setTop (mkF m 208 #[.val (.ref o0), .val (.int p1), .unset] [(.int (f3_0_r p1 (55296 : Int32))), (.int (own_s22 p1))])) _
      refine XS.iadd X117.here hx rfl (hb hby d2_208) rfl ?_
      exact κ)
  have c120 : ∀ τ, Steps p.tables e below (T117.setTop (mkF m 213 #[.val (.ref o0), .val (.int p1), .unset] [(.int (24 : Int32)), (.ref o0), (.int p1), (.int (own_s23 p1))])) τ → Steps p.tables e below (s₁.setTop (entryFrame m #[(.ref o0), (.int p1)] 3)) τ := fun τ κ => c119 τ (by
      show Steps p.tables e below (T117.setTop (mkF m 209 #[.val (.ref o0), .val (.int p1), .unset] [(.int (own_s23 p1))])) _
      refine XS.iloadN X117.here hx rfl (hb hby d2_209) rfl ?_
      show Steps p.tables e below (T117.setTop (mkF m 210 #[.val (.ref o0), .val (.int p1), .unset] [(.int p1), (.int (own_s23 p1))])) _
      refine XS.aloadN X117.here hx rfl (hb hby d2_210) rfl rfl ?_
      show Steps p.tables e below (T117.setTop (mkF m 211 #[.val (.ref o0), .val (.int p1), .unset] [(.ref o0), (.int p1), (.int (own_s23 p1))])) _
      refine XS.bipush X117.here hx rfl (hb hby d2_211) ?_
      exact κ)
  have c121 : ∀ τ, Steps p.tables e below (T117.setTop (mkF m 214 #[.val (.ref o0), .val (.int p1), .unset] [(.int (63744 : Int32)), (.int p1), (.int (own_s23 p1))])) τ → Steps p.tables e below (s₁.setTop (entryFrame m #[(.ref o0), (.int p1)] 3)) τ := fun τ κ => c120 τ (own_iaload X117 hx hZ e117 FV (j := (24 : Int32)) ⟨by decide, by decide⟩ (v := (.int (63744 : Int32))) rfl (g := (mkF m 213 #[.val (.ref o0), .val (.int p1), .unset] [(.int (24 : Int32)), (.ref o0), (.int p1), (.int (own_s23 p1))])) rfl rfl (hb hby d2_213) _ κ)
  obtain ⟨_, _, ⟨T122, L122, k122, n122⟩, -, X122, ⟨Lc122, hQ122, l122, y122, z122⟩, st122⟩ := Jvm.LawKit.callS X117 hx (y := (⟨"com/example/node_sieve/nodesieve/XPathCharsIsNameStartPinLaw", "ge", "(II)I"⟩ : MethodName)) hown (mvT hZ (hw _ (List.mem_of_getElem? (i := 20) rfl))) (mvT hZ (hw _ (List.mem_of_getElem? (i := 21) rfl))) (mvT hZ (hw _ (List.mem_of_getElem? (i := 18) rfl))) (mvT hZ (hw _ (List.mem_of_getElem? (i := 22) rfl))) (by decide) (backOf (W := 1) (rm3 l Z a0 hw [] p1 (63744 : Int32) h0 n0 Z0) hZ (hw _ (List.mem_of_getElem? (i := 22) rfl)) (hw _ (List.mem_of_getElem? (i := 18) rfl)) (by decide) (by decide)) (g := (mkF m 214 #[.val (.ref o0), .val (.int p1), .unset] [(.int (63744 : Int32)), (.int p1), (.int (own_s23 p1))])) rfl (by rw [hml]; rfl) (argsL := [(.int p1), (.int (63744 : Int32))]) (rest := [(.int (own_s23 p1))]) (lenOf pd_1 rfl) rfl (by show 2 * 0 + _ ≤ _; exact Nat.le_of_eq rfl) (hb hby d2_214) (fun _ _ => ⟨rfl, e117, (by decide : 0 + 0 ≤ _), (by decide : 0 + 0 ≤ _)⟩)
  dsimp only [Pt.U, Pt.locs, Pt.cells, Pt.slots] at X122 l122 y122 z122 st122 hQ122
  rw [y122, z122] at X122
  obtain ⟨rfl, N122q, e122⟩ := hQ122
  have N122 : Fr n0 L122 := by rw [l122]; exact Fr.app N117 N122q
  replace X122 : Stand p l e _ s m _ below meth c T122 L122 0 0 := X122
  clear l122 y122 z122
  have c123 : ∀ τ, Steps p.tables e below (T122.setTop (mkF m 217 #[.val (.ref o0), .val (.int p1), .unset] [(.int (f3_0_r p1 (63744 : Int32))), (.int (own_s23 p1))])) τ → Steps p.tables e below (s₁.setTop (entryFrame m #[(.ref o0), (.int p1)] 3)) τ := fun τ κ => c121 τ (st122 τ κ)
  have c124 : ∀ τ, Steps p.tables e below (T122.setTop (mkF m 218 #[.val (.ref o0), .val (.int p1), .unset] [(.int (own_s24 p1))])) τ → Steps p.tables e below (s₁.setTop (entryFrame m #[(.ref o0), (.int p1)] 3)) τ := fun τ κ => c123 τ (by
      show Steps p.tables e below (T122.setTop (mkF m 217 #[.val (.ref o0), .val (.int p1), .unset] [(.int (f3_0_r p1 (63744 : Int32))), (.int (own_s23 p1))])) _
      refine XS.iadd X122.here hx rfl (hb hby d2_217) rfl ?_
      exact κ)
  have c125 : ∀ τ, Steps p.tables e below (T122.setTop (mkF m 222 #[.val (.ref o0), .val (.int p1), .unset] [(.int (25 : Int32)), (.ref o0), (.int p1), (.int (own_s24 p1))])) τ → Steps p.tables e below (s₁.setTop (entryFrame m #[(.ref o0), (.int p1)] 3)) τ := fun τ κ => c124 τ (by
      show Steps p.tables e below (T122.setTop (mkF m 218 #[.val (.ref o0), .val (.int p1), .unset] [(.int (own_s24 p1))])) _
      refine XS.iloadN X122.here hx rfl (hb hby d2_218) rfl ?_
      show Steps p.tables e below (T122.setTop (mkF m 219 #[.val (.ref o0), .val (.int p1), .unset] [(.int p1), (.int (own_s24 p1))])) _
      refine XS.aloadN X122.here hx rfl (hb hby d2_219) rfl rfl ?_
      show Steps p.tables e below (T122.setTop (mkF m 220 #[.val (.ref o0), .val (.int p1), .unset] [(.ref o0), (.int p1), (.int (own_s24 p1))])) _
      refine XS.bipush X122.here hx rfl (hb hby d2_220) ?_
      exact κ)
  have c126 : ∀ τ, Steps p.tables e below (T122.setTop (mkF m 223 #[.val (.ref o0), .val (.int p1), .unset] [(.int (64976 : Int32)), (.int p1), (.int (own_s24 p1))])) τ → Steps p.tables e below (s₁.setTop (entryFrame m #[(.ref o0), (.int p1)] 3)) τ := fun τ κ => c125 τ (own_iaload X122 hx hZ e122 FV (j := (25 : Int32)) ⟨by decide, by decide⟩ (v := (.int (64976 : Int32))) rfl (g := (mkF m 222 #[.val (.ref o0), .val (.int p1), .unset] [(.int (25 : Int32)), (.ref o0), (.int p1), (.int (own_s24 p1))])) rfl rfl (hb hby d2_222) _ κ)
  obtain ⟨_, _, ⟨T127, L127, k127, n127⟩, -, X127, ⟨Lc127, hQ127, l127, y127, z127⟩, st127⟩ := Jvm.LawKit.callS X122 hx (y := (⟨"com/example/node_sieve/nodesieve/XPathCharsIsNameStartPinLaw", "ge", "(II)I"⟩ : MethodName)) hown (mvT hZ (hw _ (List.mem_of_getElem? (i := 20) rfl))) (mvT hZ (hw _ (List.mem_of_getElem? (i := 21) rfl))) (mvT hZ (hw _ (List.mem_of_getElem? (i := 18) rfl))) (mvT hZ (hw _ (List.mem_of_getElem? (i := 22) rfl))) (by decide) (backOf (W := 1) (rm3 l Z a0 hw [] p1 (64976 : Int32) h0 n0 Z0) hZ (hw _ (List.mem_of_getElem? (i := 22) rfl)) (hw _ (List.mem_of_getElem? (i := 18) rfl)) (by decide) (by decide)) (g := (mkF m 223 #[.val (.ref o0), .val (.int p1), .unset] [(.int (64976 : Int32)), (.int p1), (.int (own_s24 p1))])) rfl (by rw [hml]; rfl) (argsL := [(.int p1), (.int (64976 : Int32))]) (rest := [(.int (own_s24 p1))]) (lenOf pd_1 rfl) rfl (by show 2 * 0 + _ ≤ _; exact Nat.le_of_eq rfl) (hb hby d2_223) (fun _ _ => ⟨rfl, e122, (by decide : 0 + 0 ≤ _), (by decide : 0 + 0 ≤ _)⟩)
  dsimp only [Pt.U, Pt.locs, Pt.cells, Pt.slots] at X127 l127 y127 z127 st127 hQ127
  rw [y127, z127] at X127
  obtain ⟨rfl, N127q, e127⟩ := hQ127
  have N127 : Fr n0 L127 := by rw [l127]; exact Fr.app N122 N127q
  replace X127 : Stand p l e _ s m _ below meth c T127 L127 0 0 := X127
  clear l127 y127 z127
  have c128 : ∀ τ, Steps p.tables e below (T127.setTop (mkF m 226 #[.val (.ref o0), .val (.int p1), .unset] [(.int (f3_0_r p1 (64976 : Int32))), (.int (own_s24 p1))])) τ → Steps p.tables e below (s₁.setTop (entryFrame m #[(.ref o0), (.int p1)] 3)) τ := fun τ κ => c126 τ (st127 τ κ)
  have c129 : ∀ τ, Steps p.tables e below (T127.setTop (mkF m 227 #[.val (.ref o0), .val (.int p1), .unset] [(.int (own_s25 p1))])) τ → Steps p.tables e below (s₁.setTop (entryFrame m #[(.ref o0), (.int p1)] 3)) τ := fun τ κ => c128 τ (by
      show Steps p.tables e below (T127.setTop (mkF m 226 #[.val (.ref o0), .val (.int p1), .unset] [(.int (f3_0_r p1 (64976 : Int32))), (.int (own_s24 p1))])) _
      refine XS.iadd X127.here hx rfl (hb hby d2_226) rfl ?_
      exact κ)
  have c130 : ∀ τ, Steps p.tables e below (T127.setTop (mkF m 231 #[.val (.ref o0), .val (.int p1), .unset] [(.int (26 : Int32)), (.ref o0), (.int p1), (.int (own_s25 p1))])) τ → Steps p.tables e below (s₁.setTop (entryFrame m #[(.ref o0), (.int p1)] 3)) τ := fun τ κ => c129 τ (by
      show Steps p.tables e below (T127.setTop (mkF m 227 #[.val (.ref o0), .val (.int p1), .unset] [(.int (own_s25 p1))])) _
      refine XS.iloadN X127.here hx rfl (hb hby d2_227) rfl ?_
      show Steps p.tables e below (T127.setTop (mkF m 228 #[.val (.ref o0), .val (.int p1), .unset] [(.int p1), (.int (own_s25 p1))])) _
      refine XS.aloadN X127.here hx rfl (hb hby d2_228) rfl rfl ?_
      show Steps p.tables e below (T127.setTop (mkF m 229 #[.val (.ref o0), .val (.int p1), .unset] [(.ref o0), (.int p1), (.int (own_s25 p1))])) _
      refine XS.bipush X127.here hx rfl (hb hby d2_229) ?_
      exact κ)
  have c131 : ∀ τ, Steps p.tables e below (T127.setTop (mkF m 232 #[.val (.ref o0), .val (.int p1), .unset] [(.int (65008 : Int32)), (.int p1), (.int (own_s25 p1))])) τ → Steps p.tables e below (s₁.setTop (entryFrame m #[(.ref o0), (.int p1)] 3)) τ := fun τ κ => c130 τ (own_iaload X127 hx hZ e127 FV (j := (26 : Int32)) ⟨by decide, by decide⟩ (v := (.int (65008 : Int32))) rfl (g := (mkF m 231 #[.val (.ref o0), .val (.int p1), .unset] [(.int (26 : Int32)), (.ref o0), (.int p1), (.int (own_s25 p1))])) rfl rfl (hb hby d2_231) _ κ)
  obtain ⟨_, _, ⟨T132, L132, k132, n132⟩, -, X132, ⟨Lc132, hQ132, l132, y132, z132⟩, st132⟩ := Jvm.LawKit.callS X127 hx (y := (⟨"com/example/node_sieve/nodesieve/XPathCharsIsNameStartPinLaw", "ge", "(II)I"⟩ : MethodName)) hown (mvT hZ (hw _ (List.mem_of_getElem? (i := 20) rfl))) (mvT hZ (hw _ (List.mem_of_getElem? (i := 21) rfl))) (mvT hZ (hw _ (List.mem_of_getElem? (i := 18) rfl))) (mvT hZ (hw _ (List.mem_of_getElem? (i := 22) rfl))) (by decide) (backOf (W := 1) (rm3 l Z a0 hw [] p1 (65008 : Int32) h0 n0 Z0) hZ (hw _ (List.mem_of_getElem? (i := 22) rfl)) (hw _ (List.mem_of_getElem? (i := 18) rfl)) (by decide) (by decide)) (g := (mkF m 232 #[.val (.ref o0), .val (.int p1), .unset] [(.int (65008 : Int32)), (.int p1), (.int (own_s25 p1))])) rfl (by rw [hml]; rfl) (argsL := [(.int p1), (.int (65008 : Int32))]) (rest := [(.int (own_s25 p1))]) (lenOf pd_1 rfl) rfl (by show 2 * 0 + _ ≤ _; exact Nat.le_of_eq rfl) (hb hby d2_232) (fun _ _ => ⟨rfl, e127, (by decide : 0 + 0 ≤ _), (by decide : 0 + 0 ≤ _)⟩)
  dsimp only [Pt.U, Pt.locs, Pt.cells, Pt.slots] at X132 l132 y132 z132 st132 hQ132
  rw [y132, z132] at X132
  obtain ⟨rfl, N132q, e132⟩ := hQ132
  have N132 : Fr n0 L132 := by rw [l132]; exact Fr.app N127 N132q
  replace X132 : Stand p l e _ s m _ below meth c T132 L132 0 0 := X132
  clear l132 y132 z132
  have c133 : ∀ τ, Steps p.tables e below (T132.setTop (mkF m 235 #[.val (.ref o0), .val (.int p1), .unset] [(.int (f3_0_r p1 (65008 : Int32))), (.int (own_s25 p1))])) τ → Steps p.tables e below (s₁.setTop (entryFrame m #[(.ref o0), (.int p1)] 3)) τ := fun τ κ => c131 τ (st132 τ κ)
  have c134 : ∀ τ, Steps p.tables e below (T132.setTop (mkF m 236 #[.val (.ref o0), .val (.int p1), .unset] [(.int (own_s26 p1))])) τ → Steps p.tables e below (s₁.setTop (entryFrame m #[(.ref o0), (.int p1)] 3)) τ := fun τ κ => c133 τ (by
      show Steps p.tables e below (T132.setTop (mkF m 235 #[.val (.ref o0), .val (.int p1), .unset] [(.int (f3_0_r p1 (65008 : Int32))), (.int (own_s25 p1))])) _
      refine XS.iadd X132.here hx rfl (hb hby d2_235) rfl ?_
      exact κ)
  have c135 : ∀ τ, Steps p.tables e below (T132.setTop (mkF m 240 #[.val (.ref o0), .val (.int p1), .unset] [(.int (27 : Int32)), (.ref o0), (.int p1), (.int (own_s26 p1))])) τ → Steps p.tables e below (s₁.setTop (entryFrame m #[(.ref o0), (.int p1)] 3)) τ := fun τ κ => c134 τ (by
      show Steps p.tables e below (T132.setTop (mkF m 236 #[.val (.ref o0), .val (.int p1), .unset] [(.int (own_s26 p1))])) _
      refine XS.iloadN X132.here hx rfl (hb hby d2_236) rfl ?_
      show Steps p.tables e below (T132.setTop (mkF m 237 #[.val (.ref o0), .val (.int p1), .unset] [(.int p1), (.int (own_s26 p1))])) _
      refine XS.aloadN X132.here hx rfl (hb hby d2_237) rfl rfl ?_
      show Steps p.tables e below (T132.setTop (mkF m 238 #[.val (.ref o0), .val (.int p1), .unset] [(.ref o0), (.int p1), (.int (own_s26 p1))])) _
      refine XS.bipush X132.here hx rfl (hb hby d2_238) ?_
      exact κ)
  have c136 : ∀ τ, Steps p.tables e below (T132.setTop (mkF m 241 #[.val (.ref o0), .val (.int p1), .unset] [(.int (65534 : Int32)), (.int p1), (.int (own_s26 p1))])) τ → Steps p.tables e below (s₁.setTop (entryFrame m #[(.ref o0), (.int p1)] 3)) τ := fun τ κ => c135 τ (own_iaload X132 hx hZ e132 FV (j := (27 : Int32)) ⟨by decide, by decide⟩ (v := (.int (65534 : Int32))) rfl (g := (mkF m 240 #[.val (.ref o0), .val (.int p1), .unset] [(.int (27 : Int32)), (.ref o0), (.int p1), (.int (own_s26 p1))])) rfl rfl (hb hby d2_240) _ κ)
  obtain ⟨_, _, ⟨T137, L137, k137, n137⟩, -, X137, ⟨Lc137, hQ137, l137, y137, z137⟩, st137⟩ := Jvm.LawKit.callS X132 hx (y := (⟨"com/example/node_sieve/nodesieve/XPathCharsIsNameStartPinLaw", "ge", "(II)I"⟩ : MethodName)) hown (mvT hZ (hw _ (List.mem_of_getElem? (i := 20) rfl))) (mvT hZ (hw _ (List.mem_of_getElem? (i := 21) rfl))) (mvT hZ (hw _ (List.mem_of_getElem? (i := 18) rfl))) (mvT hZ (hw _ (List.mem_of_getElem? (i := 22) rfl))) (by decide) (backOf (W := 1) (rm3 l Z a0 hw [] p1 (65534 : Int32) h0 n0 Z0) hZ (hw _ (List.mem_of_getElem? (i := 22) rfl)) (hw _ (List.mem_of_getElem? (i := 18) rfl)) (by decide) (by decide)) (g := (mkF m 241 #[.val (.ref o0), .val (.int p1), .unset] [(.int (65534 : Int32)), (.int p1), (.int (own_s26 p1))])) rfl (by rw [hml]; rfl) (argsL := [(.int p1), (.int (65534 : Int32))]) (rest := [(.int (own_s26 p1))]) (lenOf pd_1 rfl) rfl (by show 2 * 0 + _ ≤ _; exact Nat.le_of_eq rfl) (hb hby d2_241) (fun _ _ => ⟨rfl, e132, (by decide : 0 + 0 ≤ _), (by decide : 0 + 0 ≤ _)⟩)
  dsimp only [Pt.U, Pt.locs, Pt.cells, Pt.slots] at X137 l137 y137 z137 st137 hQ137
  rw [y137, z137] at X137
  obtain ⟨rfl, N137q, e137⟩ := hQ137
  have N137 : Fr n0 L137 := by rw [l137]; exact Fr.app N132 N137q
  replace X137 : Stand p l e _ s m _ below meth c T137 L137 0 0 := X137
  clear l137 y137 z137
  have c138 : ∀ τ, Steps p.tables e below (T137.setTop (mkF m 244 #[.val (.ref o0), .val (.int p1), .unset] [(.int (f3_0_r p1 (65534 : Int32))), (.int (own_s26 p1))])) τ → Steps p.tables e below (s₁.setTop (entryFrame m #[(.ref o0), (.int p1)] 3)) τ := fun τ κ => c136 τ (st137 τ κ)
  have c139 : ∀ τ, Steps p.tables e below (T137.setTop (mkF m 245 #[.val (.ref o0), .val (.int p1), .unset] [(.int (own_s27 p1))])) τ → Steps p.tables e below (s₁.setTop (entryFrame m #[(.ref o0), (.int p1)] 3)) τ := fun τ κ => c138 τ (by
      show Steps p.tables e below (T137.setTop (mkF m 244 #[.val (.ref o0), .val (.int p1), .unset] [(.int (f3_0_r p1 (65534 : Int32))), (.int (own_s26 p1))])) _
      refine XS.iadd X137.here hx rfl (hb hby d2_244) rfl ?_
      exact κ)
  have c140 : ∀ τ, Steps p.tables e below (T137.setTop (mkF m 249 #[.val (.ref o0), .val (.int p1), .unset] [(.int (28 : Int32)), (.ref o0), (.int p1), (.int (own_s27 p1))])) τ → Steps p.tables e below (s₁.setTop (entryFrame m #[(.ref o0), (.int p1)] 3)) τ := fun τ κ => c139 τ (by
      show Steps p.tables e below (T137.setTop (mkF m 245 #[.val (.ref o0), .val (.int p1), .unset] [(.int (own_s27 p1))])) _
      refine XS.iloadN X137.here hx rfl (hb hby d2_245) rfl ?_
      show Steps p.tables e below (T137.setTop (mkF m 246 #[.val (.ref o0), .val (.int p1), .unset] [(.int p1), (.int (own_s27 p1))])) _
      refine XS.aloadN X137.here hx rfl (hb hby d2_246) rfl rfl ?_
      show Steps p.tables e below (T137.setTop (mkF m 247 #[.val (.ref o0), .val (.int p1), .unset] [(.ref o0), (.int p1), (.int (own_s27 p1))])) _
      refine XS.bipush X137.here hx rfl (hb hby d2_247) ?_
      exact κ)
  have c141 : ∀ τ, Steps p.tables e below (T137.setTop (mkF m 250 #[.val (.ref o0), .val (.int p1), .unset] [(.int (65536 : Int32)), (.int p1), (.int (own_s27 p1))])) τ → Steps p.tables e below (s₁.setTop (entryFrame m #[(.ref o0), (.int p1)] 3)) τ := fun τ κ => c140 τ (own_iaload X137 hx hZ e137 FV (j := (28 : Int32)) ⟨by decide, by decide⟩ (v := (.int (65536 : Int32))) rfl (g := (mkF m 249 #[.val (.ref o0), .val (.int p1), .unset] [(.int (28 : Int32)), (.ref o0), (.int p1), (.int (own_s27 p1))])) rfl rfl (hb hby d2_249) _ κ)
  obtain ⟨_, _, ⟨T142, L142, k142, n142⟩, -, X142, ⟨Lc142, hQ142, l142, y142, z142⟩, st142⟩ := Jvm.LawKit.callS X137 hx (y := (⟨"com/example/node_sieve/nodesieve/XPathCharsIsNameStartPinLaw", "ge", "(II)I"⟩ : MethodName)) hown (mvT hZ (hw _ (List.mem_of_getElem? (i := 20) rfl))) (mvT hZ (hw _ (List.mem_of_getElem? (i := 21) rfl))) (mvT hZ (hw _ (List.mem_of_getElem? (i := 18) rfl))) (mvT hZ (hw _ (List.mem_of_getElem? (i := 22) rfl))) (by decide) (backOf (W := 1) (rm3 l Z a0 hw [] p1 (65536 : Int32) h0 n0 Z0) hZ (hw _ (List.mem_of_getElem? (i := 22) rfl)) (hw _ (List.mem_of_getElem? (i := 18) rfl)) (by decide) (by decide)) (g := (mkF m 250 #[.val (.ref o0), .val (.int p1), .unset] [(.int (65536 : Int32)), (.int p1), (.int (own_s27 p1))])) rfl (by rw [hml]; rfl) (argsL := [(.int p1), (.int (65536 : Int32))]) (rest := [(.int (own_s27 p1))]) (lenOf pd_1 rfl) rfl (by show 2 * 0 + _ ≤ _; exact Nat.le_of_eq rfl) (hb hby d2_250) (fun _ _ => ⟨rfl, e137, (by decide : 0 + 0 ≤ _), (by decide : 0 + 0 ≤ _)⟩)
  dsimp only [Pt.U, Pt.locs, Pt.cells, Pt.slots] at X142 l142 y142 z142 st142 hQ142
  rw [y142, z142] at X142
  obtain ⟨rfl, N142q, e142⟩ := hQ142
  have N142 : Fr n0 L142 := by rw [l142]; exact Fr.app N137 N142q
  replace X142 : Stand p l e _ s m _ below meth c T142 L142 0 0 := X142
  clear l142 y142 z142
  have c143 : ∀ τ, Steps p.tables e below (T142.setTop (mkF m 253 #[.val (.ref o0), .val (.int p1), .unset] [(.int (f3_0_r p1 (65536 : Int32))), (.int (own_s27 p1))])) τ → Steps p.tables e below (s₁.setTop (entryFrame m #[(.ref o0), (.int p1)] 3)) τ := fun τ κ => c141 τ (st142 τ κ)
  have c144 : ∀ τ, Steps p.tables e below (T142.setTop (mkF m 254 #[.val (.ref o0), .val (.int p1), .unset] [(.int (own_s28 p1))])) τ → Steps p.tables e below (s₁.setTop (entryFrame m #[(.ref o0), (.int p1)] 3)) τ := fun τ κ => c143 τ (by
      show Steps p.tables e below (T142.setTop (mkF m 253 #[.val (.ref o0), .val (.int p1), .unset] [(.int (f3_0_r p1 (65536 : Int32))), (.int (own_s27 p1))])) _
      refine XS.iadd X142.here hx rfl (hb hby d2_253) rfl ?_
      exact κ)
  have c145 : ∀ τ, Steps p.tables e below (T142.setTop (mkF m 258 #[.val (.ref o0), .val (.int p1), .unset] [(.int (29 : Int32)), (.ref o0), (.int p1), (.int (own_s28 p1))])) τ → Steps p.tables e below (s₁.setTop (entryFrame m #[(.ref o0), (.int p1)] 3)) τ := fun τ κ => c144 τ (by
      show Steps p.tables e below (T142.setTop (mkF m 254 #[.val (.ref o0), .val (.int p1), .unset] [(.int (own_s28 p1))])) _
      refine XS.iloadN X142.here hx rfl (hb hby d2_254) rfl ?_
      show Steps p.tables e below (T142.setTop (mkF m 255 #[.val (.ref o0), .val (.int p1), .unset] [(.int p1), (.int (own_s28 p1))])) _
      refine XS.aloadN X142.here hx rfl (hb hby d2_255) rfl rfl ?_
      show Steps p.tables e below (T142.setTop (mkF m 256 #[.val (.ref o0), .val (.int p1), .unset] [(.ref o0), (.int p1), (.int (own_s28 p1))])) _
      refine XS.bipush X142.here hx rfl (hb hby d2_256) ?_
      exact κ)
  have c146 : ∀ τ, Steps p.tables e below (T142.setTop (mkF m 259 #[.val (.ref o0), .val (.int p1), .unset] [(.int (983040 : Int32)), (.int p1), (.int (own_s28 p1))])) τ → Steps p.tables e below (s₁.setTop (entryFrame m #[(.ref o0), (.int p1)] 3)) τ := fun τ κ => c145 τ (own_iaload X142 hx hZ e142 FV (j := (29 : Int32)) ⟨by decide, by decide⟩ (v := (.int (983040 : Int32))) rfl (g := (mkF m 258 #[.val (.ref o0), .val (.int p1), .unset] [(.int (29 : Int32)), (.ref o0), (.int p1), (.int (own_s28 p1))])) rfl rfl (hb hby d2_258) _ κ)
  obtain ⟨_, _, ⟨T147, L147, k147, n147⟩, -, X147, ⟨Lc147, hQ147, l147, y147, z147⟩, st147⟩ := Jvm.LawKit.callS X142 hx (y := (⟨"com/example/node_sieve/nodesieve/XPathCharsIsNameStartPinLaw", "ge", "(II)I"⟩ : MethodName)) hown (mvT hZ (hw _ (List.mem_of_getElem? (i := 20) rfl))) (mvT hZ (hw _ (List.mem_of_getElem? (i := 21) rfl))) (mvT hZ (hw _ (List.mem_of_getElem? (i := 18) rfl))) (mvT hZ (hw _ (List.mem_of_getElem? (i := 22) rfl))) (by decide) (backOf (W := 1) (rm3 l Z a0 hw [] p1 (983040 : Int32) h0 n0 Z0) hZ (hw _ (List.mem_of_getElem? (i := 22) rfl)) (hw _ (List.mem_of_getElem? (i := 18) rfl)) (by decide) (by decide)) (g := (mkF m 259 #[.val (.ref o0), .val (.int p1), .unset] [(.int (983040 : Int32)), (.int p1), (.int (own_s28 p1))])) rfl (by rw [hml]; rfl) (argsL := [(.int p1), (.int (983040 : Int32))]) (rest := [(.int (own_s28 p1))]) (lenOf pd_1 rfl) rfl (by show 2 * 0 + _ ≤ _; exact Nat.le_of_eq rfl) (hb hby d2_259) (fun _ _ => ⟨rfl, e142, (by decide : 0 + 0 ≤ _), (by decide : 0 + 0 ≤ _)⟩)
  dsimp only [Pt.U, Pt.locs, Pt.cells, Pt.slots] at X147 l147 y147 z147 st147 hQ147
  rw [y147, z147] at X147
  obtain ⟨rfl, N147q, e147⟩ := hQ147
  have N147 : Fr n0 L147 := by rw [l147]; exact Fr.app N142 N147q
  replace X147 : Stand p l e _ s m _ below meth c T147 L147 0 0 := X147
  clear l147 y147 z147
  have c148 : ∀ τ, Steps p.tables e below (T147.setTop (mkF m 262 #[.val (.ref o0), .val (.int p1), .unset] [(.int (f3_0_r p1 (983040 : Int32))), (.int (own_s28 p1))])) τ → Steps p.tables e below (s₁.setTop (entryFrame m #[(.ref o0), (.int p1)] 3)) τ := fun τ κ => c146 τ (st147 τ κ)
  have c149 : ∀ τ, Steps p.tables e below (T147.setTop (mkF m 263 #[.val (.ref o0), .val (.int p1), .unset] [(.int (own_s29 p1))])) τ → Steps p.tables e below (s₁.setTop (entryFrame m #[(.ref o0), (.int p1)] 3)) τ := fun τ κ => c148 τ (by
      show Steps p.tables e below (T147.setTop (mkF m 262 #[.val (.ref o0), .val (.int p1), .unset] [(.int (f3_0_r p1 (983040 : Int32))), (.int (own_s28 p1))])) _
      refine XS.iadd X147.here hx rfl (hb hby d2_262) rfl ?_
      exact κ)
  have c150 : ∀ τ, Steps p.tables e below (T147.setTop (mkF m 264 #[.val (.ref o0), .val (.int p1), .val (.int (own_s29 p1))] [])) τ → Steps p.tables e below (s₁.setTop (entryFrame m #[(.ref o0), (.int p1)] 3)) τ := fun τ κ => c149 τ (by
      show Steps p.tables e below (T147.setTop (mkF m 263 #[.val (.ref o0), .val (.int p1), .unset] [(.int (own_s29 p1))])) _
      refine XS.istoreN X147.here hx rfl (hb hby d2_263) rfl (l' := #[.val (.ref o0), .val (.int p1), .val (.int (own_s29 p1))]) rfl ?_
      exact κ)
  have c151 : ∀ τ, Steps p.tables e below (T147.setTop (mkF m 275 #[.val (.ref o0), .val (.int p1), .val (.int (own_s29 p1))] [(.int (g9_264_t0 (own_s29 p1)))])) τ → Steps p.tables e below (s₁.setTop (entryFrame m #[(.ref o0), (.int p1)] 3)) τ := fun τ κ => c150 τ (g9_264 o0 p1 (own_s29 p1) X147 hx hZ hw hby hown κ)
  obtain ⟨fs, hr, hrun, hended, hW, hsame⟩ := X147.leave (v := some (.int (own_ref p1))) (fun h => by rw [Bd.returns] at h; cases h)
  refine ⟨_, _, c151 _ (retN X147 hx (t := .boolean) Bd.returns (by simp) (hb hby d2_275) (by rw [show nar .boolean (g9_264_t0 (own_s29 p1)) = own_ref p1 from own_nz p1]; exact hr)), hrun, hended, _, _, rfl, ?_, ⟨_, rfl⟩, hW, hsame.mono (by decide) (by decide)⟩
  show Q_rm2 Z o0 p1 ka h0 n0 _ T147.heap _
  rw [e147]
  exact ⟨rfl, N147, rfl⟩
theorem own_lt {c t : Int32} (x : Int) (e : t.toInt = x) (h : c.toInt < x) : c < t := by rw [Int32.lt_iff_toInt_lt, e]; exact h
theorem own_nlt {c t : Int32} (x : Int) (e : t.toInt = x) (h : x ≤ c.toInt) : ¬ c < t := by rw [Int32.lt_iff_toInt_lt, e]; omega
theorem own_gt {c t : Int32} (x : Int) (e : t.toInt = x) (h : x < c.toInt) : t < c := by rw [Int32.lt_iff_toInt_lt, e]; exact h
theorem own_ngt {c t : Int32} (x : Int) (e : t.toInt = x) (h : c.toInt ≤ x) : ¬ t < c := by rw [Int32.lt_iff_toInt_lt, e]; omega
theorem own_ne {c t : Int32} (x : Int) (e : t.toInt = x) (h : c.toInt ≠ x) : ¬ c = t := fun q => h (by rw [q, e])
theorem own_f0 (c : Int32) (h2 : c.toInt < 65) : f1_0_r c = 0 := by
  unfold f1_0_r; rw [if_pos (own_lt 97 rfl (by omega))]
  unfold f1_12_r; rw [if_pos (own_lt 65 rfl (by omega))]
  unfold f1_24_r; rw [if_neg (own_ne 95 rfl (by omega)), if_pos (own_lt 192 rfl (by omega))]
  unfold f1_44_r; rw [if_pos (own_lt 216 rfl (by omega))]
  unfold f1_58_r; rw [if_pos (own_lt 248 rfl (by omega))]
  unfold f1_72_r; rw [if_pos (own_lt 880 rfl (by omega))]
  unfold f1_86_r; rw [if_pos (own_lt 895 rfl (by omega))]
  unfold f1_100_r; rw [if_neg (own_ne 8204 rfl (by omega)), if_neg (own_ne 8205 rfl (by omega)), if_pos (own_lt 8304 rfl (by omega))]
  unfold f1_128_r; rw [if_pos (own_lt 11264 rfl (by omega))]
  unfold f1_142_r; rw [if_pos (own_lt 12289 rfl (by omega))]
  unfold f1_155_r; rw [if_pos (own_lt 63744 rfl (by omega))]
  unfold f1_167_r; rw [if_pos (own_lt 65008 rfl (by omega))]
  unfold f1_179_r; rw [if_pos (own_lt 65536 rfl (by omega))]
  rfl
theorem own_r0 (c : Int32) (h2 : c.toInt < 65) : own_ref c = 0 := by
  have g0 : (f3_0_r c (65 : Int32)) = 0 := if_pos (own_lt 65 rfl (by omega))
  have g1 : (f3_0_r c (91 : Int32)) = 0 := if_pos (own_lt 91 rfl (by omega))
  have g2 : (f3_0_r c (95 : Int32)) = 0 := if_pos (own_lt 95 rfl (by omega))
  have g3 : (f3_0_r c (96 : Int32)) = 0 := if_pos (own_lt 96 rfl (by omega))
  have g4 : (f3_0_r c (97 : Int32)) = 0 := if_pos (own_lt 97 rfl (by omega))
  have g5 : (f3_0_r c (123 : Int32)) = 0 := if_pos (own_lt 123 rfl (by omega))
  have g6 : (f3_0_r c (192 : Int32)) = 0 := if_pos (own_lt 192 rfl (by omega))
  have g7 : (f3_0_r c (215 : Int32)) = 0 := if_pos (own_lt 215 rfl (by omega))
  have g8 : (f3_0_r c (216 : Int32)) = 0 := if_pos (own_lt 216 rfl (by omega))
  have g9 : (f3_0_r c (247 : Int32)) = 0 := if_pos (own_lt 247 rfl (by omega))
  have g10 : (f3_0_r c (248 : Int32)) = 0 := if_pos (own_lt 248 rfl (by omega))
  have g11 : (f3_0_r c (768 : Int32)) = 0 := if_pos (own_lt 768 rfl (by omega))
  have g12 : (f3_0_r c (880 : Int32)) = 0 := if_pos (own_lt 880 rfl (by omega))
  have g13 : (f3_0_r c (894 : Int32)) = 0 := if_pos (own_lt 894 rfl (by omega))
  have g14 : (f3_0_r c (895 : Int32)) = 0 := if_pos (own_lt 895 rfl (by omega))
  have g15 : (f3_0_r c (8192 : Int32)) = 0 := if_pos (own_lt 8192 rfl (by omega))
  have g16 : (f3_0_r c (8204 : Int32)) = 0 := if_pos (own_lt 8204 rfl (by omega))
  have g17 : (f3_0_r c (8206 : Int32)) = 0 := if_pos (own_lt 8206 rfl (by omega))
  have g18 : (f3_0_r c (8304 : Int32)) = 0 := if_pos (own_lt 8304 rfl (by omega))
  have g19 : (f3_0_r c (8592 : Int32)) = 0 := if_pos (own_lt 8592 rfl (by omega))
  have g20 : (f3_0_r c (11264 : Int32)) = 0 := if_pos (own_lt 11264 rfl (by omega))
  have g21 : (f3_0_r c (12272 : Int32)) = 0 := if_pos (own_lt 12272 rfl (by omega))
  have g22 : (f3_0_r c (12289 : Int32)) = 0 := if_pos (own_lt 12289 rfl (by omega))
  have g23 : (f3_0_r c (55296 : Int32)) = 0 := if_pos (own_lt 55296 rfl (by omega))
  have g24 : (f3_0_r c (63744 : Int32)) = 0 := if_pos (own_lt 63744 rfl (by omega))
  have g25 : (f3_0_r c (64976 : Int32)) = 0 := if_pos (own_lt 64976 rfl (by omega))
  have g26 : (f3_0_r c (65008 : Int32)) = 0 := if_pos (own_lt 65008 rfl (by omega))
  have g27 : (f3_0_r c (65534 : Int32)) = 0 := if_pos (own_lt 65534 rfl (by omega))
  have g28 : (f3_0_r c (65536 : Int32)) = 0 := if_pos (own_lt 65536 rfl (by omega))
  have g29 : (f3_0_r c (983040 : Int32)) = 0 := if_pos (own_lt 983040 rfl (by omega))
  have e0 : own_s0 c = _ := g0
  have e1 : own_s1 c = 0 := by unfold own_s1; rw [e0, g1]; rfl
  have e2 : own_s2 c = 0 := by unfold own_s2; rw [e1, g2]; rfl
  have e3 : own_s3 c = 0 := by unfold own_s3; rw [e2, g3]; rfl
  have e4 : own_s4 c = 0 := by unfold own_s4; rw [e3, g4]; rfl
  have e5 : own_s5 c = 0 := by unfold own_s5; rw [e4, g5]; rfl
  have e6 : own_s6 c = 0 := by unfold own_s6; rw [e5, g6]; rfl
  have e7 : own_s7 c = 0 := by unfold own_s7; rw [e6, g7]; rfl
  have e8 : own_s8 c = 0 := by unfold own_s8; rw [e7, g8]; rfl
  have e9 : own_s9 c = 0 := by unfold own_s9; rw [e8, g9]; rfl
  have e10 : own_s10 c = 0 := by unfold own_s10; rw [e9, g10]; rfl
  have e11 : own_s11 c = 0 := by unfold own_s11; rw [e10, g11]; rfl
  have e12 : own_s12 c = 0 := by unfold own_s12; rw [e11, g12]; rfl
  have e13 : own_s13 c = 0 := by unfold own_s13; rw [e12, g13]; rfl
  have e14 : own_s14 c = 0 := by unfold own_s14; rw [e13, g14]; rfl
  have e15 : own_s15 c = 0 := by unfold own_s15; rw [e14, g15]; rfl
  have e16 : own_s16 c = 0 := by unfold own_s16; rw [e15, g16]; rfl
  have e17 : own_s17 c = 0 := by unfold own_s17; rw [e16, g17]; rfl
  have e18 : own_s18 c = 0 := by unfold own_s18; rw [e17, g18]; rfl
  have e19 : own_s19 c = 0 := by unfold own_s19; rw [e18, g19]; rfl
  have e20 : own_s20 c = 0 := by unfold own_s20; rw [e19, g20]; rfl
  have e21 : own_s21 c = 0 := by unfold own_s21; rw [e20, g21]; rfl
  have e22 : own_s22 c = 0 := by unfold own_s22; rw [e21, g22]; rfl
  have e23 : own_s23 c = 0 := by unfold own_s23; rw [e22, g23]; rfl
  have e24 : own_s24 c = 0 := by unfold own_s24; rw [e23, g24]; rfl
  have e25 : own_s25 c = 0 := by unfold own_s25; rw [e24, g25]; rfl
  have e26 : own_s26 c = 0 := by unfold own_s26; rw [e25, g26]; rfl
  have e27 : own_s27 c = 0 := by unfold own_s27; rw [e26, g27]; rfl
  have e28 : own_s28 c = 0 := by unfold own_s28; rw [e27, g28]; rfl
  have e29 : own_s29 c = 0 := by unfold own_s29; rw [e28, g29]; rfl
  unfold own_ref; rw [e29]; decide
theorem own_f1 (c : Int32) (h1 : 65 ≤ c.toInt) (h2 : c.toInt < 91) : f1_0_r c = 1 := by
  unfold f1_0_r; rw [if_pos (own_lt 97 rfl (by omega))]
  unfold f1_12_r; rw [if_neg (own_nlt 65 rfl (by omega)), if_neg (own_ngt 90 rfl (by omega))]
  rfl
theorem own_r1 (c : Int32) (h1 : 65 ≤ c.toInt) (h2 : c.toInt < 91) : own_ref c = 1 := by
  have g0 : (f3_0_r c (65 : Int32)) = 1 := if_neg (own_nlt 65 rfl (by omega))
  have g1 : (f3_0_r c (91 : Int32)) = 0 := if_pos (own_lt 91 rfl (by omega))
  have g2 : (f3_0_r c (95 : Int32)) = 0 := if_pos (own_lt 95 rfl (by omega))
  have g3 : (f3_0_r c (96 : Int32)) = 0 := if_pos (own_lt 96 rfl (by omega))
  have g4 : (f3_0_r c (97 : Int32)) = 0 := if_pos (own_lt 97 rfl (by omega))
  have g5 : (f3_0_r c (123 : Int32)) = 0 := if_pos (own_lt 123 rfl (by omega))
  have g6 : (f3_0_r c (192 : Int32)) = 0 := if_pos (own_lt 192 rfl (by omega))
  have g7 : (f3_0_r c (215 : Int32)) = 0 := if_pos (own_lt 215 rfl (by omega))
  have g8 : (f3_0_r c (216 : Int32)) = 0 := if_pos (own_lt 216 rfl (by omega))
  have g9 : (f3_0_r c (247 : Int32)) = 0 := if_pos (own_lt 247 rfl (by omega))
  have g10 : (f3_0_r c (248 : Int32)) = 0 := if_pos (own_lt 248 rfl (by omega))
  have g11 : (f3_0_r c (768 : Int32)) = 0 := if_pos (own_lt 768 rfl (by omega))
  have g12 : (f3_0_r c (880 : Int32)) = 0 := if_pos (own_lt 880 rfl (by omega))
  have g13 : (f3_0_r c (894 : Int32)) = 0 := if_pos (own_lt 894 rfl (by omega))
  have g14 : (f3_0_r c (895 : Int32)) = 0 := if_pos (own_lt 895 rfl (by omega))
  have g15 : (f3_0_r c (8192 : Int32)) = 0 := if_pos (own_lt 8192 rfl (by omega))
  have g16 : (f3_0_r c (8204 : Int32)) = 0 := if_pos (own_lt 8204 rfl (by omega))
  have g17 : (f3_0_r c (8206 : Int32)) = 0 := if_pos (own_lt 8206 rfl (by omega))
  have g18 : (f3_0_r c (8304 : Int32)) = 0 := if_pos (own_lt 8304 rfl (by omega))
  have g19 : (f3_0_r c (8592 : Int32)) = 0 := if_pos (own_lt 8592 rfl (by omega))
  have g20 : (f3_0_r c (11264 : Int32)) = 0 := if_pos (own_lt 11264 rfl (by omega))
  have g21 : (f3_0_r c (12272 : Int32)) = 0 := if_pos (own_lt 12272 rfl (by omega))
  have g22 : (f3_0_r c (12289 : Int32)) = 0 := if_pos (own_lt 12289 rfl (by omega))
  have g23 : (f3_0_r c (55296 : Int32)) = 0 := if_pos (own_lt 55296 rfl (by omega))
  have g24 : (f3_0_r c (63744 : Int32)) = 0 := if_pos (own_lt 63744 rfl (by omega))
  have g25 : (f3_0_r c (64976 : Int32)) = 0 := if_pos (own_lt 64976 rfl (by omega))
  have g26 : (f3_0_r c (65008 : Int32)) = 0 := if_pos (own_lt 65008 rfl (by omega))
  have g27 : (f3_0_r c (65534 : Int32)) = 0 := if_pos (own_lt 65534 rfl (by omega))
  have g28 : (f3_0_r c (65536 : Int32)) = 0 := if_pos (own_lt 65536 rfl (by omega))
  have g29 : (f3_0_r c (983040 : Int32)) = 0 := if_pos (own_lt 983040 rfl (by omega))
  have e0 : own_s0 c = _ := g0
  have e1 : own_s1 c = 1 := by unfold own_s1; rw [e0, g1]; rfl
  have e2 : own_s2 c = 1 := by unfold own_s2; rw [e1, g2]; rfl
  have e3 : own_s3 c = 1 := by unfold own_s3; rw [e2, g3]; rfl
  have e4 : own_s4 c = 1 := by unfold own_s4; rw [e3, g4]; rfl
  have e5 : own_s5 c = 1 := by unfold own_s5; rw [e4, g5]; rfl
  have e6 : own_s6 c = 1 := by unfold own_s6; rw [e5, g6]; rfl
  have e7 : own_s7 c = 1 := by unfold own_s7; rw [e6, g7]; rfl
  have e8 : own_s8 c = 1 := by unfold own_s8; rw [e7, g8]; rfl
  have e9 : own_s9 c = 1 := by unfold own_s9; rw [e8, g9]; rfl
  have e10 : own_s10 c = 1 := by unfold own_s10; rw [e9, g10]; rfl
  have e11 : own_s11 c = 1 := by unfold own_s11; rw [e10, g11]; rfl
  have e12 : own_s12 c = 1 := by unfold own_s12; rw [e11, g12]; rfl
  have e13 : own_s13 c = 1 := by unfold own_s13; rw [e12, g13]; rfl
  have e14 : own_s14 c = 1 := by unfold own_s14; rw [e13, g14]; rfl
  have e15 : own_s15 c = 1 := by unfold own_s15; rw [e14, g15]; rfl
  have e16 : own_s16 c = 1 := by unfold own_s16; rw [e15, g16]; rfl
  have e17 : own_s17 c = 1 := by unfold own_s17; rw [e16, g17]; rfl
  have e18 : own_s18 c = 1 := by unfold own_s18; rw [e17, g18]; rfl
  have e19 : own_s19 c = 1 := by unfold own_s19; rw [e18, g19]; rfl
  have e20 : own_s20 c = 1 := by unfold own_s20; rw [e19, g20]; rfl
  have e21 : own_s21 c = 1 := by unfold own_s21; rw [e20, g21]; rfl
  have e22 : own_s22 c = 1 := by unfold own_s22; rw [e21, g22]; rfl
  have e23 : own_s23 c = 1 := by unfold own_s23; rw [e22, g23]; rfl
  have e24 : own_s24 c = 1 := by unfold own_s24; rw [e23, g24]; rfl
  have e25 : own_s25 c = 1 := by unfold own_s25; rw [e24, g25]; rfl
  have e26 : own_s26 c = 1 := by unfold own_s26; rw [e25, g26]; rfl
  have e27 : own_s27 c = 1 := by unfold own_s27; rw [e26, g27]; rfl
  have e28 : own_s28 c = 1 := by unfold own_s28; rw [e27, g28]; rfl
  have e29 : own_s29 c = 1 := by unfold own_s29; rw [e28, g29]; rfl
  unfold own_ref; rw [e29]; decide
theorem own_f2 (c : Int32) (h1 : 91 ≤ c.toInt) (h2 : c.toInt < 95) : f1_0_r c = 0 := by
  unfold f1_0_r; rw [if_pos (own_lt 97 rfl (by omega))]
  unfold f1_12_r; rw [if_neg (own_nlt 65 rfl (by omega)), if_pos (own_gt 90 rfl (by omega))]
  unfold f1_24_r; rw [if_neg (own_ne 95 rfl (by omega)), if_pos (own_lt 192 rfl (by omega))]
  unfold f1_44_r; rw [if_pos (own_lt 216 rfl (by omega))]
  unfold f1_58_r; rw [if_pos (own_lt 248 rfl (by omega))]
  unfold f1_72_r; rw [if_pos (own_lt 880 rfl (by omega))]
  unfold f1_86_r; rw [if_pos (own_lt 895 rfl (by omega))]
  unfold f1_100_r; rw [if_neg (own_ne 8204 rfl (by omega)), if_neg (own_ne 8205 rfl (by omega)), if_pos (own_lt 8304 rfl (by omega))]
  unfold f1_128_r; rw [if_pos (own_lt 11264 rfl (by omega))]
  unfold f1_142_r; rw [if_pos (own_lt 12289 rfl (by omega))]
  unfold f1_155_r; rw [if_pos (own_lt 63744 rfl (by omega))]
  unfold f1_167_r; rw [if_pos (own_lt 65008 rfl (by omega))]
  unfold f1_179_r; rw [if_pos (own_lt 65536 rfl (by omega))]
  rfl
theorem own_r2 (c : Int32) (h1 : 91 ≤ c.toInt) (h2 : c.toInt < 95) : own_ref c = 0 := by
  have g0 : (f3_0_r c (65 : Int32)) = 1 := if_neg (own_nlt 65 rfl (by omega))
  have g1 : (f3_0_r c (91 : Int32)) = 1 := if_neg (own_nlt 91 rfl (by omega))
  have g2 : (f3_0_r c (95 : Int32)) = 0 := if_pos (own_lt 95 rfl (by omega))
  have g3 : (f3_0_r c (96 : Int32)) = 0 := if_pos (own_lt 96 rfl (by omega))
  have g4 : (f3_0_r c (97 : Int32)) = 0 := if_pos (own_lt 97 rfl (by omega))
  have g5 : (f3_0_r c (123 : Int32)) = 0 := if_pos (own_lt 123 rfl (by omega))
  have g6 : (f3_0_r c (192 : Int32)) = 0 := if_pos (own_lt 192 rfl (by omega))
  have g7 : (f3_0_r c (215 : Int32)) = 0 := if_pos (own_lt 215 rfl (by omega))
  have g8 : (f3_0_r c (216 : Int32)) = 0 := if_pos (own_lt 216 rfl (by omega))
  have g9 : (f3_0_r c (247 : Int32)) = 0 := if_pos (own_lt 247 rfl (by omega))
  have g10 : (f3_0_r c (248 : Int32)) = 0 := if_pos (own_lt 248 rfl (by omega))
  have g11 : (f3_0_r c (768 : Int32)) = 0 := if_pos (own_lt 768 rfl (by omega))
  have g12 : (f3_0_r c (880 : Int32)) = 0 := if_pos (own_lt 880 rfl (by omega))
  have g13 : (f3_0_r c (894 : Int32)) = 0 := if_pos (own_lt 894 rfl (by omega))
  have g14 : (f3_0_r c (895 : Int32)) = 0 := if_pos (own_lt 895 rfl (by omega))
  have g15 : (f3_0_r c (8192 : Int32)) = 0 := if_pos (own_lt 8192 rfl (by omega))
  have g16 : (f3_0_r c (8204 : Int32)) = 0 := if_pos (own_lt 8204 rfl (by omega))
  have g17 : (f3_0_r c (8206 : Int32)) = 0 := if_pos (own_lt 8206 rfl (by omega))
  have g18 : (f3_0_r c (8304 : Int32)) = 0 := if_pos (own_lt 8304 rfl (by omega))
  have g19 : (f3_0_r c (8592 : Int32)) = 0 := if_pos (own_lt 8592 rfl (by omega))
  have g20 : (f3_0_r c (11264 : Int32)) = 0 := if_pos (own_lt 11264 rfl (by omega))
  have g21 : (f3_0_r c (12272 : Int32)) = 0 := if_pos (own_lt 12272 rfl (by omega))
  have g22 : (f3_0_r c (12289 : Int32)) = 0 := if_pos (own_lt 12289 rfl (by omega))
  have g23 : (f3_0_r c (55296 : Int32)) = 0 := if_pos (own_lt 55296 rfl (by omega))
  have g24 : (f3_0_r c (63744 : Int32)) = 0 := if_pos (own_lt 63744 rfl (by omega))
  have g25 : (f3_0_r c (64976 : Int32)) = 0 := if_pos (own_lt 64976 rfl (by omega))
  have g26 : (f3_0_r c (65008 : Int32)) = 0 := if_pos (own_lt 65008 rfl (by omega))
  have g27 : (f3_0_r c (65534 : Int32)) = 0 := if_pos (own_lt 65534 rfl (by omega))
  have g28 : (f3_0_r c (65536 : Int32)) = 0 := if_pos (own_lt 65536 rfl (by omega))
  have g29 : (f3_0_r c (983040 : Int32)) = 0 := if_pos (own_lt 983040 rfl (by omega))
  have e0 : own_s0 c = _ := g0
  have e1 : own_s1 c = 2 := by unfold own_s1; rw [e0, g1]; rfl
  have e2 : own_s2 c = 2 := by unfold own_s2; rw [e1, g2]; rfl
  have e3 : own_s3 c = 2 := by unfold own_s3; rw [e2, g3]; rfl
  have e4 : own_s4 c = 2 := by unfold own_s4; rw [e3, g4]; rfl
  have e5 : own_s5 c = 2 := by unfold own_s5; rw [e4, g5]; rfl
  have e6 : own_s6 c = 2 := by unfold own_s6; rw [e5, g6]; rfl
  have e7 : own_s7 c = 2 := by unfold own_s7; rw [e6, g7]; rfl
  have e8 : own_s8 c = 2 := by unfold own_s8; rw [e7, g8]; rfl
  have e9 : own_s9 c = 2 := by unfold own_s9; rw [e8, g9]; rfl
  have e10 : own_s10 c = 2 := by unfold own_s10; rw [e9, g10]; rfl
  have e11 : own_s11 c = 2 := by unfold own_s11; rw [e10, g11]; rfl
  have e12 : own_s12 c = 2 := by unfold own_s12; rw [e11, g12]; rfl
  have e13 : own_s13 c = 2 := by unfold own_s13; rw [e12, g13]; rfl
  have e14 : own_s14 c = 2 := by unfold own_s14; rw [e13, g14]; rfl
  have e15 : own_s15 c = 2 := by unfold own_s15; rw [e14, g15]; rfl
  have e16 : own_s16 c = 2 := by unfold own_s16; rw [e15, g16]; rfl
  have e17 : own_s17 c = 2 := by unfold own_s17; rw [e16, g17]; rfl
  have e18 : own_s18 c = 2 := by unfold own_s18; rw [e17, g18]; rfl
  have e19 : own_s19 c = 2 := by unfold own_s19; rw [e18, g19]; rfl
  have e20 : own_s20 c = 2 := by unfold own_s20; rw [e19, g20]; rfl
  have e21 : own_s21 c = 2 := by unfold own_s21; rw [e20, g21]; rfl
  have e22 : own_s22 c = 2 := by unfold own_s22; rw [e21, g22]; rfl
  have e23 : own_s23 c = 2 := by unfold own_s23; rw [e22, g23]; rfl
  have e24 : own_s24 c = 2 := by unfold own_s24; rw [e23, g24]; rfl
  have e25 : own_s25 c = 2 := by unfold own_s25; rw [e24, g25]; rfl
  have e26 : own_s26 c = 2 := by unfold own_s26; rw [e25, g26]; rfl
  have e27 : own_s27 c = 2 := by unfold own_s27; rw [e26, g27]; rfl
  have e28 : own_s28 c = 2 := by unfold own_s28; rw [e27, g28]; rfl
  have e29 : own_s29 c = 2 := by unfold own_s29; rw [e28, g29]; rfl
  unfold own_ref; rw [e29]; decide
theorem own_f3 (c : Int32) (h1 : 95 ≤ c.toInt) (h2 : c.toInt < 96) : f1_0_r c = 1 := by
  unfold f1_0_r; rw [if_pos (own_lt 97 rfl (by omega))]
  unfold f1_12_r; rw [if_neg (own_nlt 65 rfl (by omega)), if_pos (own_gt 90 rfl (by omega))]
  unfold f1_24_r; rw [if_pos (Int32.toInt_inj.mp (show c.toInt = (95 : Int32).toInt from by show c.toInt = 95; omega))]
  rfl
theorem own_r3 (c : Int32) (h1 : 95 ≤ c.toInt) (h2 : c.toInt < 96) : own_ref c = 1 := by
  have g0 : (f3_0_r c (65 : Int32)) = 1 := if_neg (own_nlt 65 rfl (by omega))
  have g1 : (f3_0_r c (91 : Int32)) = 1 := if_neg (own_nlt 91 rfl (by omega))
  have g2 : (f3_0_r c (95 : Int32)) = 1 := if_neg (own_nlt 95 rfl (by omega))
  have g3 : (f3_0_r c (96 : Int32)) = 0 := if_pos (own_lt 96 rfl (by omega))
  have g4 : (f3_0_r c (97 : Int32)) = 0 := if_pos (own_lt 97 rfl (by omega))
  have g5 : (f3_0_r c (123 : Int32)) = 0 := if_pos (own_lt 123 rfl (by omega))
  have g6 : (f3_0_r c (192 : Int32)) = 0 := if_pos (own_lt 192 rfl (by omega))
  have g7 : (f3_0_r c (215 : Int32)) = 0 := if_pos (own_lt 215 rfl (by omega))
  have g8 : (f3_0_r c (216 : Int32)) = 0 := if_pos (own_lt 216 rfl (by omega))
  have g9 : (f3_0_r c (247 : Int32)) = 0 := if_pos (own_lt 247 rfl (by omega))
  have g10 : (f3_0_r c (248 : Int32)) = 0 := if_pos (own_lt 248 rfl (by omega))
  have g11 : (f3_0_r c (768 : Int32)) = 0 := if_pos (own_lt 768 rfl (by omega))
  have g12 : (f3_0_r c (880 : Int32)) = 0 := if_pos (own_lt 880 rfl (by omega))
  have g13 : (f3_0_r c (894 : Int32)) = 0 := if_pos (own_lt 894 rfl (by omega))
  have g14 : (f3_0_r c (895 : Int32)) = 0 := if_pos (own_lt 895 rfl (by omega))
  have g15 : (f3_0_r c (8192 : Int32)) = 0 := if_pos (own_lt 8192 rfl (by omega))
  have g16 : (f3_0_r c (8204 : Int32)) = 0 := if_pos (own_lt 8204 rfl (by omega))
  have g17 : (f3_0_r c (8206 : Int32)) = 0 := if_pos (own_lt 8206 rfl (by omega))
  have g18 : (f3_0_r c (8304 : Int32)) = 0 := if_pos (own_lt 8304 rfl (by omega))
  have g19 : (f3_0_r c (8592 : Int32)) = 0 := if_pos (own_lt 8592 rfl (by omega))
  have g20 : (f3_0_r c (11264 : Int32)) = 0 := if_pos (own_lt 11264 rfl (by omega))
  have g21 : (f3_0_r c (12272 : Int32)) = 0 := if_pos (own_lt 12272 rfl (by omega))
  have g22 : (f3_0_r c (12289 : Int32)) = 0 := if_pos (own_lt 12289 rfl (by omega))
  have g23 : (f3_0_r c (55296 : Int32)) = 0 := if_pos (own_lt 55296 rfl (by omega))
  have g24 : (f3_0_r c (63744 : Int32)) = 0 := if_pos (own_lt 63744 rfl (by omega))
  have g25 : (f3_0_r c (64976 : Int32)) = 0 := if_pos (own_lt 64976 rfl (by omega))
  have g26 : (f3_0_r c (65008 : Int32)) = 0 := if_pos (own_lt 65008 rfl (by omega))
  have g27 : (f3_0_r c (65534 : Int32)) = 0 := if_pos (own_lt 65534 rfl (by omega))
  have g28 : (f3_0_r c (65536 : Int32)) = 0 := if_pos (own_lt 65536 rfl (by omega))
  have g29 : (f3_0_r c (983040 : Int32)) = 0 := if_pos (own_lt 983040 rfl (by omega))
  have e0 : own_s0 c = _ := g0
  have e1 : own_s1 c = 2 := by unfold own_s1; rw [e0, g1]; rfl
  have e2 : own_s2 c = 3 := by unfold own_s2; rw [e1, g2]; rfl
  have e3 : own_s3 c = 3 := by unfold own_s3; rw [e2, g3]; rfl
  have e4 : own_s4 c = 3 := by unfold own_s4; rw [e3, g4]; rfl
  have e5 : own_s5 c = 3 := by unfold own_s5; rw [e4, g5]; rfl
  have e6 : own_s6 c = 3 := by unfold own_s6; rw [e5, g6]; rfl
  have e7 : own_s7 c = 3 := by unfold own_s7; rw [e6, g7]; rfl
  have e8 : own_s8 c = 3 := by unfold own_s8; rw [e7, g8]; rfl
  have e9 : own_s9 c = 3 := by unfold own_s9; rw [e8, g9]; rfl
  have e10 : own_s10 c = 3 := by unfold own_s10; rw [e9, g10]; rfl
  have e11 : own_s11 c = 3 := by unfold own_s11; rw [e10, g11]; rfl
  have e12 : own_s12 c = 3 := by unfold own_s12; rw [e11, g12]; rfl
  have e13 : own_s13 c = 3 := by unfold own_s13; rw [e12, g13]; rfl
  have e14 : own_s14 c = 3 := by unfold own_s14; rw [e13, g14]; rfl
  have e15 : own_s15 c = 3 := by unfold own_s15; rw [e14, g15]; rfl
  have e16 : own_s16 c = 3 := by unfold own_s16; rw [e15, g16]; rfl
  have e17 : own_s17 c = 3 := by unfold own_s17; rw [e16, g17]; rfl
  have e18 : own_s18 c = 3 := by unfold own_s18; rw [e17, g18]; rfl
  have e19 : own_s19 c = 3 := by unfold own_s19; rw [e18, g19]; rfl
  have e20 : own_s20 c = 3 := by unfold own_s20; rw [e19, g20]; rfl
  have e21 : own_s21 c = 3 := by unfold own_s21; rw [e20, g21]; rfl
  have e22 : own_s22 c = 3 := by unfold own_s22; rw [e21, g22]; rfl
  have e23 : own_s23 c = 3 := by unfold own_s23; rw [e22, g23]; rfl
  have e24 : own_s24 c = 3 := by unfold own_s24; rw [e23, g24]; rfl
  have e25 : own_s25 c = 3 := by unfold own_s25; rw [e24, g25]; rfl
  have e26 : own_s26 c = 3 := by unfold own_s26; rw [e25, g26]; rfl
  have e27 : own_s27 c = 3 := by unfold own_s27; rw [e26, g27]; rfl
  have e28 : own_s28 c = 3 := by unfold own_s28; rw [e27, g28]; rfl
  have e29 : own_s29 c = 3 := by unfold own_s29; rw [e28, g29]; rfl
  unfold own_ref; rw [e29]; decide
theorem own_f4 (c : Int32) (h1 : 96 ≤ c.toInt) (h2 : c.toInt < 97) : f1_0_r c = 0 := by
  unfold f1_0_r; rw [if_pos (own_lt 97 rfl (by omega))]
  unfold f1_12_r; rw [if_neg (own_nlt 65 rfl (by omega)), if_pos (own_gt 90 rfl (by omega))]
  unfold f1_24_r; rw [if_neg (own_ne 95 rfl (by omega)), if_pos (own_lt 192 rfl (by omega))]
  unfold f1_44_r; rw [if_pos (own_lt 216 rfl (by omega))]
  unfold f1_58_r; rw [if_pos (own_lt 248 rfl (by omega))]
  unfold f1_72_r; rw [if_pos (own_lt 880 rfl (by omega))]
  unfold f1_86_r; rw [if_pos (own_lt 895 rfl (by omega))]
  unfold f1_100_r; rw [if_neg (own_ne 8204 rfl (by omega)), if_neg (own_ne 8205 rfl (by omega)), if_pos (own_lt 8304 rfl (by omega))]
  unfold f1_128_r; rw [if_pos (own_lt 11264 rfl (by omega))]
  unfold f1_142_r; rw [if_pos (own_lt 12289 rfl (by omega))]
  unfold f1_155_r; rw [if_pos (own_lt 63744 rfl (by omega))]
  unfold f1_167_r; rw [if_pos (own_lt 65008 rfl (by omega))]
  unfold f1_179_r; rw [if_pos (own_lt 65536 rfl (by omega))]
  rfl
theorem own_r4 (c : Int32) (h1 : 96 ≤ c.toInt) (h2 : c.toInt < 97) : own_ref c = 0 := by
  have g0 : (f3_0_r c (65 : Int32)) = 1 := if_neg (own_nlt 65 rfl (by omega))
  have g1 : (f3_0_r c (91 : Int32)) = 1 := if_neg (own_nlt 91 rfl (by omega))
  have g2 : (f3_0_r c (95 : Int32)) = 1 := if_neg (own_nlt 95 rfl (by omega))
  have g3 : (f3_0_r c (96 : Int32)) = 1 := if_neg (own_nlt 96 rfl (by omega))
  have g4 : (f3_0_r c (97 : Int32)) = 0 := if_pos (own_lt 97 rfl (by omega))
  have g5 : (f3_0_r c (123 : Int32)) = 0 := if_pos (own_lt 123 rfl (by omega))
  have g6 : (f3_0_r c (192 : Int32)) = 0 := if_pos (own_lt 192 rfl (by omega))
  have g7 : (f3_0_r c (215 : Int32)) = 0 := if_pos (own_lt 215 rfl (by omega))
  have g8 : (f3_0_r c (216 : Int32)) = 0 := if_pos (own_lt 216 rfl (by omega))
  have g9 : (f3_0_r c (247 : Int32)) = 0 := if_pos (own_lt 247 rfl (by omega))
  have g10 : (f3_0_r c (248 : Int32)) = 0 := if_pos (own_lt 248 rfl (by omega))
  have g11 : (f3_0_r c (768 : Int32)) = 0 := if_pos (own_lt 768 rfl (by omega))
  have g12 : (f3_0_r c (880 : Int32)) = 0 := if_pos (own_lt 880 rfl (by omega))
  have g13 : (f3_0_r c (894 : Int32)) = 0 := if_pos (own_lt 894 rfl (by omega))
  have g14 : (f3_0_r c (895 : Int32)) = 0 := if_pos (own_lt 895 rfl (by omega))
  have g15 : (f3_0_r c (8192 : Int32)) = 0 := if_pos (own_lt 8192 rfl (by omega))
  have g16 : (f3_0_r c (8204 : Int32)) = 0 := if_pos (own_lt 8204 rfl (by omega))
  have g17 : (f3_0_r c (8206 : Int32)) = 0 := if_pos (own_lt 8206 rfl (by omega))
  have g18 : (f3_0_r c (8304 : Int32)) = 0 := if_pos (own_lt 8304 rfl (by omega))
  have g19 : (f3_0_r c (8592 : Int32)) = 0 := if_pos (own_lt 8592 rfl (by omega))
  have g20 : (f3_0_r c (11264 : Int32)) = 0 := if_pos (own_lt 11264 rfl (by omega))
  have g21 : (f3_0_r c (12272 : Int32)) = 0 := if_pos (own_lt 12272 rfl (by omega))
  have g22 : (f3_0_r c (12289 : Int32)) = 0 := if_pos (own_lt 12289 rfl (by omega))
  have g23 : (f3_0_r c (55296 : Int32)) = 0 := if_pos (own_lt 55296 rfl (by omega))
  have g24 : (f3_0_r c (63744 : Int32)) = 0 := if_pos (own_lt 63744 rfl (by omega))
  have g25 : (f3_0_r c (64976 : Int32)) = 0 := if_pos (own_lt 64976 rfl (by omega))
  have g26 : (f3_0_r c (65008 : Int32)) = 0 := if_pos (own_lt 65008 rfl (by omega))
  have g27 : (f3_0_r c (65534 : Int32)) = 0 := if_pos (own_lt 65534 rfl (by omega))
  have g28 : (f3_0_r c (65536 : Int32)) = 0 := if_pos (own_lt 65536 rfl (by omega))
  have g29 : (f3_0_r c (983040 : Int32)) = 0 := if_pos (own_lt 983040 rfl (by omega))
  have e0 : own_s0 c = _ := g0
  have e1 : own_s1 c = 2 := by unfold own_s1; rw [e0, g1]; rfl
  have e2 : own_s2 c = 3 := by unfold own_s2; rw [e1, g2]; rfl
  have e3 : own_s3 c = 4 := by unfold own_s3; rw [e2, g3]; rfl
  have e4 : own_s4 c = 4 := by unfold own_s4; rw [e3, g4]; rfl
  have e5 : own_s5 c = 4 := by unfold own_s5; rw [e4, g5]; rfl
  have e6 : own_s6 c = 4 := by unfold own_s6; rw [e5, g6]; rfl
  have e7 : own_s7 c = 4 := by unfold own_s7; rw [e6, g7]; rfl
  have e8 : own_s8 c = 4 := by unfold own_s8; rw [e7, g8]; rfl
  have e9 : own_s9 c = 4 := by unfold own_s9; rw [e8, g9]; rfl
  have e10 : own_s10 c = 4 := by unfold own_s10; rw [e9, g10]; rfl
  have e11 : own_s11 c = 4 := by unfold own_s11; rw [e10, g11]; rfl
  have e12 : own_s12 c = 4 := by unfold own_s12; rw [e11, g12]; rfl
  have e13 : own_s13 c = 4 := by unfold own_s13; rw [e12, g13]; rfl
  have e14 : own_s14 c = 4 := by unfold own_s14; rw [e13, g14]; rfl
  have e15 : own_s15 c = 4 := by unfold own_s15; rw [e14, g15]; rfl
  have e16 : own_s16 c = 4 := by unfold own_s16; rw [e15, g16]; rfl
  have e17 : own_s17 c = 4 := by unfold own_s17; rw [e16, g17]; rfl
  have e18 : own_s18 c = 4 := by unfold own_s18; rw [e17, g18]; rfl
  have e19 : own_s19 c = 4 := by unfold own_s19; rw [e18, g19]; rfl
  have e20 : own_s20 c = 4 := by unfold own_s20; rw [e19, g20]; rfl
  have e21 : own_s21 c = 4 := by unfold own_s21; rw [e20, g21]; rfl
  have e22 : own_s22 c = 4 := by unfold own_s22; rw [e21, g22]; rfl
  have e23 : own_s23 c = 4 := by unfold own_s23; rw [e22, g23]; rfl
  have e24 : own_s24 c = 4 := by unfold own_s24; rw [e23, g24]; rfl
  have e25 : own_s25 c = 4 := by unfold own_s25; rw [e24, g25]; rfl
  have e26 : own_s26 c = 4 := by unfold own_s26; rw [e25, g26]; rfl
  have e27 : own_s27 c = 4 := by unfold own_s27; rw [e26, g27]; rfl
  have e28 : own_s28 c = 4 := by unfold own_s28; rw [e27, g28]; rfl
  have e29 : own_s29 c = 4 := by unfold own_s29; rw [e28, g29]; rfl
  unfold own_ref; rw [e29]; decide
theorem own_f5 (c : Int32) (h1 : 97 ≤ c.toInt) (h2 : c.toInt < 123) : f1_0_r c = 1 := by
  unfold f1_0_r; rw [if_neg (own_nlt 97 rfl (by omega)), if_neg (own_ngt 122 rfl (by omega))]
  rfl
theorem own_r5 (c : Int32) (h1 : 97 ≤ c.toInt) (h2 : c.toInt < 123) : own_ref c = 1 := by
  have g0 : (f3_0_r c (65 : Int32)) = 1 := if_neg (own_nlt 65 rfl (by omega))
  have g1 : (f3_0_r c (91 : Int32)) = 1 := if_neg (own_nlt 91 rfl (by omega))
  have g2 : (f3_0_r c (95 : Int32)) = 1 := if_neg (own_nlt 95 rfl (by omega))
  have g3 : (f3_0_r c (96 : Int32)) = 1 := if_neg (own_nlt 96 rfl (by omega))
  have g4 : (f3_0_r c (97 : Int32)) = 1 := if_neg (own_nlt 97 rfl (by omega))
  have g5 : (f3_0_r c (123 : Int32)) = 0 := if_pos (own_lt 123 rfl (by omega))
  have g6 : (f3_0_r c (192 : Int32)) = 0 := if_pos (own_lt 192 rfl (by omega))
  have g7 : (f3_0_r c (215 : Int32)) = 0 := if_pos (own_lt 215 rfl (by omega))
  have g8 : (f3_0_r c (216 : Int32)) = 0 := if_pos (own_lt 216 rfl (by omega))
  have g9 : (f3_0_r c (247 : Int32)) = 0 := if_pos (own_lt 247 rfl (by omega))
  have g10 : (f3_0_r c (248 : Int32)) = 0 := if_pos (own_lt 248 rfl (by omega))
  have g11 : (f3_0_r c (768 : Int32)) = 0 := if_pos (own_lt 768 rfl (by omega))
  have g12 : (f3_0_r c (880 : Int32)) = 0 := if_pos (own_lt 880 rfl (by omega))
  have g13 : (f3_0_r c (894 : Int32)) = 0 := if_pos (own_lt 894 rfl (by omega))
  have g14 : (f3_0_r c (895 : Int32)) = 0 := if_pos (own_lt 895 rfl (by omega))
  have g15 : (f3_0_r c (8192 : Int32)) = 0 := if_pos (own_lt 8192 rfl (by omega))
  have g16 : (f3_0_r c (8204 : Int32)) = 0 := if_pos (own_lt 8204 rfl (by omega))
  have g17 : (f3_0_r c (8206 : Int32)) = 0 := if_pos (own_lt 8206 rfl (by omega))
  have g18 : (f3_0_r c (8304 : Int32)) = 0 := if_pos (own_lt 8304 rfl (by omega))
  have g19 : (f3_0_r c (8592 : Int32)) = 0 := if_pos (own_lt 8592 rfl (by omega))
  have g20 : (f3_0_r c (11264 : Int32)) = 0 := if_pos (own_lt 11264 rfl (by omega))
  have g21 : (f3_0_r c (12272 : Int32)) = 0 := if_pos (own_lt 12272 rfl (by omega))
  have g22 : (f3_0_r c (12289 : Int32)) = 0 := if_pos (own_lt 12289 rfl (by omega))
  have g23 : (f3_0_r c (55296 : Int32)) = 0 := if_pos (own_lt 55296 rfl (by omega))
  have g24 : (f3_0_r c (63744 : Int32)) = 0 := if_pos (own_lt 63744 rfl (by omega))
  have g25 : (f3_0_r c (64976 : Int32)) = 0 := if_pos (own_lt 64976 rfl (by omega))
  have g26 : (f3_0_r c (65008 : Int32)) = 0 := if_pos (own_lt 65008 rfl (by omega))
  have g27 : (f3_0_r c (65534 : Int32)) = 0 := if_pos (own_lt 65534 rfl (by omega))
  have g28 : (f3_0_r c (65536 : Int32)) = 0 := if_pos (own_lt 65536 rfl (by omega))
  have g29 : (f3_0_r c (983040 : Int32)) = 0 := if_pos (own_lt 983040 rfl (by omega))
  have e0 : own_s0 c = _ := g0
  have e1 : own_s1 c = 2 := by unfold own_s1; rw [e0, g1]; rfl
  have e2 : own_s2 c = 3 := by unfold own_s2; rw [e1, g2]; rfl
  have e3 : own_s3 c = 4 := by unfold own_s3; rw [e2, g3]; rfl
  have e4 : own_s4 c = 5 := by unfold own_s4; rw [e3, g4]; rfl
  have e5 : own_s5 c = 5 := by unfold own_s5; rw [e4, g5]; rfl
  have e6 : own_s6 c = 5 := by unfold own_s6; rw [e5, g6]; rfl
  have e7 : own_s7 c = 5 := by unfold own_s7; rw [e6, g7]; rfl
  have e8 : own_s8 c = 5 := by unfold own_s8; rw [e7, g8]; rfl
  have e9 : own_s9 c = 5 := by unfold own_s9; rw [e8, g9]; rfl
  have e10 : own_s10 c = 5 := by unfold own_s10; rw [e9, g10]; rfl
  have e11 : own_s11 c = 5 := by unfold own_s11; rw [e10, g11]; rfl
  have e12 : own_s12 c = 5 := by unfold own_s12; rw [e11, g12]; rfl
  have e13 : own_s13 c = 5 := by unfold own_s13; rw [e12, g13]; rfl
  have e14 : own_s14 c = 5 := by unfold own_s14; rw [e13, g14]; rfl
  have e15 : own_s15 c = 5 := by unfold own_s15; rw [e14, g15]; rfl
  have e16 : own_s16 c = 5 := by unfold own_s16; rw [e15, g16]; rfl
  have e17 : own_s17 c = 5 := by unfold own_s17; rw [e16, g17]; rfl
  have e18 : own_s18 c = 5 := by unfold own_s18; rw [e17, g18]; rfl
  have e19 : own_s19 c = 5 := by unfold own_s19; rw [e18, g19]; rfl
  have e20 : own_s20 c = 5 := by unfold own_s20; rw [e19, g20]; rfl
  have e21 : own_s21 c = 5 := by unfold own_s21; rw [e20, g21]; rfl
  have e22 : own_s22 c = 5 := by unfold own_s22; rw [e21, g22]; rfl
  have e23 : own_s23 c = 5 := by unfold own_s23; rw [e22, g23]; rfl
  have e24 : own_s24 c = 5 := by unfold own_s24; rw [e23, g24]; rfl
  have e25 : own_s25 c = 5 := by unfold own_s25; rw [e24, g25]; rfl
  have e26 : own_s26 c = 5 := by unfold own_s26; rw [e25, g26]; rfl
  have e27 : own_s27 c = 5 := by unfold own_s27; rw [e26, g27]; rfl
  have e28 : own_s28 c = 5 := by unfold own_s28; rw [e27, g28]; rfl
  have e29 : own_s29 c = 5 := by unfold own_s29; rw [e28, g29]; rfl
  unfold own_ref; rw [e29]; decide
theorem own_f6 (c : Int32) (h1 : 123 ≤ c.toInt) (h2 : c.toInt < 192) : f1_0_r c = 0 := by
  unfold f1_0_r; rw [if_neg (own_nlt 97 rfl (by omega)), if_pos (own_gt 122 rfl (by omega))]
  unfold f1_12_r; rw [if_neg (own_nlt 65 rfl (by omega)), if_pos (own_gt 90 rfl (by omega))]
  unfold f1_24_r; rw [if_neg (own_ne 95 rfl (by omega)), if_pos (own_lt 192 rfl (by omega))]
  unfold f1_44_r; rw [if_pos (own_lt 216 rfl (by omega))]
  unfold f1_58_r; rw [if_pos (own_lt 248 rfl (by omega))]
  unfold f1_72_r; rw [if_pos (own_lt 880 rfl (by omega))]
  unfold f1_86_r; rw [if_pos (own_lt 895 rfl (by omega))]
  unfold f1_100_r; rw [if_neg (own_ne 8204 rfl (by omega)), if_neg (own_ne 8205 rfl (by omega)), if_pos (own_lt 8304 rfl (by omega))]
  unfold f1_128_r; rw [if_pos (own_lt 11264 rfl (by omega))]
  unfold f1_142_r; rw [if_pos (own_lt 12289 rfl (by omega))]
  unfold f1_155_r; rw [if_pos (own_lt 63744 rfl (by omega))]
  unfold f1_167_r; rw [if_pos (own_lt 65008 rfl (by omega))]
  unfold f1_179_r; rw [if_pos (own_lt 65536 rfl (by omega))]
  rfl
theorem own_r6 (c : Int32) (h1 : 123 ≤ c.toInt) (h2 : c.toInt < 192) : own_ref c = 0 := by
  have g0 : (f3_0_r c (65 : Int32)) = 1 := if_neg (own_nlt 65 rfl (by omega))
  have g1 : (f3_0_r c (91 : Int32)) = 1 := if_neg (own_nlt 91 rfl (by omega))
  have g2 : (f3_0_r c (95 : Int32)) = 1 := if_neg (own_nlt 95 rfl (by omega))
  have g3 : (f3_0_r c (96 : Int32)) = 1 := if_neg (own_nlt 96 rfl (by omega))
  have g4 : (f3_0_r c (97 : Int32)) = 1 := if_neg (own_nlt 97 rfl (by omega))
  have g5 : (f3_0_r c (123 : Int32)) = 1 := if_neg (own_nlt 123 rfl (by omega))
  have g6 : (f3_0_r c (192 : Int32)) = 0 := if_pos (own_lt 192 rfl (by omega))
  have g7 : (f3_0_r c (215 : Int32)) = 0 := if_pos (own_lt 215 rfl (by omega))
  have g8 : (f3_0_r c (216 : Int32)) = 0 := if_pos (own_lt 216 rfl (by omega))
  have g9 : (f3_0_r c (247 : Int32)) = 0 := if_pos (own_lt 247 rfl (by omega))
  have g10 : (f3_0_r c (248 : Int32)) = 0 := if_pos (own_lt 248 rfl (by omega))
  have g11 : (f3_0_r c (768 : Int32)) = 0 := if_pos (own_lt 768 rfl (by omega))
  have g12 : (f3_0_r c (880 : Int32)) = 0 := if_pos (own_lt 880 rfl (by omega))
  have g13 : (f3_0_r c (894 : Int32)) = 0 := if_pos (own_lt 894 rfl (by omega))
  have g14 : (f3_0_r c (895 : Int32)) = 0 := if_pos (own_lt 895 rfl (by omega))
  have g15 : (f3_0_r c (8192 : Int32)) = 0 := if_pos (own_lt 8192 rfl (by omega))
  have g16 : (f3_0_r c (8204 : Int32)) = 0 := if_pos (own_lt 8204 rfl (by omega))
  have g17 : (f3_0_r c (8206 : Int32)) = 0 := if_pos (own_lt 8206 rfl (by omega))
  have g18 : (f3_0_r c (8304 : Int32)) = 0 := if_pos (own_lt 8304 rfl (by omega))
  have g19 : (f3_0_r c (8592 : Int32)) = 0 := if_pos (own_lt 8592 rfl (by omega))
  have g20 : (f3_0_r c (11264 : Int32)) = 0 := if_pos (own_lt 11264 rfl (by omega))
  have g21 : (f3_0_r c (12272 : Int32)) = 0 := if_pos (own_lt 12272 rfl (by omega))
  have g22 : (f3_0_r c (12289 : Int32)) = 0 := if_pos (own_lt 12289 rfl (by omega))
  have g23 : (f3_0_r c (55296 : Int32)) = 0 := if_pos (own_lt 55296 rfl (by omega))
  have g24 : (f3_0_r c (63744 : Int32)) = 0 := if_pos (own_lt 63744 rfl (by omega))
  have g25 : (f3_0_r c (64976 : Int32)) = 0 := if_pos (own_lt 64976 rfl (by omega))
  have g26 : (f3_0_r c (65008 : Int32)) = 0 := if_pos (own_lt 65008 rfl (by omega))
  have g27 : (f3_0_r c (65534 : Int32)) = 0 := if_pos (own_lt 65534 rfl (by omega))
  have g28 : (f3_0_r c (65536 : Int32)) = 0 := if_pos (own_lt 65536 rfl (by omega))
  have g29 : (f3_0_r c (983040 : Int32)) = 0 := if_pos (own_lt 983040 rfl (by omega))
  have e0 : own_s0 c = _ := g0
  have e1 : own_s1 c = 2 := by unfold own_s1; rw [e0, g1]; rfl
  have e2 : own_s2 c = 3 := by unfold own_s2; rw [e1, g2]; rfl
  have e3 : own_s3 c = 4 := by unfold own_s3; rw [e2, g3]; rfl
  have e4 : own_s4 c = 5 := by unfold own_s4; rw [e3, g4]; rfl
  have e5 : own_s5 c = 6 := by unfold own_s5; rw [e4, g5]; rfl
  have e6 : own_s6 c = 6 := by unfold own_s6; rw [e5, g6]; rfl
  have e7 : own_s7 c = 6 := by unfold own_s7; rw [e6, g7]; rfl
  have e8 : own_s8 c = 6 := by unfold own_s8; rw [e7, g8]; rfl
  have e9 : own_s9 c = 6 := by unfold own_s9; rw [e8, g9]; rfl
  have e10 : own_s10 c = 6 := by unfold own_s10; rw [e9, g10]; rfl
  have e11 : own_s11 c = 6 := by unfold own_s11; rw [e10, g11]; rfl
  have e12 : own_s12 c = 6 := by unfold own_s12; rw [e11, g12]; rfl
  have e13 : own_s13 c = 6 := by unfold own_s13; rw [e12, g13]; rfl
  have e14 : own_s14 c = 6 := by unfold own_s14; rw [e13, g14]; rfl
  have e15 : own_s15 c = 6 := by unfold own_s15; rw [e14, g15]; rfl
  have e16 : own_s16 c = 6 := by unfold own_s16; rw [e15, g16]; rfl
  have e17 : own_s17 c = 6 := by unfold own_s17; rw [e16, g17]; rfl
  have e18 : own_s18 c = 6 := by unfold own_s18; rw [e17, g18]; rfl
  have e19 : own_s19 c = 6 := by unfold own_s19; rw [e18, g19]; rfl
  have e20 : own_s20 c = 6 := by unfold own_s20; rw [e19, g20]; rfl
  have e21 : own_s21 c = 6 := by unfold own_s21; rw [e20, g21]; rfl
  have e22 : own_s22 c = 6 := by unfold own_s22; rw [e21, g22]; rfl
  have e23 : own_s23 c = 6 := by unfold own_s23; rw [e22, g23]; rfl
  have e24 : own_s24 c = 6 := by unfold own_s24; rw [e23, g24]; rfl
  have e25 : own_s25 c = 6 := by unfold own_s25; rw [e24, g25]; rfl
  have e26 : own_s26 c = 6 := by unfold own_s26; rw [e25, g26]; rfl
  have e27 : own_s27 c = 6 := by unfold own_s27; rw [e26, g27]; rfl
  have e28 : own_s28 c = 6 := by unfold own_s28; rw [e27, g28]; rfl
  have e29 : own_s29 c = 6 := by unfold own_s29; rw [e28, g29]; rfl
  unfold own_ref; rw [e29]; decide
theorem own_f7 (c : Int32) (h1 : 192 ≤ c.toInt) (h2 : c.toInt < 215) : f1_0_r c = 1 := by
  unfold f1_0_r; rw [if_neg (own_nlt 97 rfl (by omega)), if_pos (own_gt 122 rfl (by omega))]
  unfold f1_12_r; rw [if_neg (own_nlt 65 rfl (by omega)), if_pos (own_gt 90 rfl (by omega))]
  unfold f1_24_r; rw [if_neg (own_ne 95 rfl (by omega)), if_neg (own_nlt 192 rfl (by omega)), if_neg (own_ngt 214 rfl (by omega))]
  rfl
theorem own_r7 (c : Int32) (h1 : 192 ≤ c.toInt) (h2 : c.toInt < 215) : own_ref c = 1 := by
  have g0 : (f3_0_r c (65 : Int32)) = 1 := if_neg (own_nlt 65 rfl (by omega))
  have g1 : (f3_0_r c (91 : Int32)) = 1 := if_neg (own_nlt 91 rfl (by omega))
  have g2 : (f3_0_r c (95 : Int32)) = 1 := if_neg (own_nlt 95 rfl (by omega))
  have g3 : (f3_0_r c (96 : Int32)) = 1 := if_neg (own_nlt 96 rfl (by omega))
  have g4 : (f3_0_r c (97 : Int32)) = 1 := if_neg (own_nlt 97 rfl (by omega))
  have g5 : (f3_0_r c (123 : Int32)) = 1 := if_neg (own_nlt 123 rfl (by omega))
  have g6 : (f3_0_r c (192 : Int32)) = 1 := if_neg (own_nlt 192 rfl (by omega))
  have g7 : (f3_0_r c (215 : Int32)) = 0 := if_pos (own_lt 215 rfl (by omega))
  have g8 : (f3_0_r c (216 : Int32)) = 0 := if_pos (own_lt 216 rfl (by omega))
  have g9 : (f3_0_r c (247 : Int32)) = 0 := if_pos (own_lt 247 rfl (by omega))
  have g10 : (f3_0_r c (248 : Int32)) = 0 := if_pos (own_lt 248 rfl (by omega))
  have g11 : (f3_0_r c (768 : Int32)) = 0 := if_pos (own_lt 768 rfl (by omega))
  have g12 : (f3_0_r c (880 : Int32)) = 0 := if_pos (own_lt 880 rfl (by omega))
  have g13 : (f3_0_r c (894 : Int32)) = 0 := if_pos (own_lt 894 rfl (by omega))
  have g14 : (f3_0_r c (895 : Int32)) = 0 := if_pos (own_lt 895 rfl (by omega))
  have g15 : (f3_0_r c (8192 : Int32)) = 0 := if_pos (own_lt 8192 rfl (by omega))
  have g16 : (f3_0_r c (8204 : Int32)) = 0 := if_pos (own_lt 8204 rfl (by omega))
  have g17 : (f3_0_r c (8206 : Int32)) = 0 := if_pos (own_lt 8206 rfl (by omega))
  have g18 : (f3_0_r c (8304 : Int32)) = 0 := if_pos (own_lt 8304 rfl (by omega))
  have g19 : (f3_0_r c (8592 : Int32)) = 0 := if_pos (own_lt 8592 rfl (by omega))
  have g20 : (f3_0_r c (11264 : Int32)) = 0 := if_pos (own_lt 11264 rfl (by omega))
  have g21 : (f3_0_r c (12272 : Int32)) = 0 := if_pos (own_lt 12272 rfl (by omega))
  have g22 : (f3_0_r c (12289 : Int32)) = 0 := if_pos (own_lt 12289 rfl (by omega))
  have g23 : (f3_0_r c (55296 : Int32)) = 0 := if_pos (own_lt 55296 rfl (by omega))
  have g24 : (f3_0_r c (63744 : Int32)) = 0 := if_pos (own_lt 63744 rfl (by omega))
  have g25 : (f3_0_r c (64976 : Int32)) = 0 := if_pos (own_lt 64976 rfl (by omega))
  have g26 : (f3_0_r c (65008 : Int32)) = 0 := if_pos (own_lt 65008 rfl (by omega))
  have g27 : (f3_0_r c (65534 : Int32)) = 0 := if_pos (own_lt 65534 rfl (by omega))
  have g28 : (f3_0_r c (65536 : Int32)) = 0 := if_pos (own_lt 65536 rfl (by omega))
  have g29 : (f3_0_r c (983040 : Int32)) = 0 := if_pos (own_lt 983040 rfl (by omega))
  have e0 : own_s0 c = _ := g0
  have e1 : own_s1 c = 2 := by unfold own_s1; rw [e0, g1]; rfl
  have e2 : own_s2 c = 3 := by unfold own_s2; rw [e1, g2]; rfl
  have e3 : own_s3 c = 4 := by unfold own_s3; rw [e2, g3]; rfl
  have e4 : own_s4 c = 5 := by unfold own_s4; rw [e3, g4]; rfl
  have e5 : own_s5 c = 6 := by unfold own_s5; rw [e4, g5]; rfl
  have e6 : own_s6 c = 7 := by unfold own_s6; rw [e5, g6]; rfl
  have e7 : own_s7 c = 7 := by unfold own_s7; rw [e6, g7]; rfl
  have e8 : own_s8 c = 7 := by unfold own_s8; rw [e7, g8]; rfl
  have e9 : own_s9 c = 7 := by unfold own_s9; rw [e8, g9]; rfl
  have e10 : own_s10 c = 7 := by unfold own_s10; rw [e9, g10]; rfl
  have e11 : own_s11 c = 7 := by unfold own_s11; rw [e10, g11]; rfl
  have e12 : own_s12 c = 7 := by unfold own_s12; rw [e11, g12]; rfl
  have e13 : own_s13 c = 7 := by unfold own_s13; rw [e12, g13]; rfl
  have e14 : own_s14 c = 7 := by unfold own_s14; rw [e13, g14]; rfl
  have e15 : own_s15 c = 7 := by unfold own_s15; rw [e14, g15]; rfl
  have e16 : own_s16 c = 7 := by unfold own_s16; rw [e15, g16]; rfl
  have e17 : own_s17 c = 7 := by unfold own_s17; rw [e16, g17]; rfl
  have e18 : own_s18 c = 7 := by unfold own_s18; rw [e17, g18]; rfl
  have e19 : own_s19 c = 7 := by unfold own_s19; rw [e18, g19]; rfl
  have e20 : own_s20 c = 7 := by unfold own_s20; rw [e19, g20]; rfl
  have e21 : own_s21 c = 7 := by unfold own_s21; rw [e20, g21]; rfl
  have e22 : own_s22 c = 7 := by unfold own_s22; rw [e21, g22]; rfl
  have e23 : own_s23 c = 7 := by unfold own_s23; rw [e22, g23]; rfl
  have e24 : own_s24 c = 7 := by unfold own_s24; rw [e23, g24]; rfl
  have e25 : own_s25 c = 7 := by unfold own_s25; rw [e24, g25]; rfl
  have e26 : own_s26 c = 7 := by unfold own_s26; rw [e25, g26]; rfl
  have e27 : own_s27 c = 7 := by unfold own_s27; rw [e26, g27]; rfl
  have e28 : own_s28 c = 7 := by unfold own_s28; rw [e27, g28]; rfl
  have e29 : own_s29 c = 7 := by unfold own_s29; rw [e28, g29]; rfl
  unfold own_ref; rw [e29]; decide
theorem own_f8 (c : Int32) (h1 : 215 ≤ c.toInt) (h2 : c.toInt < 216) : f1_0_r c = 0 := by
  unfold f1_0_r; rw [if_neg (own_nlt 97 rfl (by omega)), if_pos (own_gt 122 rfl (by omega))]
  unfold f1_12_r; rw [if_neg (own_nlt 65 rfl (by omega)), if_pos (own_gt 90 rfl (by omega))]
  unfold f1_24_r; rw [if_neg (own_ne 95 rfl (by omega)), if_neg (own_nlt 192 rfl (by omega)), if_pos (own_gt 214 rfl (by omega))]
  unfold f1_44_r; rw [if_pos (own_lt 216 rfl (by omega))]
  unfold f1_58_r; rw [if_pos (own_lt 248 rfl (by omega))]
  unfold f1_72_r; rw [if_pos (own_lt 880 rfl (by omega))]
  unfold f1_86_r; rw [if_pos (own_lt 895 rfl (by omega))]
  unfold f1_100_r; rw [if_neg (own_ne 8204 rfl (by omega)), if_neg (own_ne 8205 rfl (by omega)), if_pos (own_lt 8304 rfl (by omega))]
  unfold f1_128_r; rw [if_pos (own_lt 11264 rfl (by omega))]
  unfold f1_142_r; rw [if_pos (own_lt 12289 rfl (by omega))]
  unfold f1_155_r; rw [if_pos (own_lt 63744 rfl (by omega))]
  unfold f1_167_r; rw [if_pos (own_lt 65008 rfl (by omega))]
  unfold f1_179_r; rw [if_pos (own_lt 65536 rfl (by omega))]
  rfl
theorem own_r8 (c : Int32) (h1 : 215 ≤ c.toInt) (h2 : c.toInt < 216) : own_ref c = 0 := by
  have g0 : (f3_0_r c (65 : Int32)) = 1 := if_neg (own_nlt 65 rfl (by omega))
  have g1 : (f3_0_r c (91 : Int32)) = 1 := if_neg (own_nlt 91 rfl (by omega))
  have g2 : (f3_0_r c (95 : Int32)) = 1 := if_neg (own_nlt 95 rfl (by omega))
  have g3 : (f3_0_r c (96 : Int32)) = 1 := if_neg (own_nlt 96 rfl (by omega))
  have g4 : (f3_0_r c (97 : Int32)) = 1 := if_neg (own_nlt 97 rfl (by omega))
  have g5 : (f3_0_r c (123 : Int32)) = 1 := if_neg (own_nlt 123 rfl (by omega))
  have g6 : (f3_0_r c (192 : Int32)) = 1 := if_neg (own_nlt 192 rfl (by omega))
  have g7 : (f3_0_r c (215 : Int32)) = 1 := if_neg (own_nlt 215 rfl (by omega))
  have g8 : (f3_0_r c (216 : Int32)) = 0 := if_pos (own_lt 216 rfl (by omega))
  have g9 : (f3_0_r c (247 : Int32)) = 0 := if_pos (own_lt 247 rfl (by omega))
  have g10 : (f3_0_r c (248 : Int32)) = 0 := if_pos (own_lt 248 rfl (by omega))
  have g11 : (f3_0_r c (768 : Int32)) = 0 := if_pos (own_lt 768 rfl (by omega))
  have g12 : (f3_0_r c (880 : Int32)) = 0 := if_pos (own_lt 880 rfl (by omega))
  have g13 : (f3_0_r c (894 : Int32)) = 0 := if_pos (own_lt 894 rfl (by omega))
  have g14 : (f3_0_r c (895 : Int32)) = 0 := if_pos (own_lt 895 rfl (by omega))
  have g15 : (f3_0_r c (8192 : Int32)) = 0 := if_pos (own_lt 8192 rfl (by omega))
  have g16 : (f3_0_r c (8204 : Int32)) = 0 := if_pos (own_lt 8204 rfl (by omega))
  have g17 : (f3_0_r c (8206 : Int32)) = 0 := if_pos (own_lt 8206 rfl (by omega))
  have g18 : (f3_0_r c (8304 : Int32)) = 0 := if_pos (own_lt 8304 rfl (by omega))
  have g19 : (f3_0_r c (8592 : Int32)) = 0 := if_pos (own_lt 8592 rfl (by omega))
  have g20 : (f3_0_r c (11264 : Int32)) = 0 := if_pos (own_lt 11264 rfl (by omega))
  have g21 : (f3_0_r c (12272 : Int32)) = 0 := if_pos (own_lt 12272 rfl (by omega))
  have g22 : (f3_0_r c (12289 : Int32)) = 0 := if_pos (own_lt 12289 rfl (by omega))
  have g23 : (f3_0_r c (55296 : Int32)) = 0 := if_pos (own_lt 55296 rfl (by omega))
  have g24 : (f3_0_r c (63744 : Int32)) = 0 := if_pos (own_lt 63744 rfl (by omega))
  have g25 : (f3_0_r c (64976 : Int32)) = 0 := if_pos (own_lt 64976 rfl (by omega))
  have g26 : (f3_0_r c (65008 : Int32)) = 0 := if_pos (own_lt 65008 rfl (by omega))
  have g27 : (f3_0_r c (65534 : Int32)) = 0 := if_pos (own_lt 65534 rfl (by omega))
  have g28 : (f3_0_r c (65536 : Int32)) = 0 := if_pos (own_lt 65536 rfl (by omega))
  have g29 : (f3_0_r c (983040 : Int32)) = 0 := if_pos (own_lt 983040 rfl (by omega))
  have e0 : own_s0 c = _ := g0
  have e1 : own_s1 c = 2 := by unfold own_s1; rw [e0, g1]; rfl
  have e2 : own_s2 c = 3 := by unfold own_s2; rw [e1, g2]; rfl
  have e3 : own_s3 c = 4 := by unfold own_s3; rw [e2, g3]; rfl
  have e4 : own_s4 c = 5 := by unfold own_s4; rw [e3, g4]; rfl
  have e5 : own_s5 c = 6 := by unfold own_s5; rw [e4, g5]; rfl
  have e6 : own_s6 c = 7 := by unfold own_s6; rw [e5, g6]; rfl
  have e7 : own_s7 c = 8 := by unfold own_s7; rw [e6, g7]; rfl
  have e8 : own_s8 c = 8 := by unfold own_s8; rw [e7, g8]; rfl
  have e9 : own_s9 c = 8 := by unfold own_s9; rw [e8, g9]; rfl
  have e10 : own_s10 c = 8 := by unfold own_s10; rw [e9, g10]; rfl
  have e11 : own_s11 c = 8 := by unfold own_s11; rw [e10, g11]; rfl
  have e12 : own_s12 c = 8 := by unfold own_s12; rw [e11, g12]; rfl
  have e13 : own_s13 c = 8 := by unfold own_s13; rw [e12, g13]; rfl
  have e14 : own_s14 c = 8 := by unfold own_s14; rw [e13, g14]; rfl
  have e15 : own_s15 c = 8 := by unfold own_s15; rw [e14, g15]; rfl
  have e16 : own_s16 c = 8 := by unfold own_s16; rw [e15, g16]; rfl
  have e17 : own_s17 c = 8 := by unfold own_s17; rw [e16, g17]; rfl
  have e18 : own_s18 c = 8 := by unfold own_s18; rw [e17, g18]; rfl
  have e19 : own_s19 c = 8 := by unfold own_s19; rw [e18, g19]; rfl
  have e20 : own_s20 c = 8 := by unfold own_s20; rw [e19, g20]; rfl
  have e21 : own_s21 c = 8 := by unfold own_s21; rw [e20, g21]; rfl
  have e22 : own_s22 c = 8 := by unfold own_s22; rw [e21, g22]; rfl
  have e23 : own_s23 c = 8 := by unfold own_s23; rw [e22, g23]; rfl
  have e24 : own_s24 c = 8 := by unfold own_s24; rw [e23, g24]; rfl
  have e25 : own_s25 c = 8 := by unfold own_s25; rw [e24, g25]; rfl
  have e26 : own_s26 c = 8 := by unfold own_s26; rw [e25, g26]; rfl
  have e27 : own_s27 c = 8 := by unfold own_s27; rw [e26, g27]; rfl
  have e28 : own_s28 c = 8 := by unfold own_s28; rw [e27, g28]; rfl
  have e29 : own_s29 c = 8 := by unfold own_s29; rw [e28, g29]; rfl
  unfold own_ref; rw [e29]; decide
theorem own_f9 (c : Int32) (h1 : 216 ≤ c.toInt) (h2 : c.toInt < 247) : f1_0_r c = 1 := by
  unfold f1_0_r; rw [if_neg (own_nlt 97 rfl (by omega)), if_pos (own_gt 122 rfl (by omega))]
  unfold f1_12_r; rw [if_neg (own_nlt 65 rfl (by omega)), if_pos (own_gt 90 rfl (by omega))]
  unfold f1_24_r; rw [if_neg (own_ne 95 rfl (by omega)), if_neg (own_nlt 192 rfl (by omega)), if_pos (own_gt 214 rfl (by omega))]
  unfold f1_44_r; rw [if_neg (own_nlt 216 rfl (by omega)), if_neg (own_ngt 246 rfl (by omega))]
  rfl
theorem own_r9 (c : Int32) (h1 : 216 ≤ c.toInt) (h2 : c.toInt < 247) : own_ref c = 1 := by
  have g0 : (f3_0_r c (65 : Int32)) = 1 := if_neg (own_nlt 65 rfl (by omega))
  have g1 : (f3_0_r c (91 : Int32)) = 1 := if_neg (own_nlt 91 rfl (by omega))
  have g2 : (f3_0_r c (95 : Int32)) = 1 := if_neg (own_nlt 95 rfl (by omega))
  have g3 : (f3_0_r c (96 : Int32)) = 1 := if_neg (own_nlt 96 rfl (by omega))
  have g4 : (f3_0_r c (97 : Int32)) = 1 := if_neg (own_nlt 97 rfl (by omega))
  have g5 : (f3_0_r c (123 : Int32)) = 1 := if_neg (own_nlt 123 rfl (by omega))
  have g6 : (f3_0_r c (192 : Int32)) = 1 := if_neg (own_nlt 192 rfl (by omega))
  have g7 : (f3_0_r c (215 : Int32)) = 1 := if_neg (own_nlt 215 rfl (by omega))
  have g8 : (f3_0_r c (216 : Int32)) = 1 := if_neg (own_nlt 216 rfl (by omega))
  have g9 : (f3_0_r c (247 : Int32)) = 0 := if_pos (own_lt 247 rfl (by omega))
  have g10 : (f3_0_r c (248 : Int32)) = 0 := if_pos (own_lt 248 rfl (by omega))
  have g11 : (f3_0_r c (768 : Int32)) = 0 := if_pos (own_lt 768 rfl (by omega))
  have g12 : (f3_0_r c (880 : Int32)) = 0 := if_pos (own_lt 880 rfl (by omega))
  have g13 : (f3_0_r c (894 : Int32)) = 0 := if_pos (own_lt 894 rfl (by omega))
  have g14 : (f3_0_r c (895 : Int32)) = 0 := if_pos (own_lt 895 rfl (by omega))
  have g15 : (f3_0_r c (8192 : Int32)) = 0 := if_pos (own_lt 8192 rfl (by omega))
  have g16 : (f3_0_r c (8204 : Int32)) = 0 := if_pos (own_lt 8204 rfl (by omega))
  have g17 : (f3_0_r c (8206 : Int32)) = 0 := if_pos (own_lt 8206 rfl (by omega))
  have g18 : (f3_0_r c (8304 : Int32)) = 0 := if_pos (own_lt 8304 rfl (by omega))
  have g19 : (f3_0_r c (8592 : Int32)) = 0 := if_pos (own_lt 8592 rfl (by omega))
  have g20 : (f3_0_r c (11264 : Int32)) = 0 := if_pos (own_lt 11264 rfl (by omega))
  have g21 : (f3_0_r c (12272 : Int32)) = 0 := if_pos (own_lt 12272 rfl (by omega))
  have g22 : (f3_0_r c (12289 : Int32)) = 0 := if_pos (own_lt 12289 rfl (by omega))
  have g23 : (f3_0_r c (55296 : Int32)) = 0 := if_pos (own_lt 55296 rfl (by omega))
  have g24 : (f3_0_r c (63744 : Int32)) = 0 := if_pos (own_lt 63744 rfl (by omega))
  have g25 : (f3_0_r c (64976 : Int32)) = 0 := if_pos (own_lt 64976 rfl (by omega))
  have g26 : (f3_0_r c (65008 : Int32)) = 0 := if_pos (own_lt 65008 rfl (by omega))
  have g27 : (f3_0_r c (65534 : Int32)) = 0 := if_pos (own_lt 65534 rfl (by omega))
  have g28 : (f3_0_r c (65536 : Int32)) = 0 := if_pos (own_lt 65536 rfl (by omega))
  have g29 : (f3_0_r c (983040 : Int32)) = 0 := if_pos (own_lt 983040 rfl (by omega))
  have e0 : own_s0 c = _ := g0
  have e1 : own_s1 c = 2 := by unfold own_s1; rw [e0, g1]; rfl
  have e2 : own_s2 c = 3 := by unfold own_s2; rw [e1, g2]; rfl
  have e3 : own_s3 c = 4 := by unfold own_s3; rw [e2, g3]; rfl
  have e4 : own_s4 c = 5 := by unfold own_s4; rw [e3, g4]; rfl
  have e5 : own_s5 c = 6 := by unfold own_s5; rw [e4, g5]; rfl
  have e6 : own_s6 c = 7 := by unfold own_s6; rw [e5, g6]; rfl
  have e7 : own_s7 c = 8 := by unfold own_s7; rw [e6, g7]; rfl
  have e8 : own_s8 c = 9 := by unfold own_s8; rw [e7, g8]; rfl
  have e9 : own_s9 c = 9 := by unfold own_s9; rw [e8, g9]; rfl
  have e10 : own_s10 c = 9 := by unfold own_s10; rw [e9, g10]; rfl
  have e11 : own_s11 c = 9 := by unfold own_s11; rw [e10, g11]; rfl
  have e12 : own_s12 c = 9 := by unfold own_s12; rw [e11, g12]; rfl
  have e13 : own_s13 c = 9 := by unfold own_s13; rw [e12, g13]; rfl
  have e14 : own_s14 c = 9 := by unfold own_s14; rw [e13, g14]; rfl
  have e15 : own_s15 c = 9 := by unfold own_s15; rw [e14, g15]; rfl
  have e16 : own_s16 c = 9 := by unfold own_s16; rw [e15, g16]; rfl
  have e17 : own_s17 c = 9 := by unfold own_s17; rw [e16, g17]; rfl
  have e18 : own_s18 c = 9 := by unfold own_s18; rw [e17, g18]; rfl
  have e19 : own_s19 c = 9 := by unfold own_s19; rw [e18, g19]; rfl
  have e20 : own_s20 c = 9 := by unfold own_s20; rw [e19, g20]; rfl
  have e21 : own_s21 c = 9 := by unfold own_s21; rw [e20, g21]; rfl
  have e22 : own_s22 c = 9 := by unfold own_s22; rw [e21, g22]; rfl
  have e23 : own_s23 c = 9 := by unfold own_s23; rw [e22, g23]; rfl
  have e24 : own_s24 c = 9 := by unfold own_s24; rw [e23, g24]; rfl
  have e25 : own_s25 c = 9 := by unfold own_s25; rw [e24, g25]; rfl
  have e26 : own_s26 c = 9 := by unfold own_s26; rw [e25, g26]; rfl
  have e27 : own_s27 c = 9 := by unfold own_s27; rw [e26, g27]; rfl
  have e28 : own_s28 c = 9 := by unfold own_s28; rw [e27, g28]; rfl
  have e29 : own_s29 c = 9 := by unfold own_s29; rw [e28, g29]; rfl
  unfold own_ref; rw [e29]; decide
theorem own_f10 (c : Int32) (h1 : 247 ≤ c.toInt) (h2 : c.toInt < 248) : f1_0_r c = 0 := by
  unfold f1_0_r; rw [if_neg (own_nlt 97 rfl (by omega)), if_pos (own_gt 122 rfl (by omega))]
  unfold f1_12_r; rw [if_neg (own_nlt 65 rfl (by omega)), if_pos (own_gt 90 rfl (by omega))]
  unfold f1_24_r; rw [if_neg (own_ne 95 rfl (by omega)), if_neg (own_nlt 192 rfl (by omega)), if_pos (own_gt 214 rfl (by omega))]
  unfold f1_44_r; rw [if_neg (own_nlt 216 rfl (by omega)), if_pos (own_gt 246 rfl (by omega))]
  unfold f1_58_r; rw [if_pos (own_lt 248 rfl (by omega))]
  unfold f1_72_r; rw [if_pos (own_lt 880 rfl (by omega))]
  unfold f1_86_r; rw [if_pos (own_lt 895 rfl (by omega))]
  unfold f1_100_r; rw [if_neg (own_ne 8204 rfl (by omega)), if_neg (own_ne 8205 rfl (by omega)), if_pos (own_lt 8304 rfl (by omega))]
  unfold f1_128_r; rw [if_pos (own_lt 11264 rfl (by omega))]
  unfold f1_142_r; rw [if_pos (own_lt 12289 rfl (by omega))]
  unfold f1_155_r; rw [if_pos (own_lt 63744 rfl (by omega))]
  unfold f1_167_r; rw [if_pos (own_lt 65008 rfl (by omega))]
  unfold f1_179_r; rw [if_pos (own_lt 65536 rfl (by omega))]
  rfl
theorem own_r10 (c : Int32) (h1 : 247 ≤ c.toInt) (h2 : c.toInt < 248) : own_ref c = 0 := by
  have g0 : (f3_0_r c (65 : Int32)) = 1 := if_neg (own_nlt 65 rfl (by omega))
  have g1 : (f3_0_r c (91 : Int32)) = 1 := if_neg (own_nlt 91 rfl (by omega))
  have g2 : (f3_0_r c (95 : Int32)) = 1 := if_neg (own_nlt 95 rfl (by omega))
  have g3 : (f3_0_r c (96 : Int32)) = 1 := if_neg (own_nlt 96 rfl (by omega))
  have g4 : (f3_0_r c (97 : Int32)) = 1 := if_neg (own_nlt 97 rfl (by omega))
  have g5 : (f3_0_r c (123 : Int32)) = 1 := if_neg (own_nlt 123 rfl (by omega))
  have g6 : (f3_0_r c (192 : Int32)) = 1 := if_neg (own_nlt 192 rfl (by omega))
  have g7 : (f3_0_r c (215 : Int32)) = 1 := if_neg (own_nlt 215 rfl (by omega))
  have g8 : (f3_0_r c (216 : Int32)) = 1 := if_neg (own_nlt 216 rfl (by omega))
  have g9 : (f3_0_r c (247 : Int32)) = 1 := if_neg (own_nlt 247 rfl (by omega))
  have g10 : (f3_0_r c (248 : Int32)) = 0 := if_pos (own_lt 248 rfl (by omega))
  have g11 : (f3_0_r c (768 : Int32)) = 0 := if_pos (own_lt 768 rfl (by omega))
  have g12 : (f3_0_r c (880 : Int32)) = 0 := if_pos (own_lt 880 rfl (by omega))
  have g13 : (f3_0_r c (894 : Int32)) = 0 := if_pos (own_lt 894 rfl (by omega))
  have g14 : (f3_0_r c (895 : Int32)) = 0 := if_pos (own_lt 895 rfl (by omega))
  have g15 : (f3_0_r c (8192 : Int32)) = 0 := if_pos (own_lt 8192 rfl (by omega))
  have g16 : (f3_0_r c (8204 : Int32)) = 0 := if_pos (own_lt 8204 rfl (by omega))
  have g17 : (f3_0_r c (8206 : Int32)) = 0 := if_pos (own_lt 8206 rfl (by omega))
  have g18 : (f3_0_r c (8304 : Int32)) = 0 := if_pos (own_lt 8304 rfl (by omega))
  have g19 : (f3_0_r c (8592 : Int32)) = 0 := if_pos (own_lt 8592 rfl (by omega))
  have g20 : (f3_0_r c (11264 : Int32)) = 0 := if_pos (own_lt 11264 rfl (by omega))
  have g21 : (f3_0_r c (12272 : Int32)) = 0 := if_pos (own_lt 12272 rfl (by omega))
  have g22 : (f3_0_r c (12289 : Int32)) = 0 := if_pos (own_lt 12289 rfl (by omega))
  have g23 : (f3_0_r c (55296 : Int32)) = 0 := if_pos (own_lt 55296 rfl (by omega))
  have g24 : (f3_0_r c (63744 : Int32)) = 0 := if_pos (own_lt 63744 rfl (by omega))
  have g25 : (f3_0_r c (64976 : Int32)) = 0 := if_pos (own_lt 64976 rfl (by omega))
  have g26 : (f3_0_r c (65008 : Int32)) = 0 := if_pos (own_lt 65008 rfl (by omega))
  have g27 : (f3_0_r c (65534 : Int32)) = 0 := if_pos (own_lt 65534 rfl (by omega))
  have g28 : (f3_0_r c (65536 : Int32)) = 0 := if_pos (own_lt 65536 rfl (by omega))
  have g29 : (f3_0_r c (983040 : Int32)) = 0 := if_pos (own_lt 983040 rfl (by omega))
  have e0 : own_s0 c = _ := g0
  have e1 : own_s1 c = 2 := by unfold own_s1; rw [e0, g1]; rfl
  have e2 : own_s2 c = 3 := by unfold own_s2; rw [e1, g2]; rfl
  have e3 : own_s3 c = 4 := by unfold own_s3; rw [e2, g3]; rfl
  have e4 : own_s4 c = 5 := by unfold own_s4; rw [e3, g4]; rfl
  have e5 : own_s5 c = 6 := by unfold own_s5; rw [e4, g5]; rfl
  have e6 : own_s6 c = 7 := by unfold own_s6; rw [e5, g6]; rfl
  have e7 : own_s7 c = 8 := by unfold own_s7; rw [e6, g7]; rfl
  have e8 : own_s8 c = 9 := by unfold own_s8; rw [e7, g8]; rfl
  have e9 : own_s9 c = 10 := by unfold own_s9; rw [e8, g9]; rfl
  have e10 : own_s10 c = 10 := by unfold own_s10; rw [e9, g10]; rfl
  have e11 : own_s11 c = 10 := by unfold own_s11; rw [e10, g11]; rfl
  have e12 : own_s12 c = 10 := by unfold own_s12; rw [e11, g12]; rfl
  have e13 : own_s13 c = 10 := by unfold own_s13; rw [e12, g13]; rfl
  have e14 : own_s14 c = 10 := by unfold own_s14; rw [e13, g14]; rfl
  have e15 : own_s15 c = 10 := by unfold own_s15; rw [e14, g15]; rfl
  have e16 : own_s16 c = 10 := by unfold own_s16; rw [e15, g16]; rfl
  have e17 : own_s17 c = 10 := by unfold own_s17; rw [e16, g17]; rfl
  have e18 : own_s18 c = 10 := by unfold own_s18; rw [e17, g18]; rfl
  have e19 : own_s19 c = 10 := by unfold own_s19; rw [e18, g19]; rfl
  have e20 : own_s20 c = 10 := by unfold own_s20; rw [e19, g20]; rfl
  have e21 : own_s21 c = 10 := by unfold own_s21; rw [e20, g21]; rfl
  have e22 : own_s22 c = 10 := by unfold own_s22; rw [e21, g22]; rfl
  have e23 : own_s23 c = 10 := by unfold own_s23; rw [e22, g23]; rfl
  have e24 : own_s24 c = 10 := by unfold own_s24; rw [e23, g24]; rfl
  have e25 : own_s25 c = 10 := by unfold own_s25; rw [e24, g25]; rfl
  have e26 : own_s26 c = 10 := by unfold own_s26; rw [e25, g26]; rfl
  have e27 : own_s27 c = 10 := by unfold own_s27; rw [e26, g27]; rfl
  have e28 : own_s28 c = 10 := by unfold own_s28; rw [e27, g28]; rfl
  have e29 : own_s29 c = 10 := by unfold own_s29; rw [e28, g29]; rfl
  unfold own_ref; rw [e29]; decide
theorem own_f11 (c : Int32) (h1 : 248 ≤ c.toInt) (h2 : c.toInt < 768) : f1_0_r c = 1 := by
  unfold f1_0_r; rw [if_neg (own_nlt 97 rfl (by omega)), if_pos (own_gt 122 rfl (by omega))]
  unfold f1_12_r; rw [if_neg (own_nlt 65 rfl (by omega)), if_pos (own_gt 90 rfl (by omega))]
  unfold f1_24_r; rw [if_neg (own_ne 95 rfl (by omega)), if_neg (own_nlt 192 rfl (by omega)), if_pos (own_gt 214 rfl (by omega))]
  unfold f1_44_r; rw [if_neg (own_nlt 216 rfl (by omega)), if_pos (own_gt 246 rfl (by omega))]
  unfold f1_58_r; rw [if_neg (own_nlt 248 rfl (by omega)), if_neg (own_ngt 767 rfl (by omega))]
  rfl
theorem own_r11 (c : Int32) (h1 : 248 ≤ c.toInt) (h2 : c.toInt < 768) : own_ref c = 1 := by
  have g0 : (f3_0_r c (65 : Int32)) = 1 := if_neg (own_nlt 65 rfl (by omega))
  have g1 : (f3_0_r c (91 : Int32)) = 1 := if_neg (own_nlt 91 rfl (by omega))
  have g2 : (f3_0_r c (95 : Int32)) = 1 := if_neg (own_nlt 95 rfl (by omega))
  have g3 : (f3_0_r c (96 : Int32)) = 1 := if_neg (own_nlt 96 rfl (by omega))
  have g4 : (f3_0_r c (97 : Int32)) = 1 := if_neg (own_nlt 97 rfl (by omega))
  have g5 : (f3_0_r c (123 : Int32)) = 1 := if_neg (own_nlt 123 rfl (by omega))
  have g6 : (f3_0_r c (192 : Int32)) = 1 := if_neg (own_nlt 192 rfl (by omega))
  have g7 : (f3_0_r c (215 : Int32)) = 1 := if_neg (own_nlt 215 rfl (by omega))
  have g8 : (f3_0_r c (216 : Int32)) = 1 := if_neg (own_nlt 216 rfl (by omega))
  have g9 : (f3_0_r c (247 : Int32)) = 1 := if_neg (own_nlt 247 rfl (by omega))
  have g10 : (f3_0_r c (248 : Int32)) = 1 := if_neg (own_nlt 248 rfl (by omega))
  have g11 : (f3_0_r c (768 : Int32)) = 0 := if_pos (own_lt 768 rfl (by omega))
  have g12 : (f3_0_r c (880 : Int32)) = 0 := if_pos (own_lt 880 rfl (by omega))
  have g13 : (f3_0_r c (894 : Int32)) = 0 := if_pos (own_lt 894 rfl (by omega))
  have g14 : (f3_0_r c (895 : Int32)) = 0 := if_pos (own_lt 895 rfl (by omega))
  have g15 : (f3_0_r c (8192 : Int32)) = 0 := if_pos (own_lt 8192 rfl (by omega))
  have g16 : (f3_0_r c (8204 : Int32)) = 0 := if_pos (own_lt 8204 rfl (by omega))
  have g17 : (f3_0_r c (8206 : Int32)) = 0 := if_pos (own_lt 8206 rfl (by omega))
  have g18 : (f3_0_r c (8304 : Int32)) = 0 := if_pos (own_lt 8304 rfl (by omega))
  have g19 : (f3_0_r c (8592 : Int32)) = 0 := if_pos (own_lt 8592 rfl (by omega))
  have g20 : (f3_0_r c (11264 : Int32)) = 0 := if_pos (own_lt 11264 rfl (by omega))
  have g21 : (f3_0_r c (12272 : Int32)) = 0 := if_pos (own_lt 12272 rfl (by omega))
  have g22 : (f3_0_r c (12289 : Int32)) = 0 := if_pos (own_lt 12289 rfl (by omega))
  have g23 : (f3_0_r c (55296 : Int32)) = 0 := if_pos (own_lt 55296 rfl (by omega))
  have g24 : (f3_0_r c (63744 : Int32)) = 0 := if_pos (own_lt 63744 rfl (by omega))
  have g25 : (f3_0_r c (64976 : Int32)) = 0 := if_pos (own_lt 64976 rfl (by omega))
  have g26 : (f3_0_r c (65008 : Int32)) = 0 := if_pos (own_lt 65008 rfl (by omega))
  have g27 : (f3_0_r c (65534 : Int32)) = 0 := if_pos (own_lt 65534 rfl (by omega))
  have g28 : (f3_0_r c (65536 : Int32)) = 0 := if_pos (own_lt 65536 rfl (by omega))
  have g29 : (f3_0_r c (983040 : Int32)) = 0 := if_pos (own_lt 983040 rfl (by omega))
  have e0 : own_s0 c = _ := g0
  have e1 : own_s1 c = 2 := by unfold own_s1; rw [e0, g1]; rfl
  have e2 : own_s2 c = 3 := by unfold own_s2; rw [e1, g2]; rfl
  have e3 : own_s3 c = 4 := by unfold own_s3; rw [e2, g3]; rfl
  have e4 : own_s4 c = 5 := by unfold own_s4; rw [e3, g4]; rfl
  have e5 : own_s5 c = 6 := by unfold own_s5; rw [e4, g5]; rfl
  have e6 : own_s6 c = 7 := by unfold own_s6; rw [e5, g6]; rfl
  have e7 : own_s7 c = 8 := by unfold own_s7; rw [e6, g7]; rfl
  have e8 : own_s8 c = 9 := by unfold own_s8; rw [e7, g8]; rfl
  have e9 : own_s9 c = 10 := by unfold own_s9; rw [e8, g9]; rfl
  have e10 : own_s10 c = 11 := by unfold own_s10; rw [e9, g10]; rfl
  have e11 : own_s11 c = 11 := by unfold own_s11; rw [e10, g11]; rfl
  have e12 : own_s12 c = 11 := by unfold own_s12; rw [e11, g12]; rfl
  have e13 : own_s13 c = 11 := by unfold own_s13; rw [e12, g13]; rfl
  have e14 : own_s14 c = 11 := by unfold own_s14; rw [e13, g14]; rfl
  have e15 : own_s15 c = 11 := by unfold own_s15; rw [e14, g15]; rfl
  have e16 : own_s16 c = 11 := by unfold own_s16; rw [e15, g16]; rfl
  have e17 : own_s17 c = 11 := by unfold own_s17; rw [e16, g17]; rfl
  have e18 : own_s18 c = 11 := by unfold own_s18; rw [e17, g18]; rfl
  have e19 : own_s19 c = 11 := by unfold own_s19; rw [e18, g19]; rfl
  have e20 : own_s20 c = 11 := by unfold own_s20; rw [e19, g20]; rfl
  have e21 : own_s21 c = 11 := by unfold own_s21; rw [e20, g21]; rfl
  have e22 : own_s22 c = 11 := by unfold own_s22; rw [e21, g22]; rfl
  have e23 : own_s23 c = 11 := by unfold own_s23; rw [e22, g23]; rfl
  have e24 : own_s24 c = 11 := by unfold own_s24; rw [e23, g24]; rfl
  have e25 : own_s25 c = 11 := by unfold own_s25; rw [e24, g25]; rfl
  have e26 : own_s26 c = 11 := by unfold own_s26; rw [e25, g26]; rfl
  have e27 : own_s27 c = 11 := by unfold own_s27; rw [e26, g27]; rfl
  have e28 : own_s28 c = 11 := by unfold own_s28; rw [e27, g28]; rfl
  have e29 : own_s29 c = 11 := by unfold own_s29; rw [e28, g29]; rfl
  unfold own_ref; rw [e29]; decide
theorem own_f12 (c : Int32) (h1 : 768 ≤ c.toInt) (h2 : c.toInt < 880) : f1_0_r c = 0 := by
  unfold f1_0_r; rw [if_neg (own_nlt 97 rfl (by omega)), if_pos (own_gt 122 rfl (by omega))]
  unfold f1_12_r; rw [if_neg (own_nlt 65 rfl (by omega)), if_pos (own_gt 90 rfl (by omega))]
  unfold f1_24_r; rw [if_neg (own_ne 95 rfl (by omega)), if_neg (own_nlt 192 rfl (by omega)), if_pos (own_gt 214 rfl (by omega))]
  unfold f1_44_r; rw [if_neg (own_nlt 216 rfl (by omega)), if_pos (own_gt 246 rfl (by omega))]
  unfold f1_58_r; rw [if_neg (own_nlt 248 rfl (by omega)), if_pos (own_gt 767 rfl (by omega))]
  unfold f1_72_r; rw [if_pos (own_lt 880 rfl (by omega))]
  unfold f1_86_r; rw [if_pos (own_lt 895 rfl (by omega))]
  unfold f1_100_r; rw [if_neg (own_ne 8204 rfl (by omega)), if_neg (own_ne 8205 rfl (by omega)), if_pos (own_lt 8304 rfl (by omega))]
  unfold f1_128_r; rw [if_pos (own_lt 11264 rfl (by omega))]
  unfold f1_142_r; rw [if_pos (own_lt 12289 rfl (by omega))]
  unfold f1_155_r; rw [if_pos (own_lt 63744 rfl (by omega))]
  unfold f1_167_r; rw [if_pos (own_lt 65008 rfl (by omega))]
  unfold f1_179_r; rw [if_pos (own_lt 65536 rfl (by omega))]
  rfl
theorem own_r12 (c : Int32) (h1 : 768 ≤ c.toInt) (h2 : c.toInt < 880) : own_ref c = 0 := by
  have g0 : (f3_0_r c (65 : Int32)) = 1 := if_neg (own_nlt 65 rfl (by omega))
  have g1 : (f3_0_r c (91 : Int32)) = 1 := if_neg (own_nlt 91 rfl (by omega))
  have g2 : (f3_0_r c (95 : Int32)) = 1 := if_neg (own_nlt 95 rfl (by omega))
  have g3 : (f3_0_r c (96 : Int32)) = 1 := if_neg (own_nlt 96 rfl (by omega))
  have g4 : (f3_0_r c (97 : Int32)) = 1 := if_neg (own_nlt 97 rfl (by omega))
  have g5 : (f3_0_r c (123 : Int32)) = 1 := if_neg (own_nlt 123 rfl (by omega))
  have g6 : (f3_0_r c (192 : Int32)) = 1 := if_neg (own_nlt 192 rfl (by omega))
  have g7 : (f3_0_r c (215 : Int32)) = 1 := if_neg (own_nlt 215 rfl (by omega))
  have g8 : (f3_0_r c (216 : Int32)) = 1 := if_neg (own_nlt 216 rfl (by omega))
  have g9 : (f3_0_r c (247 : Int32)) = 1 := if_neg (own_nlt 247 rfl (by omega))
  have g10 : (f3_0_r c (248 : Int32)) = 1 := if_neg (own_nlt 248 rfl (by omega))
  have g11 : (f3_0_r c (768 : Int32)) = 1 := if_neg (own_nlt 768 rfl (by omega))
  have g12 : (f3_0_r c (880 : Int32)) = 0 := if_pos (own_lt 880 rfl (by omega))
  have g13 : (f3_0_r c (894 : Int32)) = 0 := if_pos (own_lt 894 rfl (by omega))
  have g14 : (f3_0_r c (895 : Int32)) = 0 := if_pos (own_lt 895 rfl (by omega))
  have g15 : (f3_0_r c (8192 : Int32)) = 0 := if_pos (own_lt 8192 rfl (by omega))
  have g16 : (f3_0_r c (8204 : Int32)) = 0 := if_pos (own_lt 8204 rfl (by omega))
  have g17 : (f3_0_r c (8206 : Int32)) = 0 := if_pos (own_lt 8206 rfl (by omega))
  have g18 : (f3_0_r c (8304 : Int32)) = 0 := if_pos (own_lt 8304 rfl (by omega))
  have g19 : (f3_0_r c (8592 : Int32)) = 0 := if_pos (own_lt 8592 rfl (by omega))
  have g20 : (f3_0_r c (11264 : Int32)) = 0 := if_pos (own_lt 11264 rfl (by omega))
  have g21 : (f3_0_r c (12272 : Int32)) = 0 := if_pos (own_lt 12272 rfl (by omega))
  have g22 : (f3_0_r c (12289 : Int32)) = 0 := if_pos (own_lt 12289 rfl (by omega))
  have g23 : (f3_0_r c (55296 : Int32)) = 0 := if_pos (own_lt 55296 rfl (by omega))
  have g24 : (f3_0_r c (63744 : Int32)) = 0 := if_pos (own_lt 63744 rfl (by omega))
  have g25 : (f3_0_r c (64976 : Int32)) = 0 := if_pos (own_lt 64976 rfl (by omega))
  have g26 : (f3_0_r c (65008 : Int32)) = 0 := if_pos (own_lt 65008 rfl (by omega))
  have g27 : (f3_0_r c (65534 : Int32)) = 0 := if_pos (own_lt 65534 rfl (by omega))
  have g28 : (f3_0_r c (65536 : Int32)) = 0 := if_pos (own_lt 65536 rfl (by omega))
  have g29 : (f3_0_r c (983040 : Int32)) = 0 := if_pos (own_lt 983040 rfl (by omega))
  have e0 : own_s0 c = _ := g0
  have e1 : own_s1 c = 2 := by unfold own_s1; rw [e0, g1]; rfl
  have e2 : own_s2 c = 3 := by unfold own_s2; rw [e1, g2]; rfl
  have e3 : own_s3 c = 4 := by unfold own_s3; rw [e2, g3]; rfl
  have e4 : own_s4 c = 5 := by unfold own_s4; rw [e3, g4]; rfl
  have e5 : own_s5 c = 6 := by unfold own_s5; rw [e4, g5]; rfl
  have e6 : own_s6 c = 7 := by unfold own_s6; rw [e5, g6]; rfl
  have e7 : own_s7 c = 8 := by unfold own_s7; rw [e6, g7]; rfl
  have e8 : own_s8 c = 9 := by unfold own_s8; rw [e7, g8]; rfl
  have e9 : own_s9 c = 10 := by unfold own_s9; rw [e8, g9]; rfl
  have e10 : own_s10 c = 11 := by unfold own_s10; rw [e9, g10]; rfl
  have e11 : own_s11 c = 12 := by unfold own_s11; rw [e10, g11]; rfl
  have e12 : own_s12 c = 12 := by unfold own_s12; rw [e11, g12]; rfl
  have e13 : own_s13 c = 12 := by unfold own_s13; rw [e12, g13]; rfl
  have e14 : own_s14 c = 12 := by unfold own_s14; rw [e13, g14]; rfl
  have e15 : own_s15 c = 12 := by unfold own_s15; rw [e14, g15]; rfl
  have e16 : own_s16 c = 12 := by unfold own_s16; rw [e15, g16]; rfl
  have e17 : own_s17 c = 12 := by unfold own_s17; rw [e16, g17]; rfl
  have e18 : own_s18 c = 12 := by unfold own_s18; rw [e17, g18]; rfl
  have e19 : own_s19 c = 12 := by unfold own_s19; rw [e18, g19]; rfl
  have e20 : own_s20 c = 12 := by unfold own_s20; rw [e19, g20]; rfl
  have e21 : own_s21 c = 12 := by unfold own_s21; rw [e20, g21]; rfl
  have e22 : own_s22 c = 12 := by unfold own_s22; rw [e21, g22]; rfl
  have e23 : own_s23 c = 12 := by unfold own_s23; rw [e22, g23]; rfl
  have e24 : own_s24 c = 12 := by unfold own_s24; rw [e23, g24]; rfl
  have e25 : own_s25 c = 12 := by unfold own_s25; rw [e24, g25]; rfl
  have e26 : own_s26 c = 12 := by unfold own_s26; rw [e25, g26]; rfl
  have e27 : own_s27 c = 12 := by unfold own_s27; rw [e26, g27]; rfl
  have e28 : own_s28 c = 12 := by unfold own_s28; rw [e27, g28]; rfl
  have e29 : own_s29 c = 12 := by unfold own_s29; rw [e28, g29]; rfl
  unfold own_ref; rw [e29]; decide
theorem own_f13 (c : Int32) (h1 : 880 ≤ c.toInt) (h2 : c.toInt < 894) : f1_0_r c = 1 := by
  unfold f1_0_r; rw [if_neg (own_nlt 97 rfl (by omega)), if_pos (own_gt 122 rfl (by omega))]
  unfold f1_12_r; rw [if_neg (own_nlt 65 rfl (by omega)), if_pos (own_gt 90 rfl (by omega))]
  unfold f1_24_r; rw [if_neg (own_ne 95 rfl (by omega)), if_neg (own_nlt 192 rfl (by omega)), if_pos (own_gt 214 rfl (by omega))]
  unfold f1_44_r; rw [if_neg (own_nlt 216 rfl (by omega)), if_pos (own_gt 246 rfl (by omega))]
  unfold f1_58_r; rw [if_neg (own_nlt 248 rfl (by omega)), if_pos (own_gt 767 rfl (by omega))]
  unfold f1_72_r; rw [if_neg (own_nlt 880 rfl (by omega)), if_neg (own_ngt 893 rfl (by omega))]
  rfl
theorem own_r13 (c : Int32) (h1 : 880 ≤ c.toInt) (h2 : c.toInt < 894) : own_ref c = 1 := by
  have g0 : (f3_0_r c (65 : Int32)) = 1 := if_neg (own_nlt 65 rfl (by omega))
  have g1 : (f3_0_r c (91 : Int32)) = 1 := if_neg (own_nlt 91 rfl (by omega))
  have g2 : (f3_0_r c (95 : Int32)) = 1 := if_neg (own_nlt 95 rfl (by omega))
  have g3 : (f3_0_r c (96 : Int32)) = 1 := if_neg (own_nlt 96 rfl (by omega))
  have g4 : (f3_0_r c (97 : Int32)) = 1 := if_neg (own_nlt 97 rfl (by omega))
  have g5 : (f3_0_r c (123 : Int32)) = 1 := if_neg (own_nlt 123 rfl (by omega))
  have g6 : (f3_0_r c (192 : Int32)) = 1 := if_neg (own_nlt 192 rfl (by omega))
  have g7 : (f3_0_r c (215 : Int32)) = 1 := if_neg (own_nlt 215 rfl (by omega))
  have g8 : (f3_0_r c (216 : Int32)) = 1 := if_neg (own_nlt 216 rfl (by omega))
  have g9 : (f3_0_r c (247 : Int32)) = 1 := if_neg (own_nlt 247 rfl (by omega))
  have g10 : (f3_0_r c (248 : Int32)) = 1 := if_neg (own_nlt 248 rfl (by omega))
  have g11 : (f3_0_r c (768 : Int32)) = 1 := if_neg (own_nlt 768 rfl (by omega))
  have g12 : (f3_0_r c (880 : Int32)) = 1 := if_neg (own_nlt 880 rfl (by omega))
  have g13 : (f3_0_r c (894 : Int32)) = 0 := if_pos (own_lt 894 rfl (by omega))
  have g14 : (f3_0_r c (895 : Int32)) = 0 := if_pos (own_lt 895 rfl (by omega))
  have g15 : (f3_0_r c (8192 : Int32)) = 0 := if_pos (own_lt 8192 rfl (by omega))
  have g16 : (f3_0_r c (8204 : Int32)) = 0 := if_pos (own_lt 8204 rfl (by omega))
  have g17 : (f3_0_r c (8206 : Int32)) = 0 := if_pos (own_lt 8206 rfl (by omega))
  have g18 : (f3_0_r c (8304 : Int32)) = 0 := if_pos (own_lt 8304 rfl (by omega))
  have g19 : (f3_0_r c (8592 : Int32)) = 0 := if_pos (own_lt 8592 rfl (by omega))
  have g20 : (f3_0_r c (11264 : Int32)) = 0 := if_pos (own_lt 11264 rfl (by omega))
  have g21 : (f3_0_r c (12272 : Int32)) = 0 := if_pos (own_lt 12272 rfl (by omega))
  have g22 : (f3_0_r c (12289 : Int32)) = 0 := if_pos (own_lt 12289 rfl (by omega))
  have g23 : (f3_0_r c (55296 : Int32)) = 0 := if_pos (own_lt 55296 rfl (by omega))
  have g24 : (f3_0_r c (63744 : Int32)) = 0 := if_pos (own_lt 63744 rfl (by omega))
  have g25 : (f3_0_r c (64976 : Int32)) = 0 := if_pos (own_lt 64976 rfl (by omega))
  have g26 : (f3_0_r c (65008 : Int32)) = 0 := if_pos (own_lt 65008 rfl (by omega))
  have g27 : (f3_0_r c (65534 : Int32)) = 0 := if_pos (own_lt 65534 rfl (by omega))
  have g28 : (f3_0_r c (65536 : Int32)) = 0 := if_pos (own_lt 65536 rfl (by omega))
  have g29 : (f3_0_r c (983040 : Int32)) = 0 := if_pos (own_lt 983040 rfl (by omega))
  have e0 : own_s0 c = _ := g0
  have e1 : own_s1 c = 2 := by unfold own_s1; rw [e0, g1]; rfl
  have e2 : own_s2 c = 3 := by unfold own_s2; rw [e1, g2]; rfl
  have e3 : own_s3 c = 4 := by unfold own_s3; rw [e2, g3]; rfl
  have e4 : own_s4 c = 5 := by unfold own_s4; rw [e3, g4]; rfl
  have e5 : own_s5 c = 6 := by unfold own_s5; rw [e4, g5]; rfl
  have e6 : own_s6 c = 7 := by unfold own_s6; rw [e5, g6]; rfl
  have e7 : own_s7 c = 8 := by unfold own_s7; rw [e6, g7]; rfl
  have e8 : own_s8 c = 9 := by unfold own_s8; rw [e7, g8]; rfl
  have e9 : own_s9 c = 10 := by unfold own_s9; rw [e8, g9]; rfl
  have e10 : own_s10 c = 11 := by unfold own_s10; rw [e9, g10]; rfl
  have e11 : own_s11 c = 12 := by unfold own_s11; rw [e10, g11]; rfl
  have e12 : own_s12 c = 13 := by unfold own_s12; rw [e11, g12]; rfl
  have e13 : own_s13 c = 13 := by unfold own_s13; rw [e12, g13]; rfl
  have e14 : own_s14 c = 13 := by unfold own_s14; rw [e13, g14]; rfl
  have e15 : own_s15 c = 13 := by unfold own_s15; rw [e14, g15]; rfl
  have e16 : own_s16 c = 13 := by unfold own_s16; rw [e15, g16]; rfl
  have e17 : own_s17 c = 13 := by unfold own_s17; rw [e16, g17]; rfl
  have e18 : own_s18 c = 13 := by unfold own_s18; rw [e17, g18]; rfl
  have e19 : own_s19 c = 13 := by unfold own_s19; rw [e18, g19]; rfl
  have e20 : own_s20 c = 13 := by unfold own_s20; rw [e19, g20]; rfl
  have e21 : own_s21 c = 13 := by unfold own_s21; rw [e20, g21]; rfl
  have e22 : own_s22 c = 13 := by unfold own_s22; rw [e21, g22]; rfl
  have e23 : own_s23 c = 13 := by unfold own_s23; rw [e22, g23]; rfl
  have e24 : own_s24 c = 13 := by unfold own_s24; rw [e23, g24]; rfl
  have e25 : own_s25 c = 13 := by unfold own_s25; rw [e24, g25]; rfl
  have e26 : own_s26 c = 13 := by unfold own_s26; rw [e25, g26]; rfl
  have e27 : own_s27 c = 13 := by unfold own_s27; rw [e26, g27]; rfl
  have e28 : own_s28 c = 13 := by unfold own_s28; rw [e27, g28]; rfl
  have e29 : own_s29 c = 13 := by unfold own_s29; rw [e28, g29]; rfl
  unfold own_ref; rw [e29]; decide
theorem own_f14 (c : Int32) (h1 : 894 ≤ c.toInt) (h2 : c.toInt < 895) : f1_0_r c = 0 := by
  unfold f1_0_r; rw [if_neg (own_nlt 97 rfl (by omega)), if_pos (own_gt 122 rfl (by omega))]
  unfold f1_12_r; rw [if_neg (own_nlt 65 rfl (by omega)), if_pos (own_gt 90 rfl (by omega))]
  unfold f1_24_r; rw [if_neg (own_ne 95 rfl (by omega)), if_neg (own_nlt 192 rfl (by omega)), if_pos (own_gt 214 rfl (by omega))]
  unfold f1_44_r; rw [if_neg (own_nlt 216 rfl (by omega)), if_pos (own_gt 246 rfl (by omega))]
  unfold f1_58_r; rw [if_neg (own_nlt 248 rfl (by omega)), if_pos (own_gt 767 rfl (by omega))]
  unfold f1_72_r; rw [if_neg (own_nlt 880 rfl (by omega)), if_pos (own_gt 893 rfl (by omega))]
  unfold f1_86_r; rw [if_pos (own_lt 895 rfl (by omega))]
  unfold f1_100_r; rw [if_neg (own_ne 8204 rfl (by omega)), if_neg (own_ne 8205 rfl (by omega)), if_pos (own_lt 8304 rfl (by omega))]
  unfold f1_128_r; rw [if_pos (own_lt 11264 rfl (by omega))]
  unfold f1_142_r; rw [if_pos (own_lt 12289 rfl (by omega))]
  unfold f1_155_r; rw [if_pos (own_lt 63744 rfl (by omega))]
  unfold f1_167_r; rw [if_pos (own_lt 65008 rfl (by omega))]
  unfold f1_179_r; rw [if_pos (own_lt 65536 rfl (by omega))]
  rfl
theorem own_r14 (c : Int32) (h1 : 894 ≤ c.toInt) (h2 : c.toInt < 895) : own_ref c = 0 := by
  have g0 : (f3_0_r c (65 : Int32)) = 1 := if_neg (own_nlt 65 rfl (by omega))
  have g1 : (f3_0_r c (91 : Int32)) = 1 := if_neg (own_nlt 91 rfl (by omega))
  have g2 : (f3_0_r c (95 : Int32)) = 1 := if_neg (own_nlt 95 rfl (by omega))
  have g3 : (f3_0_r c (96 : Int32)) = 1 := if_neg (own_nlt 96 rfl (by omega))
  have g4 : (f3_0_r c (97 : Int32)) = 1 := if_neg (own_nlt 97 rfl (by omega))
  have g5 : (f3_0_r c (123 : Int32)) = 1 := if_neg (own_nlt 123 rfl (by omega))
  have g6 : (f3_0_r c (192 : Int32)) = 1 := if_neg (own_nlt 192 rfl (by omega))
  have g7 : (f3_0_r c (215 : Int32)) = 1 := if_neg (own_nlt 215 rfl (by omega))
  have g8 : (f3_0_r c (216 : Int32)) = 1 := if_neg (own_nlt 216 rfl (by omega))
  have g9 : (f3_0_r c (247 : Int32)) = 1 := if_neg (own_nlt 247 rfl (by omega))
  have g10 : (f3_0_r c (248 : Int32)) = 1 := if_neg (own_nlt 248 rfl (by omega))
  have g11 : (f3_0_r c (768 : Int32)) = 1 := if_neg (own_nlt 768 rfl (by omega))
  have g12 : (f3_0_r c (880 : Int32)) = 1 := if_neg (own_nlt 880 rfl (by omega))
  have g13 : (f3_0_r c (894 : Int32)) = 1 := if_neg (own_nlt 894 rfl (by omega))
  have g14 : (f3_0_r c (895 : Int32)) = 0 := if_pos (own_lt 895 rfl (by omega))
  have g15 : (f3_0_r c (8192 : Int32)) = 0 := if_pos (own_lt 8192 rfl (by omega))
  have g16 : (f3_0_r c (8204 : Int32)) = 0 := if_pos (own_lt 8204 rfl (by omega))
  have g17 : (f3_0_r c (8206 : Int32)) = 0 := if_pos (own_lt 8206 rfl (by omega))
  have g18 : (f3_0_r c (8304 : Int32)) = 0 := if_pos (own_lt 8304 rfl (by omega))
  have g19 : (f3_0_r c (8592 : Int32)) = 0 := if_pos (own_lt 8592 rfl (by omega))
  have g20 : (f3_0_r c (11264 : Int32)) = 0 := if_pos (own_lt 11264 rfl (by omega))
  have g21 : (f3_0_r c (12272 : Int32)) = 0 := if_pos (own_lt 12272 rfl (by omega))
  have g22 : (f3_0_r c (12289 : Int32)) = 0 := if_pos (own_lt 12289 rfl (by omega))
  have g23 : (f3_0_r c (55296 : Int32)) = 0 := if_pos (own_lt 55296 rfl (by omega))
  have g24 : (f3_0_r c (63744 : Int32)) = 0 := if_pos (own_lt 63744 rfl (by omega))
  have g25 : (f3_0_r c (64976 : Int32)) = 0 := if_pos (own_lt 64976 rfl (by omega))
  have g26 : (f3_0_r c (65008 : Int32)) = 0 := if_pos (own_lt 65008 rfl (by omega))
  have g27 : (f3_0_r c (65534 : Int32)) = 0 := if_pos (own_lt 65534 rfl (by omega))
  have g28 : (f3_0_r c (65536 : Int32)) = 0 := if_pos (own_lt 65536 rfl (by omega))
  have g29 : (f3_0_r c (983040 : Int32)) = 0 := if_pos (own_lt 983040 rfl (by omega))
  have e0 : own_s0 c = _ := g0
  have e1 : own_s1 c = 2 := by unfold own_s1; rw [e0, g1]; rfl
  have e2 : own_s2 c = 3 := by unfold own_s2; rw [e1, g2]; rfl
  have e3 : own_s3 c = 4 := by unfold own_s3; rw [e2, g3]; rfl
  have e4 : own_s4 c = 5 := by unfold own_s4; rw [e3, g4]; rfl
  have e5 : own_s5 c = 6 := by unfold own_s5; rw [e4, g5]; rfl
  have e6 : own_s6 c = 7 := by unfold own_s6; rw [e5, g6]; rfl
  have e7 : own_s7 c = 8 := by unfold own_s7; rw [e6, g7]; rfl
  have e8 : own_s8 c = 9 := by unfold own_s8; rw [e7, g8]; rfl
  have e9 : own_s9 c = 10 := by unfold own_s9; rw [e8, g9]; rfl
  have e10 : own_s10 c = 11 := by unfold own_s10; rw [e9, g10]; rfl
  have e11 : own_s11 c = 12 := by unfold own_s11; rw [e10, g11]; rfl
  have e12 : own_s12 c = 13 := by unfold own_s12; rw [e11, g12]; rfl
  have e13 : own_s13 c = 14 := by unfold own_s13; rw [e12, g13]; rfl
  have e14 : own_s14 c = 14 := by unfold own_s14; rw [e13, g14]; rfl
  have e15 : own_s15 c = 14 := by unfold own_s15; rw [e14, g15]; rfl
  have e16 : own_s16 c = 14 := by unfold own_s16; rw [e15, g16]; rfl
  have e17 : own_s17 c = 14 := by unfold own_s17; rw [e16, g17]; rfl
  have e18 : own_s18 c = 14 := by unfold own_s18; rw [e17, g18]; rfl
  have e19 : own_s19 c = 14 := by unfold own_s19; rw [e18, g19]; rfl
  have e20 : own_s20 c = 14 := by unfold own_s20; rw [e19, g20]; rfl
  have e21 : own_s21 c = 14 := by unfold own_s21; rw [e20, g21]; rfl
  have e22 : own_s22 c = 14 := by unfold own_s22; rw [e21, g22]; rfl
  have e23 : own_s23 c = 14 := by unfold own_s23; rw [e22, g23]; rfl
  have e24 : own_s24 c = 14 := by unfold own_s24; rw [e23, g24]; rfl
  have e25 : own_s25 c = 14 := by unfold own_s25; rw [e24, g25]; rfl
  have e26 : own_s26 c = 14 := by unfold own_s26; rw [e25, g26]; rfl
  have e27 : own_s27 c = 14 := by unfold own_s27; rw [e26, g27]; rfl
  have e28 : own_s28 c = 14 := by unfold own_s28; rw [e27, g28]; rfl
  have e29 : own_s29 c = 14 := by unfold own_s29; rw [e28, g29]; rfl
  unfold own_ref; rw [e29]; decide
theorem own_f15 (c : Int32) (h1 : 895 ≤ c.toInt) (h2 : c.toInt < 8192) : f1_0_r c = 1 := by
  unfold f1_0_r; rw [if_neg (own_nlt 97 rfl (by omega)), if_pos (own_gt 122 rfl (by omega))]
  unfold f1_12_r; rw [if_neg (own_nlt 65 rfl (by omega)), if_pos (own_gt 90 rfl (by omega))]
  unfold f1_24_r; rw [if_neg (own_ne 95 rfl (by omega)), if_neg (own_nlt 192 rfl (by omega)), if_pos (own_gt 214 rfl (by omega))]
  unfold f1_44_r; rw [if_neg (own_nlt 216 rfl (by omega)), if_pos (own_gt 246 rfl (by omega))]
  unfold f1_58_r; rw [if_neg (own_nlt 248 rfl (by omega)), if_pos (own_gt 767 rfl (by omega))]
  unfold f1_72_r; rw [if_neg (own_nlt 880 rfl (by omega)), if_pos (own_gt 893 rfl (by omega))]
  unfold f1_86_r; rw [if_neg (own_nlt 895 rfl (by omega)), if_neg (own_ngt 8191 rfl (by omega))]
  rfl
theorem own_r15 (c : Int32) (h1 : 895 ≤ c.toInt) (h2 : c.toInt < 8192) : own_ref c = 1 := by
  have g0 : (f3_0_r c (65 : Int32)) = 1 := if_neg (own_nlt 65 rfl (by omega))
  have g1 : (f3_0_r c (91 : Int32)) = 1 := if_neg (own_nlt 91 rfl (by omega))
  have g2 : (f3_0_r c (95 : Int32)) = 1 := if_neg (own_nlt 95 rfl (by omega))
  have g3 : (f3_0_r c (96 : Int32)) = 1 := if_neg (own_nlt 96 rfl (by omega))
  have g4 : (f3_0_r c (97 : Int32)) = 1 := if_neg (own_nlt 97 rfl (by omega))
  have g5 : (f3_0_r c (123 : Int32)) = 1 := if_neg (own_nlt 123 rfl (by omega))
  have g6 : (f3_0_r c (192 : Int32)) = 1 := if_neg (own_nlt 192 rfl (by omega))
  have g7 : (f3_0_r c (215 : Int32)) = 1 := if_neg (own_nlt 215 rfl (by omega))
  have g8 : (f3_0_r c (216 : Int32)) = 1 := if_neg (own_nlt 216 rfl (by omega))
  have g9 : (f3_0_r c (247 : Int32)) = 1 := if_neg (own_nlt 247 rfl (by omega))
  have g10 : (f3_0_r c (248 : Int32)) = 1 := if_neg (own_nlt 248 rfl (by omega))
  have g11 : (f3_0_r c (768 : Int32)) = 1 := if_neg (own_nlt 768 rfl (by omega))
  have g12 : (f3_0_r c (880 : Int32)) = 1 := if_neg (own_nlt 880 rfl (by omega))
  have g13 : (f3_0_r c (894 : Int32)) = 1 := if_neg (own_nlt 894 rfl (by omega))
  have g14 : (f3_0_r c (895 : Int32)) = 1 := if_neg (own_nlt 895 rfl (by omega))
  have g15 : (f3_0_r c (8192 : Int32)) = 0 := if_pos (own_lt 8192 rfl (by omega))
  have g16 : (f3_0_r c (8204 : Int32)) = 0 := if_pos (own_lt 8204 rfl (by omega))
  have g17 : (f3_0_r c (8206 : Int32)) = 0 := if_pos (own_lt 8206 rfl (by omega))
  have g18 : (f3_0_r c (8304 : Int32)) = 0 := if_pos (own_lt 8304 rfl (by omega))
  have g19 : (f3_0_r c (8592 : Int32)) = 0 := if_pos (own_lt 8592 rfl (by omega))
  have g20 : (f3_0_r c (11264 : Int32)) = 0 := if_pos (own_lt 11264 rfl (by omega))
  have g21 : (f3_0_r c (12272 : Int32)) = 0 := if_pos (own_lt 12272 rfl (by omega))
  have g22 : (f3_0_r c (12289 : Int32)) = 0 := if_pos (own_lt 12289 rfl (by omega))
  have g23 : (f3_0_r c (55296 : Int32)) = 0 := if_pos (own_lt 55296 rfl (by omega))
  have g24 : (f3_0_r c (63744 : Int32)) = 0 := if_pos (own_lt 63744 rfl (by omega))
  have g25 : (f3_0_r c (64976 : Int32)) = 0 := if_pos (own_lt 64976 rfl (by omega))
  have g26 : (f3_0_r c (65008 : Int32)) = 0 := if_pos (own_lt 65008 rfl (by omega))
  have g27 : (f3_0_r c (65534 : Int32)) = 0 := if_pos (own_lt 65534 rfl (by omega))
  have g28 : (f3_0_r c (65536 : Int32)) = 0 := if_pos (own_lt 65536 rfl (by omega))
  have g29 : (f3_0_r c (983040 : Int32)) = 0 := if_pos (own_lt 983040 rfl (by omega))
  have e0 : own_s0 c = _ := g0
  have e1 : own_s1 c = 2 := by unfold own_s1; rw [e0, g1]; rfl
  have e2 : own_s2 c = 3 := by unfold own_s2; rw [e1, g2]; rfl
  have e3 : own_s3 c = 4 := by unfold own_s3; rw [e2, g3]; rfl
  have e4 : own_s4 c = 5 := by unfold own_s4; rw [e3, g4]; rfl
  have e5 : own_s5 c = 6 := by unfold own_s5; rw [e4, g5]; rfl
  have e6 : own_s6 c = 7 := by unfold own_s6; rw [e5, g6]; rfl
  have e7 : own_s7 c = 8 := by unfold own_s7; rw [e6, g7]; rfl
  have e8 : own_s8 c = 9 := by unfold own_s8; rw [e7, g8]; rfl
  have e9 : own_s9 c = 10 := by unfold own_s9; rw [e8, g9]; rfl
  have e10 : own_s10 c = 11 := by unfold own_s10; rw [e9, g10]; rfl
  have e11 : own_s11 c = 12 := by unfold own_s11; rw [e10, g11]; rfl
  have e12 : own_s12 c = 13 := by unfold own_s12; rw [e11, g12]; rfl
  have e13 : own_s13 c = 14 := by unfold own_s13; rw [e12, g13]; rfl
  have e14 : own_s14 c = 15 := by unfold own_s14; rw [e13, g14]; rfl
  have e15 : own_s15 c = 15 := by unfold own_s15; rw [e14, g15]; rfl
  have e16 : own_s16 c = 15 := by unfold own_s16; rw [e15, g16]; rfl
  have e17 : own_s17 c = 15 := by unfold own_s17; rw [e16, g17]; rfl
  have e18 : own_s18 c = 15 := by unfold own_s18; rw [e17, g18]; rfl
  have e19 : own_s19 c = 15 := by unfold own_s19; rw [e18, g19]; rfl
  have e20 : own_s20 c = 15 := by unfold own_s20; rw [e19, g20]; rfl
  have e21 : own_s21 c = 15 := by unfold own_s21; rw [e20, g21]; rfl
  have e22 : own_s22 c = 15 := by unfold own_s22; rw [e21, g22]; rfl
  have e23 : own_s23 c = 15 := by unfold own_s23; rw [e22, g23]; rfl
  have e24 : own_s24 c = 15 := by unfold own_s24; rw [e23, g24]; rfl
  have e25 : own_s25 c = 15 := by unfold own_s25; rw [e24, g25]; rfl
  have e26 : own_s26 c = 15 := by unfold own_s26; rw [e25, g26]; rfl
  have e27 : own_s27 c = 15 := by unfold own_s27; rw [e26, g27]; rfl
  have e28 : own_s28 c = 15 := by unfold own_s28; rw [e27, g28]; rfl
  have e29 : own_s29 c = 15 := by unfold own_s29; rw [e28, g29]; rfl
  unfold own_ref; rw [e29]; decide
theorem own_f16 (c : Int32) (h1 : 8192 ≤ c.toInt) (h2 : c.toInt < 8204) : f1_0_r c = 0 := by
  unfold f1_0_r; rw [if_neg (own_nlt 97 rfl (by omega)), if_pos (own_gt 122 rfl (by omega))]
  unfold f1_12_r; rw [if_neg (own_nlt 65 rfl (by omega)), if_pos (own_gt 90 rfl (by omega))]
  unfold f1_24_r; rw [if_neg (own_ne 95 rfl (by omega)), if_neg (own_nlt 192 rfl (by omega)), if_pos (own_gt 214 rfl (by omega))]
  unfold f1_44_r; rw [if_neg (own_nlt 216 rfl (by omega)), if_pos (own_gt 246 rfl (by omega))]
  unfold f1_58_r; rw [if_neg (own_nlt 248 rfl (by omega)), if_pos (own_gt 767 rfl (by omega))]
  unfold f1_72_r; rw [if_neg (own_nlt 880 rfl (by omega)), if_pos (own_gt 893 rfl (by omega))]
  unfold f1_86_r; rw [if_neg (own_nlt 895 rfl (by omega)), if_pos (own_gt 8191 rfl (by omega))]
  unfold f1_100_r; rw [if_neg (own_ne 8204 rfl (by omega)), if_neg (own_ne 8205 rfl (by omega)), if_pos (own_lt 8304 rfl (by omega))]
  unfold f1_128_r; rw [if_pos (own_lt 11264 rfl (by omega))]
  unfold f1_142_r; rw [if_pos (own_lt 12289 rfl (by omega))]
  unfold f1_155_r; rw [if_pos (own_lt 63744 rfl (by omega))]
  unfold f1_167_r; rw [if_pos (own_lt 65008 rfl (by omega))]
  unfold f1_179_r; rw [if_pos (own_lt 65536 rfl (by omega))]
  rfl
theorem own_r16 (c : Int32) (h1 : 8192 ≤ c.toInt) (h2 : c.toInt < 8204) : own_ref c = 0 := by
  have g0 : (f3_0_r c (65 : Int32)) = 1 := if_neg (own_nlt 65 rfl (by omega))
  have g1 : (f3_0_r c (91 : Int32)) = 1 := if_neg (own_nlt 91 rfl (by omega))
  have g2 : (f3_0_r c (95 : Int32)) = 1 := if_neg (own_nlt 95 rfl (by omega))
  have g3 : (f3_0_r c (96 : Int32)) = 1 := if_neg (own_nlt 96 rfl (by omega))
  have g4 : (f3_0_r c (97 : Int32)) = 1 := if_neg (own_nlt 97 rfl (by omega))
  have g5 : (f3_0_r c (123 : Int32)) = 1 := if_neg (own_nlt 123 rfl (by omega))
  have g6 : (f3_0_r c (192 : Int32)) = 1 := if_neg (own_nlt 192 rfl (by omega))
  have g7 : (f3_0_r c (215 : Int32)) = 1 := if_neg (own_nlt 215 rfl (by omega))
  have g8 : (f3_0_r c (216 : Int32)) = 1 := if_neg (own_nlt 216 rfl (by omega))
  have g9 : (f3_0_r c (247 : Int32)) = 1 := if_neg (own_nlt 247 rfl (by omega))
  have g10 : (f3_0_r c (248 : Int32)) = 1 := if_neg (own_nlt 248 rfl (by omega))
  have g11 : (f3_0_r c (768 : Int32)) = 1 := if_neg (own_nlt 768 rfl (by omega))
  have g12 : (f3_0_r c (880 : Int32)) = 1 := if_neg (own_nlt 880 rfl (by omega))
  have g13 : (f3_0_r c (894 : Int32)) = 1 := if_neg (own_nlt 894 rfl (by omega))
  have g14 : (f3_0_r c (895 : Int32)) = 1 := if_neg (own_nlt 895 rfl (by omega))
  have g15 : (f3_0_r c (8192 : Int32)) = 1 := if_neg (own_nlt 8192 rfl (by omega))
  have g16 : (f3_0_r c (8204 : Int32)) = 0 := if_pos (own_lt 8204 rfl (by omega))
  have g17 : (f3_0_r c (8206 : Int32)) = 0 := if_pos (own_lt 8206 rfl (by omega))
  have g18 : (f3_0_r c (8304 : Int32)) = 0 := if_pos (own_lt 8304 rfl (by omega))
  have g19 : (f3_0_r c (8592 : Int32)) = 0 := if_pos (own_lt 8592 rfl (by omega))
  have g20 : (f3_0_r c (11264 : Int32)) = 0 := if_pos (own_lt 11264 rfl (by omega))
  have g21 : (f3_0_r c (12272 : Int32)) = 0 := if_pos (own_lt 12272 rfl (by omega))
  have g22 : (f3_0_r c (12289 : Int32)) = 0 := if_pos (own_lt 12289 rfl (by omega))
  have g23 : (f3_0_r c (55296 : Int32)) = 0 := if_pos (own_lt 55296 rfl (by omega))
  have g24 : (f3_0_r c (63744 : Int32)) = 0 := if_pos (own_lt 63744 rfl (by omega))
  have g25 : (f3_0_r c (64976 : Int32)) = 0 := if_pos (own_lt 64976 rfl (by omega))
  have g26 : (f3_0_r c (65008 : Int32)) = 0 := if_pos (own_lt 65008 rfl (by omega))
  have g27 : (f3_0_r c (65534 : Int32)) = 0 := if_pos (own_lt 65534 rfl (by omega))
  have g28 : (f3_0_r c (65536 : Int32)) = 0 := if_pos (own_lt 65536 rfl (by omega))
  have g29 : (f3_0_r c (983040 : Int32)) = 0 := if_pos (own_lt 983040 rfl (by omega))
  have e0 : own_s0 c = _ := g0
  have e1 : own_s1 c = 2 := by unfold own_s1; rw [e0, g1]; rfl
  have e2 : own_s2 c = 3 := by unfold own_s2; rw [e1, g2]; rfl
  have e3 : own_s3 c = 4 := by unfold own_s3; rw [e2, g3]; rfl
  have e4 : own_s4 c = 5 := by unfold own_s4; rw [e3, g4]; rfl
  have e5 : own_s5 c = 6 := by unfold own_s5; rw [e4, g5]; rfl
  have e6 : own_s6 c = 7 := by unfold own_s6; rw [e5, g6]; rfl
  have e7 : own_s7 c = 8 := by unfold own_s7; rw [e6, g7]; rfl
  have e8 : own_s8 c = 9 := by unfold own_s8; rw [e7, g8]; rfl
  have e9 : own_s9 c = 10 := by unfold own_s9; rw [e8, g9]; rfl
  have e10 : own_s10 c = 11 := by unfold own_s10; rw [e9, g10]; rfl
  have e11 : own_s11 c = 12 := by unfold own_s11; rw [e10, g11]; rfl
  have e12 : own_s12 c = 13 := by unfold own_s12; rw [e11, g12]; rfl
  have e13 : own_s13 c = 14 := by unfold own_s13; rw [e12, g13]; rfl
  have e14 : own_s14 c = 15 := by unfold own_s14; rw [e13, g14]; rfl
  have e15 : own_s15 c = 16 := by unfold own_s15; rw [e14, g15]; rfl
  have e16 : own_s16 c = 16 := by unfold own_s16; rw [e15, g16]; rfl
  have e17 : own_s17 c = 16 := by unfold own_s17; rw [e16, g17]; rfl
  have e18 : own_s18 c = 16 := by unfold own_s18; rw [e17, g18]; rfl
  have e19 : own_s19 c = 16 := by unfold own_s19; rw [e18, g19]; rfl
  have e20 : own_s20 c = 16 := by unfold own_s20; rw [e19, g20]; rfl
  have e21 : own_s21 c = 16 := by unfold own_s21; rw [e20, g21]; rfl
  have e22 : own_s22 c = 16 := by unfold own_s22; rw [e21, g22]; rfl
  have e23 : own_s23 c = 16 := by unfold own_s23; rw [e22, g23]; rfl
  have e24 : own_s24 c = 16 := by unfold own_s24; rw [e23, g24]; rfl
  have e25 : own_s25 c = 16 := by unfold own_s25; rw [e24, g25]; rfl
  have e26 : own_s26 c = 16 := by unfold own_s26; rw [e25, g26]; rfl
  have e27 : own_s27 c = 16 := by unfold own_s27; rw [e26, g27]; rfl
  have e28 : own_s28 c = 16 := by unfold own_s28; rw [e27, g28]; rfl
  have e29 : own_s29 c = 16 := by unfold own_s29; rw [e28, g29]; rfl
  unfold own_ref; rw [e29]; decide
theorem own_f17 (c : Int32) (h1 : 8204 ≤ c.toInt) (h2 : c.toInt < 8205) : f1_0_r c = 1 := by
  unfold f1_0_r; rw [if_neg (own_nlt 97 rfl (by omega)), if_pos (own_gt 122 rfl (by omega))]
  unfold f1_12_r; rw [if_neg (own_nlt 65 rfl (by omega)), if_pos (own_gt 90 rfl (by omega))]
  unfold f1_24_r; rw [if_neg (own_ne 95 rfl (by omega)), if_neg (own_nlt 192 rfl (by omega)), if_pos (own_gt 214 rfl (by omega))]
  unfold f1_44_r; rw [if_neg (own_nlt 216 rfl (by omega)), if_pos (own_gt 246 rfl (by omega))]
  unfold f1_58_r; rw [if_neg (own_nlt 248 rfl (by omega)), if_pos (own_gt 767 rfl (by omega))]
  unfold f1_72_r; rw [if_neg (own_nlt 880 rfl (by omega)), if_pos (own_gt 893 rfl (by omega))]
  unfold f1_86_r; rw [if_neg (own_nlt 895 rfl (by omega)), if_pos (own_gt 8191 rfl (by omega))]
  unfold f1_100_r; rw [if_pos (Int32.toInt_inj.mp (show c.toInt = (8204 : Int32).toInt from by show c.toInt = 8204; omega))]
  rfl
theorem own_r17 (c : Int32) (h1 : 8204 ≤ c.toInt) (h2 : c.toInt < 8205) : own_ref c = 1 := by
  have g0 : (f3_0_r c (65 : Int32)) = 1 := if_neg (own_nlt 65 rfl (by omega))
  have g1 : (f3_0_r c (91 : Int32)) = 1 := if_neg (own_nlt 91 rfl (by omega))
  have g2 : (f3_0_r c (95 : Int32)) = 1 := if_neg (own_nlt 95 rfl (by omega))
  have g3 : (f3_0_r c (96 : Int32)) = 1 := if_neg (own_nlt 96 rfl (by omega))
  have g4 : (f3_0_r c (97 : Int32)) = 1 := if_neg (own_nlt 97 rfl (by omega))
  have g5 : (f3_0_r c (123 : Int32)) = 1 := if_neg (own_nlt 123 rfl (by omega))
  have g6 : (f3_0_r c (192 : Int32)) = 1 := if_neg (own_nlt 192 rfl (by omega))
  have g7 : (f3_0_r c (215 : Int32)) = 1 := if_neg (own_nlt 215 rfl (by omega))
  have g8 : (f3_0_r c (216 : Int32)) = 1 := if_neg (own_nlt 216 rfl (by omega))
  have g9 : (f3_0_r c (247 : Int32)) = 1 := if_neg (own_nlt 247 rfl (by omega))
  have g10 : (f3_0_r c (248 : Int32)) = 1 := if_neg (own_nlt 248 rfl (by omega))
  have g11 : (f3_0_r c (768 : Int32)) = 1 := if_neg (own_nlt 768 rfl (by omega))
  have g12 : (f3_0_r c (880 : Int32)) = 1 := if_neg (own_nlt 880 rfl (by omega))
  have g13 : (f3_0_r c (894 : Int32)) = 1 := if_neg (own_nlt 894 rfl (by omega))
  have g14 : (f3_0_r c (895 : Int32)) = 1 := if_neg (own_nlt 895 rfl (by omega))
  have g15 : (f3_0_r c (8192 : Int32)) = 1 := if_neg (own_nlt 8192 rfl (by omega))
  have g16 : (f3_0_r c (8204 : Int32)) = 1 := if_neg (own_nlt 8204 rfl (by omega))
  have g17 : (f3_0_r c (8206 : Int32)) = 0 := if_pos (own_lt 8206 rfl (by omega))
  have g18 : (f3_0_r c (8304 : Int32)) = 0 := if_pos (own_lt 8304 rfl (by omega))
  have g19 : (f3_0_r c (8592 : Int32)) = 0 := if_pos (own_lt 8592 rfl (by omega))
  have g20 : (f3_0_r c (11264 : Int32)) = 0 := if_pos (own_lt 11264 rfl (by omega))
  have g21 : (f3_0_r c (12272 : Int32)) = 0 := if_pos (own_lt 12272 rfl (by omega))
  have g22 : (f3_0_r c (12289 : Int32)) = 0 := if_pos (own_lt 12289 rfl (by omega))
  have g23 : (f3_0_r c (55296 : Int32)) = 0 := if_pos (own_lt 55296 rfl (by omega))
  have g24 : (f3_0_r c (63744 : Int32)) = 0 := if_pos (own_lt 63744 rfl (by omega))
  have g25 : (f3_0_r c (64976 : Int32)) = 0 := if_pos (own_lt 64976 rfl (by omega))
  have g26 : (f3_0_r c (65008 : Int32)) = 0 := if_pos (own_lt 65008 rfl (by omega))
  have g27 : (f3_0_r c (65534 : Int32)) = 0 := if_pos (own_lt 65534 rfl (by omega))
  have g28 : (f3_0_r c (65536 : Int32)) = 0 := if_pos (own_lt 65536 rfl (by omega))
  have g29 : (f3_0_r c (983040 : Int32)) = 0 := if_pos (own_lt 983040 rfl (by omega))
  have e0 : own_s0 c = _ := g0
  have e1 : own_s1 c = 2 := by unfold own_s1; rw [e0, g1]; rfl
  have e2 : own_s2 c = 3 := by unfold own_s2; rw [e1, g2]; rfl
  have e3 : own_s3 c = 4 := by unfold own_s3; rw [e2, g3]; rfl
  have e4 : own_s4 c = 5 := by unfold own_s4; rw [e3, g4]; rfl
  have e5 : own_s5 c = 6 := by unfold own_s5; rw [e4, g5]; rfl
  have e6 : own_s6 c = 7 := by unfold own_s6; rw [e5, g6]; rfl
  have e7 : own_s7 c = 8 := by unfold own_s7; rw [e6, g7]; rfl
  have e8 : own_s8 c = 9 := by unfold own_s8; rw [e7, g8]; rfl
  have e9 : own_s9 c = 10 := by unfold own_s9; rw [e8, g9]; rfl
  have e10 : own_s10 c = 11 := by unfold own_s10; rw [e9, g10]; rfl
  have e11 : own_s11 c = 12 := by unfold own_s11; rw [e10, g11]; rfl
  have e12 : own_s12 c = 13 := by unfold own_s12; rw [e11, g12]; rfl
  have e13 : own_s13 c = 14 := by unfold own_s13; rw [e12, g13]; rfl
  have e14 : own_s14 c = 15 := by unfold own_s14; rw [e13, g14]; rfl
  have e15 : own_s15 c = 16 := by unfold own_s15; rw [e14, g15]; rfl
  have e16 : own_s16 c = 17 := by unfold own_s16; rw [e15, g16]; rfl
  have e17 : own_s17 c = 17 := by unfold own_s17; rw [e16, g17]; rfl
  have e18 : own_s18 c = 17 := by unfold own_s18; rw [e17, g18]; rfl
  have e19 : own_s19 c = 17 := by unfold own_s19; rw [e18, g19]; rfl
  have e20 : own_s20 c = 17 := by unfold own_s20; rw [e19, g20]; rfl
  have e21 : own_s21 c = 17 := by unfold own_s21; rw [e20, g21]; rfl
  have e22 : own_s22 c = 17 := by unfold own_s22; rw [e21, g22]; rfl
  have e23 : own_s23 c = 17 := by unfold own_s23; rw [e22, g23]; rfl
  have e24 : own_s24 c = 17 := by unfold own_s24; rw [e23, g24]; rfl
  have e25 : own_s25 c = 17 := by unfold own_s25; rw [e24, g25]; rfl
  have e26 : own_s26 c = 17 := by unfold own_s26; rw [e25, g26]; rfl
  have e27 : own_s27 c = 17 := by unfold own_s27; rw [e26, g27]; rfl
  have e28 : own_s28 c = 17 := by unfold own_s28; rw [e27, g28]; rfl
  have e29 : own_s29 c = 17 := by unfold own_s29; rw [e28, g29]; rfl
  unfold own_ref; rw [e29]; decide
theorem own_f18 (c : Int32) (h1 : 8205 ≤ c.toInt) (h2 : c.toInt < 8206) : f1_0_r c = 1 := by
  unfold f1_0_r; rw [if_neg (own_nlt 97 rfl (by omega)), if_pos (own_gt 122 rfl (by omega))]
  unfold f1_12_r; rw [if_neg (own_nlt 65 rfl (by omega)), if_pos (own_gt 90 rfl (by omega))]
  unfold f1_24_r; rw [if_neg (own_ne 95 rfl (by omega)), if_neg (own_nlt 192 rfl (by omega)), if_pos (own_gt 214 rfl (by omega))]
  unfold f1_44_r; rw [if_neg (own_nlt 216 rfl (by omega)), if_pos (own_gt 246 rfl (by omega))]
  unfold f1_58_r; rw [if_neg (own_nlt 248 rfl (by omega)), if_pos (own_gt 767 rfl (by omega))]
  unfold f1_72_r; rw [if_neg (own_nlt 880 rfl (by omega)), if_pos (own_gt 893 rfl (by omega))]
  unfold f1_86_r; rw [if_neg (own_nlt 895 rfl (by omega)), if_pos (own_gt 8191 rfl (by omega))]
  unfold f1_100_r; rw [if_neg (own_ne 8204 rfl (by omega)), if_pos (Int32.toInt_inj.mp (show c.toInt = (8205 : Int32).toInt from by show c.toInt = 8205; omega))]
  rfl
theorem own_r18 (c : Int32) (h1 : 8205 ≤ c.toInt) (h2 : c.toInt < 8206) : own_ref c = 1 := by
  have g0 : (f3_0_r c (65 : Int32)) = 1 := if_neg (own_nlt 65 rfl (by omega))
  have g1 : (f3_0_r c (91 : Int32)) = 1 := if_neg (own_nlt 91 rfl (by omega))
  have g2 : (f3_0_r c (95 : Int32)) = 1 := if_neg (own_nlt 95 rfl (by omega))
  have g3 : (f3_0_r c (96 : Int32)) = 1 := if_neg (own_nlt 96 rfl (by omega))
  have g4 : (f3_0_r c (97 : Int32)) = 1 := if_neg (own_nlt 97 rfl (by omega))
  have g5 : (f3_0_r c (123 : Int32)) = 1 := if_neg (own_nlt 123 rfl (by omega))
  have g6 : (f3_0_r c (192 : Int32)) = 1 := if_neg (own_nlt 192 rfl (by omega))
  have g7 : (f3_0_r c (215 : Int32)) = 1 := if_neg (own_nlt 215 rfl (by omega))
  have g8 : (f3_0_r c (216 : Int32)) = 1 := if_neg (own_nlt 216 rfl (by omega))
  have g9 : (f3_0_r c (247 : Int32)) = 1 := if_neg (own_nlt 247 rfl (by omega))
  have g10 : (f3_0_r c (248 : Int32)) = 1 := if_neg (own_nlt 248 rfl (by omega))
  have g11 : (f3_0_r c (768 : Int32)) = 1 := if_neg (own_nlt 768 rfl (by omega))
  have g12 : (f3_0_r c (880 : Int32)) = 1 := if_neg (own_nlt 880 rfl (by omega))
  have g13 : (f3_0_r c (894 : Int32)) = 1 := if_neg (own_nlt 894 rfl (by omega))
  have g14 : (f3_0_r c (895 : Int32)) = 1 := if_neg (own_nlt 895 rfl (by omega))
  have g15 : (f3_0_r c (8192 : Int32)) = 1 := if_neg (own_nlt 8192 rfl (by omega))
  have g16 : (f3_0_r c (8204 : Int32)) = 1 := if_neg (own_nlt 8204 rfl (by omega))
  have g17 : (f3_0_r c (8206 : Int32)) = 0 := if_pos (own_lt 8206 rfl (by omega))
  have g18 : (f3_0_r c (8304 : Int32)) = 0 := if_pos (own_lt 8304 rfl (by omega))
  have g19 : (f3_0_r c (8592 : Int32)) = 0 := if_pos (own_lt 8592 rfl (by omega))
  have g20 : (f3_0_r c (11264 : Int32)) = 0 := if_pos (own_lt 11264 rfl (by omega))
  have g21 : (f3_0_r c (12272 : Int32)) = 0 := if_pos (own_lt 12272 rfl (by omega))
  have g22 : (f3_0_r c (12289 : Int32)) = 0 := if_pos (own_lt 12289 rfl (by omega))
  have g23 : (f3_0_r c (55296 : Int32)) = 0 := if_pos (own_lt 55296 rfl (by omega))
  have g24 : (f3_0_r c (63744 : Int32)) = 0 := if_pos (own_lt 63744 rfl (by omega))
  have g25 : (f3_0_r c (64976 : Int32)) = 0 := if_pos (own_lt 64976 rfl (by omega))
  have g26 : (f3_0_r c (65008 : Int32)) = 0 := if_pos (own_lt 65008 rfl (by omega))
  have g27 : (f3_0_r c (65534 : Int32)) = 0 := if_pos (own_lt 65534 rfl (by omega))
  have g28 : (f3_0_r c (65536 : Int32)) = 0 := if_pos (own_lt 65536 rfl (by omega))
  have g29 : (f3_0_r c (983040 : Int32)) = 0 := if_pos (own_lt 983040 rfl (by omega))
  have e0 : own_s0 c = _ := g0
  have e1 : own_s1 c = 2 := by unfold own_s1; rw [e0, g1]; rfl
  have e2 : own_s2 c = 3 := by unfold own_s2; rw [e1, g2]; rfl
  have e3 : own_s3 c = 4 := by unfold own_s3; rw [e2, g3]; rfl
  have e4 : own_s4 c = 5 := by unfold own_s4; rw [e3, g4]; rfl
  have e5 : own_s5 c = 6 := by unfold own_s5; rw [e4, g5]; rfl
  have e6 : own_s6 c = 7 := by unfold own_s6; rw [e5, g6]; rfl
  have e7 : own_s7 c = 8 := by unfold own_s7; rw [e6, g7]; rfl
  have e8 : own_s8 c = 9 := by unfold own_s8; rw [e7, g8]; rfl
  have e9 : own_s9 c = 10 := by unfold own_s9; rw [e8, g9]; rfl
  have e10 : own_s10 c = 11 := by unfold own_s10; rw [e9, g10]; rfl
  have e11 : own_s11 c = 12 := by unfold own_s11; rw [e10, g11]; rfl
  have e12 : own_s12 c = 13 := by unfold own_s12; rw [e11, g12]; rfl
  have e13 : own_s13 c = 14 := by unfold own_s13; rw [e12, g13]; rfl
  have e14 : own_s14 c = 15 := by unfold own_s14; rw [e13, g14]; rfl
  have e15 : own_s15 c = 16 := by unfold own_s15; rw [e14, g15]; rfl
  have e16 : own_s16 c = 17 := by unfold own_s16; rw [e15, g16]; rfl
  have e17 : own_s17 c = 17 := by unfold own_s17; rw [e16, g17]; rfl
  have e18 : own_s18 c = 17 := by unfold own_s18; rw [e17, g18]; rfl
  have e19 : own_s19 c = 17 := by unfold own_s19; rw [e18, g19]; rfl
  have e20 : own_s20 c = 17 := by unfold own_s20; rw [e19, g20]; rfl
  have e21 : own_s21 c = 17 := by unfold own_s21; rw [e20, g21]; rfl
  have e22 : own_s22 c = 17 := by unfold own_s22; rw [e21, g22]; rfl
  have e23 : own_s23 c = 17 := by unfold own_s23; rw [e22, g23]; rfl
  have e24 : own_s24 c = 17 := by unfold own_s24; rw [e23, g24]; rfl
  have e25 : own_s25 c = 17 := by unfold own_s25; rw [e24, g25]; rfl
  have e26 : own_s26 c = 17 := by unfold own_s26; rw [e25, g26]; rfl
  have e27 : own_s27 c = 17 := by unfold own_s27; rw [e26, g27]; rfl
  have e28 : own_s28 c = 17 := by unfold own_s28; rw [e27, g28]; rfl
  have e29 : own_s29 c = 17 := by unfold own_s29; rw [e28, g29]; rfl
  unfold own_ref; rw [e29]; decide
theorem own_f19 (c : Int32) (h1 : 8206 ≤ c.toInt) (h2 : c.toInt < 8304) : f1_0_r c = 0 := by
  unfold f1_0_r; rw [if_neg (own_nlt 97 rfl (by omega)), if_pos (own_gt 122 rfl (by omega))]
  unfold f1_12_r; rw [if_neg (own_nlt 65 rfl (by omega)), if_pos (own_gt 90 rfl (by omega))]
  unfold f1_24_r; rw [if_neg (own_ne 95 rfl (by omega)), if_neg (own_nlt 192 rfl (by omega)), if_pos (own_gt 214 rfl (by omega))]
  unfold f1_44_r; rw [if_neg (own_nlt 216 rfl (by omega)), if_pos (own_gt 246 rfl (by omega))]
  unfold f1_58_r; rw [if_neg (own_nlt 248 rfl (by omega)), if_pos (own_gt 767 rfl (by omega))]
  unfold f1_72_r; rw [if_neg (own_nlt 880 rfl (by omega)), if_pos (own_gt 893 rfl (by omega))]
  unfold f1_86_r; rw [if_neg (own_nlt 895 rfl (by omega)), if_pos (own_gt 8191 rfl (by omega))]
  unfold f1_100_r; rw [if_neg (own_ne 8204 rfl (by omega)), if_neg (own_ne 8205 rfl (by omega)), if_pos (own_lt 8304 rfl (by omega))]
  unfold f1_128_r; rw [if_pos (own_lt 11264 rfl (by omega))]
  unfold f1_142_r; rw [if_pos (own_lt 12289 rfl (by omega))]
  unfold f1_155_r; rw [if_pos (own_lt 63744 rfl (by omega))]
  unfold f1_167_r; rw [if_pos (own_lt 65008 rfl (by omega))]
  unfold f1_179_r; rw [if_pos (own_lt 65536 rfl (by omega))]
  rfl
theorem own_r19 (c : Int32) (h1 : 8206 ≤ c.toInt) (h2 : c.toInt < 8304) : own_ref c = 0 := by
  have g0 : (f3_0_r c (65 : Int32)) = 1 := if_neg (own_nlt 65 rfl (by omega))
  have g1 : (f3_0_r c (91 : Int32)) = 1 := if_neg (own_nlt 91 rfl (by omega))
  have g2 : (f3_0_r c (95 : Int32)) = 1 := if_neg (own_nlt 95 rfl (by omega))
  have g3 : (f3_0_r c (96 : Int32)) = 1 := if_neg (own_nlt 96 rfl (by omega))
  have g4 : (f3_0_r c (97 : Int32)) = 1 := if_neg (own_nlt 97 rfl (by omega))
  have g5 : (f3_0_r c (123 : Int32)) = 1 := if_neg (own_nlt 123 rfl (by omega))
  have g6 : (f3_0_r c (192 : Int32)) = 1 := if_neg (own_nlt 192 rfl (by omega))
  have g7 : (f3_0_r c (215 : Int32)) = 1 := if_neg (own_nlt 215 rfl (by omega))
  have g8 : (f3_0_r c (216 : Int32)) = 1 := if_neg (own_nlt 216 rfl (by omega))
  have g9 : (f3_0_r c (247 : Int32)) = 1 := if_neg (own_nlt 247 rfl (by omega))
  have g10 : (f3_0_r c (248 : Int32)) = 1 := if_neg (own_nlt 248 rfl (by omega))
  have g11 : (f3_0_r c (768 : Int32)) = 1 := if_neg (own_nlt 768 rfl (by omega))
  have g12 : (f3_0_r c (880 : Int32)) = 1 := if_neg (own_nlt 880 rfl (by omega))
  have g13 : (f3_0_r c (894 : Int32)) = 1 := if_neg (own_nlt 894 rfl (by omega))
  have g14 : (f3_0_r c (895 : Int32)) = 1 := if_neg (own_nlt 895 rfl (by omega))
  have g15 : (f3_0_r c (8192 : Int32)) = 1 := if_neg (own_nlt 8192 rfl (by omega))
  have g16 : (f3_0_r c (8204 : Int32)) = 1 := if_neg (own_nlt 8204 rfl (by omega))
  have g17 : (f3_0_r c (8206 : Int32)) = 1 := if_neg (own_nlt 8206 rfl (by omega))
  have g18 : (f3_0_r c (8304 : Int32)) = 0 := if_pos (own_lt 8304 rfl (by omega))
  have g19 : (f3_0_r c (8592 : Int32)) = 0 := if_pos (own_lt 8592 rfl (by omega))
  have g20 : (f3_0_r c (11264 : Int32)) = 0 := if_pos (own_lt 11264 rfl (by omega))
  have g21 : (f3_0_r c (12272 : Int32)) = 0 := if_pos (own_lt 12272 rfl (by omega))
  have g22 : (f3_0_r c (12289 : Int32)) = 0 := if_pos (own_lt 12289 rfl (by omega))
  have g23 : (f3_0_r c (55296 : Int32)) = 0 := if_pos (own_lt 55296 rfl (by omega))
  have g24 : (f3_0_r c (63744 : Int32)) = 0 := if_pos (own_lt 63744 rfl (by omega))
  have g25 : (f3_0_r c (64976 : Int32)) = 0 := if_pos (own_lt 64976 rfl (by omega))
  have g26 : (f3_0_r c (65008 : Int32)) = 0 := if_pos (own_lt 65008 rfl (by omega))
  have g27 : (f3_0_r c (65534 : Int32)) = 0 := if_pos (own_lt 65534 rfl (by omega))
  have g28 : (f3_0_r c (65536 : Int32)) = 0 := if_pos (own_lt 65536 rfl (by omega))
  have g29 : (f3_0_r c (983040 : Int32)) = 0 := if_pos (own_lt 983040 rfl (by omega))
  have e0 : own_s0 c = _ := g0
  have e1 : own_s1 c = 2 := by unfold own_s1; rw [e0, g1]; rfl
  have e2 : own_s2 c = 3 := by unfold own_s2; rw [e1, g2]; rfl
  have e3 : own_s3 c = 4 := by unfold own_s3; rw [e2, g3]; rfl
  have e4 : own_s4 c = 5 := by unfold own_s4; rw [e3, g4]; rfl
  have e5 : own_s5 c = 6 := by unfold own_s5; rw [e4, g5]; rfl
  have e6 : own_s6 c = 7 := by unfold own_s6; rw [e5, g6]; rfl
  have e7 : own_s7 c = 8 := by unfold own_s7; rw [e6, g7]; rfl
  have e8 : own_s8 c = 9 := by unfold own_s8; rw [e7, g8]; rfl
  have e9 : own_s9 c = 10 := by unfold own_s9; rw [e8, g9]; rfl
  have e10 : own_s10 c = 11 := by unfold own_s10; rw [e9, g10]; rfl
  have e11 : own_s11 c = 12 := by unfold own_s11; rw [e10, g11]; rfl
  have e12 : own_s12 c = 13 := by unfold own_s12; rw [e11, g12]; rfl
  have e13 : own_s13 c = 14 := by unfold own_s13; rw [e12, g13]; rfl
  have e14 : own_s14 c = 15 := by unfold own_s14; rw [e13, g14]; rfl
  have e15 : own_s15 c = 16 := by unfold own_s15; rw [e14, g15]; rfl
  have e16 : own_s16 c = 17 := by unfold own_s16; rw [e15, g16]; rfl
  have e17 : own_s17 c = 18 := by unfold own_s17; rw [e16, g17]; rfl
  have e18 : own_s18 c = 18 := by unfold own_s18; rw [e17, g18]; rfl
  have e19 : own_s19 c = 18 := by unfold own_s19; rw [e18, g19]; rfl
  have e20 : own_s20 c = 18 := by unfold own_s20; rw [e19, g20]; rfl
  have e21 : own_s21 c = 18 := by unfold own_s21; rw [e20, g21]; rfl
  have e22 : own_s22 c = 18 := by unfold own_s22; rw [e21, g22]; rfl
  have e23 : own_s23 c = 18 := by unfold own_s23; rw [e22, g23]; rfl
  have e24 : own_s24 c = 18 := by unfold own_s24; rw [e23, g24]; rfl
  have e25 : own_s25 c = 18 := by unfold own_s25; rw [e24, g25]; rfl
  have e26 : own_s26 c = 18 := by unfold own_s26; rw [e25, g26]; rfl
  have e27 : own_s27 c = 18 := by unfold own_s27; rw [e26, g27]; rfl
  have e28 : own_s28 c = 18 := by unfold own_s28; rw [e27, g28]; rfl
  have e29 : own_s29 c = 18 := by unfold own_s29; rw [e28, g29]; rfl
  unfold own_ref; rw [e29]; decide
theorem own_f20 (c : Int32) (h1 : 8304 ≤ c.toInt) (h2 : c.toInt < 8592) : f1_0_r c = 1 := by
  unfold f1_0_r; rw [if_neg (own_nlt 97 rfl (by omega)), if_pos (own_gt 122 rfl (by omega))]
  unfold f1_12_r; rw [if_neg (own_nlt 65 rfl (by omega)), if_pos (own_gt 90 rfl (by omega))]
  unfold f1_24_r; rw [if_neg (own_ne 95 rfl (by omega)), if_neg (own_nlt 192 rfl (by omega)), if_pos (own_gt 214 rfl (by omega))]
  unfold f1_44_r; rw [if_neg (own_nlt 216 rfl (by omega)), if_pos (own_gt 246 rfl (by omega))]
  unfold f1_58_r; rw [if_neg (own_nlt 248 rfl (by omega)), if_pos (own_gt 767 rfl (by omega))]
  unfold f1_72_r; rw [if_neg (own_nlt 880 rfl (by omega)), if_pos (own_gt 893 rfl (by omega))]
  unfold f1_86_r; rw [if_neg (own_nlt 895 rfl (by omega)), if_pos (own_gt 8191 rfl (by omega))]
  unfold f1_100_r; rw [if_neg (own_ne 8204 rfl (by omega)), if_neg (own_ne 8205 rfl (by omega)), if_neg (own_nlt 8304 rfl (by omega)), if_neg (own_ngt 8591 rfl (by omega))]
  rfl
theorem own_r20 (c : Int32) (h1 : 8304 ≤ c.toInt) (h2 : c.toInt < 8592) : own_ref c = 1 := by
  have g0 : (f3_0_r c (65 : Int32)) = 1 := if_neg (own_nlt 65 rfl (by omega))
  have g1 : (f3_0_r c (91 : Int32)) = 1 := if_neg (own_nlt 91 rfl (by omega))
  have g2 : (f3_0_r c (95 : Int32)) = 1 := if_neg (own_nlt 95 rfl (by omega))
  have g3 : (f3_0_r c (96 : Int32)) = 1 := if_neg (own_nlt 96 rfl (by omega))
  have g4 : (f3_0_r c (97 : Int32)) = 1 := if_neg (own_nlt 97 rfl (by omega))
  have g5 : (f3_0_r c (123 : Int32)) = 1 := if_neg (own_nlt 123 rfl (by omega))
  have g6 : (f3_0_r c (192 : Int32)) = 1 := if_neg (own_nlt 192 rfl (by omega))
  have g7 : (f3_0_r c (215 : Int32)) = 1 := if_neg (own_nlt 215 rfl (by omega))
  have g8 : (f3_0_r c (216 : Int32)) = 1 := if_neg (own_nlt 216 rfl (by omega))
  have g9 : (f3_0_r c (247 : Int32)) = 1 := if_neg (own_nlt 247 rfl (by omega))
  have g10 : (f3_0_r c (248 : Int32)) = 1 := if_neg (own_nlt 248 rfl (by omega))
  have g11 : (f3_0_r c (768 : Int32)) = 1 := if_neg (own_nlt 768 rfl (by omega))
  have g12 : (f3_0_r c (880 : Int32)) = 1 := if_neg (own_nlt 880 rfl (by omega))
  have g13 : (f3_0_r c (894 : Int32)) = 1 := if_neg (own_nlt 894 rfl (by omega))
  have g14 : (f3_0_r c (895 : Int32)) = 1 := if_neg (own_nlt 895 rfl (by omega))
  have g15 : (f3_0_r c (8192 : Int32)) = 1 := if_neg (own_nlt 8192 rfl (by omega))
  have g16 : (f3_0_r c (8204 : Int32)) = 1 := if_neg (own_nlt 8204 rfl (by omega))
  have g17 : (f3_0_r c (8206 : Int32)) = 1 := if_neg (own_nlt 8206 rfl (by omega))
  have g18 : (f3_0_r c (8304 : Int32)) = 1 := if_neg (own_nlt 8304 rfl (by omega))
  have g19 : (f3_0_r c (8592 : Int32)) = 0 := if_pos (own_lt 8592 rfl (by omega))
  have g20 : (f3_0_r c (11264 : Int32)) = 0 := if_pos (own_lt 11264 rfl (by omega))
  have g21 : (f3_0_r c (12272 : Int32)) = 0 := if_pos (own_lt 12272 rfl (by omega))
  have g22 : (f3_0_r c (12289 : Int32)) = 0 := if_pos (own_lt 12289 rfl (by omega))
  have g23 : (f3_0_r c (55296 : Int32)) = 0 := if_pos (own_lt 55296 rfl (by omega))
  have g24 : (f3_0_r c (63744 : Int32)) = 0 := if_pos (own_lt 63744 rfl (by omega))
  have g25 : (f3_0_r c (64976 : Int32)) = 0 := if_pos (own_lt 64976 rfl (by omega))
  have g26 : (f3_0_r c (65008 : Int32)) = 0 := if_pos (own_lt 65008 rfl (by omega))
  have g27 : (f3_0_r c (65534 : Int32)) = 0 := if_pos (own_lt 65534 rfl (by omega))
  have g28 : (f3_0_r c (65536 : Int32)) = 0 := if_pos (own_lt 65536 rfl (by omega))
  have g29 : (f3_0_r c (983040 : Int32)) = 0 := if_pos (own_lt 983040 rfl (by omega))
  have e0 : own_s0 c = _ := g0
  have e1 : own_s1 c = 2 := by unfold own_s1; rw [e0, g1]; rfl
  have e2 : own_s2 c = 3 := by unfold own_s2; rw [e1, g2]; rfl
  have e3 : own_s3 c = 4 := by unfold own_s3; rw [e2, g3]; rfl
  have e4 : own_s4 c = 5 := by unfold own_s4; rw [e3, g4]; rfl
  have e5 : own_s5 c = 6 := by unfold own_s5; rw [e4, g5]; rfl
  have e6 : own_s6 c = 7 := by unfold own_s6; rw [e5, g6]; rfl
  have e7 : own_s7 c = 8 := by unfold own_s7; rw [e6, g7]; rfl
  have e8 : own_s8 c = 9 := by unfold own_s8; rw [e7, g8]; rfl
  have e9 : own_s9 c = 10 := by unfold own_s9; rw [e8, g9]; rfl
  have e10 : own_s10 c = 11 := by unfold own_s10; rw [e9, g10]; rfl
  have e11 : own_s11 c = 12 := by unfold own_s11; rw [e10, g11]; rfl
  have e12 : own_s12 c = 13 := by unfold own_s12; rw [e11, g12]; rfl
  have e13 : own_s13 c = 14 := by unfold own_s13; rw [e12, g13]; rfl
  have e14 : own_s14 c = 15 := by unfold own_s14; rw [e13, g14]; rfl
  have e15 : own_s15 c = 16 := by unfold own_s15; rw [e14, g15]; rfl
  have e16 : own_s16 c = 17 := by unfold own_s16; rw [e15, g16]; rfl
  have e17 : own_s17 c = 18 := by unfold own_s17; rw [e16, g17]; rfl
  have e18 : own_s18 c = 19 := by unfold own_s18; rw [e17, g18]; rfl
  have e19 : own_s19 c = 19 := by unfold own_s19; rw [e18, g19]; rfl
  have e20 : own_s20 c = 19 := by unfold own_s20; rw [e19, g20]; rfl
  have e21 : own_s21 c = 19 := by unfold own_s21; rw [e20, g21]; rfl
  have e22 : own_s22 c = 19 := by unfold own_s22; rw [e21, g22]; rfl
  have e23 : own_s23 c = 19 := by unfold own_s23; rw [e22, g23]; rfl
  have e24 : own_s24 c = 19 := by unfold own_s24; rw [e23, g24]; rfl
  have e25 : own_s25 c = 19 := by unfold own_s25; rw [e24, g25]; rfl
  have e26 : own_s26 c = 19 := by unfold own_s26; rw [e25, g26]; rfl
  have e27 : own_s27 c = 19 := by unfold own_s27; rw [e26, g27]; rfl
  have e28 : own_s28 c = 19 := by unfold own_s28; rw [e27, g28]; rfl
  have e29 : own_s29 c = 19 := by unfold own_s29; rw [e28, g29]; rfl
  unfold own_ref; rw [e29]; decide
theorem own_f21 (c : Int32) (h1 : 8592 ≤ c.toInt) (h2 : c.toInt < 11264) : f1_0_r c = 0 := by
  unfold f1_0_r; rw [if_neg (own_nlt 97 rfl (by omega)), if_pos (own_gt 122 rfl (by omega))]
  unfold f1_12_r; rw [if_neg (own_nlt 65 rfl (by omega)), if_pos (own_gt 90 rfl (by omega))]
  unfold f1_24_r; rw [if_neg (own_ne 95 rfl (by omega)), if_neg (own_nlt 192 rfl (by omega)), if_pos (own_gt 214 rfl (by omega))]
  unfold f1_44_r; rw [if_neg (own_nlt 216 rfl (by omega)), if_pos (own_gt 246 rfl (by omega))]
  unfold f1_58_r; rw [if_neg (own_nlt 248 rfl (by omega)), if_pos (own_gt 767 rfl (by omega))]
  unfold f1_72_r; rw [if_neg (own_nlt 880 rfl (by omega)), if_pos (own_gt 893 rfl (by omega))]
  unfold f1_86_r; rw [if_neg (own_nlt 895 rfl (by omega)), if_pos (own_gt 8191 rfl (by omega))]
  unfold f1_100_r; rw [if_neg (own_ne 8204 rfl (by omega)), if_neg (own_ne 8205 rfl (by omega)), if_neg (own_nlt 8304 rfl (by omega)), if_pos (own_gt 8591 rfl (by omega))]
  unfold f1_128_r; rw [if_pos (own_lt 11264 rfl (by omega))]
  unfold f1_142_r; rw [if_pos (own_lt 12289 rfl (by omega))]
  unfold f1_155_r; rw [if_pos (own_lt 63744 rfl (by omega))]
  unfold f1_167_r; rw [if_pos (own_lt 65008 rfl (by omega))]
  unfold f1_179_r; rw [if_pos (own_lt 65536 rfl (by omega))]
  rfl
theorem own_r21 (c : Int32) (h1 : 8592 ≤ c.toInt) (h2 : c.toInt < 11264) : own_ref c = 0 := by
  have g0 : (f3_0_r c (65 : Int32)) = 1 := if_neg (own_nlt 65 rfl (by omega))
  have g1 : (f3_0_r c (91 : Int32)) = 1 := if_neg (own_nlt 91 rfl (by omega))
  have g2 : (f3_0_r c (95 : Int32)) = 1 := if_neg (own_nlt 95 rfl (by omega))
  have g3 : (f3_0_r c (96 : Int32)) = 1 := if_neg (own_nlt 96 rfl (by omega))
  have g4 : (f3_0_r c (97 : Int32)) = 1 := if_neg (own_nlt 97 rfl (by omega))
  have g5 : (f3_0_r c (123 : Int32)) = 1 := if_neg (own_nlt 123 rfl (by omega))
  have g6 : (f3_0_r c (192 : Int32)) = 1 := if_neg (own_nlt 192 rfl (by omega))
  have g7 : (f3_0_r c (215 : Int32)) = 1 := if_neg (own_nlt 215 rfl (by omega))
  have g8 : (f3_0_r c (216 : Int32)) = 1 := if_neg (own_nlt 216 rfl (by omega))
  have g9 : (f3_0_r c (247 : Int32)) = 1 := if_neg (own_nlt 247 rfl (by omega))
  have g10 : (f3_0_r c (248 : Int32)) = 1 := if_neg (own_nlt 248 rfl (by omega))
  have g11 : (f3_0_r c (768 : Int32)) = 1 := if_neg (own_nlt 768 rfl (by omega))
  have g12 : (f3_0_r c (880 : Int32)) = 1 := if_neg (own_nlt 880 rfl (by omega))
  have g13 : (f3_0_r c (894 : Int32)) = 1 := if_neg (own_nlt 894 rfl (by omega))
  have g14 : (f3_0_r c (895 : Int32)) = 1 := if_neg (own_nlt 895 rfl (by omega))
  have g15 : (f3_0_r c (8192 : Int32)) = 1 := if_neg (own_nlt 8192 rfl (by omega))
  have g16 : (f3_0_r c (8204 : Int32)) = 1 := if_neg (own_nlt 8204 rfl (by omega))
  have g17 : (f3_0_r c (8206 : Int32)) = 1 := if_neg (own_nlt 8206 rfl (by omega))
  have g18 : (f3_0_r c (8304 : Int32)) = 1 := if_neg (own_nlt 8304 rfl (by omega))
  have g19 : (f3_0_r c (8592 : Int32)) = 1 := if_neg (own_nlt 8592 rfl (by omega))
  have g20 : (f3_0_r c (11264 : Int32)) = 0 := if_pos (own_lt 11264 rfl (by omega))
  have g21 : (f3_0_r c (12272 : Int32)) = 0 := if_pos (own_lt 12272 rfl (by omega))
  have g22 : (f3_0_r c (12289 : Int32)) = 0 := if_pos (own_lt 12289 rfl (by omega))
  have g23 : (f3_0_r c (55296 : Int32)) = 0 := if_pos (own_lt 55296 rfl (by omega))
  have g24 : (f3_0_r c (63744 : Int32)) = 0 := if_pos (own_lt 63744 rfl (by omega))
  have g25 : (f3_0_r c (64976 : Int32)) = 0 := if_pos (own_lt 64976 rfl (by omega))
  have g26 : (f3_0_r c (65008 : Int32)) = 0 := if_pos (own_lt 65008 rfl (by omega))
  have g27 : (f3_0_r c (65534 : Int32)) = 0 := if_pos (own_lt 65534 rfl (by omega))
  have g28 : (f3_0_r c (65536 : Int32)) = 0 := if_pos (own_lt 65536 rfl (by omega))
  have g29 : (f3_0_r c (983040 : Int32)) = 0 := if_pos (own_lt 983040 rfl (by omega))
  have e0 : own_s0 c = _ := g0
  have e1 : own_s1 c = 2 := by unfold own_s1; rw [e0, g1]; rfl
  have e2 : own_s2 c = 3 := by unfold own_s2; rw [e1, g2]; rfl
  have e3 : own_s3 c = 4 := by unfold own_s3; rw [e2, g3]; rfl
  have e4 : own_s4 c = 5 := by unfold own_s4; rw [e3, g4]; rfl
  have e5 : own_s5 c = 6 := by unfold own_s5; rw [e4, g5]; rfl
  have e6 : own_s6 c = 7 := by unfold own_s6; rw [e5, g6]; rfl
  have e7 : own_s7 c = 8 := by unfold own_s7; rw [e6, g7]; rfl
  have e8 : own_s8 c = 9 := by unfold own_s8; rw [e7, g8]; rfl
  have e9 : own_s9 c = 10 := by unfold own_s9; rw [e8, g9]; rfl
  have e10 : own_s10 c = 11 := by unfold own_s10; rw [e9, g10]; rfl
  have e11 : own_s11 c = 12 := by unfold own_s11; rw [e10, g11]; rfl
  have e12 : own_s12 c = 13 := by unfold own_s12; rw [e11, g12]; rfl
  have e13 : own_s13 c = 14 := by unfold own_s13; rw [e12, g13]; rfl
  have e14 : own_s14 c = 15 := by unfold own_s14; rw [e13, g14]; rfl
  have e15 : own_s15 c = 16 := by unfold own_s15; rw [e14, g15]; rfl
  have e16 : own_s16 c = 17 := by unfold own_s16; rw [e15, g16]; rfl
  have e17 : own_s17 c = 18 := by unfold own_s17; rw [e16, g17]; rfl
  have e18 : own_s18 c = 19 := by unfold own_s18; rw [e17, g18]; rfl
  have e19 : own_s19 c = 20 := by unfold own_s19; rw [e18, g19]; rfl
  have e20 : own_s20 c = 20 := by unfold own_s20; rw [e19, g20]; rfl
  have e21 : own_s21 c = 20 := by unfold own_s21; rw [e20, g21]; rfl
  have e22 : own_s22 c = 20 := by unfold own_s22; rw [e21, g22]; rfl
  have e23 : own_s23 c = 20 := by unfold own_s23; rw [e22, g23]; rfl
  have e24 : own_s24 c = 20 := by unfold own_s24; rw [e23, g24]; rfl
  have e25 : own_s25 c = 20 := by unfold own_s25; rw [e24, g25]; rfl
  have e26 : own_s26 c = 20 := by unfold own_s26; rw [e25, g26]; rfl
  have e27 : own_s27 c = 20 := by unfold own_s27; rw [e26, g27]; rfl
  have e28 : own_s28 c = 20 := by unfold own_s28; rw [e27, g28]; rfl
  have e29 : own_s29 c = 20 := by unfold own_s29; rw [e28, g29]; rfl
  unfold own_ref; rw [e29]; decide
theorem own_f22 (c : Int32) (h1 : 11264 ≤ c.toInt) (h2 : c.toInt < 12272) : f1_0_r c = 1 := by
  unfold f1_0_r; rw [if_neg (own_nlt 97 rfl (by omega)), if_pos (own_gt 122 rfl (by omega))]
  unfold f1_12_r; rw [if_neg (own_nlt 65 rfl (by omega)), if_pos (own_gt 90 rfl (by omega))]
  unfold f1_24_r; rw [if_neg (own_ne 95 rfl (by omega)), if_neg (own_nlt 192 rfl (by omega)), if_pos (own_gt 214 rfl (by omega))]
  unfold f1_44_r; rw [if_neg (own_nlt 216 rfl (by omega)), if_pos (own_gt 246 rfl (by omega))]
  unfold f1_58_r; rw [if_neg (own_nlt 248 rfl (by omega)), if_pos (own_gt 767 rfl (by omega))]
  unfold f1_72_r; rw [if_neg (own_nlt 880 rfl (by omega)), if_pos (own_gt 893 rfl (by omega))]
  unfold f1_86_r; rw [if_neg (own_nlt 895 rfl (by omega)), if_pos (own_gt 8191 rfl (by omega))]
  unfold f1_100_r; rw [if_neg (own_ne 8204 rfl (by omega)), if_neg (own_ne 8205 rfl (by omega)), if_neg (own_nlt 8304 rfl (by omega)), if_pos (own_gt 8591 rfl (by omega))]
  unfold f1_128_r; rw [if_neg (own_nlt 11264 rfl (by omega)), if_neg (own_ngt 12271 rfl (by omega))]
  rfl
theorem own_r22 (c : Int32) (h1 : 11264 ≤ c.toInt) (h2 : c.toInt < 12272) : own_ref c = 1 := by
  have g0 : (f3_0_r c (65 : Int32)) = 1 := if_neg (own_nlt 65 rfl (by omega))
  have g1 : (f3_0_r c (91 : Int32)) = 1 := if_neg (own_nlt 91 rfl (by omega))
  have g2 : (f3_0_r c (95 : Int32)) = 1 := if_neg (own_nlt 95 rfl (by omega))
  have g3 : (f3_0_r c (96 : Int32)) = 1 := if_neg (own_nlt 96 rfl (by omega))
  have g4 : (f3_0_r c (97 : Int32)) = 1 := if_neg (own_nlt 97 rfl (by omega))
  have g5 : (f3_0_r c (123 : Int32)) = 1 := if_neg (own_nlt 123 rfl (by omega))
  have g6 : (f3_0_r c (192 : Int32)) = 1 := if_neg (own_nlt 192 rfl (by omega))
  have g7 : (f3_0_r c (215 : Int32)) = 1 := if_neg (own_nlt 215 rfl (by omega))
  have g8 : (f3_0_r c (216 : Int32)) = 1 := if_neg (own_nlt 216 rfl (by omega))
  have g9 : (f3_0_r c (247 : Int32)) = 1 := if_neg (own_nlt 247 rfl (by omega))
  have g10 : (f3_0_r c (248 : Int32)) = 1 := if_neg (own_nlt 248 rfl (by omega))
  have g11 : (f3_0_r c (768 : Int32)) = 1 := if_neg (own_nlt 768 rfl (by omega))
  have g12 : (f3_0_r c (880 : Int32)) = 1 := if_neg (own_nlt 880 rfl (by omega))
  have g13 : (f3_0_r c (894 : Int32)) = 1 := if_neg (own_nlt 894 rfl (by omega))
  have g14 : (f3_0_r c (895 : Int32)) = 1 := if_neg (own_nlt 895 rfl (by omega))
  have g15 : (f3_0_r c (8192 : Int32)) = 1 := if_neg (own_nlt 8192 rfl (by omega))
  have g16 : (f3_0_r c (8204 : Int32)) = 1 := if_neg (own_nlt 8204 rfl (by omega))
  have g17 : (f3_0_r c (8206 : Int32)) = 1 := if_neg (own_nlt 8206 rfl (by omega))
  have g18 : (f3_0_r c (8304 : Int32)) = 1 := if_neg (own_nlt 8304 rfl (by omega))
  have g19 : (f3_0_r c (8592 : Int32)) = 1 := if_neg (own_nlt 8592 rfl (by omega))
  have g20 : (f3_0_r c (11264 : Int32)) = 1 := if_neg (own_nlt 11264 rfl (by omega))
  have g21 : (f3_0_r c (12272 : Int32)) = 0 := if_pos (own_lt 12272 rfl (by omega))
  have g22 : (f3_0_r c (12289 : Int32)) = 0 := if_pos (own_lt 12289 rfl (by omega))
  have g23 : (f3_0_r c (55296 : Int32)) = 0 := if_pos (own_lt 55296 rfl (by omega))
  have g24 : (f3_0_r c (63744 : Int32)) = 0 := if_pos (own_lt 63744 rfl (by omega))
  have g25 : (f3_0_r c (64976 : Int32)) = 0 := if_pos (own_lt 64976 rfl (by omega))
  have g26 : (f3_0_r c (65008 : Int32)) = 0 := if_pos (own_lt 65008 rfl (by omega))
  have g27 : (f3_0_r c (65534 : Int32)) = 0 := if_pos (own_lt 65534 rfl (by omega))
  have g28 : (f3_0_r c (65536 : Int32)) = 0 := if_pos (own_lt 65536 rfl (by omega))
  have g29 : (f3_0_r c (983040 : Int32)) = 0 := if_pos (own_lt 983040 rfl (by omega))
  have e0 : own_s0 c = _ := g0
  have e1 : own_s1 c = 2 := by unfold own_s1; rw [e0, g1]; rfl
  have e2 : own_s2 c = 3 := by unfold own_s2; rw [e1, g2]; rfl
  have e3 : own_s3 c = 4 := by unfold own_s3; rw [e2, g3]; rfl
  have e4 : own_s4 c = 5 := by unfold own_s4; rw [e3, g4]; rfl
  have e5 : own_s5 c = 6 := by unfold own_s5; rw [e4, g5]; rfl
  have e6 : own_s6 c = 7 := by unfold own_s6; rw [e5, g6]; rfl
  have e7 : own_s7 c = 8 := by unfold own_s7; rw [e6, g7]; rfl
  have e8 : own_s8 c = 9 := by unfold own_s8; rw [e7, g8]; rfl
  have e9 : own_s9 c = 10 := by unfold own_s9; rw [e8, g9]; rfl
  have e10 : own_s10 c = 11 := by unfold own_s10; rw [e9, g10]; rfl
  have e11 : own_s11 c = 12 := by unfold own_s11; rw [e10, g11]; rfl
  have e12 : own_s12 c = 13 := by unfold own_s12; rw [e11, g12]; rfl
  have e13 : own_s13 c = 14 := by unfold own_s13; rw [e12, g13]; rfl
  have e14 : own_s14 c = 15 := by unfold own_s14; rw [e13, g14]; rfl
  have e15 : own_s15 c = 16 := by unfold own_s15; rw [e14, g15]; rfl
  have e16 : own_s16 c = 17 := by unfold own_s16; rw [e15, g16]; rfl
  have e17 : own_s17 c = 18 := by unfold own_s17; rw [e16, g17]; rfl
  have e18 : own_s18 c = 19 := by unfold own_s18; rw [e17, g18]; rfl
  have e19 : own_s19 c = 20 := by unfold own_s19; rw [e18, g19]; rfl
  have e20 : own_s20 c = 21 := by unfold own_s20; rw [e19, g20]; rfl
  have e21 : own_s21 c = 21 := by unfold own_s21; rw [e20, g21]; rfl
  have e22 : own_s22 c = 21 := by unfold own_s22; rw [e21, g22]; rfl
  have e23 : own_s23 c = 21 := by unfold own_s23; rw [e22, g23]; rfl
  have e24 : own_s24 c = 21 := by unfold own_s24; rw [e23, g24]; rfl
  have e25 : own_s25 c = 21 := by unfold own_s25; rw [e24, g25]; rfl
  have e26 : own_s26 c = 21 := by unfold own_s26; rw [e25, g26]; rfl
  have e27 : own_s27 c = 21 := by unfold own_s27; rw [e26, g27]; rfl
  have e28 : own_s28 c = 21 := by unfold own_s28; rw [e27, g28]; rfl
  have e29 : own_s29 c = 21 := by unfold own_s29; rw [e28, g29]; rfl
  unfold own_ref; rw [e29]; decide
theorem own_f23 (c : Int32) (h1 : 12272 ≤ c.toInt) (h2 : c.toInt < 12289) : f1_0_r c = 0 := by
  unfold f1_0_r; rw [if_neg (own_nlt 97 rfl (by omega)), if_pos (own_gt 122 rfl (by omega))]
  unfold f1_12_r; rw [if_neg (own_nlt 65 rfl (by omega)), if_pos (own_gt 90 rfl (by omega))]
  unfold f1_24_r; rw [if_neg (own_ne 95 rfl (by omega)), if_neg (own_nlt 192 rfl (by omega)), if_pos (own_gt 214 rfl (by omega))]
  unfold f1_44_r; rw [if_neg (own_nlt 216 rfl (by omega)), if_pos (own_gt 246 rfl (by omega))]
  unfold f1_58_r; rw [if_neg (own_nlt 248 rfl (by omega)), if_pos (own_gt 767 rfl (by omega))]
  unfold f1_72_r; rw [if_neg (own_nlt 880 rfl (by omega)), if_pos (own_gt 893 rfl (by omega))]
  unfold f1_86_r; rw [if_neg (own_nlt 895 rfl (by omega)), if_pos (own_gt 8191 rfl (by omega))]
  unfold f1_100_r; rw [if_neg (own_ne 8204 rfl (by omega)), if_neg (own_ne 8205 rfl (by omega)), if_neg (own_nlt 8304 rfl (by omega)), if_pos (own_gt 8591 rfl (by omega))]
  unfold f1_128_r; rw [if_neg (own_nlt 11264 rfl (by omega)), if_pos (own_gt 12271 rfl (by omega))]
  unfold f1_142_r; rw [if_pos (own_lt 12289 rfl (by omega))]
  unfold f1_155_r; rw [if_pos (own_lt 63744 rfl (by omega))]
  unfold f1_167_r; rw [if_pos (own_lt 65008 rfl (by omega))]
  unfold f1_179_r; rw [if_pos (own_lt 65536 rfl (by omega))]
  rfl
theorem own_r23 (c : Int32) (h1 : 12272 ≤ c.toInt) (h2 : c.toInt < 12289) : own_ref c = 0 := by
  have g0 : (f3_0_r c (65 : Int32)) = 1 := if_neg (own_nlt 65 rfl (by omega))
  have g1 : (f3_0_r c (91 : Int32)) = 1 := if_neg (own_nlt 91 rfl (by omega))
  have g2 : (f3_0_r c (95 : Int32)) = 1 := if_neg (own_nlt 95 rfl (by omega))
  have g3 : (f3_0_r c (96 : Int32)) = 1 := if_neg (own_nlt 96 rfl (by omega))
  have g4 : (f3_0_r c (97 : Int32)) = 1 := if_neg (own_nlt 97 rfl (by omega))
  have g5 : (f3_0_r c (123 : Int32)) = 1 := if_neg (own_nlt 123 rfl (by omega))
  have g6 : (f3_0_r c (192 : Int32)) = 1 := if_neg (own_nlt 192 rfl (by omega))
  have g7 : (f3_0_r c (215 : Int32)) = 1 := if_neg (own_nlt 215 rfl (by omega))
  have g8 : (f3_0_r c (216 : Int32)) = 1 := if_neg (own_nlt 216 rfl (by omega))
  have g9 : (f3_0_r c (247 : Int32)) = 1 := if_neg (own_nlt 247 rfl (by omega))
  have g10 : (f3_0_r c (248 : Int32)) = 1 := if_neg (own_nlt 248 rfl (by omega))
  have g11 : (f3_0_r c (768 : Int32)) = 1 := if_neg (own_nlt 768 rfl (by omega))
  have g12 : (f3_0_r c (880 : Int32)) = 1 := if_neg (own_nlt 880 rfl (by omega))
  have g13 : (f3_0_r c (894 : Int32)) = 1 := if_neg (own_nlt 894 rfl (by omega))
  have g14 : (f3_0_r c (895 : Int32)) = 1 := if_neg (own_nlt 895 rfl (by omega))
  have g15 : (f3_0_r c (8192 : Int32)) = 1 := if_neg (own_nlt 8192 rfl (by omega))
  have g16 : (f3_0_r c (8204 : Int32)) = 1 := if_neg (own_nlt 8204 rfl (by omega))
  have g17 : (f3_0_r c (8206 : Int32)) = 1 := if_neg (own_nlt 8206 rfl (by omega))
  have g18 : (f3_0_r c (8304 : Int32)) = 1 := if_neg (own_nlt 8304 rfl (by omega))
  have g19 : (f3_0_r c (8592 : Int32)) = 1 := if_neg (own_nlt 8592 rfl (by omega))
  have g20 : (f3_0_r c (11264 : Int32)) = 1 := if_neg (own_nlt 11264 rfl (by omega))
  have g21 : (f3_0_r c (12272 : Int32)) = 1 := if_neg (own_nlt 12272 rfl (by omega))
  have g22 : (f3_0_r c (12289 : Int32)) = 0 := if_pos (own_lt 12289 rfl (by omega))
  have g23 : (f3_0_r c (55296 : Int32)) = 0 := if_pos (own_lt 55296 rfl (by omega))
  have g24 : (f3_0_r c (63744 : Int32)) = 0 := if_pos (own_lt 63744 rfl (by omega))
  have g25 : (f3_0_r c (64976 : Int32)) = 0 := if_pos (own_lt 64976 rfl (by omega))
  have g26 : (f3_0_r c (65008 : Int32)) = 0 := if_pos (own_lt 65008 rfl (by omega))
  have g27 : (f3_0_r c (65534 : Int32)) = 0 := if_pos (own_lt 65534 rfl (by omega))
  have g28 : (f3_0_r c (65536 : Int32)) = 0 := if_pos (own_lt 65536 rfl (by omega))
  have g29 : (f3_0_r c (983040 : Int32)) = 0 := if_pos (own_lt 983040 rfl (by omega))
  have e0 : own_s0 c = _ := g0
  have e1 : own_s1 c = 2 := by unfold own_s1; rw [e0, g1]; rfl
  have e2 : own_s2 c = 3 := by unfold own_s2; rw [e1, g2]; rfl
  have e3 : own_s3 c = 4 := by unfold own_s3; rw [e2, g3]; rfl
  have e4 : own_s4 c = 5 := by unfold own_s4; rw [e3, g4]; rfl
  have e5 : own_s5 c = 6 := by unfold own_s5; rw [e4, g5]; rfl
  have e6 : own_s6 c = 7 := by unfold own_s6; rw [e5, g6]; rfl
  have e7 : own_s7 c = 8 := by unfold own_s7; rw [e6, g7]; rfl
  have e8 : own_s8 c = 9 := by unfold own_s8; rw [e7, g8]; rfl
  have e9 : own_s9 c = 10 := by unfold own_s9; rw [e8, g9]; rfl
  have e10 : own_s10 c = 11 := by unfold own_s10; rw [e9, g10]; rfl
  have e11 : own_s11 c = 12 := by unfold own_s11; rw [e10, g11]; rfl
  have e12 : own_s12 c = 13 := by unfold own_s12; rw [e11, g12]; rfl
  have e13 : own_s13 c = 14 := by unfold own_s13; rw [e12, g13]; rfl
  have e14 : own_s14 c = 15 := by unfold own_s14; rw [e13, g14]; rfl
  have e15 : own_s15 c = 16 := by unfold own_s15; rw [e14, g15]; rfl
  have e16 : own_s16 c = 17 := by unfold own_s16; rw [e15, g16]; rfl
  have e17 : own_s17 c = 18 := by unfold own_s17; rw [e16, g17]; rfl
  have e18 : own_s18 c = 19 := by unfold own_s18; rw [e17, g18]; rfl
  have e19 : own_s19 c = 20 := by unfold own_s19; rw [e18, g19]; rfl
  have e20 : own_s20 c = 21 := by unfold own_s20; rw [e19, g20]; rfl
  have e21 : own_s21 c = 22 := by unfold own_s21; rw [e20, g21]; rfl
  have e22 : own_s22 c = 22 := by unfold own_s22; rw [e21, g22]; rfl
  have e23 : own_s23 c = 22 := by unfold own_s23; rw [e22, g23]; rfl
  have e24 : own_s24 c = 22 := by unfold own_s24; rw [e23, g24]; rfl
  have e25 : own_s25 c = 22 := by unfold own_s25; rw [e24, g25]; rfl
  have e26 : own_s26 c = 22 := by unfold own_s26; rw [e25, g26]; rfl
  have e27 : own_s27 c = 22 := by unfold own_s27; rw [e26, g27]; rfl
  have e28 : own_s28 c = 22 := by unfold own_s28; rw [e27, g28]; rfl
  have e29 : own_s29 c = 22 := by unfold own_s29; rw [e28, g29]; rfl
  unfold own_ref; rw [e29]; decide
theorem own_f24 (c : Int32) (h1 : 12289 ≤ c.toInt) (h2 : c.toInt < 55296) : f1_0_r c = 1 := by
  unfold f1_0_r; rw [if_neg (own_nlt 97 rfl (by omega)), if_pos (own_gt 122 rfl (by omega))]
  unfold f1_12_r; rw [if_neg (own_nlt 65 rfl (by omega)), if_pos (own_gt 90 rfl (by omega))]
  unfold f1_24_r; rw [if_neg (own_ne 95 rfl (by omega)), if_neg (own_nlt 192 rfl (by omega)), if_pos (own_gt 214 rfl (by omega))]
  unfold f1_44_r; rw [if_neg (own_nlt 216 rfl (by omega)), if_pos (own_gt 246 rfl (by omega))]
  unfold f1_58_r; rw [if_neg (own_nlt 248 rfl (by omega)), if_pos (own_gt 767 rfl (by omega))]
  unfold f1_72_r; rw [if_neg (own_nlt 880 rfl (by omega)), if_pos (own_gt 893 rfl (by omega))]
  unfold f1_86_r; rw [if_neg (own_nlt 895 rfl (by omega)), if_pos (own_gt 8191 rfl (by omega))]
  unfold f1_100_r; rw [if_neg (own_ne 8204 rfl (by omega)), if_neg (own_ne 8205 rfl (by omega)), if_neg (own_nlt 8304 rfl (by omega)), if_pos (own_gt 8591 rfl (by omega))]
  unfold f1_128_r; rw [if_neg (own_nlt 11264 rfl (by omega)), if_pos (own_gt 12271 rfl (by omega))]
  unfold f1_142_r; rw [if_neg (own_nlt 12289 rfl (by omega)), if_neg (own_ngt 55295 rfl (by omega))]
  rfl
theorem own_r24 (c : Int32) (h1 : 12289 ≤ c.toInt) (h2 : c.toInt < 55296) : own_ref c = 1 := by
  have g0 : (f3_0_r c (65 : Int32)) = 1 := if_neg (own_nlt 65 rfl (by omega))
  have g1 : (f3_0_r c (91 : Int32)) = 1 := if_neg (own_nlt 91 rfl (by omega))
  have g2 : (f3_0_r c (95 : Int32)) = 1 := if_neg (own_nlt 95 rfl (by omega))
  have g3 : (f3_0_r c (96 : Int32)) = 1 := if_neg (own_nlt 96 rfl (by omega))
  have g4 : (f3_0_r c (97 : Int32)) = 1 := if_neg (own_nlt 97 rfl (by omega))
  have g5 : (f3_0_r c (123 : Int32)) = 1 := if_neg (own_nlt 123 rfl (by omega))
  have g6 : (f3_0_r c (192 : Int32)) = 1 := if_neg (own_nlt 192 rfl (by omega))
  have g7 : (f3_0_r c (215 : Int32)) = 1 := if_neg (own_nlt 215 rfl (by omega))
  have g8 : (f3_0_r c (216 : Int32)) = 1 := if_neg (own_nlt 216 rfl (by omega))
  have g9 : (f3_0_r c (247 : Int32)) = 1 := if_neg (own_nlt 247 rfl (by omega))
  have g10 : (f3_0_r c (248 : Int32)) = 1 := if_neg (own_nlt 248 rfl (by omega))
  have g11 : (f3_0_r c (768 : Int32)) = 1 := if_neg (own_nlt 768 rfl (by omega))
  have g12 : (f3_0_r c (880 : Int32)) = 1 := if_neg (own_nlt 880 rfl (by omega))
  have g13 : (f3_0_r c (894 : Int32)) = 1 := if_neg (own_nlt 894 rfl (by omega))
  have g14 : (f3_0_r c (895 : Int32)) = 1 := if_neg (own_nlt 895 rfl (by omega))
  have g15 : (f3_0_r c (8192 : Int32)) = 1 := if_neg (own_nlt 8192 rfl (by omega))
  have g16 : (f3_0_r c (8204 : Int32)) = 1 := if_neg (own_nlt 8204 rfl (by omega))
  have g17 : (f3_0_r c (8206 : Int32)) = 1 := if_neg (own_nlt 8206 rfl (by omega))
  have g18 : (f3_0_r c (8304 : Int32)) = 1 := if_neg (own_nlt 8304 rfl (by omega))
  have g19 : (f3_0_r c (8592 : Int32)) = 1 := if_neg (own_nlt 8592 rfl (by omega))
  have g20 : (f3_0_r c (11264 : Int32)) = 1 := if_neg (own_nlt 11264 rfl (by omega))
  have g21 : (f3_0_r c (12272 : Int32)) = 1 := if_neg (own_nlt 12272 rfl (by omega))
  have g22 : (f3_0_r c (12289 : Int32)) = 1 := if_neg (own_nlt 12289 rfl (by omega))
  have g23 : (f3_0_r c (55296 : Int32)) = 0 := if_pos (own_lt 55296 rfl (by omega))
  have g24 : (f3_0_r c (63744 : Int32)) = 0 := if_pos (own_lt 63744 rfl (by omega))
  have g25 : (f3_0_r c (64976 : Int32)) = 0 := if_pos (own_lt 64976 rfl (by omega))
  have g26 : (f3_0_r c (65008 : Int32)) = 0 := if_pos (own_lt 65008 rfl (by omega))
  have g27 : (f3_0_r c (65534 : Int32)) = 0 := if_pos (own_lt 65534 rfl (by omega))
  have g28 : (f3_0_r c (65536 : Int32)) = 0 := if_pos (own_lt 65536 rfl (by omega))
  have g29 : (f3_0_r c (983040 : Int32)) = 0 := if_pos (own_lt 983040 rfl (by omega))
  have e0 : own_s0 c = _ := g0
  have e1 : own_s1 c = 2 := by unfold own_s1; rw [e0, g1]; rfl
  have e2 : own_s2 c = 3 := by unfold own_s2; rw [e1, g2]; rfl
  have e3 : own_s3 c = 4 := by unfold own_s3; rw [e2, g3]; rfl
  have e4 : own_s4 c = 5 := by unfold own_s4; rw [e3, g4]; rfl
  have e5 : own_s5 c = 6 := by unfold own_s5; rw [e4, g5]; rfl
  have e6 : own_s6 c = 7 := by unfold own_s6; rw [e5, g6]; rfl
  have e7 : own_s7 c = 8 := by unfold own_s7; rw [e6, g7]; rfl
  have e8 : own_s8 c = 9 := by unfold own_s8; rw [e7, g8]; rfl
  have e9 : own_s9 c = 10 := by unfold own_s9; rw [e8, g9]; rfl
  have e10 : own_s10 c = 11 := by unfold own_s10; rw [e9, g10]; rfl
  have e11 : own_s11 c = 12 := by unfold own_s11; rw [e10, g11]; rfl
  have e12 : own_s12 c = 13 := by unfold own_s12; rw [e11, g12]; rfl
  have e13 : own_s13 c = 14 := by unfold own_s13; rw [e12, g13]; rfl
  have e14 : own_s14 c = 15 := by unfold own_s14; rw [e13, g14]; rfl
  have e15 : own_s15 c = 16 := by unfold own_s15; rw [e14, g15]; rfl
  have e16 : own_s16 c = 17 := by unfold own_s16; rw [e15, g16]; rfl
  have e17 : own_s17 c = 18 := by unfold own_s17; rw [e16, g17]; rfl
  have e18 : own_s18 c = 19 := by unfold own_s18; rw [e17, g18]; rfl
  have e19 : own_s19 c = 20 := by unfold own_s19; rw [e18, g19]; rfl
  have e20 : own_s20 c = 21 := by unfold own_s20; rw [e19, g20]; rfl
  have e21 : own_s21 c = 22 := by unfold own_s21; rw [e20, g21]; rfl
  have e22 : own_s22 c = 23 := by unfold own_s22; rw [e21, g22]; rfl
  have e23 : own_s23 c = 23 := by unfold own_s23; rw [e22, g23]; rfl
  have e24 : own_s24 c = 23 := by unfold own_s24; rw [e23, g24]; rfl
  have e25 : own_s25 c = 23 := by unfold own_s25; rw [e24, g25]; rfl
  have e26 : own_s26 c = 23 := by unfold own_s26; rw [e25, g26]; rfl
  have e27 : own_s27 c = 23 := by unfold own_s27; rw [e26, g27]; rfl
  have e28 : own_s28 c = 23 := by unfold own_s28; rw [e27, g28]; rfl
  have e29 : own_s29 c = 23 := by unfold own_s29; rw [e28, g29]; rfl
  unfold own_ref; rw [e29]; decide
theorem own_f25 (c : Int32) (h1 : 55296 ≤ c.toInt) (h2 : c.toInt < 63744) : f1_0_r c = 0 := by
  unfold f1_0_r; rw [if_neg (own_nlt 97 rfl (by omega)), if_pos (own_gt 122 rfl (by omega))]
  unfold f1_12_r; rw [if_neg (own_nlt 65 rfl (by omega)), if_pos (own_gt 90 rfl (by omega))]
  unfold f1_24_r; rw [if_neg (own_ne 95 rfl (by omega)), if_neg (own_nlt 192 rfl (by omega)), if_pos (own_gt 214 rfl (by omega))]
  unfold f1_44_r; rw [if_neg (own_nlt 216 rfl (by omega)), if_pos (own_gt 246 rfl (by omega))]
  unfold f1_58_r; rw [if_neg (own_nlt 248 rfl (by omega)), if_pos (own_gt 767 rfl (by omega))]
  unfold f1_72_r; rw [if_neg (own_nlt 880 rfl (by omega)), if_pos (own_gt 893 rfl (by omega))]
  unfold f1_86_r; rw [if_neg (own_nlt 895 rfl (by omega)), if_pos (own_gt 8191 rfl (by omega))]
  unfold f1_100_r; rw [if_neg (own_ne 8204 rfl (by omega)), if_neg (own_ne 8205 rfl (by omega)), if_neg (own_nlt 8304 rfl (by omega)), if_pos (own_gt 8591 rfl (by omega))]
  unfold f1_128_r; rw [if_neg (own_nlt 11264 rfl (by omega)), if_pos (own_gt 12271 rfl (by omega))]
  unfold f1_142_r; rw [if_neg (own_nlt 12289 rfl (by omega)), if_pos (own_gt 55295 rfl (by omega))]
  unfold f1_155_r; rw [if_pos (own_lt 63744 rfl (by omega))]
  unfold f1_167_r; rw [if_pos (own_lt 65008 rfl (by omega))]
  unfold f1_179_r; rw [if_pos (own_lt 65536 rfl (by omega))]
  rfl
theorem own_r25 (c : Int32) (h1 : 55296 ≤ c.toInt) (h2 : c.toInt < 63744) : own_ref c = 0 := by
  have g0 : (f3_0_r c (65 : Int32)) = 1 := if_neg (own_nlt 65 rfl (by omega))
  have g1 : (f3_0_r c (91 : Int32)) = 1 := if_neg (own_nlt 91 rfl (by omega))
  have g2 : (f3_0_r c (95 : Int32)) = 1 := if_neg (own_nlt 95 rfl (by omega))
  have g3 : (f3_0_r c (96 : Int32)) = 1 := if_neg (own_nlt 96 rfl (by omega))
  have g4 : (f3_0_r c (97 : Int32)) = 1 := if_neg (own_nlt 97 rfl (by omega))
  have g5 : (f3_0_r c (123 : Int32)) = 1 := if_neg (own_nlt 123 rfl (by omega))
  have g6 : (f3_0_r c (192 : Int32)) = 1 := if_neg (own_nlt 192 rfl (by omega))
  have g7 : (f3_0_r c (215 : Int32)) = 1 := if_neg (own_nlt 215 rfl (by omega))
  have g8 : (f3_0_r c (216 : Int32)) = 1 := if_neg (own_nlt 216 rfl (by omega))
  have g9 : (f3_0_r c (247 : Int32)) = 1 := if_neg (own_nlt 247 rfl (by omega))
  have g10 : (f3_0_r c (248 : Int32)) = 1 := if_neg (own_nlt 248 rfl (by omega))
  have g11 : (f3_0_r c (768 : Int32)) = 1 := if_neg (own_nlt 768 rfl (by omega))
  have g12 : (f3_0_r c (880 : Int32)) = 1 := if_neg (own_nlt 880 rfl (by omega))
  have g13 : (f3_0_r c (894 : Int32)) = 1 := if_neg (own_nlt 894 rfl (by omega))
  have g14 : (f3_0_r c (895 : Int32)) = 1 := if_neg (own_nlt 895 rfl (by omega))
  have g15 : (f3_0_r c (8192 : Int32)) = 1 := if_neg (own_nlt 8192 rfl (by omega))
  have g16 : (f3_0_r c (8204 : Int32)) = 1 := if_neg (own_nlt 8204 rfl (by omega))
  have g17 : (f3_0_r c (8206 : Int32)) = 1 := if_neg (own_nlt 8206 rfl (by omega))
  have g18 : (f3_0_r c (8304 : Int32)) = 1 := if_neg (own_nlt 8304 rfl (by omega))
  have g19 : (f3_0_r c (8592 : Int32)) = 1 := if_neg (own_nlt 8592 rfl (by omega))
  have g20 : (f3_0_r c (11264 : Int32)) = 1 := if_neg (own_nlt 11264 rfl (by omega))
  have g21 : (f3_0_r c (12272 : Int32)) = 1 := if_neg (own_nlt 12272 rfl (by omega))
  have g22 : (f3_0_r c (12289 : Int32)) = 1 := if_neg (own_nlt 12289 rfl (by omega))
  have g23 : (f3_0_r c (55296 : Int32)) = 1 := if_neg (own_nlt 55296 rfl (by omega))
  have g24 : (f3_0_r c (63744 : Int32)) = 0 := if_pos (own_lt 63744 rfl (by omega))
  have g25 : (f3_0_r c (64976 : Int32)) = 0 := if_pos (own_lt 64976 rfl (by omega))
  have g26 : (f3_0_r c (65008 : Int32)) = 0 := if_pos (own_lt 65008 rfl (by omega))
  have g27 : (f3_0_r c (65534 : Int32)) = 0 := if_pos (own_lt 65534 rfl (by omega))
  have g28 : (f3_0_r c (65536 : Int32)) = 0 := if_pos (own_lt 65536 rfl (by omega))
  have g29 : (f3_0_r c (983040 : Int32)) = 0 := if_pos (own_lt 983040 rfl (by omega))
  have e0 : own_s0 c = _ := g0
  have e1 : own_s1 c = 2 := by unfold own_s1; rw [e0, g1]; rfl
  have e2 : own_s2 c = 3 := by unfold own_s2; rw [e1, g2]; rfl
  have e3 : own_s3 c = 4 := by unfold own_s3; rw [e2, g3]; rfl
  have e4 : own_s4 c = 5 := by unfold own_s4; rw [e3, g4]; rfl
  have e5 : own_s5 c = 6 := by unfold own_s5; rw [e4, g5]; rfl
  have e6 : own_s6 c = 7 := by unfold own_s6; rw [e5, g6]; rfl
  have e7 : own_s7 c = 8 := by unfold own_s7; rw [e6, g7]; rfl
  have e8 : own_s8 c = 9 := by unfold own_s8; rw [e7, g8]; rfl
  have e9 : own_s9 c = 10 := by unfold own_s9; rw [e8, g9]; rfl
  have e10 : own_s10 c = 11 := by unfold own_s10; rw [e9, g10]; rfl
  have e11 : own_s11 c = 12 := by unfold own_s11; rw [e10, g11]; rfl
  have e12 : own_s12 c = 13 := by unfold own_s12; rw [e11, g12]; rfl
  have e13 : own_s13 c = 14 := by unfold own_s13; rw [e12, g13]; rfl
  have e14 : own_s14 c = 15 := by unfold own_s14; rw [e13, g14]; rfl
  have e15 : own_s15 c = 16 := by unfold own_s15; rw [e14, g15]; rfl
  have e16 : own_s16 c = 17 := by unfold own_s16; rw [e15, g16]; rfl
  have e17 : own_s17 c = 18 := by unfold own_s17; rw [e16, g17]; rfl
  have e18 : own_s18 c = 19 := by unfold own_s18; rw [e17, g18]; rfl
  have e19 : own_s19 c = 20 := by unfold own_s19; rw [e18, g19]; rfl
  have e20 : own_s20 c = 21 := by unfold own_s20; rw [e19, g20]; rfl
  have e21 : own_s21 c = 22 := by unfold own_s21; rw [e20, g21]; rfl
  have e22 : own_s22 c = 23 := by unfold own_s22; rw [e21, g22]; rfl
  have e23 : own_s23 c = 24 := by unfold own_s23; rw [e22, g23]; rfl
  have e24 : own_s24 c = 24 := by unfold own_s24; rw [e23, g24]; rfl
  have e25 : own_s25 c = 24 := by unfold own_s25; rw [e24, g25]; rfl
  have e26 : own_s26 c = 24 := by unfold own_s26; rw [e25, g26]; rfl
  have e27 : own_s27 c = 24 := by unfold own_s27; rw [e26, g27]; rfl
  have e28 : own_s28 c = 24 := by unfold own_s28; rw [e27, g28]; rfl
  have e29 : own_s29 c = 24 := by unfold own_s29; rw [e28, g29]; rfl
  unfold own_ref; rw [e29]; decide
theorem own_f26 (c : Int32) (h1 : 63744 ≤ c.toInt) (h2 : c.toInt < 64976) : f1_0_r c = 1 := by
  unfold f1_0_r; rw [if_neg (own_nlt 97 rfl (by omega)), if_pos (own_gt 122 rfl (by omega))]
  unfold f1_12_r; rw [if_neg (own_nlt 65 rfl (by omega)), if_pos (own_gt 90 rfl (by omega))]
  unfold f1_24_r; rw [if_neg (own_ne 95 rfl (by omega)), if_neg (own_nlt 192 rfl (by omega)), if_pos (own_gt 214 rfl (by omega))]
  unfold f1_44_r; rw [if_neg (own_nlt 216 rfl (by omega)), if_pos (own_gt 246 rfl (by omega))]
  unfold f1_58_r; rw [if_neg (own_nlt 248 rfl (by omega)), if_pos (own_gt 767 rfl (by omega))]
  unfold f1_72_r; rw [if_neg (own_nlt 880 rfl (by omega)), if_pos (own_gt 893 rfl (by omega))]
  unfold f1_86_r; rw [if_neg (own_nlt 895 rfl (by omega)), if_pos (own_gt 8191 rfl (by omega))]
  unfold f1_100_r; rw [if_neg (own_ne 8204 rfl (by omega)), if_neg (own_ne 8205 rfl (by omega)), if_neg (own_nlt 8304 rfl (by omega)), if_pos (own_gt 8591 rfl (by omega))]
  unfold f1_128_r; rw [if_neg (own_nlt 11264 rfl (by omega)), if_pos (own_gt 12271 rfl (by omega))]
  unfold f1_142_r; rw [if_neg (own_nlt 12289 rfl (by omega)), if_pos (own_gt 55295 rfl (by omega))]
  unfold f1_155_r; rw [if_neg (own_nlt 63744 rfl (by omega)), if_neg (own_ngt 64975 rfl (by omega))]
  rfl
theorem own_r26 (c : Int32) (h1 : 63744 ≤ c.toInt) (h2 : c.toInt < 64976) : own_ref c = 1 := by
  have g0 : (f3_0_r c (65 : Int32)) = 1 := if_neg (own_nlt 65 rfl (by omega))
  have g1 : (f3_0_r c (91 : Int32)) = 1 := if_neg (own_nlt 91 rfl (by omega))
  have g2 : (f3_0_r c (95 : Int32)) = 1 := if_neg (own_nlt 95 rfl (by omega))
  have g3 : (f3_0_r c (96 : Int32)) = 1 := if_neg (own_nlt 96 rfl (by omega))
  have g4 : (f3_0_r c (97 : Int32)) = 1 := if_neg (own_nlt 97 rfl (by omega))
  have g5 : (f3_0_r c (123 : Int32)) = 1 := if_neg (own_nlt 123 rfl (by omega))
  have g6 : (f3_0_r c (192 : Int32)) = 1 := if_neg (own_nlt 192 rfl (by omega))
  have g7 : (f3_0_r c (215 : Int32)) = 1 := if_neg (own_nlt 215 rfl (by omega))
  have g8 : (f3_0_r c (216 : Int32)) = 1 := if_neg (own_nlt 216 rfl (by omega))
  have g9 : (f3_0_r c (247 : Int32)) = 1 := if_neg (own_nlt 247 rfl (by omega))
  have g10 : (f3_0_r c (248 : Int32)) = 1 := if_neg (own_nlt 248 rfl (by omega))
  have g11 : (f3_0_r c (768 : Int32)) = 1 := if_neg (own_nlt 768 rfl (by omega))
  have g12 : (f3_0_r c (880 : Int32)) = 1 := if_neg (own_nlt 880 rfl (by omega))
  have g13 : (f3_0_r c (894 : Int32)) = 1 := if_neg (own_nlt 894 rfl (by omega))
  have g14 : (f3_0_r c (895 : Int32)) = 1 := if_neg (own_nlt 895 rfl (by omega))
  have g15 : (f3_0_r c (8192 : Int32)) = 1 := if_neg (own_nlt 8192 rfl (by omega))
  have g16 : (f3_0_r c (8204 : Int32)) = 1 := if_neg (own_nlt 8204 rfl (by omega))
  have g17 : (f3_0_r c (8206 : Int32)) = 1 := if_neg (own_nlt 8206 rfl (by omega))
  have g18 : (f3_0_r c (8304 : Int32)) = 1 := if_neg (own_nlt 8304 rfl (by omega))
  have g19 : (f3_0_r c (8592 : Int32)) = 1 := if_neg (own_nlt 8592 rfl (by omega))
  have g20 : (f3_0_r c (11264 : Int32)) = 1 := if_neg (own_nlt 11264 rfl (by omega))
  have g21 : (f3_0_r c (12272 : Int32)) = 1 := if_neg (own_nlt 12272 rfl (by omega))
  have g22 : (f3_0_r c (12289 : Int32)) = 1 := if_neg (own_nlt 12289 rfl (by omega))
  have g23 : (f3_0_r c (55296 : Int32)) = 1 := if_neg (own_nlt 55296 rfl (by omega))
  have g24 : (f3_0_r c (63744 : Int32)) = 1 := if_neg (own_nlt 63744 rfl (by omega))
  have g25 : (f3_0_r c (64976 : Int32)) = 0 := if_pos (own_lt 64976 rfl (by omega))
  have g26 : (f3_0_r c (65008 : Int32)) = 0 := if_pos (own_lt 65008 rfl (by omega))
  have g27 : (f3_0_r c (65534 : Int32)) = 0 := if_pos (own_lt 65534 rfl (by omega))
  have g28 : (f3_0_r c (65536 : Int32)) = 0 := if_pos (own_lt 65536 rfl (by omega))
  have g29 : (f3_0_r c (983040 : Int32)) = 0 := if_pos (own_lt 983040 rfl (by omega))
  have e0 : own_s0 c = _ := g0
  have e1 : own_s1 c = 2 := by unfold own_s1; rw [e0, g1]; rfl
  have e2 : own_s2 c = 3 := by unfold own_s2; rw [e1, g2]; rfl
  have e3 : own_s3 c = 4 := by unfold own_s3; rw [e2, g3]; rfl
  have e4 : own_s4 c = 5 := by unfold own_s4; rw [e3, g4]; rfl
  have e5 : own_s5 c = 6 := by unfold own_s5; rw [e4, g5]; rfl
  have e6 : own_s6 c = 7 := by unfold own_s6; rw [e5, g6]; rfl
  have e7 : own_s7 c = 8 := by unfold own_s7; rw [e6, g7]; rfl
  have e8 : own_s8 c = 9 := by unfold own_s8; rw [e7, g8]; rfl
  have e9 : own_s9 c = 10 := by unfold own_s9; rw [e8, g9]; rfl
  have e10 : own_s10 c = 11 := by unfold own_s10; rw [e9, g10]; rfl
  have e11 : own_s11 c = 12 := by unfold own_s11; rw [e10, g11]; rfl
  have e12 : own_s12 c = 13 := by unfold own_s12; rw [e11, g12]; rfl
  have e13 : own_s13 c = 14 := by unfold own_s13; rw [e12, g13]; rfl
  have e14 : own_s14 c = 15 := by unfold own_s14; rw [e13, g14]; rfl
  have e15 : own_s15 c = 16 := by unfold own_s15; rw [e14, g15]; rfl
  have e16 : own_s16 c = 17 := by unfold own_s16; rw [e15, g16]; rfl
  have e17 : own_s17 c = 18 := by unfold own_s17; rw [e16, g17]; rfl
  have e18 : own_s18 c = 19 := by unfold own_s18; rw [e17, g18]; rfl
  have e19 : own_s19 c = 20 := by unfold own_s19; rw [e18, g19]; rfl
  have e20 : own_s20 c = 21 := by unfold own_s20; rw [e19, g20]; rfl
  have e21 : own_s21 c = 22 := by unfold own_s21; rw [e20, g21]; rfl
  have e22 : own_s22 c = 23 := by unfold own_s22; rw [e21, g22]; rfl
  have e23 : own_s23 c = 24 := by unfold own_s23; rw [e22, g23]; rfl
  have e24 : own_s24 c = 25 := by unfold own_s24; rw [e23, g24]; rfl
  have e25 : own_s25 c = 25 := by unfold own_s25; rw [e24, g25]; rfl
  have e26 : own_s26 c = 25 := by unfold own_s26; rw [e25, g26]; rfl
  have e27 : own_s27 c = 25 := by unfold own_s27; rw [e26, g27]; rfl
  have e28 : own_s28 c = 25 := by unfold own_s28; rw [e27, g28]; rfl
  have e29 : own_s29 c = 25 := by unfold own_s29; rw [e28, g29]; rfl
  unfold own_ref; rw [e29]; decide
theorem own_f27 (c : Int32) (h1 : 64976 ≤ c.toInt) (h2 : c.toInt < 65008) : f1_0_r c = 0 := by
  unfold f1_0_r; rw [if_neg (own_nlt 97 rfl (by omega)), if_pos (own_gt 122 rfl (by omega))]
  unfold f1_12_r; rw [if_neg (own_nlt 65 rfl (by omega)), if_pos (own_gt 90 rfl (by omega))]
  unfold f1_24_r; rw [if_neg (own_ne 95 rfl (by omega)), if_neg (own_nlt 192 rfl (by omega)), if_pos (own_gt 214 rfl (by omega))]
  unfold f1_44_r; rw [if_neg (own_nlt 216 rfl (by omega)), if_pos (own_gt 246 rfl (by omega))]
  unfold f1_58_r; rw [if_neg (own_nlt 248 rfl (by omega)), if_pos (own_gt 767 rfl (by omega))]
  unfold f1_72_r; rw [if_neg (own_nlt 880 rfl (by omega)), if_pos (own_gt 893 rfl (by omega))]
  unfold f1_86_r; rw [if_neg (own_nlt 895 rfl (by omega)), if_pos (own_gt 8191 rfl (by omega))]
  unfold f1_100_r; rw [if_neg (own_ne 8204 rfl (by omega)), if_neg (own_ne 8205 rfl (by omega)), if_neg (own_nlt 8304 rfl (by omega)), if_pos (own_gt 8591 rfl (by omega))]
  unfold f1_128_r; rw [if_neg (own_nlt 11264 rfl (by omega)), if_pos (own_gt 12271 rfl (by omega))]
  unfold f1_142_r; rw [if_neg (own_nlt 12289 rfl (by omega)), if_pos (own_gt 55295 rfl (by omega))]
  unfold f1_155_r; rw [if_neg (own_nlt 63744 rfl (by omega)), if_pos (own_gt 64975 rfl (by omega))]
  unfold f1_167_r; rw [if_pos (own_lt 65008 rfl (by omega))]
  unfold f1_179_r; rw [if_pos (own_lt 65536 rfl (by omega))]
  rfl
theorem own_r27 (c : Int32) (h1 : 64976 ≤ c.toInt) (h2 : c.toInt < 65008) : own_ref c = 0 := by
  have g0 : (f3_0_r c (65 : Int32)) = 1 := if_neg (own_nlt 65 rfl (by omega))
  have g1 : (f3_0_r c (91 : Int32)) = 1 := if_neg (own_nlt 91 rfl (by omega))
  have g2 : (f3_0_r c (95 : Int32)) = 1 := if_neg (own_nlt 95 rfl (by omega))
  have g3 : (f3_0_r c (96 : Int32)) = 1 := if_neg (own_nlt 96 rfl (by omega))
  have g4 : (f3_0_r c (97 : Int32)) = 1 := if_neg (own_nlt 97 rfl (by omega))
  have g5 : (f3_0_r c (123 : Int32)) = 1 := if_neg (own_nlt 123 rfl (by omega))
  have g6 : (f3_0_r c (192 : Int32)) = 1 := if_neg (own_nlt 192 rfl (by omega))
  have g7 : (f3_0_r c (215 : Int32)) = 1 := if_neg (own_nlt 215 rfl (by omega))
  have g8 : (f3_0_r c (216 : Int32)) = 1 := if_neg (own_nlt 216 rfl (by omega))
  have g9 : (f3_0_r c (247 : Int32)) = 1 := if_neg (own_nlt 247 rfl (by omega))
  have g10 : (f3_0_r c (248 : Int32)) = 1 := if_neg (own_nlt 248 rfl (by omega))
  have g11 : (f3_0_r c (768 : Int32)) = 1 := if_neg (own_nlt 768 rfl (by omega))
  have g12 : (f3_0_r c (880 : Int32)) = 1 := if_neg (own_nlt 880 rfl (by omega))
  have g13 : (f3_0_r c (894 : Int32)) = 1 := if_neg (own_nlt 894 rfl (by omega))
  have g14 : (f3_0_r c (895 : Int32)) = 1 := if_neg (own_nlt 895 rfl (by omega))
  have g15 : (f3_0_r c (8192 : Int32)) = 1 := if_neg (own_nlt 8192 rfl (by omega))
  have g16 : (f3_0_r c (8204 : Int32)) = 1 := if_neg (own_nlt 8204 rfl (by omega))
  have g17 : (f3_0_r c (8206 : Int32)) = 1 := if_neg (own_nlt 8206 rfl (by omega))
  have g18 : (f3_0_r c (8304 : Int32)) = 1 := if_neg (own_nlt 8304 rfl (by omega))
  have g19 : (f3_0_r c (8592 : Int32)) = 1 := if_neg (own_nlt 8592 rfl (by omega))
  have g20 : (f3_0_r c (11264 : Int32)) = 1 := if_neg (own_nlt 11264 rfl (by omega))
  have g21 : (f3_0_r c (12272 : Int32)) = 1 := if_neg (own_nlt 12272 rfl (by omega))
  have g22 : (f3_0_r c (12289 : Int32)) = 1 := if_neg (own_nlt 12289 rfl (by omega))
  have g23 : (f3_0_r c (55296 : Int32)) = 1 := if_neg (own_nlt 55296 rfl (by omega))
  have g24 : (f3_0_r c (63744 : Int32)) = 1 := if_neg (own_nlt 63744 rfl (by omega))
  have g25 : (f3_0_r c (64976 : Int32)) = 1 := if_neg (own_nlt 64976 rfl (by omega))
  have g26 : (f3_0_r c (65008 : Int32)) = 0 := if_pos (own_lt 65008 rfl (by omega))
  have g27 : (f3_0_r c (65534 : Int32)) = 0 := if_pos (own_lt 65534 rfl (by omega))
  have g28 : (f3_0_r c (65536 : Int32)) = 0 := if_pos (own_lt 65536 rfl (by omega))
  have g29 : (f3_0_r c (983040 : Int32)) = 0 := if_pos (own_lt 983040 rfl (by omega))
  have e0 : own_s0 c = _ := g0
  have e1 : own_s1 c = 2 := by unfold own_s1; rw [e0, g1]; rfl
  have e2 : own_s2 c = 3 := by unfold own_s2; rw [e1, g2]; rfl
  have e3 : own_s3 c = 4 := by unfold own_s3; rw [e2, g3]; rfl
  have e4 : own_s4 c = 5 := by unfold own_s4; rw [e3, g4]; rfl
  have e5 : own_s5 c = 6 := by unfold own_s5; rw [e4, g5]; rfl
  have e6 : own_s6 c = 7 := by unfold own_s6; rw [e5, g6]; rfl
  have e7 : own_s7 c = 8 := by unfold own_s7; rw [e6, g7]; rfl
  have e8 : own_s8 c = 9 := by unfold own_s8; rw [e7, g8]; rfl
  have e9 : own_s9 c = 10 := by unfold own_s9; rw [e8, g9]; rfl
  have e10 : own_s10 c = 11 := by unfold own_s10; rw [e9, g10]; rfl
  have e11 : own_s11 c = 12 := by unfold own_s11; rw [e10, g11]; rfl
  have e12 : own_s12 c = 13 := by unfold own_s12; rw [e11, g12]; rfl
  have e13 : own_s13 c = 14 := by unfold own_s13; rw [e12, g13]; rfl
  have e14 : own_s14 c = 15 := by unfold own_s14; rw [e13, g14]; rfl
  have e15 : own_s15 c = 16 := by unfold own_s15; rw [e14, g15]; rfl
  have e16 : own_s16 c = 17 := by unfold own_s16; rw [e15, g16]; rfl
  have e17 : own_s17 c = 18 := by unfold own_s17; rw [e16, g17]; rfl
  have e18 : own_s18 c = 19 := by unfold own_s18; rw [e17, g18]; rfl
  have e19 : own_s19 c = 20 := by unfold own_s19; rw [e18, g19]; rfl
  have e20 : own_s20 c = 21 := by unfold own_s20; rw [e19, g20]; rfl
  have e21 : own_s21 c = 22 := by unfold own_s21; rw [e20, g21]; rfl
  have e22 : own_s22 c = 23 := by unfold own_s22; rw [e21, g22]; rfl
  have e23 : own_s23 c = 24 := by unfold own_s23; rw [e22, g23]; rfl
  have e24 : own_s24 c = 25 := by unfold own_s24; rw [e23, g24]; rfl
  have e25 : own_s25 c = 26 := by unfold own_s25; rw [e24, g25]; rfl
  have e26 : own_s26 c = 26 := by unfold own_s26; rw [e25, g26]; rfl
  have e27 : own_s27 c = 26 := by unfold own_s27; rw [e26, g27]; rfl
  have e28 : own_s28 c = 26 := by unfold own_s28; rw [e27, g28]; rfl
  have e29 : own_s29 c = 26 := by unfold own_s29; rw [e28, g29]; rfl
  unfold own_ref; rw [e29]; decide
theorem own_f28 (c : Int32) (h1 : 65008 ≤ c.toInt) (h2 : c.toInt < 65534) : f1_0_r c = 1 := by
  unfold f1_0_r; rw [if_neg (own_nlt 97 rfl (by omega)), if_pos (own_gt 122 rfl (by omega))]
  unfold f1_12_r; rw [if_neg (own_nlt 65 rfl (by omega)), if_pos (own_gt 90 rfl (by omega))]
  unfold f1_24_r; rw [if_neg (own_ne 95 rfl (by omega)), if_neg (own_nlt 192 rfl (by omega)), if_pos (own_gt 214 rfl (by omega))]
  unfold f1_44_r; rw [if_neg (own_nlt 216 rfl (by omega)), if_pos (own_gt 246 rfl (by omega))]
  unfold f1_58_r; rw [if_neg (own_nlt 248 rfl (by omega)), if_pos (own_gt 767 rfl (by omega))]
  unfold f1_72_r; rw [if_neg (own_nlt 880 rfl (by omega)), if_pos (own_gt 893 rfl (by omega))]
  unfold f1_86_r; rw [if_neg (own_nlt 895 rfl (by omega)), if_pos (own_gt 8191 rfl (by omega))]
  unfold f1_100_r; rw [if_neg (own_ne 8204 rfl (by omega)), if_neg (own_ne 8205 rfl (by omega)), if_neg (own_nlt 8304 rfl (by omega)), if_pos (own_gt 8591 rfl (by omega))]
  unfold f1_128_r; rw [if_neg (own_nlt 11264 rfl (by omega)), if_pos (own_gt 12271 rfl (by omega))]
  unfold f1_142_r; rw [if_neg (own_nlt 12289 rfl (by omega)), if_pos (own_gt 55295 rfl (by omega))]
  unfold f1_155_r; rw [if_neg (own_nlt 63744 rfl (by omega)), if_pos (own_gt 64975 rfl (by omega))]
  unfold f1_167_r; rw [if_neg (own_nlt 65008 rfl (by omega)), if_neg (own_ngt 65533 rfl (by omega))]
  rfl
theorem own_r28 (c : Int32) (h1 : 65008 ≤ c.toInt) (h2 : c.toInt < 65534) : own_ref c = 1 := by
  have g0 : (f3_0_r c (65 : Int32)) = 1 := if_neg (own_nlt 65 rfl (by omega))
  have g1 : (f3_0_r c (91 : Int32)) = 1 := if_neg (own_nlt 91 rfl (by omega))
  have g2 : (f3_0_r c (95 : Int32)) = 1 := if_neg (own_nlt 95 rfl (by omega))
  have g3 : (f3_0_r c (96 : Int32)) = 1 := if_neg (own_nlt 96 rfl (by omega))
  have g4 : (f3_0_r c (97 : Int32)) = 1 := if_neg (own_nlt 97 rfl (by omega))
  have g5 : (f3_0_r c (123 : Int32)) = 1 := if_neg (own_nlt 123 rfl (by omega))
  have g6 : (f3_0_r c (192 : Int32)) = 1 := if_neg (own_nlt 192 rfl (by omega))
  have g7 : (f3_0_r c (215 : Int32)) = 1 := if_neg (own_nlt 215 rfl (by omega))
  have g8 : (f3_0_r c (216 : Int32)) = 1 := if_neg (own_nlt 216 rfl (by omega))
  have g9 : (f3_0_r c (247 : Int32)) = 1 := if_neg (own_nlt 247 rfl (by omega))
  have g10 : (f3_0_r c (248 : Int32)) = 1 := if_neg (own_nlt 248 rfl (by omega))
  have g11 : (f3_0_r c (768 : Int32)) = 1 := if_neg (own_nlt 768 rfl (by omega))
  have g12 : (f3_0_r c (880 : Int32)) = 1 := if_neg (own_nlt 880 rfl (by omega))
  have g13 : (f3_0_r c (894 : Int32)) = 1 := if_neg (own_nlt 894 rfl (by omega))
  have g14 : (f3_0_r c (895 : Int32)) = 1 := if_neg (own_nlt 895 rfl (by omega))
  have g15 : (f3_0_r c (8192 : Int32)) = 1 := if_neg (own_nlt 8192 rfl (by omega))
  have g16 : (f3_0_r c (8204 : Int32)) = 1 := if_neg (own_nlt 8204 rfl (by omega))
  have g17 : (f3_0_r c (8206 : Int32)) = 1 := if_neg (own_nlt 8206 rfl (by omega))
  have g18 : (f3_0_r c (8304 : Int32)) = 1 := if_neg (own_nlt 8304 rfl (by omega))
  have g19 : (f3_0_r c (8592 : Int32)) = 1 := if_neg (own_nlt 8592 rfl (by omega))
  have g20 : (f3_0_r c (11264 : Int32)) = 1 := if_neg (own_nlt 11264 rfl (by omega))
  have g21 : (f3_0_r c (12272 : Int32)) = 1 := if_neg (own_nlt 12272 rfl (by omega))
  have g22 : (f3_0_r c (12289 : Int32)) = 1 := if_neg (own_nlt 12289 rfl (by omega))
  have g23 : (f3_0_r c (55296 : Int32)) = 1 := if_neg (own_nlt 55296 rfl (by omega))
  have g24 : (f3_0_r c (63744 : Int32)) = 1 := if_neg (own_nlt 63744 rfl (by omega))
  have g25 : (f3_0_r c (64976 : Int32)) = 1 := if_neg (own_nlt 64976 rfl (by omega))
  have g26 : (f3_0_r c (65008 : Int32)) = 1 := if_neg (own_nlt 65008 rfl (by omega))
  have g27 : (f3_0_r c (65534 : Int32)) = 0 := if_pos (own_lt 65534 rfl (by omega))
  have g28 : (f3_0_r c (65536 : Int32)) = 0 := if_pos (own_lt 65536 rfl (by omega))
  have g29 : (f3_0_r c (983040 : Int32)) = 0 := if_pos (own_lt 983040 rfl (by omega))
  have e0 : own_s0 c = _ := g0
  have e1 : own_s1 c = 2 := by unfold own_s1; rw [e0, g1]; rfl
  have e2 : own_s2 c = 3 := by unfold own_s2; rw [e1, g2]; rfl
  have e3 : own_s3 c = 4 := by unfold own_s3; rw [e2, g3]; rfl
  have e4 : own_s4 c = 5 := by unfold own_s4; rw [e3, g4]; rfl
  have e5 : own_s5 c = 6 := by unfold own_s5; rw [e4, g5]; rfl
  have e6 : own_s6 c = 7 := by unfold own_s6; rw [e5, g6]; rfl
  have e7 : own_s7 c = 8 := by unfold own_s7; rw [e6, g7]; rfl
  have e8 : own_s8 c = 9 := by unfold own_s8; rw [e7, g8]; rfl
  have e9 : own_s9 c = 10 := by unfold own_s9; rw [e8, g9]; rfl
  have e10 : own_s10 c = 11 := by unfold own_s10; rw [e9, g10]; rfl
  have e11 : own_s11 c = 12 := by unfold own_s11; rw [e10, g11]; rfl
  have e12 : own_s12 c = 13 := by unfold own_s12; rw [e11, g12]; rfl
  have e13 : own_s13 c = 14 := by unfold own_s13; rw [e12, g13]; rfl
  have e14 : own_s14 c = 15 := by unfold own_s14; rw [e13, g14]; rfl
  have e15 : own_s15 c = 16 := by unfold own_s15; rw [e14, g15]; rfl
  have e16 : own_s16 c = 17 := by unfold own_s16; rw [e15, g16]; rfl
  have e17 : own_s17 c = 18 := by unfold own_s17; rw [e16, g17]; rfl
  have e18 : own_s18 c = 19 := by unfold own_s18; rw [e17, g18]; rfl
  have e19 : own_s19 c = 20 := by unfold own_s19; rw [e18, g19]; rfl
  have e20 : own_s20 c = 21 := by unfold own_s20; rw [e19, g20]; rfl
  have e21 : own_s21 c = 22 := by unfold own_s21; rw [e20, g21]; rfl
  have e22 : own_s22 c = 23 := by unfold own_s22; rw [e21, g22]; rfl
  have e23 : own_s23 c = 24 := by unfold own_s23; rw [e22, g23]; rfl
  have e24 : own_s24 c = 25 := by unfold own_s24; rw [e23, g24]; rfl
  have e25 : own_s25 c = 26 := by unfold own_s25; rw [e24, g25]; rfl
  have e26 : own_s26 c = 27 := by unfold own_s26; rw [e25, g26]; rfl
  have e27 : own_s27 c = 27 := by unfold own_s27; rw [e26, g27]; rfl
  have e28 : own_s28 c = 27 := by unfold own_s28; rw [e27, g28]; rfl
  have e29 : own_s29 c = 27 := by unfold own_s29; rw [e28, g29]; rfl
  unfold own_ref; rw [e29]; decide
theorem own_f29 (c : Int32) (h1 : 65534 ≤ c.toInt) (h2 : c.toInt < 65536) : f1_0_r c = 0 := by
  unfold f1_0_r; rw [if_neg (own_nlt 97 rfl (by omega)), if_pos (own_gt 122 rfl (by omega))]
  unfold f1_12_r; rw [if_neg (own_nlt 65 rfl (by omega)), if_pos (own_gt 90 rfl (by omega))]
  unfold f1_24_r; rw [if_neg (own_ne 95 rfl (by omega)), if_neg (own_nlt 192 rfl (by omega)), if_pos (own_gt 214 rfl (by omega))]
  unfold f1_44_r; rw [if_neg (own_nlt 216 rfl (by omega)), if_pos (own_gt 246 rfl (by omega))]
  unfold f1_58_r; rw [if_neg (own_nlt 248 rfl (by omega)), if_pos (own_gt 767 rfl (by omega))]
  unfold f1_72_r; rw [if_neg (own_nlt 880 rfl (by omega)), if_pos (own_gt 893 rfl (by omega))]
  unfold f1_86_r; rw [if_neg (own_nlt 895 rfl (by omega)), if_pos (own_gt 8191 rfl (by omega))]
  unfold f1_100_r; rw [if_neg (own_ne 8204 rfl (by omega)), if_neg (own_ne 8205 rfl (by omega)), if_neg (own_nlt 8304 rfl (by omega)), if_pos (own_gt 8591 rfl (by omega))]
  unfold f1_128_r; rw [if_neg (own_nlt 11264 rfl (by omega)), if_pos (own_gt 12271 rfl (by omega))]
  unfold f1_142_r; rw [if_neg (own_nlt 12289 rfl (by omega)), if_pos (own_gt 55295 rfl (by omega))]
  unfold f1_155_r; rw [if_neg (own_nlt 63744 rfl (by omega)), if_pos (own_gt 64975 rfl (by omega))]
  unfold f1_167_r; rw [if_neg (own_nlt 65008 rfl (by omega)), if_pos (own_gt 65533 rfl (by omega))]
  unfold f1_179_r; rw [if_pos (own_lt 65536 rfl (by omega))]
  rfl
theorem own_r29 (c : Int32) (h1 : 65534 ≤ c.toInt) (h2 : c.toInt < 65536) : own_ref c = 0 := by
  have g0 : (f3_0_r c (65 : Int32)) = 1 := if_neg (own_nlt 65 rfl (by omega))
  have g1 : (f3_0_r c (91 : Int32)) = 1 := if_neg (own_nlt 91 rfl (by omega))
  have g2 : (f3_0_r c (95 : Int32)) = 1 := if_neg (own_nlt 95 rfl (by omega))
  have g3 : (f3_0_r c (96 : Int32)) = 1 := if_neg (own_nlt 96 rfl (by omega))
  have g4 : (f3_0_r c (97 : Int32)) = 1 := if_neg (own_nlt 97 rfl (by omega))
  have g5 : (f3_0_r c (123 : Int32)) = 1 := if_neg (own_nlt 123 rfl (by omega))
  have g6 : (f3_0_r c (192 : Int32)) = 1 := if_neg (own_nlt 192 rfl (by omega))
  have g7 : (f3_0_r c (215 : Int32)) = 1 := if_neg (own_nlt 215 rfl (by omega))
  have g8 : (f3_0_r c (216 : Int32)) = 1 := if_neg (own_nlt 216 rfl (by omega))
  have g9 : (f3_0_r c (247 : Int32)) = 1 := if_neg (own_nlt 247 rfl (by omega))
  have g10 : (f3_0_r c (248 : Int32)) = 1 := if_neg (own_nlt 248 rfl (by omega))
  have g11 : (f3_0_r c (768 : Int32)) = 1 := if_neg (own_nlt 768 rfl (by omega))
  have g12 : (f3_0_r c (880 : Int32)) = 1 := if_neg (own_nlt 880 rfl (by omega))
  have g13 : (f3_0_r c (894 : Int32)) = 1 := if_neg (own_nlt 894 rfl (by omega))
  have g14 : (f3_0_r c (895 : Int32)) = 1 := if_neg (own_nlt 895 rfl (by omega))
  have g15 : (f3_0_r c (8192 : Int32)) = 1 := if_neg (own_nlt 8192 rfl (by omega))
  have g16 : (f3_0_r c (8204 : Int32)) = 1 := if_neg (own_nlt 8204 rfl (by omega))
  have g17 : (f3_0_r c (8206 : Int32)) = 1 := if_neg (own_nlt 8206 rfl (by omega))
  have g18 : (f3_0_r c (8304 : Int32)) = 1 := if_neg (own_nlt 8304 rfl (by omega))
  have g19 : (f3_0_r c (8592 : Int32)) = 1 := if_neg (own_nlt 8592 rfl (by omega))
  have g20 : (f3_0_r c (11264 : Int32)) = 1 := if_neg (own_nlt 11264 rfl (by omega))
  have g21 : (f3_0_r c (12272 : Int32)) = 1 := if_neg (own_nlt 12272 rfl (by omega))
  have g22 : (f3_0_r c (12289 : Int32)) = 1 := if_neg (own_nlt 12289 rfl (by omega))
  have g23 : (f3_0_r c (55296 : Int32)) = 1 := if_neg (own_nlt 55296 rfl (by omega))
  have g24 : (f3_0_r c (63744 : Int32)) = 1 := if_neg (own_nlt 63744 rfl (by omega))
  have g25 : (f3_0_r c (64976 : Int32)) = 1 := if_neg (own_nlt 64976 rfl (by omega))
  have g26 : (f3_0_r c (65008 : Int32)) = 1 := if_neg (own_nlt 65008 rfl (by omega))
  have g27 : (f3_0_r c (65534 : Int32)) = 1 := if_neg (own_nlt 65534 rfl (by omega))
  have g28 : (f3_0_r c (65536 : Int32)) = 0 := if_pos (own_lt 65536 rfl (by omega))
  have g29 : (f3_0_r c (983040 : Int32)) = 0 := if_pos (own_lt 983040 rfl (by omega))
  have e0 : own_s0 c = _ := g0
  have e1 : own_s1 c = 2 := by unfold own_s1; rw [e0, g1]; rfl
  have e2 : own_s2 c = 3 := by unfold own_s2; rw [e1, g2]; rfl
  have e3 : own_s3 c = 4 := by unfold own_s3; rw [e2, g3]; rfl
  have e4 : own_s4 c = 5 := by unfold own_s4; rw [e3, g4]; rfl
  have e5 : own_s5 c = 6 := by unfold own_s5; rw [e4, g5]; rfl
  have e6 : own_s6 c = 7 := by unfold own_s6; rw [e5, g6]; rfl
  have e7 : own_s7 c = 8 := by unfold own_s7; rw [e6, g7]; rfl
  have e8 : own_s8 c = 9 := by unfold own_s8; rw [e7, g8]; rfl
  have e9 : own_s9 c = 10 := by unfold own_s9; rw [e8, g9]; rfl
  have e10 : own_s10 c = 11 := by unfold own_s10; rw [e9, g10]; rfl
  have e11 : own_s11 c = 12 := by unfold own_s11; rw [e10, g11]; rfl
  have e12 : own_s12 c = 13 := by unfold own_s12; rw [e11, g12]; rfl
  have e13 : own_s13 c = 14 := by unfold own_s13; rw [e12, g13]; rfl
  have e14 : own_s14 c = 15 := by unfold own_s14; rw [e13, g14]; rfl
  have e15 : own_s15 c = 16 := by unfold own_s15; rw [e14, g15]; rfl
  have e16 : own_s16 c = 17 := by unfold own_s16; rw [e15, g16]; rfl
  have e17 : own_s17 c = 18 := by unfold own_s17; rw [e16, g17]; rfl
  have e18 : own_s18 c = 19 := by unfold own_s18; rw [e17, g18]; rfl
  have e19 : own_s19 c = 20 := by unfold own_s19; rw [e18, g19]; rfl
  have e20 : own_s20 c = 21 := by unfold own_s20; rw [e19, g20]; rfl
  have e21 : own_s21 c = 22 := by unfold own_s21; rw [e20, g21]; rfl
  have e22 : own_s22 c = 23 := by unfold own_s22; rw [e21, g22]; rfl
  have e23 : own_s23 c = 24 := by unfold own_s23; rw [e22, g23]; rfl
  have e24 : own_s24 c = 25 := by unfold own_s24; rw [e23, g24]; rfl
  have e25 : own_s25 c = 26 := by unfold own_s25; rw [e24, g25]; rfl
  have e26 : own_s26 c = 27 := by unfold own_s26; rw [e25, g26]; rfl
  have e27 : own_s27 c = 28 := by unfold own_s27; rw [e26, g27]; rfl
  have e28 : own_s28 c = 28 := by unfold own_s28; rw [e27, g28]; rfl
  have e29 : own_s29 c = 28 := by unfold own_s29; rw [e28, g29]; rfl
  unfold own_ref; rw [e29]; decide
theorem own_f30 (c : Int32) (h1 : 65536 ≤ c.toInt) (h2 : c.toInt < 983040) : f1_0_r c = 1 := by
  unfold f1_0_r; rw [if_neg (own_nlt 97 rfl (by omega)), if_pos (own_gt 122 rfl (by omega))]
  unfold f1_12_r; rw [if_neg (own_nlt 65 rfl (by omega)), if_pos (own_gt 90 rfl (by omega))]
  unfold f1_24_r; rw [if_neg (own_ne 95 rfl (by omega)), if_neg (own_nlt 192 rfl (by omega)), if_pos (own_gt 214 rfl (by omega))]
  unfold f1_44_r; rw [if_neg (own_nlt 216 rfl (by omega)), if_pos (own_gt 246 rfl (by omega))]
  unfold f1_58_r; rw [if_neg (own_nlt 248 rfl (by omega)), if_pos (own_gt 767 rfl (by omega))]
  unfold f1_72_r; rw [if_neg (own_nlt 880 rfl (by omega)), if_pos (own_gt 893 rfl (by omega))]
  unfold f1_86_r; rw [if_neg (own_nlt 895 rfl (by omega)), if_pos (own_gt 8191 rfl (by omega))]
  unfold f1_100_r; rw [if_neg (own_ne 8204 rfl (by omega)), if_neg (own_ne 8205 rfl (by omega)), if_neg (own_nlt 8304 rfl (by omega)), if_pos (own_gt 8591 rfl (by omega))]
  unfold f1_128_r; rw [if_neg (own_nlt 11264 rfl (by omega)), if_pos (own_gt 12271 rfl (by omega))]
  unfold f1_142_r; rw [if_neg (own_nlt 12289 rfl (by omega)), if_pos (own_gt 55295 rfl (by omega))]
  unfold f1_155_r; rw [if_neg (own_nlt 63744 rfl (by omega)), if_pos (own_gt 64975 rfl (by omega))]
  unfold f1_167_r; rw [if_neg (own_nlt 65008 rfl (by omega)), if_pos (own_gt 65533 rfl (by omega))]
  unfold f1_179_r; rw [if_neg (own_nlt 65536 rfl (by omega)), if_neg (own_ngt 983039 rfl (by omega))]
  rfl
theorem own_r30 (c : Int32) (h1 : 65536 ≤ c.toInt) (h2 : c.toInt < 983040) : own_ref c = 1 := by
  have g0 : (f3_0_r c (65 : Int32)) = 1 := if_neg (own_nlt 65 rfl (by omega))
  have g1 : (f3_0_r c (91 : Int32)) = 1 := if_neg (own_nlt 91 rfl (by omega))
  have g2 : (f3_0_r c (95 : Int32)) = 1 := if_neg (own_nlt 95 rfl (by omega))
  have g3 : (f3_0_r c (96 : Int32)) = 1 := if_neg (own_nlt 96 rfl (by omega))
  have g4 : (f3_0_r c (97 : Int32)) = 1 := if_neg (own_nlt 97 rfl (by omega))
  have g5 : (f3_0_r c (123 : Int32)) = 1 := if_neg (own_nlt 123 rfl (by omega))
  have g6 : (f3_0_r c (192 : Int32)) = 1 := if_neg (own_nlt 192 rfl (by omega))
  have g7 : (f3_0_r c (215 : Int32)) = 1 := if_neg (own_nlt 215 rfl (by omega))
  have g8 : (f3_0_r c (216 : Int32)) = 1 := if_neg (own_nlt 216 rfl (by omega))
  have g9 : (f3_0_r c (247 : Int32)) = 1 := if_neg (own_nlt 247 rfl (by omega))
  have g10 : (f3_0_r c (248 : Int32)) = 1 := if_neg (own_nlt 248 rfl (by omega))
  have g11 : (f3_0_r c (768 : Int32)) = 1 := if_neg (own_nlt 768 rfl (by omega))
  have g12 : (f3_0_r c (880 : Int32)) = 1 := if_neg (own_nlt 880 rfl (by omega))
  have g13 : (f3_0_r c (894 : Int32)) = 1 := if_neg (own_nlt 894 rfl (by omega))
  have g14 : (f3_0_r c (895 : Int32)) = 1 := if_neg (own_nlt 895 rfl (by omega))
  have g15 : (f3_0_r c (8192 : Int32)) = 1 := if_neg (own_nlt 8192 rfl (by omega))
  have g16 : (f3_0_r c (8204 : Int32)) = 1 := if_neg (own_nlt 8204 rfl (by omega))
  have g17 : (f3_0_r c (8206 : Int32)) = 1 := if_neg (own_nlt 8206 rfl (by omega))
  have g18 : (f3_0_r c (8304 : Int32)) = 1 := if_neg (own_nlt 8304 rfl (by omega))
  have g19 : (f3_0_r c (8592 : Int32)) = 1 := if_neg (own_nlt 8592 rfl (by omega))
  have g20 : (f3_0_r c (11264 : Int32)) = 1 := if_neg (own_nlt 11264 rfl (by omega))
  have g21 : (f3_0_r c (12272 : Int32)) = 1 := if_neg (own_nlt 12272 rfl (by omega))
  have g22 : (f3_0_r c (12289 : Int32)) = 1 := if_neg (own_nlt 12289 rfl (by omega))
  have g23 : (f3_0_r c (55296 : Int32)) = 1 := if_neg (own_nlt 55296 rfl (by omega))
  have g24 : (f3_0_r c (63744 : Int32)) = 1 := if_neg (own_nlt 63744 rfl (by omega))
  have g25 : (f3_0_r c (64976 : Int32)) = 1 := if_neg (own_nlt 64976 rfl (by omega))
  have g26 : (f3_0_r c (65008 : Int32)) = 1 := if_neg (own_nlt 65008 rfl (by omega))
  have g27 : (f3_0_r c (65534 : Int32)) = 1 := if_neg (own_nlt 65534 rfl (by omega))
  have g28 : (f3_0_r c (65536 : Int32)) = 1 := if_neg (own_nlt 65536 rfl (by omega))
  have g29 : (f3_0_r c (983040 : Int32)) = 0 := if_pos (own_lt 983040 rfl (by omega))
  have e0 : own_s0 c = _ := g0
  have e1 : own_s1 c = 2 := by unfold own_s1; rw [e0, g1]; rfl
  have e2 : own_s2 c = 3 := by unfold own_s2; rw [e1, g2]; rfl
  have e3 : own_s3 c = 4 := by unfold own_s3; rw [e2, g3]; rfl
  have e4 : own_s4 c = 5 := by unfold own_s4; rw [e3, g4]; rfl
  have e5 : own_s5 c = 6 := by unfold own_s5; rw [e4, g5]; rfl
  have e6 : own_s6 c = 7 := by unfold own_s6; rw [e5, g6]; rfl
  have e7 : own_s7 c = 8 := by unfold own_s7; rw [e6, g7]; rfl
  have e8 : own_s8 c = 9 := by unfold own_s8; rw [e7, g8]; rfl
  have e9 : own_s9 c = 10 := by unfold own_s9; rw [e8, g9]; rfl
  have e10 : own_s10 c = 11 := by unfold own_s10; rw [e9, g10]; rfl
  have e11 : own_s11 c = 12 := by unfold own_s11; rw [e10, g11]; rfl
  have e12 : own_s12 c = 13 := by unfold own_s12; rw [e11, g12]; rfl
  have e13 : own_s13 c = 14 := by unfold own_s13; rw [e12, g13]; rfl
  have e14 : own_s14 c = 15 := by unfold own_s14; rw [e13, g14]; rfl
  have e15 : own_s15 c = 16 := by unfold own_s15; rw [e14, g15]; rfl
  have e16 : own_s16 c = 17 := by unfold own_s16; rw [e15, g16]; rfl
  have e17 : own_s17 c = 18 := by unfold own_s17; rw [e16, g17]; rfl
  have e18 : own_s18 c = 19 := by unfold own_s18; rw [e17, g18]; rfl
  have e19 : own_s19 c = 20 := by unfold own_s19; rw [e18, g19]; rfl
  have e20 : own_s20 c = 21 := by unfold own_s20; rw [e19, g20]; rfl
  have e21 : own_s21 c = 22 := by unfold own_s21; rw [e20, g21]; rfl
  have e22 : own_s22 c = 23 := by unfold own_s22; rw [e21, g22]; rfl
  have e23 : own_s23 c = 24 := by unfold own_s23; rw [e22, g23]; rfl
  have e24 : own_s24 c = 25 := by unfold own_s24; rw [e23, g24]; rfl
  have e25 : own_s25 c = 26 := by unfold own_s25; rw [e24, g25]; rfl
  have e26 : own_s26 c = 27 := by unfold own_s26; rw [e25, g26]; rfl
  have e27 : own_s27 c = 28 := by unfold own_s27; rw [e26, g27]; rfl
  have e28 : own_s28 c = 29 := by unfold own_s28; rw [e27, g28]; rfl
  have e29 : own_s29 c = 29 := by unfold own_s29; rw [e28, g29]; rfl
  unfold own_ref; rw [e29]; decide
theorem own_f31 (c : Int32) (h1 : 983040 ≤ c.toInt) : f1_0_r c = 0 := by
  unfold f1_0_r; rw [if_neg (own_nlt 97 rfl (by omega)), if_pos (own_gt 122 rfl (by omega))]
  unfold f1_12_r; rw [if_neg (own_nlt 65 rfl (by omega)), if_pos (own_gt 90 rfl (by omega))]
  unfold f1_24_r; rw [if_neg (own_ne 95 rfl (by omega)), if_neg (own_nlt 192 rfl (by omega)), if_pos (own_gt 214 rfl (by omega))]
  unfold f1_44_r; rw [if_neg (own_nlt 216 rfl (by omega)), if_pos (own_gt 246 rfl (by omega))]
  unfold f1_58_r; rw [if_neg (own_nlt 248 rfl (by omega)), if_pos (own_gt 767 rfl (by omega))]
  unfold f1_72_r; rw [if_neg (own_nlt 880 rfl (by omega)), if_pos (own_gt 893 rfl (by omega))]
  unfold f1_86_r; rw [if_neg (own_nlt 895 rfl (by omega)), if_pos (own_gt 8191 rfl (by omega))]
  unfold f1_100_r; rw [if_neg (own_ne 8204 rfl (by omega)), if_neg (own_ne 8205 rfl (by omega)), if_neg (own_nlt 8304 rfl (by omega)), if_pos (own_gt 8591 rfl (by omega))]
  unfold f1_128_r; rw [if_neg (own_nlt 11264 rfl (by omega)), if_pos (own_gt 12271 rfl (by omega))]
  unfold f1_142_r; rw [if_neg (own_nlt 12289 rfl (by omega)), if_pos (own_gt 55295 rfl (by omega))]
  unfold f1_155_r; rw [if_neg (own_nlt 63744 rfl (by omega)), if_pos (own_gt 64975 rfl (by omega))]
  unfold f1_167_r; rw [if_neg (own_nlt 65008 rfl (by omega)), if_pos (own_gt 65533 rfl (by omega))]
  unfold f1_179_r; rw [if_neg (own_nlt 65536 rfl (by omega)), if_pos (own_gt 983039 rfl (by omega))]
  rfl
theorem own_r31 (c : Int32) (h1 : 983040 ≤ c.toInt) : own_ref c = 0 := by
  have g0 : (f3_0_r c (65 : Int32)) = 1 := if_neg (own_nlt 65 rfl (by omega))
  have g1 : (f3_0_r c (91 : Int32)) = 1 := if_neg (own_nlt 91 rfl (by omega))
  have g2 : (f3_0_r c (95 : Int32)) = 1 := if_neg (own_nlt 95 rfl (by omega))
  have g3 : (f3_0_r c (96 : Int32)) = 1 := if_neg (own_nlt 96 rfl (by omega))
  have g4 : (f3_0_r c (97 : Int32)) = 1 := if_neg (own_nlt 97 rfl (by omega))
  have g5 : (f3_0_r c (123 : Int32)) = 1 := if_neg (own_nlt 123 rfl (by omega))
  have g6 : (f3_0_r c (192 : Int32)) = 1 := if_neg (own_nlt 192 rfl (by omega))
  have g7 : (f3_0_r c (215 : Int32)) = 1 := if_neg (own_nlt 215 rfl (by omega))
  have g8 : (f3_0_r c (216 : Int32)) = 1 := if_neg (own_nlt 216 rfl (by omega))
  have g9 : (f3_0_r c (247 : Int32)) = 1 := if_neg (own_nlt 247 rfl (by omega))
  have g10 : (f3_0_r c (248 : Int32)) = 1 := if_neg (own_nlt 248 rfl (by omega))
  have g11 : (f3_0_r c (768 : Int32)) = 1 := if_neg (own_nlt 768 rfl (by omega))
  have g12 : (f3_0_r c (880 : Int32)) = 1 := if_neg (own_nlt 880 rfl (by omega))
  have g13 : (f3_0_r c (894 : Int32)) = 1 := if_neg (own_nlt 894 rfl (by omega))
  have g14 : (f3_0_r c (895 : Int32)) = 1 := if_neg (own_nlt 895 rfl (by omega))
  have g15 : (f3_0_r c (8192 : Int32)) = 1 := if_neg (own_nlt 8192 rfl (by omega))
  have g16 : (f3_0_r c (8204 : Int32)) = 1 := if_neg (own_nlt 8204 rfl (by omega))
  have g17 : (f3_0_r c (8206 : Int32)) = 1 := if_neg (own_nlt 8206 rfl (by omega))
  have g18 : (f3_0_r c (8304 : Int32)) = 1 := if_neg (own_nlt 8304 rfl (by omega))
  have g19 : (f3_0_r c (8592 : Int32)) = 1 := if_neg (own_nlt 8592 rfl (by omega))
  have g20 : (f3_0_r c (11264 : Int32)) = 1 := if_neg (own_nlt 11264 rfl (by omega))
  have g21 : (f3_0_r c (12272 : Int32)) = 1 := if_neg (own_nlt 12272 rfl (by omega))
  have g22 : (f3_0_r c (12289 : Int32)) = 1 := if_neg (own_nlt 12289 rfl (by omega))
  have g23 : (f3_0_r c (55296 : Int32)) = 1 := if_neg (own_nlt 55296 rfl (by omega))
  have g24 : (f3_0_r c (63744 : Int32)) = 1 := if_neg (own_nlt 63744 rfl (by omega))
  have g25 : (f3_0_r c (64976 : Int32)) = 1 := if_neg (own_nlt 64976 rfl (by omega))
  have g26 : (f3_0_r c (65008 : Int32)) = 1 := if_neg (own_nlt 65008 rfl (by omega))
  have g27 : (f3_0_r c (65534 : Int32)) = 1 := if_neg (own_nlt 65534 rfl (by omega))
  have g28 : (f3_0_r c (65536 : Int32)) = 1 := if_neg (own_nlt 65536 rfl (by omega))
  have g29 : (f3_0_r c (983040 : Int32)) = 1 := if_neg (own_nlt 983040 rfl (by omega))
  have e0 : own_s0 c = _ := g0
  have e1 : own_s1 c = 2 := by unfold own_s1; rw [e0, g1]; rfl
  have e2 : own_s2 c = 3 := by unfold own_s2; rw [e1, g2]; rfl
  have e3 : own_s3 c = 4 := by unfold own_s3; rw [e2, g3]; rfl
  have e4 : own_s4 c = 5 := by unfold own_s4; rw [e3, g4]; rfl
  have e5 : own_s5 c = 6 := by unfold own_s5; rw [e4, g5]; rfl
  have e6 : own_s6 c = 7 := by unfold own_s6; rw [e5, g6]; rfl
  have e7 : own_s7 c = 8 := by unfold own_s7; rw [e6, g7]; rfl
  have e8 : own_s8 c = 9 := by unfold own_s8; rw [e7, g8]; rfl
  have e9 : own_s9 c = 10 := by unfold own_s9; rw [e8, g9]; rfl
  have e10 : own_s10 c = 11 := by unfold own_s10; rw [e9, g10]; rfl
  have e11 : own_s11 c = 12 := by unfold own_s11; rw [e10, g11]; rfl
  have e12 : own_s12 c = 13 := by unfold own_s12; rw [e11, g12]; rfl
  have e13 : own_s13 c = 14 := by unfold own_s13; rw [e12, g13]; rfl
  have e14 : own_s14 c = 15 := by unfold own_s14; rw [e13, g14]; rfl
  have e15 : own_s15 c = 16 := by unfold own_s15; rw [e14, g15]; rfl
  have e16 : own_s16 c = 17 := by unfold own_s16; rw [e15, g16]; rfl
  have e17 : own_s17 c = 18 := by unfold own_s17; rw [e16, g17]; rfl
  have e18 : own_s18 c = 19 := by unfold own_s18; rw [e17, g18]; rfl
  have e19 : own_s19 c = 20 := by unfold own_s19; rw [e18, g19]; rfl
  have e20 : own_s20 c = 21 := by unfold own_s20; rw [e19, g20]; rfl
  have e21 : own_s21 c = 22 := by unfold own_s21; rw [e20, g21]; rfl
  have e22 : own_s22 c = 23 := by unfold own_s22; rw [e21, g22]; rfl
  have e23 : own_s23 c = 24 := by unfold own_s23; rw [e22, g23]; rfl
  have e24 : own_s24 c = 25 := by unfold own_s24; rw [e23, g24]; rfl
  have e25 : own_s25 c = 26 := by unfold own_s25; rw [e24, g25]; rfl
  have e26 : own_s26 c = 27 := by unfold own_s26; rw [e25, g26]; rfl
  have e27 : own_s27 c = 28 := by unfold own_s27; rw [e26, g27]; rfl
  have e28 : own_s28 c = 29 := by unfold own_s28; rw [e27, g28]; rfl
  have e29 : own_s29 c = 30 := by unfold own_s29; rw [e28, g29]; rfl
  unfold own_ref; rw [e29]; decide
theorem own_law (c : Int32) : f1_0_r c = own_ref c := by
  rcases Int.lt_or_le c.toInt 65 with h0 | h0
  · rw [own_f0 c h0, own_r0 c h0]
  rcases Int.lt_or_le c.toInt 91 with h1 | h1
  · rw [own_f1 c h0 h1, own_r1 c h0 h1]
  rcases Int.lt_or_le c.toInt 95 with h2 | h2
  · rw [own_f2 c h1 h2, own_r2 c h1 h2]
  rcases Int.lt_or_le c.toInt 96 with h3 | h3
  · rw [own_f3 c h2 h3, own_r3 c h2 h3]
  rcases Int.lt_or_le c.toInt 97 with h4 | h4
  · rw [own_f4 c h3 h4, own_r4 c h3 h4]
  rcases Int.lt_or_le c.toInt 123 with h5 | h5
  · rw [own_f5 c h4 h5, own_r5 c h4 h5]
  rcases Int.lt_or_le c.toInt 192 with h6 | h6
  · rw [own_f6 c h5 h6, own_r6 c h5 h6]
  rcases Int.lt_or_le c.toInt 215 with h7 | h7
  · rw [own_f7 c h6 h7, own_r7 c h6 h7]
  rcases Int.lt_or_le c.toInt 216 with h8 | h8
  · rw [own_f8 c h7 h8, own_r8 c h7 h8]
  rcases Int.lt_or_le c.toInt 247 with h9 | h9
  · rw [own_f9 c h8 h9, own_r9 c h8 h9]
  rcases Int.lt_or_le c.toInt 248 with h10 | h10
  · rw [own_f10 c h9 h10, own_r10 c h9 h10]
  rcases Int.lt_or_le c.toInt 768 with h11 | h11
  · rw [own_f11 c h10 h11, own_r11 c h10 h11]
  rcases Int.lt_or_le c.toInt 880 with h12 | h12
  · rw [own_f12 c h11 h12, own_r12 c h11 h12]
  rcases Int.lt_or_le c.toInt 894 with h13 | h13
  · rw [own_f13 c h12 h13, own_r13 c h12 h13]
  rcases Int.lt_or_le c.toInt 895 with h14 | h14
  · rw [own_f14 c h13 h14, own_r14 c h13 h14]
  rcases Int.lt_or_le c.toInt 8192 with h15 | h15
  · rw [own_f15 c h14 h15, own_r15 c h14 h15]
  rcases Int.lt_or_le c.toInt 8204 with h16 | h16
  · rw [own_f16 c h15 h16, own_r16 c h15 h16]
  rcases Int.lt_or_le c.toInt 8205 with h17 | h17
  · rw [own_f17 c h16 h17, own_r17 c h16 h17]
  rcases Int.lt_or_le c.toInt 8206 with h18 | h18
  · rw [own_f18 c h17 h18, own_r18 c h17 h18]
  rcases Int.lt_or_le c.toInt 8304 with h19 | h19
  · rw [own_f19 c h18 h19, own_r19 c h18 h19]
  rcases Int.lt_or_le c.toInt 8592 with h20 | h20
  · rw [own_f20 c h19 h20, own_r20 c h19 h20]
  rcases Int.lt_or_le c.toInt 11264 with h21 | h21
  · rw [own_f21 c h20 h21, own_r21 c h20 h21]
  rcases Int.lt_or_le c.toInt 12272 with h22 | h22
  · rw [own_f22 c h21 h22, own_r22 c h21 h22]
  rcases Int.lt_or_le c.toInt 12289 with h23 | h23
  · rw [own_f23 c h22 h23, own_r23 c h22 h23]
  rcases Int.lt_or_le c.toInt 55296 with h24 | h24
  · rw [own_f24 c h23 h24, own_r24 c h23 h24]
  rcases Int.lt_or_le c.toInt 63744 with h25 | h25
  · rw [own_f25 c h24 h25, own_r25 c h24 h25]
  rcases Int.lt_or_le c.toInt 64976 with h26 | h26
  · rw [own_f26 c h25 h26, own_r26 c h25 h26]
  rcases Int.lt_or_le c.toInt 65008 with h27 | h27
  · rw [own_f27 c h26 h27, own_r27 c h26 h27]
  rcases Int.lt_or_le c.toInt 65534 with h28 | h28
  · rw [own_f28 c h27 h28, own_r28 c h27 h28]
  rcases Int.lt_or_le c.toInt 65536 with h29 | h29
  · rw [own_f29 c h28 h29, own_r29 c h28 h29]
  rcases Int.lt_or_le c.toInt 983040 with h30 | h30
  · rw [own_f30 c h29 h30, own_r30 c h29 h30]
  rw [own_f31 c (by omega), own_r31 c (by omega)]
def own_tb : List Value := [(.int (65 : Int32)), (.int (91 : Int32)), (.int (95 : Int32)), (.int (96 : Int32)), (.int (97 : Int32)), (.int (123 : Int32)), (.int (192 : Int32)), (.int (215 : Int32)), (.int (216 : Int32)), (.int (247 : Int32)), (.int (248 : Int32)), (.int (768 : Int32)), (.int (880 : Int32)), (.int (894 : Int32)), (.int (895 : Int32)), (.int (8192 : Int32)), (.int (8204 : Int32)), (.int (8206 : Int32)), (.int (8304 : Int32)), (.int (8592 : Int32)), (.int (11264 : Int32)), (.int (12272 : Int32)), (.int (12289 : Int32)), (.int (55296 : Int32)), (.int (63744 : Int32)), (.int (64976 : Int32)), (.int (65008 : Int32)), (.int (65534 : Int32)), (.int (65536 : Int32)), (.int (983040 : Int32))]
def own_i (j : Int32) : Int32 := match own_tb.getD j.toNatClampNeg (.int (0 : Int32)) with | .int x => x | _ => 0
theorem own_in30 (y : Int32) : ¬ ((y &&& (2147483647 : Int32)) % (30 : Int32)) < 0 ∧ ((y &&& (2147483647 : Int32)) % (30 : Int32)) < 30 := by
  have e : 0 ≤ (y &&& (2147483647 : Int32)).toInt ∧ _ := c_and y 2147483647 (by decide)
  have q := (c_irem (y &&& (2147483647 : Int32)) 30 30 rfl).1 e.1
  have e0 : (0 : Int32).toInt = 0 := rfl
  have e8 : (30 : Int32).toInt = 30 := rfl
  rw [Int32.lt_iff_toInt_lt, Int32.lt_iff_toInt_lt]
  omega
theorem own_isint (vs : List Value) (h : vs.all (fun v => match v with | .int _ => true | _ => false) = true) (i : Nat) : ∃ x, vs.getD i (.int (0 : Int32)) = .int x := by
  induction vs generalizing i with
  | nil => exact ⟨0, by simp⟩
  | cons v vs ih =>
    rw [List.all_cons, Bool.and_eq_true] at h
    cases i with
    | zero => cases v <;> first | exact ⟨_, rfl⟩ | (simp at h)
    | succ i => exact ih h.2 i
theorem own_i_at {j : Int32} (q : ¬ j < 0 ∧ j < 30) : ([(.int (65 : Int32)), (.int (91 : Int32)), (.int (95 : Int32)), (.int (96 : Int32)), (.int (97 : Int32)), (.int (123 : Int32)), (.int (192 : Int32)), (.int (215 : Int32)), (.int (216 : Int32)), (.int (247 : Int32)), (.int (248 : Int32)), (.int (768 : Int32)), (.int (880 : Int32)), (.int (894 : Int32)), (.int (895 : Int32)), (.int (8192 : Int32)), (.int (8204 : Int32)), (.int (8206 : Int32)), (.int (8304 : Int32)), (.int (8592 : Int32)), (.int (11264 : Int32)), (.int (12272 : Int32)), (.int (12289 : Int32)), (.int (55296 : Int32)), (.int (63744 : Int32)), (.int (64976 : Int32)), (.int (65008 : Int32)), (.int (65534 : Int32)), (.int (65536 : Int32)), (.int (983040 : Int32))] : List Value).getD j.toNatClampNeg (.int (0 : Int32)) = .int (own_i j) := by
  show own_tb.getD j.toNatClampNeg (.int (0 : Int32)) = .int (own_i j)
  unfold own_i
  obtain ⟨x, hx⟩ := own_isint own_tb (by rfl) j.toNatClampNeg
  rw [hx]
theorem pd_0 : parseMethodDescriptor "(I)Z" = some ⟨[.int], some .boolean⟩ := by decide +kernel
theorem pd_2 : parseMethodDescriptor "([II)Z" = some ⟨[(.array .int), .int], some .boolean⟩ := by decide +kernel
theorem ef_rm0 (m : MethodId) (x0 : Int32) (x1 : Int32) (x2 : Int32) : entryFrame m #[(.int x0), (.int x1), (.int x2)] maxLocals = mkF m 0 #[.val (.int x0), .val (.int x1), .val (.int x2), .unset, .unset, .unset, .unset] [] := by first | (simp [entryFrame, mkF, argsToLocals, Value.category, maxLocals]; done) | rfl
def Q_rm0 (Z : State) (p0 : Int32) (p1 : Int32) (p2 : Int32) (h0 : Heap) (n0 : Nat) (v : Option Value) (h : Heap) (L : List Loc) : Prop := v = some (.int (1 : Int32)) ∧ Fr n0 L
set_option maxRecDepth 65536 in
set_option maxHeartbeats 40000000 in
theorem rm0 (l : Launch) (Z : State) (a0 : Array Value) (hw : ∀ d ∈ tables_1, d.before a0 Z = true) (ws : List Jvm.Cond) (p0 : Int32) (p1 : Int32) (p2 : Int32) (h0 : Heap) (n0 : Nat) (Z0 : n0 ≤ h0.size) :
    MetFree l x (head1 (Jvm.Cond.code x code maxLocals ret :: ws) room_1) (fun a U => a = #[(.int p0), (.int p1), (.int p2)] ∧ Z.Warmed39 U.vm ∧ U.heap = h0) (fun _ _ _ _ _ => True) (fun _ U o U' => ∃ v L, o = .returned v ∧ Q_rm0 Z p0 p1 p2 h0 n0 v U'.heap L ∧ FrameEnd U o U' L room_1.cells room_1.slots) := by
  refine MetFree.of_bodySF (plainFor_of_name pn_1) hisR ?_
  intro p e s m args below meth c s₁ Bd hml0 hP hK
  obtain ⟨rfl, hZ, hh⟩ := hP
  have hx := Bd.exec
  have hby := Bd.bytes
  have hml : c.maxLocals = 7 := hml0
  have hown : s.vm.findClass "com/example/node_sieve/nodesieve/XPathCharsIsNameStartPinLaw" = some m.cls := findClass_of_methodNamed Bd.named
  have hnm := (name_of_methodNamed Bd.named Bd.method).1
  have X0 : Stand p l e room_1 s m #[(.int p0), (.int p1), (.int p2)] below meth c s₁ [] 0 0 := Stand.of_body Bd
  have e0 : s₁.heap = h0 := by rw [← hh, Bd.state]; rfl
  have N0 := Fr.nil n0
  have c0 : ∀ τ, Steps p.tables e below (s₁.setTop (mkF m 0 #[.val (.int p0), .val (.int p1), .val (.int p2), .unset, .unset, .unset, .unset] [])) τ → Steps p.tables e below (s₁.setTop (entryFrame m #[(.int p0), (.int p1), (.int p2)] maxLocals)) τ := fun τ κ => castTop (ef_rm0 m p0 p1 p2) κ
  have c1 : ∀ τ, Steps p.tables e below (s₁.setTop (mkF m 2 #[.val (.int p0), .val (.int p1), .val (.int p2), .unset, .unset, .unset, .unset] [(.int (30 : Int32))])) τ → Steps p.tables e below (s₁.setTop (entryFrame m #[(.int p0), (.int p1), (.int p2)] maxLocals)) τ := fun τ κ => c0 τ (by
      show Steps p.tables e below (s₁.setTop (mkF m 0 #[.val (.int p0), .val (.int p1), .val (.int p2), .unset, .unset, .unset, .unset] [])) _
      refine XS.bipush X0.here hx rfl (hb hby at_0) ?_
      exact κ)
  obtain ⟨T2, h2, k2, X2, e2, E2, A2, st2⟩ := newP X0 hx hZ (hw _ (List.mem_of_getElem? (i := 0) rfl)) e0 (g := (mkF m 2 #[.val (.int p0), .val (.int p1), .val (.int p2), .unset, .unset, .unset, .unset] [(.int (30 : Int32))])) rfl (hb hby at_2) rfl (by decide) (cap := 30) (by decide) (by decide) (by decide) (by decide)
  obtain ⟨b2, g2⟩ : ∃ z, z = h0.size := ⟨_, rfl⟩
  rw [← g2] at A2 st2
  have gb2 : n0 ≤ b2 := Nat.le_trans Z0 (Nat.le_of_eq g2.symm)
  have V2 : Arv Z h2 b2 k2 .int (30 : Int32) [(.int (0 : Int32)), (.int (0 : Int32)), (.int (0 : Int32)), (.int (0 : Int32)), (.int (0 : Int32)), (.int (0 : Int32)), (.int (0 : Int32)), (.int (0 : Int32)), (.int (0 : Int32)), (.int (0 : Int32)), (.int (0 : Int32)), (.int (0 : Int32)), (.int (0 : Int32)), (.int (0 : Int32)), (.int (0 : Int32)), (.int (0 : Int32)), (.int (0 : Int32)), (.int (0 : Int32)), (.int (0 : Int32)), (.int (0 : Int32)), (.int (0 : Int32)), (.int (0 : Int32)), (.int (0 : Int32)), (.int (0 : Int32)), (.int (0 : Int32)), (.int (0 : Int32)), (.int (0 : Int32)), (.int (0 : Int32)), (.int (0 : Int32)), (.int (0 : Int32))] (.int (0 : Int32)) := (Arv.new A2 (by decide)).pad (pad_rep [] (.int (0 : Int32)) 30)
  have Z2 : n0 ≤ h2.size := Nat.le_trans Z0 E2.1
  have c3 : ∀ τ, Steps p.tables e below (T2.setTop (mkF m 4 #[.val (.int p0), .val (.int p1), .val (.int p2), .unset, .unset, .unset, .unset] [(.ref b2)])) τ → Steps p.tables e below (s₁.setTop (entryFrame m #[(.int p0), (.int p1), (.int p2)] maxLocals)) τ := fun τ κ => c1 τ (st2 τ κ)
  have c4 : ∀ τ, Steps p.tables e below (T2.setTop (mkF m 8 #[.val (.int p0), .val (.int p1), .val (.int p2), .unset, .unset, .unset, .unset] [(.int (65 : Int32)), (.int (0 : Int32)), (.ref b2), (.ref b2)])) τ → Steps p.tables e below (s₁.setTop (entryFrame m #[(.int p0), (.int p1), (.int p2)] maxLocals)) τ := fun τ κ => c3 τ (by
      show Steps p.tables e below (T2.setTop (mkF m 4 #[.val (.int p0), .val (.int p1), .val (.int p2), .unset, .unset, .unset, .unset] [(.ref b2)])) _
      refine XS.dup X2.here hx rfl (hb hby at_4) rfl rfl ?_
      show Steps p.tables e below (T2.setTop (mkF m 5 #[.val (.int p0), .val (.int p1), .val (.int p2), .unset, .unset, .unset, .unset] [(.ref b2), (.ref b2)])) _
      refine XS.iconst X2.here hx rfl (hb hby at_5) ?_
      show Steps p.tables e below (T2.setTop (mkF m 6 #[.val (.int p0), .val (.int p1), .val (.int p2), .unset, .unset, .unset, .unset] [(.int (0 : Int32)), (.ref b2), (.ref b2)])) _
      refine XS.bipush X2.here hx rfl (hb hby at_6) ?_
      exact κ)
  obtain ⟨T5, h5, L5, X5, e5, N5, W5, V5a, st5⟩ := own_stI X2 hx hZ e2 V2 ⟨by decide, by decide⟩ 0 rfl (Nat.le_of_ble_eq_true rfl) N0 gb2 (g := (mkF m 8 #[.val (.int p0), .val (.int p1), .val (.int p2), .unset, .unset, .unset, .unset] [(.int (65 : Int32)), (.int (0 : Int32)), (.ref b2), (.ref b2)])) rfl rfl (hb hby at_8)
  have V5 : Arv Z h5 b2 k2 .int (30 : Int32) [(.int (65 : Int32)), (.int (0 : Int32)), (.int (0 : Int32)), (.int (0 : Int32)), (.int (0 : Int32)), (.int (0 : Int32)), (.int (0 : Int32)), (.int (0 : Int32)), (.int (0 : Int32)), (.int (0 : Int32)), (.int (0 : Int32)), (.int (0 : Int32)), (.int (0 : Int32)), (.int (0 : Int32)), (.int (0 : Int32)), (.int (0 : Int32)), (.int (0 : Int32)), (.int (0 : Int32)), (.int (0 : Int32)), (.int (0 : Int32)), (.int (0 : Int32)), (.int (0 : Int32)), (.int (0 : Int32)), (.int (0 : Int32)), (.int (0 : Int32)), (.int (0 : Int32)), (.int (0 : Int32)), (.int (0 : Int32)), (.int (0 : Int32)), (.int (0 : Int32))] (.int (0 : Int32)) := V5a
  have Z5 : n0 ≤ h5.size := Nat.le_trans Z2 (Keep.of_wr W5).1
  have c6 : ∀ τ, Steps p.tables e below (T5.setTop (mkF m 9 #[.val (.int p0), .val (.int p1), .val (.int p2), .unset, .unset, .unset, .unset] [(.ref b2)])) τ → Steps p.tables e below (s₁.setTop (entryFrame m #[(.int p0), (.int p1), (.int p2)] maxLocals)) τ := fun τ κ => c4 τ (st5 τ κ)
  have c7 : ∀ τ, Steps p.tables e below (T5.setTop (mkF m 13 #[.val (.int p0), .val (.int p1), .val (.int p2), .unset, .unset, .unset, .unset] [(.int (91 : Int32)), (.int (1 : Int32)), (.ref b2), (.ref b2)])) τ → Steps p.tables e below (s₁.setTop (entryFrame m #[(.int p0), (.int p1), (.int p2)] maxLocals)) τ := fun τ κ => c6 τ (by
      show Steps p.tables e below (T5.setTop (mkF m 9 #[.val (.int p0), .val (.int p1), .val (.int p2), .unset, .unset, .unset, .unset] [(.ref b2)])) _
      refine XS.dup X5.here hx rfl (hb hby at_9) rfl rfl ?_
      show Steps p.tables e below (T5.setTop (mkF m 10 #[.val (.int p0), .val (.int p1), .val (.int p2), .unset, .unset, .unset, .unset] [(.ref b2), (.ref b2)])) _
      refine XS.iconst X5.here hx rfl (hb hby at_10) ?_
      show Steps p.tables e below (T5.setTop (mkF m 11 #[.val (.int p0), .val (.int p1), .val (.int p2), .unset, .unset, .unset, .unset] [(.int (1 : Int32)), (.ref b2), (.ref b2)])) _
      refine XS.bipush X5.here hx rfl (hb hby at_11) ?_
      exact κ)
  obtain ⟨T8, h8, L8, X8, e8, N8, W8, V8a, st8⟩ := own_stI X5 hx hZ e5 V5 ⟨by decide, by decide⟩ 1 rfl (Nat.le_of_ble_eq_true rfl) N5 gb2 (g := (mkF m 13 #[.val (.int p0), .val (.int p1), .val (.int p2), .unset, .unset, .unset, .unset] [(.int (91 : Int32)), (.int (1 : Int32)), (.ref b2), (.ref b2)])) rfl rfl (hb hby at_13)
  have V8 : Arv Z h8 b2 k2 .int (30 : Int32) [(.int (65 : Int32)), (.int (91 : Int32)), (.int (0 : Int32)), (.int (0 : Int32)), (.int (0 : Int32)), (.int (0 : Int32)), (.int (0 : Int32)), (.int (0 : Int32)), (.int (0 : Int32)), (.int (0 : Int32)), (.int (0 : Int32)), (.int (0 : Int32)), (.int (0 : Int32)), (.int (0 : Int32)), (.int (0 : Int32)), (.int (0 : Int32)), (.int (0 : Int32)), (.int (0 : Int32)), (.int (0 : Int32)), (.int (0 : Int32)), (.int (0 : Int32)), (.int (0 : Int32)), (.int (0 : Int32)), (.int (0 : Int32)), (.int (0 : Int32)), (.int (0 : Int32)), (.int (0 : Int32)), (.int (0 : Int32)), (.int (0 : Int32)), (.int (0 : Int32))] (.int (0 : Int32)) := V8a
  have Z8 : n0 ≤ h8.size := Nat.le_trans Z5 (Keep.of_wr W8).1
  have c9 : ∀ τ, Steps p.tables e below (T8.setTop (mkF m 14 #[.val (.int p0), .val (.int p1), .val (.int p2), .unset, .unset, .unset, .unset] [(.ref b2)])) τ → Steps p.tables e below (s₁.setTop (entryFrame m #[(.int p0), (.int p1), (.int p2)] maxLocals)) τ := fun τ κ => c7 τ (st8 τ κ)
  have c10 : ∀ τ, Steps p.tables e below (T8.setTop (mkF m 18 #[.val (.int p0), .val (.int p1), .val (.int p2), .unset, .unset, .unset, .unset] [(.int (95 : Int32)), (.int (2 : Int32)), (.ref b2), (.ref b2)])) τ → Steps p.tables e below (s₁.setTop (entryFrame m #[(.int p0), (.int p1), (.int p2)] maxLocals)) τ := fun τ κ => c9 τ (by
      show Steps p.tables e below (T8.setTop (mkF m 14 #[.val (.int p0), .val (.int p1), .val (.int p2), .unset, .unset, .unset, .unset] [(.ref b2)])) _
      refine XS.dup X8.here hx rfl (hb hby at_14) rfl rfl ?_
      show Steps p.tables e below (T8.setTop (mkF m 15 #[.val (.int p0), .val (.int p1), .val (.int p2), .unset, .unset, .unset, .unset] [(.ref b2), (.ref b2)])) _
      refine XS.iconst X8.here hx rfl (hb hby at_15) ?_
      show Steps p.tables e below (T8.setTop (mkF m 16 #[.val (.int p0), .val (.int p1), .val (.int p2), .unset, .unset, .unset, .unset] [(.int (2 : Int32)), (.ref b2), (.ref b2)])) _
      refine XS.bipush X8.here hx rfl (hb hby at_16) ?_
      exact κ)
  obtain ⟨T11, h11, L11, X11, e11, N11, W11, V11a, st11⟩ := own_stI X8 hx hZ e8 V8 ⟨by decide, by decide⟩ 2 rfl (Nat.le_of_ble_eq_true rfl) N8 gb2 (g := (mkF m 18 #[.val (.int p0), .val (.int p1), .val (.int p2), .unset, .unset, .unset, .unset] [(.int (95 : Int32)), (.int (2 : Int32)), (.ref b2), (.ref b2)])) rfl rfl (hb hby at_18)
  have V11 : Arv Z h11 b2 k2 .int (30 : Int32) [(.int (65 : Int32)), (.int (91 : Int32)), (.int (95 : Int32)), (.int (0 : Int32)), (.int (0 : Int32)), (.int (0 : Int32)), (.int (0 : Int32)), (.int (0 : Int32)), (.int (0 : Int32)), (.int (0 : Int32)), (.int (0 : Int32)), (.int (0 : Int32)), (.int (0 : Int32)), (.int (0 : Int32)), (.int (0 : Int32)), (.int (0 : Int32)), (.int (0 : Int32)), (.int (0 : Int32)), (.int (0 : Int32)), (.int (0 : Int32)), (.int (0 : Int32)), (.int (0 : Int32)), (.int (0 : Int32)), (.int (0 : Int32)), (.int (0 : Int32)), (.int (0 : Int32)), (.int (0 : Int32)), (.int (0 : Int32)), (.int (0 : Int32)), (.int (0 : Int32))] (.int (0 : Int32)) := V11a
  have Z11 : n0 ≤ h11.size := Nat.le_trans Z8 (Keep.of_wr W11).1
  have c12 : ∀ τ, Steps p.tables e below (T11.setTop (mkF m 19 #[.val (.int p0), .val (.int p1), .val (.int p2), .unset, .unset, .unset, .unset] [(.ref b2)])) τ → Steps p.tables e below (s₁.setTop (entryFrame m #[(.int p0), (.int p1), (.int p2)] maxLocals)) τ := fun τ κ => c10 τ (st11 τ κ)
  have c13 : ∀ τ, Steps p.tables e below (T11.setTop (mkF m 23 #[.val (.int p0), .val (.int p1), .val (.int p2), .unset, .unset, .unset, .unset] [(.int (96 : Int32)), (.int (3 : Int32)), (.ref b2), (.ref b2)])) τ → Steps p.tables e below (s₁.setTop (entryFrame m #[(.int p0), (.int p1), (.int p2)] maxLocals)) τ := fun τ κ => c12 τ (by
      show Steps p.tables e below (T11.setTop (mkF m 19 #[.val (.int p0), .val (.int p1), .val (.int p2), .unset, .unset, .unset, .unset] [(.ref b2)])) _
      refine XS.dup X11.here hx rfl (hb hby at_19) rfl rfl ?_
      show Steps p.tables e below (T11.setTop (mkF m 20 #[.val (.int p0), .val (.int p1), .val (.int p2), .unset, .unset, .unset, .unset] [(.ref b2), (.ref b2)])) _
      refine XS.iconst X11.here hx rfl (hb hby at_20) ?_
      show Steps p.tables e below (T11.setTop (mkF m 21 #[.val (.int p0), .val (.int p1), .val (.int p2), .unset, .unset, .unset, .unset] [(.int (3 : Int32)), (.ref b2), (.ref b2)])) _
      refine XS.bipush X11.here hx rfl (hb hby at_21) ?_
      exact κ)
  obtain ⟨T14, h14, L14, X14, e14, N14, W14, V14a, st14⟩ := own_stI X11 hx hZ e11 V11 ⟨by decide, by decide⟩ 3 rfl (Nat.le_of_ble_eq_true rfl) N11 gb2 (g := (mkF m 23 #[.val (.int p0), .val (.int p1), .val (.int p2), .unset, .unset, .unset, .unset] [(.int (96 : Int32)), (.int (3 : Int32)), (.ref b2), (.ref b2)])) rfl rfl (hb hby at_23)
  have V14 : Arv Z h14 b2 k2 .int (30 : Int32) [(.int (65 : Int32)), (.int (91 : Int32)), (.int (95 : Int32)), (.int (96 : Int32)), (.int (0 : Int32)), (.int (0 : Int32)), (.int (0 : Int32)), (.int (0 : Int32)), (.int (0 : Int32)), (.int (0 : Int32)), (.int (0 : Int32)), (.int (0 : Int32)), (.int (0 : Int32)), (.int (0 : Int32)), (.int (0 : Int32)), (.int (0 : Int32)), (.int (0 : Int32)), (.int (0 : Int32)), (.int (0 : Int32)), (.int (0 : Int32)), (.int (0 : Int32)), (.int (0 : Int32)), (.int (0 : Int32)), (.int (0 : Int32)), (.int (0 : Int32)), (.int (0 : Int32)), (.int (0 : Int32)), (.int (0 : Int32)), (.int (0 : Int32)), (.int (0 : Int32))] (.int (0 : Int32)) := V14a
  have Z14 : n0 ≤ h14.size := Nat.le_trans Z11 (Keep.of_wr W14).1
  have c15 : ∀ τ, Steps p.tables e below (T14.setTop (mkF m 24 #[.val (.int p0), .val (.int p1), .val (.int p2), .unset, .unset, .unset, .unset] [(.ref b2)])) τ → Steps p.tables e below (s₁.setTop (entryFrame m #[(.int p0), (.int p1), (.int p2)] maxLocals)) τ := fun τ κ => c13 τ (st14 τ κ)
  have c16 : ∀ τ, Steps p.tables e below (T14.setTop (mkF m 28 #[.val (.int p0), .val (.int p1), .val (.int p2), .unset, .unset, .unset, .unset] [(.int (97 : Int32)), (.int (4 : Int32)), (.ref b2), (.ref b2)])) τ → Steps p.tables e below (s₁.setTop (entryFrame m #[(.int p0), (.int p1), (.int p2)] maxLocals)) τ := fun τ κ => c15 τ (by
      show Steps p.tables e below (T14.setTop (mkF m 24 #[.val (.int p0), .val (.int p1), .val (.int p2), .unset, .unset, .unset, .unset] [(.ref b2)])) _
      refine XS.dup X14.here hx rfl (hb hby at_24) rfl rfl ?_
      show Steps p.tables e below (T14.setTop (mkF m 25 #[.val (.int p0), .val (.int p1), .val (.int p2), .unset, .unset, .unset, .unset] [(.ref b2), (.ref b2)])) _
      refine XS.iconst X14.here hx rfl (hb hby at_25) ?_
      show Steps p.tables e below (T14.setTop (mkF m 26 #[.val (.int p0), .val (.int p1), .val (.int p2), .unset, .unset, .unset, .unset] [(.int (4 : Int32)), (.ref b2), (.ref b2)])) _
      refine XS.bipush X14.here hx rfl (hb hby at_26) ?_
      exact κ)
  obtain ⟨T17, h17, L17, X17, e17, N17, W17, V17a, st17⟩ := own_stI X14 hx hZ e14 V14 ⟨by decide, by decide⟩ 4 rfl (Nat.le_of_ble_eq_true rfl) N14 gb2 (g := (mkF m 28 #[.val (.int p0), .val (.int p1), .val (.int p2), .unset, .unset, .unset, .unset] [(.int (97 : Int32)), (.int (4 : Int32)), (.ref b2), (.ref b2)])) rfl rfl (hb hby at_28)
  have V17 : Arv Z h17 b2 k2 .int (30 : Int32) [(.int (65 : Int32)), (.int (91 : Int32)), (.int (95 : Int32)), (.int (96 : Int32)), (.int (97 : Int32)), (.int (0 : Int32)), (.int (0 : Int32)), (.int (0 : Int32)), (.int (0 : Int32)), (.int (0 : Int32)), (.int (0 : Int32)), (.int (0 : Int32)), (.int (0 : Int32)), (.int (0 : Int32)), (.int (0 : Int32)), (.int (0 : Int32)), (.int (0 : Int32)), (.int (0 : Int32)), (.int (0 : Int32)), (.int (0 : Int32)), (.int (0 : Int32)), (.int (0 : Int32)), (.int (0 : Int32)), (.int (0 : Int32)), (.int (0 : Int32)), (.int (0 : Int32)), (.int (0 : Int32)), (.int (0 : Int32)), (.int (0 : Int32)), (.int (0 : Int32))] (.int (0 : Int32)) := V17a
  have Z17 : n0 ≤ h17.size := Nat.le_trans Z14 (Keep.of_wr W17).1
  have c18 : ∀ τ, Steps p.tables e below (T17.setTop (mkF m 29 #[.val (.int p0), .val (.int p1), .val (.int p2), .unset, .unset, .unset, .unset] [(.ref b2)])) τ → Steps p.tables e below (s₁.setTop (entryFrame m #[(.int p0), (.int p1), (.int p2)] maxLocals)) τ := fun τ κ => c16 τ (st17 τ κ)
  have c19 : ∀ τ, Steps p.tables e below (T17.setTop (mkF m 33 #[.val (.int p0), .val (.int p1), .val (.int p2), .unset, .unset, .unset, .unset] [(.int (123 : Int32)), (.int (5 : Int32)), (.ref b2), (.ref b2)])) τ → Steps p.tables e below (s₁.setTop (entryFrame m #[(.int p0), (.int p1), (.int p2)] maxLocals)) τ := fun τ κ => c18 τ (by
      show Steps p.tables e below (T17.setTop (mkF m 29 #[.val (.int p0), .val (.int p1), .val (.int p2), .unset, .unset, .unset, .unset] [(.ref b2)])) _
      refine XS.dup X17.here hx rfl (hb hby at_29) rfl rfl ?_
      show Steps p.tables e below (T17.setTop (mkF m 30 #[.val (.int p0), .val (.int p1), .val (.int p2), .unset, .unset, .unset, .unset] [(.ref b2), (.ref b2)])) _
      refine XS.iconst X17.here hx rfl (hb hby at_30) ?_
      show Steps p.tables e below (T17.setTop (mkF m 31 #[.val (.int p0), .val (.int p1), .val (.int p2), .unset, .unset, .unset, .unset] [(.int (5 : Int32)), (.ref b2), (.ref b2)])) _
      refine XS.bipush X17.here hx rfl (hb hby at_31) ?_
      exact κ)
  obtain ⟨T20, h20, L20, X20, e20, N20, W20, V20a, st20⟩ := own_stI X17 hx hZ e17 V17 ⟨by decide, by decide⟩ 5 rfl (Nat.le_of_ble_eq_true rfl) N17 gb2 (g := (mkF m 33 #[.val (.int p0), .val (.int p1), .val (.int p2), .unset, .unset, .unset, .unset] [(.int (123 : Int32)), (.int (5 : Int32)), (.ref b2), (.ref b2)])) rfl rfl (hb hby at_33)
  have V20 : Arv Z h20 b2 k2 .int (30 : Int32) [(.int (65 : Int32)), (.int (91 : Int32)), (.int (95 : Int32)), (.int (96 : Int32)), (.int (97 : Int32)), (.int (123 : Int32)), (.int (0 : Int32)), (.int (0 : Int32)), (.int (0 : Int32)), (.int (0 : Int32)), (.int (0 : Int32)), (.int (0 : Int32)), (.int (0 : Int32)), (.int (0 : Int32)), (.int (0 : Int32)), (.int (0 : Int32)), (.int (0 : Int32)), (.int (0 : Int32)), (.int (0 : Int32)), (.int (0 : Int32)), (.int (0 : Int32)), (.int (0 : Int32)), (.int (0 : Int32)), (.int (0 : Int32)), (.int (0 : Int32)), (.int (0 : Int32)), (.int (0 : Int32)), (.int (0 : Int32)), (.int (0 : Int32)), (.int (0 : Int32))] (.int (0 : Int32)) := V20a
  have Z20 : n0 ≤ h20.size := Nat.le_trans Z17 (Keep.of_wr W20).1
  have c21 : ∀ τ, Steps p.tables e below (T20.setTop (mkF m 34 #[.val (.int p0), .val (.int p1), .val (.int p2), .unset, .unset, .unset, .unset] [(.ref b2)])) τ → Steps p.tables e below (s₁.setTop (entryFrame m #[(.int p0), (.int p1), (.int p2)] maxLocals)) τ := fun τ κ => c19 τ (st20 τ κ)
  have c22 : ∀ τ, Steps p.tables e below (T20.setTop (mkF m 40 #[.val (.int p0), .val (.int p1), .val (.int p2), .unset, .unset, .unset, .unset] [(.int (192 : Int32)), (.int (6 : Int32)), (.ref b2), (.ref b2)])) τ → Steps p.tables e below (s₁.setTop (entryFrame m #[(.int p0), (.int p1), (.int p2)] maxLocals)) τ := fun τ κ => c21 τ (by
      show Steps p.tables e below (T20.setTop (mkF m 34 #[.val (.int p0), .val (.int p1), .val (.int p2), .unset, .unset, .unset, .unset] [(.ref b2)])) _
      refine XS.dup X20.here hx rfl (hb hby at_34) rfl rfl ?_
      show Steps p.tables e below (T20.setTop (mkF m 35 #[.val (.int p0), .val (.int p1), .val (.int p2), .unset, .unset, .unset, .unset] [(.ref b2), (.ref b2)])) _
      refine XS.bipush X20.here hx rfl (hb hby at_35) ?_
      show Steps p.tables e below (T20.setTop (mkF m 37 #[.val (.int p0), .val (.int p1), .val (.int p2), .unset, .unset, .unset, .unset] [(.int (6 : Int32)), (.ref b2), (.ref b2)])) _
      refine XS.sipush X20.here hx rfl (hb hby at_37) ?_
      exact κ)
  obtain ⟨T23, h23, L23, X23, e23, N23, W23, V23a, st23⟩ := own_stI X20 hx hZ e20 V20 ⟨by decide, by decide⟩ 6 rfl (Nat.le_of_ble_eq_true rfl) N20 gb2 (g := (mkF m 40 #[.val (.int p0), .val (.int p1), .val (.int p2), .unset, .unset, .unset, .unset] [(.int (192 : Int32)), (.int (6 : Int32)), (.ref b2), (.ref b2)])) rfl rfl (hb hby at_40)
  have V23 : Arv Z h23 b2 k2 .int (30 : Int32) [(.int (65 : Int32)), (.int (91 : Int32)), (.int (95 : Int32)), (.int (96 : Int32)), (.int (97 : Int32)), (.int (123 : Int32)), (.int (192 : Int32)), (.int (0 : Int32)), (.int (0 : Int32)), (.int (0 : Int32)), (.int (0 : Int32)), (.int (0 : Int32)), (.int (0 : Int32)), (.int (0 : Int32)), (.int (0 : Int32)), (.int (0 : Int32)), (.int (0 : Int32)), (.int (0 : Int32)), (.int (0 : Int32)), (.int (0 : Int32)), (.int (0 : Int32)), (.int (0 : Int32)), (.int (0 : Int32)), (.int (0 : Int32)), (.int (0 : Int32)), (.int (0 : Int32)), (.int (0 : Int32)), (.int (0 : Int32)), (.int (0 : Int32)), (.int (0 : Int32))] (.int (0 : Int32)) := V23a
  have Z23 : n0 ≤ h23.size := Nat.le_trans Z20 (Keep.of_wr W23).1
  have c24 : ∀ τ, Steps p.tables e below (T23.setTop (mkF m 41 #[.val (.int p0), .val (.int p1), .val (.int p2), .unset, .unset, .unset, .unset] [(.ref b2)])) τ → Steps p.tables e below (s₁.setTop (entryFrame m #[(.int p0), (.int p1), (.int p2)] maxLocals)) τ := fun τ κ => c22 τ (st23 τ κ)
  have c25 : ∀ τ, Steps p.tables e below (T23.setTop (mkF m 47 #[.val (.int p0), .val (.int p1), .val (.int p2), .unset, .unset, .unset, .unset] [(.int (215 : Int32)), (.int (7 : Int32)), (.ref b2), (.ref b2)])) τ → Steps p.tables e below (s₁.setTop (entryFrame m #[(.int p0), (.int p1), (.int p2)] maxLocals)) τ := fun τ κ => c24 τ (by
      show Steps p.tables e below (T23.setTop (mkF m 41 #[.val (.int p0), .val (.int p1), .val (.int p2), .unset, .unset, .unset, .unset] [(.ref b2)])) _
      refine XS.dup X23.here hx rfl (hb hby at_41) rfl rfl ?_
      show Steps p.tables e below (T23.setTop (mkF m 42 #[.val (.int p0), .val (.int p1), .val (.int p2), .unset, .unset, .unset, .unset] [(.ref b2), (.ref b2)])) _
      refine XS.bipush X23.here hx rfl (hb hby at_42) ?_
      show Steps p.tables e below (T23.setTop (mkF m 44 #[.val (.int p0), .val (.int p1), .val (.int p2), .unset, .unset, .unset, .unset] [(.int (7 : Int32)), (.ref b2), (.ref b2)])) _
      refine XS.sipush X23.here hx rfl (hb hby at_44) ?_
      exact κ)
  obtain ⟨T26, h26, L26, X26, e26, N26, W26, V26a, st26⟩ := own_stI X23 hx hZ e23 V23 ⟨by decide, by decide⟩ 7 rfl (Nat.le_of_ble_eq_true rfl) N23 gb2 (g := (mkF m 47 #[.val (.int p0), .val (.int p1), .val (.int p2), .unset, .unset, .unset, .unset] [(.int (215 : Int32)), (.int (7 : Int32)), (.ref b2), (.ref b2)])) rfl rfl (hb hby at_47)
  have V26 : Arv Z h26 b2 k2 .int (30 : Int32) [(.int (65 : Int32)), (.int (91 : Int32)), (.int (95 : Int32)), (.int (96 : Int32)), (.int (97 : Int32)), (.int (123 : Int32)), (.int (192 : Int32)), (.int (215 : Int32)), (.int (0 : Int32)), (.int (0 : Int32)), (.int (0 : Int32)), (.int (0 : Int32)), (.int (0 : Int32)), (.int (0 : Int32)), (.int (0 : Int32)), (.int (0 : Int32)), (.int (0 : Int32)), (.int (0 : Int32)), (.int (0 : Int32)), (.int (0 : Int32)), (.int (0 : Int32)), (.int (0 : Int32)), (.int (0 : Int32)), (.int (0 : Int32)), (.int (0 : Int32)), (.int (0 : Int32)), (.int (0 : Int32)), (.int (0 : Int32)), (.int (0 : Int32)), (.int (0 : Int32))] (.int (0 : Int32)) := V26a
  have Z26 : n0 ≤ h26.size := Nat.le_trans Z23 (Keep.of_wr W26).1
  have c27 : ∀ τ, Steps p.tables e below (T26.setTop (mkF m 48 #[.val (.int p0), .val (.int p1), .val (.int p2), .unset, .unset, .unset, .unset] [(.ref b2)])) τ → Steps p.tables e below (s₁.setTop (entryFrame m #[(.int p0), (.int p1), (.int p2)] maxLocals)) τ := fun τ κ => c25 τ (st26 τ κ)
  have c28 : ∀ τ, Steps p.tables e below (T26.setTop (mkF m 54 #[.val (.int p0), .val (.int p1), .val (.int p2), .unset, .unset, .unset, .unset] [(.int (216 : Int32)), (.int (8 : Int32)), (.ref b2), (.ref b2)])) τ → Steps p.tables e below (s₁.setTop (entryFrame m #[(.int p0), (.int p1), (.int p2)] maxLocals)) τ := fun τ κ => c27 τ (by
      show Steps p.tables e below (T26.setTop (mkF m 48 #[.val (.int p0), .val (.int p1), .val (.int p2), .unset, .unset, .unset, .unset] [(.ref b2)])) _
      refine XS.dup X26.here hx rfl (hb hby at_48) rfl rfl ?_
      show Steps p.tables e below (T26.setTop (mkF m 49 #[.val (.int p0), .val (.int p1), .val (.int p2), .unset, .unset, .unset, .unset] [(.ref b2), (.ref b2)])) _
      refine XS.bipush X26.here hx rfl (hb hby at_49) ?_
      show Steps p.tables e below (T26.setTop (mkF m 51 #[.val (.int p0), .val (.int p1), .val (.int p2), .unset, .unset, .unset, .unset] [(.int (8 : Int32)), (.ref b2), (.ref b2)])) _
      refine XS.sipush X26.here hx rfl (hb hby at_51) ?_
      exact κ)
  obtain ⟨T29, h29, L29, X29, e29, N29, W29, V29a, st29⟩ := own_stI X26 hx hZ e26 V26 ⟨by decide, by decide⟩ 8 rfl (Nat.le_of_ble_eq_true rfl) N26 gb2 (g := (mkF m 54 #[.val (.int p0), .val (.int p1), .val (.int p2), .unset, .unset, .unset, .unset] [(.int (216 : Int32)), (.int (8 : Int32)), (.ref b2), (.ref b2)])) rfl rfl (hb hby at_54)
  have V29 : Arv Z h29 b2 k2 .int (30 : Int32) [(.int (65 : Int32)), (.int (91 : Int32)), (.int (95 : Int32)), (.int (96 : Int32)), (.int (97 : Int32)), (.int (123 : Int32)), (.int (192 : Int32)), (.int (215 : Int32)), (.int (216 : Int32)), (.int (0 : Int32)), (.int (0 : Int32)), (.int (0 : Int32)), (.int (0 : Int32)), (.int (0 : Int32)), (.int (0 : Int32)), (.int (0 : Int32)), (.int (0 : Int32)), (.int (0 : Int32)), (.int (0 : Int32)), (.int (0 : Int32)), (.int (0 : Int32)), (.int (0 : Int32)), (.int (0 : Int32)), (.int (0 : Int32)), (.int (0 : Int32)), (.int (0 : Int32)), (.int (0 : Int32)), (.int (0 : Int32)), (.int (0 : Int32)), (.int (0 : Int32))] (.int (0 : Int32)) := V29a
  have Z29 : n0 ≤ h29.size := Nat.le_trans Z26 (Keep.of_wr W29).1
  have c30 : ∀ τ, Steps p.tables e below (T29.setTop (mkF m 55 #[.val (.int p0), .val (.int p1), .val (.int p2), .unset, .unset, .unset, .unset] [(.ref b2)])) τ → Steps p.tables e below (s₁.setTop (entryFrame m #[(.int p0), (.int p1), (.int p2)] maxLocals)) τ := fun τ κ => c28 τ (st29 τ κ)
  have c31 : ∀ τ, Steps p.tables e below (T29.setTop (mkF m 61 #[.val (.int p0), .val (.int p1), .val (.int p2), .unset, .unset, .unset, .unset] [(.int (247 : Int32)), (.int (9 : Int32)), (.ref b2), (.ref b2)])) τ → Steps p.tables e below (s₁.setTop (entryFrame m #[(.int p0), (.int p1), (.int p2)] maxLocals)) τ := fun τ κ => c30 τ (by
      show Steps p.tables e below (T29.setTop (mkF m 55 #[.val (.int p0), .val (.int p1), .val (.int p2), .unset, .unset, .unset, .unset] [(.ref b2)])) _
      refine XS.dup X29.here hx rfl (hb hby at_55) rfl rfl ?_
      show Steps p.tables e below (T29.setTop (mkF m 56 #[.val (.int p0), .val (.int p1), .val (.int p2), .unset, .unset, .unset, .unset] [(.ref b2), (.ref b2)])) _
      refine XS.bipush X29.here hx rfl (hb hby at_56) ?_
      show Steps p.tables e below (T29.setTop (mkF m 58 #[.val (.int p0), .val (.int p1), .val (.int p2), .unset, .unset, .unset, .unset] [(.int (9 : Int32)), (.ref b2), (.ref b2)])) _
      refine XS.sipush X29.here hx rfl (hb hby at_58) ?_
      exact κ)
  obtain ⟨T32, h32, L32, X32, e32, N32, W32, V32a, st32⟩ := own_stI X29 hx hZ e29 V29 ⟨by decide, by decide⟩ 9 rfl (Nat.le_of_ble_eq_true rfl) N29 gb2 (g := (mkF m 61 #[.val (.int p0), .val (.int p1), .val (.int p2), .unset, .unset, .unset, .unset] [(.int (247 : Int32)), (.int (9 : Int32)), (.ref b2), (.ref b2)])) rfl rfl (hb hby at_61)
  have V32 : Arv Z h32 b2 k2 .int (30 : Int32) [(.int (65 : Int32)), (.int (91 : Int32)), (.int (95 : Int32)), (.int (96 : Int32)), (.int (97 : Int32)), (.int (123 : Int32)), (.int (192 : Int32)), (.int (215 : Int32)), (.int (216 : Int32)), (.int (247 : Int32)), (.int (0 : Int32)), (.int (0 : Int32)), (.int (0 : Int32)), (.int (0 : Int32)), (.int (0 : Int32)), (.int (0 : Int32)), (.int (0 : Int32)), (.int (0 : Int32)), (.int (0 : Int32)), (.int (0 : Int32)), (.int (0 : Int32)), (.int (0 : Int32)), (.int (0 : Int32)), (.int (0 : Int32)), (.int (0 : Int32)), (.int (0 : Int32)), (.int (0 : Int32)), (.int (0 : Int32)), (.int (0 : Int32)), (.int (0 : Int32))] (.int (0 : Int32)) := V32a
  have Z32 : n0 ≤ h32.size := Nat.le_trans Z29 (Keep.of_wr W32).1
  have c33 : ∀ τ, Steps p.tables e below (T32.setTop (mkF m 62 #[.val (.int p0), .val (.int p1), .val (.int p2), .unset, .unset, .unset, .unset] [(.ref b2)])) τ → Steps p.tables e below (s₁.setTop (entryFrame m #[(.int p0), (.int p1), (.int p2)] maxLocals)) τ := fun τ κ => c31 τ (st32 τ κ)
  have c34 : ∀ τ, Steps p.tables e below (T32.setTop (mkF m 68 #[.val (.int p0), .val (.int p1), .val (.int p2), .unset, .unset, .unset, .unset] [(.int (248 : Int32)), (.int (10 : Int32)), (.ref b2), (.ref b2)])) τ → Steps p.tables e below (s₁.setTop (entryFrame m #[(.int p0), (.int p1), (.int p2)] maxLocals)) τ := fun τ κ => c33 τ (by
      show Steps p.tables e below (T32.setTop (mkF m 62 #[.val (.int p0), .val (.int p1), .val (.int p2), .unset, .unset, .unset, .unset] [(.ref b2)])) _
      refine XS.dup X32.here hx rfl (hb hby at_62) rfl rfl ?_
      show Steps p.tables e below (T32.setTop (mkF m 63 #[.val (.int p0), .val (.int p1), .val (.int p2), .unset, .unset, .unset, .unset] [(.ref b2), (.ref b2)])) _
      refine XS.bipush X32.here hx rfl (hb hby at_63) ?_
      show Steps p.tables e below (T32.setTop (mkF m 65 #[.val (.int p0), .val (.int p1), .val (.int p2), .unset, .unset, .unset, .unset] [(.int (10 : Int32)), (.ref b2), (.ref b2)])) _
      refine XS.sipush X32.here hx rfl (hb hby at_65) ?_
      exact κ)
  obtain ⟨T35, h35, L35, X35, e35, N35, W35, V35a, st35⟩ := own_stI X32 hx hZ e32 V32 ⟨by decide, by decide⟩ 10 rfl (Nat.le_of_ble_eq_true rfl) N32 gb2 (g := (mkF m 68 #[.val (.int p0), .val (.int p1), .val (.int p2), .unset, .unset, .unset, .unset] [(.int (248 : Int32)), (.int (10 : Int32)), (.ref b2), (.ref b2)])) rfl rfl (hb hby at_68)
  have V35 : Arv Z h35 b2 k2 .int (30 : Int32) [(.int (65 : Int32)), (.int (91 : Int32)), (.int (95 : Int32)), (.int (96 : Int32)), (.int (97 : Int32)), (.int (123 : Int32)), (.int (192 : Int32)), (.int (215 : Int32)), (.int (216 : Int32)), (.int (247 : Int32)), (.int (248 : Int32)), (.int (0 : Int32)), (.int (0 : Int32)), (.int (0 : Int32)), (.int (0 : Int32)), (.int (0 : Int32)), (.int (0 : Int32)), (.int (0 : Int32)), (.int (0 : Int32)), (.int (0 : Int32)), (.int (0 : Int32)), (.int (0 : Int32)), (.int (0 : Int32)), (.int (0 : Int32)), (.int (0 : Int32)), (.int (0 : Int32)), (.int (0 : Int32)), (.int (0 : Int32)), (.int (0 : Int32)), (.int (0 : Int32))] (.int (0 : Int32)) := V35a
  have Z35 : n0 ≤ h35.size := Nat.le_trans Z32 (Keep.of_wr W35).1
  have c36 : ∀ τ, Steps p.tables e below (T35.setTop (mkF m 69 #[.val (.int p0), .val (.int p1), .val (.int p2), .unset, .unset, .unset, .unset] [(.ref b2)])) τ → Steps p.tables e below (s₁.setTop (entryFrame m #[(.int p0), (.int p1), (.int p2)] maxLocals)) τ := fun τ κ => c34 τ (st35 τ κ)
  have c37 : ∀ τ, Steps p.tables e below (T35.setTop (mkF m 75 #[.val (.int p0), .val (.int p1), .val (.int p2), .unset, .unset, .unset, .unset] [(.int (768 : Int32)), (.int (11 : Int32)), (.ref b2), (.ref b2)])) τ → Steps p.tables e below (s₁.setTop (entryFrame m #[(.int p0), (.int p1), (.int p2)] maxLocals)) τ := fun τ κ => c36 τ (by
      show Steps p.tables e below (T35.setTop (mkF m 69 #[.val (.int p0), .val (.int p1), .val (.int p2), .unset, .unset, .unset, .unset] [(.ref b2)])) _
      refine XS.dup X35.here hx rfl (hb hby at_69) rfl rfl ?_
      show Steps p.tables e below (T35.setTop (mkF m 70 #[.val (.int p0), .val (.int p1), .val (.int p2), .unset, .unset, .unset, .unset] [(.ref b2), (.ref b2)])) _
      refine XS.bipush X35.here hx rfl (hb hby at_70) ?_
      show Steps p.tables e below (T35.setTop (mkF m 72 #[.val (.int p0), .val (.int p1), .val (.int p2), .unset, .unset, .unset, .unset] [(.int (11 : Int32)), (.ref b2), (.ref b2)])) _
      refine XS.sipush X35.here hx rfl (hb hby at_72) ?_
      exact κ)
  obtain ⟨T38, h38, L38, X38, e38, N38, W38, V38a, st38⟩ := own_stI X35 hx hZ e35 V35 ⟨by decide, by decide⟩ 11 rfl (Nat.le_of_ble_eq_true rfl) N35 gb2 (g := (mkF m 75 #[.val (.int p0), .val (.int p1), .val (.int p2), .unset, .unset, .unset, .unset] [(.int (768 : Int32)), (.int (11 : Int32)), (.ref b2), (.ref b2)])) rfl rfl (hb hby at_75)
  have V38 : Arv Z h38 b2 k2 .int (30 : Int32) [(.int (65 : Int32)), (.int (91 : Int32)), (.int (95 : Int32)), (.int (96 : Int32)), (.int (97 : Int32)), (.int (123 : Int32)), (.int (192 : Int32)), (.int (215 : Int32)), (.int (216 : Int32)), (.int (247 : Int32)), (.int (248 : Int32)), (.int (768 : Int32)), (.int (0 : Int32)), (.int (0 : Int32)), (.int (0 : Int32)), (.int (0 : Int32)), (.int (0 : Int32)), (.int (0 : Int32)), (.int (0 : Int32)), (.int (0 : Int32)), (.int (0 : Int32)), (.int (0 : Int32)), (.int (0 : Int32)), (.int (0 : Int32)), (.int (0 : Int32)), (.int (0 : Int32)), (.int (0 : Int32)), (.int (0 : Int32)), (.int (0 : Int32)), (.int (0 : Int32))] (.int (0 : Int32)) := V38a
  have Z38 : n0 ≤ h38.size := Nat.le_trans Z35 (Keep.of_wr W38).1
  have c39 : ∀ τ, Steps p.tables e below (T38.setTop (mkF m 76 #[.val (.int p0), .val (.int p1), .val (.int p2), .unset, .unset, .unset, .unset] [(.ref b2)])) τ → Steps p.tables e below (s₁.setTop (entryFrame m #[(.int p0), (.int p1), (.int p2)] maxLocals)) τ := fun τ κ => c37 τ (st38 τ κ)
  have c40 : ∀ τ, Steps p.tables e below (T38.setTop (mkF m 82 #[.val (.int p0), .val (.int p1), .val (.int p2), .unset, .unset, .unset, .unset] [(.int (880 : Int32)), (.int (12 : Int32)), (.ref b2), (.ref b2)])) τ → Steps p.tables e below (s₁.setTop (entryFrame m #[(.int p0), (.int p1), (.int p2)] maxLocals)) τ := fun τ κ => c39 τ (by
      show Steps p.tables e below (T38.setTop (mkF m 76 #[.val (.int p0), .val (.int p1), .val (.int p2), .unset, .unset, .unset, .unset] [(.ref b2)])) _
      refine XS.dup X38.here hx rfl (hb hby at_76) rfl rfl ?_
      show Steps p.tables e below (T38.setTop (mkF m 77 #[.val (.int p0), .val (.int p1), .val (.int p2), .unset, .unset, .unset, .unset] [(.ref b2), (.ref b2)])) _
      refine XS.bipush X38.here hx rfl (hb hby at_77) ?_
      show Steps p.tables e below (T38.setTop (mkF m 79 #[.val (.int p0), .val (.int p1), .val (.int p2), .unset, .unset, .unset, .unset] [(.int (12 : Int32)), (.ref b2), (.ref b2)])) _
      refine XS.sipush X38.here hx rfl (hb hby at_79) ?_
      exact κ)
  obtain ⟨T41, h41, L41, X41, e41, N41, W41, V41a, st41⟩ := own_stI X38 hx hZ e38 V38 ⟨by decide, by decide⟩ 12 rfl (Nat.le_of_ble_eq_true rfl) N38 gb2 (g := (mkF m 82 #[.val (.int p0), .val (.int p1), .val (.int p2), .unset, .unset, .unset, .unset] [(.int (880 : Int32)), (.int (12 : Int32)), (.ref b2), (.ref b2)])) rfl rfl (hb hby at_82)
  have V41 : Arv Z h41 b2 k2 .int (30 : Int32) [(.int (65 : Int32)), (.int (91 : Int32)), (.int (95 : Int32)), (.int (96 : Int32)), (.int (97 : Int32)), (.int (123 : Int32)), (.int (192 : Int32)), (.int (215 : Int32)), (.int (216 : Int32)), (.int (247 : Int32)), (.int (248 : Int32)), (.int (768 : Int32)), (.int (880 : Int32)), (.int (0 : Int32)), (.int (0 : Int32)), (.int (0 : Int32)), (.int (0 : Int32)), (.int (0 : Int32)), (.int (0 : Int32)), (.int (0 : Int32)), (.int (0 : Int32)), (.int (0 : Int32)), (.int (0 : Int32)), (.int (0 : Int32)), (.int (0 : Int32)), (.int (0 : Int32)), (.int (0 : Int32)), (.int (0 : Int32)), (.int (0 : Int32)), (.int (0 : Int32))] (.int (0 : Int32)) := V41a
  have Z41 : n0 ≤ h41.size := Nat.le_trans Z38 (Keep.of_wr W41).1
  have c42 : ∀ τ, Steps p.tables e below (T41.setTop (mkF m 83 #[.val (.int p0), .val (.int p1), .val (.int p2), .unset, .unset, .unset, .unset] [(.ref b2)])) τ → Steps p.tables e below (s₁.setTop (entryFrame m #[(.int p0), (.int p1), (.int p2)] maxLocals)) τ := fun τ κ => c40 τ (st41 τ κ)
  have c43 : ∀ τ, Steps p.tables e below (T41.setTop (mkF m 89 #[.val (.int p0), .val (.int p1), .val (.int p2), .unset, .unset, .unset, .unset] [(.int (894 : Int32)), (.int (13 : Int32)), (.ref b2), (.ref b2)])) τ → Steps p.tables e below (s₁.setTop (entryFrame m #[(.int p0), (.int p1), (.int p2)] maxLocals)) τ := fun τ κ => c42 τ (by
      show Steps p.tables e below (T41.setTop (mkF m 83 #[.val (.int p0), .val (.int p1), .val (.int p2), .unset, .unset, .unset, .unset] [(.ref b2)])) _
      refine XS.dup X41.here hx rfl (hb hby at_83) rfl rfl ?_
      show Steps p.tables e below (T41.setTop (mkF m 84 #[.val (.int p0), .val (.int p1), .val (.int p2), .unset, .unset, .unset, .unset] [(.ref b2), (.ref b2)])) _
      refine XS.bipush X41.here hx rfl (hb hby at_84) ?_
      show Steps p.tables e below (T41.setTop (mkF m 86 #[.val (.int p0), .val (.int p1), .val (.int p2), .unset, .unset, .unset, .unset] [(.int (13 : Int32)), (.ref b2), (.ref b2)])) _
      refine XS.sipush X41.here hx rfl (hb hby at_86) ?_
      exact κ)
  obtain ⟨T44, h44, L44, X44, e44, N44, W44, V44a, st44⟩ := own_stI X41 hx hZ e41 V41 ⟨by decide, by decide⟩ 13 rfl (Nat.le_of_ble_eq_true rfl) N41 gb2 (g := (mkF m 89 #[.val (.int p0), .val (.int p1), .val (.int p2), .unset, .unset, .unset, .unset] [(.int (894 : Int32)), (.int (13 : Int32)), (.ref b2), (.ref b2)])) rfl rfl (hb hby at_89)
  have V44 : Arv Z h44 b2 k2 .int (30 : Int32) [(.int (65 : Int32)), (.int (91 : Int32)), (.int (95 : Int32)), (.int (96 : Int32)), (.int (97 : Int32)), (.int (123 : Int32)), (.int (192 : Int32)), (.int (215 : Int32)), (.int (216 : Int32)), (.int (247 : Int32)), (.int (248 : Int32)), (.int (768 : Int32)), (.int (880 : Int32)), (.int (894 : Int32)), (.int (0 : Int32)), (.int (0 : Int32)), (.int (0 : Int32)), (.int (0 : Int32)), (.int (0 : Int32)), (.int (0 : Int32)), (.int (0 : Int32)), (.int (0 : Int32)), (.int (0 : Int32)), (.int (0 : Int32)), (.int (0 : Int32)), (.int (0 : Int32)), (.int (0 : Int32)), (.int (0 : Int32)), (.int (0 : Int32)), (.int (0 : Int32))] (.int (0 : Int32)) := V44a
  have Z44 : n0 ≤ h44.size := Nat.le_trans Z41 (Keep.of_wr W44).1
  have c45 : ∀ τ, Steps p.tables e below (T44.setTop (mkF m 90 #[.val (.int p0), .val (.int p1), .val (.int p2), .unset, .unset, .unset, .unset] [(.ref b2)])) τ → Steps p.tables e below (s₁.setTop (entryFrame m #[(.int p0), (.int p1), (.int p2)] maxLocals)) τ := fun τ κ => c43 τ (st44 τ κ)
  have c46 : ∀ τ, Steps p.tables e below (T44.setTop (mkF m 96 #[.val (.int p0), .val (.int p1), .val (.int p2), .unset, .unset, .unset, .unset] [(.int (895 : Int32)), (.int (14 : Int32)), (.ref b2), (.ref b2)])) τ → Steps p.tables e below (s₁.setTop (entryFrame m #[(.int p0), (.int p1), (.int p2)] maxLocals)) τ := fun τ κ => c45 τ (by
      show Steps p.tables e below (T44.setTop (mkF m 90 #[.val (.int p0), .val (.int p1), .val (.int p2), .unset, .unset, .unset, .unset] [(.ref b2)])) _
      refine XS.dup X44.here hx rfl (hb hby at_90) rfl rfl ?_
      show Steps p.tables e below (T44.setTop (mkF m 91 #[.val (.int p0), .val (.int p1), .val (.int p2), .unset, .unset, .unset, .unset] [(.ref b2), (.ref b2)])) _
      refine XS.bipush X44.here hx rfl (hb hby at_91) ?_
      show Steps p.tables e below (T44.setTop (mkF m 93 #[.val (.int p0), .val (.int p1), .val (.int p2), .unset, .unset, .unset, .unset] [(.int (14 : Int32)), (.ref b2), (.ref b2)])) _
      refine XS.sipush X44.here hx rfl (hb hby at_93) ?_
      exact κ)
  obtain ⟨T47, h47, L47, X47, e47, N47, W47, V47a, st47⟩ := own_stI X44 hx hZ e44 V44 ⟨by decide, by decide⟩ 14 rfl (Nat.le_of_ble_eq_true rfl) N44 gb2 (g := (mkF m 96 #[.val (.int p0), .val (.int p1), .val (.int p2), .unset, .unset, .unset, .unset] [(.int (895 : Int32)), (.int (14 : Int32)), (.ref b2), (.ref b2)])) rfl rfl (hb hby at_96)
  have V47 : Arv Z h47 b2 k2 .int (30 : Int32) [(.int (65 : Int32)), (.int (91 : Int32)), (.int (95 : Int32)), (.int (96 : Int32)), (.int (97 : Int32)), (.int (123 : Int32)), (.int (192 : Int32)), (.int (215 : Int32)), (.int (216 : Int32)), (.int (247 : Int32)), (.int (248 : Int32)), (.int (768 : Int32)), (.int (880 : Int32)), (.int (894 : Int32)), (.int (895 : Int32)), (.int (0 : Int32)), (.int (0 : Int32)), (.int (0 : Int32)), (.int (0 : Int32)), (.int (0 : Int32)), (.int (0 : Int32)), (.int (0 : Int32)), (.int (0 : Int32)), (.int (0 : Int32)), (.int (0 : Int32)), (.int (0 : Int32)), (.int (0 : Int32)), (.int (0 : Int32)), (.int (0 : Int32)), (.int (0 : Int32))] (.int (0 : Int32)) := V47a
  have Z47 : n0 ≤ h47.size := Nat.le_trans Z44 (Keep.of_wr W47).1
  have c48 : ∀ τ, Steps p.tables e below (T47.setTop (mkF m 97 #[.val (.int p0), .val (.int p1), .val (.int p2), .unset, .unset, .unset, .unset] [(.ref b2)])) τ → Steps p.tables e below (s₁.setTop (entryFrame m #[(.int p0), (.int p1), (.int p2)] maxLocals)) τ := fun τ κ => c46 τ (st47 τ κ)
  have c49 : ∀ τ, Steps p.tables e below (T47.setTop (mkF m 103 #[.val (.int p0), .val (.int p1), .val (.int p2), .unset, .unset, .unset, .unset] [(.int (8192 : Int32)), (.int (15 : Int32)), (.ref b2), (.ref b2)])) τ → Steps p.tables e below (s₁.setTop (entryFrame m #[(.int p0), (.int p1), (.int p2)] maxLocals)) τ := fun τ κ => c48 τ (by
      show Steps p.tables e below (T47.setTop (mkF m 97 #[.val (.int p0), .val (.int p1), .val (.int p2), .unset, .unset, .unset, .unset] [(.ref b2)])) _
      refine XS.dup X47.here hx rfl (hb hby at_97) rfl rfl ?_
      show Steps p.tables e below (T47.setTop (mkF m 98 #[.val (.int p0), .val (.int p1), .val (.int p2), .unset, .unset, .unset, .unset] [(.ref b2), (.ref b2)])) _
      refine XS.bipush X47.here hx rfl (hb hby at_98) ?_
      show Steps p.tables e below (T47.setTop (mkF m 100 #[.val (.int p0), .val (.int p1), .val (.int p2), .unset, .unset, .unset, .unset] [(.int (15 : Int32)), (.ref b2), (.ref b2)])) _
      refine XS.sipush X47.here hx rfl (hb hby at_100) ?_
      exact κ)
  obtain ⟨T50, h50, L50, X50, e50, N50, W50, V50a, st50⟩ := own_stI X47 hx hZ e47 V47 ⟨by decide, by decide⟩ 15 rfl (Nat.le_of_ble_eq_true rfl) N47 gb2 (g := (mkF m 103 #[.val (.int p0), .val (.int p1), .val (.int p2), .unset, .unset, .unset, .unset] [(.int (8192 : Int32)), (.int (15 : Int32)), (.ref b2), (.ref b2)])) rfl rfl (hb hby at_103)
  have V50 : Arv Z h50 b2 k2 .int (30 : Int32) [(.int (65 : Int32)), (.int (91 : Int32)), (.int (95 : Int32)), (.int (96 : Int32)), (.int (97 : Int32)), (.int (123 : Int32)), (.int (192 : Int32)), (.int (215 : Int32)), (.int (216 : Int32)), (.int (247 : Int32)), (.int (248 : Int32)), (.int (768 : Int32)), (.int (880 : Int32)), (.int (894 : Int32)), (.int (895 : Int32)), (.int (8192 : Int32)), (.int (0 : Int32)), (.int (0 : Int32)), (.int (0 : Int32)), (.int (0 : Int32)), (.int (0 : Int32)), (.int (0 : Int32)), (.int (0 : Int32)), (.int (0 : Int32)), (.int (0 : Int32)), (.int (0 : Int32)), (.int (0 : Int32)), (.int (0 : Int32)), (.int (0 : Int32)), (.int (0 : Int32))] (.int (0 : Int32)) := V50a
  have Z50 : n0 ≤ h50.size := Nat.le_trans Z47 (Keep.of_wr W50).1
  have c51 : ∀ τ, Steps p.tables e below (T50.setTop (mkF m 104 #[.val (.int p0), .val (.int p1), .val (.int p2), .unset, .unset, .unset, .unset] [(.ref b2)])) τ → Steps p.tables e below (s₁.setTop (entryFrame m #[(.int p0), (.int p1), (.int p2)] maxLocals)) τ := fun τ κ => c49 τ (st50 τ κ)
  have c52 : ∀ τ, Steps p.tables e below (T50.setTop (mkF m 110 #[.val (.int p0), .val (.int p1), .val (.int p2), .unset, .unset, .unset, .unset] [(.int (8204 : Int32)), (.int (16 : Int32)), (.ref b2), (.ref b2)])) τ → Steps p.tables e below (s₁.setTop (entryFrame m #[(.int p0), (.int p1), (.int p2)] maxLocals)) τ := fun τ κ => c51 τ (by
      show Steps p.tables e below (T50.setTop (mkF m 104 #[.val (.int p0), .val (.int p1), .val (.int p2), .unset, .unset, .unset, .unset] [(.ref b2)])) _
      refine XS.dup X50.here hx rfl (hb hby at_104) rfl rfl ?_
      show Steps p.tables e below (T50.setTop (mkF m 105 #[.val (.int p0), .val (.int p1), .val (.int p2), .unset, .unset, .unset, .unset] [(.ref b2), (.ref b2)])) _
      refine XS.bipush X50.here hx rfl (hb hby at_105) ?_
      show Steps p.tables e below (T50.setTop (mkF m 107 #[.val (.int p0), .val (.int p1), .val (.int p2), .unset, .unset, .unset, .unset] [(.int (16 : Int32)), (.ref b2), (.ref b2)])) _
      refine XS.sipush X50.here hx rfl (hb hby at_107) ?_
      exact κ)
  obtain ⟨T53, h53, L53, X53, e53, N53, W53, V53a, st53⟩ := own_stI X50 hx hZ e50 V50 ⟨by decide, by decide⟩ 16 rfl (Nat.le_of_ble_eq_true rfl) N50 gb2 (g := (mkF m 110 #[.val (.int p0), .val (.int p1), .val (.int p2), .unset, .unset, .unset, .unset] [(.int (8204 : Int32)), (.int (16 : Int32)), (.ref b2), (.ref b2)])) rfl rfl (hb hby at_110)
  have V53 : Arv Z h53 b2 k2 .int (30 : Int32) [(.int (65 : Int32)), (.int (91 : Int32)), (.int (95 : Int32)), (.int (96 : Int32)), (.int (97 : Int32)), (.int (123 : Int32)), (.int (192 : Int32)), (.int (215 : Int32)), (.int (216 : Int32)), (.int (247 : Int32)), (.int (248 : Int32)), (.int (768 : Int32)), (.int (880 : Int32)), (.int (894 : Int32)), (.int (895 : Int32)), (.int (8192 : Int32)), (.int (8204 : Int32)), (.int (0 : Int32)), (.int (0 : Int32)), (.int (0 : Int32)), (.int (0 : Int32)), (.int (0 : Int32)), (.int (0 : Int32)), (.int (0 : Int32)), (.int (0 : Int32)), (.int (0 : Int32)), (.int (0 : Int32)), (.int (0 : Int32)), (.int (0 : Int32)), (.int (0 : Int32))] (.int (0 : Int32)) := V53a
  have Z53 : n0 ≤ h53.size := Nat.le_trans Z50 (Keep.of_wr W53).1
  have c54 : ∀ τ, Steps p.tables e below (T53.setTop (mkF m 111 #[.val (.int p0), .val (.int p1), .val (.int p2), .unset, .unset, .unset, .unset] [(.ref b2)])) τ → Steps p.tables e below (s₁.setTop (entryFrame m #[(.int p0), (.int p1), (.int p2)] maxLocals)) τ := fun τ κ => c52 τ (st53 τ κ)
  have c55 : ∀ τ, Steps p.tables e below (T53.setTop (mkF m 117 #[.val (.int p0), .val (.int p1), .val (.int p2), .unset, .unset, .unset, .unset] [(.int (8206 : Int32)), (.int (17 : Int32)), (.ref b2), (.ref b2)])) τ → Steps p.tables e below (s₁.setTop (entryFrame m #[(.int p0), (.int p1), (.int p2)] maxLocals)) τ := fun τ κ => c54 τ (by
      show Steps p.tables e below (T53.setTop (mkF m 111 #[.val (.int p0), .val (.int p1), .val (.int p2), .unset, .unset, .unset, .unset] [(.ref b2)])) _
      refine XS.dup X53.here hx rfl (hb hby at_111) rfl rfl ?_
      show Steps p.tables e below (T53.setTop (mkF m 112 #[.val (.int p0), .val (.int p1), .val (.int p2), .unset, .unset, .unset, .unset] [(.ref b2), (.ref b2)])) _
      refine XS.bipush X53.here hx rfl (hb hby at_112) ?_
      show Steps p.tables e below (T53.setTop (mkF m 114 #[.val (.int p0), .val (.int p1), .val (.int p2), .unset, .unset, .unset, .unset] [(.int (17 : Int32)), (.ref b2), (.ref b2)])) _
      refine XS.sipush X53.here hx rfl (hb hby at_114) ?_
      exact κ)
  obtain ⟨T56, h56, L56, X56, e56, N56, W56, V56a, st56⟩ := own_stI X53 hx hZ e53 V53 ⟨by decide, by decide⟩ 17 rfl (Nat.le_of_ble_eq_true rfl) N53 gb2 (g := (mkF m 117 #[.val (.int p0), .val (.int p1), .val (.int p2), .unset, .unset, .unset, .unset] [(.int (8206 : Int32)), (.int (17 : Int32)), (.ref b2), (.ref b2)])) rfl rfl (hb hby at_117)
  have V56 : Arv Z h56 b2 k2 .int (30 : Int32) [(.int (65 : Int32)), (.int (91 : Int32)), (.int (95 : Int32)), (.int (96 : Int32)), (.int (97 : Int32)), (.int (123 : Int32)), (.int (192 : Int32)), (.int (215 : Int32)), (.int (216 : Int32)), (.int (247 : Int32)), (.int (248 : Int32)), (.int (768 : Int32)), (.int (880 : Int32)), (.int (894 : Int32)), (.int (895 : Int32)), (.int (8192 : Int32)), (.int (8204 : Int32)), (.int (8206 : Int32)), (.int (0 : Int32)), (.int (0 : Int32)), (.int (0 : Int32)), (.int (0 : Int32)), (.int (0 : Int32)), (.int (0 : Int32)), (.int (0 : Int32)), (.int (0 : Int32)), (.int (0 : Int32)), (.int (0 : Int32)), (.int (0 : Int32)), (.int (0 : Int32))] (.int (0 : Int32)) := V56a
  have Z56 : n0 ≤ h56.size := Nat.le_trans Z53 (Keep.of_wr W56).1
  have c57 : ∀ τ, Steps p.tables e below (T56.setTop (mkF m 118 #[.val (.int p0), .val (.int p1), .val (.int p2), .unset, .unset, .unset, .unset] [(.ref b2)])) τ → Steps p.tables e below (s₁.setTop (entryFrame m #[(.int p0), (.int p1), (.int p2)] maxLocals)) τ := fun τ κ => c55 τ (st56 τ κ)
  have c58 : ∀ τ, Steps p.tables e below (T56.setTop (mkF m 124 #[.val (.int p0), .val (.int p1), .val (.int p2), .unset, .unset, .unset, .unset] [(.int (8304 : Int32)), (.int (18 : Int32)), (.ref b2), (.ref b2)])) τ → Steps p.tables e below (s₁.setTop (entryFrame m #[(.int p0), (.int p1), (.int p2)] maxLocals)) τ := fun τ κ => c57 τ (by
      show Steps p.tables e below (T56.setTop (mkF m 118 #[.val (.int p0), .val (.int p1), .val (.int p2), .unset, .unset, .unset, .unset] [(.ref b2)])) _
      refine XS.dup X56.here hx rfl (hb hby at_118) rfl rfl ?_
      show Steps p.tables e below (T56.setTop (mkF m 119 #[.val (.int p0), .val (.int p1), .val (.int p2), .unset, .unset, .unset, .unset] [(.ref b2), (.ref b2)])) _
      refine XS.bipush X56.here hx rfl (hb hby at_119) ?_
      show Steps p.tables e below (T56.setTop (mkF m 121 #[.val (.int p0), .val (.int p1), .val (.int p2), .unset, .unset, .unset, .unset] [(.int (18 : Int32)), (.ref b2), (.ref b2)])) _
      refine XS.sipush X56.here hx rfl (hb hby at_121) ?_
      exact κ)
  obtain ⟨T59, h59, L59, X59, e59, N59, W59, V59a, st59⟩ := own_stI X56 hx hZ e56 V56 ⟨by decide, by decide⟩ 18 rfl (Nat.le_of_ble_eq_true rfl) N56 gb2 (g := (mkF m 124 #[.val (.int p0), .val (.int p1), .val (.int p2), .unset, .unset, .unset, .unset] [(.int (8304 : Int32)), (.int (18 : Int32)), (.ref b2), (.ref b2)])) rfl rfl (hb hby at_124)
  have V59 : Arv Z h59 b2 k2 .int (30 : Int32) [(.int (65 : Int32)), (.int (91 : Int32)), (.int (95 : Int32)), (.int (96 : Int32)), (.int (97 : Int32)), (.int (123 : Int32)), (.int (192 : Int32)), (.int (215 : Int32)), (.int (216 : Int32)), (.int (247 : Int32)), (.int (248 : Int32)), (.int (768 : Int32)), (.int (880 : Int32)), (.int (894 : Int32)), (.int (895 : Int32)), (.int (8192 : Int32)), (.int (8204 : Int32)), (.int (8206 : Int32)), (.int (8304 : Int32)), (.int (0 : Int32)), (.int (0 : Int32)), (.int (0 : Int32)), (.int (0 : Int32)), (.int (0 : Int32)), (.int (0 : Int32)), (.int (0 : Int32)), (.int (0 : Int32)), (.int (0 : Int32)), (.int (0 : Int32)), (.int (0 : Int32))] (.int (0 : Int32)) := V59a
  have Z59 : n0 ≤ h59.size := Nat.le_trans Z56 (Keep.of_wr W59).1
  have c60 : ∀ τ, Steps p.tables e below (T59.setTop (mkF m 125 #[.val (.int p0), .val (.int p1), .val (.int p2), .unset, .unset, .unset, .unset] [(.ref b2)])) τ → Steps p.tables e below (s₁.setTop (entryFrame m #[(.int p0), (.int p1), (.int p2)] maxLocals)) τ := fun τ κ => c58 τ (st59 τ κ)
  have c61 : ∀ τ, Steps p.tables e below (T59.setTop (mkF m 131 #[.val (.int p0), .val (.int p1), .val (.int p2), .unset, .unset, .unset, .unset] [(.int (8592 : Int32)), (.int (19 : Int32)), (.ref b2), (.ref b2)])) τ → Steps p.tables e below (s₁.setTop (entryFrame m #[(.int p0), (.int p1), (.int p2)] maxLocals)) τ := fun τ κ => c60 τ (by
      show Steps p.tables e below (T59.setTop (mkF m 125 #[.val (.int p0), .val (.int p1), .val (.int p2), .unset, .unset, .unset, .unset] [(.ref b2)])) _
      refine XS.dup X59.here hx rfl (hb hby at_125) rfl rfl ?_
      show Steps p.tables e below (T59.setTop (mkF m 126 #[.val (.int p0), .val (.int p1), .val (.int p2), .unset, .unset, .unset, .unset] [(.ref b2), (.ref b2)])) _
      refine XS.bipush X59.here hx rfl (hb hby at_126) ?_
      show Steps p.tables e below (T59.setTop (mkF m 128 #[.val (.int p0), .val (.int p1), .val (.int p2), .unset, .unset, .unset, .unset] [(.int (19 : Int32)), (.ref b2), (.ref b2)])) _
      refine XS.sipush X59.here hx rfl (hb hby at_128) ?_
      exact κ)
  obtain ⟨T62, h62, L62, X62, e62, N62, W62, V62a, st62⟩ := own_stI X59 hx hZ e59 V59 ⟨by decide, by decide⟩ 19 rfl (Nat.le_of_ble_eq_true rfl) N59 gb2 (g := (mkF m 131 #[.val (.int p0), .val (.int p1), .val (.int p2), .unset, .unset, .unset, .unset] [(.int (8592 : Int32)), (.int (19 : Int32)), (.ref b2), (.ref b2)])) rfl rfl (hb hby at_131)
  have V62 : Arv Z h62 b2 k2 .int (30 : Int32) [(.int (65 : Int32)), (.int (91 : Int32)), (.int (95 : Int32)), (.int (96 : Int32)), (.int (97 : Int32)), (.int (123 : Int32)), (.int (192 : Int32)), (.int (215 : Int32)), (.int (216 : Int32)), (.int (247 : Int32)), (.int (248 : Int32)), (.int (768 : Int32)), (.int (880 : Int32)), (.int (894 : Int32)), (.int (895 : Int32)), (.int (8192 : Int32)), (.int (8204 : Int32)), (.int (8206 : Int32)), (.int (8304 : Int32)), (.int (8592 : Int32)), (.int (0 : Int32)), (.int (0 : Int32)), (.int (0 : Int32)), (.int (0 : Int32)), (.int (0 : Int32)), (.int (0 : Int32)), (.int (0 : Int32)), (.int (0 : Int32)), (.int (0 : Int32)), (.int (0 : Int32))] (.int (0 : Int32)) := V62a
  have Z62 : n0 ≤ h62.size := Nat.le_trans Z59 (Keep.of_wr W62).1
  have c63 : ∀ τ, Steps p.tables e below (T62.setTop (mkF m 132 #[.val (.int p0), .val (.int p1), .val (.int p2), .unset, .unset, .unset, .unset] [(.ref b2)])) τ → Steps p.tables e below (s₁.setTop (entryFrame m #[(.int p0), (.int p1), (.int p2)] maxLocals)) τ := fun τ κ => c61 τ (st62 τ κ)
  have c64 : ∀ τ, Steps p.tables e below (T62.setTop (mkF m 138 #[.val (.int p0), .val (.int p1), .val (.int p2), .unset, .unset, .unset, .unset] [(.int (11264 : Int32)), (.int (20 : Int32)), (.ref b2), (.ref b2)])) τ → Steps p.tables e below (s₁.setTop (entryFrame m #[(.int p0), (.int p1), (.int p2)] maxLocals)) τ := fun τ κ => c63 τ (by
      show Steps p.tables e below (T62.setTop (mkF m 132 #[.val (.int p0), .val (.int p1), .val (.int p2), .unset, .unset, .unset, .unset] [(.ref b2)])) _
      refine XS.dup X62.here hx rfl (hb hby at_132) rfl rfl ?_
      show Steps p.tables e below (T62.setTop (mkF m 133 #[.val (.int p0), .val (.int p1), .val (.int p2), .unset, .unset, .unset, .unset] [(.ref b2), (.ref b2)])) _
      refine XS.bipush X62.here hx rfl (hb hby at_133) ?_
      show Steps p.tables e below (T62.setTop (mkF m 135 #[.val (.int p0), .val (.int p1), .val (.int p2), .unset, .unset, .unset, .unset] [(.int (20 : Int32)), (.ref b2), (.ref b2)])) _
      refine XS.sipush X62.here hx rfl (hb hby at_135) ?_
      exact κ)
  obtain ⟨T65, h65, L65, X65, e65, N65, W65, V65a, st65⟩ := own_stI X62 hx hZ e62 V62 ⟨by decide, by decide⟩ 20 rfl (Nat.le_of_ble_eq_true rfl) N62 gb2 (g := (mkF m 138 #[.val (.int p0), .val (.int p1), .val (.int p2), .unset, .unset, .unset, .unset] [(.int (11264 : Int32)), (.int (20 : Int32)), (.ref b2), (.ref b2)])) rfl rfl (hb hby at_138)
  have V65 : Arv Z h65 b2 k2 .int (30 : Int32) [(.int (65 : Int32)), (.int (91 : Int32)), (.int (95 : Int32)), (.int (96 : Int32)), (.int (97 : Int32)), (.int (123 : Int32)), (.int (192 : Int32)), (.int (215 : Int32)), (.int (216 : Int32)), (.int (247 : Int32)), (.int (248 : Int32)), (.int (768 : Int32)), (.int (880 : Int32)), (.int (894 : Int32)), (.int (895 : Int32)), (.int (8192 : Int32)), (.int (8204 : Int32)), (.int (8206 : Int32)), (.int (8304 : Int32)), (.int (8592 : Int32)), (.int (11264 : Int32)), (.int (0 : Int32)), (.int (0 : Int32)), (.int (0 : Int32)), (.int (0 : Int32)), (.int (0 : Int32)), (.int (0 : Int32)), (.int (0 : Int32)), (.int (0 : Int32)), (.int (0 : Int32))] (.int (0 : Int32)) := V65a
  have Z65 : n0 ≤ h65.size := Nat.le_trans Z62 (Keep.of_wr W65).1
  have c66 : ∀ τ, Steps p.tables e below (T65.setTop (mkF m 139 #[.val (.int p0), .val (.int p1), .val (.int p2), .unset, .unset, .unset, .unset] [(.ref b2)])) τ → Steps p.tables e below (s₁.setTop (entryFrame m #[(.int p0), (.int p1), (.int p2)] maxLocals)) τ := fun τ κ => c64 τ (st65 τ κ)
  have c67 : ∀ τ, Steps p.tables e below (T65.setTop (mkF m 145 #[.val (.int p0), .val (.int p1), .val (.int p2), .unset, .unset, .unset, .unset] [(.int (12272 : Int32)), (.int (21 : Int32)), (.ref b2), (.ref b2)])) τ → Steps p.tables e below (s₁.setTop (entryFrame m #[(.int p0), (.int p1), (.int p2)] maxLocals)) τ := fun τ κ => c66 τ (by
      show Steps p.tables e below (T65.setTop (mkF m 139 #[.val (.int p0), .val (.int p1), .val (.int p2), .unset, .unset, .unset, .unset] [(.ref b2)])) _
      refine XS.dup X65.here hx rfl (hb hby at_139) rfl rfl ?_
      show Steps p.tables e below (T65.setTop (mkF m 140 #[.val (.int p0), .val (.int p1), .val (.int p2), .unset, .unset, .unset, .unset] [(.ref b2), (.ref b2)])) _
      refine XS.bipush X65.here hx rfl (hb hby at_140) ?_
      show Steps p.tables e below (T65.setTop (mkF m 142 #[.val (.int p0), .val (.int p1), .val (.int p2), .unset, .unset, .unset, .unset] [(.int (21 : Int32)), (.ref b2), (.ref b2)])) _
      refine XS.sipush X65.here hx rfl (hb hby at_142) ?_
      exact κ)
  obtain ⟨T68, h68, L68, X68, e68, N68, W68, V68a, st68⟩ := own_stI X65 hx hZ e65 V65 ⟨by decide, by decide⟩ 21 rfl (Nat.le_of_ble_eq_true rfl) N65 gb2 (g := (mkF m 145 #[.val (.int p0), .val (.int p1), .val (.int p2), .unset, .unset, .unset, .unset] [(.int (12272 : Int32)), (.int (21 : Int32)), (.ref b2), (.ref b2)])) rfl rfl (hb hby at_145)
  have V68 : Arv Z h68 b2 k2 .int (30 : Int32) [(.int (65 : Int32)), (.int (91 : Int32)), (.int (95 : Int32)), (.int (96 : Int32)), (.int (97 : Int32)), (.int (123 : Int32)), (.int (192 : Int32)), (.int (215 : Int32)), (.int (216 : Int32)), (.int (247 : Int32)), (.int (248 : Int32)), (.int (768 : Int32)), (.int (880 : Int32)), (.int (894 : Int32)), (.int (895 : Int32)), (.int (8192 : Int32)), (.int (8204 : Int32)), (.int (8206 : Int32)), (.int (8304 : Int32)), (.int (8592 : Int32)), (.int (11264 : Int32)), (.int (12272 : Int32)), (.int (0 : Int32)), (.int (0 : Int32)), (.int (0 : Int32)), (.int (0 : Int32)), (.int (0 : Int32)), (.int (0 : Int32)), (.int (0 : Int32)), (.int (0 : Int32))] (.int (0 : Int32)) := V68a
  have Z68 : n0 ≤ h68.size := Nat.le_trans Z65 (Keep.of_wr W68).1
  have c69 : ∀ τ, Steps p.tables e below (T68.setTop (mkF m 146 #[.val (.int p0), .val (.int p1), .val (.int p2), .unset, .unset, .unset, .unset] [(.ref b2)])) τ → Steps p.tables e below (s₁.setTop (entryFrame m #[(.int p0), (.int p1), (.int p2)] maxLocals)) τ := fun τ κ => c67 τ (st68 τ κ)
  have c70 : ∀ τ, Steps p.tables e below (T68.setTop (mkF m 152 #[.val (.int p0), .val (.int p1), .val (.int p2), .unset, .unset, .unset, .unset] [(.int (12289 : Int32)), (.int (22 : Int32)), (.ref b2), (.ref b2)])) τ → Steps p.tables e below (s₁.setTop (entryFrame m #[(.int p0), (.int p1), (.int p2)] maxLocals)) τ := fun τ κ => c69 τ (by
      show Steps p.tables e below (T68.setTop (mkF m 146 #[.val (.int p0), .val (.int p1), .val (.int p2), .unset, .unset, .unset, .unset] [(.ref b2)])) _
      refine XS.dup X68.here hx rfl (hb hby at_146) rfl rfl ?_
      show Steps p.tables e below (T68.setTop (mkF m 147 #[.val (.int p0), .val (.int p1), .val (.int p2), .unset, .unset, .unset, .unset] [(.ref b2), (.ref b2)])) _
      refine XS.bipush X68.here hx rfl (hb hby at_147) ?_
      show Steps p.tables e below (T68.setTop (mkF m 149 #[.val (.int p0), .val (.int p1), .val (.int p2), .unset, .unset, .unset, .unset] [(.int (22 : Int32)), (.ref b2), (.ref b2)])) _
      refine XS.sipush X68.here hx rfl (hb hby at_149) ?_
      exact κ)
  obtain ⟨T71, h71, L71, X71, e71, N71, W71, V71a, st71⟩ := own_stI X68 hx hZ e68 V68 ⟨by decide, by decide⟩ 22 rfl (Nat.le_of_ble_eq_true rfl) N68 gb2 (g := (mkF m 152 #[.val (.int p0), .val (.int p1), .val (.int p2), .unset, .unset, .unset, .unset] [(.int (12289 : Int32)), (.int (22 : Int32)), (.ref b2), (.ref b2)])) rfl rfl (hb hby at_152)
  have V71 : Arv Z h71 b2 k2 .int (30 : Int32) [(.int (65 : Int32)), (.int (91 : Int32)), (.int (95 : Int32)), (.int (96 : Int32)), (.int (97 : Int32)), (.int (123 : Int32)), (.int (192 : Int32)), (.int (215 : Int32)), (.int (216 : Int32)), (.int (247 : Int32)), (.int (248 : Int32)), (.int (768 : Int32)), (.int (880 : Int32)), (.int (894 : Int32)), (.int (895 : Int32)), (.int (8192 : Int32)), (.int (8204 : Int32)), (.int (8206 : Int32)), (.int (8304 : Int32)), (.int (8592 : Int32)), (.int (11264 : Int32)), (.int (12272 : Int32)), (.int (12289 : Int32)), (.int (0 : Int32)), (.int (0 : Int32)), (.int (0 : Int32)), (.int (0 : Int32)), (.int (0 : Int32)), (.int (0 : Int32)), (.int (0 : Int32))] (.int (0 : Int32)) := V71a
  have Z71 : n0 ≤ h71.size := Nat.le_trans Z68 (Keep.of_wr W71).1
  have c72 : ∀ τ, Steps p.tables e below (T71.setTop (mkF m 153 #[.val (.int p0), .val (.int p1), .val (.int p2), .unset, .unset, .unset, .unset] [(.ref b2)])) τ → Steps p.tables e below (s₁.setTop (entryFrame m #[(.int p0), (.int p1), (.int p2)] maxLocals)) τ := fun τ κ => c70 τ (st71 τ κ)
  have c73 : ∀ τ, Steps p.tables e below (T71.setTop (mkF m 158 #[.val (.int p0), .val (.int p1), .val (.int p2), .unset, .unset, .unset, .unset] [(.int (55296 : Int32)), (.int (23 : Int32)), (.ref b2), (.ref b2)])) τ → Steps p.tables e below (s₁.setTop (entryFrame m #[(.int p0), (.int p1), (.int p2)] maxLocals)) τ := fun τ κ => c72 τ (by
      show Steps p.tables e below (T71.setTop (mkF m 153 #[.val (.int p0), .val (.int p1), .val (.int p2), .unset, .unset, .unset, .unset] [(.ref b2)])) _
      refine XS.dup X71.here hx rfl (hb hby at_153) rfl rfl ?_
      show Steps p.tables e below (T71.setTop (mkF m 154 #[.val (.int p0), .val (.int p1), .val (.int p2), .unset, .unset, .unset, .unset] [(.ref b2), (.ref b2)])) _
      refine XS.bipush X71.here hx rfl (hb hby at_154) ?_
      show Steps p.tables e below (T71.setTop (mkF m 156 #[.val (.int p0), .val (.int p1), .val (.int p2), .unset, .unset, .unset, .unset] [(.int (23 : Int32)), (.ref b2), (.ref b2)])) _
      refine X71.ldcInt hx hown (mvT hZ (hw _ (List.mem_of_getElem? (i := 1) rfl))) (g := (mkF m 156 #[.val (.int p0), .val (.int p1), .val (.int p2), .unset, .unset, .unset, .unset] [(.int (23 : Int32)), (.ref b2), (.ref b2)])) rfl (hb hby at_156) _ ?_
      exact κ)
  obtain ⟨T74, h74, L74, X74, e74, N74, W74, V74a, st74⟩ := own_stI X71 hx hZ e71 V71 ⟨by decide, by decide⟩ 23 rfl (Nat.le_of_ble_eq_true rfl) N71 gb2 (g := (mkF m 158 #[.val (.int p0), .val (.int p1), .val (.int p2), .unset, .unset, .unset, .unset] [(.int (55296 : Int32)), (.int (23 : Int32)), (.ref b2), (.ref b2)])) rfl rfl (hb hby at_158)
  have V74 : Arv Z h74 b2 k2 .int (30 : Int32) [(.int (65 : Int32)), (.int (91 : Int32)), (.int (95 : Int32)), (.int (96 : Int32)), (.int (97 : Int32)), (.int (123 : Int32)), (.int (192 : Int32)), (.int (215 : Int32)), (.int (216 : Int32)), (.int (247 : Int32)), (.int (248 : Int32)), (.int (768 : Int32)), (.int (880 : Int32)), (.int (894 : Int32)), (.int (895 : Int32)), (.int (8192 : Int32)), (.int (8204 : Int32)), (.int (8206 : Int32)), (.int (8304 : Int32)), (.int (8592 : Int32)), (.int (11264 : Int32)), (.int (12272 : Int32)), (.int (12289 : Int32)), (.int (55296 : Int32)), (.int (0 : Int32)), (.int (0 : Int32)), (.int (0 : Int32)), (.int (0 : Int32)), (.int (0 : Int32)), (.int (0 : Int32))] (.int (0 : Int32)) := V74a
  have Z74 : n0 ≤ h74.size := Nat.le_trans Z71 (Keep.of_wr W74).1
  have c75 : ∀ τ, Steps p.tables e below (T74.setTop (mkF m 159 #[.val (.int p0), .val (.int p1), .val (.int p2), .unset, .unset, .unset, .unset] [(.ref b2)])) τ → Steps p.tables e below (s₁.setTop (entryFrame m #[(.int p0), (.int p1), (.int p2)] maxLocals)) τ := fun τ κ => c73 τ (st74 τ κ)
  have c76 : ∀ τ, Steps p.tables e below (T74.setTop (mkF m 164 #[.val (.int p0), .val (.int p1), .val (.int p2), .unset, .unset, .unset, .unset] [(.int (63744 : Int32)), (.int (24 : Int32)), (.ref b2), (.ref b2)])) τ → Steps p.tables e below (s₁.setTop (entryFrame m #[(.int p0), (.int p1), (.int p2)] maxLocals)) τ := fun τ κ => c75 τ (by
      show Steps p.tables e below (T74.setTop (mkF m 159 #[.val (.int p0), .val (.int p1), .val (.int p2), .unset, .unset, .unset, .unset] [(.ref b2)])) _
      refine XS.dup X74.here hx rfl (hb hby at_159) rfl rfl ?_
      show Steps p.tables e below (T74.setTop (mkF m 160 #[.val (.int p0), .val (.int p1), .val (.int p2), .unset, .unset, .unset, .unset] [(.ref b2), (.ref b2)])) _
      refine XS.bipush X74.here hx rfl (hb hby at_160) ?_
      show Steps p.tables e below (T74.setTop (mkF m 162 #[.val (.int p0), .val (.int p1), .val (.int p2), .unset, .unset, .unset, .unset] [(.int (24 : Int32)), (.ref b2), (.ref b2)])) _
      refine X74.ldcInt hx hown (mvT hZ (hw _ (List.mem_of_getElem? (i := 2) rfl))) (g := (mkF m 162 #[.val (.int p0), .val (.int p1), .val (.int p2), .unset, .unset, .unset, .unset] [(.int (24 : Int32)), (.ref b2), (.ref b2)])) rfl (hb hby at_162) _ ?_
      exact κ)
  obtain ⟨T77, h77, L77, X77, e77, N77, W77, V77a, st77⟩ := own_stI X74 hx hZ e74 V74 ⟨by decide, by decide⟩ 24 rfl (Nat.le_of_ble_eq_true rfl) N74 gb2 (g := (mkF m 164 #[.val (.int p0), .val (.int p1), .val (.int p2), .unset, .unset, .unset, .unset] [(.int (63744 : Int32)), (.int (24 : Int32)), (.ref b2), (.ref b2)])) rfl rfl (hb hby at_164)
  have V77 : Arv Z h77 b2 k2 .int (30 : Int32) [(.int (65 : Int32)), (.int (91 : Int32)), (.int (95 : Int32)), (.int (96 : Int32)), (.int (97 : Int32)), (.int (123 : Int32)), (.int (192 : Int32)), (.int (215 : Int32)), (.int (216 : Int32)), (.int (247 : Int32)), (.int (248 : Int32)), (.int (768 : Int32)), (.int (880 : Int32)), (.int (894 : Int32)), (.int (895 : Int32)), (.int (8192 : Int32)), (.int (8204 : Int32)), (.int (8206 : Int32)), (.int (8304 : Int32)), (.int (8592 : Int32)), (.int (11264 : Int32)), (.int (12272 : Int32)), (.int (12289 : Int32)), (.int (55296 : Int32)), (.int (63744 : Int32)), (.int (0 : Int32)), (.int (0 : Int32)), (.int (0 : Int32)), (.int (0 : Int32)), (.int (0 : Int32))] (.int (0 : Int32)) := V77a
  have Z77 : n0 ≤ h77.size := Nat.le_trans Z74 (Keep.of_wr W77).1
  have c78 : ∀ τ, Steps p.tables e below (T77.setTop (mkF m 165 #[.val (.int p0), .val (.int p1), .val (.int p2), .unset, .unset, .unset, .unset] [(.ref b2)])) τ → Steps p.tables e below (s₁.setTop (entryFrame m #[(.int p0), (.int p1), (.int p2)] maxLocals)) τ := fun τ κ => c76 τ (st77 τ κ)
  have c79 : ∀ τ, Steps p.tables e below (T77.setTop (mkF m 170 #[.val (.int p0), .val (.int p1), .val (.int p2), .unset, .unset, .unset, .unset] [(.int (64976 : Int32)), (.int (25 : Int32)), (.ref b2), (.ref b2)])) τ → Steps p.tables e below (s₁.setTop (entryFrame m #[(.int p0), (.int p1), (.int p2)] maxLocals)) τ := fun τ κ => c78 τ (by
      show Steps p.tables e below (T77.setTop (mkF m 165 #[.val (.int p0), .val (.int p1), .val (.int p2), .unset, .unset, .unset, .unset] [(.ref b2)])) _
      refine XS.dup X77.here hx rfl (hb hby at_165) rfl rfl ?_
      show Steps p.tables e below (T77.setTop (mkF m 166 #[.val (.int p0), .val (.int p1), .val (.int p2), .unset, .unset, .unset, .unset] [(.ref b2), (.ref b2)])) _
      refine XS.bipush X77.here hx rfl (hb hby at_166) ?_
      show Steps p.tables e below (T77.setTop (mkF m 168 #[.val (.int p0), .val (.int p1), .val (.int p2), .unset, .unset, .unset, .unset] [(.int (25 : Int32)), (.ref b2), (.ref b2)])) _
      refine X77.ldcInt hx hown (mvT hZ (hw _ (List.mem_of_getElem? (i := 3) rfl))) (g := (mkF m 168 #[.val (.int p0), .val (.int p1), .val (.int p2), .unset, .unset, .unset, .unset] [(.int (25 : Int32)), (.ref b2), (.ref b2)])) rfl (hb hby at_168) _ ?_
      exact κ)
  obtain ⟨T80, h80, L80, X80, e80, N80, W80, V80a, st80⟩ := own_stI X77 hx hZ e77 V77 ⟨by decide, by decide⟩ 25 rfl (Nat.le_of_ble_eq_true rfl) N77 gb2 (g := (mkF m 170 #[.val (.int p0), .val (.int p1), .val (.int p2), .unset, .unset, .unset, .unset] [(.int (64976 : Int32)), (.int (25 : Int32)), (.ref b2), (.ref b2)])) rfl rfl (hb hby at_170)
  have V80 : Arv Z h80 b2 k2 .int (30 : Int32) [(.int (65 : Int32)), (.int (91 : Int32)), (.int (95 : Int32)), (.int (96 : Int32)), (.int (97 : Int32)), (.int (123 : Int32)), (.int (192 : Int32)), (.int (215 : Int32)), (.int (216 : Int32)), (.int (247 : Int32)), (.int (248 : Int32)), (.int (768 : Int32)), (.int (880 : Int32)), (.int (894 : Int32)), (.int (895 : Int32)), (.int (8192 : Int32)), (.int (8204 : Int32)), (.int (8206 : Int32)), (.int (8304 : Int32)), (.int (8592 : Int32)), (.int (11264 : Int32)), (.int (12272 : Int32)), (.int (12289 : Int32)), (.int (55296 : Int32)), (.int (63744 : Int32)), (.int (64976 : Int32)), (.int (0 : Int32)), (.int (0 : Int32)), (.int (0 : Int32)), (.int (0 : Int32))] (.int (0 : Int32)) := V80a
  have Z80 : n0 ≤ h80.size := Nat.le_trans Z77 (Keep.of_wr W80).1
  have c81 : ∀ τ, Steps p.tables e below (T80.setTop (mkF m 171 #[.val (.int p0), .val (.int p1), .val (.int p2), .unset, .unset, .unset, .unset] [(.ref b2)])) τ → Steps p.tables e below (s₁.setTop (entryFrame m #[(.int p0), (.int p1), (.int p2)] maxLocals)) τ := fun τ κ => c79 τ (st80 τ κ)
  have c82 : ∀ τ, Steps p.tables e below (T80.setTop (mkF m 176 #[.val (.int p0), .val (.int p1), .val (.int p2), .unset, .unset, .unset, .unset] [(.int (65008 : Int32)), (.int (26 : Int32)), (.ref b2), (.ref b2)])) τ → Steps p.tables e below (s₁.setTop (entryFrame m #[(.int p0), (.int p1), (.int p2)] maxLocals)) τ := fun τ κ => c81 τ (by
      show Steps p.tables e below (T80.setTop (mkF m 171 #[.val (.int p0), .val (.int p1), .val (.int p2), .unset, .unset, .unset, .unset] [(.ref b2)])) _
      refine XS.dup X80.here hx rfl (hb hby at_171) rfl rfl ?_
      show Steps p.tables e below (T80.setTop (mkF m 172 #[.val (.int p0), .val (.int p1), .val (.int p2), .unset, .unset, .unset, .unset] [(.ref b2), (.ref b2)])) _
      refine XS.bipush X80.here hx rfl (hb hby at_172) ?_
      show Steps p.tables e below (T80.setTop (mkF m 174 #[.val (.int p0), .val (.int p1), .val (.int p2), .unset, .unset, .unset, .unset] [(.int (26 : Int32)), (.ref b2), (.ref b2)])) _
      refine X80.ldcInt hx hown (mvT hZ (hw _ (List.mem_of_getElem? (i := 4) rfl))) (g := (mkF m 174 #[.val (.int p0), .val (.int p1), .val (.int p2), .unset, .unset, .unset, .unset] [(.int (26 : Int32)), (.ref b2), (.ref b2)])) rfl (hb hby at_174) _ ?_
      exact κ)
  obtain ⟨T83, h83, L83, X83, e83, N83, W83, V83a, st83⟩ := own_stI X80 hx hZ e80 V80 ⟨by decide, by decide⟩ 26 rfl (Nat.le_of_ble_eq_true rfl) N80 gb2 (g := (mkF m 176 #[.val (.int p0), .val (.int p1), .val (.int p2), .unset, .unset, .unset, .unset] [(.int (65008 : Int32)), (.int (26 : Int32)), (.ref b2), (.ref b2)])) rfl rfl (hb hby at_176)
  have V83 : Arv Z h83 b2 k2 .int (30 : Int32) [(.int (65 : Int32)), (.int (91 : Int32)), (.int (95 : Int32)), (.int (96 : Int32)), (.int (97 : Int32)), (.int (123 : Int32)), (.int (192 : Int32)), (.int (215 : Int32)), (.int (216 : Int32)), (.int (247 : Int32)), (.int (248 : Int32)), (.int (768 : Int32)), (.int (880 : Int32)), (.int (894 : Int32)), (.int (895 : Int32)), (.int (8192 : Int32)), (.int (8204 : Int32)), (.int (8206 : Int32)), (.int (8304 : Int32)), (.int (8592 : Int32)), (.int (11264 : Int32)), (.int (12272 : Int32)), (.int (12289 : Int32)), (.int (55296 : Int32)), (.int (63744 : Int32)), (.int (64976 : Int32)), (.int (65008 : Int32)), (.int (0 : Int32)), (.int (0 : Int32)), (.int (0 : Int32))] (.int (0 : Int32)) := V83a
  have Z83 : n0 ≤ h83.size := Nat.le_trans Z80 (Keep.of_wr W83).1
  have c84 : ∀ τ, Steps p.tables e below (T83.setTop (mkF m 177 #[.val (.int p0), .val (.int p1), .val (.int p2), .unset, .unset, .unset, .unset] [(.ref b2)])) τ → Steps p.tables e below (s₁.setTop (entryFrame m #[(.int p0), (.int p1), (.int p2)] maxLocals)) τ := fun τ κ => c82 τ (st83 τ κ)
  have c85 : ∀ τ, Steps p.tables e below (T83.setTop (mkF m 182 #[.val (.int p0), .val (.int p1), .val (.int p2), .unset, .unset, .unset, .unset] [(.int (65534 : Int32)), (.int (27 : Int32)), (.ref b2), (.ref b2)])) τ → Steps p.tables e below (s₁.setTop (entryFrame m #[(.int p0), (.int p1), (.int p2)] maxLocals)) τ := fun τ κ => c84 τ (by
      show Steps p.tables e below (T83.setTop (mkF m 177 #[.val (.int p0), .val (.int p1), .val (.int p2), .unset, .unset, .unset, .unset] [(.ref b2)])) _
      refine XS.dup X83.here hx rfl (hb hby at_177) rfl rfl ?_
      show Steps p.tables e below (T83.setTop (mkF m 178 #[.val (.int p0), .val (.int p1), .val (.int p2), .unset, .unset, .unset, .unset] [(.ref b2), (.ref b2)])) _
      refine XS.bipush X83.here hx rfl (hb hby at_178) ?_
      show Steps p.tables e below (T83.setTop (mkF m 180 #[.val (.int p0), .val (.int p1), .val (.int p2), .unset, .unset, .unset, .unset] [(.int (27 : Int32)), (.ref b2), (.ref b2)])) _
      refine X83.ldcInt hx hown (mvT hZ (hw _ (List.mem_of_getElem? (i := 5) rfl))) (g := (mkF m 180 #[.val (.int p0), .val (.int p1), .val (.int p2), .unset, .unset, .unset, .unset] [(.int (27 : Int32)), (.ref b2), (.ref b2)])) rfl (hb hby at_180) _ ?_
      exact κ)
  obtain ⟨T86, h86, L86, X86, e86, N86, W86, V86a, st86⟩ := own_stI X83 hx hZ e83 V83 ⟨by decide, by decide⟩ 27 rfl (Nat.le_of_ble_eq_true rfl) N83 gb2 (g := (mkF m 182 #[.val (.int p0), .val (.int p1), .val (.int p2), .unset, .unset, .unset, .unset] [(.int (65534 : Int32)), (.int (27 : Int32)), (.ref b2), (.ref b2)])) rfl rfl (hb hby at_182)
  have V86 : Arv Z h86 b2 k2 .int (30 : Int32) [(.int (65 : Int32)), (.int (91 : Int32)), (.int (95 : Int32)), (.int (96 : Int32)), (.int (97 : Int32)), (.int (123 : Int32)), (.int (192 : Int32)), (.int (215 : Int32)), (.int (216 : Int32)), (.int (247 : Int32)), (.int (248 : Int32)), (.int (768 : Int32)), (.int (880 : Int32)), (.int (894 : Int32)), (.int (895 : Int32)), (.int (8192 : Int32)), (.int (8204 : Int32)), (.int (8206 : Int32)), (.int (8304 : Int32)), (.int (8592 : Int32)), (.int (11264 : Int32)), (.int (12272 : Int32)), (.int (12289 : Int32)), (.int (55296 : Int32)), (.int (63744 : Int32)), (.int (64976 : Int32)), (.int (65008 : Int32)), (.int (65534 : Int32)), (.int (0 : Int32)), (.int (0 : Int32))] (.int (0 : Int32)) := V86a
  have Z86 : n0 ≤ h86.size := Nat.le_trans Z83 (Keep.of_wr W86).1
  have c87 : ∀ τ, Steps p.tables e below (T86.setTop (mkF m 183 #[.val (.int p0), .val (.int p1), .val (.int p2), .unset, .unset, .unset, .unset] [(.ref b2)])) τ → Steps p.tables e below (s₁.setTop (entryFrame m #[(.int p0), (.int p1), (.int p2)] maxLocals)) τ := fun τ κ => c85 τ (st86 τ κ)
  have c88 : ∀ τ, Steps p.tables e below (T86.setTop (mkF m 188 #[.val (.int p0), .val (.int p1), .val (.int p2), .unset, .unset, .unset, .unset] [(.int (65536 : Int32)), (.int (28 : Int32)), (.ref b2), (.ref b2)])) τ → Steps p.tables e below (s₁.setTop (entryFrame m #[(.int p0), (.int p1), (.int p2)] maxLocals)) τ := fun τ κ => c87 τ (by
      show Steps p.tables e below (T86.setTop (mkF m 183 #[.val (.int p0), .val (.int p1), .val (.int p2), .unset, .unset, .unset, .unset] [(.ref b2)])) _
      refine XS.dup X86.here hx rfl (hb hby at_183) rfl rfl ?_
      show Steps p.tables e below (T86.setTop (mkF m 184 #[.val (.int p0), .val (.int p1), .val (.int p2), .unset, .unset, .unset, .unset] [(.ref b2), (.ref b2)])) _
      refine XS.bipush X86.here hx rfl (hb hby at_184) ?_
      show Steps p.tables e below (T86.setTop (mkF m 186 #[.val (.int p0), .val (.int p1), .val (.int p2), .unset, .unset, .unset, .unset] [(.int (28 : Int32)), (.ref b2), (.ref b2)])) _
      refine X86.ldcInt hx hown (mvT hZ (hw _ (List.mem_of_getElem? (i := 6) rfl))) (g := (mkF m 186 #[.val (.int p0), .val (.int p1), .val (.int p2), .unset, .unset, .unset, .unset] [(.int (28 : Int32)), (.ref b2), (.ref b2)])) rfl (hb hby at_186) _ ?_
      exact κ)
  obtain ⟨T89, h89, L89, X89, e89, N89, W89, V89a, st89⟩ := own_stI X86 hx hZ e86 V86 ⟨by decide, by decide⟩ 28 rfl (Nat.le_of_ble_eq_true rfl) N86 gb2 (g := (mkF m 188 #[.val (.int p0), .val (.int p1), .val (.int p2), .unset, .unset, .unset, .unset] [(.int (65536 : Int32)), (.int (28 : Int32)), (.ref b2), (.ref b2)])) rfl rfl (hb hby at_188)
  have V89 : Arv Z h89 b2 k2 .int (30 : Int32) [(.int (65 : Int32)), (.int (91 : Int32)), (.int (95 : Int32)), (.int (96 : Int32)), (.int (97 : Int32)), (.int (123 : Int32)), (.int (192 : Int32)), (.int (215 : Int32)), (.int (216 : Int32)), (.int (247 : Int32)), (.int (248 : Int32)), (.int (768 : Int32)), (.int (880 : Int32)), (.int (894 : Int32)), (.int (895 : Int32)), (.int (8192 : Int32)), (.int (8204 : Int32)), (.int (8206 : Int32)), (.int (8304 : Int32)), (.int (8592 : Int32)), (.int (11264 : Int32)), (.int (12272 : Int32)), (.int (12289 : Int32)), (.int (55296 : Int32)), (.int (63744 : Int32)), (.int (64976 : Int32)), (.int (65008 : Int32)), (.int (65534 : Int32)), (.int (65536 : Int32)), (.int (0 : Int32))] (.int (0 : Int32)) := V89a
  have Z89 : n0 ≤ h89.size := Nat.le_trans Z86 (Keep.of_wr W89).1
  have c90 : ∀ τ, Steps p.tables e below (T89.setTop (mkF m 189 #[.val (.int p0), .val (.int p1), .val (.int p2), .unset, .unset, .unset, .unset] [(.ref b2)])) τ → Steps p.tables e below (s₁.setTop (entryFrame m #[(.int p0), (.int p1), (.int p2)] maxLocals)) τ := fun τ κ => c88 τ (st89 τ κ)
  have c91 : ∀ τ, Steps p.tables e below (T89.setTop (mkF m 194 #[.val (.int p0), .val (.int p1), .val (.int p2), .unset, .unset, .unset, .unset] [(.int (983040 : Int32)), (.int (29 : Int32)), (.ref b2), (.ref b2)])) τ → Steps p.tables e below (s₁.setTop (entryFrame m #[(.int p0), (.int p1), (.int p2)] maxLocals)) τ := fun τ κ => c90 τ (by
      show Steps p.tables e below (T89.setTop (mkF m 189 #[.val (.int p0), .val (.int p1), .val (.int p2), .unset, .unset, .unset, .unset] [(.ref b2)])) _
      refine XS.dup X89.here hx rfl (hb hby at_189) rfl rfl ?_
      show Steps p.tables e below (T89.setTop (mkF m 190 #[.val (.int p0), .val (.int p1), .val (.int p2), .unset, .unset, .unset, .unset] [(.ref b2), (.ref b2)])) _
      refine XS.bipush X89.here hx rfl (hb hby at_190) ?_
      show Steps p.tables e below (T89.setTop (mkF m 192 #[.val (.int p0), .val (.int p1), .val (.int p2), .unset, .unset, .unset, .unset] [(.int (29 : Int32)), (.ref b2), (.ref b2)])) _
      refine X89.ldcInt hx hown (mvT hZ (hw _ (List.mem_of_getElem? (i := 7) rfl))) (g := (mkF m 192 #[.val (.int p0), .val (.int p1), .val (.int p2), .unset, .unset, .unset, .unset] [(.int (29 : Int32)), (.ref b2), (.ref b2)])) rfl (hb hby at_192) _ ?_
      exact κ)
  obtain ⟨T92, h92, L92, X92, e92, N92, W92, V92a, st92⟩ := own_stI X89 hx hZ e89 V89 ⟨by decide, by decide⟩ 29 rfl (Nat.le_of_ble_eq_true rfl) N89 gb2 (g := (mkF m 194 #[.val (.int p0), .val (.int p1), .val (.int p2), .unset, .unset, .unset, .unset] [(.int (983040 : Int32)), (.int (29 : Int32)), (.ref b2), (.ref b2)])) rfl rfl (hb hby at_194)
  have V92 : Arv Z h92 b2 k2 .int (30 : Int32) [(.int (65 : Int32)), (.int (91 : Int32)), (.int (95 : Int32)), (.int (96 : Int32)), (.int (97 : Int32)), (.int (123 : Int32)), (.int (192 : Int32)), (.int (215 : Int32)), (.int (216 : Int32)), (.int (247 : Int32)), (.int (248 : Int32)), (.int (768 : Int32)), (.int (880 : Int32)), (.int (894 : Int32)), (.int (895 : Int32)), (.int (8192 : Int32)), (.int (8204 : Int32)), (.int (8206 : Int32)), (.int (8304 : Int32)), (.int (8592 : Int32)), (.int (11264 : Int32)), (.int (12272 : Int32)), (.int (12289 : Int32)), (.int (55296 : Int32)), (.int (63744 : Int32)), (.int (64976 : Int32)), (.int (65008 : Int32)), (.int (65534 : Int32)), (.int (65536 : Int32)), (.int (983040 : Int32))] (.int (0 : Int32)) := V92a
  have Z92 : n0 ≤ h92.size := Nat.le_trans Z89 (Keep.of_wr W92).1
  have c93 : ∀ τ, Steps p.tables e below (T92.setTop (mkF m 195 #[.val (.int p0), .val (.int p1), .val (.int p2), .unset, .unset, .unset, .unset] [(.ref b2)])) τ → Steps p.tables e below (s₁.setTop (entryFrame m #[(.int p0), (.int p1), (.int p2)] maxLocals)) τ := fun τ κ => c91 τ (st92 τ κ)
  have c94 : ∀ τ, Steps p.tables e below (T92.setTop (mkF m 204 #[.val (.int p0), .val (.int p1), .val (.int p2), .val (.ref b2), .unset, .unset, .unset] [(.int ((p1 &&& (2147483647 : Int32)) % (30 : Int32))), (.ref b2)])) τ → Steps p.tables e below (s₁.setTop (entryFrame m #[(.int p0), (.int p1), (.int p2)] maxLocals)) τ := fun τ κ => c93 τ (by
      show Steps p.tables e below (T92.setTop (mkF m 195 #[.val (.int p0), .val (.int p1), .val (.int p2), .unset, .unset, .unset, .unset] [(.ref b2)])) _
      refine XS.astoreN X92.here hx rfl (hb hby at_195) rfl rfl (l' := #[.val (.int p0), .val (.int p1), .val (.int p2), .val (.ref b2), .unset, .unset, .unset]) rfl ?_
      show Steps p.tables e below (T92.setTop (mkF m 196 #[.val (.int p0), .val (.int p1), .val (.int p2), .val (.ref b2), .unset, .unset, .unset] [])) _
      refine XS.aloadN X92.here hx rfl (hb hby at_196) rfl rfl ?_
      show Steps p.tables e below (T92.setTop (mkF m 197 #[.val (.int p0), .val (.int p1), .val (.int p2), .val (.ref b2), .unset, .unset, .unset] [(.ref b2)])) _
      refine XS.iloadN X92.here hx rfl (hb hby at_197) rfl ?_
      show Steps p.tables e below (T92.setTop (mkF m 198 #[.val (.int p0), .val (.int p1), .val (.int p2), .val (.ref b2), .unset, .unset, .unset] [(.int p1), (.ref b2)])) _
      refine X92.ldcInt hx hown (mvT hZ (hw _ (List.mem_of_getElem? (i := 8) rfl))) (g := (mkF m 198 #[.val (.int p0), .val (.int p1), .val (.int p2), .val (.ref b2), .unset, .unset, .unset] [(.int p1), (.ref b2)])) rfl (hb hby at_198) _ ?_
      show Steps p.tables e below (T92.setTop (mkF m 200 #[.val (.int p0), .val (.int p1), .val (.int p2), .val (.ref b2), .unset, .unset, .unset] [(.int (2147483647 : Int32)), (.int p1), (.ref b2)])) _
      refine XS.iand X92.here hx rfl (hb hby at_200) rfl ?_
      show Steps p.tables e below (T92.setTop (mkF m 201 #[.val (.int p0), .val (.int p1), .val (.int p2), .val (.ref b2), .unset, .unset, .unset] [(.int (p1 &&& (2147483647 : Int32))), (.ref b2)])) _
      refine XS.bipush X92.here hx rfl (hb hby at_201) ?_
      show Steps p.tables e below (T92.setTop (mkF m 203 #[.val (.int p0), .val (.int p1), .val (.int p2), .val (.ref b2), .unset, .unset, .unset] [(.int (30 : Int32)), (.int (p1 &&& (2147483647 : Int32))), (.ref b2)])) _
      refine Jvm.RoadKit.iremM X92 hx rfl (hb hby at_203) rfl (by decide) ?_
      exact κ)
  have c95 : ∀ τ, Steps p.tables e below (T92.setTop (mkF m 205 #[.val (.int p0), .val (.int p1), .val (.int p2), .val (.ref b2), .unset, .unset, .unset] [(.int (own_i ((p1 &&& (2147483647 : Int32)) % (30 : Int32))))])) τ → Steps p.tables e below (s₁.setTop (entryFrame m #[(.int p0), (.int p1), (.int p2)] maxLocals)) τ := fun τ κ => c94 τ (own_iaload X92 hx hZ e92 V92 (j := ((p1 &&& (2147483647 : Int32)) % (30 : Int32))) (own_in30 p1) (v := (.int (own_i ((p1 &&& (2147483647 : Int32)) % (30 : Int32))))) (own_i_at (own_in30 p1)) (g := (mkF m 204 #[.val (.int p0), .val (.int p1), .val (.int p2), .val (.ref b2), .unset, .unset, .unset] [(.int ((p1 &&& (2147483647 : Int32)) % (30 : Int32))), (.ref b2)])) rfl rfl (hb hby at_204) _ κ)
  obtain ⟨xx, hxx⟩ : ∃ z, z = (((own_i ((p1 &&& (2147483647 : Int32)) % (30 : Int32))) + ((p2 &&& (2147483647 : Int32)) % (3 : Int32))) - (1 : Int32)) := ⟨_, rfl⟩
  have c96 : ∀ τ, Steps p.tables e below (T92.setTop (mkF m 216 #[.val (.int p0), .val (.int p1), .val (.int p2), .val (.ref b2), .val (.int (((own_i ((p1 &&& (2147483647 : Int32)) % (30 : Int32))) + ((p2 &&& (2147483647 : Int32)) % (3 : Int32))) - (1 : Int32))), .unset, .unset] [])) τ → Steps p.tables e below (s₁.setTop (entryFrame m #[(.int p0), (.int p1), (.int p2)] maxLocals)) τ := fun τ κ => c95 τ (by
      show Steps p.tables e below (T92.setTop (mkF m 205 #[.val (.int p0), .val (.int p1), .val (.int p2), .val (.ref b2), .unset, .unset, .unset] [(.int (own_i ((p1 &&& (2147483647 : Int32)) % (30 : Int32))))])) _
      refine XS.iloadN X92.here hx rfl (hb hby at_205) rfl ?_
      show Steps p.tables e below (T92.setTop (mkF m 206 #[.val (.int p0), .val (.int p1), .val (.int p2), .val (.ref b2), .unset, .unset, .unset] [(.int p2), (.int (own_i ((p1 &&& (2147483647 : Int32)) % (30 : Int32))))])) _
      refine X92.ldcInt hx hown (mvT hZ (hw _ (List.mem_of_getElem? (i := 8) rfl))) (g := (mkF m 206 #[.val (.int p0), .val (.int p1), .val (.int p2), .val (.ref b2), .unset, .unset, .unset] [(.int p2), (.int (own_i ((p1 &&& (2147483647 : Int32)) % (30 : Int32))))])) rfl (hb hby at_206) _ ?_
      show Steps p.tables e below (T92.setTop (mkF m 208 #[.val (.int p0), .val (.int p1), .val (.int p2), .val (.ref b2), .unset, .unset, .unset] [(.int (2147483647 : Int32)), (.int p2), (.int (own_i ((p1 &&& (2147483647 : Int32)) % (30 : Int32))))])) _
      refine XS.iand X92.here hx rfl (hb hby at_208) rfl ?_
      show Steps p.tables e below (T92.setTop (mkF m 209 #[.val (.int p0), .val (.int p1), .val (.int p2), .val (.ref b2), .unset, .unset, .unset] [(.int (p2 &&& (2147483647 : Int32))), (.int (own_i ((p1 &&& (2147483647 : Int32)) % (30 : Int32))))])) _
      refine XS.iconst X92.here hx rfl (hb hby at_209) ?_
      show Steps p.tables e below (T92.setTop (mkF m 210 #[.val (.int p0), .val (.int p1), .val (.int p2), .val (.ref b2), .unset, .unset, .unset] [(.int (3 : Int32)), (.int (p2 &&& (2147483647 : Int32))), (.int (own_i ((p1 &&& (2147483647 : Int32)) % (30 : Int32))))])) _
      refine Jvm.RoadKit.iremM X92 hx rfl (hb hby at_210) rfl (by decide) ?_
      show Steps p.tables e below (T92.setTop (mkF m 211 #[.val (.int p0), .val (.int p1), .val (.int p2), .val (.ref b2), .unset, .unset, .unset] [(.int ((p2 &&& (2147483647 : Int32)) % (3 : Int32))), (.int (own_i ((p1 &&& (2147483647 : Int32)) % (30 : Int32))))])) _
      refine XS.iadd X92.here hx rfl (hb hby at_211) rfl ?_
      show Steps p.tables e below (T92.setTop (mkF m 212 #[.val (.int p0), .val (.int p1), .val (.int p2), .val (.ref b2), .unset, .unset, .unset] [(.int ((own_i ((p1 &&& (2147483647 : Int32)) % (30 : Int32))) + ((p2 &&& (2147483647 : Int32)) % (3 : Int32))))])) _
      refine XS.iconst X92.here hx rfl (hb hby at_212) ?_
      show Steps p.tables e below (T92.setTop (mkF m 213 #[.val (.int p0), .val (.int p1), .val (.int p2), .val (.ref b2), .unset, .unset, .unset] [(.int (1 : Int32)), (.int ((own_i ((p1 &&& (2147483647 : Int32)) % (30 : Int32))) + ((p2 &&& (2147483647 : Int32)) % (3 : Int32))))])) _
      refine XS.isub X92.here hx rfl (hb hby at_213) rfl ?_
      show Steps p.tables e below (T92.setTop (mkF m 214 #[.val (.int p0), .val (.int p1), .val (.int p2), .val (.ref b2), .unset, .unset, .unset] [(.int (((own_i ((p1 &&& (2147483647 : Int32)) % (30 : Int32))) + ((p2 &&& (2147483647 : Int32)) % (3 : Int32))) - (1 : Int32)))])) _
      refine XS.istore X92.here hx rfl (hb hby at_214) rfl (l' := #[.val (.int p0), .val (.int p1), .val (.int p2), .val (.ref b2), .val (.int (((own_i ((p1 &&& (2147483647 : Int32)) % (30 : Int32))) + ((p2 &&& (2147483647 : Int32)) % (3 : Int32))) - (1 : Int32))), .unset, .unset]) rfl ?_
      exact κ)
  rw [← hxx] at c96
  have c97 : ∀ τ, Steps p.tables e below (T92.setTop (mkF m 217 #[.val (.int p0), .val (.int p1), .val (.int p2), .val (.ref b2), .val (.int xx), .unset, .unset] [(.int p0)])) τ → Steps p.tables e below (s₁.setTop (entryFrame m #[(.int p0), (.int p1), (.int p2)] maxLocals)) τ := fun τ κ => c96 τ (by
      show Steps p.tables e below (T92.setTop (mkF m 216 #[.val (.int p0), .val (.int p1), .val (.int p2), .val (.ref b2), .val (.int xx), .unset, .unset] [])) _
      refine XS.iloadN X92.here hx rfl (hb hby at_216) rfl ?_
      exact κ)
  obtain ⟨_, _, ⟨T98, L98, k98, n98⟩, -, X98, ⟨Lc98, hQ98, l98, y98, z98⟩, st98⟩ := Jvm.LawKit.callS X92 hx (y := (⟨"com/example/node_sieve/nodesieve/XPathChars", "isNameStart", "(I)Z"⟩ : MethodName)) hown (mvT hZ (hw _ (List.mem_of_getElem? (i := 9) rfl))) (mvT hZ (hw _ (List.mem_of_getElem? (i := 10) rfl))) (mvT hZ (hw _ (List.mem_of_getElem? (i := 11) rfl))) (mvT hZ (hw _ (List.mem_of_getElem? (i := 12) rfl))) (by decide) (backOf (W := 0) (rm1 l Z a0 hw [] p0 h92 n0 Z92) hZ (hw _ (List.mem_of_getElem? (i := 12) rfl)) (hw _ (List.mem_of_getElem? (i := 11) rfl)) (by decide) (by decide)) (g := (mkF m 217 #[.val (.int p0), .val (.int p1), .val (.int p2), .val (.ref b2), .val (.int xx), .unset, .unset] [(.int p0)])) rfl (by rw [hml]; rfl) (argsL := [(.int p0)]) (rest := []) (lenOf pd_0 rfl) rfl (by show 2 * 0 + _ ≤ _; exact Nat.le_of_eq rfl) (hb hby at_217) (fun _ _ => ⟨rfl, e92, (by decide : 1 + 0 ≤ _), (by decide : 30 + 0 ≤ _)⟩)
  dsimp only [Pt.U, Pt.locs, Pt.cells, Pt.slots] at X98 l98 y98 z98 st98 hQ98
  rw [y98, z98] at X98
  obtain ⟨rfl, N98q, e98⟩ := hQ98
  have N98 : Fr n0 L98 := by rw [l98]; exact Fr.app N92 N98q
  replace X98 : Stand p l e _ s m _ below meth c T98 L98 1 30 := X98
  clear l98 y98 z98
  have c99 : ∀ τ, Steps p.tables e below (T98.setTop (mkF m 220 #[.val (.int p0), .val (.int p1), .val (.int p2), .val (.ref b2), .val (.int xx), .unset, .unset] [(.int (f1_0_r p0))])) τ → Steps p.tables e below (s₁.setTop (entryFrame m #[(.int p0), (.int p1), (.int p2)] maxLocals)) τ := fun τ κ => c97 τ (st98 τ κ)
  have c100 : ∀ τ, Steps p.tables e below (T98.setTop (mkF m 222 #[.val (.int p0), .val (.int p1), .val (.int p2), .val (.ref b2), .val (.int xx), .unset, .unset] [(.int p0), (.ref b2), (.int (f1_0_r p0))])) τ → Steps p.tables e below (s₁.setTop (entryFrame m #[(.int p0), (.int p1), (.int p2)] maxLocals)) τ := fun τ κ => c99 τ (by
      show Steps p.tables e below (T98.setTop (mkF m 220 #[.val (.int p0), .val (.int p1), .val (.int p2), .val (.ref b2), .val (.int xx), .unset, .unset] [(.int (f1_0_r p0))])) _
      refine XS.aloadN X98.here hx rfl (hb hby at_220) rfl rfl ?_
      show Steps p.tables e below (T98.setTop (mkF m 221 #[.val (.int p0), .val (.int p1), .val (.int p2), .val (.ref b2), .val (.int xx), .unset, .unset] [(.ref b2), (.int (f1_0_r p0))])) _
      refine XS.iloadN X98.here hx rfl (hb hby at_221) rfl ?_
      exact κ)
  obtain ⟨_, _, ⟨T101, L101, k101, n101⟩, -, X101, ⟨Lc101, hQ101, l101, y101, z101⟩, st101⟩ := Jvm.LawKit.callS X98 hx (y := (⟨"com/example/node_sieve/nodesieve/XPathCharsIsNameStartPinLaw", "ref", "([II)Z"⟩ : MethodName)) hown (mvT hZ (hw _ (List.mem_of_getElem? (i := 16) rfl))) (mvT hZ (hw _ (List.mem_of_getElem? (i := 17) rfl))) (mvT hZ (hw _ (List.mem_of_getElem? (i := 18) rfl))) (mvT hZ (hw _ (List.mem_of_getElem? (i := 19) rfl))) (by decide) (backOf (W := 1) (rm2 l Z a0 hw [] b2 p0 k2 h92 n0 Z92 V92) hZ (hw _ (List.mem_of_getElem? (i := 19) rfl)) (hw _ (List.mem_of_getElem? (i := 18) rfl)) (by decide) (by decide)) (g := (mkF m 222 #[.val (.int p0), .val (.int p1), .val (.int p2), .val (.ref b2), .val (.int xx), .unset, .unset] [(.int p0), (.ref b2), (.int (f1_0_r p0))])) rfl (by rw [hml]; rfl) (argsL := [(.ref b2), (.int p0)]) (rest := [(.int (f1_0_r p0))]) (lenOf pd_2 rfl) rfl (by show 2 * 0 + _ ≤ _; exact Nat.le_of_eq rfl) (hb hby at_222) (fun _ _ => ⟨rfl, e98, (by decide : 1 + 0 ≤ _), (by decide : 30 + 0 ≤ _)⟩)
  dsimp only [Pt.U, Pt.locs, Pt.cells, Pt.slots] at X101 l101 y101 z101 st101 hQ101
  rw [y101, z101] at X101
  obtain ⟨rfl, N101q, e101⟩ := hQ101
  have N101 : Fr n0 L101 := by rw [l101]; exact Fr.app N98 N101q
  replace X101 : Stand p l e _ s m _ below meth c T101 L101 1 30 := X101
  clear l101 y101 z101
  have c102 : ∀ τ, Steps p.tables e below (T101.setTop (mkF m 225 #[.val (.int p0), .val (.int p1), .val (.int p2), .val (.ref b2), .val (.int xx), .unset, .unset] [(.int (own_ref p0)), (.int (f1_0_r p0))])) τ → Steps p.tables e below (s₁.setTop (entryFrame m #[(.int p0), (.int p1), (.int p2)] maxLocals)) τ := fun τ κ => c100 τ (st101 τ κ)
  have c103 : ∀ τ, Steps p.tables e below (T101.setTop (mkF m 237 #[.val (.int p0), .val (.int p1), .val (.int p2), .val (.ref b2), .val (.int xx), .val (.int (1 : Int32)), .unset] [(.int xx)])) τ → Steps p.tables e below (s₁.setTop (entryFrame m #[(.int p0), (.int p1), (.int p2)] maxLocals)) τ := fun τ κ => c102 τ (by
      show Steps p.tables e below (T101.setTop (mkF m 225 #[.val (.int p0), .val (.int p1), .val (.int p2), .val (.ref b2), .val (.int xx), .unset, .unset] [(.int (own_ref p0)), (.int (f1_0_r p0))])) _
      refine XS.icmpNo X101.here hx rfl (hb hby at_225) rfl (teq (own_law p0)).2 ?_
      show Steps p.tables e below (T101.setTop (mkF m 228 #[.val (.int p0), .val (.int p1), .val (.int p2), .val (.ref b2), .val (.int xx), .unset, .unset] [])) _
      refine XS.iconst X101.here hx rfl (hb hby at_228) ?_
      show Steps p.tables e below (T101.setTop (mkF m 229 #[.val (.int p0), .val (.int p1), .val (.int p2), .val (.ref b2), .val (.int xx), .unset, .unset] [(.int (1 : Int32))])) _
      refine XS.goto X101.here hx rfl (pc0 := 229) (pc' := 233) rfl (hb hby at_229) (by decide) (by decide) ?_
      show Steps p.tables e below (T101.setTop (mkF m 233 #[.val (.int p0), .val (.int p1), .val (.int p2), .val (.ref b2), .val (.int xx), .unset, .unset] [(.int (1 : Int32))])) _
      refine XS.istore X101.here hx rfl (hb hby at_233) rfl (l' := #[.val (.int p0), .val (.int p1), .val (.int p2), .val (.ref b2), .val (.int xx), .val (.int (1 : Int32)), .unset]) rfl ?_
      show Steps p.tables e below (T101.setTop (mkF m 235 #[.val (.int p0), .val (.int p1), .val (.int p2), .val (.ref b2), .val (.int xx), .val (.int (1 : Int32)), .unset] [])) _
      refine XS.iload X101.here hx rfl (hb hby at_235) rfl ?_
      exact κ)
  obtain ⟨_, _, ⟨T104, L104, k104, n104⟩, -, X104, ⟨Lc104, hQ104, l104, y104, z104⟩, st104⟩ := Jvm.LawKit.callS X101 hx (y := (⟨"com/example/node_sieve/nodesieve/XPathChars", "isNameStart", "(I)Z"⟩ : MethodName)) hown (mvT hZ (hw _ (List.mem_of_getElem? (i := 9) rfl))) (mvT hZ (hw _ (List.mem_of_getElem? (i := 10) rfl))) (mvT hZ (hw _ (List.mem_of_getElem? (i := 11) rfl))) (mvT hZ (hw _ (List.mem_of_getElem? (i := 12) rfl))) (by decide) (backOf (W := 0) (rm1 l Z a0 hw [] xx h92 n0 Z92) hZ (hw _ (List.mem_of_getElem? (i := 12) rfl)) (hw _ (List.mem_of_getElem? (i := 11) rfl)) (by decide) (by decide)) (g := (mkF m 237 #[.val (.int p0), .val (.int p1), .val (.int p2), .val (.ref b2), .val (.int xx), .val (.int (1 : Int32)), .unset] [(.int xx)])) rfl (by rw [hml]; rfl) (argsL := [(.int xx)]) (rest := []) (lenOf pd_0 rfl) rfl (by show 2 * 0 + _ ≤ _; exact Nat.le_of_eq rfl) (hb hby at_237) (fun _ _ => ⟨rfl, e101, (by decide : 1 + 0 ≤ _), (by decide : 30 + 0 ≤ _)⟩)
  dsimp only [Pt.U, Pt.locs, Pt.cells, Pt.slots] at X104 l104 y104 z104 st104 hQ104
  rw [y104, z104] at X104
  obtain ⟨rfl, N104q, e104⟩ := hQ104
  have N104 : Fr n0 L104 := by rw [l104]; exact Fr.app N101 N104q
  replace X104 : Stand p l e _ s m _ below meth c T104 L104 1 30 := X104
  clear l104 y104 z104
  have c105 : ∀ τ, Steps p.tables e below (T104.setTop (mkF m 240 #[.val (.int p0), .val (.int p1), .val (.int p2), .val (.ref b2), .val (.int xx), .val (.int (1 : Int32)), .unset] [(.int (f1_0_r xx))])) τ → Steps p.tables e below (s₁.setTop (entryFrame m #[(.int p0), (.int p1), (.int p2)] maxLocals)) τ := fun τ κ => c103 τ (st104 τ κ)
  have c106 : ∀ τ, Steps p.tables e below (T104.setTop (mkF m 243 #[.val (.int p0), .val (.int p1), .val (.int p2), .val (.ref b2), .val (.int xx), .val (.int (1 : Int32)), .unset] [(.int xx), (.ref b2), (.int (f1_0_r xx))])) τ → Steps p.tables e below (s₁.setTop (entryFrame m #[(.int p0), (.int p1), (.int p2)] maxLocals)) τ := fun τ κ => c105 τ (by
      show Steps p.tables e below (T104.setTop (mkF m 240 #[.val (.int p0), .val (.int p1), .val (.int p2), .val (.ref b2), .val (.int xx), .val (.int (1 : Int32)), .unset] [(.int (f1_0_r xx))])) _
      refine XS.aloadN X104.here hx rfl (hb hby at_240) rfl rfl ?_
      show Steps p.tables e below (T104.setTop (mkF m 241 #[.val (.int p0), .val (.int p1), .val (.int p2), .val (.ref b2), .val (.int xx), .val (.int (1 : Int32)), .unset] [(.ref b2), (.int (f1_0_r xx))])) _
      refine XS.iload X104.here hx rfl (hb hby at_241) rfl ?_
      exact κ)
  obtain ⟨_, _, ⟨T107, L107, k107, n107⟩, -, X107, ⟨Lc107, hQ107, l107, y107, z107⟩, st107⟩ := Jvm.LawKit.callS X104 hx (y := (⟨"com/example/node_sieve/nodesieve/XPathCharsIsNameStartPinLaw", "ref", "([II)Z"⟩ : MethodName)) hown (mvT hZ (hw _ (List.mem_of_getElem? (i := 16) rfl))) (mvT hZ (hw _ (List.mem_of_getElem? (i := 17) rfl))) (mvT hZ (hw _ (List.mem_of_getElem? (i := 18) rfl))) (mvT hZ (hw _ (List.mem_of_getElem? (i := 19) rfl))) (by decide) (backOf (W := 1) (rm2 l Z a0 hw [] b2 xx k2 h92 n0 Z92 V92) hZ (hw _ (List.mem_of_getElem? (i := 19) rfl)) (hw _ (List.mem_of_getElem? (i := 18) rfl)) (by decide) (by decide)) (g := (mkF m 243 #[.val (.int p0), .val (.int p1), .val (.int p2), .val (.ref b2), .val (.int xx), .val (.int (1 : Int32)), .unset] [(.int xx), (.ref b2), (.int (f1_0_r xx))])) rfl (by rw [hml]; rfl) (argsL := [(.ref b2), (.int xx)]) (rest := [(.int (f1_0_r xx))]) (lenOf pd_2 rfl) rfl (by show 2 * 0 + _ ≤ _; exact Nat.le_of_eq rfl) (hb hby at_243) (fun _ _ => ⟨rfl, e104, (by decide : 1 + 0 ≤ _), (by decide : 30 + 0 ≤ _)⟩)
  dsimp only [Pt.U, Pt.locs, Pt.cells, Pt.slots] at X107 l107 y107 z107 st107 hQ107
  rw [y107, z107] at X107
  obtain ⟨rfl, N107q, e107⟩ := hQ107
  have N107 : Fr n0 L107 := by rw [l107]; exact Fr.app N104 N107q
  replace X107 : Stand p l e _ s m _ below meth c T107 L107 1 30 := X107
  clear l107 y107 z107
  have c108 : ∀ τ, Steps p.tables e below (T107.setTop (mkF m 246 #[.val (.int p0), .val (.int p1), .val (.int p2), .val (.ref b2), .val (.int xx), .val (.int (1 : Int32)), .unset] [(.int (own_ref xx)), (.int (f1_0_r xx))])) τ → Steps p.tables e below (s₁.setTop (entryFrame m #[(.int p0), (.int p1), (.int p2)] maxLocals)) τ := fun τ κ => c106 τ (st107 τ κ)
  have c109 : ∀ τ, Steps p.tables e below (T107.setTop (mkF m 271 #[.val (.int p0), .val (.int p1), .val (.int p2), .val (.ref b2), .val (.int xx), .val (.int (1 : Int32)), .val (.int (1 : Int32))] [(.int (1 : Int32))])) τ → Steps p.tables e below (s₁.setTop (entryFrame m #[(.int p0), (.int p1), (.int p2)] maxLocals)) τ := fun τ κ => c108 τ (by
      show Steps p.tables e below (T107.setTop (mkF m 246 #[.val (.int p0), .val (.int p1), .val (.int p2), .val (.ref b2), .val (.int xx), .val (.int (1 : Int32)), .unset] [(.int (own_ref xx)), (.int (f1_0_r xx))])) _
      refine XS.icmpNo X107.here hx rfl (hb hby at_246) rfl (teq (own_law xx)).2 ?_
      show Steps p.tables e below (T107.setTop (mkF m 249 #[.val (.int p0), .val (.int p1), .val (.int p2), .val (.ref b2), .val (.int xx), .val (.int (1 : Int32)), .unset] [])) _
      refine XS.iconst X107.here hx rfl (hb hby at_249) ?_
      show Steps p.tables e below (T107.setTop (mkF m 250 #[.val (.int p0), .val (.int p1), .val (.int p2), .val (.ref b2), .val (.int xx), .val (.int (1 : Int32)), .unset] [(.int (1 : Int32))])) _
      refine XS.goto X107.here hx rfl (pc0 := 250) (pc' := 254) rfl (hb hby at_250) (by decide) (by decide) ?_
      show Steps p.tables e below (T107.setTop (mkF m 254 #[.val (.int p0), .val (.int p1), .val (.int p2), .val (.ref b2), .val (.int xx), .val (.int (1 : Int32)), .unset] [(.int (1 : Int32))])) _
      refine XS.istore X107.here hx rfl (hb hby at_254) rfl (l' := #[.val (.int p0), .val (.int p1), .val (.int p2), .val (.ref b2), .val (.int xx), .val (.int (1 : Int32)), .val (.int (1 : Int32))]) rfl ?_
      show Steps p.tables e below (T107.setTop (mkF m 256 #[.val (.int p0), .val (.int p1), .val (.int p2), .val (.ref b2), .val (.int xx), .val (.int (1 : Int32)), .val (.int (1 : Int32))] [])) _
      refine XS.iload X107.here hx rfl (hb hby at_256) rfl ?_
      show Steps p.tables e below (T107.setTop (mkF m 258 #[.val (.int p0), .val (.int p1), .val (.int p2), .val (.ref b2), .val (.int xx), .val (.int (1 : Int32)), .val (.int (1 : Int32))] [(.int (1 : Int32))])) _
      refine XS.ifNo X107.here hx rfl (hb hby at_258) rfl ((if0 _ _).trans (feq (by decide)).1) ?_
      show Steps p.tables e below (T107.setTop (mkF m 261 #[.val (.int p0), .val (.int p1), .val (.int p2), .val (.ref b2), .val (.int xx), .val (.int (1 : Int32)), .val (.int (1 : Int32))] [])) _
      refine XS.iload X107.here hx rfl (hb hby at_261) rfl ?_
      show Steps p.tables e below (T107.setTop (mkF m 263 #[.val (.int p0), .val (.int p1), .val (.int p2), .val (.ref b2), .val (.int xx), .val (.int (1 : Int32)), .val (.int (1 : Int32))] [(.int (1 : Int32))])) _
      refine XS.ifNo X107.here hx rfl (hb hby at_263) rfl ((if0 _ _).trans (feq (by decide)).1) ?_
      show Steps p.tables e below (T107.setTop (mkF m 266 #[.val (.int p0), .val (.int p1), .val (.int p2), .val (.ref b2), .val (.int xx), .val (.int (1 : Int32)), .val (.int (1 : Int32))] [])) _
      refine XS.iconst X107.here hx rfl (hb hby at_266) ?_
      show Steps p.tables e below (T107.setTop (mkF m 267 #[.val (.int p0), .val (.int p1), .val (.int p2), .val (.ref b2), .val (.int xx), .val (.int (1 : Int32)), .val (.int (1 : Int32))] [(.int (1 : Int32))])) _
      refine XS.goto X107.here hx rfl (pc0 := 267) (pc' := 271) rfl (hb hby at_267) (by decide) (by decide) ?_
      exact κ)
  obtain ⟨fs, hr, hrun, hended, hW, hsame⟩ := X107.leave (v := some (.int (1 : Int32))) (fun h => by rw [Bd.returns] at h; cases h)
  refine ⟨_, _, c109 _ (retN X107 hx (t := .boolean) Bd.returns (by simp) (hb hby at_271) hr), hrun, hended, _, _, rfl, ?_, ⟨_, rfl⟩, hW, hsame.mono (by decide) (by decide)⟩
  show Q_rm0 Z p0 p1 p2 h0 n0 _ T107.heap _
  rw [e107]
  exact ⟨rfl, N107⟩
set_option maxRecDepth 65536 in
set_option maxHeartbeats 40000000 in
theorem comes_1 {Post : Tables → Env → Array Value → State → Outcome → State → Prop} (hpost : ∀ tb e args s v u, (limb_1_1.after args s (.returned v) u = true ∧ limb_1_2.after args s (.returned v) u = true ∧ True) → FrameEnd s (.returned v) u (Jvm.fieldLocs frame_1_writes args s ++ Jvm.arrayLocs frame_1_arrays args s ++ Jvm.staticLocs frame_1_statics s) 16 128 → Post tb e args s (.returned v) u) :
    ArmFor flags0 classFile x code maxLocals ret World_1 tables_1 room_1 Calls_1 rest_1 Pre_1 Post := by
  intro l hfl _ _ p e ha hc hk s m args below hf hA hF happ hP
  obtain ⟨hcalls, hrest, hpre⟩ := hP
  obtain ⟨-, -, -, hnamed, -, -, -, hat⟩ := (Spec.applies_iff hf).mp happ
  obtain ⟨hg, hn⟩ := and_e (Cond.before_iff.mp (show (Jvm.Cond.and given_1 narrow_1).before args s = true from hpre))
  obtain ⟨g1, g2⟩ := and_e hg
  obtain ⟨g3, g4⟩ := and_e g2
  obtain ⟨g5, g6⟩ := and_e g4
  obtain ⟨w0, w1, w2, rfl⟩ : ∃ w0 w1 w2 : Value, args = #[w0, w1, w2] := by
    have hs : args.size = 3 := by simpa [Cond.value, given_1] using g1
    obtain ⟨L⟩ := args
    match L, hs with
    | [w0, w1, w2], _ => exact ⟨w0, w1, w2, rfl⟩
  have hw := fun d (hd : d ∈ tables_1) => atoms_spec (ws := Jvm.Cond.code x code maxLocals ret :: tables_1) hat d (List.mem_cons_of_mem _ hd)
  have hfit : Fit s := fun {y c} hc i hi => by
    obtain ⟨ha, rfl⟩ := Array.getElem?_eq_some_iff.mp hc
    have q := List.all_eq_true.mp ((Array.all_eq_true_iff_forall_mem.mp hF) _ (Array.getElem_mem ha)) i (List.mem_range.mpr hi)
    simpa [Array.getElem?_eq_getElem hi] using q
  obtain ⟨i0, ei0⟩ := is_v g3
  obtain rfl : w0 = (.int i0) := Option.some.inj ei0
  obtain ⟨i1, ei1⟩ := is_v g5
  obtain rfl : w1 = (.int i1) := Option.some.inj ei1
  obtain ⟨i2, ei2⟩ := is_v g6
  obtain rfl : w2 = (.int i2) := Option.some.inj ei2
  obtain ⟨n, o, h1, h2, h3, _, L, rfl, ⟨rfl, N⟩, hq⟩ := rm0 l s _ hw tables_1 i0 i1 i2 s.heap s.heap.size (Nat.le_refl _) p e ha hc hk s m _ below hf ((Spec.applies_iff_loose hf).mp happ).1 ⟨rfl, State.Warmed39.refl s, rfl⟩ trivial
  refine ⟨n, _, h1, h2, h3, hpost _ _ _ _ _ _ ⟨Cond.after_iff.mpr rfl, Cond.after_iff.mpr (eq_i res_at (Term.int_eval (1)) rfl), trivial⟩ ⟨hq.1, hq.2.1, (hq.2.2.sift fun y hy => Or.inr (N y hy)).mono (by decide) (by decide)⟩⟩
theorem main_1_1 : Claimed_1_1 := comes_1 fun _ _ _ _ _ _ h hF => ⟨h.1, hF⟩
theorem main_1_2 : Claimed_1_2 := comes_1 fun _ _ _ _ _ _ h hF => ⟨h.2.1, hF⟩
end Jvm.Pilot.@@N@@
namespace Jvm.Pilot.@@N@@
open Jvm Jvm.ClassFile Sem Op Lib Jvm.Free Jvm.Stand Jvm.Pilot.@@N@@.Jvm.D
/-! MADE BY PROGRAM (witnessworld.py) out of the Statement's table words and the real class files: 9 classes; the members and pool entries that the words name. The judged class is class 1, her method 3. -/
namespace start1
open Jvm.ClassFile
def u (s : String) : CpInfo := .utf8 (stringToUtf16 s)
/-- a pool by its gaps: so many unusable entries, then the entry; so many at the end -/
def gap : Nat → List CpInfo → List CpInfo
  | 0, r => r
  | n + 1, r => .unusable :: gap n r
def poolList (es : List (Nat × CpInfo)) (last : Nat) : List CpInfo := es.foldr (fun e r => gap e.1 (e.2 :: r)) (gap last [])
def pool (es : List (Nat × CpInfo)) (last : Nat) : Array CpInfo := ⟨poolList es last⟩
def fileOf (pool : Array CpInfo) (this : Nat) (attrs : Array Attribute := #[]) (ms : Array MethodInfo := #[]) (fl : Nat := 33) (sup : Nat := 0) (ifs : Array Nat := #[]) (fds : Array FieldInfo := #[]) : ClassFile where
  minorVersion := 0
  majorVersion := 65
  constantPool := pool
  accessFlags := fl
  thisClass := this
  superClass := sup
  interfaces := ifs
  fields := fds
  methods := ms
  attributes := attrs
def plain (name : String) (sup : Option ClassId) : Class where
  name := name
  kind := .ordinary
  loader := none
  accessFlags := 33
  super := sup
  interfaces := #[]
  cf := none
  fields := #[]
  methods := #[]
  instanceTypes := #[]
  staticTypes := #[]
  resolved := #[]
  callSites := []
  init := .initialized
  statics := none
  mirror := none

def pool0 : Array CpInfo := pool [(5, u "<init>"), (0, u "()V"), (1, .class_ 10), (1, u "java/lang/Object")] 113

def k0m0 : Method := { name := "<init>", desc := "()V", sig := { parameters := [], returnType := none }, accessFlags := 1, code := none }
/-- java/lang/Object -/
def k0 : Class := { plain "java/lang/Object" none with
  accessFlags := 33
  interfaces := #[]
  cf := some (fileOf pool0 8 #[] #[{ accessFlags := 1, nameIndex := 5, descriptorIndex := 6, attributes := #[] }] 33 0 #[] #[])
  fields := #[]
  methods := #[k0m0]
  instanceTypes := #[]
  staticTypes := #[]
  resolved := Array.replicate 124 none
  statics := none }

def pool1 : Array CpInfo := pool [(2, .class_ 4), (1, u "java/lang/Object"), (0, u "<init>"), (0, u "()V"), (0, .methodref 8 9), (0, .class_ 10), (0, .nameAndType 11 12), (0, u "com/example/node_sieve/nodesieve/XPathCharsIsNameStartPinLaw"), (0, u "ge"), (0, u "(II)I"), (0, .integer 55296), (0, .integer 63744), (0, .integer 64976), (0, .integer 65008), (0, .integer 65534), (0, .integer 65536), (0, .integer 983040), (0, .integer 2147483647), (0, .methodref 22 23), (0, .class_ 24), (0, .nameAndType 25 26), (0, u "com/example/node_sieve/nodesieve/XPathChars"), (0, u "isNameStart"), (0, u "(I)Z"), (0, .methodref 8 28), (0, .nameAndType 29 30), (0, u "ref"), (0, u "([II)Z"), (3, u "law"), (0, u "(III)Z")] 4

def k1m0 : Method := { name := "<init>", desc := "()V", sig := { parameters := [], returnType := none }, accessFlags := 2, code := none }
def k1c1 : Code := { maxStack := 2, maxLocals := 2, code := method_2_code, exceptionTable := #[], attributes := #[] }
def k1m1 : Method := { name := "ge", desc := "(II)I", sig := { parameters := [.int, .int], returnType := some .int }, accessFlags := 10, code := some k1c1 }
def k1c2 : Code := { maxStack := 4, maxLocals := 3, code := method_3_code, exceptionTable := #[], attributes := #[] }
def k1m2 : Method := { name := "ref", desc := "([II)Z", sig := { parameters := [(.array .int), .int], returnType := some .boolean }, accessFlags := 10, code := some k1c2 }
def k1c3 : Code := { maxStack := 4, maxLocals := 7, code := code, exceptionTable := #[], attributes := #[] }
def k1m3 : Method := { name := "law", desc := "(III)Z", sig := { parameters := [.int, .int, .int], returnType := some .boolean }, accessFlags := 9, code := some k1c3 }
/-- com/example/node_sieve/nodesieve/XPathCharsIsNameStartPinLaw -/
def k1 : Class := { plain "com/example/node_sieve/nodesieve/XPathCharsIsNameStartPinLaw" (some 0) with
  accessFlags := 49
  interfaces := #[]
  cf := some (fileOf pool1 8 #[] #[{ accessFlags := 2, nameIndex := 5, descriptorIndex := 6, attributes := #[] }, { accessFlags := 10, nameIndex := 11, descriptorIndex := 12, attributes := #[] }, { accessFlags := 10, nameIndex := 29, descriptorIndex := 30, attributes := #[] }, { accessFlags := 9, nameIndex := 34, descriptorIndex := 35, attributes := #[] }] 49 2 #[] #[])
  fields := #[]
  methods := #[k1m0, k1m1, k1m2, k1m3]
  instanceTypes := #[]
  staticTypes := #[]
  resolved := Array.replicate 40 none
  statics := none }

def pool2 : Array CpInfo := pool [(2, .class_ 4), (1, u "java/lang/Object"), (0, u "<init>"), (0, u "()V"), (11, .class_ 20), (1, u "com/example/node_sieve/nodesieve/XPathChars"), (1, u "(I)Z"), (0, .integer 55295), (0, .integer 63744), (0, .integer 64975), (0, .integer 65008), (0, .integer 65533), (0, .integer 65536), (0, .integer 983039), (2, u "isNameStart")] 28

def k2m0 : Method := { name := "<init>", desc := "()V", sig := { parameters := [], returnType := none }, accessFlags := 2, code := none }
def k2c1 : Code := { maxStack := 2, maxLocals := 1, code := prog_102_method_4_code, exceptionTable := #[], attributes := #[] }
def k2m1 : Method := { name := "isNameStart", desc := "(I)Z", sig := { parameters := [.int], returnType := some .boolean }, accessFlags := 9, code := some k2c1 }
/-- com/example/node_sieve/nodesieve/XPathChars -/
def k2 : Class := { plain "com/example/node_sieve/nodesieve/XPathChars" (some 0) with
  accessFlags := 49
  interfaces := #[]
  cf := some (fileOf pool2 18 #[] #[{ accessFlags := 2, nameIndex := 5, descriptorIndex := 6, attributes := #[] }, { accessFlags := 9, nameIndex := 32, descriptorIndex := 22, attributes := #[] }] 49 2 #[] #[])
  fields := #[]
  methods := #[k2m0, k2m1]
  instanceTypes := #[]
  staticTypes := #[]
  resolved := Array.replicate 61 none
  statics := none }

def pool3 : Array CpInfo := pool [(1, u "java/lang/Cloneable"), (0, .class_ 1), (0, u "java/lang/Object"), (0, .class_ 3)] 3

/-- java/lang/Cloneable -/
def k3 : Class := { plain "java/lang/Cloneable" (some 0) with
  accessFlags := 1537
  interfaces := #[]
  cf := some (fileOf pool3 2 #[] #[] 1537 4 #[] #[])
  fields := #[]
  methods := #[]
  instanceTypes := #[]
  staticTypes := #[]
  resolved := Array.replicate 8 none
  statics := none }

def pool4 : Array CpInfo := pool [(1, u "java/io/Serializable"), (0, .class_ 1), (0, u "java/lang/Object"), (0, .class_ 3)] 3

/-- java/io/Serializable -/
def k4 : Class := { plain "java/io/Serializable" (some 0) with
  accessFlags := 1537
  interfaces := #[]
  cf := some (fileOf pool4 2 #[] #[] 1537 4 #[] #[])
  fields := #[]
  methods := #[]
  instanceTypes := #[]
  staticTypes := #[]
  resolved := Array.replicate 8 none
  statics := none }

/-- the primitive byte -/
def k5 : Class := { plain "byte" none with kind := .primitive 'B', accessFlags := 0x411 }
/-- [B -/
def k6 : Class := { plain "[B" (some 0) with kind := .array 5 .byte, interfaces := #[3, 4], accessFlags := 1041 }

/-- the primitive int -/
def k7 : Class := { plain "int" none with kind := .primitive 'I', accessFlags := 0x411 }
/-- [I -/
def k8 : Class := { plain "[I" (some 0) with kind := .array 7 .int, interfaces := #[3, 4], accessFlags := 1041 }

def heap : Heap := #[]
def classes : Array Class := #[k0, k1, k2, k3, k4, k5, k6, k7, k8]
def interned : List (Array UInt16 × Addr) := []
def slotsUsed : Nat := 0
def theMethod : MethodId := ⟨1, 3⟩
def args0 : Array Value := #[.int 5, .int 1, .int 1]
def aboutOver (below : List Frame) : State where
  vm := { classes := classes, interned := interned.toArray }
  heap := heap
  slotsUsed := slotsUsed
  threads := #[{ frames := .invoking theMethod args0 :: below }]
def below0 : List Frame := [.native { method := ⟨0, 0⟩, args := #[] }]
def about1 : State := aboutOver below0
def p0 : Program := .bare "" "" ""
def e0 : Env := launch0.env 0 0 0
theorem w_frames : about1.frames = Frame.invoking theMethod args0 :: below0 := rfl
set_option maxRecDepth 65536 in
theorem w_args : argsFit about1.vm theMethod args0 = true := by decide +kernel
set_option maxRecDepth 65536 in
theorem w_heap : heapFits about1 = true := by decide +kernel
set_option maxRecDepth 65536 in
theorem w_runnable : about1.curStatus? = some .runnable := by decide +kernel
set_option maxRecDepth 65536 in
theorem w_alone : about1.alone = true := by decide +kernel
set_option maxRecDepth 65536 in
theorem w_named : about1.methodNamed? x = some theMethod := by decide +kernel
set_option maxRecDepth 65536 in
theorem w_hears : about1.hears theMethod below0 = true := by decide +kernel
set_option maxRecDepth 65536 in
theorem w_ripe : about1.ripe theMethod args0 below0 = true := by decide +kernel
theorem w_running : about1.status = .running := rfl
set_option maxRecDepth 65536 in
theorem w_room : about1.hasRoom e0.platform room_1 = true :=
  launch0.hasRoom_least _ room_1 (by decide +kernel) (by decide +kernel) (by decide +kernel) (by decide +kernel) (by decide +kernel) (by decide +kernel)
theorem allAtoms_all (ts : List Jvm.Cond) (a : Array Jvm.Value) (st : Jvm.State) : (allAtoms ts).before a st = ts.all (fun c => c.before a st) := by
  induction ts with
  | nil => rfl
  | cons c t ih =>
    show (Jvm.Cond.and c (allAtoms t)).before a st = _
    rw [Jvm.Cond.before_and, ih, List.all_cons]
def words1 : List Jvm.Cond := Jvm.Cond.code x code maxLocals ret :: tables_1
/-- a 'code' word, met by the world's own term for the bytes: nothing is compared byte by byte -/
theorem code_word {y : MethodName} {bytes : ByteArray} {mx : Nat} {rt : Option FieldType} {a : Array Value} {s : State} {m : MethodId} {meth : Method} {c : Code} (h1 : s.methodNamed? y = some m) (h2 : s.vm.method? m = some meth) (h3 : meth.code = some c) (h4 : c.code = bytes)
    (h5 : (c.maxLocals == mx && c.exceptionTable.isEmpty && decide (c.maxStack ≤ mostOperands) && decide (meth.sig.returnType = rt) && !meth.locks && decide (parseMethodDescriptor y.desc = some meth.sig)) = true) : (Jvm.Cond.code y bytes mx rt).before a s = true := by
  simp only [Bool.and_eq_true, beq_iff_eq, Bool.not_eq_true', decide_eq_true_eq] at h5
  obtain ⟨⟨⟨⟨⟨g1, g2⟩, g3⟩, g4⟩, g5⟩, g6⟩ := h5
  simp [Cond.before, Cond.holds, Cond.value, h1, h2, h3, h4, g1, g2, g3, g4, g5, g6]
def isCode : Jvm.Cond → Bool
  | .code _ _ _ _ => true
  | _ => false
theorem all_split {L : List Jvm.Cond} {P : Jvm.Cond → Bool} (h1 : L.all (fun c => isCode c || P c) = true) (h2 : ∀ c ∈ L.filter isCode, P c = true) : L.all P = true := by
  refine List.all_eq_true.mpr fun c hc => ?_
  have h := List.all_eq_true.mp h1 c hc
  rcases Bool.eq_false_or_eq_true (isCode c) with hi | hi
  · exact h2 c (List.mem_filter.mpr ⟨hc, hi⟩)
  · simpa [hi] using h
set_option maxRecDepth 65536 in
theorem w_c0 : (Jvm.Cond.code x code maxLocals ret).before args0 about1 = true := code_word (m := ⟨1, 3⟩) (meth := k1m3) (c := k1c3) (by decide +kernel) rfl rfl rfl (by decide +kernel)
set_option maxRecDepth 65536 in
theorem w_c1 : (Jvm.Cond.code ({ cls := "com/example/node_sieve/nodesieve/XPathChars", name := "isNameStart", desc := "(I)Z" } : Jvm.MethodName) prog_102_method_4_code (1 : Nat) (Option.some Jvm.ClassFile.FieldType.boolean)).before args0 about1 = true := code_word (m := ⟨2, 1⟩) (meth := k2m1) (c := k2c1) (by decide +kernel) rfl rfl rfl (by decide +kernel)
set_option maxRecDepth 65536 in
theorem w_c2 : (Jvm.Cond.code ({ cls := "com/example/node_sieve/nodesieve/XPathCharsIsNameStartPinLaw", name := "ref", desc := "([II)Z" } : Jvm.MethodName) method_3_code (3 : Nat) (Option.some Jvm.ClassFile.FieldType.boolean)).before args0 about1 = true := code_word (m := ⟨1, 2⟩) (meth := k1m2) (c := k1c2) (by decide +kernel) rfl rfl rfl (by decide +kernel)
set_option maxRecDepth 65536 in
theorem w_c3 : (Jvm.Cond.code ({ cls := "com/example/node_sieve/nodesieve/XPathCharsIsNameStartPinLaw", name := "ge", desc := "(II)I" } : Jvm.MethodName) method_2_code (2 : Nat) (Option.some Jvm.ClassFile.FieldType.int)).before args0 about1 = true := code_word (m := ⟨1, 1⟩) (meth := k1m1) (c := k1c1) (by decide +kernel) rfl rfl rfl (by decide +kernel)
def codes1 : List Jvm.Cond := [Jvm.Cond.code x code maxLocals ret, Jvm.Cond.code ({ cls := "com/example/node_sieve/nodesieve/XPathChars", name := "isNameStart", desc := "(I)Z" } : Jvm.MethodName) prog_102_method_4_code (1 : Nat) (Option.some Jvm.ClassFile.FieldType.boolean), Jvm.Cond.code ({ cls := "com/example/node_sieve/nodesieve/XPathCharsIsNameStartPinLaw", name := "ref", desc := "([II)Z" } : Jvm.MethodName) method_3_code (3 : Nat) (Option.some Jvm.ClassFile.FieldType.boolean), Jvm.Cond.code ({ cls := "com/example/node_sieve/nodesieve/XPathCharsIsNameStartPinLaw", name := "ge", desc := "(II)I" } : Jvm.MethodName) method_2_code (2 : Nat) (Option.some Jvm.ClassFile.FieldType.int)]
set_option maxRecDepth 65536 in
theorem codes_eq : words1.filter isCode = codes1 := rfl
theorem w_codes : ∀ c ∈ words1.filter isCode, c.before args0 about1 = true := by
  rw [codes_eq]
  intro c hc
  simp only [codes1, List.mem_cons, List.not_mem_nil, or_false] at hc
  rcases hc with rfl | rfl | rfl | rfl
  · exact w_c0
  · exact w_c1
  · exact w_c2
  · exact w_c3
set_option maxRecDepth 65536 in
theorem w_t1 : (words1.take 24).all (fun c => isCode c || c.before args0 about1) = true := by decide +kernel
set_option maxRecDepth 65536 in
theorem w_t2 : (words1.drop 24).all (fun c => isCode c || c.before args0 about1) = true := by decide +kernel
theorem w_tables : (allAtoms (Jvm.Cond.code x code maxLocals ret :: tables_1)).before args0 about1 = true := by
  rw [allAtoms_all]
  show words1.all (fun c => c.before args0 about1) = true
  refine all_split ?_ w_codes
  rw [← List.take_append_drop 24 words1, List.all_append, w_t1, w_t2]
  rfl
set_option maxRecDepth 65536 in
theorem w_case : (Jvm.Cond.and given_1 narrow_1).before args0 about1 = true := by decide +kernel
theorem w_applies : (headSpec (Jvm.Cond.code x code maxLocals ret :: tables_1) room_1).applies x e0.platform about1 = true :=
  (Spec.applies_iff w_frames).mpr ⟨w_running, w_runnable, w_alone, w_named, w_hears, w_ripe, w_room, w_tables⟩
theorem atStart : AtStart classFile x code maxLocals ret World_1 tables_1 room_1 Calls_1 rest_1 Pre_1 launch0 p0 e0 about1 theMethod args0 below0 :=
  ⟨lists_1, trivial, launch0.admits_env _ _ _, launch0.least_env, fairChoices_fair.cas, fairChoices_fair.clock, w_frames, w_args, w_heap, w_applies, trivial, trivial, w_case⟩
end start1
theorem witness_1 : WitnessClaimed_1 := ⟨start1.p0, start1.e0, start1.about1, start1.theMethod, start1.args0, start1.below0, start1.atStart⟩
end Jvm.Pilot.@@N@@
