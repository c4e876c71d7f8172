import JvmDerived
import JvmDerived.Pilot.@@N@@Statement
import JvmDerived.Pilot.@@N@@Code
set_option linter.unusedVariables false
set_option linter.unusedSimpArgs false
namespace Jvm.RoadKit
open Sem ClassFile Op Lib Jvm.Stand Jvm.Free Jvm.LawKit
section New
variable {p : Program} {l : Launch} {e : Env} {R : Room} {s : State} {m : MethodId} {args : Array Value} {below : List Frame} {meth : Method} {c : Code} {T : State} {locs : List Loc} {cells slots : Nat}
theorem retI (X : Stand p l e R s m args below meth c T locs cells slots) (hx : p.tables.exec = Jvm.exec) {pc : Nat} {Ls : Array Slot} {z : Int32} {rest : List Value} (hret : meth.sig.returnType = some .int) (hd : decode c.code pc = .ok (.ireturn, 1)) {fs : List Frame}
    (hl : ∀ (f : JFrame) (acts : List Action), f.method = m → f.locked = none → f.entered = [] → (doReturn e (T.setTop f) acts (some (.int z))).1 = T.setFrames fs) : Steps p.tables e below (T.setTop (mkF m pc Ls (.int z :: rest))) (T.setFrames fs) := by
  have hm' : T.vm.method? m = some meth := X.method'
  have hn : narrow .int (.int z) = .int z := rfl
  show Steps p.tables e below (T.setTop { method := m, pc := pc, locals := Ls, stack := _ :: rest, locked := none }) _
  jvm_step X.here [X.here.top, hx, hd, hm', hret, hn]
  first | (intro acts; rw [hl _ acts rfl rfl rfl]) | rw [hl _ _ rfl rfl rfl]
  exact Steps.refl _
end New
end Jvm.RoadKit
namespace Jvm.Pilot.@@N@@
open Jvm Jvm.ClassFile Sem Op Lib Jvm.Free Jvm.Stand Jvm.LawKit Jvm.RoadKit Bundle Jvm.Pilot.@@N@@.Jvm.D
/-! what every block says -/
def own_b (b : Bool) : Int32 := cond b 1 0
theorem own_nar (b : Bool) : nar .boolean (own_b b) = own_b b := by cases b <;> rfl
theorem own_b0 {b : Bool} (h : b = false) : own_b b = (0 : Int32) := by rw [h]; rfl
theorem own_b1 {b : Bool} (h : ¬ b = false) : ¬ own_b b = (0 : Int32) := by cases b; exact absurd rfl h; decide
abbrev own_ushr (x y : Int32) : Int32 := (x.toUInt32 >>> (y &&& 31).toUInt32).toInt32
abbrev own_ushrL (x : Int64) (y : Int32) : Int64 := (x.toUInt64 >>> (y &&& 0x3f).toInt64.toUInt64).toInt64
/-- from the frame g over T0 the run comes to an ireturn with v on top, the heap as it stood -/
def own_Ret (p : Program) (l : Launch) (e : Env) (R : Room) (s : State) (m : MethodId) (args : Array Value) (below : List Frame) (meth : Method) (c : Code) (h0 : Heap) (n0 cells slots : Nat) (T0 : State) (g : JFrame) (v : Int32) : Prop :=
  ∃ (T' : State) (locs' : List Loc) (pcr : Nat) (Ls : Array Slot), Stand p l e R s m args below meth c T' locs' cells slots ∧ T'.heap = h0 ∧ Fr n0 locs' ∧ decode c.code pcr = .ok (.ireturn, 1) ∧
    ∀ target, Steps p.tables e below (T'.setTop (mkF m pcr Ls [.int v])) target → Steps p.tables e below (T0.setTop g) target
theorem own_step {p : Program} {l : Launch} {e : Env} {R : Room} {s : State} {m : MethodId} {args : Array Value} {below : List Frame} {meth : Method} {c : Code} {h0 : Heap} {n0 cells slots : Nat} {T0 T1 : State} {g0 g1 : JFrame} {v : Int32}
    (st : ∀ target, Steps p.tables e below (T1.setTop g1) target → Steps p.tables e below (T0.setTop g0) target) (h : own_Ret p l e R s m args below meth c h0 n0 cells slots T1 g1 v) : own_Ret p l e R s m args below meth c h0 n0 cells slots T0 g0 v := by
  obtain ⟨T', locs', pcr, Ls, h1, h2, h3, h4, h5⟩ := h
  exact ⟨T', locs', pcr, Ls, h1, h2, h3, h4, fun t k => st t (h5 t k)⟩
def own_Q (w : Int32) (h0 : Heap) (n0 : Nat) (v : Option Value) (h : Heap) (L : List Loc) : Prop := v = some (.int w) ∧ Fr n0 L ∧ h = h0
/-! arrays of ints that are filled once: a store behind the last, a read -/
theorem own_map_getD (vals : List Int32) (i : Nat) : (vals.map Value.int).getD i (.int 0) = .int (vals.getD i 0) := by
  simp only [List.getD_eq_getElem?_getD, List.getElem?_map]
  cases vals[i]? <;> rfl
theorem own_at {Z : State} {h : Heap} {a : Addr} {k : ClassId} {ty : FieldType} {n j : Int32} {vals : List Int32} (F : Arv Z h a k ty n (vals.map Value.int) (.int 0)) (hj : ¬ j < 0 ∧ j < n) :
    ∃ cl : Cell, Arr Z h a cl ty ∧ ¬ (j < 0 ∨ cl.slots.size ≤ j.toNatClampNeg) ∧ cl.slots[j.toNatClampNeg]? = some (.int (vals.getD j.toNatClampNeg 0)) := by
  obtain ⟨cl, A, q, S, Nn, H, G⟩ := F
  exact ⟨cl, A, inb_of S hj, H.at (inb_of S hj) (own_map_getD _ _)⟩
theorem own_set_end (vals : List Int32) (x : Int32) : (vals.map Value.int ++ List.replicate 1 (Value.int 0)).set vals.length (.int x) = (vals ++ [x]).map Value.int := by
  rw [List.set_append_right _ _ (by simp)]
  simp
section Own
variable {p : Program} {l : Launch} {e : Env} {R : Room} {s : State} {m : MethodId} {args : Array Value} {below : List Frame} {meth : Method} {c : Code} {T : State} {locs : List Loc} {cells slots : Nat} {Z : State} {h h0 : Heap} {b : Addr} {k : ClassId} {n : Int32} {vals : List Int32} {n0 : Nat}
theorem own_putI (X : Stand p l e R s m args below meth c T locs cells slots) (hx : p.tables.exec = Jvm.exec) (hZ : Z.Warmed39 s.vm) (eT : T.heap = h) (F : Arv Z h b k .int n (vals.map Value.int) (.int 0)) (N : Fr n0 locs) (g0 : n0 ≤ b) (K : Keep h0 h []) (sz : h0.size ≤ b) (j x : Int32) (hj : j.toNatClampNeg = vals.length) (hj2 : ¬ j < 0 ∧ j < n) {g : JFrame} (hg : g.method = m) {rest : List Value} (hs : g.stack = .int x :: .int j :: .ref b :: rest) (hd : decode c.code g.pc = .ok (.iastore, 1)) :
    ∃ (T' : State) (h' : Heap) (locs' : List Loc), Stand p l e R s m args below meth c T' locs' cells slots ∧ T'.heap = h' ∧ Arv Z h' b k .int n ((vals ++ [x]).map Value.int) (.int 0) ∧ Fr n0 locs' ∧ Keep h0 h' [] ∧ ∀ target, Steps p.tables e below (T'.setTop { g with pc := g.pc + 1, stack := rest }) target → Steps p.tables e below (T.setTop g) target := by
  obtain ⟨cl, A, q, S, Nn, H, G⟩ := F.pad (pad_rep _ _ 1)
  obtain ⟨T', h', X', e', W, st⟩ := stI X hx hZ eT A (j := j) (x := x) (inb_of S hj2) hg hs hd
  have V2 := Arv.set A q S Nn H G (v := .int x) rfl W vals.length hj (by simp)
  rw [own_set_end] at V2
  exact ⟨T', h', _, X', e', V2, Fr.snoc X' N g0, K.wr W (Or.inr sz), st⟩
theorem own_putC (X : Stand p l e R s m args below meth c T locs cells slots) (hx : p.tables.exec = Jvm.exec) (hZ : Z.Warmed39 s.vm) (eT : T.heap = h) (F : Arv Z h b k .char n (vals.map Value.int) (.int 0)) (N : Fr n0 locs) (g0 : n0 ≤ b) (K : Keep h0 h []) (sz : h0.size ≤ b) (j x : Int32) (hn : nar .char x = x) (hj : j.toNatClampNeg = vals.length) (hj2 : ¬ j < 0 ∧ j < n) {g : JFrame} (hg : g.method = m) {rest : List Value} (hs : g.stack = .int x :: .int j :: .ref b :: rest) (hd : decode c.code g.pc = .ok (.castore, 1)) :
    ∃ (T' : State) (h' : Heap) (locs' : List Loc), Stand p l e R s m args below meth c T' locs' cells slots ∧ T'.heap = h' ∧ Arv Z h' b k .char n ((vals ++ [x]).map Value.int) (.int 0) ∧ Fr n0 locs' ∧ Keep h0 h' [] ∧ ∀ target, Steps p.tables e below (T'.setTop { g with pc := g.pc + 1, stack := rest }) target → Steps p.tables e below (T.setTop g) target := by
  obtain ⟨cl, A, q, S, Nn, H, G⟩ := F.pad (pad_rep _ _ 1)
  obtain ⟨T', h', X', e', W, st⟩ := stC X hx hZ eT A (j := j) (x := x) (inb_of S hj2) hg hs hd
  rw [hn] at W
  have V2 := Arv.set A q S Nn H G (v := .int x) (by have := fits_nar_char x; rwa [hn] at this) W vals.length hj (by simp)
  rw [own_set_end] at V2
  exact ⟨T', h', _, X', e', V2, Fr.snoc X' N g0, K.wr W (Or.inr sz), st⟩
end Own

theorem d1_0 : decode prog_133_method_9_code 0 = .ok (.iload_n 0, 1) := by decide +kernel
theorem d1_1 : decode prog_133_method_9_code 1 = .ok (.bipush 97, 2) := by decide +kernel
theorem d1_3 : decode prog_133_method_9_code 3 = .ok (.if_icmp .lt 9, 3) := by decide +kernel
theorem d1_6 : decode prog_133_method_9_code 6 = .ok (.iload_n 0, 1) := by decide +kernel
theorem d1_7 : decode prog_133_method_9_code 7 = .ok (.bipush 122, 2) := by decide +kernel
theorem d1_9 : decode prog_133_method_9_code 9 = .ok (.if_icmp .le 182, 3) := by decide +kernel
theorem d1_12 : decode prog_133_method_9_code 12 = .ok (.iload_n 0, 1) := by decide +kernel
theorem d1_13 : decode prog_133_method_9_code 13 = .ok (.bipush 65, 2) := by decide +kernel
theorem d1_15 : decode prog_133_method_9_code 15 = .ok (.if_icmp .lt 9, 3) := by decide +kernel
theorem d1_18 : decode prog_133_method_9_code 18 = .ok (.iload_n 0, 1) := by decide +kernel
theorem d1_19 : decode prog_133_method_9_code 19 = .ok (.bipush 90, 2) := by decide +kernel
theorem d1_21 : decode prog_133_method_9_code 21 = .ok (.if_icmp .le 170, 3) := by decide +kernel
theorem d1_24 : decode prog_133_method_9_code 24 = .ok (.iload_n 0, 1) := by decide +kernel
theorem d1_25 : decode prog_133_method_9_code 25 = .ok (.bipush 95, 2) := by decide +kernel
theorem d1_27 : decode prog_133_method_9_code 27 = .ok (.if_icmp .eq 164, 3) := by decide +kernel
theorem d1_30 : decode prog_133_method_9_code 30 = .ok (.iload_n 0, 1) := by decide +kernel
theorem d1_31 : decode prog_133_method_9_code 31 = .ok (.sipush 192, 3) := by decide +kernel
theorem d1_34 : decode prog_133_method_9_code 34 = .ok (.if_icmp .lt 10, 3) := by decide +kernel
theorem d1_37 : decode prog_133_method_9_code 37 = .ok (.iload_n 0, 1) := by decide +kernel
theorem d1_38 : decode prog_133_method_9_code 38 = .ok (.sipush 214, 3) := by decide +kernel
theorem d1_41 : decode prog_133_method_9_code 41 = .ok (.if_icmp .le 150, 3) := by decide +kernel
theorem d1_44 : decode prog_133_method_9_code 44 = .ok (.iload_n 0, 1) := by decide +kernel
theorem d1_45 : decode prog_133_method_9_code 45 = .ok (.sipush 216, 3) := by decide +kernel
theorem d1_48 : decode prog_133_method_9_code 48 = .ok (.if_icmp .lt 10, 3) := by decide +kernel
theorem d1_51 : decode prog_133_method_9_code 51 = .ok (.iload_n 0, 1) := by decide +kernel
theorem d1_52 : decode prog_133_method_9_code 52 = .ok (.sipush 246, 3) := by decide +kernel
theorem d1_55 : decode prog_133_method_9_code 55 = .ok (.if_icmp .le 136, 3) := by decide +kernel
theorem d1_58 : decode prog_133_method_9_code 58 = .ok (.iload_n 0, 1) := by decide +kernel
theorem d1_59 : decode prog_133_method_9_code 59 = .ok (.sipush 248, 3) := by decide +kernel
theorem d1_62 : decode prog_133_method_9_code 62 = .ok (.if_icmp .lt 10, 3) := by decide +kernel
theorem d1_65 : decode prog_133_method_9_code 65 = .ok (.iload_n 0, 1) := by decide +kernel
theorem d1_66 : decode prog_133_method_9_code 66 = .ok (.sipush 767, 3) := by decide +kernel
theorem d1_69 : decode prog_133_method_9_code 69 = .ok (.if_icmp .le 122, 3) := by decide +kernel
theorem d1_72 : decode prog_133_method_9_code 72 = .ok (.iload_n 0, 1) := by decide +kernel
theorem d1_73 : decode prog_133_method_9_code 73 = .ok (.sipush 880, 3) := by decide +kernel
theorem d1_76 : decode prog_133_method_9_code 76 = .ok (.if_icmp .lt 10, 3) := by decide +kernel
theorem d1_79 : decode prog_133_method_9_code 79 = .ok (.iload_n 0, 1) := by decide +kernel
theorem d1_80 : decode prog_133_method_9_code 80 = .ok (.sipush 893, 3) := by decide +kernel
theorem d1_83 : decode prog_133_method_9_code 83 = .ok (.if_icmp .le 108, 3) := by decide +kernel
theorem d1_86 : decode prog_133_method_9_code 86 = .ok (.iload_n 0, 1) := by decide +kernel
theorem d1_87 : decode prog_133_method_9_code 87 = .ok (.sipush 895, 3) := by decide +kernel
theorem d1_90 : decode prog_133_method_9_code 90 = .ok (.if_icmp .lt 10, 3) := by decide +kernel
theorem d1_93 : decode prog_133_method_9_code 93 = .ok (.iload_n 0, 1) := by decide +kernel
theorem d1_94 : decode prog_133_method_9_code 94 = .ok (.sipush 8191, 3) := by decide +kernel
theorem d1_97 : decode prog_133_method_9_code 97 = .ok (.if_icmp .le 94, 3) := by decide +kernel
theorem d1_100 : decode prog_133_method_9_code 100 = .ok (.iload_n 0, 1) := by decide +kernel
theorem d1_101 : decode prog_133_method_9_code 101 = .ok (.sipush 8204, 3) := by decide +kernel
theorem d1_104 : decode prog_133_method_9_code 104 = .ok (.if_icmp .lt 10, 3) := by decide +kernel
theorem d1_107 : decode prog_133_method_9_code 107 = .ok (.iload_n 0, 1) := by decide +kernel
theorem d1_108 : decode prog_133_method_9_code 108 = .ok (.sipush 8205, 3) := by decide +kernel
theorem d1_111 : decode prog_133_method_9_code 111 = .ok (.if_icmp .le 80, 3) := by decide +kernel
theorem d1_114 : decode prog_133_method_9_code 114 = .ok (.iload_n 0, 1) := by decide +kernel
theorem d1_115 : decode prog_133_method_9_code 115 = .ok (.sipush 8304, 3) := by decide +kernel
theorem d1_118 : decode prog_133_method_9_code 118 = .ok (.if_icmp .lt 10, 3) := by decide +kernel
theorem d1_121 : decode prog_133_method_9_code 121 = .ok (.iload_n 0, 1) := by decide +kernel
theorem d1_122 : decode prog_133_method_9_code 122 = .ok (.sipush 8591, 3) := by decide +kernel
theorem d1_125 : decode prog_133_method_9_code 125 = .ok (.if_icmp .le 66, 3) := by decide +kernel
theorem d1_128 : decode prog_133_method_9_code 128 = .ok (.iload_n 0, 1) := by decide +kernel
theorem d1_129 : decode prog_133_method_9_code 129 = .ok (.sipush 11264, 3) := by decide +kernel
theorem d1_132 : decode prog_133_method_9_code 132 = .ok (.if_icmp .lt 10, 3) := by decide +kernel
theorem d1_135 : decode prog_133_method_9_code 135 = .ok (.iload_n 0, 1) := by decide +kernel
theorem d1_136 : decode prog_133_method_9_code 136 = .ok (.sipush 12271, 3) := by decide +kernel
theorem d1_139 : decode prog_133_method_9_code 139 = .ok (.if_icmp .le 52, 3) := by decide +kernel
theorem d1_142 : decode prog_133_method_9_code 142 = .ok (.iload_n 0, 1) := by decide +kernel
theorem d1_143 : decode prog_133_method_9_code 143 = .ok (.sipush 12289, 3) := by decide +kernel
theorem d1_146 : decode prog_133_method_9_code 146 = .ok (.if_icmp .lt 9, 3) := by decide +kernel
theorem d1_149 : decode prog_133_method_9_code 149 = .ok (.iload_n 0, 1) := by decide +kernel
theorem d1_150 : decode prog_133_method_9_code 150 = .ok (.ldc 87, 2) := by decide +kernel
theorem d1_152 : decode prog_133_method_9_code 152 = .ok (.if_icmp .le 39, 3) := by decide +kernel
theorem d1_155 : decode prog_133_method_9_code 155 = .ok (.iload_n 0, 1) := by decide +kernel
theorem d1_156 : decode prog_133_method_9_code 156 = .ok (.ldc 88, 2) := by decide +kernel
theorem d1_158 : decode prog_133_method_9_code 158 = .ok (.if_icmp .lt 9, 3) := by decide +kernel
theorem d1_161 : decode prog_133_method_9_code 161 = .ok (.iload_n 0, 1) := by decide +kernel
theorem d1_162 : decode prog_133_method_9_code 162 = .ok (.ldc 89, 2) := by decide +kernel
theorem d1_164 : decode prog_133_method_9_code 164 = .ok (.if_icmp .le 27, 3) := by decide +kernel
theorem d1_167 : decode prog_133_method_9_code 167 = .ok (.iload_n 0, 1) := by decide +kernel
theorem d1_168 : decode prog_133_method_9_code 168 = .ok (.ldc 90, 2) := by decide +kernel
theorem d1_170 : decode prog_133_method_9_code 170 = .ok (.if_icmp .lt 9, 3) := by decide +kernel
theorem d1_173 : decode prog_133_method_9_code 173 = .ok (.iload_n 0, 1) := by decide +kernel
theorem d1_174 : decode prog_133_method_9_code 174 = .ok (.ldc 91, 2) := by decide +kernel
theorem d1_176 : decode prog_133_method_9_code 176 = .ok (.if_icmp .le 15, 3) := by decide +kernel
theorem d1_179 : decode prog_133_method_9_code 179 = .ok (.iload_n 0, 1) := by decide +kernel
theorem d1_180 : decode prog_133_method_9_code 180 = .ok (.ldc 92, 2) := by decide +kernel
theorem d1_182 : decode prog_133_method_9_code 182 = .ok (.if_icmp .lt 13, 3) := by decide +kernel
theorem d1_185 : decode prog_133_method_9_code 185 = .ok (.iload_n 0, 1) := by decide +kernel
theorem d1_186 : decode prog_133_method_9_code 186 = .ok (.ldc 93, 2) := by decide +kernel
theorem d1_188 : decode prog_133_method_9_code 188 = .ok (.if_icmp .gt 7, 3) := by decide +kernel
theorem d1_191 : decode prog_133_method_9_code 191 = .ok (.iconst 1, 1) := by decide +kernel
theorem d1_192 : decode prog_133_method_9_code 192 = .ok (.goto 4, 3) := by decide +kernel
theorem d1_195 : decode prog_133_method_9_code 195 = .ok (.iconst 0, 1) := by decide +kernel
theorem d1_196 : decode prog_133_method_9_code 196 = .ok (.ireturn, 1) := by decide +kernel
def f1_195 (i0 : Int32) : Bool := false
set_option maxRecDepth 65536 in
set_option maxHeartbeats 4000000 in
theorem b1_195 {p : Program} {l : Launch} {e : Env} {s : State} {m : MethodId} {args : Array Value} {below : List Frame} {meth : Method} {c : Code} {T0 : State} {locs : List Loc} {Z : State} {a0 : Array Value} {h0 : Heap} {n0 : Nat} (i0 : Int32) (X0 : Stand p l e ({ frames := 0, cells := 0, slots := 0, locals := 0 } : Room) s m args below meth c T0 locs 0 0) (hx : p.tables.exec = Jvm.exec) (hZ : Z.Warmed39 s.vm) (hw : ∀ d ∈ tables_1, d.before a0 Z = true) (hby : c.code = prog_133_method_9_code) (hml : c.maxLocals = 1) (hown : s.vm.findClass "com/example/moth/moth/core/value/XmlNames" = some m.cls) (e0 : T0.heap = h0) (N0 : Fr n0 locs) (Z0 : n0 ≤ h0.size) :
    own_Ret p l e ({ frames := 0, cells := 0, slots := 0, locals := 0 } : Room) s m args below meth c h0 n0 0 0 T0 (mkF m 195 #[.val (.int i0)] []) (own_b (f1_195 i0)) := by
  unfold f1_195
  refine own_step (T1 := T0) (g1 := (mkF m 196 #[.val (.int i0)] [(.int (0 : Int32))])) (fun _ k => XS.iconst X0.here hx rfl (hb hby d1_195) k) ?_
  exact ⟨_, _, 196, _, X0, e0, N0, (hb hby d1_196), fun _ k => k⟩
def f1_191 (i0 : Int32) : Bool := true
set_option maxRecDepth 65536 in
set_option maxHeartbeats 4000000 in
theorem b1_191 {p : Program} {l : Launch} {e : Env} {s : State} {m : MethodId} {args : Array Value} {below : List Frame} {meth : Method} {c : Code} {T0 : State} {locs : List Loc} {Z : State} {a0 : Array Value} {h0 : Heap} {n0 : Nat} (i0 : Int32) (X0 : Stand p l e ({ frames := 0, cells := 0, slots := 0, locals := 0 } : Room) s m args below meth c T0 locs 0 0) (hx : p.tables.exec = Jvm.exec) (hZ : Z.Warmed39 s.vm) (hw : ∀ d ∈ tables_1, d.before a0 Z = true) (hby : c.code = prog_133_method_9_code) (hml : c.maxLocals = 1) (hown : s.vm.findClass "com/example/moth/moth/core/value/XmlNames" = some m.cls) (e0 : T0.heap = h0) (N0 : Fr n0 locs) (Z0 : n0 ≤ h0.size) :
    own_Ret p l e ({ frames := 0, cells := 0, slots := 0, locals := 0 } : Room) s m args below meth c h0 n0 0 0 T0 (mkF m 191 #[.val (.int i0)] []) (own_b (f1_191 i0)) := by
  unfold f1_191
  refine own_step (T1 := T0) (g1 := (mkF m 192 #[.val (.int i0)] [(.int (1 : Int32))])) (fun _ k => XS.iconst X0.here hx rfl (hb hby d1_191) k) ?_
  refine own_step (T1 := T0) (g1 := (mkF m 196 #[.val (.int i0)] [(.int (1 : Int32))])) (fun _ k => XS.goto X0.here hx rfl (pc0 := 192) (pc' := 196) rfl (hb hby d1_192) (by decide) (by decide) k) ?_
  exact ⟨_, _, 196, _, X0, e0, N0, (hb hby d1_196), fun _ k => k⟩
def f1_179 (i0 : Int32) : Bool := (if i0 < (65536 : Int32) then (f1_195 i0) else (if (983039 : Int32) < i0 then (f1_195 i0) else (f1_191 i0)))
set_option maxRecDepth 65536 in
set_option maxHeartbeats 4000000 in
theorem b1_179 {p : Program} {l : Launch} {e : Env} {s : State} {m : MethodId} {args : Array Value} {below : List Frame} {meth : Method} {c : Code} {T0 : State} {locs : List Loc} {Z : State} {a0 : Array Value} {h0 : Heap} {n0 : Nat} (i0 : Int32) (X0 : Stand p l e ({ frames := 0, cells := 0, slots := 0, locals := 0 } : Room) s m args below meth c T0 locs 0 0) (hx : p.tables.exec = Jvm.exec) (hZ : Z.Warmed39 s.vm) (hw : ∀ d ∈ tables_1, d.before a0 Z = true) (hby : c.code = prog_133_method_9_code) (hml : c.maxLocals = 1) (hown : s.vm.findClass "com/example/moth/moth/core/value/XmlNames" = some m.cls) (e0 : T0.heap = h0) (N0 : Fr n0 locs) (Z0 : n0 ≤ h0.size) :
    own_Ret p l e ({ frames := 0, cells := 0, slots := 0, locals := 0 } : Room) s m args below meth c h0 n0 0 0 T0 (mkF m 179 #[.val (.int i0)] []) (own_b (f1_179 i0)) := by
  unfold f1_179
  refine own_step (T1 := T0) (g1 := (mkF m 180 #[.val (.int i0)] [(.int i0)])) (fun _ k => XS.iloadN X0.here hx rfl (hb hby d1_179) rfl k) ?_
  refine own_step (T1 := T0) (g1 := (mkF m 182 #[.val (.int i0)] [(.int (65536 : Int32)), (.int i0)])) (fun _ k => X0.ldcInt hx hown (mvT hZ (hw _ (List.mem_of_getElem? (i := 16) rfl))) (g := (mkF m 180 #[.val (.int i0)] [(.int i0)])) rfl (hb hby d1_180) _ k) ?_
  by_cases hc182 : i0 < (65536 : Int32)
  · rw [if_pos hc182]
    refine own_step (T1 := T0) (g1 := (mkF m 195 #[.val (.int i0)] [])) (fun _ k => XS.icmpYes X0.here hx rfl (pc0 := 182) (pc' := 195) rfl (hb hby d1_182) rfl (tlt hc182).1 (by decide) (by decide) k) ?_
    exact b1_195 i0 X0 hx hZ hw hby hml hown e0 N0 Z0
  · rw [if_neg hc182]
    refine own_step (T1 := T0) (g1 := (mkF m 185 #[.val (.int i0)] [])) (fun _ k => XS.icmpNo X0.here hx rfl (hb hby d1_182) rfl (flt hc182).1 k) ?_
    refine own_step (T1 := T0) (g1 := (mkF m 186 #[.val (.int i0)] [(.int i0)])) (fun _ k => XS.iloadN X0.here hx rfl (hb hby d1_185) rfl k) ?_
    refine own_step (T1 := T0) (g1 := (mkF m 188 #[.val (.int i0)] [(.int (983039 : Int32)), (.int i0)])) (fun _ k => X0.ldcInt hx hown (mvT hZ (hw _ (List.mem_of_getElem? (i := 33) rfl))) (g := (mkF m 186 #[.val (.int i0)] [(.int i0)])) rfl (hb hby d1_186) _ k) ?_
    by_cases hc188 : (983039 : Int32) < i0
    · rw [if_pos hc188]
      refine own_step (T1 := T0) (g1 := (mkF m 195 #[.val (.int i0)] [])) (fun _ k => XS.icmpYes X0.here hx rfl (pc0 := 188) (pc' := 195) rfl (hb hby d1_188) rfl (tlt hc188).2.2.1 (by decide) (by decide) k) ?_
      exact b1_195 i0 X0 hx hZ hw hby hml hown e0 N0 Z0
    · rw [if_neg hc188]
      refine own_step (T1 := T0) (g1 := (mkF m 191 #[.val (.int i0)] [])) (fun _ k => XS.icmpNo X0.here hx rfl (hb hby d1_188) rfl (flt hc188).2.2.1 k) ?_
      exact b1_191 i0 X0 hx hZ hw hby hml hown e0 N0 Z0
def f1_167 (i0 : Int32) : Bool := (if i0 < (65008 : Int32) then (f1_179 i0) else (if (65533 : Int32) < i0 then (f1_179 i0) else (f1_191 i0)))
set_option maxRecDepth 65536 in
set_option maxHeartbeats 4000000 in
theorem b1_167 {p : Program} {l : Launch} {e : Env} {s : State} {m : MethodId} {args : Array Value} {below : List Frame} {meth : Method} {c : Code} {T0 : State} {locs : List Loc} {Z : State} {a0 : Array Value} {h0 : Heap} {n0 : Nat} (i0 : Int32) (X0 : Stand p l e ({ frames := 0, cells := 0, slots := 0, locals := 0 } : Room) s m args below meth c T0 locs 0 0) (hx : p.tables.exec = Jvm.exec) (hZ : Z.Warmed39 s.vm) (hw : ∀ d ∈ tables_1, d.before a0 Z = true) (hby : c.code = prog_133_method_9_code) (hml : c.maxLocals = 1) (hown : s.vm.findClass "com/example/moth/moth/core/value/XmlNames" = some m.cls) (e0 : T0.heap = h0) (N0 : Fr n0 locs) (Z0 : n0 ≤ h0.size) :
    own_Ret p l e ({ frames := 0, cells := 0, slots := 0, locals := 0 } : Room) s m args below meth c h0 n0 0 0 T0 (mkF m 167 #[.val (.int i0)] []) (own_b (f1_167 i0)) := by
  unfold f1_167
  refine own_step (T1 := T0) (g1 := (mkF m 168 #[.val (.int i0)] [(.int i0)])) (fun _ k => XS.iloadN X0.here hx rfl (hb hby d1_167) rfl k) ?_
  refine own_step (T1 := T0) (g1 := (mkF m 170 #[.val (.int i0)] [(.int (65008 : Int32)), (.int i0)])) (fun _ k => X0.ldcInt hx hown (mvT hZ (hw _ (List.mem_of_getElem? (i := 15) rfl))) (g := (mkF m 168 #[.val (.int i0)] [(.int i0)])) rfl (hb hby d1_168) _ k) ?_
  by_cases hc170 : i0 < (65008 : Int32)
  · rw [if_pos hc170]
    refine own_step (T1 := T0) (g1 := (mkF m 179 #[.val (.int i0)] [])) (fun _ k => XS.icmpYes X0.here hx rfl (pc0 := 170) (pc' := 179) rfl (hb hby d1_170) rfl (tlt hc170).1 (by decide) (by decide) k) ?_
    exact b1_179 i0 X0 hx hZ hw hby hml hown e0 N0 Z0
  · rw [if_neg hc170]
    refine own_step (T1 := T0) (g1 := (mkF m 173 #[.val (.int i0)] [])) (fun _ k => XS.icmpNo X0.here hx rfl (hb hby d1_170) rfl (flt hc170).1 k) ?_
    refine own_step (T1 := T0) (g1 := (mkF m 174 #[.val (.int i0)] [(.int i0)])) (fun _ k => XS.iloadN X0.here hx rfl (hb hby d1_173) rfl k) ?_
    refine own_step (T1 := T0) (g1 := (mkF m 176 #[.val (.int i0)] [(.int (65533 : Int32)), (.int i0)])) (fun _ k => X0.ldcInt hx hown (mvT hZ (hw _ (List.mem_of_getElem? (i := 32) rfl))) (g := (mkF m 174 #[.val (.int i0)] [(.int i0)])) rfl (hb hby d1_174) _ k) ?_
    by_cases hc176 : (65533 : Int32) < i0
    · rw [if_pos hc176]
      refine own_step (T1 := T0) (g1 := (mkF m 179 #[.val (.int i0)] [])) (fun _ k => XS.icmpNo X0.here hx rfl (hb hby d1_176) rfl (tlt hc176).2.2.2 k) ?_
      exact b1_179 i0 X0 hx hZ hw hby hml hown e0 N0 Z0
    · rw [if_neg hc176]
      refine own_step (T1 := T0) (g1 := (mkF m 191 #[.val (.int i0)] [])) (fun _ k => XS.icmpYes X0.here hx rfl (pc0 := 176) (pc' := 191) rfl (hb hby d1_176) rfl (flt hc176).2.2.2 (by decide) (by decide) k) ?_
      exact b1_191 i0 X0 hx hZ hw hby hml hown e0 N0 Z0
def f1_155 (i0 : Int32) : Bool := (if i0 < (63744 : Int32) then (f1_167 i0) else (if (64975 : Int32) < i0 then (f1_167 i0) else (f1_191 i0)))
set_option maxRecDepth 65536 in
set_option maxHeartbeats 4000000 in
theorem b1_155 {p : Program} {l : Launch} {e : Env} {s : State} {m : MethodId} {args : Array Value} {below : List Frame} {meth : Method} {c : Code} {T0 : State} {locs : List Loc} {Z : State} {a0 : Array Value} {h0 : Heap} {n0 : Nat} (i0 : Int32) (X0 : Stand p l e ({ frames := 0, cells := 0, slots := 0, locals := 0 } : Room) s m args below meth c T0 locs 0 0) (hx : p.tables.exec = Jvm.exec) (hZ : Z.Warmed39 s.vm) (hw : ∀ d ∈ tables_1, d.before a0 Z = true) (hby : c.code = prog_133_method_9_code) (hml : c.maxLocals = 1) (hown : s.vm.findClass "com/example/moth/moth/core/value/XmlNames" = some m.cls) (e0 : T0.heap = h0) (N0 : Fr n0 locs) (Z0 : n0 ≤ h0.size) :
    own_Ret p l e ({ frames := 0, cells := 0, slots := 0, locals := 0 } : Room) s m args below meth c h0 n0 0 0 T0 (mkF m 155 #[.val (.int i0)] []) (own_b (f1_155 i0)) := by
  unfold f1_155
  refine own_step (T1 := T0) (g1 := (mkF m 156 #[.val (.int i0)] [(.int i0)])) (fun _ k => XS.iloadN X0.here hx rfl (hb hby d1_155) rfl k) ?_
  refine own_step (T1 := T0) (g1 := (mkF m 158 #[.val (.int i0)] [(.int (63744 : Int32)), (.int i0)])) (fun _ k => X0.ldcInt hx hown (mvT hZ (hw _ (List.mem_of_getElem? (i := 14) rfl))) (g := (mkF m 156 #[.val (.int i0)] [(.int i0)])) rfl (hb hby d1_156) _ k) ?_
  by_cases hc158 : i0 < (63744 : Int32)
  · rw [if_pos hc158]
    refine own_step (T1 := T0) (g1 := (mkF m 167 #[.val (.int i0)] [])) (fun _ k => XS.icmpYes X0.here hx rfl (pc0 := 158) (pc' := 167) rfl (hb hby d1_158) rfl (tlt hc158).1 (by decide) (by decide) k) ?_
    exact b1_167 i0 X0 hx hZ hw hby hml hown e0 N0 Z0
  · rw [if_neg hc158]
    refine own_step (T1 := T0) (g1 := (mkF m 161 #[.val (.int i0)] [])) (fun _ k => XS.icmpNo X0.here hx rfl (hb hby d1_158) rfl (flt hc158).1 k) ?_
    refine own_step (T1 := T0) (g1 := (mkF m 162 #[.val (.int i0)] [(.int i0)])) (fun _ k => XS.iloadN X0.here hx rfl (hb hby d1_161) rfl k) ?_
    refine own_step (T1 := T0) (g1 := (mkF m 164 #[.val (.int i0)] [(.int (64975 : Int32)), (.int i0)])) (fun _ k => X0.ldcInt hx hown (mvT hZ (hw _ (List.mem_of_getElem? (i := 31) rfl))) (g := (mkF m 162 #[.val (.int i0)] [(.int i0)])) rfl (hb hby d1_162) _ k) ?_
    by_cases hc164 : (64975 : Int32) < i0
    · rw [if_pos hc164]
      refine own_step (T1 := T0) (g1 := (mkF m 167 #[.val (.int i0)] [])) (fun _ k => XS.icmpNo X0.here hx rfl (hb hby d1_164) rfl (tlt hc164).2.2.2 k) ?_
      exact b1_167 i0 X0 hx hZ hw hby hml hown e0 N0 Z0
    · rw [if_neg hc164]
      refine own_step (T1 := T0) (g1 := (mkF m 191 #[.val (.int i0)] [])) (fun _ k => XS.icmpYes X0.here hx rfl (pc0 := 164) (pc' := 191) rfl (hb hby d1_164) rfl (flt hc164).2.2.2 (by decide) (by decide) k) ?_
      exact b1_191 i0 X0 hx hZ hw hby hml hown e0 N0 Z0
def f1_142 (i0 : Int32) : Bool := (if i0 < (12289 : Int32) then (f1_155 i0) else (if (55295 : Int32) < i0 then (f1_155 i0) else (f1_191 i0)))
set_option maxRecDepth 65536 in
set_option maxHeartbeats 4000000 in
theorem b1_142 {p : Program} {l : Launch} {e : Env} {s : State} {m : MethodId} {args : Array Value} {below : List Frame} {meth : Method} {c : Code} {T0 : State} {locs : List Loc} {Z : State} {a0 : Array Value} {h0 : Heap} {n0 : Nat} (i0 : Int32) (X0 : Stand p l e ({ frames := 0, cells := 0, slots := 0, locals := 0 } : Room) s m args below meth c T0 locs 0 0) (hx : p.tables.exec = Jvm.exec) (hZ : Z.Warmed39 s.vm) (hw : ∀ d ∈ tables_1, d.before a0 Z = true) (hby : c.code = prog_133_method_9_code) (hml : c.maxLocals = 1) (hown : s.vm.findClass "com/example/moth/moth/core/value/XmlNames" = some m.cls) (e0 : T0.heap = h0) (N0 : Fr n0 locs) (Z0 : n0 ≤ h0.size) :
    own_Ret p l e ({ frames := 0, cells := 0, slots := 0, locals := 0 } : Room) s m args below meth c h0 n0 0 0 T0 (mkF m 142 #[.val (.int i0)] []) (own_b (f1_142 i0)) := by
  unfold f1_142
  refine own_step (T1 := T0) (g1 := (mkF m 143 #[.val (.int i0)] [(.int i0)])) (fun _ k => XS.iloadN X0.here hx rfl (hb hby d1_142) rfl k) ?_
  refine own_step (T1 := T0) (g1 := (mkF m 146 #[.val (.int i0)] [(.int (12289 : Int32)), (.int i0)])) (fun _ k => XS.sipush X0.here hx rfl (hb hby d1_143) k) ?_
  by_cases hc146 : i0 < (12289 : Int32)
  · rw [if_pos hc146]
    refine own_step (T1 := T0) (g1 := (mkF m 155 #[.val (.int i0)] [])) (fun _ k => XS.icmpYes X0.here hx rfl (pc0 := 146) (pc' := 155) rfl (hb hby d1_146) rfl (tlt hc146).1 (by decide) (by decide) k) ?_
    exact b1_155 i0 X0 hx hZ hw hby hml hown e0 N0 Z0
  · rw [if_neg hc146]
    refine own_step (T1 := T0) (g1 := (mkF m 149 #[.val (.int i0)] [])) (fun _ k => XS.icmpNo X0.here hx rfl (hb hby d1_146) rfl (flt hc146).1 k) ?_
    refine own_step (T1 := T0) (g1 := (mkF m 150 #[.val (.int i0)] [(.int i0)])) (fun _ k => XS.iloadN X0.here hx rfl (hb hby d1_149) rfl k) ?_
    refine own_step (T1 := T0) (g1 := (mkF m 152 #[.val (.int i0)] [(.int (55295 : Int32)), (.int i0)])) (fun _ k => X0.ldcInt hx hown (mvT hZ (hw _ (List.mem_of_getElem? (i := 30) rfl))) (g := (mkF m 150 #[.val (.int i0)] [(.int i0)])) rfl (hb hby d1_150) _ k) ?_
    by_cases hc152 : (55295 : Int32) < i0
    · rw [if_pos hc152]
      refine own_step (T1 := T0) (g1 := (mkF m 155 #[.val (.int i0)] [])) (fun _ k => XS.icmpNo X0.here hx rfl (hb hby d1_152) rfl (tlt hc152).2.2.2 k) ?_
      exact b1_155 i0 X0 hx hZ hw hby hml hown e0 N0 Z0
    · rw [if_neg hc152]
      refine own_step (T1 := T0) (g1 := (mkF m 191 #[.val (.int i0)] [])) (fun _ k => XS.icmpYes X0.here hx rfl (pc0 := 152) (pc' := 191) rfl (hb hby d1_152) rfl (flt hc152).2.2.2 (by decide) (by decide) k) ?_
      exact b1_191 i0 X0 hx hZ hw hby hml hown e0 N0 Z0
def f1_128 (i0 : Int32) : Bool := (if i0 < (11264 : Int32) then (f1_142 i0) else (if (12271 : Int32) < i0 then (f1_142 i0) else (f1_191 i0)))
set_option maxRecDepth 65536 in
set_option maxHeartbeats 4000000 in
theorem b1_128 {p : Program} {l : Launch} {e : Env} {s : State} {m : MethodId} {args : Array Value} {below : List Frame} {meth : Method} {c : Code} {T0 : State} {locs : List Loc} {Z : State} {a0 : Array Value} {h0 : Heap} {n0 : Nat} (i0 : Int32) (X0 : Stand p l e ({ frames := 0, cells := 0, slots := 0, locals := 0 } : Room) s m args below meth c T0 locs 0 0) (hx : p.tables.exec = Jvm.exec) (hZ : Z.Warmed39 s.vm) (hw : ∀ d ∈ tables_1, d.before a0 Z = true) (hby : c.code = prog_133_method_9_code) (hml : c.maxLocals = 1) (hown : s.vm.findClass "com/example/moth/moth/core/value/XmlNames" = some m.cls) (e0 : T0.heap = h0) (N0 : Fr n0 locs) (Z0 : n0 ≤ h0.size) :
    own_Ret p l e ({ frames := 0, cells := 0, slots := 0, locals := 0 } : Room) s m args below meth c h0 n0 0 0 T0 (mkF m 128 #[.val (.int i0)] []) (own_b (f1_128 i0)) := by
  unfold f1_128
  refine own_step (T1 := T0) (g1 := (mkF m 129 #[.val (.int i0)] [(.int i0)])) (fun _ k => XS.iloadN X0.here hx rfl (hb hby d1_128) rfl k) ?_
  refine own_step (T1 := T0) (g1 := (mkF m 132 #[.val (.int i0)] [(.int (11264 : Int32)), (.int i0)])) (fun _ k => XS.sipush X0.here hx rfl (hb hby d1_129) k) ?_
  by_cases hc132 : i0 < (11264 : Int32)
  · rw [if_pos hc132]
    refine own_step (T1 := T0) (g1 := (mkF m 142 #[.val (.int i0)] [])) (fun _ k => XS.icmpYes X0.here hx rfl (pc0 := 132) (pc' := 142) rfl (hb hby d1_132) rfl (tlt hc132).1 (by decide) (by decide) k) ?_
    exact b1_142 i0 X0 hx hZ hw hby hml hown e0 N0 Z0
  · rw [if_neg hc132]
    refine own_step (T1 := T0) (g1 := (mkF m 135 #[.val (.int i0)] [])) (fun _ k => XS.icmpNo X0.here hx rfl (hb hby d1_132) rfl (flt hc132).1 k) ?_
    refine own_step (T1 := T0) (g1 := (mkF m 136 #[.val (.int i0)] [(.int i0)])) (fun _ k => XS.iloadN X0.here hx rfl (hb hby d1_135) rfl k) ?_
    refine own_step (T1 := T0) (g1 := (mkF m 139 #[.val (.int i0)] [(.int (12271 : Int32)), (.int i0)])) (fun _ k => XS.sipush X0.here hx rfl (hb hby d1_136) k) ?_
    by_cases hc139 : (12271 : Int32) < i0
    · rw [if_pos hc139]
      refine own_step (T1 := T0) (g1 := (mkF m 142 #[.val (.int i0)] [])) (fun _ k => XS.icmpNo X0.here hx rfl (hb hby d1_139) rfl (tlt hc139).2.2.2 k) ?_
      exact b1_142 i0 X0 hx hZ hw hby hml hown e0 N0 Z0
    · rw [if_neg hc139]
      refine own_step (T1 := T0) (g1 := (mkF m 191 #[.val (.int i0)] [])) (fun _ k => XS.icmpYes X0.here hx rfl (pc0 := 139) (pc' := 191) rfl (hb hby d1_139) rfl (flt hc139).2.2.2 (by decide) (by decide) k) ?_
      exact b1_191 i0 X0 hx hZ hw hby hml hown e0 N0 Z0
def f1_114 (i0 : Int32) : Bool := (if i0 < (8304 : Int32) then (f1_128 i0) else (if (8591 : Int32) < i0 then (f1_128 i0) else (f1_191 i0)))
set_option maxRecDepth 65536 in
set_option maxHeartbeats 4000000 in
theorem b1_114 {p : Program} {l : Launch} {e : Env} {s : State} {m : MethodId} {args : Array Value} {below : List Frame} {meth : Method} {c : Code} {T0 : State} {locs : List Loc} {Z : State} {a0 : Array Value} {h0 : Heap} {n0 : Nat} (i0 : Int32) (X0 : Stand p l e ({ frames := 0, cells := 0, slots := 0, locals := 0 } : Room) s m args below meth c T0 locs 0 0) (hx : p.tables.exec = Jvm.exec) (hZ : Z.Warmed39 s.vm) (hw : ∀ d ∈ tables_1, d.before a0 Z = true) (hby : c.code = prog_133_method_9_code) (hml : c.maxLocals = 1) (hown : s.vm.findClass "com/example/moth/moth/core/value/XmlNames" = some m.cls) (e0 : T0.heap = h0) (N0 : Fr n0 locs) (Z0 : n0 ≤ h0.size) :
    own_Ret p l e ({ frames := 0, cells := 0, slots := 0, locals := 0 } : Room) s m args below meth c h0 n0 0 0 T0 (mkF m 114 #[.val (.int i0)] []) (own_b (f1_114 i0)) := by
  unfold f1_114
  refine own_step (T1 := T0) (g1 := (mkF m 115 #[.val (.int i0)] [(.int i0)])) (fun _ k => XS.iloadN X0.here hx rfl (hb hby d1_114) rfl k) ?_
  refine own_step (T1 := T0) (g1 := (mkF m 118 #[.val (.int i0)] [(.int (8304 : Int32)), (.int i0)])) (fun _ k => XS.sipush X0.here hx rfl (hb hby d1_115) k) ?_
  by_cases hc118 : i0 < (8304 : Int32)
  · rw [if_pos hc118]
    refine own_step (T1 := T0) (g1 := (mkF m 128 #[.val (.int i0)] [])) (fun _ k => XS.icmpYes X0.here hx rfl (pc0 := 118) (pc' := 128) rfl (hb hby d1_118) rfl (tlt hc118).1 (by decide) (by decide) k) ?_
    exact b1_128 i0 X0 hx hZ hw hby hml hown e0 N0 Z0
  · rw [if_neg hc118]
    refine own_step (T1 := T0) (g1 := (mkF m 121 #[.val (.int i0)] [])) (fun _ k => XS.icmpNo X0.here hx rfl (hb hby d1_118) rfl (flt hc118).1 k) ?_
    refine own_step (T1 := T0) (g1 := (mkF m 122 #[.val (.int i0)] [(.int i0)])) (fun _ k => XS.iloadN X0.here hx rfl (hb hby d1_121) rfl k) ?_
    refine own_step (T1 := T0) (g1 := (mkF m 125 #[.val (.int i0)] [(.int (8591 : Int32)), (.int i0)])) (fun _ k => XS.sipush X0.here hx rfl (hb hby d1_122) k) ?_
    by_cases hc125 : (8591 : Int32) < i0
    · rw [if_pos hc125]
      refine own_step (T1 := T0) (g1 := (mkF m 128 #[.val (.int i0)] [])) (fun _ k => XS.icmpNo X0.here hx rfl (hb hby d1_125) rfl (tlt hc125).2.2.2 k) ?_
      exact b1_128 i0 X0 hx hZ hw hby hml hown e0 N0 Z0
    · rw [if_neg hc125]
      refine own_step (T1 := T0) (g1 := (mkF m 191 #[.val (.int i0)] [])) (fun _ k => XS.icmpYes X0.here hx rfl (pc0 := 125) (pc' := 191) rfl (hb hby d1_125) rfl (flt hc125).2.2.2 (by decide) (by decide) k) ?_
      exact b1_191 i0 X0 hx hZ hw hby hml hown e0 N0 Z0
def f1_100 (i0 : Int32) : Bool := (if i0 < (8204 : Int32) then (f1_114 i0) else (if (8205 : Int32) < i0 then (f1_114 i0) else (f1_191 i0)))
set_option maxRecDepth 65536 in
set_option maxHeartbeats 4000000 in
theorem b1_100 {p : Program} {l : Launch} {e : Env} {s : State} {m : MethodId} {args : Array Value} {below : List Frame} {meth : Method} {c : Code} {T0 : State} {locs : List Loc} {Z : State} {a0 : Array Value} {h0 : Heap} {n0 : Nat} (i0 : Int32) (X0 : Stand p l e ({ frames := 0, cells := 0, slots := 0, locals := 0 } : Room) s m args below meth c T0 locs 0 0) (hx : p.tables.exec = Jvm.exec) (hZ : Z.Warmed39 s.vm) (hw : ∀ d ∈ tables_1, d.before a0 Z = true) (hby : c.code = prog_133_method_9_code) (hml : c.maxLocals = 1) (hown : s.vm.findClass "com/example/moth/moth/core/value/XmlNames" = some m.cls) (e0 : T0.heap = h0) (N0 : Fr n0 locs) (Z0 : n0 ≤ h0.size) :
    own_Ret p l e ({ frames := 0, cells := 0, slots := 0, locals := 0 } : Room) s m args below meth c h0 n0 0 0 T0 (mkF m 100 #[.val (.int i0)] []) (own_b (f1_100 i0)) := by
  unfold f1_100
  refine own_step (T1 := T0) (g1 := (mkF m 101 #[.val (.int i0)] [(.int i0)])) (fun _ k => XS.iloadN X0.here hx rfl (hb hby d1_100) rfl k) ?_
  refine own_step (T1 := T0) (g1 := (mkF m 104 #[.val (.int i0)] [(.int (8204 : Int32)), (.int i0)])) (fun _ k => XS.sipush X0.here hx rfl (hb hby d1_101) k) ?_
  by_cases hc104 : i0 < (8204 : Int32)
  · rw [if_pos hc104]
    refine own_step (T1 := T0) (g1 := (mkF m 114 #[.val (.int i0)] [])) (fun _ k => XS.icmpYes X0.here hx rfl (pc0 := 104) (pc' := 114) rfl (hb hby d1_104) rfl (tlt hc104).1 (by decide) (by decide) k) ?_
    exact b1_114 i0 X0 hx hZ hw hby hml hown e0 N0 Z0
  · rw [if_neg hc104]
    refine own_step (T1 := T0) (g1 := (mkF m 107 #[.val (.int i0)] [])) (fun _ k => XS.icmpNo X0.here hx rfl (hb hby d1_104) rfl (flt hc104).1 k) ?_
    refine own_step (T1 := T0) (g1 := (mkF m 108 #[.val (.int i0)] [(.int i0)])) (fun _ k => XS.iloadN X0.here hx rfl (hb hby d1_107) rfl k) ?_
    refine own_step (T1 := T0) (g1 := (mkF m 111 #[.val (.int i0)] [(.int (8205 : Int32)), (.int i0)])) (fun _ k => XS.sipush X0.here hx rfl (hb hby d1_108) k) ?_
    by_cases hc111 : (8205 : Int32) < i0
    · rw [if_pos hc111]
      refine own_step (T1 := T0) (g1 := (mkF m 114 #[.val (.int i0)] [])) (fun _ k => XS.icmpNo X0.here hx rfl (hb hby d1_111) rfl (tlt hc111).2.2.2 k) ?_
      exact b1_114 i0 X0 hx hZ hw hby hml hown e0 N0 Z0
    · rw [if_neg hc111]
      refine own_step (T1 := T0) (g1 := (mkF m 191 #[.val (.int i0)] [])) (fun _ k => XS.icmpYes X0.here hx rfl (pc0 := 111) (pc' := 191) rfl (hb hby d1_111) rfl (flt hc111).2.2.2 (by decide) (by decide) k) ?_
      exact b1_191 i0 X0 hx hZ hw hby hml hown e0 N0 Z0
def f1_86 (i0 : Int32) : Bool := (if i0 < (895 : Int32) then (f1_100 i0) else (if (8191 : Int32) < i0 then (f1_100 i0) else (f1_191 i0)))
set_option maxRecDepth 65536 in
set_option maxHeartbeats 4000000 in
theorem b1_86 {p : Program} {l : Launch} {e : Env} {s : State} {m : MethodId} {args : Array Value} {below : List Frame} {meth : Method} {c : Code} {T0 : State} {locs : List Loc} {Z : State} {a0 : Array Value} {h0 : Heap} {n0 : Nat} (i0 : Int32) (X0 : Stand p l e ({ frames := 0, cells := 0, slots := 0, locals := 0 } : Room) s m args below meth c T0 locs 0 0) (hx : p.tables.exec = Jvm.exec) (hZ : Z.Warmed39 s.vm) (hw : ∀ d ∈ tables_1, d.before a0 Z = true) (hby : c.code = prog_133_method_9_code) (hml : c.maxLocals = 1) (hown : s.vm.findClass "com/example/moth/moth/core/value/XmlNames" = some m.cls) (e0 : T0.heap = h0) (N0 : Fr n0 locs) (Z0 : n0 ≤ h0.size) :
    own_Ret p l e ({ frames := 0, cells := 0, slots := 0, locals := 0 } : Room) s m args below meth c h0 n0 0 0 T0 (mkF m 86 #[.val (.int i0)] []) (own_b (f1_86 i0)) := by
  unfold f1_86
  refine own_step (T1 := T0) (g1 := (mkF m 87 #[.val (.int i0)] [(.int i0)])) (fun _ k => XS.iloadN X0.here hx rfl (hb hby d1_86) rfl k) ?_
  refine own_step (T1 := T0) (g1 := (mkF m 90 #[.val (.int i0)] [(.int (895 : Int32)), (.int i0)])) (fun _ k => XS.sipush X0.here hx rfl (hb hby d1_87) k) ?_
  by_cases hc90 : i0 < (895 : Int32)
  · rw [if_pos hc90]
    refine own_step (T1 := T0) (g1 := (mkF m 100 #[.val (.int i0)] [])) (fun _ k => XS.icmpYes X0.here hx rfl (pc0 := 90) (pc' := 100) rfl (hb hby d1_90) rfl (tlt hc90).1 (by decide) (by decide) k) ?_
    exact b1_100 i0 X0 hx hZ hw hby hml hown e0 N0 Z0
  · rw [if_neg hc90]
    refine own_step (T1 := T0) (g1 := (mkF m 93 #[.val (.int i0)] [])) (fun _ k => XS.icmpNo X0.here hx rfl (hb hby d1_90) rfl (flt hc90).1 k) ?_
    refine own_step (T1 := T0) (g1 := (mkF m 94 #[.val (.int i0)] [(.int i0)])) (fun _ k => XS.iloadN X0.here hx rfl (hb hby d1_93) rfl k) ?_
    refine own_step (T1 := T0) (g1 := (mkF m 97 #[.val (.int i0)] [(.int (8191 : Int32)), (.int i0)])) (fun _ k => XS.sipush X0.here hx rfl (hb hby d1_94) k) ?_
    by_cases hc97 : (8191 : Int32) < i0
    · rw [if_pos hc97]
      refine own_step (T1 := T0) (g1 := (mkF m 100 #[.val (.int i0)] [])) (fun _ k => XS.icmpNo X0.here hx rfl (hb hby d1_97) rfl (tlt hc97).2.2.2 k) ?_
      exact b1_100 i0 X0 hx hZ hw hby hml hown e0 N0 Z0
    · rw [if_neg hc97]
      refine own_step (T1 := T0) (g1 := (mkF m 191 #[.val (.int i0)] [])) (fun _ k => XS.icmpYes X0.here hx rfl (pc0 := 97) (pc' := 191) rfl (hb hby d1_97) rfl (flt hc97).2.2.2 (by decide) (by decide) k) ?_
      exact b1_191 i0 X0 hx hZ hw hby hml hown e0 N0 Z0
def f1_72 (i0 : Int32) : Bool := (if i0 < (880 : Int32) then (f1_86 i0) else (if (893 : Int32) < i0 then (f1_86 i0) else (f1_191 i0)))
set_option maxRecDepth 65536 in
set_option maxHeartbeats 4000000 in
theorem b1_72 {p : Program} {l : Launch} {e : Env} {s : State} {m : MethodId} {args : Array Value} {below : List Frame} {meth : Method} {c : Code} {T0 : State} {locs : List Loc} {Z : State} {a0 : Array Value} {h0 : Heap} {n0 : Nat} (i0 : Int32) (X0 : Stand p l e ({ frames := 0, cells := 0, slots := 0, locals := 0 } : Room) s m args below meth c T0 locs 0 0) (hx : p.tables.exec = Jvm.exec) (hZ : Z.Warmed39 s.vm) (hw : ∀ d ∈ tables_1, d.before a0 Z = true) (hby : c.code = prog_133_method_9_code) (hml : c.maxLocals = 1) (hown : s.vm.findClass "com/example/moth/moth/core/value/XmlNames" = some m.cls) (e0 : T0.heap = h0) (N0 : Fr n0 locs) (Z0 : n0 ≤ h0.size) :
    own_Ret p l e ({ frames := 0, cells := 0, slots := 0, locals := 0 } : Room) s m args below meth c h0 n0 0 0 T0 (mkF m 72 #[.val (.int i0)] []) (own_b (f1_72 i0)) := by
  unfold f1_72
  refine own_step (T1 := T0) (g1 := (mkF m 73 #[.val (.int i0)] [(.int i0)])) (fun _ k => XS.iloadN X0.here hx rfl (hb hby d1_72) rfl k) ?_
  refine own_step (T1 := T0) (g1 := (mkF m 76 #[.val (.int i0)] [(.int (880 : Int32)), (.int i0)])) (fun _ k => XS.sipush X0.here hx rfl (hb hby d1_73) k) ?_
  by_cases hc76 : i0 < (880 : Int32)
  · rw [if_pos hc76]
    refine own_step (T1 := T0) (g1 := (mkF m 86 #[.val (.int i0)] [])) (fun _ k => XS.icmpYes X0.here hx rfl (pc0 := 76) (pc' := 86) rfl (hb hby d1_76) rfl (tlt hc76).1 (by decide) (by decide) k) ?_
    exact b1_86 i0 X0 hx hZ hw hby hml hown e0 N0 Z0
  · rw [if_neg hc76]
    refine own_step (T1 := T0) (g1 := (mkF m 79 #[.val (.int i0)] [])) (fun _ k => XS.icmpNo X0.here hx rfl (hb hby d1_76) rfl (flt hc76).1 k) ?_
    refine own_step (T1 := T0) (g1 := (mkF m 80 #[.val (.int i0)] [(.int i0)])) (fun _ k => XS.iloadN X0.here hx rfl (hb hby d1_79) rfl k) ?_
    refine own_step (T1 := T0) (g1 := (mkF m 83 #[.val (.int i0)] [(.int (893 : Int32)), (.int i0)])) (fun _ k => XS.sipush X0.here hx rfl (hb hby d1_80) k) ?_
    by_cases hc83 : (893 : Int32) < i0
    · rw [if_pos hc83]
      refine own_step (T1 := T0) (g1 := (mkF m 86 #[.val (.int i0)] [])) (fun _ k => XS.icmpNo X0.here hx rfl (hb hby d1_83) rfl (tlt hc83).2.2.2 k) ?_
      exact b1_86 i0 X0 hx hZ hw hby hml hown e0 N0 Z0
    · rw [if_neg hc83]
      refine own_step (T1 := T0) (g1 := (mkF m 191 #[.val (.int i0)] [])) (fun _ k => XS.icmpYes X0.here hx rfl (pc0 := 83) (pc' := 191) rfl (hb hby d1_83) rfl (flt hc83).2.2.2 (by decide) (by decide) k) ?_
      exact b1_191 i0 X0 hx hZ hw hby hml hown e0 N0 Z0
def f1_58 (i0 : Int32) : Bool := (if i0 < (248 : Int32) then (f1_72 i0) else (if (767 : Int32) < i0 then (f1_72 i0) else (f1_191 i0)))
set_option maxRecDepth 65536 in
set_option maxHeartbeats 4000000 in
theorem b1_58 {p : Program} {l : Launch} {e : Env} {s : State} {m : MethodId} {args : Array Value} {below : List Frame} {meth : Method} {c : Code} {T0 : State} {locs : List Loc} {Z : State} {a0 : Array Value} {h0 : Heap} {n0 : Nat} (i0 : Int32) (X0 : Stand p l e ({ frames := 0, cells := 0, slots := 0, locals := 0 } : Room) s m args below meth c T0 locs 0 0) (hx : p.tables.exec = Jvm.exec) (hZ : Z.Warmed39 s.vm) (hw : ∀ d ∈ tables_1, d.before a0 Z = true) (hby : c.code = prog_133_method_9_code) (hml : c.maxLocals = 1) (hown : s.vm.findClass "com/example/moth/moth/core/value/XmlNames" = some m.cls) (e0 : T0.heap = h0) (N0 : Fr n0 locs) (Z0 : n0 ≤ h0.size) :
    own_Ret p l e ({ frames := 0, cells := 0, slots := 0, locals := 0 } : Room) s m args below meth c h0 n0 0 0 T0 (mkF m 58 #[.val (.int i0)] []) (own_b (f1_58 i0)) := by
  unfold f1_58
  refine own_step (T1 := T0) (g1 := (mkF m 59 #[.val (.int i0)] [(.int i0)])) (fun _ k => XS.iloadN X0.here hx rfl (hb hby d1_58) rfl k) ?_
  refine own_step (T1 := T0) (g1 := (mkF m 62 #[.val (.int i0)] [(.int (248 : Int32)), (.int i0)])) (fun _ k => XS.sipush X0.here hx rfl (hb hby d1_59) k) ?_
  by_cases hc62 : i0 < (248 : Int32)
  · rw [if_pos hc62]
    refine own_step (T1 := T0) (g1 := (mkF m 72 #[.val (.int i0)] [])) (fun _ k => XS.icmpYes X0.here hx rfl (pc0 := 62) (pc' := 72) rfl (hb hby d1_62) rfl (tlt hc62).1 (by decide) (by decide) k) ?_
    exact b1_72 i0 X0 hx hZ hw hby hml hown e0 N0 Z0
  · rw [if_neg hc62]
    refine own_step (T1 := T0) (g1 := (mkF m 65 #[.val (.int i0)] [])) (fun _ k => XS.icmpNo X0.here hx rfl (hb hby d1_62) rfl (flt hc62).1 k) ?_
    refine own_step (T1 := T0) (g1 := (mkF m 66 #[.val (.int i0)] [(.int i0)])) (fun _ k => XS.iloadN X0.here hx rfl (hb hby d1_65) rfl k) ?_
    refine own_step (T1 := T0) (g1 := (mkF m 69 #[.val (.int i0)] [(.int (767 : Int32)), (.int i0)])) (fun _ k => XS.sipush X0.here hx rfl (hb hby d1_66) k) ?_
    by_cases hc69 : (767 : Int32) < i0
    · rw [if_pos hc69]
      refine own_step (T1 := T0) (g1 := (mkF m 72 #[.val (.int i0)] [])) (fun _ k => XS.icmpNo X0.here hx rfl (hb hby d1_69) rfl (tlt hc69).2.2.2 k) ?_
      exact b1_72 i0 X0 hx hZ hw hby hml hown e0 N0 Z0
    · rw [if_neg hc69]
      refine own_step (T1 := T0) (g1 := (mkF m 191 #[.val (.int i0)] [])) (fun _ k => XS.icmpYes X0.here hx rfl (pc0 := 69) (pc' := 191) rfl (hb hby d1_69) rfl (flt hc69).2.2.2 (by decide) (by decide) k) ?_
      exact b1_191 i0 X0 hx hZ hw hby hml hown e0 N0 Z0
def f1_44 (i0 : Int32) : Bool := (if i0 < (216 : Int32) then (f1_58 i0) else (if (246 : Int32) < i0 then (f1_58 i0) else (f1_191 i0)))
set_option maxRecDepth 65536 in
set_option maxHeartbeats 4000000 in
theorem b1_44 {p : Program} {l : Launch} {e : Env} {s : State} {m : MethodId} {args : Array Value} {below : List Frame} {meth : Method} {c : Code} {T0 : State} {locs : List Loc} {Z : State} {a0 : Array Value} {h0 : Heap} {n0 : Nat} (i0 : Int32) (X0 : Stand p l e ({ frames := 0, cells := 0, slots := 0, locals := 0 } : Room) s m args below meth c T0 locs 0 0) (hx : p.tables.exec = Jvm.exec) (hZ : Z.Warmed39 s.vm) (hw : ∀ d ∈ tables_1, d.before a0 Z = true) (hby : c.code = prog_133_method_9_code) (hml : c.maxLocals = 1) (hown : s.vm.findClass "com/example/moth/moth/core/value/XmlNames" = some m.cls) (e0 : T0.heap = h0) (N0 : Fr n0 locs) (Z0 : n0 ≤ h0.size) :
    own_Ret p l e ({ frames := 0, cells := 0, slots := 0, locals := 0 } : Room) s m args below meth c h0 n0 0 0 T0 (mkF m 44 #[.val (.int i0)] []) (own_b (f1_44 i0)) := by
  unfold f1_44
  refine own_step (T1 := T0) (g1 := (mkF m 45 #[.val (.int i0)] [(.int i0)])) (fun _ k => XS.iloadN X0.here hx rfl (hb hby d1_44) rfl k) ?_
  refine own_step (T1 := T0) (g1 := (mkF m 48 #[.val (.int i0)] [(.int (216 : Int32)), (.int i0)])) (fun _ k => XS.sipush X0.here hx rfl (hb hby d1_45) k) ?_
  by_cases hc48 : i0 < (216 : Int32)
  · rw [if_pos hc48]
    refine own_step (T1 := T0) (g1 := (mkF m 58 #[.val (.int i0)] [])) (fun _ k => XS.icmpYes X0.here hx rfl (pc0 := 48) (pc' := 58) rfl (hb hby d1_48) rfl (tlt hc48).1 (by decide) (by decide) k) ?_
    exact b1_58 i0 X0 hx hZ hw hby hml hown e0 N0 Z0
  · rw [if_neg hc48]
    refine own_step (T1 := T0) (g1 := (mkF m 51 #[.val (.int i0)] [])) (fun _ k => XS.icmpNo X0.here hx rfl (hb hby d1_48) rfl (flt hc48).1 k) ?_
    refine own_step (T1 := T0) (g1 := (mkF m 52 #[.val (.int i0)] [(.int i0)])) (fun _ k => XS.iloadN X0.here hx rfl (hb hby d1_51) rfl k) ?_
    refine own_step (T1 := T0) (g1 := (mkF m 55 #[.val (.int i0)] [(.int (246 : Int32)), (.int i0)])) (fun _ k => XS.sipush X0.here hx rfl (hb hby d1_52) k) ?_
    by_cases hc55 : (246 : Int32) < i0
    · rw [if_pos hc55]
      refine own_step (T1 := T0) (g1 := (mkF m 58 #[.val (.int i0)] [])) (fun _ k => XS.icmpNo X0.here hx rfl (hb hby d1_55) rfl (tlt hc55).2.2.2 k) ?_
      exact b1_58 i0 X0 hx hZ hw hby hml hown e0 N0 Z0
    · rw [if_neg hc55]
      refine own_step (T1 := T0) (g1 := (mkF m 191 #[.val (.int i0)] [])) (fun _ k => XS.icmpYes X0.here hx rfl (pc0 := 55) (pc' := 191) rfl (hb hby d1_55) rfl (flt hc55).2.2.2 (by decide) (by decide) k) ?_
      exact b1_191 i0 X0 hx hZ hw hby hml hown e0 N0 Z0
def f1_24 (i0 : Int32) : Bool := (if i0 = (95 : Int32) then (f1_191 i0) else (if i0 < (192 : Int32) then (f1_44 i0) else (if (214 : Int32) < i0 then (f1_44 i0) else (f1_191 i0))))
set_option maxRecDepth 65536 in
set_option maxHeartbeats 4000000 in
theorem b1_24 {p : Program} {l : Launch} {e : Env} {s : State} {m : MethodId} {args : Array Value} {below : List Frame} {meth : Method} {c : Code} {T0 : State} {locs : List Loc} {Z : State} {a0 : Array Value} {h0 : Heap} {n0 : Nat} (i0 : Int32) (X0 : Stand p l e ({ frames := 0, cells := 0, slots := 0, locals := 0 } : Room) s m args below meth c T0 locs 0 0) (hx : p.tables.exec = Jvm.exec) (hZ : Z.Warmed39 s.vm) (hw : ∀ d ∈ tables_1, d.before a0 Z = true) (hby : c.code = prog_133_method_9_code) (hml : c.maxLocals = 1) (hown : s.vm.findClass "com/example/moth/moth/core/value/XmlNames" = some m.cls) (e0 : T0.heap = h0) (N0 : Fr n0 locs) (Z0 : n0 ≤ h0.size) :
    own_Ret p l e ({ frames := 0, cells := 0, slots := 0, locals := 0 } : Room) s m args below meth c h0 n0 0 0 T0 (mkF m 24 #[.val (.int i0)] []) (own_b (f1_24 i0)) := by
  unfold f1_24
  refine own_step (T1 := T0) (g1 := (mkF m 25 #[.val (.int i0)] [(.int i0)])) (fun _ k => XS.iloadN X0.here hx rfl (hb hby d1_24) rfl k) ?_
  refine own_step (T1 := T0) (g1 := (mkF m 27 #[.val (.int i0)] [(.int (95 : Int32)), (.int i0)])) (fun _ k => XS.bipush X0.here hx rfl (hb hby d1_25) k) ?_
  by_cases hc27 : i0 = (95 : Int32)
  · rw [if_pos hc27]
    refine own_step (T1 := T0) (g1 := (mkF m 191 #[.val (.int i0)] [])) (fun _ k => XS.icmpYes X0.here hx rfl (pc0 := 27) (pc' := 191) rfl (hb hby d1_27) rfl (teq hc27).1 (by decide) (by decide) k) ?_
    exact b1_191 i0 X0 hx hZ hw hby hml hown e0 N0 Z0
  · rw [if_neg hc27]
    refine own_step (T1 := T0) (g1 := (mkF m 30 #[.val (.int i0)] [])) (fun _ k => XS.icmpNo X0.here hx rfl (hb hby d1_27) rfl (feq hc27).1 k) ?_
    refine own_step (T1 := T0) (g1 := (mkF m 31 #[.val (.int i0)] [(.int i0)])) (fun _ k => XS.iloadN X0.here hx rfl (hb hby d1_30) rfl k) ?_
    refine own_step (T1 := T0) (g1 := (mkF m 34 #[.val (.int i0)] [(.int (192 : Int32)), (.int i0)])) (fun _ k => XS.sipush X0.here hx rfl (hb hby d1_31) k) ?_
    by_cases hc34 : i0 < (192 : Int32)
    · rw [if_pos hc34]
      refine own_step (T1 := T0) (g1 := (mkF m 44 #[.val (.int i0)] [])) (fun _ k => XS.icmpYes X0.here hx rfl (pc0 := 34) (pc' := 44) rfl (hb hby d1_34) rfl (tlt hc34).1 (by decide) (by decide) k) ?_
      exact b1_44 i0 X0 hx hZ hw hby hml hown e0 N0 Z0
    · rw [if_neg hc34]
      refine own_step (T1 := T0) (g1 := (mkF m 37 #[.val (.int i0)] [])) (fun _ k => XS.icmpNo X0.here hx rfl (hb hby d1_34) rfl (flt hc34).1 k) ?_
      refine own_step (T1 := T0) (g1 := (mkF m 38 #[.val (.int i0)] [(.int i0)])) (fun _ k => XS.iloadN X0.here hx rfl (hb hby d1_37) rfl k) ?_
      refine own_step (T1 := T0) (g1 := (mkF m 41 #[.val (.int i0)] [(.int (214 : Int32)), (.int i0)])) (fun _ k => XS.sipush X0.here hx rfl (hb hby d1_38) k) ?_
      by_cases hc41 : (214 : Int32) < i0
      · rw [if_pos hc41]
        refine own_step (T1 := T0) (g1 := (mkF m 44 #[.val (.int i0)] [])) (fun _ k => XS.icmpNo X0.here hx rfl (hb hby d1_41) rfl (tlt hc41).2.2.2 k) ?_
        exact b1_44 i0 X0 hx hZ hw hby hml hown e0 N0 Z0
      · rw [if_neg hc41]
        refine own_step (T1 := T0) (g1 := (mkF m 191 #[.val (.int i0)] [])) (fun _ k => XS.icmpYes X0.here hx rfl (pc0 := 41) (pc' := 191) rfl (hb hby d1_41) rfl (flt hc41).2.2.2 (by decide) (by decide) k) ?_
        exact b1_191 i0 X0 hx hZ hw hby hml hown e0 N0 Z0
def f1_12 (i0 : Int32) : Bool := (if i0 < (65 : Int32) then (f1_24 i0) else (if (90 : Int32) < i0 then (f1_24 i0) else (f1_191 i0)))
set_option maxRecDepth 65536 in
set_option maxHeartbeats 4000000 in
theorem b1_12 {p : Program} {l : Launch} {e : Env} {s : State} {m : MethodId} {args : Array Value} {below : List Frame} {meth : Method} {c : Code} {T0 : State} {locs : List Loc} {Z : State} {a0 : Array Value} {h0 : Heap} {n0 : Nat} (i0 : Int32) (X0 : Stand p l e ({ frames := 0, cells := 0, slots := 0, locals := 0 } : Room) s m args below meth c T0 locs 0 0) (hx : p.tables.exec = Jvm.exec) (hZ : Z.Warmed39 s.vm) (hw : ∀ d ∈ tables_1, d.before a0 Z = true) (hby : c.code = prog_133_method_9_code) (hml : c.maxLocals = 1) (hown : s.vm.findClass "com/example/moth/moth/core/value/XmlNames" = some m.cls) (e0 : T0.heap = h0) (N0 : Fr n0 locs) (Z0 : n0 ≤ h0.size) :
    own_Ret p l e ({ frames := 0, cells := 0, slots := 0, locals := 0 } : Room) s m args below meth c h0 n0 0 0 T0 (mkF m 12 #[.val (.int i0)] []) (own_b (f1_12 i0)) := by
  unfold f1_12
  refine own_step (T1 := T0) (g1 := (mkF m 13 #[.val (.int i0)] [(.int i0)])) (fun _ k => XS.iloadN X0.here hx rfl (hb hby d1_12) rfl k) ?_
  refine own_step (T1 := T0) (g1 := (mkF m 15 #[.val (.int i0)] [(.int (65 : Int32)), (.int i0)])) (fun _ k => XS.bipush X0.here hx rfl (hb hby d1_13) k) ?_
  by_cases hc15 : i0 < (65 : Int32)
  · rw [if_pos hc15]
    refine own_step (T1 := T0) (g1 := (mkF m 24 #[.val (.int i0)] [])) (fun _ k => XS.icmpYes X0.here hx rfl (pc0 := 15) (pc' := 24) rfl (hb hby d1_15) rfl (tlt hc15).1 (by decide) (by decide) k) ?_
    exact b1_24 i0 X0 hx hZ hw hby hml hown e0 N0 Z0
  · rw [if_neg hc15]
    refine own_step (T1 := T0) (g1 := (mkF m 18 #[.val (.int i0)] [])) (fun _ k => XS.icmpNo X0.here hx rfl (hb hby d1_15) rfl (flt hc15).1 k) ?_
    refine own_step (T1 := T0) (g1 := (mkF m 19 #[.val (.int i0)] [(.int i0)])) (fun _ k => XS.iloadN X0.here hx rfl (hb hby d1_18) rfl k) ?_
    refine own_step (T1 := T0) (g1 := (mkF m 21 #[.val (.int i0)] [(.int (90 : Int32)), (.int i0)])) (fun _ k => XS.bipush X0.here hx rfl (hb hby d1_19) k) ?_
    by_cases hc21 : (90 : Int32) < i0
    · rw [if_pos hc21]
      refine own_step (T1 := T0) (g1 := (mkF m 24 #[.val (.int i0)] [])) (fun _ k => XS.icmpNo X0.here hx rfl (hb hby d1_21) rfl (tlt hc21).2.2.2 k) ?_
      exact b1_24 i0 X0 hx hZ hw hby hml hown e0 N0 Z0
    · rw [if_neg hc21]
      refine own_step (T1 := T0) (g1 := (mkF m 191 #[.val (.int i0)] [])) (fun _ k => XS.icmpYes X0.here hx rfl (pc0 := 21) (pc' := 191) rfl (hb hby d1_21) rfl (flt hc21).2.2.2 (by decide) (by decide) k) ?_
      exact b1_191 i0 X0 hx hZ hw hby hml hown e0 N0 Z0
def f1_0 (i0 : Int32) : Bool := (if i0 < (97 : Int32) then (f1_12 i0) else (if (122 : Int32) < i0 then (f1_12 i0) else (f1_191 i0)))
set_option maxRecDepth 65536 in
set_option maxHeartbeats 4000000 in
theorem b1_0 {p : Program} {l : Launch} {e : Env} {s : State} {m : MethodId} {args : Array Value} {below : List Frame} {meth : Method} {c : Code} {T0 : State} {locs : List Loc} {Z : State} {a0 : Array Value} {h0 : Heap} {n0 : Nat} (i0 : Int32) (X0 : Stand p l e ({ frames := 0, cells := 0, slots := 0, locals := 0 } : Room) s m args below meth c T0 locs 0 0) (hx : p.tables.exec = Jvm.exec) (hZ : Z.Warmed39 s.vm) (hw : ∀ d ∈ tables_1, d.before a0 Z = true) (hby : c.code = prog_133_method_9_code) (hml : c.maxLocals = 1) (hown : s.vm.findClass "com/example/moth/moth/core/value/XmlNames" = some m.cls) (e0 : T0.heap = h0) (N0 : Fr n0 locs) (Z0 : n0 ≤ h0.size) :
    own_Ret p l e ({ frames := 0, cells := 0, slots := 0, locals := 0 } : Room) s m args below meth c h0 n0 0 0 T0 (mkF m 0 #[.val (.int i0)] []) (own_b (f1_0 i0)) := by
  unfold f1_0
  refine own_step (T1 := T0) (g1 := (mkF m 1 #[.val (.int i0)] [(.int i0)])) (fun _ k => XS.iloadN X0.here hx rfl (hb hby d1_0) rfl k) ?_
  refine own_step (T1 := T0) (g1 := (mkF m 3 #[.val (.int i0)] [(.int (97 : Int32)), (.int i0)])) (fun _ k => XS.bipush X0.here hx rfl (hb hby d1_1) k) ?_
  by_cases hc3 : i0 < (97 : Int32)
  · rw [if_pos hc3]
    refine own_step (T1 := T0) (g1 := (mkF m 12 #[.val (.int i0)] [])) (fun _ k => XS.icmpYes X0.here hx rfl (pc0 := 3) (pc' := 12) rfl (hb hby d1_3) rfl (tlt hc3).1 (by decide) (by decide) k) ?_
    exact b1_12 i0 X0 hx hZ hw hby hml hown e0 N0 Z0
  · rw [if_neg hc3]
    refine own_step (T1 := T0) (g1 := (mkF m 6 #[.val (.int i0)] [])) (fun _ k => XS.icmpNo X0.here hx rfl (hb hby d1_3) rfl (flt hc3).1 k) ?_
    refine own_step (T1 := T0) (g1 := (mkF m 7 #[.val (.int i0)] [(.int i0)])) (fun _ k => XS.iloadN X0.here hx rfl (hb hby d1_6) rfl k) ?_
    refine own_step (T1 := T0) (g1 := (mkF m 9 #[.val (.int i0)] [(.int (122 : Int32)), (.int i0)])) (fun _ k => XS.bipush X0.here hx rfl (hb hby d1_7) k) ?_
    by_cases hc9 : (122 : Int32) < i0
    · rw [if_pos hc9]
      refine own_step (T1 := T0) (g1 := (mkF m 12 #[.val (.int i0)] [])) (fun _ k => XS.icmpNo X0.here hx rfl (hb hby d1_9) rfl (tlt hc9).2.2.2 k) ?_
      exact b1_12 i0 X0 hx hZ hw hby hml hown e0 N0 Z0
    · rw [if_neg hc9]
      refine own_step (T1 := T0) (g1 := (mkF m 191 #[.val (.int i0)] [])) (fun _ k => XS.icmpYes X0.here hx rfl (pc0 := 9) (pc' := 191) rfl (hb hby d1_9) rfl (flt hc9).2.2.2 (by decide) (by decide) k) ?_
      exact b1_191 i0 X0 hx hZ hw hby hml hown e0 N0 Z0
theorem pn_1 : plainName "com/example/moth/moth/core/value/XmlNames" = true := by first | (simp [plainName, overriddenIn]; done) | decide +kernel
theorem ef_1 (m : MethodId) (i0 : Int32) : entryFrame m #[(.int i0)] 1 = mkF m 0 #[.val (.int i0)] [] := by first | (simp [entryFrame, mkF, argsToLocals, Value.category]; done) | rfl
set_option maxRecDepth 65536 in
set_option maxHeartbeats 4000000 in
theorem rm1 (l : Launch) (Z : State) (a0 : Array Value) (hw : ∀ d ∈ tables_1, d.before a0 Z = true) (ws : List Jvm.Cond) (i0 : Int32) (h0 : Heap) (n0 : Nat) (Z0 : n0 ≤ h0.size) :
    MetFree l (⟨"com/example/moth/moth/core/value/XmlNames", "isNameStart", "(I)Z"⟩ : MethodName) (head1 (Jvm.Cond.code (⟨"com/example/moth/moth/core/value/XmlNames", "isNameStart", "(I)Z"⟩ : MethodName) prog_133_method_9_code 1 (some .boolean) :: ws) ({ frames := 0, cells := 0, slots := 0, locals := 0 } : Room)) (fun a U => a = #[(.int i0)] ∧ Z.Warmed39 U.vm ∧ U.heap = h0) (fun _ _ _ _ _ => True) (fun _ U o U' => ∃ v L, o = .returned v ∧ own_Q (own_b (f1_0 i0)) h0 n0 v U'.heap L ∧ FrameEnd U o U' L ({ frames := 0, cells := 0, slots := 0, locals := 0 } : Room).cells ({ frames := 0, cells := 0, slots := 0, locals := 0 } : Room).slots) := by
  refine MetFree.of_bodySF (plainFor_of_name pn_1) hisR ?_
  intro p e s m args below meth c s₁ Bd hml0 hP hK
  obtain ⟨rfl, hZ, hh⟩ := hP
  have hx := Bd.exec
  have hby := Bd.bytes
  have hml : c.maxLocals = 1 := hml0
  have hown : s.vm.findClass "com/example/moth/moth/core/value/XmlNames" = some m.cls := findClass_of_methodNamed Bd.named
  have X0 : Stand p l e ({ frames := 0, cells := 0, slots := 0, locals := 0 } : Room) s m #[(.int i0)] below meth c s₁ [] 0 0 := Stand.of_body Bd
  have e0 : s₁.heap = h0 := by rw [← hh, Bd.state]; rfl
  obtain ⟨T', locs', pcr, Ls, X', e', N', hd, st⟩ := b1_0 i0 X0 hx hZ hw hby hml hown e0 (Fr.nil n0) Z0
  obtain ⟨fs, hr, hrun, hended, hW, hsame⟩ := X'.leave (v := some (.int (own_b (f1_0 i0)))) (fun h => by rw [Bd.returns] at h; cases h)
  refine ⟨_, _, castTop (ef_1 m i0) (st _ ?_), hrun, hended, _, _, rfl, ?_, ⟨_, rfl⟩, hW, hsame.mono (by decide) (by decide)⟩
  · exact retN X' hx (t := .boolean) Bd.returns (by simp) hd (by rw [own_nar]; exact hr)
  · exact ⟨rfl, N', e'⟩
theorem d3_0 : decode method_2_code 0 = .ok (.iload_n 0, 1) := by decide +kernel
theorem d3_1 : decode method_2_code 1 = .ok (.iload_n 1, 1) := by decide +kernel
theorem d3_2 : decode method_2_code 2 = .ok (.if_icmp .lt 12, 3) := by decide +kernel
theorem d3_5 : decode method_2_code 5 = .ok (.iload_n 0, 1) := by decide +kernel
theorem d3_6 : decode method_2_code 6 = .ok (.iload_n 2, 1) := by decide +kernel
theorem d3_7 : decode method_2_code 7 = .ok (.if_icmp .gt 7, 3) := by decide +kernel
theorem d3_10 : decode method_2_code 10 = .ok (.iconst 1, 1) := by decide +kernel
theorem d3_11 : decode method_2_code 11 = .ok (.goto 4, 3) := by decide +kernel
theorem d3_14 : decode method_2_code 14 = .ok (.iconst 0, 1) := by decide +kernel
theorem d3_15 : decode method_2_code 15 = .ok (.ireturn, 1) := by decide +kernel
def f3_14 (i0 : Int32) (i1 : Int32) (i2 : Int32) : Bool := false
set_option maxRecDepth 65536 in
set_option maxHeartbeats 4000000 in
theorem b3_14 {p : Program} {l : Launch} {e : Env} {s : State} {m : MethodId} {args : Array Value} {below : List Frame} {meth : Method} {c : Code} {T0 : State} {locs : List Loc} {Z : State} {a0 : Array Value} {h0 : Heap} {n0 : Nat} (i0 : Int32) (i1 : Int32) (i2 : Int32) (X0 : Stand p l e ({ frames := 0, cells := 0, slots := 0, locals := 0 } : Room) s m args below meth c T0 locs 0 0) (hx : p.tables.exec = Jvm.exec) (hZ : Z.Warmed39 s.vm) (hw : ∀ d ∈ tables_1, d.before a0 Z = true) (hby : c.code = method_2_code) (hml : c.maxLocals = 3) (hown : s.vm.findClass "com/example/moth/moth/core/value/XmlNamesIsNameStartPinLaw" = some m.cls) (e0 : T0.heap = h0) (N0 : Fr n0 locs) (Z0 : n0 ≤ h0.size) :
    own_Ret p l e ({ frames := 0, cells := 0, slots := 0, locals := 0 } : Room) s m args below meth c h0 n0 0 0 T0 (mkF m 14 #[.val (.int i0), .val (.int i1), .val (.int i2)] []) (own_b (f3_14 i0 i1 i2)) := by
  unfold f3_14
  refine own_step (T1 := T0) (g1 := (mkF m 15 #[.val (.int i0), .val (.int i1), .val (.int i2)] [(.int (0 : Int32))])) (fun _ k => XS.iconst X0.here hx rfl (hb hby d3_14) k) ?_
  exact ⟨_, _, 15, _, X0, e0, N0, (hb hby d3_15), fun _ k => k⟩
def f3_0 (i0 : Int32) (i1 : Int32) (i2 : Int32) : Bool := (if i0 < i1 then (f3_14 i0 i1 i2) else (if i2 < i0 then (f3_14 i0 i1 i2) else true))
set_option maxRecDepth 65536 in
set_option maxHeartbeats 4000000 in
theorem b3_0 {p : Program} {l : Launch} {e : Env} {s : State} {m : MethodId} {args : Array Value} {below : List Frame} {meth : Method} {c : Code} {T0 : State} {locs : List Loc} {Z : State} {a0 : Array Value} {h0 : Heap} {n0 : Nat} (i0 : Int32) (i1 : Int32) (i2 : Int32) (X0 : Stand p l e ({ frames := 0, cells := 0, slots := 0, locals := 0 } : Room) s m args below meth c T0 locs 0 0) (hx : p.tables.exec = Jvm.exec) (hZ : Z.Warmed39 s.vm) (hw : ∀ d ∈ tables_1, d.before a0 Z = true) (hby : c.code = method_2_code) (hml : c.maxLocals = 3) (hown : s.vm.findClass "com/example/moth/moth/core/value/XmlNamesIsNameStartPinLaw" = some m.cls) (e0 : T0.heap = h0) (N0 : Fr n0 locs) (Z0 : n0 ≤ h0.size) :
    own_Ret p l e ({ frames := 0, cells := 0, slots := 0, locals := 0 } : Room) s m args below meth c h0 n0 0 0 T0 (mkF m 0 #[.val (.int i0), .val (.int i1), .val (.int i2)] []) (own_b (f3_0 i0 i1 i2)) := by
  unfold f3_0
  refine own_step (T1 := T0) (g1 := (mkF m 1 #[.val (.int i0), .val (.int i1), .val (.int i2)] [(.int i0)])) (fun _ k => XS.iloadN X0.here hx rfl (hb hby d3_0) rfl k) ?_
  refine own_step (T1 := T0) (g1 := (mkF m 2 #[.val (.int i0), .val (.int i1), .val (.int i2)] [(.int i1), (.int i0)])) (fun _ k => XS.iloadN X0.here hx rfl (hb hby d3_1) rfl k) ?_
  by_cases hc2 : i0 < i1
  · rw [if_pos hc2]
    refine own_step (T1 := T0) (g1 := (mkF m 14 #[.val (.int i0), .val (.int i1), .val (.int i2)] [])) (fun _ k => XS.icmpYes X0.here hx rfl (pc0 := 2) (pc' := 14) rfl (hb hby d3_2) rfl (tlt hc2).1 (by decide) (by decide) k) ?_
    exact b3_14 i0 i1 i2 X0 hx hZ hw hby hml hown e0 N0 Z0
  · rw [if_neg hc2]
    refine own_step (T1 := T0) (g1 := (mkF m 5 #[.val (.int i0), .val (.int i1), .val (.int i2)] [])) (fun _ k => XS.icmpNo X0.here hx rfl (hb hby d3_2) rfl (flt hc2).1 k) ?_
    refine own_step (T1 := T0) (g1 := (mkF m 6 #[.val (.int i0), .val (.int i1), .val (.int i2)] [(.int i0)])) (fun _ k => XS.iloadN X0.here hx rfl (hb hby d3_5) rfl k) ?_
    refine own_step (T1 := T0) (g1 := (mkF m 7 #[.val (.int i0), .val (.int i1), .val (.int i2)] [(.int i2), (.int i0)])) (fun _ k => XS.iloadN X0.here hx rfl (hb hby d3_6) rfl k) ?_
    by_cases hc7 : i2 < i0
    · rw [if_pos hc7]
      refine own_step (T1 := T0) (g1 := (mkF m 14 #[.val (.int i0), .val (.int i1), .val (.int i2)] [])) (fun _ k => XS.icmpYes X0.here hx rfl (pc0 := 7) (pc' := 14) rfl (hb hby d3_7) rfl (tlt hc7).2.2.1 (by decide) (by decide) k) ?_
      exact b3_14 i0 i1 i2 X0 hx hZ hw hby hml hown e0 N0 Z0
    · rw [if_neg hc7]
      refine own_step (T1 := T0) (g1 := (mkF m 10 #[.val (.int i0), .val (.int i1), .val (.int i2)] [])) (fun _ k => XS.icmpNo X0.here hx rfl (hb hby d3_7) rfl (flt hc7).2.2.1 k) ?_
      refine own_step (T1 := T0) (g1 := (mkF m 11 #[.val (.int i0), .val (.int i1), .val (.int i2)] [(.int (1 : Int32))])) (fun _ k => XS.iconst X0.here hx rfl (hb hby d3_10) k) ?_
      refine own_step (T1 := T0) (g1 := (mkF m 15 #[.val (.int i0), .val (.int i1), .val (.int i2)] [(.int (1 : Int32))])) (fun _ k => XS.goto X0.here hx rfl (pc0 := 11) (pc' := 15) rfl (hb hby d3_11) (by decide) (by decide) k) ?_
      exact ⟨_, _, 15, _, X0, e0, N0, (hb hby d3_15), fun _ k => k⟩
theorem pn_3 : plainName "com/example/moth/moth/core/value/XmlNamesIsNameStartPinLaw" = true := by first | (simp [plainName, overriddenIn]; done) | decide +kernel
theorem ef_3 (m : MethodId) (i0 : Int32) (i1 : Int32) (i2 : Int32) : entryFrame m #[(.int i0), (.int i1), (.int i2)] 3 = mkF m 0 #[.val (.int i0), .val (.int i1), .val (.int i2)] [] := by first | (simp [entryFrame, mkF, argsToLocals, Value.category]; done) | rfl
set_option maxRecDepth 65536 in
set_option maxHeartbeats 4000000 in
theorem rm3 (l : Launch) (Z : State) (a0 : Array Value) (hw : ∀ d ∈ tables_1, d.before a0 Z = true) (ws : List Jvm.Cond) (i0 : Int32) (i1 : Int32) (i2 : Int32) (h0 : Heap) (n0 : Nat) (Z0 : n0 ≤ h0.size) :
    MetFree l (⟨"com/example/moth/moth/core/value/XmlNamesIsNameStartPinLaw", "in", "(III)Z"⟩ : MethodName) (head1 (Jvm.Cond.code (⟨"com/example/moth/moth/core/value/XmlNamesIsNameStartPinLaw", "in", "(III)Z"⟩ : MethodName) method_2_code 3 (some .boolean) :: ws) ({ frames := 0, cells := 0, slots := 0, locals := 0 } : Room)) (fun a U => a = #[(.int i0), (.int i1), (.int i2)] ∧ Z.Warmed39 U.vm ∧ U.heap = h0) (fun _ _ _ _ _ => True) (fun _ U o U' => ∃ v L, o = .returned v ∧ own_Q (own_b (f3_0 i0 i1 i2)) h0 n0 v U'.heap L ∧ FrameEnd U o U' L ({ frames := 0, cells := 0, slots := 0, locals := 0 } : Room).cells ({ frames := 0, cells := 0, slots := 0, locals := 0 } : Room).slots) := by
  refine MetFree.of_bodySF (plainFor_of_name pn_3) hisR ?_
  intro p e s m args below meth c s₁ Bd hml0 hP hK
  obtain ⟨rfl, hZ, hh⟩ := hP
  have hx := Bd.exec
  have hby := Bd.bytes
  have hml : c.maxLocals = 3 := hml0
  have hown : s.vm.findClass "com/example/moth/moth/core/value/XmlNamesIsNameStartPinLaw" = some m.cls := findClass_of_methodNamed Bd.named
  have X0 : Stand p l e ({ frames := 0, cells := 0, slots := 0, locals := 0 } : Room) s m #[(.int i0), (.int i1), (.int i2)] below meth c s₁ [] 0 0 := Stand.of_body Bd
  have e0 : s₁.heap = h0 := by rw [← hh, Bd.state]; rfl
  obtain ⟨T', locs', pcr, Ls, X', e', N', hd, st⟩ := b3_0 i0 i1 i2 X0 hx hZ hw hby hml hown e0 (Fr.nil n0) Z0
  obtain ⟨fs, hr, hrun, hended, hW, hsame⟩ := X'.leave (v := some (.int (own_b (f3_0 i0 i1 i2)))) (fun h => by rw [Bd.returns] at h; cases h)
  refine ⟨_, _, castTop (ef_3 m i0 i1 i2) (st _ ?_), hrun, hended, _, _, rfl, ?_, ⟨_, rfl⟩, hW, hsame.mono (by decide) (by decide)⟩
  · exact retN X' hx (t := .boolean) Bd.returns (by simp) hd (by rw [own_nar]; exact hr)
  · exact ⟨rfl, N', e'⟩
theorem own_pd_III_Z : parseMethodDescriptor "(III)Z" = some ⟨[.int, .int, .int], some .boolean⟩ := by decide +kernel
theorem d2_0 : decode method_3_code 0 = .ok (.iload_n 0, 1) := by decide +kernel
theorem d2_1 : decode method_3_code 1 = .ok (.ifCond .lt 9, 3) := by decide +kernel
theorem d2_4 : decode method_3_code 4 = .ok (.iload_n 0, 1) := by decide +kernel
theorem d2_5 : decode method_3_code 5 = .ok (.ldc 7, 2) := by decide +kernel
theorem d2_7 : decode method_3_code 7 = .ok (.if_icmp .le 5, 3) := by decide +kernel
theorem d2_10 : decode method_3_code 10 = .ok (.iconst 0, 1) := by decide +kernel
theorem d2_11 : decode method_3_code 11 = .ok (.ireturn, 1) := by decide +kernel
theorem d2_12 : decode method_3_code 12 = .ok (.iload_n 0, 1) := by decide +kernel
theorem d2_13 : decode method_3_code 13 = .ok (.iconst 0, 1) := by decide +kernel
theorem d2_14 : decode method_3_code 14 = .ok (.bipush 64, 2) := by decide +kernel
theorem d2_16 : decode method_3_code 16 = .ok (.invokestatic 8, 3) := by decide +kernel
theorem d2_19 : decode method_3_code 19 = .ok (.ifCond .eq 5, 3) := by decide +kernel
theorem d2_22 : decode method_3_code 22 = .ok (.iconst 0, 1) := by decide +kernel
theorem d2_23 : decode method_3_code 23 = .ok (.ireturn, 1) := by decide +kernel
theorem d2_24 : decode method_3_code 24 = .ok (.iload_n 0, 1) := by decide +kernel
theorem d2_25 : decode method_3_code 25 = .ok (.bipush 91, 2) := by decide +kernel
theorem d2_27 : decode method_3_code 27 = .ok (.bipush 94, 2) := by decide +kernel
theorem d2_29 : decode method_3_code 29 = .ok (.invokestatic 8, 3) := by decide +kernel
theorem d2_32 : decode method_3_code 32 = .ok (.ifCond .eq 5, 3) := by decide +kernel
theorem d2_35 : decode method_3_code 35 = .ok (.iconst 0, 1) := by decide +kernel
theorem d2_36 : decode method_3_code 36 = .ok (.ireturn, 1) := by decide +kernel
theorem d2_37 : decode method_3_code 37 = .ok (.iload_n 0, 1) := by decide +kernel
theorem d2_38 : decode method_3_code 38 = .ok (.bipush 96, 2) := by decide +kernel
theorem d2_40 : decode method_3_code 40 = .ok (.if_icmp .ne 5, 3) := by decide +kernel
theorem d2_43 : decode method_3_code 43 = .ok (.iconst 0, 1) := by decide +kernel
theorem d2_44 : decode method_3_code 44 = .ok (.ireturn, 1) := by decide +kernel
theorem d2_45 : decode method_3_code 45 = .ok (.iload_n 0, 1) := by decide +kernel
theorem d2_46 : decode method_3_code 46 = .ok (.bipush 123, 2) := by decide +kernel
theorem d2_48 : decode method_3_code 48 = .ok (.sipush 191, 3) := by decide +kernel
theorem d2_51 : decode method_3_code 51 = .ok (.invokestatic 8, 3) := by decide +kernel
theorem d2_54 : decode method_3_code 54 = .ok (.ifCond .eq 5, 3) := by decide +kernel
theorem d2_57 : decode method_3_code 57 = .ok (.iconst 0, 1) := by decide +kernel
theorem d2_58 : decode method_3_code 58 = .ok (.ireturn, 1) := by decide +kernel
theorem d2_59 : decode method_3_code 59 = .ok (.iload_n 0, 1) := by decide +kernel
theorem d2_60 : decode method_3_code 60 = .ok (.sipush 215, 3) := by decide +kernel
theorem d2_63 : decode method_3_code 63 = .ok (.if_icmp .ne 5, 3) := by decide +kernel
theorem d2_66 : decode method_3_code 66 = .ok (.iconst 0, 1) := by decide +kernel
theorem d2_67 : decode method_3_code 67 = .ok (.ireturn, 1) := by decide +kernel
theorem d2_68 : decode method_3_code 68 = .ok (.iload_n 0, 1) := by decide +kernel
theorem d2_69 : decode method_3_code 69 = .ok (.sipush 247, 3) := by decide +kernel
theorem d2_72 : decode method_3_code 72 = .ok (.if_icmp .ne 5, 3) := by decide +kernel
theorem d2_75 : decode method_3_code 75 = .ok (.iconst 0, 1) := by decide +kernel
theorem d2_76 : decode method_3_code 76 = .ok (.ireturn, 1) := by decide +kernel
theorem d2_77 : decode method_3_code 77 = .ok (.iload_n 0, 1) := by decide +kernel
theorem d2_78 : decode method_3_code 78 = .ok (.sipush 768, 3) := by decide +kernel
theorem d2_81 : decode method_3_code 81 = .ok (.sipush 879, 3) := by decide +kernel
theorem d2_84 : decode method_3_code 84 = .ok (.invokestatic 8, 3) := by decide +kernel
theorem d2_87 : decode method_3_code 87 = .ok (.ifCond .eq 5, 3) := by decide +kernel
theorem d2_90 : decode method_3_code 90 = .ok (.iconst 0, 1) := by decide +kernel
theorem d2_91 : decode method_3_code 91 = .ok (.ireturn, 1) := by decide +kernel
theorem d2_92 : decode method_3_code 92 = .ok (.iload_n 0, 1) := by decide +kernel
theorem d2_93 : decode method_3_code 93 = .ok (.sipush 894, 3) := by decide +kernel
theorem d2_96 : decode method_3_code 96 = .ok (.if_icmp .ne 5, 3) := by decide +kernel
theorem d2_99 : decode method_3_code 99 = .ok (.iconst 0, 1) := by decide +kernel
theorem d2_100 : decode method_3_code 100 = .ok (.ireturn, 1) := by decide +kernel
theorem d2_101 : decode method_3_code 101 = .ok (.iload_n 0, 1) := by decide +kernel
theorem d2_102 : decode method_3_code 102 = .ok (.sipush 8192, 3) := by decide +kernel
theorem d2_105 : decode method_3_code 105 = .ok (.sipush 8203, 3) := by decide +kernel
theorem d2_108 : decode method_3_code 108 = .ok (.invokestatic 8, 3) := by decide +kernel
theorem d2_111 : decode method_3_code 111 = .ok (.ifCond .eq 5, 3) := by decide +kernel
theorem d2_114 : decode method_3_code 114 = .ok (.iconst 0, 1) := by decide +kernel
theorem d2_115 : decode method_3_code 115 = .ok (.ireturn, 1) := by decide +kernel
theorem d2_116 : decode method_3_code 116 = .ok (.iload_n 0, 1) := by decide +kernel
theorem d2_117 : decode method_3_code 117 = .ok (.sipush 8206, 3) := by decide +kernel
theorem d2_120 : decode method_3_code 120 = .ok (.sipush 8303, 3) := by decide +kernel
theorem d2_123 : decode method_3_code 123 = .ok (.invokestatic 8, 3) := by decide +kernel
theorem d2_126 : decode method_3_code 126 = .ok (.ifCond .eq 5, 3) := by decide +kernel
theorem d2_129 : decode method_3_code 129 = .ok (.iconst 0, 1) := by decide +kernel
theorem d2_130 : decode method_3_code 130 = .ok (.ireturn, 1) := by decide +kernel
theorem d2_131 : decode method_3_code 131 = .ok (.iload_n 0, 1) := by decide +kernel
theorem d2_132 : decode method_3_code 132 = .ok (.sipush 8592, 3) := by decide +kernel
theorem d2_135 : decode method_3_code 135 = .ok (.sipush 11263, 3) := by decide +kernel
theorem d2_138 : decode method_3_code 138 = .ok (.invokestatic 8, 3) := by decide +kernel
theorem d2_141 : decode method_3_code 141 = .ok (.ifCond .eq 5, 3) := by decide +kernel
theorem d2_144 : decode method_3_code 144 = .ok (.iconst 0, 1) := by decide +kernel
theorem d2_145 : decode method_3_code 145 = .ok (.ireturn, 1) := by decide +kernel
theorem d2_146 : decode method_3_code 146 = .ok (.iload_n 0, 1) := by decide +kernel
theorem d2_147 : decode method_3_code 147 = .ok (.sipush 12272, 3) := by decide +kernel
theorem d2_150 : decode method_3_code 150 = .ok (.sipush 12288, 3) := by decide +kernel
theorem d2_153 : decode method_3_code 153 = .ok (.invokestatic 8, 3) := by decide +kernel
theorem d2_156 : decode method_3_code 156 = .ok (.ifCond .eq 5, 3) := by decide +kernel
theorem d2_159 : decode method_3_code 159 = .ok (.iconst 0, 1) := by decide +kernel
theorem d2_160 : decode method_3_code 160 = .ok (.ireturn, 1) := by decide +kernel
theorem d2_161 : decode method_3_code 161 = .ok (.iload_n 0, 1) := by decide +kernel
theorem d2_162 : decode method_3_code 162 = .ok (.ldc 14, 2) := by decide +kernel
theorem d2_164 : decode method_3_code 164 = .ok (.ldc 15, 2) := by decide +kernel
theorem d2_166 : decode method_3_code 166 = .ok (.invokestatic 8, 3) := by decide +kernel
theorem d2_169 : decode method_3_code 169 = .ok (.ifCond .eq 5, 3) := by decide +kernel
theorem d2_172 : decode method_3_code 172 = .ok (.iconst 0, 1) := by decide +kernel
theorem d2_173 : decode method_3_code 173 = .ok (.ireturn, 1) := by decide +kernel
theorem d2_174 : decode method_3_code 174 = .ok (.iload_n 0, 1) := by decide +kernel
theorem d2_175 : decode method_3_code 175 = .ok (.ldc 16, 2) := by decide +kernel
theorem d2_177 : decode method_3_code 177 = .ok (.ldc 17, 2) := by decide +kernel
theorem d2_179 : decode method_3_code 179 = .ok (.invokestatic 8, 3) := by decide +kernel
theorem d2_182 : decode method_3_code 182 = .ok (.ifCond .eq 5, 3) := by decide +kernel
theorem d2_185 : decode method_3_code 185 = .ok (.iconst 0, 1) := by decide +kernel
theorem d2_186 : decode method_3_code 186 = .ok (.ireturn, 1) := by decide +kernel
theorem d2_187 : decode method_3_code 187 = .ok (.iload_n 0, 1) := by decide +kernel
theorem d2_188 : decode method_3_code 188 = .ok (.ldc 18, 2) := by decide +kernel
theorem d2_190 : decode method_3_code 190 = .ok (.ldc 19, 2) := by decide +kernel
theorem d2_192 : decode method_3_code 192 = .ok (.invokestatic 8, 3) := by decide +kernel
theorem d2_195 : decode method_3_code 195 = .ok (.ifCond .eq 5, 3) := by decide +kernel
theorem d2_198 : decode method_3_code 198 = .ok (.iconst 0, 1) := by decide +kernel
theorem d2_199 : decode method_3_code 199 = .ok (.ireturn, 1) := by decide +kernel
theorem d2_200 : decode method_3_code 200 = .ok (.iconst 1, 1) := by decide +kernel
theorem d2_201 : decode method_3_code 201 = .ok (.ireturn, 1) := by decide +kernel
def f2_10 (i0 : Int32) : Bool := false
set_option maxRecDepth 65536 in
set_option maxHeartbeats 4000000 in
theorem b2_10 {p : Program} {l : Launch} {e : Env} {s : State} {m : MethodId} {args : Array Value} {below : List Frame} {meth : Method} {c : Code} {T0 : State} {locs : List Loc} {Z : State} {a0 : Array Value} {h0 : Heap} {n0 : Nat} (i0 : Int32) (X0 : Stand p l e ({ frames := 1, cells := 0, slots := 0, locals := 14 } : Room) s m args below meth c T0 locs 0 0) (hx : p.tables.exec = Jvm.exec) (hZ : Z.Warmed39 s.vm) (hw : ∀ d ∈ tables_1, d.before a0 Z = true) (hby : c.code = method_3_code) (hml : c.maxLocals = 1) (hown : s.vm.findClass "com/example/moth/moth/core/value/XmlNamesIsNameStartPinLaw" = some m.cls) (e0 : T0.heap = h0) (N0 : Fr n0 locs) (Z0 : n0 ≤ h0.size) :
    own_Ret p l e ({ frames := 1, cells := 0, slots := 0, locals := 14 } : Room) s m args below meth c h0 n0 0 0 T0 (mkF m 10 #[.val (.int i0)] []) (own_b (f2_10 i0)) := by
  unfold f2_10
  refine own_step (T1 := T0) (g1 := (mkF m 11 #[.val (.int i0)] [(.int (0 : Int32))])) (fun _ k => XS.iconst X0.here hx rfl (hb hby d2_10) k) ?_
  exact ⟨_, _, 11, _, X0, e0, N0, (hb hby d2_11), fun _ k => k⟩
def f2_0 (i0 : Int32) : Bool := (if i0 < (0 : Int32) then (f2_10 i0) else (if (983039 : Int32) < i0 then (f2_10 i0) else (if (f3_0 i0 (0 : Int32) (64 : Int32)) = false then (if (f3_0 i0 (91 : Int32) (94 : Int32)) = false then (if i0 = (96 : Int32) then false else (if (f3_0 i0 (123 : Int32) (191 : Int32)) = false then (if i0 = (215 : Int32) then false else (if i0 = (247 : Int32) then false else (if (f3_0 i0 (768 : Int32) (879 : Int32)) = false then (if i0 = (894 : Int32) then false else (if (f3_0 i0 (8192 : Int32) (8203 : Int32)) = false then (if (f3_0 i0 (8206 : Int32) (8303 : Int32)) = false then (if (f3_0 i0 (8592 : Int32) (11263 : Int32)) = false then (if (f3_0 i0 (12272 : Int32) (12288 : Int32)) = false then (if (f3_0 i0 (55296 : Int32) (63743 : Int32)) = false then (if (f3_0 i0 (64976 : Int32) (65007 : Int32)) = false then (if (f3_0 i0 (65534 : Int32) (65535 : Int32)) = false then true else false) else false) else false) else false) else false) else false) else false)) else false))) else false)) else false) else false)))
set_option maxRecDepth 65536 in
set_option maxHeartbeats 4000000 in
theorem b2_0 {p : Program} {l : Launch} {e : Env} {s : State} {m : MethodId} {args : Array Value} {below : List Frame} {meth : Method} {c : Code} {T0 : State} {locs : List Loc} {Z : State} {a0 : Array Value} {h0 : Heap} {n0 : Nat} (i0 : Int32) (X0 : Stand p l e ({ frames := 1, cells := 0, slots := 0, locals := 14 } : Room) s m args below meth c T0 locs 0 0) (hx : p.tables.exec = Jvm.exec) (hZ : Z.Warmed39 s.vm) (hw : ∀ d ∈ tables_1, d.before a0 Z = true) (hby : c.code = method_3_code) (hml : c.maxLocals = 1) (hown : s.vm.findClass "com/example/moth/moth/core/value/XmlNamesIsNameStartPinLaw" = some m.cls) (e0 : T0.heap = h0) (N0 : Fr n0 locs) (Z0 : n0 ≤ h0.size) :
    own_Ret p l e ({ frames := 1, cells := 0, slots := 0, locals := 14 } : Room) s m args below meth c h0 n0 0 0 T0 (mkF m 0 #[.val (.int i0)] []) (own_b (f2_0 i0)) := by
  unfold f2_0
  refine own_step (T1 := T0) (g1 := (mkF m 1 #[.val (.int i0)] [(.int i0)])) (fun _ k => XS.iloadN X0.here hx rfl (hb hby d2_0) rfl k) ?_
  by_cases hc1 : i0 < (0 : Int32)
  · rw [if_pos hc1]
    refine own_step (T1 := T0) (g1 := (mkF m 10 #[.val (.int i0)] [])) (fun _ k => XS.ifYes X0.here hx rfl (pc0 := 1) (pc' := 10) rfl (hb hby d2_1) rfl ((if0 _ _).trans (tlt hc1).1) (by decide) (by decide) k) ?_
    exact b2_10 i0 X0 hx hZ hw hby hml hown e0 N0 Z0
  · rw [if_neg hc1]
    refine own_step (T1 := T0) (g1 := (mkF m 4 #[.val (.int i0)] [])) (fun _ k => XS.ifNo X0.here hx rfl (hb hby d2_1) rfl ((if0 _ _).trans (flt hc1).1) k) ?_
    refine own_step (T1 := T0) (g1 := (mkF m 5 #[.val (.int i0)] [(.int i0)])) (fun _ k => XS.iloadN X0.here hx rfl (hb hby d2_4) rfl k) ?_
    refine own_step (T1 := T0) (g1 := (mkF m 7 #[.val (.int i0)] [(.int (983039 : Int32)), (.int i0)])) (fun _ k => X0.ldcInt hx hown (mvT hZ (hw _ (List.mem_of_getElem? (i := 7) rfl))) (g := (mkF m 5 #[.val (.int i0)] [(.int i0)])) rfl (hb hby d2_5) _ k) ?_
    by_cases hc7 : (983039 : Int32) < i0
    · rw [if_pos hc7]
      refine own_step (T1 := T0) (g1 := (mkF m 10 #[.val (.int i0)] [])) (fun _ k => XS.icmpNo X0.here hx rfl (hb hby d2_7) rfl (tlt hc7).2.2.2 k) ?_
      exact b2_10 i0 X0 hx hZ hw hby hml hown e0 N0 Z0
    · rw [if_neg hc7]
      refine own_step (T1 := T0) (g1 := (mkF m 12 #[.val (.int i0)] [])) (fun _ k => XS.icmpYes X0.here hx rfl (pc0 := 7) (pc' := 12) rfl (hb hby d2_7) rfl (flt hc7).2.2.2 (by decide) (by decide) k) ?_
      refine own_step (T1 := T0) (g1 := (mkF m 13 #[.val (.int i0)] [(.int i0)])) (fun _ k => XS.iloadN X0.here hx rfl (hb hby d2_12) rfl k) ?_
      refine own_step (T1 := T0) (g1 := (mkF m 14 #[.val (.int i0)] [(.int (0 : Int32)), (.int i0)])) (fun _ k => XS.iconst X0.here hx rfl (hb hby d2_13) k) ?_
      refine own_step (T1 := T0) (g1 := (mkF m 16 #[.val (.int i0)] [(.int (64 : Int32)), (.int (0 : Int32)), (.int i0)])) (fun _ k => XS.bipush X0.here hx rfl (hb hby d2_14) k) ?_
      obtain ⟨_, _, ⟨T1, L1, k1, n1⟩, -, X1, ⟨Lc1, hQ1, l1, y1, z1⟩, st1⟩ := Jvm.LawKit.callS X0 hx (y := (⟨"com/example/moth/moth/core/value/XmlNamesIsNameStartPinLaw", "in", "(III)Z"⟩ : MethodName)) hown (mvT hZ (hw _ (List.mem_of_getElem? (i := 21) rfl))) (mvT hZ (hw _ (List.mem_of_getElem? (i := 22) rfl))) (mvT hZ (hw _ (List.mem_of_getElem? (i := 19) rfl))) (mvT hZ (hw _ (List.mem_of_getElem? (i := 23) rfl))) (by decide) (backOf (W := 0) (rm3 l Z a0 hw [] i0 (0 : Int32) (64 : Int32) h0 n0 Z0) hZ (hw _ (List.mem_of_getElem? (i := 23) rfl)) (hw _ (List.mem_of_getElem? (i := 19) rfl)) (by decide) (by decide)) (g := (mkF m 16 #[.val (.int i0)] [(.int (64 : Int32)), (.int (0 : Int32)), (.int i0)])) rfl (by rw [hml]; rfl) (argsL := [(.int i0), (.int (0 : Int32)), (.int (64 : Int32))]) (rest := []) (lenOf own_pd_III_Z rfl) rfl (by show 2 * 0 + _ ≤ _; exact Nat.le_of_eq rfl) (hb hby d2_16) (fun _ _ => ⟨rfl, e0, (by decide : 0 + 0 ≤ _), (by decide : 0 + 0 ≤ _)⟩)
      dsimp only [Pt.U, Pt.locs, Pt.cells, Pt.slots] at X1 l1 y1 z1 st1 hQ1
      subst l1 y1 z1
      obtain ⟨rfl, N1q, e1⟩ := hQ1
      have N1 := Fr.app N0 N1q
      refine own_step (T1 := T1) (g1 := (mkF m 19 #[.val (.int i0)] [(.int (own_b (f3_0 i0 (0 : Int32) (64 : Int32))))])) (fun t k => st1 t k) ?_
      by_cases hc19 : (f3_0 i0 (0 : Int32) (64 : Int32)) = false
      · rw [if_pos hc19]
        refine own_step (T1 := T1) (g1 := (mkF m 24 #[.val (.int i0)] [])) (fun _ k => XS.ifYes X1.here hx rfl (pc0 := 19) (pc' := 24) rfl (hb hby d2_19) rfl ((if0 _ _).trans (teq (own_b0 hc19)).1) (by decide) (by decide) k) ?_
        refine own_step (T1 := T1) (g1 := (mkF m 25 #[.val (.int i0)] [(.int i0)])) (fun _ k => XS.iloadN X1.here hx rfl (hb hby d2_24) rfl k) ?_
        refine own_step (T1 := T1) (g1 := (mkF m 27 #[.val (.int i0)] [(.int (91 : Int32)), (.int i0)])) (fun _ k => XS.bipush X1.here hx rfl (hb hby d2_25) k) ?_
        refine own_step (T1 := T1) (g1 := (mkF m 29 #[.val (.int i0)] [(.int (94 : Int32)), (.int (91 : Int32)), (.int i0)])) (fun _ k => XS.bipush X1.here hx rfl (hb hby d2_27) k) ?_
        obtain ⟨_, _, ⟨T2, L2, k2, n2⟩, -, X2, ⟨Lc2, hQ2, l2, y2, z2⟩, st2⟩ := Jvm.LawKit.callS X1 hx (y := (⟨"com/example/moth/moth/core/value/XmlNamesIsNameStartPinLaw", "in", "(III)Z"⟩ : MethodName)) hown (mvT hZ (hw _ (List.mem_of_getElem? (i := 21) rfl))) (mvT hZ (hw _ (List.mem_of_getElem? (i := 22) rfl))) (mvT hZ (hw _ (List.mem_of_getElem? (i := 19) rfl))) (mvT hZ (hw _ (List.mem_of_getElem? (i := 23) rfl))) (by decide) (backOf (W := 0) (rm3 l Z a0 hw [] i0 (91 : Int32) (94 : Int32) h0 n0 Z0) hZ (hw _ (List.mem_of_getElem? (i := 23) rfl)) (hw _ (List.mem_of_getElem? (i := 19) rfl)) (by decide) (by decide)) (g := (mkF m 29 #[.val (.int i0)] [(.int (94 : Int32)), (.int (91 : Int32)), (.int i0)])) rfl (by rw [hml]; rfl) (argsL := [(.int i0), (.int (91 : Int32)), (.int (94 : Int32))]) (rest := []) (lenOf own_pd_III_Z rfl) rfl (by show 2 * 0 + _ ≤ _; exact Nat.le_of_eq rfl) (hb hby d2_29) (fun _ _ => ⟨rfl, e1, (by decide : 0 + 0 ≤ _), (by decide : 0 + 0 ≤ _)⟩)
        dsimp only [Pt.U, Pt.locs, Pt.cells, Pt.slots] at X2 l2 y2 z2 st2 hQ2
        subst l2 y2 z2
        obtain ⟨rfl, N2q, e2⟩ := hQ2
        have N2 := Fr.app N1 N2q
        refine own_step (T1 := T2) (g1 := (mkF m 32 #[.val (.int i0)] [(.int (own_b (f3_0 i0 (91 : Int32) (94 : Int32))))])) (fun t k => st2 t k) ?_
        by_cases hc32 : (f3_0 i0 (91 : Int32) (94 : Int32)) = false
        · rw [if_pos hc32]
          refine own_step (T1 := T2) (g1 := (mkF m 37 #[.val (.int i0)] [])) (fun _ k => XS.ifYes X2.here hx rfl (pc0 := 32) (pc' := 37) rfl (hb hby d2_32) rfl ((if0 _ _).trans (teq (own_b0 hc32)).1) (by decide) (by decide) k) ?_
          refine own_step (T1 := T2) (g1 := (mkF m 38 #[.val (.int i0)] [(.int i0)])) (fun _ k => XS.iloadN X2.here hx rfl (hb hby d2_37) rfl k) ?_
          refine own_step (T1 := T2) (g1 := (mkF m 40 #[.val (.int i0)] [(.int (96 : Int32)), (.int i0)])) (fun _ k => XS.bipush X2.here hx rfl (hb hby d2_38) k) ?_
          by_cases hc40 : i0 = (96 : Int32)
          · rw [if_pos hc40]
            refine own_step (T1 := T2) (g1 := (mkF m 43 #[.val (.int i0)] [])) (fun _ k => XS.icmpNo X2.here hx rfl (hb hby d2_40) rfl (teq hc40).2 k) ?_
            refine own_step (T1 := T2) (g1 := (mkF m 44 #[.val (.int i0)] [(.int (0 : Int32))])) (fun _ k => XS.iconst X2.here hx rfl (hb hby d2_43) k) ?_
            exact ⟨_, _, 44, _, X2, e2, N2, (hb hby d2_44), fun _ k => k⟩
          · rw [if_neg hc40]
            refine own_step (T1 := T2) (g1 := (mkF m 45 #[.val (.int i0)] [])) (fun _ k => XS.icmpYes X2.here hx rfl (pc0 := 40) (pc' := 45) rfl (hb hby d2_40) rfl (feq hc40).2 (by decide) (by decide) k) ?_
            refine own_step (T1 := T2) (g1 := (mkF m 46 #[.val (.int i0)] [(.int i0)])) (fun _ k => XS.iloadN X2.here hx rfl (hb hby d2_45) rfl k) ?_
            refine own_step (T1 := T2) (g1 := (mkF m 48 #[.val (.int i0)] [(.int (123 : Int32)), (.int i0)])) (fun _ k => XS.bipush X2.here hx rfl (hb hby d2_46) k) ?_
            refine own_step (T1 := T2) (g1 := (mkF m 51 #[.val (.int i0)] [(.int (191 : Int32)), (.int (123 : Int32)), (.int i0)])) (fun _ k => XS.sipush X2.here hx rfl (hb hby d2_48) k) ?_
            obtain ⟨_, _, ⟨T3, L3, k3, n3⟩, -, X3, ⟨Lc3, hQ3, l3, y3, z3⟩, st3⟩ := Jvm.LawKit.callS X2 hx (y := (⟨"com/example/moth/moth/core/value/XmlNamesIsNameStartPinLaw", "in", "(III)Z"⟩ : MethodName)) hown (mvT hZ (hw _ (List.mem_of_getElem? (i := 21) rfl))) (mvT hZ (hw _ (List.mem_of_getElem? (i := 22) rfl))) (mvT hZ (hw _ (List.mem_of_getElem? (i := 19) rfl))) (mvT hZ (hw _ (List.mem_of_getElem? (i := 23) rfl))) (by decide) (backOf (W := 0) (rm3 l Z a0 hw [] i0 (123 : Int32) (191 : Int32) h0 n0 Z0) hZ (hw _ (List.mem_of_getElem? (i := 23) rfl)) (hw _ (List.mem_of_getElem? (i := 19) rfl)) (by decide) (by decide)) (g := (mkF m 51 #[.val (.int i0)] [(.int (191 : Int32)), (.int (123 : Int32)), (.int i0)])) rfl (by rw [hml]; rfl) (argsL := [(.int i0), (.int (123 : Int32)), (.int (191 : Int32))]) (rest := []) (lenOf own_pd_III_Z rfl) rfl (by show 2 * 0 + _ ≤ _; exact Nat.le_of_eq rfl) (hb hby d2_51) (fun _ _ => ⟨rfl, e2, (by decide : 0 + 0 ≤ _), (by decide : 0 + 0 ≤ _)⟩)
            dsimp only [Pt.U, Pt.locs, Pt.cells, Pt.slots] at X3 l3 y3 z3 st3 hQ3
            subst l3 y3 z3
            obtain ⟨rfl, N3q, e3⟩ := hQ3
            have N3 := Fr.app N2 N3q
            refine own_step (T1 := T3) (g1 := (mkF m 54 #[.val (.int i0)] [(.int (own_b (f3_0 i0 (123 : Int32) (191 : Int32))))])) (fun t k => st3 t k) ?_
            by_cases hc54 : (f3_0 i0 (123 : Int32) (191 : Int32)) = false
            · rw [if_pos hc54]
              refine own_step (T1 := T3) (g1 := (mkF m 59 #[.val (.int i0)] [])) (fun _ k => XS.ifYes X3.here hx rfl (pc0 := 54) (pc' := 59) rfl (hb hby d2_54) rfl ((if0 _ _).trans (teq (own_b0 hc54)).1) (by decide) (by decide) k) ?_
              refine own_step (T1 := T3) (g1 := (mkF m 60 #[.val (.int i0)] [(.int i0)])) (fun _ k => XS.iloadN X3.here hx rfl (hb hby d2_59) rfl k) ?_
              refine own_step (T1 := T3) (g1 := (mkF m 63 #[.val (.int i0)] [(.int (215 : Int32)), (.int i0)])) (fun _ k => XS.sipush X3.here hx rfl (hb hby d2_60) k) ?_
              by_cases hc63 : i0 = (215 : Int32)
              · rw [if_pos hc63]
                refine own_step (T1 := T3) (g1 := (mkF m 66 #[.val (.int i0)] [])) (fun _ k => XS.icmpNo X3.here hx rfl (hb hby d2_63) rfl (teq hc63).2 k) ?_
                refine own_step (T1 := T3) (g1 := (mkF m 67 #[.val (.int i0)] [(.int (0 : Int32))])) (fun _ k => XS.iconst X3.here hx rfl (hb hby d2_66) k) ?_
                exact ⟨_, _, 67, _, X3, e3, N3, (hb hby d2_67), fun _ k => k⟩
              · rw [if_neg hc63]
                refine own_step (T1 := T3) (g1 := (mkF m 68 #[.val (.int i0)] [])) (fun _ k => XS.icmpYes X3.here hx rfl (pc0 := 63) (pc' := 68) rfl (hb hby d2_63) rfl (feq hc63).2 (by decide) (by decide) k) ?_
                refine own_step (T1 := T3) (g1 := (mkF m 69 #[.val (.int i0)] [(.int i0)])) (fun _ k => XS.iloadN X3.here hx rfl (hb hby d2_68) rfl k) ?_
                refine own_step (T1 := T3) (g1 := (mkF m 72 #[.val (.int i0)] [(.int (247 : Int32)), (.int i0)])) (fun _ k => XS.sipush X3.here hx rfl (hb hby d2_69) k) ?_
                by_cases hc72 : i0 = (247 : Int32)
                · rw [if_pos hc72]
                  refine own_step (T1 := T3) (g1 := (mkF m 75 #[.val (.int i0)] [])) (fun _ k => XS.icmpNo X3.here hx rfl (hb hby d2_72) rfl (teq hc72).2 k) ?_
                  refine own_step (T1 := T3) (g1 := (mkF m 76 #[.val (.int i0)] [(.int (0 : Int32))])) (fun _ k => XS.iconst X3.here hx rfl (hb hby d2_75) k) ?_
                  exact ⟨_, _, 76, _, X3, e3, N3, (hb hby d2_76), fun _ k => k⟩
                · rw [if_neg hc72]
                  refine own_step (T1 := T3) (g1 := (mkF m 77 #[.val (.int i0)] [])) (fun _ k => XS.icmpYes X3.here hx rfl (pc0 := 72) (pc' := 77) rfl (hb hby d2_72) rfl (feq hc72).2 (by decide) (by decide) k) ?_
                  refine own_step (T1 := T3) (g1 := (mkF m 78 #[.val (.int i0)] [(.int i0)])) (fun _ k => XS.iloadN X3.here hx rfl (hb hby d2_77) rfl k) ?_
                  refine own_step (T1 := T3) (g1 := (mkF m 81 #[.val (.int i0)] [(.int (768 : Int32)), (.int i0)])) (fun _ k => XS.sipush X3.here hx rfl (hb hby d2_78) k) ?_
                  refine own_step (T1 := T3) (g1 := (mkF m 84 #[.val (.int i0)] [(.int (879 : Int32)), (.int (768 : Int32)), (.int i0)])) (fun _ k => XS.sipush X3.here hx rfl (hb hby d2_81) k) ?_
                  obtain ⟨_, _, ⟨T4, L4, k4, n4⟩, -, X4, ⟨Lc4, hQ4, l4, y4, z4⟩, st4⟩ := Jvm.LawKit.callS X3 hx (y := (⟨"com/example/moth/moth/core/value/XmlNamesIsNameStartPinLaw", "in", "(III)Z"⟩ : MethodName)) hown (mvT hZ (hw _ (List.mem_of_getElem? (i := 21) rfl))) (mvT hZ (hw _ (List.mem_of_getElem? (i := 22) rfl))) (mvT hZ (hw _ (List.mem_of_getElem? (i := 19) rfl))) (mvT hZ (hw _ (List.mem_of_getElem? (i := 23) rfl))) (by decide) (backOf (W := 0) (rm3 l Z a0 hw [] i0 (768 : Int32) (879 : Int32) h0 n0 Z0) hZ (hw _ (List.mem_of_getElem? (i := 23) rfl)) (hw _ (List.mem_of_getElem? (i := 19) rfl)) (by decide) (by decide)) (g := (mkF m 84 #[.val (.int i0)] [(.int (879 : Int32)), (.int (768 : Int32)), (.int i0)])) rfl (by rw [hml]; rfl) (argsL := [(.int i0), (.int (768 : Int32)), (.int (879 : Int32))]) (rest := []) (lenOf own_pd_III_Z rfl) rfl (by show 2 * 0 + _ ≤ _; exact Nat.le_of_eq rfl) (hb hby d2_84) (fun _ _ => ⟨rfl, e3, (by decide : 0 + 0 ≤ _), (by decide : 0 + 0 ≤ _)⟩)
                  dsimp only [Pt.U, Pt.locs, Pt.cells, Pt.slots] at X4 l4 y4 z4 st4 hQ4
                  subst l4 y4 z4
                  obtain ⟨rfl, N4q, e4⟩ := hQ4
                  have N4 := Fr.app N3 N4q
                  refine own_step (T1 := T4) (g1 := (mkF m 87 #[.val (.int i0)] [(.int (own_b (f3_0 i0 (768 : Int32) (879 : Int32))))])) (fun t k => st4 t k) ?_
                  by_cases hc87 : (f3_0 i0 (768 : Int32) (879 : Int32)) = false
                  · rw [if_pos hc87]
                    refine own_step (T1 := T4) (g1 := (mkF m 92 #[.val (.int i0)] [])) (fun _ k => XS.ifYes X4.here hx rfl (pc0 := 87) (pc' := 92) rfl (hb hby d2_87) rfl ((if0 _ _).trans (teq (own_b0 hc87)).1) (by decide) (by decide) k) ?_
                    refine own_step (T1 := T4) (g1 := (mkF m 93 #[.val (.int i0)] [(.int i0)])) (fun _ k => XS.iloadN X4.here hx rfl (hb hby d2_92) rfl k) ?_
                    refine own_step (T1 := T4) (g1 := (mkF m 96 #[.val (.int i0)] [(.int (894 : Int32)), (.int i0)])) (fun _ k => XS.sipush X4.here hx rfl (hb hby d2_93) k) ?_
                    by_cases hc96 : i0 = (894 : Int32)
                    · rw [if_pos hc96]
                      refine own_step (T1 := T4) (g1 := (mkF m 99 #[.val (.int i0)] [])) (fun _ k => XS.icmpNo X4.here hx rfl (hb hby d2_96) rfl (teq hc96).2 k) ?_
                      refine own_step (T1 := T4) (g1 := (mkF m 100 #[.val (.int i0)] [(.int (0 : Int32))])) (fun _ k => XS.iconst X4.here hx rfl (hb hby d2_99) k) ?_
                      exact ⟨_, _, 100, _, X4, e4, N4, (hb hby d2_100), fun _ k => k⟩
                    · rw [if_neg hc96]
                      refine own_step (T1 := T4) (g1 := (mkF m 101 #[.val (.int i0)] [])) (fun _ k => XS.icmpYes X4.here hx rfl (pc0 := 96) (pc' := 101) rfl (hb hby d2_96) rfl (feq hc96).2 (by decide) (by decide) k) ?_
                      refine own_step (T1 := T4) (g1 := (mkF m 102 #[.val (.int i0)] [(.int i0)])) (fun _ k => XS.iloadN X4.here hx rfl (hb hby d2_101) rfl k) ?_
                      refine own_step (T1 := T4) (g1 := (mkF m 105 #[.val (.int i0)] [(.int (8192 : Int32)), (.int i0)])) (fun _ k => XS.sipush X4.here hx rfl (hb hby d2_102) k) ?_
                      refine own_step (T1 := T4) (g1 := (mkF m 108 #[.val (.int i0)] [(.int (8203 : Int32)), (.int (8192 : Int32)), (.int i0)])) (fun _ k => XS.sipush X4.here hx rfl (hb hby d2_105) k) ?_
                      obtain ⟨_, _, ⟨T5, L5, k5, n5⟩, -, X5, ⟨Lc5, hQ5, l5, y5, z5⟩, st5⟩ := Jvm.LawKit.callS X4 hx (y := (⟨"com/example/moth/moth/core/value/XmlNamesIsNameStartPinLaw", "in", "(III)Z"⟩ : MethodName)) hown (mvT hZ (hw _ (List.mem_of_getElem? (i := 21) rfl))) (mvT hZ (hw _ (List.mem_of_getElem? (i := 22) rfl))) (mvT hZ (hw _ (List.mem_of_getElem? (i := 19) rfl))) (mvT hZ (hw _ (List.mem_of_getElem? (i := 23) rfl))) (by decide) (backOf (W := 0) (rm3 l Z a0 hw [] i0 (8192 : Int32) (8203 : Int32) h0 n0 Z0) hZ (hw _ (List.mem_of_getElem? (i := 23) rfl)) (hw _ (List.mem_of_getElem? (i := 19) rfl)) (by decide) (by decide)) (g := (mkF m 108 #[.val (.int i0)] [(.int (8203 : Int32)), (.int (8192 : Int32)), (.int i0)])) rfl (by rw [hml]; rfl) (argsL := [(.int i0), (.int (8192 : Int32)), (.int (8203 : Int32))]) (rest := []) (lenOf own_pd_III_Z rfl) rfl (by show 2 * 0 + _ ≤ _; exact Nat.le_of_eq rfl) (hb hby d2_108) (fun _ _ => ⟨rfl, e4, (by decide : 0 + 0 ≤ _), (by decide : 0 + 0 ≤ _)⟩)
                      dsimp only [Pt.U, Pt.locs, Pt.cells, Pt.slots] at X5 l5 y5 z5 st5 hQ5
                      subst l5 y5 z5
                      obtain ⟨rfl, N5q, e5⟩ := hQ5
                      have N5 := Fr.app N4 N5q
                      refine own_step (T1 := T5) (g1 := (mkF m 111 #[.val (.int i0)] [(.int (own_b (f3_0 i0 (8192 : Int32) (8203 : Int32))))])) (fun t k => st5 t k) ?_
                      by_cases hc111 : (f3_0 i0 (8192 : Int32) (8203 : Int32)) = false
                      · rw [if_pos hc111]
                        refine own_step (T1 := T5) (g1 := (mkF m 116 #[.val (.int i0)] [])) (fun _ k => XS.ifYes X5.here hx rfl (pc0 := 111) (pc' := 116) rfl (hb hby d2_111) rfl ((if0 _ _).trans (teq (own_b0 hc111)).1) (by decide) (by decide) k) ?_
                        refine own_step (T1 := T5) (g1 := (mkF m 117 #[.val (.int i0)] [(.int i0)])) (fun _ k => XS.iloadN X5.here hx rfl (hb hby d2_116) rfl k) ?_
                        refine own_step (T1 := T5) (g1 := (mkF m 120 #[.val (.int i0)] [(.int (8206 : Int32)), (.int i0)])) (fun _ k => XS.sipush X5.here hx rfl (hb hby d2_117) k) ?_
                        refine own_step (T1 := T5) (g1 := (mkF m 123 #[.val (.int i0)] [(.int (8303 : Int32)), (.int (8206 : Int32)), (.int i0)])) (fun _ k => XS.sipush X5.here hx rfl (hb hby d2_120) k) ?_
                        obtain ⟨_, _, ⟨T6, L6, k6, n6⟩, -, X6, ⟨Lc6, hQ6, l6, y6, z6⟩, st6⟩ := Jvm.LawKit.callS X5 hx (y := (⟨"com/example/moth/moth/core/value/XmlNamesIsNameStartPinLaw", "in", "(III)Z"⟩ : MethodName)) hown (mvT hZ (hw _ (List.mem_of_getElem? (i := 21) rfl))) (mvT hZ (hw _ (List.mem_of_getElem? (i := 22) rfl))) (mvT hZ (hw _ (List.mem_of_getElem? (i := 19) rfl))) (mvT hZ (hw _ (List.mem_of_getElem? (i := 23) rfl))) (by decide) (backOf (W := 0) (rm3 l Z a0 hw [] i0 (8206 : Int32) (8303 : Int32) h0 n0 Z0) hZ (hw _ (List.mem_of_getElem? (i := 23) rfl)) (hw _ (List.mem_of_getElem? (i := 19) rfl)) (by decide) (by decide)) (g := (mkF m 123 #[.val (.int i0)] [(.int (8303 : Int32)), (.int (8206 : Int32)), (.int i0)])) rfl (by rw [hml]; rfl) (argsL := [(.int i0), (.int (8206 : Int32)), (.int (8303 : Int32))]) (rest := []) (lenOf own_pd_III_Z rfl) rfl (by show 2 * 0 + _ ≤ _; exact Nat.le_of_eq rfl) (hb hby d2_123) (fun _ _ => ⟨rfl, e5, (by decide : 0 + 0 ≤ _), (by decide : 0 + 0 ≤ _)⟩)
                        dsimp only [Pt.U, Pt.locs, Pt.cells, Pt.slots] at X6 l6 y6 z6 st6 hQ6
                        subst l6 y6 z6
                        obtain ⟨rfl, N6q, e6⟩ := hQ6
                        have N6 := Fr.app N5 N6q
                        refine own_step (T1 := T6) (g1 := (mkF m 126 #[.val (.int i0)] [(.int (own_b (f3_0 i0 (8206 : Int32) (8303 : Int32))))])) (fun t k => st6 t k) ?_
                        by_cases hc126 : (f3_0 i0 (8206 : Int32) (8303 : Int32)) = false
                        · rw [if_pos hc126]
                          refine own_step (T1 := T6) (g1 := (mkF m 131 #[.val (.int i0)] [])) (fun _ k => XS.ifYes X6.here hx rfl (pc0 := 126) (pc' := 131) rfl (hb hby d2_126) rfl ((if0 _ _).trans (teq (own_b0 hc126)).1) (by decide) (by decide) k) ?_
                          refine own_step (T1 := T6) (g1 := (mkF m 132 #[.val (.int i0)] [(.int i0)])) (fun _ k => XS.iloadN X6.here hx rfl (hb hby d2_131) rfl k) ?_
                          refine own_step (T1 := T6) (g1 := (mkF m 135 #[.val (.int i0)] [(.int (8592 : Int32)), (.int i0)])) (fun _ k => XS.sipush X6.here hx rfl (hb hby d2_132) k) ?_
                          refine own_step (T1 := T6) (g1 := (mkF m 138 #[.val (.int i0)] [(.int (11263 : Int32)), (.int (8592 : Int32)), (.int i0)])) (fun _ k => XS.sipush X6.here hx rfl (hb hby d2_135) k) ?_
                          obtain ⟨_, _, ⟨T7, L7, k7, n7⟩, -, X7, ⟨Lc7, hQ7, l7, y7, z7⟩, st7⟩ := Jvm.LawKit.callS X6 hx (y := (⟨"com/example/moth/moth/core/value/XmlNamesIsNameStartPinLaw", "in", "(III)Z"⟩ : MethodName)) hown (mvT hZ (hw _ (List.mem_of_getElem? (i := 21) rfl))) (mvT hZ (hw _ (List.mem_of_getElem? (i := 22) rfl))) (mvT hZ (hw _ (List.mem_of_getElem? (i := 19) rfl))) (mvT hZ (hw _ (List.mem_of_getElem? (i := 23) rfl))) (by decide) (backOf (W := 0) (rm3 l Z a0 hw [] i0 (8592 : Int32) (11263 : Int32) h0 n0 Z0) hZ (hw _ (List.mem_of_getElem? (i := 23) rfl)) (hw _ (List.mem_of_getElem? (i := 19) rfl)) (by decide) (by decide)) (g := (mkF m 138 #[.val (.int i0)] [(.int (11263 : Int32)), (.int (8592 : Int32)), (.int i0)])) rfl (by rw [hml]; rfl) (argsL := [(.int i0), (.int (8592 : Int32)), (.int (11263 : Int32))]) (rest := []) (lenOf own_pd_III_Z rfl) rfl (by show 2 * 0 + _ ≤ _; exact Nat.le_of_eq rfl) (hb hby d2_138) (fun _ _ => ⟨rfl, e6, (by decide : 0 + 0 ≤ _), (by decide : 0 + 0 ≤ _)⟩)
                          dsimp only [Pt.U, Pt.locs, Pt.cells, Pt.slots] at X7 l7 y7 z7 st7 hQ7
                          subst l7 y7 z7
                          obtain ⟨rfl, N7q, e7⟩ := hQ7
                          have N7 := Fr.app N6 N7q
                          refine own_step (T1 := T7) (g1 := (mkF m 141 #[.val (.int i0)] [(.int (own_b (f3_0 i0 (8592 : Int32) (11263 : Int32))))])) (fun t k => st7 t k) ?_
                          by_cases hc141 : (f3_0 i0 (8592 : Int32) (11263 : Int32)) = false
                          · rw [if_pos hc141]
                            refine own_step (T1 := T7) (g1 := (mkF m 146 #[.val (.int i0)] [])) (fun _ k => XS.ifYes X7.here hx rfl (pc0 := 141) (pc' := 146) rfl (hb hby d2_141) rfl ((if0 _ _).trans (teq (own_b0 hc141)).1) (by decide) (by decide) k) ?_
                            refine own_step (T1 := T7) (g1 := (mkF m 147 #[.val (.int i0)] [(.int i0)])) (fun _ k => XS.iloadN X7.here hx rfl (hb hby d2_146) rfl k) ?_
                            refine own_step (T1 := T7) (g1 := (mkF m 150 #[.val (.int i0)] [(.int (12272 : Int32)), (.int i0)])) (fun _ k => XS.sipush X7.here hx rfl (hb hby d2_147) k) ?_
                            refine own_step (T1 := T7) (g1 := (mkF m 153 #[.val (.int i0)] [(.int (12288 : Int32)), (.int (12272 : Int32)), (.int i0)])) (fun _ k => XS.sipush X7.here hx rfl (hb hby d2_150) k) ?_
                            obtain ⟨_, _, ⟨T8, L8, k8, n8⟩, -, X8, ⟨Lc8, hQ8, l8, y8, z8⟩, st8⟩ := Jvm.LawKit.callS X7 hx (y := (⟨"com/example/moth/moth/core/value/XmlNamesIsNameStartPinLaw", "in", "(III)Z"⟩ : MethodName)) hown (mvT hZ (hw _ (List.mem_of_getElem? (i := 21) rfl))) (mvT hZ (hw _ (List.mem_of_getElem? (i := 22) rfl))) (mvT hZ (hw _ (List.mem_of_getElem? (i := 19) rfl))) (mvT hZ (hw _ (List.mem_of_getElem? (i := 23) rfl))) (by decide) (backOf (W := 0) (rm3 l Z a0 hw [] i0 (12272 : Int32) (12288 : Int32) h0 n0 Z0) hZ (hw _ (List.mem_of_getElem? (i := 23) rfl)) (hw _ (List.mem_of_getElem? (i := 19) rfl)) (by decide) (by decide)) (g := (mkF m 153 #[.val (.int i0)] [(.int (12288 : Int32)), (.int (12272 : Int32)), (.int i0)])) rfl (by rw [hml]; rfl) (argsL := [(.int i0), (.int (12272 : Int32)), (.int (12288 : Int32))]) (rest := []) (lenOf own_pd_III_Z rfl) rfl (by show 2 * 0 + _ ≤ _; exact Nat.le_of_eq rfl) (hb hby d2_153) (fun _ _ => ⟨rfl, e7, (by decide : 0 + 0 ≤ _), (by decide : 0 + 0 ≤ _)⟩)
                            dsimp only [Pt.U, Pt.locs, Pt.cells, Pt.slots] at X8 l8 y8 z8 st8 hQ8
                            subst l8 y8 z8
                            obtain ⟨rfl, N8q, e8⟩ := hQ8
                            have N8 := Fr.app N7 N8q
                            refine own_step (T1 := T8) (g1 := (mkF m 156 #[.val (.int i0)] [(.int (own_b (f3_0 i0 (12272 : Int32) (12288 : Int32))))])) (fun t k => st8 t k) ?_
                            by_cases hc156 : (f3_0 i0 (12272 : Int32) (12288 : Int32)) = false
                            · rw [if_pos hc156]
                              refine own_step (T1 := T8) (g1 := (mkF m 161 #[.val (.int i0)] [])) (fun _ k => XS.ifYes X8.here hx rfl (pc0 := 156) (pc' := 161) rfl (hb hby d2_156) rfl ((if0 _ _).trans (teq (own_b0 hc156)).1) (by decide) (by decide) k) ?_
                              refine own_step (T1 := T8) (g1 := (mkF m 162 #[.val (.int i0)] [(.int i0)])) (fun _ k => XS.iloadN X8.here hx rfl (hb hby d2_161) rfl k) ?_
                              refine own_step (T1 := T8) (g1 := (mkF m 164 #[.val (.int i0)] [(.int (55296 : Int32)), (.int i0)])) (fun _ k => X8.ldcInt hx hown (mvT hZ (hw _ (List.mem_of_getElem? (i := 24) rfl))) (g := (mkF m 162 #[.val (.int i0)] [(.int i0)])) rfl (hb hby d2_162) _ k) ?_
                              refine own_step (T1 := T8) (g1 := (mkF m 166 #[.val (.int i0)] [(.int (63743 : Int32)), (.int (55296 : Int32)), (.int i0)])) (fun _ k => X8.ldcInt hx hown (mvT hZ (hw _ (List.mem_of_getElem? (i := 25) rfl))) (g := (mkF m 164 #[.val (.int i0)] [(.int (55296 : Int32)), (.int i0)])) rfl (hb hby d2_164) _ k) ?_
                              obtain ⟨_, _, ⟨T9, L9, k9, n9⟩, -, X9, ⟨Lc9, hQ9, l9, y9, z9⟩, st9⟩ := Jvm.LawKit.callS X8 hx (y := (⟨"com/example/moth/moth/core/value/XmlNamesIsNameStartPinLaw", "in", "(III)Z"⟩ : MethodName)) hown (mvT hZ (hw _ (List.mem_of_getElem? (i := 21) rfl))) (mvT hZ (hw _ (List.mem_of_getElem? (i := 22) rfl))) (mvT hZ (hw _ (List.mem_of_getElem? (i := 19) rfl))) (mvT hZ (hw _ (List.mem_of_getElem? (i := 23) rfl))) (by decide) (backOf (W := 0) (rm3 l Z a0 hw [] i0 (55296 : Int32) (63743 : Int32) h0 n0 Z0) hZ (hw _ (List.mem_of_getElem? (i := 23) rfl)) (hw _ (List.mem_of_getElem? (i := 19) rfl)) (by decide) (by decide)) (g := (mkF m 166 #[.val (.int i0)] [(.int (63743 : Int32)), (.int (55296 : Int32)), (.int i0)])) rfl (by rw [hml]; rfl) (argsL := [(.int i0), (.int (55296 : Int32)), (.int (63743 : Int32))]) (rest := []) (lenOf own_pd_III_Z rfl) rfl (by show 2 * 0 + _ ≤ _; exact Nat.le_of_eq rfl) (hb hby d2_166) (fun _ _ => ⟨rfl, e8, (by decide : 0 + 0 ≤ _), (by decide : 0 + 0 ≤ _)⟩)
                              dsimp only [Pt.U, Pt.locs, Pt.cells, Pt.slots] at X9 l9 y9 z9 st9 hQ9
                              subst l9 y9 z9
                              obtain ⟨rfl, N9q, e9⟩ := hQ9
                              have N9 := Fr.app N8 N9q
                              refine own_step (T1 := T9) (g1 := (mkF m 169 #[.val (.int i0)] [(.int (own_b (f3_0 i0 (55296 : Int32) (63743 : Int32))))])) (fun t k => st9 t k) ?_
                              by_cases hc169 : (f3_0 i0 (55296 : Int32) (63743 : Int32)) = false
                              · rw [if_pos hc169]
                                refine own_step (T1 := T9) (g1 := (mkF m 174 #[.val (.int i0)] [])) (fun _ k => XS.ifYes X9.here hx rfl (pc0 := 169) (pc' := 174) rfl (hb hby d2_169) rfl ((if0 _ _).trans (teq (own_b0 hc169)).1) (by decide) (by decide) k) ?_
                                refine own_step (T1 := T9) (g1 := (mkF m 175 #[.val (.int i0)] [(.int i0)])) (fun _ k => XS.iloadN X9.here hx rfl (hb hby d2_174) rfl k) ?_
                                refine own_step (T1 := T9) (g1 := (mkF m 177 #[.val (.int i0)] [(.int (64976 : Int32)), (.int i0)])) (fun _ k => X9.ldcInt hx hown (mvT hZ (hw _ (List.mem_of_getElem? (i := 26) rfl))) (g := (mkF m 175 #[.val (.int i0)] [(.int i0)])) rfl (hb hby d2_175) _ k) ?_
                                refine own_step (T1 := T9) (g1 := (mkF m 179 #[.val (.int i0)] [(.int (65007 : Int32)), (.int (64976 : Int32)), (.int i0)])) (fun _ k => X9.ldcInt hx hown (mvT hZ (hw _ (List.mem_of_getElem? (i := 27) rfl))) (g := (mkF m 177 #[.val (.int i0)] [(.int (64976 : Int32)), (.int i0)])) rfl (hb hby d2_177) _ k) ?_
                                obtain ⟨_, _, ⟨T10, L10, k10, n10⟩, -, X10, ⟨Lc10, hQ10, l10, y10, z10⟩, st10⟩ := Jvm.LawKit.callS X9 hx (y := (⟨"com/example/moth/moth/core/value/XmlNamesIsNameStartPinLaw", "in", "(III)Z"⟩ : MethodName)) hown (mvT hZ (hw _ (List.mem_of_getElem? (i := 21) rfl))) (mvT hZ (hw _ (List.mem_of_getElem? (i := 22) rfl))) (mvT hZ (hw _ (List.mem_of_getElem? (i := 19) rfl))) (mvT hZ (hw _ (List.mem_of_getElem? (i := 23) rfl))) (by decide) (backOf (W := 0) (rm3 l Z a0 hw [] i0 (64976 : Int32) (65007 : Int32) h0 n0 Z0) hZ (hw _ (List.mem_of_getElem? (i := 23) rfl)) (hw _ (List.mem_of_getElem? (i := 19) rfl)) (by decide) (by decide)) (g := (mkF m 179 #[.val (.int i0)] [(.int (65007 : Int32)), (.int (64976 : Int32)), (.int i0)])) rfl (by rw [hml]; rfl) (argsL := [(.int i0), (.int (64976 : Int32)), (.int (65007 : Int32))]) (rest := []) (lenOf own_pd_III_Z rfl) rfl (by show 2 * 0 + _ ≤ _; exact Nat.le_of_eq rfl) (hb hby d2_179) (fun _ _ => ⟨rfl, e9, (by decide : 0 + 0 ≤ _), (by decide : 0 + 0 ≤ _)⟩)
                                dsimp only [Pt.U, Pt.locs, Pt.cells, Pt.slots] at X10 l10 y10 z10 st10 hQ10
                                subst l10 y10 z10
                                obtain ⟨rfl, N10q, e10⟩ := hQ10
                                have N10 := Fr.app N9 N10q
                                refine own_step (T1 := T10) (g1 := (mkF m 182 #[.val (.int i0)] [(.int (own_b (f3_0 i0 (64976 : Int32) (65007 : Int32))))])) (fun t k => st10 t k) ?_
                                by_cases hc182 : (f3_0 i0 (64976 : Int32) (65007 : Int32)) = false
                                · rw [if_pos hc182]
                                  refine own_step (T1 := T10) (g1 := (mkF m 187 #[.val (.int i0)] [])) (fun _ k => XS.ifYes X10.here hx rfl (pc0 := 182) (pc' := 187) rfl (hb hby d2_182) rfl ((if0 _ _).trans (teq (own_b0 hc182)).1) (by decide) (by decide) k) ?_
                                  refine own_step (T1 := T10) (g1 := (mkF m 188 #[.val (.int i0)] [(.int i0)])) (fun _ k => XS.iloadN X10.here hx rfl (hb hby d2_187) rfl k) ?_
                                  refine own_step (T1 := T10) (g1 := (mkF m 190 #[.val (.int i0)] [(.int (65534 : Int32)), (.int i0)])) (fun _ k => X10.ldcInt hx hown (mvT hZ (hw _ (List.mem_of_getElem? (i := 28) rfl))) (g := (mkF m 188 #[.val (.int i0)] [(.int i0)])) rfl (hb hby d2_188) _ k) ?_
                                  refine own_step (T1 := T10) (g1 := (mkF m 192 #[.val (.int i0)] [(.int (65535 : Int32)), (.int (65534 : Int32)), (.int i0)])) (fun _ k => X10.ldcInt hx hown (mvT hZ (hw _ (List.mem_of_getElem? (i := 29) rfl))) (g := (mkF m 190 #[.val (.int i0)] [(.int (65534 : Int32)), (.int i0)])) rfl (hb hby d2_190) _ k) ?_
                                  obtain ⟨_, _, ⟨T11, L11, k11, n11⟩, -, X11, ⟨Lc11, hQ11, l11, y11, z11⟩, st11⟩ := Jvm.LawKit.callS X10 hx (y := (⟨"com/example/moth/moth/core/value/XmlNamesIsNameStartPinLaw", "in", "(III)Z"⟩ : MethodName)) hown (mvT hZ (hw _ (List.mem_of_getElem? (i := 21) rfl))) (mvT hZ (hw _ (List.mem_of_getElem? (i := 22) rfl))) (mvT hZ (hw _ (List.mem_of_getElem? (i := 19) rfl))) (mvT hZ (hw _ (List.mem_of_getElem? (i := 23) rfl))) (by decide) (backOf (W := 0) (rm3 l Z a0 hw [] i0 (65534 : Int32) (65535 : Int32) h0 n0 Z0) hZ (hw _ (List.mem_of_getElem? (i := 23) rfl)) (hw _ (List.mem_of_getElem? (i := 19) rfl)) (by decide) (by decide)) (g := (mkF m 192 #[.val (.int i0)] [(.int (65535 : Int32)), (.int (65534 : Int32)), (.int i0)])) rfl (by rw [hml]; rfl) (argsL := [(.int i0), (.int (65534 : Int32)), (.int (65535 : Int32))]) (rest := []) (lenOf own_pd_III_Z rfl) rfl (by show 2 * 0 + _ ≤ _; exact Nat.le_of_eq rfl) (hb hby d2_192) (fun _ _ => ⟨rfl, e10, (by decide : 0 + 0 ≤ _), (by decide : 0 + 0 ≤ _)⟩)
                                  dsimp only [Pt.U, Pt.locs, Pt.cells, Pt.slots] at X11 l11 y11 z11 st11 hQ11
                                  subst l11 y11 z11
                                  obtain ⟨rfl, N11q, e11⟩ := hQ11
                                  have N11 := Fr.app N10 N11q
                                  refine own_step (T1 := T11) (g1 := (mkF m 195 #[.val (.int i0)] [(.int (own_b (f3_0 i0 (65534 : Int32) (65535 : Int32))))])) (fun t k => st11 t k) ?_
                                  by_cases hc195 : (f3_0 i0 (65534 : Int32) (65535 : Int32)) = false
                                  · rw [if_pos hc195]
                                    refine own_step (T1 := T11) (g1 := (mkF m 200 #[.val (.int i0)] [])) (fun _ k => XS.ifYes X11.here hx rfl (pc0 := 195) (pc' := 200) rfl (hb hby d2_195) rfl ((if0 _ _).trans (teq (own_b0 hc195)).1) (by decide) (by decide) k) ?_
                                    refine own_step (T1 := T11) (g1 := (mkF m 201 #[.val (.int i0)] [(.int (1 : Int32))])) (fun _ k => XS.iconst X11.here hx rfl (hb hby d2_200) k) ?_
                                    exact ⟨_, _, 201, _, X11, e11, N11, (hb hby d2_201), fun _ k => k⟩
                                  · rw [if_neg hc195]
                                    refine own_step (T1 := T11) (g1 := (mkF m 198 #[.val (.int i0)] [])) (fun _ k => XS.ifNo X11.here hx rfl (hb hby d2_195) rfl ((if0 _ _).trans (feq (own_b1 hc195)).1) k) ?_
                                    refine own_step (T1 := T11) (g1 := (mkF m 199 #[.val (.int i0)] [(.int (0 : Int32))])) (fun _ k => XS.iconst X11.here hx rfl (hb hby d2_198) k) ?_
                                    exact ⟨_, _, 199, _, X11, e11, N11, (hb hby d2_199), fun _ k => k⟩
                                · rw [if_neg hc182]
                                  refine own_step (T1 := T10) (g1 := (mkF m 185 #[.val (.int i0)] [])) (fun _ k => XS.ifNo X10.here hx rfl (hb hby d2_182) rfl ((if0 _ _).trans (feq (own_b1 hc182)).1) k) ?_
                                  refine own_step (T1 := T10) (g1 := (mkF m 186 #[.val (.int i0)] [(.int (0 : Int32))])) (fun _ k => XS.iconst X10.here hx rfl (hb hby d2_185) k) ?_
                                  exact ⟨_, _, 186, _, X10, e10, N10, (hb hby d2_186), fun _ k => k⟩
                              · rw [if_neg hc169]
                                refine own_step (T1 := T9) (g1 := (mkF m 172 #[.val (.int i0)] [])) (fun _ k => XS.ifNo X9.here hx rfl (hb hby d2_169) rfl ((if0 _ _).trans (feq (own_b1 hc169)).1) k) ?_
                                refine own_step (T1 := T9) (g1 := (mkF m 173 #[.val (.int i0)] [(.int (0 : Int32))])) (fun _ k => XS.iconst X9.here hx rfl (hb hby d2_172) k) ?_
                                exact ⟨_, _, 173, _, X9, e9, N9, (hb hby d2_173), fun _ k => k⟩
                            · rw [if_neg hc156]
                              refine own_step (T1 := T8) (g1 := (mkF m 159 #[.val (.int i0)] [])) (fun _ k => XS.ifNo X8.here hx rfl (hb hby d2_156) rfl ((if0 _ _).trans (feq (own_b1 hc156)).1) k) ?_
                              refine own_step (T1 := T8) (g1 := (mkF m 160 #[.val (.int i0)] [(.int (0 : Int32))])) (fun _ k => XS.iconst X8.here hx rfl (hb hby d2_159) k) ?_
                              exact ⟨_, _, 160, _, X8, e8, N8, (hb hby d2_160), fun _ k => k⟩
                          · rw [if_neg hc141]
                            refine own_step (T1 := T7) (g1 := (mkF m 144 #[.val (.int i0)] [])) (fun _ k => XS.ifNo X7.here hx rfl (hb hby d2_141) rfl ((if0 _ _).trans (feq (own_b1 hc141)).1) k) ?_
                            refine own_step (T1 := T7) (g1 := (mkF m 145 #[.val (.int i0)] [(.int (0 : Int32))])) (fun _ k => XS.iconst X7.here hx rfl (hb hby d2_144) k) ?_
                            exact ⟨_, _, 145, _, X7, e7, N7, (hb hby d2_145), fun _ k => k⟩
                        · rw [if_neg hc126]
                          refine own_step (T1 := T6) (g1 := (mkF m 129 #[.val (.int i0)] [])) (fun _ k => XS.ifNo X6.here hx rfl (hb hby d2_126) rfl ((if0 _ _).trans (feq (own_b1 hc126)).1) k) ?_
                          refine own_step (T1 := T6) (g1 := (mkF m 130 #[.val (.int i0)] [(.int (0 : Int32))])) (fun _ k => XS.iconst X6.here hx rfl (hb hby d2_129) k) ?_
                          exact ⟨_, _, 130, _, X6, e6, N6, (hb hby d2_130), fun _ k => k⟩
                      · rw [if_neg hc111]
                        refine own_step (T1 := T5) (g1 := (mkF m 114 #[.val (.int i0)] [])) (fun _ k => XS.ifNo X5.here hx rfl (hb hby d2_111) rfl ((if0 _ _).trans (feq (own_b1 hc111)).1) k) ?_
                        refine own_step (T1 := T5) (g1 := (mkF m 115 #[.val (.int i0)] [(.int (0 : Int32))])) (fun _ k => XS.iconst X5.here hx rfl (hb hby d2_114) k) ?_
                        exact ⟨_, _, 115, _, X5, e5, N5, (hb hby d2_115), fun _ k => k⟩
                  · rw [if_neg hc87]
                    refine own_step (T1 := T4) (g1 := (mkF m 90 #[.val (.int i0)] [])) (fun _ k => XS.ifNo X4.here hx rfl (hb hby d2_87) rfl ((if0 _ _).trans (feq (own_b1 hc87)).1) k) ?_
                    refine own_step (T1 := T4) (g1 := (mkF m 91 #[.val (.int i0)] [(.int (0 : Int32))])) (fun _ k => XS.iconst X4.here hx rfl (hb hby d2_90) k) ?_
                    exact ⟨_, _, 91, _, X4, e4, N4, (hb hby d2_91), fun _ k => k⟩
            · rw [if_neg hc54]
              refine own_step (T1 := T3) (g1 := (mkF m 57 #[.val (.int i0)] [])) (fun _ k => XS.ifNo X3.here hx rfl (hb hby d2_54) rfl ((if0 _ _).trans (feq (own_b1 hc54)).1) k) ?_
              refine own_step (T1 := T3) (g1 := (mkF m 58 #[.val (.int i0)] [(.int (0 : Int32))])) (fun _ k => XS.iconst X3.here hx rfl (hb hby d2_57) k) ?_
              exact ⟨_, _, 58, _, X3, e3, N3, (hb hby d2_58), fun _ k => k⟩
        · rw [if_neg hc32]
          refine own_step (T1 := T2) (g1 := (mkF m 35 #[.val (.int i0)] [])) (fun _ k => XS.ifNo X2.here hx rfl (hb hby d2_32) rfl ((if0 _ _).trans (feq (own_b1 hc32)).1) k) ?_
          refine own_step (T1 := T2) (g1 := (mkF m 36 #[.val (.int i0)] [(.int (0 : Int32))])) (fun _ k => XS.iconst X2.here hx rfl (hb hby d2_35) k) ?_
          exact ⟨_, _, 36, _, X2, e2, N2, (hb hby d2_36), fun _ k => k⟩
      · rw [if_neg hc19]
        refine own_step (T1 := T1) (g1 := (mkF m 22 #[.val (.int i0)] [])) (fun _ k => XS.ifNo X1.here hx rfl (hb hby d2_19) rfl ((if0 _ _).trans (feq (own_b1 hc19)).1) k) ?_
        refine own_step (T1 := T1) (g1 := (mkF m 23 #[.val (.int i0)] [(.int (0 : Int32))])) (fun _ k => XS.iconst X1.here hx rfl (hb hby d2_22) k) ?_
        exact ⟨_, _, 23, _, X1, e1, N1, (hb hby d2_23), fun _ k => k⟩
theorem pn_2 : plainName "com/example/moth/moth/core/value/XmlNamesIsNameStartPinLaw" = true := by first | (simp [plainName, overriddenIn]; done) | decide +kernel
theorem ef_2 (m : MethodId) (i0 : Int32) : entryFrame m #[(.int i0)] 1 = mkF m 0 #[.val (.int i0)] [] := by first | (simp [entryFrame, mkF, argsToLocals, Value.category]; done) | rfl
set_option maxRecDepth 65536 in
set_option maxHeartbeats 4000000 in
theorem rm2 (l : Launch) (Z : State) (a0 : Array Value) (hw : ∀ d ∈ tables_1, d.before a0 Z = true) (ws : List Jvm.Cond) (i0 : Int32) (h0 : Heap) (n0 : Nat) (Z0 : n0 ≤ h0.size) :
    MetFree l (⟨"com/example/moth/moth/core/value/XmlNamesIsNameStartPinLaw", "reference", "(I)Z"⟩ : MethodName) (head1 (Jvm.Cond.code (⟨"com/example/moth/moth/core/value/XmlNamesIsNameStartPinLaw", "reference", "(I)Z"⟩ : MethodName) method_3_code 1 (some .boolean) :: ws) ({ frames := 1, cells := 0, slots := 0, locals := 14 } : Room)) (fun a U => a = #[(.int i0)] ∧ Z.Warmed39 U.vm ∧ U.heap = h0) (fun _ _ _ _ _ => True) (fun _ U o U' => ∃ v L, o = .returned v ∧ own_Q (own_b (f2_0 i0)) h0 n0 v U'.heap L ∧ FrameEnd U o U' L ({ frames := 1, cells := 0, slots := 0, locals := 14 } : Room).cells ({ frames := 1, cells := 0, slots := 0, locals := 14 } : Room).slots) := by
  refine MetFree.of_bodySF (plainFor_of_name pn_2) hisR ?_
  intro p e s m args below meth c s₁ Bd hml0 hP hK
  obtain ⟨rfl, hZ, hh⟩ := hP
  have hx := Bd.exec
  have hby := Bd.bytes
  have hml : c.maxLocals = 1 := hml0
  have hown : s.vm.findClass "com/example/moth/moth/core/value/XmlNamesIsNameStartPinLaw" = some m.cls := findClass_of_methodNamed Bd.named
  have X0 : Stand p l e ({ frames := 1, cells := 0, slots := 0, locals := 14 } : Room) s m #[(.int i0)] below meth c s₁ [] 0 0 := Stand.of_body Bd
  have e0 : s₁.heap = h0 := by rw [← hh, Bd.state]; rfl
  obtain ⟨T', locs', pcr, Ls, X', e', N', hd, st⟩ := b2_0 i0 X0 hx hZ hw hby hml hown e0 (Fr.nil n0) Z0
  obtain ⟨fs, hr, hrun, hended, hW, hsame⟩ := X'.leave (v := some (.int (own_b (f2_0 i0)))) (fun h => by rw [Bd.returns] at h; cases h)
  refine ⟨_, _, castTop (ef_2 m i0) (st _ ?_), hrun, hended, _, _, rfl, ?_, ⟨_, rfl⟩, hW, hsame.mono (by decide) (by decide)⟩
  · exact retN X' hx (t := .boolean) Bd.returns (by simp) hd (by rw [own_nar]; exact hr)
  · exact ⟨rfl, N', e'⟩
def own_vals0 : List Int32 := [65, 90, 97, 122, 95, 192, 214, 216, 246, 248, 767, 880, 893, 895, 8191, 8204, 8205, 8304, 8591, 11264, 12271, 12289, 55295, 63744, 64975, 65008, 65533, 65536, 983039, 58, 0, -2147483648, 2147483647]
set_option maxRecDepth 65536 in
set_option maxHeartbeats 40000000 in
theorem ar0 {p : Program} {l : Launch} {e : Env} {s : State} {m : MethodId} {args : Array Value} {below : List Frame} {meth : Method} {c : Code} {T0 : State} {locs : List Loc} {Z : State} {a0 : Array Value} {h0 : Heap} {n0 : Nat} (i0 : Int32) (i1 : Int32) (i2 : Int32) (X0 : Stand p l e room_1 s m args below meth c T0 locs 0 0) (hx : p.tables.exec = Jvm.exec) (hZ : Z.Warmed39 s.vm) (hw : ∀ d ∈ tables_1, d.before a0 Z = true) (hby : c.code = code) (hown : s.vm.findClass "com/example/moth/moth/core/value/XmlNamesIsNameStartPinLaw" = some m.cls) (e0 : T0.heap = h0) (N0 : Fr n0 locs) (Z0 : n0 ≤ h0.size) :
    ∃ (T' : State) (h' : Heap) (b1 : Addr) (k1 : ClassId) (locs' : List Loc), Stand p l e room_1 s m args below meth c T' locs' 1 33 ∧ T'.heap = h' ∧ Keep h0 h' [] ∧ n0 ≤ b1 ∧ Arv Z h' b1 k1 .int (33 : Int32) (own_vals0.map Value.int) (.int 0) ∧ Fr n0 locs' ∧
      ∀ target, Steps p.tables e below (T'.setTop (mkF m 213 #[.val (.int i0), .val (.int i1), .val (.int i2), .val (.ref b1), .unset, .unset, .unset, .unset, .unset] [])) target → Steps p.tables e below (T0.setTop (mkF m 0 #[.val (.int i0), .val (.int i1), .val (.int i2), .unset, .unset, .unset, .unset, .unset, .unset] [])) target := by
  obtain ⟨T1, h1, k1, X1, e1, E1, A1, st1⟩ := newP X0 hx hZ (hw _ (List.mem_of_getElem? (i := 0) rfl)) e0 (g := (mkF m 2 #[.val (.int i0), .val (.int i1), .val (.int i2), .unset, .unset, .unset, .unset, .unset, .unset] [(.int (33 : Int32))])) rfl (hb hby at_2) rfl (by decide) (cap := 33) (by decide) (by decide) (by decide) (by decide)
  obtain ⟨b1, g1⟩ : ∃ z, z = h0.size := ⟨_, rfl⟩
  rw [← g1] at A1 st1
  have gb : n0 ≤ b1 := Nat.le_trans Z0 (Nat.le_of_eq g1.symm)
  have sz : h0.size ≤ b1 := Nat.le_of_eq g1.symm
  have K1 : Keep h0 h1 [] := (Keep.refl h0 []).ext E1
  have V1 : Arv Z h1 b1 k1 .int (33 : Int32) (([] : List Int32).map Value.int) (.int 0) := Arv.new A1 (by decide)
  have N1 := N0
  obtain ⟨T2, h2, L2, X2, e2, V2, N2, K2, st2⟩ := own_putI X1 hx hZ e1 V1 N1 gb K1 sz (0 : Int32) (65 : Int32) rfl ⟨by decide, by decide⟩ (g := (mkF m 8 #[.val (.int i0), .val (.int i1), .val (.int i2), .unset, .unset, .unset, .unset, .unset, .unset] [(.int (65 : Int32)), (.int (0 : Int32)), (.ref b1), (.ref b1)])) rfl rfl (hb hby at_8)
  obtain ⟨T3, h3, L3, X3, e3, V3, N3, K3, st3⟩ := own_putI X2 hx hZ e2 V2 N2 gb K2 sz (1 : Int32) (90 : Int32) rfl ⟨by decide, by decide⟩ (g := (mkF m 13 #[.val (.int i0), .val (.int i1), .val (.int i2), .unset, .unset, .unset, .unset, .unset, .unset] [(.int (90 : Int32)), (.int (1 : Int32)), (.ref b1), (.ref b1)])) rfl rfl (hb hby at_13)
  obtain ⟨T4, h4, L4, X4, e4, V4, N4, K4, st4⟩ := own_putI X3 hx hZ e3 V3 N3 gb K3 sz (2 : Int32) (97 : Int32) rfl ⟨by decide, by decide⟩ (g := (mkF m 18 #[.val (.int i0), .val (.int i1), .val (.int i2), .unset, .unset, .unset, .unset, .unset, .unset] [(.int (97 : Int32)), (.int (2 : Int32)), (.ref b1), (.ref b1)])) rfl rfl (hb hby at_18)
  obtain ⟨T5, h5, L5, X5, e5, V5, N5, K5, st5⟩ := own_putI X4 hx hZ e4 V4 N4 gb K4 sz (3 : Int32) (122 : Int32) rfl ⟨by decide, by decide⟩ (g := (mkF m 23 #[.val (.int i0), .val (.int i1), .val (.int i2), .unset, .unset, .unset, .unset, .unset, .unset] [(.int (122 : Int32)), (.int (3 : Int32)), (.ref b1), (.ref b1)])) rfl rfl (hb hby at_23)
  obtain ⟨T6, h6, L6, X6, e6, V6, N6, K6, st6⟩ := own_putI X5 hx hZ e5 V5 N5 gb K5 sz (4 : Int32) (95 : Int32) rfl ⟨by decide, by decide⟩ (g := (mkF m 28 #[.val (.int i0), .val (.int i1), .val (.int i2), .unset, .unset, .unset, .unset, .unset, .unset] [(.int (95 : Int32)), (.int (4 : Int32)), (.ref b1), (.ref b1)])) rfl rfl (hb hby at_28)
  obtain ⟨T7, h7, L7, X7, e7, V7, N7, K7, st7⟩ := own_putI X6 hx hZ e6 V6 N6 gb K6 sz (5 : Int32) (192 : Int32) rfl ⟨by decide, by decide⟩ (g := (mkF m 34 #[.val (.int i0), .val (.int i1), .val (.int i2), .unset, .unset, .unset, .unset, .unset, .unset] [(.int (192 : Int32)), (.int (5 : Int32)), (.ref b1), (.ref b1)])) rfl rfl (hb hby at_34)
  obtain ⟨T8, h8, L8, X8, e8, V8, N8, K8, st8⟩ := own_putI X7 hx hZ e7 V7 N7 gb K7 sz (6 : Int32) (214 : Int32) rfl ⟨by decide, by decide⟩ (g := (mkF m 41 #[.val (.int i0), .val (.int i1), .val (.int i2), .unset, .unset, .unset, .unset, .unset, .unset] [(.int (214 : Int32)), (.int (6 : Int32)), (.ref b1), (.ref b1)])) rfl rfl (hb hby at_41)
  obtain ⟨T9, h9, L9, X9, e9, V9, N9, K9, st9⟩ := own_putI X8 hx hZ e8 V8 N8 gb K8 sz (7 : Int32) (216 : Int32) rfl ⟨by decide, by decide⟩ (g := (mkF m 48 #[.val (.int i0), .val (.int i1), .val (.int i2), .unset, .unset, .unset, .unset, .unset, .unset] [(.int (216 : Int32)), (.int (7 : Int32)), (.ref b1), (.ref b1)])) rfl rfl (hb hby at_48)
  obtain ⟨T10, h10, L10, X10, e10, V10, N10, K10, st10⟩ := own_putI X9 hx hZ e9 V9 N9 gb K9 sz (8 : Int32) (246 : Int32) rfl ⟨by decide, by decide⟩ (g := (mkF m 55 #[.val (.int i0), .val (.int i1), .val (.int i2), .unset, .unset, .unset, .unset, .unset, .unset] [(.int (246 : Int32)), (.int (8 : Int32)), (.ref b1), (.ref b1)])) rfl rfl (hb hby at_55)
  obtain ⟨T11, h11, L11, X11, e11, V11, N11, K11, st11⟩ := own_putI X10 hx hZ e10 V10 N10 gb K10 sz (9 : Int32) (248 : Int32) rfl ⟨by decide, by decide⟩ (g := (mkF m 62 #[.val (.int i0), .val (.int i1), .val (.int i2), .unset, .unset, .unset, .unset, .unset, .unset] [(.int (248 : Int32)), (.int (9 : Int32)), (.ref b1), (.ref b1)])) rfl rfl (hb hby at_62)
  obtain ⟨T12, h12, L12, X12, e12, V12, N12, K12, st12⟩ := own_putI X11 hx hZ e11 V11 N11 gb K11 sz (10 : Int32) (767 : Int32) rfl ⟨by decide, by decide⟩ (g := (mkF m 69 #[.val (.int i0), .val (.int i1), .val (.int i2), .unset, .unset, .unset, .unset, .unset, .unset] [(.int (767 : Int32)), (.int (10 : Int32)), (.ref b1), (.ref b1)])) rfl rfl (hb hby at_69)
  obtain ⟨T13, h13, L13, X13, e13, V13, N13, K13, st13⟩ := own_putI X12 hx hZ e12 V12 N12 gb K12 sz (11 : Int32) (880 : Int32) rfl ⟨by decide, by decide⟩ (g := (mkF m 76 #[.val (.int i0), .val (.int i1), .val (.int i2), .unset, .unset, .unset, .unset, .unset, .unset] [(.int (880 : Int32)), (.int (11 : Int32)), (.ref b1), (.ref b1)])) rfl rfl (hb hby at_76)
  obtain ⟨T14, h14, L14, X14, e14, V14, N14, K14, st14⟩ := own_putI X13 hx hZ e13 V13 N13 gb K13 sz (12 : Int32) (893 : Int32) rfl ⟨by decide, by decide⟩ (g := (mkF m 83 #[.val (.int i0), .val (.int i1), .val (.int i2), .unset, .unset, .unset, .unset, .unset, .unset] [(.int (893 : Int32)), (.int (12 : Int32)), (.ref b1), (.ref b1)])) rfl rfl (hb hby at_83)
  obtain ⟨T15, h15, L15, X15, e15, V15, N15, K15, st15⟩ := own_putI X14 hx hZ e14 V14 N14 gb K14 sz (13 : Int32) (895 : Int32) rfl ⟨by decide, by decide⟩ (g := (mkF m 90 #[.val (.int i0), .val (.int i1), .val (.int i2), .unset, .unset, .unset, .unset, .unset, .unset] [(.int (895 : Int32)), (.int (13 : Int32)), (.ref b1), (.ref b1)])) rfl rfl (hb hby at_90)
  obtain ⟨T16, h16, L16, X16, e16, V16, N16, K16, st16⟩ := own_putI X15 hx hZ e15 V15 N15 gb K15 sz (14 : Int32) (8191 : Int32) rfl ⟨by decide, by decide⟩ (g := (mkF m 97 #[.val (.int i0), .val (.int i1), .val (.int i2), .unset, .unset, .unset, .unset, .unset, .unset] [(.int (8191 : Int32)), (.int (14 : Int32)), (.ref b1), (.ref b1)])) rfl rfl (hb hby at_97)
  obtain ⟨T17, h17, L17, X17, e17, V17, N17, K17, st17⟩ := own_putI X16 hx hZ e16 V16 N16 gb K16 sz (15 : Int32) (8204 : Int32) rfl ⟨by decide, by decide⟩ (g := (mkF m 104 #[.val (.int i0), .val (.int i1), .val (.int i2), .unset, .unset, .unset, .unset, .unset, .unset] [(.int (8204 : Int32)), (.int (15 : Int32)), (.ref b1), (.ref b1)])) rfl rfl (hb hby at_104)
  obtain ⟨T18, h18, L18, X18, e18, V18, N18, K18, st18⟩ := own_putI X17 hx hZ e17 V17 N17 gb K17 sz (16 : Int32) (8205 : Int32) rfl ⟨by decide, by decide⟩ (g := (mkF m 111 #[.val (.int i0), .val (.int i1), .val (.int i2), .unset, .unset, .unset, .unset, .unset, .unset] [(.int (8205 : Int32)), (.int (16 : Int32)), (.ref b1), (.ref b1)])) rfl rfl (hb hby at_111)
  obtain ⟨T19, h19, L19, X19, e19, V19, N19, K19, st19⟩ := own_putI X18 hx hZ e18 V18 N18 gb K18 sz (17 : Int32) (8304 : Int32) rfl ⟨by decide, by decide⟩ (g := (mkF m 118 #[.val (.int i0), .val (.int i1), .val (.int i2), .unset, .unset, .unset, .unset, .unset, .unset] [(.int (8304 : Int32)), (.int (17 : Int32)), (.ref b1), (.ref b1)])) rfl rfl (hb hby at_118)
  obtain ⟨T20, h20, L20, X20, e20, V20, N20, K20, st20⟩ := own_putI X19 hx hZ e19 V19 N19 gb K19 sz (18 : Int32) (8591 : Int32) rfl ⟨by decide, by decide⟩ (g := (mkF m 125 #[.val (.int i0), .val (.int i1), .val (.int i2), .unset, .unset, .unset, .unset, .unset, .unset] [(.int (8591 : Int32)), (.int (18 : Int32)), (.ref b1), (.ref b1)])) rfl rfl (hb hby at_125)
  obtain ⟨T21, h21, L21, X21, e21, V21, N21, K21, st21⟩ := own_putI X20 hx hZ e20 V20 N20 gb K20 sz (19 : Int32) (11264 : Int32) rfl ⟨by decide, by decide⟩ (g := (mkF m 132 #[.val (.int i0), .val (.int i1), .val (.int i2), .unset, .unset, .unset, .unset, .unset, .unset] [(.int (11264 : Int32)), (.int (19 : Int32)), (.ref b1), (.ref b1)])) rfl rfl (hb hby at_132)
  obtain ⟨T22, h22, L22, X22, e22, V22, N22, K22, st22⟩ := own_putI X21 hx hZ e21 V21 N21 gb K21 sz (20 : Int32) (12271 : Int32) rfl ⟨by decide, by decide⟩ (g := (mkF m 139 #[.val (.int i0), .val (.int i1), .val (.int i2), .unset, .unset, .unset, .unset, .unset, .unset] [(.int (12271 : Int32)), (.int (20 : Int32)), (.ref b1), (.ref b1)])) rfl rfl (hb hby at_139)
  obtain ⟨T23, h23, L23, X23, e23, V23, N23, K23, st23⟩ := own_putI X22 hx hZ e22 V22 N22 gb K22 sz (21 : Int32) (12289 : Int32) rfl ⟨by decide, by decide⟩ (g := (mkF m 146 #[.val (.int i0), .val (.int i1), .val (.int i2), .unset, .unset, .unset, .unset, .unset, .unset] [(.int (12289 : Int32)), (.int (21 : Int32)), (.ref b1), (.ref b1)])) rfl rfl (hb hby at_146)
  obtain ⟨T24, h24, L24, X24, e24, V24, N24, K24, st24⟩ := own_putI X23 hx hZ e23 V23 N23 gb K23 sz (22 : Int32) (55295 : Int32) rfl ⟨by decide, by decide⟩ (g := (mkF m 152 #[.val (.int i0), .val (.int i1), .val (.int i2), .unset, .unset, .unset, .unset, .unset, .unset] [(.int (55295 : Int32)), (.int (22 : Int32)), (.ref b1), (.ref b1)])) rfl rfl (hb hby at_152)
  obtain ⟨T25, h25, L25, X25, e25, V25, N25, K25, st25⟩ := own_putI X24 hx hZ e24 V24 N24 gb K24 sz (23 : Int32) (63744 : Int32) rfl ⟨by decide, by decide⟩ (g := (mkF m 158 #[.val (.int i0), .val (.int i1), .val (.int i2), .unset, .unset, .unset, .unset, .unset, .unset] [(.int (63744 : Int32)), (.int (23 : Int32)), (.ref b1), (.ref b1)])) rfl rfl (hb hby at_158)
  obtain ⟨T26, h26, L26, X26, e26, V26, N26, K26, st26⟩ := own_putI X25 hx hZ e25 V25 N25 gb K25 sz (24 : Int32) (64975 : Int32) rfl ⟨by decide, by decide⟩ (g := (mkF m 164 #[.val (.int i0), .val (.int i1), .val (.int i2), .unset, .unset, .unset, .unset, .unset, .unset] [(.int (64975 : Int32)), (.int (24 : Int32)), (.ref b1), (.ref b1)])) rfl rfl (hb hby at_164)
  obtain ⟨T27, h27, L27, X27, e27, V27, N27, K27, st27⟩ := own_putI X26 hx hZ e26 V26 N26 gb K26 sz (25 : Int32) (65008 : Int32) rfl ⟨by decide, by decide⟩ (g := (mkF m 170 #[.val (.int i0), .val (.int i1), .val (.int i2), .unset, .unset, .unset, .unset, .unset, .unset] [(.int (65008 : Int32)), (.int (25 : Int32)), (.ref b1), (.ref b1)])) rfl rfl (hb hby at_170)
  obtain ⟨T28, h28, L28, X28, e28, V28, N28, K28, st28⟩ := own_putI X27 hx hZ e27 V27 N27 gb K27 sz (26 : Int32) (65533 : Int32) rfl ⟨by decide, by decide⟩ (g := (mkF m 176 #[.val (.int i0), .val (.int i1), .val (.int i2), .unset, .unset, .unset, .unset, .unset, .unset] [(.int (65533 : Int32)), (.int (26 : Int32)), (.ref b1), (.ref b1)])) rfl rfl (hb hby at_176)
  obtain ⟨T29, h29, L29, X29, e29, V29, N29, K29, st29⟩ := own_putI X28 hx hZ e28 V28 N28 gb K28 sz (27 : Int32) (65536 : Int32) rfl ⟨by decide, by decide⟩ (g := (mkF m 182 #[.val (.int i0), .val (.int i1), .val (.int i2), .unset, .unset, .unset, .unset, .unset, .unset] [(.int (65536 : Int32)), (.int (27 : Int32)), (.ref b1), (.ref b1)])) rfl rfl (hb hby at_182)
  obtain ⟨T30, h30, L30, X30, e30, V30, N30, K30, st30⟩ := own_putI X29 hx hZ e29 V29 N29 gb K29 sz (28 : Int32) (983039 : Int32) rfl ⟨by decide, by decide⟩ (g := (mkF m 188 #[.val (.int i0), .val (.int i1), .val (.int i2), .unset, .unset, .unset, .unset, .unset, .unset] [(.int (983039 : Int32)), (.int (28 : Int32)), (.ref b1), (.ref b1)])) rfl rfl (hb hby at_188)
  obtain ⟨T31, h31, L31, X31, e31, V31, N31, K31, st31⟩ := own_putI X30 hx hZ e30 V30 N30 gb K30 sz (29 : Int32) (58 : Int32) rfl ⟨by decide, by decide⟩ (g := (mkF m 194 #[.val (.int i0), .val (.int i1), .val (.int i2), .unset, .unset, .unset, .unset, .unset, .unset] [(.int (58 : Int32)), (.int (29 : Int32)), (.ref b1), (.ref b1)])) rfl rfl (hb hby at_194)
  obtain ⟨T32, h32, L32, X32, e32, V32, N32, K32, st32⟩ := own_putI X31 hx hZ e31 V31 N31 gb K31 sz (30 : Int32) (0 : Int32) rfl ⟨by decide, by decide⟩ (g := (mkF m 199 #[.val (.int i0), .val (.int i1), .val (.int i2), .unset, .unset, .unset, .unset, .unset, .unset] [(.int (0 : Int32)), (.int (30 : Int32)), (.ref b1), (.ref b1)])) rfl rfl (hb hby at_199)
  obtain ⟨T33, h33, L33, X33, e33, V33, N33, K33, st33⟩ := own_putI X32 hx hZ e32 V32 N32 gb K32 sz (31 : Int32) (-2147483648 : Int32) rfl ⟨by decide, by decide⟩ (g := (mkF m 205 #[.val (.int i0), .val (.int i1), .val (.int i2), .unset, .unset, .unset, .unset, .unset, .unset] [(.int (-2147483648 : Int32)), (.int (31 : Int32)), (.ref b1), (.ref b1)])) rfl rfl (hb hby at_205)
  obtain ⟨T34, h34, L34, X34, e34, V34, N34, K34, st34⟩ := own_putI X33 hx hZ e33 V33 N33 gb K33 sz (32 : Int32) (2147483647 : Int32) rfl ⟨by decide, by decide⟩ (g := (mkF m 211 #[.val (.int i0), .val (.int i1), .val (.int i2), .unset, .unset, .unset, .unset, .unset, .unset] [(.int (2147483647 : Int32)), (.int (32 : Int32)), (.ref b1), (.ref b1)])) rfl rfl (hb hby at_211)
  refine ⟨T34, h34, b1, k1, L34, X34, e34, K34, gb, V34, N34, fun target kt => ?_⟩
  show Steps p.tables e below (T0.setTop (mkF m 0 #[.val (.int i0), .val (.int i1), .val (.int i2), .unset, .unset, .unset, .unset, .unset, .unset] [])) _
  refine XS.bipush X0.here hx rfl (hb hby at_0) ?_
  show Steps p.tables e below (T0.setTop (mkF m 2 #[.val (.int i0), .val (.int i1), .val (.int i2), .unset, .unset, .unset, .unset, .unset, .unset] [(.int (33 : Int32))])) _
  refine st1 _ ?_
  show Steps p.tables e below (T1.setTop (mkF m 4 #[.val (.int i0), .val (.int i1), .val (.int i2), .unset, .unset, .unset, .unset, .unset, .unset] [(.ref b1)])) _
  refine XS.dup X1.here hx rfl (hb hby at_4) rfl rfl ?_
  show Steps p.tables e below (T1.setTop (mkF m 5 #[.val (.int i0), .val (.int i1), .val (.int i2), .unset, .unset, .unset, .unset, .unset, .unset] [(.ref b1), (.ref b1)])) _
  refine XS.iconst X1.here hx rfl (hb hby at_5) ?_
  show Steps p.tables e below (T1.setTop (mkF m 6 #[.val (.int i0), .val (.int i1), .val (.int i2), .unset, .unset, .unset, .unset, .unset, .unset] [(.int (0 : Int32)), (.ref b1), (.ref b1)])) _
  refine XS.bipush X1.here hx rfl (hb hby at_6) ?_
  show Steps p.tables e below (T1.setTop (mkF m 8 #[.val (.int i0), .val (.int i1), .val (.int i2), .unset, .unset, .unset, .unset, .unset, .unset] [(.int (65 : Int32)), (.int (0 : Int32)), (.ref b1), (.ref b1)])) _
  refine st2 _ ?_
  show Steps p.tables e below (T2.setTop (mkF m 9 #[.val (.int i0), .val (.int i1), .val (.int i2), .unset, .unset, .unset, .unset, .unset, .unset] [(.ref b1)])) _
  refine XS.dup X2.here hx rfl (hb hby at_9) rfl rfl ?_
  show Steps p.tables e below (T2.setTop (mkF m 10 #[.val (.int i0), .val (.int i1), .val (.int i2), .unset, .unset, .unset, .unset, .unset, .unset] [(.ref b1), (.ref b1)])) _
  refine XS.iconst X2.here hx rfl (hb hby at_10) ?_
  show Steps p.tables e below (T2.setTop (mkF m 11 #[.val (.int i0), .val (.int i1), .val (.int i2), .unset, .unset, .unset, .unset, .unset, .unset] [(.int (1 : Int32)), (.ref b1), (.ref b1)])) _
  refine XS.bipush X2.here hx rfl (hb hby at_11) ?_
  show Steps p.tables e below (T2.setTop (mkF m 13 #[.val (.int i0), .val (.int i1), .val (.int i2), .unset, .unset, .unset, .unset, .unset, .unset] [(.int (90 : Int32)), (.int (1 : Int32)), (.ref b1), (.ref b1)])) _
  refine st3 _ ?_
  show Steps p.tables e below (T3.setTop (mkF m 14 #[.val (.int i0), .val (.int i1), .val (.int i2), .unset, .unset, .unset, .unset, .unset, .unset] [(.ref b1)])) _
  refine XS.dup X3.here hx rfl (hb hby at_14) rfl rfl ?_
  show Steps p.tables e below (T3.setTop (mkF m 15 #[.val (.int i0), .val (.int i1), .val (.int i2), .unset, .unset, .unset, .unset, .unset, .unset] [(.ref b1), (.ref b1)])) _
  refine XS.iconst X3.here hx rfl (hb hby at_15) ?_
  show Steps p.tables e below (T3.setTop (mkF m 16 #[.val (.int i0), .val (.int i1), .val (.int i2), .unset, .unset, .unset, .unset, .unset, .unset] [(.int (2 : Int32)), (.ref b1), (.ref b1)])) _
  refine XS.bipush X3.here hx rfl (hb hby at_16) ?_
  show Steps p.tables e below (T3.setTop (mkF m 18 #[.val (.int i0), .val (.int i1), .val (.int i2), .unset, .unset, .unset, .unset, .unset, .unset] [(.int (97 : Int32)), (.int (2 : Int32)), (.ref b1), (.ref b1)])) _
  refine st4 _ ?_
  show Steps p.tables e below (T4.setTop (mkF m 19 #[.val (.int i0), .val (.int i1), .val (.int i2), .unset, .unset, .unset, .unset, .unset, .unset] [(.ref b1)])) _
  refine XS.dup X4.here hx rfl (hb hby at_19) rfl rfl ?_
  show Steps p.tables e below (T4.setTop (mkF m 20 #[.val (.int i0), .val (.int i1), .val (.int i2), .unset, .unset, .unset, .unset, .unset, .unset] [(.ref b1), (.ref b1)])) _
  refine XS.iconst X4.here hx rfl (hb hby at_20) ?_
  show Steps p.tables e below (T4.setTop (mkF m 21 #[.val (.int i0), .val (.int i1), .val (.int i2), .unset, .unset, .unset, .unset, .unset, .unset] [(.int (3 : Int32)), (.ref b1), (.ref b1)])) _
  refine XS.bipush X4.here hx rfl (hb hby at_21) ?_
  show Steps p.tables e below (T4.setTop (mkF m 23 #[.val (.int i0), .val (.int i1), .val (.int i2), .unset, .unset, .unset, .unset, .unset, .unset] [(.int (122 : Int32)), (.int (3 : Int32)), (.ref b1), (.ref b1)])) _
  refine st5 _ ?_
  show Steps p.tables e below (T5.setTop (mkF m 24 #[.val (.int i0), .val (.int i1), .val (.int i2), .unset, .unset, .unset, .unset, .unset, .unset] [(.ref b1)])) _
  refine XS.dup X5.here hx rfl (hb hby at_24) rfl rfl ?_
  show Steps p.tables e below (T5.setTop (mkF m 25 #[.val (.int i0), .val (.int i1), .val (.int i2), .unset, .unset, .unset, .unset, .unset, .unset] [(.ref b1), (.ref b1)])) _
  refine XS.iconst X5.here hx rfl (hb hby at_25) ?_
  show Steps p.tables e below (T5.setTop (mkF m 26 #[.val (.int i0), .val (.int i1), .val (.int i2), .unset, .unset, .unset, .unset, .unset, .unset] [(.int (4 : Int32)), (.ref b1), (.ref b1)])) _
  refine XS.bipush X5.here hx rfl (hb hby at_26) ?_
  show Steps p.tables e below (T5.setTop (mkF m 28 #[.val (.int i0), .val (.int i1), .val (.int i2), .unset, .unset, .unset, .unset, .unset, .unset] [(.int (95 : Int32)), (.int (4 : Int32)), (.ref b1), (.ref b1)])) _
  refine st6 _ ?_
  show Steps p.tables e below (T6.setTop (mkF m 29 #[.val (.int i0), .val (.int i1), .val (.int i2), .unset, .unset, .unset, .unset, .unset, .unset] [(.ref b1)])) _
  refine XS.dup X6.here hx rfl (hb hby at_29) rfl rfl ?_
  show Steps p.tables e below (T6.setTop (mkF m 30 #[.val (.int i0), .val (.int i1), .val (.int i2), .unset, .unset, .unset, .unset, .unset, .unset] [(.ref b1), (.ref b1)])) _
  refine XS.iconst X6.here hx rfl (hb hby at_30) ?_
  show Steps p.tables e below (T6.setTop (mkF m 31 #[.val (.int i0), .val (.int i1), .val (.int i2), .unset, .unset, .unset, .unset, .unset, .unset] [(.int (5 : Int32)), (.ref b1), (.ref b1)])) _
  refine XS.sipush X6.here hx rfl (hb hby at_31) ?_
  show Steps p.tables e below (T6.setTop (mkF m 34 #[.val (.int i0), .val (.int i1), .val (.int i2), .unset, .unset, .unset, .unset, .unset, .unset] [(.int (192 : Int32)), (.int (5 : Int32)), (.ref b1), (.ref b1)])) _
  refine st7 _ ?_
  show Steps p.tables e below (T7.setTop (mkF m 35 #[.val (.int i0), .val (.int i1), .val (.int i2), .unset, .unset, .unset, .unset, .unset, .unset] [(.ref b1)])) _
  refine XS.dup X7.here hx rfl (hb hby at_35) rfl rfl ?_
  show Steps p.tables e below (T7.setTop (mkF m 36 #[.val (.int i0), .val (.int i1), .val (.int i2), .unset, .unset, .unset, .unset, .unset, .unset] [(.ref b1), (.ref b1)])) _
  refine XS.bipush X7.here hx rfl (hb hby at_36) ?_
  show Steps p.tables e below (T7.setTop (mkF m 38 #[.val (.int i0), .val (.int i1), .val (.int i2), .unset, .unset, .unset, .unset, .unset, .unset] [(.int (6 : Int32)), (.ref b1), (.ref b1)])) _
  refine XS.sipush X7.here hx rfl (hb hby at_38) ?_
  show Steps p.tables e below (T7.setTop (mkF m 41 #[.val (.int i0), .val (.int i1), .val (.int i2), .unset, .unset, .unset, .unset, .unset, .unset] [(.int (214 : Int32)), (.int (6 : Int32)), (.ref b1), (.ref b1)])) _
  refine st8 _ ?_
  show Steps p.tables e below (T8.setTop (mkF m 42 #[.val (.int i0), .val (.int i1), .val (.int i2), .unset, .unset, .unset, .unset, .unset, .unset] [(.ref b1)])) _
  refine XS.dup X8.here hx rfl (hb hby at_42) rfl rfl ?_
  show Steps p.tables e below (T8.setTop (mkF m 43 #[.val (.int i0), .val (.int i1), .val (.int i2), .unset, .unset, .unset, .unset, .unset, .unset] [(.ref b1), (.ref b1)])) _
  refine XS.bipush X8.here hx rfl (hb hby at_43) ?_
  show Steps p.tables e below (T8.setTop (mkF m 45 #[.val (.int i0), .val (.int i1), .val (.int i2), .unset, .unset, .unset, .unset, .unset, .unset] [(.int (7 : Int32)), (.ref b1), (.ref b1)])) _
  refine XS.sipush X8.here hx rfl (hb hby at_45) ?_
  show Steps p.tables e below (T8.setTop (mkF m 48 #[.val (.int i0), .val (.int i1), .val (.int i2), .unset, .unset, .unset, .unset, .unset, .unset] [(.int (216 : Int32)), (.int (7 : Int32)), (.ref b1), (.ref b1)])) _
  refine st9 _ ?_
  show Steps p.tables e below (T9.setTop (mkF m 49 #[.val (.int i0), .val (.int i1), .val (.int i2), .unset, .unset, .unset, .unset, .unset, .unset] [(.ref b1)])) _
  refine XS.dup X9.here hx rfl (hb hby at_49) rfl rfl ?_
  show Steps p.tables e below (T9.setTop (mkF m 50 #[.val (.int i0), .val (.int i1), .val (.int i2), .unset, .unset, .unset, .unset, .unset, .unset] [(.ref b1), (.ref b1)])) _
  refine XS.bipush X9.here hx rfl (hb hby at_50) ?_
  show Steps p.tables e below (T9.setTop (mkF m 52 #[.val (.int i0), .val (.int i1), .val (.int i2), .unset, .unset, .unset, .unset, .unset, .unset] [(.int (8 : Int32)), (.ref b1), (.ref b1)])) _
  refine XS.sipush X9.here hx rfl (hb hby at_52) ?_
  show Steps p.tables e below (T9.setTop (mkF m 55 #[.val (.int i0), .val (.int i1), .val (.int i2), .unset, .unset, .unset, .unset, .unset, .unset] [(.int (246 : Int32)), (.int (8 : Int32)), (.ref b1), (.ref b1)])) _
  refine st10 _ ?_
  show Steps p.tables e below (T10.setTop (mkF m 56 #[.val (.int i0), .val (.int i1), .val (.int i2), .unset, .unset, .unset, .unset, .unset, .unset] [(.ref b1)])) _
  refine XS.dup X10.here hx rfl (hb hby at_56) rfl rfl ?_
  show Steps p.tables e below (T10.setTop (mkF m 57 #[.val (.int i0), .val (.int i1), .val (.int i2), .unset, .unset, .unset, .unset, .unset, .unset] [(.ref b1), (.ref b1)])) _
  refine XS.bipush X10.here hx rfl (hb hby at_57) ?_
  show Steps p.tables e below (T10.setTop (mkF m 59 #[.val (.int i0), .val (.int i1), .val (.int i2), .unset, .unset, .unset, .unset, .unset, .unset] [(.int (9 : Int32)), (.ref b1), (.ref b1)])) _
  refine XS.sipush X10.here hx rfl (hb hby at_59) ?_
  show Steps p.tables e below (T10.setTop (mkF m 62 #[.val (.int i0), .val (.int i1), .val (.int i2), .unset, .unset, .unset, .unset, .unset, .unset] [(.int (248 : Int32)), (.int (9 : Int32)), (.ref b1), (.ref b1)])) _
  refine st11 _ ?_
  show Steps p.tables e below (T11.setTop (mkF m 63 #[.val (.int i0), .val (.int i1), .val (.int i2), .unset, .unset, .unset, .unset, .unset, .unset] [(.ref b1)])) _
  refine XS.dup X11.here hx rfl (hb hby at_63) rfl rfl ?_
  show Steps p.tables e below (T11.setTop (mkF m 64 #[.val (.int i0), .val (.int i1), .val (.int i2), .unset, .unset, .unset, .unset, .unset, .unset] [(.ref b1), (.ref b1)])) _
  refine XS.bipush X11.here hx rfl (hb hby at_64) ?_
  show Steps p.tables e below (T11.setTop (mkF m 66 #[.val (.int i0), .val (.int i1), .val (.int i2), .unset, .unset, .unset, .unset, .unset, .unset] [(.int (10 : Int32)), (.ref b1), (.ref b1)])) _
  refine XS.sipush X11.here hx rfl (hb hby at_66) ?_
  show Steps p.tables e below (T11.setTop (mkF m 69 #[.val (.int i0), .val (.int i1), .val (.int i2), .unset, .unset, .unset, .unset, .unset, .unset] [(.int (767 : Int32)), (.int (10 : Int32)), (.ref b1), (.ref b1)])) _
  refine st12 _ ?_
  show Steps p.tables e below (T12.setTop (mkF m 70 #[.val (.int i0), .val (.int i1), .val (.int i2), .unset, .unset, .unset, .unset, .unset, .unset] [(.ref b1)])) _
  refine XS.dup X12.here hx rfl (hb hby at_70) rfl rfl ?_
  show Steps p.tables e below (T12.setTop (mkF m 71 #[.val (.int i0), .val (.int i1), .val (.int i2), .unset, .unset, .unset, .unset, .unset, .unset] [(.ref b1), (.ref b1)])) _
  refine XS.bipush X12.here hx rfl (hb hby at_71) ?_
  show Steps p.tables e below (T12.setTop (mkF m 73 #[.val (.int i0), .val (.int i1), .val (.int i2), .unset, .unset, .unset, .unset, .unset, .unset] [(.int (11 : Int32)), (.ref b1), (.ref b1)])) _
  refine XS.sipush X12.here hx rfl (hb hby at_73) ?_
  show Steps p.tables e below (T12.setTop (mkF m 76 #[.val (.int i0), .val (.int i1), .val (.int i2), .unset, .unset, .unset, .unset, .unset, .unset] [(.int (880 : Int32)), (.int (11 : Int32)), (.ref b1), (.ref b1)])) _
  refine st13 _ ?_
  show Steps p.tables e below (T13.setTop (mkF m 77 #[.val (.int i0), .val (.int i1), .val (.int i2), .unset, .unset, .unset, .unset, .unset, .unset] [(.ref b1)])) _
  refine XS.dup X13.here hx rfl (hb hby at_77) rfl rfl ?_
  show Steps p.tables e below (T13.setTop (mkF m 78 #[.val (.int i0), .val (.int i1), .val (.int i2), .unset, .unset, .unset, .unset, .unset, .unset] [(.ref b1), (.ref b1)])) _
  refine XS.bipush X13.here hx rfl (hb hby at_78) ?_
  show Steps p.tables e below (T13.setTop (mkF m 80 #[.val (.int i0), .val (.int i1), .val (.int i2), .unset, .unset, .unset, .unset, .unset, .unset] [(.int (12 : Int32)), (.ref b1), (.ref b1)])) _
  refine XS.sipush X13.here hx rfl (hb hby at_80) ?_
  show Steps p.tables e below (T13.setTop (mkF m 83 #[.val (.int i0), .val (.int i1), .val (.int i2), .unset, .unset, .unset, .unset, .unset, .unset] [(.int (893 : Int32)), (.int (12 : Int32)), (.ref b1), (.ref b1)])) _
  refine st14 _ ?_
  show Steps p.tables e below (T14.setTop (mkF m 84 #[.val (.int i0), .val (.int i1), .val (.int i2), .unset, .unset, .unset, .unset, .unset, .unset] [(.ref b1)])) _
  refine XS.dup X14.here hx rfl (hb hby at_84) rfl rfl ?_
  show Steps p.tables e below (T14.setTop (mkF m 85 #[.val (.int i0), .val (.int i1), .val (.int i2), .unset, .unset, .unset, .unset, .unset, .unset] [(.ref b1), (.ref b1)])) _
  refine XS.bipush X14.here hx rfl (hb hby at_85) ?_
  show Steps p.tables e below (T14.setTop (mkF m 87 #[.val (.int i0), .val (.int i1), .val (.int i2), .unset, .unset, .unset, .unset, .unset, .unset] [(.int (13 : Int32)), (.ref b1), (.ref b1)])) _
  refine XS.sipush X14.here hx rfl (hb hby at_87) ?_
  show Steps p.tables e below (T14.setTop (mkF m 90 #[.val (.int i0), .val (.int i1), .val (.int i2), .unset, .unset, .unset, .unset, .unset, .unset] [(.int (895 : Int32)), (.int (13 : Int32)), (.ref b1), (.ref b1)])) _
  refine st15 _ ?_
  show Steps p.tables e below (T15.setTop (mkF m 91 #[.val (.int i0), .val (.int i1), .val (.int i2), .unset, .unset, .unset, .unset, .unset, .unset] [(.ref b1)])) _
  refine XS.dup X15.here hx rfl (hb hby at_91) rfl rfl ?_
  show Steps p.tables e below (T15.setTop (mkF m 92 #[.val (.int i0), .val (.int i1), .val (.int i2), .unset, .unset, .unset, .unset, .unset, .unset] [(.ref b1), (.ref b1)])) _
  refine XS.bipush X15.here hx rfl (hb hby at_92) ?_
  show Steps p.tables e below (T15.setTop (mkF m 94 #[.val (.int i0), .val (.int i1), .val (.int i2), .unset, .unset, .unset, .unset, .unset, .unset] [(.int (14 : Int32)), (.ref b1), (.ref b1)])) _
  refine XS.sipush X15.here hx rfl (hb hby at_94) ?_
  show Steps p.tables e below (T15.setTop (mkF m 97 #[.val (.int i0), .val (.int i1), .val (.int i2), .unset, .unset, .unset, .unset, .unset, .unset] [(.int (8191 : Int32)), (.int (14 : Int32)), (.ref b1), (.ref b1)])) _
  refine st16 _ ?_
  show Steps p.tables e below (T16.setTop (mkF m 98 #[.val (.int i0), .val (.int i1), .val (.int i2), .unset, .unset, .unset, .unset, .unset, .unset] [(.ref b1)])) _
  refine XS.dup X16.here hx rfl (hb hby at_98) rfl rfl ?_
  show Steps p.tables e below (T16.setTop (mkF m 99 #[.val (.int i0), .val (.int i1), .val (.int i2), .unset, .unset, .unset, .unset, .unset, .unset] [(.ref b1), (.ref b1)])) _
  refine XS.bipush X16.here hx rfl (hb hby at_99) ?_
  show Steps p.tables e below (T16.setTop (mkF m 101 #[.val (.int i0), .val (.int i1), .val (.int i2), .unset, .unset, .unset, .unset, .unset, .unset] [(.int (15 : Int32)), (.ref b1), (.ref b1)])) _
  refine XS.sipush X16.here hx rfl (hb hby at_101) ?_
  show Steps p.tables e below (T16.setTop (mkF m 104 #[.val (.int i0), .val (.int i1), .val (.int i2), .unset, .unset, .unset, .unset, .unset, .unset] [(.int (8204 : Int32)), (.int (15 : Int32)), (.ref b1), (.ref b1)])) _
  refine st17 _ ?_
  show Steps p.tables e below (T17.setTop (mkF m 105 #[.val (.int i0), .val (.int i1), .val (.int i2), .unset, .unset, .unset, .unset, .unset, .unset] [(.ref b1)])) _
  refine XS.dup X17.here hx rfl (hb hby at_105) rfl rfl ?_
  show Steps p.tables e below (T17.setTop (mkF m 106 #[.val (.int i0), .val (.int i1), .val (.int i2), .unset, .unset, .unset, .unset, .unset, .unset] [(.ref b1), (.ref b1)])) _
  refine XS.bipush X17.here hx rfl (hb hby at_106) ?_
  show Steps p.tables e below (T17.setTop (mkF m 108 #[.val (.int i0), .val (.int i1), .val (.int i2), .unset, .unset, .unset, .unset, .unset, .unset] [(.int (16 : Int32)), (.ref b1), (.ref b1)])) _
  refine XS.sipush X17.here hx rfl (hb hby at_108) ?_
  show Steps p.tables e below (T17.setTop (mkF m 111 #[.val (.int i0), .val (.int i1), .val (.int i2), .unset, .unset, .unset, .unset, .unset, .unset] [(.int (8205 : Int32)), (.int (16 : Int32)), (.ref b1), (.ref b1)])) _
  refine st18 _ ?_
  show Steps p.tables e below (T18.setTop (mkF m 112 #[.val (.int i0), .val (.int i1), .val (.int i2), .unset, .unset, .unset, .unset, .unset, .unset] [(.ref b1)])) _
  refine XS.dup X18.here hx rfl (hb hby at_112) rfl rfl ?_
  show Steps p.tables e below (T18.setTop (mkF m 113 #[.val (.int i0), .val (.int i1), .val (.int i2), .unset, .unset, .unset, .unset, .unset, .unset] [(.ref b1), (.ref b1)])) _
  refine XS.bipush X18.here hx rfl (hb hby at_113) ?_
  show Steps p.tables e below (T18.setTop (mkF m 115 #[.val (.int i0), .val (.int i1), .val (.int i2), .unset, .unset, .unset, .unset, .unset, .unset] [(.int (17 : Int32)), (.ref b1), (.ref b1)])) _
  refine XS.sipush X18.here hx rfl (hb hby at_115) ?_
  show Steps p.tables e below (T18.setTop (mkF m 118 #[.val (.int i0), .val (.int i1), .val (.int i2), .unset, .unset, .unset, .unset, .unset, .unset] [(.int (8304 : Int32)), (.int (17 : Int32)), (.ref b1), (.ref b1)])) _
  refine st19 _ ?_
  show Steps p.tables e below (T19.setTop (mkF m 119 #[.val (.int i0), .val (.int i1), .val (.int i2), .unset, .unset, .unset, .unset, .unset, .unset] [(.ref b1)])) _
  refine XS.dup X19.here hx rfl (hb hby at_119) rfl rfl ?_
  show Steps p.tables e below (T19.setTop (mkF m 120 #[.val (.int i0), .val (.int i1), .val (.int i2), .unset, .unset, .unset, .unset, .unset, .unset] [(.ref b1), (.ref b1)])) _
  refine XS.bipush X19.here hx rfl (hb hby at_120) ?_
  show Steps p.tables e below (T19.setTop (mkF m 122 #[.val (.int i0), .val (.int i1), .val (.int i2), .unset, .unset, .unset, .unset, .unset, .unset] [(.int (18 : Int32)), (.ref b1), (.ref b1)])) _
  refine XS.sipush X19.here hx rfl (hb hby at_122) ?_
  show Steps p.tables e below (T19.setTop (mkF m 125 #[.val (.int i0), .val (.int i1), .val (.int i2), .unset, .unset, .unset, .unset, .unset, .unset] [(.int (8591 : Int32)), (.int (18 : Int32)), (.ref b1), (.ref b1)])) _
  refine st20 _ ?_
  show Steps p.tables e below (T20.setTop (mkF m 126 #[.val (.int i0), .val (.int i1), .val (.int i2), .unset, .unset, .unset, .unset, .unset, .unset] [(.ref b1)])) _
  refine XS.dup X20.here hx rfl (hb hby at_126) rfl rfl ?_
  show Steps p.tables e below (T20.setTop (mkF m 127 #[.val (.int i0), .val (.int i1), .val (.int i2), .unset, .unset, .unset, .unset, .unset, .unset] [(.ref b1), (.ref b1)])) _
  refine XS.bipush X20.here hx rfl (hb hby at_127) ?_
  show Steps p.tables e below (T20.setTop (mkF m 129 #[.val (.int i0), .val (.int i1), .val (.int i2), .unset, .unset, .unset, .unset, .unset, .unset] [(.int (19 : Int32)), (.ref b1), (.ref b1)])) _
  refine XS.sipush X20.here hx rfl (hb hby at_129) ?_
  show Steps p.tables e below (T20.setTop (mkF m 132 #[.val (.int i0), .val (.int i1), .val (.int i2), .unset, .unset, .unset, .unset, .unset, .unset] [(.int (11264 : Int32)), (.int (19 : Int32)), (.ref b1), (.ref b1)])) _
  refine st21 _ ?_
  show Steps p.tables e below (T21.setTop (mkF m 133 #[.val (.int i0), .val (.int i1), .val (.int i2), .unset, .unset, .unset, .unset, .unset, .unset] [(.ref b1)])) _
  refine XS.dup X21.here hx rfl (hb hby at_133) rfl rfl ?_
  show Steps p.tables e below (T21.setTop (mkF m 134 #[.val (.int i0), .val (.int i1), .val (.int i2), .unset, .unset, .unset, .unset, .unset, .unset] [(.ref b1), (.ref b1)])) _
  refine XS.bipush X21.here hx rfl (hb hby at_134) ?_
  show Steps p.tables e below (T21.setTop (mkF m 136 #[.val (.int i0), .val (.int i1), .val (.int i2), .unset, .unset, .unset, .unset, .unset, .unset] [(.int (20 : Int32)), (.ref b1), (.ref b1)])) _
  refine XS.sipush X21.here hx rfl (hb hby at_136) ?_
  show Steps p.tables e below (T21.setTop (mkF m 139 #[.val (.int i0), .val (.int i1), .val (.int i2), .unset, .unset, .unset, .unset, .unset, .unset] [(.int (12271 : Int32)), (.int (20 : Int32)), (.ref b1), (.ref b1)])) _
  refine st22 _ ?_
  show Steps p.tables e below (T22.setTop (mkF m 140 #[.val (.int i0), .val (.int i1), .val (.int i2), .unset, .unset, .unset, .unset, .unset, .unset] [(.ref b1)])) _
  refine XS.dup X22.here hx rfl (hb hby at_140) rfl rfl ?_
  show Steps p.tables e below (T22.setTop (mkF m 141 #[.val (.int i0), .val (.int i1), .val (.int i2), .unset, .unset, .unset, .unset, .unset, .unset] [(.ref b1), (.ref b1)])) _
  refine XS.bipush X22.here hx rfl (hb hby at_141) ?_
  show Steps p.tables e below (T22.setTop (mkF m 143 #[.val (.int i0), .val (.int i1), .val (.int i2), .unset, .unset, .unset, .unset, .unset, .unset] [(.int (21 : Int32)), (.ref b1), (.ref b1)])) _
  refine XS.sipush X22.here hx rfl (hb hby at_143) ?_
  show Steps p.tables e below (T22.setTop (mkF m 146 #[.val (.int i0), .val (.int i1), .val (.int i2), .unset, .unset, .unset, .unset, .unset, .unset] [(.int (12289 : Int32)), (.int (21 : Int32)), (.ref b1), (.ref b1)])) _
  refine st23 _ ?_
  show Steps p.tables e below (T23.setTop (mkF m 147 #[.val (.int i0), .val (.int i1), .val (.int i2), .unset, .unset, .unset, .unset, .unset, .unset] [(.ref b1)])) _
  refine XS.dup X23.here hx rfl (hb hby at_147) rfl rfl ?_
  show Steps p.tables e below (T23.setTop (mkF m 148 #[.val (.int i0), .val (.int i1), .val (.int i2), .unset, .unset, .unset, .unset, .unset, .unset] [(.ref b1), (.ref b1)])) _
  refine XS.bipush X23.here hx rfl (hb hby at_148) ?_
  show Steps p.tables e below (T23.setTop (mkF m 150 #[.val (.int i0), .val (.int i1), .val (.int i2), .unset, .unset, .unset, .unset, .unset, .unset] [(.int (22 : Int32)), (.ref b1), (.ref b1)])) _
  refine X23.ldcInt hx hown (mvT hZ (hw _ (List.mem_of_getElem? (i := 1) rfl))) (g := (mkF m 150 #[.val (.int i0), .val (.int i1), .val (.int i2), .unset, .unset, .unset, .unset, .unset, .unset] [(.int (22 : Int32)), (.ref b1), (.ref b1)])) rfl (hb hby at_150) _ ?_
  show Steps p.tables e below (T23.setTop (mkF m 152 #[.val (.int i0), .val (.int i1), .val (.int i2), .unset, .unset, .unset, .unset, .unset, .unset] [(.int (55295 : Int32)), (.int (22 : Int32)), (.ref b1), (.ref b1)])) _
  refine st24 _ ?_
  show Steps p.tables e below (T24.setTop (mkF m 153 #[.val (.int i0), .val (.int i1), .val (.int i2), .unset, .unset, .unset, .unset, .unset, .unset] [(.ref b1)])) _
  refine XS.dup X24.here hx rfl (hb hby at_153) rfl rfl ?_
  show Steps p.tables e below (T24.setTop (mkF m 154 #[.val (.int i0), .val (.int i1), .val (.int i2), .unset, .unset, .unset, .unset, .unset, .unset] [(.ref b1), (.ref b1)])) _
  refine XS.bipush X24.here hx rfl (hb hby at_154) ?_
  show Steps p.tables e below (T24.setTop (mkF m 156 #[.val (.int i0), .val (.int i1), .val (.int i2), .unset, .unset, .unset, .unset, .unset, .unset] [(.int (23 : Int32)), (.ref b1), (.ref b1)])) _
  refine X24.ldcInt hx hown (mvT hZ (hw _ (List.mem_of_getElem? (i := 2) rfl))) (g := (mkF m 156 #[.val (.int i0), .val (.int i1), .val (.int i2), .unset, .unset, .unset, .unset, .unset, .unset] [(.int (23 : Int32)), (.ref b1), (.ref b1)])) rfl (hb hby at_156) _ ?_
  show Steps p.tables e below (T24.setTop (mkF m 158 #[.val (.int i0), .val (.int i1), .val (.int i2), .unset, .unset, .unset, .unset, .unset, .unset] [(.int (63744 : Int32)), (.int (23 : Int32)), (.ref b1), (.ref b1)])) _
  refine st25 _ ?_
  show Steps p.tables e below (T25.setTop (mkF m 159 #[.val (.int i0), .val (.int i1), .val (.int i2), .unset, .unset, .unset, .unset, .unset, .unset] [(.ref b1)])) _
  refine XS.dup X25.here hx rfl (hb hby at_159) rfl rfl ?_
  show Steps p.tables e below (T25.setTop (mkF m 160 #[.val (.int i0), .val (.int i1), .val (.int i2), .unset, .unset, .unset, .unset, .unset, .unset] [(.ref b1), (.ref b1)])) _
  refine XS.bipush X25.here hx rfl (hb hby at_160) ?_
  show Steps p.tables e below (T25.setTop (mkF m 162 #[.val (.int i0), .val (.int i1), .val (.int i2), .unset, .unset, .unset, .unset, .unset, .unset] [(.int (24 : Int32)), (.ref b1), (.ref b1)])) _
  refine X25.ldcInt hx hown (mvT hZ (hw _ (List.mem_of_getElem? (i := 3) rfl))) (g := (mkF m 162 #[.val (.int i0), .val (.int i1), .val (.int i2), .unset, .unset, .unset, .unset, .unset, .unset] [(.int (24 : Int32)), (.ref b1), (.ref b1)])) rfl (hb hby at_162) _ ?_
  show Steps p.tables e below (T25.setTop (mkF m 164 #[.val (.int i0), .val (.int i1), .val (.int i2), .unset, .unset, .unset, .unset, .unset, .unset] [(.int (64975 : Int32)), (.int (24 : Int32)), (.ref b1), (.ref b1)])) _
  refine st26 _ ?_
  show Steps p.tables e below (T26.setTop (mkF m 165 #[.val (.int i0), .val (.int i1), .val (.int i2), .unset, .unset, .unset, .unset, .unset, .unset] [(.ref b1)])) _
  refine XS.dup X26.here hx rfl (hb hby at_165) rfl rfl ?_
  show Steps p.tables e below (T26.setTop (mkF m 166 #[.val (.int i0), .val (.int i1), .val (.int i2), .unset, .unset, .unset, .unset, .unset, .unset] [(.ref b1), (.ref b1)])) _
  refine XS.bipush X26.here hx rfl (hb hby at_166) ?_
  show Steps p.tables e below (T26.setTop (mkF m 168 #[.val (.int i0), .val (.int i1), .val (.int i2), .unset, .unset, .unset, .unset, .unset, .unset] [(.int (25 : Int32)), (.ref b1), (.ref b1)])) _
  refine X26.ldcInt hx hown (mvT hZ (hw _ (List.mem_of_getElem? (i := 4) rfl))) (g := (mkF m 168 #[.val (.int i0), .val (.int i1), .val (.int i2), .unset, .unset, .unset, .unset, .unset, .unset] [(.int (25 : Int32)), (.ref b1), (.ref b1)])) rfl (hb hby at_168) _ ?_
  show Steps p.tables e below (T26.setTop (mkF m 170 #[.val (.int i0), .val (.int i1), .val (.int i2), .unset, .unset, .unset, .unset, .unset, .unset] [(.int (65008 : Int32)), (.int (25 : Int32)), (.ref b1), (.ref b1)])) _
  refine st27 _ ?_
  show Steps p.tables e below (T27.setTop (mkF m 171 #[.val (.int i0), .val (.int i1), .val (.int i2), .unset, .unset, .unset, .unset, .unset, .unset] [(.ref b1)])) _
  refine XS.dup X27.here hx rfl (hb hby at_171) rfl rfl ?_
  show Steps p.tables e below (T27.setTop (mkF m 172 #[.val (.int i0), .val (.int i1), .val (.int i2), .unset, .unset, .unset, .unset, .unset, .unset] [(.ref b1), (.ref b1)])) _
  refine XS.bipush X27.here hx rfl (hb hby at_172) ?_
  show Steps p.tables e below (T27.setTop (mkF m 174 #[.val (.int i0), .val (.int i1), .val (.int i2), .unset, .unset, .unset, .unset, .unset, .unset] [(.int (26 : Int32)), (.ref b1), (.ref b1)])) _
  refine X27.ldcInt hx hown (mvT hZ (hw _ (List.mem_of_getElem? (i := 5) rfl))) (g := (mkF m 174 #[.val (.int i0), .val (.int i1), .val (.int i2), .unset, .unset, .unset, .unset, .unset, .unset] [(.int (26 : Int32)), (.ref b1), (.ref b1)])) rfl (hb hby at_174) _ ?_
  show Steps p.tables e below (T27.setTop (mkF m 176 #[.val (.int i0), .val (.int i1), .val (.int i2), .unset, .unset, .unset, .unset, .unset, .unset] [(.int (65533 : Int32)), (.int (26 : Int32)), (.ref b1), (.ref b1)])) _
  refine st28 _ ?_
  show Steps p.tables e below (T28.setTop (mkF m 177 #[.val (.int i0), .val (.int i1), .val (.int i2), .unset, .unset, .unset, .unset, .unset, .unset] [(.ref b1)])) _
  refine XS.dup X28.here hx rfl (hb hby at_177) rfl rfl ?_
  show Steps p.tables e below (T28.setTop (mkF m 178 #[.val (.int i0), .val (.int i1), .val (.int i2), .unset, .unset, .unset, .unset, .unset, .unset] [(.ref b1), (.ref b1)])) _
  refine XS.bipush X28.here hx rfl (hb hby at_178) ?_
  show Steps p.tables e below (T28.setTop (mkF m 180 #[.val (.int i0), .val (.int i1), .val (.int i2), .unset, .unset, .unset, .unset, .unset, .unset] [(.int (27 : Int32)), (.ref b1), (.ref b1)])) _
  refine X28.ldcInt hx hown (mvT hZ (hw _ (List.mem_of_getElem? (i := 6) rfl))) (g := (mkF m 180 #[.val (.int i0), .val (.int i1), .val (.int i2), .unset, .unset, .unset, .unset, .unset, .unset] [(.int (27 : Int32)), (.ref b1), (.ref b1)])) rfl (hb hby at_180) _ ?_
  show Steps p.tables e below (T28.setTop (mkF m 182 #[.val (.int i0), .val (.int i1), .val (.int i2), .unset, .unset, .unset, .unset, .unset, .unset] [(.int (65536 : Int32)), (.int (27 : Int32)), (.ref b1), (.ref b1)])) _
  refine st29 _ ?_
  show Steps p.tables e below (T29.setTop (mkF m 183 #[.val (.int i0), .val (.int i1), .val (.int i2), .unset, .unset, .unset, .unset, .unset, .unset] [(.ref b1)])) _
  refine XS.dup X29.here hx rfl (hb hby at_183) rfl rfl ?_
  show Steps p.tables e below (T29.setTop (mkF m 184 #[.val (.int i0), .val (.int i1), .val (.int i2), .unset, .unset, .unset, .unset, .unset, .unset] [(.ref b1), (.ref b1)])) _
  refine XS.bipush X29.here hx rfl (hb hby at_184) ?_
  show Steps p.tables e below (T29.setTop (mkF m 186 #[.val (.int i0), .val (.int i1), .val (.int i2), .unset, .unset, .unset, .unset, .unset, .unset] [(.int (28 : Int32)), (.ref b1), (.ref b1)])) _
  refine X29.ldcInt hx hown (mvT hZ (hw _ (List.mem_of_getElem? (i := 7) rfl))) (g := (mkF m 186 #[.val (.int i0), .val (.int i1), .val (.int i2), .unset, .unset, .unset, .unset, .unset, .unset] [(.int (28 : Int32)), (.ref b1), (.ref b1)])) rfl (hb hby at_186) _ ?_
  show Steps p.tables e below (T29.setTop (mkF m 188 #[.val (.int i0), .val (.int i1), .val (.int i2), .unset, .unset, .unset, .unset, .unset, .unset] [(.int (983039 : Int32)), (.int (28 : Int32)), (.ref b1), (.ref b1)])) _
  refine st30 _ ?_
  show Steps p.tables e below (T30.setTop (mkF m 189 #[.val (.int i0), .val (.int i1), .val (.int i2), .unset, .unset, .unset, .unset, .unset, .unset] [(.ref b1)])) _
  refine XS.dup X30.here hx rfl (hb hby at_189) rfl rfl ?_
  show Steps p.tables e below (T30.setTop (mkF m 190 #[.val (.int i0), .val (.int i1), .val (.int i2), .unset, .unset, .unset, .unset, .unset, .unset] [(.ref b1), (.ref b1)])) _
  refine XS.bipush X30.here hx rfl (hb hby at_190) ?_
  show Steps p.tables e below (T30.setTop (mkF m 192 #[.val (.int i0), .val (.int i1), .val (.int i2), .unset, .unset, .unset, .unset, .unset, .unset] [(.int (29 : Int32)), (.ref b1), (.ref b1)])) _
  refine XS.bipush X30.here hx rfl (hb hby at_192) ?_
  show Steps p.tables e below (T30.setTop (mkF m 194 #[.val (.int i0), .val (.int i1), .val (.int i2), .unset, .unset, .unset, .unset, .unset, .unset] [(.int (58 : Int32)), (.int (29 : Int32)), (.ref b1), (.ref b1)])) _
  refine st31 _ ?_
  show Steps p.tables e below (T31.setTop (mkF m 195 #[.val (.int i0), .val (.int i1), .val (.int i2), .unset, .unset, .unset, .unset, .unset, .unset] [(.ref b1)])) _
  refine XS.dup X31.here hx rfl (hb hby at_195) rfl rfl ?_
  show Steps p.tables e below (T31.setTop (mkF m 196 #[.val (.int i0), .val (.int i1), .val (.int i2), .unset, .unset, .unset, .unset, .unset, .unset] [(.ref b1), (.ref b1)])) _
  refine XS.bipush X31.here hx rfl (hb hby at_196) ?_
  show Steps p.tables e below (T31.setTop (mkF m 198 #[.val (.int i0), .val (.int i1), .val (.int i2), .unset, .unset, .unset, .unset, .unset, .unset] [(.int (30 : Int32)), (.ref b1), (.ref b1)])) _
  refine XS.iconst X31.here hx rfl (hb hby at_198) ?_
  show Steps p.tables e below (T31.setTop (mkF m 199 #[.val (.int i0), .val (.int i1), .val (.int i2), .unset, .unset, .unset, .unset, .unset, .unset] [(.int (0 : Int32)), (.int (30 : Int32)), (.ref b1), (.ref b1)])) _
  refine st32 _ ?_
  show Steps p.tables e below (T32.setTop (mkF m 200 #[.val (.int i0), .val (.int i1), .val (.int i2), .unset, .unset, .unset, .unset, .unset, .unset] [(.ref b1)])) _
  refine XS.dup X32.here hx rfl (hb hby at_200) rfl rfl ?_
  show Steps p.tables e below (T32.setTop (mkF m 201 #[.val (.int i0), .val (.int i1), .val (.int i2), .unset, .unset, .unset, .unset, .unset, .unset] [(.ref b1), (.ref b1)])) _
  refine XS.bipush X32.here hx rfl (hb hby at_201) ?_
  show Steps p.tables e below (T32.setTop (mkF m 203 #[.val (.int i0), .val (.int i1), .val (.int i2), .unset, .unset, .unset, .unset, .unset, .unset] [(.int (31 : Int32)), (.ref b1), (.ref b1)])) _
  refine X32.ldcInt hx hown (mvT hZ (hw _ (List.mem_of_getElem? (i := 8) rfl))) (g := (mkF m 203 #[.val (.int i0), .val (.int i1), .val (.int i2), .unset, .unset, .unset, .unset, .unset, .unset] [(.int (31 : Int32)), (.ref b1), (.ref b1)])) rfl (hb hby at_203) _ ?_
  show Steps p.tables e below (T32.setTop (mkF m 205 #[.val (.int i0), .val (.int i1), .val (.int i2), .unset, .unset, .unset, .unset, .unset, .unset] [(.int (-2147483648 : Int32)), (.int (31 : Int32)), (.ref b1), (.ref b1)])) _
  refine st33 _ ?_
  show Steps p.tables e below (T33.setTop (mkF m 206 #[.val (.int i0), .val (.int i1), .val (.int i2), .unset, .unset, .unset, .unset, .unset, .unset] [(.ref b1)])) _
  refine XS.dup X33.here hx rfl (hb hby at_206) rfl rfl ?_
  show Steps p.tables e below (T33.setTop (mkF m 207 #[.val (.int i0), .val (.int i1), .val (.int i2), .unset, .unset, .unset, .unset, .unset, .unset] [(.ref b1), (.ref b1)])) _
  refine XS.bipush X33.here hx rfl (hb hby at_207) ?_
  show Steps p.tables e below (T33.setTop (mkF m 209 #[.val (.int i0), .val (.int i1), .val (.int i2), .unset, .unset, .unset, .unset, .unset, .unset] [(.int (32 : Int32)), (.ref b1), (.ref b1)])) _
  refine X33.ldcInt hx hown (mvT hZ (hw _ (List.mem_of_getElem? (i := 9) rfl))) (g := (mkF m 209 #[.val (.int i0), .val (.int i1), .val (.int i2), .unset, .unset, .unset, .unset, .unset, .unset] [(.int (32 : Int32)), (.ref b1), (.ref b1)])) rfl (hb hby at_209) _ ?_
  show Steps p.tables e below (T33.setTop (mkF m 211 #[.val (.int i0), .val (.int i1), .val (.int i2), .unset, .unset, .unset, .unset, .unset, .unset] [(.int (2147483647 : Int32)), (.int (32 : Int32)), (.ref b1), (.ref b1)])) _
  refine st34 _ ?_
  show Steps p.tables e below (T34.setTop (mkF m 212 #[.val (.int i0), .val (.int i1), .val (.int i2), .unset, .unset, .unset, .unset, .unset, .unset] [(.ref b1)])) _
  refine XS.astoreN X34.here hx rfl (hb hby at_212) rfl rfl (l' := #[.val (.int i0), .val (.int i1), .val (.int i2), .val (.ref b1), .unset, .unset, .unset, .unset, .unset]) rfl ?_
  exact kt
theorem own_inrem (x n : Int32) (hn : 0 < n) : ¬ ((x &&& (2147483647 : Int32)) % n) < 0 ∧ ((x &&& (2147483647 : Int32)) % n) < n := by
  have h := c_mask x (2147483647 : Int32) 31 (by decide) (by decide)
  have h1 : 0 ≤ (x &&& (2147483647 : Int32)).toInt := by rw [h]; omega
  have e0 : (0 : Int32).toInt = 0 := rfl
  rw [Int32.lt_iff_toInt_lt, e0] at hn
  obtain ⟨a, b, -⟩ := (c_iremV (x &&& (2147483647 : Int32)) n).1 h1 hn
  simp only [Int32.lt_iff_toInt_lt, e0]
  omega

theorem own_pd_I_Z : parseMethodDescriptor "(I)Z" = some ⟨[.int], some .boolean⟩ := by decide +kernel
def f0_293 (i0 : Int32) (i1 : Int32) (i2 : Int32) (i4 : Int32) (i5 : Int32) (i6 : Int32) (i7 : Int32) (i8 : Int32) : Bool := false
set_option maxRecDepth 65536 in
set_option maxHeartbeats 4000000 in
theorem b0_293 {p : Program} {l : Launch} {e : Env} {s : State} {m : MethodId} {args : Array Value} {below : List Frame} {meth : Method} {c : Code} {T0 : State} {locs : List Loc} {Z : State} {a0 : Array Value} {h0 : Heap} {n0 : Nat} {k1 : ClassId} (i0 : Int32) (i1 : Int32) (i2 : Int32) (b1 : Addr) (i4 : Int32) (i5 : Int32) (i6 : Int32) (i7 : Int32) (i8 : Int32) (X0 : Stand p l e room_1 s m args below meth c T0 locs 1 33) (hx : p.tables.exec = Jvm.exec) (hZ : Z.Warmed39 s.vm) (hw : ∀ d ∈ tables_1, d.before a0 Z = true) (hby : c.code = code) (hml : c.maxLocals = 9) (hown : s.vm.findClass "com/example/moth/moth/core/value/XmlNamesIsNameStartPinLaw" = some m.cls) (e0 : T0.heap = h0) (N0 : Fr n0 locs) (Z0 : n0 ≤ h0.size) (V1 : Arv Z h0 b1 k1 .int (33 : Int32) (own_vals0.map Value.int) (.int 0)) :
    own_Ret p l e room_1 s m args below meth c h0 n0 1 33 T0 (mkF m 293 #[.val (.int i0), .val (.int i1), .val (.int i2), .val (.ref b1), .val (.int i4), .val (.int i5), .val (.int i6), .val (.int i7), .val (.int i8)] []) (own_b (f0_293 i0 i1 i2 i4 i5 i6 i7 i8)) := by
  unfold f0_293
  refine own_step (T1 := T0) (g1 := (mkF m 294 #[.val (.int i0), .val (.int i1), .val (.int i2), .val (.ref b1), .val (.int i4), .val (.int i5), .val (.int i6), .val (.int i7), .val (.int i8)] [(.int (0 : Int32))])) (fun _ k => XS.iconst X0.here hx rfl (hb hby at_293) k) ?_
  exact ⟨_, _, 294, _, X0, e0, N0, (hb hby at_294), fun _ k => k⟩
def f0_277 (i0 : Int32) (i1 : Int32) (i2 : Int32) (i4 : Int32) (i5 : Int32) (i6 : Int32) (i7 : Int32) (k0 : Int32) : Bool := (if i7 = (0 : Int32) then (f0_293 i0 i1 i2 i4 i5 i6 i7 k0) else (if k0 = (0 : Int32) then (f0_293 i0 i1 i2 i4 i5 i6 i7 k0) else true))
set_option maxRecDepth 65536 in
set_option maxHeartbeats 4000000 in
theorem b0_277 {p : Program} {l : Launch} {e : Env} {s : State} {m : MethodId} {args : Array Value} {below : List Frame} {meth : Method} {c : Code} {T0 : State} {locs : List Loc} {Z : State} {a0 : Array Value} {h0 : Heap} {n0 : Nat} {k1 : ClassId} (i0 : Int32) (i1 : Int32) (i2 : Int32) (b1 : Addr) (i4 : Int32) (i5 : Int32) (i6 : Int32) (i7 : Int32) (k0 : Int32) (X0 : Stand p l e room_1 s m args below meth c T0 locs 1 33) (hx : p.tables.exec = Jvm.exec) (hZ : Z.Warmed39 s.vm) (hw : ∀ d ∈ tables_1, d.before a0 Z = true) (hby : c.code = code) (hml : c.maxLocals = 9) (hown : s.vm.findClass "com/example/moth/moth/core/value/XmlNamesIsNameStartPinLaw" = some m.cls) (e0 : T0.heap = h0) (N0 : Fr n0 locs) (Z0 : n0 ≤ h0.size) (V1 : Arv Z h0 b1 k1 .int (33 : Int32) (own_vals0.map Value.int) (.int 0)) :
    own_Ret p l e room_1 s m args below meth c h0 n0 1 33 T0 (mkF m 277 #[.val (.int i0), .val (.int i1), .val (.int i2), .val (.ref b1), .val (.int i4), .val (.int i5), .val (.int i6), .val (.int i7), .unset] [(.int k0)]) (own_b (f0_277 i0 i1 i2 i4 i5 i6 i7 k0)) := by
  unfold f0_277
  refine own_step (T1 := T0) (g1 := (mkF m 279 #[.val (.int i0), .val (.int i1), .val (.int i2), .val (.ref b1), .val (.int i4), .val (.int i5), .val (.int i6), .val (.int i7), .val (.int k0)] [])) (fun _ k => XS.istore X0.here hx rfl (hb hby at_277) rfl (l' := #[.val (.int i0), .val (.int i1), .val (.int i2), .val (.ref b1), .val (.int i4), .val (.int i5), .val (.int i6), .val (.int i7), .val (.int k0)]) rfl k) ?_
  refine own_step (T1 := T0) (g1 := (mkF m 281 #[.val (.int i0), .val (.int i1), .val (.int i2), .val (.ref b1), .val (.int i4), .val (.int i5), .val (.int i6), .val (.int i7), .val (.int k0)] [(.int i7)])) (fun _ k => XS.iload X0.here hx rfl (hb hby at_279) rfl k) ?_
  by_cases hc281 : i7 = (0 : Int32)
  · rw [if_pos hc281]
    refine own_step (T1 := T0) (g1 := (mkF m 293 #[.val (.int i0), .val (.int i1), .val (.int i2), .val (.ref b1), .val (.int i4), .val (.int i5), .val (.int i6), .val (.int i7), .val (.int k0)] [])) (fun _ k => XS.ifYes X0.here hx rfl (pc0 := 281) (pc' := 293) rfl (hb hby at_281) rfl ((if0 _ _).trans (teq hc281).1) (by decide) (by decide) k) ?_
    exact b0_293 i0 i1 i2 b1 i4 i5 i6 i7 k0 X0 hx hZ hw hby hml hown e0 N0 Z0 V1
  · rw [if_neg hc281]
    refine own_step (T1 := T0) (g1 := (mkF m 284 #[.val (.int i0), .val (.int i1), .val (.int i2), .val (.ref b1), .val (.int i4), .val (.int i5), .val (.int i6), .val (.int i7), .val (.int k0)] [])) (fun _ k => XS.ifNo X0.here hx rfl (hb hby at_281) rfl ((if0 _ _).trans (feq hc281).1) k) ?_
    refine own_step (T1 := T0) (g1 := (mkF m 286 #[.val (.int i0), .val (.int i1), .val (.int i2), .val (.ref b1), .val (.int i4), .val (.int i5), .val (.int i6), .val (.int i7), .val (.int k0)] [(.int k0)])) (fun _ k => XS.iload X0.here hx rfl (hb hby at_284) rfl k) ?_
    by_cases hc286 : k0 = (0 : Int32)
    · rw [if_pos hc286]
      refine own_step (T1 := T0) (g1 := (mkF m 293 #[.val (.int i0), .val (.int i1), .val (.int i2), .val (.ref b1), .val (.int i4), .val (.int i5), .val (.int i6), .val (.int i7), .val (.int k0)] [])) (fun _ k => XS.ifYes X0.here hx rfl (pc0 := 286) (pc' := 293) rfl (hb hby at_286) rfl ((if0 _ _).trans (teq hc286).1) (by decide) (by decide) k) ?_
      exact b0_293 i0 i1 i2 b1 i4 i5 i6 i7 k0 X0 hx hZ hw hby hml hown e0 N0 Z0 V1
    · rw [if_neg hc286]
      refine own_step (T1 := T0) (g1 := (mkF m 289 #[.val (.int i0), .val (.int i1), .val (.int i2), .val (.ref b1), .val (.int i4), .val (.int i5), .val (.int i6), .val (.int i7), .val (.int k0)] [])) (fun _ k => XS.ifNo X0.here hx rfl (hb hby at_286) rfl ((if0 _ _).trans (feq hc286).1) k) ?_
      refine own_step (T1 := T0) (g1 := (mkF m 290 #[.val (.int i0), .val (.int i1), .val (.int i2), .val (.ref b1), .val (.int i4), .val (.int i5), .val (.int i6), .val (.int i7), .val (.int k0)] [(.int (1 : Int32))])) (fun _ k => XS.iconst X0.here hx rfl (hb hby at_289) k) ?_
      refine own_step (T1 := T0) (g1 := (mkF m 294 #[.val (.int i0), .val (.int i1), .val (.int i2), .val (.ref b1), .val (.int i4), .val (.int i5), .val (.int i6), .val (.int i7), .val (.int k0)] [(.int (1 : Int32))])) (fun _ k => XS.goto X0.here hx rfl (pc0 := 290) (pc' := 294) rfl (hb hby at_290) (by decide) (by decide) k) ?_
      exact ⟨_, _, 294, _, X0, e0, N0, (hb hby at_294), fun _ k => k⟩
def f0_257 (i0 : Int32) (i1 : Int32) (i2 : Int32) (i4 : Int32) (i5 : Int32) (i6 : Int32) (k0 : Int32) : Bool := (if (own_b (f1_0 i6)) = (own_b (f2_0 i6)) then (f0_277 i0 i1 i2 i4 i5 i6 k0 (1 : Int32)) else (f0_277 i0 i1 i2 i4 i5 i6 k0 (0 : Int32)))
set_option maxRecDepth 65536 in
set_option maxHeartbeats 4000000 in
theorem b0_257 {p : Program} {l : Launch} {e : Env} {s : State} {m : MethodId} {args : Array Value} {below : List Frame} {meth : Method} {c : Code} {T0 : State} {locs : List Loc} {Z : State} {a0 : Array Value} {h0 : Heap} {n0 : Nat} {k1 : ClassId} (i0 : Int32) (i1 : Int32) (i2 : Int32) (b1 : Addr) (i4 : Int32) (i5 : Int32) (i6 : Int32) (k0 : Int32) (X0 : Stand p l e room_1 s m args below meth c T0 locs 1 33) (hx : p.tables.exec = Jvm.exec) (hZ : Z.Warmed39 s.vm) (hw : ∀ d ∈ tables_1, d.before a0 Z = true) (hby : c.code = code) (hml : c.maxLocals = 9) (hown : s.vm.findClass "com/example/moth/moth/core/value/XmlNamesIsNameStartPinLaw" = some m.cls) (e0 : T0.heap = h0) (N0 : Fr n0 locs) (Z0 : n0 ≤ h0.size) (V1 : Arv Z h0 b1 k1 .int (33 : Int32) (own_vals0.map Value.int) (.int 0)) :
    own_Ret p l e room_1 s m args below meth c h0 n0 1 33 T0 (mkF m 257 #[.val (.int i0), .val (.int i1), .val (.int i2), .val (.ref b1), .val (.int i4), .val (.int i5), .val (.int i6), .unset, .unset] [(.int k0)]) (own_b (f0_257 i0 i1 i2 i4 i5 i6 k0)) := by
  unfold f0_257
  refine own_step (T1 := T0) (g1 := (mkF m 259 #[.val (.int i0), .val (.int i1), .val (.int i2), .val (.ref b1), .val (.int i4), .val (.int i5), .val (.int i6), .val (.int k0), .unset] [])) (fun _ k => XS.istore X0.here hx rfl (hb hby at_257) rfl (l' := #[.val (.int i0), .val (.int i1), .val (.int i2), .val (.ref b1), .val (.int i4), .val (.int i5), .val (.int i6), .val (.int k0), .unset]) rfl k) ?_
  refine own_step (T1 := T0) (g1 := (mkF m 261 #[.val (.int i0), .val (.int i1), .val (.int i2), .val (.ref b1), .val (.int i4), .val (.int i5), .val (.int i6), .val (.int k0), .unset] [(.int i6)])) (fun _ k => XS.iload X0.here hx rfl (hb hby at_259) rfl k) ?_
  obtain ⟨_, _, ⟨T1, L1, k1, n1⟩, -, X1, ⟨Lc1, hQ1, l1, y1, z1⟩, st1⟩ := Jvm.LawKit.callS X0 hx (y := (⟨"com/example/moth/moth/core/value/XmlNames", "isNameStart", "(I)Z"⟩ : MethodName)) hown (mvT hZ (hw _ (List.mem_of_getElem? (i := 10) rfl))) (mvT hZ (hw _ (List.mem_of_getElem? (i := 11) rfl))) (mvT hZ (hw _ (List.mem_of_getElem? (i := 12) rfl))) (mvT hZ (hw _ (List.mem_of_getElem? (i := 13) rfl))) (by decide) (backOf (W := 0) (rm1 l Z a0 hw [] i6 h0 n0 Z0) hZ (hw _ (List.mem_of_getElem? (i := 13) rfl)) (hw _ (List.mem_of_getElem? (i := 12) rfl)) (by decide) (by decide)) (g := (mkF m 261 #[.val (.int i0), .val (.int i1), .val (.int i2), .val (.ref b1), .val (.int i4), .val (.int i5), .val (.int i6), .val (.int k0), .unset] [(.int i6)])) rfl (by rw [hml]; rfl) (argsL := [(.int i6)]) (rest := []) (lenOf own_pd_I_Z rfl) rfl (by show 2 * 0 + _ ≤ _; exact Nat.le_of_eq rfl) (hb hby at_261) (fun _ _ => ⟨rfl, e0, (by decide : 1 + 0 ≤ _), (by decide : 33 + 0 ≤ _)⟩)
  dsimp only [Pt.U, Pt.locs, Pt.cells, Pt.slots] at X1 l1 y1 z1 st1 hQ1
  subst l1 y1 z1
  obtain ⟨rfl, N1q, e1⟩ := hQ1
  have N1 := Fr.app N0 N1q
  refine own_step (T1 := T1) (g1 := (mkF m 264 #[.val (.int i0), .val (.int i1), .val (.int i2), .val (.ref b1), .val (.int i4), .val (.int i5), .val (.int i6), .val (.int k0), .unset] [(.int (own_b (f1_0 i6)))])) (fun t k => st1 t k) ?_
  refine own_step (T1 := T1) (g1 := (mkF m 266 #[.val (.int i0), .val (.int i1), .val (.int i2), .val (.ref b1), .val (.int i4), .val (.int i5), .val (.int i6), .val (.int k0), .unset] [(.int i6), (.int (own_b (f1_0 i6)))])) (fun _ k => XS.iload X1.here hx rfl (hb hby at_264) rfl k) ?_
  obtain ⟨_, _, ⟨T2, L2, k2, n2⟩, -, X2, ⟨Lc2, hQ2, l2, y2, z2⟩, st2⟩ := Jvm.LawKit.callS X1 hx (y := (⟨"com/example/moth/moth/core/value/XmlNamesIsNameStartPinLaw", "reference", "(I)Z"⟩ : MethodName)) hown (mvT hZ (hw _ (List.mem_of_getElem? (i := 17) rfl))) (mvT hZ (hw _ (List.mem_of_getElem? (i := 18) rfl))) (mvT hZ (hw _ (List.mem_of_getElem? (i := 19) rfl))) (mvT hZ (hw _ (List.mem_of_getElem? (i := 20) rfl))) (by decide) (backOf (W := 1) (rm2 l Z a0 hw [] i6 h0 n0 Z0) hZ (hw _ (List.mem_of_getElem? (i := 20) rfl)) (hw _ (List.mem_of_getElem? (i := 19) rfl)) (by decide) (by decide)) (g := (mkF m 266 #[.val (.int i0), .val (.int i1), .val (.int i2), .val (.ref b1), .val (.int i4), .val (.int i5), .val (.int i6), .val (.int k0), .unset] [(.int i6), (.int (own_b (f1_0 i6)))])) rfl (by rw [hml]; rfl) (argsL := [(.int i6)]) (rest := [(.int (own_b (f1_0 i6)))]) (lenOf own_pd_I_Z rfl) rfl (by show 2 * 0 + _ ≤ _; exact Nat.le_of_eq rfl) (hb hby at_266) (fun _ _ => ⟨rfl, e1, (by decide : 1 + 0 ≤ _), (by decide : 33 + 0 ≤ _)⟩)
  dsimp only [Pt.U, Pt.locs, Pt.cells, Pt.slots] at X2 l2 y2 z2 st2 hQ2
  subst l2 y2 z2
  obtain ⟨rfl, N2q, e2⟩ := hQ2
  have N2 := Fr.app N1 N2q
  refine own_step (T1 := T2) (g1 := (mkF m 269 #[.val (.int i0), .val (.int i1), .val (.int i2), .val (.ref b1), .val (.int i4), .val (.int i5), .val (.int i6), .val (.int k0), .unset] [(.int (own_b (f2_0 i6))), (.int (own_b (f1_0 i6)))])) (fun t k => st2 t k) ?_
  by_cases hc269 : (own_b (f1_0 i6)) = (own_b (f2_0 i6))
  · rw [if_pos hc269]
    refine own_step (T1 := T2) (g1 := (mkF m 272 #[.val (.int i0), .val (.int i1), .val (.int i2), .val (.ref b1), .val (.int i4), .val (.int i5), .val (.int i6), .val (.int k0), .unset] [])) (fun _ k => XS.icmpNo X2.here hx rfl (hb hby at_269) rfl (teq hc269).2 k) ?_
    refine own_step (T1 := T2) (g1 := (mkF m 273 #[.val (.int i0), .val (.int i1), .val (.int i2), .val (.ref b1), .val (.int i4), .val (.int i5), .val (.int i6), .val (.int k0), .unset] [(.int (1 : Int32))])) (fun _ k => XS.iconst X2.here hx rfl (hb hby at_272) k) ?_
    refine own_step (T1 := T2) (g1 := (mkF m 277 #[.val (.int i0), .val (.int i1), .val (.int i2), .val (.ref b1), .val (.int i4), .val (.int i5), .val (.int i6), .val (.int k0), .unset] [(.int (1 : Int32))])) (fun _ k => XS.goto X2.here hx rfl (pc0 := 273) (pc' := 277) rfl (hb hby at_273) (by decide) (by decide) k) ?_
    exact b0_277 i0 i1 i2 b1 i4 i5 i6 k0 (1 : Int32) X2 hx hZ hw hby hml hown e2 N2 Z0 V1
  · rw [if_neg hc269]
    refine own_step (T1 := T2) (g1 := (mkF m 276 #[.val (.int i0), .val (.int i1), .val (.int i2), .val (.ref b1), .val (.int i4), .val (.int i5), .val (.int i6), .val (.int k0), .unset] [])) (fun _ k => XS.icmpYes X2.here hx rfl (pc0 := 269) (pc' := 276) rfl (hb hby at_269) rfl (feq hc269).2 (by decide) (by decide) k) ?_
    refine own_step (T1 := T2) (g1 := (mkF m 277 #[.val (.int i0), .val (.int i1), .val (.int i2), .val (.ref b1), .val (.int i4), .val (.int i5), .val (.int i6), .val (.int k0), .unset] [(.int (0 : Int32))])) (fun _ k => XS.iconst X2.here hx rfl (hb hby at_276) k) ?_
    exact b0_277 i0 i1 i2 b1 i4 i5 i6 k0 (0 : Int32) X2 hx hZ hw hby hml hown e2 N2 Z0 V1
def f0_213 (i0 : Int32) (i1 : Int32) (i2 : Int32) : Bool := (if (own_b (f1_0 i0)) = (own_b (f2_0 i0)) then (f0_257 i0 i1 i2 ((i1 &&& (2147483647 : Int32)) % (33 : Int32)) (((i2 &&& (2147483647 : Int32)) % (3 : Int32)) - (1 : Int32)) ((own_vals0.getD (((i1 &&& (2147483647 : Int32)) % (33 : Int32))).toNatClampNeg 0) + (((i2 &&& (2147483647 : Int32)) % (3 : Int32)) - (1 : Int32))) (1 : Int32)) else (f0_257 i0 i1 i2 ((i1 &&& (2147483647 : Int32)) % (33 : Int32)) (((i2 &&& (2147483647 : Int32)) % (3 : Int32)) - (1 : Int32)) ((own_vals0.getD (((i1 &&& (2147483647 : Int32)) % (33 : Int32))).toNatClampNeg 0) + (((i2 &&& (2147483647 : Int32)) % (3 : Int32)) - (1 : Int32))) (0 : Int32)))
set_option maxRecDepth 65536 in
set_option maxHeartbeats 4000000 in
theorem b0_213 {p : Program} {l : Launch} {e : Env} {s : State} {m : MethodId} {args : Array Value} {below : List Frame} {meth : Method} {c : Code} {T0 : State} {locs : List Loc} {Z : State} {a0 : Array Value} {h0 : Heap} {n0 : Nat} {k1 : ClassId} (i0 : Int32) (i1 : Int32) (i2 : Int32) (b1 : Addr) (X0 : Stand p l e room_1 s m args below meth c T0 locs 1 33) (hx : p.tables.exec = Jvm.exec) (hZ : Z.Warmed39 s.vm) (hw : ∀ d ∈ tables_1, d.before a0 Z = true) (hby : c.code = code) (hml : c.maxLocals = 9) (hown : s.vm.findClass "com/example/moth/moth/core/value/XmlNamesIsNameStartPinLaw" = some m.cls) (e0 : T0.heap = h0) (N0 : Fr n0 locs) (Z0 : n0 ≤ h0.size) (V1 : Arv Z h0 b1 k1 .int (33 : Int32) (own_vals0.map Value.int) (.int 0)) :
    own_Ret p l e room_1 s m args below meth c h0 n0 1 33 T0 (mkF m 213 #[.val (.int i0), .val (.int i1), .val (.int i2), .val (.ref b1), .unset, .unset, .unset, .unset, .unset] []) (own_b (f0_213 i0 i1 i2)) := by
  unfold f0_213
  refine own_step (T1 := T0) (g1 := (mkF m 214 #[.val (.int i0), .val (.int i1), .val (.int i2), .val (.ref b1), .unset, .unset, .unset, .unset, .unset] [(.int i1)])) (fun _ k => XS.iloadN X0.here hx rfl (hb hby at_213) rfl k) ?_
  refine own_step (T1 := T0) (g1 := (mkF m 216 #[.val (.int i0), .val (.int i1), .val (.int i2), .val (.ref b1), .unset, .unset, .unset, .unset, .unset] [(.int (2147483647 : Int32)), (.int i1)])) (fun _ k => X0.ldcInt hx hown (mvT hZ (hw _ (List.mem_of_getElem? (i := 9) rfl))) (g := (mkF m 214 #[.val (.int i0), .val (.int i1), .val (.int i2), .val (.ref b1), .unset, .unset, .unset, .unset, .unset] [(.int i1)])) rfl (hb hby at_214) _ k) ?_
  refine own_step (T1 := T0) (g1 := (mkF m 217 #[.val (.int i0), .val (.int i1), .val (.int i2), .val (.ref b1), .unset, .unset, .unset, .unset, .unset] [(.int (i1 &&& (2147483647 : Int32)))])) (fun _ k => XS.iand X0.here hx rfl (hb hby at_216) rfl k) ?_
  refine own_step (T1 := T0) (g1 := (mkF m 218 #[.val (.int i0), .val (.int i1), .val (.int i2), .val (.ref b1), .unset, .unset, .unset, .unset, .unset] [(.ref b1), (.int (i1 &&& (2147483647 : Int32)))])) (fun _ k => XS.aloadN X0.here hx rfl (hb hby at_217) rfl rfl k) ?_
  obtain ⟨cl3, Ar3, -, S3, N3, -, -⟩ := id V1
  refine own_step (T1 := T0) (g1 := (mkF m 219 #[.val (.int i0), .val (.int i1), .val (.int i2), .val (.ref b1), .unset, .unset, .unset, .unset, .unset] [(.int (33 : Int32)), (.int (i1 &&& (2147483647 : Int32)))])) (fun _ k => X0.arraylength hx (by rw [e0]; exact Ar3.1) (State.isArrayOf_alike hZ.alike Ar3.2.1) (g := (mkF m 218 #[.val (.int i0), .val (.int i1), .val (.int i2), .val (.ref b1), .unset, .unset, .unset, .unset, .unset] [(.ref b1), (.int (i1 &&& (2147483647 : Int32)))])) rfl rfl (hb hby at_218) _ (by rw [len_of S3 N3]; exact k)) ?_
  refine own_step (T1 := T0) (g1 := (mkF m 220 #[.val (.int i0), .val (.int i1), .val (.int i2), .val (.ref b1), .unset, .unset, .unset, .unset, .unset] [(.int ((i1 &&& (2147483647 : Int32)) % (33 : Int32)))])) (fun _ k => iremM X0 hx rfl (hb hby at_219) rfl (by decide) k) ?_
  refine own_step (T1 := T0) (g1 := (mkF m 222 #[.val (.int i0), .val (.int i1), .val (.int i2), .val (.ref b1), .val (.int ((i1 &&& (2147483647 : Int32)) % (33 : Int32))), .unset, .unset, .unset, .unset] [])) (fun _ k => XS.istore X0.here hx rfl (hb hby at_220) rfl (l' := #[.val (.int i0), .val (.int i1), .val (.int i2), .val (.ref b1), .val (.int ((i1 &&& (2147483647 : Int32)) % (33 : Int32))), .unset, .unset, .unset, .unset]) rfl k) ?_
  refine own_step (T1 := T0) (g1 := (mkF m 223 #[.val (.int i0), .val (.int i1), .val (.int i2), .val (.ref b1), .val (.int ((i1 &&& (2147483647 : Int32)) % (33 : Int32))), .unset, .unset, .unset, .unset] [(.int i2)])) (fun _ k => XS.iloadN X0.here hx rfl (hb hby at_222) rfl k) ?_
  refine own_step (T1 := T0) (g1 := (mkF m 225 #[.val (.int i0), .val (.int i1), .val (.int i2), .val (.ref b1), .val (.int ((i1 &&& (2147483647 : Int32)) % (33 : Int32))), .unset, .unset, .unset, .unset] [(.int (2147483647 : Int32)), (.int i2)])) (fun _ k => X0.ldcInt hx hown (mvT hZ (hw _ (List.mem_of_getElem? (i := 9) rfl))) (g := (mkF m 223 #[.val (.int i0), .val (.int i1), .val (.int i2), .val (.ref b1), .val (.int ((i1 &&& (2147483647 : Int32)) % (33 : Int32))), .unset, .unset, .unset, .unset] [(.int i2)])) rfl (hb hby at_223) _ k) ?_
  refine own_step (T1 := T0) (g1 := (mkF m 226 #[.val (.int i0), .val (.int i1), .val (.int i2), .val (.ref b1), .val (.int ((i1 &&& (2147483647 : Int32)) % (33 : Int32))), .unset, .unset, .unset, .unset] [(.int (i2 &&& (2147483647 : Int32)))])) (fun _ k => XS.iand X0.here hx rfl (hb hby at_225) rfl k) ?_
  refine own_step (T1 := T0) (g1 := (mkF m 227 #[.val (.int i0), .val (.int i1), .val (.int i2), .val (.ref b1), .val (.int ((i1 &&& (2147483647 : Int32)) % (33 : Int32))), .unset, .unset, .unset, .unset] [(.int (3 : Int32)), (.int (i2 &&& (2147483647 : Int32)))])) (fun _ k => XS.iconst X0.here hx rfl (hb hby at_226) k) ?_
  refine own_step (T1 := T0) (g1 := (mkF m 228 #[.val (.int i0), .val (.int i1), .val (.int i2), .val (.ref b1), .val (.int ((i1 &&& (2147483647 : Int32)) % (33 : Int32))), .unset, .unset, .unset, .unset] [(.int ((i2 &&& (2147483647 : Int32)) % (3 : Int32)))])) (fun _ k => iremM X0 hx rfl (hb hby at_227) rfl (by decide) k) ?_
  refine own_step (T1 := T0) (g1 := (mkF m 229 #[.val (.int i0), .val (.int i1), .val (.int i2), .val (.ref b1), .val (.int ((i1 &&& (2147483647 : Int32)) % (33 : Int32))), .unset, .unset, .unset, .unset] [(.int (1 : Int32)), (.int ((i2 &&& (2147483647 : Int32)) % (3 : Int32)))])) (fun _ k => XS.iconst X0.here hx rfl (hb hby at_228) k) ?_
  refine own_step (T1 := T0) (g1 := (mkF m 230 #[.val (.int i0), .val (.int i1), .val (.int i2), .val (.ref b1), .val (.int ((i1 &&& (2147483647 : Int32)) % (33 : Int32))), .unset, .unset, .unset, .unset] [(.int (((i2 &&& (2147483647 : Int32)) % (3 : Int32)) - (1 : Int32)))])) (fun _ k => XS.isub X0.here hx rfl (hb hby at_229) rfl k) ?_
  refine own_step (T1 := T0) (g1 := (mkF m 232 #[.val (.int i0), .val (.int i1), .val (.int i2), .val (.ref b1), .val (.int ((i1 &&& (2147483647 : Int32)) % (33 : Int32))), .val (.int (((i2 &&& (2147483647 : Int32)) % (3 : Int32)) - (1 : Int32))), .unset, .unset, .unset] [])) (fun _ k => XS.istore X0.here hx rfl (hb hby at_230) rfl (l' := #[.val (.int i0), .val (.int i1), .val (.int i2), .val (.ref b1), .val (.int ((i1 &&& (2147483647 : Int32)) % (33 : Int32))), .val (.int (((i2 &&& (2147483647 : Int32)) % (3 : Int32)) - (1 : Int32))), .unset, .unset, .unset]) rfl k) ?_
  refine own_step (T1 := T0) (g1 := (mkF m 233 #[.val (.int i0), .val (.int i1), .val (.int i2), .val (.ref b1), .val (.int ((i1 &&& (2147483647 : Int32)) % (33 : Int32))), .val (.int (((i2 &&& (2147483647 : Int32)) % (3 : Int32)) - (1 : Int32))), .unset, .unset, .unset] [(.ref b1)])) (fun _ k => XS.aloadN X0.here hx rfl (hb hby at_232) rfl rfl k) ?_
  refine own_step (T1 := T0) (g1 := (mkF m 235 #[.val (.int i0), .val (.int i1), .val (.int i2), .val (.ref b1), .val (.int ((i1 &&& (2147483647 : Int32)) % (33 : Int32))), .val (.int (((i2 &&& (2147483647 : Int32)) % (3 : Int32)) - (1 : Int32))), .unset, .unset, .unset] [(.int ((i1 &&& (2147483647 : Int32)) % (33 : Int32))), (.ref b1)])) (fun _ k => XS.iload X0.here hx rfl (hb hby at_233) rfl k) ?_
  obtain ⟨cl4, Ar4, hin4, hat4⟩ := own_at V1 (j := ((i1 &&& (2147483647 : Int32)) % (33 : Int32))) (own_inrem i1 _ (by decide))
  refine own_step (T1 := T0) (g1 := (mkF m 236 #[.val (.int i0), .val (.int i1), .val (.int i2), .val (.ref b1), .val (.int ((i1 &&& (2147483647 : Int32)) % (33 : Int32))), .val (.int (((i2 &&& (2147483647 : Int32)) % (3 : Int32)) - (1 : Int32))), .unset, .unset, .unset] [(.int (own_vals0.getD (((i1 &&& (2147483647 : Int32)) % (33 : Int32))).toNatClampNeg 0))])) (fun _ k => X0.iaload hx (j := ((i1 &&& (2147483647 : Int32)) % (33 : Int32))) (v := (.int (own_vals0.getD (((i1 &&& (2147483647 : Int32)) % (33 : Int32))).toNatClampNeg 0))) (by rw [e0]; exact Ar4.1) (State.isArrayOf_alike hZ.alike Ar4.2.1) Ar4.2.2 hin4 hat4 (g := (mkF m 235 #[.val (.int i0), .val (.int i1), .val (.int i2), .val (.ref b1), .val (.int ((i1 &&& (2147483647 : Int32)) % (33 : Int32))), .val (.int (((i2 &&& (2147483647 : Int32)) % (3 : Int32)) - (1 : Int32))), .unset, .unset, .unset] [(.int ((i1 &&& (2147483647 : Int32)) % (33 : Int32))), (.ref b1)])) rfl rfl (hb hby at_235) _ k) ?_
  refine own_step (T1 := T0) (g1 := (mkF m 238 #[.val (.int i0), .val (.int i1), .val (.int i2), .val (.ref b1), .val (.int ((i1 &&& (2147483647 : Int32)) % (33 : Int32))), .val (.int (((i2 &&& (2147483647 : Int32)) % (3 : Int32)) - (1 : Int32))), .unset, .unset, .unset] [(.int (((i2 &&& (2147483647 : Int32)) % (3 : Int32)) - (1 : Int32))), (.int (own_vals0.getD (((i1 &&& (2147483647 : Int32)) % (33 : Int32))).toNatClampNeg 0))])) (fun _ k => XS.iload X0.here hx rfl (hb hby at_236) rfl k) ?_
  refine own_step (T1 := T0) (g1 := (mkF m 239 #[.val (.int i0), .val (.int i1), .val (.int i2), .val (.ref b1), .val (.int ((i1 &&& (2147483647 : Int32)) % (33 : Int32))), .val (.int (((i2 &&& (2147483647 : Int32)) % (3 : Int32)) - (1 : Int32))), .unset, .unset, .unset] [(.int ((own_vals0.getD (((i1 &&& (2147483647 : Int32)) % (33 : Int32))).toNatClampNeg 0) + (((i2 &&& (2147483647 : Int32)) % (3 : Int32)) - (1 : Int32))))])) (fun _ k => XS.iadd X0.here hx rfl (hb hby at_238) rfl k) ?_
  refine own_step (T1 := T0) (g1 := (mkF m 241 #[.val (.int i0), .val (.int i1), .val (.int i2), .val (.ref b1), .val (.int ((i1 &&& (2147483647 : Int32)) % (33 : Int32))), .val (.int (((i2 &&& (2147483647 : Int32)) % (3 : Int32)) - (1 : Int32))), .val (.int ((own_vals0.getD (((i1 &&& (2147483647 : Int32)) % (33 : Int32))).toNatClampNeg 0) + (((i2 &&& (2147483647 : Int32)) % (3 : Int32)) - (1 : Int32)))), .unset, .unset] [])) (fun _ k => XS.istore X0.here hx rfl (hb hby at_239) rfl (l' := #[.val (.int i0), .val (.int i1), .val (.int i2), .val (.ref b1), .val (.int ((i1 &&& (2147483647 : Int32)) % (33 : Int32))), .val (.int (((i2 &&& (2147483647 : Int32)) % (3 : Int32)) - (1 : Int32))), .val (.int ((own_vals0.getD (((i1 &&& (2147483647 : Int32)) % (33 : Int32))).toNatClampNeg 0) + (((i2 &&& (2147483647 : Int32)) % (3 : Int32)) - (1 : Int32)))), .unset, .unset]) rfl k) ?_
  refine own_step (T1 := T0) (g1 := (mkF m 242 #[.val (.int i0), .val (.int i1), .val (.int i2), .val (.ref b1), .val (.int ((i1 &&& (2147483647 : Int32)) % (33 : Int32))), .val (.int (((i2 &&& (2147483647 : Int32)) % (3 : Int32)) - (1 : Int32))), .val (.int ((own_vals0.getD (((i1 &&& (2147483647 : Int32)) % (33 : Int32))).toNatClampNeg 0) + (((i2 &&& (2147483647 : Int32)) % (3 : Int32)) - (1 : Int32)))), .unset, .unset] [(.int i0)])) (fun _ k => XS.iloadN X0.here hx rfl (hb hby at_241) rfl k) ?_
  obtain ⟨_, _, ⟨T5, L5, k5, n5⟩, -, X5, ⟨Lc5, hQ5, l5, y5, z5⟩, st5⟩ := Jvm.LawKit.callS X0 hx (y := (⟨"com/example/moth/moth/core/value/XmlNames", "isNameStart", "(I)Z"⟩ : MethodName)) hown (mvT hZ (hw _ (List.mem_of_getElem? (i := 10) rfl))) (mvT hZ (hw _ (List.mem_of_getElem? (i := 11) rfl))) (mvT hZ (hw _ (List.mem_of_getElem? (i := 12) rfl))) (mvT hZ (hw _ (List.mem_of_getElem? (i := 13) rfl))) (by decide) (backOf (W := 0) (rm1 l Z a0 hw [] i0 h0 n0 Z0) hZ (hw _ (List.mem_of_getElem? (i := 13) rfl)) (hw _ (List.mem_of_getElem? (i := 12) rfl)) (by decide) (by decide)) (g := (mkF m 242 #[.val (.int i0), .val (.int i1), .val (.int i2), .val (.ref b1), .val (.int ((i1 &&& (2147483647 : Int32)) % (33 : Int32))), .val (.int (((i2 &&& (2147483647 : Int32)) % (3 : Int32)) - (1 : Int32))), .val (.int ((own_vals0.getD (((i1 &&& (2147483647 : Int32)) % (33 : Int32))).toNatClampNeg 0) + (((i2 &&& (2147483647 : Int32)) % (3 : Int32)) - (1 : Int32)))), .unset, .unset] [(.int i0)])) rfl (by rw [hml]; rfl) (argsL := [(.int i0)]) (rest := []) (lenOf own_pd_I_Z rfl) rfl (by show 2 * 0 + _ ≤ _; exact Nat.le_of_eq rfl) (hb hby at_242) (fun _ _ => ⟨rfl, e0, (by decide : 1 + 0 ≤ _), (by decide : 33 + 0 ≤ _)⟩)
  dsimp only [Pt.U, Pt.locs, Pt.cells, Pt.slots] at X5 l5 y5 z5 st5 hQ5
  subst l5 y5 z5
  obtain ⟨rfl, N5q, e5⟩ := hQ5
  have N5 := Fr.app N0 N5q
  refine own_step (T1 := T5) (g1 := (mkF m 245 #[.val (.int i0), .val (.int i1), .val (.int i2), .val (.ref b1), .val (.int ((i1 &&& (2147483647 : Int32)) % (33 : Int32))), .val (.int (((i2 &&& (2147483647 : Int32)) % (3 : Int32)) - (1 : Int32))), .val (.int ((own_vals0.getD (((i1 &&& (2147483647 : Int32)) % (33 : Int32))).toNatClampNeg 0) + (((i2 &&& (2147483647 : Int32)) % (3 : Int32)) - (1 : Int32)))), .unset, .unset] [(.int (own_b (f1_0 i0)))])) (fun t k => st5 t k) ?_
  refine own_step (T1 := T5) (g1 := (mkF m 246 #[.val (.int i0), .val (.int i1), .val (.int i2), .val (.ref b1), .val (.int ((i1 &&& (2147483647 : Int32)) % (33 : Int32))), .val (.int (((i2 &&& (2147483647 : Int32)) % (3 : Int32)) - (1 : Int32))), .val (.int ((own_vals0.getD (((i1 &&& (2147483647 : Int32)) % (33 : Int32))).toNatClampNeg 0) + (((i2 &&& (2147483647 : Int32)) % (3 : Int32)) - (1 : Int32)))), .unset, .unset] [(.int i0), (.int (own_b (f1_0 i0)))])) (fun _ k => XS.iloadN X5.here hx rfl (hb hby at_245) rfl k) ?_
  obtain ⟨_, _, ⟨T6, L6, k6, n6⟩, -, X6, ⟨Lc6, hQ6, l6, y6, z6⟩, st6⟩ := Jvm.LawKit.callS X5 hx (y := (⟨"com/example/moth/moth/core/value/XmlNamesIsNameStartPinLaw", "reference", "(I)Z"⟩ : MethodName)) hown (mvT hZ (hw _ (List.mem_of_getElem? (i := 17) rfl))) (mvT hZ (hw _ (List.mem_of_getElem? (i := 18) rfl))) (mvT hZ (hw _ (List.mem_of_getElem? (i := 19) rfl))) (mvT hZ (hw _ (List.mem_of_getElem? (i := 20) rfl))) (by decide) (backOf (W := 1) (rm2 l Z a0 hw [] i0 h0 n0 Z0) hZ (hw _ (List.mem_of_getElem? (i := 20) rfl)) (hw _ (List.mem_of_getElem? (i := 19) rfl)) (by decide) (by decide)) (g := (mkF m 246 #[.val (.int i0), .val (.int i1), .val (.int i2), .val (.ref b1), .val (.int ((i1 &&& (2147483647 : Int32)) % (33 : Int32))), .val (.int (((i2 &&& (2147483647 : Int32)) % (3 : Int32)) - (1 : Int32))), .val (.int ((own_vals0.getD (((i1 &&& (2147483647 : Int32)) % (33 : Int32))).toNatClampNeg 0) + (((i2 &&& (2147483647 : Int32)) % (3 : Int32)) - (1 : Int32)))), .unset, .unset] [(.int i0), (.int (own_b (f1_0 i0)))])) rfl (by rw [hml]; rfl) (argsL := [(.int i0)]) (rest := [(.int (own_b (f1_0 i0)))]) (lenOf own_pd_I_Z rfl) rfl (by show 2 * 0 + _ ≤ _; exact Nat.le_of_eq rfl) (hb hby at_246) (fun _ _ => ⟨rfl, e5, (by decide : 1 + 0 ≤ _), (by decide : 33 + 0 ≤ _)⟩)
  dsimp only [Pt.U, Pt.locs, Pt.cells, Pt.slots] at X6 l6 y6 z6 st6 hQ6
  subst l6 y6 z6
  obtain ⟨rfl, N6q, e6⟩ := hQ6
  have N6 := Fr.app N5 N6q
  refine own_step (T1 := T6) (g1 := (mkF m 249 #[.val (.int i0), .val (.int i1), .val (.int i2), .val (.ref b1), .val (.int ((i1 &&& (2147483647 : Int32)) % (33 : Int32))), .val (.int (((i2 &&& (2147483647 : Int32)) % (3 : Int32)) - (1 : Int32))), .val (.int ((own_vals0.getD (((i1 &&& (2147483647 : Int32)) % (33 : Int32))).toNatClampNeg 0) + (((i2 &&& (2147483647 : Int32)) % (3 : Int32)) - (1 : Int32)))), .unset, .unset] [(.int (own_b (f2_0 i0))), (.int (own_b (f1_0 i0)))])) (fun t k => st6 t k) ?_
  by_cases hc249 : (own_b (f1_0 i0)) = (own_b (f2_0 i0))
  · rw [if_pos hc249]
    refine own_step (T1 := T6) (g1 := (mkF m 252 #[.val (.int i0), .val (.int i1), .val (.int i2), .val (.ref b1), .val (.int ((i1 &&& (2147483647 : Int32)) % (33 : Int32))), .val (.int (((i2 &&& (2147483647 : Int32)) % (3 : Int32)) - (1 : Int32))), .val (.int ((own_vals0.getD (((i1 &&& (2147483647 : Int32)) % (33 : Int32))).toNatClampNeg 0) + (((i2 &&& (2147483647 : Int32)) % (3 : Int32)) - (1 : Int32)))), .unset, .unset] [])) (fun _ k => XS.icmpNo X6.here hx rfl (hb hby at_249) rfl (teq hc249).2 k) ?_
    refine own_step (T1 := T6) (g1 := (mkF m 253 #[.val (.int i0), .val (.int i1), .val (.int i2), .val (.ref b1), .val (.int ((i1 &&& (2147483647 : Int32)) % (33 : Int32))), .val (.int (((i2 &&& (2147483647 : Int32)) % (3 : Int32)) - (1 : Int32))), .val (.int ((own_vals0.getD (((i1 &&& (2147483647 : Int32)) % (33 : Int32))).toNatClampNeg 0) + (((i2 &&& (2147483647 : Int32)) % (3 : Int32)) - (1 : Int32)))), .unset, .unset] [(.int (1 : Int32))])) (fun _ k => XS.iconst X6.here hx rfl (hb hby at_252) k) ?_
    refine own_step (T1 := T6) (g1 := (mkF m 257 #[.val (.int i0), .val (.int i1), .val (.int i2), .val (.ref b1), .val (.int ((i1 &&& (2147483647 : Int32)) % (33 : Int32))), .val (.int (((i2 &&& (2147483647 : Int32)) % (3 : Int32)) - (1 : Int32))), .val (.int ((own_vals0.getD (((i1 &&& (2147483647 : Int32)) % (33 : Int32))).toNatClampNeg 0) + (((i2 &&& (2147483647 : Int32)) % (3 : Int32)) - (1 : Int32)))), .unset, .unset] [(.int (1 : Int32))])) (fun _ k => XS.goto X6.here hx rfl (pc0 := 253) (pc' := 257) rfl (hb hby at_253) (by decide) (by decide) k) ?_
    exact b0_257 i0 i1 i2 b1 ((i1 &&& (2147483647 : Int32)) % (33 : Int32)) (((i2 &&& (2147483647 : Int32)) % (3 : Int32)) - (1 : Int32)) ((own_vals0.getD (((i1 &&& (2147483647 : Int32)) % (33 : Int32))).toNatClampNeg 0) + (((i2 &&& (2147483647 : Int32)) % (3 : Int32)) - (1 : Int32))) (1 : Int32) X6 hx hZ hw hby hml hown e6 N6 Z0 V1
  · rw [if_neg hc249]
    refine own_step (T1 := T6) (g1 := (mkF m 256 #[.val (.int i0), .val (.int i1), .val (.int i2), .val (.ref b1), .val (.int ((i1 &&& (2147483647 : Int32)) % (33 : Int32))), .val (.int (((i2 &&& (2147483647 : Int32)) % (3 : Int32)) - (1 : Int32))), .val (.int ((own_vals0.getD (((i1 &&& (2147483647 : Int32)) % (33 : Int32))).toNatClampNeg 0) + (((i2 &&& (2147483647 : Int32)) % (3 : Int32)) - (1 : Int32)))), .unset, .unset] [])) (fun _ k => XS.icmpYes X6.here hx rfl (pc0 := 249) (pc' := 256) rfl (hb hby at_249) rfl (feq hc249).2 (by decide) (by decide) k) ?_
    refine own_step (T1 := T6) (g1 := (mkF m 257 #[.val (.int i0), .val (.int i1), .val (.int i2), .val (.ref b1), .val (.int ((i1 &&& (2147483647 : Int32)) % (33 : Int32))), .val (.int (((i2 &&& (2147483647 : Int32)) % (3 : Int32)) - (1 : Int32))), .val (.int ((own_vals0.getD (((i1 &&& (2147483647 : Int32)) % (33 : Int32))).toNatClampNeg 0) + (((i2 &&& (2147483647 : Int32)) % (3 : Int32)) - (1 : Int32)))), .unset, .unset] [(.int (0 : Int32))])) (fun _ k => XS.iconst X6.here hx rfl (hb hby at_256) k) ?_
    exact b0_257 i0 i1 i2 b1 ((i1 &&& (2147483647 : Int32)) % (33 : Int32)) (((i2 &&& (2147483647 : Int32)) % (3 : Int32)) - (1 : Int32)) ((own_vals0.getD (((i1 &&& (2147483647 : Int32)) % (33 : Int32))).toNatClampNeg 0) + (((i2 &&& (2147483647 : Int32)) % (3 : Int32)) - (1 : Int32))) (0 : Int32) X6 hx hZ hw hby hml hown e6 N6 Z0 V1
def F1_195 (z0 : Int) : Bool := false
def F1_191 (z0 : Int) : Bool := true
def F1_179 (z0 : Int) : Bool := (if z0 < (65536 : Int) then (F1_195 z0) else (if (983039 : Int) < z0 then (F1_195 z0) else (F1_191 z0)))
def F1_167 (z0 : Int) : Bool := (if z0 < (65008 : Int) then (F1_179 z0) else (if (65533 : Int) < z0 then (F1_179 z0) else (F1_191 z0)))
def F1_155 (z0 : Int) : Bool := (if z0 < (63744 : Int) then (F1_167 z0) else (if (64975 : Int) < z0 then (F1_167 z0) else (F1_191 z0)))
def F1_142 (z0 : Int) : Bool := (if z0 < (12289 : Int) then (F1_155 z0) else (if (55295 : Int) < z0 then (F1_155 z0) else (F1_191 z0)))
def F1_128 (z0 : Int) : Bool := (if z0 < (11264 : Int) then (F1_142 z0) else (if (12271 : Int) < z0 then (F1_142 z0) else (F1_191 z0)))
def F1_114 (z0 : Int) : Bool := (if z0 < (8304 : Int) then (F1_128 z0) else (if (8591 : Int) < z0 then (F1_128 z0) else (F1_191 z0)))
def F1_100 (z0 : Int) : Bool := (if z0 < (8204 : Int) then (F1_114 z0) else (if (8205 : Int) < z0 then (F1_114 z0) else (F1_191 z0)))
def F1_86 (z0 : Int) : Bool := (if z0 < (895 : Int) then (F1_100 z0) else (if (8191 : Int) < z0 then (F1_100 z0) else (F1_191 z0)))
def F1_72 (z0 : Int) : Bool := (if z0 < (880 : Int) then (F1_86 z0) else (if (893 : Int) < z0 then (F1_86 z0) else (F1_191 z0)))
def F1_58 (z0 : Int) : Bool := (if z0 < (248 : Int) then (F1_72 z0) else (if (767 : Int) < z0 then (F1_72 z0) else (F1_191 z0)))
def F1_44 (z0 : Int) : Bool := (if z0 < (216 : Int) then (F1_58 z0) else (if (246 : Int) < z0 then (F1_58 z0) else (F1_191 z0)))
def F1_24 (z0 : Int) : Bool := (if z0 = (95 : Int) then (F1_191 z0) else (if z0 < (192 : Int) then (F1_44 z0) else (if (214 : Int) < z0 then (F1_44 z0) else (F1_191 z0))))
def F1_12 (z0 : Int) : Bool := (if z0 < (65 : Int) then (F1_24 z0) else (if (90 : Int) < z0 then (F1_24 z0) else (F1_191 z0)))
def F1_0 (z0 : Int) : Bool := (if z0 < (97 : Int) then (F1_12 z0) else (if (122 : Int) < z0 then (F1_12 z0) else (F1_191 z0)))
theorem own_c1_65 : (65 : Int32).toInt = 65 := rfl
theorem own_c1_90 : (90 : Int32).toInt = 90 := rfl
theorem own_c1_95 : (95 : Int32).toInt = 95 := rfl
theorem own_c1_97 : (97 : Int32).toInt = 97 := rfl
theorem own_c1_122 : (122 : Int32).toInt = 122 := rfl
theorem own_c1_192 : (192 : Int32).toInt = 192 := rfl
theorem own_c1_214 : (214 : Int32).toInt = 214 := rfl
theorem own_c1_216 : (216 : Int32).toInt = 216 := rfl
theorem own_c1_246 : (246 : Int32).toInt = 246 := rfl
theorem own_c1_248 : (248 : Int32).toInt = 248 := rfl
theorem own_c1_767 : (767 : Int32).toInt = 767 := rfl
theorem own_c1_880 : (880 : Int32).toInt = 880 := rfl
theorem own_c1_893 : (893 : Int32).toInt = 893 := rfl
theorem own_c1_895 : (895 : Int32).toInt = 895 := rfl
theorem own_c1_8191 : (8191 : Int32).toInt = 8191 := rfl
theorem own_c1_8204 : (8204 : Int32).toInt = 8204 := rfl
theorem own_c1_8205 : (8205 : Int32).toInt = 8205 := rfl
theorem own_c1_8304 : (8304 : Int32).toInt = 8304 := rfl
theorem own_c1_8591 : (8591 : Int32).toInt = 8591 := rfl
theorem own_c1_11264 : (11264 : Int32).toInt = 11264 := rfl
theorem own_c1_12271 : (12271 : Int32).toInt = 12271 := rfl
theorem own_c1_12289 : (12289 : Int32).toInt = 12289 := rfl
theorem own_c1_55295 : (55295 : Int32).toInt = 55295 := rfl
theorem own_c1_63744 : (63744 : Int32).toInt = 63744 := rfl
theorem own_c1_64975 : (64975 : Int32).toInt = 64975 := rfl
theorem own_c1_65008 : (65008 : Int32).toInt = 65008 := rfl
theorem own_c1_65533 : (65533 : Int32).toInt = 65533 := rfl
theorem own_c1_65536 : (65536 : Int32).toInt = 65536 := rfl
theorem own_c1_983039 : (983039 : Int32).toInt = 983039 := rfl
theorem f1_195_int (i0 : Int32) : f1_195 i0 = F1_195 i0.toInt := by
  simp only [f1_195, F1_195, Int32.lt_iff_toInt_lt, ← Int32.toInt_inj]
theorem f1_191_int (i0 : Int32) : f1_191 i0 = F1_191 i0.toInt := by
  simp only [f1_191, F1_191, Int32.lt_iff_toInt_lt, ← Int32.toInt_inj]
theorem f1_179_int (i0 : Int32) : f1_179 i0 = F1_179 i0.toInt := by
  simp only [f1_179, F1_179, f1_191_int, f1_195_int, Int32.lt_iff_toInt_lt, ← Int32.toInt_inj, own_c1_65536, own_c1_983039]
theorem f1_167_int (i0 : Int32) : f1_167 i0 = F1_167 i0.toInt := by
  simp only [f1_167, F1_167, f1_179_int, f1_191_int, Int32.lt_iff_toInt_lt, ← Int32.toInt_inj, own_c1_65008, own_c1_65533]
theorem f1_155_int (i0 : Int32) : f1_155 i0 = F1_155 i0.toInt := by
  simp only [f1_155, F1_155, f1_167_int, f1_191_int, Int32.lt_iff_toInt_lt, ← Int32.toInt_inj, own_c1_63744, own_c1_64975]
theorem f1_142_int (i0 : Int32) : f1_142 i0 = F1_142 i0.toInt := by
  simp only [f1_142, F1_142, f1_155_int, f1_191_int, Int32.lt_iff_toInt_lt, ← Int32.toInt_inj, own_c1_12289, own_c1_55295]
theorem f1_128_int (i0 : Int32) : f1_128 i0 = F1_128 i0.toInt := by
  simp only [f1_128, F1_128, f1_142_int, f1_191_int, Int32.lt_iff_toInt_lt, ← Int32.toInt_inj, own_c1_11264, own_c1_12271]
theorem f1_114_int (i0 : Int32) : f1_114 i0 = F1_114 i0.toInt := by
  simp only [f1_114, F1_114, f1_128_int, f1_191_int, Int32.lt_iff_toInt_lt, ← Int32.toInt_inj, own_c1_8304, own_c1_8591]
theorem f1_100_int (i0 : Int32) : f1_100 i0 = F1_100 i0.toInt := by
  simp only [f1_100, F1_100, f1_114_int, f1_191_int, Int32.lt_iff_toInt_lt, ← Int32.toInt_inj, own_c1_8204, own_c1_8205]
theorem f1_86_int (i0 : Int32) : f1_86 i0 = F1_86 i0.toInt := by
  simp only [f1_86, F1_86, f1_100_int, f1_191_int, Int32.lt_iff_toInt_lt, ← Int32.toInt_inj, own_c1_895, own_c1_8191]
theorem f1_72_int (i0 : Int32) : f1_72 i0 = F1_72 i0.toInt := by
  simp only [f1_72, F1_72, f1_191_int, f1_86_int, Int32.lt_iff_toInt_lt, ← Int32.toInt_inj, own_c1_880, own_c1_893]
theorem f1_58_int (i0 : Int32) : f1_58 i0 = F1_58 i0.toInt := by
  simp only [f1_58, F1_58, f1_191_int, f1_72_int, Int32.lt_iff_toInt_lt, ← Int32.toInt_inj, own_c1_248, own_c1_767]
theorem f1_44_int (i0 : Int32) : f1_44 i0 = F1_44 i0.toInt := by
  simp only [f1_44, F1_44, f1_191_int, f1_58_int, Int32.lt_iff_toInt_lt, ← Int32.toInt_inj, own_c1_216, own_c1_246]
theorem f1_24_int (i0 : Int32) : f1_24 i0 = F1_24 i0.toInt := by
  simp only [f1_24, F1_24, f1_191_int, f1_44_int, Int32.lt_iff_toInt_lt, ← Int32.toInt_inj, own_c1_95, own_c1_192, own_c1_214]
theorem f1_12_int (i0 : Int32) : f1_12 i0 = F1_12 i0.toInt := by
  simp only [f1_12, F1_12, f1_191_int, f1_24_int, Int32.lt_iff_toInt_lt, ← Int32.toInt_inj, own_c1_65, own_c1_90]
theorem f1_0_int (i0 : Int32) : f1_0 i0 = F1_0 i0.toInt := by
  simp only [f1_0, F1_0, f1_12_int, f1_191_int, Int32.lt_iff_toInt_lt, ← Int32.toInt_inj, own_c1_97, own_c1_122]
def F3_14 (z0 : Int) (z1 : Int) (z2 : Int) : Bool := false
def F3_0 (z0 : Int) (z1 : Int) (z2 : Int) : Bool := (if z0 < z1 then (F3_14 z0 z1 z2) else (if z2 < z0 then (F3_14 z0 z1 z2) else true))
theorem f3_14_int (i0 : Int32) (i1 : Int32) (i2 : Int32) : f3_14 i0 i1 i2 = F3_14 i0.toInt i1.toInt i2.toInt := by
  simp only [f3_14, F3_14, Int32.lt_iff_toInt_lt, ← Int32.toInt_inj]
theorem f3_0_int (i0 : Int32) (i1 : Int32) (i2 : Int32) : f3_0 i0 i1 i2 = F3_0 i0.toInt i1.toInt i2.toInt := by
  simp only [f3_0, F3_0, f3_14_int, Int32.lt_iff_toInt_lt, ← Int32.toInt_inj]
def F2_10 (z0 : Int) : Bool := false
def F2_0 (z0 : Int) : Bool := (if z0 < (0 : Int) then (F2_10 z0) else (if (983039 : Int) < z0 then (F2_10 z0) else (if (F3_0 z0 (0 : Int) (64 : Int)) = false then (if (F3_0 z0 (91 : Int) (94 : Int)) = false then (if z0 = (96 : Int) then false else (if (F3_0 z0 (123 : Int) (191 : Int)) = false then (if z0 = (215 : Int) then false else (if z0 = (247 : Int) then false else (if (F3_0 z0 (768 : Int) (879 : Int)) = false then (if z0 = (894 : Int) then false else (if (F3_0 z0 (8192 : Int) (8203 : Int)) = false then (if (F3_0 z0 (8206 : Int) (8303 : Int)) = false then (if (F3_0 z0 (8592 : Int) (11263 : Int)) = false then (if (F3_0 z0 (12272 : Int) (12288 : Int)) = false then (if (F3_0 z0 (55296 : Int) (63743 : Int)) = false then (if (F3_0 z0 (64976 : Int) (65007 : Int)) = false then (if (F3_0 z0 (65534 : Int) (65535 : Int)) = false then true else false) else false) else false) else false) else false) else false) else false)) else false))) else false)) else false) else false)))
theorem own_c2_0 : (0 : Int32).toInt = 0 := rfl
theorem own_c2_64 : (64 : Int32).toInt = 64 := rfl
theorem own_c2_91 : (91 : Int32).toInt = 91 := rfl
theorem own_c2_94 : (94 : Int32).toInt = 94 := rfl
theorem own_c2_96 : (96 : Int32).toInt = 96 := rfl
theorem own_c2_123 : (123 : Int32).toInt = 123 := rfl
theorem own_c2_191 : (191 : Int32).toInt = 191 := rfl
theorem own_c2_215 : (215 : Int32).toInt = 215 := rfl
theorem own_c2_247 : (247 : Int32).toInt = 247 := rfl
theorem own_c2_768 : (768 : Int32).toInt = 768 := rfl
theorem own_c2_879 : (879 : Int32).toInt = 879 := rfl
theorem own_c2_894 : (894 : Int32).toInt = 894 := rfl
theorem own_c2_8192 : (8192 : Int32).toInt = 8192 := rfl
theorem own_c2_8203 : (8203 : Int32).toInt = 8203 := rfl
theorem own_c2_8206 : (8206 : Int32).toInt = 8206 := rfl
theorem own_c2_8303 : (8303 : Int32).toInt = 8303 := rfl
theorem own_c2_8592 : (8592 : Int32).toInt = 8592 := rfl
theorem own_c2_11263 : (11263 : Int32).toInt = 11263 := rfl
theorem own_c2_12272 : (12272 : Int32).toInt = 12272 := rfl
theorem own_c2_12288 : (12288 : Int32).toInt = 12288 := rfl
theorem own_c2_55296 : (55296 : Int32).toInt = 55296 := rfl
theorem own_c2_63743 : (63743 : Int32).toInt = 63743 := rfl
theorem own_c2_64976 : (64976 : Int32).toInt = 64976 := rfl
theorem own_c2_65007 : (65007 : Int32).toInt = 65007 := rfl
theorem own_c2_65534 : (65534 : Int32).toInt = 65534 := rfl
theorem own_c2_65535 : (65535 : Int32).toInt = 65535 := rfl
theorem own_c2_983039 : (983039 : Int32).toInt = 983039 := rfl
theorem f2_10_int (i0 : Int32) : f2_10 i0 = F2_10 i0.toInt := by
  simp only [f2_10, F2_10, Int32.lt_iff_toInt_lt, ← Int32.toInt_inj]
theorem f2_0_int (i0 : Int32) : f2_0 i0 = F2_0 i0.toInt := by
  simp only [f2_0, F2_0, f2_10_int, f3_0_int, Int32.lt_iff_toInt_lt, ← Int32.toInt_inj, own_c2_0, own_c2_64, own_c2_91, own_c2_94, own_c2_96, own_c2_123, own_c2_191, own_c2_215, own_c2_247, own_c2_768, own_c2_879, own_c2_894, own_c2_8192, own_c2_8203, own_c2_8206, own_c2_8303, own_c2_8592, own_c2_11263, own_c2_12272, own_c2_12288, own_c2_55296, own_c2_63743, own_c2_64976, own_c2_65007, own_c2_65534, own_c2_65535, own_c2_983039]
set_option maxHeartbeats 4000000 in
theorem own_same_int (z : Int) : F1_0 z = F2_0 z := by
  rcases Int.lt_or_le z 0 with h | h
  · simp (disch := omega) only [F1_195, F1_191, F1_179, F1_167, F1_155, F1_142, F1_128, F1_114, F1_100, F1_86, F1_72, F1_58, F1_44, F1_24, F1_12, F1_0, F3_14, F3_0, F2_10, F2_0, ↓if_pos, ↓if_neg, ↓reduceIte, reduceCtorEq]
  have h' := h
  clear h
  rcases Int.lt_or_le z 65 with h | h
  · simp (disch := omega) only [F1_195, F1_191, F1_179, F1_167, F1_155, F1_142, F1_128, F1_114, F1_100, F1_86, F1_72, F1_58, F1_44, F1_24, F1_12, F1_0, F3_14, F3_0, F2_10, F2_0, ↓if_pos, ↓if_neg, ↓reduceIte, reduceCtorEq]
  clear h'
  have h' := h
  clear h
  rcases Int.lt_or_le z 91 with h | h
  · simp (disch := omega) only [F1_195, F1_191, F1_179, F1_167, F1_155, F1_142, F1_128, F1_114, F1_100, F1_86, F1_72, F1_58, F1_44, F1_24, F1_12, F1_0, F3_14, F3_0, F2_10, F2_0, ↓if_pos, ↓if_neg, ↓reduceIte, reduceCtorEq]
  clear h'
  have h' := h
  clear h
  rcases Int.lt_or_le z 95 with h | h
  · simp (disch := omega) only [F1_195, F1_191, F1_179, F1_167, F1_155, F1_142, F1_128, F1_114, F1_100, F1_86, F1_72, F1_58, F1_44, F1_24, F1_12, F1_0, F3_14, F3_0, F2_10, F2_0, ↓if_pos, ↓if_neg, ↓reduceIte, reduceCtorEq]
  clear h'
  have h' := h
  clear h
  rcases Int.lt_or_le z 96 with h | h
  · simp (disch := omega) only [F1_195, F1_191, F1_179, F1_167, F1_155, F1_142, F1_128, F1_114, F1_100, F1_86, F1_72, F1_58, F1_44, F1_24, F1_12, F1_0, F3_14, F3_0, F2_10, F2_0, ↓if_pos, ↓if_neg, ↓reduceIte, reduceCtorEq]
  clear h'
  have h' := h
  clear h
  rcases Int.lt_or_le z 97 with h | h
  · simp (disch := omega) only [F1_195, F1_191, F1_179, F1_167, F1_155, F1_142, F1_128, F1_114, F1_100, F1_86, F1_72, F1_58, F1_44, F1_24, F1_12, F1_0, F3_14, F3_0, F2_10, F2_0, ↓if_pos, ↓if_neg, ↓reduceIte, reduceCtorEq]
  clear h'
  have h' := h
  clear h
  rcases Int.lt_or_le z 123 with h | h
  · simp (disch := omega) only [F1_195, F1_191, F1_179, F1_167, F1_155, F1_142, F1_128, F1_114, F1_100, F1_86, F1_72, F1_58, F1_44, F1_24, F1_12, F1_0, F3_14, F3_0, F2_10, F2_0, ↓if_pos, ↓if_neg, ↓reduceIte, reduceCtorEq]
  clear h'
  have h' := h
  clear h
  rcases Int.lt_or_le z 192 with h | h
  · simp (disch := omega) only [F1_195, F1_191, F1_179, F1_167, F1_155, F1_142, F1_128, F1_114, F1_100, F1_86, F1_72, F1_58, F1_44, F1_24, F1_12, F1_0, F3_14, F3_0, F2_10, F2_0, ↓if_pos, ↓if_neg, ↓reduceIte, reduceCtorEq]
  clear h'
  have h' := h
  clear h
  rcases Int.lt_or_le z 215 with h | h
  · simp (disch := omega) only [F1_195, F1_191, F1_179, F1_167, F1_155, F1_142, F1_128, F1_114, F1_100, F1_86, F1_72, F1_58, F1_44, F1_24, F1_12, F1_0, F3_14, F3_0, F2_10, F2_0, ↓if_pos, ↓if_neg, ↓reduceIte, reduceCtorEq]
  clear h'
  have h' := h
  clear h
  rcases Int.lt_or_le z 216 with h | h
  · simp (disch := omega) only [F1_195, F1_191, F1_179, F1_167, F1_155, F1_142, F1_128, F1_114, F1_100, F1_86, F1_72, F1_58, F1_44, F1_24, F1_12, F1_0, F3_14, F3_0, F2_10, F2_0, ↓if_pos, ↓if_neg, ↓reduceIte, reduceCtorEq]
  clear h'
  have h' := h
  clear h
  rcases Int.lt_or_le z 247 with h | h
  · simp (disch := omega) only [F1_195, F1_191, F1_179, F1_167, F1_155, F1_142, F1_128, F1_114, F1_100, F1_86, F1_72, F1_58, F1_44, F1_24, F1_12, F1_0, F3_14, F3_0, F2_10, F2_0, ↓if_pos, ↓if_neg, ↓reduceIte, reduceCtorEq]
  clear h'
  have h' := h
  clear h
  rcases Int.lt_or_le z 248 with h | h
  · simp (disch := omega) only [F1_195, F1_191, F1_179, F1_167, F1_155, F1_142, F1_128, F1_114, F1_100, F1_86, F1_72, F1_58, F1_44, F1_24, F1_12, F1_0, F3_14, F3_0, F2_10, F2_0, ↓if_pos, ↓if_neg, ↓reduceIte, reduceCtorEq]
  clear h'
  have h' := h
  clear h
  rcases Int.lt_or_le z 768 with h | h
  · simp (disch := omega) only [F1_195, F1_191, F1_179, F1_167, F1_155, F1_142, F1_128, F1_114, F1_100, F1_86, F1_72, F1_58, F1_44, F1_24, F1_12, F1_0, F3_14, F3_0, F2_10, F2_0, ↓if_pos, ↓if_neg, ↓reduceIte, reduceCtorEq]
  clear h'
  have h' := h
  clear h
  rcases Int.lt_or_le z 880 with h | h
  · simp (disch := omega) only [F1_195, F1_191, F1_179, F1_167, F1_155, F1_142, F1_128, F1_114, F1_100, F1_86, F1_72, F1_58, F1_44, F1_24, F1_12, F1_0, F3_14, F3_0, F2_10, F2_0, ↓if_pos, ↓if_neg, ↓reduceIte, reduceCtorEq]
  clear h'
  have h' := h
  clear h
  rcases Int.lt_or_le z 894 with h | h
  · simp (disch := omega) only [F1_195, F1_191, F1_179, F1_167, F1_155, F1_142, F1_128, F1_114, F1_100, F1_86, F1_72, F1_58, F1_44, F1_24, F1_12, F1_0, F3_14, F3_0, F2_10, F2_0, ↓if_pos, ↓if_neg, ↓reduceIte, reduceCtorEq]
  clear h'
  have h' := h
  clear h
  rcases Int.lt_or_le z 895 with h | h
  · simp (disch := omega) only [F1_195, F1_191, F1_179, F1_167, F1_155, F1_142, F1_128, F1_114, F1_100, F1_86, F1_72, F1_58, F1_44, F1_24, F1_12, F1_0, F3_14, F3_0, F2_10, F2_0, ↓if_pos, ↓if_neg, ↓reduceIte, reduceCtorEq]
  clear h'
  have h' := h
  clear h
  rcases Int.lt_or_le z 8192 with h | h
  · simp (disch := omega) only [F1_195, F1_191, F1_179, F1_167, F1_155, F1_142, F1_128, F1_114, F1_100, F1_86, F1_72, F1_58, F1_44, F1_24, F1_12, F1_0, F3_14, F3_0, F2_10, F2_0, ↓if_pos, ↓if_neg, ↓reduceIte, reduceCtorEq]
  clear h'
  have h' := h
  clear h
  rcases Int.lt_or_le z 8204 with h | h
  · simp (disch := omega) only [F1_195, F1_191, F1_179, F1_167, F1_155, F1_142, F1_128, F1_114, F1_100, F1_86, F1_72, F1_58, F1_44, F1_24, F1_12, F1_0, F3_14, F3_0, F2_10, F2_0, ↓if_pos, ↓if_neg, ↓reduceIte, reduceCtorEq]
  clear h'
  have h' := h
  clear h
  rcases Int.lt_or_le z 8206 with h | h
  · simp (disch := omega) only [F1_195, F1_191, F1_179, F1_167, F1_155, F1_142, F1_128, F1_114, F1_100, F1_86, F1_72, F1_58, F1_44, F1_24, F1_12, F1_0, F3_14, F3_0, F2_10, F2_0, ↓if_pos, ↓if_neg, ↓reduceIte, reduceCtorEq]
  clear h'
  have h' := h
  clear h
  rcases Int.lt_or_le z 8304 with h | h
  · simp (disch := omega) only [F1_195, F1_191, F1_179, F1_167, F1_155, F1_142, F1_128, F1_114, F1_100, F1_86, F1_72, F1_58, F1_44, F1_24, F1_12, F1_0, F3_14, F3_0, F2_10, F2_0, ↓if_pos, ↓if_neg, ↓reduceIte, reduceCtorEq]
  clear h'
  have h' := h
  clear h
  rcases Int.lt_or_le z 8592 with h | h
  · simp (disch := omega) only [F1_195, F1_191, F1_179, F1_167, F1_155, F1_142, F1_128, F1_114, F1_100, F1_86, F1_72, F1_58, F1_44, F1_24, F1_12, F1_0, F3_14, F3_0, F2_10, F2_0, ↓if_pos, ↓if_neg, ↓reduceIte, reduceCtorEq]
  clear h'
  have h' := h
  clear h
  rcases Int.lt_or_le z 11264 with h | h
  · simp (disch := omega) only [F1_195, F1_191, F1_179, F1_167, F1_155, F1_142, F1_128, F1_114, F1_100, F1_86, F1_72, F1_58, F1_44, F1_24, F1_12, F1_0, F3_14, F3_0, F2_10, F2_0, ↓if_pos, ↓if_neg, ↓reduceIte, reduceCtorEq]
  clear h'
  have h' := h
  clear h
  rcases Int.lt_or_le z 12272 with h | h
  · simp (disch := omega) only [F1_195, F1_191, F1_179, F1_167, F1_155, F1_142, F1_128, F1_114, F1_100, F1_86, F1_72, F1_58, F1_44, F1_24, F1_12, F1_0, F3_14, F3_0, F2_10, F2_0, ↓if_pos, ↓if_neg, ↓reduceIte, reduceCtorEq]
  clear h'
  have h' := h
  clear h
  rcases Int.lt_or_le z 12289 with h | h
  · simp (disch := omega) only [F1_195, F1_191, F1_179, F1_167, F1_155, F1_142, F1_128, F1_114, F1_100, F1_86, F1_72, F1_58, F1_44, F1_24, F1_12, F1_0, F3_14, F3_0, F2_10, F2_0, ↓if_pos, ↓if_neg, ↓reduceIte, reduceCtorEq]
  clear h'
  have h' := h
  clear h
  rcases Int.lt_or_le z 55296 with h | h
  · simp (disch := omega) only [F1_195, F1_191, F1_179, F1_167, F1_155, F1_142, F1_128, F1_114, F1_100, F1_86, F1_72, F1_58, F1_44, F1_24, F1_12, F1_0, F3_14, F3_0, F2_10, F2_0, ↓if_pos, ↓if_neg, ↓reduceIte, reduceCtorEq]
  clear h'
  have h' := h
  clear h
  rcases Int.lt_or_le z 63744 with h | h
  · simp (disch := omega) only [F1_195, F1_191, F1_179, F1_167, F1_155, F1_142, F1_128, F1_114, F1_100, F1_86, F1_72, F1_58, F1_44, F1_24, F1_12, F1_0, F3_14, F3_0, F2_10, F2_0, ↓if_pos, ↓if_neg, ↓reduceIte, reduceCtorEq]
  clear h'
  have h' := h
  clear h
  rcases Int.lt_or_le z 64976 with h | h
  · simp (disch := omega) only [F1_195, F1_191, F1_179, F1_167, F1_155, F1_142, F1_128, F1_114, F1_100, F1_86, F1_72, F1_58, F1_44, F1_24, F1_12, F1_0, F3_14, F3_0, F2_10, F2_0, ↓if_pos, ↓if_neg, ↓reduceIte, reduceCtorEq]
  clear h'
  have h' := h
  clear h
  rcases Int.lt_or_le z 65008 with h | h
  · simp (disch := omega) only [F1_195, F1_191, F1_179, F1_167, F1_155, F1_142, F1_128, F1_114, F1_100, F1_86, F1_72, F1_58, F1_44, F1_24, F1_12, F1_0, F3_14, F3_0, F2_10, F2_0, ↓if_pos, ↓if_neg, ↓reduceIte, reduceCtorEq]
  clear h'
  have h' := h
  clear h
  rcases Int.lt_or_le z 65534 with h | h
  · simp (disch := omega) only [F1_195, F1_191, F1_179, F1_167, F1_155, F1_142, F1_128, F1_114, F1_100, F1_86, F1_72, F1_58, F1_44, F1_24, F1_12, F1_0, F3_14, F3_0, F2_10, F2_0, ↓if_pos, ↓if_neg, ↓reduceIte, reduceCtorEq]
  clear h'
  have h' := h
  clear h
  rcases Int.lt_or_le z 65536 with h | h
  · simp (disch := omega) only [F1_195, F1_191, F1_179, F1_167, F1_155, F1_142, F1_128, F1_114, F1_100, F1_86, F1_72, F1_58, F1_44, F1_24, F1_12, F1_0, F3_14, F3_0, F2_10, F2_0, ↓if_pos, ↓if_neg, ↓reduceIte, reduceCtorEq]
  clear h'
  have h' := h
  clear h
  rcases Int.lt_or_le z 983040 with h | h
  · simp (disch := omega) only [F1_195, F1_191, F1_179, F1_167, F1_155, F1_142, F1_128, F1_114, F1_100, F1_86, F1_72, F1_58, F1_44, F1_24, F1_12, F1_0, F3_14, F3_0, F2_10, F2_0, ↓if_pos, ↓if_neg, ↓reduceIte, reduceCtorEq]
  clear h'
  have h' := h
  clear h
  simp (disch := omega) only [F1_195, F1_191, F1_179, F1_167, F1_155, F1_142, F1_128, F1_114, F1_100, F1_86, F1_72, F1_58, F1_44, F1_24, F1_12, F1_0, F3_14, F3_0, F2_10, F2_0, ↓if_pos, ↓if_neg, ↓reduceIte, reduceCtorEq]
/-! the plain law -/
theorem own_same (x : Int32) : f1_0 x = f2_0 x := by rw [f1_0_int, f2_0_int, own_same_int]
theorem own_law (i0 i1 i2 : Int32) : f0_213 i0 i1 i2 = true := by
  unfold f0_213
  rw [own_same i0, if_pos rfl]
  unfold f0_257
  rw [own_same, if_pos rfl]
  rfl

theorem pn_0 : plainName "com/example/moth/moth/core/value/XmlNamesIsNameStartPinLaw" = true := by first | (simp [plainName, overriddenIn]; done) | decide +kernel
theorem ef_0 (m : MethodId) (i0 : Int32) (i1 : Int32) (i2 : Int32) : entryFrame m #[(.int i0), (.int i1), (.int i2)] maxLocals = mkF m 0 #[.val (.int i0), .val (.int i1), .val (.int i2), .unset, .unset, .unset, .unset, .unset, .unset] [] := by first | (simp [entryFrame, mkF, argsToLocals, Value.category, maxLocals]; done) | rfl
def Q0 (n0 : Nat) (v : Option Value) (h : Heap) (L : List Loc) : Prop := v = some (.int (1 : Int32)) ∧ Fr n0 L
set_option maxRecDepth 65536 in
set_option maxHeartbeats 4000000 in
theorem rm0 (l : Launch) (Z : State) (a0 : Array Value) (hw : ∀ d ∈ tables_1, d.before a0 Z = true) (ws : List Jvm.Cond) (i0 : Int32) (i1 : Int32) (i2 : Int32) (h0 : Heap) (n0 : Nat) (Z0 : n0 ≤ h0.size) :
    MetFree l x (head1 (Jvm.Cond.code x code maxLocals ret :: ws) room_1) (fun a U => a = #[(.int i0), (.int i1), (.int i2)] ∧ Z.Warmed39 U.vm ∧ U.heap = h0) (fun _ _ _ _ _ => True) (fun _ U o U' => ∃ v L, o = .returned v ∧ Q0 n0 v U'.heap L ∧ FrameEnd U o U' L room_1.cells room_1.slots) := by
  refine MetFree.of_bodySF (plainFor_of_name pn_0) hisR ?_
  intro p e s m args below meth c s₁ Bd hml0 hP hK
  obtain ⟨rfl, hZ, hh⟩ := hP
  have hx := Bd.exec
  have hby := Bd.bytes
  have hml : c.maxLocals = 9 := hml0
  have hown : s.vm.findClass "com/example/moth/moth/core/value/XmlNamesIsNameStartPinLaw" = some m.cls := findClass_of_methodNamed Bd.named
  have X0 : Stand p l e room_1 s m #[(.int i0), (.int i1), (.int i2)] below meth c s₁ [] 0 0 := Stand.of_body Bd
  have e0 : s₁.heap = h0 := by rw [← hh, Bd.state]; rfl
  obtain ⟨Ta0, ha0, ba0, ka0, La0, Xa0, ea0, Ka0, ga0, Va0, Na0, sta0⟩ := ar0 i0 i1 i2 X0 hx hZ hw hby hown e0 (Fr.nil n0) Z0
  have Za0 : n0 ≤ ha0.size := Nat.le_trans Z0 Ka0.1
  obtain ⟨T', locs', pcr, Ls, X', e', N', hd, st⟩ := b0_213 i0 i1 i2 ba0 Xa0 hx hZ hw hby hml hown ea0 Na0 Za0 Va0
  rw [own_law] at st
  obtain ⟨fs, hr, hrun, hended, hW, hsame⟩ := X'.leave (v := some (.int (1 : Int32))) (fun h => by rw [Bd.returns] at h; cases h)
  refine ⟨_, _, castTop (ef_0 m i0 i1 i2) (sta0 _ (st _ ?_)), hrun, hended, _, _, rfl, ?_, ⟨_, rfl⟩, hW, hsame.mono (by decide) (by decide)⟩
  · exact retN X' hx (t := .boolean) Bd.returns (by simp) hd hr
  · exact ⟨rfl, N'⟩
set_option maxRecDepth 65536 in
set_option maxHeartbeats 40000000 in
theorem comes_1 {Post : Tables → Env → Array Value → State → Outcome → State → Prop} (hpost : ∀ tb e args s v u, (limb_1_1.after args s (.returned v) u = true ∧ limb_1_2.after args s (.returned v) u = true ∧ True) → FrameEnd s (.returned v) u (Jvm.fieldLocs frame_1_writes args s ++ Jvm.arrayLocs frame_1_arrays args s ++ Jvm.staticLocs frame_1_statics s) 16 192 → Post tb e args s (.returned v) u) :
    ArmFor flags0 classFile x code maxLocals ret World_1 tables_1 room_1 Calls_1 rest_1 Pre_1 Post := by
  intro l hfl _ _ p e ha hc hk s m args below hf hA hF happ hP
  obtain ⟨hcalls, hrest, hpre⟩ := hP
  obtain ⟨-, -, -, hnamed, -, -, -, hat⟩ := (Spec.applies_iff hf).mp happ
  obtain ⟨hg, hn⟩ := and_e (Cond.before_iff.mp (show (Jvm.Cond.and given_1 narrow_1).before args s = true from hpre))
  obtain ⟨gc, gr0⟩ := and_e hg
  obtain ⟨ga0, gr1⟩ := and_e gr0
  obtain ⟨ga1, gr2⟩ := and_e gr1
  obtain ⟨w0, w1, w2, rfl⟩ : ∃ w0 w1 w2 : Value, args = #[w0, w1, w2] := by
    have hs : args.size = 3 := by simpa [Cond.value, given_1] using gc
    obtain ⟨L⟩ := args
    match L, hs with
    | [w0, w1, w2], _ => exact ⟨w0, w1, w2, rfl⟩
  have hw := fun d (hd : d ∈ tables_1) => atoms_spec (ws := Jvm.Cond.code x code maxLocals ret :: tables_1) hat d (List.mem_cons_of_mem _ hd)
  obtain ⟨i0, ei0⟩ := is_v ga0
  obtain rfl : w0 = (.int i0) := Option.some.inj ei0
  obtain ⟨i1, ei1⟩ := is_v ga1
  obtain rfl : w1 = (.int i1) := Option.some.inj ei1
  obtain ⟨i2, ei2⟩ := is_v gr2
  obtain rfl : w2 = (.int i2) := Option.some.inj ei2
  obtain ⟨n, o, h1, h2, h3, _, L, rfl, ⟨rfl, N⟩, hq⟩ := rm0 l s _ hw tables_1 i0 i1 i2 s.heap s.heap.size (Nat.le_refl _) p e ha hc hk s m _ below hf ((Spec.applies_iff_loose hf).mp happ).1 ⟨rfl, State.Warmed39.refl s, rfl⟩ trivial
  refine ⟨n, _, h1, h2, h3, hpost _ _ _ _ _ _ ⟨Cond.after_iff.mpr rfl, Cond.after_iff.mpr (eq_i res_at (Term.int_eval (1)) rfl), trivial⟩ ⟨hq.1, hq.2.1, (hq.2.2.sift fun y hy => Or.inr (N y hy)).mono (by decide) (by decide)⟩⟩
theorem main_1_1 : Claimed_1_1 := comes_1 fun _ _ _ _ _ _ h hF => ⟨h.1, hF⟩
theorem main_1_2 : Claimed_1_2 := comes_1 fun _ _ _ _ _ _ h hF => ⟨h.2.1, hF⟩
end Jvm.Pilot.@@N@@
namespace Jvm.Pilot.@@N@@
open Jvm Jvm.ClassFile Sem Op Lib Jvm.Free Jvm.Stand Jvm.Pilot.@@N@@.Jvm.D
/-! MADE BY PROGRAM (witnessworld.py) out of the Statement's table words and the real class files: 9 classes; the members and pool entries that the words name. The judged class is class 1, her method 3. -/
namespace start1
open Jvm.ClassFile
def u (s : String) : CpInfo := .utf8 (stringToUtf16 s)
/-- a pool by its gaps: so many unusable entries, then the entry; so many at the end -/
def gap : Nat → List CpInfo → List CpInfo
  | 0, r => r
  | n + 1, r => .unusable :: gap n r
def poolList (es : List (Nat × CpInfo)) (last : Nat) : List CpInfo := es.foldr (fun e r => gap e.1 (e.2 :: r)) (gap last [])
def pool (es : List (Nat × CpInfo)) (last : Nat) : Array CpInfo := ⟨poolList es last⟩
def fileOf (pool : Array CpInfo) (this : Nat) (attrs : Array Attribute := #[]) (ms : Array MethodInfo := #[]) (fl : Nat := 33) (sup : Nat := 0) (ifs : Array Nat := #[]) (fds : Array FieldInfo := #[]) : ClassFile where
  minorVersion := 0
  majorVersion := 65
  constantPool := pool
  accessFlags := fl
  thisClass := this
  superClass := sup
  interfaces := ifs
  fields := fds
  methods := ms
  attributes := attrs
def plain (name : String) (sup : Option ClassId) : Class where
  name := name
  kind := .ordinary
  loader := none
  accessFlags := 33
  super := sup
  interfaces := #[]
  cf := none
  fields := #[]
  methods := #[]
  instanceTypes := #[]
  staticTypes := #[]
  resolved := #[]
  callSites := []
  init := .initialized
  statics := none
  mirror := none

def pool0 : Array CpInfo := pool [(5, u "<init>"), (0, u "()V"), (1, .class_ 10), (1, u "java/lang/Object")] 113

def k0m0 : Method := { name := "<init>", desc := "()V", sig := { parameters := [], returnType := none }, accessFlags := 1, code := none }
/-- java/lang/Object -/
def k0 : Class := { plain "java/lang/Object" none with
  accessFlags := 33
  interfaces := #[]
  cf := some (fileOf pool0 8 #[] #[{ accessFlags := 1, nameIndex := 5, descriptorIndex := 6, attributes := #[] }] 33 0 #[] #[])
  fields := #[]
  methods := #[k0m0]
  instanceTypes := #[]
  staticTypes := #[]
  resolved := Array.replicate 124 none
  statics := none }

def pool1 : Array CpInfo := pool [(2, .class_ 4), (1, u "java/lang/Object"), (0, u "<init>"), (0, u "()V"), (0, .integer 983039), (0, .methodref 9 10), (0, .class_ 11), (0, .nameAndType 12 13), (0, u "com/example/moth/moth/core/value/XmlNamesIsNameStartPinLaw"), (0, u "in"), (0, u "(III)Z"), (0, .integer 55296), (0, .integer 63743), (0, .integer 64976), (0, .integer 65007), (0, .integer 65534), (0, .integer 65535), (0, .integer 55295), (0, .integer 63744), (0, .integer 64975), (0, .integer 65008), (0, .integer 65533), (0, .integer 65536), (2, .integer 2147483648), (0, .integer 2147483647), (0, .methodref 31 32), (0, .class_ 33), (0, .nameAndType 34 35), (0, u "com/example/moth/moth/core/value/XmlNames"), (0, u "isNameStart"), (0, u "(I)Z"), (0, .methodref 9 37), (0, .nameAndType 38 35), (0, u "reference"), (3, u "law")] 4

def k1m0 : Method := { name := "<init>", desc := "()V", sig := { parameters := [], returnType := none }, accessFlags := 2, code := none }
def k1c1 : Code := { maxStack := 2, maxLocals := 3, code := method_2_code, exceptionTable := #[], attributes := #[] }
def k1m1 : Method := { name := "in", desc := "(III)Z", sig := { parameters := [.int, .int, .int], returnType := some .boolean }, accessFlags := 10, code := some k1c1 }
def k1c2 : Code := { maxStack := 3, maxLocals := 1, code := method_3_code, exceptionTable := #[], attributes := #[] }
def k1m2 : Method := { name := "reference", desc := "(I)Z", sig := { parameters := [.int], returnType := some .boolean }, accessFlags := 10, code := some k1c2 }
def k1c3 : Code := { maxStack := 4, maxLocals := 9, code := code, exceptionTable := #[], attributes := #[] }
def k1m3 : Method := { name := "law", desc := "(III)Z", sig := { parameters := [.int, .int, .int], returnType := some .boolean }, accessFlags := 9, code := some k1c3 }
/-- com/example/moth/moth/core/value/XmlNamesIsNameStartPinLaw -/
def k1 : Class := { plain "com/example/moth/moth/core/value/XmlNamesIsNameStartPinLaw" (some 0) with
  accessFlags := 49
  interfaces := #[]
  cf := some (fileOf pool1 9 #[] #[{ accessFlags := 2, nameIndex := 5, descriptorIndex := 6, attributes := #[] }, { accessFlags := 10, nameIndex := 12, descriptorIndex := 13, attributes := #[] }, { accessFlags := 10, nameIndex := 38, descriptorIndex := 35, attributes := #[] }, { accessFlags := 9, nameIndex := 42, descriptorIndex := 13, attributes := #[] }] 49 2 #[] #[])
  fields := #[]
  methods := #[k1m0, k1m1, k1m2, k1m3]
  instanceTypes := #[]
  staticTypes := #[]
  resolved := Array.replicate 47 none
  statics := none }

def pool2 : Array CpInfo := pool [(2, .class_ 4), (1, u "java/lang/Object"), (0, u "<init>"), (0, u "()V"), (60, .class_ 69), (1, u "com/example/moth/moth/core/value/XmlNames"), (0, u "isNameStart"), (0, u "(I)Z"), (15, .integer 55295), (0, .integer 63744), (0, .integer 64975), (0, .integer 65008), (0, .integer 65533), (0, .integer 65536), (0, .integer 983039)] 42

def k2m0 : Method := { name := "<init>", desc := "()V", sig := { parameters := [], returnType := none }, accessFlags := 2, code := none }
def k2c1 : Code := { maxStack := 2, maxLocals := 1, code := prog_133_method_9_code, exceptionTable := #[], attributes := #[] }
def k2m1 : Method := { name := "isNameStart", desc := "(I)Z", sig := { parameters := [.int], returnType := some .boolean }, accessFlags := 9, code := some k2c1 }
/-- com/example/moth/moth/core/value/XmlNames -/
def k2 : Class := { plain "com/example/moth/moth/core/value/XmlNames" (some 0) with
  accessFlags := 33
  interfaces := #[]
  cf := some (fileOf pool2 67 #[] #[{ accessFlags := 2, nameIndex := 5, descriptorIndex := 6, attributes := #[] }, { accessFlags := 9, nameIndex := 70, descriptorIndex := 71, attributes := #[] }] 33 2 #[] #[])
  fields := #[]
  methods := #[k2m0, k2m1]
  instanceTypes := #[]
  staticTypes := #[]
  resolved := Array.replicate 136 none
  statics := none }

def pool3 : Array CpInfo := pool [(1, u "java/lang/Cloneable"), (0, .class_ 1), (0, u "java/lang/Object"), (0, .class_ 3)] 3

/-- java/lang/Cloneable -/
def k3 : Class := { plain "java/lang/Cloneable" (some 0) with
  accessFlags := 1537
  interfaces := #[]
  cf := some (fileOf pool3 2 #[] #[] 1537 4 #[] #[])
  fields := #[]
  methods := #[]
  instanceTypes := #[]
  staticTypes := #[]
  resolved := Array.replicate 8 none
  statics := none }

def pool4 : Array CpInfo := pool [(1, u "java/io/Serializable"), (0, .class_ 1), (0, u "java/lang/Object"), (0, .class_ 3)] 3

/-- java/io/Serializable -/
def k4 : Class := { plain "java/io/Serializable" (some 0) with
  accessFlags := 1537
  interfaces := #[]
  cf := some (fileOf pool4 2 #[] #[] 1537 4 #[] #[])
  fields := #[]
  methods := #[]
  instanceTypes := #[]
  staticTypes := #[]
  resolved := Array.replicate 8 none
  statics := none }

/-- the primitive byte -/
def k5 : Class := { plain "byte" none with kind := .primitive 'B', accessFlags := 0x411 }
/-- [B -/
def k6 : Class := { plain "[B" (some 0) with kind := .array 5 .byte, interfaces := #[3, 4], accessFlags := 1041 }

/-- the primitive int -/
def k7 : Class := { plain "int" none with kind := .primitive 'I', accessFlags := 0x411 }
/-- [I -/
def k8 : Class := { plain "[I" (some 0) with kind := .array 7 .int, interfaces := #[3, 4], accessFlags := 1041 }

def heap : Heap := #[]
def classes : Array Class := #[k0, k1, k2, k3, k4, k5, k6, k7, k8]
def interned : List (Array UInt16 × Addr) := []
def slotsUsed : Nat := 0
def theMethod : MethodId := ⟨1, 3⟩
def args0 : Array Value := #[.int 65, .int 3, .int 2]
def aboutOver (below : List Frame) : State where
  vm := { classes := classes, interned := interned.toArray }
  heap := heap
  slotsUsed := slotsUsed
  threads := #[{ frames := .invoking theMethod args0 :: below }]
def below0 : List Frame := [.native { method := ⟨0, 0⟩, args := #[] }]
def about1 : State := aboutOver below0
def p0 : Program := .bare "" "" ""
def e0 : Env := launch0.env 0 0 0
theorem w_frames : about1.frames = Frame.invoking theMethod args0 :: below0 := rfl
set_option maxRecDepth 65536 in
theorem w_args : argsFit about1.vm theMethod args0 = true := by decide +kernel
set_option maxRecDepth 65536 in
theorem w_heap : heapFits about1 = true := by decide +kernel
set_option maxRecDepth 65536 in
theorem w_runnable : about1.curStatus? = some .runnable := by decide +kernel
set_option maxRecDepth 65536 in
theorem w_alone : about1.alone = true := by decide +kernel
set_option maxRecDepth 65536 in
theorem w_named : about1.methodNamed? x = some theMethod := by decide +kernel
set_option maxRecDepth 65536 in
theorem w_hears : about1.hears theMethod below0 = true := by decide +kernel
set_option maxRecDepth 65536 in
theorem w_ripe : about1.ripe theMethod args0 below0 = true := by decide +kernel
theorem w_running : about1.status = .running := rfl
set_option maxRecDepth 65536 in
theorem w_room : about1.hasRoom e0.platform room_1 = true :=
  launch0.hasRoom_least _ room_1 (by decide +kernel) (by decide +kernel) (by decide +kernel) (by decide +kernel) (by decide +kernel) (by decide +kernel)
theorem allAtoms_all (ts : List Jvm.Cond) (a : Array Jvm.Value) (st : Jvm.State) : (allAtoms ts).before a st = ts.all (fun c => c.before a st) := by
  induction ts with
  | nil => rfl
  | cons c t ih =>
    show (Jvm.Cond.and c (allAtoms t)).before a st = _
    rw [Jvm.Cond.before_and, ih, List.all_cons]
def words1 : List Jvm.Cond := Jvm.Cond.code x code maxLocals ret :: tables_1
/-- a 'code' word, met by the world's own term for the bytes: nothing is compared byte by byte -/
theorem code_word {y : MethodName} {bytes : ByteArray} {mx : Nat} {rt : Option FieldType} {a : Array Value} {s : State} {m : MethodId} {meth : Method} {c : Code} (h1 : s.methodNamed? y = some m) (h2 : s.vm.method? m = some meth) (h3 : meth.code = some c) (h4 : c.code = bytes)
    (h5 : (c.maxLocals == mx && c.exceptionTable.isEmpty && decide (c.maxStack ≤ mostOperands) && decide (meth.sig.returnType = rt) && !meth.locks && decide (parseMethodDescriptor y.desc = some meth.sig)) = true) : (Jvm.Cond.code y bytes mx rt).before a s = true := by
  simp only [Bool.and_eq_true, beq_iff_eq, Bool.not_eq_true', decide_eq_true_eq] at h5
  obtain ⟨⟨⟨⟨⟨g1, g2⟩, g3⟩, g4⟩, g5⟩, g6⟩ := h5
  simp [Cond.before, Cond.holds, Cond.value, h1, h2, h3, h4, g1, g2, g3, g4, g5, g6]
def isCode : Jvm.Cond → Bool
  | .code _ _ _ _ => true
  | _ => false
theorem all_split {L : List Jvm.Cond} {P : Jvm.Cond → Bool} (h1 : L.all (fun c => isCode c || P c) = true) (h2 : ∀ c ∈ L.filter isCode, P c = true) : L.all P = true := by
  refine List.all_eq_true.mpr fun c hc => ?_
  have h := List.all_eq_true.mp h1 c hc
  rcases Bool.eq_false_or_eq_true (isCode c) with hi | hi
  · exact h2 c (List.mem_filter.mpr ⟨hc, hi⟩)
  · simpa [hi] using h
set_option maxRecDepth 65536 in
theorem w_c0 : (Jvm.Cond.code x code maxLocals ret).before args0 about1 = true := code_word (m := ⟨1, 3⟩) (meth := k1m3) (c := k1c3) (by decide +kernel) rfl rfl rfl (by decide +kernel)
set_option maxRecDepth 65536 in
theorem w_c1 : (Jvm.Cond.code ({ cls := "com/example/moth/moth/core/value/XmlNames", name := "isNameStart", desc := "(I)Z" } : Jvm.MethodName) prog_133_method_9_code (1 : Nat) (Option.some Jvm.ClassFile.FieldType.boolean)).before args0 about1 = true := code_word (m := ⟨2, 1⟩) (meth := k2m1) (c := k2c1) (by decide +kernel) rfl rfl rfl (by decide +kernel)
set_option maxRecDepth 65536 in
theorem w_c2 : (Jvm.Cond.code ({ cls := "com/example/moth/moth/core/value/XmlNamesIsNameStartPinLaw", name := "reference", desc := "(I)Z" } : Jvm.MethodName) method_3_code (1 : Nat) (Option.some Jvm.ClassFile.FieldType.boolean)).before args0 about1 = true := code_word (m := ⟨1, 2⟩) (meth := k1m2) (c := k1c2) (by decide +kernel) rfl rfl rfl (by decide +kernel)
set_option maxRecDepth 65536 in
theorem w_c3 : (Jvm.Cond.code ({ cls := "com/example/moth/moth/core/value/XmlNamesIsNameStartPinLaw", name := "in", desc := "(III)Z" } : Jvm.MethodName) method_2_code (3 : Nat) (Option.some Jvm.ClassFile.FieldType.boolean)).before args0 about1 = true := code_word (m := ⟨1, 1⟩) (meth := k1m1) (c := k1c1) (by decide +kernel) rfl rfl rfl (by decide +kernel)
def codes1 : List Jvm.Cond := [Jvm.Cond.code x code maxLocals ret, Jvm.Cond.code ({ cls := "com/example/moth/moth/core/value/XmlNames", name := "isNameStart", desc := "(I)Z" } : Jvm.MethodName) prog_133_method_9_code (1 : Nat) (Option.some Jvm.ClassFile.FieldType.boolean), Jvm.Cond.code ({ cls := "com/example/moth/moth/core/value/XmlNamesIsNameStartPinLaw", name := "reference", desc := "(I)Z" } : Jvm.MethodName) method_3_code (1 : Nat) (Option.some Jvm.ClassFile.FieldType.boolean), Jvm.Cond.code ({ cls := "com/example/moth/moth/core/value/XmlNamesIsNameStartPinLaw", name := "in", desc := "(III)Z" } : Jvm.MethodName) method_2_code (3 : Nat) (Option.some Jvm.ClassFile.FieldType.boolean)]
set_option maxRecDepth 65536 in
theorem codes_eq : words1.filter isCode = codes1 := rfl
theorem w_codes : ∀ c ∈ words1.filter isCode, c.before args0 about1 = true := by
  rw [codes_eq]
  intro c hc
  simp only [codes1, List.mem_cons, List.not_mem_nil, or_false] at hc
  rcases hc with rfl | rfl | rfl | rfl
  · exact w_c0
  · exact w_c1
  · exact w_c2
  · exact w_c3
set_option maxRecDepth 65536 in
theorem w_t1 : (words1.take 24).all (fun c => isCode c || c.before args0 about1) = true := by decide +kernel
set_option maxRecDepth 65536 in
theorem w_t2 : (words1.drop 24).all (fun c => isCode c || c.before args0 about1) = true := by decide +kernel
theorem w_tables : (allAtoms (Jvm.Cond.code x code maxLocals ret :: tables_1)).before args0 about1 = true := by
  rw [allAtoms_all]
  show words1.all (fun c => c.before args0 about1) = true
  refine all_split ?_ w_codes
  rw [← List.take_append_drop 24 words1, List.all_append, w_t1, w_t2]
  rfl
set_option maxRecDepth 65536 in
theorem w_case : (Jvm.Cond.and given_1 narrow_1).before args0 about1 = true := by decide +kernel
theorem w_applies : (headSpec (Jvm.Cond.code x code maxLocals ret :: tables_1) room_1).applies x e0.platform about1 = true :=
  (Spec.applies_iff w_frames).mpr ⟨w_running, w_runnable, w_alone, w_named, w_hears, w_ripe, w_room, w_tables⟩
theorem atStart : AtStart classFile x code maxLocals ret World_1 tables_1 room_1 Calls_1 rest_1 Pre_1 launch0 p0 e0 about1 theMethod args0 below0 :=
  ⟨lists_1, trivial, launch0.admits_env _ _ _, launch0.least_env, fairChoices_fair.cas, fairChoices_fair.clock, w_frames, w_args, w_heap, w_applies, trivial, trivial, w_case⟩
end start1
theorem witness_1 : WitnessClaimed_1 := ⟨start1.p0, start1.e0, start1.about1, start1.theMethod, start1.args0, start1.below0, start1.atStart⟩
end Jvm.Pilot.@@N@@
