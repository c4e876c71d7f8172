import JvmDerived
import JvmDerived.Pilot.@@N@@Statement
import JvmDerived.Pilot.@@N@@Code
set_option linter.unusedVariables false
set_option linter.unusedSimpArgs false
namespace Jvm.RoadKit
open Sem ClassFile Op Lib Jvm.Stand Jvm.Free Jvm.LawKit
section New
variable {p : Program} {l : Launch} {e : Env} {R : Room} {s : State} {m : MethodId} {args : Array Value} {below : List Frame} {meth : Method} {c : Code} {T : State} {locs : List Loc} {cells slots : Nat}
theorem retI (X : Stand p l e R s m args below meth c T locs cells slots) (hx : p.tables.exec = Jvm.exec) {pc : Nat} {Ls : Array Slot} {z : Int32} {rest : List Value} (hret : meth.sig.returnType = some .int) (hd : decode c.code pc = .ok (.ireturn, 1)) {fs : List Frame}
    (hl : ∀ (f : JFrame) (acts : List Action), f.method = m → f.locked = none → f.entered = [] → (doReturn e (T.setTop f) acts (some (.int z))).1 = T.setFrames fs) : Steps p.tables e below (T.setTop (mkF m pc Ls (.int z :: rest))) (T.setFrames fs) := by
  have hm' : T.vm.method? m = some meth := X.method'
  have hn : narrow .int (.int z) = .int z := rfl
  show Steps p.tables e below (T.setTop { method := m, pc := pc, locals := Ls, stack := _ :: rest, locked := none }) _
  jvm_step X.here [X.here.top, hx, hd, hm', hret, hn]
  first | (intro acts; rw [hl _ acts rfl rfl rfl]) | rw [hl _ _ rfl rfl rfl]
  exact Steps.refl _
end New
end Jvm.RoadKit
namespace Jvm.Pilot.@@N@@
open Jvm Jvm.ClassFile Sem Op Lib Jvm.Free Jvm.Stand Jvm.LawKit Jvm.RoadKit Bundle Jvm.Pilot.@@N@@.Jvm.D
/-! what every block says -/
def own_b (b : Bool) : Int32 := cond b 1 0
theorem own_nar (b : Bool) : nar .boolean (own_b b) = own_b b := by cases b <;> rfl
theorem own_b0 {b : Bool} (h : b = false) : own_b b = (0 : Int32) := by rw [h]; rfl
theorem own_b1 {b : Bool} (h : ¬ b = false) : ¬ own_b b = (0 : Int32) := by cases b; exact absurd rfl h; decide
abbrev own_ushr (x y : Int32) : Int32 := (x.toUInt32 >>> (y &&& 31).toUInt32).toInt32
abbrev own_ushrL (x : Int64) (y : Int32) : Int64 := (x.toUInt64 >>> (y &&& 0x3f).toInt64.toUInt64).toInt64
/-- from the frame g over T0 the run comes to an ireturn with v on top, the heap as it stood -/
def own_Ret (p : Program) (l : Launch) (e : Env) (R : Room) (s : State) (m : MethodId) (args : Array Value) (below : List Frame) (meth : Method) (c : Code) (h0 : Heap) (n0 cells slots : Nat) (T0 : State) (g : JFrame) (v : Int32) : Prop :=
  ∃ (T' : State) (locs' : List Loc) (pcr : Nat) (Ls : Array Slot), Stand p l e R s m args below meth c T' locs' cells slots ∧ T'.heap = h0 ∧ Fr n0 locs' ∧ decode c.code pcr = .ok (.ireturn, 1) ∧
    ∀ target, Steps p.tables e below (T'.setTop (mkF m pcr Ls [.int v])) target → Steps p.tables e below (T0.setTop g) target
theorem own_step {p : Program} {l : Launch} {e : Env} {R : Room} {s : State} {m : MethodId} {args : Array Value} {below : List Frame} {meth : Method} {c : Code} {h0 : Heap} {n0 cells slots : Nat} {T0 T1 : State} {g0 g1 : JFrame} {v : Int32}
    (st : ∀ target, Steps p.tables e below (T1.setTop g1) target → Steps p.tables e below (T0.setTop g0) target) (h : own_Ret p l e R s m args below meth c h0 n0 cells slots T1 g1 v) : own_Ret p l e R s m args below meth c h0 n0 cells slots T0 g0 v := by
  obtain ⟨T', locs', pcr, Ls, h1, h2, h3, h4, h5⟩ := h
  exact ⟨T', locs', pcr, Ls, h1, h2, h3, h4, fun t k => st t (h5 t k)⟩
def own_Q (w : Int32) (h0 : Heap) (n0 : Nat) (v : Option Value) (h : Heap) (L : List Loc) : Prop := v = some (.int w) ∧ Fr n0 L ∧ h = h0
/-! arrays of ints that are filled once: a store behind the last, a read -/
theorem own_map_getD (vals : List Int32) (i : Nat) : (vals.map Value.int).getD i (.int 0) = .int (vals.getD i 0) := by
  simp only [List.getD_eq_getElem?_getD, List.getElem?_map]
  cases vals[i]? <;> rfl
theorem own_at {Z : State} {h : Heap} {a : Addr} {k : ClassId} {ty : FieldType} {n j : Int32} {vals : List Int32} (F : Arv Z h a k ty n (vals.map Value.int) (.int 0)) (hj : ¬ j < 0 ∧ j < n) :
    ∃ cl : Cell, Arr Z h a cl ty ∧ ¬ (j < 0 ∨ cl.slots.size ≤ j.toNatClampNeg) ∧ cl.slots[j.toNatClampNeg]? = some (.int (vals.getD j.toNatClampNeg 0)) := by
  obtain ⟨cl, A, q, S, Nn, H, G⟩ := F
  exact ⟨cl, A, inb_of S hj, H.at (inb_of S hj) (own_map_getD _ _)⟩
theorem own_set_end (vals : List Int32) (x : Int32) : (vals.map Value.int ++ List.replicate 1 (Value.int 0)).set vals.length (.int x) = (vals ++ [x]).map Value.int := by
  rw [List.set_append_right _ _ (by simp)]
  simp
section Own
variable {p : Program} {l : Launch} {e : Env} {R : Room} {s : State} {m : MethodId} {args : Array Value} {below : List Frame} {meth : Method} {c : Code} {T : State} {locs : List Loc} {cells slots : Nat} {Z : State} {h h0 : Heap} {b : Addr} {k : ClassId} {n : Int32} {vals : List Int32} {n0 : Nat}
theorem own_putI (X : Stand p l e R s m args below meth c T locs cells slots) (hx : p.tables.exec = Jvm.exec) (hZ : Z.Warmed39 s.vm) (eT : T.heap = h) (F : Arv Z h b k .int n (vals.map Value.int) (.int 0)) (N : Fr n0 locs) (g0 : n0 ≤ b) (K : Keep h0 h []) (sz : h0.size ≤ b) (j x : Int32) (hj : j.toNatClampNeg = vals.length) (hj2 : ¬ j < 0 ∧ j < n) {g : JFrame} (hg : g.method = m) {rest : List Value} (hs : g.stack = .int x :: .int j :: .ref b :: rest) (hd : decode c.code g.pc = .ok (.iastore, 1)) :
    ∃ (T' : State) (h' : Heap) (locs' : List Loc), Stand p l e R s m args below meth c T' locs' cells slots ∧ T'.heap = h' ∧ Arv Z h' b k .int n ((vals ++ [x]).map Value.int) (.int 0) ∧ Fr n0 locs' ∧ Keep h0 h' [] ∧ ∀ target, Steps p.tables e below (T'.setTop { g with pc := g.pc + 1, stack := rest }) target → Steps p.tables e below (T.setTop g) target := by
  obtain ⟨cl, A, q, S, Nn, H, G⟩ := F.pad (pad_rep _ _ 1)
  obtain ⟨T', h', X', e', W, st⟩ := stI X hx hZ eT A (j := j) (x := x) (inb_of S hj2) hg hs hd
  have V2 := Arv.set A q S Nn H G (v := .int x) rfl W vals.length hj (by simp)
  rw [own_set_end] at V2
  exact ⟨T', h', _, X', e', V2, Fr.snoc X' N g0, K.wr W (Or.inr sz), st⟩
theorem own_putC (X : Stand p l e R s m args below meth c T locs cells slots) (hx : p.tables.exec = Jvm.exec) (hZ : Z.Warmed39 s.vm) (eT : T.heap = h) (F : Arv Z h b k .char n (vals.map Value.int) (.int 0)) (N : Fr n0 locs) (g0 : n0 ≤ b) (K : Keep h0 h []) (sz : h0.size ≤ b) (j x : Int32) (hn : nar .char x = x) (hj : j.toNatClampNeg = vals.length) (hj2 : ¬ j < 0 ∧ j < n) {g : JFrame} (hg : g.method = m) {rest : List Value} (hs : g.stack = .int x :: .int j :: .ref b :: rest) (hd : decode c.code g.pc = .ok (.castore, 1)) :
    ∃ (T' : State) (h' : Heap) (locs' : List Loc), Stand p l e R s m args below meth c T' locs' cells slots ∧ T'.heap = h' ∧ Arv Z h' b k .char n ((vals ++ [x]).map Value.int) (.int 0) ∧ Fr n0 locs' ∧ Keep h0 h' [] ∧ ∀ target, Steps p.tables e below (T'.setTop { g with pc := g.pc + 1, stack := rest }) target → Steps p.tables e below (T.setTop g) target := by
  obtain ⟨cl, A, q, S, Nn, H, G⟩ := F.pad (pad_rep _ _ 1)
  obtain ⟨T', h', X', e', W, st⟩ := stC X hx hZ eT A (j := j) (x := x) (inb_of S hj2) hg hs hd
  rw [hn] at W
  have V2 := Arv.set A q S Nn H G (v := .int x) (by have := fits_nar_char x; rwa [hn] at this) W vals.length hj (by simp)
  rw [own_set_end] at V2
  exact ⟨T', h', _, X', e', V2, Fr.snoc X' N g0, K.wr W (Or.inr sz), st⟩
end Own

theorem d1_0 : decode prog_96_method_2_code 0 = .ok (.iload_n 0, 1) := by decide +kernel
theorem d1_1 : decode prog_96_method_2_code 1 = .ok (.bipush 97, 2) := by decide +kernel
theorem d1_3 : decode prog_96_method_2_code 3 = .ok (.if_icmp .lt 9, 3) := by decide +kernel
theorem d1_6 : decode prog_96_method_2_code 6 = .ok (.iload_n 0, 1) := by decide +kernel
theorem d1_7 : decode prog_96_method_2_code 7 = .ok (.bipush 122, 2) := by decide +kernel
theorem d1_9 : decode prog_96_method_2_code 9 = .ok (.if_icmp .le 182, 3) := by decide +kernel
theorem d1_12 : decode prog_96_method_2_code 12 = .ok (.iload_n 0, 1) := by decide +kernel
theorem d1_13 : decode prog_96_method_2_code 13 = .ok (.bipush 65, 2) := by decide +kernel
theorem d1_15 : decode prog_96_method_2_code 15 = .ok (.if_icmp .lt 9, 3) := by decide +kernel
theorem d1_18 : decode prog_96_method_2_code 18 = .ok (.iload_n 0, 1) := by decide +kernel
theorem d1_19 : decode prog_96_method_2_code 19 = .ok (.bipush 90, 2) := by decide +kernel
theorem d1_21 : decode prog_96_method_2_code 21 = .ok (.if_icmp .le 170, 3) := by decide +kernel
theorem d1_24 : decode prog_96_method_2_code 24 = .ok (.iload_n 0, 1) := by decide +kernel
theorem d1_25 : decode prog_96_method_2_code 25 = .ok (.bipush 95, 2) := by decide +kernel
theorem d1_27 : decode prog_96_method_2_code 27 = .ok (.if_icmp .eq 164, 3) := by decide +kernel
theorem d1_30 : decode prog_96_method_2_code 30 = .ok (.iload_n 0, 1) := by decide +kernel
theorem d1_31 : decode prog_96_method_2_code 31 = .ok (.sipush 192, 3) := by decide +kernel
theorem d1_34 : decode prog_96_method_2_code 34 = .ok (.if_icmp .lt 10, 3) := by decide +kernel
theorem d1_37 : decode prog_96_method_2_code 37 = .ok (.iload_n 0, 1) := by decide +kernel
theorem d1_38 : decode prog_96_method_2_code 38 = .ok (.sipush 214, 3) := by decide +kernel
theorem d1_41 : decode prog_96_method_2_code 41 = .ok (.if_icmp .le 150, 3) := by decide +kernel
theorem d1_44 : decode prog_96_method_2_code 44 = .ok (.iload_n 0, 1) := by decide +kernel
theorem d1_45 : decode prog_96_method_2_code 45 = .ok (.sipush 216, 3) := by decide +kernel
theorem d1_48 : decode prog_96_method_2_code 48 = .ok (.if_icmp .lt 10, 3) := by decide +kernel
theorem d1_51 : decode prog_96_method_2_code 51 = .ok (.iload_n 0, 1) := by decide +kernel
theorem d1_52 : decode prog_96_method_2_code 52 = .ok (.sipush 246, 3) := by decide +kernel
theorem d1_55 : decode prog_96_method_2_code 55 = .ok (.if_icmp .le 136, 3) := by decide +kernel
theorem d1_58 : decode prog_96_method_2_code 58 = .ok (.iload_n 0, 1) := by decide +kernel
theorem d1_59 : decode prog_96_method_2_code 59 = .ok (.sipush 248, 3) := by decide +kernel
theorem d1_62 : decode prog_96_method_2_code 62 = .ok (.if_icmp .lt 10, 3) := by decide +kernel
theorem d1_65 : decode prog_96_method_2_code 65 = .ok (.iload_n 0, 1) := by decide +kernel
theorem d1_66 : decode prog_96_method_2_code 66 = .ok (.sipush 767, 3) := by decide +kernel
theorem d1_69 : decode prog_96_method_2_code 69 = .ok (.if_icmp .le 122, 3) := by decide +kernel
theorem d1_72 : decode prog_96_method_2_code 72 = .ok (.iload_n 0, 1) := by decide +kernel
theorem d1_73 : decode prog_96_method_2_code 73 = .ok (.sipush 880, 3) := by decide +kernel
theorem d1_76 : decode prog_96_method_2_code 76 = .ok (.if_icmp .lt 10, 3) := by decide +kernel
theorem d1_79 : decode prog_96_method_2_code 79 = .ok (.iload_n 0, 1) := by decide +kernel
theorem d1_80 : decode prog_96_method_2_code 80 = .ok (.sipush 893, 3) := by decide +kernel
theorem d1_83 : decode prog_96_method_2_code 83 = .ok (.if_icmp .le 108, 3) := by decide +kernel
theorem d1_86 : decode prog_96_method_2_code 86 = .ok (.iload_n 0, 1) := by decide +kernel
theorem d1_87 : decode prog_96_method_2_code 87 = .ok (.sipush 895, 3) := by decide +kernel
theorem d1_90 : decode prog_96_method_2_code 90 = .ok (.if_icmp .lt 10, 3) := by decide +kernel
theorem d1_93 : decode prog_96_method_2_code 93 = .ok (.iload_n 0, 1) := by decide +kernel
theorem d1_94 : decode prog_96_method_2_code 94 = .ok (.sipush 8191, 3) := by decide +kernel
theorem d1_97 : decode prog_96_method_2_code 97 = .ok (.if_icmp .le 94, 3) := by decide +kernel
theorem d1_100 : decode prog_96_method_2_code 100 = .ok (.iload_n 0, 1) := by decide +kernel
theorem d1_101 : decode prog_96_method_2_code 101 = .ok (.sipush 8204, 3) := by decide +kernel
theorem d1_104 : decode prog_96_method_2_code 104 = .ok (.if_icmp .lt 10, 3) := by decide +kernel
theorem d1_107 : decode prog_96_method_2_code 107 = .ok (.iload_n 0, 1) := by decide +kernel
theorem d1_108 : decode prog_96_method_2_code 108 = .ok (.sipush 8205, 3) := by decide +kernel
theorem d1_111 : decode prog_96_method_2_code 111 = .ok (.if_icmp .le 80, 3) := by decide +kernel
theorem d1_114 : decode prog_96_method_2_code 114 = .ok (.iload_n 0, 1) := by decide +kernel
theorem d1_115 : decode prog_96_method_2_code 115 = .ok (.sipush 8304, 3) := by decide +kernel
theorem d1_118 : decode prog_96_method_2_code 118 = .ok (.if_icmp .lt 10, 3) := by decide +kernel
theorem d1_121 : decode prog_96_method_2_code 121 = .ok (.iload_n 0, 1) := by decide +kernel
theorem d1_122 : decode prog_96_method_2_code 122 = .ok (.sipush 8591, 3) := by decide +kernel
theorem d1_125 : decode prog_96_method_2_code 125 = .ok (.if_icmp .le 66, 3) := by decide +kernel
theorem d1_128 : decode prog_96_method_2_code 128 = .ok (.iload_n 0, 1) := by decide +kernel
theorem d1_129 : decode prog_96_method_2_code 129 = .ok (.sipush 11264, 3) := by decide +kernel
theorem d1_132 : decode prog_96_method_2_code 132 = .ok (.if_icmp .lt 10, 3) := by decide +kernel
theorem d1_135 : decode prog_96_method_2_code 135 = .ok (.iload_n 0, 1) := by decide +kernel
theorem d1_136 : decode prog_96_method_2_code 136 = .ok (.sipush 12271, 3) := by decide +kernel
theorem d1_139 : decode prog_96_method_2_code 139 = .ok (.if_icmp .le 52, 3) := by decide +kernel
theorem d1_142 : decode prog_96_method_2_code 142 = .ok (.iload_n 0, 1) := by decide +kernel
theorem d1_143 : decode prog_96_method_2_code 143 = .ok (.sipush 12289, 3) := by decide +kernel
theorem d1_146 : decode prog_96_method_2_code 146 = .ok (.if_icmp .lt 9, 3) := by decide +kernel
theorem d1_149 : decode prog_96_method_2_code 149 = .ok (.iload_n 0, 1) := by decide +kernel
theorem d1_150 : decode prog_96_method_2_code 150 = .ok (.ldc 7, 2) := by decide +kernel
theorem d1_152 : decode prog_96_method_2_code 152 = .ok (.if_icmp .le 39, 3) := by decide +kernel
theorem d1_155 : decode prog_96_method_2_code 155 = .ok (.iload_n 0, 1) := by decide +kernel
theorem d1_156 : decode prog_96_method_2_code 156 = .ok (.ldc 8, 2) := by decide +kernel
theorem d1_158 : decode prog_96_method_2_code 158 = .ok (.if_icmp .lt 9, 3) := by decide +kernel
theorem d1_161 : decode prog_96_method_2_code 161 = .ok (.iload_n 0, 1) := by decide +kernel
theorem d1_162 : decode prog_96_method_2_code 162 = .ok (.ldc 9, 2) := by decide +kernel
theorem d1_164 : decode prog_96_method_2_code 164 = .ok (.if_icmp .le 27, 3) := by decide +kernel
theorem d1_167 : decode prog_96_method_2_code 167 = .ok (.iload_n 0, 1) := by decide +kernel
theorem d1_168 : decode prog_96_method_2_code 168 = .ok (.ldc 10, 2) := by decide +kernel
theorem d1_170 : decode prog_96_method_2_code 170 = .ok (.if_icmp .lt 9, 3) := by decide +kernel
theorem d1_173 : decode prog_96_method_2_code 173 = .ok (.iload_n 0, 1) := by decide +kernel
theorem d1_174 : decode prog_96_method_2_code 174 = .ok (.ldc 11, 2) := by decide +kernel
theorem d1_176 : decode prog_96_method_2_code 176 = .ok (.if_icmp .le 15, 3) := by decide +kernel
theorem d1_179 : decode prog_96_method_2_code 179 = .ok (.iload_n 0, 1) := by decide +kernel
theorem d1_180 : decode prog_96_method_2_code 180 = .ok (.ldc 12, 2) := by decide +kernel
theorem d1_182 : decode prog_96_method_2_code 182 = .ok (.if_icmp .lt 13, 3) := by decide +kernel
theorem d1_185 : decode prog_96_method_2_code 185 = .ok (.iload_n 0, 1) := by decide +kernel
theorem d1_186 : decode prog_96_method_2_code 186 = .ok (.ldc 13, 2) := by decide +kernel
theorem d1_188 : decode prog_96_method_2_code 188 = .ok (.if_icmp .gt 7, 3) := by decide +kernel
theorem d1_191 : decode prog_96_method_2_code 191 = .ok (.iconst 1, 1) := by decide +kernel
theorem d1_192 : decode prog_96_method_2_code 192 = .ok (.goto 4, 3) := by decide +kernel
theorem d1_195 : decode prog_96_method_2_code 195 = .ok (.iconst 0, 1) := by decide +kernel
theorem d1_196 : decode prog_96_method_2_code 196 = .ok (.ireturn, 1) := by decide +kernel
def f1_195 (i0 : Int32) : Bool := false
set_option maxRecDepth 65536 in
set_option maxHeartbeats 4000000 in
theorem b1_195 {p : Program} {l : Launch} {e : Env} {s : State} {m : MethodId} {args : Array Value} {below : List Frame} {meth : Method} {c : Code} {T0 : State} {locs : List Loc} {Z : State} {a0 : Array Value} {h0 : Heap} {n0 : Nat} (i0 : Int32) (X0 : Stand p l e ({ frames := 0, cells := 0, slots := 0, locals := 0 } : Room) s m args below meth c T0 locs 0 0) (hx : p.tables.exec = Jvm.exec) (hZ : Z.Warmed39 s.vm) (hw : ∀ d ∈ tables_1, d.before a0 Z = true) (hby : c.code = prog_96_method_2_code) (hml : c.maxLocals = 1) (hown : s.vm.findClass "com/example/reshape/reshape/tree/XmlNames" = some m.cls) (e0 : T0.heap = h0) (N0 : Fr n0 locs) (Z0 : n0 ≤ h0.size) :
    own_Ret p l e ({ frames := 0, cells := 0, slots := 0, locals := 0 } : Room) s m args below meth c h0 n0 0 0 T0 (mkF m 195 #[.val (.int i0)] []) (own_b (f1_195 i0)) := by
  unfold f1_195
  refine own_step (T1 := T0) (g1 := (mkF m 196 #[.val (.int i0)] [(.int (0 : Int32))])) (fun _ k => XS.iconst X0.here hx rfl (hb hby d1_195) k) ?_
  exact ⟨_, _, 196, _, X0, e0, N0, (hb hby d1_196), fun _ k => k⟩
def f1_191 (i0 : Int32) : Bool := true
set_option maxRecDepth 65536 in
set_option maxHeartbeats 4000000 in
theorem b1_191 {p : Program} {l : Launch} {e : Env} {s : State} {m : MethodId} {args : Array Value} {below : List Frame} {meth : Method} {c : Code} {T0 : State} {locs : List Loc} {Z : State} {a0 : Array Value} {h0 : Heap} {n0 : Nat} (i0 : Int32) (X0 : Stand p l e ({ frames := 0, cells := 0, slots := 0, locals := 0 } : Room) s m args below meth c T0 locs 0 0) (hx : p.tables.exec = Jvm.exec) (hZ : Z.Warmed39 s.vm) (hw : ∀ d ∈ tables_1, d.before a0 Z = true) (hby : c.code = prog_96_method_2_code) (hml : c.maxLocals = 1) (hown : s.vm.findClass "com/example/reshape/reshape/tree/XmlNames" = some m.cls) (e0 : T0.heap = h0) (N0 : Fr n0 locs) (Z0 : n0 ≤ h0.size) :
    own_Ret p l e ({ frames := 0, cells := 0, slots := 0, locals := 0 } : Room) s m args below meth c h0 n0 0 0 T0 (mkF m 191 #[.val (.int i0)] []) (own_b (f1_191 i0)) := by
  unfold f1_191
  refine own_step (T1 := T0) (g1 := (mkF m 192 #[.val (.int i0)] [(.int (1 : Int32))])) (fun _ k => XS.iconst X0.here hx rfl (hb hby d1_191) k) ?_
  refine own_step (T1 := T0) (g1 := (mkF m 196 #[.val (.int i0)] [(.int (1 : Int32))])) (fun _ k => XS.goto X0.here hx rfl (pc0 := 192) (pc' := 196) rfl (hb hby d1_192) (by decide) (by decide) k) ?_
  exact ⟨_, _, 196, _, X0, e0, N0, (hb hby d1_196), fun _ k => k⟩
def f1_179 (i0 : Int32) : Bool := (if i0 < (65536 : Int32) then (f1_195 i0) else (if (983039 : Int32) < i0 then (f1_195 i0) else (f1_191 i0)))
set_option maxRecDepth 65536 in
set_option maxHeartbeats 4000000 in
theorem b1_179 {p : Program} {l : Launch} {e : Env} {s : State} {m : MethodId} {args : Array Value} {below : List Frame} {meth : Method} {c : Code} {T0 : State} {locs : List Loc} {Z : State} {a0 : Array Value} {h0 : Heap} {n0 : Nat} (i0 : Int32) (X0 : Stand p l e ({ frames := 0, cells := 0, slots := 0, locals := 0 } : Room) s m args below meth c T0 locs 0 0) (hx : p.tables.exec = Jvm.exec) (hZ : Z.Warmed39 s.vm) (hw : ∀ d ∈ tables_1, d.before a0 Z = true) (hby : c.code = prog_96_method_2_code) (hml : c.maxLocals = 1) (hown : s.vm.findClass "com/example/reshape/reshape/tree/XmlNames" = some m.cls) (e0 : T0.heap = h0) (N0 : Fr n0 locs) (Z0 : n0 ≤ h0.size) :
    own_Ret p l e ({ frames := 0, cells := 0, slots := 0, locals := 0 } : Room) s m args below meth c h0 n0 0 0 T0 (mkF m 179 #[.val (.int i0)] []) (own_b (f1_179 i0)) := by
  unfold f1_179
  refine own_step (T1 := T0) (g1 := (mkF m 180 #[.val (.int i0)] [(.int i0)])) (fun _ k => XS.iloadN X0.here hx rfl (hb hby d1_179) rfl k) ?_
  refine own_step (T1 := T0) (g1 := (mkF m 182 #[.val (.int i0)] [(.int (65536 : Int32)), (.int i0)])) (fun _ k => X0.ldcInt hx hown (mvT hZ (hw _ (List.mem_of_getElem? (i := 21) rfl))) (g := (mkF m 180 #[.val (.int i0)] [(.int i0)])) rfl (hb hby d1_180) _ k) ?_
  by_cases hc182 : i0 < (65536 : Int32)
  · rw [if_pos hc182]
    refine own_step (T1 := T0) (g1 := (mkF m 195 #[.val (.int i0)] [])) (fun _ k => XS.icmpYes X0.here hx rfl (pc0 := 182) (pc' := 195) rfl (hb hby d1_182) rfl (tlt hc182).1 (by decide) (by decide) k) ?_
    exact b1_195 i0 X0 hx hZ hw hby hml hown e0 N0 Z0
  · rw [if_neg hc182]
    refine own_step (T1 := T0) (g1 := (mkF m 185 #[.val (.int i0)] [])) (fun _ k => XS.icmpNo X0.here hx rfl (hb hby d1_182) rfl (flt hc182).1 k) ?_
    refine own_step (T1 := T0) (g1 := (mkF m 186 #[.val (.int i0)] [(.int i0)])) (fun _ k => XS.iloadN X0.here hx rfl (hb hby d1_185) rfl k) ?_
    refine own_step (T1 := T0) (g1 := (mkF m 188 #[.val (.int i0)] [(.int (983039 : Int32)), (.int i0)])) (fun _ k => X0.ldcInt hx hown (mvT hZ (hw _ (List.mem_of_getElem? (i := 25) rfl))) (g := (mkF m 186 #[.val (.int i0)] [(.int i0)])) rfl (hb hby d1_186) _ k) ?_
    by_cases hc188 : (983039 : Int32) < i0
    · rw [if_pos hc188]
      refine own_step (T1 := T0) (g1 := (mkF m 195 #[.val (.int i0)] [])) (fun _ k => XS.icmpYes X0.here hx rfl (pc0 := 188) (pc' := 195) rfl (hb hby d1_188) rfl (tlt hc188).2.2.1 (by decide) (by decide) k) ?_
      exact b1_195 i0 X0 hx hZ hw hby hml hown e0 N0 Z0
    · rw [if_neg hc188]
      refine own_step (T1 := T0) (g1 := (mkF m 191 #[.val (.int i0)] [])) (fun _ k => XS.icmpNo X0.here hx rfl (hb hby d1_188) rfl (flt hc188).2.2.1 k) ?_
      exact b1_191 i0 X0 hx hZ hw hby hml hown e0 N0 Z0
def f1_167 (i0 : Int32) : Bool := (if i0 < (65008 : Int32) then (f1_179 i0) else (if (65533 : Int32) < i0 then (f1_179 i0) else (f1_191 i0)))
set_option maxRecDepth 65536 in
set_option maxHeartbeats 4000000 in
theorem b1_167 {p : Program} {l : Launch} {e : Env} {s : State} {m : MethodId} {args : Array Value} {below : List Frame} {meth : Method} {c : Code} {T0 : State} {locs : List Loc} {Z : State} {a0 : Array Value} {h0 : Heap} {n0 : Nat} (i0 : Int32) (X0 : Stand p l e ({ frames := 0, cells := 0, slots := 0, locals := 0 } : Room) s m args below meth c T0 locs 0 0) (hx : p.tables.exec = Jvm.exec) (hZ : Z.Warmed39 s.vm) (hw : ∀ d ∈ tables_1, d.before a0 Z = true) (hby : c.code = prog_96_method_2_code) (hml : c.maxLocals = 1) (hown : s.vm.findClass "com/example/reshape/reshape/tree/XmlNames" = some m.cls) (e0 : T0.heap = h0) (N0 : Fr n0 locs) (Z0 : n0 ≤ h0.size) :
    own_Ret p l e ({ frames := 0, cells := 0, slots := 0, locals := 0 } : Room) s m args below meth c h0 n0 0 0 T0 (mkF m 167 #[.val (.int i0)] []) (own_b (f1_167 i0)) := by
  unfold f1_167
  refine own_step (T1 := T0) (g1 := (mkF m 168 #[.val (.int i0)] [(.int i0)])) (fun _ k => XS.iloadN X0.here hx rfl (hb hby d1_167) rfl k) ?_
  refine own_step (T1 := T0) (g1 := (mkF m 170 #[.val (.int i0)] [(.int (65008 : Int32)), (.int i0)])) (fun _ k => X0.ldcInt hx hown (mvT hZ (hw _ (List.mem_of_getElem? (i := 20) rfl))) (g := (mkF m 168 #[.val (.int i0)] [(.int i0)])) rfl (hb hby d1_168) _ k) ?_
  by_cases hc170 : i0 < (65008 : Int32)
  · rw [if_pos hc170]
    refine own_step (T1 := T0) (g1 := (mkF m 179 #[.val (.int i0)] [])) (fun _ k => XS.icmpYes X0.here hx rfl (pc0 := 170) (pc' := 179) rfl (hb hby d1_170) rfl (tlt hc170).1 (by decide) (by decide) k) ?_
    exact b1_179 i0 X0 hx hZ hw hby hml hown e0 N0 Z0
  · rw [if_neg hc170]
    refine own_step (T1 := T0) (g1 := (mkF m 173 #[.val (.int i0)] [])) (fun _ k => XS.icmpNo X0.here hx rfl (hb hby d1_170) rfl (flt hc170).1 k) ?_
    refine own_step (T1 := T0) (g1 := (mkF m 174 #[.val (.int i0)] [(.int i0)])) (fun _ k => XS.iloadN X0.here hx rfl (hb hby d1_173) rfl k) ?_
    refine own_step (T1 := T0) (g1 := (mkF m 176 #[.val (.int i0)] [(.int (65533 : Int32)), (.int i0)])) (fun _ k => X0.ldcInt hx hown (mvT hZ (hw _ (List.mem_of_getElem? (i := 24) rfl))) (g := (mkF m 174 #[.val (.int i0)] [(.int i0)])) rfl (hb hby d1_174) _ k) ?_
    by_cases hc176 : (65533 : Int32) < i0
    · rw [if_pos hc176]
      refine own_step (T1 := T0) (g1 := (mkF m 179 #[.val (.int i0)] [])) (fun _ k => XS.icmpNo X0.here hx rfl (hb hby d1_176) rfl (tlt hc176).2.2.2 k) ?_
      exact b1_179 i0 X0 hx hZ hw hby hml hown e0 N0 Z0
    · rw [if_neg hc176]
      refine own_step (T1 := T0) (g1 := (mkF m 191 #[.val (.int i0)] [])) (fun _ k => XS.icmpYes X0.here hx rfl (pc0 := 176) (pc' := 191) rfl (hb hby d1_176) rfl (flt hc176).2.2.2 (by decide) (by decide) k) ?_
      exact b1_191 i0 X0 hx hZ hw hby hml hown e0 N0 Z0
def f1_155 (i0 : Int32) : Bool := (if i0 < (63744 : Int32) then (f1_167 i0) else (if (64975 : Int32) < i0 then (f1_167 i0) else (f1_191 i0)))
set_option maxRecDepth 65536 in
set_option maxHeartbeats 4000000 in
theorem b1_155 {p : Program} {l : Launch} {e : Env} {s : State} {m : MethodId} {args : Array Value} {below : List Frame} {meth : Method} {c : Code} {T0 : State} {locs : List Loc} {Z : State} {a0 : Array Value} {h0 : Heap} {n0 : Nat} (i0 : Int32) (X0 : Stand p l e ({ frames := 0, cells := 0, slots := 0, locals := 0 } : Room) s m args below meth c T0 locs 0 0) (hx : p.tables.exec = Jvm.exec) (hZ : Z.Warmed39 s.vm) (hw : ∀ d ∈ tables_1, d.before a0 Z = true) (hby : c.code = prog_96_method_2_code) (hml : c.maxLocals = 1) (hown : s.vm.findClass "com/example/reshape/reshape/tree/XmlNames" = some m.cls) (e0 : T0.heap = h0) (N0 : Fr n0 locs) (Z0 : n0 ≤ h0.size) :
    own_Ret p l e ({ frames := 0, cells := 0, slots := 0, locals := 0 } : Room) s m args below meth c h0 n0 0 0 T0 (mkF m 155 #[.val (.int i0)] []) (own_b (f1_155 i0)) := by
  unfold f1_155
  refine own_step (T1 := T0) (g1 := (mkF m 156 #[.val (.int i0)] [(.int i0)])) (fun _ k => XS.iloadN X0.here hx rfl (hb hby d1_155) rfl k) ?_
  refine own_step (T1 := T0) (g1 := (mkF m 158 #[.val (.int i0)] [(.int (63744 : Int32)), (.int i0)])) (fun _ k => X0.ldcInt hx hown (mvT hZ (hw _ (List.mem_of_getElem? (i := 19) rfl))) (g := (mkF m 156 #[.val (.int i0)] [(.int i0)])) rfl (hb hby d1_156) _ k) ?_
  by_cases hc158 : i0 < (63744 : Int32)
  · rw [if_pos hc158]
    refine own_step (T1 := T0) (g1 := (mkF m 167 #[.val (.int i0)] [])) (fun _ k => XS.icmpYes X0.here hx rfl (pc0 := 158) (pc' := 167) rfl (hb hby d1_158) rfl (tlt hc158).1 (by decide) (by decide) k) ?_
    exact b1_167 i0 X0 hx hZ hw hby hml hown e0 N0 Z0
  · rw [if_neg hc158]
    refine own_step (T1 := T0) (g1 := (mkF m 161 #[.val (.int i0)] [])) (fun _ k => XS.icmpNo X0.here hx rfl (hb hby d1_158) rfl (flt hc158).1 k) ?_
    refine own_step (T1 := T0) (g1 := (mkF m 162 #[.val (.int i0)] [(.int i0)])) (fun _ k => XS.iloadN X0.here hx rfl (hb hby d1_161) rfl k) ?_
    refine own_step (T1 := T0) (g1 := (mkF m 164 #[.val (.int i0)] [(.int (64975 : Int32)), (.int i0)])) (fun _ k => X0.ldcInt hx hown (mvT hZ (hw _ (List.mem_of_getElem? (i := 23) rfl))) (g := (mkF m 162 #[.val (.int i0)] [(.int i0)])) rfl (hb hby d1_162) _ k) ?_
    by_cases hc164 : (64975 : Int32) < i0
    · rw [if_pos hc164]
      refine own_step (T1 := T0) (g1 := (mkF m 167 #[.val (.int i0)] [])) (fun _ k => XS.icmpNo X0.here hx rfl (hb hby d1_164) rfl (tlt hc164).2.2.2 k) ?_
      exact b1_167 i0 X0 hx hZ hw hby hml hown e0 N0 Z0
    · rw [if_neg hc164]
      refine own_step (T1 := T0) (g1 := (mkF m 191 #[.val (.int i0)] [])) (fun _ k => XS.icmpYes X0.here hx rfl (pc0 := 164) (pc' := 191) rfl (hb hby d1_164) rfl (flt hc164).2.2.2 (by decide) (by decide) k) ?_
      exact b1_191 i0 X0 hx hZ hw hby hml hown e0 N0 Z0
def f1_142 (i0 : Int32) : Bool := (if i0 < (12289 : Int32) then (f1_155 i0) else (if (55295 : Int32) < i0 then (f1_155 i0) else (f1_191 i0)))
set_option maxRecDepth 65536 in
set_option maxHeartbeats 4000000 in
theorem b1_142 {p : Program} {l : Launch} {e : Env} {s : State} {m : MethodId} {args : Array Value} {below : List Frame} {meth : Method} {c : Code} {T0 : State} {locs : List Loc} {Z : State} {a0 : Array Value} {h0 : Heap} {n0 : Nat} (i0 : Int32) (X0 : Stand p l e ({ frames := 0, cells := 0, slots := 0, locals := 0 } : Room) s m args below meth c T0 locs 0 0) (hx : p.tables.exec = Jvm.exec) (hZ : Z.Warmed39 s.vm) (hw : ∀ d ∈ tables_1, d.before a0 Z = true) (hby : c.code = prog_96_method_2_code) (hml : c.maxLocals = 1) (hown : s.vm.findClass "com/example/reshape/reshape/tree/XmlNames" = some m.cls) (e0 : T0.heap = h0) (N0 : Fr n0 locs) (Z0 : n0 ≤ h0.size) :
    own_Ret p l e ({ frames := 0, cells := 0, slots := 0, locals := 0 } : Room) s m args below meth c h0 n0 0 0 T0 (mkF m 142 #[.val (.int i0)] []) (own_b (f1_142 i0)) := by
  unfold f1_142
  refine own_step (T1 := T0) (g1 := (mkF m 143 #[.val (.int i0)] [(.int i0)])) (fun _ k => XS.iloadN X0.here hx rfl (hb hby d1_142) rfl k) ?_
  refine own_step (T1 := T0) (g1 := (mkF m 146 #[.val (.int i0)] [(.int (12289 : Int32)), (.int i0)])) (fun _ k => XS.sipush X0.here hx rfl (hb hby d1_143) k) ?_
  by_cases hc146 : i0 < (12289 : Int32)
  · rw [if_pos hc146]
    refine own_step (T1 := T0) (g1 := (mkF m 155 #[.val (.int i0)] [])) (fun _ k => XS.icmpYes X0.here hx rfl (pc0 := 146) (pc' := 155) rfl (hb hby d1_146) rfl (tlt hc146).1 (by decide) (by decide) k) ?_
    exact b1_155 i0 X0 hx hZ hw hby hml hown e0 N0 Z0
  · rw [if_neg hc146]
    refine own_step (T1 := T0) (g1 := (mkF m 149 #[.val (.int i0)] [])) (fun _ k => XS.icmpNo X0.here hx rfl (hb hby d1_146) rfl (flt hc146).1 k) ?_
    refine own_step (T1 := T0) (g1 := (mkF m 150 #[.val (.int i0)] [(.int i0)])) (fun _ k => XS.iloadN X0.here hx rfl (hb hby d1_149) rfl k) ?_
    refine own_step (T1 := T0) (g1 := (mkF m 152 #[.val (.int i0)] [(.int (55295 : Int32)), (.int i0)])) (fun _ k => X0.ldcInt hx hown (mvT hZ (hw _ (List.mem_of_getElem? (i := 22) rfl))) (g := (mkF m 150 #[.val (.int i0)] [(.int i0)])) rfl (hb hby d1_150) _ k) ?_
    by_cases hc152 : (55295 : Int32) < i0
    · rw [if_pos hc152]
      refine own_step (T1 := T0) (g1 := (mkF m 155 #[.val (.int i0)] [])) (fun _ k => XS.icmpNo X0.here hx rfl (hb hby d1_152) rfl (tlt hc152).2.2.2 k) ?_
      exact b1_155 i0 X0 hx hZ hw hby hml hown e0 N0 Z0
    · rw [if_neg hc152]
      refine own_step (T1 := T0) (g1 := (mkF m 191 #[.val (.int i0)] [])) (fun _ k => XS.icmpYes X0.here hx rfl (pc0 := 152) (pc' := 191) rfl (hb hby d1_152) rfl (flt hc152).2.2.2 (by decide) (by decide) k) ?_
      exact b1_191 i0 X0 hx hZ hw hby hml hown e0 N0 Z0
def f1_128 (i0 : Int32) : Bool := (if i0 < (11264 : Int32) then (f1_142 i0) else (if (12271 : Int32) < i0 then (f1_142 i0) else (f1_191 i0)))
set_option maxRecDepth 65536 in
set_option maxHeartbeats 4000000 in
theorem b1_128 {p : Program} {l : Launch} {e : Env} {s : State} {m : MethodId} {args : Array Value} {below : List Frame} {meth : Method} {c : Code} {T0 : State} {locs : List Loc} {Z : State} {a0 : Array Value} {h0 : Heap} {n0 : Nat} (i0 : Int32) (X0 : Stand p l e ({ frames := 0, cells := 0, slots := 0, locals := 0 } : Room) s m args below meth c T0 locs 0 0) (hx : p.tables.exec = Jvm.exec) (hZ : Z.Warmed39 s.vm) (hw : ∀ d ∈ tables_1, d.before a0 Z = true) (hby : c.code = prog_96_method_2_code) (hml : c.maxLocals = 1) (hown : s.vm.findClass "com/example/reshape/reshape/tree/XmlNames" = some m.cls) (e0 : T0.heap = h0) (N0 : Fr n0 locs) (Z0 : n0 ≤ h0.size) :
    own_Ret p l e ({ frames := 0, cells := 0, slots := 0, locals := 0 } : Room) s m args below meth c h0 n0 0 0 T0 (mkF m 128 #[.val (.int i0)] []) (own_b (f1_128 i0)) := by
  unfold f1_128
  refine own_step (T1 := T0) (g1 := (mkF m 129 #[.val (.int i0)] [(.int i0)])) (fun _ k => XS.iloadN X0.here hx rfl (hb hby d1_128) rfl k) ?_
  refine own_step (T1 := T0) (g1 := (mkF m 132 #[.val (.int i0)] [(.int (11264 : Int32)), (.int i0)])) (fun _ k => XS.sipush X0.here hx rfl (hb hby d1_129) k) ?_
  by_cases hc132 : i0 < (11264 : Int32)
  · rw [if_pos hc132]
    refine own_step (T1 := T0) (g1 := (mkF m 142 #[.val (.int i0)] [])) (fun _ k => XS.icmpYes X0.here hx rfl (pc0 := 132) (pc' := 142) rfl (hb hby d1_132) rfl (tlt hc132).1 (by decide) (by decide) k) ?_
    exact b1_142 i0 X0 hx hZ hw hby hml hown e0 N0 Z0
  · rw [if_neg hc132]
    refine own_step (T1 := T0) (g1 := (mkF m 135 #[.val (.int i0)] [])) (fun _ k => XS.icmpNo X0.here hx rfl (hb hby d1_132) rfl (flt hc132).1 k) ?_
    refine own_step (T1 := T0) (g1 := (mkF m 136 #[.val (.int i0)] [(.int i0)])) (fun _ k => XS.iloadN X0.here hx rfl (hb hby d1_135) rfl k) ?_
    refine own_step (T1 := T0) (g1 := (mkF m 139 #[.val (.int i0)] [(.int (12271 : Int32)), (.int i0)])) (fun _ k => XS.sipush X0.here hx rfl (hb hby d1_136) k) ?_
    by_cases hc139 : (12271 : Int32) < i0
    · rw [if_pos hc139]
      refine own_step (T1 := T0) (g1 := (mkF m 142 #[.val (.int i0)] [])) (fun _ k => XS.icmpNo X0.here hx rfl (hb hby d1_139) rfl (tlt hc139).2.2.2 k) ?_
      exact b1_142 i0 X0 hx hZ hw hby hml hown e0 N0 Z0
    · rw [if_neg hc139]
      refine own_step (T1 := T0) (g1 := (mkF m 191 #[.val (.int i0)] [])) (fun _ k => XS.icmpYes X0.here hx rfl (pc0 := 139) (pc' := 191) rfl (hb hby d1_139) rfl (flt hc139).2.2.2 (by decide) (by decide) k) ?_
      exact b1_191 i0 X0 hx hZ hw hby hml hown e0 N0 Z0
def f1_114 (i0 : Int32) : Bool := (if i0 < (8304 : Int32) then (f1_128 i0) else (if (8591 : Int32) < i0 then (f1_128 i0) else (f1_191 i0)))
set_option maxRecDepth 65536 in
set_option maxHeartbeats 4000000 in
theorem b1_114 {p : Program} {l : Launch} {e : Env} {s : State} {m : MethodId} {args : Array Value} {below : List Frame} {meth : Method} {c : Code} {T0 : State} {locs : List Loc} {Z : State} {a0 : Array Value} {h0 : Heap} {n0 : Nat} (i0 : Int32) (X0 : Stand p l e ({ frames := 0, cells := 0, slots := 0, locals := 0 } : Room) s m args below meth c T0 locs 0 0) (hx : p.tables.exec = Jvm.exec) (hZ : Z.Warmed39 s.vm) (hw : ∀ d ∈ tables_1, d.before a0 Z = true) (hby : c.code = prog_96_method_2_code) (hml : c.maxLocals = 1) (hown : s.vm.findClass "com/example/reshape/reshape/tree/XmlNames" = some m.cls) (e0 : T0.heap = h0) (N0 : Fr n0 locs) (Z0 : n0 ≤ h0.size) :
    own_Ret p l e ({ frames := 0, cells := 0, slots := 0, locals := 0 } : Room) s m args below meth c h0 n0 0 0 T0 (mkF m 114 #[.val (.int i0)] []) (own_b (f1_114 i0)) := by
  unfold f1_114
  refine own_step (T1 := T0) (g1 := (mkF m 115 #[.val (.int i0)] [(.int i0)])) (fun _ k => XS.iloadN X0.here hx rfl (hb hby d1_114) rfl k) ?_
  refine own_step (T1 := T0) (g1 := (mkF m 118 #[.val (.int i0)] [(.int (8304 : Int32)), (.int i0)])) (fun _ k => XS.sipush X0.here hx rfl (hb hby d1_115) k) ?_
  by_cases hc118 : i0 < (8304 : Int32)
  · rw [if_pos hc118]
    refine own_step (T1 := T0) (g1 := (mkF m 128 #[.val (.int i0)] [])) (fun _ k => XS.icmpYes X0.here hx rfl (pc0 := 118) (pc' := 128) rfl (hb hby d1_118) rfl (tlt hc118).1 (by decide) (by decide) k) ?_
    exact b1_128 i0 X0 hx hZ hw hby hml hown e0 N0 Z0
  · rw [if_neg hc118]
    refine own_step (T1 := T0) (g1 := (mkF m 121 #[.val (.int i0)] [])) (fun _ k => XS.icmpNo X0.here hx rfl (hb hby d1_118) rfl (flt hc118).1 k) ?_
    refine own_step (T1 := T0) (g1 := (mkF m 122 #[.val (.int i0)] [(.int i0)])) (fun _ k => XS.iloadN X0.here hx rfl (hb hby d1_121) rfl k) ?_
    refine own_step (T1 := T0) (g1 := (mkF m 125 #[.val (.int i0)] [(.int (8591 : Int32)), (.int i0)])) (fun _ k => XS.sipush X0.here hx rfl (hb hby d1_122) k) ?_
    by_cases hc125 : (8591 : Int32) < i0
    · rw [if_pos hc125]
      refine own_step (T1 := T0) (g1 := (mkF m 128 #[.val (.int i0)] [])) (fun _ k => XS.icmpNo X0.here hx rfl (hb hby d1_125) rfl (tlt hc125).2.2.2 k) ?_
      exact b1_128 i0 X0 hx hZ hw hby hml hown e0 N0 Z0
    · rw [if_neg hc125]
      refine own_step (T1 := T0) (g1 := (mkF m 191 #[.val (.int i0)] [])) (fun _ k => XS.icmpYes X0.here hx rfl (pc0 := 125) (pc' := 191) rfl (hb hby d1_125) rfl (flt hc125).2.2.2 (by decide) (by decide) k) ?_
      exact b1_191 i0 X0 hx hZ hw hby hml hown e0 N0 Z0
def f1_100 (i0 : Int32) : Bool := (if i0 < (8204 : Int32) then (f1_114 i0) else (if (8205 : Int32) < i0 then (f1_114 i0) else (f1_191 i0)))
set_option maxRecDepth 65536 in
set_option maxHeartbeats 4000000 in
theorem b1_100 {p : Program} {l : Launch} {e : Env} {s : State} {m : MethodId} {args : Array Value} {below : List Frame} {meth : Method} {c : Code} {T0 : State} {locs : List Loc} {Z : State} {a0 : Array Value} {h0 : Heap} {n0 : Nat} (i0 : Int32) (X0 : Stand p l e ({ frames := 0, cells := 0, slots := 0, locals := 0 } : Room) s m args below meth c T0 locs 0 0) (hx : p.tables.exec = Jvm.exec) (hZ : Z.Warmed39 s.vm) (hw : ∀ d ∈ tables_1, d.before a0 Z = true) (hby : c.code = prog_96_method_2_code) (hml : c.maxLocals = 1) (hown : s.vm.findClass "com/example/reshape/reshape/tree/XmlNames" = some m.cls) (e0 : T0.heap = h0) (N0 : Fr n0 locs) (Z0 : n0 ≤ h0.size) :
    own_Ret p l e ({ frames := 0, cells := 0, slots := 0, locals := 0 } : Room) s m args below meth c h0 n0 0 0 T0 (mkF m 100 #[.val (.int i0)] []) (own_b (f1_100 i0)) := by
  unfold f1_100
  refine own_step (T1 := T0) (g1 := (mkF m 101 #[.val (.int i0)] [(.int i0)])) (fun _ k => XS.iloadN X0.here hx rfl (hb hby d1_100) rfl k) ?_
  refine own_step (T1 := T0) (g1 := (mkF m 104 #[.val (.int i0)] [(.int (8204 : Int32)), (.int i0)])) (fun _ k => XS.sipush X0.here hx rfl (hb hby d1_101) k) ?_
  by_cases hc104 : i0 < (8204 : Int32)
  · rw [if_pos hc104]
    refine own_step (T1 := T0) (g1 := (mkF m 114 #[.val (.int i0)] [])) (fun _ k => XS.icmpYes X0.here hx rfl (pc0 := 104) (pc' := 114) rfl (hb hby d1_104) rfl (tlt hc104).1 (by decide) (by decide) k) ?_
    exact b1_114 i0 X0 hx hZ hw hby hml hown e0 N0 Z0
  · rw [if_neg hc104]
    refine own_step (T1 := T0) (g1 := (mkF m 107 #[.val (.int i0)] [])) (fun _ k => XS.icmpNo X0.here hx rfl (hb hby d1_104) rfl (flt hc104).1 k) ?_
    refine own_step (T1 := T0) (g1 := (mkF m 108 #[.val (.int i0)] [(.int i0)])) (fun _ k => XS.iloadN X0.here hx rfl (hb hby d1_107) rfl k) ?_
    refine own_step (T1 := T0) (g1 := (mkF m 111 #[.val (.int i0)] [(.int (8205 : Int32)), (.int i0)])) (fun _ k => XS.sipush X0.here hx rfl (hb hby d1_108) k) ?_
    by_cases hc111 : (8205 : Int32) < i0
    · rw [if_pos hc111]
      refine own_step (T1 := T0) (g1 := (mkF m 114 #[.val (.int i0)] [])) (fun _ k => XS.icmpNo X0.here hx rfl (hb hby d1_111) rfl (tlt hc111).2.2.2 k) ?_
      exact b1_114 i0 X0 hx hZ hw hby hml hown e0 N0 Z0
    · rw [if_neg hc111]
      refine own_step (T1 := T0) (g1 := (mkF m 191 #[.val (.int i0)] [])) (fun _ k => XS.icmpYes X0.here hx rfl (pc0 := 111) (pc' := 191) rfl (hb hby d1_111) rfl (flt hc111).2.2.2 (by decide) (by decide) k) ?_
      exact b1_191 i0 X0 hx hZ hw hby hml hown e0 N0 Z0
def f1_86 (i0 : Int32) : Bool := (if i0 < (895 : Int32) then (f1_100 i0) else (if (8191 : Int32) < i0 then (f1_100 i0) else (f1_191 i0)))
set_option maxRecDepth 65536 in
set_option maxHeartbeats 4000000 in
theorem b1_86 {p : Program} {l : Launch} {e : Env} {s : State} {m : MethodId} {args : Array Value} {below : List Frame} {meth : Method} {c : Code} {T0 : State} {locs : List Loc} {Z : State} {a0 : Array Value} {h0 : Heap} {n0 : Nat} (i0 : Int32) (X0 : Stand p l e ({ frames := 0, cells := 0, slots := 0, locals := 0 } : Room) s m args below meth c T0 locs 0 0) (hx : p.tables.exec = Jvm.exec) (hZ : Z.Warmed39 s.vm) (hw : ∀ d ∈ tables_1, d.before a0 Z = true) (hby : c.code = prog_96_method_2_code) (hml : c.maxLocals = 1) (hown : s.vm.findClass "com/example/reshape/reshape/tree/XmlNames" = some m.cls) (e0 : T0.heap = h0) (N0 : Fr n0 locs) (Z0 : n0 ≤ h0.size) :
    own_Ret p l e ({ frames := 0, cells := 0, slots := 0, locals := 0 } : Room) s m args below meth c h0 n0 0 0 T0 (mkF m 86 #[.val (.int i0)] []) (own_b (f1_86 i0)) := by
  unfold f1_86
  refine own_step (T1 := T0) (g1 := (mkF m 87 #[.val (.int i0)] [(.int i0)])) (fun _ k => XS.iloadN X0.here hx rfl (hb hby d1_86) rfl k) ?_
  refine own_step (T1 := T0) (g1 := (mkF m 90 #[.val (.int i0)] [(.int (895 : Int32)), (.int i0)])) (fun _ k => XS.sipush X0.here hx rfl (hb hby d1_87) k) ?_
  by_cases hc90 : i0 < (895 : Int32)
  · rw [if_pos hc90]
    refine own_step (T1 := T0) (g1 := (mkF m 100 #[.val (.int i0)] [])) (fun _ k => XS.icmpYes X0.here hx rfl (pc0 := 90) (pc' := 100) rfl (hb hby d1_90) rfl (tlt hc90).1 (by decide) (by decide) k) ?_
    exact b1_100 i0 X0 hx hZ hw hby hml hown e0 N0 Z0
  · rw [if_neg hc90]
    refine own_step (T1 := T0) (g1 := (mkF m 93 #[.val (.int i0)] [])) (fun _ k => XS.icmpNo X0.here hx rfl (hb hby d1_90) rfl (flt hc90).1 k) ?_
    refine own_step (T1 := T0) (g1 := (mkF m 94 #[.val (.int i0)] [(.int i0)])) (fun _ k => XS.iloadN X0.here hx rfl (hb hby d1_93) rfl k) ?_
    refine own_step (T1 := T0) (g1 := (mkF m 97 #[.val (.int i0)] [(.int (8191 : Int32)), (.int i0)])) (fun _ k => XS.sipush X0.here hx rfl (hb hby d1_94) k) ?_
    by_cases hc97 : (8191 : Int32) < i0
    · rw [if_pos hc97]
      refine own_step (T1 := T0) (g1 := (mkF m 100 #[.val (.int i0)] [])) (fun _ k => XS.icmpNo X0.here hx rfl (hb hby d1_97) rfl (tlt hc97).2.2.2 k) ?_
      exact b1_100 i0 X0 hx hZ hw hby hml hown e0 N0 Z0
    · rw [if_neg hc97]
      refine own_step (T1 := T0) (g1 := (mkF m 191 #[.val (.int i0)] [])) (fun _ k => XS.icmpYes X0.here hx rfl (pc0 := 97) (pc' := 191) rfl (hb hby d1_97) rfl (flt hc97).2.2.2 (by decide) (by decide) k) ?_
      exact b1_191 i0 X0 hx hZ hw hby hml hown e0 N0 Z0
def f1_72 (i0 : Int32) : Bool := (if i0 < (880 : Int32) then (f1_86 i0) else (if (893 : Int32) < i0 then (f1_86 i0) else (f1_191 i0)))
set_option maxRecDepth 65536 in
set_option maxHeartbeats 4000000 in
theorem b1_72 {p : Program} {l : Launch} {e : Env} {s : State} {m : MethodId} {args : Array Value} {below : List Frame} {meth : Method} {c : Code} {T0 : State} {locs : List Loc} {Z : State} {a0 : Array Value} {h0 : Heap} {n0 : Nat} (i0 : Int32) (X0 : Stand p l e ({ frames := 0, cells := 0, slots := 0, locals := 0 } : Room) s m args below meth c T0 locs 0 0) (hx : p.tables.exec = Jvm.exec) (hZ : Z.Warmed39 s.vm) (hw : ∀ d ∈ tables_1, d.before a0 Z = true) (hby : c.code = prog_96_method_2_code) (hml : c.maxLocals = 1) (hown : s.vm.findClass "com/example/reshape/reshape/tree/XmlNames" = some m.cls) (e0 : T0.heap = h0) (N0 : Fr n0 locs) (Z0 : n0 ≤ h0.size) :
    own_Ret p l e ({ frames := 0, cells := 0, slots := 0, locals := 0 } : Room) s m args below meth c h0 n0 0 0 T0 (mkF m 72 #[.val (.int i0)] []) (own_b (f1_72 i0)) := by
  unfold f1_72
  refine own_step (T1 := T0) (g1 := (mkF m 73 #[.val (.int i0)] [(.int i0)])) (fun _ k => XS.iloadN X0.here hx rfl (hb hby d1_72) rfl k) ?_
  refine own_step (T1 := T0) (g1 := (mkF m 76 #[.val (.int i0)] [(.int (880 : Int32)), (.int i0)])) (fun _ k => XS.sipush X0.here hx rfl (hb hby d1_73) k) ?_
  by_cases hc76 : i0 < (880 : Int32)
  · rw [if_pos hc76]
    refine own_step (T1 := T0) (g1 := (mkF m 86 #[.val (.int i0)] [])) (fun _ k => XS.icmpYes X0.here hx rfl (pc0 := 76) (pc' := 86) rfl (hb hby d1_76) rfl (tlt hc76).1 (by decide) (by decide) k) ?_
    exact b1_86 i0 X0 hx hZ hw hby hml hown e0 N0 Z0
  · rw [if_neg hc76]
    refine own_step (T1 := T0) (g1 := (mkF m 79 #[.val (.int i0)] [])) (fun _ k => XS.icmpNo X0.here hx rfl (hb hby d1_76) rfl (flt hc76).1 k) ?_
    refine own_step (T1 := T0) (g1 := (mkF m 80 #[.val (.int i0)] [(.int i0)])) (fun _ k => XS.iloadN X0.here hx rfl (hb hby d1_79) rfl k) ?_
    refine own_step (T1 := T0) (g1 := (mkF m 83 #[.val (.int i0)] [(.int (893 : Int32)), (.int i0)])) (fun _ k => XS.sipush X0.here hx rfl (hb hby d1_80) k) ?_
    by_cases hc83 : (893 : Int32) < i0
    · rw [if_pos hc83]
      refine own_step (T1 := T0) (g1 := (mkF m 86 #[.val (.int i0)] [])) (fun _ k => XS.icmpNo X0.here hx rfl (hb hby d1_83) rfl (tlt hc83).2.2.2 k) ?_
      exact b1_86 i0 X0 hx hZ hw hby hml hown e0 N0 Z0
    · rw [if_neg hc83]
      refine own_step (T1 := T0) (g1 := (mkF m 191 #[.val (.int i0)] [])) (fun _ k => XS.icmpYes X0.here hx rfl (pc0 := 83) (pc' := 191) rfl (hb hby d1_83) rfl (flt hc83).2.2.2 (by decide) (by decide) k) ?_
      exact b1_191 i0 X0 hx hZ hw hby hml hown e0 N0 Z0
def f1_58 (i0 : Int32) : Bool := (if i0 < (248 : Int32) then (f1_72 i0) else (if (767 : Int32) < i0 then (f1_72 i0) else (f1_191 i0)))
set_option maxRecDepth 65536 in
set_option maxHeartbeats 4000000 in
theorem b1_58 {p : Program} {l : Launch} {e : Env} {s : State} {m : MethodId} {args : Array Value} {below : List Frame} {meth : Method} {c : Code} {T0 : State} {locs : List Loc} {Z : State} {a0 : Array Value} {h0 : Heap} {n0 : Nat} (i0 : Int32) (X0 : Stand p l e ({ frames := 0, cells := 0, slots := 0, locals := 0 } : Room) s m args below meth c T0 locs 0 0) (hx : p.tables.exec = Jvm.exec) (hZ : Z.Warmed39 s.vm) (hw : ∀ d ∈ tables_1, d.before a0 Z = true) (hby : c.code = prog_96_method_2_code) (hml : c.maxLocals = 1) (hown : s.vm.findClass "com/example/reshape/reshape/tree/XmlNames" = some m.cls) (e0 : T0.heap = h0) (N0 : Fr n0 locs) (Z0 : n0 ≤ h0.size) :
    own_Ret p l e ({ frames := 0, cells := 0, slots := 0, locals := 0 } : Room) s m args below meth c h0 n0 0 0 T0 (mkF m 58 #[.val (.int i0)] []) (own_b (f1_58 i0)) := by
  unfold f1_58
  refine own_step (T1 := T0) (g1 := (mkF m 59 #[.val (.int i0)] [(.int i0)])) (fun _ k => XS.iloadN X0.here hx rfl (hb hby d1_58) rfl k) ?_
  refine own_step (T1 := T0) (g1 := (mkF m 62 #[.val (.int i0)] [(.int (248 : Int32)), (.int i0)])) (fun _ k => XS.sipush X0.here hx rfl (hb hby d1_59) k) ?_
  by_cases hc62 : i0 < (248 : Int32)
  · rw [if_pos hc62]
    refine own_step (T1 := T0) (g1 := (mkF m 72 #[.val (.int i0)] [])) (fun _ k => XS.icmpYes X0.here hx rfl (pc0 := 62) (pc' := 72) rfl (hb hby d1_62) rfl (tlt hc62).1 (by decide) (by decide) k) ?_
    exact b1_72 i0 X0 hx hZ hw hby hml hown e0 N0 Z0
  · rw [if_neg hc62]
    refine own_step (T1 := T0) (g1 := (mkF m 65 #[.val (.int i0)] [])) (fun _ k => XS.icmpNo X0.here hx rfl (hb hby d1_62) rfl (flt hc62).1 k) ?_
    refine own_step (T1 := T0) (g1 := (mkF m 66 #[.val (.int i0)] [(.int i0)])) (fun _ k => XS.iloadN X0.here hx rfl (hb hby d1_65) rfl k) ?_
    refine own_step (T1 := T0) (g1 := (mkF m 69 #[.val (.int i0)] [(.int (767 : Int32)), (.int i0)])) (fun _ k => XS.sipush X0.here hx rfl (hb hby d1_66) k) ?_
    by_cases hc69 : (767 : Int32) < i0
    · rw [if_pos hc69]
      refine own_step (T1 := T0) (g1 := (mkF m 72 #[.val (.int i0)] [])) (fun _ k => XS.icmpNo X0.here hx rfl (hb hby d1_69) rfl (tlt hc69).2.2.2 k) ?_
      exact b1_72 i0 X0 hx hZ hw hby hml hown e0 N0 Z0
    · rw [if_neg hc69]
      refine own_step (T1 := T0) (g1 := (mkF m 191 #[.val (.int i0)] [])) (fun _ k => XS.icmpYes X0.here hx rfl (pc0 := 69) (pc' := 191) rfl (hb hby d1_69) rfl (flt hc69).2.2.2 (by decide) (by decide) k) ?_
      exact b1_191 i0 X0 hx hZ hw hby hml hown e0 N0 Z0
def f1_44 (i0 : Int32) : Bool := (if i0 < (216 : Int32) then (f1_58 i0) else (if (246 : Int32) < i0 then (f1_58 i0) else (f1_191 i0)))
set_option maxRecDepth 65536 in
set_option maxHeartbeats 4000000 in
theorem b1_44 {p : Program} {l : Launch} {e : Env} {s : State} {m : MethodId} {args : Array Value} {below : List Frame} {meth : Method} {c : Code} {T0 : State} {locs : List Loc} {Z : State} {a0 : Array Value} {h0 : Heap} {n0 : Nat} (i0 : Int32) (X0 : Stand p l e ({ frames := 0, cells := 0, slots := 0, locals := 0 } : Room) s m args below meth c T0 locs 0 0) (hx : p.tables.exec = Jvm.exec) (hZ : Z.Warmed39 s.vm) (hw : ∀ d ∈ tables_1, d.before a0 Z = true) (hby : c.code = prog_96_method_2_code) (hml : c.maxLocals = 1) (hown : s.vm.findClass "com/example/reshape/reshape/tree/XmlNames" = some m.cls) (e0 : T0.heap = h0) (N0 : Fr n0 locs) (Z0 : n0 ≤ h0.size) :
    own_Ret p l e ({ frames := 0, cells := 0, slots := 0, locals := 0 } : Room) s m args below meth c h0 n0 0 0 T0 (mkF m 44 #[.val (.int i0)] []) (own_b (f1_44 i0)) := by
  unfold f1_44
  refine own_step (T1 := T0) (g1 := (mkF m 45 #[.val (.int i0)] [(.int i0)])) (fun _ k => XS.iloadN X0.here hx rfl (hb hby d1_44) rfl k) ?_
  refine own_step (T1 := T0) (g1 := (mkF m 48 #[.val (.int i0)] [(.int (216 : Int32)), (.int i0)])) (fun _ k => XS.sipush X0.here hx rfl (hb hby d1_45) k) ?_
  by_cases hc48 : i0 < (216 : Int32)
  · rw [if_pos hc48]
    refine own_step (T1 := T0) (g1 := (mkF m 58 #[.val (.int i0)] [])) (fun _ k => XS.icmpYes X0.here hx rfl (pc0 := 48) (pc' := 58) rfl (hb hby d1_48) rfl (tlt hc48).1 (by decide) (by decide) k) ?_
    exact b1_58 i0 X0 hx hZ hw hby hml hown e0 N0 Z0
  · rw [if_neg hc48]
    refine own_step (T1 := T0) (g1 := (mkF m 51 #[.val (.int i0)] [])) (fun _ k => XS.icmpNo X0.here hx rfl (hb hby d1_48) rfl (flt hc48).1 k) ?_
    refine own_step (T1 := T0) (g1 := (mkF m 52 #[.val (.int i0)] [(.int i0)])) (fun _ k => XS.iloadN X0.here hx rfl (hb hby d1_51) rfl k) ?_
    refine own_step (T1 := T0) (g1 := (mkF m 55 #[.val (.int i0)] [(.int (246 : Int32)), (.int i0)])) (fun _ k => XS.sipush X0.here hx rfl (hb hby d1_52) k) ?_
    by_cases hc55 : (246 : Int32) < i0
    · rw [if_pos hc55]
      refine own_step (T1 := T0) (g1 := (mkF m 58 #[.val (.int i0)] [])) (fun _ k => XS.icmpNo X0.here hx rfl (hb hby d1_55) rfl (tlt hc55).2.2.2 k) ?_
      exact b1_58 i0 X0 hx hZ hw hby hml hown e0 N0 Z0
    · rw [if_neg hc55]
      refine own_step (T1 := T0) (g1 := (mkF m 191 #[.val (.int i0)] [])) (fun _ k => XS.icmpYes X0.here hx rfl (pc0 := 55) (pc' := 191) rfl (hb hby d1_55) rfl (flt hc55).2.2.2 (by decide) (by decide) k) ?_
      exact b1_191 i0 X0 hx hZ hw hby hml hown e0 N0 Z0
def f1_24 (i0 : Int32) : Bool := (if i0 = (95 : Int32) then (f1_191 i0) else (if i0 < (192 : Int32) then (f1_44 i0) else (if (214 : Int32) < i0 then (f1_44 i0) else (f1_191 i0))))
set_option maxRecDepth 65536 in
set_option maxHeartbeats 4000000 in
theorem b1_24 {p : Program} {l : Launch} {e : Env} {s : State} {m : MethodId} {args : Array Value} {below : List Frame} {meth : Method} {c : Code} {T0 : State} {locs : List Loc} {Z : State} {a0 : Array Value} {h0 : Heap} {n0 : Nat} (i0 : Int32) (X0 : Stand p l e ({ frames := 0, cells := 0, slots := 0, locals := 0 } : Room) s m args below meth c T0 locs 0 0) (hx : p.tables.exec = Jvm.exec) (hZ : Z.Warmed39 s.vm) (hw : ∀ d ∈ tables_1, d.before a0 Z = true) (hby : c.code = prog_96_method_2_code) (hml : c.maxLocals = 1) (hown : s.vm.findClass "com/example/reshape/reshape/tree/XmlNames" = some m.cls) (e0 : T0.heap = h0) (N0 : Fr n0 locs) (Z0 : n0 ≤ h0.size) :
    own_Ret p l e ({ frames := 0, cells := 0, slots := 0, locals := 0 } : Room) s m args below meth c h0 n0 0 0 T0 (mkF m 24 #[.val (.int i0)] []) (own_b (f1_24 i0)) := by
  unfold f1_24
  refine own_step (T1 := T0) (g1 := (mkF m 25 #[.val (.int i0)] [(.int i0)])) (fun _ k => XS.iloadN X0.here hx rfl (hb hby d1_24) rfl k) ?_
  refine own_step (T1 := T0) (g1 := (mkF m 27 #[.val (.int i0)] [(.int (95 : Int32)), (.int i0)])) (fun _ k => XS.bipush X0.here hx rfl (hb hby d1_25) k) ?_
  by_cases hc27 : i0 = (95 : Int32)
  · rw [if_pos hc27]
    refine own_step (T1 := T0) (g1 := (mkF m 191 #[.val (.int i0)] [])) (fun _ k => XS.icmpYes X0.here hx rfl (pc0 := 27) (pc' := 191) rfl (hb hby d1_27) rfl (teq hc27).1 (by decide) (by decide) k) ?_
    exact b1_191 i0 X0 hx hZ hw hby hml hown e0 N0 Z0
  · rw [if_neg hc27]
    refine own_step (T1 := T0) (g1 := (mkF m 30 #[.val (.int i0)] [])) (fun _ k => XS.icmpNo X0.here hx rfl (hb hby d1_27) rfl (feq hc27).1 k) ?_
    refine own_step (T1 := T0) (g1 := (mkF m 31 #[.val (.int i0)] [(.int i0)])) (fun _ k => XS.iloadN X0.here hx rfl (hb hby d1_30) rfl k) ?_
    refine own_step (T1 := T0) (g1 := (mkF m 34 #[.val (.int i0)] [(.int (192 : Int32)), (.int i0)])) (fun _ k => XS.sipush X0.here hx rfl (hb hby d1_31) k) ?_
    by_cases hc34 : i0 < (192 : Int32)
    · rw [if_pos hc34]
      refine own_step (T1 := T0) (g1 := (mkF m 44 #[.val (.int i0)] [])) (fun _ k => XS.icmpYes X0.here hx rfl (pc0 := 34) (pc' := 44) rfl (hb hby d1_34) rfl (tlt hc34).1 (by decide) (by decide) k) ?_
      exact b1_44 i0 X0 hx hZ hw hby hml hown e0 N0 Z0
    · rw [if_neg hc34]
      refine own_step (T1 := T0) (g1 := (mkF m 37 #[.val (.int i0)] [])) (fun _ k => XS.icmpNo X0.here hx rfl (hb hby d1_34) rfl (flt hc34).1 k) ?_
      refine own_step (T1 := T0) (g1 := (mkF m 38 #[.val (.int i0)] [(.int i0)])) (fun _ k => XS.iloadN X0.here hx rfl (hb hby d1_37) rfl k) ?_
      refine own_step (T1 := T0) (g1 := (mkF m 41 #[.val (.int i0)] [(.int (214 : Int32)), (.int i0)])) (fun _ k => XS.sipush X0.here hx rfl (hb hby d1_38) k) ?_
      by_cases hc41 : (214 : Int32) < i0
      · rw [if_pos hc41]
        refine own_step (T1 := T0) (g1 := (mkF m 44 #[.val (.int i0)] [])) (fun _ k => XS.icmpNo X0.here hx rfl (hb hby d1_41) rfl (tlt hc41).2.2.2 k) ?_
        exact b1_44 i0 X0 hx hZ hw hby hml hown e0 N0 Z0
      · rw [if_neg hc41]
        refine own_step (T1 := T0) (g1 := (mkF m 191 #[.val (.int i0)] [])) (fun _ k => XS.icmpYes X0.here hx rfl (pc0 := 41) (pc' := 191) rfl (hb hby d1_41) rfl (flt hc41).2.2.2 (by decide) (by decide) k) ?_
        exact b1_191 i0 X0 hx hZ hw hby hml hown e0 N0 Z0
def f1_12 (i0 : Int32) : Bool := (if i0 < (65 : Int32) then (f1_24 i0) else (if (90 : Int32) < i0 then (f1_24 i0) else (f1_191 i0)))
set_option maxRecDepth 65536 in
set_option maxHeartbeats 4000000 in
theorem b1_12 {p : Program} {l : Launch} {e : Env} {s : State} {m : MethodId} {args : Array Value} {below : List Frame} {meth : Method} {c : Code} {T0 : State} {locs : List Loc} {Z : State} {a0 : Array Value} {h0 : Heap} {n0 : Nat} (i0 : Int32) (X0 : Stand p l e ({ frames := 0, cells := 0, slots := 0, locals := 0 } : Room) s m args below meth c T0 locs 0 0) (hx : p.tables.exec = Jvm.exec) (hZ : Z.Warmed39 s.vm) (hw : ∀ d ∈ tables_1, d.before a0 Z = true) (hby : c.code = prog_96_method_2_code) (hml : c.maxLocals = 1) (hown : s.vm.findClass "com/example/reshape/reshape/tree/XmlNames" = some m.cls) (e0 : T0.heap = h0) (N0 : Fr n0 locs) (Z0 : n0 ≤ h0.size) :
    own_Ret p l e ({ frames := 0, cells := 0, slots := 0, locals := 0 } : Room) s m args below meth c h0 n0 0 0 T0 (mkF m 12 #[.val (.int i0)] []) (own_b (f1_12 i0)) := by
  unfold f1_12
  refine own_step (T1 := T0) (g1 := (mkF m 13 #[.val (.int i0)] [(.int i0)])) (fun _ k => XS.iloadN X0.here hx rfl (hb hby d1_12) rfl k) ?_
  refine own_step (T1 := T0) (g1 := (mkF m 15 #[.val (.int i0)] [(.int (65 : Int32)), (.int i0)])) (fun _ k => XS.bipush X0.here hx rfl (hb hby d1_13) k) ?_
  by_cases hc15 : i0 < (65 : Int32)
  · rw [if_pos hc15]
    refine own_step (T1 := T0) (g1 := (mkF m 24 #[.val (.int i0)] [])) (fun _ k => XS.icmpYes X0.here hx rfl (pc0 := 15) (pc' := 24) rfl (hb hby d1_15) rfl (tlt hc15).1 (by decide) (by decide) k) ?_
    exact b1_24 i0 X0 hx hZ hw hby hml hown e0 N0 Z0
  · rw [if_neg hc15]
    refine own_step (T1 := T0) (g1 := (mkF m 18 #[.val (.int i0)] [])) (fun _ k => XS.icmpNo X0.here hx rfl (hb hby d1_15) rfl (flt hc15).1 k) ?_
    refine own_step (T1 := T0) (g1 := (mkF m 19 #[.val (.int i0)] [(.int i0)])) (fun _ k => XS.iloadN X0.here hx rfl (hb hby d1_18) rfl k) ?_
    refine own_step (T1 := T0) (g1 := (mkF m 21 #[.val (.int i0)] [(.int (90 : Int32)), (.int i0)])) (fun _ k => XS.bipush X0.here hx rfl (hb hby d1_19) k) ?_
    by_cases hc21 : (90 : Int32) < i0
    · rw [if_pos hc21]
      refine own_step (T1 := T0) (g1 := (mkF m 24 #[.val (.int i0)] [])) (fun _ k => XS.icmpNo X0.here hx rfl (hb hby d1_21) rfl (tlt hc21).2.2.2 k) ?_
      exact b1_24 i0 X0 hx hZ hw hby hml hown e0 N0 Z0
    · rw [if_neg hc21]
      refine own_step (T1 := T0) (g1 := (mkF m 191 #[.val (.int i0)] [])) (fun _ k => XS.icmpYes X0.here hx rfl (pc0 := 21) (pc' := 191) rfl (hb hby d1_21) rfl (flt hc21).2.2.2 (by decide) (by decide) k) ?_
      exact b1_191 i0 X0 hx hZ hw hby hml hown e0 N0 Z0
def f1_0 (i0 : Int32) : Bool := (if i0 < (97 : Int32) then (f1_12 i0) else (if (122 : Int32) < i0 then (f1_12 i0) else (f1_191 i0)))
set_option maxRecDepth 65536 in
set_option maxHeartbeats 4000000 in
theorem b1_0 {p : Program} {l : Launch} {e : Env} {s : State} {m : MethodId} {args : Array Value} {below : List Frame} {meth : Method} {c : Code} {T0 : State} {locs : List Loc} {Z : State} {a0 : Array Value} {h0 : Heap} {n0 : Nat} (i0 : Int32) (X0 : Stand p l e ({ frames := 0, cells := 0, slots := 0, locals := 0 } : Room) s m args below meth c T0 locs 0 0) (hx : p.tables.exec = Jvm.exec) (hZ : Z.Warmed39 s.vm) (hw : ∀ d ∈ tables_1, d.before a0 Z = true) (hby : c.code = prog_96_method_2_code) (hml : c.maxLocals = 1) (hown : s.vm.findClass "com/example/reshape/reshape/tree/XmlNames" = some m.cls) (e0 : T0.heap = h0) (N0 : Fr n0 locs) (Z0 : n0 ≤ h0.size) :
    own_Ret p l e ({ frames := 0, cells := 0, slots := 0, locals := 0 } : Room) s m args below meth c h0 n0 0 0 T0 (mkF m 0 #[.val (.int i0)] []) (own_b (f1_0 i0)) := by
  unfold f1_0
  refine own_step (T1 := T0) (g1 := (mkF m 1 #[.val (.int i0)] [(.int i0)])) (fun _ k => XS.iloadN X0.here hx rfl (hb hby d1_0) rfl k) ?_
  refine own_step (T1 := T0) (g1 := (mkF m 3 #[.val (.int i0)] [(.int (97 : Int32)), (.int i0)])) (fun _ k => XS.bipush X0.here hx rfl (hb hby d1_1) k) ?_
  by_cases hc3 : i0 < (97 : Int32)
  · rw [if_pos hc3]
    refine own_step (T1 := T0) (g1 := (mkF m 12 #[.val (.int i0)] [])) (fun _ k => XS.icmpYes X0.here hx rfl (pc0 := 3) (pc' := 12) rfl (hb hby d1_3) rfl (tlt hc3).1 (by decide) (by decide) k) ?_
    exact b1_12 i0 X0 hx hZ hw hby hml hown e0 N0 Z0
  · rw [if_neg hc3]
    refine own_step (T1 := T0) (g1 := (mkF m 6 #[.val (.int i0)] [])) (fun _ k => XS.icmpNo X0.here hx rfl (hb hby d1_3) rfl (flt hc3).1 k) ?_
    refine own_step (T1 := T0) (g1 := (mkF m 7 #[.val (.int i0)] [(.int i0)])) (fun _ k => XS.iloadN X0.here hx rfl (hb hby d1_6) rfl k) ?_
    refine own_step (T1 := T0) (g1 := (mkF m 9 #[.val (.int i0)] [(.int (122 : Int32)), (.int i0)])) (fun _ k => XS.bipush X0.here hx rfl (hb hby d1_7) k) ?_
    by_cases hc9 : (122 : Int32) < i0
    · rw [if_pos hc9]
      refine own_step (T1 := T0) (g1 := (mkF m 12 #[.val (.int i0)] [])) (fun _ k => XS.icmpNo X0.here hx rfl (hb hby d1_9) rfl (tlt hc9).2.2.2 k) ?_
      exact b1_12 i0 X0 hx hZ hw hby hml hown e0 N0 Z0
    · rw [if_neg hc9]
      refine own_step (T1 := T0) (g1 := (mkF m 191 #[.val (.int i0)] [])) (fun _ k => XS.icmpYes X0.here hx rfl (pc0 := 9) (pc' := 191) rfl (hb hby d1_9) rfl (flt hc9).2.2.2 (by decide) (by decide) k) ?_
      exact b1_191 i0 X0 hx hZ hw hby hml hown e0 N0 Z0
theorem pn_1 : plainName "com/example/reshape/reshape/tree/XmlNames" = true := by first | (simp [plainName, overriddenIn]; done) | decide +kernel
theorem ef_1 (m : MethodId) (i0 : Int32) : entryFrame m #[(.int i0)] 1 = mkF m 0 #[.val (.int i0)] [] := by first | (simp [entryFrame, mkF, argsToLocals, Value.category]; done) | rfl
set_option maxRecDepth 65536 in
set_option maxHeartbeats 4000000 in
theorem rm1 (l : Launch) (Z : State) (a0 : Array Value) (hw : ∀ d ∈ tables_1, d.before a0 Z = true) (ws : List Jvm.Cond) (i0 : Int32) (h0 : Heap) (n0 : Nat) (Z0 : n0 ≤ h0.size) :
    MetFree l (⟨"com/example/reshape/reshape/tree/XmlNames", "isNameStartChar", "(I)Z"⟩ : MethodName) (head1 (Jvm.Cond.code (⟨"com/example/reshape/reshape/tree/XmlNames", "isNameStartChar", "(I)Z"⟩ : MethodName) prog_96_method_2_code 1 (some .boolean) :: ws) ({ frames := 0, cells := 0, slots := 0, locals := 0 } : Room)) (fun a U => a = #[(.int i0)] ∧ Z.Warmed39 U.vm ∧ U.heap = h0) (fun _ _ _ _ _ => True) (fun _ U o U' => ∃ v L, o = .returned v ∧ own_Q (own_b (f1_0 i0)) h0 n0 v U'.heap L ∧ FrameEnd U o U' L ({ frames := 0, cells := 0, slots := 0, locals := 0 } : Room).cells ({ frames := 0, cells := 0, slots := 0, locals := 0 } : Room).slots) := by
  refine MetFree.of_bodySF (plainFor_of_name pn_1) hisR ?_
  intro p e s m args below meth c s₁ Bd hml0 hP hK
  obtain ⟨rfl, hZ, hh⟩ := hP
  have hx := Bd.exec
  have hby := Bd.bytes
  have hml : c.maxLocals = 1 := hml0
  have hown : s.vm.findClass "com/example/reshape/reshape/tree/XmlNames" = some m.cls := findClass_of_methodNamed Bd.named
  have X0 : Stand p l e ({ frames := 0, cells := 0, slots := 0, locals := 0 } : Room) s m #[(.int i0)] below meth c s₁ [] 0 0 := Stand.of_body Bd
  have e0 : s₁.heap = h0 := by rw [← hh, Bd.state]; rfl
  obtain ⟨T', locs', pcr, Ls, X', e', N', hd, st⟩ := b1_0 i0 X0 hx hZ hw hby hml hown e0 (Fr.nil n0) Z0
  obtain ⟨fs, hr, hrun, hended, hW, hsame⟩ := X'.leave (v := some (.int (own_b (f1_0 i0)))) (fun h => by rw [Bd.returns] at h; cases h)
  refine ⟨_, _, castTop (ef_1 m i0) (st _ ?_), hrun, hended, _, _, rfl, ?_, ⟨_, rfl⟩, hW, hsame.mono (by decide) (by decide)⟩
  · exact retN X' hx (t := .boolean) Bd.returns (by simp) hd (by rw [own_nar]; exact hr)
  · exact ⟨rfl, N', e'⟩
def own_vals0 : List Int32 := [65, 95, 97, 192, 216, 248, 880, 895, 8204, 8304, 11264, 12289, 63744, 65008, 65536]
set_option maxRecDepth 65536 in
set_option maxHeartbeats 40000000 in
theorem ar0 {p : Program} {l : Launch} {e : Env} {s : State} {m : MethodId} {args : Array Value} {below : List Frame} {meth : Method} {c : Code} {T0 : State} {locs : List Loc} {Z : State} {a0 : Array Value} {h0 : Heap} {n0 : Nat} (i0 : Int32) (i1 : Int32) (i2 : Int32) (i3 : Int32) (i4 : Int32) (X0 : Stand p l e room_1 s m args below meth c T0 locs 0 0) (hx : p.tables.exec = Jvm.exec) (hZ : Z.Warmed39 s.vm) (hw : ∀ d ∈ tables_1, d.before a0 Z = true) (hby : c.code = code) (hown : s.vm.findClass "com/example/reshape/reshape/tree/XmlNamesIsNameStartCharPinLaw" = some m.cls) (e0 : T0.heap = h0) (N0 : Fr n0 locs) (Z0 : n0 ≤ h0.size) :
    ∃ (T' : State) (h' : Heap) (b1 : Addr) (k1 : ClassId) (locs' : List Loc), Stand p l e room_1 s m args below meth c T' locs' 1 15 ∧ T'.heap = h' ∧ Keep h0 h' [] ∧ n0 ≤ b1 ∧ Arv Z h' b1 k1 .int (15 : Int32) (own_vals0.map Value.int) (.int 0) ∧ Fr n0 locs' ∧
      ∀ target, Steps p.tables e below (T'.setTop (mkF m 99 #[.val (.int i0), .val (.int i1), .val (.int i2), .val (.int i3), .val (.int i4), .val (.ref b1), .unset, .unset, .unset, .unset, .unset, .unset, .unset, .unset, .unset, .unset] [])) target → Steps p.tables e below (T0.setTop (mkF m 0 #[.val (.int i0), .val (.int i1), .val (.int i2), .val (.int i3), .val (.int i4), .unset, .unset, .unset, .unset, .unset, .unset, .unset, .unset, .unset, .unset, .unset] [])) target := by
  obtain ⟨T1, h1, k1, X1, e1, E1, A1, st1⟩ := newP X0 hx hZ (hw _ (List.mem_of_getElem? (i := 0) rfl)) e0 (g := (mkF m 2 #[.val (.int i0), .val (.int i1), .val (.int i2), .val (.int i3), .val (.int i4), .unset, .unset, .unset, .unset, .unset, .unset, .unset, .unset, .unset, .unset, .unset] [(.int (15 : Int32))])) rfl (hb hby at_2) rfl (by decide) (cap := 15) (by decide) (by decide) (by decide) (by decide)
  obtain ⟨b1, g1⟩ : ∃ z, z = h0.size := ⟨_, rfl⟩
  rw [← g1] at A1 st1
  have gb : n0 ≤ b1 := Nat.le_trans Z0 (Nat.le_of_eq g1.symm)
  have sz : h0.size ≤ b1 := Nat.le_of_eq g1.symm
  have K1 : Keep h0 h1 [] := (Keep.refl h0 []).ext E1
  have V1 : Arv Z h1 b1 k1 .int (15 : Int32) (([] : List Int32).map Value.int) (.int 0) := Arv.new A1 (by decide)
  have N1 := N0
  obtain ⟨T2, h2, L2, X2, e2, V2, N2, K2, st2⟩ := own_putI X1 hx hZ e1 V1 N1 gb K1 sz (0 : Int32) (65 : Int32) rfl ⟨by decide, by decide⟩ (g := (mkF m 8 #[.val (.int i0), .val (.int i1), .val (.int i2), .val (.int i3), .val (.int i4), .unset, .unset, .unset, .unset, .unset, .unset, .unset, .unset, .unset, .unset, .unset] [(.int (65 : Int32)), (.int (0 : Int32)), (.ref b1), (.ref b1)])) rfl rfl (hb hby at_8)
  obtain ⟨T3, h3, L3, X3, e3, V3, N3, K3, st3⟩ := own_putI X2 hx hZ e2 V2 N2 gb K2 sz (1 : Int32) (95 : Int32) rfl ⟨by decide, by decide⟩ (g := (mkF m 13 #[.val (.int i0), .val (.int i1), .val (.int i2), .val (.int i3), .val (.int i4), .unset, .unset, .unset, .unset, .unset, .unset, .unset, .unset, .unset, .unset, .unset] [(.int (95 : Int32)), (.int (1 : Int32)), (.ref b1), (.ref b1)])) rfl rfl (hb hby at_13)
  obtain ⟨T4, h4, L4, X4, e4, V4, N4, K4, st4⟩ := own_putI X3 hx hZ e3 V3 N3 gb K3 sz (2 : Int32) (97 : Int32) rfl ⟨by decide, by decide⟩ (g := (mkF m 18 #[.val (.int i0), .val (.int i1), .val (.int i2), .val (.int i3), .val (.int i4), .unset, .unset, .unset, .unset, .unset, .unset, .unset, .unset, .unset, .unset, .unset] [(.int (97 : Int32)), (.int (2 : Int32)), (.ref b1), (.ref b1)])) rfl rfl (hb hby at_18)
  obtain ⟨T5, h5, L5, X5, e5, V5, N5, K5, st5⟩ := own_putI X4 hx hZ e4 V4 N4 gb K4 sz (3 : Int32) (192 : Int32) rfl ⟨by decide, by decide⟩ (g := (mkF m 24 #[.val (.int i0), .val (.int i1), .val (.int i2), .val (.int i3), .val (.int i4), .unset, .unset, .unset, .unset, .unset, .unset, .unset, .unset, .unset, .unset, .unset] [(.int (192 : Int32)), (.int (3 : Int32)), (.ref b1), (.ref b1)])) rfl rfl (hb hby at_24)
  obtain ⟨T6, h6, L6, X6, e6, V6, N6, K6, st6⟩ := own_putI X5 hx hZ e5 V5 N5 gb K5 sz (4 : Int32) (216 : Int32) rfl ⟨by decide, by decide⟩ (g := (mkF m 30 #[.val (.int i0), .val (.int i1), .val (.int i2), .val (.int i3), .val (.int i4), .unset, .unset, .unset, .unset, .unset, .unset, .unset, .unset, .unset, .unset, .unset] [(.int (216 : Int32)), (.int (4 : Int32)), (.ref b1), (.ref b1)])) rfl rfl (hb hby at_30)
  obtain ⟨T7, h7, L7, X7, e7, V7, N7, K7, st7⟩ := own_putI X6 hx hZ e6 V6 N6 gb K6 sz (5 : Int32) (248 : Int32) rfl ⟨by decide, by decide⟩ (g := (mkF m 36 #[.val (.int i0), .val (.int i1), .val (.int i2), .val (.int i3), .val (.int i4), .unset, .unset, .unset, .unset, .unset, .unset, .unset, .unset, .unset, .unset, .unset] [(.int (248 : Int32)), (.int (5 : Int32)), (.ref b1), (.ref b1)])) rfl rfl (hb hby at_36)
  obtain ⟨T8, h8, L8, X8, e8, V8, N8, K8, st8⟩ := own_putI X7 hx hZ e7 V7 N7 gb K7 sz (6 : Int32) (880 : Int32) rfl ⟨by decide, by decide⟩ (g := (mkF m 43 #[.val (.int i0), .val (.int i1), .val (.int i2), .val (.int i3), .val (.int i4), .unset, .unset, .unset, .unset, .unset, .unset, .unset, .unset, .unset, .unset, .unset] [(.int (880 : Int32)), (.int (6 : Int32)), (.ref b1), (.ref b1)])) rfl rfl (hb hby at_43)
  obtain ⟨T9, h9, L9, X9, e9, V9, N9, K9, st9⟩ := own_putI X8 hx hZ e8 V8 N8 gb K8 sz (7 : Int32) (895 : Int32) rfl ⟨by decide, by decide⟩ (g := (mkF m 50 #[.val (.int i0), .val (.int i1), .val (.int i2), .val (.int i3), .val (.int i4), .unset, .unset, .unset, .unset, .unset, .unset, .unset, .unset, .unset, .unset, .unset] [(.int (895 : Int32)), (.int (7 : Int32)), (.ref b1), (.ref b1)])) rfl rfl (hb hby at_50)
  obtain ⟨T10, h10, L10, X10, e10, V10, N10, K10, st10⟩ := own_putI X9 hx hZ e9 V9 N9 gb K9 sz (8 : Int32) (8204 : Int32) rfl ⟨by decide, by decide⟩ (g := (mkF m 57 #[.val (.int i0), .val (.int i1), .val (.int i2), .val (.int i3), .val (.int i4), .unset, .unset, .unset, .unset, .unset, .unset, .unset, .unset, .unset, .unset, .unset] [(.int (8204 : Int32)), (.int (8 : Int32)), (.ref b1), (.ref b1)])) rfl rfl (hb hby at_57)
  obtain ⟨T11, h11, L11, X11, e11, V11, N11, K11, st11⟩ := own_putI X10 hx hZ e10 V10 N10 gb K10 sz (9 : Int32) (8304 : Int32) rfl ⟨by decide, by decide⟩ (g := (mkF m 64 #[.val (.int i0), .val (.int i1), .val (.int i2), .val (.int i3), .val (.int i4), .unset, .unset, .unset, .unset, .unset, .unset, .unset, .unset, .unset, .unset, .unset] [(.int (8304 : Int32)), (.int (9 : Int32)), (.ref b1), (.ref b1)])) rfl rfl (hb hby at_64)
  obtain ⟨T12, h12, L12, X12, e12, V12, N12, K12, st12⟩ := own_putI X11 hx hZ e11 V11 N11 gb K11 sz (10 : Int32) (11264 : Int32) rfl ⟨by decide, by decide⟩ (g := (mkF m 71 #[.val (.int i0), .val (.int i1), .val (.int i2), .val (.int i3), .val (.int i4), .unset, .unset, .unset, .unset, .unset, .unset, .unset, .unset, .unset, .unset, .unset] [(.int (11264 : Int32)), (.int (10 : Int32)), (.ref b1), (.ref b1)])) rfl rfl (hb hby at_71)
  obtain ⟨T13, h13, L13, X13, e13, V13, N13, K13, st13⟩ := own_putI X12 hx hZ e12 V12 N12 gb K12 sz (11 : Int32) (12289 : Int32) rfl ⟨by decide, by decide⟩ (g := (mkF m 78 #[.val (.int i0), .val (.int i1), .val (.int i2), .val (.int i3), .val (.int i4), .unset, .unset, .unset, .unset, .unset, .unset, .unset, .unset, .unset, .unset, .unset] [(.int (12289 : Int32)), (.int (11 : Int32)), (.ref b1), (.ref b1)])) rfl rfl (hb hby at_78)
  obtain ⟨T14, h14, L14, X14, e14, V14, N14, K14, st14⟩ := own_putI X13 hx hZ e13 V13 N13 gb K13 sz (12 : Int32) (63744 : Int32) rfl ⟨by decide, by decide⟩ (g := (mkF m 84 #[.val (.int i0), .val (.int i1), .val (.int i2), .val (.int i3), .val (.int i4), .unset, .unset, .unset, .unset, .unset, .unset, .unset, .unset, .unset, .unset, .unset] [(.int (63744 : Int32)), (.int (12 : Int32)), (.ref b1), (.ref b1)])) rfl rfl (hb hby at_84)
  obtain ⟨T15, h15, L15, X15, e15, V15, N15, K15, st15⟩ := own_putI X14 hx hZ e14 V14 N14 gb K14 sz (13 : Int32) (65008 : Int32) rfl ⟨by decide, by decide⟩ (g := (mkF m 90 #[.val (.int i0), .val (.int i1), .val (.int i2), .val (.int i3), .val (.int i4), .unset, .unset, .unset, .unset, .unset, .unset, .unset, .unset, .unset, .unset, .unset] [(.int (65008 : Int32)), (.int (13 : Int32)), (.ref b1), (.ref b1)])) rfl rfl (hb hby at_90)
  obtain ⟨T16, h16, L16, X16, e16, V16, N16, K16, st16⟩ := own_putI X15 hx hZ e15 V15 N15 gb K15 sz (14 : Int32) (65536 : Int32) rfl ⟨by decide, by decide⟩ (g := (mkF m 96 #[.val (.int i0), .val (.int i1), .val (.int i2), .val (.int i3), .val (.int i4), .unset, .unset, .unset, .unset, .unset, .unset, .unset, .unset, .unset, .unset, .unset] [(.int (65536 : Int32)), (.int (14 : Int32)), (.ref b1), (.ref b1)])) rfl rfl (hb hby at_96)
  refine ⟨T16, h16, b1, k1, L16, X16, e16, K16, gb, V16, N16, fun target kt => ?_⟩
  show Steps p.tables e below (T0.setTop (mkF m 0 #[.val (.int i0), .val (.int i1), .val (.int i2), .val (.int i3), .val (.int i4), .unset, .unset, .unset, .unset, .unset, .unset, .unset, .unset, .unset, .unset, .unset] [])) _
  refine XS.bipush X0.here hx rfl (hb hby at_0) ?_
  show Steps p.tables e below (T0.setTop (mkF m 2 #[.val (.int i0), .val (.int i1), .val (.int i2), .val (.int i3), .val (.int i4), .unset, .unset, .unset, .unset, .unset, .unset, .unset, .unset, .unset, .unset, .unset] [(.int (15 : Int32))])) _
  refine st1 _ ?_
  show Steps p.tables e below (T1.setTop (mkF m 4 #[.val (.int i0), .val (.int i1), .val (.int i2), .val (.int i3), .val (.int i4), .unset, .unset, .unset, .unset, .unset, .unset, .unset, .unset, .unset, .unset, .unset] [(.ref b1)])) _
  refine XS.dup X1.here hx rfl (hb hby at_4) rfl rfl ?_
  show Steps p.tables e below (T1.setTop (mkF m 5 #[.val (.int i0), .val (.int i1), .val (.int i2), .val (.int i3), .val (.int i4), .unset, .unset, .unset, .unset, .unset, .unset, .unset, .unset, .unset, .unset, .unset] [(.ref b1), (.ref b1)])) _
  refine XS.iconst X1.here hx rfl (hb hby at_5) ?_
  show Steps p.tables e below (T1.setTop (mkF m 6 #[.val (.int i0), .val (.int i1), .val (.int i2), .val (.int i3), .val (.int i4), .unset, .unset, .unset, .unset, .unset, .unset, .unset, .unset, .unset, .unset, .unset] [(.int (0 : Int32)), (.ref b1), (.ref b1)])) _
  refine XS.bipush X1.here hx rfl (hb hby at_6) ?_
  show Steps p.tables e below (T1.setTop (mkF m 8 #[.val (.int i0), .val (.int i1), .val (.int i2), .val (.int i3), .val (.int i4), .unset, .unset, .unset, .unset, .unset, .unset, .unset, .unset, .unset, .unset, .unset] [(.int (65 : Int32)), (.int (0 : Int32)), (.ref b1), (.ref b1)])) _
  refine st2 _ ?_
  show Steps p.tables e below (T2.setTop (mkF m 9 #[.val (.int i0), .val (.int i1), .val (.int i2), .val (.int i3), .val (.int i4), .unset, .unset, .unset, .unset, .unset, .unset, .unset, .unset, .unset, .unset, .unset] [(.ref b1)])) _
  refine XS.dup X2.here hx rfl (hb hby at_9) rfl rfl ?_
  show Steps p.tables e below (T2.setTop (mkF m 10 #[.val (.int i0), .val (.int i1), .val (.int i2), .val (.int i3), .val (.int i4), .unset, .unset, .unset, .unset, .unset, .unset, .unset, .unset, .unset, .unset, .unset] [(.ref b1), (.ref b1)])) _
  refine XS.iconst X2.here hx rfl (hb hby at_10) ?_
  show Steps p.tables e below (T2.setTop (mkF m 11 #[.val (.int i0), .val (.int i1), .val (.int i2), .val (.int i3), .val (.int i4), .unset, .unset, .unset, .unset, .unset, .unset, .unset, .unset, .unset, .unset, .unset] [(.int (1 : Int32)), (.ref b1), (.ref b1)])) _
  refine XS.bipush X2.here hx rfl (hb hby at_11) ?_
  show Steps p.tables e below (T2.setTop (mkF m 13 #[.val (.int i0), .val (.int i1), .val (.int i2), .val (.int i3), .val (.int i4), .unset, .unset, .unset, .unset, .unset, .unset, .unset, .unset, .unset, .unset, .unset] [(.int (95 : Int32)), (.int (1 : Int32)), (.ref b1), (.ref b1)])) _
  refine st3 _ ?_
  show Steps p.tables e below (T3.setTop (mkF m 14 #[.val (.int i0), .val (.int i1), .val (.int i2), .val (.int i3), .val (.int i4), .unset, .unset, .unset, .unset, .unset, .unset, .unset, .unset, .unset, .unset, .unset] [(.ref b1)])) _
  refine XS.dup X3.here hx rfl (hb hby at_14) rfl rfl ?_
  show Steps p.tables e below (T3.setTop (mkF m 15 #[.val (.int i0), .val (.int i1), .val (.int i2), .val (.int i3), .val (.int i4), .unset, .unset, .unset, .unset, .unset, .unset, .unset, .unset, .unset, .unset, .unset] [(.ref b1), (.ref b1)])) _
  refine XS.iconst X3.here hx rfl (hb hby at_15) ?_
  show Steps p.tables e below (T3.setTop (mkF m 16 #[.val (.int i0), .val (.int i1), .val (.int i2), .val (.int i3), .val (.int i4), .unset, .unset, .unset, .unset, .unset, .unset, .unset, .unset, .unset, .unset, .unset] [(.int (2 : Int32)), (.ref b1), (.ref b1)])) _
  refine XS.bipush X3.here hx rfl (hb hby at_16) ?_
  show Steps p.tables e below (T3.setTop (mkF m 18 #[.val (.int i0), .val (.int i1), .val (.int i2), .val (.int i3), .val (.int i4), .unset, .unset, .unset, .unset, .unset, .unset, .unset, .unset, .unset, .unset, .unset] [(.int (97 : Int32)), (.int (2 : Int32)), (.ref b1), (.ref b1)])) _
  refine st4 _ ?_
  show Steps p.tables e below (T4.setTop (mkF m 19 #[.val (.int i0), .val (.int i1), .val (.int i2), .val (.int i3), .val (.int i4), .unset, .unset, .unset, .unset, .unset, .unset, .unset, .unset, .unset, .unset, .unset] [(.ref b1)])) _
  refine XS.dup X4.here hx rfl (hb hby at_19) rfl rfl ?_
  show Steps p.tables e below (T4.setTop (mkF m 20 #[.val (.int i0), .val (.int i1), .val (.int i2), .val (.int i3), .val (.int i4), .unset, .unset, .unset, .unset, .unset, .unset, .unset, .unset, .unset, .unset, .unset] [(.ref b1), (.ref b1)])) _
  refine XS.iconst X4.here hx rfl (hb hby at_20) ?_
  show Steps p.tables e below (T4.setTop (mkF m 21 #[.val (.int i0), .val (.int i1), .val (.int i2), .val (.int i3), .val (.int i4), .unset, .unset, .unset, .unset, .unset, .unset, .unset, .unset, .unset, .unset, .unset] [(.int (3 : Int32)), (.ref b1), (.ref b1)])) _
  refine XS.sipush X4.here hx rfl (hb hby at_21) ?_
  show Steps p.tables e below (T4.setTop (mkF m 24 #[.val (.int i0), .val (.int i1), .val (.int i2), .val (.int i3), .val (.int i4), .unset, .unset, .unset, .unset, .unset, .unset, .unset, .unset, .unset, .unset, .unset] [(.int (192 : Int32)), (.int (3 : Int32)), (.ref b1), (.ref b1)])) _
  refine st5 _ ?_
  show Steps p.tables e below (T5.setTop (mkF m 25 #[.val (.int i0), .val (.int i1), .val (.int i2), .val (.int i3), .val (.int i4), .unset, .unset, .unset, .unset, .unset, .unset, .unset, .unset, .unset, .unset, .unset] [(.ref b1)])) _
  refine XS.dup X5.here hx rfl (hb hby at_25) rfl rfl ?_
  show Steps p.tables e below (T5.setTop (mkF m 26 #[.val (.int i0), .val (.int i1), .val (.int i2), .val (.int i3), .val (.int i4), .unset, .unset, .unset, .unset, .unset, .unset, .unset, .unset, .unset, .unset, .unset] [(.ref b1), (.ref b1)])) _
  refine XS.iconst X5.here hx rfl (hb hby at_26) ?_
  show Steps p.tables e below (T5.setTop (mkF m 27 #[.val (.int i0), .val (.int i1), .val (.int i2), .val (.int i3), .val (.int i4), .unset, .unset, .unset, .unset, .unset, .unset, .unset, .unset, .unset, .unset, .unset] [(.int (4 : Int32)), (.ref b1), (.ref b1)])) _
  refine XS.sipush X5.here hx rfl (hb hby at_27) ?_
  show Steps p.tables e below (T5.setTop (mkF m 30 #[.val (.int i0), .val (.int i1), .val (.int i2), .val (.int i3), .val (.int i4), .unset, .unset, .unset, .unset, .unset, .unset, .unset, .unset, .unset, .unset, .unset] [(.int (216 : Int32)), (.int (4 : Int32)), (.ref b1), (.ref b1)])) _
  refine st6 _ ?_
  show Steps p.tables e below (T6.setTop (mkF m 31 #[.val (.int i0), .val (.int i1), .val (.int i2), .val (.int i3), .val (.int i4), .unset, .unset, .unset, .unset, .unset, .unset, .unset, .unset, .unset, .unset, .unset] [(.ref b1)])) _
  refine XS.dup X6.here hx rfl (hb hby at_31) rfl rfl ?_
  show Steps p.tables e below (T6.setTop (mkF m 32 #[.val (.int i0), .val (.int i1), .val (.int i2), .val (.int i3), .val (.int i4), .unset, .unset, .unset, .unset, .unset, .unset, .unset, .unset, .unset, .unset, .unset] [(.ref b1), (.ref b1)])) _
  refine XS.iconst X6.here hx rfl (hb hby at_32) ?_
  show Steps p.tables e below (T6.setTop (mkF m 33 #[.val (.int i0), .val (.int i1), .val (.int i2), .val (.int i3), .val (.int i4), .unset, .unset, .unset, .unset, .unset, .unset, .unset, .unset, .unset, .unset, .unset] [(.int (5 : Int32)), (.ref b1), (.ref b1)])) _
  refine XS.sipush X6.here hx rfl (hb hby at_33) ?_
  show Steps p.tables e below (T6.setTop (mkF m 36 #[.val (.int i0), .val (.int i1), .val (.int i2), .val (.int i3), .val (.int i4), .unset, .unset, .unset, .unset, .unset, .unset, .unset, .unset, .unset, .unset, .unset] [(.int (248 : Int32)), (.int (5 : Int32)), (.ref b1), (.ref b1)])) _
  refine st7 _ ?_
  show Steps p.tables e below (T7.setTop (mkF m 37 #[.val (.int i0), .val (.int i1), .val (.int i2), .val (.int i3), .val (.int i4), .unset, .unset, .unset, .unset, .unset, .unset, .unset, .unset, .unset, .unset, .unset] [(.ref b1)])) _
  refine XS.dup X7.here hx rfl (hb hby at_37) rfl rfl ?_
  show Steps p.tables e below (T7.setTop (mkF m 38 #[.val (.int i0), .val (.int i1), .val (.int i2), .val (.int i3), .val (.int i4), .unset, .unset, .unset, .unset, .unset, .unset, .unset, .unset, .unset, .unset, .unset] [(.ref b1), (.ref b1)])) _
  refine XS.bipush X7.here hx rfl (hb hby at_38) ?_
  show Steps p.tables e below (T7.setTop (mkF m 40 #[.val (.int i0), .val (.int i1), .val (.int i2), .val (.int i3), .val (.int i4), .unset, .unset, .unset, .unset, .unset, .unset, .unset, .unset, .unset, .unset, .unset] [(.int (6 : Int32)), (.ref b1), (.ref b1)])) _
  refine XS.sipush X7.here hx rfl (hb hby at_40) ?_
  show Steps p.tables e below (T7.setTop (mkF m 43 #[.val (.int i0), .val (.int i1), .val (.int i2), .val (.int i3), .val (.int i4), .unset, .unset, .unset, .unset, .unset, .unset, .unset, .unset, .unset, .unset, .unset] [(.int (880 : Int32)), (.int (6 : Int32)), (.ref b1), (.ref b1)])) _
  refine st8 _ ?_
  show Steps p.tables e below (T8.setTop (mkF m 44 #[.val (.int i0), .val (.int i1), .val (.int i2), .val (.int i3), .val (.int i4), .unset, .unset, .unset, .unset, .unset, .unset, .unset, .unset, .unset, .unset, .unset] [(.ref b1)])) _
  refine XS.dup X8.here hx rfl (hb hby at_44) rfl rfl ?_
  show Steps p.tables e below (T8.setTop (mkF m 45 #[.val (.int i0), .val (.int i1), .val (.int i2), .val (.int i3), .val (.int i4), .unset, .unset, .unset, .unset, .unset, .unset, .unset, .unset, .unset, .unset, .unset] [(.ref b1), (.ref b1)])) _
  refine XS.bipush X8.here hx rfl (hb hby at_45) ?_
  show Steps p.tables e below (T8.setTop (mkF m 47 #[.val (.int i0), .val (.int i1), .val (.int i2), .val (.int i3), .val (.int i4), .unset, .unset, .unset, .unset, .unset, .unset, .unset, .unset, .unset, .unset, .unset] [(.int (7 : Int32)), (.ref b1), (.ref b1)])) _
  refine XS.sipush X8.here hx rfl (hb hby at_47) ?_
  show Steps p.tables e below (T8.setTop (mkF m 50 #[.val (.int i0), .val (.int i1), .val (.int i2), .val (.int i3), .val (.int i4), .unset, .unset, .unset, .unset, .unset, .unset, .unset, .unset, .unset, .unset, .unset] [(.int (895 : Int32)), (.int (7 : Int32)), (.ref b1), (.ref b1)])) _
  refine st9 _ ?_
  show Steps p.tables e below (T9.setTop (mkF m 51 #[.val (.int i0), .val (.int i1), .val (.int i2), .val (.int i3), .val (.int i4), .unset, .unset, .unset, .unset, .unset, .unset, .unset, .unset, .unset, .unset, .unset] [(.ref b1)])) _
  refine XS.dup X9.here hx rfl (hb hby at_51) rfl rfl ?_
  show Steps p.tables e below (T9.setTop (mkF m 52 #[.val (.int i0), .val (.int i1), .val (.int i2), .val (.int i3), .val (.int i4), .unset, .unset, .unset, .unset, .unset, .unset, .unset, .unset, .unset, .unset, .unset] [(.ref b1), (.ref b1)])) _
  refine XS.bipush X9.here hx rfl (hb hby at_52) ?_
  show Steps p.tables e below (T9.setTop (mkF m 54 #[.val (.int i0), .val (.int i1), .val (.int i2), .val (.int i3), .val (.int i4), .unset, .unset, .unset, .unset, .unset, .unset, .unset, .unset, .unset, .unset, .unset] [(.int (8 : Int32)), (.ref b1), (.ref b1)])) _
  refine XS.sipush X9.here hx rfl (hb hby at_54) ?_
  show Steps p.tables e below (T9.setTop (mkF m 57 #[.val (.int i0), .val (.int i1), .val (.int i2), .val (.int i3), .val (.int i4), .unset, .unset, .unset, .unset, .unset, .unset, .unset, .unset, .unset, .unset, .unset] [(.int (8204 : Int32)), (.int (8 : Int32)), (.ref b1), (.ref b1)])) _
  refine st10 _ ?_
  show Steps p.tables e below (T10.setTop (mkF m 58 #[.val (.int i0), .val (.int i1), .val (.int i2), .val (.int i3), .val (.int i4), .unset, .unset, .unset, .unset, .unset, .unset, .unset, .unset, .unset, .unset, .unset] [(.ref b1)])) _
  refine XS.dup X10.here hx rfl (hb hby at_58) rfl rfl ?_
  show Steps p.tables e below (T10.setTop (mkF m 59 #[.val (.int i0), .val (.int i1), .val (.int i2), .val (.int i3), .val (.int i4), .unset, .unset, .unset, .unset, .unset, .unset, .unset, .unset, .unset, .unset, .unset] [(.ref b1), (.ref b1)])) _
  refine XS.bipush X10.here hx rfl (hb hby at_59) ?_
  show Steps p.tables e below (T10.setTop (mkF m 61 #[.val (.int i0), .val (.int i1), .val (.int i2), .val (.int i3), .val (.int i4), .unset, .unset, .unset, .unset, .unset, .unset, .unset, .unset, .unset, .unset, .unset] [(.int (9 : Int32)), (.ref b1), (.ref b1)])) _
  refine XS.sipush X10.here hx rfl (hb hby at_61) ?_
  show Steps p.tables e below (T10.setTop (mkF m 64 #[.val (.int i0), .val (.int i1), .val (.int i2), .val (.int i3), .val (.int i4), .unset, .unset, .unset, .unset, .unset, .unset, .unset, .unset, .unset, .unset, .unset] [(.int (8304 : Int32)), (.int (9 : Int32)), (.ref b1), (.ref b1)])) _
  refine st11 _ ?_
  show Steps p.tables e below (T11.setTop (mkF m 65 #[.val (.int i0), .val (.int i1), .val (.int i2), .val (.int i3), .val (.int i4), .unset, .unset, .unset, .unset, .unset, .unset, .unset, .unset, .unset, .unset, .unset] [(.ref b1)])) _
  refine XS.dup X11.here hx rfl (hb hby at_65) rfl rfl ?_
  show Steps p.tables e below (T11.setTop (mkF m 66 #[.val (.int i0), .val (.int i1), .val (.int i2), .val (.int i3), .val (.int i4), .unset, .unset, .unset, .unset, .unset, .unset, .unset, .unset, .unset, .unset, .unset] [(.ref b1), (.ref b1)])) _
  refine XS.bipush X11.here hx rfl (hb hby at_66) ?_
  show Steps p.tables e below (T11.setTop (mkF m 68 #[.val (.int i0), .val (.int i1), .val (.int i2), .val (.int i3), .val (.int i4), .unset, .unset, .unset, .unset, .unset, .unset, .unset, .unset, .unset, .unset, .unset] [(.int (10 : Int32)), (.ref b1), (.ref b1)])) _
  refine XS.sipush X11.here hx rfl (hb hby at_68) ?_
  show Steps p.tables e below (T11.setTop (mkF m 71 #[.val (.int i0), .val (.int i1), .val (.int i2), .val (.int i3), .val (.int i4), .unset, .unset, .unset, .unset, .unset, .unset, .unset, .unset, .unset, .unset, .unset] [(.int (11264 : Int32)), (.int (10 : Int32)), (.ref b1), (.ref b1)])) _
  refine st12 _ ?_
  show Steps p.tables e below (T12.setTop (mkF m 72 #[.val (.int i0), .val (.int i1), .val (.int i2), .val (.int i3), .val (.int i4), .unset, .unset, .unset, .unset, .unset, .unset, .unset, .unset, .unset, .unset, .unset] [(.ref b1)])) _
  refine XS.dup X12.here hx rfl (hb hby at_72) rfl rfl ?_
  show Steps p.tables e below (T12.setTop (mkF m 73 #[.val (.int i0), .val (.int i1), .val (.int i2), .val (.int i3), .val (.int i4), .unset, .unset, .unset, .unset, .unset, .unset, .unset, .unset, .unset, .unset, .unset] [(.ref b1), (.ref b1)])) _
  refine XS.bipush X12.here hx rfl (hb hby at_73) ?_
  show Steps p.tables e below (T12.setTop (mkF m 75 #[.val (.int i0), .val (.int i1), .val (.int i2), .val (.int i3), .val (.int i4), .unset, .unset, .unset, .unset, .unset, .unset, .unset, .unset, .unset, .unset, .unset] [(.int (11 : Int32)), (.ref b1), (.ref b1)])) _
  refine XS.sipush X12.here hx rfl (hb hby at_75) ?_
  show Steps p.tables e below (T12.setTop (mkF m 78 #[.val (.int i0), .val (.int i1), .val (.int i2), .val (.int i3), .val (.int i4), .unset, .unset, .unset, .unset, .unset, .unset, .unset, .unset, .unset, .unset, .unset] [(.int (12289 : Int32)), (.int (11 : Int32)), (.ref b1), (.ref b1)])) _
  refine st13 _ ?_
  show Steps p.tables e below (T13.setTop (mkF m 79 #[.val (.int i0), .val (.int i1), .val (.int i2), .val (.int i3), .val (.int i4), .unset, .unset, .unset, .unset, .unset, .unset, .unset, .unset, .unset, .unset, .unset] [(.ref b1)])) _
  refine XS.dup X13.here hx rfl (hb hby at_79) rfl rfl ?_
  show Steps p.tables e below (T13.setTop (mkF m 80 #[.val (.int i0), .val (.int i1), .val (.int i2), .val (.int i3), .val (.int i4), .unset, .unset, .unset, .unset, .unset, .unset, .unset, .unset, .unset, .unset, .unset] [(.ref b1), (.ref b1)])) _
  refine XS.bipush X13.here hx rfl (hb hby at_80) ?_
  show Steps p.tables e below (T13.setTop (mkF m 82 #[.val (.int i0), .val (.int i1), .val (.int i2), .val (.int i3), .val (.int i4), .unset, .unset, .unset, .unset, .unset, .unset, .unset, .unset, .unset, .unset, .unset] [(.int (12 : Int32)), (.ref b1), (.ref b1)])) _
  refine X13.ldcInt hx hown (mvT hZ (hw _ (List.mem_of_getElem? (i := 1) rfl))) (g := (mkF m 82 #[.val (.int i0), .val (.int i1), .val (.int i2), .val (.int i3), .val (.int i4), .unset, .unset, .unset, .unset, .unset, .unset, .unset, .unset, .unset, .unset, .unset] [(.int (12 : Int32)), (.ref b1), (.ref b1)])) rfl (hb hby at_82) _ ?_
  show Steps p.tables e below (T13.setTop (mkF m 84 #[.val (.int i0), .val (.int i1), .val (.int i2), .val (.int i3), .val (.int i4), .unset, .unset, .unset, .unset, .unset, .unset, .unset, .unset, .unset, .unset, .unset] [(.int (63744 : Int32)), (.int (12 : Int32)), (.ref b1), (.ref b1)])) _
  refine st14 _ ?_
  show Steps p.tables e below (T14.setTop (mkF m 85 #[.val (.int i0), .val (.int i1), .val (.int i2), .val (.int i3), .val (.int i4), .unset, .unset, .unset, .unset, .unset, .unset, .unset, .unset, .unset, .unset, .unset] [(.ref b1)])) _
  refine XS.dup X14.here hx rfl (hb hby at_85) rfl rfl ?_
  show Steps p.tables e below (T14.setTop (mkF m 86 #[.val (.int i0), .val (.int i1), .val (.int i2), .val (.int i3), .val (.int i4), .unset, .unset, .unset, .unset, .unset, .unset, .unset, .unset, .unset, .unset, .unset] [(.ref b1), (.ref b1)])) _
  refine XS.bipush X14.here hx rfl (hb hby at_86) ?_
  show Steps p.tables e below (T14.setTop (mkF m 88 #[.val (.int i0), .val (.int i1), .val (.int i2), .val (.int i3), .val (.int i4), .unset, .unset, .unset, .unset, .unset, .unset, .unset, .unset, .unset, .unset, .unset] [(.int (13 : Int32)), (.ref b1), (.ref b1)])) _
  refine X14.ldcInt hx hown (mvT hZ (hw _ (List.mem_of_getElem? (i := 2) rfl))) (g := (mkF m 88 #[.val (.int i0), .val (.int i1), .val (.int i2), .val (.int i3), .val (.int i4), .unset, .unset, .unset, .unset, .unset, .unset, .unset, .unset, .unset, .unset, .unset] [(.int (13 : Int32)), (.ref b1), (.ref b1)])) rfl (hb hby at_88) _ ?_
  show Steps p.tables e below (T14.setTop (mkF m 90 #[.val (.int i0), .val (.int i1), .val (.int i2), .val (.int i3), .val (.int i4), .unset, .unset, .unset, .unset, .unset, .unset, .unset, .unset, .unset, .unset, .unset] [(.int (65008 : Int32)), (.int (13 : Int32)), (.ref b1), (.ref b1)])) _
  refine st15 _ ?_
  show Steps p.tables e below (T15.setTop (mkF m 91 #[.val (.int i0), .val (.int i1), .val (.int i2), .val (.int i3), .val (.int i4), .unset, .unset, .unset, .unset, .unset, .unset, .unset, .unset, .unset, .unset, .unset] [(.ref b1)])) _
  refine XS.dup X15.here hx rfl (hb hby at_91) rfl rfl ?_
  show Steps p.tables e below (T15.setTop (mkF m 92 #[.val (.int i0), .val (.int i1), .val (.int i2), .val (.int i3), .val (.int i4), .unset, .unset, .unset, .unset, .unset, .unset, .unset, .unset, .unset, .unset, .unset] [(.ref b1), (.ref b1)])) _
  refine XS.bipush X15.here hx rfl (hb hby at_92) ?_
  show Steps p.tables e below (T15.setTop (mkF m 94 #[.val (.int i0), .val (.int i1), .val (.int i2), .val (.int i3), .val (.int i4), .unset, .unset, .unset, .unset, .unset, .unset, .unset, .unset, .unset, .unset, .unset] [(.int (14 : Int32)), (.ref b1), (.ref b1)])) _
  refine X15.ldcInt hx hown (mvT hZ (hw _ (List.mem_of_getElem? (i := 3) rfl))) (g := (mkF m 94 #[.val (.int i0), .val (.int i1), .val (.int i2), .val (.int i3), .val (.int i4), .unset, .unset, .unset, .unset, .unset, .unset, .unset, .unset, .unset, .unset, .unset] [(.int (14 : Int32)), (.ref b1), (.ref b1)])) rfl (hb hby at_94) _ ?_
  show Steps p.tables e below (T15.setTop (mkF m 96 #[.val (.int i0), .val (.int i1), .val (.int i2), .val (.int i3), .val (.int i4), .unset, .unset, .unset, .unset, .unset, .unset, .unset, .unset, .unset, .unset, .unset] [(.int (65536 : Int32)), (.int (14 : Int32)), (.ref b1), (.ref b1)])) _
  refine st16 _ ?_
  show Steps p.tables e below (T16.setTop (mkF m 97 #[.val (.int i0), .val (.int i1), .val (.int i2), .val (.int i3), .val (.int i4), .unset, .unset, .unset, .unset, .unset, .unset, .unset, .unset, .unset, .unset, .unset] [(.ref b1)])) _
  refine XS.astore X16.here hx rfl (hb hby at_97) rfl rfl (l' := #[.val (.int i0), .val (.int i1), .val (.int i2), .val (.int i3), .val (.int i4), .val (.ref b1), .unset, .unset, .unset, .unset, .unset, .unset, .unset, .unset, .unset, .unset]) rfl ?_
  exact kt
def own_vals1 : List Int32 := [90, 95, 122, 214, 246, 767, 893, 8191, 8205, 8591, 12271, 55295, 64975, 65533, 983039]
set_option maxRecDepth 65536 in
set_option maxHeartbeats 40000000 in
theorem ar1 {p : Program} {l : Launch} {e : Env} {s : State} {m : MethodId} {args : Array Value} {below : List Frame} {meth : Method} {c : Code} {T0 : State} {locs : List Loc} {Z : State} {a0 : Array Value} {h0 : Heap} {n0 : Nat} (i0 : Int32) (i1 : Int32) (i2 : Int32) (i3 : Int32) (i4 : Int32) (r0 : Addr) (X0 : Stand p l e room_1 s m args below meth c T0 locs 1 15) (hx : p.tables.exec = Jvm.exec) (hZ : Z.Warmed39 s.vm) (hw : ∀ d ∈ tables_1, d.before a0 Z = true) (hby : c.code = code) (hown : s.vm.findClass "com/example/reshape/reshape/tree/XmlNamesIsNameStartCharPinLaw" = some m.cls) (e0 : T0.heap = h0) (N0 : Fr n0 locs) (Z0 : n0 ≤ h0.size) :
    ∃ (T' : State) (h' : Heap) (b1 : Addr) (k1 : ClassId) (locs' : List Loc), Stand p l e room_1 s m args below meth c T' locs' 2 30 ∧ T'.heap = h' ∧ Keep h0 h' [] ∧ n0 ≤ b1 ∧ Arv Z h' b1 k1 .int (15 : Int32) (own_vals1.map Value.int) (.int 0) ∧ Fr n0 locs' ∧
      ∀ target, Steps p.tables e below (T'.setTop (mkF m 197 #[.val (.int i0), .val (.int i1), .val (.int i2), .val (.int i3), .val (.int i4), .val (.ref r0), .val (.ref b1), .unset, .unset, .unset, .unset, .unset, .unset, .unset, .unset, .unset] [])) target → Steps p.tables e below (T0.setTop (mkF m 99 #[.val (.int i0), .val (.int i1), .val (.int i2), .val (.int i3), .val (.int i4), .val (.ref r0), .unset, .unset, .unset, .unset, .unset, .unset, .unset, .unset, .unset, .unset] [])) target := by
  obtain ⟨T1, h1, k1, X1, e1, E1, A1, st1⟩ := newP X0 hx hZ (hw _ (List.mem_of_getElem? (i := 0) rfl)) e0 (g := (mkF m 101 #[.val (.int i0), .val (.int i1), .val (.int i2), .val (.int i3), .val (.int i4), .val (.ref r0), .unset, .unset, .unset, .unset, .unset, .unset, .unset, .unset, .unset, .unset] [(.int (15 : Int32))])) rfl (hb hby at_101) rfl (by decide) (cap := 15) (by decide) (by decide) (by decide) (by decide)
  obtain ⟨b1, g1⟩ : ∃ z, z = h0.size := ⟨_, rfl⟩
  rw [← g1] at A1 st1
  have gb : n0 ≤ b1 := Nat.le_trans Z0 (Nat.le_of_eq g1.symm)
  have sz : h0.size ≤ b1 := Nat.le_of_eq g1.symm
  have K1 : Keep h0 h1 [] := (Keep.refl h0 []).ext E1
  have V1 : Arv Z h1 b1 k1 .int (15 : Int32) (([] : List Int32).map Value.int) (.int 0) := Arv.new A1 (by decide)
  have N1 := N0
  obtain ⟨T2, h2, L2, X2, e2, V2, N2, K2, st2⟩ := own_putI X1 hx hZ e1 V1 N1 gb K1 sz (0 : Int32) (90 : Int32) rfl ⟨by decide, by decide⟩ (g := (mkF m 107 #[.val (.int i0), .val (.int i1), .val (.int i2), .val (.int i3), .val (.int i4), .val (.ref r0), .unset, .unset, .unset, .unset, .unset, .unset, .unset, .unset, .unset, .unset] [(.int (90 : Int32)), (.int (0 : Int32)), (.ref b1), (.ref b1)])) rfl rfl (hb hby at_107)
  obtain ⟨T3, h3, L3, X3, e3, V3, N3, K3, st3⟩ := own_putI X2 hx hZ e2 V2 N2 gb K2 sz (1 : Int32) (95 : Int32) rfl ⟨by decide, by decide⟩ (g := (mkF m 112 #[.val (.int i0), .val (.int i1), .val (.int i2), .val (.int i3), .val (.int i4), .val (.ref r0), .unset, .unset, .unset, .unset, .unset, .unset, .unset, .unset, .unset, .unset] [(.int (95 : Int32)), (.int (1 : Int32)), (.ref b1), (.ref b1)])) rfl rfl (hb hby at_112)
  obtain ⟨T4, h4, L4, X4, e4, V4, N4, K4, st4⟩ := own_putI X3 hx hZ e3 V3 N3 gb K3 sz (2 : Int32) (122 : Int32) rfl ⟨by decide, by decide⟩ (g := (mkF m 117 #[.val (.int i0), .val (.int i1), .val (.int i2), .val (.int i3), .val (.int i4), .val (.ref r0), .unset, .unset, .unset, .unset, .unset, .unset, .unset, .unset, .unset, .unset] [(.int (122 : Int32)), (.int (2 : Int32)), (.ref b1), (.ref b1)])) rfl rfl (hb hby at_117)
  obtain ⟨T5, h5, L5, X5, e5, V5, N5, K5, st5⟩ := own_putI X4 hx hZ e4 V4 N4 gb K4 sz (3 : Int32) (214 : Int32) rfl ⟨by decide, by decide⟩ (g := (mkF m 123 #[.val (.int i0), .val (.int i1), .val (.int i2), .val (.int i3), .val (.int i4), .val (.ref r0), .unset, .unset, .unset, .unset, .unset, .unset, .unset, .unset, .unset, .unset] [(.int (214 : Int32)), (.int (3 : Int32)), (.ref b1), (.ref b1)])) rfl rfl (hb hby at_123)
  obtain ⟨T6, h6, L6, X6, e6, V6, N6, K6, st6⟩ := own_putI X5 hx hZ e5 V5 N5 gb K5 sz (4 : Int32) (246 : Int32) rfl ⟨by decide, by decide⟩ (g := (mkF m 129 #[.val (.int i0), .val (.int i1), .val (.int i2), .val (.int i3), .val (.int i4), .val (.ref r0), .unset, .unset, .unset, .unset, .unset, .unset, .unset, .unset, .unset, .unset] [(.int (246 : Int32)), (.int (4 : Int32)), (.ref b1), (.ref b1)])) rfl rfl (hb hby at_129)
  obtain ⟨T7, h7, L7, X7, e7, V7, N7, K7, st7⟩ := own_putI X6 hx hZ e6 V6 N6 gb K6 sz (5 : Int32) (767 : Int32) rfl ⟨by decide, by decide⟩ (g := (mkF m 135 #[.val (.int i0), .val (.int i1), .val (.int i2), .val (.int i3), .val (.int i4), .val (.ref r0), .unset, .unset, .unset, .unset, .unset, .unset, .unset, .unset, .unset, .unset] [(.int (767 : Int32)), (.int (5 : Int32)), (.ref b1), (.ref b1)])) rfl rfl (hb hby at_135)
  obtain ⟨T8, h8, L8, X8, e8, V8, N8, K8, st8⟩ := own_putI X7 hx hZ e7 V7 N7 gb K7 sz (6 : Int32) (893 : Int32) rfl ⟨by decide, by decide⟩ (g := (mkF m 142 #[.val (.int i0), .val (.int i1), .val (.int i2), .val (.int i3), .val (.int i4), .val (.ref r0), .unset, .unset, .unset, .unset, .unset, .unset, .unset, .unset, .unset, .unset] [(.int (893 : Int32)), (.int (6 : Int32)), (.ref b1), (.ref b1)])) rfl rfl (hb hby at_142)
  obtain ⟨T9, h9, L9, X9, e9, V9, N9, K9, st9⟩ := own_putI X8 hx hZ e8 V8 N8 gb K8 sz (7 : Int32) (8191 : Int32) rfl ⟨by decide, by decide⟩ (g := (mkF m 149 #[.val (.int i0), .val (.int i1), .val (.int i2), .val (.int i3), .val (.int i4), .val (.ref r0), .unset, .unset, .unset, .unset, .unset, .unset, .unset, .unset, .unset, .unset] [(.int (8191 : Int32)), (.int (7 : Int32)), (.ref b1), (.ref b1)])) rfl rfl (hb hby at_149)
  obtain ⟨T10, h10, L10, X10, e10, V10, N10, K10, st10⟩ := own_putI X9 hx hZ e9 V9 N9 gb K9 sz (8 : Int32) (8205 : Int32) rfl ⟨by decide, by decide⟩ (g := (mkF m 156 #[.val (.int i0), .val (.int i1), .val (.int i2), .val (.int i3), .val (.int i4), .val (.ref r0), .unset, .unset, .unset, .unset, .unset, .unset, .unset, .unset, .unset, .unset] [(.int (8205 : Int32)), (.int (8 : Int32)), (.ref b1), (.ref b1)])) rfl rfl (hb hby at_156)
  obtain ⟨T11, h11, L11, X11, e11, V11, N11, K11, st11⟩ := own_putI X10 hx hZ e10 V10 N10 gb K10 sz (9 : Int32) (8591 : Int32) rfl ⟨by decide, by decide⟩ (g := (mkF m 163 #[.val (.int i0), .val (.int i1), .val (.int i2), .val (.int i3), .val (.int i4), .val (.ref r0), .unset, .unset, .unset, .unset, .unset, .unset, .unset, .unset, .unset, .unset] [(.int (8591 : Int32)), (.int (9 : Int32)), (.ref b1), (.ref b1)])) rfl rfl (hb hby at_163)
  obtain ⟨T12, h12, L12, X12, e12, V12, N12, K12, st12⟩ := own_putI X11 hx hZ e11 V11 N11 gb K11 sz (10 : Int32) (12271 : Int32) rfl ⟨by decide, by decide⟩ (g := (mkF m 170 #[.val (.int i0), .val (.int i1), .val (.int i2), .val (.int i3), .val (.int i4), .val (.ref r0), .unset, .unset, .unset, .unset, .unset, .unset, .unset, .unset, .unset, .unset] [(.int (12271 : Int32)), (.int (10 : Int32)), (.ref b1), (.ref b1)])) rfl rfl (hb hby at_170)
  obtain ⟨T13, h13, L13, X13, e13, V13, N13, K13, st13⟩ := own_putI X12 hx hZ e12 V12 N12 gb K12 sz (11 : Int32) (55295 : Int32) rfl ⟨by decide, by decide⟩ (g := (mkF m 176 #[.val (.int i0), .val (.int i1), .val (.int i2), .val (.int i3), .val (.int i4), .val (.ref r0), .unset, .unset, .unset, .unset, .unset, .unset, .unset, .unset, .unset, .unset] [(.int (55295 : Int32)), (.int (11 : Int32)), (.ref b1), (.ref b1)])) rfl rfl (hb hby at_176)
  obtain ⟨T14, h14, L14, X14, e14, V14, N14, K14, st14⟩ := own_putI X13 hx hZ e13 V13 N13 gb K13 sz (12 : Int32) (64975 : Int32) rfl ⟨by decide, by decide⟩ (g := (mkF m 182 #[.val (.int i0), .val (.int i1), .val (.int i2), .val (.int i3), .val (.int i4), .val (.ref r0), .unset, .unset, .unset, .unset, .unset, .unset, .unset, .unset, .unset, .unset] [(.int (64975 : Int32)), (.int (12 : Int32)), (.ref b1), (.ref b1)])) rfl rfl (hb hby at_182)
  obtain ⟨T15, h15, L15, X15, e15, V15, N15, K15, st15⟩ := own_putI X14 hx hZ e14 V14 N14 gb K14 sz (13 : Int32) (65533 : Int32) rfl ⟨by decide, by decide⟩ (g := (mkF m 188 #[.val (.int i0), .val (.int i1), .val (.int i2), .val (.int i3), .val (.int i4), .val (.ref r0), .unset, .unset, .unset, .unset, .unset, .unset, .unset, .unset, .unset, .unset] [(.int (65533 : Int32)), (.int (13 : Int32)), (.ref b1), (.ref b1)])) rfl rfl (hb hby at_188)
  obtain ⟨T16, h16, L16, X16, e16, V16, N16, K16, st16⟩ := own_putI X15 hx hZ e15 V15 N15 gb K15 sz (14 : Int32) (983039 : Int32) rfl ⟨by decide, by decide⟩ (g := (mkF m 194 #[.val (.int i0), .val (.int i1), .val (.int i2), .val (.int i3), .val (.int i4), .val (.ref r0), .unset, .unset, .unset, .unset, .unset, .unset, .unset, .unset, .unset, .unset] [(.int (983039 : Int32)), (.int (14 : Int32)), (.ref b1), (.ref b1)])) rfl rfl (hb hby at_194)
  refine ⟨T16, h16, b1, k1, L16, X16, e16, K16, gb, V16, N16, fun target kt => ?_⟩
  show Steps p.tables e below (T0.setTop (mkF m 99 #[.val (.int i0), .val (.int i1), .val (.int i2), .val (.int i3), .val (.int i4), .val (.ref r0), .unset, .unset, .unset, .unset, .unset, .unset, .unset, .unset, .unset, .unset] [])) _
  refine XS.bipush X0.here hx rfl (hb hby at_99) ?_
  show Steps p.tables e below (T0.setTop (mkF m 101 #[.val (.int i0), .val (.int i1), .val (.int i2), .val (.int i3), .val (.int i4), .val (.ref r0), .unset, .unset, .unset, .unset, .unset, .unset, .unset, .unset, .unset, .unset] [(.int (15 : Int32))])) _
  refine st1 _ ?_
  show Steps p.tables e below (T1.setTop (mkF m 103 #[.val (.int i0), .val (.int i1), .val (.int i2), .val (.int i3), .val (.int i4), .val (.ref r0), .unset, .unset, .unset, .unset, .unset, .unset, .unset, .unset, .unset, .unset] [(.ref b1)])) _
  refine XS.dup X1.here hx rfl (hb hby at_103) rfl rfl ?_
  show Steps p.tables e below (T1.setTop (mkF m 104 #[.val (.int i0), .val (.int i1), .val (.int i2), .val (.int i3), .val (.int i4), .val (.ref r0), .unset, .unset, .unset, .unset, .unset, .unset, .unset, .unset, .unset, .unset] [(.ref b1), (.ref b1)])) _
  refine XS.iconst X1.here hx rfl (hb hby at_104) ?_
  show Steps p.tables e below (T1.setTop (mkF m 105 #[.val (.int i0), .val (.int i1), .val (.int i2), .val (.int i3), .val (.int i4), .val (.ref r0), .unset, .unset, .unset, .unset, .unset, .unset, .unset, .unset, .unset, .unset] [(.int (0 : Int32)), (.ref b1), (.ref b1)])) _
  refine XS.bipush X1.here hx rfl (hb hby at_105) ?_
  show Steps p.tables e below (T1.setTop (mkF m 107 #[.val (.int i0), .val (.int i1), .val (.int i2), .val (.int i3), .val (.int i4), .val (.ref r0), .unset, .unset, .unset, .unset, .unset, .unset, .unset, .unset, .unset, .unset] [(.int (90 : Int32)), (.int (0 : Int32)), (.ref b1), (.ref b1)])) _
  refine st2 _ ?_
  show Steps p.tables e below (T2.setTop (mkF m 108 #[.val (.int i0), .val (.int i1), .val (.int i2), .val (.int i3), .val (.int i4), .val (.ref r0), .unset, .unset, .unset, .unset, .unset, .unset, .unset, .unset, .unset, .unset] [(.ref b1)])) _
  refine XS.dup X2.here hx rfl (hb hby at_108) rfl rfl ?_
  show Steps p.tables e below (T2.setTop (mkF m 109 #[.val (.int i0), .val (.int i1), .val (.int i2), .val (.int i3), .val (.int i4), .val (.ref r0), .unset, .unset, .unset, .unset, .unset, .unset, .unset, .unset, .unset, .unset] [(.ref b1), (.ref b1)])) _
  refine XS.iconst X2.here hx rfl (hb hby at_109) ?_
  show Steps p.tables e below (T2.setTop (mkF m 110 #[.val (.int i0), .val (.int i1), .val (.int i2), .val (.int i3), .val (.int i4), .val (.ref r0), .unset, .unset, .unset, .unset, .unset, .unset, .unset, .unset, .unset, .unset] [(.int (1 : Int32)), (.ref b1), (.ref b1)])) _
  refine XS.bipush X2.here hx rfl (hb hby at_110) ?_
  show Steps p.tables e below (T2.setTop (mkF m 112 #[.val (.int i0), .val (.int i1), .val (.int i2), .val (.int i3), .val (.int i4), .val (.ref r0), .unset, .unset, .unset, .unset, .unset, .unset, .unset, .unset, .unset, .unset] [(.int (95 : Int32)), (.int (1 : Int32)), (.ref b1), (.ref b1)])) _
  refine st3 _ ?_
  show Steps p.tables e below (T3.setTop (mkF m 113 #[.val (.int i0), .val (.int i1), .val (.int i2), .val (.int i3), .val (.int i4), .val (.ref r0), .unset, .unset, .unset, .unset, .unset, .unset, .unset, .unset, .unset, .unset] [(.ref b1)])) _
  refine XS.dup X3.here hx rfl (hb hby at_113) rfl rfl ?_
  show Steps p.tables e below (T3.setTop (mkF m 114 #[.val (.int i0), .val (.int i1), .val (.int i2), .val (.int i3), .val (.int i4), .val (.ref r0), .unset, .unset, .unset, .unset, .unset, .unset, .unset, .unset, .unset, .unset] [(.ref b1), (.ref b1)])) _
  refine XS.iconst X3.here hx rfl (hb hby at_114) ?_
  show Steps p.tables e below (T3.setTop (mkF m 115 #[.val (.int i0), .val (.int i1), .val (.int i2), .val (.int i3), .val (.int i4), .val (.ref r0), .unset, .unset, .unset, .unset, .unset, .unset, .unset, .unset, .unset, .unset] [(.int (2 : Int32)), (.ref b1), (.ref b1)])) _
  refine XS.bipush X3.here hx rfl (hb hby at_115) ?_
  show Steps p.tables e below (T3.setTop (mkF m 117 #[.val (.int i0), .val (.int i1), .val (.int i2), .val (.int i3), .val (.int i4), .val (.ref r0), .unset, .unset, .unset, .unset, .unset, .unset, .unset, .unset, .unset, .unset] [(.int (122 : Int32)), (.int (2 : Int32)), (.ref b1), (.ref b1)])) _
  refine st4 _ ?_
  show Steps p.tables e below (T4.setTop (mkF m 118 #[.val (.int i0), .val (.int i1), .val (.int i2), .val (.int i3), .val (.int i4), .val (.ref r0), .unset, .unset, .unset, .unset, .unset, .unset, .unset, .unset, .unset, .unset] [(.ref b1)])) _
  refine XS.dup X4.here hx rfl (hb hby at_118) rfl rfl ?_
  show Steps p.tables e below (T4.setTop (mkF m 119 #[.val (.int i0), .val (.int i1), .val (.int i2), .val (.int i3), .val (.int i4), .val (.ref r0), .unset, .unset, .unset, .unset, .unset, .unset, .unset, .unset, .unset, .unset] [(.ref b1), (.ref b1)])) _
  refine XS.iconst X4.here hx rfl (hb hby at_119) ?_
  show Steps p.tables e below (T4.setTop (mkF m 120 #[.val (.int i0), .val (.int i1), .val (.int i2), .val (.int i3), .val (.int i4), .val (.ref r0), .unset, .unset, .unset, .unset, .unset, .unset, .unset, .unset, .unset, .unset] [(.int (3 : Int32)), (.ref b1), (.ref b1)])) _
  refine XS.sipush X4.here hx rfl (hb hby at_120) ?_
  show Steps p.tables e below (T4.setTop (mkF m 123 #[.val (.int i0), .val (.int i1), .val (.int i2), .val (.int i3), .val (.int i4), .val (.ref r0), .unset, .unset, .unset, .unset, .unset, .unset, .unset, .unset, .unset, .unset] [(.int (214 : Int32)), (.int (3 : Int32)), (.ref b1), (.ref b1)])) _
  refine st5 _ ?_
  show Steps p.tables e below (T5.setTop (mkF m 124 #[.val (.int i0), .val (.int i1), .val (.int i2), .val (.int i3), .val (.int i4), .val (.ref r0), .unset, .unset, .unset, .unset, .unset, .unset, .unset, .unset, .unset, .unset] [(.ref b1)])) _
  refine XS.dup X5.here hx rfl (hb hby at_124) rfl rfl ?_
  show Steps p.tables e below (T5.setTop (mkF m 125 #[.val (.int i0), .val (.int i1), .val (.int i2), .val (.int i3), .val (.int i4), .val (.ref r0), .unset, .unset, .unset, .unset, .unset, .unset, .unset, .unset, .unset, .unset] [(.ref b1), (.ref b1)])) _
  refine XS.iconst X5.here hx rfl (hb hby at_125) ?_
  show Steps p.tables e below (T5.setTop (mkF m 126 #[.val (.int i0), .val (.int i1), .val (.int i2), .val (.int i3), .val (.int i4), .val (.ref r0), .unset, .unset, .unset, .unset, .unset, .unset, .unset, .unset, .unset, .unset] [(.int (4 : Int32)), (.ref b1), (.ref b1)])) _
  refine XS.sipush X5.here hx rfl (hb hby at_126) ?_
  show Steps p.tables e below (T5.setTop (mkF m 129 #[.val (.int i0), .val (.int i1), .val (.int i2), .val (.int i3), .val (.int i4), .val (.ref r0), .unset, .unset, .unset, .unset, .unset, .unset, .unset, .unset, .unset, .unset] [(.int (246 : Int32)), (.int (4 : Int32)), (.ref b1), (.ref b1)])) _
  refine st6 _ ?_
  show Steps p.tables e below (T6.setTop (mkF m 130 #[.val (.int i0), .val (.int i1), .val (.int i2), .val (.int i3), .val (.int i4), .val (.ref r0), .unset, .unset, .unset, .unset, .unset, .unset, .unset, .unset, .unset, .unset] [(.ref b1)])) _
  refine XS.dup X6.here hx rfl (hb hby at_130) rfl rfl ?_
  show Steps p.tables e below (T6.setTop (mkF m 131 #[.val (.int i0), .val (.int i1), .val (.int i2), .val (.int i3), .val (.int i4), .val (.ref r0), .unset, .unset, .unset, .unset, .unset, .unset, .unset, .unset, .unset, .unset] [(.ref b1), (.ref b1)])) _
  refine XS.iconst X6.here hx rfl (hb hby at_131) ?_
  show Steps p.tables e below (T6.setTop (mkF m 132 #[.val (.int i0), .val (.int i1), .val (.int i2), .val (.int i3), .val (.int i4), .val (.ref r0), .unset, .unset, .unset, .unset, .unset, .unset, .unset, .unset, .unset, .unset] [(.int (5 : Int32)), (.ref b1), (.ref b1)])) _
  refine XS.sipush X6.here hx rfl (hb hby at_132) ?_
  show Steps p.tables e below (T6.setTop (mkF m 135 #[.val (.int i0), .val (.int i1), .val (.int i2), .val (.int i3), .val (.int i4), .val (.ref r0), .unset, .unset, .unset, .unset, .unset, .unset, .unset, .unset, .unset, .unset] [(.int (767 : Int32)), (.int (5 : Int32)), (.ref b1), (.ref b1)])) _
  refine st7 _ ?_
  show Steps p.tables e below (T7.setTop (mkF m 136 #[.val (.int i0), .val (.int i1), .val (.int i2), .val (.int i3), .val (.int i4), .val (.ref r0), .unset, .unset, .unset, .unset, .unset, .unset, .unset, .unset, .unset, .unset] [(.ref b1)])) _
  refine XS.dup X7.here hx rfl (hb hby at_136) rfl rfl ?_
  show Steps p.tables e below (T7.setTop (mkF m 137 #[.val (.int i0), .val (.int i1), .val (.int i2), .val (.int i3), .val (.int i4), .val (.ref r0), .unset, .unset, .unset, .unset, .unset, .unset, .unset, .unset, .unset, .unset] [(.ref b1), (.ref b1)])) _
  refine XS.bipush X7.here hx rfl (hb hby at_137) ?_
  show Steps p.tables e below (T7.setTop (mkF m 139 #[.val (.int i0), .val (.int i1), .val (.int i2), .val (.int i3), .val (.int i4), .val (.ref r0), .unset, .unset, .unset, .unset, .unset, .unset, .unset, .unset, .unset, .unset] [(.int (6 : Int32)), (.ref b1), (.ref b1)])) _
  refine XS.sipush X7.here hx rfl (hb hby at_139) ?_
  show Steps p.tables e below (T7.setTop (mkF m 142 #[.val (.int i0), .val (.int i1), .val (.int i2), .val (.int i3), .val (.int i4), .val (.ref r0), .unset, .unset, .unset, .unset, .unset, .unset, .unset, .unset, .unset, .unset] [(.int (893 : Int32)), (.int (6 : Int32)), (.ref b1), (.ref b1)])) _
  refine st8 _ ?_
  show Steps p.tables e below (T8.setTop (mkF m 143 #[.val (.int i0), .val (.int i1), .val (.int i2), .val (.int i3), .val (.int i4), .val (.ref r0), .unset, .unset, .unset, .unset, .unset, .unset, .unset, .unset, .unset, .unset] [(.ref b1)])) _
  refine XS.dup X8.here hx rfl (hb hby at_143) rfl rfl ?_
  show Steps p.tables e below (T8.setTop (mkF m 144 #[.val (.int i0), .val (.int i1), .val (.int i2), .val (.int i3), .val (.int i4), .val (.ref r0), .unset, .unset, .unset, .unset, .unset, .unset, .unset, .unset, .unset, .unset] [(.ref b1), (.ref b1)])) _
  refine XS.bipush X8.here hx rfl (hb hby at_144) ?_
  show Steps p.tables e below (T8.setTop (mkF m 146 #[.val (.int i0), .val (.int i1), .val (.int i2), .val (.int i3), .val (.int i4), .val (.ref r0), .unset, .unset, .unset, .unset, .unset, .unset, .unset, .unset, .unset, .unset] [(.int (7 : Int32)), (.ref b1), (.ref b1)])) _
  refine XS.sipush X8.here hx rfl (hb hby at_146) ?_
  show Steps p.tables e below (T8.setTop (mkF m 149 #[.val (.int i0), .val (.int i1), .val (.int i2), .val (.int i3), .val (.int i4), .val (.ref r0), .unset, .unset, .unset, .unset, .unset, .unset, .unset, .unset, .unset, .unset] [(.int (8191 : Int32)), (.int (7 : Int32)), (.ref b1), (.ref b1)])) _
  refine st9 _ ?_
  show Steps p.tables e below (T9.setTop (mkF m 150 #[.val (.int i0), .val (.int i1), .val (.int i2), .val (.int i3), .val (.int i4), .val (.ref r0), .unset, .unset, .unset, .unset, .unset, .unset, .unset, .unset, .unset, .unset] [(.ref b1)])) _
  refine XS.dup X9.here hx rfl (hb hby at_150) rfl rfl ?_
  show Steps p.tables e below (T9.setTop (mkF m 151 #[.val (.int i0), .val (.int i1), .val (.int i2), .val (.int i3), .val (.int i4), .val (.ref r0), .unset, .unset, .unset, .unset, .unset, .unset, .unset, .unset, .unset, .unset] [(.ref b1), (.ref b1)])) _
  refine XS.bipush X9.here hx rfl (hb hby at_151) ?_
  show Steps p.tables e below (T9.setTop (mkF m 153 #[.val (.int i0), .val (.int i1), .val (.int i2), .val (.int i3), .val (.int i4), .val (.ref r0), .unset, .unset, .unset, .unset, .unset, .unset, .unset, .unset, .unset, .unset] [(.int (8 : Int32)), (.ref b1), (.ref b1)])) _
  refine XS.sipush X9.here hx rfl (hb hby at_153) ?_
  show Steps p.tables e below (T9.setTop (mkF m 156 #[.val (.int i0), .val (.int i1), .val (.int i2), .val (.int i3), .val (.int i4), .val (.ref r0), .unset, .unset, .unset, .unset, .unset, .unset, .unset, .unset, .unset, .unset] [(.int (8205 : Int32)), (.int (8 : Int32)), (.ref b1), (.ref b1)])) _
  refine st10 _ ?_
  show Steps p.tables e below (T10.setTop (mkF m 157 #[.val (.int i0), .val (.int i1), .val (.int i2), .val (.int i3), .val (.int i4), .val (.ref r0), .unset, .unset, .unset, .unset, .unset, .unset, .unset, .unset, .unset, .unset] [(.ref b1)])) _
  refine XS.dup X10.here hx rfl (hb hby at_157) rfl rfl ?_
  show Steps p.tables e below (T10.setTop (mkF m 158 #[.val (.int i0), .val (.int i1), .val (.int i2), .val (.int i3), .val (.int i4), .val (.ref r0), .unset, .unset, .unset, .unset, .unset, .unset, .unset, .unset, .unset, .unset] [(.ref b1), (.ref b1)])) _
  refine XS.bipush X10.here hx rfl (hb hby at_158) ?_
  show Steps p.tables e below (T10.setTop (mkF m 160 #[.val (.int i0), .val (.int i1), .val (.int i2), .val (.int i3), .val (.int i4), .val (.ref r0), .unset, .unset, .unset, .unset, .unset, .unset, .unset, .unset, .unset, .unset] [(.int (9 : Int32)), (.ref b1), (.ref b1)])) _
  refine XS.sipush X10.here hx rfl (hb hby at_160) ?_
  show Steps p.tables e below (T10.setTop (mkF m 163 #[.val (.int i0), .val (.int i1), .val (.int i2), .val (.int i3), .val (.int i4), .val (.ref r0), .unset, .unset, .unset, .unset, .unset, .unset, .unset, .unset, .unset, .unset] [(.int (8591 : Int32)), (.int (9 : Int32)), (.ref b1), (.ref b1)])) _
  refine st11 _ ?_
  show Steps p.tables e below (T11.setTop (mkF m 164 #[.val (.int i0), .val (.int i1), .val (.int i2), .val (.int i3), .val (.int i4), .val (.ref r0), .unset, .unset, .unset, .unset, .unset, .unset, .unset, .unset, .unset, .unset] [(.ref b1)])) _
  refine XS.dup X11.here hx rfl (hb hby at_164) rfl rfl ?_
  show Steps p.tables e below (T11.setTop (mkF m 165 #[.val (.int i0), .val (.int i1), .val (.int i2), .val (.int i3), .val (.int i4), .val (.ref r0), .unset, .unset, .unset, .unset, .unset, .unset, .unset, .unset, .unset, .unset] [(.ref b1), (.ref b1)])) _
  refine XS.bipush X11.here hx rfl (hb hby at_165) ?_
  show Steps p.tables e below (T11.setTop (mkF m 167 #[.val (.int i0), .val (.int i1), .val (.int i2), .val (.int i3), .val (.int i4), .val (.ref r0), .unset, .unset, .unset, .unset, .unset, .unset, .unset, .unset, .unset, .unset] [(.int (10 : Int32)), (.ref b1), (.ref b1)])) _
  refine XS.sipush X11.here hx rfl (hb hby at_167) ?_
  show Steps p.tables e below (T11.setTop (mkF m 170 #[.val (.int i0), .val (.int i1), .val (.int i2), .val (.int i3), .val (.int i4), .val (.ref r0), .unset, .unset, .unset, .unset, .unset, .unset, .unset, .unset, .unset, .unset] [(.int (12271 : Int32)), (.int (10 : Int32)), (.ref b1), (.ref b1)])) _
  refine st12 _ ?_
  show Steps p.tables e below (T12.setTop (mkF m 171 #[.val (.int i0), .val (.int i1), .val (.int i2), .val (.int i3), .val (.int i4), .val (.ref r0), .unset, .unset, .unset, .unset, .unset, .unset, .unset, .unset, .unset, .unset] [(.ref b1)])) _
  refine XS.dup X12.here hx rfl (hb hby at_171) rfl rfl ?_
  show Steps p.tables e below (T12.setTop (mkF m 172 #[.val (.int i0), .val (.int i1), .val (.int i2), .val (.int i3), .val (.int i4), .val (.ref r0), .unset, .unset, .unset, .unset, .unset, .unset, .unset, .unset, .unset, .unset] [(.ref b1), (.ref b1)])) _
  refine XS.bipush X12.here hx rfl (hb hby at_172) ?_
  show Steps p.tables e below (T12.setTop (mkF m 174 #[.val (.int i0), .val (.int i1), .val (.int i2), .val (.int i3), .val (.int i4), .val (.ref r0), .unset, .unset, .unset, .unset, .unset, .unset, .unset, .unset, .unset, .unset] [(.int (11 : Int32)), (.ref b1), (.ref b1)])) _
  refine X12.ldcInt hx hown (mvT hZ (hw _ (List.mem_of_getElem? (i := 4) rfl))) (g := (mkF m 174 #[.val (.int i0), .val (.int i1), .val (.int i2), .val (.int i3), .val (.int i4), .val (.ref r0), .unset, .unset, .unset, .unset, .unset, .unset, .unset, .unset, .unset, .unset] [(.int (11 : Int32)), (.ref b1), (.ref b1)])) rfl (hb hby at_174) _ ?_
  show Steps p.tables e below (T12.setTop (mkF m 176 #[.val (.int i0), .val (.int i1), .val (.int i2), .val (.int i3), .val (.int i4), .val (.ref r0), .unset, .unset, .unset, .unset, .unset, .unset, .unset, .unset, .unset, .unset] [(.int (55295 : Int32)), (.int (11 : Int32)), (.ref b1), (.ref b1)])) _
  refine st13 _ ?_
  show Steps p.tables e below (T13.setTop (mkF m 177 #[.val (.int i0), .val (.int i1), .val (.int i2), .val (.int i3), .val (.int i4), .val (.ref r0), .unset, .unset, .unset, .unset, .unset, .unset, .unset, .unset, .unset, .unset] [(.ref b1)])) _
  refine XS.dup X13.here hx rfl (hb hby at_177) rfl rfl ?_
  show Steps p.tables e below (T13.setTop (mkF m 178 #[.val (.int i0), .val (.int i1), .val (.int i2), .val (.int i3), .val (.int i4), .val (.ref r0), .unset, .unset, .unset, .unset, .unset, .unset, .unset, .unset, .unset, .unset] [(.ref b1), (.ref b1)])) _
  refine XS.bipush X13.here hx rfl (hb hby at_178) ?_
  show Steps p.tables e below (T13.setTop (mkF m 180 #[.val (.int i0), .val (.int i1), .val (.int i2), .val (.int i3), .val (.int i4), .val (.ref r0), .unset, .unset, .unset, .unset, .unset, .unset, .unset, .unset, .unset, .unset] [(.int (12 : Int32)), (.ref b1), (.ref b1)])) _
  refine X13.ldcInt hx hown (mvT hZ (hw _ (List.mem_of_getElem? (i := 5) rfl))) (g := (mkF m 180 #[.val (.int i0), .val (.int i1), .val (.int i2), .val (.int i3), .val (.int i4), .val (.ref r0), .unset, .unset, .unset, .unset, .unset, .unset, .unset, .unset, .unset, .unset] [(.int (12 : Int32)), (.ref b1), (.ref b1)])) rfl (hb hby at_180) _ ?_
  show Steps p.tables e below (T13.setTop (mkF m 182 #[.val (.int i0), .val (.int i1), .val (.int i2), .val (.int i3), .val (.int i4), .val (.ref r0), .unset, .unset, .unset, .unset, .unset, .unset, .unset, .unset, .unset, .unset] [(.int (64975 : Int32)), (.int (12 : Int32)), (.ref b1), (.ref b1)])) _
  refine st14 _ ?_
  show Steps p.tables e below (T14.setTop (mkF m 183 #[.val (.int i0), .val (.int i1), .val (.int i2), .val (.int i3), .val (.int i4), .val (.ref r0), .unset, .unset, .unset, .unset, .unset, .unset, .unset, .unset, .unset, .unset] [(.ref b1)])) _
  refine XS.dup X14.here hx rfl (hb hby at_183) rfl rfl ?_
  show Steps p.tables e below (T14.setTop (mkF m 184 #[.val (.int i0), .val (.int i1), .val (.int i2), .val (.int i3), .val (.int i4), .val (.ref r0), .unset, .unset, .unset, .unset, .unset, .unset, .unset, .unset, .unset, .unset] [(.ref b1), (.ref b1)])) _
  refine XS.bipush X14.here hx rfl (hb hby at_184) ?_
  show Steps p.tables e below (T14.setTop (mkF m 186 #[.val (.int i0), .val (.int i1), .val (.int i2), .val (.int i3), .val (.int i4), .val (.ref r0), .unset, .unset, .unset, .unset, .unset, .unset, .unset, .unset, .unset, .unset] [(.int (13 : Int32)), (.ref b1), (.ref b1)])) _
  refine X14.ldcInt hx hown (mvT hZ (hw _ (List.mem_of_getElem? (i := 6) rfl))) (g := (mkF m 186 #[.val (.int i0), .val (.int i1), .val (.int i2), .val (.int i3), .val (.int i4), .val (.ref r0), .unset, .unset, .unset, .unset, .unset, .unset, .unset, .unset, .unset, .unset] [(.int (13 : Int32)), (.ref b1), (.ref b1)])) rfl (hb hby at_186) _ ?_
  show Steps p.tables e below (T14.setTop (mkF m 188 #[.val (.int i0), .val (.int i1), .val (.int i2), .val (.int i3), .val (.int i4), .val (.ref r0), .unset, .unset, .unset, .unset, .unset, .unset, .unset, .unset, .unset, .unset] [(.int (65533 : Int32)), (.int (13 : Int32)), (.ref b1), (.ref b1)])) _
  refine st15 _ ?_
  show Steps p.tables e below (T15.setTop (mkF m 189 #[.val (.int i0), .val (.int i1), .val (.int i2), .val (.int i3), .val (.int i4), .val (.ref r0), .unset, .unset, .unset, .unset, .unset, .unset, .unset, .unset, .unset, .unset] [(.ref b1)])) _
  refine XS.dup X15.here hx rfl (hb hby at_189) rfl rfl ?_
  show Steps p.tables e below (T15.setTop (mkF m 190 #[.val (.int i0), .val (.int i1), .val (.int i2), .val (.int i3), .val (.int i4), .val (.ref r0), .unset, .unset, .unset, .unset, .unset, .unset, .unset, .unset, .unset, .unset] [(.ref b1), (.ref b1)])) _
  refine XS.bipush X15.here hx rfl (hb hby at_190) ?_
  show Steps p.tables e below (T15.setTop (mkF m 192 #[.val (.int i0), .val (.int i1), .val (.int i2), .val (.int i3), .val (.int i4), .val (.ref r0), .unset, .unset, .unset, .unset, .unset, .unset, .unset, .unset, .unset, .unset] [(.int (14 : Int32)), (.ref b1), (.ref b1)])) _
  refine X15.ldcInt hx hown (mvT hZ (hw _ (List.mem_of_getElem? (i := 7) rfl))) (g := (mkF m 192 #[.val (.int i0), .val (.int i1), .val (.int i2), .val (.int i3), .val (.int i4), .val (.ref r0), .unset, .unset, .unset, .unset, .unset, .unset, .unset, .unset, .unset, .unset] [(.int (14 : Int32)), (.ref b1), (.ref b1)])) rfl (hb hby at_192) _ ?_
  show Steps p.tables e below (T15.setTop (mkF m 194 #[.val (.int i0), .val (.int i1), .val (.int i2), .val (.int i3), .val (.int i4), .val (.ref r0), .unset, .unset, .unset, .unset, .unset, .unset, .unset, .unset, .unset, .unset] [(.int (983039 : Int32)), (.int (14 : Int32)), (.ref b1), (.ref b1)])) _
  refine st16 _ ?_
  show Steps p.tables e below (T16.setTop (mkF m 195 #[.val (.int i0), .val (.int i1), .val (.int i2), .val (.int i3), .val (.int i4), .val (.ref r0), .unset, .unset, .unset, .unset, .unset, .unset, .unset, .unset, .unset, .unset] [(.ref b1)])) _
  refine XS.astore X16.here hx rfl (hb hby at_195) rfl rfl (l' := #[.val (.int i0), .val (.int i1), .val (.int i2), .val (.int i3), .val (.int i4), .val (.ref r0), .val (.ref b1), .unset, .unset, .unset, .unset, .unset, .unset, .unset, .unset, .unset]) rfl ?_
  exact kt
def own_vals2 : List Int32 := [0, 91, 96, 123, 215, 247, 768, 894, 8192, 8206, 8592, 12272, 55296, 64976, 65534]
set_option maxRecDepth 65536 in
set_option maxHeartbeats 40000000 in
theorem ar2 {p : Program} {l : Launch} {e : Env} {s : State} {m : MethodId} {args : Array Value} {below : List Frame} {meth : Method} {c : Code} {T0 : State} {locs : List Loc} {Z : State} {a0 : Array Value} {h0 : Heap} {n0 : Nat} (i0 : Int32) (i1 : Int32) (i2 : Int32) (i3 : Int32) (i4 : Int32) (r0 : Addr) (r1 : Addr) (X0 : Stand p l e room_1 s m args below meth c T0 locs 2 30) (hx : p.tables.exec = Jvm.exec) (hZ : Z.Warmed39 s.vm) (hw : ∀ d ∈ tables_1, d.before a0 Z = true) (hby : c.code = code) (hown : s.vm.findClass "com/example/reshape/reshape/tree/XmlNamesIsNameStartCharPinLaw" = some m.cls) (e0 : T0.heap = h0) (N0 : Fr n0 locs) (Z0 : n0 ≤ h0.size) :
    ∃ (T' : State) (h' : Heap) (b1 : Addr) (k1 : ClassId) (locs' : List Loc), Stand p l e room_1 s m args below meth c T' locs' 3 45 ∧ T'.heap = h' ∧ Keep h0 h' [] ∧ n0 ≤ b1 ∧ Arv Z h' b1 k1 .int (15 : Int32) (own_vals2.map Value.int) (.int 0) ∧ Fr n0 locs' ∧
      ∀ target, Steps p.tables e below (T'.setTop (mkF m 294 #[.val (.int i0), .val (.int i1), .val (.int i2), .val (.int i3), .val (.int i4), .val (.ref r0), .val (.ref r1), .val (.ref b1), .unset, .unset, .unset, .unset, .unset, .unset, .unset, .unset] [])) target → Steps p.tables e below (T0.setTop (mkF m 197 #[.val (.int i0), .val (.int i1), .val (.int i2), .val (.int i3), .val (.int i4), .val (.ref r0), .val (.ref r1), .unset, .unset, .unset, .unset, .unset, .unset, .unset, .unset, .unset] [])) target := by
  obtain ⟨T1, h1, k1, X1, e1, E1, A1, st1⟩ := newP X0 hx hZ (hw _ (List.mem_of_getElem? (i := 0) rfl)) e0 (g := (mkF m 199 #[.val (.int i0), .val (.int i1), .val (.int i2), .val (.int i3), .val (.int i4), .val (.ref r0), .val (.ref r1), .unset, .unset, .unset, .unset, .unset, .unset, .unset, .unset, .unset] [(.int (15 : Int32))])) rfl (hb hby at_199) rfl (by decide) (cap := 15) (by decide) (by decide) (by decide) (by decide)
  obtain ⟨b1, g1⟩ : ∃ z, z = h0.size := ⟨_, rfl⟩
  rw [← g1] at A1 st1
  have gb : n0 ≤ b1 := Nat.le_trans Z0 (Nat.le_of_eq g1.symm)
  have sz : h0.size ≤ b1 := Nat.le_of_eq g1.symm
  have K1 : Keep h0 h1 [] := (Keep.refl h0 []).ext E1
  have V1 : Arv Z h1 b1 k1 .int (15 : Int32) (([] : List Int32).map Value.int) (.int 0) := Arv.new A1 (by decide)
  have N1 := N0
  obtain ⟨T2, h2, L2, X2, e2, V2, N2, K2, st2⟩ := own_putI X1 hx hZ e1 V1 N1 gb K1 sz (0 : Int32) (0 : Int32) rfl ⟨by decide, by decide⟩ (g := (mkF m 204 #[.val (.int i0), .val (.int i1), .val (.int i2), .val (.int i3), .val (.int i4), .val (.ref r0), .val (.ref r1), .unset, .unset, .unset, .unset, .unset, .unset, .unset, .unset, .unset] [(.int (0 : Int32)), (.int (0 : Int32)), (.ref b1), (.ref b1)])) rfl rfl (hb hby at_204)
  obtain ⟨T3, h3, L3, X3, e3, V3, N3, K3, st3⟩ := own_putI X2 hx hZ e2 V2 N2 gb K2 sz (1 : Int32) (91 : Int32) rfl ⟨by decide, by decide⟩ (g := (mkF m 209 #[.val (.int i0), .val (.int i1), .val (.int i2), .val (.int i3), .val (.int i4), .val (.ref r0), .val (.ref r1), .unset, .unset, .unset, .unset, .unset, .unset, .unset, .unset, .unset] [(.int (91 : Int32)), (.int (1 : Int32)), (.ref b1), (.ref b1)])) rfl rfl (hb hby at_209)
  obtain ⟨T4, h4, L4, X4, e4, V4, N4, K4, st4⟩ := own_putI X3 hx hZ e3 V3 N3 gb K3 sz (2 : Int32) (96 : Int32) rfl ⟨by decide, by decide⟩ (g := (mkF m 214 #[.val (.int i0), .val (.int i1), .val (.int i2), .val (.int i3), .val (.int i4), .val (.ref r0), .val (.ref r1), .unset, .unset, .unset, .unset, .unset, .unset, .unset, .unset, .unset] [(.int (96 : Int32)), (.int (2 : Int32)), (.ref b1), (.ref b1)])) rfl rfl (hb hby at_214)
  obtain ⟨T5, h5, L5, X5, e5, V5, N5, K5, st5⟩ := own_putI X4 hx hZ e4 V4 N4 gb K4 sz (3 : Int32) (123 : Int32) rfl ⟨by decide, by decide⟩ (g := (mkF m 219 #[.val (.int i0), .val (.int i1), .val (.int i2), .val (.int i3), .val (.int i4), .val (.ref r0), .val (.ref r1), .unset, .unset, .unset, .unset, .unset, .unset, .unset, .unset, .unset] [(.int (123 : Int32)), (.int (3 : Int32)), (.ref b1), (.ref b1)])) rfl rfl (hb hby at_219)
  obtain ⟨T6, h6, L6, X6, e6, V6, N6, K6, st6⟩ := own_putI X5 hx hZ e5 V5 N5 gb K5 sz (4 : Int32) (215 : Int32) rfl ⟨by decide, by decide⟩ (g := (mkF m 225 #[.val (.int i0), .val (.int i1), .val (.int i2), .val (.int i3), .val (.int i4), .val (.ref r0), .val (.ref r1), .unset, .unset, .unset, .unset, .unset, .unset, .unset, .unset, .unset] [(.int (215 : Int32)), (.int (4 : Int32)), (.ref b1), (.ref b1)])) rfl rfl (hb hby at_225)
  obtain ⟨T7, h7, L7, X7, e7, V7, N7, K7, st7⟩ := own_putI X6 hx hZ e6 V6 N6 gb K6 sz (5 : Int32) (247 : Int32) rfl ⟨by decide, by decide⟩ (g := (mkF m 231 #[.val (.int i0), .val (.int i1), .val (.int i2), .val (.int i3), .val (.int i4), .val (.ref r0), .val (.ref r1), .unset, .unset, .unset, .unset, .unset, .unset, .unset, .unset, .unset] [(.int (247 : Int32)), (.int (5 : Int32)), (.ref b1), (.ref b1)])) rfl rfl (hb hby at_231)
  obtain ⟨T8, h8, L8, X8, e8, V8, N8, K8, st8⟩ := own_putI X7 hx hZ e7 V7 N7 gb K7 sz (6 : Int32) (768 : Int32) rfl ⟨by decide, by decide⟩ (g := (mkF m 238 #[.val (.int i0), .val (.int i1), .val (.int i2), .val (.int i3), .val (.int i4), .val (.ref r0), .val (.ref r1), .unset, .unset, .unset, .unset, .unset, .unset, .unset, .unset, .unset] [(.int (768 : Int32)), (.int (6 : Int32)), (.ref b1), (.ref b1)])) rfl rfl (hb hby at_238)
  obtain ⟨T9, h9, L9, X9, e9, V9, N9, K9, st9⟩ := own_putI X8 hx hZ e8 V8 N8 gb K8 sz (7 : Int32) (894 : Int32) rfl ⟨by decide, by decide⟩ (g := (mkF m 245 #[.val (.int i0), .val (.int i1), .val (.int i2), .val (.int i3), .val (.int i4), .val (.ref r0), .val (.ref r1), .unset, .unset, .unset, .unset, .unset, .unset, .unset, .unset, .unset] [(.int (894 : Int32)), (.int (7 : Int32)), (.ref b1), (.ref b1)])) rfl rfl (hb hby at_245)
  obtain ⟨T10, h10, L10, X10, e10, V10, N10, K10, st10⟩ := own_putI X9 hx hZ e9 V9 N9 gb K9 sz (8 : Int32) (8192 : Int32) rfl ⟨by decide, by decide⟩ (g := (mkF m 252 #[.val (.int i0), .val (.int i1), .val (.int i2), .val (.int i3), .val (.int i4), .val (.ref r0), .val (.ref r1), .unset, .unset, .unset, .unset, .unset, .unset, .unset, .unset, .unset] [(.int (8192 : Int32)), (.int (8 : Int32)), (.ref b1), (.ref b1)])) rfl rfl (hb hby at_252)
  obtain ⟨T11, h11, L11, X11, e11, V11, N11, K11, st11⟩ := own_putI X10 hx hZ e10 V10 N10 gb K10 sz (9 : Int32) (8206 : Int32) rfl ⟨by decide, by decide⟩ (g := (mkF m 259 #[.val (.int i0), .val (.int i1), .val (.int i2), .val (.int i3), .val (.int i4), .val (.ref r0), .val (.ref r1), .unset, .unset, .unset, .unset, .unset, .unset, .unset, .unset, .unset] [(.int (8206 : Int32)), (.int (9 : Int32)), (.ref b1), (.ref b1)])) rfl rfl (hb hby at_259)
  obtain ⟨T12, h12, L12, X12, e12, V12, N12, K12, st12⟩ := own_putI X11 hx hZ e11 V11 N11 gb K11 sz (10 : Int32) (8592 : Int32) rfl ⟨by decide, by decide⟩ (g := (mkF m 266 #[.val (.int i0), .val (.int i1), .val (.int i2), .val (.int i3), .val (.int i4), .val (.ref r0), .val (.ref r1), .unset, .unset, .unset, .unset, .unset, .unset, .unset, .unset, .unset] [(.int (8592 : Int32)), (.int (10 : Int32)), (.ref b1), (.ref b1)])) rfl rfl (hb hby at_266)
  obtain ⟨T13, h13, L13, X13, e13, V13, N13, K13, st13⟩ := own_putI X12 hx hZ e12 V12 N12 gb K12 sz (11 : Int32) (12272 : Int32) rfl ⟨by decide, by decide⟩ (g := (mkF m 273 #[.val (.int i0), .val (.int i1), .val (.int i2), .val (.int i3), .val (.int i4), .val (.ref r0), .val (.ref r1), .unset, .unset, .unset, .unset, .unset, .unset, .unset, .unset, .unset] [(.int (12272 : Int32)), (.int (11 : Int32)), (.ref b1), (.ref b1)])) rfl rfl (hb hby at_273)
  obtain ⟨T14, h14, L14, X14, e14, V14, N14, K14, st14⟩ := own_putI X13 hx hZ e13 V13 N13 gb K13 sz (12 : Int32) (55296 : Int32) rfl ⟨by decide, by decide⟩ (g := (mkF m 279 #[.val (.int i0), .val (.int i1), .val (.int i2), .val (.int i3), .val (.int i4), .val (.ref r0), .val (.ref r1), .unset, .unset, .unset, .unset, .unset, .unset, .unset, .unset, .unset] [(.int (55296 : Int32)), (.int (12 : Int32)), (.ref b1), (.ref b1)])) rfl rfl (hb hby at_279)
  obtain ⟨T15, h15, L15, X15, e15, V15, N15, K15, st15⟩ := own_putI X14 hx hZ e14 V14 N14 gb K14 sz (13 : Int32) (64976 : Int32) rfl ⟨by decide, by decide⟩ (g := (mkF m 285 #[.val (.int i0), .val (.int i1), .val (.int i2), .val (.int i3), .val (.int i4), .val (.ref r0), .val (.ref r1), .unset, .unset, .unset, .unset, .unset, .unset, .unset, .unset, .unset] [(.int (64976 : Int32)), (.int (13 : Int32)), (.ref b1), (.ref b1)])) rfl rfl (hb hby at_285)
  obtain ⟨T16, h16, L16, X16, e16, V16, N16, K16, st16⟩ := own_putI X15 hx hZ e15 V15 N15 gb K15 sz (14 : Int32) (65534 : Int32) rfl ⟨by decide, by decide⟩ (g := (mkF m 291 #[.val (.int i0), .val (.int i1), .val (.int i2), .val (.int i3), .val (.int i4), .val (.ref r0), .val (.ref r1), .unset, .unset, .unset, .unset, .unset, .unset, .unset, .unset, .unset] [(.int (65534 : Int32)), (.int (14 : Int32)), (.ref b1), (.ref b1)])) rfl rfl (hb hby at_291)
  refine ⟨T16, h16, b1, k1, L16, X16, e16, K16, gb, V16, N16, fun target kt => ?_⟩
  show Steps p.tables e below (T0.setTop (mkF m 197 #[.val (.int i0), .val (.int i1), .val (.int i2), .val (.int i3), .val (.int i4), .val (.ref r0), .val (.ref r1), .unset, .unset, .unset, .unset, .unset, .unset, .unset, .unset, .unset] [])) _
  refine XS.bipush X0.here hx rfl (hb hby at_197) ?_
  show Steps p.tables e below (T0.setTop (mkF m 199 #[.val (.int i0), .val (.int i1), .val (.int i2), .val (.int i3), .val (.int i4), .val (.ref r0), .val (.ref r1), .unset, .unset, .unset, .unset, .unset, .unset, .unset, .unset, .unset] [(.int (15 : Int32))])) _
  refine st1 _ ?_
  show Steps p.tables e below (T1.setTop (mkF m 201 #[.val (.int i0), .val (.int i1), .val (.int i2), .val (.int i3), .val (.int i4), .val (.ref r0), .val (.ref r1), .unset, .unset, .unset, .unset, .unset, .unset, .unset, .unset, .unset] [(.ref b1)])) _
  refine XS.dup X1.here hx rfl (hb hby at_201) rfl rfl ?_
  show Steps p.tables e below (T1.setTop (mkF m 202 #[.val (.int i0), .val (.int i1), .val (.int i2), .val (.int i3), .val (.int i4), .val (.ref r0), .val (.ref r1), .unset, .unset, .unset, .unset, .unset, .unset, .unset, .unset, .unset] [(.ref b1), (.ref b1)])) _
  refine XS.iconst X1.here hx rfl (hb hby at_202) ?_
  show Steps p.tables e below (T1.setTop (mkF m 203 #[.val (.int i0), .val (.int i1), .val (.int i2), .val (.int i3), .val (.int i4), .val (.ref r0), .val (.ref r1), .unset, .unset, .unset, .unset, .unset, .unset, .unset, .unset, .unset] [(.int (0 : Int32)), (.ref b1), (.ref b1)])) _
  refine XS.iconst X1.here hx rfl (hb hby at_203) ?_
  show Steps p.tables e below (T1.setTop (mkF m 204 #[.val (.int i0), .val (.int i1), .val (.int i2), .val (.int i3), .val (.int i4), .val (.ref r0), .val (.ref r1), .unset, .unset, .unset, .unset, .unset, .unset, .unset, .unset, .unset] [(.int (0 : Int32)), (.int (0 : Int32)), (.ref b1), (.ref b1)])) _
  refine st2 _ ?_
  show Steps p.tables e below (T2.setTop (mkF m 205 #[.val (.int i0), .val (.int i1), .val (.int i2), .val (.int i3), .val (.int i4), .val (.ref r0), .val (.ref r1), .unset, .unset, .unset, .unset, .unset, .unset, .unset, .unset, .unset] [(.ref b1)])) _
  refine XS.dup X2.here hx rfl (hb hby at_205) rfl rfl ?_
  show Steps p.tables e below (T2.setTop (mkF m 206 #[.val (.int i0), .val (.int i1), .val (.int i2), .val (.int i3), .val (.int i4), .val (.ref r0), .val (.ref r1), .unset, .unset, .unset, .unset, .unset, .unset, .unset, .unset, .unset] [(.ref b1), (.ref b1)])) _
  refine XS.iconst X2.here hx rfl (hb hby at_206) ?_
  show Steps p.tables e below (T2.setTop (mkF m 207 #[.val (.int i0), .val (.int i1), .val (.int i2), .val (.int i3), .val (.int i4), .val (.ref r0), .val (.ref r1), .unset, .unset, .unset, .unset, .unset, .unset, .unset, .unset, .unset] [(.int (1 : Int32)), (.ref b1), (.ref b1)])) _
  refine XS.bipush X2.here hx rfl (hb hby at_207) ?_
  show Steps p.tables e below (T2.setTop (mkF m 209 #[.val (.int i0), .val (.int i1), .val (.int i2), .val (.int i3), .val (.int i4), .val (.ref r0), .val (.ref r1), .unset, .unset, .unset, .unset, .unset, .unset, .unset, .unset, .unset] [(.int (91 : Int32)), (.int (1 : Int32)), (.ref b1), (.ref b1)])) _
  refine st3 _ ?_
  show Steps p.tables e below (T3.setTop (mkF m 210 #[.val (.int i0), .val (.int i1), .val (.int i2), .val (.int i3), .val (.int i4), .val (.ref r0), .val (.ref r1), .unset, .unset, .unset, .unset, .unset, .unset, .unset, .unset, .unset] [(.ref b1)])) _
  refine XS.dup X3.here hx rfl (hb hby at_210) rfl rfl ?_
  show Steps p.tables e below (T3.setTop (mkF m 211 #[.val (.int i0), .val (.int i1), .val (.int i2), .val (.int i3), .val (.int i4), .val (.ref r0), .val (.ref r1), .unset, .unset, .unset, .unset, .unset, .unset, .unset, .unset, .unset] [(.ref b1), (.ref b1)])) _
  refine XS.iconst X3.here hx rfl (hb hby at_211) ?_
  show Steps p.tables e below (T3.setTop (mkF m 212 #[.val (.int i0), .val (.int i1), .val (.int i2), .val (.int i3), .val (.int i4), .val (.ref r0), .val (.ref r1), .unset, .unset, .unset, .unset, .unset, .unset, .unset, .unset, .unset] [(.int (2 : Int32)), (.ref b1), (.ref b1)])) _
  refine XS.bipush X3.here hx rfl (hb hby at_212) ?_
  show Steps p.tables e below (T3.setTop (mkF m 214 #[.val (.int i0), .val (.int i1), .val (.int i2), .val (.int i3), .val (.int i4), .val (.ref r0), .val (.ref r1), .unset, .unset, .unset, .unset, .unset, .unset, .unset, .unset, .unset] [(.int (96 : Int32)), (.int (2 : Int32)), (.ref b1), (.ref b1)])) _
  refine st4 _ ?_
  show Steps p.tables e below (T4.setTop (mkF m 215 #[.val (.int i0), .val (.int i1), .val (.int i2), .val (.int i3), .val (.int i4), .val (.ref r0), .val (.ref r1), .unset, .unset, .unset, .unset, .unset, .unset, .unset, .unset, .unset] [(.ref b1)])) _
  refine XS.dup X4.here hx rfl (hb hby at_215) rfl rfl ?_
  show Steps p.tables e below (T4.setTop (mkF m 216 #[.val (.int i0), .val (.int i1), .val (.int i2), .val (.int i3), .val (.int i4), .val (.ref r0), .val (.ref r1), .unset, .unset, .unset, .unset, .unset, .unset, .unset, .unset, .unset] [(.ref b1), (.ref b1)])) _
  refine XS.iconst X4.here hx rfl (hb hby at_216) ?_
  show Steps p.tables e below (T4.setTop (mkF m 217 #[.val (.int i0), .val (.int i1), .val (.int i2), .val (.int i3), .val (.int i4), .val (.ref r0), .val (.ref r1), .unset, .unset, .unset, .unset, .unset, .unset, .unset, .unset, .unset] [(.int (3 : Int32)), (.ref b1), (.ref b1)])) _
  refine XS.bipush X4.here hx rfl (hb hby at_217) ?_
  show Steps p.tables e below (T4.setTop (mkF m 219 #[.val (.int i0), .val (.int i1), .val (.int i2), .val (.int i3), .val (.int i4), .val (.ref r0), .val (.ref r1), .unset, .unset, .unset, .unset, .unset, .unset, .unset, .unset, .unset] [(.int (123 : Int32)), (.int (3 : Int32)), (.ref b1), (.ref b1)])) _
  refine st5 _ ?_
  show Steps p.tables e below (T5.setTop (mkF m 220 #[.val (.int i0), .val (.int i1), .val (.int i2), .val (.int i3), .val (.int i4), .val (.ref r0), .val (.ref r1), .unset, .unset, .unset, .unset, .unset, .unset, .unset, .unset, .unset] [(.ref b1)])) _
  refine XS.dup X5.here hx rfl (hb hby at_220) rfl rfl ?_
  show Steps p.tables e below (T5.setTop (mkF m 221 #[.val (.int i0), .val (.int i1), .val (.int i2), .val (.int i3), .val (.int i4), .val (.ref r0), .val (.ref r1), .unset, .unset, .unset, .unset, .unset, .unset, .unset, .unset, .unset] [(.ref b1), (.ref b1)])) _
  refine XS.iconst X5.here hx rfl (hb hby at_221) ?_
  show Steps p.tables e below (T5.setTop (mkF m 222 #[.val (.int i0), .val (.int i1), .val (.int i2), .val (.int i3), .val (.int i4), .val (.ref r0), .val (.ref r1), .unset, .unset, .unset, .unset, .unset, .unset, .unset, .unset, .unset] [(.int (4 : Int32)), (.ref b1), (.ref b1)])) _
  refine XS.sipush X5.here hx rfl (hb hby at_222) ?_
  show Steps p.tables e below (T5.setTop (mkF m 225 #[.val (.int i0), .val (.int i1), .val (.int i2), .val (.int i3), .val (.int i4), .val (.ref r0), .val (.ref r1), .unset, .unset, .unset, .unset, .unset, .unset, .unset, .unset, .unset] [(.int (215 : Int32)), (.int (4 : Int32)), (.ref b1), (.ref b1)])) _
  refine st6 _ ?_
  show Steps p.tables e below (T6.setTop (mkF m 226 #[.val (.int i0), .val (.int i1), .val (.int i2), .val (.int i3), .val (.int i4), .val (.ref r0), .val (.ref r1), .unset, .unset, .unset, .unset, .unset, .unset, .unset, .unset, .unset] [(.ref b1)])) _
  refine XS.dup X6.here hx rfl (hb hby at_226) rfl rfl ?_
  show Steps p.tables e below (T6.setTop (mkF m 227 #[.val (.int i0), .val (.int i1), .val (.int i2), .val (.int i3), .val (.int i4), .val (.ref r0), .val (.ref r1), .unset, .unset, .unset, .unset, .unset, .unset, .unset, .unset, .unset] [(.ref b1), (.ref b1)])) _
  refine XS.iconst X6.here hx rfl (hb hby at_227) ?_
  show Steps p.tables e below (T6.setTop (mkF m 228 #[.val (.int i0), .val (.int i1), .val (.int i2), .val (.int i3), .val (.int i4), .val (.ref r0), .val (.ref r1), .unset, .unset, .unset, .unset, .unset, .unset, .unset, .unset, .unset] [(.int (5 : Int32)), (.ref b1), (.ref b1)])) _
  refine XS.sipush X6.here hx rfl (hb hby at_228) ?_
  show Steps p.tables e below (T6.setTop (mkF m 231 #[.val (.int i0), .val (.int i1), .val (.int i2), .val (.int i3), .val (.int i4), .val (.ref r0), .val (.ref r1), .unset, .unset, .unset, .unset, .unset, .unset, .unset, .unset, .unset] [(.int (247 : Int32)), (.int (5 : Int32)), (.ref b1), (.ref b1)])) _
  refine st7 _ ?_
  show Steps p.tables e below (T7.setTop (mkF m 232 #[.val (.int i0), .val (.int i1), .val (.int i2), .val (.int i3), .val (.int i4), .val (.ref r0), .val (.ref r1), .unset, .unset, .unset, .unset, .unset, .unset, .unset, .unset, .unset] [(.ref b1)])) _
  refine XS.dup X7.here hx rfl (hb hby at_232) rfl rfl ?_
  show Steps p.tables e below (T7.setTop (mkF m 233 #[.val (.int i0), .val (.int i1), .val (.int i2), .val (.int i3), .val (.int i4), .val (.ref r0), .val (.ref r1), .unset, .unset, .unset, .unset, .unset, .unset, .unset, .unset, .unset] [(.ref b1), (.ref b1)])) _
  refine XS.bipush X7.here hx rfl (hb hby at_233) ?_
  show Steps p.tables e below (T7.setTop (mkF m 235 #[.val (.int i0), .val (.int i1), .val (.int i2), .val (.int i3), .val (.int i4), .val (.ref r0), .val (.ref r1), .unset, .unset, .unset, .unset, .unset, .unset, .unset, .unset, .unset] [(.int (6 : Int32)), (.ref b1), (.ref b1)])) _
  refine XS.sipush X7.here hx rfl (hb hby at_235) ?_
  show Steps p.tables e below (T7.setTop (mkF m 238 #[.val (.int i0), .val (.int i1), .val (.int i2), .val (.int i3), .val (.int i4), .val (.ref r0), .val (.ref r1), .unset, .unset, .unset, .unset, .unset, .unset, .unset, .unset, .unset] [(.int (768 : Int32)), (.int (6 : Int32)), (.ref b1), (.ref b1)])) _
  refine st8 _ ?_
  show Steps p.tables e below (T8.setTop (mkF m 239 #[.val (.int i0), .val (.int i1), .val (.int i2), .val (.int i3), .val (.int i4), .val (.ref r0), .val (.ref r1), .unset, .unset, .unset, .unset, .unset, .unset, .unset, .unset, .unset] [(.ref b1)])) _
  refine XS.dup X8.here hx rfl (hb hby at_239) rfl rfl ?_
  show Steps p.tables e below (T8.setTop (mkF m 240 #[.val (.int i0), .val (.int i1), .val (.int i2), .val (.int i3), .val (.int i4), .val (.ref r0), .val (.ref r1), .unset, .unset, .unset, .unset, .unset, .unset, .unset, .unset, .unset] [(.ref b1), (.ref b1)])) _
  refine XS.bipush X8.here hx rfl (hb hby at_240) ?_
  show Steps p.tables e below (T8.setTop (mkF m 242 #[.val (.int i0), .val (.int i1), .val (.int i2), .val (.int i3), .val (.int i4), .val (.ref r0), .val (.ref r1), .unset, .unset, .unset, .unset, .unset, .unset, .unset, .unset, .unset] [(.int (7 : Int32)), (.ref b1), (.ref b1)])) _
  refine XS.sipush X8.here hx rfl (hb hby at_242) ?_
  show Steps p.tables e below (T8.setTop (mkF m 245 #[.val (.int i0), .val (.int i1), .val (.int i2), .val (.int i3), .val (.int i4), .val (.ref r0), .val (.ref r1), .unset, .unset, .unset, .unset, .unset, .unset, .unset, .unset, .unset] [(.int (894 : Int32)), (.int (7 : Int32)), (.ref b1), (.ref b1)])) _
  refine st9 _ ?_
  show Steps p.tables e below (T9.setTop (mkF m 246 #[.val (.int i0), .val (.int i1), .val (.int i2), .val (.int i3), .val (.int i4), .val (.ref r0), .val (.ref r1), .unset, .unset, .unset, .unset, .unset, .unset, .unset, .unset, .unset] [(.ref b1)])) _
  refine XS.dup X9.here hx rfl (hb hby at_246) rfl rfl ?_
  show Steps p.tables e below (T9.setTop (mkF m 247 #[.val (.int i0), .val (.int i1), .val (.int i2), .val (.int i3), .val (.int i4), .val (.ref r0), .val (.ref r1), .unset, .unset, .unset, .unset, .unset, .unset, .unset, .unset, .unset] [(.ref b1), (.ref b1)])) _
  refine XS.bipush X9.here hx rfl (hb hby at_247) ?_
  show Steps p.tables e below (T9.setTop (mkF m 249 #[.val (.int i0), .val (.int i1), .val (.int i2), .val (.int i3), .val (.int i4), .val (.ref r0), .val (.ref r1), .unset, .unset, .unset, .unset, .unset, .unset, .unset, .unset, .unset] [(.int (8 : Int32)), (.ref b1), (.ref b1)])) _
  refine XS.sipush X9.here hx rfl (hb hby at_249) ?_
  show Steps p.tables e below (T9.setTop (mkF m 252 #[.val (.int i0), .val (.int i1), .val (.int i2), .val (.int i3), .val (.int i4), .val (.ref r0), .val (.ref r1), .unset, .unset, .unset, .unset, .unset, .unset, .unset, .unset, .unset] [(.int (8192 : Int32)), (.int (8 : Int32)), (.ref b1), (.ref b1)])) _
  refine st10 _ ?_
  show Steps p.tables e below (T10.setTop (mkF m 253 #[.val (.int i0), .val (.int i1), .val (.int i2), .val (.int i3), .val (.int i4), .val (.ref r0), .val (.ref r1), .unset, .unset, .unset, .unset, .unset, .unset, .unset, .unset, .unset] [(.ref b1)])) _
  refine XS.dup X10.here hx rfl (hb hby at_253) rfl rfl ?_
  show Steps p.tables e below (T10.setTop (mkF m 254 #[.val (.int i0), .val (.int i1), .val (.int i2), .val (.int i3), .val (.int i4), .val (.ref r0), .val (.ref r1), .unset, .unset, .unset, .unset, .unset, .unset, .unset, .unset, .unset] [(.ref b1), (.ref b1)])) _
  refine XS.bipush X10.here hx rfl (hb hby at_254) ?_
  show Steps p.tables e below (T10.setTop (mkF m 256 #[.val (.int i0), .val (.int i1), .val (.int i2), .val (.int i3), .val (.int i4), .val (.ref r0), .val (.ref r1), .unset, .unset, .unset, .unset, .unset, .unset, .unset, .unset, .unset] [(.int (9 : Int32)), (.ref b1), (.ref b1)])) _
  refine XS.sipush X10.here hx rfl (hb hby at_256) ?_
  show Steps p.tables e below (T10.setTop (mkF m 259 #[.val (.int i0), .val (.int i1), .val (.int i2), .val (.int i3), .val (.int i4), .val (.ref r0), .val (.ref r1), .unset, .unset, .unset, .unset, .unset, .unset, .unset, .unset, .unset] [(.int (8206 : Int32)), (.int (9 : Int32)), (.ref b1), (.ref b1)])) _
  refine st11 _ ?_
  show Steps p.tables e below (T11.setTop (mkF m 260 #[.val (.int i0), .val (.int i1), .val (.int i2), .val (.int i3), .val (.int i4), .val (.ref r0), .val (.ref r1), .unset, .unset, .unset, .unset, .unset, .unset, .unset, .unset, .unset] [(.ref b1)])) _
  refine XS.dup X11.here hx rfl (hb hby at_260) rfl rfl ?_
  show Steps p.tables e below (T11.setTop (mkF m 261 #[.val (.int i0), .val (.int i1), .val (.int i2), .val (.int i3), .val (.int i4), .val (.ref r0), .val (.ref r1), .unset, .unset, .unset, .unset, .unset, .unset, .unset, .unset, .unset] [(.ref b1), (.ref b1)])) _
  refine XS.bipush X11.here hx rfl (hb hby at_261) ?_
  show Steps p.tables e below (T11.setTop (mkF m 263 #[.val (.int i0), .val (.int i1), .val (.int i2), .val (.int i3), .val (.int i4), .val (.ref r0), .val (.ref r1), .unset, .unset, .unset, .unset, .unset, .unset, .unset, .unset, .unset] [(.int (10 : Int32)), (.ref b1), (.ref b1)])) _
  refine XS.sipush X11.here hx rfl (hb hby at_263) ?_
  show Steps p.tables e below (T11.setTop (mkF m 266 #[.val (.int i0), .val (.int i1), .val (.int i2), .val (.int i3), .val (.int i4), .val (.ref r0), .val (.ref r1), .unset, .unset, .unset, .unset, .unset, .unset, .unset, .unset, .unset] [(.int (8592 : Int32)), (.int (10 : Int32)), (.ref b1), (.ref b1)])) _
  refine st12 _ ?_
  show Steps p.tables e below (T12.setTop (mkF m 267 #[.val (.int i0), .val (.int i1), .val (.int i2), .val (.int i3), .val (.int i4), .val (.ref r0), .val (.ref r1), .unset, .unset, .unset, .unset, .unset, .unset, .unset, .unset, .unset] [(.ref b1)])) _
  refine XS.dup X12.here hx rfl (hb hby at_267) rfl rfl ?_
  show Steps p.tables e below (T12.setTop (mkF m 268 #[.val (.int i0), .val (.int i1), .val (.int i2), .val (.int i3), .val (.int i4), .val (.ref r0), .val (.ref r1), .unset, .unset, .unset, .unset, .unset, .unset, .unset, .unset, .unset] [(.ref b1), (.ref b1)])) _
  refine XS.bipush X12.here hx rfl (hb hby at_268) ?_
  show Steps p.tables e below (T12.setTop (mkF m 270 #[.val (.int i0), .val (.int i1), .val (.int i2), .val (.int i3), .val (.int i4), .val (.ref r0), .val (.ref r1), .unset, .unset, .unset, .unset, .unset, .unset, .unset, .unset, .unset] [(.int (11 : Int32)), (.ref b1), (.ref b1)])) _
  refine XS.sipush X12.here hx rfl (hb hby at_270) ?_
  show Steps p.tables e below (T12.setTop (mkF m 273 #[.val (.int i0), .val (.int i1), .val (.int i2), .val (.int i3), .val (.int i4), .val (.ref r0), .val (.ref r1), .unset, .unset, .unset, .unset, .unset, .unset, .unset, .unset, .unset] [(.int (12272 : Int32)), (.int (11 : Int32)), (.ref b1), (.ref b1)])) _
  refine st13 _ ?_
  show Steps p.tables e below (T13.setTop (mkF m 274 #[.val (.int i0), .val (.int i1), .val (.int i2), .val (.int i3), .val (.int i4), .val (.ref r0), .val (.ref r1), .unset, .unset, .unset, .unset, .unset, .unset, .unset, .unset, .unset] [(.ref b1)])) _
  refine XS.dup X13.here hx rfl (hb hby at_274) rfl rfl ?_
  show Steps p.tables e below (T13.setTop (mkF m 275 #[.val (.int i0), .val (.int i1), .val (.int i2), .val (.int i3), .val (.int i4), .val (.ref r0), .val (.ref r1), .unset, .unset, .unset, .unset, .unset, .unset, .unset, .unset, .unset] [(.ref b1), (.ref b1)])) _
  refine XS.bipush X13.here hx rfl (hb hby at_275) ?_
  show Steps p.tables e below (T13.setTop (mkF m 277 #[.val (.int i0), .val (.int i1), .val (.int i2), .val (.int i3), .val (.int i4), .val (.ref r0), .val (.ref r1), .unset, .unset, .unset, .unset, .unset, .unset, .unset, .unset, .unset] [(.int (12 : Int32)), (.ref b1), (.ref b1)])) _
  refine X13.ldcInt hx hown (mvT hZ (hw _ (List.mem_of_getElem? (i := 8) rfl))) (g := (mkF m 277 #[.val (.int i0), .val (.int i1), .val (.int i2), .val (.int i3), .val (.int i4), .val (.ref r0), .val (.ref r1), .unset, .unset, .unset, .unset, .unset, .unset, .unset, .unset, .unset] [(.int (12 : Int32)), (.ref b1), (.ref b1)])) rfl (hb hby at_277) _ ?_
  show Steps p.tables e below (T13.setTop (mkF m 279 #[.val (.int i0), .val (.int i1), .val (.int i2), .val (.int i3), .val (.int i4), .val (.ref r0), .val (.ref r1), .unset, .unset, .unset, .unset, .unset, .unset, .unset, .unset, .unset] [(.int (55296 : Int32)), (.int (12 : Int32)), (.ref b1), (.ref b1)])) _
  refine st14 _ ?_
  show Steps p.tables e below (T14.setTop (mkF m 280 #[.val (.int i0), .val (.int i1), .val (.int i2), .val (.int i3), .val (.int i4), .val (.ref r0), .val (.ref r1), .unset, .unset, .unset, .unset, .unset, .unset, .unset, .unset, .unset] [(.ref b1)])) _
  refine XS.dup X14.here hx rfl (hb hby at_280) rfl rfl ?_
  show Steps p.tables e below (T14.setTop (mkF m 281 #[.val (.int i0), .val (.int i1), .val (.int i2), .val (.int i3), .val (.int i4), .val (.ref r0), .val (.ref r1), .unset, .unset, .unset, .unset, .unset, .unset, .unset, .unset, .unset] [(.ref b1), (.ref b1)])) _
  refine XS.bipush X14.here hx rfl (hb hby at_281) ?_
  show Steps p.tables e below (T14.setTop (mkF m 283 #[.val (.int i0), .val (.int i1), .val (.int i2), .val (.int i3), .val (.int i4), .val (.ref r0), .val (.ref r1), .unset, .unset, .unset, .unset, .unset, .unset, .unset, .unset, .unset] [(.int (13 : Int32)), (.ref b1), (.ref b1)])) _
  refine X14.ldcInt hx hown (mvT hZ (hw _ (List.mem_of_getElem? (i := 9) rfl))) (g := (mkF m 283 #[.val (.int i0), .val (.int i1), .val (.int i2), .val (.int i3), .val (.int i4), .val (.ref r0), .val (.ref r1), .unset, .unset, .unset, .unset, .unset, .unset, .unset, .unset, .unset] [(.int (13 : Int32)), (.ref b1), (.ref b1)])) rfl (hb hby at_283) _ ?_
  show Steps p.tables e below (T14.setTop (mkF m 285 #[.val (.int i0), .val (.int i1), .val (.int i2), .val (.int i3), .val (.int i4), .val (.ref r0), .val (.ref r1), .unset, .unset, .unset, .unset, .unset, .unset, .unset, .unset, .unset] [(.int (64976 : Int32)), (.int (13 : Int32)), (.ref b1), (.ref b1)])) _
  refine st15 _ ?_
  show Steps p.tables e below (T15.setTop (mkF m 286 #[.val (.int i0), .val (.int i1), .val (.int i2), .val (.int i3), .val (.int i4), .val (.ref r0), .val (.ref r1), .unset, .unset, .unset, .unset, .unset, .unset, .unset, .unset, .unset] [(.ref b1)])) _
  refine XS.dup X15.here hx rfl (hb hby at_286) rfl rfl ?_
  show Steps p.tables e below (T15.setTop (mkF m 287 #[.val (.int i0), .val (.int i1), .val (.int i2), .val (.int i3), .val (.int i4), .val (.ref r0), .val (.ref r1), .unset, .unset, .unset, .unset, .unset, .unset, .unset, .unset, .unset] [(.ref b1), (.ref b1)])) _
  refine XS.bipush X15.here hx rfl (hb hby at_287) ?_
  show Steps p.tables e below (T15.setTop (mkF m 289 #[.val (.int i0), .val (.int i1), .val (.int i2), .val (.int i3), .val (.int i4), .val (.ref r0), .val (.ref r1), .unset, .unset, .unset, .unset, .unset, .unset, .unset, .unset, .unset] [(.int (14 : Int32)), (.ref b1), (.ref b1)])) _
  refine X15.ldcInt hx hown (mvT hZ (hw _ (List.mem_of_getElem? (i := 10) rfl))) (g := (mkF m 289 #[.val (.int i0), .val (.int i1), .val (.int i2), .val (.int i3), .val (.int i4), .val (.ref r0), .val (.ref r1), .unset, .unset, .unset, .unset, .unset, .unset, .unset, .unset, .unset] [(.int (14 : Int32)), (.ref b1), (.ref b1)])) rfl (hb hby at_289) _ ?_
  show Steps p.tables e below (T15.setTop (mkF m 291 #[.val (.int i0), .val (.int i1), .val (.int i2), .val (.int i3), .val (.int i4), .val (.ref r0), .val (.ref r1), .unset, .unset, .unset, .unset, .unset, .unset, .unset, .unset, .unset] [(.int (65534 : Int32)), (.int (14 : Int32)), (.ref b1), (.ref b1)])) _
  refine st16 _ ?_
  show Steps p.tables e below (T16.setTop (mkF m 292 #[.val (.int i0), .val (.int i1), .val (.int i2), .val (.int i3), .val (.int i4), .val (.ref r0), .val (.ref r1), .unset, .unset, .unset, .unset, .unset, .unset, .unset, .unset, .unset] [(.ref b1)])) _
  refine XS.astore X16.here hx rfl (hb hby at_292) rfl rfl (l' := #[.val (.int i0), .val (.int i1), .val (.int i2), .val (.int i3), .val (.int i4), .val (.ref r0), .val (.ref r1), .val (.ref b1), .unset, .unset, .unset, .unset, .unset, .unset, .unset, .unset]) rfl ?_
  exact kt
def own_vals3 : List Int32 := [64, 94, 96, 191, 215, 247, 879, 894, 8203, 8303, 11263, 12288, 63743, 65007, 65535]
set_option maxRecDepth 65536 in
set_option maxHeartbeats 40000000 in
theorem ar3 {p : Program} {l : Launch} {e : Env} {s : State} {m : MethodId} {args : Array Value} {below : List Frame} {meth : Method} {c : Code} {T0 : State} {locs : List Loc} {Z : State} {a0 : Array Value} {h0 : Heap} {n0 : Nat} (i0 : Int32) (i1 : Int32) (i2 : Int32) (i3 : Int32) (i4 : Int32) (r0 : Addr) (r1 : Addr) (r2 : Addr) (X0 : Stand p l e room_1 s m args below meth c T0 locs 3 45) (hx : p.tables.exec = Jvm.exec) (hZ : Z.Warmed39 s.vm) (hw : ∀ d ∈ tables_1, d.before a0 Z = true) (hby : c.code = code) (hown : s.vm.findClass "com/example/reshape/reshape/tree/XmlNamesIsNameStartCharPinLaw" = some m.cls) (e0 : T0.heap = h0) (N0 : Fr n0 locs) (Z0 : n0 ≤ h0.size) :
    ∃ (T' : State) (h' : Heap) (b1 : Addr) (k1 : ClassId) (locs' : List Loc), Stand p l e room_1 s m args below meth c T' locs' 4 60 ∧ T'.heap = h' ∧ Keep h0 h' [] ∧ n0 ≤ b1 ∧ Arv Z h' b1 k1 .int (15 : Int32) (own_vals3.map Value.int) (.int 0) ∧ Fr n0 locs' ∧
      ∀ target, Steps p.tables e below (T'.setTop (mkF m 393 #[.val (.int i0), .val (.int i1), .val (.int i2), .val (.int i3), .val (.int i4), .val (.ref r0), .val (.ref r1), .val (.ref r2), .val (.ref b1), .unset, .unset, .unset, .unset, .unset, .unset, .unset] [])) target → Steps p.tables e below (T0.setTop (mkF m 294 #[.val (.int i0), .val (.int i1), .val (.int i2), .val (.int i3), .val (.int i4), .val (.ref r0), .val (.ref r1), .val (.ref r2), .unset, .unset, .unset, .unset, .unset, .unset, .unset, .unset] [])) target := by
  obtain ⟨T1, h1, k1, X1, e1, E1, A1, st1⟩ := newP X0 hx hZ (hw _ (List.mem_of_getElem? (i := 0) rfl)) e0 (g := (mkF m 296 #[.val (.int i0), .val (.int i1), .val (.int i2), .val (.int i3), .val (.int i4), .val (.ref r0), .val (.ref r1), .val (.ref r2), .unset, .unset, .unset, .unset, .unset, .unset, .unset, .unset] [(.int (15 : Int32))])) rfl (hb hby at_296) rfl (by decide) (cap := 15) (by decide) (by decide) (by decide) (by decide)
  obtain ⟨b1, g1⟩ : ∃ z, z = h0.size := ⟨_, rfl⟩
  rw [← g1] at A1 st1
  have gb : n0 ≤ b1 := Nat.le_trans Z0 (Nat.le_of_eq g1.symm)
  have sz : h0.size ≤ b1 := Nat.le_of_eq g1.symm
  have K1 : Keep h0 h1 [] := (Keep.refl h0 []).ext E1
  have V1 : Arv Z h1 b1 k1 .int (15 : Int32) (([] : List Int32).map Value.int) (.int 0) := Arv.new A1 (by decide)
  have N1 := N0
  obtain ⟨T2, h2, L2, X2, e2, V2, N2, K2, st2⟩ := own_putI X1 hx hZ e1 V1 N1 gb K1 sz (0 : Int32) (64 : Int32) rfl ⟨by decide, by decide⟩ (g := (mkF m 302 #[.val (.int i0), .val (.int i1), .val (.int i2), .val (.int i3), .val (.int i4), .val (.ref r0), .val (.ref r1), .val (.ref r2), .unset, .unset, .unset, .unset, .unset, .unset, .unset, .unset] [(.int (64 : Int32)), (.int (0 : Int32)), (.ref b1), (.ref b1)])) rfl rfl (hb hby at_302)
  obtain ⟨T3, h3, L3, X3, e3, V3, N3, K3, st3⟩ := own_putI X2 hx hZ e2 V2 N2 gb K2 sz (1 : Int32) (94 : Int32) rfl ⟨by decide, by decide⟩ (g := (mkF m 307 #[.val (.int i0), .val (.int i1), .val (.int i2), .val (.int i3), .val (.int i4), .val (.ref r0), .val (.ref r1), .val (.ref r2), .unset, .unset, .unset, .unset, .unset, .unset, .unset, .unset] [(.int (94 : Int32)), (.int (1 : Int32)), (.ref b1), (.ref b1)])) rfl rfl (hb hby at_307)
  obtain ⟨T4, h4, L4, X4, e4, V4, N4, K4, st4⟩ := own_putI X3 hx hZ e3 V3 N3 gb K3 sz (2 : Int32) (96 : Int32) rfl ⟨by decide, by decide⟩ (g := (mkF m 312 #[.val (.int i0), .val (.int i1), .val (.int i2), .val (.int i3), .val (.int i4), .val (.ref r0), .val (.ref r1), .val (.ref r2), .unset, .unset, .unset, .unset, .unset, .unset, .unset, .unset] [(.int (96 : Int32)), (.int (2 : Int32)), (.ref b1), (.ref b1)])) rfl rfl (hb hby at_312)
  obtain ⟨T5, h5, L5, X5, e5, V5, N5, K5, st5⟩ := own_putI X4 hx hZ e4 V4 N4 gb K4 sz (3 : Int32) (191 : Int32) rfl ⟨by decide, by decide⟩ (g := (mkF m 318 #[.val (.int i0), .val (.int i1), .val (.int i2), .val (.int i3), .val (.int i4), .val (.ref r0), .val (.ref r1), .val (.ref r2), .unset, .unset, .unset, .unset, .unset, .unset, .unset, .unset] [(.int (191 : Int32)), (.int (3 : Int32)), (.ref b1), (.ref b1)])) rfl rfl (hb hby at_318)
  obtain ⟨T6, h6, L6, X6, e6, V6, N6, K6, st6⟩ := own_putI X5 hx hZ e5 V5 N5 gb K5 sz (4 : Int32) (215 : Int32) rfl ⟨by decide, by decide⟩ (g := (mkF m 324 #[.val (.int i0), .val (.int i1), .val (.int i2), .val (.int i3), .val (.int i4), .val (.ref r0), .val (.ref r1), .val (.ref r2), .unset, .unset, .unset, .unset, .unset, .unset, .unset, .unset] [(.int (215 : Int32)), (.int (4 : Int32)), (.ref b1), (.ref b1)])) rfl rfl (hb hby at_324)
  obtain ⟨T7, h7, L7, X7, e7, V7, N7, K7, st7⟩ := own_putI X6 hx hZ e6 V6 N6 gb K6 sz (5 : Int32) (247 : Int32) rfl ⟨by decide, by decide⟩ (g := (mkF m 330 #[.val (.int i0), .val (.int i1), .val (.int i2), .val (.int i3), .val (.int i4), .val (.ref r0), .val (.ref r1), .val (.ref r2), .unset, .unset, .unset, .unset, .unset, .unset, .unset, .unset] [(.int (247 : Int32)), (.int (5 : Int32)), (.ref b1), (.ref b1)])) rfl rfl (hb hby at_330)
  obtain ⟨T8, h8, L8, X8, e8, V8, N8, K8, st8⟩ := own_putI X7 hx hZ e7 V7 N7 gb K7 sz (6 : Int32) (879 : Int32) rfl ⟨by decide, by decide⟩ (g := (mkF m 337 #[.val (.int i0), .val (.int i1), .val (.int i2), .val (.int i3), .val (.int i4), .val (.ref r0), .val (.ref r1), .val (.ref r2), .unset, .unset, .unset, .unset, .unset, .unset, .unset, .unset] [(.int (879 : Int32)), (.int (6 : Int32)), (.ref b1), (.ref b1)])) rfl rfl (hb hby at_337)
  obtain ⟨T9, h9, L9, X9, e9, V9, N9, K9, st9⟩ := own_putI X8 hx hZ e8 V8 N8 gb K8 sz (7 : Int32) (894 : Int32) rfl ⟨by decide, by decide⟩ (g := (mkF m 344 #[.val (.int i0), .val (.int i1), .val (.int i2), .val (.int i3), .val (.int i4), .val (.ref r0), .val (.ref r1), .val (.ref r2), .unset, .unset, .unset, .unset, .unset, .unset, .unset, .unset] [(.int (894 : Int32)), (.int (7 : Int32)), (.ref b1), (.ref b1)])) rfl rfl (hb hby at_344)
  obtain ⟨T10, h10, L10, X10, e10, V10, N10, K10, st10⟩ := own_putI X9 hx hZ e9 V9 N9 gb K9 sz (8 : Int32) (8203 : Int32) rfl ⟨by decide, by decide⟩ (g := (mkF m 351 #[.val (.int i0), .val (.int i1), .val (.int i2), .val (.int i3), .val (.int i4), .val (.ref r0), .val (.ref r1), .val (.ref r2), .unset, .unset, .unset, .unset, .unset, .unset, .unset, .unset] [(.int (8203 : Int32)), (.int (8 : Int32)), (.ref b1), (.ref b1)])) rfl rfl (hb hby at_351)
  obtain ⟨T11, h11, L11, X11, e11, V11, N11, K11, st11⟩ := own_putI X10 hx hZ e10 V10 N10 gb K10 sz (9 : Int32) (8303 : Int32) rfl ⟨by decide, by decide⟩ (g := (mkF m 358 #[.val (.int i0), .val (.int i1), .val (.int i2), .val (.int i3), .val (.int i4), .val (.ref r0), .val (.ref r1), .val (.ref r2), .unset, .unset, .unset, .unset, .unset, .unset, .unset, .unset] [(.int (8303 : Int32)), (.int (9 : Int32)), (.ref b1), (.ref b1)])) rfl rfl (hb hby at_358)
  obtain ⟨T12, h12, L12, X12, e12, V12, N12, K12, st12⟩ := own_putI X11 hx hZ e11 V11 N11 gb K11 sz (10 : Int32) (11263 : Int32) rfl ⟨by decide, by decide⟩ (g := (mkF m 365 #[.val (.int i0), .val (.int i1), .val (.int i2), .val (.int i3), .val (.int i4), .val (.ref r0), .val (.ref r1), .val (.ref r2), .unset, .unset, .unset, .unset, .unset, .unset, .unset, .unset] [(.int (11263 : Int32)), (.int (10 : Int32)), (.ref b1), (.ref b1)])) rfl rfl (hb hby at_365)
  obtain ⟨T13, h13, L13, X13, e13, V13, N13, K13, st13⟩ := own_putI X12 hx hZ e12 V12 N12 gb K12 sz (11 : Int32) (12288 : Int32) rfl ⟨by decide, by decide⟩ (g := (mkF m 372 #[.val (.int i0), .val (.int i1), .val (.int i2), .val (.int i3), .val (.int i4), .val (.ref r0), .val (.ref r1), .val (.ref r2), .unset, .unset, .unset, .unset, .unset, .unset, .unset, .unset] [(.int (12288 : Int32)), (.int (11 : Int32)), (.ref b1), (.ref b1)])) rfl rfl (hb hby at_372)
  obtain ⟨T14, h14, L14, X14, e14, V14, N14, K14, st14⟩ := own_putI X13 hx hZ e13 V13 N13 gb K13 sz (12 : Int32) (63743 : Int32) rfl ⟨by decide, by decide⟩ (g := (mkF m 378 #[.val (.int i0), .val (.int i1), .val (.int i2), .val (.int i3), .val (.int i4), .val (.ref r0), .val (.ref r1), .val (.ref r2), .unset, .unset, .unset, .unset, .unset, .unset, .unset, .unset] [(.int (63743 : Int32)), (.int (12 : Int32)), (.ref b1), (.ref b1)])) rfl rfl (hb hby at_378)
  obtain ⟨T15, h15, L15, X15, e15, V15, N15, K15, st15⟩ := own_putI X14 hx hZ e14 V14 N14 gb K14 sz (13 : Int32) (65007 : Int32) rfl ⟨by decide, by decide⟩ (g := (mkF m 384 #[.val (.int i0), .val (.int i1), .val (.int i2), .val (.int i3), .val (.int i4), .val (.ref r0), .val (.ref r1), .val (.ref r2), .unset, .unset, .unset, .unset, .unset, .unset, .unset, .unset] [(.int (65007 : Int32)), (.int (13 : Int32)), (.ref b1), (.ref b1)])) rfl rfl (hb hby at_384)
  obtain ⟨T16, h16, L16, X16, e16, V16, N16, K16, st16⟩ := own_putI X15 hx hZ e15 V15 N15 gb K15 sz (14 : Int32) (65535 : Int32) rfl ⟨by decide, by decide⟩ (g := (mkF m 390 #[.val (.int i0), .val (.int i1), .val (.int i2), .val (.int i3), .val (.int i4), .val (.ref r0), .val (.ref r1), .val (.ref r2), .unset, .unset, .unset, .unset, .unset, .unset, .unset, .unset] [(.int (65535 : Int32)), (.int (14 : Int32)), (.ref b1), (.ref b1)])) rfl rfl (hb hby at_390)
  refine ⟨T16, h16, b1, k1, L16, X16, e16, K16, gb, V16, N16, fun target kt => ?_⟩
  show Steps p.tables e below (T0.setTop (mkF m 294 #[.val (.int i0), .val (.int i1), .val (.int i2), .val (.int i3), .val (.int i4), .val (.ref r0), .val (.ref r1), .val (.ref r2), .unset, .unset, .unset, .unset, .unset, .unset, .unset, .unset] [])) _
  refine XS.bipush X0.here hx rfl (hb hby at_294) ?_
  show Steps p.tables e below (T0.setTop (mkF m 296 #[.val (.int i0), .val (.int i1), .val (.int i2), .val (.int i3), .val (.int i4), .val (.ref r0), .val (.ref r1), .val (.ref r2), .unset, .unset, .unset, .unset, .unset, .unset, .unset, .unset] [(.int (15 : Int32))])) _
  refine st1 _ ?_
  show Steps p.tables e below (T1.setTop (mkF m 298 #[.val (.int i0), .val (.int i1), .val (.int i2), .val (.int i3), .val (.int i4), .val (.ref r0), .val (.ref r1), .val (.ref r2), .unset, .unset, .unset, .unset, .unset, .unset, .unset, .unset] [(.ref b1)])) _
  refine XS.dup X1.here hx rfl (hb hby at_298) rfl rfl ?_
  show Steps p.tables e below (T1.setTop (mkF m 299 #[.val (.int i0), .val (.int i1), .val (.int i2), .val (.int i3), .val (.int i4), .val (.ref r0), .val (.ref r1), .val (.ref r2), .unset, .unset, .unset, .unset, .unset, .unset, .unset, .unset] [(.ref b1), (.ref b1)])) _
  refine XS.iconst X1.here hx rfl (hb hby at_299) ?_
  show Steps p.tables e below (T1.setTop (mkF m 300 #[.val (.int i0), .val (.int i1), .val (.int i2), .val (.int i3), .val (.int i4), .val (.ref r0), .val (.ref r1), .val (.ref r2), .unset, .unset, .unset, .unset, .unset, .unset, .unset, .unset] [(.int (0 : Int32)), (.ref b1), (.ref b1)])) _
  refine XS.bipush X1.here hx rfl (hb hby at_300) ?_
  show Steps p.tables e below (T1.setTop (mkF m 302 #[.val (.int i0), .val (.int i1), .val (.int i2), .val (.int i3), .val (.int i4), .val (.ref r0), .val (.ref r1), .val (.ref r2), .unset, .unset, .unset, .unset, .unset, .unset, .unset, .unset] [(.int (64 : Int32)), (.int (0 : Int32)), (.ref b1), (.ref b1)])) _
  refine st2 _ ?_
  show Steps p.tables e below (T2.setTop (mkF m 303 #[.val (.int i0), .val (.int i1), .val (.int i2), .val (.int i3), .val (.int i4), .val (.ref r0), .val (.ref r1), .val (.ref r2), .unset, .unset, .unset, .unset, .unset, .unset, .unset, .unset] [(.ref b1)])) _
  refine XS.dup X2.here hx rfl (hb hby at_303) rfl rfl ?_
  show Steps p.tables e below (T2.setTop (mkF m 304 #[.val (.int i0), .val (.int i1), .val (.int i2), .val (.int i3), .val (.int i4), .val (.ref r0), .val (.ref r1), .val (.ref r2), .unset, .unset, .unset, .unset, .unset, .unset, .unset, .unset] [(.ref b1), (.ref b1)])) _
  refine XS.iconst X2.here hx rfl (hb hby at_304) ?_
  show Steps p.tables e below (T2.setTop (mkF m 305 #[.val (.int i0), .val (.int i1), .val (.int i2), .val (.int i3), .val (.int i4), .val (.ref r0), .val (.ref r1), .val (.ref r2), .unset, .unset, .unset, .unset, .unset, .unset, .unset, .unset] [(.int (1 : Int32)), (.ref b1), (.ref b1)])) _
  refine XS.bipush X2.here hx rfl (hb hby at_305) ?_
  show Steps p.tables e below (T2.setTop (mkF m 307 #[.val (.int i0), .val (.int i1), .val (.int i2), .val (.int i3), .val (.int i4), .val (.ref r0), .val (.ref r1), .val (.ref r2), .unset, .unset, .unset, .unset, .unset, .unset, .unset, .unset] [(.int (94 : Int32)), (.int (1 : Int32)), (.ref b1), (.ref b1)])) _
  refine st3 _ ?_
  show Steps p.tables e below (T3.setTop (mkF m 308 #[.val (.int i0), .val (.int i1), .val (.int i2), .val (.int i3), .val (.int i4), .val (.ref r0), .val (.ref r1), .val (.ref r2), .unset, .unset, .unset, .unset, .unset, .unset, .unset, .unset] [(.ref b1)])) _
  refine XS.dup X3.here hx rfl (hb hby at_308) rfl rfl ?_
  show Steps p.tables e below (T3.setTop (mkF m 309 #[.val (.int i0), .val (.int i1), .val (.int i2), .val (.int i3), .val (.int i4), .val (.ref r0), .val (.ref r1), .val (.ref r2), .unset, .unset, .unset, .unset, .unset, .unset, .unset, .unset] [(.ref b1), (.ref b1)])) _
  refine XS.iconst X3.here hx rfl (hb hby at_309) ?_
  show Steps p.tables e below (T3.setTop (mkF m 310 #[.val (.int i0), .val (.int i1), .val (.int i2), .val (.int i3), .val (.int i4), .val (.ref r0), .val (.ref r1), .val (.ref r2), .unset, .unset, .unset, .unset, .unset, .unset, .unset, .unset] [(.int (2 : Int32)), (.ref b1), (.ref b1)])) _
  refine XS.bipush X3.here hx rfl (hb hby at_310) ?_
  show Steps p.tables e below (T3.setTop (mkF m 312 #[.val (.int i0), .val (.int i1), .val (.int i2), .val (.int i3), .val (.int i4), .val (.ref r0), .val (.ref r1), .val (.ref r2), .unset, .unset, .unset, .unset, .unset, .unset, .unset, .unset] [(.int (96 : Int32)), (.int (2 : Int32)), (.ref b1), (.ref b1)])) _
  refine st4 _ ?_
  show Steps p.tables e below (T4.setTop (mkF m 313 #[.val (.int i0), .val (.int i1), .val (.int i2), .val (.int i3), .val (.int i4), .val (.ref r0), .val (.ref r1), .val (.ref r2), .unset, .unset, .unset, .unset, .unset, .unset, .unset, .unset] [(.ref b1)])) _
  refine XS.dup X4.here hx rfl (hb hby at_313) rfl rfl ?_
  show Steps p.tables e below (T4.setTop (mkF m 314 #[.val (.int i0), .val (.int i1), .val (.int i2), .val (.int i3), .val (.int i4), .val (.ref r0), .val (.ref r1), .val (.ref r2), .unset, .unset, .unset, .unset, .unset, .unset, .unset, .unset] [(.ref b1), (.ref b1)])) _
  refine XS.iconst X4.here hx rfl (hb hby at_314) ?_
  show Steps p.tables e below (T4.setTop (mkF m 315 #[.val (.int i0), .val (.int i1), .val (.int i2), .val (.int i3), .val (.int i4), .val (.ref r0), .val (.ref r1), .val (.ref r2), .unset, .unset, .unset, .unset, .unset, .unset, .unset, .unset] [(.int (3 : Int32)), (.ref b1), (.ref b1)])) _
  refine XS.sipush X4.here hx rfl (hb hby at_315) ?_
  show Steps p.tables e below (T4.setTop (mkF m 318 #[.val (.int i0), .val (.int i1), .val (.int i2), .val (.int i3), .val (.int i4), .val (.ref r0), .val (.ref r1), .val (.ref r2), .unset, .unset, .unset, .unset, .unset, .unset, .unset, .unset] [(.int (191 : Int32)), (.int (3 : Int32)), (.ref b1), (.ref b1)])) _
  refine st5 _ ?_
  show Steps p.tables e below (T5.setTop (mkF m 319 #[.val (.int i0), .val (.int i1), .val (.int i2), .val (.int i3), .val (.int i4), .val (.ref r0), .val (.ref r1), .val (.ref r2), .unset, .unset, .unset, .unset, .unset, .unset, .unset, .unset] [(.ref b1)])) _
  refine XS.dup X5.here hx rfl (hb hby at_319) rfl rfl ?_
  show Steps p.tables e below (T5.setTop (mkF m 320 #[.val (.int i0), .val (.int i1), .val (.int i2), .val (.int i3), .val (.int i4), .val (.ref r0), .val (.ref r1), .val (.ref r2), .unset, .unset, .unset, .unset, .unset, .unset, .unset, .unset] [(.ref b1), (.ref b1)])) _
  refine XS.iconst X5.here hx rfl (hb hby at_320) ?_
  show Steps p.tables e below (T5.setTop (mkF m 321 #[.val (.int i0), .val (.int i1), .val (.int i2), .val (.int i3), .val (.int i4), .val (.ref r0), .val (.ref r1), .val (.ref r2), .unset, .unset, .unset, .unset, .unset, .unset, .unset, .unset] [(.int (4 : Int32)), (.ref b1), (.ref b1)])) _
  refine XS.sipush X5.here hx rfl (hb hby at_321) ?_
  show Steps p.tables e below (T5.setTop (mkF m 324 #[.val (.int i0), .val (.int i1), .val (.int i2), .val (.int i3), .val (.int i4), .val (.ref r0), .val (.ref r1), .val (.ref r2), .unset, .unset, .unset, .unset, .unset, .unset, .unset, .unset] [(.int (215 : Int32)), (.int (4 : Int32)), (.ref b1), (.ref b1)])) _
  refine st6 _ ?_
  show Steps p.tables e below (T6.setTop (mkF m 325 #[.val (.int i0), .val (.int i1), .val (.int i2), .val (.int i3), .val (.int i4), .val (.ref r0), .val (.ref r1), .val (.ref r2), .unset, .unset, .unset, .unset, .unset, .unset, .unset, .unset] [(.ref b1)])) _
  refine XS.dup X6.here hx rfl (hb hby at_325) rfl rfl ?_
  show Steps p.tables e below (T6.setTop (mkF m 326 #[.val (.int i0), .val (.int i1), .val (.int i2), .val (.int i3), .val (.int i4), .val (.ref r0), .val (.ref r1), .val (.ref r2), .unset, .unset, .unset, .unset, .unset, .unset, .unset, .unset] [(.ref b1), (.ref b1)])) _
  refine XS.iconst X6.here hx rfl (hb hby at_326) ?_
  show Steps p.tables e below (T6.setTop (mkF m 327 #[.val (.int i0), .val (.int i1), .val (.int i2), .val (.int i3), .val (.int i4), .val (.ref r0), .val (.ref r1), .val (.ref r2), .unset, .unset, .unset, .unset, .unset, .unset, .unset, .unset] [(.int (5 : Int32)), (.ref b1), (.ref b1)])) _
  refine XS.sipush X6.here hx rfl (hb hby at_327) ?_
  show Steps p.tables e below (T6.setTop (mkF m 330 #[.val (.int i0), .val (.int i1), .val (.int i2), .val (.int i3), .val (.int i4), .val (.ref r0), .val (.ref r1), .val (.ref r2), .unset, .unset, .unset, .unset, .unset, .unset, .unset, .unset] [(.int (247 : Int32)), (.int (5 : Int32)), (.ref b1), (.ref b1)])) _
  refine st7 _ ?_
  show Steps p.tables e below (T7.setTop (mkF m 331 #[.val (.int i0), .val (.int i1), .val (.int i2), .val (.int i3), .val (.int i4), .val (.ref r0), .val (.ref r1), .val (.ref r2), .unset, .unset, .unset, .unset, .unset, .unset, .unset, .unset] [(.ref b1)])) _
  refine XS.dup X7.here hx rfl (hb hby at_331) rfl rfl ?_
  show Steps p.tables e below (T7.setTop (mkF m 332 #[.val (.int i0), .val (.int i1), .val (.int i2), .val (.int i3), .val (.int i4), .val (.ref r0), .val (.ref r1), .val (.ref r2), .unset, .unset, .unset, .unset, .unset, .unset, .unset, .unset] [(.ref b1), (.ref b1)])) _
  refine XS.bipush X7.here hx rfl (hb hby at_332) ?_
  show Steps p.tables e below (T7.setTop (mkF m 334 #[.val (.int i0), .val (.int i1), .val (.int i2), .val (.int i3), .val (.int i4), .val (.ref r0), .val (.ref r1), .val (.ref r2), .unset, .unset, .unset, .unset, .unset, .unset, .unset, .unset] [(.int (6 : Int32)), (.ref b1), (.ref b1)])) _
  refine XS.sipush X7.here hx rfl (hb hby at_334) ?_
  show Steps p.tables e below (T7.setTop (mkF m 337 #[.val (.int i0), .val (.int i1), .val (.int i2), .val (.int i3), .val (.int i4), .val (.ref r0), .val (.ref r1), .val (.ref r2), .unset, .unset, .unset, .unset, .unset, .unset, .unset, .unset] [(.int (879 : Int32)), (.int (6 : Int32)), (.ref b1), (.ref b1)])) _
  refine st8 _ ?_
  show Steps p.tables e below (T8.setTop (mkF m 338 #[.val (.int i0), .val (.int i1), .val (.int i2), .val (.int i3), .val (.int i4), .val (.ref r0), .val (.ref r1), .val (.ref r2), .unset, .unset, .unset, .unset, .unset, .unset, .unset, .unset] [(.ref b1)])) _
  refine XS.dup X8.here hx rfl (hb hby at_338) rfl rfl ?_
  show Steps p.tables e below (T8.setTop (mkF m 339 #[.val (.int i0), .val (.int i1), .val (.int i2), .val (.int i3), .val (.int i4), .val (.ref r0), .val (.ref r1), .val (.ref r2), .unset, .unset, .unset, .unset, .unset, .unset, .unset, .unset] [(.ref b1), (.ref b1)])) _
  refine XS.bipush X8.here hx rfl (hb hby at_339) ?_
  show Steps p.tables e below (T8.setTop (mkF m 341 #[.val (.int i0), .val (.int i1), .val (.int i2), .val (.int i3), .val (.int i4), .val (.ref r0), .val (.ref r1), .val (.ref r2), .unset, .unset, .unset, .unset, .unset, .unset, .unset, .unset] [(.int (7 : Int32)), (.ref b1), (.ref b1)])) _
  refine XS.sipush X8.here hx rfl (hb hby at_341) ?_
  show Steps p.tables e below (T8.setTop (mkF m 344 #[.val (.int i0), .val (.int i1), .val (.int i2), .val (.int i3), .val (.int i4), .val (.ref r0), .val (.ref r1), .val (.ref r2), .unset, .unset, .unset, .unset, .unset, .unset, .unset, .unset] [(.int (894 : Int32)), (.int (7 : Int32)), (.ref b1), (.ref b1)])) _
  refine st9 _ ?_
  show Steps p.tables e below (T9.setTop (mkF m 345 #[.val (.int i0), .val (.int i1), .val (.int i2), .val (.int i3), .val (.int i4), .val (.ref r0), .val (.ref r1), .val (.ref r2), .unset, .unset, .unset, .unset, .unset, .unset, .unset, .unset] [(.ref b1)])) _
  refine XS.dup X9.here hx rfl (hb hby at_345) rfl rfl ?_
  show Steps p.tables e below (T9.setTop (mkF m 346 #[.val (.int i0), .val (.int i1), .val (.int i2), .val (.int i3), .val (.int i4), .val (.ref r0), .val (.ref r1), .val (.ref r2), .unset, .unset, .unset, .unset, .unset, .unset, .unset, .unset] [(.ref b1), (.ref b1)])) _
  refine XS.bipush X9.here hx rfl (hb hby at_346) ?_
  show Steps p.tables e below (T9.setTop (mkF m 348 #[.val (.int i0), .val (.int i1), .val (.int i2), .val (.int i3), .val (.int i4), .val (.ref r0), .val (.ref r1), .val (.ref r2), .unset, .unset, .unset, .unset, .unset, .unset, .unset, .unset] [(.int (8 : Int32)), (.ref b1), (.ref b1)])) _
  refine XS.sipush X9.here hx rfl (hb hby at_348) ?_
  show Steps p.tables e below (T9.setTop (mkF m 351 #[.val (.int i0), .val (.int i1), .val (.int i2), .val (.int i3), .val (.int i4), .val (.ref r0), .val (.ref r1), .val (.ref r2), .unset, .unset, .unset, .unset, .unset, .unset, .unset, .unset] [(.int (8203 : Int32)), (.int (8 : Int32)), (.ref b1), (.ref b1)])) _
  refine st10 _ ?_
  show Steps p.tables e below (T10.setTop (mkF m 352 #[.val (.int i0), .val (.int i1), .val (.int i2), .val (.int i3), .val (.int i4), .val (.ref r0), .val (.ref r1), .val (.ref r2), .unset, .unset, .unset, .unset, .unset, .unset, .unset, .unset] [(.ref b1)])) _
  refine XS.dup X10.here hx rfl (hb hby at_352) rfl rfl ?_
  show Steps p.tables e below (T10.setTop (mkF m 353 #[.val (.int i0), .val (.int i1), .val (.int i2), .val (.int i3), .val (.int i4), .val (.ref r0), .val (.ref r1), .val (.ref r2), .unset, .unset, .unset, .unset, .unset, .unset, .unset, .unset] [(.ref b1), (.ref b1)])) _
  refine XS.bipush X10.here hx rfl (hb hby at_353) ?_
  show Steps p.tables e below (T10.setTop (mkF m 355 #[.val (.int i0), .val (.int i1), .val (.int i2), .val (.int i3), .val (.int i4), .val (.ref r0), .val (.ref r1), .val (.ref r2), .unset, .unset, .unset, .unset, .unset, .unset, .unset, .unset] [(.int (9 : Int32)), (.ref b1), (.ref b1)])) _
  refine XS.sipush X10.here hx rfl (hb hby at_355) ?_
  show Steps p.tables e below (T10.setTop (mkF m 358 #[.val (.int i0), .val (.int i1), .val (.int i2), .val (.int i3), .val (.int i4), .val (.ref r0), .val (.ref r1), .val (.ref r2), .unset, .unset, .unset, .unset, .unset, .unset, .unset, .unset] [(.int (8303 : Int32)), (.int (9 : Int32)), (.ref b1), (.ref b1)])) _
  refine st11 _ ?_
  show Steps p.tables e below (T11.setTop (mkF m 359 #[.val (.int i0), .val (.int i1), .val (.int i2), .val (.int i3), .val (.int i4), .val (.ref r0), .val (.ref r1), .val (.ref r2), .unset, .unset, .unset, .unset, .unset, .unset, .unset, .unset] [(.ref b1)])) _
  refine XS.dup X11.here hx rfl (hb hby at_359) rfl rfl ?_
  show Steps p.tables e below (T11.setTop (mkF m 360 #[.val (.int i0), .val (.int i1), .val (.int i2), .val (.int i3), .val (.int i4), .val (.ref r0), .val (.ref r1), .val (.ref r2), .unset, .unset, .unset, .unset, .unset, .unset, .unset, .unset] [(.ref b1), (.ref b1)])) _
  refine XS.bipush X11.here hx rfl (hb hby at_360) ?_
  show Steps p.tables e below (T11.setTop (mkF m 362 #[.val (.int i0), .val (.int i1), .val (.int i2), .val (.int i3), .val (.int i4), .val (.ref r0), .val (.ref r1), .val (.ref r2), .unset, .unset, .unset, .unset, .unset, .unset, .unset, .unset] [(.int (10 : Int32)), (.ref b1), (.ref b1)])) _
  refine XS.sipush X11.here hx rfl (hb hby at_362) ?_
  show Steps p.tables e below (T11.setTop (mkF m 365 #[.val (.int i0), .val (.int i1), .val (.int i2), .val (.int i3), .val (.int i4), .val (.ref r0), .val (.ref r1), .val (.ref r2), .unset, .unset, .unset, .unset, .unset, .unset, .unset, .unset] [(.int (11263 : Int32)), (.int (10 : Int32)), (.ref b1), (.ref b1)])) _
  refine st12 _ ?_
  show Steps p.tables e below (T12.setTop (mkF m 366 #[.val (.int i0), .val (.int i1), .val (.int i2), .val (.int i3), .val (.int i4), .val (.ref r0), .val (.ref r1), .val (.ref r2), .unset, .unset, .unset, .unset, .unset, .unset, .unset, .unset] [(.ref b1)])) _
  refine XS.dup X12.here hx rfl (hb hby at_366) rfl rfl ?_
  show Steps p.tables e below (T12.setTop (mkF m 367 #[.val (.int i0), .val (.int i1), .val (.int i2), .val (.int i3), .val (.int i4), .val (.ref r0), .val (.ref r1), .val (.ref r2), .unset, .unset, .unset, .unset, .unset, .unset, .unset, .unset] [(.ref b1), (.ref b1)])) _
  refine XS.bipush X12.here hx rfl (hb hby at_367) ?_
  show Steps p.tables e below (T12.setTop (mkF m 369 #[.val (.int i0), .val (.int i1), .val (.int i2), .val (.int i3), .val (.int i4), .val (.ref r0), .val (.ref r1), .val (.ref r2), .unset, .unset, .unset, .unset, .unset, .unset, .unset, .unset] [(.int (11 : Int32)), (.ref b1), (.ref b1)])) _
  refine XS.sipush X12.here hx rfl (hb hby at_369) ?_
  show Steps p.tables e below (T12.setTop (mkF m 372 #[.val (.int i0), .val (.int i1), .val (.int i2), .val (.int i3), .val (.int i4), .val (.ref r0), .val (.ref r1), .val (.ref r2), .unset, .unset, .unset, .unset, .unset, .unset, .unset, .unset] [(.int (12288 : Int32)), (.int (11 : Int32)), (.ref b1), (.ref b1)])) _
  refine st13 _ ?_
  show Steps p.tables e below (T13.setTop (mkF m 373 #[.val (.int i0), .val (.int i1), .val (.int i2), .val (.int i3), .val (.int i4), .val (.ref r0), .val (.ref r1), .val (.ref r2), .unset, .unset, .unset, .unset, .unset, .unset, .unset, .unset] [(.ref b1)])) _
  refine XS.dup X13.here hx rfl (hb hby at_373) rfl rfl ?_
  show Steps p.tables e below (T13.setTop (mkF m 374 #[.val (.int i0), .val (.int i1), .val (.int i2), .val (.int i3), .val (.int i4), .val (.ref r0), .val (.ref r1), .val (.ref r2), .unset, .unset, .unset, .unset, .unset, .unset, .unset, .unset] [(.ref b1), (.ref b1)])) _
  refine XS.bipush X13.here hx rfl (hb hby at_374) ?_
  show Steps p.tables e below (T13.setTop (mkF m 376 #[.val (.int i0), .val (.int i1), .val (.int i2), .val (.int i3), .val (.int i4), .val (.ref r0), .val (.ref r1), .val (.ref r2), .unset, .unset, .unset, .unset, .unset, .unset, .unset, .unset] [(.int (12 : Int32)), (.ref b1), (.ref b1)])) _
  refine X13.ldcInt hx hown (mvT hZ (hw _ (List.mem_of_getElem? (i := 11) rfl))) (g := (mkF m 376 #[.val (.int i0), .val (.int i1), .val (.int i2), .val (.int i3), .val (.int i4), .val (.ref r0), .val (.ref r1), .val (.ref r2), .unset, .unset, .unset, .unset, .unset, .unset, .unset, .unset] [(.int (12 : Int32)), (.ref b1), (.ref b1)])) rfl (hb hby at_376) _ ?_
  show Steps p.tables e below (T13.setTop (mkF m 378 #[.val (.int i0), .val (.int i1), .val (.int i2), .val (.int i3), .val (.int i4), .val (.ref r0), .val (.ref r1), .val (.ref r2), .unset, .unset, .unset, .unset, .unset, .unset, .unset, .unset] [(.int (63743 : Int32)), (.int (12 : Int32)), (.ref b1), (.ref b1)])) _
  refine st14 _ ?_
  show Steps p.tables e below (T14.setTop (mkF m 379 #[.val (.int i0), .val (.int i1), .val (.int i2), .val (.int i3), .val (.int i4), .val (.ref r0), .val (.ref r1), .val (.ref r2), .unset, .unset, .unset, .unset, .unset, .unset, .unset, .unset] [(.ref b1)])) _
  refine XS.dup X14.here hx rfl (hb hby at_379) rfl rfl ?_
  show Steps p.tables e below (T14.setTop (mkF m 380 #[.val (.int i0), .val (.int i1), .val (.int i2), .val (.int i3), .val (.int i4), .val (.ref r0), .val (.ref r1), .val (.ref r2), .unset, .unset, .unset, .unset, .unset, .unset, .unset, .unset] [(.ref b1), (.ref b1)])) _
  refine XS.bipush X14.here hx rfl (hb hby at_380) ?_
  show Steps p.tables e below (T14.setTop (mkF m 382 #[.val (.int i0), .val (.int i1), .val (.int i2), .val (.int i3), .val (.int i4), .val (.ref r0), .val (.ref r1), .val (.ref r2), .unset, .unset, .unset, .unset, .unset, .unset, .unset, .unset] [(.int (13 : Int32)), (.ref b1), (.ref b1)])) _
  refine X14.ldcInt hx hown (mvT hZ (hw _ (List.mem_of_getElem? (i := 12) rfl))) (g := (mkF m 382 #[.val (.int i0), .val (.int i1), .val (.int i2), .val (.int i3), .val (.int i4), .val (.ref r0), .val (.ref r1), .val (.ref r2), .unset, .unset, .unset, .unset, .unset, .unset, .unset, .unset] [(.int (13 : Int32)), (.ref b1), (.ref b1)])) rfl (hb hby at_382) _ ?_
  show Steps p.tables e below (T14.setTop (mkF m 384 #[.val (.int i0), .val (.int i1), .val (.int i2), .val (.int i3), .val (.int i4), .val (.ref r0), .val (.ref r1), .val (.ref r2), .unset, .unset, .unset, .unset, .unset, .unset, .unset, .unset] [(.int (65007 : Int32)), (.int (13 : Int32)), (.ref b1), (.ref b1)])) _
  refine st15 _ ?_
  show Steps p.tables e below (T15.setTop (mkF m 385 #[.val (.int i0), .val (.int i1), .val (.int i2), .val (.int i3), .val (.int i4), .val (.ref r0), .val (.ref r1), .val (.ref r2), .unset, .unset, .unset, .unset, .unset, .unset, .unset, .unset] [(.ref b1)])) _
  refine XS.dup X15.here hx rfl (hb hby at_385) rfl rfl ?_
  show Steps p.tables e below (T15.setTop (mkF m 386 #[.val (.int i0), .val (.int i1), .val (.int i2), .val (.int i3), .val (.int i4), .val (.ref r0), .val (.ref r1), .val (.ref r2), .unset, .unset, .unset, .unset, .unset, .unset, .unset, .unset] [(.ref b1), (.ref b1)])) _
  refine XS.bipush X15.here hx rfl (hb hby at_386) ?_
  show Steps p.tables e below (T15.setTop (mkF m 388 #[.val (.int i0), .val (.int i1), .val (.int i2), .val (.int i3), .val (.int i4), .val (.ref r0), .val (.ref r1), .val (.ref r2), .unset, .unset, .unset, .unset, .unset, .unset, .unset, .unset] [(.int (14 : Int32)), (.ref b1), (.ref b1)])) _
  refine X15.ldcInt hx hown (mvT hZ (hw _ (List.mem_of_getElem? (i := 13) rfl))) (g := (mkF m 388 #[.val (.int i0), .val (.int i1), .val (.int i2), .val (.int i3), .val (.int i4), .val (.ref r0), .val (.ref r1), .val (.ref r2), .unset, .unset, .unset, .unset, .unset, .unset, .unset, .unset] [(.int (14 : Int32)), (.ref b1), (.ref b1)])) rfl (hb hby at_388) _ ?_
  show Steps p.tables e below (T15.setTop (mkF m 390 #[.val (.int i0), .val (.int i1), .val (.int i2), .val (.int i3), .val (.int i4), .val (.ref r0), .val (.ref r1), .val (.ref r2), .unset, .unset, .unset, .unset, .unset, .unset, .unset, .unset] [(.int (65535 : Int32)), (.int (14 : Int32)), (.ref b1), (.ref b1)])) _
  refine st16 _ ?_
  show Steps p.tables e below (T16.setTop (mkF m 391 #[.val (.int i0), .val (.int i1), .val (.int i2), .val (.int i3), .val (.int i4), .val (.ref r0), .val (.ref r1), .val (.ref r2), .unset, .unset, .unset, .unset, .unset, .unset, .unset, .unset] [(.ref b1)])) _
  refine XS.astore X16.here hx rfl (hb hby at_391) rfl rfl (l' := #[.val (.int i0), .val (.int i1), .val (.int i2), .val (.int i3), .val (.int i4), .val (.ref r0), .val (.ref r1), .val (.ref r2), .val (.ref b1), .unset, .unset, .unset, .unset, .unset, .unset, .unset]) rfl ?_
  exact kt
theorem own_inrem (x n : Int32) (hn : 0 < n) : ¬ ((x &&& (2147483647 : Int32)) % n) < 0 ∧ ((x &&& (2147483647 : Int32)) % n) < n := by
  have h := c_mask x (2147483647 : Int32) 31 (by decide) (by decide)
  have h1 : 0 ≤ (x &&& (2147483647 : Int32)).toInt := by rw [h]; omega
  have e0 : (0 : Int32).toInt = 0 := rfl
  rw [Int32.lt_iff_toInt_lt, e0] at hn
  obtain ⟨a, b, -⟩ := (c_iremV (x &&& (2147483647 : Int32)) n).1 h1 hn
  simp only [Int32.lt_iff_toInt_lt, e0]
  omega

theorem own_idx (j : Int32) (h : ¬ j < 0 ∧ j < (15 : Int32)) : j.toNatClampNeg < 15 := by
  obtain ⟨h1, h2⟩ := h
  rw [Int32.lt_iff_toInt_lt] at h1 h2
  have e0 : (0 : Int32).toInt = 0 := rfl
  have e1 : (15 : Int32).toInt = 15 := rfl
  simp only [Int32.toNatClampNeg]; omega
theorem own_nzn01 : ∀ n < 15, (own_vals1.getD n 0 - own_vals0.getD n 0) + (1 : Int32) ≠ 0 := by decide
theorem own_nzn23 : ∀ n < 15, (own_vals3.getD n 0 - own_vals2.getD n 0) + (1 : Int32) ≠ 0 := by decide
theorem own_nz01 (j : Int32) (h : ¬ j < 0 ∧ j < (15 : Int32)) : ((own_vals1.getD (j).toNatClampNeg 0) - (own_vals0.getD (j).toNatClampNeg 0)) + (1 : Int32) ≠ 0 := own_nzn01 _ (own_idx j h)
theorem own_nz23 (j : Int32) (h : ¬ j < 0 ∧ j < (15 : Int32)) : ((own_vals3.getD (j).toNatClampNeg 0) - (own_vals2.getD (j).toNatClampNeg 0)) + (1 : Int32) ≠ 0 := own_nzn23 _ (own_idx j h)
theorem own_rngI (lo hi y : Int32) (l h : Int) (el : lo.toInt = l) (eh : hi.toInt = h) (h1 : 0 ≤ l) (h2 : l ≤ h) (h3 : h < 1073741824) (hy : 0 ≤ y.toInt) : l ≤ (lo + y % ((hi - lo) + (1 : Int32))).toInt ∧ (lo + y % ((hi - lo) + (1 : Int32))).toInt ≤ h := by
  have e1 : (1 : Int32).toInt = 1 := rfl
  have a1 := c_isub hi lo
  have a2 := rng32 (hi - lo)
  have a3 := c_iadd (hi - lo) 1
  have a4 := rng32 ((hi - lo) + 1)
  have a5 : ((hi - lo) + 1).toInt = h - l + 1 := by omega
  obtain ⟨b1, b2, -⟩ := (c_iremV y ((hi - lo) + 1)).1 hy (by omega)
  have b3 := c_iadd lo (y % ((hi - lo) + 1))
  have b4 := rng32 (lo + y % ((hi - lo) + 1))
  omega
theorem own_pos (x : Int32) : 0 ≤ (x &&& (2147483647 : Int32)).toInt := by
  rw [c_mask x (2147483647 : Int32) 31 (by decide) (by decide)]; omega

theorem own_pd_I_Z : parseMethodDescriptor "(I)Z" = some ⟨[.int], some .boolean⟩ := by decide +kernel
def f0_531 (i0 : Int32) (i1 : Int32) (i2 : Int32) (i3 : Int32) (i4 : Int32) (i9 : Int32) (i10 : Int32) (i11 : Int32) (i12 : Int32) (i13 : Int32) (i14 : Int32) (i15 : Int32) : Bool := false
set_option maxRecDepth 65536 in
set_option maxHeartbeats 4000000 in
theorem b0_531 {p : Program} {l : Launch} {e : Env} {s : State} {m : MethodId} {args : Array Value} {below : List Frame} {meth : Method} {c : Code} {T0 : State} {locs : List Loc} {Z : State} {a0 : Array Value} {h0 : Heap} {n0 : Nat} {kq0 : ClassId} {kq1 : ClassId} {kq2 : ClassId} {kq3 : ClassId} (i0 : Int32) (i1 : Int32) (i2 : Int32) (i3 : Int32) (i4 : Int32) (r0 : Addr) (r1 : Addr) (r2 : Addr) (r3 : Addr) (i9 : Int32) (i10 : Int32) (i11 : Int32) (i12 : Int32) (i13 : Int32) (i14 : Int32) (i15 : Int32) (X0 : Stand p l e room_1 s m args below meth c T0 locs 4 60) (hx : p.tables.exec = Jvm.exec) (hZ : Z.Warmed39 s.vm) (hw : ∀ d ∈ tables_1, d.before a0 Z = true) (hby : c.code = code) (hml : c.maxLocals = 16) (hown : s.vm.findClass "com/example/reshape/reshape/tree/XmlNamesIsNameStartCharPinLaw" = some m.cls) (e0 : T0.heap = h0) (N0 : Fr n0 locs) (Z0 : n0 ≤ h0.size) (V0 : Arv Z h0 r0 kq0 .int (15 : Int32) (own_vals0.map Value.int) (.int 0)) (V1 : Arv Z h0 r1 kq1 .int (15 : Int32) (own_vals1.map Value.int) (.int 0)) (V2 : Arv Z h0 r2 kq2 .int (15 : Int32) (own_vals2.map Value.int) (.int 0)) (V3 : Arv Z h0 r3 kq3 .int (15 : Int32) (own_vals3.map Value.int) (.int 0)) :
    own_Ret p l e room_1 s m args below meth c h0 n0 4 60 T0 (mkF m 531 #[.val (.int i0), .val (.int i1), .val (.int i2), .val (.int i3), .val (.int i4), .val (.ref r0), .val (.ref r1), .val (.ref r2), .val (.ref r3), .val (.int i9), .val (.int i10), .val (.int i11), .val (.int i12), .val (.int i13), .val (.int i14), .val (.int i15)] []) (own_b (f0_531 i0 i1 i2 i3 i4 i9 i10 i11 i12 i13 i14 i15)) := by
  unfold f0_531
  refine own_step (T1 := T0) (g1 := (mkF m 532 #[.val (.int i0), .val (.int i1), .val (.int i2), .val (.int i3), .val (.int i4), .val (.ref r0), .val (.ref r1), .val (.ref r2), .val (.ref r3), .val (.int i9), .val (.int i10), .val (.int i11), .val (.int i12), .val (.int i13), .val (.int i14), .val (.int i15)] [(.int (0 : Int32))])) (fun _ k => XS.iconst X0.here hx rfl (hb hby at_531) k) ?_
  exact ⟨_, _, 532, _, X0, e0, N0, (hb hby at_532), fun _ k => k⟩
def f0_510 (i0 : Int32) (i1 : Int32) (i2 : Int32) (i3 : Int32) (i4 : Int32) (i9 : Int32) (i10 : Int32) (i11 : Int32) (i12 : Int32) (i13 : Int32) (i14 : Int32) (k0 : Int32) : Bool := (if i13 = (0 : Int32) then (f0_531 i0 i1 i2 i3 i4 i9 i10 i11 i12 i13 i14 k0) else (if i14 = (0 : Int32) then (f0_531 i0 i1 i2 i3 i4 i9 i10 i11 i12 i13 i14 k0) else (if k0 = (0 : Int32) then (f0_531 i0 i1 i2 i3 i4 i9 i10 i11 i12 i13 i14 k0) else true)))
set_option maxRecDepth 65536 in
set_option maxHeartbeats 4000000 in
theorem b0_510 {p : Program} {l : Launch} {e : Env} {s : State} {m : MethodId} {args : Array Value} {below : List Frame} {meth : Method} {c : Code} {T0 : State} {locs : List Loc} {Z : State} {a0 : Array Value} {h0 : Heap} {n0 : Nat} {kq0 : ClassId} {kq1 : ClassId} {kq2 : ClassId} {kq3 : ClassId} (i0 : Int32) (i1 : Int32) (i2 : Int32) (i3 : Int32) (i4 : Int32) (r0 : Addr) (r1 : Addr) (r2 : Addr) (r3 : Addr) (i9 : Int32) (i10 : Int32) (i11 : Int32) (i12 : Int32) (i13 : Int32) (i14 : Int32) (k0 : Int32) (X0 : Stand p l e room_1 s m args below meth c T0 locs 4 60) (hx : p.tables.exec = Jvm.exec) (hZ : Z.Warmed39 s.vm) (hw : ∀ d ∈ tables_1, d.before a0 Z = true) (hby : c.code = code) (hml : c.maxLocals = 16) (hown : s.vm.findClass "com/example/reshape/reshape/tree/XmlNamesIsNameStartCharPinLaw" = some m.cls) (e0 : T0.heap = h0) (N0 : Fr n0 locs) (Z0 : n0 ≤ h0.size) (V0 : Arv Z h0 r0 kq0 .int (15 : Int32) (own_vals0.map Value.int) (.int 0)) (V1 : Arv Z h0 r1 kq1 .int (15 : Int32) (own_vals1.map Value.int) (.int 0)) (V2 : Arv Z h0 r2 kq2 .int (15 : Int32) (own_vals2.map Value.int) (.int 0)) (V3 : Arv Z h0 r3 kq3 .int (15 : Int32) (own_vals3.map Value.int) (.int 0)) :
    own_Ret p l e room_1 s m args below meth c h0 n0 4 60 T0 (mkF m 510 #[.val (.int i0), .val (.int i1), .val (.int i2), .val (.int i3), .val (.int i4), .val (.ref r0), .val (.ref r1), .val (.ref r2), .val (.ref r3), .val (.int i9), .val (.int i10), .val (.int i11), .val (.int i12), .val (.int i13), .val (.int i14), .unset] [(.int k0)]) (own_b (f0_510 i0 i1 i2 i3 i4 i9 i10 i11 i12 i13 i14 k0)) := by
  unfold f0_510
  refine own_step (T1 := T0) (g1 := (mkF m 512 #[.val (.int i0), .val (.int i1), .val (.int i2), .val (.int i3), .val (.int i4), .val (.ref r0), .val (.ref r1), .val (.ref r2), .val (.ref r3), .val (.int i9), .val (.int i10), .val (.int i11), .val (.int i12), .val (.int i13), .val (.int i14), .val (.int k0)] [])) (fun _ k => XS.istore X0.here hx rfl (hb hby at_510) rfl (l' := #[.val (.int i0), .val (.int i1), .val (.int i2), .val (.int i3), .val (.int i4), .val (.ref r0), .val (.ref r1), .val (.ref r2), .val (.ref r3), .val (.int i9), .val (.int i10), .val (.int i11), .val (.int i12), .val (.int i13), .val (.int i14), .val (.int k0)]) rfl k) ?_
  refine own_step (T1 := T0) (g1 := (mkF m 514 #[.val (.int i0), .val (.int i1), .val (.int i2), .val (.int i3), .val (.int i4), .val (.ref r0), .val (.ref r1), .val (.ref r2), .val (.ref r3), .val (.int i9), .val (.int i10), .val (.int i11), .val (.int i12), .val (.int i13), .val (.int i14), .val (.int k0)] [(.int i13)])) (fun _ k => XS.iload X0.here hx rfl (hb hby at_512) rfl k) ?_
  by_cases hc514 : i13 = (0 : Int32)
  · rw [if_pos hc514]
    refine own_step (T1 := T0) (g1 := (mkF m 531 #[.val (.int i0), .val (.int i1), .val (.int i2), .val (.int i3), .val (.int i4), .val (.ref r0), .val (.ref r1), .val (.ref r2), .val (.ref r3), .val (.int i9), .val (.int i10), .val (.int i11), .val (.int i12), .val (.int i13), .val (.int i14), .val (.int k0)] [])) (fun _ k => XS.ifYes X0.here hx rfl (pc0 := 514) (pc' := 531) rfl (hb hby at_514) rfl ((if0 _ _).trans (teq hc514).1) (by decide) (by decide) k) ?_
    exact b0_531 i0 i1 i2 i3 i4 r0 r1 r2 r3 i9 i10 i11 i12 i13 i14 k0 X0 hx hZ hw hby hml hown e0 N0 Z0 V0 V1 V2 V3
  · rw [if_neg hc514]
    refine own_step (T1 := T0) (g1 := (mkF m 517 #[.val (.int i0), .val (.int i1), .val (.int i2), .val (.int i3), .val (.int i4), .val (.ref r0), .val (.ref r1), .val (.ref r2), .val (.ref r3), .val (.int i9), .val (.int i10), .val (.int i11), .val (.int i12), .val (.int i13), .val (.int i14), .val (.int k0)] [])) (fun _ k => XS.ifNo X0.here hx rfl (hb hby at_514) rfl ((if0 _ _).trans (feq hc514).1) k) ?_
    refine own_step (T1 := T0) (g1 := (mkF m 519 #[.val (.int i0), .val (.int i1), .val (.int i2), .val (.int i3), .val (.int i4), .val (.ref r0), .val (.ref r1), .val (.ref r2), .val (.ref r3), .val (.int i9), .val (.int i10), .val (.int i11), .val (.int i12), .val (.int i13), .val (.int i14), .val (.int k0)] [(.int i14)])) (fun _ k => XS.iload X0.here hx rfl (hb hby at_517) rfl k) ?_
    by_cases hc519 : i14 = (0 : Int32)
    · rw [if_pos hc519]
      refine own_step (T1 := T0) (g1 := (mkF m 531 #[.val (.int i0), .val (.int i1), .val (.int i2), .val (.int i3), .val (.int i4), .val (.ref r0), .val (.ref r1), .val (.ref r2), .val (.ref r3), .val (.int i9), .val (.int i10), .val (.int i11), .val (.int i12), .val (.int i13), .val (.int i14), .val (.int k0)] [])) (fun _ k => XS.ifYes X0.here hx rfl (pc0 := 519) (pc' := 531) rfl (hb hby at_519) rfl ((if0 _ _).trans (teq hc519).1) (by decide) (by decide) k) ?_
      exact b0_531 i0 i1 i2 i3 i4 r0 r1 r2 r3 i9 i10 i11 i12 i13 i14 k0 X0 hx hZ hw hby hml hown e0 N0 Z0 V0 V1 V2 V3
    · rw [if_neg hc519]
      refine own_step (T1 := T0) (g1 := (mkF m 522 #[.val (.int i0), .val (.int i1), .val (.int i2), .val (.int i3), .val (.int i4), .val (.ref r0), .val (.ref r1), .val (.ref r2), .val (.ref r3), .val (.int i9), .val (.int i10), .val (.int i11), .val (.int i12), .val (.int i13), .val (.int i14), .val (.int k0)] [])) (fun _ k => XS.ifNo X0.here hx rfl (hb hby at_519) rfl ((if0 _ _).trans (feq hc519).1) k) ?_
      refine own_step (T1 := T0) (g1 := (mkF m 524 #[.val (.int i0), .val (.int i1), .val (.int i2), .val (.int i3), .val (.int i4), .val (.ref r0), .val (.ref r1), .val (.ref r2), .val (.ref r3), .val (.int i9), .val (.int i10), .val (.int i11), .val (.int i12), .val (.int i13), .val (.int i14), .val (.int k0)] [(.int k0)])) (fun _ k => XS.iload X0.here hx rfl (hb hby at_522) rfl k) ?_
      by_cases hc524 : k0 = (0 : Int32)
      · rw [if_pos hc524]
        refine own_step (T1 := T0) (g1 := (mkF m 531 #[.val (.int i0), .val (.int i1), .val (.int i2), .val (.int i3), .val (.int i4), .val (.ref r0), .val (.ref r1), .val (.ref r2), .val (.ref r3), .val (.int i9), .val (.int i10), .val (.int i11), .val (.int i12), .val (.int i13), .val (.int i14), .val (.int k0)] [])) (fun _ k => XS.ifYes X0.here hx rfl (pc0 := 524) (pc' := 531) rfl (hb hby at_524) rfl ((if0 _ _).trans (teq hc524).1) (by decide) (by decide) k) ?_
        exact b0_531 i0 i1 i2 i3 i4 r0 r1 r2 r3 i9 i10 i11 i12 i13 i14 k0 X0 hx hZ hw hby hml hown e0 N0 Z0 V0 V1 V2 V3
      · rw [if_neg hc524]
        refine own_step (T1 := T0) (g1 := (mkF m 527 #[.val (.int i0), .val (.int i1), .val (.int i2), .val (.int i3), .val (.int i4), .val (.ref r0), .val (.ref r1), .val (.ref r2), .val (.ref r3), .val (.int i9), .val (.int i10), .val (.int i11), .val (.int i12), .val (.int i13), .val (.int i14), .val (.int k0)] [])) (fun _ k => XS.ifNo X0.here hx rfl (hb hby at_524) rfl ((if0 _ _).trans (feq hc524).1) k) ?_
        refine own_step (T1 := T0) (g1 := (mkF m 528 #[.val (.int i0), .val (.int i1), .val (.int i2), .val (.int i3), .val (.int i4), .val (.ref r0), .val (.ref r1), .val (.ref r2), .val (.ref r3), .val (.int i9), .val (.int i10), .val (.int i11), .val (.int i12), .val (.int i13), .val (.int i14), .val (.int k0)] [(.int (1 : Int32))])) (fun _ k => XS.iconst X0.here hx rfl (hb hby at_527) k) ?_
        refine own_step (T1 := T0) (g1 := (mkF m 532 #[.val (.int i0), .val (.int i1), .val (.int i2), .val (.int i3), .val (.int i4), .val (.ref r0), .val (.ref r1), .val (.ref r2), .val (.ref r3), .val (.int i9), .val (.int i10), .val (.int i11), .val (.int i12), .val (.int i13), .val (.int i14), .val (.int k0)] [(.int (1 : Int32))])) (fun _ k => XS.goto X0.here hx rfl (pc0 := 528) (pc' := 532) rfl (hb hby at_528) (by decide) (by decide) k) ?_
        exact ⟨_, _, 532, _, X0, e0, N0, (hb hby at_532), fun _ k => k⟩
def f0_505 (i0 : Int32) (i1 : Int32) (i2 : Int32) (i3 : Int32) (i4 : Int32) (i9 : Int32) (i10 : Int32) (i11 : Int32) (i12 : Int32) (i13 : Int32) (i14 : Int32) : Bool := (f0_510 i0 i1 i2 i3 i4 i9 i10 i11 i12 i13 i14 (1 : Int32))
set_option maxRecDepth 65536 in
set_option maxHeartbeats 4000000 in
theorem b0_505 {p : Program} {l : Launch} {e : Env} {s : State} {m : MethodId} {args : Array Value} {below : List Frame} {meth : Method} {c : Code} {T0 : State} {locs : List Loc} {Z : State} {a0 : Array Value} {h0 : Heap} {n0 : Nat} {kq0 : ClassId} {kq1 : ClassId} {kq2 : ClassId} {kq3 : ClassId} (i0 : Int32) (i1 : Int32) (i2 : Int32) (i3 : Int32) (i4 : Int32) (r0 : Addr) (r1 : Addr) (r2 : Addr) (r3 : Addr) (i9 : Int32) (i10 : Int32) (i11 : Int32) (i12 : Int32) (i13 : Int32) (i14 : Int32) (X0 : Stand p l e room_1 s m args below meth c T0 locs 4 60) (hx : p.tables.exec = Jvm.exec) (hZ : Z.Warmed39 s.vm) (hw : ∀ d ∈ tables_1, d.before a0 Z = true) (hby : c.code = code) (hml : c.maxLocals = 16) (hown : s.vm.findClass "com/example/reshape/reshape/tree/XmlNamesIsNameStartCharPinLaw" = some m.cls) (e0 : T0.heap = h0) (N0 : Fr n0 locs) (Z0 : n0 ≤ h0.size) (V0 : Arv Z h0 r0 kq0 .int (15 : Int32) (own_vals0.map Value.int) (.int 0)) (V1 : Arv Z h0 r1 kq1 .int (15 : Int32) (own_vals1.map Value.int) (.int 0)) (V2 : Arv Z h0 r2 kq2 .int (15 : Int32) (own_vals2.map Value.int) (.int 0)) (V3 : Arv Z h0 r3 kq3 .int (15 : Int32) (own_vals3.map Value.int) (.int 0)) :
    own_Ret p l e room_1 s m args below meth c h0 n0 4 60 T0 (mkF m 505 #[.val (.int i0), .val (.int i1), .val (.int i2), .val (.int i3), .val (.int i4), .val (.ref r0), .val (.ref r1), .val (.ref r2), .val (.ref r3), .val (.int i9), .val (.int i10), .val (.int i11), .val (.int i12), .val (.int i13), .val (.int i14), .unset] []) (own_b (f0_505 i0 i1 i2 i3 i4 i9 i10 i11 i12 i13 i14)) := by
  unfold f0_505
  refine own_step (T1 := T0) (g1 := (mkF m 506 #[.val (.int i0), .val (.int i1), .val (.int i2), .val (.int i3), .val (.int i4), .val (.ref r0), .val (.ref r1), .val (.ref r2), .val (.ref r3), .val (.int i9), .val (.int i10), .val (.int i11), .val (.int i12), .val (.int i13), .val (.int i14), .unset] [(.int (1 : Int32))])) (fun _ k => XS.iconst X0.here hx rfl (hb hby at_505) k) ?_
  refine own_step (T1 := T0) (g1 := (mkF m 510 #[.val (.int i0), .val (.int i1), .val (.int i2), .val (.int i3), .val (.int i4), .val (.ref r0), .val (.ref r1), .val (.ref r2), .val (.ref r3), .val (.int i9), .val (.int i10), .val (.int i11), .val (.int i12), .val (.int i13), .val (.int i14), .unset] [(.int (1 : Int32))])) (fun _ k => XS.goto X0.here hx rfl (pc0 := 506) (pc' := 510) rfl (hb hby at_506) (by decide) (by decide) k) ?_
  exact b0_510 i0 i1 i2 i3 i4 r0 r1 r2 r3 i9 i10 i11 i12 i13 i14 (1 : Int32) X0 hx hZ hw hby hml hown e0 N0 Z0 V0 V1 V2 V3
def f0_497 (i0 : Int32) (i1 : Int32) (i2 : Int32) (i3 : Int32) (i4 : Int32) (i9 : Int32) (i10 : Int32) (i11 : Int32) (i12 : Int32) (i13 : Int32) (i14 : Int32) : Bool := (if (f1_0 i4) = false then (f0_505 i0 i1 i2 i3 i4 i9 i10 i11 i12 i13 i14) else (f0_510 i0 i1 i2 i3 i4 i9 i10 i11 i12 i13 i14 (0 : Int32)))
set_option maxRecDepth 65536 in
set_option maxHeartbeats 4000000 in
theorem b0_497 {p : Program} {l : Launch} {e : Env} {s : State} {m : MethodId} {args : Array Value} {below : List Frame} {meth : Method} {c : Code} {T0 : State} {locs : List Loc} {Z : State} {a0 : Array Value} {h0 : Heap} {n0 : Nat} {kq0 : ClassId} {kq1 : ClassId} {kq2 : ClassId} {kq3 : ClassId} (i0 : Int32) (i1 : Int32) (i2 : Int32) (i3 : Int32) (i4 : Int32) (r0 : Addr) (r1 : Addr) (r2 : Addr) (r3 : Addr) (i9 : Int32) (i10 : Int32) (i11 : Int32) (i12 : Int32) (i13 : Int32) (i14 : Int32) (X0 : Stand p l e room_1 s m args below meth c T0 locs 4 60) (hx : p.tables.exec = Jvm.exec) (hZ : Z.Warmed39 s.vm) (hw : ∀ d ∈ tables_1, d.before a0 Z = true) (hby : c.code = code) (hml : c.maxLocals = 16) (hown : s.vm.findClass "com/example/reshape/reshape/tree/XmlNamesIsNameStartCharPinLaw" = some m.cls) (e0 : T0.heap = h0) (N0 : Fr n0 locs) (Z0 : n0 ≤ h0.size) (V0 : Arv Z h0 r0 kq0 .int (15 : Int32) (own_vals0.map Value.int) (.int 0)) (V1 : Arv Z h0 r1 kq1 .int (15 : Int32) (own_vals1.map Value.int) (.int 0)) (V2 : Arv Z h0 r2 kq2 .int (15 : Int32) (own_vals2.map Value.int) (.int 0)) (V3 : Arv Z h0 r3 kq3 .int (15 : Int32) (own_vals3.map Value.int) (.int 0)) :
    own_Ret p l e room_1 s m args below meth c h0 n0 4 60 T0 (mkF m 497 #[.val (.int i0), .val (.int i1), .val (.int i2), .val (.int i3), .val (.int i4), .val (.ref r0), .val (.ref r1), .val (.ref r2), .val (.ref r3), .val (.int i9), .val (.int i10), .val (.int i11), .val (.int i12), .val (.int i13), .val (.int i14), .unset] []) (own_b (f0_497 i0 i1 i2 i3 i4 i9 i10 i11 i12 i13 i14)) := by
  unfold f0_497
  refine own_step (T1 := T0) (g1 := (mkF m 499 #[.val (.int i0), .val (.int i1), .val (.int i2), .val (.int i3), .val (.int i4), .val (.ref r0), .val (.ref r1), .val (.ref r2), .val (.ref r3), .val (.int i9), .val (.int i10), .val (.int i11), .val (.int i12), .val (.int i13), .val (.int i14), .unset] [(.int i4)])) (fun _ k => XS.iload X0.here hx rfl (hb hby at_497) rfl k) ?_
  obtain ⟨_, _, ⟨T1, L1, k1, n1⟩, -, X1, ⟨Lc1, hQ1, l1, y1, z1⟩, st1⟩ := Jvm.LawKit.callS X0 hx (y := (⟨"com/example/reshape/reshape/tree/XmlNames", "isNameStartChar", "(I)Z"⟩ : MethodName)) hown (mvT hZ (hw _ (List.mem_of_getElem? (i := 15) rfl))) (mvT hZ (hw _ (List.mem_of_getElem? (i := 16) rfl))) (mvT hZ (hw _ (List.mem_of_getElem? (i := 17) rfl))) (mvT hZ (hw _ (List.mem_of_getElem? (i := 18) rfl))) (by decide) (backOf (W := 0) (rm1 l Z a0 hw [] i4 h0 n0 Z0) hZ (hw _ (List.mem_of_getElem? (i := 18) rfl)) (hw _ (List.mem_of_getElem? (i := 17) rfl)) (by decide) (by decide)) (g := (mkF m 499 #[.val (.int i0), .val (.int i1), .val (.int i2), .val (.int i3), .val (.int i4), .val (.ref r0), .val (.ref r1), .val (.ref r2), .val (.ref r3), .val (.int i9), .val (.int i10), .val (.int i11), .val (.int i12), .val (.int i13), .val (.int i14), .unset] [(.int i4)])) rfl (by rw [hml]; rfl) (argsL := [(.int i4)]) (rest := []) (lenOf own_pd_I_Z rfl) rfl (by show 2 * 0 + _ ≤ _; exact Nat.le_of_eq rfl) (hb hby at_499) (fun _ _ => ⟨rfl, e0, (by decide : 4 + 0 ≤ _), (by decide : 60 + 0 ≤ _)⟩)
  dsimp only [Pt.U, Pt.locs, Pt.cells, Pt.slots] at X1 l1 y1 z1 st1 hQ1
  subst l1 y1 z1
  obtain ⟨rfl, N1q, e1⟩ := hQ1
  have N1 := Fr.app N0 N1q
  refine own_step (T1 := T1) (g1 := (mkF m 502 #[.val (.int i0), .val (.int i1), .val (.int i2), .val (.int i3), .val (.int i4), .val (.ref r0), .val (.ref r1), .val (.ref r2), .val (.ref r3), .val (.int i9), .val (.int i10), .val (.int i11), .val (.int i12), .val (.int i13), .val (.int i14), .unset] [(.int (own_b (f1_0 i4)))])) (fun t k => st1 t k) ?_
  by_cases hc502 : (f1_0 i4) = false
  · rw [if_pos hc502]
    refine own_step (T1 := T1) (g1 := (mkF m 505 #[.val (.int i0), .val (.int i1), .val (.int i2), .val (.int i3), .val (.int i4), .val (.ref r0), .val (.ref r1), .val (.ref r2), .val (.ref r3), .val (.int i9), .val (.int i10), .val (.int i11), .val (.int i12), .val (.int i13), .val (.int i14), .unset] [])) (fun _ k => XS.ifNo X1.here hx rfl (hb hby at_502) rfl ((if0 _ _).trans (teq (own_b0 hc502)).2) k) ?_
    exact b0_505 i0 i1 i2 i3 i4 r0 r1 r2 r3 i9 i10 i11 i12 i13 i14 X1 hx hZ hw hby hml hown e1 N1 Z0 V0 V1 V2 V3
  · rw [if_neg hc502]
    refine own_step (T1 := T1) (g1 := (mkF m 509 #[.val (.int i0), .val (.int i1), .val (.int i2), .val (.int i3), .val (.int i4), .val (.ref r0), .val (.ref r1), .val (.ref r2), .val (.ref r3), .val (.int i9), .val (.int i10), .val (.int i11), .val (.int i12), .val (.int i13), .val (.int i14), .unset] [])) (fun _ k => XS.ifYes X1.here hx rfl (pc0 := 502) (pc' := 509) rfl (hb hby at_502) rfl ((if0 _ _).trans (feq (own_b1 hc502)).2) (by decide) (by decide) k) ?_
    refine own_step (T1 := T1) (g1 := (mkF m 510 #[.val (.int i0), .val (.int i1), .val (.int i2), .val (.int i3), .val (.int i4), .val (.ref r0), .val (.ref r1), .val (.ref r2), .val (.ref r3), .val (.int i9), .val (.int i10), .val (.int i11), .val (.int i12), .val (.int i13), .val (.int i14), .unset] [(.int (0 : Int32))])) (fun _ k => XS.iconst X1.here hx rfl (hb hby at_509) k) ?_
    exact b0_510 i0 i1 i2 i3 i4 r0 r1 r2 r3 i9 i10 i11 i12 i13 i14 (0 : Int32) X1 hx hZ hw hby hml hown e1 N1 Z0 V0 V1 V2 V3
def f0_483 (i0 : Int32) (i1 : Int32) (i2 : Int32) (i3 : Int32) (i4 : Int32) (i9 : Int32) (i10 : Int32) (i11 : Int32) (i12 : Int32) (i13 : Int32) (k0 : Int32) : Bool := (if i4 < (0 : Int32) then (f0_497 i0 i1 i2 i3 i4 i9 i10 i11 i12 i13 k0) else (if (983039 : Int32) < i4 then (f0_497 i0 i1 i2 i3 i4 i9 i10 i11 i12 i13 k0) else (f0_505 i0 i1 i2 i3 i4 i9 i10 i11 i12 i13 k0)))
set_option maxRecDepth 65536 in
set_option maxHeartbeats 4000000 in
theorem b0_483 {p : Program} {l : Launch} {e : Env} {s : State} {m : MethodId} {args : Array Value} {below : List Frame} {meth : Method} {c : Code} {T0 : State} {locs : List Loc} {Z : State} {a0 : Array Value} {h0 : Heap} {n0 : Nat} {kq0 : ClassId} {kq1 : ClassId} {kq2 : ClassId} {kq3 : ClassId} (i0 : Int32) (i1 : Int32) (i2 : Int32) (i3 : Int32) (i4 : Int32) (r0 : Addr) (r1 : Addr) (r2 : Addr) (r3 : Addr) (i9 : Int32) (i10 : Int32) (i11 : Int32) (i12 : Int32) (i13 : Int32) (k0 : Int32) (X0 : Stand p l e room_1 s m args below meth c T0 locs 4 60) (hx : p.tables.exec = Jvm.exec) (hZ : Z.Warmed39 s.vm) (hw : ∀ d ∈ tables_1, d.before a0 Z = true) (hby : c.code = code) (hml : c.maxLocals = 16) (hown : s.vm.findClass "com/example/reshape/reshape/tree/XmlNamesIsNameStartCharPinLaw" = some m.cls) (e0 : T0.heap = h0) (N0 : Fr n0 locs) (Z0 : n0 ≤ h0.size) (V0 : Arv Z h0 r0 kq0 .int (15 : Int32) (own_vals0.map Value.int) (.int 0)) (V1 : Arv Z h0 r1 kq1 .int (15 : Int32) (own_vals1.map Value.int) (.int 0)) (V2 : Arv Z h0 r2 kq2 .int (15 : Int32) (own_vals2.map Value.int) (.int 0)) (V3 : Arv Z h0 r3 kq3 .int (15 : Int32) (own_vals3.map Value.int) (.int 0)) :
    own_Ret p l e room_1 s m args below meth c h0 n0 4 60 T0 (mkF m 483 #[.val (.int i0), .val (.int i1), .val (.int i2), .val (.int i3), .val (.int i4), .val (.ref r0), .val (.ref r1), .val (.ref r2), .val (.ref r3), .val (.int i9), .val (.int i10), .val (.int i11), .val (.int i12), .val (.int i13), .unset, .unset] [(.int k0)]) (own_b (f0_483 i0 i1 i2 i3 i4 i9 i10 i11 i12 i13 k0)) := by
  unfold f0_483
  refine own_step (T1 := T0) (g1 := (mkF m 485 #[.val (.int i0), .val (.int i1), .val (.int i2), .val (.int i3), .val (.int i4), .val (.ref r0), .val (.ref r1), .val (.ref r2), .val (.ref r3), .val (.int i9), .val (.int i10), .val (.int i11), .val (.int i12), .val (.int i13), .val (.int k0), .unset] [])) (fun _ k => XS.istore X0.here hx rfl (hb hby at_483) rfl (l' := #[.val (.int i0), .val (.int i1), .val (.int i2), .val (.int i3), .val (.int i4), .val (.ref r0), .val (.ref r1), .val (.ref r2), .val (.ref r3), .val (.int i9), .val (.int i10), .val (.int i11), .val (.int i12), .val (.int i13), .val (.int k0), .unset]) rfl k) ?_
  refine own_step (T1 := T0) (g1 := (mkF m 487 #[.val (.int i0), .val (.int i1), .val (.int i2), .val (.int i3), .val (.int i4), .val (.ref r0), .val (.ref r1), .val (.ref r2), .val (.ref r3), .val (.int i9), .val (.int i10), .val (.int i11), .val (.int i12), .val (.int i13), .val (.int k0), .unset] [(.int i4)])) (fun _ k => XS.iload X0.here hx rfl (hb hby at_485) rfl k) ?_
  by_cases hc487 : i4 < (0 : Int32)
  · rw [if_pos hc487]
    refine own_step (T1 := T0) (g1 := (mkF m 497 #[.val (.int i0), .val (.int i1), .val (.int i2), .val (.int i3), .val (.int i4), .val (.ref r0), .val (.ref r1), .val (.ref r2), .val (.ref r3), .val (.int i9), .val (.int i10), .val (.int i11), .val (.int i12), .val (.int i13), .val (.int k0), .unset] [])) (fun _ k => XS.ifYes X0.here hx rfl (pc0 := 487) (pc' := 497) rfl (hb hby at_487) rfl ((if0 _ _).trans (tlt hc487).1) (by decide) (by decide) k) ?_
    exact b0_497 i0 i1 i2 i3 i4 r0 r1 r2 r3 i9 i10 i11 i12 i13 k0 X0 hx hZ hw hby hml hown e0 N0 Z0 V0 V1 V2 V3
  · rw [if_neg hc487]
    refine own_step (T1 := T0) (g1 := (mkF m 490 #[.val (.int i0), .val (.int i1), .val (.int i2), .val (.int i3), .val (.int i4), .val (.ref r0), .val (.ref r1), .val (.ref r2), .val (.ref r3), .val (.int i9), .val (.int i10), .val (.int i11), .val (.int i12), .val (.int i13), .val (.int k0), .unset] [])) (fun _ k => XS.ifNo X0.here hx rfl (hb hby at_487) rfl ((if0 _ _).trans (flt hc487).1) k) ?_
    refine own_step (T1 := T0) (g1 := (mkF m 492 #[.val (.int i0), .val (.int i1), .val (.int i2), .val (.int i3), .val (.int i4), .val (.ref r0), .val (.ref r1), .val (.ref r2), .val (.ref r3), .val (.int i9), .val (.int i10), .val (.int i11), .val (.int i12), .val (.int i13), .val (.int k0), .unset] [(.int i4)])) (fun _ k => XS.iload X0.here hx rfl (hb hby at_490) rfl k) ?_
    refine own_step (T1 := T0) (g1 := (mkF m 494 #[.val (.int i0), .val (.int i1), .val (.int i2), .val (.int i3), .val (.int i4), .val (.ref r0), .val (.ref r1), .val (.ref r2), .val (.ref r3), .val (.int i9), .val (.int i10), .val (.int i11), .val (.int i12), .val (.int i13), .val (.int k0), .unset] [(.int (983039 : Int32)), (.int i4)])) (fun _ k => X0.ldcInt hx hown (mvT hZ (hw _ (List.mem_of_getElem? (i := 7) rfl))) (g := (mkF m 492 #[.val (.int i0), .val (.int i1), .val (.int i2), .val (.int i3), .val (.int i4), .val (.ref r0), .val (.ref r1), .val (.ref r2), .val (.ref r3), .val (.int i9), .val (.int i10), .val (.int i11), .val (.int i12), .val (.int i13), .val (.int k0), .unset] [(.int i4)])) rfl (hb hby at_492) _ k) ?_
    by_cases hc494 : (983039 : Int32) < i4
    · rw [if_pos hc494]
      refine own_step (T1 := T0) (g1 := (mkF m 497 #[.val (.int i0), .val (.int i1), .val (.int i2), .val (.int i3), .val (.int i4), .val (.ref r0), .val (.ref r1), .val (.ref r2), .val (.ref r3), .val (.int i9), .val (.int i10), .val (.int i11), .val (.int i12), .val (.int i13), .val (.int k0), .unset] [])) (fun _ k => XS.icmpNo X0.here hx rfl (hb hby at_494) rfl (tlt hc494).2.2.2 k) ?_
      exact b0_497 i0 i1 i2 i3 i4 r0 r1 r2 r3 i9 i10 i11 i12 i13 k0 X0 hx hZ hw hby hml hown e0 N0 Z0 V0 V1 V2 V3
    · rw [if_neg hc494]
      refine own_step (T1 := T0) (g1 := (mkF m 505 #[.val (.int i0), .val (.int i1), .val (.int i2), .val (.int i3), .val (.int i4), .val (.ref r0), .val (.ref r1), .val (.ref r2), .val (.ref r3), .val (.int i9), .val (.int i10), .val (.int i11), .val (.int i12), .val (.int i13), .val (.int k0), .unset] [])) (fun _ k => XS.icmpYes X0.here hx rfl (pc0 := 494) (pc' := 505) rfl (hb hby at_494) rfl (flt hc494).2.2.2 (by decide) (by decide) k) ?_
      exact b0_505 i0 i1 i2 i3 i4 r0 r1 r2 r3 i9 i10 i11 i12 i13 k0 X0 hx hZ hw hby hml hown e0 N0 Z0 V0 V1 V2 V3
def f0_463 (i0 : Int32) (i1 : Int32) (i2 : Int32) (i3 : Int32) (i4 : Int32) (i9 : Int32) (i10 : Int32) (i11 : Int32) (i12 : Int32) : Bool := (if (f1_0 i12) = false then (f0_483 i0 i1 i2 i3 i4 i9 i10 i11 i12 (own_b (f1_0 i10)) (1 : Int32)) else (f0_483 i0 i1 i2 i3 i4 i9 i10 i11 i12 (own_b (f1_0 i10)) (0 : Int32)))
set_option maxRecDepth 65536 in
set_option maxHeartbeats 4000000 in
theorem b0_463 {p : Program} {l : Launch} {e : Env} {s : State} {m : MethodId} {args : Array Value} {below : List Frame} {meth : Method} {c : Code} {T0 : State} {locs : List Loc} {Z : State} {a0 : Array Value} {h0 : Heap} {n0 : Nat} {kq0 : ClassId} {kq1 : ClassId} {kq2 : ClassId} {kq3 : ClassId} (i0 : Int32) (i1 : Int32) (i2 : Int32) (i3 : Int32) (i4 : Int32) (r0 : Addr) (r1 : Addr) (r2 : Addr) (r3 : Addr) (i9 : Int32) (i10 : Int32) (i11 : Int32) (i12 : Int32) (X0 : Stand p l e room_1 s m args below meth c T0 locs 4 60) (hx : p.tables.exec = Jvm.exec) (hZ : Z.Warmed39 s.vm) (hw : ∀ d ∈ tables_1, d.before a0 Z = true) (hby : c.code = code) (hml : c.maxLocals = 16) (hown : s.vm.findClass "com/example/reshape/reshape/tree/XmlNamesIsNameStartCharPinLaw" = some m.cls) (e0 : T0.heap = h0) (N0 : Fr n0 locs) (Z0 : n0 ≤ h0.size) (V0 : Arv Z h0 r0 kq0 .int (15 : Int32) (own_vals0.map Value.int) (.int 0)) (V1 : Arv Z h0 r1 kq1 .int (15 : Int32) (own_vals1.map Value.int) (.int 0)) (V2 : Arv Z h0 r2 kq2 .int (15 : Int32) (own_vals2.map Value.int) (.int 0)) (V3 : Arv Z h0 r3 kq3 .int (15 : Int32) (own_vals3.map Value.int) (.int 0)) :
    own_Ret p l e room_1 s m args below meth c h0 n0 4 60 T0 (mkF m 463 #[.val (.int i0), .val (.int i1), .val (.int i2), .val (.int i3), .val (.int i4), .val (.ref r0), .val (.ref r1), .val (.ref r2), .val (.ref r3), .val (.int i9), .val (.int i10), .val (.int i11), .val (.int i12), .unset, .unset, .unset] []) (own_b (f0_463 i0 i1 i2 i3 i4 i9 i10 i11 i12)) := by
  unfold f0_463
  refine own_step (T1 := T0) (g1 := (mkF m 465 #[.val (.int i0), .val (.int i1), .val (.int i2), .val (.int i3), .val (.int i4), .val (.ref r0), .val (.ref r1), .val (.ref r2), .val (.ref r3), .val (.int i9), .val (.int i10), .val (.int i11), .val (.int i12), .unset, .unset, .unset] [(.int i10)])) (fun _ k => XS.iload X0.here hx rfl (hb hby at_463) rfl k) ?_
  obtain ⟨_, _, ⟨T2, L2, k2, n2⟩, -, X2, ⟨Lc2, hQ2, l2, y2, z2⟩, st2⟩ := Jvm.LawKit.callS X0 hx (y := (⟨"com/example/reshape/reshape/tree/XmlNames", "isNameStartChar", "(I)Z"⟩ : MethodName)) hown (mvT hZ (hw _ (List.mem_of_getElem? (i := 15) rfl))) (mvT hZ (hw _ (List.mem_of_getElem? (i := 16) rfl))) (mvT hZ (hw _ (List.mem_of_getElem? (i := 17) rfl))) (mvT hZ (hw _ (List.mem_of_getElem? (i := 18) rfl))) (by decide) (backOf (W := 0) (rm1 l Z a0 hw [] i10 h0 n0 Z0) hZ (hw _ (List.mem_of_getElem? (i := 18) rfl)) (hw _ (List.mem_of_getElem? (i := 17) rfl)) (by decide) (by decide)) (g := (mkF m 465 #[.val (.int i0), .val (.int i1), .val (.int i2), .val (.int i3), .val (.int i4), .val (.ref r0), .val (.ref r1), .val (.ref r2), .val (.ref r3), .val (.int i9), .val (.int i10), .val (.int i11), .val (.int i12), .unset, .unset, .unset] [(.int i10)])) rfl (by rw [hml]; rfl) (argsL := [(.int i10)]) (rest := []) (lenOf own_pd_I_Z rfl) rfl (by show 2 * 0 + _ ≤ _; exact Nat.le_of_eq rfl) (hb hby at_465) (fun _ _ => ⟨rfl, e0, (by decide : 4 + 0 ≤ _), (by decide : 60 + 0 ≤ _)⟩)
  dsimp only [Pt.U, Pt.locs, Pt.cells, Pt.slots] at X2 l2 y2 z2 st2 hQ2
  subst l2 y2 z2
  obtain ⟨rfl, N2q, e2⟩ := hQ2
  have N2 := Fr.app N0 N2q
  refine own_step (T1 := T2) (g1 := (mkF m 468 #[.val (.int i0), .val (.int i1), .val (.int i2), .val (.int i3), .val (.int i4), .val (.ref r0), .val (.ref r1), .val (.ref r2), .val (.ref r3), .val (.int i9), .val (.int i10), .val (.int i11), .val (.int i12), .unset, .unset, .unset] [(.int (own_b (f1_0 i10)))])) (fun t k => st2 t k) ?_
  refine own_step (T1 := T2) (g1 := (mkF m 470 #[.val (.int i0), .val (.int i1), .val (.int i2), .val (.int i3), .val (.int i4), .val (.ref r0), .val (.ref r1), .val (.ref r2), .val (.ref r3), .val (.int i9), .val (.int i10), .val (.int i11), .val (.int i12), .val (.int (own_b (f1_0 i10))), .unset, .unset] [])) (fun _ k => XS.istore X2.here hx rfl (hb hby at_468) rfl (l' := #[.val (.int i0), .val (.int i1), .val (.int i2), .val (.int i3), .val (.int i4), .val (.ref r0), .val (.ref r1), .val (.ref r2), .val (.ref r3), .val (.int i9), .val (.int i10), .val (.int i11), .val (.int i12), .val (.int (own_b (f1_0 i10))), .unset, .unset]) rfl k) ?_
  refine own_step (T1 := T2) (g1 := (mkF m 472 #[.val (.int i0), .val (.int i1), .val (.int i2), .val (.int i3), .val (.int i4), .val (.ref r0), .val (.ref r1), .val (.ref r2), .val (.ref r3), .val (.int i9), .val (.int i10), .val (.int i11), .val (.int i12), .val (.int (own_b (f1_0 i10))), .unset, .unset] [(.int i12)])) (fun _ k => XS.iload X2.here hx rfl (hb hby at_470) rfl k) ?_
  obtain ⟨_, _, ⟨T3, L3, k3, n3⟩, -, X3, ⟨Lc3, hQ3, l3, y3, z3⟩, st3⟩ := Jvm.LawKit.callS X2 hx (y := (⟨"com/example/reshape/reshape/tree/XmlNames", "isNameStartChar", "(I)Z"⟩ : MethodName)) hown (mvT hZ (hw _ (List.mem_of_getElem? (i := 15) rfl))) (mvT hZ (hw _ (List.mem_of_getElem? (i := 16) rfl))) (mvT hZ (hw _ (List.mem_of_getElem? (i := 17) rfl))) (mvT hZ (hw _ (List.mem_of_getElem? (i := 18) rfl))) (by decide) (backOf (W := 0) (rm1 l Z a0 hw [] i12 h0 n0 Z0) hZ (hw _ (List.mem_of_getElem? (i := 18) rfl)) (hw _ (List.mem_of_getElem? (i := 17) rfl)) (by decide) (by decide)) (g := (mkF m 472 #[.val (.int i0), .val (.int i1), .val (.int i2), .val (.int i3), .val (.int i4), .val (.ref r0), .val (.ref r1), .val (.ref r2), .val (.ref r3), .val (.int i9), .val (.int i10), .val (.int i11), .val (.int i12), .val (.int (own_b (f1_0 i10))), .unset, .unset] [(.int i12)])) rfl (by rw [hml]; rfl) (argsL := [(.int i12)]) (rest := []) (lenOf own_pd_I_Z rfl) rfl (by show 2 * 0 + _ ≤ _; exact Nat.le_of_eq rfl) (hb hby at_472) (fun _ _ => ⟨rfl, e2, (by decide : 4 + 0 ≤ _), (by decide : 60 + 0 ≤ _)⟩)
  dsimp only [Pt.U, Pt.locs, Pt.cells, Pt.slots] at X3 l3 y3 z3 st3 hQ3
  subst l3 y3 z3
  obtain ⟨rfl, N3q, e3⟩ := hQ3
  have N3 := Fr.app N2 N3q
  refine own_step (T1 := T3) (g1 := (mkF m 475 #[.val (.int i0), .val (.int i1), .val (.int i2), .val (.int i3), .val (.int i4), .val (.ref r0), .val (.ref r1), .val (.ref r2), .val (.ref r3), .val (.int i9), .val (.int i10), .val (.int i11), .val (.int i12), .val (.int (own_b (f1_0 i10))), .unset, .unset] [(.int (own_b (f1_0 i12)))])) (fun t k => st3 t k) ?_
  by_cases hc475 : (f1_0 i12) = false
  · rw [if_pos hc475]
    refine own_step (T1 := T3) (g1 := (mkF m 478 #[.val (.int i0), .val (.int i1), .val (.int i2), .val (.int i3), .val (.int i4), .val (.ref r0), .val (.ref r1), .val (.ref r2), .val (.ref r3), .val (.int i9), .val (.int i10), .val (.int i11), .val (.int i12), .val (.int (own_b (f1_0 i10))), .unset, .unset] [])) (fun _ k => XS.ifNo X3.here hx rfl (hb hby at_475) rfl ((if0 _ _).trans (teq (own_b0 hc475)).2) k) ?_
    refine own_step (T1 := T3) (g1 := (mkF m 479 #[.val (.int i0), .val (.int i1), .val (.int i2), .val (.int i3), .val (.int i4), .val (.ref r0), .val (.ref r1), .val (.ref r2), .val (.ref r3), .val (.int i9), .val (.int i10), .val (.int i11), .val (.int i12), .val (.int (own_b (f1_0 i10))), .unset, .unset] [(.int (1 : Int32))])) (fun _ k => XS.iconst X3.here hx rfl (hb hby at_478) k) ?_
    refine own_step (T1 := T3) (g1 := (mkF m 483 #[.val (.int i0), .val (.int i1), .val (.int i2), .val (.int i3), .val (.int i4), .val (.ref r0), .val (.ref r1), .val (.ref r2), .val (.ref r3), .val (.int i9), .val (.int i10), .val (.int i11), .val (.int i12), .val (.int (own_b (f1_0 i10))), .unset, .unset] [(.int (1 : Int32))])) (fun _ k => XS.goto X3.here hx rfl (pc0 := 479) (pc' := 483) rfl (hb hby at_479) (by decide) (by decide) k) ?_
    exact b0_483 i0 i1 i2 i3 i4 r0 r1 r2 r3 i9 i10 i11 i12 (own_b (f1_0 i10)) (1 : Int32) X3 hx hZ hw hby hml hown e3 N3 Z0 V0 V1 V2 V3
  · rw [if_neg hc475]
    refine own_step (T1 := T3) (g1 := (mkF m 482 #[.val (.int i0), .val (.int i1), .val (.int i2), .val (.int i3), .val (.int i4), .val (.ref r0), .val (.ref r1), .val (.ref r2), .val (.ref r3), .val (.int i9), .val (.int i10), .val (.int i11), .val (.int i12), .val (.int (own_b (f1_0 i10))), .unset, .unset] [])) (fun _ k => XS.ifYes X3.here hx rfl (pc0 := 475) (pc' := 482) rfl (hb hby at_475) rfl ((if0 _ _).trans (feq (own_b1 hc475)).2) (by decide) (by decide) k) ?_
    refine own_step (T1 := T3) (g1 := (mkF m 483 #[.val (.int i0), .val (.int i1), .val (.int i2), .val (.int i3), .val (.int i4), .val (.ref r0), .val (.ref r1), .val (.ref r2), .val (.ref r3), .val (.int i9), .val (.int i10), .val (.int i11), .val (.int i12), .val (.int (own_b (f1_0 i10))), .unset, .unset] [(.int (0 : Int32))])) (fun _ k => XS.iconst X3.here hx rfl (hb hby at_482) k) ?_
    exact b0_483 i0 i1 i2 i3 i4 r0 r1 r2 r3 i9 i10 i11 i12 (own_b (f1_0 i10)) (0 : Int32) X3 hx hZ hw hby hml hown e3 N3 Z0 V0 V1 V2 V3
def f0_428 (i0 : Int32) (i1 : Int32) (i2 : Int32) (i3 : Int32) (i4 : Int32) (i9 : Int32) (i10 : Int32) : Bool := (f0_463 i0 i1 i2 i3 i4 i9 i10 ((i2 &&& (2147483647 : Int32)) % (15 : Int32)) ((own_vals2.getD (((i2 &&& (2147483647 : Int32)) % (15 : Int32))).toNatClampNeg 0) + ((i3 &&& (2147483647 : Int32)) % (((own_vals3.getD (((i2 &&& (2147483647 : Int32)) % (15 : Int32))).toNatClampNeg 0) - (own_vals2.getD (((i2 &&& (2147483647 : Int32)) % (15 : Int32))).toNatClampNeg 0)) + (1 : Int32)))))
set_option maxRecDepth 65536 in
set_option maxHeartbeats 4000000 in
theorem b0_428 {p : Program} {l : Launch} {e : Env} {s : State} {m : MethodId} {args : Array Value} {below : List Frame} {meth : Method} {c : Code} {T0 : State} {locs : List Loc} {Z : State} {a0 : Array Value} {h0 : Heap} {n0 : Nat} {kq0 : ClassId} {kq1 : ClassId} {kq2 : ClassId} {kq3 : ClassId} (i0 : Int32) (i1 : Int32) (i2 : Int32) (i3 : Int32) (i4 : Int32) (r0 : Addr) (r1 : Addr) (r2 : Addr) (r3 : Addr) (i9 : Int32) (i10 : Int32) (X0 : Stand p l e room_1 s m args below meth c T0 locs 4 60) (hx : p.tables.exec = Jvm.exec) (hZ : Z.Warmed39 s.vm) (hw : ∀ d ∈ tables_1, d.before a0 Z = true) (hby : c.code = code) (hml : c.maxLocals = 16) (hown : s.vm.findClass "com/example/reshape/reshape/tree/XmlNamesIsNameStartCharPinLaw" = some m.cls) (e0 : T0.heap = h0) (N0 : Fr n0 locs) (Z0 : n0 ≤ h0.size) (V0 : Arv Z h0 r0 kq0 .int (15 : Int32) (own_vals0.map Value.int) (.int 0)) (V1 : Arv Z h0 r1 kq1 .int (15 : Int32) (own_vals1.map Value.int) (.int 0)) (V2 : Arv Z h0 r2 kq2 .int (15 : Int32) (own_vals2.map Value.int) (.int 0)) (V3 : Arv Z h0 r3 kq3 .int (15 : Int32) (own_vals3.map Value.int) (.int 0)) :
    own_Ret p l e room_1 s m args below meth c h0 n0 4 60 T0 (mkF m 428 #[.val (.int i0), .val (.int i1), .val (.int i2), .val (.int i3), .val (.int i4), .val (.ref r0), .val (.ref r1), .val (.ref r2), .val (.ref r3), .val (.int i9), .val (.int i10), .unset, .unset, .unset, .unset, .unset] []) (own_b (f0_428 i0 i1 i2 i3 i4 i9 i10)) := by
  unfold f0_428
  refine own_step (T1 := T0) (g1 := (mkF m 429 #[.val (.int i0), .val (.int i1), .val (.int i2), .val (.int i3), .val (.int i4), .val (.ref r0), .val (.ref r1), .val (.ref r2), .val (.ref r3), .val (.int i9), .val (.int i10), .unset, .unset, .unset, .unset, .unset] [(.int i2)])) (fun _ k => XS.iloadN X0.here hx rfl (hb hby at_428) rfl k) ?_
  refine own_step (T1 := T0) (g1 := (mkF m 431 #[.val (.int i0), .val (.int i1), .val (.int i2), .val (.int i3), .val (.int i4), .val (.ref r0), .val (.ref r1), .val (.ref r2), .val (.ref r3), .val (.int i9), .val (.int i10), .unset, .unset, .unset, .unset, .unset] [(.int (2147483647 : Int32)), (.int i2)])) (fun _ k => X0.ldcInt hx hown (mvT hZ (hw _ (List.mem_of_getElem? (i := 14) rfl))) (g := (mkF m 429 #[.val (.int i0), .val (.int i1), .val (.int i2), .val (.int i3), .val (.int i4), .val (.ref r0), .val (.ref r1), .val (.ref r2), .val (.ref r3), .val (.int i9), .val (.int i10), .unset, .unset, .unset, .unset, .unset] [(.int i2)])) rfl (hb hby at_429) _ k) ?_
  refine own_step (T1 := T0) (g1 := (mkF m 432 #[.val (.int i0), .val (.int i1), .val (.int i2), .val (.int i3), .val (.int i4), .val (.ref r0), .val (.ref r1), .val (.ref r2), .val (.ref r3), .val (.int i9), .val (.int i10), .unset, .unset, .unset, .unset, .unset] [(.int (i2 &&& (2147483647 : Int32)))])) (fun _ k => XS.iand X0.here hx rfl (hb hby at_431) rfl k) ?_
  refine own_step (T1 := T0) (g1 := (mkF m 434 #[.val (.int i0), .val (.int i1), .val (.int i2), .val (.int i3), .val (.int i4), .val (.ref r0), .val (.ref r1), .val (.ref r2), .val (.ref r3), .val (.int i9), .val (.int i10), .unset, .unset, .unset, .unset, .unset] [(.int (15 : Int32)), (.int (i2 &&& (2147483647 : Int32)))])) (fun _ k => XS.bipush X0.here hx rfl (hb hby at_432) k) ?_
  refine own_step (T1 := T0) (g1 := (mkF m 435 #[.val (.int i0), .val (.int i1), .val (.int i2), .val (.int i3), .val (.int i4), .val (.ref r0), .val (.ref r1), .val (.ref r2), .val (.ref r3), .val (.int i9), .val (.int i10), .unset, .unset, .unset, .unset, .unset] [(.int ((i2 &&& (2147483647 : Int32)) % (15 : Int32)))])) (fun _ k => iremM X0 hx rfl (hb hby at_434) rfl (by decide) k) ?_
  refine own_step (T1 := T0) (g1 := (mkF m 437 #[.val (.int i0), .val (.int i1), .val (.int i2), .val (.int i3), .val (.int i4), .val (.ref r0), .val (.ref r1), .val (.ref r2), .val (.ref r3), .val (.int i9), .val (.int i10), .val (.int ((i2 &&& (2147483647 : Int32)) % (15 : Int32))), .unset, .unset, .unset, .unset] [])) (fun _ k => XS.istore X0.here hx rfl (hb hby at_435) rfl (l' := #[.val (.int i0), .val (.int i1), .val (.int i2), .val (.int i3), .val (.int i4), .val (.ref r0), .val (.ref r1), .val (.ref r2), .val (.ref r3), .val (.int i9), .val (.int i10), .val (.int ((i2 &&& (2147483647 : Int32)) % (15 : Int32))), .unset, .unset, .unset, .unset]) rfl k) ?_
  refine own_step (T1 := T0) (g1 := (mkF m 439 #[.val (.int i0), .val (.int i1), .val (.int i2), .val (.int i3), .val (.int i4), .val (.ref r0), .val (.ref r1), .val (.ref r2), .val (.ref r3), .val (.int i9), .val (.int i10), .val (.int ((i2 &&& (2147483647 : Int32)) % (15 : Int32))), .unset, .unset, .unset, .unset] [(.ref r2)])) (fun _ k => XS.aload X0.here hx rfl (hb hby at_437) rfl rfl k) ?_
  refine own_step (T1 := T0) (g1 := (mkF m 441 #[.val (.int i0), .val (.int i1), .val (.int i2), .val (.int i3), .val (.int i4), .val (.ref r0), .val (.ref r1), .val (.ref r2), .val (.ref r3), .val (.int i9), .val (.int i10), .val (.int ((i2 &&& (2147483647 : Int32)) % (15 : Int32))), .unset, .unset, .unset, .unset] [(.int ((i2 &&& (2147483647 : Int32)) % (15 : Int32))), (.ref r2)])) (fun _ k => XS.iload X0.here hx rfl (hb hby at_439) rfl k) ?_
  obtain ⟨cl4, Ar4, hin4, hat4⟩ := own_at V2 (j := ((i2 &&& (2147483647 : Int32)) % (15 : Int32))) (own_inrem i2 _ (by decide))
  refine own_step (T1 := T0) (g1 := (mkF m 442 #[.val (.int i0), .val (.int i1), .val (.int i2), .val (.int i3), .val (.int i4), .val (.ref r0), .val (.ref r1), .val (.ref r2), .val (.ref r3), .val (.int i9), .val (.int i10), .val (.int ((i2 &&& (2147483647 : Int32)) % (15 : Int32))), .unset, .unset, .unset, .unset] [(.int (own_vals2.getD (((i2 &&& (2147483647 : Int32)) % (15 : Int32))).toNatClampNeg 0))])) (fun _ k => X0.iaload hx (j := ((i2 &&& (2147483647 : Int32)) % (15 : Int32))) (v := (.int (own_vals2.getD (((i2 &&& (2147483647 : Int32)) % (15 : Int32))).toNatClampNeg 0))) (by rw [e0]; exact Ar4.1) (State.isArrayOf_alike hZ.alike Ar4.2.1) Ar4.2.2 hin4 hat4 (g := (mkF m 441 #[.val (.int i0), .val (.int i1), .val (.int i2), .val (.int i3), .val (.int i4), .val (.ref r0), .val (.ref r1), .val (.ref r2), .val (.ref r3), .val (.int i9), .val (.int i10), .val (.int ((i2 &&& (2147483647 : Int32)) % (15 : Int32))), .unset, .unset, .unset, .unset] [(.int ((i2 &&& (2147483647 : Int32)) % (15 : Int32))), (.ref r2)])) rfl rfl (hb hby at_441) _ k) ?_
  refine own_step (T1 := T0) (g1 := (mkF m 443 #[.val (.int i0), .val (.int i1), .val (.int i2), .val (.int i3), .val (.int i4), .val (.ref r0), .val (.ref r1), .val (.ref r2), .val (.ref r3), .val (.int i9), .val (.int i10), .val (.int ((i2 &&& (2147483647 : Int32)) % (15 : Int32))), .unset, .unset, .unset, .unset] [(.int i3), (.int (own_vals2.getD (((i2 &&& (2147483647 : Int32)) % (15 : Int32))).toNatClampNeg 0))])) (fun _ k => XS.iloadN X0.here hx rfl (hb hby at_442) rfl k) ?_
  refine own_step (T1 := T0) (g1 := (mkF m 445 #[.val (.int i0), .val (.int i1), .val (.int i2), .val (.int i3), .val (.int i4), .val (.ref r0), .val (.ref r1), .val (.ref r2), .val (.ref r3), .val (.int i9), .val (.int i10), .val (.int ((i2 &&& (2147483647 : Int32)) % (15 : Int32))), .unset, .unset, .unset, .unset] [(.int (2147483647 : Int32)), (.int i3), (.int (own_vals2.getD (((i2 &&& (2147483647 : Int32)) % (15 : Int32))).toNatClampNeg 0))])) (fun _ k => X0.ldcInt hx hown (mvT hZ (hw _ (List.mem_of_getElem? (i := 14) rfl))) (g := (mkF m 443 #[.val (.int i0), .val (.int i1), .val (.int i2), .val (.int i3), .val (.int i4), .val (.ref r0), .val (.ref r1), .val (.ref r2), .val (.ref r3), .val (.int i9), .val (.int i10), .val (.int ((i2 &&& (2147483647 : Int32)) % (15 : Int32))), .unset, .unset, .unset, .unset] [(.int i3), (.int (own_vals2.getD (((i2 &&& (2147483647 : Int32)) % (15 : Int32))).toNatClampNeg 0))])) rfl (hb hby at_443) _ k) ?_
  refine own_step (T1 := T0) (g1 := (mkF m 446 #[.val (.int i0), .val (.int i1), .val (.int i2), .val (.int i3), .val (.int i4), .val (.ref r0), .val (.ref r1), .val (.ref r2), .val (.ref r3), .val (.int i9), .val (.int i10), .val (.int ((i2 &&& (2147483647 : Int32)) % (15 : Int32))), .unset, .unset, .unset, .unset] [(.int (i3 &&& (2147483647 : Int32))), (.int (own_vals2.getD (((i2 &&& (2147483647 : Int32)) % (15 : Int32))).toNatClampNeg 0))])) (fun _ k => XS.iand X0.here hx rfl (hb hby at_445) rfl k) ?_
  refine own_step (T1 := T0) (g1 := (mkF m 448 #[.val (.int i0), .val (.int i1), .val (.int i2), .val (.int i3), .val (.int i4), .val (.ref r0), .val (.ref r1), .val (.ref r2), .val (.ref r3), .val (.int i9), .val (.int i10), .val (.int ((i2 &&& (2147483647 : Int32)) % (15 : Int32))), .unset, .unset, .unset, .unset] [(.ref r3), (.int (i3 &&& (2147483647 : Int32))), (.int (own_vals2.getD (((i2 &&& (2147483647 : Int32)) % (15 : Int32))).toNatClampNeg 0))])) (fun _ k => XS.aload X0.here hx rfl (hb hby at_446) rfl rfl k) ?_
  refine own_step (T1 := T0) (g1 := (mkF m 450 #[.val (.int i0), .val (.int i1), .val (.int i2), .val (.int i3), .val (.int i4), .val (.ref r0), .val (.ref r1), .val (.ref r2), .val (.ref r3), .val (.int i9), .val (.int i10), .val (.int ((i2 &&& (2147483647 : Int32)) % (15 : Int32))), .unset, .unset, .unset, .unset] [(.int ((i2 &&& (2147483647 : Int32)) % (15 : Int32))), (.ref r3), (.int (i3 &&& (2147483647 : Int32))), (.int (own_vals2.getD (((i2 &&& (2147483647 : Int32)) % (15 : Int32))).toNatClampNeg 0))])) (fun _ k => XS.iload X0.here hx rfl (hb hby at_448) rfl k) ?_
  obtain ⟨cl5, Ar5, hin5, hat5⟩ := own_at V3 (j := ((i2 &&& (2147483647 : Int32)) % (15 : Int32))) (own_inrem i2 _ (by decide))
  refine own_step (T1 := T0) (g1 := (mkF m 451 #[.val (.int i0), .val (.int i1), .val (.int i2), .val (.int i3), .val (.int i4), .val (.ref r0), .val (.ref r1), .val (.ref r2), .val (.ref r3), .val (.int i9), .val (.int i10), .val (.int ((i2 &&& (2147483647 : Int32)) % (15 : Int32))), .unset, .unset, .unset, .unset] [(.int (own_vals3.getD (((i2 &&& (2147483647 : Int32)) % (15 : Int32))).toNatClampNeg 0)), (.int (i3 &&& (2147483647 : Int32))), (.int (own_vals2.getD (((i2 &&& (2147483647 : Int32)) % (15 : Int32))).toNatClampNeg 0))])) (fun _ k => X0.iaload hx (j := ((i2 &&& (2147483647 : Int32)) % (15 : Int32))) (v := (.int (own_vals3.getD (((i2 &&& (2147483647 : Int32)) % (15 : Int32))).toNatClampNeg 0))) (by rw [e0]; exact Ar5.1) (State.isArrayOf_alike hZ.alike Ar5.2.1) Ar5.2.2 hin5 hat5 (g := (mkF m 450 #[.val (.int i0), .val (.int i1), .val (.int i2), .val (.int i3), .val (.int i4), .val (.ref r0), .val (.ref r1), .val (.ref r2), .val (.ref r3), .val (.int i9), .val (.int i10), .val (.int ((i2 &&& (2147483647 : Int32)) % (15 : Int32))), .unset, .unset, .unset, .unset] [(.int ((i2 &&& (2147483647 : Int32)) % (15 : Int32))), (.ref r3), (.int (i3 &&& (2147483647 : Int32))), (.int (own_vals2.getD (((i2 &&& (2147483647 : Int32)) % (15 : Int32))).toNatClampNeg 0))])) rfl rfl (hb hby at_450) _ k) ?_
  refine own_step (T1 := T0) (g1 := (mkF m 453 #[.val (.int i0), .val (.int i1), .val (.int i2), .val (.int i3), .val (.int i4), .val (.ref r0), .val (.ref r1), .val (.ref r2), .val (.ref r3), .val (.int i9), .val (.int i10), .val (.int ((i2 &&& (2147483647 : Int32)) % (15 : Int32))), .unset, .unset, .unset, .unset] [(.ref r2), (.int (own_vals3.getD (((i2 &&& (2147483647 : Int32)) % (15 : Int32))).toNatClampNeg 0)), (.int (i3 &&& (2147483647 : Int32))), (.int (own_vals2.getD (((i2 &&& (2147483647 : Int32)) % (15 : Int32))).toNatClampNeg 0))])) (fun _ k => XS.aload X0.here hx rfl (hb hby at_451) rfl rfl k) ?_
  refine own_step (T1 := T0) (g1 := (mkF m 455 #[.val (.int i0), .val (.int i1), .val (.int i2), .val (.int i3), .val (.int i4), .val (.ref r0), .val (.ref r1), .val (.ref r2), .val (.ref r3), .val (.int i9), .val (.int i10), .val (.int ((i2 &&& (2147483647 : Int32)) % (15 : Int32))), .unset, .unset, .unset, .unset] [(.int ((i2 &&& (2147483647 : Int32)) % (15 : Int32))), (.ref r2), (.int (own_vals3.getD (((i2 &&& (2147483647 : Int32)) % (15 : Int32))).toNatClampNeg 0)), (.int (i3 &&& (2147483647 : Int32))), (.int (own_vals2.getD (((i2 &&& (2147483647 : Int32)) % (15 : Int32))).toNatClampNeg 0))])) (fun _ k => XS.iload X0.here hx rfl (hb hby at_453) rfl k) ?_
  obtain ⟨cl6, Ar6, hin6, hat6⟩ := own_at V2 (j := ((i2 &&& (2147483647 : Int32)) % (15 : Int32))) (own_inrem i2 _ (by decide))
  refine own_step (T1 := T0) (g1 := (mkF m 456 #[.val (.int i0), .val (.int i1), .val (.int i2), .val (.int i3), .val (.int i4), .val (.ref r0), .val (.ref r1), .val (.ref r2), .val (.ref r3), .val (.int i9), .val (.int i10), .val (.int ((i2 &&& (2147483647 : Int32)) % (15 : Int32))), .unset, .unset, .unset, .unset] [(.int (own_vals2.getD (((i2 &&& (2147483647 : Int32)) % (15 : Int32))).toNatClampNeg 0)), (.int (own_vals3.getD (((i2 &&& (2147483647 : Int32)) % (15 : Int32))).toNatClampNeg 0)), (.int (i3 &&& (2147483647 : Int32))), (.int (own_vals2.getD (((i2 &&& (2147483647 : Int32)) % (15 : Int32))).toNatClampNeg 0))])) (fun _ k => X0.iaload hx (j := ((i2 &&& (2147483647 : Int32)) % (15 : Int32))) (v := (.int (own_vals2.getD (((i2 &&& (2147483647 : Int32)) % (15 : Int32))).toNatClampNeg 0))) (by rw [e0]; exact Ar6.1) (State.isArrayOf_alike hZ.alike Ar6.2.1) Ar6.2.2 hin6 hat6 (g := (mkF m 455 #[.val (.int i0), .val (.int i1), .val (.int i2), .val (.int i3), .val (.int i4), .val (.ref r0), .val (.ref r1), .val (.ref r2), .val (.ref r3), .val (.int i9), .val (.int i10), .val (.int ((i2 &&& (2147483647 : Int32)) % (15 : Int32))), .unset, .unset, .unset, .unset] [(.int ((i2 &&& (2147483647 : Int32)) % (15 : Int32))), (.ref r2), (.int (own_vals3.getD (((i2 &&& (2147483647 : Int32)) % (15 : Int32))).toNatClampNeg 0)), (.int (i3 &&& (2147483647 : Int32))), (.int (own_vals2.getD (((i2 &&& (2147483647 : Int32)) % (15 : Int32))).toNatClampNeg 0))])) rfl rfl (hb hby at_455) _ k) ?_
  refine own_step (T1 := T0) (g1 := (mkF m 457 #[.val (.int i0), .val (.int i1), .val (.int i2), .val (.int i3), .val (.int i4), .val (.ref r0), .val (.ref r1), .val (.ref r2), .val (.ref r3), .val (.int i9), .val (.int i10), .val (.int ((i2 &&& (2147483647 : Int32)) % (15 : Int32))), .unset, .unset, .unset, .unset] [(.int ((own_vals3.getD (((i2 &&& (2147483647 : Int32)) % (15 : Int32))).toNatClampNeg 0) - (own_vals2.getD (((i2 &&& (2147483647 : Int32)) % (15 : Int32))).toNatClampNeg 0))), (.int (i3 &&& (2147483647 : Int32))), (.int (own_vals2.getD (((i2 &&& (2147483647 : Int32)) % (15 : Int32))).toNatClampNeg 0))])) (fun _ k => XS.isub X0.here hx rfl (hb hby at_456) rfl k) ?_
  refine own_step (T1 := T0) (g1 := (mkF m 458 #[.val (.int i0), .val (.int i1), .val (.int i2), .val (.int i3), .val (.int i4), .val (.ref r0), .val (.ref r1), .val (.ref r2), .val (.ref r3), .val (.int i9), .val (.int i10), .val (.int ((i2 &&& (2147483647 : Int32)) % (15 : Int32))), .unset, .unset, .unset, .unset] [(.int (1 : Int32)), (.int ((own_vals3.getD (((i2 &&& (2147483647 : Int32)) % (15 : Int32))).toNatClampNeg 0) - (own_vals2.getD (((i2 &&& (2147483647 : Int32)) % (15 : Int32))).toNatClampNeg 0))), (.int (i3 &&& (2147483647 : Int32))), (.int (own_vals2.getD (((i2 &&& (2147483647 : Int32)) % (15 : Int32))).toNatClampNeg 0))])) (fun _ k => XS.iconst X0.here hx rfl (hb hby at_457) k) ?_
  refine own_step (T1 := T0) (g1 := (mkF m 459 #[.val (.int i0), .val (.int i1), .val (.int i2), .val (.int i3), .val (.int i4), .val (.ref r0), .val (.ref r1), .val (.ref r2), .val (.ref r3), .val (.int i9), .val (.int i10), .val (.int ((i2 &&& (2147483647 : Int32)) % (15 : Int32))), .unset, .unset, .unset, .unset] [(.int (((own_vals3.getD (((i2 &&& (2147483647 : Int32)) % (15 : Int32))).toNatClampNeg 0) - (own_vals2.getD (((i2 &&& (2147483647 : Int32)) % (15 : Int32))).toNatClampNeg 0)) + (1 : Int32))), (.int (i3 &&& (2147483647 : Int32))), (.int (own_vals2.getD (((i2 &&& (2147483647 : Int32)) % (15 : Int32))).toNatClampNeg 0))])) (fun _ k => XS.iadd X0.here hx rfl (hb hby at_458) rfl k) ?_
  refine own_step (T1 := T0) (g1 := (mkF m 460 #[.val (.int i0), .val (.int i1), .val (.int i2), .val (.int i3), .val (.int i4), .val (.ref r0), .val (.ref r1), .val (.ref r2), .val (.ref r3), .val (.int i9), .val (.int i10), .val (.int ((i2 &&& (2147483647 : Int32)) % (15 : Int32))), .unset, .unset, .unset, .unset] [(.int ((i3 &&& (2147483647 : Int32)) % (((own_vals3.getD (((i2 &&& (2147483647 : Int32)) % (15 : Int32))).toNatClampNeg 0) - (own_vals2.getD (((i2 &&& (2147483647 : Int32)) % (15 : Int32))).toNatClampNeg 0)) + (1 : Int32)))), (.int (own_vals2.getD (((i2 &&& (2147483647 : Int32)) % (15 : Int32))).toNatClampNeg 0))])) (fun _ k => iremM X0 hx rfl (hb hby at_459) rfl (own_nz23 _ (own_inrem i2 _ (by decide))) k) ?_
  refine own_step (T1 := T0) (g1 := (mkF m 461 #[.val (.int i0), .val (.int i1), .val (.int i2), .val (.int i3), .val (.int i4), .val (.ref r0), .val (.ref r1), .val (.ref r2), .val (.ref r3), .val (.int i9), .val (.int i10), .val (.int ((i2 &&& (2147483647 : Int32)) % (15 : Int32))), .unset, .unset, .unset, .unset] [(.int ((own_vals2.getD (((i2 &&& (2147483647 : Int32)) % (15 : Int32))).toNatClampNeg 0) + ((i3 &&& (2147483647 : Int32)) % (((own_vals3.getD (((i2 &&& (2147483647 : Int32)) % (15 : Int32))).toNatClampNeg 0) - (own_vals2.getD (((i2 &&& (2147483647 : Int32)) % (15 : Int32))).toNatClampNeg 0)) + (1 : Int32)))))])) (fun _ k => XS.iadd X0.here hx rfl (hb hby at_460) rfl k) ?_
  refine own_step (T1 := T0) (g1 := (mkF m 463 #[.val (.int i0), .val (.int i1), .val (.int i2), .val (.int i3), .val (.int i4), .val (.ref r0), .val (.ref r1), .val (.ref r2), .val (.ref r3), .val (.int i9), .val (.int i10), .val (.int ((i2 &&& (2147483647 : Int32)) % (15 : Int32))), .val (.int ((own_vals2.getD (((i2 &&& (2147483647 : Int32)) % (15 : Int32))).toNatClampNeg 0) + ((i3 &&& (2147483647 : Int32)) % (((own_vals3.getD (((i2 &&& (2147483647 : Int32)) % (15 : Int32))).toNatClampNeg 0) - (own_vals2.getD (((i2 &&& (2147483647 : Int32)) % (15 : Int32))).toNatClampNeg 0)) + (1 : Int32))))), .unset, .unset, .unset] [])) (fun _ k => XS.istore X0.here hx rfl (hb hby at_461) rfl (l' := #[.val (.int i0), .val (.int i1), .val (.int i2), .val (.int i3), .val (.int i4), .val (.ref r0), .val (.ref r1), .val (.ref r2), .val (.ref r3), .val (.int i9), .val (.int i10), .val (.int ((i2 &&& (2147483647 : Int32)) % (15 : Int32))), .val (.int ((own_vals2.getD (((i2 &&& (2147483647 : Int32)) % (15 : Int32))).toNatClampNeg 0) + ((i3 &&& (2147483647 : Int32)) % (((own_vals3.getD (((i2 &&& (2147483647 : Int32)) % (15 : Int32))).toNatClampNeg 0) - (own_vals2.getD (((i2 &&& (2147483647 : Int32)) % (15 : Int32))).toNatClampNeg 0)) + (1 : Int32))))), .unset, .unset, .unset]) rfl k) ?_
  exact b0_463 i0 i1 i2 i3 i4 r0 r1 r2 r3 i9 i10 ((i2 &&& (2147483647 : Int32)) % (15 : Int32)) ((own_vals2.getD (((i2 &&& (2147483647 : Int32)) % (15 : Int32))).toNatClampNeg 0) + ((i3 &&& (2147483647 : Int32)) % (((own_vals3.getD (((i2 &&& (2147483647 : Int32)) % (15 : Int32))).toNatClampNeg 0) - (own_vals2.getD (((i2 &&& (2147483647 : Int32)) % (15 : Int32))).toNatClampNeg 0)) + (1 : Int32)))) X0 hx hZ hw hby hml hown e0 N0 Z0 V0 V1 V2 V3
def f0_393 (i0 : Int32) (i1 : Int32) (i2 : Int32) (i3 : Int32) (i4 : Int32) : Bool := (f0_428 i0 i1 i2 i3 i4 ((i0 &&& (2147483647 : Int32)) % (15 : Int32)) ((own_vals0.getD (((i0 &&& (2147483647 : Int32)) % (15 : Int32))).toNatClampNeg 0) + ((i1 &&& (2147483647 : Int32)) % (((own_vals1.getD (((i0 &&& (2147483647 : Int32)) % (15 : Int32))).toNatClampNeg 0) - (own_vals0.getD (((i0 &&& (2147483647 : Int32)) % (15 : Int32))).toNatClampNeg 0)) + (1 : Int32)))))
set_option maxRecDepth 65536 in
set_option maxHeartbeats 4000000 in
theorem b0_393 {p : Program} {l : Launch} {e : Env} {s : State} {m : MethodId} {args : Array Value} {below : List Frame} {meth : Method} {c : Code} {T0 : State} {locs : List Loc} {Z : State} {a0 : Array Value} {h0 : Heap} {n0 : Nat} {kq0 : ClassId} {kq1 : ClassId} {kq2 : ClassId} {kq3 : ClassId} (i0 : Int32) (i1 : Int32) (i2 : Int32) (i3 : Int32) (i4 : Int32) (r0 : Addr) (r1 : Addr) (r2 : Addr) (r3 : Addr) (X0 : Stand p l e room_1 s m args below meth c T0 locs 4 60) (hx : p.tables.exec = Jvm.exec) (hZ : Z.Warmed39 s.vm) (hw : ∀ d ∈ tables_1, d.before a0 Z = true) (hby : c.code = code) (hml : c.maxLocals = 16) (hown : s.vm.findClass "com/example/reshape/reshape/tree/XmlNamesIsNameStartCharPinLaw" = some m.cls) (e0 : T0.heap = h0) (N0 : Fr n0 locs) (Z0 : n0 ≤ h0.size) (V0 : Arv Z h0 r0 kq0 .int (15 : Int32) (own_vals0.map Value.int) (.int 0)) (V1 : Arv Z h0 r1 kq1 .int (15 : Int32) (own_vals1.map Value.int) (.int 0)) (V2 : Arv Z h0 r2 kq2 .int (15 : Int32) (own_vals2.map Value.int) (.int 0)) (V3 : Arv Z h0 r3 kq3 .int (15 : Int32) (own_vals3.map Value.int) (.int 0)) :
    own_Ret p l e room_1 s m args below meth c h0 n0 4 60 T0 (mkF m 393 #[.val (.int i0), .val (.int i1), .val (.int i2), .val (.int i3), .val (.int i4), .val (.ref r0), .val (.ref r1), .val (.ref r2), .val (.ref r3), .unset, .unset, .unset, .unset, .unset, .unset, .unset] []) (own_b (f0_393 i0 i1 i2 i3 i4)) := by
  unfold f0_393
  refine own_step (T1 := T0) (g1 := (mkF m 394 #[.val (.int i0), .val (.int i1), .val (.int i2), .val (.int i3), .val (.int i4), .val (.ref r0), .val (.ref r1), .val (.ref r2), .val (.ref r3), .unset, .unset, .unset, .unset, .unset, .unset, .unset] [(.int i0)])) (fun _ k => XS.iloadN X0.here hx rfl (hb hby at_393) rfl k) ?_
  refine own_step (T1 := T0) (g1 := (mkF m 396 #[.val (.int i0), .val (.int i1), .val (.int i2), .val (.int i3), .val (.int i4), .val (.ref r0), .val (.ref r1), .val (.ref r2), .val (.ref r3), .unset, .unset, .unset, .unset, .unset, .unset, .unset] [(.int (2147483647 : Int32)), (.int i0)])) (fun _ k => X0.ldcInt hx hown (mvT hZ (hw _ (List.mem_of_getElem? (i := 14) rfl))) (g := (mkF m 394 #[.val (.int i0), .val (.int i1), .val (.int i2), .val (.int i3), .val (.int i4), .val (.ref r0), .val (.ref r1), .val (.ref r2), .val (.ref r3), .unset, .unset, .unset, .unset, .unset, .unset, .unset] [(.int i0)])) rfl (hb hby at_394) _ k) ?_
  refine own_step (T1 := T0) (g1 := (mkF m 397 #[.val (.int i0), .val (.int i1), .val (.int i2), .val (.int i3), .val (.int i4), .val (.ref r0), .val (.ref r1), .val (.ref r2), .val (.ref r3), .unset, .unset, .unset, .unset, .unset, .unset, .unset] [(.int (i0 &&& (2147483647 : Int32)))])) (fun _ k => XS.iand X0.here hx rfl (hb hby at_396) rfl k) ?_
  refine own_step (T1 := T0) (g1 := (mkF m 399 #[.val (.int i0), .val (.int i1), .val (.int i2), .val (.int i3), .val (.int i4), .val (.ref r0), .val (.ref r1), .val (.ref r2), .val (.ref r3), .unset, .unset, .unset, .unset, .unset, .unset, .unset] [(.int (15 : Int32)), (.int (i0 &&& (2147483647 : Int32)))])) (fun _ k => XS.bipush X0.here hx rfl (hb hby at_397) k) ?_
  refine own_step (T1 := T0) (g1 := (mkF m 400 #[.val (.int i0), .val (.int i1), .val (.int i2), .val (.int i3), .val (.int i4), .val (.ref r0), .val (.ref r1), .val (.ref r2), .val (.ref r3), .unset, .unset, .unset, .unset, .unset, .unset, .unset] [(.int ((i0 &&& (2147483647 : Int32)) % (15 : Int32)))])) (fun _ k => iremM X0 hx rfl (hb hby at_399) rfl (by decide) k) ?_
  refine own_step (T1 := T0) (g1 := (mkF m 402 #[.val (.int i0), .val (.int i1), .val (.int i2), .val (.int i3), .val (.int i4), .val (.ref r0), .val (.ref r1), .val (.ref r2), .val (.ref r3), .val (.int ((i0 &&& (2147483647 : Int32)) % (15 : Int32))), .unset, .unset, .unset, .unset, .unset, .unset] [])) (fun _ k => XS.istore X0.here hx rfl (hb hby at_400) rfl (l' := #[.val (.int i0), .val (.int i1), .val (.int i2), .val (.int i3), .val (.int i4), .val (.ref r0), .val (.ref r1), .val (.ref r2), .val (.ref r3), .val (.int ((i0 &&& (2147483647 : Int32)) % (15 : Int32))), .unset, .unset, .unset, .unset, .unset, .unset]) rfl k) ?_
  refine own_step (T1 := T0) (g1 := (mkF m 404 #[.val (.int i0), .val (.int i1), .val (.int i2), .val (.int i3), .val (.int i4), .val (.ref r0), .val (.ref r1), .val (.ref r2), .val (.ref r3), .val (.int ((i0 &&& (2147483647 : Int32)) % (15 : Int32))), .unset, .unset, .unset, .unset, .unset, .unset] [(.ref r0)])) (fun _ k => XS.aload X0.here hx rfl (hb hby at_402) rfl rfl k) ?_
  refine own_step (T1 := T0) (g1 := (mkF m 406 #[.val (.int i0), .val (.int i1), .val (.int i2), .val (.int i3), .val (.int i4), .val (.ref r0), .val (.ref r1), .val (.ref r2), .val (.ref r3), .val (.int ((i0 &&& (2147483647 : Int32)) % (15 : Int32))), .unset, .unset, .unset, .unset, .unset, .unset] [(.int ((i0 &&& (2147483647 : Int32)) % (15 : Int32))), (.ref r0)])) (fun _ k => XS.iload X0.here hx rfl (hb hby at_404) rfl k) ?_
  obtain ⟨cl7, Ar7, hin7, hat7⟩ := own_at V0 (j := ((i0 &&& (2147483647 : Int32)) % (15 : Int32))) (own_inrem i0 _ (by decide))
  refine own_step (T1 := T0) (g1 := (mkF m 407 #[.val (.int i0), .val (.int i1), .val (.int i2), .val (.int i3), .val (.int i4), .val (.ref r0), .val (.ref r1), .val (.ref r2), .val (.ref r3), .val (.int ((i0 &&& (2147483647 : Int32)) % (15 : Int32))), .unset, .unset, .unset, .unset, .unset, .unset] [(.int (own_vals0.getD (((i0 &&& (2147483647 : Int32)) % (15 : Int32))).toNatClampNeg 0))])) (fun _ k => X0.iaload hx (j := ((i0 &&& (2147483647 : Int32)) % (15 : Int32))) (v := (.int (own_vals0.getD (((i0 &&& (2147483647 : Int32)) % (15 : Int32))).toNatClampNeg 0))) (by rw [e0]; exact Ar7.1) (State.isArrayOf_alike hZ.alike Ar7.2.1) Ar7.2.2 hin7 hat7 (g := (mkF m 406 #[.val (.int i0), .val (.int i1), .val (.int i2), .val (.int i3), .val (.int i4), .val (.ref r0), .val (.ref r1), .val (.ref r2), .val (.ref r3), .val (.int ((i0 &&& (2147483647 : Int32)) % (15 : Int32))), .unset, .unset, .unset, .unset, .unset, .unset] [(.int ((i0 &&& (2147483647 : Int32)) % (15 : Int32))), (.ref r0)])) rfl rfl (hb hby at_406) _ k) ?_
  refine own_step (T1 := T0) (g1 := (mkF m 408 #[.val (.int i0), .val (.int i1), .val (.int i2), .val (.int i3), .val (.int i4), .val (.ref r0), .val (.ref r1), .val (.ref r2), .val (.ref r3), .val (.int ((i0 &&& (2147483647 : Int32)) % (15 : Int32))), .unset, .unset, .unset, .unset, .unset, .unset] [(.int i1), (.int (own_vals0.getD (((i0 &&& (2147483647 : Int32)) % (15 : Int32))).toNatClampNeg 0))])) (fun _ k => XS.iloadN X0.here hx rfl (hb hby at_407) rfl k) ?_
  refine own_step (T1 := T0) (g1 := (mkF m 410 #[.val (.int i0), .val (.int i1), .val (.int i2), .val (.int i3), .val (.int i4), .val (.ref r0), .val (.ref r1), .val (.ref r2), .val (.ref r3), .val (.int ((i0 &&& (2147483647 : Int32)) % (15 : Int32))), .unset, .unset, .unset, .unset, .unset, .unset] [(.int (2147483647 : Int32)), (.int i1), (.int (own_vals0.getD (((i0 &&& (2147483647 : Int32)) % (15 : Int32))).toNatClampNeg 0))])) (fun _ k => X0.ldcInt hx hown (mvT hZ (hw _ (List.mem_of_getElem? (i := 14) rfl))) (g := (mkF m 408 #[.val (.int i0), .val (.int i1), .val (.int i2), .val (.int i3), .val (.int i4), .val (.ref r0), .val (.ref r1), .val (.ref r2), .val (.ref r3), .val (.int ((i0 &&& (2147483647 : Int32)) % (15 : Int32))), .unset, .unset, .unset, .unset, .unset, .unset] [(.int i1), (.int (own_vals0.getD (((i0 &&& (2147483647 : Int32)) % (15 : Int32))).toNatClampNeg 0))])) rfl (hb hby at_408) _ k) ?_
  refine own_step (T1 := T0) (g1 := (mkF m 411 #[.val (.int i0), .val (.int i1), .val (.int i2), .val (.int i3), .val (.int i4), .val (.ref r0), .val (.ref r1), .val (.ref r2), .val (.ref r3), .val (.int ((i0 &&& (2147483647 : Int32)) % (15 : Int32))), .unset, .unset, .unset, .unset, .unset, .unset] [(.int (i1 &&& (2147483647 : Int32))), (.int (own_vals0.getD (((i0 &&& (2147483647 : Int32)) % (15 : Int32))).toNatClampNeg 0))])) (fun _ k => XS.iand X0.here hx rfl (hb hby at_410) rfl k) ?_
  refine own_step (T1 := T0) (g1 := (mkF m 413 #[.val (.int i0), .val (.int i1), .val (.int i2), .val (.int i3), .val (.int i4), .val (.ref r0), .val (.ref r1), .val (.ref r2), .val (.ref r3), .val (.int ((i0 &&& (2147483647 : Int32)) % (15 : Int32))), .unset, .unset, .unset, .unset, .unset, .unset] [(.ref r1), (.int (i1 &&& (2147483647 : Int32))), (.int (own_vals0.getD (((i0 &&& (2147483647 : Int32)) % (15 : Int32))).toNatClampNeg 0))])) (fun _ k => XS.aload X0.here hx rfl (hb hby at_411) rfl rfl k) ?_
  refine own_step (T1 := T0) (g1 := (mkF m 415 #[.val (.int i0), .val (.int i1), .val (.int i2), .val (.int i3), .val (.int i4), .val (.ref r0), .val (.ref r1), .val (.ref r2), .val (.ref r3), .val (.int ((i0 &&& (2147483647 : Int32)) % (15 : Int32))), .unset, .unset, .unset, .unset, .unset, .unset] [(.int ((i0 &&& (2147483647 : Int32)) % (15 : Int32))), (.ref r1), (.int (i1 &&& (2147483647 : Int32))), (.int (own_vals0.getD (((i0 &&& (2147483647 : Int32)) % (15 : Int32))).toNatClampNeg 0))])) (fun _ k => XS.iload X0.here hx rfl (hb hby at_413) rfl k) ?_
  obtain ⟨cl8, Ar8, hin8, hat8⟩ := own_at V1 (j := ((i0 &&& (2147483647 : Int32)) % (15 : Int32))) (own_inrem i0 _ (by decide))
  refine own_step (T1 := T0) (g1 := (mkF m 416 #[.val (.int i0), .val (.int i1), .val (.int i2), .val (.int i3), .val (.int i4), .val (.ref r0), .val (.ref r1), .val (.ref r2), .val (.ref r3), .val (.int ((i0 &&& (2147483647 : Int32)) % (15 : Int32))), .unset, .unset, .unset, .unset, .unset, .unset] [(.int (own_vals1.getD (((i0 &&& (2147483647 : Int32)) % (15 : Int32))).toNatClampNeg 0)), (.int (i1 &&& (2147483647 : Int32))), (.int (own_vals0.getD (((i0 &&& (2147483647 : Int32)) % (15 : Int32))).toNatClampNeg 0))])) (fun _ k => X0.iaload hx (j := ((i0 &&& (2147483647 : Int32)) % (15 : Int32))) (v := (.int (own_vals1.getD (((i0 &&& (2147483647 : Int32)) % (15 : Int32))).toNatClampNeg 0))) (by rw [e0]; exact Ar8.1) (State.isArrayOf_alike hZ.alike Ar8.2.1) Ar8.2.2 hin8 hat8 (g := (mkF m 415 #[.val (.int i0), .val (.int i1), .val (.int i2), .val (.int i3), .val (.int i4), .val (.ref r0), .val (.ref r1), .val (.ref r2), .val (.ref r3), .val (.int ((i0 &&& (2147483647 : Int32)) % (15 : Int32))), .unset, .unset, .unset, .unset, .unset, .unset] [(.int ((i0 &&& (2147483647 : Int32)) % (15 : Int32))), (.ref r1), (.int (i1 &&& (2147483647 : Int32))), (.int (own_vals0.getD (((i0 &&& (2147483647 : Int32)) % (15 : Int32))).toNatClampNeg 0))])) rfl rfl (hb hby at_415) _ k) ?_
  refine own_step (T1 := T0) (g1 := (mkF m 418 #[.val (.int i0), .val (.int i1), .val (.int i2), .val (.int i3), .val (.int i4), .val (.ref r0), .val (.ref r1), .val (.ref r2), .val (.ref r3), .val (.int ((i0 &&& (2147483647 : Int32)) % (15 : Int32))), .unset, .unset, .unset, .unset, .unset, .unset] [(.ref r0), (.int (own_vals1.getD (((i0 &&& (2147483647 : Int32)) % (15 : Int32))).toNatClampNeg 0)), (.int (i1 &&& (2147483647 : Int32))), (.int (own_vals0.getD (((i0 &&& (2147483647 : Int32)) % (15 : Int32))).toNatClampNeg 0))])) (fun _ k => XS.aload X0.here hx rfl (hb hby at_416) rfl rfl k) ?_
  refine own_step (T1 := T0) (g1 := (mkF m 420 #[.val (.int i0), .val (.int i1), .val (.int i2), .val (.int i3), .val (.int i4), .val (.ref r0), .val (.ref r1), .val (.ref r2), .val (.ref r3), .val (.int ((i0 &&& (2147483647 : Int32)) % (15 : Int32))), .unset, .unset, .unset, .unset, .unset, .unset] [(.int ((i0 &&& (2147483647 : Int32)) % (15 : Int32))), (.ref r0), (.int (own_vals1.getD (((i0 &&& (2147483647 : Int32)) % (15 : Int32))).toNatClampNeg 0)), (.int (i1 &&& (2147483647 : Int32))), (.int (own_vals0.getD (((i0 &&& (2147483647 : Int32)) % (15 : Int32))).toNatClampNeg 0))])) (fun _ k => XS.iload X0.here hx rfl (hb hby at_418) rfl k) ?_
  obtain ⟨cl9, Ar9, hin9, hat9⟩ := own_at V0 (j := ((i0 &&& (2147483647 : Int32)) % (15 : Int32))) (own_inrem i0 _ (by decide))
  refine own_step (T1 := T0) (g1 := (mkF m 421 #[.val (.int i0), .val (.int i1), .val (.int i2), .val (.int i3), .val (.int i4), .val (.ref r0), .val (.ref r1), .val (.ref r2), .val (.ref r3), .val (.int ((i0 &&& (2147483647 : Int32)) % (15 : Int32))), .unset, .unset, .unset, .unset, .unset, .unset] [(.int (own_vals0.getD (((i0 &&& (2147483647 : Int32)) % (15 : Int32))).toNatClampNeg 0)), (.int (own_vals1.getD (((i0 &&& (2147483647 : Int32)) % (15 : Int32))).toNatClampNeg 0)), (.int (i1 &&& (2147483647 : Int32))), (.int (own_vals0.getD (((i0 &&& (2147483647 : Int32)) % (15 : Int32))).toNatClampNeg 0))])) (fun _ k => X0.iaload hx (j := ((i0 &&& (2147483647 : Int32)) % (15 : Int32))) (v := (.int (own_vals0.getD (((i0 &&& (2147483647 : Int32)) % (15 : Int32))).toNatClampNeg 0))) (by rw [e0]; exact Ar9.1) (State.isArrayOf_alike hZ.alike Ar9.2.1) Ar9.2.2 hin9 hat9 (g := (mkF m 420 #[.val (.int i0), .val (.int i1), .val (.int i2), .val (.int i3), .val (.int i4), .val (.ref r0), .val (.ref r1), .val (.ref r2), .val (.ref r3), .val (.int ((i0 &&& (2147483647 : Int32)) % (15 : Int32))), .unset, .unset, .unset, .unset, .unset, .unset] [(.int ((i0 &&& (2147483647 : Int32)) % (15 : Int32))), (.ref r0), (.int (own_vals1.getD (((i0 &&& (2147483647 : Int32)) % (15 : Int32))).toNatClampNeg 0)), (.int (i1 &&& (2147483647 : Int32))), (.int (own_vals0.getD (((i0 &&& (2147483647 : Int32)) % (15 : Int32))).toNatClampNeg 0))])) rfl rfl (hb hby at_420) _ k) ?_
  refine own_step (T1 := T0) (g1 := (mkF m 422 #[.val (.int i0), .val (.int i1), .val (.int i2), .val (.int i3), .val (.int i4), .val (.ref r0), .val (.ref r1), .val (.ref r2), .val (.ref r3), .val (.int ((i0 &&& (2147483647 : Int32)) % (15 : Int32))), .unset, .unset, .unset, .unset, .unset, .unset] [(.int ((own_vals1.getD (((i0 &&& (2147483647 : Int32)) % (15 : Int32))).toNatClampNeg 0) - (own_vals0.getD (((i0 &&& (2147483647 : Int32)) % (15 : Int32))).toNatClampNeg 0))), (.int (i1 &&& (2147483647 : Int32))), (.int (own_vals0.getD (((i0 &&& (2147483647 : Int32)) % (15 : Int32))).toNatClampNeg 0))])) (fun _ k => XS.isub X0.here hx rfl (hb hby at_421) rfl k) ?_
  refine own_step (T1 := T0) (g1 := (mkF m 423 #[.val (.int i0), .val (.int i1), .val (.int i2), .val (.int i3), .val (.int i4), .val (.ref r0), .val (.ref r1), .val (.ref r2), .val (.ref r3), .val (.int ((i0 &&& (2147483647 : Int32)) % (15 : Int32))), .unset, .unset, .unset, .unset, .unset, .unset] [(.int (1 : Int32)), (.int ((own_vals1.getD (((i0 &&& (2147483647 : Int32)) % (15 : Int32))).toNatClampNeg 0) - (own_vals0.getD (((i0 &&& (2147483647 : Int32)) % (15 : Int32))).toNatClampNeg 0))), (.int (i1 &&& (2147483647 : Int32))), (.int (own_vals0.getD (((i0 &&& (2147483647 : Int32)) % (15 : Int32))).toNatClampNeg 0))])) (fun _ k => XS.iconst X0.here hx rfl (hb hby at_422) k) ?_
  refine own_step (T1 := T0) (g1 := (mkF m 424 #[.val (.int i0), .val (.int i1), .val (.int i2), .val (.int i3), .val (.int i4), .val (.ref r0), .val (.ref r1), .val (.ref r2), .val (.ref r3), .val (.int ((i0 &&& (2147483647 : Int32)) % (15 : Int32))), .unset, .unset, .unset, .unset, .unset, .unset] [(.int (((own_vals1.getD (((i0 &&& (2147483647 : Int32)) % (15 : Int32))).toNatClampNeg 0) - (own_vals0.getD (((i0 &&& (2147483647 : Int32)) % (15 : Int32))).toNatClampNeg 0)) + (1 : Int32))), (.int (i1 &&& (2147483647 : Int32))), (.int (own_vals0.getD (((i0 &&& (2147483647 : Int32)) % (15 : Int32))).toNatClampNeg 0))])) (fun _ k => XS.iadd X0.here hx rfl (hb hby at_423) rfl k) ?_
  refine own_step (T1 := T0) (g1 := (mkF m 425 #[.val (.int i0), .val (.int i1), .val (.int i2), .val (.int i3), .val (.int i4), .val (.ref r0), .val (.ref r1), .val (.ref r2), .val (.ref r3), .val (.int ((i0 &&& (2147483647 : Int32)) % (15 : Int32))), .unset, .unset, .unset, .unset, .unset, .unset] [(.int ((i1 &&& (2147483647 : Int32)) % (((own_vals1.getD (((i0 &&& (2147483647 : Int32)) % (15 : Int32))).toNatClampNeg 0) - (own_vals0.getD (((i0 &&& (2147483647 : Int32)) % (15 : Int32))).toNatClampNeg 0)) + (1 : Int32)))), (.int (own_vals0.getD (((i0 &&& (2147483647 : Int32)) % (15 : Int32))).toNatClampNeg 0))])) (fun _ k => iremM X0 hx rfl (hb hby at_424) rfl (own_nz01 _ (own_inrem i0 _ (by decide))) k) ?_
  refine own_step (T1 := T0) (g1 := (mkF m 426 #[.val (.int i0), .val (.int i1), .val (.int i2), .val (.int i3), .val (.int i4), .val (.ref r0), .val (.ref r1), .val (.ref r2), .val (.ref r3), .val (.int ((i0 &&& (2147483647 : Int32)) % (15 : Int32))), .unset, .unset, .unset, .unset, .unset, .unset] [(.int ((own_vals0.getD (((i0 &&& (2147483647 : Int32)) % (15 : Int32))).toNatClampNeg 0) + ((i1 &&& (2147483647 : Int32)) % (((own_vals1.getD (((i0 &&& (2147483647 : Int32)) % (15 : Int32))).toNatClampNeg 0) - (own_vals0.getD (((i0 &&& (2147483647 : Int32)) % (15 : Int32))).toNatClampNeg 0)) + (1 : Int32)))))])) (fun _ k => XS.iadd X0.here hx rfl (hb hby at_425) rfl k) ?_
  refine own_step (T1 := T0) (g1 := (mkF m 428 #[.val (.int i0), .val (.int i1), .val (.int i2), .val (.int i3), .val (.int i4), .val (.ref r0), .val (.ref r1), .val (.ref r2), .val (.ref r3), .val (.int ((i0 &&& (2147483647 : Int32)) % (15 : Int32))), .val (.int ((own_vals0.getD (((i0 &&& (2147483647 : Int32)) % (15 : Int32))).toNatClampNeg 0) + ((i1 &&& (2147483647 : Int32)) % (((own_vals1.getD (((i0 &&& (2147483647 : Int32)) % (15 : Int32))).toNatClampNeg 0) - (own_vals0.getD (((i0 &&& (2147483647 : Int32)) % (15 : Int32))).toNatClampNeg 0)) + (1 : Int32))))), .unset, .unset, .unset, .unset, .unset] [])) (fun _ k => XS.istore X0.here hx rfl (hb hby at_426) rfl (l' := #[.val (.int i0), .val (.int i1), .val (.int i2), .val (.int i3), .val (.int i4), .val (.ref r0), .val (.ref r1), .val (.ref r2), .val (.ref r3), .val (.int ((i0 &&& (2147483647 : Int32)) % (15 : Int32))), .val (.int ((own_vals0.getD (((i0 &&& (2147483647 : Int32)) % (15 : Int32))).toNatClampNeg 0) + ((i1 &&& (2147483647 : Int32)) % (((own_vals1.getD (((i0 &&& (2147483647 : Int32)) % (15 : Int32))).toNatClampNeg 0) - (own_vals0.getD (((i0 &&& (2147483647 : Int32)) % (15 : Int32))).toNatClampNeg 0)) + (1 : Int32))))), .unset, .unset, .unset, .unset, .unset]) rfl k) ?_
  exact b0_428 i0 i1 i2 i3 i4 r0 r1 r2 r3 ((i0 &&& (2147483647 : Int32)) % (15 : Int32)) ((own_vals0.getD (((i0 &&& (2147483647 : Int32)) % (15 : Int32))).toNatClampNeg 0) + ((i1 &&& (2147483647 : Int32)) % (((own_vals1.getD (((i0 &&& (2147483647 : Int32)) % (15 : Int32))).toNatClampNeg 0) - (own_vals0.getD (((i0 &&& (2147483647 : Int32)) % (15 : Int32))).toNatClampNeg 0)) + (1 : Int32)))) X0 hx hZ hw hby hml hown e0 N0 Z0 V0 V1 V2 V3
def F1_195 (z0 : Int) : Bool := false
def F1_191 (z0 : Int) : Bool := true
def F1_179 (z0 : Int) : Bool := (if z0 < (65536 : Int) then (F1_195 z0) else (if (983039 : Int) < z0 then (F1_195 z0) else (F1_191 z0)))
def F1_167 (z0 : Int) : Bool := (if z0 < (65008 : Int) then (F1_179 z0) else (if (65533 : Int) < z0 then (F1_179 z0) else (F1_191 z0)))
def F1_155 (z0 : Int) : Bool := (if z0 < (63744 : Int) then (F1_167 z0) else (if (64975 : Int) < z0 then (F1_167 z0) else (F1_191 z0)))
def F1_142 (z0 : Int) : Bool := (if z0 < (12289 : Int) then (F1_155 z0) else (if (55295 : Int) < z0 then (F1_155 z0) else (F1_191 z0)))
def F1_128 (z0 : Int) : Bool := (if z0 < (11264 : Int) then (F1_142 z0) else (if (12271 : Int) < z0 then (F1_142 z0) else (F1_191 z0)))
def F1_114 (z0 : Int) : Bool := (if z0 < (8304 : Int) then (F1_128 z0) else (if (8591 : Int) < z0 then (F1_128 z0) else (F1_191 z0)))
def F1_100 (z0 : Int) : Bool := (if z0 < (8204 : Int) then (F1_114 z0) else (if (8205 : Int) < z0 then (F1_114 z0) else (F1_191 z0)))
def F1_86 (z0 : Int) : Bool := (if z0 < (895 : Int) then (F1_100 z0) else (if (8191 : Int) < z0 then (F1_100 z0) else (F1_191 z0)))
def F1_72 (z0 : Int) : Bool := (if z0 < (880 : Int) then (F1_86 z0) else (if (893 : Int) < z0 then (F1_86 z0) else (F1_191 z0)))
def F1_58 (z0 : Int) : Bool := (if z0 < (248 : Int) then (F1_72 z0) else (if (767 : Int) < z0 then (F1_72 z0) else (F1_191 z0)))
def F1_44 (z0 : Int) : Bool := (if z0 < (216 : Int) then (F1_58 z0) else (if (246 : Int) < z0 then (F1_58 z0) else (F1_191 z0)))
def F1_24 (z0 : Int) : Bool := (if z0 = (95 : Int) then (F1_191 z0) else (if z0 < (192 : Int) then (F1_44 z0) else (if (214 : Int) < z0 then (F1_44 z0) else (F1_191 z0))))
def F1_12 (z0 : Int) : Bool := (if z0 < (65 : Int) then (F1_24 z0) else (if (90 : Int) < z0 then (F1_24 z0) else (F1_191 z0)))
def F1_0 (z0 : Int) : Bool := (if z0 < (97 : Int) then (F1_12 z0) else (if (122 : Int) < z0 then (F1_12 z0) else (F1_191 z0)))
theorem own_c1_65 : (65 : Int32).toInt = 65 := rfl
theorem own_c1_90 : (90 : Int32).toInt = 90 := rfl
theorem own_c1_95 : (95 : Int32).toInt = 95 := rfl
theorem own_c1_97 : (97 : Int32).toInt = 97 := rfl
theorem own_c1_122 : (122 : Int32).toInt = 122 := rfl
theorem own_c1_192 : (192 : Int32).toInt = 192 := rfl
theorem own_c1_214 : (214 : Int32).toInt = 214 := rfl
theorem own_c1_216 : (216 : Int32).toInt = 216 := rfl
theorem own_c1_246 : (246 : Int32).toInt = 246 := rfl
theorem own_c1_248 : (248 : Int32).toInt = 248 := rfl
theorem own_c1_767 : (767 : Int32).toInt = 767 := rfl
theorem own_c1_880 : (880 : Int32).toInt = 880 := rfl
theorem own_c1_893 : (893 : Int32).toInt = 893 := rfl
theorem own_c1_895 : (895 : Int32).toInt = 895 := rfl
theorem own_c1_8191 : (8191 : Int32).toInt = 8191 := rfl
theorem own_c1_8204 : (8204 : Int32).toInt = 8204 := rfl
theorem own_c1_8205 : (8205 : Int32).toInt = 8205 := rfl
theorem own_c1_8304 : (8304 : Int32).toInt = 8304 := rfl
theorem own_c1_8591 : (8591 : Int32).toInt = 8591 := rfl
theorem own_c1_11264 : (11264 : Int32).toInt = 11264 := rfl
theorem own_c1_12271 : (12271 : Int32).toInt = 12271 := rfl
theorem own_c1_12289 : (12289 : Int32).toInt = 12289 := rfl
theorem own_c1_55295 : (55295 : Int32).toInt = 55295 := rfl
theorem own_c1_63744 : (63744 : Int32).toInt = 63744 := rfl
theorem own_c1_64975 : (64975 : Int32).toInt = 64975 := rfl
theorem own_c1_65008 : (65008 : Int32).toInt = 65008 := rfl
theorem own_c1_65533 : (65533 : Int32).toInt = 65533 := rfl
theorem own_c1_65536 : (65536 : Int32).toInt = 65536 := rfl
theorem own_c1_983039 : (983039 : Int32).toInt = 983039 := rfl
theorem f1_195_int (i0 : Int32) : f1_195 i0 = F1_195 i0.toInt := by
  simp only [f1_195, F1_195, Int32.lt_iff_toInt_lt, ← Int32.toInt_inj]
theorem f1_191_int (i0 : Int32) : f1_191 i0 = F1_191 i0.toInt := by
  simp only [f1_191, F1_191, Int32.lt_iff_toInt_lt, ← Int32.toInt_inj]
theorem f1_179_int (i0 : Int32) : f1_179 i0 = F1_179 i0.toInt := by
  simp only [f1_179, F1_179, f1_191_int, f1_195_int, Int32.lt_iff_toInt_lt, ← Int32.toInt_inj, own_c1_65536, own_c1_983039]
theorem f1_167_int (i0 : Int32) : f1_167 i0 = F1_167 i0.toInt := by
  simp only [f1_167, F1_167, f1_179_int, f1_191_int, Int32.lt_iff_toInt_lt, ← Int32.toInt_inj, own_c1_65008, own_c1_65533]
theorem f1_155_int (i0 : Int32) : f1_155 i0 = F1_155 i0.toInt := by
  simp only [f1_155, F1_155, f1_167_int, f1_191_int, Int32.lt_iff_toInt_lt, ← Int32.toInt_inj, own_c1_63744, own_c1_64975]
theorem f1_142_int (i0 : Int32) : f1_142 i0 = F1_142 i0.toInt := by
  simp only [f1_142, F1_142, f1_155_int, f1_191_int, Int32.lt_iff_toInt_lt, ← Int32.toInt_inj, own_c1_12289, own_c1_55295]
theorem f1_128_int (i0 : Int32) : f1_128 i0 = F1_128 i0.toInt := by
  simp only [f1_128, F1_128, f1_142_int, f1_191_int, Int32.lt_iff_toInt_lt, ← Int32.toInt_inj, own_c1_11264, own_c1_12271]
theorem f1_114_int (i0 : Int32) : f1_114 i0 = F1_114 i0.toInt := by
  simp only [f1_114, F1_114, f1_128_int, f1_191_int, Int32.lt_iff_toInt_lt, ← Int32.toInt_inj, own_c1_8304, own_c1_8591]
theorem f1_100_int (i0 : Int32) : f1_100 i0 = F1_100 i0.toInt := by
  simp only [f1_100, F1_100, f1_114_int, f1_191_int, Int32.lt_iff_toInt_lt, ← Int32.toInt_inj, own_c1_8204, own_c1_8205]
theorem f1_86_int (i0 : Int32) : f1_86 i0 = F1_86 i0.toInt := by
  simp only [f1_86, F1_86, f1_100_int, f1_191_int, Int32.lt_iff_toInt_lt, ← Int32.toInt_inj, own_c1_895, own_c1_8191]
theorem f1_72_int (i0 : Int32) : f1_72 i0 = F1_72 i0.toInt := by
  simp only [f1_72, F1_72, f1_191_int, f1_86_int, Int32.lt_iff_toInt_lt, ← Int32.toInt_inj, own_c1_880, own_c1_893]
theorem f1_58_int (i0 : Int32) : f1_58 i0 = F1_58 i0.toInt := by
  simp only [f1_58, F1_58, f1_191_int, f1_72_int, Int32.lt_iff_toInt_lt, ← Int32.toInt_inj, own_c1_248, own_c1_767]
theorem f1_44_int (i0 : Int32) : f1_44 i0 = F1_44 i0.toInt := by
  simp only [f1_44, F1_44, f1_191_int, f1_58_int, Int32.lt_iff_toInt_lt, ← Int32.toInt_inj, own_c1_216, own_c1_246]
theorem f1_24_int (i0 : Int32) : f1_24 i0 = F1_24 i0.toInt := by
  simp only [f1_24, F1_24, f1_191_int, f1_44_int, Int32.lt_iff_toInt_lt, ← Int32.toInt_inj, own_c1_95, own_c1_192, own_c1_214]
theorem f1_12_int (i0 : Int32) : f1_12 i0 = F1_12 i0.toInt := by
  simp only [f1_12, F1_12, f1_191_int, f1_24_int, Int32.lt_iff_toInt_lt, ← Int32.toInt_inj, own_c1_65, own_c1_90]
theorem f1_0_int (i0 : Int32) : f1_0 i0 = F1_0 i0.toInt := by
  simp only [f1_0, F1_0, f1_12_int, f1_191_int, Int32.lt_iff_toInt_lt, ← Int32.toInt_inj, own_c1_97, own_c1_122]
theorem own_in0 (z : Int) (h1 : 65 ≤ z) (h2 : z ≤ 90) : F1_0 z = true := by simp (disch := omega) only [F1_195, F1_191, F1_179, F1_167, F1_155, F1_142, F1_128, F1_114, F1_100, F1_86, F1_72, F1_58, F1_44, F1_24, F1_12, F1_0, ↓if_pos, ↓if_neg, ↓reduceIte, reduceCtorEq]
theorem own_in1 (z : Int) (h1 : 95 ≤ z) (h2 : z ≤ 95) : F1_0 z = true := by simp (disch := omega) only [F1_195, F1_191, F1_179, F1_167, F1_155, F1_142, F1_128, F1_114, F1_100, F1_86, F1_72, F1_58, F1_44, F1_24, F1_12, F1_0, ↓if_pos, ↓if_neg, ↓reduceIte, reduceCtorEq]
theorem own_in2 (z : Int) (h1 : 97 ≤ z) (h2 : z ≤ 122) : F1_0 z = true := by simp (disch := omega) only [F1_195, F1_191, F1_179, F1_167, F1_155, F1_142, F1_128, F1_114, F1_100, F1_86, F1_72, F1_58, F1_44, F1_24, F1_12, F1_0, ↓if_pos, ↓if_neg, ↓reduceIte, reduceCtorEq]
theorem own_in3 (z : Int) (h1 : 192 ≤ z) (h2 : z ≤ 214) : F1_0 z = true := by simp (disch := omega) only [F1_195, F1_191, F1_179, F1_167, F1_155, F1_142, F1_128, F1_114, F1_100, F1_86, F1_72, F1_58, F1_44, F1_24, F1_12, F1_0, ↓if_pos, ↓if_neg, ↓reduceIte, reduceCtorEq]
theorem own_in4 (z : Int) (h1 : 216 ≤ z) (h2 : z ≤ 246) : F1_0 z = true := by simp (disch := omega) only [F1_195, F1_191, F1_179, F1_167, F1_155, F1_142, F1_128, F1_114, F1_100, F1_86, F1_72, F1_58, F1_44, F1_24, F1_12, F1_0, ↓if_pos, ↓if_neg, ↓reduceIte, reduceCtorEq]
theorem own_in5 (z : Int) (h1 : 248 ≤ z) (h2 : z ≤ 767) : F1_0 z = true := by simp (disch := omega) only [F1_195, F1_191, F1_179, F1_167, F1_155, F1_142, F1_128, F1_114, F1_100, F1_86, F1_72, F1_58, F1_44, F1_24, F1_12, F1_0, ↓if_pos, ↓if_neg, ↓reduceIte, reduceCtorEq]
theorem own_in6 (z : Int) (h1 : 880 ≤ z) (h2 : z ≤ 893) : F1_0 z = true := by simp (disch := omega) only [F1_195, F1_191, F1_179, F1_167, F1_155, F1_142, F1_128, F1_114, F1_100, F1_86, F1_72, F1_58, F1_44, F1_24, F1_12, F1_0, ↓if_pos, ↓if_neg, ↓reduceIte, reduceCtorEq]
theorem own_in7 (z : Int) (h1 : 895 ≤ z) (h2 : z ≤ 8191) : F1_0 z = true := by simp (disch := omega) only [F1_195, F1_191, F1_179, F1_167, F1_155, F1_142, F1_128, F1_114, F1_100, F1_86, F1_72, F1_58, F1_44, F1_24, F1_12, F1_0, ↓if_pos, ↓if_neg, ↓reduceIte, reduceCtorEq]
theorem own_in8 (z : Int) (h1 : 8204 ≤ z) (h2 : z ≤ 8205) : F1_0 z = true := by simp (disch := omega) only [F1_195, F1_191, F1_179, F1_167, F1_155, F1_142, F1_128, F1_114, F1_100, F1_86, F1_72, F1_58, F1_44, F1_24, F1_12, F1_0, ↓if_pos, ↓if_neg, ↓reduceIte, reduceCtorEq]
theorem own_in9 (z : Int) (h1 : 8304 ≤ z) (h2 : z ≤ 8591) : F1_0 z = true := by simp (disch := omega) only [F1_195, F1_191, F1_179, F1_167, F1_155, F1_142, F1_128, F1_114, F1_100, F1_86, F1_72, F1_58, F1_44, F1_24, F1_12, F1_0, ↓if_pos, ↓if_neg, ↓reduceIte, reduceCtorEq]
theorem own_in10 (z : Int) (h1 : 11264 ≤ z) (h2 : z ≤ 12271) : F1_0 z = true := by simp (disch := omega) only [F1_195, F1_191, F1_179, F1_167, F1_155, F1_142, F1_128, F1_114, F1_100, F1_86, F1_72, F1_58, F1_44, F1_24, F1_12, F1_0, ↓if_pos, ↓if_neg, ↓reduceIte, reduceCtorEq]
theorem own_in11 (z : Int) (h1 : 12289 ≤ z) (h2 : z ≤ 55295) : F1_0 z = true := by simp (disch := omega) only [F1_195, F1_191, F1_179, F1_167, F1_155, F1_142, F1_128, F1_114, F1_100, F1_86, F1_72, F1_58, F1_44, F1_24, F1_12, F1_0, ↓if_pos, ↓if_neg, ↓reduceIte, reduceCtorEq]
theorem own_in12 (z : Int) (h1 : 63744 ≤ z) (h2 : z ≤ 64975) : F1_0 z = true := by simp (disch := omega) only [F1_195, F1_191, F1_179, F1_167, F1_155, F1_142, F1_128, F1_114, F1_100, F1_86, F1_72, F1_58, F1_44, F1_24, F1_12, F1_0, ↓if_pos, ↓if_neg, ↓reduceIte, reduceCtorEq]
theorem own_in13 (z : Int) (h1 : 65008 ≤ z) (h2 : z ≤ 65533) : F1_0 z = true := by simp (disch := omega) only [F1_195, F1_191, F1_179, F1_167, F1_155, F1_142, F1_128, F1_114, F1_100, F1_86, F1_72, F1_58, F1_44, F1_24, F1_12, F1_0, ↓if_pos, ↓if_neg, ↓reduceIte, reduceCtorEq]
theorem own_in14 (z : Int) (h1 : 65536 ≤ z) (h2 : z ≤ 983039) : F1_0 z = true := by simp (disch := omega) only [F1_195, F1_191, F1_179, F1_167, F1_155, F1_142, F1_128, F1_114, F1_100, F1_86, F1_72, F1_58, F1_44, F1_24, F1_12, F1_0, ↓if_pos, ↓if_neg, ↓reduceIte, reduceCtorEq]
theorem own_inat (n : Nat) (hn : n < 15) (y : Int32) (hy : 0 ≤ y.toInt) : f1_0 (own_vals0.getD n 0 + y % ((own_vals1.getD n 0 - own_vals0.getD n 0) + (1 : Int32))) = true := by
  rw [f1_0_int]
  have hn' : n = 0 ∨ n = 1 ∨ n = 2 ∨ n = 3 ∨ n = 4 ∨ n = 5 ∨ n = 6 ∨ n = 7 ∨ n = 8 ∨ n = 9 ∨ n = 10 ∨ n = 11 ∨ n = 12 ∨ n = 13 ∨ n = 14 := by omega
  rcases hn' with rfl | rfl | rfl | rfl | rfl | rfl | rfl | rfl | rfl | rfl | rfl | rfl | rfl | rfl | rfl
  · exact own_in0 _ (own_rngI (65 : Int32) (90 : Int32) y 65 90 rfl rfl (by decide) (by decide) (by decide) hy).1 (own_rngI (65 : Int32) (90 : Int32) y 65 90 rfl rfl (by decide) (by decide) (by decide) hy).2
  · exact own_in1 _ (own_rngI (95 : Int32) (95 : Int32) y 95 95 rfl rfl (by decide) (by decide) (by decide) hy).1 (own_rngI (95 : Int32) (95 : Int32) y 95 95 rfl rfl (by decide) (by decide) (by decide) hy).2
  · exact own_in2 _ (own_rngI (97 : Int32) (122 : Int32) y 97 122 rfl rfl (by decide) (by decide) (by decide) hy).1 (own_rngI (97 : Int32) (122 : Int32) y 97 122 rfl rfl (by decide) (by decide) (by decide) hy).2
  · exact own_in3 _ (own_rngI (192 : Int32) (214 : Int32) y 192 214 rfl rfl (by decide) (by decide) (by decide) hy).1 (own_rngI (192 : Int32) (214 : Int32) y 192 214 rfl rfl (by decide) (by decide) (by decide) hy).2
  · exact own_in4 _ (own_rngI (216 : Int32) (246 : Int32) y 216 246 rfl rfl (by decide) (by decide) (by decide) hy).1 (own_rngI (216 : Int32) (246 : Int32) y 216 246 rfl rfl (by decide) (by decide) (by decide) hy).2
  · exact own_in5 _ (own_rngI (248 : Int32) (767 : Int32) y 248 767 rfl rfl (by decide) (by decide) (by decide) hy).1 (own_rngI (248 : Int32) (767 : Int32) y 248 767 rfl rfl (by decide) (by decide) (by decide) hy).2
  · exact own_in6 _ (own_rngI (880 : Int32) (893 : Int32) y 880 893 rfl rfl (by decide) (by decide) (by decide) hy).1 (own_rngI (880 : Int32) (893 : Int32) y 880 893 rfl rfl (by decide) (by decide) (by decide) hy).2
  · exact own_in7 _ (own_rngI (895 : Int32) (8191 : Int32) y 895 8191 rfl rfl (by decide) (by decide) (by decide) hy).1 (own_rngI (895 : Int32) (8191 : Int32) y 895 8191 rfl rfl (by decide) (by decide) (by decide) hy).2
  · exact own_in8 _ (own_rngI (8204 : Int32) (8205 : Int32) y 8204 8205 rfl rfl (by decide) (by decide) (by decide) hy).1 (own_rngI (8204 : Int32) (8205 : Int32) y 8204 8205 rfl rfl (by decide) (by decide) (by decide) hy).2
  · exact own_in9 _ (own_rngI (8304 : Int32) (8591 : Int32) y 8304 8591 rfl rfl (by decide) (by decide) (by decide) hy).1 (own_rngI (8304 : Int32) (8591 : Int32) y 8304 8591 rfl rfl (by decide) (by decide) (by decide) hy).2
  · exact own_in10 _ (own_rngI (11264 : Int32) (12271 : Int32) y 11264 12271 rfl rfl (by decide) (by decide) (by decide) hy).1 (own_rngI (11264 : Int32) (12271 : Int32) y 11264 12271 rfl rfl (by decide) (by decide) (by decide) hy).2
  · exact own_in11 _ (own_rngI (12289 : Int32) (55295 : Int32) y 12289 55295 rfl rfl (by decide) (by decide) (by decide) hy).1 (own_rngI (12289 : Int32) (55295 : Int32) y 12289 55295 rfl rfl (by decide) (by decide) (by decide) hy).2
  · exact own_in12 _ (own_rngI (63744 : Int32) (64975 : Int32) y 63744 64975 rfl rfl (by decide) (by decide) (by decide) hy).1 (own_rngI (63744 : Int32) (64975 : Int32) y 63744 64975 rfl rfl (by decide) (by decide) (by decide) hy).2
  · exact own_in13 _ (own_rngI (65008 : Int32) (65533 : Int32) y 65008 65533 rfl rfl (by decide) (by decide) (by decide) hy).1 (own_rngI (65008 : Int32) (65533 : Int32) y 65008 65533 rfl rfl (by decide) (by decide) (by decide) hy).2
  · exact own_in14 _ (own_rngI (65536 : Int32) (983039 : Int32) y 65536 983039 rfl rfl (by decide) (by decide) (by decide) hy).1 (own_rngI (65536 : Int32) (983039 : Int32) y 65536 983039 rfl rfl (by decide) (by decide) (by decide) hy).2
theorem own_out0 (z : Int) (h1 : 0 ≤ z) (h2 : z ≤ 64) : F1_0 z = false := by simp (disch := omega) only [F1_195, F1_191, F1_179, F1_167, F1_155, F1_142, F1_128, F1_114, F1_100, F1_86, F1_72, F1_58, F1_44, F1_24, F1_12, F1_0, ↓if_pos, ↓if_neg, ↓reduceIte, reduceCtorEq]
theorem own_out1 (z : Int) (h1 : 91 ≤ z) (h2 : z ≤ 94) : F1_0 z = false := by simp (disch := omega) only [F1_195, F1_191, F1_179, F1_167, F1_155, F1_142, F1_128, F1_114, F1_100, F1_86, F1_72, F1_58, F1_44, F1_24, F1_12, F1_0, ↓if_pos, ↓if_neg, ↓reduceIte, reduceCtorEq]
theorem own_out2 (z : Int) (h1 : 96 ≤ z) (h2 : z ≤ 96) : F1_0 z = false := by simp (disch := omega) only [F1_195, F1_191, F1_179, F1_167, F1_155, F1_142, F1_128, F1_114, F1_100, F1_86, F1_72, F1_58, F1_44, F1_24, F1_12, F1_0, ↓if_pos, ↓if_neg, ↓reduceIte, reduceCtorEq]
theorem own_out3 (z : Int) (h1 : 123 ≤ z) (h2 : z ≤ 191) : F1_0 z = false := by simp (disch := omega) only [F1_195, F1_191, F1_179, F1_167, F1_155, F1_142, F1_128, F1_114, F1_100, F1_86, F1_72, F1_58, F1_44, F1_24, F1_12, F1_0, ↓if_pos, ↓if_neg, ↓reduceIte, reduceCtorEq]
theorem own_out4 (z : Int) (h1 : 215 ≤ z) (h2 : z ≤ 215) : F1_0 z = false := by simp (disch := omega) only [F1_195, F1_191, F1_179, F1_167, F1_155, F1_142, F1_128, F1_114, F1_100, F1_86, F1_72, F1_58, F1_44, F1_24, F1_12, F1_0, ↓if_pos, ↓if_neg, ↓reduceIte, reduceCtorEq]
theorem own_out5 (z : Int) (h1 : 247 ≤ z) (h2 : z ≤ 247) : F1_0 z = false := by simp (disch := omega) only [F1_195, F1_191, F1_179, F1_167, F1_155, F1_142, F1_128, F1_114, F1_100, F1_86, F1_72, F1_58, F1_44, F1_24, F1_12, F1_0, ↓if_pos, ↓if_neg, ↓reduceIte, reduceCtorEq]
theorem own_out6 (z : Int) (h1 : 768 ≤ z) (h2 : z ≤ 879) : F1_0 z = false := by simp (disch := omega) only [F1_195, F1_191, F1_179, F1_167, F1_155, F1_142, F1_128, F1_114, F1_100, F1_86, F1_72, F1_58, F1_44, F1_24, F1_12, F1_0, ↓if_pos, ↓if_neg, ↓reduceIte, reduceCtorEq]
theorem own_out7 (z : Int) (h1 : 894 ≤ z) (h2 : z ≤ 894) : F1_0 z = false := by simp (disch := omega) only [F1_195, F1_191, F1_179, F1_167, F1_155, F1_142, F1_128, F1_114, F1_100, F1_86, F1_72, F1_58, F1_44, F1_24, F1_12, F1_0, ↓if_pos, ↓if_neg, ↓reduceIte, reduceCtorEq]
theorem own_out8 (z : Int) (h1 : 8192 ≤ z) (h2 : z ≤ 8203) : F1_0 z = false := by simp (disch := omega) only [F1_195, F1_191, F1_179, F1_167, F1_155, F1_142, F1_128, F1_114, F1_100, F1_86, F1_72, F1_58, F1_44, F1_24, F1_12, F1_0, ↓if_pos, ↓if_neg, ↓reduceIte, reduceCtorEq]
theorem own_out9 (z : Int) (h1 : 8206 ≤ z) (h2 : z ≤ 8303) : F1_0 z = false := by simp (disch := omega) only [F1_195, F1_191, F1_179, F1_167, F1_155, F1_142, F1_128, F1_114, F1_100, F1_86, F1_72, F1_58, F1_44, F1_24, F1_12, F1_0, ↓if_pos, ↓if_neg, ↓reduceIte, reduceCtorEq]
theorem own_out10 (z : Int) (h1 : 8592 ≤ z) (h2 : z ≤ 11263) : F1_0 z = false := by simp (disch := omega) only [F1_195, F1_191, F1_179, F1_167, F1_155, F1_142, F1_128, F1_114, F1_100, F1_86, F1_72, F1_58, F1_44, F1_24, F1_12, F1_0, ↓if_pos, ↓if_neg, ↓reduceIte, reduceCtorEq]
theorem own_out11 (z : Int) (h1 : 12272 ≤ z) (h2 : z ≤ 12288) : F1_0 z = false := by simp (disch := omega) only [F1_195, F1_191, F1_179, F1_167, F1_155, F1_142, F1_128, F1_114, F1_100, F1_86, F1_72, F1_58, F1_44, F1_24, F1_12, F1_0, ↓if_pos, ↓if_neg, ↓reduceIte, reduceCtorEq]
theorem own_out12 (z : Int) (h1 : 55296 ≤ z) (h2 : z ≤ 63743) : F1_0 z = false := by simp (disch := omega) only [F1_195, F1_191, F1_179, F1_167, F1_155, F1_142, F1_128, F1_114, F1_100, F1_86, F1_72, F1_58, F1_44, F1_24, F1_12, F1_0, ↓if_pos, ↓if_neg, ↓reduceIte, reduceCtorEq]
theorem own_out13 (z : Int) (h1 : 64976 ≤ z) (h2 : z ≤ 65007) : F1_0 z = false := by simp (disch := omega) only [F1_195, F1_191, F1_179, F1_167, F1_155, F1_142, F1_128, F1_114, F1_100, F1_86, F1_72, F1_58, F1_44, F1_24, F1_12, F1_0, ↓if_pos, ↓if_neg, ↓reduceIte, reduceCtorEq]
theorem own_out14 (z : Int) (h1 : 65534 ≤ z) (h2 : z ≤ 65535) : F1_0 z = false := by simp (disch := omega) only [F1_195, F1_191, F1_179, F1_167, F1_155, F1_142, F1_128, F1_114, F1_100, F1_86, F1_72, F1_58, F1_44, F1_24, F1_12, F1_0, ↓if_pos, ↓if_neg, ↓reduceIte, reduceCtorEq]
theorem own_outat (n : Nat) (hn : n < 15) (y : Int32) (hy : 0 ≤ y.toInt) : f1_0 (own_vals2.getD n 0 + y % ((own_vals3.getD n 0 - own_vals2.getD n 0) + (1 : Int32))) = false := by
  rw [f1_0_int]
  have hn' : n = 0 ∨ n = 1 ∨ n = 2 ∨ n = 3 ∨ n = 4 ∨ n = 5 ∨ n = 6 ∨ n = 7 ∨ n = 8 ∨ n = 9 ∨ n = 10 ∨ n = 11 ∨ n = 12 ∨ n = 13 ∨ n = 14 := by omega
  rcases hn' with rfl | rfl | rfl | rfl | rfl | rfl | rfl | rfl | rfl | rfl | rfl | rfl | rfl | rfl | rfl
  · exact own_out0 _ (own_rngI (0 : Int32) (64 : Int32) y 0 64 rfl rfl (by decide) (by decide) (by decide) hy).1 (own_rngI (0 : Int32) (64 : Int32) y 0 64 rfl rfl (by decide) (by decide) (by decide) hy).2
  · exact own_out1 _ (own_rngI (91 : Int32) (94 : Int32) y 91 94 rfl rfl (by decide) (by decide) (by decide) hy).1 (own_rngI (91 : Int32) (94 : Int32) y 91 94 rfl rfl (by decide) (by decide) (by decide) hy).2
  · exact own_out2 _ (own_rngI (96 : Int32) (96 : Int32) y 96 96 rfl rfl (by decide) (by decide) (by decide) hy).1 (own_rngI (96 : Int32) (96 : Int32) y 96 96 rfl rfl (by decide) (by decide) (by decide) hy).2
  · exact own_out3 _ (own_rngI (123 : Int32) (191 : Int32) y 123 191 rfl rfl (by decide) (by decide) (by decide) hy).1 (own_rngI (123 : Int32) (191 : Int32) y 123 191 rfl rfl (by decide) (by decide) (by decide) hy).2
  · exact own_out4 _ (own_rngI (215 : Int32) (215 : Int32) y 215 215 rfl rfl (by decide) (by decide) (by decide) hy).1 (own_rngI (215 : Int32) (215 : Int32) y 215 215 rfl rfl (by decide) (by decide) (by decide) hy).2
  · exact own_out5 _ (own_rngI (247 : Int32) (247 : Int32) y 247 247 rfl rfl (by decide) (by decide) (by decide) hy).1 (own_rngI (247 : Int32) (247 : Int32) y 247 247 rfl rfl (by decide) (by decide) (by decide) hy).2
  · exact own_out6 _ (own_rngI (768 : Int32) (879 : Int32) y 768 879 rfl rfl (by decide) (by decide) (by decide) hy).1 (own_rngI (768 : Int32) (879 : Int32) y 768 879 rfl rfl (by decide) (by decide) (by decide) hy).2
  · exact own_out7 _ (own_rngI (894 : Int32) (894 : Int32) y 894 894 rfl rfl (by decide) (by decide) (by decide) hy).1 (own_rngI (894 : Int32) (894 : Int32) y 894 894 rfl rfl (by decide) (by decide) (by decide) hy).2
  · exact own_out8 _ (own_rngI (8192 : Int32) (8203 : Int32) y 8192 8203 rfl rfl (by decide) (by decide) (by decide) hy).1 (own_rngI (8192 : Int32) (8203 : Int32) y 8192 8203 rfl rfl (by decide) (by decide) (by decide) hy).2
  · exact own_out9 _ (own_rngI (8206 : Int32) (8303 : Int32) y 8206 8303 rfl rfl (by decide) (by decide) (by decide) hy).1 (own_rngI (8206 : Int32) (8303 : Int32) y 8206 8303 rfl rfl (by decide) (by decide) (by decide) hy).2
  · exact own_out10 _ (own_rngI (8592 : Int32) (11263 : Int32) y 8592 11263 rfl rfl (by decide) (by decide) (by decide) hy).1 (own_rngI (8592 : Int32) (11263 : Int32) y 8592 11263 rfl rfl (by decide) (by decide) (by decide) hy).2
  · exact own_out11 _ (own_rngI (12272 : Int32) (12288 : Int32) y 12272 12288 rfl rfl (by decide) (by decide) (by decide) hy).1 (own_rngI (12272 : Int32) (12288 : Int32) y 12272 12288 rfl rfl (by decide) (by decide) (by decide) hy).2
  · exact own_out12 _ (own_rngI (55296 : Int32) (63743 : Int32) y 55296 63743 rfl rfl (by decide) (by decide) (by decide) hy).1 (own_rngI (55296 : Int32) (63743 : Int32) y 55296 63743 rfl rfl (by decide) (by decide) (by decide) hy).2
  · exact own_out13 _ (own_rngI (64976 : Int32) (65007 : Int32) y 64976 65007 rfl rfl (by decide) (by decide) (by decide) hy).1 (own_rngI (64976 : Int32) (65007 : Int32) y 64976 65007 rfl rfl (by decide) (by decide) (by decide) hy).2
  · exact own_out14 _ (own_rngI (65534 : Int32) (65535 : Int32) y 65534 65535 rfl rfl (by decide) (by decide) (by decide) hy).1 (own_rngI (65534 : Int32) (65535 : Int32) y 65534 65535 rfl rfl (by decide) (by decide) (by decide) hy).2
theorem own_far (z : Int) (h : z < 0 ∨ 983039 < z) : F1_0 z = false := by
  rcases h with h | h <;> simp (disch := omega) only [F1_195, F1_191, F1_179, F1_167, F1_155, F1_142, F1_128, F1_114, F1_100, F1_86, F1_72, F1_58, F1_44, F1_24, F1_12, F1_0, ↓if_pos, ↓if_neg, ↓reduceIte, reduceCtorEq]
/-! the plain law -/
theorem own_law (i0 i1 i2 i3 i4 : Int32) : f0_393 i0 i1 i2 i3 i4 = true := by
  unfold f0_393 f0_428 f0_463
  have hin := own_inat _ (own_idx _ (own_inrem i0 15 (by decide))) (i1 &&& (2147483647 : Int32)) (own_pos i1)
  have hout := own_outat _ (own_idx _ (own_inrem i2 15 (by decide))) (i3 &&& (2147483647 : Int32)) (own_pos i3)
  rw [if_pos hout, hin]
  have hfin : ∀ a b c d e f g h, f0_505 a b c d i4 e f g h (own_b true) (1 : Int32) = true := fun _ _ _ _ _ _ _ _ => rfl
  have hfar : (i4 < 0 ∨ (983039 : Int32) < i4) → ∀ a b c d e f g h, f0_497 a b c d i4 e f g h (own_b true) (1 : Int32) = true := fun hc a b c d e f g h => by
    unfold f0_497
    rw [if_pos, hfin]
    rw [f1_0_int]
    exact own_far _ (by rw [Int32.lt_iff_toInt_lt, Int32.lt_iff_toInt_lt] at hc; exact hc)
  unfold f0_483
  split
  · exact hfar (Or.inl (by assumption)) _ _ _ _ _ _ _ _
  · split
    · exact hfar (Or.inr (by assumption)) _ _ _ _ _ _ _ _
    · exact hfin _ _ _ _ _ _ _ _

theorem pn_0 : plainName "com/example/reshape/reshape/tree/XmlNamesIsNameStartCharPinLaw" = true := by first | (simp [plainName, overriddenIn]; done) | decide +kernel
theorem ef_0 (m : MethodId) (i0 : Int32) (i1 : Int32) (i2 : Int32) (i3 : Int32) (i4 : Int32) : entryFrame m #[(.int i0), (.int i1), (.int i2), (.int i3), (.int i4)] maxLocals = mkF m 0 #[.val (.int i0), .val (.int i1), .val (.int i2), .val (.int i3), .val (.int i4), .unset, .unset, .unset, .unset, .unset, .unset, .unset, .unset, .unset, .unset, .unset] [] := by first | (simp [entryFrame, mkF, argsToLocals, Value.category, maxLocals]; done) | rfl
def Q0 (n0 : Nat) (v : Option Value) (h : Heap) (L : List Loc) : Prop := v = some (.int (1 : Int32)) ∧ Fr n0 L
set_option maxRecDepth 65536 in
set_option maxHeartbeats 4000000 in
theorem rm0 (l : Launch) (Z : State) (a0 : Array Value) (hw : ∀ d ∈ tables_1, d.before a0 Z = true) (ws : List Jvm.Cond) (i0 : Int32) (i1 : Int32) (i2 : Int32) (i3 : Int32) (i4 : Int32) (h0 : Heap) (n0 : Nat) (Z0 : n0 ≤ h0.size) :
    MetFree l x (head1 (Jvm.Cond.code x code maxLocals ret :: ws) room_1) (fun a U => a = #[(.int i0), (.int i1), (.int i2), (.int i3), (.int i4)] ∧ Z.Warmed39 U.vm ∧ U.heap = h0) (fun _ _ _ _ _ => True) (fun _ U o U' => ∃ v L, o = .returned v ∧ Q0 n0 v U'.heap L ∧ FrameEnd U o U' L room_1.cells room_1.slots) := by
  refine MetFree.of_bodySF (plainFor_of_name pn_0) hisR ?_
  intro p e s m args below meth c s₁ Bd hml0 hP hK
  obtain ⟨rfl, hZ, hh⟩ := hP
  have hx := Bd.exec
  have hby := Bd.bytes
  have hml : c.maxLocals = 16 := hml0
  have hown : s.vm.findClass "com/example/reshape/reshape/tree/XmlNamesIsNameStartCharPinLaw" = some m.cls := findClass_of_methodNamed Bd.named
  have X0 : Stand p l e room_1 s m #[(.int i0), (.int i1), (.int i2), (.int i3), (.int i4)] below meth c s₁ [] 0 0 := Stand.of_body Bd
  have e0 : s₁.heap = h0 := by rw [← hh, Bd.state]; rfl
  obtain ⟨Ta0, ha0, ba0, ka0, La0, Xa0, ea0, Ka0, ga0, Va0, Na0, sta0⟩ := ar0 i0 i1 i2 i3 i4 X0 hx hZ hw hby hown e0 (Fr.nil n0) Z0
  have Za0 : n0 ≤ ha0.size := Nat.le_trans Z0 Ka0.1
  obtain ⟨Ta1, ha1, ba1, ka1, La1, Xa1, ea1, Ka1, ga1, Va1, Na1, sta1⟩ := ar1 i0 i1 i2 i3 i4 ba0 Xa0 hx hZ hw hby hown ea0 Na0 Za0
  have Za1 : n0 ≤ ha1.size := Nat.le_trans Za0 Ka1.1
  obtain ⟨Ta2, ha2, ba2, ka2, La2, Xa2, ea2, Ka2, ga2, Va2, Na2, sta2⟩ := ar2 i0 i1 i2 i3 i4 ba0 ba1 Xa1 hx hZ hw hby hown ea1 Na1 Za1
  have Za2 : n0 ≤ ha2.size := Nat.le_trans Za1 Ka2.1
  obtain ⟨Ta3, ha3, ba3, ka3, La3, Xa3, ea3, Ka3, ga3, Va3, Na3, sta3⟩ := ar3 i0 i1 i2 i3 i4 ba0 ba1 ba2 Xa2 hx hZ hw hby hown ea2 Na2 Za2
  have Za3 : n0 ≤ ha3.size := Nat.le_trans Za2 Ka3.1
  obtain ⟨T', locs', pcr, Ls, X', e', N', hd, st⟩ := b0_393 i0 i1 i2 i3 i4 ba0 ba1 ba2 ba3 Xa3 hx hZ hw hby hml hown ea3 Na3 Za3 (((Va0.keep Ka1 nin0).keep Ka2 nin0).keep Ka3 nin0) ((Va1.keep Ka2 nin0).keep Ka3 nin0) (Va2.keep Ka3 nin0) Va3
  rw [own_law] at st
  obtain ⟨fs, hr, hrun, hended, hW, hsame⟩ := X'.leave (v := some (.int (1 : Int32))) (fun h => by rw [Bd.returns] at h; cases h)
  refine ⟨_, _, castTop (ef_0 m i0 i1 i2 i3 i4) (sta0 _ (sta1 _ (sta2 _ (sta3 _ (st _ ?_))))), hrun, hended, _, _, rfl, ?_, ⟨_, rfl⟩, hW, hsame.mono (by decide) (by decide)⟩
  · exact retN X' hx (t := .boolean) Bd.returns (by simp) hd hr
  · exact ⟨rfl, N'⟩
set_option maxRecDepth 65536 in
set_option maxHeartbeats 40000000 in
theorem comes_1 {Post : Tables → Env → Array Value → State → Outcome → State → Prop} (hpost : ∀ tb e args s v u, (limb_1_1.after args s (.returned v) u = true ∧ limb_1_2.after args s (.returned v) u = true ∧ True) → FrameEnd s (.returned v) u (Jvm.fieldLocs frame_1_writes args s ++ Jvm.arrayLocs frame_1_arrays args s ++ Jvm.staticLocs frame_1_statics s) 16 192 → Post tb e args s (.returned v) u) :
    ArmFor flags0 classFile x code maxLocals ret World_1 tables_1 room_1 Calls_1 rest_1 Pre_1 Post := by
  intro l hfl _ _ p e ha hc hk s m args below hf hA hF happ hP
  obtain ⟨hcalls, hrest, hpre⟩ := hP
  obtain ⟨-, -, -, hnamed, -, -, -, hat⟩ := (Spec.applies_iff hf).mp happ
  obtain ⟨hg, hn⟩ := and_e (Cond.before_iff.mp (show (Jvm.Cond.and given_1 narrow_1).before args s = true from hpre))
  obtain ⟨gc, gr0⟩ := and_e hg
  obtain ⟨ga0, gr1⟩ := and_e gr0
  obtain ⟨ga1, gr2⟩ := and_e gr1
  obtain ⟨ga2, gr3⟩ := and_e gr2
  obtain ⟨ga3, gr4⟩ := and_e gr3
  obtain ⟨w0, w1, w2, w3, w4, rfl⟩ : ∃ w0 w1 w2 w3 w4 : Value, args = #[w0, w1, w2, w3, w4] := by
    have hs : args.size = 5 := by simpa [Cond.value, given_1] using gc
    obtain ⟨L⟩ := args
    match L, hs with
    | [w0, w1, w2, w3, w4], _ => exact ⟨w0, w1, w2, w3, w4, rfl⟩
  have hw := fun d (hd : d ∈ tables_1) => atoms_spec (ws := Jvm.Cond.code x code maxLocals ret :: tables_1) hat d (List.mem_cons_of_mem _ hd)
  obtain ⟨i0, ei0⟩ := is_v ga0
  obtain rfl : w0 = (.int i0) := Option.some.inj ei0
  obtain ⟨i1, ei1⟩ := is_v ga1
  obtain rfl : w1 = (.int i1) := Option.some.inj ei1
  obtain ⟨i2, ei2⟩ := is_v ga2
  obtain rfl : w2 = (.int i2) := Option.some.inj ei2
  obtain ⟨i3, ei3⟩ := is_v ga3
  obtain rfl : w3 = (.int i3) := Option.some.inj ei3
  obtain ⟨i4, ei4⟩ := is_v gr4
  obtain rfl : w4 = (.int i4) := Option.some.inj ei4
  obtain ⟨n, o, h1, h2, h3, _, L, rfl, ⟨rfl, N⟩, hq⟩ := rm0 l s _ hw tables_1 i0 i1 i2 i3 i4 s.heap s.heap.size (Nat.le_refl _) p e ha hc hk s m _ below hf ((Spec.applies_iff_loose hf).mp happ).1 ⟨rfl, State.Warmed39.refl s, rfl⟩ trivial
  refine ⟨n, _, h1, h2, h3, hpost _ _ _ _ _ _ ⟨Cond.after_iff.mpr rfl, Cond.after_iff.mpr (eq_i res_at (Term.int_eval (1)) rfl), trivial⟩ ⟨hq.1, hq.2.1, (hq.2.2.sift fun y hy => Or.inr (N y hy)).mono (by decide) (by decide)⟩⟩
theorem main_1_1 : Claimed_1_1 := comes_1 fun _ _ _ _ _ _ h hF => ⟨h.1, hF⟩
theorem main_1_2 : Claimed_1_2 := comes_1 fun _ _ _ _ _ _ h hF => ⟨h.2.1, hF⟩
end Jvm.Pilot.@@N@@
namespace Jvm.Pilot.@@N@@
open Jvm Jvm.ClassFile Sem Op Lib Jvm.Free Jvm.Stand Jvm.Pilot.@@N@@.Jvm.D
/-! MADE BY PROGRAM (witnessworld.py) out of the Statement's table words and the real class files: 9 classes; the members and pool entries that the words name. The judged class is class 1, her method 1. -/
namespace start1
open Jvm.ClassFile
def u (s : String) : CpInfo := .utf8 (stringToUtf16 s)
/-- a pool by its gaps: so many unusable entries, then the entry; so many at the end -/
def gap : Nat → List CpInfo → List CpInfo
  | 0, r => r
  | n + 1, r => .unusable :: gap n r
def poolList (es : List (Nat × CpInfo)) (last : Nat) : List CpInfo := es.foldr (fun e r => gap e.1 (e.2 :: r)) (gap last [])
def pool (es : List (Nat × CpInfo)) (last : Nat) : Array CpInfo := ⟨poolList es last⟩
def fileOf (pool : Array CpInfo) (this : Nat) (attrs : Array Attribute := #[]) (ms : Array MethodInfo := #[]) (fl : Nat := 33) (sup : Nat := 0) (ifs : Array Nat := #[]) (fds : Array FieldInfo := #[]) : ClassFile where
  minorVersion := 0
  majorVersion := 65
  constantPool := pool
  accessFlags := fl
  thisClass := this
  superClass := sup
  interfaces := ifs
  fields := fds
  methods := ms
  attributes := attrs
def plain (name : String) (sup : Option ClassId) : Class where
  name := name
  kind := .ordinary
  loader := none
  accessFlags := 33
  super := sup
  interfaces := #[]
  cf := none
  fields := #[]
  methods := #[]
  instanceTypes := #[]
  staticTypes := #[]
  resolved := #[]
  callSites := []
  init := .initialized
  statics := none
  mirror := none

def pool0 : Array CpInfo := pool [(5, u "<init>"), (0, u "()V"), (1, .class_ 10), (1, u "java/lang/Object")] 113

def k0m0 : Method := { name := "<init>", desc := "()V", sig := { parameters := [], returnType := none }, accessFlags := 1, code := none }
/-- java/lang/Object -/
def k0 : Class := { plain "java/lang/Object" none with
  accessFlags := 33
  interfaces := #[]
  cf := some (fileOf pool0 8 #[] #[{ accessFlags := 1, nameIndex := 5, descriptorIndex := 6, attributes := #[] }] 33 0 #[] #[])
  fields := #[]
  methods := #[k0m0]
  instanceTypes := #[]
  staticTypes := #[]
  resolved := Array.replicate 124 none
  statics := none }

def pool1 : Array CpInfo := pool [(2, .class_ 4), (1, u "java/lang/Object"), (0, u "<init>"), (0, u "()V"), (0, .integer 63744), (0, .integer 65008), (0, .integer 65536), (0, .integer 55295), (0, .integer 64975), (0, .integer 65533), (0, .integer 983039), (0, .integer 55296), (0, .integer 64976), (0, .integer 65534), (0, .integer 63743), (0, .integer 65007), (0, .integer 65535), (0, .integer 2147483647), (0, .methodref 22 23), (0, .class_ 24), (0, .nameAndType 25 26), (0, u "com/example/reshape/reshape/tree/XmlNames"), (0, u "isNameStartChar"), (0, u "(I)Z"), (0, .class_ 28), (0, u "com/example/reshape/reshape/tree/XmlNamesIsNameStartCharPinLaw"), (2, u "law"), (0, u "(IIIII)Z")] 5

def k1m0 : Method := { name := "<init>", desc := "()V", sig := { parameters := [], returnType := none }, accessFlags := 1, code := none }
def k1c1 : Code := { maxStack := 5, maxLocals := 16, code := code, exceptionTable := #[], attributes := #[] }
def k1m1 : Method := { name := "law", desc := "(IIIII)Z", sig := { parameters := [.int, .int, .int, .int, .int], returnType := some .boolean }, accessFlags := 9, code := some k1c1 }
/-- com/example/reshape/reshape/tree/XmlNamesIsNameStartCharPinLaw -/
def k1 : Class := { plain "com/example/reshape/reshape/tree/XmlNamesIsNameStartCharPinLaw" (some 0) with
  accessFlags := 49
  interfaces := #[]
  cf := some (fileOf pool1 27 #[] #[{ accessFlags := 1, nameIndex := 5, descriptorIndex := 6, attributes := #[] }, { accessFlags := 9, nameIndex := 31, descriptorIndex := 32, attributes := #[] }] 49 2 #[] #[])
  fields := #[]
  methods := #[k1m0, k1m1]
  instanceTypes := #[]
  staticTypes := #[]
  resolved := Array.replicate 38 none
  statics := none }

def pool2 : Array CpInfo := pool [(2, .class_ 4), (1, u "java/lang/Object"), (0, u "<init>"), (0, u "()V"), (0, .integer 55295), (0, .integer 63744), (0, .integer 64975), (0, .integer 65008), (0, .integer 65533), (0, .integer 65536), (0, .integer 983039), (1, .class_ 17), (1, u "com/example/reshape/reshape/tree/XmlNames"), (0, u "isNameStartChar"), (0, u "(I)Z")] 116

def k2m0 : Method := { name := "<init>", desc := "()V", sig := { parameters := [], returnType := none }, accessFlags := 2, code := none }
def k2c1 : Code := { maxStack := 2, maxLocals := 1, code := prog_96_method_2_code, exceptionTable := #[], attributes := #[] }
def k2m1 : Method := { name := "isNameStartChar", desc := "(I)Z", sig := { parameters := [.int], returnType := some .boolean }, accessFlags := 9, code := some k2c1 }
/-- com/example/reshape/reshape/tree/XmlNames -/
def k2 : Class := { plain "com/example/reshape/reshape/tree/XmlNames" (some 0) with
  accessFlags := 49
  interfaces := #[]
  cf := some (fileOf pool2 15 #[] #[{ accessFlags := 2, nameIndex := 5, descriptorIndex := 6, attributes := #[] }, { accessFlags := 9, nameIndex := 18, descriptorIndex := 19, attributes := #[] }] 49 2 #[] #[])
  fields := #[]
  methods := #[k2m0, k2m1]
  instanceTypes := #[]
  staticTypes := #[]
  resolved := Array.replicate 136 none
  statics := none }

def pool3 : Array CpInfo := pool [(1, u "java/lang/Cloneable"), (0, .class_ 1), (0, u "java/lang/Object"), (0, .class_ 3)] 3

/-- java/lang/Cloneable -/
def k3 : Class := { plain "java/lang/Cloneable" (some 0) with
  accessFlags := 1537
  interfaces := #[]
  cf := some (fileOf pool3 2 #[] #[] 1537 4 #[] #[])
  fields := #[]
  methods := #[]
  instanceTypes := #[]
  staticTypes := #[]
  resolved := Array.replicate 8 none
  statics := none }

def pool4 : Array CpInfo := pool [(1, u "java/io/Serializable"), (0, .class_ 1), (0, u "java/lang/Object"), (0, .class_ 3)] 3

/-- java/io/Serializable -/
def k4 : Class := { plain "java/io/Serializable" (some 0) with
  accessFlags := 1537
  interfaces := #[]
  cf := some (fileOf pool4 2 #[] #[] 1537 4 #[] #[])
  fields := #[]
  methods := #[]
  instanceTypes := #[]
  staticTypes := #[]
  resolved := Array.replicate 8 none
  statics := none }

/-- the primitive byte -/
def k5 : Class := { plain "byte" none with kind := .primitive 'B', accessFlags := 0x411 }
/-- [B -/
def k6 : Class := { plain "[B" (some 0) with kind := .array 5 .byte, interfaces := #[3, 4], accessFlags := 1041 }

/-- the primitive int -/
def k7 : Class := { plain "int" none with kind := .primitive 'I', accessFlags := 0x411 }
/-- [I -/
def k8 : Class := { plain "[I" (some 0) with kind := .array 7 .int, interfaces := #[3, 4], accessFlags := 1041 }

def heap : Heap := #[]
def classes : Array Class := #[k0, k1, k2, k3, k4, k5, k6, k7, k8]
def interned : List (Array UInt16 × Addr) := []
def slotsUsed : Nat := 0
def theMethod : MethodId := ⟨1, 1⟩
def args0 : Array Value := #[.int 5, .int 3, .int 7, .int 1, .int 70]
def aboutOver (below : List Frame) : State where
  vm := { classes := classes, interned := interned.toArray }
  heap := heap
  slotsUsed := slotsUsed
  threads := #[{ frames := .invoking theMethod args0 :: below }]
def below0 : List Frame := [.native { method := ⟨0, 0⟩, args := #[] }]
def about1 : State := aboutOver below0
def p0 : Program := .bare "" "" ""
def e0 : Env := launch0.env 0 0 0
theorem w_frames : about1.frames = Frame.invoking theMethod args0 :: below0 := rfl
set_option maxRecDepth 65536 in
theorem w_args : argsFit about1.vm theMethod args0 = true := by decide +kernel
set_option maxRecDepth 65536 in
theorem w_heap : heapFits about1 = true := by decide +kernel
set_option maxRecDepth 65536 in
theorem w_runnable : about1.curStatus? = some .runnable := by decide +kernel
set_option maxRecDepth 65536 in
theorem w_alone : about1.alone = true := by decide +kernel
set_option maxRecDepth 65536 in
theorem w_named : about1.methodNamed? x = some theMethod := by decide +kernel
set_option maxRecDepth 65536 in
theorem w_hears : about1.hears theMethod below0 = true := by decide +kernel
set_option maxRecDepth 65536 in
theorem w_ripe : about1.ripe theMethod args0 below0 = true := by decide +kernel
theorem w_running : about1.status = .running := rfl
set_option maxRecDepth 65536 in
theorem w_room : about1.hasRoom e0.platform room_1 = true :=
  launch0.hasRoom_least _ room_1 (by decide +kernel) (by decide +kernel) (by decide +kernel) (by decide +kernel) (by decide +kernel) (by decide +kernel)
theorem allAtoms_all (ts : List Jvm.Cond) (a : Array Jvm.Value) (st : Jvm.State) : (allAtoms ts).before a st = ts.all (fun c => c.before a st) := by
  induction ts with
  | nil => rfl
  | cons c t ih =>
    show (Jvm.Cond.and c (allAtoms t)).before a st = _
    rw [Jvm.Cond.before_and, ih, List.all_cons]
def words1 : List Jvm.Cond := Jvm.Cond.code x code maxLocals ret :: tables_1
/-- a 'code' word, met by the world's own term for the bytes: nothing is compared byte by byte -/
theorem code_word {y : MethodName} {bytes : ByteArray} {mx : Nat} {rt : Option FieldType} {a : Array Value} {s : State} {m : MethodId} {meth : Method} {c : Code} (h1 : s.methodNamed? y = some m) (h2 : s.vm.method? m = some meth) (h3 : meth.code = some c) (h4 : c.code = bytes)
    (h5 : (c.maxLocals == mx && c.exceptionTable.isEmpty && decide (c.maxStack ≤ mostOperands) && decide (meth.sig.returnType = rt) && !meth.locks && decide (parseMethodDescriptor y.desc = some meth.sig)) = true) : (Jvm.Cond.code y bytes mx rt).before a s = true := by
  simp only [Bool.and_eq_true, beq_iff_eq, Bool.not_eq_true', decide_eq_true_eq] at h5
  obtain ⟨⟨⟨⟨⟨g1, g2⟩, g3⟩, g4⟩, g5⟩, g6⟩ := h5
  simp [Cond.before, Cond.holds, Cond.value, h1, h2, h3, h4, g1, g2, g3, g4, g5, g6]
def isCode : Jvm.Cond → Bool
  | .code _ _ _ _ => true
  | _ => false
theorem all_split {L : List Jvm.Cond} {P : Jvm.Cond → Bool} (h1 : L.all (fun c => isCode c || P c) = true) (h2 : ∀ c ∈ L.filter isCode, P c = true) : L.all P = true := by
  refine List.all_eq_true.mpr fun c hc => ?_
  have h := List.all_eq_true.mp h1 c hc
  rcases Bool.eq_false_or_eq_true (isCode c) with hi | hi
  · exact h2 c (List.mem_filter.mpr ⟨hc, hi⟩)
  · simpa [hi] using h
set_option maxRecDepth 65536 in
theorem w_c0 : (Jvm.Cond.code x code maxLocals ret).before args0 about1 = true := code_word (m := ⟨1, 1⟩) (meth := k1m1) (c := k1c1) (by decide +kernel) rfl rfl rfl (by decide +kernel)
set_option maxRecDepth 65536 in
theorem w_c1 : (Jvm.Cond.code ({ cls := "com/example/reshape/reshape/tree/XmlNames", name := "isNameStartChar", desc := "(I)Z" } : Jvm.MethodName) prog_96_method_2_code (1 : Nat) (Option.some Jvm.ClassFile.FieldType.boolean)).before args0 about1 = true := code_word (m := ⟨2, 1⟩) (meth := k2m1) (c := k2c1) (by decide +kernel) rfl rfl rfl (by decide +kernel)
def codes1 : List Jvm.Cond := [Jvm.Cond.code x code maxLocals ret, Jvm.Cond.code ({ cls := "com/example/reshape/reshape/tree/XmlNames", name := "isNameStartChar", desc := "(I)Z" } : Jvm.MethodName) prog_96_method_2_code (1 : Nat) (Option.some Jvm.ClassFile.FieldType.boolean)]
set_option maxRecDepth 65536 in
theorem codes_eq : words1.filter isCode = codes1 := rfl
theorem w_codes : ∀ c ∈ words1.filter isCode, c.before args0 about1 = true := by
  rw [codes_eq]
  intro c hc
  simp only [codes1, List.mem_cons, List.not_mem_nil, or_false] at hc
  rcases hc with rfl | rfl
  · exact w_c0
  · exact w_c1
set_option maxRecDepth 65536 in
theorem w_t1 : (words1.take 24).all (fun c => isCode c || c.before args0 about1) = true := by decide +kernel
set_option maxRecDepth 65536 in
theorem w_t2 : (words1.drop 24).all (fun c => isCode c || c.before args0 about1) = true := by decide +kernel
theorem w_tables : (allAtoms (Jvm.Cond.code x code maxLocals ret :: tables_1)).before args0 about1 = true := by
  rw [allAtoms_all]
  show words1.all (fun c => c.before args0 about1) = true
  refine all_split ?_ w_codes
  rw [← List.take_append_drop 24 words1, List.all_append, w_t1, w_t2]
  rfl
set_option maxRecDepth 65536 in
theorem w_case : (Jvm.Cond.and given_1 narrow_1).before args0 about1 = true := by decide +kernel
theorem w_applies : (headSpec (Jvm.Cond.code x code maxLocals ret :: tables_1) room_1).applies x e0.platform about1 = true :=
  (Spec.applies_iff w_frames).mpr ⟨w_running, w_runnable, w_alone, w_named, w_hears, w_ripe, w_room, w_tables⟩
theorem atStart : AtStart classFile x code maxLocals ret World_1 tables_1 room_1 Calls_1 rest_1 Pre_1 launch0 p0 e0 about1 theMethod args0 below0 :=
  ⟨lists_1, trivial, launch0.admits_env _ _ _, launch0.least_env, fairChoices_fair.cas, fairChoices_fair.clock, w_frames, w_args, w_heap, w_applies, trivial, trivial, w_case⟩
end start1
theorem witness_1 : WitnessClaimed_1 := ⟨start1.p0, start1.e0, start1.about1, start1.theMethod, start1.args0, start1.below0, start1.atStart⟩
end Jvm.Pilot.@@N@@
