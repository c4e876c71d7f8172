import JvmDerived
import JvmDerived.Pilot.@@N@@Statement
import JvmDerived.Pilot.@@N@@Code
set_option linter.unusedVariables false
set_option linter.unusedSimpArgs false
namespace Jvm.RoadKit
open Sem ClassFile Op Lib Jvm.Stand Jvm.Free Jvm.LawKit
section New
variable {p : Program} {l : Launch} {e : Env} {R : Room} {s : State} {m : MethodId} {args : Array Value} {below : List Frame} {meth : Method} {c : Code} {T : State} {locs : List Loc} {cells slots : Nat}
theorem retI (X : Stand p l e R s m args below meth c T locs cells slots) (hx : p.tables.exec = Jvm.exec) {pc : Nat} {Ls : Array Slot} {z : Int32} {rest : List Value} (hret : meth.sig.returnType = some .int) (hd : decode c.code pc = .ok (.ireturn, 1)) {fs : List Frame}
    (hl : ∀ (f : JFrame) (acts : List Action), f.method = m → f.locked = none → f.entered = [] → (doReturn e (T.setTop f) acts (some (.int z))).1 = T.setFrames fs) : Steps p.tables e below (T.setTop (mkF m pc Ls (.int z :: rest))) (T.setFrames fs) := by
  have hm' : T.vm.method? m = some meth := X.method'
  have hn : narrow .int (.int z) = .int z := rfl
  show Steps p.tables e below (T.setTop { method := m, pc := pc, locals := Ls, stack := _ :: rest, locked := none }) _
  jvm_step X.here [X.here.top, hx, hd, hm', hret, hn]
  first | (intro acts; rw [hl _ acts rfl rfl rfl]) | rw [hl _ _ rfl rfl rfl]
  exact Steps.refl _
end New
end Jvm.RoadKit
namespace Jvm.Pilot.@@N@@
open Jvm Jvm.ClassFile Sem Op Lib Jvm.Free Jvm.Stand Jvm.LawKit Jvm.RoadKit Bundle Jvm.Pilot.@@N@@.Jvm.D
/-! what every block says -/
def own_b (b : Bool) : Int32 := cond b 1 0
theorem own_nar (b : Bool) : nar .boolean (own_b b) = own_b b := by cases b <;> rfl
theorem own_b0 {b : Bool} (h : b = false) : own_b b = (0 : Int32) := by rw [h]; rfl
theorem own_b1 {b : Bool} (h : ¬ b = false) : ¬ own_b b = (0 : Int32) := by cases b; exact absurd rfl h; decide
abbrev own_ushr (x y : Int32) : Int32 := (x.toUInt32 >>> (y &&& 31).toUInt32).toInt32
abbrev own_ushrL (x : Int64) (y : Int32) : Int64 := (x.toUInt64 >>> (y &&& 0x3f).toInt64.toUInt64).toInt64
/-- from the frame g over T0 the run comes to an ireturn with v on top, the heap as it stood -/
def own_Ret (p : Program) (l : Launch) (e : Env) (R : Room) (s : State) (m : MethodId) (args : Array Value) (below : List Frame) (meth : Method) (c : Code) (h0 : Heap) (n0 cells slots : Nat) (T0 : State) (g : JFrame) (v : Int32) : Prop :=
  ∃ (T' : State) (locs' : List Loc) (pcr : Nat) (Ls : Array Slot), Stand p l e R s m args below meth c T' locs' cells slots ∧ T'.heap = h0 ∧ Fr n0 locs' ∧ decode c.code pcr = .ok (.ireturn, 1) ∧
    ∀ target, Steps p.tables e below (T'.setTop (mkF m pcr Ls [.int v])) target → Steps p.tables e below (T0.setTop g) target
theorem own_step {p : Program} {l : Launch} {e : Env} {R : Room} {s : State} {m : MethodId} {args : Array Value} {below : List Frame} {meth : Method} {c : Code} {h0 : Heap} {n0 cells slots : Nat} {T0 T1 : State} {g0 g1 : JFrame} {v : Int32}
    (st : ∀ target, Steps p.tables e below (T1.setTop g1) target → Steps p.tables e below (T0.setTop g0) target) (h : own_Ret p l e R s m args below meth c h0 n0 cells slots T1 g1 v) : own_Ret p l e R s m args below meth c h0 n0 cells slots T0 g0 v := by
  obtain ⟨T', locs', pcr, Ls, h1, h2, h3, h4, h5⟩ := h
  exact ⟨T', locs', pcr, Ls, h1, h2, h3, h4, fun t k => st t (h5 t k)⟩
def own_Q (w : Int32) (h0 : Heap) (n0 : Nat) (v : Option Value) (h : Heap) (L : List Loc) : Prop := v = some (.int w) ∧ Fr n0 L ∧ h = h0
/-! arrays of ints that are filled once: a store behind the last, a read -/
theorem own_map_getD (vals : List Int32) (i : Nat) : (vals.map Value.int).getD i (.int 0) = .int (vals.getD i 0) := by
  simp only [List.getD_eq_getElem?_getD, List.getElem?_map]
  cases vals[i]? <;> rfl
theorem own_at {Z : State} {h : Heap} {a : Addr} {k : ClassId} {ty : FieldType} {n j : Int32} {vals : List Int32} (F : Arv Z h a k ty n (vals.map Value.int) (.int 0)) (hj : ¬ j < 0 ∧ j < n) :
    ∃ cl : Cell, Arr Z h a cl ty ∧ ¬ (j < 0 ∨ cl.slots.size ≤ j.toNatClampNeg) ∧ cl.slots[j.toNatClampNeg]? = some (.int (vals.getD j.toNatClampNeg 0)) := by
  obtain ⟨cl, A, q, S, Nn, H, G⟩ := F
  exact ⟨cl, A, inb_of S hj, H.at (inb_of S hj) (own_map_getD _ _)⟩
theorem own_set_end (vals : List Int32) (x : Int32) : (vals.map Value.int ++ List.replicate 1 (Value.int 0)).set vals.length (.int x) = (vals ++ [x]).map Value.int := by
  rw [List.set_append_right _ _ (by simp)]
  simp
section Own
variable {p : Program} {l : Launch} {e : Env} {R : Room} {s : State} {m : MethodId} {args : Array Value} {below : List Frame} {meth : Method} {c : Code} {T : State} {locs : List Loc} {cells slots : Nat} {Z : State} {h h0 : Heap} {b : Addr} {k : ClassId} {n : Int32} {vals : List Int32} {n0 : Nat}
theorem own_putI (X : Stand p l e R s m args below meth c T locs cells slots) (hx : p.tables.exec = Jvm.exec) (hZ : Z.Warmed39 s.vm) (eT : T.heap = h) (F : Arv Z h b k .int n (vals.map Value.int) (.int 0)) (N : Fr n0 locs) (g0 : n0 ≤ b) (K : Keep h0 h []) (sz : h0.size ≤ b) (j x : Int32) (hj : j.toNatClampNeg = vals.length) (hj2 : ¬ j < 0 ∧ j < n) {g : JFrame} (hg : g.method = m) {rest : List Value} (hs : g.stack = .int x :: .int j :: .ref b :: rest) (hd : decode c.code g.pc = .ok (.iastore, 1)) :
    ∃ (T' : State) (h' : Heap) (locs' : List Loc), Stand p l e R s m args below meth c T' locs' cells slots ∧ T'.heap = h' ∧ Arv Z h' b k .int n ((vals ++ [x]).map Value.int) (.int 0) ∧ Fr n0 locs' ∧ Keep h0 h' [] ∧ ∀ target, Steps p.tables e below (T'.setTop { g with pc := g.pc + 1, stack := rest }) target → Steps p.tables e below (T.setTop g) target := by
  obtain ⟨cl, A, q, S, Nn, H, G⟩ := F.pad (pad_rep _ _ 1)
  obtain ⟨T', h', X', e', W, st⟩ := stI X hx hZ eT A (j := j) (x := x) (inb_of S hj2) hg hs hd
  have V2 := Arv.set A q S Nn H G (v := .int x) rfl W vals.length hj (by simp)
  rw [own_set_end] at V2
  exact ⟨T', h', _, X', e', V2, Fr.snoc X' N g0, K.wr W (Or.inr sz), st⟩
theorem own_putC (X : Stand p l e R s m args below meth c T locs cells slots) (hx : p.tables.exec = Jvm.exec) (hZ : Z.Warmed39 s.vm) (eT : T.heap = h) (F : Arv Z h b k .char n (vals.map Value.int) (.int 0)) (N : Fr n0 locs) (g0 : n0 ≤ b) (K : Keep h0 h []) (sz : h0.size ≤ b) (j x : Int32) (hn : nar .char x = x) (hj : j.toNatClampNeg = vals.length) (hj2 : ¬ j < 0 ∧ j < n) {g : JFrame} (hg : g.method = m) {rest : List Value} (hs : g.stack = .int x :: .int j :: .ref b :: rest) (hd : decode c.code g.pc = .ok (.castore, 1)) :
    ∃ (T' : State) (h' : Heap) (locs' : List Loc), Stand p l e R s m args below meth c T' locs' cells slots ∧ T'.heap = h' ∧ Arv Z h' b k .char n ((vals ++ [x]).map Value.int) (.int 0) ∧ Fr n0 locs' ∧ Keep h0 h' [] ∧ ∀ target, Steps p.tables e below (T'.setTop { g with pc := g.pc + 1, stack := rest }) target → Steps p.tables e below (T.setTop g) target := by
  obtain ⟨cl, A, q, S, Nn, H, G⟩ := F.pad (pad_rep _ _ 1)
  obtain ⟨T', h', X', e', W, st⟩ := stC X hx hZ eT A (j := j) (x := x) (inb_of S hj2) hg hs hd
  rw [hn] at W
  have V2 := Arv.set A q S Nn H G (v := .int x) (by have := fits_nar_char x; rwa [hn] at this) W vals.length hj (by simp)
  rw [own_set_end] at V2
  exact ⟨T', h', _, X', e', V2, Fr.snoc X' N g0, K.wr W (Or.inr sz), st⟩
end Own

theorem d1_0 : decode prog_153_method_12_code 0 = .ok (.iload_n 0, 1) := by decide +kernel
theorem d1_1 : decode prog_153_method_12_code 1 = .ok (.bipush 32, 2) := by decide +kernel
theorem d1_3 : decode prog_153_method_12_code 3 = .ok (.if_icmp .eq 33, 3) := by decide +kernel
theorem d1_6 : decode prog_153_method_12_code 6 = .ok (.iload_n 0, 1) := by decide +kernel
theorem d1_7 : decode prog_153_method_12_code 7 = .ok (.bipush 9, 2) := by decide +kernel
theorem d1_9 : decode prog_153_method_12_code 9 = .ok (.if_icmp .eq 27, 3) := by decide +kernel
theorem d1_12 : decode prog_153_method_12_code 12 = .ok (.iload_n 0, 1) := by decide +kernel
theorem d1_13 : decode prog_153_method_12_code 13 = .ok (.bipush 10, 2) := by decide +kernel
theorem d1_15 : decode prog_153_method_12_code 15 = .ok (.if_icmp .eq 21, 3) := by decide +kernel
theorem d1_18 : decode prog_153_method_12_code 18 = .ok (.iload_n 0, 1) := by decide +kernel
theorem d1_19 : decode prog_153_method_12_code 19 = .ok (.bipush 13, 2) := by decide +kernel
theorem d1_21 : decode prog_153_method_12_code 21 = .ok (.if_icmp .eq 15, 3) := by decide +kernel
theorem d1_24 : decode prog_153_method_12_code 24 = .ok (.iload_n 0, 1) := by decide +kernel
theorem d1_25 : decode prog_153_method_12_code 25 = .ok (.bipush 12, 2) := by decide +kernel
theorem d1_27 : decode prog_153_method_12_code 27 = .ok (.if_icmp .eq 9, 3) := by decide +kernel
theorem d1_30 : decode prog_153_method_12_code 30 = .ok (.iload_n 0, 1) := by decide +kernel
theorem d1_31 : decode prog_153_method_12_code 31 = .ok (.bipush 11, 2) := by decide +kernel
theorem d1_33 : decode prog_153_method_12_code 33 = .ok (.if_icmp .ne 7, 3) := by decide +kernel
theorem d1_36 : decode prog_153_method_12_code 36 = .ok (.iconst 1, 1) := by decide +kernel
theorem d1_37 : decode prog_153_method_12_code 37 = .ok (.goto 4, 3) := by decide +kernel
theorem d1_40 : decode prog_153_method_12_code 40 = .ok (.iconst 0, 1) := by decide +kernel
theorem d1_41 : decode prog_153_method_12_code 41 = .ok (.ireturn, 1) := by decide +kernel
def f1_36 (i0 : Int32) : Bool := true
set_option maxRecDepth 65536 in
set_option maxHeartbeats 4000000 in
theorem b1_36 {p : Program} {l : Launch} {e : Env} {s : State} {m : MethodId} {args : Array Value} {below : List Frame} {meth : Method} {c : Code} {T0 : State} {locs : List Loc} {Z : State} {a0 : Array Value} {h0 : Heap} {n0 : Nat} (i0 : Int32) (X0 : Stand p l e ({ frames := 0, cells := 0, slots := 0, locals := 0 } : Room) s m args below meth c T0 locs 0 0) (hx : p.tables.exec = Jvm.exec) (hZ : Z.Warmed39 s.vm) (hw : ∀ d ∈ tables_1, d.before a0 Z = true) (hby : c.code = prog_153_method_12_code) (hml : c.maxLocals = 1) (hown : s.vm.findClass "com/example/sukima/sukima/sql/Lexer" = some m.cls) (e0 : T0.heap = h0) (N0 : Fr n0 locs) (Z0 : n0 ≤ h0.size) :
    own_Ret p l e ({ frames := 0, cells := 0, slots := 0, locals := 0 } : Room) s m args below meth c h0 n0 0 0 T0 (mkF m 36 #[.val (.int i0)] []) (own_b (f1_36 i0)) := by
  unfold f1_36
  refine own_step (T1 := T0) (g1 := (mkF m 37 #[.val (.int i0)] [(.int (1 : Int32))])) (fun _ k => XS.iconst X0.here hx rfl (hb hby d1_36) k) ?_
  refine own_step (T1 := T0) (g1 := (mkF m 41 #[.val (.int i0)] [(.int (1 : Int32))])) (fun _ k => XS.goto X0.here hx rfl (pc0 := 37) (pc' := 41) rfl (hb hby d1_37) (by decide) (by decide) k) ?_
  exact ⟨_, _, 41, _, X0, e0, N0, (hb hby d1_41), fun _ k => k⟩
def f1_0 (i0 : Int32) : Bool := (if i0 = (32 : Int32) then (f1_36 i0) else (if i0 = (9 : Int32) then (f1_36 i0) else (if i0 = (10 : Int32) then (f1_36 i0) else (if i0 = (13 : Int32) then (f1_36 i0) else (if i0 = (12 : Int32) then (f1_36 i0) else (if i0 = (11 : Int32) then (f1_36 i0) else false))))))
set_option maxRecDepth 65536 in
set_option maxHeartbeats 4000000 in
theorem b1_0 {p : Program} {l : Launch} {e : Env} {s : State} {m : MethodId} {args : Array Value} {below : List Frame} {meth : Method} {c : Code} {T0 : State} {locs : List Loc} {Z : State} {a0 : Array Value} {h0 : Heap} {n0 : Nat} (i0 : Int32) (X0 : Stand p l e ({ frames := 0, cells := 0, slots := 0, locals := 0 } : Room) s m args below meth c T0 locs 0 0) (hx : p.tables.exec = Jvm.exec) (hZ : Z.Warmed39 s.vm) (hw : ∀ d ∈ tables_1, d.before a0 Z = true) (hby : c.code = prog_153_method_12_code) (hml : c.maxLocals = 1) (hown : s.vm.findClass "com/example/sukima/sukima/sql/Lexer" = some m.cls) (e0 : T0.heap = h0) (N0 : Fr n0 locs) (Z0 : n0 ≤ h0.size) :
    own_Ret p l e ({ frames := 0, cells := 0, slots := 0, locals := 0 } : Room) s m args below meth c h0 n0 0 0 T0 (mkF m 0 #[.val (.int i0)] []) (own_b (f1_0 i0)) := by
  unfold f1_0
  refine own_step (T1 := T0) (g1 := (mkF m 1 #[.val (.int i0)] [(.int i0)])) (fun _ k => XS.iloadN X0.here hx rfl (hb hby d1_0) rfl k) ?_
  refine own_step (T1 := T0) (g1 := (mkF m 3 #[.val (.int i0)] [(.int (32 : Int32)), (.int i0)])) (fun _ k => XS.bipush X0.here hx rfl (hb hby d1_1) k) ?_
  by_cases hc3 : i0 = (32 : Int32)
  · rw [if_pos hc3]
    refine own_step (T1 := T0) (g1 := (mkF m 36 #[.val (.int i0)] [])) (fun _ k => XS.icmpYes X0.here hx rfl (pc0 := 3) (pc' := 36) rfl (hb hby d1_3) rfl (teq hc3).1 (by decide) (by decide) k) ?_
    exact b1_36 i0 X0 hx hZ hw hby hml hown e0 N0 Z0
  · rw [if_neg hc3]
    refine own_step (T1 := T0) (g1 := (mkF m 6 #[.val (.int i0)] [])) (fun _ k => XS.icmpNo X0.here hx rfl (hb hby d1_3) rfl (feq hc3).1 k) ?_
    refine own_step (T1 := T0) (g1 := (mkF m 7 #[.val (.int i0)] [(.int i0)])) (fun _ k => XS.iloadN X0.here hx rfl (hb hby d1_6) rfl k) ?_
    refine own_step (T1 := T0) (g1 := (mkF m 9 #[.val (.int i0)] [(.int (9 : Int32)), (.int i0)])) (fun _ k => XS.bipush X0.here hx rfl (hb hby d1_7) k) ?_
    by_cases hc9 : i0 = (9 : Int32)
    · rw [if_pos hc9]
      refine own_step (T1 := T0) (g1 := (mkF m 36 #[.val (.int i0)] [])) (fun _ k => XS.icmpYes X0.here hx rfl (pc0 := 9) (pc' := 36) rfl (hb hby d1_9) rfl (teq hc9).1 (by decide) (by decide) k) ?_
      exact b1_36 i0 X0 hx hZ hw hby hml hown e0 N0 Z0
    · rw [if_neg hc9]
      refine own_step (T1 := T0) (g1 := (mkF m 12 #[.val (.int i0)] [])) (fun _ k => XS.icmpNo X0.here hx rfl (hb hby d1_9) rfl (feq hc9).1 k) ?_
      refine own_step (T1 := T0) (g1 := (mkF m 13 #[.val (.int i0)] [(.int i0)])) (fun _ k => XS.iloadN X0.here hx rfl (hb hby d1_12) rfl k) ?_
      refine own_step (T1 := T0) (g1 := (mkF m 15 #[.val (.int i0)] [(.int (10 : Int32)), (.int i0)])) (fun _ k => XS.bipush X0.here hx rfl (hb hby d1_13) k) ?_
      by_cases hc15 : i0 = (10 : Int32)
      · rw [if_pos hc15]
        refine own_step (T1 := T0) (g1 := (mkF m 36 #[.val (.int i0)] [])) (fun _ k => XS.icmpYes X0.here hx rfl (pc0 := 15) (pc' := 36) rfl (hb hby d1_15) rfl (teq hc15).1 (by decide) (by decide) k) ?_
        exact b1_36 i0 X0 hx hZ hw hby hml hown e0 N0 Z0
      · rw [if_neg hc15]
        refine own_step (T1 := T0) (g1 := (mkF m 18 #[.val (.int i0)] [])) (fun _ k => XS.icmpNo X0.here hx rfl (hb hby d1_15) rfl (feq hc15).1 k) ?_
        refine own_step (T1 := T0) (g1 := (mkF m 19 #[.val (.int i0)] [(.int i0)])) (fun _ k => XS.iloadN X0.here hx rfl (hb hby d1_18) rfl k) ?_
        refine own_step (T1 := T0) (g1 := (mkF m 21 #[.val (.int i0)] [(.int (13 : Int32)), (.int i0)])) (fun _ k => XS.bipush X0.here hx rfl (hb hby d1_19) k) ?_
        by_cases hc21 : i0 = (13 : Int32)
        · rw [if_pos hc21]
          refine own_step (T1 := T0) (g1 := (mkF m 36 #[.val (.int i0)] [])) (fun _ k => XS.icmpYes X0.here hx rfl (pc0 := 21) (pc' := 36) rfl (hb hby d1_21) rfl (teq hc21).1 (by decide) (by decide) k) ?_
          exact b1_36 i0 X0 hx hZ hw hby hml hown e0 N0 Z0
        · rw [if_neg hc21]
          refine own_step (T1 := T0) (g1 := (mkF m 24 #[.val (.int i0)] [])) (fun _ k => XS.icmpNo X0.here hx rfl (hb hby d1_21) rfl (feq hc21).1 k) ?_
          refine own_step (T1 := T0) (g1 := (mkF m 25 #[.val (.int i0)] [(.int i0)])) (fun _ k => XS.iloadN X0.here hx rfl (hb hby d1_24) rfl k) ?_
          refine own_step (T1 := T0) (g1 := (mkF m 27 #[.val (.int i0)] [(.int (12 : Int32)), (.int i0)])) (fun _ k => XS.bipush X0.here hx rfl (hb hby d1_25) k) ?_
          by_cases hc27 : i0 = (12 : Int32)
          · rw [if_pos hc27]
            refine own_step (T1 := T0) (g1 := (mkF m 36 #[.val (.int i0)] [])) (fun _ k => XS.icmpYes X0.here hx rfl (pc0 := 27) (pc' := 36) rfl (hb hby d1_27) rfl (teq hc27).1 (by decide) (by decide) k) ?_
            exact b1_36 i0 X0 hx hZ hw hby hml hown e0 N0 Z0
          · rw [if_neg hc27]
            refine own_step (T1 := T0) (g1 := (mkF m 30 #[.val (.int i0)] [])) (fun _ k => XS.icmpNo X0.here hx rfl (hb hby d1_27) rfl (feq hc27).1 k) ?_
            refine own_step (T1 := T0) (g1 := (mkF m 31 #[.val (.int i0)] [(.int i0)])) (fun _ k => XS.iloadN X0.here hx rfl (hb hby d1_30) rfl k) ?_
            refine own_step (T1 := T0) (g1 := (mkF m 33 #[.val (.int i0)] [(.int (11 : Int32)), (.int i0)])) (fun _ k => XS.bipush X0.here hx rfl (hb hby d1_31) k) ?_
            by_cases hc33 : i0 = (11 : Int32)
            · rw [if_pos hc33]
              refine own_step (T1 := T0) (g1 := (mkF m 36 #[.val (.int i0)] [])) (fun _ k => XS.icmpNo X0.here hx rfl (hb hby d1_33) rfl (teq hc33).2 k) ?_
              exact b1_36 i0 X0 hx hZ hw hby hml hown e0 N0 Z0
            · rw [if_neg hc33]
              refine own_step (T1 := T0) (g1 := (mkF m 40 #[.val (.int i0)] [])) (fun _ k => XS.icmpYes X0.here hx rfl (pc0 := 33) (pc' := 40) rfl (hb hby d1_33) rfl (feq hc33).2 (by decide) (by decide) k) ?_
              refine own_step (T1 := T0) (g1 := (mkF m 41 #[.val (.int i0)] [(.int (0 : Int32))])) (fun _ k => XS.iconst X0.here hx rfl (hb hby d1_40) k) ?_
              exact ⟨_, _, 41, _, X0, e0, N0, (hb hby d1_41), fun _ k => k⟩
theorem pn_1 : plainName "com/example/sukima/sukima/sql/Lexer" = true := by first | (simp [plainName, overriddenIn]; done) | decide +kernel
theorem ef_1 (m : MethodId) (i0 : Int32) : entryFrame m #[(.int i0)] 1 = mkF m 0 #[.val (.int i0)] [] := by first | (simp [entryFrame, mkF, argsToLocals, Value.category]; done) | rfl
set_option maxRecDepth 65536 in
set_option maxHeartbeats 4000000 in
theorem rm1 (l : Launch) (Z : State) (a0 : Array Value) (hw : ∀ d ∈ tables_1, d.before a0 Z = true) (ws : List Jvm.Cond) (i0 : Int32) (h0 : Heap) (n0 : Nat) (Z0 : n0 ≤ h0.size) :
    MetFree l (⟨"com/example/sukima/sukima/sql/Lexer", "isSpace", "(C)Z"⟩ : MethodName) (head1 (Jvm.Cond.code (⟨"com/example/sukima/sukima/sql/Lexer", "isSpace", "(C)Z"⟩ : MethodName) prog_153_method_12_code 1 (some .boolean) :: ws) ({ frames := 0, cells := 0, slots := 0, locals := 0 } : Room)) (fun a U => a = #[(.int i0)] ∧ Z.Warmed39 U.vm ∧ U.heap = h0) (fun _ _ _ _ _ => True) (fun _ U o U' => ∃ v L, o = .returned v ∧ own_Q (own_b (f1_0 i0)) h0 n0 v U'.heap L ∧ FrameEnd U o U' L ({ frames := 0, cells := 0, slots := 0, locals := 0 } : Room).cells ({ frames := 0, cells := 0, slots := 0, locals := 0 } : Room).slots) := by
  refine MetFree.of_bodySF (plainFor_of_name pn_1) hisR ?_
  intro p e s m args below meth c s₁ Bd hml0 hP hK
  obtain ⟨rfl, hZ, hh⟩ := hP
  have hx := Bd.exec
  have hby := Bd.bytes
  have hml : c.maxLocals = 1 := hml0
  have hown : s.vm.findClass "com/example/sukima/sukima/sql/Lexer" = some m.cls := findClass_of_methodNamed Bd.named
  have X0 : Stand p l e ({ frames := 0, cells := 0, slots := 0, locals := 0 } : Room) s m #[(.int i0)] below meth c s₁ [] 0 0 := Stand.of_body Bd
  have e0 : s₁.heap = h0 := by rw [← hh, Bd.state]; rfl
  obtain ⟨T', locs', pcr, Ls, X', e', N', hd, st⟩ := b1_0 i0 X0 hx hZ hw hby hml hown e0 (Fr.nil n0) Z0
  obtain ⟨fs, hr, hrun, hended, hW, hsame⟩ := X'.leave (v := some (.int (own_b (f1_0 i0)))) (fun h => by rw [Bd.returns] at h; cases h)
  refine ⟨_, _, castTop (ef_1 m i0) (st _ ?_), hrun, hended, _, _, rfl, ?_, ⟨_, rfl⟩, hW, hsame.mono (by decide) (by decide)⟩
  · exact retN X' hx (t := .boolean) Bd.returns (by simp) hd (by rw [own_nar]; exact hr)
  · exact ⟨rfl, N', e'⟩
theorem d2_0 : decode method_2_code 0 = .ok (.iload_n 0, 1) := by decide +kernel
theorem d2_1 : decode method_2_code 1 = .ok (.bipush 32, 2) := by decide +kernel
theorem d2_3 : decode method_2_code 3 = .ok (.if_icmp .eq 15, 3) := by decide +kernel
theorem d2_6 : decode method_2_code 6 = .ok (.iload_n 0, 1) := by decide +kernel
theorem d2_7 : decode method_2_code 7 = .ok (.bipush 9, 2) := by decide +kernel
theorem d2_9 : decode method_2_code 9 = .ok (.if_icmp .lt 13, 3) := by decide +kernel
theorem d2_12 : decode method_2_code 12 = .ok (.iload_n 0, 1) := by decide +kernel
theorem d2_13 : decode method_2_code 13 = .ok (.bipush 13, 2) := by decide +kernel
theorem d2_15 : decode method_2_code 15 = .ok (.if_icmp .gt 7, 3) := by decide +kernel
theorem d2_18 : decode method_2_code 18 = .ok (.iconst 1, 1) := by decide +kernel
theorem d2_19 : decode method_2_code 19 = .ok (.goto 4, 3) := by decide +kernel
theorem d2_22 : decode method_2_code 22 = .ok (.iconst 0, 1) := by decide +kernel
theorem d2_23 : decode method_2_code 23 = .ok (.ireturn, 1) := by decide +kernel
def f2_22 (i0 : Int32) : Bool := false
set_option maxRecDepth 65536 in
set_option maxHeartbeats 4000000 in
theorem b2_22 {p : Program} {l : Launch} {e : Env} {s : State} {m : MethodId} {args : Array Value} {below : List Frame} {meth : Method} {c : Code} {T0 : State} {locs : List Loc} {Z : State} {a0 : Array Value} {h0 : Heap} {n0 : Nat} (i0 : Int32) (X0 : Stand p l e ({ frames := 0, cells := 0, slots := 0, locals := 0 } : Room) s m args below meth c T0 locs 0 0) (hx : p.tables.exec = Jvm.exec) (hZ : Z.Warmed39 s.vm) (hw : ∀ d ∈ tables_1, d.before a0 Z = true) (hby : c.code = method_2_code) (hml : c.maxLocals = 1) (hown : s.vm.findClass "com/example/sukima/sukima/sql/LexerIsSpacePinLaw" = some m.cls) (e0 : T0.heap = h0) (N0 : Fr n0 locs) (Z0 : n0 ≤ h0.size) :
    own_Ret p l e ({ frames := 0, cells := 0, slots := 0, locals := 0 } : Room) s m args below meth c h0 n0 0 0 T0 (mkF m 22 #[.val (.int i0)] []) (own_b (f2_22 i0)) := by
  unfold f2_22
  refine own_step (T1 := T0) (g1 := (mkF m 23 #[.val (.int i0)] [(.int (0 : Int32))])) (fun _ k => XS.iconst X0.here hx rfl (hb hby d2_22) k) ?_
  exact ⟨_, _, 23, _, X0, e0, N0, (hb hby d2_23), fun _ k => k⟩
def f2_18 (i0 : Int32) : Bool := true
set_option maxRecDepth 65536 in
set_option maxHeartbeats 4000000 in
theorem b2_18 {p : Program} {l : Launch} {e : Env} {s : State} {m : MethodId} {args : Array Value} {below : List Frame} {meth : Method} {c : Code} {T0 : State} {locs : List Loc} {Z : State} {a0 : Array Value} {h0 : Heap} {n0 : Nat} (i0 : Int32) (X0 : Stand p l e ({ frames := 0, cells := 0, slots := 0, locals := 0 } : Room) s m args below meth c T0 locs 0 0) (hx : p.tables.exec = Jvm.exec) (hZ : Z.Warmed39 s.vm) (hw : ∀ d ∈ tables_1, d.before a0 Z = true) (hby : c.code = method_2_code) (hml : c.maxLocals = 1) (hown : s.vm.findClass "com/example/sukima/sukima/sql/LexerIsSpacePinLaw" = some m.cls) (e0 : T0.heap = h0) (N0 : Fr n0 locs) (Z0 : n0 ≤ h0.size) :
    own_Ret p l e ({ frames := 0, cells := 0, slots := 0, locals := 0 } : Room) s m args below meth c h0 n0 0 0 T0 (mkF m 18 #[.val (.int i0)] []) (own_b (f2_18 i0)) := by
  unfold f2_18
  refine own_step (T1 := T0) (g1 := (mkF m 19 #[.val (.int i0)] [(.int (1 : Int32))])) (fun _ k => XS.iconst X0.here hx rfl (hb hby d2_18) k) ?_
  refine own_step (T1 := T0) (g1 := (mkF m 23 #[.val (.int i0)] [(.int (1 : Int32))])) (fun _ k => XS.goto X0.here hx rfl (pc0 := 19) (pc' := 23) rfl (hb hby d2_19) (by decide) (by decide) k) ?_
  exact ⟨_, _, 23, _, X0, e0, N0, (hb hby d2_23), fun _ k => k⟩
def f2_0 (i0 : Int32) : Bool := (if i0 = (32 : Int32) then (f2_18 i0) else (if i0 < (9 : Int32) then (f2_22 i0) else (if (13 : Int32) < i0 then (f2_22 i0) else (f2_18 i0))))
set_option maxRecDepth 65536 in
set_option maxHeartbeats 4000000 in
theorem b2_0 {p : Program} {l : Launch} {e : Env} {s : State} {m : MethodId} {args : Array Value} {below : List Frame} {meth : Method} {c : Code} {T0 : State} {locs : List Loc} {Z : State} {a0 : Array Value} {h0 : Heap} {n0 : Nat} (i0 : Int32) (X0 : Stand p l e ({ frames := 0, cells := 0, slots := 0, locals := 0 } : Room) s m args below meth c T0 locs 0 0) (hx : p.tables.exec = Jvm.exec) (hZ : Z.Warmed39 s.vm) (hw : ∀ d ∈ tables_1, d.before a0 Z = true) (hby : c.code = method_2_code) (hml : c.maxLocals = 1) (hown : s.vm.findClass "com/example/sukima/sukima/sql/LexerIsSpacePinLaw" = some m.cls) (e0 : T0.heap = h0) (N0 : Fr n0 locs) (Z0 : n0 ≤ h0.size) :
    own_Ret p l e ({ frames := 0, cells := 0, slots := 0, locals := 0 } : Room) s m args below meth c h0 n0 0 0 T0 (mkF m 0 #[.val (.int i0)] []) (own_b (f2_0 i0)) := by
  unfold f2_0
  refine own_step (T1 := T0) (g1 := (mkF m 1 #[.val (.int i0)] [(.int i0)])) (fun _ k => XS.iloadN X0.here hx rfl (hb hby d2_0) rfl k) ?_
  refine own_step (T1 := T0) (g1 := (mkF m 3 #[.val (.int i0)] [(.int (32 : Int32)), (.int i0)])) (fun _ k => XS.bipush X0.here hx rfl (hb hby d2_1) k) ?_
  by_cases hc3 : i0 = (32 : Int32)
  · rw [if_pos hc3]
    refine own_step (T1 := T0) (g1 := (mkF m 18 #[.val (.int i0)] [])) (fun _ k => XS.icmpYes X0.here hx rfl (pc0 := 3) (pc' := 18) rfl (hb hby d2_3) rfl (teq hc3).1 (by decide) (by decide) k) ?_
    exact b2_18 i0 X0 hx hZ hw hby hml hown e0 N0 Z0
  · rw [if_neg hc3]
    refine own_step (T1 := T0) (g1 := (mkF m 6 #[.val (.int i0)] [])) (fun _ k => XS.icmpNo X0.here hx rfl (hb hby d2_3) rfl (feq hc3).1 k) ?_
    refine own_step (T1 := T0) (g1 := (mkF m 7 #[.val (.int i0)] [(.int i0)])) (fun _ k => XS.iloadN X0.here hx rfl (hb hby d2_6) rfl k) ?_
    refine own_step (T1 := T0) (g1 := (mkF m 9 #[.val (.int i0)] [(.int (9 : Int32)), (.int i0)])) (fun _ k => XS.bipush X0.here hx rfl (hb hby d2_7) k) ?_
    by_cases hc9 : i0 < (9 : Int32)
    · rw [if_pos hc9]
      refine own_step (T1 := T0) (g1 := (mkF m 22 #[.val (.int i0)] [])) (fun _ k => XS.icmpYes X0.here hx rfl (pc0 := 9) (pc' := 22) rfl (hb hby d2_9) rfl (tlt hc9).1 (by decide) (by decide) k) ?_
      exact b2_22 i0 X0 hx hZ hw hby hml hown e0 N0 Z0
    · rw [if_neg hc9]
      refine own_step (T1 := T0) (g1 := (mkF m 12 #[.val (.int i0)] [])) (fun _ k => XS.icmpNo X0.here hx rfl (hb hby d2_9) rfl (flt hc9).1 k) ?_
      refine own_step (T1 := T0) (g1 := (mkF m 13 #[.val (.int i0)] [(.int i0)])) (fun _ k => XS.iloadN X0.here hx rfl (hb hby d2_12) rfl k) ?_
      refine own_step (T1 := T0) (g1 := (mkF m 15 #[.val (.int i0)] [(.int (13 : Int32)), (.int i0)])) (fun _ k => XS.bipush X0.here hx rfl (hb hby d2_13) k) ?_
      by_cases hc15 : (13 : Int32) < i0
      · rw [if_pos hc15]
        refine own_step (T1 := T0) (g1 := (mkF m 22 #[.val (.int i0)] [])) (fun _ k => XS.icmpYes X0.here hx rfl (pc0 := 15) (pc' := 22) rfl (hb hby d2_15) rfl (tlt hc15).2.2.1 (by decide) (by decide) k) ?_
        exact b2_22 i0 X0 hx hZ hw hby hml hown e0 N0 Z0
      · rw [if_neg hc15]
        refine own_step (T1 := T0) (g1 := (mkF m 18 #[.val (.int i0)] [])) (fun _ k => XS.icmpNo X0.here hx rfl (hb hby d2_15) rfl (flt hc15).2.2.1 k) ?_
        exact b2_18 i0 X0 hx hZ hw hby hml hown e0 N0 Z0
theorem pn_2 : plainName "com/example/sukima/sukima/sql/LexerIsSpacePinLaw" = true := by first | (simp [plainName, overriddenIn]; done) | decide +kernel
theorem ef_2 (m : MethodId) (i0 : Int32) : entryFrame m #[(.int i0)] 1 = mkF m 0 #[.val (.int i0)] [] := by first | (simp [entryFrame, mkF, argsToLocals, Value.category]; done) | rfl
set_option maxRecDepth 65536 in
set_option maxHeartbeats 4000000 in
theorem rm2 (l : Launch) (Z : State) (a0 : Array Value) (hw : ∀ d ∈ tables_1, d.before a0 Z = true) (ws : List Jvm.Cond) (i0 : Int32) (h0 : Heap) (n0 : Nat) (Z0 : n0 ≤ h0.size) :
    MetFree l (⟨"com/example/sukima/sukima/sql/LexerIsSpacePinLaw", "expected", "(C)Z"⟩ : MethodName) (head1 (Jvm.Cond.code (⟨"com/example/sukima/sukima/sql/LexerIsSpacePinLaw", "expected", "(C)Z"⟩ : MethodName) method_2_code 1 (some .boolean) :: ws) ({ frames := 0, cells := 0, slots := 0, locals := 0 } : Room)) (fun a U => a = #[(.int i0)] ∧ Z.Warmed39 U.vm ∧ U.heap = h0) (fun _ _ _ _ _ => True) (fun _ U o U' => ∃ v L, o = .returned v ∧ own_Q (own_b (f2_0 i0)) h0 n0 v U'.heap L ∧ FrameEnd U o U' L ({ frames := 0, cells := 0, slots := 0, locals := 0 } : Room).cells ({ frames := 0, cells := 0, slots := 0, locals := 0 } : Room).slots) := by
  refine MetFree.of_bodySF (plainFor_of_name pn_2) hisR ?_
  intro p e s m args below meth c s₁ Bd hml0 hP hK
  obtain ⟨rfl, hZ, hh⟩ := hP
  have hx := Bd.exec
  have hby := Bd.bytes
  have hml : c.maxLocals = 1 := hml0
  have hown : s.vm.findClass "com/example/sukima/sukima/sql/LexerIsSpacePinLaw" = some m.cls := findClass_of_methodNamed Bd.named
  have X0 : Stand p l e ({ frames := 0, cells := 0, slots := 0, locals := 0 } : Room) s m #[(.int i0)] below meth c s₁ [] 0 0 := Stand.of_body Bd
  have e0 : s₁.heap = h0 := by rw [← hh, Bd.state]; rfl
  obtain ⟨T', locs', pcr, Ls, X', e', N', hd, st⟩ := b2_0 i0 X0 hx hZ hw hby hml hown e0 (Fr.nil n0) Z0
  obtain ⟨fs, hr, hrun, hended, hW, hsame⟩ := X'.leave (v := some (.int (own_b (f2_0 i0)))) (fun h => by rw [Bd.returns] at h; cases h)
  refine ⟨_, _, castTop (ef_2 m i0) (st _ ?_), hrun, hended, _, _, rfl, ?_, ⟨_, rfl⟩, hW, hsame.mono (by decide) (by decide)⟩
  · exact retN X' hx (t := .boolean) Bd.returns (by simp) hd (by rw [own_nar]; exact hr)
  · exact ⟨rfl, N', e'⟩
theorem own_pd_C_Z : parseMethodDescriptor "(C)Z" = some ⟨[.char], some .boolean⟩ := by decide +kernel
def f0_59 (i0 : Int32) (i1 : Int32) (i2 : Int32) (i3 : Int32) (i4 : Int32) (i5 : Int32) : Bool := false
set_option maxRecDepth 65536 in
set_option maxHeartbeats 4000000 in
theorem b0_59 {p : Program} {l : Launch} {e : Env} {s : State} {m : MethodId} {args : Array Value} {below : List Frame} {meth : Method} {c : Code} {T0 : State} {locs : List Loc} {Z : State} {a0 : Array Value} {h0 : Heap} {n0 : Nat} (i0 : Int32) (i1 : Int32) (i2 : Int32) (i3 : Int32) (i4 : Int32) (i5 : Int32) (X0 : Stand p l e room_1 s m args below meth c T0 locs 0 0) (hx : p.tables.exec = Jvm.exec) (hZ : Z.Warmed39 s.vm) (hw : ∀ d ∈ tables_1, d.before a0 Z = true) (hby : c.code = code) (hml : c.maxLocals = 6) (hown : s.vm.findClass "com/example/sukima/sukima/sql/LexerIsSpacePinLaw" = some m.cls) (e0 : T0.heap = h0) (N0 : Fr n0 locs) (Z0 : n0 ≤ h0.size) :
    own_Ret p l e room_1 s m args below meth c h0 n0 0 0 T0 (mkF m 59 #[.val (.int i0), .val (.int i1), .val (.int i2), .val (.int i3), .val (.int i4), .val (.int i5)] []) (own_b (f0_59 i0 i1 i2 i3 i4 i5)) := by
  unfold f0_59
  refine own_step (T1 := T0) (g1 := (mkF m 60 #[.val (.int i0), .val (.int i1), .val (.int i2), .val (.int i3), .val (.int i4), .val (.int i5)] [(.int (0 : Int32))])) (fun _ k => XS.iconst X0.here hx rfl (hb hby at_59) k) ?_
  exact ⟨_, _, 60, _, X0, e0, N0, (hb hby at_60), fun _ k => k⟩
def f0_43 (i0 : Int32) (i1 : Int32) (i2 : Int32) (i3 : Int32) (i4 : Int32) (k0 : Int32) : Bool := (if i4 = (0 : Int32) then (f0_59 i0 i1 i2 i3 i4 k0) else (if k0 = (0 : Int32) then (f0_59 i0 i1 i2 i3 i4 k0) else true))
set_option maxRecDepth 65536 in
set_option maxHeartbeats 4000000 in
theorem b0_43 {p : Program} {l : Launch} {e : Env} {s : State} {m : MethodId} {args : Array Value} {below : List Frame} {meth : Method} {c : Code} {T0 : State} {locs : List Loc} {Z : State} {a0 : Array Value} {h0 : Heap} {n0 : Nat} (i0 : Int32) (i1 : Int32) (i2 : Int32) (i3 : Int32) (i4 : Int32) (k0 : Int32) (X0 : Stand p l e room_1 s m args below meth c T0 locs 0 0) (hx : p.tables.exec = Jvm.exec) (hZ : Z.Warmed39 s.vm) (hw : ∀ d ∈ tables_1, d.before a0 Z = true) (hby : c.code = code) (hml : c.maxLocals = 6) (hown : s.vm.findClass "com/example/sukima/sukima/sql/LexerIsSpacePinLaw" = some m.cls) (e0 : T0.heap = h0) (N0 : Fr n0 locs) (Z0 : n0 ≤ h0.size) :
    own_Ret p l e room_1 s m args below meth c h0 n0 0 0 T0 (mkF m 43 #[.val (.int i0), .val (.int i1), .val (.int i2), .val (.int i3), .val (.int i4), .unset] [(.int k0)]) (own_b (f0_43 i0 i1 i2 i3 i4 k0)) := by
  unfold f0_43
  refine own_step (T1 := T0) (g1 := (mkF m 45 #[.val (.int i0), .val (.int i1), .val (.int i2), .val (.int i3), .val (.int i4), .val (.int k0)] [])) (fun _ k => XS.istore X0.here hx rfl (hb hby at_43) rfl (l' := #[.val (.int i0), .val (.int i1), .val (.int i2), .val (.int i3), .val (.int i4), .val (.int k0)]) rfl k) ?_
  refine own_step (T1 := T0) (g1 := (mkF m 47 #[.val (.int i0), .val (.int i1), .val (.int i2), .val (.int i3), .val (.int i4), .val (.int k0)] [(.int i4)])) (fun _ k => XS.iload X0.here hx rfl (hb hby at_45) rfl k) ?_
  by_cases hc47 : i4 = (0 : Int32)
  · rw [if_pos hc47]
    refine own_step (T1 := T0) (g1 := (mkF m 59 #[.val (.int i0), .val (.int i1), .val (.int i2), .val (.int i3), .val (.int i4), .val (.int k0)] [])) (fun _ k => XS.ifYes X0.here hx rfl (pc0 := 47) (pc' := 59) rfl (hb hby at_47) rfl ((if0 _ _).trans (teq hc47).1) (by decide) (by decide) k) ?_
    exact b0_59 i0 i1 i2 i3 i4 k0 X0 hx hZ hw hby hml hown e0 N0 Z0
  · rw [if_neg hc47]
    refine own_step (T1 := T0) (g1 := (mkF m 50 #[.val (.int i0), .val (.int i1), .val (.int i2), .val (.int i3), .val (.int i4), .val (.int k0)] [])) (fun _ k => XS.ifNo X0.here hx rfl (hb hby at_47) rfl ((if0 _ _).trans (feq hc47).1) k) ?_
    refine own_step (T1 := T0) (g1 := (mkF m 52 #[.val (.int i0), .val (.int i1), .val (.int i2), .val (.int i3), .val (.int i4), .val (.int k0)] [(.int k0)])) (fun _ k => XS.iload X0.here hx rfl (hb hby at_50) rfl k) ?_
    by_cases hc52 : k0 = (0 : Int32)
    · rw [if_pos hc52]
      refine own_step (T1 := T0) (g1 := (mkF m 59 #[.val (.int i0), .val (.int i1), .val (.int i2), .val (.int i3), .val (.int i4), .val (.int k0)] [])) (fun _ k => XS.ifYes X0.here hx rfl (pc0 := 52) (pc' := 59) rfl (hb hby at_52) rfl ((if0 _ _).trans (teq hc52).1) (by decide) (by decide) k) ?_
      exact b0_59 i0 i1 i2 i3 i4 k0 X0 hx hZ hw hby hml hown e0 N0 Z0
    · rw [if_neg hc52]
      refine own_step (T1 := T0) (g1 := (mkF m 55 #[.val (.int i0), .val (.int i1), .val (.int i2), .val (.int i3), .val (.int i4), .val (.int k0)] [])) (fun _ k => XS.ifNo X0.here hx rfl (hb hby at_52) rfl ((if0 _ _).trans (feq hc52).1) k) ?_
      refine own_step (T1 := T0) (g1 := (mkF m 56 #[.val (.int i0), .val (.int i1), .val (.int i2), .val (.int i3), .val (.int i4), .val (.int k0)] [(.int (1 : Int32))])) (fun _ k => XS.iconst X0.here hx rfl (hb hby at_55) k) ?_
      refine own_step (T1 := T0) (g1 := (mkF m 60 #[.val (.int i0), .val (.int i1), .val (.int i2), .val (.int i3), .val (.int i4), .val (.int k0)] [(.int (1 : Int32))])) (fun _ k => XS.goto X0.here hx rfl (pc0 := 56) (pc' := 60) rfl (hb hby at_56) (by decide) (by decide) k) ?_
      exact ⟨_, _, 60, _, X0, e0, N0, (hb hby at_60), fun _ k => k⟩
def f0_25 (i0 : Int32) (i1 : Int32) (i2 : Int32) (i3 : Int32) (k0 : Int32) : Bool := (if (own_b (f1_0 i3)) = (own_b (f2_0 i3)) then (f0_43 i0 i1 i2 i3 k0 (1 : Int32)) else (f0_43 i0 i1 i2 i3 k0 (0 : Int32)))
set_option maxRecDepth 65536 in
set_option maxHeartbeats 4000000 in
theorem b0_25 {p : Program} {l : Launch} {e : Env} {s : State} {m : MethodId} {args : Array Value} {below : List Frame} {meth : Method} {c : Code} {T0 : State} {locs : List Loc} {Z : State} {a0 : Array Value} {h0 : Heap} {n0 : Nat} (i0 : Int32) (i1 : Int32) (i2 : Int32) (i3 : Int32) (k0 : Int32) (X0 : Stand p l e room_1 s m args below meth c T0 locs 0 0) (hx : p.tables.exec = Jvm.exec) (hZ : Z.Warmed39 s.vm) (hw : ∀ d ∈ tables_1, d.before a0 Z = true) (hby : c.code = code) (hml : c.maxLocals = 6) (hown : s.vm.findClass "com/example/sukima/sukima/sql/LexerIsSpacePinLaw" = some m.cls) (e0 : T0.heap = h0) (N0 : Fr n0 locs) (Z0 : n0 ≤ h0.size) :
    own_Ret p l e room_1 s m args below meth c h0 n0 0 0 T0 (mkF m 25 #[.val (.int i0), .val (.int i1), .val (.int i2), .val (.int i3), .unset, .unset] [(.int k0)]) (own_b (f0_25 i0 i1 i2 i3 k0)) := by
  unfold f0_25
  refine own_step (T1 := T0) (g1 := (mkF m 27 #[.val (.int i0), .val (.int i1), .val (.int i2), .val (.int i3), .val (.int k0), .unset] [])) (fun _ k => XS.istore X0.here hx rfl (hb hby at_25) rfl (l' := #[.val (.int i0), .val (.int i1), .val (.int i2), .val (.int i3), .val (.int k0), .unset]) rfl k) ?_
  refine own_step (T1 := T0) (g1 := (mkF m 28 #[.val (.int i0), .val (.int i1), .val (.int i2), .val (.int i3), .val (.int k0), .unset] [(.int i3)])) (fun _ k => XS.iloadN X0.here hx rfl (hb hby at_27) rfl k) ?_
  obtain ⟨_, _, ⟨T1, L1, k1, n1⟩, -, X1, ⟨Lc1, hQ1, l1, y1, z1⟩, st1⟩ := Jvm.LawKit.callS X0 hx (y := (⟨"com/example/sukima/sukima/sql/Lexer", "isSpace", "(C)Z"⟩ : MethodName)) hown (mvT hZ (hw _ (List.mem_of_getElem? (i := 0) rfl))) (mvT hZ (hw _ (List.mem_of_getElem? (i := 1) rfl))) (mvT hZ (hw _ (List.mem_of_getElem? (i := 2) rfl))) (mvT hZ (hw _ (List.mem_of_getElem? (i := 3) rfl))) (by decide) (backOf (W := 0) (rm1 l Z a0 hw [] i3 h0 n0 Z0) hZ (hw _ (List.mem_of_getElem? (i := 3) rfl)) (hw _ (List.mem_of_getElem? (i := 2) rfl)) (by decide) (by decide)) (g := (mkF m 28 #[.val (.int i0), .val (.int i1), .val (.int i2), .val (.int i3), .val (.int k0), .unset] [(.int i3)])) rfl (by rw [hml]; rfl) (argsL := [(.int i3)]) (rest := []) (lenOf own_pd_C_Z rfl) rfl (by show 2 * 0 + _ ≤ _; exact Nat.le_of_eq rfl) (hb hby at_28) (fun _ _ => ⟨rfl, e0, (by decide : 0 + 0 ≤ _), (by decide : 0 + 0 ≤ _)⟩)
  dsimp only [Pt.U, Pt.locs, Pt.cells, Pt.slots] at X1 l1 y1 z1 st1 hQ1
  subst l1 y1 z1
  obtain ⟨rfl, N1q, e1⟩ := hQ1
  have N1 := Fr.app N0 N1q
  refine own_step (T1 := T1) (g1 := (mkF m 31 #[.val (.int i0), .val (.int i1), .val (.int i2), .val (.int i3), .val (.int k0), .unset] [(.int (own_b (f1_0 i3)))])) (fun t k => st1 t k) ?_
  refine own_step (T1 := T1) (g1 := (mkF m 32 #[.val (.int i0), .val (.int i1), .val (.int i2), .val (.int i3), .val (.int k0), .unset] [(.int i3), (.int (own_b (f1_0 i3)))])) (fun _ k => XS.iloadN X1.here hx rfl (hb hby at_31) rfl k) ?_
  obtain ⟨_, _, ⟨T2, L2, k2, n2⟩, -, X2, ⟨Lc2, hQ2, l2, y2, z2⟩, st2⟩ := Jvm.LawKit.callS X1 hx (y := (⟨"com/example/sukima/sukima/sql/LexerIsSpacePinLaw", "expected", "(C)Z"⟩ : MethodName)) hown (mvT hZ (hw _ (List.mem_of_getElem? (i := 4) rfl))) (mvT hZ (hw _ (List.mem_of_getElem? (i := 5) rfl))) (mvT hZ (hw _ (List.mem_of_getElem? (i := 6) rfl))) (mvT hZ (hw _ (List.mem_of_getElem? (i := 7) rfl))) (by decide) (backOf (W := 1) (rm2 l Z a0 hw [] i3 h0 n0 Z0) hZ (hw _ (List.mem_of_getElem? (i := 7) rfl)) (hw _ (List.mem_of_getElem? (i := 6) rfl)) (by decide) (by decide)) (g := (mkF m 32 #[.val (.int i0), .val (.int i1), .val (.int i2), .val (.int i3), .val (.int k0), .unset] [(.int i3), (.int (own_b (f1_0 i3)))])) rfl (by rw [hml]; rfl) (argsL := [(.int i3)]) (rest := [(.int (own_b (f1_0 i3)))]) (lenOf own_pd_C_Z rfl) rfl (by show 2 * 0 + _ ≤ _; exact Nat.le_of_eq rfl) (hb hby at_32) (fun _ _ => ⟨rfl, e1, (by decide : 0 + 0 ≤ _), (by decide : 0 + 0 ≤ _)⟩)
  dsimp only [Pt.U, Pt.locs, Pt.cells, Pt.slots] at X2 l2 y2 z2 st2 hQ2
  subst l2 y2 z2
  obtain ⟨rfl, N2q, e2⟩ := hQ2
  have N2 := Fr.app N1 N2q
  refine own_step (T1 := T2) (g1 := (mkF m 35 #[.val (.int i0), .val (.int i1), .val (.int i2), .val (.int i3), .val (.int k0), .unset] [(.int (own_b (f2_0 i3))), (.int (own_b (f1_0 i3)))])) (fun t k => st2 t k) ?_
  by_cases hc35 : (own_b (f1_0 i3)) = (own_b (f2_0 i3))
  · rw [if_pos hc35]
    refine own_step (T1 := T2) (g1 := (mkF m 38 #[.val (.int i0), .val (.int i1), .val (.int i2), .val (.int i3), .val (.int k0), .unset] [])) (fun _ k => XS.icmpNo X2.here hx rfl (hb hby at_35) rfl (teq hc35).2 k) ?_
    refine own_step (T1 := T2) (g1 := (mkF m 39 #[.val (.int i0), .val (.int i1), .val (.int i2), .val (.int i3), .val (.int k0), .unset] [(.int (1 : Int32))])) (fun _ k => XS.iconst X2.here hx rfl (hb hby at_38) k) ?_
    refine own_step (T1 := T2) (g1 := (mkF m 43 #[.val (.int i0), .val (.int i1), .val (.int i2), .val (.int i3), .val (.int k0), .unset] [(.int (1 : Int32))])) (fun _ k => XS.goto X2.here hx rfl (pc0 := 39) (pc' := 43) rfl (hb hby at_39) (by decide) (by decide) k) ?_
    exact b0_43 i0 i1 i2 i3 k0 (1 : Int32) X2 hx hZ hw hby hml hown e2 N2 Z0
  · rw [if_neg hc35]
    refine own_step (T1 := T2) (g1 := (mkF m 42 #[.val (.int i0), .val (.int i1), .val (.int i2), .val (.int i3), .val (.int k0), .unset] [])) (fun _ k => XS.icmpYes X2.here hx rfl (pc0 := 35) (pc' := 42) rfl (hb hby at_35) rfl (feq hc35).2 (by decide) (by decide) k) ?_
    refine own_step (T1 := T2) (g1 := (mkF m 43 #[.val (.int i0), .val (.int i1), .val (.int i2), .val (.int i3), .val (.int k0), .unset] [(.int (0 : Int32))])) (fun _ k => XS.iconst X2.here hx rfl (hb hby at_42) k) ?_
    exact b0_43 i0 i1 i2 i3 k0 (0 : Int32) X2 hx hZ hw hby hml hown e2 N2 Z0
def f0_0 (i0 : Int32) (i1 : Int32) : Bool := (if (own_b (f1_0 (i0.toUInt32.toUInt16.toUInt32.toInt32))) = (own_b (f2_0 (i0.toUInt32.toUInt16.toUInt32.toInt32))) then (f0_25 i0 i1 (i0.toUInt32.toUInt16.toUInt32.toInt32) ((i1 &&& (63 : Int32)).toUInt32.toUInt16.toUInt32.toInt32) (1 : Int32)) else (f0_25 i0 i1 (i0.toUInt32.toUInt16.toUInt32.toInt32) ((i1 &&& (63 : Int32)).toUInt32.toUInt16.toUInt32.toInt32) (0 : Int32)))
set_option maxRecDepth 65536 in
set_option maxHeartbeats 4000000 in
theorem b0_0 {p : Program} {l : Launch} {e : Env} {s : State} {m : MethodId} {args : Array Value} {below : List Frame} {meth : Method} {c : Code} {T0 : State} {locs : List Loc} {Z : State} {a0 : Array Value} {h0 : Heap} {n0 : Nat} (i0 : Int32) (i1 : Int32) (X0 : Stand p l e room_1 s m args below meth c T0 locs 0 0) (hx : p.tables.exec = Jvm.exec) (hZ : Z.Warmed39 s.vm) (hw : ∀ d ∈ tables_1, d.before a0 Z = true) (hby : c.code = code) (hml : c.maxLocals = 6) (hown : s.vm.findClass "com/example/sukima/sukima/sql/LexerIsSpacePinLaw" = some m.cls) (e0 : T0.heap = h0) (N0 : Fr n0 locs) (Z0 : n0 ≤ h0.size) :
    own_Ret p l e room_1 s m args below meth c h0 n0 0 0 T0 (mkF m 0 #[.val (.int i0), .val (.int i1), .unset, .unset, .unset, .unset] []) (own_b (f0_0 i0 i1)) := by
  unfold f0_0
  refine own_step (T1 := T0) (g1 := (mkF m 1 #[.val (.int i0), .val (.int i1), .unset, .unset, .unset, .unset] [(.int i0)])) (fun _ k => XS.iloadN X0.here hx rfl (hb hby at_0) rfl k) ?_
  refine own_step (T1 := T0) (g1 := (mkF m 2 #[.val (.int i0), .val (.int i1), .unset, .unset, .unset, .unset] [(.int (i0.toUInt32.toUInt16.toUInt32.toInt32))])) (fun _ k => XS.i2c X0.here hx rfl (hb hby at_1) rfl k) ?_
  refine own_step (T1 := T0) (g1 := (mkF m 3 #[.val (.int i0), .val (.int i1), .val (.int (i0.toUInt32.toUInt16.toUInt32.toInt32)), .unset, .unset, .unset] [])) (fun _ k => XS.istoreN X0.here hx rfl (hb hby at_2) rfl (l' := #[.val (.int i0), .val (.int i1), .val (.int (i0.toUInt32.toUInt16.toUInt32.toInt32)), .unset, .unset, .unset]) rfl k) ?_
  refine own_step (T1 := T0) (g1 := (mkF m 4 #[.val (.int i0), .val (.int i1), .val (.int (i0.toUInt32.toUInt16.toUInt32.toInt32)), .unset, .unset, .unset] [(.int i1)])) (fun _ k => XS.iloadN X0.here hx rfl (hb hby at_3) rfl k) ?_
  refine own_step (T1 := T0) (g1 := (mkF m 6 #[.val (.int i0), .val (.int i1), .val (.int (i0.toUInt32.toUInt16.toUInt32.toInt32)), .unset, .unset, .unset] [(.int (63 : Int32)), (.int i1)])) (fun _ k => XS.bipush X0.here hx rfl (hb hby at_4) k) ?_
  refine own_step (T1 := T0) (g1 := (mkF m 7 #[.val (.int i0), .val (.int i1), .val (.int (i0.toUInt32.toUInt16.toUInt32.toInt32)), .unset, .unset, .unset] [(.int (i1 &&& (63 : Int32)))])) (fun _ k => XS.iand X0.here hx rfl (hb hby at_6) rfl k) ?_
  refine own_step (T1 := T0) (g1 := (mkF m 8 #[.val (.int i0), .val (.int i1), .val (.int (i0.toUInt32.toUInt16.toUInt32.toInt32)), .unset, .unset, .unset] [(.int ((i1 &&& (63 : Int32)).toUInt32.toUInt16.toUInt32.toInt32))])) (fun _ k => XS.i2c X0.here hx rfl (hb hby at_7) rfl k) ?_
  refine own_step (T1 := T0) (g1 := (mkF m 9 #[.val (.int i0), .val (.int i1), .val (.int (i0.toUInt32.toUInt16.toUInt32.toInt32)), .val (.int ((i1 &&& (63 : Int32)).toUInt32.toUInt16.toUInt32.toInt32)), .unset, .unset] [])) (fun _ k => XS.istoreN X0.here hx rfl (hb hby at_8) rfl (l' := #[.val (.int i0), .val (.int i1), .val (.int (i0.toUInt32.toUInt16.toUInt32.toInt32)), .val (.int ((i1 &&& (63 : Int32)).toUInt32.toUInt16.toUInt32.toInt32)), .unset, .unset]) rfl k) ?_
  refine own_step (T1 := T0) (g1 := (mkF m 10 #[.val (.int i0), .val (.int i1), .val (.int (i0.toUInt32.toUInt16.toUInt32.toInt32)), .val (.int ((i1 &&& (63 : Int32)).toUInt32.toUInt16.toUInt32.toInt32)), .unset, .unset] [(.int (i0.toUInt32.toUInt16.toUInt32.toInt32))])) (fun _ k => XS.iloadN X0.here hx rfl (hb hby at_9) rfl k) ?_
  obtain ⟨_, _, ⟨T3, L3, k3, n3⟩, -, X3, ⟨Lc3, hQ3, l3, y3, z3⟩, st3⟩ := Jvm.LawKit.callS X0 hx (y := (⟨"com/example/sukima/sukima/sql/Lexer", "isSpace", "(C)Z"⟩ : MethodName)) hown (mvT hZ (hw _ (List.mem_of_getElem? (i := 0) rfl))) (mvT hZ (hw _ (List.mem_of_getElem? (i := 1) rfl))) (mvT hZ (hw _ (List.mem_of_getElem? (i := 2) rfl))) (mvT hZ (hw _ (List.mem_of_getElem? (i := 3) rfl))) (by decide) (backOf (W := 0) (rm1 l Z a0 hw [] (i0.toUInt32.toUInt16.toUInt32.toInt32) h0 n0 Z0) hZ (hw _ (List.mem_of_getElem? (i := 3) rfl)) (hw _ (List.mem_of_getElem? (i := 2) rfl)) (by decide) (by decide)) (g := (mkF m 10 #[.val (.int i0), .val (.int i1), .val (.int (i0.toUInt32.toUInt16.toUInt32.toInt32)), .val (.int ((i1 &&& (63 : Int32)).toUInt32.toUInt16.toUInt32.toInt32)), .unset, .unset] [(.int (i0.toUInt32.toUInt16.toUInt32.toInt32))])) rfl (by rw [hml]; rfl) (argsL := [(.int (i0.toUInt32.toUInt16.toUInt32.toInt32))]) (rest := []) (lenOf own_pd_C_Z rfl) rfl (by show 2 * 0 + _ ≤ _; exact Nat.le_of_eq rfl) (hb hby at_10) (fun _ _ => ⟨rfl, e0, (by decide : 0 + 0 ≤ _), (by decide : 0 + 0 ≤ _)⟩)
  dsimp only [Pt.U, Pt.locs, Pt.cells, Pt.slots] at X3 l3 y3 z3 st3 hQ3
  subst l3 y3 z3
  obtain ⟨rfl, N3q, e3⟩ := hQ3
  have N3 := Fr.app N0 N3q
  refine own_step (T1 := T3) (g1 := (mkF m 13 #[.val (.int i0), .val (.int i1), .val (.int (i0.toUInt32.toUInt16.toUInt32.toInt32)), .val (.int ((i1 &&& (63 : Int32)).toUInt32.toUInt16.toUInt32.toInt32)), .unset, .unset] [(.int (own_b (f1_0 (i0.toUInt32.toUInt16.toUInt32.toInt32))))])) (fun t k => st3 t k) ?_
  refine own_step (T1 := T3) (g1 := (mkF m 14 #[.val (.int i0), .val (.int i1), .val (.int (i0.toUInt32.toUInt16.toUInt32.toInt32)), .val (.int ((i1 &&& (63 : Int32)).toUInt32.toUInt16.toUInt32.toInt32)), .unset, .unset] [(.int (i0.toUInt32.toUInt16.toUInt32.toInt32)), (.int (own_b (f1_0 (i0.toUInt32.toUInt16.toUInt32.toInt32))))])) (fun _ k => XS.iloadN X3.here hx rfl (hb hby at_13) rfl k) ?_
  obtain ⟨_, _, ⟨T4, L4, k4, n4⟩, -, X4, ⟨Lc4, hQ4, l4, y4, z4⟩, st4⟩ := Jvm.LawKit.callS X3 hx (y := (⟨"com/example/sukima/sukima/sql/LexerIsSpacePinLaw", "expected", "(C)Z"⟩ : MethodName)) hown (mvT hZ (hw _ (List.mem_of_getElem? (i := 4) rfl))) (mvT hZ (hw _ (List.mem_of_getElem? (i := 5) rfl))) (mvT hZ (hw _ (List.mem_of_getElem? (i := 6) rfl))) (mvT hZ (hw _ (List.mem_of_getElem? (i := 7) rfl))) (by decide) (backOf (W := 1) (rm2 l Z a0 hw [] (i0.toUInt32.toUInt16.toUInt32.toInt32) h0 n0 Z0) hZ (hw _ (List.mem_of_getElem? (i := 7) rfl)) (hw _ (List.mem_of_getElem? (i := 6) rfl)) (by decide) (by decide)) (g := (mkF m 14 #[.val (.int i0), .val (.int i1), .val (.int (i0.toUInt32.toUInt16.toUInt32.toInt32)), .val (.int ((i1 &&& (63 : Int32)).toUInt32.toUInt16.toUInt32.toInt32)), .unset, .unset] [(.int (i0.toUInt32.toUInt16.toUInt32.toInt32)), (.int (own_b (f1_0 (i0.toUInt32.toUInt16.toUInt32.toInt32))))])) rfl (by rw [hml]; rfl) (argsL := [(.int (i0.toUInt32.toUInt16.toUInt32.toInt32))]) (rest := [(.int (own_b (f1_0 (i0.toUInt32.toUInt16.toUInt32.toInt32))))]) (lenOf own_pd_C_Z rfl) rfl (by show 2 * 0 + _ ≤ _; exact Nat.le_of_eq rfl) (hb hby at_14) (fun _ _ => ⟨rfl, e3, (by decide : 0 + 0 ≤ _), (by decide : 0 + 0 ≤ _)⟩)
  dsimp only [Pt.U, Pt.locs, Pt.cells, Pt.slots] at X4 l4 y4 z4 st4 hQ4
  subst l4 y4 z4
  obtain ⟨rfl, N4q, e4⟩ := hQ4
  have N4 := Fr.app N3 N4q
  refine own_step (T1 := T4) (g1 := (mkF m 17 #[.val (.int i0), .val (.int i1), .val (.int (i0.toUInt32.toUInt16.toUInt32.toInt32)), .val (.int ((i1 &&& (63 : Int32)).toUInt32.toUInt16.toUInt32.toInt32)), .unset, .unset] [(.int (own_b (f2_0 (i0.toUInt32.toUInt16.toUInt32.toInt32)))), (.int (own_b (f1_0 (i0.toUInt32.toUInt16.toUInt32.toInt32))))])) (fun t k => st4 t k) ?_
  by_cases hc17 : (own_b (f1_0 (i0.toUInt32.toUInt16.toUInt32.toInt32))) = (own_b (f2_0 (i0.toUInt32.toUInt16.toUInt32.toInt32)))
  · rw [if_pos hc17]
    refine own_step (T1 := T4) (g1 := (mkF m 20 #[.val (.int i0), .val (.int i1), .val (.int (i0.toUInt32.toUInt16.toUInt32.toInt32)), .val (.int ((i1 &&& (63 : Int32)).toUInt32.toUInt16.toUInt32.toInt32)), .unset, .unset] [])) (fun _ k => XS.icmpNo X4.here hx rfl (hb hby at_17) rfl (teq hc17).2 k) ?_
    refine own_step (T1 := T4) (g1 := (mkF m 21 #[.val (.int i0), .val (.int i1), .val (.int (i0.toUInt32.toUInt16.toUInt32.toInt32)), .val (.int ((i1 &&& (63 : Int32)).toUInt32.toUInt16.toUInt32.toInt32)), .unset, .unset] [(.int (1 : Int32))])) (fun _ k => XS.iconst X4.here hx rfl (hb hby at_20) k) ?_
    refine own_step (T1 := T4) (g1 := (mkF m 25 #[.val (.int i0), .val (.int i1), .val (.int (i0.toUInt32.toUInt16.toUInt32.toInt32)), .val (.int ((i1 &&& (63 : Int32)).toUInt32.toUInt16.toUInt32.toInt32)), .unset, .unset] [(.int (1 : Int32))])) (fun _ k => XS.goto X4.here hx rfl (pc0 := 21) (pc' := 25) rfl (hb hby at_21) (by decide) (by decide) k) ?_
    exact b0_25 i0 i1 (i0.toUInt32.toUInt16.toUInt32.toInt32) ((i1 &&& (63 : Int32)).toUInt32.toUInt16.toUInt32.toInt32) (1 : Int32) X4 hx hZ hw hby hml hown e4 N4 Z0
  · rw [if_neg hc17]
    refine own_step (T1 := T4) (g1 := (mkF m 24 #[.val (.int i0), .val (.int i1), .val (.int (i0.toUInt32.toUInt16.toUInt32.toInt32)), .val (.int ((i1 &&& (63 : Int32)).toUInt32.toUInt16.toUInt32.toInt32)), .unset, .unset] [])) (fun _ k => XS.icmpYes X4.here hx rfl (pc0 := 17) (pc' := 24) rfl (hb hby at_17) rfl (feq hc17).2 (by decide) (by decide) k) ?_
    refine own_step (T1 := T4) (g1 := (mkF m 25 #[.val (.int i0), .val (.int i1), .val (.int (i0.toUInt32.toUInt16.toUInt32.toInt32)), .val (.int ((i1 &&& (63 : Int32)).toUInt32.toUInt16.toUInt32.toInt32)), .unset, .unset] [(.int (0 : Int32))])) (fun _ k => XS.iconst X4.here hx rfl (hb hby at_24) k) ?_
    exact b0_25 i0 i1 (i0.toUInt32.toUInt16.toUInt32.toInt32) ((i1 &&& (63 : Int32)).toUInt32.toUInt16.toUInt32.toInt32) (0 : Int32) X4 hx hZ hw hby hml hown e4 N4 Z0
def F1_36 (z0 : Int) : Bool := true
def F1_0 (z0 : Int) : Bool := (if z0 = (32 : Int) then (F1_36 z0) else (if z0 = (9 : Int) then (F1_36 z0) else (if z0 = (10 : Int) then (F1_36 z0) else (if z0 = (13 : Int) then (F1_36 z0) else (if z0 = (12 : Int) then (F1_36 z0) else (if z0 = (11 : Int) then (F1_36 z0) else false))))))
theorem own_c1_9 : (9 : Int32).toInt = 9 := rfl
theorem own_c1_10 : (10 : Int32).toInt = 10 := rfl
theorem own_c1_11 : (11 : Int32).toInt = 11 := rfl
theorem own_c1_12 : (12 : Int32).toInt = 12 := rfl
theorem own_c1_13 : (13 : Int32).toInt = 13 := rfl
theorem own_c1_32 : (32 : Int32).toInt = 32 := rfl
theorem f1_36_int (i0 : Int32) : f1_36 i0 = F1_36 i0.toInt := by
  simp only [f1_36, F1_36, Int32.lt_iff_toInt_lt, ← Int32.toInt_inj]
theorem f1_0_int (i0 : Int32) : f1_0 i0 = F1_0 i0.toInt := by
  simp only [f1_0, F1_0, f1_36_int, Int32.lt_iff_toInt_lt, ← Int32.toInt_inj, own_c1_9, own_c1_10, own_c1_11, own_c1_12, own_c1_13, own_c1_32]
def F2_22 (z0 : Int) : Bool := false
def F2_18 (z0 : Int) : Bool := true
def F2_0 (z0 : Int) : Bool := (if z0 = (32 : Int) then (F2_18 z0) else (if z0 < (9 : Int) then (F2_22 z0) else (if (13 : Int) < z0 then (F2_22 z0) else (F2_18 z0))))
theorem own_c2_9 : (9 : Int32).toInt = 9 := rfl
theorem own_c2_13 : (13 : Int32).toInt = 13 := rfl
theorem own_c2_32 : (32 : Int32).toInt = 32 := rfl
theorem f2_22_int (i0 : Int32) : f2_22 i0 = F2_22 i0.toInt := by
  simp only [f2_22, F2_22, Int32.lt_iff_toInt_lt, ← Int32.toInt_inj]
theorem f2_18_int (i0 : Int32) : f2_18 i0 = F2_18 i0.toInt := by
  simp only [f2_18, F2_18, Int32.lt_iff_toInt_lt, ← Int32.toInt_inj]
theorem f2_0_int (i0 : Int32) : f2_0 i0 = F2_0 i0.toInt := by
  simp only [f2_0, F2_0, f2_18_int, f2_22_int, Int32.lt_iff_toInt_lt, ← Int32.toInt_inj, own_c2_9, own_c2_13, own_c2_32]
set_option maxHeartbeats 4000000 in
theorem own_same_int (z : Int) : F1_0 z = F2_0 z := by
  rcases Int.lt_or_le z 9 with h | h
  · simp (disch := omega) only [F1_36, F1_0, F2_22, F2_18, F2_0, ↓if_pos, ↓if_neg, ↓reduceIte, reduceCtorEq]
  have h' := h
  clear h
  rcases Int.lt_or_le z 10 with h | h
  · simp (disch := omega) only [F1_36, F1_0, F2_22, F2_18, F2_0, ↓if_pos, ↓if_neg, ↓reduceIte, reduceCtorEq]
  clear h'
  have h' := h
  clear h
  rcases Int.lt_or_le z 11 with h | h
  · simp (disch := omega) only [F1_36, F1_0, F2_22, F2_18, F2_0, ↓if_pos, ↓if_neg, ↓reduceIte, reduceCtorEq]
  clear h'
  have h' := h
  clear h
  rcases Int.lt_or_le z 12 with h | h
  · simp (disch := omega) only [F1_36, F1_0, F2_22, F2_18, F2_0, ↓if_pos, ↓if_neg, ↓reduceIte, reduceCtorEq]
  clear h'
  have h' := h
  clear h
  rcases Int.lt_or_le z 13 with h | h
  · simp (disch := omega) only [F1_36, F1_0, F2_22, F2_18, F2_0, ↓if_pos, ↓if_neg, ↓reduceIte, reduceCtorEq]
  clear h'
  have h' := h
  clear h
  rcases Int.lt_or_le z 14 with h | h
  · simp (disch := omega) only [F1_36, F1_0, F2_22, F2_18, F2_0, ↓if_pos, ↓if_neg, ↓reduceIte, reduceCtorEq]
  clear h'
  have h' := h
  clear h
  rcases Int.lt_or_le z 32 with h | h
  · simp (disch := omega) only [F1_36, F1_0, F2_22, F2_18, F2_0, ↓if_pos, ↓if_neg, ↓reduceIte, reduceCtorEq]
  clear h'
  have h' := h
  clear h
  rcases Int.lt_or_le z 33 with h | h
  · simp (disch := omega) only [F1_36, F1_0, F2_22, F2_18, F2_0, ↓if_pos, ↓if_neg, ↓reduceIte, reduceCtorEq]
  clear h'
  have h' := h
  clear h
  simp (disch := omega) only [F1_36, F1_0, F2_22, F2_18, F2_0, ↓if_pos, ↓if_neg, ↓reduceIte, reduceCtorEq]
/-! the plain law -/
theorem own_same (x : Int32) : f1_0 x = f2_0 x := by rw [f1_0_int, f2_0_int, own_same_int]
theorem own_law (i0 i1 : Int32) : f0_0 i0 i1 = true := by
  unfold f0_0
  rw [own_same, if_pos rfl]
  unfold f0_25
  rw [own_same, if_pos rfl]
  rfl

theorem pn_0 : plainName "com/example/sukima/sukima/sql/LexerIsSpacePinLaw" = true := by first | (simp [plainName, overriddenIn]; done) | decide +kernel
theorem ef_0 (m : MethodId) (i0 : Int32) (i1 : Int32) : entryFrame m #[(.int i0), (.int i1)] maxLocals = mkF m 0 #[.val (.int i0), .val (.int i1), .unset, .unset, .unset, .unset] [] := by first | (simp [entryFrame, mkF, argsToLocals, Value.category, maxLocals]; done) | rfl
def Q0 (n0 : Nat) (v : Option Value) (h : Heap) (L : List Loc) : Prop := v = some (.int (1 : Int32)) ∧ Fr n0 L
set_option maxRecDepth 65536 in
set_option maxHeartbeats 4000000 in
theorem rm0 (l : Launch) (Z : State) (a0 : Array Value) (hw : ∀ d ∈ tables_1, d.before a0 Z = true) (ws : List Jvm.Cond) (i0 : Int32) (i1 : Int32) (h0 : Heap) (n0 : Nat) (Z0 : n0 ≤ h0.size) :
    MetFree l x (head1 (Jvm.Cond.code x code maxLocals ret :: ws) room_1) (fun a U => a = #[(.int i0), (.int i1)] ∧ Z.Warmed39 U.vm ∧ U.heap = h0) (fun _ _ _ _ _ => True) (fun _ U o U' => ∃ v L, o = .returned v ∧ Q0 n0 v U'.heap L ∧ FrameEnd U o U' L room_1.cells room_1.slots) := by
  refine MetFree.of_bodySF (plainFor_of_name pn_0) hisR ?_
  intro p e s m args below meth c s₁ Bd hml0 hP hK
  obtain ⟨rfl, hZ, hh⟩ := hP
  have hx := Bd.exec
  have hby := Bd.bytes
  have hml : c.maxLocals = 6 := hml0
  have hown : s.vm.findClass "com/example/sukima/sukima/sql/LexerIsSpacePinLaw" = some m.cls := findClass_of_methodNamed Bd.named
  have X0 : Stand p l e room_1 s m #[(.int i0), (.int i1)] below meth c s₁ [] 0 0 := Stand.of_body Bd
  have e0 : s₁.heap = h0 := by rw [← hh, Bd.state]; rfl
  obtain ⟨T', locs', pcr, Ls, X', e', N', hd, st⟩ := b0_0 i0 i1 X0 hx hZ hw hby hml hown e0 (Fr.nil n0) Z0
  rw [own_law] at st
  obtain ⟨fs, hr, hrun, hended, hW, hsame⟩ := X'.leave (v := some (.int (1 : Int32))) (fun h => by rw [Bd.returns] at h; cases h)
  refine ⟨_, _, castTop (ef_0 m i0 i1) (st _ ?_), hrun, hended, _, _, rfl, ?_, ⟨_, rfl⟩, hW, hsame.mono (by decide) (by decide)⟩
  · exact retN X' hx (t := .boolean) Bd.returns (by simp) hd hr
  · exact ⟨rfl, N'⟩
set_option maxRecDepth 65536 in
set_option maxHeartbeats 40000000 in
theorem comes_1 {Post : Tables → Env → Array Value → State → Outcome → State → Prop} (hpost : ∀ tb e args s v u, (limb_1_1.after args s (.returned v) u = true ∧ limb_1_2.after args s (.returned v) u = true ∧ True) → FrameEnd s (.returned v) u (Jvm.fieldLocs frame_1_writes args s ++ Jvm.arrayLocs frame_1_arrays args s ++ Jvm.staticLocs frame_1_statics s) 0 0 → Post tb e args s (.returned v) u) :
    ArmFor flags0 classFile x code maxLocals ret World_1 tables_1 room_1 Calls_1 rest_1 Pre_1 Post := by
  intro l hfl _ _ p e ha hc hk s m args below hf hA hF happ hP
  obtain ⟨hcalls, hrest, hpre⟩ := hP
  obtain ⟨-, -, -, hnamed, -, -, -, hat⟩ := (Spec.applies_iff hf).mp happ
  obtain ⟨hg, hn⟩ := and_e (Cond.before_iff.mp (show (Jvm.Cond.and given_1 narrow_1).before args s = true from hpre))
  obtain ⟨gc, gr0⟩ := and_e hg
  obtain ⟨ga0, gr1⟩ := and_e gr0
  obtain ⟨w0, w1, rfl⟩ : ∃ w0 w1 : Value, args = #[w0, w1] := by
    have hs : args.size = 2 := by simpa [Cond.value, given_1] using gc
    obtain ⟨L⟩ := args
    match L, hs with
    | [w0, w1], _ => exact ⟨w0, w1, rfl⟩
  have hw := fun d (hd : d ∈ tables_1) => atoms_spec (ws := Jvm.Cond.code x code maxLocals ret :: tables_1) hat d (List.mem_cons_of_mem _ hd)
  obtain ⟨i0, ei0⟩ := is_v ga0
  obtain rfl : w0 = (.int i0) := Option.some.inj ei0
  obtain ⟨i1, ei1⟩ := is_v gr1
  obtain rfl : w1 = (.int i1) := Option.some.inj ei1
  obtain ⟨n, o, h1, h2, h3, _, L, rfl, ⟨rfl, N⟩, hq⟩ := rm0 l s _ hw tables_1 i0 i1 s.heap s.heap.size (Nat.le_refl _) p e ha hc hk s m _ below hf ((Spec.applies_iff_loose hf).mp happ).1 ⟨rfl, State.Warmed39.refl s, rfl⟩ trivial
  refine ⟨n, _, h1, h2, h3, hpost _ _ _ _ _ _ ⟨Cond.after_iff.mpr rfl, Cond.after_iff.mpr (eq_i res_at (Term.int_eval (1)) rfl), trivial⟩ ⟨hq.1, hq.2.1, (hq.2.2.sift fun y hy => Or.inr (N y hy)).mono (by decide) (by decide)⟩⟩
theorem main_1_1 : Claimed_1_1 := comes_1 fun _ _ _ _ _ _ h hF => ⟨h.1, hF⟩
theorem main_1_2 : Claimed_1_2 := comes_1 fun _ _ _ _ _ _ h hF => ⟨h.2.1, hF⟩
end Jvm.Pilot.@@N@@
namespace Jvm.Pilot.@@N@@
open Jvm Jvm.ClassFile Sem Op Lib Jvm.Free Jvm.Stand Jvm.Pilot.@@N@@.Jvm.D
/-! MADE BY PROGRAM (witnessworld.py) out of the Statement's table words and the real class files: 9 classes; the members and pool entries that the words name. The judged class is class 1, her method 2. -/
namespace start1
open Jvm.ClassFile
def u (s : String) : CpInfo := .utf8 (stringToUtf16 s)
/-- a pool by its gaps: so many unusable entries, then the entry; so many at the end -/
def gap : Nat → List CpInfo → List CpInfo
  | 0, r => r
  | n + 1, r => .unusable :: gap n r
def poolList (es : List (Nat × CpInfo)) (last : Nat) : List CpInfo := es.foldr (fun e r => gap e.1 (e.2 :: r)) (gap last [])
def pool (es : List (Nat × CpInfo)) (last : Nat) : Array CpInfo := ⟨poolList es last⟩
def fileOf (pool : Array CpInfo) (this : Nat) (attrs : Array Attribute := #[]) (ms : Array MethodInfo := #[]) (fl : Nat := 33) (sup : Nat := 0) (ifs : Array Nat := #[]) (fds : Array FieldInfo := #[]) : ClassFile where
  minorVersion := 0
  majorVersion := 65
  constantPool := pool
  accessFlags := fl
  thisClass := this
  superClass := sup
  interfaces := ifs
  fields := fds
  methods := ms
  attributes := attrs
def plain (name : String) (sup : Option ClassId) : Class where
  name := name
  kind := .ordinary
  loader := none
  accessFlags := 33
  super := sup
  interfaces := #[]
  cf := none
  fields := #[]
  methods := #[]
  instanceTypes := #[]
  staticTypes := #[]
  resolved := #[]
  callSites := []
  init := .initialized
  statics := none
  mirror := none

def pool0 : Array CpInfo := pool [(5, u "<init>"), (0, u "()V"), (1, .class_ 10), (1, u "java/lang/Object")] 113

def k0m0 : Method := { name := "<init>", desc := "()V", sig := { parameters := [], returnType := none }, accessFlags := 1, code := none }
/-- java/lang/Object -/
def k0 : Class := { plain "java/lang/Object" none with
  accessFlags := 33
  interfaces := #[]
  cf := some (fileOf pool0 8 #[] #[{ accessFlags := 1, nameIndex := 5, descriptorIndex := 6, attributes := #[] }] 33 0 #[] #[])
  fields := #[]
  methods := #[k0m0]
  instanceTypes := #[]
  staticTypes := #[]
  resolved := Array.replicate 124 none
  statics := none }

def pool1 : Array CpInfo := pool [(2, .class_ 4), (1, u "java/lang/Object"), (0, u "<init>"), (0, u "()V"), (0, .methodref 8 9), (0, .class_ 10), (0, .nameAndType 11 12), (0, u "com/example/sukima/sukima/sql/Lexer"), (0, u "isSpace"), (0, u "(C)Z"), (0, .methodref 14 15), (0, .class_ 16), (0, .nameAndType 17 12), (0, u "com/example/sukima/sukima/sql/LexerIsSpacePinLaw"), (0, u "expected"), (3, u "law"), (0, u "(II)Z")] 2

def k1m0 : Method := { name := "<init>", desc := "()V", sig := { parameters := [], returnType := none }, accessFlags := 1, code := none }
def k1c1 : Code := { maxStack := 2, maxLocals := 1, code := method_2_code, exceptionTable := #[], attributes := #[] }
def k1m1 : Method := { name := "expected", desc := "(C)Z", sig := { parameters := [.char], returnType := some .boolean }, accessFlags := 10, code := some k1c1 }
def k1c2 : Code := { maxStack := 2, maxLocals := 6, code := code, exceptionTable := #[], attributes := #[] }
def k1m2 : Method := { name := "law", desc := "(II)Z", sig := { parameters := [.int, .int], returnType := some .boolean }, accessFlags := 9, code := some k1c2 }
/-- com/example/sukima/sukima/sql/LexerIsSpacePinLaw -/
def k1 : Class := { plain "com/example/sukima/sukima/sql/LexerIsSpacePinLaw" (some 0) with
  accessFlags := 49
  interfaces := #[]
  cf := some (fileOf pool1 14 #[] #[{ accessFlags := 1, nameIndex := 5, descriptorIndex := 6, attributes := #[] }, { accessFlags := 10, nameIndex := 17, descriptorIndex := 12, attributes := #[] }, { accessFlags := 9, nameIndex := 21, descriptorIndex := 22, attributes := #[] }] 49 2 #[] #[])
  fields := #[]
  methods := #[k1m0, k1m1, k1m2]
  instanceTypes := #[]
  staticTypes := #[]
  resolved := Array.replicate 25 none
  statics := none }

def pool2 : Array CpInfo := pool [(10, .class_ 12), (1, u "com/example/sukima/sukima/sql/Lexer"), (2, .class_ 17), (1, u "java/lang/Object"), (4, u "kept"), (0, u "[C"), (5, u "place"), (0, u "Lcom/example/sukima/sukima/sql/TextPlace;"), (4, u "statementStart"), (0, u "J"), (2, u "reader"), (0, u "Ljava/io/Reader;"), (2, u "offset"), (20, u "isSpace"), (0, u "(C)Z"), (14, u "inVersionedComment"), (0, u "Z"), (4, u "versionedCommentLine"), (0, u "I"), (2, u "versionedCommentColumn"), (10, u "echo"), (0, u "Ljava/lang/StringBuilder;"), (93, u "echoEnd"), (97, u "LONG_SYMBOLS"), (0, u "[Ljava/lang/String;"), (13, u "keptStart"), (10, u "keptEnd"), (2, u "readerEnded"), (60, u "SINGLE_SYMBOLS"), (0, u "Ljava/lang/String;"), (1, u "HEXADECIMAL_DIGITS"), (0, u "BINARY_DIGITS"), (0, u "SERVER_VERSION"), (0, u "VERSION_DIGITS"), (1, u "LONG_VERSION_DIGITS"), (1, u "ROOM"), (0, u "NONE")] 40

def k2c0 : Code := { maxStack := 2, maxLocals := 1, code := prog_153_method_12_code, exceptionTable := #[], attributes := #[] }
def k2m0 : Method := { name := "isSpace", desc := "(C)Z", sig := { parameters := [.char], returnType := some .boolean }, accessFlags := 9, code := some k2c0 }
/-- com/example/sukima/sukima/sql/Lexer -/
def k2 : Class := { plain "com/example/sukima/sukima/sql/Lexer" (some 0) with
  accessFlags := 33
  interfaces := #[]
  cf := some (fileOf pool2 10 #[] #[{ accessFlags := 9, nameIndex := 64, descriptorIndex := 65, attributes := #[] }] 33 15 #[] #[{ accessFlags := 26, nameIndex := 294, descriptorIndex := 295, attributes := #[] }, { accessFlags := 26, nameIndex := 384, descriptorIndex := 385, attributes := #[] }, { accessFlags := 26, nameIndex := 387, descriptorIndex := 385, attributes := #[] }, { accessFlags := 26, nameIndex := 388, descriptorIndex := 385, attributes := #[] }, { accessFlags := 26, nameIndex := 389, descriptorIndex := 87, attributes := #[] }, { accessFlags := 26, nameIndex := 390, descriptorIndex := 87, attributes := #[] }, { accessFlags := 26, nameIndex := 392, descriptorIndex := 87, attributes := #[] }, { accessFlags := 26, nameIndex := 394, descriptorIndex := 87, attributes := #[] }, { accessFlags := 26, nameIndex := 395, descriptorIndex := 36, attributes := #[] }, { accessFlags := 18, nameIndex := 39, descriptorIndex := 40, attributes := #[] }, { accessFlags := 2, nameIndex := 323, descriptorIndex := 81, attributes := #[] }, { accessFlags := 2, nameIndex := 22, descriptorIndex := 23, attributes := #[] }, { accessFlags := 2, nameIndex := 309, descriptorIndex := 36, attributes := #[] }, { accessFlags := 2, nameIndex := 320, descriptorIndex := 36, attributes := #[] }, { accessFlags := 2, nameIndex := 43, descriptorIndex := 36, attributes := #[] }, { accessFlags := 18, nameIndex := 29, descriptorIndex := 30, attributes := #[] }, { accessFlags := 2, nameIndex := 35, descriptorIndex := 36, attributes := #[] }, { accessFlags := 2, nameIndex := 80, descriptorIndex := 81, attributes := #[] }, { accessFlags := 2, nameIndex := 86, descriptorIndex := 87, attributes := #[] }, { accessFlags := 2, nameIndex := 90, descriptorIndex := 87, attributes := #[] }, { accessFlags := 2, nameIndex := 101, descriptorIndex := 102, attributes := #[] }, { accessFlags := 2, nameIndex := 196, descriptorIndex := 36, attributes := #[] }])
  fields := #[{ name := "LONG_SYMBOLS", type := (.array (.object "java/lang/String")), accessFlags := 26, slot := 0, constantValue := 0 }, { name := "SINGLE_SYMBOLS", type := (.object "java/lang/String"), accessFlags := 26, slot := 1, constantValue := 0 }, { name := "HEXADECIMAL_DIGITS", type := (.object "java/lang/String"), accessFlags := 26, slot := 2, constantValue := 0 }, { name := "BINARY_DIGITS", type := (.object "java/lang/String"), accessFlags := 26, slot := 3, constantValue := 0 }, { name := "SERVER_VERSION", type := .int, accessFlags := 26, slot := 4, constantValue := 0 }, { name := "VERSION_DIGITS", type := .int, accessFlags := 26, slot := 5, constantValue := 0 }, { name := "LONG_VERSION_DIGITS", type := .int, accessFlags := 26, slot := 6, constantValue := 0 }, { name := "ROOM", type := .int, accessFlags := 26, slot := 7, constantValue := 0 }, { name := "NONE", type := .long, accessFlags := 26, slot := 8, constantValue := 0 }, { name := "reader", type := (.object "java/io/Reader"), accessFlags := 18, slot := 0, constantValue := 0 }, { name := "readerEnded", type := .boolean, accessFlags := 2, slot := 1, constantValue := 0 }, { name := "kept", type := (.array .char), accessFlags := 2, slot := 2, constantValue := 0 }, { name := "keptStart", type := .long, accessFlags := 2, slot := 3, constantValue := 0 }, { name := "keptEnd", type := .long, accessFlags := 2, slot := 4, constantValue := 0 }, { name := "offset", type := .long, accessFlags := 2, slot := 5, constantValue := 0 }, { name := "place", type := (.object "com/example/sukima/sukima/sql/TextPlace"), accessFlags := 18, slot := 6, constantValue := 0 }, { name := "statementStart", type := .long, accessFlags := 2, slot := 7, constantValue := 0 }, { name := "inVersionedComment", type := .boolean, accessFlags := 2, slot := 8, constantValue := 0 }, { name := "versionedCommentLine", type := .int, accessFlags := 2, slot := 9, constantValue := 0 }, { name := "versionedCommentColumn", type := .int, accessFlags := 2, slot := 10, constantValue := 0 }, { name := "echo", type := (.object "java/lang/StringBuilder"), accessFlags := 2, slot := 11, constantValue := 0 }, { name := "echoEnd", type := .long, accessFlags := 2, slot := 12, constantValue := 0 }]
  methods := #[k2m0]
  instanceTypes := #[(.object "java/io/Reader"), .boolean, (.array .char), .long, .long, .long, (.object "com/example/sukima/sukima/sql/TextPlace"), .long, .boolean, .int, .int, (.object "java/lang/StringBuilder"), .long]
  staticTypes := #[(.array (.object "java/lang/String")), (.object "java/lang/String"), (.object "java/lang/String"), (.object "java/lang/String"), .int, .int, .int, .int, .long]
  resolved := Array.replicate 436 none
  statics := none }

def pool3 : Array CpInfo := pool [(1, u "java/lang/Cloneable"), (0, .class_ 1), (0, u "java/lang/Object"), (0, .class_ 3)] 3

/-- java/lang/Cloneable -/
def k3 : Class := { plain "java/lang/Cloneable" (some 0) with
  accessFlags := 1537
  interfaces := #[]
  cf := some (fileOf pool3 2 #[] #[] 1537 4 #[] #[])
  fields := #[]
  methods := #[]
  instanceTypes := #[]
  staticTypes := #[]
  resolved := Array.replicate 8 none
  statics := none }

def pool4 : Array CpInfo := pool [(1, u "java/io/Serializable"), (0, .class_ 1), (0, u "java/lang/Object"), (0, .class_ 3)] 3

/-- java/io/Serializable -/
def k4 : Class := { plain "java/io/Serializable" (some 0) with
  accessFlags := 1537
  interfaces := #[]
  cf := some (fileOf pool4 2 #[] #[] 1537 4 #[] #[])
  fields := #[]
  methods := #[]
  instanceTypes := #[]
  staticTypes := #[]
  resolved := Array.replicate 8 none
  statics := none }

/-- the primitive byte -/
def k5 : Class := { plain "byte" none with kind := .primitive 'B', accessFlags := 0x411 }
/-- [B -/
def k6 : Class := { plain "[B" (some 0) with kind := .array 5 .byte, interfaces := #[3, 4], accessFlags := 1041 }

/-- the primitive int -/
def k7 : Class := { plain "int" none with kind := .primitive 'I', accessFlags := 0x411 }
/-- [I -/
def k8 : Class := { plain "[I" (some 0) with kind := .array 7 .int, interfaces := #[3, 4], accessFlags := 1041 }

def heap : Heap := #[]
def classes : Array Class := #[k0, k1, k2, k3, k4, k5, k6, k7, k8]
def interned : List (Array UInt16 × Addr) := []
def slotsUsed : Nat := 0
def theMethod : MethodId := ⟨1, 2⟩
def args0 : Array Value := #[.int 9, .int 70]
def aboutOver (below : List Frame) : State where
  vm := { classes := classes, interned := interned.toArray }
  heap := heap
  slotsUsed := slotsUsed
  threads := #[{ frames := .invoking theMethod args0 :: below }]
def below0 : List Frame := [.native { method := ⟨0, 0⟩, args := #[] }]
def about1 : State := aboutOver below0
def p0 : Program := .bare "" "" ""
def e0 : Env := launch0.env 0 0 0
theorem w_frames : about1.frames = Frame.invoking theMethod args0 :: below0 := rfl
set_option maxRecDepth 65536 in
theorem w_args : argsFit about1.vm theMethod args0 = true := by decide +kernel
set_option maxRecDepth 65536 in
theorem w_heap : heapFits about1 = true := by decide +kernel
set_option maxRecDepth 65536 in
theorem w_runnable : about1.curStatus? = some .runnable := by decide +kernel
set_option maxRecDepth 65536 in
theorem w_alone : about1.alone = true := by decide +kernel
set_option maxRecDepth 65536 in
theorem w_named : about1.methodNamed? x = some theMethod := by decide +kernel
set_option maxRecDepth 65536 in
theorem w_hears : about1.hears theMethod below0 = true := by decide +kernel
set_option maxRecDepth 65536 in
theorem w_ripe : about1.ripe theMethod args0 below0 = true := by decide +kernel
theorem w_running : about1.status = .running := rfl
set_option maxRecDepth 65536 in
theorem w_room : about1.hasRoom e0.platform room_1 = true :=
  launch0.hasRoom_least _ room_1 (by decide +kernel) (by decide +kernel) (by decide +kernel) (by decide +kernel) (by decide +kernel) (by decide +kernel)
theorem allAtoms_all (ts : List Jvm.Cond) (a : Array Jvm.Value) (st : Jvm.State) : (allAtoms ts).before a st = ts.all (fun c => c.before a st) := by
  induction ts with
  | nil => rfl
  | cons c t ih =>
    show (Jvm.Cond.and c (allAtoms t)).before a st = _
    rw [Jvm.Cond.before_and, ih, List.all_cons]
def words1 : List Jvm.Cond := Jvm.Cond.code x code maxLocals ret :: tables_1
/-- a 'code' word, met by the world's own term for the bytes: nothing is compared byte by byte -/
theorem code_word {y : MethodName} {bytes : ByteArray} {mx : Nat} {rt : Option FieldType} {a : Array Value} {s : State} {m : MethodId} {meth : Method} {c : Code} (h1 : s.methodNamed? y = some m) (h2 : s.vm.method? m = some meth) (h3 : meth.code = some c) (h4 : c.code = bytes)
    (h5 : (c.maxLocals == mx && c.exceptionTable.isEmpty && decide (c.maxStack ≤ mostOperands) && decide (meth.sig.returnType = rt) && !meth.locks && decide (parseMethodDescriptor y.desc = some meth.sig)) = true) : (Jvm.Cond.code y bytes mx rt).before a s = true := by
  simp only [Bool.and_eq_true, beq_iff_eq, Bool.not_eq_true', decide_eq_true_eq] at h5
  obtain ⟨⟨⟨⟨⟨g1, g2⟩, g3⟩, g4⟩, g5⟩, g6⟩ := h5
  simp [Cond.before, Cond.holds, Cond.value, h1, h2, h3, h4, g1, g2, g3, g4, g5, g6]
def isCode : Jvm.Cond → Bool
  | .code _ _ _ _ => true
  | _ => false
theorem all_split {L : List Jvm.Cond} {P : Jvm.Cond → Bool} (h1 : L.all (fun c => isCode c || P c) = true) (h2 : ∀ c ∈ L.filter isCode, P c = true) : L.all P = true := by
  refine List.all_eq_true.mpr fun c hc => ?_
  have h := List.all_eq_true.mp h1 c hc
  rcases Bool.eq_false_or_eq_true (isCode c) with hi | hi
  · exact h2 c (List.mem_filter.mpr ⟨hc, hi⟩)
  · simpa [hi] using h
set_option maxRecDepth 65536 in
theorem w_c0 : (Jvm.Cond.code x code maxLocals ret).before args0 about1 = true := code_word (m := ⟨1, 2⟩) (meth := k1m2) (c := k1c2) (by decide +kernel) rfl rfl rfl (by decide +kernel)
set_option maxRecDepth 65536 in
theorem w_c1 : (Jvm.Cond.code ({ cls := "com/example/sukima/sukima/sql/Lexer", name := "isSpace", desc := "(C)Z" } : Jvm.MethodName) prog_153_method_12_code (1 : Nat) (Option.some Jvm.ClassFile.FieldType.boolean)).before args0 about1 = true := code_word (m := ⟨2, 0⟩) (meth := k2m0) (c := k2c0) (by decide +kernel) rfl rfl rfl (by decide +kernel)
set_option maxRecDepth 65536 in
theorem w_c2 : (Jvm.Cond.code ({ cls := "com/example/sukima/sukima/sql/LexerIsSpacePinLaw", name := "expected", desc := "(C)Z" } : Jvm.MethodName) method_2_code (1 : Nat) (Option.some Jvm.ClassFile.FieldType.boolean)).before args0 about1 = true := code_word (m := ⟨1, 1⟩) (meth := k1m1) (c := k1c1) (by decide +kernel) rfl rfl rfl (by decide +kernel)
def codes1 : List Jvm.Cond := [Jvm.Cond.code x code maxLocals ret, Jvm.Cond.code ({ cls := "com/example/sukima/sukima/sql/Lexer", name := "isSpace", desc := "(C)Z" } : Jvm.MethodName) prog_153_method_12_code (1 : Nat) (Option.some Jvm.ClassFile.FieldType.boolean), Jvm.Cond.code ({ cls := "com/example/sukima/sukima/sql/LexerIsSpacePinLaw", name := "expected", desc := "(C)Z" } : Jvm.MethodName) method_2_code (1 : Nat) (Option.some Jvm.ClassFile.FieldType.boolean)]
set_option maxRecDepth 65536 in
theorem codes_eq : words1.filter isCode = codes1 := rfl
theorem w_codes : ∀ c ∈ words1.filter isCode, c.before args0 about1 = true := by
  rw [codes_eq]
  intro c hc
  simp only [codes1, List.mem_cons, List.not_mem_nil, or_false] at hc
  rcases hc with rfl | rfl | rfl
  · exact w_c0
  · exact w_c1
  · exact w_c2
set_option maxRecDepth 65536 in
theorem w_t1 : words1.all (fun c => isCode c || c.before args0 about1) = true := by decide +kernel
theorem w_tables : (allAtoms (Jvm.Cond.code x code maxLocals ret :: tables_1)).before args0 about1 = true := by
  rw [allAtoms_all]
  show words1.all (fun c => c.before args0 about1) = true
  refine all_split ?_ w_codes
  rw [w_t1]
set_option maxRecDepth 65536 in
theorem w_case : (Jvm.Cond.and given_1 narrow_1).before args0 about1 = true := by decide +kernel
theorem w_applies : (headSpec (Jvm.Cond.code x code maxLocals ret :: tables_1) room_1).applies x e0.platform about1 = true :=
  (Spec.applies_iff w_frames).mpr ⟨w_running, w_runnable, w_alone, w_named, w_hears, w_ripe, w_room, w_tables⟩
theorem atStart : AtStart classFile x code maxLocals ret World_1 tables_1 room_1 Calls_1 rest_1 Pre_1 launch0 p0 e0 about1 theMethod args0 below0 :=
  ⟨lists_1, trivial, launch0.admits_env _ _ _, launch0.least_env, fairChoices_fair.cas, fairChoices_fair.clock, w_frames, w_args, w_heap, w_applies, trivial, trivial, w_case⟩
end start1
theorem witness_1 : WitnessClaimed_1 := ⟨start1.p0, start1.e0, start1.about1, start1.theMethod, start1.args0, start1.below0, start1.atStart⟩
end Jvm.Pilot.@@N@@
