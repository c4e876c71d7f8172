import JvmDerived
import JvmDerived.Pilot.@@N@@Statement
import JvmDerived.Pilot.@@N@@Code
set_option linter.unusedVariables false
set_option linter.unusedSimpArgs false
namespace Jvm.RoadKit
open Sem ClassFile Op Lib Jvm.Stand Jvm.Free Jvm.LawKit
section New
variable {p : Program} {l : Launch} {e : Env} {R : Room} {s : State} {m : MethodId} {args : Array Value} {below : List Frame} {meth : Method} {c : Code} {T : State} {locs : List Loc} {cells slots : Nat}
theorem retI (X : Stand p l e R s m args below meth c T locs cells slots) (hx : p.tables.exec = Jvm.exec) {pc : Nat} {Ls : Array Slot} {z : Int32} {rest : List Value} (hret : meth.sig.returnType = some .int) (hd : decode c.code pc = .ok (.ireturn, 1)) {fs : List Frame}
    (hl : ∀ (f : JFrame) (acts : List Action), f.method = m → f.locked = none → f.entered = [] → (doReturn e (T.setTop f) acts (some (.int z))).1 = T.setFrames fs) : Steps p.tables e below (T.setTop (mkF m pc Ls (.int z :: rest))) (T.setFrames fs) := by
  have hm' : T.vm.method? m = some meth := X.method'
  have hn : narrow .int (.int z) = .int z := rfl
  show Steps p.tables e below (T.setTop { method := m, pc := pc, locals := Ls, stack := _ :: rest, locked := none }) _
  jvm_step X.here [X.here.top, hx, hd, hm', hret, hn]
  first | (intro acts; rw [hl _ acts rfl rfl rfl]) | rw [hl _ _ rfl rfl rfl]
  exact Steps.refl _
end New
end Jvm.RoadKit
namespace Jvm.Pilot.@@N@@
open Jvm Jvm.ClassFile Sem Op Lib Jvm.Free Jvm.Stand Jvm.LawKit Jvm.RoadKit Bundle Jvm.Pilot.@@N@@.Jvm.D
/-! what every block says -/
def own_b (b : Bool) : Int32 := cond b 1 0
theorem own_nar (b : Bool) : nar .boolean (own_b b) = own_b b := by cases b <;> rfl
theorem own_b0 {b : Bool} (h : b = false) : own_b b = (0 : Int32) := by rw [h]; rfl
theorem own_b1 {b : Bool} (h : ¬ b = false) : ¬ own_b b = (0 : Int32) := by cases b; exact absurd rfl h; decide
abbrev own_ushr (x y : Int32) : Int32 := (x.toUInt32 >>> (y &&& 31).toUInt32).toInt32
abbrev own_ushrL (x : Int64) (y : Int32) : Int64 := (x.toUInt64 >>> (y &&& 0x3f).toInt64.toUInt64).toInt64
/-- from the frame g over T0 the run comes to an ireturn with v on top, the heap as it stood -/
def own_Ret (p : Program) (l : Launch) (e : Env) (R : Room) (s : State) (m : MethodId) (args : Array Value) (below : List Frame) (meth : Method) (c : Code) (h0 : Heap) (n0 cells slots : Nat) (T0 : State) (g : JFrame) (v : Int32) : Prop :=
  ∃ (T' : State) (locs' : List Loc) (pcr : Nat) (Ls : Array Slot), Stand p l e R s m args below meth c T' locs' cells slots ∧ T'.heap = h0 ∧ Fr n0 locs' ∧ decode c.code pcr = .ok (.ireturn, 1) ∧
    ∀ target, Steps p.tables e below (T'.setTop (mkF m pcr Ls [.int v])) target → Steps p.tables e below (T0.setTop g) target
theorem own_step {p : Program} {l : Launch} {e : Env} {R : Room} {s : State} {m : MethodId} {args : Array Value} {below : List Frame} {meth : Method} {c : Code} {h0 : Heap} {n0 cells slots : Nat} {T0 T1 : State} {g0 g1 : JFrame} {v : Int32}
    (st : ∀ target, Steps p.tables e below (T1.setTop g1) target → Steps p.tables e below (T0.setTop g0) target) (h : own_Ret p l e R s m args below meth c h0 n0 cells slots T1 g1 v) : own_Ret p l e R s m args below meth c h0 n0 cells slots T0 g0 v := by
  obtain ⟨T', locs', pcr, Ls, h1, h2, h3, h4, h5⟩ := h
  exact ⟨T', locs', pcr, Ls, h1, h2, h3, h4, fun t k => st t (h5 t k)⟩
def own_Q (w : Int32) (h0 : Heap) (n0 : Nat) (v : Option Value) (h : Heap) (L : List Loc) : Prop := v = some (.int w) ∧ Fr n0 L ∧ h = h0
/-! arrays of ints that are filled once: a store behind the last, a read -/
theorem own_map_getD (vals : List Int32) (i : Nat) : (vals.map Value.int).getD i (.int 0) = .int (vals.getD i 0) := by
  simp only [List.getD_eq_getElem?_getD, List.getElem?_map]
  cases vals[i]? <;> rfl
theorem own_at {Z : State} {h : Heap} {a : Addr} {k : ClassId} {ty : FieldType} {n j : Int32} {vals : List Int32} (F : Arv Z h a k ty n (vals.map Value.int) (.int 0)) (hj : ¬ j < 0 ∧ j < n) :
    ∃ cl : Cell, Arr Z h a cl ty ∧ ¬ (j < 0 ∨ cl.slots.size ≤ j.toNatClampNeg) ∧ cl.slots[j.toNatClampNeg]? = some (.int (vals.getD j.toNatClampNeg 0)) := by
  obtain ⟨cl, A, q, S, Nn, H, G⟩ := F
  exact ⟨cl, A, inb_of S hj, H.at (inb_of S hj) (own_map_getD _ _)⟩
theorem own_set_end (vals : List Int32) (x : Int32) : (vals.map Value.int ++ List.replicate 1 (Value.int 0)).set vals.length (.int x) = (vals ++ [x]).map Value.int := by
  rw [List.set_append_right _ _ (by simp)]
  simp
section Own
variable {p : Program} {l : Launch} {e : Env} {R : Room} {s : State} {m : MethodId} {args : Array Value} {below : List Frame} {meth : Method} {c : Code} {T : State} {locs : List Loc} {cells slots : Nat} {Z : State} {h h0 : Heap} {b : Addr} {k : ClassId} {n : Int32} {vals : List Int32} {n0 : Nat}
theorem own_putI (X : Stand p l e R s m args below meth c T locs cells slots) (hx : p.tables.exec = Jvm.exec) (hZ : Z.Warmed39 s.vm) (eT : T.heap = h) (F : Arv Z h b k .int n (vals.map Value.int) (.int 0)) (N : Fr n0 locs) (g0 : n0 ≤ b) (K : Keep h0 h []) (sz : h0.size ≤ b) (j x : Int32) (hj : j.toNatClampNeg = vals.length) (hj2 : ¬ j < 0 ∧ j < n) {g : JFrame} (hg : g.method = m) {rest : List Value} (hs : g.stack = .int x :: .int j :: .ref b :: rest) (hd : decode c.code g.pc = .ok (.iastore, 1)) :
    ∃ (T' : State) (h' : Heap) (locs' : List Loc), Stand p l e R s m args below meth c T' locs' cells slots ∧ T'.heap = h' ∧ Arv Z h' b k .int n ((vals ++ [x]).map Value.int) (.int 0) ∧ Fr n0 locs' ∧ Keep h0 h' [] ∧ ∀ target, Steps p.tables e below (T'.setTop { g with pc := g.pc + 1, stack := rest }) target → Steps p.tables e below (T.setTop g) target := by
  obtain ⟨cl, A, q, S, Nn, H, G⟩ := F.pad (pad_rep _ _ 1)
  obtain ⟨T', h', X', e', W, st⟩ := stI X hx hZ eT A (j := j) (x := x) (inb_of S hj2) hg hs hd
  have V2 := Arv.set A q S Nn H G (v := .int x) rfl W vals.length hj (by simp)
  rw [own_set_end] at V2
  exact ⟨T', h', _, X', e', V2, Fr.snoc X' N g0, K.wr W (Or.inr sz), st⟩
theorem own_putC (X : Stand p l e R s m args below meth c T locs cells slots) (hx : p.tables.exec = Jvm.exec) (hZ : Z.Warmed39 s.vm) (eT : T.heap = h) (F : Arv Z h b k .char n (vals.map Value.int) (.int 0)) (N : Fr n0 locs) (g0 : n0 ≤ b) (K : Keep h0 h []) (sz : h0.size ≤ b) (j x : Int32) (hn : nar .char x = x) (hj : j.toNatClampNeg = vals.length) (hj2 : ¬ j < 0 ∧ j < n) {g : JFrame} (hg : g.method = m) {rest : List Value} (hs : g.stack = .int x :: .int j :: .ref b :: rest) (hd : decode c.code g.pc = .ok (.castore, 1)) :
    ∃ (T' : State) (h' : Heap) (locs' : List Loc), Stand p l e R s m args below meth c T' locs' cells slots ∧ T'.heap = h' ∧ Arv Z h' b k .char n ((vals ++ [x]).map Value.int) (.int 0) ∧ Fr n0 locs' ∧ Keep h0 h' [] ∧ ∀ target, Steps p.tables e below (T'.setTop { g with pc := g.pc + 1, stack := rest }) target → Steps p.tables e below (T.setTop g) target := by
  obtain ⟨cl, A, q, S, Nn, H, G⟩ := F.pad (pad_rep _ _ 1)
  obtain ⟨T', h', X', e', W, st⟩ := stC X hx hZ eT A (j := j) (x := x) (inb_of S hj2) hg hs hd
  rw [hn] at W
  have V2 := Arv.set A q S Nn H G (v := .int x) (by have := fits_nar_char x; rwa [hn] at this) W vals.length hj (by simp)
  rw [own_set_end] at V2
  exact ⟨T', h', _, X', e', V2, Fr.snoc X' N g0, K.wr W (Or.inr sz), st⟩
end Own

theorem d1_0 : decode prog_168_method_1_code 0 = .ok (.iload_n 0, 1) := by decide +kernel
theorem d1_1 : decode prog_168_method_1_code 1 = .ok (.bipush 62, 2) := by decide +kernel
theorem d1_3 : decode prog_168_method_1_code 3 = .ok (.if_icmp .gt 37, 3) := by decide +kernel
theorem d1_6 : decode prog_168_method_1_code 6 = .ok (.iload_n 0, 1) := by decide +kernel
theorem d1_7 : decode prog_168_method_1_code 7 = .ok (.bipush 32, 2) := by decide +kernel
theorem d1_9 : decode prog_168_method_1_code 9 = .ok (.if_icmp .lt 27, 3) := by decide +kernel
theorem d1_12 : decode prog_168_method_1_code 12 = .ok (.iload_n 0, 1) := by decide +kernel
theorem d1_13 : decode prog_168_method_1_code 13 = .ok (.bipush 34, 2) := by decide +kernel
theorem d1_15 : decode prog_168_method_1_code 15 = .ok (.if_icmp .eq 21, 3) := by decide +kernel
theorem d1_18 : decode prog_168_method_1_code 18 = .ok (.iload_n 0, 1) := by decide +kernel
theorem d1_19 : decode prog_168_method_1_code 19 = .ok (.bipush 38, 2) := by decide +kernel
theorem d1_21 : decode prog_168_method_1_code 21 = .ok (.if_icmp .eq 15, 3) := by decide +kernel
theorem d1_24 : decode prog_168_method_1_code 24 = .ok (.iload_n 0, 1) := by decide +kernel
theorem d1_25 : decode prog_168_method_1_code 25 = .ok (.bipush 60, 2) := by decide +kernel
theorem d1_27 : decode prog_168_method_1_code 27 = .ok (.if_icmp .eq 9, 3) := by decide +kernel
theorem d1_30 : decode prog_168_method_1_code 30 = .ok (.iload_n 0, 1) := by decide +kernel
theorem d1_31 : decode prog_168_method_1_code 31 = .ok (.bipush 62, 2) := by decide +kernel
theorem d1_33 : decode prog_168_method_1_code 33 = .ok (.if_icmp .ne 7, 3) := by decide +kernel
theorem d1_36 : decode prog_168_method_1_code 36 = .ok (.iconst 1, 1) := by decide +kernel
theorem d1_37 : decode prog_168_method_1_code 37 = .ok (.goto 4, 3) := by decide +kernel
theorem d1_40 : decode prog_168_method_1_code 40 = .ok (.iconst 0, 1) := by decide +kernel
theorem d1_41 : decode prog_168_method_1_code 41 = .ok (.ireturn, 1) := by decide +kernel
def f1_40 (i0 : Int32) : Bool := false
set_option maxRecDepth 65536 in
set_option maxHeartbeats 4000000 in
theorem b1_40 {p : Program} {l : Launch} {e : Env} {s : State} {m : MethodId} {args : Array Value} {below : List Frame} {meth : Method} {c : Code} {T0 : State} {locs : List Loc} {Z : State} {a0 : Array Value} {h0 : Heap} {n0 : Nat} (i0 : Int32) (X0 : Stand p l e ({ frames := 0, cells := 0, slots := 0, locals := 0 } : Room) s m args below meth c T0 locs 0 0) (hx : p.tables.exec = Jvm.exec) (hZ : Z.Warmed39 s.vm) (hw : ∀ d ∈ tables_1, d.before a0 Z = true) (hby : c.code = prog_168_method_1_code) (hml : c.maxLocals = 1) (hown : s.vm.findClass "com/example/moth/moth/xslt/XmlSerializer$Escape" = some m.cls) (e0 : T0.heap = h0) (N0 : Fr n0 locs) (Z0 : n0 ≤ h0.size) :
    own_Ret p l e ({ frames := 0, cells := 0, slots := 0, locals := 0 } : Room) s m args below meth c h0 n0 0 0 T0 (mkF m 40 #[.val (.int i0)] []) (own_b (f1_40 i0)) := by
  unfold f1_40
  refine own_step (T1 := T0) (g1 := (mkF m 41 #[.val (.int i0)] [(.int (0 : Int32))])) (fun _ k => XS.iconst X0.here hx rfl (hb hby d1_40) k) ?_
  exact ⟨_, _, 41, _, X0, e0, N0, (hb hby d1_41), fun _ k => k⟩
def f1_36 (i0 : Int32) : Bool := true
set_option maxRecDepth 65536 in
set_option maxHeartbeats 4000000 in
theorem b1_36 {p : Program} {l : Launch} {e : Env} {s : State} {m : MethodId} {args : Array Value} {below : List Frame} {meth : Method} {c : Code} {T0 : State} {locs : List Loc} {Z : State} {a0 : Array Value} {h0 : Heap} {n0 : Nat} (i0 : Int32) (X0 : Stand p l e ({ frames := 0, cells := 0, slots := 0, locals := 0 } : Room) s m args below meth c T0 locs 0 0) (hx : p.tables.exec = Jvm.exec) (hZ : Z.Warmed39 s.vm) (hw : ∀ d ∈ tables_1, d.before a0 Z = true) (hby : c.code = prog_168_method_1_code) (hml : c.maxLocals = 1) (hown : s.vm.findClass "com/example/moth/moth/xslt/XmlSerializer$Escape" = some m.cls) (e0 : T0.heap = h0) (N0 : Fr n0 locs) (Z0 : n0 ≤ h0.size) :
    own_Ret p l e ({ frames := 0, cells := 0, slots := 0, locals := 0 } : Room) s m args below meth c h0 n0 0 0 T0 (mkF m 36 #[.val (.int i0)] []) (own_b (f1_36 i0)) := by
  unfold f1_36
  refine own_step (T1 := T0) (g1 := (mkF m 37 #[.val (.int i0)] [(.int (1 : Int32))])) (fun _ k => XS.iconst X0.here hx rfl (hb hby d1_36) k) ?_
  refine own_step (T1 := T0) (g1 := (mkF m 41 #[.val (.int i0)] [(.int (1 : Int32))])) (fun _ k => XS.goto X0.here hx rfl (pc0 := 37) (pc' := 41) rfl (hb hby d1_37) (by decide) (by decide) k) ?_
  exact ⟨_, _, 41, _, X0, e0, N0, (hb hby d1_41), fun _ k => k⟩
def f1_0 (i0 : Int32) : Bool := (if (62 : Int32) < i0 then (f1_40 i0) else (if i0 < (32 : Int32) then (f1_36 i0) else (if i0 = (34 : Int32) then (f1_36 i0) else (if i0 = (38 : Int32) then (f1_36 i0) else (if i0 = (60 : Int32) then (f1_36 i0) else (if i0 = (62 : Int32) then (f1_36 i0) else (f1_40 i0)))))))
set_option maxRecDepth 65536 in
set_option maxHeartbeats 4000000 in
theorem b1_0 {p : Program} {l : Launch} {e : Env} {s : State} {m : MethodId} {args : Array Value} {below : List Frame} {meth : Method} {c : Code} {T0 : State} {locs : List Loc} {Z : State} {a0 : Array Value} {h0 : Heap} {n0 : Nat} (i0 : Int32) (X0 : Stand p l e ({ frames := 0, cells := 0, slots := 0, locals := 0 } : Room) s m args below meth c T0 locs 0 0) (hx : p.tables.exec = Jvm.exec) (hZ : Z.Warmed39 s.vm) (hw : ∀ d ∈ tables_1, d.before a0 Z = true) (hby : c.code = prog_168_method_1_code) (hml : c.maxLocals = 1) (hown : s.vm.findClass "com/example/moth/moth/xslt/XmlSerializer$Escape" = some m.cls) (e0 : T0.heap = h0) (N0 : Fr n0 locs) (Z0 : n0 ≤ h0.size) :
    own_Ret p l e ({ frames := 0, cells := 0, slots := 0, locals := 0 } : Room) s m args below meth c h0 n0 0 0 T0 (mkF m 0 #[.val (.int i0)] []) (own_b (f1_0 i0)) := by
  unfold f1_0
  refine own_step (T1 := T0) (g1 := (mkF m 1 #[.val (.int i0)] [(.int i0)])) (fun _ k => XS.iloadN X0.here hx rfl (hb hby d1_0) rfl k) ?_
  refine own_step (T1 := T0) (g1 := (mkF m 3 #[.val (.int i0)] [(.int (62 : Int32)), (.int i0)])) (fun _ k => XS.bipush X0.here hx rfl (hb hby d1_1) k) ?_
  by_cases hc3 : (62 : Int32) < i0
  · rw [if_pos hc3]
    refine own_step (T1 := T0) (g1 := (mkF m 40 #[.val (.int i0)] [])) (fun _ k => XS.icmpYes X0.here hx rfl (pc0 := 3) (pc' := 40) rfl (hb hby d1_3) rfl (tlt hc3).2.2.1 (by decide) (by decide) k) ?_
    exact b1_40 i0 X0 hx hZ hw hby hml hown e0 N0 Z0
  · rw [if_neg hc3]
    refine own_step (T1 := T0) (g1 := (mkF m 6 #[.val (.int i0)] [])) (fun _ k => XS.icmpNo X0.here hx rfl (hb hby d1_3) rfl (flt hc3).2.2.1 k) ?_
    refine own_step (T1 := T0) (g1 := (mkF m 7 #[.val (.int i0)] [(.int i0)])) (fun _ k => XS.iloadN X0.here hx rfl (hb hby d1_6) rfl k) ?_
    refine own_step (T1 := T0) (g1 := (mkF m 9 #[.val (.int i0)] [(.int (32 : Int32)), (.int i0)])) (fun _ k => XS.bipush X0.here hx rfl (hb hby d1_7) k) ?_
    by_cases hc9 : i0 < (32 : Int32)
    · rw [if_pos hc9]
      refine own_step (T1 := T0) (g1 := (mkF m 36 #[.val (.int i0)] [])) (fun _ k => XS.icmpYes X0.here hx rfl (pc0 := 9) (pc' := 36) rfl (hb hby d1_9) rfl (tlt hc9).1 (by decide) (by decide) k) ?_
      exact b1_36 i0 X0 hx hZ hw hby hml hown e0 N0 Z0
    · rw [if_neg hc9]
      refine own_step (T1 := T0) (g1 := (mkF m 12 #[.val (.int i0)] [])) (fun _ k => XS.icmpNo X0.here hx rfl (hb hby d1_9) rfl (flt hc9).1 k) ?_
      refine own_step (T1 := T0) (g1 := (mkF m 13 #[.val (.int i0)] [(.int i0)])) (fun _ k => XS.iloadN X0.here hx rfl (hb hby d1_12) rfl k) ?_
      refine own_step (T1 := T0) (g1 := (mkF m 15 #[.val (.int i0)] [(.int (34 : Int32)), (.int i0)])) (fun _ k => XS.bipush X0.here hx rfl (hb hby d1_13) k) ?_
      by_cases hc15 : i0 = (34 : Int32)
      · rw [if_pos hc15]
        refine own_step (T1 := T0) (g1 := (mkF m 36 #[.val (.int i0)] [])) (fun _ k => XS.icmpYes X0.here hx rfl (pc0 := 15) (pc' := 36) rfl (hb hby d1_15) rfl (teq hc15).1 (by decide) (by decide) k) ?_
        exact b1_36 i0 X0 hx hZ hw hby hml hown e0 N0 Z0
      · rw [if_neg hc15]
        refine own_step (T1 := T0) (g1 := (mkF m 18 #[.val (.int i0)] [])) (fun _ k => XS.icmpNo X0.here hx rfl (hb hby d1_15) rfl (feq hc15).1 k) ?_
        refine own_step (T1 := T0) (g1 := (mkF m 19 #[.val (.int i0)] [(.int i0)])) (fun _ k => XS.iloadN X0.here hx rfl (hb hby d1_18) rfl k) ?_
        refine own_step (T1 := T0) (g1 := (mkF m 21 #[.val (.int i0)] [(.int (38 : Int32)), (.int i0)])) (fun _ k => XS.bipush X0.here hx rfl (hb hby d1_19) k) ?_
        by_cases hc21 : i0 = (38 : Int32)
        · rw [if_pos hc21]
          refine own_step (T1 := T0) (g1 := (mkF m 36 #[.val (.int i0)] [])) (fun _ k => XS.icmpYes X0.here hx rfl (pc0 := 21) (pc' := 36) rfl (hb hby d1_21) rfl (teq hc21).1 (by decide) (by decide) k) ?_
          exact b1_36 i0 X0 hx hZ hw hby hml hown e0 N0 Z0
        · rw [if_neg hc21]
          refine own_step (T1 := T0) (g1 := (mkF m 24 #[.val (.int i0)] [])) (fun _ k => XS.icmpNo X0.here hx rfl (hb hby d1_21) rfl (feq hc21).1 k) ?_
          refine own_step (T1 := T0) (g1 := (mkF m 25 #[.val (.int i0)] [(.int i0)])) (fun _ k => XS.iloadN X0.here hx rfl (hb hby d1_24) rfl k) ?_
          refine own_step (T1 := T0) (g1 := (mkF m 27 #[.val (.int i0)] [(.int (60 : Int32)), (.int i0)])) (fun _ k => XS.bipush X0.here hx rfl (hb hby d1_25) k) ?_
          by_cases hc27 : i0 = (60 : Int32)
          · rw [if_pos hc27]
            refine own_step (T1 := T0) (g1 := (mkF m 36 #[.val (.int i0)] [])) (fun _ k => XS.icmpYes X0.here hx rfl (pc0 := 27) (pc' := 36) rfl (hb hby d1_27) rfl (teq hc27).1 (by decide) (by decide) k) ?_
            exact b1_36 i0 X0 hx hZ hw hby hml hown e0 N0 Z0
          · rw [if_neg hc27]
            refine own_step (T1 := T0) (g1 := (mkF m 30 #[.val (.int i0)] [])) (fun _ k => XS.icmpNo X0.here hx rfl (hb hby d1_27) rfl (feq hc27).1 k) ?_
            refine own_step (T1 := T0) (g1 := (mkF m 31 #[.val (.int i0)] [(.int i0)])) (fun _ k => XS.iloadN X0.here hx rfl (hb hby d1_30) rfl k) ?_
            refine own_step (T1 := T0) (g1 := (mkF m 33 #[.val (.int i0)] [(.int (62 : Int32)), (.int i0)])) (fun _ k => XS.bipush X0.here hx rfl (hb hby d1_31) k) ?_
            by_cases hc33 : i0 = (62 : Int32)
            · rw [if_pos hc33]
              refine own_step (T1 := T0) (g1 := (mkF m 36 #[.val (.int i0)] [])) (fun _ k => XS.icmpNo X0.here hx rfl (hb hby d1_33) rfl (teq hc33).2 k) ?_
              exact b1_36 i0 X0 hx hZ hw hby hml hown e0 N0 Z0
            · rw [if_neg hc33]
              refine own_step (T1 := T0) (g1 := (mkF m 40 #[.val (.int i0)] [])) (fun _ k => XS.icmpYes X0.here hx rfl (pc0 := 33) (pc' := 40) rfl (hb hby d1_33) rfl (feq hc33).2 (by decide) (by decide) k) ?_
              exact b1_40 i0 X0 hx hZ hw hby hml hown e0 N0 Z0
theorem pn_1 : plainName "com/example/moth/moth/xslt/XmlSerializer$Escape" = true := by first | (simp [plainName, overriddenIn]; done) | decide +kernel
theorem ef_1 (m : MethodId) (i0 : Int32) : entryFrame m #[(.int i0)] 1 = mkF m 0 #[.val (.int i0)] [] := by first | (simp [entryFrame, mkF, argsToLocals, Value.category]; done) | rfl
set_option maxRecDepth 65536 in
set_option maxHeartbeats 4000000 in
theorem rm1 (l : Launch) (Z : State) (a0 : Array Value) (hw : ∀ d ∈ tables_1, d.before a0 Z = true) (ws : List Jvm.Cond) (i0 : Int32) (h0 : Heap) (n0 : Nat) (Z0 : n0 ≤ h0.size) :
    MetFree l (⟨"com/example/moth/moth/xslt/XmlSerializer$Escape", "mayEscape", "(C)Z"⟩ : MethodName) (head1 (Jvm.Cond.code (⟨"com/example/moth/moth/xslt/XmlSerializer$Escape", "mayEscape", "(C)Z"⟩ : MethodName) prog_168_method_1_code 1 (some .boolean) :: ws) ({ frames := 0, cells := 0, slots := 0, locals := 0 } : Room)) (fun a U => a = #[(.int i0)] ∧ Z.Warmed39 U.vm ∧ U.heap = h0) (fun _ _ _ _ _ => True) (fun _ U o U' => ∃ v L, o = .returned v ∧ own_Q (own_b (f1_0 i0)) h0 n0 v U'.heap L ∧ FrameEnd U o U' L ({ frames := 0, cells := 0, slots := 0, locals := 0 } : Room).cells ({ frames := 0, cells := 0, slots := 0, locals := 0 } : Room).slots) := by
  refine MetFree.of_bodySF (plainFor_of_name pn_1) hisR ?_
  intro p e s m args below meth c s₁ Bd hml0 hP hK
  obtain ⟨rfl, hZ, hh⟩ := hP
  have hx := Bd.exec
  have hby := Bd.bytes
  have hml : c.maxLocals = 1 := hml0
  have hown : s.vm.findClass "com/example/moth/moth/xslt/XmlSerializer$Escape" = some m.cls := findClass_of_methodNamed Bd.named
  have X0 : Stand p l e ({ frames := 0, cells := 0, slots := 0, locals := 0 } : Room) s m #[(.int i0)] below meth c s₁ [] 0 0 := Stand.of_body Bd
  have e0 : s₁.heap = h0 := by rw [← hh, Bd.state]; rfl
  obtain ⟨T', locs', pcr, Ls, X', e', N', hd, st⟩ := b1_0 i0 X0 hx hZ hw hby hml hown e0 (Fr.nil n0) Z0
  obtain ⟨fs, hr, hrun, hended, hW, hsame⟩ := X'.leave (v := some (.int (own_b (f1_0 i0)))) (fun h => by rw [Bd.returns] at h; cases h)
  refine ⟨_, _, castTop (ef_1 m i0) (st _ ?_), hrun, hended, _, _, rfl, ?_, ⟨_, rfl⟩, hW, hsame.mono (by decide) (by decide)⟩
  · exact retN X' hx (t := .boolean) Bd.returns (by simp) hd (by rw [own_nar]; exact hr)
  · exact ⟨rfl, N', e'⟩
theorem d2_0 : decode method_2_code 0 = .ok (.iload_n 0, 1) := by decide +kernel
theorem d2_1 : decode method_2_code 1 = .ok (.bipush 32, 2) := by decide +kernel
theorem d2_3 : decode method_2_code 3 = .ok (.if_icmp .ge 5, 3) := by decide +kernel
theorem d2_6 : decode method_2_code 6 = .ok (.iconst 1, 1) := by decide +kernel
theorem d2_7 : decode method_2_code 7 = .ok (.ireturn, 1) := by decide +kernel
theorem d2_8 : decode method_2_code 8 = .ok (.iload_n 0, 1) := by decide +kernel
theorem d2_9 : decode method_2_code 9 = .ok (.bipush 34, 2) := by decide +kernel
theorem d2_11 : decode method_2_code 11 = .ok (.if_icmp .ne 5, 3) := by decide +kernel
theorem d2_14 : decode method_2_code 14 = .ok (.iconst 1, 1) := by decide +kernel
theorem d2_15 : decode method_2_code 15 = .ok (.ireturn, 1) := by decide +kernel
theorem d2_16 : decode method_2_code 16 = .ok (.iload_n 0, 1) := by decide +kernel
theorem d2_17 : decode method_2_code 17 = .ok (.bipush 38, 2) := by decide +kernel
theorem d2_19 : decode method_2_code 19 = .ok (.if_icmp .ne 5, 3) := by decide +kernel
theorem d2_22 : decode method_2_code 22 = .ok (.iconst 1, 1) := by decide +kernel
theorem d2_23 : decode method_2_code 23 = .ok (.ireturn, 1) := by decide +kernel
theorem d2_24 : decode method_2_code 24 = .ok (.iload_n 0, 1) := by decide +kernel
theorem d2_25 : decode method_2_code 25 = .ok (.bipush 60, 2) := by decide +kernel
theorem d2_27 : decode method_2_code 27 = .ok (.if_icmp .ne 5, 3) := by decide +kernel
theorem d2_30 : decode method_2_code 30 = .ok (.iconst 1, 1) := by decide +kernel
theorem d2_31 : decode method_2_code 31 = .ok (.ireturn, 1) := by decide +kernel
theorem d2_32 : decode method_2_code 32 = .ok (.iload_n 0, 1) := by decide +kernel
theorem d2_33 : decode method_2_code 33 = .ok (.bipush 62, 2) := by decide +kernel
theorem d2_35 : decode method_2_code 35 = .ok (.if_icmp .ne 5, 3) := by decide +kernel
theorem d2_38 : decode method_2_code 38 = .ok (.iconst 1, 1) := by decide +kernel
theorem d2_39 : decode method_2_code 39 = .ok (.ireturn, 1) := by decide +kernel
theorem d2_40 : decode method_2_code 40 = .ok (.iconst 0, 1) := by decide +kernel
theorem d2_41 : decode method_2_code 41 = .ok (.ireturn, 1) := by decide +kernel
def f2_0 (i0 : Int32) : Bool := (if i0 < (32 : Int32) then true else (if i0 = (34 : Int32) then true else (if i0 = (38 : Int32) then true else (if i0 = (60 : Int32) then true else (if i0 = (62 : Int32) then true else false)))))
set_option maxRecDepth 65536 in
set_option maxHeartbeats 4000000 in
theorem b2_0 {p : Program} {l : Launch} {e : Env} {s : State} {m : MethodId} {args : Array Value} {below : List Frame} {meth : Method} {c : Code} {T0 : State} {locs : List Loc} {Z : State} {a0 : Array Value} {h0 : Heap} {n0 : Nat} (i0 : Int32) (X0 : Stand p l e ({ frames := 0, cells := 0, slots := 0, locals := 0 } : Room) s m args below meth c T0 locs 0 0) (hx : p.tables.exec = Jvm.exec) (hZ : Z.Warmed39 s.vm) (hw : ∀ d ∈ tables_1, d.before a0 Z = true) (hby : c.code = method_2_code) (hml : c.maxLocals = 1) (hown : s.vm.findClass "com/example/moth/moth/xslt/EscapeMayEscapePinLaw" = some m.cls) (e0 : T0.heap = h0) (N0 : Fr n0 locs) (Z0 : n0 ≤ h0.size) :
    own_Ret p l e ({ frames := 0, cells := 0, slots := 0, locals := 0 } : Room) s m args below meth c h0 n0 0 0 T0 (mkF m 0 #[.val (.int i0)] []) (own_b (f2_0 i0)) := by
  unfold f2_0
  refine own_step (T1 := T0) (g1 := (mkF m 1 #[.val (.int i0)] [(.int i0)])) (fun _ k => XS.iloadN X0.here hx rfl (hb hby d2_0) rfl k) ?_
  refine own_step (T1 := T0) (g1 := (mkF m 3 #[.val (.int i0)] [(.int (32 : Int32)), (.int i0)])) (fun _ k => XS.bipush X0.here hx rfl (hb hby d2_1) k) ?_
  by_cases hc3 : i0 < (32 : Int32)
  · rw [if_pos hc3]
    refine own_step (T1 := T0) (g1 := (mkF m 6 #[.val (.int i0)] [])) (fun _ k => XS.icmpNo X0.here hx rfl (hb hby d2_3) rfl (tlt hc3).2.1 k) ?_
    refine own_step (T1 := T0) (g1 := (mkF m 7 #[.val (.int i0)] [(.int (1 : Int32))])) (fun _ k => XS.iconst X0.here hx rfl (hb hby d2_6) k) ?_
    exact ⟨_, _, 7, _, X0, e0, N0, (hb hby d2_7), fun _ k => k⟩
  · rw [if_neg hc3]
    refine own_step (T1 := T0) (g1 := (mkF m 8 #[.val (.int i0)] [])) (fun _ k => XS.icmpYes X0.here hx rfl (pc0 := 3) (pc' := 8) rfl (hb hby d2_3) rfl (flt hc3).2.1 (by decide) (by decide) k) ?_
    refine own_step (T1 := T0) (g1 := (mkF m 9 #[.val (.int i0)] [(.int i0)])) (fun _ k => XS.iloadN X0.here hx rfl (hb hby d2_8) rfl k) ?_
    refine own_step (T1 := T0) (g1 := (mkF m 11 #[.val (.int i0)] [(.int (34 : Int32)), (.int i0)])) (fun _ k => XS.bipush X0.here hx rfl (hb hby d2_9) k) ?_
    by_cases hc11 : i0 = (34 : Int32)
    · rw [if_pos hc11]
      refine own_step (T1 := T0) (g1 := (mkF m 14 #[.val (.int i0)] [])) (fun _ k => XS.icmpNo X0.here hx rfl (hb hby d2_11) rfl (teq hc11).2 k) ?_
      refine own_step (T1 := T0) (g1 := (mkF m 15 #[.val (.int i0)] [(.int (1 : Int32))])) (fun _ k => XS.iconst X0.here hx rfl (hb hby d2_14) k) ?_
      exact ⟨_, _, 15, _, X0, e0, N0, (hb hby d2_15), fun _ k => k⟩
    · rw [if_neg hc11]
      refine own_step (T1 := T0) (g1 := (mkF m 16 #[.val (.int i0)] [])) (fun _ k => XS.icmpYes X0.here hx rfl (pc0 := 11) (pc' := 16) rfl (hb hby d2_11) rfl (feq hc11).2 (by decide) (by decide) k) ?_
      refine own_step (T1 := T0) (g1 := (mkF m 17 #[.val (.int i0)] [(.int i0)])) (fun _ k => XS.iloadN X0.here hx rfl (hb hby d2_16) rfl k) ?_
      refine own_step (T1 := T0) (g1 := (mkF m 19 #[.val (.int i0)] [(.int (38 : Int32)), (.int i0)])) (fun _ k => XS.bipush X0.here hx rfl (hb hby d2_17) k) ?_
      by_cases hc19 : i0 = (38 : Int32)
      · rw [if_pos hc19]
        refine own_step (T1 := T0) (g1 := (mkF m 22 #[.val (.int i0)] [])) (fun _ k => XS.icmpNo X0.here hx rfl (hb hby d2_19) rfl (teq hc19).2 k) ?_
        refine own_step (T1 := T0) (g1 := (mkF m 23 #[.val (.int i0)] [(.int (1 : Int32))])) (fun _ k => XS.iconst X0.here hx rfl (hb hby d2_22) k) ?_
        exact ⟨_, _, 23, _, X0, e0, N0, (hb hby d2_23), fun _ k => k⟩
      · rw [if_neg hc19]
        refine own_step (T1 := T0) (g1 := (mkF m 24 #[.val (.int i0)] [])) (fun _ k => XS.icmpYes X0.here hx rfl (pc0 := 19) (pc' := 24) rfl (hb hby d2_19) rfl (feq hc19).2 (by decide) (by decide) k) ?_
        refine own_step (T1 := T0) (g1 := (mkF m 25 #[.val (.int i0)] [(.int i0)])) (fun _ k => XS.iloadN X0.here hx rfl (hb hby d2_24) rfl k) ?_
        refine own_step (T1 := T0) (g1 := (mkF m 27 #[.val (.int i0)] [(.int (60 : Int32)), (.int i0)])) (fun _ k => XS.bipush X0.here hx rfl (hb hby d2_25) k) ?_
        by_cases hc27 : i0 = (60 : Int32)
        · rw [if_pos hc27]
          refine own_step (T1 := T0) (g1 := (mkF m 30 #[.val (.int i0)] [])) (fun _ k => XS.icmpNo X0.here hx rfl (hb hby d2_27) rfl (teq hc27).2 k) ?_
          refine own_step (T1 := T0) (g1 := (mkF m 31 #[.val (.int i0)] [(.int (1 : Int32))])) (fun _ k => XS.iconst X0.here hx rfl (hb hby d2_30) k) ?_
          exact ⟨_, _, 31, _, X0, e0, N0, (hb hby d2_31), fun _ k => k⟩
        · rw [if_neg hc27]
          refine own_step (T1 := T0) (g1 := (mkF m 32 #[.val (.int i0)] [])) (fun _ k => XS.icmpYes X0.here hx rfl (pc0 := 27) (pc' := 32) rfl (hb hby d2_27) rfl (feq hc27).2 (by decide) (by decide) k) ?_
          refine own_step (T1 := T0) (g1 := (mkF m 33 #[.val (.int i0)] [(.int i0)])) (fun _ k => XS.iloadN X0.here hx rfl (hb hby d2_32) rfl k) ?_
          refine own_step (T1 := T0) (g1 := (mkF m 35 #[.val (.int i0)] [(.int (62 : Int32)), (.int i0)])) (fun _ k => XS.bipush X0.here hx rfl (hb hby d2_33) k) ?_
          by_cases hc35 : i0 = (62 : Int32)
          · rw [if_pos hc35]
            refine own_step (T1 := T0) (g1 := (mkF m 38 #[.val (.int i0)] [])) (fun _ k => XS.icmpNo X0.here hx rfl (hb hby d2_35) rfl (teq hc35).2 k) ?_
            refine own_step (T1 := T0) (g1 := (mkF m 39 #[.val (.int i0)] [(.int (1 : Int32))])) (fun _ k => XS.iconst X0.here hx rfl (hb hby d2_38) k) ?_
            exact ⟨_, _, 39, _, X0, e0, N0, (hb hby d2_39), fun _ k => k⟩
          · rw [if_neg hc35]
            refine own_step (T1 := T0) (g1 := (mkF m 40 #[.val (.int i0)] [])) (fun _ k => XS.icmpYes X0.here hx rfl (pc0 := 35) (pc' := 40) rfl (hb hby d2_35) rfl (feq hc35).2 (by decide) (by decide) k) ?_
            refine own_step (T1 := T0) (g1 := (mkF m 41 #[.val (.int i0)] [(.int (0 : Int32))])) (fun _ k => XS.iconst X0.here hx rfl (hb hby d2_40) k) ?_
            exact ⟨_, _, 41, _, X0, e0, N0, (hb hby d2_41), fun _ k => k⟩
theorem pn_2 : plainName "com/example/moth/moth/xslt/EscapeMayEscapePinLaw" = true := by first | (simp [plainName, overriddenIn]; done) | decide +kernel
theorem ef_2 (m : MethodId) (i0 : Int32) : entryFrame m #[(.int i0)] 1 = mkF m 0 #[.val (.int i0)] [] := by first | (simp [entryFrame, mkF, argsToLocals, Value.category]; done) | rfl
set_option maxRecDepth 65536 in
set_option maxHeartbeats 4000000 in
theorem rm2 (l : Launch) (Z : State) (a0 : Array Value) (hw : ∀ d ∈ tables_1, d.before a0 Z = true) (ws : List Jvm.Cond) (i0 : Int32) (h0 : Heap) (n0 : Nat) (Z0 : n0 ≤ h0.size) :
    MetFree l (⟨"com/example/moth/moth/xslt/EscapeMayEscapePinLaw", "expected", "(C)Z"⟩ : MethodName) (head1 (Jvm.Cond.code (⟨"com/example/moth/moth/xslt/EscapeMayEscapePinLaw", "expected", "(C)Z"⟩ : MethodName) method_2_code 1 (some .boolean) :: ws) ({ frames := 0, cells := 0, slots := 0, locals := 0 } : Room)) (fun a U => a = #[(.int i0)] ∧ Z.Warmed39 U.vm ∧ U.heap = h0) (fun _ _ _ _ _ => True) (fun _ U o U' => ∃ v L, o = .returned v ∧ own_Q (own_b (f2_0 i0)) h0 n0 v U'.heap L ∧ FrameEnd U o U' L ({ frames := 0, cells := 0, slots := 0, locals := 0 } : Room).cells ({ frames := 0, cells := 0, slots := 0, locals := 0 } : Room).slots) := by
  refine MetFree.of_bodySF (plainFor_of_name pn_2) hisR ?_
  intro p e s m args below meth c s₁ Bd hml0 hP hK
  obtain ⟨rfl, hZ, hh⟩ := hP
  have hx := Bd.exec
  have hby := Bd.bytes
  have hml : c.maxLocals = 1 := hml0
  have hown : s.vm.findClass "com/example/moth/moth/xslt/EscapeMayEscapePinLaw" = some m.cls := findClass_of_methodNamed Bd.named
  have X0 : Stand p l e ({ frames := 0, cells := 0, slots := 0, locals := 0 } : Room) s m #[(.int i0)] below meth c s₁ [] 0 0 := Stand.of_body Bd
  have e0 : s₁.heap = h0 := by rw [← hh, Bd.state]; rfl
  obtain ⟨T', locs', pcr, Ls, X', e', N', hd, st⟩ := b2_0 i0 X0 hx hZ hw hby hml hown e0 (Fr.nil n0) Z0
  obtain ⟨fs, hr, hrun, hended, hW, hsame⟩ := X'.leave (v := some (.int (own_b (f2_0 i0)))) (fun h => by rw [Bd.returns] at h; cases h)
  refine ⟨_, _, castTop (ef_2 m i0) (st _ ?_), hrun, hended, _, _, rfl, ?_, ⟨_, rfl⟩, hW, hsame.mono (by decide) (by decide)⟩
  · exact retN X' hx (t := .boolean) Bd.returns (by simp) hd (by rw [own_nar]; exact hr)
  · exact ⟨rfl, N', e'⟩
def own_vals0 : List Int32 := [9, 10, 13, 34, 38, 60, 62, 32, 33, 61, 63, 31, 0, 127, 39, 37]
set_option maxRecDepth 65536 in
set_option maxHeartbeats 40000000 in
theorem ar0 {p : Program} {l : Launch} {e : Env} {s : State} {m : MethodId} {args : Array Value} {below : List Frame} {meth : Method} {c : Code} {T0 : State} {locs : List Loc} {Z : State} {a0 : Array Value} {h0 : Heap} {n0 : Nat} (i0 : Int32) (i1 : Int32) (X0 : Stand p l e room_1 s m args below meth c T0 locs 0 0) (hx : p.tables.exec = Jvm.exec) (hZ : Z.Warmed39 s.vm) (hw : ∀ d ∈ tables_1, d.before a0 Z = true) (hby : c.code = code) (hown : s.vm.findClass "com/example/moth/moth/xslt/EscapeMayEscapePinLaw" = some m.cls) (e0 : T0.heap = h0) (N0 : Fr n0 locs) (Z0 : n0 ≤ h0.size) :
    ∃ (T' : State) (h' : Heap) (b1 : Addr) (k1 : ClassId) (locs' : List Loc), Stand p l e room_1 s m args below meth c T' locs' 1 16 ∧ T'.heap = h' ∧ Keep h0 h' [] ∧ n0 ≤ b1 ∧ Arv Z h' b1 k1 .char (16 : Int32) (own_vals0.map Value.int) (.int 0) ∧ Fr n0 locs' ∧
      ∀ target, Steps p.tables e below (T'.setTop (mkF m 94 #[.val (.int i0), .val (.int i1), .val (.ref b1), .unset] [])) target → Steps p.tables e below (T0.setTop (mkF m 0 #[.val (.int i0), .val (.int i1), .unset, .unset] [])) target := by
  obtain ⟨T1, h1, k1, X1, e1, E1, A1, st1⟩ := newP X0 hx hZ (hw _ (List.mem_of_getElem? (i := 0) rfl)) e0 (g := (mkF m 2 #[.val (.int i0), .val (.int i1), .unset, .unset] [(.int (16 : Int32))])) rfl (hb hby at_2) rfl (by decide) (cap := 16) (by decide) (by decide) (by decide) (by decide)
  obtain ⟨b1, g1⟩ : ∃ z, z = h0.size := ⟨_, rfl⟩
  rw [← g1] at A1 st1
  have gb : n0 ≤ b1 := Nat.le_trans Z0 (Nat.le_of_eq g1.symm)
  have sz : h0.size ≤ b1 := Nat.le_of_eq g1.symm
  have K1 : Keep h0 h1 [] := (Keep.refl h0 []).ext E1
  have V1 : Arv Z h1 b1 k1 .char (16 : Int32) (([] : List Int32).map Value.int) (.int 0) := Arv.new A1 (by decide)
  have N1 := N0
  obtain ⟨T2, h2, L2, X2, e2, V2, N2, K2, st2⟩ := own_putC X1 hx hZ e1 V1 N1 gb K1 sz (0 : Int32) (9 : Int32) rfl rfl ⟨by decide, by decide⟩ (g := (mkF m 8 #[.val (.int i0), .val (.int i1), .unset, .unset] [(.int (9 : Int32)), (.int (0 : Int32)), (.ref b1), (.ref b1)])) rfl rfl (hb hby at_8)
  obtain ⟨T3, h3, L3, X3, e3, V3, N3, K3, st3⟩ := own_putC X2 hx hZ e2 V2 N2 gb K2 sz (1 : Int32) (10 : Int32) rfl rfl ⟨by decide, by decide⟩ (g := (mkF m 13 #[.val (.int i0), .val (.int i1), .unset, .unset] [(.int (10 : Int32)), (.int (1 : Int32)), (.ref b1), (.ref b1)])) rfl rfl (hb hby at_13)
  obtain ⟨T4, h4, L4, X4, e4, V4, N4, K4, st4⟩ := own_putC X3 hx hZ e3 V3 N3 gb K3 sz (2 : Int32) (13 : Int32) rfl rfl ⟨by decide, by decide⟩ (g := (mkF m 18 #[.val (.int i0), .val (.int i1), .unset, .unset] [(.int (13 : Int32)), (.int (2 : Int32)), (.ref b1), (.ref b1)])) rfl rfl (hb hby at_18)
  obtain ⟨T5, h5, L5, X5, e5, V5, N5, K5, st5⟩ := own_putC X4 hx hZ e4 V4 N4 gb K4 sz (3 : Int32) (34 : Int32) rfl rfl ⟨by decide, by decide⟩ (g := (mkF m 23 #[.val (.int i0), .val (.int i1), .unset, .unset] [(.int (34 : Int32)), (.int (3 : Int32)), (.ref b1), (.ref b1)])) rfl rfl (hb hby at_23)
  obtain ⟨T6, h6, L6, X6, e6, V6, N6, K6, st6⟩ := own_putC X5 hx hZ e5 V5 N5 gb K5 sz (4 : Int32) (38 : Int32) rfl rfl ⟨by decide, by decide⟩ (g := (mkF m 28 #[.val (.int i0), .val (.int i1), .unset, .unset] [(.int (38 : Int32)), (.int (4 : Int32)), (.ref b1), (.ref b1)])) rfl rfl (hb hby at_28)
  obtain ⟨T7, h7, L7, X7, e7, V7, N7, K7, st7⟩ := own_putC X6 hx hZ e6 V6 N6 gb K6 sz (5 : Int32) (60 : Int32) rfl rfl ⟨by decide, by decide⟩ (g := (mkF m 33 #[.val (.int i0), .val (.int i1), .unset, .unset] [(.int (60 : Int32)), (.int (5 : Int32)), (.ref b1), (.ref b1)])) rfl rfl (hb hby at_33)
  obtain ⟨T8, h8, L8, X8, e8, V8, N8, K8, st8⟩ := own_putC X7 hx hZ e7 V7 N7 gb K7 sz (6 : Int32) (62 : Int32) rfl rfl ⟨by decide, by decide⟩ (g := (mkF m 39 #[.val (.int i0), .val (.int i1), .unset, .unset] [(.int (62 : Int32)), (.int (6 : Int32)), (.ref b1), (.ref b1)])) rfl rfl (hb hby at_39)
  obtain ⟨T9, h9, L9, X9, e9, V9, N9, K9, st9⟩ := own_putC X8 hx hZ e8 V8 N8 gb K8 sz (7 : Int32) (32 : Int32) rfl rfl ⟨by decide, by decide⟩ (g := (mkF m 45 #[.val (.int i0), .val (.int i1), .unset, .unset] [(.int (32 : Int32)), (.int (7 : Int32)), (.ref b1), (.ref b1)])) rfl rfl (hb hby at_45)
  obtain ⟨T10, h10, L10, X10, e10, V10, N10, K10, st10⟩ := own_putC X9 hx hZ e9 V9 N9 gb K9 sz (8 : Int32) (33 : Int32) rfl rfl ⟨by decide, by decide⟩ (g := (mkF m 51 #[.val (.int i0), .val (.int i1), .unset, .unset] [(.int (33 : Int32)), (.int (8 : Int32)), (.ref b1), (.ref b1)])) rfl rfl (hb hby at_51)
  obtain ⟨T11, h11, L11, X11, e11, V11, N11, K11, st11⟩ := own_putC X10 hx hZ e10 V10 N10 gb K10 sz (9 : Int32) (61 : Int32) rfl rfl ⟨by decide, by decide⟩ (g := (mkF m 57 #[.val (.int i0), .val (.int i1), .unset, .unset] [(.int (61 : Int32)), (.int (9 : Int32)), (.ref b1), (.ref b1)])) rfl rfl (hb hby at_57)
  obtain ⟨T12, h12, L12, X12, e12, V12, N12, K12, st12⟩ := own_putC X11 hx hZ e11 V11 N11 gb K11 sz (10 : Int32) (63 : Int32) rfl rfl ⟨by decide, by decide⟩ (g := (mkF m 63 #[.val (.int i0), .val (.int i1), .unset, .unset] [(.int (63 : Int32)), (.int (10 : Int32)), (.ref b1), (.ref b1)])) rfl rfl (hb hby at_63)
  obtain ⟨T13, h13, L13, X13, e13, V13, N13, K13, st13⟩ := own_putC X12 hx hZ e12 V12 N12 gb K12 sz (11 : Int32) (31 : Int32) rfl rfl ⟨by decide, by decide⟩ (g := (mkF m 69 #[.val (.int i0), .val (.int i1), .unset, .unset] [(.int (31 : Int32)), (.int (11 : Int32)), (.ref b1), (.ref b1)])) rfl rfl (hb hby at_69)
  obtain ⟨T14, h14, L14, X14, e14, V14, N14, K14, st14⟩ := own_putC X13 hx hZ e13 V13 N13 gb K13 sz (12 : Int32) (0 : Int32) rfl rfl ⟨by decide, by decide⟩ (g := (mkF m 74 #[.val (.int i0), .val (.int i1), .unset, .unset] [(.int (0 : Int32)), (.int (12 : Int32)), (.ref b1), (.ref b1)])) rfl rfl (hb hby at_74)
  obtain ⟨T15, h15, L15, X15, e15, V15, N15, K15, st15⟩ := own_putC X14 hx hZ e14 V14 N14 gb K14 sz (13 : Int32) (127 : Int32) rfl rfl ⟨by decide, by decide⟩ (g := (mkF m 80 #[.val (.int i0), .val (.int i1), .unset, .unset] [(.int (127 : Int32)), (.int (13 : Int32)), (.ref b1), (.ref b1)])) rfl rfl (hb hby at_80)
  obtain ⟨T16, h16, L16, X16, e16, V16, N16, K16, st16⟩ := own_putC X15 hx hZ e15 V15 N15 gb K15 sz (14 : Int32) (39 : Int32) rfl rfl ⟨by decide, by decide⟩ (g := (mkF m 86 #[.val (.int i0), .val (.int i1), .unset, .unset] [(.int (39 : Int32)), (.int (14 : Int32)), (.ref b1), (.ref b1)])) rfl rfl (hb hby at_86)
  obtain ⟨T17, h17, L17, X17, e17, V17, N17, K17, st17⟩ := own_putC X16 hx hZ e16 V16 N16 gb K16 sz (15 : Int32) (37 : Int32) rfl rfl ⟨by decide, by decide⟩ (g := (mkF m 92 #[.val (.int i0), .val (.int i1), .unset, .unset] [(.int (37 : Int32)), (.int (15 : Int32)), (.ref b1), (.ref b1)])) rfl rfl (hb hby at_92)
  refine ⟨T17, h17, b1, k1, L17, X17, e17, K17, gb, V17, N17, fun target kt => ?_⟩
  show Steps p.tables e below (T0.setTop (mkF m 0 #[.val (.int i0), .val (.int i1), .unset, .unset] [])) _
  refine XS.bipush X0.here hx rfl (hb hby at_0) ?_
  show Steps p.tables e below (T0.setTop (mkF m 2 #[.val (.int i0), .val (.int i1), .unset, .unset] [(.int (16 : Int32))])) _
  refine st1 _ ?_
  show Steps p.tables e below (T1.setTop (mkF m 4 #[.val (.int i0), .val (.int i1), .unset, .unset] [(.ref b1)])) _
  refine XS.dup X1.here hx rfl (hb hby at_4) rfl rfl ?_
  show Steps p.tables e below (T1.setTop (mkF m 5 #[.val (.int i0), .val (.int i1), .unset, .unset] [(.ref b1), (.ref b1)])) _
  refine XS.iconst X1.here hx rfl (hb hby at_5) ?_
  show Steps p.tables e below (T1.setTop (mkF m 6 #[.val (.int i0), .val (.int i1), .unset, .unset] [(.int (0 : Int32)), (.ref b1), (.ref b1)])) _
  refine XS.bipush X1.here hx rfl (hb hby at_6) ?_
  show Steps p.tables e below (T1.setTop (mkF m 8 #[.val (.int i0), .val (.int i1), .unset, .unset] [(.int (9 : Int32)), (.int (0 : Int32)), (.ref b1), (.ref b1)])) _
  refine st2 _ ?_
  show Steps p.tables e below (T2.setTop (mkF m 9 #[.val (.int i0), .val (.int i1), .unset, .unset] [(.ref b1)])) _
  refine XS.dup X2.here hx rfl (hb hby at_9) rfl rfl ?_
  show Steps p.tables e below (T2.setTop (mkF m 10 #[.val (.int i0), .val (.int i1), .unset, .unset] [(.ref b1), (.ref b1)])) _
  refine XS.iconst X2.here hx rfl (hb hby at_10) ?_
  show Steps p.tables e below (T2.setTop (mkF m 11 #[.val (.int i0), .val (.int i1), .unset, .unset] [(.int (1 : Int32)), (.ref b1), (.ref b1)])) _
  refine XS.bipush X2.here hx rfl (hb hby at_11) ?_
  show Steps p.tables e below (T2.setTop (mkF m 13 #[.val (.int i0), .val (.int i1), .unset, .unset] [(.int (10 : Int32)), (.int (1 : Int32)), (.ref b1), (.ref b1)])) _
  refine st3 _ ?_
  show Steps p.tables e below (T3.setTop (mkF m 14 #[.val (.int i0), .val (.int i1), .unset, .unset] [(.ref b1)])) _
  refine XS.dup X3.here hx rfl (hb hby at_14) rfl rfl ?_
  show Steps p.tables e below (T3.setTop (mkF m 15 #[.val (.int i0), .val (.int i1), .unset, .unset] [(.ref b1), (.ref b1)])) _
  refine XS.iconst X3.here hx rfl (hb hby at_15) ?_
  show Steps p.tables e below (T3.setTop (mkF m 16 #[.val (.int i0), .val (.int i1), .unset, .unset] [(.int (2 : Int32)), (.ref b1), (.ref b1)])) _
  refine XS.bipush X3.here hx rfl (hb hby at_16) ?_
  show Steps p.tables e below (T3.setTop (mkF m 18 #[.val (.int i0), .val (.int i1), .unset, .unset] [(.int (13 : Int32)), (.int (2 : Int32)), (.ref b1), (.ref b1)])) _
  refine st4 _ ?_
  show Steps p.tables e below (T4.setTop (mkF m 19 #[.val (.int i0), .val (.int i1), .unset, .unset] [(.ref b1)])) _
  refine XS.dup X4.here hx rfl (hb hby at_19) rfl rfl ?_
  show Steps p.tables e below (T4.setTop (mkF m 20 #[.val (.int i0), .val (.int i1), .unset, .unset] [(.ref b1), (.ref b1)])) _
  refine XS.iconst X4.here hx rfl (hb hby at_20) ?_
  show Steps p.tables e below (T4.setTop (mkF m 21 #[.val (.int i0), .val (.int i1), .unset, .unset] [(.int (3 : Int32)), (.ref b1), (.ref b1)])) _
  refine XS.bipush X4.here hx rfl (hb hby at_21) ?_
  show Steps p.tables e below (T4.setTop (mkF m 23 #[.val (.int i0), .val (.int i1), .unset, .unset] [(.int (34 : Int32)), (.int (3 : Int32)), (.ref b1), (.ref b1)])) _
  refine st5 _ ?_
  show Steps p.tables e below (T5.setTop (mkF m 24 #[.val (.int i0), .val (.int i1), .unset, .unset] [(.ref b1)])) _
  refine XS.dup X5.here hx rfl (hb hby at_24) rfl rfl ?_
  show Steps p.tables e below (T5.setTop (mkF m 25 #[.val (.int i0), .val (.int i1), .unset, .unset] [(.ref b1), (.ref b1)])) _
  refine XS.iconst X5.here hx rfl (hb hby at_25) ?_
  show Steps p.tables e below (T5.setTop (mkF m 26 #[.val (.int i0), .val (.int i1), .unset, .unset] [(.int (4 : Int32)), (.ref b1), (.ref b1)])) _
  refine XS.bipush X5.here hx rfl (hb hby at_26) ?_
  show Steps p.tables e below (T5.setTop (mkF m 28 #[.val (.int i0), .val (.int i1), .unset, .unset] [(.int (38 : Int32)), (.int (4 : Int32)), (.ref b1), (.ref b1)])) _
  refine st6 _ ?_
  show Steps p.tables e below (T6.setTop (mkF m 29 #[.val (.int i0), .val (.int i1), .unset, .unset] [(.ref b1)])) _
  refine XS.dup X6.here hx rfl (hb hby at_29) rfl rfl ?_
  show Steps p.tables e below (T6.setTop (mkF m 30 #[.val (.int i0), .val (.int i1), .unset, .unset] [(.ref b1), (.ref b1)])) _
  refine XS.iconst X6.here hx rfl (hb hby at_30) ?_
  show Steps p.tables e below (T6.setTop (mkF m 31 #[.val (.int i0), .val (.int i1), .unset, .unset] [(.int (5 : Int32)), (.ref b1), (.ref b1)])) _
  refine XS.bipush X6.here hx rfl (hb hby at_31) ?_
  show Steps p.tables e below (T6.setTop (mkF m 33 #[.val (.int i0), .val (.int i1), .unset, .unset] [(.int (60 : Int32)), (.int (5 : Int32)), (.ref b1), (.ref b1)])) _
  refine st7 _ ?_
  show Steps p.tables e below (T7.setTop (mkF m 34 #[.val (.int i0), .val (.int i1), .unset, .unset] [(.ref b1)])) _
  refine XS.dup X7.here hx rfl (hb hby at_34) rfl rfl ?_
  show Steps p.tables e below (T7.setTop (mkF m 35 #[.val (.int i0), .val (.int i1), .unset, .unset] [(.ref b1), (.ref b1)])) _
  refine XS.bipush X7.here hx rfl (hb hby at_35) ?_
  show Steps p.tables e below (T7.setTop (mkF m 37 #[.val (.int i0), .val (.int i1), .unset, .unset] [(.int (6 : Int32)), (.ref b1), (.ref b1)])) _
  refine XS.bipush X7.here hx rfl (hb hby at_37) ?_
  show Steps p.tables e below (T7.setTop (mkF m 39 #[.val (.int i0), .val (.int i1), .unset, .unset] [(.int (62 : Int32)), (.int (6 : Int32)), (.ref b1), (.ref b1)])) _
  refine st8 _ ?_
  show Steps p.tables e below (T8.setTop (mkF m 40 #[.val (.int i0), .val (.int i1), .unset, .unset] [(.ref b1)])) _
  refine XS.dup X8.here hx rfl (hb hby at_40) rfl rfl ?_
  show Steps p.tables e below (T8.setTop (mkF m 41 #[.val (.int i0), .val (.int i1), .unset, .unset] [(.ref b1), (.ref b1)])) _
  refine XS.bipush X8.here hx rfl (hb hby at_41) ?_
  show Steps p.tables e below (T8.setTop (mkF m 43 #[.val (.int i0), .val (.int i1), .unset, .unset] [(.int (7 : Int32)), (.ref b1), (.ref b1)])) _
  refine XS.bipush X8.here hx rfl (hb hby at_43) ?_
  show Steps p.tables e below (T8.setTop (mkF m 45 #[.val (.int i0), .val (.int i1), .unset, .unset] [(.int (32 : Int32)), (.int (7 : Int32)), (.ref b1), (.ref b1)])) _
  refine st9 _ ?_
  show Steps p.tables e below (T9.setTop (mkF m 46 #[.val (.int i0), .val (.int i1), .unset, .unset] [(.ref b1)])) _
  refine XS.dup X9.here hx rfl (hb hby at_46) rfl rfl ?_
  show Steps p.tables e below (T9.setTop (mkF m 47 #[.val (.int i0), .val (.int i1), .unset, .unset] [(.ref b1), (.ref b1)])) _
  refine XS.bipush X9.here hx rfl (hb hby at_47) ?_
  show Steps p.tables e below (T9.setTop (mkF m 49 #[.val (.int i0), .val (.int i1), .unset, .unset] [(.int (8 : Int32)), (.ref b1), (.ref b1)])) _
  refine XS.bipush X9.here hx rfl (hb hby at_49) ?_
  show Steps p.tables e below (T9.setTop (mkF m 51 #[.val (.int i0), .val (.int i1), .unset, .unset] [(.int (33 : Int32)), (.int (8 : Int32)), (.ref b1), (.ref b1)])) _
  refine st10 _ ?_
  show Steps p.tables e below (T10.setTop (mkF m 52 #[.val (.int i0), .val (.int i1), .unset, .unset] [(.ref b1)])) _
  refine XS.dup X10.here hx rfl (hb hby at_52) rfl rfl ?_
  show Steps p.tables e below (T10.setTop (mkF m 53 #[.val (.int i0), .val (.int i1), .unset, .unset] [(.ref b1), (.ref b1)])) _
  refine XS.bipush X10.here hx rfl (hb hby at_53) ?_
  show Steps p.tables e below (T10.setTop (mkF m 55 #[.val (.int i0), .val (.int i1), .unset, .unset] [(.int (9 : Int32)), (.ref b1), (.ref b1)])) _
  refine XS.bipush X10.here hx rfl (hb hby at_55) ?_
  show Steps p.tables e below (T10.setTop (mkF m 57 #[.val (.int i0), .val (.int i1), .unset, .unset] [(.int (61 : Int32)), (.int (9 : Int32)), (.ref b1), (.ref b1)])) _
  refine st11 _ ?_
  show Steps p.tables e below (T11.setTop (mkF m 58 #[.val (.int i0), .val (.int i1), .unset, .unset] [(.ref b1)])) _
  refine XS.dup X11.here hx rfl (hb hby at_58) rfl rfl ?_
  show Steps p.tables e below (T11.setTop (mkF m 59 #[.val (.int i0), .val (.int i1), .unset, .unset] [(.ref b1), (.ref b1)])) _
  refine XS.bipush X11.here hx rfl (hb hby at_59) ?_
  show Steps p.tables e below (T11.setTop (mkF m 61 #[.val (.int i0), .val (.int i1), .unset, .unset] [(.int (10 : Int32)), (.ref b1), (.ref b1)])) _
  refine XS.bipush X11.here hx rfl (hb hby at_61) ?_
  show Steps p.tables e below (T11.setTop (mkF m 63 #[.val (.int i0), .val (.int i1), .unset, .unset] [(.int (63 : Int32)), (.int (10 : Int32)), (.ref b1), (.ref b1)])) _
  refine st12 _ ?_
  show Steps p.tables e below (T12.setTop (mkF m 64 #[.val (.int i0), .val (.int i1), .unset, .unset] [(.ref b1)])) _
  refine XS.dup X12.here hx rfl (hb hby at_64) rfl rfl ?_
  show Steps p.tables e below (T12.setTop (mkF m 65 #[.val (.int i0), .val (.int i1), .unset, .unset] [(.ref b1), (.ref b1)])) _
  refine XS.bipush X12.here hx rfl (hb hby at_65) ?_
  show Steps p.tables e below (T12.setTop (mkF m 67 #[.val (.int i0), .val (.int i1), .unset, .unset] [(.int (11 : Int32)), (.ref b1), (.ref b1)])) _
  refine XS.bipush X12.here hx rfl (hb hby at_67) ?_
  show Steps p.tables e below (T12.setTop (mkF m 69 #[.val (.int i0), .val (.int i1), .unset, .unset] [(.int (31 : Int32)), (.int (11 : Int32)), (.ref b1), (.ref b1)])) _
  refine st13 _ ?_
  show Steps p.tables e below (T13.setTop (mkF m 70 #[.val (.int i0), .val (.int i1), .unset, .unset] [(.ref b1)])) _
  refine XS.dup X13.here hx rfl (hb hby at_70) rfl rfl ?_
  show Steps p.tables e below (T13.setTop (mkF m 71 #[.val (.int i0), .val (.int i1), .unset, .unset] [(.ref b1), (.ref b1)])) _
  refine XS.bipush X13.here hx rfl (hb hby at_71) ?_
  show Steps p.tables e below (T13.setTop (mkF m 73 #[.val (.int i0), .val (.int i1), .unset, .unset] [(.int (12 : Int32)), (.ref b1), (.ref b1)])) _
  refine XS.iconst X13.here hx rfl (hb hby at_73) ?_
  show Steps p.tables e below (T13.setTop (mkF m 74 #[.val (.int i0), .val (.int i1), .unset, .unset] [(.int (0 : Int32)), (.int (12 : Int32)), (.ref b1), (.ref b1)])) _
  refine st14 _ ?_
  show Steps p.tables e below (T14.setTop (mkF m 75 #[.val (.int i0), .val (.int i1), .unset, .unset] [(.ref b1)])) _
  refine XS.dup X14.here hx rfl (hb hby at_75) rfl rfl ?_
  show Steps p.tables e below (T14.setTop (mkF m 76 #[.val (.int i0), .val (.int i1), .unset, .unset] [(.ref b1), (.ref b1)])) _
  refine XS.bipush X14.here hx rfl (hb hby at_76) ?_
  show Steps p.tables e below (T14.setTop (mkF m 78 #[.val (.int i0), .val (.int i1), .unset, .unset] [(.int (13 : Int32)), (.ref b1), (.ref b1)])) _
  refine XS.bipush X14.here hx rfl (hb hby at_78) ?_
  show Steps p.tables e below (T14.setTop (mkF m 80 #[.val (.int i0), .val (.int i1), .unset, .unset] [(.int (127 : Int32)), (.int (13 : Int32)), (.ref b1), (.ref b1)])) _
  refine st15 _ ?_
  show Steps p.tables e below (T15.setTop (mkF m 81 #[.val (.int i0), .val (.int i1), .unset, .unset] [(.ref b1)])) _
  refine XS.dup X15.here hx rfl (hb hby at_81) rfl rfl ?_
  show Steps p.tables e below (T15.setTop (mkF m 82 #[.val (.int i0), .val (.int i1), .unset, .unset] [(.ref b1), (.ref b1)])) _
  refine XS.bipush X15.here hx rfl (hb hby at_82) ?_
  show Steps p.tables e below (T15.setTop (mkF m 84 #[.val (.int i0), .val (.int i1), .unset, .unset] [(.int (14 : Int32)), (.ref b1), (.ref b1)])) _
  refine XS.bipush X15.here hx rfl (hb hby at_84) ?_
  show Steps p.tables e below (T15.setTop (mkF m 86 #[.val (.int i0), .val (.int i1), .unset, .unset] [(.int (39 : Int32)), (.int (14 : Int32)), (.ref b1), (.ref b1)])) _
  refine st16 _ ?_
  show Steps p.tables e below (T16.setTop (mkF m 87 #[.val (.int i0), .val (.int i1), .unset, .unset] [(.ref b1)])) _
  refine XS.dup X16.here hx rfl (hb hby at_87) rfl rfl ?_
  show Steps p.tables e below (T16.setTop (mkF m 88 #[.val (.int i0), .val (.int i1), .unset, .unset] [(.ref b1), (.ref b1)])) _
  refine XS.bipush X16.here hx rfl (hb hby at_88) ?_
  show Steps p.tables e below (T16.setTop (mkF m 90 #[.val (.int i0), .val (.int i1), .unset, .unset] [(.int (15 : Int32)), (.ref b1), (.ref b1)])) _
  refine XS.bipush X16.here hx rfl (hb hby at_90) ?_
  show Steps p.tables e below (T16.setTop (mkF m 92 #[.val (.int i0), .val (.int i1), .unset, .unset] [(.int (37 : Int32)), (.int (15 : Int32)), (.ref b1), (.ref b1)])) _
  refine st17 _ ?_
  show Steps p.tables e below (T17.setTop (mkF m 93 #[.val (.int i0), .val (.int i1), .unset, .unset] [(.ref b1)])) _
  refine XS.astoreN X17.here hx rfl (hb hby at_93) rfl rfl (l' := #[.val (.int i0), .val (.int i1), .val (.ref b1), .unset]) rfl ?_
  exact kt
theorem own_in15 (i : Int32) : ¬ (i &&& (15 : Int32)) < 0 ∧ (i &&& (15 : Int32)) < (16 : Int32) := by
  have h := c_mask i (15 : Int32) 4 (by decide) (by decide)
  have e0 : (0 : Int32).toInt = 0 := rfl
  have e1 : (16 : Int32).toInt = 16 := rfl
  simp only [Int32.lt_iff_toInt_lt, e0, e1, h]
  omega
theorem own_pd_C_Z : parseMethodDescriptor "(C)Z" = some ⟨[.char], some .boolean⟩ := by decide +kernel
def f0_113 (i0 : Int32) (i1 : Int32) (i3 : Int32) : Bool := (if (own_b (f1_0 i3)) = (own_b (f2_0 i3)) then true else false)
set_option maxRecDepth 65536 in
set_option maxHeartbeats 4000000 in
theorem b0_113 {p : Program} {l : Launch} {e : Env} {s : State} {m : MethodId} {args : Array Value} {below : List Frame} {meth : Method} {c : Code} {T0 : State} {locs : List Loc} {Z : State} {a0 : Array Value} {h0 : Heap} {n0 : Nat} {k1 : ClassId} (i0 : Int32) (i1 : Int32) (b1 : Addr) (i3 : Int32) (X0 : Stand p l e room_1 s m args below meth c T0 locs 1 16) (hx : p.tables.exec = Jvm.exec) (hZ : Z.Warmed39 s.vm) (hw : ∀ d ∈ tables_1, d.before a0 Z = true) (hby : c.code = code) (hml : c.maxLocals = 4) (hown : s.vm.findClass "com/example/moth/moth/xslt/EscapeMayEscapePinLaw" = some m.cls) (e0 : T0.heap = h0) (N0 : Fr n0 locs) (Z0 : n0 ≤ h0.size) (V1 : Arv Z h0 b1 k1 .char (16 : Int32) (own_vals0.map Value.int) (.int 0)) :
    own_Ret p l e room_1 s m args below meth c h0 n0 1 16 T0 (mkF m 113 #[.val (.int i0), .val (.int i1), .val (.ref b1), .val (.int i3)] []) (own_b (f0_113 i0 i1 i3)) := by
  unfold f0_113
  refine own_step (T1 := T0) (g1 := (mkF m 114 #[.val (.int i0), .val (.int i1), .val (.ref b1), .val (.int i3)] [(.int i3)])) (fun _ k => XS.iloadN X0.here hx rfl (hb hby at_113) rfl k) ?_
  obtain ⟨_, _, ⟨T1, L1, k1, n1⟩, -, X1, ⟨Lc1, hQ1, l1, y1, z1⟩, st1⟩ := Jvm.LawKit.callS X0 hx (y := (⟨"com/example/moth/moth/xslt/XmlSerializer$Escape", "mayEscape", "(C)Z"⟩ : MethodName)) hown (mvT hZ (hw _ (List.mem_of_getElem? (i := 1) rfl))) (mvT hZ (hw _ (List.mem_of_getElem? (i := 2) rfl))) (mvT hZ (hw _ (List.mem_of_getElem? (i := 3) rfl))) (mvT hZ (hw _ (List.mem_of_getElem? (i := 4) rfl))) (by decide) (backOf (W := 0) (rm1 l Z a0 hw [] i3 h0 n0 Z0) hZ (hw _ (List.mem_of_getElem? (i := 4) rfl)) (hw _ (List.mem_of_getElem? (i := 3) rfl)) (by decide) (by decide)) (g := (mkF m 114 #[.val (.int i0), .val (.int i1), .val (.ref b1), .val (.int i3)] [(.int i3)])) rfl (by rw [hml]; rfl) (argsL := [(.int i3)]) (rest := []) (lenOf own_pd_C_Z rfl) rfl (by show 2 * 0 + _ ≤ _; exact Nat.le_of_eq rfl) (hb hby at_114) (fun _ _ => ⟨rfl, e0, (by decide : 1 + 0 ≤ _), (by decide : 16 + 0 ≤ _)⟩)
  dsimp only [Pt.U, Pt.locs, Pt.cells, Pt.slots] at X1 l1 y1 z1 st1 hQ1
  subst l1 y1 z1
  obtain ⟨rfl, N1q, e1⟩ := hQ1
  have N1 := Fr.app N0 N1q
  refine own_step (T1 := T1) (g1 := (mkF m 117 #[.val (.int i0), .val (.int i1), .val (.ref b1), .val (.int i3)] [(.int (own_b (f1_0 i3)))])) (fun t k => st1 t k) ?_
  refine own_step (T1 := T1) (g1 := (mkF m 118 #[.val (.int i0), .val (.int i1), .val (.ref b1), .val (.int i3)] [(.int i3), (.int (own_b (f1_0 i3)))])) (fun _ k => XS.iloadN X1.here hx rfl (hb hby at_117) rfl k) ?_
  obtain ⟨_, _, ⟨T2, L2, k2, n2⟩, -, X2, ⟨Lc2, hQ2, l2, y2, z2⟩, st2⟩ := Jvm.LawKit.callS X1 hx (y := (⟨"com/example/moth/moth/xslt/EscapeMayEscapePinLaw", "expected", "(C)Z"⟩ : MethodName)) hown (mvT hZ (hw _ (List.mem_of_getElem? (i := 5) rfl))) (mvT hZ (hw _ (List.mem_of_getElem? (i := 6) rfl))) (mvT hZ (hw _ (List.mem_of_getElem? (i := 7) rfl))) (mvT hZ (hw _ (List.mem_of_getElem? (i := 8) rfl))) (by decide) (backOf (W := 1) (rm2 l Z a0 hw [] i3 h0 n0 Z0) hZ (hw _ (List.mem_of_getElem? (i := 8) rfl)) (hw _ (List.mem_of_getElem? (i := 7) rfl)) (by decide) (by decide)) (g := (mkF m 118 #[.val (.int i0), .val (.int i1), .val (.ref b1), .val (.int i3)] [(.int i3), (.int (own_b (f1_0 i3)))])) rfl (by rw [hml]; rfl) (argsL := [(.int i3)]) (rest := [(.int (own_b (f1_0 i3)))]) (lenOf own_pd_C_Z rfl) rfl (by show 2 * 0 + _ ≤ _; exact Nat.le_of_eq rfl) (hb hby at_118) (fun _ _ => ⟨rfl, e1, (by decide : 1 + 0 ≤ _), (by decide : 16 + 0 ≤ _)⟩)
  dsimp only [Pt.U, Pt.locs, Pt.cells, Pt.slots] at X2 l2 y2 z2 st2 hQ2
  subst l2 y2 z2
  obtain ⟨rfl, N2q, e2⟩ := hQ2
  have N2 := Fr.app N1 N2q
  refine own_step (T1 := T2) (g1 := (mkF m 121 #[.val (.int i0), .val (.int i1), .val (.ref b1), .val (.int i3)] [(.int (own_b (f2_0 i3))), (.int (own_b (f1_0 i3)))])) (fun t k => st2 t k) ?_
  by_cases hc121 : (own_b (f1_0 i3)) = (own_b (f2_0 i3))
  · rw [if_pos hc121]
    refine own_step (T1 := T2) (g1 := (mkF m 124 #[.val (.int i0), .val (.int i1), .val (.ref b1), .val (.int i3)] [])) (fun _ k => XS.icmpNo X2.here hx rfl (hb hby at_121) rfl (teq hc121).2 k) ?_
    refine own_step (T1 := T2) (g1 := (mkF m 125 #[.val (.int i0), .val (.int i1), .val (.ref b1), .val (.int i3)] [(.int (1 : Int32))])) (fun _ k => XS.iconst X2.here hx rfl (hb hby at_124) k) ?_
    refine own_step (T1 := T2) (g1 := (mkF m 129 #[.val (.int i0), .val (.int i1), .val (.ref b1), .val (.int i3)] [(.int (1 : Int32))])) (fun _ k => XS.goto X2.here hx rfl (pc0 := 125) (pc' := 129) rfl (hb hby at_125) (by decide) (by decide) k) ?_
    exact ⟨_, _, 129, _, X2, e2, N2, (hb hby at_129), fun _ k => k⟩
  · rw [if_neg hc121]
    refine own_step (T1 := T2) (g1 := (mkF m 128 #[.val (.int i0), .val (.int i1), .val (.ref b1), .val (.int i3)] [])) (fun _ k => XS.icmpYes X2.here hx rfl (pc0 := 121) (pc' := 128) rfl (hb hby at_121) rfl (feq hc121).2 (by decide) (by decide) k) ?_
    refine own_step (T1 := T2) (g1 := (mkF m 129 #[.val (.int i0), .val (.int i1), .val (.ref b1), .val (.int i3)] [(.int (0 : Int32))])) (fun _ k => XS.iconst X2.here hx rfl (hb hby at_128) k) ?_
    exact ⟨_, _, 129, _, X2, e2, N2, (hb hby at_129), fun _ k => k⟩
def f0_94 (i0 : Int32) (i1 : Int32) : Bool := (if (i1 &&& (1 : Int32)) = (0 : Int32) then (f0_113 i0 i1 (i0.toUInt32.toUInt16.toUInt32.toInt32)) else (f0_113 i0 i1 (own_vals0.getD ((i0 &&& (15 : Int32))).toNatClampNeg 0)))
set_option maxRecDepth 65536 in
set_option maxHeartbeats 4000000 in
theorem b0_94 {p : Program} {l : Launch} {e : Env} {s : State} {m : MethodId} {args : Array Value} {below : List Frame} {meth : Method} {c : Code} {T0 : State} {locs : List Loc} {Z : State} {a0 : Array Value} {h0 : Heap} {n0 : Nat} {k1 : ClassId} (i0 : Int32) (i1 : Int32) (b1 : Addr) (X0 : Stand p l e room_1 s m args below meth c T0 locs 1 16) (hx : p.tables.exec = Jvm.exec) (hZ : Z.Warmed39 s.vm) (hw : ∀ d ∈ tables_1, d.before a0 Z = true) (hby : c.code = code) (hml : c.maxLocals = 4) (hown : s.vm.findClass "com/example/moth/moth/xslt/EscapeMayEscapePinLaw" = some m.cls) (e0 : T0.heap = h0) (N0 : Fr n0 locs) (Z0 : n0 ≤ h0.size) (V1 : Arv Z h0 b1 k1 .char (16 : Int32) (own_vals0.map Value.int) (.int 0)) :
    own_Ret p l e room_1 s m args below meth c h0 n0 1 16 T0 (mkF m 94 #[.val (.int i0), .val (.int i1), .val (.ref b1), .unset] []) (own_b (f0_94 i0 i1)) := by
  unfold f0_94
  refine own_step (T1 := T0) (g1 := (mkF m 95 #[.val (.int i0), .val (.int i1), .val (.ref b1), .unset] [(.int i1)])) (fun _ k => XS.iloadN X0.here hx rfl (hb hby at_94) rfl k) ?_
  refine own_step (T1 := T0) (g1 := (mkF m 96 #[.val (.int i0), .val (.int i1), .val (.ref b1), .unset] [(.int (1 : Int32)), (.int i1)])) (fun _ k => XS.iconst X0.here hx rfl (hb hby at_95) k) ?_
  refine own_step (T1 := T0) (g1 := (mkF m 97 #[.val (.int i0), .val (.int i1), .val (.ref b1), .unset] [(.int (i1 &&& (1 : Int32)))])) (fun _ k => XS.iand X0.here hx rfl (hb hby at_96) rfl k) ?_
  by_cases hc97 : (i1 &&& (1 : Int32)) = (0 : Int32)
  · rw [if_pos hc97]
    refine own_step (T1 := T0) (g1 := (mkF m 110 #[.val (.int i0), .val (.int i1), .val (.ref b1), .unset] [])) (fun _ k => XS.ifYes X0.here hx rfl (pc0 := 97) (pc' := 110) rfl (hb hby at_97) rfl ((if0 _ _).trans (teq hc97).1) (by decide) (by decide) k) ?_
    refine own_step (T1 := T0) (g1 := (mkF m 111 #[.val (.int i0), .val (.int i1), .val (.ref b1), .unset] [(.int i0)])) (fun _ k => XS.iloadN X0.here hx rfl (hb hby at_110) rfl k) ?_
    refine own_step (T1 := T0) (g1 := (mkF m 112 #[.val (.int i0), .val (.int i1), .val (.ref b1), .unset] [(.int (i0.toUInt32.toUInt16.toUInt32.toInt32))])) (fun _ k => XS.i2c X0.here hx rfl (hb hby at_111) rfl k) ?_
    refine own_step (T1 := T0) (g1 := (mkF m 113 #[.val (.int i0), .val (.int i1), .val (.ref b1), .val (.int (i0.toUInt32.toUInt16.toUInt32.toInt32))] [])) (fun _ k => XS.istoreN X0.here hx rfl (hb hby at_112) rfl (l' := #[.val (.int i0), .val (.int i1), .val (.ref b1), .val (.int (i0.toUInt32.toUInt16.toUInt32.toInt32))]) rfl k) ?_
    exact b0_113 i0 i1 b1 (i0.toUInt32.toUInt16.toUInt32.toInt32) X0 hx hZ hw hby hml hown e0 N0 Z0 V1
  · rw [if_neg hc97]
    refine own_step (T1 := T0) (g1 := (mkF m 100 #[.val (.int i0), .val (.int i1), .val (.ref b1), .unset] [])) (fun _ k => XS.ifNo X0.here hx rfl (hb hby at_97) rfl ((if0 _ _).trans (feq hc97).1) k) ?_
    refine own_step (T1 := T0) (g1 := (mkF m 101 #[.val (.int i0), .val (.int i1), .val (.ref b1), .unset] [(.ref b1)])) (fun _ k => XS.aloadN X0.here hx rfl (hb hby at_100) rfl rfl k) ?_
    refine own_step (T1 := T0) (g1 := (mkF m 102 #[.val (.int i0), .val (.int i1), .val (.ref b1), .unset] [(.int i0), (.ref b1)])) (fun _ k => XS.iloadN X0.here hx rfl (hb hby at_101) rfl k) ?_
    refine own_step (T1 := T0) (g1 := (mkF m 104 #[.val (.int i0), .val (.int i1), .val (.ref b1), .unset] [(.int (15 : Int32)), (.int i0), (.ref b1)])) (fun _ k => XS.bipush X0.here hx rfl (hb hby at_102) k) ?_
    refine own_step (T1 := T0) (g1 := (mkF m 105 #[.val (.int i0), .val (.int i1), .val (.ref b1), .unset] [(.int (i0 &&& (15 : Int32))), (.ref b1)])) (fun _ k => XS.iand X0.here hx rfl (hb hby at_104) rfl k) ?_
    obtain ⟨cl3, Ar3, hin3, hat3⟩ := own_at V1 (j := (i0 &&& (15 : Int32))) (own_in15 i0)
    refine own_step (T1 := T0) (g1 := (mkF m 106 #[.val (.int i0), .val (.int i1), .val (.ref b1), .unset] [(.int (own_vals0.getD ((i0 &&& (15 : Int32))).toNatClampNeg 0))])) (fun _ k => X0.caload hx (j := (i0 &&& (15 : Int32))) (v := (.int (own_vals0.getD ((i0 &&& (15 : Int32))).toNatClampNeg 0))) (by rw [e0]; exact Ar3.1) (State.isArrayOf_alike hZ.alike Ar3.2.1) Ar3.2.2 hin3 hat3 (g := (mkF m 105 #[.val (.int i0), .val (.int i1), .val (.ref b1), .unset] [(.int (i0 &&& (15 : Int32))), (.ref b1)])) rfl rfl (hb hby at_105) _ k) ?_
    refine own_step (T1 := T0) (g1 := (mkF m 107 #[.val (.int i0), .val (.int i1), .val (.ref b1), .val (.int (own_vals0.getD ((i0 &&& (15 : Int32))).toNatClampNeg 0))] [])) (fun _ k => XS.istoreN X0.here hx rfl (hb hby at_106) rfl (l' := #[.val (.int i0), .val (.int i1), .val (.ref b1), .val (.int (own_vals0.getD ((i0 &&& (15 : Int32))).toNatClampNeg 0))]) rfl k) ?_
    refine own_step (T1 := T0) (g1 := (mkF m 113 #[.val (.int i0), .val (.int i1), .val (.ref b1), .val (.int (own_vals0.getD ((i0 &&& (15 : Int32))).toNatClampNeg 0))] [])) (fun _ k => XS.goto X0.here hx rfl (pc0 := 107) (pc' := 113) rfl (hb hby at_107) (by decide) (by decide) k) ?_
    exact b0_113 i0 i1 b1 (own_vals0.getD ((i0 &&& (15 : Int32))).toNatClampNeg 0) X0 hx hZ hw hby hml hown e0 N0 Z0 V1
def F1_40 (z0 : Int) : Bool := false
def F1_36 (z0 : Int) : Bool := true
def F1_0 (z0 : Int) : Bool := (if (62 : Int) < z0 then (F1_40 z0) else (if z0 < (32 : Int) then (F1_36 z0) else (if z0 = (34 : Int) then (F1_36 z0) else (if z0 = (38 : Int) then (F1_36 z0) else (if z0 = (60 : Int) then (F1_36 z0) else (if z0 = (62 : Int) then (F1_36 z0) else (F1_40 z0)))))))
theorem own_c1_32 : (32 : Int32).toInt = 32 := rfl
theorem own_c1_34 : (34 : Int32).toInt = 34 := rfl
theorem own_c1_38 : (38 : Int32).toInt = 38 := rfl
theorem own_c1_60 : (60 : Int32).toInt = 60 := rfl
theorem own_c1_62 : (62 : Int32).toInt = 62 := rfl
theorem f1_40_int (i0 : Int32) : f1_40 i0 = F1_40 i0.toInt := by
  simp only [f1_40, F1_40, Int32.lt_iff_toInt_lt, ← Int32.toInt_inj]
theorem f1_36_int (i0 : Int32) : f1_36 i0 = F1_36 i0.toInt := by
  simp only [f1_36, F1_36, Int32.lt_iff_toInt_lt, ← Int32.toInt_inj]
theorem f1_0_int (i0 : Int32) : f1_0 i0 = F1_0 i0.toInt := by
  simp only [f1_0, F1_0, f1_36_int, f1_40_int, Int32.lt_iff_toInt_lt, ← Int32.toInt_inj, own_c1_32, own_c1_34, own_c1_38, own_c1_60, own_c1_62]
def F2_0 (z0 : Int) : Bool := (if z0 < (32 : Int) then true else (if z0 = (34 : Int) then true else (if z0 = (38 : Int) then true else (if z0 = (60 : Int) then true else (if z0 = (62 : Int) then true else false)))))
theorem own_c2_32 : (32 : Int32).toInt = 32 := rfl
theorem own_c2_34 : (34 : Int32).toInt = 34 := rfl
theorem own_c2_38 : (38 : Int32).toInt = 38 := rfl
theorem own_c2_60 : (60 : Int32).toInt = 60 := rfl
theorem own_c2_62 : (62 : Int32).toInt = 62 := rfl
theorem f2_0_int (i0 : Int32) : f2_0 i0 = F2_0 i0.toInt := by
  simp only [f2_0, F2_0, Int32.lt_iff_toInt_lt, ← Int32.toInt_inj, own_c2_32, own_c2_34, own_c2_38, own_c2_60, own_c2_62]
set_option maxHeartbeats 4000000 in
theorem own_same_int (z : Int) : F1_0 z = F2_0 z := by
  rcases Int.lt_or_le z 32 with h | h
  · simp (disch := omega) only [F1_40, F1_36, F1_0, F2_0, ↓if_pos, ↓if_neg, ↓reduceIte, reduceCtorEq]
  have h' := h
  clear h
  rcases Int.lt_or_le z 34 with h | h
  · simp (disch := omega) only [F1_40, F1_36, F1_0, F2_0, ↓if_pos, ↓if_neg, ↓reduceIte, reduceCtorEq]
  clear h'
  have h' := h
  clear h
  rcases Int.lt_or_le z 35 with h | h
  · simp (disch := omega) only [F1_40, F1_36, F1_0, F2_0, ↓if_pos, ↓if_neg, ↓reduceIte, reduceCtorEq]
  clear h'
  have h' := h
  clear h
  rcases Int.lt_or_le z 38 with h | h
  · simp (disch := omega) only [F1_40, F1_36, F1_0, F2_0, ↓if_pos, ↓if_neg, ↓reduceIte, reduceCtorEq]
  clear h'
  have h' := h
  clear h
  rcases Int.lt_or_le z 39 with h | h
  · simp (disch := omega) only [F1_40, F1_36, F1_0, F2_0, ↓if_pos, ↓if_neg, ↓reduceIte, reduceCtorEq]
  clear h'
  have h' := h
  clear h
  rcases Int.lt_or_le z 60 with h | h
  · simp (disch := omega) only [F1_40, F1_36, F1_0, F2_0, ↓if_pos, ↓if_neg, ↓reduceIte, reduceCtorEq]
  clear h'
  have h' := h
  clear h
  rcases Int.lt_or_le z 61 with h | h
  · simp (disch := omega) only [F1_40, F1_36, F1_0, F2_0, ↓if_pos, ↓if_neg, ↓reduceIte, reduceCtorEq]
  clear h'
  have h' := h
  clear h
  rcases Int.lt_or_le z 62 with h | h
  · simp (disch := omega) only [F1_40, F1_36, F1_0, F2_0, ↓if_pos, ↓if_neg, ↓reduceIte, reduceCtorEq]
  clear h'
  have h' := h
  clear h
  rcases Int.lt_or_le z 63 with h | h
  · simp (disch := omega) only [F1_40, F1_36, F1_0, F2_0, ↓if_pos, ↓if_neg, ↓reduceIte, reduceCtorEq]
  clear h'
  have h' := h
  clear h
  simp (disch := omega) only [F1_40, F1_36, F1_0, F2_0, ↓if_pos, ↓if_neg, ↓reduceIte, reduceCtorEq]
/-! the plain law -/
theorem own_same (x : Int32) : f1_0 x = f2_0 x := by rw [f1_0_int, f2_0_int, own_same_int]
theorem own_law (i0 i1 : Int32) : f0_94 i0 i1 = true := by
  have h : ∀ a b z, f0_113 a b z = true := fun a b z => by unfold f0_113; rw [own_same, if_pos rfl]
  unfold f0_94; split <;> exact h _ _ _

theorem pn_0 : plainName "com/example/moth/moth/xslt/EscapeMayEscapePinLaw" = true := by first | (simp [plainName, overriddenIn]; done) | decide +kernel
theorem ef_0 (m : MethodId) (i0 : Int32) (i1 : Int32) : entryFrame m #[(.int i0), (.int i1)] maxLocals = mkF m 0 #[.val (.int i0), .val (.int i1), .unset, .unset] [] := by first | (simp [entryFrame, mkF, argsToLocals, Value.category, maxLocals]; done) | rfl
def Q0 (n0 : Nat) (v : Option Value) (h : Heap) (L : List Loc) : Prop := v = some (.int (1 : Int32)) ∧ Fr n0 L
set_option maxRecDepth 65536 in
set_option maxHeartbeats 4000000 in
theorem rm0 (l : Launch) (Z : State) (a0 : Array Value) (hw : ∀ d ∈ tables_1, d.before a0 Z = true) (ws : List Jvm.Cond) (i0 : Int32) (i1 : Int32) (h0 : Heap) (n0 : Nat) (Z0 : n0 ≤ h0.size) :
    MetFree l x (head1 (Jvm.Cond.code x code maxLocals ret :: ws) room_1) (fun a U => a = #[(.int i0), (.int i1)] ∧ Z.Warmed39 U.vm ∧ U.heap = h0) (fun _ _ _ _ _ => True) (fun _ U o U' => ∃ v L, o = .returned v ∧ Q0 n0 v U'.heap L ∧ FrameEnd U o U' L room_1.cells room_1.slots) := by
  refine MetFree.of_bodySF (plainFor_of_name pn_0) hisR ?_
  intro p e s m args below meth c s₁ Bd hml0 hP hK
  obtain ⟨rfl, hZ, hh⟩ := hP
  have hx := Bd.exec
  have hby := Bd.bytes
  have hml : c.maxLocals = 4 := hml0
  have hown : s.vm.findClass "com/example/moth/moth/xslt/EscapeMayEscapePinLaw" = some m.cls := findClass_of_methodNamed Bd.named
  have X0 : Stand p l e room_1 s m #[(.int i0), (.int i1)] below meth c s₁ [] 0 0 := Stand.of_body Bd
  have e0 : s₁.heap = h0 := by rw [← hh, Bd.state]; rfl
  obtain ⟨Ta0, ha0, ba0, ka0, La0, Xa0, ea0, Ka0, ga0, Va0, Na0, sta0⟩ := ar0 i0 i1 X0 hx hZ hw hby hown e0 (Fr.nil n0) Z0
  have Za0 : n0 ≤ ha0.size := Nat.le_trans Z0 Ka0.1
  obtain ⟨T', locs', pcr, Ls, X', e', N', hd, st⟩ := b0_94 i0 i1 ba0 Xa0 hx hZ hw hby hml hown ea0 Na0 Za0 Va0
  rw [own_law] at st
  obtain ⟨fs, hr, hrun, hended, hW, hsame⟩ := X'.leave (v := some (.int (1 : Int32))) (fun h => by rw [Bd.returns] at h; cases h)
  refine ⟨_, _, castTop (ef_0 m i0 i1) (sta0 _ (st _ ?_)), hrun, hended, _, _, rfl, ?_, ⟨_, rfl⟩, hW, hsame.mono (by decide) (by decide)⟩
  · exact retN X' hx (t := .boolean) Bd.returns (by simp) hd hr
  · exact ⟨rfl, N'⟩
set_option maxRecDepth 65536 in
set_option maxHeartbeats 40000000 in
theorem comes_1 {Post : Tables → Env → Array Value → State → Outcome → State → Prop} (hpost : ∀ tb e args s v u, (limb_1_1.after args s (.returned v) u = true ∧ limb_1_2.after args s (.returned v) u = true ∧ True) → FrameEnd s (.returned v) u (Jvm.fieldLocs frame_1_writes args s ++ Jvm.arrayLocs frame_1_arrays args s ++ Jvm.staticLocs frame_1_statics s) 16 128 → Post tb e args s (.returned v) u) :
    ArmFor flags0 classFile x code maxLocals ret World_1 tables_1 room_1 Calls_1 rest_1 Pre_1 Post := by
  intro l hfl _ _ p e ha hc hk s m args below hf hA hF happ hP
  obtain ⟨hcalls, hrest, hpre⟩ := hP
  obtain ⟨-, -, -, hnamed, -, -, -, hat⟩ := (Spec.applies_iff hf).mp happ
  obtain ⟨hg, hn⟩ := and_e (Cond.before_iff.mp (show (Jvm.Cond.and given_1 narrow_1).before args s = true from hpre))
  obtain ⟨gc, gr0⟩ := and_e hg
  obtain ⟨ga0, gr1⟩ := and_e gr0
  obtain ⟨w0, w1, rfl⟩ : ∃ w0 w1 : Value, args = #[w0, w1] := by
    have hs : args.size = 2 := by simpa [Cond.value, given_1] using gc
    obtain ⟨L⟩ := args
    match L, hs with
    | [w0, w1], _ => exact ⟨w0, w1, rfl⟩
  have hw := fun d (hd : d ∈ tables_1) => atoms_spec (ws := Jvm.Cond.code x code maxLocals ret :: tables_1) hat d (List.mem_cons_of_mem _ hd)
  obtain ⟨i0, ei0⟩ := is_v ga0
  obtain rfl : w0 = (.int i0) := Option.some.inj ei0
  obtain ⟨i1, ei1⟩ := is_v gr1
  obtain rfl : w1 = (.int i1) := Option.some.inj ei1
  obtain ⟨n, o, h1, h2, h3, _, L, rfl, ⟨rfl, N⟩, hq⟩ := rm0 l s _ hw tables_1 i0 i1 s.heap s.heap.size (Nat.le_refl _) p e ha hc hk s m _ below hf ((Spec.applies_iff_loose hf).mp happ).1 ⟨rfl, State.Warmed39.refl s, rfl⟩ trivial
  refine ⟨n, _, h1, h2, h3, hpost _ _ _ _ _ _ ⟨Cond.after_iff.mpr rfl, Cond.after_iff.mpr (eq_i res_at (Term.int_eval (1)) rfl), trivial⟩ ⟨hq.1, hq.2.1, (hq.2.2.sift fun y hy => Or.inr (N y hy)).mono (by decide) (by decide)⟩⟩
theorem main_1_1 : Claimed_1_1 := comes_1 fun _ _ _ _ _ _ h hF => ⟨h.1, hF⟩
theorem main_1_2 : Claimed_1_2 := comes_1 fun _ _ _ _ _ _ h hF => ⟨h.2.1, hF⟩
end Jvm.Pilot.@@N@@
namespace Jvm.Pilot.@@N@@
open Jvm Jvm.ClassFile Sem Op Lib Jvm.Free Jvm.Stand Jvm.Pilot.@@N@@.Jvm.D
/-! MADE BY PROGRAM (witnessworld.py) out of the Statement's table words and the real class files: 11 classes; the members and pool entries that the words name. The judged class is class 1, her method 2. -/
namespace start1
open Jvm.ClassFile
def u (s : String) : CpInfo := .utf8 (stringToUtf16 s)
/-- a pool by its gaps: so many unusable entries, then the entry; so many at the end -/
def gap : Nat → List CpInfo → List CpInfo
  | 0, r => r
  | n + 1, r => .unusable :: gap n r
def poolList (es : List (Nat × CpInfo)) (last : Nat) : List CpInfo := es.foldr (fun e r => gap e.1 (e.2 :: r)) (gap last [])
def pool (es : List (Nat × CpInfo)) (last : Nat) : Array CpInfo := ⟨poolList es last⟩
def fileOf (pool : Array CpInfo) (this : Nat) (attrs : Array Attribute := #[]) (ms : Array MethodInfo := #[]) (fl : Nat := 33) (sup : Nat := 0) (ifs : Array Nat := #[]) (fds : Array FieldInfo := #[]) : ClassFile where
  minorVersion := 0
  majorVersion := 65
  constantPool := pool
  accessFlags := fl
  thisClass := this
  superClass := sup
  interfaces := ifs
  fields := fds
  methods := ms
  attributes := attrs
def plain (name : String) (sup : Option ClassId) : Class where
  name := name
  kind := .ordinary
  loader := none
  accessFlags := 33
  super := sup
  interfaces := #[]
  cf := none
  fields := #[]
  methods := #[]
  instanceTypes := #[]
  staticTypes := #[]
  resolved := #[]
  callSites := []
  init := .initialized
  statics := none
  mirror := none

def pool0 : Array CpInfo := pool [(5, u "<init>"), (0, u "()V"), (1, .class_ 10), (1, u "java/lang/Object")] 113

def k0m0 : Method := { name := "<init>", desc := "()V", sig := { parameters := [], returnType := none }, accessFlags := 1, code := none }
/-- java/lang/Object -/
def k0 : Class := { plain "java/lang/Object" none with
  accessFlags := 33
  interfaces := #[]
  cf := some (fileOf pool0 8 #[] #[{ accessFlags := 1, nameIndex := 5, descriptorIndex := 6, attributes := #[] }] 33 0 #[] #[])
  fields := #[]
  methods := #[k0m0]
  instanceTypes := #[]
  staticTypes := #[]
  resolved := Array.replicate 124 none
  statics := none }

def pool1 : Array CpInfo := pool [(2, .class_ 4), (1, u "java/lang/Object"), (0, u "<init>"), (0, u "()V"), (0, .interfaceMethodref 8 9), (0, .class_ 10), (0, .nameAndType 11 12), (0, u "com/example/moth/moth/xslt/XmlSerializer$Escape"), (0, u "mayEscape"), (0, u "(C)Z"), (0, .methodref 14 15), (0, .class_ 16), (0, .nameAndType 17 12), (0, u "com/example/moth/moth/xslt/EscapeMayEscapePinLaw"), (0, u "expected"), (3, u "law"), (0, u "(II)Z")] 8

def k1m0 : Method := { name := "<init>", desc := "()V", sig := { parameters := [], returnType := none }, accessFlags := 2, code := none }
def k1c1 : Code := { maxStack := 2, maxLocals := 1, code := method_2_code, exceptionTable := #[], attributes := #[] }
def k1m1 : Method := { name := "expected", desc := "(C)Z", sig := { parameters := [.char], returnType := some .boolean }, accessFlags := 10, code := some k1c1 }
def k1c2 : Code := { maxStack := 4, maxLocals := 4, code := code, exceptionTable := #[], attributes := #[] }
def k1m2 : Method := { name := "law", desc := "(II)Z", sig := { parameters := [.int, .int], returnType := some .boolean }, accessFlags := 9, code := some k1c2 }
/-- com/example/moth/moth/xslt/EscapeMayEscapePinLaw -/
def k1 : Class := { plain "com/example/moth/moth/xslt/EscapeMayEscapePinLaw" (some 0) with
  accessFlags := 49
  interfaces := #[]
  cf := some (fileOf pool1 14 #[] #[{ accessFlags := 2, nameIndex := 5, descriptorIndex := 6, attributes := #[] }, { accessFlags := 10, nameIndex := 17, descriptorIndex := 12, attributes := #[] }, { accessFlags := 9, nameIndex := 21, descriptorIndex := 22, attributes := #[] }] 49 2 #[] #[])
  fields := #[]
  methods := #[k1m0, k1m1, k1m2]
  instanceTypes := #[]
  staticTypes := #[]
  resolved := Array.replicate 31 none
  statics := none }

def pool2 : Array CpInfo := pool [(1, .class_ 2), (0, u "com/example/moth/moth/xslt/XmlSerializer$Escape"), (0, .class_ 4), (0, u "java/lang/Object"), (0, u "mayEscape"), (0, u "(C)Z"), (8, .class_ 16), (0, u "com/example/moth/moth/xslt/XmlSerializer")] 2

def k2c0 : Code := { maxStack := 2, maxLocals := 1, code := prog_168_method_1_code, exceptionTable := #[], attributes := #[] }
def k2m0 : Method := { name := "mayEscape", desc := "(C)Z", sig := { parameters := [.char], returnType := some .boolean }, accessFlags := 9, code := some k2c0 }
/-- com/example/moth/moth/xslt/XmlSerializer$Escape -/
def k2 : Class := { plain "com/example/moth/moth/xslt/XmlSerializer$Escape" (some 0) with
  accessFlags := 1536
  interfaces := #[]
  cf := some (fileOf pool2 1 #[.nestHost 15] #[{ accessFlags := 9, nameIndex := 5, descriptorIndex := 6, attributes := #[] }] 1536 3 #[] #[])
  fields := #[]
  methods := #[k2m0]
  instanceTypes := #[]
  staticTypes := #[]
  resolved := Array.replicate 19 none
  statics := none }

def pool3 : Array CpInfo := pool [(1, u "java/lang/Cloneable"), (0, .class_ 1), (0, u "java/lang/Object"), (0, .class_ 3)] 3

/-- java/lang/Cloneable -/
def k3 : Class := { plain "java/lang/Cloneable" (some 0) with
  accessFlags := 1537
  interfaces := #[]
  cf := some (fileOf pool3 2 #[] #[] 1537 4 #[] #[])
  fields := #[]
  methods := #[]
  instanceTypes := #[]
  staticTypes := #[]
  resolved := Array.replicate 8 none
  statics := none }

def pool4 : Array CpInfo := pool [(1, u "java/io/Serializable"), (0, .class_ 1), (0, u "java/lang/Object"), (0, .class_ 3)] 3

/-- java/io/Serializable -/
def k4 : Class := { plain "java/io/Serializable" (some 0) with
  accessFlags := 1537
  interfaces := #[]
  cf := some (fileOf pool4 2 #[] #[] 1537 4 #[] #[])
  fields := #[]
  methods := #[]
  instanceTypes := #[]
  staticTypes := #[]
  resolved := Array.replicate 8 none
  statics := none }

/-- the primitive byte -/
def k5 : Class := { plain "byte" none with kind := .primitive 'B', accessFlags := 0x411 }
/-- [B -/
def k6 : Class := { plain "[B" (some 0) with kind := .array 5 .byte, interfaces := #[3, 4], accessFlags := 1041 }

/-- the primitive char -/
def k7 : Class := { plain "char" none with kind := .primitive 'C', accessFlags := 0x411 }
/-- [C -/
def k8 : Class := { plain "[C" (some 0) with kind := .array 7 .char, interfaces := #[3, 4], accessFlags := 1041 }

/-- the primitive int -/
def k9 : Class := { plain "int" none with kind := .primitive 'I', accessFlags := 0x411 }
/-- [I -/
def k10 : Class := { plain "[I" (some 0) with kind := .array 9 .int, interfaces := #[3, 4], accessFlags := 1041 }

def heap : Heap := #[]
def classes : Array Class := #[k0, k1, k2, k3, k4, k5, k6, k7, k8, k9, k10]
def interned : List (Array UInt16 × Addr) := []
def slotsUsed : Nat := 0
def theMethod : MethodId := ⟨1, 2⟩
def args0 : Array Value := #[.int 5, .int 3]
def aboutOver (below : List Frame) : State where
  vm := { classes := classes, interned := interned.toArray }
  heap := heap
  slotsUsed := slotsUsed
  threads := #[{ frames := .invoking theMethod args0 :: below }]
def below0 : List Frame := [.native { method := ⟨0, 0⟩, args := #[] }]
def about1 : State := aboutOver below0
def p0 : Program := .bare "" "" ""
def e0 : Env := launch0.env 0 0 0
theorem w_frames : about1.frames = Frame.invoking theMethod args0 :: below0 := rfl
set_option maxRecDepth 65536 in
theorem w_args : argsFit about1.vm theMethod args0 = true := by decide +kernel
set_option maxRecDepth 65536 in
theorem w_heap : heapFits about1 = true := by decide +kernel
set_option maxRecDepth 65536 in
theorem w_runnable : about1.curStatus? = some .runnable := by decide +kernel
set_option maxRecDepth 65536 in
theorem w_alone : about1.alone = true := by decide +kernel
set_option maxRecDepth 65536 in
theorem w_named : about1.methodNamed? x = some theMethod := by decide +kernel
set_option maxRecDepth 65536 in
theorem w_hears : about1.hears theMethod below0 = true := by decide +kernel
set_option maxRecDepth 65536 in
theorem w_ripe : about1.ripe theMethod args0 below0 = true := by decide +kernel
theorem w_running : about1.status = .running := rfl
set_option maxRecDepth 65536 in
theorem w_room : about1.hasRoom e0.platform room_1 = true :=
  launch0.hasRoom_least _ room_1 (by decide +kernel) (by decide +kernel) (by decide +kernel) (by decide +kernel) (by decide +kernel) (by decide +kernel)
theorem allAtoms_all (ts : List Jvm.Cond) (a : Array Jvm.Value) (st : Jvm.State) : (allAtoms ts).before a st = ts.all (fun c => c.before a st) := by
  induction ts with
  | nil => rfl
  | cons c t ih =>
    show (Jvm.Cond.and c (allAtoms t)).before a st = _
    rw [Jvm.Cond.before_and, ih, List.all_cons]
def words1 : List Jvm.Cond := Jvm.Cond.code x code maxLocals ret :: tables_1
/-- a 'code' word, met by the world's own term for the bytes: nothing is compared byte by byte -/
theorem code_word {y : MethodName} {bytes : ByteArray} {mx : Nat} {rt : Option FieldType} {a : Array Value} {s : State} {m : MethodId} {meth : Method} {c : Code} (h1 : s.methodNamed? y = some m) (h2 : s.vm.method? m = some meth) (h3 : meth.code = some c) (h4 : c.code = bytes)
    (h5 : (c.maxLocals == mx && c.exceptionTable.isEmpty && decide (c.maxStack ≤ mostOperands) && decide (meth.sig.returnType = rt) && !meth.locks && decide (parseMethodDescriptor y.desc = some meth.sig)) = true) : (Jvm.Cond.code y bytes mx rt).before a s = true := by
  simp only [Bool.and_eq_true, beq_iff_eq, Bool.not_eq_true', decide_eq_true_eq] at h5
  obtain ⟨⟨⟨⟨⟨g1, g2⟩, g3⟩, g4⟩, g5⟩, g6⟩ := h5
  simp [Cond.before, Cond.holds, Cond.value, h1, h2, h3, h4, g1, g2, g3, g4, g5, g6]
def isCode : Jvm.Cond → Bool
  | .code _ _ _ _ => true
  | _ => false
theorem all_split {L : List Jvm.Cond} {P : Jvm.Cond → Bool} (h1 : L.all (fun c => isCode c || P c) = true) (h2 : ∀ c ∈ L.filter isCode, P c = true) : L.all P = true := by
  refine List.all_eq_true.mpr fun c hc => ?_
  have h := List.all_eq_true.mp h1 c hc
  rcases Bool.eq_false_or_eq_true (isCode c) with hi | hi
  · exact h2 c (List.mem_filter.mpr ⟨hc, hi⟩)
  · simpa [hi] using h
set_option maxRecDepth 65536 in
theorem w_c0 : (Jvm.Cond.code x code maxLocals ret).before args0 about1 = true := code_word (m := ⟨1, 2⟩) (meth := k1m2) (c := k1c2) (by decide +kernel) rfl rfl rfl (by decide +kernel)
set_option maxRecDepth 65536 in
theorem w_c1 : (Jvm.Cond.code ({ cls := "com/example/moth/moth/xslt/XmlSerializer$Escape", name := "mayEscape", desc := "(C)Z" } : Jvm.MethodName) prog_168_method_1_code (1 : Nat) (Option.some Jvm.ClassFile.FieldType.boolean)).before args0 about1 = true := code_word (m := ⟨2, 0⟩) (meth := k2m0) (c := k2c0) (by decide +kernel) rfl rfl rfl (by decide +kernel)
set_option maxRecDepth 65536 in
theorem w_c2 : (Jvm.Cond.code ({ cls := "com/example/moth/moth/xslt/EscapeMayEscapePinLaw", name := "expected", desc := "(C)Z" } : Jvm.MethodName) method_2_code (1 : Nat) (Option.some Jvm.ClassFile.FieldType.boolean)).before args0 about1 = true := code_word (m := ⟨1, 1⟩) (meth := k1m1) (c := k1c1) (by decide +kernel) rfl rfl rfl (by decide +kernel)
def codes1 : List Jvm.Cond := [Jvm.Cond.code x code maxLocals ret, Jvm.Cond.code ({ cls := "com/example/moth/moth/xslt/XmlSerializer$Escape", name := "mayEscape", desc := "(C)Z" } : Jvm.MethodName) prog_168_method_1_code (1 : Nat) (Option.some Jvm.ClassFile.FieldType.boolean), Jvm.Cond.code ({ cls := "com/example/moth/moth/xslt/EscapeMayEscapePinLaw", name := "expected", desc := "(C)Z" } : Jvm.MethodName) method_2_code (1 : Nat) (Option.some Jvm.ClassFile.FieldType.boolean)]
set_option maxRecDepth 65536 in
theorem codes_eq : words1.filter isCode = codes1 := rfl
theorem w_codes : ∀ c ∈ words1.filter isCode, c.before args0 about1 = true := by
  rw [codes_eq]
  intro c hc
  simp only [codes1, List.mem_cons, List.not_mem_nil, or_false] at hc
  rcases hc with rfl | rfl | rfl
  · exact w_c0
  · exact w_c1
  · exact w_c2
set_option maxRecDepth 65536 in
theorem w_t1 : words1.all (fun c => isCode c || c.before args0 about1) = true := by decide +kernel
theorem w_tables : (allAtoms (Jvm.Cond.code x code maxLocals ret :: tables_1)).before args0 about1 = true := by
  rw [allAtoms_all]
  show words1.all (fun c => c.before args0 about1) = true
  refine all_split ?_ w_codes
  rw [w_t1]
set_option maxRecDepth 65536 in
theorem w_case : (Jvm.Cond.and given_1 narrow_1).before args0 about1 = true := by decide +kernel
theorem w_applies : (headSpec (Jvm.Cond.code x code maxLocals ret :: tables_1) room_1).applies x e0.platform about1 = true :=
  (Spec.applies_iff w_frames).mpr ⟨w_running, w_runnable, w_alone, w_named, w_hears, w_ripe, w_room, w_tables⟩
theorem atStart : AtStart classFile x code maxLocals ret World_1 tables_1 room_1 Calls_1 rest_1 Pre_1 launch0 p0 e0 about1 theMethod args0 below0 :=
  ⟨lists_1, trivial, launch0.admits_env _ _ _, launch0.least_env, fairChoices_fair.cas, fairChoices_fair.clock, w_frames, w_args, w_heap, w_applies, trivial, trivial, w_case⟩
end start1
theorem witness_1 : WitnessClaimed_1 := ⟨start1.p0, start1.e0, start1.about1, start1.theMethod, start1.args0, start1.below0, start1.atStart⟩
end Jvm.Pilot.@@N@@
