import JvmDerived
import JvmDerived.Pilot.@@N@@Statement
import JvmDerived.Pilot.@@N@@Code
set_option linter.unusedVariables false
set_option linter.unusedSimpArgs false
namespace Jvm.RoadKit
open Sem ClassFile Op Lib Jvm.Stand Jvm.Free Jvm.LawKit
section New
variable {p : Program} {l : Launch} {e : Env} {R : Room} {s : State} {m : MethodId} {args : Array Value} {below : List Frame} {meth : Method} {c : Code} {T : State} {locs : List Loc} {cells slots : Nat}
theorem retI (X : Stand p l e R s m args below meth c T locs cells slots) (hx : p.tables.exec = Jvm.exec) {pc : Nat} {Ls : Array Slot} {z : Int32} {rest : List Value} (hret : meth.sig.returnType = some .int) (hd : decode c.code pc = .ok (.ireturn, 1)) {fs : List Frame}
    (hl : ∀ (f : JFrame) (acts : List Action), f.method = m → f.locked = none → f.entered = [] → (doReturn e (T.setTop f) acts (some (.int z))).1 = T.setFrames fs) : Steps p.tables e below (T.setTop (mkF m pc Ls (.int z :: rest))) (T.setFrames fs) := by
  have hm' : T.vm.method? m = some meth := X.method'
  have hn : narrow .int (.int z) = .int z := rfl
  show Steps p.tables e below (T.setTop { method := m, pc := pc, locals := Ls, stack := _ :: rest, locked := none }) _
  jvm_step X.here [X.here.top, hx, hd, hm', hret, hn]
  first | (intro acts; rw [hl _ acts rfl rfl rfl]) | rw [hl _ _ rfl rfl rfl]
  exact Steps.refl _
end New
end Jvm.RoadKit
namespace Jvm.Pilot.@@N@@
open Jvm Jvm.ClassFile Sem Op Lib Jvm.Free Jvm.Stand Jvm.LawKit Jvm.RoadKit Bundle Jvm.Pilot.@@N@@.Jvm.D
/-! what every block says -/
def own_b (b : Bool) : Int32 := cond b 1 0
theorem own_nar (b : Bool) : nar .boolean (own_b b) = own_b b := by cases b <;> rfl
theorem own_b0 {b : Bool} (h : b = false) : own_b b = (0 : Int32) := by rw [h]; rfl
theorem own_b1 {b : Bool} (h : ¬ b = false) : ¬ own_b b = (0 : Int32) := by cases b; exact absurd rfl h; decide
abbrev own_ushr (x y : Int32) : Int32 := (x.toUInt32 >>> (y &&& 31).toUInt32).toInt32
abbrev own_ushrL (x : Int64) (y : Int32) : Int64 := (x.toUInt64 >>> (y &&& 0x3f).toInt64.toUInt64).toInt64
/-- from the frame g over T0 the run comes to an ireturn with v on top, the heap as it stood -/
def own_Ret (p : Program) (l : Launch) (e : Env) (R : Room) (s : State) (m : MethodId) (args : Array Value) (below : List Frame) (meth : Method) (c : Code) (h0 : Heap) (n0 cells slots : Nat) (T0 : State) (g : JFrame) (v : Int32) : Prop :=
  ∃ (T' : State) (locs' : List Loc) (pcr : Nat) (Ls : Array Slot), Stand p l e R s m args below meth c T' locs' cells slots ∧ T'.heap = h0 ∧ Fr n0 locs' ∧ decode c.code pcr = .ok (.ireturn, 1) ∧
    ∀ target, Steps p.tables e below (T'.setTop (mkF m pcr Ls [.int v])) target → Steps p.tables e below (T0.setTop g) target
theorem own_step {p : Program} {l : Launch} {e : Env} {R : Room} {s : State} {m : MethodId} {args : Array Value} {below : List Frame} {meth : Method} {c : Code} {h0 : Heap} {n0 cells slots : Nat} {T0 T1 : State} {g0 g1 : JFrame} {v : Int32}
    (st : ∀ target, Steps p.tables e below (T1.setTop g1) target → Steps p.tables e below (T0.setTop g0) target) (h : own_Ret p l e R s m args below meth c h0 n0 cells slots T1 g1 v) : own_Ret p l e R s m args below meth c h0 n0 cells slots T0 g0 v := by
  obtain ⟨T', locs', pcr, Ls, h1, h2, h3, h4, h5⟩ := h
  exact ⟨T', locs', pcr, Ls, h1, h2, h3, h4, fun t k => st t (h5 t k)⟩
def own_Q (w : Int32) (h0 : Heap) (n0 : Nat) (v : Option Value) (h : Heap) (L : List Loc) : Prop := v = some (.int w) ∧ Fr n0 L ∧ h = h0
/-! arrays of ints that are filled once: a store behind the last, a read -/
theorem own_map_getD (vals : List Int32) (i : Nat) : (vals.map Value.int).getD i (.int 0) = .int (vals.getD i 0) := by
  simp only [List.getD_eq_getElem?_getD, List.getElem?_map]
  cases vals[i]? <;> rfl
theorem own_at {Z : State} {h : Heap} {a : Addr} {k : ClassId} {ty : FieldType} {n j : Int32} {vals : List Int32} (F : Arv Z h a k ty n (vals.map Value.int) (.int 0)) (hj : ¬ j < 0 ∧ j < n) :
    ∃ cl : Cell, Arr Z h a cl ty ∧ ¬ (j < 0 ∨ cl.slots.size ≤ j.toNatClampNeg) ∧ cl.slots[j.toNatClampNeg]? = some (.int (vals.getD j.toNatClampNeg 0)) := by
  obtain ⟨cl, A, q, S, Nn, H, G⟩ := F
  exact ⟨cl, A, inb_of S hj, H.at (inb_of S hj) (own_map_getD _ _)⟩
theorem own_set_end (vals : List Int32) (x : Int32) : (vals.map Value.int ++ List.replicate 1 (Value.int 0)).set vals.length (.int x) = (vals ++ [x]).map Value.int := by
  rw [List.set_append_right _ _ (by simp)]
  simp
section Own
variable {p : Program} {l : Launch} {e : Env} {R : Room} {s : State} {m : MethodId} {args : Array Value} {below : List Frame} {meth : Method} {c : Code} {T : State} {locs : List Loc} {cells slots : Nat} {Z : State} {h h0 : Heap} {b : Addr} {k : ClassId} {n : Int32} {vals : List Int32} {n0 : Nat}
theorem own_putI (X : Stand p l e R s m args below meth c T locs cells slots) (hx : p.tables.exec = Jvm.exec) (hZ : Z.Warmed39 s.vm) (eT : T.heap = h) (F : Arv Z h b k .int n (vals.map Value.int) (.int 0)) (N : Fr n0 locs) (g0 : n0 ≤ b) (K : Keep h0 h []) (sz : h0.size ≤ b) (j x : Int32) (hj : j.toNatClampNeg = vals.length) (hj2 : ¬ j < 0 ∧ j < n) {g : JFrame} (hg : g.method = m) {rest : List Value} (hs : g.stack = .int x :: .int j :: .ref b :: rest) (hd : decode c.code g.pc = .ok (.iastore, 1)) :
    ∃ (T' : State) (h' : Heap) (locs' : List Loc), Stand p l e R s m args below meth c T' locs' cells slots ∧ T'.heap = h' ∧ Arv Z h' b k .int n ((vals ++ [x]).map Value.int) (.int 0) ∧ Fr n0 locs' ∧ Keep h0 h' [] ∧ ∀ target, Steps p.tables e below (T'.setTop { g with pc := g.pc + 1, stack := rest }) target → Steps p.tables e below (T.setTop g) target := by
  obtain ⟨cl, A, q, S, Nn, H, G⟩ := F.pad (pad_rep _ _ 1)
  obtain ⟨T', h', X', e', W, st⟩ := stI X hx hZ eT A (j := j) (x := x) (inb_of S hj2) hg hs hd
  have V2 := Arv.set A q S Nn H G (v := .int x) rfl W vals.length hj (by simp)
  rw [own_set_end] at V2
  exact ⟨T', h', _, X', e', V2, Fr.snoc X' N g0, K.wr W (Or.inr sz), st⟩
theorem own_putC (X : Stand p l e R s m args below meth c T locs cells slots) (hx : p.tables.exec = Jvm.exec) (hZ : Z.Warmed39 s.vm) (eT : T.heap = h) (F : Arv Z h b k .char n (vals.map Value.int) (.int 0)) (N : Fr n0 locs) (g0 : n0 ≤ b) (K : Keep h0 h []) (sz : h0.size ≤ b) (j x : Int32) (hn : nar .char x = x) (hj : j.toNatClampNeg = vals.length) (hj2 : ¬ j < 0 ∧ j < n) {g : JFrame} (hg : g.method = m) {rest : List Value} (hs : g.stack = .int x :: .int j :: .ref b :: rest) (hd : decode c.code g.pc = .ok (.castore, 1)) :
    ∃ (T' : State) (h' : Heap) (locs' : List Loc), Stand p l e R s m args below meth c T' locs' cells slots ∧ T'.heap = h' ∧ Arv Z h' b k .char n ((vals ++ [x]).map Value.int) (.int 0) ∧ Fr n0 locs' ∧ Keep h0 h' [] ∧ ∀ target, Steps p.tables e below (T'.setTop { g with pc := g.pc + 1, stack := rest }) target → Steps p.tables e below (T.setTop g) target := by
  obtain ⟨cl, A, q, S, Nn, H, G⟩ := F.pad (pad_rep _ _ 1)
  obtain ⟨T', h', X', e', W, st⟩ := stC X hx hZ eT A (j := j) (x := x) (inb_of S hj2) hg hs hd
  rw [hn] at W
  have V2 := Arv.set A q S Nn H G (v := .int x) (by have := fits_nar_char x; rwa [hn] at this) W vals.length hj (by simp)
  rw [own_set_end] at V2
  exact ⟨T', h', _, X', e', V2, Fr.snoc X' N g0, K.wr W (Or.inr sz), st⟩
end Own

/-! walks that touch the heap -/
def own_To (p : Program) (l : Launch) (e : Env) (R : Room) (s : State) (m : MethodId) (args : Array Value) (below : List Frame) (meth : Method) (c : Code) (T0 : State) (g : JFrame) (Φ : State → JFrame → List Loc → Nat → Nat → Prop) : Prop :=
  ∃ (T' : State) (g' : JFrame) (L : List Loc) (k n : Nat), Stand p l e R s m args below meth c T' L k n ∧ Φ T' g' L k n ∧ ∀ target, Steps p.tables e below (T'.setTop g') target → Steps p.tables e below (T0.setTop g) target
theorem own_go {p : Program} {l : Launch} {e : Env} {R : Room} {s : State} {m : MethodId} {args : Array Value} {below : List Frame} {meth : Method} {c : Code} {T0 T1 : State} {g0 g1 : JFrame} {Φ : State → JFrame → List Loc → Nat → Nat → Prop}
    (st : ∀ target, Steps p.tables e below (T1.setTop g1) target → Steps p.tables e below (T0.setTop g0) target) (h : own_To p l e R s m args below meth c T1 g1 Φ) : own_To p l e R s m args below meth c T0 g0 Φ := by
  obtain ⟨T', g', L, k, n, h1, h2, h3⟩ := h
  exact ⟨T', g', L, k, n, h1, h2, fun t k => st t (h3 t k)⟩
section Own2
variable {p : Program} {l : Launch} {e : Env} {R : Room} {s : State} {m : MethodId} {args : Array Value} {below : List Frame} {meth : Method} {c : Code} {T : State} {locs : List Loc} {cells slots : Nat}
theorem own_retA (X : Stand p l e R s m args below meth c T locs cells slots) (hx : p.tables.exec = Jvm.exec) {pc : Nat} {Ls : Array Slot} {a : Addr} {ty : FieldType} (hret : meth.sig.returnType = some ty) (ht : ty.isReference = true) (hd : decode c.code pc = .ok (.areturn, 1)) {fs : List Frame}
    (hl : ∀ (f : JFrame) (acts : List Action), f.method = m → f.locked = none → f.entered = [] → (doReturn e (T.setTop f) acts (some (.ref a))).1 = T.setFrames fs) : Steps p.tables e below (T.setTop (mkF m pc Ls [.ref a])) (T.setFrames fs) := by
  have hm' : T.vm.method? m = some meth := X.method'
  show Steps p.tables e below (T.setTop { method := m, pc := pc, locals := Ls, stack := [.ref a], locked := none }) _
  jvm_step X.here [X.here.top, hx, hd, hm', hret, ht, Value.isRef]
  first | (intro acts; rw [hl _ acts rfl rfl rfl]) | rw [hl _ _ rfl rfl rfl]
  exact Steps.refl _
theorem own_retN (X : Stand p l e R s m args below meth c T locs cells slots) (hx : p.tables.exec = Jvm.exec) {pc : Nat} {Ls : Array Slot} {ty : FieldType} (hret : meth.sig.returnType = some ty) (ht : ty.isReference = true) (hd : decode c.code pc = .ok (.areturn, 1)) {fs : List Frame}
    (hl : ∀ (f : JFrame) (acts : List Action), f.method = m → f.locked = none → f.entered = [] → (doReturn e (T.setTop f) acts (some .null)).1 = T.setFrames fs) : Steps p.tables e below (T.setTop (mkF m pc Ls [.null])) (T.setFrames fs) := by
  have hm' : T.vm.method? m = some meth := X.method'
  show Steps p.tables e below (T.setTop { method := m, pc := pc, locals := Ls, stack := [.null], locked := none }) _
  jvm_step X.here [X.here.top, hx, hd, hm', hret, ht, Value.isRef]
  first | (intro acts; rw [hl _ acts rfl rfl rfl]) | rw [hl _ _ rfl rfl rfl]
  exact Steps.refl _
end Own2

/-! the Encoder as the walk knows it -/
def own_Enc (Z : State) (h : Heap) (n0 : Nat) (a bB bC : Addr) (kB kC : ClassId) (n len : Int32) (vs : List Value) : Prop :=
  Exa Z h a "com/example/arbordb/arbordb/tree/Encoder" ∧ Fld Z h a "com/example/arbordb/arbordb/tree/Encoder" "bytes" "[B" (.ref bB) ∧ Fld Z h a "com/example/arbordb/arbordb/tree/Encoder" "chars" "[C" (.ref bC) ∧ Fld Z h a "com/example/arbordb/arbordb/tree/Encoder" "length" "I" (.int len) ∧
    Arv Z h bB kB .byte n vs (.int 0) ∧ Arv Z h bC kC .char (16 : Int32) [] (.int 0) ∧ n0 ≤ a ∧ n0 ≤ bB ∧ n0 ≤ bC ∧ a ≠ bB ∧ a ≠ bC ∧ bC ≠ bB
theorem own_getset (l : List Value) (i : Nat) (x : Value) (h : i < l.length) : (l.set i x).getD i (.int 0) = x := by
  simp [List.getD_eq_getElem?_getD, h]
theorem own_sel {Z s : State} {a0 args : Array Value} (hZ : Z.Warmed39 s.vm) (hw : ∀ d ∈ tables_1, d.before a0 Z = true) : (Jvm.Cond.selects "com/example/arbordb/arbordb/tree/Encoder" (⟨"com/example/arbordb/arbordb/tree/Encoder", "room", "(I)V"⟩ : MethodName) (⟨"com/example/arbordb/arbordb/tree/Encoder", "room", "(I)V"⟩ : MethodName)).before args s = true := by
  obtain ⟨c, k, hc, hk, -, hniab, -, -⟩ := Cond.instantiable_spec (mv (args := args) hZ (hw _ (List.mem_of_getElem? (i := 1) rfl)))
  exact selects_self_of_private hc hk (Bool.or_eq_false_iff.mp hniab).1 (Cond.privateMethod_at (mvP hZ (hw _ (List.mem_of_getElem? (i := 27) rfl)) (args := #[]))) (mvT hZ (hw _ (List.mem_of_getElem? (i := 26) rfl))) (by decide)

def Q1 (Z : State) (a1 : Addr) (n0 : Nat) (v : Option Value) (h : Heap) (L : List Loc) : Prop := v = none ∧ Fr n0 L ∧ ∃ (bB bC : Addr) (kB kC : ClassId), own_Enc Z h n0 a1 bB bC kB kC 16 0 []
theorem d1_0 : decode prog_56_method_1_code 0 = .ok (.aload_n 0, 1) := by decide +kernel
theorem d1_1 : decode prog_56_method_1_code 1 = .ok (.invokespecial 3, 3) := by decide +kernel
theorem d1_4 : decode prog_56_method_1_code 4 = .ok (.aload_n 0, 1) := by decide +kernel
theorem d1_5 : decode prog_56_method_1_code 5 = .ok (.bipush 16, 2) := by decide +kernel
theorem d1_7 : decode prog_56_method_1_code 7 = .ok (.newarray .byte, 2) := by decide +kernel
theorem d1_9 : decode prog_56_method_1_code 9 = .ok (.putfield 11, 3) := by decide +kernel
theorem d1_12 : decode prog_56_method_1_code 12 = .ok (.aload_n 0, 1) := by decide +kernel
theorem d1_13 : decode prog_56_method_1_code 13 = .ok (.bipush 16, 2) := by decide +kernel
theorem d1_15 : decode prog_56_method_1_code 15 = .ok (.newarray .char, 2) := by decide +kernel
theorem d1_17 : decode prog_56_method_1_code 17 = .ok (.putfield 15, 3) := by decide +kernel
theorem d1_20 : decode prog_56_method_1_code 20 = .ok (.return_, 1) := by decide +kernel
theorem ef_rm1 (m : MethodId) (a1 : Addr) : entryFrame m #[(.ref a1)] 1 = mkF m 0 #[.val (.ref a1)] [] := by first | (simp [entryFrame, mkF, argsToLocals, Value.category]; done) | rfl
set_option maxRecDepth 65536 in
set_option maxHeartbeats 4000000 in
theorem rm1 (l : Launch) (Z : State) (a0 : Array Value) (hw : ∀ d ∈ tables_1, d.before a0 Z = true) (ws : List Jvm.Cond) (a1 : Addr) (h0 : Heap) (n0 : Nat) (Z0 : n0 ≤ h0.size) (Ex : Exa Z h0 a1 "com/example/arbordb/arbordb/tree/Encoder") (Fb : Fld Z h0 a1 "com/example/arbordb/arbordb/tree/Encoder" "bytes" "[B" .null) (Fc : Fld Z h0 a1 "com/example/arbordb/arbordb/tree/Encoder" "chars" "[C" .null) (Fl : Fld Z h0 a1 "com/example/arbordb/arbordb/tree/Encoder" "length" "I" (.int (0 : Int32))) (ga : n0 ≤ a1) :
    MetFree l (⟨"com/example/arbordb/arbordb/tree/Encoder", "<init>", "()V"⟩ : MethodName) (head1 (Jvm.Cond.code (⟨"com/example/arbordb/arbordb/tree/Encoder", "<init>", "()V"⟩ : MethodName) prog_56_method_1_code 1 none :: ws) ({ frames := 1, cells := 2, slots := 32, locals := 12 } : Room)) (fun a U => a = #[(.ref a1)] ∧ Z.Warmed39 U.vm ∧ U.heap = h0) (fun _ _ _ _ _ => True) (fun _ U o U' => ∃ v L, o = .returned v ∧ Q1 Z a1 n0 v U'.heap L ∧ FrameEnd U o U' L ({ frames := 1, cells := 2, slots := 32, locals := 12 } : Room).cells ({ frames := 1, cells := 2, slots := 32, locals := 12 } : Room).slots) := by
  refine MetFree.of_bodySF (plainFor_of_name (by first | (simp [plainName, overriddenIn]; done) | decide +kernel)) hisR ?_
  intro p e s m args below meth c s₁ Bd hml0 hP hK
  obtain ⟨rfl, hZ, hh⟩ := hP
  have hx := Bd.exec
  have hby := Bd.bytes
  have hml : c.maxLocals = 1 := hml0
  have hown : s.vm.findClass "com/example/arbordb/arbordb/tree/Encoder" = some m.cls := findClass_of_methodNamed Bd.named
  have hnm := (name_of_methodNamed Bd.named Bd.method).1
  have X0 : Stand p l e ({ frames := 1, cells := 2, slots := 32, locals := 12 } : Room) s m #[(.ref a1)] below meth c s₁ [] 0 0 := Stand.of_body Bd
  have e0 : s₁.heap = h0 := by rw [← hh, Bd.state]; rfl
  have N0 := Fr.nil n0
  have main : own_To p l e ({ frames := 1, cells := 2, slots := 32, locals := 12 } : Room) s m #[(.ref a1)] below meth c s₁ (mkF m 0 #[.val (.ref a1)] []) (fun T' g' L kq zq => ∃ pcr Ls, g' = mkF m pcr Ls [] ∧ decode c.code pcr = .ok (.return_, 1) ∧ kq = 2 ∧ zq = 32 ∧ Q1 Z a1 n0 none T'.heap L) := by
    refine own_go (T1 := s₁) (g1 := (mkF m 1 #[.val (.ref a1)] [(.ref a1)])) (fun _ k => XS.aloadN X0.here hx rfl (hb hby d1_0) rfl rfl k) ?_
    obtain ⟨T1, X1, e1, st1⟩ := initO X0 hx hZ hown (hw _ (List.mem_of_getElem? (i := 6) rfl)) (hw _ (List.mem_of_getElem? (i := 7) rfl)) (hw _ (List.mem_of_getElem? (i := 8) rfl)) e0 (g := (mkF m 1 #[.val (.ref a1)] [(.ref a1)])) rfl (by rw [hml]; rfl) rfl (hb hby d1_1) (by decide) (W := 0) (by show 2 * 0 + _ ≤ _; exact Nat.le_of_eq rfl) (by decide)
    refine own_go (T1 := T1) (g1 := (mkF m 4 #[.val (.ref a1)] [])) (fun t k => st1 t k) ?_
    refine own_go (T1 := T1) (g1 := (mkF m 5 #[.val (.ref a1)] [(.ref a1)])) (fun _ k => XS.aloadN X1.here hx rfl (hb hby d1_4) rfl rfl k) ?_
    refine own_go (T1 := T1) (g1 := (mkF m 7 #[.val (.ref a1)] [(.int (16 : Int32)), (.ref a1)])) (fun _ k => XS.bipush X1.here hx rfl (hb hby d1_5) k) ?_
    obtain ⟨T2, h2, k2, X2, e2, E2, A2, st2⟩ := newP X1 hx hZ (hw _ (List.mem_of_getElem? (i := 9) rfl)) e1 (g := (mkF m 7 #[.val (.ref a1)] [(.int (16 : Int32)), (.ref a1)])) rfl (hb hby d1_7) rfl (by decide) (cap := 16) (by decide) (by decide) (by decide) (by decide)
    obtain ⟨b2, g2⟩ : ∃ z, z = h0.size := ⟨_, rfl⟩
    rw [← g2] at A2 st2
    have ne_a1_b2 : a1 ≠ b2 := Nat.ne_of_lt (Nat.lt_of_lt_of_le Ex.lt (Nat.le_of_eq g2.symm))
    have ge_b2 : n0 ≤ b2 := Nat.le_trans Z0 (Nat.le_of_eq g2.symm)
    have Ex_2 : Exa Z h2 a1 "com/example/arbordb/arbordb/tree/Encoder" := Ex.ext E2
    have Fb_2 : Fld Z h2 a1 "com/example/arbordb/arbordb/tree/Encoder" "bytes" "[B" .null := Fb.ext E2
    have Fc_2 : Fld Z h2 a1 "com/example/arbordb/arbordb/tree/Encoder" "chars" "[C" .null := Fc.ext E2
    have Fl_2 : Fld Z h2 a1 "com/example/arbordb/arbordb/tree/Encoder" "length" "I" (.int (0 : Int32)) := Fl.ext E2
    have Zs2 : n0 ≤ h2.size := Nat.le_trans Z0 E2.1
    have Vb2_2 : Arv Z h2 b2 k2 .byte (16 : Int32) [] (.int 0) := Arv.new A2 (by decide)
    refine own_go (T1 := T2) (g1 := (mkF m 9 #[.val (.ref a1)] [(.ref b2), (.ref a1)])) (fun t k => st2 t k) ?_
    obtain ⟨T3, h3, X3, e3, W3, st3⟩ := putF X2 hx hZ hown (host := "") (Or.inl (hw _ (List.mem_of_getElem? (i := 10) rfl))) Via.refl e2 Fb_2 Ex_2 (Or.inl (hw _ (List.mem_of_getElem? (i := 11) rfl))) (hw _ (List.mem_of_getElem? (i := 1) rfl)) (ty := (.array .byte)) (by decide) rfl rfl (g := (mkF m 9 #[.val (.ref a1)] [(.ref b2), (.ref a1)])) rfl rfl (hb hby d1_9)
    have Ex_3 : Exa Z h3 a1 "com/example/arbordb/arbordb/tree/Encoder" := Ex_2.wr W3
    have Fc_3 : Fld Z h3 a1 "com/example/arbordb/arbordb/tree/Encoder" "chars" "[C" .null := Fc_2.other W3 (Or.inr (slot_ne (Or.inl (hw _ (List.mem_of_getElem? (i := 14) rfl))) (Or.inl (hw _ (List.mem_of_getElem? (i := 11) rfl))) (by decide) (t := (.array .char)) (t' := (.array .byte)) (by decide) (by decide)))
    have Fl_3 : Fld Z h3 a1 "com/example/arbordb/arbordb/tree/Encoder" "length" "I" (.int (0 : Int32)) := Fl_2.other W3 (Or.inr (slot_ne (Or.inl (hw _ (List.mem_of_getElem? (i := 30) rfl))) (Or.inl (hw _ (List.mem_of_getElem? (i := 11) rfl))) (by decide) (t := .int) (t' := (.array .byte)) (by decide) (by decide)))
    have Vb2_3 : Arv Z h3 b2 k2 .byte (16 : Int32) [] (.int 0) := Vb2_2.other W3 (Ne.symm ne_a1_b2)
    have Fb_3 : Fld Z h3 a1 "com/example/arbordb/arbordb/tree/Encoder" "bytes" "[B" (.ref b2) := Fb_2.same W3
    have Zs3 : n0 ≤ h3.size := Nat.le_trans Zs2 (Keep.of_wr W3).1
    have N3 := Fr.snoc X3 N0 ga
    refine own_go (T1 := T3) (g1 := (mkF m 12 #[.val (.ref a1)] [])) (fun t k => st3 t k) ?_
    refine own_go (T1 := T3) (g1 := (mkF m 13 #[.val (.ref a1)] [(.ref a1)])) (fun _ k => XS.aloadN X3.here hx rfl (hb hby d1_12) rfl rfl k) ?_
    refine own_go (T1 := T3) (g1 := (mkF m 15 #[.val (.ref a1)] [(.int (16 : Int32)), (.ref a1)])) (fun _ k => XS.bipush X3.here hx rfl (hb hby d1_13) k) ?_
    obtain ⟨T4, h4, k4, X4, e4, E4, A4, st4⟩ := newP X3 hx hZ (hw _ (List.mem_of_getElem? (i := 12) rfl)) e3 (g := (mkF m 15 #[.val (.ref a1)] [(.int (16 : Int32)), (.ref a1)])) rfl (hb hby d1_15) rfl (by decide) (cap := 16) (by decide) (by decide) (by decide) (by decide)
    obtain ⟨b4, g4⟩ : ∃ z, z = h3.size := ⟨_, rfl⟩
    rw [← g4] at A4 st4
    have ne_a1_b4 : a1 ≠ b4 := Nat.ne_of_lt (Nat.lt_of_lt_of_le Ex_3.lt (Nat.le_of_eq g4.symm))
    have ne_b2_b4 : b2 ≠ b4 := Nat.ne_of_lt (Nat.lt_of_lt_of_le Vb2_3.lt (Nat.le_of_eq g4.symm))
    have ge_b4 : n0 ≤ b4 := Nat.le_trans Zs3 (Nat.le_of_eq g4.symm)
    have Ex_4 : Exa Z h4 a1 "com/example/arbordb/arbordb/tree/Encoder" := Ex_3.ext E4
    have Fc_4 : Fld Z h4 a1 "com/example/arbordb/arbordb/tree/Encoder" "chars" "[C" .null := Fc_3.ext E4
    have Fl_4 : Fld Z h4 a1 "com/example/arbordb/arbordb/tree/Encoder" "length" "I" (.int (0 : Int32)) := Fl_3.ext E4
    have Vb2_4 : Arv Z h4 b2 k2 .byte (16 : Int32) [] (.int 0) := Vb2_3.ext E4
    have Fb_4 : Fld Z h4 a1 "com/example/arbordb/arbordb/tree/Encoder" "bytes" "[B" (.ref b2) := Fb_3.ext E4
    have Zs4 : n0 ≤ h4.size := Nat.le_trans Zs3 E4.1
    have Vb4_4 : Arv Z h4 b4 k4 .char (16 : Int32) [] (.int 0) := Arv.new A4 (by decide)
    refine own_go (T1 := T4) (g1 := (mkF m 17 #[.val (.ref a1)] [(.ref b4), (.ref a1)])) (fun t k => st4 t k) ?_
    obtain ⟨T5, h5, X5, e5, W5, st5⟩ := putF X4 hx hZ hown (host := "") (Or.inl (hw _ (List.mem_of_getElem? (i := 13) rfl))) Via.refl e4 Fc_4 Ex_4 (Or.inl (hw _ (List.mem_of_getElem? (i := 14) rfl))) (hw _ (List.mem_of_getElem? (i := 1) rfl)) (ty := (.array .char)) (by decide) rfl rfl (g := (mkF m 17 #[.val (.ref a1)] [(.ref b4), (.ref a1)])) rfl rfl (hb hby d1_17)
    have Ex_5 : Exa Z h5 a1 "com/example/arbordb/arbordb/tree/Encoder" := Ex_4.wr W5
    have Fl_5 : Fld Z h5 a1 "com/example/arbordb/arbordb/tree/Encoder" "length" "I" (.int (0 : Int32)) := Fl_4.other W5 (Or.inr (slot_ne (Or.inl (hw _ (List.mem_of_getElem? (i := 30) rfl))) (Or.inl (hw _ (List.mem_of_getElem? (i := 14) rfl))) (by decide) (t := .int) (t' := (.array .char)) (by decide) (by decide)))
    have Vb2_5 : Arv Z h5 b2 k2 .byte (16 : Int32) [] (.int 0) := Vb2_4.other W5 (Ne.symm ne_a1_b2)
    have Fb_5 : Fld Z h5 a1 "com/example/arbordb/arbordb/tree/Encoder" "bytes" "[B" (.ref b2) := Fb_4.other W5 (Or.inr (slot_ne (Or.inl (hw _ (List.mem_of_getElem? (i := 11) rfl))) (Or.inl (hw _ (List.mem_of_getElem? (i := 14) rfl))) (by decide) (t := (.array .byte)) (t' := (.array .char)) (by decide) (by decide)))
    have Vb4_5 : Arv Z h5 b4 k4 .char (16 : Int32) [] (.int 0) := Vb4_4.other W5 (Ne.symm ne_a1_b4)
    have Fc_5 : Fld Z h5 a1 "com/example/arbordb/arbordb/tree/Encoder" "chars" "[C" (.ref b4) := Fc_4.same W5
    have Zs5 : n0 ≤ h5.size := Nat.le_trans Zs4 (Keep.of_wr W5).1
    have N5 := Fr.snoc X5 N3 ga
    refine own_go (T1 := T5) (g1 := (mkF m 20 #[.val (.ref a1)] [])) (fun t k => st5 t k) ?_
    exact ⟨T5, _, _, _, _, X5, ⟨20, _, rfl, (hb hby d1_20), rfl, rfl, (by rw [e5]; exact ⟨rfl, N5, b2, b4, k2, k4, ⟨Ex_5, Fb_5, Fc_5, Fl_5, Vb2_5, Vb4_5, ga, ge_b2, ge_b4, ne_a1_b2, ne_a1_b4, (Ne.symm ne_b2_b4)⟩⟩)⟩, fun _ k => k⟩
  obtain ⟨T', g', L', k', n', X', ⟨pcr, Ls, rfl, hd, rfl, rfl, hQ⟩, st⟩ := main
  obtain ⟨fs, hr, hrun, hended, hW, hsame⟩ := X'.leave (v := none) (fun _ => rfl)
  refine ⟨_, _, castTop (ef_rm1 m a1) (st _ ?_), hrun, hended, _, _, rfl, hQ, ⟨_, rfl⟩, hW, hsame.mono (by decide) (by decide)⟩
  exact X'.returnOut hx Bd.returns hd hr
def Q6 (bB : Addr) (h0 : Heap) (n0 : Nat) (v : Option Value) (h : Heap) (L : List Loc) : Prop := v = some (.ref bB) ∧ Fr n0 L ∧ h = h0
theorem d6_0 : decode prog_56_method_10_code 0 = .ok (.aload_n 0, 1) := by decide +kernel
theorem d6_1 : decode prog_56_method_10_code 1 = .ok (.getfield 11, 3) := by decide +kernel
theorem d6_4 : decode prog_56_method_10_code 4 = .ok (.areturn, 1) := by decide +kernel
theorem ef_rm6 (m : MethodId) (a1 : Addr) : entryFrame m #[(.ref a1)] 1 = mkF m 0 #[.val (.ref a1)] [] := by first | (simp [entryFrame, mkF, argsToLocals, Value.category]; done) | rfl
set_option maxRecDepth 65536 in
set_option maxHeartbeats 4000000 in
theorem rm6 (l : Launch) (Z : State) (a0 : Array Value) (hw : ∀ d ∈ tables_1, d.before a0 Z = true) (ws : List Jvm.Cond) (a1 bB bC : Addr) (kB kC : ClassId) (n len : Int32) (vs : List Value) (h0 : Heap) (n0 : Nat) (Z0 : n0 ≤ h0.size) (HE : own_Enc Z h0 n0 a1 bB bC kB kC n len vs) :
    MetFree l (⟨"com/example/arbordb/arbordb/tree/Encoder", "array", "()[B"⟩ : MethodName) (head1 (Jvm.Cond.code (⟨"com/example/arbordb/arbordb/tree/Encoder", "array", "()[B"⟩ : MethodName) prog_56_method_10_code 1 (some (.array .byte)) :: ws) ({ frames := 0, cells := 0, slots := 0, locals := 0 } : Room)) (fun a U => a = #[(.ref a1)] ∧ Z.Warmed39 U.vm ∧ U.heap = h0) (fun _ _ _ _ _ => True) (fun _ U o U' => ∃ v L, o = .returned v ∧ Q6 bB h0 n0 v U'.heap L ∧ FrameEnd U o U' L ({ frames := 0, cells := 0, slots := 0, locals := 0 } : Room).cells ({ frames := 0, cells := 0, slots := 0, locals := 0 } : Room).slots) := by
  refine MetFree.of_bodySF (plainFor_of_name (by first | (simp [plainName, overriddenIn]; done) | decide +kernel)) hisR ?_
  intro p e s m args below meth c s₁ Bd hml0 hP hK
  obtain ⟨rfl, hZ, hh⟩ := hP
  have hx := Bd.exec
  have hby := Bd.bytes
  have hml : c.maxLocals = 1 := hml0
  have hown : s.vm.findClass "com/example/arbordb/arbordb/tree/Encoder" = some m.cls := findClass_of_methodNamed Bd.named
  have hnm := (name_of_methodNamed Bd.named Bd.method).1
  have X0 : Stand p l e ({ frames := 0, cells := 0, slots := 0, locals := 0 } : Room) s m #[(.ref a1)] below meth c s₁ [] 0 0 := Stand.of_body Bd
  have e0 : s₁.heap = h0 := by rw [← hh, Bd.state]; rfl
  have N0 := Fr.nil n0
  have main : own_To p l e ({ frames := 0, cells := 0, slots := 0, locals := 0 } : Room) s m #[(.ref a1)] below meth c s₁ (mkF m 0 #[.val (.ref a1)] []) (fun T' g' L kq zq => ∃ pcr Ls z, g' = mkF m pcr Ls [.ref z] ∧ decode c.code pcr = .ok (.areturn, 1) ∧ kq = 0 ∧ zq = 0 ∧ Q6 bB h0 n0 (some (.ref z)) T'.heap L) := by
    obtain ⟨Ex, Fb, Fc, Fl, Vb, Vc, ga, gb, gc, n1, n2, n3⟩ := HE
    refine own_go (T1 := s₁) (g1 := (mkF m 1 #[.val (.ref a1)] [(.ref a1)])) (fun _ k => XS.aloadN X0.here hx rfl (hb hby d6_0) rfl rfl k) ?_
    obtain ⟨T1, X1, e1, st1⟩ := getF X0 hx hZ hown (host := "") (Or.inl (hw _ (List.mem_of_getElem? (i := 10) rfl))) Via.refl e0 Fb (g := (mkF m 1 #[.val (.ref a1)] [(.ref a1)])) rfl rfl (hb hby d6_1)
    refine own_go (T1 := T1) (g1 := (mkF m 4 #[.val (.ref a1)] [(.ref bB)])) (fun t k => st1 t k) ?_
    exact ⟨T1, _, _, _, _, X1, ⟨4, _, bB, rfl, (hb hby d6_4), rfl, rfl, (by rw [e1]; exact ⟨rfl, N0, rfl⟩)⟩, fun _ k => k⟩
  obtain ⟨T', g', L', k', n', X', ⟨pcr, Ls, z, rfl, hd, rfl, rfl, hQ⟩, st⟩ := main
  obtain ⟨fs, hr, hrun, hended, hW, hsame⟩ := X'.leave (v := (some (.ref z))) (fun h => by rw [Bd.returns] at h; cases h)
  refine ⟨_, _, castTop (ef_rm6 m a1) (st _ ?_), hrun, hended, _, _, rfl, hQ, ⟨_, rfl⟩, hW, hsame.mono (by decide) (by decide)⟩
  exact own_retA X' hx Bd.returns rfl hd hr
def Q8 (len : Int32) (h0 : Heap) (n0 : Nat) (v : Option Value) (h : Heap) (L : List Loc) : Prop := v = some (.int len) ∧ Fr n0 L ∧ h = h0
theorem d8_0 : decode prog_56_method_11_code 0 = .ok (.aload_n 0, 1) := by decide +kernel
theorem d8_1 : decode prog_56_method_11_code 1 = .ok (.getfield 48, 3) := by decide +kernel
theorem d8_4 : decode prog_56_method_11_code 4 = .ok (.ireturn, 1) := by decide +kernel
theorem ef_rm8 (m : MethodId) (a1 : Addr) : entryFrame m #[(.ref a1)] 1 = mkF m 0 #[.val (.ref a1)] [] := by first | (simp [entryFrame, mkF, argsToLocals, Value.category]; done) | rfl
set_option maxRecDepth 65536 in
set_option maxHeartbeats 4000000 in
theorem rm8 (l : Launch) (Z : State) (a0 : Array Value) (hw : ∀ d ∈ tables_1, d.before a0 Z = true) (ws : List Jvm.Cond) (a1 bB bC : Addr) (kB kC : ClassId) (n len : Int32) (vs : List Value) (h0 : Heap) (n0 : Nat) (Z0 : n0 ≤ h0.size) (HE : own_Enc Z h0 n0 a1 bB bC kB kC n len vs) :
    MetFree l (⟨"com/example/arbordb/arbordb/tree/Encoder", "length", "()I"⟩ : MethodName) (head1 (Jvm.Cond.code (⟨"com/example/arbordb/arbordb/tree/Encoder", "length", "()I"⟩ : MethodName) prog_56_method_11_code 1 (some .int) :: ws) ({ frames := 0, cells := 0, slots := 0, locals := 0 } : Room)) (fun a U => a = #[(.ref a1)] ∧ Z.Warmed39 U.vm ∧ U.heap = h0) (fun _ _ _ _ _ => True) (fun _ U o U' => ∃ v L, o = .returned v ∧ Q8 len h0 n0 v U'.heap L ∧ FrameEnd U o U' L ({ frames := 0, cells := 0, slots := 0, locals := 0 } : Room).cells ({ frames := 0, cells := 0, slots := 0, locals := 0 } : Room).slots) := by
  refine MetFree.of_bodySF (plainFor_of_name (by first | (simp [plainName, overriddenIn]; done) | decide +kernel)) hisR ?_
  intro p e s m args below meth c s₁ Bd hml0 hP hK
  obtain ⟨rfl, hZ, hh⟩ := hP
  have hx := Bd.exec
  have hby := Bd.bytes
  have hml : c.maxLocals = 1 := hml0
  have hown : s.vm.findClass "com/example/arbordb/arbordb/tree/Encoder" = some m.cls := findClass_of_methodNamed Bd.named
  have hnm := (name_of_methodNamed Bd.named Bd.method).1
  have X0 : Stand p l e ({ frames := 0, cells := 0, slots := 0, locals := 0 } : Room) s m #[(.ref a1)] below meth c s₁ [] 0 0 := Stand.of_body Bd
  have e0 : s₁.heap = h0 := by rw [← hh, Bd.state]; rfl
  have N0 := Fr.nil n0
  have main : own_To p l e ({ frames := 0, cells := 0, slots := 0, locals := 0 } : Room) s m #[(.ref a1)] below meth c s₁ (mkF m 0 #[.val (.ref a1)] []) (fun T' g' L kq zq => ∃ pcr Ls z, g' = mkF m pcr Ls [.int z] ∧ decode c.code pcr = .ok (.ireturn, 1) ∧ kq = 0 ∧ zq = 0 ∧ Q8 len h0 n0 (some (.int z)) T'.heap L) := by
    obtain ⟨Ex, Fb, Fc, Fl, Vb, Vc, ga, gb, gc, n1, n2, n3⟩ := HE
    refine own_go (T1 := s₁) (g1 := (mkF m 1 #[.val (.ref a1)] [(.ref a1)])) (fun _ k => XS.aloadN X0.here hx rfl (hb hby d8_0) rfl rfl k) ?_
    obtain ⟨T1, X1, e1, st1⟩ := getF X0 hx hZ hown (host := "") (Or.inl (hw _ (List.mem_of_getElem? (i := 29) rfl))) Via.refl e0 Fl (g := (mkF m 1 #[.val (.ref a1)] [(.ref a1)])) rfl rfl (hb hby d8_1)
    refine own_go (T1 := T1) (g1 := (mkF m 4 #[.val (.ref a1)] [(.int len)])) (fun t k => st1 t k) ?_
    exact ⟨T1, _, _, _, _, X1, ⟨4, _, len, rfl, (hb hby d8_4), rfl, rfl, (by rw [e1]; exact ⟨rfl, N0, rfl⟩)⟩, fun _ k => k⟩
  obtain ⟨T', g', L', k', n', X', ⟨pcr, Ls, z, rfl, hd, rfl, rfl, hQ⟩, st⟩ := main
  obtain ⟨fs, hr, hrun, hended, hW, hsame⟩ := X'.leave (v := (some (.int z))) (fun h => by rw [Bd.returns] at h; cases h)
  refine ⟨_, _, castTop (ef_rm8 m a1) (st _ ?_), hrun, hended, _, _, rfl, hQ, ⟨_, rfl⟩, hW, hsame.mono (by decide) (by decide)⟩
  exact retI X' hx Bd.returns hd hr
def Q7 (Z : State) (a1 bB bC : Addr) (kB kC : ClassId) (n : Int32) (vs : List Value) (n0 : Nat) (v : Option Value) (h : Heap) (L : List Loc) : Prop := v = none ∧ Fr n0 L ∧ own_Enc Z h n0 a1 bB bC kB kC n 0 vs
theorem d7_0 : decode prog_56_method_12_code 0 = .ok (.aload_n 0, 1) := by decide +kernel
theorem d7_1 : decode prog_56_method_12_code 1 = .ok (.iconst 0, 1) := by decide +kernel
theorem d7_2 : decode prog_56_method_12_code 2 = .ok (.putfield 48, 3) := by decide +kernel
theorem d7_5 : decode prog_56_method_12_code 5 = .ok (.aload_n 0, 1) := by decide +kernel
theorem d7_6 : decode prog_56_method_12_code 6 = .ok (.getfield 11, 3) := by decide +kernel
theorem d7_9 : decode prog_56_method_12_code 9 = .ok (.arraylength, 1) := by decide +kernel
theorem d7_10 : decode prog_56_method_12_code 10 = .ok (.ldc 101, 2) := by decide +kernel
theorem d7_12 : decode prog_56_method_12_code 12 = .ok (.if_icmp .le 11, 3) := by decide +kernel
theorem d7_23 : decode prog_56_method_12_code 23 = .ok (.aload_n 0, 1) := by decide +kernel
theorem d7_24 : decode prog_56_method_12_code 24 = .ok (.getfield 15, 3) := by decide +kernel
theorem d7_27 : decode prog_56_method_12_code 27 = .ok (.arraylength, 1) := by decide +kernel
theorem d7_28 : decode prog_56_method_12_code 28 = .ok (.ldc 101, 2) := by decide +kernel
theorem d7_30 : decode prog_56_method_12_code 30 = .ok (.if_icmp .le 11, 3) := by decide +kernel
theorem d7_41 : decode prog_56_method_12_code 41 = .ok (.return_, 1) := by decide +kernel
theorem ef_rm7 (m : MethodId) (a1 : Addr) : entryFrame m #[(.ref a1)] 1 = mkF m 0 #[.val (.ref a1)] [] := by first | (simp [entryFrame, mkF, argsToLocals, Value.category]; done) | rfl
set_option maxRecDepth 65536 in
set_option maxHeartbeats 4000000 in
theorem rm7 (l : Launch) (Z : State) (a0 : Array Value) (hw : ∀ d ∈ tables_1, d.before a0 Z = true) (ws : List Jvm.Cond) (a1 bB bC : Addr) (kB kC : ClassId) (n len : Int32) (vs : List Value) (h0 : Heap) (n0 : Nat) (Z0 : n0 ≤ h0.size) (HE : own_Enc Z h0 n0 a1 bB bC kB kC n len vs) (hsm : ¬ ((1048576 : Int32) < n)) :
    MetFree l (⟨"com/example/arbordb/arbordb/tree/Encoder", "clear", "()V"⟩ : MethodName) (head1 (Jvm.Cond.code (⟨"com/example/arbordb/arbordb/tree/Encoder", "clear", "()V"⟩ : MethodName) prog_56_method_12_code 1 none :: ws) ({ frames := 0, cells := 0, slots := 0, locals := 0 } : Room)) (fun a U => a = #[(.ref a1)] ∧ Z.Warmed39 U.vm ∧ U.heap = h0) (fun _ _ _ _ _ => True) (fun _ U o U' => ∃ v L, o = .returned v ∧ Q7 Z a1 bB bC kB kC n vs n0 v U'.heap L ∧ FrameEnd U o U' L ({ frames := 0, cells := 0, slots := 0, locals := 0 } : Room).cells ({ frames := 0, cells := 0, slots := 0, locals := 0 } : Room).slots) := by
  refine MetFree.of_bodySF (plainFor_of_name (by first | (simp [plainName, overriddenIn]; done) | decide +kernel)) hisR ?_
  intro p e s m args below meth c s₁ Bd hml0 hP hK
  obtain ⟨rfl, hZ, hh⟩ := hP
  have hx := Bd.exec
  have hby := Bd.bytes
  have hml : c.maxLocals = 1 := hml0
  have hown : s.vm.findClass "com/example/arbordb/arbordb/tree/Encoder" = some m.cls := findClass_of_methodNamed Bd.named
  have hnm := (name_of_methodNamed Bd.named Bd.method).1
  have X0 : Stand p l e ({ frames := 0, cells := 0, slots := 0, locals := 0 } : Room) s m #[(.ref a1)] below meth c s₁ [] 0 0 := Stand.of_body Bd
  have e0 : s₁.heap = h0 := by rw [← hh, Bd.state]; rfl
  have N0 := Fr.nil n0
  have main : own_To p l e ({ frames := 0, cells := 0, slots := 0, locals := 0 } : Room) s m #[(.ref a1)] below meth c s₁ (mkF m 0 #[.val (.ref a1)] []) (fun T' g' L kq zq => ∃ pcr Ls, g' = mkF m pcr Ls [] ∧ decode c.code pcr = .ok (.return_, 1) ∧ kq = 0 ∧ zq = 0 ∧ Q7 Z a1 bB bC kB kC n vs n0 none T'.heap L) := by
    obtain ⟨Ex, Fb, Fc, Fl, Vb, Vc, ga, gb, gc, n1, n2, n3⟩ := HE
    refine own_go (T1 := s₁) (g1 := (mkF m 1 #[.val (.ref a1)] [(.ref a1)])) (fun _ k => XS.aloadN X0.here hx rfl (hb hby d7_0) rfl rfl k) ?_
    refine own_go (T1 := s₁) (g1 := (mkF m 2 #[.val (.ref a1)] [(.int (0 : Int32)), (.ref a1)])) (fun _ k => XS.iconst X0.here hx rfl (hb hby d7_1) k) ?_
    obtain ⟨T1, h1, X1, e1, W1, st1⟩ := putF X0 hx hZ hown (host := "") (Or.inl (hw _ (List.mem_of_getElem? (i := 29) rfl))) Via.refl e0 Fl Ex (Or.inl (hw _ (List.mem_of_getElem? (i := 30) rfl))) (hw _ (List.mem_of_getElem? (i := 1) rfl)) (ty := .int) (by decide) rfl rfl (g := (mkF m 2 #[.val (.ref a1)] [(.int (0 : Int32)), (.ref a1)])) rfl rfl (hb hby d7_2)
    have Ex_1 : Exa Z h1 a1 "com/example/arbordb/arbordb/tree/Encoder" := Ex.wr W1
    have Fb_1 : Fld Z h1 a1 "com/example/arbordb/arbordb/tree/Encoder" "bytes" "[B" (.ref bB) := Fb.other W1 (Or.inr (slot_ne (Or.inl (hw _ (List.mem_of_getElem? (i := 11) rfl))) (Or.inl (hw _ (List.mem_of_getElem? (i := 30) rfl))) (by decide) (t := (.array .byte)) (t' := .int) (by decide) (by decide)))
    have Fc_1 : Fld Z h1 a1 "com/example/arbordb/arbordb/tree/Encoder" "chars" "[C" (.ref bC) := Fc.other W1 (Or.inr (slot_ne (Or.inl (hw _ (List.mem_of_getElem? (i := 14) rfl))) (Or.inl (hw _ (List.mem_of_getElem? (i := 30) rfl))) (by decide) (t := (.array .char)) (t' := .int) (by decide) (by decide)))
    have Vb_1 : Arv Z h1 bB kB .byte n vs (.int 0) := Vb.other W1 (Ne.symm n1)
    have Vc_1 : Arv Z h1 bC kC .char (16 : Int32) [] (.int 0) := Vc.other W1 (Ne.symm n2)
    have Fl_1 : Fld Z h1 a1 "com/example/arbordb/arbordb/tree/Encoder" "length" "I" (.int (0 : Int32)) := Fl.same W1
    have Zs1 : n0 ≤ h1.size := Nat.le_trans Z0 (Keep.of_wr W1).1
    have N1 := Fr.snoc X1 N0 ga
    refine own_go (T1 := T1) (g1 := (mkF m 5 #[.val (.ref a1)] [])) (fun t k => st1 t k) ?_
    refine own_go (T1 := T1) (g1 := (mkF m 6 #[.val (.ref a1)] [(.ref a1)])) (fun _ k => XS.aloadN X1.here hx rfl (hb hby d7_5) rfl rfl k) ?_
    obtain ⟨T2, X2, e2, st2⟩ := getF X1 hx hZ hown (host := "") (Or.inl (hw _ (List.mem_of_getElem? (i := 10) rfl))) Via.refl e1 Fb_1 (g := (mkF m 6 #[.val (.ref a1)] [(.ref a1)])) rfl rfl (hb hby d7_6)
    refine own_go (T1 := T2) (g1 := (mkF m 9 #[.val (.ref a1)] [(.ref bB)])) (fun t k => st2 t k) ?_
    obtain ⟨cl3, Ar3, -, S3, N3, -, -⟩ := id Vb_1
    refine own_go (T1 := T2) (g1 := (mkF m 10 #[.val (.ref a1)] [(.int n)])) (fun _ k => X2.arraylength hx (by rw [e2]; exact Ar3.1) (State.isArrayOf_alike hZ.alike Ar3.2.1) (g := (mkF m 9 #[.val (.ref a1)] [(.ref bB)])) rfl rfl (hb hby d7_9) _ (by rw [len_of S3 N3]; exact k)) ?_
    refine own_go (T1 := T2) (g1 := (mkF m 12 #[.val (.ref a1)] [(.int (1048576 : Int32)), (.int n)])) (fun _ k => X2.ldcInt hx hown (mvT hZ (hw _ (List.mem_of_getElem? (i := 41) rfl))) (g := (mkF m 10 #[.val (.ref a1)] [(.int n)])) rfl (hb hby d7_10) _ k) ?_
    refine own_go (T1 := T2) (g1 := (mkF m 23 #[.val (.ref a1)] [])) (fun _ k => XS.icmpYes X2.here hx rfl (pc0 := 12) (pc' := 23) rfl (hb hby d7_12) rfl (flt (hsm : ¬ ((1048576 : Int32) < n))).2.2.2 (by decide) (by decide) k) ?_
    refine own_go (T1 := T2) (g1 := (mkF m 24 #[.val (.ref a1)] [(.ref a1)])) (fun _ k => XS.aloadN X2.here hx rfl (hb hby d7_23) rfl rfl k) ?_
    obtain ⟨T4, X4, e4, st4⟩ := getF X2 hx hZ hown (host := "") (Or.inl (hw _ (List.mem_of_getElem? (i := 13) rfl))) Via.refl e2 Fc_1 (g := (mkF m 24 #[.val (.ref a1)] [(.ref a1)])) rfl rfl (hb hby d7_24)
    refine own_go (T1 := T4) (g1 := (mkF m 27 #[.val (.ref a1)] [(.ref bC)])) (fun t k => st4 t k) ?_
    obtain ⟨cl5, Ar5, -, S5, N5, -, -⟩ := id Vc_1
    refine own_go (T1 := T4) (g1 := (mkF m 28 #[.val (.ref a1)] [(.int (16 : Int32))])) (fun _ k => X4.arraylength hx (by rw [e4]; exact Ar5.1) (State.isArrayOf_alike hZ.alike Ar5.2.1) (g := (mkF m 27 #[.val (.ref a1)] [(.ref bC)])) rfl rfl (hb hby d7_27) _ (by rw [len_of S5 N5]; exact k)) ?_
    refine own_go (T1 := T4) (g1 := (mkF m 30 #[.val (.ref a1)] [(.int (1048576 : Int32)), (.int (16 : Int32))])) (fun _ k => X4.ldcInt hx hown (mvT hZ (hw _ (List.mem_of_getElem? (i := 41) rfl))) (g := (mkF m 28 #[.val (.ref a1)] [(.int (16 : Int32))])) rfl (hb hby d7_28) _ k) ?_
    refine own_go (T1 := T4) (g1 := (mkF m 41 #[.val (.ref a1)] [])) (fun _ k => XS.icmpYes X4.here hx rfl (pc0 := 30) (pc' := 41) rfl (hb hby d7_30) rfl (flt ((by decide) : ¬ ((1048576 : Int32) < (16 : Int32)))).2.2.2 (by decide) (by decide) k) ?_
    exact ⟨T4, _, _, _, _, X4, ⟨41, _, rfl, (hb hby d7_41), rfl, rfl, (by rw [e4]; exact ⟨rfl, N1, ⟨Ex_1, Fb_1, Fc_1, Fl_1, Vb_1, Vc_1, ga, gb, gc, n1, n2, n3⟩⟩)⟩, fun _ k => k⟩
  obtain ⟨T', g', L', k', n', X', ⟨pcr, Ls, rfl, hd, rfl, rfl, hQ⟩, st⟩ := main
  obtain ⟨fs, hr, hrun, hended, hW, hsame⟩ := X'.leave (v := none) (fun _ => rfl)
  refine ⟨_, _, castTop (ef_rm7 m a1) (st _ ?_), hrun, hended, _, _, rfl, hQ, ⟨_, rfl⟩, hW, hsame.mono (by decide) (by decide)⟩
  exact X'.returnOut hx Bd.returns hd hr
def Q9 (h0 : Heap) (n0 : Nat) (v : Option Value) (h : Heap) (L : List Loc) : Prop := v = some (.long (32 : Int64)) ∧ Fr n0 L ∧ h = h0
theorem d9_0 : decode jdk_29_method_66_code 0 = .ok (.lload_n 0, 1) := by decide +kernel
theorem d9_1 : decode jdk_29_method_66_code 1 = .ok (.lload_n 2, 1) := by decide +kernel
theorem d9_2 : decode jdk_29_method_66_code 2 = .ok (.lcmp, 1) := by decide +kernel
theorem d9_3 : decode jdk_29_method_66_code 3 = .ok (.ifCond .lt 7, 3) := by decide +kernel
theorem d9_6 : decode jdk_29_method_66_code 6 = .ok (.lload_n 0, 1) := by decide +kernel
theorem d9_7 : decode jdk_29_method_66_code 7 = .ok (.goto 4, 3) := by decide +kernel
theorem d9_11 : decode jdk_29_method_66_code 11 = .ok (.lreturn, 1) := by decide +kernel
theorem ef_rm9 (m : MethodId)  : entryFrame m #[(.long (32 : Int64)), (.long (17 : Int64))] 4 = mkF m 0 #[.val (.long (32 : Int64)), .second, .val (.long (17 : Int64)), .second] [] := by first | (simp [entryFrame, mkF, argsToLocals, Value.category]; done) | rfl
set_option maxRecDepth 65536 in
set_option maxHeartbeats 4000000 in
theorem rm9 (l : Launch) (Z : State) (a0 : Array Value) (hw : ∀ d ∈ tables_1, d.before a0 Z = true) (ws : List Jvm.Cond)  (h0 : Heap) (n0 : Nat) (Z0 : n0 ≤ h0.size)  :
    MetFree l (⟨"java/lang/Math", "max", "(JJ)J"⟩ : MethodName) (head1 (Jvm.Cond.code (⟨"java/lang/Math", "max", "(JJ)J"⟩ : MethodName) jdk_29_method_66_code 4 (some .long) :: ws) ({ frames := 0, cells := 0, slots := 0, locals := 0 } : Room)) (fun a U => a = #[(.long (32 : Int64)), (.long (17 : Int64))] ∧ Z.Warmed39 U.vm ∧ U.heap = h0) (fun _ _ _ _ _ => True) (fun _ U o U' => ∃ v L, o = .returned v ∧ Q9 h0 n0 v U'.heap L ∧ FrameEnd U o U' L ({ frames := 0, cells := 0, slots := 0, locals := 0 } : Room).cells ({ frames := 0, cells := 0, slots := 0, locals := 0 } : Room).slots) := by
  refine MetFree.of_bodySF (Jvm.Free.JP.mathPlain rfl (by decide +kernel)) hisR ?_
  intro p e s m args below meth c s₁ Bd hml0 hP hK
  obtain ⟨rfl, hZ, hh⟩ := hP
  have hx := Bd.exec
  have hby := Bd.bytes
  have hml : c.maxLocals = 4 := hml0
  have hown : s.vm.findClass "java/lang/Math" = some m.cls := findClass_of_methodNamed Bd.named
  have hnm := (name_of_methodNamed Bd.named Bd.method).1
  have X0 : Stand p l e ({ frames := 0, cells := 0, slots := 0, locals := 0 } : Room) s m #[(.long (32 : Int64)), (.long (17 : Int64))] below meth c s₁ [] 0 0 := Stand.of_body Bd
  have e0 : s₁.heap = h0 := by rw [← hh, Bd.state]; rfl
  have N0 := Fr.nil n0
  have main : own_To p l e ({ frames := 0, cells := 0, slots := 0, locals := 0 } : Room) s m #[(.long (32 : Int64)), (.long (17 : Int64))] below meth c s₁ (mkF m 0 #[.val (.long (32 : Int64)), .second, .val (.long (17 : Int64)), .second] []) (fun T' g' L kq zq => ∃ pcr Ls z, g' = mkF m pcr Ls [.long z] ∧ decode c.code pcr = .ok (.lreturn, 1) ∧ kq = 0 ∧ zq = 0 ∧ Q9 h0 n0 (some (.long z)) T'.heap L) := by
    refine own_go (T1 := s₁) (g1 := (mkF m 1 #[.val (.long (32 : Int64)), .second, .val (.long (17 : Int64)), .second] [(.long (32 : Int64))])) (fun _ k => XS.lloadN X0.here hx rfl (hb hby d9_0) rfl k) ?_
    refine own_go (T1 := s₁) (g1 := (mkF m 2 #[.val (.long (32 : Int64)), .second, .val (.long (17 : Int64)), .second] [(.long (17 : Int64)), (.long (32 : Int64))])) (fun _ k => XS.lloadN X0.here hx rfl (hb hby d9_1) rfl k) ?_
    refine own_go (T1 := s₁) (g1 := (mkF m 3 #[.val (.long (32 : Int64)), .second, .val (.long (17 : Int64)), .second] [(.int (lcmpW (32 : Int64) (17 : Int64)))])) (fun _ k => XS.lcmp X0.here hx rfl (hb hby d9_2) rfl k) ?_
    refine own_go (T1 := s₁) (g1 := (mkF m 6 #[.val (.long (32 : Int64)), .second, .val (.long (17 : Int64)), .second] [])) (fun _ k => XS.ifNo X0.here hx rfl (hb hby d9_3) rfl ((if0 _ _).trans (flt ((by decide) : ¬ ((lcmpW (32 : Int64) (17 : Int64)) < (0 : Int32)))).1) k) ?_
    refine own_go (T1 := s₁) (g1 := (mkF m 7 #[.val (.long (32 : Int64)), .second, .val (.long (17 : Int64)), .second] [(.long (32 : Int64))])) (fun _ k => XS.lloadN X0.here hx rfl (hb hby d9_6) rfl k) ?_
    refine own_go (T1 := s₁) (g1 := (mkF m 11 #[.val (.long (32 : Int64)), .second, .val (.long (17 : Int64)), .second] [(.long (32 : Int64))])) (fun _ k => XS.goto X0.here hx rfl (pc0 := 7) (pc' := 11) rfl (hb hby d9_7) (by decide) (by decide) k) ?_
    exact ⟨s₁, _, _, _, _, X0, ⟨11, _, (32 : Int64), rfl, (hb hby d9_11), rfl, rfl, (by rw [e0]; exact ⟨rfl, N0, rfl⟩)⟩, fun _ k => k⟩
  obtain ⟨T', g', L', k', n', X', ⟨pcr, Ls, z, rfl, hd, rfl, rfl, hQ⟩, st⟩ := main
  obtain ⟨fs, hr, hrun, hended, hW, hsame⟩ := X'.leave (v := (some (.long z))) (fun h => by rw [Bd.returns] at h; cases h)
  refine ⟨_, _, castTop (ef_rm9 m ) (st _ ?_), hrun, hended, _, _, rfl, hQ, ⟨_, rfl⟩, hW, hsame.mono (by decide) (by decide)⟩
  exact X'.lreturnOut hx Bd.returns hd hr
def Q10 (h0 : Heap) (n0 : Nat) (v : Option Value) (h : Heap) (L : List Loc) : Prop := v = some (.long (32 : Int64)) ∧ Fr n0 L ∧ h = h0
theorem d10_0 : decode jdk_29_method_70_code 0 = .ok (.lload_n 0, 1) := by decide +kernel
theorem d10_1 : decode jdk_29_method_70_code 1 = .ok (.lload_n 2, 1) := by decide +kernel
theorem d10_2 : decode jdk_29_method_70_code 2 = .ok (.lcmp, 1) := by decide +kernel
theorem d10_3 : decode jdk_29_method_70_code 3 = .ok (.ifCond .gt 7, 3) := by decide +kernel
theorem d10_10 : decode jdk_29_method_70_code 10 = .ok (.lload_n 2, 1) := by decide +kernel
theorem d10_11 : decode jdk_29_method_70_code 11 = .ok (.lreturn, 1) := by decide +kernel
theorem ef_rm10 (m : MethodId)  : entryFrame m #[(.long (2147483639 : Int64)), (.long (32 : Int64))] 4 = mkF m 0 #[.val (.long (2147483639 : Int64)), .second, .val (.long (32 : Int64)), .second] [] := by first | (simp [entryFrame, mkF, argsToLocals, Value.category]; done) | rfl
set_option maxRecDepth 65536 in
set_option maxHeartbeats 4000000 in
theorem rm10 (l : Launch) (Z : State) (a0 : Array Value) (hw : ∀ d ∈ tables_1, d.before a0 Z = true) (ws : List Jvm.Cond)  (h0 : Heap) (n0 : Nat) (Z0 : n0 ≤ h0.size)  :
    MetFree l (⟨"java/lang/Math", "min", "(JJ)J"⟩ : MethodName) (head1 (Jvm.Cond.code (⟨"java/lang/Math", "min", "(JJ)J"⟩ : MethodName) jdk_29_method_70_code 4 (some .long) :: ws) ({ frames := 0, cells := 0, slots := 0, locals := 0 } : Room)) (fun a U => a = #[(.long (2147483639 : Int64)), (.long (32 : Int64))] ∧ Z.Warmed39 U.vm ∧ U.heap = h0) (fun _ _ _ _ _ => True) (fun _ U o U' => ∃ v L, o = .returned v ∧ Q10 h0 n0 v U'.heap L ∧ FrameEnd U o U' L ({ frames := 0, cells := 0, slots := 0, locals := 0 } : Room).cells ({ frames := 0, cells := 0, slots := 0, locals := 0 } : Room).slots) := by
  refine MetFree.of_bodySF (Jvm.Free.JP.mathPlain rfl (by decide +kernel)) hisR ?_
  intro p e s m args below meth c s₁ Bd hml0 hP hK
  obtain ⟨rfl, hZ, hh⟩ := hP
  have hx := Bd.exec
  have hby := Bd.bytes
  have hml : c.maxLocals = 4 := hml0
  have hown : s.vm.findClass "java/lang/Math" = some m.cls := findClass_of_methodNamed Bd.named
  have hnm := (name_of_methodNamed Bd.named Bd.method).1
  have X0 : Stand p l e ({ frames := 0, cells := 0, slots := 0, locals := 0 } : Room) s m #[(.long (2147483639 : Int64)), (.long (32 : Int64))] below meth c s₁ [] 0 0 := Stand.of_body Bd
  have e0 : s₁.heap = h0 := by rw [← hh, Bd.state]; rfl
  have N0 := Fr.nil n0
  have main : own_To p l e ({ frames := 0, cells := 0, slots := 0, locals := 0 } : Room) s m #[(.long (2147483639 : Int64)), (.long (32 : Int64))] below meth c s₁ (mkF m 0 #[.val (.long (2147483639 : Int64)), .second, .val (.long (32 : Int64)), .second] []) (fun T' g' L kq zq => ∃ pcr Ls z, g' = mkF m pcr Ls [.long z] ∧ decode c.code pcr = .ok (.lreturn, 1) ∧ kq = 0 ∧ zq = 0 ∧ Q10 h0 n0 (some (.long z)) T'.heap L) := by
    refine own_go (T1 := s₁) (g1 := (mkF m 1 #[.val (.long (2147483639 : Int64)), .second, .val (.long (32 : Int64)), .second] [(.long (2147483639 : Int64))])) (fun _ k => XS.lloadN X0.here hx rfl (hb hby d10_0) rfl k) ?_
    refine own_go (T1 := s₁) (g1 := (mkF m 2 #[.val (.long (2147483639 : Int64)), .second, .val (.long (32 : Int64)), .second] [(.long (32 : Int64)), (.long (2147483639 : Int64))])) (fun _ k => XS.lloadN X0.here hx rfl (hb hby d10_1) rfl k) ?_
    refine own_go (T1 := s₁) (g1 := (mkF m 3 #[.val (.long (2147483639 : Int64)), .second, .val (.long (32 : Int64)), .second] [(.int (lcmpW (2147483639 : Int64) (32 : Int64)))])) (fun _ k => XS.lcmp X0.here hx rfl (hb hby d10_2) rfl k) ?_
    refine own_go (T1 := s₁) (g1 := (mkF m 10 #[.val (.long (2147483639 : Int64)), .second, .val (.long (32 : Int64)), .second] [])) (fun _ k => XS.ifYes X0.here hx rfl (pc0 := 3) (pc' := 10) rfl (hb hby d10_3) rfl ((if0 _ _).trans (tlt ((by decide) : (0 : Int32) < (lcmpW (2147483639 : Int64) (32 : Int64)))).2.2.1) (by decide) (by decide) k) ?_
    refine own_go (T1 := s₁) (g1 := (mkF m 11 #[.val (.long (2147483639 : Int64)), .second, .val (.long (32 : Int64)), .second] [(.long (32 : Int64))])) (fun _ k => XS.lloadN X0.here hx rfl (hb hby d10_10) rfl k) ?_
    exact ⟨s₁, _, _, _, _, X0, ⟨11, _, (32 : Int64), rfl, (hb hby d10_11), rfl, rfl, (by rw [e0]; exact ⟨rfl, N0, rfl⟩)⟩, fun _ k => k⟩
  obtain ⟨T', g', L', k', n', X', ⟨pcr, Ls, z, rfl, hd, rfl, rfl, hQ⟩, st⟩ := main
  obtain ⟨fs, hr, hrun, hended, hW, hsame⟩ := X'.leave (v := (some (.long z))) (fun h => by rw [Bd.returns] at h; cases h)
  refine ⟨_, _, castTop (ef_rm10 m ) (st _ ?_), hrun, hended, _, _, rfl, hQ, ⟨_, rfl⟩, hW, hsame.mono (by decide) (by decide)⟩
  exact X'.lreturnOut hx Bd.returns hd hr
def Q12 (h0 : Heap) (n0 : Nat) (v : Option Value) (h : Heap) (L : List Loc) : Prop := v = some (.int (16 : Int32)) ∧ Fr n0 L ∧ h = h0
theorem d12_0 : decode jdk_29_method_69_code 0 = .ok (.iload_n 0, 1) := by decide +kernel
theorem d12_1 : decode jdk_29_method_69_code 1 = .ok (.iload_n 1, 1) := by decide +kernel
theorem d12_2 : decode jdk_29_method_69_code 2 = .ok (.if_icmp .gt 7, 3) := by decide +kernel
theorem d12_5 : decode jdk_29_method_69_code 5 = .ok (.iload_n 0, 1) := by decide +kernel
theorem d12_6 : decode jdk_29_method_69_code 6 = .ok (.goto 4, 3) := by decide +kernel
theorem d12_10 : decode jdk_29_method_69_code 10 = .ok (.ireturn, 1) := by decide +kernel
theorem ef_rm12 (m : MethodId)  : entryFrame m #[(.int (16 : Int32)), (.int (32 : Int32))] 2 = mkF m 0 #[.val (.int (16 : Int32)), .val (.int (32 : Int32))] [] := by first | (simp [entryFrame, mkF, argsToLocals, Value.category]; done) | rfl
set_option maxRecDepth 65536 in
set_option maxHeartbeats 4000000 in
theorem rm12 (l : Launch) (Z : State) (a0 : Array Value) (hw : ∀ d ∈ tables_1, d.before a0 Z = true) (ws : List Jvm.Cond)  (h0 : Heap) (n0 : Nat) (Z0 : n0 ≤ h0.size)  :
    MetFree l (⟨"java/lang/Math", "min", "(II)I"⟩ : MethodName) (head1 (Jvm.Cond.code (⟨"java/lang/Math", "min", "(II)I"⟩ : MethodName) jdk_29_method_69_code 2 (some .int) :: ws) ({ frames := 0, cells := 0, slots := 0, locals := 0 } : Room)) (fun a U => a = #[(.int (16 : Int32)), (.int (32 : Int32))] ∧ Z.Warmed39 U.vm ∧ U.heap = h0) (fun _ _ _ _ _ => True) (fun _ U o U' => ∃ v L, o = .returned v ∧ Q12 h0 n0 v U'.heap L ∧ FrameEnd U o U' L ({ frames := 0, cells := 0, slots := 0, locals := 0 } : Room).cells ({ frames := 0, cells := 0, slots := 0, locals := 0 } : Room).slots) := by
  refine MetFree.of_bodySF (Jvm.Free.JP.mathPlain rfl (by decide +kernel)) hisR ?_
  intro p e s m args below meth c s₁ Bd hml0 hP hK
  obtain ⟨rfl, hZ, hh⟩ := hP
  have hx := Bd.exec
  have hby := Bd.bytes
  have hml : c.maxLocals = 2 := hml0
  have hown : s.vm.findClass "java/lang/Math" = some m.cls := findClass_of_methodNamed Bd.named
  have hnm := (name_of_methodNamed Bd.named Bd.method).1
  have X0 : Stand p l e ({ frames := 0, cells := 0, slots := 0, locals := 0 } : Room) s m #[(.int (16 : Int32)), (.int (32 : Int32))] below meth c s₁ [] 0 0 := Stand.of_body Bd
  have e0 : s₁.heap = h0 := by rw [← hh, Bd.state]; rfl
  have N0 := Fr.nil n0
  have main : own_To p l e ({ frames := 0, cells := 0, slots := 0, locals := 0 } : Room) s m #[(.int (16 : Int32)), (.int (32 : Int32))] below meth c s₁ (mkF m 0 #[.val (.int (16 : Int32)), .val (.int (32 : Int32))] []) (fun T' g' L kq zq => ∃ pcr Ls z, g' = mkF m pcr Ls [.int z] ∧ decode c.code pcr = .ok (.ireturn, 1) ∧ kq = 0 ∧ zq = 0 ∧ Q12 h0 n0 (some (.int z)) T'.heap L) := by
    refine own_go (T1 := s₁) (g1 := (mkF m 1 #[.val (.int (16 : Int32)), .val (.int (32 : Int32))] [(.int (16 : Int32))])) (fun _ k => XS.iloadN X0.here hx rfl (hb hby d12_0) rfl k) ?_
    refine own_go (T1 := s₁) (g1 := (mkF m 2 #[.val (.int (16 : Int32)), .val (.int (32 : Int32))] [(.int (32 : Int32)), (.int (16 : Int32))])) (fun _ k => XS.iloadN X0.here hx rfl (hb hby d12_1) rfl k) ?_
    refine own_go (T1 := s₁) (g1 := (mkF m 5 #[.val (.int (16 : Int32)), .val (.int (32 : Int32))] [])) (fun _ k => XS.icmpNo X0.here hx rfl (hb hby d12_2) rfl (flt ((by decide) : ¬ ((32 : Int32) < (16 : Int32)))).2.2.1 k) ?_
    refine own_go (T1 := s₁) (g1 := (mkF m 6 #[.val (.int (16 : Int32)), .val (.int (32 : Int32))] [(.int (16 : Int32))])) (fun _ k => XS.iloadN X0.here hx rfl (hb hby d12_5) rfl k) ?_
    refine own_go (T1 := s₁) (g1 := (mkF m 10 #[.val (.int (16 : Int32)), .val (.int (32 : Int32))] [(.int (16 : Int32))])) (fun _ k => XS.goto X0.here hx rfl (pc0 := 6) (pc' := 10) rfl (hb hby d12_6) (by decide) (by decide) k) ?_
    exact ⟨s₁, _, _, _, _, X0, ⟨10, _, (16 : Int32), rfl, (hb hby d12_10), rfl, rfl, (by rw [e0]; exact ⟨rfl, N0, rfl⟩)⟩, fun _ k => k⟩
  obtain ⟨T', g', L', k', n', X', ⟨pcr, Ls, z, rfl, hd, rfl, rfl, hQ⟩, st⟩ := main
  obtain ⟨fs, hr, hrun, hended, hW, hsame⟩ := X'.leave (v := (some (.int z))) (fun h => by rw [Bd.returns] at h; cases h)
  refine ⟨_, _, castTop (ef_rm12 m ) (st _ ?_), hrun, hended, _, _, rfl, hQ, ⟨_, rfl⟩, hW, hsame.mono (by decide) (by decide)⟩
  exact retI X' hx Bd.returns hd hr
def Q11 (Z : State) (h0 : Heap) (n0 : Nat) (v : Option Value) (h : Heap) (L : List Loc) : Prop := ∃ (b : Addr) (k : ClassId) (us : List Value), v = some (.ref b) ∧ Fr n0 L ∧ Keep h0 h [] ∧ h0.size ≤ b ∧ n0 ≤ b ∧ Arv Z h b k .byte (32 : Int32) us (.int 0)
theorem own_pd_II_I : parseMethodDescriptor "(II)I" = some ⟨[.int, .int], some .int⟩ := by decide +kernel
theorem d11_0 : decode jdk_65_method_121_code 0 = .ok (.iload_n 1, 1) := by decide +kernel
theorem d11_1 : decode jdk_65_method_121_code 1 = .ok (.aload_n 0, 1) := by decide +kernel
theorem d11_2 : decode jdk_65_method_121_code 2 = .ok (.arraylength, 1) := by decide +kernel
theorem d11_3 : decode jdk_65_method_121_code 3 = .ok (.if_icmp .ne 11, 3) := by decide +kernel
theorem d11_14 : decode jdk_65_method_121_code 14 = .ok (.iload_n 1, 1) := by decide +kernel
theorem d11_15 : decode jdk_65_method_121_code 15 = .ok (.newarray .byte, 2) := by decide +kernel
theorem d11_17 : decode jdk_65_method_121_code 17 = .ok (.astore_n 2, 1) := by decide +kernel
theorem d11_18 : decode jdk_65_method_121_code 18 = .ok (.aload_n 0, 1) := by decide +kernel
theorem d11_19 : decode jdk_65_method_121_code 19 = .ok (.iconst 0, 1) := by decide +kernel
theorem d11_20 : decode jdk_65_method_121_code 20 = .ok (.aload_n 2, 1) := by decide +kernel
theorem d11_21 : decode jdk_65_method_121_code 21 = .ok (.iconst 0, 1) := by decide +kernel
theorem d11_22 : decode jdk_65_method_121_code 22 = .ok (.aload_n 0, 1) := by decide +kernel
theorem d11_23 : decode jdk_65_method_121_code 23 = .ok (.arraylength, 1) := by decide +kernel
theorem d11_24 : decode jdk_65_method_121_code 24 = .ok (.iload_n 1, 1) := by decide +kernel
theorem d11_25 : decode jdk_65_method_121_code 25 = .ok (.invokestatic 304, 3) := by decide +kernel
theorem d11_28 : decode jdk_65_method_121_code 28 = .ok (.invokestatic 150, 3) := by decide +kernel
theorem d11_31 : decode jdk_65_method_121_code 31 = .ok (.aload_n 2, 1) := by decide +kernel
theorem d11_32 : decode jdk_65_method_121_code 32 = .ok (.areturn, 1) := by decide +kernel
theorem ef_rm11 (m : MethodId) (d1 : Addr) : entryFrame m #[(.ref d1), (.int (32 : Int32))] 3 = mkF m 0 #[.val (.ref d1), .val (.int (32 : Int32)), .unset] [] := by first | (simp [entryFrame, mkF, argsToLocals, Value.category]; done) | rfl
set_option maxRecDepth 65536 in
set_option maxHeartbeats 4000000 in
theorem rm11 (l : Launch) (Z : State) (a0 : Array Value) (hw : ∀ d ∈ tables_1, d.before a0 Z = true) (ws : List Jvm.Cond) (d1 : Addr) (kB : ClassId) (vs : List Value) (h0 : Heap) (n0 : Nat) (Z0 : n0 ≤ h0.size) (Va : Arv Z h0 d1 kB .byte (16 : Int32) vs (.int 0)) :
    MetFree l (⟨"java/util/Arrays", "copyOf", "([BI)[B"⟩ : MethodName) (head1 (Jvm.Cond.code (⟨"java/util/Arrays", "copyOf", "([BI)[B"⟩ : MethodName) jdk_65_method_121_code 3 (some (.array .byte)) :: ws) ({ frames := 1, cells := 1, slots := 32, locals := 18 } : Room)) (fun a U => a = #[(.ref d1), (.int (32 : Int32))] ∧ Z.Warmed39 U.vm ∧ U.heap = h0) (fun _ _ _ _ _ => True) (fun _ U o U' => ∃ v L, o = .returned v ∧ Q11 Z h0 n0 v U'.heap L ∧ FrameEnd U o U' L ({ frames := 1, cells := 1, slots := 32, locals := 18 } : Room).cells ({ frames := 1, cells := 1, slots := 32, locals := 18 } : Room).slots) := by
  refine MetFree.of_bodySF (plainFor_of_name (by first | (simp [plainName, overriddenIn]; done) | decide +kernel)) hisR ?_
  intro p e s m args below meth c s₁ Bd hml0 hP hK
  obtain ⟨rfl, hZ, hh⟩ := hP
  have hx := Bd.exec
  have hby := Bd.bytes
  have hml : c.maxLocals = 3 := hml0
  have hown : s.vm.findClass "java/util/Arrays" = some m.cls := findClass_of_methodNamed Bd.named
  have hnm := (name_of_methodNamed Bd.named Bd.method).1
  have X0 : Stand p l e ({ frames := 1, cells := 1, slots := 32, locals := 18 } : Room) s m #[(.ref d1), (.int (32 : Int32))] below meth c s₁ [] 0 0 := Stand.of_body Bd
  have e0 : s₁.heap = h0 := by rw [← hh, Bd.state]; rfl
  have N0 := Fr.nil n0
  have main : own_To p l e ({ frames := 1, cells := 1, slots := 32, locals := 18 } : Room) s m #[(.ref d1), (.int (32 : Int32))] below meth c s₁ (mkF m 0 #[.val (.ref d1), .val (.int (32 : Int32)), .unset] []) (fun T' g' L kq zq => ∃ pcr Ls z, g' = mkF m pcr Ls [.ref z] ∧ decode c.code pcr = .ok (.areturn, 1) ∧ kq = 1 ∧ zq = 32 ∧ Q11 Z h0 n0 (some (.ref z)) T'.heap L) := by
    refine own_go (T1 := s₁) (g1 := (mkF m 1 #[.val (.ref d1), .val (.int (32 : Int32)), .unset] [(.int (32 : Int32))])) (fun _ k => XS.iloadN X0.here hx rfl (hb hby d11_0) rfl k) ?_
    refine own_go (T1 := s₁) (g1 := (mkF m 2 #[.val (.ref d1), .val (.int (32 : Int32)), .unset] [(.ref d1), (.int (32 : Int32))])) (fun _ k => XS.aloadN X0.here hx rfl (hb hby d11_1) rfl rfl k) ?_
    obtain ⟨cl1, Ar1, -, S1, N1, -, -⟩ := id Va
    refine own_go (T1 := s₁) (g1 := (mkF m 3 #[.val (.ref d1), .val (.int (32 : Int32)), .unset] [(.int (16 : Int32)), (.int (32 : Int32))])) (fun _ k => X0.arraylength hx (by rw [e0]; exact Ar1.1) (State.isArrayOf_alike hZ.alike Ar1.2.1) (g := (mkF m 2 #[.val (.ref d1), .val (.int (32 : Int32)), .unset] [(.ref d1), (.int (32 : Int32))])) rfl rfl (hb hby d11_2) _ (by rw [len_of S1 N1]; exact k)) ?_
    refine own_go (T1 := s₁) (g1 := (mkF m 14 #[.val (.ref d1), .val (.int (32 : Int32)), .unset] [])) (fun _ k => XS.icmpYes X0.here hx rfl (pc0 := 3) (pc' := 14) rfl (hb hby d11_3) rfl (feq ((by decide) : ¬ ((32 : Int32) = (16 : Int32)))).2 (by decide) (by decide) k) ?_
    refine own_go (T1 := s₁) (g1 := (mkF m 15 #[.val (.ref d1), .val (.int (32 : Int32)), .unset] [(.int (32 : Int32))])) (fun _ k => XS.iloadN X0.here hx rfl (hb hby d11_14) rfl k) ?_
    obtain ⟨T2, h2, k2, X2, e2, E2, A2, st2⟩ := newP X0 hx hZ (hw _ (List.mem_of_getElem? (i := 9) rfl)) e0 (g := (mkF m 15 #[.val (.ref d1), .val (.int (32 : Int32)), .unset] [(.int (32 : Int32))])) rfl (hb hby d11_15) rfl (by decide) (cap := 32) (by decide) (by decide) (by decide) (by decide)
    obtain ⟨b2, g2⟩ : ∃ z, z = h0.size := ⟨_, rfl⟩
    rw [← g2] at A2 st2
    have ne_d1_b2 : d1 ≠ b2 := Nat.ne_of_lt (Nat.lt_of_lt_of_le Va.lt (Nat.le_of_eq g2.symm))
    have ge_b2 : n0 ≤ b2 := Nat.le_trans Z0 (Nat.le_of_eq g2.symm)
    have sz_b2 : h0.size ≤ b2 := Nat.le_trans (Keep.refl h0 []).1 (Nat.le_of_eq g2.symm)
    have Va_2 : Arv Z h2 d1 kB .byte (16 : Int32) vs (.int 0) := Va.ext E2
    have Zs2 : n0 ≤ h2.size := Nat.le_trans Z0 E2.1
    have Kp2 : Keep h0 h2 [] := (Keep.refl h0 []).ext E2
    have Vb2_2 : Arv Z h2 b2 k2 .byte (32 : Int32) [] (.int 0) := Arv.new A2 (by decide)
    refine own_go (T1 := T2) (g1 := (mkF m 17 #[.val (.ref d1), .val (.int (32 : Int32)), .unset] [(.ref b2)])) (fun t k => st2 t k) ?_
    refine own_go (T1 := T2) (g1 := (mkF m 18 #[.val (.ref d1), .val (.int (32 : Int32)), .val (.ref b2)] [])) (fun _ k => XS.astoreN X2.here hx rfl (hb hby d11_17) rfl rfl (l' := #[.val (.ref d1), .val (.int (32 : Int32)), .val (.ref b2)]) rfl k) ?_
    refine own_go (T1 := T2) (g1 := (mkF m 19 #[.val (.ref d1), .val (.int (32 : Int32)), .val (.ref b2)] [(.ref d1)])) (fun _ k => XS.aloadN X2.here hx rfl (hb hby d11_18) rfl rfl k) ?_
    refine own_go (T1 := T2) (g1 := (mkF m 20 #[.val (.ref d1), .val (.int (32 : Int32)), .val (.ref b2)] [(.int (0 : Int32)), (.ref d1)])) (fun _ k => XS.iconst X2.here hx rfl (hb hby d11_19) k) ?_
    refine own_go (T1 := T2) (g1 := (mkF m 21 #[.val (.ref d1), .val (.int (32 : Int32)), .val (.ref b2)] [(.ref b2), (.int (0 : Int32)), (.ref d1)])) (fun _ k => XS.aloadN X2.here hx rfl (hb hby d11_20) rfl rfl k) ?_
    refine own_go (T1 := T2) (g1 := (mkF m 22 #[.val (.ref d1), .val (.int (32 : Int32)), .val (.ref b2)] [(.int (0 : Int32)), (.ref b2), (.int (0 : Int32)), (.ref d1)])) (fun _ k => XS.iconst X2.here hx rfl (hb hby d11_21) k) ?_
    refine own_go (T1 := T2) (g1 := (mkF m 23 #[.val (.ref d1), .val (.int (32 : Int32)), .val (.ref b2)] [(.ref d1), (.int (0 : Int32)), (.ref b2), (.int (0 : Int32)), (.ref d1)])) (fun _ k => XS.aloadN X2.here hx rfl (hb hby d11_22) rfl rfl k) ?_
    obtain ⟨cl3, Ar3, -, S3, N3, -, -⟩ := id Va_2
    refine own_go (T1 := T2) (g1 := (mkF m 24 #[.val (.ref d1), .val (.int (32 : Int32)), .val (.ref b2)] [(.int (16 : Int32)), (.int (0 : Int32)), (.ref b2), (.int (0 : Int32)), (.ref d1)])) (fun _ k => X2.arraylength hx (by rw [e2]; exact Ar3.1) (State.isArrayOf_alike hZ.alike Ar3.2.1) (g := (mkF m 23 #[.val (.ref d1), .val (.int (32 : Int32)), .val (.ref b2)] [(.ref d1), (.int (0 : Int32)), (.ref b2), (.int (0 : Int32)), (.ref d1)])) rfl rfl (hb hby d11_23) _ (by rw [len_of S3 N3]; exact k)) ?_
    refine own_go (T1 := T2) (g1 := (mkF m 25 #[.val (.ref d1), .val (.int (32 : Int32)), .val (.ref b2)] [(.int (32 : Int32)), (.int (16 : Int32)), (.int (0 : Int32)), (.ref b2), (.int (0 : Int32)), (.ref d1)])) (fun _ k => XS.iloadN X2.here hx rfl (hb hby d11_24) rfl k) ?_
    obtain ⟨_, _, ⟨T4, L4, k4, n4⟩, -, X4, ⟨Lc4, hQ4, l4, y4, z4⟩, st4⟩ := Jvm.LawKit.callS X2 hx (y := (⟨"java/lang/Math", "min", "(II)I"⟩ : MethodName)) hown (mvT hZ (hw _ (List.mem_of_getElem? (i := 61) rfl))) (mvT hZ (hw _ (List.mem_of_getElem? (i := 62) rfl))) (mvT hZ (hw _ (List.mem_of_getElem? (i := 52) rfl))) (mvT hZ (hw _ (List.mem_of_getElem? (i := 63) rfl))) (by decide) (backOf (W := 4) (rm12 l Z a0 hw []  h2 n0 Zs2) hZ (hw _ (List.mem_of_getElem? (i := 63) rfl)) (hw _ (List.mem_of_getElem? (i := 52) rfl)) (by decide) (by decide)) (g := (mkF m 25 #[.val (.ref d1), .val (.int (32 : Int32)), .val (.ref b2)] [(.int (32 : Int32)), (.int (16 : Int32)), (.int (0 : Int32)), (.ref b2), (.int (0 : Int32)), (.ref d1)])) rfl (by rw [hml]; rfl) (argsL := [(.int (16 : Int32)), (.int (32 : Int32))]) (rest := [(.int (0 : Int32)), (.ref b2), (.int (0 : Int32)), (.ref d1)]) (lenOf own_pd_II_I rfl) rfl (by show 2 * 0 + _ ≤ _; exact Nat.le_of_eq rfl) (hb hby d11_25) (fun _ _ => ⟨rfl, e2, (by decide : 1 + 0 ≤ _), (by decide : 32 + 0 ≤ _)⟩)
    dsimp only [Pt.U, Pt.locs, Pt.cells, Pt.slots] at X4 l4 y4 z4 st4 hQ4
    subst l4 y4 z4
    obtain ⟨rfl, N4q, e4⟩ := hQ4
    have N4 := Fr.app N0 N4q
    refine own_go (T1 := T4) (g1 := (mkF m 28 #[.val (.ref d1), .val (.int (32 : Int32)), .val (.ref b2)] [(.int (16 : Int32)), (.int (0 : Int32)), (.ref b2), (.int (0 : Int32)), (.ref d1)])) (fun t k => st4 t k) ?_
    have Vq5 := Vb2_2.pad (pad_rep _ _ 32)
    obtain ⟨T5, h5, L5, X5, e5, N5, K5, Vc5, st5⟩ := cpA X4 hx hZ hown (hw _ (List.mem_of_getElem? (i := 64) rfl)) (hw _ (List.mem_of_getElem? (i := 67) rfl)) (hw _ (List.mem_of_getElem? (i := 65) rfl)) (hw _ (List.mem_of_getElem? (i := 66) rfl)) e4 Va_2 Vq5 (Or.inl ⟨rfl, rfl⟩) (by decide) (by decide) (by decide) (by decide) (by decide) rfl (by simp) N4 ge_b2 (g := (mkF m 28 #[.val (.ref d1), .val (.int (32 : Int32)), .val (.ref b2)] [(.int (16 : Int32)), (.int (0 : Int32)), (.ref b2), (.int (0 : Int32)), (.ref d1)])) rfl (by rw [hml]; rfl) rfl (hb hby d11_28) (by decide) (W := 0) (by show 2 * 0 + _ ≤ _; exact Nat.le_of_eq rfl) (by decide)
    have Kq5 : Keep h0 h5 [] := Kp2.trans K5 (fun z hz => Or.inr (by cases List.mem_singleton.mp hz; exact sz_b2))
    refine own_go (T1 := T5) (g1 := (mkF m 31 #[.val (.ref d1), .val (.int (32 : Int32)), .val (.ref b2)] [])) (fun t k => st5 t k) ?_
    refine own_go (T1 := T5) (g1 := (mkF m 32 #[.val (.ref d1), .val (.int (32 : Int32)), .val (.ref b2)] [(.ref b2)])) (fun _ k => XS.aloadN X5.here hx rfl (hb hby d11_31) rfl rfl k) ?_
    exact ⟨T5, _, _, _, _, X5, ⟨32, _, b2, rfl, (hb hby d11_32), rfl, rfl, (by rw [e5]; exact ⟨b2, k2, _, rfl, N5, Kq5, sz_b2, ge_b2, Vc5⟩)⟩, fun _ k => k⟩
  obtain ⟨T', g', L', k', n', X', ⟨pcr, Ls, z, rfl, hd, rfl, rfl, hQ⟩, st⟩ := main
  obtain ⟨fs, hr, hrun, hended, hW, hsame⟩ := X'.leave (v := (some (.ref z))) (fun h => by rw [Bd.returns] at h; cases h)
  refine ⟨_, _, castTop (ef_rm11 m d1) (st _ ?_), hrun, hended, _, _, rfl, hQ, ⟨_, rfl⟩, hW, hsame.mono (by decide) (by decide)⟩
  exact own_retA X' hx Bd.returns rfl hd hr
def Q5 (h0 : Heap) (n0 : Nat) (v : Option Value) (h : Heap) (L : List Loc) : Prop := v = none ∧ Fr n0 L ∧ h = h0
theorem d5_0 : decode prog_56_method_13_code 0 = .ok (.aload_n 0, 1) := by decide +kernel
theorem d5_1 : decode prog_56_method_13_code 1 = .ok (.getfield 11, 3) := by decide +kernel
theorem d5_4 : decode prog_56_method_13_code 4 = .ok (.arraylength, 1) := by decide +kernel
theorem d5_5 : decode prog_56_method_13_code 5 = .ok (.aload_n 0, 1) := by decide +kernel
theorem d5_6 : decode prog_56_method_13_code 6 = .ok (.getfield 48, 3) := by decide +kernel
theorem d5_9 : decode prog_56_method_13_code 9 = .ok (.isub, 1) := by decide +kernel
theorem d5_10 : decode prog_56_method_13_code 10 = .ok (.iload_n 1, 1) := by decide +kernel
theorem d5_11 : decode prog_56_method_13_code 11 = .ok (.if_icmp .ge 66, 3) := by decide +kernel
theorem d5_77 : decode prog_56_method_13_code 77 = .ok (.return_, 1) := by decide +kernel
theorem ef_rm5 (m : MethodId) (a1 : Addr) : entryFrame m #[(.ref a1), (.int (1 : Int32))] 6 = mkF m 0 #[.val (.ref a1), .val (.int (1 : Int32)), .unset, .unset, .unset, .unset] [] := by first | (simp [entryFrame, mkF, argsToLocals, Value.category]; done) | rfl
set_option maxRecDepth 65536 in
set_option maxHeartbeats 4000000 in
theorem rm5 (l : Launch) (Z : State) (a0 : Array Value) (hw : ∀ d ∈ tables_1, d.before a0 Z = true) (ws : List Jvm.Cond) (a1 bB bC : Addr) (kB kC : ClassId) (n len : Int32) (vs : List Value) (h0 : Heap) (n0 : Nat) (Z0 : n0 ≤ h0.size) (HE : own_Enc Z h0 n0 a1 bB bC kB kC n len vs) (hrm : ¬ ((n - len) < (1 : Int32))) :
    MetFree l (⟨"com/example/arbordb/arbordb/tree/Encoder", "room", "(I)V"⟩ : MethodName) (head1 (Jvm.Cond.code (⟨"com/example/arbordb/arbordb/tree/Encoder", "room", "(I)V"⟩ : MethodName) prog_56_method_13_code 6 none :: ws) ({ frames := 0, cells := 0, slots := 0, locals := 0 } : Room)) (fun a U => a = #[(.ref a1), (.int (1 : Int32))] ∧ Z.Warmed39 U.vm ∧ U.heap = h0) (fun _ _ _ _ _ => True) (fun _ U o U' => ∃ v L, o = .returned v ∧ Q5 h0 n0 v U'.heap L ∧ FrameEnd U o U' L ({ frames := 0, cells := 0, slots := 0, locals := 0 } : Room).cells ({ frames := 0, cells := 0, slots := 0, locals := 0 } : Room).slots) := by
  refine MetFree.of_bodySF (plainFor_of_name (by first | (simp [plainName, overriddenIn]; done) | decide +kernel)) hisR ?_
  intro p e s m args below meth c s₁ Bd hml0 hP hK
  obtain ⟨rfl, hZ, hh⟩ := hP
  have hx := Bd.exec
  have hby := Bd.bytes
  have hml : c.maxLocals = 6 := hml0
  have hown : s.vm.findClass "com/example/arbordb/arbordb/tree/Encoder" = some m.cls := findClass_of_methodNamed Bd.named
  have hnm := (name_of_methodNamed Bd.named Bd.method).1
  have X0 : Stand p l e ({ frames := 0, cells := 0, slots := 0, locals := 0 } : Room) s m #[(.ref a1), (.int (1 : Int32))] below meth c s₁ [] 0 0 := Stand.of_body Bd
  have e0 : s₁.heap = h0 := by rw [← hh, Bd.state]; rfl
  have N0 := Fr.nil n0
  have main : own_To p l e ({ frames := 0, cells := 0, slots := 0, locals := 0 } : Room) s m #[(.ref a1), (.int (1 : Int32))] below meth c s₁ (mkF m 0 #[.val (.ref a1), .val (.int (1 : Int32)), .unset, .unset, .unset, .unset] []) (fun T' g' L kq zq => ∃ pcr Ls, g' = mkF m pcr Ls [] ∧ decode c.code pcr = .ok (.return_, 1) ∧ kq = 0 ∧ zq = 0 ∧ Q5 h0 n0 none T'.heap L) := by
    obtain ⟨Ex, Fb, Fc, Fl, Vb, Vc, ga, gb, gc, n1, n2, n3⟩ := HE
    refine own_go (T1 := s₁) (g1 := (mkF m 1 #[.val (.ref a1), .val (.int (1 : Int32)), .unset, .unset, .unset, .unset] [(.ref a1)])) (fun _ k => XS.aloadN X0.here hx rfl (hb hby d5_0) rfl rfl k) ?_
    obtain ⟨T1, X1, e1, st1⟩ := getF X0 hx hZ hown (host := "") (Or.inl (hw _ (List.mem_of_getElem? (i := 10) rfl))) Via.refl e0 Fb (g := (mkF m 1 #[.val (.ref a1), .val (.int (1 : Int32)), .unset, .unset, .unset, .unset] [(.ref a1)])) rfl rfl (hb hby d5_1)
    refine own_go (T1 := T1) (g1 := (mkF m 4 #[.val (.ref a1), .val (.int (1 : Int32)), .unset, .unset, .unset, .unset] [(.ref bB)])) (fun t k => st1 t k) ?_
    obtain ⟨cl2, Ar2, -, S2, N2, -, -⟩ := id Vb
    refine own_go (T1 := T1) (g1 := (mkF m 5 #[.val (.ref a1), .val (.int (1 : Int32)), .unset, .unset, .unset, .unset] [(.int n)])) (fun _ k => X1.arraylength hx (by rw [e1]; exact Ar2.1) (State.isArrayOf_alike hZ.alike Ar2.2.1) (g := (mkF m 4 #[.val (.ref a1), .val (.int (1 : Int32)), .unset, .unset, .unset, .unset] [(.ref bB)])) rfl rfl (hb hby d5_4) _ (by rw [len_of S2 N2]; exact k)) ?_
    refine own_go (T1 := T1) (g1 := (mkF m 6 #[.val (.ref a1), .val (.int (1 : Int32)), .unset, .unset, .unset, .unset] [(.ref a1), (.int n)])) (fun _ k => XS.aloadN X1.here hx rfl (hb hby d5_5) rfl rfl k) ?_
    obtain ⟨T3, X3, e3, st3⟩ := getF X1 hx hZ hown (host := "") (Or.inl (hw _ (List.mem_of_getElem? (i := 29) rfl))) Via.refl e1 Fl (g := (mkF m 6 #[.val (.ref a1), .val (.int (1 : Int32)), .unset, .unset, .unset, .unset] [(.ref a1), (.int n)])) rfl rfl (hb hby d5_6)
    refine own_go (T1 := T3) (g1 := (mkF m 9 #[.val (.ref a1), .val (.int (1 : Int32)), .unset, .unset, .unset, .unset] [(.int len), (.int n)])) (fun t k => st3 t k) ?_
    refine own_go (T1 := T3) (g1 := (mkF m 10 #[.val (.ref a1), .val (.int (1 : Int32)), .unset, .unset, .unset, .unset] [(.int (n - len))])) (fun _ k => XS.isub X3.here hx rfl (hb hby d5_9) rfl k) ?_
    refine own_go (T1 := T3) (g1 := (mkF m 11 #[.val (.ref a1), .val (.int (1 : Int32)), .unset, .unset, .unset, .unset] [(.int (1 : Int32)), (.int (n - len))])) (fun _ k => XS.iloadN X3.here hx rfl (hb hby d5_10) rfl k) ?_
    refine own_go (T1 := T3) (g1 := (mkF m 77 #[.val (.ref a1), .val (.int (1 : Int32)), .unset, .unset, .unset, .unset] [])) (fun _ k => XS.icmpYes X3.here hx rfl (pc0 := 11) (pc' := 77) rfl (hb hby d5_11) rfl (flt (hrm : ¬ ((n - len) < (1 : Int32)))).2.1 (by decide) (by decide) k) ?_
    exact ⟨T3, _, _, _, _, X3, ⟨77, _, rfl, (hb hby d5_77), rfl, rfl, (by rw [e3]; exact ⟨rfl, N0, rfl⟩)⟩, fun _ k => k⟩
  obtain ⟨T', g', L', k', n', X', ⟨pcr, Ls, rfl, hd, rfl, rfl, hQ⟩, st⟩ := main
  obtain ⟨fs, hr, hrun, hended, hW, hsame⟩ := X'.leave (v := none) (fun _ => rfl)
  refine ⟨_, _, castTop (ef_rm5 m a1) (st _ ?_), hrun, hended, _, _, rfl, hQ, ⟨_, rfl⟩, hW, hsame.mono (by decide) (by decide)⟩
  exact X'.returnOut hx Bd.returns hd hr
def Q5g (Z : State) (a1 bC : Addr) (kC : ClassId) (n0 : Nat) (v : Option Value) (h : Heap) (L : List Loc) : Prop := v = none ∧ Fr n0 L ∧ ∃ (bB : Addr) (kB : ClassId) (vs : List Value), own_Enc Z h n0 a1 bB bC kB kC 32 16 vs
theorem own_pd_JJ_J : parseMethodDescriptor "(JJ)J" = some ⟨[.long, .long], some .long⟩ := by decide +kernel
theorem own_pd_ABI_AB : parseMethodDescriptor "([BI)[B" = some ⟨[(.array .byte), .int], some (.array .byte)⟩ := by decide +kernel
theorem d5_14 : decode prog_56_method_13_code 14 = .ok (.aload_n 0, 1) := by decide +kernel
theorem d5_15 : decode prog_56_method_13_code 15 = .ok (.getfield 48, 3) := by decide +kernel
theorem d5_18 : decode prog_56_method_13_code 18 = .ok (.i2l, 1) := by decide +kernel
theorem d5_19 : decode prog_56_method_13_code 19 = .ok (.iload_n 1, 1) := by decide +kernel
theorem d5_20 : decode prog_56_method_13_code 20 = .ok (.i2l, 1) := by decide +kernel
theorem d5_21 : decode prog_56_method_13_code 21 = .ok (.ladd, 1) := by decide +kernel
theorem d5_22 : decode prog_56_method_13_code 22 = .ok (.lstore_n 2, 1) := by decide +kernel
theorem d5_23 : decode prog_56_method_13_code 23 = .ok (.lload_n 2, 1) := by decide +kernel
theorem d5_24 : decode prog_56_method_13_code 24 = .ok (.ldc2_w 102, 3) := by decide +kernel
theorem d5_27 : decode prog_56_method_13_code 27 = .ok (.lcmp, 1) := by decide +kernel
theorem d5_28 : decode prog_56_method_13_code 28 = .ok (.ifCond .le 13, 3) := by decide +kernel
theorem d5_41 : decode prog_56_method_13_code 41 = .ok (.ldc2_w 102, 3) := by decide +kernel
theorem d5_44 : decode prog_56_method_13_code 44 = .ok (.ldc2_w 111, 3) := by decide +kernel
theorem d5_47 : decode prog_56_method_13_code 47 = .ok (.aload_n 0, 1) := by decide +kernel
theorem d5_48 : decode prog_56_method_13_code 48 = .ok (.getfield 11, 3) := by decide +kernel
theorem d5_51 : decode prog_56_method_13_code 51 = .ok (.arraylength, 1) := by decide +kernel
theorem d5_52 : decode prog_56_method_13_code 52 = .ok (.i2l, 1) := by decide +kernel
theorem d5_53 : decode prog_56_method_13_code 53 = .ok (.lmul, 1) := by decide +kernel
theorem d5_54 : decode prog_56_method_13_code 54 = .ok (.lload_n 2, 1) := by decide +kernel
theorem d5_55 : decode prog_56_method_13_code 55 = .ok (.invokestatic 113, 3) := by decide +kernel
theorem d5_58 : decode prog_56_method_13_code 58 = .ok (.invokestatic 116, 3) := by decide +kernel
theorem d5_61 : decode prog_56_method_13_code 61 = .ok (.lstore 4, 2) := by decide +kernel
theorem d5_63 : decode prog_56_method_13_code 63 = .ok (.aload_n 0, 1) := by decide +kernel
theorem d5_64 : decode prog_56_method_13_code 64 = .ok (.aload_n 0, 1) := by decide +kernel
theorem d5_65 : decode prog_56_method_13_code 65 = .ok (.getfield 11, 3) := by decide +kernel
theorem d5_68 : decode prog_56_method_13_code 68 = .ok (.lload 4, 2) := by decide +kernel
theorem d5_70 : decode prog_56_method_13_code 70 = .ok (.l2i, 1) := by decide +kernel
theorem d5_71 : decode prog_56_method_13_code 71 = .ok (.invokestatic 119, 3) := by decide +kernel
theorem d5_74 : decode prog_56_method_13_code 74 = .ok (.putfield 11, 3) := by decide +kernel
theorem ef_rm5g (m : MethodId) (a1 : Addr) : entryFrame m #[(.ref a1), (.int (1 : Int32))] 6 = mkF m 0 #[.val (.ref a1), .val (.int (1 : Int32)), .unset, .unset, .unset, .unset] [] := by first | (simp [entryFrame, mkF, argsToLocals, Value.category]; done) | rfl
set_option maxRecDepth 65536 in
set_option maxHeartbeats 4000000 in
theorem rm5g (l : Launch) (Z : State) (a0 : Array Value) (hw : ∀ d ∈ tables_1, d.before a0 Z = true) (ws : List Jvm.Cond) (a1 bB bC : Addr) (kB kC : ClassId) (vs : List Value) (h0 : Heap) (n0 : Nat) (Z0 : n0 ≤ h0.size) (HE : own_Enc Z h0 n0 a1 bB bC kB kC 16 16 vs) :
    MetFree l (⟨"com/example/arbordb/arbordb/tree/Encoder", "room", "(I)V"⟩ : MethodName) (head1 (Jvm.Cond.code (⟨"com/example/arbordb/arbordb/tree/Encoder", "room", "(I)V"⟩ : MethodName) prog_56_method_13_code 6 none :: ws) ({ frames := 2, cells := 1, slots := 32, locals := 33 } : Room)) (fun a U => a = #[(.ref a1), (.int (1 : Int32))] ∧ Z.Warmed39 U.vm ∧ U.heap = h0) (fun _ _ _ _ _ => True) (fun _ U o U' => ∃ v L, o = .returned v ∧ Q5g Z a1 bC kC n0 v U'.heap L ∧ FrameEnd U o U' L ({ frames := 2, cells := 1, slots := 32, locals := 33 } : Room).cells ({ frames := 2, cells := 1, slots := 32, locals := 33 } : Room).slots) := by
  refine MetFree.of_bodySF (plainFor_of_name (by first | (simp [plainName, overriddenIn]; done) | decide +kernel)) hisR ?_
  intro p e s m args below meth c s₁ Bd hml0 hP hK
  obtain ⟨rfl, hZ, hh⟩ := hP
  have hx := Bd.exec
  have hby := Bd.bytes
  have hml : c.maxLocals = 6 := hml0
  have hown : s.vm.findClass "com/example/arbordb/arbordb/tree/Encoder" = some m.cls := findClass_of_methodNamed Bd.named
  have hnm := (name_of_methodNamed Bd.named Bd.method).1
  have X0 : Stand p l e ({ frames := 2, cells := 1, slots := 32, locals := 33 } : Room) s m #[(.ref a1), (.int (1 : Int32))] below meth c s₁ [] 0 0 := Stand.of_body Bd
  have e0 : s₁.heap = h0 := by rw [← hh, Bd.state]; rfl
  have N0 := Fr.nil n0
  have main : own_To p l e ({ frames := 2, cells := 1, slots := 32, locals := 33 } : Room) s m #[(.ref a1), (.int (1 : Int32))] below meth c s₁ (mkF m 0 #[.val (.ref a1), .val (.int (1 : Int32)), .unset, .unset, .unset, .unset] []) (fun T' g' L kq zq => ∃ pcr Ls, g' = mkF m pcr Ls [] ∧ decode c.code pcr = .ok (.return_, 1) ∧ kq = 1 ∧ zq = 32 ∧ Q5g Z a1 bC kC n0 none T'.heap L) := by
    obtain ⟨Ex, Fb, Fc, Fl, Vb, Vc, ga, gb, gc, n1, n2, n3⟩ := HE
    refine own_go (T1 := s₁) (g1 := (mkF m 1 #[.val (.ref a1), .val (.int (1 : Int32)), .unset, .unset, .unset, .unset] [(.ref a1)])) (fun _ k => XS.aloadN X0.here hx rfl (hb hby d5_0) rfl rfl k) ?_
    obtain ⟨T1, X1, e1, st1⟩ := getF X0 hx hZ hown (host := "") (Or.inl (hw _ (List.mem_of_getElem? (i := 10) rfl))) Via.refl e0 Fb (g := (mkF m 1 #[.val (.ref a1), .val (.int (1 : Int32)), .unset, .unset, .unset, .unset] [(.ref a1)])) rfl rfl (hb hby d5_1)
    refine own_go (T1 := T1) (g1 := (mkF m 4 #[.val (.ref a1), .val (.int (1 : Int32)), .unset, .unset, .unset, .unset] [(.ref bB)])) (fun t k => st1 t k) ?_
    obtain ⟨cl2, Ar2, -, S2, N2, -, -⟩ := id Vb
    refine own_go (T1 := T1) (g1 := (mkF m 5 #[.val (.ref a1), .val (.int (1 : Int32)), .unset, .unset, .unset, .unset] [(.int (16 : Int32))])) (fun _ k => X1.arraylength hx (by rw [e1]; exact Ar2.1) (State.isArrayOf_alike hZ.alike Ar2.2.1) (g := (mkF m 4 #[.val (.ref a1), .val (.int (1 : Int32)), .unset, .unset, .unset, .unset] [(.ref bB)])) rfl rfl (hb hby d5_4) _ (by rw [len_of S2 N2]; exact k)) ?_
    refine own_go (T1 := T1) (g1 := (mkF m 6 #[.val (.ref a1), .val (.int (1 : Int32)), .unset, .unset, .unset, .unset] [(.ref a1), (.int (16 : Int32))])) (fun _ k => XS.aloadN X1.here hx rfl (hb hby d5_5) rfl rfl k) ?_
    obtain ⟨T3, X3, e3, st3⟩ := getF X1 hx hZ hown (host := "") (Or.inl (hw _ (List.mem_of_getElem? (i := 29) rfl))) Via.refl e1 Fl (g := (mkF m 6 #[.val (.ref a1), .val (.int (1 : Int32)), .unset, .unset, .unset, .unset] [(.ref a1), (.int (16 : Int32))])) rfl rfl (hb hby d5_6)
    refine own_go (T1 := T3) (g1 := (mkF m 9 #[.val (.ref a1), .val (.int (1 : Int32)), .unset, .unset, .unset, .unset] [(.int (16 : Int32)), (.int (16 : Int32))])) (fun t k => st3 t k) ?_
    refine own_go (T1 := T3) (g1 := (mkF m 10 #[.val (.ref a1), .val (.int (1 : Int32)), .unset, .unset, .unset, .unset] [(.int ((16 : Int32) - (16 : Int32)))])) (fun _ k => XS.isub X3.here hx rfl (hb hby d5_9) rfl k) ?_
    refine own_go (T1 := T3) (g1 := (mkF m 11 #[.val (.ref a1), .val (.int (1 : Int32)), .unset, .unset, .unset, .unset] [(.int (1 : Int32)), (.int ((16 : Int32) - (16 : Int32)))])) (fun _ k => XS.iloadN X3.here hx rfl (hb hby d5_10) rfl k) ?_
    refine own_go (T1 := T3) (g1 := (mkF m 14 #[.val (.ref a1), .val (.int (1 : Int32)), .unset, .unset, .unset, .unset] [])) (fun _ k => XS.icmpNo X3.here hx rfl (hb hby d5_11) rfl (tlt ((by decide) : ((16 : Int32) - (16 : Int32)) < (1 : Int32))).2.1 k) ?_
    refine own_go (T1 := T3) (g1 := (mkF m 15 #[.val (.ref a1), .val (.int (1 : Int32)), .unset, .unset, .unset, .unset] [(.ref a1)])) (fun _ k => XS.aloadN X3.here hx rfl (hb hby d5_14) rfl rfl k) ?_
    obtain ⟨T4, X4, e4, st4⟩ := getF X3 hx hZ hown (host := "") (Or.inl (hw _ (List.mem_of_getElem? (i := 29) rfl))) Via.refl e3 Fl (g := (mkF m 15 #[.val (.ref a1), .val (.int (1 : Int32)), .unset, .unset, .unset, .unset] [(.ref a1)])) rfl rfl (hb hby d5_15)
    refine own_go (T1 := T4) (g1 := (mkF m 18 #[.val (.ref a1), .val (.int (1 : Int32)), .unset, .unset, .unset, .unset] [(.int (16 : Int32))])) (fun t k => st4 t k) ?_
    refine own_go (T1 := T4) (g1 := (mkF m 19 #[.val (.ref a1), .val (.int (1 : Int32)), .unset, .unset, .unset, .unset] [(.long ((16 : Int32).toInt64))])) (fun _ k => XS.i2l X4.here hx rfl (hb hby d5_18) rfl k) ?_
    refine own_go (T1 := T4) (g1 := (mkF m 20 #[.val (.ref a1), .val (.int (1 : Int32)), .unset, .unset, .unset, .unset] [(.int (1 : Int32)), (.long ((16 : Int32).toInt64))])) (fun _ k => XS.iloadN X4.here hx rfl (hb hby d5_19) rfl k) ?_
    refine own_go (T1 := T4) (g1 := (mkF m 21 #[.val (.ref a1), .val (.int (1 : Int32)), .unset, .unset, .unset, .unset] [(.long ((1 : Int32).toInt64)), (.long ((16 : Int32).toInt64))])) (fun _ k => XS.i2l X4.here hx rfl (hb hby d5_20) rfl k) ?_
    refine own_go (T1 := T4) (g1 := (mkF m 22 #[.val (.ref a1), .val (.int (1 : Int32)), .unset, .unset, .unset, .unset] [(.long (((16 : Int32).toInt64) + ((1 : Int32).toInt64)))])) (fun _ k => XS.ladd X4.here hx rfl (hb hby d5_21) rfl k) ?_
    refine own_go (T1 := T4) (g1 := (mkF m 23 #[.val (.ref a1), .val (.int (1 : Int32)), .val (.long (((16 : Int32).toInt64) + ((1 : Int32).toInt64))), .second, .unset, .unset] [])) (fun _ k => XS.lstoreN X4.here hx rfl (hb hby d5_22) rfl (l' := #[.val (.ref a1), .val (.int (1 : Int32)), .val (.long (((16 : Int32).toInt64) + ((1 : Int32).toInt64))), .second, .unset, .unset]) rfl k) ?_
    refine own_go (T1 := T4) (g1 := (mkF m 24 #[.val (.ref a1), .val (.int (1 : Int32)), .val (.long (((16 : Int32).toInt64) + ((1 : Int32).toInt64))), .second, .unset, .unset] [(.long (((16 : Int32).toInt64) + ((1 : Int32).toInt64)))])) (fun _ k => XS.lloadN X4.here hx rfl (hb hby d5_23) rfl k) ?_
    refine own_go (T1 := T4) (g1 := (mkF m 27 #[.val (.ref a1), .val (.int (1 : Int32)), .val (.long (((16 : Int32).toInt64) + ((1 : Int32).toInt64))), .second, .unset, .unset] [(.long (2147483639 : Int64)), (.long (((16 : Int32).toInt64) + ((1 : Int32).toInt64)))])) (fun _ k => X4.ldc2Long hx hown (mvT hZ (hw _ (List.mem_of_getElem? (i := 48) rfl))) (g := (mkF m 24 #[.val (.ref a1), .val (.int (1 : Int32)), .val (.long (((16 : Int32).toInt64) + ((1 : Int32).toInt64))), .second, .unset, .unset] [(.long (((16 : Int32).toInt64) + ((1 : Int32).toInt64)))])) rfl (hb hby d5_24) _ k) ?_
    refine own_go (T1 := T4) (g1 := (mkF m 28 #[.val (.ref a1), .val (.int (1 : Int32)), .val (.long (((16 : Int32).toInt64) + ((1 : Int32).toInt64))), .second, .unset, .unset] [(.int (lcmpW (((16 : Int32).toInt64) + ((1 : Int32).toInt64)) (2147483639 : Int64)))])) (fun _ k => XS.lcmp X4.here hx rfl (hb hby d5_27) rfl k) ?_
    refine own_go (T1 := T4) (g1 := (mkF m 41 #[.val (.ref a1), .val (.int (1 : Int32)), .val (.long (((16 : Int32).toInt64) + ((1 : Int32).toInt64))), .second, .unset, .unset] [])) (fun _ k => XS.ifYes X4.here hx rfl (pc0 := 28) (pc' := 41) rfl (hb hby d5_28) rfl ((if0 _ _).trans (flt ((by decide) : ¬ ((0 : Int32) < (lcmpW (((16 : Int32).toInt64) + ((1 : Int32).toInt64)) (2147483639 : Int64))))).2.2.2) (by decide) (by decide) k) ?_
    refine own_go (T1 := T4) (g1 := (mkF m 44 #[.val (.ref a1), .val (.int (1 : Int32)), .val (.long (((16 : Int32).toInt64) + ((1 : Int32).toInt64))), .second, .unset, .unset] [(.long (2147483639 : Int64))])) (fun _ k => X4.ldc2Long hx hown (mvT hZ (hw _ (List.mem_of_getElem? (i := 48) rfl))) (g := (mkF m 41 #[.val (.ref a1), .val (.int (1 : Int32)), .val (.long (((16 : Int32).toInt64) + ((1 : Int32).toInt64))), .second, .unset, .unset] [])) rfl (hb hby d5_41) _ k) ?_
    refine own_go (T1 := T4) (g1 := (mkF m 47 #[.val (.ref a1), .val (.int (1 : Int32)), .val (.long (((16 : Int32).toInt64) + ((1 : Int32).toInt64))), .second, .unset, .unset] [(.long (2 : Int64)), (.long (2147483639 : Int64))])) (fun _ k => X4.ldc2Long hx hown (mvT hZ (hw _ (List.mem_of_getElem? (i := 49) rfl))) (g := (mkF m 44 #[.val (.ref a1), .val (.int (1 : Int32)), .val (.long (((16 : Int32).toInt64) + ((1 : Int32).toInt64))), .second, .unset, .unset] [(.long (2147483639 : Int64))])) rfl (hb hby d5_44) _ k) ?_
    refine own_go (T1 := T4) (g1 := (mkF m 48 #[.val (.ref a1), .val (.int (1 : Int32)), .val (.long (((16 : Int32).toInt64) + ((1 : Int32).toInt64))), .second, .unset, .unset] [(.ref a1), (.long (2 : Int64)), (.long (2147483639 : Int64))])) (fun _ k => XS.aloadN X4.here hx rfl (hb hby d5_47) rfl rfl k) ?_
    obtain ⟨T5, X5, e5, st5⟩ := getF X4 hx hZ hown (host := "") (Or.inl (hw _ (List.mem_of_getElem? (i := 10) rfl))) Via.refl e4 Fb (g := (mkF m 48 #[.val (.ref a1), .val (.int (1 : Int32)), .val (.long (((16 : Int32).toInt64) + ((1 : Int32).toInt64))), .second, .unset, .unset] [(.ref a1), (.long (2 : Int64)), (.long (2147483639 : Int64))])) rfl rfl (hb hby d5_48)
    refine own_go (T1 := T5) (g1 := (mkF m 51 #[.val (.ref a1), .val (.int (1 : Int32)), .val (.long (((16 : Int32).toInt64) + ((1 : Int32).toInt64))), .second, .unset, .unset] [(.ref bB), (.long (2 : Int64)), (.long (2147483639 : Int64))])) (fun t k => st5 t k) ?_
    obtain ⟨cl6, Ar6, -, S6, N6, -, -⟩ := id Vb
    refine own_go (T1 := T5) (g1 := (mkF m 52 #[.val (.ref a1), .val (.int (1 : Int32)), .val (.long (((16 : Int32).toInt64) + ((1 : Int32).toInt64))), .second, .unset, .unset] [(.int (16 : Int32)), (.long (2 : Int64)), (.long (2147483639 : Int64))])) (fun _ k => X5.arraylength hx (by rw [e5]; exact Ar6.1) (State.isArrayOf_alike hZ.alike Ar6.2.1) (g := (mkF m 51 #[.val (.ref a1), .val (.int (1 : Int32)), .val (.long (((16 : Int32).toInt64) + ((1 : Int32).toInt64))), .second, .unset, .unset] [(.ref bB), (.long (2 : Int64)), (.long (2147483639 : Int64))])) rfl rfl (hb hby d5_51) _ (by rw [len_of S6 N6]; exact k)) ?_
    refine own_go (T1 := T5) (g1 := (mkF m 53 #[.val (.ref a1), .val (.int (1 : Int32)), .val (.long (((16 : Int32).toInt64) + ((1 : Int32).toInt64))), .second, .unset, .unset] [(.long ((16 : Int32).toInt64)), (.long (2 : Int64)), (.long (2147483639 : Int64))])) (fun _ k => XS.i2l X5.here hx rfl (hb hby d5_52) rfl k) ?_
    refine own_go (T1 := T5) (g1 := (mkF m 54 #[.val (.ref a1), .val (.int (1 : Int32)), .val (.long (((16 : Int32).toInt64) + ((1 : Int32).toInt64))), .second, .unset, .unset] [(.long ((2 : Int64) * ((16 : Int32).toInt64))), (.long (2147483639 : Int64))])) (fun _ k => XS.lmul X5.here hx rfl (hb hby d5_53) rfl k) ?_
    refine own_go (T1 := T5) (g1 := (mkF m 55 #[.val (.ref a1), .val (.int (1 : Int32)), .val (.long (((16 : Int32).toInt64) + ((1 : Int32).toInt64))), .second, .unset, .unset] [(.long (((16 : Int32).toInt64) + ((1 : Int32).toInt64))), (.long ((2 : Int64) * ((16 : Int32).toInt64))), (.long (2147483639 : Int64))])) (fun _ k => XS.lloadN X5.here hx rfl (hb hby d5_54) rfl k) ?_
    refine own_go (T1 := T5) (g1 := (mkF m 55 #[.val (.ref a1), .val (.int (1 : Int32)), .val (.long (17 : Int64)), .second, .unset, .unset] [(.long (17 : Int64)), (.long (32 : Int64)), (.long (2147483639 : Int64))])) (fun _ k => k) ?_
    obtain ⟨_, _, ⟨T7, L7, k7, n7⟩, -, X7, ⟨Lc7, hQ7, l7, y7, z7⟩, st7⟩ := Jvm.LawKit.callS X5 hx (y := (⟨"java/lang/Math", "max", "(JJ)J"⟩ : MethodName)) hown (mvT hZ (hw _ (List.mem_of_getElem? (i := 50) rfl))) (mvT hZ (hw _ (List.mem_of_getElem? (i := 51) rfl))) (mvT hZ (hw _ (List.mem_of_getElem? (i := 52) rfl))) (mvT hZ (hw _ (List.mem_of_getElem? (i := 53) rfl))) (by decide) (backOf (W := 2) (rm9 l Z a0 hw []  h0 n0 Z0) hZ (hw _ (List.mem_of_getElem? (i := 53) rfl)) (hw _ (List.mem_of_getElem? (i := 52) rfl)) (by decide) (by decide)) (g := (mkF m 55 #[.val (.ref a1), .val (.int (1 : Int32)), .val (.long (17 : Int64)), .second, .unset, .unset] [(.long (17 : Int64)), (.long (32 : Int64)), (.long (2147483639 : Int64))])) rfl (by rw [hml]; rfl) (argsL := [(.long (32 : Int64)), (.long (17 : Int64))]) (rest := [(.long (2147483639 : Int64))]) (lenOf own_pd_JJ_J rfl) rfl (by show 2 * 0 + _ ≤ _; exact Nat.le_of_eq rfl) (hb hby d5_55) (fun _ _ => ⟨rfl, e5, (by decide : 0 + 0 ≤ _), (by decide : 0 + 0 ≤ _)⟩)
    dsimp only [Pt.U, Pt.locs, Pt.cells, Pt.slots] at X7 l7 y7 z7 st7 hQ7
    subst l7 y7 z7
    obtain ⟨rfl, N7q, e7⟩ := hQ7
    have N7 := Fr.app N0 N7q
    refine own_go (T1 := T7) (g1 := (mkF m 58 #[.val (.ref a1), .val (.int (1 : Int32)), .val (.long (17 : Int64)), .second, .unset, .unset] [(.long (32 : Int64)), (.long (2147483639 : Int64))])) (fun t k => st7 t k) ?_
    obtain ⟨_, _, ⟨T8, L8, k8, n8⟩, -, X8, ⟨Lc8, hQ8, l8, y8, z8⟩, st8⟩ := Jvm.LawKit.callS X7 hx (y := (⟨"java/lang/Math", "min", "(JJ)J"⟩ : MethodName)) hown (mvT hZ (hw _ (List.mem_of_getElem? (i := 54) rfl))) (mvT hZ (hw _ (List.mem_of_getElem? (i := 55) rfl))) (mvT hZ (hw _ (List.mem_of_getElem? (i := 52) rfl))) (mvT hZ (hw _ (List.mem_of_getElem? (i := 56) rfl))) (by decide) (backOf (W := 0) (rm10 l Z a0 hw []  h0 n0 Z0) hZ (hw _ (List.mem_of_getElem? (i := 56) rfl)) (hw _ (List.mem_of_getElem? (i := 52) rfl)) (by decide) (by decide)) (g := (mkF m 58 #[.val (.ref a1), .val (.int (1 : Int32)), .val (.long (17 : Int64)), .second, .unset, .unset] [(.long (32 : Int64)), (.long (2147483639 : Int64))])) rfl (by rw [hml]; rfl) (argsL := [(.long (2147483639 : Int64)), (.long (32 : Int64))]) (rest := []) (lenOf own_pd_JJ_J rfl) rfl (by show 2 * 0 + _ ≤ _; exact Nat.le_of_eq rfl) (hb hby d5_58) (fun _ _ => ⟨rfl, e7, (by decide : 0 + 0 ≤ _), (by decide : 0 + 0 ≤ _)⟩)
    dsimp only [Pt.U, Pt.locs, Pt.cells, Pt.slots] at X8 l8 y8 z8 st8 hQ8
    subst l8 y8 z8
    obtain ⟨rfl, N8q, e8⟩ := hQ8
    have N8 := Fr.app N7 N8q
    refine own_go (T1 := T8) (g1 := (mkF m 61 #[.val (.ref a1), .val (.int (1 : Int32)), .val (.long (17 : Int64)), .second, .unset, .unset] [(.long (32 : Int64))])) (fun t k => st8 t k) ?_
    refine own_go (T1 := T8) (g1 := (mkF m 63 #[.val (.ref a1), .val (.int (1 : Int32)), .val (.long (17 : Int64)), .second, .val (.long (32 : Int64)), .second] [])) (fun _ k => XS.lstore X8.here hx rfl (hb hby d5_61) rfl (l' := #[.val (.ref a1), .val (.int (1 : Int32)), .val (.long (17 : Int64)), .second, .val (.long (32 : Int64)), .second]) rfl k) ?_
    refine own_go (T1 := T8) (g1 := (mkF m 64 #[.val (.ref a1), .val (.int (1 : Int32)), .val (.long (17 : Int64)), .second, .val (.long (32 : Int64)), .second] [(.ref a1)])) (fun _ k => XS.aloadN X8.here hx rfl (hb hby d5_63) rfl rfl k) ?_
    refine own_go (T1 := T8) (g1 := (mkF m 65 #[.val (.ref a1), .val (.int (1 : Int32)), .val (.long (17 : Int64)), .second, .val (.long (32 : Int64)), .second] [(.ref a1), (.ref a1)])) (fun _ k => XS.aloadN X8.here hx rfl (hb hby d5_64) rfl rfl k) ?_
    obtain ⟨T9, X9, e9, st9⟩ := getF X8 hx hZ hown (host := "") (Or.inl (hw _ (List.mem_of_getElem? (i := 10) rfl))) Via.refl e8 Fb (g := (mkF m 65 #[.val (.ref a1), .val (.int (1 : Int32)), .val (.long (17 : Int64)), .second, .val (.long (32 : Int64)), .second] [(.ref a1), (.ref a1)])) rfl rfl (hb hby d5_65)
    refine own_go (T1 := T9) (g1 := (mkF m 68 #[.val (.ref a1), .val (.int (1 : Int32)), .val (.long (17 : Int64)), .second, .val (.long (32 : Int64)), .second] [(.ref bB), (.ref a1)])) (fun t k => st9 t k) ?_
    refine own_go (T1 := T9) (g1 := (mkF m 70 #[.val (.ref a1), .val (.int (1 : Int32)), .val (.long (17 : Int64)), .second, .val (.long (32 : Int64)), .second] [(.long (32 : Int64)), (.ref bB), (.ref a1)])) (fun _ k => XS.lload X9.here hx rfl (hb hby d5_68) rfl k) ?_
    refine own_go (T1 := T9) (g1 := (mkF m 71 #[.val (.ref a1), .val (.int (1 : Int32)), .val (.long (17 : Int64)), .second, .val (.long (32 : Int64)), .second] [(.int ((32 : Int64).toInt32)), (.ref bB), (.ref a1)])) (fun _ k => XS.l2i X9.here hx rfl (hb hby d5_70) rfl k) ?_
    refine own_go (T1 := T9) (g1 := (mkF m 71 #[.val (.ref a1), .val (.int (1 : Int32)), .val (.long (17 : Int64)), .second, .val (.long (32 : Int64)), .second] [(.int (32 : Int32)), (.ref bB), (.ref a1)])) (fun _ k => k) ?_
    obtain ⟨_, _, ⟨T10, L10, k10, n10⟩, -, X10, ⟨Lc10, hQ10, l10, y10, z10⟩, st10⟩ := Jvm.LawKit.callS X9 hx (y := (⟨"java/util/Arrays", "copyOf", "([BI)[B"⟩ : MethodName)) hown (mvT hZ (hw _ (List.mem_of_getElem? (i := 57) rfl))) (mvT hZ (hw _ (List.mem_of_getElem? (i := 58) rfl))) (mvT hZ (hw _ (List.mem_of_getElem? (i := 59) rfl))) (mvT hZ (hw _ (List.mem_of_getElem? (i := 60) rfl))) (by decide) (backOf (W := 1) (rm11 l Z a0 hw [] bB kB vs h0 n0 Z0 Vb) hZ (hw _ (List.mem_of_getElem? (i := 60) rfl)) (hw _ (List.mem_of_getElem? (i := 59) rfl)) (by decide) (by decide)) (g := (mkF m 71 #[.val (.ref a1), .val (.int (1 : Int32)), .val (.long (17 : Int64)), .second, .val (.long (32 : Int64)), .second] [(.int (32 : Int32)), (.ref bB), (.ref a1)])) rfl (by rw [hml]; rfl) (argsL := [(.ref bB), (.int (32 : Int32))]) (rest := [(.ref a1)]) (lenOf own_pd_ABI_AB rfl) rfl (by show 2 * 0 + _ ≤ _; exact Nat.le_of_eq rfl) (hb hby d5_71) (fun _ _ => ⟨rfl, e9, (by decide : 0 + 1 ≤ _), (by decide : 0 + 32 ≤ _)⟩)
    dsimp only [Pt.U, Pt.locs, Pt.cells, Pt.slots] at X10 l10 y10 z10 st10 hQ10
    subst l10 y10 z10
    obtain ⟨b10, kk10, us10, rfl, N10q, K10, sz10, ge10, Vn10⟩ := hQ10
    have N10 := Fr.app N8 N10q
    refine own_go (T1 := T10) (g1 := (mkF m 74 #[.val (.ref a1), .val (.int (1 : Int32)), .val (.long (17 : Int64)), .second, .val (.long (32 : Int64)), .second] [(.ref b10), (.ref a1)])) (fun t k => st10 t k) ?_
    have ne_a1_b10 : a1 ≠ b10 := Nat.ne_of_lt (Nat.lt_of_lt_of_le Fl.lt sz10)
    have ne_bB_b10 : bB ≠ b10 := Nat.ne_of_lt (Nat.lt_of_lt_of_le Vb.lt sz10)
    have ne_bC_b10 : bC ≠ b10 := Nat.ne_of_lt (Nat.lt_of_lt_of_le Vc.lt sz10)
    have Ex_10 : Exa Z T10.heap a1 "com/example/arbordb/arbordb/tree/Encoder" := Ex.keep K10
    have Fb_10 : Fld Z T10.heap a1 "com/example/arbordb/arbordb/tree/Encoder" "bytes" "[B" (.ref bB) := Fb.keep K10 nin0
    have Fc_10 : Fld Z T10.heap a1 "com/example/arbordb/arbordb/tree/Encoder" "chars" "[C" (.ref bC) := Fc.keep K10 nin0
    have Fl_10 : Fld Z T10.heap a1 "com/example/arbordb/arbordb/tree/Encoder" "length" "I" (.int (16 : Int32)) := Fl.keep K10 nin0
    have Vb_10 : Arv Z T10.heap bB kB .byte (16 : Int32) vs (.int 0) := Vb.keep K10 nin0
    have Vc_10 : Arv Z T10.heap bC kC .char (16 : Int32) [] (.int 0) := Vc.keep K10 nin0
    obtain ⟨T11, h11, X11, e11, W11, st11⟩ := putF X10 hx hZ hown (host := "") (Or.inl (hw _ (List.mem_of_getElem? (i := 10) rfl))) Via.refl rfl Fb_10 Ex_10 (Or.inl (hw _ (List.mem_of_getElem? (i := 11) rfl))) (hw _ (List.mem_of_getElem? (i := 1) rfl)) (ty := (.array .byte)) (by decide) rfl rfl (g := (mkF m 74 #[.val (.ref a1), .val (.int (1 : Int32)), .val (.long (17 : Int64)), .second, .val (.long (32 : Int64)), .second] [(.ref b10), (.ref a1)])) rfl rfl (hb hby d5_74)
    have Ex_11 : Exa Z h11 a1 "com/example/arbordb/arbordb/tree/Encoder" := Ex_10.wr W11
    have Fc_11 : Fld Z h11 a1 "com/example/arbordb/arbordb/tree/Encoder" "chars" "[C" (.ref bC) := Fc_10.other W11 (Or.inr (slot_ne (Or.inl (hw _ (List.mem_of_getElem? (i := 14) rfl))) (Or.inl (hw _ (List.mem_of_getElem? (i := 11) rfl))) (by decide) (t := (.array .char)) (t' := (.array .byte)) (by decide) (by decide)))
    have Fl_11 : Fld Z h11 a1 "com/example/arbordb/arbordb/tree/Encoder" "length" "I" (.int (16 : Int32)) := Fl_10.other W11 (Or.inr (slot_ne (Or.inl (hw _ (List.mem_of_getElem? (i := 30) rfl))) (Or.inl (hw _ (List.mem_of_getElem? (i := 11) rfl))) (by decide) (t := .int) (t' := (.array .byte)) (by decide) (by decide)))
    have Vc_11 : Arv Z h11 bC kC .char (16 : Int32) [] (.int 0) := Vc_10.other W11 (Ne.symm n2)
    have Vb_11 : Arv Z h11 b10 kk10 .byte (32 : Int32) us10 (.int 0) := Vn10.other W11 (Ne.symm ne_a1_b10)
    have Fb_11 : Fld Z h11 a1 "com/example/arbordb/arbordb/tree/Encoder" "bytes" "[B" (.ref b10) := Fb_10.same W11
    have Zs11 : n0 ≤ h11.size := Nat.le_trans (Nat.le_trans Z0 K10.1) (Keep.of_wr W11).1
    have N11 := Fr.snoc X11 N10 ga
    refine own_go (T1 := T11) (g1 := (mkF m 77 #[.val (.ref a1), .val (.int (1 : Int32)), .val (.long (17 : Int64)), .second, .val (.long (32 : Int64)), .second] [])) (fun t k => st11 t k) ?_
    exact ⟨T11, _, _, _, _, X11, ⟨77, _, rfl, (hb hby d5_77), rfl, rfl, (by rw [e11]; exact ⟨rfl, N11, b10, _, _, ⟨Ex_11, Fb_11, Fc_11, Fl_11, Vb_11, Vc_11, ga, ge10, gc, ne_a1_b10, n2, ne_bC_b10⟩⟩)⟩, fun _ k => k⟩
  obtain ⟨T', g', L', k', n', X', ⟨pcr, Ls, rfl, hd, rfl, rfl, hQ⟩, st⟩ := main
  obtain ⟨fs, hr, hrun, hended, hW, hsame⟩ := X'.leave (v := none) (fun _ => rfl)
  refine ⟨_, _, castTop (ef_rm5g m a1) (st _ ?_), hrun, hended, _, _, rfl, hQ, ⟨_, rfl⟩, hW, hsame.mono (by decide) (by decide)⟩
  exact X'.returnOut hx Bd.returns hd hr
def Q4 (Z : State) (a1 : Addr) (p2 : Int32) (bB bC : Addr) (kB kC : ClassId) (n len : Int32) (n0 : Nat) (v : Option Value) (h : Heap) (L : List Loc) : Prop := v = none ∧ Fr n0 L ∧ ∃ vs : List Value, own_Enc Z h n0 a1 bB bC kB kC n (len + 1) vs ∧ vs.getD len.toNatClampNeg (.int 0) = .int (nar .byte (p2.toInt8.toInt32))
theorem own_pd_I_V : parseMethodDescriptor "(I)V" = some ⟨[.int], none⟩ := by decide +kernel
theorem d4_0 : decode prog_56_method_9_code 0 = .ok (.aload_n 0, 1) := by decide +kernel
theorem d4_1 : decode prog_56_method_9_code 1 = .ok (.iconst 1, 1) := by decide +kernel
theorem d4_2 : decode prog_56_method_9_code 2 = .ok (.invokevirtual 45, 3) := by decide +kernel
theorem d4_5 : decode prog_56_method_9_code 5 = .ok (.aload_n 0, 1) := by decide +kernel
theorem d4_6 : decode prog_56_method_9_code 6 = .ok (.getfield 11, 3) := by decide +kernel
theorem d4_9 : decode prog_56_method_9_code 9 = .ok (.aload_n 0, 1) := by decide +kernel
theorem d4_10 : decode prog_56_method_9_code 10 = .ok (.dup, 1) := by decide +kernel
theorem d4_11 : decode prog_56_method_9_code 11 = .ok (.getfield 48, 3) := by decide +kernel
theorem d4_14 : decode prog_56_method_9_code 14 = .ok (.dup_x1, 1) := by decide +kernel
theorem d4_15 : decode prog_56_method_9_code 15 = .ok (.iconst 1, 1) := by decide +kernel
theorem d4_16 : decode prog_56_method_9_code 16 = .ok (.iadd, 1) := by decide +kernel
theorem d4_17 : decode prog_56_method_9_code 17 = .ok (.putfield 48, 3) := by decide +kernel
theorem d4_20 : decode prog_56_method_9_code 20 = .ok (.iload_n 1, 1) := by decide +kernel
theorem d4_21 : decode prog_56_method_9_code 21 = .ok (.i2b, 1) := by decide +kernel
theorem d4_22 : decode prog_56_method_9_code 22 = .ok (.bastore, 1) := by decide +kernel
theorem d4_23 : decode prog_56_method_9_code 23 = .ok (.return_, 1) := by decide +kernel
theorem ef_rm4 (m : MethodId) (a1 : Addr) (p2 : Int32) : entryFrame m #[(.ref a1), (.int p2)] 2 = mkF m 0 #[.val (.ref a1), .val (.int p2)] [] := by first | (simp [entryFrame, mkF, argsToLocals, Value.category]; done) | rfl
set_option maxRecDepth 65536 in
set_option maxHeartbeats 4000000 in
theorem rm4 (l : Launch) (Z : State) (a0 : Array Value) (hw : ∀ d ∈ tables_1, d.before a0 Z = true) (ws : List Jvm.Cond) (a1 : Addr) (p2 : Int32) (bB bC : Addr) (kB kC : ClassId) (n len : Int32) (vs : List Value) (h0 : Heap) (n0 : Nat) (Z0 : n0 ≤ h0.size) (HE : own_Enc Z h0 n0 a1 bB bC kB kC n len vs) (hrm : ¬ ((n - len) < (1 : Int32))) (hin : ¬ len < 0 ∧ len < n) :
    MetFree l (⟨"com/example/arbordb/arbordb/tree/Encoder", "add", "(I)V"⟩ : MethodName) (head1 (Jvm.Cond.code (⟨"com/example/arbordb/arbordb/tree/Encoder", "add", "(I)V"⟩ : MethodName) prog_56_method_9_code 2 none :: ws) ({ frames := 1, cells := 0, slots := 0, locals := 17 } : Room)) (fun a U => a = #[(.ref a1), (.int p2)] ∧ Z.Warmed39 U.vm ∧ U.heap = h0) (fun _ _ _ _ _ => True) (fun _ U o U' => ∃ v L, o = .returned v ∧ Q4 Z a1 p2 bB bC kB kC n len n0 v U'.heap L ∧ FrameEnd U o U' L ({ frames := 1, cells := 0, slots := 0, locals := 17 } : Room).cells ({ frames := 1, cells := 0, slots := 0, locals := 17 } : Room).slots) := by
  refine MetFree.of_bodySF (plainFor_of_name (by first | (simp [plainName, overriddenIn]; done) | decide +kernel)) hisR ?_
  intro p e s m args below meth c s₁ Bd hml0 hP hK
  obtain ⟨rfl, hZ, hh⟩ := hP
  have hx := Bd.exec
  have hby := Bd.bytes
  have hml : c.maxLocals = 2 := hml0
  have hown : s.vm.findClass "com/example/arbordb/arbordb/tree/Encoder" = some m.cls := findClass_of_methodNamed Bd.named
  have hnm := (name_of_methodNamed Bd.named Bd.method).1
  have X0 : Stand p l e ({ frames := 1, cells := 0, slots := 0, locals := 17 } : Room) s m #[(.ref a1), (.int p2)] below meth c s₁ [] 0 0 := Stand.of_body Bd
  have e0 : s₁.heap = h0 := by rw [← hh, Bd.state]; rfl
  have N0 := Fr.nil n0
  have main : own_To p l e ({ frames := 1, cells := 0, slots := 0, locals := 17 } : Room) s m #[(.ref a1), (.int p2)] below meth c s₁ (mkF m 0 #[.val (.ref a1), .val (.int p2)] []) (fun T' g' L kq zq => ∃ pcr Ls, g' = mkF m pcr Ls [] ∧ decode c.code pcr = .ok (.return_, 1) ∧ kq = 0 ∧ zq = 0 ∧ Q4 Z a1 p2 bB bC kB kC n len n0 none T'.heap L) := by
    have HE0 := HE
    obtain ⟨Ex, Fb, Fc, Fl, Vb, Vc, ga, gb, gc, n1, n2, n3⟩ := HE
    refine own_go (T1 := s₁) (g1 := (mkF m 1 #[.val (.ref a1), .val (.int p2)] [(.ref a1)])) (fun _ k => XS.aloadN X0.here hx rfl (hb hby d4_0) rfl rfl k) ?_
    refine own_go (T1 := s₁) (g1 := (mkF m 2 #[.val (.ref a1), .val (.int p2)] [(.int (1 : Int32)), (.ref a1)])) (fun _ k => XS.iconst X0.here hx rfl (hb hby d4_1) k) ?_
    obtain ⟨cq1, q1, q1'⟩ := Ex.cell
    obtain ⟨_, _, ⟨T1, L1, k1, n1⟩, -, X1, ⟨Lc1, hQ1, l1, y1, z1⟩, st1⟩ := X0.privateBack hx (y := (⟨"com/example/arbordb/arbordb/tree/Encoder", "room", "(I)V"⟩ : MethodName)) hown (mvT hZ (hw _ (List.mem_of_getElem? (i := 25) rfl))) (mvT hZ (hw _ (List.mem_of_getElem? (i := 26) rfl))) (own_sel hZ hw) (Cond.privateMethod_at (mvP hZ (hw _ (List.mem_of_getElem? (i := 27) rfl)) (args := #[]))) (mvT hZ (hw _ (List.mem_of_getElem? (i := 28) rfl))) (by decide) (backOf (W := 0) (rm5 l Z a0 hw [] a1 bB bC kB kC n len vs h0 n0 Z0 HE0 hrm) hZ (hw _ (List.mem_of_getElem? (i := 28) rfl)) (hw _ (List.mem_of_getElem? (i := 2) rfl)) (by decide) (by decide)) (g := (mkF m 2 #[.val (.ref a1), .val (.int p2)] [(.int (1 : Int32)), (.ref a1)])) rfl (by rw [hml]; rfl) (Steps.refl _) (a := a1) (by rw [e0]; exact q1) q1' (argsL := [(.int (1 : Int32))]) (rest := []) (lenOf own_pd_I_V rfl) rfl (by show 2 * 0 + _ ≤ _; exact Nat.le_of_eq rfl) (hb hby d4_2) (fun _ _ => ⟨rfl, e0, (by decide : 0 + 0 ≤ _), (by decide : 0 + 0 ≤ _)⟩)
    dsimp only [Pt.U, Pt.locs, Pt.cells, Pt.slots] at X1 l1 y1 z1 st1 hQ1
    subst l1 y1 z1
    obtain ⟨rfl, N1q, e1⟩ := hQ1
    have N1 := Fr.app N0 N1q
    refine own_go (T1 := T1) (g1 := (mkF m 5 #[.val (.ref a1), .val (.int p2)] [])) (fun t k => st1.trans k) ?_
    refine own_go (T1 := T1) (g1 := (mkF m 6 #[.val (.ref a1), .val (.int p2)] [(.ref a1)])) (fun _ k => XS.aloadN X1.here hx rfl (hb hby d4_5) rfl rfl k) ?_
    obtain ⟨T2, X2, e2, st2⟩ := getF X1 hx hZ hown (host := "") (Or.inl (hw _ (List.mem_of_getElem? (i := 10) rfl))) Via.refl e1 Fb (g := (mkF m 6 #[.val (.ref a1), .val (.int p2)] [(.ref a1)])) rfl rfl (hb hby d4_6)
    refine own_go (T1 := T2) (g1 := (mkF m 9 #[.val (.ref a1), .val (.int p2)] [(.ref bB)])) (fun t k => st2 t k) ?_
    refine own_go (T1 := T2) (g1 := (mkF m 10 #[.val (.ref a1), .val (.int p2)] [(.ref a1), (.ref bB)])) (fun _ k => XS.aloadN X2.here hx rfl (hb hby d4_9) rfl rfl k) ?_
    refine own_go (T1 := T2) (g1 := (mkF m 11 #[.val (.ref a1), .val (.int p2)] [(.ref a1), (.ref a1), (.ref bB)])) (fun _ k => XS.dup X2.here hx rfl (hb hby d4_10) rfl rfl k) ?_
    obtain ⟨T3, X3, e3, st3⟩ := getF X2 hx hZ hown (host := "") (Or.inl (hw _ (List.mem_of_getElem? (i := 29) rfl))) Via.refl e2 Fl (g := (mkF m 11 #[.val (.ref a1), .val (.int p2)] [(.ref a1), (.ref a1), (.ref bB)])) rfl rfl (hb hby d4_11)
    refine own_go (T1 := T3) (g1 := (mkF m 14 #[.val (.ref a1), .val (.int p2)] [(.int len), (.ref a1), (.ref bB)])) (fun t k => st3 t k) ?_
    refine own_go (T1 := T3) (g1 := (mkF m 15 #[.val (.ref a1), .val (.int p2)] [(.int len), (.ref a1), (.int len), (.ref bB)])) (fun _ k => XS.dupX1 X3.here hx rfl (hb hby d4_14) rfl rfl rfl k) ?_
    refine own_go (T1 := T3) (g1 := (mkF m 16 #[.val (.ref a1), .val (.int p2)] [(.int (1 : Int32)), (.int len), (.ref a1), (.int len), (.ref bB)])) (fun _ k => XS.iconst X3.here hx rfl (hb hby d4_15) k) ?_
    refine own_go (T1 := T3) (g1 := (mkF m 17 #[.val (.ref a1), .val (.int p2)] [(.int (len + (1 : Int32))), (.ref a1), (.int len), (.ref bB)])) (fun _ k => XS.iadd X3.here hx rfl (hb hby d4_16) rfl k) ?_
    obtain ⟨T4, h4, X4, e4, W4, st4⟩ := putF X3 hx hZ hown (host := "") (Or.inl (hw _ (List.mem_of_getElem? (i := 29) rfl))) Via.refl e3 Fl Ex (Or.inl (hw _ (List.mem_of_getElem? (i := 30) rfl))) (hw _ (List.mem_of_getElem? (i := 1) rfl)) (ty := .int) (by decide) rfl rfl (g := (mkF m 17 #[.val (.ref a1), .val (.int p2)] [(.int (len + (1 : Int32))), (.ref a1), (.int len), (.ref bB)])) rfl rfl (hb hby d4_17)
    have Ex_4 : Exa Z h4 a1 "com/example/arbordb/arbordb/tree/Encoder" := Ex.wr W4
    have Fb_4 : Fld Z h4 a1 "com/example/arbordb/arbordb/tree/Encoder" "bytes" "[B" (.ref bB) := Fb.other W4 (Or.inr (slot_ne (Or.inl (hw _ (List.mem_of_getElem? (i := 11) rfl))) (Or.inl (hw _ (List.mem_of_getElem? (i := 30) rfl))) (by decide) (t := (.array .byte)) (t' := .int) (by decide) (by decide)))
    have Fc_4 : Fld Z h4 a1 "com/example/arbordb/arbordb/tree/Encoder" "chars" "[C" (.ref bC) := Fc.other W4 (Or.inr (slot_ne (Or.inl (hw _ (List.mem_of_getElem? (i := 14) rfl))) (Or.inl (hw _ (List.mem_of_getElem? (i := 30) rfl))) (by decide) (t := (.array .char)) (t' := .int) (by decide) (by decide)))
    have Vb_4 : Arv Z h4 bB kB .byte n vs (.int 0) := Vb.other W4 (Ne.symm n1)
    have Vc_4 : Arv Z h4 bC kC .char (16 : Int32) [] (.int 0) := Vc.other W4 (Ne.symm n2)
    have Fl_4 : Fld Z h4 a1 "com/example/arbordb/arbordb/tree/Encoder" "length" "I" (.int (len + (1 : Int32))) := Fl.same W4
    have Zs4 : n0 ≤ h4.size := Nat.le_trans Z0 (Keep.of_wr W4).1
    have N4 := Fr.snoc X4 N1 ga
    refine own_go (T1 := T4) (g1 := (mkF m 20 #[.val (.ref a1), .val (.int p2)] [(.int len), (.ref bB)])) (fun t k => st4 t k) ?_
    refine own_go (T1 := T4) (g1 := (mkF m 21 #[.val (.ref a1), .val (.int p2)] [(.int p2), (.int len), (.ref bB)])) (fun _ k => XS.iloadN X4.here hx rfl (hb hby d4_20) rfl k) ?_
    refine own_go (T1 := T4) (g1 := (mkF m 22 #[.val (.ref a1), .val (.int p2)] [(.int (p2.toInt8.toInt32)), (.int len), (.ref bB)])) (fun _ k => XS.i2b X4.here hx rfl (hb hby d4_21) rfl k) ?_
    have Vp5 : Arv Z h4 bB kB .byte n (vs ++ List.replicate ((len).toNatClampNeg + 1) (Value.int 0)) (.int 0) := Vb_4.pad (pad_rep _ _ _)
    obtain ⟨cl5, Ar5, q5, S5, Nn5, H5, G5⟩ := id Vp5
    obtain ⟨T5, h5, X5, e5, W5, st5⟩ := stB X4 hx hZ e4 Ar5 (j := len) (inb_of S5 hin) (g := (mkF m 22 #[.val (.ref a1), .val (.int p2)] [(.int (p2.toInt8.toInt32)), (.int len), (.ref bB)])) rfl rfl (hb hby d4_22)
    have Ex_5 : Exa Z h5 a1 "com/example/arbordb/arbordb/tree/Encoder" := Ex_4.wr W5
    have Fb_5 : Fld Z h5 a1 "com/example/arbordb/arbordb/tree/Encoder" "bytes" "[B" (.ref bB) := Fb_4.other W5 (Or.inl n1)
    have Fc_5 : Fld Z h5 a1 "com/example/arbordb/arbordb/tree/Encoder" "chars" "[C" (.ref bC) := Fc_4.other W5 (Or.inl n1)
    have Vc_5 : Arv Z h5 bC kC .char (16 : Int32) [] (.int 0) := Vc_4.other W5 n3
    have Fl_5 : Fld Z h5 a1 "com/example/arbordb/arbordb/tree/Encoder" "length" "I" (.int (len + (1 : Int32))) := Fl_4.other W5 (Or.inl n1)
    have Vb_5 : Arv Z h5 bB kB .byte n ((vs ++ List.replicate ((len).toNatClampNeg + 1) (Value.int 0)).set (len).toNatClampNeg (.int (nar .byte (p2.toInt8.toInt32)))) (.int 0) := Arv.set Ar5 q5 S5 Nn5 H5 G5 (fits_nar_byte _) W5 (len).toNatClampNeg rfl (by first | (simp; done) | (simp; omega))
    have Zs5 : n0 ≤ h5.size := Nat.le_trans Zs4 (Keep.of_wr W5).1
    have N5 := Fr.snoc X5 N4 gb
    refine own_go (T1 := T5) (g1 := (mkF m 23 #[.val (.ref a1), .val (.int p2)] [])) (fun t k => st5 t k) ?_
    exact ⟨T5, _, _, _, _, X5, ⟨23, _, rfl, (hb hby d4_23), rfl, rfl, (by rw [e5]; exact ⟨rfl, N5, _, ⟨Ex_5, Fb_5, Fc_5, Fl_5, Vb_5, Vc_5, ga, gb, gc, n1, n2, n3⟩, own_getset _ _ _ (by simp; omega)⟩)⟩, fun _ k => k⟩
  obtain ⟨T', g', L', k', n', X', ⟨pcr, Ls, rfl, hd, rfl, rfl, hQ⟩, st⟩ := main
  obtain ⟨fs, hr, hrun, hended, hW, hsame⟩ := X'.leave (v := none) (fun _ => rfl)
  refine ⟨_, _, castTop (ef_rm4 m a1 p2) (st _ ?_), hrun, hended, _, _, rfl, hQ, ⟨_, rfl⟩, hW, hsame.mono (by decide) (by decide)⟩
  exact X'.returnOut hx Bd.returns hd hr
def Q4g (Z : State) (a1 bC : Addr) (kC : ClassId) (n0 : Nat) (v : Option Value) (h : Heap) (L : List Loc) : Prop := v = none ∧ Fr n0 L ∧ ∃ (bB : Addr) (kB : ClassId) (vs : List Value), own_Enc Z h n0 a1 bB bC kB kC 32 17 vs
theorem ef_rm4g (m : MethodId) (a1 : Addr) (p2 : Int32) : entryFrame m #[(.ref a1), (.int p2)] 2 = mkF m 0 #[.val (.ref a1), .val (.int p2)] [] := by first | (simp [entryFrame, mkF, argsToLocals, Value.category]; done) | rfl
set_option maxRecDepth 65536 in
set_option maxHeartbeats 4000000 in
theorem rm4g (l : Launch) (Z : State) (a0 : Array Value) (hw : ∀ d ∈ tables_1, d.before a0 Z = true) (ws : List Jvm.Cond) (a1 : Addr) (p2 : Int32) (bB bC : Addr) (kB kC : ClassId) (vs : List Value) (h0 : Heap) (n0 : Nat) (Z0 : n0 ≤ h0.size) (HE : own_Enc Z h0 n0 a1 bB bC kB kC 16 16 vs) :
    MetFree l (⟨"com/example/arbordb/arbordb/tree/Encoder", "add", "(I)V"⟩ : MethodName) (head1 (Jvm.Cond.code (⟨"com/example/arbordb/arbordb/tree/Encoder", "add", "(I)V"⟩ : MethodName) prog_56_method_9_code 2 none :: ws) ({ frames := 3, cells := 1, slots := 32, locals := 50 } : Room)) (fun a U => a = #[(.ref a1), (.int p2)] ∧ Z.Warmed39 U.vm ∧ U.heap = h0) (fun _ _ _ _ _ => True) (fun _ U o U' => ∃ v L, o = .returned v ∧ Q4g Z a1 bC kC n0 v U'.heap L ∧ FrameEnd U o U' L ({ frames := 3, cells := 1, slots := 32, locals := 50 } : Room).cells ({ frames := 3, cells := 1, slots := 32, locals := 50 } : Room).slots) := by
  refine MetFree.of_bodySF (plainFor_of_name (by first | (simp [plainName, overriddenIn]; done) | decide +kernel)) hisR ?_
  intro p e s m args below meth c s₁ Bd hml0 hP hK
  obtain ⟨rfl, hZ, hh⟩ := hP
  have hx := Bd.exec
  have hby := Bd.bytes
  have hml : c.maxLocals = 2 := hml0
  have hown : s.vm.findClass "com/example/arbordb/arbordb/tree/Encoder" = some m.cls := findClass_of_methodNamed Bd.named
  have hnm := (name_of_methodNamed Bd.named Bd.method).1
  have X0 : Stand p l e ({ frames := 3, cells := 1, slots := 32, locals := 50 } : Room) s m #[(.ref a1), (.int p2)] below meth c s₁ [] 0 0 := Stand.of_body Bd
  have e0 : s₁.heap = h0 := by rw [← hh, Bd.state]; rfl
  have N0 := Fr.nil n0
  have main : own_To p l e ({ frames := 3, cells := 1, slots := 32, locals := 50 } : Room) s m #[(.ref a1), (.int p2)] below meth c s₁ (mkF m 0 #[.val (.ref a1), .val (.int p2)] []) (fun T' g' L kq zq => ∃ pcr Ls, g' = mkF m pcr Ls [] ∧ decode c.code pcr = .ok (.return_, 1) ∧ kq = 1 ∧ zq = 32 ∧ Q4g Z a1 bC kC n0 none T'.heap L) := by
    have HE0 := HE
    obtain ⟨Ex, Fb, Fc, Fl, Vb, Vc, ga, gb, gc, n1, n2, n3⟩ := HE
    refine own_go (T1 := s₁) (g1 := (mkF m 1 #[.val (.ref a1), .val (.int p2)] [(.ref a1)])) (fun _ k => XS.aloadN X0.here hx rfl (hb hby d4_0) rfl rfl k) ?_
    refine own_go (T1 := s₁) (g1 := (mkF m 2 #[.val (.ref a1), .val (.int p2)] [(.int (1 : Int32)), (.ref a1)])) (fun _ k => XS.iconst X0.here hx rfl (hb hby d4_1) k) ?_
    obtain ⟨cq1, q1, q1'⟩ := Ex.cell
    obtain ⟨_, _, ⟨T1, L1, k1, n1⟩, -, X1, ⟨Lc1, hQ1, l1, y1, z1⟩, st1⟩ := X0.privateBack hx (y := (⟨"com/example/arbordb/arbordb/tree/Encoder", "room", "(I)V"⟩ : MethodName)) hown (mvT hZ (hw _ (List.mem_of_getElem? (i := 25) rfl))) (mvT hZ (hw _ (List.mem_of_getElem? (i := 26) rfl))) (own_sel hZ hw) (Cond.privateMethod_at (mvP hZ (hw _ (List.mem_of_getElem? (i := 27) rfl)) (args := #[]))) (mvT hZ (hw _ (List.mem_of_getElem? (i := 28) rfl))) (by decide) (backOf (W := 0) (rm5g l Z a0 hw [] a1 bB bC kB kC vs h0 n0 Z0 HE0) hZ (hw _ (List.mem_of_getElem? (i := 28) rfl)) (hw _ (List.mem_of_getElem? (i := 2) rfl)) (by decide) (by decide)) (g := (mkF m 2 #[.val (.ref a1), .val (.int p2)] [(.int (1 : Int32)), (.ref a1)])) rfl (by rw [hml]; rfl) (Steps.refl _) (a := a1) (by rw [e0]; exact q1) q1' (argsL := [(.int (1 : Int32))]) (rest := []) (lenOf own_pd_I_V rfl) rfl (by show 2 * 0 + _ ≤ _; exact Nat.le_of_eq rfl) (hb hby d4_2) (fun _ _ => ⟨rfl, e0, (by decide : 0 + 1 ≤ _), (by decide : 0 + 32 ≤ _)⟩)
    dsimp only [Pt.U, Pt.locs, Pt.cells, Pt.slots] at X1 l1 y1 z1 st1 hQ1
    subst l1 y1 z1
    obtain ⟨rfl, N1q, nB1, nk1, nv1, HE1⟩ := hQ1
    have N1 := Fr.app N0 N1q
    refine own_go (T1 := T1) (g1 := (mkF m 5 #[.val (.ref a1), .val (.int p2)] [])) (fun t k => st1.trans k) ?_
    obtain ⟨Ex1, Fb1, Fc1, Fl1, Vb1, Vc1, ga1, gb1, gc1, n11, n21, n31⟩ := HE1
    refine own_go (T1 := T1) (g1 := (mkF m 6 #[.val (.ref a1), .val (.int p2)] [(.ref a1)])) (fun _ k => XS.aloadN X1.here hx rfl (hb hby d4_5) rfl rfl k) ?_
    obtain ⟨T2, X2, e2, st2⟩ := getF X1 hx hZ hown (host := "") (Or.inl (hw _ (List.mem_of_getElem? (i := 10) rfl))) Via.refl rfl Fb1 (g := (mkF m 6 #[.val (.ref a1), .val (.int p2)] [(.ref a1)])) rfl rfl (hb hby d4_6)
    refine own_go (T1 := T2) (g1 := (mkF m 9 #[.val (.ref a1), .val (.int p2)] [(.ref nB1)])) (fun t k => st2 t k) ?_
    refine own_go (T1 := T2) (g1 := (mkF m 10 #[.val (.ref a1), .val (.int p2)] [(.ref a1), (.ref nB1)])) (fun _ k => XS.aloadN X2.here hx rfl (hb hby d4_9) rfl rfl k) ?_
    refine own_go (T1 := T2) (g1 := (mkF m 11 #[.val (.ref a1), .val (.int p2)] [(.ref a1), (.ref a1), (.ref nB1)])) (fun _ k => XS.dup X2.here hx rfl (hb hby d4_10) rfl rfl k) ?_
    obtain ⟨T3, X3, e3, st3⟩ := getF X2 hx hZ hown (host := "") (Or.inl (hw _ (List.mem_of_getElem? (i := 29) rfl))) Via.refl e2 Fl1 (g := (mkF m 11 #[.val (.ref a1), .val (.int p2)] [(.ref a1), (.ref a1), (.ref nB1)])) rfl rfl (hb hby d4_11)
    refine own_go (T1 := T3) (g1 := (mkF m 14 #[.val (.ref a1), .val (.int p2)] [(.int (16 : Int32)), (.ref a1), (.ref nB1)])) (fun t k => st3 t k) ?_
    refine own_go (T1 := T3) (g1 := (mkF m 15 #[.val (.ref a1), .val (.int p2)] [(.int (16 : Int32)), (.ref a1), (.int (16 : Int32)), (.ref nB1)])) (fun _ k => XS.dupX1 X3.here hx rfl (hb hby d4_14) rfl rfl rfl k) ?_
    refine own_go (T1 := T3) (g1 := (mkF m 16 #[.val (.ref a1), .val (.int p2)] [(.int (1 : Int32)), (.int (16 : Int32)), (.ref a1), (.int (16 : Int32)), (.ref nB1)])) (fun _ k => XS.iconst X3.here hx rfl (hb hby d4_15) k) ?_
    refine own_go (T1 := T3) (g1 := (mkF m 17 #[.val (.ref a1), .val (.int p2)] [(.int ((16 : Int32) + (1 : Int32))), (.ref a1), (.int (16 : Int32)), (.ref nB1)])) (fun _ k => XS.iadd X3.here hx rfl (hb hby d4_16) rfl k) ?_
    obtain ⟨T4, h4, X4, e4, W4, st4⟩ := putF X3 hx hZ hown (host := "") (Or.inl (hw _ (List.mem_of_getElem? (i := 29) rfl))) Via.refl e3 Fl1 Ex1 (Or.inl (hw _ (List.mem_of_getElem? (i := 30) rfl))) (hw _ (List.mem_of_getElem? (i := 1) rfl)) (ty := .int) (by decide) rfl rfl (g := (mkF m 17 #[.val (.ref a1), .val (.int p2)] [(.int ((16 : Int32) + (1 : Int32))), (.ref a1), (.int (16 : Int32)), (.ref nB1)])) rfl rfl (hb hby d4_17)
    have Ex_4 : Exa Z h4 a1 "com/example/arbordb/arbordb/tree/Encoder" := Ex1.wr W4
    have Fb_4 : Fld Z h4 a1 "com/example/arbordb/arbordb/tree/Encoder" "bytes" "[B" (.ref nB1) := Fb1.other W4 (Or.inr (slot_ne (Or.inl (hw _ (List.mem_of_getElem? (i := 11) rfl))) (Or.inl (hw _ (List.mem_of_getElem? (i := 30) rfl))) (by decide) (t := (.array .byte)) (t' := .int) (by decide) (by decide)))
    have Fc_4 : Fld Z h4 a1 "com/example/arbordb/arbordb/tree/Encoder" "chars" "[C" (.ref bC) := Fc1.other W4 (Or.inr (slot_ne (Or.inl (hw _ (List.mem_of_getElem? (i := 14) rfl))) (Or.inl (hw _ (List.mem_of_getElem? (i := 30) rfl))) (by decide) (t := (.array .char)) (t' := .int) (by decide) (by decide)))
    have Vb_4 : Arv Z h4 nB1 nk1 .byte (32 : Int32) nv1 (.int 0) := Vb1.other W4 (Ne.symm n11)
    have Vc_4 : Arv Z h4 bC kC .char (16 : Int32) [] (.int 0) := Vc1.other W4 (Ne.symm n21)
    have Fl_4 : Fld Z h4 a1 "com/example/arbordb/arbordb/tree/Encoder" "length" "I" (.int ((16 : Int32) + (1 : Int32))) := Fl1.same W4
    have Zs4 : n0 ≤ h4.size := Nat.le_trans (Nat.le_of_lt (Nat.lt_of_le_of_lt ga1 Ex1.lt)) (Keep.of_wr W4).1
    have N4 := Fr.snoc X4 N1 ga1
    refine own_go (T1 := T4) (g1 := (mkF m 20 #[.val (.ref a1), .val (.int p2)] [(.int (16 : Int32)), (.ref nB1)])) (fun t k => st4 t k) ?_
    refine own_go (T1 := T4) (g1 := (mkF m 21 #[.val (.ref a1), .val (.int p2)] [(.int p2), (.int (16 : Int32)), (.ref nB1)])) (fun _ k => XS.iloadN X4.here hx rfl (hb hby d4_20) rfl k) ?_
    refine own_go (T1 := T4) (g1 := (mkF m 22 #[.val (.ref a1), .val (.int p2)] [(.int (p2.toInt8.toInt32)), (.int (16 : Int32)), (.ref nB1)])) (fun _ k => XS.i2b X4.here hx rfl (hb hby d4_21) rfl k) ?_
    have Vp5 : Arv Z h4 nB1 nk1 .byte (32 : Int32) (nv1 ++ List.replicate (((16 : Int32)).toNatClampNeg + 1) (Value.int 0)) (.int 0) := Vb_4.pad (pad_rep _ _ _)
    obtain ⟨cl5, Ar5, q5, S5, Nn5, H5, G5⟩ := id Vp5
    obtain ⟨T5, h5, X5, e5, W5, st5⟩ := stB X4 hx hZ e4 Ar5 (j := (16 : Int32)) (inb_of S5 ⟨by decide, by decide⟩) (g := (mkF m 22 #[.val (.ref a1), .val (.int p2)] [(.int (p2.toInt8.toInt32)), (.int (16 : Int32)), (.ref nB1)])) rfl rfl (hb hby d4_22)
    have Ex_5 : Exa Z h5 a1 "com/example/arbordb/arbordb/tree/Encoder" := Ex_4.wr W5
    have Fb_5 : Fld Z h5 a1 "com/example/arbordb/arbordb/tree/Encoder" "bytes" "[B" (.ref nB1) := Fb_4.other W5 (Or.inl n11)
    have Fc_5 : Fld Z h5 a1 "com/example/arbordb/arbordb/tree/Encoder" "chars" "[C" (.ref bC) := Fc_4.other W5 (Or.inl n11)
    have Vc_5 : Arv Z h5 bC kC .char (16 : Int32) [] (.int 0) := Vc_4.other W5 n31
    have Fl_5 : Fld Z h5 a1 "com/example/arbordb/arbordb/tree/Encoder" "length" "I" (.int ((16 : Int32) + (1 : Int32))) := Fl_4.other W5 (Or.inl n11)
    have Vb_5 : Arv Z h5 nB1 nk1 .byte (32 : Int32) ((nv1 ++ List.replicate (((16 : Int32)).toNatClampNeg + 1) (Value.int 0)).set ((16 : Int32)).toNatClampNeg (.int (nar .byte (p2.toInt8.toInt32)))) (.int 0) := Arv.set Ar5 q5 S5 Nn5 H5 G5 (fits_nar_byte _) W5 ((16 : Int32)).toNatClampNeg rfl (by first | (simp; done) | (simp; omega))
    have Zs5 : n0 ≤ h5.size := Nat.le_trans Zs4 (Keep.of_wr W5).1
    have N5 := Fr.snoc X5 N4 gb1
    refine own_go (T1 := T5) (g1 := (mkF m 23 #[.val (.ref a1), .val (.int p2)] [])) (fun t k => st5 t k) ?_
    exact ⟨T5, _, _, _, _, X5, ⟨23, _, rfl, (hb hby d4_23), rfl, rfl, (by rw [e5]; exact ⟨rfl, N5, _, _, _, ⟨Ex_5, Fb_5, Fc_5, Fl_5, Vb_5, Vc_5, ga1, gb1, gc1, n11, n21, n31⟩⟩)⟩, fun _ k => k⟩
  obtain ⟨T', g', L', k', n', X', ⟨pcr, Ls, rfl, hd, rfl, rfl, hQ⟩, st⟩ := main
  obtain ⟨fs, hr, hrun, hended, hW, hsame⟩ := X'.leave (v := none) (fun _ => rfl)
  refine ⟨_, _, castTop (ef_rm4g m a1 p2) (st _ ?_), hrun, hended, _, _, rfl, hQ, ⟨_, rfl⟩, hW, hsame.mono (by decide) (by decide)⟩
  exact X'.returnOut hx Bd.returns hd hr
theorem d3_5 : decode prog_56_method_8_code 5 = .ok (.iload 4, 2) := by decide +kernel
theorem d3_7 : decode prog_56_method_8_code 7 = .ok (.ifCond .lt 21, 3) := by decide +kernel
theorem d3_10 : decode prog_56_method_8_code 10 = .ok (.aload_n 0, 1) := by decide +kernel
theorem d3_11 : decode prog_56_method_8_code 11 = .ok (.lload_n 1, 1) := by decide +kernel
theorem d3_12 : decode prog_56_method_8_code 12 = .ok (.bipush 8, 2) := by decide +kernel
theorem d3_14 : decode prog_56_method_8_code 14 = .ok (.iload 4, 2) := by decide +kernel
theorem d3_16 : decode prog_56_method_8_code 16 = .ok (.imul, 1) := by decide +kernel
theorem d3_17 : decode prog_56_method_8_code 17 = .ok (.lushr, 1) := by decide +kernel
theorem d3_18 : decode prog_56_method_8_code 18 = .ok (.l2i, 1) := by decide +kernel
theorem d3_19 : decode prog_56_method_8_code 19 = .ok (.invokevirtual 25, 3) := by decide +kernel
theorem d3_22 : decode prog_56_method_8_code 22 = .ok (.iinc 4 (-1), 3) := by decide +kernel
theorem d3_25 : decode prog_56_method_8_code 25 = .ok (.goto (-20), 3) := by decide +kernel
set_option maxRecDepth 65536 in
set_option maxHeartbeats 4000000 in
theorem own_tn0 {p : Program} {l : Launch} {e : Env} {s : State} {m : MethodId} {args : Array Value} {below : List Frame} {meth : Method} {c : Code} {T0 : State} {locs : List Loc} {Z : State} {a0 : Array Value} {h0 : Heap} {n0 : Nat} (a1 : Addr) (q : Int64) (w3 i : Int32) (bB bC : Addr) (kB kC : ClassId) (n len : Int32) (vs : List Value) (X0 : Stand p l e ({ frames := 4, cells := 1, slots := 32, locals := 63 } : Room) s m args below meth c T0 locs 0 0) (hx : p.tables.exec = Jvm.exec) (hZ : Z.Warmed39 s.vm) (hw : ∀ d ∈ tables_1, d.before a0 Z = true) (hby : c.code = prog_56_method_8_code) (hml : c.maxLocals = 5) (hown : s.vm.findClass "com/example/arbordb/arbordb/tree/Encoder" = some m.cls) (e0 : T0.heap = h0) (N0 : Fr n0 locs) (hi : ¬ i < (0 : Int32)) (HE : own_Enc Z h0 n0 a1 bB bC kB kC n len vs) (hrm : ¬ ((n - len) < (1 : Int32))) (hin : ¬ len < 0 ∧ len < n) :
    own_To p l e ({ frames := 4, cells := 1, slots := 32, locals := 63 } : Room) s m args below meth c T0 (mkF m 5 #[.val (.ref a1), .val (.long q), .second, .val (.int w3), .val (.int i)] []) (fun T' g' L k z => g' = mkF m 5 #[.val (.ref a1), .val (.long q), .second, .val (.int w3), .val (.int (i + (-1 : Int32)))] [] ∧ k = 0 ∧ z = 0 ∧ Fr n0 L ∧ ∃ vs' : List Value, own_Enc Z T'.heap n0 a1 bB bC kB kC n (len + 1) vs') := by
  have Z0 : n0 ≤ h0.size := Nat.le_of_lt (Nat.lt_of_le_of_lt HE.2.2.2.2.2.2.1 HE.1.lt)
  have HE0 := HE
  obtain ⟨Ex, Fb, Fc, Fl, Vb, Vc, ga, gb, gc, n1, n2, n3⟩ := HE
  refine own_go (T1 := T0) (g1 := (mkF m 7 #[.val (.ref a1), .val (.long q), .second, .val (.int w3), .val (.int i)] [(.int i)])) (fun _ k => XS.iload X0.here hx rfl (hb hby d3_5) rfl k) ?_
  refine own_go (T1 := T0) (g1 := (mkF m 10 #[.val (.ref a1), .val (.long q), .second, .val (.int w3), .val (.int i)] [])) (fun _ k => XS.ifNo X0.here hx rfl (hb hby d3_7) rfl ((if0 _ _).trans (flt (hi : ¬ (i < (0 : Int32)))).1) k) ?_
  refine own_go (T1 := T0) (g1 := (mkF m 11 #[.val (.ref a1), .val (.long q), .second, .val (.int w3), .val (.int i)] [(.ref a1)])) (fun _ k => XS.aloadN X0.here hx rfl (hb hby d3_10) rfl rfl k) ?_
  refine own_go (T1 := T0) (g1 := (mkF m 12 #[.val (.ref a1), .val (.long q), .second, .val (.int w3), .val (.int i)] [(.long q), (.ref a1)])) (fun _ k => XS.lloadN X0.here hx rfl (hb hby d3_11) rfl k) ?_
  refine own_go (T1 := T0) (g1 := (mkF m 14 #[.val (.ref a1), .val (.long q), .second, .val (.int w3), .val (.int i)] [(.int (8 : Int32)), (.long q), (.ref a1)])) (fun _ k => XS.bipush X0.here hx rfl (hb hby d3_12) k) ?_
  refine own_go (T1 := T0) (g1 := (mkF m 16 #[.val (.ref a1), .val (.long q), .second, .val (.int w3), .val (.int i)] [(.int i), (.int (8 : Int32)), (.long q), (.ref a1)])) (fun _ k => XS.iload X0.here hx rfl (hb hby d3_14) rfl k) ?_
  refine own_go (T1 := T0) (g1 := (mkF m 17 #[.val (.ref a1), .val (.long q), .second, .val (.int w3), .val (.int i)] [(.int ((8 : Int32) * i)), (.long q), (.ref a1)])) (fun _ k => XS.imul X0.here hx rfl (hb hby d3_16) rfl k) ?_
  refine own_go (T1 := T0) (g1 := (mkF m 18 #[.val (.ref a1), .val (.long q), .second, .val (.int w3), .val (.int i)] [(.long (own_ushrL q ((8 : Int32) * i))), (.ref a1)])) (fun _ k => XS.lushr X0.here hx rfl (hb hby d3_17) rfl k) ?_
  refine own_go (T1 := T0) (g1 := (mkF m 19 #[.val (.ref a1), .val (.long q), .second, .val (.int w3), .val (.int i)] [(.int ((own_ushrL q ((8 : Int32) * i)).toInt32)), (.ref a1)])) (fun _ k => XS.l2i X0.here hx rfl (hb hby d3_18) rfl k) ?_
  obtain ⟨cq1, kq1, q1a, q1b, q1c⟩ := isOf hZ e0 Ex
  obtain ⟨_, _, ⟨T1, L1, k1, n1⟩, -, X1, ⟨Lc1, hQ1, l1, y1, z1⟩, st1⟩ := X0.virtualBack hx (y := (⟨"com/example/arbordb/arbordb/tree/Encoder", "add", "(I)V"⟩ : MethodName)) (z := (⟨"com/example/arbordb/arbordb/tree/Encoder", "add", "(I)V"⟩ : MethodName)) hown (mvT hZ (hw _ (List.mem_of_getElem? (i := 20) rfl))) (mvT hZ (hw _ (List.mem_of_getElem? (i := 21) rfl))) (notFace_of_selects (args := #[]) (mvT hZ (hw _ (List.mem_of_getElem? (i := 23) rfl)))) (mvT hZ (hw _ (List.mem_of_getElem? (i := 23) rfl))) (mvT hZ (hw _ (List.mem_of_getElem? (i := 22) rfl))) (by decide) (backOf (W := 0) (rm4 l Z a0 hw [] a1 ((own_ushrL q ((8 : Int32) * i)).toInt32) bB bC kB kC n len vs h0 n0 Z0 HE0 hrm hin) hZ (hw _ (List.mem_of_getElem? (i := 24) rfl)) (hw _ (List.mem_of_getElem? (i := 2) rfl)) (by decide) (by decide)) q1a q1c (g := (mkF m 19 #[.val (.ref a1), .val (.long q), .second, .val (.int w3), .val (.int i)] [(.int ((own_ushrL q ((8 : Int32) * i)).toInt32)), (.ref a1)])) rfl (by rw [hml]; rfl) (Steps.refl _) (argsL := [(.int ((own_ushrL q ((8 : Int32) * i)).toInt32))]) (rest := []) (lenOf own_pd_I_V rfl) rfl (by show 2 * 0 + _ ≤ _; exact Nat.le_of_eq rfl) (hb hby d3_19) (fun _ _ => ⟨rfl, e0, (by decide : 0 + 0 ≤ _), (by decide : 0 + 0 ≤ _)⟩)
  dsimp only [Pt.U, Pt.locs, Pt.cells, Pt.slots] at X1 l1 y1 z1 st1 hQ1
  subst l1 y1 z1
  obtain ⟨rfl, N1q, nv1, HE1, -⟩ := hQ1
  have N1 := Fr.app N0 N1q
  refine own_go (T1 := T1) (g1 := (mkF m 22 #[.val (.ref a1), .val (.long q), .second, .val (.int w3), .val (.int i)] [])) (fun t k => st1.trans k) ?_
  refine own_go (T1 := T1) (g1 := (mkF m 25 #[.val (.ref a1), .val (.long q), .second, .val (.int w3), .val (.int (i + (-1 : Int32)))] [])) (fun _ k => XS.iinc X1.here hx rfl (hb hby d3_22) rfl (l' := #[.val (.ref a1), .val (.long q), .second, .val (.int w3), .val (.int (i + (-1 : Int32)))]) rfl k) ?_
  refine own_go (T1 := T1) (g1 := (mkF m 5 #[.val (.ref a1), .val (.long q), .second, .val (.int w3), .val (.int (i + (-1 : Int32)))] [])) (fun _ k => XS.goto X1.here hx rfl (pc0 := 25) (pc' := 5) rfl (hb hby d3_25) (by decide) (by decide) k) ?_
  exact ⟨T1, _, _, _, _, X1, ⟨rfl, rfl, rfl, N1, _, HE1⟩, fun _ k => k⟩
set_option maxRecDepth 65536 in
set_option maxHeartbeats 4000000 in
theorem own_tn1 {p : Program} {l : Launch} {e : Env} {s : State} {m : MethodId} {args : Array Value} {below : List Frame} {meth : Method} {c : Code} {T0 : State} {locs : List Loc} {Z : State} {a0 : Array Value} {h0 : Heap} {n0 : Nat} (a1 : Addr) (q : Int64) (w3 i : Int32) (bB bC : Addr) (kB kC : ClassId) (n len : Int32) (vs : List Value) (X0 : Stand p l e ({ frames := 4, cells := 1, slots := 32, locals := 63 } : Room) s m args below meth c T0 locs 1 32) (hx : p.tables.exec = Jvm.exec) (hZ : Z.Warmed39 s.vm) (hw : ∀ d ∈ tables_1, d.before a0 Z = true) (hby : c.code = prog_56_method_8_code) (hml : c.maxLocals = 5) (hown : s.vm.findClass "com/example/arbordb/arbordb/tree/Encoder" = some m.cls) (e0 : T0.heap = h0) (N0 : Fr n0 locs) (hi : ¬ i < (0 : Int32)) (HE : own_Enc Z h0 n0 a1 bB bC kB kC n len vs) (hrm : ¬ ((n - len) < (1 : Int32))) (hin : ¬ len < 0 ∧ len < n) :
    own_To p l e ({ frames := 4, cells := 1, slots := 32, locals := 63 } : Room) s m args below meth c T0 (mkF m 5 #[.val (.ref a1), .val (.long q), .second, .val (.int w3), .val (.int i)] []) (fun T' g' L k z => g' = mkF m 5 #[.val (.ref a1), .val (.long q), .second, .val (.int w3), .val (.int (i + (-1 : Int32)))] [] ∧ k = 1 ∧ z = 32 ∧ Fr n0 L ∧ ∃ vs' : List Value, own_Enc Z T'.heap n0 a1 bB bC kB kC n (len + 1) vs') := by
  have Z0 : n0 ≤ h0.size := Nat.le_of_lt (Nat.lt_of_le_of_lt HE.2.2.2.2.2.2.1 HE.1.lt)
  have HE0 := HE
  obtain ⟨Ex, Fb, Fc, Fl, Vb, Vc, ga, gb, gc, n1, n2, n3⟩ := HE
  refine own_go (T1 := T0) (g1 := (mkF m 7 #[.val (.ref a1), .val (.long q), .second, .val (.int w3), .val (.int i)] [(.int i)])) (fun _ k => XS.iload X0.here hx rfl (hb hby d3_5) rfl k) ?_
  refine own_go (T1 := T0) (g1 := (mkF m 10 #[.val (.ref a1), .val (.long q), .second, .val (.int w3), .val (.int i)] [])) (fun _ k => XS.ifNo X0.here hx rfl (hb hby d3_7) rfl ((if0 _ _).trans (flt (hi : ¬ (i < (0 : Int32)))).1) k) ?_
  refine own_go (T1 := T0) (g1 := (mkF m 11 #[.val (.ref a1), .val (.long q), .second, .val (.int w3), .val (.int i)] [(.ref a1)])) (fun _ k => XS.aloadN X0.here hx rfl (hb hby d3_10) rfl rfl k) ?_
  refine own_go (T1 := T0) (g1 := (mkF m 12 #[.val (.ref a1), .val (.long q), .second, .val (.int w3), .val (.int i)] [(.long q), (.ref a1)])) (fun _ k => XS.lloadN X0.here hx rfl (hb hby d3_11) rfl k) ?_
  refine own_go (T1 := T0) (g1 := (mkF m 14 #[.val (.ref a1), .val (.long q), .second, .val (.int w3), .val (.int i)] [(.int (8 : Int32)), (.long q), (.ref a1)])) (fun _ k => XS.bipush X0.here hx rfl (hb hby d3_12) k) ?_
  refine own_go (T1 := T0) (g1 := (mkF m 16 #[.val (.ref a1), .val (.long q), .second, .val (.int w3), .val (.int i)] [(.int i), (.int (8 : Int32)), (.long q), (.ref a1)])) (fun _ k => XS.iload X0.here hx rfl (hb hby d3_14) rfl k) ?_
  refine own_go (T1 := T0) (g1 := (mkF m 17 #[.val (.ref a1), .val (.long q), .second, .val (.int w3), .val (.int i)] [(.int ((8 : Int32) * i)), (.long q), (.ref a1)])) (fun _ k => XS.imul X0.here hx rfl (hb hby d3_16) rfl k) ?_
  refine own_go (T1 := T0) (g1 := (mkF m 18 #[.val (.ref a1), .val (.long q), .second, .val (.int w3), .val (.int i)] [(.long (own_ushrL q ((8 : Int32) * i))), (.ref a1)])) (fun _ k => XS.lushr X0.here hx rfl (hb hby d3_17) rfl k) ?_
  refine own_go (T1 := T0) (g1 := (mkF m 19 #[.val (.ref a1), .val (.long q), .second, .val (.int w3), .val (.int i)] [(.int ((own_ushrL q ((8 : Int32) * i)).toInt32)), (.ref a1)])) (fun _ k => XS.l2i X0.here hx rfl (hb hby d3_18) rfl k) ?_
  obtain ⟨cq1, kq1, q1a, q1b, q1c⟩ := isOf hZ e0 Ex
  obtain ⟨_, _, ⟨T1, L1, k1, n1⟩, -, X1, ⟨Lc1, hQ1, l1, y1, z1⟩, st1⟩ := X0.virtualBack hx (y := (⟨"com/example/arbordb/arbordb/tree/Encoder", "add", "(I)V"⟩ : MethodName)) (z := (⟨"com/example/arbordb/arbordb/tree/Encoder", "add", "(I)V"⟩ : MethodName)) hown (mvT hZ (hw _ (List.mem_of_getElem? (i := 20) rfl))) (mvT hZ (hw _ (List.mem_of_getElem? (i := 21) rfl))) (notFace_of_selects (args := #[]) (mvT hZ (hw _ (List.mem_of_getElem? (i := 23) rfl)))) (mvT hZ (hw _ (List.mem_of_getElem? (i := 23) rfl))) (mvT hZ (hw _ (List.mem_of_getElem? (i := 22) rfl))) (by decide) (backOf (W := 0) (rm4 l Z a0 hw [] a1 ((own_ushrL q ((8 : Int32) * i)).toInt32) bB bC kB kC n len vs h0 n0 Z0 HE0 hrm hin) hZ (hw _ (List.mem_of_getElem? (i := 24) rfl)) (hw _ (List.mem_of_getElem? (i := 2) rfl)) (by decide) (by decide)) q1a q1c (g := (mkF m 19 #[.val (.ref a1), .val (.long q), .second, .val (.int w3), .val (.int i)] [(.int ((own_ushrL q ((8 : Int32) * i)).toInt32)), (.ref a1)])) rfl (by rw [hml]; rfl) (Steps.refl _) (argsL := [(.int ((own_ushrL q ((8 : Int32) * i)).toInt32))]) (rest := []) (lenOf own_pd_I_V rfl) rfl (by show 2 * 0 + _ ≤ _; exact Nat.le_of_eq rfl) (hb hby d3_19) (fun _ _ => ⟨rfl, e0, (by decide : 1 + 0 ≤ _), (by decide : 32 + 0 ≤ _)⟩)
  dsimp only [Pt.U, Pt.locs, Pt.cells, Pt.slots] at X1 l1 y1 z1 st1 hQ1
  subst l1 y1 z1
  obtain ⟨rfl, N1q, nv1, HE1, -⟩ := hQ1
  have N1 := Fr.app N0 N1q
  refine own_go (T1 := T1) (g1 := (mkF m 22 #[.val (.ref a1), .val (.long q), .second, .val (.int w3), .val (.int i)] [])) (fun t k => st1.trans k) ?_
  refine own_go (T1 := T1) (g1 := (mkF m 25 #[.val (.ref a1), .val (.long q), .second, .val (.int w3), .val (.int (i + (-1 : Int32)))] [])) (fun _ k => XS.iinc X1.here hx rfl (hb hby d3_22) rfl (l' := #[.val (.ref a1), .val (.long q), .second, .val (.int w3), .val (.int (i + (-1 : Int32)))]) rfl k) ?_
  refine own_go (T1 := T1) (g1 := (mkF m 5 #[.val (.ref a1), .val (.long q), .second, .val (.int w3), .val (.int (i + (-1 : Int32)))] [])) (fun _ k => XS.goto X1.here hx rfl (pc0 := 25) (pc' := 5) rfl (hb hby d3_25) (by decide) (by decide) k) ?_
  exact ⟨T1, _, _, _, _, X1, ⟨rfl, rfl, rfl, N1, _, HE1⟩, fun _ k => k⟩
set_option maxRecDepth 65536 in
set_option maxHeartbeats 4000000 in
theorem own_tng {p : Program} {l : Launch} {e : Env} {s : State} {m : MethodId} {args : Array Value} {below : List Frame} {meth : Method} {c : Code} {T0 : State} {locs : List Loc} {Z : State} {a0 : Array Value} {h0 : Heap} {n0 : Nat} (a1 : Addr) (q : Int64) (w3 i : Int32) (bB bC : Addr) (kB kC : ClassId) (vs : List Value) (X0 : Stand p l e ({ frames := 4, cells := 1, slots := 32, locals := 63 } : Room) s m args below meth c T0 locs 0 0) (hx : p.tables.exec = Jvm.exec) (hZ : Z.Warmed39 s.vm) (hw : ∀ d ∈ tables_1, d.before a0 Z = true) (hby : c.code = prog_56_method_8_code) (hml : c.maxLocals = 5) (hown : s.vm.findClass "com/example/arbordb/arbordb/tree/Encoder" = some m.cls) (e0 : T0.heap = h0) (N0 : Fr n0 locs) (hi : ¬ i < (0 : Int32)) (HE : own_Enc Z h0 n0 a1 bB bC kB kC 16 16 vs) :
    own_To p l e ({ frames := 4, cells := 1, slots := 32, locals := 63 } : Room) s m args below meth c T0 (mkF m 5 #[.val (.ref a1), .val (.long q), .second, .val (.int w3), .val (.int i)] []) (fun T' g' L k z => g' = mkF m 5 #[.val (.ref a1), .val (.long q), .second, .val (.int w3), .val (.int (i + (-1 : Int32)))] [] ∧ k = 1 ∧ z = 32 ∧ Fr n0 L ∧ ∃ (bB' : Addr) (kB' : ClassId) (vs' : List Value), own_Enc Z T'.heap n0 a1 bB' bC kB' kC 32 17 vs') := by
  have Z0 : n0 ≤ h0.size := Nat.le_of_lt (Nat.lt_of_le_of_lt HE.2.2.2.2.2.2.1 HE.1.lt)
  have HE0 := HE
  obtain ⟨Ex, Fb, Fc, Fl, Vb, Vc, ga, gb, gc, n1, n2, n3⟩ := HE
  refine own_go (T1 := T0) (g1 := (mkF m 7 #[.val (.ref a1), .val (.long q), .second, .val (.int w3), .val (.int i)] [(.int i)])) (fun _ k => XS.iload X0.here hx rfl (hb hby d3_5) rfl k) ?_
  refine own_go (T1 := T0) (g1 := (mkF m 10 #[.val (.ref a1), .val (.long q), .second, .val (.int w3), .val (.int i)] [])) (fun _ k => XS.ifNo X0.here hx rfl (hb hby d3_7) rfl ((if0 _ _).trans (flt (hi : ¬ (i < (0 : Int32)))).1) k) ?_
  refine own_go (T1 := T0) (g1 := (mkF m 11 #[.val (.ref a1), .val (.long q), .second, .val (.int w3), .val (.int i)] [(.ref a1)])) (fun _ k => XS.aloadN X0.here hx rfl (hb hby d3_10) rfl rfl k) ?_
  refine own_go (T1 := T0) (g1 := (mkF m 12 #[.val (.ref a1), .val (.long q), .second, .val (.int w3), .val (.int i)] [(.long q), (.ref a1)])) (fun _ k => XS.lloadN X0.here hx rfl (hb hby d3_11) rfl k) ?_
  refine own_go (T1 := T0) (g1 := (mkF m 14 #[.val (.ref a1), .val (.long q), .second, .val (.int w3), .val (.int i)] [(.int (8 : Int32)), (.long q), (.ref a1)])) (fun _ k => XS.bipush X0.here hx rfl (hb hby d3_12) k) ?_
  refine own_go (T1 := T0) (g1 := (mkF m 16 #[.val (.ref a1), .val (.long q), .second, .val (.int w3), .val (.int i)] [(.int i), (.int (8 : Int32)), (.long q), (.ref a1)])) (fun _ k => XS.iload X0.here hx rfl (hb hby d3_14) rfl k) ?_
  refine own_go (T1 := T0) (g1 := (mkF m 17 #[.val (.ref a1), .val (.long q), .second, .val (.int w3), .val (.int i)] [(.int ((8 : Int32) * i)), (.long q), (.ref a1)])) (fun _ k => XS.imul X0.here hx rfl (hb hby d3_16) rfl k) ?_
  refine own_go (T1 := T0) (g1 := (mkF m 18 #[.val (.ref a1), .val (.long q), .second, .val (.int w3), .val (.int i)] [(.long (own_ushrL q ((8 : Int32) * i))), (.ref a1)])) (fun _ k => XS.lushr X0.here hx rfl (hb hby d3_17) rfl k) ?_
  refine own_go (T1 := T0) (g1 := (mkF m 19 #[.val (.ref a1), .val (.long q), .second, .val (.int w3), .val (.int i)] [(.int ((own_ushrL q ((8 : Int32) * i)).toInt32)), (.ref a1)])) (fun _ k => XS.l2i X0.here hx rfl (hb hby d3_18) rfl k) ?_
  obtain ⟨cq1, kq1, q1a, q1b, q1c⟩ := isOf hZ e0 Ex
  obtain ⟨_, _, ⟨T1, L1, k1, n1⟩, -, X1, ⟨Lc1, hQ1, l1, y1, z1⟩, st1⟩ := X0.virtualBack hx (y := (⟨"com/example/arbordb/arbordb/tree/Encoder", "add", "(I)V"⟩ : MethodName)) (z := (⟨"com/example/arbordb/arbordb/tree/Encoder", "add", "(I)V"⟩ : MethodName)) hown (mvT hZ (hw _ (List.mem_of_getElem? (i := 20) rfl))) (mvT hZ (hw _ (List.mem_of_getElem? (i := 21) rfl))) (notFace_of_selects (args := #[]) (mvT hZ (hw _ (List.mem_of_getElem? (i := 23) rfl)))) (mvT hZ (hw _ (List.mem_of_getElem? (i := 23) rfl))) (mvT hZ (hw _ (List.mem_of_getElem? (i := 22) rfl))) (by decide) (backOf (W := 0) (rm4g l Z a0 hw [] a1 ((own_ushrL q ((8 : Int32) * i)).toInt32) bB bC kB kC vs h0 n0 Z0 HE0) hZ (hw _ (List.mem_of_getElem? (i := 24) rfl)) (hw _ (List.mem_of_getElem? (i := 2) rfl)) (by decide) (by decide)) q1a q1c (g := (mkF m 19 #[.val (.ref a1), .val (.long q), .second, .val (.int w3), .val (.int i)] [(.int ((own_ushrL q ((8 : Int32) * i)).toInt32)), (.ref a1)])) rfl (by rw [hml]; rfl) (Steps.refl _) (argsL := [(.int ((own_ushrL q ((8 : Int32) * i)).toInt32))]) (rest := []) (lenOf own_pd_I_V rfl) rfl (by show 2 * 0 + _ ≤ _; exact Nat.le_of_eq rfl) (hb hby d3_19) (fun _ _ => ⟨rfl, e0, (by decide : 0 + 1 ≤ _), (by decide : 0 + 32 ≤ _)⟩)
  dsimp only [Pt.U, Pt.locs, Pt.cells, Pt.slots] at X1 l1 y1 z1 st1 hQ1
  subst l1 y1 z1
  obtain ⟨rfl, N1q, nB1, nk1, nv1, HE1⟩ := hQ1
  have N1 := Fr.app N0 N1q
  refine own_go (T1 := T1) (g1 := (mkF m 22 #[.val (.ref a1), .val (.long q), .second, .val (.int w3), .val (.int i)] [])) (fun t k => st1.trans k) ?_
  refine own_go (T1 := T1) (g1 := (mkF m 25 #[.val (.ref a1), .val (.long q), .second, .val (.int w3), .val (.int (i + (-1 : Int32)))] [])) (fun _ k => XS.iinc X1.here hx rfl (hb hby d3_22) rfl (l' := #[.val (.ref a1), .val (.long q), .second, .val (.int w3), .val (.int (i + (-1 : Int32)))]) rfl k) ?_
  refine own_go (T1 := T1) (g1 := (mkF m 5 #[.val (.ref a1), .val (.long q), .second, .val (.int w3), .val (.int (i + (-1 : Int32)))] [])) (fun _ k => XS.goto X1.here hx rfl (pc0 := 25) (pc' := 5) rfl (hb hby d3_25) (by decide) (by decide) k) ?_
  exact ⟨T1, _, _, _, _, X1, ⟨rfl, rfl, rfl, N1, _, _, _, HE1⟩, fun _ k => k⟩
def Q3 (Z : State) (a1 bC : Addr) (kC : ClassId) (wn n0 : Nat) (v : Option Value) (h : Heap) (L : List Loc) : Prop := v = none ∧ Fr n0 L ∧ ∃ (bB : Addr) (kB : ClassId) (n : Int32) (vs : List Value), own_Enc Z h n0 a1 bB bC kB kC n (Int32.ofNat wn) vs ∧ (n = 16 ∨ n = 32)
theorem d3_0 : decode prog_56_method_8_code 0 = .ok (.iload_n 3, 1) := by decide +kernel
theorem d3_1 : decode prog_56_method_8_code 1 = .ok (.iconst 1, 1) := by decide +kernel
theorem d3_2 : decode prog_56_method_8_code 2 = .ok (.isub, 1) := by decide +kernel
theorem d3_3 : decode prog_56_method_8_code 3 = .ok (.istore 4, 2) := by decide +kernel
theorem d3_28 : decode prog_56_method_8_code 28 = .ok (.return_, 1) := by decide +kernel
/-! fixed's loop -/
theorem own_then {p : Program} {l : Launch} {e : Env} {R : Room} {s : State} {m : MethodId} {args : Array Value} {below : List Frame} {meth : Method} {c : Code} {T0 : State} {g0 : JFrame} {Φ Ψ : State → JFrame → List Loc → Nat → Nat → Prop}
    (h : own_To p l e R s m args below meth c T0 g0 Φ) (k : ∀ T' g' L k n, Stand p l e R s m args below meth c T' L k n → Φ T' g' L k n → own_To p l e R s m args below meth c T' g' Ψ) : own_To p l e R s m args below meth c T0 g0 Ψ := by
  obtain ⟨T', g', L, k', n, h1, h2, h3⟩ := h
  exact own_go h3 (k T' g' L k' n h1 h2)
def own_iR (r : Nat) : Int32 := Int32.ofNat r - 1
theorem own_dec (r : Nat) : own_iR (r + 1) + (-1 : Int32) = own_iR r := by
  unfold own_iR
  rw [Int32.ofNat_add, show Int32.ofNat 1 = (1 : Int32) from rfl, Int32.add_sub_cancel, Int32.sub_eq_add_neg]
theorem own_inc (t : Nat) : Int32.ofNat t + 1 = Int32.ofNat (t + 1) := (Int32.ofNat_add t 1).symm
theorem own_iR_nn : ∀ r < 32, ¬ own_iR (r + 1) < (0 : Int32) := by decide
theorem own_h16 : ∀ t < 16, (¬ (((16 : Int32) - Int32.ofNat t) < (1 : Int32))) ∧ ¬ Int32.ofNat t < 0 ∧ Int32.ofNat t < (16 : Int32) := by decide
theorem own_h32 : ∀ t < 32, (¬ (((32 : Int32) - Int32.ofNat t) < (1 : Int32))) ∧ ¬ Int32.ofNat t < 0 ∧ Int32.ofNat t < (32 : Int32) := by decide
section OwnLoop
variable {p : Program} {l : Launch} {e : Env} {s : State} {m : MethodId} {args : Array Value} {below : List Frame} {meth : Method} {c : Code} {Z : State} {a0 : Array Value} {n0 : Nat}
theorem own_lp0 (a1 : Addr) (q : Int64) (w3 : Int32) (bB bC : Addr) (kB kC : ClassId) (hx : p.tables.exec = Jvm.exec) (hZ : Z.Warmed39 s.vm) (hw : ∀ d ∈ tables_1, d.before a0 Z = true) (hby : c.code = prog_56_method_8_code) (hml : c.maxLocals = 5) (hown : s.vm.findClass "com/example/arbordb/arbordb/tree/Encoder" = some m.cls) :
    ∀ (k t r : Nat) (vs : List Value) (T0 : State) (h0 : Heap) (locs : List Loc), t + k ≤ 16 → k + r ≤ 31 → Stand p l e ({ frames := 4, cells := 1, slots := 32, locals := 63 } : Room) s m args below meth c T0 locs 0 0 → T0.heap = h0 → Fr n0 locs → own_Enc Z h0 n0 a1 bB bC kB kC 16 (Int32.ofNat t) vs →
      own_To p l e ({ frames := 4, cells := 1, slots := 32, locals := 63 } : Room) s m args below meth c T0 (mkF m 5 #[.val (.ref a1), .val (.long q), .second, .val (.int w3), .val (.int (own_iR (k + r)))] []) (fun T' g' L k' z => g' = mkF m 5 #[.val (.ref a1), .val (.long q), .second, .val (.int w3), .val (.int (own_iR r))] [] ∧ k' = 0 ∧ z = 0 ∧ Fr n0 L ∧ ∃ vs' : List Value, own_Enc Z T'.heap n0 a1 bB bC kB kC 16 (Int32.ofNat (t + k)) vs') := by
  intro k
  induction k with
  | zero =>
    intro t r vs T0 h0 locs ht hr X0 e0 N0 HE
    exact ⟨T0, _, _, _, _, X0, ⟨by rw [Nat.zero_add], rfl, rfl, N0, vs, by rw [e0]; exact HE⟩, fun _ k => k⟩
  | succ k ih =>
    intro t r vs T0 h0 locs ht hr X0 e0 N0 HE
    obtain ⟨a1', a2'⟩ := own_h16 t (by omega)
    have hi : ¬ own_iR (k + 1 + r) < (0 : Int32) := by rw [show k + 1 + r = (k + r) + 1 by omega]; exact own_iR_nn _ (by omega)
    refine own_then (own_tn0 a1 q w3 (own_iR (k + 1 + r)) bB bC kB kC 16 (Int32.ofNat t) vs X0 hx hZ hw hby hml hown e0 N0 hi HE a1' a2') ?_
    rintro T' g' L k' z X' ⟨rfl, rfl, rfl, N', vs', HE'⟩
    rw [show k + 1 + r = (k + r) + 1 by omega, own_dec]
    rw [own_inc] at HE'
    have := ih (t + 1) r vs' T' _ L (by omega) (by omega) X' rfl N' HE'
    rw [show t + (k + 1) = t + 1 + k by omega]
    exact this
theorem own_lp1 (a1 : Addr) (q : Int64) (w3 : Int32) (bB bC : Addr) (kB kC : ClassId) (hx : p.tables.exec = Jvm.exec) (hZ : Z.Warmed39 s.vm) (hw : ∀ d ∈ tables_1, d.before a0 Z = true) (hby : c.code = prog_56_method_8_code) (hml : c.maxLocals = 5) (hown : s.vm.findClass "com/example/arbordb/arbordb/tree/Encoder" = some m.cls) :
    ∀ (k t r : Nat) (vs : List Value) (T0 : State) (h0 : Heap) (locs : List Loc), t + k ≤ 32 → k + r ≤ 31 → Stand p l e ({ frames := 4, cells := 1, slots := 32, locals := 63 } : Room) s m args below meth c T0 locs 1 32 → T0.heap = h0 → Fr n0 locs → own_Enc Z h0 n0 a1 bB bC kB kC 32 (Int32.ofNat t) vs →
      own_To p l e ({ frames := 4, cells := 1, slots := 32, locals := 63 } : Room) s m args below meth c T0 (mkF m 5 #[.val (.ref a1), .val (.long q), .second, .val (.int w3), .val (.int (own_iR (k + r)))] []) (fun T' g' L k' z => g' = mkF m 5 #[.val (.ref a1), .val (.long q), .second, .val (.int w3), .val (.int (own_iR r))] [] ∧ k' = 1 ∧ z = 32 ∧ Fr n0 L ∧ ∃ vs' : List Value, own_Enc Z T'.heap n0 a1 bB bC kB kC 32 (Int32.ofNat (t + k)) vs') := by
  intro k
  induction k with
  | zero =>
    intro t r vs T0 h0 locs ht hr X0 e0 N0 HE
    exact ⟨T0, _, _, _, _, X0, ⟨by rw [Nat.zero_add], rfl, rfl, N0, vs, by rw [e0]; exact HE⟩, fun _ k => k⟩
  | succ k ih =>
    intro t r vs T0 h0 locs ht hr X0 e0 N0 HE
    obtain ⟨a1', a2'⟩ := own_h32 t (by omega)
    have hi : ¬ own_iR (k + 1 + r) < (0 : Int32) := by rw [show k + 1 + r = (k + r) + 1 by omega]; exact own_iR_nn _ (by omega)
    refine own_then (own_tn1 a1 q w3 (own_iR (k + 1 + r)) bB bC kB kC 32 (Int32.ofNat t) vs X0 hx hZ hw hby hml hown e0 N0 hi HE a1' a2') ?_
    rintro T' g' L k' z X' ⟨rfl, rfl, rfl, N', vs', HE'⟩
    rw [show k + 1 + r = (k + r) + 1 by omega, own_dec]
    rw [own_inc] at HE'
    have := ih (t + 1) r vs' T' _ L (by omega) (by omega) X' rfl N' HE'
    rw [show t + (k + 1) = t + 1 + k by omega]
    exact this
/-- the loop is left: pc 28 -/
theorem own_out28 {R : Room} {T0 : State} {locs : List Loc} {cells slots : Nat} (a1 : Addr) (q : Int64) (w3 : Int32) (X0 : Stand p l e R s m args below meth c T0 locs cells slots) (hx : p.tables.exec = Jvm.exec) (hby : c.code = prog_56_method_8_code) {Φ : State → JFrame → List Loc → Nat → Nat → Prop}
    (h : own_To p l e R s m args below meth c T0 (mkF m 28 #[.val (.ref a1), .val (.long q), .second, .val (.int w3), .val (.int (own_iR 0))] []) Φ) : own_To p l e R s m args below meth c T0 (mkF m 5 #[.val (.ref a1), .val (.long q), .second, .val (.int w3), .val (.int (own_iR 0))] []) Φ := by
  refine own_go (T1 := T0) (g1 := mkF m 7 #[.val (.ref a1), .val (.long q), .second, .val (.int w3), .val (.int (own_iR 0))] [.int (own_iR 0)]) (fun _ k => XS.iload X0.here hx rfl (hb hby d3_5) rfl k) ?_
  refine own_go (T1 := T0) (g1 := mkF m 28 #[.val (.ref a1), .val (.long q), .second, .val (.int w3), .val (.int (own_iR 0))] []) (fun _ k => XS.ifYes X0.here hx rfl (pc0 := 7) (pc' := 28) rfl (hb hby d3_7) rfl ((if0 _ _).trans (tlt (by decide : own_iR 0 < (0 : Int32))).1) (by decide) (by decide) k) ?_
  exact h
theorem own_fix {T0 : State} {locs : List Loc} {h0 : Heap} (wn : Nat) (hwn : wn ≤ 31) (a1 : Addr) (q : Int64) (bB bC : Addr) (kB kC : ClassId) (vs : List Value) (X0 : Stand p l e ({ frames := 4, cells := 1, slots := 32, locals := 63 } : Room) s m args below meth c T0 locs 0 0) (hx : p.tables.exec = Jvm.exec) (hZ : Z.Warmed39 s.vm) (hw : ∀ d ∈ tables_1, d.before a0 Z = true) (hby : c.code = prog_56_method_8_code) (hml : c.maxLocals = 5) (hown : s.vm.findClass "com/example/arbordb/arbordb/tree/Encoder" = some m.cls) (e0 : T0.heap = h0) (N0 : Fr n0 locs) (HE : own_Enc Z h0 n0 a1 bB bC kB kC 16 0 vs) :
    own_To p l e ({ frames := 4, cells := 1, slots := 32, locals := 63 } : Room) s m args below meth c T0 (mkF m 5 #[.val (.ref a1), .val (.long q), .second, .val (.int (Int32.ofNat wn)), .val (.int (Int32.ofNat wn - (1 : Int32)))] []) (fun T' g' L kq zq => ∃ pcr Ls, g' = mkF m pcr Ls [] ∧ decode c.code pcr = .ok (.return_, 1) ∧ kq = 1 ∧ zq = 32 ∧ Q3 Z a1 bC kC wn n0 none T'.heap L) := by
  by_cases h16 : wn ≤ 16
  · refine own_then (own_lp0 a1 q (Int32.ofNat wn) bB bC kB kC hx hZ hw hby hml hown wn 0 0 vs T0 h0 locs (by omega) (by omega) X0 e0 N0 HE) ?_
    rintro T' g' L k' z X' ⟨rfl, rfl, rfl, N', vs', HE'⟩
    refine own_out28 a1 q _ X' hx hby ?_
    rw [Nat.zero_add] at HE'
    exact ⟨T', _, _, _, _, X'.more (by decide : 0 ≤ 1) (by decide : 0 ≤ 32), ⟨28, _, rfl, hb hby d3_28, rfl, rfl, rfl, N', bB, kB, 16, vs', HE', Or.inl rfl⟩, fun _ k => k⟩
  · have A := own_lp0 a1 q (Int32.ofNat wn) bB bC kB kC hx hZ hw hby hml hown 16 0 (wn - 16) vs T0 h0 locs (by omega) (by omega) X0 e0 N0 HE
    rw [show 16 + (wn - 16) = wn by omega] at A
    refine own_then A ?_
    rintro T' g' L k' z X' ⟨rfl, rfl, rfl, N', vs', HE'⟩
    have hi : ¬ own_iR (wn - 16) < (0 : Int32) := by rw [show wn - 16 = (wn - 17) + 1 by omega]; exact own_iR_nn _ (by omega)
    refine own_then (own_tng a1 q (Int32.ofNat wn) (own_iR (wn - 16)) bB bC kB kC vs' X' hx hZ hw hby hml hown rfl N' hi HE') ?_
    rintro T2 g2 L2 k2 z2 X2 ⟨rfl, rfl, rfl, N2, bB2, kB2, vs2, HE2⟩
    rw [show wn - 16 = (wn - 17) + 1 by omega, own_dec]
    refine own_then (own_lp1 a1 q (Int32.ofNat wn) bB2 bC kB2 kC hx hZ hw hby hml hown (wn - 17) 17 0 vs2 T2 _ L2 (by omega) (by omega) X2 rfl N2 HE2) ?_
    rintro T3 g3 L3 k3 z3 X3 ⟨rfl, rfl, rfl, N3, vs3, HE3⟩
    refine own_out28 a1 q _ X3 hx hby ?_
    rw [show 17 + (wn - 17) = wn by omega] at HE3
    exact ⟨T3, _, _, _, _, X3, ⟨28, _, rfl, hb hby d3_28, rfl, rfl, rfl, N3, bB2, kB2, 32, vs3, HE3, Or.inr rfl⟩, fun _ k => k⟩
end OwnLoop

theorem ef_rm3 (m : MethodId) (a1 : Addr) (q : Int64) : entryFrame m #[(.ref a1), (.long q), (.int (Int32.ofNat wn))] 5 = mkF m 0 #[.val (.ref a1), .val (.long q), .second, .val (.int (Int32.ofNat wn)), .unset] [] := by first | (simp [entryFrame, mkF, argsToLocals, Value.category]; done) | rfl
set_option maxRecDepth 65536 in
set_option maxHeartbeats 4000000 in
theorem rm3 (l : Launch) (Z : State) (a0 : Array Value) (hw : ∀ d ∈ tables_1, d.before a0 Z = true) (ws : List Jvm.Cond) (a1 : Addr) (q : Int64) (wn : Nat) (hwn : wn ≤ 31) (bB bC : Addr) (kB kC : ClassId) (vs : List Value) (h0 : Heap) (n0 : Nat) (Z0 : n0 ≤ h0.size) (HE : own_Enc Z h0 n0 a1 bB bC kB kC 16 0 vs) :
    MetFree l (⟨"com/example/arbordb/arbordb/tree/Encoder", "fixed", "(JI)V"⟩ : MethodName) (head1 (Jvm.Cond.code (⟨"com/example/arbordb/arbordb/tree/Encoder", "fixed", "(JI)V"⟩ : MethodName) prog_56_method_8_code 5 none :: ws) ({ frames := 4, cells := 1, slots := 32, locals := 63 } : Room)) (fun a U => a = #[(.ref a1), (.long q), (.int (Int32.ofNat wn))] ∧ Z.Warmed39 U.vm ∧ U.heap = h0) (fun _ _ _ _ _ => True) (fun _ U o U' => ∃ v L, o = .returned v ∧ Q3 Z a1 bC kC wn n0 v U'.heap L ∧ FrameEnd U o U' L ({ frames := 4, cells := 1, slots := 32, locals := 63 } : Room).cells ({ frames := 4, cells := 1, slots := 32, locals := 63 } : Room).slots) := by
  refine MetFree.of_bodySF (plainFor_of_name (by first | (simp [plainName, overriddenIn]; done) | decide +kernel)) hisR ?_
  intro p e s m args below meth c s₁ Bd hml0 hP hK
  obtain ⟨rfl, hZ, hh⟩ := hP
  have hx := Bd.exec
  have hby := Bd.bytes
  have hml : c.maxLocals = 5 := hml0
  have hown : s.vm.findClass "com/example/arbordb/arbordb/tree/Encoder" = some m.cls := findClass_of_methodNamed Bd.named
  have hnm := (name_of_methodNamed Bd.named Bd.method).1
  have X0 : Stand p l e ({ frames := 4, cells := 1, slots := 32, locals := 63 } : Room) s m #[(.ref a1), (.long q), (.int (Int32.ofNat wn))] below meth c s₁ [] 0 0 := Stand.of_body Bd
  have e0 : s₁.heap = h0 := by rw [← hh, Bd.state]; rfl
  have N0 := Fr.nil n0
  have main : own_To p l e ({ frames := 4, cells := 1, slots := 32, locals := 63 } : Room) s m #[(.ref a1), (.long q), (.int (Int32.ofNat wn))] below meth c s₁ (mkF m 0 #[.val (.ref a1), .val (.long q), .second, .val (.int (Int32.ofNat wn)), .unset] []) (fun T' g' L kq zq => ∃ pcr Ls, g' = mkF m pcr Ls [] ∧ decode c.code pcr = .ok (.return_, 1) ∧ kq = 1 ∧ zq = 32 ∧ Q3 Z a1 bC kC wn n0 none T'.heap L) := by
    refine own_go (T1 := s₁) (g1 := (mkF m 1 #[.val (.ref a1), .val (.long q), .second, .val (.int (Int32.ofNat wn)), .unset] [(.int (Int32.ofNat wn))])) (fun _ k => XS.iloadN X0.here hx rfl (hb hby d3_0) rfl k) ?_
    refine own_go (T1 := s₁) (g1 := (mkF m 2 #[.val (.ref a1), .val (.long q), .second, .val (.int (Int32.ofNat wn)), .unset] [(.int (1 : Int32)), (.int (Int32.ofNat wn))])) (fun _ k => XS.iconst X0.here hx rfl (hb hby d3_1) k) ?_
    refine own_go (T1 := s₁) (g1 := (mkF m 3 #[.val (.ref a1), .val (.long q), .second, .val (.int (Int32.ofNat wn)), .unset] [(.int ((Int32.ofNat wn) - (1 : Int32)))])) (fun _ k => XS.isub X0.here hx rfl (hb hby d3_2) rfl k) ?_
    refine own_go (T1 := s₁) (g1 := (mkF m 5 #[.val (.ref a1), .val (.long q), .second, .val (.int (Int32.ofNat wn)), .val (.int ((Int32.ofNat wn) - (1 : Int32)))] [])) (fun _ k => XS.istore X0.here hx rfl (hb hby d3_3) rfl (l' := #[.val (.ref a1), .val (.long q), .second, .val (.int (Int32.ofNat wn)), .val (.int ((Int32.ofNat wn) - (1 : Int32)))]) rfl k) ?_
    exact own_fix wn hwn a1 q bB bC kB kC vs X0 hx hZ hw hby hml hown e0 N0 HE
  obtain ⟨T', g', L', k', n', X', ⟨pcr, Ls, rfl, hd, rfl, rfl, hQ⟩, st⟩ := main
  obtain ⟨fs, hr, hrun, hended, hW, hsame⟩ := X'.leave (v := none) (fun _ => rfl)
  refine ⟨_, _, castTop (ef_rm3 m a1 q) (st _ ?_), hrun, hended, _, _, rfl, hQ, ⟨_, rfl⟩, hW, hsame.mono (by decide) (by decide)⟩
  exact X'.returnOut hx Bd.returns hd hr
/-! small facts of the law -/
theorem own_mask31 (x : Int32) : ∃ w : Nat, w ≤ 31 ∧ (x &&& (31 : Int32)) = Int32.ofNat w := by
  have h := c_mask x (31 : Int32) 5 (by decide) (by decide)
  refine ⟨(x.toInt % 32).toNat, by omega, ?_⟩
  rw [← Int32.toInt_inj, h, Int32.toInt_ofNat_of_lt (by omega)]
  omega
theorem own_hs {n : Int32} (h : n = 16 ∨ n = 32) : ¬ ((1048576 : Int32) < n) := by rcases h with rfl | rfl <;> decide
theorem own_hr {n : Int32} (h : n = 16 ∨ n = 32) : ¬ ((n - 0) < (1 : Int32)) := by rcases h with rfl | rfl <;> decide
theorem own_hi {n : Int32} (h : n = 16 ∨ n = 32) : ¬ (0 : Int32) < 0 ∧ (0 : Int32) < n := by rcases h with rfl | rfl <;> decide
theorem own_nb (x : Int32) : nar .byte (x.toInt8.toInt32) = (x.toInt8.toInt32) := by
  show x.toInt8.toInt32.toInt8.toInt32 = x.toInt8.toInt32
  simp

theorem own_pd__I : parseMethodDescriptor "()I" = some ⟨[], some .int⟩ := by decide +kernel
theorem own_pd__AB : parseMethodDescriptor "()[B" = some ⟨[], some (.array .byte)⟩ := by decide +kernel
set_option maxRecDepth 65536 in
set_option maxHeartbeats 4000000 in
theorem own_tail {p : Program} {l : Launch} {e : Env} {s : State} {m : MethodId} {args : Array Value} {below : List Frame} {meth : Method} {c : Code} {T0 : State} {locs : List Loc} {Z : State} {a0 : Array Value} {h0 : Heap} {n0 : Nat} (i0 : Int64) (i1 i2 i3 : Int32) (wn : Nat) (b1 bB bC : Addr) (kB kC : ClassId) (n : Int32) (vs : List Value) (X0 : Stand p l e room_1 s m args below meth c T0 locs 4 67) (hx : p.tables.exec = Jvm.exec) (hZ : Z.Warmed39 s.vm) (hw : ∀ d ∈ tables_1, d.before a0 Z = true) (hby : c.code = code) (hml : c.maxLocals = 10) (hown : s.vm.findClass "com/example/arbordb/arbordb/tree/EncoderClearPinLaw" = some m.cls) (e0 : T0.heap = h0) (N0 : Fr n0 locs) (HE : own_Enc Z h0 n0 b1 bB bC kB kC n 0 vs) (hn : n = 16 ∨ n = 32) :
    own_To p l e room_1 s m args below meth c T0 (mkF m 47 #[.val (.long i0), .second, .val (.int i1), .val (.int i2), .val (.int i3), .val (.ref b1), .val (.int (Int32.ofNat wn)), .val (.ref bB), .unset, .unset] []) (fun T' g' L k z => ∃ pcr Ls v, g' = mkF m pcr Ls [.int v] ∧ decode c.code pcr = .ok (.ireturn, 1) ∧ k = 4 ∧ z = 67 ∧ v = (1 : Int32) ∧ Fr n0 L) := by
  have Z0 : n0 ≤ h0.size := Nat.le_of_lt (Nat.lt_of_le_of_lt HE.2.2.2.2.2.2.1 HE.1.lt)
  refine own_go (T1 := T0) (g1 := (mkF m 49 #[.val (.long i0), .second, .val (.int i1), .val (.int i2), .val (.int i3), .val (.ref b1), .val (.int (Int32.ofNat wn)), .val (.ref bB), .unset, .unset] [(.ref b1)])) (fun _ k => XS.aload X0.here hx rfl (hb hby at_47) rfl rfl k) ?_
  obtain ⟨cq1, kq1, q1a, q1b, q1c⟩ := isOf hZ e0 HE.1
  obtain ⟨_, _, ⟨T1, L1, k1, n1⟩, -, X1, ⟨Lc1, hQ1, l1, y1, z1⟩, st1⟩ := X0.virtualBack hx (y := (⟨"com/example/arbordb/arbordb/tree/Encoder", "length", "()I"⟩ : MethodName)) (z := (⟨"com/example/arbordb/arbordb/tree/Encoder", "length", "()I"⟩ : MethodName)) hown (mvT hZ (hw _ (List.mem_of_getElem? (i := 42) rfl))) (mvT hZ (hw _ (List.mem_of_getElem? (i := 43) rfl))) (notFace_of_selects (args := #[]) (mvT hZ (hw _ (List.mem_of_getElem? (i := 45) rfl)))) (mvT hZ (hw _ (List.mem_of_getElem? (i := 45) rfl))) (mvT hZ (hw _ (List.mem_of_getElem? (i := 44) rfl))) (by decide) (backOf (W := 0) (rm8 l Z a0 hw [] b1 bB bC kB kC n 0 vs h0 n0 Z0 HE) hZ (hw _ (List.mem_of_getElem? (i := 46) rfl)) (hw _ (List.mem_of_getElem? (i := 2) rfl)) (by decide) (by decide)) q1a q1c (g := (mkF m 49 #[.val (.long i0), .second, .val (.int i1), .val (.int i2), .val (.int i3), .val (.ref b1), .val (.int (Int32.ofNat wn)), .val (.ref bB), .unset, .unset] [(.ref b1)])) rfl (by rw [hml]; rfl) (Steps.refl _) (argsL := []) (rest := []) (lenOf own_pd__I rfl) rfl (by show 2 * 0 + _ ≤ _; exact Nat.le_of_eq rfl) (hb hby at_49) (fun _ _ => ⟨rfl, e0, (by decide : 4 + 0 ≤ _), (by decide : 67 + 0 ≤ _)⟩)
  dsimp only [Pt.U, Pt.locs, Pt.cells, Pt.slots] at X1 l1 y1 z1 st1 hQ1
  subst l1 y1 z1
  obtain ⟨rfl, N1q, e1⟩ := hQ1
  have N1 := Fr.app N0 N1q
  refine own_go (T1 := T1) (g1 := (mkF m 52 #[.val (.long i0), .second, .val (.int i1), .val (.int i2), .val (.int i3), .val (.ref b1), .val (.int (Int32.ofNat wn)), .val (.ref bB), .unset, .unset] [(.int (0 : Int32))])) (fun t k => st1.trans k) ?_
  refine own_go (T1 := T1) (g1 := (mkF m 57 #[.val (.long i0), .second, .val (.int i1), .val (.int i2), .val (.int i3), .val (.ref b1), .val (.int (Int32.ofNat wn)), .val (.ref bB), .unset, .unset] [])) (fun _ k => XS.ifYes X1.here hx rfl (pc0 := 52) (pc' := 57) rfl (hb hby at_52) rfl ((if0 _ _).trans (teq (rfl : (0 : Int32) = (0 : Int32))).1) (by decide) (by decide) k) ?_
  refine own_go (T1 := T1) (g1 := (mkF m 59 #[.val (.long i0), .second, .val (.int i1), .val (.int i2), .val (.int i3), .val (.ref b1), .val (.int (Int32.ofNat wn)), .val (.ref bB), .unset, .unset] [(.ref b1)])) (fun _ k => XS.aload X1.here hx rfl (hb hby at_57) rfl rfl k) ?_
  obtain ⟨cq2, kq2, q2a, q2b, q2c⟩ := isOf hZ e1 HE.1
  obtain ⟨_, _, ⟨T2, L2, k2, n2⟩, -, X2, ⟨Lc2, hQ2, l2, y2, z2⟩, st2⟩ := X1.virtualBack hx (y := (⟨"com/example/arbordb/arbordb/tree/Encoder", "array", "()[B"⟩ : MethodName)) (z := (⟨"com/example/arbordb/arbordb/tree/Encoder", "array", "()[B"⟩ : MethodName)) hown (mvT hZ (hw _ (List.mem_of_getElem? (i := 31) rfl))) (mvT hZ (hw _ (List.mem_of_getElem? (i := 32) rfl))) (notFace_of_selects (args := #[]) (mvT hZ (hw _ (List.mem_of_getElem? (i := 34) rfl)))) (mvT hZ (hw _ (List.mem_of_getElem? (i := 34) rfl))) (mvT hZ (hw _ (List.mem_of_getElem? (i := 33) rfl))) (by decide) (backOf (W := 0) (rm6 l Z a0 hw [] b1 bB bC kB kC n 0 vs h0 n0 Z0 HE) hZ (hw _ (List.mem_of_getElem? (i := 35) rfl)) (hw _ (List.mem_of_getElem? (i := 2) rfl)) (by decide) (by decide)) q2a q2c (g := (mkF m 59 #[.val (.long i0), .second, .val (.int i1), .val (.int i2), .val (.int i3), .val (.ref b1), .val (.int (Int32.ofNat wn)), .val (.ref bB), .unset, .unset] [(.ref b1)])) rfl (by rw [hml]; rfl) (Steps.refl _) (argsL := []) (rest := []) (lenOf own_pd__AB rfl) rfl (by show 2 * 0 + _ ≤ _; exact Nat.le_of_eq rfl) (hb hby at_59) (fun _ _ => ⟨rfl, e1, (by decide : 4 + 0 ≤ _), (by decide : 67 + 0 ≤ _)⟩)
  dsimp only [Pt.U, Pt.locs, Pt.cells, Pt.slots] at X2 l2 y2 z2 st2 hQ2
  subst l2 y2 z2
  obtain ⟨rfl, N2q, e2⟩ := hQ2
  have N2 := Fr.app N1 N2q
  refine own_go (T1 := T2) (g1 := (mkF m 62 #[.val (.long i0), .second, .val (.int i1), .val (.int i2), .val (.int i3), .val (.ref b1), .val (.int (Int32.ofNat wn)), .val (.ref bB), .unset, .unset] [(.ref bB)])) (fun t k => st2.trans k) ?_
  refine own_go (T1 := T2) (g1 := (mkF m 64 #[.val (.long i0), .second, .val (.int i1), .val (.int i2), .val (.int i3), .val (.ref b1), .val (.int (Int32.ofNat wn)), .val (.ref bB), .val (.ref bB), .unset] [])) (fun _ k => XS.astore X2.here hx rfl (hb hby at_62) rfl rfl (l' := #[.val (.long i0), .second, .val (.int i1), .val (.int i2), .val (.int i3), .val (.ref b1), .val (.int (Int32.ofNat wn)), .val (.ref bB), .val (.ref bB), .unset]) rfl k) ?_
  refine own_go (T1 := T2) (g1 := (mkF m 66 #[.val (.long i0), .second, .val (.int i1), .val (.int i2), .val (.int i3), .val (.ref b1), .val (.int (Int32.ofNat wn)), .val (.ref bB), .val (.ref bB), .unset] [(.ref bB)])) (fun _ k => XS.aload X2.here hx rfl (hb hby at_64) rfl rfl k) ?_
  refine own_go (T1 := T2) (g1 := (mkF m 68 #[.val (.long i0), .second, .val (.int i1), .val (.int i2), .val (.int i3), .val (.ref b1), .val (.int (Int32.ofNat wn)), .val (.ref bB), .val (.ref bB), .unset] [(.ref bB), (.ref bB)])) (fun _ k => XS.aload X2.here hx rfl (hb hby at_66) rfl rfl k) ?_
  refine own_go (T1 := T2) (g1 := (mkF m 73 #[.val (.long i0), .second, .val (.int i1), .val (.int i2), .val (.int i3), .val (.ref b1), .val (.int (Int32.ofNat wn)), .val (.ref bB), .val (.ref bB), .unset] [])) (fun _ k => Jvm.RoadKit.acmp (g := (mkF m 68 #[.val (.long i0), .second, .val (.int i1), .val (.int i2), .val (.int i3), .val (.ref b1), .val (.int (Int32.ofNat wn)), .val (.ref bB), .val (.ref bB), .unset] [(.ref bB), (.ref bB)])) X2 hx rfl rfl rfl (pc0 := 68) (pc' := 73) (same := true) rfl (hb hby at_68) rfl (decide_eq_true rfl) (by decide) (by decide) k) ?_
  refine own_go (T1 := T2) (g1 := (mkF m 75 #[.val (.long i0), .second, .val (.int i1), .val (.int i2), .val (.int i3), .val (.ref b1), .val (.int (Int32.ofNat wn)), .val (.ref bB), .val (.ref bB), .unset] [(.ref b1)])) (fun _ k => XS.aload X2.here hx rfl (hb hby at_73) rfl rfl k) ?_
  refine own_go (T1 := T2) (g1 := (mkF m 76 #[.val (.long i0), .second, .val (.int i1), .val (.int i2), .val (.int i3), .val (.ref b1), .val (.int (Int32.ofNat wn)), .val (.ref bB), .val (.ref bB), .unset] [(.int i2), (.ref b1)])) (fun _ k => XS.iloadN X2.here hx rfl (hb hby at_75) rfl k) ?_
  obtain ⟨cq3, kq3, q3a, q3b, q3c⟩ := isOf hZ e2 HE.1
  obtain ⟨_, _, ⟨T3, L3, k3, n3⟩, -, X3, ⟨Lc3, hQ3, l3, y3, z3⟩, st3⟩ := X2.virtualBack hx (y := (⟨"com/example/arbordb/arbordb/tree/Encoder", "add", "(I)V"⟩ : MethodName)) (z := (⟨"com/example/arbordb/arbordb/tree/Encoder", "add", "(I)V"⟩ : MethodName)) hown (mvT hZ (hw _ (List.mem_of_getElem? (i := 47) rfl))) (mvT hZ (hw _ (List.mem_of_getElem? (i := 21) rfl))) (notFace_of_selects (args := #[]) (mvT hZ (hw _ (List.mem_of_getElem? (i := 23) rfl)))) (mvT hZ (hw _ (List.mem_of_getElem? (i := 23) rfl))) (mvT hZ (hw _ (List.mem_of_getElem? (i := 22) rfl))) (by decide) (backOf (W := 0) (rm4 l Z a0 hw [] b1 i2 bB bC kB kC n 0 vs h0 n0 Z0 HE (own_hr hn) (own_hi hn)) hZ (hw _ (List.mem_of_getElem? (i := 24) rfl)) (hw _ (List.mem_of_getElem? (i := 2) rfl)) (by decide) (by decide)) q3a q3c (g := (mkF m 76 #[.val (.long i0), .second, .val (.int i1), .val (.int i2), .val (.int i3), .val (.ref b1), .val (.int (Int32.ofNat wn)), .val (.ref bB), .val (.ref bB), .unset] [(.int i2), (.ref b1)])) rfl (by rw [hml]; rfl) (Steps.refl _) (argsL := [(.int i2)]) (rest := []) (lenOf own_pd_I_V rfl) rfl (by show 2 * 0 + _ ≤ _; exact Nat.le_of_eq rfl) (hb hby at_76) (fun _ _ => ⟨rfl, e2, (by decide : 4 + 0 ≤ _), (by decide : 67 + 0 ≤ _)⟩)
  dsimp only [Pt.U, Pt.locs, Pt.cells, Pt.slots] at X3 l3 y3 z3 st3 hQ3
  subst l3 y3 z3
  obtain ⟨rfl, N3q, nv3, HE3, hv3⟩ := hQ3
  have N3 := Fr.app N2 N3q
  refine own_go (T1 := T3) (g1 := (mkF m 79 #[.val (.long i0), .second, .val (.int i1), .val (.int i2), .val (.int i3), .val (.ref b1), .val (.int (Int32.ofNat wn)), .val (.ref bB), .val (.ref bB), .unset] [])) (fun t k => st3.trans k) ?_
  refine own_go (T1 := T3) (g1 := (mkF m 81 #[.val (.long i0), .second, .val (.int i1), .val (.int i2), .val (.int i3), .val (.ref b1), .val (.int (Int32.ofNat wn)), .val (.ref bB), .val (.ref bB), .unset] [(.ref b1)])) (fun _ k => XS.aload X3.here hx rfl (hb hby at_79) rfl rfl k) ?_
  obtain ⟨cq4, kq4, q4a, q4b, q4c⟩ := isOf hZ rfl HE3.1
  obtain ⟨_, _, ⟨T4, L4, k4, n4⟩, -, X4, ⟨Lc4, hQ4, l4, y4, z4⟩, st4⟩ := X3.virtualBack hx (y := (⟨"com/example/arbordb/arbordb/tree/Encoder", "array", "()[B"⟩ : MethodName)) (z := (⟨"com/example/arbordb/arbordb/tree/Encoder", "array", "()[B"⟩ : MethodName)) hown (mvT hZ (hw _ (List.mem_of_getElem? (i := 31) rfl))) (mvT hZ (hw _ (List.mem_of_getElem? (i := 32) rfl))) (notFace_of_selects (args := #[]) (mvT hZ (hw _ (List.mem_of_getElem? (i := 34) rfl)))) (mvT hZ (hw _ (List.mem_of_getElem? (i := 34) rfl))) (mvT hZ (hw _ (List.mem_of_getElem? (i := 33) rfl))) (by decide) (backOf (W := 0) (rm6 l Z a0 hw [] b1 bB bC kB kC n (0 + 1) nv3 T3.heap n0 (Nat.le_of_lt (Nat.lt_of_le_of_lt HE3.2.2.2.2.2.2.1 HE3.1.lt)) HE3) hZ (hw _ (List.mem_of_getElem? (i := 35) rfl)) (hw _ (List.mem_of_getElem? (i := 2) rfl)) (by decide) (by decide)) q4a q4c (g := (mkF m 81 #[.val (.long i0), .second, .val (.int i1), .val (.int i2), .val (.int i3), .val (.ref b1), .val (.int (Int32.ofNat wn)), .val (.ref bB), .val (.ref bB), .unset] [(.ref b1)])) rfl (by rw [hml]; rfl) (Steps.refl _) (argsL := []) (rest := []) (lenOf own_pd__AB rfl) rfl (by show 2 * 0 + _ ≤ _; exact Nat.le_of_eq rfl) (hb hby at_81) (fun _ _ => ⟨rfl, rfl, (by decide : 4 + 0 ≤ _), (by decide : 67 + 0 ≤ _)⟩)
  dsimp only [Pt.U, Pt.locs, Pt.cells, Pt.slots] at X4 l4 y4 z4 st4 hQ4
  subst l4 y4 z4
  obtain ⟨rfl, N4q, e4⟩ := hQ4
  have N4 := Fr.app N3 N4q
  refine own_go (T1 := T4) (g1 := (mkF m 84 #[.val (.long i0), .second, .val (.int i1), .val (.int i2), .val (.int i3), .val (.ref b1), .val (.int (Int32.ofNat wn)), .val (.ref bB), .val (.ref bB), .unset] [(.ref bB)])) (fun t k => st4.trans k) ?_
  refine own_go (T1 := T4) (g1 := (mkF m 86 #[.val (.long i0), .second, .val (.int i1), .val (.int i2), .val (.int i3), .val (.ref b1), .val (.int (Int32.ofNat wn)), .val (.ref bB), .val (.ref bB), .val (.ref bB)] [])) (fun _ k => XS.astore X4.here hx rfl (hb hby at_84) rfl rfl (l' := #[.val (.long i0), .second, .val (.int i1), .val (.int i2), .val (.int i3), .val (.ref b1), .val (.int (Int32.ofNat wn)), .val (.ref bB), .val (.ref bB), .val (.ref bB)]) rfl k) ?_
  refine own_go (T1 := T4) (g1 := (mkF m 88 #[.val (.long i0), .second, .val (.int i1), .val (.int i2), .val (.int i3), .val (.ref b1), .val (.int (Int32.ofNat wn)), .val (.ref bB), .val (.ref bB), .val (.ref bB)] [(.ref b1)])) (fun _ k => XS.aload X4.here hx rfl (hb hby at_86) rfl rfl k) ?_
  obtain ⟨cq5, kq5, q5a, q5b, q5c⟩ := isOf hZ e4 HE3.1
  obtain ⟨_, _, ⟨T5, L5, k5, n5⟩, -, X5, ⟨Lc5, hQ5, l5, y5, z5⟩, st5⟩ := X4.virtualBack hx (y := (⟨"com/example/arbordb/arbordb/tree/Encoder", "length", "()I"⟩ : MethodName)) (z := (⟨"com/example/arbordb/arbordb/tree/Encoder", "length", "()I"⟩ : MethodName)) hown (mvT hZ (hw _ (List.mem_of_getElem? (i := 42) rfl))) (mvT hZ (hw _ (List.mem_of_getElem? (i := 43) rfl))) (notFace_of_selects (args := #[]) (mvT hZ (hw _ (List.mem_of_getElem? (i := 45) rfl)))) (mvT hZ (hw _ (List.mem_of_getElem? (i := 45) rfl))) (mvT hZ (hw _ (List.mem_of_getElem? (i := 44) rfl))) (by decide) (backOf (W := 0) (rm8 l Z a0 hw [] b1 bB bC kB kC n (0 + 1) nv3 T3.heap n0 (Nat.le_of_lt (Nat.lt_of_le_of_lt HE3.2.2.2.2.2.2.1 HE3.1.lt)) HE3) hZ (hw _ (List.mem_of_getElem? (i := 46) rfl)) (hw _ (List.mem_of_getElem? (i := 2) rfl)) (by decide) (by decide)) q5a q5c (g := (mkF m 88 #[.val (.long i0), .second, .val (.int i1), .val (.int i2), .val (.int i3), .val (.ref b1), .val (.int (Int32.ofNat wn)), .val (.ref bB), .val (.ref bB), .val (.ref bB)] [(.ref b1)])) rfl (by rw [hml]; rfl) (Steps.refl _) (argsL := []) (rest := []) (lenOf own_pd__I rfl) rfl (by show 2 * 0 + _ ≤ _; exact Nat.le_of_eq rfl) (hb hby at_88) (fun _ _ => ⟨rfl, e4, (by decide : 4 + 0 ≤ _), (by decide : 67 + 0 ≤ _)⟩)
  dsimp only [Pt.U, Pt.locs, Pt.cells, Pt.slots] at X5 l5 y5 z5 st5 hQ5
  subst l5 y5 z5
  obtain ⟨rfl, N5q, e5⟩ := hQ5
  have N5 := Fr.app N4 N5q
  refine own_go (T1 := T5) (g1 := (mkF m 91 #[.val (.long i0), .second, .val (.int i1), .val (.int i2), .val (.int i3), .val (.ref b1), .val (.int (Int32.ofNat wn)), .val (.ref bB), .val (.ref bB), .val (.ref bB)] [(.int (0 + 1 : Int32))])) (fun t k => st5.trans k) ?_
  refine own_go (T1 := T5) (g1 := (mkF m 92 #[.val (.long i0), .second, .val (.int i1), .val (.int i2), .val (.int i3), .val (.ref b1), .val (.int (Int32.ofNat wn)), .val (.ref bB), .val (.ref bB), .val (.ref bB)] [(.int (1 : Int32)), (.int (0 + 1 : Int32))])) (fun _ k => XS.iconst X5.here hx rfl (hb hby at_91) k) ?_
  refine own_go (T1 := T5) (g1 := (mkF m 95 #[.val (.long i0), .second, .val (.int i1), .val (.int i2), .val (.int i3), .val (.ref b1), .val (.int (Int32.ofNat wn)), .val (.ref bB), .val (.ref bB), .val (.ref bB)] [])) (fun _ k => XS.icmpNo X5.here hx rfl (hb hby at_92) rfl (teq ((by decide) : (0 + 1 : Int32) = (1 : Int32))).2 k) ?_
  refine own_go (T1 := T5) (g1 := (mkF m 97 #[.val (.long i0), .second, .val (.int i1), .val (.int i2), .val (.int i3), .val (.ref b1), .val (.int (Int32.ofNat wn)), .val (.ref bB), .val (.ref bB), .val (.ref bB)] [(.ref bB)])) (fun _ k => XS.aload X5.here hx rfl (hb hby at_95) rfl rfl k) ?_
  refine own_go (T1 := T5) (g1 := (mkF m 99 #[.val (.long i0), .second, .val (.int i1), .val (.int i2), .val (.int i3), .val (.ref b1), .val (.int (Int32.ofNat wn)), .val (.ref bB), .val (.ref bB), .val (.ref bB)] [(.ref bB), (.ref bB)])) (fun _ k => XS.aload X5.here hx rfl (hb hby at_97) rfl rfl k) ?_
  refine own_go (T1 := T5) (g1 := (mkF m 102 #[.val (.long i0), .second, .val (.int i1), .val (.int i2), .val (.int i3), .val (.ref b1), .val (.int (Int32.ofNat wn)), .val (.ref bB), .val (.ref bB), .val (.ref bB)] [])) (fun _ k => Jvm.RoadKit.acmp (g := (mkF m 99 #[.val (.long i0), .second, .val (.int i1), .val (.int i2), .val (.int i3), .val (.ref b1), .val (.int (Int32.ofNat wn)), .val (.ref bB), .val (.ref bB), .val (.ref bB)] [(.ref bB), (.ref bB)])) X5 hx rfl rfl rfl (pc0 := 99) (pc' := 102) (same := true) rfl (hb hby at_99) rfl (decide_eq_true rfl) (by decide) (by decide) k) ?_
  refine own_go (T1 := T5) (g1 := (mkF m 104 #[.val (.long i0), .second, .val (.int i1), .val (.int i2), .val (.int i3), .val (.ref b1), .val (.int (Int32.ofNat wn)), .val (.ref bB), .val (.ref bB), .val (.ref bB)] [(.ref bB)])) (fun _ k => XS.aload X5.here hx rfl (hb hby at_102) rfl rfl k) ?_
  refine own_go (T1 := T5) (g1 := (mkF m 105 #[.val (.long i0), .second, .val (.int i1), .val (.int i2), .val (.int i3), .val (.ref b1), .val (.int (Int32.ofNat wn)), .val (.ref bB), .val (.ref bB), .val (.ref bB)] [(.int (0 : Int32)), (.ref bB)])) (fun _ k => XS.iconst X5.here hx rfl (hb hby at_104) k) ?_
  obtain ⟨cl6, Ar6, -, S6, -, H6, -⟩ := id HE3.2.2.2.2.1
  refine own_go (T1 := T5) (g1 := (mkF m 106 #[.val (.long i0), .second, .val (.int i1), .val (.int i2), .val (.int i3), .val (.ref b1), .val (.int (Int32.ofNat wn)), .val (.ref bB), .val (.ref bB), .val (.ref bB)] [(.int (nar .byte (i2.toInt8.toInt32)))])) (fun _ k => X5.baloadBytes hx (j := (0 : Int32)) (v := (.int (nar .byte (i2.toInt8.toInt32)))) (by rw [e5]; exact Ar6.1) (State.isArrayOf_alike hZ.alike Ar6.2.1) Ar6.2.2 (inb_of S6 (own_hi hn)) (H6.at (inb_of S6 (own_hi hn)) hv3) (g := (mkF m 105 #[.val (.long i0), .second, .val (.int i1), .val (.int i2), .val (.int i3), .val (.ref b1), .val (.int (Int32.ofNat wn)), .val (.ref bB), .val (.ref bB), .val (.ref bB)] [(.int (0 : Int32)), (.ref bB)])) rfl rfl (hb hby at_105) _ k) ?_
  refine own_go (T1 := T5) (g1 := (mkF m 107 #[.val (.long i0), .second, .val (.int i1), .val (.int i2), .val (.int i3), .val (.ref b1), .val (.int (Int32.ofNat wn)), .val (.ref bB), .val (.ref bB), .val (.ref bB)] [(.int i2), (.int (nar .byte (i2.toInt8.toInt32)))])) (fun _ k => XS.iloadN X5.here hx rfl (hb hby at_106) rfl k) ?_
  refine own_go (T1 := T5) (g1 := (mkF m 108 #[.val (.long i0), .second, .val (.int i1), .val (.int i2), .val (.int i3), .val (.ref b1), .val (.int (Int32.ofNat wn)), .val (.ref bB), .val (.ref bB), .val (.ref bB)] [(.int (i2.toInt8.toInt32)), (.int (nar .byte (i2.toInt8.toInt32)))])) (fun _ k => XS.i2b X5.here hx rfl (hb hby at_107) rfl k) ?_
  refine own_go (T1 := T5) (g1 := (mkF m 111 #[.val (.long i0), .second, .val (.int i1), .val (.int i2), .val (.int i3), .val (.ref b1), .val (.int (Int32.ofNat wn)), .val (.ref bB), .val (.ref bB), .val (.ref bB)] [])) (fun _ k => XS.icmpNo X5.here hx rfl (hb hby at_108) rfl (teq (own_nb i2 : (nar .byte (i2.toInt8.toInt32)) = (i2.toInt8.toInt32))).2 k) ?_
  refine own_go (T1 := T5) (g1 := (mkF m 112 #[.val (.long i0), .second, .val (.int i1), .val (.int i2), .val (.int i3), .val (.ref b1), .val (.int (Int32.ofNat wn)), .val (.ref bB), .val (.ref bB), .val (.ref bB)] [(.int (1 : Int32))])) (fun _ k => XS.iconst X5.here hx rfl (hb hby at_111) k) ?_
  refine own_go (T1 := T5) (g1 := (mkF m 116 #[.val (.long i0), .second, .val (.int i1), .val (.int i2), .val (.int i3), .val (.ref b1), .val (.int (Int32.ofNat wn)), .val (.ref bB), .val (.ref bB), .val (.ref bB)] [(.int (1 : Int32))])) (fun _ k => XS.goto X5.here hx rfl (pc0 := 112) (pc' := 116) rfl (hb hby at_112) (by decide) (by decide) k) ?_
  exact ⟨T5, _, _, _, _, X5, ⟨116, _, _, rfl, (hb hby at_116), rfl, rfl, rfl, N5⟩, fun _ k => k⟩
theorem own_pd__V : parseMethodDescriptor "()V" = some ⟨[], none⟩ := by decide +kernel
theorem own_pd_JI_V : parseMethodDescriptor "(JI)V" = some ⟨[.long, .int], none⟩ := by decide +kernel
theorem pn_0 : plainName "com/example/arbordb/arbordb/tree/EncoderClearPinLaw" = true := by first | (simp [plainName, overriddenIn]; done) | decide +kernel
theorem ef_0 (m : MethodId) (i0 : Int64) (i1 i2 i3 : Int32) : entryFrame m #[(.long i0), (.int i1), (.int i2), (.int i3)] maxLocals = mkF m 0 #[.val (.long i0), .second, .val (.int i1), .val (.int i2), .val (.int i3), .unset, .unset, .unset, .unset, .unset] [] := by first | (simp [entryFrame, mkF, argsToLocals, Value.category, maxLocals]; done) | rfl
def Q0 (n0 : Nat) (v : Option Value) (h : Heap) (L : List Loc) : Prop := v = some (.int (1 : Int32)) ∧ Fr n0 L
set_option maxRecDepth 65536 in
set_option maxHeartbeats 4000000 in
theorem rm0 (l : Launch) (Z : State) (a0 : Array Value) (hw : ∀ d ∈ tables_1, d.before a0 Z = true) (ws : List Jvm.Cond) (i0 : Int64) (i1 i2 i3 : Int32) (h0 : Heap) (n0 : Nat) (Z0 : n0 ≤ h0.size) :
    MetFree l x (head1 (Jvm.Cond.code x code maxLocals ret :: ws) room_1) (fun a U => a = #[(.long i0), (.int i1), (.int i2), (.int i3)] ∧ Z.Warmed39 U.vm ∧ U.heap = h0) (fun _ _ _ _ _ => True) (fun _ U o U' => ∃ v L, o = .returned v ∧ Q0 n0 v U'.heap L ∧ FrameEnd U o U' L room_1.cells room_1.slots) := by
  refine MetFree.of_bodySF (plainFor_of_name pn_0) hisR ?_
  intro p e s m args below meth c s₁ Bd hml0 hP hK
  obtain ⟨rfl, hZ, hh⟩ := hP
  have hx := Bd.exec
  have hby := Bd.bytes
  have hml : c.maxLocals = 10 := hml0
  have hown : s.vm.findClass "com/example/arbordb/arbordb/tree/EncoderClearPinLaw" = some m.cls := findClass_of_methodNamed Bd.named
  have X0 : Stand p l e room_1 s m #[(.long i0), (.int i1), (.int i2), (.int i3)] below meth c s₁ [] 0 0 := Stand.of_body Bd
  have e0 : s₁.heap = h0 := by rw [← hh, Bd.state]; rfl
  have N0 := Fr.nil n0
  have main : own_To p l e room_1 s m #[(.long i0), (.int i1), (.int i2), (.int i3)] below meth c s₁ (mkF m 0 #[.val (.long i0), .second, .val (.int i1), .val (.int i2), .val (.int i3), .unset, .unset, .unset, .unset, .unset] []) (fun T' g' L k z => ∃ pcr Ls v, g' = mkF m pcr Ls [.int v] ∧ decode c.code pcr = .ok (.ireturn, 1) ∧ k = 4 ∧ z = 67 ∧ v = (1 : Int32) ∧ Fr n0 L) := by
    obtain ⟨wn, hwn, hm⟩ := own_mask31 i1
    obtain ⟨T1, h1, X1, e1, E1, A1, D1, -, st1⟩ := newO X0 hx hZ hown (hw _ (List.mem_of_getElem? (i := 0) rfl)) (hw _ (List.mem_of_getElem? (i := 1) rfl)) (hw _ (List.mem_of_getElem? (i := 2) rfl)) e0 (g := (mkF m 0 #[.val (.long i0), .second, .val (.int i1), .val (.int i2), .val (.int i3), .unset, .unset, .unset, .unset, .unset] [])) rfl (hb hby at_0) (by decide) (by decide)
    obtain ⟨b1, g1⟩ : ∃ z, z = h0.size := ⟨_, rfl⟩
    rw [← g1] at A1 D1 st1
    have ge_b1 : n0 ≤ b1 := Nat.le_trans Z0 (Nat.le_of_eq g1.symm)
    have Fb : Fld Z h1 b1 "com/example/arbordb/arbordb/tree/Encoder" "bytes" "[B" .null := D1 (Or.inl (hw _ (List.mem_of_getElem? (i := 11) rfl))) (ty := (.array .byte)) (by decide)
    have Fc : Fld Z h1 b1 "com/example/arbordb/arbordb/tree/Encoder" "chars" "[C" .null := D1 (Or.inl (hw _ (List.mem_of_getElem? (i := 14) rfl))) (ty := (.array .char)) (by decide)
    have Fl : Fld Z h1 b1 "com/example/arbordb/arbordb/tree/Encoder" "length" "I" (.int (0 : Int32)) := D1 (Or.inl (hw _ (List.mem_of_getElem? (i := 30) rfl))) (ty := .int) (by decide)
    refine own_go (T1 := T1) (g1 := (mkF m 3 #[.val (.long i0), .second, .val (.int i1), .val (.int i2), .val (.int i3), .unset, .unset, .unset, .unset, .unset] [(.ref b1)])) (fun t k => st1 t k) ?_
    refine own_go (T1 := T1) (g1 := (mkF m 4 #[.val (.long i0), .second, .val (.int i1), .val (.int i2), .val (.int i3), .unset, .unset, .unset, .unset, .unset] [(.ref b1), (.ref b1)])) (fun _ k => XS.dup X1.here hx rfl (hb hby at_3) rfl rfl k) ?_
    obtain ⟨_, _, ⟨T2, L2, k2, n2⟩, -, X2, ⟨Lc2, hQ2, l2, y2, z2⟩, st2⟩ := X1.specialBack hx (y := (⟨"com/example/arbordb/arbordb/tree/Encoder", "<init>", "()V"⟩ : MethodName)) rfl hown (mvT hZ (hw _ (List.mem_of_getElem? (i := 3) rfl))) (mvT hZ (hw _ (List.mem_of_getElem? (i := 4) rfl))) (mvT hZ (hw _ (List.mem_of_getElem? (i := 5) rfl))) (by decide) (backOf (W := 1) (rm1 l Z a0 hw [] b1 h1 n0 (Nat.le_trans Z0 E1.1) A1 Fb Fc Fl ge_b1) hZ (hw _ (List.mem_of_getElem? (i := 5) rfl)) (hw _ (List.mem_of_getElem? (i := 2) rfl)) (by decide) (by decide)) (g := (mkF m 4 #[.val (.long i0), .second, .val (.int i1), .val (.int i2), .val (.int i3), .unset, .unset, .unset, .unset, .unset] [(.ref b1), (.ref b1)])) rfl (by rw [hml]; rfl) (Steps.refl _) (a := b1) (argsL := []) (rest := [(.ref b1)]) (lenOf own_pd__V rfl) rfl (by show 2 * 0 + _ ≤ _; exact Nat.le_of_eq rfl) (hb hby at_4) (fun _ _ => ⟨rfl, e1, (by decide : 1 + 2 ≤ _), (by decide : 3 + 32 ≤ _)⟩)
    dsimp only [Pt.U, Pt.locs, Pt.cells, Pt.slots] at X2 l2 y2 z2 st2 hQ2
    subst l2 y2 z2
    obtain ⟨rfl, N2q, jB, bC, jk, kC, HEi⟩ := hQ2
    have N2 := Fr.app N0 N2q
    refine own_go (T1 := T2) (g1 := (mkF m 7 #[.val (.long i0), .second, .val (.int i1), .val (.int i2), .val (.int i3), .unset, .unset, .unset, .unset, .unset] [(.ref b1)])) (fun t k => st2.trans k) ?_
    refine own_go (T1 := T2) (g1 := (mkF m 9 #[.val (.long i0), .second, .val (.int i1), .val (.int i2), .val (.int i3), .val (.ref b1), .unset, .unset, .unset, .unset] [])) (fun _ k => XS.astore X2.here hx rfl (hb hby at_7) rfl rfl (l' := #[.val (.long i0), .second, .val (.int i1), .val (.int i2), .val (.int i3), .val (.ref b1), .unset, .unset, .unset, .unset]) rfl k) ?_
    refine own_go (T1 := T2) (g1 := (mkF m 10 #[.val (.long i0), .second, .val (.int i1), .val (.int i2), .val (.int i3), .val (.ref b1), .unset, .unset, .unset, .unset] [(.int i1)])) (fun _ k => XS.iloadN X2.here hx rfl (hb hby at_9) rfl k) ?_
    refine own_go (T1 := T2) (g1 := (mkF m 12 #[.val (.long i0), .second, .val (.int i1), .val (.int i2), .val (.int i3), .val (.ref b1), .unset, .unset, .unset, .unset] [(.int (31 : Int32)), (.int i1)])) (fun _ k => XS.bipush X2.here hx rfl (hb hby at_10) k) ?_
    refine own_go (T1 := T2) (g1 := (mkF m 13 #[.val (.long i0), .second, .val (.int i1), .val (.int i2), .val (.int i3), .val (.ref b1), .unset, .unset, .unset, .unset] [(.int (i1 &&& (31 : Int32)))])) (fun _ k => XS.iand X2.here hx rfl (hb hby at_12) rfl k) ?_
    refine own_go (T1 := T2) (g1 := (mkF m 15 #[.val (.long i0), .second, .val (.int i1), .val (.int i2), .val (.int i3), .val (.ref b1), .val (.int (i1 &&& (31 : Int32))), .unset, .unset, .unset] [])) (fun _ k => XS.istore X2.here hx rfl (hb hby at_13) rfl (l' := #[.val (.long i0), .second, .val (.int i1), .val (.int i2), .val (.int i3), .val (.ref b1), .val (.int (i1 &&& (31 : Int32))), .unset, .unset, .unset]) rfl k) ?_
    rw [hm]
    refine own_go (T1 := T2) (g1 := (mkF m 17 #[.val (.long i0), .second, .val (.int i1), .val (.int i2), .val (.int i3), .val (.ref b1), .val (.int (Int32.ofNat wn)), .unset, .unset, .unset] [(.ref b1)])) (fun _ k => XS.aload X2.here hx rfl (hb hby at_15) rfl rfl k) ?_
    refine own_go (T1 := T2) (g1 := (mkF m 18 #[.val (.long i0), .second, .val (.int i1), .val (.int i2), .val (.int i3), .val (.ref b1), .val (.int (Int32.ofNat wn)), .unset, .unset, .unset] [(.long i0), (.ref b1)])) (fun _ k => XS.lloadN X2.here hx rfl (hb hby at_17) rfl k) ?_
    refine own_go (T1 := T2) (g1 := (mkF m 20 #[.val (.long i0), .second, .val (.int i1), .val (.int i2), .val (.int i3), .val (.ref b1), .val (.int (Int32.ofNat wn)), .unset, .unset, .unset] [(.int (Int32.ofNat wn)), (.long i0), (.ref b1)])) (fun _ k => XS.iload X2.here hx rfl (hb hby at_18) rfl k) ?_
    obtain ⟨cq3, kq3, q3a, q3b, q3c⟩ := isOf hZ rfl HEi.1
    obtain ⟨_, _, ⟨T3, L3, k3, n3⟩, -, X3, ⟨Lc3, hQ3, l3, y3, z3⟩, st3⟩ := X2.virtualBack hx (y := (⟨"com/example/arbordb/arbordb/tree/Encoder", "fixed", "(JI)V"⟩ : MethodName)) (z := (⟨"com/example/arbordb/arbordb/tree/Encoder", "fixed", "(JI)V"⟩ : MethodName)) hown (mvT hZ (hw _ (List.mem_of_getElem? (i := 15) rfl))) (mvT hZ (hw _ (List.mem_of_getElem? (i := 16) rfl))) (notFace_of_selects (args := #[]) (mvT hZ (hw _ (List.mem_of_getElem? (i := 18) rfl)))) (mvT hZ (hw _ (List.mem_of_getElem? (i := 18) rfl))) (mvT hZ (hw _ (List.mem_of_getElem? (i := 17) rfl))) (by decide) (backOf (W := 0) (rm3 l Z a0 hw [] b1 i0 wn hwn jB bC jk kC [] T2.heap n0 (Nat.le_of_lt (Nat.lt_of_le_of_lt HEi.2.2.2.2.2.2.1 HEi.1.lt)) HEi) hZ (hw _ (List.mem_of_getElem? (i := 19) rfl)) (hw _ (List.mem_of_getElem? (i := 2) rfl)) (by decide) (by decide)) q3a q3c (g := (mkF m 20 #[.val (.long i0), .second, .val (.int i1), .val (.int i2), .val (.int i3), .val (.ref b1), .val (.int (Int32.ofNat wn)), .unset, .unset, .unset] [(.int (Int32.ofNat wn)), (.long i0), (.ref b1)])) rfl (by rw [hml]; rfl) (Steps.refl _) (argsL := [(.long i0), (.int (Int32.ofNat wn))]) (rest := []) (lenOf own_pd_JI_V rfl) rfl (by show 2 * 0 + _ ≤ _; exact Nat.le_of_eq rfl) (hb hby at_20) (fun _ _ => ⟨rfl, rfl, (by decide : 3 + 1 ≤ _), (by decide : 35 + 32 ≤ _)⟩)
    dsimp only [Pt.U, Pt.locs, Pt.cells, Pt.slots] at X3 l3 y3 z3 st3 hQ3
    subst l3 y3 z3
    obtain ⟨rfl, N3q, bB, kB, n, vs, HEf, hn⟩ := hQ3
    have N3 := Fr.app N2 N3q
    refine own_go (T1 := T3) (g1 := (mkF m 23 #[.val (.long i0), .second, .val (.int i1), .val (.int i2), .val (.int i3), .val (.ref b1), .val (.int (Int32.ofNat wn)), .unset, .unset, .unset] [])) (fun t k => st3.trans k) ?_
    refine own_go (T1 := T3) (g1 := (mkF m 25 #[.val (.long i0), .second, .val (.int i1), .val (.int i2), .val (.int i3), .val (.ref b1), .val (.int (Int32.ofNat wn)), .unset, .unset, .unset] [(.ref b1)])) (fun _ k => XS.aload X3.here hx rfl (hb hby at_23) rfl rfl k) ?_
    obtain ⟨cq4, kq4, q4a, q4b, q4c⟩ := isOf hZ rfl HEf.1
    obtain ⟨_, _, ⟨T4, L4, k4, n4⟩, -, X4, ⟨Lc4, hQ4, l4, y4, z4⟩, st4⟩ := X3.virtualBack hx (y := (⟨"com/example/arbordb/arbordb/tree/Encoder", "array", "()[B"⟩ : MethodName)) (z := (⟨"com/example/arbordb/arbordb/tree/Encoder", "array", "()[B"⟩ : MethodName)) hown (mvT hZ (hw _ (List.mem_of_getElem? (i := 31) rfl))) (mvT hZ (hw _ (List.mem_of_getElem? (i := 32) rfl))) (notFace_of_selects (args := #[]) (mvT hZ (hw _ (List.mem_of_getElem? (i := 34) rfl)))) (mvT hZ (hw _ (List.mem_of_getElem? (i := 34) rfl))) (mvT hZ (hw _ (List.mem_of_getElem? (i := 33) rfl))) (by decide) (backOf (W := 0) (rm6 l Z a0 hw [] b1 bB bC kB kC n (Int32.ofNat wn) vs T3.heap n0 (Nat.le_of_lt (Nat.lt_of_le_of_lt HEf.2.2.2.2.2.2.1 HEf.1.lt)) HEf) hZ (hw _ (List.mem_of_getElem? (i := 35) rfl)) (hw _ (List.mem_of_getElem? (i := 2) rfl)) (by decide) (by decide)) q4a q4c (g := (mkF m 25 #[.val (.long i0), .second, .val (.int i1), .val (.int i2), .val (.int i3), .val (.ref b1), .val (.int (Int32.ofNat wn)), .unset, .unset, .unset] [(.ref b1)])) rfl (by rw [hml]; rfl) (Steps.refl _) (argsL := []) (rest := []) (lenOf own_pd__AB rfl) rfl (by show 2 * 0 + _ ≤ _; exact Nat.le_of_eq rfl) (hb hby at_25) (fun _ _ => ⟨rfl, rfl, (by decide : 4 + 0 ≤ _), (by decide : 67 + 0 ≤ _)⟩)
    dsimp only [Pt.U, Pt.locs, Pt.cells, Pt.slots] at X4 l4 y4 z4 st4 hQ4
    subst l4 y4 z4
    obtain ⟨rfl, N4q, e4⟩ := hQ4
    have N4 := Fr.app N3 N4q
    refine own_go (T1 := T4) (g1 := (mkF m 28 #[.val (.long i0), .second, .val (.int i1), .val (.int i2), .val (.int i3), .val (.ref b1), .val (.int (Int32.ofNat wn)), .unset, .unset, .unset] [(.ref bB)])) (fun t k => st4.trans k) ?_
    refine own_go (T1 := T4) (g1 := (mkF m 30 #[.val (.long i0), .second, .val (.int i1), .val (.int i2), .val (.int i3), .val (.ref b1), .val (.int (Int32.ofNat wn)), .val (.ref bB), .unset, .unset] [])) (fun _ k => XS.astore X4.here hx rfl (hb hby at_28) rfl rfl (l' := #[.val (.long i0), .second, .val (.int i1), .val (.int i2), .val (.int i3), .val (.ref b1), .val (.int (Int32.ofNat wn)), .val (.ref bB), .unset, .unset]) rfl k) ?_
    refine own_go (T1 := T4) (g1 := (mkF m 32 #[.val (.long i0), .second, .val (.int i1), .val (.int i2), .val (.int i3), .val (.ref b1), .val (.int (Int32.ofNat wn)), .val (.ref bB), .unset, .unset] [(.ref b1)])) (fun _ k => XS.aload X4.here hx rfl (hb hby at_30) rfl rfl k) ?_
    obtain ⟨cq5, kq5, q5a, q5b, q5c⟩ := isOf hZ e4 HEf.1
    obtain ⟨_, _, ⟨T5, L5, k5, n5⟩, -, X5, ⟨Lc5, hQ5, l5, y5, z5⟩, st5⟩ := X4.virtualBack hx (y := (⟨"com/example/arbordb/arbordb/tree/Encoder", "clear", "()V"⟩ : MethodName)) (z := (⟨"com/example/arbordb/arbordb/tree/Encoder", "clear", "()V"⟩ : MethodName)) hown (mvT hZ (hw _ (List.mem_of_getElem? (i := 36) rfl))) (mvT hZ (hw _ (List.mem_of_getElem? (i := 37) rfl))) (notFace_of_selects (args := #[]) (mvT hZ (hw _ (List.mem_of_getElem? (i := 39) rfl)))) (mvT hZ (hw _ (List.mem_of_getElem? (i := 39) rfl))) (mvT hZ (hw _ (List.mem_of_getElem? (i := 38) rfl))) (by decide) (backOf (W := 0) (rm7 l Z a0 hw [] b1 bB bC kB kC n (Int32.ofNat wn) vs T3.heap n0 (Nat.le_of_lt (Nat.lt_of_le_of_lt HEf.2.2.2.2.2.2.1 HEf.1.lt)) HEf (own_hs hn)) hZ (hw _ (List.mem_of_getElem? (i := 40) rfl)) (hw _ (List.mem_of_getElem? (i := 2) rfl)) (by decide) (by decide)) q5a q5c (g := (mkF m 32 #[.val (.long i0), .second, .val (.int i1), .val (.int i2), .val (.int i3), .val (.ref b1), .val (.int (Int32.ofNat wn)), .val (.ref bB), .unset, .unset] [(.ref b1)])) rfl (by rw [hml]; rfl) (Steps.refl _) (argsL := []) (rest := []) (lenOf own_pd__V rfl) rfl (by show 2 * 0 + _ ≤ _; exact Nat.le_of_eq rfl) (hb hby at_32) (fun _ _ => ⟨rfl, e4, (by decide : 4 + 0 ≤ _), (by decide : 67 + 0 ≤ _)⟩)
    dsimp only [Pt.U, Pt.locs, Pt.cells, Pt.slots] at X5 l5 y5 z5 st5 hQ5
    subst l5 y5 z5
    obtain ⟨rfl, N5q, HE5⟩ := hQ5
    have N5 := Fr.app N4 N5q
    refine own_go (T1 := T5) (g1 := (mkF m 35 #[.val (.long i0), .second, .val (.int i1), .val (.int i2), .val (.int i3), .val (.ref b1), .val (.int (Int32.ofNat wn)), .val (.ref bB), .unset, .unset] [])) (fun t k => st5.trans k) ?_
    refine own_go (T1 := T5) (g1 := (mkF m 37 #[.val (.long i0), .second, .val (.int i1), .val (.int i2), .val (.int i3), .val (.ref b1), .val (.int (Int32.ofNat wn)), .val (.ref bB), .unset, .unset] [(.int i3)])) (fun _ k => XS.iload X5.here hx rfl (hb hby at_35) rfl k) ?_
    refine own_go (T1 := T5) (g1 := (mkF m 38 #[.val (.long i0), .second, .val (.int i1), .val (.int i2), .val (.int i3), .val (.ref b1), .val (.int (Int32.ofNat wn)), .val (.ref bB), .unset, .unset] [(.int (1 : Int32)), (.int i3)])) (fun _ k => XS.iconst X5.here hx rfl (hb hby at_37) k) ?_
    refine own_go (T1 := T5) (g1 := (mkF m 39 #[.val (.long i0), .second, .val (.int i1), .val (.int i2), .val (.int i3), .val (.ref b1), .val (.int (Int32.ofNat wn)), .val (.ref bB), .unset, .unset] [(.int (i3 &&& (1 : Int32)))])) (fun _ k => XS.iand X5.here hx rfl (hb hby at_38) rfl k) ?_
    by_cases hc39 : (i3 &&& (1 : Int32)) = (0 : Int32)
    · refine own_go (T1 := T5) (g1 := (mkF m 47 #[.val (.long i0), .second, .val (.int i1), .val (.int i2), .val (.int i3), .val (.ref b1), .val (.int (Int32.ofNat wn)), .val (.ref bB), .unset, .unset] [])) (fun _ k => XS.ifYes X5.here hx rfl (pc0 := 39) (pc' := 47) rfl (hb hby at_39) rfl ((if0 _ _).trans (teq (hc39 : (i3 &&& (1 : Int32)) = (0 : Int32))).1) (by decide) (by decide) k) ?_
      exact own_tail i0 i1 i2 i3 wn b1 bB bC kB kC n vs X5 hx hZ hw hby hml hown rfl N5 HE5 hn
    · refine own_go (T1 := T5) (g1 := (mkF m 42 #[.val (.long i0), .second, .val (.int i1), .val (.int i2), .val (.int i3), .val (.ref b1), .val (.int (Int32.ofNat wn)), .val (.ref bB), .unset, .unset] [])) (fun _ k => XS.ifNo X5.here hx rfl (hb hby at_39) rfl ((if0 _ _).trans (feq (hc39 : ¬ ((i3 &&& (1 : Int32)) = (0 : Int32)))).1) k) ?_
      refine own_go (T1 := T5) (g1 := (mkF m 44 #[.val (.long i0), .second, .val (.int i1), .val (.int i2), .val (.int i3), .val (.ref b1), .val (.int (Int32.ofNat wn)), .val (.ref bB), .unset, .unset] [(.ref b1)])) (fun _ k => XS.aload X5.here hx rfl (hb hby at_42) rfl rfl k) ?_
      obtain ⟨cq6, kq6, q6a, q6b, q6c⟩ := isOf hZ rfl HE5.1
      obtain ⟨_, _, ⟨T6, L6, k6, n6⟩, -, X6, ⟨Lc6, hQ6, l6, y6, z6⟩, st6⟩ := X5.virtualBack hx (y := (⟨"com/example/arbordb/arbordb/tree/Encoder", "clear", "()V"⟩ : MethodName)) (z := (⟨"com/example/arbordb/arbordb/tree/Encoder", "clear", "()V"⟩ : MethodName)) hown (mvT hZ (hw _ (List.mem_of_getElem? (i := 36) rfl))) (mvT hZ (hw _ (List.mem_of_getElem? (i := 37) rfl))) (notFace_of_selects (args := #[]) (mvT hZ (hw _ (List.mem_of_getElem? (i := 39) rfl)))) (mvT hZ (hw _ (List.mem_of_getElem? (i := 39) rfl))) (mvT hZ (hw _ (List.mem_of_getElem? (i := 38) rfl))) (by decide) (backOf (W := 0) (rm7 l Z a0 hw [] b1 bB bC kB kC n 0 vs T5.heap n0 (Nat.le_of_lt (Nat.lt_of_le_of_lt HE5.2.2.2.2.2.2.1 HE5.1.lt)) HE5 (own_hs hn)) hZ (hw _ (List.mem_of_getElem? (i := 40) rfl)) (hw _ (List.mem_of_getElem? (i := 2) rfl)) (by decide) (by decide)) q6a q6c (g := (mkF m 44 #[.val (.long i0), .second, .val (.int i1), .val (.int i2), .val (.int i3), .val (.ref b1), .val (.int (Int32.ofNat wn)), .val (.ref bB), .unset, .unset] [(.ref b1)])) rfl (by rw [hml]; rfl) (Steps.refl _) (argsL := []) (rest := []) (lenOf own_pd__V rfl) rfl (by show 2 * 0 + _ ≤ _; exact Nat.le_of_eq rfl) (hb hby at_44) (fun _ _ => ⟨rfl, rfl, (by decide : 4 + 0 ≤ _), (by decide : 67 + 0 ≤ _)⟩)
      dsimp only [Pt.U, Pt.locs, Pt.cells, Pt.slots] at X6 l6 y6 z6 st6 hQ6
      subst l6 y6 z6
      obtain ⟨rfl, N6q, HE6⟩ := hQ6
      have N6 := Fr.app N5 N6q
      refine own_go (T1 := T6) (g1 := (mkF m 47 #[.val (.long i0), .second, .val (.int i1), .val (.int i2), .val (.int i3), .val (.ref b1), .val (.int (Int32.ofNat wn)), .val (.ref bB), .unset, .unset] [])) (fun t k => st6.trans k) ?_
      exact own_tail i0 i1 i2 i3 wn b1 bB bC kB kC n vs X6 hx hZ hw hby hml hown rfl N6 HE6 hn
  obtain ⟨T', g', L', k', n', X', ⟨pcr, Ls, v, rfl, hd, rfl, rfl, rfl, N'⟩, st⟩ := main
  obtain ⟨fs, hr, hrun, hended, hW, hsame⟩ := X'.leave (v := some (.int (1 : Int32))) (fun h => by rw [Bd.returns] at h; cases h)
  refine ⟨_, _, castTop (ef_0 m i0 i1 i2 i3) (st _ ?_), hrun, hended, _, _, rfl, ⟨rfl, N'⟩, ⟨_, rfl⟩, hW, hsame.mono (by decide) (by decide)⟩
  exact retN X' hx (t := .boolean) Bd.returns (by simp) hd hr
set_option maxRecDepth 65536 in
set_option maxHeartbeats 40000000 in
theorem comes_1 {Post : Tables → Env → Array Value → State → Outcome → State → Prop} (hpost : ∀ tb e args s v u, (limb_1_1.after args s (.returned v) u = true ∧ limb_1_2.after args s (.returned v) u = true ∧ True) → FrameEnd s (.returned v) u (Jvm.fieldLocs frame_1_writes args s ++ Jvm.arrayLocs frame_1_arrays args s ++ Jvm.staticLocs frame_1_statics s) 16 256 → Post tb e args s (.returned v) u) :
    ArmFor flags0 classFile x code maxLocals ret World_1 tables_1 room_1 Calls_1 rest_1 Pre_1 Post := by
  intro l hfl _ _ p e ha hc hk s m args below hf hA hF happ hP
  obtain ⟨hcalls, hrest, hpre⟩ := hP
  obtain ⟨-, -, -, hnamed, -, -, -, hat⟩ := (Spec.applies_iff hf).mp happ
  obtain ⟨hg, hn⟩ := and_e (Cond.before_iff.mp (show (Jvm.Cond.and given_1 narrow_1).before args s = true from hpre))
  obtain ⟨gc, gr0⟩ := and_e hg
  obtain ⟨ga0, gr1⟩ := and_e gr0
  obtain ⟨ga1, gr2⟩ := and_e gr1
  obtain ⟨ga2, gr3⟩ := and_e gr2
  obtain ⟨w0, w1, w2, w3, rfl⟩ : ∃ w0 w1 w2 w3 : Value, args = #[w0, w1, w2, w3] := by
    have hs : args.size = 4 := by simpa [Cond.value, given_1] using gc
    obtain ⟨L⟩ := args
    match L, hs with
    | [w0, w1, w2, w3], _ => exact ⟨w0, w1, w2, w3, rfl⟩
  have hw := fun d (hd : d ∈ tables_1) => atoms_spec (ws := Jvm.Cond.code x code maxLocals ret :: tables_1) hat d (List.mem_cons_of_mem _ hd)
  obtain ⟨i0, ei0⟩ := isL_v ga0
  obtain rfl : w0 = (.long i0) := Option.some.inj ei0
  obtain ⟨i1, ei1⟩ := is_v ga1
  obtain rfl : w1 = (.int i1) := Option.some.inj ei1
  obtain ⟨i2, ei2⟩ := is_v ga2
  obtain rfl : w2 = (.int i2) := Option.some.inj ei2
  obtain ⟨i3, ei3⟩ := is_v gr3
  obtain rfl : w3 = (.int i3) := Option.some.inj ei3
  obtain ⟨n, o, h1, h2, h3, _, L, rfl, ⟨rfl, N⟩, hq⟩ := rm0 l s _ hw tables_1 i0 i1 i2 i3 s.heap s.heap.size (Nat.le_refl _) p e ha hc hk s m _ below hf ((Spec.applies_iff_loose hf).mp happ).1 ⟨rfl, State.Warmed39.refl s, rfl⟩ trivial
  refine ⟨n, _, h1, h2, h3, hpost _ _ _ _ _ _ ⟨Cond.after_iff.mpr rfl, Cond.after_iff.mpr (eq_i res_at (Term.int_eval (1)) rfl), trivial⟩ ⟨hq.1, hq.2.1, (hq.2.2.sift fun y hy => Or.inr (N y hy)).mono (by decide) (by decide)⟩⟩
theorem main_1_1 : Claimed_1_1 := comes_1 fun _ _ _ _ _ _ h hF => ⟨h.1, hF⟩
theorem main_1_2 : Claimed_1_2 := comes_1 fun _ _ _ _ _ _ h hF => ⟨h.2.1, hF⟩
end Jvm.Pilot.@@N@@
namespace Jvm.Pilot.@@N@@
open Jvm Jvm.ClassFile Sem Op Lib Jvm.Free Jvm.Stand Jvm.Pilot.@@N@@.Jvm.D
/-! MADE BY PROGRAM (witnessworld.py) out of the Statement's table words and the real class files: 14 classes; the members and pool entries that the words name. The judged class is class 1, her method 1. -/
namespace start1
open Jvm.ClassFile
def u (s : String) : CpInfo := .utf8 (stringToUtf16 s)
/-- a pool by its gaps: so many unusable entries, then the entry; so many at the end -/
def gap : Nat → List CpInfo → List CpInfo
  | 0, r => r
  | n + 1, r => .unusable :: gap n r
def poolList (es : List (Nat × CpInfo)) (last : Nat) : List CpInfo := es.foldr (fun e r => gap e.1 (e.2 :: r)) (gap last [])
def pool (es : List (Nat × CpInfo)) (last : Nat) : Array CpInfo := ⟨poolList es last⟩
def fileOf (pool : Array CpInfo) (this : Nat) (attrs : Array Attribute := #[]) (ms : Array MethodInfo := #[]) (fl : Nat := 33) (sup : Nat := 0) (ifs : Array Nat := #[]) (fds : Array FieldInfo := #[]) : ClassFile where
  minorVersion := 0
  majorVersion := 65
  constantPool := pool
  accessFlags := fl
  thisClass := this
  superClass := sup
  interfaces := ifs
  fields := fds
  methods := ms
  attributes := attrs
def plain (name : String) (sup : Option ClassId) : Class where
  name := name
  kind := .ordinary
  loader := none
  accessFlags := 33
  super := sup
  interfaces := #[]
  cf := none
  fields := #[]
  methods := #[]
  instanceTypes := #[]
  staticTypes := #[]
  resolved := #[]
  callSites := []
  init := .initialized
  statics := none
  mirror := none

def pool0 : Array CpInfo := pool [(5, u "<init>"), (0, u "()V"), (1, .class_ 10), (1, u "java/lang/Object")] 113

def k0c0 : Code := { maxStack := 0, maxLocals := 1, code := object_method_1_code, exceptionTable := #[], attributes := #[] }
def k0m0 : Method := { name := "<init>", desc := "()V", sig := { parameters := [], returnType := none }, accessFlags := 1, code := some k0c0 }
/-- java/lang/Object -/
def k0 : Class := { plain "java/lang/Object" none with
  accessFlags := 33
  interfaces := #[]
  cf := some (fileOf pool0 8 #[] #[{ accessFlags := 1, nameIndex := 5, descriptorIndex := 6, attributes := #[] }] 33 0 #[] #[])
  fields := #[]
  methods := #[k0m0]
  instanceTypes := #[]
  staticTypes := #[]
  resolved := Array.replicate 124 none
  statics := none }

def pool1 : Array CpInfo := pool [(2, .class_ 4), (0, .nameAndType 5 6), (0, u "java/lang/Object"), (0, u "<init>"), (0, u "()V"), (0, .class_ 8), (0, u "com/example/arbordb/arbordb/tree/Encoder"), (0, .methodref 7 3), (0, .methodref 7 11), (0, .nameAndType 12 13), (0, u "fixed"), (0, u "(JI)V"), (0, .methodref 7 15), (0, .nameAndType 16 17), (0, u "array"), (0, u "()[B"), (0, .methodref 7 19), (0, .nameAndType 20 6), (0, u "clear"), (0, .methodref 7 22), (0, .nameAndType 23 24), (0, u "length"), (0, u "()I"), (0, .methodref 7 26), (0, .nameAndType 27 28), (0, u "add"), (0, u "(I)V"), (0, .class_ 30), (0, u "com/example/arbordb/arbordb/tree/EncoderClearPinLaw"), (2, u "law"), (0, u "(JIII)Z")] 5

def k1m0 : Method := { name := "<init>", desc := "()V", sig := { parameters := [], returnType := none }, accessFlags := 1, code := none }
def k1c1 : Code := { maxStack := 4, maxLocals := 10, code := code, exceptionTable := #[], attributes := #[] }
def k1m1 : Method := { name := "law", desc := "(JIII)Z", sig := { parameters := [.long, .int, .int, .int], returnType := some .boolean }, accessFlags := 9, code := some k1c1 }
/-- com/example/arbordb/arbordb/tree/EncoderClearPinLaw -/
def k1 : Class := { plain "com/example/arbordb/arbordb/tree/EncoderClearPinLaw" (some 0) with
  accessFlags := 49
  interfaces := #[]
  cf := some (fileOf pool1 29 #[] #[{ accessFlags := 1, nameIndex := 5, descriptorIndex := 6, attributes := #[] }, { accessFlags := 9, nameIndex := 33, descriptorIndex := 34, attributes := #[] }] 49 2 #[] #[])
  fields := #[]
  methods := #[k1m0, k1m1]
  instanceTypes := #[]
  staticTypes := #[]
  resolved := Array.replicate 40 none
  statics := none }

def pool2 : Array CpInfo := pool [(3, .methodref 4 5), (0, .class_ 6), (0, .nameAndType 7 8), (0, u "java/lang/Object"), (0, u "<init>"), (0, u "()V"), (0, .class_ 10), (0, u "com/example/arbordb/arbordb/tree/Encoder"), (0, .fieldref 9 12), (0, .nameAndType 13 14), (0, u "bytes"), (0, u "[B"), (0, .fieldref 9 16), (0, .nameAndType 17 18), (0, u "chars"), (0, u "[C"), (6, .methodref 9 26), (0, .nameAndType 27 28), (0, u "add"), (0, u "(I)V"), (16, .methodref 9 46), (0, .nameAndType 47 28), (0, u "room"), (0, .fieldref 9 49), (0, .nameAndType 50 51), (0, u "length"), (0, u "I"), (28, u "()I"), (1, .class_ 84), (1, u "java/lang/Math"), (0, u "max"), (15, .integer 1048576), (0, .long 2147483639), (8, .long 2), (1, .methodref 82 114), (0, .nameAndType 85 115), (0, u "(JJ)J"), (0, .methodref 82 117), (0, .nameAndType 118 115), (0, u "min"), (0, .methodref 120 121), (0, .class_ 122), (0, .nameAndType 123 124), (0, u "java/util/Arrays"), (0, u "copyOf"), (0, u "([BI)[B"), (0, u "LARGE"), (1, u "MOST"), (1, u "FIRST"), (6, u "fixed"), (0, u "(JI)V"), (0, u "array"), (0, u "()[B"), (0, u "clear")] 2

def k2c0 : Code := { maxStack := 2, maxLocals := 1, code := prog_56_method_1_code, exceptionTable := #[], attributes := #[] }
def k2m0 : Method := { name := "<init>", desc := "()V", sig := { parameters := [], returnType := none }, accessFlags := 0, code := some k2c0 }
def k2c1 : Code := { maxStack := 5, maxLocals := 5, code := prog_56_method_8_code, exceptionTable := #[], attributes := #[] }
def k2m1 : Method := { name := "fixed", desc := "(JI)V", sig := { parameters := [.long, .int], returnType := none }, accessFlags := 0, code := some k2c1 }
def k2c2 : Code := { maxStack := 5, maxLocals := 2, code := prog_56_method_9_code, exceptionTable := #[], attributes := #[] }
def k2m2 : Method := { name := "add", desc := "(I)V", sig := { parameters := [.int], returnType := none }, accessFlags := 0, code := some k2c2 }
def k2c3 : Code := { maxStack := 1, maxLocals := 1, code := prog_56_method_10_code, exceptionTable := #[], attributes := #[] }
def k2m3 : Method := { name := "array", desc := "()[B", sig := { parameters := [], returnType := some (.array .byte) }, accessFlags := 0, code := some k2c3 }
def k2c4 : Code := { maxStack := 1, maxLocals := 1, code := prog_56_method_11_code, exceptionTable := #[], attributes := #[] }
def k2m4 : Method := { name := "length", desc := "()I", sig := { parameters := [], returnType := some .int }, accessFlags := 0, code := some k2c4 }
def k2c5 : Code := { maxStack := 2, maxLocals := 1, code := prog_56_method_12_code, exceptionTable := #[], attributes := #[] }
def k2m5 : Method := { name := "clear", desc := "()V", sig := { parameters := [], returnType := none }, accessFlags := 0, code := some k2c5 }
def k2c6 : Code := { maxStack := 6, maxLocals := 6, code := prog_56_method_13_code, exceptionTable := #[], attributes := #[] }
def k2m6 : Method := { name := "room", desc := "(I)V", sig := { parameters := [.int], returnType := none }, accessFlags := 2, code := some k2c6 }
/-- com/example/arbordb/arbordb/tree/Encoder -/
def k2 : Class := { plain "com/example/arbordb/arbordb/tree/Encoder" (some 0) with
  accessFlags := 48
  interfaces := #[]
  cf := some (fileOf pool2 9 #[] #[{ accessFlags := 0, nameIndex := 7, descriptorIndex := 8, attributes := #[] }, { accessFlags := 0, nameIndex := 136, descriptorIndex := 137, attributes := #[] }, { accessFlags := 0, nameIndex := 27, descriptorIndex := 28, attributes := #[] }, { accessFlags := 0, nameIndex := 138, descriptorIndex := 139, attributes := #[] }, { accessFlags := 0, nameIndex := 50, descriptorIndex := 80, attributes := #[] }, { accessFlags := 0, nameIndex := 140, descriptorIndex := 8, attributes := #[] }, { accessFlags := 2, nameIndex := 47, descriptorIndex := 28, attributes := #[] }] 48 4 #[] #[{ accessFlags := 26, nameIndex := 125, descriptorIndex := 51, attributes := #[] }, { accessFlags := 24, nameIndex := 127, descriptorIndex := 51, attributes := #[] }, { accessFlags := 26, nameIndex := 129, descriptorIndex := 51, attributes := #[] }, { accessFlags := 2, nameIndex := 13, descriptorIndex := 14, attributes := #[] }, { accessFlags := 2, nameIndex := 50, descriptorIndex := 51, attributes := #[] }, { accessFlags := 2, nameIndex := 17, descriptorIndex := 18, attributes := #[] }])
  fields := #[{ name := "LARGE", type := .int, accessFlags := 26, slot := 0, constantValue := 0 }, { name := "MOST", type := .int, accessFlags := 24, slot := 1, constantValue := 0 }, { name := "FIRST", type := .int, accessFlags := 26, slot := 2, constantValue := 0 }, { name := "bytes", type := (.array .byte), accessFlags := 2, slot := 0, constantValue := 0 }, { name := "length", type := .int, accessFlags := 2, slot := 1, constantValue := 0 }, { name := "chars", type := (.array .char), accessFlags := 2, slot := 2, constantValue := 0 }]
  methods := #[k2m0, k2m1, k2m2, k2m3, k2m4, k2m5, k2m6]
  instanceTypes := #[(.array .byte), .int, (.array .char)]
  staticTypes := #[.int, .int, .int]
  resolved := Array.replicate 143 none
  statics := none }

def pool3 : Array CpInfo := pool [(1, .class_ 2), (0, u "java/lang/Math"), (1, .class_ 6), (1, u "java/lang/Object"), (0, u "<init>"), (0, u "()V"), (89, .class_ 100), (1, u "java/lang/Math$RandomNumberGeneratorHolder"), (20, u "(JJ)J"), (50, u "negativeZeroFloatBits"), (0, u "J"), (2, u "negativeZeroDoubleBits"), (21, u "max"), (2, u "min"), (43, u "$assertionsDisabled"), (0, u "Z"), (88, u "(II)I"), (2, u "twoToTheDoubleScaleDown"), (0, u "D"), (4, u "twoToTheDoubleScaleUp"), (9, u "E"), (3, u "PI"), (2, u "TAU"), (2, u "DEGREES_TO_RADIANS"), (0, u "RADIANS_TO_DEGREES")] 94

def k3m0 : Method := { name := "<init>", desc := "()V", sig := { parameters := [], returnType := none }, accessFlags := 2, code := none }
def k3c1 : Code := { maxStack := 4, maxLocals := 4, code := jdk_29_method_66_code, exceptionTable := #[], attributes := #[] }
def k3m1 : Method := { name := "max", desc := "(JJ)J", sig := { parameters := [.long, .long], returnType := some .long }, accessFlags := 9, code := some k3c1 }
def k3c2 : Code := { maxStack := 2, maxLocals := 2, code := jdk_29_method_69_code, exceptionTable := #[], attributes := #[] }
def k3m2 : Method := { name := "min", desc := "(II)I", sig := { parameters := [.int, .int], returnType := some .int }, accessFlags := 9, code := some k3c2 }
def k3c3 : Code := { maxStack := 4, maxLocals := 4, code := jdk_29_method_70_code, exceptionTable := #[], attributes := #[] }
def k3m3 : Method := { name := "min", desc := "(JJ)J", sig := { parameters := [.long, .long], returnType := some .long }, accessFlags := 9, code := some k3c3 }
/-- java/lang/Math -/
def k3 : Class := { plain "java/lang/Math" (some 0) with
  accessFlags := 49
  interfaces := #[]
  cf := some (fileOf pool3 1 #[.nestMembers #[98]] #[{ accessFlags := 2, nameIndex := 7, descriptorIndex := 8, attributes := #[] }, { accessFlags := 9, nameIndex := 198, descriptorIndex := 121, attributes := #[] }, { accessFlags := 9, nameIndex := 201, descriptorIndex := 335, attributes := #[] }, { accessFlags := 9, nameIndex := 201, descriptorIndex := 121, attributes := #[] }] 49 4 #[] #[{ accessFlags := 25, nameIndex := 354, descriptorIndex := 339, attributes := #[] }, { accessFlags := 25, nameIndex := 358, descriptorIndex := 339, attributes := #[] }, { accessFlags := 25, nameIndex := 361, descriptorIndex := 339, attributes := #[] }, { accessFlags := 26, nameIndex := 364, descriptorIndex := 339, attributes := #[] }, { accessFlags := 26, nameIndex := 365, descriptorIndex := 339, attributes := #[] }, { accessFlags := 26, nameIndex := 172, descriptorIndex := 173, attributes := #[] }, { accessFlags := 26, nameIndex := 176, descriptorIndex := 173, attributes := #[] }, { accessFlags := 8, nameIndex := 344, descriptorIndex := 339, attributes := #[] }, { accessFlags := 8, nameIndex := 338, descriptorIndex := 339, attributes := #[] }, { accessFlags := 4120, nameIndex := 245, descriptorIndex := 246, attributes := #[] }])
  fields := #[{ name := "E", type := .double, accessFlags := 25, slot := 0, constantValue := 0 }, { name := "PI", type := .double, accessFlags := 25, slot := 1, constantValue := 0 }, { name := "TAU", type := .double, accessFlags := 25, slot := 2, constantValue := 0 }, { name := "DEGREES_TO_RADIANS", type := .double, accessFlags := 26, slot := 3, constantValue := 0 }, { name := "RADIANS_TO_DEGREES", type := .double, accessFlags := 26, slot := 4, constantValue := 0 }, { name := "negativeZeroFloatBits", type := .long, accessFlags := 26, slot := 5, constantValue := 0 }, { name := "negativeZeroDoubleBits", type := .long, accessFlags := 26, slot := 6, constantValue := 0 }, { name := "twoToTheDoubleScaleUp", type := .double, accessFlags := 8, slot := 7, constantValue := 0 }, { name := "twoToTheDoubleScaleDown", type := .double, accessFlags := 8, slot := 8, constantValue := 0 }, { name := "$assertionsDisabled", type := .boolean, accessFlags := 4120, slot := 9, constantValue := 0 }]
  methods := #[k3m0, k3m1, k3m2, k3m3]
  instanceTypes := #[]
  staticTypes := #[.double, .double, .double, .double, .double, .long, .long, .double, .double, .boolean]
  resolved := Array.replicate 460 none
  statics := none }

def pool4 : Array CpInfo := pool [(2, .class_ 4), (1, u "java/lang/Object"), (0, u "<init>"), (0, u "()V"), (7, .class_ 16), (1, u "java/util/Arrays"), (57, .class_ 76), (1, u "java/util/Arrays$NaturalOrder"), (36, .class_ 115), (1, u "java/util/Arrays$LegacyMergeSort"), (1, u "Z"), (32, .methodref 151 152), (0, .class_ 153), (0, .nameAndType 154 155), (0, u "java/lang/System"), (0, u "arraycopy"), (0, u "(Ljava/lang/Object;ILjava/lang/Object;II)V"), (146, u "copyOf"), (1, .methodref 305 306), (0, .class_ 307), (0, .nameAndType 308 309), (0, u "java/lang/Math"), (0, u "min"), (0, u "(II)I"), (65, .class_ 376), (0, u "java/util/Arrays$ArrayList"), (68, u "$assertionsDisabled"), (269, u "MIN_ARRAY_SORT_GRAN"), (0, u "I"), (2, u "INSERTIONSORT_THRESHOLD"), (149, u "([BI)[B"), (105, .class_ 976), (0, u "java/util/Arrays$ArrayItr")] 52

def k4m0 : Method := { name := "<init>", desc := "()V", sig := { parameters := [], returnType := none }, accessFlags := 2, code := none }
def k4c1 : Code := { maxStack := 6, maxLocals := 3, code := jdk_65_method_121_code, exceptionTable := #[], attributes := #[] }
def k4m1 : Method := { name := "copyOf", desc := "([BI)[B", sig := { parameters := [(.array .byte), .int], returnType := some (.array .byte) }, accessFlags := 9, code := some k4c1 }
/-- java/util/Arrays -/
def k4 : Class := { plain "java/util/Arrays" (some 0) with
  accessFlags := 49
  interfaces := #[]
  cf := some (fileOf pool4 14 #[.nestMembers #[975, 375, 113, 74]] #[{ accessFlags := 2, nameIndex := 5, descriptorIndex := 6, attributes := #[] }, { accessFlags := 9, nameIndex := 302, descriptorIndex := 869, attributes := #[] }] 49 2 #[] #[{ accessFlags := 26, nameIndex := 715, descriptorIndex := 716, attributes := #[] }, { accessFlags := 26, nameIndex := 719, descriptorIndex := 716, attributes := #[] }, { accessFlags := 4120, nameIndex := 445, descriptorIndex := 117, attributes := #[] }])
  fields := #[{ name := "MIN_ARRAY_SORT_GRAN", type := .int, accessFlags := 26, slot := 0, constantValue := 0 }, { name := "INSERTIONSORT_THRESHOLD", type := .int, accessFlags := 26, slot := 1, constantValue := 0 }, { name := "$assertionsDisabled", type := .boolean, accessFlags := 4120, slot := 2, constantValue := 0 }]
  methods := #[k4m0, k4m1]
  instanceTypes := #[]
  staticTypes := #[.int, .int, .boolean]
  resolved := Array.replicate 1029 none
  statics := none }

def pool5 : Array CpInfo := pool [(2, .class_ 4), (1, u "java/lang/Object"), (0, u "<init>"), (0, u "()V"), (1, .class_ 10), (1, u "java/lang/System"), (0, u "allowSecurityManager"), (0, u "I"), (16, u "cons"), (0, u "Ljava/io/Console;"), (77, .class_ 110), (1, u "java/lang/System$CallersHolder"), (43, u "initialErrStream"), (0, u "Ljava/io/PrintStream;"), (19, u "security"), (0, u "Ljava/lang/SecurityManager;"), (31, .class_ 209), (0, u "java/lang/System$1"), (7, u "props"), (0, u "Ljava/util/Properties;"), (2, u "lineSeparator"), (0, u "Ljava/lang/String;"), (96, .class_ 321), (1, u "java/lang/System$LoggerFinder"), (5, .class_ 328), (0, u "java/lang/System$Logger"), (67, u "err"), (2, u "out"), (91, u "notSupportedJnuEncoding"), (15, u "in"), (17, u "initialIn"), (0, u "Ljava/io/InputStream;"), (35, u "bootLayer"), (0, u "Ljava/lang/ModuleLayer;"), (99, .class_ 664), (0, u "java/lang/System$2"), (9, u "NEVER"), (2, u "MAYBE"), (49, u "arraycopy"), (0, u "(Ljava/lang/Object;ILjava/lang/Object;II)V"), (72, .class_ 802), (0, u "java/lang/System$Logger$Level")] 31

def k5m0 : Method := { name := "<init>", desc := "()V", sig := { parameters := [], returnType := none }, accessFlags := 2, code := none }
def k5m1 : Method := { name := "arraycopy", desc := "(Ljava/lang/Object;ILjava/lang/Object;II)V", sig := { parameters := [(.object "java/lang/Object"), .int, (.object "java/lang/Object"), .int, .int], returnType := none }, accessFlags := 265, code := none }
/-- java/lang/System -/
def k5 : Class := { plain "java/lang/System" (some 0) with
  accessFlags := 49
  interfaces := #[]
  cf := some (fileOf pool5 8 #[.nestMembers #[319, 327, 801, 108, 663, 208]] #[{ accessFlags := 2, nameIndex := 5, descriptorIndex := 6, attributes := #[] }, { accessFlags := 265, nameIndex := 727, descriptorIndex := 728, attributes := #[] }] 49 2 #[] #[{ accessFlags := 25, nameIndex := 507, descriptorIndex := 526, attributes := #[] }, { accessFlags := 25, nameIndex := 399, descriptorIndex := 155, attributes := #[] }, { accessFlags := 25, nameIndex := 396, descriptorIndex := 155, attributes := #[] }, { accessFlags := 10, nameIndex := 525, descriptorIndex := 526, attributes := #[] }, { accessFlags := 26, nameIndex := 674, descriptorIndex := 12, attributes := #[] }, { accessFlags := 26, nameIndex := 677, descriptorIndex := 12, attributes := #[] }, { accessFlags := 10, nameIndex := 11, descriptorIndex := 12, attributes := #[] }, { accessFlags := 74, nameIndex := 175, descriptorIndex := 176, attributes := #[] }, { accessFlags := 10, nameIndex := 491, descriptorIndex := 222, attributes := #[] }, { accessFlags := 74, nameIndex := 29, descriptorIndex := 30, attributes := #[] }, { accessFlags := 74, nameIndex := 154, descriptorIndex := 155, attributes := #[] }, { accessFlags := 10, nameIndex := 217, descriptorIndex := 218, attributes := #[] }, { accessFlags := 10, nameIndex := 221, descriptorIndex := 222, attributes := #[] }, { accessFlags := 8, nameIndex := 562, descriptorIndex := 563, attributes := #[] }])
  fields := #[{ name := "in", type := (.object "java/io/InputStream"), accessFlags := 25, slot := 0, constantValue := 0 }, { name := "out", type := (.object "java/io/PrintStream"), accessFlags := 25, slot := 1, constantValue := 0 }, { name := "err", type := (.object "java/io/PrintStream"), accessFlags := 25, slot := 2, constantValue := 0 }, { name := "initialIn", type := (.object "java/io/InputStream"), accessFlags := 10, slot := 3, constantValue := 0 }, { name := "NEVER", type := .int, accessFlags := 26, slot := 4, constantValue := 0 }, { name := "MAYBE", type := .int, accessFlags := 26, slot := 5, constantValue := 0 }, { name := "allowSecurityManager", type := .int, accessFlags := 10, slot := 6, constantValue := 0 }, { name := "security", type := (.object "java/lang/SecurityManager"), accessFlags := 74, slot := 7, constantValue := 0 }, { name := "notSupportedJnuEncoding", type := (.object "java/lang/String"), accessFlags := 10, slot := 8, constantValue := 0 }, { name := "cons", type := (.object "java/io/Console"), accessFlags := 74, slot := 9, constantValue := 0 }, { name := "initialErrStream", type := (.object "java/io/PrintStream"), accessFlags := 74, slot := 10, constantValue := 0 }, { name := "props", type := (.object "java/util/Properties"), accessFlags := 10, slot := 11, constantValue := 0 }, { name := "lineSeparator", type := (.object "java/lang/String"), accessFlags := 10, slot := 12, constantValue := 0 }, { name := "bootLayer", type := (.object "java/lang/ModuleLayer"), accessFlags := 8, slot := 13, constantValue := 0 }]
  methods := #[k5m0, k5m1]
  instanceTypes := #[]
  staticTypes := #[(.object "java/io/InputStream"), (.object "java/io/PrintStream"), (.object "java/io/PrintStream"), (.object "java/io/InputStream"), .int, .int, .int, (.object "java/lang/SecurityManager"), (.object "java/lang/String"), (.object "java/io/Console"), (.object "java/io/PrintStream"), (.object "java/util/Properties"), (.object "java/lang/String"), (.object "java/lang/ModuleLayer")]
  resolved := Array.replicate 834 none
  statics := none }

def pool6 : Array CpInfo := pool [(1, u "java/lang/Cloneable"), (0, .class_ 1), (0, u "java/lang/Object"), (0, .class_ 3)] 3

/-- java/lang/Cloneable -/
def k6 : Class := { plain "java/lang/Cloneable" (some 0) with
  accessFlags := 1537
  interfaces := #[]
  cf := some (fileOf pool6 2 #[] #[] 1537 4 #[] #[])
  fields := #[]
  methods := #[]
  instanceTypes := #[]
  staticTypes := #[]
  resolved := Array.replicate 8 none
  statics := none }

def pool7 : Array CpInfo := pool [(1, u "java/io/Serializable"), (0, .class_ 1), (0, u "java/lang/Object"), (0, .class_ 3)] 3

/-- java/io/Serializable -/
def k7 : Class := { plain "java/io/Serializable" (some 0) with
  accessFlags := 1537
  interfaces := #[]
  cf := some (fileOf pool7 2 #[] #[] 1537 4 #[] #[])
  fields := #[]
  methods := #[]
  instanceTypes := #[]
  staticTypes := #[]
  resolved := Array.replicate 8 none
  statics := none }

/-- the primitive byte -/
def k8 : Class := { plain "byte" none with kind := .primitive 'B', accessFlags := 0x411 }
/-- [B -/
def k9 : Class := { plain "[B" (some 0) with kind := .array 8 .byte, interfaces := #[6, 7], accessFlags := 1041 }

/-- the primitive char -/
def k10 : Class := { plain "char" none with kind := .primitive 'C', accessFlags := 0x411 }
/-- [C -/
def k11 : Class := { plain "[C" (some 0) with kind := .array 10 .char, interfaces := #[6, 7], accessFlags := 1041 }

/-- the primitive int -/
def k12 : Class := { plain "int" none with kind := .primitive 'I', accessFlags := 0x411 }
/-- [I -/
def k13 : Class := { plain "[I" (some 0) with kind := .array 12 .int, interfaces := #[6, 7], accessFlags := 1041 }

def heap : Heap := #[]
def classes : Array Class := #[k0, k1, k2, k3, k4, k5, k6, k7, k8, k9, k10, k11, k12, k13]
def interned : List (Array UInt16 × Addr) := []
def slotsUsed : Nat := 0
def theMethod : MethodId := ⟨1, 1⟩
def args0 : Array Value := #[.long 5, .int 3, .int 7, .int 1]
def aboutOver (below : List Frame) : State where
  vm := { classes := classes, interned := interned.toArray }
  heap := heap
  slotsUsed := slotsUsed
  threads := #[{ frames := .invoking theMethod args0 :: below }]
def below0 : List Frame := [.native { method := ⟨0, 0⟩, args := #[] }]
def about1 : State := aboutOver below0
def p0 : Program := .bare "" "" ""
def e0 : Env := launch0.env 0 0 0
theorem w_frames : about1.frames = Frame.invoking theMethod args0 :: below0 := rfl
set_option maxRecDepth 65536 in
theorem w_args : argsFit about1.vm theMethod args0 = true := by decide +kernel
set_option maxRecDepth 65536 in
theorem w_heap : heapFits about1 = true := by decide +kernel
set_option maxRecDepth 65536 in
theorem w_runnable : about1.curStatus? = some .runnable := by decide +kernel
set_option maxRecDepth 65536 in
theorem w_alone : about1.alone = true := by decide +kernel
set_option maxRecDepth 65536 in
theorem w_named : about1.methodNamed? x = some theMethod := by decide +kernel
set_option maxRecDepth 65536 in
theorem w_hears : about1.hears theMethod below0 = true := by decide +kernel
set_option maxRecDepth 65536 in
theorem w_ripe : about1.ripe theMethod args0 below0 = true := by decide +kernel
theorem w_running : about1.status = .running := rfl
set_option maxRecDepth 65536 in
theorem w_room : about1.hasRoom e0.platform room_1 = true :=
  launch0.hasRoom_least _ room_1 (by decide +kernel) (by decide +kernel) (by decide +kernel) (by decide +kernel) (by decide +kernel) (by decide +kernel)
theorem allAtoms_all (ts : List Jvm.Cond) (a : Array Jvm.Value) (st : Jvm.State) : (allAtoms ts).before a st = ts.all (fun c => c.before a st) := by
  induction ts with
  | nil => rfl
  | cons c t ih =>
    show (Jvm.Cond.and c (allAtoms t)).before a st = _
    rw [Jvm.Cond.before_and, ih, List.all_cons]
def words1 : List Jvm.Cond := Jvm.Cond.code x code maxLocals ret :: tables_1
/-- a 'code' word, met by the world's own term for the bytes: nothing is compared byte by byte -/
theorem code_word {y : MethodName} {bytes : ByteArray} {mx : Nat} {rt : Option FieldType} {a : Array Value} {s : State} {m : MethodId} {meth : Method} {c : Code} (h1 : s.methodNamed? y = some m) (h2 : s.vm.method? m = some meth) (h3 : meth.code = some c) (h4 : c.code = bytes)
    (h5 : (c.maxLocals == mx && c.exceptionTable.isEmpty && decide (c.maxStack ≤ mostOperands) && decide (meth.sig.returnType = rt) && !meth.locks && decide (parseMethodDescriptor y.desc = some meth.sig)) = true) : (Jvm.Cond.code y bytes mx rt).before a s = true := by
  simp only [Bool.and_eq_true, beq_iff_eq, Bool.not_eq_true', decide_eq_true_eq] at h5
  obtain ⟨⟨⟨⟨⟨g1, g2⟩, g3⟩, g4⟩, g5⟩, g6⟩ := h5
  simp [Cond.before, Cond.holds, Cond.value, h1, h2, h3, h4, g1, g2, g3, g4, g5, g6]
def isCode : Jvm.Cond → Bool
  | .code _ _ _ _ => true
  | _ => false
theorem all_split {L : List Jvm.Cond} {P : Jvm.Cond → Bool} (h1 : L.all (fun c => isCode c || P c) = true) (h2 : ∀ c ∈ L.filter isCode, P c = true) : L.all P = true := by
  refine List.all_eq_true.mpr fun c hc => ?_
  have h := List.all_eq_true.mp h1 c hc
  rcases Bool.eq_false_or_eq_true (isCode c) with hi | hi
  · exact h2 c (List.mem_filter.mpr ⟨hc, hi⟩)
  · simpa [hi] using h
set_option maxRecDepth 65536 in
theorem w_c0 : (Jvm.Cond.code x code maxLocals ret).before args0 about1 = true := code_word (m := ⟨1, 1⟩) (meth := k1m1) (c := k1c1) (by decide +kernel) rfl rfl rfl (by decide +kernel)
set_option maxRecDepth 65536 in
theorem w_c1 : (Jvm.Cond.code ({ cls := "com/example/arbordb/arbordb/tree/Encoder", name := "<init>", desc := "()V" } : Jvm.MethodName) prog_56_method_1_code (1 : Nat) (Option.none : Option Jvm.ClassFile.FieldType)).before args0 about1 = true := code_word (m := ⟨2, 0⟩) (meth := k2m0) (c := k2c0) (by decide +kernel) rfl rfl rfl (by decide +kernel)
set_option maxRecDepth 65536 in
theorem w_c2 : (Jvm.Cond.code ({ cls := "java/lang/Object", name := "<init>", desc := "()V" } : Jvm.MethodName) object_method_1_code (1 : Nat) (Option.none : Option Jvm.ClassFile.FieldType)).before args0 about1 = true := code_word (m := ⟨0, 0⟩) (meth := k0m0) (c := k0c0) (by decide +kernel) rfl rfl rfl (by decide +kernel)
set_option maxRecDepth 65536 in
theorem w_c3 : (Jvm.Cond.code ({ cls := "com/example/arbordb/arbordb/tree/Encoder", name := "fixed", desc := "(JI)V" } : Jvm.MethodName) prog_56_method_8_code (5 : Nat) (Option.none : Option Jvm.ClassFile.FieldType)).before args0 about1 = true := code_word (m := ⟨2, 1⟩) (meth := k2m1) (c := k2c1) (by decide +kernel) rfl rfl rfl (by decide +kernel)
set_option maxRecDepth 65536 in
theorem w_c4 : (Jvm.Cond.code ({ cls := "com/example/arbordb/arbordb/tree/Encoder", name := "add", desc := "(I)V" } : Jvm.MethodName) prog_56_method_9_code (2 : Nat) (Option.none : Option Jvm.ClassFile.FieldType)).before args0 about1 = true := code_word (m := ⟨2, 2⟩) (meth := k2m2) (c := k2c2) (by decide +kernel) rfl rfl rfl (by decide +kernel)
set_option maxRecDepth 65536 in
theorem w_c5 : (Jvm.Cond.code ({ cls := "com/example/arbordb/arbordb/tree/Encoder", name := "room", desc := "(I)V" } : Jvm.MethodName) prog_56_method_13_code (6 : Nat) (Option.none : Option Jvm.ClassFile.FieldType)).before args0 about1 = true := code_word (m := ⟨2, 6⟩) (meth := k2m6) (c := k2c6) (by decide +kernel) rfl rfl rfl (by decide +kernel)
set_option maxRecDepth 65536 in
theorem w_c6 : (Jvm.Cond.code ({ cls := "com/example/arbordb/arbordb/tree/Encoder", name := "array", desc := "()[B" } : Jvm.MethodName) prog_56_method_10_code (1 : Nat) (Option.some (Jvm.ClassFile.FieldType.array Jvm.ClassFile.FieldType.byte))).before args0 about1 = true := code_word (m := ⟨2, 3⟩) (meth := k2m3) (c := k2c3) (by decide +kernel) rfl rfl rfl (by decide +kernel)
set_option maxRecDepth 65536 in
theorem w_c7 : (Jvm.Cond.code ({ cls := "com/example/arbordb/arbordb/tree/Encoder", name := "clear", desc := "()V" } : Jvm.MethodName) prog_56_method_12_code (1 : Nat) (Option.none : Option Jvm.ClassFile.FieldType)).before args0 about1 = true := code_word (m := ⟨2, 5⟩) (meth := k2m5) (c := k2c5) (by decide +kernel) rfl rfl rfl (by decide +kernel)
set_option maxRecDepth 65536 in
theorem w_c8 : (Jvm.Cond.code ({ cls := "com/example/arbordb/arbordb/tree/Encoder", name := "length", desc := "()I" } : Jvm.MethodName) prog_56_method_11_code (1 : Nat) (Option.some Jvm.ClassFile.FieldType.int)).before args0 about1 = true := code_word (m := ⟨2, 4⟩) (meth := k2m4) (c := k2c4) (by decide +kernel) rfl rfl rfl (by decide +kernel)
set_option maxRecDepth 65536 in
theorem w_c9 : (Jvm.Cond.code ({ cls := "java/lang/Math", name := "max", desc := "(JJ)J" } : Jvm.MethodName) jdk_29_method_66_code (4 : Nat) (Option.some Jvm.ClassFile.FieldType.long)).before args0 about1 = true := code_word (m := ⟨3, 1⟩) (meth := k3m1) (c := k3c1) (by decide +kernel) rfl rfl rfl (by decide +kernel)
set_option maxRecDepth 65536 in
theorem w_c10 : (Jvm.Cond.code ({ cls := "java/lang/Math", name := "min", desc := "(JJ)J" } : Jvm.MethodName) jdk_29_method_70_code (4 : Nat) (Option.some Jvm.ClassFile.FieldType.long)).before args0 about1 = true := code_word (m := ⟨3, 3⟩) (meth := k3m3) (c := k3c3) (by decide +kernel) rfl rfl rfl (by decide +kernel)
set_option maxRecDepth 65536 in
theorem w_c11 : (Jvm.Cond.code ({ cls := "java/util/Arrays", name := "copyOf", desc := "([BI)[B" } : Jvm.MethodName) jdk_65_method_121_code (3 : Nat) (Option.some (Jvm.ClassFile.FieldType.array Jvm.ClassFile.FieldType.byte))).before args0 about1 = true := code_word (m := ⟨4, 1⟩) (meth := k4m1) (c := k4c1) (by decide +kernel) rfl rfl rfl (by decide +kernel)
set_option maxRecDepth 65536 in
theorem w_c12 : (Jvm.Cond.code ({ cls := "java/lang/Math", name := "min", desc := "(II)I" } : Jvm.MethodName) jdk_29_method_69_code (2 : Nat) (Option.some Jvm.ClassFile.FieldType.int)).before args0 about1 = true := code_word (m := ⟨3, 2⟩) (meth := k3m2) (c := k3c2) (by decide +kernel) rfl rfl rfl (by decide +kernel)
def codes1 : List Jvm.Cond := [Jvm.Cond.code x code maxLocals ret, Jvm.Cond.code ({ cls := "com/example/arbordb/arbordb/tree/Encoder", name := "<init>", desc := "()V" } : Jvm.MethodName) prog_56_method_1_code (1 : Nat) (Option.none : Option Jvm.ClassFile.FieldType), Jvm.Cond.code ({ cls := "java/lang/Object", name := "<init>", desc := "()V" } : Jvm.MethodName) object_method_1_code (1 : Nat) (Option.none : Option Jvm.ClassFile.FieldType), Jvm.Cond.code ({ cls := "com/example/arbordb/arbordb/tree/Encoder", name := "fixed", desc := "(JI)V" } : Jvm.MethodName) prog_56_method_8_code (5 : Nat) (Option.none : Option Jvm.ClassFile.FieldType), Jvm.Cond.code ({ cls := "com/example/arbordb/arbordb/tree/Encoder", name := "add", desc := "(I)V" } : Jvm.MethodName) prog_56_method_9_code (2 : Nat) (Option.none : Option Jvm.ClassFile.FieldType), Jvm.Cond.code ({ cls := "com/example/arbordb/arbordb/tree/Encoder", name := "room", desc := "(I)V" } : Jvm.MethodName) prog_56_method_13_code (6 : Nat) (Option.none : Option Jvm.ClassFile.FieldType), Jvm.Cond.code ({ cls := "com/example/arbordb/arbordb/tree/Encoder", name := "array", desc := "()[B" } : Jvm.MethodName) prog_56_method_10_code (1 : Nat) (Option.some (Jvm.ClassFile.FieldType.array Jvm.ClassFile.FieldType.byte)), Jvm.Cond.code ({ cls := "com/example/arbordb/arbordb/tree/Encoder", name := "clear", desc := "()V" } : Jvm.MethodName) prog_56_method_12_code (1 : Nat) (Option.none : Option Jvm.ClassFile.FieldType), Jvm.Cond.code ({ cls := "com/example/arbordb/arbordb/tree/Encoder", name := "length", desc := "()I" } : Jvm.MethodName) prog_56_method_11_code (1 : Nat) (Option.some Jvm.ClassFile.FieldType.int), Jvm.Cond.code ({ cls := "java/lang/Math", name := "max", desc := "(JJ)J" } : Jvm.MethodName) jdk_29_method_66_code (4 : Nat) (Option.some Jvm.ClassFile.FieldType.long), Jvm.Cond.code ({ cls := "java/lang/Math", name := "min", desc := "(JJ)J" } : Jvm.MethodName) jdk_29_method_70_code (4 : Nat) (Option.some Jvm.ClassFile.FieldType.long), Jvm.Cond.code ({ cls := "java/util/Arrays", name := "copyOf", desc := "([BI)[B" } : Jvm.MethodName) jdk_65_method_121_code (3 : Nat) (Option.some (Jvm.ClassFile.FieldType.array Jvm.ClassFile.FieldType.byte)), Jvm.Cond.code ({ cls := "java/lang/Math", name := "min", desc := "(II)I" } : Jvm.MethodName) jdk_29_method_69_code (2 : Nat) (Option.some Jvm.ClassFile.FieldType.int)]
set_option maxRecDepth 65536 in
theorem codes_eq : words1.filter isCode = codes1 := rfl
theorem w_codes : ∀ c ∈ words1.filter isCode, c.before args0 about1 = true := by
  rw [codes_eq]
  intro c hc
  simp only [codes1, List.mem_cons, List.not_mem_nil, or_false] at hc
  rcases hc with rfl | rfl | rfl | rfl | rfl | rfl | rfl | rfl | rfl | rfl | rfl | rfl | rfl
  · exact w_c0
  · exact w_c1
  · exact w_c2
  · exact w_c3
  · exact w_c4
  · exact w_c5
  · exact w_c6
  · exact w_c7
  · exact w_c8
  · exact w_c9
  · exact w_c10
  · exact w_c11
  · exact w_c12
set_option maxRecDepth 65536 in
theorem w_t1 : (words1.take 24).all (fun c => isCode c || c.before args0 about1) = true := by decide +kernel
set_option maxRecDepth 65536 in
theorem w_t2 : ((words1.drop 24).take 24).all (fun c => isCode c || c.before args0 about1) = true := by decide +kernel
set_option maxRecDepth 65536 in
theorem w_t3 : ((words1.drop 24).drop 24).all (fun c => isCode c || c.before args0 about1) = true := by decide +kernel
theorem w_tables : (allAtoms (Jvm.Cond.code x code maxLocals ret :: tables_1)).before args0 about1 = true := by
  rw [allAtoms_all]
  show words1.all (fun c => c.before args0 about1) = true
  refine all_split ?_ w_codes
  rw [← List.take_append_drop 24 words1, List.all_append, w_t1, ← List.take_append_drop 24 (words1.drop 24), List.all_append, w_t2, w_t3]
  rfl
set_option maxRecDepth 65536 in
theorem w_case : (Jvm.Cond.and given_1 narrow_1).before args0 about1 = true := by decide +kernel
theorem w_applies : (headSpec (Jvm.Cond.code x code maxLocals ret :: tables_1) room_1).applies x e0.platform about1 = true :=
  (Spec.applies_iff w_frames).mpr ⟨w_running, w_runnable, w_alone, w_named, w_hears, w_ripe, w_room, w_tables⟩
theorem atStart : AtStart classFile x code maxLocals ret World_1 tables_1 room_1 Calls_1 rest_1 Pre_1 launch0 p0 e0 about1 theMethod args0 below0 :=
  ⟨lists_1, trivial, launch0.admits_env _ _ _, launch0.least_env, fairChoices_fair.cas, fairChoices_fair.clock, w_frames, w_args, w_heap, w_applies, trivial, trivial, w_case⟩
end start1
theorem witness_1 : WitnessClaimed_1 := ⟨start1.p0, start1.e0, start1.about1, start1.theMethod, start1.args0, start1.below0, start1.atStart⟩
end Jvm.Pilot.@@N@@
