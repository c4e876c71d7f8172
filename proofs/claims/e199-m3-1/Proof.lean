import JvmDerived
import JvmDerived.Pilot.@@N@@Statement
import JvmDerived.Pilot.@@N@@Code
set_option linter.unusedVariables false
set_option linter.unusedSimpArgs false
namespace Jvm.RoadKit
open Sem ClassFile Op Lib Jvm.Stand Jvm.Free Jvm.LawKit
section New
variable {p : Program} {l : Launch} {e : Env} {R : Room} {s : State} {m : MethodId} {args : Array Value} {below : List Frame} {meth : Method} {c : Code} {T : State} {locs : List Loc} {cells slots : Nat}
theorem retI (X : Stand p l e R s m args below meth c T locs cells slots) (hx : p.tables.exec = Jvm.exec) {pc : Nat} {Ls : Array Slot} {z : Int32} {rest : List Value} (hret : meth.sig.returnType = some .int) (hd : decode c.code pc = .ok (.ireturn, 1)) {fs : List Frame}
    (hl : ∀ (f : JFrame) (acts : List Action), f.method = m → f.locked = none → f.entered = [] → (doReturn e (T.setTop f) acts (some (.int z))).1 = T.setFrames fs) : Steps p.tables e below (T.setTop (mkF m pc Ls (.int z :: rest))) (T.setFrames fs) := by
  have hm' : T.vm.method? m = some meth := X.method'
  have hn : narrow .int (.int z) = .int z := rfl
  show Steps p.tables e below (T.setTop { method := m, pc := pc, locals := Ls, stack := _ :: rest, locked := none }) _
  jvm_step X.here [X.here.top, hx, hd, hm', hret, hn]
  first | (intro acts; rw [hl _ acts rfl rfl rfl]) | rw [hl _ _ rfl rfl rfl]
  exact Steps.refl _
end New
end Jvm.RoadKit
namespace Jvm.Pilot.@@N@@
open Jvm Jvm.ClassFile Sem Op Lib Jvm.Free Jvm.Stand Jvm.LawKit Jvm.RoadKit Bundle Jvm.Pilot.@@N@@.Jvm.D
/-! what every block says -/
def own_b (b : Bool) : Int32 := cond b 1 0
theorem own_nar (b : Bool) : nar .boolean (own_b b) = own_b b := by cases b <;> rfl
theorem own_b0 {b : Bool} (h : b = false) : own_b b = (0 : Int32) := by rw [h]; rfl
theorem own_b1 {b : Bool} (h : ¬ b = false) : ¬ own_b b = (0 : Int32) := by cases b; exact absurd rfl h; decide
abbrev own_ushr (x y : Int32) : Int32 := (x.toUInt32 >>> (y &&& 31).toUInt32).toInt32
abbrev own_ushrL (x : Int64) (y : Int32) : Int64 := (x.toUInt64 >>> (y &&& 0x3f).toInt64.toUInt64).toInt64
/-- from the frame g over T0 the run comes to an ireturn with v on top, the heap as it stood -/
def own_Ret (p : Program) (l : Launch) (e : Env) (R : Room) (s : State) (m : MethodId) (args : Array Value) (below : List Frame) (meth : Method) (c : Code) (h0 : Heap) (n0 cells slots : Nat) (T0 : State) (g : JFrame) (v : Int32) : Prop :=
  ∃ (T' : State) (locs' : List Loc) (pcr : Nat) (Ls : Array Slot), Stand p l e R s m args below meth c T' locs' cells slots ∧ T'.heap = h0 ∧ Fr n0 locs' ∧ decode c.code pcr = .ok (.ireturn, 1) ∧
    ∀ target, Steps p.tables e below (T'.setTop (mkF m pcr Ls [.int v])) target → Steps p.tables e below (T0.setTop g) target
theorem own_step {p : Program} {l : Launch} {e : Env} {R : Room} {s : State} {m : MethodId} {args : Array Value} {below : List Frame} {meth : Method} {c : Code} {h0 : Heap} {n0 cells slots : Nat} {T0 T1 : State} {g0 g1 : JFrame} {v : Int32}
    (st : ∀ target, Steps p.tables e below (T1.setTop g1) target → Steps p.tables e below (T0.setTop g0) target) (h : own_Ret p l e R s m args below meth c h0 n0 cells slots T1 g1 v) : own_Ret p l e R s m args below meth c h0 n0 cells slots T0 g0 v := by
  obtain ⟨T', locs', pcr, Ls, h1, h2, h3, h4, h5⟩ := h
  exact ⟨T', locs', pcr, Ls, h1, h2, h3, h4, fun t k => st t (h5 t k)⟩
def own_Q (w : Int32) (h0 : Heap) (n0 : Nat) (v : Option Value) (h : Heap) (L : List Loc) : Prop := v = some (.int w) ∧ Fr n0 L ∧ h = h0
/-! arrays of ints that are filled once: a store behind the last, a read -/
theorem own_map_getD (vals : List Int32) (i : Nat) : (vals.map Value.int).getD i (.int 0) = .int (vals.getD i 0) := by
  simp only [List.getD_eq_getElem?_getD, List.getElem?_map]
  cases vals[i]? <;> rfl
theorem own_at {Z : State} {h : Heap} {a : Addr} {k : ClassId} {ty : FieldType} {n j : Int32} {vals : List Int32} (F : Arv Z h a k ty n (vals.map Value.int) (.int 0)) (hj : ¬ j < 0 ∧ j < n) :
    ∃ cl : Cell, Arr Z h a cl ty ∧ ¬ (j < 0 ∨ cl.slots.size ≤ j.toNatClampNeg) ∧ cl.slots[j.toNatClampNeg]? = some (.int (vals.getD j.toNatClampNeg 0)) := by
  obtain ⟨cl, A, q, S, Nn, H, G⟩ := F
  exact ⟨cl, A, inb_of S hj, H.at (inb_of S hj) (own_map_getD _ _)⟩
theorem own_set_end (vals : List Int32) (x : Int32) : (vals.map Value.int ++ List.replicate 1 (Value.int 0)).set vals.length (.int x) = (vals ++ [x]).map Value.int := by
  rw [List.set_append_right _ _ (by simp)]
  simp
section Own
variable {p : Program} {l : Launch} {e : Env} {R : Room} {s : State} {m : MethodId} {args : Array Value} {below : List Frame} {meth : Method} {c : Code} {T : State} {locs : List Loc} {cells slots : Nat} {Z : State} {h h0 : Heap} {b : Addr} {k : ClassId} {n : Int32} {vals : List Int32} {n0 : Nat}
theorem own_putI (X : Stand p l e R s m args below meth c T locs cells slots) (hx : p.tables.exec = Jvm.exec) (hZ : Z.Warmed39 s.vm) (eT : T.heap = h) (F : Arv Z h b k .int n (vals.map Value.int) (.int 0)) (N : Fr n0 locs) (g0 : n0 ≤ b) (K : Keep h0 h []) (sz : h0.size ≤ b) (j x : Int32) (hj : j.toNatClampNeg = vals.length) (hj2 : ¬ j < 0 ∧ j < n) {g : JFrame} (hg : g.method = m) {rest : List Value} (hs : g.stack = .int x :: .int j :: .ref b :: rest) (hd : decode c.code g.pc = .ok (.iastore, 1)) :
    ∃ (T' : State) (h' : Heap) (locs' : List Loc), Stand p l e R s m args below meth c T' locs' cells slots ∧ T'.heap = h' ∧ Arv Z h' b k .int n ((vals ++ [x]).map Value.int) (.int 0) ∧ Fr n0 locs' ∧ Keep h0 h' [] ∧ ∀ target, Steps p.tables e below (T'.setTop { g with pc := g.pc + 1, stack := rest }) target → Steps p.tables e below (T.setTop g) target := by
  obtain ⟨cl, A, q, S, Nn, H, G⟩ := F.pad (pad_rep _ _ 1)
  obtain ⟨T', h', X', e', W, st⟩ := stI X hx hZ eT A (j := j) (x := x) (inb_of S hj2) hg hs hd
  have V2 := Arv.set A q S Nn H G (v := .int x) rfl W vals.length hj (by simp)
  rw [own_set_end] at V2
  exact ⟨T', h', _, X', e', V2, Fr.snoc X' N g0, K.wr W (Or.inr sz), st⟩
theorem own_putC (X : Stand p l e R s m args below meth c T locs cells slots) (hx : p.tables.exec = Jvm.exec) (hZ : Z.Warmed39 s.vm) (eT : T.heap = h) (F : Arv Z h b k .char n (vals.map Value.int) (.int 0)) (N : Fr n0 locs) (g0 : n0 ≤ b) (K : Keep h0 h []) (sz : h0.size ≤ b) (j x : Int32) (hn : nar .char x = x) (hj : j.toNatClampNeg = vals.length) (hj2 : ¬ j < 0 ∧ j < n) {g : JFrame} (hg : g.method = m) {rest : List Value} (hs : g.stack = .int x :: .int j :: .ref b :: rest) (hd : decode c.code g.pc = .ok (.castore, 1)) :
    ∃ (T' : State) (h' : Heap) (locs' : List Loc), Stand p l e R s m args below meth c T' locs' cells slots ∧ T'.heap = h' ∧ Arv Z h' b k .char n ((vals ++ [x]).map Value.int) (.int 0) ∧ Fr n0 locs' ∧ Keep h0 h' [] ∧ ∀ target, Steps p.tables e below (T'.setTop { g with pc := g.pc + 1, stack := rest }) target → Steps p.tables e below (T.setTop g) target := by
  obtain ⟨cl, A, q, S, Nn, H, G⟩ := F.pad (pad_rep _ _ 1)
  obtain ⟨T', h', X', e', W, st⟩ := stC X hx hZ eT A (j := j) (x := x) (inb_of S hj2) hg hs hd
  rw [hn] at W
  have V2 := Arv.set A q S Nn H G (v := .int x) (by have := fits_nar_char x; rwa [hn] at this) W vals.length hj (by simp)
  rw [own_set_end] at V2
  exact ⟨T', h', _, X', e', V2, Fr.snoc X' N g0, K.wr W (Or.inr sz), st⟩
end Own

/-! walks that touch the heap -/
def own_To (p : Program) (l : Launch) (e : Env) (R : Room) (s : State) (m : MethodId) (args : Array Value) (below : List Frame) (meth : Method) (c : Code) (T0 : State) (g : JFrame) (Φ : State → JFrame → List Loc → Nat → Nat → Prop) : Prop :=
  ∃ (T' : State) (g' : JFrame) (L : List Loc) (k n : Nat), Stand p l e R s m args below meth c T' L k n ∧ Φ T' g' L k n ∧ ∀ target, Steps p.tables e below (T'.setTop g') target → Steps p.tables e below (T0.setTop g) target
theorem own_go {p : Program} {l : Launch} {e : Env} {R : Room} {s : State} {m : MethodId} {args : Array Value} {below : List Frame} {meth : Method} {c : Code} {T0 T1 : State} {g0 g1 : JFrame} {Φ : State → JFrame → List Loc → Nat → Nat → Prop}
    (st : ∀ target, Steps p.tables e below (T1.setTop g1) target → Steps p.tables e below (T0.setTop g0) target) (h : own_To p l e R s m args below meth c T1 g1 Φ) : own_To p l e R s m args below meth c T0 g0 Φ := by
  obtain ⟨T', g', L, k, n, h1, h2, h3⟩ := h
  exact ⟨T', g', L, k, n, h1, h2, fun t k => st t (h3 t k)⟩
section Own2
variable {p : Program} {l : Launch} {e : Env} {R : Room} {s : State} {m : MethodId} {args : Array Value} {below : List Frame} {meth : Method} {c : Code} {T : State} {locs : List Loc} {cells slots : Nat}
theorem own_retA (X : Stand p l e R s m args below meth c T locs cells slots) (hx : p.tables.exec = Jvm.exec) {pc : Nat} {Ls : Array Slot} {a : Addr} {ty : FieldType} (hret : meth.sig.returnType = some ty) (ht : ty.isReference = true) (hd : decode c.code pc = .ok (.areturn, 1)) {fs : List Frame}
    (hl : ∀ (f : JFrame) (acts : List Action), f.method = m → f.locked = none → f.entered = [] → (doReturn e (T.setTop f) acts (some (.ref a))).1 = T.setFrames fs) : Steps p.tables e below (T.setTop (mkF m pc Ls [.ref a])) (T.setFrames fs) := by
  have hm' : T.vm.method? m = some meth := X.method'
  show Steps p.tables e below (T.setTop { method := m, pc := pc, locals := Ls, stack := [.ref a], locked := none }) _
  jvm_step X.here [X.here.top, hx, hd, hm', hret, ht, Value.isRef]
  first | (intro acts; rw [hl _ acts rfl rfl rfl]) | rw [hl _ _ rfl rfl rfl]
  exact Steps.refl _
theorem own_retN (X : Stand p l e R s m args below meth c T locs cells slots) (hx : p.tables.exec = Jvm.exec) {pc : Nat} {Ls : Array Slot} {ty : FieldType} (hret : meth.sig.returnType = some ty) (ht : ty.isReference = true) (hd : decode c.code pc = .ok (.areturn, 1)) {fs : List Frame}
    (hl : ∀ (f : JFrame) (acts : List Action), f.method = m → f.locked = none → f.entered = [] → (doReturn e (T.setTop f) acts (some .null)).1 = T.setFrames fs) : Steps p.tables e below (T.setTop (mkF m pc Ls [.null])) (T.setFrames fs) := by
  have hm' : T.vm.method? m = some meth := X.method'
  show Steps p.tables e below (T.setTop { method := m, pc := pc, locals := Ls, stack := [.null], locked := none }) _
  jvm_step X.here [X.here.top, hx, hd, hm', hret, ht, Value.isRef]
  first | (intro acts; rw [hl _ acts rfl rfl rfl]) | rw [hl _ _ rfl rfl rfl]
  exact Steps.refl _
end Own2

/-! the list as the walk knows it -/
def own_AL (Z : State) (h : Heap) (n0 : Nat) (a : Addr) (eb : Value) (sz mc : Int32) : Prop :=
  Exa Z h a "java/util/ArrayList" ∧ Fld Z h a "java/util/ArrayList" "elementData" "[Ljava/lang/Object;" eb ∧ Fld Z h a "java/util/ArrayList" "size" "I" (.int sz) ∧ Fld Z h a "java/util/AbstractList" "modCount" "I" (.int mc) ∧ n0 ≤ a
theorem own_staKeep {Z : State} {h h' : Heap} {C f d K : String} {v : Value} {a : Addr} (F : Sta Z h C f d v) (k : Keep h h' [a]) (E : Exa Z h a K) : Sta Z h' C f d v := by
  obtain ⟨cf, i, k0, f0, st, cell, h1, h2, h3, h4, h5, h6, h7⟩ := F
  obtain ⟨ce, _, g1, _, _, g4, _⟩ := E
  refine ⟨cf, i, k0, f0, st, cell, h1, h2, h3, h4, k.2.1 st cell h5 fun q => ?_, h6, h7⟩
  cases List.mem_singleton.mp q
  cases h5.symm.trans g1
  rw [h6] at g4; cases g4
theorem own_setEnd (vs : List Value) (x : Value) : (vs ++ List.replicate 1 Value.null).set vs.length x = vs ++ [x] := by
  rw [List.set_append_right _ _ (Nat.le_refl _)]
  simp
theorem own_lt10 {i : Int32} (h : i < (4 : Int32)) : i < (10 : Int32) := Int32.lt_trans h (by decide)
def own_find (x : Int32) : List Int32 → Nat → Int32
  | [], _ => -1
  | a :: r, i => if a = x then Int32.ofNat i else own_find x r (i + 1)

def QC (Z : State) (a1 : Addr) (h0 : Heap) (n0 : Nat) (v : Option Value) (h : Heap) (L : List Loc) : Prop := v = none ∧ Fr n0 L ∧ Keep h0 h [a1] ∧ Exa Z h a1 "com/example/sukima/sukima/catalog/Column" ∧ Fld Z h a1 "com/example/sukima/sukima/catalog/Column" "type" "Lcom/example/sukima/sukima/sql/DataType;" .null
theorem dC_0 : decode prog_17_method_1_code 0 = .ok (.aload_n 0, 1) := by decide +kernel
theorem dC_1 : decode prog_17_method_1_code 1 = .ok (.invokespecial 1, 3) := by decide +kernel
theorem dC_4 : decode prog_17_method_1_code 4 = .ok (.aload_n 0, 1) := by decide +kernel
theorem dC_5 : decode prog_17_method_1_code 5 = .ok (.aload_n 1, 1) := by decide +kernel
theorem dC_6 : decode prog_17_method_1_code 6 = .ok (.putfield 7, 3) := by decide +kernel
theorem dC_9 : decode prog_17_method_1_code 9 = .ok (.aload_n 0, 1) := by decide +kernel
theorem dC_10 : decode prog_17_method_1_code 10 = .ok (.aload_n 2, 1) := by decide +kernel
theorem dC_11 : decode prog_17_method_1_code 11 = .ok (.putfield 13, 3) := by decide +kernel
theorem dC_14 : decode prog_17_method_1_code 14 = .ok (.aload_n 0, 1) := by decide +kernel
theorem dC_15 : decode prog_17_method_1_code 15 = .ok (.iload_n 3, 1) := by decide +kernel
theorem dC_16 : decode prog_17_method_1_code 16 = .ok (.putfield 17, 3) := by decide +kernel
theorem dC_19 : decode prog_17_method_1_code 19 = .ok (.aload_n 0, 1) := by decide +kernel
theorem dC_20 : decode prog_17_method_1_code 20 = .ok (.iload 4, 2) := by decide +kernel
theorem dC_22 : decode prog_17_method_1_code 22 = .ok (.putfield 21, 3) := by decide +kernel
theorem dC_25 : decode prog_17_method_1_code 25 = .ok (.aload_n 0, 1) := by decide +kernel
theorem dC_26 : decode prog_17_method_1_code 26 = .ok (.aload 5, 2) := by decide +kernel
theorem dC_28 : decode prog_17_method_1_code 28 = .ok (.putfield 24, 3) := by decide +kernel
theorem dC_31 : decode prog_17_method_1_code 31 = .ok (.aload_n 0, 1) := by decide +kernel
theorem dC_32 : decode prog_17_method_1_code 32 = .ok (.iload 6, 2) := by decide +kernel
theorem dC_34 : decode prog_17_method_1_code 34 = .ok (.putfield 28, 3) := by decide +kernel
theorem dC_37 : decode prog_17_method_1_code 37 = .ok (.aload_n 0, 1) := by decide +kernel
theorem dC_38 : decode prog_17_method_1_code 38 = .ok (.iload 7, 2) := by decide +kernel
theorem dC_40 : decode prog_17_method_1_code 40 = .ok (.putfield 31, 3) := by decide +kernel
theorem dC_43 : decode prog_17_method_1_code 43 = .ok (.aload_n 0, 1) := by decide +kernel
theorem dC_44 : decode prog_17_method_1_code 44 = .ok (.iload 8, 2) := by decide +kernel
theorem dC_46 : decode prog_17_method_1_code 46 = .ok (.putfield 34, 3) := by decide +kernel
theorem dC_49 : decode prog_17_method_1_code 49 = .ok (.return_, 1) := by decide +kernel
theorem ef_rmC (m : MethodId) (a1 : Addr) (s1 : Addr) : entryFrame m #[(.ref a1), (.ref s1), .null, (.int (0 : Int32)), (.int (0 : Int32)), .null, (.int (0 : Int32)), (.int (0 : Int32)), (.int (0 : Int32))] 9 = mkF m 0 #[.val (.ref a1), .val (.ref s1), .val .null, .val (.int (0 : Int32)), .val (.int (0 : Int32)), .val .null, .val (.int (0 : Int32)), .val (.int (0 : Int32)), .val (.int (0 : Int32))] [] := by first | (simp [entryFrame, mkF, argsToLocals, Value.category]; done) | rfl
set_option maxRecDepth 65536 in
set_option maxHeartbeats 4000000 in
theorem rmC (l : Launch) (Z : State) (a0 : Array Value) (hw : ∀ d ∈ tables_1, d.before a0 Z = true) (ws : List Jvm.Cond) (a1 s1 : Addr) (h0 : Heap) (n0 : Nat) (Z0 : n0 ≤ h0.size) (Ex : Exa Z h0 a1 "com/example/sukima/sukima/catalog/Column") (ga : n0 ≤ a1) (Fname : Fld Z h0 a1 "com/example/sukima/sukima/catalog/Column" "name" "Ljava/lang/String;" .null) (Ftype : Fld Z h0 a1 "com/example/sukima/sukima/catalog/Column" "type" "Lcom/example/sukima/sukima/sql/DataType;" .null) (FnotNull : Fld Z h0 a1 "com/example/sukima/sukima/catalog/Column" "notNull" "Z" (.int (0 : Int32))) (FhasDefault : Fld Z h0 a1 "com/example/sukima/sukima/catalog/Column" "hasDefault" "Z" (.int (0 : Int32))) (FdefaultValue : Fld Z h0 a1 "com/example/sukima/sukima/catalog/Column" "defaultValue" "Ljava/lang/Object;" .null) (FdefaultCurrentTimestamp : Fld Z h0 a1 "com/example/sukima/sukima/catalog/Column" "defaultCurrentTimestamp" "Z" (.int (0 : Int32))) (FonUpdateCurrentTimestamp : Fld Z h0 a1 "com/example/sukima/sukima/catalog/Column" "onUpdateCurrentTimestamp" "Z" (.int (0 : Int32))) (FautoIncrement : Fld Z h0 a1 "com/example/sukima/sukima/catalog/Column" "autoIncrement" "Z" (.int (0 : Int32))) :
    MetFree l (⟨"com/example/sukima/sukima/catalog/Column", "<init>", "(Ljava/lang/String;Lcom/example/sukima/sukima/sql/DataType;ZZLjava/lang/Object;ZZZ)V"⟩ : MethodName) (head1 (Jvm.Cond.code (⟨"com/example/sukima/sukima/catalog/Column", "<init>", "(Ljava/lang/String;Lcom/example/sukima/sukima/sql/DataType;ZZLjava/lang/Object;ZZZ)V"⟩ : MethodName) prog_17_method_1_code 9 none :: ws) ({ frames := 1, cells := 0, slots := 0, locals := 12 } : Room)) (fun a U => a = #[(.ref a1), (.ref s1), .null, (.int (0 : Int32)), (.int (0 : Int32)), .null, (.int (0 : Int32)), (.int (0 : Int32)), (.int (0 : Int32))] ∧ Z.Warmed39 U.vm ∧ U.heap = h0) (fun _ _ _ _ _ => True) (fun _ U o U' => ∃ v L, o = .returned v ∧ QC Z a1 h0 n0 v U'.heap L ∧ FrameEnd U o U' L ({ frames := 1, cells := 0, slots := 0, locals := 12 } : Room).cells ({ frames := 1, cells := 0, slots := 0, locals := 12 } : Room).slots) := by
  refine MetFree.of_bodySF (plainFor_of_name (by first | (simp [plainName, overriddenIn]; done) | decide +kernel)) hisR ?_
  intro p e s m args below meth c s₁ Bd hml0 hP hK
  obtain ⟨rfl, hZ, hh⟩ := hP
  have hx := Bd.exec
  have hby := Bd.bytes
  have hml : c.maxLocals = 9 := hml0
  have hown : s.vm.findClass "com/example/sukima/sukima/catalog/Column" = some m.cls := findClass_of_methodNamed Bd.named
  have hnm := (name_of_methodNamed Bd.named Bd.method).1
  have X0 : Stand p l e ({ frames := 1, cells := 0, slots := 0, locals := 12 } : Room) s m #[(.ref a1), (.ref s1), .null, (.int (0 : Int32)), (.int (0 : Int32)), .null, (.int (0 : Int32)), (.int (0 : Int32)), (.int (0 : Int32))] below meth c s₁ [] 0 0 := Stand.of_body Bd
  have e0 : s₁.heap = h0 := by rw [← hh, Bd.state]; rfl
  have N0 := Fr.nil n0
  have main : own_To p l e ({ frames := 1, cells := 0, slots := 0, locals := 12 } : Room) s m #[(.ref a1), (.ref s1), .null, (.int (0 : Int32)), (.int (0 : Int32)), .null, (.int (0 : Int32)), (.int (0 : Int32)), (.int (0 : Int32))] below meth c s₁ (mkF m 0 #[.val (.ref a1), .val (.ref s1), .val .null, .val (.int (0 : Int32)), .val (.int (0 : Int32)), .val .null, .val (.int (0 : Int32)), .val (.int (0 : Int32)), .val (.int (0 : Int32))] []) (fun T' g' L kq zq => ∃ pcr Ls, g' = mkF m pcr Ls [] ∧ decode c.code pcr = .ok (.return_, 1) ∧ kq = 0 ∧ zq = 0 ∧ QC Z a1 h0 n0 none T'.heap L) := by
    refine own_go (T1 := s₁) (g1 := (mkF m 1 #[.val (.ref a1), .val (.ref s1), .val .null, .val (.int (0 : Int32)), .val (.int (0 : Int32)), .val .null, .val (.int (0 : Int32)), .val (.int (0 : Int32)), .val (.int (0 : Int32))] [(.ref a1)])) (fun _ k => XS.aloadN X0.here hx rfl (hb hby dC_0) rfl rfl k) ?_
    obtain ⟨T1, X1, e1, st1⟩ := initO X0 hx hZ hown (hw _ (List.mem_of_getElem? (i := 17) rfl)) (hw _ (List.mem_of_getElem? (i := 18) rfl)) (hw _ (List.mem_of_getElem? (i := 19) rfl)) e0 (g := (mkF m 1 #[.val (.ref a1), .val (.ref s1), .val .null, .val (.int (0 : Int32)), .val (.int (0 : Int32)), .val .null, .val (.int (0 : Int32)), .val (.int (0 : Int32)), .val (.int (0 : Int32))] [(.ref a1)])) rfl (by rw [hml]; rfl) rfl (hb hby dC_1) (by decide) (W := 0) (by show 2 * 0 + _ ≤ _; exact Nat.le_of_eq rfl) (by decide)
    refine own_go (T1 := T1) (g1 := (mkF m 4 #[.val (.ref a1), .val (.ref s1), .val .null, .val (.int (0 : Int32)), .val (.int (0 : Int32)), .val .null, .val (.int (0 : Int32)), .val (.int (0 : Int32)), .val (.int (0 : Int32))] [])) (fun t k => st1 t k) ?_
    refine own_go (T1 := T1) (g1 := (mkF m 5 #[.val (.ref a1), .val (.ref s1), .val .null, .val (.int (0 : Int32)), .val (.int (0 : Int32)), .val .null, .val (.int (0 : Int32)), .val (.int (0 : Int32)), .val (.int (0 : Int32))] [(.ref a1)])) (fun _ k => XS.aloadN X1.here hx rfl (hb hby dC_4) rfl rfl k) ?_
    refine own_go (T1 := T1) (g1 := (mkF m 6 #[.val (.ref a1), .val (.ref s1), .val .null, .val (.int (0 : Int32)), .val (.int (0 : Int32)), .val .null, .val (.int (0 : Int32)), .val (.int (0 : Int32)), .val (.int (0 : Int32))] [(.ref s1), (.ref a1)])) (fun _ k => XS.aloadN X1.here hx rfl (hb hby dC_5) rfl rfl k) ?_
    obtain ⟨T2, h2, X2, e2, W2, st2⟩ := putF X1 hx hZ hown (host := "") (Or.inl (hw _ (List.mem_of_getElem? (i := 20) rfl))) Via.refl e1 Fname Ex (Or.inr ⟨(hw _ (List.mem_of_getElem? (i := 21) rfl)), rfl, hnm⟩) (hw _ (List.mem_of_getElem? (i := 4) rfl)) (ty := (.object "java/lang/String")) (by decide) rfl rfl (g := (mkF m 6 #[.val (.ref a1), .val (.ref s1), .val .null, .val (.int (0 : Int32)), .val (.int (0 : Int32)), .val .null, .val (.int (0 : Int32)), .val (.int (0 : Int32)), .val (.int (0 : Int32))] [(.ref s1), (.ref a1)])) rfl rfl (hb hby dC_6)
    have Ex_2 : Exa Z h2 a1 "com/example/sukima/sukima/catalog/Column" := Ex.wr W2
    have Ftype_2 : Fld Z h2 a1 "com/example/sukima/sukima/catalog/Column" "type" "Lcom/example/sukima/sukima/sql/DataType;" .null := Ftype.other W2 (Or.inr (slot_ne (Or.inr (hw _ (List.mem_of_getElem? (i := 23) rfl))) (Or.inr (hw _ (List.mem_of_getElem? (i := 21) rfl))) (by decide) (t := (.object "com/example/sukima/sukima/sql/DataType")) (t' := (.object "java/lang/String")) (by decide) (by decide)))
    have FnotNull_2 : Fld Z h2 a1 "com/example/sukima/sukima/catalog/Column" "notNull" "Z" (.int (0 : Int32)) := FnotNull.other W2 (Or.inr (slot_ne (Or.inr (hw _ (List.mem_of_getElem? (i := 25) rfl))) (Or.inr (hw _ (List.mem_of_getElem? (i := 21) rfl))) (by decide) (t := .boolean) (t' := (.object "java/lang/String")) (by decide) (by decide)))
    have FhasDefault_2 : Fld Z h2 a1 "com/example/sukima/sukima/catalog/Column" "hasDefault" "Z" (.int (0 : Int32)) := FhasDefault.other W2 (Or.inr (slot_ne (Or.inr (hw _ (List.mem_of_getElem? (i := 27) rfl))) (Or.inr (hw _ (List.mem_of_getElem? (i := 21) rfl))) (by decide) (t := .boolean) (t' := (.object "java/lang/String")) (by decide) (by decide)))
    have FdefaultValue_2 : Fld Z h2 a1 "com/example/sukima/sukima/catalog/Column" "defaultValue" "Ljava/lang/Object;" .null := FdefaultValue.other W2 (Or.inr (slot_ne (Or.inr (hw _ (List.mem_of_getElem? (i := 29) rfl))) (Or.inr (hw _ (List.mem_of_getElem? (i := 21) rfl))) (by decide) (t := (.object "java/lang/Object")) (t' := (.object "java/lang/String")) (by decide) (by decide)))
    have FdefaultCurrentTimestamp_2 : Fld Z h2 a1 "com/example/sukima/sukima/catalog/Column" "defaultCurrentTimestamp" "Z" (.int (0 : Int32)) := FdefaultCurrentTimestamp.other W2 (Or.inr (slot_ne (Or.inr (hw _ (List.mem_of_getElem? (i := 31) rfl))) (Or.inr (hw _ (List.mem_of_getElem? (i := 21) rfl))) (by decide) (t := .boolean) (t' := (.object "java/lang/String")) (by decide) (by decide)))
    have FonUpdateCurrentTimestamp_2 : Fld Z h2 a1 "com/example/sukima/sukima/catalog/Column" "onUpdateCurrentTimestamp" "Z" (.int (0 : Int32)) := FonUpdateCurrentTimestamp.other W2 (Or.inr (slot_ne (Or.inr (hw _ (List.mem_of_getElem? (i := 33) rfl))) (Or.inr (hw _ (List.mem_of_getElem? (i := 21) rfl))) (by decide) (t := .boolean) (t' := (.object "java/lang/String")) (by decide) (by decide)))
    have FautoIncrement_2 : Fld Z h2 a1 "com/example/sukima/sukima/catalog/Column" "autoIncrement" "Z" (.int (0 : Int32)) := FautoIncrement.other W2 (Or.inr (slot_ne (Or.inr (hw _ (List.mem_of_getElem? (i := 35) rfl))) (Or.inr (hw _ (List.mem_of_getElem? (i := 21) rfl))) (by decide) (t := .boolean) (t' := (.object "java/lang/String")) (by decide) (by decide)))
    have Fname_2 : Fld Z h2 a1 "com/example/sukima/sukima/catalog/Column" "name" "Ljava/lang/String;" (.ref s1) := Fname.same W2
    have Zs2 : n0 ≤ h2.size := Nat.le_trans Z0 (Keep.of_wr W2).1
    have Kp2 : Keep h0 h2 [a1] := (Keep.refl h0 [a1]).wr W2 (Or.inl (by simp))
    have N2 := Fr.snoc X2 N0 ga
    refine own_go (T1 := T2) (g1 := (mkF m 9 #[.val (.ref a1), .val (.ref s1), .val .null, .val (.int (0 : Int32)), .val (.int (0 : Int32)), .val .null, .val (.int (0 : Int32)), .val (.int (0 : Int32)), .val (.int (0 : Int32))] [])) (fun t k => st2 t k) ?_
    refine own_go (T1 := T2) (g1 := (mkF m 10 #[.val (.ref a1), .val (.ref s1), .val .null, .val (.int (0 : Int32)), .val (.int (0 : Int32)), .val .null, .val (.int (0 : Int32)), .val (.int (0 : Int32)), .val (.int (0 : Int32))] [(.ref a1)])) (fun _ k => XS.aloadN X2.here hx rfl (hb hby dC_9) rfl rfl k) ?_
    refine own_go (T1 := T2) (g1 := (mkF m 11 #[.val (.ref a1), .val (.ref s1), .val .null, .val (.int (0 : Int32)), .val (.int (0 : Int32)), .val .null, .val (.int (0 : Int32)), .val (.int (0 : Int32)), .val (.int (0 : Int32))] [.null, (.ref a1)])) (fun _ k => XS.aloadN X2.here hx rfl (hb hby dC_10) rfl rfl k) ?_
    obtain ⟨T3, h3, X3, e3, W3, st3⟩ := putF X2 hx hZ hown (host := "") (Or.inl (hw _ (List.mem_of_getElem? (i := 22) rfl))) Via.refl e2 Ftype_2 Ex_2 (Or.inr ⟨(hw _ (List.mem_of_getElem? (i := 23) rfl)), rfl, hnm⟩) (hw _ (List.mem_of_getElem? (i := 4) rfl)) (ty := (.object "com/example/sukima/sukima/sql/DataType")) (by decide) rfl rfl (g := (mkF m 11 #[.val (.ref a1), .val (.ref s1), .val .null, .val (.int (0 : Int32)), .val (.int (0 : Int32)), .val .null, .val (.int (0 : Int32)), .val (.int (0 : Int32)), .val (.int (0 : Int32))] [.null, (.ref a1)])) rfl rfl (hb hby dC_11)
    have Ex_3 : Exa Z h3 a1 "com/example/sukima/sukima/catalog/Column" := Ex_2.wr W3
    have FnotNull_3 : Fld Z h3 a1 "com/example/sukima/sukima/catalog/Column" "notNull" "Z" (.int (0 : Int32)) := FnotNull_2.other W3 (Or.inr (slot_ne (Or.inr (hw _ (List.mem_of_getElem? (i := 25) rfl))) (Or.inr (hw _ (List.mem_of_getElem? (i := 23) rfl))) (by decide) (t := .boolean) (t' := (.object "com/example/sukima/sukima/sql/DataType")) (by decide) (by decide)))
    have FhasDefault_3 : Fld Z h3 a1 "com/example/sukima/sukima/catalog/Column" "hasDefault" "Z" (.int (0 : Int32)) := FhasDefault_2.other W3 (Or.inr (slot_ne (Or.inr (hw _ (List.mem_of_getElem? (i := 27) rfl))) (Or.inr (hw _ (List.mem_of_getElem? (i := 23) rfl))) (by decide) (t := .boolean) (t' := (.object "com/example/sukima/sukima/sql/DataType")) (by decide) (by decide)))
    have FdefaultValue_3 : Fld Z h3 a1 "com/example/sukima/sukima/catalog/Column" "defaultValue" "Ljava/lang/Object;" .null := FdefaultValue_2.other W3 (Or.inr (slot_ne (Or.inr (hw _ (List.mem_of_getElem? (i := 29) rfl))) (Or.inr (hw _ (List.mem_of_getElem? (i := 23) rfl))) (by decide) (t := (.object "java/lang/Object")) (t' := (.object "com/example/sukima/sukima/sql/DataType")) (by decide) (by decide)))
    have FdefaultCurrentTimestamp_3 : Fld Z h3 a1 "com/example/sukima/sukima/catalog/Column" "defaultCurrentTimestamp" "Z" (.int (0 : Int32)) := FdefaultCurrentTimestamp_2.other W3 (Or.inr (slot_ne (Or.inr (hw _ (List.mem_of_getElem? (i := 31) rfl))) (Or.inr (hw _ (List.mem_of_getElem? (i := 23) rfl))) (by decide) (t := .boolean) (t' := (.object "com/example/sukima/sukima/sql/DataType")) (by decide) (by decide)))
    have FonUpdateCurrentTimestamp_3 : Fld Z h3 a1 "com/example/sukima/sukima/catalog/Column" "onUpdateCurrentTimestamp" "Z" (.int (0 : Int32)) := FonUpdateCurrentTimestamp_2.other W3 (Or.inr (slot_ne (Or.inr (hw _ (List.mem_of_getElem? (i := 33) rfl))) (Or.inr (hw _ (List.mem_of_getElem? (i := 23) rfl))) (by decide) (t := .boolean) (t' := (.object "com/example/sukima/sukima/sql/DataType")) (by decide) (by decide)))
    have FautoIncrement_3 : Fld Z h3 a1 "com/example/sukima/sukima/catalog/Column" "autoIncrement" "Z" (.int (0 : Int32)) := FautoIncrement_2.other W3 (Or.inr (slot_ne (Or.inr (hw _ (List.mem_of_getElem? (i := 35) rfl))) (Or.inr (hw _ (List.mem_of_getElem? (i := 23) rfl))) (by decide) (t := .boolean) (t' := (.object "com/example/sukima/sukima/sql/DataType")) (by decide) (by decide)))
    have Fname_3 : Fld Z h3 a1 "com/example/sukima/sukima/catalog/Column" "name" "Ljava/lang/String;" (.ref s1) := Fname_2.other W3 (Or.inr (slot_ne (Or.inr (hw _ (List.mem_of_getElem? (i := 21) rfl))) (Or.inr (hw _ (List.mem_of_getElem? (i := 23) rfl))) (by decide) (t := (.object "java/lang/String")) (t' := (.object "com/example/sukima/sukima/sql/DataType")) (by decide) (by decide)))
    have Ftype_3 : Fld Z h3 a1 "com/example/sukima/sukima/catalog/Column" "type" "Lcom/example/sukima/sukima/sql/DataType;" .null := Ftype_2.same W3
    have Zs3 : n0 ≤ h3.size := Nat.le_trans Zs2 (Keep.of_wr W3).1
    have Kp3 : Keep h0 h3 [a1] := Kp2.wr W3 (Or.inl (by simp))
    have N3 := Fr.snoc X3 N2 ga
    refine own_go (T1 := T3) (g1 := (mkF m 14 #[.val (.ref a1), .val (.ref s1), .val .null, .val (.int (0 : Int32)), .val (.int (0 : Int32)), .val .null, .val (.int (0 : Int32)), .val (.int (0 : Int32)), .val (.int (0 : Int32))] [])) (fun t k => st3 t k) ?_
    refine own_go (T1 := T3) (g1 := (mkF m 15 #[.val (.ref a1), .val (.ref s1), .val .null, .val (.int (0 : Int32)), .val (.int (0 : Int32)), .val .null, .val (.int (0 : Int32)), .val (.int (0 : Int32)), .val (.int (0 : Int32))] [(.ref a1)])) (fun _ k => XS.aloadN X3.here hx rfl (hb hby dC_14) rfl rfl k) ?_
    refine own_go (T1 := T3) (g1 := (mkF m 16 #[.val (.ref a1), .val (.ref s1), .val .null, .val (.int (0 : Int32)), .val (.int (0 : Int32)), .val .null, .val (.int (0 : Int32)), .val (.int (0 : Int32)), .val (.int (0 : Int32))] [(.int (0 : Int32)), (.ref a1)])) (fun _ k => XS.iloadN X3.here hx rfl (hb hby dC_15) rfl k) ?_
    obtain ⟨T4, h4, X4, e4, W4, st4⟩ := putFN X3 hx hZ hown (hw _ (List.mem_of_getElem? (i := 24) rfl)) Via.refl e3 FnotNull_3 Ex_3 (Or.inr ⟨(hw _ (List.mem_of_getElem? (i := 25) rfl)), rfl, hnm⟩) (hw _ (List.mem_of_getElem? (i := 4) rfl)) (ty := .boolean) (v' := (.int (0 : Int32))) (by decide) rfl rfl (g := (mkF m 16 #[.val (.ref a1), .val (.ref s1), .val .null, .val (.int (0 : Int32)), .val (.int (0 : Int32)), .val .null, .val (.int (0 : Int32)), .val (.int (0 : Int32)), .val (.int (0 : Int32))] [(.int (0 : Int32)), (.ref a1)])) rfl rfl (hb hby dC_16)
    have Ex_4 : Exa Z h4 a1 "com/example/sukima/sukima/catalog/Column" := Ex_3.wr W4
    have FhasDefault_4 : Fld Z h4 a1 "com/example/sukima/sukima/catalog/Column" "hasDefault" "Z" (.int (0 : Int32)) := FhasDefault_3.other W4 (Or.inr (slot_ne (Or.inr (hw _ (List.mem_of_getElem? (i := 27) rfl))) (Or.inr (hw _ (List.mem_of_getElem? (i := 25) rfl))) (by decide) (t := .boolean) (t' := .boolean) (by decide) (by decide)))
    have FdefaultValue_4 : Fld Z h4 a1 "com/example/sukima/sukima/catalog/Column" "defaultValue" "Ljava/lang/Object;" .null := FdefaultValue_3.other W4 (Or.inr (slot_ne (Or.inr (hw _ (List.mem_of_getElem? (i := 29) rfl))) (Or.inr (hw _ (List.mem_of_getElem? (i := 25) rfl))) (by decide) (t := (.object "java/lang/Object")) (t' := .boolean) (by decide) (by decide)))
    have FdefaultCurrentTimestamp_4 : Fld Z h4 a1 "com/example/sukima/sukima/catalog/Column" "defaultCurrentTimestamp" "Z" (.int (0 : Int32)) := FdefaultCurrentTimestamp_3.other W4 (Or.inr (slot_ne (Or.inr (hw _ (List.mem_of_getElem? (i := 31) rfl))) (Or.inr (hw _ (List.mem_of_getElem? (i := 25) rfl))) (by decide) (t := .boolean) (t' := .boolean) (by decide) (by decide)))
    have FonUpdateCurrentTimestamp_4 : Fld Z h4 a1 "com/example/sukima/sukima/catalog/Column" "onUpdateCurrentTimestamp" "Z" (.int (0 : Int32)) := FonUpdateCurrentTimestamp_3.other W4 (Or.inr (slot_ne (Or.inr (hw _ (List.mem_of_getElem? (i := 33) rfl))) (Or.inr (hw _ (List.mem_of_getElem? (i := 25) rfl))) (by decide) (t := .boolean) (t' := .boolean) (by decide) (by decide)))
    have FautoIncrement_4 : Fld Z h4 a1 "com/example/sukima/sukima/catalog/Column" "autoIncrement" "Z" (.int (0 : Int32)) := FautoIncrement_3.other W4 (Or.inr (slot_ne (Or.inr (hw _ (List.mem_of_getElem? (i := 35) rfl))) (Or.inr (hw _ (List.mem_of_getElem? (i := 25) rfl))) (by decide) (t := .boolean) (t' := .boolean) (by decide) (by decide)))
    have Fname_4 : Fld Z h4 a1 "com/example/sukima/sukima/catalog/Column" "name" "Ljava/lang/String;" (.ref s1) := Fname_3.other W4 (Or.inr (slot_ne (Or.inr (hw _ (List.mem_of_getElem? (i := 21) rfl))) (Or.inr (hw _ (List.mem_of_getElem? (i := 25) rfl))) (by decide) (t := (.object "java/lang/String")) (t' := .boolean) (by decide) (by decide)))
    have Ftype_4 : Fld Z h4 a1 "com/example/sukima/sukima/catalog/Column" "type" "Lcom/example/sukima/sukima/sql/DataType;" .null := Ftype_3.other W4 (Or.inr (slot_ne (Or.inr (hw _ (List.mem_of_getElem? (i := 23) rfl))) (Or.inr (hw _ (List.mem_of_getElem? (i := 25) rfl))) (by decide) (t := (.object "com/example/sukima/sukima/sql/DataType")) (t' := .boolean) (by decide) (by decide)))
    have FnotNull_4 : Fld Z h4 a1 "com/example/sukima/sukima/catalog/Column" "notNull" "Z" (.int (0 : Int32)) := FnotNull_3.same W4
    have Zs4 : n0 ≤ h4.size := Nat.le_trans Zs3 (Keep.of_wr W4).1
    have Kp4 : Keep h0 h4 [a1] := Kp3.wr W4 (Or.inl (by simp))
    have N4 := Fr.snoc X4 N3 ga
    refine own_go (T1 := T4) (g1 := (mkF m 19 #[.val (.ref a1), .val (.ref s1), .val .null, .val (.int (0 : Int32)), .val (.int (0 : Int32)), .val .null, .val (.int (0 : Int32)), .val (.int (0 : Int32)), .val (.int (0 : Int32))] [])) (fun t k => st4 t k) ?_
    refine own_go (T1 := T4) (g1 := (mkF m 20 #[.val (.ref a1), .val (.ref s1), .val .null, .val (.int (0 : Int32)), .val (.int (0 : Int32)), .val .null, .val (.int (0 : Int32)), .val (.int (0 : Int32)), .val (.int (0 : Int32))] [(.ref a1)])) (fun _ k => XS.aloadN X4.here hx rfl (hb hby dC_19) rfl rfl k) ?_
    refine own_go (T1 := T4) (g1 := (mkF m 22 #[.val (.ref a1), .val (.ref s1), .val .null, .val (.int (0 : Int32)), .val (.int (0 : Int32)), .val .null, .val (.int (0 : Int32)), .val (.int (0 : Int32)), .val (.int (0 : Int32))] [(.int (0 : Int32)), (.ref a1)])) (fun _ k => XS.iload X4.here hx rfl (hb hby dC_20) rfl k) ?_
    obtain ⟨T5, h5, X5, e5, W5, st5⟩ := putFN X4 hx hZ hown (hw _ (List.mem_of_getElem? (i := 26) rfl)) Via.refl e4 FhasDefault_4 Ex_4 (Or.inr ⟨(hw _ (List.mem_of_getElem? (i := 27) rfl)), rfl, hnm⟩) (hw _ (List.mem_of_getElem? (i := 4) rfl)) (ty := .boolean) (v' := (.int (0 : Int32))) (by decide) rfl rfl (g := (mkF m 22 #[.val (.ref a1), .val (.ref s1), .val .null, .val (.int (0 : Int32)), .val (.int (0 : Int32)), .val .null, .val (.int (0 : Int32)), .val (.int (0 : Int32)), .val (.int (0 : Int32))] [(.int (0 : Int32)), (.ref a1)])) rfl rfl (hb hby dC_22)
    have Ex_5 : Exa Z h5 a1 "com/example/sukima/sukima/catalog/Column" := Ex_4.wr W5
    have FdefaultValue_5 : Fld Z h5 a1 "com/example/sukima/sukima/catalog/Column" "defaultValue" "Ljava/lang/Object;" .null := FdefaultValue_4.other W5 (Or.inr (slot_ne (Or.inr (hw _ (List.mem_of_getElem? (i := 29) rfl))) (Or.inr (hw _ (List.mem_of_getElem? (i := 27) rfl))) (by decide) (t := (.object "java/lang/Object")) (t' := .boolean) (by decide) (by decide)))
    have FdefaultCurrentTimestamp_5 : Fld Z h5 a1 "com/example/sukima/sukima/catalog/Column" "defaultCurrentTimestamp" "Z" (.int (0 : Int32)) := FdefaultCurrentTimestamp_4.other W5 (Or.inr (slot_ne (Or.inr (hw _ (List.mem_of_getElem? (i := 31) rfl))) (Or.inr (hw _ (List.mem_of_getElem? (i := 27) rfl))) (by decide) (t := .boolean) (t' := .boolean) (by decide) (by decide)))
    have FonUpdateCurrentTimestamp_5 : Fld Z h5 a1 "com/example/sukima/sukima/catalog/Column" "onUpdateCurrentTimestamp" "Z" (.int (0 : Int32)) := FonUpdateCurrentTimestamp_4.other W5 (Or.inr (slot_ne (Or.inr (hw _ (List.mem_of_getElem? (i := 33) rfl))) (Or.inr (hw _ (List.mem_of_getElem? (i := 27) rfl))) (by decide) (t := .boolean) (t' := .boolean) (by decide) (by decide)))
    have FautoIncrement_5 : Fld Z h5 a1 "com/example/sukima/sukima/catalog/Column" "autoIncrement" "Z" (.int (0 : Int32)) := FautoIncrement_4.other W5 (Or.inr (slot_ne (Or.inr (hw _ (List.mem_of_getElem? (i := 35) rfl))) (Or.inr (hw _ (List.mem_of_getElem? (i := 27) rfl))) (by decide) (t := .boolean) (t' := .boolean) (by decide) (by decide)))
    have Fname_5 : Fld Z h5 a1 "com/example/sukima/sukima/catalog/Column" "name" "Ljava/lang/String;" (.ref s1) := Fname_4.other W5 (Or.inr (slot_ne (Or.inr (hw _ (List.mem_of_getElem? (i := 21) rfl))) (Or.inr (hw _ (List.mem_of_getElem? (i := 27) rfl))) (by decide) (t := (.object "java/lang/String")) (t' := .boolean) (by decide) (by decide)))
    have Ftype_5 : Fld Z h5 a1 "com/example/sukima/sukima/catalog/Column" "type" "Lcom/example/sukima/sukima/sql/DataType;" .null := Ftype_4.other W5 (Or.inr (slot_ne (Or.inr (hw _ (List.mem_of_getElem? (i := 23) rfl))) (Or.inr (hw _ (List.mem_of_getElem? (i := 27) rfl))) (by decide) (t := (.object "com/example/sukima/sukima/sql/DataType")) (t' := .boolean) (by decide) (by decide)))
    have FnotNull_5 : Fld Z h5 a1 "com/example/sukima/sukima/catalog/Column" "notNull" "Z" (.int (0 : Int32)) := FnotNull_4.other W5 (Or.inr (slot_ne (Or.inr (hw _ (List.mem_of_getElem? (i := 25) rfl))) (Or.inr (hw _ (List.mem_of_getElem? (i := 27) rfl))) (by decide) (t := .boolean) (t' := .boolean) (by decide) (by decide)))
    have FhasDefault_5 : Fld Z h5 a1 "com/example/sukima/sukima/catalog/Column" "hasDefault" "Z" (.int (0 : Int32)) := FhasDefault_4.same W5
    have Zs5 : n0 ≤ h5.size := Nat.le_trans Zs4 (Keep.of_wr W5).1
    have Kp5 : Keep h0 h5 [a1] := Kp4.wr W5 (Or.inl (by simp))
    have N5 := Fr.snoc X5 N4 ga
    refine own_go (T1 := T5) (g1 := (mkF m 25 #[.val (.ref a1), .val (.ref s1), .val .null, .val (.int (0 : Int32)), .val (.int (0 : Int32)), .val .null, .val (.int (0 : Int32)), .val (.int (0 : Int32)), .val (.int (0 : Int32))] [])) (fun t k => st5 t k) ?_
    refine own_go (T1 := T5) (g1 := (mkF m 26 #[.val (.ref a1), .val (.ref s1), .val .null, .val (.int (0 : Int32)), .val (.int (0 : Int32)), .val .null, .val (.int (0 : Int32)), .val (.int (0 : Int32)), .val (.int (0 : Int32))] [(.ref a1)])) (fun _ k => XS.aloadN X5.here hx rfl (hb hby dC_25) rfl rfl k) ?_
    refine own_go (T1 := T5) (g1 := (mkF m 28 #[.val (.ref a1), .val (.ref s1), .val .null, .val (.int (0 : Int32)), .val (.int (0 : Int32)), .val .null, .val (.int (0 : Int32)), .val (.int (0 : Int32)), .val (.int (0 : Int32))] [.null, (.ref a1)])) (fun _ k => XS.aload X5.here hx rfl (hb hby dC_26) rfl rfl k) ?_
    obtain ⟨T6, h6, X6, e6, W6, st6⟩ := putF X5 hx hZ hown (host := "") (Or.inl (hw _ (List.mem_of_getElem? (i := 28) rfl))) Via.refl e5 FdefaultValue_5 Ex_5 (Or.inr ⟨(hw _ (List.mem_of_getElem? (i := 29) rfl)), rfl, hnm⟩) (hw _ (List.mem_of_getElem? (i := 4) rfl)) (ty := (.object "java/lang/Object")) (by decide) rfl rfl (g := (mkF m 28 #[.val (.ref a1), .val (.ref s1), .val .null, .val (.int (0 : Int32)), .val (.int (0 : Int32)), .val .null, .val (.int (0 : Int32)), .val (.int (0 : Int32)), .val (.int (0 : Int32))] [.null, (.ref a1)])) rfl rfl (hb hby dC_28)
    have Ex_6 : Exa Z h6 a1 "com/example/sukima/sukima/catalog/Column" := Ex_5.wr W6
    have FdefaultCurrentTimestamp_6 : Fld Z h6 a1 "com/example/sukima/sukima/catalog/Column" "defaultCurrentTimestamp" "Z" (.int (0 : Int32)) := FdefaultCurrentTimestamp_5.other W6 (Or.inr (slot_ne (Or.inr (hw _ (List.mem_of_getElem? (i := 31) rfl))) (Or.inr (hw _ (List.mem_of_getElem? (i := 29) rfl))) (by decide) (t := .boolean) (t' := (.object "java/lang/Object")) (by decide) (by decide)))
    have FonUpdateCurrentTimestamp_6 : Fld Z h6 a1 "com/example/sukima/sukima/catalog/Column" "onUpdateCurrentTimestamp" "Z" (.int (0 : Int32)) := FonUpdateCurrentTimestamp_5.other W6 (Or.inr (slot_ne (Or.inr (hw _ (List.mem_of_getElem? (i := 33) rfl))) (Or.inr (hw _ (List.mem_of_getElem? (i := 29) rfl))) (by decide) (t := .boolean) (t' := (.object "java/lang/Object")) (by decide) (by decide)))
    have FautoIncrement_6 : Fld Z h6 a1 "com/example/sukima/sukima/catalog/Column" "autoIncrement" "Z" (.int (0 : Int32)) := FautoIncrement_5.other W6 (Or.inr (slot_ne (Or.inr (hw _ (List.mem_of_getElem? (i := 35) rfl))) (Or.inr (hw _ (List.mem_of_getElem? (i := 29) rfl))) (by decide) (t := .boolean) (t' := (.object "java/lang/Object")) (by decide) (by decide)))
    have Fname_6 : Fld Z h6 a1 "com/example/sukima/sukima/catalog/Column" "name" "Ljava/lang/String;" (.ref s1) := Fname_5.other W6 (Or.inr (slot_ne (Or.inr (hw _ (List.mem_of_getElem? (i := 21) rfl))) (Or.inr (hw _ (List.mem_of_getElem? (i := 29) rfl))) (by decide) (t := (.object "java/lang/String")) (t' := (.object "java/lang/Object")) (by decide) (by decide)))
    have Ftype_6 : Fld Z h6 a1 "com/example/sukima/sukima/catalog/Column" "type" "Lcom/example/sukima/sukima/sql/DataType;" .null := Ftype_5.other W6 (Or.inr (slot_ne (Or.inr (hw _ (List.mem_of_getElem? (i := 23) rfl))) (Or.inr (hw _ (List.mem_of_getElem? (i := 29) rfl))) (by decide) (t := (.object "com/example/sukima/sukima/sql/DataType")) (t' := (.object "java/lang/Object")) (by decide) (by decide)))
    have FnotNull_6 : Fld Z h6 a1 "com/example/sukima/sukima/catalog/Column" "notNull" "Z" (.int (0 : Int32)) := FnotNull_5.other W6 (Or.inr (slot_ne (Or.inr (hw _ (List.mem_of_getElem? (i := 25) rfl))) (Or.inr (hw _ (List.mem_of_getElem? (i := 29) rfl))) (by decide) (t := .boolean) (t' := (.object "java/lang/Object")) (by decide) (by decide)))
    have FhasDefault_6 : Fld Z h6 a1 "com/example/sukima/sukima/catalog/Column" "hasDefault" "Z" (.int (0 : Int32)) := FhasDefault_5.other W6 (Or.inr (slot_ne (Or.inr (hw _ (List.mem_of_getElem? (i := 27) rfl))) (Or.inr (hw _ (List.mem_of_getElem? (i := 29) rfl))) (by decide) (t := .boolean) (t' := (.object "java/lang/Object")) (by decide) (by decide)))
    have FdefaultValue_6 : Fld Z h6 a1 "com/example/sukima/sukima/catalog/Column" "defaultValue" "Ljava/lang/Object;" .null := FdefaultValue_5.same W6
    have Zs6 : n0 ≤ h6.size := Nat.le_trans Zs5 (Keep.of_wr W6).1
    have Kp6 : Keep h0 h6 [a1] := Kp5.wr W6 (Or.inl (by simp))
    have N6 := Fr.snoc X6 N5 ga
    refine own_go (T1 := T6) (g1 := (mkF m 31 #[.val (.ref a1), .val (.ref s1), .val .null, .val (.int (0 : Int32)), .val (.int (0 : Int32)), .val .null, .val (.int (0 : Int32)), .val (.int (0 : Int32)), .val (.int (0 : Int32))] [])) (fun t k => st6 t k) ?_
    refine own_go (T1 := T6) (g1 := (mkF m 32 #[.val (.ref a1), .val (.ref s1), .val .null, .val (.int (0 : Int32)), .val (.int (0 : Int32)), .val .null, .val (.int (0 : Int32)), .val (.int (0 : Int32)), .val (.int (0 : Int32))] [(.ref a1)])) (fun _ k => XS.aloadN X6.here hx rfl (hb hby dC_31) rfl rfl k) ?_
    refine own_go (T1 := T6) (g1 := (mkF m 34 #[.val (.ref a1), .val (.ref s1), .val .null, .val (.int (0 : Int32)), .val (.int (0 : Int32)), .val .null, .val (.int (0 : Int32)), .val (.int (0 : Int32)), .val (.int (0 : Int32))] [(.int (0 : Int32)), (.ref a1)])) (fun _ k => XS.iload X6.here hx rfl (hb hby dC_32) rfl k) ?_
    obtain ⟨T7, h7, X7, e7, W7, st7⟩ := putFN X6 hx hZ hown (hw _ (List.mem_of_getElem? (i := 30) rfl)) Via.refl e6 FdefaultCurrentTimestamp_6 Ex_6 (Or.inr ⟨(hw _ (List.mem_of_getElem? (i := 31) rfl)), rfl, hnm⟩) (hw _ (List.mem_of_getElem? (i := 4) rfl)) (ty := .boolean) (v' := (.int (0 : Int32))) (by decide) rfl rfl (g := (mkF m 34 #[.val (.ref a1), .val (.ref s1), .val .null, .val (.int (0 : Int32)), .val (.int (0 : Int32)), .val .null, .val (.int (0 : Int32)), .val (.int (0 : Int32)), .val (.int (0 : Int32))] [(.int (0 : Int32)), (.ref a1)])) rfl rfl (hb hby dC_34)
    have Ex_7 : Exa Z h7 a1 "com/example/sukima/sukima/catalog/Column" := Ex_6.wr W7
    have FonUpdateCurrentTimestamp_7 : Fld Z h7 a1 "com/example/sukima/sukima/catalog/Column" "onUpdateCurrentTimestamp" "Z" (.int (0 : Int32)) := FonUpdateCurrentTimestamp_6.other W7 (Or.inr (slot_ne (Or.inr (hw _ (List.mem_of_getElem? (i := 33) rfl))) (Or.inr (hw _ (List.mem_of_getElem? (i := 31) rfl))) (by decide) (t := .boolean) (t' := .boolean) (by decide) (by decide)))
    have FautoIncrement_7 : Fld Z h7 a1 "com/example/sukima/sukima/catalog/Column" "autoIncrement" "Z" (.int (0 : Int32)) := FautoIncrement_6.other W7 (Or.inr (slot_ne (Or.inr (hw _ (List.mem_of_getElem? (i := 35) rfl))) (Or.inr (hw _ (List.mem_of_getElem? (i := 31) rfl))) (by decide) (t := .boolean) (t' := .boolean) (by decide) (by decide)))
    have Fname_7 : Fld Z h7 a1 "com/example/sukima/sukima/catalog/Column" "name" "Ljava/lang/String;" (.ref s1) := Fname_6.other W7 (Or.inr (slot_ne (Or.inr (hw _ (List.mem_of_getElem? (i := 21) rfl))) (Or.inr (hw _ (List.mem_of_getElem? (i := 31) rfl))) (by decide) (t := (.object "java/lang/String")) (t' := .boolean) (by decide) (by decide)))
    have Ftype_7 : Fld Z h7 a1 "com/example/sukima/sukima/catalog/Column" "type" "Lcom/example/sukima/sukima/sql/DataType;" .null := Ftype_6.other W7 (Or.inr (slot_ne (Or.inr (hw _ (List.mem_of_getElem? (i := 23) rfl))) (Or.inr (hw _ (List.mem_of_getElem? (i := 31) rfl))) (by decide) (t := (.object "com/example/sukima/sukima/sql/DataType")) (t' := .boolean) (by decide) (by decide)))
    have FnotNull_7 : Fld Z h7 a1 "com/example/sukima/sukima/catalog/Column" "notNull" "Z" (.int (0 : Int32)) := FnotNull_6.other W7 (Or.inr (slot_ne (Or.inr (hw _ (List.mem_of_getElem? (i := 25) rfl))) (Or.inr (hw _ (List.mem_of_getElem? (i := 31) rfl))) (by decide) (t := .boolean) (t' := .boolean) (by decide) (by decide)))
    have FhasDefault_7 : Fld Z h7 a1 "com/example/sukima/sukima/catalog/Column" "hasDefault" "Z" (.int (0 : Int32)) := FhasDefault_6.other W7 (Or.inr (slot_ne (Or.inr (hw _ (List.mem_of_getElem? (i := 27) rfl))) (Or.inr (hw _ (List.mem_of_getElem? (i := 31) rfl))) (by decide) (t := .boolean) (t' := .boolean) (by decide) (by decide)))
    have FdefaultValue_7 : Fld Z h7 a1 "com/example/sukima/sukima/catalog/Column" "defaultValue" "Ljava/lang/Object;" .null := FdefaultValue_6.other W7 (Or.inr (slot_ne (Or.inr (hw _ (List.mem_of_getElem? (i := 29) rfl))) (Or.inr (hw _ (List.mem_of_getElem? (i := 31) rfl))) (by decide) (t := (.object "java/lang/Object")) (t' := .boolean) (by decide) (by decide)))
    have FdefaultCurrentTimestamp_7 : Fld Z h7 a1 "com/example/sukima/sukima/catalog/Column" "defaultCurrentTimestamp" "Z" (.int (0 : Int32)) := FdefaultCurrentTimestamp_6.same W7
    have Zs7 : n0 ≤ h7.size := Nat.le_trans Zs6 (Keep.of_wr W7).1
    have Kp7 : Keep h0 h7 [a1] := Kp6.wr W7 (Or.inl (by simp))
    have N7 := Fr.snoc X7 N6 ga
    refine own_go (T1 := T7) (g1 := (mkF m 37 #[.val (.ref a1), .val (.ref s1), .val .null, .val (.int (0 : Int32)), .val (.int (0 : Int32)), .val .null, .val (.int (0 : Int32)), .val (.int (0 : Int32)), .val (.int (0 : Int32))] [])) (fun t k => st7 t k) ?_
    refine own_go (T1 := T7) (g1 := (mkF m 38 #[.val (.ref a1), .val (.ref s1), .val .null, .val (.int (0 : Int32)), .val (.int (0 : Int32)), .val .null, .val (.int (0 : Int32)), .val (.int (0 : Int32)), .val (.int (0 : Int32))] [(.ref a1)])) (fun _ k => XS.aloadN X7.here hx rfl (hb hby dC_37) rfl rfl k) ?_
    refine own_go (T1 := T7) (g1 := (mkF m 40 #[.val (.ref a1), .val (.ref s1), .val .null, .val (.int (0 : Int32)), .val (.int (0 : Int32)), .val .null, .val (.int (0 : Int32)), .val (.int (0 : Int32)), .val (.int (0 : Int32))] [(.int (0 : Int32)), (.ref a1)])) (fun _ k => XS.iload X7.here hx rfl (hb hby dC_38) rfl k) ?_
    obtain ⟨T8, h8, X8, e8, W8, st8⟩ := putFN X7 hx hZ hown (hw _ (List.mem_of_getElem? (i := 32) rfl)) Via.refl e7 FonUpdateCurrentTimestamp_7 Ex_7 (Or.inr ⟨(hw _ (List.mem_of_getElem? (i := 33) rfl)), rfl, hnm⟩) (hw _ (List.mem_of_getElem? (i := 4) rfl)) (ty := .boolean) (v' := (.int (0 : Int32))) (by decide) rfl rfl (g := (mkF m 40 #[.val (.ref a1), .val (.ref s1), .val .null, .val (.int (0 : Int32)), .val (.int (0 : Int32)), .val .null, .val (.int (0 : Int32)), .val (.int (0 : Int32)), .val (.int (0 : Int32))] [(.int (0 : Int32)), (.ref a1)])) rfl rfl (hb hby dC_40)
    have Ex_8 : Exa Z h8 a1 "com/example/sukima/sukima/catalog/Column" := Ex_7.wr W8
    have FautoIncrement_8 : Fld Z h8 a1 "com/example/sukima/sukima/catalog/Column" "autoIncrement" "Z" (.int (0 : Int32)) := FautoIncrement_7.other W8 (Or.inr (slot_ne (Or.inr (hw _ (List.mem_of_getElem? (i := 35) rfl))) (Or.inr (hw _ (List.mem_of_getElem? (i := 33) rfl))) (by decide) (t := .boolean) (t' := .boolean) (by decide) (by decide)))
    have Fname_8 : Fld Z h8 a1 "com/example/sukima/sukima/catalog/Column" "name" "Ljava/lang/String;" (.ref s1) := Fname_7.other W8 (Or.inr (slot_ne (Or.inr (hw _ (List.mem_of_getElem? (i := 21) rfl))) (Or.inr (hw _ (List.mem_of_getElem? (i := 33) rfl))) (by decide) (t := (.object "java/lang/String")) (t' := .boolean) (by decide) (by decide)))
    have Ftype_8 : Fld Z h8 a1 "com/example/sukima/sukima/catalog/Column" "type" "Lcom/example/sukima/sukima/sql/DataType;" .null := Ftype_7.other W8 (Or.inr (slot_ne (Or.inr (hw _ (List.mem_of_getElem? (i := 23) rfl))) (Or.inr (hw _ (List.mem_of_getElem? (i := 33) rfl))) (by decide) (t := (.object "com/example/sukima/sukima/sql/DataType")) (t' := .boolean) (by decide) (by decide)))
    have FnotNull_8 : Fld Z h8 a1 "com/example/sukima/sukima/catalog/Column" "notNull" "Z" (.int (0 : Int32)) := FnotNull_7.other W8 (Or.inr (slot_ne (Or.inr (hw _ (List.mem_of_getElem? (i := 25) rfl))) (Or.inr (hw _ (List.mem_of_getElem? (i := 33) rfl))) (by decide) (t := .boolean) (t' := .boolean) (by decide) (by decide)))
    have FhasDefault_8 : Fld Z h8 a1 "com/example/sukima/sukima/catalog/Column" "hasDefault" "Z" (.int (0 : Int32)) := FhasDefault_7.other W8 (Or.inr (slot_ne (Or.inr (hw _ (List.mem_of_getElem? (i := 27) rfl))) (Or.inr (hw _ (List.mem_of_getElem? (i := 33) rfl))) (by decide) (t := .boolean) (t' := .boolean) (by decide) (by decide)))
    have FdefaultValue_8 : Fld Z h8 a1 "com/example/sukima/sukima/catalog/Column" "defaultValue" "Ljava/lang/Object;" .null := FdefaultValue_7.other W8 (Or.inr (slot_ne (Or.inr (hw _ (List.mem_of_getElem? (i := 29) rfl))) (Or.inr (hw _ (List.mem_of_getElem? (i := 33) rfl))) (by decide) (t := (.object "java/lang/Object")) (t' := .boolean) (by decide) (by decide)))
    have FdefaultCurrentTimestamp_8 : Fld Z h8 a1 "com/example/sukima/sukima/catalog/Column" "defaultCurrentTimestamp" "Z" (.int (0 : Int32)) := FdefaultCurrentTimestamp_7.other W8 (Or.inr (slot_ne (Or.inr (hw _ (List.mem_of_getElem? (i := 31) rfl))) (Or.inr (hw _ (List.mem_of_getElem? (i := 33) rfl))) (by decide) (t := .boolean) (t' := .boolean) (by decide) (by decide)))
    have FonUpdateCurrentTimestamp_8 : Fld Z h8 a1 "com/example/sukima/sukima/catalog/Column" "onUpdateCurrentTimestamp" "Z" (.int (0 : Int32)) := FonUpdateCurrentTimestamp_7.same W8
    have Zs8 : n0 ≤ h8.size := Nat.le_trans Zs7 (Keep.of_wr W8).1
    have Kp8 : Keep h0 h8 [a1] := Kp7.wr W8 (Or.inl (by simp))
    have N8 := Fr.snoc X8 N7 ga
    refine own_go (T1 := T8) (g1 := (mkF m 43 #[.val (.ref a1), .val (.ref s1), .val .null, .val (.int (0 : Int32)), .val (.int (0 : Int32)), .val .null, .val (.int (0 : Int32)), .val (.int (0 : Int32)), .val (.int (0 : Int32))] [])) (fun t k => st8 t k) ?_
    refine own_go (T1 := T8) (g1 := (mkF m 44 #[.val (.ref a1), .val (.ref s1), .val .null, .val (.int (0 : Int32)), .val (.int (0 : Int32)), .val .null, .val (.int (0 : Int32)), .val (.int (0 : Int32)), .val (.int (0 : Int32))] [(.ref a1)])) (fun _ k => XS.aloadN X8.here hx rfl (hb hby dC_43) rfl rfl k) ?_
    refine own_go (T1 := T8) (g1 := (mkF m 46 #[.val (.ref a1), .val (.ref s1), .val .null, .val (.int (0 : Int32)), .val (.int (0 : Int32)), .val .null, .val (.int (0 : Int32)), .val (.int (0 : Int32)), .val (.int (0 : Int32))] [(.int (0 : Int32)), (.ref a1)])) (fun _ k => XS.iload X8.here hx rfl (hb hby dC_44) rfl k) ?_
    obtain ⟨T9, h9, X9, e9, W9, st9⟩ := putFN X8 hx hZ hown (hw _ (List.mem_of_getElem? (i := 34) rfl)) Via.refl e8 FautoIncrement_8 Ex_8 (Or.inr ⟨(hw _ (List.mem_of_getElem? (i := 35) rfl)), rfl, hnm⟩) (hw _ (List.mem_of_getElem? (i := 4) rfl)) (ty := .boolean) (v' := (.int (0 : Int32))) (by decide) rfl rfl (g := (mkF m 46 #[.val (.ref a1), .val (.ref s1), .val .null, .val (.int (0 : Int32)), .val (.int (0 : Int32)), .val .null, .val (.int (0 : Int32)), .val (.int (0 : Int32)), .val (.int (0 : Int32))] [(.int (0 : Int32)), (.ref a1)])) rfl rfl (hb hby dC_46)
    have Ex_9 : Exa Z h9 a1 "com/example/sukima/sukima/catalog/Column" := Ex_8.wr W9
    have Fname_9 : Fld Z h9 a1 "com/example/sukima/sukima/catalog/Column" "name" "Ljava/lang/String;" (.ref s1) := Fname_8.other W9 (Or.inr (slot_ne (Or.inr (hw _ (List.mem_of_getElem? (i := 21) rfl))) (Or.inr (hw _ (List.mem_of_getElem? (i := 35) rfl))) (by decide) (t := (.object "java/lang/String")) (t' := .boolean) (by decide) (by decide)))
    have Ftype_9 : Fld Z h9 a1 "com/example/sukima/sukima/catalog/Column" "type" "Lcom/example/sukima/sukima/sql/DataType;" .null := Ftype_8.other W9 (Or.inr (slot_ne (Or.inr (hw _ (List.mem_of_getElem? (i := 23) rfl))) (Or.inr (hw _ (List.mem_of_getElem? (i := 35) rfl))) (by decide) (t := (.object "com/example/sukima/sukima/sql/DataType")) (t' := .boolean) (by decide) (by decide)))
    have FnotNull_9 : Fld Z h9 a1 "com/example/sukima/sukima/catalog/Column" "notNull" "Z" (.int (0 : Int32)) := FnotNull_8.other W9 (Or.inr (slot_ne (Or.inr (hw _ (List.mem_of_getElem? (i := 25) rfl))) (Or.inr (hw _ (List.mem_of_getElem? (i := 35) rfl))) (by decide) (t := .boolean) (t' := .boolean) (by decide) (by decide)))
    have FhasDefault_9 : Fld Z h9 a1 "com/example/sukima/sukima/catalog/Column" "hasDefault" "Z" (.int (0 : Int32)) := FhasDefault_8.other W9 (Or.inr (slot_ne (Or.inr (hw _ (List.mem_of_getElem? (i := 27) rfl))) (Or.inr (hw _ (List.mem_of_getElem? (i := 35) rfl))) (by decide) (t := .boolean) (t' := .boolean) (by decide) (by decide)))
    have FdefaultValue_9 : Fld Z h9 a1 "com/example/sukima/sukima/catalog/Column" "defaultValue" "Ljava/lang/Object;" .null := FdefaultValue_8.other W9 (Or.inr (slot_ne (Or.inr (hw _ (List.mem_of_getElem? (i := 29) rfl))) (Or.inr (hw _ (List.mem_of_getElem? (i := 35) rfl))) (by decide) (t := (.object "java/lang/Object")) (t' := .boolean) (by decide) (by decide)))
    have FdefaultCurrentTimestamp_9 : Fld Z h9 a1 "com/example/sukima/sukima/catalog/Column" "defaultCurrentTimestamp" "Z" (.int (0 : Int32)) := FdefaultCurrentTimestamp_8.other W9 (Or.inr (slot_ne (Or.inr (hw _ (List.mem_of_getElem? (i := 31) rfl))) (Or.inr (hw _ (List.mem_of_getElem? (i := 35) rfl))) (by decide) (t := .boolean) (t' := .boolean) (by decide) (by decide)))
    have FonUpdateCurrentTimestamp_9 : Fld Z h9 a1 "com/example/sukima/sukima/catalog/Column" "onUpdateCurrentTimestamp" "Z" (.int (0 : Int32)) := FonUpdateCurrentTimestamp_8.other W9 (Or.inr (slot_ne (Or.inr (hw _ (List.mem_of_getElem? (i := 33) rfl))) (Or.inr (hw _ (List.mem_of_getElem? (i := 35) rfl))) (by decide) (t := .boolean) (t' := .boolean) (by decide) (by decide)))
    have FautoIncrement_9 : Fld Z h9 a1 "com/example/sukima/sukima/catalog/Column" "autoIncrement" "Z" (.int (0 : Int32)) := FautoIncrement_8.same W9
    have Zs9 : n0 ≤ h9.size := Nat.le_trans Zs8 (Keep.of_wr W9).1
    have Kp9 : Keep h0 h9 [a1] := Kp8.wr W9 (Or.inl (by simp))
    have N9 := Fr.snoc X9 N8 ga
    refine own_go (T1 := T9) (g1 := (mkF m 49 #[.val (.ref a1), .val (.ref s1), .val .null, .val (.int (0 : Int32)), .val (.int (0 : Int32)), .val .null, .val (.int (0 : Int32)), .val (.int (0 : Int32)), .val (.int (0 : Int32))] [])) (fun t k => st9 t k) ?_
    exact ⟨T9, _, _, _, _, X9, ⟨49, _, rfl, (hb hby dC_49), rfl, rfl, (by rw [e9]; exact ⟨rfl, N9, Kp9, Ex_9, Ftype_9⟩)⟩, fun _ k => k⟩
  obtain ⟨T', g', L', k', n', X', ⟨pcr, Ls, rfl, hd, rfl, rfl, hQ⟩, st⟩ := main
  obtain ⟨fs, hr, hrun, hended, hW, hsame⟩ := X'.leave (v := none) (fun _ => rfl)
  refine ⟨_, _, castTop (ef_rmC m a1 s1) (st _ ?_), hrun, hended, _, _, rfl, hQ, ⟨_, rfl⟩, hW, hsame.mono (by decide) (by decide)⟩
  exact X'.returnOut hx Bd.returns hd hr
def QABC (h0 : Heap) (n0 : Nat) (v : Option Value) (h : Heap) (L : List Loc) : Prop := v = none ∧ Fr n0 L ∧ h = h0
theorem dABC_0 : decode jdk_22_method_1_code 0 = .ok (.aload_n 0, 1) := by decide +kernel
theorem dABC_1 : decode jdk_22_method_1_code 1 = .ok (.invokespecial 1, 3) := by decide +kernel
theorem dABC_4 : decode jdk_22_method_1_code 4 = .ok (.return_, 1) := by decide +kernel
theorem ef_rmABC (m : MethodId) (a1 : Addr) : entryFrame m #[(.ref a1)] 1 = mkF m 0 #[.val (.ref a1)] [] := by first | (simp [entryFrame, mkF, argsToLocals, Value.category]; done) | rfl
set_option maxRecDepth 65536 in
set_option maxHeartbeats 4000000 in
theorem rmABC (l : Launch) (Z : State) (a0 : Array Value) (hw : ∀ d ∈ tables_1, d.before a0 Z = true) (ws : List Jvm.Cond) (a1 : Addr) (h0 : Heap) (n0 : Nat) (Z0 : n0 ≤ h0.size)  :
    MetFree l (⟨"java/util/AbstractCollection", "<init>", "()V"⟩ : MethodName) (head1 (Jvm.Cond.code (⟨"java/util/AbstractCollection", "<init>", "()V"⟩ : MethodName) jdk_22_method_1_code 1 none :: ws) ({ frames := 1, cells := 0, slots := 0, locals := 12 } : Room)) (fun a U => a = #[(.ref a1)] ∧ Z.Warmed39 U.vm ∧ U.heap = h0) (fun _ _ _ _ _ => True) (fun _ U o U' => ∃ v L, o = .returned v ∧ QABC h0 n0 v U'.heap L ∧ FrameEnd U o U' L ({ frames := 1, cells := 0, slots := 0, locals := 12 } : Room).cells ({ frames := 1, cells := 0, slots := 0, locals := 12 } : Room).slots) := by
  refine MetFree.of_bodySF (plainFor_of_name (by first | (simp [plainName, overriddenIn]; done) | decide +kernel)) hisR ?_
  intro p e s m args below meth c s₁ Bd hml0 hP hK
  obtain ⟨rfl, hZ, hh⟩ := hP
  have hx := Bd.exec
  have hby := Bd.bytes
  have hml : c.maxLocals = 1 := hml0
  have hown : s.vm.findClass "java/util/AbstractCollection" = some m.cls := findClass_of_methodNamed Bd.named
  have hnm := (name_of_methodNamed Bd.named Bd.method).1
  have X0 : Stand p l e ({ frames := 1, cells := 0, slots := 0, locals := 12 } : Room) s m #[(.ref a1)] below meth c s₁ [] 0 0 := Stand.of_body Bd
  have e0 : s₁.heap = h0 := by rw [← hh, Bd.state]; rfl
  have N0 := Fr.nil n0
  have main : own_To p l e ({ frames := 1, cells := 0, slots := 0, locals := 12 } : Room) s m #[(.ref a1)] below meth c s₁ (mkF m 0 #[.val (.ref a1)] []) (fun T' g' L kq zq => ∃ pcr Ls, g' = mkF m pcr Ls [] ∧ decode c.code pcr = .ok (.return_, 1) ∧ kq = 0 ∧ zq = 0 ∧ QABC h0 n0 none T'.heap L) := by
    refine own_go (T1 := s₁) (g1 := (mkF m 1 #[.val (.ref a1)] [(.ref a1)])) (fun _ k => XS.aloadN X0.here hx rfl (hb hby dABC_0) rfl rfl k) ?_
    obtain ⟨T1, X1, e1, st1⟩ := initO X0 hx hZ hown (hw _ (List.mem_of_getElem? (i := 54) rfl)) (hw _ (List.mem_of_getElem? (i := 18) rfl)) (hw _ (List.mem_of_getElem? (i := 19) rfl)) e0 (g := (mkF m 1 #[.val (.ref a1)] [(.ref a1)])) rfl (by rw [hml]; rfl) rfl (hb hby dABC_1) (by decide) (W := 0) (by show 2 * 0 + _ ≤ _; exact Nat.le_of_eq rfl) (by decide)
    refine own_go (T1 := T1) (g1 := (mkF m 4 #[.val (.ref a1)] [])) (fun t k => st1 t k) ?_
    exact ⟨T1, _, _, _, _, X1, ⟨4, _, rfl, (hb hby dABC_4), rfl, rfl, (by rw [e1]; exact ⟨rfl, N0, rfl⟩)⟩, fun _ k => k⟩
  obtain ⟨T', g', L', k', n', X', ⟨pcr, Ls, rfl, hd, rfl, rfl, hQ⟩, st⟩ := main
  obtain ⟨fs, hr, hrun, hended, hW, hsame⟩ := X'.leave (v := none) (fun _ => rfl)
  refine ⟨_, _, castTop (ef_rmABC m a1) (st _ ?_), hrun, hended, _, _, rfl, hQ, ⟨_, rfl⟩, hW, hsame.mono (by decide) (by decide)⟩
  exact X'.returnOut hx Bd.returns hd hr
def QABL (Z : State) (a1 : Addr) (v0 : Value) (h0 : Heap) (n0 : Nat) (v : Option Value) (h : Heap) (L : List Loc) : Prop := v = none ∧ Fr n0 L ∧ Keep h0 h [a1] ∧ own_AL Z h n0 a1 v0 0 0
theorem own_pd__V : parseMethodDescriptor "()V" = some ⟨[], none⟩ := by decide +kernel
theorem dABL_0 : decode jdk_39_method_1_code 0 = .ok (.aload_n 0, 1) := by decide +kernel
theorem dABL_1 : decode jdk_39_method_1_code 1 = .ok (.invokespecial 1, 3) := by decide +kernel
theorem dABL_4 : decode jdk_39_method_1_code 4 = .ok (.aload_n 0, 1) := by decide +kernel
theorem dABL_5 : decode jdk_39_method_1_code 5 = .ok (.iconst 0, 1) := by decide +kernel
theorem dABL_6 : decode jdk_39_method_1_code 6 = .ok (.putfield 7, 3) := by decide +kernel
theorem dABL_9 : decode jdk_39_method_1_code 9 = .ok (.return_, 1) := by decide +kernel
theorem ef_rmABL (m : MethodId) (a1 : Addr) : entryFrame m #[(.ref a1)] 1 = mkF m 0 #[.val (.ref a1)] [] := by first | (simp [entryFrame, mkF, argsToLocals, Value.category]; done) | rfl
set_option maxRecDepth 65536 in
set_option maxHeartbeats 4000000 in
theorem rmABL (l : Launch) (Z : State) (a0 : Array Value) (hw : ∀ d ∈ tables_1, d.before a0 Z = true) (ws : List Jvm.Cond) (a1 : Addr) (h0 : Heap) (n0 : Nat) (Z0 : n0 ≤ h0.size) (HA : own_AL Z h0 n0 a1 .null 0 0) :
    MetFree l (⟨"java/util/AbstractList", "<init>", "()V"⟩ : MethodName) (head1 (Jvm.Cond.code (⟨"java/util/AbstractList", "<init>", "()V"⟩ : MethodName) jdk_39_method_1_code 1 none :: ws) ({ frames := 2, cells := 0, slots := 0, locals := 24 } : Room)) (fun a U => a = #[(.ref a1)] ∧ Z.Warmed39 U.vm ∧ U.heap = h0) (fun _ _ _ _ _ => True) (fun _ U o U' => ∃ v L, o = .returned v ∧ QABL Z a1 .null h0 n0 v U'.heap L ∧ FrameEnd U o U' L ({ frames := 2, cells := 0, slots := 0, locals := 24 } : Room).cells ({ frames := 2, cells := 0, slots := 0, locals := 24 } : Room).slots) := by
  refine MetFree.of_bodySF (plainFor_of_name (by first | (simp [plainName, overriddenIn]; done) | decide +kernel)) hisR ?_
  intro p e s m args below meth c s₁ Bd hml0 hP hK
  obtain ⟨rfl, hZ, hh⟩ := hP
  have hx := Bd.exec
  have hby := Bd.bytes
  have hml : c.maxLocals = 1 := hml0
  have hown : s.vm.findClass "java/util/AbstractList" = some m.cls := findClass_of_methodNamed Bd.named
  have hnm := (name_of_methodNamed Bd.named Bd.method).1
  have X0 : Stand p l e ({ frames := 2, cells := 0, slots := 0, locals := 24 } : Room) s m #[(.ref a1)] below meth c s₁ [] 0 0 := Stand.of_body Bd
  have e0 : s₁.heap = h0 := by rw [← hh, Bd.state]; rfl
  have N0 := Fr.nil n0
  have main : own_To p l e ({ frames := 2, cells := 0, slots := 0, locals := 24 } : Room) s m #[(.ref a1)] below meth c s₁ (mkF m 0 #[.val (.ref a1)] []) (fun T' g' L kq zq => ∃ pcr Ls, g' = mkF m pcr Ls [] ∧ decode c.code pcr = .ok (.return_, 1) ∧ kq = 0 ∧ zq = 0 ∧ QABL Z a1 .null h0 n0 none T'.heap L) := by
    obtain ⟨Ex, Fe, Fs, Fm, ga⟩ := HA
    refine own_go (T1 := s₁) (g1 := (mkF m 1 #[.val (.ref a1)] [(.ref a1)])) (fun _ k => XS.aloadN X0.here hx rfl (hb hby dABL_0) rfl rfl k) ?_
    obtain ⟨_, _, ⟨T1, L1, k1, n1⟩, -, X1, ⟨Lc1, hQ1, l1, y1, z1⟩, st1⟩ := X0.specialBack hx (y := (⟨"java/util/AbstractCollection", "<init>", "()V"⟩ : MethodName)) rfl hown (mvT hZ (hw _ (List.mem_of_getElem? (i := 48) rfl))) (mvT hZ (hw _ (List.mem_of_getElem? (i := 49) rfl))) (mvT hZ (hw _ (List.mem_of_getElem? (i := 53) rfl))) (by decide) (backOf (W := 0) (rmABC l Z a0 hw [] a1 h0 n0 Z0) hZ (hw _ (List.mem_of_getElem? (i := 53) rfl)) (hw _ (List.mem_of_getElem? (i := 52) rfl)) (by decide) (by decide)) (g := (mkF m 1 #[.val (.ref a1)] [(.ref a1)])) rfl (by rw [hml]; rfl) (Steps.refl _) (a := a1) (argsL := []) (rest := []) (lenOf own_pd__V rfl) rfl (by show 2 * 0 + _ ≤ _; exact Nat.le_of_eq rfl) (hb hby dABL_1) (fun _ _ => ⟨rfl, e0, (by decide : 0 + 0 ≤ _), (by decide : 0 + 0 ≤ _)⟩)
    dsimp only [Pt.U, Pt.locs, Pt.cells, Pt.slots] at X1 l1 y1 z1 st1 hQ1
    subst l1 y1 z1
    obtain ⟨rfl, N1q, e1⟩ := hQ1
    have N1 := Fr.app N0 N1q
    refine own_go (T1 := T1) (g1 := (mkF m 4 #[.val (.ref a1)] [])) (fun t k => st1.trans k) ?_
    refine own_go (T1 := T1) (g1 := (mkF m 5 #[.val (.ref a1)] [(.ref a1)])) (fun _ k => XS.aloadN X1.here hx rfl (hb hby dABL_4) rfl rfl k) ?_
    refine own_go (T1 := T1) (g1 := (mkF m 6 #[.val (.ref a1)] [(.int (0 : Int32)), (.ref a1)])) (fun _ k => XS.iconst X1.here hx rfl (hb hby dABL_5) k) ?_
    obtain ⟨T2, h2, X2, e2, W2, st2⟩ := putF X1 hx hZ hown (host := "") (Or.inl (hw _ (List.mem_of_getElem? (i := 55) rfl))) Via.refl e1 Fm Ex (Or.inl (hw _ (List.mem_of_getElem? (i := 56) rfl))) (hw _ (List.mem_of_getElem? (i := 37) rfl)) (ty := .int) (by decide) rfl rfl (g := (mkF m 6 #[.val (.ref a1)] [(.int (0 : Int32)), (.ref a1)])) rfl rfl (hb hby dABL_6)
    have Ex_2 : Exa Z h2 a1 "java/util/ArrayList" := Ex.wr W2
    have Fe_2 : Fld Z h2 a1 "java/util/ArrayList" "elementData" "[Ljava/lang/Object;" .null := Fe.other W2 (Or.inr (slot_ne (Or.inl (hw _ (List.mem_of_getElem? (i := 59) rfl))) (Or.inl (hw _ (List.mem_of_getElem? (i := 56) rfl))) (by decide) (t := (.array (.object "java/lang/Object"))) (t' := .int) (by decide) (by decide)))
    have Fs_2 : Fld Z h2 a1 "java/util/ArrayList" "size" "I" (.int (0 : Int32)) := Fs.other W2 (Or.inr (slot_ne (Or.inl (hw _ (List.mem_of_getElem? (i := 72) rfl))) (Or.inl (hw _ (List.mem_of_getElem? (i := 56) rfl))) (by decide) (t := .int) (t' := .int) (by decide) (by decide)))
    have Fm_2 : Fld Z h2 a1 "java/util/AbstractList" "modCount" "I" (.int (0 : Int32)) := Fm.same W2
    have Zs2 : n0 ≤ h2.size := Nat.le_trans Z0 (Keep.of_wr W2).1
    have Kp2 : Keep h0 h2 [a1] := (Keep.refl h0 [a1]).wr W2 (Or.inl (by simp))
    have N2 := Fr.snoc X2 N1 ga
    refine own_go (T1 := T2) (g1 := (mkF m 9 #[.val (.ref a1)] [])) (fun t k => st2 t k) ?_
    exact ⟨T2, _, _, _, _, X2, ⟨9, _, rfl, (hb hby dABL_9), rfl, rfl, (by rw [e2]; exact ⟨rfl, N2, Kp2, ⟨Ex_2, Fe_2, Fs_2, Fm_2, ga⟩⟩)⟩, fun _ k => k⟩
  obtain ⟨T', g', L', k', n', X', ⟨pcr, Ls, rfl, hd, rfl, rfl, hQ⟩, st⟩ := main
  obtain ⟨fs, hr, hrun, hended, hW, hsame⟩ := X'.leave (v := none) (fun _ => rfl)
  refine ⟨_, _, castTop (ef_rmABL m a1) (st _ ?_), hrun, hended, _, _, rfl, hQ, ⟨_, rfl⟩, hW, hsame.mono (by decide) (by decide)⟩
  exact X'.returnOut hx Bd.returns hd hr
theorem dAL_0 : decode jdk_38_method_2_code 0 = .ok (.aload_n 0, 1) := by decide +kernel
theorem dAL_1 : decode jdk_38_method_2_code 1 = .ok (.invokespecial 1, 3) := by decide +kernel
theorem dAL_4 : decode jdk_38_method_2_code 4 = .ok (.aload_n 0, 1) := by decide +kernel
theorem dAL_5 : decode jdk_38_method_2_code 5 = .ok (.getstatic 39, 3) := by decide +kernel
theorem dAL_8 : decode jdk_38_method_2_code 8 = .ok (.putfield 9, 3) := by decide +kernel
theorem dAL_11 : decode jdk_38_method_2_code 11 = .ok (.return_, 1) := by decide +kernel
theorem ef_rmAL (m : MethodId) (a1 : Addr) : entryFrame m #[(.ref a1)] 1 = mkF m 0 #[.val (.ref a1)] [] := by first | (simp [entryFrame, mkF, argsToLocals, Value.category]; done) | rfl
set_option maxRecDepth 65536 in
set_option maxHeartbeats 4000000 in
theorem rmAL (l : Launch) (Z : State) (a0 : Array Value) (hw : ∀ d ∈ tables_1, d.before a0 Z = true) (ws : List Jvm.Cond) (a1 d0 : Addr) (h0 : Heap) (n0 : Nat) (Z0 : n0 ≤ h0.size) (HA : own_AL Z h0 n0 a1 .null 0 0) (Sd : Sta Z h0 "java/util/ArrayList" "DEFAULTCAPACITY_EMPTY_ELEMENTDATA" "[Ljava/lang/Object;" (.ref d0)) :
    MetFree l (⟨"java/util/ArrayList", "<init>", "()V"⟩ : MethodName) (head1 (Jvm.Cond.code (⟨"java/util/ArrayList", "<init>", "()V"⟩ : MethodName) jdk_38_method_2_code 1 none :: ws) ({ frames := 3, cells := 0, slots := 0, locals := 36 } : Room)) (fun a U => a = #[(.ref a1)] ∧ Z.Warmed39 U.vm ∧ U.heap = h0) (fun _ _ _ _ _ => True) (fun _ U o U' => ∃ v L, o = .returned v ∧ QABL Z a1 (.ref d0) h0 n0 v U'.heap L ∧ FrameEnd U o U' L ({ frames := 3, cells := 0, slots := 0, locals := 36 } : Room).cells ({ frames := 3, cells := 0, slots := 0, locals := 36 } : Room).slots) := by
  refine MetFree.of_bodySF (plainFor_of_name (by first | (simp [plainName, overriddenIn]; done) | decide +kernel)) hisR ?_
  intro p e s m args below meth c s₁ Bd hml0 hP hK
  obtain ⟨rfl, hZ, hh⟩ := hP
  have hx := Bd.exec
  have hby := Bd.bytes
  have hml : c.maxLocals = 1 := hml0
  have hown : s.vm.findClass "java/util/ArrayList" = some m.cls := findClass_of_methodNamed Bd.named
  have hnm := (name_of_methodNamed Bd.named Bd.method).1
  have X0 : Stand p l e ({ frames := 3, cells := 0, slots := 0, locals := 36 } : Room) s m #[(.ref a1)] below meth c s₁ [] 0 0 := Stand.of_body Bd
  have e0 : s₁.heap = h0 := by rw [← hh, Bd.state]; rfl
  have N0 := Fr.nil n0
  have main : own_To p l e ({ frames := 3, cells := 0, slots := 0, locals := 36 } : Room) s m #[(.ref a1)] below meth c s₁ (mkF m 0 #[.val (.ref a1)] []) (fun T' g' L kq zq => ∃ pcr Ls, g' = mkF m pcr Ls [] ∧ decode c.code pcr = .ok (.return_, 1) ∧ kq = 0 ∧ zq = 0 ∧ QABL Z a1 (.ref d0) h0 n0 none T'.heap L) := by
    have HA0 := HA
    obtain ⟨Ex, Fe, Fs, Fm, ga⟩ := HA
    refine own_go (T1 := s₁) (g1 := (mkF m 1 #[.val (.ref a1)] [(.ref a1)])) (fun _ k => XS.aloadN X0.here hx rfl (hb hby dAL_0) rfl rfl k) ?_
    obtain ⟨_, _, ⟨T1, L1, k1, n1⟩, -, X1, ⟨Lc1, hQ1, l1, y1, z1⟩, st1⟩ := X0.specialBack hx (y := (⟨"java/util/AbstractList", "<init>", "()V"⟩ : MethodName)) rfl hown (mvT hZ (hw _ (List.mem_of_getElem? (i := 42) rfl))) (mvT hZ (hw _ (List.mem_of_getElem? (i := 43) rfl))) (mvT hZ (hw _ (List.mem_of_getElem? (i := 47) rfl))) (by decide) (backOf (W := 0) (rmABL l Z a0 hw [] a1 h0 n0 Z0 HA0) hZ (hw _ (List.mem_of_getElem? (i := 47) rfl)) (hw _ (List.mem_of_getElem? (i := 46) rfl)) (by decide) (by decide)) (g := (mkF m 1 #[.val (.ref a1)] [(.ref a1)])) rfl (by rw [hml]; rfl) (Steps.refl _) (a := a1) (argsL := []) (rest := []) (lenOf own_pd__V rfl) rfl (by show 2 * 0 + _ ≤ _; exact Nat.le_of_eq rfl) (hb hby dAL_1) (fun _ _ => ⟨rfl, e0, (by decide : 0 + 0 ≤ _), (by decide : 0 + 0 ≤ _)⟩)
    dsimp only [Pt.U, Pt.locs, Pt.cells, Pt.slots] at X1 l1 y1 z1 st1 hQ1
    subst l1 y1 z1
    obtain ⟨rfl, N1q, K1, HA1⟩ := hQ1
    have N1 := Fr.app N0 N1q
    refine own_go (T1 := T1) (g1 := (mkF m 4 #[.val (.ref a1)] [])) (fun t k => st1.trans k) ?_
    have Sd1 : Sta Z T1.heap "java/util/ArrayList" "DEFAULTCAPACITY_EMPTY_ELEMENTDATA" "[Ljava/lang/Object;" (.ref d0) := own_staKeep Sd K1 Ex
    obtain ⟨Ex1, Fe1, Fs1, Fm1, ga1⟩ := HA1
    refine own_go (T1 := T1) (g1 := (mkF m 5 #[.val (.ref a1)] [(.ref a1)])) (fun _ k => XS.aloadN X1.here hx rfl (hb hby dAL_4) rfl rfl k) ?_
    obtain ⟨T2, X2, e2, st2⟩ := getS2 X1 hx hZ hown (host := "") (Or.inl (hw _ (List.mem_of_getElem? (i := 57) rfl))) Via.refl rfl Sd1 (g := (mkF m 5 #[.val (.ref a1)] [(.ref a1)])) rfl (hb hby dAL_5)
    refine own_go (T1 := T2) (g1 := (mkF m 8 #[.val (.ref a1)] [(.ref d0), (.ref a1)])) (fun t k => st2 t k) ?_
    obtain ⟨T3, h3, X3, e3, W3, st3⟩ := putF X2 hx hZ hown (host := "") (Or.inl (hw _ (List.mem_of_getElem? (i := 58) rfl))) Via.refl e2 Fe1 Ex1 (Or.inl (hw _ (List.mem_of_getElem? (i := 59) rfl))) (hw _ (List.mem_of_getElem? (i := 37) rfl)) (ty := (.array (.object "java/lang/Object"))) (by decide) rfl rfl (g := (mkF m 8 #[.val (.ref a1)] [(.ref d0), (.ref a1)])) rfl rfl (hb hby dAL_8)
    have Sd_3 : Sta Z h3 "java/util/ArrayList" "DEFAULTCAPACITY_EMPTY_ELEMENTDATA" "[Ljava/lang/Object;" (.ref d0) := Sd1.wr W3
    have Ex_3 : Exa Z h3 a1 "java/util/ArrayList" := Ex1.wr W3
    have Fs_3 : Fld Z h3 a1 "java/util/ArrayList" "size" "I" (.int (0 : Int32)) := Fs1.other W3 (Or.inr (slot_ne (Or.inl (hw _ (List.mem_of_getElem? (i := 72) rfl))) (Or.inl (hw _ (List.mem_of_getElem? (i := 59) rfl))) (by decide) (t := .int) (t' := (.array (.object "java/lang/Object"))) (by decide) (by decide)))
    have Fm_3 : Fld Z h3 a1 "java/util/AbstractList" "modCount" "I" (.int (0 : Int32)) := Fm1.other W3 (Or.inr (slot_ne (Or.inl (hw _ (List.mem_of_getElem? (i := 56) rfl))) (Or.inl (hw _ (List.mem_of_getElem? (i := 59) rfl))) (by decide) (t := .int) (t' := (.array (.object "java/lang/Object"))) (by decide) (by decide)))
    have Fe_3 : Fld Z h3 a1 "java/util/ArrayList" "elementData" "[Ljava/lang/Object;" (.ref d0) := Fe1.same W3
    have Zs3 : n0 ≤ h3.size := Nat.le_trans (Nat.le_trans Z0 K1.1) (Keep.of_wr W3).1
    have Kp3 : Keep h0 h3 [a1] := K1.wr W3 (Or.inl (by simp))
    have N3 := Fr.snoc X3 N1 ga1
    refine own_go (T1 := T3) (g1 := (mkF m 11 #[.val (.ref a1)] [])) (fun t k => st3 t k) ?_
    exact ⟨T3, _, _, _, _, X3, ⟨11, _, rfl, (hb hby dAL_11), rfl, rfl, (by rw [e3]; exact ⟨rfl, N3, Kp3, ⟨Ex_3, Fe_3, Fs_3, Fm_3, ga1⟩⟩)⟩, fun _ k => k⟩
  obtain ⟨T', g', L', k', n', X', ⟨pcr, Ls, rfl, hd, rfl, rfl, hQ⟩, st⟩ := main
  obtain ⟨fs, hr, hrun, hended, hW, hsame⟩ := X'.leave (v := none) (fun _ => rfl)
  refine ⟨_, _, castTop (ef_rmAL m a1) (st _ ?_), hrun, hended, _, _, rfl, hQ, ⟨_, rfl⟩, hW, hsame.mono (by decide) (by decide)⟩
  exact X'.returnOut hx Bd.returns hd hr
def Qmx (h0 : Heap) (n0 : Nat) (v : Option Value) (h : Heap) (L : List Loc) : Prop := v = some (.int 10) ∧ Fr n0 L ∧ h = h0
theorem dmx_0 : decode jdk_29_method_65_code 0 = .ok (.iload_n 0, 1) := by decide +kernel
theorem dmx_1 : decode jdk_29_method_65_code 1 = .ok (.iload_n 1, 1) := by decide +kernel
theorem dmx_2 : decode jdk_29_method_65_code 2 = .ok (.if_icmp .lt 7, 3) := by decide +kernel
theorem dmx_5 : decode jdk_29_method_65_code 5 = .ok (.iload_n 0, 1) := by decide +kernel
theorem dmx_6 : decode jdk_29_method_65_code 6 = .ok (.goto 4, 3) := by decide +kernel
theorem dmx_10 : decode jdk_29_method_65_code 10 = .ok (.ireturn, 1) := by decide +kernel
theorem ef_rmmx (m : MethodId)  : entryFrame m #[(.int (10 : Int32)), (.int (1 : Int32))] 2 = mkF m 0 #[.val (.int (10 : Int32)), .val (.int (1 : Int32))] [] := by first | (simp [entryFrame, mkF, argsToLocals, Value.category]; done) | rfl
set_option maxRecDepth 65536 in
set_option maxHeartbeats 4000000 in
theorem rmmx (l : Launch) (Z : State) (a0 : Array Value) (hw : ∀ d ∈ tables_1, d.before a0 Z = true) (ws : List Jvm.Cond)  (h0 : Heap) (n0 : Nat) (Z0 : n0 ≤ h0.size)  :
    MetFree l (⟨"java/lang/Math", "max", "(II)I"⟩ : MethodName) (head1 (Jvm.Cond.code (⟨"java/lang/Math", "max", "(II)I"⟩ : MethodName) jdk_29_method_65_code 2 (some .int) :: ws) ({ frames := 0, cells := 0, slots := 0, locals := 0 } : Room)) (fun a U => a = #[(.int (10 : Int32)), (.int (1 : Int32))] ∧ Z.Warmed39 U.vm ∧ U.heap = h0) (fun _ _ _ _ _ => True) (fun _ U o U' => ∃ v L, o = .returned v ∧ Qmx h0 n0 v U'.heap L ∧ FrameEnd U o U' L ({ frames := 0, cells := 0, slots := 0, locals := 0 } : Room).cells ({ frames := 0, cells := 0, slots := 0, locals := 0 } : Room).slots) := by
  refine MetFree.of_bodySF (Jvm.Free.JP.mathPlain rfl (by decide +kernel)) hisR ?_
  intro p e s m args below meth c s₁ Bd hml0 hP hK
  obtain ⟨rfl, hZ, hh⟩ := hP
  have hx := Bd.exec
  have hby := Bd.bytes
  have hml : c.maxLocals = 2 := hml0
  have hown : s.vm.findClass "java/lang/Math" = some m.cls := findClass_of_methodNamed Bd.named
  have hnm := (name_of_methodNamed Bd.named Bd.method).1
  have X0 : Stand p l e ({ frames := 0, cells := 0, slots := 0, locals := 0 } : Room) s m #[(.int (10 : Int32)), (.int (1 : Int32))] below meth c s₁ [] 0 0 := Stand.of_body Bd
  have e0 : s₁.heap = h0 := by rw [← hh, Bd.state]; rfl
  have N0 := Fr.nil n0
  have main : own_To p l e ({ frames := 0, cells := 0, slots := 0, locals := 0 } : Room) s m #[(.int (10 : Int32)), (.int (1 : Int32))] below meth c s₁ (mkF m 0 #[.val (.int (10 : Int32)), .val (.int (1 : Int32))] []) (fun T' g' L kq zq => ∃ pcr Ls z, g' = mkF m pcr Ls [.int z] ∧ decode c.code pcr = .ok (.ireturn, 1) ∧ kq = 0 ∧ zq = 0 ∧ Qmx h0 n0 (some (.int z)) T'.heap L) := by
    refine own_go (T1 := s₁) (g1 := (mkF m 1 #[.val (.int (10 : Int32)), .val (.int (1 : Int32))] [(.int (10 : Int32))])) (fun _ k => XS.iloadN X0.here hx rfl (hb hby dmx_0) rfl k) ?_
    refine own_go (T1 := s₁) (g1 := (mkF m 2 #[.val (.int (10 : Int32)), .val (.int (1 : Int32))] [(.int (1 : Int32)), (.int (10 : Int32))])) (fun _ k => XS.iloadN X0.here hx rfl (hb hby dmx_1) rfl k) ?_
    refine own_go (T1 := s₁) (g1 := (mkF m 5 #[.val (.int (10 : Int32)), .val (.int (1 : Int32))] [])) (fun _ k => XS.icmpNo X0.here hx rfl (hb hby dmx_2) rfl (flt ((by decide) : ¬ ((10 : Int32) < (1 : Int32)))).1 k) ?_
    refine own_go (T1 := s₁) (g1 := (mkF m 6 #[.val (.int (10 : Int32)), .val (.int (1 : Int32))] [(.int (10 : Int32))])) (fun _ k => XS.iloadN X0.here hx rfl (hb hby dmx_5) rfl k) ?_
    refine own_go (T1 := s₁) (g1 := (mkF m 10 #[.val (.int (10 : Int32)), .val (.int (1 : Int32))] [(.int (10 : Int32))])) (fun _ k => XS.goto X0.here hx rfl (pc0 := 6) (pc' := 10) rfl (hb hby dmx_6) (by decide) (by decide) k) ?_
    exact ⟨s₁, _, _, _, _, X0, ⟨10, _, (10 : Int32), rfl, (hb hby dmx_10), rfl, rfl, (by rw [e0]; exact ⟨rfl, N0, rfl⟩)⟩, fun _ k => k⟩
  obtain ⟨T', g', L', k', n', X', ⟨pcr, Ls, z, rfl, hd, rfl, rfl, hQ⟩, st⟩ := main
  obtain ⟨fs, hr, hrun, hended, hW, hsame⟩ := X'.leave (v := (some (.int z))) (fun h => by rw [Bd.returns] at h; cases h)
  refine ⟨_, _, castTop (ef_rmmx m ) (st _ ?_), hrun, hended, _, _, rfl, hQ, ⟨_, rfl⟩, hW, hsame.mono (by decide) (by decide)⟩
  exact retI X' hx Bd.returns hd hr
def Qg (Z : State) (a1 : Addr) (mc : Int32) (h0 : Heap) (n0 : Nat) (v : Option Value) (h : Heap) (L : List Loc) : Prop := ∃ (b : Addr) (k : ClassId), v = some (.ref b) ∧ Fr n0 L ∧ Keep h0 h [a1] ∧ h0.size ≤ b ∧ n0 ≤ b ∧ own_AL Z h n0 a1 (.ref b) 0 mc ∧ Arv Z h b k (.object "java/lang/Object") (10 : Int32) [] .null ∧ Ovr Z k "java/lang/Object"
theorem own_pd_II_I : parseMethodDescriptor "(II)I" = some ⟨[.int, .int], some .int⟩ := by decide +kernel
theorem dg1_0 : decode jdk_38_method_6_code 0 = .ok (.aload_n 0, 1) := by decide +kernel
theorem dg1_1 : decode jdk_38_method_6_code 1 = .ok (.getfield 9, 3) := by decide +kernel
theorem dg1_4 : decode jdk_38_method_6_code 4 = .ok (.arraylength, 1) := by decide +kernel
theorem dg1_5 : decode jdk_38_method_6_code 5 = .ok (.istore_n 2, 1) := by decide +kernel
theorem dg1_6 : decode jdk_38_method_6_code 6 = .ok (.iload_n 2, 1) := by decide +kernel
theorem dg1_7 : decode jdk_38_method_6_code 7 = .ok (.ifCond .gt 13, 3) := by decide +kernel
theorem dg1_10 : decode jdk_38_method_6_code 10 = .ok (.aload_n 0, 1) := by decide +kernel
theorem dg1_11 : decode jdk_38_method_6_code 11 = .ok (.getfield 9, 3) := by decide +kernel
theorem dg1_14 : decode jdk_38_method_6_code 14 = .ok (.getstatic 39, 3) := by decide +kernel
theorem dg1_17 : decode jdk_38_method_6_code 17 = .ok (.if_acmp .eq 28, 3) := by decide +kernel
theorem dg1_45 : decode jdk_38_method_6_code 45 = .ok (.aload_n 0, 1) := by decide +kernel
theorem dg1_46 : decode jdk_38_method_6_code 46 = .ok (.bipush 10, 2) := by decide +kernel
theorem dg1_48 : decode jdk_38_method_6_code 48 = .ok (.iload_n 1, 1) := by decide +kernel
theorem dg1_49 : decode jdk_38_method_6_code 49 = .ok (.invokestatic 79, 3) := by decide +kernel
theorem dg1_52 : decode jdk_38_method_6_code 52 = .ok (.anewarray 7, 3) := by decide +kernel
theorem dg1_55 : decode jdk_38_method_6_code 55 = .ok (.dup_x1, 1) := by decide +kernel
theorem dg1_56 : decode jdk_38_method_6_code 56 = .ok (.putfield 9, 3) := by decide +kernel
theorem dg1_59 : decode jdk_38_method_6_code 59 = .ok (.areturn, 1) := by decide +kernel
theorem ef_rmg1 (m : MethodId) (a1 : Addr) : entryFrame m #[(.ref a1), (.int (1 : Int32))] 4 = mkF m 0 #[.val (.ref a1), .val (.int (1 : Int32)), .unset, .unset] [] := by first | (simp [entryFrame, mkF, argsToLocals, Value.category]; done) | rfl
set_option maxRecDepth 65536 in
set_option maxHeartbeats 4000000 in
theorem rmg1 (l : Launch) (Z : State) (a0 : Array Value) (hw : ∀ d ∈ tables_1, d.before a0 Z = true) (ws : List Jvm.Cond) (a1 d0 : Addr) (kd : ClassId) (mc : Int32) (h0 : Heap) (n0 : Nat) (Z0 : n0 ≤ h0.size) (HA : own_AL Z h0 n0 a1 (.ref d0) 0 mc) (Sd : Sta Z h0 "java/util/ArrayList" "DEFAULTCAPACITY_EMPTY_ELEMENTDATA" "[Ljava/lang/Object;" (.ref d0)) (Vd : Arv Z h0 d0 kd (.object "java/lang/Object") (0 : Int32) [] .null) (nd : d0 ≠ a1) :
    MetFree l (⟨"java/util/ArrayList", "grow", "(I)[Ljava/lang/Object;"⟩ : MethodName) (head1 (Jvm.Cond.code (⟨"java/util/ArrayList", "grow", "(I)[Ljava/lang/Object;"⟩ : MethodName) jdk_38_method_6_code 4 (some (.array (.object "java/lang/Object"))) :: ws) ({ frames := 1, cells := 1, slots := 10, locals := 14 } : Room)) (fun a U => a = #[(.ref a1), (.int (1 : Int32))] ∧ Z.Warmed39 U.vm ∧ U.heap = h0) (fun _ _ _ _ _ => True) (fun _ U o U' => ∃ v L, o = .returned v ∧ Qg Z a1 mc h0 n0 v U'.heap L ∧ FrameEnd U o U' L ({ frames := 1, cells := 1, slots := 10, locals := 14 } : Room).cells ({ frames := 1, cells := 1, slots := 10, locals := 14 } : Room).slots) := by
  refine MetFree.of_bodySF (plainFor_of_name (by first | (simp [plainName, overriddenIn]; done) | decide +kernel)) hisR ?_
  intro p e s m args below meth c s₁ Bd hml0 hP hK
  obtain ⟨rfl, hZ, hh⟩ := hP
  have hx := Bd.exec
  have hby := Bd.bytes
  have hml : c.maxLocals = 4 := hml0
  have hown : s.vm.findClass "java/util/ArrayList" = some m.cls := findClass_of_methodNamed Bd.named
  have hnm := (name_of_methodNamed Bd.named Bd.method).1
  have X0 : Stand p l e ({ frames := 1, cells := 1, slots := 10, locals := 14 } : Room) s m #[(.ref a1), (.int (1 : Int32))] below meth c s₁ [] 0 0 := Stand.of_body Bd
  have e0 : s₁.heap = h0 := by rw [← hh, Bd.state]; rfl
  have N0 := Fr.nil n0
  have main : own_To p l e ({ frames := 1, cells := 1, slots := 10, locals := 14 } : Room) s m #[(.ref a1), (.int (1 : Int32))] below meth c s₁ (mkF m 0 #[.val (.ref a1), .val (.int (1 : Int32)), .unset, .unset] []) (fun T' g' L kq zq => ∃ pcr Ls z, g' = mkF m pcr Ls [.ref z] ∧ decode c.code pcr = .ok (.areturn, 1) ∧ kq = 1 ∧ zq = 10 ∧ Qg Z a1 mc h0 n0 (some (.ref z)) T'.heap L) := by
    obtain ⟨Ex, Fe, Fs, Fm, ga⟩ := HA
    refine own_go (T1 := s₁) (g1 := (mkF m 1 #[.val (.ref a1), .val (.int (1 : Int32)), .unset, .unset] [(.ref a1)])) (fun _ k => XS.aloadN X0.here hx rfl (hb hby dg1_0) rfl rfl k) ?_
    obtain ⟨T1, X1, e1, st1⟩ := getF X0 hx hZ hown (host := "") (Or.inl (hw _ (List.mem_of_getElem? (i := 58) rfl))) Via.refl e0 Fe (g := (mkF m 1 #[.val (.ref a1), .val (.int (1 : Int32)), .unset, .unset] [(.ref a1)])) rfl rfl (hb hby dg1_1)
    refine own_go (T1 := T1) (g1 := (mkF m 4 #[.val (.ref a1), .val (.int (1 : Int32)), .unset, .unset] [(.ref d0)])) (fun t k => st1 t k) ?_
    obtain ⟨cl2, Ar2, -, S2, N2, -, -⟩ := id Vd
    refine own_go (T1 := T1) (g1 := (mkF m 5 #[.val (.ref a1), .val (.int (1 : Int32)), .unset, .unset] [(.int (0 : Int32))])) (fun _ k => X1.arraylength hx (by rw [e1]; exact Ar2.1) (State.isArrayOf_alike hZ.alike Ar2.2.1) (g := (mkF m 4 #[.val (.ref a1), .val (.int (1 : Int32)), .unset, .unset] [(.ref d0)])) rfl rfl (hb hby dg1_4) _ (by rw [len_of S2 N2]; exact k)) ?_
    refine own_go (T1 := T1) (g1 := (mkF m 6 #[.val (.ref a1), .val (.int (1 : Int32)), .val (.int (0 : Int32)), .unset] [])) (fun _ k => XS.istoreN X1.here hx rfl (hb hby dg1_5) rfl (l' := #[.val (.ref a1), .val (.int (1 : Int32)), .val (.int (0 : Int32)), .unset]) rfl k) ?_
    refine own_go (T1 := T1) (g1 := (mkF m 7 #[.val (.ref a1), .val (.int (1 : Int32)), .val (.int (0 : Int32)), .unset] [(.int (0 : Int32))])) (fun _ k => XS.iloadN X1.here hx rfl (hb hby dg1_6) rfl k) ?_
    refine own_go (T1 := T1) (g1 := (mkF m 10 #[.val (.ref a1), .val (.int (1 : Int32)), .val (.int (0 : Int32)), .unset] [])) (fun _ k => XS.ifNo X1.here hx rfl (hb hby dg1_7) rfl ((if0 _ _).trans (flt ((by decide) : ¬ ((0 : Int32) < (0 : Int32)))).2.2.1) k) ?_
    refine own_go (T1 := T1) (g1 := (mkF m 11 #[.val (.ref a1), .val (.int (1 : Int32)), .val (.int (0 : Int32)), .unset] [(.ref a1)])) (fun _ k => XS.aloadN X1.here hx rfl (hb hby dg1_10) rfl rfl k) ?_
    obtain ⟨T3, X3, e3, st3⟩ := getF X1 hx hZ hown (host := "") (Or.inl (hw _ (List.mem_of_getElem? (i := 58) rfl))) Via.refl e1 Fe (g := (mkF m 11 #[.val (.ref a1), .val (.int (1 : Int32)), .val (.int (0 : Int32)), .unset] [(.ref a1)])) rfl rfl (hb hby dg1_11)
    refine own_go (T1 := T3) (g1 := (mkF m 14 #[.val (.ref a1), .val (.int (1 : Int32)), .val (.int (0 : Int32)), .unset] [(.ref d0)])) (fun t k => st3 t k) ?_
    obtain ⟨T4, X4, e4, st4⟩ := getS2 X3 hx hZ hown (host := "") (Or.inl (hw _ (List.mem_of_getElem? (i := 57) rfl))) Via.refl e3 Sd (g := (mkF m 14 #[.val (.ref a1), .val (.int (1 : Int32)), .val (.int (0 : Int32)), .unset] [(.ref d0)])) rfl (hb hby dg1_14)
    refine own_go (T1 := T4) (g1 := (mkF m 17 #[.val (.ref a1), .val (.int (1 : Int32)), .val (.int (0 : Int32)), .unset] [(.ref d0), (.ref d0)])) (fun t k => st4 t k) ?_
    refine own_go (T1 := T4) (g1 := (mkF m 45 #[.val (.ref a1), .val (.int (1 : Int32)), .val (.int (0 : Int32)), .unset] [])) (fun _ k => Jvm.RoadKit.acmp (g := (mkF m 17 #[.val (.ref a1), .val (.int (1 : Int32)), .val (.int (0 : Int32)), .unset] [(.ref d0), (.ref d0)])) X4 hx rfl rfl rfl (pc0 := 17) (pc' := 45) (same := true) rfl (hb hby dg1_17) rfl (decide_eq_true rfl) (by decide) (by decide) k) ?_
    refine own_go (T1 := T4) (g1 := (mkF m 46 #[.val (.ref a1), .val (.int (1 : Int32)), .val (.int (0 : Int32)), .unset] [(.ref a1)])) (fun _ k => XS.aloadN X4.here hx rfl (hb hby dg1_45) rfl rfl k) ?_
    refine own_go (T1 := T4) (g1 := (mkF m 48 #[.val (.ref a1), .val (.int (1 : Int32)), .val (.int (0 : Int32)), .unset] [(.int (10 : Int32)), (.ref a1)])) (fun _ k => XS.bipush X4.here hx rfl (hb hby dg1_46) k) ?_
    refine own_go (T1 := T4) (g1 := (mkF m 49 #[.val (.ref a1), .val (.int (1 : Int32)), .val (.int (0 : Int32)), .unset] [(.int (1 : Int32)), (.int (10 : Int32)), (.ref a1)])) (fun _ k => XS.iloadN X4.here hx rfl (hb hby dg1_48) rfl k) ?_
    obtain ⟨_, _, ⟨T5, L5, k5, n5⟩, -, X5, ⟨Lc5, hQ5, l5, y5, z5⟩, st5⟩ := Jvm.LawKit.callS X4 hx (y := (⟨"java/lang/Math", "max", "(II)I"⟩ : MethodName)) hown (mvT hZ (hw _ (List.mem_of_getElem? (i := 88) rfl))) (mvT hZ (hw _ (List.mem_of_getElem? (i := 89) rfl))) (mvT hZ (hw _ (List.mem_of_getElem? (i := 90) rfl))) (mvT hZ (hw _ (List.mem_of_getElem? (i := 91) rfl))) (by decide) (backOf (W := 1) (rmmx l Z a0 hw []  h0 n0 Z0) hZ (hw _ (List.mem_of_getElem? (i := 91) rfl)) (hw _ (List.mem_of_getElem? (i := 90) rfl)) (by decide) (by decide)) (g := (mkF m 49 #[.val (.ref a1), .val (.int (1 : Int32)), .val (.int (0 : Int32)), .unset] [(.int (1 : Int32)), (.int (10 : Int32)), (.ref a1)])) rfl (by rw [hml]; rfl) (argsL := [(.int (10 : Int32)), (.int (1 : Int32))]) (rest := [(.ref a1)]) (lenOf own_pd_II_I rfl) rfl (by show 2 * 0 + _ ≤ _; exact Nat.le_of_eq rfl) (hb hby dg1_49) (fun _ _ => ⟨rfl, e4, (by decide : 0 + 0 ≤ _), (by decide : 0 + 0 ≤ _)⟩)
    dsimp only [Pt.U, Pt.locs, Pt.cells, Pt.slots] at X5 l5 y5 z5 st5 hQ5
    subst l5 y5 z5
    obtain ⟨rfl, N5q, e5⟩ := hQ5
    have N5 := Fr.app N0 N5q
    refine own_go (T1 := T5) (g1 := (mkF m 52 #[.val (.ref a1), .val (.int (1 : Int32)), .val (.int (0 : Int32)), .unset] [(.int (10 : Int32)), (.ref a1)])) (fun t k => st5 t k) ?_
    obtain ⟨T6, h6, k6, X6, e6, E6, A6, O6, st6⟩ := newR X5 hx hZ hown (hw _ (List.mem_of_getElem? (i := 92) rfl)) (hw _ (List.mem_of_getElem? (i := 93) rfl)) e5 (g := (mkF m 52 #[.val (.ref a1), .val (.int (1 : Int32)), .val (.int (0 : Int32)), .unset] [(.int (10 : Int32)), (.ref a1)])) rfl (hb hby dg1_52) rfl (by decide) (cap := 10) (by decide) (by decide) (by decide) (by decide)
    obtain ⟨b6, g6⟩ : ∃ z, z = h0.size := ⟨_, rfl⟩
    rw [← g6] at A6 st6
    have ne_d0_b6 : d0 ≠ b6 := Nat.ne_of_lt (Nat.lt_of_lt_of_le Vd.lt (Nat.le_of_eq g6.symm))
    have ne_a1_b6 : a1 ≠ b6 := Nat.ne_of_lt (Nat.lt_of_lt_of_le Ex.lt (Nat.le_of_eq g6.symm))
    have ge_b6 : n0 ≤ b6 := Nat.le_trans Z0 (Nat.le_of_eq g6.symm)
    have sz_b6 : h0.size ≤ b6 := Nat.le_trans (Keep.refl h0 [a1]).1 (Nat.le_of_eq g6.symm)
    have Sd_6 : Sta Z h6 "java/util/ArrayList" "DEFAULTCAPACITY_EMPTY_ELEMENTDATA" "[Ljava/lang/Object;" (.ref d0) := Sd.ext E6
    have Vd_6 : Arv Z h6 d0 kd (.object "java/lang/Object") (0 : Int32) [] .null := Vd.ext E6
    have Ex_6 : Exa Z h6 a1 "java/util/ArrayList" := Ex.ext E6
    have Fe_6 : Fld Z h6 a1 "java/util/ArrayList" "elementData" "[Ljava/lang/Object;" (.ref d0) := Fe.ext E6
    have Fs_6 : Fld Z h6 a1 "java/util/ArrayList" "size" "I" (.int (0 : Int32)) := Fs.ext E6
    have Fm_6 : Fld Z h6 a1 "java/util/AbstractList" "modCount" "I" (.int mc) := Fm.ext E6
    have Zs6 : n0 ≤ h6.size := Nat.le_trans Z0 E6.1
    have Kp6 : Keep h0 h6 [a1] := (Keep.refl h0 [a1]).ext E6
    have Vb6_6 : Arv Z h6 b6 k6 (.object "java/lang/Object") (10 : Int32) [] .null := Arv.new A6 (by decide)
    refine own_go (T1 := T6) (g1 := (mkF m 55 #[.val (.ref a1), .val (.int (1 : Int32)), .val (.int (0 : Int32)), .unset] [(.ref b6), (.ref a1)])) (fun t k => st6 t k) ?_
    refine own_go (T1 := T6) (g1 := (mkF m 56 #[.val (.ref a1), .val (.int (1 : Int32)), .val (.int (0 : Int32)), .unset] [(.ref b6), (.ref a1), (.ref b6)])) (fun _ k => XS.dupX1 X6.here hx rfl (hb hby dg1_55) rfl rfl rfl k) ?_
    obtain ⟨T7, h7, X7, e7, W7, st7⟩ := putF X6 hx hZ hown (host := "") (Or.inl (hw _ (List.mem_of_getElem? (i := 58) rfl))) Via.refl e6 Fe_6 Ex_6 (Or.inl (hw _ (List.mem_of_getElem? (i := 59) rfl))) (hw _ (List.mem_of_getElem? (i := 37) rfl)) (ty := (.array (.object "java/lang/Object"))) (by decide) rfl rfl (g := (mkF m 56 #[.val (.ref a1), .val (.int (1 : Int32)), .val (.int (0 : Int32)), .unset] [(.ref b6), (.ref a1), (.ref b6)])) rfl rfl (hb hby dg1_56)
    have Sd_7 : Sta Z h7 "java/util/ArrayList" "DEFAULTCAPACITY_EMPTY_ELEMENTDATA" "[Ljava/lang/Object;" (.ref d0) := Sd_6.wr W7
    have Vd_7 : Arv Z h7 d0 kd (.object "java/lang/Object") (0 : Int32) [] .null := Vd_6.other W7 nd
    have Ex_7 : Exa Z h7 a1 "java/util/ArrayList" := Ex_6.wr W7
    have Fs_7 : Fld Z h7 a1 "java/util/ArrayList" "size" "I" (.int (0 : Int32)) := Fs_6.other W7 (Or.inr (slot_ne (Or.inl (hw _ (List.mem_of_getElem? (i := 72) rfl))) (Or.inl (hw _ (List.mem_of_getElem? (i := 59) rfl))) (by decide) (t := .int) (t' := (.array (.object "java/lang/Object"))) (by decide) (by decide)))
    have Fm_7 : Fld Z h7 a1 "java/util/AbstractList" "modCount" "I" (.int mc) := Fm_6.other W7 (Or.inr (slot_ne (Or.inl (hw _ (List.mem_of_getElem? (i := 56) rfl))) (Or.inl (hw _ (List.mem_of_getElem? (i := 59) rfl))) (by decide) (t := .int) (t' := (.array (.object "java/lang/Object"))) (by decide) (by decide)))
    have Vb6_7 : Arv Z h7 b6 k6 (.object "java/lang/Object") (10 : Int32) [] .null := Vb6_6.other W7 (Ne.symm ne_a1_b6)
    have Fe_7 : Fld Z h7 a1 "java/util/ArrayList" "elementData" "[Ljava/lang/Object;" (.ref b6) := Fe_6.same W7
    have Zs7 : n0 ≤ h7.size := Nat.le_trans Zs6 (Keep.of_wr W7).1
    have Kp7 : Keep h0 h7 [a1] := Kp6.wr W7 (Or.inl (by simp))
    have N7 := Fr.snoc X7 N5 ga
    refine own_go (T1 := T7) (g1 := (mkF m 59 #[.val (.ref a1), .val (.int (1 : Int32)), .val (.int (0 : Int32)), .unset] [(.ref b6)])) (fun t k => st7 t k) ?_
    exact ⟨T7, _, _, _, _, X7, ⟨59, _, b6, rfl, (hb hby dg1_59), rfl, rfl, (by rw [e7]; exact ⟨b6, _, rfl, N7, Kp7, sz_b6, ge_b6, ⟨Ex_7, Fe_7, Fs_7, Fm_7, ga⟩, Vb6_7, O6⟩)⟩, fun _ k => k⟩
  obtain ⟨T', g', L', k', n', X', ⟨pcr, Ls, z, rfl, hd, rfl, rfl, hQ⟩, st⟩ := main
  obtain ⟨fs, hr, hrun, hended, hW, hsame⟩ := X'.leave (v := (some (.ref z))) (fun h => by rw [Bd.returns] at h; cases h)
  refine ⟨_, _, castTop (ef_rmg1 m a1) (st _ ?_), hrun, hended, _, _, rfl, hQ, ⟨_, rfl⟩, hW, hsame.mono (by decide) (by decide)⟩
  exact own_retA X' hx Bd.returns rfl hd hr
theorem own_pd_I_ALjavaxlangxObjectx : parseMethodDescriptor "(I)[Ljava/lang/Object;" = some ⟨[.int], some (.array (.object "java/lang/Object"))⟩ := by decide +kernel
theorem dg0_0 : decode jdk_38_method_7_code 0 = .ok (.aload_n 0, 1) := by decide +kernel
theorem dg0_1 : decode jdk_38_method_7_code 1 = .ok (.aload_n 0, 1) := by decide +kernel
theorem dg0_2 : decode jdk_38_method_7_code 2 = .ok (.getfield 48, 3) := by decide +kernel
theorem dg0_5 : decode jdk_38_method_7_code 5 = .ok (.iconst 1, 1) := by decide +kernel
theorem dg0_6 : decode jdk_38_method_7_code 6 = .ok (.iadd, 1) := by decide +kernel
theorem dg0_7 : decode jdk_38_method_7_code 7 = .ok (.invokevirtual 69, 3) := by decide +kernel
theorem dg0_10 : decode jdk_38_method_7_code 10 = .ok (.areturn, 1) := by decide +kernel
theorem ef_rmg0 (m : MethodId) (a1 : Addr) : entryFrame m #[(.ref a1)] 1 = mkF m 0 #[.val (.ref a1)] [] := by first | (simp [entryFrame, mkF, argsToLocals, Value.category]; done) | rfl
set_option maxRecDepth 65536 in
set_option maxHeartbeats 4000000 in
theorem rmg0 (l : Launch) (Z : State) (a0 : Array Value) (hw : ∀ d ∈ tables_1, d.before a0 Z = true) (ws : List Jvm.Cond) (a1 d0 : Addr) (kd : ClassId) (mc : Int32) (h0 : Heap) (n0 : Nat) (Z0 : n0 ≤ h0.size) (HA : own_AL Z h0 n0 a1 (.ref d0) 0 mc) (Sd : Sta Z h0 "java/util/ArrayList" "DEFAULTCAPACITY_EMPTY_ELEMENTDATA" "[Ljava/lang/Object;" (.ref d0)) (Vd : Arv Z h0 d0 kd (.object "java/lang/Object") (0 : Int32) [] .null) (nd : d0 ≠ a1) :
    MetFree l (⟨"java/util/ArrayList", "grow", "()[Ljava/lang/Object;"⟩ : MethodName) (head1 (Jvm.Cond.code (⟨"java/util/ArrayList", "grow", "()[Ljava/lang/Object;"⟩ : MethodName) jdk_38_method_7_code 1 (some (.array (.object "java/lang/Object"))) :: ws) ({ frames := 2, cells := 1, slots := 10, locals := 29 } : Room)) (fun a U => a = #[(.ref a1)] ∧ Z.Warmed39 U.vm ∧ U.heap = h0) (fun _ _ _ _ _ => True) (fun _ U o U' => ∃ v L, o = .returned v ∧ Qg Z a1 mc h0 n0 v U'.heap L ∧ FrameEnd U o U' L ({ frames := 2, cells := 1, slots := 10, locals := 29 } : Room).cells ({ frames := 2, cells := 1, slots := 10, locals := 29 } : Room).slots) := by
  refine MetFree.of_bodySF (plainFor_of_name (by first | (simp [plainName, overriddenIn]; done) | decide +kernel)) hisR ?_
  intro p e s m args below meth c s₁ Bd hml0 hP hK
  obtain ⟨rfl, hZ, hh⟩ := hP
  have hx := Bd.exec
  have hby := Bd.bytes
  have hml : c.maxLocals = 1 := hml0
  have hown : s.vm.findClass "java/util/ArrayList" = some m.cls := findClass_of_methodNamed Bd.named
  have hnm := (name_of_methodNamed Bd.named Bd.method).1
  have X0 : Stand p l e ({ frames := 2, cells := 1, slots := 10, locals := 29 } : Room) s m #[(.ref a1)] below meth c s₁ [] 0 0 := Stand.of_body Bd
  have e0 : s₁.heap = h0 := by rw [← hh, Bd.state]; rfl
  have N0 := Fr.nil n0
  have main : own_To p l e ({ frames := 2, cells := 1, slots := 10, locals := 29 } : Room) s m #[(.ref a1)] below meth c s₁ (mkF m 0 #[.val (.ref a1)] []) (fun T' g' L kq zq => ∃ pcr Ls z, g' = mkF m pcr Ls [.ref z] ∧ decode c.code pcr = .ok (.areturn, 1) ∧ kq = 1 ∧ zq = 10 ∧ Qg Z a1 mc h0 n0 (some (.ref z)) T'.heap L) := by
    have HA0 := HA
    obtain ⟨Ex, Fe, Fs, Fm, ga⟩ := HA
    refine own_go (T1 := s₁) (g1 := (mkF m 1 #[.val (.ref a1)] [(.ref a1)])) (fun _ k => XS.aloadN X0.here hx rfl (hb hby dg0_0) rfl rfl k) ?_
    refine own_go (T1 := s₁) (g1 := (mkF m 2 #[.val (.ref a1)] [(.ref a1), (.ref a1)])) (fun _ k => XS.aloadN X0.here hx rfl (hb hby dg0_1) rfl rfl k) ?_
    obtain ⟨T1, X1, e1, st1⟩ := getF X0 hx hZ hown (host := "") (Or.inl (hw _ (List.mem_of_getElem? (i := 71) rfl))) Via.refl e0 Fs (g := (mkF m 2 #[.val (.ref a1)] [(.ref a1), (.ref a1)])) rfl rfl (hb hby dg0_2)
    refine own_go (T1 := T1) (g1 := (mkF m 5 #[.val (.ref a1)] [(.int (0 : Int32)), (.ref a1)])) (fun t k => st1 t k) ?_
    refine own_go (T1 := T1) (g1 := (mkF m 6 #[.val (.ref a1)] [(.int (1 : Int32)), (.int (0 : Int32)), (.ref a1)])) (fun _ k => XS.iconst X1.here hx rfl (hb hby dg0_5) k) ?_
    refine own_go (T1 := T1) (g1 := (mkF m 7 #[.val (.ref a1)] [(.int ((0 : Int32) + (1 : Int32))), (.ref a1)])) (fun _ k => XS.iadd X1.here hx rfl (hb hby dg0_6) rfl k) ?_
    refine own_go (T1 := T1) (g1 := (mkF m 7 #[.val (.ref a1)] [(.int (1 : Int32)), (.ref a1)])) (fun _ k => k) ?_
    obtain ⟨cq2, q2, q2'⟩ := Ex.cell
    obtain ⟨_, _, ⟨T2, L2, k2, n2⟩, -, X2, ⟨Lc2, hQ2, l2, y2, z2⟩, st2⟩ := X1.privateBack hx (y := (⟨"java/util/ArrayList", "grow", "(I)[Ljava/lang/Object;"⟩ : MethodName)) hown (mvT hZ (hw _ (List.mem_of_getElem? (i := 83) rfl))) (mvT hZ (hw _ (List.mem_of_getElem? (i := 84) rfl))) (mvT hZ (hw _ (List.mem_of_getElem? (i := 86) rfl))) (Cond.privateMethod_at (mvP hZ (hw _ (List.mem_of_getElem? (i := 85) rfl)) (args := #[]))) (mvT hZ (hw _ (List.mem_of_getElem? (i := 87) rfl))) (by decide) (backOf (W := 0) (rmg1 l Z a0 hw [] a1 d0 kd mc h0 n0 Z0 HA0 Sd Vd nd) hZ (hw _ (List.mem_of_getElem? (i := 87) rfl)) (hw _ (List.mem_of_getElem? (i := 38) rfl)) (by decide) (by decide)) (g := (mkF m 7 #[.val (.ref a1)] [(.int (1 : Int32)), (.ref a1)])) rfl (by rw [hml]; rfl) (Steps.refl _) (a := a1) (by rw [e1]; exact q2) q2' (argsL := [(.int (1 : Int32))]) (rest := []) (lenOf own_pd_I_ALjavaxlangxObjectx rfl) rfl (by show 2 * 0 + _ ≤ _; exact Nat.le_of_eq rfl) (hb hby dg0_7) (fun _ _ => ⟨rfl, e1, (by decide : 0 + 1 ≤ _), (by decide : 0 + 10 ≤ _)⟩)
    dsimp only [Pt.U, Pt.locs, Pt.cells, Pt.slots] at X2 l2 y2 z2 st2 hQ2
    subst l2 y2 z2
    obtain ⟨b2, kb2, rfl, N2q, K2, sz2, ge2, HA2, Vb2, Ov2⟩ := hQ2
    have N2 := Fr.app N0 N2q
    refine own_go (T1 := T2) (g1 := (mkF m 10 #[.val (.ref a1)] [(.ref b2)])) (fun t k => st2.trans k) ?_
    exact ⟨T2, _, _, _, _, X2, ⟨10, _, b2, rfl, (hb hby dg0_10), rfl, rfl, ⟨b2, kb2, rfl, N2, K2, sz2, ge2, HA2, Vb2, Ov2⟩⟩, fun _ k => k⟩
  obtain ⟨T', g', L', k', n', X', ⟨pcr, Ls, z, rfl, hd, rfl, rfl, hQ⟩, st⟩ := main
  obtain ⟨fs, hr, hrun, hended, hW, hsame⟩ := X'.leave (v := (some (.ref z))) (fun h => by rw [Bd.returns] at h; cases h)
  refine ⟨_, _, castTop (ef_rmg0 m a1) (st _ ?_), hrun, hended, _, _, rfl, hQ, ⟨_, rfl⟩, hW, hsame.mono (by decide) (by decide)⟩
  exact own_retA X' hx Bd.returns rfl hd hr
def Qa (Z : State) (a1 c1 : Addr) (mc : Int32) (ov : Option Value) (h0 : Heap) (n0 : Nat) (v : Option Value) (h : Heap) (L : List Loc) : Prop := ∃ (b : Addr) (k : ClassId), v = ov ∧ Fr n0 L ∧ Keep h0 h [a1] ∧ h0.size ≤ b ∧ n0 ≤ b ∧ own_AL Z h n0 a1 (.ref b) 1 mc ∧ Arv Z h b k (.object "java/lang/Object") (10 : Int32) [.ref c1] .null ∧ Ovr Z k "java/lang/Object"
theorem own_pd__ALjavaxlangxObjectx : parseMethodDescriptor "()[Ljava/lang/Object;" = some ⟨[], some (.array (.object "java/lang/Object"))⟩ := by decide +kernel
theorem da3_0 : decode jdk_38_method_24_code 0 = .ok (.iload_n 3, 1) := by decide +kernel
theorem da3_1 : decode jdk_38_method_24_code 1 = .ok (.aload_n 2, 1) := by decide +kernel
theorem da3_2 : decode jdk_38_method_24_code 2 = .ok (.arraylength, 1) := by decide +kernel
theorem da3_3 : decode jdk_38_method_24_code 3 = .ok (.if_icmp .ne 8, 3) := by decide +kernel
theorem da3_6 : decode jdk_38_method_24_code 6 = .ok (.aload_n 0, 1) := by decide +kernel
theorem da3_7 : decode jdk_38_method_24_code 7 = .ok (.invokevirtual 129, 3) := by decide +kernel
theorem da3_10 : decode jdk_38_method_24_code 10 = .ok (.astore_n 2, 1) := by decide +kernel
theorem da3_11 : decode jdk_38_method_24_code 11 = .ok (.aload_n 2, 1) := by decide +kernel
theorem da3_12 : decode jdk_38_method_24_code 12 = .ok (.iload_n 3, 1) := by decide +kernel
theorem da3_13 : decode jdk_38_method_24_code 13 = .ok (.aload_n 1, 1) := by decide +kernel
theorem da3_14 : decode jdk_38_method_24_code 14 = .ok (.aastore, 1) := by decide +kernel
theorem da3_15 : decode jdk_38_method_24_code 15 = .ok (.aload_n 0, 1) := by decide +kernel
theorem da3_16 : decode jdk_38_method_24_code 16 = .ok (.iload_n 3, 1) := by decide +kernel
theorem da3_17 : decode jdk_38_method_24_code 17 = .ok (.iconst 1, 1) := by decide +kernel
theorem da3_18 : decode jdk_38_method_24_code 18 = .ok (.iadd, 1) := by decide +kernel
theorem da3_19 : decode jdk_38_method_24_code 19 = .ok (.putfield 48, 3) := by decide +kernel
theorem da3_22 : decode jdk_38_method_24_code 22 = .ok (.return_, 1) := by decide +kernel
theorem ef_rma3 (m : MethodId) (a1 : Addr) (c1 : Addr) (d0 : Addr) : entryFrame m #[(.ref a1), (.ref c1), (.ref d0), (.int (0 : Int32))] 4 = mkF m 0 #[.val (.ref a1), .val (.ref c1), .val (.ref d0), .val (.int (0 : Int32))] [] := by first | (simp [entryFrame, mkF, argsToLocals, Value.category]; done) | rfl
set_option maxRecDepth 65536 in
set_option maxHeartbeats 4000000 in
theorem rma3 (l : Launch) (Z : State) (a0 : Array Value) (hw : ∀ d ∈ tables_1, d.before a0 Z = true) (ws : List Jvm.Cond) (a1 c1 d0 : Addr) (kd : ClassId) (mc : Int32) (h0 : Heap) (n0 : Nat) (Z0 : n0 ≤ h0.size) (HA : own_AL Z h0 n0 a1 (.ref d0) 0 mc) (Sd : Sta Z h0 "java/util/ArrayList" "DEFAULTCAPACITY_EMPTY_ELEMENTDATA" "[Ljava/lang/Object;" (.ref d0)) (Vd : Arv Z h0 d0 kd (.object "java/lang/Object") (0 : Int32) [] .null) (nd : d0 ≠ a1) (Cx : Exa Z h0 c1 "com/example/sukima/sukima/catalog/Column") (nc : c1 ≠ a1) :
    MetFree l (⟨"java/util/ArrayList", "add", "(Ljava/lang/Object;[Ljava/lang/Object;I)V"⟩ : MethodName) (head1 (Jvm.Cond.code (⟨"java/util/ArrayList", "add", "(Ljava/lang/Object;[Ljava/lang/Object;I)V"⟩ : MethodName) jdk_38_method_24_code 4 none :: ws) ({ frames := 3, cells := 1, slots := 10, locals := 41 } : Room)) (fun a U => a = #[(.ref a1), (.ref c1), (.ref d0), (.int (0 : Int32))] ∧ Z.Warmed39 U.vm ∧ U.heap = h0) (fun _ _ _ _ _ => True) (fun _ U o U' => ∃ v L, o = .returned v ∧ Qa Z a1 c1 mc none h0 n0 v U'.heap L ∧ FrameEnd U o U' L ({ frames := 3, cells := 1, slots := 10, locals := 41 } : Room).cells ({ frames := 3, cells := 1, slots := 10, locals := 41 } : Room).slots) := by
  refine MetFree.of_bodySF (plainFor_of_name (by first | (simp [plainName, overriddenIn]; done) | decide +kernel)) hisR ?_
  intro p e s m args below meth c s₁ Bd hml0 hP hK
  obtain ⟨rfl, hZ, hh⟩ := hP
  have hx := Bd.exec
  have hby := Bd.bytes
  have hml : c.maxLocals = 4 := hml0
  have hown : s.vm.findClass "java/util/ArrayList" = some m.cls := findClass_of_methodNamed Bd.named
  have hnm := (name_of_methodNamed Bd.named Bd.method).1
  have X0 : Stand p l e ({ frames := 3, cells := 1, slots := 10, locals := 41 } : Room) s m #[(.ref a1), (.ref c1), (.ref d0), (.int (0 : Int32))] below meth c s₁ [] 0 0 := Stand.of_body Bd
  have e0 : s₁.heap = h0 := by rw [← hh, Bd.state]; rfl
  have N0 := Fr.nil n0
  have main : own_To p l e ({ frames := 3, cells := 1, slots := 10, locals := 41 } : Room) s m #[(.ref a1), (.ref c1), (.ref d0), (.int (0 : Int32))] below meth c s₁ (mkF m 0 #[.val (.ref a1), .val (.ref c1), .val (.ref d0), .val (.int (0 : Int32))] []) (fun T' g' L kq zq => ∃ pcr Ls, g' = mkF m pcr Ls [] ∧ decode c.code pcr = .ok (.return_, 1) ∧ kq = 1 ∧ zq = 10 ∧ Qa Z a1 c1 mc none h0 n0 none T'.heap L) := by
    have HA0 := HA
    obtain ⟨Ex, Fe, Fs, Fm, ga⟩ := HA
    refine own_go (T1 := s₁) (g1 := (mkF m 1 #[.val (.ref a1), .val (.ref c1), .val (.ref d0), .val (.int (0 : Int32))] [(.int (0 : Int32))])) (fun _ k => XS.iloadN X0.here hx rfl (hb hby da3_0) rfl k) ?_
    refine own_go (T1 := s₁) (g1 := (mkF m 2 #[.val (.ref a1), .val (.ref c1), .val (.ref d0), .val (.int (0 : Int32))] [(.ref d0), (.int (0 : Int32))])) (fun _ k => XS.aloadN X0.here hx rfl (hb hby da3_1) rfl rfl k) ?_
    obtain ⟨cl1, Ar1, -, S1, N1, -, -⟩ := id Vd
    refine own_go (T1 := s₁) (g1 := (mkF m 3 #[.val (.ref a1), .val (.ref c1), .val (.ref d0), .val (.int (0 : Int32))] [(.int (0 : Int32)), (.int (0 : Int32))])) (fun _ k => X0.arraylength hx (by rw [e0]; exact Ar1.1) (State.isArrayOf_alike hZ.alike Ar1.2.1) (g := (mkF m 2 #[.val (.ref a1), .val (.ref c1), .val (.ref d0), .val (.int (0 : Int32))] [(.ref d0), (.int (0 : Int32))])) rfl rfl (hb hby da3_2) _ (by rw [len_of S1 N1]; exact k)) ?_
    refine own_go (T1 := s₁) (g1 := (mkF m 6 #[.val (.ref a1), .val (.ref c1), .val (.ref d0), .val (.int (0 : Int32))] [])) (fun _ k => XS.icmpNo X0.here hx rfl (hb hby da3_3) rfl (teq ((by decide) : (0 : Int32) = (0 : Int32))).2 k) ?_
    refine own_go (T1 := s₁) (g1 := (mkF m 7 #[.val (.ref a1), .val (.ref c1), .val (.ref d0), .val (.int (0 : Int32))] [(.ref a1)])) (fun _ k => XS.aloadN X0.here hx rfl (hb hby da3_6) rfl rfl k) ?_
    obtain ⟨cq2, q2, q2'⟩ := Ex.cell
    obtain ⟨_, _, ⟨T2, L2, k2, n2⟩, -, X2, ⟨Lc2, hQ2, l2, y2, z2⟩, st2⟩ := X0.privateBack hx (y := (⟨"java/util/ArrayList", "grow", "()[Ljava/lang/Object;"⟩ : MethodName)) hown (mvT hZ (hw _ (List.mem_of_getElem? (i := 78) rfl))) (mvT hZ (hw _ (List.mem_of_getElem? (i := 79) rfl))) (mvT hZ (hw _ (List.mem_of_getElem? (i := 81) rfl))) (Cond.privateMethod_at (mvP hZ (hw _ (List.mem_of_getElem? (i := 80) rfl)) (args := #[]))) (mvT hZ (hw _ (List.mem_of_getElem? (i := 82) rfl))) (by decide) (backOf (W := 0) (rmg0 l Z a0 hw [] a1 d0 kd mc h0 n0 Z0 HA0 Sd Vd nd) hZ (hw _ (List.mem_of_getElem? (i := 82) rfl)) (hw _ (List.mem_of_getElem? (i := 38) rfl)) (by decide) (by decide)) (g := (mkF m 7 #[.val (.ref a1), .val (.ref c1), .val (.ref d0), .val (.int (0 : Int32))] [(.ref a1)])) rfl (by rw [hml]; rfl) (Steps.refl _) (a := a1) (by rw [e0]; exact q2) q2' (argsL := []) (rest := []) (lenOf own_pd__ALjavaxlangxObjectx rfl) rfl (by show 2 * 0 + _ ≤ _; exact Nat.le_of_eq rfl) (hb hby da3_7) (fun _ _ => ⟨rfl, e0, (by decide : 0 + 1 ≤ _), (by decide : 0 + 10 ≤ _)⟩)
    dsimp only [Pt.U, Pt.locs, Pt.cells, Pt.slots] at X2 l2 y2 z2 st2 hQ2
    subst l2 y2 z2
    obtain ⟨b2, kb2, rfl, N2q, K2, sz2, ge2, HA2, Vb2, Ov2⟩ := hQ2
    have N2 := Fr.app N0 N2q
    refine own_go (T1 := T2) (g1 := (mkF m 10 #[.val (.ref a1), .val (.ref c1), .val (.ref d0), .val (.int (0 : Int32))] [(.ref b2)])) (fun t k => st2.trans k) ?_
    have ne_a1_b2 : a1 ≠ b2 := Nat.ne_of_lt (Nat.lt_of_lt_of_le Ex.lt sz2)
    have ne_c1_b2 : c1 ≠ b2 := Nat.ne_of_lt (Nat.lt_of_lt_of_le Cx.lt sz2)
    obtain ⟨Ex2, Fe2, Fs2, Fm2, ga2⟩ := HA2
    refine own_go (T1 := T2) (g1 := (mkF m 11 #[.val (.ref a1), .val (.ref c1), .val (.ref b2), .val (.int (0 : Int32))] [])) (fun _ k => XS.astoreN X2.here hx rfl (hb hby da3_10) rfl rfl (l' := #[.val (.ref a1), .val (.ref c1), .val (.ref b2), .val (.int (0 : Int32))]) rfl k) ?_
    refine own_go (T1 := T2) (g1 := (mkF m 12 #[.val (.ref a1), .val (.ref c1), .val (.ref b2), .val (.int (0 : Int32))] [(.ref b2)])) (fun _ k => XS.aloadN X2.here hx rfl (hb hby da3_11) rfl rfl k) ?_
    refine own_go (T1 := T2) (g1 := (mkF m 13 #[.val (.ref a1), .val (.ref c1), .val (.ref b2), .val (.int (0 : Int32))] [(.int (0 : Int32)), (.ref b2)])) (fun _ k => XS.iloadN X2.here hx rfl (hb hby da3_12) rfl k) ?_
    refine own_go (T1 := T2) (g1 := (mkF m 14 #[.val (.ref a1), .val (.ref c1), .val (.ref b2), .val (.int (0 : Int32))] [(.ref c1), (.int (0 : Int32)), (.ref b2)])) (fun _ k => XS.aloadN X2.here hx rfl (hb hby da3_13) rfl rfl k) ?_
    have Vp3 : Arv Z T2.heap b2 kb2 (.object "java/lang/Object") (10 : Int32) ([] ++ List.replicate 1 Value.null) .null := Vb2.pad (pad_rep _ _ 1)
    obtain ⟨cl3, Ar3, q3, S3, Nn3, H3, G3⟩ := id Vp3
    obtain ⟨T3, h3, X3, e3, W3, st3⟩ := stR X2 hx hZ rfl Ar3 (j := (0 : Int32)) (inb_of S3 ⟨by decide, by decide⟩) rfl (Sto.ofV Ar3 q3 Ov2 (Ins.of_exa (Cx.keep K2) (hw _ (List.mem_of_getElem? (i := 94) rfl)))) (g := (mkF m 14 #[.val (.ref a1), .val (.ref c1), .val (.ref b2), .val (.int (0 : Int32))] [(.ref c1), (.int (0 : Int32)), (.ref b2)])) rfl rfl (hb hby da3_14)
    have Ex_3 : Exa Z h3 a1 "java/util/ArrayList" := Ex2.wr W3
    have Fe_3 : Fld Z h3 a1 "java/util/ArrayList" "elementData" "[Ljava/lang/Object;" (.ref b2) := Fe2.other W3 (Or.inl ne_a1_b2)
    have Fs_3 : Fld Z h3 a1 "java/util/ArrayList" "size" "I" (.int (0 : Int32)) := Fs2.other W3 (Or.inl ne_a1_b2)
    have Fm_3 : Fld Z h3 a1 "java/util/AbstractList" "modCount" "I" (.int mc) := Fm2.other W3 (Or.inl ne_a1_b2)
    have Cx_3 : Exa Z h3 c1 "com/example/sukima/sukima/catalog/Column" := (Cx.keep K2).wr W3
    have Vb_3 : Arv Z h3 b2 kb2 (.object "java/lang/Object") (10 : Int32) (([] ++ List.replicate 1 Value.null).set 0 (.ref c1)) .null := Arv.set Ar3 q3 S3 Nn3 H3 G3 rfl W3 0 rfl (by simp)
    have Zs3 : n0 ≤ h3.size := Nat.le_trans (Nat.le_trans Z0 K2.1) (Keep.of_wr W3).1
    have Kp3 : Keep h0 h3 [a1] := K2.wr W3 (Or.inr sz2)
    have N3 := Fr.snoc X3 N2 ge2
    refine own_go (T1 := T3) (g1 := (mkF m 15 #[.val (.ref a1), .val (.ref c1), .val (.ref b2), .val (.int (0 : Int32))] [])) (fun t k => st3 t k) ?_
    refine own_go (T1 := T3) (g1 := (mkF m 16 #[.val (.ref a1), .val (.ref c1), .val (.ref b2), .val (.int (0 : Int32))] [(.ref a1)])) (fun _ k => XS.aloadN X3.here hx rfl (hb hby da3_15) rfl rfl k) ?_
    refine own_go (T1 := T3) (g1 := (mkF m 17 #[.val (.ref a1), .val (.ref c1), .val (.ref b2), .val (.int (0 : Int32))] [(.int (0 : Int32)), (.ref a1)])) (fun _ k => XS.iloadN X3.here hx rfl (hb hby da3_16) rfl k) ?_
    refine own_go (T1 := T3) (g1 := (mkF m 18 #[.val (.ref a1), .val (.ref c1), .val (.ref b2), .val (.int (0 : Int32))] [(.int (1 : Int32)), (.int (0 : Int32)), (.ref a1)])) (fun _ k => XS.iconst X3.here hx rfl (hb hby da3_17) k) ?_
    refine own_go (T1 := T3) (g1 := (mkF m 19 #[.val (.ref a1), .val (.ref c1), .val (.ref b2), .val (.int (0 : Int32))] [(.int ((0 : Int32) + (1 : Int32))), (.ref a1)])) (fun _ k => XS.iadd X3.here hx rfl (hb hby da3_18) rfl k) ?_
    obtain ⟨T4, h4, X4, e4, W4, st4⟩ := putF X3 hx hZ hown (host := "") (Or.inl (hw _ (List.mem_of_getElem? (i := 71) rfl))) Via.refl e3 Fs_3 Ex_3 (Or.inl (hw _ (List.mem_of_getElem? (i := 72) rfl))) (hw _ (List.mem_of_getElem? (i := 37) rfl)) (ty := .int) (by decide) rfl rfl (g := (mkF m 19 #[.val (.ref a1), .val (.ref c1), .val (.ref b2), .val (.int (0 : Int32))] [(.int ((0 : Int32) + (1 : Int32))), (.ref a1)])) rfl rfl (hb hby da3_19)
    have Ex_4 : Exa Z h4 a1 "java/util/ArrayList" := Ex_3.wr W4
    have Fe_4 : Fld Z h4 a1 "java/util/ArrayList" "elementData" "[Ljava/lang/Object;" (.ref b2) := Fe_3.other W4 (Or.inr (slot_ne (Or.inl (hw _ (List.mem_of_getElem? (i := 59) rfl))) (Or.inl (hw _ (List.mem_of_getElem? (i := 72) rfl))) (by decide) (t := (.array (.object "java/lang/Object"))) (t' := .int) (by decide) (by decide)))
    have Fm_4 : Fld Z h4 a1 "java/util/AbstractList" "modCount" "I" (.int mc) := Fm_3.other W4 (Or.inr (slot_ne (Or.inl (hw _ (List.mem_of_getElem? (i := 56) rfl))) (Or.inl (hw _ (List.mem_of_getElem? (i := 72) rfl))) (by decide) (t := .int) (t' := .int) (by decide) (by decide)))
    have Cx_4 : Exa Z h4 c1 "com/example/sukima/sukima/catalog/Column" := Cx_3.wr W4
    have Vb_4 : Arv Z h4 b2 kb2 (.object "java/lang/Object") (10 : Int32) (([] ++ List.replicate 1 Value.null).set 0 (.ref c1)) .null := Vb_3.other W4 (Ne.symm ne_a1_b2)
    have Fs_4 : Fld Z h4 a1 "java/util/ArrayList" "size" "I" (.int ((0 : Int32) + (1 : Int32))) := Fs_3.same W4
    have Zs4 : n0 ≤ h4.size := Nat.le_trans Zs3 (Keep.of_wr W4).1
    have Kp4 : Keep h0 h4 [a1] := Kp3.wr W4 (Or.inl (by simp))
    have N4 := Fr.snoc X4 N3 ga2
    refine own_go (T1 := T4) (g1 := (mkF m 22 #[.val (.ref a1), .val (.ref c1), .val (.ref b2), .val (.int (0 : Int32))] [])) (fun t k => st4 t k) ?_
    exact ⟨T4, _, _, _, _, X4, ⟨22, _, rfl, (hb hby da3_22), rfl, rfl, (by rw [e4]; exact ⟨b2, _, rfl, N4, Kp4, sz2, ge2, ⟨Ex_4, Fe_4, Fs_4, Fm_4, ga2⟩, Vb_4, Ov2⟩)⟩, fun _ k => k⟩
  obtain ⟨T', g', L', k', n', X', ⟨pcr, Ls, rfl, hd, rfl, rfl, hQ⟩, st⟩ := main
  obtain ⟨fs, hr, hrun, hended, hW, hsame⟩ := X'.leave (v := none) (fun _ => rfl)
  refine ⟨_, _, castTop (ef_rma3 m a1 c1 d0) (st _ ?_), hrun, hended, _, _, rfl, hQ, ⟨_, rfl⟩, hW, hsame.mono (by decide) (by decide)⟩
  exact X'.returnOut hx Bd.returns hd hr
def Qp (Z : State) (a1 c1 eb : Addr) (kb : ClassId) (s mc : Int32) (vs : List Value) (ov : Option Value) (h0 : Heap) (n0 : Nat) (v : Option Value) (h : Heap) (L : List Loc) : Prop := v = ov ∧ Fr n0 L ∧ Keep h0 h [a1, eb] ∧ own_AL Z h n0 a1 (.ref eb) (s + 1) mc ∧ Arv Z h eb kb (.object "java/lang/Object") (10 : Int32) (vs ++ [.ref c1]) .null
theorem ef_rma3p (m : MethodId) (a1 : Addr) (c1 : Addr) (eb : Addr) (zs : Int32) : entryFrame m #[(.ref a1), (.ref c1), (.ref eb), (.int zs)] 4 = mkF m 0 #[.val (.ref a1), .val (.ref c1), .val (.ref eb), .val (.int zs)] [] := by first | (simp [entryFrame, mkF, argsToLocals, Value.category]; done) | rfl
set_option maxRecDepth 65536 in
set_option maxHeartbeats 4000000 in
theorem rma3p (l : Launch) (Z : State) (a0 : Array Value) (hw : ∀ d ∈ tables_1, d.before a0 Z = true) (ws : List Jvm.Cond) (a1 c1 eb : Addr) (kb : ClassId) (zs mc : Int32) (vs : List Value) (h0 : Heap) (n0 : Nat) (Z0 : n0 ≤ h0.size) (HA : own_AL Z h0 n0 a1 (.ref eb) zs mc) (Vb : Arv Z h0 eb kb (.object "java/lang/Object") (10 : Int32) vs .null) (Ov : Ovr Z kb "java/lang/Object") (gb : n0 ≤ eb) (nb : a1 ≠ eb) (nc : c1 ≠ a1) (hs1 : ¬ zs < 0 ∧ zs < (10 : Int32)) (hs2 : zs.toNatClampNeg = vs.length) (hs3 : ¬ (zs = (10 : Int32))) (Cx : Exa Z h0 c1 "com/example/sukima/sukima/catalog/Column") :
    MetFree l (⟨"java/util/ArrayList", "add", "(Ljava/lang/Object;[Ljava/lang/Object;I)V"⟩ : MethodName) (head1 (Jvm.Cond.code (⟨"java/util/ArrayList", "add", "(Ljava/lang/Object;[Ljava/lang/Object;I)V"⟩ : MethodName) jdk_38_method_24_code 4 none :: ws) ({ frames := 0, cells := 0, slots := 0, locals := 0 } : Room)) (fun a U => a = #[(.ref a1), (.ref c1), (.ref eb), (.int zs)] ∧ Z.Warmed39 U.vm ∧ U.heap = h0) (fun _ _ _ _ _ => True) (fun _ U o U' => ∃ v L, o = .returned v ∧ Qp Z a1 c1 eb kb zs mc vs none h0 n0 v U'.heap L ∧ FrameEnd U o U' L ({ frames := 0, cells := 0, slots := 0, locals := 0 } : Room).cells ({ frames := 0, cells := 0, slots := 0, locals := 0 } : Room).slots) := by
  refine MetFree.of_bodySF (plainFor_of_name (by first | (simp [plainName, overriddenIn]; done) | decide +kernel)) hisR ?_
  intro p e s m args below meth c s₁ Bd hml0 hP hK
  obtain ⟨rfl, hZ, hh⟩ := hP
  have hx := Bd.exec
  have hby := Bd.bytes
  have hml : c.maxLocals = 4 := hml0
  have hown : s.vm.findClass "java/util/ArrayList" = some m.cls := findClass_of_methodNamed Bd.named
  have hnm := (name_of_methodNamed Bd.named Bd.method).1
  have X0 : Stand p l e ({ frames := 0, cells := 0, slots := 0, locals := 0 } : Room) s m #[(.ref a1), (.ref c1), (.ref eb), (.int zs)] below meth c s₁ [] 0 0 := Stand.of_body Bd
  have e0 : s₁.heap = h0 := by rw [← hh, Bd.state]; rfl
  have N0 := Fr.nil n0
  have main : own_To p l e ({ frames := 0, cells := 0, slots := 0, locals := 0 } : Room) s m #[(.ref a1), (.ref c1), (.ref eb), (.int zs)] below meth c s₁ (mkF m 0 #[.val (.ref a1), .val (.ref c1), .val (.ref eb), .val (.int zs)] []) (fun T' g' L kq zq => ∃ pcr Ls, g' = mkF m pcr Ls [] ∧ decode c.code pcr = .ok (.return_, 1) ∧ kq = 0 ∧ zq = 0 ∧ Qp Z a1 c1 eb kb zs mc vs none h0 n0 none T'.heap L) := by
    have HA0 := HA
    obtain ⟨Ex, Fe, Fs, Fm, ga⟩ := HA
    refine own_go (T1 := s₁) (g1 := (mkF m 1 #[.val (.ref a1), .val (.ref c1), .val (.ref eb), .val (.int zs)] [(.int zs)])) (fun _ k => XS.iloadN X0.here hx rfl (hb hby da3_0) rfl k) ?_
    refine own_go (T1 := s₁) (g1 := (mkF m 2 #[.val (.ref a1), .val (.ref c1), .val (.ref eb), .val (.int zs)] [(.ref eb), (.int zs)])) (fun _ k => XS.aloadN X0.here hx rfl (hb hby da3_1) rfl rfl k) ?_
    obtain ⟨cl1, Ar1, -, S1, N1, -, -⟩ := id Vb
    refine own_go (T1 := s₁) (g1 := (mkF m 3 #[.val (.ref a1), .val (.ref c1), .val (.ref eb), .val (.int zs)] [(.int (10 : Int32)), (.int zs)])) (fun _ k => X0.arraylength hx (by rw [e0]; exact Ar1.1) (State.isArrayOf_alike hZ.alike Ar1.2.1) (g := (mkF m 2 #[.val (.ref a1), .val (.ref c1), .val (.ref eb), .val (.int zs)] [(.ref eb), (.int zs)])) rfl rfl (hb hby da3_2) _ (by rw [len_of S1 N1]; exact k)) ?_
    refine own_go (T1 := s₁) (g1 := (mkF m 11 #[.val (.ref a1), .val (.ref c1), .val (.ref eb), .val (.int zs)] [])) (fun _ k => XS.icmpYes X0.here hx rfl (pc0 := 3) (pc' := 11) rfl (hb hby da3_3) rfl (feq (hs3 : ¬ (zs = (10 : Int32)))).2 (by decide) (by decide) k) ?_
    refine own_go (T1 := s₁) (g1 := (mkF m 12 #[.val (.ref a1), .val (.ref c1), .val (.ref eb), .val (.int zs)] [(.ref eb)])) (fun _ k => XS.aloadN X0.here hx rfl (hb hby da3_11) rfl rfl k) ?_
    refine own_go (T1 := s₁) (g1 := (mkF m 13 #[.val (.ref a1), .val (.ref c1), .val (.ref eb), .val (.int zs)] [(.int zs), (.ref eb)])) (fun _ k => XS.iloadN X0.here hx rfl (hb hby da3_12) rfl k) ?_
    refine own_go (T1 := s₁) (g1 := (mkF m 14 #[.val (.ref a1), .val (.ref c1), .val (.ref eb), .val (.int zs)] [(.ref c1), (.int zs), (.ref eb)])) (fun _ k => XS.aloadN X0.here hx rfl (hb hby da3_13) rfl rfl k) ?_
    have Vp2 : Arv Z h0 eb kb (.object "java/lang/Object") (10 : Int32) (vs ++ List.replicate 1 Value.null) .null := Vb.pad (pad_rep _ _ 1)
    obtain ⟨cl2, Ar2, q2, S2, Nn2, H2, G2⟩ := id Vp2
    obtain ⟨T2, h2, X2, e2, W2, st2⟩ := stR X0 hx hZ e0 Ar2 (j := zs) (inb_of S2 hs1) rfl (Sto.ofV Ar2 q2 Ov (Ins.of_exa Cx (hw _ (List.mem_of_getElem? (i := 94) rfl)))) (g := (mkF m 14 #[.val (.ref a1), .val (.ref c1), .val (.ref eb), .val (.int zs)] [(.ref c1), (.int zs), (.ref eb)])) rfl rfl (hb hby da3_14)
    have Ex_2 : Exa Z h2 a1 "java/util/ArrayList" := Ex.wr W2
    have Fe_2 : Fld Z h2 a1 "java/util/ArrayList" "elementData" "[Ljava/lang/Object;" (.ref eb) := Fe.other W2 (Or.inl nb)
    have Fs_2 : Fld Z h2 a1 "java/util/ArrayList" "size" "I" (.int zs) := Fs.other W2 (Or.inl nb)
    have Fm_2 : Fld Z h2 a1 "java/util/AbstractList" "modCount" "I" (.int mc) := Fm.other W2 (Or.inl nb)
    have Cx_2 : Exa Z h2 c1 "com/example/sukima/sukima/catalog/Column" := Cx.wr W2
    have Vb_2 : Arv Z h2 eb kb (.object "java/lang/Object") (10 : Int32) ((vs ++ List.replicate 1 Value.null).set vs.length (.ref c1)) .null := Arv.set Ar2 q2 S2 Nn2 H2 G2 rfl W2 vs.length hs2 (by simp)
    have Zs2 : n0 ≤ h2.size := Nat.le_trans Z0 (Keep.of_wr W2).1
    have Kp2 : Keep h0 h2 [a1, eb] := (Keep.refl h0 [a1, eb]).wr W2 (Or.inl (by simp))
    have N2 := Fr.snoc X2 N0 gb
    refine own_go (T1 := T2) (g1 := (mkF m 15 #[.val (.ref a1), .val (.ref c1), .val (.ref eb), .val (.int zs)] [])) (fun t k => st2 t k) ?_
    refine own_go (T1 := T2) (g1 := (mkF m 16 #[.val (.ref a1), .val (.ref c1), .val (.ref eb), .val (.int zs)] [(.ref a1)])) (fun _ k => XS.aloadN X2.here hx rfl (hb hby da3_15) rfl rfl k) ?_
    refine own_go (T1 := T2) (g1 := (mkF m 17 #[.val (.ref a1), .val (.ref c1), .val (.ref eb), .val (.int zs)] [(.int zs), (.ref a1)])) (fun _ k => XS.iloadN X2.here hx rfl (hb hby da3_16) rfl k) ?_
    refine own_go (T1 := T2) (g1 := (mkF m 18 #[.val (.ref a1), .val (.ref c1), .val (.ref eb), .val (.int zs)] [(.int (1 : Int32)), (.int zs), (.ref a1)])) (fun _ k => XS.iconst X2.here hx rfl (hb hby da3_17) k) ?_
    refine own_go (T1 := T2) (g1 := (mkF m 19 #[.val (.ref a1), .val (.ref c1), .val (.ref eb), .val (.int zs)] [(.int (zs + (1 : Int32))), (.ref a1)])) (fun _ k => XS.iadd X2.here hx rfl (hb hby da3_18) rfl k) ?_
    obtain ⟨T3, h3, X3, e3, W3, st3⟩ := putF X2 hx hZ hown (host := "") (Or.inl (hw _ (List.mem_of_getElem? (i := 71) rfl))) Via.refl e2 Fs_2 Ex_2 (Or.inl (hw _ (List.mem_of_getElem? (i := 72) rfl))) (hw _ (List.mem_of_getElem? (i := 37) rfl)) (ty := .int) (by decide) rfl rfl (g := (mkF m 19 #[.val (.ref a1), .val (.ref c1), .val (.ref eb), .val (.int zs)] [(.int (zs + (1 : Int32))), (.ref a1)])) rfl rfl (hb hby da3_19)
    have Ex_3 : Exa Z h3 a1 "java/util/ArrayList" := Ex_2.wr W3
    have Fe_3 : Fld Z h3 a1 "java/util/ArrayList" "elementData" "[Ljava/lang/Object;" (.ref eb) := Fe_2.other W3 (Or.inr (slot_ne (Or.inl (hw _ (List.mem_of_getElem? (i := 59) rfl))) (Or.inl (hw _ (List.mem_of_getElem? (i := 72) rfl))) (by decide) (t := (.array (.object "java/lang/Object"))) (t' := .int) (by decide) (by decide)))
    have Fm_3 : Fld Z h3 a1 "java/util/AbstractList" "modCount" "I" (.int mc) := Fm_2.other W3 (Or.inr (slot_ne (Or.inl (hw _ (List.mem_of_getElem? (i := 56) rfl))) (Or.inl (hw _ (List.mem_of_getElem? (i := 72) rfl))) (by decide) (t := .int) (t' := .int) (by decide) (by decide)))
    have Cx_3 : Exa Z h3 c1 "com/example/sukima/sukima/catalog/Column" := Cx_2.wr W3
    have Vb_3 : Arv Z h3 eb kb (.object "java/lang/Object") (10 : Int32) ((vs ++ List.replicate 1 Value.null).set vs.length (.ref c1)) .null := Vb_2.other W3 (Ne.symm nb)
    have Fs_3 : Fld Z h3 a1 "java/util/ArrayList" "size" "I" (.int (zs + (1 : Int32))) := Fs_2.same W3
    have Zs3 : n0 ≤ h3.size := Nat.le_trans Zs2 (Keep.of_wr W3).1
    have Kp3 : Keep h0 h3 [a1, eb] := Kp2.wr W3 (Or.inl (by simp))
    have N3 := Fr.snoc X3 N2 ga
    refine own_go (T1 := T3) (g1 := (mkF m 22 #[.val (.ref a1), .val (.ref c1), .val (.ref eb), .val (.int zs)] [])) (fun t k => st3 t k) ?_
    exact ⟨T3, _, _, _, _, X3, ⟨22, _, rfl, (hb hby da3_22), rfl, rfl, (by rw [e3]; exact ⟨rfl, N3, Kp3, ⟨Ex_3, Fe_3, Fs_3, Fm_3, ga⟩, own_setEnd _ _ ▸ Vb_3⟩)⟩, fun _ k => k⟩
  obtain ⟨T', g', L', k', n', X', ⟨pcr, Ls, rfl, hd, rfl, rfl, hQ⟩, st⟩ := main
  obtain ⟨fs, hr, hrun, hended, hW, hsame⟩ := X'.leave (v := none) (fun _ => rfl)
  refine ⟨_, _, castTop (ef_rma3p m a1 c1 eb zs) (st _ ?_), hrun, hended, _, _, rfl, hQ, ⟨_, rfl⟩, hW, hsame.mono (by decide) (by decide)⟩
  exact X'.returnOut hx Bd.returns hd hr
theorem own_pd_LjavaxlangxObjectxALjavaxlangxObjectxI_V : parseMethodDescriptor "(Ljava/lang/Object;[Ljava/lang/Object;I)V" = some ⟨[(.object "java/lang/Object"), (.array (.object "java/lang/Object")), .int], none⟩ := by decide +kernel
theorem da1_0 : decode jdk_38_method_25_code 0 = .ok (.aload_n 0, 1) := by decide +kernel
theorem da1_1 : decode jdk_38_method_25_code 1 = .ok (.dup, 1) := by decide +kernel
theorem da1_2 : decode jdk_38_method_25_code 2 = .ok (.getfield 63, 3) := by decide +kernel
theorem da1_5 : decode jdk_38_method_25_code 5 = .ok (.iconst 1, 1) := by decide +kernel
theorem da1_6 : decode jdk_38_method_25_code 6 = .ok (.iadd, 1) := by decide +kernel
theorem da1_7 : decode jdk_38_method_25_code 7 = .ok (.putfield 63, 3) := by decide +kernel
theorem da1_10 : decode jdk_38_method_25_code 10 = .ok (.aload_n 0, 1) := by decide +kernel
theorem da1_11 : decode jdk_38_method_25_code 11 = .ok (.aload_n 1, 1) := by decide +kernel
theorem da1_12 : decode jdk_38_method_25_code 12 = .ok (.aload_n 0, 1) := by decide +kernel
theorem da1_13 : decode jdk_38_method_25_code 13 = .ok (.getfield 9, 3) := by decide +kernel
theorem da1_16 : decode jdk_38_method_25_code 16 = .ok (.aload_n 0, 1) := by decide +kernel
theorem da1_17 : decode jdk_38_method_25_code 17 = .ok (.getfield 48, 3) := by decide +kernel
theorem da1_20 : decode jdk_38_method_25_code 20 = .ok (.invokevirtual 131, 3) := by decide +kernel
theorem da1_23 : decode jdk_38_method_25_code 23 = .ok (.iconst 1, 1) := by decide +kernel
theorem da1_24 : decode jdk_38_method_25_code 24 = .ok (.ireturn, 1) := by decide +kernel
theorem ef_rma1 (m : MethodId) (a1 : Addr) (c1 : Addr) : entryFrame m #[(.ref a1), (.ref c1)] 2 = mkF m 0 #[.val (.ref a1), .val (.ref c1)] [] := by first | (simp [entryFrame, mkF, argsToLocals, Value.category]; done) | rfl
set_option maxRecDepth 65536 in
set_option maxHeartbeats 4000000 in
theorem rma1 (l : Launch) (Z : State) (a0 : Array Value) (hw : ∀ d ∈ tables_1, d.before a0 Z = true) (ws : List Jvm.Cond) (a1 c1 d0 : Addr) (kd : ClassId) (mc : Int32) (h0 : Heap) (n0 : Nat) (Z0 : n0 ≤ h0.size) (HA : own_AL Z h0 n0 a1 (.ref d0) 0 mc) (Sd : Sta Z h0 "java/util/ArrayList" "DEFAULTCAPACITY_EMPTY_ELEMENTDATA" "[Ljava/lang/Object;" (.ref d0)) (Vd : Arv Z h0 d0 kd (.object "java/lang/Object") (0 : Int32) [] .null) (nd : d0 ≠ a1) (Cx : Exa Z h0 c1 "com/example/sukima/sukima/catalog/Column") (nc : c1 ≠ a1) :
    MetFree l (⟨"java/util/ArrayList", "add", "(Ljava/lang/Object;)Z"⟩ : MethodName) (head1 (Jvm.Cond.code (⟨"java/util/ArrayList", "add", "(Ljava/lang/Object;)Z"⟩ : MethodName) jdk_38_method_25_code 2 (some .boolean) :: ws) ({ frames := 4, cells := 1, slots := 10, locals := 56 } : Room)) (fun a U => a = #[(.ref a1), (.ref c1)] ∧ Z.Warmed39 U.vm ∧ U.heap = h0) (fun _ _ _ _ _ => True) (fun _ U o U' => ∃ v L, o = .returned v ∧ Qa Z a1 c1 (mc + 1) (some (.int 1)) h0 n0 v U'.heap L ∧ FrameEnd U o U' L ({ frames := 4, cells := 1, slots := 10, locals := 56 } : Room).cells ({ frames := 4, cells := 1, slots := 10, locals := 56 } : Room).slots) := by
  refine MetFree.of_bodySF (plainFor_of_name (by first | (simp [plainName, overriddenIn]; done) | decide +kernel)) hisR ?_
  intro p e s m args below meth c s₁ Bd hml0 hP hK
  obtain ⟨rfl, hZ, hh⟩ := hP
  have hx := Bd.exec
  have hby := Bd.bytes
  have hml : c.maxLocals = 2 := hml0
  have hown : s.vm.findClass "java/util/ArrayList" = some m.cls := findClass_of_methodNamed Bd.named
  have hnm := (name_of_methodNamed Bd.named Bd.method).1
  have X0 : Stand p l e ({ frames := 4, cells := 1, slots := 10, locals := 56 } : Room) s m #[(.ref a1), (.ref c1)] below meth c s₁ [] 0 0 := Stand.of_body Bd
  have e0 : s₁.heap = h0 := by rw [← hh, Bd.state]; rfl
  have N0 := Fr.nil n0
  have main : own_To p l e ({ frames := 4, cells := 1, slots := 10, locals := 56 } : Room) s m #[(.ref a1), (.ref c1)] below meth c s₁ (mkF m 0 #[.val (.ref a1), .val (.ref c1)] []) (fun T' g' L kq zq => ∃ pcr Ls z, g' = mkF m pcr Ls [.int z] ∧ decode c.code pcr = .ok (.ireturn, 1) ∧ kq = 1 ∧ zq = 10 ∧ Qa Z a1 c1 (mc + 1) (some (.int 1)) h0 n0 (some (.int (nar .boolean z))) T'.heap L) := by
    obtain ⟨Ex, Fe, Fs, Fm, ga⟩ := HA
    refine own_go (T1 := s₁) (g1 := (mkF m 1 #[.val (.ref a1), .val (.ref c1)] [(.ref a1)])) (fun _ k => XS.aloadN X0.here hx rfl (hb hby da1_0) rfl rfl k) ?_
    refine own_go (T1 := s₁) (g1 := (mkF m 2 #[.val (.ref a1), .val (.ref c1)] [(.ref a1), (.ref a1)])) (fun _ k => XS.dup X0.here hx rfl (hb hby da1_1) rfl rfl k) ?_
    obtain ⟨T1, X1, e1, st1⟩ := getF X0 hx hZ hown (host := "") (Or.inl (hw _ (List.mem_of_getElem? (i := 69) rfl))) (Via.of (hw _ (List.mem_of_getElem? (i := 70) rfl))) e0 Fm (g := (mkF m 2 #[.val (.ref a1), .val (.ref c1)] [(.ref a1), (.ref a1)])) rfl rfl (hb hby da1_2)
    refine own_go (T1 := T1) (g1 := (mkF m 5 #[.val (.ref a1), .val (.ref c1)] [(.int mc), (.ref a1)])) (fun t k => st1 t k) ?_
    refine own_go (T1 := T1) (g1 := (mkF m 6 #[.val (.ref a1), .val (.ref c1)] [(.int (1 : Int32)), (.int mc), (.ref a1)])) (fun _ k => XS.iconst X1.here hx rfl (hb hby da1_5) k) ?_
    refine own_go (T1 := T1) (g1 := (mkF m 7 #[.val (.ref a1), .val (.ref c1)] [(.int (mc + (1 : Int32))), (.ref a1)])) (fun _ k => XS.iadd X1.here hx rfl (hb hby da1_6) rfl k) ?_
    obtain ⟨T2, h2, X2, e2, W2, st2⟩ := putF X1 hx hZ hown (host := "") (Or.inl (hw _ (List.mem_of_getElem? (i := 69) rfl))) (Via.of (hw _ (List.mem_of_getElem? (i := 70) rfl))) e1 Fm Ex (Or.inl (hw _ (List.mem_of_getElem? (i := 56) rfl))) (hw _ (List.mem_of_getElem? (i := 37) rfl)) (ty := .int) (by decide) rfl rfl (g := (mkF m 7 #[.val (.ref a1), .val (.ref c1)] [(.int (mc + (1 : Int32))), (.ref a1)])) rfl rfl (hb hby da1_7)
    have Sd_2 : Sta Z h2 "java/util/ArrayList" "DEFAULTCAPACITY_EMPTY_ELEMENTDATA" "[Ljava/lang/Object;" (.ref d0) := Sd.wr W2
    have Vd_2 : Arv Z h2 d0 kd (.object "java/lang/Object") (0 : Int32) [] .null := Vd.other W2 nd
    have Cx_2 : Exa Z h2 c1 "com/example/sukima/sukima/catalog/Column" := Cx.wr W2
    have Ex_2 : Exa Z h2 a1 "java/util/ArrayList" := Ex.wr W2
    have Fe_2 : Fld Z h2 a1 "java/util/ArrayList" "elementData" "[Ljava/lang/Object;" (.ref d0) := Fe.other W2 (Or.inr (slot_ne (Or.inl (hw _ (List.mem_of_getElem? (i := 59) rfl))) (Or.inl (hw _ (List.mem_of_getElem? (i := 56) rfl))) (by decide) (t := (.array (.object "java/lang/Object"))) (t' := .int) (by decide) (by decide)))
    have Fs_2 : Fld Z h2 a1 "java/util/ArrayList" "size" "I" (.int (0 : Int32)) := Fs.other W2 (Or.inr (slot_ne (Or.inl (hw _ (List.mem_of_getElem? (i := 72) rfl))) (Or.inl (hw _ (List.mem_of_getElem? (i := 56) rfl))) (by decide) (t := .int) (t' := .int) (by decide) (by decide)))
    have Fm_2 : Fld Z h2 a1 "java/util/AbstractList" "modCount" "I" (.int (mc + (1 : Int32))) := Fm.same W2
    have Zs2 : n0 ≤ h2.size := Nat.le_trans Z0 (Keep.of_wr W2).1
    have Kp2 : Keep h0 h2 [a1] := (Keep.refl h0 [a1]).wr W2 (Or.inl (by simp))
    have N2 := Fr.snoc X2 N0 ga
    refine own_go (T1 := T2) (g1 := (mkF m 10 #[.val (.ref a1), .val (.ref c1)] [])) (fun t k => st2 t k) ?_
    refine own_go (T1 := T2) (g1 := (mkF m 11 #[.val (.ref a1), .val (.ref c1)] [(.ref a1)])) (fun _ k => XS.aloadN X2.here hx rfl (hb hby da1_10) rfl rfl k) ?_
    refine own_go (T1 := T2) (g1 := (mkF m 12 #[.val (.ref a1), .val (.ref c1)] [(.ref c1), (.ref a1)])) (fun _ k => XS.aloadN X2.here hx rfl (hb hby da1_11) rfl rfl k) ?_
    refine own_go (T1 := T2) (g1 := (mkF m 13 #[.val (.ref a1), .val (.ref c1)] [(.ref a1), (.ref c1), (.ref a1)])) (fun _ k => XS.aloadN X2.here hx rfl (hb hby da1_12) rfl rfl k) ?_
    obtain ⟨T3, X3, e3, st3⟩ := getF X2 hx hZ hown (host := "") (Or.inl (hw _ (List.mem_of_getElem? (i := 58) rfl))) Via.refl e2 Fe_2 (g := (mkF m 13 #[.val (.ref a1), .val (.ref c1)] [(.ref a1), (.ref c1), (.ref a1)])) rfl rfl (hb hby da1_13)
    refine own_go (T1 := T3) (g1 := (mkF m 16 #[.val (.ref a1), .val (.ref c1)] [(.ref d0), (.ref c1), (.ref a1)])) (fun t k => st3 t k) ?_
    refine own_go (T1 := T3) (g1 := (mkF m 17 #[.val (.ref a1), .val (.ref c1)] [(.ref a1), (.ref d0), (.ref c1), (.ref a1)])) (fun _ k => XS.aloadN X3.here hx rfl (hb hby da1_16) rfl rfl k) ?_
    obtain ⟨T4, X4, e4, st4⟩ := getF X3 hx hZ hown (host := "") (Or.inl (hw _ (List.mem_of_getElem? (i := 71) rfl))) Via.refl e3 Fs_2 (g := (mkF m 17 #[.val (.ref a1), .val (.ref c1)] [(.ref a1), (.ref d0), (.ref c1), (.ref a1)])) rfl rfl (hb hby da1_17)
    refine own_go (T1 := T4) (g1 := (mkF m 20 #[.val (.ref a1), .val (.ref c1)] [(.int (0 : Int32)), (.ref d0), (.ref c1), (.ref a1)])) (fun t k => st4 t k) ?_
    obtain ⟨cq5, q5, q5'⟩ := Ex_2.cell
    obtain ⟨_, _, ⟨T5, L5, k5, n5⟩, -, X5, ⟨Lc5, hQ5, l5, y5, z5⟩, st5⟩ := X4.privateBack hx (y := (⟨"java/util/ArrayList", "add", "(Ljava/lang/Object;[Ljava/lang/Object;I)V"⟩ : MethodName)) hown (mvT hZ (hw _ (List.mem_of_getElem? (i := 73) rfl))) (mvT hZ (hw _ (List.mem_of_getElem? (i := 74) rfl))) (mvT hZ (hw _ (List.mem_of_getElem? (i := 76) rfl))) (Cond.privateMethod_at (mvP hZ (hw _ (List.mem_of_getElem? (i := 75) rfl)) (args := #[]))) (mvT hZ (hw _ (List.mem_of_getElem? (i := 77) rfl))) (by decide) (backOf (W := 0) (rma3 l Z a0 hw [] a1 c1 d0 kd (mc + (1 : Int32)) h2 n0 Zs2 ⟨Ex_2, Fe_2, Fs_2, Fm_2, ga⟩ Sd_2 Vd_2 nd Cx_2 nc) hZ (hw _ (List.mem_of_getElem? (i := 77) rfl)) (hw _ (List.mem_of_getElem? (i := 38) rfl)) (by decide) (by decide)) (g := (mkF m 20 #[.val (.ref a1), .val (.ref c1)] [(.int (0 : Int32)), (.ref d0), (.ref c1), (.ref a1)])) rfl (by rw [hml]; rfl) (Steps.refl _) (a := a1) (by rw [e4]; exact q5) q5' (argsL := [(.ref c1), (.ref d0), (.int (0 : Int32))]) (rest := []) (lenOf own_pd_LjavaxlangxObjectxALjavaxlangxObjectxI_V rfl) rfl (by show 2 * 0 + _ ≤ _; exact Nat.le_of_eq rfl) (hb hby da1_20) (fun _ _ => ⟨rfl, e4, (by decide : 0 + 1 ≤ _), (by decide : 0 + 10 ≤ _)⟩)
    dsimp only [Pt.U, Pt.locs, Pt.cells, Pt.slots] at X5 l5 y5 z5 st5 hQ5
    subst l5 y5 z5
    obtain ⟨b5, kb5, rfl, N5q, K5, sz5, ge5, HA5, Vb5, Ov5⟩ := hQ5
    have N5 := Fr.app N2 N5q
    refine own_go (T1 := T5) (g1 := (mkF m 23 #[.val (.ref a1), .val (.ref c1)] [])) (fun t k => st5.trans k) ?_
    refine own_go (T1 := T5) (g1 := (mkF m 24 #[.val (.ref a1), .val (.ref c1)] [(.int (1 : Int32))])) (fun _ k => XS.iconst X5.here hx rfl (hb hby da1_23) k) ?_
    exact ⟨T5, _, _, _, _, X5, ⟨24, _, (1 : Int32), rfl, (hb hby da1_24), rfl, rfl, ⟨b5, kb5, rfl, N5, Kp2.trans K5 (fun _ q => Or.inl q), Nat.le_trans Kp2.1 sz5, ge5, HA5, Vb5, Ov5⟩⟩, fun _ k => k⟩
  obtain ⟨T', g', L', k', n', X', ⟨pcr, Ls, z, rfl, hd, rfl, rfl, hQ⟩, st⟩ := main
  obtain ⟨fs, hr, hrun, hended, hW, hsame⟩ := X'.leave (v := (some (.int (nar .boolean z)))) (fun h => by rw [Bd.returns] at h; cases h)
  refine ⟨_, _, castTop (ef_rma1 m a1 c1) (st _ ?_), hrun, hended, _, _, rfl, hQ, ⟨_, rfl⟩, hW, hsame.mono (by decide) (by decide)⟩
  exact retN X' hx (t := .boolean) Bd.returns (by simp) hd hr
theorem ef_rma1p (m : MethodId) (a1 : Addr) (c1 : Addr) : entryFrame m #[(.ref a1), (.ref c1)] 2 = mkF m 0 #[.val (.ref a1), .val (.ref c1)] [] := by first | (simp [entryFrame, mkF, argsToLocals, Value.category]; done) | rfl
set_option maxRecDepth 65536 in
set_option maxHeartbeats 4000000 in
theorem rma1p (l : Launch) (Z : State) (a0 : Array Value) (hw : ∀ d ∈ tables_1, d.before a0 Z = true) (ws : List Jvm.Cond) (a1 c1 eb : Addr) (kb : ClassId) (zs mc : Int32) (vs : List Value) (h0 : Heap) (n0 : Nat) (Z0 : n0 ≤ h0.size) (HA : own_AL Z h0 n0 a1 (.ref eb) zs mc) (Vb : Arv Z h0 eb kb (.object "java/lang/Object") (10 : Int32) vs .null) (Ov : Ovr Z kb "java/lang/Object") (gb : n0 ≤ eb) (nb : a1 ≠ eb) (nc : c1 ≠ a1) (hs1 : ¬ zs < 0 ∧ zs < (10 : Int32)) (hs2 : zs.toNatClampNeg = vs.length) (hs3 : ¬ (zs = (10 : Int32))) (Cx : Exa Z h0 c1 "com/example/sukima/sukima/catalog/Column") :
    MetFree l (⟨"java/util/ArrayList", "add", "(Ljava/lang/Object;)Z"⟩ : MethodName) (head1 (Jvm.Cond.code (⟨"java/util/ArrayList", "add", "(Ljava/lang/Object;)Z"⟩ : MethodName) jdk_38_method_25_code 2 (some .boolean) :: ws) ({ frames := 1, cells := 0, slots := 0, locals := 15 } : Room)) (fun a U => a = #[(.ref a1), (.ref c1)] ∧ Z.Warmed39 U.vm ∧ U.heap = h0) (fun _ _ _ _ _ => True) (fun _ U o U' => ∃ v L, o = .returned v ∧ Qp Z a1 c1 eb kb zs (mc + 1) vs (some (.int 1)) h0 n0 v U'.heap L ∧ FrameEnd U o U' L ({ frames := 1, cells := 0, slots := 0, locals := 15 } : Room).cells ({ frames := 1, cells := 0, slots := 0, locals := 15 } : Room).slots) := by
  refine MetFree.of_bodySF (plainFor_of_name (by first | (simp [plainName, overriddenIn]; done) | decide +kernel)) hisR ?_
  intro p e s m args below meth c s₁ Bd hml0 hP hK
  obtain ⟨rfl, hZ, hh⟩ := hP
  have hx := Bd.exec
  have hby := Bd.bytes
  have hml : c.maxLocals = 2 := hml0
  have hown : s.vm.findClass "java/util/ArrayList" = some m.cls := findClass_of_methodNamed Bd.named
  have hnm := (name_of_methodNamed Bd.named Bd.method).1
  have X0 : Stand p l e ({ frames := 1, cells := 0, slots := 0, locals := 15 } : Room) s m #[(.ref a1), (.ref c1)] below meth c s₁ [] 0 0 := Stand.of_body Bd
  have e0 : s₁.heap = h0 := by rw [← hh, Bd.state]; rfl
  have N0 := Fr.nil n0
  have main : own_To p l e ({ frames := 1, cells := 0, slots := 0, locals := 15 } : Room) s m #[(.ref a1), (.ref c1)] below meth c s₁ (mkF m 0 #[.val (.ref a1), .val (.ref c1)] []) (fun T' g' L kq zq => ∃ pcr Ls z, g' = mkF m pcr Ls [.int z] ∧ decode c.code pcr = .ok (.ireturn, 1) ∧ kq = 0 ∧ zq = 0 ∧ Qp Z a1 c1 eb kb zs (mc + 1) vs (some (.int 1)) h0 n0 (some (.int (nar .boolean z))) T'.heap L) := by
    have HA0 := HA
    obtain ⟨Ex, Fe, Fs, Fm, ga⟩ := HA
    refine own_go (T1 := s₁) (g1 := (mkF m 1 #[.val (.ref a1), .val (.ref c1)] [(.ref a1)])) (fun _ k => XS.aloadN X0.here hx rfl (hb hby da1_0) rfl rfl k) ?_
    refine own_go (T1 := s₁) (g1 := (mkF m 2 #[.val (.ref a1), .val (.ref c1)] [(.ref a1), (.ref a1)])) (fun _ k => XS.dup X0.here hx rfl (hb hby da1_1) rfl rfl k) ?_
    obtain ⟨T1, X1, e1, st1⟩ := getF X0 hx hZ hown (host := "") (Or.inl (hw _ (List.mem_of_getElem? (i := 69) rfl))) (Via.of (hw _ (List.mem_of_getElem? (i := 70) rfl))) e0 Fm (g := (mkF m 2 #[.val (.ref a1), .val (.ref c1)] [(.ref a1), (.ref a1)])) rfl rfl (hb hby da1_2)
    refine own_go (T1 := T1) (g1 := (mkF m 5 #[.val (.ref a1), .val (.ref c1)] [(.int mc), (.ref a1)])) (fun t k => st1 t k) ?_
    refine own_go (T1 := T1) (g1 := (mkF m 6 #[.val (.ref a1), .val (.ref c1)] [(.int (1 : Int32)), (.int mc), (.ref a1)])) (fun _ k => XS.iconst X1.here hx rfl (hb hby da1_5) k) ?_
    refine own_go (T1 := T1) (g1 := (mkF m 7 #[.val (.ref a1), .val (.ref c1)] [(.int (mc + (1 : Int32))), (.ref a1)])) (fun _ k => XS.iadd X1.here hx rfl (hb hby da1_6) rfl k) ?_
    obtain ⟨T2, h2, X2, e2, W2, st2⟩ := putF X1 hx hZ hown (host := "") (Or.inl (hw _ (List.mem_of_getElem? (i := 69) rfl))) (Via.of (hw _ (List.mem_of_getElem? (i := 70) rfl))) e1 Fm Ex (Or.inl (hw _ (List.mem_of_getElem? (i := 56) rfl))) (hw _ (List.mem_of_getElem? (i := 37) rfl)) (ty := .int) (by decide) rfl rfl (g := (mkF m 7 #[.val (.ref a1), .val (.ref c1)] [(.int (mc + (1 : Int32))), (.ref a1)])) rfl rfl (hb hby da1_7)
    have Ex_2 : Exa Z h2 a1 "java/util/ArrayList" := Ex.wr W2
    have Fe_2 : Fld Z h2 a1 "java/util/ArrayList" "elementData" "[Ljava/lang/Object;" (.ref eb) := Fe.other W2 (Or.inr (slot_ne (Or.inl (hw _ (List.mem_of_getElem? (i := 59) rfl))) (Or.inl (hw _ (List.mem_of_getElem? (i := 56) rfl))) (by decide) (t := (.array (.object "java/lang/Object"))) (t' := .int) (by decide) (by decide)))
    have Fs_2 : Fld Z h2 a1 "java/util/ArrayList" "size" "I" (.int zs) := Fs.other W2 (Or.inr (slot_ne (Or.inl (hw _ (List.mem_of_getElem? (i := 72) rfl))) (Or.inl (hw _ (List.mem_of_getElem? (i := 56) rfl))) (by decide) (t := .int) (t' := .int) (by decide) (by decide)))
    have Vb_2 : Arv Z h2 eb kb (.object "java/lang/Object") (10 : Int32) vs .null := Vb.other W2 (Ne.symm nb)
    have Cx_2 : Exa Z h2 c1 "com/example/sukima/sukima/catalog/Column" := Cx.wr W2
    have Fm_2 : Fld Z h2 a1 "java/util/AbstractList" "modCount" "I" (.int (mc + (1 : Int32))) := Fm.same W2
    have Zs2 : n0 ≤ h2.size := Nat.le_trans Z0 (Keep.of_wr W2).1
    have Kp2 : Keep h0 h2 [a1, eb] := (Keep.refl h0 [a1, eb]).wr W2 (Or.inl (by simp))
    have N2 := Fr.snoc X2 N0 ga
    refine own_go (T1 := T2) (g1 := (mkF m 10 #[.val (.ref a1), .val (.ref c1)] [])) (fun t k => st2 t k) ?_
    refine own_go (T1 := T2) (g1 := (mkF m 11 #[.val (.ref a1), .val (.ref c1)] [(.ref a1)])) (fun _ k => XS.aloadN X2.here hx rfl (hb hby da1_10) rfl rfl k) ?_
    refine own_go (T1 := T2) (g1 := (mkF m 12 #[.val (.ref a1), .val (.ref c1)] [(.ref c1), (.ref a1)])) (fun _ k => XS.aloadN X2.here hx rfl (hb hby da1_11) rfl rfl k) ?_
    refine own_go (T1 := T2) (g1 := (mkF m 13 #[.val (.ref a1), .val (.ref c1)] [(.ref a1), (.ref c1), (.ref a1)])) (fun _ k => XS.aloadN X2.here hx rfl (hb hby da1_12) rfl rfl k) ?_
    obtain ⟨T3, X3, e3, st3⟩ := getF X2 hx hZ hown (host := "") (Or.inl (hw _ (List.mem_of_getElem? (i := 58) rfl))) Via.refl e2 Fe_2 (g := (mkF m 13 #[.val (.ref a1), .val (.ref c1)] [(.ref a1), (.ref c1), (.ref a1)])) rfl rfl (hb hby da1_13)
    refine own_go (T1 := T3) (g1 := (mkF m 16 #[.val (.ref a1), .val (.ref c1)] [(.ref eb), (.ref c1), (.ref a1)])) (fun t k => st3 t k) ?_
    refine own_go (T1 := T3) (g1 := (mkF m 17 #[.val (.ref a1), .val (.ref c1)] [(.ref a1), (.ref eb), (.ref c1), (.ref a1)])) (fun _ k => XS.aloadN X3.here hx rfl (hb hby da1_16) rfl rfl k) ?_
    obtain ⟨T4, X4, e4, st4⟩ := getF X3 hx hZ hown (host := "") (Or.inl (hw _ (List.mem_of_getElem? (i := 71) rfl))) Via.refl e3 Fs_2 (g := (mkF m 17 #[.val (.ref a1), .val (.ref c1)] [(.ref a1), (.ref eb), (.ref c1), (.ref a1)])) rfl rfl (hb hby da1_17)
    refine own_go (T1 := T4) (g1 := (mkF m 20 #[.val (.ref a1), .val (.ref c1)] [(.int zs), (.ref eb), (.ref c1), (.ref a1)])) (fun t k => st4 t k) ?_
    obtain ⟨cq5, q5, q5'⟩ := Ex_2.cell
    obtain ⟨_, _, ⟨T5, L5, k5, n5⟩, -, X5, ⟨Lc5, hQ5, l5, y5, z5⟩, st5⟩ := X4.privateBack hx (y := (⟨"java/util/ArrayList", "add", "(Ljava/lang/Object;[Ljava/lang/Object;I)V"⟩ : MethodName)) hown (mvT hZ (hw _ (List.mem_of_getElem? (i := 73) rfl))) (mvT hZ (hw _ (List.mem_of_getElem? (i := 74) rfl))) (mvT hZ (hw _ (List.mem_of_getElem? (i := 76) rfl))) (Cond.privateMethod_at (mvP hZ (hw _ (List.mem_of_getElem? (i := 75) rfl)) (args := #[]))) (mvT hZ (hw _ (List.mem_of_getElem? (i := 77) rfl))) (by decide) (backOf (W := 0) (rma3p l Z a0 hw [] a1 c1 eb kb zs (mc + (1 : Int32)) vs h2 n0 Zs2 ⟨Ex_2, Fe_2, Fs_2, Fm_2, ga⟩ Vb_2 Ov gb nb nc hs1 hs2 hs3 Cx_2) hZ (hw _ (List.mem_of_getElem? (i := 77) rfl)) (hw _ (List.mem_of_getElem? (i := 38) rfl)) (by decide) (by decide)) (g := (mkF m 20 #[.val (.ref a1), .val (.ref c1)] [(.int zs), (.ref eb), (.ref c1), (.ref a1)])) rfl (by rw [hml]; rfl) (Steps.refl _) (a := a1) (by rw [e4]; exact q5) q5' (argsL := [(.ref c1), (.ref eb), (.int zs)]) (rest := []) (lenOf own_pd_LjavaxlangxObjectxALjavaxlangxObjectxI_V rfl) rfl (by show 2 * 0 + _ ≤ _; exact Nat.le_of_eq rfl) (hb hby da1_20) (fun _ _ => ⟨rfl, e4, (by decide : 0 + 0 ≤ _), (by decide : 0 + 0 ≤ _)⟩)
    dsimp only [Pt.U, Pt.locs, Pt.cells, Pt.slots] at X5 l5 y5 z5 st5 hQ5
    subst l5 y5 z5
    obtain ⟨rfl, N5q, K5, HA5, Vb5⟩ := hQ5
    have N5 := Fr.app N2 N5q
    refine own_go (T1 := T5) (g1 := (mkF m 23 #[.val (.ref a1), .val (.ref c1)] [])) (fun t k => st5.trans k) ?_
    refine own_go (T1 := T5) (g1 := (mkF m 24 #[.val (.ref a1), .val (.ref c1)] [(.int (1 : Int32))])) (fun _ k => XS.iconst X5.here hx rfl (hb hby da1_23) k) ?_
    exact ⟨T5, _, _, _, _, X5, ⟨24, _, (1 : Int32), rfl, (hb hby da1_24), rfl, rfl, ⟨rfl, N5, Kp2.trans K5 (fun _ q => Or.inl q), HA5, Vb5⟩⟩, fun _ k => k⟩
  obtain ⟨T', g', L', k', n', X', ⟨pcr, Ls, z, rfl, hd, rfl, rfl, hQ⟩, st⟩ := main
  obtain ⟨fs, hr, hrun, hended, hW, hsame⟩ := X'.leave (v := (some (.int (nar .boolean z)))) (fun h => by rw [Bd.returns] at h; cases h)
  refine ⟨_, _, castTop (ef_rma1p m a1 c1) (st _ ?_), hrun, hended, _, _, rfl, hQ, ⟨_, rfl⟩, hW, hsame.mono (by decide) (by decide)⟩
  exact retN X' hx (t := .boolean) Bd.returns (by simp) hd hr
def QI (i : Int32) (h0 : Heap) (n0 : Nat) (v : Option Value) (h : Heap) (L : List Loc) : Prop := v = some (.int i) ∧ Fr n0 L ∧ h = h0
theorem dpc_0 : decode jdk_41_method_11_code 0 = .ok (.iload_n 0, 1) := by decide +kernel
theorem dpc_1 : decode jdk_41_method_11_code 1 = .ok (.ifCond .lt 8, 3) := by decide +kernel
theorem dpc_4 : decode jdk_41_method_11_code 4 = .ok (.iload_n 0, 1) := by decide +kernel
theorem dpc_5 : decode jdk_41_method_11_code 5 = .ok (.iload_n 1, 1) := by decide +kernel
theorem dpc_6 : decode jdk_41_method_11_code 6 = .ok (.if_icmp .lt 10, 3) := by decide +kernel
theorem dpc_16 : decode jdk_41_method_11_code 16 = .ok (.iload_n 0, 1) := by decide +kernel
theorem dpc_17 : decode jdk_41_method_11_code 17 = .ok (.ireturn, 1) := by decide +kernel
theorem ef_rmpc (m : MethodId) (i : Int32) : entryFrame m #[(.int i), (.int (4 : Int32)), .null] 3 = mkF m 0 #[.val (.int i), .val (.int (4 : Int32)), .val .null] [] := by first | (simp [entryFrame, mkF, argsToLocals, Value.category]; done) | rfl
set_option maxRecDepth 65536 in
set_option maxHeartbeats 4000000 in
theorem rmpc (l : Launch) (Z : State) (a0 : Array Value) (hw : ∀ d ∈ tables_1, d.before a0 Z = true) (ws : List Jvm.Cond) (i : Int32) (h0 : Heap) (n0 : Nat) (Z0 : n0 ≤ h0.size) (hi : ¬ i < (0 : Int32) ∧ i < (4 : Int32)) :
    MetFree l (⟨"jdk/internal/util/Preconditions", "checkIndex", "(IILjava/util/function/BiFunction;)I"⟩ : MethodName) (head1 (Jvm.Cond.code (⟨"jdk/internal/util/Preconditions", "checkIndex", "(IILjava/util/function/BiFunction;)I"⟩ : MethodName) jdk_41_method_11_code 3 (some .int) :: ws) ({ frames := 0, cells := 0, slots := 0, locals := 0 } : Room)) (fun a U => a = #[(.int i), (.int (4 : Int32)), .null] ∧ Z.Warmed39 U.vm ∧ U.heap = h0) (fun _ _ _ _ _ => True) (fun _ U o U' => ∃ v L, o = .returned v ∧ QI i h0 n0 v U'.heap L ∧ FrameEnd U o U' L ({ frames := 0, cells := 0, slots := 0, locals := 0 } : Room).cells ({ frames := 0, cells := 0, slots := 0, locals := 0 } : Room).slots) := by
  refine MetFree.of_bodySF (plainFor_of_name (by first | (simp [plainName, overriddenIn]; done) | decide +kernel)) hisR ?_
  intro p e s m args below meth c s₁ Bd hml0 hP hK
  obtain ⟨rfl, hZ, hh⟩ := hP
  have hx := Bd.exec
  have hby := Bd.bytes
  have hml : c.maxLocals = 3 := hml0
  have hown : s.vm.findClass "jdk/internal/util/Preconditions" = some m.cls := findClass_of_methodNamed Bd.named
  have hnm := (name_of_methodNamed Bd.named Bd.method).1
  have X0 : Stand p l e ({ frames := 0, cells := 0, slots := 0, locals := 0 } : Room) s m #[(.int i), (.int (4 : Int32)), .null] below meth c s₁ [] 0 0 := Stand.of_body Bd
  have e0 : s₁.heap = h0 := by rw [← hh, Bd.state]; rfl
  have N0 := Fr.nil n0
  have main : own_To p l e ({ frames := 0, cells := 0, slots := 0, locals := 0 } : Room) s m #[(.int i), (.int (4 : Int32)), .null] below meth c s₁ (mkF m 0 #[.val (.int i), .val (.int (4 : Int32)), .val .null] []) (fun T' g' L kq zq => ∃ pcr Ls z, g' = mkF m pcr Ls [.int z] ∧ decode c.code pcr = .ok (.ireturn, 1) ∧ kq = 0 ∧ zq = 0 ∧ QI i h0 n0 (some (.int z)) T'.heap L) := by
    refine own_go (T1 := s₁) (g1 := (mkF m 1 #[.val (.int i), .val (.int (4 : Int32)), .val .null] [(.int i)])) (fun _ k => XS.iloadN X0.here hx rfl (hb hby dpc_0) rfl k) ?_
    refine own_go (T1 := s₁) (g1 := (mkF m 4 #[.val (.int i), .val (.int (4 : Int32)), .val .null] [])) (fun _ k => XS.ifNo X0.here hx rfl (hb hby dpc_1) rfl ((if0 _ _).trans (flt (hi.1 : ¬ (i < (0 : Int32)))).1) k) ?_
    refine own_go (T1 := s₁) (g1 := (mkF m 5 #[.val (.int i), .val (.int (4 : Int32)), .val .null] [(.int i)])) (fun _ k => XS.iloadN X0.here hx rfl (hb hby dpc_4) rfl k) ?_
    refine own_go (T1 := s₁) (g1 := (mkF m 6 #[.val (.int i), .val (.int (4 : Int32)), .val .null] [(.int (4 : Int32)), (.int i)])) (fun _ k => XS.iloadN X0.here hx rfl (hb hby dpc_5) rfl k) ?_
    refine own_go (T1 := s₁) (g1 := (mkF m 16 #[.val (.int i), .val (.int (4 : Int32)), .val .null] [])) (fun _ k => XS.icmpYes X0.here hx rfl (pc0 := 6) (pc' := 16) rfl (hb hby dpc_6) rfl (tlt (hi.2 : i < (4 : Int32))).1 (by decide) (by decide) k) ?_
    refine own_go (T1 := s₁) (g1 := (mkF m 17 #[.val (.int i), .val (.int (4 : Int32)), .val .null] [(.int i)])) (fun _ k => XS.iloadN X0.here hx rfl (hb hby dpc_16) rfl k) ?_
    exact ⟨s₁, _, _, _, _, X0, ⟨17, _, i, rfl, (hb hby dpc_17), rfl, rfl, (by rw [e0]; exact ⟨rfl, N0, rfl⟩)⟩, fun _ k => k⟩
  obtain ⟨T', g', L', k', n', X', ⟨pcr, Ls, z, rfl, hd, rfl, rfl, hQ⟩, st⟩ := main
  obtain ⟨fs, hr, hrun, hended, hW, hsame⟩ := X'.leave (v := (some (.int z))) (fun h => by rw [Bd.returns] at h; cases h)
  refine ⟨_, _, castTop (ef_rmpc m i) (st _ ?_), hrun, hended, _, _, rfl, hQ, ⟨_, rfl⟩, hW, hsame.mono (by decide) (by decide)⟩
  exact retI X' hx Bd.returns hd hr
theorem own_pd_IILjavaxutilxfunctionxBiFunctionx_I : parseMethodDescriptor "(IILjava/util/function/BiFunction;)I" = some ⟨[.int, .int, (.object "java/util/function/BiFunction")], some .int⟩ := by decide +kernel
theorem doc_0 : decode jdk_31_method_17_code 0 = .ok (.iload_n 0, 1) := by decide +kernel
theorem doc_1 : decode jdk_31_method_17_code 1 = .ok (.iload_n 1, 1) := by decide +kernel
theorem doc_2 : decode jdk_31_method_17_code 2 = .ok (.aconst_null, 1) := by decide +kernel
theorem doc_3 : decode jdk_31_method_17_code 3 = .ok (.invokestatic 105, 3) := by decide +kernel
theorem doc_6 : decode jdk_31_method_17_code 6 = .ok (.ireturn, 1) := by decide +kernel
theorem ef_rmoc (m : MethodId) (i : Int32) : entryFrame m #[(.int i), (.int (4 : Int32))] 2 = mkF m 0 #[.val (.int i), .val (.int (4 : Int32))] [] := by first | (simp [entryFrame, mkF, argsToLocals, Value.category]; done) | rfl
set_option maxRecDepth 65536 in
set_option maxHeartbeats 4000000 in
theorem rmoc (l : Launch) (Z : State) (a0 : Array Value) (hw : ∀ d ∈ tables_1, d.before a0 Z = true) (ws : List Jvm.Cond) (i : Int32) (h0 : Heap) (n0 : Nat) (Z0 : n0 ≤ h0.size) (hi : ¬ i < (0 : Int32) ∧ i < (4 : Int32)) :
    MetFree l (⟨"java/util/Objects", "checkIndex", "(II)I"⟩ : MethodName) (head1 (Jvm.Cond.code (⟨"java/util/Objects", "checkIndex", "(II)I"⟩ : MethodName) jdk_31_method_17_code 2 (some .int) :: ws) ({ frames := 1, cells := 0, slots := 0, locals := 14 } : Room)) (fun a U => a = #[(.int i), (.int (4 : Int32))] ∧ Z.Warmed39 U.vm ∧ U.heap = h0) (fun _ _ _ _ _ => True) (fun _ U o U' => ∃ v L, o = .returned v ∧ QI i h0 n0 v U'.heap L ∧ FrameEnd U o U' L ({ frames := 1, cells := 0, slots := 0, locals := 14 } : Room).cells ({ frames := 1, cells := 0, slots := 0, locals := 14 } : Room).slots) := by
  refine MetFree.of_bodySF (plainFor_of_name (by first | (simp [plainName, overriddenIn]; done) | decide +kernel)) hisR ?_
  intro p e s m args below meth c s₁ Bd hml0 hP hK
  obtain ⟨rfl, hZ, hh⟩ := hP
  have hx := Bd.exec
  have hby := Bd.bytes
  have hml : c.maxLocals = 2 := hml0
  have hown : s.vm.findClass "java/util/Objects" = some m.cls := findClass_of_methodNamed Bd.named
  have hnm := (name_of_methodNamed Bd.named Bd.method).1
  have X0 : Stand p l e ({ frames := 1, cells := 0, slots := 0, locals := 14 } : Room) s m #[(.int i), (.int (4 : Int32))] below meth c s₁ [] 0 0 := Stand.of_body Bd
  have e0 : s₁.heap = h0 := by rw [← hh, Bd.state]; rfl
  have N0 := Fr.nil n0
  have main : own_To p l e ({ frames := 1, cells := 0, slots := 0, locals := 14 } : Room) s m #[(.int i), (.int (4 : Int32))] below meth c s₁ (mkF m 0 #[.val (.int i), .val (.int (4 : Int32))] []) (fun T' g' L kq zq => ∃ pcr Ls z, g' = mkF m pcr Ls [.int z] ∧ decode c.code pcr = .ok (.ireturn, 1) ∧ kq = 0 ∧ zq = 0 ∧ QI i h0 n0 (some (.int z)) T'.heap L) := by
    refine own_go (T1 := s₁) (g1 := (mkF m 1 #[.val (.int i), .val (.int (4 : Int32))] [(.int i)])) (fun _ k => XS.iloadN X0.here hx rfl (hb hby doc_0) rfl k) ?_
    refine own_go (T1 := s₁) (g1 := (mkF m 2 #[.val (.int i), .val (.int (4 : Int32))] [(.int (4 : Int32)), (.int i)])) (fun _ k => XS.iloadN X0.here hx rfl (hb hby doc_1) rfl k) ?_
    refine own_go (T1 := s₁) (g1 := (mkF m 3 #[.val (.int i), .val (.int (4 : Int32))] [.null, (.int (4 : Int32)), (.int i)])) (fun _ k => XS.aconstNull X0.here hx rfl (hb hby doc_2) k) ?_
    obtain ⟨_, _, ⟨T1, L1, k1, n1⟩, -, X1, ⟨Lc1, hQ1, l1, y1, z1⟩, st1⟩ := Jvm.LawKit.callS X0 hx (y := (⟨"jdk/internal/util/Preconditions", "checkIndex", "(IILjava/util/function/BiFunction;)I"⟩ : MethodName)) hown (mvT hZ (hw _ (List.mem_of_getElem? (i := 168) rfl))) (mvT hZ (hw _ (List.mem_of_getElem? (i := 169) rfl))) (mvT hZ (hw _ (List.mem_of_getElem? (i := 170) rfl))) (mvT hZ (hw _ (List.mem_of_getElem? (i := 171) rfl))) (by decide) (backOf (W := 0) (rmpc l Z a0 hw [] i h0 n0 Z0 hi) hZ (hw _ (List.mem_of_getElem? (i := 171) rfl)) (hw _ (List.mem_of_getElem? (i := 170) rfl)) (by decide) (by decide)) (g := (mkF m 3 #[.val (.int i), .val (.int (4 : Int32))] [.null, (.int (4 : Int32)), (.int i)])) rfl (by rw [hml]; rfl) (argsL := [(.int i), (.int (4 : Int32)), .null]) (rest := []) (lenOf own_pd_IILjavaxutilxfunctionxBiFunctionx_I rfl) rfl (by show 2 * 0 + _ ≤ _; exact Nat.le_of_eq rfl) (hb hby doc_3) (fun _ _ => ⟨rfl, e0, (by decide : 0 + 0 ≤ _), (by decide : 0 + 0 ≤ _)⟩)
    dsimp only [Pt.U, Pt.locs, Pt.cells, Pt.slots] at X1 l1 y1 z1 st1 hQ1
    subst l1 y1 z1
    obtain ⟨rfl, N1q, e1⟩ := hQ1
    have N1 := Fr.app N0 N1q
    refine own_go (T1 := T1) (g1 := (mkF m 6 #[.val (.int i), .val (.int (4 : Int32))] [(.int i)])) (fun t k => st1 t k) ?_
    exact ⟨T1, _, _, _, _, X1, ⟨6, _, i, rfl, (hb hby doc_6), rfl, rfl, (by rw [e1]; exact ⟨rfl, N1, rfl⟩)⟩, fun _ k => k⟩
  obtain ⟨T', g', L', k', n', X', ⟨pcr, Ls, z, rfl, hd, rfl, rfl, hQ⟩, st⟩ := main
  obtain ⟨fs, hr, hrun, hended, hW, hsame⟩ := X'.leave (v := (some (.int z))) (fun h => by rw [Bd.returns] at h; cases h)
  refine ⟨_, _, castTop (ef_rmoc m i) (st _ ?_), hrun, hended, _, _, rfl, hQ, ⟨_, rfl⟩, hW, hsame.mono (by decide) (by decide)⟩
  exact retI X' hx Bd.returns hd hr
def QG (c1 : Addr) (h0 : Heap) (n0 : Nat) (v : Option Value) (h : Heap) (L : List Loc) : Prop := v = some (.ref c1) ∧ Fr n0 L ∧ h = h0
theorem ded_0 : decode jdk_38_method_18_code 0 = .ok (.aload_n 0, 1) := by decide +kernel
theorem ded_1 : decode jdk_38_method_18_code 1 = .ok (.getfield 9, 3) := by decide +kernel
theorem ded_4 : decode jdk_38_method_18_code 4 = .ok (.iload_n 1, 1) := by decide +kernel
theorem ded_5 : decode jdk_38_method_18_code 5 = .ok (.aaload, 1) := by decide +kernel
theorem ded_6 : decode jdk_38_method_18_code 6 = .ok (.areturn, 1) := by decide +kernel
theorem ef_rmed (m : MethodId) (a1 : Addr) (i : Int32) : entryFrame m #[(.ref a1), (.int i)] 2 = mkF m 0 #[.val (.ref a1), .val (.int i)] [] := by first | (simp [entryFrame, mkF, argsToLocals, Value.category]; done) | rfl
set_option maxRecDepth 65536 in
set_option maxHeartbeats 4000000 in
theorem rmed (l : Launch) (Z : State) (a0 : Array Value) (hw : ∀ d ∈ tables_1, d.before a0 Z = true) (ws : List Jvm.Cond) (a1 : Addr) (i : Int32) (c1 eb : Addr) (kb : ClassId) (mc : Int32) (h0 : Heap) (n0 : Nat) (Z0 : n0 ≤ h0.size) (HA : own_AL Z h0 n0 a1 (.ref eb) 4 mc) (Vb : Arv Z h0 eb kb (.object "java/lang/Object") (10 : Int32) [.ref c1, .ref c1, .ref c1, .ref c1] .null) (hi : ¬ i < (0 : Int32) ∧ i < (4 : Int32)) (hat : ([.ref c1, .ref c1, .ref c1, .ref c1] : List Value).getD i.toNatClampNeg .null = .ref c1) :
    MetFree l (⟨"java/util/ArrayList", "elementData", "(I)Ljava/lang/Object;"⟩ : MethodName) (head1 (Jvm.Cond.code (⟨"java/util/ArrayList", "elementData", "(I)Ljava/lang/Object;"⟩ : MethodName) jdk_38_method_18_code 2 (some (.object "java/lang/Object")) :: ws) ({ frames := 0, cells := 0, slots := 0, locals := 0 } : Room)) (fun a U => a = #[(.ref a1), (.int i)] ∧ Z.Warmed39 U.vm ∧ U.heap = h0) (fun _ _ _ _ _ => True) (fun _ U o U' => ∃ v L, o = .returned v ∧ QG c1 h0 n0 v U'.heap L ∧ FrameEnd U o U' L ({ frames := 0, cells := 0, slots := 0, locals := 0 } : Room).cells ({ frames := 0, cells := 0, slots := 0, locals := 0 } : Room).slots) := by
  refine MetFree.of_bodySF (plainFor_of_name (by first | (simp [plainName, overriddenIn]; done) | decide +kernel)) hisR ?_
  intro p e s m args below meth c s₁ Bd hml0 hP hK
  obtain ⟨rfl, hZ, hh⟩ := hP
  have hx := Bd.exec
  have hby := Bd.bytes
  have hml : c.maxLocals = 2 := hml0
  have hown : s.vm.findClass "java/util/ArrayList" = some m.cls := findClass_of_methodNamed Bd.named
  have hnm := (name_of_methodNamed Bd.named Bd.method).1
  have X0 : Stand p l e ({ frames := 0, cells := 0, slots := 0, locals := 0 } : Room) s m #[(.ref a1), (.int i)] below meth c s₁ [] 0 0 := Stand.of_body Bd
  have e0 : s₁.heap = h0 := by rw [← hh, Bd.state]; rfl
  have N0 := Fr.nil n0
  have main : own_To p l e ({ frames := 0, cells := 0, slots := 0, locals := 0 } : Room) s m #[(.ref a1), (.int i)] below meth c s₁ (mkF m 0 #[.val (.ref a1), .val (.int i)] []) (fun T' g' L kq zq => ∃ pcr Ls z, g' = mkF m pcr Ls [.ref z] ∧ decode c.code pcr = .ok (.areturn, 1) ∧ kq = 0 ∧ zq = 0 ∧ QG c1 h0 n0 (some (.ref z)) T'.heap L) := by
    have HA0 := HA
    obtain ⟨Ex, Fe, Fs, Fm, ga⟩ := HA
    refine own_go (T1 := s₁) (g1 := (mkF m 1 #[.val (.ref a1), .val (.int i)] [(.ref a1)])) (fun _ k => XS.aloadN X0.here hx rfl (hb hby ded_0) rfl rfl k) ?_
    obtain ⟨T1, X1, e1, st1⟩ := getF X0 hx hZ hown (host := "") (Or.inl (hw _ (List.mem_of_getElem? (i := 58) rfl))) Via.refl e0 Fe (g := (mkF m 1 #[.val (.ref a1), .val (.int i)] [(.ref a1)])) rfl rfl (hb hby ded_1)
    refine own_go (T1 := T1) (g1 := (mkF m 4 #[.val (.ref a1), .val (.int i)] [(.ref eb)])) (fun t k => st1 t k) ?_
    refine own_go (T1 := T1) (g1 := (mkF m 5 #[.val (.ref a1), .val (.int i)] [(.int i), (.ref eb)])) (fun _ k => XS.iloadN X1.here hx rfl (hb hby ded_4) rfl k) ?_
    obtain ⟨cl2, Ar2, -, S2, -, H2, -⟩ := id Vb
    refine own_go (T1 := T1) (g1 := (mkF m 6 #[.val (.ref a1), .val (.int i)] [(.ref c1)])) (fun _ k => X1.aaload hx (j := i) (v := (.ref c1)) (by rw [e1]; exact Ar2.1) (State.isArrayOf_alike hZ.alike Ar2.2.1) rfl Ar2.2.2 (inb_of S2 ⟨hi.1, own_lt10 hi.2⟩) (H2.at (inb_of S2 ⟨hi.1, own_lt10 hi.2⟩) hat) (g := (mkF m 5 #[.val (.ref a1), .val (.int i)] [(.int i), (.ref eb)])) rfl rfl (hb hby ded_5) _ k) ?_
    exact ⟨T1, _, _, _, _, X1, ⟨6, _, c1, rfl, (hb hby ded_6), rfl, rfl, (by rw [e1]; exact ⟨rfl, N0, rfl⟩)⟩, fun _ k => k⟩
  obtain ⟨T', g', L', k', n', X', ⟨pcr, Ls, z, rfl, hd, rfl, rfl, hQ⟩, st⟩ := main
  obtain ⟨fs, hr, hrun, hended, hW, hsame⟩ := X'.leave (v := (some (.ref z))) (fun h => by rw [Bd.returns] at h; cases h)
  refine ⟨_, _, castTop (ef_rmed m a1 i) (st _ ?_), hrun, hended, _, _, rfl, hQ, ⟨_, rfl⟩, hW, hsame.mono (by decide) (by decide)⟩
  exact own_retA X' hx Bd.returns rfl hd hr
theorem own_pd_I_LjavaxlangxObjectx : parseMethodDescriptor "(I)Ljava/lang/Object;" = some ⟨[.int], some (.object "java/lang/Object")⟩ := by decide +kernel
theorem dgt_0 : decode jdk_38_method_20_code 0 = .ok (.iload_n 1, 1) := by decide +kernel
theorem dgt_1 : decode jdk_38_method_20_code 1 = .ok (.aload_n 0, 1) := by decide +kernel
theorem dgt_2 : decode jdk_38_method_20_code 2 = .ok (.getfield 48, 3) := by decide +kernel
theorem dgt_5 : decode jdk_38_method_20_code 5 = .ok (.invokestatic 118, 3) := by decide +kernel
theorem dgt_8 : decode jdk_38_method_20_code 8 = .ok (.pop, 1) := by decide +kernel
theorem dgt_9 : decode jdk_38_method_20_code 9 = .ok (.aload_n 0, 1) := by decide +kernel
theorem dgt_10 : decode jdk_38_method_20_code 10 = .ok (.iload_n 1, 1) := by decide +kernel
theorem dgt_11 : decode jdk_38_method_20_code 11 = .ok (.invokevirtual 123, 3) := by decide +kernel
theorem dgt_14 : decode jdk_38_method_20_code 14 = .ok (.areturn, 1) := by decide +kernel
theorem ef_rmgt (m : MethodId) (a1 : Addr) (i : Int32) : entryFrame m #[(.ref a1), (.int i)] 2 = mkF m 0 #[.val (.ref a1), .val (.int i)] [] := by first | (simp [entryFrame, mkF, argsToLocals, Value.category]; done) | rfl
set_option maxRecDepth 65536 in
set_option maxHeartbeats 4000000 in
theorem rmgt (l : Launch) (Z : State) (a0 : Array Value) (hw : ∀ d ∈ tables_1, d.before a0 Z = true) (ws : List Jvm.Cond) (a1 : Addr) (i : Int32) (c1 eb : Addr) (kb : ClassId) (mc : Int32) (h0 : Heap) (n0 : Nat) (Z0 : n0 ≤ h0.size) (HA : own_AL Z h0 n0 a1 (.ref eb) 4 mc) (Vb : Arv Z h0 eb kb (.object "java/lang/Object") (10 : Int32) [.ref c1, .ref c1, .ref c1, .ref c1] .null) (hi : ¬ i < (0 : Int32) ∧ i < (4 : Int32)) (hat : ([.ref c1, .ref c1, .ref c1, .ref c1] : List Value).getD i.toNatClampNeg .null = .ref c1) :
    MetFree l (⟨"java/util/ArrayList", "get", "(I)Ljava/lang/Object;"⟩ : MethodName) (head1 (Jvm.Cond.code (⟨"java/util/ArrayList", "get", "(I)Ljava/lang/Object;"⟩ : MethodName) jdk_38_method_20_code 2 (some (.object "java/lang/Object")) :: ws) ({ frames := 2, cells := 0, slots := 0, locals := 27 } : Room)) (fun a U => a = #[(.ref a1), (.int i)] ∧ Z.Warmed39 U.vm ∧ U.heap = h0) (fun _ _ _ _ _ => True) (fun _ U o U' => ∃ v L, o = .returned v ∧ QG c1 h0 n0 v U'.heap L ∧ FrameEnd U o U' L ({ frames := 2, cells := 0, slots := 0, locals := 27 } : Room).cells ({ frames := 2, cells := 0, slots := 0, locals := 27 } : Room).slots) := by
  refine MetFree.of_bodySF (plainFor_of_name (by first | (simp [plainName, overriddenIn]; done) | decide +kernel)) hisR ?_
  intro p e s m args below meth c s₁ Bd hml0 hP hK
  obtain ⟨rfl, hZ, hh⟩ := hP
  have hx := Bd.exec
  have hby := Bd.bytes
  have hml : c.maxLocals = 2 := hml0
  have hown : s.vm.findClass "java/util/ArrayList" = some m.cls := findClass_of_methodNamed Bd.named
  have hnm := (name_of_methodNamed Bd.named Bd.method).1
  have X0 : Stand p l e ({ frames := 2, cells := 0, slots := 0, locals := 27 } : Room) s m #[(.ref a1), (.int i)] below meth c s₁ [] 0 0 := Stand.of_body Bd
  have e0 : s₁.heap = h0 := by rw [← hh, Bd.state]; rfl
  have N0 := Fr.nil n0
  have main : own_To p l e ({ frames := 2, cells := 0, slots := 0, locals := 27 } : Room) s m #[(.ref a1), (.int i)] below meth c s₁ (mkF m 0 #[.val (.ref a1), .val (.int i)] []) (fun T' g' L kq zq => ∃ pcr Ls z, g' = mkF m pcr Ls [.ref z] ∧ decode c.code pcr = .ok (.areturn, 1) ∧ kq = 0 ∧ zq = 0 ∧ QG c1 h0 n0 (some (.ref z)) T'.heap L) := by
    have HA0 := HA
    obtain ⟨Ex, Fe, Fs, Fm, ga⟩ := HA
    refine own_go (T1 := s₁) (g1 := (mkF m 1 #[.val (.ref a1), .val (.int i)] [(.int i)])) (fun _ k => XS.iloadN X0.here hx rfl (hb hby dgt_0) rfl k) ?_
    refine own_go (T1 := s₁) (g1 := (mkF m 2 #[.val (.ref a1), .val (.int i)] [(.ref a1), (.int i)])) (fun _ k => XS.aloadN X0.here hx rfl (hb hby dgt_1) rfl rfl k) ?_
    obtain ⟨T1, X1, e1, st1⟩ := getF X0 hx hZ hown (host := "") (Or.inl (hw _ (List.mem_of_getElem? (i := 71) rfl))) Via.refl e0 Fs (g := (mkF m 2 #[.val (.ref a1), .val (.int i)] [(.ref a1), (.int i)])) rfl rfl (hb hby dgt_2)
    refine own_go (T1 := T1) (g1 := (mkF m 5 #[.val (.ref a1), .val (.int i)] [(.int (4 : Int32)), (.int i)])) (fun t k => st1 t k) ?_
    obtain ⟨_, _, ⟨T2, L2, k2, n2⟩, -, X2, ⟨Lc2, hQ2, l2, y2, z2⟩, st2⟩ := Jvm.LawKit.callS X1 hx (y := (⟨"java/util/Objects", "checkIndex", "(II)I"⟩ : MethodName)) hown (mvT hZ (hw _ (List.mem_of_getElem? (i := 164) rfl))) (mvT hZ (hw _ (List.mem_of_getElem? (i := 165) rfl))) (mvT hZ (hw _ (List.mem_of_getElem? (i := 166) rfl))) (mvT hZ (hw _ (List.mem_of_getElem? (i := 167) rfl))) (by decide) (backOf (W := 0) (rmoc l Z a0 hw [] i h0 n0 Z0 hi) hZ (hw _ (List.mem_of_getElem? (i := 167) rfl)) (hw _ (List.mem_of_getElem? (i := 166) rfl)) (by decide) (by decide)) (g := (mkF m 5 #[.val (.ref a1), .val (.int i)] [(.int (4 : Int32)), (.int i)])) rfl (by rw [hml]; rfl) (argsL := [(.int i), (.int (4 : Int32))]) (rest := []) (lenOf own_pd_II_I rfl) rfl (by show 2 * 0 + _ ≤ _; exact Nat.le_of_eq rfl) (hb hby dgt_5) (fun _ _ => ⟨rfl, e1, (by decide : 0 + 0 ≤ _), (by decide : 0 + 0 ≤ _)⟩)
    dsimp only [Pt.U, Pt.locs, Pt.cells, Pt.slots] at X2 l2 y2 z2 st2 hQ2
    subst l2 y2 z2
    obtain ⟨rfl, N2q, e2⟩ := hQ2
    have N2 := Fr.app N0 N2q
    refine own_go (T1 := T2) (g1 := (mkF m 8 #[.val (.ref a1), .val (.int i)] [(.int i)])) (fun t k => st2 t k) ?_
    refine own_go (T1 := T2) (g1 := (mkF m 9 #[.val (.ref a1), .val (.int i)] [])) (fun _ k => XS.pop X2.here hx rfl (hb hby dgt_8) rfl rfl k) ?_
    refine own_go (T1 := T2) (g1 := (mkF m 10 #[.val (.ref a1), .val (.int i)] [(.ref a1)])) (fun _ k => XS.aloadN X2.here hx rfl (hb hby dgt_9) rfl rfl k) ?_
    refine own_go (T1 := T2) (g1 := (mkF m 11 #[.val (.ref a1), .val (.int i)] [(.int i), (.ref a1)])) (fun _ k => XS.iloadN X2.here hx rfl (hb hby dgt_10) rfl k) ?_
    obtain ⟨cq3, kq3, q3a, q3b, q3c⟩ := isOf hZ e2 Ex
    obtain ⟨_, _, ⟨T3, L3, k3, n3⟩, -, X3, ⟨Lc3, hQ3, l3, y3, z3⟩, st3⟩ := X2.virtualBack hx (y := (⟨"java/util/ArrayList", "elementData", "(I)Ljava/lang/Object;"⟩ : MethodName)) (z := (⟨"java/util/ArrayList", "elementData", "(I)Ljava/lang/Object;"⟩ : MethodName)) hown (mvT hZ (hw _ (List.mem_of_getElem? (i := 172) rfl))) (mvT hZ (hw _ (List.mem_of_getElem? (i := 173) rfl))) (notFace_of_selects (args := #[]) (mvT hZ (hw _ (List.mem_of_getElem? (i := 175) rfl)))) (mvT hZ (hw _ (List.mem_of_getElem? (i := 175) rfl))) (mvT hZ (hw _ (List.mem_of_getElem? (i := 174) rfl))) (by decide) (backOf (W := 0) (rmed l Z a0 hw [] a1 i c1 eb kb mc h0 n0 Z0 HA0 Vb hi hat) hZ (hw _ (List.mem_of_getElem? (i := 176) rfl)) (hw _ (List.mem_of_getElem? (i := 38) rfl)) (by decide) (by decide)) q3a q3c (g := (mkF m 11 #[.val (.ref a1), .val (.int i)] [(.int i), (.ref a1)])) rfl (by rw [hml]; rfl) (Steps.refl _) (argsL := [(.int i)]) (rest := []) (lenOf own_pd_I_LjavaxlangxObjectx rfl) rfl (by show 2 * 0 + _ ≤ _; exact Nat.le_of_eq rfl) (hb hby dgt_11) (fun _ _ => ⟨rfl, e2, (by decide : 0 + 0 ≤ _), (by decide : 0 + 0 ≤ _)⟩)
    dsimp only [Pt.U, Pt.locs, Pt.cells, Pt.slots] at X3 l3 y3 z3 st3 hQ3
    subst l3 y3 z3
    obtain ⟨rfl, N3q, e3⟩ := hQ3
    have N3 := Fr.app N2 N3q
    refine own_go (T1 := T3) (g1 := (mkF m 14 #[.val (.ref a1), .val (.int i)] [(.ref c1)])) (fun t k => st3.trans k) ?_
    exact ⟨T3, _, _, _, _, X3, ⟨14, _, c1, rfl, (hb hby dgt_14), rfl, rfl, (by rw [e3]; exact ⟨rfl, N3, rfl⟩)⟩, fun _ k => k⟩
  obtain ⟨T', g', L', k', n', X', ⟨pcr, Ls, z, rfl, hd, rfl, rfl, hQ⟩, st⟩ := main
  obtain ⟨fs, hr, hrun, hended, hW, hsame⟩ := X'.leave (v := (some (.ref z))) (fun h => by rw [Bd.returns] at h; cases h)
  refine ⟨_, _, castTop (ef_rmgt m a1 i) (st _ ?_), hrun, hended, _, _, rfl, hQ, ⟨_, rfl⟩, hW, hsame.mono (by decide) (by decide)⟩
  exact own_retA X' hx Bd.returns rfl hd hr
def QT (h0 : Heap) (n0 : Nat) (v : Option Value) (h : Heap) (L : List Loc) : Prop := v = some .null ∧ Fr n0 L ∧ h = h0
theorem dty_0 : decode prog_17_method_3_code 0 = .ok (.aload_n 0, 1) := by decide +kernel
theorem dty_1 : decode prog_17_method_3_code 1 = .ok (.getfield 13, 3) := by decide +kernel
theorem dty_4 : decode prog_17_method_3_code 4 = .ok (.areturn, 1) := by decide +kernel
theorem ef_rmty (m : MethodId) (c1 : Addr) : entryFrame m #[(.ref c1)] 1 = mkF m 0 #[.val (.ref c1)] [] := by first | (simp [entryFrame, mkF, argsToLocals, Value.category]; done) | rfl
set_option maxRecDepth 65536 in
set_option maxHeartbeats 4000000 in
theorem rmty (l : Launch) (Z : State) (a0 : Array Value) (hw : ∀ d ∈ tables_1, d.before a0 Z = true) (ws : List Jvm.Cond) (c1 : Addr) (h0 : Heap) (n0 : Nat) (Z0 : n0 ≤ h0.size) (Ft : Fld Z h0 c1 "com/example/sukima/sukima/catalog/Column" "type" "Lcom/example/sukima/sukima/sql/DataType;" .null) :
    MetFree l (⟨"com/example/sukima/sukima/catalog/Column", "type", "()Lcom/example/sukima/sukima/sql/DataType;"⟩ : MethodName) (head1 (Jvm.Cond.code (⟨"com/example/sukima/sukima/catalog/Column", "type", "()Lcom/example/sukima/sukima/sql/DataType;"⟩ : MethodName) prog_17_method_3_code 1 (some (.object "com/example/sukima/sukima/sql/DataType")) :: ws) ({ frames := 0, cells := 0, slots := 0, locals := 0 } : Room)) (fun a U => a = #[(.ref c1)] ∧ Z.Warmed39 U.vm ∧ U.heap = h0) (fun _ _ _ _ _ => True) (fun _ U o U' => ∃ v L, o = .returned v ∧ QT h0 n0 v U'.heap L ∧ FrameEnd U o U' L ({ frames := 0, cells := 0, slots := 0, locals := 0 } : Room).cells ({ frames := 0, cells := 0, slots := 0, locals := 0 } : Room).slots) := by
  refine MetFree.of_bodySF (plainFor_of_name (by first | (simp [plainName, overriddenIn]; done) | decide +kernel)) hisR ?_
  intro p e s m args below meth c s₁ Bd hml0 hP hK
  obtain ⟨rfl, hZ, hh⟩ := hP
  have hx := Bd.exec
  have hby := Bd.bytes
  have hml : c.maxLocals = 1 := hml0
  have hown : s.vm.findClass "com/example/sukima/sukima/catalog/Column" = some m.cls := findClass_of_methodNamed Bd.named
  have hnm := (name_of_methodNamed Bd.named Bd.method).1
  have X0 : Stand p l e ({ frames := 0, cells := 0, slots := 0, locals := 0 } : Room) s m #[(.ref c1)] below meth c s₁ [] 0 0 := Stand.of_body Bd
  have e0 : s₁.heap = h0 := by rw [← hh, Bd.state]; rfl
  have N0 := Fr.nil n0
  have main : own_To p l e ({ frames := 0, cells := 0, slots := 0, locals := 0 } : Room) s m #[(.ref c1)] below meth c s₁ (mkF m 0 #[.val (.ref c1)] []) (fun T' g' L kq zq => ∃ pcr Ls, g' = mkF m pcr Ls [.null] ∧ decode c.code pcr = .ok (.areturn, 1) ∧ kq = 0 ∧ zq = 0 ∧ QT h0 n0 (some .null) T'.heap L) := by
    refine own_go (T1 := s₁) (g1 := (mkF m 1 #[.val (.ref c1)] [(.ref c1)])) (fun _ k => XS.aloadN X0.here hx rfl (hb hby dty_0) rfl rfl k) ?_
    obtain ⟨T1, X1, e1, st1⟩ := getF X0 hx hZ hown (host := "") (Or.inl (hw _ (List.mem_of_getElem? (i := 22) rfl))) Via.refl e0 Ft (g := (mkF m 1 #[.val (.ref c1)] [(.ref c1)])) rfl rfl (hb hby dty_1)
    refine own_go (T1 := T1) (g1 := (mkF m 4 #[.val (.ref c1)] [.null])) (fun t k => st1 t k) ?_
    exact ⟨T1, _, _, _, _, X1, ⟨4, _, rfl, (hb hby dty_4), rfl, rfl, (by rw [e1]; exact ⟨rfl, N0, rfl⟩)⟩, fun _ k => k⟩
  obtain ⟨T', g', L', k', n', X', ⟨pcr, Ls, rfl, hd, rfl, rfl, hQ⟩, st⟩ := main
  obtain ⟨fs, hr, hrun, hended, hW, hsame⟩ := X'.leave (v := (some .null)) (fun h => by rw [Bd.returns] at h; cases h)
  refine ⟨_, _, castTop (ef_rmty m c1) (st _ ?_), hrun, hended, _, _, rfl, hQ, ⟨_, rfl⟩, hW, hsame.mono (by decide) (by decide)⟩
  exact own_retN X' hx Bd.returns rfl hd hr
theorem d9_0 : decode method_3_code 0 = .ok (.iload_n 1, 1) := by decide +kernel
theorem d9_1 : decode method_3_code 1 = .ok (.ifCond .le 14, 3) := by decide +kernel
theorem d9_4 : decode method_3_code 4 = .ok (.iload_n 0, 1) := by decide +kernel
theorem d9_5 : decode method_3_code 5 = .ok (.iload_n 3, 1) := by decide +kernel
theorem d9_6 : decode method_3_code 6 = .ok (.if_icmp .ne 9, 3) := by decide +kernel
theorem d9_9 : decode method_3_code 9 = .ok (.iconst 0, 1) := by decide +kernel
theorem d9_10 : decode method_3_code 10 = .ok (.istore 7, 2) := by decide +kernel
theorem d9_12 : decode method_3_code 12 = .ok (.goto 96, 3) := by decide +kernel
theorem d9_15 : decode method_3_code 15 = .ok (.iload_n 1, 1) := by decide +kernel
theorem d9_16 : decode method_3_code 16 = .ok (.iconst 1, 1) := by decide +kernel
theorem d9_17 : decode method_3_code 17 = .ok (.if_icmp .le 15, 3) := by decide +kernel
theorem d9_20 : decode method_3_code 20 = .ok (.iload_n 0, 1) := by decide +kernel
theorem d9_21 : decode method_3_code 21 = .ok (.iload 4, 2) := by decide +kernel
theorem d9_23 : decode method_3_code 23 = .ok (.if_icmp .ne 9, 3) := by decide +kernel
theorem d9_26 : decode method_3_code 26 = .ok (.iconst 1, 1) := by decide +kernel
theorem d9_27 : decode method_3_code 27 = .ok (.istore 7, 2) := by decide +kernel
theorem d9_29 : decode method_3_code 29 = .ok (.goto 79, 3) := by decide +kernel
theorem d9_32 : decode method_3_code 32 = .ok (.iload_n 2, 1) := by decide +kernel
theorem d9_33 : decode method_3_code 33 = .ok (.ifCond .le 15, 3) := by decide +kernel
theorem d9_36 : decode method_3_code 36 = .ok (.iload_n 0, 1) := by decide +kernel
theorem d9_37 : decode method_3_code 37 = .ok (.iload 5, 2) := by decide +kernel
theorem d9_39 : decode method_3_code 39 = .ok (.if_icmp .ne 9, 3) := by decide +kernel
theorem d9_42 : decode method_3_code 42 = .ok (.iload_n 1, 1) := by decide +kernel
theorem d9_43 : decode method_3_code 43 = .ok (.istore 7, 2) := by decide +kernel
theorem d9_45 : decode method_3_code 45 = .ok (.goto 63, 3) := by decide +kernel
theorem d9_48 : decode method_3_code 48 = .ok (.iload_n 2, 1) := by decide +kernel
theorem d9_49 : decode method_3_code 49 = .ok (.iconst 1, 1) := by decide +kernel
theorem d9_50 : decode method_3_code 50 = .ok (.if_icmp .le 55, 3) := by decide +kernel
theorem d9_53 : decode method_3_code 53 = .ok (.iload_n 0, 1) := by decide +kernel
theorem d9_54 : decode method_3_code 54 = .ok (.iload 6, 2) := by decide +kernel
theorem d9_56 : decode method_3_code 56 = .ok (.if_icmp .ne 49, 3) := by decide +kernel
theorem d9_59 : decode method_3_code 59 = .ok (.iload_n 1, 1) := by decide +kernel
theorem d9_60 : decode method_3_code 60 = .ok (.ifCond .le 9, 3) := by decide +kernel
theorem d9_63 : decode method_3_code 63 = .ok (.iload 5, 2) := by decide +kernel
theorem d9_65 : decode method_3_code 65 = .ok (.iload_n 3, 1) := by decide +kernel
theorem d9_66 : decode method_3_code 66 = .ok (.if_icmp .eq 15, 3) := by decide +kernel
theorem d9_69 : decode method_3_code 69 = .ok (.iload_n 1, 1) := by decide +kernel
theorem d9_70 : decode method_3_code 70 = .ok (.iconst 1, 1) := by decide +kernel
theorem d9_71 : decode method_3_code 71 = .ok (.if_icmp .le 14, 3) := by decide +kernel
theorem d9_74 : decode method_3_code 74 = .ok (.iload 5, 2) := by decide +kernel
theorem d9_76 : decode method_3_code 76 = .ok (.iload 4, 2) := by decide +kernel
theorem d9_78 : decode method_3_code 78 = .ok (.if_icmp .ne 7, 3) := by decide +kernel
theorem d9_81 : decode method_3_code 81 = .ok (.iconst 1, 1) := by decide +kernel
theorem d9_82 : decode method_3_code 82 = .ok (.goto 4, 3) := by decide +kernel
theorem d9_85 : decode method_3_code 85 = .ok (.iconst 0, 1) := by decide +kernel
theorem d9_86 : decode method_3_code 86 = .ok (.istore 8, 2) := by decide +kernel
theorem d9_88 : decode method_3_code 88 = .ok (.iload 8, 2) := by decide +kernel
theorem d9_90 : decode method_3_code 90 = .ok (.ifCond .eq 7, 3) := by decide +kernel
theorem d9_93 : decode method_3_code 93 = .ok (.iload_n 1, 1) := by decide +kernel
theorem d9_94 : decode method_3_code 94 = .ok (.goto 6, 3) := by decide +kernel
theorem d9_97 : decode method_3_code 97 = .ok (.iload_n 1, 1) := by decide +kernel
theorem d9_98 : decode method_3_code 98 = .ok (.iconst 1, 1) := by decide +kernel
theorem d9_99 : decode method_3_code 99 = .ok (.iadd, 1) := by decide +kernel
theorem d9_100 : decode method_3_code 100 = .ok (.istore 7, 2) := by decide +kernel
theorem d9_102 : decode method_3_code 102 = .ok (.goto 6, 3) := by decide +kernel
theorem d9_105 : decode method_3_code 105 = .ok (.iconst (-1), 1) := by decide +kernel
theorem d9_106 : decode method_3_code 106 = .ok (.istore 7, 2) := by decide +kernel
theorem d9_108 : decode method_3_code 108 = .ok (.iload 7, 2) := by decide +kernel
theorem d9_110 : decode method_3_code 110 = .ok (.ireturn, 1) := by decide +kernel
def f9_108 (i0 : Int32) (i1 : Int32) (i2 : Int32) (i3 : Int32) (i4 : Int32) (i5 : Int32) (i6 : Int32) (i7 : Int32) : Int32 := i7
set_option maxRecDepth 65536 in
set_option maxHeartbeats 4000000 in
theorem b9_108 {p : Program} {l : Launch} {e : Env} {s : State} {m : MethodId} {args : Array Value} {below : List Frame} {meth : Method} {c : Code} {T0 : State} {locs : List Loc} {Z : State} {a0 : Array Value} {h0 : Heap} {n0 : Nat} (i0 : Int32) (i1 : Int32) (i2 : Int32) (i3 : Int32) (i4 : Int32) (i5 : Int32) (i6 : Int32) (i7 : Int32) (s8 : Slot) (X0 : Stand p l e ({ frames := 0, cells := 0, slots := 0, locals := 0 } : Room) s m args below meth c T0 locs 0 0) (hx : p.tables.exec = Jvm.exec) (hZ : Z.Warmed39 s.vm) (hw : ∀ d ∈ tables_1, d.before a0 Z = true) (hby : c.code = method_3_code) (hml : c.maxLocals = 9) (hown : s.vm.findClass "com/example/sukima/sukima/catalog/IndexPlaceOfPinLaw" = some m.cls) (e0 : T0.heap = h0) (N0 : Fr n0 locs) (Z0 : n0 ≤ h0.size) :
    own_Ret p l e ({ frames := 0, cells := 0, slots := 0, locals := 0 } : Room) s m args below meth c h0 n0 0 0 T0 (mkF m 108 #[.val (.int i0), .val (.int i1), .val (.int i2), .val (.int i3), .val (.int i4), .val (.int i5), .val (.int i6), .val (.int i7), s8] []) (f9_108 i0 i1 i2 i3 i4 i5 i6 i7) := by
  unfold f9_108
  refine own_step (T1 := T0) (g1 := (mkF m 110 #[.val (.int i0), .val (.int i1), .val (.int i2), .val (.int i3), .val (.int i4), .val (.int i5), .val (.int i6), .val (.int i7), s8] [(.int i7)])) (fun _ k => XS.iload X0.here hx rfl (hb hby d9_108) rfl k) ?_
  exact ⟨_, _, 110, _, X0, e0, N0, (hb hby d9_110), fun _ k => k⟩
def f9_105 (i0 : Int32) (i1 : Int32) (i2 : Int32) (i3 : Int32) (i4 : Int32) (i5 : Int32) (i6 : Int32) : Int32 := (f9_108 i0 i1 i2 i3 i4 i5 i6 (-1 : Int32))
set_option maxRecDepth 65536 in
set_option maxHeartbeats 4000000 in
theorem b9_105 {p : Program} {l : Launch} {e : Env} {s : State} {m : MethodId} {args : Array Value} {below : List Frame} {meth : Method} {c : Code} {T0 : State} {locs : List Loc} {Z : State} {a0 : Array Value} {h0 : Heap} {n0 : Nat} (i0 : Int32) (i1 : Int32) (i2 : Int32) (i3 : Int32) (i4 : Int32) (i5 : Int32) (i6 : Int32) (X0 : Stand p l e ({ frames := 0, cells := 0, slots := 0, locals := 0 } : Room) s m args below meth c T0 locs 0 0) (hx : p.tables.exec = Jvm.exec) (hZ : Z.Warmed39 s.vm) (hw : ∀ d ∈ tables_1, d.before a0 Z = true) (hby : c.code = method_3_code) (hml : c.maxLocals = 9) (hown : s.vm.findClass "com/example/sukima/sukima/catalog/IndexPlaceOfPinLaw" = some m.cls) (e0 : T0.heap = h0) (N0 : Fr n0 locs) (Z0 : n0 ≤ h0.size) :
    own_Ret p l e ({ frames := 0, cells := 0, slots := 0, locals := 0 } : Room) s m args below meth c h0 n0 0 0 T0 (mkF m 105 #[.val (.int i0), .val (.int i1), .val (.int i2), .val (.int i3), .val (.int i4), .val (.int i5), .val (.int i6), .unset, .unset] []) (f9_105 i0 i1 i2 i3 i4 i5 i6) := by
  unfold f9_105
  refine own_step (T1 := T0) (g1 := (mkF m 106 #[.val (.int i0), .val (.int i1), .val (.int i2), .val (.int i3), .val (.int i4), .val (.int i5), .val (.int i6), .unset, .unset] [(.int (-1 : Int32))])) (fun _ k => XS.iconst X0.here hx rfl (hb hby d9_105) k) ?_
  refine own_step (T1 := T0) (g1 := (mkF m 108 #[.val (.int i0), .val (.int i1), .val (.int i2), .val (.int i3), .val (.int i4), .val (.int i5), .val (.int i6), .val (.int (-1 : Int32)), .unset] [])) (fun _ k => XS.istore X0.here hx rfl (hb hby d9_106) rfl (l' := #[.val (.int i0), .val (.int i1), .val (.int i2), .val (.int i3), .val (.int i4), .val (.int i5), .val (.int i6), .val (.int (-1 : Int32)), .unset]) rfl k) ?_
  exact b9_108 i0 i1 i2 i3 i4 i5 i6 (-1 : Int32) (.unset) X0 hx hZ hw hby hml hown e0 N0 Z0
def f9_100 (i0 : Int32) (i1 : Int32) (i2 : Int32) (i3 : Int32) (i4 : Int32) (i5 : Int32) (i6 : Int32) (i8 : Int32) (k0 : Int32) : Int32 := (f9_108 i0 i1 i2 i3 i4 i5 i6 k0)
set_option maxRecDepth 65536 in
set_option maxHeartbeats 4000000 in
theorem b9_100 {p : Program} {l : Launch} {e : Env} {s : State} {m : MethodId} {args : Array Value} {below : List Frame} {meth : Method} {c : Code} {T0 : State} {locs : List Loc} {Z : State} {a0 : Array Value} {h0 : Heap} {n0 : Nat} (i0 : Int32) (i1 : Int32) (i2 : Int32) (i3 : Int32) (i4 : Int32) (i5 : Int32) (i6 : Int32) (i8 : Int32) (k0 : Int32) (X0 : Stand p l e ({ frames := 0, cells := 0, slots := 0, locals := 0 } : Room) s m args below meth c T0 locs 0 0) (hx : p.tables.exec = Jvm.exec) (hZ : Z.Warmed39 s.vm) (hw : ∀ d ∈ tables_1, d.before a0 Z = true) (hby : c.code = method_3_code) (hml : c.maxLocals = 9) (hown : s.vm.findClass "com/example/sukima/sukima/catalog/IndexPlaceOfPinLaw" = some m.cls) (e0 : T0.heap = h0) (N0 : Fr n0 locs) (Z0 : n0 ≤ h0.size) :
    own_Ret p l e ({ frames := 0, cells := 0, slots := 0, locals := 0 } : Room) s m args below meth c h0 n0 0 0 T0 (mkF m 100 #[.val (.int i0), .val (.int i1), .val (.int i2), .val (.int i3), .val (.int i4), .val (.int i5), .val (.int i6), .unset, .val (.int i8)] [(.int k0)]) (f9_100 i0 i1 i2 i3 i4 i5 i6 i8 k0) := by
  unfold f9_100
  refine own_step (T1 := T0) (g1 := (mkF m 102 #[.val (.int i0), .val (.int i1), .val (.int i2), .val (.int i3), .val (.int i4), .val (.int i5), .val (.int i6), .val (.int k0), .val (.int i8)] [])) (fun _ k => XS.istore X0.here hx rfl (hb hby d9_100) rfl (l' := #[.val (.int i0), .val (.int i1), .val (.int i2), .val (.int i3), .val (.int i4), .val (.int i5), .val (.int i6), .val (.int k0), .val (.int i8)]) rfl k) ?_
  refine own_step (T1 := T0) (g1 := (mkF m 108 #[.val (.int i0), .val (.int i1), .val (.int i2), .val (.int i3), .val (.int i4), .val (.int i5), .val (.int i6), .val (.int k0), .val (.int i8)] [])) (fun _ k => XS.goto X0.here hx rfl (pc0 := 102) (pc' := 108) rfl (hb hby d9_102) (by decide) (by decide) k) ?_
  exact b9_108 i0 i1 i2 i3 i4 i5 i6 k0 (.val (.int i8)) X0 hx hZ hw hby hml hown e0 N0 Z0
def f9_86 (i0 : Int32) (i1 : Int32) (i2 : Int32) (i3 : Int32) (i4 : Int32) (i5 : Int32) (i6 : Int32) (k0 : Int32) : Int32 := (if k0 = (0 : Int32) then (f9_100 i0 i1 i2 i3 i4 i5 i6 k0 (i1 + (1 : Int32))) else (f9_100 i0 i1 i2 i3 i4 i5 i6 k0 i1))
set_option maxRecDepth 65536 in
set_option maxHeartbeats 4000000 in
theorem b9_86 {p : Program} {l : Launch} {e : Env} {s : State} {m : MethodId} {args : Array Value} {below : List Frame} {meth : Method} {c : Code} {T0 : State} {locs : List Loc} {Z : State} {a0 : Array Value} {h0 : Heap} {n0 : Nat} (i0 : Int32) (i1 : Int32) (i2 : Int32) (i3 : Int32) (i4 : Int32) (i5 : Int32) (i6 : Int32) (k0 : Int32) (X0 : Stand p l e ({ frames := 0, cells := 0, slots := 0, locals := 0 } : Room) s m args below meth c T0 locs 0 0) (hx : p.tables.exec = Jvm.exec) (hZ : Z.Warmed39 s.vm) (hw : ∀ d ∈ tables_1, d.before a0 Z = true) (hby : c.code = method_3_code) (hml : c.maxLocals = 9) (hown : s.vm.findClass "com/example/sukima/sukima/catalog/IndexPlaceOfPinLaw" = some m.cls) (e0 : T0.heap = h0) (N0 : Fr n0 locs) (Z0 : n0 ≤ h0.size) :
    own_Ret p l e ({ frames := 0, cells := 0, slots := 0, locals := 0 } : Room) s m args below meth c h0 n0 0 0 T0 (mkF m 86 #[.val (.int i0), .val (.int i1), .val (.int i2), .val (.int i3), .val (.int i4), .val (.int i5), .val (.int i6), .unset, .unset] [(.int k0)]) (f9_86 i0 i1 i2 i3 i4 i5 i6 k0) := by
  unfold f9_86
  refine own_step (T1 := T0) (g1 := (mkF m 88 #[.val (.int i0), .val (.int i1), .val (.int i2), .val (.int i3), .val (.int i4), .val (.int i5), .val (.int i6), .unset, .val (.int k0)] [])) (fun _ k => XS.istore X0.here hx rfl (hb hby d9_86) rfl (l' := #[.val (.int i0), .val (.int i1), .val (.int i2), .val (.int i3), .val (.int i4), .val (.int i5), .val (.int i6), .unset, .val (.int k0)]) rfl k) ?_
  refine own_step (T1 := T0) (g1 := (mkF m 90 #[.val (.int i0), .val (.int i1), .val (.int i2), .val (.int i3), .val (.int i4), .val (.int i5), .val (.int i6), .unset, .val (.int k0)] [(.int k0)])) (fun _ k => XS.iload X0.here hx rfl (hb hby d9_88) rfl k) ?_
  by_cases hc90 : k0 = (0 : Int32)
  · rw [if_pos hc90]
    refine own_step (T1 := T0) (g1 := (mkF m 97 #[.val (.int i0), .val (.int i1), .val (.int i2), .val (.int i3), .val (.int i4), .val (.int i5), .val (.int i6), .unset, .val (.int k0)] [])) (fun _ k => XS.ifYes X0.here hx rfl (pc0 := 90) (pc' := 97) rfl (hb hby d9_90) rfl ((if0 _ _).trans (teq hc90).1) (by decide) (by decide) k) ?_
    refine own_step (T1 := T0) (g1 := (mkF m 98 #[.val (.int i0), .val (.int i1), .val (.int i2), .val (.int i3), .val (.int i4), .val (.int i5), .val (.int i6), .unset, .val (.int k0)] [(.int i1)])) (fun _ k => XS.iloadN X0.here hx rfl (hb hby d9_97) rfl k) ?_
    refine own_step (T1 := T0) (g1 := (mkF m 99 #[.val (.int i0), .val (.int i1), .val (.int i2), .val (.int i3), .val (.int i4), .val (.int i5), .val (.int i6), .unset, .val (.int k0)] [(.int (1 : Int32)), (.int i1)])) (fun _ k => XS.iconst X0.here hx rfl (hb hby d9_98) k) ?_
    refine own_step (T1 := T0) (g1 := (mkF m 100 #[.val (.int i0), .val (.int i1), .val (.int i2), .val (.int i3), .val (.int i4), .val (.int i5), .val (.int i6), .unset, .val (.int k0)] [(.int (i1 + (1 : Int32)))])) (fun _ k => XS.iadd X0.here hx rfl (hb hby d9_99) rfl k) ?_
    exact b9_100 i0 i1 i2 i3 i4 i5 i6 k0 (i1 + (1 : Int32)) X0 hx hZ hw hby hml hown e0 N0 Z0
  · rw [if_neg hc90]
    refine own_step (T1 := T0) (g1 := (mkF m 93 #[.val (.int i0), .val (.int i1), .val (.int i2), .val (.int i3), .val (.int i4), .val (.int i5), .val (.int i6), .unset, .val (.int k0)] [])) (fun _ k => XS.ifNo X0.here hx rfl (hb hby d9_90) rfl ((if0 _ _).trans (feq hc90).1) k) ?_
    refine own_step (T1 := T0) (g1 := (mkF m 94 #[.val (.int i0), .val (.int i1), .val (.int i2), .val (.int i3), .val (.int i4), .val (.int i5), .val (.int i6), .unset, .val (.int k0)] [(.int i1)])) (fun _ k => XS.iloadN X0.here hx rfl (hb hby d9_93) rfl k) ?_
    refine own_step (T1 := T0) (g1 := (mkF m 100 #[.val (.int i0), .val (.int i1), .val (.int i2), .val (.int i3), .val (.int i4), .val (.int i5), .val (.int i6), .unset, .val (.int k0)] [(.int i1)])) (fun _ k => XS.goto X0.here hx rfl (pc0 := 94) (pc' := 100) rfl (hb hby d9_94) (by decide) (by decide) k) ?_
    exact b9_100 i0 i1 i2 i3 i4 i5 i6 k0 i1 X0 hx hZ hw hby hml hown e0 N0 Z0
def f9_85 (i0 : Int32) (i1 : Int32) (i2 : Int32) (i3 : Int32) (i4 : Int32) (i5 : Int32) (i6 : Int32) : Int32 := (f9_86 i0 i1 i2 i3 i4 i5 i6 (0 : Int32))
set_option maxRecDepth 65536 in
set_option maxHeartbeats 4000000 in
theorem b9_85 {p : Program} {l : Launch} {e : Env} {s : State} {m : MethodId} {args : Array Value} {below : List Frame} {meth : Method} {c : Code} {T0 : State} {locs : List Loc} {Z : State} {a0 : Array Value} {h0 : Heap} {n0 : Nat} (i0 : Int32) (i1 : Int32) (i2 : Int32) (i3 : Int32) (i4 : Int32) (i5 : Int32) (i6 : Int32) (X0 : Stand p l e ({ frames := 0, cells := 0, slots := 0, locals := 0 } : Room) s m args below meth c T0 locs 0 0) (hx : p.tables.exec = Jvm.exec) (hZ : Z.Warmed39 s.vm) (hw : ∀ d ∈ tables_1, d.before a0 Z = true) (hby : c.code = method_3_code) (hml : c.maxLocals = 9) (hown : s.vm.findClass "com/example/sukima/sukima/catalog/IndexPlaceOfPinLaw" = some m.cls) (e0 : T0.heap = h0) (N0 : Fr n0 locs) (Z0 : n0 ≤ h0.size) :
    own_Ret p l e ({ frames := 0, cells := 0, slots := 0, locals := 0 } : Room) s m args below meth c h0 n0 0 0 T0 (mkF m 85 #[.val (.int i0), .val (.int i1), .val (.int i2), .val (.int i3), .val (.int i4), .val (.int i5), .val (.int i6), .unset, .unset] []) (f9_85 i0 i1 i2 i3 i4 i5 i6) := by
  unfold f9_85
  refine own_step (T1 := T0) (g1 := (mkF m 86 #[.val (.int i0), .val (.int i1), .val (.int i2), .val (.int i3), .val (.int i4), .val (.int i5), .val (.int i6), .unset, .unset] [(.int (0 : Int32))])) (fun _ k => XS.iconst X0.here hx rfl (hb hby d9_85) k) ?_
  exact b9_86 i0 i1 i2 i3 i4 i5 i6 (0 : Int32) X0 hx hZ hw hby hml hown e0 N0 Z0
def f9_81 (i0 : Int32) (i1 : Int32) (i2 : Int32) (i3 : Int32) (i4 : Int32) (i5 : Int32) (i6 : Int32) : Int32 := (f9_86 i0 i1 i2 i3 i4 i5 i6 (1 : Int32))
set_option maxRecDepth 65536 in
set_option maxHeartbeats 4000000 in
theorem b9_81 {p : Program} {l : Launch} {e : Env} {s : State} {m : MethodId} {args : Array Value} {below : List Frame} {meth : Method} {c : Code} {T0 : State} {locs : List Loc} {Z : State} {a0 : Array Value} {h0 : Heap} {n0 : Nat} (i0 : Int32) (i1 : Int32) (i2 : Int32) (i3 : Int32) (i4 : Int32) (i5 : Int32) (i6 : Int32) (X0 : Stand p l e ({ frames := 0, cells := 0, slots := 0, locals := 0 } : Room) s m args below meth c T0 locs 0 0) (hx : p.tables.exec = Jvm.exec) (hZ : Z.Warmed39 s.vm) (hw : ∀ d ∈ tables_1, d.before a0 Z = true) (hby : c.code = method_3_code) (hml : c.maxLocals = 9) (hown : s.vm.findClass "com/example/sukima/sukima/catalog/IndexPlaceOfPinLaw" = some m.cls) (e0 : T0.heap = h0) (N0 : Fr n0 locs) (Z0 : n0 ≤ h0.size) :
    own_Ret p l e ({ frames := 0, cells := 0, slots := 0, locals := 0 } : Room) s m args below meth c h0 n0 0 0 T0 (mkF m 81 #[.val (.int i0), .val (.int i1), .val (.int i2), .val (.int i3), .val (.int i4), .val (.int i5), .val (.int i6), .unset, .unset] []) (f9_81 i0 i1 i2 i3 i4 i5 i6) := by
  unfold f9_81
  refine own_step (T1 := T0) (g1 := (mkF m 82 #[.val (.int i0), .val (.int i1), .val (.int i2), .val (.int i3), .val (.int i4), .val (.int i5), .val (.int i6), .unset, .unset] [(.int (1 : Int32))])) (fun _ k => XS.iconst X0.here hx rfl (hb hby d9_81) k) ?_
  refine own_step (T1 := T0) (g1 := (mkF m 86 #[.val (.int i0), .val (.int i1), .val (.int i2), .val (.int i3), .val (.int i4), .val (.int i5), .val (.int i6), .unset, .unset] [(.int (1 : Int32))])) (fun _ k => XS.goto X0.here hx rfl (pc0 := 82) (pc' := 86) rfl (hb hby d9_82) (by decide) (by decide) k) ?_
  exact b9_86 i0 i1 i2 i3 i4 i5 i6 (1 : Int32) X0 hx hZ hw hby hml hown e0 N0 Z0
def f9_69 (i0 : Int32) (i1 : Int32) (i2 : Int32) (i3 : Int32) (i4 : Int32) (i5 : Int32) (i6 : Int32) : Int32 := (if (1 : Int32) < i1 then (if i5 = i4 then (f9_81 i0 i1 i2 i3 i4 i5 i6) else (f9_85 i0 i1 i2 i3 i4 i5 i6)) else (f9_85 i0 i1 i2 i3 i4 i5 i6))
set_option maxRecDepth 65536 in
set_option maxHeartbeats 4000000 in
theorem b9_69 {p : Program} {l : Launch} {e : Env} {s : State} {m : MethodId} {args : Array Value} {below : List Frame} {meth : Method} {c : Code} {T0 : State} {locs : List Loc} {Z : State} {a0 : Array Value} {h0 : Heap} {n0 : Nat} (i0 : Int32) (i1 : Int32) (i2 : Int32) (i3 : Int32) (i4 : Int32) (i5 : Int32) (i6 : Int32) (X0 : Stand p l e ({ frames := 0, cells := 0, slots := 0, locals := 0 } : Room) s m args below meth c T0 locs 0 0) (hx : p.tables.exec = Jvm.exec) (hZ : Z.Warmed39 s.vm) (hw : ∀ d ∈ tables_1, d.before a0 Z = true) (hby : c.code = method_3_code) (hml : c.maxLocals = 9) (hown : s.vm.findClass "com/example/sukima/sukima/catalog/IndexPlaceOfPinLaw" = some m.cls) (e0 : T0.heap = h0) (N0 : Fr n0 locs) (Z0 : n0 ≤ h0.size) :
    own_Ret p l e ({ frames := 0, cells := 0, slots := 0, locals := 0 } : Room) s m args below meth c h0 n0 0 0 T0 (mkF m 69 #[.val (.int i0), .val (.int i1), .val (.int i2), .val (.int i3), .val (.int i4), .val (.int i5), .val (.int i6), .unset, .unset] []) (f9_69 i0 i1 i2 i3 i4 i5 i6) := by
  unfold f9_69
  refine own_step (T1 := T0) (g1 := (mkF m 70 #[.val (.int i0), .val (.int i1), .val (.int i2), .val (.int i3), .val (.int i4), .val (.int i5), .val (.int i6), .unset, .unset] [(.int i1)])) (fun _ k => XS.iloadN X0.here hx rfl (hb hby d9_69) rfl k) ?_
  refine own_step (T1 := T0) (g1 := (mkF m 71 #[.val (.int i0), .val (.int i1), .val (.int i2), .val (.int i3), .val (.int i4), .val (.int i5), .val (.int i6), .unset, .unset] [(.int (1 : Int32)), (.int i1)])) (fun _ k => XS.iconst X0.here hx rfl (hb hby d9_70) k) ?_
  by_cases hc71 : (1 : Int32) < i1
  · rw [if_pos hc71]
    refine own_step (T1 := T0) (g1 := (mkF m 74 #[.val (.int i0), .val (.int i1), .val (.int i2), .val (.int i3), .val (.int i4), .val (.int i5), .val (.int i6), .unset, .unset] [])) (fun _ k => XS.icmpNo X0.here hx rfl (hb hby d9_71) rfl (tlt hc71).2.2.2 k) ?_
    refine own_step (T1 := T0) (g1 := (mkF m 76 #[.val (.int i0), .val (.int i1), .val (.int i2), .val (.int i3), .val (.int i4), .val (.int i5), .val (.int i6), .unset, .unset] [(.int i5)])) (fun _ k => XS.iload X0.here hx rfl (hb hby d9_74) rfl k) ?_
    refine own_step (T1 := T0) (g1 := (mkF m 78 #[.val (.int i0), .val (.int i1), .val (.int i2), .val (.int i3), .val (.int i4), .val (.int i5), .val (.int i6), .unset, .unset] [(.int i4), (.int i5)])) (fun _ k => XS.iload X0.here hx rfl (hb hby d9_76) rfl k) ?_
    by_cases hc78 : i5 = i4
    · rw [if_pos hc78]
      refine own_step (T1 := T0) (g1 := (mkF m 81 #[.val (.int i0), .val (.int i1), .val (.int i2), .val (.int i3), .val (.int i4), .val (.int i5), .val (.int i6), .unset, .unset] [])) (fun _ k => XS.icmpNo X0.here hx rfl (hb hby d9_78) rfl (teq hc78).2 k) ?_
      exact b9_81 i0 i1 i2 i3 i4 i5 i6 X0 hx hZ hw hby hml hown e0 N0 Z0
    · rw [if_neg hc78]
      refine own_step (T1 := T0) (g1 := (mkF m 85 #[.val (.int i0), .val (.int i1), .val (.int i2), .val (.int i3), .val (.int i4), .val (.int i5), .val (.int i6), .unset, .unset] [])) (fun _ k => XS.icmpYes X0.here hx rfl (pc0 := 78) (pc' := 85) rfl (hb hby d9_78) rfl (feq hc78).2 (by decide) (by decide) k) ?_
      exact b9_85 i0 i1 i2 i3 i4 i5 i6 X0 hx hZ hw hby hml hown e0 N0 Z0
  · rw [if_neg hc71]
    refine own_step (T1 := T0) (g1 := (mkF m 85 #[.val (.int i0), .val (.int i1), .val (.int i2), .val (.int i3), .val (.int i4), .val (.int i5), .val (.int i6), .unset, .unset] [])) (fun _ k => XS.icmpYes X0.here hx rfl (pc0 := 71) (pc' := 85) rfl (hb hby d9_71) rfl (flt hc71).2.2.2 (by decide) (by decide) k) ?_
    exact b9_85 i0 i1 i2 i3 i4 i5 i6 X0 hx hZ hw hby hml hown e0 N0 Z0
def f9_48 (i0 : Int32) (i1 : Int32) (i2 : Int32) (i3 : Int32) (i4 : Int32) (i5 : Int32) (i6 : Int32) : Int32 := (if (1 : Int32) < i2 then (if i0 = i6 then (if (0 : Int32) < i1 then (if i5 = i3 then (f9_81 i0 i1 i2 i3 i4 i5 i6) else (f9_69 i0 i1 i2 i3 i4 i5 i6)) else (f9_69 i0 i1 i2 i3 i4 i5 i6)) else (f9_105 i0 i1 i2 i3 i4 i5 i6)) else (f9_105 i0 i1 i2 i3 i4 i5 i6))
set_option maxRecDepth 65536 in
set_option maxHeartbeats 4000000 in
theorem b9_48 {p : Program} {l : Launch} {e : Env} {s : State} {m : MethodId} {args : Array Value} {below : List Frame} {meth : Method} {c : Code} {T0 : State} {locs : List Loc} {Z : State} {a0 : Array Value} {h0 : Heap} {n0 : Nat} (i0 : Int32) (i1 : Int32) (i2 : Int32) (i3 : Int32) (i4 : Int32) (i5 : Int32) (i6 : Int32) (X0 : Stand p l e ({ frames := 0, cells := 0, slots := 0, locals := 0 } : Room) s m args below meth c T0 locs 0 0) (hx : p.tables.exec = Jvm.exec) (hZ : Z.Warmed39 s.vm) (hw : ∀ d ∈ tables_1, d.before a0 Z = true) (hby : c.code = method_3_code) (hml : c.maxLocals = 9) (hown : s.vm.findClass "com/example/sukima/sukima/catalog/IndexPlaceOfPinLaw" = some m.cls) (e0 : T0.heap = h0) (N0 : Fr n0 locs) (Z0 : n0 ≤ h0.size) :
    own_Ret p l e ({ frames := 0, cells := 0, slots := 0, locals := 0 } : Room) s m args below meth c h0 n0 0 0 T0 (mkF m 48 #[.val (.int i0), .val (.int i1), .val (.int i2), .val (.int i3), .val (.int i4), .val (.int i5), .val (.int i6), .unset, .unset] []) (f9_48 i0 i1 i2 i3 i4 i5 i6) := by
  unfold f9_48
  refine own_step (T1 := T0) (g1 := (mkF m 49 #[.val (.int i0), .val (.int i1), .val (.int i2), .val (.int i3), .val (.int i4), .val (.int i5), .val (.int i6), .unset, .unset] [(.int i2)])) (fun _ k => XS.iloadN X0.here hx rfl (hb hby d9_48) rfl k) ?_
  refine own_step (T1 := T0) (g1 := (mkF m 50 #[.val (.int i0), .val (.int i1), .val (.int i2), .val (.int i3), .val (.int i4), .val (.int i5), .val (.int i6), .unset, .unset] [(.int (1 : Int32)), (.int i2)])) (fun _ k => XS.iconst X0.here hx rfl (hb hby d9_49) k) ?_
  by_cases hc50 : (1 : Int32) < i2
  · rw [if_pos hc50]
    refine own_step (T1 := T0) (g1 := (mkF m 53 #[.val (.int i0), .val (.int i1), .val (.int i2), .val (.int i3), .val (.int i4), .val (.int i5), .val (.int i6), .unset, .unset] [])) (fun _ k => XS.icmpNo X0.here hx rfl (hb hby d9_50) rfl (tlt hc50).2.2.2 k) ?_
    refine own_step (T1 := T0) (g1 := (mkF m 54 #[.val (.int i0), .val (.int i1), .val (.int i2), .val (.int i3), .val (.int i4), .val (.int i5), .val (.int i6), .unset, .unset] [(.int i0)])) (fun _ k => XS.iloadN X0.here hx rfl (hb hby d9_53) rfl k) ?_
    refine own_step (T1 := T0) (g1 := (mkF m 56 #[.val (.int i0), .val (.int i1), .val (.int i2), .val (.int i3), .val (.int i4), .val (.int i5), .val (.int i6), .unset, .unset] [(.int i6), (.int i0)])) (fun _ k => XS.iload X0.here hx rfl (hb hby d9_54) rfl k) ?_
    by_cases hc56 : i0 = i6
    · rw [if_pos hc56]
      refine own_step (T1 := T0) (g1 := (mkF m 59 #[.val (.int i0), .val (.int i1), .val (.int i2), .val (.int i3), .val (.int i4), .val (.int i5), .val (.int i6), .unset, .unset] [])) (fun _ k => XS.icmpNo X0.here hx rfl (hb hby d9_56) rfl (teq hc56).2 k) ?_
      refine own_step (T1 := T0) (g1 := (mkF m 60 #[.val (.int i0), .val (.int i1), .val (.int i2), .val (.int i3), .val (.int i4), .val (.int i5), .val (.int i6), .unset, .unset] [(.int i1)])) (fun _ k => XS.iloadN X0.here hx rfl (hb hby d9_59) rfl k) ?_
      by_cases hc60 : (0 : Int32) < i1
      · rw [if_pos hc60]
        refine own_step (T1 := T0) (g1 := (mkF m 63 #[.val (.int i0), .val (.int i1), .val (.int i2), .val (.int i3), .val (.int i4), .val (.int i5), .val (.int i6), .unset, .unset] [])) (fun _ k => XS.ifNo X0.here hx rfl (hb hby d9_60) rfl ((if0 _ _).trans (tlt hc60).2.2.2) k) ?_
        refine own_step (T1 := T0) (g1 := (mkF m 65 #[.val (.int i0), .val (.int i1), .val (.int i2), .val (.int i3), .val (.int i4), .val (.int i5), .val (.int i6), .unset, .unset] [(.int i5)])) (fun _ k => XS.iload X0.here hx rfl (hb hby d9_63) rfl k) ?_
        refine own_step (T1 := T0) (g1 := (mkF m 66 #[.val (.int i0), .val (.int i1), .val (.int i2), .val (.int i3), .val (.int i4), .val (.int i5), .val (.int i6), .unset, .unset] [(.int i3), (.int i5)])) (fun _ k => XS.iloadN X0.here hx rfl (hb hby d9_65) rfl k) ?_
        by_cases hc66 : i5 = i3
        · rw [if_pos hc66]
          refine own_step (T1 := T0) (g1 := (mkF m 81 #[.val (.int i0), .val (.int i1), .val (.int i2), .val (.int i3), .val (.int i4), .val (.int i5), .val (.int i6), .unset, .unset] [])) (fun _ k => XS.icmpYes X0.here hx rfl (pc0 := 66) (pc' := 81) rfl (hb hby d9_66) rfl (teq hc66).1 (by decide) (by decide) k) ?_
          exact b9_81 i0 i1 i2 i3 i4 i5 i6 X0 hx hZ hw hby hml hown e0 N0 Z0
        · rw [if_neg hc66]
          refine own_step (T1 := T0) (g1 := (mkF m 69 #[.val (.int i0), .val (.int i1), .val (.int i2), .val (.int i3), .val (.int i4), .val (.int i5), .val (.int i6), .unset, .unset] [])) (fun _ k => XS.icmpNo X0.here hx rfl (hb hby d9_66) rfl (feq hc66).1 k) ?_
          exact b9_69 i0 i1 i2 i3 i4 i5 i6 X0 hx hZ hw hby hml hown e0 N0 Z0
      · rw [if_neg hc60]
        refine own_step (T1 := T0) (g1 := (mkF m 69 #[.val (.int i0), .val (.int i1), .val (.int i2), .val (.int i3), .val (.int i4), .val (.int i5), .val (.int i6), .unset, .unset] [])) (fun _ k => XS.ifYes X0.here hx rfl (pc0 := 60) (pc' := 69) rfl (hb hby d9_60) rfl ((if0 _ _).trans (flt hc60).2.2.2) (by decide) (by decide) k) ?_
        exact b9_69 i0 i1 i2 i3 i4 i5 i6 X0 hx hZ hw hby hml hown e0 N0 Z0
    · rw [if_neg hc56]
      refine own_step (T1 := T0) (g1 := (mkF m 105 #[.val (.int i0), .val (.int i1), .val (.int i2), .val (.int i3), .val (.int i4), .val (.int i5), .val (.int i6), .unset, .unset] [])) (fun _ k => XS.icmpYes X0.here hx rfl (pc0 := 56) (pc' := 105) rfl (hb hby d9_56) rfl (feq hc56).2 (by decide) (by decide) k) ?_
      exact b9_105 i0 i1 i2 i3 i4 i5 i6 X0 hx hZ hw hby hml hown e0 N0 Z0
  · rw [if_neg hc50]
    refine own_step (T1 := T0) (g1 := (mkF m 105 #[.val (.int i0), .val (.int i1), .val (.int i2), .val (.int i3), .val (.int i4), .val (.int i5), .val (.int i6), .unset, .unset] [])) (fun _ k => XS.icmpYes X0.here hx rfl (pc0 := 50) (pc' := 105) rfl (hb hby d9_50) rfl (flt hc50).2.2.2 (by decide) (by decide) k) ?_
    exact b9_105 i0 i1 i2 i3 i4 i5 i6 X0 hx hZ hw hby hml hown e0 N0 Z0
def f9_32 (i0 : Int32) (i1 : Int32) (i2 : Int32) (i3 : Int32) (i4 : Int32) (i5 : Int32) (i6 : Int32) : Int32 := (if (0 : Int32) < i2 then (if i0 = i5 then (f9_108 i0 i1 i2 i3 i4 i5 i6 i1) else (f9_48 i0 i1 i2 i3 i4 i5 i6)) else (f9_48 i0 i1 i2 i3 i4 i5 i6))
set_option maxRecDepth 65536 in
set_option maxHeartbeats 4000000 in
theorem b9_32 {p : Program} {l : Launch} {e : Env} {s : State} {m : MethodId} {args : Array Value} {below : List Frame} {meth : Method} {c : Code} {T0 : State} {locs : List Loc} {Z : State} {a0 : Array Value} {h0 : Heap} {n0 : Nat} (i0 : Int32) (i1 : Int32) (i2 : Int32) (i3 : Int32) (i4 : Int32) (i5 : Int32) (i6 : Int32) (X0 : Stand p l e ({ frames := 0, cells := 0, slots := 0, locals := 0 } : Room) s m args below meth c T0 locs 0 0) (hx : p.tables.exec = Jvm.exec) (hZ : Z.Warmed39 s.vm) (hw : ∀ d ∈ tables_1, d.before a0 Z = true) (hby : c.code = method_3_code) (hml : c.maxLocals = 9) (hown : s.vm.findClass "com/example/sukima/sukima/catalog/IndexPlaceOfPinLaw" = some m.cls) (e0 : T0.heap = h0) (N0 : Fr n0 locs) (Z0 : n0 ≤ h0.size) :
    own_Ret p l e ({ frames := 0, cells := 0, slots := 0, locals := 0 } : Room) s m args below meth c h0 n0 0 0 T0 (mkF m 32 #[.val (.int i0), .val (.int i1), .val (.int i2), .val (.int i3), .val (.int i4), .val (.int i5), .val (.int i6), .unset, .unset] []) (f9_32 i0 i1 i2 i3 i4 i5 i6) := by
  unfold f9_32
  refine own_step (T1 := T0) (g1 := (mkF m 33 #[.val (.int i0), .val (.int i1), .val (.int i2), .val (.int i3), .val (.int i4), .val (.int i5), .val (.int i6), .unset, .unset] [(.int i2)])) (fun _ k => XS.iloadN X0.here hx rfl (hb hby d9_32) rfl k) ?_
  by_cases hc33 : (0 : Int32) < i2
  · rw [if_pos hc33]
    refine own_step (T1 := T0) (g1 := (mkF m 36 #[.val (.int i0), .val (.int i1), .val (.int i2), .val (.int i3), .val (.int i4), .val (.int i5), .val (.int i6), .unset, .unset] [])) (fun _ k => XS.ifNo X0.here hx rfl (hb hby d9_33) rfl ((if0 _ _).trans (tlt hc33).2.2.2) k) ?_
    refine own_step (T1 := T0) (g1 := (mkF m 37 #[.val (.int i0), .val (.int i1), .val (.int i2), .val (.int i3), .val (.int i4), .val (.int i5), .val (.int i6), .unset, .unset] [(.int i0)])) (fun _ k => XS.iloadN X0.here hx rfl (hb hby d9_36) rfl k) ?_
    refine own_step (T1 := T0) (g1 := (mkF m 39 #[.val (.int i0), .val (.int i1), .val (.int i2), .val (.int i3), .val (.int i4), .val (.int i5), .val (.int i6), .unset, .unset] [(.int i5), (.int i0)])) (fun _ k => XS.iload X0.here hx rfl (hb hby d9_37) rfl k) ?_
    by_cases hc39 : i0 = i5
    · rw [if_pos hc39]
      refine own_step (T1 := T0) (g1 := (mkF m 42 #[.val (.int i0), .val (.int i1), .val (.int i2), .val (.int i3), .val (.int i4), .val (.int i5), .val (.int i6), .unset, .unset] [])) (fun _ k => XS.icmpNo X0.here hx rfl (hb hby d9_39) rfl (teq hc39).2 k) ?_
      refine own_step (T1 := T0) (g1 := (mkF m 43 #[.val (.int i0), .val (.int i1), .val (.int i2), .val (.int i3), .val (.int i4), .val (.int i5), .val (.int i6), .unset, .unset] [(.int i1)])) (fun _ k => XS.iloadN X0.here hx rfl (hb hby d9_42) rfl k) ?_
      refine own_step (T1 := T0) (g1 := (mkF m 45 #[.val (.int i0), .val (.int i1), .val (.int i2), .val (.int i3), .val (.int i4), .val (.int i5), .val (.int i6), .val (.int i1), .unset] [])) (fun _ k => XS.istore X0.here hx rfl (hb hby d9_43) rfl (l' := #[.val (.int i0), .val (.int i1), .val (.int i2), .val (.int i3), .val (.int i4), .val (.int i5), .val (.int i6), .val (.int i1), .unset]) rfl k) ?_
      refine own_step (T1 := T0) (g1 := (mkF m 108 #[.val (.int i0), .val (.int i1), .val (.int i2), .val (.int i3), .val (.int i4), .val (.int i5), .val (.int i6), .val (.int i1), .unset] [])) (fun _ k => XS.goto X0.here hx rfl (pc0 := 45) (pc' := 108) rfl (hb hby d9_45) (by decide) (by decide) k) ?_
      exact b9_108 i0 i1 i2 i3 i4 i5 i6 i1 (.unset) X0 hx hZ hw hby hml hown e0 N0 Z0
    · rw [if_neg hc39]
      refine own_step (T1 := T0) (g1 := (mkF m 48 #[.val (.int i0), .val (.int i1), .val (.int i2), .val (.int i3), .val (.int i4), .val (.int i5), .val (.int i6), .unset, .unset] [])) (fun _ k => XS.icmpYes X0.here hx rfl (pc0 := 39) (pc' := 48) rfl (hb hby d9_39) rfl (feq hc39).2 (by decide) (by decide) k) ?_
      exact b9_48 i0 i1 i2 i3 i4 i5 i6 X0 hx hZ hw hby hml hown e0 N0 Z0
  · rw [if_neg hc33]
    refine own_step (T1 := T0) (g1 := (mkF m 48 #[.val (.int i0), .val (.int i1), .val (.int i2), .val (.int i3), .val (.int i4), .val (.int i5), .val (.int i6), .unset, .unset] [])) (fun _ k => XS.ifYes X0.here hx rfl (pc0 := 33) (pc' := 48) rfl (hb hby d9_33) rfl ((if0 _ _).trans (flt hc33).2.2.2) (by decide) (by decide) k) ?_
    exact b9_48 i0 i1 i2 i3 i4 i5 i6 X0 hx hZ hw hby hml hown e0 N0 Z0
def f9_15 (i0 : Int32) (i1 : Int32) (i2 : Int32) (i3 : Int32) (i4 : Int32) (i5 : Int32) (i6 : Int32) : Int32 := (if (1 : Int32) < i1 then (if i0 = i4 then (f9_108 i0 i1 i2 i3 i4 i5 i6 (1 : Int32)) else (f9_32 i0 i1 i2 i3 i4 i5 i6)) else (f9_32 i0 i1 i2 i3 i4 i5 i6))
set_option maxRecDepth 65536 in
set_option maxHeartbeats 4000000 in
theorem b9_15 {p : Program} {l : Launch} {e : Env} {s : State} {m : MethodId} {args : Array Value} {below : List Frame} {meth : Method} {c : Code} {T0 : State} {locs : List Loc} {Z : State} {a0 : Array Value} {h0 : Heap} {n0 : Nat} (i0 : Int32) (i1 : Int32) (i2 : Int32) (i3 : Int32) (i4 : Int32) (i5 : Int32) (i6 : Int32) (X0 : Stand p l e ({ frames := 0, cells := 0, slots := 0, locals := 0 } : Room) s m args below meth c T0 locs 0 0) (hx : p.tables.exec = Jvm.exec) (hZ : Z.Warmed39 s.vm) (hw : ∀ d ∈ tables_1, d.before a0 Z = true) (hby : c.code = method_3_code) (hml : c.maxLocals = 9) (hown : s.vm.findClass "com/example/sukima/sukima/catalog/IndexPlaceOfPinLaw" = some m.cls) (e0 : T0.heap = h0) (N0 : Fr n0 locs) (Z0 : n0 ≤ h0.size) :
    own_Ret p l e ({ frames := 0, cells := 0, slots := 0, locals := 0 } : Room) s m args below meth c h0 n0 0 0 T0 (mkF m 15 #[.val (.int i0), .val (.int i1), .val (.int i2), .val (.int i3), .val (.int i4), .val (.int i5), .val (.int i6), .unset, .unset] []) (f9_15 i0 i1 i2 i3 i4 i5 i6) := by
  unfold f9_15
  refine own_step (T1 := T0) (g1 := (mkF m 16 #[.val (.int i0), .val (.int i1), .val (.int i2), .val (.int i3), .val (.int i4), .val (.int i5), .val (.int i6), .unset, .unset] [(.int i1)])) (fun _ k => XS.iloadN X0.here hx rfl (hb hby d9_15) rfl k) ?_
  refine own_step (T1 := T0) (g1 := (mkF m 17 #[.val (.int i0), .val (.int i1), .val (.int i2), .val (.int i3), .val (.int i4), .val (.int i5), .val (.int i6), .unset, .unset] [(.int (1 : Int32)), (.int i1)])) (fun _ k => XS.iconst X0.here hx rfl (hb hby d9_16) k) ?_
  by_cases hc17 : (1 : Int32) < i1
  · rw [if_pos hc17]
    refine own_step (T1 := T0) (g1 := (mkF m 20 #[.val (.int i0), .val (.int i1), .val (.int i2), .val (.int i3), .val (.int i4), .val (.int i5), .val (.int i6), .unset, .unset] [])) (fun _ k => XS.icmpNo X0.here hx rfl (hb hby d9_17) rfl (tlt hc17).2.2.2 k) ?_
    refine own_step (T1 := T0) (g1 := (mkF m 21 #[.val (.int i0), .val (.int i1), .val (.int i2), .val (.int i3), .val (.int i4), .val (.int i5), .val (.int i6), .unset, .unset] [(.int i0)])) (fun _ k => XS.iloadN X0.here hx rfl (hb hby d9_20) rfl k) ?_
    refine own_step (T1 := T0) (g1 := (mkF m 23 #[.val (.int i0), .val (.int i1), .val (.int i2), .val (.int i3), .val (.int i4), .val (.int i5), .val (.int i6), .unset, .unset] [(.int i4), (.int i0)])) (fun _ k => XS.iload X0.here hx rfl (hb hby d9_21) rfl k) ?_
    by_cases hc23 : i0 = i4
    · rw [if_pos hc23]
      refine own_step (T1 := T0) (g1 := (mkF m 26 #[.val (.int i0), .val (.int i1), .val (.int i2), .val (.int i3), .val (.int i4), .val (.int i5), .val (.int i6), .unset, .unset] [])) (fun _ k => XS.icmpNo X0.here hx rfl (hb hby d9_23) rfl (teq hc23).2 k) ?_
      refine own_step (T1 := T0) (g1 := (mkF m 27 #[.val (.int i0), .val (.int i1), .val (.int i2), .val (.int i3), .val (.int i4), .val (.int i5), .val (.int i6), .unset, .unset] [(.int (1 : Int32))])) (fun _ k => XS.iconst X0.here hx rfl (hb hby d9_26) k) ?_
      refine own_step (T1 := T0) (g1 := (mkF m 29 #[.val (.int i0), .val (.int i1), .val (.int i2), .val (.int i3), .val (.int i4), .val (.int i5), .val (.int i6), .val (.int (1 : Int32)), .unset] [])) (fun _ k => XS.istore X0.here hx rfl (hb hby d9_27) rfl (l' := #[.val (.int i0), .val (.int i1), .val (.int i2), .val (.int i3), .val (.int i4), .val (.int i5), .val (.int i6), .val (.int (1 : Int32)), .unset]) rfl k) ?_
      refine own_step (T1 := T0) (g1 := (mkF m 108 #[.val (.int i0), .val (.int i1), .val (.int i2), .val (.int i3), .val (.int i4), .val (.int i5), .val (.int i6), .val (.int (1 : Int32)), .unset] [])) (fun _ k => XS.goto X0.here hx rfl (pc0 := 29) (pc' := 108) rfl (hb hby d9_29) (by decide) (by decide) k) ?_
      exact b9_108 i0 i1 i2 i3 i4 i5 i6 (1 : Int32) (.unset) X0 hx hZ hw hby hml hown e0 N0 Z0
    · rw [if_neg hc23]
      refine own_step (T1 := T0) (g1 := (mkF m 32 #[.val (.int i0), .val (.int i1), .val (.int i2), .val (.int i3), .val (.int i4), .val (.int i5), .val (.int i6), .unset, .unset] [])) (fun _ k => XS.icmpYes X0.here hx rfl (pc0 := 23) (pc' := 32) rfl (hb hby d9_23) rfl (feq hc23).2 (by decide) (by decide) k) ?_
      exact b9_32 i0 i1 i2 i3 i4 i5 i6 X0 hx hZ hw hby hml hown e0 N0 Z0
  · rw [if_neg hc17]
    refine own_step (T1 := T0) (g1 := (mkF m 32 #[.val (.int i0), .val (.int i1), .val (.int i2), .val (.int i3), .val (.int i4), .val (.int i5), .val (.int i6), .unset, .unset] [])) (fun _ k => XS.icmpYes X0.here hx rfl (pc0 := 17) (pc' := 32) rfl (hb hby d9_17) rfl (flt hc17).2.2.2 (by decide) (by decide) k) ?_
    exact b9_32 i0 i1 i2 i3 i4 i5 i6 X0 hx hZ hw hby hml hown e0 N0 Z0
def f9_0 (i0 : Int32) (i1 : Int32) (i2 : Int32) (i3 : Int32) (i4 : Int32) (i5 : Int32) (i6 : Int32) : Int32 := (if (0 : Int32) < i1 then (if i0 = i3 then (f9_108 i0 i1 i2 i3 i4 i5 i6 (0 : Int32)) else (f9_15 i0 i1 i2 i3 i4 i5 i6)) else (f9_15 i0 i1 i2 i3 i4 i5 i6))
set_option maxRecDepth 65536 in
set_option maxHeartbeats 4000000 in
theorem b9_0 {p : Program} {l : Launch} {e : Env} {s : State} {m : MethodId} {args : Array Value} {below : List Frame} {meth : Method} {c : Code} {T0 : State} {locs : List Loc} {Z : State} {a0 : Array Value} {h0 : Heap} {n0 : Nat} (i0 : Int32) (i1 : Int32) (i2 : Int32) (i3 : Int32) (i4 : Int32) (i5 : Int32) (i6 : Int32) (X0 : Stand p l e ({ frames := 0, cells := 0, slots := 0, locals := 0 } : Room) s m args below meth c T0 locs 0 0) (hx : p.tables.exec = Jvm.exec) (hZ : Z.Warmed39 s.vm) (hw : ∀ d ∈ tables_1, d.before a0 Z = true) (hby : c.code = method_3_code) (hml : c.maxLocals = 9) (hown : s.vm.findClass "com/example/sukima/sukima/catalog/IndexPlaceOfPinLaw" = some m.cls) (e0 : T0.heap = h0) (N0 : Fr n0 locs) (Z0 : n0 ≤ h0.size) :
    own_Ret p l e ({ frames := 0, cells := 0, slots := 0, locals := 0 } : Room) s m args below meth c h0 n0 0 0 T0 (mkF m 0 #[.val (.int i0), .val (.int i1), .val (.int i2), .val (.int i3), .val (.int i4), .val (.int i5), .val (.int i6), .unset, .unset] []) (f9_0 i0 i1 i2 i3 i4 i5 i6) := by
  unfold f9_0
  refine own_step (T1 := T0) (g1 := (mkF m 1 #[.val (.int i0), .val (.int i1), .val (.int i2), .val (.int i3), .val (.int i4), .val (.int i5), .val (.int i6), .unset, .unset] [(.int i1)])) (fun _ k => XS.iloadN X0.here hx rfl (hb hby d9_0) rfl k) ?_
  by_cases hc1 : (0 : Int32) < i1
  · rw [if_pos hc1]
    refine own_step (T1 := T0) (g1 := (mkF m 4 #[.val (.int i0), .val (.int i1), .val (.int i2), .val (.int i3), .val (.int i4), .val (.int i5), .val (.int i6), .unset, .unset] [])) (fun _ k => XS.ifNo X0.here hx rfl (hb hby d9_1) rfl ((if0 _ _).trans (tlt hc1).2.2.2) k) ?_
    refine own_step (T1 := T0) (g1 := (mkF m 5 #[.val (.int i0), .val (.int i1), .val (.int i2), .val (.int i3), .val (.int i4), .val (.int i5), .val (.int i6), .unset, .unset] [(.int i0)])) (fun _ k => XS.iloadN X0.here hx rfl (hb hby d9_4) rfl k) ?_
    refine own_step (T1 := T0) (g1 := (mkF m 6 #[.val (.int i0), .val (.int i1), .val (.int i2), .val (.int i3), .val (.int i4), .val (.int i5), .val (.int i6), .unset, .unset] [(.int i3), (.int i0)])) (fun _ k => XS.iloadN X0.here hx rfl (hb hby d9_5) rfl k) ?_
    by_cases hc6 : i0 = i3
    · rw [if_pos hc6]
      refine own_step (T1 := T0) (g1 := (mkF m 9 #[.val (.int i0), .val (.int i1), .val (.int i2), .val (.int i3), .val (.int i4), .val (.int i5), .val (.int i6), .unset, .unset] [])) (fun _ k => XS.icmpNo X0.here hx rfl (hb hby d9_6) rfl (teq hc6).2 k) ?_
      refine own_step (T1 := T0) (g1 := (mkF m 10 #[.val (.int i0), .val (.int i1), .val (.int i2), .val (.int i3), .val (.int i4), .val (.int i5), .val (.int i6), .unset, .unset] [(.int (0 : Int32))])) (fun _ k => XS.iconst X0.here hx rfl (hb hby d9_9) k) ?_
      refine own_step (T1 := T0) (g1 := (mkF m 12 #[.val (.int i0), .val (.int i1), .val (.int i2), .val (.int i3), .val (.int i4), .val (.int i5), .val (.int i6), .val (.int (0 : Int32)), .unset] [])) (fun _ k => XS.istore X0.here hx rfl (hb hby d9_10) rfl (l' := #[.val (.int i0), .val (.int i1), .val (.int i2), .val (.int i3), .val (.int i4), .val (.int i5), .val (.int i6), .val (.int (0 : Int32)), .unset]) rfl k) ?_
      refine own_step (T1 := T0) (g1 := (mkF m 108 #[.val (.int i0), .val (.int i1), .val (.int i2), .val (.int i3), .val (.int i4), .val (.int i5), .val (.int i6), .val (.int (0 : Int32)), .unset] [])) (fun _ k => XS.goto X0.here hx rfl (pc0 := 12) (pc' := 108) rfl (hb hby d9_12) (by decide) (by decide) k) ?_
      exact b9_108 i0 i1 i2 i3 i4 i5 i6 (0 : Int32) (.unset) X0 hx hZ hw hby hml hown e0 N0 Z0
    · rw [if_neg hc6]
      refine own_step (T1 := T0) (g1 := (mkF m 15 #[.val (.int i0), .val (.int i1), .val (.int i2), .val (.int i3), .val (.int i4), .val (.int i5), .val (.int i6), .unset, .unset] [])) (fun _ k => XS.icmpYes X0.here hx rfl (pc0 := 6) (pc' := 15) rfl (hb hby d9_6) rfl (feq hc6).2 (by decide) (by decide) k) ?_
      exact b9_15 i0 i1 i2 i3 i4 i5 i6 X0 hx hZ hw hby hml hown e0 N0 Z0
  · rw [if_neg hc1]
    refine own_step (T1 := T0) (g1 := (mkF m 15 #[.val (.int i0), .val (.int i1), .val (.int i2), .val (.int i3), .val (.int i4), .val (.int i5), .val (.int i6), .unset, .unset] [])) (fun _ k => XS.ifYes X0.here hx rfl (pc0 := 1) (pc' := 15) rfl (hb hby d9_1) rfl ((if0 _ _).trans (flt hc1).2.2.2) (by decide) (by decide) k) ?_
    exact b9_15 i0 i1 i2 i3 i4 i5 i6 X0 hx hZ hw hby hml hown e0 N0 Z0
theorem pn_9 : plainName "com/example/sukima/sukima/catalog/IndexPlaceOfPinLaw" = true := by first | (simp [plainName, overriddenIn]; done) | decide +kernel
theorem ef_9 (m : MethodId) (i0 : Int32) (i1 : Int32) (i2 : Int32) (i3 : Int32) (i4 : Int32) (i5 : Int32) (i6 : Int32) : entryFrame m #[(.int i0), (.int i1), (.int i2), (.int i3), (.int i4), (.int i5), (.int i6)] 9 = mkF m 0 #[.val (.int i0), .val (.int i1), .val (.int i2), .val (.int i3), .val (.int i4), .val (.int i5), .val (.int i6), .unset, .unset] [] := by first | (simp [entryFrame, mkF, argsToLocals, Value.category]; done) | rfl
set_option maxRecDepth 65536 in
set_option maxHeartbeats 4000000 in
theorem rm9 (l : Launch) (Z : State) (a0 : Array Value) (hw : ∀ d ∈ tables_1, d.before a0 Z = true) (ws : List Jvm.Cond) (i0 : Int32) (i1 : Int32) (i2 : Int32) (i3 : Int32) (i4 : Int32) (i5 : Int32) (i6 : Int32) (h0 : Heap) (n0 : Nat) (Z0 : n0 ≤ h0.size) :
    MetFree l (⟨"com/example/sukima/sukima/catalog/IndexPlaceOfPinLaw", "ref", "(IIIIIII)I"⟩ : MethodName) (head1 (Jvm.Cond.code (⟨"com/example/sukima/sukima/catalog/IndexPlaceOfPinLaw", "ref", "(IIIIIII)I"⟩ : MethodName) method_3_code 9 (some .int) :: ws) ({ frames := 0, cells := 0, slots := 0, locals := 0 } : Room)) (fun a U => a = #[(.int i0), (.int i1), (.int i2), (.int i3), (.int i4), (.int i5), (.int i6)] ∧ Z.Warmed39 U.vm ∧ U.heap = h0) (fun _ _ _ _ _ => True) (fun _ U o U' => ∃ v L, o = .returned v ∧ own_Q (f9_0 i0 i1 i2 i3 i4 i5 i6) h0 n0 v U'.heap L ∧ FrameEnd U o U' L ({ frames := 0, cells := 0, slots := 0, locals := 0 } : Room).cells ({ frames := 0, cells := 0, slots := 0, locals := 0 } : Room).slots) := by
  refine MetFree.of_bodySF (plainFor_of_name pn_9) hisR ?_
  intro p e s m args below meth c s₁ Bd hml0 hP hK
  obtain ⟨rfl, hZ, hh⟩ := hP
  have hx := Bd.exec
  have hby := Bd.bytes
  have hml : c.maxLocals = 9 := hml0
  have hown : s.vm.findClass "com/example/sukima/sukima/catalog/IndexPlaceOfPinLaw" = some m.cls := findClass_of_methodNamed Bd.named
  have X0 : Stand p l e ({ frames := 0, cells := 0, slots := 0, locals := 0 } : Room) s m #[(.int i0), (.int i1), (.int i2), (.int i3), (.int i4), (.int i5), (.int i6)] below meth c s₁ [] 0 0 := Stand.of_body Bd
  have e0 : s₁.heap = h0 := by rw [← hh, Bd.state]; rfl
  obtain ⟨T', locs', pcr, Ls, X', e', N', hd, st⟩ := b9_0 i0 i1 i2 i3 i4 i5 i6 X0 hx hZ hw hby hml hown e0 (Fr.nil n0) Z0
  obtain ⟨fs, hr, hrun, hended, hW, hsame⟩ := X'.leave (v := some (.int (f9_0 i0 i1 i2 i3 i4 i5 i6))) (fun h => by rw [Bd.returns] at h; cases h)
  refine ⟨_, _, castTop (ef_9 m i0 i1 i2 i3 i4 i5 i6) (st _ ?_), hrun, hended, _, _, rfl, ?_, ⟨_, rfl⟩, hW, hsame.mono (by decide) (by decide)⟩
  · exact retI X' hx Bd.returns hd hr
  · exact ⟨rfl, N', e'⟩
theorem dpl_4 : decode prog_19_method_11_code 4 = .ok (.iload_n 2, 1) := by decide +kernel
theorem dpl_5 : decode prog_19_method_11_code 5 = .ok (.ifCond .ge 30, 3) := by decide +kernel
theorem dpl_8 : decode prog_19_method_11_code 8 = .ok (.iload_n 3, 1) := by decide +kernel
theorem dpl_9 : decode prog_19_method_11_code 9 = .ok (.aload_n 0, 1) := by decide +kernel
theorem dpl_10 : decode prog_19_method_11_code 10 = .ok (.getfield 30, 3) := by decide +kernel
theorem dpl_13 : decode prog_19_method_11_code 13 = .ok (.arraylength, 1) := by decide +kernel
theorem dpl_14 : decode prog_19_method_11_code 14 = .ok (.if_icmp .ge 21, 3) := by decide +kernel
theorem dpl_17 : decode prog_19_method_11_code 17 = .ok (.aload_n 0, 1) := by decide +kernel
theorem dpl_18 : decode prog_19_method_11_code 18 = .ok (.getfield 30, 3) := by decide +kernel
theorem dpl_21 : decode prog_19_method_11_code 21 = .ok (.iload_n 3, 1) := by decide +kernel
theorem dpl_22 : decode prog_19_method_11_code 22 = .ok (.iaload, 1) := by decide +kernel
theorem dpl_23 : decode prog_19_method_11_code 23 = .ok (.iload_n 1, 1) := by decide +kernel
theorem dpl_24 : decode prog_19_method_11_code 24 = .ok (.if_icmp .ne 5, 3) := by decide +kernel
theorem dpl_29 : decode prog_19_method_11_code 29 = .ok (.iinc 3 1, 3) := by decide +kernel
theorem dpl_32 : decode prog_19_method_11_code 32 = .ok (.goto (-28), 3) := by decide +kernel
set_option maxRecDepth 65536 in
set_option maxHeartbeats 4000000 in
theorem own_pNo {p : Program} {l : Launch} {e : Env} {s : State} {m : MethodId} {args : Array Value} {below : List Frame} {meth : Method} {c : Code} {T0 : State} {locs : List Loc} {Z : State} {a0 : Array Value} {h0 : Heap} {n0 : Nat} (a1 kc : Addr) (kk : ClassId) (x i n a : Int32) (vs : List Value) (X0 : Stand p l e ({ frames := 0, cells := 0, slots := 0, locals := 0 } : Room) s m args below meth c T0 locs 0 0) (hx : p.tables.exec = Jvm.exec) (hZ : Z.Warmed39 s.vm) (hw : ∀ d ∈ tables_1, d.before a0 Z = true) (hby : c.code = prog_19_method_11_code) (hml : c.maxLocals = 4) (hown : s.vm.findClass "com/example/sukima/sukima/catalog/Index" = some m.cls) (e0 : T0.heap = h0) (N0 : Fr n0 locs) (Fk : Fld Z h0 a1 "com/example/sukima/sukima/catalog/Index" "keyColumns" "[I" (.ref kc)) (Vk : Arv Z h0 kc kk .int n vs (.int 0)) (hin : ¬ i < 0 ∧ i < n) (hat : vs.getD i.toNatClampNeg (.int 0) = .int a) (hne : ¬ (a = x)) :
    own_To p l e ({ frames := 0, cells := 0, slots := 0, locals := 0 } : Room) s m args below meth c T0 (mkF m 4 #[.val (.ref a1), .val (.int x), .val (.int (-1 : Int32)), .val (.int i)] []) (fun T' g' L k z => g' = mkF m 4 #[.val (.ref a1), .val (.int x), .val (.int (-1 : Int32)), .val (.int (i + (1 : Int32)))] [] ∧ k = 0 ∧ z = 0 ∧ Fr n0 L ∧ T'.heap = h0) := by
  refine own_go (T1 := T0) (g1 := (mkF m 5 #[.val (.ref a1), .val (.int x), .val (.int (-1 : Int32)), .val (.int i)] [(.int (-1 : Int32))])) (fun _ k => XS.iloadN X0.here hx rfl (hb hby dpl_4) rfl k) ?_
  refine own_go (T1 := T0) (g1 := (mkF m 8 #[.val (.ref a1), .val (.int x), .val (.int (-1 : Int32)), .val (.int i)] [])) (fun _ k => XS.ifNo X0.here hx rfl (hb hby dpl_5) rfl ((if0 _ _).trans (tlt ((by decide) : (-1 : Int32) < (0 : Int32))).2.1) k) ?_
  refine own_go (T1 := T0) (g1 := (mkF m 9 #[.val (.ref a1), .val (.int x), .val (.int (-1 : Int32)), .val (.int i)] [(.int i)])) (fun _ k => XS.iloadN X0.here hx rfl (hb hby dpl_8) rfl k) ?_
  refine own_go (T1 := T0) (g1 := (mkF m 10 #[.val (.ref a1), .val (.int x), .val (.int (-1 : Int32)), .val (.int i)] [(.ref a1), (.int i)])) (fun _ k => XS.aloadN X0.here hx rfl (hb hby dpl_9) rfl rfl k) ?_
  obtain ⟨T1, X1, e1, st1⟩ := getF X0 hx hZ hown (host := "") (Or.inl (hw _ (List.mem_of_getElem? (i := 127) rfl))) Via.refl e0 Fk (g := (mkF m 10 #[.val (.ref a1), .val (.int x), .val (.int (-1 : Int32)), .val (.int i)] [(.ref a1), (.int i)])) rfl rfl (hb hby dpl_10)
  refine own_go (T1 := T1) (g1 := (mkF m 13 #[.val (.ref a1), .val (.int x), .val (.int (-1 : Int32)), .val (.int i)] [(.ref kc), (.int i)])) (fun t k => st1 t k) ?_
  obtain ⟨cl2, Ar2, -, S2, N2, -, -⟩ := id Vk
  refine own_go (T1 := T1) (g1 := (mkF m 14 #[.val (.ref a1), .val (.int x), .val (.int (-1 : Int32)), .val (.int i)] [(.int n), (.int i)])) (fun _ k => X1.arraylength hx (by rw [e1]; exact Ar2.1) (State.isArrayOf_alike hZ.alike Ar2.2.1) (g := (mkF m 13 #[.val (.ref a1), .val (.int x), .val (.int (-1 : Int32)), .val (.int i)] [(.ref kc), (.int i)])) rfl rfl (hb hby dpl_13) _ (by rw [len_of S2 N2]; exact k)) ?_
  refine own_go (T1 := T1) (g1 := (mkF m 17 #[.val (.ref a1), .val (.int x), .val (.int (-1 : Int32)), .val (.int i)] [])) (fun _ k => XS.icmpNo X1.here hx rfl (hb hby dpl_14) rfl (tlt (hin.2 : i < n)).2.1 k) ?_
  refine own_go (T1 := T1) (g1 := (mkF m 18 #[.val (.ref a1), .val (.int x), .val (.int (-1 : Int32)), .val (.int i)] [(.ref a1)])) (fun _ k => XS.aloadN X1.here hx rfl (hb hby dpl_17) rfl rfl k) ?_
  obtain ⟨T3, X3, e3, st3⟩ := getF X1 hx hZ hown (host := "") (Or.inl (hw _ (List.mem_of_getElem? (i := 127) rfl))) Via.refl e1 Fk (g := (mkF m 18 #[.val (.ref a1), .val (.int x), .val (.int (-1 : Int32)), .val (.int i)] [(.ref a1)])) rfl rfl (hb hby dpl_18)
  refine own_go (T1 := T3) (g1 := (mkF m 21 #[.val (.ref a1), .val (.int x), .val (.int (-1 : Int32)), .val (.int i)] [(.ref kc)])) (fun t k => st3 t k) ?_
  refine own_go (T1 := T3) (g1 := (mkF m 22 #[.val (.ref a1), .val (.int x), .val (.int (-1 : Int32)), .val (.int i)] [(.int i), (.ref kc)])) (fun _ k => XS.iloadN X3.here hx rfl (hb hby dpl_21) rfl k) ?_
  obtain ⟨cl4, Ar4, -, S4, -, H4, -⟩ := id Vk
  refine own_go (T1 := T3) (g1 := (mkF m 23 #[.val (.ref a1), .val (.int x), .val (.int (-1 : Int32)), .val (.int i)] [(.int a)])) (fun _ k => X3.iaload hx (j := i) (v := (.int a)) (by rw [e3]; exact Ar4.1) (State.isArrayOf_alike hZ.alike Ar4.2.1) Ar4.2.2 (inb_of S4 hin) (H4.at (inb_of S4 hin) hat) (g := (mkF m 22 #[.val (.ref a1), .val (.int x), .val (.int (-1 : Int32)), .val (.int i)] [(.int i), (.ref kc)])) rfl rfl (hb hby dpl_22) _ k) ?_
  refine own_go (T1 := T3) (g1 := (mkF m 24 #[.val (.ref a1), .val (.int x), .val (.int (-1 : Int32)), .val (.int i)] [(.int x), (.int a)])) (fun _ k => XS.iloadN X3.here hx rfl (hb hby dpl_23) rfl k) ?_
  refine own_go (T1 := T3) (g1 := (mkF m 29 #[.val (.ref a1), .val (.int x), .val (.int (-1 : Int32)), .val (.int i)] [])) (fun _ k => XS.icmpYes X3.here hx rfl (pc0 := 24) (pc' := 29) rfl (hb hby dpl_24) rfl (feq (hne : ¬ (a = x))).2 (by decide) (by decide) k) ?_
  refine own_go (T1 := T3) (g1 := (mkF m 32 #[.val (.ref a1), .val (.int x), .val (.int (-1 : Int32)), .val (.int (i + (1 : Int32)))] [])) (fun _ k => XS.iinc X3.here hx rfl (hb hby dpl_29) rfl (l' := #[.val (.ref a1), .val (.int x), .val (.int (-1 : Int32)), .val (.int (i + (1 : Int32)))]) rfl k) ?_
  refine own_go (T1 := T3) (g1 := (mkF m 4 #[.val (.ref a1), .val (.int x), .val (.int (-1 : Int32)), .val (.int (i + (1 : Int32)))] [])) (fun _ k => XS.goto X3.here hx rfl (pc0 := 32) (pc' := 4) rfl (hb hby dpl_32) (by decide) (by decide) k) ?_
  exact ⟨T3, _, _, _, _, X3, ⟨rfl, rfl, rfl, N0, e3⟩, fun _ k => k⟩
set_option maxRecDepth 65536 in
set_option maxHeartbeats 4000000 in
theorem own_pOut {p : Program} {l : Launch} {e : Env} {s : State} {m : MethodId} {args : Array Value} {below : List Frame} {meth : Method} {c : Code} {T0 : State} {locs : List Loc} {Z : State} {a0 : Array Value} {h0 : Heap} {n0 : Nat} (a1 kc : Addr) (kk : ClassId) (x i n a : Int32) (vs : List Value) (X0 : Stand p l e ({ frames := 0, cells := 0, slots := 0, locals := 0 } : Room) s m args below meth c T0 locs 0 0) (hx : p.tables.exec = Jvm.exec) (hZ : Z.Warmed39 s.vm) (hw : ∀ d ∈ tables_1, d.before a0 Z = true) (hby : c.code = prog_19_method_11_code) (hml : c.maxLocals = 4) (hown : s.vm.findClass "com/example/sukima/sukima/catalog/Index" = some m.cls) (e0 : T0.heap = h0) (N0 : Fr n0 locs) (Fk : Fld Z h0 a1 "com/example/sukima/sukima/catalog/Index" "keyColumns" "[I" (.ref kc)) (Vk : Arv Z h0 kc kk .int n vs (.int 0)) (hge : ¬ (i < n)) :
    own_To p l e ({ frames := 0, cells := 0, slots := 0, locals := 0 } : Room) s m args below meth c T0 (mkF m 4 #[.val (.ref a1), .val (.int x), .val (.int (-1 : Int32)), .val (.int i)] []) (fun T' g' L k z => g' = mkF m 35 #[.val (.ref a1), .val (.int x), .val (.int (-1 : Int32)), .val (.int i)] [] ∧ k = 0 ∧ z = 0 ∧ Fr n0 L ∧ T'.heap = h0) := by
  refine own_go (T1 := T0) (g1 := (mkF m 5 #[.val (.ref a1), .val (.int x), .val (.int (-1 : Int32)), .val (.int i)] [(.int (-1 : Int32))])) (fun _ k => XS.iloadN X0.here hx rfl (hb hby dpl_4) rfl k) ?_
  refine own_go (T1 := T0) (g1 := (mkF m 8 #[.val (.ref a1), .val (.int x), .val (.int (-1 : Int32)), .val (.int i)] [])) (fun _ k => XS.ifNo X0.here hx rfl (hb hby dpl_5) rfl ((if0 _ _).trans (tlt ((by decide) : (-1 : Int32) < (0 : Int32))).2.1) k) ?_
  refine own_go (T1 := T0) (g1 := (mkF m 9 #[.val (.ref a1), .val (.int x), .val (.int (-1 : Int32)), .val (.int i)] [(.int i)])) (fun _ k => XS.iloadN X0.here hx rfl (hb hby dpl_8) rfl k) ?_
  refine own_go (T1 := T0) (g1 := (mkF m 10 #[.val (.ref a1), .val (.int x), .val (.int (-1 : Int32)), .val (.int i)] [(.ref a1), (.int i)])) (fun _ k => XS.aloadN X0.here hx rfl (hb hby dpl_9) rfl rfl k) ?_
  obtain ⟨T1, X1, e1, st1⟩ := getF X0 hx hZ hown (host := "") (Or.inl (hw _ (List.mem_of_getElem? (i := 127) rfl))) Via.refl e0 Fk (g := (mkF m 10 #[.val (.ref a1), .val (.int x), .val (.int (-1 : Int32)), .val (.int i)] [(.ref a1), (.int i)])) rfl rfl (hb hby dpl_10)
  refine own_go (T1 := T1) (g1 := (mkF m 13 #[.val (.ref a1), .val (.int x), .val (.int (-1 : Int32)), .val (.int i)] [(.ref kc), (.int i)])) (fun t k => st1 t k) ?_
  obtain ⟨cl2, Ar2, -, S2, N2, -, -⟩ := id Vk
  refine own_go (T1 := T1) (g1 := (mkF m 14 #[.val (.ref a1), .val (.int x), .val (.int (-1 : Int32)), .val (.int i)] [(.int n), (.int i)])) (fun _ k => X1.arraylength hx (by rw [e1]; exact Ar2.1) (State.isArrayOf_alike hZ.alike Ar2.2.1) (g := (mkF m 13 #[.val (.ref a1), .val (.int x), .val (.int (-1 : Int32)), .val (.int i)] [(.ref kc), (.int i)])) rfl rfl (hb hby dpl_13) _ (by rw [len_of S2 N2]; exact k)) ?_
  refine own_go (T1 := T1) (g1 := (mkF m 35 #[.val (.ref a1), .val (.int x), .val (.int (-1 : Int32)), .val (.int i)] [])) (fun _ k => XS.icmpYes X1.here hx rfl (pc0 := 14) (pc' := 35) rfl (hb hby dpl_14) rfl (flt (hge : ¬ (i < n))).2.1 (by decide) (by decide) k) ?_
  exact ⟨T1, _, _, _, _, X1, ⟨rfl, rfl, rfl, N0, e1⟩, fun _ k => k⟩
theorem dpl_27 : decode prog_19_method_11_code 27 = .ok (.iload_n 3, 1) := by decide +kernel
theorem dpl_28 : decode prog_19_method_11_code 28 = .ok (.istore_n 2, 1) := by decide +kernel
set_option maxRecDepth 65536 in
set_option maxHeartbeats 4000000 in
theorem own_pYes {p : Program} {l : Launch} {e : Env} {s : State} {m : MethodId} {args : Array Value} {below : List Frame} {meth : Method} {c : Code} {T0 : State} {locs : List Loc} {Z : State} {a0 : Array Value} {h0 : Heap} {n0 : Nat} (a1 kc : Addr) (kk : ClassId) (x i n a : Int32) (vs : List Value) (X0 : Stand p l e ({ frames := 0, cells := 0, slots := 0, locals := 0 } : Room) s m args below meth c T0 locs 0 0) (hx : p.tables.exec = Jvm.exec) (hZ : Z.Warmed39 s.vm) (hw : ∀ d ∈ tables_1, d.before a0 Z = true) (hby : c.code = prog_19_method_11_code) (hml : c.maxLocals = 4) (hown : s.vm.findClass "com/example/sukima/sukima/catalog/Index" = some m.cls) (e0 : T0.heap = h0) (N0 : Fr n0 locs) (Fk : Fld Z h0 a1 "com/example/sukima/sukima/catalog/Index" "keyColumns" "[I" (.ref kc)) (Vk : Arv Z h0 kc kk .int n vs (.int 0)) (hin : ¬ i < 0 ∧ i < n) (hat : vs.getD i.toNatClampNeg (.int 0) = .int a) (heq : a = x) :
    own_To p l e ({ frames := 0, cells := 0, slots := 0, locals := 0 } : Room) s m args below meth c T0 (mkF m 4 #[.val (.ref a1), .val (.int x), .val (.int (-1 : Int32)), .val (.int i)] []) (fun T' g' L k z => g' = mkF m 35 #[.val (.ref a1), .val (.int x), .val (.int i), .val (.int (i + (1 : Int32)))] [] ∧ k = 0 ∧ z = 0 ∧ Fr n0 L ∧ T'.heap = h0) := by
  refine own_go (T1 := T0) (g1 := (mkF m 5 #[.val (.ref a1), .val (.int x), .val (.int (-1 : Int32)), .val (.int i)] [(.int (-1 : Int32))])) (fun _ k => XS.iloadN X0.here hx rfl (hb hby dpl_4) rfl k) ?_
  refine own_go (T1 := T0) (g1 := (mkF m 8 #[.val (.ref a1), .val (.int x), .val (.int (-1 : Int32)), .val (.int i)] [])) (fun _ k => XS.ifNo X0.here hx rfl (hb hby dpl_5) rfl ((if0 _ _).trans (tlt ((by decide) : (-1 : Int32) < (0 : Int32))).2.1) k) ?_
  refine own_go (T1 := T0) (g1 := (mkF m 9 #[.val (.ref a1), .val (.int x), .val (.int (-1 : Int32)), .val (.int i)] [(.int i)])) (fun _ k => XS.iloadN X0.here hx rfl (hb hby dpl_8) rfl k) ?_
  refine own_go (T1 := T0) (g1 := (mkF m 10 #[.val (.ref a1), .val (.int x), .val (.int (-1 : Int32)), .val (.int i)] [(.ref a1), (.int i)])) (fun _ k => XS.aloadN X0.here hx rfl (hb hby dpl_9) rfl rfl k) ?_
  obtain ⟨T1, X1, e1, st1⟩ := getF X0 hx hZ hown (host := "") (Or.inl (hw _ (List.mem_of_getElem? (i := 127) rfl))) Via.refl e0 Fk (g := (mkF m 10 #[.val (.ref a1), .val (.int x), .val (.int (-1 : Int32)), .val (.int i)] [(.ref a1), (.int i)])) rfl rfl (hb hby dpl_10)
  refine own_go (T1 := T1) (g1 := (mkF m 13 #[.val (.ref a1), .val (.int x), .val (.int (-1 : Int32)), .val (.int i)] [(.ref kc), (.int i)])) (fun t k => st1 t k) ?_
  obtain ⟨cl2, Ar2, -, S2, N2, -, -⟩ := id Vk
  refine own_go (T1 := T1) (g1 := (mkF m 14 #[.val (.ref a1), .val (.int x), .val (.int (-1 : Int32)), .val (.int i)] [(.int n), (.int i)])) (fun _ k => X1.arraylength hx (by rw [e1]; exact Ar2.1) (State.isArrayOf_alike hZ.alike Ar2.2.1) (g := (mkF m 13 #[.val (.ref a1), .val (.int x), .val (.int (-1 : Int32)), .val (.int i)] [(.ref kc), (.int i)])) rfl rfl (hb hby dpl_13) _ (by rw [len_of S2 N2]; exact k)) ?_
  refine own_go (T1 := T1) (g1 := (mkF m 17 #[.val (.ref a1), .val (.int x), .val (.int (-1 : Int32)), .val (.int i)] [])) (fun _ k => XS.icmpNo X1.here hx rfl (hb hby dpl_14) rfl (tlt (hin.2 : i < n)).2.1 k) ?_
  refine own_go (T1 := T1) (g1 := (mkF m 18 #[.val (.ref a1), .val (.int x), .val (.int (-1 : Int32)), .val (.int i)] [(.ref a1)])) (fun _ k => XS.aloadN X1.here hx rfl (hb hby dpl_17) rfl rfl k) ?_
  obtain ⟨T3, X3, e3, st3⟩ := getF X1 hx hZ hown (host := "") (Or.inl (hw _ (List.mem_of_getElem? (i := 127) rfl))) Via.refl e1 Fk (g := (mkF m 18 #[.val (.ref a1), .val (.int x), .val (.int (-1 : Int32)), .val (.int i)] [(.ref a1)])) rfl rfl (hb hby dpl_18)
  refine own_go (T1 := T3) (g1 := (mkF m 21 #[.val (.ref a1), .val (.int x), .val (.int (-1 : Int32)), .val (.int i)] [(.ref kc)])) (fun t k => st3 t k) ?_
  refine own_go (T1 := T3) (g1 := (mkF m 22 #[.val (.ref a1), .val (.int x), .val (.int (-1 : Int32)), .val (.int i)] [(.int i), (.ref kc)])) (fun _ k => XS.iloadN X3.here hx rfl (hb hby dpl_21) rfl k) ?_
  obtain ⟨cl4, Ar4, -, S4, -, H4, -⟩ := id Vk
  refine own_go (T1 := T3) (g1 := (mkF m 23 #[.val (.ref a1), .val (.int x), .val (.int (-1 : Int32)), .val (.int i)] [(.int a)])) (fun _ k => X3.iaload hx (j := i) (v := (.int a)) (by rw [e3]; exact Ar4.1) (State.isArrayOf_alike hZ.alike Ar4.2.1) Ar4.2.2 (inb_of S4 hin) (H4.at (inb_of S4 hin) hat) (g := (mkF m 22 #[.val (.ref a1), .val (.int x), .val (.int (-1 : Int32)), .val (.int i)] [(.int i), (.ref kc)])) rfl rfl (hb hby dpl_22) _ k) ?_
  refine own_go (T1 := T3) (g1 := (mkF m 24 #[.val (.ref a1), .val (.int x), .val (.int (-1 : Int32)), .val (.int i)] [(.int x), (.int a)])) (fun _ k => XS.iloadN X3.here hx rfl (hb hby dpl_23) rfl k) ?_
  refine own_go (T1 := T3) (g1 := (mkF m 27 #[.val (.ref a1), .val (.int x), .val (.int (-1 : Int32)), .val (.int i)] [])) (fun _ k => XS.icmpNo X3.here hx rfl (hb hby dpl_24) rfl (teq (heq : a = x)).2 k) ?_
  refine own_go (T1 := T3) (g1 := (mkF m 28 #[.val (.ref a1), .val (.int x), .val (.int (-1 : Int32)), .val (.int i)] [(.int i)])) (fun _ k => XS.iloadN X3.here hx rfl (hb hby dpl_27) rfl k) ?_
  refine own_go (T1 := T3) (g1 := (mkF m 29 #[.val (.ref a1), .val (.int x), .val (.int i), .val (.int i)] [])) (fun _ k => XS.istoreN X3.here hx rfl (hb hby dpl_28) rfl (l' := #[.val (.ref a1), .val (.int x), .val (.int i), .val (.int i)]) rfl k) ?_
  refine own_go (T1 := T3) (g1 := (mkF m 32 #[.val (.ref a1), .val (.int x), .val (.int i), .val (.int (i + (1 : Int32)))] [])) (fun _ k => XS.iinc X3.here hx rfl (hb hby dpl_29) rfl (l' := #[.val (.ref a1), .val (.int x), .val (.int i), .val (.int (i + (1 : Int32)))]) rfl k) ?_
  refine own_go (T1 := T3) (g1 := (mkF m 4 #[.val (.ref a1), .val (.int x), .val (.int i), .val (.int (i + (1 : Int32)))] [])) (fun _ k => XS.goto X3.here hx rfl (pc0 := 32) (pc' := 4) rfl (hb hby dpl_32) (by decide) (by decide) k) ?_
  refine own_go (T1 := T3) (g1 := (mkF m 5 #[.val (.ref a1), .val (.int x), .val (.int i), .val (.int (i + (1 : Int32)))] [(.int i)])) (fun _ k => XS.iloadN X3.here hx rfl (hb hby dpl_4) rfl k) ?_
  refine own_go (T1 := T3) (g1 := (mkF m 35 #[.val (.ref a1), .val (.int x), .val (.int i), .val (.int (i + (1 : Int32)))] [])) (fun _ k => XS.ifYes X3.here hx rfl (pc0 := 5) (pc' := 35) rfl (hb hby dpl_5) rfl ((if0 _ _).trans (flt (hin.1 : ¬ (i < (0 : Int32)))).2.1) (by decide) (by decide) k) ?_
  exact ⟨T3, _, _, _, _, X3, ⟨rfl, rfl, rfl, N0, e3⟩, fun _ k => k⟩
theorem dpl_0 : decode prog_19_method_11_code 0 = .ok (.iconst (-1), 1) := by decide +kernel
theorem dpl_1 : decode prog_19_method_11_code 1 = .ok (.istore_n 2, 1) := by decide +kernel
theorem dpl_2 : decode prog_19_method_11_code 2 = .ok (.iconst 0, 1) := by decide +kernel
theorem dpl_3 : decode prog_19_method_11_code 3 = .ok (.istore_n 3, 1) := by decide +kernel
theorem dpl_35 : decode prog_19_method_11_code 35 = .ok (.iload_n 2, 1) := by decide +kernel
theorem dpl_36 : decode prog_19_method_11_code 36 = .ok (.ireturn, 1) := by decide +kernel
def QP (x : Int32) (lst : List Int32) (h0 : Heap) (n0 : Nat) (v : Option Value) (h : Heap) (L : List Loc) : Prop := v = some (.int (own_find x lst 0)) ∧ Fr n0 L ∧ h = h0
/-! placeOf's loop -/
theorem own_then {p : Program} {l : Launch} {e : Env} {R : Room} {s : State} {m : MethodId} {args : Array Value} {below : List Frame} {meth : Method} {c : Code} {T0 : State} {g0 : JFrame} {Φ Ψ : State → JFrame → List Loc → Nat → Nat → Prop}
    (h : own_To p l e R s m args below meth c T0 g0 Φ) (k : ∀ T' g' L k n, Stand p l e R s m args below meth c T' L k n → Φ T' g' L k n → own_To p l e R s m args below meth c T' g' Ψ) : own_To p l e R s m args below meth c T0 g0 Ψ := by
  obtain ⟨T', g', L, k', n, h1, h2, h3⟩ := h
  exact own_go h3 (k T' g' L k' n h1 h2)
theorem own_inc (t : Nat) : Int32.ofNat t + 1 = Int32.ofNat (t + 1) := (Int32.ofNat_add t 1).symm
theorem own_nat8 : ∀ i < 8, (Int32.ofNat i).toNatClampNeg = i := by decide
theorem own_lt8 : ∀ i < 8, ∀ j < 8, (i < j → Int32.ofNat i < Int32.ofNat j) ∧ (¬ i < j → ¬ Int32.ofNat i < Int32.ofNat j) ∧ ¬ Int32.ofNat i < 0 := by decide
theorem own_nth (pre : List Int32) (a : Int32) (r : List Int32) (h : pre.length < 8) : ((pre ++ a :: r).map Value.int).getD (Int32.ofNat pre.length).toNatClampNeg (.int 0) = .int a := by
  rw [own_nat8 _ h]; simp [List.getD_eq_getElem?_getD]
section OwnLoop
variable {p : Program} {l : Launch} {e : Env} {s : State} {m : MethodId} {args : Array Value} {below : List Frame} {meth : Method} {c : Code} {Z : State} {a0 : Array Value} {n0 : Nat} {h0 : Heap}
theorem own_pLoop (a1 kc : Addr) (kk : ClassId) (x : Int32) (lst : List Int32) (hl : lst.length ≤ 4) (hx : p.tables.exec = Jvm.exec) (hZ : Z.Warmed39 s.vm) (hw : ∀ d ∈ tables_1, d.before a0 Z = true) (hby : c.code = prog_19_method_11_code) (hml : c.maxLocals = 4) (hown : s.vm.findClass "com/example/sukima/sukima/catalog/Index" = some m.cls)
    (Fk : Fld Z h0 a1 "com/example/sukima/sukima/catalog/Index" "keyColumns" "[I" (.ref kc)) (Vk : Arv Z h0 kc kk .int (Int32.ofNat lst.length) (lst.map Value.int) (.int 0)) :
    ∀ (r pre : List Int32) (T0 : State) (hh : Heap) (locs : List Loc), lst = pre ++ r → Stand p l e ({ frames := 0, cells := 0, slots := 0, locals := 0 } : Room) s m args below meth c T0 locs 0 0 → T0.heap = h0 → Fr n0 locs →
      own_To p l e ({ frames := 0, cells := 0, slots := 0, locals := 0 } : Room) s m args below meth c T0 (mkF m 4 #[.val (.ref a1), .val (.int x), .val (.int (-1 : Int32)), .val (.int (Int32.ofNat pre.length))] []) (fun T' g' L kq zq => ∃ pcr Ls z, g' = mkF m pcr Ls [.int z] ∧ decode c.code pcr = .ok (.ireturn, 1) ∧ kq = 0 ∧ zq = 0 ∧ (some (Value.int z) = some (.int (own_find x r pre.length)) ∧ Fr n0 L ∧ T'.heap = h0)) := by
  intro r
  induction r with
  | nil =>
    intro pre T0 hh locs hlp X0 e0 N0
    rw [List.append_nil] at hlp; subst hlp
    refine own_then (own_pOut a1 kc kk x (Int32.ofNat lst.length) (Int32.ofNat lst.length) 0 (lst.map Value.int) X0 hx hZ hw hby hml hown e0 N0 Fk Vk Int32.lt_irrefl) ?_
    rintro T' g' L k z X' ⟨rfl, rfl, rfl, N', e'⟩
    refine own_go (T1 := T') (g1 := mkF m 36 #[.val (.ref a1), .val (.int x), .val (.int (-1 : Int32)), .val (.int (Int32.ofNat lst.length))] [.int (-1 : Int32)]) (fun _ k => XS.iloadN X'.here hx rfl (hb hby dpl_35) rfl k) ?_
    exact ⟨T', _, _, _, _, X', ⟨36, _, _, rfl, hb hby dpl_36, rfl, rfl, rfl, N', e'⟩, fun _ k => k⟩
  | cons a r ih =>
    intro pre T0 hh locs hlp X0 e0 N0
    have hlen : pre.length < lst.length := by rw [hlp]; simp
    have h8 := own_lt8 pre.length (by omega) lst.length (by omega)
    have hat : (lst.map Value.int).getD (Int32.ofNat pre.length).toNatClampNeg (.int 0) = .int a := by rw [hlp]; exact own_nth pre a r (by omega)
    by_cases ha : a = x
    · refine own_then (own_pYes a1 kc kk x (Int32.ofNat pre.length) (Int32.ofNat lst.length) a (lst.map Value.int) X0 hx hZ hw hby hml hown e0 N0 Fk Vk ⟨h8.2.2, h8.1 hlen⟩ hat ha) ?_
      rintro T' g' L k z X' ⟨rfl, rfl, rfl, N', e'⟩
      refine own_go (T1 := T') (g1 := mkF m 36 #[.val (.ref a1), .val (.int x), .val (.int (Int32.ofNat pre.length)), .val (.int (Int32.ofNat pre.length + (1 : Int32)))] [.int (Int32.ofNat pre.length)]) (fun _ k => XS.iloadN X'.here hx rfl (hb hby dpl_35) rfl k) ?_
      refine ⟨T', _, _, _, _, X', ⟨36, _, _, rfl, hb hby dpl_36, rfl, rfl, ?_, N', e'⟩, fun _ k => k⟩
      rw [own_find, if_pos ha]
    · refine own_then (own_pNo a1 kc kk x (Int32.ofNat pre.length) (Int32.ofNat lst.length) a (lst.map Value.int) X0 hx hZ hw hby hml hown e0 N0 Fk Vk ⟨h8.2.2, h8.1 hlen⟩ hat ha) ?_
      rintro T' g' L k z X' ⟨rfl, rfl, rfl, N', e'⟩
      have := ih (pre ++ [a]) T' hh L (by rw [hlp]; simp) X' e' N'
      rw [own_find, if_neg ha, own_inc]
      simpa using this
end OwnLoop

theorem ef_rmpl (m : MethodId) (a1 : Addr) (x : Int32) : entryFrame m #[(.ref a1), (.int x)] 4 = mkF m 0 #[.val (.ref a1), .val (.int x), .unset, .unset] [] := by first | (simp [entryFrame, mkF, argsToLocals, Value.category]; done) | rfl
set_option maxRecDepth 65536 in
set_option maxHeartbeats 4000000 in
theorem rmpl (l : Launch) (Z : State) (a0 : Array Value) (hw : ∀ d ∈ tables_1, d.before a0 Z = true) (ws : List Jvm.Cond) (a1 : Addr) (x : Int32) (kc : Addr) (kk : ClassId) (lst : List Int32) (h0 : Heap) (n0 : Nat) (Z0 : n0 ≤ h0.size) (hl : lst.length ≤ 4) (Fk : Fld Z h0 a1 "com/example/sukima/sukima/catalog/Index" "keyColumns" "[I" (.ref kc)) (Vk : Arv Z h0 kc kk .int (Int32.ofNat lst.length) (lst.map Value.int) (.int 0)) :
    MetFree l (⟨"com/example/sukima/sukima/catalog/Index", "placeOf", "(I)I"⟩ : MethodName) (head1 (Jvm.Cond.code (⟨"com/example/sukima/sukima/catalog/Index", "placeOf", "(I)I"⟩ : MethodName) prog_19_method_11_code 4 (some .int) :: ws) ({ frames := 0, cells := 0, slots := 0, locals := 0 } : Room)) (fun a U => a = #[(.ref a1), (.int x)] ∧ Z.Warmed39 U.vm ∧ U.heap = h0) (fun _ _ _ _ _ => True) (fun _ U o U' => ∃ v L, o = .returned v ∧ QP x lst h0 n0 v U'.heap L ∧ FrameEnd U o U' L ({ frames := 0, cells := 0, slots := 0, locals := 0 } : Room).cells ({ frames := 0, cells := 0, slots := 0, locals := 0 } : Room).slots) := by
  refine MetFree.of_bodySF (plainFor_of_name (by first | (simp [plainName, overriddenIn]; done) | decide +kernel)) hisR ?_
  intro p e s m args below meth c s₁ Bd hml0 hP hK
  obtain ⟨rfl, hZ, hh⟩ := hP
  have hx := Bd.exec
  have hby := Bd.bytes
  have hml : c.maxLocals = 4 := hml0
  have hown : s.vm.findClass "com/example/sukima/sukima/catalog/Index" = some m.cls := findClass_of_methodNamed Bd.named
  have hnm := (name_of_methodNamed Bd.named Bd.method).1
  have X0 : Stand p l e ({ frames := 0, cells := 0, slots := 0, locals := 0 } : Room) s m #[(.ref a1), (.int x)] below meth c s₁ [] 0 0 := Stand.of_body Bd
  have e0 : s₁.heap = h0 := by rw [← hh, Bd.state]; rfl
  have N0 := Fr.nil n0
  have main : own_To p l e ({ frames := 0, cells := 0, slots := 0, locals := 0 } : Room) s m #[(.ref a1), (.int x)] below meth c s₁ (mkF m 0 #[.val (.ref a1), .val (.int x), .unset, .unset] []) (fun T' g' L kq zq => ∃ pcr Ls z, g' = mkF m pcr Ls [.int z] ∧ decode c.code pcr = .ok (.ireturn, 1) ∧ kq = 0 ∧ zq = 0 ∧ QP x lst h0 n0 (some (.int z)) T'.heap L) := by
    refine own_go (T1 := s₁) (g1 := (mkF m 1 #[.val (.ref a1), .val (.int x), .unset, .unset] [(.int (-1 : Int32))])) (fun _ k => XS.iconst X0.here hx rfl (hb hby dpl_0) k) ?_
    refine own_go (T1 := s₁) (g1 := (mkF m 2 #[.val (.ref a1), .val (.int x), .val (.int (-1 : Int32)), .unset] [])) (fun _ k => XS.istoreN X0.here hx rfl (hb hby dpl_1) rfl (l' := #[.val (.ref a1), .val (.int x), .val (.int (-1 : Int32)), .unset]) rfl k) ?_
    refine own_go (T1 := s₁) (g1 := (mkF m 3 #[.val (.ref a1), .val (.int x), .val (.int (-1 : Int32)), .unset] [(.int (0 : Int32))])) (fun _ k => XS.iconst X0.here hx rfl (hb hby dpl_2) k) ?_
    refine own_go (T1 := s₁) (g1 := (mkF m 4 #[.val (.ref a1), .val (.int x), .val (.int (-1 : Int32)), .val (.int (0 : Int32))] [])) (fun _ k => XS.istoreN X0.here hx rfl (hb hby dpl_3) rfl (l' := #[.val (.ref a1), .val (.int x), .val (.int (-1 : Int32)), .val (.int (0 : Int32))]) rfl k) ?_
    exact own_pLoop a1 kc kk x lst hl  hx hZ hw hby hml hown Fk Vk lst [] s₁ h0 [] rfl X0 e0 N0
  obtain ⟨T', g', L', k', n', X', ⟨pcr, Ls, z, rfl, hd, rfl, rfl, hQ⟩, st⟩ := main
  obtain ⟨fs, hr, hrun, hended, hW, hsame⟩ := X'.leave (v := (some (.int z))) (fun h => by rw [Bd.returns] at h; cases h)
  refine ⟨_, _, castTop (ef_rmpl m a1 x) (st _ ?_), hrun, hended, _, _, rfl, hQ, ⟨_, rfl⟩, hW, hsame.mono (by decide) (by decide)⟩
  exact retI X' hx Bd.returns hd hr
/-! copies -/
theorem own_cap (M : Nat) (h : M ≤ 4) : (Int32.ofNat M).toNatClampNeg ≤ 4 := by rw [own_nat8 M (by omega)]; exact h
theorem own_arvCongr {Z : State} {h : Heap} {a : Addr} {k : ClassId} {ty : FieldType} {z : Int32} {vs vs' : List Value} {dv : Value} (F : Arv Z h a k ty z vs dv) (q : ∀ i, i < z.toNatClampNeg → vs'.getD i dv = vs.getD i dv) : Arv Z h a k ty z vs' dv := by
  obtain ⟨c, A, r1, r2, r3, H, G⟩ := F
  exact ⟨c, A, r1, r2, r3, fun i hi => by rw [q i (r2 ▸ hi)]; exact H i hi, fun i hi => by rw [q i (r2 ▸ hi)]; exact G i hi⟩

theorem d12_0 : decode jdk_29_method_69_code 0 = .ok (.iload_n 0, 1) := by decide +kernel
theorem d12_1 : decode jdk_29_method_69_code 1 = .ok (.iload_n 1, 1) := by decide +kernel
theorem d12_2 : decode jdk_29_method_69_code 2 = .ok (.if_icmp .gt 7, 3) := by decide +kernel
theorem d12_5 : decode jdk_29_method_69_code 5 = .ok (.iload_n 0, 1) := by decide +kernel
theorem d12_6 : decode jdk_29_method_69_code 6 = .ok (.goto 4, 3) := by decide +kernel
theorem d12_9 : decode jdk_29_method_69_code 9 = .ok (.iload_n 1, 1) := by decide +kernel
theorem d12_10 : decode jdk_29_method_69_code 10 = .ok (.ireturn, 1) := by decide +kernel
def f12_0 (i0 : Int32) (i1 : Int32) : Int32 := (if i1 < i0 then i1 else i0)
set_option maxRecDepth 65536 in
set_option maxHeartbeats 4000000 in
theorem b12_0 {p : Program} {l : Launch} {e : Env} {s : State} {m : MethodId} {args : Array Value} {below : List Frame} {meth : Method} {c : Code} {T0 : State} {locs : List Loc} {Z : State} {a0 : Array Value} {h0 : Heap} {n0 : Nat} (i0 : Int32) (i1 : Int32) (X0 : Stand p l e ({ frames := 0, cells := 0, slots := 0, locals := 0 } : Room) s m args below meth c T0 locs 0 0) (hx : p.tables.exec = Jvm.exec) (hZ : Z.Warmed39 s.vm) (hw : ∀ d ∈ tables_1, d.before a0 Z = true) (hby : c.code = jdk_29_method_69_code) (hml : c.maxLocals = 2) (hown : s.vm.findClass "java/lang/Math" = some m.cls) (e0 : T0.heap = h0) (N0 : Fr n0 locs) (Z0 : n0 ≤ h0.size) :
    own_Ret p l e ({ frames := 0, cells := 0, slots := 0, locals := 0 } : Room) s m args below meth c h0 n0 0 0 T0 (mkF m 0 #[.val (.int i0), .val (.int i1)] []) (f12_0 i0 i1) := by
  unfold f12_0
  refine own_step (T1 := T0) (g1 := (mkF m 1 #[.val (.int i0), .val (.int i1)] [(.int i0)])) (fun _ k => XS.iloadN X0.here hx rfl (hb hby d12_0) rfl k) ?_
  refine own_step (T1 := T0) (g1 := (mkF m 2 #[.val (.int i0), .val (.int i1)] [(.int i1), (.int i0)])) (fun _ k => XS.iloadN X0.here hx rfl (hb hby d12_1) rfl k) ?_
  by_cases hc2 : i1 < i0
  · rw [if_pos hc2]
    refine own_step (T1 := T0) (g1 := (mkF m 9 #[.val (.int i0), .val (.int i1)] [])) (fun _ k => XS.icmpYes X0.here hx rfl (pc0 := 2) (pc' := 9) rfl (hb hby d12_2) rfl (tlt hc2).2.2.1 (by decide) (by decide) k) ?_
    refine own_step (T1 := T0) (g1 := (mkF m 10 #[.val (.int i0), .val (.int i1)] [(.int i1)])) (fun _ k => XS.iloadN X0.here hx rfl (hb hby d12_9) rfl k) ?_
    exact ⟨_, _, 10, _, X0, e0, N0, (hb hby d12_10), fun _ k => k⟩
  · rw [if_neg hc2]
    refine own_step (T1 := T0) (g1 := (mkF m 5 #[.val (.int i0), .val (.int i1)] [])) (fun _ k => XS.icmpNo X0.here hx rfl (hb hby d12_2) rfl (flt hc2).2.2.1 k) ?_
    refine own_step (T1 := T0) (g1 := (mkF m 6 #[.val (.int i0), .val (.int i1)] [(.int i0)])) (fun _ k => XS.iloadN X0.here hx rfl (hb hby d12_5) rfl k) ?_
    refine own_step (T1 := T0) (g1 := (mkF m 10 #[.val (.int i0), .val (.int i1)] [(.int i0)])) (fun _ k => XS.goto X0.here hx rfl (pc0 := 6) (pc' := 10) rfl (hb hby d12_6) (by decide) (by decide) k) ?_
    exact ⟨_, _, 10, _, X0, e0, N0, (hb hby d12_10), fun _ k => k⟩
theorem ef_12 (m : MethodId) (i0 : Int32) (i1 : Int32) : entryFrame m #[(.int i0), (.int i1)] 2 = mkF m 0 #[.val (.int i0), .val (.int i1)] [] := by first | (simp [entryFrame, mkF, argsToLocals, Value.category]; done) | rfl
set_option maxRecDepth 65536 in
set_option maxHeartbeats 4000000 in
theorem rm12 (l : Launch) (Z : State) (a0 : Array Value) (hw : ∀ d ∈ tables_1, d.before a0 Z = true) (ws : List Jvm.Cond) (i0 : Int32) (i1 : Int32) (h0 : Heap) (n0 : Nat) (Z0 : n0 ≤ h0.size) :
    MetFree l (⟨"java/lang/Math", "min", "(II)I"⟩ : MethodName) (head1 (Jvm.Cond.code (⟨"java/lang/Math", "min", "(II)I"⟩ : MethodName) jdk_29_method_69_code 2 (some .int) :: ws) ({ frames := 0, cells := 0, slots := 0, locals := 0 } : Room)) (fun a U => a = #[(.int i0), (.int i1)] ∧ Z.Warmed39 U.vm ∧ U.heap = h0) (fun _ _ _ _ _ => True) (fun _ U o U' => ∃ v L, o = .returned v ∧ own_Q (f12_0 i0 i1) h0 n0 v U'.heap L ∧ FrameEnd U o U' L ({ frames := 0, cells := 0, slots := 0, locals := 0 } : Room).cells ({ frames := 0, cells := 0, slots := 0, locals := 0 } : Room).slots) := by
  refine MetFree.of_bodySF (Jvm.Free.JP.mathPlain rfl (by decide +kernel)) hisR ?_
  intro p e s m args below meth c s₁ Bd hml0 hP hK
  obtain ⟨rfl, hZ, hh⟩ := hP
  have hx := Bd.exec
  have hby := Bd.bytes
  have hml : c.maxLocals = 2 := hml0
  have hown : s.vm.findClass "java/lang/Math" = some m.cls := findClass_of_methodNamed Bd.named
  have X0 : Stand p l e ({ frames := 0, cells := 0, slots := 0, locals := 0 } : Room) s m #[(.int i0), (.int i1)] below meth c s₁ [] 0 0 := Stand.of_body Bd
  have e0 : s₁.heap = h0 := by rw [← hh, Bd.state]; rfl
  obtain ⟨T', locs', pcr, Ls, X', e', N', hd, st⟩ := b12_0 i0 i1 X0 hx hZ hw hby hml hown e0 (Fr.nil n0) Z0
  obtain ⟨fs, hr, hrun, hended, hW, hsame⟩ := X'.leave (v := some (.int (f12_0 i0 i1))) (fun h => by rw [Bd.returns] at h; cases h)
  refine ⟨_, _, castTop (ef_12 m i0 i1) (st _ ?_), hrun, hended, _, _, rfl, ?_, ⟨_, rfl⟩, hW, hsame.mono (by decide) (by decide)⟩
  · exact retI X' hx Bd.returns hd hr
  · exact ⟨rfl, N', e'⟩
theorem own_min0 : ∀ N < 5, ∀ M < 5, ¬ f12_0 (Int32.ofNat N) (Int32.ofNat M) < 0 ∧ (0 : Int32).toNatClampNeg + (f12_0 (Int32.ofNat N) (Int32.ofNat M)).toNatClampNeg ≤ (Int32.ofNat N).toNatClampNeg ∧ (0 : Int32).toNatClampNeg + (f12_0 (Int32.ofNat N) (Int32.ofNat M)).toNatClampNeg ≤ (Int32.ofNat M).toNatClampNeg ∧ (0 : Int32).toNatClampNeg + (f12_0 (Int32.ofNat N) (Int32.ofNat M)).toNatClampNeg ≤ 4 ∧ (f12_0 (Int32.ofNat N) (Int32.ofNat M)).toNatClampNeg = min N M := by decide
theorem own_min (N : Nat) (hN : N ≤ 4) (M : Nat) (hM : M ≤ 4) : ¬ f12_0 (Int32.ofNat N) (Int32.ofNat M) < 0 ∧ (0 : Int32).toNatClampNeg + (f12_0 (Int32.ofNat N) (Int32.ofNat M)).toNatClampNeg ≤ (Int32.ofNat N).toNatClampNeg ∧ (0 : Int32).toNatClampNeg + (f12_0 (Int32.ofNat N) (Int32.ofNat M)).toNatClampNeg ≤ (Int32.ofNat M).toNatClampNeg ∧ (0 : Int32).toNatClampNeg + (f12_0 (Int32.ofNat N) (Int32.ofNat M)).toNatClampNeg ≤ 4 ∧ (f12_0 (Int32.ofNat N) (Int32.ofNat M)).toNatClampNeg = min N M := own_min0 N (by omega) M (by omega)
theorem own_copied (N M : Nat) (vals : List Int32) (hN : N ≤ 4) (hM : M ≤ 4) (hv : vals.length ≤ N) : ∀ i, i < (Int32.ofNat M).toNatClampNeg → (vals.map Value.int).getD i (.int 0) = ((([] ++ List.replicate 4 (Value.int 0)).take (0 : Int32).toNatClampNeg) ++ ((List.range (f12_0 (Int32.ofNat N) (Int32.ofNat M)).toNatClampNeg).map fun i => (vals.map Value.int).getD ((0 : Int32).toNatClampNeg + i) (.int 0)) ++ (([] ++ List.replicate 4 (Value.int 0)).drop ((0 : Int32).toNatClampNeg + (f12_0 (Int32.ofNat N) (Int32.ofNat M)).toNatClampNeg))).getD i (.int 0) := by
  intro i hi
  rw [own_nat8 M (by omega)] at hi
  rw [(own_min N hN M hM).2.2.2.2]
  have z0 : (0 : Int32).toNatClampNeg = 0 := rfl
  simp only [z0, List.take_zero, List.nil_append, Nat.zero_add, List.getD_eq_getElem?_getD]
  by_cases h : i < min N M
  · rw [List.getElem?_append_left (by simpa using h)]
    simp [h]
  · rw [List.getElem?_append_right (by simp; omega)]
    rw [List.getElem?_eq_none (by simp; omega)]
    simp only [List.getElem?_drop, List.getElem?_replicate, Option.getD_none]
    split <;> rfl

def QCI (Z : State) (M : Nat) (vals : List Int32) (h0 : Heap) (n0 : Nat) (v : Option Value) (h : Heap) (L : List Loc) : Prop := ∃ (b : Addr) (k : ClassId), v = some (.ref b) ∧ Fr n0 L ∧ Keep h0 h [] ∧ h0.size ≤ b ∧ n0 ≤ b ∧ Arv Z h b k .int (Int32.ofNat M) (vals.map Value.int) (.int 0) ∧ Exa Z h b "[I"
theorem dci_0 : decode jdk_65_method_123_code 0 = .ok (.iload_n 1, 1) := by decide +kernel
theorem dci_1 : decode jdk_65_method_123_code 1 = .ok (.aload_n 0, 1) := by decide +kernel
theorem dci_2 : decode jdk_65_method_123_code 2 = .ok (.arraylength, 1) := by decide +kernel
theorem dci_3 : decode jdk_65_method_123_code 3 = .ok (.if_icmp .ne 11, 3) := by decide +kernel
theorem dci_6 : decode jdk_65_method_123_code 6 = .ok (.aload_n 0, 1) := by decide +kernel
theorem dci_7 : decode jdk_65_method_123_code 7 = .ok (.invokevirtual 316, 3) := by decide +kernel
theorem dci_10 : decode jdk_65_method_123_code 10 = .ok (.checkcast 317, 3) := by decide +kernel
theorem dci_13 : decode jdk_65_method_123_code 13 = .ok (.areturn, 1) := by decide +kernel
theorem ef_rmci1 (m : MethodId) (d1 : Addr) : entryFrame m #[(.ref d1), (.int (Int32.ofNat M))] 3 = mkF m 0 #[.val (.ref d1), .val (.int (Int32.ofNat M)), .unset] [] := by first | (simp [entryFrame, mkF, argsToLocals, Value.category]; done) | rfl
set_option maxRecDepth 65536 in
set_option maxHeartbeats 4000000 in
theorem rmci1 (l : Launch) (Z : State) (a0 : Array Value) (hw : ∀ d ∈ tables_1, d.before a0 Z = true) (ws : List Jvm.Cond) (d1 : Addr) (kd : ClassId) (N M : Nat) (vals : List Int32) (h0 : Heap) (n0 : Nat) (Z0 : n0 ≤ h0.size) (hN : N ≤ 4) (hM : M ≤ 4) (hv : vals.length ≤ N) (Va : Arv Z h0 d1 kd .int (Int32.ofNat N) (vals.map Value.int) (.int 0)) (Ea : Exa Z h0 d1 "[I") (hMN : (Int32.ofNat M) = (Int32.ofNat N)) :
    MetFree l (⟨"java/util/Arrays", "copyOf", "([II)[I"⟩ : MethodName) (head1 (Jvm.Cond.code (⟨"java/util/Arrays", "copyOf", "([II)[I"⟩ : MethodName) jdk_65_method_123_code 3 (some (.array .int)) :: ws) ({ frames := 1, cells := 1, slots := 4, locals := 18 } : Room)) (fun a U => a = #[(.ref d1), (.int (Int32.ofNat M))] ∧ Z.Warmed39 U.vm ∧ U.heap = h0) (fun _ _ _ _ _ => True) (fun _ U o U' => ∃ v L, o = .returned v ∧ QCI Z M vals h0 n0 v U'.heap L ∧ FrameEnd U o U' L ({ frames := 1, cells := 1, slots := 4, locals := 18 } : Room).cells ({ frames := 1, cells := 1, slots := 4, locals := 18 } : Room).slots) := by
  refine MetFree.of_bodySF (plainFor_of_name (by first | (simp [plainName, overriddenIn]; done) | decide +kernel)) hisR ?_
  intro p e s m args below meth c s₁ Bd hml0 hP hK
  obtain ⟨rfl, hZ, hh⟩ := hP
  have hx := Bd.exec
  have hby := Bd.bytes
  have hml : c.maxLocals = 3 := hml0
  have hown : s.vm.findClass "java/util/Arrays" = some m.cls := findClass_of_methodNamed Bd.named
  have hnm := (name_of_methodNamed Bd.named Bd.method).1
  have X0 : Stand p l e ({ frames := 1, cells := 1, slots := 4, locals := 18 } : Room) s m #[(.ref d1), (.int (Int32.ofNat M))] below meth c s₁ [] 0 0 := Stand.of_body Bd
  have e0 : s₁.heap = h0 := by rw [← hh, Bd.state]; rfl
  have N0 := Fr.nil n0
  have main : own_To p l e ({ frames := 1, cells := 1, slots := 4, locals := 18 } : Room) s m #[(.ref d1), (.int (Int32.ofNat M))] below meth c s₁ (mkF m 0 #[.val (.ref d1), .val (.int (Int32.ofNat M)), .unset] []) (fun T' g' L kq zq => ∃ pcr Ls z, g' = mkF m pcr Ls [.ref z] ∧ decode c.code pcr = .ok (.areturn, 1) ∧ kq = 1 ∧ zq = 4 ∧ QCI Z M vals h0 n0 (some (.ref z)) T'.heap L) := by
    refine own_go (T1 := s₁) (g1 := (mkF m 1 #[.val (.ref d1), .val (.int (Int32.ofNat M)), .unset] [(.int (Int32.ofNat M))])) (fun _ k => XS.iloadN X0.here hx rfl (hb hby dci_0) rfl k) ?_
    refine own_go (T1 := s₁) (g1 := (mkF m 2 #[.val (.ref d1), .val (.int (Int32.ofNat M)), .unset] [(.ref d1), (.int (Int32.ofNat M))])) (fun _ k => XS.aloadN X0.here hx rfl (hb hby dci_1) rfl rfl k) ?_
    obtain ⟨cl1, Ar1, -, S1, N1, -, -⟩ := id Va
    refine own_go (T1 := s₁) (g1 := (mkF m 3 #[.val (.ref d1), .val (.int (Int32.ofNat M)), .unset] [(.int (Int32.ofNat N)), (.int (Int32.ofNat M))])) (fun _ k => X0.arraylength hx (by rw [e0]; exact Ar1.1) (State.isArrayOf_alike hZ.alike Ar1.2.1) (g := (mkF m 2 #[.val (.ref d1), .val (.int (Int32.ofNat M)), .unset] [(.ref d1), (.int (Int32.ofNat M))])) rfl rfl (hb hby dci_2) _ (by rw [len_of S1 N1]; exact k)) ?_
    refine own_go (T1 := s₁) (g1 := (mkF m 6 #[.val (.ref d1), .val (.int (Int32.ofNat M)), .unset] [])) (fun _ k => XS.icmpNo X0.here hx rfl (hb hby dci_3) rfl (teq (hMN : (Int32.ofNat M) = (Int32.ofNat N))).2 k) ?_
    refine own_go (T1 := s₁) (g1 := (mkF m 7 #[.val (.ref d1), .val (.int (Int32.ofNat M)), .unset] [(.ref d1)])) (fun _ k => XS.aloadN X0.here hx rfl (hb hby dci_6) rfl rfl k) ?_
    obtain ⟨T2, h2, X2, e2, E2, A2, Y2, st2⟩ := cloneH X0 hx hZ hown (hw _ (List.mem_of_getElem? (i := 125) rfl)) (hw _ (List.mem_of_getElem? (i := 108) rfl)) (hw _ (List.mem_of_getElem? (i := 112) rfl)) (hw _ (List.mem_of_getElem? (i := 110) rfl)) (hw _ (List.mem_of_getElem? (i := 111) rfl)) (hw _ (List.mem_of_getElem? (i := 113) rfl)) e0 (hs := []) (vs := (vals.map Value.int)) (dv := (.int 0)) Va Ea (g := (mkF m 7 #[.val (.ref d1), .val (.int (Int32.ofNat M)), .unset] [(.ref d1)])) rfl (by rw [hml]; rfl) rfl (hb hby dci_7) (by decide) (W := 0) (cap := 4) (by show 2 * 0 + _ ≤ _; exact Nat.le_of_eq rfl) (by decide) (own_cap _ hN) (by decide) (by decide)
    obtain ⟨b2, g2⟩ : ∃ z, z = h0.size := ⟨_, rfl⟩
    rw [← g2] at A2 Y2 st2
    have ne_d1_b2 : d1 ≠ b2 := Nat.ne_of_lt (Nat.lt_of_lt_of_le Va.lt (Nat.le_of_eq g2.symm))
    have ge_b2 : n0 ≤ b2 := Nat.le_trans Z0 (Nat.le_of_eq g2.symm)
    have sz_b2 : h0.size ≤ b2 := Nat.le_trans (Keep.refl h0 []).1 (Nat.le_of_eq g2.symm)
    have Va_2 : Arv Z h2 d1 kd .int (Int32.ofNat N) (vals.map Value.int) (.int 0) := Va.ext E2
    have Ea_2 : Exa Z h2 d1 "[I" := Ea.ext E2
    have Zs2 : n0 ≤ h2.size := Nat.le_trans Z0 E2.1
    have Kp2 : Keep h0 h2 [] := (Keep.refl h0 []).ext E2
    have Vb2_2 : Arv Z h2 b2 kd .int (Int32.ofNat N) (vals.map Value.int) (.int 0) := A2
    refine own_go (T1 := T2) (g1 := (mkF m 10 #[.val (.ref d1), .val (.int (Int32.ofNat M)), .unset] [(.ref b2)])) (fun t k => st2 t k) ?_
    obtain ⟨T3, X3, e3, st3⟩ := castY X2 hx hZ hown (hw _ (List.mem_of_getElem? (i := 126) rfl)) e2 (Ins.self Y2) (g := (mkF m 10 #[.val (.ref d1), .val (.int (Int32.ofNat M)), .unset] [(.ref b2)])) rfl rfl (hb hby dci_10)
    refine own_go (T1 := T3) (g1 := (mkF m 13 #[.val (.ref d1), .val (.int (Int32.ofNat M)), .unset] [(.ref b2)])) (fun t k => st3 t k) ?_
    exact ⟨T3, _, _, _, _, X3, ⟨13, _, b2, rfl, (hb hby dci_13), rfl, rfl, (by rw [e3]; exact ⟨b2, _, rfl, N0, Kp2, sz_b2, ge_b2, hMN ▸ Vb2_2, Y2⟩)⟩, fun _ k => k⟩
  obtain ⟨T', g', L', k', n', X', ⟨pcr, Ls, z, rfl, hd, rfl, rfl, hQ⟩, st⟩ := main
  obtain ⟨fs, hr, hrun, hended, hW, hsame⟩ := X'.leave (v := (some (.ref z))) (fun h => by rw [Bd.returns] at h; cases h)
  refine ⟨_, _, castTop (ef_rmci1 m d1) (st _ ?_), hrun, hended, _, _, rfl, hQ, ⟨_, rfl⟩, hW, hsame.mono (by decide) (by decide)⟩
  exact own_retA X' hx Bd.returns rfl hd hr
theorem dci_14 : decode jdk_65_method_123_code 14 = .ok (.iload_n 1, 1) := by decide +kernel
theorem dci_15 : decode jdk_65_method_123_code 15 = .ok (.newarray .int, 2) := by decide +kernel
theorem dci_17 : decode jdk_65_method_123_code 17 = .ok (.astore_n 2, 1) := by decide +kernel
theorem dci_18 : decode jdk_65_method_123_code 18 = .ok (.aload_n 0, 1) := by decide +kernel
theorem dci_19 : decode jdk_65_method_123_code 19 = .ok (.iconst 0, 1) := by decide +kernel
theorem dci_20 : decode jdk_65_method_123_code 20 = .ok (.aload_n 2, 1) := by decide +kernel
theorem dci_21 : decode jdk_65_method_123_code 21 = .ok (.iconst 0, 1) := by decide +kernel
theorem dci_22 : decode jdk_65_method_123_code 22 = .ok (.aload_n 0, 1) := by decide +kernel
theorem dci_23 : decode jdk_65_method_123_code 23 = .ok (.arraylength, 1) := by decide +kernel
theorem dci_24 : decode jdk_65_method_123_code 24 = .ok (.iload_n 1, 1) := by decide +kernel
theorem dci_25 : decode jdk_65_method_123_code 25 = .ok (.invokestatic 304, 3) := by decide +kernel
theorem dci_28 : decode jdk_65_method_123_code 28 = .ok (.invokestatic 150, 3) := by decide +kernel
theorem dci_31 : decode jdk_65_method_123_code 31 = .ok (.aload_n 2, 1) := by decide +kernel
theorem dci_32 : decode jdk_65_method_123_code 32 = .ok (.areturn, 1) := by decide +kernel
theorem ef_rmci2 (m : MethodId) (d1 : Addr) : entryFrame m #[(.ref d1), (.int (Int32.ofNat M))] 3 = mkF m 0 #[.val (.ref d1), .val (.int (Int32.ofNat M)), .unset] [] := by first | (simp [entryFrame, mkF, argsToLocals, Value.category]; done) | rfl
set_option maxRecDepth 65536 in
set_option maxHeartbeats 4000000 in
theorem rmci2 (l : Launch) (Z : State) (a0 : Array Value) (hw : ∀ d ∈ tables_1, d.before a0 Z = true) (ws : List Jvm.Cond) (d1 : Addr) (kd : ClassId) (N M : Nat) (vals : List Int32) (h0 : Heap) (n0 : Nat) (Z0 : n0 ≤ h0.size) (hN : N ≤ 4) (hM : M ≤ 4) (hv : vals.length ≤ N) (Va : Arv Z h0 d1 kd .int (Int32.ofNat N) (vals.map Value.int) (.int 0)) (Ea : Exa Z h0 d1 "[I") (hMN : ¬ ((Int32.ofNat M) = (Int32.ofNat N))) :
    MetFree l (⟨"java/util/Arrays", "copyOf", "([II)[I"⟩ : MethodName) (head1 (Jvm.Cond.code (⟨"java/util/Arrays", "copyOf", "([II)[I"⟩ : MethodName) jdk_65_method_123_code 3 (some (.array .int)) :: ws) ({ frames := 1, cells := 1, slots := 4, locals := 18 } : Room)) (fun a U => a = #[(.ref d1), (.int (Int32.ofNat M))] ∧ Z.Warmed39 U.vm ∧ U.heap = h0) (fun _ _ _ _ _ => True) (fun _ U o U' => ∃ v L, o = .returned v ∧ QCI Z M vals h0 n0 v U'.heap L ∧ FrameEnd U o U' L ({ frames := 1, cells := 1, slots := 4, locals := 18 } : Room).cells ({ frames := 1, cells := 1, slots := 4, locals := 18 } : Room).slots) := by
  refine MetFree.of_bodySF (plainFor_of_name (by first | (simp [plainName, overriddenIn]; done) | decide +kernel)) hisR ?_
  intro p e s m args below meth c s₁ Bd hml0 hP hK
  obtain ⟨rfl, hZ, hh⟩ := hP
  have hx := Bd.exec
  have hby := Bd.bytes
  have hml : c.maxLocals = 3 := hml0
  have hown : s.vm.findClass "java/util/Arrays" = some m.cls := findClass_of_methodNamed Bd.named
  have hnm := (name_of_methodNamed Bd.named Bd.method).1
  have X0 : Stand p l e ({ frames := 1, cells := 1, slots := 4, locals := 18 } : Room) s m #[(.ref d1), (.int (Int32.ofNat M))] below meth c s₁ [] 0 0 := Stand.of_body Bd
  have e0 : s₁.heap = h0 := by rw [← hh, Bd.state]; rfl
  have N0 := Fr.nil n0
  have main : own_To p l e ({ frames := 1, cells := 1, slots := 4, locals := 18 } : Room) s m #[(.ref d1), (.int (Int32.ofNat M))] below meth c s₁ (mkF m 0 #[.val (.ref d1), .val (.int (Int32.ofNat M)), .unset] []) (fun T' g' L kq zq => ∃ pcr Ls z, g' = mkF m pcr Ls [.ref z] ∧ decode c.code pcr = .ok (.areturn, 1) ∧ kq = 1 ∧ zq = 4 ∧ QCI Z M vals h0 n0 (some (.ref z)) T'.heap L) := by
    refine own_go (T1 := s₁) (g1 := (mkF m 1 #[.val (.ref d1), .val (.int (Int32.ofNat M)), .unset] [(.int (Int32.ofNat M))])) (fun _ k => XS.iloadN X0.here hx rfl (hb hby dci_0) rfl k) ?_
    refine own_go (T1 := s₁) (g1 := (mkF m 2 #[.val (.ref d1), .val (.int (Int32.ofNat M)), .unset] [(.ref d1), (.int (Int32.ofNat M))])) (fun _ k => XS.aloadN X0.here hx rfl (hb hby dci_1) rfl rfl k) ?_
    obtain ⟨cl1, Ar1, -, S1, N1, -, -⟩ := id Va
    refine own_go (T1 := s₁) (g1 := (mkF m 3 #[.val (.ref d1), .val (.int (Int32.ofNat M)), .unset] [(.int (Int32.ofNat N)), (.int (Int32.ofNat M))])) (fun _ k => X0.arraylength hx (by rw [e0]; exact Ar1.1) (State.isArrayOf_alike hZ.alike Ar1.2.1) (g := (mkF m 2 #[.val (.ref d1), .val (.int (Int32.ofNat M)), .unset] [(.ref d1), (.int (Int32.ofNat M))])) rfl rfl (hb hby dci_2) _ (by rw [len_of S1 N1]; exact k)) ?_
    refine own_go (T1 := s₁) (g1 := (mkF m 14 #[.val (.ref d1), .val (.int (Int32.ofNat M)), .unset] [])) (fun _ k => XS.icmpYes X0.here hx rfl (pc0 := 3) (pc' := 14) rfl (hb hby dci_3) rfl (feq (hMN : ¬ ((Int32.ofNat M) = (Int32.ofNat N)))).2 (by decide) (by decide) k) ?_
    refine own_go (T1 := s₁) (g1 := (mkF m 15 #[.val (.ref d1), .val (.int (Int32.ofNat M)), .unset] [(.int (Int32.ofNat M))])) (fun _ k => XS.iloadN X0.here hx rfl (hb hby dci_14) rfl k) ?_
    obtain ⟨T2, h2, k2, X2, e2, E2, A2, Y2, st2⟩ := newPE X0 hx hZ (hw _ (List.mem_of_getElem? (i := 1) rfl)) e0 (g := (mkF m 15 #[.val (.ref d1), .val (.int (Int32.ofNat M)), .unset] [(.int (Int32.ofNat M))])) rfl (hb hby dci_15) rfl (own_lt8 M (by omega) 0 (by omega)).2.2 (cap := 4) (own_cap _ hM) (by decide) (by decide) (by decide) (ad := "[I") rfl
    obtain ⟨b2, g2⟩ : ∃ z, z = h0.size := ⟨_, rfl⟩
    rw [← g2] at A2 st2 Y2
    have ne_d1_b2 : d1 ≠ b2 := Nat.ne_of_lt (Nat.lt_of_lt_of_le Va.lt (Nat.le_of_eq g2.symm))
    have ge_b2 : n0 ≤ b2 := Nat.le_trans Z0 (Nat.le_of_eq g2.symm)
    have sz_b2 : h0.size ≤ b2 := Nat.le_trans (Keep.refl h0 []).1 (Nat.le_of_eq g2.symm)
    have Va_2 : Arv Z h2 d1 kd .int (Int32.ofNat N) (vals.map Value.int) (.int 0) := Va.ext E2
    have Ea_2 : Exa Z h2 d1 "[I" := Ea.ext E2
    have Zs2 : n0 ≤ h2.size := Nat.le_trans Z0 E2.1
    have Kp2 : Keep h0 h2 [] := (Keep.refl h0 []).ext E2
    have Vb2_2 : Arv Z h2 b2 k2 .int (Int32.ofNat M) [] (.int 0) := Arv.new A2 (own_lt8 M (by omega) 0 (by omega)).2.2
    refine own_go (T1 := T2) (g1 := (mkF m 17 #[.val (.ref d1), .val (.int (Int32.ofNat M)), .unset] [(.ref b2)])) (fun t k => st2 t k) ?_
    refine own_go (T1 := T2) (g1 := (mkF m 18 #[.val (.ref d1), .val (.int (Int32.ofNat M)), .val (.ref b2)] [])) (fun _ k => XS.astoreN X2.here hx rfl (hb hby dci_17) rfl rfl (l' := #[.val (.ref d1), .val (.int (Int32.ofNat M)), .val (.ref b2)]) rfl k) ?_
    refine own_go (T1 := T2) (g1 := (mkF m 19 #[.val (.ref d1), .val (.int (Int32.ofNat M)), .val (.ref b2)] [(.ref d1)])) (fun _ k => XS.aloadN X2.here hx rfl (hb hby dci_18) rfl rfl k) ?_
    refine own_go (T1 := T2) (g1 := (mkF m 20 #[.val (.ref d1), .val (.int (Int32.ofNat M)), .val (.ref b2)] [(.int (0 : Int32)), (.ref d1)])) (fun _ k => XS.iconst X2.here hx rfl (hb hby dci_19) k) ?_
    refine own_go (T1 := T2) (g1 := (mkF m 21 #[.val (.ref d1), .val (.int (Int32.ofNat M)), .val (.ref b2)] [(.ref b2), (.int (0 : Int32)), (.ref d1)])) (fun _ k => XS.aloadN X2.here hx rfl (hb hby dci_20) rfl rfl k) ?_
    refine own_go (T1 := T2) (g1 := (mkF m 22 #[.val (.ref d1), .val (.int (Int32.ofNat M)), .val (.ref b2)] [(.int (0 : Int32)), (.ref b2), (.int (0 : Int32)), (.ref d1)])) (fun _ k => XS.iconst X2.here hx rfl (hb hby dci_21) k) ?_
    refine own_go (T1 := T2) (g1 := (mkF m 23 #[.val (.ref d1), .val (.int (Int32.ofNat M)), .val (.ref b2)] [(.ref d1), (.int (0 : Int32)), (.ref b2), (.int (0 : Int32)), (.ref d1)])) (fun _ k => XS.aloadN X2.here hx rfl (hb hby dci_22) rfl rfl k) ?_
    obtain ⟨cl3, Ar3, -, S3, N3, -, -⟩ := id Va_2
    refine own_go (T1 := T2) (g1 := (mkF m 24 #[.val (.ref d1), .val (.int (Int32.ofNat M)), .val (.ref b2)] [(.int (Int32.ofNat N)), (.int (0 : Int32)), (.ref b2), (.int (0 : Int32)), (.ref d1)])) (fun _ k => X2.arraylength hx (by rw [e2]; exact Ar3.1) (State.isArrayOf_alike hZ.alike Ar3.2.1) (g := (mkF m 23 #[.val (.ref d1), .val (.int (Int32.ofNat M)), .val (.ref b2)] [(.ref d1), (.int (0 : Int32)), (.ref b2), (.int (0 : Int32)), (.ref d1)])) rfl rfl (hb hby dci_23) _ (by rw [len_of S3 N3]; exact k)) ?_
    refine own_go (T1 := T2) (g1 := (mkF m 25 #[.val (.ref d1), .val (.int (Int32.ofNat M)), .val (.ref b2)] [(.int (Int32.ofNat M)), (.int (Int32.ofNat N)), (.int (0 : Int32)), (.ref b2), (.int (0 : Int32)), (.ref d1)])) (fun _ k => XS.iloadN X2.here hx rfl (hb hby dci_24) rfl k) ?_
    obtain ⟨_, _, ⟨T4, L4, k4, n4⟩, -, X4, ⟨Lc4, hQ4, l4, y4, z4⟩, st4⟩ := Jvm.LawKit.callS X2 hx (y := (⟨"java/lang/Math", "min", "(II)I"⟩ : MethodName)) hown (mvT hZ (hw _ (List.mem_of_getElem? (i := 184) rfl))) (mvT hZ (hw _ (List.mem_of_getElem? (i := 185) rfl))) (mvT hZ (hw _ (List.mem_of_getElem? (i := 90) rfl))) (mvT hZ (hw _ (List.mem_of_getElem? (i := 186) rfl))) (by decide) (backOf (W := 4) (rm12 l Z a0 hw [] (Int32.ofNat N) (Int32.ofNat M) h2 n0 Zs2) hZ (hw _ (List.mem_of_getElem? (i := 186) rfl)) (hw _ (List.mem_of_getElem? (i := 90) rfl)) (by decide) (by decide)) (g := (mkF m 25 #[.val (.ref d1), .val (.int (Int32.ofNat M)), .val (.ref b2)] [(.int (Int32.ofNat M)), (.int (Int32.ofNat N)), (.int (0 : Int32)), (.ref b2), (.int (0 : Int32)), (.ref d1)])) rfl (by rw [hml]; rfl) (argsL := [(.int (Int32.ofNat N)), (.int (Int32.ofNat M))]) (rest := [(.int (0 : Int32)), (.ref b2), (.int (0 : Int32)), (.ref d1)]) (lenOf own_pd_II_I rfl) rfl (by show 2 * 0 + _ ≤ _; exact Nat.le_of_eq rfl) (hb hby dci_25) (fun _ _ => ⟨rfl, e2, (by decide : 1 + 0 ≤ _), (by decide : 4 + 0 ≤ _)⟩)
    dsimp only [Pt.U, Pt.locs, Pt.cells, Pt.slots] at X4 l4 y4 z4 st4 hQ4
    subst l4 y4 z4
    obtain ⟨rfl, N4q, e4⟩ := hQ4
    have N4 := Fr.app N0 N4q
    refine own_go (T1 := T4) (g1 := (mkF m 28 #[.val (.ref d1), .val (.int (Int32.ofNat M)), .val (.ref b2)] [(.int (f12_0 (Int32.ofNat N) (Int32.ofNat M))), (.int (0 : Int32)), (.ref b2), (.int (0 : Int32)), (.ref d1)])) (fun t k => st4 t k) ?_
    have Vq5 := Vb2_2.pad (pad_rep _ _ 4)
    obtain ⟨T5, h5, L5, X5, e5, N5, K5, Vc5, st5⟩ := cpA X4 hx hZ hown (hw _ (List.mem_of_getElem? (i := 187) rfl)) (hw _ (List.mem_of_getElem? (i := 190) rfl)) (hw _ (List.mem_of_getElem? (i := 188) rfl)) (hw _ (List.mem_of_getElem? (i := 189) rfl)) e4 Va_2 Vq5 (Or.inl ⟨rfl, rfl⟩) (by decide) (by decide) (own_min N hN M hM).1 (own_min N hN M hM).2.1 (own_min N hN M hM).2.2.1 rfl (own_min N hN M hM).2.2.2.1 N4 ge_b2 (g := (mkF m 28 #[.val (.ref d1), .val (.int (Int32.ofNat M)), .val (.ref b2)] [(.int (f12_0 (Int32.ofNat N) (Int32.ofNat M))), (.int (0 : Int32)), (.ref b2), (.int (0 : Int32)), (.ref d1)])) rfl (by rw [hml]; rfl) rfl (hb hby dci_28) (by decide) (W := 0) (by show 2 * 0 + _ ≤ _; exact Nat.le_of_eq rfl) (by decide)
    have Kq5 : Keep h0 h5 [] := Kp2.trans K5 (fun z hz => Or.inr (by cases List.mem_singleton.mp hz; exact sz_b2))
    have Yq5 : Exa Z h5 b2 "[I" := Y2.keep K5
    refine own_go (T1 := T5) (g1 := (mkF m 31 #[.val (.ref d1), .val (.int (Int32.ofNat M)), .val (.ref b2)] [])) (fun t k => st5 t k) ?_
    refine own_go (T1 := T5) (g1 := (mkF m 32 #[.val (.ref d1), .val (.int (Int32.ofNat M)), .val (.ref b2)] [(.ref b2)])) (fun _ k => XS.aloadN X5.here hx rfl (hb hby dci_31) rfl rfl k) ?_
    exact ⟨T5, _, _, _, _, X5, ⟨32, _, b2, rfl, (hb hby dci_32), rfl, rfl, (by rw [e5]; exact ⟨b2, _, rfl, N5, Kq5, sz_b2, ge_b2, own_arvCongr Vc5 (own_copied N M vals hN hM hv), Yq5⟩)⟩, fun _ k => k⟩
  obtain ⟨T', g', L', k', n', X', ⟨pcr, Ls, z, rfl, hd, rfl, rfl, hQ⟩, st⟩ := main
  obtain ⟨fs, hr, hrun, hended, hW, hsame⟩ := X'.leave (v := (some (.ref z))) (fun h => by rw [Bd.returns] at h; cases h)
  refine ⟨_, _, castTop (ef_rmci2 m d1) (st _ ?_), hrun, hended, _, _, rfl, hQ, ⟨_, rfl⟩, hW, hsame.mono (by decide) (by decide)⟩
  exact own_retA X' hx Bd.returns rfl hd hr
def QCZ (h0 : Heap) (n0 : Nat) (v : Option Value) (h : Heap) (L : List Loc) : Prop := ∃ (b : Addr), v = some (.ref b) ∧ Fr n0 L ∧ Keep h0 h [] ∧ h0.size ≤ b ∧ n0 ≤ b
theorem dcz_0 : decode jdk_65_method_128_code 0 = .ok (.iload_n 1, 1) := by decide +kernel
theorem dcz_1 : decode jdk_65_method_128_code 1 = .ok (.aload_n 0, 1) := by decide +kernel
theorem dcz_2 : decode jdk_65_method_128_code 2 = .ok (.arraylength, 1) := by decide +kernel
theorem dcz_3 : decode jdk_65_method_128_code 3 = .ok (.if_icmp .ne 11, 3) := by decide +kernel
theorem dcz_6 : decode jdk_65_method_128_code 6 = .ok (.aload_n 0, 1) := by decide +kernel
theorem dcz_7 : decode jdk_65_method_128_code 7 = .ok (.invokevirtual 331, 3) := by decide +kernel
theorem dcz_10 : decode jdk_65_method_128_code 10 = .ok (.checkcast 332, 3) := by decide +kernel
theorem dcz_13 : decode jdk_65_method_128_code 13 = .ok (.areturn, 1) := by decide +kernel
theorem ef_rmcz1 (m : MethodId) (d1 : Addr) : entryFrame m #[(.ref d1), (.int (Int32.ofNat M))] 3 = mkF m 0 #[.val (.ref d1), .val (.int (Int32.ofNat M)), .unset] [] := by first | (simp [entryFrame, mkF, argsToLocals, Value.category]; done) | rfl
set_option maxRecDepth 65536 in
set_option maxHeartbeats 4000000 in
theorem rmcz1 (l : Launch) (Z : State) (a0 : Array Value) (hw : ∀ d ∈ tables_1, d.before a0 Z = true) (ws : List Jvm.Cond) (d1 : Addr) (kd : ClassId) (N M : Nat) (vs : List Value) (h0 : Heap) (n0 : Nat) (Z0 : n0 ≤ h0.size) (hN : N ≤ 4) (hM : M ≤ 4) (Va : Arv Z h0 d1 kd .boolean (Int32.ofNat N) vs (.int 0)) (Ea : Exa Z h0 d1 "[Z") (hMN : (Int32.ofNat M) = (Int32.ofNat N)) :
    MetFree l (⟨"java/util/Arrays", "copyOf", "([ZI)[Z"⟩ : MethodName) (head1 (Jvm.Cond.code (⟨"java/util/Arrays", "copyOf", "([ZI)[Z"⟩ : MethodName) jdk_65_method_128_code 3 (some (.array .boolean)) :: ws) ({ frames := 1, cells := 1, slots := 4, locals := 18 } : Room)) (fun a U => a = #[(.ref d1), (.int (Int32.ofNat M))] ∧ Z.Warmed39 U.vm ∧ U.heap = h0) (fun _ _ _ _ _ => True) (fun _ U o U' => ∃ v L, o = .returned v ∧ QCZ h0 n0 v U'.heap L ∧ FrameEnd U o U' L ({ frames := 1, cells := 1, slots := 4, locals := 18 } : Room).cells ({ frames := 1, cells := 1, slots := 4, locals := 18 } : Room).slots) := by
  refine MetFree.of_bodySF (plainFor_of_name (by first | (simp [plainName, overriddenIn]; done) | decide +kernel)) hisR ?_
  intro p e s m args below meth c s₁ Bd hml0 hP hK
  obtain ⟨rfl, hZ, hh⟩ := hP
  have hx := Bd.exec
  have hby := Bd.bytes
  have hml : c.maxLocals = 3 := hml0
  have hown : s.vm.findClass "java/util/Arrays" = some m.cls := findClass_of_methodNamed Bd.named
  have hnm := (name_of_methodNamed Bd.named Bd.method).1
  have X0 : Stand p l e ({ frames := 1, cells := 1, slots := 4, locals := 18 } : Room) s m #[(.ref d1), (.int (Int32.ofNat M))] below meth c s₁ [] 0 0 := Stand.of_body Bd
  have e0 : s₁.heap = h0 := by rw [← hh, Bd.state]; rfl
  have N0 := Fr.nil n0
  have main : own_To p l e ({ frames := 1, cells := 1, slots := 4, locals := 18 } : Room) s m #[(.ref d1), (.int (Int32.ofNat M))] below meth c s₁ (mkF m 0 #[.val (.ref d1), .val (.int (Int32.ofNat M)), .unset] []) (fun T' g' L kq zq => ∃ pcr Ls z, g' = mkF m pcr Ls [.ref z] ∧ decode c.code pcr = .ok (.areturn, 1) ∧ kq = 1 ∧ zq = 4 ∧ QCZ h0 n0 (some (.ref z)) T'.heap L) := by
    refine own_go (T1 := s₁) (g1 := (mkF m 1 #[.val (.ref d1), .val (.int (Int32.ofNat M)), .unset] [(.int (Int32.ofNat M))])) (fun _ k => XS.iloadN X0.here hx rfl (hb hby dcz_0) rfl k) ?_
    refine own_go (T1 := s₁) (g1 := (mkF m 2 #[.val (.ref d1), .val (.int (Int32.ofNat M)), .unset] [(.ref d1), (.int (Int32.ofNat M))])) (fun _ k => XS.aloadN X0.here hx rfl (hb hby dcz_1) rfl rfl k) ?_
    obtain ⟨cl1, Ar1, -, S1, N1, -, -⟩ := id Va
    refine own_go (T1 := s₁) (g1 := (mkF m 3 #[.val (.ref d1), .val (.int (Int32.ofNat M)), .unset] [(.int (Int32.ofNat N)), (.int (Int32.ofNat M))])) (fun _ k => X0.arraylength hx (by rw [e0]; exact Ar1.1) (State.isArrayOf_alike hZ.alike Ar1.2.1) (g := (mkF m 2 #[.val (.ref d1), .val (.int (Int32.ofNat M)), .unset] [(.ref d1), (.int (Int32.ofNat M))])) rfl rfl (hb hby dcz_2) _ (by rw [len_of S1 N1]; exact k)) ?_
    refine own_go (T1 := s₁) (g1 := (mkF m 6 #[.val (.ref d1), .val (.int (Int32.ofNat M)), .unset] [])) (fun _ k => XS.icmpNo X0.here hx rfl (hb hby dcz_3) rfl (teq (hMN : (Int32.ofNat M) = (Int32.ofNat N))).2 k) ?_
    refine own_go (T1 := s₁) (g1 := (mkF m 7 #[.val (.ref d1), .val (.int (Int32.ofNat M)), .unset] [(.ref d1)])) (fun _ k => XS.aloadN X0.here hx rfl (hb hby dcz_6) rfl rfl k) ?_
    obtain ⟨T2, h2, X2, e2, E2, A2, Y2, st2⟩ := cloneH X0 hx hZ hown (hw _ (List.mem_of_getElem? (i := 136) rfl)) (hw _ (List.mem_of_getElem? (i := 137) rfl)) (hw _ (List.mem_of_getElem? (i := 112) rfl)) (hw _ (List.mem_of_getElem? (i := 110) rfl)) (hw _ (List.mem_of_getElem? (i := 138) rfl)) (hw _ (List.mem_of_getElem? (i := 139) rfl)) e0 (hs := []) (vs := vs) (dv := (.int 0)) Va Ea (g := (mkF m 7 #[.val (.ref d1), .val (.int (Int32.ofNat M)), .unset] [(.ref d1)])) rfl (by rw [hml]; rfl) rfl (hb hby dcz_7) (by decide) (W := 0) (cap := 4) (by show 2 * 0 + _ ≤ _; exact Nat.le_of_eq rfl) (by decide) (own_cap _ hN) (by decide) (by decide)
    obtain ⟨b2, g2⟩ : ∃ z, z = h0.size := ⟨_, rfl⟩
    rw [← g2] at A2 Y2 st2
    have ne_d1_b2 : d1 ≠ b2 := Nat.ne_of_lt (Nat.lt_of_lt_of_le Va.lt (Nat.le_of_eq g2.symm))
    have ge_b2 : n0 ≤ b2 := Nat.le_trans Z0 (Nat.le_of_eq g2.symm)
    have sz_b2 : h0.size ≤ b2 := Nat.le_trans (Keep.refl h0 []).1 (Nat.le_of_eq g2.symm)
    have Va_2 : Arv Z h2 d1 kd .boolean (Int32.ofNat N) vs (.int 0) := Va.ext E2
    have Ea_2 : Exa Z h2 d1 "[Z" := Ea.ext E2
    have Zs2 : n0 ≤ h2.size := Nat.le_trans Z0 E2.1
    have Kp2 : Keep h0 h2 [] := (Keep.refl h0 []).ext E2
    have Vb2_2 : Arv Z h2 b2 kd .boolean (Int32.ofNat N) vs (.int 0) := A2
    refine own_go (T1 := T2) (g1 := (mkF m 10 #[.val (.ref d1), .val (.int (Int32.ofNat M)), .unset] [(.ref b2)])) (fun t k => st2 t k) ?_
    obtain ⟨T3, X3, e3, st3⟩ := castY X2 hx hZ hown (hw _ (List.mem_of_getElem? (i := 140) rfl)) e2 (Ins.self Y2) (g := (mkF m 10 #[.val (.ref d1), .val (.int (Int32.ofNat M)), .unset] [(.ref b2)])) rfl rfl (hb hby dcz_10)
    refine own_go (T1 := T3) (g1 := (mkF m 13 #[.val (.ref d1), .val (.int (Int32.ofNat M)), .unset] [(.ref b2)])) (fun t k => st3 t k) ?_
    exact ⟨T3, _, _, _, _, X3, ⟨13, _, b2, rfl, (hb hby dcz_13), rfl, rfl, (by rw [e3]; exact ⟨b2, rfl, N0, Kp2, sz_b2, ge_b2⟩)⟩, fun _ k => k⟩
  obtain ⟨T', g', L', k', n', X', ⟨pcr, Ls, z, rfl, hd, rfl, rfl, hQ⟩, st⟩ := main
  obtain ⟨fs, hr, hrun, hended, hW, hsame⟩ := X'.leave (v := (some (.ref z))) (fun h => by rw [Bd.returns] at h; cases h)
  refine ⟨_, _, castTop (ef_rmcz1 m d1) (st _ ?_), hrun, hended, _, _, rfl, hQ, ⟨_, rfl⟩, hW, hsame.mono (by decide) (by decide)⟩
  exact own_retA X' hx Bd.returns rfl hd hr
theorem dcz_14 : decode jdk_65_method_128_code 14 = .ok (.iload_n 1, 1) := by decide +kernel
theorem dcz_15 : decode jdk_65_method_128_code 15 = .ok (.newarray .boolean, 2) := by decide +kernel
theorem dcz_17 : decode jdk_65_method_128_code 17 = .ok (.astore_n 2, 1) := by decide +kernel
theorem dcz_18 : decode jdk_65_method_128_code 18 = .ok (.aload_n 0, 1) := by decide +kernel
theorem dcz_19 : decode jdk_65_method_128_code 19 = .ok (.iconst 0, 1) := by decide +kernel
theorem dcz_20 : decode jdk_65_method_128_code 20 = .ok (.aload_n 2, 1) := by decide +kernel
theorem dcz_21 : decode jdk_65_method_128_code 21 = .ok (.iconst 0, 1) := by decide +kernel
theorem dcz_22 : decode jdk_65_method_128_code 22 = .ok (.aload_n 0, 1) := by decide +kernel
theorem dcz_23 : decode jdk_65_method_128_code 23 = .ok (.arraylength, 1) := by decide +kernel
theorem dcz_24 : decode jdk_65_method_128_code 24 = .ok (.iload_n 1, 1) := by decide +kernel
theorem dcz_25 : decode jdk_65_method_128_code 25 = .ok (.invokestatic 304, 3) := by decide +kernel
theorem dcz_28 : decode jdk_65_method_128_code 28 = .ok (.invokestatic 150, 3) := by decide +kernel
theorem dcz_31 : decode jdk_65_method_128_code 31 = .ok (.aload_n 2, 1) := by decide +kernel
theorem dcz_32 : decode jdk_65_method_128_code 32 = .ok (.areturn, 1) := by decide +kernel
theorem ef_rmcz2 (m : MethodId) (d1 : Addr) : entryFrame m #[(.ref d1), (.int (Int32.ofNat M))] 3 = mkF m 0 #[.val (.ref d1), .val (.int (Int32.ofNat M)), .unset] [] := by first | (simp [entryFrame, mkF, argsToLocals, Value.category]; done) | rfl
set_option maxRecDepth 65536 in
set_option maxHeartbeats 4000000 in
theorem rmcz2 (l : Launch) (Z : State) (a0 : Array Value) (hw : ∀ d ∈ tables_1, d.before a0 Z = true) (ws : List Jvm.Cond) (d1 : Addr) (kd : ClassId) (N M : Nat) (vs : List Value) (h0 : Heap) (n0 : Nat) (Z0 : n0 ≤ h0.size) (hN : N ≤ 4) (hM : M ≤ 4) (Va : Arv Z h0 d1 kd .boolean (Int32.ofNat N) vs (.int 0)) (Ea : Exa Z h0 d1 "[Z") (hMN : ¬ ((Int32.ofNat M) = (Int32.ofNat N))) :
    MetFree l (⟨"java/util/Arrays", "copyOf", "([ZI)[Z"⟩ : MethodName) (head1 (Jvm.Cond.code (⟨"java/util/Arrays", "copyOf", "([ZI)[Z"⟩ : MethodName) jdk_65_method_128_code 3 (some (.array .boolean)) :: ws) ({ frames := 1, cells := 1, slots := 4, locals := 18 } : Room)) (fun a U => a = #[(.ref d1), (.int (Int32.ofNat M))] ∧ Z.Warmed39 U.vm ∧ U.heap = h0) (fun _ _ _ _ _ => True) (fun _ U o U' => ∃ v L, o = .returned v ∧ QCZ h0 n0 v U'.heap L ∧ FrameEnd U o U' L ({ frames := 1, cells := 1, slots := 4, locals := 18 } : Room).cells ({ frames := 1, cells := 1, slots := 4, locals := 18 } : Room).slots) := by
  refine MetFree.of_bodySF (plainFor_of_name (by first | (simp [plainName, overriddenIn]; done) | decide +kernel)) hisR ?_
  intro p e s m args below meth c s₁ Bd hml0 hP hK
  obtain ⟨rfl, hZ, hh⟩ := hP
  have hx := Bd.exec
  have hby := Bd.bytes
  have hml : c.maxLocals = 3 := hml0
  have hown : s.vm.findClass "java/util/Arrays" = some m.cls := findClass_of_methodNamed Bd.named
  have hnm := (name_of_methodNamed Bd.named Bd.method).1
  have X0 : Stand p l e ({ frames := 1, cells := 1, slots := 4, locals := 18 } : Room) s m #[(.ref d1), (.int (Int32.ofNat M))] below meth c s₁ [] 0 0 := Stand.of_body Bd
  have e0 : s₁.heap = h0 := by rw [← hh, Bd.state]; rfl
  have N0 := Fr.nil n0
  have main : own_To p l e ({ frames := 1, cells := 1, slots := 4, locals := 18 } : Room) s m #[(.ref d1), (.int (Int32.ofNat M))] below meth c s₁ (mkF m 0 #[.val (.ref d1), .val (.int (Int32.ofNat M)), .unset] []) (fun T' g' L kq zq => ∃ pcr Ls z, g' = mkF m pcr Ls [.ref z] ∧ decode c.code pcr = .ok (.areturn, 1) ∧ kq = 1 ∧ zq = 4 ∧ QCZ h0 n0 (some (.ref z)) T'.heap L) := by
    refine own_go (T1 := s₁) (g1 := (mkF m 1 #[.val (.ref d1), .val (.int (Int32.ofNat M)), .unset] [(.int (Int32.ofNat M))])) (fun _ k => XS.iloadN X0.here hx rfl (hb hby dcz_0) rfl k) ?_
    refine own_go (T1 := s₁) (g1 := (mkF m 2 #[.val (.ref d1), .val (.int (Int32.ofNat M)), .unset] [(.ref d1), (.int (Int32.ofNat M))])) (fun _ k => XS.aloadN X0.here hx rfl (hb hby dcz_1) rfl rfl k) ?_
    obtain ⟨cl1, Ar1, -, S1, N1, -, -⟩ := id Va
    refine own_go (T1 := s₁) (g1 := (mkF m 3 #[.val (.ref d1), .val (.int (Int32.ofNat M)), .unset] [(.int (Int32.ofNat N)), (.int (Int32.ofNat M))])) (fun _ k => X0.arraylength hx (by rw [e0]; exact Ar1.1) (State.isArrayOf_alike hZ.alike Ar1.2.1) (g := (mkF m 2 #[.val (.ref d1), .val (.int (Int32.ofNat M)), .unset] [(.ref d1), (.int (Int32.ofNat M))])) rfl rfl (hb hby dcz_2) _ (by rw [len_of S1 N1]; exact k)) ?_
    refine own_go (T1 := s₁) (g1 := (mkF m 14 #[.val (.ref d1), .val (.int (Int32.ofNat M)), .unset] [])) (fun _ k => XS.icmpYes X0.here hx rfl (pc0 := 3) (pc' := 14) rfl (hb hby dcz_3) rfl (feq (hMN : ¬ ((Int32.ofNat M) = (Int32.ofNat N)))).2 (by decide) (by decide) k) ?_
    refine own_go (T1 := s₁) (g1 := (mkF m 15 #[.val (.ref d1), .val (.int (Int32.ofNat M)), .unset] [(.int (Int32.ofNat M))])) (fun _ k => XS.iloadN X0.here hx rfl (hb hby dcz_14) rfl k) ?_
    obtain ⟨T2, h2, k2, X2, e2, E2, A2, Y2, st2⟩ := newPE X0 hx hZ (hw _ (List.mem_of_getElem? (i := 2) rfl)) e0 (g := (mkF m 15 #[.val (.ref d1), .val (.int (Int32.ofNat M)), .unset] [(.int (Int32.ofNat M))])) rfl (hb hby dcz_15) rfl (own_lt8 M (by omega) 0 (by omega)).2.2 (cap := 4) (own_cap _ hM) (by decide) (by decide) (by decide) (ad := "[Z") rfl
    obtain ⟨b2, g2⟩ : ∃ z, z = h0.size := ⟨_, rfl⟩
    rw [← g2] at A2 st2 Y2
    have ne_d1_b2 : d1 ≠ b2 := Nat.ne_of_lt (Nat.lt_of_lt_of_le Va.lt (Nat.le_of_eq g2.symm))
    have ge_b2 : n0 ≤ b2 := Nat.le_trans Z0 (Nat.le_of_eq g2.symm)
    have sz_b2 : h0.size ≤ b2 := Nat.le_trans (Keep.refl h0 []).1 (Nat.le_of_eq g2.symm)
    have Va_2 : Arv Z h2 d1 kd .boolean (Int32.ofNat N) vs (.int 0) := Va.ext E2
    have Ea_2 : Exa Z h2 d1 "[Z" := Ea.ext E2
    have Zs2 : n0 ≤ h2.size := Nat.le_trans Z0 E2.1
    have Kp2 : Keep h0 h2 [] := (Keep.refl h0 []).ext E2
    have Vb2_2 : Arv Z h2 b2 k2 .boolean (Int32.ofNat M) [] (.int 0) := Arv.new A2 (own_lt8 M (by omega) 0 (by omega)).2.2
    refine own_go (T1 := T2) (g1 := (mkF m 17 #[.val (.ref d1), .val (.int (Int32.ofNat M)), .unset] [(.ref b2)])) (fun t k => st2 t k) ?_
    refine own_go (T1 := T2) (g1 := (mkF m 18 #[.val (.ref d1), .val (.int (Int32.ofNat M)), .val (.ref b2)] [])) (fun _ k => XS.astoreN X2.here hx rfl (hb hby dcz_17) rfl rfl (l' := #[.val (.ref d1), .val (.int (Int32.ofNat M)), .val (.ref b2)]) rfl k) ?_
    refine own_go (T1 := T2) (g1 := (mkF m 19 #[.val (.ref d1), .val (.int (Int32.ofNat M)), .val (.ref b2)] [(.ref d1)])) (fun _ k => XS.aloadN X2.here hx rfl (hb hby dcz_18) rfl rfl k) ?_
    refine own_go (T1 := T2) (g1 := (mkF m 20 #[.val (.ref d1), .val (.int (Int32.ofNat M)), .val (.ref b2)] [(.int (0 : Int32)), (.ref d1)])) (fun _ k => XS.iconst X2.here hx rfl (hb hby dcz_19) k) ?_
    refine own_go (T1 := T2) (g1 := (mkF m 21 #[.val (.ref d1), .val (.int (Int32.ofNat M)), .val (.ref b2)] [(.ref b2), (.int (0 : Int32)), (.ref d1)])) (fun _ k => XS.aloadN X2.here hx rfl (hb hby dcz_20) rfl rfl k) ?_
    refine own_go (T1 := T2) (g1 := (mkF m 22 #[.val (.ref d1), .val (.int (Int32.ofNat M)), .val (.ref b2)] [(.int (0 : Int32)), (.ref b2), (.int (0 : Int32)), (.ref d1)])) (fun _ k => XS.iconst X2.here hx rfl (hb hby dcz_21) k) ?_
    refine own_go (T1 := T2) (g1 := (mkF m 23 #[.val (.ref d1), .val (.int (Int32.ofNat M)), .val (.ref b2)] [(.ref d1), (.int (0 : Int32)), (.ref b2), (.int (0 : Int32)), (.ref d1)])) (fun _ k => XS.aloadN X2.here hx rfl (hb hby dcz_22) rfl rfl k) ?_
    obtain ⟨cl3, Ar3, -, S3, N3, -, -⟩ := id Va_2
    refine own_go (T1 := T2) (g1 := (mkF m 24 #[.val (.ref d1), .val (.int (Int32.ofNat M)), .val (.ref b2)] [(.int (Int32.ofNat N)), (.int (0 : Int32)), (.ref b2), (.int (0 : Int32)), (.ref d1)])) (fun _ k => X2.arraylength hx (by rw [e2]; exact Ar3.1) (State.isArrayOf_alike hZ.alike Ar3.2.1) (g := (mkF m 23 #[.val (.ref d1), .val (.int (Int32.ofNat M)), .val (.ref b2)] [(.ref d1), (.int (0 : Int32)), (.ref b2), (.int (0 : Int32)), (.ref d1)])) rfl rfl (hb hby dcz_23) _ (by rw [len_of S3 N3]; exact k)) ?_
    refine own_go (T1 := T2) (g1 := (mkF m 25 #[.val (.ref d1), .val (.int (Int32.ofNat M)), .val (.ref b2)] [(.int (Int32.ofNat M)), (.int (Int32.ofNat N)), (.int (0 : Int32)), (.ref b2), (.int (0 : Int32)), (.ref d1)])) (fun _ k => XS.iloadN X2.here hx rfl (hb hby dcz_24) rfl k) ?_
    obtain ⟨_, _, ⟨T4, L4, k4, n4⟩, -, X4, ⟨Lc4, hQ4, l4, y4, z4⟩, st4⟩ := Jvm.LawKit.callS X2 hx (y := (⟨"java/lang/Math", "min", "(II)I"⟩ : MethodName)) hown (mvT hZ (hw _ (List.mem_of_getElem? (i := 184) rfl))) (mvT hZ (hw _ (List.mem_of_getElem? (i := 185) rfl))) (mvT hZ (hw _ (List.mem_of_getElem? (i := 90) rfl))) (mvT hZ (hw _ (List.mem_of_getElem? (i := 186) rfl))) (by decide) (backOf (W := 4) (rm12 l Z a0 hw [] (Int32.ofNat N) (Int32.ofNat M) h2 n0 Zs2) hZ (hw _ (List.mem_of_getElem? (i := 186) rfl)) (hw _ (List.mem_of_getElem? (i := 90) rfl)) (by decide) (by decide)) (g := (mkF m 25 #[.val (.ref d1), .val (.int (Int32.ofNat M)), .val (.ref b2)] [(.int (Int32.ofNat M)), (.int (Int32.ofNat N)), (.int (0 : Int32)), (.ref b2), (.int (0 : Int32)), (.ref d1)])) rfl (by rw [hml]; rfl) (argsL := [(.int (Int32.ofNat N)), (.int (Int32.ofNat M))]) (rest := [(.int (0 : Int32)), (.ref b2), (.int (0 : Int32)), (.ref d1)]) (lenOf own_pd_II_I rfl) rfl (by show 2 * 0 + _ ≤ _; exact Nat.le_of_eq rfl) (hb hby dcz_25) (fun _ _ => ⟨rfl, e2, (by decide : 1 + 0 ≤ _), (by decide : 4 + 0 ≤ _)⟩)
    dsimp only [Pt.U, Pt.locs, Pt.cells, Pt.slots] at X4 l4 y4 z4 st4 hQ4
    subst l4 y4 z4
    obtain ⟨rfl, N4q, e4⟩ := hQ4
    have N4 := Fr.app N0 N4q
    refine own_go (T1 := T4) (g1 := (mkF m 28 #[.val (.ref d1), .val (.int (Int32.ofNat M)), .val (.ref b2)] [(.int (f12_0 (Int32.ofNat N) (Int32.ofNat M))), (.int (0 : Int32)), (.ref b2), (.int (0 : Int32)), (.ref d1)])) (fun t k => st4 t k) ?_
    have Vq5 := Vb2_2.pad (pad_rep _ _ 4)
    obtain ⟨T5, h5, L5, X5, e5, N5, K5, Vc5, st5⟩ := cpA X4 hx hZ hown (hw _ (List.mem_of_getElem? (i := 187) rfl)) (hw _ (List.mem_of_getElem? (i := 190) rfl)) (hw _ (List.mem_of_getElem? (i := 188) rfl)) (hw _ (List.mem_of_getElem? (i := 189) rfl)) e4 Va_2 Vq5 (Or.inl ⟨rfl, rfl⟩) (by decide) (by decide) (own_min N hN M hM).1 (own_min N hN M hM).2.1 (own_min N hN M hM).2.2.1 rfl (own_min N hN M hM).2.2.2.1 N4 ge_b2 (g := (mkF m 28 #[.val (.ref d1), .val (.int (Int32.ofNat M)), .val (.ref b2)] [(.int (f12_0 (Int32.ofNat N) (Int32.ofNat M))), (.int (0 : Int32)), (.ref b2), (.int (0 : Int32)), (.ref d1)])) rfl (by rw [hml]; rfl) rfl (hb hby dcz_28) (by decide) (W := 0) (by show 2 * 0 + _ ≤ _; exact Nat.le_of_eq rfl) (by decide)
    have Kq5 : Keep h0 h5 [] := Kp2.trans K5 (fun z hz => Or.inr (by cases List.mem_singleton.mp hz; exact sz_b2))
    have Yq5 : Exa Z h5 b2 "[Z" := Y2.keep K5
    refine own_go (T1 := T5) (g1 := (mkF m 31 #[.val (.ref d1), .val (.int (Int32.ofNat M)), .val (.ref b2)] [])) (fun t k => st5 t k) ?_
    refine own_go (T1 := T5) (g1 := (mkF m 32 #[.val (.ref d1), .val (.int (Int32.ofNat M)), .val (.ref b2)] [(.ref b2)])) (fun _ k => XS.aloadN X5.here hx rfl (hb hby dcz_31) rfl rfl k) ?_
    exact ⟨T5, _, _, _, _, X5, ⟨32, _, b2, rfl, (hb hby dcz_32), rfl, rfl, (by rw [e5]; exact ⟨b2, rfl, N5, Kq5, sz_b2, ge_b2⟩)⟩, fun _ k => k⟩
  obtain ⟨T', g', L', k', n', X', ⟨pcr, Ls, z, rfl, hd, rfl, rfl, hQ⟩, st⟩ := main
  obtain ⟨fs, hr, hrun, hended, hW, hsame⟩ := X'.leave (v := (some (.ref z))) (fun h => by rw [Bd.returns] at h; cases h)
  refine ⟨_, _, castTop (ef_rmcz2 m d1) (st _ ?_), hrun, hended, _, _, rfl, hQ, ⟨_, rfl⟩, hW, hsame.mono (by decide) (by decide)⟩
  exact own_retA X' hx Bd.returns rfl hd hr
theorem rmci (l : Launch) (Z : State) (a0 : Array Value) (hw : ∀ d ∈ tables_1, d.before a0 Z = true) (ws : List Jvm.Cond) (d1 : Addr) (kd : ClassId) (N M : Nat) (vals : List Int32) (h0 : Heap) (n0 : Nat) (Z0 : n0 ≤ h0.size) (hN : N ≤ 4) (hM : M ≤ 4) (hv : vals.length ≤ N) (Va : Arv Z h0 d1 kd .int (Int32.ofNat N) (vals.map Value.int) (.int 0)) (Ea : Exa Z h0 d1 "[I") :
    MetFree l (⟨"java/util/Arrays", "copyOf", "([II)[I"⟩ : MethodName) (head1 (Jvm.Cond.code (⟨"java/util/Arrays", "copyOf", "([II)[I"⟩ : MethodName) jdk_65_method_123_code 3 (some (.array .int)) :: ws) ({ frames := 1, cells := 1, slots := 4, locals := 18 } : Room)) (fun a U => a = #[(.ref d1), (.int (Int32.ofNat M))] ∧ Z.Warmed39 U.vm ∧ U.heap = h0) (fun _ _ _ _ _ => True) (fun _ U o U' => ∃ v L, o = .returned v ∧ QCI Z M vals h0 n0 v U'.heap L ∧ FrameEnd U o U' L ({ frames := 1, cells := 1, slots := 4, locals := 18 } : Room).cells ({ frames := 1, cells := 1, slots := 4, locals := 18 } : Room).slots) := by
  by_cases hMN : (Int32.ofNat M) = (Int32.ofNat N)
  · exact rmci1 l Z a0 hw ws d1 kd N M vals h0 n0 Z0 hN hM hv Va Ea hMN
  · exact rmci2 l Z a0 hw ws d1 kd N M vals h0 n0 Z0 hN hM hv Va Ea hMN
theorem rmcz (l : Launch) (Z : State) (a0 : Array Value) (hw : ∀ d ∈ tables_1, d.before a0 Z = true) (ws : List Jvm.Cond) (d1 : Addr) (kd : ClassId) (N M : Nat) (vs : List Value) (h0 : Heap) (n0 : Nat) (Z0 : n0 ≤ h0.size) (hN : N ≤ 4) (hM : M ≤ 4) (Va : Arv Z h0 d1 kd .boolean (Int32.ofNat N) vs (.int 0)) (Ea : Exa Z h0 d1 "[Z") :
    MetFree l (⟨"java/util/Arrays", "copyOf", "([ZI)[Z"⟩ : MethodName) (head1 (Jvm.Cond.code (⟨"java/util/Arrays", "copyOf", "([ZI)[Z"⟩ : MethodName) jdk_65_method_128_code 3 (some (.array .boolean)) :: ws) ({ frames := 1, cells := 1, slots := 4, locals := 18 } : Room)) (fun a U => a = #[(.ref d1), (.int (Int32.ofNat M))] ∧ Z.Warmed39 U.vm ∧ U.heap = h0) (fun _ _ _ _ _ => True) (fun _ U o U' => ∃ v L, o = .returned v ∧ QCZ h0 n0 v U'.heap L ∧ FrameEnd U o U' L ({ frames := 1, cells := 1, slots := 4, locals := 18 } : Room).cells ({ frames := 1, cells := 1, slots := 4, locals := 18 } : Room).slots) := by
  by_cases hMN : (Int32.ofNat M) = (Int32.ofNat N)
  · exact rmcz1 l Z a0 hw ws d1 kd N M vs h0 n0 Z0 hN hM Va Ea hMN
  · exact rmcz2 l Z a0 hw ws d1 kd N M vs h0 n0 Z0 hN hM Va Ea hMN
section OwnPut
variable {p : Program} {l : Launch} {e : Env} {R : Room} {s : State} {m : MethodId} {args : Array Value} {below : List Frame} {meth : Method} {c : Code} {T : State} {locs : List Loc} {cells slots : Nat} {Z : State} {h h0 : Heap} {b : Addr} {k : ClassId} {n : Int32} {vals : List Int32} {n0 : Nat}
theorem own_putIY (X : Stand p l e R s m args below meth c T locs cells slots) (hx : p.tables.exec = Jvm.exec) (hZ : Z.Warmed39 s.vm) (eT : T.heap = h) (F : Arv Z h b k .int n (vals.map Value.int) (.int 0)) {ad : String} (Y : Exa Z h b ad) (N : Fr n0 locs) (g0 : n0 ≤ b) (K : Keep h0 h []) (sz : h0.size ≤ b) (j x : Int32) (hj : j.toNatClampNeg = vals.length) (hj2 : ¬ j < 0 ∧ j < n) {g : JFrame} (hg : g.method = m) {rest : List Value} (hs : g.stack = .int x :: .int j :: .ref b :: rest) (hd : decode c.code g.pc = .ok (.iastore, 1)) :
    ∃ (T' : State) (h' : Heap) (locs' : List Loc), Stand p l e R s m args below meth c T' locs' cells slots ∧ T'.heap = h' ∧ Arv Z h' b k .int n ((vals ++ [x]).map Value.int) (.int 0) ∧ Fr n0 locs' ∧ Keep h0 h' [] ∧ Exa Z h' b ad ∧ ∀ target, Steps p.tables e below (T'.setTop { g with pc := g.pc + 1, stack := rest }) target → Steps p.tables e below (T.setTop g) target := by
  obtain ⟨cl, A, q, S, Nn, H, G⟩ := F.pad (pad_rep _ _ 1)
  obtain ⟨T', h', X', e', W, st⟩ := stI X hx hZ eT A (j := j) (x := x) (inb_of S hj2) hg hs hd
  have V2 := Arv.set A q S Nn H G (v := .int x) rfl W vals.length hj (by simp)
  rw [own_set_end] at V2
  exact ⟨T', h', _, X', e', V2, Fr.snoc X' N g0, K.wr W (Or.inr sz), Y.wr W, st⟩
end OwnPut

theorem dkc_52 : decode prog_19_method_2_code 52 = .ok (.iload 11, 2) := by decide +kernel
theorem dkc_54 : decode prog_19_method_2_code 54 = .ok (.iload 10, 2) := by decide +kernel
theorem dkc_56 : decode prog_19_method_2_code 56 = .ok (.if_icmp .ge 35, 3) := by decide +kernel
theorem dkc_59 : decode prog_19_method_2_code 59 = .ok (.aload 9, 2) := by decide +kernel
theorem dkc_61 : decode prog_19_method_2_code 61 = .ok (.iload 11, 2) := by decide +kernel
theorem dkc_63 : decode prog_19_method_2_code 63 = .ok (.iaload, 1) := by decide +kernel
theorem dkc_64 : decode prog_19_method_2_code 64 = .ok (.istore 12, 2) := by decide +kernel
theorem dkc_66 : decode prog_19_method_2_code 66 = .ok (.iload 8, 2) := by decide +kernel
theorem dkc_68 : decode prog_19_method_2_code 68 = .ok (.ifCond .ne 10, 3) := by decide +kernel
theorem dkc_78 : decode prog_19_method_2_code 78 = .ok (.iconst 1, 1) := by decide +kernel
theorem dkc_79 : decode prog_19_method_2_code 79 = .ok (.goto 4, 3) := by decide +kernel
theorem dkc_83 : decode prog_19_method_2_code 83 = .ok (.istore 8, 2) := by decide +kernel
theorem dkc_85 : decode prog_19_method_2_code 85 = .ok (.iinc 11 1, 3) := by decide +kernel
theorem dkc_88 : decode prog_19_method_2_code 88 = .ok (.goto (-36), 3) := by decide +kernel
theorem oskc_64_0 {s0 : Slot} {s1 : Slot} {s2 : Slot} {s3 : Slot} {s4 : Slot} {s5 : Slot} {s6 : Slot} {z7 : Value} {z8 : Value} {z9 : Value} {z10 : Value} {z11 : Value} {s12 : Slot} {v : Int32} (h : One s12) : storeLocals #[s0, s1, s2, s3, s4, s5, s6, .val z7, .val z8, .val z9, .val z10, .val z11, s12] 12 (.int v) = some #[s0, s1, s2, s3, s4, s5, s6, .val z7, .val z8, .val z9, .val z10, .val z11, .val (.int v)] := by
  rcases h with rfl | ⟨w, rfl, hw⟩
  · rfl
  · cases w <;> first | rfl | (simp [Value.category] at hw)
set_option maxRecDepth 65536 in
set_option maxHeartbeats 4000000 in
theorem own_kA {p : Program} {l : Launch} {e : Env} {s : State} {m : MethodId} {args : Array Value} {below : List Frame} {meth : Method} {c : Code} {T0 : State} {locs : List Loc} {Z : State} {a0 : Array Value} {h0 : Heap} {n0 : Nat} (s0 s1 s2 s3 s4 s5 s6 : Slot) (s12 : Slot) (d1 : Addr) (kd : ClassId) (pv n j a : Int32) (vs : List Value) (X0 : Stand p l e ({ frames := 2, cells := 2, slots := 8, locals := 32 } : Room) s m args below meth c T0 locs 1 4) (hx : p.tables.exec = Jvm.exec) (hZ : Z.Warmed39 s.vm) (hw : ∀ d ∈ tables_1, d.before a0 Z = true) (hby : c.code = prog_19_method_2_code) (hml : c.maxLocals = 13) (hown : s.vm.findClass "com/example/sukima/sukima/catalog/Index" = some m.cls) (e0 : T0.heap = h0) (N0 : Fr n0 locs) (Vc : Arv Z h0 d1 kd .int n vs (.int 0)) (hin : ¬ j < 0 ∧ j < n) (hat : vs.getD j.toNatClampNeg (.int 0) = .int a) (hs12 : One s12) :
    own_To p l e ({ frames := 2, cells := 2, slots := 8, locals := 32 } : Room) s m args below meth c T0 (mkF m 52 #[s0, s1, s2, s3, s4, s5, s6, .val (.int pv), .val (.int (1 : Int32)), .val (.ref d1), .val (.int n), .val (.int j), s12] []) (fun T' g' L kq zq => g' = (mkF m 52 #[s0, s1, s2, s3, s4, s5, s6, .val (.int pv), .val (.int (1 : Int32)), .val (.ref d1), .val (.int n), .val (.int (j + (1 : Int32))), .val (.int a)] []) ∧ kq = 1 ∧ zq = 4 ∧ Fr n0 L ∧ T'.heap = h0) := by
  refine own_go (T1 := T0) (g1 := (mkF m 54 #[s0, s1, s2, s3, s4, s5, s6, .val (.int pv), .val (.int (1 : Int32)), .val (.ref d1), .val (.int n), .val (.int j), s12] [(.int j)])) (fun _ k => XS.iload X0.here hx rfl (hb hby dkc_52) rfl k) ?_
  refine own_go (T1 := T0) (g1 := (mkF m 56 #[s0, s1, s2, s3, s4, s5, s6, .val (.int pv), .val (.int (1 : Int32)), .val (.ref d1), .val (.int n), .val (.int j), s12] [(.int n), (.int j)])) (fun _ k => XS.iload X0.here hx rfl (hb hby dkc_54) rfl k) ?_
  refine own_go (T1 := T0) (g1 := (mkF m 59 #[s0, s1, s2, s3, s4, s5, s6, .val (.int pv), .val (.int (1 : Int32)), .val (.ref d1), .val (.int n), .val (.int j), s12] [])) (fun _ k => XS.icmpNo X0.here hx rfl (hb hby dkc_56) rfl (tlt (hin.2 : j < n)).2.1 k) ?_
  refine own_go (T1 := T0) (g1 := (mkF m 61 #[s0, s1, s2, s3, s4, s5, s6, .val (.int pv), .val (.int (1 : Int32)), .val (.ref d1), .val (.int n), .val (.int j), s12] [(.ref d1)])) (fun _ k => XS.aload X0.here hx rfl (hb hby dkc_59) rfl rfl k) ?_
  refine own_go (T1 := T0) (g1 := (mkF m 63 #[s0, s1, s2, s3, s4, s5, s6, .val (.int pv), .val (.int (1 : Int32)), .val (.ref d1), .val (.int n), .val (.int j), s12] [(.int j), (.ref d1)])) (fun _ k => XS.iload X0.here hx rfl (hb hby dkc_61) rfl k) ?_
  obtain ⟨cl1, Ar1, -, S1, -, H1, -⟩ := id Vc
  refine own_go (T1 := T0) (g1 := (mkF m 64 #[s0, s1, s2, s3, s4, s5, s6, .val (.int pv), .val (.int (1 : Int32)), .val (.ref d1), .val (.int n), .val (.int j), s12] [(.int a)])) (fun _ k => X0.iaload hx (j := j) (v := (.int a)) (by rw [e0]; exact Ar1.1) (State.isArrayOf_alike hZ.alike Ar1.2.1) Ar1.2.2 (inb_of S1 hin) (H1.at (inb_of S1 hin) hat) (g := (mkF m 63 #[s0, s1, s2, s3, s4, s5, s6, .val (.int pv), .val (.int (1 : Int32)), .val (.ref d1), .val (.int n), .val (.int j), s12] [(.int j), (.ref d1)])) rfl rfl (hb hby dkc_63) _ k) ?_
  refine own_go (T1 := T0) (g1 := (mkF m 66 #[s0, s1, s2, s3, s4, s5, s6, .val (.int pv), .val (.int (1 : Int32)), .val (.ref d1), .val (.int n), .val (.int j), .val (.int a)] [])) (fun _ k => XS.istore X0.here hx rfl (hb hby dkc_64) rfl (l' := #[s0, s1, s2, s3, s4, s5, s6, .val (.int pv), .val (.int (1 : Int32)), .val (.ref d1), .val (.int n), .val (.int j), .val (.int a)]) (oskc_64_0 hs12) k) ?_
  refine own_go (T1 := T0) (g1 := (mkF m 68 #[s0, s1, s2, s3, s4, s5, s6, .val (.int pv), .val (.int (1 : Int32)), .val (.ref d1), .val (.int n), .val (.int j), .val (.int a)] [(.int (1 : Int32))])) (fun _ k => XS.iload X0.here hx rfl (hb hby dkc_66) rfl k) ?_
  refine own_go (T1 := T0) (g1 := (mkF m 78 #[s0, s1, s2, s3, s4, s5, s6, .val (.int pv), .val (.int (1 : Int32)), .val (.ref d1), .val (.int n), .val (.int j), .val (.int a)] [])) (fun _ k => XS.ifYes X0.here hx rfl (pc0 := 68) (pc' := 78) rfl (hb hby dkc_68) rfl ((if0 _ _).trans (feq ((by decide) : ¬ ((1 : Int32) = (0 : Int32)))).2) (by decide) (by decide) k) ?_
  refine own_go (T1 := T0) (g1 := (mkF m 79 #[s0, s1, s2, s3, s4, s5, s6, .val (.int pv), .val (.int (1 : Int32)), .val (.ref d1), .val (.int n), .val (.int j), .val (.int a)] [(.int (1 : Int32))])) (fun _ k => XS.iconst X0.here hx rfl (hb hby dkc_78) k) ?_
  refine own_go (T1 := T0) (g1 := (mkF m 83 #[s0, s1, s2, s3, s4, s5, s6, .val (.int pv), .val (.int (1 : Int32)), .val (.ref d1), .val (.int n), .val (.int j), .val (.int a)] [(.int (1 : Int32))])) (fun _ k => XS.goto X0.here hx rfl (pc0 := 79) (pc' := 83) rfl (hb hby dkc_79) (by decide) (by decide) k) ?_
  refine own_go (T1 := T0) (g1 := (mkF m 85 #[s0, s1, s2, s3, s4, s5, s6, .val (.int pv), .val (.int (1 : Int32)), .val (.ref d1), .val (.int n), .val (.int j), .val (.int a)] [])) (fun _ k => XS.istore X0.here hx rfl (hb hby dkc_83) rfl (l' := #[s0, s1, s2, s3, s4, s5, s6, .val (.int pv), .val (.int (1 : Int32)), .val (.ref d1), .val (.int n), .val (.int j), .val (.int a)]) rfl k) ?_
  refine own_go (T1 := T0) (g1 := (mkF m 88 #[s0, s1, s2, s3, s4, s5, s6, .val (.int pv), .val (.int (1 : Int32)), .val (.ref d1), .val (.int n), .val (.int (j + (1 : Int32))), .val (.int a)] [])) (fun _ k => XS.iinc X0.here hx rfl (hb hby dkc_85) rfl (l' := #[s0, s1, s2, s3, s4, s5, s6, .val (.int pv), .val (.int (1 : Int32)), .val (.ref d1), .val (.int n), .val (.int (j + (1 : Int32))), .val (.int a)]) rfl k) ?_
  refine own_go (T1 := T0) (g1 := (mkF m 52 #[s0, s1, s2, s3, s4, s5, s6, .val (.int pv), .val (.int (1 : Int32)), .val (.ref d1), .val (.int n), .val (.int (j + (1 : Int32))), .val (.int a)] [])) (fun _ k => XS.goto X0.here hx rfl (pc0 := 88) (pc' := 52) rfl (hb hby dkc_88) (by decide) (by decide) k) ?_
  exact ⟨T0, _, _, _, _, X0, ⟨rfl, rfl, rfl, N0, e0⟩, fun _ k => k⟩
theorem dkc_71 : decode prog_19_method_2_code 71 = .ok (.iload 12, 2) := by decide +kernel
theorem dkc_73 : decode prog_19_method_2_code 73 = .ok (.iload 7, 2) := by decide +kernel
theorem dkc_75 : decode prog_19_method_2_code 75 = .ok (.if_icmp .ne 7, 3) := by decide +kernel
set_option maxRecDepth 65536 in
set_option maxHeartbeats 4000000 in
theorem own_kB {p : Program} {l : Launch} {e : Env} {s : State} {m : MethodId} {args : Array Value} {below : List Frame} {meth : Method} {c : Code} {T0 : State} {locs : List Loc} {Z : State} {a0 : Array Value} {h0 : Heap} {n0 : Nat} (s0 s1 s2 s3 s4 s5 s6 : Slot) (s12 : Slot) (d1 : Addr) (kd : ClassId) (pv n j a : Int32) (vs : List Value) (X0 : Stand p l e ({ frames := 2, cells := 2, slots := 8, locals := 32 } : Room) s m args below meth c T0 locs 1 4) (hx : p.tables.exec = Jvm.exec) (hZ : Z.Warmed39 s.vm) (hw : ∀ d ∈ tables_1, d.before a0 Z = true) (hby : c.code = prog_19_method_2_code) (hml : c.maxLocals = 13) (hown : s.vm.findClass "com/example/sukima/sukima/catalog/Index" = some m.cls) (e0 : T0.heap = h0) (N0 : Fr n0 locs) (Vc : Arv Z h0 d1 kd .int n vs (.int 0)) (hin : ¬ j < 0 ∧ j < n) (hat : vs.getD j.toNatClampNeg (.int 0) = .int a) (hs12 : One s12) (hap : a = pv) :
    own_To p l e ({ frames := 2, cells := 2, slots := 8, locals := 32 } : Room) s m args below meth c T0 (mkF m 52 #[s0, s1, s2, s3, s4, s5, s6, .val (.int pv), .val (.int (0 : Int32)), .val (.ref d1), .val (.int n), .val (.int j), s12] []) (fun T' g' L kq zq => g' = (mkF m 52 #[s0, s1, s2, s3, s4, s5, s6, .val (.int pv), .val (.int (1 : Int32)), .val (.ref d1), .val (.int n), .val (.int (j + (1 : Int32))), .val (.int a)] []) ∧ kq = 1 ∧ zq = 4 ∧ Fr n0 L ∧ T'.heap = h0) := by
  refine own_go (T1 := T0) (g1 := (mkF m 54 #[s0, s1, s2, s3, s4, s5, s6, .val (.int pv), .val (.int (0 : Int32)), .val (.ref d1), .val (.int n), .val (.int j), s12] [(.int j)])) (fun _ k => XS.iload X0.here hx rfl (hb hby dkc_52) rfl k) ?_
  refine own_go (T1 := T0) (g1 := (mkF m 56 #[s0, s1, s2, s3, s4, s5, s6, .val (.int pv), .val (.int (0 : Int32)), .val (.ref d1), .val (.int n), .val (.int j), s12] [(.int n), (.int j)])) (fun _ k => XS.iload X0.here hx rfl (hb hby dkc_54) rfl k) ?_
  refine own_go (T1 := T0) (g1 := (mkF m 59 #[s0, s1, s2, s3, s4, s5, s6, .val (.int pv), .val (.int (0 : Int32)), .val (.ref d1), .val (.int n), .val (.int j), s12] [])) (fun _ k => XS.icmpNo X0.here hx rfl (hb hby dkc_56) rfl (tlt (hin.2 : j < n)).2.1 k) ?_
  refine own_go (T1 := T0) (g1 := (mkF m 61 #[s0, s1, s2, s3, s4, s5, s6, .val (.int pv), .val (.int (0 : Int32)), .val (.ref d1), .val (.int n), .val (.int j), s12] [(.ref d1)])) (fun _ k => XS.aload X0.here hx rfl (hb hby dkc_59) rfl rfl k) ?_
  refine own_go (T1 := T0) (g1 := (mkF m 63 #[s0, s1, s2, s3, s4, s5, s6, .val (.int pv), .val (.int (0 : Int32)), .val (.ref d1), .val (.int n), .val (.int j), s12] [(.int j), (.ref d1)])) (fun _ k => XS.iload X0.here hx rfl (hb hby dkc_61) rfl k) ?_
  obtain ⟨cl1, Ar1, -, S1, -, H1, -⟩ := id Vc
  refine own_go (T1 := T0) (g1 := (mkF m 64 #[s0, s1, s2, s3, s4, s5, s6, .val (.int pv), .val (.int (0 : Int32)), .val (.ref d1), .val (.int n), .val (.int j), s12] [(.int a)])) (fun _ k => X0.iaload hx (j := j) (v := (.int a)) (by rw [e0]; exact Ar1.1) (State.isArrayOf_alike hZ.alike Ar1.2.1) Ar1.2.2 (inb_of S1 hin) (H1.at (inb_of S1 hin) hat) (g := (mkF m 63 #[s0, s1, s2, s3, s4, s5, s6, .val (.int pv), .val (.int (0 : Int32)), .val (.ref d1), .val (.int n), .val (.int j), s12] [(.int j), (.ref d1)])) rfl rfl (hb hby dkc_63) _ k) ?_
  refine own_go (T1 := T0) (g1 := (mkF m 66 #[s0, s1, s2, s3, s4, s5, s6, .val (.int pv), .val (.int (0 : Int32)), .val (.ref d1), .val (.int n), .val (.int j), .val (.int a)] [])) (fun _ k => XS.istore X0.here hx rfl (hb hby dkc_64) rfl (l' := #[s0, s1, s2, s3, s4, s5, s6, .val (.int pv), .val (.int (0 : Int32)), .val (.ref d1), .val (.int n), .val (.int j), .val (.int a)]) (oskc_64_0 hs12) k) ?_
  refine own_go (T1 := T0) (g1 := (mkF m 68 #[s0, s1, s2, s3, s4, s5, s6, .val (.int pv), .val (.int (0 : Int32)), .val (.ref d1), .val (.int n), .val (.int j), .val (.int a)] [(.int (0 : Int32))])) (fun _ k => XS.iload X0.here hx rfl (hb hby dkc_66) rfl k) ?_
  refine own_go (T1 := T0) (g1 := (mkF m 71 #[s0, s1, s2, s3, s4, s5, s6, .val (.int pv), .val (.int (0 : Int32)), .val (.ref d1), .val (.int n), .val (.int j), .val (.int a)] [])) (fun _ k => XS.ifNo X0.here hx rfl (hb hby dkc_68) rfl ((if0 _ _).trans (teq (rfl : (0 : Int32) = (0 : Int32))).2) k) ?_
  refine own_go (T1 := T0) (g1 := (mkF m 73 #[s0, s1, s2, s3, s4, s5, s6, .val (.int pv), .val (.int (0 : Int32)), .val (.ref d1), .val (.int n), .val (.int j), .val (.int a)] [(.int a)])) (fun _ k => XS.iload X0.here hx rfl (hb hby dkc_71) rfl k) ?_
  refine own_go (T1 := T0) (g1 := (mkF m 75 #[s0, s1, s2, s3, s4, s5, s6, .val (.int pv), .val (.int (0 : Int32)), .val (.ref d1), .val (.int n), .val (.int j), .val (.int a)] [(.int pv), (.int a)])) (fun _ k => XS.iload X0.here hx rfl (hb hby dkc_73) rfl k) ?_
  refine own_go (T1 := T0) (g1 := (mkF m 78 #[s0, s1, s2, s3, s4, s5, s6, .val (.int pv), .val (.int (0 : Int32)), .val (.ref d1), .val (.int n), .val (.int j), .val (.int a)] [])) (fun _ k => XS.icmpNo X0.here hx rfl (hb hby dkc_75) rfl (teq (hap : a = pv)).2 k) ?_
  refine own_go (T1 := T0) (g1 := (mkF m 79 #[s0, s1, s2, s3, s4, s5, s6, .val (.int pv), .val (.int (0 : Int32)), .val (.ref d1), .val (.int n), .val (.int j), .val (.int a)] [(.int (1 : Int32))])) (fun _ k => XS.iconst X0.here hx rfl (hb hby dkc_78) k) ?_
  refine own_go (T1 := T0) (g1 := (mkF m 83 #[s0, s1, s2, s3, s4, s5, s6, .val (.int pv), .val (.int (0 : Int32)), .val (.ref d1), .val (.int n), .val (.int j), .val (.int a)] [(.int (1 : Int32))])) (fun _ k => XS.goto X0.here hx rfl (pc0 := 79) (pc' := 83) rfl (hb hby dkc_79) (by decide) (by decide) k) ?_
  refine own_go (T1 := T0) (g1 := (mkF m 85 #[s0, s1, s2, s3, s4, s5, s6, .val (.int pv), .val (.int (1 : Int32)), .val (.ref d1), .val (.int n), .val (.int j), .val (.int a)] [])) (fun _ k => XS.istore X0.here hx rfl (hb hby dkc_83) rfl (l' := #[s0, s1, s2, s3, s4, s5, s6, .val (.int pv), .val (.int (1 : Int32)), .val (.ref d1), .val (.int n), .val (.int j), .val (.int a)]) rfl k) ?_
  refine own_go (T1 := T0) (g1 := (mkF m 88 #[s0, s1, s2, s3, s4, s5, s6, .val (.int pv), .val (.int (1 : Int32)), .val (.ref d1), .val (.int n), .val (.int (j + (1 : Int32))), .val (.int a)] [])) (fun _ k => XS.iinc X0.here hx rfl (hb hby dkc_85) rfl (l' := #[s0, s1, s2, s3, s4, s5, s6, .val (.int pv), .val (.int (1 : Int32)), .val (.ref d1), .val (.int n), .val (.int (j + (1 : Int32))), .val (.int a)]) rfl k) ?_
  refine own_go (T1 := T0) (g1 := (mkF m 52 #[s0, s1, s2, s3, s4, s5, s6, .val (.int pv), .val (.int (1 : Int32)), .val (.ref d1), .val (.int n), .val (.int (j + (1 : Int32))), .val (.int a)] [])) (fun _ k => XS.goto X0.here hx rfl (pc0 := 88) (pc' := 52) rfl (hb hby dkc_88) (by decide) (by decide) k) ?_
  exact ⟨T0, _, _, _, _, X0, ⟨rfl, rfl, rfl, N0, e0⟩, fun _ k => k⟩
theorem dkc_82 : decode prog_19_method_2_code 82 = .ok (.iconst 0, 1) := by decide +kernel
set_option maxRecDepth 65536 in
set_option maxHeartbeats 4000000 in
theorem own_kN {p : Program} {l : Launch} {e : Env} {s : State} {m : MethodId} {args : Array Value} {below : List Frame} {meth : Method} {c : Code} {T0 : State} {locs : List Loc} {Z : State} {a0 : Array Value} {h0 : Heap} {n0 : Nat} (s0 s1 s2 s3 s4 s5 s6 : Slot) (s12 : Slot) (d1 : Addr) (kd : ClassId) (pv n j a : Int32) (vs : List Value) (X0 : Stand p l e ({ frames := 2, cells := 2, slots := 8, locals := 32 } : Room) s m args below meth c T0 locs 1 4) (hx : p.tables.exec = Jvm.exec) (hZ : Z.Warmed39 s.vm) (hw : ∀ d ∈ tables_1, d.before a0 Z = true) (hby : c.code = prog_19_method_2_code) (hml : c.maxLocals = 13) (hown : s.vm.findClass "com/example/sukima/sukima/catalog/Index" = some m.cls) (e0 : T0.heap = h0) (N0 : Fr n0 locs) (Vc : Arv Z h0 d1 kd .int n vs (.int 0)) (hin : ¬ j < 0 ∧ j < n) (hat : vs.getD j.toNatClampNeg (.int 0) = .int a) (hs12 : One s12) (hap : ¬ (a = pv)) :
    own_To p l e ({ frames := 2, cells := 2, slots := 8, locals := 32 } : Room) s m args below meth c T0 (mkF m 52 #[s0, s1, s2, s3, s4, s5, s6, .val (.int pv), .val (.int (0 : Int32)), .val (.ref d1), .val (.int n), .val (.int j), s12] []) (fun T' g' L kq zq => g' = (mkF m 52 #[s0, s1, s2, s3, s4, s5, s6, .val (.int pv), .val (.int (0 : Int32)), .val (.ref d1), .val (.int n), .val (.int (j + (1 : Int32))), .val (.int a)] []) ∧ kq = 1 ∧ zq = 4 ∧ Fr n0 L ∧ T'.heap = h0) := by
  refine own_go (T1 := T0) (g1 := (mkF m 54 #[s0, s1, s2, s3, s4, s5, s6, .val (.int pv), .val (.int (0 : Int32)), .val (.ref d1), .val (.int n), .val (.int j), s12] [(.int j)])) (fun _ k => XS.iload X0.here hx rfl (hb hby dkc_52) rfl k) ?_
  refine own_go (T1 := T0) (g1 := (mkF m 56 #[s0, s1, s2, s3, s4, s5, s6, .val (.int pv), .val (.int (0 : Int32)), .val (.ref d1), .val (.int n), .val (.int j), s12] [(.int n), (.int j)])) (fun _ k => XS.iload X0.here hx rfl (hb hby dkc_54) rfl k) ?_
  refine own_go (T1 := T0) (g1 := (mkF m 59 #[s0, s1, s2, s3, s4, s5, s6, .val (.int pv), .val (.int (0 : Int32)), .val (.ref d1), .val (.int n), .val (.int j), s12] [])) (fun _ k => XS.icmpNo X0.here hx rfl (hb hby dkc_56) rfl (tlt (hin.2 : j < n)).2.1 k) ?_
  refine own_go (T1 := T0) (g1 := (mkF m 61 #[s0, s1, s2, s3, s4, s5, s6, .val (.int pv), .val (.int (0 : Int32)), .val (.ref d1), .val (.int n), .val (.int j), s12] [(.ref d1)])) (fun _ k => XS.aload X0.here hx rfl (hb hby dkc_59) rfl rfl k) ?_
  refine own_go (T1 := T0) (g1 := (mkF m 63 #[s0, s1, s2, s3, s4, s5, s6, .val (.int pv), .val (.int (0 : Int32)), .val (.ref d1), .val (.int n), .val (.int j), s12] [(.int j), (.ref d1)])) (fun _ k => XS.iload X0.here hx rfl (hb hby dkc_61) rfl k) ?_
  obtain ⟨cl1, Ar1, -, S1, -, H1, -⟩ := id Vc
  refine own_go (T1 := T0) (g1 := (mkF m 64 #[s0, s1, s2, s3, s4, s5, s6, .val (.int pv), .val (.int (0 : Int32)), .val (.ref d1), .val (.int n), .val (.int j), s12] [(.int a)])) (fun _ k => X0.iaload hx (j := j) (v := (.int a)) (by rw [e0]; exact Ar1.1) (State.isArrayOf_alike hZ.alike Ar1.2.1) Ar1.2.2 (inb_of S1 hin) (H1.at (inb_of S1 hin) hat) (g := (mkF m 63 #[s0, s1, s2, s3, s4, s5, s6, .val (.int pv), .val (.int (0 : Int32)), .val (.ref d1), .val (.int n), .val (.int j), s12] [(.int j), (.ref d1)])) rfl rfl (hb hby dkc_63) _ k) ?_
  refine own_go (T1 := T0) (g1 := (mkF m 66 #[s0, s1, s2, s3, s4, s5, s6, .val (.int pv), .val (.int (0 : Int32)), .val (.ref d1), .val (.int n), .val (.int j), .val (.int a)] [])) (fun _ k => XS.istore X0.here hx rfl (hb hby dkc_64) rfl (l' := #[s0, s1, s2, s3, s4, s5, s6, .val (.int pv), .val (.int (0 : Int32)), .val (.ref d1), .val (.int n), .val (.int j), .val (.int a)]) (oskc_64_0 hs12) k) ?_
  refine own_go (T1 := T0) (g1 := (mkF m 68 #[s0, s1, s2, s3, s4, s5, s6, .val (.int pv), .val (.int (0 : Int32)), .val (.ref d1), .val (.int n), .val (.int j), .val (.int a)] [(.int (0 : Int32))])) (fun _ k => XS.iload X0.here hx rfl (hb hby dkc_66) rfl k) ?_
  refine own_go (T1 := T0) (g1 := (mkF m 71 #[s0, s1, s2, s3, s4, s5, s6, .val (.int pv), .val (.int (0 : Int32)), .val (.ref d1), .val (.int n), .val (.int j), .val (.int a)] [])) (fun _ k => XS.ifNo X0.here hx rfl (hb hby dkc_68) rfl ((if0 _ _).trans (teq (rfl : (0 : Int32) = (0 : Int32))).2) k) ?_
  refine own_go (T1 := T0) (g1 := (mkF m 73 #[s0, s1, s2, s3, s4, s5, s6, .val (.int pv), .val (.int (0 : Int32)), .val (.ref d1), .val (.int n), .val (.int j), .val (.int a)] [(.int a)])) (fun _ k => XS.iload X0.here hx rfl (hb hby dkc_71) rfl k) ?_
  refine own_go (T1 := T0) (g1 := (mkF m 75 #[s0, s1, s2, s3, s4, s5, s6, .val (.int pv), .val (.int (0 : Int32)), .val (.ref d1), .val (.int n), .val (.int j), .val (.int a)] [(.int pv), (.int a)])) (fun _ k => XS.iload X0.here hx rfl (hb hby dkc_73) rfl k) ?_
  refine own_go (T1 := T0) (g1 := (mkF m 82 #[s0, s1, s2, s3, s4, s5, s6, .val (.int pv), .val (.int (0 : Int32)), .val (.ref d1), .val (.int n), .val (.int j), .val (.int a)] [])) (fun _ k => XS.icmpYes X0.here hx rfl (pc0 := 75) (pc' := 82) rfl (hb hby dkc_75) rfl (feq (hap : ¬ (a = pv))).2 (by decide) (by decide) k) ?_
  refine own_go (T1 := T0) (g1 := (mkF m 83 #[s0, s1, s2, s3, s4, s5, s6, .val (.int pv), .val (.int (0 : Int32)), .val (.ref d1), .val (.int n), .val (.int j), .val (.int a)] [(.int (0 : Int32))])) (fun _ k => XS.iconst X0.here hx rfl (hb hby dkc_82) k) ?_
  refine own_go (T1 := T0) (g1 := (mkF m 85 #[s0, s1, s2, s3, s4, s5, s6, .val (.int pv), .val (.int (0 : Int32)), .val (.ref d1), .val (.int n), .val (.int j), .val (.int a)] [])) (fun _ k => XS.istore X0.here hx rfl (hb hby dkc_83) rfl (l' := #[s0, s1, s2, s3, s4, s5, s6, .val (.int pv), .val (.int (0 : Int32)), .val (.ref d1), .val (.int n), .val (.int j), .val (.int a)]) rfl k) ?_
  refine own_go (T1 := T0) (g1 := (mkF m 88 #[s0, s1, s2, s3, s4, s5, s6, .val (.int pv), .val (.int (0 : Int32)), .val (.ref d1), .val (.int n), .val (.int (j + (1 : Int32))), .val (.int a)] [])) (fun _ k => XS.iinc X0.here hx rfl (hb hby dkc_85) rfl (l' := #[s0, s1, s2, s3, s4, s5, s6, .val (.int pv), .val (.int (0 : Int32)), .val (.ref d1), .val (.int n), .val (.int (j + (1 : Int32))), .val (.int a)]) rfl k) ?_
  refine own_go (T1 := T0) (g1 := (mkF m 52 #[s0, s1, s2, s3, s4, s5, s6, .val (.int pv), .val (.int (0 : Int32)), .val (.ref d1), .val (.int n), .val (.int (j + (1 : Int32))), .val (.int a)] [])) (fun _ k => XS.goto X0.here hx rfl (pc0 := 88) (pc' := 52) rfl (hb hby dkc_88) (by decide) (by decide) k) ?_
  exact ⟨T0, _, _, _, _, X0, ⟨rfl, rfl, rfl, N0, e0⟩, fun _ k => k⟩
set_option maxRecDepth 65536 in
set_option maxHeartbeats 4000000 in
theorem own_kO {p : Program} {l : Launch} {e : Env} {s : State} {m : MethodId} {args : Array Value} {below : List Frame} {meth : Method} {c : Code} {T0 : State} {locs : List Loc} {Z : State} {a0 : Array Value} {h0 : Heap} {n0 : Nat} (s0 s1 s2 s3 s4 s5 s6 : Slot) (s12 : Slot) (d1 : Addr) (kd : ClassId) (pv hv n j : Int32) (vs : List Value) (X0 : Stand p l e ({ frames := 2, cells := 2, slots := 8, locals := 32 } : Room) s m args below meth c T0 locs 1 4) (hx : p.tables.exec = Jvm.exec) (hZ : Z.Warmed39 s.vm) (hw : ∀ d ∈ tables_1, d.before a0 Z = true) (hby : c.code = prog_19_method_2_code) (hml : c.maxLocals = 13) (hown : s.vm.findClass "com/example/sukima/sukima/catalog/Index" = some m.cls) (e0 : T0.heap = h0) (N0 : Fr n0 locs) (Vc : Arv Z h0 d1 kd .int n vs (.int 0)) (hge : ¬ (j < n)) :
    own_To p l e ({ frames := 2, cells := 2, slots := 8, locals := 32 } : Room) s m args below meth c T0 (mkF m 52 #[s0, s1, s2, s3, s4, s5, s6, .val (.int pv), .val (.int hv), .val (.ref d1), .val (.int n), .val (.int j), s12] []) (fun T' g' L kq zq => g' = (mkF m 91 #[s0, s1, s2, s3, s4, s5, s6, .val (.int pv), .val (.int hv), .val (.ref d1), .val (.int n), .val (.int j), s12] []) ∧ kq = 1 ∧ zq = 4 ∧ Fr n0 L ∧ T'.heap = h0) := by
  refine own_go (T1 := T0) (g1 := (mkF m 54 #[s0, s1, s2, s3, s4, s5, s6, .val (.int pv), .val (.int hv), .val (.ref d1), .val (.int n), .val (.int j), s12] [(.int j)])) (fun _ k => XS.iload X0.here hx rfl (hb hby dkc_52) rfl k) ?_
  refine own_go (T1 := T0) (g1 := (mkF m 56 #[s0, s1, s2, s3, s4, s5, s6, .val (.int pv), .val (.int hv), .val (.ref d1), .val (.int n), .val (.int j), s12] [(.int n), (.int j)])) (fun _ k => XS.iload X0.here hx rfl (hb hby dkc_54) rfl k) ?_
  refine own_go (T1 := T0) (g1 := (mkF m 91 #[s0, s1, s2, s3, s4, s5, s6, .val (.int pv), .val (.int hv), .val (.ref d1), .val (.int n), .val (.int j), s12] [])) (fun _ k => XS.icmpYes X0.here hx rfl (pc0 := 56) (pc' := 91) rfl (hb hby dkc_56) rfl (flt (hge : ¬ (j < n))).2.1 (by decide) (by decide) k) ?_
  exact ⟨T0, _, _, _, _, X0, ⟨rfl, rfl, rfl, N0, e0⟩, fun _ k => k⟩
theorem dkc_24 : decode prog_19_method_2_code 24 = .ok (.iload 6, 2) := by decide +kernel
theorem dkc_26 : decode prog_19_method_2_code 26 = .ok (.iload 5, 2) := by decide +kernel
theorem dkc_28 : decode prog_19_method_2_code 28 = .ok (.if_icmp .ge 82, 3) := by decide +kernel
theorem dkc_31 : decode prog_19_method_2_code 31 = .ok (.aload 4, 2) := by decide +kernel
theorem dkc_33 : decode prog_19_method_2_code 33 = .ok (.iload 6, 2) := by decide +kernel
theorem dkc_35 : decode prog_19_method_2_code 35 = .ok (.iaload, 1) := by decide +kernel
theorem dkc_36 : decode prog_19_method_2_code 36 = .ok (.istore 7, 2) := by decide +kernel
theorem dkc_38 : decode prog_19_method_2_code 38 = .ok (.iconst 0, 1) := by decide +kernel
theorem dkc_39 : decode prog_19_method_2_code 39 = .ok (.istore 8, 2) := by decide +kernel
theorem dkc_41 : decode prog_19_method_2_code 41 = .ok (.aload_n 0, 1) := by decide +kernel
theorem dkc_42 : decode prog_19_method_2_code 42 = .ok (.astore 9, 2) := by decide +kernel
theorem dkc_44 : decode prog_19_method_2_code 44 = .ok (.aload 9, 2) := by decide +kernel
theorem dkc_46 : decode prog_19_method_2_code 46 = .ok (.arraylength, 1) := by decide +kernel
theorem dkc_47 : decode prog_19_method_2_code 47 = .ok (.istore 10, 2) := by decide +kernel
theorem dkc_49 : decode prog_19_method_2_code 49 = .ok (.iconst 0, 1) := by decide +kernel
theorem dkc_50 : decode prog_19_method_2_code 50 = .ok (.istore 11, 2) := by decide +kernel
theorem oskc_36_0 {z0 : Value} {z1 : Value} {z2 : Value} {z3 : Value} {z4 : Value} {z5 : Value} {z6 : Value} {s7 : Slot} {s8 : Slot} {s9 : Slot} {s10 : Slot} {s11 : Slot} {s12 : Slot} {v : Int32} (h : One s7) : storeLocals #[.val z0, .val z1, .val z2, .val z3, .val z4, .val z5, .val z6, s7, s8, s9, s10, s11, s12] 7 (.int v) = some #[.val z0, .val z1, .val z2, .val z3, .val z4, .val z5, .val z6, .val (.int v), s8, s9, s10, s11, s12] := by
  rcases h with rfl | ⟨w, rfl, hw⟩
  · rfl
  · cases w <;> first | rfl | (simp [Value.category] at hw)
theorem oskc_39_1 {z0 : Value} {z1 : Value} {z2 : Value} {z3 : Value} {z4 : Value} {z5 : Value} {z6 : Value} {z7 : Value} {s8 : Slot} {s9 : Slot} {s10 : Slot} {s11 : Slot} {s12 : Slot} {v : Int32} (h : One s8) : storeLocals #[.val z0, .val z1, .val z2, .val z3, .val z4, .val z5, .val z6, .val z7, s8, s9, s10, s11, s12] 8 (.int v) = some #[.val z0, .val z1, .val z2, .val z3, .val z4, .val z5, .val z6, .val z7, .val (.int v), s9, s10, s11, s12] := by
  rcases h with rfl | ⟨w, rfl, hw⟩
  · rfl
  · cases w <;> first | rfl | (simp [Value.category] at hw)
theorem oskc_42_2 {z0 : Value} {z1 : Value} {z2 : Value} {z3 : Value} {z4 : Value} {z5 : Value} {z6 : Value} {z7 : Value} {z8 : Value} {s9 : Slot} {s10 : Slot} {s11 : Slot} {s12 : Slot} {v : Addr} (h : One s9) : storeLocals #[.val z0, .val z1, .val z2, .val z3, .val z4, .val z5, .val z6, .val z7, .val z8, s9, s10, s11, s12] 9 (.ref v) = some #[.val z0, .val z1, .val z2, .val z3, .val z4, .val z5, .val z6, .val z7, .val z8, .val (.ref v), s10, s11, s12] := by
  rcases h with rfl | ⟨w, rfl, hw⟩
  · rfl
  · cases w <;> first | rfl | (simp [Value.category] at hw)
theorem oskc_47_3 {z0 : Value} {z1 : Value} {z2 : Value} {z3 : Value} {z4 : Value} {z5 : Value} {z6 : Value} {z7 : Value} {z8 : Value} {z9 : Value} {s10 : Slot} {s11 : Slot} {s12 : Slot} {v : Int32} (h : One s10) : storeLocals #[.val z0, .val z1, .val z2, .val z3, .val z4, .val z5, .val z6, .val z7, .val z8, .val z9, s10, s11, s12] 10 (.int v) = some #[.val z0, .val z1, .val z2, .val z3, .val z4, .val z5, .val z6, .val z7, .val z8, .val z9, .val (.int v), s11, s12] := by
  rcases h with rfl | ⟨w, rfl, hw⟩
  · rfl
  · cases w <;> first | rfl | (simp [Value.category] at hw)
theorem oskc_50_4 {z0 : Value} {z1 : Value} {z2 : Value} {z3 : Value} {z4 : Value} {z5 : Value} {z6 : Value} {z7 : Value} {z8 : Value} {z9 : Value} {z10 : Value} {s11 : Slot} {s12 : Slot} {v : Int32} (h : One s11) : storeLocals #[.val z0, .val z1, .val z2, .val z3, .val z4, .val z5, .val z6, .val z7, .val z8, .val z9, .val z10, s11, s12] 11 (.int v) = some #[.val z0, .val z1, .val z2, .val z3, .val z4, .val z5, .val z6, .val z7, .val z8, .val z9, .val z10, .val (.int v), s12] := by
  rcases h with rfl | ⟨w, rfl, hw⟩
  · rfl
  · cases w <;> first | rfl | (simp [Value.category] at hw)
set_option maxRecDepth 65536 in
set_option maxHeartbeats 4000000 in
theorem own_oT {p : Program} {l : Launch} {e : Env} {s : State} {m : MethodId} {args : Array Value} {below : List Frame} {meth : Method} {c : Code} {T0 : State} {locs : List Loc} {Z : State} {a0 : Array Value} {h0 : Heap} {n0 : Nat} (s7 s8 s9 s10 s11 s12 : Slot) (d1 d2 rb : Addr) (kd ke : ClassId) (us mm t pv n : Int32) (vs ws : List Value) (X0 : Stand p l e ({ frames := 2, cells := 2, slots := 8, locals := 32 } : Room) s m args below meth c T0 locs 1 4) (hx : p.tables.exec = Jvm.exec) (hZ : Z.Warmed39 s.vm) (hw : ∀ d ∈ tables_1, d.before a0 Z = true) (hby : c.code = prog_19_method_2_code) (hml : c.maxLocals = 13) (hown : s.vm.findClass "com/example/sukima/sukima/catalog/Index" = some m.cls) (e0 : T0.heap = h0) (N0 : Fr n0 locs) (Vc : Arv Z h0 d1 kd .int n vs (.int 0)) (Ve : Arv Z h0 d2 ke .int mm ws (.int 0)) (hin : ¬ t < 0 ∧ t < mm) (hat : ws.getD t.toNatClampNeg (.int 0) = .int pv) (hs7 : One s7) (hs8 : One s8) (hs9 : One s9) (hs10 : One s10) (hs11 : One s11) :
    own_To p l e ({ frames := 2, cells := 2, slots := 8, locals := 32 } : Room) s m args below meth c T0 (mkF m 24 #[.val (.ref d1), .val (.ref d2), .val (.ref rb), .val (.int us), .val (.ref d2), .val (.int mm), .val (.int t), s7, s8, s9, s10, s11, s12] []) (fun T' g' L kq zq => g' = (mkF m 52 #[.val (.ref d1), .val (.ref d2), .val (.ref rb), .val (.int us), .val (.ref d2), .val (.int mm), .val (.int t), .val (.int pv), .val (.int (0 : Int32)), .val (.ref d1), .val (.int n), .val (.int (0 : Int32)), s12] []) ∧ kq = 1 ∧ zq = 4 ∧ Fr n0 L ∧ T'.heap = h0) := by
  refine own_go (T1 := T0) (g1 := (mkF m 26 #[.val (.ref d1), .val (.ref d2), .val (.ref rb), .val (.int us), .val (.ref d2), .val (.int mm), .val (.int t), s7, s8, s9, s10, s11, s12] [(.int t)])) (fun _ k => XS.iload X0.here hx rfl (hb hby dkc_24) rfl k) ?_
  refine own_go (T1 := T0) (g1 := (mkF m 28 #[.val (.ref d1), .val (.ref d2), .val (.ref rb), .val (.int us), .val (.ref d2), .val (.int mm), .val (.int t), s7, s8, s9, s10, s11, s12] [(.int mm), (.int t)])) (fun _ k => XS.iload X0.here hx rfl (hb hby dkc_26) rfl k) ?_
  refine own_go (T1 := T0) (g1 := (mkF m 31 #[.val (.ref d1), .val (.ref d2), .val (.ref rb), .val (.int us), .val (.ref d2), .val (.int mm), .val (.int t), s7, s8, s9, s10, s11, s12] [])) (fun _ k => XS.icmpNo X0.here hx rfl (hb hby dkc_28) rfl (tlt (hin.2 : t < mm)).2.1 k) ?_
  refine own_go (T1 := T0) (g1 := (mkF m 33 #[.val (.ref d1), .val (.ref d2), .val (.ref rb), .val (.int us), .val (.ref d2), .val (.int mm), .val (.int t), s7, s8, s9, s10, s11, s12] [(.ref d2)])) (fun _ k => XS.aload X0.here hx rfl (hb hby dkc_31) rfl rfl k) ?_
  refine own_go (T1 := T0) (g1 := (mkF m 35 #[.val (.ref d1), .val (.ref d2), .val (.ref rb), .val (.int us), .val (.ref d2), .val (.int mm), .val (.int t), s7, s8, s9, s10, s11, s12] [(.int t), (.ref d2)])) (fun _ k => XS.iload X0.here hx rfl (hb hby dkc_33) rfl k) ?_
  obtain ⟨cl1, Ar1, -, S1, -, H1, -⟩ := id Ve
  refine own_go (T1 := T0) (g1 := (mkF m 36 #[.val (.ref d1), .val (.ref d2), .val (.ref rb), .val (.int us), .val (.ref d2), .val (.int mm), .val (.int t), s7, s8, s9, s10, s11, s12] [(.int pv)])) (fun _ k => X0.iaload hx (j := t) (v := (.int pv)) (by rw [e0]; exact Ar1.1) (State.isArrayOf_alike hZ.alike Ar1.2.1) Ar1.2.2 (inb_of S1 hin) (H1.at (inb_of S1 hin) hat) (g := (mkF m 35 #[.val (.ref d1), .val (.ref d2), .val (.ref rb), .val (.int us), .val (.ref d2), .val (.int mm), .val (.int t), s7, s8, s9, s10, s11, s12] [(.int t), (.ref d2)])) rfl rfl (hb hby dkc_35) _ k) ?_
  refine own_go (T1 := T0) (g1 := (mkF m 38 #[.val (.ref d1), .val (.ref d2), .val (.ref rb), .val (.int us), .val (.ref d2), .val (.int mm), .val (.int t), .val (.int pv), s8, s9, s10, s11, s12] [])) (fun _ k => XS.istore X0.here hx rfl (hb hby dkc_36) rfl (l' := #[.val (.ref d1), .val (.ref d2), .val (.ref rb), .val (.int us), .val (.ref d2), .val (.int mm), .val (.int t), .val (.int pv), s8, s9, s10, s11, s12]) (oskc_36_0 hs7) k) ?_
  refine own_go (T1 := T0) (g1 := (mkF m 39 #[.val (.ref d1), .val (.ref d2), .val (.ref rb), .val (.int us), .val (.ref d2), .val (.int mm), .val (.int t), .val (.int pv), s8, s9, s10, s11, s12] [(.int (0 : Int32))])) (fun _ k => XS.iconst X0.here hx rfl (hb hby dkc_38) k) ?_
  refine own_go (T1 := T0) (g1 := (mkF m 41 #[.val (.ref d1), .val (.ref d2), .val (.ref rb), .val (.int us), .val (.ref d2), .val (.int mm), .val (.int t), .val (.int pv), .val (.int (0 : Int32)), s9, s10, s11, s12] [])) (fun _ k => XS.istore X0.here hx rfl (hb hby dkc_39) rfl (l' := #[.val (.ref d1), .val (.ref d2), .val (.ref rb), .val (.int us), .val (.ref d2), .val (.int mm), .val (.int t), .val (.int pv), .val (.int (0 : Int32)), s9, s10, s11, s12]) (oskc_39_1 hs8) k) ?_
  refine own_go (T1 := T0) (g1 := (mkF m 42 #[.val (.ref d1), .val (.ref d2), .val (.ref rb), .val (.int us), .val (.ref d2), .val (.int mm), .val (.int t), .val (.int pv), .val (.int (0 : Int32)), s9, s10, s11, s12] [(.ref d1)])) (fun _ k => XS.aloadN X0.here hx rfl (hb hby dkc_41) rfl rfl k) ?_
  refine own_go (T1 := T0) (g1 := (mkF m 44 #[.val (.ref d1), .val (.ref d2), .val (.ref rb), .val (.int us), .val (.ref d2), .val (.int mm), .val (.int t), .val (.int pv), .val (.int (0 : Int32)), .val (.ref d1), s10, s11, s12] [])) (fun _ k => XS.astore X0.here hx rfl (hb hby dkc_42) rfl rfl (l' := #[.val (.ref d1), .val (.ref d2), .val (.ref rb), .val (.int us), .val (.ref d2), .val (.int mm), .val (.int t), .val (.int pv), .val (.int (0 : Int32)), .val (.ref d1), s10, s11, s12]) (oskc_42_2 hs9) k) ?_
  refine own_go (T1 := T0) (g1 := (mkF m 46 #[.val (.ref d1), .val (.ref d2), .val (.ref rb), .val (.int us), .val (.ref d2), .val (.int mm), .val (.int t), .val (.int pv), .val (.int (0 : Int32)), .val (.ref d1), s10, s11, s12] [(.ref d1)])) (fun _ k => XS.aload X0.here hx rfl (hb hby dkc_44) rfl rfl k) ?_
  obtain ⟨cl2, Ar2, -, S2, N2, -, -⟩ := id Vc
  refine own_go (T1 := T0) (g1 := (mkF m 47 #[.val (.ref d1), .val (.ref d2), .val (.ref rb), .val (.int us), .val (.ref d2), .val (.int mm), .val (.int t), .val (.int pv), .val (.int (0 : Int32)), .val (.ref d1), s10, s11, s12] [(.int n)])) (fun _ k => X0.arraylength hx (by rw [e0]; exact Ar2.1) (State.isArrayOf_alike hZ.alike Ar2.2.1) (g := (mkF m 46 #[.val (.ref d1), .val (.ref d2), .val (.ref rb), .val (.int us), .val (.ref d2), .val (.int mm), .val (.int t), .val (.int pv), .val (.int (0 : Int32)), .val (.ref d1), s10, s11, s12] [(.ref d1)])) rfl rfl (hb hby dkc_46) _ (by rw [len_of S2 N2]; exact k)) ?_
  refine own_go (T1 := T0) (g1 := (mkF m 49 #[.val (.ref d1), .val (.ref d2), .val (.ref rb), .val (.int us), .val (.ref d2), .val (.int mm), .val (.int t), .val (.int pv), .val (.int (0 : Int32)), .val (.ref d1), .val (.int n), s11, s12] [])) (fun _ k => XS.istore X0.here hx rfl (hb hby dkc_47) rfl (l' := #[.val (.ref d1), .val (.ref d2), .val (.ref rb), .val (.int us), .val (.ref d2), .val (.int mm), .val (.int t), .val (.int pv), .val (.int (0 : Int32)), .val (.ref d1), .val (.int n), s11, s12]) (oskc_47_3 hs10) k) ?_
  refine own_go (T1 := T0) (g1 := (mkF m 50 #[.val (.ref d1), .val (.ref d2), .val (.ref rb), .val (.int us), .val (.ref d2), .val (.int mm), .val (.int t), .val (.int pv), .val (.int (0 : Int32)), .val (.ref d1), .val (.int n), s11, s12] [(.int (0 : Int32))])) (fun _ k => XS.iconst X0.here hx rfl (hb hby dkc_49) k) ?_
  refine own_go (T1 := T0) (g1 := (mkF m 52 #[.val (.ref d1), .val (.ref d2), .val (.ref rb), .val (.int us), .val (.ref d2), .val (.int mm), .val (.int t), .val (.int pv), .val (.int (0 : Int32)), .val (.ref d1), .val (.int n), .val (.int (0 : Int32)), s12] [])) (fun _ k => XS.istore X0.here hx rfl (hb hby dkc_50) rfl (l' := #[.val (.ref d1), .val (.ref d2), .val (.ref rb), .val (.int us), .val (.ref d2), .val (.int mm), .val (.int t), .val (.int pv), .val (.int (0 : Int32)), .val (.ref d1), .val (.int n), .val (.int (0 : Int32)), s12]) (oskc_50_4 hs11) k) ?_
  exact ⟨T0, _, _, _, _, X0, ⟨rfl, rfl, rfl, N0, e0⟩, fun _ k => k⟩
set_option maxRecDepth 65536 in
set_option maxHeartbeats 4000000 in
theorem own_oO {p : Program} {l : Launch} {e : Env} {s : State} {m : MethodId} {args : Array Value} {below : List Frame} {meth : Method} {c : Code} {T0 : State} {locs : List Loc} {Z : State} {a0 : Array Value} {h0 : Heap} {n0 : Nat} (s7 s8 s9 s10 s11 s12 : Slot) (d1 d2 rb : Addr) (us mm t : Int32) (X0 : Stand p l e ({ frames := 2, cells := 2, slots := 8, locals := 32 } : Room) s m args below meth c T0 locs 1 4) (hx : p.tables.exec = Jvm.exec) (hZ : Z.Warmed39 s.vm) (hw : ∀ d ∈ tables_1, d.before a0 Z = true) (hby : c.code = prog_19_method_2_code) (hml : c.maxLocals = 13) (hown : s.vm.findClass "com/example/sukima/sukima/catalog/Index" = some m.cls) (e0 : T0.heap = h0) (N0 : Fr n0 locs) (hge : ¬ (t < mm)) :
    own_To p l e ({ frames := 2, cells := 2, slots := 8, locals := 32 } : Room) s m args below meth c T0 (mkF m 24 #[.val (.ref d1), .val (.ref d2), .val (.ref rb), .val (.int us), .val (.ref d2), .val (.int mm), .val (.int t), s7, s8, s9, s10, s11, s12] []) (fun T' g' L kq zq => g' = (mkF m 110 #[.val (.ref d1), .val (.ref d2), .val (.ref rb), .val (.int us), .val (.ref d2), .val (.int mm), .val (.int t), s7, s8, s9, s10, s11, s12] []) ∧ kq = 1 ∧ zq = 4 ∧ Fr n0 L ∧ T'.heap = h0) := by
  refine own_go (T1 := T0) (g1 := (mkF m 26 #[.val (.ref d1), .val (.ref d2), .val (.ref rb), .val (.int us), .val (.ref d2), .val (.int mm), .val (.int t), s7, s8, s9, s10, s11, s12] [(.int t)])) (fun _ k => XS.iload X0.here hx rfl (hb hby dkc_24) rfl k) ?_
  refine own_go (T1 := T0) (g1 := (mkF m 28 #[.val (.ref d1), .val (.ref d2), .val (.ref rb), .val (.int us), .val (.ref d2), .val (.int mm), .val (.int t), s7, s8, s9, s10, s11, s12] [(.int mm), (.int t)])) (fun _ k => XS.iload X0.here hx rfl (hb hby dkc_26) rfl k) ?_
  refine own_go (T1 := T0) (g1 := (mkF m 110 #[.val (.ref d1), .val (.ref d2), .val (.ref rb), .val (.int us), .val (.ref d2), .val (.int mm), .val (.int t), s7, s8, s9, s10, s11, s12] [])) (fun _ k => XS.icmpYes X0.here hx rfl (pc0 := 28) (pc' := 110) rfl (hb hby dkc_28) rfl (flt (hge : ¬ (t < mm))).2.1 (by decide) (by decide) k) ?_
  exact ⟨T0, _, _, _, _, X0, ⟨rfl, rfl, rfl, N0, e0⟩, fun _ k => k⟩
theorem dkc_91 : decode prog_19_method_2_code 91 = .ok (.iload 8, 2) := by decide +kernel
theorem dkc_93 : decode prog_19_method_2_code 93 = .ok (.ifCond .ne 11, 3) := by decide +kernel
theorem dkc_104 : decode prog_19_method_2_code 104 = .ok (.iinc 6 1, 3) := by decide +kernel
theorem dkc_107 : decode prog_19_method_2_code 107 = .ok (.goto (-83), 3) := by decide +kernel
set_option maxRecDepth 65536 in
set_option maxHeartbeats 4000000 in
theorem own_oK {p : Program} {l : Launch} {e : Env} {s : State} {m : MethodId} {args : Array Value} {below : List Frame} {meth : Method} {c : Code} {T0 : State} {locs : List Loc} {Z : State} {a0 : Array Value} {h0 : Heap} {n0 : Nat} (s12 : Slot) (d1 d2 rb : Addr) (us mm t pv n j : Int32) (X0 : Stand p l e ({ frames := 2, cells := 2, slots := 8, locals := 32 } : Room) s m args below meth c T0 locs 1 4) (hx : p.tables.exec = Jvm.exec) (hZ : Z.Warmed39 s.vm) (hw : ∀ d ∈ tables_1, d.before a0 Z = true) (hby : c.code = prog_19_method_2_code) (hml : c.maxLocals = 13) (hown : s.vm.findClass "com/example/sukima/sukima/catalog/Index" = some m.cls) (e0 : T0.heap = h0) (N0 : Fr n0 locs)  :
    own_To p l e ({ frames := 2, cells := 2, slots := 8, locals := 32 } : Room) s m args below meth c T0 (mkF m 91 #[.val (.ref d1), .val (.ref d2), .val (.ref rb), .val (.int us), .val (.ref d2), .val (.int mm), .val (.int t), .val (.int pv), .val (.int (1 : Int32)), .val (.ref d1), .val (.int n), .val (.int j), s12] []) (fun T' g' L kq zq => g' = (mkF m 24 #[.val (.ref d1), .val (.ref d2), .val (.ref rb), .val (.int us), .val (.ref d2), .val (.int mm), .val (.int (t + (1 : Int32))), .val (.int pv), .val (.int (1 : Int32)), .val (.ref d1), .val (.int n), .val (.int j), s12] []) ∧ kq = 1 ∧ zq = 4 ∧ Fr n0 L ∧ T'.heap = h0) := by
  refine own_go (T1 := T0) (g1 := (mkF m 93 #[.val (.ref d1), .val (.ref d2), .val (.ref rb), .val (.int us), .val (.ref d2), .val (.int mm), .val (.int t), .val (.int pv), .val (.int (1 : Int32)), .val (.ref d1), .val (.int n), .val (.int j), s12] [(.int (1 : Int32))])) (fun _ k => XS.iload X0.here hx rfl (hb hby dkc_91) rfl k) ?_
  refine own_go (T1 := T0) (g1 := (mkF m 104 #[.val (.ref d1), .val (.ref d2), .val (.ref rb), .val (.int us), .val (.ref d2), .val (.int mm), .val (.int t), .val (.int pv), .val (.int (1 : Int32)), .val (.ref d1), .val (.int n), .val (.int j), s12] [])) (fun _ k => XS.ifYes X0.here hx rfl (pc0 := 93) (pc' := 104) rfl (hb hby dkc_93) rfl ((if0 _ _).trans (feq ((by decide) : ¬ ((1 : Int32) = (0 : Int32)))).2) (by decide) (by decide) k) ?_
  refine own_go (T1 := T0) (g1 := (mkF m 107 #[.val (.ref d1), .val (.ref d2), .val (.ref rb), .val (.int us), .val (.ref d2), .val (.int mm), .val (.int (t + (1 : Int32))), .val (.int pv), .val (.int (1 : Int32)), .val (.ref d1), .val (.int n), .val (.int j), s12] [])) (fun _ k => XS.iinc X0.here hx rfl (hb hby dkc_104) rfl (l' := #[.val (.ref d1), .val (.ref d2), .val (.ref rb), .val (.int us), .val (.ref d2), .val (.int mm), .val (.int (t + (1 : Int32))), .val (.int pv), .val (.int (1 : Int32)), .val (.ref d1), .val (.int n), .val (.int j), s12]) rfl k) ?_
  refine own_go (T1 := T0) (g1 := (mkF m 24 #[.val (.ref d1), .val (.ref d2), .val (.ref rb), .val (.int us), .val (.ref d2), .val (.int mm), .val (.int (t + (1 : Int32))), .val (.int pv), .val (.int (1 : Int32)), .val (.ref d1), .val (.int n), .val (.int j), s12] [])) (fun _ k => XS.goto X0.here hx rfl (pc0 := 107) (pc' := 24) rfl (hb hby dkc_107) (by decide) (by decide) k) ?_
  exact ⟨T0, _, _, _, _, X0, ⟨rfl, rfl, rfl, N0, e0⟩, fun _ k => k⟩
theorem dkc_96 : decode prog_19_method_2_code 96 = .ok (.aload_n 2, 1) := by decide +kernel
theorem dkc_97 : decode prog_19_method_2_code 97 = .ok (.iload_n 3, 1) := by decide +kernel
theorem dkc_98 : decode prog_19_method_2_code 98 = .ok (.iload 7, 2) := by decide +kernel
theorem dkc_100 : decode prog_19_method_2_code 100 = .ok (.iastore, 1) := by decide +kernel
theorem dkc_101 : decode prog_19_method_2_code 101 = .ok (.iinc 3 1, 3) := by decide +kernel
set_option maxRecDepth 65536 in
set_option maxHeartbeats 4000000 in
theorem own_oA {p : Program} {l : Launch} {e : Env} {s : State} {m : MethodId} {args : Array Value} {below : List Frame} {meth : Method} {c : Code} {T0 : State} {locs : List Loc} {Z : State} {a0 : Array Value} {h0 : Heap} {n0 : Nat} {hB : Heap} (s12 : Slot) (d1 d2 rb : Addr) (us mm t pv n j : Int32) (kr : ClassId) (nm : Int32) (acc : List Int32) (X0 : Stand p l e ({ frames := 2, cells := 2, slots := 8, locals := 32 } : Room) s m args below meth c T0 locs 1 4) (hx : p.tables.exec = Jvm.exec) (hZ : Z.Warmed39 s.vm) (hw : ∀ d ∈ tables_1, d.before a0 Z = true) (hby : c.code = prog_19_method_2_code) (hml : c.maxLocals = 13) (hown : s.vm.findClass "com/example/sukima/sukima/catalog/Index" = some m.cls) (e0 : T0.heap = h0) (N0 : Fr n0 locs) (Vr : Arv Z h0 rb kr .int nm (acc.map Value.int) (.int 0)) (Yr : Exa Z h0 rb "[I") (gr : n0 ≤ rb) (K : Keep hB h0 []) (szr : hB.size ≤ rb) (hus : us.toNatClampNeg = acc.length) (hin : ¬ us < 0 ∧ us < nm) :
    own_To p l e ({ frames := 2, cells := 2, slots := 8, locals := 32 } : Room) s m args below meth c T0 (mkF m 91 #[.val (.ref d1), .val (.ref d2), .val (.ref rb), .val (.int us), .val (.ref d2), .val (.int mm), .val (.int t), .val (.int pv), .val (.int (0 : Int32)), .val (.ref d1), .val (.int n), .val (.int j), s12] []) (fun T' g' L kq zq => g' = (mkF m 24 #[.val (.ref d1), .val (.ref d2), .val (.ref rb), .val (.int (us + (1 : Int32))), .val (.ref d2), .val (.int mm), .val (.int (t + (1 : Int32))), .val (.int pv), .val (.int (0 : Int32)), .val (.ref d1), .val (.int n), .val (.int j), s12] []) ∧ kq = 1 ∧ zq = 4 ∧ Fr n0 L ∧ (Keep hB T'.heap [] ∧ Arv Z T'.heap rb kr .int nm ((acc ++ [pv]).map Value.int) (.int 0) ∧ Exa Z T'.heap rb "[I")) := by
  refine own_go (T1 := T0) (g1 := (mkF m 93 #[.val (.ref d1), .val (.ref d2), .val (.ref rb), .val (.int us), .val (.ref d2), .val (.int mm), .val (.int t), .val (.int pv), .val (.int (0 : Int32)), .val (.ref d1), .val (.int n), .val (.int j), s12] [(.int (0 : Int32))])) (fun _ k => XS.iload X0.here hx rfl (hb hby dkc_91) rfl k) ?_
  refine own_go (T1 := T0) (g1 := (mkF m 96 #[.val (.ref d1), .val (.ref d2), .val (.ref rb), .val (.int us), .val (.ref d2), .val (.int mm), .val (.int t), .val (.int pv), .val (.int (0 : Int32)), .val (.ref d1), .val (.int n), .val (.int j), s12] [])) (fun _ k => XS.ifNo X0.here hx rfl (hb hby dkc_93) rfl ((if0 _ _).trans (teq (rfl : (0 : Int32) = (0 : Int32))).2) k) ?_
  refine own_go (T1 := T0) (g1 := (mkF m 97 #[.val (.ref d1), .val (.ref d2), .val (.ref rb), .val (.int us), .val (.ref d2), .val (.int mm), .val (.int t), .val (.int pv), .val (.int (0 : Int32)), .val (.ref d1), .val (.int n), .val (.int j), s12] [(.ref rb)])) (fun _ k => XS.aloadN X0.here hx rfl (hb hby dkc_96) rfl rfl k) ?_
  refine own_go (T1 := T0) (g1 := (mkF m 98 #[.val (.ref d1), .val (.ref d2), .val (.ref rb), .val (.int us), .val (.ref d2), .val (.int mm), .val (.int t), .val (.int pv), .val (.int (0 : Int32)), .val (.ref d1), .val (.int n), .val (.int j), s12] [(.int us), (.ref rb)])) (fun _ k => XS.iloadN X0.here hx rfl (hb hby dkc_97) rfl k) ?_
  refine own_go (T1 := T0) (g1 := (mkF m 100 #[.val (.ref d1), .val (.ref d2), .val (.ref rb), .val (.int us), .val (.ref d2), .val (.int mm), .val (.int t), .val (.int pv), .val (.int (0 : Int32)), .val (.ref d1), .val (.int n), .val (.int j), s12] [(.int pv), (.int us), (.ref rb)])) (fun _ k => XS.iload X0.here hx rfl (hb hby dkc_98) rfl k) ?_
  obtain ⟨T1, h1, L1, X1, e1, V1, N1, K1, Y1, st1⟩ := own_putIY X0 hx hZ e0 Vr Yr N0 gr K szr us pv hus hin (g := (mkF m 100 #[.val (.ref d1), .val (.ref d2), .val (.ref rb), .val (.int us), .val (.ref d2), .val (.int mm), .val (.int t), .val (.int pv), .val (.int (0 : Int32)), .val (.ref d1), .val (.int n), .val (.int j), s12] [(.int pv), (.int us), (.ref rb)])) rfl rfl (hb hby dkc_100)
  refine own_go (T1 := T1) (g1 := (mkF m 101 #[.val (.ref d1), .val (.ref d2), .val (.ref rb), .val (.int us), .val (.ref d2), .val (.int mm), .val (.int t), .val (.int pv), .val (.int (0 : Int32)), .val (.ref d1), .val (.int n), .val (.int j), s12] [])) (fun t k => st1 t k) ?_
  refine own_go (T1 := T1) (g1 := (mkF m 104 #[.val (.ref d1), .val (.ref d2), .val (.ref rb), .val (.int (us + (1 : Int32))), .val (.ref d2), .val (.int mm), .val (.int t), .val (.int pv), .val (.int (0 : Int32)), .val (.ref d1), .val (.int n), .val (.int j), s12] [])) (fun _ k => XS.iinc X1.here hx rfl (hb hby dkc_101) rfl (l' := #[.val (.ref d1), .val (.ref d2), .val (.ref rb), .val (.int (us + (1 : Int32))), .val (.ref d2), .val (.int mm), .val (.int t), .val (.int pv), .val (.int (0 : Int32)), .val (.ref d1), .val (.int n), .val (.int j), s12]) rfl k) ?_
  refine own_go (T1 := T1) (g1 := (mkF m 107 #[.val (.ref d1), .val (.ref d2), .val (.ref rb), .val (.int (us + (1 : Int32))), .val (.ref d2), .val (.int mm), .val (.int (t + (1 : Int32))), .val (.int pv), .val (.int (0 : Int32)), .val (.ref d1), .val (.int n), .val (.int j), s12] [])) (fun _ k => XS.iinc X1.here hx rfl (hb hby dkc_104) rfl (l' := #[.val (.ref d1), .val (.ref d2), .val (.ref rb), .val (.int (us + (1 : Int32))), .val (.ref d2), .val (.int mm), .val (.int (t + (1 : Int32))), .val (.int pv), .val (.int (0 : Int32)), .val (.ref d1), .val (.int n), .val (.int j), s12]) rfl k) ?_
  refine own_go (T1 := T1) (g1 := (mkF m 24 #[.val (.ref d1), .val (.ref d2), .val (.ref rb), .val (.int (us + (1 : Int32))), .val (.ref d2), .val (.int mm), .val (.int (t + (1 : Int32))), .val (.int pv), .val (.int (0 : Int32)), .val (.ref d1), .val (.int n), .val (.int j), s12] [])) (fun _ k => XS.goto X1.here hx rfl (pc0 := 107) (pc' := 24) rfl (hb hby dkc_107) (by decide) (by decide) k) ?_
  exact ⟨T1, _, _, _, _, X1, ⟨rfl, rfl, rfl, N1, by rw [e1]; exact ⟨K1, V1, Y1⟩⟩, fun _ k => k⟩
/-! keyColumns' loops -/
def own_has (pv : Int32) : List Int32 → Bool → Bool
  | [], hb => hb
  | a :: r, hb => own_has pv r (hb || decide (a = pv))
def own_new (cols : List Int32) : List Int32 → List Int32
  | [] => []
  | p :: r => if own_has p cols false = true then own_new cols r else p :: own_new cols r
theorem own_nle (cols : List Int32) : ∀ pks : List Int32, (own_new cols pks).length ≤ pks.length
  | [] => Nat.le_refl _
  | p :: r => by have := own_nle cols r; unfold own_new; split <;> simp <;> omega
theorem own_kle (cols pks : List Int32) : (cols ++ own_new cols pks).length ≤ cols.length + pks.length := by have := own_nle cols pks; simp; omega
theorem own_klen (cols pks : List Int32) (hc : cols.length ≤ 2) (hp : pks.length ≤ 2) : (cols ++ own_new cols pks).length ≤ 4 := by have := own_kle cols pks; omega
section OwnKey
variable {p : Program} {l : Launch} {e : Env} {s : State} {m : MethodId} {args : Array Value} {below : List Frame} {meth : Method} {c : Code} {Z : State} {a0 : Array Value} {n0 : Nat}
theorem own_kLoop {h0 : Heap} (s0 s1 s2 s3 s4 s5 s6 : Slot) (d1 : Addr) (kd : ClassId) (pv : Int32) (cols : List Int32) (hc : cols.length ≤ 2) (hx : p.tables.exec = Jvm.exec) (hZ : Z.Warmed39 s.vm) (hw : ∀ d ∈ tables_1, d.before a0 Z = true) (hby : c.code = prog_19_method_2_code) (hml : c.maxLocals = 13) (hown : s.vm.findClass "com/example/sukima/sukima/catalog/Index" = some m.cls)
    (Vc : Arv Z h0 d1 kd .int (Int32.ofNat cols.length) (cols.map Value.int) (.int 0)) :
    ∀ (r pre : List Int32) (hb' : Bool) (s12 : Slot) (T0 : State) (locs : List Loc), cols = pre ++ r → One s12 → Stand p l e ({ frames := 2, cells := 2, slots := 8, locals := 32 } : Room) s m args below meth c T0 locs 1 4 → T0.heap = h0 → Fr n0 locs →
      own_To p l e ({ frames := 2, cells := 2, slots := 8, locals := 32 } : Room) s m args below meth c T0 (mkF m 52 #[s0, s1, s2, s3, s4, s5, s6, .val (.int pv), .val (.int (own_b hb')), .val (.ref d1), .val (.int (Int32.ofNat cols.length)), .val (.int (Int32.ofNat pre.length)), s12] []) (fun T' g' L kq zq => ∃ s12' : Slot, g' = mkF m 91 #[s0, s1, s2, s3, s4, s5, s6, .val (.int pv), .val (.int (own_b (own_has pv r hb'))), .val (.ref d1), .val (.int (Int32.ofNat cols.length)), .val (.int (Int32.ofNat cols.length)), s12'] [] ∧ One s12' ∧ kq = 1 ∧ zq = 4 ∧ Fr n0 L ∧ T'.heap = h0) := by
  intro r
  induction r with
  | nil =>
    intro pre hb' s12 T0 locs hlp h12 X0 e0 N0
    rw [List.append_nil] at hlp; subst hlp
    refine own_then (own_kO s0 s1 s2 s3 s4 s5 s6 s12 d1 kd pv (own_b hb') (Int32.ofNat cols.length) (Int32.ofNat cols.length) (cols.map Value.int) X0 hx hZ hw hby hml hown e0 N0 Vc Int32.lt_irrefl) ?_
    rintro T' g' L kq zq X' ⟨rfl, rfl, rfl, N', e'⟩
    exact ⟨T', _, _, _, _, X', ⟨s12, rfl, h12, rfl, rfl, N', e'⟩, fun _ k => k⟩
  | cons a r ih =>
    intro pre hb' s12 T0 locs hlp h12 X0 e0 N0
    have hlen : pre.length < cols.length := by rw [hlp]; simp
    have h8 := own_lt8 pre.length (by omega) cols.length (by omega)
    have hat : (cols.map Value.int).getD (Int32.ofNat pre.length).toNatClampNeg (.int 0) = .int a := by rw [hlp]; exact own_nth pre a r (by omega)
    have hidx : Int32.ofNat (pre ++ [a]).length = Int32.ofNat pre.length + (1 : Int32) := by rw [own_inc]; simp
    have hnext : ∀ (hb2 : Bool) (T' : State) (L : List Loc), Stand p l e ({ frames := 2, cells := 2, slots := 8, locals := 32 } : Room) s m args below meth c T' L 1 4 → Fr n0 L → T'.heap = h0 → _ := fun hb2 T' L X' N' e' => ih (pre ++ [a]) hb2 (.val (.int a)) T' L (by rw [hlp]; simp) (One.val rfl) X' e' N'
    rw [hidx] at hnext
    cases hb' with
    | true =>
      refine own_then (own_kA s0 s1 s2 s3 s4 s5 s6 s12 d1 kd pv (Int32.ofNat cols.length) (Int32.ofNat pre.length) a (cols.map Value.int) X0 hx hZ hw hby hml hown e0 N0 Vc ⟨h8.2.2, h8.1 hlen⟩ hat h12) ?_
      rintro T' g' L kq zq X' ⟨rfl, rfl, rfl, N', e'⟩
      exact hnext true T' L X' N' e'
    | false =>
      by_cases hap : a = pv
      · refine own_then (own_kB s0 s1 s2 s3 s4 s5 s6 s12 d1 kd pv (Int32.ofNat cols.length) (Int32.ofNat pre.length) a (cols.map Value.int) X0 hx hZ hw hby hml hown e0 N0 Vc ⟨h8.2.2, h8.1 hlen⟩ hat h12 hap) ?_
        rintro T' g' L kq zq X' ⟨rfl, rfl, rfl, N', e'⟩
        have e1 : own_has pv (a :: r) false = own_has pv r true := by rw [own_has, decide_eq_true hap]; rfl
        rw [e1]
        exact hnext true T' L X' N' e'
      · refine own_then (own_kN s0 s1 s2 s3 s4 s5 s6 s12 d1 kd pv (Int32.ofNat cols.length) (Int32.ofNat pre.length) a (cols.map Value.int) X0 hx hZ hw hby hml hown e0 N0 Vc ⟨h8.2.2, h8.1 hlen⟩ hat h12 hap) ?_
        rintro T' g' L kq zq X' ⟨rfl, rfl, rfl, N', e'⟩
        have e1 : own_has pv (a :: r) false = own_has pv r false := by rw [own_has, decide_eq_false hap]; rfl
        rw [e1]
        exact hnext false T' L X' N' e'
theorem own_oLoop {hB : Heap} (d1 d2 rb : Addr) (kd ke kr : ClassId) (cols pks : List Int32) (hc : cols.length ≤ 2) (hp : pks.length ≤ 2) (hx : p.tables.exec = Jvm.exec) (hZ : Z.Warmed39 s.vm) (hw : ∀ d ∈ tables_1, d.before a0 Z = true) (hby : c.code = prog_19_method_2_code) (hml : c.maxLocals = 13) (hown : s.vm.findClass "com/example/sukima/sukima/catalog/Index" = some m.cls)
    (Vc : Arv Z hB d1 kd .int (Int32.ofNat cols.length) (cols.map Value.int) (.int 0)) (Ve : Arv Z hB d2 ke .int (Int32.ofNat pks.length) (pks.map Value.int) (.int 0)) (szr : hB.size ≤ rb) (gr : n0 ≤ rb) :
    ∀ (r pre acc : List Int32) (s7 s8 s9 s10 s11 s12 : Slot) (T0 : State) (h : Heap) (locs : List Loc), pks = pre ++ r → acc.length ≤ cols.length + pre.length → One s7 → One s8 → One s9 → One s10 → One s11 → One s12 → Stand p l e ({ frames := 2, cells := 2, slots := 8, locals := 32 } : Room) s m args below meth c T0 locs 1 4 → T0.heap = h → Fr n0 locs → Keep hB h [] → Arv Z h rb kr .int (Int32.ofNat (cols.length + pks.length)) (acc.map Value.int) (.int 0) → Exa Z h rb "[I" →
      own_To p l e ({ frames := 2, cells := 2, slots := 8, locals := 32 } : Room) s m args below meth c T0 (mkF m 24 #[.val (.ref d1), .val (.ref d2), .val (.ref rb), .val (.int (Int32.ofNat acc.length)), .val (.ref d2), .val (.int (Int32.ofNat pks.length)), .val (.int (Int32.ofNat pre.length)), s7, s8, s9, s10, s11, s12] []) (fun T' g' L kq zq => ∃ (t' : Int32) (s7 s8 s9 s10 s11 s12 : Slot), g' = mkF m 110 #[.val (.ref d1), .val (.ref d2), .val (.ref rb), .val (.int (Int32.ofNat (acc ++ own_new cols r).length)), .val (.ref d2), .val (.int (Int32.ofNat pks.length)), .val (.int t'), s7, s8, s9, s10, s11, s12] [] ∧ kq = 1 ∧ zq = 4 ∧ Fr n0 L ∧ Keep hB T'.heap [] ∧ Arv Z T'.heap rb kr .int (Int32.ofNat (cols.length + pks.length)) ((acc ++ own_new cols r).map Value.int) (.int 0) ∧ Exa Z T'.heap rb "[I") := by
  intro r
  induction r with
  | nil =>
    intro pre acc s7 s8 s9 s10 s11 s12 T0 h locs hlp hacc o7 o8 o9 o10 o11 o12 X0 e0 N0 K Vr Yr
    rw [List.append_nil] at hlp; subst hlp
    refine own_then (own_oO s7 s8 s9 s10 s11 s12 d1 d2 rb (Int32.ofNat acc.length) (Int32.ofNat pks.length) (Int32.ofNat pks.length) X0 hx hZ hw hby hml hown e0 N0 Int32.lt_irrefl) ?_
    rintro T' g' L kq zq X' ⟨rfl, rfl, rfl, N', e'⟩
    refine ⟨T', _, _, _, _, X', ⟨Int32.ofNat pks.length, s7, s8, s9, s10, s11, s12, ?_, rfl, rfl, N', by rw [e']; exact K, ?_, by rw [e']; exact Yr⟩, fun _ k => k⟩
    · rw [own_new, List.append_nil]
    · rw [own_new, List.append_nil, e']; exact Vr
  | cons pv r ih =>
    intro pre acc s7 s8 s9 s10 s11 s12 T0 h locs hlp hacc o7 o8 o9 o10 o11 o12 X0 e0 N0 K Vr Yr
    have hlen : pre.length < pks.length := by rw [hlp]; simp
    have h8 := own_lt8 pre.length (by omega) pks.length (by omega)
    have hat : (pks.map Value.int).getD (Int32.ofNat pre.length).toNatClampNeg (.int 0) = .int pv := by rw [hlp]; exact own_nth pre pv r (by omega)
    have hidx : Int32.ofNat pre.length + (1 : Int32) = Int32.ofNat (pre ++ [pv]).length := by rw [own_inc]; simp
    refine own_then (own_oT s7 s8 s9 s10 s11 s12 d1 d2 rb kd ke (Int32.ofNat acc.length) (Int32.ofNat pks.length) (Int32.ofNat pre.length) pv (Int32.ofNat cols.length) (cols.map Value.int) (pks.map Value.int) X0 hx hZ hw hby hml hown e0 N0 (Vc.keep K nin0) (Ve.keep K nin0) ⟨h8.2.2, h8.1 hlen⟩ hat o7 o8 o9 o10 o11) ?_
    rintro T1 g1 L1 kq zq X1 ⟨rfl, rfl, rfl, N1, e1⟩
    refine own_then (own_kLoop (.val (.ref d1)) (.val (.ref d2)) (.val (.ref rb)) (.val (.int (Int32.ofNat acc.length))) (.val (.ref d2)) (.val (.int (Int32.ofNat pks.length))) (.val (.int (Int32.ofNat pre.length))) d1 kd pv cols hc hx hZ hw hby hml hown (Vc.keep K nin0) cols [] false s12 T1 L1 rfl o12 X1 e1 N1) ?_
    rintro T2 g2 L2 kq zq X2 ⟨s12', rfl, o12', rfl, rfl, N2, e2⟩
    cases hh : own_has pv cols false with
    | true =>
      refine own_then (own_oK s12' d1 d2 rb (Int32.ofNat acc.length) (Int32.ofNat pks.length) (Int32.ofNat pre.length) pv (Int32.ofNat cols.length) (Int32.ofNat cols.length) X2 hx hZ hw hby hml hown e2 N2) ?_
      rintro T3 g3 L3 kq zq X3 ⟨rfl, rfl, rfl, N3, e3⟩
      have := ih (pre ++ [pv]) acc (.val (.int pv)) (.val (.int (1 : Int32))) (.val (.ref d1)) (.val (.int (Int32.ofNat cols.length))) (.val (.int (Int32.ofNat cols.length))) s12' T3 h L3 (by rw [hlp]; simp) (by simp; omega) (One.val rfl) (One.val rfl) (One.val rfl) (One.val rfl) (One.val rfl) o12' X3 e3 N3 K Vr Yr
      rw [own_new, if_pos hh, hidx]
      exact this
    | false =>
      have h9 := own_lt8 acc.length (by omega) (cols.length + pks.length) (by omega)
      refine own_then (own_oA (hB := hB) s12' d1 d2 rb (Int32.ofNat acc.length) (Int32.ofNat pks.length) (Int32.ofNat pre.length) pv (Int32.ofNat cols.length) (Int32.ofNat cols.length) kr (Int32.ofNat (cols.length + pks.length)) acc X2 hx hZ hw hby hml hown e2 N2 Vr Yr gr K szr (own_nat8 _ (by omega)) ⟨h9.2.2, h9.1 (by omega)⟩) ?_
      rintro T3 g3 L3 kq zq X3 ⟨rfl, rfl, rfl, N3, K3, V3, Y3⟩
      have := ih (pre ++ [pv]) (acc ++ [pv]) (.val (.int pv)) (.val (.int (0 : Int32))) (.val (.ref d1)) (.val (.int (Int32.ofNat cols.length))) (.val (.int (Int32.ofNat cols.length))) s12' T3 _ L3 (by rw [hlp]; simp) (by simp; omega) (One.val rfl) (One.val rfl) (One.val rfl) (One.val rfl) (One.val rfl) o12' X3 rfl N3 K3 V3 Y3
      have hacc2 : Int32.ofNat acc.length + (1 : Int32) = Int32.ofNat (acc ++ [pv]).length := by rw [own_inc]; simp
      rw [own_new, if_neg (by rw [hh]; decide), hidx, hacc2, List.append_cons acc pv (own_new cols r)]
      exact this
end OwnKey

def QK (Z : State) (cols pks : List Int32) (h0 : Heap) (n0 : Nat) (v : Option Value) (h : Heap) (L : List Loc) : Prop := ∃ (b : Addr) (k : ClassId), v = some (.ref b) ∧ Fr n0 L ∧ Keep h0 h [] ∧ h0.size ≤ b ∧ n0 ≤ b ∧ Arv Z h b k .int (Int32.ofNat (cols ++ own_new cols pks).length) ((cols ++ own_new cols pks).map Value.int) (.int 0) ∧ Exa Z h b "[I"
theorem own_pd_AII_AI : parseMethodDescriptor "([II)[I" = some ⟨[(.array .int), .int], some (.array .int)⟩ := by decide +kernel
theorem dkc_0 : decode prog_19_method_2_code 0 = .ok (.aload_n 0, 1) := by decide +kernel
theorem dkc_1 : decode prog_19_method_2_code 1 = .ok (.aload_n 0, 1) := by decide +kernel
theorem dkc_2 : decode prog_19_method_2_code 2 = .ok (.arraylength, 1) := by decide +kernel
theorem dkc_3 : decode prog_19_method_2_code 3 = .ok (.aload_n 1, 1) := by decide +kernel
theorem dkc_4 : decode prog_19_method_2_code 4 = .ok (.arraylength, 1) := by decide +kernel
theorem dkc_5 : decode prog_19_method_2_code 5 = .ok (.iadd, 1) := by decide +kernel
theorem dkc_6 : decode prog_19_method_2_code 6 = .ok (.invokestatic 67, 3) := by decide +kernel
theorem dkc_9 : decode prog_19_method_2_code 9 = .ok (.astore_n 2, 1) := by decide +kernel
theorem dkc_10 : decode prog_19_method_2_code 10 = .ok (.aload_n 0, 1) := by decide +kernel
theorem dkc_11 : decode prog_19_method_2_code 11 = .ok (.arraylength, 1) := by decide +kernel
theorem dkc_12 : decode prog_19_method_2_code 12 = .ok (.istore_n 3, 1) := by decide +kernel
theorem dkc_13 : decode prog_19_method_2_code 13 = .ok (.aload_n 1, 1) := by decide +kernel
theorem dkc_14 : decode prog_19_method_2_code 14 = .ok (.astore 4, 2) := by decide +kernel
theorem dkc_16 : decode prog_19_method_2_code 16 = .ok (.aload 4, 2) := by decide +kernel
theorem dkc_18 : decode prog_19_method_2_code 18 = .ok (.arraylength, 1) := by decide +kernel
theorem dkc_19 : decode prog_19_method_2_code 19 = .ok (.istore 5, 2) := by decide +kernel
theorem dkc_21 : decode prog_19_method_2_code 21 = .ok (.iconst 0, 1) := by decide +kernel
theorem dkc_22 : decode prog_19_method_2_code 22 = .ok (.istore 6, 2) := by decide +kernel
theorem dkc_110 : decode prog_19_method_2_code 110 = .ok (.aload_n 2, 1) := by decide +kernel
theorem dkc_111 : decode prog_19_method_2_code 111 = .ok (.iload_n 3, 1) := by decide +kernel
theorem dkc_112 : decode prog_19_method_2_code 112 = .ok (.invokestatic 67, 3) := by decide +kernel
theorem dkc_115 : decode prog_19_method_2_code 115 = .ok (.areturn, 1) := by decide +kernel
theorem ef_rmkc (m : MethodId) (d1 : Addr) (d2 : Addr) : entryFrame m #[(.ref d1), (.ref d2)] 13 = mkF m 0 #[.val (.ref d1), .val (.ref d2), .unset, .unset, .unset, .unset, .unset, .unset, .unset, .unset, .unset, .unset, .unset] [] := by first | (simp [entryFrame, mkF, argsToLocals, Value.category]; done) | rfl
set_option maxRecDepth 65536 in
set_option maxHeartbeats 4000000 in
theorem rmkc (l : Launch) (Z : State) (a0 : Array Value) (hw : ∀ d ∈ tables_1, d.before a0 Z = true) (ws : List Jvm.Cond) (d1 d2 : Addr) (kd ke : ClassId) (cols pks : List Int32) (h0 : Heap) (n0 : Nat) (Z0 : n0 ≤ h0.size) (hc : cols.length ≤ 2) (hp : pks.length ≤ 2) (Vc : Arv Z h0 d1 kd .int (Int32.ofNat cols.length) (cols.map Value.int) (.int 0)) (Ve : Arv Z h0 d2 ke .int (Int32.ofNat pks.length) (pks.map Value.int) (.int 0)) (Ea : Exa Z h0 d1 "[I") :
    MetFree l (⟨"com/example/sukima/sukima/catalog/Index", "keyColumns", "([I[I)[I"⟩ : MethodName) (head1 (Jvm.Cond.code (⟨"com/example/sukima/sukima/catalog/Index", "keyColumns", "([I[I)[I"⟩ : MethodName) prog_19_method_2_code 13 (some (.array .int)) :: ws) ({ frames := 2, cells := 2, slots := 8, locals := 32 } : Room)) (fun a U => a = #[(.ref d1), (.ref d2)] ∧ Z.Warmed39 U.vm ∧ U.heap = h0) (fun _ _ _ _ _ => True) (fun _ U o U' => ∃ v L, o = .returned v ∧ QK Z cols pks h0 n0 v U'.heap L ∧ FrameEnd U o U' L ({ frames := 2, cells := 2, slots := 8, locals := 32 } : Room).cells ({ frames := 2, cells := 2, slots := 8, locals := 32 } : Room).slots) := by
  refine MetFree.of_bodySF (plainFor_of_name (by first | (simp [plainName, overriddenIn]; done) | decide +kernel)) hisR ?_
  intro p e s m args below meth c s₁ Bd hml0 hP hK
  obtain ⟨rfl, hZ, hh⟩ := hP
  have hx := Bd.exec
  have hby := Bd.bytes
  have hml : c.maxLocals = 13 := hml0
  have hown : s.vm.findClass "com/example/sukima/sukima/catalog/Index" = some m.cls := findClass_of_methodNamed Bd.named
  have hnm := (name_of_methodNamed Bd.named Bd.method).1
  have X0 : Stand p l e ({ frames := 2, cells := 2, slots := 8, locals := 32 } : Room) s m #[(.ref d1), (.ref d2)] below meth c s₁ [] 0 0 := Stand.of_body Bd
  have e0 : s₁.heap = h0 := by rw [← hh, Bd.state]; rfl
  have N0 := Fr.nil n0
  have main : own_To p l e ({ frames := 2, cells := 2, slots := 8, locals := 32 } : Room) s m #[(.ref d1), (.ref d2)] below meth c s₁ (mkF m 0 #[.val (.ref d1), .val (.ref d2), .unset, .unset, .unset, .unset, .unset, .unset, .unset, .unset, .unset, .unset, .unset] []) (fun T' g' L kq zq => ∃ pcr Ls z, g' = mkF m pcr Ls [.ref z] ∧ decode c.code pcr = .ok (.areturn, 1) ∧ kq = 2 ∧ zq = 8 ∧ QK Z cols pks h0 n0 (some (.ref z)) T'.heap L) := by
    refine own_go (T1 := s₁) (g1 := (mkF m 1 #[.val (.ref d1), .val (.ref d2), .unset, .unset, .unset, .unset, .unset, .unset, .unset, .unset, .unset, .unset, .unset] [(.ref d1)])) (fun _ k => XS.aloadN X0.here hx rfl (hb hby dkc_0) rfl rfl k) ?_
    refine own_go (T1 := s₁) (g1 := (mkF m 2 #[.val (.ref d1), .val (.ref d2), .unset, .unset, .unset, .unset, .unset, .unset, .unset, .unset, .unset, .unset, .unset] [(.ref d1), (.ref d1)])) (fun _ k => XS.aloadN X0.here hx rfl (hb hby dkc_1) rfl rfl k) ?_
    obtain ⟨cl1, Ar1, -, S1, N1, -, -⟩ := id Vc
    refine own_go (T1 := s₁) (g1 := (mkF m 3 #[.val (.ref d1), .val (.ref d2), .unset, .unset, .unset, .unset, .unset, .unset, .unset, .unset, .unset, .unset, .unset] [(.int (Int32.ofNat cols.length)), (.ref d1)])) (fun _ k => X0.arraylength hx (by rw [e0]; exact Ar1.1) (State.isArrayOf_alike hZ.alike Ar1.2.1) (g := (mkF m 2 #[.val (.ref d1), .val (.ref d2), .unset, .unset, .unset, .unset, .unset, .unset, .unset, .unset, .unset, .unset, .unset] [(.ref d1), (.ref d1)])) rfl rfl (hb hby dkc_2) _ (by rw [len_of S1 N1]; exact k)) ?_
    refine own_go (T1 := s₁) (g1 := (mkF m 4 #[.val (.ref d1), .val (.ref d2), .unset, .unset, .unset, .unset, .unset, .unset, .unset, .unset, .unset, .unset, .unset] [(.ref d2), (.int (Int32.ofNat cols.length)), (.ref d1)])) (fun _ k => XS.aloadN X0.here hx rfl (hb hby dkc_3) rfl rfl k) ?_
    obtain ⟨cl2, Ar2, -, S2, N2, -, -⟩ := id Ve
    refine own_go (T1 := s₁) (g1 := (mkF m 5 #[.val (.ref d1), .val (.ref d2), .unset, .unset, .unset, .unset, .unset, .unset, .unset, .unset, .unset, .unset, .unset] [(.int (Int32.ofNat pks.length)), (.int (Int32.ofNat cols.length)), (.ref d1)])) (fun _ k => X0.arraylength hx (by rw [e0]; exact Ar2.1) (State.isArrayOf_alike hZ.alike Ar2.2.1) (g := (mkF m 4 #[.val (.ref d1), .val (.ref d2), .unset, .unset, .unset, .unset, .unset, .unset, .unset, .unset, .unset, .unset, .unset] [(.ref d2), (.int (Int32.ofNat cols.length)), (.ref d1)])) rfl rfl (hb hby dkc_4) _ (by rw [len_of S2 N2]; exact k)) ?_
    refine own_go (T1 := s₁) (g1 := (mkF m 6 #[.val (.ref d1), .val (.ref d2), .unset, .unset, .unset, .unset, .unset, .unset, .unset, .unset, .unset, .unset, .unset] [(.int ((Int32.ofNat cols.length) + (Int32.ofNat pks.length))), (.ref d1)])) (fun _ k => XS.iadd X0.here hx rfl (hb hby dkc_5) rfl k) ?_
    rw [← Int32.ofNat_add]
    obtain ⟨_, _, ⟨T3, L3, k3, n3⟩, -, X3, ⟨Lc3, hQ3, l3, y3, z3⟩, st3⟩ := Jvm.LawKit.callS X0 hx (y := (⟨"java/util/Arrays", "copyOf", "([II)[I"⟩ : MethodName)) hown (mvT hZ (hw _ (List.mem_of_getElem? (i := 121) rfl))) (mvT hZ (hw _ (List.mem_of_getElem? (i := 122) rfl))) (mvT hZ (hw _ (List.mem_of_getElem? (i := 123) rfl))) (mvT hZ (hw _ (List.mem_of_getElem? (i := 124) rfl))) (by decide) (backOf (W := 0) (rmci l Z a0 hw [] d1 kd cols.length (cols.length + pks.length) cols h0 n0 Z0 (by omega) (by omega) (Nat.le_refl _) Vc Ea) hZ (hw _ (List.mem_of_getElem? (i := 124) rfl)) (hw _ (List.mem_of_getElem? (i := 123) rfl)) (by decide) (by decide)) (g := (mkF m 6 #[.val (.ref d1), .val (.ref d2), .unset, .unset, .unset, .unset, .unset, .unset, .unset, .unset, .unset, .unset, .unset] [(.int (Int32.ofNat (cols.length + pks.length))), (.ref d1)])) rfl (by rw [hml]; rfl) (argsL := [(.ref d1), (.int (Int32.ofNat (cols.length + pks.length)))]) (rest := []) (lenOf own_pd_AII_AI rfl) rfl (by show 2 * 0 + _ ≤ _; exact Nat.le_of_eq rfl) (hb hby dkc_6) (fun _ _ => ⟨rfl, e0, (by decide : 0 + 1 ≤ _), (by decide : 0 + 4 ≤ _)⟩)
    dsimp only [Pt.U, Pt.locs, Pt.cells, Pt.slots] at X3 l3 y3 z3 st3 hQ3
    subst l3 y3 z3
    obtain ⟨b3, kb3, rfl, N3q, K3, sz3, ge3, Vb3, Yb3⟩ := hQ3
    have N3 := Fr.app N0 N3q
    refine own_go (T1 := T3) (g1 := (mkF m 9 #[.val (.ref d1), .val (.ref d2), .unset, .unset, .unset, .unset, .unset, .unset, .unset, .unset, .unset, .unset, .unset] [(.ref b3)])) (fun t k => st3 t k) ?_
    have Vc_3 : Arv Z T3.heap d1 kd .int (Int32.ofNat cols.length) (cols.map Value.int) (.int 0) := Vc.keep K3 nin0
    have Ve_3 : Arv Z T3.heap d2 ke .int (Int32.ofNat pks.length) (pks.map Value.int) (.int 0) := Ve.keep K3 nin0
    have Ea_3 : Exa Z T3.heap d1 "[I" := Ea.keep K3
    refine own_go (T1 := T3) (g1 := (mkF m 10 #[.val (.ref d1), .val (.ref d2), .val (.ref b3), .unset, .unset, .unset, .unset, .unset, .unset, .unset, .unset, .unset, .unset] [])) (fun _ k => XS.astoreN X3.here hx rfl (hb hby dkc_9) rfl rfl (l' := #[.val (.ref d1), .val (.ref d2), .val (.ref b3), .unset, .unset, .unset, .unset, .unset, .unset, .unset, .unset, .unset, .unset]) rfl k) ?_
    refine own_go (T1 := T3) (g1 := (mkF m 11 #[.val (.ref d1), .val (.ref d2), .val (.ref b3), .unset, .unset, .unset, .unset, .unset, .unset, .unset, .unset, .unset, .unset] [(.ref d1)])) (fun _ k => XS.aloadN X3.here hx rfl (hb hby dkc_10) rfl rfl k) ?_
    obtain ⟨cl4, Ar4, -, S4, N4, -, -⟩ := id Vc_3
    refine own_go (T1 := T3) (g1 := (mkF m 12 #[.val (.ref d1), .val (.ref d2), .val (.ref b3), .unset, .unset, .unset, .unset, .unset, .unset, .unset, .unset, .unset, .unset] [(.int (Int32.ofNat cols.length))])) (fun _ k => X3.arraylength hx Ar4.1 (State.isArrayOf_alike hZ.alike Ar4.2.1) (g := (mkF m 11 #[.val (.ref d1), .val (.ref d2), .val (.ref b3), .unset, .unset, .unset, .unset, .unset, .unset, .unset, .unset, .unset, .unset] [(.ref d1)])) rfl rfl (hb hby dkc_11) _ (by rw [len_of S4 N4]; exact k)) ?_
    refine own_go (T1 := T3) (g1 := (mkF m 13 #[.val (.ref d1), .val (.ref d2), .val (.ref b3), .val (.int (Int32.ofNat cols.length)), .unset, .unset, .unset, .unset, .unset, .unset, .unset, .unset, .unset] [])) (fun _ k => XS.istoreN X3.here hx rfl (hb hby dkc_12) rfl (l' := #[.val (.ref d1), .val (.ref d2), .val (.ref b3), .val (.int (Int32.ofNat cols.length)), .unset, .unset, .unset, .unset, .unset, .unset, .unset, .unset, .unset]) rfl k) ?_
    refine own_go (T1 := T3) (g1 := (mkF m 14 #[.val (.ref d1), .val (.ref d2), .val (.ref b3), .val (.int (Int32.ofNat cols.length)), .unset, .unset, .unset, .unset, .unset, .unset, .unset, .unset, .unset] [(.ref d2)])) (fun _ k => XS.aloadN X3.here hx rfl (hb hby dkc_13) rfl rfl k) ?_
    refine own_go (T1 := T3) (g1 := (mkF m 16 #[.val (.ref d1), .val (.ref d2), .val (.ref b3), .val (.int (Int32.ofNat cols.length)), .val (.ref d2), .unset, .unset, .unset, .unset, .unset, .unset, .unset, .unset] [])) (fun _ k => XS.astore X3.here hx rfl (hb hby dkc_14) rfl rfl (l' := #[.val (.ref d1), .val (.ref d2), .val (.ref b3), .val (.int (Int32.ofNat cols.length)), .val (.ref d2), .unset, .unset, .unset, .unset, .unset, .unset, .unset, .unset]) rfl k) ?_
    refine own_go (T1 := T3) (g1 := (mkF m 18 #[.val (.ref d1), .val (.ref d2), .val (.ref b3), .val (.int (Int32.ofNat cols.length)), .val (.ref d2), .unset, .unset, .unset, .unset, .unset, .unset, .unset, .unset] [(.ref d2)])) (fun _ k => XS.aload X3.here hx rfl (hb hby dkc_16) rfl rfl k) ?_
    obtain ⟨cl5, Ar5, -, S5, N5, -, -⟩ := id Ve_3
    refine own_go (T1 := T3) (g1 := (mkF m 19 #[.val (.ref d1), .val (.ref d2), .val (.ref b3), .val (.int (Int32.ofNat cols.length)), .val (.ref d2), .unset, .unset, .unset, .unset, .unset, .unset, .unset, .unset] [(.int (Int32.ofNat pks.length))])) (fun _ k => X3.arraylength hx Ar5.1 (State.isArrayOf_alike hZ.alike Ar5.2.1) (g := (mkF m 18 #[.val (.ref d1), .val (.ref d2), .val (.ref b3), .val (.int (Int32.ofNat cols.length)), .val (.ref d2), .unset, .unset, .unset, .unset, .unset, .unset, .unset, .unset] [(.ref d2)])) rfl rfl (hb hby dkc_18) _ (by rw [len_of S5 N5]; exact k)) ?_
    refine own_go (T1 := T3) (g1 := (mkF m 21 #[.val (.ref d1), .val (.ref d2), .val (.ref b3), .val (.int (Int32.ofNat cols.length)), .val (.ref d2), .val (.int (Int32.ofNat pks.length)), .unset, .unset, .unset, .unset, .unset, .unset, .unset] [])) (fun _ k => XS.istore X3.here hx rfl (hb hby dkc_19) rfl (l' := #[.val (.ref d1), .val (.ref d2), .val (.ref b3), .val (.int (Int32.ofNat cols.length)), .val (.ref d2), .val (.int (Int32.ofNat pks.length)), .unset, .unset, .unset, .unset, .unset, .unset, .unset]) rfl k) ?_
    refine own_go (T1 := T3) (g1 := (mkF m 22 #[.val (.ref d1), .val (.ref d2), .val (.ref b3), .val (.int (Int32.ofNat cols.length)), .val (.ref d2), .val (.int (Int32.ofNat pks.length)), .unset, .unset, .unset, .unset, .unset, .unset, .unset] [(.int (0 : Int32))])) (fun _ k => XS.iconst X3.here hx rfl (hb hby dkc_21) k) ?_
    refine own_go (T1 := T3) (g1 := (mkF m 24 #[.val (.ref d1), .val (.ref d2), .val (.ref b3), .val (.int (Int32.ofNat cols.length)), .val (.ref d2), .val (.int (Int32.ofNat pks.length)), .val (.int (0 : Int32)), .unset, .unset, .unset, .unset, .unset, .unset] [])) (fun _ k => XS.istore X3.here hx rfl (hb hby dkc_22) rfl (l' := #[.val (.ref d1), .val (.ref d2), .val (.ref b3), .val (.int (Int32.ofNat cols.length)), .val (.ref d2), .val (.int (Int32.ofNat pks.length)), .val (.int (0 : Int32)), .unset, .unset, .unset, .unset, .unset, .unset]) rfl k) ?_
    refine own_then (own_oLoop d1 d2 b3 kd ke kb3 cols pks hc hp hx hZ hw hby hml hown Vc Ve sz3 ge3 pks [] cols .unset .unset .unset .unset .unset .unset T3 _ _ rfl (by simp) One.u One.u One.u One.u One.u One.u X3 rfl N3 K3 Vb3 Yb3) ?_
    rintro T' g' L' kq zq X' ⟨t', s7, s8, s9, s10, s11, s12, rfl, rfl, rfl, N', K', V', Y'⟩
    refine own_go (T1 := T') (g1 := (mkF m 111 #[.val (.ref d1), .val (.ref d2), .val (.ref b3), .val (.int (Int32.ofNat (cols ++ own_new cols pks).length)), .val (.ref d2), .val (.int (Int32.ofNat pks.length)), .val (.int t'), s7, s8, s9, s10, s11, s12] [(.ref b3)])) (fun _ k => XS.aloadN X'.here hx rfl (hb hby dkc_110) rfl rfl k) ?_
    refine own_go (T1 := T') (g1 := (mkF m 112 #[.val (.ref d1), .val (.ref d2), .val (.ref b3), .val (.int (Int32.ofNat (cols ++ own_new cols pks).length)), .val (.ref d2), .val (.int (Int32.ofNat pks.length)), .val (.int t'), s7, s8, s9, s10, s11, s12] [(.int (Int32.ofNat (cols ++ own_new cols pks).length)), (.ref b3)])) (fun _ k => XS.iloadN X'.here hx rfl (hb hby dkc_111) rfl k) ?_
    obtain ⟨_, _, ⟨T6, L6, k6, n6⟩, -, X6, ⟨Lc6, hQ6, l6, y6, z6⟩, st6⟩ := Jvm.LawKit.callS X' hx (y := (⟨"java/util/Arrays", "copyOf", "([II)[I"⟩ : MethodName)) hown (mvT hZ (hw _ (List.mem_of_getElem? (i := 121) rfl))) (mvT hZ (hw _ (List.mem_of_getElem? (i := 122) rfl))) (mvT hZ (hw _ (List.mem_of_getElem? (i := 123) rfl))) (mvT hZ (hw _ (List.mem_of_getElem? (i := 124) rfl))) (by decide) (backOf (W := 0) (rmci l Z a0 hw [] b3 kb3 (cols.length + pks.length) (cols ++ own_new cols pks).length (cols ++ own_new cols pks) T'.heap n0 (Nat.le_trans Z0 K'.1) (by omega) (own_klen cols pks hc hp) (own_kle cols pks) V' Y') hZ (hw _ (List.mem_of_getElem? (i := 124) rfl)) (hw _ (List.mem_of_getElem? (i := 123) rfl)) (by decide) (by decide)) (g := (mkF m 112 #[.val (.ref d1), .val (.ref d2), .val (.ref b3), .val (.int (Int32.ofNat (cols ++ own_new cols pks).length)), .val (.ref d2), .val (.int (Int32.ofNat pks.length)), .val (.int t'), s7, s8, s9, s10, s11, s12] [(.int (Int32.ofNat (cols ++ own_new cols pks).length)), (.ref b3)])) rfl (by rw [hml]; rfl) (argsL := [(.ref b3), (.int (Int32.ofNat (cols ++ own_new cols pks).length))]) (rest := []) (lenOf own_pd_AII_AI rfl) rfl (by show 2 * 0 + _ ≤ _; exact Nat.le_of_eq rfl) (hb hby dkc_112) (fun _ _ => ⟨rfl, rfl, (by decide : 1 + 1 ≤ _), (by decide : 4 + 4 ≤ _)⟩)
    dsimp only [Pt.U, Pt.locs, Pt.cells, Pt.slots] at X6 l6 y6 z6 st6 hQ6
    subst l6 y6 z6
    obtain ⟨b6, kb6, rfl, N6q, K6, sz6, ge6, Vb6, Yb6⟩ := hQ6
    have N6 := Fr.app N' N6q
    refine own_go (T1 := T6) (g1 := (mkF m 115 #[.val (.ref d1), .val (.ref d2), .val (.ref b3), .val (.int (Int32.ofNat (cols ++ own_new cols pks).length)), .val (.ref d2), .val (.int (Int32.ofNat pks.length)), .val (.int t'), s7, s8, s9, s10, s11, s12] [(.ref b6)])) (fun t k => st6 t k) ?_
    exact ⟨T6, _, _, _, _, X6, ⟨115, _, b6, rfl, (hb hby dkc_115), rfl, rfl, ⟨b6, kb6, rfl, N6, K'.trans K6 (fun _ q => nomatch q), Nat.le_trans K'.1 sz6, ge6, Vb6, Yb6⟩⟩, fun _ k => k⟩
  obtain ⟨T', g', L', k', n', X', ⟨pcr, Ls, z, rfl, hd, rfl, rfl, hQ⟩, st⟩ := main
  obtain ⟨fs, hr, hrun, hended, hW, hsame⟩ := X'.leave (v := (some (.ref z))) (fun h => by rw [Bd.returns] at h; cases h)
  refine ⟨_, _, castTop (ef_rmkc m d1 d2) (st _ ?_), hrun, hended, _, _, rfl, hQ, ⟨_, rfl⟩, hW, hsame.mono (by decide) (by decide)⟩
  exact own_retA X' hx Bd.returns rfl hd hr
theorem own_v4 (c1 : Addr) {a : Int32} (h : ¬ a < (0 : Int32) ∧ a < (4 : Int32)) : ([.ref c1, .ref c1, .ref c1, .ref c1] : List Value).getD a.toNatClampNeg .null = .ref c1 := by
  obtain ⟨h1, h2⟩ := h
  rw [Int32.lt_iff_toInt_lt] at h1 h2
  have e0 : (0 : Int32).toInt = 0 := rfl
  have e4 : (4 : Int32).toInt = 4 := rfl
  have h3 : a.toNatClampNeg < 4 := by simp only [Int32.toNatClampNeg]; omega
  generalize a.toNatClampNeg = k at h3
  have h4 : k = 0 ∨ k = 1 ∨ k = 2 ∨ k = 3 := by omega
  rcases h4 with rfl | rfl | rfl | rfl <;> rfl

def own_I1 (Z : State) (h : Heap) (n0 : Nat) (a1 d2 d3 ls eb c1 kc kt : Addr) (kk kkt kb kz ke : ClassId) (mc nz np : Int32) (lst : List Int32) (vt vz vp : List Value) : Prop :=
  Exa Z h a1 "com/example/sukima/sukima/catalog/Index" ∧ Fld Z h a1 "com/example/sukima/sukima/catalog/Index" "keyColumns" "[I" (.ref kc) ∧ Fld Z h a1 "com/example/sukima/sukima/catalog/Index" "keyTypes" "[Lcom/example/sukima/sukima/sql/DataType;" (.ref kt) ∧ Fld Z h a1 "com/example/sukima/sukima/catalog/Index" "descending" "[Z" .null ∧ Fld Z h a1 "com/example/sukima/sukima/catalog/Index" "primaryKeyPlaces" "[I" .null ∧ Arv Z h kc kk .int (Int32.ofNat lst.length) (lst.map Value.int) (.int 0) ∧ Arv Z h kt kkt (.object "com/example/sukima/sukima/sql/DataType") (Int32.ofNat lst.length) vt .null ∧ own_AL Z h n0 ls (.ref eb) 4 mc ∧ Arv Z h eb kb (.object "java/lang/Object") (10 : Int32) [.ref c1, .ref c1, .ref c1, .ref c1] .null ∧ Exa Z h c1 "com/example/sukima/sukima/catalog/Column" ∧ Fld Z h c1 "com/example/sukima/sukima/catalog/Column" "type" "Lcom/example/sukima/sukima/sql/DataType;" .null ∧ Arv Z h d2 kz .boolean nz vz (.int 0) ∧ Exa Z h d2 "[Z" ∧ Arv Z h d3 ke .int np vp (.int 0) ∧ n0 ≤ a1 ∧ n0 ≤ kt ∧ kc ≠ kt ∧ ls ≠ kt ∧ eb ≠ kt ∧ c1 ≠ kt ∧ d2 ≠ kt ∧ d3 ≠ kt ∧ a1 ≠ kt
theorem own_pd__LcomxexamplexsukimaxsukimaxsqlxDataTypex : parseMethodDescriptor "()Lcom/example/sukima/sukima/sql/DataType;" = some ⟨[], some (.object "com/example/sukima/sukima/sql/DataType")⟩ := by decide +kernel
theorem dix_50 : decode prog_19_method_1_code 50 = .ok (.iload 7, 2) := by decide +kernel
theorem dix_52 : decode prog_19_method_1_code 52 = .ok (.aload_n 0, 1) := by decide +kernel
theorem dix_53 : decode prog_19_method_1_code 53 = .ok (.getfield 30, 3) := by decide +kernel
theorem dix_56 : decode prog_19_method_1_code 56 = .ok (.arraylength, 1) := by decide +kernel
theorem dix_57 : decode prog_19_method_1_code 57 = .ok (.if_icmp .ge 36, 3) := by decide +kernel
theorem dix_60 : decode prog_19_method_1_code 60 = .ok (.aload_n 0, 1) := by decide +kernel
theorem dix_61 : decode prog_19_method_1_code 61 = .ok (.getfield 34, 3) := by decide +kernel
theorem dix_64 : decode prog_19_method_1_code 64 = .ok (.iload 7, 2) := by decide +kernel
theorem dix_66 : decode prog_19_method_1_code 66 = .ok (.aload 6, 2) := by decide +kernel
theorem dix_68 : decode prog_19_method_1_code 68 = .ok (.aload_n 0, 1) := by decide +kernel
theorem dix_69 : decode prog_19_method_1_code 69 = .ok (.getfield 30, 3) := by decide +kernel
theorem dix_72 : decode prog_19_method_1_code 72 = .ok (.iload 7, 2) := by decide +kernel
theorem dix_74 : decode prog_19_method_1_code 74 = .ok (.iaload, 1) := by decide +kernel
theorem dix_75 : decode prog_19_method_1_code 75 = .ok (.invokeinterface 38 2, 5) := by decide +kernel
theorem dix_80 : decode prog_19_method_1_code 80 = .ok (.checkcast 44, 3) := by decide +kernel
theorem dix_83 : decode prog_19_method_1_code 83 = .ok (.invokevirtual 46, 3) := by decide +kernel
theorem dix_86 : decode prog_19_method_1_code 86 = .ok (.aastore, 1) := by decide +kernel
theorem dix_87 : decode prog_19_method_1_code 87 = .ok (.iinc 7 1, 3) := by decide +kernel
theorem dix_90 : decode prog_19_method_1_code 90 = .ok (.goto (-40), 3) := by decide +kernel
set_option maxRecDepth 65536 in
set_option maxHeartbeats 4000000 in
theorem own_x1 {p : Program} {l : Launch} {e : Env} {s : State} {m : MethodId} {args : Array Value} {below : List Frame} {meth : Method} {c : Code} {T0 : State} {locs : List Loc} {Z : State} {a0 : Array Value} {h0 : Heap} {n0 : Nat} (a1 nm1 d1 d2 d3 ls eb c1 kc kt : Addr) (kk kkt kb kz ke : ClassId) (mc i nz np : Int32) (lst : List Int32) (vt vz vp : List Value) (a : Int32) (X0 : Stand p l e ({ frames := 3, cells := 6, slots := 24, locals := 57 } : Room) s m args below meth c T0 locs 4 16) (hx : p.tables.exec = Jvm.exec) (hZ : Z.Warmed39 s.vm) (hw : ∀ d ∈ tables_1, d.before a0 Z = true) (hby : c.code = prog_19_method_1_code) (hml : c.maxLocals = 8) (hown : s.vm.findClass "com/example/sukima/sukima/catalog/Index" = some m.cls) (hnm : meth.name = "<init>") (e0 : T0.heap = h0) (N0 : Fr n0 locs) (HI : own_I1 Z h0 n0 a1 d2 d3 ls eb c1 kc kt kk kkt kb kz ke mc nz np lst vt vz vp) (hin : ¬ i < 0 ∧ i < (Int32.ofNat lst.length)) (hat : (lst.map Value.int).getD i.toNatClampNeg (.int 0) = .int a) (hr : ¬ a < (0 : Int32) ∧ a < (4 : Int32)) :
    own_To p l e ({ frames := 3, cells := 6, slots := 24, locals := 57 } : Room) s m args below meth c T0 (mkF m 50 #[.val (.ref a1), .val (.ref nm1), .val (.int (0 : Int32)), .val (.ref d1), .val (.ref d2), .val (.ref d3), .val (.ref ls), .val (.int i)] []) (fun T' g' L kq zq => g' = (mkF m 50 #[.val (.ref a1), .val (.ref nm1), .val (.int (0 : Int32)), .val (.ref d1), .val (.ref d2), .val (.ref d3), .val (.ref ls), .val (.int (i + (1 : Int32)))] []) ∧ kq = 4 ∧ zq = 16 ∧ Fr n0 L ∧ ∃ vt' : List Value, own_I1 Z T'.heap n0 a1 d2 d3 ls eb c1 kc kt kk kkt kb kz ke mc nz np lst vt' vz vp) := by
  have Z0 : n0 ≤ h0.size := Nat.le_of_lt (Nat.lt_of_le_of_lt HI.2.2.2.2.2.2.2.2.2.2.2.2.2.2.1 HI.1.lt)
  obtain ⟨Ex, Fk, Ft, Fd, Fp, Vk, Vt, HA, Vb, Cx, Ct, Vz, Yz, Vp, ga, gt, m1, m2, m3, m4, m5, m6, m7⟩ := HI
  obtain ⟨Lx, Le, Ls, Lm, gl⟩ := HA
  refine own_go (T1 := T0) (g1 := (mkF m 52 #[.val (.ref a1), .val (.ref nm1), .val (.int (0 : Int32)), .val (.ref d1), .val (.ref d2), .val (.ref d3), .val (.ref ls), .val (.int i)] [(.int i)])) (fun _ k => XS.iload X0.here hx rfl (hb hby dix_50) rfl k) ?_
  refine own_go (T1 := T0) (g1 := (mkF m 53 #[.val (.ref a1), .val (.ref nm1), .val (.int (0 : Int32)), .val (.ref d1), .val (.ref d2), .val (.ref d3), .val (.ref ls), .val (.int i)] [(.ref a1), (.int i)])) (fun _ k => XS.aloadN X0.here hx rfl (hb hby dix_52) rfl rfl k) ?_
  obtain ⟨T1, X1, e1, st1⟩ := getF X0 hx hZ hown (host := "") (Or.inl (hw _ (List.mem_of_getElem? (i := 127) rfl))) Via.refl e0 Fk (g := (mkF m 53 #[.val (.ref a1), .val (.ref nm1), .val (.int (0 : Int32)), .val (.ref d1), .val (.ref d2), .val (.ref d3), .val (.ref ls), .val (.int i)] [(.ref a1), (.int i)])) rfl rfl (hb hby dix_53)
  refine own_go (T1 := T1) (g1 := (mkF m 56 #[.val (.ref a1), .val (.ref nm1), .val (.int (0 : Int32)), .val (.ref d1), .val (.ref d2), .val (.ref d3), .val (.ref ls), .val (.int i)] [(.ref kc), (.int i)])) (fun t k => st1 t k) ?_
  obtain ⟨cl2, Ar2, -, S2, N2, -, -⟩ := id Vk
  refine own_go (T1 := T1) (g1 := (mkF m 57 #[.val (.ref a1), .val (.ref nm1), .val (.int (0 : Int32)), .val (.ref d1), .val (.ref d2), .val (.ref d3), .val (.ref ls), .val (.int i)] [(.int (Int32.ofNat lst.length)), (.int i)])) (fun _ k => X1.arraylength hx (by rw [e1]; exact Ar2.1) (State.isArrayOf_alike hZ.alike Ar2.2.1) (g := (mkF m 56 #[.val (.ref a1), .val (.ref nm1), .val (.int (0 : Int32)), .val (.ref d1), .val (.ref d2), .val (.ref d3), .val (.ref ls), .val (.int i)] [(.ref kc), (.int i)])) rfl rfl (hb hby dix_56) _ (by rw [len_of S2 N2]; exact k)) ?_
  refine own_go (T1 := T1) (g1 := (mkF m 60 #[.val (.ref a1), .val (.ref nm1), .val (.int (0 : Int32)), .val (.ref d1), .val (.ref d2), .val (.ref d3), .val (.ref ls), .val (.int i)] [])) (fun _ k => XS.icmpNo X1.here hx rfl (hb hby dix_57) rfl (tlt (hin.2 : i < (Int32.ofNat lst.length))).2.1 k) ?_
  refine own_go (T1 := T1) (g1 := (mkF m 61 #[.val (.ref a1), .val (.ref nm1), .val (.int (0 : Int32)), .val (.ref d1), .val (.ref d2), .val (.ref d3), .val (.ref ls), .val (.int i)] [(.ref a1)])) (fun _ k => XS.aloadN X1.here hx rfl (hb hby dix_60) rfl rfl k) ?_
  obtain ⟨T3, X3, e3, st3⟩ := getF X1 hx hZ hown (host := "") (Or.inl (hw _ (List.mem_of_getElem? (i := 131) rfl))) Via.refl e1 Ft (g := (mkF m 61 #[.val (.ref a1), .val (.ref nm1), .val (.int (0 : Int32)), .val (.ref d1), .val (.ref d2), .val (.ref d3), .val (.ref ls), .val (.int i)] [(.ref a1)])) rfl rfl (hb hby dix_61)
  refine own_go (T1 := T3) (g1 := (mkF m 64 #[.val (.ref a1), .val (.ref nm1), .val (.int (0 : Int32)), .val (.ref d1), .val (.ref d2), .val (.ref d3), .val (.ref ls), .val (.int i)] [(.ref kt)])) (fun t k => st3 t k) ?_
  refine own_go (T1 := T3) (g1 := (mkF m 66 #[.val (.ref a1), .val (.ref nm1), .val (.int (0 : Int32)), .val (.ref d1), .val (.ref d2), .val (.ref d3), .val (.ref ls), .val (.int i)] [(.int i), (.ref kt)])) (fun _ k => XS.iload X3.here hx rfl (hb hby dix_64) rfl k) ?_
  refine own_go (T1 := T3) (g1 := (mkF m 68 #[.val (.ref a1), .val (.ref nm1), .val (.int (0 : Int32)), .val (.ref d1), .val (.ref d2), .val (.ref d3), .val (.ref ls), .val (.int i)] [(.ref ls), (.int i), (.ref kt)])) (fun _ k => XS.aload X3.here hx rfl (hb hby dix_66) rfl rfl k) ?_
  refine own_go (T1 := T3) (g1 := (mkF m 69 #[.val (.ref a1), .val (.ref nm1), .val (.int (0 : Int32)), .val (.ref d1), .val (.ref d2), .val (.ref d3), .val (.ref ls), .val (.int i)] [(.ref a1), (.ref ls), (.int i), (.ref kt)])) (fun _ k => XS.aloadN X3.here hx rfl (hb hby dix_68) rfl rfl k) ?_
  obtain ⟨T4, X4, e4, st4⟩ := getF X3 hx hZ hown (host := "") (Or.inl (hw _ (List.mem_of_getElem? (i := 127) rfl))) Via.refl e3 Fk (g := (mkF m 69 #[.val (.ref a1), .val (.ref nm1), .val (.int (0 : Int32)), .val (.ref d1), .val (.ref d2), .val (.ref d3), .val (.ref ls), .val (.int i)] [(.ref a1), (.ref ls), (.int i), (.ref kt)])) rfl rfl (hb hby dix_69)
  refine own_go (T1 := T4) (g1 := (mkF m 72 #[.val (.ref a1), .val (.ref nm1), .val (.int (0 : Int32)), .val (.ref d1), .val (.ref d2), .val (.ref d3), .val (.ref ls), .val (.int i)] [(.ref kc), (.ref ls), (.int i), (.ref kt)])) (fun t k => st4 t k) ?_
  refine own_go (T1 := T4) (g1 := (mkF m 74 #[.val (.ref a1), .val (.ref nm1), .val (.int (0 : Int32)), .val (.ref d1), .val (.ref d2), .val (.ref d3), .val (.ref ls), .val (.int i)] [(.int i), (.ref kc), (.ref ls), (.int i), (.ref kt)])) (fun _ k => XS.iload X4.here hx rfl (hb hby dix_72) rfl k) ?_
  obtain ⟨cl5, Ar5, -, S5, -, H5, -⟩ := id Vk
  refine own_go (T1 := T4) (g1 := (mkF m 75 #[.val (.ref a1), .val (.ref nm1), .val (.int (0 : Int32)), .val (.ref d1), .val (.ref d2), .val (.ref d3), .val (.ref ls), .val (.int i)] [(.int a), (.ref ls), (.int i), (.ref kt)])) (fun _ k => X4.iaload hx (j := i) (v := (.int a)) (by rw [e4]; exact Ar5.1) (State.isArrayOf_alike hZ.alike Ar5.2.1) Ar5.2.2 (inb_of S5 hin) (H5.at (inb_of S5 hin) hat) (g := (mkF m 74 #[.val (.ref a1), .val (.ref nm1), .val (.int (0 : Int32)), .val (.ref d1), .val (.ref d2), .val (.ref d3), .val (.ref ls), .val (.int i)] [(.int i), (.ref kc), (.ref ls), (.int i), (.ref kt)])) rfl rfl (hb hby dix_74) _ k) ?_
  obtain ⟨cq6, kq6, q6a, q6b, q6c⟩ := isOf hZ e4 Lx
  obtain ⟨_, _, ⟨T6, L6, k6, n6⟩, -, X6, ⟨Lc6, hQ6, l6, y6, z6⟩, st6⟩ := X4.interfaceBack hx (xi := (⟨"java/util/List", "get", "(I)Ljava/lang/Object;"⟩ : MethodName)) (y := (⟨"java/util/ArrayList", "get", "(I)Ljava/lang/Object;"⟩ : MethodName)) hown (mvT hZ (hw _ (List.mem_of_getElem? (i := 156) rfl))) (mvT hZ (hw _ (List.mem_of_getElem? (i := 157) rfl))) (mvT hZ (hw _ (List.mem_of_getElem? (i := 158) rfl))) (mvT hZ (hw _ (List.mem_of_getElem? (i := 159) rfl))) (mvT hZ (hw _ (List.mem_of_getElem? (i := 160) rfl))) (mvT hZ (hw _ (List.mem_of_getElem? (i := 161) rfl))) (mvT hZ (hw _ (List.mem_of_getElem? (i := 162) rfl))) (mvT hZ (hw _ (List.mem_of_getElem? (i := 67) rfl))) (by decide) (backOf (W := 2) (rmgt l Z a0 hw [] ls a c1 eb kb mc h0 n0 Z0 ⟨Lx, Le, Ls, Lm, gl⟩ Vb hr (own_v4 c1 hr)) hZ (hw _ (List.mem_of_getElem? (i := 163) rfl)) (hw _ (List.mem_of_getElem? (i := 38) rfl)) (by decide) (by decide)) q6a q6b q6c (g := (mkF m 75 #[.val (.ref a1), .val (.ref nm1), .val (.int (0 : Int32)), .val (.ref d1), .val (.ref d2), .val (.ref d3), .val (.ref ls), .val (.int i)] [(.int a), (.ref ls), (.int i), (.ref kt)])) rfl (by rw [hml]; rfl) (Steps.refl _) (argsL := [(.int a)]) (rest := [(.int i), (.ref kt)]) (lenOf own_pd_I_LjavaxlangxObjectx rfl) rfl (by show 2 * 0 + _ ≤ _; exact Nat.le_of_eq rfl) (hb hby dix_75) (fun _ _ => ⟨rfl, e4, (by decide : 4 + 0 ≤ _), (by decide : 16 + 0 ≤ _)⟩)
  dsimp only [Pt.U, Pt.locs, Pt.cells, Pt.slots] at X6 l6 y6 z6 st6 hQ6
  subst l6 y6 z6
  obtain ⟨rfl, N6q, e6⟩ := hQ6
  have N6 := Fr.app N0 N6q
  refine own_go (T1 := T6) (g1 := (mkF m 80 #[.val (.ref a1), .val (.ref nm1), .val (.int (0 : Int32)), .val (.ref d1), .val (.ref d2), .val (.ref d3), .val (.ref ls), .val (.int i)] [(.ref c1), (.int i), (.ref kt)])) (fun t k => st6.trans k) ?_
  obtain ⟨T7, X7, e7, st7⟩ := castY X6 hx hZ hown (hw _ (List.mem_of_getElem? (i := 177) rfl)) e6 (Ins.self Cx) (g := (mkF m 80 #[.val (.ref a1), .val (.ref nm1), .val (.int (0 : Int32)), .val (.ref d1), .val (.ref d2), .val (.ref d3), .val (.ref ls), .val (.int i)] [(.ref c1), (.int i), (.ref kt)])) rfl rfl (hb hby dix_80)
  refine own_go (T1 := T7) (g1 := (mkF m 83 #[.val (.ref a1), .val (.ref nm1), .val (.int (0 : Int32)), .val (.ref d1), .val (.ref d2), .val (.ref d3), .val (.ref ls), .val (.int i)] [(.ref c1), (.int i), (.ref kt)])) (fun t k => st7 t k) ?_
  obtain ⟨cq8, kq8, q8a, q8b, q8c⟩ := isOf hZ e7 Cx
  obtain ⟨_, _, ⟨T8, L8, k8, n8⟩, -, X8, ⟨Lc8, hQ8, l8, y8, z8⟩, st8⟩ := X7.virtualBack hx (y := (⟨"com/example/sukima/sukima/catalog/Column", "type", "()Lcom/example/sukima/sukima/sql/DataType;"⟩ : MethodName)) (z := (⟨"com/example/sukima/sukima/catalog/Column", "type", "()Lcom/example/sukima/sukima/sql/DataType;"⟩ : MethodName)) hown (mvT hZ (hw _ (List.mem_of_getElem? (i := 179) rfl))) (mvT hZ (hw _ (List.mem_of_getElem? (i := 180) rfl))) (notFace_of_selects (args := #[]) (mvT hZ (hw _ (List.mem_of_getElem? (i := 182) rfl)))) (mvT hZ (hw _ (List.mem_of_getElem? (i := 182) rfl))) (mvT hZ (hw _ (List.mem_of_getElem? (i := 181) rfl))) (by decide) (backOf (W := 2) (rmty l Z a0 hw [] c1 h0 n0 Z0 Ct) hZ (hw _ (List.mem_of_getElem? (i := 183) rfl)) (hw _ (List.mem_of_getElem? (i := 5) rfl)) (by decide) (by decide)) q8a q8c (g := (mkF m 83 #[.val (.ref a1), .val (.ref nm1), .val (.int (0 : Int32)), .val (.ref d1), .val (.ref d2), .val (.ref d3), .val (.ref ls), .val (.int i)] [(.ref c1), (.int i), (.ref kt)])) rfl (by rw [hml]; rfl) (Steps.refl _) (argsL := []) (rest := [(.int i), (.ref kt)]) (lenOf own_pd__LcomxexamplexsukimaxsukimaxsqlxDataTypex rfl) rfl (by show 2 * 0 + _ ≤ _; exact Nat.le_of_eq rfl) (hb hby dix_83) (fun _ _ => ⟨rfl, e7, (by decide : 4 + 0 ≤ _), (by decide : 16 + 0 ≤ _)⟩)
  dsimp only [Pt.U, Pt.locs, Pt.cells, Pt.slots] at X8 l8 y8 z8 st8 hQ8
  subst l8 y8 z8
  obtain ⟨rfl, N8q, e8⟩ := hQ8
  have N8 := Fr.app N6 N8q
  refine own_go (T1 := T8) (g1 := (mkF m 86 #[.val (.ref a1), .val (.ref nm1), .val (.int (0 : Int32)), .val (.ref d1), .val (.ref d2), .val (.ref d3), .val (.ref ls), .val (.int i)] [.null, (.int i), (.ref kt)])) (fun t k => st8.trans k) ?_
  have Vp9 : Arv Z h0 kt kkt (.object "com/example/sukima/sukima/sql/DataType") (Int32.ofNat lst.length) (vt ++ List.replicate (i.toNatClampNeg + 1) Value.null) .null := Vt.pad (pad_rep _ _ _)
  obtain ⟨cl9, Ar9, q9, S9, Nn9, H9, G9⟩ := id Vp9
  obtain ⟨T9, h9, X9, e9, W9, st9⟩ := stR X8 hx hZ e8 Ar9 (j := i) (inb_of S9 hin) rfl (Or.inl rfl) (g := (mkF m 86 #[.val (.ref a1), .val (.ref nm1), .val (.int (0 : Int32)), .val (.ref d1), .val (.ref d2), .val (.ref d3), .val (.ref ls), .val (.int i)] [.null, (.int i), (.ref kt)])) rfl rfl (hb hby dix_86)
  have Ex_9 : Exa Z h9 a1 "com/example/sukima/sukima/catalog/Index" := Ex.wr W9
  have Fk_9 : Fld Z h9 a1 "com/example/sukima/sukima/catalog/Index" "keyColumns" "[I" (.ref kc) := Fk.other W9 (Or.inl m7)
  have Ft_9 : Fld Z h9 a1 "com/example/sukima/sukima/catalog/Index" "keyTypes" "[Lcom/example/sukima/sukima/sql/DataType;" (.ref kt) := Ft.other W9 (Or.inl m7)
  have Fd_9 : Fld Z h9 a1 "com/example/sukima/sukima/catalog/Index" "descending" "[Z" .null := Fd.other W9 (Or.inl m7)
  have Fp_9 : Fld Z h9 a1 "com/example/sukima/sukima/catalog/Index" "primaryKeyPlaces" "[I" .null := Fp.other W9 (Or.inl m7)
  have Vk_9 : Arv Z h9 kc kk .int (Int32.ofNat lst.length) (lst.map Value.int) (.int 0) := Vk.other W9 m1
  have Lx_9 : Exa Z h9 ls "java/util/ArrayList" := Lx.wr W9
  have Le_9 : Fld Z h9 ls "java/util/ArrayList" "elementData" "[Ljava/lang/Object;" (.ref eb) := Le.other W9 (Or.inl m2)
  have Ls_9 : Fld Z h9 ls "java/util/ArrayList" "size" "I" (.int (4 : Int32)) := Ls.other W9 (Or.inl m2)
  have Lm_9 : Fld Z h9 ls "java/util/AbstractList" "modCount" "I" (.int mc) := Lm.other W9 (Or.inl m2)
  have Vb_9 : Arv Z h9 eb kb (.object "java/lang/Object") (10 : Int32) [.ref c1, .ref c1, .ref c1, .ref c1] .null := Vb.other W9 m3
  have Cx_9 : Exa Z h9 c1 "com/example/sukima/sukima/catalog/Column" := Cx.wr W9
  have Ct_9 : Fld Z h9 c1 "com/example/sukima/sukima/catalog/Column" "type" "Lcom/example/sukima/sukima/sql/DataType;" .null := Ct.other W9 (Or.inl m4)
  have Vz_9 : Arv Z h9 d2 kz .boolean nz vz (.int 0) := Vz.other W9 m5
  have Yz_9 : Exa Z h9 d2 "[Z" := Yz.wr W9
  have Vp_9 : Arv Z h9 d3 ke .int np vp (.int 0) := Vp.other W9 m6
  have Vt_9 : Arv Z h9 kt kkt (.object "com/example/sukima/sukima/sql/DataType") (Int32.ofNat lst.length) ((vt ++ List.replicate (i.toNatClampNeg + 1) Value.null).set i.toNatClampNeg .null) .null := Arv.set Ar9 q9 S9 Nn9 H9 G9 rfl W9 i.toNatClampNeg rfl (by simp; omega)
  have Zs9 : n0 ≤ h9.size := Nat.le_trans Z0 (Keep.of_wr W9).1
  have N9 := Fr.snoc X9 N8 gt
  refine own_go (T1 := T9) (g1 := (mkF m 87 #[.val (.ref a1), .val (.ref nm1), .val (.int (0 : Int32)), .val (.ref d1), .val (.ref d2), .val (.ref d3), .val (.ref ls), .val (.int i)] [])) (fun t k => st9 t k) ?_
  refine own_go (T1 := T9) (g1 := (mkF m 90 #[.val (.ref a1), .val (.ref nm1), .val (.int (0 : Int32)), .val (.ref d1), .val (.ref d2), .val (.ref d3), .val (.ref ls), .val (.int (i + (1 : Int32)))] [])) (fun _ k => XS.iinc X9.here hx rfl (hb hby dix_87) rfl (l' := #[.val (.ref a1), .val (.ref nm1), .val (.int (0 : Int32)), .val (.ref d1), .val (.ref d2), .val (.ref d3), .val (.ref ls), .val (.int (i + (1 : Int32)))]) rfl k) ?_
  refine own_go (T1 := T9) (g1 := (mkF m 50 #[.val (.ref a1), .val (.ref nm1), .val (.int (0 : Int32)), .val (.ref d1), .val (.ref d2), .val (.ref d3), .val (.ref ls), .val (.int (i + (1 : Int32)))] [])) (fun _ k => XS.goto X9.here hx rfl (pc0 := 90) (pc' := 50) rfl (hb hby dix_90) (by decide) (by decide) k) ?_
  exact ⟨T9, _, _, _, _, X9, ⟨rfl, rfl, rfl, N9, _, (by rw [e9]; exact ⟨Ex_9, Fk_9, Ft_9, Fd_9, Fp_9, Vk_9, Vt_9, ⟨Lx_9, Le_9, Ls_9, Lm_9, gl⟩, Vb_9, Cx_9, Ct_9, Vz_9, Yz_9, Vp_9, ga, gt, m1, m2, m3, m4, m5, m6, m7⟩)⟩, fun _ k => k⟩
set_option maxRecDepth 65536 in
set_option maxHeartbeats 4000000 in
theorem own_x1o {p : Program} {l : Launch} {e : Env} {s : State} {m : MethodId} {args : Array Value} {below : List Frame} {meth : Method} {c : Code} {T0 : State} {locs : List Loc} {Z : State} {a0 : Array Value} {h0 : Heap} {n0 : Nat} (a1 nm1 d1 d2 d3 ls kc : Addr) (kk : ClassId) (i : Int32) (lst : List Int32) (X0 : Stand p l e ({ frames := 3, cells := 6, slots := 24, locals := 57 } : Room) s m args below meth c T0 locs 4 16) (hx : p.tables.exec = Jvm.exec) (hZ : Z.Warmed39 s.vm) (hw : ∀ d ∈ tables_1, d.before a0 Z = true) (hby : c.code = prog_19_method_1_code) (hml : c.maxLocals = 8) (hown : s.vm.findClass "com/example/sukima/sukima/catalog/Index" = some m.cls) (hnm : meth.name = "<init>") (e0 : T0.heap = h0) (N0 : Fr n0 locs) (Fk : Fld Z h0 a1 "com/example/sukima/sukima/catalog/Index" "keyColumns" "[I" (.ref kc)) (Vk : Arv Z h0 kc kk .int (Int32.ofNat lst.length) (lst.map Value.int) (.int 0)) (hge : ¬ (i < (Int32.ofNat lst.length))) :
    own_To p l e ({ frames := 3, cells := 6, slots := 24, locals := 57 } : Room) s m args below meth c T0 (mkF m 50 #[.val (.ref a1), .val (.ref nm1), .val (.int (0 : Int32)), .val (.ref d1), .val (.ref d2), .val (.ref d3), .val (.ref ls), .val (.int i)] []) (fun T' g' L kq zq => g' = (mkF m 93 #[.val (.ref a1), .val (.ref nm1), .val (.int (0 : Int32)), .val (.ref d1), .val (.ref d2), .val (.ref d3), .val (.ref ls), .val (.int i)] []) ∧ kq = 4 ∧ zq = 16 ∧ Fr n0 L ∧ T'.heap = h0) := by
  refine own_go (T1 := T0) (g1 := (mkF m 52 #[.val (.ref a1), .val (.ref nm1), .val (.int (0 : Int32)), .val (.ref d1), .val (.ref d2), .val (.ref d3), .val (.ref ls), .val (.int i)] [(.int i)])) (fun _ k => XS.iload X0.here hx rfl (hb hby dix_50) rfl k) ?_
  refine own_go (T1 := T0) (g1 := (mkF m 53 #[.val (.ref a1), .val (.ref nm1), .val (.int (0 : Int32)), .val (.ref d1), .val (.ref d2), .val (.ref d3), .val (.ref ls), .val (.int i)] [(.ref a1), (.int i)])) (fun _ k => XS.aloadN X0.here hx rfl (hb hby dix_52) rfl rfl k) ?_
  obtain ⟨T1, X1, e1, st1⟩ := getF X0 hx hZ hown (host := "") (Or.inl (hw _ (List.mem_of_getElem? (i := 127) rfl))) Via.refl e0 Fk (g := (mkF m 53 #[.val (.ref a1), .val (.ref nm1), .val (.int (0 : Int32)), .val (.ref d1), .val (.ref d2), .val (.ref d3), .val (.ref ls), .val (.int i)] [(.ref a1), (.int i)])) rfl rfl (hb hby dix_53)
  refine own_go (T1 := T1) (g1 := (mkF m 56 #[.val (.ref a1), .val (.ref nm1), .val (.int (0 : Int32)), .val (.ref d1), .val (.ref d2), .val (.ref d3), .val (.ref ls), .val (.int i)] [(.ref kc), (.int i)])) (fun t k => st1 t k) ?_
  obtain ⟨cl2, Ar2, -, S2, N2, -, -⟩ := id Vk
  refine own_go (T1 := T1) (g1 := (mkF m 57 #[.val (.ref a1), .val (.ref nm1), .val (.int (0 : Int32)), .val (.ref d1), .val (.ref d2), .val (.ref d3), .val (.ref ls), .val (.int i)] [(.int (Int32.ofNat lst.length)), (.int i)])) (fun _ k => X1.arraylength hx (by rw [e1]; exact Ar2.1) (State.isArrayOf_alike hZ.alike Ar2.2.1) (g := (mkF m 56 #[.val (.ref a1), .val (.ref nm1), .val (.int (0 : Int32)), .val (.ref d1), .val (.ref d2), .val (.ref d3), .val (.ref ls), .val (.int i)] [(.ref kc), (.int i)])) rfl rfl (hb hby dix_56) _ (by rw [len_of S2 N2]; exact k)) ?_
  refine own_go (T1 := T1) (g1 := (mkF m 93 #[.val (.ref a1), .val (.ref nm1), .val (.int (0 : Int32)), .val (.ref d1), .val (.ref d2), .val (.ref d3), .val (.ref ls), .val (.int i)] [])) (fun _ k => XS.icmpYes X1.here hx rfl (pc0 := 57) (pc' := 93) rfl (hb hby dix_57) rfl (flt (hge : ¬ (i < (Int32.ofNat lst.length)))).2.1 (by decide) (by decide) k) ?_
  exact ⟨T1, _, _, _, _, X1, ⟨rfl, rfl, rfl, N0, e1⟩, fun _ k => k⟩
def own_I2 (Z : State) (h : Heap) (n0 : Nat) (a1 d3 kc pp : Addr) (kk kp ke : ClassId) (lst pks : List Int32) (vpp : List Value) : Prop :=
  Exa Z h a1 "com/example/sukima/sukima/catalog/Index" ∧ Fld Z h a1 "com/example/sukima/sukima/catalog/Index" "keyColumns" "[I" (.ref kc) ∧ Fld Z h a1 "com/example/sukima/sukima/catalog/Index" "primaryKeyPlaces" "[I" (.ref pp) ∧ Arv Z h kc kk .int (Int32.ofNat lst.length) (lst.map Value.int) (.int 0) ∧ Arv Z h pp kp .int (Int32.ofNat pks.length) vpp (.int 0) ∧ Arv Z h d3 ke .int (Int32.ofNat pks.length) (pks.map Value.int) (.int 0) ∧ n0 ≤ a1 ∧ n0 ≤ pp ∧ a1 ≠ pp ∧ kc ≠ pp ∧ d3 ≠ pp
theorem own_pd_I_I : parseMethodDescriptor "(I)I" = some ⟨[.int], some .int⟩ := by decide +kernel
theorem dix_119 : decode prog_19_method_1_code 119 = .ok (.iload 7, 2) := by decide +kernel
theorem dix_121 : decode prog_19_method_1_code 121 = .ok (.aload 5, 2) := by decide +kernel
theorem dix_123 : decode prog_19_method_1_code 123 = .ok (.arraylength, 1) := by decide +kernel
theorem dix_124 : decode prog_19_method_1_code 124 = .ok (.if_icmp .ge 25, 3) := by decide +kernel
theorem dix_127 : decode prog_19_method_1_code 127 = .ok (.aload_n 0, 1) := by decide +kernel
theorem dix_128 : decode prog_19_method_1_code 128 = .ok (.getfield 60, 3) := by decide +kernel
theorem dix_131 : decode prog_19_method_1_code 131 = .ok (.iload 7, 2) := by decide +kernel
theorem dix_133 : decode prog_19_method_1_code 133 = .ok (.aload_n 0, 1) := by decide +kernel
theorem dix_134 : decode prog_19_method_1_code 134 = .ok (.aload 5, 2) := by decide +kernel
theorem dix_136 : decode prog_19_method_1_code 136 = .ok (.iload 7, 2) := by decide +kernel
theorem dix_138 : decode prog_19_method_1_code 138 = .ok (.iaload, 1) := by decide +kernel
theorem dix_139 : decode prog_19_method_1_code 139 = .ok (.invokevirtual 63, 3) := by decide +kernel
theorem dix_142 : decode prog_19_method_1_code 142 = .ok (.iastore, 1) := by decide +kernel
theorem dix_143 : decode prog_19_method_1_code 143 = .ok (.iinc 7 1, 3) := by decide +kernel
theorem dix_146 : decode prog_19_method_1_code 146 = .ok (.goto (-27), 3) := by decide +kernel
set_option maxRecDepth 65536 in
set_option maxHeartbeats 4000000 in
theorem own_x2 {p : Program} {l : Launch} {e : Env} {s : State} {m : MethodId} {args : Array Value} {below : List Frame} {meth : Method} {c : Code} {T0 : State} {locs : List Loc} {Z : State} {a0 : Array Value} {h0 : Heap} {n0 : Nat} (a1 nm1 d1 d2 d3 ls kc pp : Addr) (kk kp ke : ClassId) (i : Int32) (lst pks : List Int32) (vpp : List Value) (a : Int32) (X0 : Stand p l e ({ frames := 3, cells := 6, slots := 24, locals := 57 } : Room) s m args below meth c T0 locs 6 24) (hx : p.tables.exec = Jvm.exec) (hZ : Z.Warmed39 s.vm) (hw : ∀ d ∈ tables_1, d.before a0 Z = true) (hby : c.code = prog_19_method_1_code) (hml : c.maxLocals = 8) (hown : s.vm.findClass "com/example/sukima/sukima/catalog/Index" = some m.cls) (hnm : meth.name = "<init>") (e0 : T0.heap = h0) (N0 : Fr n0 locs) (HI : own_I2 Z h0 n0 a1 d3 kc pp kk kp ke lst pks vpp) (hl : lst.length ≤ 4) (hin : ¬ i < 0 ∧ i < (Int32.ofNat pks.length)) (hat : (pks.map Value.int).getD i.toNatClampNeg (.int 0) = .int a) :
    own_To p l e ({ frames := 3, cells := 6, slots := 24, locals := 57 } : Room) s m args below meth c T0 (mkF m 119 #[.val (.ref a1), .val (.ref nm1), .val (.int (0 : Int32)), .val (.ref d1), .val (.ref d2), .val (.ref d3), .val (.ref ls), .val (.int i)] []) (fun T' g' L kq zq => g' = (mkF m 119 #[.val (.ref a1), .val (.ref nm1), .val (.int (0 : Int32)), .val (.ref d1), .val (.ref d2), .val (.ref d3), .val (.ref ls), .val (.int (i + (1 : Int32)))] []) ∧ kq = 6 ∧ zq = 24 ∧ Fr n0 L ∧ ∃ vq : List Value, own_I2 Z T'.heap n0 a1 d3 kc pp kk kp ke lst pks vq) := by
  have Z0 : n0 ≤ h0.size := Nat.le_of_lt (Nat.lt_of_le_of_lt HI.2.2.2.2.2.2.1 HI.1.lt)
  obtain ⟨Ex, Fk, Fp, Vk, Vq, Vp, ga, gp, m1, m2, m3⟩ := HI
  refine own_go (T1 := T0) (g1 := (mkF m 121 #[.val (.ref a1), .val (.ref nm1), .val (.int (0 : Int32)), .val (.ref d1), .val (.ref d2), .val (.ref d3), .val (.ref ls), .val (.int i)] [(.int i)])) (fun _ k => XS.iload X0.here hx rfl (hb hby dix_119) rfl k) ?_
  refine own_go (T1 := T0) (g1 := (mkF m 123 #[.val (.ref a1), .val (.ref nm1), .val (.int (0 : Int32)), .val (.ref d1), .val (.ref d2), .val (.ref d3), .val (.ref ls), .val (.int i)] [(.ref d3), (.int i)])) (fun _ k => XS.aload X0.here hx rfl (hb hby dix_121) rfl rfl k) ?_
  obtain ⟨cl1, Ar1, -, S1, N1, -, -⟩ := id Vp
  refine own_go (T1 := T0) (g1 := (mkF m 124 #[.val (.ref a1), .val (.ref nm1), .val (.int (0 : Int32)), .val (.ref d1), .val (.ref d2), .val (.ref d3), .val (.ref ls), .val (.int i)] [(.int (Int32.ofNat pks.length)), (.int i)])) (fun _ k => X0.arraylength hx (by rw [e0]; exact Ar1.1) (State.isArrayOf_alike hZ.alike Ar1.2.1) (g := (mkF m 123 #[.val (.ref a1), .val (.ref nm1), .val (.int (0 : Int32)), .val (.ref d1), .val (.ref d2), .val (.ref d3), .val (.ref ls), .val (.int i)] [(.ref d3), (.int i)])) rfl rfl (hb hby dix_123) _ (by rw [len_of S1 N1]; exact k)) ?_
  refine own_go (T1 := T0) (g1 := (mkF m 127 #[.val (.ref a1), .val (.ref nm1), .val (.int (0 : Int32)), .val (.ref d1), .val (.ref d2), .val (.ref d3), .val (.ref ls), .val (.int i)] [])) (fun _ k => XS.icmpNo X0.here hx rfl (hb hby dix_124) rfl (tlt (hin.2 : i < (Int32.ofNat pks.length))).2.1 k) ?_
  refine own_go (T1 := T0) (g1 := (mkF m 128 #[.val (.ref a1), .val (.ref nm1), .val (.int (0 : Int32)), .val (.ref d1), .val (.ref d2), .val (.ref d3), .val (.ref ls), .val (.int i)] [(.ref a1)])) (fun _ k => XS.aloadN X0.here hx rfl (hb hby dix_127) rfl rfl k) ?_
  obtain ⟨T2, X2, e2, st2⟩ := getF X0 hx hZ hown (host := "") (Or.inl (hw _ (List.mem_of_getElem? (i := 144) rfl))) Via.refl e0 Fp (g := (mkF m 128 #[.val (.ref a1), .val (.ref nm1), .val (.int (0 : Int32)), .val (.ref d1), .val (.ref d2), .val (.ref d3), .val (.ref ls), .val (.int i)] [(.ref a1)])) rfl rfl (hb hby dix_128)
  refine own_go (T1 := T2) (g1 := (mkF m 131 #[.val (.ref a1), .val (.ref nm1), .val (.int (0 : Int32)), .val (.ref d1), .val (.ref d2), .val (.ref d3), .val (.ref ls), .val (.int i)] [(.ref pp)])) (fun t k => st2 t k) ?_
  refine own_go (T1 := T2) (g1 := (mkF m 133 #[.val (.ref a1), .val (.ref nm1), .val (.int (0 : Int32)), .val (.ref d1), .val (.ref d2), .val (.ref d3), .val (.ref ls), .val (.int i)] [(.int i), (.ref pp)])) (fun _ k => XS.iload X2.here hx rfl (hb hby dix_131) rfl k) ?_
  refine own_go (T1 := T2) (g1 := (mkF m 134 #[.val (.ref a1), .val (.ref nm1), .val (.int (0 : Int32)), .val (.ref d1), .val (.ref d2), .val (.ref d3), .val (.ref ls), .val (.int i)] [(.ref a1), (.int i), (.ref pp)])) (fun _ k => XS.aloadN X2.here hx rfl (hb hby dix_133) rfl rfl k) ?_
  refine own_go (T1 := T2) (g1 := (mkF m 136 #[.val (.ref a1), .val (.ref nm1), .val (.int (0 : Int32)), .val (.ref d1), .val (.ref d2), .val (.ref d3), .val (.ref ls), .val (.int i)] [(.ref d3), (.ref a1), (.int i), (.ref pp)])) (fun _ k => XS.aload X2.here hx rfl (hb hby dix_134) rfl rfl k) ?_
  refine own_go (T1 := T2) (g1 := (mkF m 138 #[.val (.ref a1), .val (.ref nm1), .val (.int (0 : Int32)), .val (.ref d1), .val (.ref d2), .val (.ref d3), .val (.ref ls), .val (.int i)] [(.int i), (.ref d3), (.ref a1), (.int i), (.ref pp)])) (fun _ k => XS.iload X2.here hx rfl (hb hby dix_136) rfl k) ?_
  obtain ⟨cl3, Ar3, -, S3, -, H3, -⟩ := id Vp
  refine own_go (T1 := T2) (g1 := (mkF m 139 #[.val (.ref a1), .val (.ref nm1), .val (.int (0 : Int32)), .val (.ref d1), .val (.ref d2), .val (.ref d3), .val (.ref ls), .val (.int i)] [(.int a), (.ref a1), (.int i), (.ref pp)])) (fun _ k => X2.iaload hx (j := i) (v := (.int a)) (by rw [e2]; exact Ar3.1) (State.isArrayOf_alike hZ.alike Ar3.2.1) Ar3.2.2 (inb_of S3 hin) (H3.at (inb_of S3 hin) hat) (g := (mkF m 138 #[.val (.ref a1), .val (.ref nm1), .val (.int (0 : Int32)), .val (.ref d1), .val (.ref d2), .val (.ref d3), .val (.ref ls), .val (.int i)] [(.int i), (.ref d3), (.ref a1), (.int i), (.ref pp)])) rfl rfl (hb hby dix_138) _ k) ?_
  obtain ⟨cq4, kq4, q4a, q4b, q4c⟩ := isOf hZ e2 Ex
  obtain ⟨_, _, ⟨T4, L4, k4, n4⟩, -, X4, ⟨Lc4, hQ4, l4, y4, z4⟩, st4⟩ := X2.virtualBack hx (y := (⟨"com/example/sukima/sukima/catalog/Index", "placeOf", "(I)I"⟩ : MethodName)) (z := (⟨"com/example/sukima/sukima/catalog/Index", "placeOf", "(I)I"⟩ : MethodName)) hown (mvT hZ (hw _ (List.mem_of_getElem? (i := 191) rfl))) (mvT hZ (hw _ (List.mem_of_getElem? (i := 147) rfl))) (notFace_of_selects (args := #[]) (mvT hZ (hw _ (List.mem_of_getElem? (i := 149) rfl)))) (mvT hZ (hw _ (List.mem_of_getElem? (i := 149) rfl))) (mvT hZ (hw _ (List.mem_of_getElem? (i := 148) rfl))) (by decide) (backOf (W := 2) (rmpl l Z a0 hw [] a1 a kc kk lst h0 n0 Z0 hl Fk Vk) hZ (hw _ (List.mem_of_getElem? (i := 150) rfl)) (hw _ (List.mem_of_getElem? (i := 97) rfl)) (by decide) (by decide)) q4a q4c (g := (mkF m 139 #[.val (.ref a1), .val (.ref nm1), .val (.int (0 : Int32)), .val (.ref d1), .val (.ref d2), .val (.ref d3), .val (.ref ls), .val (.int i)] [(.int a), (.ref a1), (.int i), (.ref pp)])) rfl (by rw [hml]; rfl) (Steps.refl _) (argsL := [(.int a)]) (rest := [(.int i), (.ref pp)]) (lenOf own_pd_I_I rfl) rfl (by show 2 * 0 + _ ≤ _; exact Nat.le_of_eq rfl) (hb hby dix_139) (fun _ _ => ⟨rfl, e2, (by decide : 6 + 0 ≤ _), (by decide : 24 + 0 ≤ _)⟩)
  dsimp only [Pt.U, Pt.locs, Pt.cells, Pt.slots] at X4 l4 y4 z4 st4 hQ4
  subst l4 y4 z4
  obtain ⟨rfl, N4q, e4⟩ := hQ4
  have N4 := Fr.app N0 N4q
  refine own_go (T1 := T4) (g1 := (mkF m 142 #[.val (.ref a1), .val (.ref nm1), .val (.int (0 : Int32)), .val (.ref d1), .val (.ref d2), .val (.ref d3), .val (.ref ls), .val (.int i)] [(.int (own_find a lst 0)), (.int i), (.ref pp)])) (fun t k => st4.trans k) ?_
  have Vp5 : Arv Z h0 pp kp .int (Int32.ofNat pks.length) (vpp ++ List.replicate (i.toNatClampNeg + 1) (Value.int 0)) (.int 0) := Vq.pad (pad_rep _ _ _)
  obtain ⟨cl5, Ar5, q5, S5, Nn5, H5, G5⟩ := id Vp5
  obtain ⟨T5, h5, X5, e5, W5, st5⟩ := stI X4 hx hZ e4 Ar5 (j := i) (inb_of S5 hin) (g := (mkF m 142 #[.val (.ref a1), .val (.ref nm1), .val (.int (0 : Int32)), .val (.ref d1), .val (.ref d2), .val (.ref d3), .val (.ref ls), .val (.int i)] [(.int (own_find a lst 0)), (.int i), (.ref pp)])) rfl rfl (hb hby dix_142)
  have Ex_5 : Exa Z h5 a1 "com/example/sukima/sukima/catalog/Index" := Ex.wr W5
  have Fk_5 : Fld Z h5 a1 "com/example/sukima/sukima/catalog/Index" "keyColumns" "[I" (.ref kc) := Fk.other W5 (Or.inl m1)
  have Fp_5 : Fld Z h5 a1 "com/example/sukima/sukima/catalog/Index" "primaryKeyPlaces" "[I" (.ref pp) := Fp.other W5 (Or.inl m1)
  have Vk_5 : Arv Z h5 kc kk .int (Int32.ofNat lst.length) (lst.map Value.int) (.int 0) := Vk.other W5 m2
  have Vp_5 : Arv Z h5 d3 ke .int (Int32.ofNat pks.length) (pks.map Value.int) (.int 0) := Vp.other W5 m3
  have Vq_5 : Arv Z h5 pp kp .int (Int32.ofNat pks.length) ((vpp ++ List.replicate (i.toNatClampNeg + 1) (Value.int 0)).set i.toNatClampNeg (.int (own_find a lst 0))) (.int 0) := Arv.set Ar5 q5 S5 Nn5 H5 G5 rfl W5 i.toNatClampNeg rfl (by simp; omega)
  have Zs5 : n0 ≤ h5.size := Nat.le_trans Z0 (Keep.of_wr W5).1
  have N5 := Fr.snoc X5 N4 gp
  refine own_go (T1 := T5) (g1 := (mkF m 143 #[.val (.ref a1), .val (.ref nm1), .val (.int (0 : Int32)), .val (.ref d1), .val (.ref d2), .val (.ref d3), .val (.ref ls), .val (.int i)] [])) (fun t k => st5 t k) ?_
  refine own_go (T1 := T5) (g1 := (mkF m 146 #[.val (.ref a1), .val (.ref nm1), .val (.int (0 : Int32)), .val (.ref d1), .val (.ref d2), .val (.ref d3), .val (.ref ls), .val (.int (i + (1 : Int32)))] [])) (fun _ k => XS.iinc X5.here hx rfl (hb hby dix_143) rfl (l' := #[.val (.ref a1), .val (.ref nm1), .val (.int (0 : Int32)), .val (.ref d1), .val (.ref d2), .val (.ref d3), .val (.ref ls), .val (.int (i + (1 : Int32)))]) rfl k) ?_
  refine own_go (T1 := T5) (g1 := (mkF m 119 #[.val (.ref a1), .val (.ref nm1), .val (.int (0 : Int32)), .val (.ref d1), .val (.ref d2), .val (.ref d3), .val (.ref ls), .val (.int (i + (1 : Int32)))] [])) (fun _ k => XS.goto X5.here hx rfl (pc0 := 146) (pc' := 119) rfl (hb hby dix_146) (by decide) (by decide) k) ?_
  exact ⟨T5, _, _, _, _, X5, ⟨rfl, rfl, rfl, N5, _, (by rw [e5]; exact ⟨Ex_5, Fk_5, Fp_5, Vk_5, Vq_5, Vp_5, ga, gp, m1, m2, m3⟩)⟩, fun _ k => k⟩
set_option maxRecDepth 65536 in
set_option maxHeartbeats 4000000 in
theorem own_x2o {p : Program} {l : Launch} {e : Env} {s : State} {m : MethodId} {args : Array Value} {below : List Frame} {meth : Method} {c : Code} {T0 : State} {locs : List Loc} {Z : State} {a0 : Array Value} {h0 : Heap} {n0 : Nat} (a1 nm1 d1 d2 d3 ls : Addr) (ke : ClassId) (i np : Int32) (vp : List Value) (X0 : Stand p l e ({ frames := 3, cells := 6, slots := 24, locals := 57 } : Room) s m args below meth c T0 locs 6 24) (hx : p.tables.exec = Jvm.exec) (hZ : Z.Warmed39 s.vm) (hw : ∀ d ∈ tables_1, d.before a0 Z = true) (hby : c.code = prog_19_method_1_code) (hml : c.maxLocals = 8) (hown : s.vm.findClass "com/example/sukima/sukima/catalog/Index" = some m.cls) (hnm : meth.name = "<init>") (e0 : T0.heap = h0) (N0 : Fr n0 locs) (Vp : Arv Z h0 d3 ke .int np vp (.int 0)) (hge : ¬ (i < np)) :
    own_To p l e ({ frames := 3, cells := 6, slots := 24, locals := 57 } : Room) s m args below meth c T0 (mkF m 119 #[.val (.ref a1), .val (.ref nm1), .val (.int (0 : Int32)), .val (.ref d1), .val (.ref d2), .val (.ref d3), .val (.ref ls), .val (.int i)] []) (fun T' g' L kq zq => g' = (mkF m 149 #[.val (.ref a1), .val (.ref nm1), .val (.int (0 : Int32)), .val (.ref d1), .val (.ref d2), .val (.ref d3), .val (.ref ls), .val (.int i)] []) ∧ kq = 6 ∧ zq = 24 ∧ Fr n0 L ∧ T'.heap = h0) := by
  refine own_go (T1 := T0) (g1 := (mkF m 121 #[.val (.ref a1), .val (.ref nm1), .val (.int (0 : Int32)), .val (.ref d1), .val (.ref d2), .val (.ref d3), .val (.ref ls), .val (.int i)] [(.int i)])) (fun _ k => XS.iload X0.here hx rfl (hb hby dix_119) rfl k) ?_
  refine own_go (T1 := T0) (g1 := (mkF m 123 #[.val (.ref a1), .val (.ref nm1), .val (.int (0 : Int32)), .val (.ref d1), .val (.ref d2), .val (.ref d3), .val (.ref ls), .val (.int i)] [(.ref d3), (.int i)])) (fun _ k => XS.aload X0.here hx rfl (hb hby dix_121) rfl rfl k) ?_
  obtain ⟨cl1, Ar1, -, S1, N1, -, -⟩ := id Vp
  refine own_go (T1 := T0) (g1 := (mkF m 124 #[.val (.ref a1), .val (.ref nm1), .val (.int (0 : Int32)), .val (.ref d1), .val (.ref d2), .val (.ref d3), .val (.ref ls), .val (.int i)] [(.int np), (.int i)])) (fun _ k => X0.arraylength hx (by rw [e0]; exact Ar1.1) (State.isArrayOf_alike hZ.alike Ar1.2.1) (g := (mkF m 123 #[.val (.ref a1), .val (.ref nm1), .val (.int (0 : Int32)), .val (.ref d1), .val (.ref d2), .val (.ref d3), .val (.ref ls), .val (.int i)] [(.ref d3), (.int i)])) rfl rfl (hb hby dix_123) _ (by rw [len_of S1 N1]; exact k)) ?_
  refine own_go (T1 := T0) (g1 := (mkF m 149 #[.val (.ref a1), .val (.ref nm1), .val (.int (0 : Int32)), .val (.ref d1), .val (.ref d2), .val (.ref d3), .val (.ref ls), .val (.int i)] [])) (fun _ k => XS.icmpYes X0.here hx rfl (pc0 := 124) (pc' := 149) rfl (hb hby dix_124) rfl (flt (hge : ¬ (i < np))).2.1 (by decide) (by decide) k) ?_
  exact ⟨T0, _, _, _, _, X0, ⟨rfl, rfl, rfl, N0, e0⟩, fun _ k => k⟩
/-! the constructor's loops -/
section OwnIx
variable {p : Program} {l : Launch} {e : Env} {s : State} {m : MethodId} {args : Array Value} {below : List Frame} {meth : Method} {c : Code} {Z : State} {a0 : Array Value} {n0 : Nat}
theorem own_xL1 (a1 nm1 d1 d2 d3 ls eb c1 kc kt : Addr) (kk kkt kb kz ke : ClassId) (mc nz np : Int32) (lst : List Int32) (vz vp : List Value) (hl : lst.length ≤ 4) (hrng : ∀ a ∈ lst, ¬ a < (0 : Int32) ∧ a < (4 : Int32)) (hx : p.tables.exec = Jvm.exec) (hZ : Z.Warmed39 s.vm) (hw : ∀ d ∈ tables_1, d.before a0 Z = true) (hby : c.code = prog_19_method_1_code) (hml : c.maxLocals = 8) (hown : s.vm.findClass "com/example/sukima/sukima/catalog/Index" = some m.cls) (hnm : meth.name = "<init>") :
    ∀ (r pre : List Int32) (vt : List Value) (T0 : State) (h : Heap) (locs : List Loc), lst = pre ++ r → Stand p l e ({ frames := 3, cells := 6, slots := 24, locals := 57 } : Room) s m args below meth c T0 locs 4 16 → T0.heap = h → Fr n0 locs → own_I1 Z h n0 a1 d2 d3 ls eb c1 kc kt kk kkt kb kz ke mc nz np lst vt vz vp →
      own_To p l e ({ frames := 3, cells := 6, slots := 24, locals := 57 } : Room) s m args below meth c T0 (mkF m 50 #[.val (.ref a1), .val (.ref nm1), .val (.int (0 : Int32)), .val (.ref d1), .val (.ref d2), .val (.ref d3), .val (.ref ls), .val (.int (Int32.ofNat pre.length))] []) (fun T' g' L kq zq => ∃ i' : Int32, g' = (mkF m 93 #[.val (.ref a1), .val (.ref nm1), .val (.int (0 : Int32)), .val (.ref d1), .val (.ref d2), .val (.ref d3), .val (.ref ls), .val (.int i')] []) ∧ kq = 4 ∧ zq = 16 ∧ Fr n0 L ∧ ∃ vt' : List Value, own_I1 Z T'.heap n0 a1 d2 d3 ls eb c1 kc kt kk kkt kb kz ke mc nz np lst vt' vz vp) := by
  intro r
  induction r with
  | nil =>
    intro pre vt T0 h locs hlp X0 e0 N0 HI
    rw [List.append_nil] at hlp; subst hlp
    refine own_then (own_x1o a1 nm1 d1 d2 d3 ls kc kk (Int32.ofNat lst.length) lst X0 hx hZ hw hby hml hown hnm e0 N0 HI.2.1 HI.2.2.2.2.2.1 Int32.lt_irrefl) ?_
    rintro T' g' L kq zq X' ⟨rfl, rfl, rfl, N', e'⟩
    exact ⟨T', _, _, _, _, X', ⟨_, rfl, rfl, rfl, N', vt, by rw [e']; exact HI⟩, fun _ k => k⟩
  | cons a r ih =>
    intro pre vt T0 h locs hlp X0 e0 N0 HI
    have hlen : pre.length < lst.length := by rw [hlp]; simp
    have h8 := own_lt8 pre.length (by omega) lst.length (by omega)
    have hat : (lst.map Value.int).getD (Int32.ofNat pre.length).toNatClampNeg (.int 0) = .int a := by rw [hlp]; exact own_nth pre a r (by omega)
    refine own_then (own_x1 a1 nm1 d1 d2 d3 ls eb c1 kc kt kk kkt kb kz ke mc (Int32.ofNat pre.length) nz np lst vt vz vp a X0 hx hZ hw hby hml hown hnm e0 N0 HI ⟨h8.2.2, h8.1 hlen⟩ hat (hrng a (by rw [hlp]; simp))) ?_
    rintro T' g' L kq zq X' ⟨rfl, rfl, rfl, N', vt', HI'⟩
    have := ih (pre ++ [a]) vt' T' _ L (by rw [hlp]; simp) X' rfl N' HI'
    rw [show Int32.ofNat (pre ++ [a]).length = Int32.ofNat pre.length + (1 : Int32) by rw [own_inc]; simp] at this
    exact this
theorem own_xL2 (a1 nm1 d1 d2 d3 ls kc pp : Addr) (kk kp ke : ClassId) (lst pks : List Int32) (hl : lst.length ≤ 4) (hp : pks.length ≤ 2) (hx : p.tables.exec = Jvm.exec) (hZ : Z.Warmed39 s.vm) (hw : ∀ d ∈ tables_1, d.before a0 Z = true) (hby : c.code = prog_19_method_1_code) (hml : c.maxLocals = 8) (hown : s.vm.findClass "com/example/sukima/sukima/catalog/Index" = some m.cls) (hnm : meth.name = "<init>") :
    ∀ (r pre : List Int32) (vpp : List Value) (T0 : State) (h : Heap) (locs : List Loc), pks = pre ++ r → Stand p l e ({ frames := 3, cells := 6, slots := 24, locals := 57 } : Room) s m args below meth c T0 locs 6 24 → T0.heap = h → Fr n0 locs → own_I2 Z h n0 a1 d3 kc pp kk kp ke lst pks vpp →
      own_To p l e ({ frames := 3, cells := 6, slots := 24, locals := 57 } : Room) s m args below meth c T0 (mkF m 119 #[.val (.ref a1), .val (.ref nm1), .val (.int (0 : Int32)), .val (.ref d1), .val (.ref d2), .val (.ref d3), .val (.ref ls), .val (.int (Int32.ofNat pre.length))] []) (fun T' g' L kq zq => ∃ i' : Int32, g' = (mkF m 149 #[.val (.ref a1), .val (.ref nm1), .val (.int (0 : Int32)), .val (.ref d1), .val (.ref d2), .val (.ref d3), .val (.ref ls), .val (.int i')] []) ∧ kq = 6 ∧ zq = 24 ∧ Fr n0 L ∧ ∃ vq : List Value, own_I2 Z T'.heap n0 a1 d3 kc pp kk kp ke lst pks vq) := by
  intro r
  induction r with
  | nil =>
    intro pre vpp T0 h locs hlp X0 e0 N0 HI
    rw [List.append_nil] at hlp; subst hlp
    refine own_then (own_x2o a1 nm1 d1 d2 d3 ls ke (Int32.ofNat pks.length) (Int32.ofNat pks.length) (pks.map Value.int) X0 hx hZ hw hby hml hown hnm e0 N0 HI.2.2.2.2.2.1 Int32.lt_irrefl) ?_
    rintro T' g' L kq zq X' ⟨rfl, rfl, rfl, N', e'⟩
    exact ⟨T', _, _, _, _, X', ⟨_, rfl, rfl, rfl, N', vpp, by rw [e']; exact HI⟩, fun _ k => k⟩
  | cons a r ih =>
    intro pre vpp T0 h locs hlp X0 e0 N0 HI
    have hlen : pre.length < pks.length := by rw [hlp]; simp
    have h8 := own_lt8 pre.length (by omega) pks.length (by omega)
    have hat : (pks.map Value.int).getD (Int32.ofNat pre.length).toNatClampNeg (.int 0) = .int a := by rw [hlp]; exact own_nth pre a r (by omega)
    refine own_then (own_x2 a1 nm1 d1 d2 d3 ls kc pp kk kp ke (Int32.ofNat pre.length) lst pks vpp a X0 hx hZ hw hby hml hown hnm e0 N0 HI hl ⟨h8.2.2, h8.1 hlen⟩ hat) ?_
    rintro T' g' L kq zq X' ⟨rfl, rfl, rfl, N', vq, HI'⟩
    have := ih (pre ++ [a]) vq T' _ L (by rw [hlp]; simp) X' rfl N' HI'
    rw [show Int32.ofNat (pre ++ [a]).length = Int32.ofNat pre.length + (1 : Int32) by rw [own_inc]; simp] at this
    exact this
end OwnIx

def QX (Z : State) (a1 : Addr) (lst : List Int32) (h0 : Heap) (n0 : Nat) (v : Option Value) (h : Heap) (L : List Loc) : Prop := v = none ∧ Fr n0 L ∧ h0.size ≤ h.size ∧ ∃ (kc : Addr) (kk : ClassId), Exa Z h a1 "com/example/sukima/sukima/catalog/Index" ∧ Fld Z h a1 "com/example/sukima/sukima/catalog/Index" "keyColumns" "[I" (.ref kc) ∧ Arv Z h kc kk .int (Int32.ofNat lst.length) (lst.map Value.int) (.int 0)
theorem own_pd_AIAI_AI : parseMethodDescriptor "([I[I)[I" = some ⟨[(.array .int), (.array .int)], some (.array .int)⟩ := by decide +kernel
theorem own_pd_AZI_AZ : parseMethodDescriptor "([ZI)[Z" = some ⟨[(.array .boolean), .int], some (.array .boolean)⟩ := by decide +kernel
theorem dix_0 : decode prog_19_method_1_code 0 = .ok (.aload_n 0, 1) := by decide +kernel
theorem dix_1 : decode prog_19_method_1_code 1 = .ok (.invokespecial 1, 3) := by decide +kernel
theorem dix_4 : decode prog_19_method_1_code 4 = .ok (.aload_n 0, 1) := by decide +kernel
theorem dix_5 : decode prog_19_method_1_code 5 = .ok (.aload_n 1, 1) := by decide +kernel
theorem dix_6 : decode prog_19_method_1_code 6 = .ok (.putfield 7, 3) := by decide +kernel
theorem dix_9 : decode prog_19_method_1_code 9 = .ok (.aload_n 0, 1) := by decide +kernel
theorem dix_10 : decode prog_19_method_1_code 10 = .ok (.iload_n 2, 1) := by decide +kernel
theorem dix_11 : decode prog_19_method_1_code 11 = .ok (.putfield 13, 3) := by decide +kernel
theorem dix_14 : decode prog_19_method_1_code 14 = .ok (.aload_n 0, 1) := by decide +kernel
theorem dix_15 : decode prog_19_method_1_code 15 = .ok (.aload_n 3, 1) := by decide +kernel
theorem dix_16 : decode prog_19_method_1_code 16 = .ok (.invokevirtual 17, 3) := by decide +kernel
theorem dix_19 : decode prog_19_method_1_code 19 = .ok (.checkcast 18, 3) := by decide +kernel
theorem dix_22 : decode prog_19_method_1_code 22 = .ok (.putfield 23, 3) := by decide +kernel
theorem dix_25 : decode prog_19_method_1_code 25 = .ok (.aload_n 0, 1) := by decide +kernel
theorem dix_26 : decode prog_19_method_1_code 26 = .ok (.aload_n 3, 1) := by decide +kernel
theorem dix_27 : decode prog_19_method_1_code 27 = .ok (.aload 5, 2) := by decide +kernel
theorem dix_29 : decode prog_19_method_1_code 29 = .ok (.invokestatic 26, 3) := by decide +kernel
theorem dix_32 : decode prog_19_method_1_code 32 = .ok (.putfield 30, 3) := by decide +kernel
theorem dix_35 : decode prog_19_method_1_code 35 = .ok (.aload_n 0, 1) := by decide +kernel
theorem dix_36 : decode prog_19_method_1_code 36 = .ok (.aload_n 0, 1) := by decide +kernel
theorem dix_37 : decode prog_19_method_1_code 37 = .ok (.getfield 30, 3) := by decide +kernel
theorem dix_40 : decode prog_19_method_1_code 40 = .ok (.arraylength, 1) := by decide +kernel
theorem dix_41 : decode prog_19_method_1_code 41 = .ok (.anewarray 32, 3) := by decide +kernel
theorem dix_44 : decode prog_19_method_1_code 44 = .ok (.putfield 34, 3) := by decide +kernel
theorem dix_47 : decode prog_19_method_1_code 47 = .ok (.iconst 0, 1) := by decide +kernel
theorem dix_48 : decode prog_19_method_1_code 48 = .ok (.istore 7, 2) := by decide +kernel
theorem dix_93 : decode prog_19_method_1_code 93 = .ok (.aload_n 0, 1) := by decide +kernel
theorem dix_94 : decode prog_19_method_1_code 94 = .ok (.aload 4, 2) := by decide +kernel
theorem dix_96 : decode prog_19_method_1_code 96 = .ok (.aload_n 0, 1) := by decide +kernel
theorem dix_97 : decode prog_19_method_1_code 97 = .ok (.getfield 30, 3) := by decide +kernel
theorem dix_100 : decode prog_19_method_1_code 100 = .ok (.arraylength, 1) := by decide +kernel
theorem dix_101 : decode prog_19_method_1_code 101 = .ok (.invokestatic 50, 3) := by decide +kernel
theorem dix_104 : decode prog_19_method_1_code 104 = .ok (.putfield 56, 3) := by decide +kernel
theorem dix_107 : decode prog_19_method_1_code 107 = .ok (.aload_n 0, 1) := by decide +kernel
theorem dix_108 : decode prog_19_method_1_code 108 = .ok (.aload 5, 2) := by decide +kernel
theorem dix_110 : decode prog_19_method_1_code 110 = .ok (.arraylength, 1) := by decide +kernel
theorem dix_111 : decode prog_19_method_1_code 111 = .ok (.newarray .int, 2) := by decide +kernel
theorem dix_113 : decode prog_19_method_1_code 113 = .ok (.putfield 60, 3) := by decide +kernel
theorem dix_116 : decode prog_19_method_1_code 116 = .ok (.iconst 0, 1) := by decide +kernel
theorem dix_117 : decode prog_19_method_1_code 117 = .ok (.istore 7, 2) := by decide +kernel
theorem dix_149 : decode prog_19_method_1_code 149 = .ok (.return_, 1) := by decide +kernel
theorem ef_rmix (m : MethodId) (a1 : Addr) (nm1 : Addr) (d1 : Addr) (d2 : Addr) (d3 : Addr) (ls : Addr) : entryFrame m #[(.ref a1), (.ref nm1), (.int (0 : Int32)), (.ref d1), (.ref d2), (.ref d3), (.ref ls)] 8 = mkF m 0 #[.val (.ref a1), .val (.ref nm1), .val (.int (0 : Int32)), .val (.ref d1), .val (.ref d2), .val (.ref d3), .val (.ref ls), .unset] [] := by first | (simp [entryFrame, mkF, argsToLocals, Value.category]; done) | rfl
set_option maxRecDepth 65536 in
set_option maxHeartbeats 4000000 in
theorem rmix (l : Launch) (Z : State) (a0 : Array Value) (hw : ∀ d ∈ tables_1, d.before a0 Z = true) (ws : List Jvm.Cond) (a1 nm1 d1 d2 d3 ls eb c1 : Addr) (kd kz ke kb : ClassId) (mc : Int32) (nz : Nat) (cols pks : List Int32) (vz : List Value) (h0 : Heap) (n0 : Nat) (Z0 : n0 ≤ h0.size) (Ex : Exa Z h0 a1 "com/example/sukima/sukima/catalog/Index") (ga : n0 ≤ a1) (Fname : Fld Z h0 a1 "com/example/sukima/sukima/catalog/Index" "name" "Ljava/lang/String;" .null) (Funique : Fld Z h0 a1 "com/example/sukima/sukima/catalog/Index" "unique" "Z" (.int (0 : Int32))) (Fcolumns : Fld Z h0 a1 "com/example/sukima/sukima/catalog/Index" "columns" "[I" .null) (FkeyColumns : Fld Z h0 a1 "com/example/sukima/sukima/catalog/Index" "keyColumns" "[I" .null) (FkeyTypes : Fld Z h0 a1 "com/example/sukima/sukima/catalog/Index" "keyTypes" "[Lcom/example/sukima/sukima/sql/DataType;" .null) (Fdescending : Fld Z h0 a1 "com/example/sukima/sukima/catalog/Index" "descending" "[Z" .null) (FprimaryKeyPlaces : Fld Z h0 a1 "com/example/sukima/sukima/catalog/Index" "primaryKeyPlaces" "[I" .null) (hc : cols.length ≤ 2) (hp : pks.length ≤ 2) (hz : nz ≤ 2) (hrng : ∀ a ∈ (cols ++ own_new cols pks), ¬ a < (0 : Int32) ∧ a < (4 : Int32)) (Vc : Arv Z h0 d1 kd .int (Int32.ofNat cols.length) (cols.map Value.int) (.int 0)) (Yc : Exa Z h0 d1 "[I") (Vz : Arv Z h0 d2 kz .boolean (Int32.ofNat nz) vz (.int 0)) (Yz : Exa Z h0 d2 "[Z") (Vp : Arv Z h0 d3 ke .int (Int32.ofNat pks.length) (pks.map Value.int) (.int 0)) (HA : own_AL Z h0 n0 ls (.ref eb) 4 mc) (Vb : Arv Z h0 eb kb (.object "java/lang/Object") (10 : Int32) [.ref c1, .ref c1, .ref c1, .ref c1] .null) (Cx : Exa Z h0 c1 "com/example/sukima/sukima/catalog/Column") (Ct : Fld Z h0 c1 "com/example/sukima/sukima/catalog/Column" "type" "Lcom/example/sukima/sukima/sql/DataType;" .null) (na_d1 : d1 ≠ a1) (na_d2 : d2 ≠ a1) (na_d3 : d3 ≠ a1) (na_ls : ls ≠ a1) (na_eb : eb ≠ a1) (na_c1 : c1 ≠ a1) :
    MetFree l (⟨"com/example/sukima/sukima/catalog/Index", "<init>", "(Ljava/lang/String;Z[I[Z[ILjava/util/List;)V"⟩ : MethodName) (head1 (Jvm.Cond.code (⟨"com/example/sukima/sukima/catalog/Index", "<init>", "(Ljava/lang/String;Z[I[Z[ILjava/util/List;)V"⟩ : MethodName) prog_19_method_1_code 8 none :: ws) ({ frames := 3, cells := 6, slots := 24, locals := 57 } : Room)) (fun a U => a = #[(.ref a1), (.ref nm1), (.int (0 : Int32)), (.ref d1), (.ref d2), (.ref d3), (.ref ls)] ∧ Z.Warmed39 U.vm ∧ U.heap = h0) (fun _ _ _ _ _ => True) (fun _ U o U' => ∃ v L, o = .returned v ∧ QX Z a1 (cols ++ own_new cols pks) h0 n0 v U'.heap L ∧ FrameEnd U o U' L ({ frames := 3, cells := 6, slots := 24, locals := 57 } : Room).cells ({ frames := 3, cells := 6, slots := 24, locals := 57 } : Room).slots) := by
  refine MetFree.of_bodySF (plainFor_of_name (by first | (simp [plainName, overriddenIn]; done) | decide +kernel)) hisR ?_
  intro p e s m args below meth c s₁ Bd hml0 hP hK
  obtain ⟨rfl, hZ, hh⟩ := hP
  have hx := Bd.exec
  have hby := Bd.bytes
  have hml : c.maxLocals = 8 := hml0
  have hown : s.vm.findClass "com/example/sukima/sukima/catalog/Index" = some m.cls := findClass_of_methodNamed Bd.named
  have hnm := (name_of_methodNamed Bd.named Bd.method).1
  have X0 : Stand p l e ({ frames := 3, cells := 6, slots := 24, locals := 57 } : Room) s m #[(.ref a1), (.ref nm1), (.int (0 : Int32)), (.ref d1), (.ref d2), (.ref d3), (.ref ls)] below meth c s₁ [] 0 0 := Stand.of_body Bd
  have e0 : s₁.heap = h0 := by rw [← hh, Bd.state]; rfl
  have N0 := Fr.nil n0
  have main : own_To p l e ({ frames := 3, cells := 6, slots := 24, locals := 57 } : Room) s m #[(.ref a1), (.ref nm1), (.int (0 : Int32)), (.ref d1), (.ref d2), (.ref d3), (.ref ls)] below meth c s₁ (mkF m 0 #[.val (.ref a1), .val (.ref nm1), .val (.int (0 : Int32)), .val (.ref d1), .val (.ref d2), .val (.ref d3), .val (.ref ls), .unset] []) (fun T' g' L kq zq => ∃ pcr Ls, g' = mkF m pcr Ls [] ∧ decode c.code pcr = .ok (.return_, 1) ∧ kq = 6 ∧ zq = 24 ∧ QX Z a1 (cols ++ own_new cols pks) h0 n0 none T'.heap L) := by
    obtain ⟨Lx, Le, Ls, Lm, gl⟩ := HA
    refine own_go (T1 := s₁) (g1 := (mkF m 1 #[.val (.ref a1), .val (.ref nm1), .val (.int (0 : Int32)), .val (.ref d1), .val (.ref d2), .val (.ref d3), .val (.ref ls), .unset] [(.ref a1)])) (fun _ k => XS.aloadN X0.here hx rfl (hb hby dix_0) rfl rfl k) ?_
    obtain ⟨T1, X1, e1, st1⟩ := initO X0 hx hZ hown (hw _ (List.mem_of_getElem? (i := 102) rfl)) (hw _ (List.mem_of_getElem? (i := 18) rfl)) (hw _ (List.mem_of_getElem? (i := 19) rfl)) e0 (g := (mkF m 1 #[.val (.ref a1), .val (.ref nm1), .val (.int (0 : Int32)), .val (.ref d1), .val (.ref d2), .val (.ref d3), .val (.ref ls), .unset] [(.ref a1)])) rfl (by rw [hml]; rfl) rfl (hb hby dix_1) (by decide) (W := 0) (by show 2 * 0 + _ ≤ _; exact Nat.le_of_eq rfl) (by decide)
    refine own_go (T1 := T1) (g1 := (mkF m 4 #[.val (.ref a1), .val (.ref nm1), .val (.int (0 : Int32)), .val (.ref d1), .val (.ref d2), .val (.ref d3), .val (.ref ls), .unset] [])) (fun t k => st1 t k) ?_
    refine own_go (T1 := T1) (g1 := (mkF m 5 #[.val (.ref a1), .val (.ref nm1), .val (.int (0 : Int32)), .val (.ref d1), .val (.ref d2), .val (.ref d3), .val (.ref ls), .unset] [(.ref a1)])) (fun _ k => XS.aloadN X1.here hx rfl (hb hby dix_4) rfl rfl k) ?_
    refine own_go (T1 := T1) (g1 := (mkF m 6 #[.val (.ref a1), .val (.ref nm1), .val (.int (0 : Int32)), .val (.ref d1), .val (.ref d2), .val (.ref d3), .val (.ref ls), .unset] [(.ref nm1), (.ref a1)])) (fun _ k => XS.aloadN X1.here hx rfl (hb hby dix_5) rfl rfl k) ?_
    obtain ⟨T2, h2, X2, e2, W2, st2⟩ := putF X1 hx hZ hown (host := "") (Or.inl (hw _ (List.mem_of_getElem? (i := 103) rfl))) Via.refl e1 Fname Ex (Or.inr ⟨(hw _ (List.mem_of_getElem? (i := 104) rfl)), rfl, hnm⟩) (hw _ (List.mem_of_getElem? (i := 96) rfl)) (ty := (.object "java/lang/String")) (by decide) rfl rfl (g := (mkF m 6 #[.val (.ref a1), .val (.ref nm1), .val (.int (0 : Int32)), .val (.ref d1), .val (.ref d2), .val (.ref d3), .val (.ref ls), .unset] [(.ref nm1), (.ref a1)])) rfl rfl (hb hby dix_6)
    have Ex_2 : Exa Z h2 a1 "com/example/sukima/sukima/catalog/Index" := Ex.wr W2
    have Funique_2 : Fld Z h2 a1 "com/example/sukima/sukima/catalog/Index" "unique" "Z" (.int (0 : Int32)) := Funique.other W2 (Or.inr (slot_ne (Or.inr (hw _ (List.mem_of_getElem? (i := 106) rfl))) (Or.inr (hw _ (List.mem_of_getElem? (i := 104) rfl))) (by decide) (t := .boolean) (t' := (.object "java/lang/String")) (by decide) (by decide)))
    have Fcolumns_2 : Fld Z h2 a1 "com/example/sukima/sukima/catalog/Index" "columns" "[I" .null := Fcolumns.other W2 (Or.inr (slot_ne (Or.inr (hw _ (List.mem_of_getElem? (i := 117) rfl))) (Or.inr (hw _ (List.mem_of_getElem? (i := 104) rfl))) (by decide) (t := (.array .int)) (t' := (.object "java/lang/String")) (by decide) (by decide)))
    have FkeyColumns_2 : Fld Z h2 a1 "com/example/sukima/sukima/catalog/Index" "keyColumns" "[I" .null := FkeyColumns.other W2 (Or.inr (slot_ne (Or.inr (hw _ (List.mem_of_getElem? (i := 128) rfl))) (Or.inr (hw _ (List.mem_of_getElem? (i := 104) rfl))) (by decide) (t := (.array .int)) (t' := (.object "java/lang/String")) (by decide) (by decide)))
    have FkeyTypes_2 : Fld Z h2 a1 "com/example/sukima/sukima/catalog/Index" "keyTypes" "[Lcom/example/sukima/sukima/sql/DataType;" .null := FkeyTypes.other W2 (Or.inr (slot_ne (Or.inr (hw _ (List.mem_of_getElem? (i := 132) rfl))) (Or.inr (hw _ (List.mem_of_getElem? (i := 104) rfl))) (by decide) (t := (.array (.object "com/example/sukima/sukima/sql/DataType"))) (t' := (.object "java/lang/String")) (by decide) (by decide)))
    have Fdescending_2 : Fld Z h2 a1 "com/example/sukima/sukima/catalog/Index" "descending" "[Z" .null := Fdescending.other W2 (Or.inr (slot_ne (Or.inr (hw _ (List.mem_of_getElem? (i := 143) rfl))) (Or.inr (hw _ (List.mem_of_getElem? (i := 104) rfl))) (by decide) (t := (.array .boolean)) (t' := (.object "java/lang/String")) (by decide) (by decide)))
    have FprimaryKeyPlaces_2 : Fld Z h2 a1 "com/example/sukima/sukima/catalog/Index" "primaryKeyPlaces" "[I" .null := FprimaryKeyPlaces.other W2 (Or.inr (slot_ne (Or.inr (hw _ (List.mem_of_getElem? (i := 145) rfl))) (Or.inr (hw _ (List.mem_of_getElem? (i := 104) rfl))) (by decide) (t := (.array .int)) (t' := (.object "java/lang/String")) (by decide) (by decide)))
    have Vc_2 : Arv Z h2 d1 kd .int (Int32.ofNat cols.length) (cols.map Value.int) (.int 0) := Vc.other W2 na_d1
    have Yc_2 : Exa Z h2 d1 "[I" := Yc.wr W2
    have Vz_2 : Arv Z h2 d2 kz .boolean (Int32.ofNat nz) vz (.int 0) := Vz.other W2 na_d2
    have Yz_2 : Exa Z h2 d2 "[Z" := Yz.wr W2
    have Vp_2 : Arv Z h2 d3 ke .int (Int32.ofNat pks.length) (pks.map Value.int) (.int 0) := Vp.other W2 na_d3
    have Lx_2 : Exa Z h2 ls "java/util/ArrayList" := Lx.wr W2
    have Le_2 : Fld Z h2 ls "java/util/ArrayList" "elementData" "[Ljava/lang/Object;" (.ref eb) := Le.other W2 (Or.inl na_ls)
    have Ls_2 : Fld Z h2 ls "java/util/ArrayList" "size" "I" (.int (4 : Int32)) := Ls.other W2 (Or.inl na_ls)
    have Lm_2 : Fld Z h2 ls "java/util/AbstractList" "modCount" "I" (.int mc) := Lm.other W2 (Or.inl na_ls)
    have Vb_2 : Arv Z h2 eb kb (.object "java/lang/Object") (10 : Int32) [.ref c1, .ref c1, .ref c1, .ref c1] .null := Vb.other W2 na_eb
    have Cx_2 : Exa Z h2 c1 "com/example/sukima/sukima/catalog/Column" := Cx.wr W2
    have Ct_2 : Fld Z h2 c1 "com/example/sukima/sukima/catalog/Column" "type" "Lcom/example/sukima/sukima/sql/DataType;" .null := Ct.other W2 (Or.inl na_c1)
    have Fname_2 : Fld Z h2 a1 "com/example/sukima/sukima/catalog/Index" "name" "Ljava/lang/String;" (.ref nm1) := Fname.same W2
    have Zs2 : n0 ≤ h2.size := Nat.le_trans Z0 (Keep.of_wr W2).1
    have Kp2 : Keep h0 h2 [a1] := (Keep.refl h0 [a1]).wr W2 (Or.inl (by simp))
    have N2 := Fr.snoc X2 N0 ga
    refine own_go (T1 := T2) (g1 := (mkF m 9 #[.val (.ref a1), .val (.ref nm1), .val (.int (0 : Int32)), .val (.ref d1), .val (.ref d2), .val (.ref d3), .val (.ref ls), .unset] [])) (fun t k => st2 t k) ?_
    refine own_go (T1 := T2) (g1 := (mkF m 10 #[.val (.ref a1), .val (.ref nm1), .val (.int (0 : Int32)), .val (.ref d1), .val (.ref d2), .val (.ref d3), .val (.ref ls), .unset] [(.ref a1)])) (fun _ k => XS.aloadN X2.here hx rfl (hb hby dix_9) rfl rfl k) ?_
    refine own_go (T1 := T2) (g1 := (mkF m 11 #[.val (.ref a1), .val (.ref nm1), .val (.int (0 : Int32)), .val (.ref d1), .val (.ref d2), .val (.ref d3), .val (.ref ls), .unset] [(.int (0 : Int32)), (.ref a1)])) (fun _ k => XS.iloadN X2.here hx rfl (hb hby dix_10) rfl k) ?_
    obtain ⟨T3, h3, X3, e3, W3, st3⟩ := putFN X2 hx hZ hown (hw _ (List.mem_of_getElem? (i := 105) rfl)) Via.refl e2 Funique_2 Ex_2 (Or.inr ⟨(hw _ (List.mem_of_getElem? (i := 106) rfl)), rfl, hnm⟩) (hw _ (List.mem_of_getElem? (i := 96) rfl)) (ty := .boolean) (v' := (.int (0 : Int32))) (by decide) rfl rfl (g := (mkF m 11 #[.val (.ref a1), .val (.ref nm1), .val (.int (0 : Int32)), .val (.ref d1), .val (.ref d2), .val (.ref d3), .val (.ref ls), .unset] [(.int (0 : Int32)), (.ref a1)])) rfl rfl (hb hby dix_11)
    have Ex_3 : Exa Z h3 a1 "com/example/sukima/sukima/catalog/Index" := Ex_2.wr W3
    have Fcolumns_3 : Fld Z h3 a1 "com/example/sukima/sukima/catalog/Index" "columns" "[I" .null := Fcolumns_2.other W3 (Or.inr (slot_ne (Or.inr (hw _ (List.mem_of_getElem? (i := 117) rfl))) (Or.inr (hw _ (List.mem_of_getElem? (i := 106) rfl))) (by decide) (t := (.array .int)) (t' := .boolean) (by decide) (by decide)))
    have FkeyColumns_3 : Fld Z h3 a1 "com/example/sukima/sukima/catalog/Index" "keyColumns" "[I" .null := FkeyColumns_2.other W3 (Or.inr (slot_ne (Or.inr (hw _ (List.mem_of_getElem? (i := 128) rfl))) (Or.inr (hw _ (List.mem_of_getElem? (i := 106) rfl))) (by decide) (t := (.array .int)) (t' := .boolean) (by decide) (by decide)))
    have FkeyTypes_3 : Fld Z h3 a1 "com/example/sukima/sukima/catalog/Index" "keyTypes" "[Lcom/example/sukima/sukima/sql/DataType;" .null := FkeyTypes_2.other W3 (Or.inr (slot_ne (Or.inr (hw _ (List.mem_of_getElem? (i := 132) rfl))) (Or.inr (hw _ (List.mem_of_getElem? (i := 106) rfl))) (by decide) (t := (.array (.object "com/example/sukima/sukima/sql/DataType"))) (t' := .boolean) (by decide) (by decide)))
    have Fdescending_3 : Fld Z h3 a1 "com/example/sukima/sukima/catalog/Index" "descending" "[Z" .null := Fdescending_2.other W3 (Or.inr (slot_ne (Or.inr (hw _ (List.mem_of_getElem? (i := 143) rfl))) (Or.inr (hw _ (List.mem_of_getElem? (i := 106) rfl))) (by decide) (t := (.array .boolean)) (t' := .boolean) (by decide) (by decide)))
    have FprimaryKeyPlaces_3 : Fld Z h3 a1 "com/example/sukima/sukima/catalog/Index" "primaryKeyPlaces" "[I" .null := FprimaryKeyPlaces_2.other W3 (Or.inr (slot_ne (Or.inr (hw _ (List.mem_of_getElem? (i := 145) rfl))) (Or.inr (hw _ (List.mem_of_getElem? (i := 106) rfl))) (by decide) (t := (.array .int)) (t' := .boolean) (by decide) (by decide)))
    have Vc_3 : Arv Z h3 d1 kd .int (Int32.ofNat cols.length) (cols.map Value.int) (.int 0) := Vc_2.other W3 na_d1
    have Yc_3 : Exa Z h3 d1 "[I" := Yc_2.wr W3
    have Vz_3 : Arv Z h3 d2 kz .boolean (Int32.ofNat nz) vz (.int 0) := Vz_2.other W3 na_d2
    have Yz_3 : Exa Z h3 d2 "[Z" := Yz_2.wr W3
    have Vp_3 : Arv Z h3 d3 ke .int (Int32.ofNat pks.length) (pks.map Value.int) (.int 0) := Vp_2.other W3 na_d3
    have Lx_3 : Exa Z h3 ls "java/util/ArrayList" := Lx_2.wr W3
    have Le_3 : Fld Z h3 ls "java/util/ArrayList" "elementData" "[Ljava/lang/Object;" (.ref eb) := Le_2.other W3 (Or.inl na_ls)
    have Ls_3 : Fld Z h3 ls "java/util/ArrayList" "size" "I" (.int (4 : Int32)) := Ls_2.other W3 (Or.inl na_ls)
    have Lm_3 : Fld Z h3 ls "java/util/AbstractList" "modCount" "I" (.int mc) := Lm_2.other W3 (Or.inl na_ls)
    have Vb_3 : Arv Z h3 eb kb (.object "java/lang/Object") (10 : Int32) [.ref c1, .ref c1, .ref c1, .ref c1] .null := Vb_2.other W3 na_eb
    have Cx_3 : Exa Z h3 c1 "com/example/sukima/sukima/catalog/Column" := Cx_2.wr W3
    have Ct_3 : Fld Z h3 c1 "com/example/sukima/sukima/catalog/Column" "type" "Lcom/example/sukima/sukima/sql/DataType;" .null := Ct_2.other W3 (Or.inl na_c1)
    have Fname_3 : Fld Z h3 a1 "com/example/sukima/sukima/catalog/Index" "name" "Ljava/lang/String;" (.ref nm1) := Fname_2.other W3 (Or.inr (slot_ne (Or.inr (hw _ (List.mem_of_getElem? (i := 104) rfl))) (Or.inr (hw _ (List.mem_of_getElem? (i := 106) rfl))) (by decide) (t := (.object "java/lang/String")) (t' := .boolean) (by decide) (by decide)))
    have Funique_3 : Fld Z h3 a1 "com/example/sukima/sukima/catalog/Index" "unique" "Z" (.int (0 : Int32)) := Funique_2.same W3
    have Zs3 : n0 ≤ h3.size := Nat.le_trans Zs2 (Keep.of_wr W3).1
    have Kp3 : Keep h0 h3 [a1] := Kp2.wr W3 (Or.inl (by simp))
    have N3 := Fr.snoc X3 N2 ga
    refine own_go (T1 := T3) (g1 := (mkF m 14 #[.val (.ref a1), .val (.ref nm1), .val (.int (0 : Int32)), .val (.ref d1), .val (.ref d2), .val (.ref d3), .val (.ref ls), .unset] [])) (fun t k => st3 t k) ?_
    refine own_go (T1 := T3) (g1 := (mkF m 15 #[.val (.ref a1), .val (.ref nm1), .val (.int (0 : Int32)), .val (.ref d1), .val (.ref d2), .val (.ref d3), .val (.ref ls), .unset] [(.ref a1)])) (fun _ k => XS.aloadN X3.here hx rfl (hb hby dix_14) rfl rfl k) ?_
    refine own_go (T1 := T3) (g1 := (mkF m 16 #[.val (.ref a1), .val (.ref nm1), .val (.int (0 : Int32)), .val (.ref d1), .val (.ref d2), .val (.ref d3), .val (.ref ls), .unset] [(.ref d1), (.ref a1)])) (fun _ k => XS.aloadN X3.here hx rfl (hb hby dix_15) rfl rfl k) ?_
    obtain ⟨T4, h4, X4, e4, E4, A4, Y4, st4⟩ := cloneH X3 hx hZ hown (hw _ (List.mem_of_getElem? (i := 107) rfl)) (hw _ (List.mem_of_getElem? (i := 108) rfl)) (hw _ (List.mem_of_getElem? (i := 112) rfl)) (hw _ (List.mem_of_getElem? (i := 110) rfl)) (hw _ (List.mem_of_getElem? (i := 111) rfl)) (hw _ (List.mem_of_getElem? (i := 113) rfl)) e3 (hs := []) (vs := (cols.map Value.int)) (dv := (.int 0)) Vc_3 Yc_3 (g := (mkF m 16 #[.val (.ref a1), .val (.ref nm1), .val (.int (0 : Int32)), .val (.ref d1), .val (.ref d2), .val (.ref d3), .val (.ref ls), .unset] [(.ref d1), (.ref a1)])) rfl (by rw [hml]; rfl) rfl (hb hby dix_16) (by decide) (W := 1) (cap := 4) (by show 2 * 0 + _ ≤ _; exact Nat.le_of_eq rfl) (by decide) (own_cap _ (by omega)) (by decide) (by decide)
    obtain ⟨b4, g4⟩ : ∃ z, z = h3.size := ⟨_, rfl⟩
    rw [← g4] at A4 Y4 st4
    have ne_a1_b4 : a1 ≠ b4 := Nat.ne_of_lt (Nat.lt_of_lt_of_le Ex_3.lt (Nat.le_of_eq g4.symm))
    have ne_d1_b4 : d1 ≠ b4 := Nat.ne_of_lt (Nat.lt_of_lt_of_le Vc_3.lt (Nat.le_of_eq g4.symm))
    have ne_d2_b4 : d2 ≠ b4 := Nat.ne_of_lt (Nat.lt_of_lt_of_le Vz_3.lt (Nat.le_of_eq g4.symm))
    have ne_d3_b4 : d3 ≠ b4 := Nat.ne_of_lt (Nat.lt_of_lt_of_le Vp_3.lt (Nat.le_of_eq g4.symm))
    have ne_ls_b4 : ls ≠ b4 := Nat.ne_of_lt (Nat.lt_of_lt_of_le Lx_3.lt (Nat.le_of_eq g4.symm))
    have ne_eb_b4 : eb ≠ b4 := Nat.ne_of_lt (Nat.lt_of_lt_of_le Vb_3.lt (Nat.le_of_eq g4.symm))
    have ne_c1_b4 : c1 ≠ b4 := Nat.ne_of_lt (Nat.lt_of_lt_of_le Cx_3.lt (Nat.le_of_eq g4.symm))
    have ge_b4 : n0 ≤ b4 := Nat.le_trans Zs3 (Nat.le_of_eq g4.symm)
    have sz_b4 : h0.size ≤ b4 := Nat.le_trans Kp3.1 (Nat.le_of_eq g4.symm)
    have Ex_4 : Exa Z h4 a1 "com/example/sukima/sukima/catalog/Index" := Ex_3.ext E4
    have Fcolumns_4 : Fld Z h4 a1 "com/example/sukima/sukima/catalog/Index" "columns" "[I" .null := Fcolumns_3.ext E4
    have FkeyColumns_4 : Fld Z h4 a1 "com/example/sukima/sukima/catalog/Index" "keyColumns" "[I" .null := FkeyColumns_3.ext E4
    have FkeyTypes_4 : Fld Z h4 a1 "com/example/sukima/sukima/catalog/Index" "keyTypes" "[Lcom/example/sukima/sukima/sql/DataType;" .null := FkeyTypes_3.ext E4
    have Fdescending_4 : Fld Z h4 a1 "com/example/sukima/sukima/catalog/Index" "descending" "[Z" .null := Fdescending_3.ext E4
    have FprimaryKeyPlaces_4 : Fld Z h4 a1 "com/example/sukima/sukima/catalog/Index" "primaryKeyPlaces" "[I" .null := FprimaryKeyPlaces_3.ext E4
    have Vc_4 : Arv Z h4 d1 kd .int (Int32.ofNat cols.length) (cols.map Value.int) (.int 0) := Vc_3.ext E4
    have Yc_4 : Exa Z h4 d1 "[I" := Yc_3.ext E4
    have Vz_4 : Arv Z h4 d2 kz .boolean (Int32.ofNat nz) vz (.int 0) := Vz_3.ext E4
    have Yz_4 : Exa Z h4 d2 "[Z" := Yz_3.ext E4
    have Vp_4 : Arv Z h4 d3 ke .int (Int32.ofNat pks.length) (pks.map Value.int) (.int 0) := Vp_3.ext E4
    have Lx_4 : Exa Z h4 ls "java/util/ArrayList" := Lx_3.ext E4
    have Le_4 : Fld Z h4 ls "java/util/ArrayList" "elementData" "[Ljava/lang/Object;" (.ref eb) := Le_3.ext E4
    have Ls_4 : Fld Z h4 ls "java/util/ArrayList" "size" "I" (.int (4 : Int32)) := Ls_3.ext E4
    have Lm_4 : Fld Z h4 ls "java/util/AbstractList" "modCount" "I" (.int mc) := Lm_3.ext E4
    have Vb_4 : Arv Z h4 eb kb (.object "java/lang/Object") (10 : Int32) [.ref c1, .ref c1, .ref c1, .ref c1] .null := Vb_3.ext E4
    have Cx_4 : Exa Z h4 c1 "com/example/sukima/sukima/catalog/Column" := Cx_3.ext E4
    have Ct_4 : Fld Z h4 c1 "com/example/sukima/sukima/catalog/Column" "type" "Lcom/example/sukima/sukima/sql/DataType;" .null := Ct_3.ext E4
    have Fname_4 : Fld Z h4 a1 "com/example/sukima/sukima/catalog/Index" "name" "Ljava/lang/String;" (.ref nm1) := Fname_3.ext E4
    have Funique_4 : Fld Z h4 a1 "com/example/sukima/sukima/catalog/Index" "unique" "Z" (.int (0 : Int32)) := Funique_3.ext E4
    have Zs4 : n0 ≤ h4.size := Nat.le_trans Zs3 E4.1
    have Kp4 : Keep h0 h4 [a1] := Kp3.ext E4
    have Vb4_4 : Arv Z h4 b4 kd .int (Int32.ofNat cols.length) (cols.map Value.int) (.int 0) := A4
    refine own_go (T1 := T4) (g1 := (mkF m 19 #[.val (.ref a1), .val (.ref nm1), .val (.int (0 : Int32)), .val (.ref d1), .val (.ref d2), .val (.ref d3), .val (.ref ls), .unset] [(.ref b4), (.ref a1)])) (fun t k => st4 t k) ?_
    obtain ⟨T5, X5, e5, st5⟩ := castY X4 hx hZ hown (hw _ (List.mem_of_getElem? (i := 114) rfl)) e4 (Ins.self Y4) (g := (mkF m 19 #[.val (.ref a1), .val (.ref nm1), .val (.int (0 : Int32)), .val (.ref d1), .val (.ref d2), .val (.ref d3), .val (.ref ls), .unset] [(.ref b4), (.ref a1)])) rfl rfl (hb hby dix_19)
    refine own_go (T1 := T5) (g1 := (mkF m 22 #[.val (.ref a1), .val (.ref nm1), .val (.int (0 : Int32)), .val (.ref d1), .val (.ref d2), .val (.ref d3), .val (.ref ls), .unset] [(.ref b4), (.ref a1)])) (fun t k => st5 t k) ?_
    obtain ⟨T6, h6, X6, e6, W6, st6⟩ := putF X5 hx hZ hown (host := "") (Or.inl (hw _ (List.mem_of_getElem? (i := 116) rfl))) Via.refl e5 Fcolumns_4 Ex_4 (Or.inr ⟨(hw _ (List.mem_of_getElem? (i := 117) rfl)), rfl, hnm⟩) (hw _ (List.mem_of_getElem? (i := 96) rfl)) (ty := (.array .int)) (by decide) rfl rfl (g := (mkF m 22 #[.val (.ref a1), .val (.ref nm1), .val (.int (0 : Int32)), .val (.ref d1), .val (.ref d2), .val (.ref d3), .val (.ref ls), .unset] [(.ref b4), (.ref a1)])) rfl rfl (hb hby dix_22)
    have Ex_6 : Exa Z h6 a1 "com/example/sukima/sukima/catalog/Index" := Ex_4.wr W6
    have FkeyColumns_6 : Fld Z h6 a1 "com/example/sukima/sukima/catalog/Index" "keyColumns" "[I" .null := FkeyColumns_4.other W6 (Or.inr (slot_ne (Or.inr (hw _ (List.mem_of_getElem? (i := 128) rfl))) (Or.inr (hw _ (List.mem_of_getElem? (i := 117) rfl))) (by decide) (t := (.array .int)) (t' := (.array .int)) (by decide) (by decide)))
    have FkeyTypes_6 : Fld Z h6 a1 "com/example/sukima/sukima/catalog/Index" "keyTypes" "[Lcom/example/sukima/sukima/sql/DataType;" .null := FkeyTypes_4.other W6 (Or.inr (slot_ne (Or.inr (hw _ (List.mem_of_getElem? (i := 132) rfl))) (Or.inr (hw _ (List.mem_of_getElem? (i := 117) rfl))) (by decide) (t := (.array (.object "com/example/sukima/sukima/sql/DataType"))) (t' := (.array .int)) (by decide) (by decide)))
    have Fdescending_6 : Fld Z h6 a1 "com/example/sukima/sukima/catalog/Index" "descending" "[Z" .null := Fdescending_4.other W6 (Or.inr (slot_ne (Or.inr (hw _ (List.mem_of_getElem? (i := 143) rfl))) (Or.inr (hw _ (List.mem_of_getElem? (i := 117) rfl))) (by decide) (t := (.array .boolean)) (t' := (.array .int)) (by decide) (by decide)))
    have FprimaryKeyPlaces_6 : Fld Z h6 a1 "com/example/sukima/sukima/catalog/Index" "primaryKeyPlaces" "[I" .null := FprimaryKeyPlaces_4.other W6 (Or.inr (slot_ne (Or.inr (hw _ (List.mem_of_getElem? (i := 145) rfl))) (Or.inr (hw _ (List.mem_of_getElem? (i := 117) rfl))) (by decide) (t := (.array .int)) (t' := (.array .int)) (by decide) (by decide)))
    have Vc_6 : Arv Z h6 d1 kd .int (Int32.ofNat cols.length) (cols.map Value.int) (.int 0) := Vc_4.other W6 na_d1
    have Yc_6 : Exa Z h6 d1 "[I" := Yc_4.wr W6
    have Vz_6 : Arv Z h6 d2 kz .boolean (Int32.ofNat nz) vz (.int 0) := Vz_4.other W6 na_d2
    have Yz_6 : Exa Z h6 d2 "[Z" := Yz_4.wr W6
    have Vp_6 : Arv Z h6 d3 ke .int (Int32.ofNat pks.length) (pks.map Value.int) (.int 0) := Vp_4.other W6 na_d3
    have Lx_6 : Exa Z h6 ls "java/util/ArrayList" := Lx_4.wr W6
    have Le_6 : Fld Z h6 ls "java/util/ArrayList" "elementData" "[Ljava/lang/Object;" (.ref eb) := Le_4.other W6 (Or.inl na_ls)
    have Ls_6 : Fld Z h6 ls "java/util/ArrayList" "size" "I" (.int (4 : Int32)) := Ls_4.other W6 (Or.inl na_ls)
    have Lm_6 : Fld Z h6 ls "java/util/AbstractList" "modCount" "I" (.int mc) := Lm_4.other W6 (Or.inl na_ls)
    have Vb_6 : Arv Z h6 eb kb (.object "java/lang/Object") (10 : Int32) [.ref c1, .ref c1, .ref c1, .ref c1] .null := Vb_4.other W6 na_eb
    have Cx_6 : Exa Z h6 c1 "com/example/sukima/sukima/catalog/Column" := Cx_4.wr W6
    have Ct_6 : Fld Z h6 c1 "com/example/sukima/sukima/catalog/Column" "type" "Lcom/example/sukima/sukima/sql/DataType;" .null := Ct_4.other W6 (Or.inl na_c1)
    have Fname_6 : Fld Z h6 a1 "com/example/sukima/sukima/catalog/Index" "name" "Ljava/lang/String;" (.ref nm1) := Fname_4.other W6 (Or.inr (slot_ne (Or.inr (hw _ (List.mem_of_getElem? (i := 104) rfl))) (Or.inr (hw _ (List.mem_of_getElem? (i := 117) rfl))) (by decide) (t := (.object "java/lang/String")) (t' := (.array .int)) (by decide) (by decide)))
    have Funique_6 : Fld Z h6 a1 "com/example/sukima/sukima/catalog/Index" "unique" "Z" (.int (0 : Int32)) := Funique_4.other W6 (Or.inr (slot_ne (Or.inr (hw _ (List.mem_of_getElem? (i := 106) rfl))) (Or.inr (hw _ (List.mem_of_getElem? (i := 117) rfl))) (by decide) (t := .boolean) (t' := (.array .int)) (by decide) (by decide)))
    have Vb4_6 : Arv Z h6 b4 kd .int (Int32.ofNat cols.length) (cols.map Value.int) (.int 0) := Vb4_4.other W6 (Ne.symm ne_a1_b4)
    have Yb4_6 : Exa Z h6 b4 "[I" := Y4.wr W6
    have Fcolumns_6 : Fld Z h6 a1 "com/example/sukima/sukima/catalog/Index" "columns" "[I" (.ref b4) := Fcolumns_4.same W6
    have Zs6 : n0 ≤ h6.size := Nat.le_trans Zs4 (Keep.of_wr W6).1
    have Kp6 : Keep h0 h6 [a1] := Kp4.wr W6 (Or.inl (by simp))
    have N6 := Fr.snoc X6 N3 ga
    refine own_go (T1 := T6) (g1 := (mkF m 25 #[.val (.ref a1), .val (.ref nm1), .val (.int (0 : Int32)), .val (.ref d1), .val (.ref d2), .val (.ref d3), .val (.ref ls), .unset] [])) (fun t k => st6 t k) ?_
    refine own_go (T1 := T6) (g1 := (mkF m 26 #[.val (.ref a1), .val (.ref nm1), .val (.int (0 : Int32)), .val (.ref d1), .val (.ref d2), .val (.ref d3), .val (.ref ls), .unset] [(.ref a1)])) (fun _ k => XS.aloadN X6.here hx rfl (hb hby dix_25) rfl rfl k) ?_
    refine own_go (T1 := T6) (g1 := (mkF m 27 #[.val (.ref a1), .val (.ref nm1), .val (.int (0 : Int32)), .val (.ref d1), .val (.ref d2), .val (.ref d3), .val (.ref ls), .unset] [(.ref d1), (.ref a1)])) (fun _ k => XS.aloadN X6.here hx rfl (hb hby dix_26) rfl rfl k) ?_
    refine own_go (T1 := T6) (g1 := (mkF m 29 #[.val (.ref a1), .val (.ref nm1), .val (.int (0 : Int32)), .val (.ref d1), .val (.ref d2), .val (.ref d3), .val (.ref ls), .unset] [(.ref d3), (.ref d1), (.ref a1)])) (fun _ k => XS.aload X6.here hx rfl (hb hby dix_27) rfl rfl k) ?_
    obtain ⟨_, _, ⟨T7, L7, k7, n7⟩, -, X7, ⟨Lc7, hQ7, l7, y7, z7⟩, st7⟩ := Jvm.LawKit.callS X6 hx (y := (⟨"com/example/sukima/sukima/catalog/Index", "keyColumns", "([I[I)[I"⟩ : MethodName)) hown (mvT hZ (hw _ (List.mem_of_getElem? (i := 118) rfl))) (mvT hZ (hw _ (List.mem_of_getElem? (i := 119) rfl))) (mvT hZ (hw _ (List.mem_of_getElem? (i := 97) rfl))) (mvT hZ (hw _ (List.mem_of_getElem? (i := 120) rfl))) (by decide) (backOf (W := 1) (rmkc l Z a0 hw [] d1 d3 kd ke cols pks h6 n0 Zs6 hc hp Vc_6 Vp_6 Yc_6) hZ (hw _ (List.mem_of_getElem? (i := 120) rfl)) (hw _ (List.mem_of_getElem? (i := 97) rfl)) (by decide) (by decide)) (g := (mkF m 29 #[.val (.ref a1), .val (.ref nm1), .val (.int (0 : Int32)), .val (.ref d1), .val (.ref d2), .val (.ref d3), .val (.ref ls), .unset] [(.ref d3), (.ref d1), (.ref a1)])) rfl (by rw [hml]; rfl) (argsL := [(.ref d1), (.ref d3)]) (rest := [(.ref a1)]) (lenOf own_pd_AIAI_AI rfl) rfl (by show 2 * 0 + _ ≤ _; exact Nat.le_of_eq rfl) (hb hby dix_29) (fun _ _ => ⟨rfl, e6, (by decide : 1 + 2 ≤ _), (by decide : 4 + 8 ≤ _)⟩)
    dsimp only [Pt.U, Pt.locs, Pt.cells, Pt.slots] at X7 l7 y7 z7 st7 hQ7
    subst l7 y7 z7
    obtain ⟨b7, kb7, rfl, N7q, K7, sz7, ge7, Vn7, Yn7⟩ := hQ7
    have N7 := Fr.app N6 N7q
    refine own_go (T1 := T7) (g1 := (mkF m 32 #[.val (.ref a1), .val (.ref nm1), .val (.int (0 : Int32)), .val (.ref d1), .val (.ref d2), .val (.ref d3), .val (.ref ls), .unset] [(.ref b7), (.ref a1)])) (fun t k => st7 t k) ?_
    have ne_a1_b7 : a1 ≠ b7 := Nat.ne_of_lt (Nat.lt_of_lt_of_le Fcolumns_6.lt sz7)
    have ne_d1_b7 : d1 ≠ b7 := Nat.ne_of_lt (Nat.lt_of_lt_of_le Yc_6.lt sz7)
    have ne_d2_b7 : d2 ≠ b7 := Nat.ne_of_lt (Nat.lt_of_lt_of_le Yz_6.lt sz7)
    have ne_d3_b7 : d3 ≠ b7 := Nat.ne_of_lt (Nat.lt_of_lt_of_le Vp_6.lt sz7)
    have ne_ls_b7 : ls ≠ b7 := Nat.ne_of_lt (Nat.lt_of_lt_of_le Lm_6.lt sz7)
    have ne_eb_b7 : eb ≠ b7 := Nat.ne_of_lt (Nat.lt_of_lt_of_le Vb_6.lt sz7)
    have ne_c1_b7 : c1 ≠ b7 := Nat.ne_of_lt (Nat.lt_of_lt_of_le Ct_6.lt sz7)
    have ne_b4_b7 : b4 ≠ b7 := Nat.ne_of_lt (Nat.lt_of_lt_of_le Yb4_6.lt sz7)
    have Ex_7 : Exa Z T7.heap a1 "com/example/sukima/sukima/catalog/Index" := Ex_6.keep K7
    have FkeyColumns_7 : Fld Z T7.heap a1 "com/example/sukima/sukima/catalog/Index" "keyColumns" "[I" .null := FkeyColumns_6.keep K7 nin0
    have FkeyTypes_7 : Fld Z T7.heap a1 "com/example/sukima/sukima/catalog/Index" "keyTypes" "[Lcom/example/sukima/sukima/sql/DataType;" .null := FkeyTypes_6.keep K7 nin0
    have Fdescending_7 : Fld Z T7.heap a1 "com/example/sukima/sukima/catalog/Index" "descending" "[Z" .null := Fdescending_6.keep K7 nin0
    have FprimaryKeyPlaces_7 : Fld Z T7.heap a1 "com/example/sukima/sukima/catalog/Index" "primaryKeyPlaces" "[I" .null := FprimaryKeyPlaces_6.keep K7 nin0
    have Vc_7 : Arv Z T7.heap d1 kd .int (Int32.ofNat cols.length) (cols.map Value.int) (.int 0) := Vc_6.keep K7 nin0
    have Yc_7 : Exa Z T7.heap d1 "[I" := Yc_6.keep K7
    have Vz_7 : Arv Z T7.heap d2 kz .boolean (Int32.ofNat nz) vz (.int 0) := Vz_6.keep K7 nin0
    have Yz_7 : Exa Z T7.heap d2 "[Z" := Yz_6.keep K7
    have Vp_7 : Arv Z T7.heap d3 ke .int (Int32.ofNat pks.length) (pks.map Value.int) (.int 0) := Vp_6.keep K7 nin0
    have Lx_7 : Exa Z T7.heap ls "java/util/ArrayList" := Lx_6.keep K7
    have Le_7 : Fld Z T7.heap ls "java/util/ArrayList" "elementData" "[Ljava/lang/Object;" (.ref eb) := Le_6.keep K7 nin0
    have Ls_7 : Fld Z T7.heap ls "java/util/ArrayList" "size" "I" (.int (4 : Int32)) := Ls_6.keep K7 nin0
    have Lm_7 : Fld Z T7.heap ls "java/util/AbstractList" "modCount" "I" (.int mc) := Lm_6.keep K7 nin0
    have Vb_7 : Arv Z T7.heap eb kb (.object "java/lang/Object") (10 : Int32) [.ref c1, .ref c1, .ref c1, .ref c1] .null := Vb_6.keep K7 nin0
    have Cx_7 : Exa Z T7.heap c1 "com/example/sukima/sukima/catalog/Column" := Cx_6.keep K7
    have Ct_7 : Fld Z T7.heap c1 "com/example/sukima/sukima/catalog/Column" "type" "Lcom/example/sukima/sukima/sql/DataType;" .null := Ct_6.keep K7 nin0
    have Fname_7 : Fld Z T7.heap a1 "com/example/sukima/sukima/catalog/Index" "name" "Ljava/lang/String;" (.ref nm1) := Fname_6.keep K7 nin0
    have Funique_7 : Fld Z T7.heap a1 "com/example/sukima/sukima/catalog/Index" "unique" "Z" (.int (0 : Int32)) := Funique_6.keep K7 nin0
    have Vb4_7 : Arv Z T7.heap b4 kd .int (Int32.ofNat cols.length) (cols.map Value.int) (.int 0) := Vb4_6.keep K7 nin0
    have Yb4_7 : Exa Z T7.heap b4 "[I" := Yb4_6.keep K7
    have Fcolumns_7 : Fld Z T7.heap a1 "com/example/sukima/sukima/catalog/Index" "columns" "[I" (.ref b4) := Fcolumns_6.keep K7 nin0
    have hgr : h0.size ≤ b7 := Nat.le_trans Kp6.1 sz7
    obtain ⟨T8, h8, X8, e8, W8, st8⟩ := putF X7 hx hZ hown (host := "") (Or.inl (hw _ (List.mem_of_getElem? (i := 127) rfl))) Via.refl rfl FkeyColumns_7 Ex_7 (Or.inr ⟨(hw _ (List.mem_of_getElem? (i := 128) rfl)), rfl, hnm⟩) (hw _ (List.mem_of_getElem? (i := 96) rfl)) (ty := (.array .int)) (by decide) rfl rfl (g := (mkF m 32 #[.val (.ref a1), .val (.ref nm1), .val (.int (0 : Int32)), .val (.ref d1), .val (.ref d2), .val (.ref d3), .val (.ref ls), .unset] [(.ref b7), (.ref a1)])) rfl rfl (hb hby dix_32)
    have Ex_8 : Exa Z h8 a1 "com/example/sukima/sukima/catalog/Index" := Ex_7.wr W8
    have FkeyTypes_8 : Fld Z h8 a1 "com/example/sukima/sukima/catalog/Index" "keyTypes" "[Lcom/example/sukima/sukima/sql/DataType;" .null := FkeyTypes_7.other W8 (Or.inr (slot_ne (Or.inr (hw _ (List.mem_of_getElem? (i := 132) rfl))) (Or.inr (hw _ (List.mem_of_getElem? (i := 128) rfl))) (by decide) (t := (.array (.object "com/example/sukima/sukima/sql/DataType"))) (t' := (.array .int)) (by decide) (by decide)))
    have Fdescending_8 : Fld Z h8 a1 "com/example/sukima/sukima/catalog/Index" "descending" "[Z" .null := Fdescending_7.other W8 (Or.inr (slot_ne (Or.inr (hw _ (List.mem_of_getElem? (i := 143) rfl))) (Or.inr (hw _ (List.mem_of_getElem? (i := 128) rfl))) (by decide) (t := (.array .boolean)) (t' := (.array .int)) (by decide) (by decide)))
    have FprimaryKeyPlaces_8 : Fld Z h8 a1 "com/example/sukima/sukima/catalog/Index" "primaryKeyPlaces" "[I" .null := FprimaryKeyPlaces_7.other W8 (Or.inr (slot_ne (Or.inr (hw _ (List.mem_of_getElem? (i := 145) rfl))) (Or.inr (hw _ (List.mem_of_getElem? (i := 128) rfl))) (by decide) (t := (.array .int)) (t' := (.array .int)) (by decide) (by decide)))
    have Vc_8 : Arv Z h8 d1 kd .int (Int32.ofNat cols.length) (cols.map Value.int) (.int 0) := Vc_7.other W8 na_d1
    have Yc_8 : Exa Z h8 d1 "[I" := Yc_7.wr W8
    have Vz_8 : Arv Z h8 d2 kz .boolean (Int32.ofNat nz) vz (.int 0) := Vz_7.other W8 na_d2
    have Yz_8 : Exa Z h8 d2 "[Z" := Yz_7.wr W8
    have Vp_8 : Arv Z h8 d3 ke .int (Int32.ofNat pks.length) (pks.map Value.int) (.int 0) := Vp_7.other W8 na_d3
    have Lx_8 : Exa Z h8 ls "java/util/ArrayList" := Lx_7.wr W8
    have Le_8 : Fld Z h8 ls "java/util/ArrayList" "elementData" "[Ljava/lang/Object;" (.ref eb) := Le_7.other W8 (Or.inl na_ls)
    have Ls_8 : Fld Z h8 ls "java/util/ArrayList" "size" "I" (.int (4 : Int32)) := Ls_7.other W8 (Or.inl na_ls)
    have Lm_8 : Fld Z h8 ls "java/util/AbstractList" "modCount" "I" (.int mc) := Lm_7.other W8 (Or.inl na_ls)
    have Vb_8 : Arv Z h8 eb kb (.object "java/lang/Object") (10 : Int32) [.ref c1, .ref c1, .ref c1, .ref c1] .null := Vb_7.other W8 na_eb
    have Cx_8 : Exa Z h8 c1 "com/example/sukima/sukima/catalog/Column" := Cx_7.wr W8
    have Ct_8 : Fld Z h8 c1 "com/example/sukima/sukima/catalog/Column" "type" "Lcom/example/sukima/sukima/sql/DataType;" .null := Ct_7.other W8 (Or.inl na_c1)
    have Fname_8 : Fld Z h8 a1 "com/example/sukima/sukima/catalog/Index" "name" "Ljava/lang/String;" (.ref nm1) := Fname_7.other W8 (Or.inr (slot_ne (Or.inr (hw _ (List.mem_of_getElem? (i := 104) rfl))) (Or.inr (hw _ (List.mem_of_getElem? (i := 128) rfl))) (by decide) (t := (.object "java/lang/String")) (t' := (.array .int)) (by decide) (by decide)))
    have Funique_8 : Fld Z h8 a1 "com/example/sukima/sukima/catalog/Index" "unique" "Z" (.int (0 : Int32)) := Funique_7.other W8 (Or.inr (slot_ne (Or.inr (hw _ (List.mem_of_getElem? (i := 106) rfl))) (Or.inr (hw _ (List.mem_of_getElem? (i := 128) rfl))) (by decide) (t := .boolean) (t' := (.array .int)) (by decide) (by decide)))
    have Vb4_8 : Arv Z h8 b4 kd .int (Int32.ofNat cols.length) (cols.map Value.int) (.int 0) := Vb4_7.other W8 (Ne.symm ne_a1_b4)
    have Yb4_8 : Exa Z h8 b4 "[I" := Yb4_7.wr W8
    have Fcolumns_8 : Fld Z h8 a1 "com/example/sukima/sukima/catalog/Index" "columns" "[I" (.ref b4) := Fcolumns_7.other W8 (Or.inr (slot_ne (Or.inr (hw _ (List.mem_of_getElem? (i := 117) rfl))) (Or.inr (hw _ (List.mem_of_getElem? (i := 128) rfl))) (by decide) (t := (.array .int)) (t' := (.array .int)) (by decide) (by decide)))
    have Vk_8 : Arv Z h8 b7 kb7 .int (Int32.ofNat (cols ++ own_new cols pks).length) ((cols ++ own_new cols pks).map Value.int) (.int 0) := Vn7.other W8 (Ne.symm ne_a1_b7)
    have FkeyColumns_8 : Fld Z h8 a1 "com/example/sukima/sukima/catalog/Index" "keyColumns" "[I" (.ref b7) := FkeyColumns_7.same W8
    have Zs8 : n0 ≤ h8.size := Nat.le_trans (Nat.le_trans Zs6 K7.1) (Keep.of_wr W8).1
    have N8 := Fr.snoc X8 N7 ga
    refine own_go (T1 := T8) (g1 := (mkF m 35 #[.val (.ref a1), .val (.ref nm1), .val (.int (0 : Int32)), .val (.ref d1), .val (.ref d2), .val (.ref d3), .val (.ref ls), .unset] [])) (fun t k => st8 t k) ?_
    refine own_go (T1 := T8) (g1 := (mkF m 36 #[.val (.ref a1), .val (.ref nm1), .val (.int (0 : Int32)), .val (.ref d1), .val (.ref d2), .val (.ref d3), .val (.ref ls), .unset] [(.ref a1)])) (fun _ k => XS.aloadN X8.here hx rfl (hb hby dix_35) rfl rfl k) ?_
    refine own_go (T1 := T8) (g1 := (mkF m 37 #[.val (.ref a1), .val (.ref nm1), .val (.int (0 : Int32)), .val (.ref d1), .val (.ref d2), .val (.ref d3), .val (.ref ls), .unset] [(.ref a1), (.ref a1)])) (fun _ k => XS.aloadN X8.here hx rfl (hb hby dix_36) rfl rfl k) ?_
    obtain ⟨T9, X9, e9, st9⟩ := getF X8 hx hZ hown (host := "") (Or.inl (hw _ (List.mem_of_getElem? (i := 127) rfl))) Via.refl e8 FkeyColumns_8 (g := (mkF m 37 #[.val (.ref a1), .val (.ref nm1), .val (.int (0 : Int32)), .val (.ref d1), .val (.ref d2), .val (.ref d3), .val (.ref ls), .unset] [(.ref a1), (.ref a1)])) rfl rfl (hb hby dix_37)
    refine own_go (T1 := T9) (g1 := (mkF m 40 #[.val (.ref a1), .val (.ref nm1), .val (.int (0 : Int32)), .val (.ref d1), .val (.ref d2), .val (.ref d3), .val (.ref ls), .unset] [(.ref b7), (.ref a1)])) (fun t k => st9 t k) ?_
    obtain ⟨cl10, Ar10, -, S10, N10, -, -⟩ := id Vk_8
    refine own_go (T1 := T9) (g1 := (mkF m 41 #[.val (.ref a1), .val (.ref nm1), .val (.int (0 : Int32)), .val (.ref d1), .val (.ref d2), .val (.ref d3), .val (.ref ls), .unset] [(.int (Int32.ofNat (cols ++ own_new cols pks).length)), (.ref a1)])) (fun _ k => X9.arraylength hx (by rw [e9]; exact Ar10.1) (State.isArrayOf_alike hZ.alike Ar10.2.1) (g := (mkF m 40 #[.val (.ref a1), .val (.ref nm1), .val (.int (0 : Int32)), .val (.ref d1), .val (.ref d2), .val (.ref d3), .val (.ref ls), .unset] [(.ref b7), (.ref a1)])) rfl rfl (hb hby dix_40) _ (by rw [len_of S10 N10]; exact k)) ?_
    obtain ⟨T11, h11, k11, X11, e11, E11, A11, O11, st11⟩ := newR X9 hx hZ hown (hw _ (List.mem_of_getElem? (i := 129) rfl)) (hw _ (List.mem_of_getElem? (i := 130) rfl)) e9 (g := (mkF m 41 #[.val (.ref a1), .val (.ref nm1), .val (.int (0 : Int32)), .val (.ref d1), .val (.ref d2), .val (.ref d3), .val (.ref ls), .unset] [(.int (Int32.ofNat (cols ++ own_new cols pks).length)), (.ref a1)])) rfl (hb hby dix_41) rfl (own_lt8 _ (by have := own_klen cols pks hc hp; omega) 0 (by omega)).2.2 (cap := 4) (own_cap _ (own_klen cols pks hc hp)) (by decide) (by decide) (by decide)
    obtain ⟨b11, g11⟩ : ∃ z, z = h8.size := ⟨_, rfl⟩
    rw [← g11] at A11 st11
    have ne_a1_b11 : a1 ≠ b11 := Nat.ne_of_lt (Nat.lt_of_lt_of_le Ex_8.lt (Nat.le_of_eq g11.symm))
    have ne_d1_b11 : d1 ≠ b11 := Nat.ne_of_lt (Nat.lt_of_lt_of_le Vc_8.lt (Nat.le_of_eq g11.symm))
    have ne_d2_b11 : d2 ≠ b11 := Nat.ne_of_lt (Nat.lt_of_lt_of_le Vz_8.lt (Nat.le_of_eq g11.symm))
    have ne_d3_b11 : d3 ≠ b11 := Nat.ne_of_lt (Nat.lt_of_lt_of_le Vp_8.lt (Nat.le_of_eq g11.symm))
    have ne_ls_b11 : ls ≠ b11 := Nat.ne_of_lt (Nat.lt_of_lt_of_le Lx_8.lt (Nat.le_of_eq g11.symm))
    have ne_eb_b11 : eb ≠ b11 := Nat.ne_of_lt (Nat.lt_of_lt_of_le Vb_8.lt (Nat.le_of_eq g11.symm))
    have ne_c1_b11 : c1 ≠ b11 := Nat.ne_of_lt (Nat.lt_of_lt_of_le Cx_8.lt (Nat.le_of_eq g11.symm))
    have ne_b4_b11 : b4 ≠ b11 := Nat.ne_of_lt (Nat.lt_of_lt_of_le Vb4_8.lt (Nat.le_of_eq g11.symm))
    have ne_b7_b11 : b7 ≠ b11 := Nat.ne_of_lt (Nat.lt_of_lt_of_le Vk_8.lt (Nat.le_of_eq g11.symm))
    have ge_b11 : n0 ≤ b11 := Nat.le_trans Zs8 (Nat.le_of_eq g11.symm)
    have Ex_11 : Exa Z h11 a1 "com/example/sukima/sukima/catalog/Index" := Ex_8.ext E11
    have FkeyTypes_11 : Fld Z h11 a1 "com/example/sukima/sukima/catalog/Index" "keyTypes" "[Lcom/example/sukima/sukima/sql/DataType;" .null := FkeyTypes_8.ext E11
    have Fdescending_11 : Fld Z h11 a1 "com/example/sukima/sukima/catalog/Index" "descending" "[Z" .null := Fdescending_8.ext E11
    have FprimaryKeyPlaces_11 : Fld Z h11 a1 "com/example/sukima/sukima/catalog/Index" "primaryKeyPlaces" "[I" .null := FprimaryKeyPlaces_8.ext E11
    have Vc_11 : Arv Z h11 d1 kd .int (Int32.ofNat cols.length) (cols.map Value.int) (.int 0) := Vc_8.ext E11
    have Yc_11 : Exa Z h11 d1 "[I" := Yc_8.ext E11
    have Vz_11 : Arv Z h11 d2 kz .boolean (Int32.ofNat nz) vz (.int 0) := Vz_8.ext E11
    have Yz_11 : Exa Z h11 d2 "[Z" := Yz_8.ext E11
    have Vp_11 : Arv Z h11 d3 ke .int (Int32.ofNat pks.length) (pks.map Value.int) (.int 0) := Vp_8.ext E11
    have Lx_11 : Exa Z h11 ls "java/util/ArrayList" := Lx_8.ext E11
    have Le_11 : Fld Z h11 ls "java/util/ArrayList" "elementData" "[Ljava/lang/Object;" (.ref eb) := Le_8.ext E11
    have Ls_11 : Fld Z h11 ls "java/util/ArrayList" "size" "I" (.int (4 : Int32)) := Ls_8.ext E11
    have Lm_11 : Fld Z h11 ls "java/util/AbstractList" "modCount" "I" (.int mc) := Lm_8.ext E11
    have Vb_11 : Arv Z h11 eb kb (.object "java/lang/Object") (10 : Int32) [.ref c1, .ref c1, .ref c1, .ref c1] .null := Vb_8.ext E11
    have Cx_11 : Exa Z h11 c1 "com/example/sukima/sukima/catalog/Column" := Cx_8.ext E11
    have Ct_11 : Fld Z h11 c1 "com/example/sukima/sukima/catalog/Column" "type" "Lcom/example/sukima/sukima/sql/DataType;" .null := Ct_8.ext E11
    have Fname_11 : Fld Z h11 a1 "com/example/sukima/sukima/catalog/Index" "name" "Ljava/lang/String;" (.ref nm1) := Fname_8.ext E11
    have Funique_11 : Fld Z h11 a1 "com/example/sukima/sukima/catalog/Index" "unique" "Z" (.int (0 : Int32)) := Funique_8.ext E11
    have Vb4_11 : Arv Z h11 b4 kd .int (Int32.ofNat cols.length) (cols.map Value.int) (.int 0) := Vb4_8.ext E11
    have Yb4_11 : Exa Z h11 b4 "[I" := Yb4_8.ext E11
    have Fcolumns_11 : Fld Z h11 a1 "com/example/sukima/sukima/catalog/Index" "columns" "[I" (.ref b4) := Fcolumns_8.ext E11
    have Vk_11 : Arv Z h11 b7 kb7 .int (Int32.ofNat (cols ++ own_new cols pks).length) ((cols ++ own_new cols pks).map Value.int) (.int 0) := Vk_8.ext E11
    have FkeyColumns_11 : Fld Z h11 a1 "com/example/sukima/sukima/catalog/Index" "keyColumns" "[I" (.ref b7) := FkeyColumns_8.ext E11
    have Zs11 : n0 ≤ h11.size := Nat.le_trans Zs8 E11.1
    have Vb11_11 : Arv Z h11 b11 k11 (.object "com/example/sukima/sukima/sql/DataType") (Int32.ofNat (cols ++ own_new cols pks).length) [] .null := Arv.new A11 (own_lt8 _ (by have := own_klen cols pks hc hp; omega) 0 (by omega)).2.2
    refine own_go (T1 := T11) (g1 := (mkF m 44 #[.val (.ref a1), .val (.ref nm1), .val (.int (0 : Int32)), .val (.ref d1), .val (.ref d2), .val (.ref d3), .val (.ref ls), .unset] [(.ref b11), (.ref a1)])) (fun t k => st11 t k) ?_
    obtain ⟨T12, h12, X12, e12, W12, st12⟩ := putF X11 hx hZ hown (host := "") (Or.inl (hw _ (List.mem_of_getElem? (i := 131) rfl))) Via.refl e11 FkeyTypes_11 Ex_11 (Or.inr ⟨(hw _ (List.mem_of_getElem? (i := 132) rfl)), rfl, hnm⟩) (hw _ (List.mem_of_getElem? (i := 96) rfl)) (ty := (.array (.object "com/example/sukima/sukima/sql/DataType"))) (by decide) rfl rfl (g := (mkF m 44 #[.val (.ref a1), .val (.ref nm1), .val (.int (0 : Int32)), .val (.ref d1), .val (.ref d2), .val (.ref d3), .val (.ref ls), .unset] [(.ref b11), (.ref a1)])) rfl rfl (hb hby dix_44)
    have Ex_12 : Exa Z h12 a1 "com/example/sukima/sukima/catalog/Index" := Ex_11.wr W12
    have Fdescending_12 : Fld Z h12 a1 "com/example/sukima/sukima/catalog/Index" "descending" "[Z" .null := Fdescending_11.other W12 (Or.inr (slot_ne (Or.inr (hw _ (List.mem_of_getElem? (i := 143) rfl))) (Or.inr (hw _ (List.mem_of_getElem? (i := 132) rfl))) (by decide) (t := (.array .boolean)) (t' := (.array (.object "com/example/sukima/sukima/sql/DataType"))) (by decide) (by decide)))
    have FprimaryKeyPlaces_12 : Fld Z h12 a1 "com/example/sukima/sukima/catalog/Index" "primaryKeyPlaces" "[I" .null := FprimaryKeyPlaces_11.other W12 (Or.inr (slot_ne (Or.inr (hw _ (List.mem_of_getElem? (i := 145) rfl))) (Or.inr (hw _ (List.mem_of_getElem? (i := 132) rfl))) (by decide) (t := (.array .int)) (t' := (.array (.object "com/example/sukima/sukima/sql/DataType"))) (by decide) (by decide)))
    have Vc_12 : Arv Z h12 d1 kd .int (Int32.ofNat cols.length) (cols.map Value.int) (.int 0) := Vc_11.other W12 na_d1
    have Yc_12 : Exa Z h12 d1 "[I" := Yc_11.wr W12
    have Vz_12 : Arv Z h12 d2 kz .boolean (Int32.ofNat nz) vz (.int 0) := Vz_11.other W12 na_d2
    have Yz_12 : Exa Z h12 d2 "[Z" := Yz_11.wr W12
    have Vp_12 : Arv Z h12 d3 ke .int (Int32.ofNat pks.length) (pks.map Value.int) (.int 0) := Vp_11.other W12 na_d3
    have Lx_12 : Exa Z h12 ls "java/util/ArrayList" := Lx_11.wr W12
    have Le_12 : Fld Z h12 ls "java/util/ArrayList" "elementData" "[Ljava/lang/Object;" (.ref eb) := Le_11.other W12 (Or.inl na_ls)
    have Ls_12 : Fld Z h12 ls "java/util/ArrayList" "size" "I" (.int (4 : Int32)) := Ls_11.other W12 (Or.inl na_ls)
    have Lm_12 : Fld Z h12 ls "java/util/AbstractList" "modCount" "I" (.int mc) := Lm_11.other W12 (Or.inl na_ls)
    have Vb_12 : Arv Z h12 eb kb (.object "java/lang/Object") (10 : Int32) [.ref c1, .ref c1, .ref c1, .ref c1] .null := Vb_11.other W12 na_eb
    have Cx_12 : Exa Z h12 c1 "com/example/sukima/sukima/catalog/Column" := Cx_11.wr W12
    have Ct_12 : Fld Z h12 c1 "com/example/sukima/sukima/catalog/Column" "type" "Lcom/example/sukima/sukima/sql/DataType;" .null := Ct_11.other W12 (Or.inl na_c1)
    have Fname_12 : Fld Z h12 a1 "com/example/sukima/sukima/catalog/Index" "name" "Ljava/lang/String;" (.ref nm1) := Fname_11.other W12 (Or.inr (slot_ne (Or.inr (hw _ (List.mem_of_getElem? (i := 104) rfl))) (Or.inr (hw _ (List.mem_of_getElem? (i := 132) rfl))) (by decide) (t := (.object "java/lang/String")) (t' := (.array (.object "com/example/sukima/sukima/sql/DataType"))) (by decide) (by decide)))
    have Funique_12 : Fld Z h12 a1 "com/example/sukima/sukima/catalog/Index" "unique" "Z" (.int (0 : Int32)) := Funique_11.other W12 (Or.inr (slot_ne (Or.inr (hw _ (List.mem_of_getElem? (i := 106) rfl))) (Or.inr (hw _ (List.mem_of_getElem? (i := 132) rfl))) (by decide) (t := .boolean) (t' := (.array (.object "com/example/sukima/sukima/sql/DataType"))) (by decide) (by decide)))
    have Vb4_12 : Arv Z h12 b4 kd .int (Int32.ofNat cols.length) (cols.map Value.int) (.int 0) := Vb4_11.other W12 (Ne.symm ne_a1_b4)
    have Yb4_12 : Exa Z h12 b4 "[I" := Yb4_11.wr W12
    have Fcolumns_12 : Fld Z h12 a1 "com/example/sukima/sukima/catalog/Index" "columns" "[I" (.ref b4) := Fcolumns_11.other W12 (Or.inr (slot_ne (Or.inr (hw _ (List.mem_of_getElem? (i := 117) rfl))) (Or.inr (hw _ (List.mem_of_getElem? (i := 132) rfl))) (by decide) (t := (.array .int)) (t' := (.array (.object "com/example/sukima/sukima/sql/DataType"))) (by decide) (by decide)))
    have Vk_12 : Arv Z h12 b7 kb7 .int (Int32.ofNat (cols ++ own_new cols pks).length) ((cols ++ own_new cols pks).map Value.int) (.int 0) := Vk_11.other W12 (Ne.symm ne_a1_b7)
    have FkeyColumns_12 : Fld Z h12 a1 "com/example/sukima/sukima/catalog/Index" "keyColumns" "[I" (.ref b7) := FkeyColumns_11.other W12 (Or.inr (slot_ne (Or.inr (hw _ (List.mem_of_getElem? (i := 128) rfl))) (Or.inr (hw _ (List.mem_of_getElem? (i := 132) rfl))) (by decide) (t := (.array .int)) (t' := (.array (.object "com/example/sukima/sukima/sql/DataType"))) (by decide) (by decide)))
    have Vb11_12 : Arv Z h12 b11 k11 (.object "com/example/sukima/sukima/sql/DataType") (Int32.ofNat (cols ++ own_new cols pks).length) [] .null := Vb11_11.other W12 (Ne.symm ne_a1_b11)
    have FkeyTypes_12 : Fld Z h12 a1 "com/example/sukima/sukima/catalog/Index" "keyTypes" "[Lcom/example/sukima/sukima/sql/DataType;" (.ref b11) := FkeyTypes_11.same W12
    have Zs12 : n0 ≤ h12.size := Nat.le_trans Zs11 (Keep.of_wr W12).1
    have N12 := Fr.snoc X12 N8 ga
    refine own_go (T1 := T12) (g1 := (mkF m 47 #[.val (.ref a1), .val (.ref nm1), .val (.int (0 : Int32)), .val (.ref d1), .val (.ref d2), .val (.ref d3), .val (.ref ls), .unset] [])) (fun t k => st12 t k) ?_
    refine own_go (T1 := T12) (g1 := (mkF m 48 #[.val (.ref a1), .val (.ref nm1), .val (.int (0 : Int32)), .val (.ref d1), .val (.ref d2), .val (.ref d3), .val (.ref ls), .unset] [(.int (0 : Int32))])) (fun _ k => XS.iconst X12.here hx rfl (hb hby dix_47) k) ?_
    refine own_go (T1 := T12) (g1 := (mkF m 50 #[.val (.ref a1), .val (.ref nm1), .val (.int (0 : Int32)), .val (.ref d1), .val (.ref d2), .val (.ref d3), .val (.ref ls), .val (.int (0 : Int32))] [])) (fun _ k => XS.istore X12.here hx rfl (hb hby dix_48) rfl (l' := #[.val (.ref a1), .val (.ref nm1), .val (.int (0 : Int32)), .val (.ref d1), .val (.ref d2), .val (.ref d3), .val (.ref ls), .val (.int (0 : Int32))]) rfl k) ?_
    refine own_then (own_xL1 a1 nm1 d1 d2 d3 ls eb c1 b7 b11 kb7 k11 kb kz ke mc (Int32.ofNat nz) (Int32.ofNat pks.length) (cols ++ own_new cols pks) vz (pks.map Value.int) (own_klen cols pks hc hp) hrng hx hZ hw hby hml hown hnm (cols ++ own_new cols pks) [] _ T12 _ _ rfl X12 rfl N12 (by rw [e12]; exact ⟨Ex_12, FkeyColumns_12, FkeyTypes_12, Fdescending_12, FprimaryKeyPlaces_12, Vk_12, Vb11_12, ⟨Lx_12, Le_12, Ls_12, Lm_12, gl⟩, Vb_12, Cx_12, Ct_12, Vz_12, Yz_12, Vp_12, ga, ge_b11, ne_b7_b11, ne_ls_b11, ne_eb_b11, ne_c1_b11, ne_d2_b11, ne_d3_b11, ne_a1_b11⟩)) ?_
    rintro T' g' L' kq zq X' ⟨i', rfl, rfl, rfl, N', vt', HI⟩
    have HI0 := HI
    obtain ⟨Ex, Fk, Ft, Fd, Fp, Vk, Vt, -, -, -, -, Vz, Yz, Vp, ga', -, -, -, -, -, -, -, -⟩ := HI
    refine own_go (T1 := T') (g1 := (mkF m 94 #[.val (.ref a1), .val (.ref nm1), .val (.int (0 : Int32)), .val (.ref d1), .val (.ref d2), .val (.ref d3), .val (.ref ls), .val (.int i')] [(.ref a1)])) (fun _ k => XS.aloadN X'.here hx rfl (hb hby dix_93) rfl rfl k) ?_
    refine own_go (T1 := T') (g1 := (mkF m 96 #[.val (.ref a1), .val (.ref nm1), .val (.int (0 : Int32)), .val (.ref d1), .val (.ref d2), .val (.ref d3), .val (.ref ls), .val (.int i')] [(.ref d2), (.ref a1)])) (fun _ k => XS.aload X'.here hx rfl (hb hby dix_94) rfl rfl k) ?_
    refine own_go (T1 := T') (g1 := (mkF m 97 #[.val (.ref a1), .val (.ref nm1), .val (.int (0 : Int32)), .val (.ref d1), .val (.ref d2), .val (.ref d3), .val (.ref ls), .val (.int i')] [(.ref a1), (.ref d2), (.ref a1)])) (fun _ k => XS.aloadN X'.here hx rfl (hb hby dix_96) rfl rfl k) ?_
    obtain ⟨T13, X13, e13, st13⟩ := getF X' hx hZ hown (host := "") (Or.inl (hw _ (List.mem_of_getElem? (i := 127) rfl))) Via.refl rfl Fk (g := (mkF m 97 #[.val (.ref a1), .val (.ref nm1), .val (.int (0 : Int32)), .val (.ref d1), .val (.ref d2), .val (.ref d3), .val (.ref ls), .val (.int i')] [(.ref a1), (.ref d2), (.ref a1)])) rfl rfl (hb hby dix_97)
    refine own_go (T1 := T13) (g1 := (mkF m 100 #[.val (.ref a1), .val (.ref nm1), .val (.int (0 : Int32)), .val (.ref d1), .val (.ref d2), .val (.ref d3), .val (.ref ls), .val (.int i')] [(.ref b7), (.ref d2), (.ref a1)])) (fun t k => st13 t k) ?_
    obtain ⟨cl14, Ar14, -, S14, N14, -, -⟩ := id Vk
    refine own_go (T1 := T13) (g1 := (mkF m 101 #[.val (.ref a1), .val (.ref nm1), .val (.int (0 : Int32)), .val (.ref d1), .val (.ref d2), .val (.ref d3), .val (.ref ls), .val (.int i')] [(.int (Int32.ofNat (cols ++ own_new cols pks).length)), (.ref d2), (.ref a1)])) (fun _ k => X13.arraylength hx (by rw [e13]; exact Ar14.1) (State.isArrayOf_alike hZ.alike Ar14.2.1) (g := (mkF m 100 #[.val (.ref a1), .val (.ref nm1), .val (.int (0 : Int32)), .val (.ref d1), .val (.ref d2), .val (.ref d3), .val (.ref ls), .val (.int i')] [(.ref b7), (.ref d2), (.ref a1)])) rfl rfl (hb hby dix_100) _ (by rw [len_of S14 N14]; exact k)) ?_
    obtain ⟨_, _, ⟨T15, L15, k15, n15⟩, -, X15, ⟨Lc15, hQ15, l15, y15, z15⟩, st15⟩ := Jvm.LawKit.callS X13 hx (y := (⟨"java/util/Arrays", "copyOf", "([ZI)[Z"⟩ : MethodName)) hown (mvT hZ (hw _ (List.mem_of_getElem? (i := 133) rfl))) (mvT hZ (hw _ (List.mem_of_getElem? (i := 134) rfl))) (mvT hZ (hw _ (List.mem_of_getElem? (i := 123) rfl))) (mvT hZ (hw _ (List.mem_of_getElem? (i := 135) rfl))) (by decide) (backOf (W := 1) (rmcz l Z a0 hw [] d2 kz nz (cols ++ own_new cols pks).length vz T'.heap n0 (Nat.le_of_lt (Nat.lt_of_le_of_lt HI0.2.2.2.2.2.2.2.2.2.2.2.2.2.2.1 HI0.1.lt)) (by omega) (own_klen cols pks hc hp) Vz Yz) hZ (hw _ (List.mem_of_getElem? (i := 135) rfl)) (hw _ (List.mem_of_getElem? (i := 123) rfl)) (by decide) (by decide)) (g := (mkF m 101 #[.val (.ref a1), .val (.ref nm1), .val (.int (0 : Int32)), .val (.ref d1), .val (.ref d2), .val (.ref d3), .val (.ref ls), .val (.int i')] [(.int (Int32.ofNat (cols ++ own_new cols pks).length)), (.ref d2), (.ref a1)])) rfl (by rw [hml]; rfl) (argsL := [(.ref d2), (.int (Int32.ofNat (cols ++ own_new cols pks).length))]) (rest := [(.ref a1)]) (lenOf own_pd_AZI_AZ rfl) rfl (by show 2 * 0 + _ ≤ _; exact Nat.le_of_eq rfl) (hb hby dix_101) (fun _ _ => ⟨rfl, e13, (by decide : 4 + 1 ≤ _), (by decide : 16 + 4 ≤ _)⟩)
    dsimp only [Pt.U, Pt.locs, Pt.cells, Pt.slots] at X15 l15 y15 z15 st15 hQ15
    subst l15 y15 z15
    obtain ⟨b15, rfl, N15q, K15, sz15, ge15⟩ := hQ15
    have N15 := Fr.app N' N15q
    refine own_go (T1 := T15) (g1 := (mkF m 104 #[.val (.ref a1), .val (.ref nm1), .val (.int (0 : Int32)), .val (.ref d1), .val (.ref d2), .val (.ref d3), .val (.ref ls), .val (.int i')] [(.ref b15), (.ref a1)])) (fun t k => st15 t k) ?_
    have Ex_15 : Exa Z T15.heap a1 "com/example/sukima/sukima/catalog/Index" := Ex.keep K15
    have Fk_15 : Fld Z T15.heap a1 "com/example/sukima/sukima/catalog/Index" "keyColumns" "[I" (.ref b7) := Fk.keep K15 nin0
    have Fd_15 : Fld Z T15.heap a1 "com/example/sukima/sukima/catalog/Index" "descending" "[Z" .null := Fd.keep K15 nin0
    have Fp_15 : Fld Z T15.heap a1 "com/example/sukima/sukima/catalog/Index" "primaryKeyPlaces" "[I" .null := Fp.keep K15 nin0
    have Vk_15 : Arv Z T15.heap b7 kb7 .int (Int32.ofNat (cols ++ own_new cols pks).length) ((cols ++ own_new cols pks).map Value.int) (.int 0) := Vk.keep K15 nin0
    have Vz_15 : Arv Z T15.heap d2 kz .boolean (Int32.ofNat nz) vz (.int 0) := Vz.keep K15 nin0
    have Yz_15 : Exa Z T15.heap d2 "[Z" := Yz.keep K15
    have Vp_15 : Arv Z T15.heap d3 ke .int (Int32.ofNat pks.length) (pks.map Value.int) (.int 0) := Vp.keep K15 nin0
    obtain ⟨T16, h16, X16, e16, W16, st16⟩ := putF X15 hx hZ hown (host := "") (Or.inl (hw _ (List.mem_of_getElem? (i := 142) rfl))) Via.refl rfl Fd_15 Ex_15 (Or.inr ⟨(hw _ (List.mem_of_getElem? (i := 143) rfl)), rfl, hnm⟩) (hw _ (List.mem_of_getElem? (i := 96) rfl)) (ty := (.array .boolean)) (by decide) rfl rfl (g := (mkF m 104 #[.val (.ref a1), .val (.ref nm1), .val (.int (0 : Int32)), .val (.ref d1), .val (.ref d2), .val (.ref d3), .val (.ref ls), .val (.int i')] [(.ref b15), (.ref a1)])) rfl rfl (hb hby dix_104)
    have Ex_16 : Exa Z h16 a1 "com/example/sukima/sukima/catalog/Index" := Ex_15.wr W16
    have Fk_16 : Fld Z h16 a1 "com/example/sukima/sukima/catalog/Index" "keyColumns" "[I" (.ref b7) := Fk_15.other W16 (Or.inr (slot_ne (Or.inr (hw _ (List.mem_of_getElem? (i := 128) rfl))) (Or.inr (hw _ (List.mem_of_getElem? (i := 143) rfl))) (by decide) (t := (.array .int)) (t' := (.array .boolean)) (by decide) (by decide)))
    have Fp_16 : Fld Z h16 a1 "com/example/sukima/sukima/catalog/Index" "primaryKeyPlaces" "[I" .null := Fp_15.other W16 (Or.inr (slot_ne (Or.inr (hw _ (List.mem_of_getElem? (i := 145) rfl))) (Or.inr (hw _ (List.mem_of_getElem? (i := 143) rfl))) (by decide) (t := (.array .int)) (t' := (.array .boolean)) (by decide) (by decide)))
    have Vk_16 : Arv Z h16 b7 kb7 .int (Int32.ofNat (cols ++ own_new cols pks).length) ((cols ++ own_new cols pks).map Value.int) (.int 0) := Vk_15.other W16 (Ne.symm ne_a1_b7)
    have Vz_16 : Arv Z h16 d2 kz .boolean (Int32.ofNat nz) vz (.int 0) := Vz_15.other W16 na_d2
    have Yz_16 : Exa Z h16 d2 "[Z" := Yz_15.wr W16
    have Vp_16 : Arv Z h16 d3 ke .int (Int32.ofNat pks.length) (pks.map Value.int) (.int 0) := Vp_15.other W16 na_d3
    have Fd_16 : Fld Z h16 a1 "com/example/sukima/sukima/catalog/Index" "descending" "[Z" (.ref b15) := Fd_15.same W16
    have Zs16 : n0 ≤ h16.size := Nat.le_trans (Nat.le_trans (Nat.le_of_lt (Nat.lt_of_le_of_lt HI0.2.2.2.2.2.2.2.2.2.2.2.2.2.2.1 HI0.1.lt)) K15.1) (Keep.of_wr W16).1
    have N16 := Fr.snoc X16 N15 ga
    refine own_go (T1 := T16) (g1 := (mkF m 107 #[.val (.ref a1), .val (.ref nm1), .val (.int (0 : Int32)), .val (.ref d1), .val (.ref d2), .val (.ref d3), .val (.ref ls), .val (.int i')] [])) (fun t k => st16 t k) ?_
    refine own_go (T1 := T16) (g1 := (mkF m 108 #[.val (.ref a1), .val (.ref nm1), .val (.int (0 : Int32)), .val (.ref d1), .val (.ref d2), .val (.ref d3), .val (.ref ls), .val (.int i')] [(.ref a1)])) (fun _ k => XS.aloadN X16.here hx rfl (hb hby dix_107) rfl rfl k) ?_
    refine own_go (T1 := T16) (g1 := (mkF m 110 #[.val (.ref a1), .val (.ref nm1), .val (.int (0 : Int32)), .val (.ref d1), .val (.ref d2), .val (.ref d3), .val (.ref ls), .val (.int i')] [(.ref d3), (.ref a1)])) (fun _ k => XS.aload X16.here hx rfl (hb hby dix_108) rfl rfl k) ?_
    obtain ⟨cl17, Ar17, -, S17, N17, -, -⟩ := id Vp_16
    refine own_go (T1 := T16) (g1 := (mkF m 111 #[.val (.ref a1), .val (.ref nm1), .val (.int (0 : Int32)), .val (.ref d1), .val (.ref d2), .val (.ref d3), .val (.ref ls), .val (.int i')] [(.int (Int32.ofNat pks.length)), (.ref a1)])) (fun _ k => X16.arraylength hx (by rw [e16]; exact Ar17.1) (State.isArrayOf_alike hZ.alike Ar17.2.1) (g := (mkF m 110 #[.val (.ref a1), .val (.ref nm1), .val (.int (0 : Int32)), .val (.ref d1), .val (.ref d2), .val (.ref d3), .val (.ref ls), .val (.int i')] [(.ref d3), (.ref a1)])) rfl rfl (hb hby dix_110) _ (by rw [len_of S17 N17]; exact k)) ?_
    obtain ⟨T18, h18, k18, X18, e18, E18, A18, st18⟩ := newP X16 hx hZ (hw _ (List.mem_of_getElem? (i := 1) rfl)) e16 (g := (mkF m 111 #[.val (.ref a1), .val (.ref nm1), .val (.int (0 : Int32)), .val (.ref d1), .val (.ref d2), .val (.ref d3), .val (.ref ls), .val (.int i')] [(.int (Int32.ofNat pks.length)), (.ref a1)])) rfl (hb hby dix_111) rfl (own_lt8 _ (by omega) 0 (by omega)).2.2 (cap := 4) (own_cap _ (by omega)) (by decide) (by decide) (by decide)
    obtain ⟨b18, g18⟩ : ∃ z, z = h16.size := ⟨_, rfl⟩
    rw [← g18] at A18 st18
    have ne_a1_b18 : a1 ≠ b18 := Nat.ne_of_lt (Nat.lt_of_lt_of_le Ex_16.lt (Nat.le_of_eq g18.symm))
    have ne_b7_b18 : b7 ≠ b18 := Nat.ne_of_lt (Nat.lt_of_lt_of_le Vk_16.lt (Nat.le_of_eq g18.symm))
    have ne_d2_b18 : d2 ≠ b18 := Nat.ne_of_lt (Nat.lt_of_lt_of_le Vz_16.lt (Nat.le_of_eq g18.symm))
    have ne_d3_b18 : d3 ≠ b18 := Nat.ne_of_lt (Nat.lt_of_lt_of_le Vp_16.lt (Nat.le_of_eq g18.symm))
    have ge_b18 : n0 ≤ b18 := Nat.le_trans Zs16 (Nat.le_of_eq g18.symm)
    have Ex_18 : Exa Z h18 a1 "com/example/sukima/sukima/catalog/Index" := Ex_16.ext E18
    have Fk_18 : Fld Z h18 a1 "com/example/sukima/sukima/catalog/Index" "keyColumns" "[I" (.ref b7) := Fk_16.ext E18
    have Fp_18 : Fld Z h18 a1 "com/example/sukima/sukima/catalog/Index" "primaryKeyPlaces" "[I" .null := Fp_16.ext E18
    have Vk_18 : Arv Z h18 b7 kb7 .int (Int32.ofNat (cols ++ own_new cols pks).length) ((cols ++ own_new cols pks).map Value.int) (.int 0) := Vk_16.ext E18
    have Vz_18 : Arv Z h18 d2 kz .boolean (Int32.ofNat nz) vz (.int 0) := Vz_16.ext E18
    have Yz_18 : Exa Z h18 d2 "[Z" := Yz_16.ext E18
    have Vp_18 : Arv Z h18 d3 ke .int (Int32.ofNat pks.length) (pks.map Value.int) (.int 0) := Vp_16.ext E18
    have Fd_18 : Fld Z h18 a1 "com/example/sukima/sukima/catalog/Index" "descending" "[Z" (.ref b15) := Fd_16.ext E18
    have Zs18 : n0 ≤ h18.size := Nat.le_trans Zs16 E18.1
    have Vb18_18 : Arv Z h18 b18 k18 .int (Int32.ofNat pks.length) [] (.int 0) := Arv.new A18 (own_lt8 _ (by omega) 0 (by omega)).2.2
    refine own_go (T1 := T18) (g1 := (mkF m 113 #[.val (.ref a1), .val (.ref nm1), .val (.int (0 : Int32)), .val (.ref d1), .val (.ref d2), .val (.ref d3), .val (.ref ls), .val (.int i')] [(.ref b18), (.ref a1)])) (fun t k => st18 t k) ?_
    obtain ⟨T19, h19, X19, e19, W19, st19⟩ := putF X18 hx hZ hown (host := "") (Or.inl (hw _ (List.mem_of_getElem? (i := 144) rfl))) Via.refl e18 Fp_18 Ex_18 (Or.inr ⟨(hw _ (List.mem_of_getElem? (i := 145) rfl)), rfl, hnm⟩) (hw _ (List.mem_of_getElem? (i := 96) rfl)) (ty := (.array .int)) (by decide) rfl rfl (g := (mkF m 113 #[.val (.ref a1), .val (.ref nm1), .val (.int (0 : Int32)), .val (.ref d1), .val (.ref d2), .val (.ref d3), .val (.ref ls), .val (.int i')] [(.ref b18), (.ref a1)])) rfl rfl (hb hby dix_113)
    have Ex_19 : Exa Z h19 a1 "com/example/sukima/sukima/catalog/Index" := Ex_18.wr W19
    have Fk_19 : Fld Z h19 a1 "com/example/sukima/sukima/catalog/Index" "keyColumns" "[I" (.ref b7) := Fk_18.other W19 (Or.inr (slot_ne (Or.inr (hw _ (List.mem_of_getElem? (i := 128) rfl))) (Or.inr (hw _ (List.mem_of_getElem? (i := 145) rfl))) (by decide) (t := (.array .int)) (t' := (.array .int)) (by decide) (by decide)))
    have Vk_19 : Arv Z h19 b7 kb7 .int (Int32.ofNat (cols ++ own_new cols pks).length) ((cols ++ own_new cols pks).map Value.int) (.int 0) := Vk_18.other W19 (Ne.symm ne_a1_b7)
    have Vz_19 : Arv Z h19 d2 kz .boolean (Int32.ofNat nz) vz (.int 0) := Vz_18.other W19 na_d2
    have Yz_19 : Exa Z h19 d2 "[Z" := Yz_18.wr W19
    have Vp_19 : Arv Z h19 d3 ke .int (Int32.ofNat pks.length) (pks.map Value.int) (.int 0) := Vp_18.other W19 na_d3
    have Fd_19 : Fld Z h19 a1 "com/example/sukima/sukima/catalog/Index" "descending" "[Z" (.ref b15) := Fd_18.other W19 (Or.inr (slot_ne (Or.inr (hw _ (List.mem_of_getElem? (i := 143) rfl))) (Or.inr (hw _ (List.mem_of_getElem? (i := 145) rfl))) (by decide) (t := (.array .boolean)) (t' := (.array .int)) (by decide) (by decide)))
    have Vb18_19 : Arv Z h19 b18 k18 .int (Int32.ofNat pks.length) [] (.int 0) := Vb18_18.other W19 (Ne.symm ne_a1_b18)
    have Fp_19 : Fld Z h19 a1 "com/example/sukima/sukima/catalog/Index" "primaryKeyPlaces" "[I" (.ref b18) := Fp_18.same W19
    have Zs19 : n0 ≤ h19.size := Nat.le_trans Zs18 (Keep.of_wr W19).1
    have N19 := Fr.snoc X19 N16 ga
    refine own_go (T1 := T19) (g1 := (mkF m 116 #[.val (.ref a1), .val (.ref nm1), .val (.int (0 : Int32)), .val (.ref d1), .val (.ref d2), .val (.ref d3), .val (.ref ls), .val (.int i')] [])) (fun t k => st19 t k) ?_
    refine own_go (T1 := T19) (g1 := (mkF m 117 #[.val (.ref a1), .val (.ref nm1), .val (.int (0 : Int32)), .val (.ref d1), .val (.ref d2), .val (.ref d3), .val (.ref ls), .val (.int i')] [(.int (0 : Int32))])) (fun _ k => XS.iconst X19.here hx rfl (hb hby dix_116) k) ?_
    refine own_go (T1 := T19) (g1 := (mkF m 119 #[.val (.ref a1), .val (.ref nm1), .val (.int (0 : Int32)), .val (.ref d1), .val (.ref d2), .val (.ref d3), .val (.ref ls), .val (.int (0 : Int32))] [])) (fun _ k => XS.istore X19.here hx rfl (hb hby dix_117) rfl (l' := #[.val (.ref a1), .val (.ref nm1), .val (.int (0 : Int32)), .val (.ref d1), .val (.ref d2), .val (.ref d3), .val (.ref ls), .val (.int (0 : Int32))]) rfl k) ?_
    refine own_then (own_xL2 a1 nm1 d1 d2 d3 ls b7 b18 kb7 k18 ke (cols ++ own_new cols pks) pks (own_klen cols pks hc hp) hp hx hZ hw hby hml hown hnm pks [] _ T19 _ _ rfl X19 rfl N19 (by rw [e19]; exact ⟨Ex_19, Fk_19, Fp_19, Vk_19, Vb18_19, Vp_19, ga, ge_b18, ne_a1_b18, ne_b7_b18, ne_d3_b18⟩)) ?_
    rintro T2 g2 L2 kq zq X2 ⟨i2, rfl, rfl, rfl, N2, vq, HI2⟩
    exact ⟨T2, _, _, _, _, X2, ⟨149, _, rfl, (hb hby dix_149), rfl, rfl, rfl, N2, Nat.le_of_lt (Nat.lt_of_le_of_lt hgr HI2.2.2.2.1.lt), b7, kb7, HI2.1, HI2.2.1, HI2.2.2.2.1⟩, fun _ k => k⟩
  obtain ⟨T', g', L', k', n', X', ⟨pcr, Ls, rfl, hd, rfl, rfl, hQ⟩, st⟩ := main
  obtain ⟨fs, hr, hrun, hended, hW, hsame⟩ := X'.leave (v := none) (fun _ => rfl)
  refine ⟨_, _, castTop (ef_rmix m a1 nm1 d1 d2 d3 ls) (st _ ?_), hrun, hended, _, _, rfl, hQ, ⟨_, rfl⟩, hW, hsame.mono (by decide) (by decide)⟩
  exact X'.returnOut hx Bd.returns hd hr
/-! the law's own walk: it loads String constants, so its tables grow -/
def own_cols (n : Nat) (c0 c1 : Int32) : List Int32 := match n with | 0 => [] | 1 => [c0] | _ => [c0, c1]
def own_W (p : Program) (l : Launch) (e : Env) (s : State) (m : MethodId) (args : Array Value) (below : List Frame) (meth : Method) (c : Code) (n0 : Nat) (T0 : State) (g : JFrame) : Prop :=
  ∃ (T' : State) (L : List Loc) (k n : Nat) (vm' : Vm) (kS : Nat) (pcr : Nat) (Ls : Array Slot), Stand p l e room_1 (s.setVm vm') m args below meth c T' L k n ∧ s.Since vm' kS ∧ kS ≤ T'.heap.size ∧ k ≤ 40 ∧ n ≤ 2240 ∧ Fr n0 L ∧ decode c.code pcr = .ok (.ireturn, 1) ∧
    ∀ target, Steps p.tables e below (T'.setTop (mkF m pcr Ls [.int (1 : Int32)])) target → Steps p.tables e below (T0.setTop g) target
theorem own_goW {p : Program} {l : Launch} {e : Env} {s : State} {m : MethodId} {args : Array Value} {below : List Frame} {meth : Method} {c : Code} {n0 : Nat} {T0 T1 : State} {g0 g1 : JFrame}
    (st : ∀ target, Steps p.tables e below (T1.setTop g1) target → Steps p.tables e below (T0.setTop g0) target) (h : own_W p l e s m args below meth c n0 T1 g1) : own_W p l e s m args below meth c n0 T0 g0 := by
  obtain ⟨T', L, k, n, vm', kS, pcr, Ls, h1, h2, h3, h4, h5, h6, h7, h8⟩ := h
  exact ⟨T', L, k, n, vm', kS, pcr, Ls, h1, h2, h3, h4, h5, h6, h7, fun t k => st t (h8 t k)⟩
theorem own_thenW {p : Program} {l : Launch} {e : Env} {s : State} {m : MethodId} {args : Array Value} {below : List Frame} {meth : Method} {c : Code} {n0 : Nat} {T0 : State} {g0 : JFrame} {Φ : State → JFrame → List Loc → Nat → Nat → Prop}
    (h : own_To p l e room_1 s m args below meth c T0 g0 Φ) (k : ∀ T' g' L k n, Stand p l e room_1 s m args below meth c T' L k n → Φ T' g' L k n → own_W p l e s m args below meth c n0 T' g') : own_W p l e s m args below meth c n0 T0 g0 := by
  obtain ⟨T', g', L, k', n, h1, h2, h3⟩ := h
  exact own_goW h3 (k T' g' L k' n h1 h2)
theorem own_strW {Z : State} {a0 : Array Value} (hw : ∀ d ∈ tables_1, d.before a0 Z = true) : ∀ a ∈ Bundle.stringAtoms, a.before a0 Z = true := by
  intro d hd
  simp only [Bundle.stringAtoms, List.mem_cons, List.not_mem_nil, or_false] at hd
  rcases hd with rfl | rfl | rfl | rfl | rfl | rfl | rfl
  · exact hw _ (List.mem_of_getElem? (i := 7) rfl)
  · exact hw _ (List.mem_of_getElem? (i := 8) rfl)
  · exact hw _ (List.mem_of_getElem? (i := 9) rfl)
  · exact hw _ (List.mem_of_getElem? (i := 10) rfl)
  · exact hw _ (List.mem_of_getElem? (i := 11) rfl)
  · exact hw _ (List.mem_of_getElem? (i := 12) rfl)
  · exact hw _ (List.mem_of_getElem? (i := 13) rfl)

set_option maxRecDepth 65536 in
set_option maxHeartbeats 4000000 in
theorem own_fA0 {p : Program} {l : Launch} {e : Env} {s : State} {m : MethodId} {args : Array Value} {below : List Frame} {meth : Method} {c : Code} {T0 : State} {locs : List Loc} {Z : State} {a0 : Array Value} {h0 : Heap} {n0 : Nat} (i0 i1 i2 i3 mm c0 c1 p0 p1 : Int32) (X0 : Stand p l e room_1 s m args below meth c T0 locs 0 0) (hx : p.tables.exec = Jvm.exec) (hZ : Z.Warmed39 s.vm) (hw : ∀ d ∈ tables_1, d.before a0 Z = true) (hby : c.code = code) (hml : c.maxLocals = 17) (hown : s.vm.findClass "com/example/sukima/sukima/catalog/IndexPlaceOfPinLaw" = some m.cls) (e0 : T0.heap = h0) (N0 : Fr n0 locs) (Z0 : n0 ≤ h0.size) :
    own_To p l e room_1 s m args below meth c T0 (mkF m 57 #[.val (.int i0), .val (.int i1), .val (.int i2), .val (.int i3), .val (.int (Int32.ofNat 0)), .val (.int mm), .val (.int c0), .val (.int c1), .val (.int p0), .val (.int p1), .unset, .unset, .unset, .unset, .unset, .unset, .unset] []) (fun T' g' L kq zq => ∃ (dA dZ : Addr) (kd kz : ClassId) (vz : List Value), g' = (mkF m 108 #[.val (.int i0), .val (.int i1), .val (.int i2), .val (.int i3), .val (.int (Int32.ofNat 0)), .val (.int mm), .val (.int c0), .val (.int c1), .val (.int p0), .val (.int p1), .val (.ref dA), .val (.ref dZ), .unset, .unset, .unset, .unset, .unset] []) ∧ kq = 2 ∧ zq = 8 ∧ Fr n0 L ∧ Keep h0 T'.heap [] ∧ Arv Z T'.heap dA kd .int (Int32.ofNat 0) ((own_cols 0 c0 c1).map Value.int) (.int 0) ∧ Exa Z T'.heap dA "[I" ∧ Arv Z T'.heap dZ kz .boolean (Int32.ofNat 0) vz (.int 0) ∧ Exa Z T'.heap dZ "[Z") := by
  refine own_go (T1 := T0) (g1 := (mkF m 59 #[.val (.int i0), .val (.int i1), .val (.int i2), .val (.int i3), .val (.int (Int32.ofNat 0)), .val (.int mm), .val (.int c0), .val (.int c1), .val (.int p0), .val (.int p1), .unset, .unset, .unset, .unset, .unset, .unset, .unset] [(.int (Int32.ofNat 0))])) (fun _ k => XS.iload X0.here hx rfl (hb hby at_57) rfl k) ?_
  obtain ⟨T1, h1, k1, X1, e1, E1, A1, Y1, st1⟩ := newPE X0 hx hZ (hw _ (List.mem_of_getElem? (i := 1) rfl)) e0 (g := (mkF m 59 #[.val (.int i0), .val (.int i1), .val (.int i2), .val (.int i3), .val (.int (Int32.ofNat 0)), .val (.int mm), .val (.int c0), .val (.int c1), .val (.int p0), .val (.int p1), .unset, .unset, .unset, .unset, .unset, .unset, .unset] [(.int (Int32.ofNat 0))])) rfl (hb hby at_59) rfl (by decide) (cap := 4) (by decide) (by decide) (by decide) (by decide) (ad := "[I") rfl
  obtain ⟨b1, g1⟩ : ∃ z, z = h0.size := ⟨_, rfl⟩
  rw [← g1] at A1 st1 Y1
  have ge_b1 : n0 ≤ b1 := Nat.le_trans Z0 (Nat.le_of_eq g1.symm)
  have sz_b1 : h0.size ≤ b1 := Nat.le_trans (Keep.refl h0 []).1 (Nat.le_of_eq g1.symm)
  have Zs1 : n0 ≤ h1.size := Nat.le_trans Z0 E1.1
  have Kp1 : Keep h0 h1 [] := (Keep.refl h0 []).ext E1
  have Vb1_1 : Arv Z h1 b1 k1 .int (Int32.ofNat 0) [] (.int 0) := Arv.new A1 (by decide)
  refine own_go (T1 := T1) (g1 := (mkF m 61 #[.val (.int i0), .val (.int i1), .val (.int i2), .val (.int i3), .val (.int (Int32.ofNat 0)), .val (.int mm), .val (.int c0), .val (.int c1), .val (.int p0), .val (.int p1), .unset, .unset, .unset, .unset, .unset, .unset, .unset] [(.ref b1)])) (fun t k => st1 t k) ?_
  refine own_go (T1 := T1) (g1 := (mkF m 63 #[.val (.int i0), .val (.int i1), .val (.int i2), .val (.int i3), .val (.int (Int32.ofNat 0)), .val (.int mm), .val (.int c0), .val (.int c1), .val (.int p0), .val (.int p1), .val (.ref b1), .unset, .unset, .unset, .unset, .unset, .unset] [])) (fun _ k => XS.astore X1.here hx rfl (hb hby at_61) rfl rfl (l' := #[.val (.int i0), .val (.int i1), .val (.int i2), .val (.int i3), .val (.int (Int32.ofNat 0)), .val (.int mm), .val (.int c0), .val (.int c1), .val (.int p0), .val (.int p1), .val (.ref b1), .unset, .unset, .unset, .unset, .unset, .unset]) rfl k) ?_
  refine own_go (T1 := T1) (g1 := (mkF m 65 #[.val (.int i0), .val (.int i1), .val (.int i2), .val (.int i3), .val (.int (Int32.ofNat 0)), .val (.int mm), .val (.int c0), .val (.int c1), .val (.int p0), .val (.int p1), .val (.ref b1), .unset, .unset, .unset, .unset, .unset, .unset] [(.int (Int32.ofNat 0))])) (fun _ k => XS.iload X1.here hx rfl (hb hby at_63) rfl k) ?_
  obtain ⟨T2, h2, k2, X2, e2, E2, A2, Y2, st2⟩ := newPE X1 hx hZ (hw _ (List.mem_of_getElem? (i := 2) rfl)) e1 (g := (mkF m 65 #[.val (.int i0), .val (.int i1), .val (.int i2), .val (.int i3), .val (.int (Int32.ofNat 0)), .val (.int mm), .val (.int c0), .val (.int c1), .val (.int p0), .val (.int p1), .val (.ref b1), .unset, .unset, .unset, .unset, .unset, .unset] [(.int (Int32.ofNat 0))])) rfl (hb hby at_65) rfl (by decide) (cap := 4) (by decide) (by decide) (by decide) (by decide) (ad := "[Z") rfl
  obtain ⟨b2, g2⟩ : ∃ z, z = h1.size := ⟨_, rfl⟩
  rw [← g2] at A2 st2 Y2
  have ne_b1_b2 : b1 ≠ b2 := Nat.ne_of_lt (Nat.lt_of_lt_of_le Vb1_1.lt (Nat.le_of_eq g2.symm))
  have ge_b2 : n0 ≤ b2 := Nat.le_trans Zs1 (Nat.le_of_eq g2.symm)
  have sz_b2 : h0.size ≤ b2 := Nat.le_trans Kp1.1 (Nat.le_of_eq g2.symm)
  have Vb1_2 : Arv Z h2 b1 k1 .int (Int32.ofNat 0) [] (.int 0) := Vb1_1.ext E2
  have Yb1_2 : Exa Z h2 b1 "[I" := Y1.ext E2
  have Zs2 : n0 ≤ h2.size := Nat.le_trans Zs1 E2.1
  have Kp2 : Keep h0 h2 [] := Kp1.ext E2
  have Vb2_2 : Arv Z h2 b2 k2 .boolean (Int32.ofNat 0) [] (.int 0) := Arv.new A2 (by decide)
  refine own_go (T1 := T2) (g1 := (mkF m 67 #[.val (.int i0), .val (.int i1), .val (.int i2), .val (.int i3), .val (.int (Int32.ofNat 0)), .val (.int mm), .val (.int c0), .val (.int c1), .val (.int p0), .val (.int p1), .val (.ref b1), .unset, .unset, .unset, .unset, .unset, .unset] [(.ref b2)])) (fun t k => st2 t k) ?_
  refine own_go (T1 := T2) (g1 := (mkF m 69 #[.val (.int i0), .val (.int i1), .val (.int i2), .val (.int i3), .val (.int (Int32.ofNat 0)), .val (.int mm), .val (.int c0), .val (.int c1), .val (.int p0), .val (.int p1), .val (.ref b1), .val (.ref b2), .unset, .unset, .unset, .unset, .unset] [])) (fun _ k => XS.astore X2.here hx rfl (hb hby at_67) rfl rfl (l' := #[.val (.int i0), .val (.int i1), .val (.int i2), .val (.int i3), .val (.int (Int32.ofNat 0)), .val (.int mm), .val (.int c0), .val (.int c1), .val (.int p0), .val (.int p1), .val (.ref b1), .val (.ref b2), .unset, .unset, .unset, .unset, .unset]) rfl k) ?_
  refine own_go (T1 := T2) (g1 := (mkF m 71 #[.val (.int i0), .val (.int i1), .val (.int i2), .val (.int i3), .val (.int (Int32.ofNat 0)), .val (.int mm), .val (.int c0), .val (.int c1), .val (.int p0), .val (.int p1), .val (.ref b1), .val (.ref b2), .unset, .unset, .unset, .unset, .unset] [(.int (Int32.ofNat 0))])) (fun _ k => XS.iload X2.here hx rfl (hb hby at_69) rfl k) ?_
  refine own_go (T1 := T2) (g1 := (mkF m 96 #[.val (.int i0), .val (.int i1), .val (.int i2), .val (.int i3), .val (.int (Int32.ofNat 0)), .val (.int mm), .val (.int c0), .val (.int c1), .val (.int p0), .val (.int p1), .val (.ref b1), .val (.ref b2), .unset, .unset, .unset, .unset, .unset] [])) (fun _ k => XS.ifYes X2.here hx rfl (pc0 := 71) (pc' := 96) rfl (hb hby at_71) rfl ((if0 _ _).trans (flt ((by decide) : ¬ ((0 : Int32) < (Int32.ofNat 0)))).2.2.2) (by decide) (by decide) k) ?_
  refine own_go (T1 := T2) (g1 := (mkF m 98 #[.val (.int i0), .val (.int i1), .val (.int i2), .val (.int i3), .val (.int (Int32.ofNat 0)), .val (.int mm), .val (.int c0), .val (.int c1), .val (.int p0), .val (.int p1), .val (.ref b1), .val (.ref b2), .unset, .unset, .unset, .unset, .unset] [(.int (Int32.ofNat 0))])) (fun _ k => XS.iload X2.here hx rfl (hb hby at_96) rfl k) ?_
  refine own_go (T1 := T2) (g1 := (mkF m 99 #[.val (.int i0), .val (.int i1), .val (.int i2), .val (.int i3), .val (.int (Int32.ofNat 0)), .val (.int mm), .val (.int c0), .val (.int c1), .val (.int p0), .val (.int p1), .val (.ref b1), .val (.ref b2), .unset, .unset, .unset, .unset, .unset] [(.int (1 : Int32)), (.int (Int32.ofNat 0))])) (fun _ k => XS.iconst X2.here hx rfl (hb hby at_98) k) ?_
  refine own_go (T1 := T2) (g1 := (mkF m 108 #[.val (.int i0), .val (.int i1), .val (.int i2), .val (.int i3), .val (.int (Int32.ofNat 0)), .val (.int mm), .val (.int c0), .val (.int c1), .val (.int p0), .val (.int p1), .val (.ref b1), .val (.ref b2), .unset, .unset, .unset, .unset, .unset] [])) (fun _ k => XS.icmpYes X2.here hx rfl (pc0 := 99) (pc' := 108) rfl (hb hby at_99) rfl (flt ((by decide) : ¬ ((1 : Int32) < (Int32.ofNat 0)))).2.2.2 (by decide) (by decide) k) ?_
  exact ⟨T2, _, _, _, _, X2, ⟨b1, b2, k1, k2, _, rfl, rfl, rfl, N0, by rw [e2]; exact ⟨Kp2, Vb1_2, Yb1_2, Vb2_2, Y2⟩⟩, fun _ k => k⟩
set_option maxRecDepth 65536 in
set_option maxHeartbeats 4000000 in
theorem own_fA1 {p : Program} {l : Launch} {e : Env} {s : State} {m : MethodId} {args : Array Value} {below : List Frame} {meth : Method} {c : Code} {T0 : State} {locs : List Loc} {Z : State} {a0 : Array Value} {h0 : Heap} {n0 : Nat} (i0 i1 i2 i3 mm c0 c1 p0 p1 : Int32) (X0 : Stand p l e room_1 s m args below meth c T0 locs 0 0) (hx : p.tables.exec = Jvm.exec) (hZ : Z.Warmed39 s.vm) (hw : ∀ d ∈ tables_1, d.before a0 Z = true) (hby : c.code = code) (hml : c.maxLocals = 17) (hown : s.vm.findClass "com/example/sukima/sukima/catalog/IndexPlaceOfPinLaw" = some m.cls) (e0 : T0.heap = h0) (N0 : Fr n0 locs) (Z0 : n0 ≤ h0.size) :
    own_To p l e room_1 s m args below meth c T0 (mkF m 57 #[.val (.int i0), .val (.int i1), .val (.int i2), .val (.int i3), .val (.int (Int32.ofNat 1)), .val (.int mm), .val (.int c0), .val (.int c1), .val (.int p0), .val (.int p1), .unset, .unset, .unset, .unset, .unset, .unset, .unset] []) (fun T' g' L kq zq => ∃ (dA dZ : Addr) (kd kz : ClassId) (vz : List Value), g' = (mkF m 108 #[.val (.int i0), .val (.int i1), .val (.int i2), .val (.int i3), .val (.int (Int32.ofNat 1)), .val (.int mm), .val (.int c0), .val (.int c1), .val (.int p0), .val (.int p1), .val (.ref dA), .val (.ref dZ), .unset, .unset, .unset, .unset, .unset] []) ∧ kq = 2 ∧ zq = 8 ∧ Fr n0 L ∧ Keep h0 T'.heap [] ∧ Arv Z T'.heap dA kd .int (Int32.ofNat 1) ((own_cols 1 c0 c1).map Value.int) (.int 0) ∧ Exa Z T'.heap dA "[I" ∧ Arv Z T'.heap dZ kz .boolean (Int32.ofNat 1) vz (.int 0) ∧ Exa Z T'.heap dZ "[Z") := by
  refine own_go (T1 := T0) (g1 := (mkF m 59 #[.val (.int i0), .val (.int i1), .val (.int i2), .val (.int i3), .val (.int (Int32.ofNat 1)), .val (.int mm), .val (.int c0), .val (.int c1), .val (.int p0), .val (.int p1), .unset, .unset, .unset, .unset, .unset, .unset, .unset] [(.int (Int32.ofNat 1))])) (fun _ k => XS.iload X0.here hx rfl (hb hby at_57) rfl k) ?_
  obtain ⟨T1, h1, k1, X1, e1, E1, A1, Y1, st1⟩ := newPE X0 hx hZ (hw _ (List.mem_of_getElem? (i := 1) rfl)) e0 (g := (mkF m 59 #[.val (.int i0), .val (.int i1), .val (.int i2), .val (.int i3), .val (.int (Int32.ofNat 1)), .val (.int mm), .val (.int c0), .val (.int c1), .val (.int p0), .val (.int p1), .unset, .unset, .unset, .unset, .unset, .unset, .unset] [(.int (Int32.ofNat 1))])) rfl (hb hby at_59) rfl (by decide) (cap := 4) (by decide) (by decide) (by decide) (by decide) (ad := "[I") rfl
  obtain ⟨b1, g1⟩ : ∃ z, z = h0.size := ⟨_, rfl⟩
  rw [← g1] at A1 st1 Y1
  have ge_b1 : n0 ≤ b1 := Nat.le_trans Z0 (Nat.le_of_eq g1.symm)
  have sz_b1 : h0.size ≤ b1 := Nat.le_trans (Keep.refl h0 []).1 (Nat.le_of_eq g1.symm)
  have Zs1 : n0 ≤ h1.size := Nat.le_trans Z0 E1.1
  have Kp1 : Keep h0 h1 [] := (Keep.refl h0 []).ext E1
  have Vb1_1 : Arv Z h1 b1 k1 .int (Int32.ofNat 1) [] (.int 0) := Arv.new A1 (by decide)
  refine own_go (T1 := T1) (g1 := (mkF m 61 #[.val (.int i0), .val (.int i1), .val (.int i2), .val (.int i3), .val (.int (Int32.ofNat 1)), .val (.int mm), .val (.int c0), .val (.int c1), .val (.int p0), .val (.int p1), .unset, .unset, .unset, .unset, .unset, .unset, .unset] [(.ref b1)])) (fun t k => st1 t k) ?_
  refine own_go (T1 := T1) (g1 := (mkF m 63 #[.val (.int i0), .val (.int i1), .val (.int i2), .val (.int i3), .val (.int (Int32.ofNat 1)), .val (.int mm), .val (.int c0), .val (.int c1), .val (.int p0), .val (.int p1), .val (.ref b1), .unset, .unset, .unset, .unset, .unset, .unset] [])) (fun _ k => XS.astore X1.here hx rfl (hb hby at_61) rfl rfl (l' := #[.val (.int i0), .val (.int i1), .val (.int i2), .val (.int i3), .val (.int (Int32.ofNat 1)), .val (.int mm), .val (.int c0), .val (.int c1), .val (.int p0), .val (.int p1), .val (.ref b1), .unset, .unset, .unset, .unset, .unset, .unset]) rfl k) ?_
  refine own_go (T1 := T1) (g1 := (mkF m 65 #[.val (.int i0), .val (.int i1), .val (.int i2), .val (.int i3), .val (.int (Int32.ofNat 1)), .val (.int mm), .val (.int c0), .val (.int c1), .val (.int p0), .val (.int p1), .val (.ref b1), .unset, .unset, .unset, .unset, .unset, .unset] [(.int (Int32.ofNat 1))])) (fun _ k => XS.iload X1.here hx rfl (hb hby at_63) rfl k) ?_
  obtain ⟨T2, h2, k2, X2, e2, E2, A2, Y2, st2⟩ := newPE X1 hx hZ (hw _ (List.mem_of_getElem? (i := 2) rfl)) e1 (g := (mkF m 65 #[.val (.int i0), .val (.int i1), .val (.int i2), .val (.int i3), .val (.int (Int32.ofNat 1)), .val (.int mm), .val (.int c0), .val (.int c1), .val (.int p0), .val (.int p1), .val (.ref b1), .unset, .unset, .unset, .unset, .unset, .unset] [(.int (Int32.ofNat 1))])) rfl (hb hby at_65) rfl (by decide) (cap := 4) (by decide) (by decide) (by decide) (by decide) (ad := "[Z") rfl
  obtain ⟨b2, g2⟩ : ∃ z, z = h1.size := ⟨_, rfl⟩
  rw [← g2] at A2 st2 Y2
  have ne_b1_b2 : b1 ≠ b2 := Nat.ne_of_lt (Nat.lt_of_lt_of_le Vb1_1.lt (Nat.le_of_eq g2.symm))
  have ge_b2 : n0 ≤ b2 := Nat.le_trans Zs1 (Nat.le_of_eq g2.symm)
  have sz_b2 : h0.size ≤ b2 := Nat.le_trans Kp1.1 (Nat.le_of_eq g2.symm)
  have Vb1_2 : Arv Z h2 b1 k1 .int (Int32.ofNat 1) [] (.int 0) := Vb1_1.ext E2
  have Yb1_2 : Exa Z h2 b1 "[I" := Y1.ext E2
  have Zs2 : n0 ≤ h2.size := Nat.le_trans Zs1 E2.1
  have Kp2 : Keep h0 h2 [] := Kp1.ext E2
  have Vb2_2 : Arv Z h2 b2 k2 .boolean (Int32.ofNat 1) [] (.int 0) := Arv.new A2 (by decide)
  refine own_go (T1 := T2) (g1 := (mkF m 67 #[.val (.int i0), .val (.int i1), .val (.int i2), .val (.int i3), .val (.int (Int32.ofNat 1)), .val (.int mm), .val (.int c0), .val (.int c1), .val (.int p0), .val (.int p1), .val (.ref b1), .unset, .unset, .unset, .unset, .unset, .unset] [(.ref b2)])) (fun t k => st2 t k) ?_
  refine own_go (T1 := T2) (g1 := (mkF m 69 #[.val (.int i0), .val (.int i1), .val (.int i2), .val (.int i3), .val (.int (Int32.ofNat 1)), .val (.int mm), .val (.int c0), .val (.int c1), .val (.int p0), .val (.int p1), .val (.ref b1), .val (.ref b2), .unset, .unset, .unset, .unset, .unset] [])) (fun _ k => XS.astore X2.here hx rfl (hb hby at_67) rfl rfl (l' := #[.val (.int i0), .val (.int i1), .val (.int i2), .val (.int i3), .val (.int (Int32.ofNat 1)), .val (.int mm), .val (.int c0), .val (.int c1), .val (.int p0), .val (.int p1), .val (.ref b1), .val (.ref b2), .unset, .unset, .unset, .unset, .unset]) rfl k) ?_
  refine own_go (T1 := T2) (g1 := (mkF m 71 #[.val (.int i0), .val (.int i1), .val (.int i2), .val (.int i3), .val (.int (Int32.ofNat 1)), .val (.int mm), .val (.int c0), .val (.int c1), .val (.int p0), .val (.int p1), .val (.ref b1), .val (.ref b2), .unset, .unset, .unset, .unset, .unset] [(.int (Int32.ofNat 1))])) (fun _ k => XS.iload X2.here hx rfl (hb hby at_69) rfl k) ?_
  refine own_go (T1 := T2) (g1 := (mkF m 74 #[.val (.int i0), .val (.int i1), .val (.int i2), .val (.int i3), .val (.int (Int32.ofNat 1)), .val (.int mm), .val (.int c0), .val (.int c1), .val (.int p0), .val (.int p1), .val (.ref b1), .val (.ref b2), .unset, .unset, .unset, .unset, .unset] [])) (fun _ k => XS.ifNo X2.here hx rfl (hb hby at_71) rfl ((if0 _ _).trans (tlt ((by decide) : (0 : Int32) < (Int32.ofNat 1))).2.2.2) k) ?_
  refine own_go (T1 := T2) (g1 := (mkF m 76 #[.val (.int i0), .val (.int i1), .val (.int i2), .val (.int i3), .val (.int (Int32.ofNat 1)), .val (.int mm), .val (.int c0), .val (.int c1), .val (.int p0), .val (.int p1), .val (.ref b1), .val (.ref b2), .unset, .unset, .unset, .unset, .unset] [(.ref b1)])) (fun _ k => XS.aload X2.here hx rfl (hb hby at_74) rfl rfl k) ?_
  refine own_go (T1 := T2) (g1 := (mkF m 77 #[.val (.int i0), .val (.int i1), .val (.int i2), .val (.int i3), .val (.int (Int32.ofNat 1)), .val (.int mm), .val (.int c0), .val (.int c1), .val (.int p0), .val (.int p1), .val (.ref b1), .val (.ref b2), .unset, .unset, .unset, .unset, .unset] [(.int (0 : Int32)), (.ref b1)])) (fun _ k => XS.iconst X2.here hx rfl (hb hby at_76) k) ?_
  refine own_go (T1 := T2) (g1 := (mkF m 79 #[.val (.int i0), .val (.int i1), .val (.int i2), .val (.int i3), .val (.int (Int32.ofNat 1)), .val (.int mm), .val (.int c0), .val (.int c1), .val (.int p0), .val (.int p1), .val (.ref b1), .val (.ref b2), .unset, .unset, .unset, .unset, .unset] [(.int c0), (.int (0 : Int32)), (.ref b1)])) (fun _ k => XS.iload X2.here hx rfl (hb hby at_77) rfl k) ?_
  have Vp3 : Arv Z h2 b1 k1 .int (Int32.ofNat 1) ([] ++ List.replicate 1 (Value.int 0)) (.int 0) := Vb1_2.pad (pad_rep _ _ 1)
  obtain ⟨cl3, Ar3, q3, S3, Nn3, H3, G3⟩ := id Vp3
  obtain ⟨T3, h3, X3, e3, W3, st3⟩ := stI X2 hx hZ e2 Ar3 (j := (0 : Int32)) (inb_of S3 ⟨by decide, by decide⟩) (g := (mkF m 79 #[.val (.int i0), .val (.int i1), .val (.int i2), .val (.int i3), .val (.int (Int32.ofNat 1)), .val (.int mm), .val (.int c0), .val (.int c1), .val (.int p0), .val (.int p1), .val (.ref b1), .val (.ref b2), .unset, .unset, .unset, .unset, .unset] [(.int c0), (.int (0 : Int32)), (.ref b1)])) rfl rfl (hb hby at_79)
  have Yb1_3 : Exa Z h3 b1 "[I" := Yb1_2.wr W3
  have Vb2_3 : Arv Z h3 b2 k2 .boolean (Int32.ofNat 1) [] (.int 0) := Vb2_2.other W3 (Ne.symm ne_b1_b2)
  have Yb2_3 : Exa Z h3 b2 "[Z" := Y2.wr W3
  have Vb1_3 : Arv Z h3 b1 k1 .int (Int32.ofNat 1) ([c0].map Value.int) (.int 0) := Arv.set Ar3 q3 S3 Nn3 H3 G3 rfl W3 0 rfl (by decide)
  have Zs3 : n0 ≤ h3.size := Nat.le_trans Zs2 (Keep.of_wr W3).1
  have Kp3 : Keep h0 h3 [] := Kp2.wr W3 (Or.inr sz_b1)
  have N3 := Fr.snoc X3 N0 ge_b1
  refine own_go (T1 := T3) (g1 := (mkF m 80 #[.val (.int i0), .val (.int i1), .val (.int i2), .val (.int i3), .val (.int (Int32.ofNat 1)), .val (.int mm), .val (.int c0), .val (.int c1), .val (.int p0), .val (.int p1), .val (.ref b1), .val (.ref b2), .unset, .unset, .unset, .unset, .unset] [])) (fun t k => st3 t k) ?_
  refine own_go (T1 := T3) (g1 := (mkF m 82 #[.val (.int i0), .val (.int i1), .val (.int i2), .val (.int i3), .val (.int (Int32.ofNat 1)), .val (.int mm), .val (.int c0), .val (.int c1), .val (.int p0), .val (.int p1), .val (.ref b1), .val (.ref b2), .unset, .unset, .unset, .unset, .unset] [(.ref b2)])) (fun _ k => XS.aload X3.here hx rfl (hb hby at_80) rfl rfl k) ?_
  refine own_go (T1 := T3) (g1 := (mkF m 83 #[.val (.int i0), .val (.int i1), .val (.int i2), .val (.int i3), .val (.int (Int32.ofNat 1)), .val (.int mm), .val (.int c0), .val (.int c1), .val (.int p0), .val (.int p1), .val (.ref b1), .val (.ref b2), .unset, .unset, .unset, .unset, .unset] [(.int (0 : Int32)), (.ref b2)])) (fun _ k => XS.iconst X3.here hx rfl (hb hby at_82) k) ?_
  refine own_go (T1 := T3) (g1 := (mkF m 84 #[.val (.int i0), .val (.int i1), .val (.int i2), .val (.int i3), .val (.int (Int32.ofNat 1)), .val (.int mm), .val (.int c0), .val (.int c1), .val (.int p0), .val (.int p1), .val (.ref b1), .val (.ref b2), .unset, .unset, .unset, .unset, .unset] [(.int i0), (.int (0 : Int32)), (.ref b2)])) (fun _ k => XS.iloadN X3.here hx rfl (hb hby at_83) rfl k) ?_
  refine own_go (T1 := T3) (g1 := (mkF m 86 #[.val (.int i0), .val (.int i1), .val (.int i2), .val (.int i3), .val (.int (Int32.ofNat 1)), .val (.int mm), .val (.int c0), .val (.int c1), .val (.int p0), .val (.int p1), .val (.ref b1), .val (.ref b2), .unset, .unset, .unset, .unset, .unset] [(.int (65536 : Int32)), (.int i0), (.int (0 : Int32)), (.ref b2)])) (fun _ k => X3.ldcInt hx hown (mvT hZ (hw _ (List.mem_of_getElem? (i := 155) rfl))) (g := (mkF m 84 #[.val (.int i0), .val (.int i1), .val (.int i2), .val (.int i3), .val (.int (Int32.ofNat 1)), .val (.int mm), .val (.int c0), .val (.int c1), .val (.int p0), .val (.int p1), .val (.ref b1), .val (.ref b2), .unset, .unset, .unset, .unset, .unset] [(.int i0), (.int (0 : Int32)), (.ref b2)])) rfl (hb hby at_84) _ k) ?_
  refine own_go (T1 := T3) (g1 := (mkF m 87 #[.val (.int i0), .val (.int i1), .val (.int i2), .val (.int i3), .val (.int (Int32.ofNat 1)), .val (.int mm), .val (.int c0), .val (.int c1), .val (.int p0), .val (.int p1), .val (.ref b1), .val (.ref b2), .unset, .unset, .unset, .unset, .unset] [(.int (i0 &&& (65536 : Int32))), (.int (0 : Int32)), (.ref b2)])) (fun _ k => XS.iand X3.here hx rfl (hb hby at_86) rfl k) ?_
  by_cases hc87 : (i0 &&& (65536 : Int32)) = (0 : Int32)
  · refine own_go (T1 := T3) (g1 := (mkF m 94 #[.val (.int i0), .val (.int i1), .val (.int i2), .val (.int i3), .val (.int (Int32.ofNat 1)), .val (.int mm), .val (.int c0), .val (.int c1), .val (.int p0), .val (.int p1), .val (.ref b1), .val (.ref b2), .unset, .unset, .unset, .unset, .unset] [(.int (0 : Int32)), (.ref b2)])) (fun _ k => XS.ifYes X3.here hx rfl (pc0 := 87) (pc' := 94) rfl (hb hby at_87) rfl ((if0 _ _).trans (teq (hc87 : (i0 &&& (65536 : Int32)) = (0 : Int32))).1) (by decide) (by decide) k) ?_
    refine own_go (T1 := T3) (g1 := (mkF m 95 #[.val (.int i0), .val (.int i1), .val (.int i2), .val (.int i3), .val (.int (Int32.ofNat 1)), .val (.int mm), .val (.int c0), .val (.int c1), .val (.int p0), .val (.int p1), .val (.ref b1), .val (.ref b2), .unset, .unset, .unset, .unset, .unset] [(.int (0 : Int32)), (.int (0 : Int32)), (.ref b2)])) (fun _ k => XS.iconst X3.here hx rfl (hb hby at_94) k) ?_
    have Vp4 : Arv Z h3 b2 k2 .boolean (Int32.ofNat 1) ([] ++ List.replicate 1 (Value.int 0)) (.int 0) := Vb2_3.pad (pad_rep _ _ 1)
    obtain ⟨cl4, Ar4, q4, S4, Nn4, H4, G4⟩ := id Vp4
    obtain ⟨T4, h4, X4, e4, W4, st4⟩ := stZ X3 hx hZ e3 Ar4 (j := (0 : Int32)) (inb_of S4 ⟨by decide, by decide⟩) (g := (mkF m 95 #[.val (.int i0), .val (.int i1), .val (.int i2), .val (.int i3), .val (.int (Int32.ofNat 1)), .val (.int mm), .val (.int c0), .val (.int c1), .val (.int p0), .val (.int p1), .val (.ref b1), .val (.ref b2), .unset, .unset, .unset, .unset, .unset] [(.int (0 : Int32)), (.int (0 : Int32)), (.ref b2)])) rfl rfl (hb hby at_95)
    have Yb1_4 : Exa Z h4 b1 "[I" := Yb1_3.wr W4
    have Yb2_4 : Exa Z h4 b2 "[Z" := Yb2_3.wr W4
    have Vb1_4 : Arv Z h4 b1 k1 .int (Int32.ofNat 1) ([c0].map Value.int) (.int 0) := Vb1_3.other W4 ne_b1_b2
    have Vb2_4 : Arv Z h4 b2 k2 .boolean (Int32.ofNat 1) (([] ++ List.replicate 1 (Value.int 0)).set 0 (.int (nar .boolean (0 : Int32)))) (.int 0) := Arv.set Ar4 q4 S4 Nn4 H4 G4 (fits_nar_bool _) W4 0 rfl (by decide)
    have Zs4 : n0 ≤ h4.size := Nat.le_trans Zs3 (Keep.of_wr W4).1
    have Kp4 : Keep h0 h4 [] := Kp3.wr W4 (Or.inr sz_b2)
    have N4 := Fr.snoc X4 N3 ge_b2
    refine own_go (T1 := T4) (g1 := (mkF m 96 #[.val (.int i0), .val (.int i1), .val (.int i2), .val (.int i3), .val (.int (Int32.ofNat 1)), .val (.int mm), .val (.int c0), .val (.int c1), .val (.int p0), .val (.int p1), .val (.ref b1), .val (.ref b2), .unset, .unset, .unset, .unset, .unset] [])) (fun t k => st4 t k) ?_
    refine own_go (T1 := T4) (g1 := (mkF m 98 #[.val (.int i0), .val (.int i1), .val (.int i2), .val (.int i3), .val (.int (Int32.ofNat 1)), .val (.int mm), .val (.int c0), .val (.int c1), .val (.int p0), .val (.int p1), .val (.ref b1), .val (.ref b2), .unset, .unset, .unset, .unset, .unset] [(.int (Int32.ofNat 1))])) (fun _ k => XS.iload X4.here hx rfl (hb hby at_96) rfl k) ?_
    refine own_go (T1 := T4) (g1 := (mkF m 99 #[.val (.int i0), .val (.int i1), .val (.int i2), .val (.int i3), .val (.int (Int32.ofNat 1)), .val (.int mm), .val (.int c0), .val (.int c1), .val (.int p0), .val (.int p1), .val (.ref b1), .val (.ref b2), .unset, .unset, .unset, .unset, .unset] [(.int (1 : Int32)), (.int (Int32.ofNat 1))])) (fun _ k => XS.iconst X4.here hx rfl (hb hby at_98) k) ?_
    refine own_go (T1 := T4) (g1 := (mkF m 108 #[.val (.int i0), .val (.int i1), .val (.int i2), .val (.int i3), .val (.int (Int32.ofNat 1)), .val (.int mm), .val (.int c0), .val (.int c1), .val (.int p0), .val (.int p1), .val (.ref b1), .val (.ref b2), .unset, .unset, .unset, .unset, .unset] [])) (fun _ k => XS.icmpYes X4.here hx rfl (pc0 := 99) (pc' := 108) rfl (hb hby at_99) rfl (flt ((by decide) : ¬ ((1 : Int32) < (Int32.ofNat 1)))).2.2.2 (by decide) (by decide) k) ?_
    exact ⟨T4, _, _, _, _, X4, ⟨b1, b2, k1, k2, _, rfl, rfl, rfl, N4, by rw [e4]; exact ⟨Kp4, Vb1_4, Yb1_4, Vb2_4, Yb2_4⟩⟩, fun _ k => k⟩
  · refine own_go (T1 := T3) (g1 := (mkF m 90 #[.val (.int i0), .val (.int i1), .val (.int i2), .val (.int i3), .val (.int (Int32.ofNat 1)), .val (.int mm), .val (.int c0), .val (.int c1), .val (.int p0), .val (.int p1), .val (.ref b1), .val (.ref b2), .unset, .unset, .unset, .unset, .unset] [(.int (0 : Int32)), (.ref b2)])) (fun _ k => XS.ifNo X3.here hx rfl (hb hby at_87) rfl ((if0 _ _).trans (feq (hc87 : ¬ ((i0 &&& (65536 : Int32)) = (0 : Int32)))).1) k) ?_
    refine own_go (T1 := T3) (g1 := (mkF m 91 #[.val (.int i0), .val (.int i1), .val (.int i2), .val (.int i3), .val (.int (Int32.ofNat 1)), .val (.int mm), .val (.int c0), .val (.int c1), .val (.int p0), .val (.int p1), .val (.ref b1), .val (.ref b2), .unset, .unset, .unset, .unset, .unset] [(.int (1 : Int32)), (.int (0 : Int32)), (.ref b2)])) (fun _ k => XS.iconst X3.here hx rfl (hb hby at_90) k) ?_
    refine own_go (T1 := T3) (g1 := (mkF m 95 #[.val (.int i0), .val (.int i1), .val (.int i2), .val (.int i3), .val (.int (Int32.ofNat 1)), .val (.int mm), .val (.int c0), .val (.int c1), .val (.int p0), .val (.int p1), .val (.ref b1), .val (.ref b2), .unset, .unset, .unset, .unset, .unset] [(.int (1 : Int32)), (.int (0 : Int32)), (.ref b2)])) (fun _ k => XS.goto X3.here hx rfl (pc0 := 91) (pc' := 95) rfl (hb hby at_91) (by decide) (by decide) k) ?_
    have Vp4 : Arv Z h3 b2 k2 .boolean (Int32.ofNat 1) ([] ++ List.replicate 1 (Value.int 0)) (.int 0) := Vb2_3.pad (pad_rep _ _ 1)
    obtain ⟨cl4, Ar4, q4, S4, Nn4, H4, G4⟩ := id Vp4
    obtain ⟨T4, h4, X4, e4, W4, st4⟩ := stZ X3 hx hZ e3 Ar4 (j := (0 : Int32)) (inb_of S4 ⟨by decide, by decide⟩) (g := (mkF m 95 #[.val (.int i0), .val (.int i1), .val (.int i2), .val (.int i3), .val (.int (Int32.ofNat 1)), .val (.int mm), .val (.int c0), .val (.int c1), .val (.int p0), .val (.int p1), .val (.ref b1), .val (.ref b2), .unset, .unset, .unset, .unset, .unset] [(.int (1 : Int32)), (.int (0 : Int32)), (.ref b2)])) rfl rfl (hb hby at_95)
    have Yb1_4 : Exa Z h4 b1 "[I" := Yb1_3.wr W4
    have Yb2_4 : Exa Z h4 b2 "[Z" := Yb2_3.wr W4
    have Vb1_4 : Arv Z h4 b1 k1 .int (Int32.ofNat 1) ([c0].map Value.int) (.int 0) := Vb1_3.other W4 ne_b1_b2
    have Vb2_4 : Arv Z h4 b2 k2 .boolean (Int32.ofNat 1) (([] ++ List.replicate 1 (Value.int 0)).set 0 (.int (nar .boolean (1 : Int32)))) (.int 0) := Arv.set Ar4 q4 S4 Nn4 H4 G4 (fits_nar_bool _) W4 0 rfl (by decide)
    have Zs4 : n0 ≤ h4.size := Nat.le_trans Zs3 (Keep.of_wr W4).1
    have Kp4 : Keep h0 h4 [] := Kp3.wr W4 (Or.inr sz_b2)
    have N4 := Fr.snoc X4 N3 ge_b2
    refine own_go (T1 := T4) (g1 := (mkF m 96 #[.val (.int i0), .val (.int i1), .val (.int i2), .val (.int i3), .val (.int (Int32.ofNat 1)), .val (.int mm), .val (.int c0), .val (.int c1), .val (.int p0), .val (.int p1), .val (.ref b1), .val (.ref b2), .unset, .unset, .unset, .unset, .unset] [])) (fun t k => st4 t k) ?_
    refine own_go (T1 := T4) (g1 := (mkF m 98 #[.val (.int i0), .val (.int i1), .val (.int i2), .val (.int i3), .val (.int (Int32.ofNat 1)), .val (.int mm), .val (.int c0), .val (.int c1), .val (.int p0), .val (.int p1), .val (.ref b1), .val (.ref b2), .unset, .unset, .unset, .unset, .unset] [(.int (Int32.ofNat 1))])) (fun _ k => XS.iload X4.here hx rfl (hb hby at_96) rfl k) ?_
    refine own_go (T1 := T4) (g1 := (mkF m 99 #[.val (.int i0), .val (.int i1), .val (.int i2), .val (.int i3), .val (.int (Int32.ofNat 1)), .val (.int mm), .val (.int c0), .val (.int c1), .val (.int p0), .val (.int p1), .val (.ref b1), .val (.ref b2), .unset, .unset, .unset, .unset, .unset] [(.int (1 : Int32)), (.int (Int32.ofNat 1))])) (fun _ k => XS.iconst X4.here hx rfl (hb hby at_98) k) ?_
    refine own_go (T1 := T4) (g1 := (mkF m 108 #[.val (.int i0), .val (.int i1), .val (.int i2), .val (.int i3), .val (.int (Int32.ofNat 1)), .val (.int mm), .val (.int c0), .val (.int c1), .val (.int p0), .val (.int p1), .val (.ref b1), .val (.ref b2), .unset, .unset, .unset, .unset, .unset] [])) (fun _ k => XS.icmpYes X4.here hx rfl (pc0 := 99) (pc' := 108) rfl (hb hby at_99) rfl (flt ((by decide) : ¬ ((1 : Int32) < (Int32.ofNat 1)))).2.2.2 (by decide) (by decide) k) ?_
    exact ⟨T4, _, _, _, _, X4, ⟨b1, b2, k1, k2, _, rfl, rfl, rfl, N4, by rw [e4]; exact ⟨Kp4, Vb1_4, Yb1_4, Vb2_4, Yb2_4⟩⟩, fun _ k => k⟩
set_option maxRecDepth 65536 in
set_option maxHeartbeats 4000000 in
theorem own_fA2 {p : Program} {l : Launch} {e : Env} {s : State} {m : MethodId} {args : Array Value} {below : List Frame} {meth : Method} {c : Code} {T0 : State} {locs : List Loc} {Z : State} {a0 : Array Value} {h0 : Heap} {n0 : Nat} (i0 i1 i2 i3 mm c0 c1 p0 p1 : Int32) (X0 : Stand p l e room_1 s m args below meth c T0 locs 0 0) (hx : p.tables.exec = Jvm.exec) (hZ : Z.Warmed39 s.vm) (hw : ∀ d ∈ tables_1, d.before a0 Z = true) (hby : c.code = code) (hml : c.maxLocals = 17) (hown : s.vm.findClass "com/example/sukima/sukima/catalog/IndexPlaceOfPinLaw" = some m.cls) (e0 : T0.heap = h0) (N0 : Fr n0 locs) (Z0 : n0 ≤ h0.size) :
    own_To p l e room_1 s m args below meth c T0 (mkF m 57 #[.val (.int i0), .val (.int i1), .val (.int i2), .val (.int i3), .val (.int (Int32.ofNat 2)), .val (.int mm), .val (.int c0), .val (.int c1), .val (.int p0), .val (.int p1), .unset, .unset, .unset, .unset, .unset, .unset, .unset] []) (fun T' g' L kq zq => ∃ (dA dZ : Addr) (kd kz : ClassId) (vz : List Value), g' = (mkF m 108 #[.val (.int i0), .val (.int i1), .val (.int i2), .val (.int i3), .val (.int (Int32.ofNat 2)), .val (.int mm), .val (.int c0), .val (.int c1), .val (.int p0), .val (.int p1), .val (.ref dA), .val (.ref dZ), .unset, .unset, .unset, .unset, .unset] []) ∧ kq = 2 ∧ zq = 8 ∧ Fr n0 L ∧ Keep h0 T'.heap [] ∧ Arv Z T'.heap dA kd .int (Int32.ofNat 2) ((own_cols 2 c0 c1).map Value.int) (.int 0) ∧ Exa Z T'.heap dA "[I" ∧ Arv Z T'.heap dZ kz .boolean (Int32.ofNat 2) vz (.int 0) ∧ Exa Z T'.heap dZ "[Z") := by
  refine own_go (T1 := T0) (g1 := (mkF m 59 #[.val (.int i0), .val (.int i1), .val (.int i2), .val (.int i3), .val (.int (Int32.ofNat 2)), .val (.int mm), .val (.int c0), .val (.int c1), .val (.int p0), .val (.int p1), .unset, .unset, .unset, .unset, .unset, .unset, .unset] [(.int (Int32.ofNat 2))])) (fun _ k => XS.iload X0.here hx rfl (hb hby at_57) rfl k) ?_
  obtain ⟨T1, h1, k1, X1, e1, E1, A1, Y1, st1⟩ := newPE X0 hx hZ (hw _ (List.mem_of_getElem? (i := 1) rfl)) e0 (g := (mkF m 59 #[.val (.int i0), .val (.int i1), .val (.int i2), .val (.int i3), .val (.int (Int32.ofNat 2)), .val (.int mm), .val (.int c0), .val (.int c1), .val (.int p0), .val (.int p1), .unset, .unset, .unset, .unset, .unset, .unset, .unset] [(.int (Int32.ofNat 2))])) rfl (hb hby at_59) rfl (by decide) (cap := 4) (by decide) (by decide) (by decide) (by decide) (ad := "[I") rfl
  obtain ⟨b1, g1⟩ : ∃ z, z = h0.size := ⟨_, rfl⟩
  rw [← g1] at A1 st1 Y1
  have ge_b1 : n0 ≤ b1 := Nat.le_trans Z0 (Nat.le_of_eq g1.symm)
  have sz_b1 : h0.size ≤ b1 := Nat.le_trans (Keep.refl h0 []).1 (Nat.le_of_eq g1.symm)
  have Zs1 : n0 ≤ h1.size := Nat.le_trans Z0 E1.1
  have Kp1 : Keep h0 h1 [] := (Keep.refl h0 []).ext E1
  have Vb1_1 : Arv Z h1 b1 k1 .int (Int32.ofNat 2) [] (.int 0) := Arv.new A1 (by decide)
  refine own_go (T1 := T1) (g1 := (mkF m 61 #[.val (.int i0), .val (.int i1), .val (.int i2), .val (.int i3), .val (.int (Int32.ofNat 2)), .val (.int mm), .val (.int c0), .val (.int c1), .val (.int p0), .val (.int p1), .unset, .unset, .unset, .unset, .unset, .unset, .unset] [(.ref b1)])) (fun t k => st1 t k) ?_
  refine own_go (T1 := T1) (g1 := (mkF m 63 #[.val (.int i0), .val (.int i1), .val (.int i2), .val (.int i3), .val (.int (Int32.ofNat 2)), .val (.int mm), .val (.int c0), .val (.int c1), .val (.int p0), .val (.int p1), .val (.ref b1), .unset, .unset, .unset, .unset, .unset, .unset] [])) (fun _ k => XS.astore X1.here hx rfl (hb hby at_61) rfl rfl (l' := #[.val (.int i0), .val (.int i1), .val (.int i2), .val (.int i3), .val (.int (Int32.ofNat 2)), .val (.int mm), .val (.int c0), .val (.int c1), .val (.int p0), .val (.int p1), .val (.ref b1), .unset, .unset, .unset, .unset, .unset, .unset]) rfl k) ?_
  refine own_go (T1 := T1) (g1 := (mkF m 65 #[.val (.int i0), .val (.int i1), .val (.int i2), .val (.int i3), .val (.int (Int32.ofNat 2)), .val (.int mm), .val (.int c0), .val (.int c1), .val (.int p0), .val (.int p1), .val (.ref b1), .unset, .unset, .unset, .unset, .unset, .unset] [(.int (Int32.ofNat 2))])) (fun _ k => XS.iload X1.here hx rfl (hb hby at_63) rfl k) ?_
  obtain ⟨T2, h2, k2, X2, e2, E2, A2, Y2, st2⟩ := newPE X1 hx hZ (hw _ (List.mem_of_getElem? (i := 2) rfl)) e1 (g := (mkF m 65 #[.val (.int i0), .val (.int i1), .val (.int i2), .val (.int i3), .val (.int (Int32.ofNat 2)), .val (.int mm), .val (.int c0), .val (.int c1), .val (.int p0), .val (.int p1), .val (.ref b1), .unset, .unset, .unset, .unset, .unset, .unset] [(.int (Int32.ofNat 2))])) rfl (hb hby at_65) rfl (by decide) (cap := 4) (by decide) (by decide) (by decide) (by decide) (ad := "[Z") rfl
  obtain ⟨b2, g2⟩ : ∃ z, z = h1.size := ⟨_, rfl⟩
  rw [← g2] at A2 st2 Y2
  have ne_b1_b2 : b1 ≠ b2 := Nat.ne_of_lt (Nat.lt_of_lt_of_le Vb1_1.lt (Nat.le_of_eq g2.symm))
  have ge_b2 : n0 ≤ b2 := Nat.le_trans Zs1 (Nat.le_of_eq g2.symm)
  have sz_b2 : h0.size ≤ b2 := Nat.le_trans Kp1.1 (Nat.le_of_eq g2.symm)
  have Vb1_2 : Arv Z h2 b1 k1 .int (Int32.ofNat 2) [] (.int 0) := Vb1_1.ext E2
  have Yb1_2 : Exa Z h2 b1 "[I" := Y1.ext E2
  have Zs2 : n0 ≤ h2.size := Nat.le_trans Zs1 E2.1
  have Kp2 : Keep h0 h2 [] := Kp1.ext E2
  have Vb2_2 : Arv Z h2 b2 k2 .boolean (Int32.ofNat 2) [] (.int 0) := Arv.new A2 (by decide)
  refine own_go (T1 := T2) (g1 := (mkF m 67 #[.val (.int i0), .val (.int i1), .val (.int i2), .val (.int i3), .val (.int (Int32.ofNat 2)), .val (.int mm), .val (.int c0), .val (.int c1), .val (.int p0), .val (.int p1), .val (.ref b1), .unset, .unset, .unset, .unset, .unset, .unset] [(.ref b2)])) (fun t k => st2 t k) ?_
  refine own_go (T1 := T2) (g1 := (mkF m 69 #[.val (.int i0), .val (.int i1), .val (.int i2), .val (.int i3), .val (.int (Int32.ofNat 2)), .val (.int mm), .val (.int c0), .val (.int c1), .val (.int p0), .val (.int p1), .val (.ref b1), .val (.ref b2), .unset, .unset, .unset, .unset, .unset] [])) (fun _ k => XS.astore X2.here hx rfl (hb hby at_67) rfl rfl (l' := #[.val (.int i0), .val (.int i1), .val (.int i2), .val (.int i3), .val (.int (Int32.ofNat 2)), .val (.int mm), .val (.int c0), .val (.int c1), .val (.int p0), .val (.int p1), .val (.ref b1), .val (.ref b2), .unset, .unset, .unset, .unset, .unset]) rfl k) ?_
  refine own_go (T1 := T2) (g1 := (mkF m 71 #[.val (.int i0), .val (.int i1), .val (.int i2), .val (.int i3), .val (.int (Int32.ofNat 2)), .val (.int mm), .val (.int c0), .val (.int c1), .val (.int p0), .val (.int p1), .val (.ref b1), .val (.ref b2), .unset, .unset, .unset, .unset, .unset] [(.int (Int32.ofNat 2))])) (fun _ k => XS.iload X2.here hx rfl (hb hby at_69) rfl k) ?_
  refine own_go (T1 := T2) (g1 := (mkF m 74 #[.val (.int i0), .val (.int i1), .val (.int i2), .val (.int i3), .val (.int (Int32.ofNat 2)), .val (.int mm), .val (.int c0), .val (.int c1), .val (.int p0), .val (.int p1), .val (.ref b1), .val (.ref b2), .unset, .unset, .unset, .unset, .unset] [])) (fun _ k => XS.ifNo X2.here hx rfl (hb hby at_71) rfl ((if0 _ _).trans (tlt ((by decide) : (0 : Int32) < (Int32.ofNat 2))).2.2.2) k) ?_
  refine own_go (T1 := T2) (g1 := (mkF m 76 #[.val (.int i0), .val (.int i1), .val (.int i2), .val (.int i3), .val (.int (Int32.ofNat 2)), .val (.int mm), .val (.int c0), .val (.int c1), .val (.int p0), .val (.int p1), .val (.ref b1), .val (.ref b2), .unset, .unset, .unset, .unset, .unset] [(.ref b1)])) (fun _ k => XS.aload X2.here hx rfl (hb hby at_74) rfl rfl k) ?_
  refine own_go (T1 := T2) (g1 := (mkF m 77 #[.val (.int i0), .val (.int i1), .val (.int i2), .val (.int i3), .val (.int (Int32.ofNat 2)), .val (.int mm), .val (.int c0), .val (.int c1), .val (.int p0), .val (.int p1), .val (.ref b1), .val (.ref b2), .unset, .unset, .unset, .unset, .unset] [(.int (0 : Int32)), (.ref b1)])) (fun _ k => XS.iconst X2.here hx rfl (hb hby at_76) k) ?_
  refine own_go (T1 := T2) (g1 := (mkF m 79 #[.val (.int i0), .val (.int i1), .val (.int i2), .val (.int i3), .val (.int (Int32.ofNat 2)), .val (.int mm), .val (.int c0), .val (.int c1), .val (.int p0), .val (.int p1), .val (.ref b1), .val (.ref b2), .unset, .unset, .unset, .unset, .unset] [(.int c0), (.int (0 : Int32)), (.ref b1)])) (fun _ k => XS.iload X2.here hx rfl (hb hby at_77) rfl k) ?_
  have Vp3 : Arv Z h2 b1 k1 .int (Int32.ofNat 2) ([] ++ List.replicate 1 (Value.int 0)) (.int 0) := Vb1_2.pad (pad_rep _ _ 1)
  obtain ⟨cl3, Ar3, q3, S3, Nn3, H3, G3⟩ := id Vp3
  obtain ⟨T3, h3, X3, e3, W3, st3⟩ := stI X2 hx hZ e2 Ar3 (j := (0 : Int32)) (inb_of S3 ⟨by decide, by decide⟩) (g := (mkF m 79 #[.val (.int i0), .val (.int i1), .val (.int i2), .val (.int i3), .val (.int (Int32.ofNat 2)), .val (.int mm), .val (.int c0), .val (.int c1), .val (.int p0), .val (.int p1), .val (.ref b1), .val (.ref b2), .unset, .unset, .unset, .unset, .unset] [(.int c0), (.int (0 : Int32)), (.ref b1)])) rfl rfl (hb hby at_79)
  have Yb1_3 : Exa Z h3 b1 "[I" := Yb1_2.wr W3
  have Vb2_3 : Arv Z h3 b2 k2 .boolean (Int32.ofNat 2) [] (.int 0) := Vb2_2.other W3 (Ne.symm ne_b1_b2)
  have Yb2_3 : Exa Z h3 b2 "[Z" := Y2.wr W3
  have Vb1_3 : Arv Z h3 b1 k1 .int (Int32.ofNat 2) ([c0].map Value.int) (.int 0) := Arv.set Ar3 q3 S3 Nn3 H3 G3 rfl W3 0 rfl (by decide)
  have Zs3 : n0 ≤ h3.size := Nat.le_trans Zs2 (Keep.of_wr W3).1
  have Kp3 : Keep h0 h3 [] := Kp2.wr W3 (Or.inr sz_b1)
  have N3 := Fr.snoc X3 N0 ge_b1
  refine own_go (T1 := T3) (g1 := (mkF m 80 #[.val (.int i0), .val (.int i1), .val (.int i2), .val (.int i3), .val (.int (Int32.ofNat 2)), .val (.int mm), .val (.int c0), .val (.int c1), .val (.int p0), .val (.int p1), .val (.ref b1), .val (.ref b2), .unset, .unset, .unset, .unset, .unset] [])) (fun t k => st3 t k) ?_
  refine own_go (T1 := T3) (g1 := (mkF m 82 #[.val (.int i0), .val (.int i1), .val (.int i2), .val (.int i3), .val (.int (Int32.ofNat 2)), .val (.int mm), .val (.int c0), .val (.int c1), .val (.int p0), .val (.int p1), .val (.ref b1), .val (.ref b2), .unset, .unset, .unset, .unset, .unset] [(.ref b2)])) (fun _ k => XS.aload X3.here hx rfl (hb hby at_80) rfl rfl k) ?_
  refine own_go (T1 := T3) (g1 := (mkF m 83 #[.val (.int i0), .val (.int i1), .val (.int i2), .val (.int i3), .val (.int (Int32.ofNat 2)), .val (.int mm), .val (.int c0), .val (.int c1), .val (.int p0), .val (.int p1), .val (.ref b1), .val (.ref b2), .unset, .unset, .unset, .unset, .unset] [(.int (0 : Int32)), (.ref b2)])) (fun _ k => XS.iconst X3.here hx rfl (hb hby at_82) k) ?_
  refine own_go (T1 := T3) (g1 := (mkF m 84 #[.val (.int i0), .val (.int i1), .val (.int i2), .val (.int i3), .val (.int (Int32.ofNat 2)), .val (.int mm), .val (.int c0), .val (.int c1), .val (.int p0), .val (.int p1), .val (.ref b1), .val (.ref b2), .unset, .unset, .unset, .unset, .unset] [(.int i0), (.int (0 : Int32)), (.ref b2)])) (fun _ k => XS.iloadN X3.here hx rfl (hb hby at_83) rfl k) ?_
  refine own_go (T1 := T3) (g1 := (mkF m 86 #[.val (.int i0), .val (.int i1), .val (.int i2), .val (.int i3), .val (.int (Int32.ofNat 2)), .val (.int mm), .val (.int c0), .val (.int c1), .val (.int p0), .val (.int p1), .val (.ref b1), .val (.ref b2), .unset, .unset, .unset, .unset, .unset] [(.int (65536 : Int32)), (.int i0), (.int (0 : Int32)), (.ref b2)])) (fun _ k => X3.ldcInt hx hown (mvT hZ (hw _ (List.mem_of_getElem? (i := 155) rfl))) (g := (mkF m 84 #[.val (.int i0), .val (.int i1), .val (.int i2), .val (.int i3), .val (.int (Int32.ofNat 2)), .val (.int mm), .val (.int c0), .val (.int c1), .val (.int p0), .val (.int p1), .val (.ref b1), .val (.ref b2), .unset, .unset, .unset, .unset, .unset] [(.int i0), (.int (0 : Int32)), (.ref b2)])) rfl (hb hby at_84) _ k) ?_
  refine own_go (T1 := T3) (g1 := (mkF m 87 #[.val (.int i0), .val (.int i1), .val (.int i2), .val (.int i3), .val (.int (Int32.ofNat 2)), .val (.int mm), .val (.int c0), .val (.int c1), .val (.int p0), .val (.int p1), .val (.ref b1), .val (.ref b2), .unset, .unset, .unset, .unset, .unset] [(.int (i0 &&& (65536 : Int32))), (.int (0 : Int32)), (.ref b2)])) (fun _ k => XS.iand X3.here hx rfl (hb hby at_86) rfl k) ?_
  by_cases hc87 : (i0 &&& (65536 : Int32)) = (0 : Int32)
  · refine own_go (T1 := T3) (g1 := (mkF m 94 #[.val (.int i0), .val (.int i1), .val (.int i2), .val (.int i3), .val (.int (Int32.ofNat 2)), .val (.int mm), .val (.int c0), .val (.int c1), .val (.int p0), .val (.int p1), .val (.ref b1), .val (.ref b2), .unset, .unset, .unset, .unset, .unset] [(.int (0 : Int32)), (.ref b2)])) (fun _ k => XS.ifYes X3.here hx rfl (pc0 := 87) (pc' := 94) rfl (hb hby at_87) rfl ((if0 _ _).trans (teq (hc87 : (i0 &&& (65536 : Int32)) = (0 : Int32))).1) (by decide) (by decide) k) ?_
    refine own_go (T1 := T3) (g1 := (mkF m 95 #[.val (.int i0), .val (.int i1), .val (.int i2), .val (.int i3), .val (.int (Int32.ofNat 2)), .val (.int mm), .val (.int c0), .val (.int c1), .val (.int p0), .val (.int p1), .val (.ref b1), .val (.ref b2), .unset, .unset, .unset, .unset, .unset] [(.int (0 : Int32)), (.int (0 : Int32)), (.ref b2)])) (fun _ k => XS.iconst X3.here hx rfl (hb hby at_94) k) ?_
    have Vp4 : Arv Z h3 b2 k2 .boolean (Int32.ofNat 2) ([] ++ List.replicate 1 (Value.int 0)) (.int 0) := Vb2_3.pad (pad_rep _ _ 1)
    obtain ⟨cl4, Ar4, q4, S4, Nn4, H4, G4⟩ := id Vp4
    obtain ⟨T4, h4, X4, e4, W4, st4⟩ := stZ X3 hx hZ e3 Ar4 (j := (0 : Int32)) (inb_of S4 ⟨by decide, by decide⟩) (g := (mkF m 95 #[.val (.int i0), .val (.int i1), .val (.int i2), .val (.int i3), .val (.int (Int32.ofNat 2)), .val (.int mm), .val (.int c0), .val (.int c1), .val (.int p0), .val (.int p1), .val (.ref b1), .val (.ref b2), .unset, .unset, .unset, .unset, .unset] [(.int (0 : Int32)), (.int (0 : Int32)), (.ref b2)])) rfl rfl (hb hby at_95)
    have Yb1_4 : Exa Z h4 b1 "[I" := Yb1_3.wr W4
    have Yb2_4 : Exa Z h4 b2 "[Z" := Yb2_3.wr W4
    have Vb1_4 : Arv Z h4 b1 k1 .int (Int32.ofNat 2) ([c0].map Value.int) (.int 0) := Vb1_3.other W4 ne_b1_b2
    have Vb2_4 : Arv Z h4 b2 k2 .boolean (Int32.ofNat 2) (([] ++ List.replicate 1 (Value.int 0)).set 0 (.int (nar .boolean (0 : Int32)))) (.int 0) := Arv.set Ar4 q4 S4 Nn4 H4 G4 (fits_nar_bool _) W4 0 rfl (by decide)
    have Zs4 : n0 ≤ h4.size := Nat.le_trans Zs3 (Keep.of_wr W4).1
    have Kp4 : Keep h0 h4 [] := Kp3.wr W4 (Or.inr sz_b2)
    have N4 := Fr.snoc X4 N3 ge_b2
    refine own_go (T1 := T4) (g1 := (mkF m 96 #[.val (.int i0), .val (.int i1), .val (.int i2), .val (.int i3), .val (.int (Int32.ofNat 2)), .val (.int mm), .val (.int c0), .val (.int c1), .val (.int p0), .val (.int p1), .val (.ref b1), .val (.ref b2), .unset, .unset, .unset, .unset, .unset] [])) (fun t k => st4 t k) ?_
    refine own_go (T1 := T4) (g1 := (mkF m 98 #[.val (.int i0), .val (.int i1), .val (.int i2), .val (.int i3), .val (.int (Int32.ofNat 2)), .val (.int mm), .val (.int c0), .val (.int c1), .val (.int p0), .val (.int p1), .val (.ref b1), .val (.ref b2), .unset, .unset, .unset, .unset, .unset] [(.int (Int32.ofNat 2))])) (fun _ k => XS.iload X4.here hx rfl (hb hby at_96) rfl k) ?_
    refine own_go (T1 := T4) (g1 := (mkF m 99 #[.val (.int i0), .val (.int i1), .val (.int i2), .val (.int i3), .val (.int (Int32.ofNat 2)), .val (.int mm), .val (.int c0), .val (.int c1), .val (.int p0), .val (.int p1), .val (.ref b1), .val (.ref b2), .unset, .unset, .unset, .unset, .unset] [(.int (1 : Int32)), (.int (Int32.ofNat 2))])) (fun _ k => XS.iconst X4.here hx rfl (hb hby at_98) k) ?_
    refine own_go (T1 := T4) (g1 := (mkF m 102 #[.val (.int i0), .val (.int i1), .val (.int i2), .val (.int i3), .val (.int (Int32.ofNat 2)), .val (.int mm), .val (.int c0), .val (.int c1), .val (.int p0), .val (.int p1), .val (.ref b1), .val (.ref b2), .unset, .unset, .unset, .unset, .unset] [])) (fun _ k => XS.icmpNo X4.here hx rfl (hb hby at_99) rfl (tlt ((by decide) : (1 : Int32) < (Int32.ofNat 2))).2.2.2 k) ?_
    refine own_go (T1 := T4) (g1 := (mkF m 104 #[.val (.int i0), .val (.int i1), .val (.int i2), .val (.int i3), .val (.int (Int32.ofNat 2)), .val (.int mm), .val (.int c0), .val (.int c1), .val (.int p0), .val (.int p1), .val (.ref b1), .val (.ref b2), .unset, .unset, .unset, .unset, .unset] [(.ref b1)])) (fun _ k => XS.aload X4.here hx rfl (hb hby at_102) rfl rfl k) ?_
    refine own_go (T1 := T4) (g1 := (mkF m 105 #[.val (.int i0), .val (.int i1), .val (.int i2), .val (.int i3), .val (.int (Int32.ofNat 2)), .val (.int mm), .val (.int c0), .val (.int c1), .val (.int p0), .val (.int p1), .val (.ref b1), .val (.ref b2), .unset, .unset, .unset, .unset, .unset] [(.int (1 : Int32)), (.ref b1)])) (fun _ k => XS.iconst X4.here hx rfl (hb hby at_104) k) ?_
    refine own_go (T1 := T4) (g1 := (mkF m 107 #[.val (.int i0), .val (.int i1), .val (.int i2), .val (.int i3), .val (.int (Int32.ofNat 2)), .val (.int mm), .val (.int c0), .val (.int c1), .val (.int p0), .val (.int p1), .val (.ref b1), .val (.ref b2), .unset, .unset, .unset, .unset, .unset] [(.int c1), (.int (1 : Int32)), (.ref b1)])) (fun _ k => XS.iload X4.here hx rfl (hb hby at_105) rfl k) ?_
    have Vp5 : Arv Z h4 b1 k1 .int (Int32.ofNat 2) ([c0].map Value.int ++ List.replicate 1 (Value.int 0)) (.int 0) := Vb1_4.pad (pad_rep _ _ 1)
    obtain ⟨cl5, Ar5, q5, S5, Nn5, H5, G5⟩ := id Vp5
    obtain ⟨T5, h5, X5, e5, W5, st5⟩ := stI X4 hx hZ e4 Ar5 (j := (1 : Int32)) (inb_of S5 ⟨by decide, by decide⟩) (g := (mkF m 107 #[.val (.int i0), .val (.int i1), .val (.int i2), .val (.int i3), .val (.int (Int32.ofNat 2)), .val (.int mm), .val (.int c0), .val (.int c1), .val (.int p0), .val (.int p1), .val (.ref b1), .val (.ref b2), .unset, .unset, .unset, .unset, .unset] [(.int c1), (.int (1 : Int32)), (.ref b1)])) rfl rfl (hb hby at_107)
    have Yb1_5 : Exa Z h5 b1 "[I" := Yb1_4.wr W5
    have Yb2_5 : Exa Z h5 b2 "[Z" := Yb2_4.wr W5
    have Vb2_5 : Arv Z h5 b2 k2 .boolean (Int32.ofNat 2) (([] ++ List.replicate 1 (Value.int 0)).set 0 (.int (nar .boolean (0 : Int32)))) (.int 0) := Vb2_4.other W5 (Ne.symm ne_b1_b2)
    have Vb1_5 : Arv Z h5 b1 k1 .int (Int32.ofNat 2) ([c0, c1].map Value.int) (.int 0) := Arv.set Ar5 q5 S5 Nn5 H5 G5 rfl W5 1 rfl (by simp)
    have Zs5 : n0 ≤ h5.size := Nat.le_trans Zs4 (Keep.of_wr W5).1
    have Kp5 : Keep h0 h5 [] := Kp4.wr W5 (Or.inr sz_b1)
    have N5 := Fr.snoc X5 N4 ge_b1
    refine own_go (T1 := T5) (g1 := (mkF m 108 #[.val (.int i0), .val (.int i1), .val (.int i2), .val (.int i3), .val (.int (Int32.ofNat 2)), .val (.int mm), .val (.int c0), .val (.int c1), .val (.int p0), .val (.int p1), .val (.ref b1), .val (.ref b2), .unset, .unset, .unset, .unset, .unset] [])) (fun t k => st5 t k) ?_
    exact ⟨T5, _, _, _, _, X5, ⟨b1, b2, k1, k2, _, rfl, rfl, rfl, N5, by rw [e5]; exact ⟨Kp5, Vb1_5, Yb1_5, Vb2_5, Yb2_5⟩⟩, fun _ k => k⟩
  · refine own_go (T1 := T3) (g1 := (mkF m 90 #[.val (.int i0), .val (.int i1), .val (.int i2), .val (.int i3), .val (.int (Int32.ofNat 2)), .val (.int mm), .val (.int c0), .val (.int c1), .val (.int p0), .val (.int p1), .val (.ref b1), .val (.ref b2), .unset, .unset, .unset, .unset, .unset] [(.int (0 : Int32)), (.ref b2)])) (fun _ k => XS.ifNo X3.here hx rfl (hb hby at_87) rfl ((if0 _ _).trans (feq (hc87 : ¬ ((i0 &&& (65536 : Int32)) = (0 : Int32)))).1) k) ?_
    refine own_go (T1 := T3) (g1 := (mkF m 91 #[.val (.int i0), .val (.int i1), .val (.int i2), .val (.int i3), .val (.int (Int32.ofNat 2)), .val (.int mm), .val (.int c0), .val (.int c1), .val (.int p0), .val (.int p1), .val (.ref b1), .val (.ref b2), .unset, .unset, .unset, .unset, .unset] [(.int (1 : Int32)), (.int (0 : Int32)), (.ref b2)])) (fun _ k => XS.iconst X3.here hx rfl (hb hby at_90) k) ?_
    refine own_go (T1 := T3) (g1 := (mkF m 95 #[.val (.int i0), .val (.int i1), .val (.int i2), .val (.int i3), .val (.int (Int32.ofNat 2)), .val (.int mm), .val (.int c0), .val (.int c1), .val (.int p0), .val (.int p1), .val (.ref b1), .val (.ref b2), .unset, .unset, .unset, .unset, .unset] [(.int (1 : Int32)), (.int (0 : Int32)), (.ref b2)])) (fun _ k => XS.goto X3.here hx rfl (pc0 := 91) (pc' := 95) rfl (hb hby at_91) (by decide) (by decide) k) ?_
    have Vp4 : Arv Z h3 b2 k2 .boolean (Int32.ofNat 2) ([] ++ List.replicate 1 (Value.int 0)) (.int 0) := Vb2_3.pad (pad_rep _ _ 1)
    obtain ⟨cl4, Ar4, q4, S4, Nn4, H4, G4⟩ := id Vp4
    obtain ⟨T4, h4, X4, e4, W4, st4⟩ := stZ X3 hx hZ e3 Ar4 (j := (0 : Int32)) (inb_of S4 ⟨by decide, by decide⟩) (g := (mkF m 95 #[.val (.int i0), .val (.int i1), .val (.int i2), .val (.int i3), .val (.int (Int32.ofNat 2)), .val (.int mm), .val (.int c0), .val (.int c1), .val (.int p0), .val (.int p1), .val (.ref b1), .val (.ref b2), .unset, .unset, .unset, .unset, .unset] [(.int (1 : Int32)), (.int (0 : Int32)), (.ref b2)])) rfl rfl (hb hby at_95)
    have Yb1_4 : Exa Z h4 b1 "[I" := Yb1_3.wr W4
    have Yb2_4 : Exa Z h4 b2 "[Z" := Yb2_3.wr W4
    have Vb1_4 : Arv Z h4 b1 k1 .int (Int32.ofNat 2) ([c0].map Value.int) (.int 0) := Vb1_3.other W4 ne_b1_b2
    have Vb2_4 : Arv Z h4 b2 k2 .boolean (Int32.ofNat 2) (([] ++ List.replicate 1 (Value.int 0)).set 0 (.int (nar .boolean (1 : Int32)))) (.int 0) := Arv.set Ar4 q4 S4 Nn4 H4 G4 (fits_nar_bool _) W4 0 rfl (by decide)
    have Zs4 : n0 ≤ h4.size := Nat.le_trans Zs3 (Keep.of_wr W4).1
    have Kp4 : Keep h0 h4 [] := Kp3.wr W4 (Or.inr sz_b2)
    have N4 := Fr.snoc X4 N3 ge_b2
    refine own_go (T1 := T4) (g1 := (mkF m 96 #[.val (.int i0), .val (.int i1), .val (.int i2), .val (.int i3), .val (.int (Int32.ofNat 2)), .val (.int mm), .val (.int c0), .val (.int c1), .val (.int p0), .val (.int p1), .val (.ref b1), .val (.ref b2), .unset, .unset, .unset, .unset, .unset] [])) (fun t k => st4 t k) ?_
    refine own_go (T1 := T4) (g1 := (mkF m 98 #[.val (.int i0), .val (.int i1), .val (.int i2), .val (.int i3), .val (.int (Int32.ofNat 2)), .val (.int mm), .val (.int c0), .val (.int c1), .val (.int p0), .val (.int p1), .val (.ref b1), .val (.ref b2), .unset, .unset, .unset, .unset, .unset] [(.int (Int32.ofNat 2))])) (fun _ k => XS.iload X4.here hx rfl (hb hby at_96) rfl k) ?_
    refine own_go (T1 := T4) (g1 := (mkF m 99 #[.val (.int i0), .val (.int i1), .val (.int i2), .val (.int i3), .val (.int (Int32.ofNat 2)), .val (.int mm), .val (.int c0), .val (.int c1), .val (.int p0), .val (.int p1), .val (.ref b1), .val (.ref b2), .unset, .unset, .unset, .unset, .unset] [(.int (1 : Int32)), (.int (Int32.ofNat 2))])) (fun _ k => XS.iconst X4.here hx rfl (hb hby at_98) k) ?_
    refine own_go (T1 := T4) (g1 := (mkF m 102 #[.val (.int i0), .val (.int i1), .val (.int i2), .val (.int i3), .val (.int (Int32.ofNat 2)), .val (.int mm), .val (.int c0), .val (.int c1), .val (.int p0), .val (.int p1), .val (.ref b1), .val (.ref b2), .unset, .unset, .unset, .unset, .unset] [])) (fun _ k => XS.icmpNo X4.here hx rfl (hb hby at_99) rfl (tlt ((by decide) : (1 : Int32) < (Int32.ofNat 2))).2.2.2 k) ?_
    refine own_go (T1 := T4) (g1 := (mkF m 104 #[.val (.int i0), .val (.int i1), .val (.int i2), .val (.int i3), .val (.int (Int32.ofNat 2)), .val (.int mm), .val (.int c0), .val (.int c1), .val (.int p0), .val (.int p1), .val (.ref b1), .val (.ref b2), .unset, .unset, .unset, .unset, .unset] [(.ref b1)])) (fun _ k => XS.aload X4.here hx rfl (hb hby at_102) rfl rfl k) ?_
    refine own_go (T1 := T4) (g1 := (mkF m 105 #[.val (.int i0), .val (.int i1), .val (.int i2), .val (.int i3), .val (.int (Int32.ofNat 2)), .val (.int mm), .val (.int c0), .val (.int c1), .val (.int p0), .val (.int p1), .val (.ref b1), .val (.ref b2), .unset, .unset, .unset, .unset, .unset] [(.int (1 : Int32)), (.ref b1)])) (fun _ k => XS.iconst X4.here hx rfl (hb hby at_104) k) ?_
    refine own_go (T1 := T4) (g1 := (mkF m 107 #[.val (.int i0), .val (.int i1), .val (.int i2), .val (.int i3), .val (.int (Int32.ofNat 2)), .val (.int mm), .val (.int c0), .val (.int c1), .val (.int p0), .val (.int p1), .val (.ref b1), .val (.ref b2), .unset, .unset, .unset, .unset, .unset] [(.int c1), (.int (1 : Int32)), (.ref b1)])) (fun _ k => XS.iload X4.here hx rfl (hb hby at_105) rfl k) ?_
    have Vp5 : Arv Z h4 b1 k1 .int (Int32.ofNat 2) ([c0].map Value.int ++ List.replicate 1 (Value.int 0)) (.int 0) := Vb1_4.pad (pad_rep _ _ 1)
    obtain ⟨cl5, Ar5, q5, S5, Nn5, H5, G5⟩ := id Vp5
    obtain ⟨T5, h5, X5, e5, W5, st5⟩ := stI X4 hx hZ e4 Ar5 (j := (1 : Int32)) (inb_of S5 ⟨by decide, by decide⟩) (g := (mkF m 107 #[.val (.int i0), .val (.int i1), .val (.int i2), .val (.int i3), .val (.int (Int32.ofNat 2)), .val (.int mm), .val (.int c0), .val (.int c1), .val (.int p0), .val (.int p1), .val (.ref b1), .val (.ref b2), .unset, .unset, .unset, .unset, .unset] [(.int c1), (.int (1 : Int32)), (.ref b1)])) rfl rfl (hb hby at_107)
    have Yb1_5 : Exa Z h5 b1 "[I" := Yb1_4.wr W5
    have Yb2_5 : Exa Z h5 b2 "[Z" := Yb2_4.wr W5
    have Vb2_5 : Arv Z h5 b2 k2 .boolean (Int32.ofNat 2) (([] ++ List.replicate 1 (Value.int 0)).set 0 (.int (nar .boolean (1 : Int32)))) (.int 0) := Vb2_4.other W5 (Ne.symm ne_b1_b2)
    have Vb1_5 : Arv Z h5 b1 k1 .int (Int32.ofNat 2) ([c0, c1].map Value.int) (.int 0) := Arv.set Ar5 q5 S5 Nn5 H5 G5 rfl W5 1 rfl (by simp)
    have Zs5 : n0 ≤ h5.size := Nat.le_trans Zs4 (Keep.of_wr W5).1
    have Kp5 : Keep h0 h5 [] := Kp4.wr W5 (Or.inr sz_b1)
    have N5 := Fr.snoc X5 N4 ge_b1
    refine own_go (T1 := T5) (g1 := (mkF m 108 #[.val (.int i0), .val (.int i1), .val (.int i2), .val (.int i3), .val (.int (Int32.ofNat 2)), .val (.int mm), .val (.int c0), .val (.int c1), .val (.int p0), .val (.int p1), .val (.ref b1), .val (.ref b2), .unset, .unset, .unset, .unset, .unset] [])) (fun t k => st5 t k) ?_
    exact ⟨T5, _, _, _, _, X5, ⟨b1, b2, k1, k2, _, rfl, rfl, rfl, N5, by rw [e5]; exact ⟨Kp5, Vb1_5, Yb1_5, Vb2_5, Yb2_5⟩⟩, fun _ k => k⟩
set_option maxRecDepth 65536 in
set_option maxHeartbeats 4000000 in
theorem own_fB0 {p : Program} {l : Launch} {e : Env} {s : State} {m : MethodId} {args : Array Value} {below : List Frame} {meth : Method} {c : Code} {T0 : State} {locs : List Loc} {Z : State} {a0 : Array Value} {h0 : Heap} {n0 : Nat} (i0 i1 i2 i3 nn c0 c1 p0 p1 : Int32) (dA dZ : Addr) (X0 : Stand p l e room_1 s m args below meth c T0 locs 2 8) (hx : p.tables.exec = Jvm.exec) (hZ : Z.Warmed39 s.vm) (hw : ∀ d ∈ tables_1, d.before a0 Z = true) (hby : c.code = code) (hml : c.maxLocals = 17) (hown : s.vm.findClass "com/example/sukima/sukima/catalog/IndexPlaceOfPinLaw" = some m.cls) (e0 : T0.heap = h0) (N0 : Fr n0 locs) (Z0 : n0 ≤ h0.size) :
    own_To p l e room_1 s m args below meth c T0 (mkF m 108 #[.val (.int i0), .val (.int i1), .val (.int i2), .val (.int i3), .val (.int nn), .val (.int (Int32.ofNat 0)), .val (.int c0), .val (.int c1), .val (.int p0), .val (.int p1), .val (.ref dA), .val (.ref dZ), .unset, .unset, .unset, .unset, .unset] []) (fun T' g' L kq zq => ∃ (dP : Addr) (ke : ClassId), g' = (mkF m 137 #[.val (.int i0), .val (.int i1), .val (.int i2), .val (.int i3), .val (.int nn), .val (.int (Int32.ofNat 0)), .val (.int c0), .val (.int c1), .val (.int p0), .val (.int p1), .val (.ref dA), .val (.ref dZ), .val (.ref dP), .unset, .unset, .unset, .unset] []) ∧ kq = 3 ∧ zq = 12 ∧ Fr n0 L ∧ Keep h0 T'.heap [] ∧ Arv Z T'.heap dP ke .int (Int32.ofNat 0) ((own_cols 0 p0 p1).map Value.int) (.int 0)) := by
  refine own_go (T1 := T0) (g1 := (mkF m 110 #[.val (.int i0), .val (.int i1), .val (.int i2), .val (.int i3), .val (.int nn), .val (.int (Int32.ofNat 0)), .val (.int c0), .val (.int c1), .val (.int p0), .val (.int p1), .val (.ref dA), .val (.ref dZ), .unset, .unset, .unset, .unset, .unset] [(.int (Int32.ofNat 0))])) (fun _ k => XS.iload X0.here hx rfl (hb hby at_108) rfl k) ?_
  obtain ⟨T1, h1, k1, X1, e1, E1, A1, st1⟩ := newP X0 hx hZ (hw _ (List.mem_of_getElem? (i := 1) rfl)) e0 (g := (mkF m 110 #[.val (.int i0), .val (.int i1), .val (.int i2), .val (.int i3), .val (.int nn), .val (.int (Int32.ofNat 0)), .val (.int c0), .val (.int c1), .val (.int p0), .val (.int p1), .val (.ref dA), .val (.ref dZ), .unset, .unset, .unset, .unset, .unset] [(.int (Int32.ofNat 0))])) rfl (hb hby at_110) rfl (by decide) (cap := 4) (by decide) (by decide) (by decide) (by decide)
  obtain ⟨b1, g1⟩ : ∃ z, z = h0.size := ⟨_, rfl⟩
  rw [← g1] at A1 st1
  have ge_b1 : n0 ≤ b1 := Nat.le_trans Z0 (Nat.le_of_eq g1.symm)
  have sz_b1 : h0.size ≤ b1 := Nat.le_trans (Keep.refl h0 []).1 (Nat.le_of_eq g1.symm)
  have Zs1 : n0 ≤ h1.size := Nat.le_trans Z0 E1.1
  have Kp1 : Keep h0 h1 [] := (Keep.refl h0 []).ext E1
  have Vb1_1 : Arv Z h1 b1 k1 .int (Int32.ofNat 0) [] (.int 0) := Arv.new A1 (by decide)
  refine own_go (T1 := T1) (g1 := (mkF m 112 #[.val (.int i0), .val (.int i1), .val (.int i2), .val (.int i3), .val (.int nn), .val (.int (Int32.ofNat 0)), .val (.int c0), .val (.int c1), .val (.int p0), .val (.int p1), .val (.ref dA), .val (.ref dZ), .unset, .unset, .unset, .unset, .unset] [(.ref b1)])) (fun t k => st1 t k) ?_
  refine own_go (T1 := T1) (g1 := (mkF m 114 #[.val (.int i0), .val (.int i1), .val (.int i2), .val (.int i3), .val (.int nn), .val (.int (Int32.ofNat 0)), .val (.int c0), .val (.int c1), .val (.int p0), .val (.int p1), .val (.ref dA), .val (.ref dZ), .val (.ref b1), .unset, .unset, .unset, .unset] [])) (fun _ k => XS.astore X1.here hx rfl (hb hby at_112) rfl rfl (l' := #[.val (.int i0), .val (.int i1), .val (.int i2), .val (.int i3), .val (.int nn), .val (.int (Int32.ofNat 0)), .val (.int c0), .val (.int c1), .val (.int p0), .val (.int p1), .val (.ref dA), .val (.ref dZ), .val (.ref b1), .unset, .unset, .unset, .unset]) rfl k) ?_
  refine own_go (T1 := T1) (g1 := (mkF m 116 #[.val (.int i0), .val (.int i1), .val (.int i2), .val (.int i3), .val (.int nn), .val (.int (Int32.ofNat 0)), .val (.int c0), .val (.int c1), .val (.int p0), .val (.int p1), .val (.ref dA), .val (.ref dZ), .val (.ref b1), .unset, .unset, .unset, .unset] [(.int (Int32.ofNat 0))])) (fun _ k => XS.iload X1.here hx rfl (hb hby at_114) rfl k) ?_
  refine own_go (T1 := T1) (g1 := (mkF m 125 #[.val (.int i0), .val (.int i1), .val (.int i2), .val (.int i3), .val (.int nn), .val (.int (Int32.ofNat 0)), .val (.int c0), .val (.int c1), .val (.int p0), .val (.int p1), .val (.ref dA), .val (.ref dZ), .val (.ref b1), .unset, .unset, .unset, .unset] [])) (fun _ k => XS.ifYes X1.here hx rfl (pc0 := 116) (pc' := 125) rfl (hb hby at_116) rfl ((if0 _ _).trans (flt ((by decide) : ¬ ((0 : Int32) < (Int32.ofNat 0)))).2.2.2) (by decide) (by decide) k) ?_
  refine own_go (T1 := T1) (g1 := (mkF m 127 #[.val (.int i0), .val (.int i1), .val (.int i2), .val (.int i3), .val (.int nn), .val (.int (Int32.ofNat 0)), .val (.int c0), .val (.int c1), .val (.int p0), .val (.int p1), .val (.ref dA), .val (.ref dZ), .val (.ref b1), .unset, .unset, .unset, .unset] [(.int (Int32.ofNat 0))])) (fun _ k => XS.iload X1.here hx rfl (hb hby at_125) rfl k) ?_
  refine own_go (T1 := T1) (g1 := (mkF m 128 #[.val (.int i0), .val (.int i1), .val (.int i2), .val (.int i3), .val (.int nn), .val (.int (Int32.ofNat 0)), .val (.int c0), .val (.int c1), .val (.int p0), .val (.int p1), .val (.ref dA), .val (.ref dZ), .val (.ref b1), .unset, .unset, .unset, .unset] [(.int (1 : Int32)), (.int (Int32.ofNat 0))])) (fun _ k => XS.iconst X1.here hx rfl (hb hby at_127) k) ?_
  refine own_go (T1 := T1) (g1 := (mkF m 137 #[.val (.int i0), .val (.int i1), .val (.int i2), .val (.int i3), .val (.int nn), .val (.int (Int32.ofNat 0)), .val (.int c0), .val (.int c1), .val (.int p0), .val (.int p1), .val (.ref dA), .val (.ref dZ), .val (.ref b1), .unset, .unset, .unset, .unset] [])) (fun _ k => XS.icmpYes X1.here hx rfl (pc0 := 128) (pc' := 137) rfl (hb hby at_128) rfl (flt ((by decide) : ¬ ((1 : Int32) < (Int32.ofNat 0)))).2.2.2 (by decide) (by decide) k) ?_
  exact ⟨T1, _, _, _, _, X1, ⟨b1, k1, rfl, rfl, rfl, N0, by rw [e1]; exact ⟨Kp1, Vb1_1⟩⟩, fun _ k => k⟩
set_option maxRecDepth 65536 in
set_option maxHeartbeats 4000000 in
theorem own_fB1 {p : Program} {l : Launch} {e : Env} {s : State} {m : MethodId} {args : Array Value} {below : List Frame} {meth : Method} {c : Code} {T0 : State} {locs : List Loc} {Z : State} {a0 : Array Value} {h0 : Heap} {n0 : Nat} (i0 i1 i2 i3 nn c0 c1 p0 p1 : Int32) (dA dZ : Addr) (X0 : Stand p l e room_1 s m args below meth c T0 locs 2 8) (hx : p.tables.exec = Jvm.exec) (hZ : Z.Warmed39 s.vm) (hw : ∀ d ∈ tables_1, d.before a0 Z = true) (hby : c.code = code) (hml : c.maxLocals = 17) (hown : s.vm.findClass "com/example/sukima/sukima/catalog/IndexPlaceOfPinLaw" = some m.cls) (e0 : T0.heap = h0) (N0 : Fr n0 locs) (Z0 : n0 ≤ h0.size) :
    own_To p l e room_1 s m args below meth c T0 (mkF m 108 #[.val (.int i0), .val (.int i1), .val (.int i2), .val (.int i3), .val (.int nn), .val (.int (Int32.ofNat 1)), .val (.int c0), .val (.int c1), .val (.int p0), .val (.int p1), .val (.ref dA), .val (.ref dZ), .unset, .unset, .unset, .unset, .unset] []) (fun T' g' L kq zq => ∃ (dP : Addr) (ke : ClassId), g' = (mkF m 137 #[.val (.int i0), .val (.int i1), .val (.int i2), .val (.int i3), .val (.int nn), .val (.int (Int32.ofNat 1)), .val (.int c0), .val (.int c1), .val (.int p0), .val (.int p1), .val (.ref dA), .val (.ref dZ), .val (.ref dP), .unset, .unset, .unset, .unset] []) ∧ kq = 3 ∧ zq = 12 ∧ Fr n0 L ∧ Keep h0 T'.heap [] ∧ Arv Z T'.heap dP ke .int (Int32.ofNat 1) ((own_cols 1 p0 p1).map Value.int) (.int 0)) := by
  refine own_go (T1 := T0) (g1 := (mkF m 110 #[.val (.int i0), .val (.int i1), .val (.int i2), .val (.int i3), .val (.int nn), .val (.int (Int32.ofNat 1)), .val (.int c0), .val (.int c1), .val (.int p0), .val (.int p1), .val (.ref dA), .val (.ref dZ), .unset, .unset, .unset, .unset, .unset] [(.int (Int32.ofNat 1))])) (fun _ k => XS.iload X0.here hx rfl (hb hby at_108) rfl k) ?_
  obtain ⟨T1, h1, k1, X1, e1, E1, A1, st1⟩ := newP X0 hx hZ (hw _ (List.mem_of_getElem? (i := 1) rfl)) e0 (g := (mkF m 110 #[.val (.int i0), .val (.int i1), .val (.int i2), .val (.int i3), .val (.int nn), .val (.int (Int32.ofNat 1)), .val (.int c0), .val (.int c1), .val (.int p0), .val (.int p1), .val (.ref dA), .val (.ref dZ), .unset, .unset, .unset, .unset, .unset] [(.int (Int32.ofNat 1))])) rfl (hb hby at_110) rfl (by decide) (cap := 4) (by decide) (by decide) (by decide) (by decide)
  obtain ⟨b1, g1⟩ : ∃ z, z = h0.size := ⟨_, rfl⟩
  rw [← g1] at A1 st1
  have ge_b1 : n0 ≤ b1 := Nat.le_trans Z0 (Nat.le_of_eq g1.symm)
  have sz_b1 : h0.size ≤ b1 := Nat.le_trans (Keep.refl h0 []).1 (Nat.le_of_eq g1.symm)
  have Zs1 : n0 ≤ h1.size := Nat.le_trans Z0 E1.1
  have Kp1 : Keep h0 h1 [] := (Keep.refl h0 []).ext E1
  have Vb1_1 : Arv Z h1 b1 k1 .int (Int32.ofNat 1) [] (.int 0) := Arv.new A1 (by decide)
  refine own_go (T1 := T1) (g1 := (mkF m 112 #[.val (.int i0), .val (.int i1), .val (.int i2), .val (.int i3), .val (.int nn), .val (.int (Int32.ofNat 1)), .val (.int c0), .val (.int c1), .val (.int p0), .val (.int p1), .val (.ref dA), .val (.ref dZ), .unset, .unset, .unset, .unset, .unset] [(.ref b1)])) (fun t k => st1 t k) ?_
  refine own_go (T1 := T1) (g1 := (mkF m 114 #[.val (.int i0), .val (.int i1), .val (.int i2), .val (.int i3), .val (.int nn), .val (.int (Int32.ofNat 1)), .val (.int c0), .val (.int c1), .val (.int p0), .val (.int p1), .val (.ref dA), .val (.ref dZ), .val (.ref b1), .unset, .unset, .unset, .unset] [])) (fun _ k => XS.astore X1.here hx rfl (hb hby at_112) rfl rfl (l' := #[.val (.int i0), .val (.int i1), .val (.int i2), .val (.int i3), .val (.int nn), .val (.int (Int32.ofNat 1)), .val (.int c0), .val (.int c1), .val (.int p0), .val (.int p1), .val (.ref dA), .val (.ref dZ), .val (.ref b1), .unset, .unset, .unset, .unset]) rfl k) ?_
  refine own_go (T1 := T1) (g1 := (mkF m 116 #[.val (.int i0), .val (.int i1), .val (.int i2), .val (.int i3), .val (.int nn), .val (.int (Int32.ofNat 1)), .val (.int c0), .val (.int c1), .val (.int p0), .val (.int p1), .val (.ref dA), .val (.ref dZ), .val (.ref b1), .unset, .unset, .unset, .unset] [(.int (Int32.ofNat 1))])) (fun _ k => XS.iload X1.here hx rfl (hb hby at_114) rfl k) ?_
  refine own_go (T1 := T1) (g1 := (mkF m 119 #[.val (.int i0), .val (.int i1), .val (.int i2), .val (.int i3), .val (.int nn), .val (.int (Int32.ofNat 1)), .val (.int c0), .val (.int c1), .val (.int p0), .val (.int p1), .val (.ref dA), .val (.ref dZ), .val (.ref b1), .unset, .unset, .unset, .unset] [])) (fun _ k => XS.ifNo X1.here hx rfl (hb hby at_116) rfl ((if0 _ _).trans (tlt ((by decide) : (0 : Int32) < (Int32.ofNat 1))).2.2.2) k) ?_
  refine own_go (T1 := T1) (g1 := (mkF m 121 #[.val (.int i0), .val (.int i1), .val (.int i2), .val (.int i3), .val (.int nn), .val (.int (Int32.ofNat 1)), .val (.int c0), .val (.int c1), .val (.int p0), .val (.int p1), .val (.ref dA), .val (.ref dZ), .val (.ref b1), .unset, .unset, .unset, .unset] [(.ref b1)])) (fun _ k => XS.aload X1.here hx rfl (hb hby at_119) rfl rfl k) ?_
  refine own_go (T1 := T1) (g1 := (mkF m 122 #[.val (.int i0), .val (.int i1), .val (.int i2), .val (.int i3), .val (.int nn), .val (.int (Int32.ofNat 1)), .val (.int c0), .val (.int c1), .val (.int p0), .val (.int p1), .val (.ref dA), .val (.ref dZ), .val (.ref b1), .unset, .unset, .unset, .unset] [(.int (0 : Int32)), (.ref b1)])) (fun _ k => XS.iconst X1.here hx rfl (hb hby at_121) k) ?_
  refine own_go (T1 := T1) (g1 := (mkF m 124 #[.val (.int i0), .val (.int i1), .val (.int i2), .val (.int i3), .val (.int nn), .val (.int (Int32.ofNat 1)), .val (.int c0), .val (.int c1), .val (.int p0), .val (.int p1), .val (.ref dA), .val (.ref dZ), .val (.ref b1), .unset, .unset, .unset, .unset] [(.int p0), (.int (0 : Int32)), (.ref b1)])) (fun _ k => XS.iload X1.here hx rfl (hb hby at_122) rfl k) ?_
  have Vp2 : Arv Z h1 b1 k1 .int (Int32.ofNat 1) ([] ++ List.replicate 1 (Value.int 0)) (.int 0) := Vb1_1.pad (pad_rep _ _ 1)
  obtain ⟨cl2, Ar2, q2, S2, Nn2, H2, G2⟩ := id Vp2
  obtain ⟨T2, h2, X2, e2, W2, st2⟩ := stI X1 hx hZ e1 Ar2 (j := (0 : Int32)) (inb_of S2 ⟨by decide, by decide⟩) (g := (mkF m 124 #[.val (.int i0), .val (.int i1), .val (.int i2), .val (.int i3), .val (.int nn), .val (.int (Int32.ofNat 1)), .val (.int c0), .val (.int c1), .val (.int p0), .val (.int p1), .val (.ref dA), .val (.ref dZ), .val (.ref b1), .unset, .unset, .unset, .unset] [(.int p0), (.int (0 : Int32)), (.ref b1)])) rfl rfl (hb hby at_124)
  have Vb1_2 : Arv Z h2 b1 k1 .int (Int32.ofNat 1) ([p0].map Value.int) (.int 0) := Arv.set Ar2 q2 S2 Nn2 H2 G2 rfl W2 0 rfl (by decide)
  have Zs2 : n0 ≤ h2.size := Nat.le_trans Zs1 (Keep.of_wr W2).1
  have Kp2 : Keep h0 h2 [] := Kp1.wr W2 (Or.inr sz_b1)
  have N2 := Fr.snoc X2 N0 ge_b1
  refine own_go (T1 := T2) (g1 := (mkF m 125 #[.val (.int i0), .val (.int i1), .val (.int i2), .val (.int i3), .val (.int nn), .val (.int (Int32.ofNat 1)), .val (.int c0), .val (.int c1), .val (.int p0), .val (.int p1), .val (.ref dA), .val (.ref dZ), .val (.ref b1), .unset, .unset, .unset, .unset] [])) (fun t k => st2 t k) ?_
  refine own_go (T1 := T2) (g1 := (mkF m 127 #[.val (.int i0), .val (.int i1), .val (.int i2), .val (.int i3), .val (.int nn), .val (.int (Int32.ofNat 1)), .val (.int c0), .val (.int c1), .val (.int p0), .val (.int p1), .val (.ref dA), .val (.ref dZ), .val (.ref b1), .unset, .unset, .unset, .unset] [(.int (Int32.ofNat 1))])) (fun _ k => XS.iload X2.here hx rfl (hb hby at_125) rfl k) ?_
  refine own_go (T1 := T2) (g1 := (mkF m 128 #[.val (.int i0), .val (.int i1), .val (.int i2), .val (.int i3), .val (.int nn), .val (.int (Int32.ofNat 1)), .val (.int c0), .val (.int c1), .val (.int p0), .val (.int p1), .val (.ref dA), .val (.ref dZ), .val (.ref b1), .unset, .unset, .unset, .unset] [(.int (1 : Int32)), (.int (Int32.ofNat 1))])) (fun _ k => XS.iconst X2.here hx rfl (hb hby at_127) k) ?_
  refine own_go (T1 := T2) (g1 := (mkF m 137 #[.val (.int i0), .val (.int i1), .val (.int i2), .val (.int i3), .val (.int nn), .val (.int (Int32.ofNat 1)), .val (.int c0), .val (.int c1), .val (.int p0), .val (.int p1), .val (.ref dA), .val (.ref dZ), .val (.ref b1), .unset, .unset, .unset, .unset] [])) (fun _ k => XS.icmpYes X2.here hx rfl (pc0 := 128) (pc' := 137) rfl (hb hby at_128) rfl (flt ((by decide) : ¬ ((1 : Int32) < (Int32.ofNat 1)))).2.2.2 (by decide) (by decide) k) ?_
  exact ⟨T2, _, _, _, _, X2, ⟨b1, k1, rfl, rfl, rfl, N2, by rw [e2]; exact ⟨Kp2, Vb1_2⟩⟩, fun _ k => k⟩
set_option maxRecDepth 65536 in
set_option maxHeartbeats 4000000 in
theorem own_fB2 {p : Program} {l : Launch} {e : Env} {s : State} {m : MethodId} {args : Array Value} {below : List Frame} {meth : Method} {c : Code} {T0 : State} {locs : List Loc} {Z : State} {a0 : Array Value} {h0 : Heap} {n0 : Nat} (i0 i1 i2 i3 nn c0 c1 p0 p1 : Int32) (dA dZ : Addr) (X0 : Stand p l e room_1 s m args below meth c T0 locs 2 8) (hx : p.tables.exec = Jvm.exec) (hZ : Z.Warmed39 s.vm) (hw : ∀ d ∈ tables_1, d.before a0 Z = true) (hby : c.code = code) (hml : c.maxLocals = 17) (hown : s.vm.findClass "com/example/sukima/sukima/catalog/IndexPlaceOfPinLaw" = some m.cls) (e0 : T0.heap = h0) (N0 : Fr n0 locs) (Z0 : n0 ≤ h0.size) :
    own_To p l e room_1 s m args below meth c T0 (mkF m 108 #[.val (.int i0), .val (.int i1), .val (.int i2), .val (.int i3), .val (.int nn), .val (.int (Int32.ofNat 2)), .val (.int c0), .val (.int c1), .val (.int p0), .val (.int p1), .val (.ref dA), .val (.ref dZ), .unset, .unset, .unset, .unset, .unset] []) (fun T' g' L kq zq => ∃ (dP : Addr) (ke : ClassId), g' = (mkF m 137 #[.val (.int i0), .val (.int i1), .val (.int i2), .val (.int i3), .val (.int nn), .val (.int (Int32.ofNat 2)), .val (.int c0), .val (.int c1), .val (.int p0), .val (.int p1), .val (.ref dA), .val (.ref dZ), .val (.ref dP), .unset, .unset, .unset, .unset] []) ∧ kq = 3 ∧ zq = 12 ∧ Fr n0 L ∧ Keep h0 T'.heap [] ∧ Arv Z T'.heap dP ke .int (Int32.ofNat 2) ((own_cols 2 p0 p1).map Value.int) (.int 0)) := by
  refine own_go (T1 := T0) (g1 := (mkF m 110 #[.val (.int i0), .val (.int i1), .val (.int i2), .val (.int i3), .val (.int nn), .val (.int (Int32.ofNat 2)), .val (.int c0), .val (.int c1), .val (.int p0), .val (.int p1), .val (.ref dA), .val (.ref dZ), .unset, .unset, .unset, .unset, .unset] [(.int (Int32.ofNat 2))])) (fun _ k => XS.iload X0.here hx rfl (hb hby at_108) rfl k) ?_
  obtain ⟨T1, h1, k1, X1, e1, E1, A1, st1⟩ := newP X0 hx hZ (hw _ (List.mem_of_getElem? (i := 1) rfl)) e0 (g := (mkF m 110 #[.val (.int i0), .val (.int i1), .val (.int i2), .val (.int i3), .val (.int nn), .val (.int (Int32.ofNat 2)), .val (.int c0), .val (.int c1), .val (.int p0), .val (.int p1), .val (.ref dA), .val (.ref dZ), .unset, .unset, .unset, .unset, .unset] [(.int (Int32.ofNat 2))])) rfl (hb hby at_110) rfl (by decide) (cap := 4) (by decide) (by decide) (by decide) (by decide)
  obtain ⟨b1, g1⟩ : ∃ z, z = h0.size := ⟨_, rfl⟩
  rw [← g1] at A1 st1
  have ge_b1 : n0 ≤ b1 := Nat.le_trans Z0 (Nat.le_of_eq g1.symm)
  have sz_b1 : h0.size ≤ b1 := Nat.le_trans (Keep.refl h0 []).1 (Nat.le_of_eq g1.symm)
  have Zs1 : n0 ≤ h1.size := Nat.le_trans Z0 E1.1
  have Kp1 : Keep h0 h1 [] := (Keep.refl h0 []).ext E1
  have Vb1_1 : Arv Z h1 b1 k1 .int (Int32.ofNat 2) [] (.int 0) := Arv.new A1 (by decide)
  refine own_go (T1 := T1) (g1 := (mkF m 112 #[.val (.int i0), .val (.int i1), .val (.int i2), .val (.int i3), .val (.int nn), .val (.int (Int32.ofNat 2)), .val (.int c0), .val (.int c1), .val (.int p0), .val (.int p1), .val (.ref dA), .val (.ref dZ), .unset, .unset, .unset, .unset, .unset] [(.ref b1)])) (fun t k => st1 t k) ?_
  refine own_go (T1 := T1) (g1 := (mkF m 114 #[.val (.int i0), .val (.int i1), .val (.int i2), .val (.int i3), .val (.int nn), .val (.int (Int32.ofNat 2)), .val (.int c0), .val (.int c1), .val (.int p0), .val (.int p1), .val (.ref dA), .val (.ref dZ), .val (.ref b1), .unset, .unset, .unset, .unset] [])) (fun _ k => XS.astore X1.here hx rfl (hb hby at_112) rfl rfl (l' := #[.val (.int i0), .val (.int i1), .val (.int i2), .val (.int i3), .val (.int nn), .val (.int (Int32.ofNat 2)), .val (.int c0), .val (.int c1), .val (.int p0), .val (.int p1), .val (.ref dA), .val (.ref dZ), .val (.ref b1), .unset, .unset, .unset, .unset]) rfl k) ?_
  refine own_go (T1 := T1) (g1 := (mkF m 116 #[.val (.int i0), .val (.int i1), .val (.int i2), .val (.int i3), .val (.int nn), .val (.int (Int32.ofNat 2)), .val (.int c0), .val (.int c1), .val (.int p0), .val (.int p1), .val (.ref dA), .val (.ref dZ), .val (.ref b1), .unset, .unset, .unset, .unset] [(.int (Int32.ofNat 2))])) (fun _ k => XS.iload X1.here hx rfl (hb hby at_114) rfl k) ?_
  refine own_go (T1 := T1) (g1 := (mkF m 119 #[.val (.int i0), .val (.int i1), .val (.int i2), .val (.int i3), .val (.int nn), .val (.int (Int32.ofNat 2)), .val (.int c0), .val (.int c1), .val (.int p0), .val (.int p1), .val (.ref dA), .val (.ref dZ), .val (.ref b1), .unset, .unset, .unset, .unset] [])) (fun _ k => XS.ifNo X1.here hx rfl (hb hby at_116) rfl ((if0 _ _).trans (tlt ((by decide) : (0 : Int32) < (Int32.ofNat 2))).2.2.2) k) ?_
  refine own_go (T1 := T1) (g1 := (mkF m 121 #[.val (.int i0), .val (.int i1), .val (.int i2), .val (.int i3), .val (.int nn), .val (.int (Int32.ofNat 2)), .val (.int c0), .val (.int c1), .val (.int p0), .val (.int p1), .val (.ref dA), .val (.ref dZ), .val (.ref b1), .unset, .unset, .unset, .unset] [(.ref b1)])) (fun _ k => XS.aload X1.here hx rfl (hb hby at_119) rfl rfl k) ?_
  refine own_go (T1 := T1) (g1 := (mkF m 122 #[.val (.int i0), .val (.int i1), .val (.int i2), .val (.int i3), .val (.int nn), .val (.int (Int32.ofNat 2)), .val (.int c0), .val (.int c1), .val (.int p0), .val (.int p1), .val (.ref dA), .val (.ref dZ), .val (.ref b1), .unset, .unset, .unset, .unset] [(.int (0 : Int32)), (.ref b1)])) (fun _ k => XS.iconst X1.here hx rfl (hb hby at_121) k) ?_
  refine own_go (T1 := T1) (g1 := (mkF m 124 #[.val (.int i0), .val (.int i1), .val (.int i2), .val (.int i3), .val (.int nn), .val (.int (Int32.ofNat 2)), .val (.int c0), .val (.int c1), .val (.int p0), .val (.int p1), .val (.ref dA), .val (.ref dZ), .val (.ref b1), .unset, .unset, .unset, .unset] [(.int p0), (.int (0 : Int32)), (.ref b1)])) (fun _ k => XS.iload X1.here hx rfl (hb hby at_122) rfl k) ?_
  have Vp2 : Arv Z h1 b1 k1 .int (Int32.ofNat 2) ([] ++ List.replicate 1 (Value.int 0)) (.int 0) := Vb1_1.pad (pad_rep _ _ 1)
  obtain ⟨cl2, Ar2, q2, S2, Nn2, H2, G2⟩ := id Vp2
  obtain ⟨T2, h2, X2, e2, W2, st2⟩ := stI X1 hx hZ e1 Ar2 (j := (0 : Int32)) (inb_of S2 ⟨by decide, by decide⟩) (g := (mkF m 124 #[.val (.int i0), .val (.int i1), .val (.int i2), .val (.int i3), .val (.int nn), .val (.int (Int32.ofNat 2)), .val (.int c0), .val (.int c1), .val (.int p0), .val (.int p1), .val (.ref dA), .val (.ref dZ), .val (.ref b1), .unset, .unset, .unset, .unset] [(.int p0), (.int (0 : Int32)), (.ref b1)])) rfl rfl (hb hby at_124)
  have Vb1_2 : Arv Z h2 b1 k1 .int (Int32.ofNat 2) ([p0].map Value.int) (.int 0) := Arv.set Ar2 q2 S2 Nn2 H2 G2 rfl W2 0 rfl (by decide)
  have Zs2 : n0 ≤ h2.size := Nat.le_trans Zs1 (Keep.of_wr W2).1
  have Kp2 : Keep h0 h2 [] := Kp1.wr W2 (Or.inr sz_b1)
  have N2 := Fr.snoc X2 N0 ge_b1
  refine own_go (T1 := T2) (g1 := (mkF m 125 #[.val (.int i0), .val (.int i1), .val (.int i2), .val (.int i3), .val (.int nn), .val (.int (Int32.ofNat 2)), .val (.int c0), .val (.int c1), .val (.int p0), .val (.int p1), .val (.ref dA), .val (.ref dZ), .val (.ref b1), .unset, .unset, .unset, .unset] [])) (fun t k => st2 t k) ?_
  refine own_go (T1 := T2) (g1 := (mkF m 127 #[.val (.int i0), .val (.int i1), .val (.int i2), .val (.int i3), .val (.int nn), .val (.int (Int32.ofNat 2)), .val (.int c0), .val (.int c1), .val (.int p0), .val (.int p1), .val (.ref dA), .val (.ref dZ), .val (.ref b1), .unset, .unset, .unset, .unset] [(.int (Int32.ofNat 2))])) (fun _ k => XS.iload X2.here hx rfl (hb hby at_125) rfl k) ?_
  refine own_go (T1 := T2) (g1 := (mkF m 128 #[.val (.int i0), .val (.int i1), .val (.int i2), .val (.int i3), .val (.int nn), .val (.int (Int32.ofNat 2)), .val (.int c0), .val (.int c1), .val (.int p0), .val (.int p1), .val (.ref dA), .val (.ref dZ), .val (.ref b1), .unset, .unset, .unset, .unset] [(.int (1 : Int32)), (.int (Int32.ofNat 2))])) (fun _ k => XS.iconst X2.here hx rfl (hb hby at_127) k) ?_
  refine own_go (T1 := T2) (g1 := (mkF m 131 #[.val (.int i0), .val (.int i1), .val (.int i2), .val (.int i3), .val (.int nn), .val (.int (Int32.ofNat 2)), .val (.int c0), .val (.int c1), .val (.int p0), .val (.int p1), .val (.ref dA), .val (.ref dZ), .val (.ref b1), .unset, .unset, .unset, .unset] [])) (fun _ k => XS.icmpNo X2.here hx rfl (hb hby at_128) rfl (tlt ((by decide) : (1 : Int32) < (Int32.ofNat 2))).2.2.2 k) ?_
  refine own_go (T1 := T2) (g1 := (mkF m 133 #[.val (.int i0), .val (.int i1), .val (.int i2), .val (.int i3), .val (.int nn), .val (.int (Int32.ofNat 2)), .val (.int c0), .val (.int c1), .val (.int p0), .val (.int p1), .val (.ref dA), .val (.ref dZ), .val (.ref b1), .unset, .unset, .unset, .unset] [(.ref b1)])) (fun _ k => XS.aload X2.here hx rfl (hb hby at_131) rfl rfl k) ?_
  refine own_go (T1 := T2) (g1 := (mkF m 134 #[.val (.int i0), .val (.int i1), .val (.int i2), .val (.int i3), .val (.int nn), .val (.int (Int32.ofNat 2)), .val (.int c0), .val (.int c1), .val (.int p0), .val (.int p1), .val (.ref dA), .val (.ref dZ), .val (.ref b1), .unset, .unset, .unset, .unset] [(.int (1 : Int32)), (.ref b1)])) (fun _ k => XS.iconst X2.here hx rfl (hb hby at_133) k) ?_
  refine own_go (T1 := T2) (g1 := (mkF m 136 #[.val (.int i0), .val (.int i1), .val (.int i2), .val (.int i3), .val (.int nn), .val (.int (Int32.ofNat 2)), .val (.int c0), .val (.int c1), .val (.int p0), .val (.int p1), .val (.ref dA), .val (.ref dZ), .val (.ref b1), .unset, .unset, .unset, .unset] [(.int p1), (.int (1 : Int32)), (.ref b1)])) (fun _ k => XS.iload X2.here hx rfl (hb hby at_134) rfl k) ?_
  have Vp3 : Arv Z h2 b1 k1 .int (Int32.ofNat 2) ([p0].map Value.int ++ List.replicate 1 (Value.int 0)) (.int 0) := Vb1_2.pad (pad_rep _ _ 1)
  obtain ⟨cl3, Ar3, q3, S3, Nn3, H3, G3⟩ := id Vp3
  obtain ⟨T3, h3, X3, e3, W3, st3⟩ := stI X2 hx hZ e2 Ar3 (j := (1 : Int32)) (inb_of S3 ⟨by decide, by decide⟩) (g := (mkF m 136 #[.val (.int i0), .val (.int i1), .val (.int i2), .val (.int i3), .val (.int nn), .val (.int (Int32.ofNat 2)), .val (.int c0), .val (.int c1), .val (.int p0), .val (.int p1), .val (.ref dA), .val (.ref dZ), .val (.ref b1), .unset, .unset, .unset, .unset] [(.int p1), (.int (1 : Int32)), (.ref b1)])) rfl rfl (hb hby at_136)
  have Vb1_3 : Arv Z h3 b1 k1 .int (Int32.ofNat 2) ([p0, p1].map Value.int) (.int 0) := Arv.set Ar3 q3 S3 Nn3 H3 G3 rfl W3 1 rfl (by simp)
  have Zs3 : n0 ≤ h3.size := Nat.le_trans Zs2 (Keep.of_wr W3).1
  have Kp3 : Keep h0 h3 [] := Kp2.wr W3 (Or.inr sz_b1)
  have N3 := Fr.snoc X3 N2 ge_b1
  refine own_go (T1 := T3) (g1 := (mkF m 137 #[.val (.int i0), .val (.int i1), .val (.int i2), .val (.int i3), .val (.int nn), .val (.int (Int32.ofNat 2)), .val (.int c0), .val (.int c1), .val (.int p0), .val (.int p1), .val (.ref dA), .val (.ref dZ), .val (.ref b1), .unset, .unset, .unset, .unset] [])) (fun t k => st3 t k) ?_
  exact ⟨T3, _, _, _, _, X3, ⟨b1, k1, rfl, rfl, rfl, N3, by rw [e3]; exact ⟨Kp3, Vb1_3⟩⟩, fun _ k => k⟩
theorem own_pd_LjavaxlangxStringxLcomxexamplexsukimaxsukimaxsqlxDataTypexZZLjavaxlangxObjectxZZZ_V : parseMethodDescriptor "(Ljava/lang/String;Lcom/example/sukima/sukima/sql/DataType;ZZLjava/lang/Object;ZZZ)V" = some ⟨[(.object "java/lang/String"), (.object "com/example/sukima/sukima/sql/DataType"), .boolean, .boolean, (.object "java/lang/Object"), .boolean, .boolean, .boolean], none⟩ := by decide +kernel
theorem own_pd_LjavaxlangxObjectx_Z : parseMethodDescriptor "(Ljava/lang/Object;)Z" = some ⟨[(.object "java/lang/Object")], some .boolean⟩ := by decide +kernel
theorem own_pd_LjavaxlangxStringxZAIAZAILjavaxutilxListx_V : parseMethodDescriptor "(Ljava/lang/String;Z[I[Z[ILjava/util/List;)V" = some ⟨[(.object "java/lang/String"), .boolean, (.array .int), (.array .boolean), (.array .int), (.object "java/util/List")], none⟩ := by decide +kernel
theorem own_pd_IIIIIII_I : parseMethodDescriptor "(IIIIIII)I" = some ⟨[.int, .int, .int, .int, .int, .int, .int], some .int⟩ := by decide +kernel
set_option maxRecDepth 65536 in
set_option maxHeartbeats 8000000 in
theorem own_l137 {p : Program} {l : Launch} {e : Env} {s : State} {m : MethodId} {args : Array Value} {below : List Frame} {meth : Method} {c : Code} {T0 : State} {locs : List Loc} {Z : State} {a0 : Array Value} {h0 : Heap} {n0 : Nat} (i0 i1 i2 i3 c0 c1 p0 p1 : Int32) (dA dZ dP d0 : Addr) (kd kz ke kd0 : ClassId) (cols pks : List Int32) (vz : List Value) (X0 : Stand p l e room_1 s m args below meth c T0 locs 3 12) (hx : p.tables.exec = Jvm.exec) (hZ : Z.Warmed39 s.vm) (hw : ∀ d ∈ tables_1, d.before a0 Z = true) (hby : c.code = code) (hml : c.maxLocals = 17) (hown : s.vm.findClass "com/example/sukima/sukima/catalog/IndexPlaceOfPinLaw" = some m.cls) (e0 : T0.heap = h0) (N0 : Fr n0 locs) (Z0 : n0 ≤ h0.size) (hc : cols.length ≤ 2) (hp : pks.length ≤ 2) (hrng : ∀ a ∈ (cols ++ own_new cols pks), ¬ a < (0 : Int32) ∧ a < (4 : Int32)) (hpl : ∀ x, own_find x (cols ++ own_new cols pks) 0 = f9_0 x (Int32.ofNat cols.length) (Int32.ofNat pks.length) c0 c1 p0 p1) (Vc : Arv Z h0 dA kd .int (Int32.ofNat cols.length) (cols.map Value.int) (.int 0)) (Yc : Exa Z h0 dA "[I") (Vz : Arv Z h0 dZ kz .boolean (Int32.ofNat cols.length) vz (.int 0)) (Yz : Exa Z h0 dZ "[Z") (Vp : Arv Z h0 dP ke .int (Int32.ofNat pks.length) (pks.map Value.int) (.int 0)) (Ol : Old Z n0 h0) (S0 : Sta Z Z.heap "java/util/ArrayList" "DEFAULTCAPACITY_EMPTY_ELEMENTDATA" "[Ljava/lang/Object;" (.ref d0)) (Vd0 : Arv Z Z.heap d0 kd0 (.object "java/lang/Object") (0 : Int32) [] .null) :
    own_W p l e s m args below meth c n0 T0 (mkF m 137 #[.val (.int i0), .val (.int i1), .val (.int i2), .val (.int i3), .val (.int (Int32.ofNat cols.length)), .val (.int (Int32.ofNat pks.length)), .val (.int c0), .val (.int c1), .val (.int p0), .val (.int p1), .val (.ref dA), .val (.ref dZ), .val (.ref dP), .unset, .unset, .unset, .unset] []) := by
  obtain ⟨T1, h1, X1, e1, E1, A1, D1, -, st1⟩ := newO X0 hx hZ hown (hw _ (List.mem_of_getElem? (i := 3) rfl)) (hw _ (List.mem_of_getElem? (i := 4) rfl)) (hw _ (List.mem_of_getElem? (i := 5) rfl)) e0 (g := (mkF m 137 #[.val (.int i0), .val (.int i1), .val (.int i2), .val (.int i3), .val (.int (Int32.ofNat cols.length)), .val (.int (Int32.ofNat pks.length)), .val (.int c0), .val (.int c1), .val (.int p0), .val (.int p1), .val (.ref dA), .val (.ref dZ), .val (.ref dP), .unset, .unset, .unset, .unset] [])) rfl (hb hby at_137) (by decide) (by decide)
  obtain ⟨b1, g1⟩ : ∃ z, z = h0.size := ⟨_, rfl⟩
  rw [← g1] at A1 D1 st1
  have ne_dA_b1 : dA ≠ b1 := Nat.ne_of_lt (Nat.lt_of_lt_of_le Vc.lt (Nat.le_of_eq g1.symm))
  have ne_dZ_b1 : dZ ≠ b1 := Nat.ne_of_lt (Nat.lt_of_lt_of_le Vz.lt (Nat.le_of_eq g1.symm))
  have ne_dP_b1 : dP ≠ b1 := Nat.ne_of_lt (Nat.lt_of_lt_of_le Vp.lt (Nat.le_of_eq g1.symm))
  have ge_b1 : n0 ≤ b1 := Nat.le_trans Z0 (Nat.le_of_eq g1.symm)
  have Vc_1 : Arv Z h1 dA kd .int (Int32.ofNat cols.length) (cols.map Value.int) (.int 0) := Vc.ext E1
  have Yc_1 : Exa Z h1 dA "[I" := Yc.ext E1
  have Vz_1 : Arv Z h1 dZ kz .boolean (Int32.ofNat cols.length) vz (.int 0) := Vz.ext E1
  have Yz_1 : Exa Z h1 dZ "[Z" := Yz.ext E1
  have Vp_1 : Arv Z h1 dP ke .int (Int32.ofNat pks.length) (pks.map Value.int) (.int 0) := Vp.ext E1
  have Ol_1 : Old Z n0 h1 := Ol.ext E1
  have Zs1 : n0 ≤ h1.size := Nat.le_trans Z0 E1.1
  have Fname_b1 : Fld Z h1 b1 "com/example/sukima/sukima/catalog/Column" "name" "Ljava/lang/String;" .null := D1 (Or.inr (hw _ (List.mem_of_getElem? (i := 21) rfl))) (ty := (.object "java/lang/String")) (by decide)
  have Ftype_b1 : Fld Z h1 b1 "com/example/sukima/sukima/catalog/Column" "type" "Lcom/example/sukima/sukima/sql/DataType;" .null := D1 (Or.inr (hw _ (List.mem_of_getElem? (i := 23) rfl))) (ty := (.object "com/example/sukima/sukima/sql/DataType")) (by decide)
  have FnotNull_b1 : Fld Z h1 b1 "com/example/sukima/sukima/catalog/Column" "notNull" "Z" (.int (0 : Int32)) := D1 (Or.inr (hw _ (List.mem_of_getElem? (i := 25) rfl))) (ty := .boolean) (by decide)
  have FhasDefault_b1 : Fld Z h1 b1 "com/example/sukima/sukima/catalog/Column" "hasDefault" "Z" (.int (0 : Int32)) := D1 (Or.inr (hw _ (List.mem_of_getElem? (i := 27) rfl))) (ty := .boolean) (by decide)
  have FdefaultValue_b1 : Fld Z h1 b1 "com/example/sukima/sukima/catalog/Column" "defaultValue" "Ljava/lang/Object;" .null := D1 (Or.inr (hw _ (List.mem_of_getElem? (i := 29) rfl))) (ty := (.object "java/lang/Object")) (by decide)
  have FdefaultCurrentTimestamp_b1 : Fld Z h1 b1 "com/example/sukima/sukima/catalog/Column" "defaultCurrentTimestamp" "Z" (.int (0 : Int32)) := D1 (Or.inr (hw _ (List.mem_of_getElem? (i := 31) rfl))) (ty := .boolean) (by decide)
  have FonUpdateCurrentTimestamp_b1 : Fld Z h1 b1 "com/example/sukima/sukima/catalog/Column" "onUpdateCurrentTimestamp" "Z" (.int (0 : Int32)) := D1 (Or.inr (hw _ (List.mem_of_getElem? (i := 33) rfl))) (ty := .boolean) (by decide)
  have FautoIncrement_b1 : Fld Z h1 b1 "com/example/sukima/sukima/catalog/Column" "autoIncrement" "Z" (.int (0 : Int32)) := D1 (Or.inr (hw _ (List.mem_of_getElem? (i := 35) rfl))) (ty := .boolean) (by decide)
  refine own_goW (T1 := T1) (g1 := (mkF m 140 #[.val (.int i0), .val (.int i1), .val (.int i2), .val (.int i3), .val (.int (Int32.ofNat cols.length)), .val (.int (Int32.ofNat pks.length)), .val (.int c0), .val (.int c1), .val (.int p0), .val (.int p1), .val (.ref dA), .val (.ref dZ), .val (.ref dP), .unset, .unset, .unset, .unset] [(.ref b1)])) (fun t k => st1 t k) ?_
  refine own_goW (T1 := T1) (g1 := (mkF m 141 #[.val (.int i0), .val (.int i1), .val (.int i2), .val (.int i3), .val (.int (Int32.ofNat cols.length)), .val (.int (Int32.ofNat pks.length)), .val (.int c0), .val (.int c1), .val (.int p0), .val (.int p1), .val (.ref dA), .val (.ref dZ), .val (.ref dP), .unset, .unset, .unset, .unset] [(.ref b1), (.ref b1)])) (fun _ k => XS.dup X1.here hx rfl (hb hby at_140) rfl rfl k) ?_
  obtain ⟨sa2, T2, h2, kS2, X2, e2, E2, hS2, hk2, hZ2, ho2, st2⟩ := ldcS (s := s) (vm0 := s.vm) (show Stand p l e room_1 (s.setVm s.vm) m args below meth c T1 _ 4 20 from X1) hx hZ hown (hw _ (List.mem_of_getElem? (i := 6) rfl)) (own_strW hw) e1 (State.WarmedH.since (State.WarmedH.refl s) 0) (Nat.zero_le _) (g := (mkF m 141 #[.val (.int i0), .val (.int i1), .val (.int i2), .val (.int i3), .val (.int (Int32.ofNat cols.length)), .val (.int (Int32.ofNat pks.length)), .val (.int c0), .val (.int c1), .val (.int p0), .val (.int p1), .val (.ref dA), .val (.ref dZ), .val (.ref dP), .unset, .unset, .unset, .unset] [(.ref b1), (.ref b1)])) rfl (hb hby at_141) (n := 4) (by decide) (by decide) (by decide) (by decide)
  have Vc_2 : Arv Z h2 dA kd .int (Int32.ofNat cols.length) (cols.map Value.int) (.int 0) := Vc_1.ext E2
  have Yc_2 : Exa Z h2 dA "[I" := Yc_1.ext E2
  have Vz_2 : Arv Z h2 dZ kz .boolean (Int32.ofNat cols.length) vz (.int 0) := Vz_1.ext E2
  have Yz_2 : Exa Z h2 dZ "[Z" := Yz_1.ext E2
  have Vp_2 : Arv Z h2 dP ke .int (Int32.ofNat pks.length) (pks.map Value.int) (.int 0) := Vp_1.ext E2
  have Ol_2 : Old Z n0 h2 := Ol_1.ext E2
  have Eb1_2 : Exa Z h2 b1 "com/example/sukima/sukima/catalog/Column" := A1.ext E2
  have Fname_b1_2 : Fld Z h2 b1 "com/example/sukima/sukima/catalog/Column" "name" "Ljava/lang/String;" .null := Fname_b1.ext E2
  have Ftype_b1_2 : Fld Z h2 b1 "com/example/sukima/sukima/catalog/Column" "type" "Lcom/example/sukima/sukima/sql/DataType;" .null := Ftype_b1.ext E2
  have FnotNull_b1_2 : Fld Z h2 b1 "com/example/sukima/sukima/catalog/Column" "notNull" "Z" (.int (0 : Int32)) := FnotNull_b1.ext E2
  have FhasDefault_b1_2 : Fld Z h2 b1 "com/example/sukima/sukima/catalog/Column" "hasDefault" "Z" (.int (0 : Int32)) := FhasDefault_b1.ext E2
  have FdefaultValue_b1_2 : Fld Z h2 b1 "com/example/sukima/sukima/catalog/Column" "defaultValue" "Ljava/lang/Object;" .null := FdefaultValue_b1.ext E2
  have FdefaultCurrentTimestamp_b1_2 : Fld Z h2 b1 "com/example/sukima/sukima/catalog/Column" "defaultCurrentTimestamp" "Z" (.int (0 : Int32)) := FdefaultCurrentTimestamp_b1.ext E2
  have FonUpdateCurrentTimestamp_b1_2 : Fld Z h2 b1 "com/example/sukima/sukima/catalog/Column" "onUpdateCurrentTimestamp" "Z" (.int (0 : Int32)) := FonUpdateCurrentTimestamp_b1.ext E2
  have FautoIncrement_b1_2 : Fld Z h2 b1 "com/example/sukima/sukima/catalog/Column" "autoIncrement" "Z" (.int (0 : Int32)) := FautoIncrement_b1.ext E2
  have Zs2 : n0 ≤ h2.size := Nat.le_trans Zs1 E2.1
  have hk2' : kS2 ≤ h2.size := hk2
  refine own_goW (T1 := T2) (g1 := (mkF m 143 #[.val (.int i0), .val (.int i1), .val (.int i2), .val (.int i3), .val (.int (Int32.ofNat cols.length)), .val (.int (Int32.ofNat pks.length)), .val (.int c0), .val (.int c1), .val (.int p0), .val (.int p1), .val (.ref dA), .val (.ref dZ), .val (.ref dP), .unset, .unset, .unset, .unset] [(.ref sa2), (.ref b1), (.ref b1)])) (fun t k => st2 t k) ?_
  refine own_goW (T1 := T2) (g1 := (mkF m 144 #[.val (.int i0), .val (.int i1), .val (.int i2), .val (.int i3), .val (.int (Int32.ofNat cols.length)), .val (.int (Int32.ofNat pks.length)), .val (.int c0), .val (.int c1), .val (.int p0), .val (.int p1), .val (.ref dA), .val (.ref dZ), .val (.ref dP), .unset, .unset, .unset, .unset] [.null, (.ref sa2), (.ref b1), (.ref b1)])) (fun _ k => XS.aconstNull X2.here hx rfl (hb hby at_143) k) ?_
  refine own_goW (T1 := T2) (g1 := (mkF m 145 #[.val (.int i0), .val (.int i1), .val (.int i2), .val (.int i3), .val (.int (Int32.ofNat cols.length)), .val (.int (Int32.ofNat pks.length)), .val (.int c0), .val (.int c1), .val (.int p0), .val (.int p1), .val (.ref dA), .val (.ref dZ), .val (.ref dP), .unset, .unset, .unset, .unset] [(.int (0 : Int32)), .null, (.ref sa2), (.ref b1), (.ref b1)])) (fun _ k => XS.iconst X2.here hx rfl (hb hby at_144) k) ?_
  refine own_goW (T1 := T2) (g1 := (mkF m 146 #[.val (.int i0), .val (.int i1), .val (.int i2), .val (.int i3), .val (.int (Int32.ofNat cols.length)), .val (.int (Int32.ofNat pks.length)), .val (.int c0), .val (.int c1), .val (.int p0), .val (.int p1), .val (.ref dA), .val (.ref dZ), .val (.ref dP), .unset, .unset, .unset, .unset] [(.int (0 : Int32)), (.int (0 : Int32)), .null, (.ref sa2), (.ref b1), (.ref b1)])) (fun _ k => XS.iconst X2.here hx rfl (hb hby at_145) k) ?_
  refine own_goW (T1 := T2) (g1 := (mkF m 147 #[.val (.int i0), .val (.int i1), .val (.int i2), .val (.int i3), .val (.int (Int32.ofNat cols.length)), .val (.int (Int32.ofNat pks.length)), .val (.int c0), .val (.int c1), .val (.int p0), .val (.int p1), .val (.ref dA), .val (.ref dZ), .val (.ref dP), .unset, .unset, .unset, .unset] [.null, (.int (0 : Int32)), (.int (0 : Int32)), .null, (.ref sa2), (.ref b1), (.ref b1)])) (fun _ k => XS.aconstNull X2.here hx rfl (hb hby at_146) k) ?_
  refine own_goW (T1 := T2) (g1 := (mkF m 148 #[.val (.int i0), .val (.int i1), .val (.int i2), .val (.int i3), .val (.int (Int32.ofNat cols.length)), .val (.int (Int32.ofNat pks.length)), .val (.int c0), .val (.int c1), .val (.int p0), .val (.int p1), .val (.ref dA), .val (.ref dZ), .val (.ref dP), .unset, .unset, .unset, .unset] [(.int (0 : Int32)), .null, (.int (0 : Int32)), (.int (0 : Int32)), .null, (.ref sa2), (.ref b1), (.ref b1)])) (fun _ k => XS.iconst X2.here hx rfl (hb hby at_147) k) ?_
  refine own_goW (T1 := T2) (g1 := (mkF m 149 #[.val (.int i0), .val (.int i1), .val (.int i2), .val (.int i3), .val (.int (Int32.ofNat cols.length)), .val (.int (Int32.ofNat pks.length)), .val (.int c0), .val (.int c1), .val (.int p0), .val (.int p1), .val (.ref dA), .val (.ref dZ), .val (.ref dP), .unset, .unset, .unset, .unset] [(.int (0 : Int32)), (.int (0 : Int32)), .null, (.int (0 : Int32)), (.int (0 : Int32)), .null, (.ref sa2), (.ref b1), (.ref b1)])) (fun _ k => XS.iconst X2.here hx rfl (hb hby at_148) k) ?_
  refine own_goW (T1 := T2) (g1 := (mkF m 150 #[.val (.int i0), .val (.int i1), .val (.int i2), .val (.int i3), .val (.int (Int32.ofNat cols.length)), .val (.int (Int32.ofNat pks.length)), .val (.int c0), .val (.int c1), .val (.int p0), .val (.int p1), .val (.ref dA), .val (.ref dZ), .val (.ref dP), .unset, .unset, .unset, .unset] [(.int (0 : Int32)), (.int (0 : Int32)), (.int (0 : Int32)), .null, (.int (0 : Int32)), (.int (0 : Int32)), .null, (.ref sa2), (.ref b1), (.ref b1)])) (fun _ k => XS.iconst X2.here hx rfl (hb hby at_149) k) ?_
  obtain ⟨_, _, ⟨T3, L3, k3, n3⟩, -, X3, ⟨Lc3, hQ3, l3, y3, z3⟩, st3⟩ := X2.specialBack hx (y := (⟨"com/example/sukima/sukima/catalog/Column", "<init>", "(Ljava/lang/String;Lcom/example/sukima/sukima/sql/DataType;ZZLjava/lang/Object;ZZZ)V"⟩ : MethodName)) rfl ho2 (mvT hZ2 (hw _ (List.mem_of_getElem? (i := 14) rfl))) (mvT hZ2 (hw _ (List.mem_of_getElem? (i := 15) rfl))) (mvT hZ2 (hw _ (List.mem_of_getElem? (i := 16) rfl))) (by decide) (backOf (W := 1) (rmC l Z a0 hw [] b1 sa2 h2 n0 Zs2 Eb1_2 ge_b1 Fname_b1_2 Ftype_b1_2 FnotNull_b1_2 FhasDefault_b1_2 FdefaultValue_b1_2 FdefaultCurrentTimestamp_b1_2 FonUpdateCurrentTimestamp_b1_2 FautoIncrement_b1_2) hZ2 (hw _ (List.mem_of_getElem? (i := 16) rfl)) (hw _ (List.mem_of_getElem? (i := 5) rfl)) (by decide) (by decide)) (g := (mkF m 150 #[.val (.int i0), .val (.int i1), .val (.int i2), .val (.int i3), .val (.int (Int32.ofNat cols.length)), .val (.int (Int32.ofNat pks.length)), .val (.int c0), .val (.int c1), .val (.int p0), .val (.int p1), .val (.ref dA), .val (.ref dZ), .val (.ref dP), .unset, .unset, .unset, .unset] [(.int (0 : Int32)), (.int (0 : Int32)), (.int (0 : Int32)), .null, (.int (0 : Int32)), (.int (0 : Int32)), .null, (.ref sa2), (.ref b1), (.ref b1)])) rfl (by rw [hml]; rfl) (Steps.refl _) (a := b1) (argsL := [(.ref sa2), .null, (.int (0 : Int32)), (.int (0 : Int32)), .null, (.int (0 : Int32)), (.int (0 : Int32)), (.int (0 : Int32))]) (rest := [(.ref b1)]) (lenOf own_pd_LjavaxlangxStringxLcomxexamplexsukimaxsukimaxsqlxDataTypexZZLjavaxlangxObjectxZZZ_V rfl) rfl (by show 2 * 0 + _ ≤ _; exact Nat.le_of_eq rfl) (hb hby at_150) (fun _ _ => ⟨rfl, e2, (by decide : 6 + 0 ≤ _), (by decide : 28 + 0 ≤ _)⟩)
  dsimp only [Pt.U, Pt.locs, Pt.cells, Pt.slots] at X3 l3 y3 z3 st3 hQ3
  subst l3 y3 z3
  obtain ⟨rfl, N3q, K3, Ec3, Ct3⟩ := hQ3
  have N3 := Fr.app N0 N3q
  refine own_goW (T1 := T3) (g1 := (mkF m 153 #[.val (.int i0), .val (.int i1), .val (.int i2), .val (.int i3), .val (.int (Int32.ofNat cols.length)), .val (.int (Int32.ofNat pks.length)), .val (.int c0), .val (.int c1), .val (.int p0), .val (.int p1), .val (.ref dA), .val (.ref dZ), .val (.ref dP), .unset, .unset, .unset, .unset] [(.ref b1)])) (fun t k => st3.trans k) ?_
  have Vc_3 : Arv Z T3.heap dA kd .int (Int32.ofNat cols.length) (cols.map Value.int) (.int 0) := Vc_2.keep K3 (ninS ne_dA_b1 nin0)
  have Yc_3 : Exa Z T3.heap dA "[I" := Yc_2.keep K3
  have Vz_3 : Arv Z T3.heap dZ kz .boolean (Int32.ofNat cols.length) vz (.int 0) := Vz_2.keep K3 (ninS ne_dZ_b1 nin0)
  have Yz_3 : Exa Z T3.heap dZ "[Z" := Yz_2.keep K3
  have Vp_3 : Arv Z T3.heap dP ke .int (Int32.ofNat pks.length) (pks.map Value.int) (.int 0) := Vp_2.keep K3 (ninS ne_dP_b1 nin0)
  have Ol_3 : Old Z n0 T3.heap := Ol_2.keep K3 (allS ge_b1 all0)
  have Eb1_3 : Exa Z T3.heap b1 "com/example/sukima/sukima/catalog/Column" := Eb1_2.keep K3
  have hk_3 : kS2 ≤ T3.heap.size := Nat.le_trans hk2' K3.1
  have Zc3 : n0 ≤ T3.heap.size := Nat.le_trans Zs2 K3.1
  refine own_goW (T1 := T3) (g1 := (mkF m 155 #[.val (.int i0), .val (.int i1), .val (.int i2), .val (.int i3), .val (.int (Int32.ofNat cols.length)), .val (.int (Int32.ofNat pks.length)), .val (.int c0), .val (.int c1), .val (.int p0), .val (.int p1), .val (.ref dA), .val (.ref dZ), .val (.ref dP), .val (.ref b1), .unset, .unset, .unset] [])) (fun _ k => XS.astore X3.here hx rfl (hb hby at_153) rfl rfl (l' := #[.val (.int i0), .val (.int i1), .val (.int i2), .val (.int i3), .val (.int (Int32.ofNat cols.length)), .val (.int (Int32.ofNat pks.length)), .val (.int c0), .val (.int c1), .val (.int p0), .val (.int p1), .val (.ref dA), .val (.ref dZ), .val (.ref dP), .val (.ref b1), .unset, .unset, .unset]) rfl k) ?_
  obtain ⟨T4, h4, X4, e4, E4, A4, D4, -, st4⟩ := newO X3 hx hZ2 ho2 (hw _ (List.mem_of_getElem? (i := 36) rfl)) (hw _ (List.mem_of_getElem? (i := 37) rfl)) (hw _ (List.mem_of_getElem? (i := 38) rfl)) rfl (g := (mkF m 155 #[.val (.int i0), .val (.int i1), .val (.int i2), .val (.int i3), .val (.int (Int32.ofNat cols.length)), .val (.int (Int32.ofNat pks.length)), .val (.int c0), .val (.int c1), .val (.int p0), .val (.int p1), .val (.ref dA), .val (.ref dZ), .val (.ref dP), .val (.ref b1), .unset, .unset, .unset] [])) rfl (hb hby at_155) (by decide) (by decide)
  obtain ⟨b4, g4⟩ : ∃ z, z = T3.heap.size := ⟨_, rfl⟩
  rw [← g4] at A4 D4 st4
  have ne_dA_b4 : dA ≠ b4 := Nat.ne_of_lt (Nat.lt_of_lt_of_le Vc_3.lt (Nat.le_of_eq g4.symm))
  have ne_dZ_b4 : dZ ≠ b4 := Nat.ne_of_lt (Nat.lt_of_lt_of_le Vz_3.lt (Nat.le_of_eq g4.symm))
  have ne_dP_b4 : dP ≠ b4 := Nat.ne_of_lt (Nat.lt_of_lt_of_le Vp_3.lt (Nat.le_of_eq g4.symm))
  have ne_b1_b4 : b1 ≠ b4 := Nat.ne_of_lt (Nat.lt_of_lt_of_le Eb1_3.lt (Nat.le_of_eq g4.symm))
  have ge_b4 : n0 ≤ b4 := Nat.le_trans Zc3 (Nat.le_of_eq g4.symm)
  have Vc_4 : Arv Z h4 dA kd .int (Int32.ofNat cols.length) (cols.map Value.int) (.int 0) := Vc_3.ext E4
  have Yc_4 : Exa Z h4 dA "[I" := Yc_3.ext E4
  have Vz_4 : Arv Z h4 dZ kz .boolean (Int32.ofNat cols.length) vz (.int 0) := Vz_3.ext E4
  have Yz_4 : Exa Z h4 dZ "[Z" := Yz_3.ext E4
  have Vp_4 : Arv Z h4 dP ke .int (Int32.ofNat pks.length) (pks.map Value.int) (.int 0) := Vp_3.ext E4
  have Ol_4 : Old Z n0 h4 := Ol_3.ext E4
  have Eb1_4 : Exa Z h4 b1 "com/example/sukima/sukima/catalog/Column" := Eb1_3.ext E4
  have Ct_4 : Fld Z h4 b1 "com/example/sukima/sukima/catalog/Column" "type" "Lcom/example/sukima/sukima/sql/DataType;" .null := Ct3.ext E4
  have Zs4 : n0 ≤ h4.size := Nat.le_trans Zc3 E4.1
  have hk_4 : kS2 ≤ h4.size := Nat.le_trans hk_3 E4.1
  have FmodCount_b4 : Fld Z h4 b4 "java/util/AbstractList" "modCount" "I" (.int (0 : Int32)) := D4 (Or.inl (hw _ (List.mem_of_getElem? (i := 56) rfl))) (ty := .int) (by decide)
  have FelementData_b4 : Fld Z h4 b4 "java/util/ArrayList" "elementData" "[Ljava/lang/Object;" .null := D4 (Or.inl (hw _ (List.mem_of_getElem? (i := 59) rfl))) (ty := (.array (.object "java/lang/Object"))) (by decide)
  have Fsize_b4 : Fld Z h4 b4 "java/util/ArrayList" "size" "I" (.int (0 : Int32)) := D4 (Or.inl (hw _ (List.mem_of_getElem? (i := 72) rfl))) (ty := .int) (by decide)
  refine own_goW (T1 := T4) (g1 := (mkF m 158 #[.val (.int i0), .val (.int i1), .val (.int i2), .val (.int i3), .val (.int (Int32.ofNat cols.length)), .val (.int (Int32.ofNat pks.length)), .val (.int c0), .val (.int c1), .val (.int p0), .val (.int p1), .val (.ref dA), .val (.ref dZ), .val (.ref dP), .val (.ref b1), .unset, .unset, .unset] [(.ref b4)])) (fun t k => st4 t k) ?_
  refine own_goW (T1 := T4) (g1 := (mkF m 159 #[.val (.int i0), .val (.int i1), .val (.int i2), .val (.int i3), .val (.int (Int32.ofNat cols.length)), .val (.int (Int32.ofNat pks.length)), .val (.int c0), .val (.int c1), .val (.int p0), .val (.int p1), .val (.ref dA), .val (.ref dZ), .val (.ref dP), .val (.ref b1), .unset, .unset, .unset] [(.ref b4), (.ref b4)])) (fun _ k => XS.dup X4.here hx rfl (hb hby at_158) rfl rfl k) ?_
  obtain ⟨_, _, ⟨T5, L5, k5, n5⟩, -, X5, ⟨Lc5, hQ5, l5, y5, z5⟩, st5⟩ := X4.specialBack hx (y := (⟨"java/util/ArrayList", "<init>", "()V"⟩ : MethodName)) rfl ho2 (mvT hZ2 (hw _ (List.mem_of_getElem? (i := 39) rfl))) (mvT hZ2 (hw _ (List.mem_of_getElem? (i := 40) rfl))) (mvT hZ2 (hw _ (List.mem_of_getElem? (i := 41) rfl))) (by decide) (backOf (W := 1) (rmAL l Z a0 hw [] b4 d0 h4 n0 Zs4 ⟨A4, FelementData_b4, Fsize_b4, FmodCount_b4, ge_b4⟩ (S0.ext Ol_4.2)) hZ2 (hw _ (List.mem_of_getElem? (i := 41) rfl)) (hw _ (List.mem_of_getElem? (i := 38) rfl)) (by decide) (by decide)) (g := (mkF m 159 #[.val (.int i0), .val (.int i1), .val (.int i2), .val (.int i3), .val (.int (Int32.ofNat cols.length)), .val (.int (Int32.ofNat pks.length)), .val (.int c0), .val (.int c1), .val (.int p0), .val (.int p1), .val (.ref dA), .val (.ref dZ), .val (.ref dP), .val (.ref b1), .unset, .unset, .unset] [(.ref b4), (.ref b4)])) rfl (by rw [hml]; rfl) (Steps.refl _) (a := b4) (argsL := []) (rest := [(.ref b4)]) (lenOf own_pd__V rfl) rfl (by show 2 * 0 + _ ≤ _; exact Nat.le_of_eq rfl) (hb hby at_159) (fun _ _ => ⟨rfl, e4, (by decide : 7 + 0 ≤ _), (by decide : 31 + 0 ≤ _)⟩)
  dsimp only [Pt.U, Pt.locs, Pt.cells, Pt.slots] at X5 l5 y5 z5 st5 hQ5
  subst l5 y5 z5
  obtain ⟨rfl, N5q, K5, HA5⟩ := hQ5
  have N5 := Fr.app N3 N5q
  refine own_goW (T1 := T5) (g1 := (mkF m 162 #[.val (.int i0), .val (.int i1), .val (.int i2), .val (.int i3), .val (.int (Int32.ofNat cols.length)), .val (.int (Int32.ofNat pks.length)), .val (.int c0), .val (.int c1), .val (.int p0), .val (.int p1), .val (.ref dA), .val (.ref dZ), .val (.ref dP), .val (.ref b1), .unset, .unset, .unset] [(.ref b4)])) (fun t k => st5.trans k) ?_
  have Vc_5 : Arv Z T5.heap dA kd .int (Int32.ofNat cols.length) (cols.map Value.int) (.int 0) := Vc_4.keep K5 (ninS ne_dA_b4 nin0)
  have Yc_5 : Exa Z T5.heap dA "[I" := Yc_4.keep K5
  have Vz_5 : Arv Z T5.heap dZ kz .boolean (Int32.ofNat cols.length) vz (.int 0) := Vz_4.keep K5 (ninS ne_dZ_b4 nin0)
  have Yz_5 : Exa Z T5.heap dZ "[Z" := Yz_4.keep K5
  have Vp_5 : Arv Z T5.heap dP ke .int (Int32.ofNat pks.length) (pks.map Value.int) (.int 0) := Vp_4.keep K5 (ninS ne_dP_b4 nin0)
  have Ol_5 : Old Z n0 T5.heap := Ol_4.keep K5 (allS ge_b4 all0)
  have Eb1_5 : Exa Z T5.heap b1 "com/example/sukima/sukima/catalog/Column" := Eb1_4.keep K5
  have Ct_5 : Fld Z T5.heap b1 "com/example/sukima/sukima/catalog/Column" "type" "Lcom/example/sukima/sukima/sql/DataType;" .null := Ct_4.keep K5 (ninS ne_b1_b4 nin0)
  have Eb4_5 : Exa Z T5.heap b4 "java/util/ArrayList" := A4.keep K5
  have hk_5 : kS2 ≤ T5.heap.size := Nat.le_trans hk_4 K5.1
  have Zc5 : n0 ≤ T5.heap.size := Nat.le_trans Zs4 K5.1
  refine own_goW (T1 := T5) (g1 := (mkF m 164 #[.val (.int i0), .val (.int i1), .val (.int i2), .val (.int i3), .val (.int (Int32.ofNat cols.length)), .val (.int (Int32.ofNat pks.length)), .val (.int c0), .val (.int c1), .val (.int p0), .val (.int p1), .val (.ref dA), .val (.ref dZ), .val (.ref dP), .val (.ref b1), .val (.ref b4), .unset, .unset] [])) (fun _ k => XS.astore X5.here hx rfl (hb hby at_162) rfl rfl (l' := #[.val (.int i0), .val (.int i1), .val (.int i2), .val (.int i3), .val (.int (Int32.ofNat cols.length)), .val (.int (Int32.ofNat pks.length)), .val (.int c0), .val (.int c1), .val (.int p0), .val (.int p1), .val (.ref dA), .val (.ref dZ), .val (.ref dP), .val (.ref b1), .val (.ref b4), .unset, .unset]) rfl k) ?_
  refine own_goW (T1 := T5) (g1 := (mkF m 166 #[.val (.int i0), .val (.int i1), .val (.int i2), .val (.int i3), .val (.int (Int32.ofNat cols.length)), .val (.int (Int32.ofNat pks.length)), .val (.int c0), .val (.int c1), .val (.int p0), .val (.int p1), .val (.ref dA), .val (.ref dZ), .val (.ref dP), .val (.ref b1), .val (.ref b4), .unset, .unset] [(.ref b4)])) (fun _ k => XS.aload X5.here hx rfl (hb hby at_164) rfl rfl k) ?_
  refine own_goW (T1 := T5) (g1 := (mkF m 168 #[.val (.int i0), .val (.int i1), .val (.int i2), .val (.int i3), .val (.int (Int32.ofNat cols.length)), .val (.int (Int32.ofNat pks.length)), .val (.int c0), .val (.int c1), .val (.int p0), .val (.int p1), .val (.ref dA), .val (.ref dZ), .val (.ref dP), .val (.ref b1), .val (.ref b4), .unset, .unset] [(.ref b1), (.ref b4)])) (fun _ k => XS.aload X5.here hx rfl (hb hby at_166) rfl rfl k) ?_
  have nd : d0 ≠ b4 := Ol_5.ne Vd0.lt ge_b4
  obtain ⟨cq6, kq6, q6a, q6b, q6c⟩ := isOf hZ2 rfl Eb4_5
  obtain ⟨_, _, ⟨T6, L6, k6, n6⟩, -, X6, ⟨Lc6, hQ6, l6, y6, z6⟩, st6⟩ := X5.interfaceBack hx (xi := (⟨"java/util/List", "add", "(Ljava/lang/Object;)Z"⟩ : MethodName)) (y := (⟨"java/util/ArrayList", "add", "(Ljava/lang/Object;)Z"⟩ : MethodName)) ho2 (mvT hZ2 (hw _ (List.mem_of_getElem? (i := 60) rfl))) (mvT hZ2 (hw _ (List.mem_of_getElem? (i := 61) rfl))) (mvT hZ2 (hw _ (List.mem_of_getElem? (i := 62) rfl))) (mvT hZ2 (hw _ (List.mem_of_getElem? (i := 63) rfl))) (mvT hZ2 (hw _ (List.mem_of_getElem? (i := 64) rfl))) (mvT hZ2 (hw _ (List.mem_of_getElem? (i := 65) rfl))) (mvT hZ2 (hw _ (List.mem_of_getElem? (i := 66) rfl))) (mvT hZ2 (hw _ (List.mem_of_getElem? (i := 67) rfl))) (by decide) (backOf (W := 0) (rma1 l Z a0 hw [] b4 b1 d0 kd0 0 T5.heap n0 Zc5 HA5 (S0.ext Ol_5.2) (Vd0.ext Ol_5.2) nd Eb1_5 ne_b1_b4) hZ2 (hw _ (List.mem_of_getElem? (i := 68) rfl)) (hw _ (List.mem_of_getElem? (i := 38) rfl)) (by decide) (by decide)) q6a q6b q6c (g := (mkF m 168 #[.val (.int i0), .val (.int i1), .val (.int i2), .val (.int i3), .val (.int (Int32.ofNat cols.length)), .val (.int (Int32.ofNat pks.length)), .val (.int c0), .val (.int c1), .val (.int p0), .val (.int p1), .val (.ref dA), .val (.ref dZ), .val (.ref dP), .val (.ref b1), .val (.ref b4), .unset, .unset] [(.ref b1), (.ref b4)])) rfl (by rw [hml]; rfl) (Steps.refl _) (argsL := [(.ref b1)]) (rest := []) (lenOf own_pd_LjavaxlangxObjectx_Z rfl) rfl (by show 2 * 0 + _ ≤ _; exact Nat.le_of_eq rfl) (hb hby at_168) (fun _ _ => ⟨rfl, rfl, (by decide : 7 + 1 ≤ _), (by decide : 31 + 10 ≤ _)⟩)
  dsimp only [Pt.U, Pt.locs, Pt.cells, Pt.slots] at X6 l6 y6 z6 st6 hQ6
  subst l6 y6 z6
  obtain ⟨b6, kb6, rfl, N6q, K6, sz6, ge6, HA6, Vb6, Ov6⟩ := hQ6
  have N6 := Fr.app N5 N6q
  refine own_goW (T1 := T6) (g1 := (mkF m 173 #[.val (.int i0), .val (.int i1), .val (.int i2), .val (.int i3), .val (.int (Int32.ofNat cols.length)), .val (.int (Int32.ofNat pks.length)), .val (.int c0), .val (.int c1), .val (.int p0), .val (.int p1), .val (.ref dA), .val (.ref dZ), .val (.ref dP), .val (.ref b1), .val (.ref b4), .unset, .unset] [(.int (1 : Int32))])) (fun t k => st6.trans k) ?_
  have ne_dA_b6 : dA ≠ b6 := Nat.ne_of_lt (Nat.lt_of_lt_of_le Yc_5.lt sz6)
  have ne_dZ_b6 : dZ ≠ b6 := Nat.ne_of_lt (Nat.lt_of_lt_of_le Yz_5.lt sz6)
  have ne_dP_b6 : dP ≠ b6 := Nat.ne_of_lt (Nat.lt_of_lt_of_le Vp_5.lt sz6)
  have ne_b1_b6 : b1 ≠ b6 := Nat.ne_of_lt (Nat.lt_of_lt_of_le Ct_5.lt sz6)
  have ne_b4_b6 : b4 ≠ b6 := Nat.ne_of_lt (Nat.lt_of_lt_of_le Eb4_5.lt sz6)
  have Vc_6 : Arv Z T6.heap dA kd .int (Int32.ofNat cols.length) (cols.map Value.int) (.int 0) := Vc_5.keep K6 (ninS ne_dA_b4 nin0)
  have Yc_6 : Exa Z T6.heap dA "[I" := Yc_5.keep K6
  have Vz_6 : Arv Z T6.heap dZ kz .boolean (Int32.ofNat cols.length) vz (.int 0) := Vz_5.keep K6 (ninS ne_dZ_b4 nin0)
  have Yz_6 : Exa Z T6.heap dZ "[Z" := Yz_5.keep K6
  have Vp_6 : Arv Z T6.heap dP ke .int (Int32.ofNat pks.length) (pks.map Value.int) (.int 0) := Vp_5.keep K6 (ninS ne_dP_b4 nin0)
  have Ol_6 : Old Z n0 T6.heap := Ol_5.keep K6 (allS ge_b4 all0)
  have Eb1_6 : Exa Z T6.heap b1 "com/example/sukima/sukima/catalog/Column" := Eb1_5.keep K6
  have Ct_6 : Fld Z T6.heap b1 "com/example/sukima/sukima/catalog/Column" "type" "Lcom/example/sukima/sukima/sql/DataType;" .null := Ct_5.keep K6 (ninS ne_b1_b4 nin0)
  have Eb4_6 : Exa Z T6.heap b4 "java/util/ArrayList" := Eb4_5.keep K6
  have hk_6 : kS2 ≤ T6.heap.size := Nat.le_trans hk_5 K6.1
  have Zc6 : n0 ≤ T6.heap.size := Nat.le_trans Zc5 K6.1
  refine own_goW (T1 := T6) (g1 := (mkF m 174 #[.val (.int i0), .val (.int i1), .val (.int i2), .val (.int i3), .val (.int (Int32.ofNat cols.length)), .val (.int (Int32.ofNat pks.length)), .val (.int c0), .val (.int c1), .val (.int p0), .val (.int p1), .val (.ref dA), .val (.ref dZ), .val (.ref dP), .val (.ref b1), .val (.ref b4), .unset, .unset] [])) (fun _ k => XS.pop X6.here hx rfl (hb hby at_173) rfl rfl k) ?_
  refine own_goW (T1 := T6) (g1 := (mkF m 176 #[.val (.int i0), .val (.int i1), .val (.int i2), .val (.int i3), .val (.int (Int32.ofNat cols.length)), .val (.int (Int32.ofNat pks.length)), .val (.int c0), .val (.int c1), .val (.int p0), .val (.int p1), .val (.ref dA), .val (.ref dZ), .val (.ref dP), .val (.ref b1), .val (.ref b4), .unset, .unset] [(.ref b4)])) (fun _ k => XS.aload X6.here hx rfl (hb hby at_174) rfl rfl k) ?_
  refine own_goW (T1 := T6) (g1 := (mkF m 178 #[.val (.int i0), .val (.int i1), .val (.int i2), .val (.int i3), .val (.int (Int32.ofNat cols.length)), .val (.int (Int32.ofNat pks.length)), .val (.int c0), .val (.int c1), .val (.int p0), .val (.int p1), .val (.ref dA), .val (.ref dZ), .val (.ref dP), .val (.ref b1), .val (.ref b4), .unset, .unset] [(.ref b1), (.ref b4)])) (fun _ k => XS.aload X6.here hx rfl (hb hby at_176) rfl rfl k) ?_
  obtain ⟨cq7, kq7, q7a, q7b, q7c⟩ := isOf hZ2 rfl Eb4_6
  obtain ⟨_, _, ⟨T7, L7, k7, n7⟩, -, X7, ⟨Lc7, hQ7, l7, y7, z7⟩, st7⟩ := X6.interfaceBack hx (xi := (⟨"java/util/List", "add", "(Ljava/lang/Object;)Z"⟩ : MethodName)) (y := (⟨"java/util/ArrayList", "add", "(Ljava/lang/Object;)Z"⟩ : MethodName)) ho2 (mvT hZ2 (hw _ (List.mem_of_getElem? (i := 60) rfl))) (mvT hZ2 (hw _ (List.mem_of_getElem? (i := 61) rfl))) (mvT hZ2 (hw _ (List.mem_of_getElem? (i := 62) rfl))) (mvT hZ2 (hw _ (List.mem_of_getElem? (i := 63) rfl))) (mvT hZ2 (hw _ (List.mem_of_getElem? (i := 64) rfl))) (mvT hZ2 (hw _ (List.mem_of_getElem? (i := 65) rfl))) (mvT hZ2 (hw _ (List.mem_of_getElem? (i := 66) rfl))) (mvT hZ2 (hw _ (List.mem_of_getElem? (i := 67) rfl))) (by decide) (backOf (W := 0) (rma1p l Z a0 hw [] b4 b1 b6 kb6 1 (0 + 1) [.ref b1] T6.heap n0 Zc6 HA6 Vb6 Ov6 ge6 ne_b4_b6 ne_b1_b4 ⟨by decide, by decide⟩ rfl (by decide) Eb1_6) hZ2 (hw _ (List.mem_of_getElem? (i := 68) rfl)) (hw _ (List.mem_of_getElem? (i := 38) rfl)) (by decide) (by decide)) q7a q7b q7c (g := (mkF m 178 #[.val (.int i0), .val (.int i1), .val (.int i2), .val (.int i3), .val (.int (Int32.ofNat cols.length)), .val (.int (Int32.ofNat pks.length)), .val (.int c0), .val (.int c1), .val (.int p0), .val (.int p1), .val (.ref dA), .val (.ref dZ), .val (.ref dP), .val (.ref b1), .val (.ref b4), .unset, .unset] [(.ref b1), (.ref b4)])) rfl (by rw [hml]; rfl) (Steps.refl _) (argsL := [(.ref b1)]) (rest := []) (lenOf own_pd_LjavaxlangxObjectx_Z rfl) rfl (by show 2 * 0 + _ ≤ _; exact Nat.le_of_eq rfl) (hb hby at_178) (fun _ _ => ⟨rfl, rfl, (by decide : 8 + 0 ≤ _), (by decide : 41 + 0 ≤ _)⟩)
  dsimp only [Pt.U, Pt.locs, Pt.cells, Pt.slots] at X7 l7 y7 z7 st7 hQ7
  subst l7 y7 z7
  obtain ⟨rfl, N7q, K7, HA7, Vb7⟩ := hQ7
  have N7 := Fr.app N6 N7q
  refine own_goW (T1 := T7) (g1 := (mkF m 183 #[.val (.int i0), .val (.int i1), .val (.int i2), .val (.int i3), .val (.int (Int32.ofNat cols.length)), .val (.int (Int32.ofNat pks.length)), .val (.int c0), .val (.int c1), .val (.int p0), .val (.int p1), .val (.ref dA), .val (.ref dZ), .val (.ref dP), .val (.ref b1), .val (.ref b4), .unset, .unset] [(.int (1 : Int32))])) (fun t k => st7.trans k) ?_
  have Vc_7 : Arv Z T7.heap dA kd .int (Int32.ofNat cols.length) (cols.map Value.int) (.int 0) := Vc_6.keep K7 (ninS ne_dA_b4 (ninS ne_dA_b6 nin0))
  have Yc_7 : Exa Z T7.heap dA "[I" := Yc_6.keep K7
  have Vz_7 : Arv Z T7.heap dZ kz .boolean (Int32.ofNat cols.length) vz (.int 0) := Vz_6.keep K7 (ninS ne_dZ_b4 (ninS ne_dZ_b6 nin0))
  have Yz_7 : Exa Z T7.heap dZ "[Z" := Yz_6.keep K7
  have Vp_7 : Arv Z T7.heap dP ke .int (Int32.ofNat pks.length) (pks.map Value.int) (.int 0) := Vp_6.keep K7 (ninS ne_dP_b4 (ninS ne_dP_b6 nin0))
  have Ol_7 : Old Z n0 T7.heap := Ol_6.keep K7 (allS ge_b4 (allS ge6 all0))
  have Eb1_7 : Exa Z T7.heap b1 "com/example/sukima/sukima/catalog/Column" := Eb1_6.keep K7
  have Ct_7 : Fld Z T7.heap b1 "com/example/sukima/sukima/catalog/Column" "type" "Lcom/example/sukima/sukima/sql/DataType;" .null := Ct_6.keep K7 (ninS ne_b1_b4 (ninS ne_b1_b6 nin0))
  have Eb4_7 : Exa Z T7.heap b4 "java/util/ArrayList" := Eb4_6.keep K7
  have hk_7 : kS2 ≤ T7.heap.size := Nat.le_trans hk_6 K7.1
  have Zc7 : n0 ≤ T7.heap.size := Nat.le_trans Zc6 K7.1
  refine own_goW (T1 := T7) (g1 := (mkF m 184 #[.val (.int i0), .val (.int i1), .val (.int i2), .val (.int i3), .val (.int (Int32.ofNat cols.length)), .val (.int (Int32.ofNat pks.length)), .val (.int c0), .val (.int c1), .val (.int p0), .val (.int p1), .val (.ref dA), .val (.ref dZ), .val (.ref dP), .val (.ref b1), .val (.ref b4), .unset, .unset] [])) (fun _ k => XS.pop X7.here hx rfl (hb hby at_183) rfl rfl k) ?_
  refine own_goW (T1 := T7) (g1 := (mkF m 186 #[.val (.int i0), .val (.int i1), .val (.int i2), .val (.int i3), .val (.int (Int32.ofNat cols.length)), .val (.int (Int32.ofNat pks.length)), .val (.int c0), .val (.int c1), .val (.int p0), .val (.int p1), .val (.ref dA), .val (.ref dZ), .val (.ref dP), .val (.ref b1), .val (.ref b4), .unset, .unset] [(.ref b4)])) (fun _ k => XS.aload X7.here hx rfl (hb hby at_184) rfl rfl k) ?_
  refine own_goW (T1 := T7) (g1 := (mkF m 188 #[.val (.int i0), .val (.int i1), .val (.int i2), .val (.int i3), .val (.int (Int32.ofNat cols.length)), .val (.int (Int32.ofNat pks.length)), .val (.int c0), .val (.int c1), .val (.int p0), .val (.int p1), .val (.ref dA), .val (.ref dZ), .val (.ref dP), .val (.ref b1), .val (.ref b4), .unset, .unset] [(.ref b1), (.ref b4)])) (fun _ k => XS.aload X7.here hx rfl (hb hby at_186) rfl rfl k) ?_
  obtain ⟨cq8, kq8, q8a, q8b, q8c⟩ := isOf hZ2 rfl Eb4_7
  obtain ⟨_, _, ⟨T8, L8, k8, n8⟩, -, X8, ⟨Lc8, hQ8, l8, y8, z8⟩, st8⟩ := X7.interfaceBack hx (xi := (⟨"java/util/List", "add", "(Ljava/lang/Object;)Z"⟩ : MethodName)) (y := (⟨"java/util/ArrayList", "add", "(Ljava/lang/Object;)Z"⟩ : MethodName)) ho2 (mvT hZ2 (hw _ (List.mem_of_getElem? (i := 60) rfl))) (mvT hZ2 (hw _ (List.mem_of_getElem? (i := 61) rfl))) (mvT hZ2 (hw _ (List.mem_of_getElem? (i := 62) rfl))) (mvT hZ2 (hw _ (List.mem_of_getElem? (i := 63) rfl))) (mvT hZ2 (hw _ (List.mem_of_getElem? (i := 64) rfl))) (mvT hZ2 (hw _ (List.mem_of_getElem? (i := 65) rfl))) (mvT hZ2 (hw _ (List.mem_of_getElem? (i := 66) rfl))) (mvT hZ2 (hw _ (List.mem_of_getElem? (i := 67) rfl))) (by decide) (backOf (W := 0) (rma1p l Z a0 hw [] b4 b1 b6 kb6 (1 + 1) ((0 + 1) + 1) ([.ref b1] ++ [.ref b1]) T7.heap n0 Zc7 HA7 Vb7 Ov6 ge6 ne_b4_b6 ne_b1_b4 ⟨by decide, by decide⟩ rfl (by decide) Eb1_7) hZ2 (hw _ (List.mem_of_getElem? (i := 68) rfl)) (hw _ (List.mem_of_getElem? (i := 38) rfl)) (by decide) (by decide)) q8a q8b q8c (g := (mkF m 188 #[.val (.int i0), .val (.int i1), .val (.int i2), .val (.int i3), .val (.int (Int32.ofNat cols.length)), .val (.int (Int32.ofNat pks.length)), .val (.int c0), .val (.int c1), .val (.int p0), .val (.int p1), .val (.ref dA), .val (.ref dZ), .val (.ref dP), .val (.ref b1), .val (.ref b4), .unset, .unset] [(.ref b1), (.ref b4)])) rfl (by rw [hml]; rfl) (Steps.refl _) (argsL := [(.ref b1)]) (rest := []) (lenOf own_pd_LjavaxlangxObjectx_Z rfl) rfl (by show 2 * 0 + _ ≤ _; exact Nat.le_of_eq rfl) (hb hby at_188) (fun _ _ => ⟨rfl, rfl, (by decide : 8 + 0 ≤ _), (by decide : 41 + 0 ≤ _)⟩)
  dsimp only [Pt.U, Pt.locs, Pt.cells, Pt.slots] at X8 l8 y8 z8 st8 hQ8
  subst l8 y8 z8
  obtain ⟨rfl, N8q, K8, HA8, Vb8⟩ := hQ8
  have N8 := Fr.app N7 N8q
  refine own_goW (T1 := T8) (g1 := (mkF m 193 #[.val (.int i0), .val (.int i1), .val (.int i2), .val (.int i3), .val (.int (Int32.ofNat cols.length)), .val (.int (Int32.ofNat pks.length)), .val (.int c0), .val (.int c1), .val (.int p0), .val (.int p1), .val (.ref dA), .val (.ref dZ), .val (.ref dP), .val (.ref b1), .val (.ref b4), .unset, .unset] [(.int (1 : Int32))])) (fun t k => st8.trans k) ?_
  have Vc_8 : Arv Z T8.heap dA kd .int (Int32.ofNat cols.length) (cols.map Value.int) (.int 0) := Vc_7.keep K8 (ninS ne_dA_b4 (ninS ne_dA_b6 nin0))
  have Yc_8 : Exa Z T8.heap dA "[I" := Yc_7.keep K8
  have Vz_8 : Arv Z T8.heap dZ kz .boolean (Int32.ofNat cols.length) vz (.int 0) := Vz_7.keep K8 (ninS ne_dZ_b4 (ninS ne_dZ_b6 nin0))
  have Yz_8 : Exa Z T8.heap dZ "[Z" := Yz_7.keep K8
  have Vp_8 : Arv Z T8.heap dP ke .int (Int32.ofNat pks.length) (pks.map Value.int) (.int 0) := Vp_7.keep K8 (ninS ne_dP_b4 (ninS ne_dP_b6 nin0))
  have Ol_8 : Old Z n0 T8.heap := Ol_7.keep K8 (allS ge_b4 (allS ge6 all0))
  have Eb1_8 : Exa Z T8.heap b1 "com/example/sukima/sukima/catalog/Column" := Eb1_7.keep K8
  have Ct_8 : Fld Z T8.heap b1 "com/example/sukima/sukima/catalog/Column" "type" "Lcom/example/sukima/sukima/sql/DataType;" .null := Ct_7.keep K8 (ninS ne_b1_b4 (ninS ne_b1_b6 nin0))
  have Eb4_8 : Exa Z T8.heap b4 "java/util/ArrayList" := Eb4_7.keep K8
  have hk_8 : kS2 ≤ T8.heap.size := Nat.le_trans hk_7 K8.1
  have Zc8 : n0 ≤ T8.heap.size := Nat.le_trans Zc7 K8.1
  refine own_goW (T1 := T8) (g1 := (mkF m 194 #[.val (.int i0), .val (.int i1), .val (.int i2), .val (.int i3), .val (.int (Int32.ofNat cols.length)), .val (.int (Int32.ofNat pks.length)), .val (.int c0), .val (.int c1), .val (.int p0), .val (.int p1), .val (.ref dA), .val (.ref dZ), .val (.ref dP), .val (.ref b1), .val (.ref b4), .unset, .unset] [])) (fun _ k => XS.pop X8.here hx rfl (hb hby at_193) rfl rfl k) ?_
  refine own_goW (T1 := T8) (g1 := (mkF m 196 #[.val (.int i0), .val (.int i1), .val (.int i2), .val (.int i3), .val (.int (Int32.ofNat cols.length)), .val (.int (Int32.ofNat pks.length)), .val (.int c0), .val (.int c1), .val (.int p0), .val (.int p1), .val (.ref dA), .val (.ref dZ), .val (.ref dP), .val (.ref b1), .val (.ref b4), .unset, .unset] [(.ref b4)])) (fun _ k => XS.aload X8.here hx rfl (hb hby at_194) rfl rfl k) ?_
  refine own_goW (T1 := T8) (g1 := (mkF m 198 #[.val (.int i0), .val (.int i1), .val (.int i2), .val (.int i3), .val (.int (Int32.ofNat cols.length)), .val (.int (Int32.ofNat pks.length)), .val (.int c0), .val (.int c1), .val (.int p0), .val (.int p1), .val (.ref dA), .val (.ref dZ), .val (.ref dP), .val (.ref b1), .val (.ref b4), .unset, .unset] [(.ref b1), (.ref b4)])) (fun _ k => XS.aload X8.here hx rfl (hb hby at_196) rfl rfl k) ?_
  obtain ⟨cq9, kq9, q9a, q9b, q9c⟩ := isOf hZ2 rfl Eb4_8
  obtain ⟨_, _, ⟨T9, L9, k9, n9⟩, -, X9, ⟨Lc9, hQ9, l9, y9, z9⟩, st9⟩ := X8.interfaceBack hx (xi := (⟨"java/util/List", "add", "(Ljava/lang/Object;)Z"⟩ : MethodName)) (y := (⟨"java/util/ArrayList", "add", "(Ljava/lang/Object;)Z"⟩ : MethodName)) ho2 (mvT hZ2 (hw _ (List.mem_of_getElem? (i := 60) rfl))) (mvT hZ2 (hw _ (List.mem_of_getElem? (i := 61) rfl))) (mvT hZ2 (hw _ (List.mem_of_getElem? (i := 62) rfl))) (mvT hZ2 (hw _ (List.mem_of_getElem? (i := 63) rfl))) (mvT hZ2 (hw _ (List.mem_of_getElem? (i := 64) rfl))) (mvT hZ2 (hw _ (List.mem_of_getElem? (i := 65) rfl))) (mvT hZ2 (hw _ (List.mem_of_getElem? (i := 66) rfl))) (mvT hZ2 (hw _ (List.mem_of_getElem? (i := 67) rfl))) (by decide) (backOf (W := 0) (rma1p l Z a0 hw [] b4 b1 b6 kb6 ((1 + 1) + 1) (((0 + 1) + 1) + 1) (([.ref b1] ++ [.ref b1]) ++ [.ref b1]) T8.heap n0 Zc8 HA8 Vb8 Ov6 ge6 ne_b4_b6 ne_b1_b4 ⟨by decide, by decide⟩ rfl (by decide) Eb1_8) hZ2 (hw _ (List.mem_of_getElem? (i := 68) rfl)) (hw _ (List.mem_of_getElem? (i := 38) rfl)) (by decide) (by decide)) q9a q9b q9c (g := (mkF m 198 #[.val (.int i0), .val (.int i1), .val (.int i2), .val (.int i3), .val (.int (Int32.ofNat cols.length)), .val (.int (Int32.ofNat pks.length)), .val (.int c0), .val (.int c1), .val (.int p0), .val (.int p1), .val (.ref dA), .val (.ref dZ), .val (.ref dP), .val (.ref b1), .val (.ref b4), .unset, .unset] [(.ref b1), (.ref b4)])) rfl (by rw [hml]; rfl) (Steps.refl _) (argsL := [(.ref b1)]) (rest := []) (lenOf own_pd_LjavaxlangxObjectx_Z rfl) rfl (by show 2 * 0 + _ ≤ _; exact Nat.le_of_eq rfl) (hb hby at_198) (fun _ _ => ⟨rfl, rfl, (by decide : 8 + 0 ≤ _), (by decide : 41 + 0 ≤ _)⟩)
  dsimp only [Pt.U, Pt.locs, Pt.cells, Pt.slots] at X9 l9 y9 z9 st9 hQ9
  subst l9 y9 z9
  obtain ⟨rfl, N9q, K9, HA9, Vb9⟩ := hQ9
  have N9 := Fr.app N8 N9q
  refine own_goW (T1 := T9) (g1 := (mkF m 203 #[.val (.int i0), .val (.int i1), .val (.int i2), .val (.int i3), .val (.int (Int32.ofNat cols.length)), .val (.int (Int32.ofNat pks.length)), .val (.int c0), .val (.int c1), .val (.int p0), .val (.int p1), .val (.ref dA), .val (.ref dZ), .val (.ref dP), .val (.ref b1), .val (.ref b4), .unset, .unset] [(.int (1 : Int32))])) (fun t k => st9.trans k) ?_
  have Vc_9 : Arv Z T9.heap dA kd .int (Int32.ofNat cols.length) (cols.map Value.int) (.int 0) := Vc_8.keep K9 (ninS ne_dA_b4 (ninS ne_dA_b6 nin0))
  have Yc_9 : Exa Z T9.heap dA "[I" := Yc_8.keep K9
  have Vz_9 : Arv Z T9.heap dZ kz .boolean (Int32.ofNat cols.length) vz (.int 0) := Vz_8.keep K9 (ninS ne_dZ_b4 (ninS ne_dZ_b6 nin0))
  have Yz_9 : Exa Z T9.heap dZ "[Z" := Yz_8.keep K9
  have Vp_9 : Arv Z T9.heap dP ke .int (Int32.ofNat pks.length) (pks.map Value.int) (.int 0) := Vp_8.keep K9 (ninS ne_dP_b4 (ninS ne_dP_b6 nin0))
  have Ol_9 : Old Z n0 T9.heap := Ol_8.keep K9 (allS ge_b4 (allS ge6 all0))
  have Eb1_9 : Exa Z T9.heap b1 "com/example/sukima/sukima/catalog/Column" := Eb1_8.keep K9
  have Ct_9 : Fld Z T9.heap b1 "com/example/sukima/sukima/catalog/Column" "type" "Lcom/example/sukima/sukima/sql/DataType;" .null := Ct_8.keep K9 (ninS ne_b1_b4 (ninS ne_b1_b6 nin0))
  have Eb4_9 : Exa Z T9.heap b4 "java/util/ArrayList" := Eb4_8.keep K9
  have hk_9 : kS2 ≤ T9.heap.size := Nat.le_trans hk_8 K9.1
  have Zc9 : n0 ≤ T9.heap.size := Nat.le_trans Zc8 K9.1
  refine own_goW (T1 := T9) (g1 := (mkF m 204 #[.val (.int i0), .val (.int i1), .val (.int i2), .val (.int i3), .val (.int (Int32.ofNat cols.length)), .val (.int (Int32.ofNat pks.length)), .val (.int c0), .val (.int c1), .val (.int p0), .val (.int p1), .val (.ref dA), .val (.ref dZ), .val (.ref dP), .val (.ref b1), .val (.ref b4), .unset, .unset] [])) (fun _ k => XS.pop X9.here hx rfl (hb hby at_203) rfl rfl k) ?_
  obtain ⟨Lx, Le, Ls, Lm, gl⟩ := HA9
  have Vbq : Arv Z T9.heap b6 kb6 (.object "java/lang/Object") (10 : Int32) [.ref b1, .ref b1, .ref b1, .ref b1] .null := Vb9
  have Lsq : Fld Z T9.heap b4 "java/util/ArrayList" "size" "I" (.int (4 : Int32)) := Ls
  obtain ⟨T10, h10, X10, e10, E10, A10, D10, -, st10⟩ := newO X9 hx hZ2 ho2 (hw _ (List.mem_of_getElem? (i := 95) rfl)) (hw _ (List.mem_of_getElem? (i := 96) rfl)) (hw _ (List.mem_of_getElem? (i := 97) rfl)) rfl (g := (mkF m 204 #[.val (.int i0), .val (.int i1), .val (.int i2), .val (.int i3), .val (.int (Int32.ofNat cols.length)), .val (.int (Int32.ofNat pks.length)), .val (.int c0), .val (.int c1), .val (.int p0), .val (.int p1), .val (.ref dA), .val (.ref dZ), .val (.ref dP), .val (.ref b1), .val (.ref b4), .unset, .unset] [])) rfl (hb hby at_204) (by decide) (by decide)
  obtain ⟨b10, g10⟩ : ∃ z, z = T9.heap.size := ⟨_, rfl⟩
  rw [← g10] at A10 D10 st10
  have ne_dA_b10 : dA ≠ b10 := Nat.ne_of_lt (Nat.lt_of_lt_of_le Vc_9.lt (Nat.le_of_eq g10.symm))
  have ne_dZ_b10 : dZ ≠ b10 := Nat.ne_of_lt (Nat.lt_of_lt_of_le Vz_9.lt (Nat.le_of_eq g10.symm))
  have ne_dP_b10 : dP ≠ b10 := Nat.ne_of_lt (Nat.lt_of_lt_of_le Vp_9.lt (Nat.le_of_eq g10.symm))
  have ne_b1_b10 : b1 ≠ b10 := Nat.ne_of_lt (Nat.lt_of_lt_of_le Eb1_9.lt (Nat.le_of_eq g10.symm))
  have ne_b4_b10 : b4 ≠ b10 := Nat.ne_of_lt (Nat.lt_of_lt_of_le Lx.lt (Nat.le_of_eq g10.symm))
  have ne_b6_b10 : b6 ≠ b10 := Nat.ne_of_lt (Nat.lt_of_lt_of_le Vbq.lt (Nat.le_of_eq g10.symm))
  have ge_b10 : n0 ≤ b10 := Nat.le_trans Zc9 (Nat.le_of_eq g10.symm)
  have Vc_10 : Arv Z h10 dA kd .int (Int32.ofNat cols.length) (cols.map Value.int) (.int 0) := Vc_9.ext E10
  have Yc_10 : Exa Z h10 dA "[I" := Yc_9.ext E10
  have Vz_10 : Arv Z h10 dZ kz .boolean (Int32.ofNat cols.length) vz (.int 0) := Vz_9.ext E10
  have Yz_10 : Exa Z h10 dZ "[Z" := Yz_9.ext E10
  have Vp_10 : Arv Z h10 dP ke .int (Int32.ofNat pks.length) (pks.map Value.int) (.int 0) := Vp_9.ext E10
  have Ol_10 : Old Z n0 h10 := Ol_9.ext E10
  have Eb1_10 : Exa Z h10 b1 "com/example/sukima/sukima/catalog/Column" := Eb1_9.ext E10
  have Ct_10 : Fld Z h10 b1 "com/example/sukima/sukima/catalog/Column" "type" "Lcom/example/sukima/sukima/sql/DataType;" .null := Ct_9.ext E10
  have Lx_10 : Exa Z h10 b4 "java/util/ArrayList" := Lx.ext E10
  have Le_10 : Fld Z h10 b4 "java/util/ArrayList" "elementData" "[Ljava/lang/Object;" (.ref b6) := Le.ext E10
  have Ls_10 : Fld Z h10 b4 "java/util/ArrayList" "size" "I" (.int (4 : Int32)) := Lsq.ext E10
  have Lm_10 : Fld Z h10 b4 "java/util/AbstractList" "modCount" "I" (.int ((((0 + 1) + 1) + 1) + 1)) := Lm.ext E10
  have Vb_10 : Arv Z h10 b6 kb6 (.object "java/lang/Object") (10 : Int32) [.ref b1, .ref b1, .ref b1, .ref b1] .null := Vbq.ext E10
  have Zs10 : n0 ≤ h10.size := Nat.le_trans Zc9 E10.1
  have hk_10 : kS2 ≤ h10.size := Nat.le_trans hk_9 E10.1
  have Fname_b10 : Fld Z h10 b10 "com/example/sukima/sukima/catalog/Index" "name" "Ljava/lang/String;" .null := D10 (Or.inr (hw _ (List.mem_of_getElem? (i := 104) rfl))) (ty := (.object "java/lang/String")) (by decide)
  have Funique_b10 : Fld Z h10 b10 "com/example/sukima/sukima/catalog/Index" "unique" "Z" (.int (0 : Int32)) := D10 (Or.inr (hw _ (List.mem_of_getElem? (i := 106) rfl))) (ty := .boolean) (by decide)
  have Fcolumns_b10 : Fld Z h10 b10 "com/example/sukima/sukima/catalog/Index" "columns" "[I" .null := D10 (Or.inr (hw _ (List.mem_of_getElem? (i := 117) rfl))) (ty := (.array .int)) (by decide)
  have FkeyColumns_b10 : Fld Z h10 b10 "com/example/sukima/sukima/catalog/Index" "keyColumns" "[I" .null := D10 (Or.inr (hw _ (List.mem_of_getElem? (i := 128) rfl))) (ty := (.array .int)) (by decide)
  have FkeyTypes_b10 : Fld Z h10 b10 "com/example/sukima/sukima/catalog/Index" "keyTypes" "[Lcom/example/sukima/sukima/sql/DataType;" .null := D10 (Or.inr (hw _ (List.mem_of_getElem? (i := 132) rfl))) (ty := (.array (.object "com/example/sukima/sukima/sql/DataType"))) (by decide)
  have Fdescending_b10 : Fld Z h10 b10 "com/example/sukima/sukima/catalog/Index" "descending" "[Z" .null := D10 (Or.inr (hw _ (List.mem_of_getElem? (i := 143) rfl))) (ty := (.array .boolean)) (by decide)
  have FprimaryKeyPlaces_b10 : Fld Z h10 b10 "com/example/sukima/sukima/catalog/Index" "primaryKeyPlaces" "[I" .null := D10 (Or.inr (hw _ (List.mem_of_getElem? (i := 145) rfl))) (ty := (.array .int)) (by decide)
  refine own_goW (T1 := T10) (g1 := (mkF m 207 #[.val (.int i0), .val (.int i1), .val (.int i2), .val (.int i3), .val (.int (Int32.ofNat cols.length)), .val (.int (Int32.ofNat pks.length)), .val (.int c0), .val (.int c1), .val (.int p0), .val (.int p1), .val (.ref dA), .val (.ref dZ), .val (.ref dP), .val (.ref b1), .val (.ref b4), .unset, .unset] [(.ref b10)])) (fun t k => st10 t k) ?_
  refine own_goW (T1 := T10) (g1 := (mkF m 208 #[.val (.int i0), .val (.int i1), .val (.int i2), .val (.int i3), .val (.int (Int32.ofNat cols.length)), .val (.int (Int32.ofNat pks.length)), .val (.int c0), .val (.int c1), .val (.int p0), .val (.int p1), .val (.ref dA), .val (.ref dZ), .val (.ref dP), .val (.ref b1), .val (.ref b4), .unset, .unset] [(.ref b10), (.ref b10)])) (fun _ k => XS.dup X10.here hx rfl (hb hby at_207) rfl rfl k) ?_
  obtain ⟨sa11, T11, h11, kS11, X11, e11, E11, hS11, hk11, hZ11, ho11, st11⟩ := ldcS (s := s) X10 hx hZ2 ho2 (hw _ (List.mem_of_getElem? (i := 98) rfl)) (own_strW hw) e10 hS2 hk_10 (g := (mkF m 208 #[.val (.int i0), .val (.int i1), .val (.int i2), .val (.int i3), .val (.int (Int32.ofNat cols.length)), .val (.int (Int32.ofNat pks.length)), .val (.int c0), .val (.int c1), .val (.int p0), .val (.int p1), .val (.ref dA), .val (.ref dZ), .val (.ref dP), .val (.ref b1), .val (.ref b4), .unset, .unset] [(.ref b10), (.ref b10)])) rfl (hb hby at_208) (n := 4) (by decide) (by decide) (by decide) (by decide)
  have Vc_11 : Arv Z h11 dA kd .int (Int32.ofNat cols.length) (cols.map Value.int) (.int 0) := Vc_10.ext E11
  have Yc_11 : Exa Z h11 dA "[I" := Yc_10.ext E11
  have Vz_11 : Arv Z h11 dZ kz .boolean (Int32.ofNat cols.length) vz (.int 0) := Vz_10.ext E11
  have Yz_11 : Exa Z h11 dZ "[Z" := Yz_10.ext E11
  have Vp_11 : Arv Z h11 dP ke .int (Int32.ofNat pks.length) (pks.map Value.int) (.int 0) := Vp_10.ext E11
  have Ol_11 : Old Z n0 h11 := Ol_10.ext E11
  have Eb1_11 : Exa Z h11 b1 "com/example/sukima/sukima/catalog/Column" := Eb1_10.ext E11
  have Ct_11 : Fld Z h11 b1 "com/example/sukima/sukima/catalog/Column" "type" "Lcom/example/sukima/sukima/sql/DataType;" .null := Ct_10.ext E11
  have Lx_11 : Exa Z h11 b4 "java/util/ArrayList" := Lx_10.ext E11
  have Le_11 : Fld Z h11 b4 "java/util/ArrayList" "elementData" "[Ljava/lang/Object;" (.ref b6) := Le_10.ext E11
  have Ls_11 : Fld Z h11 b4 "java/util/ArrayList" "size" "I" (.int (4 : Int32)) := Ls_10.ext E11
  have Lm_11 : Fld Z h11 b4 "java/util/AbstractList" "modCount" "I" (.int ((((0 + 1) + 1) + 1) + 1)) := Lm_10.ext E11
  have Vb_11 : Arv Z h11 b6 kb6 (.object "java/lang/Object") (10 : Int32) [.ref b1, .ref b1, .ref b1, .ref b1] .null := Vb_10.ext E11
  have Eb10_11 : Exa Z h11 b10 "com/example/sukima/sukima/catalog/Index" := A10.ext E11
  have Fname_b10_11 : Fld Z h11 b10 "com/example/sukima/sukima/catalog/Index" "name" "Ljava/lang/String;" .null := Fname_b10.ext E11
  have Funique_b10_11 : Fld Z h11 b10 "com/example/sukima/sukima/catalog/Index" "unique" "Z" (.int (0 : Int32)) := Funique_b10.ext E11
  have Fcolumns_b10_11 : Fld Z h11 b10 "com/example/sukima/sukima/catalog/Index" "columns" "[I" .null := Fcolumns_b10.ext E11
  have FkeyColumns_b10_11 : Fld Z h11 b10 "com/example/sukima/sukima/catalog/Index" "keyColumns" "[I" .null := FkeyColumns_b10.ext E11
  have FkeyTypes_b10_11 : Fld Z h11 b10 "com/example/sukima/sukima/catalog/Index" "keyTypes" "[Lcom/example/sukima/sukima/sql/DataType;" .null := FkeyTypes_b10.ext E11
  have Fdescending_b10_11 : Fld Z h11 b10 "com/example/sukima/sukima/catalog/Index" "descending" "[Z" .null := Fdescending_b10.ext E11
  have FprimaryKeyPlaces_b10_11 : Fld Z h11 b10 "com/example/sukima/sukima/catalog/Index" "primaryKeyPlaces" "[I" .null := FprimaryKeyPlaces_b10.ext E11
  have Zs11 : n0 ≤ h11.size := Nat.le_trans Zs10 E11.1
  have hk_11 : kS2 ≤ h11.size := Nat.le_trans hk_10 E11.1
  have hk11' : kS11 ≤ h11.size := hk11
  refine own_goW (T1 := T11) (g1 := (mkF m 210 #[.val (.int i0), .val (.int i1), .val (.int i2), .val (.int i3), .val (.int (Int32.ofNat cols.length)), .val (.int (Int32.ofNat pks.length)), .val (.int c0), .val (.int c1), .val (.int p0), .val (.int p1), .val (.ref dA), .val (.ref dZ), .val (.ref dP), .val (.ref b1), .val (.ref b4), .unset, .unset] [(.ref sa11), (.ref b10), (.ref b10)])) (fun t k => st11 t k) ?_
  refine own_goW (T1 := T11) (g1 := (mkF m 211 #[.val (.int i0), .val (.int i1), .val (.int i2), .val (.int i3), .val (.int (Int32.ofNat cols.length)), .val (.int (Int32.ofNat pks.length)), .val (.int c0), .val (.int c1), .val (.int p0), .val (.int p1), .val (.ref dA), .val (.ref dZ), .val (.ref dP), .val (.ref b1), .val (.ref b4), .unset, .unset] [(.int (0 : Int32)), (.ref sa11), (.ref b10), (.ref b10)])) (fun _ k => XS.iconst X11.here hx rfl (hb hby at_210) k) ?_
  refine own_goW (T1 := T11) (g1 := (mkF m 213 #[.val (.int i0), .val (.int i1), .val (.int i2), .val (.int i3), .val (.int (Int32.ofNat cols.length)), .val (.int (Int32.ofNat pks.length)), .val (.int c0), .val (.int c1), .val (.int p0), .val (.int p1), .val (.ref dA), .val (.ref dZ), .val (.ref dP), .val (.ref b1), .val (.ref b4), .unset, .unset] [(.ref dA), (.int (0 : Int32)), (.ref sa11), (.ref b10), (.ref b10)])) (fun _ k => XS.aload X11.here hx rfl (hb hby at_211) rfl rfl k) ?_
  refine own_goW (T1 := T11) (g1 := (mkF m 215 #[.val (.int i0), .val (.int i1), .val (.int i2), .val (.int i3), .val (.int (Int32.ofNat cols.length)), .val (.int (Int32.ofNat pks.length)), .val (.int c0), .val (.int c1), .val (.int p0), .val (.int p1), .val (.ref dA), .val (.ref dZ), .val (.ref dP), .val (.ref b1), .val (.ref b4), .unset, .unset] [(.ref dZ), (.ref dA), (.int (0 : Int32)), (.ref sa11), (.ref b10), (.ref b10)])) (fun _ k => XS.aload X11.here hx rfl (hb hby at_213) rfl rfl k) ?_
  refine own_goW (T1 := T11) (g1 := (mkF m 217 #[.val (.int i0), .val (.int i1), .val (.int i2), .val (.int i3), .val (.int (Int32.ofNat cols.length)), .val (.int (Int32.ofNat pks.length)), .val (.int c0), .val (.int c1), .val (.int p0), .val (.int p1), .val (.ref dA), .val (.ref dZ), .val (.ref dP), .val (.ref b1), .val (.ref b4), .unset, .unset] [(.ref dP), (.ref dZ), (.ref dA), (.int (0 : Int32)), (.ref sa11), (.ref b10), (.ref b10)])) (fun _ k => XS.aload X11.here hx rfl (hb hby at_215) rfl rfl k) ?_
  refine own_goW (T1 := T11) (g1 := (mkF m 219 #[.val (.int i0), .val (.int i1), .val (.int i2), .val (.int i3), .val (.int (Int32.ofNat cols.length)), .val (.int (Int32.ofNat pks.length)), .val (.int c0), .val (.int c1), .val (.int p0), .val (.int p1), .val (.ref dA), .val (.ref dZ), .val (.ref dP), .val (.ref b1), .val (.ref b4), .unset, .unset] [(.ref b4), (.ref dP), (.ref dZ), (.ref dA), (.int (0 : Int32)), (.ref sa11), (.ref b10), (.ref b10)])) (fun _ k => XS.aload X11.here hx rfl (hb hby at_217) rfl rfl k) ?_
  obtain ⟨_, _, ⟨T12, L12, k12, n12⟩, -, X12, ⟨Lc12, hQ12, l12, y12, z12⟩, st12⟩ := X11.specialBack hx (y := (⟨"com/example/sukima/sukima/catalog/Index", "<init>", "(Ljava/lang/String;Z[I[Z[ILjava/util/List;)V"⟩ : MethodName)) rfl ho11 (mvT hZ11 (hw _ (List.mem_of_getElem? (i := 99) rfl))) (mvT hZ11 (hw _ (List.mem_of_getElem? (i := 100) rfl))) (mvT hZ11 (hw _ (List.mem_of_getElem? (i := 101) rfl))) (by decide) (backOf (W := 1) (rmix l Z a0 hw [] b10 sa11 dA dZ dP b4 b6 b1 kd kz ke kb6 ((((0 + 1) + 1) + 1) + 1) cols.length cols pks vz h11 n0 Zs11 Eb10_11 ge_b10 Fname_b10_11 Funique_b10_11 Fcolumns_b10_11 FkeyColumns_b10_11 FkeyTypes_b10_11 Fdescending_b10_11 FprimaryKeyPlaces_b10_11 hc hp hc hrng Vc_11 Yc_11 Vz_11 Yz_11 Vp_11 ⟨Lx_11, Le_11, Ls_11, Lm_11, gl⟩ Vb_11 Eb1_11 Ct_11 ne_dA_b10 ne_dZ_b10 ne_dP_b10 ne_b4_b10 ne_b6_b10 ne_b1_b10) hZ11 (hw _ (List.mem_of_getElem? (i := 101) rfl)) (hw _ (List.mem_of_getElem? (i := 97) rfl)) (by decide) (by decide)) (g := (mkF m 219 #[.val (.int i0), .val (.int i1), .val (.int i2), .val (.int i3), .val (.int (Int32.ofNat cols.length)), .val (.int (Int32.ofNat pks.length)), .val (.int c0), .val (.int c1), .val (.int p0), .val (.int p1), .val (.ref dA), .val (.ref dZ), .val (.ref dP), .val (.ref b1), .val (.ref b4), .unset, .unset] [(.ref b4), (.ref dP), (.ref dZ), (.ref dA), (.int (0 : Int32)), (.ref sa11), (.ref b10), (.ref b10)])) rfl (by rw [hml]; rfl) (Steps.refl _) (a := b10) (argsL := [(.ref sa11), (.int (0 : Int32)), (.ref dA), (.ref dZ), (.ref dP), (.ref b4)]) (rest := [(.ref b10)]) (lenOf own_pd_LjavaxlangxStringxZAIAZAILjavaxutilxListx_V rfl) rfl (by show 2 * 0 + _ ≤ _; exact Nat.le_of_eq rfl) (hb hby at_219) (fun _ _ => ⟨rfl, e11, (by decide : 11 + 6 ≤ _), (by decide : 56 + 24 ≤ _)⟩)
  dsimp only [Pt.U, Pt.locs, Pt.cells, Pt.slots] at X12 l12 y12 z12 st12 hQ12
  subst l12 y12 z12
  obtain ⟨rfl, N12q, hgr12, kc, kk, Ei, Fk, Vk⟩ := hQ12
  have N12 := Fr.app N9 N12q
  refine own_goW (T1 := T12) (g1 := (mkF m 222 #[.val (.int i0), .val (.int i1), .val (.int i2), .val (.int i3), .val (.int (Int32.ofNat cols.length)), .val (.int (Int32.ofNat pks.length)), .val (.int c0), .val (.int c1), .val (.int p0), .val (.int p1), .val (.ref dA), .val (.ref dZ), .val (.ref dP), .val (.ref b1), .val (.ref b4), .unset, .unset] [(.ref b10)])) (fun t k => st12.trans k) ?_
  have hk_12 : kS11 ≤ T12.heap.size := Nat.le_trans hk11' hgr12
  have Zc12 : n0 ≤ T12.heap.size := Nat.le_of_lt (Nat.lt_of_le_of_lt ge_b10 Ei.lt)
  refine own_goW (T1 := T12) (g1 := (mkF m 224 #[.val (.int i0), .val (.int i1), .val (.int i2), .val (.int i3), .val (.int (Int32.ofNat cols.length)), .val (.int (Int32.ofNat pks.length)), .val (.int c0), .val (.int c1), .val (.int p0), .val (.int p1), .val (.ref dA), .val (.ref dZ), .val (.ref dP), .val (.ref b1), .val (.ref b4), .val (.ref b10), .unset] [])) (fun _ k => XS.astore X12.here hx rfl (hb hby at_222) rfl rfl (l' := #[.val (.int i0), .val (.int i1), .val (.int i2), .val (.int i3), .val (.int (Int32.ofNat cols.length)), .val (.int (Int32.ofNat pks.length)), .val (.int c0), .val (.int c1), .val (.int p0), .val (.int p1), .val (.ref dA), .val (.ref dZ), .val (.ref dP), .val (.ref b1), .val (.ref b4), .val (.ref b10), .unset]) rfl k) ?_
  refine own_goW (T1 := T12) (g1 := (mkF m 226 #[.val (.int i0), .val (.int i1), .val (.int i2), .val (.int i3), .val (.int (Int32.ofNat cols.length)), .val (.int (Int32.ofNat pks.length)), .val (.int c0), .val (.int c1), .val (.int p0), .val (.int p1), .val (.ref dA), .val (.ref dZ), .val (.ref dP), .val (.ref b1), .val (.ref b4), .val (.ref b10), .unset] [(.ref b10)])) (fun _ k => XS.aload X12.here hx rfl (hb hby at_224) rfl rfl k) ?_
  refine own_goW (T1 := T12) (g1 := (mkF m 227 #[.val (.int i0), .val (.int i1), .val (.int i2), .val (.int i3), .val (.int (Int32.ofNat cols.length)), .val (.int (Int32.ofNat pks.length)), .val (.int c0), .val (.int c1), .val (.int p0), .val (.int p1), .val (.ref dA), .val (.ref dZ), .val (.ref dP), .val (.ref b1), .val (.ref b4), .val (.ref b10), .unset] [(.int (0 : Int32)), (.ref b10)])) (fun _ k => XS.iconst X12.here hx rfl (hb hby at_226) k) ?_
  obtain ⟨cq13, kq13, q13a, q13b, q13c⟩ := isOf hZ11 rfl Ei
  obtain ⟨_, _, ⟨T13, L13, k13, n13⟩, -, X13, ⟨Lc13, hQ13, l13, y13, z13⟩, st13⟩ := X12.virtualBack hx (y := (⟨"com/example/sukima/sukima/catalog/Index", "placeOf", "(I)I"⟩ : MethodName)) (z := (⟨"com/example/sukima/sukima/catalog/Index", "placeOf", "(I)I"⟩ : MethodName)) ho11 (mvT hZ11 (hw _ (List.mem_of_getElem? (i := 146) rfl))) (mvT hZ11 (hw _ (List.mem_of_getElem? (i := 147) rfl))) (notFace_of_selects (args := #[]) (mvT hZ11 (hw _ (List.mem_of_getElem? (i := 149) rfl)))) (mvT hZ11 (hw _ (List.mem_of_getElem? (i := 149) rfl))) (mvT hZ11 (hw _ (List.mem_of_getElem? (i := 148) rfl))) (by decide) (backOf (W := 0) (rmpl l Z a0 hw [] b10 (0 : Int32) kc kk (cols ++ own_new cols pks) T12.heap n0 Zc12 (own_klen cols pks hc hp) Fk Vk) hZ11 (hw _ (List.mem_of_getElem? (i := 150) rfl)) (hw _ (List.mem_of_getElem? (i := 97) rfl)) (by decide) (by decide)) q13a q13c (g := (mkF m 227 #[.val (.int i0), .val (.int i1), .val (.int i2), .val (.int i3), .val (.int (Int32.ofNat cols.length)), .val (.int (Int32.ofNat pks.length)), .val (.int c0), .val (.int c1), .val (.int p0), .val (.int p1), .val (.ref dA), .val (.ref dZ), .val (.ref dP), .val (.ref b1), .val (.ref b4), .val (.ref b10), .unset] [(.int (0 : Int32)), (.ref b10)])) rfl (by rw [hml]; rfl) (Steps.refl _) (argsL := [(.int (0 : Int32))]) (rest := []) (lenOf own_pd_I_I rfl) rfl (by show 2 * 0 + _ ≤ _; exact Nat.le_of_eq rfl) (hb hby at_227) (fun _ _ => ⟨rfl, rfl, (by decide : 17 + 0 ≤ _), (by decide : 80 + 0 ≤ _)⟩)
  dsimp only [Pt.U, Pt.locs, Pt.cells, Pt.slots] at X13 l13 y13 z13 st13 hQ13
  subst l13 y13 z13
  obtain ⟨rfl, N13q, e13⟩ := hQ13
  have N13 := Fr.app N12 N13q
  refine own_goW (T1 := T13) (g1 := (mkF m 230 #[.val (.int i0), .val (.int i1), .val (.int i2), .val (.int i3), .val (.int (Int32.ofNat cols.length)), .val (.int (Int32.ofNat pks.length)), .val (.int c0), .val (.int c1), .val (.int p0), .val (.int p1), .val (.ref dA), .val (.ref dZ), .val (.ref dP), .val (.ref b1), .val (.ref b4), .val (.ref b10), .unset] [(.int (own_find (0 : Int32) (cols ++ own_new cols pks) 0))])) (fun t k => st13.trans k) ?_
  refine own_goW (T1 := T13) (g1 := (mkF m 231 #[.val (.int i0), .val (.int i1), .val (.int i2), .val (.int i3), .val (.int (Int32.ofNat cols.length)), .val (.int (Int32.ofNat pks.length)), .val (.int c0), .val (.int c1), .val (.int p0), .val (.int p1), .val (.ref dA), .val (.ref dZ), .val (.ref dP), .val (.ref b1), .val (.ref b4), .val (.ref b10), .unset] [(.int (0 : Int32)), (.int (own_find (0 : Int32) (cols ++ own_new cols pks) 0))])) (fun _ k => XS.iconst X13.here hx rfl (hb hby at_230) k) ?_
  refine own_goW (T1 := T13) (g1 := (mkF m 233 #[.val (.int i0), .val (.int i1), .val (.int i2), .val (.int i3), .val (.int (Int32.ofNat cols.length)), .val (.int (Int32.ofNat pks.length)), .val (.int c0), .val (.int c1), .val (.int p0), .val (.int p1), .val (.ref dA), .val (.ref dZ), .val (.ref dP), .val (.ref b1), .val (.ref b4), .val (.ref b10), .unset] [(.int (Int32.ofNat cols.length)), (.int (0 : Int32)), (.int (own_find (0 : Int32) (cols ++ own_new cols pks) 0))])) (fun _ k => XS.iload X13.here hx rfl (hb hby at_231) rfl k) ?_
  refine own_goW (T1 := T13) (g1 := (mkF m 235 #[.val (.int i0), .val (.int i1), .val (.int i2), .val (.int i3), .val (.int (Int32.ofNat cols.length)), .val (.int (Int32.ofNat pks.length)), .val (.int c0), .val (.int c1), .val (.int p0), .val (.int p1), .val (.ref dA), .val (.ref dZ), .val (.ref dP), .val (.ref b1), .val (.ref b4), .val (.ref b10), .unset] [(.int (Int32.ofNat pks.length)), (.int (Int32.ofNat cols.length)), (.int (0 : Int32)), (.int (own_find (0 : Int32) (cols ++ own_new cols pks) 0))])) (fun _ k => XS.iload X13.here hx rfl (hb hby at_233) rfl k) ?_
  refine own_goW (T1 := T13) (g1 := (mkF m 237 #[.val (.int i0), .val (.int i1), .val (.int i2), .val (.int i3), .val (.int (Int32.ofNat cols.length)), .val (.int (Int32.ofNat pks.length)), .val (.int c0), .val (.int c1), .val (.int p0), .val (.int p1), .val (.ref dA), .val (.ref dZ), .val (.ref dP), .val (.ref b1), .val (.ref b4), .val (.ref b10), .unset] [(.int c0), (.int (Int32.ofNat pks.length)), (.int (Int32.ofNat cols.length)), (.int (0 : Int32)), (.int (own_find (0 : Int32) (cols ++ own_new cols pks) 0))])) (fun _ k => XS.iload X13.here hx rfl (hb hby at_235) rfl k) ?_
  refine own_goW (T1 := T13) (g1 := (mkF m 239 #[.val (.int i0), .val (.int i1), .val (.int i2), .val (.int i3), .val (.int (Int32.ofNat cols.length)), .val (.int (Int32.ofNat pks.length)), .val (.int c0), .val (.int c1), .val (.int p0), .val (.int p1), .val (.ref dA), .val (.ref dZ), .val (.ref dP), .val (.ref b1), .val (.ref b4), .val (.ref b10), .unset] [(.int c1), (.int c0), (.int (Int32.ofNat pks.length)), (.int (Int32.ofNat cols.length)), (.int (0 : Int32)), (.int (own_find (0 : Int32) (cols ++ own_new cols pks) 0))])) (fun _ k => XS.iload X13.here hx rfl (hb hby at_237) rfl k) ?_
  refine own_goW (T1 := T13) (g1 := (mkF m 241 #[.val (.int i0), .val (.int i1), .val (.int i2), .val (.int i3), .val (.int (Int32.ofNat cols.length)), .val (.int (Int32.ofNat pks.length)), .val (.int c0), .val (.int c1), .val (.int p0), .val (.int p1), .val (.ref dA), .val (.ref dZ), .val (.ref dP), .val (.ref b1), .val (.ref b4), .val (.ref b10), .unset] [(.int p0), (.int c1), (.int c0), (.int (Int32.ofNat pks.length)), (.int (Int32.ofNat cols.length)), (.int (0 : Int32)), (.int (own_find (0 : Int32) (cols ++ own_new cols pks) 0))])) (fun _ k => XS.iload X13.here hx rfl (hb hby at_239) rfl k) ?_
  refine own_goW (T1 := T13) (g1 := (mkF m 243 #[.val (.int i0), .val (.int i1), .val (.int i2), .val (.int i3), .val (.int (Int32.ofNat cols.length)), .val (.int (Int32.ofNat pks.length)), .val (.int c0), .val (.int c1), .val (.int p0), .val (.int p1), .val (.ref dA), .val (.ref dZ), .val (.ref dP), .val (.ref b1), .val (.ref b4), .val (.ref b10), .unset] [(.int p1), (.int p0), (.int c1), (.int c0), (.int (Int32.ofNat pks.length)), (.int (Int32.ofNat cols.length)), (.int (0 : Int32)), (.int (own_find (0 : Int32) (cols ++ own_new cols pks) 0))])) (fun _ k => XS.iload X13.here hx rfl (hb hby at_241) rfl k) ?_
  obtain ⟨_, _, ⟨T14, L14, k14, n14⟩, -, X14, ⟨Lc14, hQ14, l14, y14, z14⟩, st14⟩ := Jvm.LawKit.callS X13 hx (y := (⟨"com/example/sukima/sukima/catalog/IndexPlaceOfPinLaw", "ref", "(IIIIIII)I"⟩ : MethodName)) ho11 (mvT hZ11 (hw _ (List.mem_of_getElem? (i := 151) rfl))) (mvT hZ11 (hw _ (List.mem_of_getElem? (i := 152) rfl))) (mvT hZ11 (hw _ (List.mem_of_getElem? (i := 153) rfl))) (mvT hZ11 (hw _ (List.mem_of_getElem? (i := 154) rfl))) (by decide) (backOf (W := 1) (rm9 l Z a0 hw [] (0 : Int32) (Int32.ofNat cols.length) (Int32.ofNat pks.length) c0 c1 p0 p1 T12.heap n0 Zc12) hZ11 (hw _ (List.mem_of_getElem? (i := 154) rfl)) (hw _ (List.mem_of_getElem? (i := 153) rfl)) (by decide) (by decide)) (g := (mkF m 243 #[.val (.int i0), .val (.int i1), .val (.int i2), .val (.int i3), .val (.int (Int32.ofNat cols.length)), .val (.int (Int32.ofNat pks.length)), .val (.int c0), .val (.int c1), .val (.int p0), .val (.int p1), .val (.ref dA), .val (.ref dZ), .val (.ref dP), .val (.ref b1), .val (.ref b4), .val (.ref b10), .unset] [(.int p1), (.int p0), (.int c1), (.int c0), (.int (Int32.ofNat pks.length)), (.int (Int32.ofNat cols.length)), (.int (0 : Int32)), (.int (own_find (0 : Int32) (cols ++ own_new cols pks) 0))])) rfl (by rw [hml]; rfl) (argsL := [(.int (0 : Int32)), (.int (Int32.ofNat cols.length)), (.int (Int32.ofNat pks.length)), (.int c0), (.int c1), (.int p0), (.int p1)]) (rest := [(.int (own_find (0 : Int32) (cols ++ own_new cols pks) 0))]) (lenOf own_pd_IIIIIII_I rfl) rfl (by show 2 * 0 + _ ≤ _; exact Nat.le_of_eq rfl) (hb hby at_243) (fun _ _ => ⟨rfl, e13, (by decide : 17 + 0 ≤ _), (by decide : 80 + 0 ≤ _)⟩)
  dsimp only [Pt.U, Pt.locs, Pt.cells, Pt.slots] at X14 l14 y14 z14 st14 hQ14
  subst l14 y14 z14
  obtain ⟨rfl, N14q, e14⟩ := hQ14
  have N14 := Fr.app N13 N14q
  refine own_goW (T1 := T14) (g1 := (mkF m 246 #[.val (.int i0), .val (.int i1), .val (.int i2), .val (.int i3), .val (.int (Int32.ofNat cols.length)), .val (.int (Int32.ofNat pks.length)), .val (.int c0), .val (.int c1), .val (.int p0), .val (.int p1), .val (.ref dA), .val (.ref dZ), .val (.ref dP), .val (.ref b1), .val (.ref b4), .val (.ref b10), .unset] [(.int (f9_0 (0 : Int32) (Int32.ofNat cols.length) (Int32.ofNat pks.length) c0 c1 p0 p1)), (.int (own_find (0 : Int32) (cols ++ own_new cols pks) 0))])) (fun t k => st14 t k) ?_
  refine own_goW (T1 := T14) (g1 := (mkF m 249 #[.val (.int i0), .val (.int i1), .val (.int i2), .val (.int i3), .val (.int (Int32.ofNat cols.length)), .val (.int (Int32.ofNat pks.length)), .val (.int c0), .val (.int c1), .val (.int p0), .val (.int p1), .val (.ref dA), .val (.ref dZ), .val (.ref dP), .val (.ref b1), .val (.ref b4), .val (.ref b10), .unset] [])) (fun _ k => XS.icmpNo X14.here hx rfl (hb hby at_246) rfl (teq (hpl _ : (own_find (0 : Int32) (cols ++ own_new cols pks) 0) = (f9_0 (0 : Int32) (Int32.ofNat cols.length) (Int32.ofNat pks.length) c0 c1 p0 p1))).2 k) ?_
  refine own_goW (T1 := T14) (g1 := (mkF m 251 #[.val (.int i0), .val (.int i1), .val (.int i2), .val (.int i3), .val (.int (Int32.ofNat cols.length)), .val (.int (Int32.ofNat pks.length)), .val (.int c0), .val (.int c1), .val (.int p0), .val (.int p1), .val (.ref dA), .val (.ref dZ), .val (.ref dP), .val (.ref b1), .val (.ref b4), .val (.ref b10), .unset] [(.ref b10)])) (fun _ k => XS.aload X14.here hx rfl (hb hby at_249) rfl rfl k) ?_
  refine own_goW (T1 := T14) (g1 := (mkF m 252 #[.val (.int i0), .val (.int i1), .val (.int i2), .val (.int i3), .val (.int (Int32.ofNat cols.length)), .val (.int (Int32.ofNat pks.length)), .val (.int c0), .val (.int c1), .val (.int p0), .val (.int p1), .val (.ref dA), .val (.ref dZ), .val (.ref dP), .val (.ref b1), .val (.ref b4), .val (.ref b10), .unset] [(.int (1 : Int32)), (.ref b10)])) (fun _ k => XS.iconst X14.here hx rfl (hb hby at_251) k) ?_
  obtain ⟨cq15, kq15, q15a, q15b, q15c⟩ := isOf hZ11 e14 Ei
  obtain ⟨_, _, ⟨T15, L15, k15, n15⟩, -, X15, ⟨Lc15, hQ15, l15, y15, z15⟩, st15⟩ := X14.virtualBack hx (y := (⟨"com/example/sukima/sukima/catalog/Index", "placeOf", "(I)I"⟩ : MethodName)) (z := (⟨"com/example/sukima/sukima/catalog/Index", "placeOf", "(I)I"⟩ : MethodName)) ho11 (mvT hZ11 (hw _ (List.mem_of_getElem? (i := 146) rfl))) (mvT hZ11 (hw _ (List.mem_of_getElem? (i := 147) rfl))) (notFace_of_selects (args := #[]) (mvT hZ11 (hw _ (List.mem_of_getElem? (i := 149) rfl)))) (mvT hZ11 (hw _ (List.mem_of_getElem? (i := 149) rfl))) (mvT hZ11 (hw _ (List.mem_of_getElem? (i := 148) rfl))) (by decide) (backOf (W := 0) (rmpl l Z a0 hw [] b10 (1 : Int32) kc kk (cols ++ own_new cols pks) T12.heap n0 Zc12 (own_klen cols pks hc hp) Fk Vk) hZ11 (hw _ (List.mem_of_getElem? (i := 150) rfl)) (hw _ (List.mem_of_getElem? (i := 97) rfl)) (by decide) (by decide)) q15a q15c (g := (mkF m 252 #[.val (.int i0), .val (.int i1), .val (.int i2), .val (.int i3), .val (.int (Int32.ofNat cols.length)), .val (.int (Int32.ofNat pks.length)), .val (.int c0), .val (.int c1), .val (.int p0), .val (.int p1), .val (.ref dA), .val (.ref dZ), .val (.ref dP), .val (.ref b1), .val (.ref b4), .val (.ref b10), .unset] [(.int (1 : Int32)), (.ref b10)])) rfl (by rw [hml]; rfl) (Steps.refl _) (argsL := [(.int (1 : Int32))]) (rest := []) (lenOf own_pd_I_I rfl) rfl (by show 2 * 0 + _ ≤ _; exact Nat.le_of_eq rfl) (hb hby at_252) (fun _ _ => ⟨rfl, e14, (by decide : 17 + 0 ≤ _), (by decide : 80 + 0 ≤ _)⟩)
  dsimp only [Pt.U, Pt.locs, Pt.cells, Pt.slots] at X15 l15 y15 z15 st15 hQ15
  subst l15 y15 z15
  obtain ⟨rfl, N15q, e15⟩ := hQ15
  have N15 := Fr.app N14 N15q
  refine own_goW (T1 := T15) (g1 := (mkF m 255 #[.val (.int i0), .val (.int i1), .val (.int i2), .val (.int i3), .val (.int (Int32.ofNat cols.length)), .val (.int (Int32.ofNat pks.length)), .val (.int c0), .val (.int c1), .val (.int p0), .val (.int p1), .val (.ref dA), .val (.ref dZ), .val (.ref dP), .val (.ref b1), .val (.ref b4), .val (.ref b10), .unset] [(.int (own_find (1 : Int32) (cols ++ own_new cols pks) 0))])) (fun t k => st15.trans k) ?_
  refine own_goW (T1 := T15) (g1 := (mkF m 256 #[.val (.int i0), .val (.int i1), .val (.int i2), .val (.int i3), .val (.int (Int32.ofNat cols.length)), .val (.int (Int32.ofNat pks.length)), .val (.int c0), .val (.int c1), .val (.int p0), .val (.int p1), .val (.ref dA), .val (.ref dZ), .val (.ref dP), .val (.ref b1), .val (.ref b4), .val (.ref b10), .unset] [(.int (1 : Int32)), (.int (own_find (1 : Int32) (cols ++ own_new cols pks) 0))])) (fun _ k => XS.iconst X15.here hx rfl (hb hby at_255) k) ?_
  refine own_goW (T1 := T15) (g1 := (mkF m 258 #[.val (.int i0), .val (.int i1), .val (.int i2), .val (.int i3), .val (.int (Int32.ofNat cols.length)), .val (.int (Int32.ofNat pks.length)), .val (.int c0), .val (.int c1), .val (.int p0), .val (.int p1), .val (.ref dA), .val (.ref dZ), .val (.ref dP), .val (.ref b1), .val (.ref b4), .val (.ref b10), .unset] [(.int (Int32.ofNat cols.length)), (.int (1 : Int32)), (.int (own_find (1 : Int32) (cols ++ own_new cols pks) 0))])) (fun _ k => XS.iload X15.here hx rfl (hb hby at_256) rfl k) ?_
  refine own_goW (T1 := T15) (g1 := (mkF m 260 #[.val (.int i0), .val (.int i1), .val (.int i2), .val (.int i3), .val (.int (Int32.ofNat cols.length)), .val (.int (Int32.ofNat pks.length)), .val (.int c0), .val (.int c1), .val (.int p0), .val (.int p1), .val (.ref dA), .val (.ref dZ), .val (.ref dP), .val (.ref b1), .val (.ref b4), .val (.ref b10), .unset] [(.int (Int32.ofNat pks.length)), (.int (Int32.ofNat cols.length)), (.int (1 : Int32)), (.int (own_find (1 : Int32) (cols ++ own_new cols pks) 0))])) (fun _ k => XS.iload X15.here hx rfl (hb hby at_258) rfl k) ?_
  refine own_goW (T1 := T15) (g1 := (mkF m 262 #[.val (.int i0), .val (.int i1), .val (.int i2), .val (.int i3), .val (.int (Int32.ofNat cols.length)), .val (.int (Int32.ofNat pks.length)), .val (.int c0), .val (.int c1), .val (.int p0), .val (.int p1), .val (.ref dA), .val (.ref dZ), .val (.ref dP), .val (.ref b1), .val (.ref b4), .val (.ref b10), .unset] [(.int c0), (.int (Int32.ofNat pks.length)), (.int (Int32.ofNat cols.length)), (.int (1 : Int32)), (.int (own_find (1 : Int32) (cols ++ own_new cols pks) 0))])) (fun _ k => XS.iload X15.here hx rfl (hb hby at_260) rfl k) ?_
  refine own_goW (T1 := T15) (g1 := (mkF m 264 #[.val (.int i0), .val (.int i1), .val (.int i2), .val (.int i3), .val (.int (Int32.ofNat cols.length)), .val (.int (Int32.ofNat pks.length)), .val (.int c0), .val (.int c1), .val (.int p0), .val (.int p1), .val (.ref dA), .val (.ref dZ), .val (.ref dP), .val (.ref b1), .val (.ref b4), .val (.ref b10), .unset] [(.int c1), (.int c0), (.int (Int32.ofNat pks.length)), (.int (Int32.ofNat cols.length)), (.int (1 : Int32)), (.int (own_find (1 : Int32) (cols ++ own_new cols pks) 0))])) (fun _ k => XS.iload X15.here hx rfl (hb hby at_262) rfl k) ?_
  refine own_goW (T1 := T15) (g1 := (mkF m 266 #[.val (.int i0), .val (.int i1), .val (.int i2), .val (.int i3), .val (.int (Int32.ofNat cols.length)), .val (.int (Int32.ofNat pks.length)), .val (.int c0), .val (.int c1), .val (.int p0), .val (.int p1), .val (.ref dA), .val (.ref dZ), .val (.ref dP), .val (.ref b1), .val (.ref b4), .val (.ref b10), .unset] [(.int p0), (.int c1), (.int c0), (.int (Int32.ofNat pks.length)), (.int (Int32.ofNat cols.length)), (.int (1 : Int32)), (.int (own_find (1 : Int32) (cols ++ own_new cols pks) 0))])) (fun _ k => XS.iload X15.here hx rfl (hb hby at_264) rfl k) ?_
  refine own_goW (T1 := T15) (g1 := (mkF m 268 #[.val (.int i0), .val (.int i1), .val (.int i2), .val (.int i3), .val (.int (Int32.ofNat cols.length)), .val (.int (Int32.ofNat pks.length)), .val (.int c0), .val (.int c1), .val (.int p0), .val (.int p1), .val (.ref dA), .val (.ref dZ), .val (.ref dP), .val (.ref b1), .val (.ref b4), .val (.ref b10), .unset] [(.int p1), (.int p0), (.int c1), (.int c0), (.int (Int32.ofNat pks.length)), (.int (Int32.ofNat cols.length)), (.int (1 : Int32)), (.int (own_find (1 : Int32) (cols ++ own_new cols pks) 0))])) (fun _ k => XS.iload X15.here hx rfl (hb hby at_266) rfl k) ?_
  obtain ⟨_, _, ⟨T16, L16, k16, n16⟩, -, X16, ⟨Lc16, hQ16, l16, y16, z16⟩, st16⟩ := Jvm.LawKit.callS X15 hx (y := (⟨"com/example/sukima/sukima/catalog/IndexPlaceOfPinLaw", "ref", "(IIIIIII)I"⟩ : MethodName)) ho11 (mvT hZ11 (hw _ (List.mem_of_getElem? (i := 151) rfl))) (mvT hZ11 (hw _ (List.mem_of_getElem? (i := 152) rfl))) (mvT hZ11 (hw _ (List.mem_of_getElem? (i := 153) rfl))) (mvT hZ11 (hw _ (List.mem_of_getElem? (i := 154) rfl))) (by decide) (backOf (W := 1) (rm9 l Z a0 hw [] (1 : Int32) (Int32.ofNat cols.length) (Int32.ofNat pks.length) c0 c1 p0 p1 T12.heap n0 Zc12) hZ11 (hw _ (List.mem_of_getElem? (i := 154) rfl)) (hw _ (List.mem_of_getElem? (i := 153) rfl)) (by decide) (by decide)) (g := (mkF m 268 #[.val (.int i0), .val (.int i1), .val (.int i2), .val (.int i3), .val (.int (Int32.ofNat cols.length)), .val (.int (Int32.ofNat pks.length)), .val (.int c0), .val (.int c1), .val (.int p0), .val (.int p1), .val (.ref dA), .val (.ref dZ), .val (.ref dP), .val (.ref b1), .val (.ref b4), .val (.ref b10), .unset] [(.int p1), (.int p0), (.int c1), (.int c0), (.int (Int32.ofNat pks.length)), (.int (Int32.ofNat cols.length)), (.int (1 : Int32)), (.int (own_find (1 : Int32) (cols ++ own_new cols pks) 0))])) rfl (by rw [hml]; rfl) (argsL := [(.int (1 : Int32)), (.int (Int32.ofNat cols.length)), (.int (Int32.ofNat pks.length)), (.int c0), (.int c1), (.int p0), (.int p1)]) (rest := [(.int (own_find (1 : Int32) (cols ++ own_new cols pks) 0))]) (lenOf own_pd_IIIIIII_I rfl) rfl (by show 2 * 0 + _ ≤ _; exact Nat.le_of_eq rfl) (hb hby at_268) (fun _ _ => ⟨rfl, e15, (by decide : 17 + 0 ≤ _), (by decide : 80 + 0 ≤ _)⟩)
  dsimp only [Pt.U, Pt.locs, Pt.cells, Pt.slots] at X16 l16 y16 z16 st16 hQ16
  subst l16 y16 z16
  obtain ⟨rfl, N16q, e16⟩ := hQ16
  have N16 := Fr.app N15 N16q
  refine own_goW (T1 := T16) (g1 := (mkF m 271 #[.val (.int i0), .val (.int i1), .val (.int i2), .val (.int i3), .val (.int (Int32.ofNat cols.length)), .val (.int (Int32.ofNat pks.length)), .val (.int c0), .val (.int c1), .val (.int p0), .val (.int p1), .val (.ref dA), .val (.ref dZ), .val (.ref dP), .val (.ref b1), .val (.ref b4), .val (.ref b10), .unset] [(.int (f9_0 (1 : Int32) (Int32.ofNat cols.length) (Int32.ofNat pks.length) c0 c1 p0 p1)), (.int (own_find (1 : Int32) (cols ++ own_new cols pks) 0))])) (fun t k => st16 t k) ?_
  refine own_goW (T1 := T16) (g1 := (mkF m 274 #[.val (.int i0), .val (.int i1), .val (.int i2), .val (.int i3), .val (.int (Int32.ofNat cols.length)), .val (.int (Int32.ofNat pks.length)), .val (.int c0), .val (.int c1), .val (.int p0), .val (.int p1), .val (.ref dA), .val (.ref dZ), .val (.ref dP), .val (.ref b1), .val (.ref b4), .val (.ref b10), .unset] [])) (fun _ k => XS.icmpNo X16.here hx rfl (hb hby at_271) rfl (teq (hpl _ : (own_find (1 : Int32) (cols ++ own_new cols pks) 0) = (f9_0 (1 : Int32) (Int32.ofNat cols.length) (Int32.ofNat pks.length) c0 c1 p0 p1))).2 k) ?_
  refine own_goW (T1 := T16) (g1 := (mkF m 276 #[.val (.int i0), .val (.int i1), .val (.int i2), .val (.int i3), .val (.int (Int32.ofNat cols.length)), .val (.int (Int32.ofNat pks.length)), .val (.int c0), .val (.int c1), .val (.int p0), .val (.int p1), .val (.ref dA), .val (.ref dZ), .val (.ref dP), .val (.ref b1), .val (.ref b4), .val (.ref b10), .unset] [(.ref b10)])) (fun _ k => XS.aload X16.here hx rfl (hb hby at_274) rfl rfl k) ?_
  refine own_goW (T1 := T16) (g1 := (mkF m 277 #[.val (.int i0), .val (.int i1), .val (.int i2), .val (.int i3), .val (.int (Int32.ofNat cols.length)), .val (.int (Int32.ofNat pks.length)), .val (.int c0), .val (.int c1), .val (.int p0), .val (.int p1), .val (.ref dA), .val (.ref dZ), .val (.ref dP), .val (.ref b1), .val (.ref b4), .val (.ref b10), .unset] [(.int (2 : Int32)), (.ref b10)])) (fun _ k => XS.iconst X16.here hx rfl (hb hby at_276) k) ?_
  obtain ⟨cq17, kq17, q17a, q17b, q17c⟩ := isOf hZ11 e16 Ei
  obtain ⟨_, _, ⟨T17, L17, k17, n17⟩, -, X17, ⟨Lc17, hQ17, l17, y17, z17⟩, st17⟩ := X16.virtualBack hx (y := (⟨"com/example/sukima/sukima/catalog/Index", "placeOf", "(I)I"⟩ : MethodName)) (z := (⟨"com/example/sukima/sukima/catalog/Index", "placeOf", "(I)I"⟩ : MethodName)) ho11 (mvT hZ11 (hw _ (List.mem_of_getElem? (i := 146) rfl))) (mvT hZ11 (hw _ (List.mem_of_getElem? (i := 147) rfl))) (notFace_of_selects (args := #[]) (mvT hZ11 (hw _ (List.mem_of_getElem? (i := 149) rfl)))) (mvT hZ11 (hw _ (List.mem_of_getElem? (i := 149) rfl))) (mvT hZ11 (hw _ (List.mem_of_getElem? (i := 148) rfl))) (by decide) (backOf (W := 0) (rmpl l Z a0 hw [] b10 (2 : Int32) kc kk (cols ++ own_new cols pks) T12.heap n0 Zc12 (own_klen cols pks hc hp) Fk Vk) hZ11 (hw _ (List.mem_of_getElem? (i := 150) rfl)) (hw _ (List.mem_of_getElem? (i := 97) rfl)) (by decide) (by decide)) q17a q17c (g := (mkF m 277 #[.val (.int i0), .val (.int i1), .val (.int i2), .val (.int i3), .val (.int (Int32.ofNat cols.length)), .val (.int (Int32.ofNat pks.length)), .val (.int c0), .val (.int c1), .val (.int p0), .val (.int p1), .val (.ref dA), .val (.ref dZ), .val (.ref dP), .val (.ref b1), .val (.ref b4), .val (.ref b10), .unset] [(.int (2 : Int32)), (.ref b10)])) rfl (by rw [hml]; rfl) (Steps.refl _) (argsL := [(.int (2 : Int32))]) (rest := []) (lenOf own_pd_I_I rfl) rfl (by show 2 * 0 + _ ≤ _; exact Nat.le_of_eq rfl) (hb hby at_277) (fun _ _ => ⟨rfl, e16, (by decide : 17 + 0 ≤ _), (by decide : 80 + 0 ≤ _)⟩)
  dsimp only [Pt.U, Pt.locs, Pt.cells, Pt.slots] at X17 l17 y17 z17 st17 hQ17
  subst l17 y17 z17
  obtain ⟨rfl, N17q, e17⟩ := hQ17
  have N17 := Fr.app N16 N17q
  refine own_goW (T1 := T17) (g1 := (mkF m 280 #[.val (.int i0), .val (.int i1), .val (.int i2), .val (.int i3), .val (.int (Int32.ofNat cols.length)), .val (.int (Int32.ofNat pks.length)), .val (.int c0), .val (.int c1), .val (.int p0), .val (.int p1), .val (.ref dA), .val (.ref dZ), .val (.ref dP), .val (.ref b1), .val (.ref b4), .val (.ref b10), .unset] [(.int (own_find (2 : Int32) (cols ++ own_new cols pks) 0))])) (fun t k => st17.trans k) ?_
  refine own_goW (T1 := T17) (g1 := (mkF m 281 #[.val (.int i0), .val (.int i1), .val (.int i2), .val (.int i3), .val (.int (Int32.ofNat cols.length)), .val (.int (Int32.ofNat pks.length)), .val (.int c0), .val (.int c1), .val (.int p0), .val (.int p1), .val (.ref dA), .val (.ref dZ), .val (.ref dP), .val (.ref b1), .val (.ref b4), .val (.ref b10), .unset] [(.int (2 : Int32)), (.int (own_find (2 : Int32) (cols ++ own_new cols pks) 0))])) (fun _ k => XS.iconst X17.here hx rfl (hb hby at_280) k) ?_
  refine own_goW (T1 := T17) (g1 := (mkF m 283 #[.val (.int i0), .val (.int i1), .val (.int i2), .val (.int i3), .val (.int (Int32.ofNat cols.length)), .val (.int (Int32.ofNat pks.length)), .val (.int c0), .val (.int c1), .val (.int p0), .val (.int p1), .val (.ref dA), .val (.ref dZ), .val (.ref dP), .val (.ref b1), .val (.ref b4), .val (.ref b10), .unset] [(.int (Int32.ofNat cols.length)), (.int (2 : Int32)), (.int (own_find (2 : Int32) (cols ++ own_new cols pks) 0))])) (fun _ k => XS.iload X17.here hx rfl (hb hby at_281) rfl k) ?_
  refine own_goW (T1 := T17) (g1 := (mkF m 285 #[.val (.int i0), .val (.int i1), .val (.int i2), .val (.int i3), .val (.int (Int32.ofNat cols.length)), .val (.int (Int32.ofNat pks.length)), .val (.int c0), .val (.int c1), .val (.int p0), .val (.int p1), .val (.ref dA), .val (.ref dZ), .val (.ref dP), .val (.ref b1), .val (.ref b4), .val (.ref b10), .unset] [(.int (Int32.ofNat pks.length)), (.int (Int32.ofNat cols.length)), (.int (2 : Int32)), (.int (own_find (2 : Int32) (cols ++ own_new cols pks) 0))])) (fun _ k => XS.iload X17.here hx rfl (hb hby at_283) rfl k) ?_
  refine own_goW (T1 := T17) (g1 := (mkF m 287 #[.val (.int i0), .val (.int i1), .val (.int i2), .val (.int i3), .val (.int (Int32.ofNat cols.length)), .val (.int (Int32.ofNat pks.length)), .val (.int c0), .val (.int c1), .val (.int p0), .val (.int p1), .val (.ref dA), .val (.ref dZ), .val (.ref dP), .val (.ref b1), .val (.ref b4), .val (.ref b10), .unset] [(.int c0), (.int (Int32.ofNat pks.length)), (.int (Int32.ofNat cols.length)), (.int (2 : Int32)), (.int (own_find (2 : Int32) (cols ++ own_new cols pks) 0))])) (fun _ k => XS.iload X17.here hx rfl (hb hby at_285) rfl k) ?_
  refine own_goW (T1 := T17) (g1 := (mkF m 289 #[.val (.int i0), .val (.int i1), .val (.int i2), .val (.int i3), .val (.int (Int32.ofNat cols.length)), .val (.int (Int32.ofNat pks.length)), .val (.int c0), .val (.int c1), .val (.int p0), .val (.int p1), .val (.ref dA), .val (.ref dZ), .val (.ref dP), .val (.ref b1), .val (.ref b4), .val (.ref b10), .unset] [(.int c1), (.int c0), (.int (Int32.ofNat pks.length)), (.int (Int32.ofNat cols.length)), (.int (2 : Int32)), (.int (own_find (2 : Int32) (cols ++ own_new cols pks) 0))])) (fun _ k => XS.iload X17.here hx rfl (hb hby at_287) rfl k) ?_
  refine own_goW (T1 := T17) (g1 := (mkF m 291 #[.val (.int i0), .val (.int i1), .val (.int i2), .val (.int i3), .val (.int (Int32.ofNat cols.length)), .val (.int (Int32.ofNat pks.length)), .val (.int c0), .val (.int c1), .val (.int p0), .val (.int p1), .val (.ref dA), .val (.ref dZ), .val (.ref dP), .val (.ref b1), .val (.ref b4), .val (.ref b10), .unset] [(.int p0), (.int c1), (.int c0), (.int (Int32.ofNat pks.length)), (.int (Int32.ofNat cols.length)), (.int (2 : Int32)), (.int (own_find (2 : Int32) (cols ++ own_new cols pks) 0))])) (fun _ k => XS.iload X17.here hx rfl (hb hby at_289) rfl k) ?_
  refine own_goW (T1 := T17) (g1 := (mkF m 293 #[.val (.int i0), .val (.int i1), .val (.int i2), .val (.int i3), .val (.int (Int32.ofNat cols.length)), .val (.int (Int32.ofNat pks.length)), .val (.int c0), .val (.int c1), .val (.int p0), .val (.int p1), .val (.ref dA), .val (.ref dZ), .val (.ref dP), .val (.ref b1), .val (.ref b4), .val (.ref b10), .unset] [(.int p1), (.int p0), (.int c1), (.int c0), (.int (Int32.ofNat pks.length)), (.int (Int32.ofNat cols.length)), (.int (2 : Int32)), (.int (own_find (2 : Int32) (cols ++ own_new cols pks) 0))])) (fun _ k => XS.iload X17.here hx rfl (hb hby at_291) rfl k) ?_
  obtain ⟨_, _, ⟨T18, L18, k18, n18⟩, -, X18, ⟨Lc18, hQ18, l18, y18, z18⟩, st18⟩ := Jvm.LawKit.callS X17 hx (y := (⟨"com/example/sukima/sukima/catalog/IndexPlaceOfPinLaw", "ref", "(IIIIIII)I"⟩ : MethodName)) ho11 (mvT hZ11 (hw _ (List.mem_of_getElem? (i := 151) rfl))) (mvT hZ11 (hw _ (List.mem_of_getElem? (i := 152) rfl))) (mvT hZ11 (hw _ (List.mem_of_getElem? (i := 153) rfl))) (mvT hZ11 (hw _ (List.mem_of_getElem? (i := 154) rfl))) (by decide) (backOf (W := 1) (rm9 l Z a0 hw [] (2 : Int32) (Int32.ofNat cols.length) (Int32.ofNat pks.length) c0 c1 p0 p1 T12.heap n0 Zc12) hZ11 (hw _ (List.mem_of_getElem? (i := 154) rfl)) (hw _ (List.mem_of_getElem? (i := 153) rfl)) (by decide) (by decide)) (g := (mkF m 293 #[.val (.int i0), .val (.int i1), .val (.int i2), .val (.int i3), .val (.int (Int32.ofNat cols.length)), .val (.int (Int32.ofNat pks.length)), .val (.int c0), .val (.int c1), .val (.int p0), .val (.int p1), .val (.ref dA), .val (.ref dZ), .val (.ref dP), .val (.ref b1), .val (.ref b4), .val (.ref b10), .unset] [(.int p1), (.int p0), (.int c1), (.int c0), (.int (Int32.ofNat pks.length)), (.int (Int32.ofNat cols.length)), (.int (2 : Int32)), (.int (own_find (2 : Int32) (cols ++ own_new cols pks) 0))])) rfl (by rw [hml]; rfl) (argsL := [(.int (2 : Int32)), (.int (Int32.ofNat cols.length)), (.int (Int32.ofNat pks.length)), (.int c0), (.int c1), (.int p0), (.int p1)]) (rest := [(.int (own_find (2 : Int32) (cols ++ own_new cols pks) 0))]) (lenOf own_pd_IIIIIII_I rfl) rfl (by show 2 * 0 + _ ≤ _; exact Nat.le_of_eq rfl) (hb hby at_293) (fun _ _ => ⟨rfl, e17, (by decide : 17 + 0 ≤ _), (by decide : 80 + 0 ≤ _)⟩)
  dsimp only [Pt.U, Pt.locs, Pt.cells, Pt.slots] at X18 l18 y18 z18 st18 hQ18
  subst l18 y18 z18
  obtain ⟨rfl, N18q, e18⟩ := hQ18
  have N18 := Fr.app N17 N18q
  refine own_goW (T1 := T18) (g1 := (mkF m 296 #[.val (.int i0), .val (.int i1), .val (.int i2), .val (.int i3), .val (.int (Int32.ofNat cols.length)), .val (.int (Int32.ofNat pks.length)), .val (.int c0), .val (.int c1), .val (.int p0), .val (.int p1), .val (.ref dA), .val (.ref dZ), .val (.ref dP), .val (.ref b1), .val (.ref b4), .val (.ref b10), .unset] [(.int (f9_0 (2 : Int32) (Int32.ofNat cols.length) (Int32.ofNat pks.length) c0 c1 p0 p1)), (.int (own_find (2 : Int32) (cols ++ own_new cols pks) 0))])) (fun t k => st18 t k) ?_
  refine own_goW (T1 := T18) (g1 := (mkF m 299 #[.val (.int i0), .val (.int i1), .val (.int i2), .val (.int i3), .val (.int (Int32.ofNat cols.length)), .val (.int (Int32.ofNat pks.length)), .val (.int c0), .val (.int c1), .val (.int p0), .val (.int p1), .val (.ref dA), .val (.ref dZ), .val (.ref dP), .val (.ref b1), .val (.ref b4), .val (.ref b10), .unset] [])) (fun _ k => XS.icmpNo X18.here hx rfl (hb hby at_296) rfl (teq (hpl _ : (own_find (2 : Int32) (cols ++ own_new cols pks) 0) = (f9_0 (2 : Int32) (Int32.ofNat cols.length) (Int32.ofNat pks.length) c0 c1 p0 p1))).2 k) ?_
  refine own_goW (T1 := T18) (g1 := (mkF m 301 #[.val (.int i0), .val (.int i1), .val (.int i2), .val (.int i3), .val (.int (Int32.ofNat cols.length)), .val (.int (Int32.ofNat pks.length)), .val (.int c0), .val (.int c1), .val (.int p0), .val (.int p1), .val (.ref dA), .val (.ref dZ), .val (.ref dP), .val (.ref b1), .val (.ref b4), .val (.ref b10), .unset] [(.ref b10)])) (fun _ k => XS.aload X18.here hx rfl (hb hby at_299) rfl rfl k) ?_
  refine own_goW (T1 := T18) (g1 := (mkF m 302 #[.val (.int i0), .val (.int i1), .val (.int i2), .val (.int i3), .val (.int (Int32.ofNat cols.length)), .val (.int (Int32.ofNat pks.length)), .val (.int c0), .val (.int c1), .val (.int p0), .val (.int p1), .val (.ref dA), .val (.ref dZ), .val (.ref dP), .val (.ref b1), .val (.ref b4), .val (.ref b10), .unset] [(.int (3 : Int32)), (.ref b10)])) (fun _ k => XS.iconst X18.here hx rfl (hb hby at_301) k) ?_
  obtain ⟨cq19, kq19, q19a, q19b, q19c⟩ := isOf hZ11 e18 Ei
  obtain ⟨_, _, ⟨T19, L19, k19, n19⟩, -, X19, ⟨Lc19, hQ19, l19, y19, z19⟩, st19⟩ := X18.virtualBack hx (y := (⟨"com/example/sukima/sukima/catalog/Index", "placeOf", "(I)I"⟩ : MethodName)) (z := (⟨"com/example/sukima/sukima/catalog/Index", "placeOf", "(I)I"⟩ : MethodName)) ho11 (mvT hZ11 (hw _ (List.mem_of_getElem? (i := 146) rfl))) (mvT hZ11 (hw _ (List.mem_of_getElem? (i := 147) rfl))) (notFace_of_selects (args := #[]) (mvT hZ11 (hw _ (List.mem_of_getElem? (i := 149) rfl)))) (mvT hZ11 (hw _ (List.mem_of_getElem? (i := 149) rfl))) (mvT hZ11 (hw _ (List.mem_of_getElem? (i := 148) rfl))) (by decide) (backOf (W := 0) (rmpl l Z a0 hw [] b10 (3 : Int32) kc kk (cols ++ own_new cols pks) T12.heap n0 Zc12 (own_klen cols pks hc hp) Fk Vk) hZ11 (hw _ (List.mem_of_getElem? (i := 150) rfl)) (hw _ (List.mem_of_getElem? (i := 97) rfl)) (by decide) (by decide)) q19a q19c (g := (mkF m 302 #[.val (.int i0), .val (.int i1), .val (.int i2), .val (.int i3), .val (.int (Int32.ofNat cols.length)), .val (.int (Int32.ofNat pks.length)), .val (.int c0), .val (.int c1), .val (.int p0), .val (.int p1), .val (.ref dA), .val (.ref dZ), .val (.ref dP), .val (.ref b1), .val (.ref b4), .val (.ref b10), .unset] [(.int (3 : Int32)), (.ref b10)])) rfl (by rw [hml]; rfl) (Steps.refl _) (argsL := [(.int (3 : Int32))]) (rest := []) (lenOf own_pd_I_I rfl) rfl (by show 2 * 0 + _ ≤ _; exact Nat.le_of_eq rfl) (hb hby at_302) (fun _ _ => ⟨rfl, e18, (by decide : 17 + 0 ≤ _), (by decide : 80 + 0 ≤ _)⟩)
  dsimp only [Pt.U, Pt.locs, Pt.cells, Pt.slots] at X19 l19 y19 z19 st19 hQ19
  subst l19 y19 z19
  obtain ⟨rfl, N19q, e19⟩ := hQ19
  have N19 := Fr.app N18 N19q
  refine own_goW (T1 := T19) (g1 := (mkF m 305 #[.val (.int i0), .val (.int i1), .val (.int i2), .val (.int i3), .val (.int (Int32.ofNat cols.length)), .val (.int (Int32.ofNat pks.length)), .val (.int c0), .val (.int c1), .val (.int p0), .val (.int p1), .val (.ref dA), .val (.ref dZ), .val (.ref dP), .val (.ref b1), .val (.ref b4), .val (.ref b10), .unset] [(.int (own_find (3 : Int32) (cols ++ own_new cols pks) 0))])) (fun t k => st19.trans k) ?_
  refine own_goW (T1 := T19) (g1 := (mkF m 306 #[.val (.int i0), .val (.int i1), .val (.int i2), .val (.int i3), .val (.int (Int32.ofNat cols.length)), .val (.int (Int32.ofNat pks.length)), .val (.int c0), .val (.int c1), .val (.int p0), .val (.int p1), .val (.ref dA), .val (.ref dZ), .val (.ref dP), .val (.ref b1), .val (.ref b4), .val (.ref b10), .unset] [(.int (3 : Int32)), (.int (own_find (3 : Int32) (cols ++ own_new cols pks) 0))])) (fun _ k => XS.iconst X19.here hx rfl (hb hby at_305) k) ?_
  refine own_goW (T1 := T19) (g1 := (mkF m 308 #[.val (.int i0), .val (.int i1), .val (.int i2), .val (.int i3), .val (.int (Int32.ofNat cols.length)), .val (.int (Int32.ofNat pks.length)), .val (.int c0), .val (.int c1), .val (.int p0), .val (.int p1), .val (.ref dA), .val (.ref dZ), .val (.ref dP), .val (.ref b1), .val (.ref b4), .val (.ref b10), .unset] [(.int (Int32.ofNat cols.length)), (.int (3 : Int32)), (.int (own_find (3 : Int32) (cols ++ own_new cols pks) 0))])) (fun _ k => XS.iload X19.here hx rfl (hb hby at_306) rfl k) ?_
  refine own_goW (T1 := T19) (g1 := (mkF m 310 #[.val (.int i0), .val (.int i1), .val (.int i2), .val (.int i3), .val (.int (Int32.ofNat cols.length)), .val (.int (Int32.ofNat pks.length)), .val (.int c0), .val (.int c1), .val (.int p0), .val (.int p1), .val (.ref dA), .val (.ref dZ), .val (.ref dP), .val (.ref b1), .val (.ref b4), .val (.ref b10), .unset] [(.int (Int32.ofNat pks.length)), (.int (Int32.ofNat cols.length)), (.int (3 : Int32)), (.int (own_find (3 : Int32) (cols ++ own_new cols pks) 0))])) (fun _ k => XS.iload X19.here hx rfl (hb hby at_308) rfl k) ?_
  refine own_goW (T1 := T19) (g1 := (mkF m 312 #[.val (.int i0), .val (.int i1), .val (.int i2), .val (.int i3), .val (.int (Int32.ofNat cols.length)), .val (.int (Int32.ofNat pks.length)), .val (.int c0), .val (.int c1), .val (.int p0), .val (.int p1), .val (.ref dA), .val (.ref dZ), .val (.ref dP), .val (.ref b1), .val (.ref b4), .val (.ref b10), .unset] [(.int c0), (.int (Int32.ofNat pks.length)), (.int (Int32.ofNat cols.length)), (.int (3 : Int32)), (.int (own_find (3 : Int32) (cols ++ own_new cols pks) 0))])) (fun _ k => XS.iload X19.here hx rfl (hb hby at_310) rfl k) ?_
  refine own_goW (T1 := T19) (g1 := (mkF m 314 #[.val (.int i0), .val (.int i1), .val (.int i2), .val (.int i3), .val (.int (Int32.ofNat cols.length)), .val (.int (Int32.ofNat pks.length)), .val (.int c0), .val (.int c1), .val (.int p0), .val (.int p1), .val (.ref dA), .val (.ref dZ), .val (.ref dP), .val (.ref b1), .val (.ref b4), .val (.ref b10), .unset] [(.int c1), (.int c0), (.int (Int32.ofNat pks.length)), (.int (Int32.ofNat cols.length)), (.int (3 : Int32)), (.int (own_find (3 : Int32) (cols ++ own_new cols pks) 0))])) (fun _ k => XS.iload X19.here hx rfl (hb hby at_312) rfl k) ?_
  refine own_goW (T1 := T19) (g1 := (mkF m 316 #[.val (.int i0), .val (.int i1), .val (.int i2), .val (.int i3), .val (.int (Int32.ofNat cols.length)), .val (.int (Int32.ofNat pks.length)), .val (.int c0), .val (.int c1), .val (.int p0), .val (.int p1), .val (.ref dA), .val (.ref dZ), .val (.ref dP), .val (.ref b1), .val (.ref b4), .val (.ref b10), .unset] [(.int p0), (.int c1), (.int c0), (.int (Int32.ofNat pks.length)), (.int (Int32.ofNat cols.length)), (.int (3 : Int32)), (.int (own_find (3 : Int32) (cols ++ own_new cols pks) 0))])) (fun _ k => XS.iload X19.here hx rfl (hb hby at_314) rfl k) ?_
  refine own_goW (T1 := T19) (g1 := (mkF m 318 #[.val (.int i0), .val (.int i1), .val (.int i2), .val (.int i3), .val (.int (Int32.ofNat cols.length)), .val (.int (Int32.ofNat pks.length)), .val (.int c0), .val (.int c1), .val (.int p0), .val (.int p1), .val (.ref dA), .val (.ref dZ), .val (.ref dP), .val (.ref b1), .val (.ref b4), .val (.ref b10), .unset] [(.int p1), (.int p0), (.int c1), (.int c0), (.int (Int32.ofNat pks.length)), (.int (Int32.ofNat cols.length)), (.int (3 : Int32)), (.int (own_find (3 : Int32) (cols ++ own_new cols pks) 0))])) (fun _ k => XS.iload X19.here hx rfl (hb hby at_316) rfl k) ?_
  obtain ⟨_, _, ⟨T20, L20, k20, n20⟩, -, X20, ⟨Lc20, hQ20, l20, y20, z20⟩, st20⟩ := Jvm.LawKit.callS X19 hx (y := (⟨"com/example/sukima/sukima/catalog/IndexPlaceOfPinLaw", "ref", "(IIIIIII)I"⟩ : MethodName)) ho11 (mvT hZ11 (hw _ (List.mem_of_getElem? (i := 151) rfl))) (mvT hZ11 (hw _ (List.mem_of_getElem? (i := 152) rfl))) (mvT hZ11 (hw _ (List.mem_of_getElem? (i := 153) rfl))) (mvT hZ11 (hw _ (List.mem_of_getElem? (i := 154) rfl))) (by decide) (backOf (W := 1) (rm9 l Z a0 hw [] (3 : Int32) (Int32.ofNat cols.length) (Int32.ofNat pks.length) c0 c1 p0 p1 T12.heap n0 Zc12) hZ11 (hw _ (List.mem_of_getElem? (i := 154) rfl)) (hw _ (List.mem_of_getElem? (i := 153) rfl)) (by decide) (by decide)) (g := (mkF m 318 #[.val (.int i0), .val (.int i1), .val (.int i2), .val (.int i3), .val (.int (Int32.ofNat cols.length)), .val (.int (Int32.ofNat pks.length)), .val (.int c0), .val (.int c1), .val (.int p0), .val (.int p1), .val (.ref dA), .val (.ref dZ), .val (.ref dP), .val (.ref b1), .val (.ref b4), .val (.ref b10), .unset] [(.int p1), (.int p0), (.int c1), (.int c0), (.int (Int32.ofNat pks.length)), (.int (Int32.ofNat cols.length)), (.int (3 : Int32)), (.int (own_find (3 : Int32) (cols ++ own_new cols pks) 0))])) rfl (by rw [hml]; rfl) (argsL := [(.int (3 : Int32)), (.int (Int32.ofNat cols.length)), (.int (Int32.ofNat pks.length)), (.int c0), (.int c1), (.int p0), (.int p1)]) (rest := [(.int (own_find (3 : Int32) (cols ++ own_new cols pks) 0))]) (lenOf own_pd_IIIIIII_I rfl) rfl (by show 2 * 0 + _ ≤ _; exact Nat.le_of_eq rfl) (hb hby at_318) (fun _ _ => ⟨rfl, e19, (by decide : 17 + 0 ≤ _), (by decide : 80 + 0 ≤ _)⟩)
  dsimp only [Pt.U, Pt.locs, Pt.cells, Pt.slots] at X20 l20 y20 z20 st20 hQ20
  subst l20 y20 z20
  obtain ⟨rfl, N20q, e20⟩ := hQ20
  have N20 := Fr.app N19 N20q
  refine own_goW (T1 := T20) (g1 := (mkF m 321 #[.val (.int i0), .val (.int i1), .val (.int i2), .val (.int i3), .val (.int (Int32.ofNat cols.length)), .val (.int (Int32.ofNat pks.length)), .val (.int c0), .val (.int c1), .val (.int p0), .val (.int p1), .val (.ref dA), .val (.ref dZ), .val (.ref dP), .val (.ref b1), .val (.ref b4), .val (.ref b10), .unset] [(.int (f9_0 (3 : Int32) (Int32.ofNat cols.length) (Int32.ofNat pks.length) c0 c1 p0 p1)), (.int (own_find (3 : Int32) (cols ++ own_new cols pks) 0))])) (fun t k => st20 t k) ?_
  refine own_goW (T1 := T20) (g1 := (mkF m 324 #[.val (.int i0), .val (.int i1), .val (.int i2), .val (.int i3), .val (.int (Int32.ofNat cols.length)), .val (.int (Int32.ofNat pks.length)), .val (.int c0), .val (.int c1), .val (.int p0), .val (.int p1), .val (.ref dA), .val (.ref dZ), .val (.ref dP), .val (.ref b1), .val (.ref b4), .val (.ref b10), .unset] [])) (fun _ k => XS.icmpNo X20.here hx rfl (hb hby at_321) rfl (teq (hpl _ : (own_find (3 : Int32) (cols ++ own_new cols pks) 0) = (f9_0 (3 : Int32) (Int32.ofNat cols.length) (Int32.ofNat pks.length) c0 c1 p0 p1))).2 k) ?_
  refine own_goW (T1 := T20) (g1 := (mkF m 325 #[.val (.int i0), .val (.int i1), .val (.int i2), .val (.int i3), .val (.int (Int32.ofNat cols.length)), .val (.int (Int32.ofNat pks.length)), .val (.int c0), .val (.int c1), .val (.int p0), .val (.int p1), .val (.ref dA), .val (.ref dZ), .val (.ref dP), .val (.ref b1), .val (.ref b4), .val (.ref b10), .unset] [(.int (1 : Int32))])) (fun _ k => XS.iconst X20.here hx rfl (hb hby at_324) k) ?_
  refine own_goW (T1 := T20) (g1 := (mkF m 329 #[.val (.int i0), .val (.int i1), .val (.int i2), .val (.int i3), .val (.int (Int32.ofNat cols.length)), .val (.int (Int32.ofNat pks.length)), .val (.int c0), .val (.int c1), .val (.int p0), .val (.int p1), .val (.ref dA), .val (.ref dZ), .val (.ref dP), .val (.ref b1), .val (.ref b4), .val (.ref b10), .unset] [(.int (1 : Int32))])) (fun _ k => XS.goto X20.here hx rfl (pc0 := 325) (pc' := 329) rfl (hb hby at_325) (by decide) (by decide) k) ?_
  refine own_goW (T1 := T20) (g1 := (mkF m 331 #[.val (.int i0), .val (.int i1), .val (.int i2), .val (.int i3), .val (.int (Int32.ofNat cols.length)), .val (.int (Int32.ofNat pks.length)), .val (.int c0), .val (.int c1), .val (.int p0), .val (.int p1), .val (.ref dA), .val (.ref dZ), .val (.ref dP), .val (.ref b1), .val (.ref b4), .val (.ref b10), .val (.int (1 : Int32))] [])) (fun _ k => XS.istore X20.here hx rfl (hb hby at_329) rfl (l' := #[.val (.int i0), .val (.int i1), .val (.int i2), .val (.int i3), .val (.int (Int32.ofNat cols.length)), .val (.int (Int32.ofNat pks.length)), .val (.int c0), .val (.int c1), .val (.int p0), .val (.int p1), .val (.ref dA), .val (.ref dZ), .val (.ref dP), .val (.ref b1), .val (.ref b4), .val (.ref b10), .val (.int (1 : Int32))]) rfl k) ?_
  refine own_goW (T1 := T20) (g1 := (mkF m 333 #[.val (.int i0), .val (.int i1), .val (.int i2), .val (.int i3), .val (.int (Int32.ofNat cols.length)), .val (.int (Int32.ofNat pks.length)), .val (.int c0), .val (.int c1), .val (.int p0), .val (.int p1), .val (.ref dA), .val (.ref dZ), .val (.ref dP), .val (.ref b1), .val (.ref b4), .val (.ref b10), .val (.int (1 : Int32))] [(.int (1 : Int32))])) (fun _ k => XS.iload X20.here hx rfl (hb hby at_331) rfl k) ?_
  refine own_goW (T1 := T20) (g1 := (mkF m 336 #[.val (.int i0), .val (.int i1), .val (.int i2), .val (.int i3), .val (.int (Int32.ofNat cols.length)), .val (.int (Int32.ofNat pks.length)), .val (.int c0), .val (.int c1), .val (.int p0), .val (.int p1), .val (.ref dA), .val (.ref dZ), .val (.ref dP), .val (.ref b1), .val (.ref b4), .val (.ref b10), .val (.int (1 : Int32))] [])) (fun _ k => XS.ifNo X20.here hx rfl (hb hby at_333) rfl ((if0 _ _).trans (feq ((by decide) : ¬ ((1 : Int32) = (0 : Int32)))).1) k) ?_
  refine own_goW (T1 := T20) (g1 := (mkF m 338 #[.val (.int i0), .val (.int i1), .val (.int i2), .val (.int i3), .val (.int (Int32.ofNat cols.length)), .val (.int (Int32.ofNat pks.length)), .val (.int c0), .val (.int c1), .val (.int p0), .val (.int p1), .val (.ref dA), .val (.ref dZ), .val (.ref dP), .val (.ref b1), .val (.ref b4), .val (.ref b10), .val (.int (1 : Int32))] [(.ref b10)])) (fun _ k => XS.aload X20.here hx rfl (hb hby at_336) rfl rfl k) ?_
  refine own_goW (T1 := T20) (g1 := (mkF m 339 #[.val (.int i0), .val (.int i1), .val (.int i2), .val (.int i3), .val (.int (Int32.ofNat cols.length)), .val (.int (Int32.ofNat pks.length)), .val (.int c0), .val (.int c1), .val (.int p0), .val (.int p1), .val (.ref dA), .val (.ref dZ), .val (.ref dP), .val (.ref b1), .val (.ref b4), .val (.ref b10), .val (.int (1 : Int32))] [(.int i3), (.ref b10)])) (fun _ k => XS.iloadN X20.here hx rfl (hb hby at_338) rfl k) ?_
  obtain ⟨cq21, kq21, q21a, q21b, q21c⟩ := isOf hZ11 e20 Ei
  obtain ⟨_, _, ⟨T21, L21, k21, n21⟩, -, X21, ⟨Lc21, hQ21, l21, y21, z21⟩, st21⟩ := X20.virtualBack hx (y := (⟨"com/example/sukima/sukima/catalog/Index", "placeOf", "(I)I"⟩ : MethodName)) (z := (⟨"com/example/sukima/sukima/catalog/Index", "placeOf", "(I)I"⟩ : MethodName)) ho11 (mvT hZ11 (hw _ (List.mem_of_getElem? (i := 146) rfl))) (mvT hZ11 (hw _ (List.mem_of_getElem? (i := 147) rfl))) (notFace_of_selects (args := #[]) (mvT hZ11 (hw _ (List.mem_of_getElem? (i := 149) rfl)))) (mvT hZ11 (hw _ (List.mem_of_getElem? (i := 149) rfl))) (mvT hZ11 (hw _ (List.mem_of_getElem? (i := 148) rfl))) (by decide) (backOf (W := 0) (rmpl l Z a0 hw [] b10 i3 kc kk (cols ++ own_new cols pks) T12.heap n0 Zc12 (own_klen cols pks hc hp) Fk Vk) hZ11 (hw _ (List.mem_of_getElem? (i := 150) rfl)) (hw _ (List.mem_of_getElem? (i := 97) rfl)) (by decide) (by decide)) q21a q21c (g := (mkF m 339 #[.val (.int i0), .val (.int i1), .val (.int i2), .val (.int i3), .val (.int (Int32.ofNat cols.length)), .val (.int (Int32.ofNat pks.length)), .val (.int c0), .val (.int c1), .val (.int p0), .val (.int p1), .val (.ref dA), .val (.ref dZ), .val (.ref dP), .val (.ref b1), .val (.ref b4), .val (.ref b10), .val (.int (1 : Int32))] [(.int i3), (.ref b10)])) rfl (by rw [hml]; rfl) (Steps.refl _) (argsL := [(.int i3)]) (rest := []) (lenOf own_pd_I_I rfl) rfl (by show 2 * 0 + _ ≤ _; exact Nat.le_of_eq rfl) (hb hby at_339) (fun _ _ => ⟨rfl, e20, (by decide : 17 + 0 ≤ _), (by decide : 80 + 0 ≤ _)⟩)
  dsimp only [Pt.U, Pt.locs, Pt.cells, Pt.slots] at X21 l21 y21 z21 st21 hQ21
  subst l21 y21 z21
  obtain ⟨rfl, N21q, e21⟩ := hQ21
  have N21 := Fr.app N20 N21q
  refine own_goW (T1 := T21) (g1 := (mkF m 342 #[.val (.int i0), .val (.int i1), .val (.int i2), .val (.int i3), .val (.int (Int32.ofNat cols.length)), .val (.int (Int32.ofNat pks.length)), .val (.int c0), .val (.int c1), .val (.int p0), .val (.int p1), .val (.ref dA), .val (.ref dZ), .val (.ref dP), .val (.ref b1), .val (.ref b4), .val (.ref b10), .val (.int (1 : Int32))] [(.int (own_find i3 (cols ++ own_new cols pks) 0))])) (fun t k => st21.trans k) ?_
  refine own_goW (T1 := T21) (g1 := (mkF m 343 #[.val (.int i0), .val (.int i1), .val (.int i2), .val (.int i3), .val (.int (Int32.ofNat cols.length)), .val (.int (Int32.ofNat pks.length)), .val (.int c0), .val (.int c1), .val (.int p0), .val (.int p1), .val (.ref dA), .val (.ref dZ), .val (.ref dP), .val (.ref b1), .val (.ref b4), .val (.ref b10), .val (.int (1 : Int32))] [(.int i3), (.int (own_find i3 (cols ++ own_new cols pks) 0))])) (fun _ k => XS.iloadN X21.here hx rfl (hb hby at_342) rfl k) ?_
  refine own_goW (T1 := T21) (g1 := (mkF m 345 #[.val (.int i0), .val (.int i1), .val (.int i2), .val (.int i3), .val (.int (Int32.ofNat cols.length)), .val (.int (Int32.ofNat pks.length)), .val (.int c0), .val (.int c1), .val (.int p0), .val (.int p1), .val (.ref dA), .val (.ref dZ), .val (.ref dP), .val (.ref b1), .val (.ref b4), .val (.ref b10), .val (.int (1 : Int32))] [(.int (Int32.ofNat cols.length)), (.int i3), (.int (own_find i3 (cols ++ own_new cols pks) 0))])) (fun _ k => XS.iload X21.here hx rfl (hb hby at_343) rfl k) ?_
  refine own_goW (T1 := T21) (g1 := (mkF m 347 #[.val (.int i0), .val (.int i1), .val (.int i2), .val (.int i3), .val (.int (Int32.ofNat cols.length)), .val (.int (Int32.ofNat pks.length)), .val (.int c0), .val (.int c1), .val (.int p0), .val (.int p1), .val (.ref dA), .val (.ref dZ), .val (.ref dP), .val (.ref b1), .val (.ref b4), .val (.ref b10), .val (.int (1 : Int32))] [(.int (Int32.ofNat pks.length)), (.int (Int32.ofNat cols.length)), (.int i3), (.int (own_find i3 (cols ++ own_new cols pks) 0))])) (fun _ k => XS.iload X21.here hx rfl (hb hby at_345) rfl k) ?_
  refine own_goW (T1 := T21) (g1 := (mkF m 349 #[.val (.int i0), .val (.int i1), .val (.int i2), .val (.int i3), .val (.int (Int32.ofNat cols.length)), .val (.int (Int32.ofNat pks.length)), .val (.int c0), .val (.int c1), .val (.int p0), .val (.int p1), .val (.ref dA), .val (.ref dZ), .val (.ref dP), .val (.ref b1), .val (.ref b4), .val (.ref b10), .val (.int (1 : Int32))] [(.int c0), (.int (Int32.ofNat pks.length)), (.int (Int32.ofNat cols.length)), (.int i3), (.int (own_find i3 (cols ++ own_new cols pks) 0))])) (fun _ k => XS.iload X21.here hx rfl (hb hby at_347) rfl k) ?_
  refine own_goW (T1 := T21) (g1 := (mkF m 351 #[.val (.int i0), .val (.int i1), .val (.int i2), .val (.int i3), .val (.int (Int32.ofNat cols.length)), .val (.int (Int32.ofNat pks.length)), .val (.int c0), .val (.int c1), .val (.int p0), .val (.int p1), .val (.ref dA), .val (.ref dZ), .val (.ref dP), .val (.ref b1), .val (.ref b4), .val (.ref b10), .val (.int (1 : Int32))] [(.int c1), (.int c0), (.int (Int32.ofNat pks.length)), (.int (Int32.ofNat cols.length)), (.int i3), (.int (own_find i3 (cols ++ own_new cols pks) 0))])) (fun _ k => XS.iload X21.here hx rfl (hb hby at_349) rfl k) ?_
  refine own_goW (T1 := T21) (g1 := (mkF m 353 #[.val (.int i0), .val (.int i1), .val (.int i2), .val (.int i3), .val (.int (Int32.ofNat cols.length)), .val (.int (Int32.ofNat pks.length)), .val (.int c0), .val (.int c1), .val (.int p0), .val (.int p1), .val (.ref dA), .val (.ref dZ), .val (.ref dP), .val (.ref b1), .val (.ref b4), .val (.ref b10), .val (.int (1 : Int32))] [(.int p0), (.int c1), (.int c0), (.int (Int32.ofNat pks.length)), (.int (Int32.ofNat cols.length)), (.int i3), (.int (own_find i3 (cols ++ own_new cols pks) 0))])) (fun _ k => XS.iload X21.here hx rfl (hb hby at_351) rfl k) ?_
  refine own_goW (T1 := T21) (g1 := (mkF m 355 #[.val (.int i0), .val (.int i1), .val (.int i2), .val (.int i3), .val (.int (Int32.ofNat cols.length)), .val (.int (Int32.ofNat pks.length)), .val (.int c0), .val (.int c1), .val (.int p0), .val (.int p1), .val (.ref dA), .val (.ref dZ), .val (.ref dP), .val (.ref b1), .val (.ref b4), .val (.ref b10), .val (.int (1 : Int32))] [(.int p1), (.int p0), (.int c1), (.int c0), (.int (Int32.ofNat pks.length)), (.int (Int32.ofNat cols.length)), (.int i3), (.int (own_find i3 (cols ++ own_new cols pks) 0))])) (fun _ k => XS.iload X21.here hx rfl (hb hby at_353) rfl k) ?_
  obtain ⟨_, _, ⟨T22, L22, k22, n22⟩, -, X22, ⟨Lc22, hQ22, l22, y22, z22⟩, st22⟩ := Jvm.LawKit.callS X21 hx (y := (⟨"com/example/sukima/sukima/catalog/IndexPlaceOfPinLaw", "ref", "(IIIIIII)I"⟩ : MethodName)) ho11 (mvT hZ11 (hw _ (List.mem_of_getElem? (i := 151) rfl))) (mvT hZ11 (hw _ (List.mem_of_getElem? (i := 152) rfl))) (mvT hZ11 (hw _ (List.mem_of_getElem? (i := 153) rfl))) (mvT hZ11 (hw _ (List.mem_of_getElem? (i := 154) rfl))) (by decide) (backOf (W := 1) (rm9 l Z a0 hw [] i3 (Int32.ofNat cols.length) (Int32.ofNat pks.length) c0 c1 p0 p1 T12.heap n0 Zc12) hZ11 (hw _ (List.mem_of_getElem? (i := 154) rfl)) (hw _ (List.mem_of_getElem? (i := 153) rfl)) (by decide) (by decide)) (g := (mkF m 355 #[.val (.int i0), .val (.int i1), .val (.int i2), .val (.int i3), .val (.int (Int32.ofNat cols.length)), .val (.int (Int32.ofNat pks.length)), .val (.int c0), .val (.int c1), .val (.int p0), .val (.int p1), .val (.ref dA), .val (.ref dZ), .val (.ref dP), .val (.ref b1), .val (.ref b4), .val (.ref b10), .val (.int (1 : Int32))] [(.int p1), (.int p0), (.int c1), (.int c0), (.int (Int32.ofNat pks.length)), (.int (Int32.ofNat cols.length)), (.int i3), (.int (own_find i3 (cols ++ own_new cols pks) 0))])) rfl (by rw [hml]; rfl) (argsL := [(.int i3), (.int (Int32.ofNat cols.length)), (.int (Int32.ofNat pks.length)), (.int c0), (.int c1), (.int p0), (.int p1)]) (rest := [(.int (own_find i3 (cols ++ own_new cols pks) 0))]) (lenOf own_pd_IIIIIII_I rfl) rfl (by show 2 * 0 + _ ≤ _; exact Nat.le_of_eq rfl) (hb hby at_355) (fun _ _ => ⟨rfl, e21, (by decide : 17 + 0 ≤ _), (by decide : 80 + 0 ≤ _)⟩)
  dsimp only [Pt.U, Pt.locs, Pt.cells, Pt.slots] at X22 l22 y22 z22 st22 hQ22
  subst l22 y22 z22
  obtain ⟨rfl, N22q, e22⟩ := hQ22
  have N22 := Fr.app N21 N22q
  refine own_goW (T1 := T22) (g1 := (mkF m 358 #[.val (.int i0), .val (.int i1), .val (.int i2), .val (.int i3), .val (.int (Int32.ofNat cols.length)), .val (.int (Int32.ofNat pks.length)), .val (.int c0), .val (.int c1), .val (.int p0), .val (.int p1), .val (.ref dA), .val (.ref dZ), .val (.ref dP), .val (.ref b1), .val (.ref b4), .val (.ref b10), .val (.int (1 : Int32))] [(.int (f9_0 i3 (Int32.ofNat cols.length) (Int32.ofNat pks.length) c0 c1 p0 p1)), (.int (own_find i3 (cols ++ own_new cols pks) 0))])) (fun t k => st22 t k) ?_
  refine own_goW (T1 := T22) (g1 := (mkF m 361 #[.val (.int i0), .val (.int i1), .val (.int i2), .val (.int i3), .val (.int (Int32.ofNat cols.length)), .val (.int (Int32.ofNat pks.length)), .val (.int c0), .val (.int c1), .val (.int p0), .val (.int p1), .val (.ref dA), .val (.ref dZ), .val (.ref dP), .val (.ref b1), .val (.ref b4), .val (.ref b10), .val (.int (1 : Int32))] [])) (fun _ k => XS.icmpNo X22.here hx rfl (hb hby at_358) rfl (teq (hpl _ : (own_find i3 (cols ++ own_new cols pks) 0) = (f9_0 i3 (Int32.ofNat cols.length) (Int32.ofNat pks.length) c0 c1 p0 p1))).2 k) ?_
  refine own_goW (T1 := T22) (g1 := (mkF m 362 #[.val (.int i0), .val (.int i1), .val (.int i2), .val (.int i3), .val (.int (Int32.ofNat cols.length)), .val (.int (Int32.ofNat pks.length)), .val (.int c0), .val (.int c1), .val (.int p0), .val (.int p1), .val (.ref dA), .val (.ref dZ), .val (.ref dP), .val (.ref b1), .val (.ref b4), .val (.ref b10), .val (.int (1 : Int32))] [(.int (1 : Int32))])) (fun _ k => XS.iconst X22.here hx rfl (hb hby at_361) k) ?_
  refine own_goW (T1 := T22) (g1 := (mkF m 366 #[.val (.int i0), .val (.int i1), .val (.int i2), .val (.int i3), .val (.int (Int32.ofNat cols.length)), .val (.int (Int32.ofNat pks.length)), .val (.int c0), .val (.int c1), .val (.int p0), .val (.int p1), .val (.ref dA), .val (.ref dZ), .val (.ref dP), .val (.ref b1), .val (.ref b4), .val (.ref b10), .val (.int (1 : Int32))] [(.int (1 : Int32))])) (fun _ k => XS.goto X22.here hx rfl (pc0 := 362) (pc' := 366) rfl (hb hby at_362) (by decide) (by decide) k) ?_
  exact ⟨T22, _, _, _, _, kS11, 366, _, X22, hS11, (by rw [e22]; exact hk_12), by decide, by decide, N22, (hb hby at_366), fun _ k => k⟩
theorem own_inrem (x n : Int32) (hn : 0 < n) : ¬ ((x &&& (2147483647 : Int32)) % n) < 0 ∧ ((x &&& (2147483647 : Int32)) % n) < n := by
  have h := c_mask x (2147483647 : Int32) 31 (by decide) (by decide)
  have h1 : 0 ≤ (x &&& (2147483647 : Int32)).toInt := by rw [h]; omega
  have e0 : (0 : Int32).toInt = 0 := rfl
  rw [Int32.lt_iff_toInt_lt, e0] at hn
  obtain ⟨a, b, -⟩ := (c_iremV (x &&& (2147483647 : Int32)) n).1 h1 hn
  simp only [Int32.lt_iff_toInt_lt, e0]
  omega

/-! the plain law: what placeOf finds is what ref reckons -/
theorem own_k00 : ¬ (0 : Int32) < Int32.ofNat 0 := by decide
theorem own_k10 : ¬ (1 : Int32) < Int32.ofNat 0 := by decide
theorem own_k01 : (0 : Int32) < Int32.ofNat 1 := by decide
theorem own_k11 : ¬ (1 : Int32) < Int32.ofNat 1 := by decide
theorem own_k02 : (0 : Int32) < Int32.ofNat 2 := by decide
theorem own_k12 : (1 : Int32) < Int32.ofNat 2 := by decide
theorem own_hasE (p : Int32) : ∀ (l : List Int32) (b : Bool), own_has p l b = (b || decide (p ∈ l))
  | [], b => by simp [own_has]
  | a :: r, b => by rw [own_has, own_hasE p r]; by_cases h : a = p <;> by_cases h2 : p ∈ r <;> simp [h, h2, eq_comm] <;> simp_all [eq_comm]
theorem own_hasM (p : Int32) (l : List Int32) : own_has p l false = true ↔ p ∈ l := by rw [own_hasE]; simp
theorem own_findA (x : Int32) : ∀ (A B : List Int32) (i : Nat), own_find x (A ++ B) i = if x ∈ A then own_find x A i else own_find x B (i + A.length)
  | [], B, i => by simp
  | a :: r, B, i => by
    rw [List.cons_append, own_find, own_find, own_findA x r B]
    by_cases h : a = x
    · simp [h]
    · have h' : ¬ x = a := fun q => h q.symm
      simp [h, h']
      by_cases h2 : x ∈ r
      · simp [h2]
      · simp only [h2, if_false]
        congr 1; omega
theorem own_f48 (x nn mm c0 c1 p0 p1 : Int32) (h1 : (1 : Int32) < mm) (h2 : x = p1) (P : Prop) [Decidable P] (hP : P ↔ ((0 : Int32) < nn ∧ p0 = c0) ∨ ((1 : Int32) < nn ∧ p0 = c1)) : f9_48 x nn mm c0 c1 p0 p1 = if P then nn else nn + 1 := by
  have a81 : f9_81 x nn mm c0 c1 p0 p1 = nn := by unfold f9_81 f9_86; rw [if_neg (by decide)]; rfl
  have a85 : f9_85 x nn mm c0 c1 p0 p1 = nn + 1 := by unfold f9_85 f9_86; rw [if_pos rfl]; rfl
  have a69 : f9_69 x nn mm c0 c1 p0 p1 = if (1 : Int32) < nn ∧ p0 = c1 then nn else nn + 1 := by
    unfold f9_69; rw [a81, a85]; by_cases q1 : (1 : Int32) < nn <;> by_cases q2 : p0 = c1 <;> simp [q1, q2]
  unfold f9_48
  rw [if_pos h1, if_pos h2, a81, a69]
  by_cases q0 : (0 : Int32) < nn <;> by_cases q1 : p0 = c0 <;> by_cases q2 : (1 : Int32) < nn <;> by_cases q3 : p0 = c1 <;> simp [q0, q1, q2, q3, hP] <;> simp_all
theorem own_pl2 (x c0 c1 p0 p1 : Int32) (cols : List Int32) (nn mm : Nat) (hm : mm ≤ 2) (hx : ¬ x ∈ cols) (hP : p0 ∈ cols ↔ ((0 : Int32) < Int32.ofNat nn ∧ p0 = c0) ∨ ((1 : Int32) < Int32.ofNat nn ∧ p0 = c1)) :
    own_find x (own_new cols (own_cols mm p0 p1)) nn = f9_32 x (Int32.ofNat nn) (Int32.ofNat mm) c0 c1 p0 p1 := by
  have hm' : mm = 0 ∨ mm = 1 ∨ mm = 2 := by omega
  rcases hm' with rfl | rfl | rfl
  · unfold f9_32 f9_48
    rw [if_neg own_k00, if_neg own_k10]
    rfl
  · unfold f9_32
    rw [if_pos own_k01]
    show own_find x (if own_has p0 cols false = true then [] else [p0]) nn = _
    by_cases h : x = p0
    · have h2 : ¬ own_has p0 cols false = true := fun q => hx (h ▸ (own_hasM _ _).mp q)
      rw [if_pos h, if_neg h2, own_find, if_pos h.symm]; rfl
    · rw [if_neg h]
      unfold f9_48
      rw [if_neg own_k11]
      have h' : ¬ p0 = x := fun q => h q.symm
      split
      · rfl
      · rw [own_find, if_neg h']; rfl
  · unfold f9_32
    rw [if_pos own_k02]
    show own_find x (if own_has p0 cols false = true then (if own_has p1 cols false = true then [] else [p1]) else p0 :: (if own_has p1 cols false = true then [] else [p1])) nn = _
    by_cases h : x = p0
    · have h2 : ¬ own_has p0 cols false = true := fun q => hx (h ▸ (own_hasM _ _).mp q)
      rw [if_pos h, if_neg h2, own_find, if_pos h.symm]; rfl
    · rw [if_neg h]
      have h' : ¬ p0 = x := fun q => h q.symm
      by_cases g : x = p1
      · have g2 : ¬ own_has p1 cols false = true := fun q => hx (g ▸ (own_hasM _ _).mp q)
        rw [own_f48 _ _ _ _ _ _ _ own_k12 g (p0 ∈ cols) hP, if_neg g2]
        by_cases q : p0 ∈ cols
        · rw [if_pos ((own_hasM _ _).mpr q), if_pos q, own_find, if_pos g.symm]
        · rw [if_neg (fun z => q ((own_hasM _ _).mp z)), if_neg q, own_find, if_neg h', own_find, if_pos g.symm, own_inc]
      · have g' : ¬ p1 = x := fun q => g q.symm
        have e : f9_48 x (Int32.ofNat nn) (Int32.ofNat 2) c0 c1 p0 p1 = -1 := by unfold f9_48; rw [if_pos own_k12, if_neg g]; rfl
        rw [e]
        have k : ∀ i, own_find x (if own_has p1 cols false = true then [] else [p1]) i = -1 := fun i => by
          split
          · rfl
          · rw [own_find, if_neg g']; rfl
        split
        · exact k _
        · rw [own_find, if_neg h']; exact k _
theorem own_plain (x c0 c1 p0 p1 : Int32) (nn mm : Nat) (hn : nn ≤ 2) (hm : mm ≤ 2) :
    own_find x (own_cols nn c0 c1 ++ own_new (own_cols nn c0 c1) (own_cols mm p0 p1)) 0 = f9_0 x (Int32.ofNat nn) (Int32.ofNat mm) c0 c1 p0 p1 := by
  rw [own_findA]
  have hn' : nn = 0 ∨ nn = 1 ∨ nn = 2 := by omega
  rcases hn' with rfl | rfl | rfl
  · unfold f9_0 f9_15
    rw [if_neg own_k00, if_neg own_k10, if_neg (show ¬ x ∈ own_cols 0 c0 c1 by simp [own_cols])]
    exact own_pl2 x c0 c1 p0 p1 _ 0 mm hm (by simp [own_cols]) ⟨fun q => by simp [own_cols] at q, fun q => by rcases q with q | q <;> exact absurd q.1 (by decide)⟩
  · unfold f9_0 f9_15
    rw [if_pos own_k01, if_neg own_k11]
    by_cases h : x = c0
    · rw [if_pos h, if_pos (show x ∈ own_cols 1 c0 c1 by simp [own_cols, h])]
      show own_find x [c0] 0 = _
      rw [own_find, if_pos h.symm]; rfl
    · rw [if_neg h, if_neg (show ¬ x ∈ own_cols 1 c0 c1 by simpa [own_cols] using h)]
      exact own_pl2 x c0 c1 p0 p1 _ 1 mm hm (by simpa [own_cols] using h) ⟨fun q => Or.inl ⟨by decide, by simpa [own_cols] using q⟩, fun q => by rcases q with q | q; (· simp [own_cols, q.2]); (· exact absurd q.1 (by decide))⟩
  · unfold f9_0 f9_15
    rw [if_pos own_k02, if_pos own_k12]
    by_cases h : x = c0
    · rw [if_pos h, if_pos (show x ∈ own_cols 2 c0 c1 by simp [own_cols, h])]
      show own_find x [c0, c1] 0 = _
      rw [own_find, if_pos h.symm]; rfl
    · rw [if_neg h]
      have h' : ¬ c0 = x := fun q => h q.symm
      by_cases g : x = c1
      · rw [if_pos g, if_pos (show x ∈ own_cols 2 c0 c1 by simp [own_cols, g])]
        show own_find x [c0, c1] 0 = _
        rw [own_find, if_neg h', own_find, if_pos g.symm]; rfl
      · rw [if_neg g, if_neg (show ¬ x ∈ own_cols 2 c0 c1 by simp [own_cols, h, g])]
        exact own_pl2 x c0 c1 p0 p1 _ 2 mm hm (by simp [own_cols, h, g]) ⟨fun q => by simp [own_cols] at q; rcases q with q | q; (· exact Or.inl ⟨by decide, q⟩); (· exact Or.inr ⟨by decide, q⟩), fun q => by rcases q with q | q <;> simp [own_cols, q.2]⟩
theorem own_newM (cols : List Int32) : ∀ (pks : List Int32) (a : Int32), a ∈ own_new cols pks → a ∈ pks
  | [], a, h => by simp [own_new] at h
  | p :: r, a, h => by
    rw [own_new] at h
    split at h
    · exact List.mem_cons_of_mem _ (own_newM cols r a h)
    · rcases List.mem_cons.mp h with rfl | q
      · exact List.mem_cons_self ..
      · exact List.mem_cons_of_mem _ (own_newM cols r a q)
theorem own_colsM (n : Nat) (c0 c1 a : Int32) (h : a ∈ own_cols n c0 c1) : a = c0 ∨ a = c1 := by
  unfold own_cols at h
  split at h
  · simp at h
  · simp at h; exact Or.inl h
  · simpa using h
theorem own_rng (nn mm : Nat) (c0 c1 p0 p1 : Int32) (h1 : ¬ c0 < (0 : Int32) ∧ c0 < (4 : Int32)) (h2 : ¬ c1 < (0 : Int32) ∧ c1 < (4 : Int32)) (h3 : ¬ p0 < (0 : Int32) ∧ p0 < (4 : Int32)) (h4 : ¬ p1 < (0 : Int32) ∧ p1 < (4 : Int32)) : ∀ a ∈ (own_cols nn c0 c1 ++ own_new (own_cols nn c0 c1) (own_cols mm p0 p1)), ¬ a < (0 : Int32) ∧ a < (4 : Int32) := by
  intro a ha
  rcases List.mem_append.mp ha with q | q
  · rcases own_colsM _ _ _ _ q with rfl | rfl <;> assumption
  · rcases own_colsM _ _ _ _ (own_newM _ _ _ q) with rfl | rfl <;> assumption
theorem own_n3 (x : Int32) : ∃ n : Nat, n ≤ 2 ∧ ((x &&& (2147483647 : Int32)) % (3 : Int32)) = Int32.ofNat n := by
  obtain ⟨h1, h2⟩ := own_inrem x 3 (by decide)
  rw [Int32.lt_iff_toInt_lt] at h1 h2
  have e0 : (0 : Int32).toInt = 0 := rfl
  have e3 : (3 : Int32).toInt = 3 := rfl
  refine ⟨((x &&& (2147483647 : Int32)) % (3 : Int32)).toInt.toNat, by omega, ?_⟩
  rw [← Int32.toInt_inj, Int32.toInt_ofNat_of_lt (by omega)]
  omega
theorem own_m3 (x : Int32) : ¬ (x &&& (3 : Int32)) < (0 : Int32) ∧ (x &&& (3 : Int32)) < (4 : Int32) := by
  have h := c_mask x (3 : Int32) 2 (by decide) (by decide)
  have e0 : (0 : Int32).toInt = 0 := rfl
  have e4 : (4 : Int32).toInt = 4 := rfl
  simp only [Int32.lt_iff_toInt_lt, e0, e4, h]
  omega
/-! what the sets say of the empty store -/
theorem own_len0 {t : Term} {args : Array Value} {s : State} {d0 : Addr} {cl : Cell} (ev : t.eval args s none [] s = some (.ref d0)) (hA : s.arrayAt? d0 = some cl) (w : (Jvm.Cond.eq (.length t) (.int 0)).value args s none s [] = some true) : cl.slots.size < 2 ^ 31 ∧ cl.slots.size.toInt32 = 0 := by
  by_cases hl : cl.slots.size < 2 ^ 31
  · refine ⟨hl, ?_⟩
    have e := len_f ev hA hl
    have e2 : (Term.int (0 : Int32)).eval args s none [] s = some (.int 0) := rfl
    simpa [Cond.value, e, e2] using w
  · exfalso
    have e : (Term.length t).eval args s none [] s = none := by simp [Term.eval, ev, hA, hl]
    simp [Cond.value, e] at w
theorem own_d0 {s : State} {args : Array Value} (hf : Fit s) (hset : ∀ d ∈ jdkStatics_1, d.before args s = true) (hw : ∀ d ∈ tables_1, d.before args s = true) : ∃ (d0 : Addr) (kd0 : ClassId), Sta s s.heap "java/util/ArrayList" "DEFAULTCAPACITY_EMPTY_ELEMENTDATA" "[Ljava/lang/Object;" (.ref d0) ∧ Arv s s.heap d0 kd0 (.object "java/lang/Object") (0 : Int32) [] .null := by
  obtain ⟨d0, c', cell, k, ev, -⟩ := Cond.exactly_spec (hset _ (List.mem_of_getElem? (i := 7) rfl))
  obtain ⟨cl, A⟩ := Arr.start ev (Cond.before_iff.mp (hset _ (List.mem_of_getElem? (i := 6) rfl)))
  obtain ⟨h1, h2⟩ := own_len0 ev (A.fin (Vm.Alike.refl _)) (Cond.before_iff.mp (hset _ (List.mem_of_getElem? (i := 8) rfl)))
  exact ⟨d0, cl.cls, Sta.start ev (Or.inr ⟨hw _ (List.mem_of_getElem? (i := 38) rfl), hset _ (List.mem_of_getElem? (i := 2) rfl)⟩), Arv.start hf A h1 h2 (by decide) rfl trivial⟩

set_option maxRecDepth 65536 in
set_option maxHeartbeats 4000000 in
theorem own_l57 {p : Program} {l : Launch} {e : Env} {s : State} {m : MethodId} {args : Array Value} {below : List Frame} {meth : Method} {c : Code} {T0 : State} {locs : List Loc} {Z : State} {a0 : Array Value} {h0 : Heap} {n0 : Nat} (i0 i1 i2 i3 : Int32) (nn mm : Nat) (hn : nn ≤ 2) (hm : mm ≤ 2) (c0 c1 p0 p1 : Int32) (d0 : Addr) (kd0 : ClassId) (q1 : ¬ c0 < (0 : Int32) ∧ c0 < (4 : Int32)) (q2 : ¬ c1 < (0 : Int32) ∧ c1 < (4 : Int32)) (q3 : ¬ p0 < (0 : Int32) ∧ p0 < (4 : Int32)) (q4 : ¬ p1 < (0 : Int32) ∧ p1 < (4 : Int32)) (X0 : Stand p l e room_1 s m args below meth c T0 locs 0 0) (hx : p.tables.exec = Jvm.exec) (hZ : Z.Warmed39 s.vm) (hw : ∀ d ∈ tables_1, d.before a0 Z = true) (hby : c.code = code) (hml : c.maxLocals = 17) (hown : s.vm.findClass "com/example/sukima/sukima/catalog/IndexPlaceOfPinLaw" = some m.cls) (e0 : T0.heap = h0) (N0 : Fr n0 locs) (Z0 : n0 ≤ h0.size) (Ol : Old Z n0 h0) (S0 : Sta Z Z.heap "java/util/ArrayList" "DEFAULTCAPACITY_EMPTY_ELEMENTDATA" "[Ljava/lang/Object;" (.ref d0)) (Vd0 : Arv Z Z.heap d0 kd0 (.object "java/lang/Object") (0 : Int32) [] .null) :
    own_W p l e s m args below meth c n0 T0 (mkF m 57 #[.val (.int i0), .val (.int i1), .val (.int i2), .val (.int i3), .val (.int (Int32.ofNat nn)), .val (.int (Int32.ofNat mm)), .val (.int c0), .val (.int c1), .val (.int p0), .val (.int p1), .unset, .unset, .unset, .unset, .unset, .unset, .unset] []) := by
  have hn' : nn = 0 ∨ nn = 1 ∨ nn = 2 := by omega
  have hm' : mm = 0 ∨ mm = 1 ∨ mm = 2 := by omega
  rcases hn' with rfl | rfl | rfl
  · refine own_thenW (own_fA0 i0 i1 i2 i3 (Int32.ofNat mm) c0 c1 p0 p1 X0 hx hZ hw hby hml hown e0 N0 Z0) ?_
    rintro T1 g1 L1 kq zq X1 ⟨dA, dZ, kd, kz, vz, rfl, rfl, rfl, N1, K1, Vc, Yc, Vz, Yz⟩
    rcases hm' with rfl | rfl | rfl
    · refine own_thenW (own_fB0 i0 i1 i2 i3 (Int32.ofNat 0) c0 c1 p0 p1 dA dZ X1 hx hZ hw hby hml hown rfl N1 (Nat.le_trans Z0 K1.1)) ?_
      rintro T2 g2 L2 kq zq X2 ⟨dP, ke, rfl, rfl, rfl, N2, K2, Vp⟩
      exact own_l137 i0 i1 i2 i3 c0 c1 p0 p1 dA dZ dP d0 kd kz ke kd0 (own_cols 0 c0 c1) (own_cols 0 p0 p1) vz X2 hx hZ hw hby hml hown rfl N2 (Nat.le_trans (Nat.le_trans Z0 K1.1) K2.1) (by simp [own_cols]) (by simp [own_cols]) (own_rng 0 0 c0 c1 p0 p1 q1 q2 q3 q4) (fun x => own_plain x c0 c1 p0 p1 0 0 (by decide) (by decide)) (Vc.keep K2 nin0) (Yc.keep K2) (Vz.keep K2 nin0) (Yz.keep K2) Vp ((Ol.keep K1 all0).keep K2 all0) S0 Vd0
    · refine own_thenW (own_fB1 i0 i1 i2 i3 (Int32.ofNat 0) c0 c1 p0 p1 dA dZ X1 hx hZ hw hby hml hown rfl N1 (Nat.le_trans Z0 K1.1)) ?_
      rintro T2 g2 L2 kq zq X2 ⟨dP, ke, rfl, rfl, rfl, N2, K2, Vp⟩
      exact own_l137 i0 i1 i2 i3 c0 c1 p0 p1 dA dZ dP d0 kd kz ke kd0 (own_cols 0 c0 c1) (own_cols 1 p0 p1) vz X2 hx hZ hw hby hml hown rfl N2 (Nat.le_trans (Nat.le_trans Z0 K1.1) K2.1) (by simp [own_cols]) (by simp [own_cols]) (own_rng 0 1 c0 c1 p0 p1 q1 q2 q3 q4) (fun x => own_plain x c0 c1 p0 p1 0 1 (by decide) (by decide)) (Vc.keep K2 nin0) (Yc.keep K2) (Vz.keep K2 nin0) (Yz.keep K2) Vp ((Ol.keep K1 all0).keep K2 all0) S0 Vd0
    · refine own_thenW (own_fB2 i0 i1 i2 i3 (Int32.ofNat 0) c0 c1 p0 p1 dA dZ X1 hx hZ hw hby hml hown rfl N1 (Nat.le_trans Z0 K1.1)) ?_
      rintro T2 g2 L2 kq zq X2 ⟨dP, ke, rfl, rfl, rfl, N2, K2, Vp⟩
      exact own_l137 i0 i1 i2 i3 c0 c1 p0 p1 dA dZ dP d0 kd kz ke kd0 (own_cols 0 c0 c1) (own_cols 2 p0 p1) vz X2 hx hZ hw hby hml hown rfl N2 (Nat.le_trans (Nat.le_trans Z0 K1.1) K2.1) (by simp [own_cols]) (by simp [own_cols]) (own_rng 0 2 c0 c1 p0 p1 q1 q2 q3 q4) (fun x => own_plain x c0 c1 p0 p1 0 2 (by decide) (by decide)) (Vc.keep K2 nin0) (Yc.keep K2) (Vz.keep K2 nin0) (Yz.keep K2) Vp ((Ol.keep K1 all0).keep K2 all0) S0 Vd0
  · refine own_thenW (own_fA1 i0 i1 i2 i3 (Int32.ofNat mm) c0 c1 p0 p1 X0 hx hZ hw hby hml hown e0 N0 Z0) ?_
    rintro T1 g1 L1 kq zq X1 ⟨dA, dZ, kd, kz, vz, rfl, rfl, rfl, N1, K1, Vc, Yc, Vz, Yz⟩
    rcases hm' with rfl | rfl | rfl
    · refine own_thenW (own_fB0 i0 i1 i2 i3 (Int32.ofNat 1) c0 c1 p0 p1 dA dZ X1 hx hZ hw hby hml hown rfl N1 (Nat.le_trans Z0 K1.1)) ?_
      rintro T2 g2 L2 kq zq X2 ⟨dP, ke, rfl, rfl, rfl, N2, K2, Vp⟩
      exact own_l137 i0 i1 i2 i3 c0 c1 p0 p1 dA dZ dP d0 kd kz ke kd0 (own_cols 1 c0 c1) (own_cols 0 p0 p1) vz X2 hx hZ hw hby hml hown rfl N2 (Nat.le_trans (Nat.le_trans Z0 K1.1) K2.1) (by simp [own_cols]) (by simp [own_cols]) (own_rng 1 0 c0 c1 p0 p1 q1 q2 q3 q4) (fun x => own_plain x c0 c1 p0 p1 1 0 (by decide) (by decide)) (Vc.keep K2 nin0) (Yc.keep K2) (Vz.keep K2 nin0) (Yz.keep K2) Vp ((Ol.keep K1 all0).keep K2 all0) S0 Vd0
    · refine own_thenW (own_fB1 i0 i1 i2 i3 (Int32.ofNat 1) c0 c1 p0 p1 dA dZ X1 hx hZ hw hby hml hown rfl N1 (Nat.le_trans Z0 K1.1)) ?_
      rintro T2 g2 L2 kq zq X2 ⟨dP, ke, rfl, rfl, rfl, N2, K2, Vp⟩
      exact own_l137 i0 i1 i2 i3 c0 c1 p0 p1 dA dZ dP d0 kd kz ke kd0 (own_cols 1 c0 c1) (own_cols 1 p0 p1) vz X2 hx hZ hw hby hml hown rfl N2 (Nat.le_trans (Nat.le_trans Z0 K1.1) K2.1) (by simp [own_cols]) (by simp [own_cols]) (own_rng 1 1 c0 c1 p0 p1 q1 q2 q3 q4) (fun x => own_plain x c0 c1 p0 p1 1 1 (by decide) (by decide)) (Vc.keep K2 nin0) (Yc.keep K2) (Vz.keep K2 nin0) (Yz.keep K2) Vp ((Ol.keep K1 all0).keep K2 all0) S0 Vd0
    · refine own_thenW (own_fB2 i0 i1 i2 i3 (Int32.ofNat 1) c0 c1 p0 p1 dA dZ X1 hx hZ hw hby hml hown rfl N1 (Nat.le_trans Z0 K1.1)) ?_
      rintro T2 g2 L2 kq zq X2 ⟨dP, ke, rfl, rfl, rfl, N2, K2, Vp⟩
      exact own_l137 i0 i1 i2 i3 c0 c1 p0 p1 dA dZ dP d0 kd kz ke kd0 (own_cols 1 c0 c1) (own_cols 2 p0 p1) vz X2 hx hZ hw hby hml hown rfl N2 (Nat.le_trans (Nat.le_trans Z0 K1.1) K2.1) (by simp [own_cols]) (by simp [own_cols]) (own_rng 1 2 c0 c1 p0 p1 q1 q2 q3 q4) (fun x => own_plain x c0 c1 p0 p1 1 2 (by decide) (by decide)) (Vc.keep K2 nin0) (Yc.keep K2) (Vz.keep K2 nin0) (Yz.keep K2) Vp ((Ol.keep K1 all0).keep K2 all0) S0 Vd0
  · refine own_thenW (own_fA2 i0 i1 i2 i3 (Int32.ofNat mm) c0 c1 p0 p1 X0 hx hZ hw hby hml hown e0 N0 Z0) ?_
    rintro T1 g1 L1 kq zq X1 ⟨dA, dZ, kd, kz, vz, rfl, rfl, rfl, N1, K1, Vc, Yc, Vz, Yz⟩
    rcases hm' with rfl | rfl | rfl
    · refine own_thenW (own_fB0 i0 i1 i2 i3 (Int32.ofNat 2) c0 c1 p0 p1 dA dZ X1 hx hZ hw hby hml hown rfl N1 (Nat.le_trans Z0 K1.1)) ?_
      rintro T2 g2 L2 kq zq X2 ⟨dP, ke, rfl, rfl, rfl, N2, K2, Vp⟩
      exact own_l137 i0 i1 i2 i3 c0 c1 p0 p1 dA dZ dP d0 kd kz ke kd0 (own_cols 2 c0 c1) (own_cols 0 p0 p1) vz X2 hx hZ hw hby hml hown rfl N2 (Nat.le_trans (Nat.le_trans Z0 K1.1) K2.1) (by simp [own_cols]) (by simp [own_cols]) (own_rng 2 0 c0 c1 p0 p1 q1 q2 q3 q4) (fun x => own_plain x c0 c1 p0 p1 2 0 (by decide) (by decide)) (Vc.keep K2 nin0) (Yc.keep K2) (Vz.keep K2 nin0) (Yz.keep K2) Vp ((Ol.keep K1 all0).keep K2 all0) S0 Vd0
    · refine own_thenW (own_fB1 i0 i1 i2 i3 (Int32.ofNat 2) c0 c1 p0 p1 dA dZ X1 hx hZ hw hby hml hown rfl N1 (Nat.le_trans Z0 K1.1)) ?_
      rintro T2 g2 L2 kq zq X2 ⟨dP, ke, rfl, rfl, rfl, N2, K2, Vp⟩
      exact own_l137 i0 i1 i2 i3 c0 c1 p0 p1 dA dZ dP d0 kd kz ke kd0 (own_cols 2 c0 c1) (own_cols 1 p0 p1) vz X2 hx hZ hw hby hml hown rfl N2 (Nat.le_trans (Nat.le_trans Z0 K1.1) K2.1) (by simp [own_cols]) (by simp [own_cols]) (own_rng 2 1 c0 c1 p0 p1 q1 q2 q3 q4) (fun x => own_plain x c0 c1 p0 p1 2 1 (by decide) (by decide)) (Vc.keep K2 nin0) (Yc.keep K2) (Vz.keep K2 nin0) (Yz.keep K2) Vp ((Ol.keep K1 all0).keep K2 all0) S0 Vd0
    · refine own_thenW (own_fB2 i0 i1 i2 i3 (Int32.ofNat 2) c0 c1 p0 p1 dA dZ X1 hx hZ hw hby hml hown rfl N1 (Nat.le_trans Z0 K1.1)) ?_
      rintro T2 g2 L2 kq zq X2 ⟨dP, ke, rfl, rfl, rfl, N2, K2, Vp⟩
      exact own_l137 i0 i1 i2 i3 c0 c1 p0 p1 dA dZ dP d0 kd kz ke kd0 (own_cols 2 c0 c1) (own_cols 2 p0 p1) vz X2 hx hZ hw hby hml hown rfl N2 (Nat.le_trans (Nat.le_trans Z0 K1.1) K2.1) (by simp [own_cols]) (by simp [own_cols]) (own_rng 2 2 c0 c1 p0 p1 q1 q2 q3 q4) (fun x => own_plain x c0 c1 p0 p1 2 2 (by decide) (by decide)) (Vc.keep K2 nin0) (Yc.keep K2) (Vz.keep K2 nin0) (Yz.keep K2) Vp ((Ol.keep K1 all0).keep K2 all0) S0 Vd0
theorem pn_0 : plainName "com/example/sukima/sukima/catalog/IndexPlaceOfPinLaw" = true := by first | (simp [plainName, overriddenIn]; done) | decide +kernel
theorem ef_0 (m : MethodId) (i0 i1 i2 i3 : Int32) : entryFrame m #[(.int i0), (.int i1), (.int i2), (.int i3)] maxLocals = mkF m 0 #[.val (.int i0), .val (.int i1), .val (.int i2), .val (.int i3), .unset, .unset, .unset, .unset, .unset, .unset, .unset, .unset, .unset, .unset, .unset, .unset, .unset] [] := by first | (simp [entryFrame, mkF, argsToLocals, Value.category, maxLocals]; done) | rfl
def Q0 (n0 : Nat) (v : Option Value) (h : Heap) (L : List Loc) : Prop := v = some (.int (1 : Int32)) ∧ Fr n0 L
set_option maxRecDepth 65536 in
set_option maxHeartbeats 4000000 in
theorem rm0 (l : Launch) (Z : State) (a0 : Array Value) (hw : ∀ d ∈ tables_1, d.before a0 Z = true) (ws : List Jvm.Cond) (i0 i1 i2 i3 : Int32) (d0 : Addr) (kd0 : ClassId) (h0 : Heap) (n0 : Nat) (Z0 : n0 ≤ h0.size) (Ol : Old Z n0 h0) (S0 : Sta Z Z.heap "java/util/ArrayList" "DEFAULTCAPACITY_EMPTY_ELEMENTDATA" "[Ljava/lang/Object;" (.ref d0)) (Vd0 : Arv Z Z.heap d0 kd0 (.object "java/lang/Object") (0 : Int32) [] .null) :
    MetFree l x (head1 (Jvm.Cond.code x code maxLocals ret :: ws) room_1) (fun a U => a = #[(.int i0), (.int i1), (.int i2), (.int i3)] ∧ Z.Warmed39 U.vm ∧ U.heap = h0) (fun _ _ _ _ _ => True) (fun _ U o U' => ∃ v L, o = .returned v ∧ Q0 n0 v U'.heap L ∧ ReturnedEndW U o U' L 40 2240) := by
  refine MetFree.of_bodySF (plainFor_of_name pn_0) hisR ?_
  intro p e s m args below meth c s₁ Bd hml0 hP hK
  obtain ⟨rfl, hZ, hh⟩ := hP
  have hx := Bd.exec
  have hby := Bd.bytes
  have hml : c.maxLocals = 17 := hml0
  have hown : s.vm.findClass "com/example/sukima/sukima/catalog/IndexPlaceOfPinLaw" = some m.cls := findClass_of_methodNamed Bd.named
  have X0 : Stand p l e room_1 s m #[(.int i0), (.int i1), (.int i2), (.int i3)] below meth c s₁ [] 0 0 := Stand.of_body Bd
  have e0 : s₁.heap = h0 := by rw [← hh, Bd.state]; rfl
  have N0 := Fr.nil n0
  have main : own_W p l e s m #[(.int i0), (.int i1), (.int i2), (.int i3)] below meth c n0 s₁ (mkF m 0 #[.val (.int i0), .val (.int i1), .val (.int i2), .val (.int i3), .unset, .unset, .unset, .unset, .unset, .unset, .unset, .unset, .unset, .unset, .unset, .unset, .unset] []) := by
    refine own_goW (T1 := s₁) (g1 := (mkF m 1 #[.val (.int i0), .val (.int i1), .val (.int i2), .val (.int i3), .unset, .unset, .unset, .unset, .unset, .unset, .unset, .unset, .unset, .unset, .unset, .unset, .unset] [(.int i0)])) (fun _ k => XS.iloadN X0.here hx rfl (hb hby at_0) rfl k) ?_
    refine own_goW (T1 := s₁) (g1 := (mkF m 3 #[.val (.int i0), .val (.int i1), .val (.int i2), .val (.int i3), .unset, .unset, .unset, .unset, .unset, .unset, .unset, .unset, .unset, .unset, .unset, .unset, .unset] [(.int (2147483647 : Int32)), (.int i0)])) (fun _ k => X0.ldcInt hx hown (mvT hZ (hw _ (List.mem_of_getElem? (i := 0) rfl))) (g := (mkF m 1 #[.val (.int i0), .val (.int i1), .val (.int i2), .val (.int i3), .unset, .unset, .unset, .unset, .unset, .unset, .unset, .unset, .unset, .unset, .unset, .unset, .unset] [(.int i0)])) rfl (hb hby at_1) _ k) ?_
    refine own_goW (T1 := s₁) (g1 := (mkF m 4 #[.val (.int i0), .val (.int i1), .val (.int i2), .val (.int i3), .unset, .unset, .unset, .unset, .unset, .unset, .unset, .unset, .unset, .unset, .unset, .unset, .unset] [(.int (i0 &&& (2147483647 : Int32)))])) (fun _ k => XS.iand X0.here hx rfl (hb hby at_3) rfl k) ?_
    refine own_goW (T1 := s₁) (g1 := (mkF m 5 #[.val (.int i0), .val (.int i1), .val (.int i2), .val (.int i3), .unset, .unset, .unset, .unset, .unset, .unset, .unset, .unset, .unset, .unset, .unset, .unset, .unset] [(.int (3 : Int32)), (.int (i0 &&& (2147483647 : Int32)))])) (fun _ k => XS.iconst X0.here hx rfl (hb hby at_4) k) ?_
    refine own_goW (T1 := s₁) (g1 := (mkF m 6 #[.val (.int i0), .val (.int i1), .val (.int i2), .val (.int i3), .unset, .unset, .unset, .unset, .unset, .unset, .unset, .unset, .unset, .unset, .unset, .unset, .unset] [(.int ((i0 &&& (2147483647 : Int32)) % (3 : Int32)))])) (fun _ k => iremM X0 hx rfl (hb hby at_5) rfl (by decide) k) ?_
    refine own_goW (T1 := s₁) (g1 := (mkF m 8 #[.val (.int i0), .val (.int i1), .val (.int i2), .val (.int i3), .val (.int ((i0 &&& (2147483647 : Int32)) % (3 : Int32))), .unset, .unset, .unset, .unset, .unset, .unset, .unset, .unset, .unset, .unset, .unset, .unset] [])) (fun _ k => XS.istore X0.here hx rfl (hb hby at_6) rfl (l' := #[.val (.int i0), .val (.int i1), .val (.int i2), .val (.int i3), .val (.int ((i0 &&& (2147483647 : Int32)) % (3 : Int32))), .unset, .unset, .unset, .unset, .unset, .unset, .unset, .unset, .unset, .unset, .unset, .unset]) rfl k) ?_
    refine own_goW (T1 := s₁) (g1 := (mkF m 9 #[.val (.int i0), .val (.int i1), .val (.int i2), .val (.int i3), .val (.int ((i0 &&& (2147483647 : Int32)) % (3 : Int32))), .unset, .unset, .unset, .unset, .unset, .unset, .unset, .unset, .unset, .unset, .unset, .unset] [(.int i0)])) (fun _ k => XS.iloadN X0.here hx rfl (hb hby at_8) rfl k) ?_
    refine own_goW (T1 := s₁) (g1 := (mkF m 11 #[.val (.int i0), .val (.int i1), .val (.int i2), .val (.int i3), .val (.int ((i0 &&& (2147483647 : Int32)) % (3 : Int32))), .unset, .unset, .unset, .unset, .unset, .unset, .unset, .unset, .unset, .unset, .unset, .unset] [(.int (8 : Int32)), (.int i0)])) (fun _ k => XS.bipush X0.here hx rfl (hb hby at_9) k) ?_
    refine own_goW (T1 := s₁) (g1 := (mkF m 12 #[.val (.int i0), .val (.int i1), .val (.int i2), .val (.int i3), .val (.int ((i0 &&& (2147483647 : Int32)) % (3 : Int32))), .unset, .unset, .unset, .unset, .unset, .unset, .unset, .unset, .unset, .unset, .unset, .unset] [(.int (own_ushr i0 (8 : Int32)))])) (fun _ k => XS.iushr X0.here hx rfl (hb hby at_11) rfl k) ?_
    refine own_goW (T1 := s₁) (g1 := (mkF m 14 #[.val (.int i0), .val (.int i1), .val (.int i2), .val (.int i3), .val (.int ((i0 &&& (2147483647 : Int32)) % (3 : Int32))), .unset, .unset, .unset, .unset, .unset, .unset, .unset, .unset, .unset, .unset, .unset, .unset] [(.int (2147483647 : Int32)), (.int (own_ushr i0 (8 : Int32)))])) (fun _ k => X0.ldcInt hx hown (mvT hZ (hw _ (List.mem_of_getElem? (i := 0) rfl))) (g := (mkF m 12 #[.val (.int i0), .val (.int i1), .val (.int i2), .val (.int i3), .val (.int ((i0 &&& (2147483647 : Int32)) % (3 : Int32))), .unset, .unset, .unset, .unset, .unset, .unset, .unset, .unset, .unset, .unset, .unset, .unset] [(.int (own_ushr i0 (8 : Int32)))])) rfl (hb hby at_12) _ k) ?_
    refine own_goW (T1 := s₁) (g1 := (mkF m 15 #[.val (.int i0), .val (.int i1), .val (.int i2), .val (.int i3), .val (.int ((i0 &&& (2147483647 : Int32)) % (3 : Int32))), .unset, .unset, .unset, .unset, .unset, .unset, .unset, .unset, .unset, .unset, .unset, .unset] [(.int ((own_ushr i0 (8 : Int32)) &&& (2147483647 : Int32)))])) (fun _ k => XS.iand X0.here hx rfl (hb hby at_14) rfl k) ?_
    refine own_goW (T1 := s₁) (g1 := (mkF m 16 #[.val (.int i0), .val (.int i1), .val (.int i2), .val (.int i3), .val (.int ((i0 &&& (2147483647 : Int32)) % (3 : Int32))), .unset, .unset, .unset, .unset, .unset, .unset, .unset, .unset, .unset, .unset, .unset, .unset] [(.int (3 : Int32)), (.int ((own_ushr i0 (8 : Int32)) &&& (2147483647 : Int32)))])) (fun _ k => XS.iconst X0.here hx rfl (hb hby at_15) k) ?_
    refine own_goW (T1 := s₁) (g1 := (mkF m 17 #[.val (.int i0), .val (.int i1), .val (.int i2), .val (.int i3), .val (.int ((i0 &&& (2147483647 : Int32)) % (3 : Int32))), .unset, .unset, .unset, .unset, .unset, .unset, .unset, .unset, .unset, .unset, .unset, .unset] [(.int (((own_ushr i0 (8 : Int32)) &&& (2147483647 : Int32)) % (3 : Int32)))])) (fun _ k => iremM X0 hx rfl (hb hby at_16) rfl (by decide) k) ?_
    refine own_goW (T1 := s₁) (g1 := (mkF m 19 #[.val (.int i0), .val (.int i1), .val (.int i2), .val (.int i3), .val (.int ((i0 &&& (2147483647 : Int32)) % (3 : Int32))), .val (.int (((own_ushr i0 (8 : Int32)) &&& (2147483647 : Int32)) % (3 : Int32))), .unset, .unset, .unset, .unset, .unset, .unset, .unset, .unset, .unset, .unset, .unset] [])) (fun _ k => XS.istore X0.here hx rfl (hb hby at_17) rfl (l' := #[.val (.int i0), .val (.int i1), .val (.int i2), .val (.int i3), .val (.int ((i0 &&& (2147483647 : Int32)) % (3 : Int32))), .val (.int (((own_ushr i0 (8 : Int32)) &&& (2147483647 : Int32)) % (3 : Int32))), .unset, .unset, .unset, .unset, .unset, .unset, .unset, .unset, .unset, .unset, .unset]) rfl k) ?_
    refine own_goW (T1 := s₁) (g1 := (mkF m 20 #[.val (.int i0), .val (.int i1), .val (.int i2), .val (.int i3), .val (.int ((i0 &&& (2147483647 : Int32)) % (3 : Int32))), .val (.int (((own_ushr i0 (8 : Int32)) &&& (2147483647 : Int32)) % (3 : Int32))), .unset, .unset, .unset, .unset, .unset, .unset, .unset, .unset, .unset, .unset, .unset] [(.int i1)])) (fun _ k => XS.iloadN X0.here hx rfl (hb hby at_19) rfl k) ?_
    refine own_goW (T1 := s₁) (g1 := (mkF m 21 #[.val (.int i0), .val (.int i1), .val (.int i2), .val (.int i3), .val (.int ((i0 &&& (2147483647 : Int32)) % (3 : Int32))), .val (.int (((own_ushr i0 (8 : Int32)) &&& (2147483647 : Int32)) % (3 : Int32))), .unset, .unset, .unset, .unset, .unset, .unset, .unset, .unset, .unset, .unset, .unset] [(.int (3 : Int32)), (.int i1)])) (fun _ k => XS.iconst X0.here hx rfl (hb hby at_20) k) ?_
    refine own_goW (T1 := s₁) (g1 := (mkF m 22 #[.val (.int i0), .val (.int i1), .val (.int i2), .val (.int i3), .val (.int ((i0 &&& (2147483647 : Int32)) % (3 : Int32))), .val (.int (((own_ushr i0 (8 : Int32)) &&& (2147483647 : Int32)) % (3 : Int32))), .unset, .unset, .unset, .unset, .unset, .unset, .unset, .unset, .unset, .unset, .unset] [(.int (i1 &&& (3 : Int32)))])) (fun _ k => XS.iand X0.here hx rfl (hb hby at_21) rfl k) ?_
    refine own_goW (T1 := s₁) (g1 := (mkF m 24 #[.val (.int i0), .val (.int i1), .val (.int i2), .val (.int i3), .val (.int ((i0 &&& (2147483647 : Int32)) % (3 : Int32))), .val (.int (((own_ushr i0 (8 : Int32)) &&& (2147483647 : Int32)) % (3 : Int32))), .val (.int (i1 &&& (3 : Int32))), .unset, .unset, .unset, .unset, .unset, .unset, .unset, .unset, .unset, .unset] [])) (fun _ k => XS.istore X0.here hx rfl (hb hby at_22) rfl (l' := #[.val (.int i0), .val (.int i1), .val (.int i2), .val (.int i3), .val (.int ((i0 &&& (2147483647 : Int32)) % (3 : Int32))), .val (.int (((own_ushr i0 (8 : Int32)) &&& (2147483647 : Int32)) % (3 : Int32))), .val (.int (i1 &&& (3 : Int32))), .unset, .unset, .unset, .unset, .unset, .unset, .unset, .unset, .unset, .unset]) rfl k) ?_
    refine own_goW (T1 := s₁) (g1 := (mkF m 26 #[.val (.int i0), .val (.int i1), .val (.int i2), .val (.int i3), .val (.int ((i0 &&& (2147483647 : Int32)) % (3 : Int32))), .val (.int (((own_ushr i0 (8 : Int32)) &&& (2147483647 : Int32)) % (3 : Int32))), .val (.int (i1 &&& (3 : Int32))), .unset, .unset, .unset, .unset, .unset, .unset, .unset, .unset, .unset, .unset] [(.int (i1 &&& (3 : Int32)))])) (fun _ k => XS.iload X0.here hx rfl (hb hby at_24) rfl k) ?_
    refine own_goW (T1 := s₁) (g1 := (mkF m 27 #[.val (.int i0), .val (.int i1), .val (.int i2), .val (.int i3), .val (.int ((i0 &&& (2147483647 : Int32)) % (3 : Int32))), .val (.int (((own_ushr i0 (8 : Int32)) &&& (2147483647 : Int32)) % (3 : Int32))), .val (.int (i1 &&& (3 : Int32))), .unset, .unset, .unset, .unset, .unset, .unset, .unset, .unset, .unset, .unset] [(.int (1 : Int32)), (.int (i1 &&& (3 : Int32)))])) (fun _ k => XS.iconst X0.here hx rfl (hb hby at_26) k) ?_
    refine own_goW (T1 := s₁) (g1 := (mkF m 28 #[.val (.int i0), .val (.int i1), .val (.int i2), .val (.int i3), .val (.int ((i0 &&& (2147483647 : Int32)) % (3 : Int32))), .val (.int (((own_ushr i0 (8 : Int32)) &&& (2147483647 : Int32)) % (3 : Int32))), .val (.int (i1 &&& (3 : Int32))), .unset, .unset, .unset, .unset, .unset, .unset, .unset, .unset, .unset, .unset] [(.int ((i1 &&& (3 : Int32)) + (1 : Int32)))])) (fun _ k => XS.iadd X0.here hx rfl (hb hby at_27) rfl k) ?_
    refine own_goW (T1 := s₁) (g1 := (mkF m 29 #[.val (.int i0), .val (.int i1), .val (.int i2), .val (.int i3), .val (.int ((i0 &&& (2147483647 : Int32)) % (3 : Int32))), .val (.int (((own_ushr i0 (8 : Int32)) &&& (2147483647 : Int32)) % (3 : Int32))), .val (.int (i1 &&& (3 : Int32))), .unset, .unset, .unset, .unset, .unset, .unset, .unset, .unset, .unset, .unset] [(.int i1), (.int ((i1 &&& (3 : Int32)) + (1 : Int32)))])) (fun _ k => XS.iloadN X0.here hx rfl (hb hby at_28) rfl k) ?_
    refine own_goW (T1 := s₁) (g1 := (mkF m 30 #[.val (.int i0), .val (.int i1), .val (.int i2), .val (.int i3), .val (.int ((i0 &&& (2147483647 : Int32)) % (3 : Int32))), .val (.int (((own_ushr i0 (8 : Int32)) &&& (2147483647 : Int32)) % (3 : Int32))), .val (.int (i1 &&& (3 : Int32))), .unset, .unset, .unset, .unset, .unset, .unset, .unset, .unset, .unset, .unset] [(.int (2 : Int32)), (.int i1), (.int ((i1 &&& (3 : Int32)) + (1 : Int32)))])) (fun _ k => XS.iconst X0.here hx rfl (hb hby at_29) k) ?_
    refine own_goW (T1 := s₁) (g1 := (mkF m 31 #[.val (.int i0), .val (.int i1), .val (.int i2), .val (.int i3), .val (.int ((i0 &&& (2147483647 : Int32)) % (3 : Int32))), .val (.int (((own_ushr i0 (8 : Int32)) &&& (2147483647 : Int32)) % (3 : Int32))), .val (.int (i1 &&& (3 : Int32))), .unset, .unset, .unset, .unset, .unset, .unset, .unset, .unset, .unset, .unset] [(.int (own_ushr i1 (2 : Int32))), (.int ((i1 &&& (3 : Int32)) + (1 : Int32)))])) (fun _ k => XS.iushr X0.here hx rfl (hb hby at_30) rfl k) ?_
    refine own_goW (T1 := s₁) (g1 := (mkF m 32 #[.val (.int i0), .val (.int i1), .val (.int i2), .val (.int i3), .val (.int ((i0 &&& (2147483647 : Int32)) % (3 : Int32))), .val (.int (((own_ushr i0 (8 : Int32)) &&& (2147483647 : Int32)) % (3 : Int32))), .val (.int (i1 &&& (3 : Int32))), .unset, .unset, .unset, .unset, .unset, .unset, .unset, .unset, .unset, .unset] [(.int (3 : Int32)), (.int (own_ushr i1 (2 : Int32))), (.int ((i1 &&& (3 : Int32)) + (1 : Int32)))])) (fun _ k => XS.iconst X0.here hx rfl (hb hby at_31) k) ?_
    refine own_goW (T1 := s₁) (g1 := (mkF m 33 #[.val (.int i0), .val (.int i1), .val (.int i2), .val (.int i3), .val (.int ((i0 &&& (2147483647 : Int32)) % (3 : Int32))), .val (.int (((own_ushr i0 (8 : Int32)) &&& (2147483647 : Int32)) % (3 : Int32))), .val (.int (i1 &&& (3 : Int32))), .unset, .unset, .unset, .unset, .unset, .unset, .unset, .unset, .unset, .unset] [(.int ((own_ushr i1 (2 : Int32)) % (3 : Int32))), (.int ((i1 &&& (3 : Int32)) + (1 : Int32)))])) (fun _ k => iremM X0 hx rfl (hb hby at_32) rfl (by decide) k) ?_
    refine own_goW (T1 := s₁) (g1 := (mkF m 34 #[.val (.int i0), .val (.int i1), .val (.int i2), .val (.int i3), .val (.int ((i0 &&& (2147483647 : Int32)) % (3 : Int32))), .val (.int (((own_ushr i0 (8 : Int32)) &&& (2147483647 : Int32)) % (3 : Int32))), .val (.int (i1 &&& (3 : Int32))), .unset, .unset, .unset, .unset, .unset, .unset, .unset, .unset, .unset, .unset] [(.int (((i1 &&& (3 : Int32)) + (1 : Int32)) + ((own_ushr i1 (2 : Int32)) % (3 : Int32))))])) (fun _ k => XS.iadd X0.here hx rfl (hb hby at_33) rfl k) ?_
    refine own_goW (T1 := s₁) (g1 := (mkF m 35 #[.val (.int i0), .val (.int i1), .val (.int i2), .val (.int i3), .val (.int ((i0 &&& (2147483647 : Int32)) % (3 : Int32))), .val (.int (((own_ushr i0 (8 : Int32)) &&& (2147483647 : Int32)) % (3 : Int32))), .val (.int (i1 &&& (3 : Int32))), .unset, .unset, .unset, .unset, .unset, .unset, .unset, .unset, .unset, .unset] [(.int (3 : Int32)), (.int (((i1 &&& (3 : Int32)) + (1 : Int32)) + ((own_ushr i1 (2 : Int32)) % (3 : Int32))))])) (fun _ k => XS.iconst X0.here hx rfl (hb hby at_34) k) ?_
    refine own_goW (T1 := s₁) (g1 := (mkF m 36 #[.val (.int i0), .val (.int i1), .val (.int i2), .val (.int i3), .val (.int ((i0 &&& (2147483647 : Int32)) % (3 : Int32))), .val (.int (((own_ushr i0 (8 : Int32)) &&& (2147483647 : Int32)) % (3 : Int32))), .val (.int (i1 &&& (3 : Int32))), .unset, .unset, .unset, .unset, .unset, .unset, .unset, .unset, .unset, .unset] [(.int ((((i1 &&& (3 : Int32)) + (1 : Int32)) + ((own_ushr i1 (2 : Int32)) % (3 : Int32))) &&& (3 : Int32)))])) (fun _ k => XS.iand X0.here hx rfl (hb hby at_35) rfl k) ?_
    refine own_goW (T1 := s₁) (g1 := (mkF m 38 #[.val (.int i0), .val (.int i1), .val (.int i2), .val (.int i3), .val (.int ((i0 &&& (2147483647 : Int32)) % (3 : Int32))), .val (.int (((own_ushr i0 (8 : Int32)) &&& (2147483647 : Int32)) % (3 : Int32))), .val (.int (i1 &&& (3 : Int32))), .val (.int ((((i1 &&& (3 : Int32)) + (1 : Int32)) + ((own_ushr i1 (2 : Int32)) % (3 : Int32))) &&& (3 : Int32))), .unset, .unset, .unset, .unset, .unset, .unset, .unset, .unset, .unset] [])) (fun _ k => XS.istore X0.here hx rfl (hb hby at_36) rfl (l' := #[.val (.int i0), .val (.int i1), .val (.int i2), .val (.int i3), .val (.int ((i0 &&& (2147483647 : Int32)) % (3 : Int32))), .val (.int (((own_ushr i0 (8 : Int32)) &&& (2147483647 : Int32)) % (3 : Int32))), .val (.int (i1 &&& (3 : Int32))), .val (.int ((((i1 &&& (3 : Int32)) + (1 : Int32)) + ((own_ushr i1 (2 : Int32)) % (3 : Int32))) &&& (3 : Int32))), .unset, .unset, .unset, .unset, .unset, .unset, .unset, .unset, .unset]) rfl k) ?_
    refine own_goW (T1 := s₁) (g1 := (mkF m 39 #[.val (.int i0), .val (.int i1), .val (.int i2), .val (.int i3), .val (.int ((i0 &&& (2147483647 : Int32)) % (3 : Int32))), .val (.int (((own_ushr i0 (8 : Int32)) &&& (2147483647 : Int32)) % (3 : Int32))), .val (.int (i1 &&& (3 : Int32))), .val (.int ((((i1 &&& (3 : Int32)) + (1 : Int32)) + ((own_ushr i1 (2 : Int32)) % (3 : Int32))) &&& (3 : Int32))), .unset, .unset, .unset, .unset, .unset, .unset, .unset, .unset, .unset] [(.int i2)])) (fun _ k => XS.iloadN X0.here hx rfl (hb hby at_38) rfl k) ?_
    refine own_goW (T1 := s₁) (g1 := (mkF m 40 #[.val (.int i0), .val (.int i1), .val (.int i2), .val (.int i3), .val (.int ((i0 &&& (2147483647 : Int32)) % (3 : Int32))), .val (.int (((own_ushr i0 (8 : Int32)) &&& (2147483647 : Int32)) % (3 : Int32))), .val (.int (i1 &&& (3 : Int32))), .val (.int ((((i1 &&& (3 : Int32)) + (1 : Int32)) + ((own_ushr i1 (2 : Int32)) % (3 : Int32))) &&& (3 : Int32))), .unset, .unset, .unset, .unset, .unset, .unset, .unset, .unset, .unset] [(.int (3 : Int32)), (.int i2)])) (fun _ k => XS.iconst X0.here hx rfl (hb hby at_39) k) ?_
    refine own_goW (T1 := s₁) (g1 := (mkF m 41 #[.val (.int i0), .val (.int i1), .val (.int i2), .val (.int i3), .val (.int ((i0 &&& (2147483647 : Int32)) % (3 : Int32))), .val (.int (((own_ushr i0 (8 : Int32)) &&& (2147483647 : Int32)) % (3 : Int32))), .val (.int (i1 &&& (3 : Int32))), .val (.int ((((i1 &&& (3 : Int32)) + (1 : Int32)) + ((own_ushr i1 (2 : Int32)) % (3 : Int32))) &&& (3 : Int32))), .unset, .unset, .unset, .unset, .unset, .unset, .unset, .unset, .unset] [(.int (i2 &&& (3 : Int32)))])) (fun _ k => XS.iand X0.here hx rfl (hb hby at_40) rfl k) ?_
    refine own_goW (T1 := s₁) (g1 := (mkF m 43 #[.val (.int i0), .val (.int i1), .val (.int i2), .val (.int i3), .val (.int ((i0 &&& (2147483647 : Int32)) % (3 : Int32))), .val (.int (((own_ushr i0 (8 : Int32)) &&& (2147483647 : Int32)) % (3 : Int32))), .val (.int (i1 &&& (3 : Int32))), .val (.int ((((i1 &&& (3 : Int32)) + (1 : Int32)) + ((own_ushr i1 (2 : Int32)) % (3 : Int32))) &&& (3 : Int32))), .val (.int (i2 &&& (3 : Int32))), .unset, .unset, .unset, .unset, .unset, .unset, .unset, .unset] [])) (fun _ k => XS.istore X0.here hx rfl (hb hby at_41) rfl (l' := #[.val (.int i0), .val (.int i1), .val (.int i2), .val (.int i3), .val (.int ((i0 &&& (2147483647 : Int32)) % (3 : Int32))), .val (.int (((own_ushr i0 (8 : Int32)) &&& (2147483647 : Int32)) % (3 : Int32))), .val (.int (i1 &&& (3 : Int32))), .val (.int ((((i1 &&& (3 : Int32)) + (1 : Int32)) + ((own_ushr i1 (2 : Int32)) % (3 : Int32))) &&& (3 : Int32))), .val (.int (i2 &&& (3 : Int32))), .unset, .unset, .unset, .unset, .unset, .unset, .unset, .unset]) rfl k) ?_
    refine own_goW (T1 := s₁) (g1 := (mkF m 45 #[.val (.int i0), .val (.int i1), .val (.int i2), .val (.int i3), .val (.int ((i0 &&& (2147483647 : Int32)) % (3 : Int32))), .val (.int (((own_ushr i0 (8 : Int32)) &&& (2147483647 : Int32)) % (3 : Int32))), .val (.int (i1 &&& (3 : Int32))), .val (.int ((((i1 &&& (3 : Int32)) + (1 : Int32)) + ((own_ushr i1 (2 : Int32)) % (3 : Int32))) &&& (3 : Int32))), .val (.int (i2 &&& (3 : Int32))), .unset, .unset, .unset, .unset, .unset, .unset, .unset, .unset] [(.int (i2 &&& (3 : Int32)))])) (fun _ k => XS.iload X0.here hx rfl (hb hby at_43) rfl k) ?_
    refine own_goW (T1 := s₁) (g1 := (mkF m 46 #[.val (.int i0), .val (.int i1), .val (.int i2), .val (.int i3), .val (.int ((i0 &&& (2147483647 : Int32)) % (3 : Int32))), .val (.int (((own_ushr i0 (8 : Int32)) &&& (2147483647 : Int32)) % (3 : Int32))), .val (.int (i1 &&& (3 : Int32))), .val (.int ((((i1 &&& (3 : Int32)) + (1 : Int32)) + ((own_ushr i1 (2 : Int32)) % (3 : Int32))) &&& (3 : Int32))), .val (.int (i2 &&& (3 : Int32))), .unset, .unset, .unset, .unset, .unset, .unset, .unset, .unset] [(.int (1 : Int32)), (.int (i2 &&& (3 : Int32)))])) (fun _ k => XS.iconst X0.here hx rfl (hb hby at_45) k) ?_
    refine own_goW (T1 := s₁) (g1 := (mkF m 47 #[.val (.int i0), .val (.int i1), .val (.int i2), .val (.int i3), .val (.int ((i0 &&& (2147483647 : Int32)) % (3 : Int32))), .val (.int (((own_ushr i0 (8 : Int32)) &&& (2147483647 : Int32)) % (3 : Int32))), .val (.int (i1 &&& (3 : Int32))), .val (.int ((((i1 &&& (3 : Int32)) + (1 : Int32)) + ((own_ushr i1 (2 : Int32)) % (3 : Int32))) &&& (3 : Int32))), .val (.int (i2 &&& (3 : Int32))), .unset, .unset, .unset, .unset, .unset, .unset, .unset, .unset] [(.int ((i2 &&& (3 : Int32)) + (1 : Int32)))])) (fun _ k => XS.iadd X0.here hx rfl (hb hby at_46) rfl k) ?_
    refine own_goW (T1 := s₁) (g1 := (mkF m 48 #[.val (.int i0), .val (.int i1), .val (.int i2), .val (.int i3), .val (.int ((i0 &&& (2147483647 : Int32)) % (3 : Int32))), .val (.int (((own_ushr i0 (8 : Int32)) &&& (2147483647 : Int32)) % (3 : Int32))), .val (.int (i1 &&& (3 : Int32))), .val (.int ((((i1 &&& (3 : Int32)) + (1 : Int32)) + ((own_ushr i1 (2 : Int32)) % (3 : Int32))) &&& (3 : Int32))), .val (.int (i2 &&& (3 : Int32))), .unset, .unset, .unset, .unset, .unset, .unset, .unset, .unset] [(.int i2), (.int ((i2 &&& (3 : Int32)) + (1 : Int32)))])) (fun _ k => XS.iloadN X0.here hx rfl (hb hby at_47) rfl k) ?_
    refine own_goW (T1 := s₁) (g1 := (mkF m 49 #[.val (.int i0), .val (.int i1), .val (.int i2), .val (.int i3), .val (.int ((i0 &&& (2147483647 : Int32)) % (3 : Int32))), .val (.int (((own_ushr i0 (8 : Int32)) &&& (2147483647 : Int32)) % (3 : Int32))), .val (.int (i1 &&& (3 : Int32))), .val (.int ((((i1 &&& (3 : Int32)) + (1 : Int32)) + ((own_ushr i1 (2 : Int32)) % (3 : Int32))) &&& (3 : Int32))), .val (.int (i2 &&& (3 : Int32))), .unset, .unset, .unset, .unset, .unset, .unset, .unset, .unset] [(.int (2 : Int32)), (.int i2), (.int ((i2 &&& (3 : Int32)) + (1 : Int32)))])) (fun _ k => XS.iconst X0.here hx rfl (hb hby at_48) k) ?_
    refine own_goW (T1 := s₁) (g1 := (mkF m 50 #[.val (.int i0), .val (.int i1), .val (.int i2), .val (.int i3), .val (.int ((i0 &&& (2147483647 : Int32)) % (3 : Int32))), .val (.int (((own_ushr i0 (8 : Int32)) &&& (2147483647 : Int32)) % (3 : Int32))), .val (.int (i1 &&& (3 : Int32))), .val (.int ((((i1 &&& (3 : Int32)) + (1 : Int32)) + ((own_ushr i1 (2 : Int32)) % (3 : Int32))) &&& (3 : Int32))), .val (.int (i2 &&& (3 : Int32))), .unset, .unset, .unset, .unset, .unset, .unset, .unset, .unset] [(.int (own_ushr i2 (2 : Int32))), (.int ((i2 &&& (3 : Int32)) + (1 : Int32)))])) (fun _ k => XS.iushr X0.here hx rfl (hb hby at_49) rfl k) ?_
    refine own_goW (T1 := s₁) (g1 := (mkF m 51 #[.val (.int i0), .val (.int i1), .val (.int i2), .val (.int i3), .val (.int ((i0 &&& (2147483647 : Int32)) % (3 : Int32))), .val (.int (((own_ushr i0 (8 : Int32)) &&& (2147483647 : Int32)) % (3 : Int32))), .val (.int (i1 &&& (3 : Int32))), .val (.int ((((i1 &&& (3 : Int32)) + (1 : Int32)) + ((own_ushr i1 (2 : Int32)) % (3 : Int32))) &&& (3 : Int32))), .val (.int (i2 &&& (3 : Int32))), .unset, .unset, .unset, .unset, .unset, .unset, .unset, .unset] [(.int (3 : Int32)), (.int (own_ushr i2 (2 : Int32))), (.int ((i2 &&& (3 : Int32)) + (1 : Int32)))])) (fun _ k => XS.iconst X0.here hx rfl (hb hby at_50) k) ?_
    refine own_goW (T1 := s₁) (g1 := (mkF m 52 #[.val (.int i0), .val (.int i1), .val (.int i2), .val (.int i3), .val (.int ((i0 &&& (2147483647 : Int32)) % (3 : Int32))), .val (.int (((own_ushr i0 (8 : Int32)) &&& (2147483647 : Int32)) % (3 : Int32))), .val (.int (i1 &&& (3 : Int32))), .val (.int ((((i1 &&& (3 : Int32)) + (1 : Int32)) + ((own_ushr i1 (2 : Int32)) % (3 : Int32))) &&& (3 : Int32))), .val (.int (i2 &&& (3 : Int32))), .unset, .unset, .unset, .unset, .unset, .unset, .unset, .unset] [(.int ((own_ushr i2 (2 : Int32)) % (3 : Int32))), (.int ((i2 &&& (3 : Int32)) + (1 : Int32)))])) (fun _ k => iremM X0 hx rfl (hb hby at_51) rfl (by decide) k) ?_
    refine own_goW (T1 := s₁) (g1 := (mkF m 53 #[.val (.int i0), .val (.int i1), .val (.int i2), .val (.int i3), .val (.int ((i0 &&& (2147483647 : Int32)) % (3 : Int32))), .val (.int (((own_ushr i0 (8 : Int32)) &&& (2147483647 : Int32)) % (3 : Int32))), .val (.int (i1 &&& (3 : Int32))), .val (.int ((((i1 &&& (3 : Int32)) + (1 : Int32)) + ((own_ushr i1 (2 : Int32)) % (3 : Int32))) &&& (3 : Int32))), .val (.int (i2 &&& (3 : Int32))), .unset, .unset, .unset, .unset, .unset, .unset, .unset, .unset] [(.int (((i2 &&& (3 : Int32)) + (1 : Int32)) + ((own_ushr i2 (2 : Int32)) % (3 : Int32))))])) (fun _ k => XS.iadd X0.here hx rfl (hb hby at_52) rfl k) ?_
    refine own_goW (T1 := s₁) (g1 := (mkF m 54 #[.val (.int i0), .val (.int i1), .val (.int i2), .val (.int i3), .val (.int ((i0 &&& (2147483647 : Int32)) % (3 : Int32))), .val (.int (((own_ushr i0 (8 : Int32)) &&& (2147483647 : Int32)) % (3 : Int32))), .val (.int (i1 &&& (3 : Int32))), .val (.int ((((i1 &&& (3 : Int32)) + (1 : Int32)) + ((own_ushr i1 (2 : Int32)) % (3 : Int32))) &&& (3 : Int32))), .val (.int (i2 &&& (3 : Int32))), .unset, .unset, .unset, .unset, .unset, .unset, .unset, .unset] [(.int (3 : Int32)), (.int (((i2 &&& (3 : Int32)) + (1 : Int32)) + ((own_ushr i2 (2 : Int32)) % (3 : Int32))))])) (fun _ k => XS.iconst X0.here hx rfl (hb hby at_53) k) ?_
    refine own_goW (T1 := s₁) (g1 := (mkF m 55 #[.val (.int i0), .val (.int i1), .val (.int i2), .val (.int i3), .val (.int ((i0 &&& (2147483647 : Int32)) % (3 : Int32))), .val (.int (((own_ushr i0 (8 : Int32)) &&& (2147483647 : Int32)) % (3 : Int32))), .val (.int (i1 &&& (3 : Int32))), .val (.int ((((i1 &&& (3 : Int32)) + (1 : Int32)) + ((own_ushr i1 (2 : Int32)) % (3 : Int32))) &&& (3 : Int32))), .val (.int (i2 &&& (3 : Int32))), .unset, .unset, .unset, .unset, .unset, .unset, .unset, .unset] [(.int ((((i2 &&& (3 : Int32)) + (1 : Int32)) + ((own_ushr i2 (2 : Int32)) % (3 : Int32))) &&& (3 : Int32)))])) (fun _ k => XS.iand X0.here hx rfl (hb hby at_54) rfl k) ?_
    refine own_goW (T1 := s₁) (g1 := (mkF m 57 #[.val (.int i0), .val (.int i1), .val (.int i2), .val (.int i3), .val (.int ((i0 &&& (2147483647 : Int32)) % (3 : Int32))), .val (.int (((own_ushr i0 (8 : Int32)) &&& (2147483647 : Int32)) % (3 : Int32))), .val (.int (i1 &&& (3 : Int32))), .val (.int ((((i1 &&& (3 : Int32)) + (1 : Int32)) + ((own_ushr i1 (2 : Int32)) % (3 : Int32))) &&& (3 : Int32))), .val (.int (i2 &&& (3 : Int32))), .val (.int ((((i2 &&& (3 : Int32)) + (1 : Int32)) + ((own_ushr i2 (2 : Int32)) % (3 : Int32))) &&& (3 : Int32))), .unset, .unset, .unset, .unset, .unset, .unset, .unset] [])) (fun _ k => XS.istore X0.here hx rfl (hb hby at_55) rfl (l' := #[.val (.int i0), .val (.int i1), .val (.int i2), .val (.int i3), .val (.int ((i0 &&& (2147483647 : Int32)) % (3 : Int32))), .val (.int (((own_ushr i0 (8 : Int32)) &&& (2147483647 : Int32)) % (3 : Int32))), .val (.int (i1 &&& (3 : Int32))), .val (.int ((((i1 &&& (3 : Int32)) + (1 : Int32)) + ((own_ushr i1 (2 : Int32)) % (3 : Int32))) &&& (3 : Int32))), .val (.int (i2 &&& (3 : Int32))), .val (.int ((((i2 &&& (3 : Int32)) + (1 : Int32)) + ((own_ushr i2 (2 : Int32)) % (3 : Int32))) &&& (3 : Int32))), .unset, .unset, .unset, .unset, .unset, .unset, .unset]) rfl k) ?_
    obtain ⟨nn, hn, en⟩ := own_n3 i0
    obtain ⟨mm, hm, em⟩ := own_n3 (own_ushr i0 (8 : Int32))
    rw [en, em]
    exact own_l57 i0 i1 i2 i3 nn mm hn hm (i1 &&& (3 : Int32)) ((((i1 &&& (3 : Int32)) + (1 : Int32)) + ((own_ushr i1 (2 : Int32)) % (3 : Int32))) &&& (3 : Int32)) (i2 &&& (3 : Int32)) ((((i2 &&& (3 : Int32)) + (1 : Int32)) + ((own_ushr i2 (2 : Int32)) % (3 : Int32))) &&& (3 : Int32)) d0 kd0 (own_m3 _) (own_m3 _) (own_m3 _) (own_m3 _) X0 hx hZ hw hby hml hown e0 N0 Z0 Ol S0 Vd0
  obtain ⟨T', L', k', n', vm', kS, pcr, Ls, X', hS, hk, h4, h5, N', hd, st⟩ := main
  obtain ⟨fs, hr, hrun, hended, hE⟩ := X'.leaveW hS hk (v := some (.int (1 : Int32))) (fun h => by rw [Bd.returns] at h; cases h)
  refine ⟨_, _, castTop (ef_0 m i0 i1 i2 i3) (st _ ?_), hrun, hended, _, _, rfl, ⟨rfl, N'⟩, ⟨hE.1, hE.2.1, hE.2.2.1, hE.2.2.2.mono h4 h5⟩⟩
  exact retN X' hx (t := .boolean) Bd.returns (by simp) hd hr
set_option maxRecDepth 65536 in
set_option maxHeartbeats 40000000 in
theorem comes_1 {Post : Tables → Env → Array Value → State → Outcome → State → Prop} (hpost : ∀ tb e args s v u, (limb_1_1.after args s (.returned v) u = true ∧ limb_1_2.after args s (.returned v) u = true ∧ True) → Jvm.Pilot.@@N@@.Jvm.D.FramedW s (.returned v) u (Jvm.fieldLocs frame_1_writes args s ++ Jvm.arrayLocs frame_1_arrays args s ++ Jvm.staticLocs frame_1_statics s) 40 2240 → Post tb e args s (.returned v) u) :
    ArmFor flags0 classFile x code maxLocals ret World_1 tables_1 room_1 Calls_1 rest_1 Pre_1 Post := by
  intro l hfl _ _ p e ha hc hk s m args below hf hA hF happ hP
  obtain ⟨hcalls, hrest, hpre⟩ := hP
  obtain ⟨-, -, -, hnamed, -, -, -, hat⟩ := (Spec.applies_iff hf).mp happ
  obtain ⟨hg, hn⟩ := and_e (Cond.before_iff.mp (show (Jvm.Cond.and given_1 narrow_1).before args s = true from hpre))
  obtain ⟨gc, gr0⟩ := and_e hg
  obtain ⟨ga0, gr1⟩ := and_e gr0
  obtain ⟨ga1, gr2⟩ := and_e gr1
  obtain ⟨ga2, gr3⟩ := and_e gr2
  obtain ⟨w0, w1, w2, w3, rfl⟩ : ∃ w0 w1 w2 w3 : Value, args = #[w0, w1, w2, w3] := by
    have hs : args.size = 4 := by simpa [Cond.value, given_1] using gc
    obtain ⟨L⟩ := args
    match L, hs with
    | [w0, w1, w2, w3], _ => exact ⟨w0, w1, w2, w3, rfl⟩
  have hw := fun d (hd : d ∈ tables_1) => atoms_spec (ws := Jvm.Cond.code x code maxLocals ret :: tables_1) hat d (List.mem_cons_of_mem _ hd)
  obtain ⟨i0, ei0⟩ := is_v ga0
  obtain rfl : w0 = (.int i0) := Option.some.inj ei0
  obtain ⟨i1, ei1⟩ := is_v ga1
  obtain rfl : w1 = (.int i1) := Option.some.inj ei1
  obtain ⟨i2, ei2⟩ := is_v ga2
  obtain rfl : w2 = (.int i2) := Option.some.inj ei2
  obtain ⟨i3, ei3⟩ := is_v gr3
  obtain rfl : w3 = (.int i3) := Option.some.inj ei3
  have hfit : Fit s := fun {y c} hc i hi => by
    obtain ⟨ha, rfl⟩ := Array.getElem?_eq_some_iff.mp hc
    have q := List.all_eq_true.mp ((Array.all_eq_true_iff_forall_mem.mp hF) _ (Array.getElem_mem ha)) i (List.mem_range.mpr hi)
    simpa [Array.getElem?_eq_getElem hi] using q
  obtain ⟨hsets, hown0⟩ := atoms_of _ (rest_1_c_eq ▸ (show rest_1_c.before _ s = true from hrest))
  obtain ⟨d0, kd0, S0, Vd0⟩ := own_d0 hfit hsets hw
  obtain ⟨n, o, h1, h2, h3, _, L, rfl, ⟨rfl, N⟩, hq⟩ := rm0 l s _ hw tables_1 i0 i1 i2 i3 d0 kd0 s.heap s.heap.size (Nat.le_refl _) (Old.start s) S0 Vd0 p e ha hc hk s m _ below hf ((Spec.applies_iff_loose hf).mp happ).1 ⟨rfl, State.Warmed39.refl s, rfl⟩ trivial
  refine ⟨n, _, h1, h2, h3, hpost _ _ _ _ _ _ ⟨Cond.after_iff.mpr rfl, Cond.after_iff.mpr (eq_i res_at (Term.int_eval (1)) rfl), trivial⟩ ⟨hq.1, hq.2.1, hq.2.2.1, (hq.2.2.2.sift fun y hy => Or.inr (N y hy)).mono (by decide) (by decide)⟩⟩
theorem main_1_1 : Claimed_1_1 := comes_1 fun _ _ _ _ _ _ h hF => ⟨h.1, hF⟩
theorem main_1_2 : Claimed_1_2 := comes_1 fun _ _ _ _ _ _ h hF => ⟨h.2.1, hF⟩
end Jvm.Pilot.@@N@@
namespace Jvm.Pilot.@@N@@
open Jvm Jvm.ClassFile Sem Op Lib Jvm.Free Jvm.Stand Jvm.Pilot.@@N@@.Jvm.D
/-! MADE BY PROGRAM (witnessworld.py) out of the Statement's table words and the real class files: 33 classes; the members and pool entries that the words name. The judged class is class 1, her method 1. -/
namespace start1
open Jvm.ClassFile
def u (s : String) : CpInfo := .utf8 (stringToUtf16 s)
/-- a pool by its gaps: so many unusable entries, then the entry; so many at the end -/
def gap : Nat → List CpInfo → List CpInfo
  | 0, r => r
  | n + 1, r => .unusable :: gap n r
def poolList (es : List (Nat × CpInfo)) (last : Nat) : List CpInfo := es.foldr (fun e r => gap e.1 (e.2 :: r)) (gap last [])
def pool (es : List (Nat × CpInfo)) (last : Nat) : Array CpInfo := ⟨poolList es last⟩
def fileOf (pool : Array CpInfo) (this : Nat) (attrs : Array Attribute := #[]) (ms : Array MethodInfo := #[]) (fl : Nat := 33) (sup : Nat := 0) (ifs : Array Nat := #[]) (fds : Array FieldInfo := #[]) : ClassFile where
  minorVersion := 0
  majorVersion := 65
  constantPool := pool
  accessFlags := fl
  thisClass := this
  superClass := sup
  interfaces := ifs
  fields := fds
  methods := ms
  attributes := attrs
def plain (name : String) (sup : Option ClassId) : Class where
  name := name
  kind := .ordinary
  loader := none
  accessFlags := 33
  super := sup
  interfaces := #[]
  cf := none
  fields := #[]
  methods := #[]
  instanceTypes := #[]
  staticTypes := #[]
  resolved := #[]
  callSites := []
  init := .initialized
  statics := none
  mirror := none

def pool0 : Array CpInfo := pool [(5, u "<init>"), (0, u "()V"), (1, .class_ 10), (1, u "java/lang/Object"), (85, u "clone"), (0, u "()Ljava/lang/Object;")] 26

def k0c0 : Code := { maxStack := 0, maxLocals := 1, code := object_method_1_code, exceptionTable := #[], attributes := #[] }
def k0m0 : Method := { name := "<init>", desc := "()V", sig := { parameters := [], returnType := none }, accessFlags := 1, code := some k0c0 }
def k0m1 : Method := { name := "clone", desc := "()Ljava/lang/Object;", sig := { parameters := [], returnType := some (.object "java/lang/Object") }, accessFlags := 260, code := none }
/-- java/lang/Object -/
def k0 : Class := { plain "java/lang/Object" none with
  accessFlags := 33
  interfaces := #[]
  cf := some (fileOf pool0 8 #[] #[{ accessFlags := 1, nameIndex := 5, descriptorIndex := 6, attributes := #[] }, { accessFlags := 260, nameIndex := 96, descriptorIndex := 97, attributes := #[] }] 33 0 #[] #[])
  fields := #[]
  methods := #[k0m0, k0m1]
  instanceTypes := #[]
  staticTypes := #[]
  resolved := Array.replicate 124 none
  statics := none }

def pool1 : Array CpInfo := pool [(2, .class_ 4), (0, .nameAndType 5 6), (0, u "java/lang/Object"), (0, u "<init>"), (0, u "()V"), (0, .integer 2147483647), (0, .integer 65536), (0, .class_ 10), (0, u "com/example/sukima/sukima/catalog/Column"), (0, .string 12), (0, u "c"), (0, .methodref 9 14), (0, .nameAndType 5 15), (0, u "(Ljava/lang/String;Lcom/example/sukima/sukima/sql/DataType;ZZLjava/lang/Object;ZZZ)V"), (0, .class_ 17), (0, u "java/util/ArrayList"), (0, .methodref 16 3), (0, .interfaceMethodref 20 21), (0, .class_ 22), (0, .nameAndType 23 24), (0, u "java/util/List"), (0, u "add"), (0, u "(Ljava/lang/Object;)Z"), (0, .class_ 26), (0, u "com/example/sukima/sukima/catalog/Index"), (0, .string 28), (0, u "i"), (0, .methodref 25 30), (0, .nameAndType 5 31), (0, u "(Ljava/lang/String;Z[I[Z[ILjava/util/List;)V"), (0, .methodref 25 33), (0, .nameAndType 34 35), (0, u "placeOf"), (0, u "(I)I"), (0, .methodref 37 38), (0, .class_ 39), (0, .nameAndType 40 41), (0, u "com/example/sukima/sukima/catalog/IndexPlaceOfPinLaw"), (0, u "ref"), (0, u "(IIIIIII)I"), (2, u "law"), (0, u "(IIII)Z")] 7

def k1m0 : Method := { name := "<init>", desc := "()V", sig := { parameters := [], returnType := none }, accessFlags := 1, code := none }
def k1c1 : Code := { maxStack := 10, maxLocals := 17, code := code, exceptionTable := #[], attributes := #[] }
def k1m1 : Method := { name := "law", desc := "(IIII)Z", sig := { parameters := [.int, .int, .int, .int], returnType := some .boolean }, accessFlags := 9, code := some k1c1 }
def k1c2 : Code := { maxStack := 2, maxLocals := 9, code := method_3_code, exceptionTable := #[], attributes := #[] }
def k1m2 : Method := { name := "ref", desc := "(IIIIIII)I", sig := { parameters := [.int, .int, .int, .int, .int, .int, .int], returnType := some .int }, accessFlags := 10, code := some k1c2 }
/-- com/example/sukima/sukima/catalog/IndexPlaceOfPinLaw -/
def k1 : Class := { plain "com/example/sukima/sukima/catalog/IndexPlaceOfPinLaw" (some 0) with
  accessFlags := 49
  interfaces := #[]
  cf := some (fileOf pool1 37 #[] #[{ accessFlags := 1, nameIndex := 5, descriptorIndex := 6, attributes := #[] }, { accessFlags := 9, nameIndex := 44, descriptorIndex := 45, attributes := #[] }, { accessFlags := 10, nameIndex := 40, descriptorIndex := 41, attributes := #[] }] 49 2 #[] #[])
  fields := #[]
  methods := #[k1m0, k1m1, k1m2]
  instanceTypes := #[]
  staticTypes := #[]
  resolved := Array.replicate 53 none
  statics := none }

def pool2 : Array CpInfo := pool [(1, .methodref 2 3), (0, .class_ 4), (0, .nameAndType 5 6), (0, u "java/lang/Object"), (0, u "<init>"), (0, u "()V"), (0, .fieldref 8 9), (0, .class_ 10), (0, .nameAndType 11 12), (0, u "com/example/sukima/sukima/catalog/Column"), (0, u "name"), (0, u "Ljava/lang/String;"), (0, .fieldref 8 14), (0, .nameAndType 15 16), (0, u "type"), (0, u "Lcom/example/sukima/sukima/sql/DataType;"), (0, .fieldref 8 18), (0, .nameAndType 19 20), (0, u "notNull"), (0, u "Z"), (0, .fieldref 8 22), (0, .nameAndType 23 20), (0, u "hasDefault"), (0, .fieldref 8 25), (0, .nameAndType 26 27), (0, u "defaultValue"), (0, u "Ljava/lang/Object;"), (0, .fieldref 8 29), (0, .nameAndType 30 20), (0, u "defaultCurrentTimestamp"), (0, .fieldref 8 32), (0, .nameAndType 33 20), (0, u "onUpdateCurrentTimestamp"), (0, .fieldref 8 35), (0, .nameAndType 36 20), (0, u "autoIncrement"), (0, u "(Ljava/lang/String;Lcom/example/sukima/sukima/sql/DataType;ZZLjava/lang/Object;ZZZ)V"), (3, u "()Lcom/example/sukima/sukima/sql/DataType;")] 4

def k2c0 : Code := { maxStack := 2, maxLocals := 9, code := prog_17_method_1_code, exceptionTable := #[], attributes := #[] }
def k2m0 : Method := { name := "<init>", desc := "(Ljava/lang/String;Lcom/example/sukima/sukima/sql/DataType;ZZLjava/lang/Object;ZZZ)V", sig := { parameters := [(.object "java/lang/String"), (.object "com/example/sukima/sukima/sql/DataType"), .boolean, .boolean, (.object "java/lang/Object"), .boolean, .boolean, .boolean], returnType := none }, accessFlags := 1, code := some k2c0 }
def k2c1 : Code := { maxStack := 1, maxLocals := 1, code := prog_17_method_3_code, exceptionTable := #[], attributes := #[] }
def k2m1 : Method := { name := "type", desc := "()Lcom/example/sukima/sukima/sql/DataType;", sig := { parameters := [], returnType := some (.object "com/example/sukima/sukima/sql/DataType") }, accessFlags := 1, code := some k2c1 }
/-- com/example/sukima/sukima/catalog/Column -/
def k2 : Class := { plain "com/example/sukima/sukima/catalog/Column" (some 0) with
  accessFlags := 33
  interfaces := #[]
  cf := some (fileOf pool2 8 #[] #[{ accessFlags := 1, nameIndex := 5, descriptorIndex := 37, attributes := #[] }, { accessFlags := 1, nameIndex := 15, descriptorIndex := 41, attributes := #[] }] 33 2 #[] #[{ accessFlags := 18, nameIndex := 11, descriptorIndex := 12, attributes := #[] }, { accessFlags := 18, nameIndex := 15, descriptorIndex := 16, attributes := #[] }, { accessFlags := 18, nameIndex := 19, descriptorIndex := 20, attributes := #[] }, { accessFlags := 18, nameIndex := 23, descriptorIndex := 20, attributes := #[] }, { accessFlags := 18, nameIndex := 26, descriptorIndex := 27, attributes := #[] }, { accessFlags := 18, nameIndex := 30, descriptorIndex := 20, attributes := #[] }, { accessFlags := 18, nameIndex := 33, descriptorIndex := 20, attributes := #[] }, { accessFlags := 18, nameIndex := 36, descriptorIndex := 20, attributes := #[] }])
  fields := #[{ name := "name", type := (.object "java/lang/String"), accessFlags := 18, slot := 0, constantValue := 0 }, { name := "type", type := (.object "com/example/sukima/sukima/sql/DataType"), accessFlags := 18, slot := 1, constantValue := 0 }, { name := "notNull", type := .boolean, accessFlags := 18, slot := 2, constantValue := 0 }, { name := "hasDefault", type := .boolean, accessFlags := 18, slot := 3, constantValue := 0 }, { name := "defaultValue", type := (.object "java/lang/Object"), accessFlags := 18, slot := 4, constantValue := 0 }, { name := "defaultCurrentTimestamp", type := .boolean, accessFlags := 18, slot := 5, constantValue := 0 }, { name := "onUpdateCurrentTimestamp", type := .boolean, accessFlags := 18, slot := 6, constantValue := 0 }, { name := "autoIncrement", type := .boolean, accessFlags := 18, slot := 7, constantValue := 0 }]
  methods := #[k2m0, k2m1]
  instanceTypes := #[(.object "java/lang/String"), (.object "com/example/sukima/sukima/sql/DataType"), .boolean, .boolean, (.object "java/lang/Object"), .boolean, .boolean, .boolean]
  staticTypes := #[]
  resolved := Array.replicate 46 none
  statics := none }

def pool3 : Array CpInfo := pool [(1, .class_ 2), (0, u "java/io/Serializable"), (0, .class_ 4), (0, u "java/lang/Object")] 2

/-- java/io/Serializable -/
def k3 : Class := { plain "java/io/Serializable" (some 0) with
  accessFlags := 1537
  interfaces := #[]
  cf := some (fileOf pool3 1 #[] #[] 1537 3 #[] #[])
  fields := #[]
  methods := #[]
  instanceTypes := #[]
  staticTypes := #[]
  resolved := Array.replicate 7 none
  statics := none }

def pool4 : Array CpInfo := pool [(1, .class_ 2), (0, u "java/lang/Comparable"), (0, .class_ 4), (0, u "java/lang/Object")] 7

/-- java/lang/Comparable -/
def k4 : Class := { plain "java/lang/Comparable" (some 0) with
  accessFlags := 1537
  interfaces := #[]
  cf := some (fileOf pool4 1 #[] #[] 1537 3 #[] #[])
  fields := #[]
  methods := #[]
  instanceTypes := #[]
  staticTypes := #[]
  resolved := Array.replicate 12 none
  statics := none }

def pool5 : Array CpInfo := pool [(2, .class_ 4), (1, u "java/lang/CharSequence"), (42, .class_ 48), (0, u "java/lang/CharSequence$1CodePointIterator"), (10, .class_ 60), (0, u "java/lang/CharSequence$1CharIterator"), (5, .class_ 67), (0, u "java/lang/Object")] 63

/-- java/lang/CharSequence -/
def k5 : Class := { plain "java/lang/CharSequence" (some 0) with
  accessFlags := 1537
  interfaces := #[]
  cf := some (fileOf pool5 2 #[.nestMembers #[47, 59]] #[] 1537 66 #[] #[])
  fields := #[]
  methods := #[]
  instanceTypes := #[]
  staticTypes := #[]
  resolved := Array.replicate 131 none
  statics := none }

def pool6 : Array CpInfo := pool [(1, .class_ 2), (0, u "java/lang/constant/Constable"), (0, .class_ 4), (0, u "java/lang/Object")] 6

/-- java/lang/constant/Constable -/
def k6 : Class := { plain "java/lang/constant/Constable" (some 0) with
  accessFlags := 1537
  interfaces := #[]
  cf := some (fileOf pool6 1 #[] #[] 1537 3 #[] #[])
  fields := #[]
  methods := #[]
  instanceTypes := #[]
  staticTypes := #[]
  resolved := Array.replicate 11 none
  statics := none }

def pool7 : Array CpInfo := pool [(1, .class_ 2), (0, u "java/lang/constant/ConstantDesc"), (0, .class_ 4), (0, u "java/lang/Object")] 32

/-- java/lang/constant/ConstantDesc -/
def k7 : Class := { plain "java/lang/constant/ConstantDesc" (some 0) with
  accessFlags := 1537
  interfaces := #[]
  cf := some (fileOf pool7 1 #[] #[] 1537 3 #[] #[])
  fields := #[]
  methods := #[]
  instanceTypes := #[]
  staticTypes := #[]
  resolved := Array.replicate 37 none
  statics := none }

def pool8 : Array CpInfo := pool [(2, .class_ 4), (1, u "java/lang/Object"), (0, u "<init>"), (0, u "()V"), (3, .class_ 12), (1, u "java/lang/String"), (0, u "value"), (0, u "[B"), (2, u "coder"), (0, u "B"), (2, u "hash"), (0, u "I"), (2, u "hashIsZero"), (0, u "Z"), (13, u "COMPACT_STRINGS"), (534, .class_ 576), (0, u "java/lang/CharSequence"), (22, u "CASE_INSENSITIVE_ORDER"), (0, u "Ljava/util/Comparator;"), (500, u "serialPersistentFields"), (0, u "[Ljava/io/ObjectStreamField;"), (0, .class_ 1104), (0, u "java/lang/String$CaseInsensitiveComparator"), (1, .class_ 1107), (0, u "java/io/Serializable"), (0, .class_ 1109), (0, u "java/lang/Comparable"), (0, .class_ 1111), (0, u "java/lang/constant/Constable"), (0, .class_ 1113), (0, u "java/lang/constant/ConstantDesc"), (2, u "serialVersionUID"), (0, u "J"), (3, u "REPL"), (0, u "C"), (2, u "LATIN1"), (1, u "UTF16")] 323

def k8m0 : Method := { name := "<init>", desc := "()V", sig := { parameters := [], returnType := none }, accessFlags := 1, code := none }
/-- java/lang/String -/
def k8 : Class := { plain "java/lang/String" (some 0) with
  accessFlags := 49
  interfaces := #[3, 4, 5, 6, 7]
  cf := some (fileOf pool8 10 #[.nestMembers #[1103]] #[{ accessFlags := 1, nameIndex := 5, descriptorIndex := 6, attributes := #[] }] 49 2 #[1106, 1108, 575, 1110, 1112] #[{ accessFlags := 18, nameIndex := 13, descriptorIndex := 14, attributes := #[] }, { accessFlags := 18, nameIndex := 17, descriptorIndex := 18, attributes := #[] }, { accessFlags := 2, nameIndex := 21, descriptorIndex := 22, attributes := #[] }, { accessFlags := 2, nameIndex := 25, descriptorIndex := 26, attributes := #[] }, { accessFlags := 26, nameIndex := 1116, descriptorIndex := 1117, attributes := #[] }, { accessFlags := 24, nameIndex := 40, descriptorIndex := 26, attributes := #[] }, { accessFlags := 26, nameIndex := 1101, descriptorIndex := 1102, attributes := #[] }, { accessFlags := 26, nameIndex := 1121, descriptorIndex := 1122, attributes := #[] }, { accessFlags := 25, nameIndex := 599, descriptorIndex := 600, attributes := #[] }, { accessFlags := 24, nameIndex := 1125, descriptorIndex := 18, attributes := #[] }, { accessFlags := 24, nameIndex := 1127, descriptorIndex := 18, attributes := #[] }])
  fields := #[{ name := "value", type := (.array .byte), accessFlags := 18, slot := 0, constantValue := 0 }, { name := "coder", type := .byte, accessFlags := 18, slot := 1, constantValue := 0 }, { name := "hash", type := .int, accessFlags := 2, slot := 2, constantValue := 0 }, { name := "hashIsZero", type := .boolean, accessFlags := 2, slot := 3, constantValue := 0 }, { name := "serialVersionUID", type := .long, accessFlags := 26, slot := 0, constantValue := 0 }, { name := "COMPACT_STRINGS", type := .boolean, accessFlags := 24, slot := 1, constantValue := 0 }, { name := "serialPersistentFields", type := (.array (.object "java/io/ObjectStreamField")), accessFlags := 26, slot := 2, constantValue := 0 }, { name := "REPL", type := .char, accessFlags := 26, slot := 3, constantValue := 0 }, { name := "CASE_INSENSITIVE_ORDER", type := (.object "java/util/Comparator"), accessFlags := 25, slot := 4, constantValue := 0 }, { name := "LATIN1", type := .byte, accessFlags := 24, slot := 5, constantValue := 0 }, { name := "UTF16", type := .byte, accessFlags := 24, slot := 6, constantValue := 0 }]
  methods := #[k8m0]
  instanceTypes := #[(.array .byte), .byte, .int, .boolean]
  staticTypes := #[.long, .boolean, (.array (.object "java/io/ObjectStreamField")), .char, (.object "java/util/Comparator"), .byte, .byte]
  resolved := Array.replicate 1451 none
  statics := none }

def pool9 : Array CpInfo := pool [(8, .class_ 10), (1, u "java/lang/Iterable"), (24, .class_ 36), (0, u "java/lang/Object")] 25

/-- java/lang/Iterable -/
def k9 : Class := { plain "java/lang/Iterable" (some 0) with
  accessFlags := 1537
  interfaces := #[]
  cf := some (fileOf pool9 8 #[] #[] 1537 35 #[] #[])
  fields := #[]
  methods := #[]
  instanceTypes := #[]
  staticTypes := #[]
  resolved := Array.replicate 62 none
  statics := none }

def pool10 : Array CpInfo := pool [(10, .class_ 12), (1, u "java/util/Collection"), (47, .class_ 61), (0, u "java/lang/Object"), (0, .class_ 63), (0, u "java/lang/Iterable")] 51

/-- java/util/Collection -/
def k10 : Class := { plain "java/util/Collection" (some 0) with
  accessFlags := 1537
  interfaces := #[9]
  cf := some (fileOf pool10 10 #[] #[] 1537 60 #[62] #[])
  fields := #[]
  methods := #[]
  instanceTypes := #[]
  staticTypes := #[]
  resolved := Array.replicate 115 none
  statics := none }

def pool11 : Array CpInfo := pool [(1, .methodref 2 3), (0, .class_ 4), (0, .nameAndType 5 6), (0, u "java/lang/Object"), (0, u "<init>"), (0, u "()V"), (1, .class_ 10), (1, u "java/util/AbstractCollection"), (66, .class_ 78), (0, u "java/util/Collection")] 81

def k11c0 : Code := { maxStack := 1, maxLocals := 1, code := jdk_22_method_1_code, exceptionTable := #[], attributes := #[] }
def k11m0 : Method := { name := "<init>", desc := "()V", sig := { parameters := [], returnType := none }, accessFlags := 4, code := some k11c0 }
/-- java/util/AbstractCollection -/
def k11 : Class := { plain "java/util/AbstractCollection" (some 0) with
  accessFlags := 1057
  interfaces := #[10]
  cf := some (fileOf pool11 8 #[] #[{ accessFlags := 4, nameIndex := 5, descriptorIndex := 6, attributes := #[] }] 1057 2 #[77] #[])
  fields := #[]
  methods := #[k11m0]
  instanceTypes := #[]
  staticTypes := #[]
  resolved := Array.replicate 160 none
  statics := none }

def pool12 : Array CpInfo := pool [(8, .class_ 10), (1, u "java/util/SequencedCollection"), (15, .class_ 27), (0, u "java/lang/Object"), (0, .class_ 29), (0, u "java/util/Collection")] 27

/-- java/util/SequencedCollection -/
def k12 : Class := { plain "java/util/SequencedCollection" (some 0) with
  accessFlags := 1537
  interfaces := #[10]
  cf := some (fileOf pool12 8 #[] #[] 1537 26 #[28] #[])
  fields := #[]
  methods := #[]
  instanceTypes := #[]
  staticTypes := #[]
  resolved := Array.replicate 57 none
  statics := none }

def pool13 : Array CpInfo := pool [(8, .class_ 10), (1, u "java/util/List"), (49, u "add"), (3, u "(Ljava/lang/Object;)Z"), (10, u "get"), (0, u "(I)Ljava/lang/Object;"), (26, .class_ 104), (0, u "java/lang/Object"), (15, .class_ 121), (0, u "java/util/SequencedCollection")] 129

def k13m0 : Method := { name := "add", desc := "(Ljava/lang/Object;)Z", sig := { parameters := [(.object "java/lang/Object")], returnType := some .boolean }, accessFlags := 1025, code := none }
def k13m1 : Method := { name := "get", desc := "(I)Ljava/lang/Object;", sig := { parameters := [.int], returnType := some (.object "java/lang/Object") }, accessFlags := 1025, code := none }
/-- java/util/List -/
def k13 : Class := { plain "java/util/List" (some 0) with
  accessFlags := 1537
  interfaces := #[12]
  cf := some (fileOf pool13 8 #[] #[{ accessFlags := 1025, nameIndex := 60, descriptorIndex := 64, attributes := #[] }, { accessFlags := 1025, nameIndex := 75, descriptorIndex := 76, attributes := #[] }] 1537 103 #[120] #[])
  fields := #[]
  methods := #[k13m0, k13m1]
  instanceTypes := #[]
  staticTypes := #[]
  resolved := Array.replicate 251 none
  statics := none }

def pool14 : Array CpInfo := pool [(1, .methodref 2 3), (0, .class_ 4), (0, .nameAndType 5 6), (0, u "java/util/AbstractCollection"), (0, u "<init>"), (0, u "()V"), (0, .fieldref 8 9), (0, .class_ 10), (0, .nameAndType 11 12), (0, u "java/util/AbstractList"), (0, u "modCount"), (0, u "I"), (64, .class_ 78), (0, u "java/util/AbstractList$Itr"), (3, .class_ 83), (0, u "java/util/AbstractList$ListItr"), (9, .class_ 94), (0, u "java/util/AbstractList$RandomAccessSubList"), (3, .class_ 99), (0, u "java/util/AbstractList$SubList"), (33, .class_ 134), (0, u "java/util/List"), (73, .class_ 209), (0, u "java/util/AbstractList$SubList$1"), (0, .class_ 211), (0, u "java/util/AbstractList$RandomAccessSpliterator")] 6

def k14c0 : Code := { maxStack := 2, maxLocals := 1, code := jdk_39_method_1_code, exceptionTable := #[], attributes := #[] }
def k14m0 : Method := { name := "<init>", desc := "()V", sig := { parameters := [], returnType := none }, accessFlags := 4, code := some k14c0 }
/-- java/util/AbstractList -/
def k14 : Class := { plain "java/util/AbstractList" (some 11) with
  accessFlags := 1057
  interfaces := #[13]
  cf := some (fileOf pool14 8 #[.nestMembers #[93, 98, 208, 210, 82, 77]] #[{ accessFlags := 4, nameIndex := 5, descriptorIndex := 6, attributes := #[] }] 1057 2 #[133] #[{ accessFlags := 132, nameIndex := 11, descriptorIndex := 12, attributes := #[] }])
  fields := #[{ name := "modCount", type := .int, accessFlags := 132, slot := 0, constantValue := 0 }]
  methods := #[k14m0]
  instanceTypes := #[.int]
  staticTypes := #[]
  resolved := Array.replicate 218 none
  statics := none }

def pool15 : Array CpInfo := pool [(1, .class_ 2), (0, u "java/util/RandomAccess"), (0, .class_ 4), (0, u "java/lang/Object")] 2

/-- java/util/RandomAccess -/
def k15 : Class := { plain "java/util/RandomAccess" (some 0) with
  accessFlags := 1537
  interfaces := #[]
  cf := some (fileOf pool15 1 #[] #[] 1537 3 #[] #[])
  fields := #[]
  methods := #[]
  instanceTypes := #[]
  staticTypes := #[]
  resolved := Array.replicate 7 none
  statics := none }

def pool16 : Array CpInfo := pool [(1, .class_ 2), (0, u "java/lang/Cloneable"), (0, .class_ 4), (0, u "java/lang/Object")] 2

/-- java/lang/Cloneable -/
def k16 : Class := { plain "java/lang/Cloneable" (some 0) with
  accessFlags := 1537
  interfaces := #[]
  cf := some (fileOf pool16 1 #[] #[] 1537 3 #[] #[])
  fields := #[]
  methods := #[]
  instanceTypes := #[]
  staticTypes := #[]
  resolved := Array.replicate 7 none
  statics := none }

def pool17 : Array CpInfo := pool [(1, .methodref 2 3), (0, .class_ 4), (0, .nameAndType 5 6), (0, u "java/util/AbstractList"), (0, u "<init>"), (0, u "()V"), (0, .class_ 8), (0, u "java/lang/Object"), (0, .fieldref 10 11), (0, .class_ 12), (0, .nameAndType 13 14), (0, u "java/util/ArrayList"), (0, u "elementData"), (0, u "[Ljava/lang/Object;"), (2, u "EMPTY_ELEMENTDATA"), (21, .fieldref 10 40), (0, .nameAndType 41 14), (0, u "DEFAULTCAPACITY_EMPTY_ELEMENTDATA"), (5, u "()[Ljava/lang/Object;"), (0, .fieldref 10 49), (0, .nameAndType 50 51), (0, u "size"), (0, u "I"), (11, .fieldref 10 64), (0, .nameAndType 65 51), (0, u "modCount"), (3, .methodref 10 70), (0, .nameAndType 71 72), (0, u "grow"), (0, u "(I)[Ljava/lang/Object;"), (6, .methodref 80 81), (0, .class_ 82), (0, .nameAndType 83 84), (0, u "java/lang/Math"), (0, u "max"), (0, u "(II)I"), (11, u "(Ljava/lang/Object;)Z"), (21, .methodref 119 120), (0, .class_ 121), (0, .nameAndType 122 84), (0, u "java/util/Objects"), (0, u "checkIndex"), (0, .methodref 10 124), (0, .nameAndType 13 125), (0, u "(I)Ljava/lang/Object;"), (3, .methodref 10 130), (0, .nameAndType 71 47), (0, .methodref 10 132), (0, .nameAndType 133 134), (0, u "add"), (0, u "(Ljava/lang/Object;[Ljava/lang/Object;I)V"), (13, .class_ 149), (0, u "java/util/List"), (112, .class_ 263), (0, u "java/util/ArrayList$ListItr"), (3, .class_ 268), (0, u "java/util/ArrayList$Itr"), (7, .class_ 277), (0, u "java/util/ArrayList$SubList"), (12, .class_ 291), (0, u "java/util/ArrayList$ArrayListSpliterator"), (37, .class_ 330), (0, u "java/util/RandomAccess"), (0, .class_ 332), (0, u "java/lang/Cloneable"), (0, .class_ 334), (0, u "java/io/Serializable"), (0, u "serialVersionUID"), (0, u "J"), (3, u "DEFAULT_CAPACITY"), (40, u "get"), (118, .class_ 501), (0, u "java/util/ArrayList$SubList$2"), (0, .class_ 503), (0, u "java/util/ArrayList$SubList$1")] 5

def k17c0 : Code := { maxStack := 2, maxLocals := 1, code := jdk_38_method_2_code, exceptionTable := #[], attributes := #[] }
def k17m0 : Method := { name := "<init>", desc := "()V", sig := { parameters := [], returnType := none }, accessFlags := 1, code := some k17c0 }
def k17c1 : Code := { maxStack := 4, maxLocals := 4, code := jdk_38_method_6_code, exceptionTable := #[], attributes := #[] }
def k17m1 : Method := { name := "grow", desc := "(I)[Ljava/lang/Object;", sig := { parameters := [.int], returnType := some (.array (.object "java/lang/Object")) }, accessFlags := 2, code := some k17c1 }
def k17c2 : Code := { maxStack := 3, maxLocals := 1, code := jdk_38_method_7_code, exceptionTable := #[], attributes := #[] }
def k17m2 : Method := { name := "grow", desc := "()[Ljava/lang/Object;", sig := { parameters := [], returnType := some (.array (.object "java/lang/Object")) }, accessFlags := 2, code := some k17c2 }
def k17c3 : Code := { maxStack := 2, maxLocals := 2, code := jdk_38_method_18_code, exceptionTable := #[], attributes := #[] }
def k17m3 : Method := { name := "elementData", desc := "(I)Ljava/lang/Object;", sig := { parameters := [.int], returnType := some (.object "java/lang/Object") }, accessFlags := 0, code := some k17c3 }
def k17c4 : Code := { maxStack := 2, maxLocals := 2, code := jdk_38_method_20_code, exceptionTable := #[], attributes := #[] }
def k17m4 : Method := { name := "get", desc := "(I)Ljava/lang/Object;", sig := { parameters := [.int], returnType := some (.object "java/lang/Object") }, accessFlags := 1, code := some k17c4 }
def k17c5 : Code := { maxStack := 3, maxLocals := 4, code := jdk_38_method_24_code, exceptionTable := #[], attributes := #[] }
def k17m5 : Method := { name := "add", desc := "(Ljava/lang/Object;[Ljava/lang/Object;I)V", sig := { parameters := [(.object "java/lang/Object"), (.array (.object "java/lang/Object")), .int], returnType := none }, accessFlags := 2, code := some k17c5 }
def k17c6 : Code := { maxStack := 4, maxLocals := 2, code := jdk_38_method_25_code, exceptionTable := #[], attributes := #[] }
def k17m6 : Method := { name := "add", desc := "(Ljava/lang/Object;)Z", sig := { parameters := [(.object "java/lang/Object")], returnType := some .boolean }, accessFlags := 1, code := some k17c6 }
/-- java/util/ArrayList -/
def k17 : Class := { plain "java/util/ArrayList" (some 14) with
  accessFlags := 33
  interfaces := #[13, 15, 16, 3]
  cf := some (fileOf pool17 10 #[.nestMembers #[290, 276, 500, 502, 262, 267]] #[{ accessFlags := 1, nameIndex := 5, descriptorIndex := 6, attributes := #[] }, { accessFlags := 2, nameIndex := 71, descriptorIndex := 72, attributes := #[] }, { accessFlags := 2, nameIndex := 71, descriptorIndex := 47, attributes := #[] }, { accessFlags := 0, nameIndex := 13, descriptorIndex := 125, attributes := #[] }, { accessFlags := 1, nameIndex := 381, descriptorIndex := 125, attributes := #[] }, { accessFlags := 2, nameIndex := 133, descriptorIndex := 134, attributes := #[] }, { accessFlags := 1, nameIndex := 133, descriptorIndex := 96, attributes := #[] }] 33 2 #[148, 329, 331, 333] #[{ accessFlags := 26, nameIndex := 335, descriptorIndex := 336, attributes := #[] }, { accessFlags := 26, nameIndex := 340, descriptorIndex := 51, attributes := #[] }, { accessFlags := 26, nameIndex := 17, descriptorIndex := 14, attributes := #[] }, { accessFlags := 26, nameIndex := 41, descriptorIndex := 14, attributes := #[] }, { accessFlags := 128, nameIndex := 13, descriptorIndex := 14, attributes := #[] }, { accessFlags := 2, nameIndex := 50, descriptorIndex := 51, attributes := #[] }])
  fields := #[{ name := "serialVersionUID", type := .long, accessFlags := 26, slot := 0, constantValue := 0 }, { name := "DEFAULT_CAPACITY", type := .int, accessFlags := 26, slot := 1, constantValue := 0 }, { name := "EMPTY_ELEMENTDATA", type := (.array (.object "java/lang/Object")), accessFlags := 26, slot := 2, constantValue := 0 }, { name := "DEFAULTCAPACITY_EMPTY_ELEMENTDATA", type := (.array (.object "java/lang/Object")), accessFlags := 26, slot := 3, constantValue := 0 }, { name := "elementData", type := (.array (.object "java/lang/Object")), accessFlags := 128, slot := 1, constantValue := 0 }, { name := "size", type := .int, accessFlags := 2, slot := 2, constantValue := 0 }]
  methods := #[k17m0, k17m1, k17m2, k17m3, k17m4, k17m5, k17m6]
  instanceTypes := #[.int, (.array (.object "java/lang/Object")), .int]
  staticTypes := #[.long, .int, (.array (.object "java/lang/Object")), (.array (.object "java/lang/Object"))]
  resolved := Array.replicate 509 none
  statics := some 0 }

def pool18 : Array CpInfo := pool [(1, .class_ 2), (0, u "java/lang/Math"), (1, .class_ 6), (1, u "java/lang/Object"), (0, u "<init>"), (0, u "()V"), (89, .class_ 100), (1, u "java/lang/Math$RandomNumberGeneratorHolder"), (71, u "negativeZeroFloatBits"), (0, u "J"), (2, u "negativeZeroDoubleBits"), (21, u "max"), (2, u "min"), (43, u "$assertionsDisabled"), (0, u "Z"), (88, u "(II)I"), (2, u "twoToTheDoubleScaleDown"), (0, u "D"), (4, u "twoToTheDoubleScaleUp"), (9, u "E"), (3, u "PI"), (2, u "TAU"), (2, u "DEGREES_TO_RADIANS"), (0, u "RADIANS_TO_DEGREES")] 94

def k18m0 : Method := { name := "<init>", desc := "()V", sig := { parameters := [], returnType := none }, accessFlags := 2, code := none }
def k18c1 : Code := { maxStack := 2, maxLocals := 2, code := jdk_29_method_65_code, exceptionTable := #[], attributes := #[] }
def k18m1 : Method := { name := "max", desc := "(II)I", sig := { parameters := [.int, .int], returnType := some .int }, accessFlags := 9, code := some k18c1 }
def k18c2 : Code := { maxStack := 2, maxLocals := 2, code := jdk_29_method_69_code, exceptionTable := #[], attributes := #[] }
def k18m2 : Method := { name := "min", desc := "(II)I", sig := { parameters := [.int, .int], returnType := some .int }, accessFlags := 9, code := some k18c2 }
/-- java/lang/Math -/
def k18 : Class := { plain "java/lang/Math" (some 0) with
  accessFlags := 49
  interfaces := #[]
  cf := some (fileOf pool18 1 #[.nestMembers #[98]] #[{ accessFlags := 2, nameIndex := 7, descriptorIndex := 8, attributes := #[] }, { accessFlags := 9, nameIndex := 198, descriptorIndex := 335, attributes := #[] }, { accessFlags := 9, nameIndex := 201, descriptorIndex := 335, attributes := #[] }] 49 4 #[] #[{ accessFlags := 25, nameIndex := 354, descriptorIndex := 339, attributes := #[] }, { accessFlags := 25, nameIndex := 358, descriptorIndex := 339, attributes := #[] }, { accessFlags := 25, nameIndex := 361, descriptorIndex := 339, attributes := #[] }, { accessFlags := 26, nameIndex := 364, descriptorIndex := 339, attributes := #[] }, { accessFlags := 26, nameIndex := 365, descriptorIndex := 339, attributes := #[] }, { accessFlags := 26, nameIndex := 172, descriptorIndex := 173, attributes := #[] }, { accessFlags := 26, nameIndex := 176, descriptorIndex := 173, attributes := #[] }, { accessFlags := 8, nameIndex := 344, descriptorIndex := 339, attributes := #[] }, { accessFlags := 8, nameIndex := 338, descriptorIndex := 339, attributes := #[] }, { accessFlags := 4120, nameIndex := 245, descriptorIndex := 246, attributes := #[] }])
  fields := #[{ name := "E", type := .double, accessFlags := 25, slot := 0, constantValue := 0 }, { name := "PI", type := .double, accessFlags := 25, slot := 1, constantValue := 0 }, { name := "TAU", type := .double, accessFlags := 25, slot := 2, constantValue := 0 }, { name := "DEGREES_TO_RADIANS", type := .double, accessFlags := 26, slot := 3, constantValue := 0 }, { name := "RADIANS_TO_DEGREES", type := .double, accessFlags := 26, slot := 4, constantValue := 0 }, { name := "negativeZeroFloatBits", type := .long, accessFlags := 26, slot := 5, constantValue := 0 }, { name := "negativeZeroDoubleBits", type := .long, accessFlags := 26, slot := 6, constantValue := 0 }, { name := "twoToTheDoubleScaleUp", type := .double, accessFlags := 8, slot := 7, constantValue := 0 }, { name := "twoToTheDoubleScaleDown", type := .double, accessFlags := 8, slot := 8, constantValue := 0 }, { name := "$assertionsDisabled", type := .boolean, accessFlags := 4120, slot := 9, constantValue := 0 }]
  methods := #[k18m0, k18m1, k18m2]
  instanceTypes := #[]
  staticTypes := #[.double, .double, .double, .double, .double, .long, .long, .double, .double, .boolean]
  resolved := Array.replicate 460 none
  statics := none }

def pool19 : Array CpInfo := pool [(1, .methodref 2 3), (0, .class_ 4), (0, .nameAndType 5 6), (0, u "java/lang/Object"), (0, u "<init>"), (0, u "()V"), (0, .fieldref 8 9), (0, .class_ 10), (0, .nameAndType 11 12), (0, u "com/example/sukima/sukima/catalog/Index"), (0, u "name"), (0, u "Ljava/lang/String;"), (0, .fieldref 8 14), (0, .nameAndType 15 16), (0, u "unique"), (0, u "Z"), (0, .methodref 18 19), (0, .class_ 20), (0, .nameAndType 21 22), (0, u "[I"), (0, u "clone"), (0, u "()Ljava/lang/Object;"), (0, .fieldref 8 24), (0, .nameAndType 25 20), (0, u "columns"), (0, .methodref 8 27), (0, .nameAndType 28 29), (0, u "keyColumns"), (0, u "([I[I)[I"), (0, .fieldref 8 31), (0, .nameAndType 28 20), (0, .class_ 33), (0, u "com/example/sukima/sukima/sql/DataType"), (0, .fieldref 8 35), (0, .nameAndType 36 37), (0, u "keyTypes"), (0, u "[Lcom/example/sukima/sukima/sql/DataType;"), (0, .interfaceMethodref 39 40), (0, .class_ 41), (0, .nameAndType 42 43), (0, u "java/util/List"), (0, u "get"), (0, u "(I)Ljava/lang/Object;"), (0, .class_ 45), (0, u "com/example/sukima/sukima/catalog/Column"), (0, .methodref 44 47), (0, .nameAndType 48 49), (0, u "type"), (0, u "()Lcom/example/sukima/sukima/sql/DataType;"), (0, .methodref 51 52), (0, .class_ 53), (0, .nameAndType 54 55), (0, u "java/util/Arrays"), (0, u "copyOf"), (0, u "([ZI)[Z"), (0, .fieldref 8 57), (0, .nameAndType 58 59), (0, u "descending"), (0, u "[Z"), (0, .fieldref 8 61), (0, .nameAndType 62 20), (0, u "primaryKeyPlaces"), (0, .methodref 8 64), (0, .nameAndType 65 66), (0, u "placeOf"), (0, u "(I)I"), (0, .methodref 51 68), (0, .nameAndType 54 69), (0, u "([II)[I"), (54, u "LOWEST"), (0, u "Ljava/lang/Object;"), (2, u "HIGHEST"), (4, u "(Ljava/lang/String;Z[I[Z[ILjava/util/List;)V")] 34

def k19c0 : Code := { maxStack := 5, maxLocals := 8, code := prog_19_method_1_code, exceptionTable := #[], attributes := #[] }
def k19m0 : Method := { name := "<init>", desc := "(Ljava/lang/String;Z[I[Z[ILjava/util/List;)V", sig := { parameters := [(.object "java/lang/String"), .boolean, (.array .int), (.array .boolean), (.array .int), (.object "java/util/List")], returnType := none }, accessFlags := 0, code := some k19c0 }
def k19c1 : Code := { maxStack := 3, maxLocals := 13, code := prog_19_method_2_code, exceptionTable := #[], attributes := #[] }
def k19m1 : Method := { name := "keyColumns", desc := "([I[I)[I", sig := { parameters := [(.array .int), (.array .int)], returnType := some (.array .int) }, accessFlags := 10, code := some k19c1 }
def k19c2 : Code := { maxStack := 2, maxLocals := 4, code := prog_19_method_11_code, exceptionTable := #[], attributes := #[] }
def k19m2 : Method := { name := "placeOf", desc := "(I)I", sig := { parameters := [.int], returnType := some .int }, accessFlags := 1, code := some k19c2 }
/-- com/example/sukima/sukima/catalog/Index -/
def k19 : Class := { plain "com/example/sukima/sukima/catalog/Index" (some 0) with
  accessFlags := 33
  interfaces := #[]
  cf := some (fileOf pool19 8 #[] #[{ accessFlags := 0, nameIndex := 5, descriptorIndex := 133, attributes := #[] }, { accessFlags := 10, nameIndex := 28, descriptorIndex := 29, attributes := #[] }, { accessFlags := 1, nameIndex := 65, descriptorIndex := 66, attributes := #[] }] 33 2 #[] #[{ accessFlags := 25, nameIndex := 124, descriptorIndex := 125, attributes := #[] }, { accessFlags := 25, nameIndex := 128, descriptorIndex := 125, attributes := #[] }, { accessFlags := 18, nameIndex := 11, descriptorIndex := 12, attributes := #[] }, { accessFlags := 18, nameIndex := 15, descriptorIndex := 16, attributes := #[] }, { accessFlags := 18, nameIndex := 25, descriptorIndex := 20, attributes := #[] }, { accessFlags := 18, nameIndex := 28, descriptorIndex := 20, attributes := #[] }, { accessFlags := 18, nameIndex := 36, descriptorIndex := 37, attributes := #[] }, { accessFlags := 18, nameIndex := 58, descriptorIndex := 59, attributes := #[] }, { accessFlags := 18, nameIndex := 62, descriptorIndex := 20, attributes := #[] }])
  fields := #[{ name := "LOWEST", type := (.object "java/lang/Object"), accessFlags := 25, slot := 0, constantValue := 0 }, { name := "HIGHEST", type := (.object "java/lang/Object"), accessFlags := 25, slot := 1, constantValue := 0 }, { name := "name", type := (.object "java/lang/String"), accessFlags := 18, slot := 0, constantValue := 0 }, { name := "unique", type := .boolean, accessFlags := 18, slot := 1, constantValue := 0 }, { name := "columns", type := (.array .int), accessFlags := 18, slot := 2, constantValue := 0 }, { name := "keyColumns", type := (.array .int), accessFlags := 18, slot := 3, constantValue := 0 }, { name := "keyTypes", type := (.array (.object "com/example/sukima/sukima/sql/DataType")), accessFlags := 18, slot := 4, constantValue := 0 }, { name := "descending", type := (.array .boolean), accessFlags := 18, slot := 5, constantValue := 0 }, { name := "primaryKeyPlaces", type := (.array .int), accessFlags := 18, slot := 6, constantValue := 0 }]
  methods := #[k19m0, k19m1, k19m2]
  instanceTypes := #[(.object "java/lang/String"), .boolean, (.array .int), (.array .int), (.array (.object "com/example/sukima/sukima/sql/DataType")), (.array .boolean), (.array .int)]
  staticTypes := #[(.object "java/lang/Object"), (.object "java/lang/Object")]
  resolved := Array.replicate 168 none
  statics := none }

def pool20 : Array CpInfo := pool [(2, .class_ 4), (1, u "java/lang/Object"), (0, u "<init>"), (0, u "()V"), (7, .class_ 16), (1, u "java/util/Arrays"), (57, .class_ 76), (1, u "java/util/Arrays$NaturalOrder"), (32, u "()Ljava/lang/Object;"), (3, .class_ 115), (1, u "java/util/Arrays$LegacyMergeSort"), (1, u "Z"), (10, .nameAndType 129 109), (0, u "clone"), (20, .methodref 151 152), (0, .class_ 153), (0, .nameAndType 154 155), (0, u "java/lang/System"), (0, u "arraycopy"), (0, u "(Ljava/lang/Object;ILjava/lang/Object;II)V"), (146, u "copyOf"), (1, .methodref 305 306), (0, .class_ 307), (0, .nameAndType 308 309), (0, u "java/lang/Math"), (0, u "min"), (0, u "(II)I"), (6, .methodref 317 128), (0, .class_ 318), (0, u "[I"), (12, .methodref 332 128), (0, .class_ 333), (0, u "[Z"), (41, .class_ 376), (0, u "java/util/Arrays$ArrayList"), (68, u "$assertionsDisabled"), (269, u "MIN_ARRAY_SORT_GRAN"), (0, u "I"), (2, u "INSERTIONSORT_THRESHOLD"), (151, u "([II)[I"), (4, u "([ZI)[Z"), (98, .class_ 976), (0, u "java/util/Arrays$ArrayItr")] 52

def k20m0 : Method := { name := "<init>", desc := "()V", sig := { parameters := [], returnType := none }, accessFlags := 2, code := none }
def k20c1 : Code := { maxStack := 6, maxLocals := 3, code := jdk_65_method_123_code, exceptionTable := #[], attributes := #[] }
def k20m1 : Method := { name := "copyOf", desc := "([II)[I", sig := { parameters := [(.array .int), .int], returnType := some (.array .int) }, accessFlags := 9, code := some k20c1 }
def k20c2 : Code := { maxStack := 6, maxLocals := 3, code := jdk_65_method_128_code, exceptionTable := #[], attributes := #[] }
def k20m2 : Method := { name := "copyOf", desc := "([ZI)[Z", sig := { parameters := [(.array .boolean), .int], returnType := some (.array .boolean) }, accessFlags := 9, code := some k20c2 }
/-- java/util/Arrays -/
def k20 : Class := { plain "java/util/Arrays" (some 0) with
  accessFlags := 49
  interfaces := #[]
  cf := some (fileOf pool20 14 #[.nestMembers #[975, 375, 113, 74]] #[{ accessFlags := 2, nameIndex := 5, descriptorIndex := 6, attributes := #[] }, { accessFlags := 9, nameIndex := 302, descriptorIndex := 871, attributes := #[] }, { accessFlags := 9, nameIndex := 302, descriptorIndex := 876, attributes := #[] }] 49 2 #[] #[{ accessFlags := 26, nameIndex := 715, descriptorIndex := 716, attributes := #[] }, { accessFlags := 26, nameIndex := 719, descriptorIndex := 716, attributes := #[] }, { accessFlags := 4120, nameIndex := 445, descriptorIndex := 117, attributes := #[] }])
  fields := #[{ name := "MIN_ARRAY_SORT_GRAN", type := .int, accessFlags := 26, slot := 0, constantValue := 0 }, { name := "INSERTIONSORT_THRESHOLD", type := .int, accessFlags := 26, slot := 1, constantValue := 0 }, { name := "$assertionsDisabled", type := .boolean, accessFlags := 4120, slot := 2, constantValue := 0 }]
  methods := #[k20m0, k20m1, k20m2]
  instanceTypes := #[]
  staticTypes := #[.int, .int, .boolean]
  resolved := Array.replicate 1029 none
  statics := none }

def pool21 : Array CpInfo := pool [(6, u "Lcom/example/sukima/sukima/sql/Collation;"), (1, .class_ 10), (1, u "com/example/sukima/sukima/sql/DataType"), (3, .class_ 16), (1, u "java/lang/Object"), (3, u "kind"), (0, u "Lcom/example/sukima/sukima/sql/DataType$Kind;"), (2, u "length"), (0, u "I"), (2, u "scale"), (6, u "collation"), (2, u "unsigned"), (0, u "Z"), (1, .class_ 43), (1, u "com/example/sukima/sukima/sql/DataType$Kind"), (31, u "BIGINT_UNSIGNED_MAXIMUM"), (0, u "Ljava/math/BigDecimal;"), (40, u "Ljava/time/format/DateTimeFormatter;"), (6, u "DATE_TIME_TEXT"), (2, u "NOT_DIGITS"), (0, u "Ljava/util/regex/Pattern;"), (132, u "TRAILING_SPACES"), (142, u "DATE_TIME"), (2, u "DATE_TIME_DIGITS"), (2, u "DATE_TIME_NUMBER_DIGITS"), (0, u "[I"), (28, u "TEXT_BYTES"), (1, u "TIMESTAMP_FIRST"), (0, u "Ljava/lang/String;"), (0, u "TIMESTAMP_LAST"), (0, u "FIRST_TWO_DIGIT_YEAR_OF_1900S"), (1, u "LAST_YEAR"), (1, u "STORED_FRACTION_DIGITS"), (1, u "COMPARED_FRACTION_DIGITS"), (1, u "BEYOND_SUPPORTED_RANGE"), (2, u "MIDNIGHT"), (2, u "PRINTED_BYTES")] 52

/-- com/example/sukima/sukima/sql/DataType -/
def k21 : Class := { plain "com/example/sukima/sukima/sql/DataType" (some 0) with
  accessFlags := 33
  interfaces := #[]
  cf := some (fileOf pool21 8 #[.nestMembers #[41]] #[] 33 14 #[] #[{ accessFlags := 26, nameIndex := 440, descriptorIndex := 25, attributes := #[] }, { accessFlags := 26, nameIndex := 442, descriptorIndex := 443, attributes := #[] }, { accessFlags := 26, nameIndex := 444, descriptorIndex := 443, attributes := #[] }, { accessFlags := 26, nameIndex := 261, descriptorIndex := 128, attributes := #[] }, { accessFlags := 26, nameIndex := 127, descriptorIndex := 128, attributes := #[] }, { accessFlags := 26, nameIndex := 124, descriptorIndex := 117, attributes := #[] }, { accessFlags := 26, nameIndex := 404, descriptorIndex := 128, attributes := #[] }, { accessFlags := 26, nameIndex := 407, descriptorIndex := 128, attributes := #[] }, { accessFlags := 26, nameIndex := 410, descriptorIndex := 411, attributes := #[] }, { accessFlags := 26, nameIndex := 445, descriptorIndex := 25, attributes := #[] }, { accessFlags := 26, nameIndex := 447, descriptorIndex := 25, attributes := #[] }, { accessFlags := 26, nameIndex := 449, descriptorIndex := 25, attributes := #[] }, { accessFlags := 26, nameIndex := 451, descriptorIndex := 25, attributes := #[] }, { accessFlags := 25, nameIndex := 453, descriptorIndex := 443, attributes := #[] }, { accessFlags := 26, nameIndex := 75, descriptorIndex := 76, attributes := #[] }, { accessFlags := 26, nameIndex := 456, descriptorIndex := 443, attributes := #[] }, { accessFlags := 26, nameIndex := 459, descriptorIndex := 25, attributes := #[] }, { accessFlags := 18, nameIndex := 20, descriptorIndex := 21, attributes := #[] }, { accessFlags := 18, nameIndex := 24, descriptorIndex := 25, attributes := #[] }, { accessFlags := 18, nameIndex := 28, descriptorIndex := 25, attributes := #[] }, { accessFlags := 18, nameIndex := 35, descriptorIndex := 6, attributes := #[] }, { accessFlags := 18, nameIndex := 38, descriptorIndex := 39, attributes := #[] }])
  fields := #[{ name := "TEXT_BYTES", type := .int, accessFlags := 26, slot := 0, constantValue := 0 }, { name := "TIMESTAMP_FIRST", type := (.object "java/lang/String"), accessFlags := 26, slot := 1, constantValue := 0 }, { name := "TIMESTAMP_LAST", type := (.object "java/lang/String"), accessFlags := 26, slot := 2, constantValue := 0 }, { name := "TRAILING_SPACES", type := (.object "java/util/regex/Pattern"), accessFlags := 26, slot := 3, constantValue := 0 }, { name := "NOT_DIGITS", type := (.object "java/util/regex/Pattern"), accessFlags := 26, slot := 4, constantValue := 0 }, { name := "DATE_TIME_TEXT", type := (.object "java/time/format/DateTimeFormatter"), accessFlags := 26, slot := 5, constantValue := 0 }, { name := "DATE_TIME", type := (.object "java/util/regex/Pattern"), accessFlags := 26, slot := 6, constantValue := 0 }, { name := "DATE_TIME_DIGITS", type := (.object "java/util/regex/Pattern"), accessFlags := 26, slot := 7, constantValue := 0 }, { name := "DATE_TIME_NUMBER_DIGITS", type := (.array .int), accessFlags := 26, slot := 8, constantValue := 0 }, { name := "FIRST_TWO_DIGIT_YEAR_OF_1900S", type := .int, accessFlags := 26, slot := 9, constantValue := 0 }, { name := "LAST_YEAR", type := .int, accessFlags := 26, slot := 10, constantValue := 0 }, { name := "STORED_FRACTION_DIGITS", type := .int, accessFlags := 26, slot := 11, constantValue := 0 }, { name := "COMPARED_FRACTION_DIGITS", type := .int, accessFlags := 26, slot := 12, constantValue := 0 }, { name := "BEYOND_SUPPORTED_RANGE", type := (.object "java/lang/String"), accessFlags := 25, slot := 13, constantValue := 0 }, { name := "BIGINT_UNSIGNED_MAXIMUM", type := (.object "java/math/BigDecimal"), accessFlags := 26, slot := 14, constantValue := 0 }, { name := "MIDNIGHT", type := (.object "java/lang/String"), accessFlags := 26, slot := 15, constantValue := 0 }, { name := "PRINTED_BYTES", type := .int, accessFlags := 26, slot := 16, constantValue := 0 }, { name := "kind", type := (.object "com/example/sukima/sukima/sql/DataType$Kind"), accessFlags := 18, slot := 0, constantValue := 0 }, { name := "length", type := .int, accessFlags := 18, slot := 1, constantValue := 0 }, { name := "scale", type := .int, accessFlags := 18, slot := 2, constantValue := 0 }, { name := "collation", type := (.object "com/example/sukima/sukima/sql/Collation"), accessFlags := 18, slot := 3, constantValue := 0 }, { name := "unsigned", type := .boolean, accessFlags := 18, slot := 4, constantValue := 0 }]
  methods := #[]
  instanceTypes := #[(.object "com/example/sukima/sukima/sql/DataType$Kind"), .int, .int, (.object "com/example/sukima/sukima/sql/Collation"), .boolean]
  staticTypes := #[.int, (.object "java/lang/String"), (.object "java/lang/String"), (.object "java/util/regex/Pattern"), (.object "java/util/regex/Pattern"), (.object "java/time/format/DateTimeFormatter"), (.object "java/util/regex/Pattern"), (.object "java/util/regex/Pattern"), (.array .int), .int, .int, .int, .int, (.object "java/lang/String"), (.object "java/math/BigDecimal"), (.object "java/lang/String"), .int]
  resolved := Array.replicate 512 none
  statics := none }

def pool22 : Array CpInfo := pool [(2, .class_ 4), (1, u "java/lang/Object"), (0, u "<init>"), (0, u "()V"), (35, .class_ 44), (1, u "java/util/Objects"), (60, .methodref 106 107), (0, .class_ 108), (0, .nameAndType 109 110), (0, u "jdk/internal/util/Preconditions"), (0, u "checkIndex"), (0, u "(IILjava/util/function/BiFunction;)I"), (60, u "(II)I")] 12

def k22m0 : Method := { name := "<init>", desc := "()V", sig := { parameters := [], returnType := none }, accessFlags := 2, code := none }
def k22c1 : Code := { maxStack := 3, maxLocals := 2, code := jdk_31_method_17_code, exceptionTable := #[], attributes := #[] }
def k22m1 : Method := { name := "checkIndex", desc := "(II)I", sig := { parameters := [.int, .int], returnType := some .int }, accessFlags := 9, code := some k22c1 }
/-- java/util/Objects -/
def k22 : Class := { plain "java/util/Objects" (some 0) with
  accessFlags := 49
  interfaces := #[]
  cf := some (fileOf pool22 42 #[] #[{ accessFlags := 2, nameIndex := 5, descriptorIndex := 6, attributes := #[] }, { accessFlags := 9, nameIndex := 109, descriptorIndex := 171, attributes := #[] }] 49 2 #[] #[])
  fields := #[]
  methods := #[k22m0, k22m1]
  instanceTypes := #[]
  staticTypes := #[]
  resolved := Array.replicate 184 none
  statics := none }

def pool23 : Array CpInfo := pool [(2, .class_ 4), (1, u "java/lang/Object"), (0, u "<init>"), (0, u "()V"), (17, .class_ 26), (1, u "jdk/internal/util/Preconditions"), (6, u "checkIndex"), (21, .class_ 56), (0, u "jdk/internal/util/Preconditions$4"), (57, .class_ 115), (0, u "jdk/internal/util/Preconditions$1"), (7, u "SIOOBE_FORMATTER"), (0, u "Ljava/util/function/BiFunction;"), (0, .class_ 126), (0, u "jdk/internal/util/Preconditions$2"), (3, u "AIOOBE_FORMATTER"), (0, .class_ 132), (0, u "jdk/internal/util/Preconditions$3"), (3, u "IOOBE_FORMATTER"), (41, u "(IILjava/util/function/BiFunction;)I")] 15

def k23m0 : Method := { name := "<init>", desc := "()V", sig := { parameters := [], returnType := none }, accessFlags := 1, code := none }
def k23c1 : Code := { maxStack := 3, maxLocals := 3, code := jdk_41_method_11_code, exceptionTable := #[], attributes := #[] }
def k23m1 : Method := { name := "checkIndex", desc := "(IILjava/util/function/BiFunction;)I", sig := { parameters := [.int, .int, (.object "java/util/function/BiFunction")], returnType := some .int }, accessFlags := 9, code := some k23c1 }
/-- jdk/internal/util/Preconditions -/
def k23 : Class := { plain "jdk/internal/util/Preconditions" (some 0) with
  accessFlags := 33
  interfaces := #[]
  cf := some (fileOf pool23 24 #[.nestMembers #[55, 131, 125, 114]] #[{ accessFlags := 1, nameIndex := 5, descriptorIndex := 6, attributes := #[] }, { accessFlags := 9, nameIndex := 33, descriptorIndex := 178, attributes := #[] }] 33 2 #[] #[{ accessFlags := 25, nameIndex := 123, descriptorIndex := 124, attributes := #[] }, { accessFlags := 25, nameIndex := 130, descriptorIndex := 124, attributes := #[] }, { accessFlags := 25, nameIndex := 136, descriptorIndex := 124, attributes := #[] }])
  fields := #[{ name := "SIOOBE_FORMATTER", type := (.object "java/util/function/BiFunction"), accessFlags := 25, slot := 0, constantValue := 0 }, { name := "AIOOBE_FORMATTER", type := (.object "java/util/function/BiFunction"), accessFlags := 25, slot := 1, constantValue := 0 }, { name := "IOOBE_FORMATTER", type := (.object "java/util/function/BiFunction"), accessFlags := 25, slot := 2, constantValue := 0 }]
  methods := #[k23m0, k23m1]
  instanceTypes := #[]
  staticTypes := #[(.object "java/util/function/BiFunction"), (.object "java/util/function/BiFunction"), (.object "java/util/function/BiFunction")]
  resolved := Array.replicate 194 none
  statics := none }

def pool24 : Array CpInfo := pool [(2, .class_ 4), (1, u "java/lang/Object"), (0, u "<init>"), (0, u "()V"), (1, .class_ 10), (1, u "java/lang/System"), (0, u "allowSecurityManager"), (0, u "I"), (16, u "cons"), (0, u "Ljava/io/Console;"), (77, .class_ 110), (1, u "java/lang/System$CallersHolder"), (43, u "initialErrStream"), (0, u "Ljava/io/PrintStream;"), (19, u "security"), (0, u "Ljava/lang/SecurityManager;"), (31, .class_ 209), (0, u "java/lang/System$1"), (7, u "props"), (0, u "Ljava/util/Properties;"), (2, u "lineSeparator"), (0, u "Ljava/lang/String;"), (96, .class_ 321), (1, u "java/lang/System$LoggerFinder"), (5, .class_ 328), (0, u "java/lang/System$Logger"), (67, u "err"), (2, u "out"), (91, u "notSupportedJnuEncoding"), (15, u "in"), (17, u "initialIn"), (0, u "Ljava/io/InputStream;"), (35, u "bootLayer"), (0, u "Ljava/lang/ModuleLayer;"), (99, .class_ 664), (0, u "java/lang/System$2"), (9, u "NEVER"), (2, u "MAYBE"), (49, u "arraycopy"), (0, u "(Ljava/lang/Object;ILjava/lang/Object;II)V"), (72, .class_ 802), (0, u "java/lang/System$Logger$Level")] 31

def k24m0 : Method := { name := "<init>", desc := "()V", sig := { parameters := [], returnType := none }, accessFlags := 2, code := none }
def k24m1 : Method := { name := "arraycopy", desc := "(Ljava/lang/Object;ILjava/lang/Object;II)V", sig := { parameters := [(.object "java/lang/Object"), .int, (.object "java/lang/Object"), .int, .int], returnType := none }, accessFlags := 265, code := none }
/-- java/lang/System -/
def k24 : Class := { plain "java/lang/System" (some 0) with
  accessFlags := 49
  interfaces := #[]
  cf := some (fileOf pool24 8 #[.nestMembers #[319, 327, 801, 108, 663, 208]] #[{ accessFlags := 2, nameIndex := 5, descriptorIndex := 6, attributes := #[] }, { accessFlags := 265, nameIndex := 727, descriptorIndex := 728, attributes := #[] }] 49 2 #[] #[{ accessFlags := 25, nameIndex := 507, descriptorIndex := 526, attributes := #[] }, { accessFlags := 25, nameIndex := 399, descriptorIndex := 155, attributes := #[] }, { accessFlags := 25, nameIndex := 396, descriptorIndex := 155, attributes := #[] }, { accessFlags := 10, nameIndex := 525, descriptorIndex := 526, attributes := #[] }, { accessFlags := 26, nameIndex := 674, descriptorIndex := 12, attributes := #[] }, { accessFlags := 26, nameIndex := 677, descriptorIndex := 12, attributes := #[] }, { accessFlags := 10, nameIndex := 11, descriptorIndex := 12, attributes := #[] }, { accessFlags := 74, nameIndex := 175, descriptorIndex := 176, attributes := #[] }, { accessFlags := 10, nameIndex := 491, descriptorIndex := 222, attributes := #[] }, { accessFlags := 74, nameIndex := 29, descriptorIndex := 30, attributes := #[] }, { accessFlags := 74, nameIndex := 154, descriptorIndex := 155, attributes := #[] }, { accessFlags := 10, nameIndex := 217, descriptorIndex := 218, attributes := #[] }, { accessFlags := 10, nameIndex := 221, descriptorIndex := 222, attributes := #[] }, { accessFlags := 8, nameIndex := 562, descriptorIndex := 563, attributes := #[] }])
  fields := #[{ name := "in", type := (.object "java/io/InputStream"), accessFlags := 25, slot := 0, constantValue := 0 }, { name := "out", type := (.object "java/io/PrintStream"), accessFlags := 25, slot := 1, constantValue := 0 }, { name := "err", type := (.object "java/io/PrintStream"), accessFlags := 25, slot := 2, constantValue := 0 }, { name := "initialIn", type := (.object "java/io/InputStream"), accessFlags := 10, slot := 3, constantValue := 0 }, { name := "NEVER", type := .int, accessFlags := 26, slot := 4, constantValue := 0 }, { name := "MAYBE", type := .int, accessFlags := 26, slot := 5, constantValue := 0 }, { name := "allowSecurityManager", type := .int, accessFlags := 10, slot := 6, constantValue := 0 }, { name := "security", type := (.object "java/lang/SecurityManager"), accessFlags := 74, slot := 7, constantValue := 0 }, { name := "notSupportedJnuEncoding", type := (.object "java/lang/String"), accessFlags := 10, slot := 8, constantValue := 0 }, { name := "cons", type := (.object "java/io/Console"), accessFlags := 74, slot := 9, constantValue := 0 }, { name := "initialErrStream", type := (.object "java/io/PrintStream"), accessFlags := 74, slot := 10, constantValue := 0 }, { name := "props", type := (.object "java/util/Properties"), accessFlags := 10, slot := 11, constantValue := 0 }, { name := "lineSeparator", type := (.object "java/lang/String"), accessFlags := 10, slot := 12, constantValue := 0 }, { name := "bootLayer", type := (.object "java/lang/ModuleLayer"), accessFlags := 8, slot := 13, constantValue := 0 }]
  methods := #[k24m0, k24m1]
  instanceTypes := #[]
  staticTypes := #[(.object "java/io/InputStream"), (.object "java/io/PrintStream"), (.object "java/io/PrintStream"), (.object "java/io/InputStream"), .int, .int, .int, (.object "java/lang/SecurityManager"), (.object "java/lang/String"), (.object "java/io/Console"), (.object "java/io/PrintStream"), (.object "java/util/Properties"), (.object "java/lang/String"), (.object "java/lang/ModuleLayer")]
  resolved := Array.replicate 834 none
  statics := none }

/-- the primitive boolean -/
def k25 : Class := { plain "boolean" none with kind := .primitive 'Z', accessFlags := 0x411 }
/-- [Z -/
def k26 : Class := { plain "[Z" (some 0) with kind := .array 25 .boolean, interfaces := #[16, 3], accessFlags := 1041 }

/-- the primitive byte -/
def k27 : Class := { plain "byte" none with kind := .primitive 'B', accessFlags := 0x411 }
/-- [B -/
def k28 : Class := { plain "[B" (some 0) with kind := .array 27 .byte, interfaces := #[16, 3], accessFlags := 1041 }

/-- the primitive int -/
def k29 : Class := { plain "int" none with kind := .primitive 'I', accessFlags := 0x411 }
/-- [I -/
def k30 : Class := { plain "[I" (some 0) with kind := .array 29 .int, interfaces := #[16, 3], accessFlags := 1041 }

/-- [Lcom/example/sukima/sukima/sql/DataType; -/
def k31 : Class := { plain "[Lcom/example/sukima/sukima/sql/DataType;" (some 0) with kind := .array 21 (.object "com/example/sukima/sukima/sql/DataType"), interfaces := #[16, 3], accessFlags := 1041 }

/-- [Ljava/lang/Object; -/
def k32 : Class := { plain "[Ljava/lang/Object;" (some 0) with kind := .array 0 (.object "java/lang/Object"), interfaces := #[16, 3], accessFlags := 1041 }

def heap : Heap := #[{ cls := 17, slots := #[.long 0, .int 0, .ref 1, .ref 2], vm := .statics 17 },
  { cls := 32, slots := #[], vm := .none },
  { cls := 32, slots := #[], vm := .none }]
def classes : Array Class := #[k0, k1, k2, k3, k4, k5, k6, k7, k8, k9, k10, k11, k12, k13, k14, k15, k16, k17, k18, k19, k20, k21, k22, k23, k24, k25, k26, k27, k28, k29, k30, k31, k32]
def interned : List (Array UInt16 × Addr) := []
def slotsUsed : Nat := 4
def theMethod : MethodId := ⟨1, 1⟩
def args0 : Array Value := #[.int 5, .int 3, .int 7, .int 1]
def aboutOver (below : List Frame) : State where
  vm := { classes := classes, interned := interned.toArray }
  heap := heap
  slotsUsed := slotsUsed
  threads := #[{ frames := .invoking theMethod args0 :: below }]
def below0 : List Frame := [.native { method := ⟨0, 0⟩, args := #[] }]
def about1 : State := aboutOver below0
def p0 : Program := .bare "" "" ""
def e0 : Env := launch0.env 0 0 0
theorem w_frames : about1.frames = Frame.invoking theMethod args0 :: below0 := rfl
set_option maxRecDepth 65536 in
theorem w_args : argsFit about1.vm theMethod args0 = true := by decide +kernel
set_option maxRecDepth 65536 in
theorem w_heap : heapFits about1 = true := by decide +kernel
set_option maxRecDepth 65536 in
theorem w_runnable : about1.curStatus? = some .runnable := by decide +kernel
set_option maxRecDepth 65536 in
theorem w_alone : about1.alone = true := by decide +kernel
set_option maxRecDepth 65536 in
theorem w_named : about1.methodNamed? x = some theMethod := by decide +kernel
set_option maxRecDepth 65536 in
theorem w_hears : about1.hears theMethod below0 = true := by decide +kernel
set_option maxRecDepth 65536 in
theorem w_ripe : about1.ripe theMethod args0 below0 = true := by decide +kernel
theorem w_running : about1.status = .running := rfl
set_option maxRecDepth 65536 in
theorem w_room : about1.hasRoom e0.platform room_1 = true :=
  launch0.hasRoom_least _ room_1 (by decide +kernel) (by decide +kernel) (by decide +kernel) (by decide +kernel) (by decide +kernel) (by decide +kernel)
theorem allAtoms_all (ts : List Jvm.Cond) (a : Array Jvm.Value) (st : Jvm.State) : (allAtoms ts).before a st = ts.all (fun c => c.before a st) := by
  induction ts with
  | nil => rfl
  | cons c t ih =>
    show (Jvm.Cond.and c (allAtoms t)).before a st = _
    rw [Jvm.Cond.before_and, ih, List.all_cons]
def words1 : List Jvm.Cond := Jvm.Cond.code x code maxLocals ret :: tables_1
/-- a 'code' word, met by the world's own term for the bytes: nothing is compared byte by byte -/
theorem code_word {y : MethodName} {bytes : ByteArray} {mx : Nat} {rt : Option FieldType} {a : Array Value} {s : State} {m : MethodId} {meth : Method} {c : Code} (h1 : s.methodNamed? y = some m) (h2 : s.vm.method? m = some meth) (h3 : meth.code = some c) (h4 : c.code = bytes)
    (h5 : (c.maxLocals == mx && c.exceptionTable.isEmpty && decide (c.maxStack ≤ mostOperands) && decide (meth.sig.returnType = rt) && !meth.locks && decide (parseMethodDescriptor y.desc = some meth.sig)) = true) : (Jvm.Cond.code y bytes mx rt).before a s = true := by
  simp only [Bool.and_eq_true, beq_iff_eq, Bool.not_eq_true', decide_eq_true_eq] at h5
  obtain ⟨⟨⟨⟨⟨g1, g2⟩, g3⟩, g4⟩, g5⟩, g6⟩ := h5
  simp [Cond.before, Cond.holds, Cond.value, h1, h2, h3, h4, g1, g2, g3, g4, g5, g6]
def isCode : Jvm.Cond → Bool
  | .code _ _ _ _ => true
  | _ => false
theorem all_split {L : List Jvm.Cond} {P : Jvm.Cond → Bool} (h1 : L.all (fun c => isCode c || P c) = true) (h2 : ∀ c ∈ L.filter isCode, P c = true) : L.all P = true := by
  refine List.all_eq_true.mpr fun c hc => ?_
  have h := List.all_eq_true.mp h1 c hc
  rcases Bool.eq_false_or_eq_true (isCode c) with hi | hi
  · exact h2 c (List.mem_filter.mpr ⟨hc, hi⟩)
  · simpa [hi] using h
set_option maxRecDepth 65536 in
theorem w_c0 : (Jvm.Cond.code x code maxLocals ret).before args0 about1 = true := code_word (m := ⟨1, 1⟩) (meth := k1m1) (c := k1c1) (by decide +kernel) rfl rfl rfl (by decide +kernel)
set_option maxRecDepth 65536 in
theorem w_c1 : (Jvm.Cond.code ({ cls := "com/example/sukima/sukima/catalog/Column", name := "<init>", desc := "(Ljava/lang/String;Lcom/example/sukima/sukima/sql/DataType;ZZLjava/lang/Object;ZZZ)V" } : Jvm.MethodName) prog_17_method_1_code (9 : Nat) (Option.none : Option Jvm.ClassFile.FieldType)).before args0 about1 = true := code_word (m := ⟨2, 0⟩) (meth := k2m0) (c := k2c0) (by decide +kernel) rfl rfl rfl (by decide +kernel)
set_option maxRecDepth 65536 in
theorem w_c2 : (Jvm.Cond.code ({ cls := "java/lang/Object", name := "<init>", desc := "()V" } : Jvm.MethodName) object_method_1_code (1 : Nat) (Option.none : Option Jvm.ClassFile.FieldType)).before args0 about1 = true := code_word (m := ⟨0, 0⟩) (meth := k0m0) (c := k0c0) (by decide +kernel) rfl rfl rfl (by decide +kernel)
set_option maxRecDepth 65536 in
theorem w_c3 : (Jvm.Cond.code ({ cls := "java/util/ArrayList", name := "<init>", desc := "()V" } : Jvm.MethodName) jdk_38_method_2_code (1 : Nat) (Option.none : Option Jvm.ClassFile.FieldType)).before args0 about1 = true := code_word (m := ⟨17, 0⟩) (meth := k17m0) (c := k17c0) (by decide +kernel) rfl rfl rfl (by decide +kernel)
set_option maxRecDepth 65536 in
theorem w_c4 : (Jvm.Cond.code ({ cls := "java/util/AbstractList", name := "<init>", desc := "()V" } : Jvm.MethodName) jdk_39_method_1_code (1 : Nat) (Option.none : Option Jvm.ClassFile.FieldType)).before args0 about1 = true := code_word (m := ⟨14, 0⟩) (meth := k14m0) (c := k14c0) (by decide +kernel) rfl rfl rfl (by decide +kernel)
set_option maxRecDepth 65536 in
theorem w_c5 : (Jvm.Cond.code ({ cls := "java/util/AbstractCollection", name := "<init>", desc := "()V" } : Jvm.MethodName) jdk_22_method_1_code (1 : Nat) (Option.none : Option Jvm.ClassFile.FieldType)).before args0 about1 = true := code_word (m := ⟨11, 0⟩) (meth := k11m0) (c := k11c0) (by decide +kernel) rfl rfl rfl (by decide +kernel)
set_option maxRecDepth 65536 in
theorem w_c6 : (Jvm.Cond.code ({ cls := "java/util/ArrayList", name := "add", desc := "(Ljava/lang/Object;)Z" } : Jvm.MethodName) jdk_38_method_25_code (2 : Nat) (Option.some Jvm.ClassFile.FieldType.boolean)).before args0 about1 = true := code_word (m := ⟨17, 6⟩) (meth := k17m6) (c := k17c6) (by decide +kernel) rfl rfl rfl (by decide +kernel)
set_option maxRecDepth 65536 in
theorem w_c7 : (Jvm.Cond.code ({ cls := "java/util/ArrayList", name := "add", desc := "(Ljava/lang/Object;[Ljava/lang/Object;I)V" } : Jvm.MethodName) jdk_38_method_24_code (4 : Nat) (Option.none : Option Jvm.ClassFile.FieldType)).before args0 about1 = true := code_word (m := ⟨17, 5⟩) (meth := k17m5) (c := k17c5) (by decide +kernel) rfl rfl rfl (by decide +kernel)
set_option maxRecDepth 65536 in
theorem w_c8 : (Jvm.Cond.code ({ cls := "java/util/ArrayList", name := "grow", desc := "()[Ljava/lang/Object;" } : Jvm.MethodName) jdk_38_method_7_code (1 : Nat) (Option.some (Jvm.ClassFile.FieldType.array (Jvm.ClassFile.FieldType.object "java/lang/Object")))).before args0 about1 = true := code_word (m := ⟨17, 2⟩) (meth := k17m2) (c := k17c2) (by decide +kernel) rfl rfl rfl (by decide +kernel)
set_option maxRecDepth 65536 in
theorem w_c9 : (Jvm.Cond.code ({ cls := "java/util/ArrayList", name := "grow", desc := "(I)[Ljava/lang/Object;" } : Jvm.MethodName) jdk_38_method_6_code (4 : Nat) (Option.some (Jvm.ClassFile.FieldType.array (Jvm.ClassFile.FieldType.object "java/lang/Object")))).before args0 about1 = true := code_word (m := ⟨17, 1⟩) (meth := k17m1) (c := k17c1) (by decide +kernel) rfl rfl rfl (by decide +kernel)
set_option maxRecDepth 65536 in
theorem w_c10 : (Jvm.Cond.code ({ cls := "java/lang/Math", name := "max", desc := "(II)I" } : Jvm.MethodName) jdk_29_method_65_code (2 : Nat) (Option.some Jvm.ClassFile.FieldType.int)).before args0 about1 = true := code_word (m := ⟨18, 1⟩) (meth := k18m1) (c := k18c1) (by decide +kernel) rfl rfl rfl (by decide +kernel)
set_option maxRecDepth 65536 in
theorem w_c11 : (Jvm.Cond.code ({ cls := "com/example/sukima/sukima/catalog/Index", name := "<init>", desc := "(Ljava/lang/String;Z[I[Z[ILjava/util/List;)V" } : Jvm.MethodName) prog_19_method_1_code (8 : Nat) (Option.none : Option Jvm.ClassFile.FieldType)).before args0 about1 = true := code_word (m := ⟨19, 0⟩) (meth := k19m0) (c := k19c0) (by decide +kernel) rfl rfl rfl (by decide +kernel)
set_option maxRecDepth 65536 in
theorem w_c12 : (Jvm.Cond.code ({ cls := "com/example/sukima/sukima/catalog/Index", name := "keyColumns", desc := "([I[I)[I" } : Jvm.MethodName) prog_19_method_2_code (13 : Nat) (Option.some (Jvm.ClassFile.FieldType.array Jvm.ClassFile.FieldType.int))).before args0 about1 = true := code_word (m := ⟨19, 1⟩) (meth := k19m1) (c := k19c1) (by decide +kernel) rfl rfl rfl (by decide +kernel)
set_option maxRecDepth 65536 in
theorem w_c13 : (Jvm.Cond.code ({ cls := "java/util/Arrays", name := "copyOf", desc := "([II)[I" } : Jvm.MethodName) jdk_65_method_123_code (3 : Nat) (Option.some (Jvm.ClassFile.FieldType.array Jvm.ClassFile.FieldType.int))).before args0 about1 = true := code_word (m := ⟨20, 1⟩) (meth := k20m1) (c := k20c1) (by decide +kernel) rfl rfl rfl (by decide +kernel)
set_option maxRecDepth 65536 in
theorem w_c14 : (Jvm.Cond.code ({ cls := "java/util/Arrays", name := "copyOf", desc := "([ZI)[Z" } : Jvm.MethodName) jdk_65_method_128_code (3 : Nat) (Option.some (Jvm.ClassFile.FieldType.array Jvm.ClassFile.FieldType.boolean))).before args0 about1 = true := code_word (m := ⟨20, 2⟩) (meth := k20m2) (c := k20c2) (by decide +kernel) rfl rfl rfl (by decide +kernel)
set_option maxRecDepth 65536 in
theorem w_c15 : (Jvm.Cond.code ({ cls := "com/example/sukima/sukima/catalog/Index", name := "placeOf", desc := "(I)I" } : Jvm.MethodName) prog_19_method_11_code (4 : Nat) (Option.some Jvm.ClassFile.FieldType.int)).before args0 about1 = true := code_word (m := ⟨19, 2⟩) (meth := k19m2) (c := k19c2) (by decide +kernel) rfl rfl rfl (by decide +kernel)
set_option maxRecDepth 65536 in
theorem w_c16 : (Jvm.Cond.code ({ cls := "com/example/sukima/sukima/catalog/IndexPlaceOfPinLaw", name := "ref", desc := "(IIIIIII)I" } : Jvm.MethodName) method_3_code (9 : Nat) (Option.some Jvm.ClassFile.FieldType.int)).before args0 about1 = true := code_word (m := ⟨1, 2⟩) (meth := k1m2) (c := k1c2) (by decide +kernel) rfl rfl rfl (by decide +kernel)
set_option maxRecDepth 65536 in
theorem w_c17 : (Jvm.Cond.code ({ cls := "java/util/ArrayList", name := "get", desc := "(I)Ljava/lang/Object;" } : Jvm.MethodName) jdk_38_method_20_code (2 : Nat) (Option.some (Jvm.ClassFile.FieldType.object "java/lang/Object"))).before args0 about1 = true := code_word (m := ⟨17, 4⟩) (meth := k17m4) (c := k17c4) (by decide +kernel) rfl rfl rfl (by decide +kernel)
set_option maxRecDepth 65536 in
theorem w_c18 : (Jvm.Cond.code ({ cls := "java/util/Objects", name := "checkIndex", desc := "(II)I" } : Jvm.MethodName) jdk_31_method_17_code (2 : Nat) (Option.some Jvm.ClassFile.FieldType.int)).before args0 about1 = true := code_word (m := ⟨22, 1⟩) (meth := k22m1) (c := k22c1) (by decide +kernel) rfl rfl rfl (by decide +kernel)
set_option maxRecDepth 65536 in
theorem w_c19 : (Jvm.Cond.code ({ cls := "jdk/internal/util/Preconditions", name := "checkIndex", desc := "(IILjava/util/function/BiFunction;)I" } : Jvm.MethodName) jdk_41_method_11_code (3 : Nat) (Option.some Jvm.ClassFile.FieldType.int)).before args0 about1 = true := code_word (m := ⟨23, 1⟩) (meth := k23m1) (c := k23c1) (by decide +kernel) rfl rfl rfl (by decide +kernel)
set_option maxRecDepth 65536 in
theorem w_c20 : (Jvm.Cond.code ({ cls := "java/util/ArrayList", name := "elementData", desc := "(I)Ljava/lang/Object;" } : Jvm.MethodName) jdk_38_method_18_code (2 : Nat) (Option.some (Jvm.ClassFile.FieldType.object "java/lang/Object"))).before args0 about1 = true := code_word (m := ⟨17, 3⟩) (meth := k17m3) (c := k17c3) (by decide +kernel) rfl rfl rfl (by decide +kernel)
set_option maxRecDepth 65536 in
theorem w_c21 : (Jvm.Cond.code ({ cls := "com/example/sukima/sukima/catalog/Column", name := "type", desc := "()Lcom/example/sukima/sukima/sql/DataType;" } : Jvm.MethodName) prog_17_method_3_code (1 : Nat) (Option.some (Jvm.ClassFile.FieldType.object "com/example/sukima/sukima/sql/DataType"))).before args0 about1 = true := code_word (m := ⟨2, 1⟩) (meth := k2m1) (c := k2c1) (by decide +kernel) rfl rfl rfl (by decide +kernel)
set_option maxRecDepth 65536 in
theorem w_c22 : (Jvm.Cond.code ({ cls := "java/lang/Math", name := "min", desc := "(II)I" } : Jvm.MethodName) jdk_29_method_69_code (2 : Nat) (Option.some Jvm.ClassFile.FieldType.int)).before args0 about1 = true := code_word (m := ⟨18, 2⟩) (meth := k18m2) (c := k18c2) (by decide +kernel) rfl rfl rfl (by decide +kernel)
def codes1 : List Jvm.Cond := [Jvm.Cond.code x code maxLocals ret, Jvm.Cond.code ({ cls := "com/example/sukima/sukima/catalog/Column", name := "<init>", desc := "(Ljava/lang/String;Lcom/example/sukima/sukima/sql/DataType;ZZLjava/lang/Object;ZZZ)V" } : Jvm.MethodName) prog_17_method_1_code (9 : Nat) (Option.none : Option Jvm.ClassFile.FieldType), Jvm.Cond.code ({ cls := "java/lang/Object", name := "<init>", desc := "()V" } : Jvm.MethodName) object_method_1_code (1 : Nat) (Option.none : Option Jvm.ClassFile.FieldType), Jvm.Cond.code ({ cls := "java/util/ArrayList", name := "<init>", desc := "()V" } : Jvm.MethodName) jdk_38_method_2_code (1 : Nat) (Option.none : Option Jvm.ClassFile.FieldType), Jvm.Cond.code ({ cls := "java/util/AbstractList", name := "<init>", desc := "()V" } : Jvm.MethodName) jdk_39_method_1_code (1 : Nat) (Option.none : Option Jvm.ClassFile.FieldType), Jvm.Cond.code ({ cls := "java/util/AbstractCollection", name := "<init>", desc := "()V" } : Jvm.MethodName) jdk_22_method_1_code (1 : Nat) (Option.none : Option Jvm.ClassFile.FieldType), Jvm.Cond.code ({ cls := "java/util/ArrayList", name := "add", desc := "(Ljava/lang/Object;)Z" } : Jvm.MethodName) jdk_38_method_25_code (2 : Nat) (Option.some Jvm.ClassFile.FieldType.boolean), Jvm.Cond.code ({ cls := "java/util/ArrayList", name := "add", desc := "(Ljava/lang/Object;[Ljava/lang/Object;I)V" } : Jvm.MethodName) jdk_38_method_24_code (4 : Nat) (Option.none : Option Jvm.ClassFile.FieldType), Jvm.Cond.code ({ cls := "java/util/ArrayList", name := "grow", desc := "()[Ljava/lang/Object;" } : Jvm.MethodName) jdk_38_method_7_code (1 : Nat) (Option.some (Jvm.ClassFile.FieldType.array (Jvm.ClassFile.FieldType.object "java/lang/Object"))), Jvm.Cond.code ({ cls := "java/util/ArrayList", name := "grow", desc := "(I)[Ljava/lang/Object;" } : Jvm.MethodName) jdk_38_method_6_code (4 : Nat) (Option.some (Jvm.ClassFile.FieldType.array (Jvm.ClassFile.FieldType.object "java/lang/Object"))), Jvm.Cond.code ({ cls := "java/lang/Math", name := "max", desc := "(II)I" } : Jvm.MethodName) jdk_29_method_65_code (2 : Nat) (Option.some Jvm.ClassFile.FieldType.int), Jvm.Cond.code ({ cls := "com/example/sukima/sukima/catalog/Index", name := "<init>", desc := "(Ljava/lang/String;Z[I[Z[ILjava/util/List;)V" } : Jvm.MethodName) prog_19_method_1_code (8 : Nat) (Option.none : Option Jvm.ClassFile.FieldType), Jvm.Cond.code ({ cls := "com/example/sukima/sukima/catalog/Index", name := "keyColumns", desc := "([I[I)[I" } : Jvm.MethodName) prog_19_method_2_code (13 : Nat) (Option.some (Jvm.ClassFile.FieldType.array Jvm.ClassFile.FieldType.int)), Jvm.Cond.code ({ cls := "java/util/Arrays", name := "copyOf", desc := "([II)[I" } : Jvm.MethodName) jdk_65_method_123_code (3 : Nat) (Option.some (Jvm.ClassFile.FieldType.array Jvm.ClassFile.FieldType.int)), Jvm.Cond.code ({ cls := "java/util/Arrays", name := "copyOf", desc := "([ZI)[Z" } : Jvm.MethodName) jdk_65_method_128_code (3 : Nat) (Option.some (Jvm.ClassFile.FieldType.array Jvm.ClassFile.FieldType.boolean)), Jvm.Cond.code ({ cls := "com/example/sukima/sukima/catalog/Index", name := "placeOf", desc := "(I)I" } : Jvm.MethodName) prog_19_method_11_code (4 : Nat) (Option.some Jvm.ClassFile.FieldType.int), Jvm.Cond.code ({ cls := "com/example/sukima/sukima/catalog/IndexPlaceOfPinLaw", name := "ref", desc := "(IIIIIII)I" } : Jvm.MethodName) method_3_code (9 : Nat) (Option.some Jvm.ClassFile.FieldType.int), Jvm.Cond.code ({ cls := "java/util/ArrayList", name := "get", desc := "(I)Ljava/lang/Object;" } : Jvm.MethodName) jdk_38_method_20_code (2 : Nat) (Option.some (Jvm.ClassFile.FieldType.object "java/lang/Object")), Jvm.Cond.code ({ cls := "java/util/Objects", name := "checkIndex", desc := "(II)I" } : Jvm.MethodName) jdk_31_method_17_code (2 : Nat) (Option.some Jvm.ClassFile.FieldType.int), Jvm.Cond.code ({ cls := "jdk/internal/util/Preconditions", name := "checkIndex", desc := "(IILjava/util/function/BiFunction;)I" } : Jvm.MethodName) jdk_41_method_11_code (3 : Nat) (Option.some Jvm.ClassFile.FieldType.int), Jvm.Cond.code ({ cls := "java/util/ArrayList", name := "elementData", desc := "(I)Ljava/lang/Object;" } : Jvm.MethodName) jdk_38_method_18_code (2 : Nat) (Option.some (Jvm.ClassFile.FieldType.object "java/lang/Object")), Jvm.Cond.code ({ cls := "com/example/sukima/sukima/catalog/Column", name := "type", desc := "()Lcom/example/sukima/sukima/sql/DataType;" } : Jvm.MethodName) prog_17_method_3_code (1 : Nat) (Option.some (Jvm.ClassFile.FieldType.object "com/example/sukima/sukima/sql/DataType")), Jvm.Cond.code ({ cls := "java/lang/Math", name := "min", desc := "(II)I" } : Jvm.MethodName) jdk_29_method_69_code (2 : Nat) (Option.some Jvm.ClassFile.FieldType.int)]
set_option maxRecDepth 65536 in
theorem codes_eq : words1.filter isCode = codes1 := rfl
theorem w_codes : ∀ c ∈ words1.filter isCode, c.before args0 about1 = true := by
  rw [codes_eq]
  intro c hc
  simp only [codes1, List.mem_cons, List.not_mem_nil, or_false] at hc
  rcases hc with rfl | rfl | rfl | rfl | rfl | rfl | rfl | rfl | rfl | rfl | rfl | rfl | rfl | rfl | rfl | rfl | rfl | rfl | rfl | rfl | rfl | rfl | rfl
  · exact w_c0
  · exact w_c1
  · exact w_c2
  · exact w_c3
  · exact w_c4
  · exact w_c5
  · exact w_c6
  · exact w_c7
  · exact w_c8
  · exact w_c9
  · exact w_c10
  · exact w_c11
  · exact w_c12
  · exact w_c13
  · exact w_c14
  · exact w_c15
  · exact w_c16
  · exact w_c17
  · exact w_c18
  · exact w_c19
  · exact w_c20
  · exact w_c21
  · exact w_c22
set_option maxRecDepth 65536 in
theorem w_t1 : (words1.take 24).all (fun c => isCode c || c.before args0 about1) = true := by decide +kernel
set_option maxRecDepth 65536 in
theorem w_t2 : ((words1.drop 24).take 24).all (fun c => isCode c || c.before args0 about1) = true := by decide +kernel
set_option maxRecDepth 65536 in
theorem w_t3 : (((words1.drop 24).drop 24).take 24).all (fun c => isCode c || c.before args0 about1) = true := by decide +kernel
set_option maxRecDepth 65536 in
theorem w_t4 : ((((words1.drop 24).drop 24).drop 24).take 24).all (fun c => isCode c || c.before args0 about1) = true := by decide +kernel
set_option maxRecDepth 65536 in
theorem w_t5 : (((((words1.drop 24).drop 24).drop 24).drop 24).take 24).all (fun c => isCode c || c.before args0 about1) = true := by decide +kernel
set_option maxRecDepth 65536 in
theorem w_t6 : ((((((words1.drop 24).drop 24).drop 24).drop 24).drop 24).take 24).all (fun c => isCode c || c.before args0 about1) = true := by decide +kernel
set_option maxRecDepth 65536 in
theorem w_t7 : (((((((words1.drop 24).drop 24).drop 24).drop 24).drop 24).drop 24).take 24).all (fun c => isCode c || c.before args0 about1) = true := by decide +kernel
set_option maxRecDepth 65536 in
theorem w_t8 : ((((((((words1.drop 24).drop 24).drop 24).drop 24).drop 24).drop 24).drop 24).take 24).all (fun c => isCode c || c.before args0 about1) = true := by decide +kernel
set_option maxRecDepth 65536 in
theorem w_t9 : ((((((((words1.drop 24).drop 24).drop 24).drop 24).drop 24).drop 24).drop 24).drop 24).all (fun c => isCode c || c.before args0 about1) = true := by decide +kernel
theorem w_tables : (allAtoms (Jvm.Cond.code x code maxLocals ret :: tables_1)).before args0 about1 = true := by
  rw [allAtoms_all]
  show words1.all (fun c => c.before args0 about1) = true
  refine all_split ?_ w_codes
  rw [← List.take_append_drop 24 words1, List.all_append, w_t1, ← List.take_append_drop 24 (words1.drop 24), List.all_append, w_t2, ← List.take_append_drop 24 ((words1.drop 24).drop 24), List.all_append, w_t3, ← List.take_append_drop 24 (((words1.drop 24).drop 24).drop 24), List.all_append, w_t4, ← List.take_append_drop 24 ((((words1.drop 24).drop 24).drop 24).drop 24), List.all_append, w_t5, ← List.take_append_drop 24 (((((words1.drop 24).drop 24).drop 24).drop 24).drop 24), List.all_append, w_t6, ← List.take_append_drop 24 ((((((words1.drop 24).drop 24).drop 24).drop 24).drop 24).drop 24), List.all_append, w_t7, ← List.take_append_drop 24 (((((((words1.drop 24).drop 24).drop 24).drop 24).drop 24).drop 24).drop 24), List.all_append, w_t8, w_t9]
  rfl
set_option maxRecDepth 65536 in
theorem w_rest : rest_1_c.before args0 about1 = true := by decide +kernel
set_option maxRecDepth 65536 in
theorem w_case : (Jvm.Cond.and given_1 narrow_1).before args0 about1 = true := by decide +kernel
theorem w_applies : (headSpec (Jvm.Cond.code x code maxLocals ret :: tables_1) room_1).applies x e0.platform about1 = true :=
  (Spec.applies_iff w_frames).mpr ⟨w_running, w_runnable, w_alone, w_named, w_hears, w_ripe, w_room, w_tables⟩
theorem atStart : AtStart classFile x code maxLocals ret World_1 tables_1 room_1 Calls_1 rest_1 Pre_1 launch0 p0 e0 about1 theMethod args0 below0 :=
  ⟨lists_1, trivial, launch0.admits_env _ _ _, launch0.least_env, fairChoices_fair.cas, fairChoices_fair.clock, w_frames, w_args, w_heap, w_applies, trivial, w_rest, w_case⟩
end start1
theorem witness_1 : WitnessClaimed_1 := ⟨start1.p0, start1.e0, start1.about1, start1.theMethod, start1.args0, start1.below0, start1.atStart⟩
end Jvm.Pilot.@@N@@
