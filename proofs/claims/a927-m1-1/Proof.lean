import JvmDerived
import JvmDerived.Pilot.@@N@@Statement
import JvmDerived.Pilot.@@N@@Code
set_option linter.unusedVariables false
set_option linter.unusedSimpArgs false
namespace Jvm.RoadKit
open Sem ClassFile Op Lib Jvm.Stand Jvm.Free Jvm.LawKit
section New
variable {p : Program} {l : Launch} {e : Env} {R : Room} {s : State} {m : MethodId} {args : Array Value} {below : List Frame} {meth : Method} {c : Code} {T : State} {locs : List Loc} {cells slots : Nat}
theorem retI (X : Stand p l e R s m args below meth c T locs cells slots) (hx : p.tables.exec = Jvm.exec) {pc : Nat} {Ls : Array Slot} {z : Int32} {rest : List Value} (hret : meth.sig.returnType = some .int) (hd : decode c.code pc = .ok (.ireturn, 1)) {fs : List Frame}
    (hl : ∀ (f : JFrame) (acts : List Action), f.method = m → f.locked = none → f.entered = [] → (doReturn e (T.setTop f) acts (some (.int z))).1 = T.setFrames fs) : Steps p.tables e below (T.setTop (mkF m pc Ls (.int z :: rest))) (T.setFrames fs) := by
  have hm' : T.vm.method? m = some meth := X.method'
  have hn : narrow .int (.int z) = .int z := rfl
  show Steps p.tables e below (T.setTop { method := m, pc := pc, locals := Ls, stack := _ :: rest, locked := none }) _
  jvm_step X.here [X.here.top, hx, hd, hm', hret, hn]
  first | (intro acts; rw [hl _ acts rfl rfl rfl]) | rw [hl _ _ rfl rfl rfl]
  exact Steps.refl _
end New
end Jvm.RoadKit
namespace Jvm.Pilot.@@N@@
open Jvm Jvm.ClassFile Sem Op Lib Jvm.Free Jvm.Stand Jvm.LawKit Jvm.RoadKit Bundle Jvm.Pilot.@@N@@.Jvm.D
theorem own_ite01 {c : Prop} [Decidable c] {a b : Int32} (ha : a = 0 ∨ a = 1) (hb : b = 0 ∨ b = 1) : (if c then a else b) = 0 ∨ (if c then a else b) = 1 := by split <;> assumption
theorem own_nz {r : Int32} (h : r = 0 ∨ r = 1) : nar .boolean r = r := by rcases h with rfl | rfl <;> rfl
section own
variable {p : Program} {l : Launch} {e : Env} {R : Room} {s : State} {m : MethodId} {args : Array Value} {below : List Frame} {meth : Method} {c : Code} {T : State} {locs : List Loc} {cells slots : Nat} {Z : State} {h h' h0 : Heap} {a b : Addr} {k : ClassId} {ty : FieldType} {n : Int32} {vs : List Int32} {ls : List Int64} {sl : Nat} {v : Value} {ws : List Addr}
/-- an array of ints (or bytes, chars, shorts, booleans), by its list -/
def IA (Z : State) (h : Heap) (a : Addr) (k : ClassId) (ty : FieldType) (n : Int32) (vs : List Int32) : Prop := Arv Z h a k ty n (vs.map Value.int) (.int 0) ∧ vs.length = n.toNatClampNeg
def LA (Z : State) (h : Heap) (a : Addr) (k : ClassId) (n : Int32) (ls : List Int64) : Prop := Arv Z h a k .long n (ls.map Value.long) (.long 0) ∧ ls.length = n.toNatClampNeg
theorem IA.lt (F : IA Z h a k ty n vs) : a < h.size := F.1.lt
theorem IA.ext (F : IA Z h a k ty n vs) (E : Ext h h') : IA Z h' a k ty n vs := ⟨F.1.ext E, F.2⟩
theorem IA.other (F : IA Z h b k ty n vs) (W : Wr h h' a sl v) (q : b ≠ a) : IA Z h' b k ty n vs := ⟨F.1.other W q, F.2⟩
theorem IA.keep (F : IA Z h a k ty n vs) (K : Keep h h' ws) (q : a ∉ ws) : IA Z h' a k ty n vs := ⟨F.1.keep K q, F.2⟩
theorem LA.lt (F : LA Z h a k n ls) : a < h.size := F.1.lt
theorem LA.ext (F : LA Z h a k n ls) (E : Ext h h') : LA Z h' a k n ls := ⟨F.1.ext E, F.2⟩
theorem LA.other (F : LA Z h b k n ls) (W : Wr h h' a sl v) (q : b ≠ a) : LA Z h' b k n ls := ⟨F.1.other W q, F.2⟩
theorem LA.keep (F : LA Z h a k n ls) (K : Keep h h' ws) (q : a ∉ ws) : LA Z h' a k n ls := ⟨F.1.keep K q, F.2⟩
theorem IA.new (A : Arr Z h a (newA k ty n) ty) (q : ¬ n < 0) (hd : defaultValue ty = .int 0) {c : Nat} (hc : n.toNatClampNeg = c) : IA Z h a k ty n (List.replicate c 0) := by
  refine ⟨?_, by rw [List.length_replicate, hc]⟩
  have F := Arv.new A q
  rw [hd] at F
  rw [List.map_replicate]
  exact F.pad (pad_rep [] (.int 0) c)
theorem LA.new (A : Arr Z h a (newA k .long n) .long) (q : ¬ n < 0) {c : Nat} (hc : n.toNatClampNeg = c) : LA Z h a k n (List.replicate c 0) := by
  refine ⟨?_, by rw [List.length_replicate, hc]⟩
  have F : Arv Z h a k .long n [] (.long 0) := Arv.new A q
  rw [List.map_replicate]
  exact F.pad (pad_rep [] (.long 0) c)
theorem own_getI (vs : List Int32) (i : Nat) : (vs.map Value.int).getD i (.int 0) = .int (vs.getD i 0) := by
  simp only [List.getD_eq_getElem?_getD, List.getElem?_map]; cases vs[i]? <;> rfl
theorem own_getL (vs : List Int64) (i : Nat) : (vs.map Value.long).getD i (.long 0) = .long (vs.getD i 0) := by
  simp only [List.getD_eq_getElem?_getD, List.getElem?_map]; cases vs[i]? <;> rfl
theorem IA.inb {cl : Cell} {j : Int32} {i : Nat} (S : cl.slots.size = n.toNatClampNeg) (hl : vs.length = n.toNatClampNeg) (hj : j.toNatClampNeg = i) (hn : ¬ j < 0) (hi : i < vs.length) : ¬ (j < 0 ∨ cl.slots.size ≤ j.toNatClampNeg) := by
  rintro (q | q)
  · exact hn q
  · rw [S, ← hl, hj] at q; omega
theorem LA.inb {cl : Cell} {j : Int32} {i : Nat} (S : cl.slots.size = n.toNatClampNeg) (hl : ls.length = n.toNatClampNeg) (hj : j.toNatClampNeg = i) (hn : ¬ j < 0) (hi : i < ls.length) : ¬ (j < 0 ∨ cl.slots.size ≤ j.toNatClampNeg) := by
  rintro (q | q)
  · exact hn q
  · rw [S, ← hl, hj] at q; omega
theorem IA.at {cl : Cell} {j : Int32} {i : Nat} {w : Int32} (H : Has cl (vs.map Value.int) (.int 0)) (S : cl.slots.size = n.toNatClampNeg) (hl : vs.length = n.toNatClampNeg) (hj : j.toNatClampNeg = i) (hi : i < vs.length) (hw : vs.getD i 0 = w) : cl.slots[j.toNatClampNeg]? = some (.int w) := by
  rw [H _ (by rw [S, ← hl, hj]; exact hi), own_getI, hj, hw]
theorem LA.at {cl : Cell} {j : Int32} {i : Nat} {w : Int64} (H : Has cl (ls.map Value.long) (.long 0)) (S : cl.slots.size = n.toNatClampNeg) (hl : ls.length = n.toNatClampNeg) (hj : j.toNatClampNeg = i) (hi : i < ls.length) (hw : ls.getD i 0 = w) : cl.slots[j.toNatClampNeg]? = some (.long w) := by
  rw [H _ (by rw [S, ← hl, hj]; exact hi), own_getL, hj, hw]
theorem ia_ldI (X : Stand p l e R s m args below meth c T locs cells slots) (hx : p.tables.exec = Jvm.exec) (hZ : Z.Warmed39 s.vm) (eT : T.heap = h) (A : IA Z h a k .int n vs) {j : Int32} (i : Nat) (hj : j.toNatClampNeg = i) (hn : ¬ j < 0) (hi : i < vs.length) {w : Int32} (hw : vs.getD i 0 = w) {g : JFrame} (hg : g.method = m) {rest : List Value} (hs : g.stack = .int j :: .ref a :: rest) (hd : decode c.code g.pc = .ok (.iaload, 1)) (target : State)
    (q : Steps p.tables e below (T.setTop { g with pc := g.pc + 1, stack := .int w :: rest }) target) : Steps p.tables e below (T.setTop g) target := by
  obtain ⟨⟨cl, Ar, -, S, -, H, -⟩, hl⟩ := A
  exact X.iaload hx (by rw [eT]; exact Ar.1) (State.isArrayOf_alike hZ.alike Ar.2.1) Ar.2.2 (IA.inb S hl hj hn hi) (IA.at H S hl hj hi hw) hg hs hd target q
theorem ia_ldC (X : Stand p l e R s m args below meth c T locs cells slots) (hx : p.tables.exec = Jvm.exec) (hZ : Z.Warmed39 s.vm) (eT : T.heap = h) (A : IA Z h a k .char n vs) {j : Int32} (i : Nat) (hj : j.toNatClampNeg = i) (hn : ¬ j < 0) (hi : i < vs.length) {w : Int32} (hw : vs.getD i 0 = w) {g : JFrame} (hg : g.method = m) {rest : List Value} (hs : g.stack = .int j :: .ref a :: rest) (hd : decode c.code g.pc = .ok (.caload, 1)) (target : State)
    (q : Steps p.tables e below (T.setTop { g with pc := g.pc + 1, stack := .int w :: rest }) target) : Steps p.tables e below (T.setTop g) target := by
  obtain ⟨⟨cl, Ar, -, S, -, H, -⟩, hl⟩ := A
  exact X.caload hx (by rw [eT]; exact Ar.1) (State.isArrayOf_alike hZ.alike Ar.2.1) Ar.2.2 (IA.inb S hl hj hn hi) (IA.at H S hl hj hi hw) hg hs hd target q
theorem ia_ldS (X : Stand p l e R s m args below meth c T locs cells slots) (hx : p.tables.exec = Jvm.exec) (hZ : Z.Warmed39 s.vm) (eT : T.heap = h) (A : IA Z h a k .short n vs) {j : Int32} (i : Nat) (hj : j.toNatClampNeg = i) (hn : ¬ j < 0) (hi : i < vs.length) {w : Int32} (hw : vs.getD i 0 = w) {g : JFrame} (hg : g.method = m) {rest : List Value} (hs : g.stack = .int j :: .ref a :: rest) (hd : decode c.code g.pc = .ok (.saload, 1)) (target : State)
    (q : Steps p.tables e below (T.setTop { g with pc := g.pc + 1, stack := .int w :: rest }) target) : Steps p.tables e below (T.setTop g) target := by
  obtain ⟨⟨cl, Ar, -, S, -, H, -⟩, hl⟩ := A
  exact X.saload hx (by rw [eT]; exact Ar.1) (State.isArrayOf_alike hZ.alike Ar.2.1) Ar.2.2 (IA.inb S hl hj hn hi) (IA.at H S hl hj hi hw) hg hs hd target q
theorem ia_ldB (X : Stand p l e R s m args below meth c T locs cells slots) (hx : p.tables.exec = Jvm.exec) (hZ : Z.Warmed39 s.vm) (eT : T.heap = h) (A : IA Z h a k .byte n vs) {j : Int32} (i : Nat) (hj : j.toNatClampNeg = i) (hn : ¬ j < 0) (hi : i < vs.length) {w : Int32} (hw : vs.getD i 0 = w) {g : JFrame} (hg : g.method = m) {rest : List Value} (hs : g.stack = .int j :: .ref a :: rest) (hd : decode c.code g.pc = .ok (.baload, 1)) (target : State)
    (q : Steps p.tables e below (T.setTop { g with pc := g.pc + 1, stack := .int w :: rest }) target) : Steps p.tables e below (T.setTop g) target := by
  obtain ⟨⟨cl, Ar, -, S, -, H, -⟩, hl⟩ := A
  exact X.baloadBytes hx (by rw [eT]; exact Ar.1) (State.isArrayOf_alike hZ.alike Ar.2.1) Ar.2.2 (IA.inb S hl hj hn hi) (IA.at H S hl hj hi hw) hg hs hd target q
theorem ia_ldZ (X : Stand p l e R s m args below meth c T locs cells slots) (hx : p.tables.exec = Jvm.exec) (hZ : Z.Warmed39 s.vm) (eT : T.heap = h) (A : IA Z h a k .boolean n vs) {j : Int32} (i : Nat) (hj : j.toNatClampNeg = i) (hn : ¬ j < 0) (hi : i < vs.length) {w : Int32} (hw : vs.getD i 0 = w) {g : JFrame} (hg : g.method = m) {rest : List Value} (hs : g.stack = .int j :: .ref a :: rest) (hd : decode c.code g.pc = .ok (.baload, 1)) (target : State)
    (q : Steps p.tables e below (T.setTop { g with pc := g.pc + 1, stack := .int w :: rest }) target) : Steps p.tables e below (T.setTop g) target := by
  obtain ⟨⟨cl, Ar, -, S, -, H, -⟩, hl⟩ := A
  exact X.baloadBooleans hx (by rw [eT]; exact Ar.1) (State.isArrayOf_alike hZ.alike Ar.2.1) Ar.2.2 (IA.inb S hl hj hn hi) (IA.at H S hl hj hi hw) hg hs hd target q
theorem la_ldJ (X : Stand p l e R s m args below meth c T locs cells slots) (hx : p.tables.exec = Jvm.exec) (hZ : Z.Warmed39 s.vm) (eT : T.heap = h) (A : LA Z h a k n ls) {j : Int32} (i : Nat) (hj : j.toNatClampNeg = i) (hn : ¬ j < 0) (hi : i < ls.length) {w : Int64} (hw : ls.getD i 0 = w) {g : JFrame} (hg : g.method = m) {rest : List Value} (hs : g.stack = .int j :: .ref a :: rest) (hd : decode c.code g.pc = .ok (.laload, 1)) (target : State)
    (q : Steps p.tables e below (T.setTop { g with pc := g.pc + 1, stack := .long w :: rest }) target) : Steps p.tables e below (T.setTop g) target := by
  obtain ⟨⟨cl, Ar, -, S, -, H, -⟩, hl⟩ := A
  exact X.laload hx (by rw [eT]; exact Ar.1) (State.isArrayOf_alike hZ.alike Ar.2.1) Ar.2.2 (LA.inb S hl hj hn hi) (LA.at H S hl hj hi hw) hg hs hd target q
theorem ia_len (X : Stand p l e R s m args below meth c T locs cells slots) (hx : p.tables.exec = Jvm.exec) (hZ : Z.Warmed39 s.vm) (eT : T.heap = h) (A : IA Z h a k ty n vs) {g : JFrame} (hg : g.method = m) {rest : List Value} (hs : g.stack = .ref a :: rest) (hd : decode c.code g.pc = .ok (.arraylength, 1)) (target : State)
    (q : Steps p.tables e below (T.setTop { g with pc := g.pc + 1, stack := .int n :: rest }) target) : Steps p.tables e below (T.setTop g) target := by
  obtain ⟨⟨cl, Ar, -, S, N, H, -⟩, hl⟩ := A
  refine X.arraylength hx (by rw [eT]; exact Ar.1) (State.isArrayOf_alike hZ.alike Ar.2.1) hg hs hd target ?_
  rw [len_of S N]; exact q
theorem la_len (X : Stand p l e R s m args below meth c T locs cells slots) (hx : p.tables.exec = Jvm.exec) (hZ : Z.Warmed39 s.vm) (eT : T.heap = h) (A : LA Z h a k n ls) {g : JFrame} (hg : g.method = m) {rest : List Value} (hs : g.stack = .ref a :: rest) (hd : decode c.code g.pc = .ok (.arraylength, 1)) (target : State)
    (q : Steps p.tables e below (T.setTop { g with pc := g.pc + 1, stack := .int n :: rest }) target) : Steps p.tables e below (T.setTop g) target := by
  obtain ⟨⟨cl, Ar, -, S, N, H, -⟩, hl⟩ := A
  refine X.arraylength hx (by rw [eT]; exact Ar.1) (State.isArrayOf_alike hZ.alike Ar.2.1) hg hs hd target ?_
  rw [len_of S N]; exact q
theorem IA.put {cl : Cell} {j : Int32} {i : Nat} {y : Int32} (Ar : Arr Z h a cl ty) (q1 : cl.cls = k) (S : cl.slots.size = n.toNatClampNeg) (N : ¬ n < 0) (H : Has cl (vs.map Value.int) (.int 0)) (G : ∀ i, i < cl.slots.size → fits ty ((vs.map Value.int).getD i (.int 0)) = true) (hl : vs.length = n.toNatClampNeg) (hv : fits ty (.int y) = true) (W : Wr h h' a j.toNatClampNeg (.int y)) (hj : j.toNatClampNeg = i) (hi : i < vs.length) : IA Z h' a k ty n (vs.set i y) := by
  refine ⟨?_, by rw [List.length_set]; exact hl⟩
  have := Arv.set Ar q1 S N H G hv W i hj (by rw [List.length_map]; exact hi)
  rwa [← List.map_set] at this
theorem LA.put {cl : Cell} {j : Int32} {i : Nat} {y : Int64} (Ar : Arr Z h a cl .long) (q1 : cl.cls = k) (S : cl.slots.size = n.toNatClampNeg) (N : ¬ n < 0) (H : Has cl (ls.map Value.long) (.long 0)) (G : ∀ i, i < cl.slots.size → fits .long ((ls.map Value.long).getD i (.long 0)) = true) (hl : ls.length = n.toNatClampNeg) (W : Wr h h' a j.toNatClampNeg (.long y)) (hj : j.toNatClampNeg = i) (hi : i < ls.length) : LA Z h' a k n (ls.set i y) := by
  refine ⟨?_, by rw [List.length_set]; exact hl⟩
  have := Arv.set Ar q1 S N H G rfl W i hj (by rw [List.length_map]; exact hi)
  rwa [← List.map_set] at this
theorem ia_stI (X : Stand p l e R s m args below meth c T locs cells slots) (hx : p.tables.exec = Jvm.exec) (hZ : Z.Warmed39 s.vm) (eT : T.heap = h) (A : IA Z h a k .int n vs) {j : Int32} (i : Nat) (hj : j.toNatClampNeg = i) (hn : ¬ j < 0) (hi : i < vs.length) {x : Int32} {g : JFrame} (hg : g.method = m) {rest : List Value} (hs : g.stack = .int x :: .int j :: .ref a :: rest) (hd : decode c.code g.pc = .ok (.iastore, 1)) :
    ∃ T' h', Stand p l e R s m args below meth c T' (locs ++ [⟨a, j.toNatClampNeg⟩]) cells slots ∧ T'.heap = h' ∧ Wr h h' a j.toNatClampNeg (.int x) ∧ IA Z h' a k .int n (vs.set i x) ∧ ∀ target, Steps p.tables e below (T'.setTop { g with pc := g.pc + 1, stack := rest }) target → Steps p.tables e below (T.setTop g) target := by
  obtain ⟨⟨cl, Ar, q1, S, N, H, G⟩, hl⟩ := A
  obtain ⟨T', h', X', e', W, st⟩ := stI X hx hZ eT Ar (IA.inb S hl hj hn hi) hg hs hd
  exact ⟨T', h', X', e', W, IA.put Ar q1 S N H G hl rfl W hj hi, st⟩
theorem la_stJ (X : Stand p l e R s m args below meth c T locs cells slots) (hx : p.tables.exec = Jvm.exec) (hZ : Z.Warmed39 s.vm) (eT : T.heap = h) (A : LA Z h a k n ls) {j : Int32} (i : Nat) (hj : j.toNatClampNeg = i) (hn : ¬ j < 0) (hi : i < ls.length) {x : Int64} {g : JFrame} (hg : g.method = m) {rest : List Value} (hs : g.stack = .long x :: .int j :: .ref a :: rest) (hd : decode c.code g.pc = .ok (.lastore, 1)) :
    ∃ T' h', Stand p l e R s m args below meth c T' (locs ++ [⟨a, j.toNatClampNeg⟩]) cells slots ∧ T'.heap = h' ∧ Wr h h' a j.toNatClampNeg (.long x) ∧ LA Z h' a k n (ls.set i x) ∧ ∀ target, Steps p.tables e below (T'.setTop { g with pc := g.pc + 1, stack := rest }) target → Steps p.tables e below (T.setTop g) target := by
  obtain ⟨⟨cl, Ar, q1, S, N, H, G⟩, hl⟩ := A
  obtain ⟨T', h', X', e', W, st⟩ := stJ X hx hZ eT Ar (LA.inb S hl hj hn hi) hg hs hd
  exact ⟨T', h', X', e', W, LA.put Ar q1 S N H G hl W hj hi, st⟩
theorem ia_stC (X : Stand p l e R s m args below meth c T locs cells slots) (hx : p.tables.exec = Jvm.exec) (hZ : Z.Warmed39 s.vm) (eT : T.heap = h) (A : IA Z h a k .char n vs) {j : Int32} (i : Nat) (hj : j.toNatClampNeg = i) (hn : ¬ j < 0) (hi : i < vs.length) {x y : Int32} (hy : nar .char x = y) {g : JFrame} (hg : g.method = m) {rest : List Value} (hs : g.stack = .int x :: .int j :: .ref a :: rest) (hd : decode c.code g.pc = .ok (.castore, 1)) :
    ∃ T' h', Stand p l e R s m args below meth c T' (locs ++ [⟨a, j.toNatClampNeg⟩]) cells slots ∧ T'.heap = h' ∧ Wr h h' a j.toNatClampNeg (.int y) ∧ IA Z h' a k .char n (vs.set i y) ∧ ∀ target, Steps p.tables e below (T'.setTop { g with pc := g.pc + 1, stack := rest }) target → Steps p.tables e below (T.setTop g) target := by
  subst hy
  obtain ⟨⟨cl, Ar, q1, S, N, H, G⟩, hl⟩ := A
  obtain ⟨T', h', X', e', W, st⟩ := stC X hx hZ eT Ar (IA.inb S hl hj hn hi) hg hs hd
  exact ⟨T', h', X', e', W, IA.put Ar q1 S N H G hl (fits_nar_char _) W hj hi, st⟩
theorem ia_stS (X : Stand p l e R s m args below meth c T locs cells slots) (hx : p.tables.exec = Jvm.exec) (hZ : Z.Warmed39 s.vm) (eT : T.heap = h) (A : IA Z h a k .short n vs) {j : Int32} (i : Nat) (hj : j.toNatClampNeg = i) (hn : ¬ j < 0) (hi : i < vs.length) {x y : Int32} (hy : nar .short x = y) {g : JFrame} (hg : g.method = m) {rest : List Value} (hs : g.stack = .int x :: .int j :: .ref a :: rest) (hd : decode c.code g.pc = .ok (.sastore, 1)) :
    ∃ T' h', Stand p l e R s m args below meth c T' (locs ++ [⟨a, j.toNatClampNeg⟩]) cells slots ∧ T'.heap = h' ∧ Wr h h' a j.toNatClampNeg (.int y) ∧ IA Z h' a k .short n (vs.set i y) ∧ ∀ target, Steps p.tables e below (T'.setTop { g with pc := g.pc + 1, stack := rest }) target → Steps p.tables e below (T.setTop g) target := by
  subst hy
  obtain ⟨⟨cl, Ar, q1, S, N, H, G⟩, hl⟩ := A
  obtain ⟨T', h', X', e', W, st⟩ := stS X hx hZ eT Ar (IA.inb S hl hj hn hi) hg hs hd
  exact ⟨T', h', X', e', W, IA.put Ar q1 S N H G hl (fits_nar_short _) W hj hi, st⟩
theorem ia_stB (X : Stand p l e R s m args below meth c T locs cells slots) (hx : p.tables.exec = Jvm.exec) (hZ : Z.Warmed39 s.vm) (eT : T.heap = h) (A : IA Z h a k .byte n vs) {j : Int32} (i : Nat) (hj : j.toNatClampNeg = i) (hn : ¬ j < 0) (hi : i < vs.length) {x y : Int32} (hy : nar .byte x = y) {g : JFrame} (hg : g.method = m) {rest : List Value} (hs : g.stack = .int x :: .int j :: .ref a :: rest) (hd : decode c.code g.pc = .ok (.bastore, 1)) :
    ∃ T' h', Stand p l e R s m args below meth c T' (locs ++ [⟨a, j.toNatClampNeg⟩]) cells slots ∧ T'.heap = h' ∧ Wr h h' a j.toNatClampNeg (.int y) ∧ IA Z h' a k .byte n (vs.set i y) ∧ ∀ target, Steps p.tables e below (T'.setTop { g with pc := g.pc + 1, stack := rest }) target → Steps p.tables e below (T.setTop g) target := by
  subst hy
  obtain ⟨⟨cl, Ar, q1, S, N, H, G⟩, hl⟩ := A
  obtain ⟨T', h', X', e', W, st⟩ := stB X hx hZ eT Ar (IA.inb S hl hj hn hi) hg hs hd
  exact ⟨T', h', X', e', W, IA.put Ar q1 S N H G hl (fits_nar_byte _) W hj hi, st⟩
theorem ia_stZ (X : Stand p l e R s m args below meth c T locs cells slots) (hx : p.tables.exec = Jvm.exec) (hZ : Z.Warmed39 s.vm) (eT : T.heap = h) (A : IA Z h a k .boolean n vs) {j : Int32} (i : Nat) (hj : j.toNatClampNeg = i) (hn : ¬ j < 0) (hi : i < vs.length) {x y : Int32} (hy : nar .boolean x = y) {g : JFrame} (hg : g.method = m) {rest : List Value} (hs : g.stack = .int x :: .int j :: .ref a :: rest) (hd : decode c.code g.pc = .ok (.bastore, 1)) :
    ∃ T' h', Stand p l e R s m args below meth c T' (locs ++ [⟨a, j.toNatClampNeg⟩]) cells slots ∧ T'.heap = h' ∧ Wr h h' a j.toNatClampNeg (.int y) ∧ IA Z h' a k .boolean n (vs.set i y) ∧ ∀ target, Steps p.tables e below (T'.setTop { g with pc := g.pc + 1, stack := rest }) target → Steps p.tables e below (T.setTop g) target := by
  subst hy
  obtain ⟨⟨cl, Ar, q1, S, N, H, G⟩, hl⟩ := A
  obtain ⟨T', h', X', e', W, st⟩ := stZ X hx hZ eT Ar (IA.inb S hl hj hn hi) hg hs hd
  exact ⟨T', h', X', e', W, IA.put Ar q1 S N H G hl (fits_nar_bool _) W hj hi, st⟩
end own
theorem own_or32 (n : Nat) : n ||| 32 = n + 32 * (1 - n / 32 % 2) := by
  have h1 : ∀ r < 64, r ||| 32 = r + 32 * (1 - r / 32 % 2) := by decide
  have h2 : n = 2 ^ 6 * (n / 64) + n % 64 := by omega
  have h3 : n % 64 < 2 ^ 6 := by omega
  have h4 : n % 64 ||| 32 < 2 ^ 6 := Nat.or_lt_two_pow h3 (by decide)
  have e : n ||| 32 = 2 ^ 6 * (n / 64) + (n % 64 ||| 32) := by
    rw [Nat.two_pow_add_eq_or_of_lt h4, ← Nat.or_assoc, ← Nat.two_pow_add_eq_or_of_lt h3, ← h2]
  have := h1 (n % 64) (by omega)
  omega
theorem own_char (x : Int32) : ∃ n : Nat, n < 65536 ∧ x.toUInt32.toUInt16.toUInt32.toInt32 = Int32.ofNat n := by
  refine ⟨x.toUInt32.toUInt16.toNat, x.toUInt32.toUInt16.toNat_lt, ?_⟩
  apply Int32.toBitVec_inj.mp
  apply BitVec.eq_of_toNat_eq
  show x.toUInt32.toUInt16.toUInt32.toNat = (BitVec.ofNat 32 _).toNat
  have := x.toUInt32.toUInt16.toNat_lt
  rw [BitVec.toNat_ofNat]
  simp only [UInt16.toNat_toUInt32]
  omega
theorem own_orN (a b : Nat) : Int32.ofNat a ||| Int32.ofNat b = Int32.ofNat (a ||| b) := by
  apply Int32.toBitVec_inj.mp
  show BitVec.ofNat 32 a ||| BitVec.ofNat 32 b = BitVec.ofNat 32 (a ||| b)
  apply BitVec.eq_of_toNat_eq
  simp [BitVec.toNat_or, Nat.or_mod_two_pow]
theorem own_tI {n : Nat} (h : n < 2147483648) : (Int32.ofNat n).toInt = n := Int32.toInt_ofNat_of_lt h
theorem own_sub {x y : Int32} (h1 : -2147483648 ≤ x.toInt - y.toInt) (h2 : x.toInt - y.toInt < 2147483648) : (x - y).toInt = x.toInt - y.toInt :=
  (Int32.toInt_sub x y).trans (Int.bmod_eq_of_le (by omega) (by omega))
theorem own_add {x y : Int32} (h1 : -2147483648 ≤ x.toInt + y.toInt) (h2 : x.toInt + y.toInt < 2147483648) : (x + y).toInt = x.toInt + y.toInt :=
  (Int32.toInt_add x y).trans (Int.bmod_eq_of_le (by omega) (by omega))
theorem own_mask31 (x : Int32) : 0 ≤ (x &&& (2147483647 : Int32)).toInt := by
  have h : (x &&& (2147483647 : Int32)).toBitVec.toNat < 2147483648 := by
    rw [Int32.toBitVec_and, BitVec.toNat_and]
    exact Nat.lt_of_le_of_lt Nat.and_le_right (by decide)
  show 0 ≤ (x &&& (2147483647 : Int32)).toBitVec.toInt
  rw [BitVec.toInt_eq_toNat_cond, if_pos (by omega)]
  omega
theorem own_lc1 (x y : Int64) : ((lcmpW x y) < (0 : Int32)) = (x < y) := by
  simp only [lcmpW, gt_iff_lt]
  by_cases h1 : y < x
  · rw [if_pos h1]
    have h2 : ¬ x < y := by rw [Int64.lt_iff_toInt_lt] at *; omega
    simp [h2]
  · rw [if_neg h1]
    by_cases h2 : x = y
    · rw [if_pos h2]; subst h2; simp
    · rw [if_neg h2]
      have h3 : x < y := by rw [← Int64.toInt_inj] at h2; rw [Int64.lt_iff_toInt_lt] at *; omega
      simp [h3]
theorem own_lc2 (x y : Int64) : ((0 : Int32) < (lcmpW x y)) = (y < x) := by
  simp only [lcmpW, gt_iff_lt]
  by_cases h1 : y < x
  · rw [if_pos h1]; simp [h1]
  · rw [if_neg h1]
    by_cases h2 : x = y
    · rw [if_pos h2]; subst h2; simp
    · rw [if_neg h2]; simp [h1]
theorem own_nn {n : Nat} (hn : n < 2147483648) : ¬ Int32.ofNat n < 0 := by
  rw [Int32.lt_iff_toInt_lt, own_tI hn, show (0 : Int32).toInt = 0 from rfl]; omega
theorem own_n32 {n : Nat} (hn : n < 2147483648) : (Int32.ofNat n).toNatClampNeg = n := by
  rw [Int32.toNatClampNeg, own_tI hn]; rfl
theorem own_ofI {x : Int32} (h : 0 ≤ x.toInt) : x = Int32.ofNat x.toInt.toNat := by
  apply Int32.toInt_inj.mp
  have := x.toInt_lt
  rw [own_tI (by omega)]; omega
/-- Java's x % d for x that isn't negative -/
theorem own_rem (x d : Int32) (hx : 0 ≤ x.toInt) (hd : 0 < d.toInt) : (x - (x / d) * d).toInt = x.toInt % d.toInt := by
  have b1 := x.toInt_lt; have b2 := d.toInt_lt
  have hq : (x / d).toInt = x.toInt / d.toInt := by
    rw [Int32.toInt_div, Int.tdiv_eq_ediv_of_nonneg hx]
    have h1 : 0 ≤ x.toInt / d.toInt := Int.ediv_nonneg hx (Int.le_of_lt hd)
    have h2 : x.toInt / d.toInt ≤ x.toInt := Int.ediv_le_self _ hx
    exact Int.bmod_eq_of_le (by omega) (by omega)
  have hm : (x / d * d).toInt = x.toInt / d.toInt * d.toInt := by
    rw [Int32.toInt_mul, hq]
    have h1 : 0 ≤ x.toInt / d.toInt * d.toInt := Int.mul_nonneg (Int.ediv_nonneg hx (Int.le_of_lt hd)) (Int.le_of_lt hd)
    have h2 : x.toInt / d.toInt * d.toInt ≤ x.toInt := Int.ediv_mul_le _ (by omega)
    exact Int.bmod_eq_of_le (by omega) (by omega)
  have h3 := Int.emod_add_mul_ediv x.toInt d.toInt
  rw [Int.mul_comm] at h3
  have h4 := Int.emod_nonneg x.toInt (show d.toInt ≠ 0 by omega)
  have h5 := Int.emod_lt_of_pos x.toInt hd
  rw [own_sub (by omega) (by omega), hm]; omega
theorem own_ix {p : Int32} {i j : Nat} (hk : p = Int32.ofNat i) (hb : i + j < 2147483648) : (p + Int32.ofNat j).toNatClampNeg = i + j ∧ ¬ (p + Int32.ofNat j) < 0 := by
  subst hk; rw [← Int32.ofNat_add]; exact ⟨own_n32 hb, own_nn hb⟩
theorem own_narB (x : Int32) : nar .byte (x.toInt8.toInt32) = x.toInt8.toInt32 := by
  show x.toInt8.toInt32.toInt8.toInt32 = x.toInt8.toInt32
  rw [Int8.toInt8_toInt32]
theorem own_lc0 (x : Int64) : (lcmpW x x) = (0 : Int32) := by simp [lcmpW]
theorem own_ltN {i j : Nat} (h : i < j) (hj : j < 2147483648) : Int32.ofNat i < Int32.ofNat j := by
  rw [Int32.lt_iff_toInt_lt, own_tI (by omega), own_tI hj]; omega
theorem own_nltN {i j : Nat} (h : ¬ i < j) (hi : i < 1000000) (hj : j < 1000000) : ¬ Int32.ofNat i < Int32.ofNat j := by
  rw [Int32.lt_iff_toInt_lt, own_tI (by omega), own_tI (by omega)]; omega
theorem own_one {i : Nat} : Int32.ofNat i + (1 : Int32) = Int32.ofNat (i + 1) := (Int32.ofNat_add i 1).symm
theorem own_andN (x : Int32) (k : Nat) (hk : k < 2147483648) : ∃ q : Nat, q ≤ k ∧ (x &&& Int32.ofNat k) = Int32.ofNat q := by
  refine ⟨(x &&& Int32.ofNat k).toBitVec.toNat, ?_, ?_⟩
  · rw [Int32.toBitVec_and, BitVec.toNat_and]
    refine Nat.le_trans Nat.and_le_right ?_
    show (BitVec.ofNat 32 k).toNat ≤ k
    rw [BitVec.toNat_ofNat]; exact Nat.mod_le _ _
  · apply Int32.toBitVec_inj.mp
    show _ = BitVec.ofNat 32 _
    rw [BitVec.ofNat_toNat]; simp
theorem own_mid {i j : Nat} (h : i + j < 2147483648) : ((Int32.ofNat i + Int32.ofNat j).toUInt32 >>> ((1 : Int32) &&& 31).toUInt32).toInt32 = Int32.ofNat ((i + j) / 2) := by
  rw [← Int32.ofNat_add]
  apply Int32.toBitVec_inj.mp
  show (BitVec.ofNat 32 (i + j)) >>> _ = BitVec.ofNat 32 ((i + j) / 2)
  apply BitVec.eq_of_toNat_eq
  rw [show (((1 : Int32) &&& 31).toUInt32.mod 32).toBitVec = 1#32 from by decide]
  rw [BitVec.toNat_ofNat, show (BitVec.ofNat 32 (i + j) >>> 1#32).toNat = (BitVec.ofNat 32 (i + j)).toNat >>> 1 from rfl, BitVec.toNat_ofNat, Nat.shiftRight_eq_div_pow]
  omega
theorem d1_0 : decode jdk_29_method_69_code 0 = .ok (.iload_n 0, 1) := by decide +kernel
theorem d1_1 : decode jdk_29_method_69_code 1 = .ok (.iload_n 1, 1) := by decide +kernel
theorem d1_2 : decode jdk_29_method_69_code 2 = .ok (.if_icmp .gt 7, 3) := by decide +kernel
theorem d1_5 : decode jdk_29_method_69_code 5 = .ok (.iload_n 0, 1) := by decide +kernel
theorem d1_6 : decode jdk_29_method_69_code 6 = .ok (.goto 4, 3) := by decide +kernel
theorem d1_9 : decode jdk_29_method_69_code 9 = .ok (.iload_n 1, 1) := by decide +kernel
theorem d1_10 : decode jdk_29_method_69_code 10 = .ok (.ireturn, 1) := by decide +kernel
theorem d2_0 : decode jdk_29_method_65_code 0 = .ok (.iload_n 0, 1) := by decide +kernel
theorem d2_1 : decode jdk_29_method_65_code 1 = .ok (.iload_n 1, 1) := by decide +kernel
theorem d2_2 : decode jdk_29_method_65_code 2 = .ok (.if_icmp .lt 7, 3) := by decide +kernel
theorem d2_5 : decode jdk_29_method_65_code 5 = .ok (.iload_n 0, 1) := by decide +kernel
theorem d2_6 : decode jdk_29_method_65_code 6 = .ok (.goto 4, 3) := by decide +kernel
theorem d2_9 : decode jdk_29_method_65_code 9 = .ok (.iload_n 1, 1) := by decide +kernel
theorem d2_10 : decode jdk_29_method_65_code 10 = .ok (.ireturn, 1) := by decide +kernel
theorem d3_0 : decode method_3_code 0 = .ok (.iload_n 1, 1) := by decide +kernel
theorem d3_1 : decode method_3_code 1 = .ok (.iload_n 2, 1) := by decide +kernel
theorem d3_2 : decode method_3_code 2 = .ok (.if_icmp .lt 18, 3) := by decide +kernel
theorem d3_5 : decode method_3_code 5 = .ok (.iload_n 1, 1) := by decide +kernel
theorem d3_6 : decode method_3_code 6 = .ok (.iload_n 3, 1) := by decide +kernel
theorem d3_7 : decode method_3_code 7 = .ok (.if_icmp .ge 13, 3) := by decide +kernel
theorem d3_10 : decode method_3_code 10 = .ok (.iload_n 0, 1) := by decide +kernel
theorem d3_11 : decode method_3_code 11 = .ok (.iload 4, 2) := by decide +kernel
theorem d3_13 : decode method_3_code 13 = .ok (.if_icmp .ge 7, 3) := by decide +kernel
theorem d3_16 : decode method_3_code 16 = .ok (.iconst 1, 1) := by decide +kernel
theorem d3_17 : decode method_3_code 17 = .ok (.goto 4, 3) := by decide +kernel
theorem d3_20 : decode method_3_code 20 = .ok (.iconst 0, 1) := by decide +kernel
theorem d3_21 : decode method_3_code 21 = .ok (.ireturn, 1) := by decide +kernel
theorem d4_0 : decode prog_67_method_79_code 0 = .ok (.iload_n 1, 1) := by decide +kernel
theorem d4_1 : decode prog_67_method_79_code 1 = .ok (.istore 4, 2) := by decide +kernel
theorem d4_3 : decode prog_67_method_79_code 3 = .ok (.iload_n 2, 1) := by decide +kernel
theorem d4_4 : decode prog_67_method_79_code 4 = .ok (.istore 5, 2) := by decide +kernel
theorem d4_6 : decode prog_67_method_79_code 6 = .ok (.iload 4, 2) := by decide +kernel
theorem d4_8 : decode prog_67_method_79_code 8 = .ok (.iload 5, 2) := by decide +kernel
theorem d4_10 : decode prog_67_method_79_code 10 = .ok (.if_icmp .ge 36, 3) := by decide +kernel
theorem d4_13 : decode prog_67_method_79_code 13 = .ok (.iload 4, 2) := by decide +kernel
theorem d4_15 : decode prog_67_method_79_code 15 = .ok (.iload 5, 2) := by decide +kernel
theorem d4_17 : decode prog_67_method_79_code 17 = .ok (.iadd, 1) := by decide +kernel
theorem d4_18 : decode prog_67_method_79_code 18 = .ok (.iconst 1, 1) := by decide +kernel
theorem d4_19 : decode prog_67_method_79_code 19 = .ok (.iushr, 1) := by decide +kernel
theorem d4_20 : decode prog_67_method_79_code 20 = .ok (.istore 6, 2) := by decide +kernel
theorem d4_22 : decode prog_67_method_79_code 22 = .ok (.aload_n 0, 1) := by decide +kernel
theorem d4_23 : decode prog_67_method_79_code 23 = .ok (.iload 6, 2) := by decide +kernel
theorem d4_25 : decode prog_67_method_79_code 25 = .ok (.iaload, 1) := by decide +kernel
theorem d4_26 : decode prog_67_method_79_code 26 = .ok (.iload_n 3, 1) := by decide +kernel
theorem d4_27 : decode prog_67_method_79_code 27 = .ok (.if_icmp .ge 12, 3) := by decide +kernel
theorem d4_30 : decode prog_67_method_79_code 30 = .ok (.iload 6, 2) := by decide +kernel
theorem d4_32 : decode prog_67_method_79_code 32 = .ok (.iconst 1, 1) := by decide +kernel
theorem d4_33 : decode prog_67_method_79_code 33 = .ok (.iadd, 1) := by decide +kernel
theorem d4_34 : decode prog_67_method_79_code 34 = .ok (.istore 4, 2) := by decide +kernel
theorem d4_36 : decode prog_67_method_79_code 36 = .ok (.goto 7, 3) := by decide +kernel
theorem d4_39 : decode prog_67_method_79_code 39 = .ok (.iload 6, 2) := by decide +kernel
theorem d4_41 : decode prog_67_method_79_code 41 = .ok (.istore 5, 2) := by decide +kernel
theorem d4_43 : decode prog_67_method_79_code 43 = .ok (.goto (-37), 3) := by decide +kernel
theorem d4_46 : decode prog_67_method_79_code 46 = .ok (.iload 4, 2) := by decide +kernel
theorem d4_48 : decode prog_67_method_79_code 48 = .ok (.ireturn, 1) := by decide +kernel
theorem pd_0 : parseMethodDescriptor "(II)I" = some ⟨[.int, .int], some .int⟩ := by decide +kernel
theorem pd_1 : parseMethodDescriptor "(IIIII)I" = some ⟨[.int, .int, .int, .int, .int], some .int⟩ := by decide +kernel
theorem pd_2 : parseMethodDescriptor "([IIII)I" = some ⟨[(.array .int), .int, .int, .int], some .int⟩ := by decide +kernel
theorem pn_0 : plainName "com/example/witnesseth/witnesseth/document/OutlineFirstAtLeastPinLaw" = true := by first | (simp [plainName, overriddenIn]; done) | decide +kernel
theorem pn_1 : plainName "com/example/witnesseth/witnesseth/document/Outline" = true := by first | (simp [plainName, overriddenIn]; done) | decide +kernel
def own_min (p1 : Int32) (p2 : Int32) : Int32 := (if p2 < p1 then p2 else p1)
theorem ef_rmMin (m : MethodId) (x0 : Int32) (x1 : Int32) : entryFrame m #[(.int x0), (.int x1)] 2 = mkF m 0 #[.val (.int x0), .val (.int x1)] [] := by first | (simp [entryFrame, mkF, argsToLocals, Value.category]; done) | rfl
def Q_rmMin (p1 : Int32) (p2 : Int32) (h0 : Heap) (n0 : Nat) (v : Option Value) (h : Heap) (L : List Loc) : Prop := v = some (.int (own_min p1 p2)) ∧ Fr n0 L ∧ h = h0
set_option maxRecDepth 65536 in
set_option maxHeartbeats 40000000 in
theorem rmMin (l : Launch) (Z : State) (a0 : Array Value) (hw : ∀ d ∈ tables_1, d.before a0 Z = true) (ws : List Jvm.Cond) (p1 : Int32) (p2 : Int32)  (h0 : Heap) (n0 : Nat) (Z0 : n0 ≤ h0.size)  :
    MetFree l (⟨"java/lang/Math", "min", "(II)I"⟩ : MethodName) (head1 (Jvm.Cond.code (⟨"java/lang/Math", "min", "(II)I"⟩ : MethodName) jdk_29_method_69_code 2 (some .int) :: ws) ({ frames := 0, cells := 0, slots := 0, locals := 0 } : Room)) (fun a U => a = #[(.int p1), (.int p2)] ∧ Z.Warmed39 U.vm ∧ U.heap = h0) (fun _ _ _ _ _ => True) (fun _ U o U' => ∃ v L, o = .returned v ∧ Q_rmMin p1 p2 h0 n0 v U'.heap L ∧ FrameEnd U o U' L ({ frames := 0, cells := 0, slots := 0, locals := 0 } : Room).cells ({ frames := 0, cells := 0, slots := 0, locals := 0 } : Room).slots) := by
  refine MetFree.of_bodySF (Jvm.Free.JP.mathPlain rfl (by decide +kernel)) hisR ?_
  intro p e s m args below meth c s₁ Bd hml0 hP hK
  obtain ⟨rfl, hZ, hh⟩ := hP
  have hx := Bd.exec
  have hby := Bd.bytes
  have hml : c.maxLocals = 2 := hml0
  have hown : s.vm.findClass "java/lang/Math" = some m.cls := findClass_of_methodNamed Bd.named
  have hnm := (name_of_methodNamed Bd.named Bd.method).1
  have X0 : Stand p l e ({ frames := 0, cells := 0, slots := 0, locals := 0 } : Room) s m #[(.int p1), (.int p2)] below meth c s₁ [] 0 0 := Stand.of_body Bd
  have e0 : s₁.heap = h0 := by rw [← hh, Bd.state]; rfl
  have N0 := Fr.nil n0
  obtain ⟨G, hG, pr0⟩ : ∃ G : State → Prop, (∀ t, G t → Steps p.tables e below (s₁.setTop (entryFrame m #[(.int p1), (.int p2)] 2)) t) ∧ (∀ t, Steps p.tables e below (s₁.setTop (mkF m 0 #[.val (.int p1), .val (.int p2)] [])) t → G t) := ⟨_, fun _ k => k, fun t k => castTop (ef_rmMin m p1 p2) k⟩
  have pr1 : ∀ t, Steps p.tables e below (s₁.setTop (mkF m 2 #[.val (.int p1), .val (.int p2)] [(.int p2), (.int p1)])) t → G t := fun t k => pr0 t (by
      refine XS.iloadN X0.here hx rfl (hb hby d1_0) rfl ?_
      refine XS.iloadN X0.here hx rfl (hb hby d1_1) rfl ?_
      exact k)
  obtain ⟨j3, hj3⟩ : ∃ z : Int32, z = (if p2 < p1 then p2 else p1) := ⟨_, rfl⟩
  have pr4 : ∀ t, Steps p.tables e below (s₁.setTop (mkF m 10 #[.val (.int p1), .val (.int p2)] [(.int j3)])) t → G t := by
    intro t k
    refine pr1 t ?_
    by_cases c2 : p2 < p1
    · refine XS.icmpYes X0.here hx rfl (pc0 := 2) (pc' := 9) rfl (hb hby d1_2) rfl (tlt c2).2.2.1 (by decide) (by decide) ?_
      refine XS.iloadN X0.here hx rfl (hb hby d1_9) rfl ?_
      have ej3 : j3 = p2 := by rw [hj3, if_pos c2]
      rw [ej3] at k
      exact k
    · refine XS.icmpNo X0.here hx rfl (hb hby d1_2) rfl (flt c2).2.2.1 ?_
      refine XS.iloadN X0.here hx rfl (hb hby d1_5) rfl ?_
      refine XS.goto X0.here hx rfl (pc0 := 6) (pc' := 10) rfl (hb hby d1_6) (by decide) (by decide) ?_
      have ej3 : j3 = p1 := by rw [hj3, if_neg c2]
      rw [ej3] at k
      exact k
  have hret : j3 = own_min p1 p2 := by rw [hj3]; rfl
  rw [hret] at pr4
  obtain ⟨fs, hr, hrun, hended, hW, hsame⟩ := X0.leave (v := some (.int (own_min p1 p2))) (fun h => by rw [Bd.returns] at h; cases h)
  refine ⟨_, _, hG _ (pr4 _ ?_), hrun, hended, _, _, rfl, ?_, ⟨_, rfl⟩, hW, hsame.mono (by decide) (by decide)⟩
  · exact retI X0 hx Bd.returns (hb hby d1_10) hr
  · show Q_rmMin p1 p2 h0 n0 _ s₁.heap _
    rw [e0]
    exact ⟨rfl, N0, rfl⟩
def own_max (p1 : Int32) (p2 : Int32) : Int32 := (if p1 < p2 then p2 else p1)
theorem ef_rmMax (m : MethodId) (x0 : Int32) (x1 : Int32) : entryFrame m #[(.int x0), (.int x1)] 2 = mkF m 0 #[.val (.int x0), .val (.int x1)] [] := by first | (simp [entryFrame, mkF, argsToLocals, Value.category]; done) | rfl
def Q_rmMax (p1 : Int32) (p2 : Int32) (h0 : Heap) (n0 : Nat) (v : Option Value) (h : Heap) (L : List Loc) : Prop := v = some (.int (own_max p1 p2)) ∧ Fr n0 L ∧ h = h0
set_option maxRecDepth 65536 in
set_option maxHeartbeats 40000000 in
theorem rmMax (l : Launch) (Z : State) (a0 : Array Value) (hw : ∀ d ∈ tables_1, d.before a0 Z = true) (ws : List Jvm.Cond) (p1 : Int32) (p2 : Int32)  (h0 : Heap) (n0 : Nat) (Z0 : n0 ≤ h0.size)  :
    MetFree l (⟨"java/lang/Math", "max", "(II)I"⟩ : MethodName) (head1 (Jvm.Cond.code (⟨"java/lang/Math", "max", "(II)I"⟩ : MethodName) jdk_29_method_65_code 2 (some .int) :: ws) ({ frames := 0, cells := 0, slots := 0, locals := 0 } : Room)) (fun a U => a = #[(.int p1), (.int p2)] ∧ Z.Warmed39 U.vm ∧ U.heap = h0) (fun _ _ _ _ _ => True) (fun _ U o U' => ∃ v L, o = .returned v ∧ Q_rmMax p1 p2 h0 n0 v U'.heap L ∧ FrameEnd U o U' L ({ frames := 0, cells := 0, slots := 0, locals := 0 } : Room).cells ({ frames := 0, cells := 0, slots := 0, locals := 0 } : Room).slots) := by
  refine MetFree.of_bodySF (Jvm.Free.JP.mathPlain rfl (by decide +kernel)) hisR ?_
  intro p e s m args below meth c s₁ Bd hml0 hP hK
  obtain ⟨rfl, hZ, hh⟩ := hP
  have hx := Bd.exec
  have hby := Bd.bytes
  have hml : c.maxLocals = 2 := hml0
  have hown : s.vm.findClass "java/lang/Math" = some m.cls := findClass_of_methodNamed Bd.named
  have hnm := (name_of_methodNamed Bd.named Bd.method).1
  have X0 : Stand p l e ({ frames := 0, cells := 0, slots := 0, locals := 0 } : Room) s m #[(.int p1), (.int p2)] below meth c s₁ [] 0 0 := Stand.of_body Bd
  have e0 : s₁.heap = h0 := by rw [← hh, Bd.state]; rfl
  have N0 := Fr.nil n0
  obtain ⟨G, hG, pr0⟩ : ∃ G : State → Prop, (∀ t, G t → Steps p.tables e below (s₁.setTop (entryFrame m #[(.int p1), (.int p2)] 2)) t) ∧ (∀ t, Steps p.tables e below (s₁.setTop (mkF m 0 #[.val (.int p1), .val (.int p2)] [])) t → G t) := ⟨_, fun _ k => k, fun t k => castTop (ef_rmMax m p1 p2) k⟩
  have pr5 : ∀ t, Steps p.tables e below (s₁.setTop (mkF m 2 #[.val (.int p1), .val (.int p2)] [(.int p2), (.int p1)])) t → G t := fun t k => pr0 t (by
      refine XS.iloadN X0.here hx rfl (hb hby d2_0) rfl ?_
      refine XS.iloadN X0.here hx rfl (hb hby d2_1) rfl ?_
      exact k)
  obtain ⟨j7, hj7⟩ : ∃ z : Int32, z = (if p1 < p2 then p2 else p1) := ⟨_, rfl⟩
  have pr8 : ∀ t, Steps p.tables e below (s₁.setTop (mkF m 10 #[.val (.int p1), .val (.int p2)] [(.int j7)])) t → G t := by
    intro t k
    refine pr5 t ?_
    by_cases c6 : p1 < p2
    · refine XS.icmpYes X0.here hx rfl (pc0 := 2) (pc' := 9) rfl (hb hby d2_2) rfl (tlt c6).1 (by decide) (by decide) ?_
      refine XS.iloadN X0.here hx rfl (hb hby d2_9) rfl ?_
      have ej7 : j7 = p2 := by rw [hj7, if_pos c6]
      rw [ej7] at k
      exact k
    · refine XS.icmpNo X0.here hx rfl (hb hby d2_2) rfl (flt c6).1 ?_
      refine XS.iloadN X0.here hx rfl (hb hby d2_5) rfl ?_
      refine XS.goto X0.here hx rfl (pc0 := 6) (pc' := 10) rfl (hb hby d2_6) (by decide) (by decide) ?_
      have ej7 : j7 = p1 := by rw [hj7, if_neg c6]
      rw [ej7] at k
      exact k
  have hret : j7 = own_max p1 p2 := by rw [hj7]; rfl
  rw [hret] at pr8
  obtain ⟨fs, hr, hrun, hended, hW, hsame⟩ := X0.leave (v := some (.int (own_max p1 p2))) (fun h => by rw [Bd.returns] at h; cases h)
  refine ⟨_, _, hG _ (pr8 _ ?_), hrun, hended, _, _, rfl, ?_, ⟨_, rfl⟩, hW, hsame.mono (by decide) (by decide)⟩
  · exact retI X0 hx Bd.returns (hb hby d2_10) hr
  · show Q_rmMax p1 p2 h0 n0 _ s₁.heap _
    rw [e0]
    exact ⟨rfl, N0, rfl⟩
def own_below (p1 : Int32) (p2 : Int32) (p3 : Int32) (p4 : Int32) (p5 : Int32) : Int32 := (if p2 < p3 then (0 : Int32) else (if p2 < p4 then (if p1 < p5 then (1 : Int32) else (0 : Int32)) else (0 : Int32)))
theorem ef_rmBelow (m : MethodId) (x0 : Int32) (x1 : Int32) (x2 : Int32) (x3 : Int32) (x4 : Int32) : entryFrame m #[(.int x0), (.int x1), (.int x2), (.int x3), (.int x4)] 5 = mkF m 0 #[.val (.int x0), .val (.int x1), .val (.int x2), .val (.int x3), .val (.int x4)] [] := by first | (simp [entryFrame, mkF, argsToLocals, Value.category]; done) | rfl
def Q_rmBelow (p1 : Int32) (p2 : Int32) (p3 : Int32) (p4 : Int32) (p5 : Int32) (h0 : Heap) (n0 : Nat) (v : Option Value) (h : Heap) (L : List Loc) : Prop := v = some (.int (own_below p1 p2 p3 p4 p5)) ∧ Fr n0 L ∧ h = h0
set_option maxRecDepth 65536 in
set_option maxHeartbeats 40000000 in
theorem rmBelow (l : Launch) (Z : State) (a0 : Array Value) (hw : ∀ d ∈ tables_1, d.before a0 Z = true) (ws : List Jvm.Cond) (p1 : Int32) (p2 : Int32) (p3 : Int32) (p4 : Int32) (p5 : Int32)  (h0 : Heap) (n0 : Nat) (Z0 : n0 ≤ h0.size)  :
    MetFree l (⟨"com/example/witnesseth/witnesseth/document/OutlineFirstAtLeastPinLaw", "below", "(IIIII)I"⟩ : MethodName) (head1 (Jvm.Cond.code (⟨"com/example/witnesseth/witnesseth/document/OutlineFirstAtLeastPinLaw", "below", "(IIIII)I"⟩ : MethodName) method_3_code 5 (some .int) :: ws) ({ frames := 0, cells := 0, slots := 0, locals := 0 } : Room)) (fun a U => a = #[(.int p1), (.int p2), (.int p3), (.int p4), (.int p5)] ∧ Z.Warmed39 U.vm ∧ U.heap = h0) (fun _ _ _ _ _ => True) (fun _ U o U' => ∃ v L, o = .returned v ∧ Q_rmBelow p1 p2 p3 p4 p5 h0 n0 v U'.heap L ∧ FrameEnd U o U' L ({ frames := 0, cells := 0, slots := 0, locals := 0 } : Room).cells ({ frames := 0, cells := 0, slots := 0, locals := 0 } : Room).slots) := by
  refine MetFree.of_bodySF (plainFor_of_name pn_0) hisR ?_
  intro p e s m args below meth c s₁ Bd hml0 hP hK
  obtain ⟨rfl, hZ, hh⟩ := hP
  have hx := Bd.exec
  have hby := Bd.bytes
  have hml : c.maxLocals = 5 := hml0
  have hown : s.vm.findClass "com/example/witnesseth/witnesseth/document/OutlineFirstAtLeastPinLaw" = some m.cls := findClass_of_methodNamed Bd.named
  have hnm := (name_of_methodNamed Bd.named Bd.method).1
  have X0 : Stand p l e ({ frames := 0, cells := 0, slots := 0, locals := 0 } : Room) s m #[(.int p1), (.int p2), (.int p3), (.int p4), (.int p5)] below meth c s₁ [] 0 0 := Stand.of_body Bd
  have e0 : s₁.heap = h0 := by rw [← hh, Bd.state]; rfl
  have N0 := Fr.nil n0
  obtain ⟨G, hG, pr0⟩ : ∃ G : State → Prop, (∀ t, G t → Steps p.tables e below (s₁.setTop (entryFrame m #[(.int p1), (.int p2), (.int p3), (.int p4), (.int p5)] 5)) t) ∧ (∀ t, Steps p.tables e below (s₁.setTop (mkF m 0 #[.val (.int p1), .val (.int p2), .val (.int p3), .val (.int p4), .val (.int p5)] [])) t → G t) := ⟨_, fun _ k => k, fun t k => castTop (ef_rmBelow m p1 p2 p3 p4 p5) k⟩
  have pr9 : ∀ t, Steps p.tables e below (s₁.setTop (mkF m 2 #[.val (.int p1), .val (.int p2), .val (.int p3), .val (.int p4), .val (.int p5)] [(.int p3), (.int p2)])) t → G t := fun t k => pr0 t (by
      refine XS.iloadN X0.here hx rfl (hb hby d3_0) rfl ?_
      refine XS.iloadN X0.here hx rfl (hb hby d3_1) rfl ?_
      exact k)
  obtain ⟨j13, hj13⟩ : ∃ z : Int32, z = (if p2 < p3 then (0 : Int32) else (if p2 < p4 then (if p1 < p5 then (1 : Int32) else (0 : Int32)) else (0 : Int32))) := ⟨_, rfl⟩
  have pr14 : ∀ t, Steps p.tables e below (s₁.setTop (mkF m 21 #[.val (.int p1), .val (.int p2), .val (.int p3), .val (.int p4), .val (.int p5)] [(.int j13)])) t → G t := by
    intro t k
    refine pr9 t ?_
    by_cases c10 : p2 < p3
    · refine XS.icmpYes X0.here hx rfl (pc0 := 2) (pc' := 20) rfl (hb hby d3_2) rfl (tlt c10).1 (by decide) (by decide) ?_
      refine XS.iconst X0.here hx rfl (hb hby d3_20) ?_
      have ej13 : j13 = (0 : Int32) := by rw [hj13, if_pos c10]
      rw [ej13] at k
      exact k
    · refine XS.icmpNo X0.here hx rfl (hb hby d3_2) rfl (flt c10).1 ?_
      refine XS.iloadN X0.here hx rfl (hb hby d3_5) rfl ?_
      refine XS.iloadN X0.here hx rfl (hb hby d3_6) rfl ?_
      by_cases c11 : p2 < p4
      · refine XS.icmpNo X0.here hx rfl (hb hby d3_7) rfl (tlt c11).2.1 ?_
        refine XS.iloadN X0.here hx rfl (hb hby d3_10) rfl ?_
        refine XS.iload X0.here hx rfl (hb hby d3_11) rfl ?_
        by_cases c12 : p1 < p5
        · refine XS.icmpNo X0.here hx rfl (hb hby d3_13) rfl (tlt c12).2.1 ?_
          refine XS.iconst X0.here hx rfl (hb hby d3_16) ?_
          refine XS.goto X0.here hx rfl (pc0 := 17) (pc' := 21) rfl (hb hby d3_17) (by decide) (by decide) ?_
          have ej13 : j13 = (1 : Int32) := by rw [hj13, if_neg c10, if_pos c11, if_pos c12]
          rw [ej13] at k
          exact k
        · refine XS.icmpYes X0.here hx rfl (pc0 := 13) (pc' := 20) rfl (hb hby d3_13) rfl (flt c12).2.1 (by decide) (by decide) ?_
          refine XS.iconst X0.here hx rfl (hb hby d3_20) ?_
          have ej13 : j13 = (0 : Int32) := by rw [hj13, if_neg c10, if_pos c11, if_neg c12]
          rw [ej13] at k
          exact k
      · refine XS.icmpYes X0.here hx rfl (pc0 := 7) (pc' := 20) rfl (hb hby d3_7) rfl (flt c11).2.1 (by decide) (by decide) ?_
        refine XS.iconst X0.here hx rfl (hb hby d3_20) ?_
        have ej13 : j13 = (0 : Int32) := by rw [hj13, if_neg c10, if_neg c11]
        rw [ej13] at k
        exact k
  have hret : j13 = own_below p1 p2 p3 p4 p5 := by rw [hj13]; rfl
  rw [hret] at pr14
  obtain ⟨fs, hr, hrun, hended, hW, hsame⟩ := X0.leave (v := some (.int (own_below p1 p2 p3 p4 p5))) (fun h => by rw [Bd.returns] at h; cases h)
  refine ⟨_, _, hG _ (pr14 _ ?_), hrun, hended, _, _, rfl, ?_, ⟨_, rfl⟩, hW, hsame.mono (by decide) (by decide)⟩
  · exact retI X0 hx Bd.returns (hb hby d3_21) hr
  · show Q_rmBelow p1 p2 p3 p4 p5 h0 n0 _ s₁.heap _
    rw [e0]
    exact ⟨rfl, N0, rfl⟩
def own_bs (f : Nat → Bool) : Nat → Nat → Nat → Nat
  | 0, i, _ => i
  | d + 1, i, j => if i < j then (if f ((i + j) / 2) then own_bs f d ((i + j) / 2 + 1) j else own_bs f d i ((i + j) / 2)) else i
set_option maxRecDepth 65536 in
set_option maxHeartbeats 40000000 in
theorem tnA {p : Program} {l : Launch} {e : Env} {R : Room} {s : State} {m : MethodId} {args : Array Value} {below : List Frame} {meth : Method} {c : Code} {T0 : State} {locs : List Loc} {cells slots : Nat} {Z : State} {a0 : Array Value} {h0 : Heap} {a1 : Addr} {p2 p3 p4 n : Int32} {ka : ClassId} {vs : List Int32} {s6 : Slot} {i j : Nat}
    (X0 : Stand p l e R s m args below meth c T0 locs cells slots) (hx : p.tables.exec = Jvm.exec) (hZ : Z.Warmed39 s.vm) (hw : ∀ d ∈ tables_1, d.before a0 Z = true) (hby : c.code = prog_67_method_79_code) (hml : c.maxLocals = 7) (hown : s.vm.findClass "com/example/witnesseth/witnesseth/document/Outline" = some m.cls) (e0 : T0.heap = h0) (V_a1 : IA Z h0 a1 ka .int n vs) (h6 : One s6) (hlt : i < j) (hj : j ≤ vs.length) (hbd : j < 1000000) (hc : vs.getD ((i + j) / 2) 0 < p4) :
    ∀ t, Steps p.tables e below (T0.setTop (mkF m 6 #[.val (.ref a1), .val (.int p2), .val (.int p3), .val (.int p4), .val (.int (Int32.ofNat ((i + j) / 2 + 1))), .val (.int (Int32.ofNat j)), .val (.int (Int32.ofNat ((i + j) / 2)))] [])) t → Steps p.tables e below (T0.setTop (mkF m 6 #[.val (.ref a1), .val (.int p2), .val (.int p3), .val (.int p4), .val (.int (Int32.ofNat i)), .val (.int (Int32.ofNat j)), s6] [])) t := by
  obtain ⟨G, hG, pr0⟩ : ∃ G : State → Prop, (∀ t, G t → Steps p.tables e below (T0.setTop (mkF m 6 #[.val (.ref a1), .val (.int p2), .val (.int p3), .val (.int p4), .val (.int (Int32.ofNat i)), .val (.int (Int32.ofNat j)), s6] [])) t) ∧ (∀ t, Steps p.tables e below (T0.setTop (mkF m 6 #[.val (.ref a1), .val (.int p2), .val (.int p3), .val (.int p4), .val (.int (Int32.ofNat i)), .val (.int (Int32.ofNat j)), s6] [])) t → G t) := ⟨_, fun _ k => k, fun _ k => k⟩
  have pr15 : ∀ t, Steps p.tables e below (T0.setTop (mkF m 20 #[.val (.ref a1), .val (.int p2), .val (.int p3), .val (.int p4), .val (.int (Int32.ofNat i)), .val (.int (Int32.ofNat j)), s6] [(.int ((((Int32.ofNat i) + (Int32.ofNat j)).toUInt32 >>> ((1 : Int32) &&& 31).toUInt32).toInt32))])) t → G t := fun t k => pr0 t (by
      refine XS.iload X0.here hx rfl (hb hby d4_6) rfl ?_
      refine XS.iload X0.here hx rfl (hb hby d4_8) rfl ?_
      refine XS.icmpNo X0.here hx rfl (hb hby d4_10) rfl (tlt (own_ltN hlt (by omega))).2.1 ?_
      refine XS.iload X0.here hx rfl (hb hby d4_13) rfl ?_
      refine XS.iload X0.here hx rfl (hb hby d4_15) rfl ?_
      refine XS.iadd X0.here hx rfl (hb hby d4_17) rfl ?_
      refine XS.iconst X0.here hx rfl (hb hby d4_18) ?_
      refine XS.iushr X0.here hx rfl (hb hby d4_19) rfl ?_
      exact k)
  rw [own_mid (by omega)] at pr15
  have pr16 : ∀ t, Steps p.tables e below (T0.setTop (mkF m 6 #[.val (.ref a1), .val (.int p2), .val (.int p3), .val (.int p4), .val (.int ((Int32.ofNat ((i + j) / 2)) + (1 : Int32))), .val (.int (Int32.ofNat j)), .val (.int (Int32.ofNat ((i + j) / 2)))] [])) t → G t := fun t k => pr15 t (by
      refine XS.istore X0.here hx rfl (hb hby d4_20) rfl (l' := #[.val (.ref a1), .val (.int p2), .val (.int p3), .val (.int p4), .val (.int (Int32.ofNat i)), .val (.int (Int32.ofNat j)), .val (.int (Int32.ofNat ((i + j) / 2)))]) (by rcases h6 with rfl | ⟨w, rfl, hw⟩ <;> first | rfl | (cases w <;> first | rfl | (simp [Value.category] at hw))) ?_
      refine XS.aloadN X0.here hx rfl (hb hby d4_22) rfl rfl ?_
      refine XS.iload X0.here hx rfl (hb hby d4_23) rfl ?_
      refine ia_ldI X0 hx hZ e0 V_a1 (j := (Int32.ofNat ((i + j) / 2))) ((i + j) / 2) (own_n32 (by omega)) (own_nn (by omega)) (by omega) (w := (vs.getD ((i + j) / 2) 0)) rfl (g := (mkF m 25 #[.val (.ref a1), .val (.int p2), .val (.int p3), .val (.int p4), .val (.int (Int32.ofNat i)), .val (.int (Int32.ofNat j)), .val (.int (Int32.ofNat ((i + j) / 2)))] [(.int (Int32.ofNat ((i + j) / 2))), (.ref a1)])) rfl rfl (hb hby d4_25) _ ?_
      refine XS.iloadN X0.here hx rfl (hb hby d4_26) rfl ?_
      refine XS.icmpNo X0.here hx rfl (hb hby d4_27) rfl (tlt hc).2.1 ?_
      refine XS.iload X0.here hx rfl (hb hby d4_30) rfl ?_
      refine XS.iconst X0.here hx rfl (hb hby d4_32) ?_
      refine XS.iadd X0.here hx rfl (hb hby d4_33) rfl ?_
      refine XS.istore X0.here hx rfl (hb hby d4_34) rfl (l' := #[.val (.ref a1), .val (.int p2), .val (.int p3), .val (.int p4), .val (.int ((Int32.ofNat ((i + j) / 2)) + (1 : Int32))), .val (.int (Int32.ofNat j)), .val (.int (Int32.ofNat ((i + j) / 2)))]) rfl ?_
      refine XS.goto X0.here hx rfl (pc0 := 36) (pc' := 43) rfl (hb hby d4_36) (by decide) (by decide) ?_
      refine XS.goto X0.here hx rfl (pc0 := 43) (pc' := 6) rfl (hb hby d4_43) (by decide) (by decide) ?_
      exact k)
  rw [own_one] at pr16
  exact fun t k => hG t (pr16 t k)
set_option maxRecDepth 65536 in
set_option maxHeartbeats 40000000 in
theorem tnB {p : Program} {l : Launch} {e : Env} {R : Room} {s : State} {m : MethodId} {args : Array Value} {below : List Frame} {meth : Method} {c : Code} {T0 : State} {locs : List Loc} {cells slots : Nat} {Z : State} {a0 : Array Value} {h0 : Heap} {a1 : Addr} {p2 p3 p4 n : Int32} {ka : ClassId} {vs : List Int32} {s6 : Slot} {i j : Nat}
    (X0 : Stand p l e R s m args below meth c T0 locs cells slots) (hx : p.tables.exec = Jvm.exec) (hZ : Z.Warmed39 s.vm) (hw : ∀ d ∈ tables_1, d.before a0 Z = true) (hby : c.code = prog_67_method_79_code) (hml : c.maxLocals = 7) (hown : s.vm.findClass "com/example/witnesseth/witnesseth/document/Outline" = some m.cls) (e0 : T0.heap = h0) (V_a1 : IA Z h0 a1 ka .int n vs) (h6 : One s6) (hlt : i < j) (hj : j ≤ vs.length) (hbd : j < 1000000) (hc : ¬ vs.getD ((i + j) / 2) 0 < p4) :
    ∀ t, Steps p.tables e below (T0.setTop (mkF m 6 #[.val (.ref a1), .val (.int p2), .val (.int p3), .val (.int p4), .val (.int (Int32.ofNat i)), .val (.int (Int32.ofNat ((i + j) / 2))), .val (.int (Int32.ofNat ((i + j) / 2)))] [])) t → Steps p.tables e below (T0.setTop (mkF m 6 #[.val (.ref a1), .val (.int p2), .val (.int p3), .val (.int p4), .val (.int (Int32.ofNat i)), .val (.int (Int32.ofNat j)), s6] [])) t := by
  obtain ⟨G, hG, pr0⟩ : ∃ G : State → Prop, (∀ t, G t → Steps p.tables e below (T0.setTop (mkF m 6 #[.val (.ref a1), .val (.int p2), .val (.int p3), .val (.int p4), .val (.int (Int32.ofNat i)), .val (.int (Int32.ofNat j)), s6] [])) t) ∧ (∀ t, Steps p.tables e below (T0.setTop (mkF m 6 #[.val (.ref a1), .val (.int p2), .val (.int p3), .val (.int p4), .val (.int (Int32.ofNat i)), .val (.int (Int32.ofNat j)), s6] [])) t → G t) := ⟨_, fun _ k => k, fun _ k => k⟩
  have pr17 : ∀ t, Steps p.tables e below (T0.setTop (mkF m 20 #[.val (.ref a1), .val (.int p2), .val (.int p3), .val (.int p4), .val (.int (Int32.ofNat i)), .val (.int (Int32.ofNat j)), s6] [(.int ((((Int32.ofNat i) + (Int32.ofNat j)).toUInt32 >>> ((1 : Int32) &&& 31).toUInt32).toInt32))])) t → G t := fun t k => pr0 t (by
      refine XS.iload X0.here hx rfl (hb hby d4_6) rfl ?_
      refine XS.iload X0.here hx rfl (hb hby d4_8) rfl ?_
      refine XS.icmpNo X0.here hx rfl (hb hby d4_10) rfl (tlt (own_ltN hlt (by omega))).2.1 ?_
      refine XS.iload X0.here hx rfl (hb hby d4_13) rfl ?_
      refine XS.iload X0.here hx rfl (hb hby d4_15) rfl ?_
      refine XS.iadd X0.here hx rfl (hb hby d4_17) rfl ?_
      refine XS.iconst X0.here hx rfl (hb hby d4_18) ?_
      refine XS.iushr X0.here hx rfl (hb hby d4_19) rfl ?_
      exact k)
  rw [own_mid (by omega)] at pr17
  have pr18 : ∀ t, Steps p.tables e below (T0.setTop (mkF m 6 #[.val (.ref a1), .val (.int p2), .val (.int p3), .val (.int p4), .val (.int (Int32.ofNat i)), .val (.int (Int32.ofNat ((i + j) / 2))), .val (.int (Int32.ofNat ((i + j) / 2)))] [])) t → G t := fun t k => pr17 t (by
      refine XS.istore X0.here hx rfl (hb hby d4_20) rfl (l' := #[.val (.ref a1), .val (.int p2), .val (.int p3), .val (.int p4), .val (.int (Int32.ofNat i)), .val (.int (Int32.ofNat j)), .val (.int (Int32.ofNat ((i + j) / 2)))]) (by rcases h6 with rfl | ⟨w, rfl, hw⟩ <;> first | rfl | (cases w <;> first | rfl | (simp [Value.category] at hw))) ?_
      refine XS.aloadN X0.here hx rfl (hb hby d4_22) rfl rfl ?_
      refine XS.iload X0.here hx rfl (hb hby d4_23) rfl ?_
      refine ia_ldI X0 hx hZ e0 V_a1 (j := (Int32.ofNat ((i + j) / 2))) ((i + j) / 2) (own_n32 (by omega)) (own_nn (by omega)) (by omega) (w := (vs.getD ((i + j) / 2) 0)) rfl (g := (mkF m 25 #[.val (.ref a1), .val (.int p2), .val (.int p3), .val (.int p4), .val (.int (Int32.ofNat i)), .val (.int (Int32.ofNat j)), .val (.int (Int32.ofNat ((i + j) / 2)))] [(.int (Int32.ofNat ((i + j) / 2))), (.ref a1)])) rfl rfl (hb hby d4_25) _ ?_
      refine XS.iloadN X0.here hx rfl (hb hby d4_26) rfl ?_
      refine XS.icmpYes X0.here hx rfl (pc0 := 27) (pc' := 39) rfl (hb hby d4_27) rfl (flt hc).2.1 (by decide) (by decide) ?_
      refine XS.iload X0.here hx rfl (hb hby d4_39) rfl ?_
      refine XS.istore X0.here hx rfl (hb hby d4_41) rfl (l' := #[.val (.ref a1), .val (.int p2), .val (.int p3), .val (.int p4), .val (.int (Int32.ofNat i)), .val (.int (Int32.ofNat ((i + j) / 2))), .val (.int (Int32.ofNat ((i + j) / 2)))]) rfl ?_
      refine XS.goto X0.here hx rfl (pc0 := 43) (pc' := 6) rfl (hb hby d4_43) (by decide) (by decide) ?_
      exact k)
  exact fun t k => hG t (pr18 t k)
set_option maxRecDepth 65536 in
set_option maxHeartbeats 40000000 in
theorem tnE {p : Program} {l : Launch} {e : Env} {R : Room} {s : State} {m : MethodId} {args : Array Value} {below : List Frame} {meth : Method} {c : Code} {T0 : State} {locs : List Loc} {cells slots : Nat} {Z : State} {a0 : Array Value} {h0 : Heap} {a1 : Addr} {p2 p3 p4 n : Int32} {ka : ClassId} {vs : List Int32} {s6 : Slot} {i j : Nat}
    (X0 : Stand p l e R s m args below meth c T0 locs cells slots) (hx : p.tables.exec = Jvm.exec) (hZ : Z.Warmed39 s.vm) (hw : ∀ d ∈ tables_1, d.before a0 Z = true) (hby : c.code = prog_67_method_79_code) (hml : c.maxLocals = 7) (hown : s.vm.findClass "com/example/witnesseth/witnesseth/document/Outline" = some m.cls) (e0 : T0.heap = h0) (hge : ¬ i < j) (hbd : i < 1000000) (hbd' : j < 1000000) :
    ∀ t, Steps p.tables e below (T0.setTop (mkF m 46 #[.val (.ref a1), .val (.int p2), .val (.int p3), .val (.int p4), .val (.int (Int32.ofNat i)), .val (.int (Int32.ofNat j)), s6] [])) t → Steps p.tables e below (T0.setTop (mkF m 6 #[.val (.ref a1), .val (.int p2), .val (.int p3), .val (.int p4), .val (.int (Int32.ofNat i)), .val (.int (Int32.ofNat j)), s6] [])) t := by
  obtain ⟨G, hG, pr0⟩ : ∃ G : State → Prop, (∀ t, G t → Steps p.tables e below (T0.setTop (mkF m 6 #[.val (.ref a1), .val (.int p2), .val (.int p3), .val (.int p4), .val (.int (Int32.ofNat i)), .val (.int (Int32.ofNat j)), s6] [])) t) ∧ (∀ t, Steps p.tables e below (T0.setTop (mkF m 6 #[.val (.ref a1), .val (.int p2), .val (.int p3), .val (.int p4), .val (.int (Int32.ofNat i)), .val (.int (Int32.ofNat j)), s6] [])) t → G t) := ⟨_, fun _ k => k, fun _ k => k⟩
  have pr19 : ∀ t, Steps p.tables e below (T0.setTop (mkF m 46 #[.val (.ref a1), .val (.int p2), .val (.int p3), .val (.int p4), .val (.int (Int32.ofNat i)), .val (.int (Int32.ofNat j)), s6] [])) t → G t := fun t k => pr0 t (by
      refine XS.iload X0.here hx rfl (hb hby d4_6) rfl ?_
      refine XS.iload X0.here hx rfl (hb hby d4_8) rfl ?_
      refine XS.icmpYes X0.here hx rfl (pc0 := 10) (pc' := 46) rfl (hb hby d4_10) rfl (flt (own_nltN hge hbd hbd')).2.1 (by decide) (by decide) ?_
      exact k)
  exact fun t k => hG t (pr19 t k)
theorem loopF {p : Program} {l : Launch} {e : Env} {R : Room} {s : State} {m : MethodId} {args : Array Value} {below : List Frame} {meth : Method} {c : Code} {T0 : State} {locs : List Loc} {cells slots : Nat} {Z : State} {a0 : Array Value} {h0 : Heap} {a1 : Addr} {p2 p3 p4 n : Int32} {ka : ClassId} {vs : List Int32}
    (X0 : Stand p l e R s m args below meth c T0 locs cells slots) (hx : p.tables.exec = Jvm.exec) (hZ : Z.Warmed39 s.vm) (hw : ∀ d ∈ tables_1, d.before a0 Z = true) (hby : c.code = prog_67_method_79_code) (hml : c.maxLocals = 7) (hown : s.vm.findClass "com/example/witnesseth/witnesseth/document/Outline" = some m.cls) (e0 : T0.heap = h0) (V_a1 : IA Z h0 a1 ka .int n vs) :
    ∀ (d i j : Nat) (s6 : Slot), One s6 → j - i ≤ d → j ≤ vs.length → j < 1000000 → i < 1000000 → ∃ (j' : Nat) (s6' : Slot), ∀ t, Steps p.tables e below (T0.setTop (mkF m 46 #[.val (.ref a1), .val (.int p2), .val (.int p3), .val (.int p4), .val (.int (Int32.ofNat (own_bs (fun q => decide (vs.getD q 0 < p4)) d i j))), .val (.int (Int32.ofNat j')), s6'] [])) t → Steps p.tables e below (T0.setTop (mkF m 6 #[.val (.ref a1), .val (.int p2), .val (.int p3), .val (.int p4), .val (.int (Int32.ofNat i)), .val (.int (Int32.ofNat j)), s6] [])) t := by
  intro d
  induction d with
  | zero =>
    intro i j s6 h6 hd hj hb hb'
    exact ⟨j, s6, tnE (vs := vs) (ka := ka) (n := n) (i := i) (j := j) X0 hx hZ hw hby hml hown e0 (by omega) hb' hb⟩
  | succ d ih =>
    intro i j s6 h6 hd hj hb hb'
    by_cases hlt : i < j
    · by_cases hc : vs.getD ((i + j) / 2) 0 < p4
      · obtain ⟨j', s6', st⟩ := ih ((i + j) / 2 + 1) j (.val (.int (Int32.ofNat ((i + j) / 2)))) (One.val rfl) (by omega) hj hb (by omega)
        refine ⟨j', s6', fun t k => tnA X0 hx hZ hw hby hml hown e0 V_a1 h6 hlt hj hb hc t (st t ?_)⟩
        rw [own_bs, if_pos hlt, if_pos (by simpa using hc)] at k; exact k
      · obtain ⟨j', s6', st⟩ := ih i ((i + j) / 2) (.val (.int (Int32.ofNat ((i + j) / 2)))) (One.val rfl) (by omega) (by omega) (by omega) hb'
        refine ⟨j', s6', fun t k => tnB X0 hx hZ hw hby hml hown e0 V_a1 h6 hlt hj hb hc t (st t ?_)⟩
        rw [own_bs, if_pos hlt, if_neg (by simpa using hc)] at k; exact k
    · refine ⟨j, s6, fun t k => tnE (vs := vs) (ka := ka) (n := n) (i := i) (j := j) X0 hx hZ hw hby hml hown e0 hlt hb' hb t ?_⟩
      rw [own_bs, if_neg hlt] at k; exact k
theorem ef_rmF (m : MethodId) (x0 : Addr) (x1 : Int32) (x2 : Int32) (x3 : Int32) : entryFrame m #[(.ref x0), (.int x1), (.int x2), (.int x3)] 7 = mkF m 0 #[.val (.ref x0), .val (.int x1), .val (.int x2), .val (.int x3), .unset, .unset, .unset] [] := by first | (simp [entryFrame, mkF, argsToLocals, Value.category]; done) | rfl
def QF (vs : List Int32) (p4 : Int32) (fa ta : Nat) (h0 : Heap) (n0 : Nat) (v : Option Value) (h : Heap) (L : List Loc) : Prop := v = some (.int (Int32.ofNat (own_bs (fun q => decide (vs.getD q 0 < p4)) 4 fa ta))) ∧ Fr n0 L ∧ h = h0
set_option maxRecDepth 65536 in
set_option maxHeartbeats 40000000 in
theorem rmF (l : Launch) (Z : State) (a0 : Array Value) (hw : ∀ d ∈ tables_1, d.before a0 Z = true) (ws : List Jvm.Cond) (a1 : Addr) (p2 : Int32) (p3 : Int32) (p4 : Int32) (ka : ClassId) (n : Int32) (vs : List Int32) (fa ta : Nat) (h0 : Heap) (n0 : Nat) (Z0 : n0 ≤ h0.size) (V_a1 : IA Z h0 a1 ka .int n vs) (e2 : p2 = Int32.ofNat fa) (e3 : p3 = Int32.ofNat ta) (hta : ta ≤ vs.length) (hbd : ta < 1000000) (hle : fa ≤ ta) (h4 : ta - fa ≤ 4) :
    MetFree l (⟨"com/example/witnesseth/witnesseth/document/Outline", "firstAtLeast", "([IIII)I"⟩ : MethodName) (head1 (Jvm.Cond.code (⟨"com/example/witnesseth/witnesseth/document/Outline", "firstAtLeast", "([IIII)I"⟩ : MethodName) prog_67_method_79_code 7 (some .int) :: ws) ({ frames := 0, cells := 0, slots := 0, locals := 0 } : Room)) (fun a U => a = #[(.ref a1), (.int p2), (.int p3), (.int p4)] ∧ Z.Warmed39 U.vm ∧ U.heap = h0) (fun _ _ _ _ _ => True) (fun _ U o U' => ∃ v L, o = .returned v ∧ QF vs p4 fa ta h0 n0 v U'.heap L ∧ FrameEnd U o U' L ({ frames := 0, cells := 0, slots := 0, locals := 0 } : Room).cells ({ frames := 0, cells := 0, slots := 0, locals := 0 } : Room).slots) := by
  refine MetFree.of_bodySF (plainFor_of_name pn_1) hisR ?_
  intro p e s m args below meth c s₁ Bd hml0 hP hK
  obtain ⟨rfl, hZ, hh⟩ := hP
  have hx := Bd.exec
  have hby := Bd.bytes
  have hml : c.maxLocals = 7 := hml0
  have hown : s.vm.findClass "com/example/witnesseth/witnesseth/document/Outline" = some m.cls := findClass_of_methodNamed Bd.named
  have hnm := (name_of_methodNamed Bd.named Bd.method).1
  have X0 : Stand p l e ({ frames := 0, cells := 0, slots := 0, locals := 0 } : Room) s m #[(.ref a1), (.int p2), (.int p3), (.int p4)] below meth c s₁ [] 0 0 := Stand.of_body Bd
  have e0 : s₁.heap = h0 := by rw [← hh, Bd.state]; rfl
  have N0 := Fr.nil n0
  obtain ⟨G, hG, pr0⟩ : ∃ G : State → Prop, (∀ t, G t → Steps p.tables e below (s₁.setTop (entryFrame m #[(.ref a1), (.int p2), (.int p3), (.int p4)] 7)) t) ∧ (∀ t, Steps p.tables e below (s₁.setTop (mkF m 0 #[.val (.ref a1), .val (.int p2), .val (.int p3), .val (.int p4), .unset, .unset, .unset] [])) t → G t) := ⟨_, fun _ k => k, fun t k => castTop (ef_rmF m a1 p2 p3 p4) k⟩
  have pr20 : ∀ t, Steps p.tables e below (s₁.setTop (mkF m 6 #[.val (.ref a1), .val (.int p2), .val (.int p3), .val (.int p4), .val (.int p2), .val (.int p3), .unset] [])) t → G t := fun t k => pr0 t (by
      refine XS.iloadN X0.here hx rfl (hb hby d4_0) rfl ?_
      refine XS.istore X0.here hx rfl (hb hby d4_1) rfl (l' := #[.val (.ref a1), .val (.int p2), .val (.int p3), .val (.int p4), .val (.int p2), .unset, .unset]) rfl ?_
      refine XS.iloadN X0.here hx rfl (hb hby d4_3) rfl ?_
      refine XS.istore X0.here hx rfl (hb hby d4_4) rfl (l' := #[.val (.ref a1), .val (.int p2), .val (.int p3), .val (.int p4), .val (.int p2), .val (.int p3), .unset]) rfl ?_
      exact k)
  obtain ⟨j', s6', st⟩ := loopF (p2 := p2) (p3 := p3) (p4 := p4) X0 hx hZ hw hby hml hown e0 V_a1 4 fa ta .unset One.u h4 hta hbd (by omega)
  rw [← e2, ← e3] at st
  have prL : ∀ t, Steps p.tables e below (s₁.setTop (mkF m 46 #[.val (.ref a1), .val (.int p2), .val (.int p3), .val (.int p4), .val (.int (Int32.ofNat (own_bs (fun q => decide (vs.getD q 0 < p4)) 4 fa ta))), .val (.int (Int32.ofNat j')), s6'] [])) t → G t := fun t k => pr20 t (st t k)
  have pr21 : ∀ t, Steps p.tables e below (s₁.setTop (mkF m 48 #[.val (.ref a1), .val (.int p2), .val (.int p3), .val (.int p4), .val (.int (Int32.ofNat (own_bs (fun q => decide (vs.getD q 0 < p4)) 4 fa ta))), .val (.int (Int32.ofNat j')), s6'] [(.int (Int32.ofNat (own_bs (fun q => decide (vs.getD q 0 < p4)) 4 fa ta)))])) t → G t := fun t k => prL t (by
      refine XS.iload X0.here hx rfl (hb hby d4_46) rfl ?_
      exact k)
  obtain ⟨fs, hr, hrun, hended, hW, hsame⟩ := X0.leave (v := some (.int (Int32.ofNat (own_bs (fun q => decide (vs.getD q 0 < p4)) 4 fa ta)))) (fun h => by rw [Bd.returns] at h; cases h)
  refine ⟨_, _, hG _ (pr21 _ ?_), hrun, hended, _, _, rfl, ?_, ⟨_, rfl⟩, hW, hsame.mono (by decide) (by decide)⟩
  · exact retI X0 hx Bd.returns (hb hby d4_48) hr
  · show QF vs p4 fa ta h0 n0 _ s₁.heap _
    rw [e0]
    exact ⟨rfl, N0, rfl⟩
theorem own_and3 (x : Int32) : ∃ q : Nat, q < 4 ∧ (x &&& (3 : Int32)) = Int32.ofNat q := by
  obtain ⟨q, h, e⟩ := own_andN x 3 (by decide)
  exact ⟨q, by omega, e⟩
theorem own_mod5 (x r : Int32) (h : r = ((x &&& (7 : Int32)) - ((x &&& (7 : Int32)) / (5 : Int32)) * (5 : Int32))) : ∃ q : Nat, q ≤ 4 ∧ r = Int32.ofNat q := by
  obtain ⟨q, hq, e⟩ := own_andN x 7 (by decide)
  have e' : x &&& (7 : Int32) = Int32.ofNat q := e
  have h0 : 0 ≤ (x &&& (7 : Int32)).toInt := by rw [e', own_tI (by omega)]; omega
  have hr := own_rem (x &&& 7) 5 h0 (by decide)
  rw [show (5 : Int32).toInt = 5 from rfl, ← h] at hr
  exact ⟨r.toInt.toNat, by omega, own_ofI (by omega)⟩
theorem own_range (p5 fr0 to0 fr to : Int32) (h1 : fr0 = ((p5 &&& (7 : Int32)) - ((p5 &&& (7 : Int32)) / (5 : Int32)) * (5 : Int32))) (h2 : to0 = ((((p5.toUInt32 >>> ((3 : Int32) &&& 31).toUInt32).toInt32) &&& (7 : Int32)) - ((((p5.toUInt32 >>> ((3 : Int32) &&& 31).toUInt32).toInt32) &&& (7 : Int32)) / (5 : Int32)) * (5 : Int32))) (h3 : fr = (if to0 < fr0 then to0 else fr0)) (h4 : to = (if to0 < fr0 then fr0 else to0)) : ∃ fa ta : Nat, fa ≤ ta ∧ ta ≤ 4 ∧ fr = Int32.ofNat fa ∧ to = Int32.ofNat ta := by
  obtain ⟨a, ha, ea⟩ := own_mod5 _ fr0 h1
  obtain ⟨b, hb, eb⟩ := own_mod5 _ to0 h2
  by_cases q : b < a
  · have q' : to0 < fr0 := by rw [ea, eb]; exact own_ltN q (by omega)
    rw [if_pos q'] at h3 h4
    exact ⟨b, a, by omega, ha, h3.trans eb, h4.trans ea⟩
  · have q' : ¬ to0 < fr0 := by rw [ea, eb]; exact own_nltN q (by omega) (by omega)
    rw [if_neg q'] at h3 h4
    exact ⟨a, b, by omega, hb, h3.trans ea, h4.trans eb⟩
theorem own_minS (a b : Int32) : (own_min a b).toInt = min a.toInt b.toInt := by
  rw [own_min]; split <;> rename_i h <;> rw [Int32.lt_iff_toInt_lt] at h <;> omega
theorem own_maxS (a b : Int32) : (own_max a b).toInt = max a.toInt b.toInt := by
  rw [own_max]; split <;> rename_i h <;> rw [Int32.lt_iff_toInt_lt] at h <;> omega
theorem own_belowS (v key : Int32) (i fa ta : Nat) (hi : i < 1000) (h1 : fa < 1000) (h2 : ta < 1000) : own_below v (Int32.ofNat i) (Int32.ofNat fa) (Int32.ofNat ta) key = Int32.ofNat (if fa ≤ i ∧ i < ta ∧ v < key then 1 else 0) := by
  rw [own_below]
  simp only [Int32.lt_iff_toInt_lt, own_tI (show i < 2147483648 by omega), own_tI (show fa < 2147483648 by omega), own_tI (show ta < 2147483648 by omega)]
  by_cases a1 : (i : Int) < fa
  · rw [if_pos a1, if_neg (by omega)]; rfl
  · rw [if_neg a1]
    by_cases a2 : (i : Int) < ta
    · rw [if_pos a2]
      by_cases a3 : v.toInt < key.toInt
      · rw [if_pos a3, if_pos (by omega)]; rfl
      · rw [if_neg a3, if_neg (by omega)]; rfl
    · rw [if_neg a2, if_neg (by omega)]; rfl
theorem own_search : ∀ (b0 b1 b2 b3 : Bool), (b1 = true → b0 = true) → (b2 = true → b1 = true) → (b3 = true → b2 = true) → ∀ ta < 5, ∀ fa < ta + 1, own_bs (fun q => [b0, b1, b2, b3].getD q false) 4 fa ta = fa + (if fa ≤ 0 ∧ 0 < ta ∧ b0 = true then 1 else 0) + (if fa ≤ 1 ∧ 1 < ta ∧ b1 = true then 1 else 0) + (if fa ≤ 2 ∧ 2 < ta ∧ b2 = true then 1 else 0) + (if fa ≤ 3 ∧ 3 < ta ∧ b3 = true then 1 else 0) := by decide +kernel
theorem own_bsC (f g : Nat → Bool) (N : Nat) : ∀ (d i j : Nat), j ≤ N → (∀ q, q < N → f q = g q) → own_bs f d i j = own_bs g d i j
  | 0, _, _, _, _ => rfl
  | d + 1, i, j, hj, h => by
    rw [own_bs, own_bs]
    by_cases q : i < j
    · rw [if_pos q, if_pos q, h _ (by omega), own_bsC f g N d _ _ hj h, own_bsC f g N d i _ (by omega) h]
    · rw [if_neg q, if_neg q]
theorem own_law (p1 p2 p3 p4 fr to key x0 x1 x2 x3 s0 y2 y1 s3 s1 s2 b0 b1 b2 b3 ex got : Int32) (fa ta : Nat) (hle : fa ≤ ta) (hta : ta ≤ 4) (efr : fr = Int32.ofNat fa) (eto : to = Int32.ofNat ta) (hx0 : x0 = (own_min p1 p2)) (hx1 : x1 = (own_max p1 p2)) (hx2 : x2 = (own_min p3 p4)) (hx3 : x3 = (own_max p3 p4)) (hs0 : s0 = (own_min x0 x2)) (hy2 : y2 = (own_max x0 x2)) (hy1 : y1 = (own_min x1 x3)) (hs3 : s3 = (own_max x1 x3)) (hs1 : s1 = (own_min y1 y2)) (hs2 : s2 = (own_max y1 y2)) (hb0 : b0 = (own_below s0 (0 : Int32) fr to key)) (hb1 : b1 = (own_below s1 (1 : Int32) fr to key)) (hb2 : b2 = (own_below s2 (2 : Int32) fr to key)) (hb3 : b3 = (own_below s3 (3 : Int32) fr to key)) (hex : ex = ((((fr + b0) + b1) + b2) + b3)) (hgot : got = (Int32.ofNat (own_bs (fun q => decide ([s0, s1, s2, s3].getD q 0 < key)) 4 fa ta))) : got = ex := by
  have m0 : x0.toInt = min p1.toInt p2.toInt := by rw [hx0, own_minS]
  have m1 : x1.toInt = max p1.toInt p2.toInt := by rw [hx1, own_maxS]
  have m2 : x2.toInt = min p3.toInt p4.toInt := by rw [hx2, own_minS]
  have m3 : x3.toInt = max p3.toInt p4.toInt := by rw [hx3, own_maxS]
  have n0 : s0.toInt = min x0.toInt x2.toInt := by rw [hs0, own_minS]
  have n1 : y2.toInt = max x0.toInt x2.toInt := by rw [hy2, own_maxS]
  have n2 : y1.toInt = min x1.toInt x3.toInt := by rw [hy1, own_minS]
  have n3 : s3.toInt = max x1.toInt x3.toInt := by rw [hs3, own_maxS]
  have n4 : s1.toInt = min y1.toInt y2.toInt := by rw [hs1, own_minS]
  have n5 : s2.toInt = max y1.toInt y2.toInt := by rw [hs2, own_maxS]
  have o1 : s0.toInt ≤ s1.toInt := by omega
  have o2 : s1.toInt ≤ s2.toInt := by omega
  have o3 : s2.toInt ≤ s3.toInt := by omega
  have hs := own_search (decide (s0 < key)) (decide (s1 < key)) (decide (s2 < key)) (decide (s3 < key))
    (by simp only [decide_eq_true_eq, Int32.lt_iff_toInt_lt]; omega) (by simp only [decide_eq_true_eq, Int32.lt_iff_toInt_lt]; omega) (by simp only [decide_eq_true_eq, Int32.lt_iff_toInt_lt]; omega) ta (by omega) fa (by omega)
  have hcut : own_bs (fun q => decide ([s0, s1, s2, s3].getD q 0 < key)) 4 fa ta = own_bs (fun q => [decide (s0 < key), decide (s1 < key), decide (s2 < key), decide (s3 < key)].getD q false) 4 fa ta := by
    refine own_bsC _ _ 4 4 fa ta hta (fun q hq => ?_)
    match q, hq with
    | 0, _ => rfl
    | 1, _ => rfl
    | 2, _ => rfl
    | 3, _ => rfl
  rw [hgot, hcut, hs, hex, hb0, hb1, hb2, hb3, efr, eto]
  have c0 := own_belowS s0 key 0 fa ta (by decide) (by omega) (by omega)
  have c1 := own_belowS s1 key 1 fa ta (by decide) (by omega) (by omega)
  have c2 := own_belowS s2 key 2 fa ta (by decide) (by omega) (by omega)
  have c3 := own_belowS s3 key 3 fa ta (by decide) (by omega) (by omega)
  rw [show own_below s0 (0 : Int32) _ _ key = _ from c0, show own_below s1 (1 : Int32) _ _ key = _ from c1, show own_below s2 (2 : Int32) _ _ key = _ from c2, show own_below s3 (3 : Int32) _ _ key = _ from c3]
  simp only [← Int32.ofNat_add, decide_eq_true_eq]
theorem ef_rm0 (m : MethodId) (x0 : Int32) (x1 : Int32) (x2 : Int32) (x3 : Int32) (x4 : Int32) (x5 : Int32) : entryFrame m #[(.int x0), (.int x1), (.int x2), (.int x3), (.int x4), (.int x5)] maxLocals = mkF m 0 #[.val (.int x0), .val (.int x1), .val (.int x2), .val (.int x3), .val (.int x4), .val (.int x5), .unset, .unset, .unset, .unset, .unset, .unset, .unset, .unset, .unset, .unset, .unset, .unset, .unset, .unset, .unset, .unset] [] := by first | (simp [entryFrame, mkF, argsToLocals, Value.category, maxLocals]; done) | rfl
def Q0 (n0 : Nat) (v : Option Value) (h : Heap) (L : List Loc) : Prop := v = some (.int 1) ∧ Fr n0 L
set_option maxRecDepth 65536 in
set_option maxHeartbeats 40000000 in
theorem rm0 (l : Launch) (Z : State) (a0 : Array Value) (hw : ∀ d ∈ tables_1, d.before a0 Z = true) (ws : List Jvm.Cond) (p1 : Int32) (p2 : Int32) (p3 : Int32) (p4 : Int32) (p5 : Int32) (p6 : Int32)  (h0 : Heap) (n0 : Nat) (Z0 : n0 ≤ h0.size)  :
    MetFree l x (head1 (Jvm.Cond.code x code maxLocals ret :: ws) room_1) (fun a U => a = #[(.int p1), (.int p2), (.int p3), (.int p4), (.int p5), (.int p6)] ∧ Z.Warmed39 U.vm ∧ U.heap = h0) (fun _ _ _ _ _ => True) (fun _ U o U' => ∃ v L, o = .returned v ∧ Q0 n0 v U'.heap L ∧ FrameEnd U o U' L room_1.cells room_1.slots) := by
  refine MetFree.of_bodySF (plainFor_of_name pn_0) hisR ?_
  intro p e s m args below meth c s₁ Bd hml0 hP hK
  obtain ⟨rfl, hZ, hh⟩ := hP
  have hx := Bd.exec
  have hby := Bd.bytes
  have hml : c.maxLocals = 22 := hml0
  have hown : s.vm.findClass "com/example/witnesseth/witnesseth/document/OutlineFirstAtLeastPinLaw" = some m.cls := findClass_of_methodNamed Bd.named
  have hnm := (name_of_methodNamed Bd.named Bd.method).1
  have X0 : Stand p l e room_1 s m #[(.int p1), (.int p2), (.int p3), (.int p4), (.int p5), (.int p6)] below meth c s₁ [] 0 0 := Stand.of_body Bd
  have e0 : s₁.heap = h0 := by rw [← hh, Bd.state]; rfl
  have N0 := Fr.nil n0
  obtain ⟨G, hG, pr0⟩ : ∃ G : State → Prop, (∀ t, G t → Steps p.tables e below (s₁.setTop (entryFrame m #[(.int p1), (.int p2), (.int p3), (.int p4), (.int p5), (.int p6)] maxLocals)) t) ∧ (∀ t, Steps p.tables e below (s₁.setTop (mkF m 0 #[.val (.int p1), .val (.int p2), .val (.int p3), .val (.int p4), .val (.int p5), .val (.int p6), .unset, .unset, .unset, .unset, .unset, .unset, .unset, .unset, .unset, .unset, .unset, .unset, .unset, .unset, .unset, .unset] [])) t → G t) := ⟨_, fun _ k => k, fun t k => castTop (ef_rm0 m p1 p2 p3 p4 p5 p6) k⟩
  have pr22 : ∀ t, Steps p.tables e below (s₁.setTop (mkF m 2 #[.val (.int p1), .val (.int p2), .val (.int p3), .val (.int p4), .val (.int p5), .val (.int p6), .unset, .unset, .unset, .unset, .unset, .unset, .unset, .unset, .unset, .unset, .unset, .unset, .unset, .unset, .unset, .unset] [(.int p2), (.int p1)])) t → G t := fun t k => pr0 t (by
      refine XS.iloadN X0.here hx rfl (hb hby at_0) rfl ?_
      refine XS.iloadN X0.here hx rfl (hb hby at_1) rfl ?_
      exact k)
  obtain ⟨_, _, ⟨T23, L23, k23, n23⟩, -, X23, ⟨Lc23, hQ23, l23, y23, z23⟩, st23⟩ := Jvm.LawKit.callS X0 hx (y := (⟨"java/lang/Math", "min", "(II)I"⟩ : MethodName)) hown (mvT hZ (hw _ (List.mem_of_getElem? (i := 0) rfl))) (mvT hZ (hw _ (List.mem_of_getElem? (i := 1) rfl))) (mvT hZ (hw _ (List.mem_of_getElem? (i := 2) rfl))) (mvT hZ (hw _ (List.mem_of_getElem? (i := 3) rfl))) (by decide) (backOf (W := 0) (rmMin l Z a0 hw [] p1 p2 h0 n0 Z0) hZ (hw _ (List.mem_of_getElem? (i := 3) rfl)) (hw _ (List.mem_of_getElem? (i := 2) rfl)) (by decide) (by decide)) (g := (mkF m 2 #[.val (.int p1), .val (.int p2), .val (.int p3), .val (.int p4), .val (.int p5), .val (.int p6), .unset, .unset, .unset, .unset, .unset, .unset, .unset, .unset, .unset, .unset, .unset, .unset, .unset, .unset, .unset, .unset] [(.int p2), (.int p1)])) rfl (by rw [hml]; rfl) (argsL := [(.int p1), (.int p2)]) (rest := []) (lenOf pd_0 rfl) rfl (by show 2 * 0 + _ ≤ _; exact Nat.le_of_eq rfl) (hb hby at_2) (fun _ _ => ⟨rfl, e0, (by decide : 0 + 0 ≤ _), (by decide : 0 + 0 ≤ _)⟩)
  dsimp only [Pt.U, Pt.locs, Pt.cells, Pt.slots] at X23 l23 y23 z23 st23 hQ23
  subst l23 y23 z23
  obtain ⟨rfl, Nq23, eh23⟩ := hQ23
  have N23 := Fr.app N0 Nq23
  have pr24 : ∀ t, Steps p.tables e below (T23.setTop (mkF m 5 #[.val (.int p1), .val (.int p2), .val (.int p3), .val (.int p4), .val (.int p5), .val (.int p6), .unset, .unset, .unset, .unset, .unset, .unset, .unset, .unset, .unset, .unset, .unset, .unset, .unset, .unset, .unset, .unset] [(.int (own_min p1 p2))])) t → G t := fun t k => pr22 t (st23 t k)
  obtain ⟨x0, hx0⟩ : ∃ z : Int32, z = (own_min p1 p2) := ⟨_, rfl⟩
  rw [← hx0] at pr24
  have pr25 : ∀ t, Steps p.tables e below (T23.setTop (mkF m 9 #[.val (.int p1), .val (.int p2), .val (.int p3), .val (.int p4), .val (.int p5), .val (.int p6), .val (.int x0), .unset, .unset, .unset, .unset, .unset, .unset, .unset, .unset, .unset, .unset, .unset, .unset, .unset, .unset, .unset] [(.int p2), (.int p1)])) t → G t := fun t k => pr24 t (by
      refine XS.istore X23.here hx rfl (hb hby at_5) rfl (l' := #[.val (.int p1), .val (.int p2), .val (.int p3), .val (.int p4), .val (.int p5), .val (.int p6), .val (.int x0), .unset, .unset, .unset, .unset, .unset, .unset, .unset, .unset, .unset, .unset, .unset, .unset, .unset, .unset, .unset]) rfl ?_
      refine XS.iloadN X23.here hx rfl (hb hby at_7) rfl ?_
      refine XS.iloadN X23.here hx rfl (hb hby at_8) rfl ?_
      exact k)
  obtain ⟨_, _, ⟨T26, L26, k26, n26⟩, -, X26, ⟨Lc26, hQ26, l26, y26, z26⟩, st26⟩ := Jvm.LawKit.callS X23 hx (y := (⟨"java/lang/Math", "max", "(II)I"⟩ : MethodName)) hown (mvT hZ (hw _ (List.mem_of_getElem? (i := 4) rfl))) (mvT hZ (hw _ (List.mem_of_getElem? (i := 5) rfl))) (mvT hZ (hw _ (List.mem_of_getElem? (i := 2) rfl))) (mvT hZ (hw _ (List.mem_of_getElem? (i := 6) rfl))) (by decide) (backOf (W := 0) (rmMax l Z a0 hw [] p1 p2 h0 n0 Z0) hZ (hw _ (List.mem_of_getElem? (i := 6) rfl)) (hw _ (List.mem_of_getElem? (i := 2) rfl)) (by decide) (by decide)) (g := (mkF m 9 #[.val (.int p1), .val (.int p2), .val (.int p3), .val (.int p4), .val (.int p5), .val (.int p6), .val (.int x0), .unset, .unset, .unset, .unset, .unset, .unset, .unset, .unset, .unset, .unset, .unset, .unset, .unset, .unset, .unset] [(.int p2), (.int p1)])) rfl (by rw [hml]; rfl) (argsL := [(.int p1), (.int p2)]) (rest := []) (lenOf pd_0 rfl) rfl (by show 2 * 0 + _ ≤ _; exact Nat.le_of_eq rfl) (hb hby at_9) (fun _ _ => ⟨rfl, eh23, (by decide : 0 + 0 ≤ _), (by decide : 0 + 0 ≤ _)⟩)
  dsimp only [Pt.U, Pt.locs, Pt.cells, Pt.slots] at X26 l26 y26 z26 st26 hQ26
  subst l26 y26 z26
  obtain ⟨rfl, Nq26, eh26⟩ := hQ26
  have N26 := Fr.app N23 Nq26
  have pr27 : ∀ t, Steps p.tables e below (T26.setTop (mkF m 12 #[.val (.int p1), .val (.int p2), .val (.int p3), .val (.int p4), .val (.int p5), .val (.int p6), .val (.int x0), .unset, .unset, .unset, .unset, .unset, .unset, .unset, .unset, .unset, .unset, .unset, .unset, .unset, .unset, .unset] [(.int (own_max p1 p2))])) t → G t := fun t k => pr25 t (st26 t k)
  obtain ⟨x1, hx1⟩ : ∃ z : Int32, z = (own_max p1 p2) := ⟨_, rfl⟩
  rw [← hx1] at pr27
  have pr28 : ∀ t, Steps p.tables e below (T26.setTop (mkF m 16 #[.val (.int p1), .val (.int p2), .val (.int p3), .val (.int p4), .val (.int p5), .val (.int p6), .val (.int x0), .val (.int x1), .unset, .unset, .unset, .unset, .unset, .unset, .unset, .unset, .unset, .unset, .unset, .unset, .unset, .unset] [(.int p4), (.int p3)])) t → G t := fun t k => pr27 t (by
      refine XS.istore X26.here hx rfl (hb hby at_12) rfl (l' := #[.val (.int p1), .val (.int p2), .val (.int p3), .val (.int p4), .val (.int p5), .val (.int p6), .val (.int x0), .val (.int x1), .unset, .unset, .unset, .unset, .unset, .unset, .unset, .unset, .unset, .unset, .unset, .unset, .unset, .unset]) rfl ?_
      refine XS.iloadN X26.here hx rfl (hb hby at_14) rfl ?_
      refine XS.iloadN X26.here hx rfl (hb hby at_15) rfl ?_
      exact k)
  obtain ⟨_, _, ⟨T29, L29, k29, n29⟩, -, X29, ⟨Lc29, hQ29, l29, y29, z29⟩, st29⟩ := Jvm.LawKit.callS X26 hx (y := (⟨"java/lang/Math", "min", "(II)I"⟩ : MethodName)) hown (mvT hZ (hw _ (List.mem_of_getElem? (i := 0) rfl))) (mvT hZ (hw _ (List.mem_of_getElem? (i := 1) rfl))) (mvT hZ (hw _ (List.mem_of_getElem? (i := 2) rfl))) (mvT hZ (hw _ (List.mem_of_getElem? (i := 3) rfl))) (by decide) (backOf (W := 0) (rmMin l Z a0 hw [] p3 p4 h0 n0 Z0) hZ (hw _ (List.mem_of_getElem? (i := 3) rfl)) (hw _ (List.mem_of_getElem? (i := 2) rfl)) (by decide) (by decide)) (g := (mkF m 16 #[.val (.int p1), .val (.int p2), .val (.int p3), .val (.int p4), .val (.int p5), .val (.int p6), .val (.int x0), .val (.int x1), .unset, .unset, .unset, .unset, .unset, .unset, .unset, .unset, .unset, .unset, .unset, .unset, .unset, .unset] [(.int p4), (.int p3)])) rfl (by rw [hml]; rfl) (argsL := [(.int p3), (.int p4)]) (rest := []) (lenOf pd_0 rfl) rfl (by show 2 * 0 + _ ≤ _; exact Nat.le_of_eq rfl) (hb hby at_16) (fun _ _ => ⟨rfl, eh26, (by decide : 0 + 0 ≤ _), (by decide : 0 + 0 ≤ _)⟩)
  dsimp only [Pt.U, Pt.locs, Pt.cells, Pt.slots] at X29 l29 y29 z29 st29 hQ29
  subst l29 y29 z29
  obtain ⟨rfl, Nq29, eh29⟩ := hQ29
  have N29 := Fr.app N26 Nq29
  have pr30 : ∀ t, Steps p.tables e below (T29.setTop (mkF m 19 #[.val (.int p1), .val (.int p2), .val (.int p3), .val (.int p4), .val (.int p5), .val (.int p6), .val (.int x0), .val (.int x1), .unset, .unset, .unset, .unset, .unset, .unset, .unset, .unset, .unset, .unset, .unset, .unset, .unset, .unset] [(.int (own_min p3 p4))])) t → G t := fun t k => pr28 t (st29 t k)
  obtain ⟨x2, hx2⟩ : ∃ z : Int32, z = (own_min p3 p4) := ⟨_, rfl⟩
  rw [← hx2] at pr30
  have pr31 : ∀ t, Steps p.tables e below (T29.setTop (mkF m 23 #[.val (.int p1), .val (.int p2), .val (.int p3), .val (.int p4), .val (.int p5), .val (.int p6), .val (.int x0), .val (.int x1), .val (.int x2), .unset, .unset, .unset, .unset, .unset, .unset, .unset, .unset, .unset, .unset, .unset, .unset, .unset] [(.int p4), (.int p3)])) t → G t := fun t k => pr30 t (by
      refine XS.istore X29.here hx rfl (hb hby at_19) rfl (l' := #[.val (.int p1), .val (.int p2), .val (.int p3), .val (.int p4), .val (.int p5), .val (.int p6), .val (.int x0), .val (.int x1), .val (.int x2), .unset, .unset, .unset, .unset, .unset, .unset, .unset, .unset, .unset, .unset, .unset, .unset, .unset]) rfl ?_
      refine XS.iloadN X29.here hx rfl (hb hby at_21) rfl ?_
      refine XS.iloadN X29.here hx rfl (hb hby at_22) rfl ?_
      exact k)
  obtain ⟨_, _, ⟨T32, L32, k32, n32⟩, -, X32, ⟨Lc32, hQ32, l32, y32, z32⟩, st32⟩ := Jvm.LawKit.callS X29 hx (y := (⟨"java/lang/Math", "max", "(II)I"⟩ : MethodName)) hown (mvT hZ (hw _ (List.mem_of_getElem? (i := 4) rfl))) (mvT hZ (hw _ (List.mem_of_getElem? (i := 5) rfl))) (mvT hZ (hw _ (List.mem_of_getElem? (i := 2) rfl))) (mvT hZ (hw _ (List.mem_of_getElem? (i := 6) rfl))) (by decide) (backOf (W := 0) (rmMax l Z a0 hw [] p3 p4 h0 n0 Z0) hZ (hw _ (List.mem_of_getElem? (i := 6) rfl)) (hw _ (List.mem_of_getElem? (i := 2) rfl)) (by decide) (by decide)) (g := (mkF m 23 #[.val (.int p1), .val (.int p2), .val (.int p3), .val (.int p4), .val (.int p5), .val (.int p6), .val (.int x0), .val (.int x1), .val (.int x2), .unset, .unset, .unset, .unset, .unset, .unset, .unset, .unset, .unset, .unset, .unset, .unset, .unset] [(.int p4), (.int p3)])) rfl (by rw [hml]; rfl) (argsL := [(.int p3), (.int p4)]) (rest := []) (lenOf pd_0 rfl) rfl (by show 2 * 0 + _ ≤ _; exact Nat.le_of_eq rfl) (hb hby at_23) (fun _ _ => ⟨rfl, eh29, (by decide : 0 + 0 ≤ _), (by decide : 0 + 0 ≤ _)⟩)
  dsimp only [Pt.U, Pt.locs, Pt.cells, Pt.slots] at X32 l32 y32 z32 st32 hQ32
  subst l32 y32 z32
  obtain ⟨rfl, Nq32, eh32⟩ := hQ32
  have N32 := Fr.app N29 Nq32
  have pr33 : ∀ t, Steps p.tables e below (T32.setTop (mkF m 26 #[.val (.int p1), .val (.int p2), .val (.int p3), .val (.int p4), .val (.int p5), .val (.int p6), .val (.int x0), .val (.int x1), .val (.int x2), .unset, .unset, .unset, .unset, .unset, .unset, .unset, .unset, .unset, .unset, .unset, .unset, .unset] [(.int (own_max p3 p4))])) t → G t := fun t k => pr31 t (st32 t k)
  obtain ⟨x3, hx3⟩ : ∃ z : Int32, z = (own_max p3 p4) := ⟨_, rfl⟩
  rw [← hx3] at pr33
  have pr34 : ∀ t, Steps p.tables e below (T32.setTop (mkF m 32 #[.val (.int p1), .val (.int p2), .val (.int p3), .val (.int p4), .val (.int p5), .val (.int p6), .val (.int x0), .val (.int x1), .val (.int x2), .val (.int x3), .unset, .unset, .unset, .unset, .unset, .unset, .unset, .unset, .unset, .unset, .unset, .unset] [(.int x2), (.int x0)])) t → G t := fun t k => pr33 t (by
      refine XS.istore X32.here hx rfl (hb hby at_26) rfl (l' := #[.val (.int p1), .val (.int p2), .val (.int p3), .val (.int p4), .val (.int p5), .val (.int p6), .val (.int x0), .val (.int x1), .val (.int x2), .val (.int x3), .unset, .unset, .unset, .unset, .unset, .unset, .unset, .unset, .unset, .unset, .unset, .unset]) rfl ?_
      refine XS.iload X32.here hx rfl (hb hby at_28) rfl ?_
      refine XS.iload X32.here hx rfl (hb hby at_30) rfl ?_
      exact k)
  obtain ⟨_, _, ⟨T35, L35, k35, n35⟩, -, X35, ⟨Lc35, hQ35, l35, y35, z35⟩, st35⟩ := Jvm.LawKit.callS X32 hx (y := (⟨"java/lang/Math", "min", "(II)I"⟩ : MethodName)) hown (mvT hZ (hw _ (List.mem_of_getElem? (i := 0) rfl))) (mvT hZ (hw _ (List.mem_of_getElem? (i := 1) rfl))) (mvT hZ (hw _ (List.mem_of_getElem? (i := 2) rfl))) (mvT hZ (hw _ (List.mem_of_getElem? (i := 3) rfl))) (by decide) (backOf (W := 0) (rmMin l Z a0 hw [] x0 x2 h0 n0 Z0) hZ (hw _ (List.mem_of_getElem? (i := 3) rfl)) (hw _ (List.mem_of_getElem? (i := 2) rfl)) (by decide) (by decide)) (g := (mkF m 32 #[.val (.int p1), .val (.int p2), .val (.int p3), .val (.int p4), .val (.int p5), .val (.int p6), .val (.int x0), .val (.int x1), .val (.int x2), .val (.int x3), .unset, .unset, .unset, .unset, .unset, .unset, .unset, .unset, .unset, .unset, .unset, .unset] [(.int x2), (.int x0)])) rfl (by rw [hml]; rfl) (argsL := [(.int x0), (.int x2)]) (rest := []) (lenOf pd_0 rfl) rfl (by show 2 * 0 + _ ≤ _; exact Nat.le_of_eq rfl) (hb hby at_32) (fun _ _ => ⟨rfl, eh32, (by decide : 0 + 0 ≤ _), (by decide : 0 + 0 ≤ _)⟩)
  dsimp only [Pt.U, Pt.locs, Pt.cells, Pt.slots] at X35 l35 y35 z35 st35 hQ35
  subst l35 y35 z35
  obtain ⟨rfl, Nq35, eh35⟩ := hQ35
  have N35 := Fr.app N32 Nq35
  have pr36 : ∀ t, Steps p.tables e below (T35.setTop (mkF m 35 #[.val (.int p1), .val (.int p2), .val (.int p3), .val (.int p4), .val (.int p5), .val (.int p6), .val (.int x0), .val (.int x1), .val (.int x2), .val (.int x3), .unset, .unset, .unset, .unset, .unset, .unset, .unset, .unset, .unset, .unset, .unset, .unset] [(.int (own_min x0 x2))])) t → G t := fun t k => pr34 t (st35 t k)
  obtain ⟨s0, hs0⟩ : ∃ z : Int32, z = (own_min x0 x2) := ⟨_, rfl⟩
  rw [← hs0] at pr36
  have pr37 : ∀ t, Steps p.tables e below (T35.setTop (mkF m 41 #[.val (.int p1), .val (.int p2), .val (.int p3), .val (.int p4), .val (.int p5), .val (.int p6), .val (.int x0), .val (.int x1), .val (.int x2), .val (.int x3), .val (.int s0), .unset, .unset, .unset, .unset, .unset, .unset, .unset, .unset, .unset, .unset, .unset] [(.int x2), (.int x0)])) t → G t := fun t k => pr36 t (by
      refine XS.istore X35.here hx rfl (hb hby at_35) rfl (l' := #[.val (.int p1), .val (.int p2), .val (.int p3), .val (.int p4), .val (.int p5), .val (.int p6), .val (.int x0), .val (.int x1), .val (.int x2), .val (.int x3), .val (.int s0), .unset, .unset, .unset, .unset, .unset, .unset, .unset, .unset, .unset, .unset, .unset]) rfl ?_
      refine XS.iload X35.here hx rfl (hb hby at_37) rfl ?_
      refine XS.iload X35.here hx rfl (hb hby at_39) rfl ?_
      exact k)
  obtain ⟨_, _, ⟨T38, L38, k38, n38⟩, -, X38, ⟨Lc38, hQ38, l38, y38, z38⟩, st38⟩ := Jvm.LawKit.callS X35 hx (y := (⟨"java/lang/Math", "max", "(II)I"⟩ : MethodName)) hown (mvT hZ (hw _ (List.mem_of_getElem? (i := 4) rfl))) (mvT hZ (hw _ (List.mem_of_getElem? (i := 5) rfl))) (mvT hZ (hw _ (List.mem_of_getElem? (i := 2) rfl))) (mvT hZ (hw _ (List.mem_of_getElem? (i := 6) rfl))) (by decide) (backOf (W := 0) (rmMax l Z a0 hw [] x0 x2 h0 n0 Z0) hZ (hw _ (List.mem_of_getElem? (i := 6) rfl)) (hw _ (List.mem_of_getElem? (i := 2) rfl)) (by decide) (by decide)) (g := (mkF m 41 #[.val (.int p1), .val (.int p2), .val (.int p3), .val (.int p4), .val (.int p5), .val (.int p6), .val (.int x0), .val (.int x1), .val (.int x2), .val (.int x3), .val (.int s0), .unset, .unset, .unset, .unset, .unset, .unset, .unset, .unset, .unset, .unset, .unset] [(.int x2), (.int x0)])) rfl (by rw [hml]; rfl) (argsL := [(.int x0), (.int x2)]) (rest := []) (lenOf pd_0 rfl) rfl (by show 2 * 0 + _ ≤ _; exact Nat.le_of_eq rfl) (hb hby at_41) (fun _ _ => ⟨rfl, eh35, (by decide : 0 + 0 ≤ _), (by decide : 0 + 0 ≤ _)⟩)
  dsimp only [Pt.U, Pt.locs, Pt.cells, Pt.slots] at X38 l38 y38 z38 st38 hQ38
  subst l38 y38 z38
  obtain ⟨rfl, Nq38, eh38⟩ := hQ38
  have N38 := Fr.app N35 Nq38
  have pr39 : ∀ t, Steps p.tables e below (T38.setTop (mkF m 44 #[.val (.int p1), .val (.int p2), .val (.int p3), .val (.int p4), .val (.int p5), .val (.int p6), .val (.int x0), .val (.int x1), .val (.int x2), .val (.int x3), .val (.int s0), .unset, .unset, .unset, .unset, .unset, .unset, .unset, .unset, .unset, .unset, .unset] [(.int (own_max x0 x2))])) t → G t := fun t k => pr37 t (st38 t k)
  obtain ⟨y2, hy2⟩ : ∃ z : Int32, z = (own_max x0 x2) := ⟨_, rfl⟩
  rw [← hy2] at pr39
  have pr40 : ∀ t, Steps p.tables e below (T38.setTop (mkF m 50 #[.val (.int p1), .val (.int p2), .val (.int p3), .val (.int p4), .val (.int p5), .val (.int p6), .val (.int x0), .val (.int x1), .val (.int x2), .val (.int x3), .val (.int s0), .val (.int y2), .unset, .unset, .unset, .unset, .unset, .unset, .unset, .unset, .unset, .unset] [(.int x3), (.int x1)])) t → G t := fun t k => pr39 t (by
      refine XS.istore X38.here hx rfl (hb hby at_44) rfl (l' := #[.val (.int p1), .val (.int p2), .val (.int p3), .val (.int p4), .val (.int p5), .val (.int p6), .val (.int x0), .val (.int x1), .val (.int x2), .val (.int x3), .val (.int s0), .val (.int y2), .unset, .unset, .unset, .unset, .unset, .unset, .unset, .unset, .unset, .unset]) rfl ?_
      refine XS.iload X38.here hx rfl (hb hby at_46) rfl ?_
      refine XS.iload X38.here hx rfl (hb hby at_48) rfl ?_
      exact k)
  obtain ⟨_, _, ⟨T41, L41, k41, n41⟩, -, X41, ⟨Lc41, hQ41, l41, y41, z41⟩, st41⟩ := Jvm.LawKit.callS X38 hx (y := (⟨"java/lang/Math", "min", "(II)I"⟩ : MethodName)) hown (mvT hZ (hw _ (List.mem_of_getElem? (i := 0) rfl))) (mvT hZ (hw _ (List.mem_of_getElem? (i := 1) rfl))) (mvT hZ (hw _ (List.mem_of_getElem? (i := 2) rfl))) (mvT hZ (hw _ (List.mem_of_getElem? (i := 3) rfl))) (by decide) (backOf (W := 0) (rmMin l Z a0 hw [] x1 x3 h0 n0 Z0) hZ (hw _ (List.mem_of_getElem? (i := 3) rfl)) (hw _ (List.mem_of_getElem? (i := 2) rfl)) (by decide) (by decide)) (g := (mkF m 50 #[.val (.int p1), .val (.int p2), .val (.int p3), .val (.int p4), .val (.int p5), .val (.int p6), .val (.int x0), .val (.int x1), .val (.int x2), .val (.int x3), .val (.int s0), .val (.int y2), .unset, .unset, .unset, .unset, .unset, .unset, .unset, .unset, .unset, .unset] [(.int x3), (.int x1)])) rfl (by rw [hml]; rfl) (argsL := [(.int x1), (.int x3)]) (rest := []) (lenOf pd_0 rfl) rfl (by show 2 * 0 + _ ≤ _; exact Nat.le_of_eq rfl) (hb hby at_50) (fun _ _ => ⟨rfl, eh38, (by decide : 0 + 0 ≤ _), (by decide : 0 + 0 ≤ _)⟩)
  dsimp only [Pt.U, Pt.locs, Pt.cells, Pt.slots] at X41 l41 y41 z41 st41 hQ41
  subst l41 y41 z41
  obtain ⟨rfl, Nq41, eh41⟩ := hQ41
  have N41 := Fr.app N38 Nq41
  have pr42 : ∀ t, Steps p.tables e below (T41.setTop (mkF m 53 #[.val (.int p1), .val (.int p2), .val (.int p3), .val (.int p4), .val (.int p5), .val (.int p6), .val (.int x0), .val (.int x1), .val (.int x2), .val (.int x3), .val (.int s0), .val (.int y2), .unset, .unset, .unset, .unset, .unset, .unset, .unset, .unset, .unset, .unset] [(.int (own_min x1 x3))])) t → G t := fun t k => pr40 t (st41 t k)
  obtain ⟨y1, hy1⟩ : ∃ z : Int32, z = (own_min x1 x3) := ⟨_, rfl⟩
  rw [← hy1] at pr42
  have pr43 : ∀ t, Steps p.tables e below (T41.setTop (mkF m 59 #[.val (.int p1), .val (.int p2), .val (.int p3), .val (.int p4), .val (.int p5), .val (.int p6), .val (.int x0), .val (.int x1), .val (.int x2), .val (.int x3), .val (.int s0), .val (.int y2), .val (.int y1), .unset, .unset, .unset, .unset, .unset, .unset, .unset, .unset, .unset] [(.int x3), (.int x1)])) t → G t := fun t k => pr42 t (by
      refine XS.istore X41.here hx rfl (hb hby at_53) rfl (l' := #[.val (.int p1), .val (.int p2), .val (.int p3), .val (.int p4), .val (.int p5), .val (.int p6), .val (.int x0), .val (.int x1), .val (.int x2), .val (.int x3), .val (.int s0), .val (.int y2), .val (.int y1), .unset, .unset, .unset, .unset, .unset, .unset, .unset, .unset, .unset]) rfl ?_
      refine XS.iload X41.here hx rfl (hb hby at_55) rfl ?_
      refine XS.iload X41.here hx rfl (hb hby at_57) rfl ?_
      exact k)
  obtain ⟨_, _, ⟨T44, L44, k44, n44⟩, -, X44, ⟨Lc44, hQ44, l44, y44, z44⟩, st44⟩ := Jvm.LawKit.callS X41 hx (y := (⟨"java/lang/Math", "max", "(II)I"⟩ : MethodName)) hown (mvT hZ (hw _ (List.mem_of_getElem? (i := 4) rfl))) (mvT hZ (hw _ (List.mem_of_getElem? (i := 5) rfl))) (mvT hZ (hw _ (List.mem_of_getElem? (i := 2) rfl))) (mvT hZ (hw _ (List.mem_of_getElem? (i := 6) rfl))) (by decide) (backOf (W := 0) (rmMax l Z a0 hw [] x1 x3 h0 n0 Z0) hZ (hw _ (List.mem_of_getElem? (i := 6) rfl)) (hw _ (List.mem_of_getElem? (i := 2) rfl)) (by decide) (by decide)) (g := (mkF m 59 #[.val (.int p1), .val (.int p2), .val (.int p3), .val (.int p4), .val (.int p5), .val (.int p6), .val (.int x0), .val (.int x1), .val (.int x2), .val (.int x3), .val (.int s0), .val (.int y2), .val (.int y1), .unset, .unset, .unset, .unset, .unset, .unset, .unset, .unset, .unset] [(.int x3), (.int x1)])) rfl (by rw [hml]; rfl) (argsL := [(.int x1), (.int x3)]) (rest := []) (lenOf pd_0 rfl) rfl (by show 2 * 0 + _ ≤ _; exact Nat.le_of_eq rfl) (hb hby at_59) (fun _ _ => ⟨rfl, eh41, (by decide : 0 + 0 ≤ _), (by decide : 0 + 0 ≤ _)⟩)
  dsimp only [Pt.U, Pt.locs, Pt.cells, Pt.slots] at X44 l44 y44 z44 st44 hQ44
  subst l44 y44 z44
  obtain ⟨rfl, Nq44, eh44⟩ := hQ44
  have N44 := Fr.app N41 Nq44
  have pr45 : ∀ t, Steps p.tables e below (T44.setTop (mkF m 62 #[.val (.int p1), .val (.int p2), .val (.int p3), .val (.int p4), .val (.int p5), .val (.int p6), .val (.int x0), .val (.int x1), .val (.int x2), .val (.int x3), .val (.int s0), .val (.int y2), .val (.int y1), .unset, .unset, .unset, .unset, .unset, .unset, .unset, .unset, .unset] [(.int (own_max x1 x3))])) t → G t := fun t k => pr43 t (st44 t k)
  obtain ⟨s3, hs3⟩ : ∃ z : Int32, z = (own_max x1 x3) := ⟨_, rfl⟩
  rw [← hs3] at pr45
  have pr46 : ∀ t, Steps p.tables e below (T44.setTop (mkF m 68 #[.val (.int p1), .val (.int p2), .val (.int p3), .val (.int p4), .val (.int p5), .val (.int p6), .val (.int x0), .val (.int x1), .val (.int x2), .val (.int x3), .val (.int s0), .val (.int y2), .val (.int y1), .val (.int s3), .unset, .unset, .unset, .unset, .unset, .unset, .unset, .unset] [(.int y2), (.int y1)])) t → G t := fun t k => pr45 t (by
      refine XS.istore X44.here hx rfl (hb hby at_62) rfl (l' := #[.val (.int p1), .val (.int p2), .val (.int p3), .val (.int p4), .val (.int p5), .val (.int p6), .val (.int x0), .val (.int x1), .val (.int x2), .val (.int x3), .val (.int s0), .val (.int y2), .val (.int y1), .val (.int s3), .unset, .unset, .unset, .unset, .unset, .unset, .unset, .unset]) rfl ?_
      refine XS.iload X44.here hx rfl (hb hby at_64) rfl ?_
      refine XS.iload X44.here hx rfl (hb hby at_66) rfl ?_
      exact k)
  obtain ⟨_, _, ⟨T47, L47, k47, n47⟩, -, X47, ⟨Lc47, hQ47, l47, y47, z47⟩, st47⟩ := Jvm.LawKit.callS X44 hx (y := (⟨"java/lang/Math", "min", "(II)I"⟩ : MethodName)) hown (mvT hZ (hw _ (List.mem_of_getElem? (i := 0) rfl))) (mvT hZ (hw _ (List.mem_of_getElem? (i := 1) rfl))) (mvT hZ (hw _ (List.mem_of_getElem? (i := 2) rfl))) (mvT hZ (hw _ (List.mem_of_getElem? (i := 3) rfl))) (by decide) (backOf (W := 0) (rmMin l Z a0 hw [] y1 y2 h0 n0 Z0) hZ (hw _ (List.mem_of_getElem? (i := 3) rfl)) (hw _ (List.mem_of_getElem? (i := 2) rfl)) (by decide) (by decide)) (g := (mkF m 68 #[.val (.int p1), .val (.int p2), .val (.int p3), .val (.int p4), .val (.int p5), .val (.int p6), .val (.int x0), .val (.int x1), .val (.int x2), .val (.int x3), .val (.int s0), .val (.int y2), .val (.int y1), .val (.int s3), .unset, .unset, .unset, .unset, .unset, .unset, .unset, .unset] [(.int y2), (.int y1)])) rfl (by rw [hml]; rfl) (argsL := [(.int y1), (.int y2)]) (rest := []) (lenOf pd_0 rfl) rfl (by show 2 * 0 + _ ≤ _; exact Nat.le_of_eq rfl) (hb hby at_68) (fun _ _ => ⟨rfl, eh44, (by decide : 0 + 0 ≤ _), (by decide : 0 + 0 ≤ _)⟩)
  dsimp only [Pt.U, Pt.locs, Pt.cells, Pt.slots] at X47 l47 y47 z47 st47 hQ47
  subst l47 y47 z47
  obtain ⟨rfl, Nq47, eh47⟩ := hQ47
  have N47 := Fr.app N44 Nq47
  have pr48 : ∀ t, Steps p.tables e below (T47.setTop (mkF m 71 #[.val (.int p1), .val (.int p2), .val (.int p3), .val (.int p4), .val (.int p5), .val (.int p6), .val (.int x0), .val (.int x1), .val (.int x2), .val (.int x3), .val (.int s0), .val (.int y2), .val (.int y1), .val (.int s3), .unset, .unset, .unset, .unset, .unset, .unset, .unset, .unset] [(.int (own_min y1 y2))])) t → G t := fun t k => pr46 t (st47 t k)
  obtain ⟨s1, hs1⟩ : ∃ z : Int32, z = (own_min y1 y2) := ⟨_, rfl⟩
  rw [← hs1] at pr48
  have pr49 : ∀ t, Steps p.tables e below (T47.setTop (mkF m 77 #[.val (.int p1), .val (.int p2), .val (.int p3), .val (.int p4), .val (.int p5), .val (.int p6), .val (.int x0), .val (.int x1), .val (.int x2), .val (.int x3), .val (.int s0), .val (.int y2), .val (.int y1), .val (.int s3), .val (.int s1), .unset, .unset, .unset, .unset, .unset, .unset, .unset] [(.int y2), (.int y1)])) t → G t := fun t k => pr48 t (by
      refine XS.istore X47.here hx rfl (hb hby at_71) rfl (l' := #[.val (.int p1), .val (.int p2), .val (.int p3), .val (.int p4), .val (.int p5), .val (.int p6), .val (.int x0), .val (.int x1), .val (.int x2), .val (.int x3), .val (.int s0), .val (.int y2), .val (.int y1), .val (.int s3), .val (.int s1), .unset, .unset, .unset, .unset, .unset, .unset, .unset]) rfl ?_
      refine XS.iload X47.here hx rfl (hb hby at_73) rfl ?_
      refine XS.iload X47.here hx rfl (hb hby at_75) rfl ?_
      exact k)
  obtain ⟨_, _, ⟨T50, L50, k50, n50⟩, -, X50, ⟨Lc50, hQ50, l50, y50, z50⟩, st50⟩ := Jvm.LawKit.callS X47 hx (y := (⟨"java/lang/Math", "max", "(II)I"⟩ : MethodName)) hown (mvT hZ (hw _ (List.mem_of_getElem? (i := 4) rfl))) (mvT hZ (hw _ (List.mem_of_getElem? (i := 5) rfl))) (mvT hZ (hw _ (List.mem_of_getElem? (i := 2) rfl))) (mvT hZ (hw _ (List.mem_of_getElem? (i := 6) rfl))) (by decide) (backOf (W := 0) (rmMax l Z a0 hw [] y1 y2 h0 n0 Z0) hZ (hw _ (List.mem_of_getElem? (i := 6) rfl)) (hw _ (List.mem_of_getElem? (i := 2) rfl)) (by decide) (by decide)) (g := (mkF m 77 #[.val (.int p1), .val (.int p2), .val (.int p3), .val (.int p4), .val (.int p5), .val (.int p6), .val (.int x0), .val (.int x1), .val (.int x2), .val (.int x3), .val (.int s0), .val (.int y2), .val (.int y1), .val (.int s3), .val (.int s1), .unset, .unset, .unset, .unset, .unset, .unset, .unset] [(.int y2), (.int y1)])) rfl (by rw [hml]; rfl) (argsL := [(.int y1), (.int y2)]) (rest := []) (lenOf pd_0 rfl) rfl (by show 2 * 0 + _ ≤ _; exact Nat.le_of_eq rfl) (hb hby at_77) (fun _ _ => ⟨rfl, eh47, (by decide : 0 + 0 ≤ _), (by decide : 0 + 0 ≤ _)⟩)
  dsimp only [Pt.U, Pt.locs, Pt.cells, Pt.slots] at X50 l50 y50 z50 st50 hQ50
  subst l50 y50 z50
  obtain ⟨rfl, Nq50, eh50⟩ := hQ50
  have N50 := Fr.app N47 Nq50
  have pr51 : ∀ t, Steps p.tables e below (T50.setTop (mkF m 80 #[.val (.int p1), .val (.int p2), .val (.int p3), .val (.int p4), .val (.int p5), .val (.int p6), .val (.int x0), .val (.int x1), .val (.int x2), .val (.int x3), .val (.int s0), .val (.int y2), .val (.int y1), .val (.int s3), .val (.int s1), .unset, .unset, .unset, .unset, .unset, .unset, .unset] [(.int (own_max y1 y2))])) t → G t := fun t k => pr49 t (st50 t k)
  obtain ⟨s2, hs2⟩ : ∃ z : Int32, z = (own_max y1 y2) := ⟨_, rfl⟩
  rw [← hs2] at pr51
  have pr52 : ∀ t, Steps p.tables e below (T50.setTop (mkF m 83 #[.val (.int p1), .val (.int p2), .val (.int p3), .val (.int p4), .val (.int p5), .val (.int p6), .val (.int x0), .val (.int x1), .val (.int x2), .val (.int x3), .val (.int s0), .val (.int y2), .val (.int y1), .val (.int s3), .val (.int s1), .val (.int s2), .unset, .unset, .unset, .unset, .unset, .unset] [(.int (4 : Int32))])) t → G t := fun t k => pr51 t (by
      refine XS.istore X50.here hx rfl (hb hby at_80) rfl (l' := #[.val (.int p1), .val (.int p2), .val (.int p3), .val (.int p4), .val (.int p5), .val (.int p6), .val (.int x0), .val (.int x1), .val (.int x2), .val (.int x3), .val (.int s0), .val (.int y2), .val (.int y1), .val (.int s3), .val (.int s1), .val (.int s2), .unset, .unset, .unset, .unset, .unset, .unset]) rfl ?_
      refine XS.iconst X50.here hx rfl (hb hby at_82) ?_
      exact k)
  obtain ⟨T53, h53, k53, X53, e53, E53, A53, st53⟩ := newP X50 hx hZ (hw _ (List.mem_of_getElem? (i := 7) rfl)) eh50 (g := (mkF m 83 #[.val (.int p1), .val (.int p2), .val (.int p3), .val (.int p4), .val (.int p5), .val (.int p6), .val (.int x0), .val (.int x1), .val (.int x2), .val (.int x3), .val (.int s0), .val (.int y2), .val (.int y1), .val (.int s3), .val (.int s1), .val (.int s2), .unset, .unset, .unset, .unset, .unset, .unset] [(.int (4 : Int32))])) rfl (hb hby at_83) rfl (by decide) (cap := 4) (by decide) (by decide) (by decide) (by decide)
  obtain ⟨b, g53⟩ : ∃ z, z = h0.size := ⟨_, rfl⟩
  rw [← g53] at A53 st53
  have g_b : n0 ≤ b := Nat.le_trans Z0 (Nat.le_of_eq g53.symm)
  have V_b : IA Z h53 b k53 .int (4 : Int32) (List.replicate 4 0) := IA.new A53 (by decide) rfl rfl
  replace V_b : IA Z h53 b k53 .int (4 : Int32) [0, 0, 0, 0] := V_b
  have Z53 : n0 ≤ h53.size := Nat.le_trans Z0 E53.1
  have pr54 : ∀ t, Steps p.tables e below (T53.setTop (mkF m 85 #[.val (.int p1), .val (.int p2), .val (.int p3), .val (.int p4), .val (.int p5), .val (.int p6), .val (.int x0), .val (.int x1), .val (.int x2), .val (.int x3), .val (.int s0), .val (.int y2), .val (.int y1), .val (.int s3), .val (.int s1), .val (.int s2), .unset, .unset, .unset, .unset, .unset, .unset] [(.ref b)])) t → G t := fun t k => pr52 t (st53 t k)
  have pr55 : ∀ t, Steps p.tables e below (T53.setTop (mkF m 89 #[.val (.int p1), .val (.int p2), .val (.int p3), .val (.int p4), .val (.int p5), .val (.int p6), .val (.int x0), .val (.int x1), .val (.int x2), .val (.int x3), .val (.int s0), .val (.int y2), .val (.int y1), .val (.int s3), .val (.int s1), .val (.int s2), .unset, .unset, .unset, .unset, .unset, .unset] [(.int s0), (.int (0 : Int32)), (.ref b), (.ref b)])) t → G t := fun t k => pr54 t (by
      refine XS.dup X53.here hx rfl (hb hby at_85) rfl rfl ?_
      refine XS.iconst X53.here hx rfl (hb hby at_86) ?_
      refine XS.iload X53.here hx rfl (hb hby at_87) rfl ?_
      exact k)
  obtain ⟨T56, h56, X56, e56, W56, V56, st56⟩ := ia_stI X53 hx hZ e53 V_b (j := (0 : Int32)) 0 rfl (by decide) (Nat.le_of_ble_eq_true rfl) (g := (mkF m 89 #[.val (.int p1), .val (.int p2), .val (.int p3), .val (.int p4), .val (.int p5), .val (.int p6), .val (.int x0), .val (.int x1), .val (.int x2), .val (.int x3), .val (.int s0), .val (.int y2), .val (.int y1), .val (.int s3), .val (.int s1), .val (.int s2), .unset, .unset, .unset, .unset, .unset, .unset] [(.int s0), (.int (0 : Int32)), (.ref b), (.ref b)])) rfl rfl (hb hby at_89)
  replace V_b := V56
  have N56 := Fr.snoc X56 N50 g_b
  have Z56 : n0 ≤ h56.size := Nat.le_trans Z53 (Keep.of_wr W56).1
  have pr57 : ∀ t, Steps p.tables e below (T56.setTop (mkF m 90 #[.val (.int p1), .val (.int p2), .val (.int p3), .val (.int p4), .val (.int p5), .val (.int p6), .val (.int x0), .val (.int x1), .val (.int x2), .val (.int x3), .val (.int s0), .val (.int y2), .val (.int y1), .val (.int s3), .val (.int s1), .val (.int s2), .unset, .unset, .unset, .unset, .unset, .unset] [(.ref b)])) t → G t := fun t k => pr55 t (st56 t k)
  have pr58 : ∀ t, Steps p.tables e below (T56.setTop (mkF m 94 #[.val (.int p1), .val (.int p2), .val (.int p3), .val (.int p4), .val (.int p5), .val (.int p6), .val (.int x0), .val (.int x1), .val (.int x2), .val (.int x3), .val (.int s0), .val (.int y2), .val (.int y1), .val (.int s3), .val (.int s1), .val (.int s2), .unset, .unset, .unset, .unset, .unset, .unset] [(.int s1), (.int (1 : Int32)), (.ref b), (.ref b)])) t → G t := fun t k => pr57 t (by
      refine XS.dup X56.here hx rfl (hb hby at_90) rfl rfl ?_
      refine XS.iconst X56.here hx rfl (hb hby at_91) ?_
      refine XS.iload X56.here hx rfl (hb hby at_92) rfl ?_
      exact k)
  obtain ⟨T59, h59, X59, e59, W59, V59, st59⟩ := ia_stI X56 hx hZ e56 V_b (j := (1 : Int32)) 1 rfl (by decide) (Nat.le_of_ble_eq_true rfl) (g := (mkF m 94 #[.val (.int p1), .val (.int p2), .val (.int p3), .val (.int p4), .val (.int p5), .val (.int p6), .val (.int x0), .val (.int x1), .val (.int x2), .val (.int x3), .val (.int s0), .val (.int y2), .val (.int y1), .val (.int s3), .val (.int s1), .val (.int s2), .unset, .unset, .unset, .unset, .unset, .unset] [(.int s1), (.int (1 : Int32)), (.ref b), (.ref b)])) rfl rfl (hb hby at_94)
  replace V_b := V59
  have N59 := Fr.snoc X59 N56 g_b
  have Z59 : n0 ≤ h59.size := Nat.le_trans Z56 (Keep.of_wr W59).1
  have pr60 : ∀ t, Steps p.tables e below (T59.setTop (mkF m 95 #[.val (.int p1), .val (.int p2), .val (.int p3), .val (.int p4), .val (.int p5), .val (.int p6), .val (.int x0), .val (.int x1), .val (.int x2), .val (.int x3), .val (.int s0), .val (.int y2), .val (.int y1), .val (.int s3), .val (.int s1), .val (.int s2), .unset, .unset, .unset, .unset, .unset, .unset] [(.ref b)])) t → G t := fun t k => pr58 t (st59 t k)
  have pr61 : ∀ t, Steps p.tables e below (T59.setTop (mkF m 99 #[.val (.int p1), .val (.int p2), .val (.int p3), .val (.int p4), .val (.int p5), .val (.int p6), .val (.int x0), .val (.int x1), .val (.int x2), .val (.int x3), .val (.int s0), .val (.int y2), .val (.int y1), .val (.int s3), .val (.int s1), .val (.int s2), .unset, .unset, .unset, .unset, .unset, .unset] [(.int s2), (.int (2 : Int32)), (.ref b), (.ref b)])) t → G t := fun t k => pr60 t (by
      refine XS.dup X59.here hx rfl (hb hby at_95) rfl rfl ?_
      refine XS.iconst X59.here hx rfl (hb hby at_96) ?_
      refine XS.iload X59.here hx rfl (hb hby at_97) rfl ?_
      exact k)
  obtain ⟨T62, h62, X62, e62, W62, V62, st62⟩ := ia_stI X59 hx hZ e59 V_b (j := (2 : Int32)) 2 rfl (by decide) (Nat.le_of_ble_eq_true rfl) (g := (mkF m 99 #[.val (.int p1), .val (.int p2), .val (.int p3), .val (.int p4), .val (.int p5), .val (.int p6), .val (.int x0), .val (.int x1), .val (.int x2), .val (.int x3), .val (.int s0), .val (.int y2), .val (.int y1), .val (.int s3), .val (.int s1), .val (.int s2), .unset, .unset, .unset, .unset, .unset, .unset] [(.int s2), (.int (2 : Int32)), (.ref b), (.ref b)])) rfl rfl (hb hby at_99)
  replace V_b := V62
  have N62 := Fr.snoc X62 N59 g_b
  have Z62 : n0 ≤ h62.size := Nat.le_trans Z59 (Keep.of_wr W62).1
  have pr63 : ∀ t, Steps p.tables e below (T62.setTop (mkF m 100 #[.val (.int p1), .val (.int p2), .val (.int p3), .val (.int p4), .val (.int p5), .val (.int p6), .val (.int x0), .val (.int x1), .val (.int x2), .val (.int x3), .val (.int s0), .val (.int y2), .val (.int y1), .val (.int s3), .val (.int s1), .val (.int s2), .unset, .unset, .unset, .unset, .unset, .unset] [(.ref b)])) t → G t := fun t k => pr61 t (st62 t k)
  have pr64 : ∀ t, Steps p.tables e below (T62.setTop (mkF m 104 #[.val (.int p1), .val (.int p2), .val (.int p3), .val (.int p4), .val (.int p5), .val (.int p6), .val (.int x0), .val (.int x1), .val (.int x2), .val (.int x3), .val (.int s0), .val (.int y2), .val (.int y1), .val (.int s3), .val (.int s1), .val (.int s2), .unset, .unset, .unset, .unset, .unset, .unset] [(.int s3), (.int (3 : Int32)), (.ref b), (.ref b)])) t → G t := fun t k => pr63 t (by
      refine XS.dup X62.here hx rfl (hb hby at_100) rfl rfl ?_
      refine XS.iconst X62.here hx rfl (hb hby at_101) ?_
      refine XS.iload X62.here hx rfl (hb hby at_102) rfl ?_
      exact k)
  obtain ⟨T65, h65, X65, e65, W65, V65, st65⟩ := ia_stI X62 hx hZ e62 V_b (j := (3 : Int32)) 3 rfl (by decide) (Nat.le_of_ble_eq_true rfl) (g := (mkF m 104 #[.val (.int p1), .val (.int p2), .val (.int p3), .val (.int p4), .val (.int p5), .val (.int p6), .val (.int x0), .val (.int x1), .val (.int x2), .val (.int x3), .val (.int s0), .val (.int y2), .val (.int y1), .val (.int s3), .val (.int s1), .val (.int s2), .unset, .unset, .unset, .unset, .unset, .unset] [(.int s3), (.int (3 : Int32)), (.ref b), (.ref b)])) rfl rfl (hb hby at_104)
  replace V_b := V65
  have N65 := Fr.snoc X65 N62 g_b
  have Z65 : n0 ≤ h65.size := Nat.le_trans Z62 (Keep.of_wr W65).1
  have pr66 : ∀ t, Steps p.tables e below (T65.setTop (mkF m 105 #[.val (.int p1), .val (.int p2), .val (.int p3), .val (.int p4), .val (.int p5), .val (.int p6), .val (.int x0), .val (.int x1), .val (.int x2), .val (.int x3), .val (.int s0), .val (.int y2), .val (.int y1), .val (.int s3), .val (.int s1), .val (.int s2), .unset, .unset, .unset, .unset, .unset, .unset] [(.ref b)])) t → G t := fun t k => pr64 t (st65 t k)
  replace V_b : IA Z h65 b k53 .int 4 [s0, s1, s2, s3] := V_b
  have pr67 : ∀ t, Steps p.tables e below (T65.setTop (mkF m 116 #[.val (.int p1), .val (.int p2), .val (.int p3), .val (.int p4), .val (.int p5), .val (.int p6), .val (.int x0), .val (.int x1), .val (.int x2), .val (.int x3), .val (.int s0), .val (.int y2), .val (.int y1), .val (.int s3), .val (.int s1), .val (.int s2), .val (.ref b), .val (.int ((p5 &&& (7 : Int32)) - ((p5 &&& (7 : Int32)) / (5 : Int32)) * (5 : Int32))), .unset, .unset, .unset, .unset] [])) t → G t := fun t k => pr66 t (by
      refine XS.astore X65.here hx rfl (hb hby at_105) rfl rfl (l' := #[.val (.int p1), .val (.int p2), .val (.int p3), .val (.int p4), .val (.int p5), .val (.int p6), .val (.int x0), .val (.int x1), .val (.int x2), .val (.int x3), .val (.int s0), .val (.int y2), .val (.int y1), .val (.int s3), .val (.int s1), .val (.int s2), .val (.ref b), .unset, .unset, .unset, .unset, .unset]) rfl ?_
      refine XS.iload X65.here hx rfl (hb hby at_107) rfl ?_
      refine XS.bipush X65.here hx rfl (hb hby at_109) ?_
      refine XS.iand X65.here hx rfl (hb hby at_111) rfl ?_
      refine XS.iconst X65.here hx rfl (hb hby at_112) ?_
      refine XS.irem X65.here hx rfl (hb hby at_113) rfl (by decide) ?_
      refine XS.istore X65.here hx rfl (hb hby at_114) rfl (l' := #[.val (.int p1), .val (.int p2), .val (.int p3), .val (.int p4), .val (.int p5), .val (.int p6), .val (.int x0), .val (.int x1), .val (.int x2), .val (.int x3), .val (.int s0), .val (.int y2), .val (.int y1), .val (.int s3), .val (.int s1), .val (.int s2), .val (.ref b), .val (.int ((p5 &&& (7 : Int32)) - ((p5 &&& (7 : Int32)) / (5 : Int32)) * (5 : Int32))), .unset, .unset, .unset, .unset]) rfl ?_
      exact k)
  obtain ⟨fr0, hfr0⟩ : ∃ z : Int32, z = ((p5 &&& (7 : Int32)) - ((p5 &&& (7 : Int32)) / (5 : Int32)) * (5 : Int32)) := ⟨_, rfl⟩
  rw [← hfr0] at pr67
  have pr68 : ∀ t, Steps p.tables e below (T65.setTop (mkF m 127 #[.val (.int p1), .val (.int p2), .val (.int p3), .val (.int p4), .val (.int p5), .val (.int p6), .val (.int x0), .val (.int x1), .val (.int x2), .val (.int x3), .val (.int s0), .val (.int y2), .val (.int y1), .val (.int s3), .val (.int s1), .val (.int s2), .val (.ref b), .val (.int fr0), .val (.int ((((p5.toUInt32 >>> ((3 : Int32) &&& 31).toUInt32).toInt32) &&& (7 : Int32)) - ((((p5.toUInt32 >>> ((3 : Int32) &&& 31).toUInt32).toInt32) &&& (7 : Int32)) / (5 : Int32)) * (5 : Int32))), .unset, .unset, .unset] [])) t → G t := fun t k => pr67 t (by
      refine XS.iload X65.here hx rfl (hb hby at_116) rfl ?_
      refine XS.iconst X65.here hx rfl (hb hby at_118) ?_
      refine XS.iushr X65.here hx rfl (hb hby at_119) rfl ?_
      refine XS.bipush X65.here hx rfl (hb hby at_120) ?_
      refine XS.iand X65.here hx rfl (hb hby at_122) rfl ?_
      refine XS.iconst X65.here hx rfl (hb hby at_123) ?_
      refine XS.irem X65.here hx rfl (hb hby at_124) rfl (by decide) ?_
      refine XS.istore X65.here hx rfl (hb hby at_125) rfl (l' := #[.val (.int p1), .val (.int p2), .val (.int p3), .val (.int p4), .val (.int p5), .val (.int p6), .val (.int x0), .val (.int x1), .val (.int x2), .val (.int x3), .val (.int s0), .val (.int y2), .val (.int y1), .val (.int s3), .val (.int s1), .val (.int s2), .val (.ref b), .val (.int fr0), .val (.int ((((p5.toUInt32 >>> ((3 : Int32) &&& 31).toUInt32).toInt32) &&& (7 : Int32)) - ((((p5.toUInt32 >>> ((3 : Int32) &&& 31).toUInt32).toInt32) &&& (7 : Int32)) / (5 : Int32)) * (5 : Int32))), .unset, .unset, .unset]) rfl ?_
      exact k)
  obtain ⟨to0, hto0⟩ : ∃ z : Int32, z = ((((p5.toUInt32 >>> ((3 : Int32) &&& 31).toUInt32).toInt32) &&& (7 : Int32)) - ((((p5.toUInt32 >>> ((3 : Int32) &&& 31).toUInt32).toInt32) &&& (7 : Int32)) / (5 : Int32)) * (5 : Int32)) := ⟨_, rfl⟩
  rw [← hto0] at pr68
  have pr69 : ∀ t, Steps p.tables e below (T65.setTop (mkF m 131 #[.val (.int p1), .val (.int p2), .val (.int p3), .val (.int p4), .val (.int p5), .val (.int p6), .val (.int x0), .val (.int x1), .val (.int x2), .val (.int x3), .val (.int s0), .val (.int y2), .val (.int y1), .val (.int s3), .val (.int s1), .val (.int s2), .val (.ref b), .val (.int fr0), .val (.int to0), .unset, .unset, .unset] [(.int fr0), (.int to0)])) t → G t := fun t k => pr68 t (by
      refine XS.iload X65.here hx rfl (hb hby at_127) rfl ?_
      refine XS.iload X65.here hx rfl (hb hby at_129) rfl ?_
      exact k)
  obtain ⟨fr, hfr⟩ : ∃ z : Int32, z = (if to0 < fr0 then to0 else fr0) := ⟨_, rfl⟩
  obtain ⟨to, hto⟩ : ∃ z : Int32, z = (if to0 < fr0 then fr0 else to0) := ⟨_, rfl⟩
  obtain ⟨s19, hs19⟩ : ∃ z : Slot, z = (if to0 < fr0 then (.val (.int to0) : Slot) else (.unset : Slot)) := ⟨_, rfl⟩
  have pr71 : ∀ t, Steps p.tables e below (T65.setTop (mkF m 146 #[.val (.int p1), .val (.int p2), .val (.int p3), .val (.int p4), .val (.int p5), .val (.int p6), .val (.int x0), .val (.int x1), .val (.int x2), .val (.int x3), .val (.int s0), .val (.int y2), .val (.int y1), .val (.int s3), .val (.int s1), .val (.int s2), .val (.ref b), .val (.int fr), .val (.int to), s19, .unset, .unset] [])) t → G t := by
    intro t k
    refine pr69 t ?_
    by_cases c70 : to0 < fr0
    · refine XS.icmpNo X65.here hx rfl (hb hby at_131) rfl (tlt c70).2.1 ?_
      refine XS.iload X65.here hx rfl (hb hby at_134) rfl ?_
      refine XS.istore X65.here hx rfl (hb hby at_136) rfl (l' := #[.val (.int p1), .val (.int p2), .val (.int p3), .val (.int p4), .val (.int p5), .val (.int p6), .val (.int x0), .val (.int x1), .val (.int x2), .val (.int x3), .val (.int s0), .val (.int y2), .val (.int y1), .val (.int s3), .val (.int s1), .val (.int s2), .val (.ref b), .val (.int fr0), .val (.int to0), .val (.int to0), .unset, .unset]) rfl ?_
      refine XS.iload X65.here hx rfl (hb hby at_138) rfl ?_
      refine XS.istore X65.here hx rfl (hb hby at_140) rfl (l' := #[.val (.int p1), .val (.int p2), .val (.int p3), .val (.int p4), .val (.int p5), .val (.int p6), .val (.int x0), .val (.int x1), .val (.int x2), .val (.int x3), .val (.int s0), .val (.int y2), .val (.int y1), .val (.int s3), .val (.int s1), .val (.int s2), .val (.ref b), .val (.int fr0), .val (.int fr0), .val (.int to0), .unset, .unset]) rfl ?_
      refine XS.iload X65.here hx rfl (hb hby at_142) rfl ?_
      refine XS.istore X65.here hx rfl (hb hby at_144) rfl (l' := #[.val (.int p1), .val (.int p2), .val (.int p3), .val (.int p4), .val (.int p5), .val (.int p6), .val (.int x0), .val (.int x1), .val (.int x2), .val (.int x3), .val (.int s0), .val (.int y2), .val (.int y1), .val (.int s3), .val (.int s1), .val (.int s2), .val (.ref b), .val (.int to0), .val (.int fr0), .val (.int to0), .unset, .unset]) rfl ?_
      have efr : fr = to0 := by rw [hfr, if_pos c70]
      have eto : to = fr0 := by rw [hto, if_pos c70]
      have es19 : s19 = .val (.int to0) := by rw [hs19, if_pos c70]
      rw [efr, eto, es19] at k
      exact k
    · refine XS.icmpYes X65.here hx rfl (pc0 := 131) (pc' := 146) rfl (hb hby at_131) rfl (flt c70).2.1 (by decide) (by decide) ?_
      have efr : fr = fr0 := by rw [hfr, if_neg c70]
      have eto : to = to0 := by rw [hto, if_neg c70]
      have es19 : s19 = .unset := by rw [hs19, if_neg c70]
      rw [efr, eto, es19] at k
      exact k
  obtain ⟨fa, ta, hle, hta, efr, eto⟩ := own_range p5 fr0 to0 fr to hfr0 hto0 hfr hto
  obtain ⟨q, hq, eq7⟩ := own_and3 ((p5.toUInt32 >>> ((7 : Int32) &&& 31).toUInt32).toInt32)
  obtain ⟨kv, hkv⟩ : ∃ z : Int32, z = [s0, s1, s2, s3].getD q 0 := ⟨_, rfl⟩
  have pr72 : ∀ t, Steps p.tables e below (T65.setTop (mkF m 153 #[.val (.int p1), .val (.int p2), .val (.int p3), .val (.int p4), .val (.int p5), .val (.int p6), .val (.int x0), .val (.int x1), .val (.int x2), .val (.int x3), .val (.int s0), .val (.int y2), .val (.int y1), .val (.int s3), .val (.int s1), .val (.int s2), .val (.ref b), .val (.int fr), .val (.int to), s19, .unset, .unset] [(.int (((p5.toUInt32 >>> ((6 : Int32) &&& 31).toUInt32).toInt32) &&& (1 : Int32)))])) t → G t := fun t k => pr71 t (by
      refine XS.iload X65.here hx rfl (hb hby at_146) rfl ?_
      refine XS.bipush X65.here hx rfl (hb hby at_148) ?_
      refine XS.iushr X65.here hx rfl (hb hby at_150) rfl ?_
      refine XS.iconst X65.here hx rfl (hb hby at_151) ?_
      refine XS.iand X65.here hx rfl (hb hby at_152) rfl ?_
      exact k)
  obtain ⟨key, hkey⟩ : ∃ z : Int32, z = (if (((p5.toUInt32 >>> ((6 : Int32) &&& 31).toUInt32).toInt32) &&& (1 : Int32)) = (0 : Int32) then p6 else kv) := ⟨_, rfl⟩
  have pr74 : ∀ t, Steps p.tables e below (T65.setTop (mkF m 171 #[.val (.int p1), .val (.int p2), .val (.int p3), .val (.int p4), .val (.int p5), .val (.int p6), .val (.int x0), .val (.int x1), .val (.int x2), .val (.int x3), .val (.int s0), .val (.int y2), .val (.int y1), .val (.int s3), .val (.int s1), .val (.int s2), .val (.ref b), .val (.int fr), .val (.int to), s19, .unset, .unset] [(.int key)])) t → G t := by
    intro t k
    refine pr72 t ?_
    by_cases c73 : (((p5.toUInt32 >>> ((6 : Int32) &&& 31).toUInt32).toInt32) &&& (1 : Int32)) = (0 : Int32)
    · refine XS.ifYes X65.here hx rfl (pc0 := 153) (pc' := 169) rfl (hb hby at_153) rfl ((if0 _ _).trans (teq c73).1) (by decide) (by decide) ?_
      refine XS.iload X65.here hx rfl (hb hby at_169) rfl ?_
      have ekey : key = p6 := by rw [hkey, if_pos c73]
      rw [ekey] at k
      exact k
    · refine XS.ifNo X65.here hx rfl (hb hby at_153) rfl ((if0 _ _).trans (feq c73).1) ?_
      refine XS.aload X65.here hx rfl (hb hby at_156) rfl rfl ?_
      refine XS.iload X65.here hx rfl (hb hby at_158) rfl ?_
      refine XS.bipush X65.here hx rfl (hb hby at_160) ?_
      refine XS.iushr X65.here hx rfl (hb hby at_162) rfl ?_
      refine XS.iconst X65.here hx rfl (hb hby at_163) ?_
      refine XS.iand X65.here hx rfl (hb hby at_164) rfl ?_
      refine ia_ldI X65 hx hZ e65 V_b (j := (((p5.toUInt32 >>> ((7 : Int32) &&& 31).toUInt32).toInt32) &&& (3 : Int32))) q (by rw [eq7]; exact own_n32 (by omega)) (by rw [eq7]; exact own_nn (by omega)) (show q < 4 from hq) (w := kv) hkv.symm (g := (mkF m 165 #[.val (.int p1), .val (.int p2), .val (.int p3), .val (.int p4), .val (.int p5), .val (.int p6), .val (.int x0), .val (.int x1), .val (.int x2), .val (.int x3), .val (.int s0), .val (.int y2), .val (.int y1), .val (.int s3), .val (.int s1), .val (.int s2), .val (.ref b), .val (.int fr), .val (.int to), s19, .unset, .unset] [(.int (((p5.toUInt32 >>> ((7 : Int32) &&& 31).toUInt32).toInt32) &&& (3 : Int32))), (.ref b)])) rfl rfl (hb hby at_165) _ ?_
      refine XS.goto X65.here hx rfl (pc0 := 166) (pc' := 171) rfl (hb hby at_166) (by decide) (by decide) ?_
      have ekey : key = kv := by rw [hkey, if_neg c73]
      rw [ekey] at k
      exact k
  have pr75 : ∀ t, Steps p.tables e below (T65.setTop (mkF m 184 #[.val (.int p1), .val (.int p2), .val (.int p3), .val (.int p4), .val (.int p5), .val (.int p6), .val (.int x0), .val (.int x1), .val (.int x2), .val (.int x3), .val (.int s0), .val (.int y2), .val (.int y1), .val (.int s3), .val (.int s1), .val (.int s2), .val (.ref b), .val (.int fr), .val (.int to), .val (.int key), .unset, .unset] [(.int key), (.int to), (.int fr), (.int (0 : Int32)), (.int s0), (.int fr)])) t → G t := fun t k => pr74 t (by
      refine XS.istore X65.here hx rfl (hb hby at_171) rfl (l' := #[.val (.int p1), .val (.int p2), .val (.int p3), .val (.int p4), .val (.int p5), .val (.int p6), .val (.int x0), .val (.int x1), .val (.int x2), .val (.int x3), .val (.int s0), .val (.int y2), .val (.int y1), .val (.int s3), .val (.int s1), .val (.int s2), .val (.ref b), .val (.int fr), .val (.int to), .val (.int key), .unset, .unset]) (by rw [hs19]; (repeat' split) <;> rfl) ?_
      refine XS.iload X65.here hx rfl (hb hby at_173) rfl ?_
      refine XS.iload X65.here hx rfl (hb hby at_175) rfl ?_
      refine XS.iconst X65.here hx rfl (hb hby at_177) ?_
      refine XS.iload X65.here hx rfl (hb hby at_178) rfl ?_
      refine XS.iload X65.here hx rfl (hb hby at_180) rfl ?_
      refine XS.iload X65.here hx rfl (hb hby at_182) rfl ?_
      exact k)
  obtain ⟨_, _, ⟨T76, L76, k76, n76⟩, -, X76, ⟨Lc76, hQ76, l76, y76, z76⟩, st76⟩ := Jvm.LawKit.callS X65 hx (y := (⟨"com/example/witnesseth/witnesseth/document/OutlineFirstAtLeastPinLaw", "below", "(IIIII)I"⟩ : MethodName)) hown (mvT hZ (hw _ (List.mem_of_getElem? (i := 8) rfl))) (mvT hZ (hw _ (List.mem_of_getElem? (i := 9) rfl))) (mvT hZ (hw _ (List.mem_of_getElem? (i := 10) rfl))) (mvT hZ (hw _ (List.mem_of_getElem? (i := 11) rfl))) (by decide) (backOf (W := 1) (rmBelow l Z a0 hw [] s0 (0 : Int32) fr to key h65 n0 Z65) hZ (hw _ (List.mem_of_getElem? (i := 11) rfl)) (hw _ (List.mem_of_getElem? (i := 10) rfl)) (by decide) (by decide)) (g := (mkF m 184 #[.val (.int p1), .val (.int p2), .val (.int p3), .val (.int p4), .val (.int p5), .val (.int p6), .val (.int x0), .val (.int x1), .val (.int x2), .val (.int x3), .val (.int s0), .val (.int y2), .val (.int y1), .val (.int s3), .val (.int s1), .val (.int s2), .val (.ref b), .val (.int fr), .val (.int to), .val (.int key), .unset, .unset] [(.int key), (.int to), (.int fr), (.int (0 : Int32)), (.int s0), (.int fr)])) rfl (by rw [hml]; rfl) (argsL := [(.int s0), (.int (0 : Int32)), (.int fr), (.int to), (.int key)]) (rest := [(.int fr)]) (lenOf pd_1 rfl) rfl (by show 2 * 0 + _ ≤ _; exact Nat.le_of_eq rfl) (hb hby at_184) (fun _ _ => ⟨rfl, e65, (by decide : 1 + 0 ≤ _), (by decide : 4 + 0 ≤ _)⟩)
  dsimp only [Pt.U, Pt.locs, Pt.cells, Pt.slots] at X76 l76 y76 z76 st76 hQ76
  subst l76 y76 z76
  obtain ⟨rfl, Nq76, eh76⟩ := hQ76
  have N76 := Fr.app N65 Nq76
  have pr77 : ∀ t, Steps p.tables e below (T76.setTop (mkF m 187 #[.val (.int p1), .val (.int p2), .val (.int p3), .val (.int p4), .val (.int p5), .val (.int p6), .val (.int x0), .val (.int x1), .val (.int x2), .val (.int x3), .val (.int s0), .val (.int y2), .val (.int y1), .val (.int s3), .val (.int s1), .val (.int s2), .val (.ref b), .val (.int fr), .val (.int to), .val (.int key), .unset, .unset] [(.int (own_below s0 (0 : Int32) fr to key)), (.int fr)])) t → G t := fun t k => pr75 t (st76 t k)
  obtain ⟨b0, hb0⟩ : ∃ z : Int32, z = (own_below s0 (0 : Int32) fr to key) := ⟨_, rfl⟩
  rw [← hb0] at pr77
  have pr78 : ∀ t, Steps p.tables e below (T76.setTop (mkF m 197 #[.val (.int p1), .val (.int p2), .val (.int p3), .val (.int p4), .val (.int p5), .val (.int p6), .val (.int x0), .val (.int x1), .val (.int x2), .val (.int x3), .val (.int s0), .val (.int y2), .val (.int y1), .val (.int s3), .val (.int s1), .val (.int s2), .val (.ref b), .val (.int fr), .val (.int to), .val (.int key), .unset, .unset] [(.int key), (.int to), (.int fr), (.int (1 : Int32)), (.int s1), (.int (fr + b0))])) t → G t := fun t k => pr77 t (by
      refine XS.iadd X76.here hx rfl (hb hby at_187) rfl ?_
      refine XS.iload X76.here hx rfl (hb hby at_188) rfl ?_
      refine XS.iconst X76.here hx rfl (hb hby at_190) ?_
      refine XS.iload X76.here hx rfl (hb hby at_191) rfl ?_
      refine XS.iload X76.here hx rfl (hb hby at_193) rfl ?_
      refine XS.iload X76.here hx rfl (hb hby at_195) rfl ?_
      exact k)
  obtain ⟨_, _, ⟨T79, L79, k79, n79⟩, -, X79, ⟨Lc79, hQ79, l79, y79, z79⟩, st79⟩ := Jvm.LawKit.callS X76 hx (y := (⟨"com/example/witnesseth/witnesseth/document/OutlineFirstAtLeastPinLaw", "below", "(IIIII)I"⟩ : MethodName)) hown (mvT hZ (hw _ (List.mem_of_getElem? (i := 8) rfl))) (mvT hZ (hw _ (List.mem_of_getElem? (i := 9) rfl))) (mvT hZ (hw _ (List.mem_of_getElem? (i := 10) rfl))) (mvT hZ (hw _ (List.mem_of_getElem? (i := 11) rfl))) (by decide) (backOf (W := 1) (rmBelow l Z a0 hw [] s1 (1 : Int32) fr to key h65 n0 Z65) hZ (hw _ (List.mem_of_getElem? (i := 11) rfl)) (hw _ (List.mem_of_getElem? (i := 10) rfl)) (by decide) (by decide)) (g := (mkF m 197 #[.val (.int p1), .val (.int p2), .val (.int p3), .val (.int p4), .val (.int p5), .val (.int p6), .val (.int x0), .val (.int x1), .val (.int x2), .val (.int x3), .val (.int s0), .val (.int y2), .val (.int y1), .val (.int s3), .val (.int s1), .val (.int s2), .val (.ref b), .val (.int fr), .val (.int to), .val (.int key), .unset, .unset] [(.int key), (.int to), (.int fr), (.int (1 : Int32)), (.int s1), (.int (fr + b0))])) rfl (by rw [hml]; rfl) (argsL := [(.int s1), (.int (1 : Int32)), (.int fr), (.int to), (.int key)]) (rest := [(.int (fr + b0))]) (lenOf pd_1 rfl) rfl (by show 2 * 0 + _ ≤ _; exact Nat.le_of_eq rfl) (hb hby at_197) (fun _ _ => ⟨rfl, eh76, (by decide : 1 + 0 ≤ _), (by decide : 4 + 0 ≤ _)⟩)
  dsimp only [Pt.U, Pt.locs, Pt.cells, Pt.slots] at X79 l79 y79 z79 st79 hQ79
  subst l79 y79 z79
  obtain ⟨rfl, Nq79, eh79⟩ := hQ79
  have N79 := Fr.app N76 Nq79
  have pr80 : ∀ t, Steps p.tables e below (T79.setTop (mkF m 200 #[.val (.int p1), .val (.int p2), .val (.int p3), .val (.int p4), .val (.int p5), .val (.int p6), .val (.int x0), .val (.int x1), .val (.int x2), .val (.int x3), .val (.int s0), .val (.int y2), .val (.int y1), .val (.int s3), .val (.int s1), .val (.int s2), .val (.ref b), .val (.int fr), .val (.int to), .val (.int key), .unset, .unset] [(.int (own_below s1 (1 : Int32) fr to key)), (.int (fr + b0))])) t → G t := fun t k => pr78 t (st79 t k)
  obtain ⟨b1, hb1⟩ : ∃ z : Int32, z = (own_below s1 (1 : Int32) fr to key) := ⟨_, rfl⟩
  rw [← hb1] at pr80
  have pr81 : ∀ t, Steps p.tables e below (T79.setTop (mkF m 210 #[.val (.int p1), .val (.int p2), .val (.int p3), .val (.int p4), .val (.int p5), .val (.int p6), .val (.int x0), .val (.int x1), .val (.int x2), .val (.int x3), .val (.int s0), .val (.int y2), .val (.int y1), .val (.int s3), .val (.int s1), .val (.int s2), .val (.ref b), .val (.int fr), .val (.int to), .val (.int key), .unset, .unset] [(.int key), (.int to), (.int fr), (.int (2 : Int32)), (.int s2), (.int ((fr + b0) + b1))])) t → G t := fun t k => pr80 t (by
      refine XS.iadd X79.here hx rfl (hb hby at_200) rfl ?_
      refine XS.iload X79.here hx rfl (hb hby at_201) rfl ?_
      refine XS.iconst X79.here hx rfl (hb hby at_203) ?_
      refine XS.iload X79.here hx rfl (hb hby at_204) rfl ?_
      refine XS.iload X79.here hx rfl (hb hby at_206) rfl ?_
      refine XS.iload X79.here hx rfl (hb hby at_208) rfl ?_
      exact k)
  obtain ⟨_, _, ⟨T82, L82, k82, n82⟩, -, X82, ⟨Lc82, hQ82, l82, y82, z82⟩, st82⟩ := Jvm.LawKit.callS X79 hx (y := (⟨"com/example/witnesseth/witnesseth/document/OutlineFirstAtLeastPinLaw", "below", "(IIIII)I"⟩ : MethodName)) hown (mvT hZ (hw _ (List.mem_of_getElem? (i := 8) rfl))) (mvT hZ (hw _ (List.mem_of_getElem? (i := 9) rfl))) (mvT hZ (hw _ (List.mem_of_getElem? (i := 10) rfl))) (mvT hZ (hw _ (List.mem_of_getElem? (i := 11) rfl))) (by decide) (backOf (W := 1) (rmBelow l Z a0 hw [] s2 (2 : Int32) fr to key h65 n0 Z65) hZ (hw _ (List.mem_of_getElem? (i := 11) rfl)) (hw _ (List.mem_of_getElem? (i := 10) rfl)) (by decide) (by decide)) (g := (mkF m 210 #[.val (.int p1), .val (.int p2), .val (.int p3), .val (.int p4), .val (.int p5), .val (.int p6), .val (.int x0), .val (.int x1), .val (.int x2), .val (.int x3), .val (.int s0), .val (.int y2), .val (.int y1), .val (.int s3), .val (.int s1), .val (.int s2), .val (.ref b), .val (.int fr), .val (.int to), .val (.int key), .unset, .unset] [(.int key), (.int to), (.int fr), (.int (2 : Int32)), (.int s2), (.int ((fr + b0) + b1))])) rfl (by rw [hml]; rfl) (argsL := [(.int s2), (.int (2 : Int32)), (.int fr), (.int to), (.int key)]) (rest := [(.int ((fr + b0) + b1))]) (lenOf pd_1 rfl) rfl (by show 2 * 0 + _ ≤ _; exact Nat.le_of_eq rfl) (hb hby at_210) (fun _ _ => ⟨rfl, eh79, (by decide : 1 + 0 ≤ _), (by decide : 4 + 0 ≤ _)⟩)
  dsimp only [Pt.U, Pt.locs, Pt.cells, Pt.slots] at X82 l82 y82 z82 st82 hQ82
  subst l82 y82 z82
  obtain ⟨rfl, Nq82, eh82⟩ := hQ82
  have N82 := Fr.app N79 Nq82
  have pr83 : ∀ t, Steps p.tables e below (T82.setTop (mkF m 213 #[.val (.int p1), .val (.int p2), .val (.int p3), .val (.int p4), .val (.int p5), .val (.int p6), .val (.int x0), .val (.int x1), .val (.int x2), .val (.int x3), .val (.int s0), .val (.int y2), .val (.int y1), .val (.int s3), .val (.int s1), .val (.int s2), .val (.ref b), .val (.int fr), .val (.int to), .val (.int key), .unset, .unset] [(.int (own_below s2 (2 : Int32) fr to key)), (.int ((fr + b0) + b1))])) t → G t := fun t k => pr81 t (st82 t k)
  obtain ⟨b2, hb2⟩ : ∃ z : Int32, z = (own_below s2 (2 : Int32) fr to key) := ⟨_, rfl⟩
  rw [← hb2] at pr83
  have pr84 : ∀ t, Steps p.tables e below (T82.setTop (mkF m 223 #[.val (.int p1), .val (.int p2), .val (.int p3), .val (.int p4), .val (.int p5), .val (.int p6), .val (.int x0), .val (.int x1), .val (.int x2), .val (.int x3), .val (.int s0), .val (.int y2), .val (.int y1), .val (.int s3), .val (.int s1), .val (.int s2), .val (.ref b), .val (.int fr), .val (.int to), .val (.int key), .unset, .unset] [(.int key), (.int to), (.int fr), (.int (3 : Int32)), (.int s3), (.int (((fr + b0) + b1) + b2))])) t → G t := fun t k => pr83 t (by
      refine XS.iadd X82.here hx rfl (hb hby at_213) rfl ?_
      refine XS.iload X82.here hx rfl (hb hby at_214) rfl ?_
      refine XS.iconst X82.here hx rfl (hb hby at_216) ?_
      refine XS.iload X82.here hx rfl (hb hby at_217) rfl ?_
      refine XS.iload X82.here hx rfl (hb hby at_219) rfl ?_
      refine XS.iload X82.here hx rfl (hb hby at_221) rfl ?_
      exact k)
  obtain ⟨_, _, ⟨T85, L85, k85, n85⟩, -, X85, ⟨Lc85, hQ85, l85, y85, z85⟩, st85⟩ := Jvm.LawKit.callS X82 hx (y := (⟨"com/example/witnesseth/witnesseth/document/OutlineFirstAtLeastPinLaw", "below", "(IIIII)I"⟩ : MethodName)) hown (mvT hZ (hw _ (List.mem_of_getElem? (i := 8) rfl))) (mvT hZ (hw _ (List.mem_of_getElem? (i := 9) rfl))) (mvT hZ (hw _ (List.mem_of_getElem? (i := 10) rfl))) (mvT hZ (hw _ (List.mem_of_getElem? (i := 11) rfl))) (by decide) (backOf (W := 1) (rmBelow l Z a0 hw [] s3 (3 : Int32) fr to key h65 n0 Z65) hZ (hw _ (List.mem_of_getElem? (i := 11) rfl)) (hw _ (List.mem_of_getElem? (i := 10) rfl)) (by decide) (by decide)) (g := (mkF m 223 #[.val (.int p1), .val (.int p2), .val (.int p3), .val (.int p4), .val (.int p5), .val (.int p6), .val (.int x0), .val (.int x1), .val (.int x2), .val (.int x3), .val (.int s0), .val (.int y2), .val (.int y1), .val (.int s3), .val (.int s1), .val (.int s2), .val (.ref b), .val (.int fr), .val (.int to), .val (.int key), .unset, .unset] [(.int key), (.int to), (.int fr), (.int (3 : Int32)), (.int s3), (.int (((fr + b0) + b1) + b2))])) rfl (by rw [hml]; rfl) (argsL := [(.int s3), (.int (3 : Int32)), (.int fr), (.int to), (.int key)]) (rest := [(.int (((fr + b0) + b1) + b2))]) (lenOf pd_1 rfl) rfl (by show 2 * 0 + _ ≤ _; exact Nat.le_of_eq rfl) (hb hby at_223) (fun _ _ => ⟨rfl, eh82, (by decide : 1 + 0 ≤ _), (by decide : 4 + 0 ≤ _)⟩)
  dsimp only [Pt.U, Pt.locs, Pt.cells, Pt.slots] at X85 l85 y85 z85 st85 hQ85
  subst l85 y85 z85
  obtain ⟨rfl, Nq85, eh85⟩ := hQ85
  have N85 := Fr.app N82 Nq85
  have pr86 : ∀ t, Steps p.tables e below (T85.setTop (mkF m 226 #[.val (.int p1), .val (.int p2), .val (.int p3), .val (.int p4), .val (.int p5), .val (.int p6), .val (.int x0), .val (.int x1), .val (.int x2), .val (.int x3), .val (.int s0), .val (.int y2), .val (.int y1), .val (.int s3), .val (.int s1), .val (.int s2), .val (.ref b), .val (.int fr), .val (.int to), .val (.int key), .unset, .unset] [(.int (own_below s3 (3 : Int32) fr to key)), (.int (((fr + b0) + b1) + b2))])) t → G t := fun t k => pr84 t (st85 t k)
  obtain ⟨b3, hb3⟩ : ∃ z : Int32, z = (own_below s3 (3 : Int32) fr to key) := ⟨_, rfl⟩
  rw [← hb3] at pr86
  have pr87 : ∀ t, Steps p.tables e below (T85.setTop (mkF m 229 #[.val (.int p1), .val (.int p2), .val (.int p3), .val (.int p4), .val (.int p5), .val (.int p6), .val (.int x0), .val (.int x1), .val (.int x2), .val (.int x3), .val (.int s0), .val (.int y2), .val (.int y1), .val (.int s3), .val (.int s1), .val (.int s2), .val (.ref b), .val (.int fr), .val (.int to), .val (.int key), .val (.int ((((fr + b0) + b1) + b2) + b3)), .unset] [])) t → G t := fun t k => pr86 t (by
      refine XS.iadd X85.here hx rfl (hb hby at_226) rfl ?_
      refine XS.istore X85.here hx rfl (hb hby at_227) rfl (l' := #[.val (.int p1), .val (.int p2), .val (.int p3), .val (.int p4), .val (.int p5), .val (.int p6), .val (.int x0), .val (.int x1), .val (.int x2), .val (.int x3), .val (.int s0), .val (.int y2), .val (.int y1), .val (.int s3), .val (.int s1), .val (.int s2), .val (.ref b), .val (.int fr), .val (.int to), .val (.int key), .val (.int ((((fr + b0) + b1) + b2) + b3)), .unset]) rfl ?_
      exact k)
  obtain ⟨ex, hex⟩ : ∃ z : Int32, z = ((((fr + b0) + b1) + b2) + b3) := ⟨_, rfl⟩
  rw [← hex] at pr87
  have pr88 : ∀ t, Steps p.tables e below (T85.setTop (mkF m 237 #[.val (.int p1), .val (.int p2), .val (.int p3), .val (.int p4), .val (.int p5), .val (.int p6), .val (.int x0), .val (.int x1), .val (.int x2), .val (.int x3), .val (.int s0), .val (.int y2), .val (.int y1), .val (.int s3), .val (.int s1), .val (.int s2), .val (.ref b), .val (.int fr), .val (.int to), .val (.int key), .val (.int ex), .unset] [(.int key), (.int to), (.int fr), (.ref b)])) t → G t := fun t k => pr87 t (by
      refine XS.aload X85.here hx rfl (hb hby at_229) rfl rfl ?_
      refine XS.iload X85.here hx rfl (hb hby at_231) rfl ?_
      refine XS.iload X85.here hx rfl (hb hby at_233) rfl ?_
      refine XS.iload X85.here hx rfl (hb hby at_235) rfl ?_
      exact k)
  obtain ⟨_, _, ⟨T89, L89, k89, n89⟩, -, X89, ⟨Lc89, hQ89, l89, y89, z89⟩, st89⟩ := Jvm.LawKit.callS X85 hx (y := (⟨"com/example/witnesseth/witnesseth/document/Outline", "firstAtLeast", "([IIII)I"⟩ : MethodName)) hown (mvT hZ (hw _ (List.mem_of_getElem? (i := 12) rfl))) (mvT hZ (hw _ (List.mem_of_getElem? (i := 13) rfl))) (mvT hZ (hw _ (List.mem_of_getElem? (i := 14) rfl))) (mvT hZ (hw _ (List.mem_of_getElem? (i := 15) rfl))) (by decide) (backOf (W := 0) (rmF l Z a0 hw [] b fr to key k53 4 [s0, s1, s2, s3] fa ta h65 n0 Z65 V_b efr eto (show ta ≤ 4 from hta) (by omega) hle (by omega)) hZ (hw _ (List.mem_of_getElem? (i := 15) rfl)) (hw _ (List.mem_of_getElem? (i := 14) rfl)) (by decide) (by decide)) (g := (mkF m 237 #[.val (.int p1), .val (.int p2), .val (.int p3), .val (.int p4), .val (.int p5), .val (.int p6), .val (.int x0), .val (.int x1), .val (.int x2), .val (.int x3), .val (.int s0), .val (.int y2), .val (.int y1), .val (.int s3), .val (.int s1), .val (.int s2), .val (.ref b), .val (.int fr), .val (.int to), .val (.int key), .val (.int ex), .unset] [(.int key), (.int to), (.int fr), (.ref b)])) rfl (by rw [hml]; rfl) (argsL := [(.ref b), (.int fr), (.int to), (.int key)]) (rest := []) (lenOf pd_2 rfl) rfl (by show 2 * 0 + _ ≤ _; exact Nat.le_of_eq rfl) (hb hby at_237) (fun _ _ => ⟨rfl, eh85, (by decide : 1 + 0 ≤ _), (by decide : 4 + 0 ≤ _)⟩)
  dsimp only [Pt.U, Pt.locs, Pt.cells, Pt.slots] at X89 l89 y89 z89 st89 hQ89
  subst l89 y89 z89
  obtain ⟨rfl, Nq89, eh89⟩ := hQ89
  have N89 := Fr.app N85 Nq89
  have pr90 : ∀ t, Steps p.tables e below (T89.setTop (mkF m 240 #[.val (.int p1), .val (.int p2), .val (.int p3), .val (.int p4), .val (.int p5), .val (.int p6), .val (.int x0), .val (.int x1), .val (.int x2), .val (.int x3), .val (.int s0), .val (.int y2), .val (.int y1), .val (.int s3), .val (.int s1), .val (.int s2), .val (.ref b), .val (.int fr), .val (.int to), .val (.int key), .val (.int ex), .unset] [(.int (Int32.ofNat (own_bs (fun q => decide ([s0, s1, s2, s3].getD q 0 < key)) 4 fa ta)))])) t → G t := fun t k => pr88 t (st89 t k)
  obtain ⟨got, hgot⟩ : ∃ z : Int32, z = (Int32.ofNat (own_bs (fun q => decide ([s0, s1, s2, s3].getD q 0 < key)) 4 fa ta)) := ⟨_, rfl⟩
  rw [← hgot] at pr90
  have hge : got = ex := own_law p1 p2 p3 p4 fr to key x0 x1 x2 x3 s0 y2 y1 s3 s1 s2 b0 b1 b2 b3 ex got  fa ta hle hta efr eto hx0 hx1 hx2 hx3 hs0 hy2 hy1 hs3 hs1 hs2 hb0 hb1 hb2 hb3 hex hgot
  have pr91 : ∀ t, Steps p.tables e below (T89.setTop (mkF m 264 #[.val (.int p1), .val (.int p2), .val (.int p3), .val (.int p4), .val (.int p5), .val (.int p6), .val (.int x0), .val (.int x1), .val (.int x2), .val (.int x3), .val (.int s0), .val (.int y2), .val (.int y1), .val (.int s3), .val (.int s1), .val (.int s2), .val (.ref b), .val (.int fr), .val (.int to), .val (.int key), .val (.int ex), .val (.int got)] [(.int s1), (.int s1)])) t → G t := fun t k => pr90 t (by
      refine XS.istore X89.here hx rfl (hb hby at_240) rfl (l' := #[.val (.int p1), .val (.int p2), .val (.int p3), .val (.int p4), .val (.int p5), .val (.int p6), .val (.int x0), .val (.int x1), .val (.int x2), .val (.int x3), .val (.int s0), .val (.int y2), .val (.int y1), .val (.int s3), .val (.int s1), .val (.int s2), .val (.ref b), .val (.int fr), .val (.int to), .val (.int key), .val (.int ex), .val (.int got)]) rfl ?_
      refine XS.iload X89.here hx rfl (hb hby at_242) rfl ?_
      refine XS.iload X89.here hx rfl (hb hby at_244) rfl ?_
      refine XS.icmpNo X89.here hx rfl (hb hby at_246) rfl (teq hge).2 ?_
      refine XS.aload X89.here hx rfl (hb hby at_249) rfl rfl ?_
      refine XS.iconst X89.here hx rfl (hb hby at_251) ?_
      refine ia_ldI X89 hx hZ eh89 V_b (j := (0 : Int32)) 0 rfl (by decide) (Nat.le_of_ble_eq_true rfl) (w := s0) rfl (g := (mkF m 252 #[.val (.int p1), .val (.int p2), .val (.int p3), .val (.int p4), .val (.int p5), .val (.int p6), .val (.int x0), .val (.int x1), .val (.int x2), .val (.int x3), .val (.int s0), .val (.int y2), .val (.int y1), .val (.int s3), .val (.int s1), .val (.int s2), .val (.ref b), .val (.int fr), .val (.int to), .val (.int key), .val (.int ex), .val (.int got)] [(.int (0 : Int32)), (.ref b)])) rfl rfl (hb hby at_252) _ ?_
      refine XS.iload X89.here hx rfl (hb hby at_253) rfl ?_
      refine XS.icmpNo X89.here hx rfl (hb hby at_255) rfl (teq (rfl : s0 = s0)).2 ?_
      refine XS.aload X89.here hx rfl (hb hby at_258) rfl rfl ?_
      refine XS.iconst X89.here hx rfl (hb hby at_260) ?_
      refine ia_ldI X89 hx hZ eh89 V_b (j := (1 : Int32)) 1 rfl (by decide) (Nat.le_of_ble_eq_true rfl) (w := s1) rfl (g := (mkF m 261 #[.val (.int p1), .val (.int p2), .val (.int p3), .val (.int p4), .val (.int p5), .val (.int p6), .val (.int x0), .val (.int x1), .val (.int x2), .val (.int x3), .val (.int s0), .val (.int y2), .val (.int y1), .val (.int s3), .val (.int s1), .val (.int s2), .val (.ref b), .val (.int fr), .val (.int to), .val (.int key), .val (.int ex), .val (.int got)] [(.int (1 : Int32)), (.ref b)])) rfl rfl (hb hby at_261) _ ?_
      refine XS.iload X89.here hx rfl (hb hby at_262) rfl ?_
      exact k)
  have pr92 : ∀ t, Steps p.tables e below (T89.setTop (mkF m 286 #[.val (.int p1), .val (.int p2), .val (.int p3), .val (.int p4), .val (.int p5), .val (.int p6), .val (.int x0), .val (.int x1), .val (.int x2), .val (.int x3), .val (.int s0), .val (.int y2), .val (.int y1), .val (.int s3), .val (.int s1), .val (.int s2), .val (.ref b), .val (.int fr), .val (.int to), .val (.int key), .val (.int ex), .val (.int got)] [(.int (1 : Int32))])) t → G t := fun t k => pr91 t (by
      refine XS.icmpNo X89.here hx rfl (hb hby at_264) rfl (teq (rfl : s1 = s1)).2 ?_
      refine XS.aload X89.here hx rfl (hb hby at_267) rfl rfl ?_
      refine XS.iconst X89.here hx rfl (hb hby at_269) ?_
      refine ia_ldI X89 hx hZ eh89 V_b (j := (2 : Int32)) 2 rfl (by decide) (Nat.le_of_ble_eq_true rfl) (w := s2) rfl (g := (mkF m 270 #[.val (.int p1), .val (.int p2), .val (.int p3), .val (.int p4), .val (.int p5), .val (.int p6), .val (.int x0), .val (.int x1), .val (.int x2), .val (.int x3), .val (.int s0), .val (.int y2), .val (.int y1), .val (.int s3), .val (.int s1), .val (.int s2), .val (.ref b), .val (.int fr), .val (.int to), .val (.int key), .val (.int ex), .val (.int got)] [(.int (2 : Int32)), (.ref b)])) rfl rfl (hb hby at_270) _ ?_
      refine XS.iload X89.here hx rfl (hb hby at_271) rfl ?_
      refine XS.icmpNo X89.here hx rfl (hb hby at_273) rfl (teq (rfl : s2 = s2)).2 ?_
      refine XS.aload X89.here hx rfl (hb hby at_276) rfl rfl ?_
      refine XS.iconst X89.here hx rfl (hb hby at_278) ?_
      refine ia_ldI X89 hx hZ eh89 V_b (j := (3 : Int32)) 3 rfl (by decide) (Nat.le_of_ble_eq_true rfl) (w := s3) rfl (g := (mkF m 279 #[.val (.int p1), .val (.int p2), .val (.int p3), .val (.int p4), .val (.int p5), .val (.int p6), .val (.int x0), .val (.int x1), .val (.int x2), .val (.int x3), .val (.int s0), .val (.int y2), .val (.int y1), .val (.int s3), .val (.int s1), .val (.int s2), .val (.ref b), .val (.int fr), .val (.int to), .val (.int key), .val (.int ex), .val (.int got)] [(.int (3 : Int32)), (.ref b)])) rfl rfl (hb hby at_279) _ ?_
      refine XS.iload X89.here hx rfl (hb hby at_280) rfl ?_
      refine XS.icmpNo X89.here hx rfl (hb hby at_282) rfl (teq (rfl : s3 = s3)).2 ?_
      refine XS.iconst X89.here hx rfl (hb hby at_285) ?_
      exact k)
  have pr93 : ∀ t, Steps p.tables e below (T89.setTop (mkF m 290 #[.val (.int p1), .val (.int p2), .val (.int p3), .val (.int p4), .val (.int p5), .val (.int p6), .val (.int x0), .val (.int x1), .val (.int x2), .val (.int x3), .val (.int s0), .val (.int y2), .val (.int y1), .val (.int s3), .val (.int s1), .val (.int s2), .val (.ref b), .val (.int fr), .val (.int to), .val (.int key), .val (.int ex), .val (.int got)] [(.int (1 : Int32))])) t → G t := fun t k => pr92 t (by
      refine XS.goto X89.here hx rfl (pc0 := 286) (pc' := 290) rfl (hb hby at_286) (by decide) (by decide) ?_
      exact k)
  obtain ⟨fs, hr, hrun, hended, hW, hsame⟩ := X89.leave (v := some (.int 1)) (fun h => by rw [Bd.returns] at h; cases h)
  refine ⟨_, _, hG _ (pr93 _ ?_), hrun, hended, _, _, rfl, ?_, ⟨_, rfl⟩, hW, hsame.mono (by decide) (by decide)⟩
  · exact retN X89 hx (t := .boolean) Bd.returns (by simp) (hb hby at_290) (by rw [show nar .boolean (1 : Int32) = 1 from rfl]; exact hr)
  · show Q0 n0 _ T89.heap _
    rw [eh89]
    exact ⟨rfl, N89⟩
set_option maxRecDepth 65536 in
set_option maxHeartbeats 40000000 in
theorem comes_1 {Post : Tables → Env → Array Value → State → Outcome → State → Prop} (hpost : ∀ tb e args s v u, (limb_1_1.after args s (.returned v) u = true ∧ limb_1_2.after args s (.returned v) u = true ∧ True) → FrameEnd s (.returned v) u (Jvm.fieldLocs frame_1_writes args s ++ Jvm.arrayLocs frame_1_arrays args s ++ Jvm.staticLocs frame_1_statics s) 16 128 → Post tb e args s (.returned v) u) :
    ArmFor flags0 classFile x code maxLocals ret World_1 tables_1 room_1 Calls_1 rest_1 Pre_1 Post := by
  intro l hfl _ _ p e ha hc hk s m args below hf hA hF happ hP
  obtain ⟨hcalls, hrest, hpre⟩ := hP
  obtain ⟨-, -, -, hnamed, -, -, -, hat⟩ := (Spec.applies_iff hf).mp happ
  obtain ⟨hg, hn⟩ := and_e (Cond.before_iff.mp (show (Jvm.Cond.and given_1 narrow_1).before args s = true from hpre))
  obtain ⟨hcount, g0⟩ := and_e hg
  obtain ⟨ga0, g1⟩ := and_e g0
  obtain ⟨ga1, g2⟩ := and_e g1
  obtain ⟨ga2, g3⟩ := and_e g2
  obtain ⟨ga3, g4⟩ := and_e g3
  obtain ⟨ga4, g5⟩ := and_e g4
  have ga5 := g5
  obtain ⟨w0, w1, w2, w3, w4, w5, rfl⟩ : ∃ w0 w1 w2 w3 w4 w5 : Value, args = #[w0, w1, w2, w3, w4, w5] := by
    have hs : args.size = 6 := by simpa [Cond.value, given_1] using hcount
    obtain ⟨L⟩ := args
    match L, hs with
    | [w0, w1, w2, w3, w4, w5], _ => exact ⟨w0, w1, w2, w3, w4, w5, rfl⟩
  have hw := fun d (hd : d ∈ tables_1) => atoms_spec (ws := Jvm.Cond.code x code maxLocals ret :: tables_1) hat d (List.mem_cons_of_mem _ hd)
  obtain ⟨i0, ei0⟩ := is_v ga0
  obtain rfl : w0 = (.int i0) := Option.some.inj ei0
  obtain ⟨i1, ei1⟩ := is_v ga1
  obtain rfl : w1 = (.int i1) := Option.some.inj ei1
  obtain ⟨i2, ei2⟩ := is_v ga2
  obtain rfl : w2 = (.int i2) := Option.some.inj ei2
  obtain ⟨i3, ei3⟩ := is_v ga3
  obtain rfl : w3 = (.int i3) := Option.some.inj ei3
  obtain ⟨i4, ei4⟩ := is_v ga4
  obtain rfl : w4 = (.int i4) := Option.some.inj ei4
  obtain ⟨i5, ei5⟩ := is_v ga5
  obtain rfl : w5 = (.int i5) := Option.some.inj ei5
  obtain ⟨n, o, h1, h2, h3, _, L, rfl, ⟨rfl, N⟩, hq⟩ := rm0 l s _ hw tables_1 i0 i1 i2 i3 i4 i5  s.heap s.heap.size (Nat.le_refl _)  p e ha hc hk s m _ below hf ((Spec.applies_iff_loose hf).mp happ).1 ⟨rfl, State.Warmed39.refl s, rfl⟩ trivial
  refine ⟨n, _, h1, h2, h3, hpost _ _ _ _ _ _ ⟨Cond.after_iff.mpr rfl, Cond.after_iff.mpr (eq_i res_at (Term.int_eval (1)) rfl), trivial⟩ ⟨hq.1, hq.2.1, (hq.2.2.sift fun y hy => Or.inr (N y hy)).mono (by decide) (by decide)⟩⟩
theorem main_1_1 : Claimed_1_1 := comes_1 fun _ _ _ _ _ _ h hF => ⟨h.1, hF⟩
theorem main_1_2 : Claimed_1_2 := comes_1 fun _ _ _ _ _ _ h hF => ⟨h.2.1, hF⟩
end Jvm.Pilot.@@N@@
namespace Jvm.Pilot.@@N@@
open Jvm Jvm.ClassFile Sem Op Lib Jvm.Free Jvm.Stand Jvm.Pilot.@@N@@.Jvm.D
/-! MADE BY PROGRAM (witnessworld.py) out of the Statement's table words and the real class files: 10 classes; the members and pool entries that the words name. The judged class is class 1, her method 1. -/
namespace start1
open Jvm.ClassFile
def u (s : String) : CpInfo := .utf8 (stringToUtf16 s)
/-- a pool by its gaps: so many unusable entries, then the entry; so many at the end -/
def gap : Nat → List CpInfo → List CpInfo
  | 0, r => r
  | n + 1, r => .unusable :: gap n r
def poolList (es : List (Nat × CpInfo)) (last : Nat) : List CpInfo := es.foldr (fun e r => gap e.1 (e.2 :: r)) (gap last [])
def pool (es : List (Nat × CpInfo)) (last : Nat) : Array CpInfo := ⟨poolList es last⟩
def fileOf (pool : Array CpInfo) (this : Nat) (attrs : Array Attribute := #[]) (ms : Array MethodInfo := #[]) (fl : Nat := 33) (sup : Nat := 0) (ifs : Array Nat := #[]) (fds : Array FieldInfo := #[]) : ClassFile where
  minorVersion := 0
  majorVersion := 65
  constantPool := pool
  accessFlags := fl
  thisClass := this
  superClass := sup
  interfaces := ifs
  fields := fds
  methods := ms
  attributes := attrs
def plain (name : String) (sup : Option ClassId) : Class where
  name := name
  kind := .ordinary
  loader := none
  accessFlags := 33
  super := sup
  interfaces := #[]
  cf := none
  fields := #[]
  methods := #[]
  instanceTypes := #[]
  staticTypes := #[]
  resolved := #[]
  callSites := []
  init := .initialized
  statics := none
  mirror := none

def pool0 : Array CpInfo := pool [(5, u "<init>"), (0, u "()V"), (1, .class_ 10), (1, u "java/lang/Object")] 113

def k0m0 : Method := { name := "<init>", desc := "()V", sig := { parameters := [], returnType := none }, accessFlags := 1, code := none }
/-- java/lang/Object -/
def k0 : Class := { plain "java/lang/Object" none with
  accessFlags := 33
  interfaces := #[]
  cf := some (fileOf pool0 8 #[] #[{ accessFlags := 1, nameIndex := 5, descriptorIndex := 6, attributes := #[] }] 33 0 #[] #[])
  fields := #[]
  methods := #[k0m0]
  instanceTypes := #[]
  staticTypes := #[]
  resolved := Array.replicate 124 none
  statics := none }

def pool1 : Array CpInfo := pool [(2, .class_ 4), (1, u "java/lang/Object"), (0, u "<init>"), (0, u "()V"), (0, .methodref 8 9), (0, .class_ 10), (0, .nameAndType 11 12), (0, u "java/lang/Math"), (0, u "min"), (0, u "(II)I"), (0, .methodref 8 14), (0, .nameAndType 15 12), (0, u "max"), (0, .methodref 17 18), (0, .class_ 19), (0, .nameAndType 20 21), (0, u "com/example/witnesseth/witnesseth/document/OutlineFirstAtLeastPinLaw"), (0, u "below"), (0, u "(IIIII)I"), (0, .methodref 23 24), (0, .class_ 25), (0, .nameAndType 26 27), (0, u "com/example/witnesseth/witnesseth/document/Outline"), (0, u "firstAtLeast"), (0, u "([IIII)I"), (2, u "law"), (0, u "(IIIIII)Z")] 5

def k1m0 : Method := { name := "<init>", desc := "()V", sig := { parameters := [], returnType := none }, accessFlags := 1, code := none }
def k1c1 : Code := { maxStack := 6, maxLocals := 22, code := code, exceptionTable := #[], attributes := #[] }
def k1m1 : Method := { name := "law", desc := "(IIIIII)Z", sig := { parameters := [.int, .int, .int, .int, .int, .int], returnType := some .boolean }, accessFlags := 9, code := some k1c1 }
def k1c2 : Code := { maxStack := 2, maxLocals := 5, code := method_3_code, exceptionTable := #[], attributes := #[] }
def k1m2 : Method := { name := "below", desc := "(IIIII)I", sig := { parameters := [.int, .int, .int, .int, .int], returnType := some .int }, accessFlags := 10, code := some k1c2 }
/-- com/example/witnesseth/witnesseth/document/OutlineFirstAtLeastPinLaw -/
def k1 : Class := { plain "com/example/witnesseth/witnesseth/document/OutlineFirstAtLeastPinLaw" (some 0) with
  accessFlags := 49
  interfaces := #[]
  cf := some (fileOf pool1 17 #[] #[{ accessFlags := 1, nameIndex := 5, descriptorIndex := 6, attributes := #[] }, { accessFlags := 9, nameIndex := 30, descriptorIndex := 31, attributes := #[] }, { accessFlags := 10, nameIndex := 20, descriptorIndex := 21, attributes := #[] }] 49 2 #[] #[])
  fields := #[]
  methods := #[k1m0, k1m1, k1m2]
  instanceTypes := #[]
  staticTypes := #[]
  resolved := Array.replicate 37 none
  statics := none }

def pool2 : Array CpInfo := pool [(1, .class_ 2), (0, u "java/lang/Math"), (1, .class_ 6), (1, u "java/lang/Object"), (0, u "<init>"), (0, u "()V"), (89, .class_ 100), (1, u "java/lang/Math$RandomNumberGeneratorHolder"), (71, u "negativeZeroFloatBits"), (0, u "J"), (2, u "negativeZeroDoubleBits"), (21, u "max"), (2, u "min"), (43, u "$assertionsDisabled"), (0, u "Z"), (88, u "(II)I"), (2, u "twoToTheDoubleScaleDown"), (0, u "D"), (4, u "twoToTheDoubleScaleUp"), (9, u "E"), (3, u "PI"), (2, u "TAU"), (2, u "DEGREES_TO_RADIANS"), (0, u "RADIANS_TO_DEGREES")] 94

def k2m0 : Method := { name := "<init>", desc := "()V", sig := { parameters := [], returnType := none }, accessFlags := 2, code := none }
def k2c1 : Code := { maxStack := 2, maxLocals := 2, code := jdk_29_method_65_code, exceptionTable := #[], attributes := #[] }
def k2m1 : Method := { name := "max", desc := "(II)I", sig := { parameters := [.int, .int], returnType := some .int }, accessFlags := 9, code := some k2c1 }
def k2c2 : Code := { maxStack := 2, maxLocals := 2, code := jdk_29_method_69_code, exceptionTable := #[], attributes := #[] }
def k2m2 : Method := { name := "min", desc := "(II)I", sig := { parameters := [.int, .int], returnType := some .int }, accessFlags := 9, code := some k2c2 }
/-- java/lang/Math -/
def k2 : Class := { plain "java/lang/Math" (some 0) with
  accessFlags := 49
  interfaces := #[]
  cf := some (fileOf pool2 1 #[.nestMembers #[98]] #[{ accessFlags := 2, nameIndex := 7, descriptorIndex := 8, attributes := #[] }, { accessFlags := 9, nameIndex := 198, descriptorIndex := 335, attributes := #[] }, { accessFlags := 9, nameIndex := 201, descriptorIndex := 335, attributes := #[] }] 49 4 #[] #[{ accessFlags := 25, nameIndex := 354, descriptorIndex := 339, attributes := #[] }, { accessFlags := 25, nameIndex := 358, descriptorIndex := 339, attributes := #[] }, { accessFlags := 25, nameIndex := 361, descriptorIndex := 339, attributes := #[] }, { accessFlags := 26, nameIndex := 364, descriptorIndex := 339, attributes := #[] }, { accessFlags := 26, nameIndex := 365, descriptorIndex := 339, attributes := #[] }, { accessFlags := 26, nameIndex := 172, descriptorIndex := 173, attributes := #[] }, { accessFlags := 26, nameIndex := 176, descriptorIndex := 173, attributes := #[] }, { accessFlags := 8, nameIndex := 344, descriptorIndex := 339, attributes := #[] }, { accessFlags := 8, nameIndex := 338, descriptorIndex := 339, attributes := #[] }, { accessFlags := 4120, nameIndex := 245, descriptorIndex := 246, attributes := #[] }])
  fields := #[{ name := "E", type := .double, accessFlags := 25, slot := 0, constantValue := 0 }, { name := "PI", type := .double, accessFlags := 25, slot := 1, constantValue := 0 }, { name := "TAU", type := .double, accessFlags := 25, slot := 2, constantValue := 0 }, { name := "DEGREES_TO_RADIANS", type := .double, accessFlags := 26, slot := 3, constantValue := 0 }, { name := "RADIANS_TO_DEGREES", type := .double, accessFlags := 26, slot := 4, constantValue := 0 }, { name := "negativeZeroFloatBits", type := .long, accessFlags := 26, slot := 5, constantValue := 0 }, { name := "negativeZeroDoubleBits", type := .long, accessFlags := 26, slot := 6, constantValue := 0 }, { name := "twoToTheDoubleScaleUp", type := .double, accessFlags := 8, slot := 7, constantValue := 0 }, { name := "twoToTheDoubleScaleDown", type := .double, accessFlags := 8, slot := 8, constantValue := 0 }, { name := "$assertionsDisabled", type := .boolean, accessFlags := 4120, slot := 9, constantValue := 0 }]
  methods := #[k2m0, k2m1, k2m2]
  instanceTypes := #[]
  staticTypes := #[.double, .double, .double, .double, .double, .long, .long, .double, .double, .boolean]
  resolved := Array.replicate 460 none
  statics := none }

def pool3 : Array CpInfo := pool [(2, .class_ 4), (1, u "java/lang/Object"), (6, .class_ 13), (1, u "com/example/witnesseth/witnesseth/document/Outline"), (0, u "groups"), (0, u "Ljava/util/List;"), (5, u "byKey"), (0, u "Ljava/util/Map;"), (2, u "definitionsStart"), (0, u "I"), (2, u "filed"), (0, u "Z"), (2, u "after"), (0, u "Ljava/lang/String;"), (19, .class_ 56), (1, u "com/example/witnesseth/witnesseth/document/Outline$Opening"), (91, .class_ 149), (0, u "com/example/witnesseth/witnesseth/document/Outline$Outer"), (5, .class_ 157), (1, u "com/example/witnesseth/witnesseth/document/Outline$OwnClauses"), (76, .class_ 236), (1, u "com/example/witnesseth/witnesseth/document/Outline$Group"), (14, u "definitionsEnd"), (21, .class_ 274), (0, u "com/example/witnesseth/witnesseth/document/Outline$Segment"), (17, .class_ 294), (1, u "com/example/witnesseth/witnesseth/document/Outline$Place"), (97, .class_ 393), (0, u "com/example/witnesseth/witnesseth/document/Outline$Walk"), (23, .class_ 419), (1, u "com/example/witnesseth/witnesseth/document/Outline$Mark"), (19, .class_ 440), (0, u "com/example/witnesseth/witnesseth/document/Outline$Undo"), (40, .class_ 482), (0, u "com/example/witnesseth/witnesseth/document/Outline$Found"), (28, .class_ 512), (0, u "com/example/witnesseth/witnesseth/document/Outline$ReadUnit"), (52, u "changes"), (7, .class_ 575), (1, u "com/example/witnesseth/witnesseth/document/Outline$Kept"), (140, u "OPENING"), (0, u "Ljava/util/Comparator;"), (8, .class_ 727), (0, u "com/example/witnesseth/witnesseth/document/Outline$Joined"), (113, .class_ 843), (1, u "com/example/witnesseth/witnesseth/document/Outline$Measure"), (35, u "hint"), (41, .class_ 922), (0, u "com/example/witnesseth/witnesseth/document/Outline$Placed"), (40, u "GROUP"), (62, u "firstAtLeast"), (0, u "([IIII)I"), (50, .class_ 1079), (0, u "com/example/witnesseth/witnesseth/document/Outline$Read"), (0, .class_ 1081), (0, u "com/example/witnesseth/witnesseth/document/Outline$Ends")] 198

def k3c0 : Code := { maxStack := 2, maxLocals := 7, code := prog_67_method_79_code, exceptionTable := #[], attributes := #[] }
def k3m0 : Method := { name := "firstAtLeast", desc := "([IIII)I", sig := { parameters := [(.array .int), .int, .int, .int], returnType := some .int }, accessFlags := 8, code := some k3c0 }
/-- com/example/witnesseth/witnesseth/document/Outline -/
def k3 : Class := { plain "com/example/witnesseth/witnesseth/document/Outline" (some 0) with
  accessFlags := 48
  interfaces := #[]
  cf := some (fileOf pool3 11 #[.nestMembers #[439, 392, 292, 726, 155, 1078, 573, 481, 1080, 511, 921, 148, 234, 273, 54, 841, 417]] #[{ accessFlags := 8, nameIndex := 1026, descriptorIndex := 1027, attributes := #[] }] 48 2 #[] #[{ accessFlags := 26, nameIndex := 963, descriptorIndex := 26, attributes := #[] }, { accessFlags := 26, nameIndex := 716, descriptorIndex := 717, attributes := #[] }, { accessFlags := 18, nameIndex := 14, descriptorIndex := 15, attributes := #[] }, { accessFlags := 18, nameIndex := 21, descriptorIndex := 22, attributes := #[] }, { accessFlags := 18, nameIndex := 29, descriptorIndex := 30, attributes := #[] }, { accessFlags := 2, nameIndex := 33, descriptorIndex := 34, attributes := #[] }, { accessFlags := 2, nameIndex := 25, descriptorIndex := 26, attributes := #[] }, { accessFlags := 2, nameIndex := 251, descriptorIndex := 26, attributes := #[] }, { accessFlags := 2, nameIndex := 879, descriptorIndex := 26, attributes := #[] }, { accessFlags := 2, nameIndex := 565, descriptorIndex := 26, attributes := #[] }])
  fields := #[{ name := "GROUP", type := .int, accessFlags := 26, slot := 0, constantValue := 0 }, { name := "OPENING", type := (.object "java/util/Comparator"), accessFlags := 26, slot := 1, constantValue := 0 }, { name := "groups", type := (.object "java/util/List"), accessFlags := 18, slot := 0, constantValue := 0 }, { name := "byKey", type := (.object "java/util/Map"), accessFlags := 18, slot := 1, constantValue := 0 }, { name := "filed", type := .boolean, accessFlags := 18, slot := 2, constantValue := 0 }, { name := "after", type := (.object "java/lang/String"), accessFlags := 2, slot := 3, constantValue := 0 }, { name := "definitionsStart", type := .int, accessFlags := 2, slot := 4, constantValue := 0 }, { name := "definitionsEnd", type := .int, accessFlags := 2, slot := 5, constantValue := 0 }, { name := "hint", type := .int, accessFlags := 2, slot := 6, constantValue := 0 }, { name := "changes", type := .int, accessFlags := 2, slot := 7, constantValue := 0 }]
  methods := #[k3m0]
  instanceTypes := #[(.object "java/util/List"), (.object "java/util/Map"), .boolean, (.object "java/lang/String"), .int, .int, .int, .int]
  staticTypes := #[.int, (.object "java/util/Comparator")]
  resolved := Array.replicate 1280 none
  statics := none }

def pool4 : Array CpInfo := pool [(1, u "java/lang/Cloneable"), (0, .class_ 1), (0, u "java/lang/Object"), (0, .class_ 3)] 3

/-- java/lang/Cloneable -/
def k4 : Class := { plain "java/lang/Cloneable" (some 0) with
  accessFlags := 1537
  interfaces := #[]
  cf := some (fileOf pool4 2 #[] #[] 1537 4 #[] #[])
  fields := #[]
  methods := #[]
  instanceTypes := #[]
  staticTypes := #[]
  resolved := Array.replicate 8 none
  statics := none }

def pool5 : Array CpInfo := pool [(1, u "java/io/Serializable"), (0, .class_ 1), (0, u "java/lang/Object"), (0, .class_ 3)] 3

/-- java/io/Serializable -/
def k5 : Class := { plain "java/io/Serializable" (some 0) with
  accessFlags := 1537
  interfaces := #[]
  cf := some (fileOf pool5 2 #[] #[] 1537 4 #[] #[])
  fields := #[]
  methods := #[]
  instanceTypes := #[]
  staticTypes := #[]
  resolved := Array.replicate 8 none
  statics := none }

/-- the primitive byte -/
def k6 : Class := { plain "byte" none with kind := .primitive 'B', accessFlags := 0x411 }
/-- [B -/
def k7 : Class := { plain "[B" (some 0) with kind := .array 6 .byte, interfaces := #[4, 5], accessFlags := 1041 }

/-- the primitive int -/
def k8 : Class := { plain "int" none with kind := .primitive 'I', accessFlags := 0x411 }
/-- [I -/
def k9 : Class := { plain "[I" (some 0) with kind := .array 8 .int, interfaces := #[4, 5], accessFlags := 1041 }

def heap : Heap := #[]
def classes : Array Class := #[k0, k1, k2, k3, k4, k5, k6, k7, k8, k9]
def interned : List (Array UInt16 × Addr) := []
def slotsUsed : Nat := 0
def theMethod : MethodId := ⟨1, 1⟩
def args0 : Array Value := #[.int 5, .int 6, .int 7, .int 8, .int 9, .int 10]
def aboutOver (below : List Frame) : State where
  vm := { classes := classes, interned := interned.toArray }
  heap := heap
  slotsUsed := slotsUsed
  threads := #[{ frames := .invoking theMethod args0 :: below }]
def below0 : List Frame := [.native { method := ⟨0, 0⟩, args := #[] }]
def about1 : State := aboutOver below0
def p0 : Program := .bare "" "" ""
def e0 : Env := launch0.env 0 0 0
theorem w_frames : about1.frames = Frame.invoking theMethod args0 :: below0 := rfl
set_option maxRecDepth 65536 in
theorem w_args : argsFit about1.vm theMethod args0 = true := by decide +kernel
set_option maxRecDepth 65536 in
theorem w_heap : heapFits about1 = true := by decide +kernel
set_option maxRecDepth 65536 in
theorem w_runnable : about1.curStatus? = some .runnable := by decide +kernel
set_option maxRecDepth 65536 in
theorem w_alone : about1.alone = true := by decide +kernel
set_option maxRecDepth 65536 in
theorem w_named : about1.methodNamed? x = some theMethod := by decide +kernel
set_option maxRecDepth 65536 in
theorem w_hears : about1.hears theMethod below0 = true := by decide +kernel
set_option maxRecDepth 65536 in
theorem w_ripe : about1.ripe theMethod args0 below0 = true := by decide +kernel
theorem w_running : about1.status = .running := rfl
set_option maxRecDepth 65536 in
theorem w_room : about1.hasRoom e0.platform room_1 = true :=
  launch0.hasRoom_least _ room_1 (by decide +kernel) (by decide +kernel) (by decide +kernel) (by decide +kernel) (by decide +kernel) (by decide +kernel)
theorem allAtoms_all (ts : List Jvm.Cond) (a : Array Jvm.Value) (st : Jvm.State) : (allAtoms ts).before a st = ts.all (fun c => c.before a st) := by
  induction ts with
  | nil => rfl
  | cons c t ih =>
    show (Jvm.Cond.and c (allAtoms t)).before a st = _
    rw [Jvm.Cond.before_and, ih, List.all_cons]
def words1 : List Jvm.Cond := Jvm.Cond.code x code maxLocals ret :: tables_1
/-- a 'code' word, met by the world's own term for the bytes: nothing is compared byte by byte -/
theorem code_word {y : MethodName} {bytes : ByteArray} {mx : Nat} {rt : Option FieldType} {a : Array Value} {s : State} {m : MethodId} {meth : Method} {c : Code} (h1 : s.methodNamed? y = some m) (h2 : s.vm.method? m = some meth) (h3 : meth.code = some c) (h4 : c.code = bytes)
    (h5 : (c.maxLocals == mx && c.exceptionTable.isEmpty && decide (c.maxStack ≤ mostOperands) && decide (meth.sig.returnType = rt) && !meth.locks && decide (parseMethodDescriptor y.desc = some meth.sig)) = true) : (Jvm.Cond.code y bytes mx rt).before a s = true := by
  simp only [Bool.and_eq_true, beq_iff_eq, Bool.not_eq_true', decide_eq_true_eq] at h5
  obtain ⟨⟨⟨⟨⟨g1, g2⟩, g3⟩, g4⟩, g5⟩, g6⟩ := h5
  simp [Cond.before, Cond.holds, Cond.value, h1, h2, h3, h4, g1, g2, g3, g4, g5, g6]
def isCode : Jvm.Cond → Bool
  | .code _ _ _ _ => true
  | _ => false
theorem all_split {L : List Jvm.Cond} {P : Jvm.Cond → Bool} (h1 : L.all (fun c => isCode c || P c) = true) (h2 : ∀ c ∈ L.filter isCode, P c = true) : L.all P = true := by
  refine List.all_eq_true.mpr fun c hc => ?_
  have h := List.all_eq_true.mp h1 c hc
  rcases Bool.eq_false_or_eq_true (isCode c) with hi | hi
  · exact h2 c (List.mem_filter.mpr ⟨hc, hi⟩)
  · simpa [hi] using h
set_option maxRecDepth 65536 in
theorem w_c0 : (Jvm.Cond.code x code maxLocals ret).before args0 about1 = true := code_word (m := ⟨1, 1⟩) (meth := k1m1) (c := k1c1) (by decide +kernel) rfl rfl rfl (by decide +kernel)
set_option maxRecDepth 65536 in
theorem w_c1 : (Jvm.Cond.code ({ cls := "java/lang/Math", name := "min", desc := "(II)I" } : Jvm.MethodName) jdk_29_method_69_code (2 : Nat) (Option.some Jvm.ClassFile.FieldType.int)).before args0 about1 = true := code_word (m := ⟨2, 2⟩) (meth := k2m2) (c := k2c2) (by decide +kernel) rfl rfl rfl (by decide +kernel)
set_option maxRecDepth 65536 in
theorem w_c2 : (Jvm.Cond.code ({ cls := "java/lang/Math", name := "max", desc := "(II)I" } : Jvm.MethodName) jdk_29_method_65_code (2 : Nat) (Option.some Jvm.ClassFile.FieldType.int)).before args0 about1 = true := code_word (m := ⟨2, 1⟩) (meth := k2m1) (c := k2c1) (by decide +kernel) rfl rfl rfl (by decide +kernel)
set_option maxRecDepth 65536 in
theorem w_c3 : (Jvm.Cond.code ({ cls := "com/example/witnesseth/witnesseth/document/OutlineFirstAtLeastPinLaw", name := "below", desc := "(IIIII)I" } : Jvm.MethodName) method_3_code (5 : Nat) (Option.some Jvm.ClassFile.FieldType.int)).before args0 about1 = true := code_word (m := ⟨1, 2⟩) (meth := k1m2) (c := k1c2) (by decide +kernel) rfl rfl rfl (by decide +kernel)
set_option maxRecDepth 65536 in
theorem w_c4 : (Jvm.Cond.code ({ cls := "com/example/witnesseth/witnesseth/document/Outline", name := "firstAtLeast", desc := "([IIII)I" } : Jvm.MethodName) prog_67_method_79_code (7 : Nat) (Option.some Jvm.ClassFile.FieldType.int)).before args0 about1 = true := code_word (m := ⟨3, 0⟩) (meth := k3m0) (c := k3c0) (by decide +kernel) rfl rfl rfl (by decide +kernel)
def codes1 : List Jvm.Cond := [Jvm.Cond.code x code maxLocals ret, Jvm.Cond.code ({ cls := "java/lang/Math", name := "min", desc := "(II)I" } : Jvm.MethodName) jdk_29_method_69_code (2 : Nat) (Option.some Jvm.ClassFile.FieldType.int), Jvm.Cond.code ({ cls := "java/lang/Math", name := "max", desc := "(II)I" } : Jvm.MethodName) jdk_29_method_65_code (2 : Nat) (Option.some Jvm.ClassFile.FieldType.int), Jvm.Cond.code ({ cls := "com/example/witnesseth/witnesseth/document/OutlineFirstAtLeastPinLaw", name := "below", desc := "(IIIII)I" } : Jvm.MethodName) method_3_code (5 : Nat) (Option.some Jvm.ClassFile.FieldType.int), Jvm.Cond.code ({ cls := "com/example/witnesseth/witnesseth/document/Outline", name := "firstAtLeast", desc := "([IIII)I" } : Jvm.MethodName) prog_67_method_79_code (7 : Nat) (Option.some Jvm.ClassFile.FieldType.int)]
set_option maxRecDepth 65536 in
theorem codes_eq : words1.filter isCode = codes1 := rfl
theorem w_codes : ∀ c ∈ words1.filter isCode, c.before args0 about1 = true := by
  rw [codes_eq]
  intro c hc
  simp only [codes1, List.mem_cons, List.not_mem_nil, or_false] at hc
  rcases hc with rfl | rfl | rfl | rfl | rfl
  · exact w_c0
  · exact w_c1
  · exact w_c2
  · exact w_c3
  · exact w_c4
set_option maxRecDepth 65536 in
theorem w_t1 : words1.all (fun c => isCode c || c.before args0 about1) = true := by decide +kernel
theorem w_tables : (allAtoms (Jvm.Cond.code x code maxLocals ret :: tables_1)).before args0 about1 = true := by
  rw [allAtoms_all]
  show words1.all (fun c => c.before args0 about1) = true
  refine all_split ?_ w_codes
  rw [w_t1]
set_option maxRecDepth 65536 in
theorem w_case : (Jvm.Cond.and given_1 narrow_1).before args0 about1 = true := by decide +kernel
theorem w_applies : (headSpec (Jvm.Cond.code x code maxLocals ret :: tables_1) room_1).applies x e0.platform about1 = true :=
  (Spec.applies_iff w_frames).mpr ⟨w_running, w_runnable, w_alone, w_named, w_hears, w_ripe, w_room, w_tables⟩
theorem atStart : AtStart classFile x code maxLocals ret World_1 tables_1 room_1 Calls_1 rest_1 Pre_1 launch0 p0 e0 about1 theMethod args0 below0 :=
  ⟨lists_1, trivial, launch0.admits_env _ _ _, launch0.least_env, fairChoices_fair.cas, fairChoices_fair.clock, w_frames, w_args, w_heap, w_applies, trivial, trivial, w_case⟩
end start1
theorem witness_1 : WitnessClaimed_1 := ⟨start1.p0, start1.e0, start1.about1, start1.theMethod, start1.args0, start1.below0, start1.atStart⟩
end Jvm.Pilot.@@N@@
