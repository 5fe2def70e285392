import JvmDerived
import JvmDerived.Pilot.@@N@@Statement
import JvmDerived.Pilot.@@N@@Code
set_option linter.unusedVariables false
set_option linter.unusedSimpArgs false
namespace Jvm.RoadKit
open Sem ClassFile Op Lib Jvm.Stand Jvm.Free Jvm.LawKit
section New
variable {p : Program} {l : Launch} {e : Env} {R : Room} {s : State} {m : MethodId} {args : Array Value} {below : List Frame} {meth : Method} {c : Code} {T : State} {locs : List Loc} {cells slots : Nat}
theorem retI (X : Stand p l e R s m args below meth c T locs cells slots) (hx : p.tables.exec = Jvm.exec) {pc : Nat} {Ls : Array Slot} {z : Int32} {rest : List Value} (hret : meth.sig.returnType = some .int) (hd : decode c.code pc = .ok (.ireturn, 1)) {fs : List Frame}
    (hl : ∀ (f : JFrame) (acts : List Action), f.method = m → f.locked = none → f.entered = [] → (doReturn e (T.setTop f) acts (some (.int z))).1 = T.setFrames fs) : Steps p.tables e below (T.setTop (mkF m pc Ls (.int z :: rest))) (T.setFrames fs) := by
  have hm' : T.vm.method? m = some meth := X.method'
  have hn : narrow .int (.int z) = .int z := rfl
  show Steps p.tables e below (T.setTop { method := m, pc := pc, locals := Ls, stack := _ :: rest, locked := none }) _
  jvm_step X.here [X.here.top, hx, hd, hm', hret, hn]
  first | (intro acts; rw [hl _ acts rfl rfl rfl]) | rw [hl _ _ rfl rfl rfl]
  exact Steps.refl _
end New
end Jvm.RoadKit
namespace Jvm.Pilot.@@N@@
open Jvm Jvm.ClassFile Sem Op Lib Jvm.Free Jvm.Stand Jvm.LawKit Jvm.RoadKit Bundle Jvm.Pilot.@@N@@.Jvm.D
theorem own_ite01 {c : Prop} [Decidable c] {a b : Int32} (ha : a = 0 ∨ a = 1) (hb : b = 0 ∨ b = 1) : (if c then a else b) = 0 ∨ (if c then a else b) = 1 := by split <;> assumption
theorem own_nz {r : Int32} (h : r = 0 ∨ r = 1) : nar .boolean r = r := by rcases h with rfl | rfl <;> rfl
section own
variable {p : Program} {l : Launch} {e : Env} {R : Room} {s : State} {m : MethodId} {args : Array Value} {below : List Frame} {meth : Method} {c : Code} {T : State} {locs : List Loc} {cells slots : Nat} {Z : State} {h h' h0 : Heap} {a b : Addr} {k : ClassId} {ty : FieldType} {n : Int32} {vs : List Int32} {ls : List Int64} {sl : Nat} {v : Value} {ws : List Addr}
/-- an array of ints (or bytes, chars, shorts, booleans), by its list -/
def IA (Z : State) (h : Heap) (a : Addr) (k : ClassId) (ty : FieldType) (n : Int32) (vs : List Int32) : Prop := Arv Z h a k ty n (vs.map Value.int) (.int 0) ∧ vs.length = n.toNatClampNeg
def LA (Z : State) (h : Heap) (a : Addr) (k : ClassId) (n : Int32) (ls : List Int64) : Prop := Arv Z h a k .long n (ls.map Value.long) (.long 0) ∧ ls.length = n.toNatClampNeg
theorem IA.lt (F : IA Z h a k ty n vs) : a < h.size := F.1.lt
theorem IA.ext (F : IA Z h a k ty n vs) (E : Ext h h') : IA Z h' a k ty n vs := ⟨F.1.ext E, F.2⟩
theorem IA.other (F : IA Z h b k ty n vs) (W : Wr h h' a sl v) (q : b ≠ a) : IA Z h' b k ty n vs := ⟨F.1.other W q, F.2⟩
theorem IA.keep (F : IA Z h a k ty n vs) (K : Keep h h' ws) (q : a ∉ ws) : IA Z h' a k ty n vs := ⟨F.1.keep K q, F.2⟩
theorem LA.lt (F : LA Z h a k n ls) : a < h.size := F.1.lt
theorem LA.ext (F : LA Z h a k n ls) (E : Ext h h') : LA Z h' a k n ls := ⟨F.1.ext E, F.2⟩
theorem LA.other (F : LA Z h b k n ls) (W : Wr h h' a sl v) (q : b ≠ a) : LA Z h' b k n ls := ⟨F.1.other W q, F.2⟩
theorem LA.keep (F : LA Z h a k n ls) (K : Keep h h' ws) (q : a ∉ ws) : LA Z h' a k n ls := ⟨F.1.keep K q, F.2⟩
theorem IA.new (A : Arr Z h a (newA k ty n) ty) (q : ¬ n < 0) (hd : defaultValue ty = .int 0) {c : Nat} (hc : n.toNatClampNeg = c) : IA Z h a k ty n (List.replicate c 0) := by
  refine ⟨?_, by rw [List.length_replicate, hc]⟩
  have F := Arv.new A q
  rw [hd] at F
  rw [List.map_replicate]
  exact F.pad (pad_rep [] (.int 0) c)
theorem LA.new (A : Arr Z h a (newA k .long n) .long) (q : ¬ n < 0) {c : Nat} (hc : n.toNatClampNeg = c) : LA Z h a k n (List.replicate c 0) := by
  refine ⟨?_, by rw [List.length_replicate, hc]⟩
  have F : Arv Z h a k .long n [] (.long 0) := Arv.new A q
  rw [List.map_replicate]
  exact F.pad (pad_rep [] (.long 0) c)
theorem own_getI (vs : List Int32) (i : Nat) : (vs.map Value.int).getD i (.int 0) = .int (vs.getD i 0) := by
  simp only [List.getD_eq_getElem?_getD, List.getElem?_map]; cases vs[i]? <;> rfl
theorem own_getL (vs : List Int64) (i : Nat) : (vs.map Value.long).getD i (.long 0) = .long (vs.getD i 0) := by
  simp only [List.getD_eq_getElem?_getD, List.getElem?_map]; cases vs[i]? <;> rfl
theorem IA.inb {cl : Cell} {j : Int32} {i : Nat} (S : cl.slots.size = n.toNatClampNeg) (hl : vs.length = n.toNatClampNeg) (hj : j.toNatClampNeg = i) (hn : ¬ j < 0) (hi : i < vs.length) : ¬ (j < 0 ∨ cl.slots.size ≤ j.toNatClampNeg) := by
  rintro (q | q)
  · exact hn q
  · rw [S, ← hl, hj] at q; omega
theorem LA.inb {cl : Cell} {j : Int32} {i : Nat} (S : cl.slots.size = n.toNatClampNeg) (hl : ls.length = n.toNatClampNeg) (hj : j.toNatClampNeg = i) (hn : ¬ j < 0) (hi : i < ls.length) : ¬ (j < 0 ∨ cl.slots.size ≤ j.toNatClampNeg) := by
  rintro (q | q)
  · exact hn q
  · rw [S, ← hl, hj] at q; omega
theorem IA.at {cl : Cell} {j : Int32} {i : Nat} {w : Int32} (H : Has cl (vs.map Value.int) (.int 0)) (S : cl.slots.size = n.toNatClampNeg) (hl : vs.length = n.toNatClampNeg) (hj : j.toNatClampNeg = i) (hi : i < vs.length) (hw : vs.getD i 0 = w) : cl.slots[j.toNatClampNeg]? = some (.int w) := by
  rw [H _ (by rw [S, ← hl, hj]; exact hi), own_getI, hj, hw]
theorem LA.at {cl : Cell} {j : Int32} {i : Nat} {w : Int64} (H : Has cl (ls.map Value.long) (.long 0)) (S : cl.slots.size = n.toNatClampNeg) (hl : ls.length = n.toNatClampNeg) (hj : j.toNatClampNeg = i) (hi : i < ls.length) (hw : ls.getD i 0 = w) : cl.slots[j.toNatClampNeg]? = some (.long w) := by
  rw [H _ (by rw [S, ← hl, hj]; exact hi), own_getL, hj, hw]
theorem ia_ldI (X : Stand p l e R s m args below meth c T locs cells slots) (hx : p.tables.exec = Jvm.exec) (hZ : Z.Warmed39 s.vm) (eT : T.heap = h) (A : IA Z h a k .int n vs) {j : Int32} (i : Nat) (hj : j.toNatClampNeg = i) (hn : ¬ j < 0) (hi : i < vs.length) {w : Int32} (hw : vs.getD i 0 = w) {g : JFrame} (hg : g.method = m) {rest : List Value} (hs : g.stack = .int j :: .ref a :: rest) (hd : decode c.code g.pc = .ok (.iaload, 1)) (target : State)
    (q : Steps p.tables e below (T.setTop { g with pc := g.pc + 1, stack := .int w :: rest }) target) : Steps p.tables e below (T.setTop g) target := by
  obtain ⟨⟨cl, Ar, -, S, -, H, -⟩, hl⟩ := A
  exact X.iaload hx (by rw [eT]; exact Ar.1) (State.isArrayOf_alike hZ.alike Ar.2.1) Ar.2.2 (IA.inb S hl hj hn hi) (IA.at H S hl hj hi hw) hg hs hd target q
theorem ia_ldC (X : Stand p l e R s m args below meth c T locs cells slots) (hx : p.tables.exec = Jvm.exec) (hZ : Z.Warmed39 s.vm) (eT : T.heap = h) (A : IA Z h a k .char n vs) {j : Int32} (i : Nat) (hj : j.toNatClampNeg = i) (hn : ¬ j < 0) (hi : i < vs.length) {w : Int32} (hw : vs.getD i 0 = w) {g : JFrame} (hg : g.method = m) {rest : List Value} (hs : g.stack = .int j :: .ref a :: rest) (hd : decode c.code g.pc = .ok (.caload, 1)) (target : State)
    (q : Steps p.tables e below (T.setTop { g with pc := g.pc + 1, stack := .int w :: rest }) target) : Steps p.tables e below (T.setTop g) target := by
  obtain ⟨⟨cl, Ar, -, S, -, H, -⟩, hl⟩ := A
  exact X.caload hx (by rw [eT]; exact Ar.1) (State.isArrayOf_alike hZ.alike Ar.2.1) Ar.2.2 (IA.inb S hl hj hn hi) (IA.at H S hl hj hi hw) hg hs hd target q
theorem ia_ldS (X : Stand p l e R s m args below meth c T locs cells slots) (hx : p.tables.exec = Jvm.exec) (hZ : Z.Warmed39 s.vm) (eT : T.heap = h) (A : IA Z h a k .short n vs) {j : Int32} (i : Nat) (hj : j.toNatClampNeg = i) (hn : ¬ j < 0) (hi : i < vs.length) {w : Int32} (hw : vs.getD i 0 = w) {g : JFrame} (hg : g.method = m) {rest : List Value} (hs : g.stack = .int j :: .ref a :: rest) (hd : decode c.code g.pc = .ok (.saload, 1)) (target : State)
    (q : Steps p.tables e below (T.setTop { g with pc := g.pc + 1, stack := .int w :: rest }) target) : Steps p.tables e below (T.setTop g) target := by
  obtain ⟨⟨cl, Ar, -, S, -, H, -⟩, hl⟩ := A
  exact X.saload hx (by rw [eT]; exact Ar.1) (State.isArrayOf_alike hZ.alike Ar.2.1) Ar.2.2 (IA.inb S hl hj hn hi) (IA.at H S hl hj hi hw) hg hs hd target q
theorem ia_ldB (X : Stand p l e R s m args below meth c T locs cells slots) (hx : p.tables.exec = Jvm.exec) (hZ : Z.Warmed39 s.vm) (eT : T.heap = h) (A : IA Z h a k .byte n vs) {j : Int32} (i : Nat) (hj : j.toNatClampNeg = i) (hn : ¬ j < 0) (hi : i < vs.length) {w : Int32} (hw : vs.getD i 0 = w) {g : JFrame} (hg : g.method = m) {rest : List Value} (hs : g.stack = .int j :: .ref a :: rest) (hd : decode c.code g.pc = .ok (.baload, 1)) (target : State)
    (q : Steps p.tables e below (T.setTop { g with pc := g.pc + 1, stack := .int w :: rest }) target) : Steps p.tables e below (T.setTop g) target := by
  obtain ⟨⟨cl, Ar, -, S, -, H, -⟩, hl⟩ := A
  exact X.baloadBytes hx (by rw [eT]; exact Ar.1) (State.isArrayOf_alike hZ.alike Ar.2.1) Ar.2.2 (IA.inb S hl hj hn hi) (IA.at H S hl hj hi hw) hg hs hd target q
theorem ia_ldZ (X : Stand p l e R s m args below meth c T locs cells slots) (hx : p.tables.exec = Jvm.exec) (hZ : Z.Warmed39 s.vm) (eT : T.heap = h) (A : IA Z h a k .boolean n vs) {j : Int32} (i : Nat) (hj : j.toNatClampNeg = i) (hn : ¬ j < 0) (hi : i < vs.length) {w : Int32} (hw : vs.getD i 0 = w) {g : JFrame} (hg : g.method = m) {rest : List Value} (hs : g.stack = .int j :: .ref a :: rest) (hd : decode c.code g.pc = .ok (.baload, 1)) (target : State)
    (q : Steps p.tables e below (T.setTop { g with pc := g.pc + 1, stack := .int w :: rest }) target) : Steps p.tables e below (T.setTop g) target := by
  obtain ⟨⟨cl, Ar, -, S, -, H, -⟩, hl⟩ := A
  exact X.baloadBooleans hx (by rw [eT]; exact Ar.1) (State.isArrayOf_alike hZ.alike Ar.2.1) Ar.2.2 (IA.inb S hl hj hn hi) (IA.at H S hl hj hi hw) hg hs hd target q
theorem la_ldJ (X : Stand p l e R s m args below meth c T locs cells slots) (hx : p.tables.exec = Jvm.exec) (hZ : Z.Warmed39 s.vm) (eT : T.heap = h) (A : LA Z h a k n ls) {j : Int32} (i : Nat) (hj : j.toNatClampNeg = i) (hn : ¬ j < 0) (hi : i < ls.length) {w : Int64} (hw : ls.getD i 0 = w) {g : JFrame} (hg : g.method = m) {rest : List Value} (hs : g.stack = .int j :: .ref a :: rest) (hd : decode c.code g.pc = .ok (.laload, 1)) (target : State)
    (q : Steps p.tables e below (T.setTop { g with pc := g.pc + 1, stack := .long w :: rest }) target) : Steps p.tables e below (T.setTop g) target := by
  obtain ⟨⟨cl, Ar, -, S, -, H, -⟩, hl⟩ := A
  exact X.laload hx (by rw [eT]; exact Ar.1) (State.isArrayOf_alike hZ.alike Ar.2.1) Ar.2.2 (LA.inb S hl hj hn hi) (LA.at H S hl hj hi hw) hg hs hd target q
theorem ia_len (X : Stand p l e R s m args below meth c T locs cells slots) (hx : p.tables.exec = Jvm.exec) (hZ : Z.Warmed39 s.vm) (eT : T.heap = h) (A : IA Z h a k ty n vs) {g : JFrame} (hg : g.method = m) {rest : List Value} (hs : g.stack = .ref a :: rest) (hd : decode c.code g.pc = .ok (.arraylength, 1)) (target : State)
    (q : Steps p.tables e below (T.setTop { g with pc := g.pc + 1, stack := .int n :: rest }) target) : Steps p.tables e below (T.setTop g) target := by
  obtain ⟨⟨cl, Ar, -, S, N, H, -⟩, hl⟩ := A
  refine X.arraylength hx (by rw [eT]; exact Ar.1) (State.isArrayOf_alike hZ.alike Ar.2.1) hg hs hd target ?_
  rw [len_of S N]; exact q
theorem la_len (X : Stand p l e R s m args below meth c T locs cells slots) (hx : p.tables.exec = Jvm.exec) (hZ : Z.Warmed39 s.vm) (eT : T.heap = h) (A : LA Z h a k n ls) {g : JFrame} (hg : g.method = m) {rest : List Value} (hs : g.stack = .ref a :: rest) (hd : decode c.code g.pc = .ok (.arraylength, 1)) (target : State)
    (q : Steps p.tables e below (T.setTop { g with pc := g.pc + 1, stack := .int n :: rest }) target) : Steps p.tables e below (T.setTop g) target := by
  obtain ⟨⟨cl, Ar, -, S, N, H, -⟩, hl⟩ := A
  refine X.arraylength hx (by rw [eT]; exact Ar.1) (State.isArrayOf_alike hZ.alike Ar.2.1) hg hs hd target ?_
  rw [len_of S N]; exact q
theorem IA.put {cl : Cell} {j : Int32} {i : Nat} {y : Int32} (Ar : Arr Z h a cl ty) (q1 : cl.cls = k) (S : cl.slots.size = n.toNatClampNeg) (N : ¬ n < 0) (H : Has cl (vs.map Value.int) (.int 0)) (G : ∀ i, i < cl.slots.size → fits ty ((vs.map Value.int).getD i (.int 0)) = true) (hl : vs.length = n.toNatClampNeg) (hv : fits ty (.int y) = true) (W : Wr h h' a j.toNatClampNeg (.int y)) (hj : j.toNatClampNeg = i) (hi : i < vs.length) : IA Z h' a k ty n (vs.set i y) := by
  refine ⟨?_, by rw [List.length_set]; exact hl⟩
  have := Arv.set Ar q1 S N H G hv W i hj (by rw [List.length_map]; exact hi)
  rwa [← List.map_set] at this
theorem LA.put {cl : Cell} {j : Int32} {i : Nat} {y : Int64} (Ar : Arr Z h a cl .long) (q1 : cl.cls = k) (S : cl.slots.size = n.toNatClampNeg) (N : ¬ n < 0) (H : Has cl (ls.map Value.long) (.long 0)) (G : ∀ i, i < cl.slots.size → fits .long ((ls.map Value.long).getD i (.long 0)) = true) (hl : ls.length = n.toNatClampNeg) (W : Wr h h' a j.toNatClampNeg (.long y)) (hj : j.toNatClampNeg = i) (hi : i < ls.length) : LA Z h' a k n (ls.set i y) := by
  refine ⟨?_, by rw [List.length_set]; exact hl⟩
  have := Arv.set Ar q1 S N H G rfl W i hj (by rw [List.length_map]; exact hi)
  rwa [← List.map_set] at this
theorem ia_stI (X : Stand p l e R s m args below meth c T locs cells slots) (hx : p.tables.exec = Jvm.exec) (hZ : Z.Warmed39 s.vm) (eT : T.heap = h) (A : IA Z h a k .int n vs) {j : Int32} (i : Nat) (hj : j.toNatClampNeg = i) (hn : ¬ j < 0) (hi : i < vs.length) {x : Int32} {g : JFrame} (hg : g.method = m) {rest : List Value} (hs : g.stack = .int x :: .int j :: .ref a :: rest) (hd : decode c.code g.pc = .ok (.iastore, 1)) :
    ∃ T' h', Stand p l e R s m args below meth c T' (locs ++ [⟨a, j.toNatClampNeg⟩]) cells slots ∧ T'.heap = h' ∧ Wr h h' a j.toNatClampNeg (.int x) ∧ IA Z h' a k .int n (vs.set i x) ∧ ∀ target, Steps p.tables e below (T'.setTop { g with pc := g.pc + 1, stack := rest }) target → Steps p.tables e below (T.setTop g) target := by
  obtain ⟨⟨cl, Ar, q1, S, N, H, G⟩, hl⟩ := A
  obtain ⟨T', h', X', e', W, st⟩ := stI X hx hZ eT Ar (IA.inb S hl hj hn hi) hg hs hd
  exact ⟨T', h', X', e', W, IA.put Ar q1 S N H G hl rfl W hj hi, st⟩
theorem la_stJ (X : Stand p l e R s m args below meth c T locs cells slots) (hx : p.tables.exec = Jvm.exec) (hZ : Z.Warmed39 s.vm) (eT : T.heap = h) (A : LA Z h a k n ls) {j : Int32} (i : Nat) (hj : j.toNatClampNeg = i) (hn : ¬ j < 0) (hi : i < ls.length) {x : Int64} {g : JFrame} (hg : g.method = m) {rest : List Value} (hs : g.stack = .long x :: .int j :: .ref a :: rest) (hd : decode c.code g.pc = .ok (.lastore, 1)) :
    ∃ T' h', Stand p l e R s m args below meth c T' (locs ++ [⟨a, j.toNatClampNeg⟩]) cells slots ∧ T'.heap = h' ∧ Wr h h' a j.toNatClampNeg (.long x) ∧ LA Z h' a k n (ls.set i x) ∧ ∀ target, Steps p.tables e below (T'.setTop { g with pc := g.pc + 1, stack := rest }) target → Steps p.tables e below (T.setTop g) target := by
  obtain ⟨⟨cl, Ar, q1, S, N, H, G⟩, hl⟩ := A
  obtain ⟨T', h', X', e', W, st⟩ := stJ X hx hZ eT Ar (LA.inb S hl hj hn hi) hg hs hd
  exact ⟨T', h', X', e', W, LA.put Ar q1 S N H G hl W hj hi, st⟩
theorem ia_stC (X : Stand p l e R s m args below meth c T locs cells slots) (hx : p.tables.exec = Jvm.exec) (hZ : Z.Warmed39 s.vm) (eT : T.heap = h) (A : IA Z h a k .char n vs) {j : Int32} (i : Nat) (hj : j.toNatClampNeg = i) (hn : ¬ j < 0) (hi : i < vs.length) {x y : Int32} (hy : nar .char x = y) {g : JFrame} (hg : g.method = m) {rest : List Value} (hs : g.stack = .int x :: .int j :: .ref a :: rest) (hd : decode c.code g.pc = .ok (.castore, 1)) :
    ∃ T' h', Stand p l e R s m args below meth c T' (locs ++ [⟨a, j.toNatClampNeg⟩]) cells slots ∧ T'.heap = h' ∧ Wr h h' a j.toNatClampNeg (.int y) ∧ IA Z h' a k .char n (vs.set i y) ∧ ∀ target, Steps p.tables e below (T'.setTop { g with pc := g.pc + 1, stack := rest }) target → Steps p.tables e below (T.setTop g) target := by
  subst hy
  obtain ⟨⟨cl, Ar, q1, S, N, H, G⟩, hl⟩ := A
  obtain ⟨T', h', X', e', W, st⟩ := stC X hx hZ eT Ar (IA.inb S hl hj hn hi) hg hs hd
  exact ⟨T', h', X', e', W, IA.put Ar q1 S N H G hl (fits_nar_char _) W hj hi, st⟩
theorem ia_stS (X : Stand p l e R s m args below meth c T locs cells slots) (hx : p.tables.exec = Jvm.exec) (hZ : Z.Warmed39 s.vm) (eT : T.heap = h) (A : IA Z h a k .short n vs) {j : Int32} (i : Nat) (hj : j.toNatClampNeg = i) (hn : ¬ j < 0) (hi : i < vs.length) {x y : Int32} (hy : nar .short x = y) {g : JFrame} (hg : g.method = m) {rest : List Value} (hs : g.stack = .int x :: .int j :: .ref a :: rest) (hd : decode c.code g.pc = .ok (.sastore, 1)) :
    ∃ T' h', Stand p l e R s m args below meth c T' (locs ++ [⟨a, j.toNatClampNeg⟩]) cells slots ∧ T'.heap = h' ∧ Wr h h' a j.toNatClampNeg (.int y) ∧ IA Z h' a k .short n (vs.set i y) ∧ ∀ target, Steps p.tables e below (T'.setTop { g with pc := g.pc + 1, stack := rest }) target → Steps p.tables e below (T.setTop g) target := by
  subst hy
  obtain ⟨⟨cl, Ar, q1, S, N, H, G⟩, hl⟩ := A
  obtain ⟨T', h', X', e', W, st⟩ := stS X hx hZ eT Ar (IA.inb S hl hj hn hi) hg hs hd
  exact ⟨T', h', X', e', W, IA.put Ar q1 S N H G hl (fits_nar_short _) W hj hi, st⟩
theorem ia_stB (X : Stand p l e R s m args below meth c T locs cells slots) (hx : p.tables.exec = Jvm.exec) (hZ : Z.Warmed39 s.vm) (eT : T.heap = h) (A : IA Z h a k .byte n vs) {j : Int32} (i : Nat) (hj : j.toNatClampNeg = i) (hn : ¬ j < 0) (hi : i < vs.length) {x y : Int32} (hy : nar .byte x = y) {g : JFrame} (hg : g.method = m) {rest : List Value} (hs : g.stack = .int x :: .int j :: .ref a :: rest) (hd : decode c.code g.pc = .ok (.bastore, 1)) :
    ∃ T' h', Stand p l e R s m args below meth c T' (locs ++ [⟨a, j.toNatClampNeg⟩]) cells slots ∧ T'.heap = h' ∧ Wr h h' a j.toNatClampNeg (.int y) ∧ IA Z h' a k .byte n (vs.set i y) ∧ ∀ target, Steps p.tables e below (T'.setTop { g with pc := g.pc + 1, stack := rest }) target → Steps p.tables e below (T.setTop g) target := by
  subst hy
  obtain ⟨⟨cl, Ar, q1, S, N, H, G⟩, hl⟩ := A
  obtain ⟨T', h', X', e', W, st⟩ := stB X hx hZ eT Ar (IA.inb S hl hj hn hi) hg hs hd
  exact ⟨T', h', X', e', W, IA.put Ar q1 S N H G hl (fits_nar_byte _) W hj hi, st⟩
theorem ia_stZ (X : Stand p l e R s m args below meth c T locs cells slots) (hx : p.tables.exec = Jvm.exec) (hZ : Z.Warmed39 s.vm) (eT : T.heap = h) (A : IA Z h a k .boolean n vs) {j : Int32} (i : Nat) (hj : j.toNatClampNeg = i) (hn : ¬ j < 0) (hi : i < vs.length) {x y : Int32} (hy : nar .boolean x = y) {g : JFrame} (hg : g.method = m) {rest : List Value} (hs : g.stack = .int x :: .int j :: .ref a :: rest) (hd : decode c.code g.pc = .ok (.bastore, 1)) :
    ∃ T' h', Stand p l e R s m args below meth c T' (locs ++ [⟨a, j.toNatClampNeg⟩]) cells slots ∧ T'.heap = h' ∧ Wr h h' a j.toNatClampNeg (.int y) ∧ IA Z h' a k .boolean n (vs.set i y) ∧ ∀ target, Steps p.tables e below (T'.setTop { g with pc := g.pc + 1, stack := rest }) target → Steps p.tables e below (T.setTop g) target := by
  subst hy
  obtain ⟨⟨cl, Ar, q1, S, N, H, G⟩, hl⟩ := A
  obtain ⟨T', h', X', e', W, st⟩ := stZ X hx hZ eT Ar (IA.inb S hl hj hn hi) hg hs hd
  exact ⟨T', h', X', e', W, IA.put Ar q1 S N H G hl (fits_nar_bool _) W hj hi, st⟩
end own
theorem own_or32 (n : Nat) : n ||| 32 = n + 32 * (1 - n / 32 % 2) := by
  have h1 : ∀ r < 64, r ||| 32 = r + 32 * (1 - r / 32 % 2) := by decide
  have h2 : n = 2 ^ 6 * (n / 64) + n % 64 := by omega
  have h3 : n % 64 < 2 ^ 6 := by omega
  have h4 : n % 64 ||| 32 < 2 ^ 6 := Nat.or_lt_two_pow h3 (by decide)
  have e : n ||| 32 = 2 ^ 6 * (n / 64) + (n % 64 ||| 32) := by
    rw [Nat.two_pow_add_eq_or_of_lt h4, ← Nat.or_assoc, ← Nat.two_pow_add_eq_or_of_lt h3, ← h2]
  have := h1 (n % 64) (by omega)
  omega
theorem own_char (x : Int32) : ∃ n : Nat, n < 65536 ∧ x.toUInt32.toUInt16.toUInt32.toInt32 = Int32.ofNat n := by
  refine ⟨x.toUInt32.toUInt16.toNat, x.toUInt32.toUInt16.toNat_lt, ?_⟩
  apply Int32.toBitVec_inj.mp
  apply BitVec.eq_of_toNat_eq
  show x.toUInt32.toUInt16.toUInt32.toNat = (BitVec.ofNat 32 _).toNat
  have := x.toUInt32.toUInt16.toNat_lt
  rw [BitVec.toNat_ofNat]
  simp only [UInt16.toNat_toUInt32]
  omega
theorem own_orN (a b : Nat) : Int32.ofNat a ||| Int32.ofNat b = Int32.ofNat (a ||| b) := by
  apply Int32.toBitVec_inj.mp
  show BitVec.ofNat 32 a ||| BitVec.ofNat 32 b = BitVec.ofNat 32 (a ||| b)
  apply BitVec.eq_of_toNat_eq
  simp [BitVec.toNat_or, Nat.or_mod_two_pow]
theorem own_tI {n : Nat} (h : n < 2147483648) : (Int32.ofNat n).toInt = n := Int32.toInt_ofNat_of_lt h
theorem own_sub {x y : Int32} (h1 : -2147483648 ≤ x.toInt - y.toInt) (h2 : x.toInt - y.toInt < 2147483648) : (x - y).toInt = x.toInt - y.toInt :=
  (Int32.toInt_sub x y).trans (Int.bmod_eq_of_le (by omega) (by omega))
theorem own_add {x y : Int32} (h1 : -2147483648 ≤ x.toInt + y.toInt) (h2 : x.toInt + y.toInt < 2147483648) : (x + y).toInt = x.toInt + y.toInt :=
  (Int32.toInt_add x y).trans (Int.bmod_eq_of_le (by omega) (by omega))
theorem d1_0 : decode prog_49_method_9_code 0 = .ok (.iload_n 0, 1) := by decide +kernel
theorem d1_1 : decode prog_49_method_9_code 1 = .ok (.invokestatic 89, 3) := by decide +kernel
theorem d1_4 : decode prog_49_method_9_code 4 = .ok (.ifCond .ne 15, 3) := by decide +kernel
theorem d1_7 : decode prog_49_method_9_code 7 = .ok (.iload_n 0, 1) := by decide +kernel
theorem d1_8 : decode prog_49_method_9_code 8 = .ok (.bipush 48, 2) := by decide +kernel
theorem d1_10 : decode prog_49_method_9_code 10 = .ok (.if_icmp .lt 13, 3) := by decide +kernel
theorem d1_13 : decode prog_49_method_9_code 13 = .ok (.iload_n 0, 1) := by decide +kernel
theorem d1_14 : decode prog_49_method_9_code 14 = .ok (.bipush 57, 2) := by decide +kernel
theorem d1_16 : decode prog_49_method_9_code 16 = .ok (.if_icmp .gt 7, 3) := by decide +kernel
theorem d1_19 : decode prog_49_method_9_code 19 = .ok (.iconst 1, 1) := by decide +kernel
theorem d1_20 : decode prog_49_method_9_code 20 = .ok (.goto 4, 3) := by decide +kernel
theorem d1_23 : decode prog_49_method_9_code 23 = .ok (.iconst 0, 1) := by decide +kernel
theorem d1_24 : decode prog_49_method_9_code 24 = .ok (.ireturn, 1) := by decide +kernel
theorem d2_0 : decode prog_49_method_10_code 0 = .ok (.iload_n 0, 1) := by decide +kernel
theorem d2_1 : decode prog_49_method_10_code 1 = .ok (.bipush 65, 2) := by decide +kernel
theorem d2_3 : decode prog_49_method_10_code 3 = .ok (.if_icmp .lt 9, 3) := by decide +kernel
theorem d2_6 : decode prog_49_method_10_code 6 = .ok (.iload_n 0, 1) := by decide +kernel
theorem d2_7 : decode prog_49_method_10_code 7 = .ok (.bipush 90, 2) := by decide +kernel
theorem d2_9 : decode prog_49_method_10_code 9 = .ok (.if_icmp .le 15, 3) := by decide +kernel
theorem d2_12 : decode prog_49_method_10_code 12 = .ok (.iload_n 0, 1) := by decide +kernel
theorem d2_13 : decode prog_49_method_10_code 13 = .ok (.bipush 97, 2) := by decide +kernel
theorem d2_15 : decode prog_49_method_10_code 15 = .ok (.if_icmp .lt 13, 3) := by decide +kernel
theorem d2_18 : decode prog_49_method_10_code 18 = .ok (.iload_n 0, 1) := by decide +kernel
theorem d2_19 : decode prog_49_method_10_code 19 = .ok (.bipush 122, 2) := by decide +kernel
theorem d2_21 : decode prog_49_method_10_code 21 = .ok (.if_icmp .gt 7, 3) := by decide +kernel
theorem d2_24 : decode prog_49_method_10_code 24 = .ok (.iconst 1, 1) := by decide +kernel
theorem d2_25 : decode prog_49_method_10_code 25 = .ok (.goto 4, 3) := by decide +kernel
theorem d2_28 : decode prog_49_method_10_code 28 = .ok (.iconst 0, 1) := by decide +kernel
theorem d2_29 : decode prog_49_method_10_code 29 = .ok (.ireturn, 1) := by decide +kernel
theorem pd_0 : parseMethodDescriptor "(C)Z" = some ⟨[.char], some .boolean⟩ := by decide +kernel
theorem pn_0 : plainName "com/example/wirebind/wirebind/PercentEncoding" = true := by first | (simp [plainName, overriddenIn]; done) | decide +kernel
theorem pn_1 : plainName "com/example/wirebind/wirebind/PercentEncodingIsAsciiLetterOrDigitPinLaw" = true := by first | (simp [plainName, overriddenIn]; done) | decide +kernel
def own_letter (p1 : Int32) : Int32 := (if p1 < (65 : Int32) then (if p1 < (97 : Int32) then (0 : Int32) else (if (122 : Int32) < p1 then (0 : Int32) else (1 : Int32))) else (if (90 : Int32) < p1 then (if p1 < (97 : Int32) then (0 : Int32) else (if (122 : Int32) < p1 then (0 : Int32) else (1 : Int32))) else (1 : Int32)))
theorem ef_rm2 (m : MethodId) (x0 : Int32) : entryFrame m #[(.int x0)] 1 = mkF m 0 #[.val (.int x0)] [] := by first | (simp [entryFrame, mkF, argsToLocals, Value.category]; done) | rfl
def Q_rm2 (p1 : Int32) (h0 : Heap) (n0 : Nat) (v : Option Value) (h : Heap) (L : List Loc) : Prop := v = some (.int (own_letter p1)) ∧ Fr n0 L ∧ h = h0
set_option maxRecDepth 65536 in
set_option maxHeartbeats 40000000 in
theorem rm2 (l : Launch) (Z : State) (a0 : Array Value) (hw : ∀ d ∈ tables_1, d.before a0 Z = true) (ws : List Jvm.Cond) (p1 : Int32)  (h0 : Heap) (n0 : Nat) (Z0 : n0 ≤ h0.size)  :
    MetFree l (⟨"com/example/wirebind/wirebind/PercentEncoding", "isAsciiLetter", "(C)Z"⟩ : MethodName) (head1 (Jvm.Cond.code (⟨"com/example/wirebind/wirebind/PercentEncoding", "isAsciiLetter", "(C)Z"⟩ : MethodName) prog_49_method_10_code 1 (some .boolean) :: ws) ({ frames := 0, cells := 0, slots := 0, locals := 0 } : Room)) (fun a U => a = #[(.int p1)] ∧ Z.Warmed39 U.vm ∧ U.heap = h0) (fun _ _ _ _ _ => True) (fun _ U o U' => ∃ v L, o = .returned v ∧ Q_rm2 p1 h0 n0 v U'.heap L ∧ FrameEnd U o U' L ({ frames := 0, cells := 0, slots := 0, locals := 0 } : Room).cells ({ frames := 0, cells := 0, slots := 0, locals := 0 } : Room).slots) := by
  refine MetFree.of_bodySF (plainFor_of_name pn_0) hisR ?_
  intro p e s m args below meth c s₁ Bd hml0 hP hK
  obtain ⟨rfl, hZ, hh⟩ := hP
  have hx := Bd.exec
  have hby := Bd.bytes
  have hml : c.maxLocals = 1 := hml0
  have hown : s.vm.findClass "com/example/wirebind/wirebind/PercentEncoding" = some m.cls := findClass_of_methodNamed Bd.named
  have hnm := (name_of_methodNamed Bd.named Bd.method).1
  have X0 : Stand p l e ({ frames := 0, cells := 0, slots := 0, locals := 0 } : Room) s m #[(.int p1)] below meth c s₁ [] 0 0 := Stand.of_body Bd
  have e0 : s₁.heap = h0 := by rw [← hh, Bd.state]; rfl
  have N0 := Fr.nil n0
  obtain ⟨G, hG, pr0⟩ : ∃ G : State → Prop, (∀ t, G t → Steps p.tables e below (s₁.setTop (entryFrame m #[(.int p1)] 1)) t) ∧ (∀ t, Steps p.tables e below (s₁.setTop (mkF m 0 #[.val (.int p1)] [])) t → G t) := ⟨_, fun _ k => k, fun t k => castTop (ef_rm2 m p1) k⟩
  have pr1 : ∀ t, Steps p.tables e below (s₁.setTop (mkF m 3 #[.val (.int p1)] [(.int (65 : Int32)), (.int p1)])) t → G t := fun t k => pr0 t (by
      refine XS.iloadN X0.here hx rfl (hb hby d2_0) rfl ?_
      refine XS.bipush X0.here hx rfl (hb hby d2_1) ?_
      exact k)
  obtain ⟨j8, hj8⟩ : ∃ z : Int32, z = (if p1 < (65 : Int32) then (if p1 < (97 : Int32) then (0 : Int32) else (if (122 : Int32) < p1 then (0 : Int32) else (1 : Int32))) else (if (90 : Int32) < p1 then (if p1 < (97 : Int32) then (0 : Int32) else (if (122 : Int32) < p1 then (0 : Int32) else (1 : Int32))) else (1 : Int32))) := ⟨_, rfl⟩
  have pr9 : ∀ t, Steps p.tables e below (s₁.setTop (mkF m 29 #[.val (.int p1)] [(.int j8)])) t → G t := by
    intro t k
    refine pr1 t ?_
    by_cases c2 : p1 < (65 : Int32)
    · refine XS.icmpYes X0.here hx rfl (pc0 := 3) (pc' := 12) rfl (hb hby d2_3) rfl (tlt c2).1 (by decide) (by decide) ?_
      refine XS.iloadN X0.here hx rfl (hb hby d2_12) rfl ?_
      refine XS.bipush X0.here hx rfl (hb hby d2_13) ?_
      by_cases c3 : p1 < (97 : Int32)
      · refine XS.icmpYes X0.here hx rfl (pc0 := 15) (pc' := 28) rfl (hb hby d2_15) rfl (tlt c3).1 (by decide) (by decide) ?_
        refine XS.iconst X0.here hx rfl (hb hby d2_28) ?_
        have ej8 : j8 = (0 : Int32) := by rw [hj8, if_pos c2, if_pos c3]
        rw [ej8] at k
        exact k
      · refine XS.icmpNo X0.here hx rfl (hb hby d2_15) rfl (flt c3).1 ?_
        refine XS.iloadN X0.here hx rfl (hb hby d2_18) rfl ?_
        refine XS.bipush X0.here hx rfl (hb hby d2_19) ?_
        by_cases c4 : (122 : Int32) < p1
        · refine XS.icmpYes X0.here hx rfl (pc0 := 21) (pc' := 28) rfl (hb hby d2_21) rfl (tlt c4).2.2.1 (by decide) (by decide) ?_
          refine XS.iconst X0.here hx rfl (hb hby d2_28) ?_
          have ej8 : j8 = (0 : Int32) := by rw [hj8, if_pos c2, if_neg c3, if_pos c4]
          rw [ej8] at k
          exact k
        · refine XS.icmpNo X0.here hx rfl (hb hby d2_21) rfl (flt c4).2.2.1 ?_
          refine XS.iconst X0.here hx rfl (hb hby d2_24) ?_
          refine XS.goto X0.here hx rfl (pc0 := 25) (pc' := 29) rfl (hb hby d2_25) (by decide) (by decide) ?_
          have ej8 : j8 = (1 : Int32) := by rw [hj8, if_pos c2, if_neg c3, if_neg c4]
          rw [ej8] at k
          exact k
    · refine XS.icmpNo X0.here hx rfl (hb hby d2_3) rfl (flt c2).1 ?_
      refine XS.iloadN X0.here hx rfl (hb hby d2_6) rfl ?_
      refine XS.bipush X0.here hx rfl (hb hby d2_7) ?_
      by_cases c5 : (90 : Int32) < p1
      · refine XS.icmpNo X0.here hx rfl (hb hby d2_9) rfl (tlt c5).2.2.2 ?_
        refine XS.iloadN X0.here hx rfl (hb hby d2_12) rfl ?_
        refine XS.bipush X0.here hx rfl (hb hby d2_13) ?_
        by_cases c6 : p1 < (97 : Int32)
        · refine XS.icmpYes X0.here hx rfl (pc0 := 15) (pc' := 28) rfl (hb hby d2_15) rfl (tlt c6).1 (by decide) (by decide) ?_
          refine XS.iconst X0.here hx rfl (hb hby d2_28) ?_
          have ej8 : j8 = (0 : Int32) := by rw [hj8, if_neg c2, if_pos c5, if_pos c6]
          rw [ej8] at k
          exact k
        · refine XS.icmpNo X0.here hx rfl (hb hby d2_15) rfl (flt c6).1 ?_
          refine XS.iloadN X0.here hx rfl (hb hby d2_18) rfl ?_
          refine XS.bipush X0.here hx rfl (hb hby d2_19) ?_
          by_cases c7 : (122 : Int32) < p1
          · refine XS.icmpYes X0.here hx rfl (pc0 := 21) (pc' := 28) rfl (hb hby d2_21) rfl (tlt c7).2.2.1 (by decide) (by decide) ?_
            refine XS.iconst X0.here hx rfl (hb hby d2_28) ?_
            have ej8 : j8 = (0 : Int32) := by rw [hj8, if_neg c2, if_pos c5, if_neg c6, if_pos c7]
            rw [ej8] at k
            exact k
          · refine XS.icmpNo X0.here hx rfl (hb hby d2_21) rfl (flt c7).2.2.1 ?_
            refine XS.iconst X0.here hx rfl (hb hby d2_24) ?_
            refine XS.goto X0.here hx rfl (pc0 := 25) (pc' := 29) rfl (hb hby d2_25) (by decide) (by decide) ?_
            have ej8 : j8 = (1 : Int32) := by rw [hj8, if_neg c2, if_pos c5, if_neg c6, if_neg c7]
            rw [ej8] at k
            exact k
      · refine XS.icmpYes X0.here hx rfl (pc0 := 9) (pc' := 24) rfl (hb hby d2_9) rfl (flt c5).2.2.2 (by decide) (by decide) ?_
        refine XS.iconst X0.here hx rfl (hb hby d2_24) ?_
        refine XS.goto X0.here hx rfl (pc0 := 25) (pc' := 29) rfl (hb hby d2_25) (by decide) (by decide) ?_
        have ej8 : j8 = (1 : Int32) := by rw [hj8, if_neg c2, if_neg c5]
        rw [ej8] at k
        exact k
  have hret : j8 = own_letter p1 := by rw [hj8]; rfl
  have h01 : j8 = 0 ∨ j8 = 1 := (hj8 ▸ (own_ite01 (own_ite01 (Or.inl rfl) (own_ite01 (Or.inl rfl) (Or.inr rfl))) (own_ite01 (own_ite01 (Or.inl rfl) (own_ite01 (Or.inl rfl) (Or.inr rfl))) (Or.inr rfl))))
  obtain ⟨fs, hr, hrun, hended, hW, hsame⟩ := X0.leave (v := some (.int (own_letter p1))) (fun h => by rw [Bd.returns] at h; cases h)
  refine ⟨_, _, hG _ (pr9 _ ?_), hrun, hended, _, _, rfl, ?_, ⟨_, rfl⟩, hW, hsame.mono (by decide) (by decide)⟩
  · exact retN X0 hx (t := .boolean) Bd.returns (by simp) (hb hby d2_29) (by rw [show nar .boolean j8 = (own_letter p1) from ((own_nz h01).trans hret)]; exact hr)
  · show Q_rm2 p1 h0 n0 _ s₁.heap _
    rw [e0]
    exact ⟨rfl, N0, rfl⟩
def own_lod (p1 : Int32) : Int32 := (if (own_letter p1) = (0 : Int32) then (if p1 < (48 : Int32) then (0 : Int32) else (if (57 : Int32) < p1 then (0 : Int32) else (1 : Int32))) else (1 : Int32))
theorem ef_rm1 (m : MethodId) (x0 : Int32) : entryFrame m #[(.int x0)] 1 = mkF m 0 #[.val (.int x0)] [] := by first | (simp [entryFrame, mkF, argsToLocals, Value.category]; done) | rfl
def Q_rm1 (p1 : Int32) (h0 : Heap) (n0 : Nat) (v : Option Value) (h : Heap) (L : List Loc) : Prop := v = some (.int (own_lod p1)) ∧ Fr n0 L ∧ h = h0
set_option maxRecDepth 65536 in
set_option maxHeartbeats 40000000 in
theorem rm1 (l : Launch) (Z : State) (a0 : Array Value) (hw : ∀ d ∈ tables_1, d.before a0 Z = true) (ws : List Jvm.Cond) (p1 : Int32)  (h0 : Heap) (n0 : Nat) (Z0 : n0 ≤ h0.size)  :
    MetFree l (⟨"com/example/wirebind/wirebind/PercentEncoding", "isAsciiLetterOrDigit", "(C)Z"⟩ : MethodName) (head1 (Jvm.Cond.code (⟨"com/example/wirebind/wirebind/PercentEncoding", "isAsciiLetterOrDigit", "(C)Z"⟩ : MethodName) prog_49_method_9_code 1 (some .boolean) :: ws) ({ frames := 1, cells := 0, slots := 0, locals := 12 } : Room)) (fun a U => a = #[(.int p1)] ∧ Z.Warmed39 U.vm ∧ U.heap = h0) (fun _ _ _ _ _ => True) (fun _ U o U' => ∃ v L, o = .returned v ∧ Q_rm1 p1 h0 n0 v U'.heap L ∧ FrameEnd U o U' L ({ frames := 1, cells := 0, slots := 0, locals := 12 } : Room).cells ({ frames := 1, cells := 0, slots := 0, locals := 12 } : Room).slots) := by
  refine MetFree.of_bodySF (plainFor_of_name pn_0) hisR ?_
  intro p e s m args below meth c s₁ Bd hml0 hP hK
  obtain ⟨rfl, hZ, hh⟩ := hP
  have hx := Bd.exec
  have hby := Bd.bytes
  have hml : c.maxLocals = 1 := hml0
  have hown : s.vm.findClass "com/example/wirebind/wirebind/PercentEncoding" = some m.cls := findClass_of_methodNamed Bd.named
  have hnm := (name_of_methodNamed Bd.named Bd.method).1
  have X0 : Stand p l e ({ frames := 1, cells := 0, slots := 0, locals := 12 } : Room) s m #[(.int p1)] below meth c s₁ [] 0 0 := Stand.of_body Bd
  have e0 : s₁.heap = h0 := by rw [← hh, Bd.state]; rfl
  have N0 := Fr.nil n0
  obtain ⟨G, hG, pr0⟩ : ∃ G : State → Prop, (∀ t, G t → Steps p.tables e below (s₁.setTop (entryFrame m #[(.int p1)] 1)) t) ∧ (∀ t, Steps p.tables e below (s₁.setTop (mkF m 0 #[.val (.int p1)] [])) t → G t) := ⟨_, fun _ k => k, fun t k => castTop (ef_rm1 m p1) k⟩
  have pr10 : ∀ t, Steps p.tables e below (s₁.setTop (mkF m 1 #[.val (.int p1)] [(.int p1)])) t → G t := fun t k => pr0 t (by
      refine XS.iloadN X0.here hx rfl (hb hby d1_0) rfl ?_
      exact k)
  obtain ⟨_, _, ⟨T11, L11, k11, n11⟩, -, X11, ⟨Lc11, hQ11, l11, y11, z11⟩, st11⟩ := Jvm.LawKit.callS X0 hx (y := (⟨"com/example/wirebind/wirebind/PercentEncoding", "isAsciiLetter", "(C)Z"⟩ : MethodName)) hown (mvT hZ (hw _ (List.mem_of_getElem? (i := 4) rfl))) (mvT hZ (hw _ (List.mem_of_getElem? (i := 5) rfl))) (mvT hZ (hw _ (List.mem_of_getElem? (i := 2) rfl))) (mvT hZ (hw _ (List.mem_of_getElem? (i := 6) rfl))) (by decide) (backOf (W := 0) (rm2 l Z a0 hw [] p1 h0 n0 Z0) hZ (hw _ (List.mem_of_getElem? (i := 6) rfl)) (hw _ (List.mem_of_getElem? (i := 2) rfl)) (by decide) (by decide)) (g := (mkF m 1 #[.val (.int p1)] [(.int p1)])) rfl (by rw [hml]; rfl) (argsL := [(.int p1)]) (rest := []) (lenOf pd_0 rfl) rfl (by show 2 * 0 + _ ≤ _; exact Nat.le_of_eq rfl) (hb hby d1_1) (fun _ _ => ⟨rfl, e0, (by decide : 0 + 0 ≤ _), (by decide : 0 + 0 ≤ _)⟩)
  dsimp only [Pt.U, Pt.locs, Pt.cells, Pt.slots] at X11 l11 y11 z11 st11 hQ11
  subst l11 y11 z11
  obtain ⟨rfl, Nq11, eh11⟩ := hQ11
  have N11 := Fr.app N0 Nq11
  have pr12 : ∀ t, Steps p.tables e below (T11.setTop (mkF m 4 #[.val (.int p1)] [(.int (own_letter p1))])) t → G t := fun t k => pr10 t (st11 t k)
  obtain ⟨j16, hj16⟩ : ∃ z : Int32, z = (if (own_letter p1) = (0 : Int32) then (if p1 < (48 : Int32) then (0 : Int32) else (if (57 : Int32) < p1 then (0 : Int32) else (1 : Int32))) else (1 : Int32)) := ⟨_, rfl⟩
  have pr17 : ∀ t, Steps p.tables e below (T11.setTop (mkF m 24 #[.val (.int p1)] [(.int j16)])) t → G t := by
    intro t k
    refine pr12 t ?_
    by_cases c13 : (own_letter p1) = (0 : Int32)
    · refine XS.ifNo X11.here hx rfl (hb hby d1_4) rfl ((if0 _ _).trans (teq c13).2) ?_
      refine XS.iloadN X11.here hx rfl (hb hby d1_7) rfl ?_
      refine XS.bipush X11.here hx rfl (hb hby d1_8) ?_
      by_cases c14 : p1 < (48 : Int32)
      · refine XS.icmpYes X11.here hx rfl (pc0 := 10) (pc' := 23) rfl (hb hby d1_10) rfl (tlt c14).1 (by decide) (by decide) ?_
        refine XS.iconst X11.here hx rfl (hb hby d1_23) ?_
        have ej16 : j16 = (0 : Int32) := by rw [hj16, if_pos c13, if_pos c14]
        rw [ej16] at k
        exact k
      · refine XS.icmpNo X11.here hx rfl (hb hby d1_10) rfl (flt c14).1 ?_
        refine XS.iloadN X11.here hx rfl (hb hby d1_13) rfl ?_
        refine XS.bipush X11.here hx rfl (hb hby d1_14) ?_
        by_cases c15 : (57 : Int32) < p1
        · refine XS.icmpYes X11.here hx rfl (pc0 := 16) (pc' := 23) rfl (hb hby d1_16) rfl (tlt c15).2.2.1 (by decide) (by decide) ?_
          refine XS.iconst X11.here hx rfl (hb hby d1_23) ?_
          have ej16 : j16 = (0 : Int32) := by rw [hj16, if_pos c13, if_neg c14, if_pos c15]
          rw [ej16] at k
          exact k
        · refine XS.icmpNo X11.here hx rfl (hb hby d1_16) rfl (flt c15).2.2.1 ?_
          refine XS.iconst X11.here hx rfl (hb hby d1_19) ?_
          refine XS.goto X11.here hx rfl (pc0 := 20) (pc' := 24) rfl (hb hby d1_20) (by decide) (by decide) ?_
          have ej16 : j16 = (1 : Int32) := by rw [hj16, if_pos c13, if_neg c14, if_neg c15]
          rw [ej16] at k
          exact k
    · refine XS.ifYes X11.here hx rfl (pc0 := 4) (pc' := 19) rfl (hb hby d1_4) rfl ((if0 _ _).trans (feq c13).2) (by decide) (by decide) ?_
      refine XS.iconst X11.here hx rfl (hb hby d1_19) ?_
      refine XS.goto X11.here hx rfl (pc0 := 20) (pc' := 24) rfl (hb hby d1_20) (by decide) (by decide) ?_
      have ej16 : j16 = (1 : Int32) := by rw [hj16, if_neg c13]
      rw [ej16] at k
      exact k
  have hret : j16 = own_lod p1 := by rw [hj16]; rfl
  have h01 : j16 = 0 ∨ j16 = 1 := (hj16 ▸ (own_ite01 (own_ite01 (Or.inl rfl) (own_ite01 (Or.inl rfl) (Or.inr rfl))) (Or.inr rfl)))
  obtain ⟨fs, hr, hrun, hended, hW, hsame⟩ := X11.leave (v := some (.int (own_lod p1))) (fun h => by rw [Bd.returns] at h; cases h)
  refine ⟨_, _, hG _ (pr17 _ ?_), hrun, hended, _, _, rfl, ?_, ⟨_, rfl⟩, hW, hsame.mono (by decide) (by decide)⟩
  · exact retN X11 hx (t := .boolean) Bd.returns (by simp) (hb hby d1_24) (by rw [show nar .boolean j16 = (own_lod p1) from ((own_nz h01).trans hret)]; exact hr)
  · show Q_rm1 p1 h0 n0 _ T11.heap _
    rw [eh11]
    exact ⟨rfl, N11, rfl⟩
theorem own_law (p1 : Int32) (ch : Int32) (le : Int32) (di : Int32) (ex : Int32) (rr : Int32) (hch : ch = (p1.toUInt32.toUInt16.toUInt32.toInt32)) (hle : le = (if (ch ||| (32 : Int32)) < (97 : Int32) then (0 : Int32) else (if (122 : Int32) < (ch ||| (32 : Int32)) then (0 : Int32) else (1 : Int32)))) (hdi : di = (if (ch - (48 : Int32)) < (0 : Int32) then (0 : Int32) else (if (ch - (48 : Int32)) < (10 : Int32) then (1 : Int32) else (0 : Int32)))) (hex : ex = (if le = (0 : Int32) then (if di = (0 : Int32) then (0 : Int32) else (1 : Int32)) else (1 : Int32))) (hrr : rr = (if (own_lod ch) = ex then (1 : Int32) else (0 : Int32))) : rr = 1 := by
  obtain ⟨n, hn, e⟩ := own_char p1
  have hc : ch = Int32.ofNat n := hch.trans e
  have h32 := own_or32 n
  have hlt : n ||| 32 < 65536 + 32 := by omega
  have e1 : ch ||| 32 = Int32.ofNat (n ||| 32) := by rw [hc]; exact own_orN n 32
  have t1 : ch.toInt = n := by rw [hc]; exact own_tI (by omega)
  have t2 : (ch ||| 32).toInt = (n ||| 32 : Nat) := by rw [e1]; exact own_tI (by omega)
  have c48 : (48 : Int32).toInt = 48 := rfl
  have t3 : (ch - 48).toInt = n - 48 := by rw [own_sub (by omega) (by omega), t1, c48]
  have hl : own_letter ch = le := by
    rw [hle, own_letter]
    simp only [Int32.lt_iff_toInt_lt, t1, t2, show (97 : Int32).toInt = 97 from rfl, show (65 : Int32).toInt = 65 from rfl, show (90 : Int32).toInt = 90 from rfl, show (122 : Int32).toInt = 122 from rfl]
    repeat' split
    all_goals first | rfl | (exfalso; omega)
  have key : own_lod ch = ex := by
    rw [hex, own_lod, hl]
    have hd : di = if ch < (48 : Int32) then (0 : Int32) else (if (57 : Int32) < ch then (0 : Int32) else (1 : Int32)) := by
      rw [hdi]
      simp only [Int32.lt_iff_toInt_lt, t1, t3, show (0 : Int32).toInt = 0 from rfl, show (10 : Int32).toInt = 10 from rfl, c48, show (57 : Int32).toInt = 57 from rfl]
      repeat' split
      all_goals first | rfl | (exfalso; omega)
    rw [← hd]
    by_cases q : le = 0
    · rw [if_pos q, if_pos q]
      by_cases q2 : di = 0
      · rw [if_pos q2, q2]
      · rw [if_neg q2]
        rw [hd] at q2 ⊢
        by_cases r1 : ch < (48 : Int32)
        · rw [if_pos r1] at q2; exact absurd rfl q2
        · rw [if_neg r1] at q2 ⊢
          by_cases r2 : (57 : Int32) < ch
          · rw [if_pos r2] at q2; exact absurd rfl q2
          · rw [if_neg r2]
    · rw [if_neg q, if_neg q]
  rw [hrr, if_pos key]
theorem ef_rm0 (m : MethodId) (x0 : Int32) : entryFrame m #[(.int x0)] maxLocals = mkF m 0 #[.val (.int x0), .unset, .unset, .unset, .unset, .unset] [] := by first | (simp [entryFrame, mkF, argsToLocals, Value.category, maxLocals]; done) | rfl
def Q0 (n0 : Nat) (v : Option Value) (h : Heap) (L : List Loc) : Prop := v = some (.int 1) ∧ Fr n0 L
set_option maxRecDepth 65536 in
set_option maxHeartbeats 40000000 in
theorem rm0 (l : Launch) (Z : State) (a0 : Array Value) (hw : ∀ d ∈ tables_1, d.before a0 Z = true) (ws : List Jvm.Cond) (p1 : Int32)  (h0 : Heap) (n0 : Nat) (Z0 : n0 ≤ h0.size)  :
    MetFree l x (head1 (Jvm.Cond.code x code maxLocals ret :: ws) room_1) (fun a U => a = #[(.int p1)] ∧ Z.Warmed39 U.vm ∧ U.heap = h0) (fun _ _ _ _ _ => True) (fun _ U o U' => ∃ v L, o = .returned v ∧ Q0 n0 v U'.heap L ∧ FrameEnd U o U' L room_1.cells room_1.slots) := by
  refine MetFree.of_bodySF (plainFor_of_name pn_1) hisR ?_
  intro p e s m args below meth c s₁ Bd hml0 hP hK
  obtain ⟨rfl, hZ, hh⟩ := hP
  have hx := Bd.exec
  have hby := Bd.bytes
  have hml : c.maxLocals = 6 := hml0
  have hown : s.vm.findClass "com/example/wirebind/wirebind/PercentEncodingIsAsciiLetterOrDigitPinLaw" = some m.cls := findClass_of_methodNamed Bd.named
  have hnm := (name_of_methodNamed Bd.named Bd.method).1
  have X0 : Stand p l e room_1 s m #[(.int p1)] below meth c s₁ [] 0 0 := Stand.of_body Bd
  have e0 : s₁.heap = h0 := by rw [← hh, Bd.state]; rfl
  have N0 := Fr.nil n0
  obtain ⟨G, hG, pr0⟩ : ∃ G : State → Prop, (∀ t, G t → Steps p.tables e below (s₁.setTop (entryFrame m #[(.int p1)] maxLocals)) t) ∧ (∀ t, Steps p.tables e below (s₁.setTop (mkF m 0 #[.val (.int p1), .unset, .unset, .unset, .unset, .unset] [])) t → G t) := ⟨_, fun _ k => k, fun t k => castTop (ef_rm0 m p1) k⟩
  have pr18 : ∀ t, Steps p.tables e below (s₁.setTop (mkF m 11 #[.val (.int p1), .val (.int (p1.toUInt32.toUInt16.toUInt32.toInt32)), .val (.int ((p1.toUInt32.toUInt16.toUInt32.toInt32) ||| (32 : Int32))), .unset, .unset, .unset] [(.int (97 : Int32)), (.int ((p1.toUInt32.toUInt16.toUInt32.toInt32) ||| (32 : Int32)))])) t → G t := fun t k => pr0 t (by
      refine XS.iloadN X0.here hx rfl (hb hby at_0) rfl ?_
      refine XS.i2c X0.here hx rfl (hb hby at_1) rfl ?_
      refine XS.istoreN X0.here hx rfl (hb hby at_2) rfl (l' := #[.val (.int p1), .val (.int (p1.toUInt32.toUInt16.toUInt32.toInt32)), .unset, .unset, .unset, .unset]) rfl ?_
      refine XS.iloadN X0.here hx rfl (hb hby at_3) rfl ?_
      refine XS.bipush X0.here hx rfl (hb hby at_4) ?_
      refine XS.ior X0.here hx rfl (hb hby at_6) rfl ?_
      refine XS.istoreN X0.here hx rfl (hb hby at_7) rfl (l' := #[.val (.int p1), .val (.int (p1.toUInt32.toUInt16.toUInt32.toInt32)), .val (.int ((p1.toUInt32.toUInt16.toUInt32.toInt32) ||| (32 : Int32))), .unset, .unset, .unset]) rfl ?_
      refine XS.iloadN X0.here hx rfl (hb hby at_8) rfl ?_
      refine XS.bipush X0.here hx rfl (hb hby at_9) ?_
      exact k)
  obtain ⟨ch, hch⟩ : ∃ z : Int32, z = (p1.toUInt32.toUInt16.toUInt32.toInt32) := ⟨_, rfl⟩
  rw [← hch] at pr18
  obtain ⟨le, hle⟩ : ∃ z : Int32, z = (if (ch ||| (32 : Int32)) < (97 : Int32) then (0 : Int32) else (if (122 : Int32) < (ch ||| (32 : Int32)) then (0 : Int32) else (1 : Int32))) := ⟨_, rfl⟩
  have pr21 : ∀ t, Steps p.tables e below (s₁.setTop (mkF m 25 #[.val (.int p1), .val (.int ch), .val (.int (ch ||| (32 : Int32))), .unset, .unset, .unset] [(.int le)])) t → G t := by
    intro t k
    refine pr18 t ?_
    by_cases c19 : (ch ||| (32 : Int32)) < (97 : Int32)
    · refine XS.icmpYes X0.here hx rfl (pc0 := 11) (pc' := 24) rfl (hb hby at_11) rfl (tlt c19).1 (by decide) (by decide) ?_
      refine XS.iconst X0.here hx rfl (hb hby at_24) ?_
      have ele : le = (0 : Int32) := by rw [hle, if_pos c19]
      rw [ele] at k
      exact k
    · refine XS.icmpNo X0.here hx rfl (hb hby at_11) rfl (flt c19).1 ?_
      refine XS.iloadN X0.here hx rfl (hb hby at_14) rfl ?_
      refine XS.bipush X0.here hx rfl (hb hby at_15) ?_
      by_cases c20 : (122 : Int32) < (ch ||| (32 : Int32))
      · refine XS.icmpYes X0.here hx rfl (pc0 := 17) (pc' := 24) rfl (hb hby at_17) rfl (tlt c20).2.2.1 (by decide) (by decide) ?_
        refine XS.iconst X0.here hx rfl (hb hby at_24) ?_
        have ele : le = (0 : Int32) := by rw [hle, if_neg c19, if_pos c20]
        rw [ele] at k
        exact k
      · refine XS.icmpNo X0.here hx rfl (hb hby at_17) rfl (flt c20).2.2.1 ?_
        refine XS.iconst X0.here hx rfl (hb hby at_20) ?_
        refine XS.goto X0.here hx rfl (pc0 := 21) (pc' := 25) rfl (hb hby at_21) (by decide) (by decide) ?_
        have ele : le = (1 : Int32) := by rw [hle, if_neg c19, if_neg c20]
        rw [ele] at k
        exact k
  have pr22 : ∀ t, Steps p.tables e below (s₁.setTop (mkF m 34 #[.val (.int p1), .val (.int ch), .val (.int (ch ||| (32 : Int32))), .val (.int le), .val (.int (ch - (48 : Int32))), .unset] [(.int (ch - (48 : Int32)))])) t → G t := fun t k => pr21 t (by
      refine XS.istoreN X0.here hx rfl (hb hby at_25) rfl (l' := #[.val (.int p1), .val (.int ch), .val (.int (ch ||| (32 : Int32))), .val (.int le), .unset, .unset]) rfl ?_
      refine XS.iloadN X0.here hx rfl (hb hby at_26) rfl ?_
      refine XS.bipush X0.here hx rfl (hb hby at_27) ?_
      refine XS.isub X0.here hx rfl (hb hby at_29) rfl ?_
      refine XS.istore X0.here hx rfl (hb hby at_30) rfl (l' := #[.val (.int p1), .val (.int ch), .val (.int (ch ||| (32 : Int32))), .val (.int le), .val (.int (ch - (48 : Int32))), .unset]) rfl ?_
      refine XS.iload X0.here hx rfl (hb hby at_32) rfl ?_
      exact k)
  obtain ⟨di, hdi⟩ : ∃ z : Int32, z = (if (ch - (48 : Int32)) < (0 : Int32) then (0 : Int32) else (if (ch - (48 : Int32)) < (10 : Int32) then (1 : Int32) else (0 : Int32))) := ⟨_, rfl⟩
  have pr25 : ∀ t, Steps p.tables e below (s₁.setTop (mkF m 49 #[.val (.int p1), .val (.int ch), .val (.int (ch ||| (32 : Int32))), .val (.int le), .val (.int (ch - (48 : Int32))), .unset] [(.int di)])) t → G t := by
    intro t k
    refine pr22 t ?_
    by_cases c23 : (ch - (48 : Int32)) < (0 : Int32)
    · refine XS.ifYes X0.here hx rfl (pc0 := 34) (pc' := 48) rfl (hb hby at_34) rfl ((if0 _ _).trans (tlt c23).1) (by decide) (by decide) ?_
      refine XS.iconst X0.here hx rfl (hb hby at_48) ?_
      have edi : di = (0 : Int32) := by rw [hdi, if_pos c23]
      rw [edi] at k
      exact k
    · refine XS.ifNo X0.here hx rfl (hb hby at_34) rfl ((if0 _ _).trans (flt c23).1) ?_
      refine XS.iload X0.here hx rfl (hb hby at_37) rfl ?_
      refine XS.bipush X0.here hx rfl (hb hby at_39) ?_
      by_cases c24 : (ch - (48 : Int32)) < (10 : Int32)
      · refine XS.icmpNo X0.here hx rfl (hb hby at_41) rfl (tlt c24).2.1 ?_
        refine XS.iconst X0.here hx rfl (hb hby at_44) ?_
        refine XS.goto X0.here hx rfl (pc0 := 45) (pc' := 49) rfl (hb hby at_45) (by decide) (by decide) ?_
        have edi : di = (1 : Int32) := by rw [hdi, if_neg c23, if_pos c24]
        rw [edi] at k
        exact k
      · refine XS.icmpYes X0.here hx rfl (pc0 := 41) (pc' := 48) rfl (hb hby at_41) rfl (flt c24).2.1 (by decide) (by decide) ?_
        refine XS.iconst X0.here hx rfl (hb hby at_48) ?_
        have edi : di = (0 : Int32) := by rw [hdi, if_neg c23, if_neg c24]
        rw [edi] at k
        exact k
  have pr26 : ∀ t, Steps p.tables e below (s₁.setTop (mkF m 52 #[.val (.int p1), .val (.int ch), .val (.int (ch ||| (32 : Int32))), .val (.int le), .val (.int (ch - (48 : Int32))), .val (.int di)] [(.int ch)])) t → G t := fun t k => pr25 t (by
      refine XS.istore X0.here hx rfl (hb hby at_49) rfl (l' := #[.val (.int p1), .val (.int ch), .val (.int (ch ||| (32 : Int32))), .val (.int le), .val (.int (ch - (48 : Int32))), .val (.int di)]) rfl ?_
      refine XS.iloadN X0.here hx rfl (hb hby at_51) rfl ?_
      exact k)
  obtain ⟨_, _, ⟨T27, L27, k27, n27⟩, -, X27, ⟨Lc27, hQ27, l27, y27, z27⟩, st27⟩ := Jvm.LawKit.callS X0 hx (y := (⟨"com/example/wirebind/wirebind/PercentEncoding", "isAsciiLetterOrDigit", "(C)Z"⟩ : MethodName)) hown (mvT hZ (hw _ (List.mem_of_getElem? (i := 0) rfl))) (mvT hZ (hw _ (List.mem_of_getElem? (i := 1) rfl))) (mvT hZ (hw _ (List.mem_of_getElem? (i := 2) rfl))) (mvT hZ (hw _ (List.mem_of_getElem? (i := 3) rfl))) (by decide) (backOf (W := 0) (rm1 l Z a0 hw [] ch h0 n0 Z0) hZ (hw _ (List.mem_of_getElem? (i := 3) rfl)) (hw _ (List.mem_of_getElem? (i := 2) rfl)) (by decide) (by decide)) (g := (mkF m 52 #[.val (.int p1), .val (.int ch), .val (.int (ch ||| (32 : Int32))), .val (.int le), .val (.int (ch - (48 : Int32))), .val (.int di)] [(.int ch)])) rfl (by rw [hml]; rfl) (argsL := [(.int ch)]) (rest := []) (lenOf pd_0 rfl) rfl (by show 2 * 0 + _ ≤ _; exact Nat.le_of_eq rfl) (hb hby at_52) (fun _ _ => ⟨rfl, e0, (by decide : 0 + 0 ≤ _), (by decide : 0 + 0 ≤ _)⟩)
  dsimp only [Pt.U, Pt.locs, Pt.cells, Pt.slots] at X27 l27 y27 z27 st27 hQ27
  subst l27 y27 z27
  obtain ⟨rfl, Nq27, eh27⟩ := hQ27
  have N27 := Fr.app N0 Nq27
  have pr28 : ∀ t, Steps p.tables e below (T27.setTop (mkF m 55 #[.val (.int p1), .val (.int ch), .val (.int (ch ||| (32 : Int32))), .val (.int le), .val (.int (ch - (48 : Int32))), .val (.int di)] [(.int (own_lod ch))])) t → G t := fun t k => pr26 t (st27 t k)
  have pr29 : ∀ t, Steps p.tables e below (T27.setTop (mkF m 56 #[.val (.int p1), .val (.int ch), .val (.int (ch ||| (32 : Int32))), .val (.int le), .val (.int (ch - (48 : Int32))), .val (.int di)] [(.int le), (.int (own_lod ch))])) t → G t := fun t k => pr28 t (by
      refine XS.iloadN X27.here hx rfl (hb hby at_55) rfl ?_
      exact k)
  obtain ⟨ex, hex⟩ : ∃ z : Int32, z = (if le = (0 : Int32) then (if di = (0 : Int32) then (0 : Int32) else (1 : Int32)) else (1 : Int32)) := ⟨_, rfl⟩
  have pr32 : ∀ t, Steps p.tables e below (T27.setTop (mkF m 69 #[.val (.int p1), .val (.int ch), .val (.int (ch ||| (32 : Int32))), .val (.int le), .val (.int (ch - (48 : Int32))), .val (.int di)] [(.int ex), (.int (own_lod ch))])) t → G t := by
    intro t k
    refine pr29 t ?_
    by_cases c30 : le = (0 : Int32)
    · refine XS.ifNo X27.here hx rfl (hb hby at_56) rfl ((if0 _ _).trans (teq c30).2) ?_
      refine XS.iload X27.here hx rfl (hb hby at_59) rfl ?_
      by_cases c31 : di = (0 : Int32)
      · refine XS.ifYes X27.here hx rfl (pc0 := 61) (pc' := 68) rfl (hb hby at_61) rfl ((if0 _ _).trans (teq c31).1) (by decide) (by decide) ?_
        refine XS.iconst X27.here hx rfl (hb hby at_68) ?_
        have eex : ex = (0 : Int32) := by rw [hex, if_pos c30, if_pos c31]
        rw [eex] at k
        exact k
      · refine XS.ifNo X27.here hx rfl (hb hby at_61) rfl ((if0 _ _).trans (feq c31).1) ?_
        refine XS.iconst X27.here hx rfl (hb hby at_64) ?_
        refine XS.goto X27.here hx rfl (pc0 := 65) (pc' := 69) rfl (hb hby at_65) (by decide) (by decide) ?_
        have eex : ex = (1 : Int32) := by rw [hex, if_pos c30, if_neg c31]
        rw [eex] at k
        exact k
    · refine XS.ifYes X27.here hx rfl (pc0 := 56) (pc' := 64) rfl (hb hby at_56) rfl ((if0 _ _).trans (feq c30).2) (by decide) (by decide) ?_
      refine XS.iconst X27.here hx rfl (hb hby at_64) ?_
      refine XS.goto X27.here hx rfl (pc0 := 65) (pc' := 69) rfl (hb hby at_65) (by decide) (by decide) ?_
      have eex : ex = (1 : Int32) := by rw [hex, if_neg c30]
      rw [eex] at k
      exact k
  obtain ⟨rr, hrr⟩ : ∃ z : Int32, z = (if (own_lod ch) = ex then (1 : Int32) else (0 : Int32)) := ⟨_, rfl⟩
  have pr34 : ∀ t, Steps p.tables e below (T27.setTop (mkF m 77 #[.val (.int p1), .val (.int ch), .val (.int (ch ||| (32 : Int32))), .val (.int le), .val (.int (ch - (48 : Int32))), .val (.int di)] [(.int rr)])) t → G t := by
    intro t k
    refine pr32 t ?_
    by_cases c33 : (own_lod ch) = ex
    · refine XS.icmpNo X27.here hx rfl (hb hby at_69) rfl (teq c33).2 ?_
      refine XS.iconst X27.here hx rfl (hb hby at_72) ?_
      refine XS.goto X27.here hx rfl (pc0 := 73) (pc' := 77) rfl (hb hby at_73) (by decide) (by decide) ?_
      have err : rr = (1 : Int32) := by rw [hrr, if_pos c33]
      rw [err] at k
      exact k
    · refine XS.icmpYes X27.here hx rfl (pc0 := 69) (pc' := 76) rfl (hb hby at_69) rfl (feq c33).2 (by decide) (by decide) ?_
      refine XS.iconst X27.here hx rfl (hb hby at_76) ?_
      have err : rr = (0 : Int32) := by rw [hrr, if_neg c33]
      rw [err] at k
      exact k
  have hfin : rr = 1 := own_law p1 ch le di ex rr hch hle hdi hex hrr
  obtain ⟨fs, hr, hrun, hended, hW, hsame⟩ := X27.leave (v := some (.int 1)) (fun h => by rw [Bd.returns] at h; cases h)
  refine ⟨_, _, hG _ (pr34 _ ?_), hrun, hended, _, _, rfl, ?_, ⟨_, rfl⟩, hW, hsame.mono (by decide) (by decide)⟩
  · exact retN X27 hx (t := .boolean) Bd.returns (by simp) (hb hby at_77) (by rw [show nar .boolean rr = 1 from (by rw [hfin]; rfl)]; exact hr)
  · show Q0 n0 _ T27.heap _
    rw [eh27]
    exact ⟨rfl, N27⟩
set_option maxRecDepth 65536 in
set_option maxHeartbeats 40000000 in
theorem comes_1 {Post : Tables → Env → Array Value → State → Outcome → State → Prop} (hpost : ∀ tb e args s v u, (limb_1_1.after args s (.returned v) u = true ∧ limb_1_2.after args s (.returned v) u = true ∧ True) → FrameEnd s (.returned v) u (Jvm.fieldLocs frame_1_writes args s ++ Jvm.arrayLocs frame_1_arrays args s ++ Jvm.staticLocs frame_1_statics s) 0 0 → Post tb e args s (.returned v) u) :
    ArmFor flags0 classFile x code maxLocals ret World_1 tables_1 room_1 Calls_1 rest_1 Pre_1 Post := by
  intro l hfl _ _ p e ha hc hk s m args below hf hA hF happ hP
  obtain ⟨hcalls, hrest, hpre⟩ := hP
  obtain ⟨-, -, -, hnamed, -, -, -, hat⟩ := (Spec.applies_iff hf).mp happ
  obtain ⟨hg, hn⟩ := and_e (Cond.before_iff.mp (show (Jvm.Cond.and given_1 narrow_1).before args s = true from hpre))
  obtain ⟨hcount, g0⟩ := and_e hg
  have ga0 := g0
  obtain ⟨w0, rfl⟩ : ∃ w0 : Value, args = #[w0] := by
    have hs : args.size = 1 := by simpa [Cond.value, given_1] using hcount
    obtain ⟨L⟩ := args
    match L, hs with
    | [w0], _ => exact ⟨w0, rfl⟩
  have hw := fun d (hd : d ∈ tables_1) => atoms_spec (ws := Jvm.Cond.code x code maxLocals ret :: tables_1) hat d (List.mem_cons_of_mem _ hd)
  obtain ⟨i0, ei0⟩ := is_v ga0
  obtain rfl : w0 = (.int i0) := Option.some.inj ei0
  obtain ⟨n, o, h1, h2, h3, _, L, rfl, ⟨rfl, N⟩, hq⟩ := rm0 l s _ hw tables_1 i0  s.heap s.heap.size (Nat.le_refl _)  p e ha hc hk s m _ below hf ((Spec.applies_iff_loose hf).mp happ).1 ⟨rfl, State.Warmed39.refl s, rfl⟩ trivial
  refine ⟨n, _, h1, h2, h3, hpost _ _ _ _ _ _ ⟨Cond.after_iff.mpr rfl, Cond.after_iff.mpr (eq_i res_at (Term.int_eval (1)) rfl), trivial⟩ ⟨hq.1, hq.2.1, (hq.2.2.sift fun y hy => Or.inr (N y hy)).mono (by decide) (by decide)⟩⟩
theorem main_1_1 : Claimed_1_1 := comes_1 fun _ _ _ _ _ _ h hF => ⟨h.1, hF⟩
theorem main_1_2 : Claimed_1_2 := comes_1 fun _ _ _ _ _ _ h hF => ⟨h.2.1, hF⟩
end Jvm.Pilot.@@N@@
namespace Jvm.Pilot.@@N@@
open Jvm Jvm.ClassFile Sem Op Lib Jvm.Free Jvm.Stand Jvm.Pilot.@@N@@.Jvm.D
/-! MADE BY PROGRAM (witnessworld.py) out of the Statement's table words and the real class files: 9 classes; the members and pool entries that the words name. The judged class is class 1, her method 1. -/
namespace start1
open Jvm.ClassFile
def u (s : String) : CpInfo := .utf8 (stringToUtf16 s)
/-- a pool by its gaps: so many unusable entries, then the entry; so many at the end -/
def gap : Nat → List CpInfo → List CpInfo
  | 0, r => r
  | n + 1, r => .unusable :: gap n r
def poolList (es : List (Nat × CpInfo)) (last : Nat) : List CpInfo := es.foldr (fun e r => gap e.1 (e.2 :: r)) (gap last [])
def pool (es : List (Nat × CpInfo)) (last : Nat) : Array CpInfo := ⟨poolList es last⟩
def fileOf (pool : Array CpInfo) (this : Nat) (attrs : Array Attribute := #[]) (ms : Array MethodInfo := #[]) (fl : Nat := 33) (sup : Nat := 0) (ifs : Array Nat := #[]) (fds : Array FieldInfo := #[]) : ClassFile where
  minorVersion := 0
  majorVersion := 65
  constantPool := pool
  accessFlags := fl
  thisClass := this
  superClass := sup
  interfaces := ifs
  fields := fds
  methods := ms
  attributes := attrs
def plain (name : String) (sup : Option ClassId) : Class where
  name := name
  kind := .ordinary
  loader := none
  accessFlags := 33
  super := sup
  interfaces := #[]
  cf := none
  fields := #[]
  methods := #[]
  instanceTypes := #[]
  staticTypes := #[]
  resolved := #[]
  callSites := []
  init := .initialized
  statics := none
  mirror := none

def pool0 : Array CpInfo := pool [(5, u "<init>"), (0, u "()V"), (1, .class_ 10), (1, u "java/lang/Object")] 113

def k0m0 : Method := { name := "<init>", desc := "()V", sig := { parameters := [], returnType := none }, accessFlags := 1, code := none }
/-- java/lang/Object -/
def k0 : Class := { plain "java/lang/Object" none with
  accessFlags := 33
  interfaces := #[]
  cf := some (fileOf pool0 8 #[] #[{ accessFlags := 1, nameIndex := 5, descriptorIndex := 6, attributes := #[] }] 33 0 #[] #[])
  fields := #[]
  methods := #[k0m0]
  instanceTypes := #[]
  staticTypes := #[]
  resolved := Array.replicate 124 none
  statics := none }

def pool1 : Array CpInfo := pool [(2, .class_ 4), (1, u "java/lang/Object"), (0, u "<init>"), (0, u "()V"), (0, .methodref 8 9), (0, .class_ 10), (0, .nameAndType 11 12), (0, u "com/example/wirebind/wirebind/PercentEncoding"), (0, u "isAsciiLetterOrDigit"), (0, u "(C)Z"), (0, .class_ 14), (0, u "com/example/wirebind/wirebind/PercentEncodingIsAsciiLetterOrDigitPinLaw"), (2, u "law"), (0, u "(I)Z")] 3

def k1m0 : Method := { name := "<init>", desc := "()V", sig := { parameters := [], returnType := none }, accessFlags := 2, code := none }
def k1c1 : Code := { maxStack := 2, maxLocals := 6, code := code, exceptionTable := #[], attributes := #[] }
def k1m1 : Method := { name := "law", desc := "(I)Z", sig := { parameters := [.int], returnType := some .boolean }, accessFlags := 9, code := some k1c1 }
/-- com/example/wirebind/wirebind/PercentEncodingIsAsciiLetterOrDigitPinLaw -/
def k1 : Class := { plain "com/example/wirebind/wirebind/PercentEncodingIsAsciiLetterOrDigitPinLaw" (some 0) with
  accessFlags := 49
  interfaces := #[]
  cf := some (fileOf pool1 13 #[] #[{ accessFlags := 2, nameIndex := 5, descriptorIndex := 6, attributes := #[] }, { accessFlags := 9, nameIndex := 17, descriptorIndex := 18, attributes := #[] }] 49 2 #[] #[])
  fields := #[]
  methods := #[k1m0, k1m1]
  instanceTypes := #[]
  staticTypes := #[]
  resolved := Array.replicate 22 none
  statics := none }

def pool2 : Array CpInfo := pool [(2, .class_ 4), (1, u "java/lang/Object"), (0, u "<init>"), (0, u "()V"), (0, .class_ 8), (0, u "com/example/wirebind/wirebind/PercentEncoding"), (21, u "(C)Z"), (23, u "isAsciiLetterOrDigit"), (29, u "HEX"), (0, u "[C"), (3, .methodref 7 90), (0, .nameAndType 91 30), (0, u "isAsciiLetter"), (6, u "RESERVED_CHARACTERS"), (0, u "Ljava/lang/String;"), (1, u "PATH_CHARACTERS")] 26

def k2m0 : Method := { name := "<init>", desc := "()V", sig := { parameters := [], returnType := none }, accessFlags := 2, code := none }
def k2c1 : Code := { maxStack := 2, maxLocals := 1, code := prog_49_method_9_code, exceptionTable := #[], attributes := #[] }
def k2m1 : Method := { name := "isAsciiLetterOrDigit", desc := "(C)Z", sig := { parameters := [.char], returnType := some .boolean }, accessFlags := 8, code := some k2c1 }
def k2c2 : Code := { maxStack := 2, maxLocals := 1, code := prog_49_method_10_code, exceptionTable := #[], attributes := #[] }
def k2m2 : Method := { name := "isAsciiLetter", desc := "(C)Z", sig := { parameters := [.char], returnType := some .boolean }, accessFlags := 8, code := some k2c2 }
/-- com/example/wirebind/wirebind/PercentEncoding -/
def k2 : Class := { plain "com/example/wirebind/wirebind/PercentEncoding" (some 0) with
  accessFlags := 48
  interfaces := #[]
  cf := some (fileOf pool2 7 #[] #[{ accessFlags := 2, nameIndex := 5, descriptorIndex := 6, attributes := #[] }, { accessFlags := 8, nameIndex := 54, descriptorIndex := 30, attributes := #[] }, { accessFlags := 8, nameIndex := 91, descriptorIndex := 30, attributes := #[] }] 48 2 #[] #[{ accessFlags := 26, nameIndex := 84, descriptorIndex := 85, attributes := #[] }, { accessFlags := 26, nameIndex := 98, descriptorIndex := 99, attributes := #[] }, { accessFlags := 24, nameIndex := 101, descriptorIndex := 99, attributes := #[] }])
  fields := #[{ name := "HEX", type := (.array .char), accessFlags := 26, slot := 0, constantValue := 0 }, { name := "RESERVED_CHARACTERS", type := (.object "java/lang/String"), accessFlags := 26, slot := 1, constantValue := 0 }, { name := "PATH_CHARACTERS", type := (.object "java/lang/String"), accessFlags := 24, slot := 2, constantValue := 0 }]
  methods := #[k2m0, k2m1, k2m2]
  instanceTypes := #[]
  staticTypes := #[(.array .char), (.object "java/lang/String"), (.object "java/lang/String")]
  resolved := Array.replicate 128 none
  statics := none }

def pool3 : Array CpInfo := pool [(1, u "java/lang/Cloneable"), (0, .class_ 1), (0, u "java/lang/Object"), (0, .class_ 3)] 3

/-- java/lang/Cloneable -/
def k3 : Class := { plain "java/lang/Cloneable" (some 0) with
  accessFlags := 1537
  interfaces := #[]
  cf := some (fileOf pool3 2 #[] #[] 1537 4 #[] #[])
  fields := #[]
  methods := #[]
  instanceTypes := #[]
  staticTypes := #[]
  resolved := Array.replicate 8 none
  statics := none }

def pool4 : Array CpInfo := pool [(1, u "java/io/Serializable"), (0, .class_ 1), (0, u "java/lang/Object"), (0, .class_ 3)] 3

/-- java/io/Serializable -/
def k4 : Class := { plain "java/io/Serializable" (some 0) with
  accessFlags := 1537
  interfaces := #[]
  cf := some (fileOf pool4 2 #[] #[] 1537 4 #[] #[])
  fields := #[]
  methods := #[]
  instanceTypes := #[]
  staticTypes := #[]
  resolved := Array.replicate 8 none
  statics := none }

/-- the primitive byte -/
def k5 : Class := { plain "byte" none with kind := .primitive 'B', accessFlags := 0x411 }
/-- [B -/
def k6 : Class := { plain "[B" (some 0) with kind := .array 5 .byte, interfaces := #[3, 4], accessFlags := 1041 }

/-- the primitive int -/
def k7 : Class := { plain "int" none with kind := .primitive 'I', accessFlags := 0x411 }
/-- [I -/
def k8 : Class := { plain "[I" (some 0) with kind := .array 7 .int, interfaces := #[3, 4], accessFlags := 1041 }

def heap : Heap := #[]
def classes : Array Class := #[k0, k1, k2, k3, k4, k5, k6, k7, k8]
def interned : List (Array UInt16 × Addr) := []
def slotsUsed : Nat := 0
def theMethod : MethodId := ⟨1, 1⟩
def args0 : Array Value := #[.int 65]
def aboutOver (below : List Frame) : State where
  vm := { classes := classes, interned := interned.toArray }
  heap := heap
  slotsUsed := slotsUsed
  threads := #[{ frames := .invoking theMethod args0 :: below }]
def below0 : List Frame := [.native { method := ⟨0, 0⟩, args := #[] }]
def about1 : State := aboutOver below0
def p0 : Program := .bare "" "" ""
def e0 : Env := launch0.env 0 0 0
theorem w_frames : about1.frames = Frame.invoking theMethod args0 :: below0 := rfl
set_option maxRecDepth 65536 in
theorem w_args : argsFit about1.vm theMethod args0 = true := by decide +kernel
set_option maxRecDepth 65536 in
theorem w_heap : heapFits about1 = true := by decide +kernel
set_option maxRecDepth 65536 in
theorem w_runnable : about1.curStatus? = some .runnable := by decide +kernel
set_option maxRecDepth 65536 in
theorem w_alone : about1.alone = true := by decide +kernel
set_option maxRecDepth 65536 in
theorem w_named : about1.methodNamed? x = some theMethod := by decide +kernel
set_option maxRecDepth 65536 in
theorem w_hears : about1.hears theMethod below0 = true := by decide +kernel
set_option maxRecDepth 65536 in
theorem w_ripe : about1.ripe theMethod args0 below0 = true := by decide +kernel
theorem w_running : about1.status = .running := rfl
set_option maxRecDepth 65536 in
theorem w_room : about1.hasRoom e0.platform room_1 = true :=
  launch0.hasRoom_least _ room_1 (by decide +kernel) (by decide +kernel) (by decide +kernel) (by decide +kernel) (by decide +kernel) (by decide +kernel)
theorem allAtoms_all (ts : List Jvm.Cond) (a : Array Jvm.Value) (st : Jvm.State) : (allAtoms ts).before a st = ts.all (fun c => c.before a st) := by
  induction ts with
  | nil => rfl
  | cons c t ih =>
    show (Jvm.Cond.and c (allAtoms t)).before a st = _
    rw [Jvm.Cond.before_and, ih, List.all_cons]
def words1 : List Jvm.Cond := Jvm.Cond.code x code maxLocals ret :: tables_1
/-- a 'code' word, met by the world's own term for the bytes: nothing is compared byte by byte -/
theorem code_word {y : MethodName} {bytes : ByteArray} {mx : Nat} {rt : Option FieldType} {a : Array Value} {s : State} {m : MethodId} {meth : Method} {c : Code} (h1 : s.methodNamed? y = some m) (h2 : s.vm.method? m = some meth) (h3 : meth.code = some c) (h4 : c.code = bytes)
    (h5 : (c.maxLocals == mx && c.exceptionTable.isEmpty && decide (c.maxStack ≤ mostOperands) && decide (meth.sig.returnType = rt) && !meth.locks && decide (parseMethodDescriptor y.desc = some meth.sig)) = true) : (Jvm.Cond.code y bytes mx rt).before a s = true := by
  simp only [Bool.and_eq_true, beq_iff_eq, Bool.not_eq_true', decide_eq_true_eq] at h5
  obtain ⟨⟨⟨⟨⟨g1, g2⟩, g3⟩, g4⟩, g5⟩, g6⟩ := h5
  simp [Cond.before, Cond.holds, Cond.value, h1, h2, h3, h4, g1, g2, g3, g4, g5, g6]
def isCode : Jvm.Cond → Bool
  | .code _ _ _ _ => true
  | _ => false
theorem all_split {L : List Jvm.Cond} {P : Jvm.Cond → Bool} (h1 : L.all (fun c => isCode c || P c) = true) (h2 : ∀ c ∈ L.filter isCode, P c = true) : L.all P = true := by
  refine List.all_eq_true.mpr fun c hc => ?_
  have h := List.all_eq_true.mp h1 c hc
  rcases Bool.eq_false_or_eq_true (isCode c) with hi | hi
  · exact h2 c (List.mem_filter.mpr ⟨hc, hi⟩)
  · simpa [hi] using h
set_option maxRecDepth 65536 in
theorem w_c0 : (Jvm.Cond.code x code maxLocals ret).before args0 about1 = true := code_word (m := ⟨1, 1⟩) (meth := k1m1) (c := k1c1) (by decide +kernel) rfl rfl rfl (by decide +kernel)
set_option maxRecDepth 65536 in
theorem w_c1 : (Jvm.Cond.code ({ cls := "com/example/wirebind/wirebind/PercentEncoding", name := "isAsciiLetterOrDigit", desc := "(C)Z" } : Jvm.MethodName) prog_49_method_9_code (1 : Nat) (Option.some Jvm.ClassFile.FieldType.boolean)).before args0 about1 = true := code_word (m := ⟨2, 1⟩) (meth := k2m1) (c := k2c1) (by decide +kernel) rfl rfl rfl (by decide +kernel)
set_option maxRecDepth 65536 in
theorem w_c2 : (Jvm.Cond.code ({ cls := "com/example/wirebind/wirebind/PercentEncoding", name := "isAsciiLetter", desc := "(C)Z" } : Jvm.MethodName) prog_49_method_10_code (1 : Nat) (Option.some Jvm.ClassFile.FieldType.boolean)).before args0 about1 = true := code_word (m := ⟨2, 2⟩) (meth := k2m2) (c := k2c2) (by decide +kernel) rfl rfl rfl (by decide +kernel)
def codes1 : List Jvm.Cond := [Jvm.Cond.code x code maxLocals ret, Jvm.Cond.code ({ cls := "com/example/wirebind/wirebind/PercentEncoding", name := "isAsciiLetterOrDigit", desc := "(C)Z" } : Jvm.MethodName) prog_49_method_9_code (1 : Nat) (Option.some Jvm.ClassFile.FieldType.boolean), Jvm.Cond.code ({ cls := "com/example/wirebind/wirebind/PercentEncoding", name := "isAsciiLetter", desc := "(C)Z" } : Jvm.MethodName) prog_49_method_10_code (1 : Nat) (Option.some Jvm.ClassFile.FieldType.boolean)]
set_option maxRecDepth 65536 in
theorem codes_eq : words1.filter isCode = codes1 := rfl
theorem w_codes : ∀ c ∈ words1.filter isCode, c.before args0 about1 = true := by
  rw [codes_eq]
  intro c hc
  simp only [codes1, List.mem_cons, List.not_mem_nil, or_false] at hc
  rcases hc with rfl | rfl | rfl
  · exact w_c0
  · exact w_c1
  · exact w_c2
set_option maxRecDepth 65536 in
theorem w_t1 : words1.all (fun c => isCode c || c.before args0 about1) = true := by decide +kernel
theorem w_tables : (allAtoms (Jvm.Cond.code x code maxLocals ret :: tables_1)).before args0 about1 = true := by
  rw [allAtoms_all]
  show words1.all (fun c => c.before args0 about1) = true
  refine all_split ?_ w_codes
  rw [w_t1]
set_option maxRecDepth 65536 in
theorem w_case : (Jvm.Cond.and given_1 narrow_1).before args0 about1 = true := by decide +kernel
theorem w_applies : (headSpec (Jvm.Cond.code x code maxLocals ret :: tables_1) room_1).applies x e0.platform about1 = true :=
  (Spec.applies_iff w_frames).mpr ⟨w_running, w_runnable, w_alone, w_named, w_hears, w_ripe, w_room, w_tables⟩
theorem atStart : AtStart classFile x code maxLocals ret World_1 tables_1 room_1 Calls_1 rest_1 Pre_1 launch0 p0 e0 about1 theMethod args0 below0 :=
  ⟨lists_1, trivial, launch0.admits_env _ _ _, launch0.least_env, fairChoices_fair.cas, fairChoices_fair.clock, w_frames, w_args, w_heap, w_applies, trivial, trivial, w_case⟩
end start1
theorem witness_1 : WitnessClaimed_1 := ⟨start1.p0, start1.e0, start1.about1, start1.theMethod, start1.args0, start1.below0, start1.atStart⟩
end Jvm.Pilot.@@N@@
