import JvmDerived
import JvmDerived.Pilot.@@N@@Statement
import JvmDerived.Pilot.@@N@@Code
set_option linter.unusedVariables false
set_option linter.unusedSimpArgs false
namespace Jvm.RoadKit
open Sem ClassFile Op Lib Jvm.Stand Jvm.Free Jvm.LawKit
section New
variable {p : Program} {l : Launch} {e : Env} {R : Room} {s : State} {m : MethodId} {args : Array Value} {below : List Frame} {meth : Method} {c : Code} {T : State} {locs : List Loc} {cells slots : Nat}
theorem retI (X : Stand p l e R s m args below meth c T locs cells slots) (hx : p.tables.exec = Jvm.exec) {pc : Nat} {Ls : Array Slot} {z : Int32} {rest : List Value} (hret : meth.sig.returnType = some .int) (hd : decode c.code pc = .ok (.ireturn, 1)) {fs : List Frame}
    (hl : ∀ (f : JFrame) (acts : List Action), f.method = m → f.locked = none → f.entered = [] → (doReturn e (T.setTop f) acts (some (.int z))).1 = T.setFrames fs) : Steps p.tables e below (T.setTop (mkF m pc Ls (.int z :: rest))) (T.setFrames fs) := by
  have hm' : T.vm.method? m = some meth := X.method'
  have hn : narrow .int (.int z) = .int z := rfl
  show Steps p.tables e below (T.setTop { method := m, pc := pc, locals := Ls, stack := _ :: rest, locked := none }) _
  jvm_step X.here [X.here.top, hx, hd, hm', hret, hn]
  first | (intro acts; rw [hl _ acts rfl rfl rfl]) | rw [hl _ _ rfl rfl rfl]
  exact Steps.refl _
end New
end Jvm.RoadKit
namespace Jvm.Pilot.@@N@@
open Jvm Jvm.ClassFile Sem Op Lib Jvm.Free Jvm.Stand Jvm.LawKit Jvm.RoadKit Bundle Jvm.Pilot.@@N@@.Jvm.D
theorem own_ite01 {c : Prop} [Decidable c] {a b : Int32} (ha : a = 0 ∨ a = 1) (hb : b = 0 ∨ b = 1) : (if c then a else b) = 0 ∨ (if c then a else b) = 1 := by split <;> assumption
theorem own_nz {r : Int32} (h : r = 0 ∨ r = 1) : nar .boolean r = r := by rcases h with rfl | rfl <;> rfl
section own
variable {p : Program} {l : Launch} {e : Env} {R : Room} {s : State} {m : MethodId} {args : Array Value} {below : List Frame} {meth : Method} {c : Code} {T : State} {locs : List Loc} {cells slots : Nat} {Z : State} {h h' h0 : Heap} {a b : Addr} {k : ClassId} {ty : FieldType} {n : Int32} {vs : List Int32} {ls : List Int64} {sl : Nat} {v : Value} {ws : List Addr}
/-- an array of ints (or bytes, chars, shorts, booleans), by its list -/
def IA (Z : State) (h : Heap) (a : Addr) (k : ClassId) (ty : FieldType) (n : Int32) (vs : List Int32) : Prop := Arv Z h a k ty n (vs.map Value.int) (.int 0) ∧ vs.length = n.toNatClampNeg
def LA (Z : State) (h : Heap) (a : Addr) (k : ClassId) (n : Int32) (ls : List Int64) : Prop := Arv Z h a k .long n (ls.map Value.long) (.long 0) ∧ ls.length = n.toNatClampNeg
theorem IA.lt (F : IA Z h a k ty n vs) : a < h.size := F.1.lt
theorem IA.ext (F : IA Z h a k ty n vs) (E : Ext h h') : IA Z h' a k ty n vs := ⟨F.1.ext E, F.2⟩
theorem IA.other (F : IA Z h b k ty n vs) (W : Wr h h' a sl v) (q : b ≠ a) : IA Z h' b k ty n vs := ⟨F.1.other W q, F.2⟩
theorem IA.keep (F : IA Z h a k ty n vs) (K : Keep h h' ws) (q : a ∉ ws) : IA Z h' a k ty n vs := ⟨F.1.keep K q, F.2⟩
theorem LA.lt (F : LA Z h a k n ls) : a < h.size := F.1.lt
theorem LA.ext (F : LA Z h a k n ls) (E : Ext h h') : LA Z h' a k n ls := ⟨F.1.ext E, F.2⟩
theorem LA.other (F : LA Z h b k n ls) (W : Wr h h' a sl v) (q : b ≠ a) : LA Z h' b k n ls := ⟨F.1.other W q, F.2⟩
theorem LA.keep (F : LA Z h a k n ls) (K : Keep h h' ws) (q : a ∉ ws) : LA Z h' a k n ls := ⟨F.1.keep K q, F.2⟩
theorem IA.new (A : Arr Z h a (newA k ty n) ty) (q : ¬ n < 0) (hd : defaultValue ty = .int 0) {c : Nat} (hc : n.toNatClampNeg = c) : IA Z h a k ty n (List.replicate c 0) := by
  refine ⟨?_, by rw [List.length_replicate, hc]⟩
  have F := Arv.new A q
  rw [hd] at F
  rw [List.map_replicate]
  exact F.pad (pad_rep [] (.int 0) c)
theorem LA.new (A : Arr Z h a (newA k .long n) .long) (q : ¬ n < 0) {c : Nat} (hc : n.toNatClampNeg = c) : LA Z h a k n (List.replicate c 0) := by
  refine ⟨?_, by rw [List.length_replicate, hc]⟩
  have F : Arv Z h a k .long n [] (.long 0) := Arv.new A q
  rw [List.map_replicate]
  exact F.pad (pad_rep [] (.long 0) c)
theorem own_getI (vs : List Int32) (i : Nat) : (vs.map Value.int).getD i (.int 0) = .int (vs.getD i 0) := by
  simp only [List.getD_eq_getElem?_getD, List.getElem?_map]; cases vs[i]? <;> rfl
theorem own_getL (vs : List Int64) (i : Nat) : (vs.map Value.long).getD i (.long 0) = .long (vs.getD i 0) := by
  simp only [List.getD_eq_getElem?_getD, List.getElem?_map]; cases vs[i]? <;> rfl
theorem IA.inb {cl : Cell} {j : Int32} {i : Nat} (S : cl.slots.size = n.toNatClampNeg) (hl : vs.length = n.toNatClampNeg) (hj : j.toNatClampNeg = i) (hn : ¬ j < 0) (hi : i < vs.length) : ¬ (j < 0 ∨ cl.slots.size ≤ j.toNatClampNeg) := by
  rintro (q | q)
  · exact hn q
  · rw [S, ← hl, hj] at q; omega
theorem LA.inb {cl : Cell} {j : Int32} {i : Nat} (S : cl.slots.size = n.toNatClampNeg) (hl : ls.length = n.toNatClampNeg) (hj : j.toNatClampNeg = i) (hn : ¬ j < 0) (hi : i < ls.length) : ¬ (j < 0 ∨ cl.slots.size ≤ j.toNatClampNeg) := by
  rintro (q | q)
  · exact hn q
  · rw [S, ← hl, hj] at q; omega
theorem IA.at {cl : Cell} {j : Int32} {i : Nat} {w : Int32} (H : Has cl (vs.map Value.int) (.int 0)) (S : cl.slots.size = n.toNatClampNeg) (hl : vs.length = n.toNatClampNeg) (hj : j.toNatClampNeg = i) (hi : i < vs.length) (hw : vs.getD i 0 = w) : cl.slots[j.toNatClampNeg]? = some (.int w) := by
  rw [H _ (by rw [S, ← hl, hj]; exact hi), own_getI, hj, hw]
theorem LA.at {cl : Cell} {j : Int32} {i : Nat} {w : Int64} (H : Has cl (ls.map Value.long) (.long 0)) (S : cl.slots.size = n.toNatClampNeg) (hl : ls.length = n.toNatClampNeg) (hj : j.toNatClampNeg = i) (hi : i < ls.length) (hw : ls.getD i 0 = w) : cl.slots[j.toNatClampNeg]? = some (.long w) := by
  rw [H _ (by rw [S, ← hl, hj]; exact hi), own_getL, hj, hw]
theorem ia_ldI (X : Stand p l e R s m args below meth c T locs cells slots) (hx : p.tables.exec = Jvm.exec) (hZ : Z.Warmed39 s.vm) (eT : T.heap = h) (A : IA Z h a k .int n vs) {j : Int32} (i : Nat) (hj : j.toNatClampNeg = i) (hn : ¬ j < 0) (hi : i < vs.length) {w : Int32} (hw : vs.getD i 0 = w) {g : JFrame} (hg : g.method = m) {rest : List Value} (hs : g.stack = .int j :: .ref a :: rest) (hd : decode c.code g.pc = .ok (.iaload, 1)) (target : State)
    (q : Steps p.tables e below (T.setTop { g with pc := g.pc + 1, stack := .int w :: rest }) target) : Steps p.tables e below (T.setTop g) target := by
  obtain ⟨⟨cl, Ar, -, S, -, H, -⟩, hl⟩ := A
  exact X.iaload hx (by rw [eT]; exact Ar.1) (State.isArrayOf_alike hZ.alike Ar.2.1) Ar.2.2 (IA.inb S hl hj hn hi) (IA.at H S hl hj hi hw) hg hs hd target q
theorem ia_ldC (X : Stand p l e R s m args below meth c T locs cells slots) (hx : p.tables.exec = Jvm.exec) (hZ : Z.Warmed39 s.vm) (eT : T.heap = h) (A : IA Z h a k .char n vs) {j : Int32} (i : Nat) (hj : j.toNatClampNeg = i) (hn : ¬ j < 0) (hi : i < vs.length) {w : Int32} (hw : vs.getD i 0 = w) {g : JFrame} (hg : g.method = m) {rest : List Value} (hs : g.stack = .int j :: .ref a :: rest) (hd : decode c.code g.pc = .ok (.caload, 1)) (target : State)
    (q : Steps p.tables e below (T.setTop { g with pc := g.pc + 1, stack := .int w :: rest }) target) : Steps p.tables e below (T.setTop g) target := by
  obtain ⟨⟨cl, Ar, -, S, -, H, -⟩, hl⟩ := A
  exact X.caload hx (by rw [eT]; exact Ar.1) (State.isArrayOf_alike hZ.alike Ar.2.1) Ar.2.2 (IA.inb S hl hj hn hi) (IA.at H S hl hj hi hw) hg hs hd target q
theorem ia_ldS (X : Stand p l e R s m args below meth c T locs cells slots) (hx : p.tables.exec = Jvm.exec) (hZ : Z.Warmed39 s.vm) (eT : T.heap = h) (A : IA Z h a k .short n vs) {j : Int32} (i : Nat) (hj : j.toNatClampNeg = i) (hn : ¬ j < 0) (hi : i < vs.length) {w : Int32} (hw : vs.getD i 0 = w) {g : JFrame} (hg : g.method = m) {rest : List Value} (hs : g.stack = .int j :: .ref a :: rest) (hd : decode c.code g.pc = .ok (.saload, 1)) (target : State)
    (q : Steps p.tables e below (T.setTop { g with pc := g.pc + 1, stack := .int w :: rest }) target) : Steps p.tables e below (T.setTop g) target := by
  obtain ⟨⟨cl, Ar, -, S, -, H, -⟩, hl⟩ := A
  exact X.saload hx (by rw [eT]; exact Ar.1) (State.isArrayOf_alike hZ.alike Ar.2.1) Ar.2.2 (IA.inb S hl hj hn hi) (IA.at H S hl hj hi hw) hg hs hd target q
theorem ia_ldB (X : Stand p l e R s m args below meth c T locs cells slots) (hx : p.tables.exec = Jvm.exec) (hZ : Z.Warmed39 s.vm) (eT : T.heap = h) (A : IA Z h a k .byte n vs) {j : Int32} (i : Nat) (hj : j.toNatClampNeg = i) (hn : ¬ j < 0) (hi : i < vs.length) {w : Int32} (hw : vs.getD i 0 = w) {g : JFrame} (hg : g.method = m) {rest : List Value} (hs : g.stack = .int j :: .ref a :: rest) (hd : decode c.code g.pc = .ok (.baload, 1)) (target : State)
    (q : Steps p.tables e below (T.setTop { g with pc := g.pc + 1, stack := .int w :: rest }) target) : Steps p.tables e below (T.setTop g) target := by
  obtain ⟨⟨cl, Ar, -, S, -, H, -⟩, hl⟩ := A
  exact X.baloadBytes hx (by rw [eT]; exact Ar.1) (State.isArrayOf_alike hZ.alike Ar.2.1) Ar.2.2 (IA.inb S hl hj hn hi) (IA.at H S hl hj hi hw) hg hs hd target q
theorem ia_ldZ (X : Stand p l e R s m args below meth c T locs cells slots) (hx : p.tables.exec = Jvm.exec) (hZ : Z.Warmed39 s.vm) (eT : T.heap = h) (A : IA Z h a k .boolean n vs) {j : Int32} (i : Nat) (hj : j.toNatClampNeg = i) (hn : ¬ j < 0) (hi : i < vs.length) {w : Int32} (hw : vs.getD i 0 = w) {g : JFrame} (hg : g.method = m) {rest : List Value} (hs : g.stack = .int j :: .ref a :: rest) (hd : decode c.code g.pc = .ok (.baload, 1)) (target : State)
    (q : Steps p.tables e below (T.setTop { g with pc := g.pc + 1, stack := .int w :: rest }) target) : Steps p.tables e below (T.setTop g) target := by
  obtain ⟨⟨cl, Ar, -, S, -, H, -⟩, hl⟩ := A
  exact X.baloadBooleans hx (by rw [eT]; exact Ar.1) (State.isArrayOf_alike hZ.alike Ar.2.1) Ar.2.2 (IA.inb S hl hj hn hi) (IA.at H S hl hj hi hw) hg hs hd target q
theorem la_ldJ (X : Stand p l e R s m args below meth c T locs cells slots) (hx : p.tables.exec = Jvm.exec) (hZ : Z.Warmed39 s.vm) (eT : T.heap = h) (A : LA Z h a k n ls) {j : Int32} (i : Nat) (hj : j.toNatClampNeg = i) (hn : ¬ j < 0) (hi : i < ls.length) {w : Int64} (hw : ls.getD i 0 = w) {g : JFrame} (hg : g.method = m) {rest : List Value} (hs : g.stack = .int j :: .ref a :: rest) (hd : decode c.code g.pc = .ok (.laload, 1)) (target : State)
    (q : Steps p.tables e below (T.setTop { g with pc := g.pc + 1, stack := .long w :: rest }) target) : Steps p.tables e below (T.setTop g) target := by
  obtain ⟨⟨cl, Ar, -, S, -, H, -⟩, hl⟩ := A
  exact X.laload hx (by rw [eT]; exact Ar.1) (State.isArrayOf_alike hZ.alike Ar.2.1) Ar.2.2 (LA.inb S hl hj hn hi) (LA.at H S hl hj hi hw) hg hs hd target q
theorem ia_len (X : Stand p l e R s m args below meth c T locs cells slots) (hx : p.tables.exec = Jvm.exec) (hZ : Z.Warmed39 s.vm) (eT : T.heap = h) (A : IA Z h a k ty n vs) {g : JFrame} (hg : g.method = m) {rest : List Value} (hs : g.stack = .ref a :: rest) (hd : decode c.code g.pc = .ok (.arraylength, 1)) (target : State)
    (q : Steps p.tables e below (T.setTop { g with pc := g.pc + 1, stack := .int n :: rest }) target) : Steps p.tables e below (T.setTop g) target := by
  obtain ⟨⟨cl, Ar, -, S, N, H, -⟩, hl⟩ := A
  refine X.arraylength hx (by rw [eT]; exact Ar.1) (State.isArrayOf_alike hZ.alike Ar.2.1) hg hs hd target ?_
  rw [len_of S N]; exact q
theorem la_len (X : Stand p l e R s m args below meth c T locs cells slots) (hx : p.tables.exec = Jvm.exec) (hZ : Z.Warmed39 s.vm) (eT : T.heap = h) (A : LA Z h a k n ls) {g : JFrame} (hg : g.method = m) {rest : List Value} (hs : g.stack = .ref a :: rest) (hd : decode c.code g.pc = .ok (.arraylength, 1)) (target : State)
    (q : Steps p.tables e below (T.setTop { g with pc := g.pc + 1, stack := .int n :: rest }) target) : Steps p.tables e below (T.setTop g) target := by
  obtain ⟨⟨cl, Ar, -, S, N, H, -⟩, hl⟩ := A
  refine X.arraylength hx (by rw [eT]; exact Ar.1) (State.isArrayOf_alike hZ.alike Ar.2.1) hg hs hd target ?_
  rw [len_of S N]; exact q
theorem IA.put {cl : Cell} {j : Int32} {i : Nat} {y : Int32} (Ar : Arr Z h a cl ty) (q1 : cl.cls = k) (S : cl.slots.size = n.toNatClampNeg) (N : ¬ n < 0) (H : Has cl (vs.map Value.int) (.int 0)) (G : ∀ i, i < cl.slots.size → fits ty ((vs.map Value.int).getD i (.int 0)) = true) (hl : vs.length = n.toNatClampNeg) (hv : fits ty (.int y) = true) (W : Wr h h' a j.toNatClampNeg (.int y)) (hj : j.toNatClampNeg = i) (hi : i < vs.length) : IA Z h' a k ty n (vs.set i y) := by
  refine ⟨?_, by rw [List.length_set]; exact hl⟩
  have := Arv.set Ar q1 S N H G hv W i hj (by rw [List.length_map]; exact hi)
  rwa [← List.map_set] at this
theorem LA.put {cl : Cell} {j : Int32} {i : Nat} {y : Int64} (Ar : Arr Z h a cl .long) (q1 : cl.cls = k) (S : cl.slots.size = n.toNatClampNeg) (N : ¬ n < 0) (H : Has cl (ls.map Value.long) (.long 0)) (G : ∀ i, i < cl.slots.size → fits .long ((ls.map Value.long).getD i (.long 0)) = true) (hl : ls.length = n.toNatClampNeg) (W : Wr h h' a j.toNatClampNeg (.long y)) (hj : j.toNatClampNeg = i) (hi : i < ls.length) : LA Z h' a k n (ls.set i y) := by
  refine ⟨?_, by rw [List.length_set]; exact hl⟩
  have := Arv.set Ar q1 S N H G rfl W i hj (by rw [List.length_map]; exact hi)
  rwa [← List.map_set] at this
theorem ia_stI (X : Stand p l e R s m args below meth c T locs cells slots) (hx : p.tables.exec = Jvm.exec) (hZ : Z.Warmed39 s.vm) (eT : T.heap = h) (A : IA Z h a k .int n vs) {j : Int32} (i : Nat) (hj : j.toNatClampNeg = i) (hn : ¬ j < 0) (hi : i < vs.length) {x : Int32} {g : JFrame} (hg : g.method = m) {rest : List Value} (hs : g.stack = .int x :: .int j :: .ref a :: rest) (hd : decode c.code g.pc = .ok (.iastore, 1)) :
    ∃ T' h', Stand p l e R s m args below meth c T' (locs ++ [⟨a, j.toNatClampNeg⟩]) cells slots ∧ T'.heap = h' ∧ Wr h h' a j.toNatClampNeg (.int x) ∧ IA Z h' a k .int n (vs.set i x) ∧ ∀ target, Steps p.tables e below (T'.setTop { g with pc := g.pc + 1, stack := rest }) target → Steps p.tables e below (T.setTop g) target := by
  obtain ⟨⟨cl, Ar, q1, S, N, H, G⟩, hl⟩ := A
  obtain ⟨T', h', X', e', W, st⟩ := stI X hx hZ eT Ar (IA.inb S hl hj hn hi) hg hs hd
  exact ⟨T', h', X', e', W, IA.put Ar q1 S N H G hl rfl W hj hi, st⟩
theorem la_stJ (X : Stand p l e R s m args below meth c T locs cells slots) (hx : p.tables.exec = Jvm.exec) (hZ : Z.Warmed39 s.vm) (eT : T.heap = h) (A : LA Z h a k n ls) {j : Int32} (i : Nat) (hj : j.toNatClampNeg = i) (hn : ¬ j < 0) (hi : i < ls.length) {x : Int64} {g : JFrame} (hg : g.method = m) {rest : List Value} (hs : g.stack = .long x :: .int j :: .ref a :: rest) (hd : decode c.code g.pc = .ok (.lastore, 1)) :
    ∃ T' h', Stand p l e R s m args below meth c T' (locs ++ [⟨a, j.toNatClampNeg⟩]) cells slots ∧ T'.heap = h' ∧ Wr h h' a j.toNatClampNeg (.long x) ∧ LA Z h' a k n (ls.set i x) ∧ ∀ target, Steps p.tables e below (T'.setTop { g with pc := g.pc + 1, stack := rest }) target → Steps p.tables e below (T.setTop g) target := by
  obtain ⟨⟨cl, Ar, q1, S, N, H, G⟩, hl⟩ := A
  obtain ⟨T', h', X', e', W, st⟩ := stJ X hx hZ eT Ar (LA.inb S hl hj hn hi) hg hs hd
  exact ⟨T', h', X', e', W, LA.put Ar q1 S N H G hl W hj hi, st⟩
theorem ia_stC (X : Stand p l e R s m args below meth c T locs cells slots) (hx : p.tables.exec = Jvm.exec) (hZ : Z.Warmed39 s.vm) (eT : T.heap = h) (A : IA Z h a k .char n vs) {j : Int32} (i : Nat) (hj : j.toNatClampNeg = i) (hn : ¬ j < 0) (hi : i < vs.length) {x y : Int32} (hy : nar .char x = y) {g : JFrame} (hg : g.method = m) {rest : List Value} (hs : g.stack = .int x :: .int j :: .ref a :: rest) (hd : decode c.code g.pc = .ok (.castore, 1)) :
    ∃ T' h', Stand p l e R s m args below meth c T' (locs ++ [⟨a, j.toNatClampNeg⟩]) cells slots ∧ T'.heap = h' ∧ Wr h h' a j.toNatClampNeg (.int y) ∧ IA Z h' a k .char n (vs.set i y) ∧ ∀ target, Steps p.tables e below (T'.setTop { g with pc := g.pc + 1, stack := rest }) target → Steps p.tables e below (T.setTop g) target := by
  subst hy
  obtain ⟨⟨cl, Ar, q1, S, N, H, G⟩, hl⟩ := A
  obtain ⟨T', h', X', e', W, st⟩ := stC X hx hZ eT Ar (IA.inb S hl hj hn hi) hg hs hd
  exact ⟨T', h', X', e', W, IA.put Ar q1 S N H G hl (fits_nar_char _) W hj hi, st⟩
theorem ia_stS (X : Stand p l e R s m args below meth c T locs cells slots) (hx : p.tables.exec = Jvm.exec) (hZ : Z.Warmed39 s.vm) (eT : T.heap = h) (A : IA Z h a k .short n vs) {j : Int32} (i : Nat) (hj : j.toNatClampNeg = i) (hn : ¬ j < 0) (hi : i < vs.length) {x y : Int32} (hy : nar .short x = y) {g : JFrame} (hg : g.method = m) {rest : List Value} (hs : g.stack = .int x :: .int j :: .ref a :: rest) (hd : decode c.code g.pc = .ok (.sastore, 1)) :
    ∃ T' h', Stand p l e R s m args below meth c T' (locs ++ [⟨a, j.toNatClampNeg⟩]) cells slots ∧ T'.heap = h' ∧ Wr h h' a j.toNatClampNeg (.int y) ∧ IA Z h' a k .short n (vs.set i y) ∧ ∀ target, Steps p.tables e below (T'.setTop { g with pc := g.pc + 1, stack := rest }) target → Steps p.tables e below (T.setTop g) target := by
  subst hy
  obtain ⟨⟨cl, Ar, q1, S, N, H, G⟩, hl⟩ := A
  obtain ⟨T', h', X', e', W, st⟩ := stS X hx hZ eT Ar (IA.inb S hl hj hn hi) hg hs hd
  exact ⟨T', h', X', e', W, IA.put Ar q1 S N H G hl (fits_nar_short _) W hj hi, st⟩
theorem ia_stB (X : Stand p l e R s m args below meth c T locs cells slots) (hx : p.tables.exec = Jvm.exec) (hZ : Z.Warmed39 s.vm) (eT : T.heap = h) (A : IA Z h a k .byte n vs) {j : Int32} (i : Nat) (hj : j.toNatClampNeg = i) (hn : ¬ j < 0) (hi : i < vs.length) {x y : Int32} (hy : nar .byte x = y) {g : JFrame} (hg : g.method = m) {rest : List Value} (hs : g.stack = .int x :: .int j :: .ref a :: rest) (hd : decode c.code g.pc = .ok (.bastore, 1)) :
    ∃ T' h', Stand p l e R s m args below meth c T' (locs ++ [⟨a, j.toNatClampNeg⟩]) cells slots ∧ T'.heap = h' ∧ Wr h h' a j.toNatClampNeg (.int y) ∧ IA Z h' a k .byte n (vs.set i y) ∧ ∀ target, Steps p.tables e below (T'.setTop { g with pc := g.pc + 1, stack := rest }) target → Steps p.tables e below (T.setTop g) target := by
  subst hy
  obtain ⟨⟨cl, Ar, q1, S, N, H, G⟩, hl⟩ := A
  obtain ⟨T', h', X', e', W, st⟩ := stB X hx hZ eT Ar (IA.inb S hl hj hn hi) hg hs hd
  exact ⟨T', h', X', e', W, IA.put Ar q1 S N H G hl (fits_nar_byte _) W hj hi, st⟩
theorem ia_stZ (X : Stand p l e R s m args below meth c T locs cells slots) (hx : p.tables.exec = Jvm.exec) (hZ : Z.Warmed39 s.vm) (eT : T.heap = h) (A : IA Z h a k .boolean n vs) {j : Int32} (i : Nat) (hj : j.toNatClampNeg = i) (hn : ¬ j < 0) (hi : i < vs.length) {x y : Int32} (hy : nar .boolean x = y) {g : JFrame} (hg : g.method = m) {rest : List Value} (hs : g.stack = .int x :: .int j :: .ref a :: rest) (hd : decode c.code g.pc = .ok (.bastore, 1)) :
    ∃ T' h', Stand p l e R s m args below meth c T' (locs ++ [⟨a, j.toNatClampNeg⟩]) cells slots ∧ T'.heap = h' ∧ Wr h h' a j.toNatClampNeg (.int y) ∧ IA Z h' a k .boolean n (vs.set i y) ∧ ∀ target, Steps p.tables e below (T'.setTop { g with pc := g.pc + 1, stack := rest }) target → Steps p.tables e below (T.setTop g) target := by
  subst hy
  obtain ⟨⟨cl, Ar, q1, S, N, H, G⟩, hl⟩ := A
  obtain ⟨T', h', X', e', W, st⟩ := stZ X hx hZ eT Ar (IA.inb S hl hj hn hi) hg hs hd
  exact ⟨T', h', X', e', W, IA.put Ar q1 S N H G hl (fits_nar_bool _) W hj hi, st⟩
theorem own_out {A B : Pt} {w : Option Value} {rm : Room} {Q : Option Value → Heap → List Loc → Prop} (h : ∃ L, Q w B.U.heap L ∧ B.locs = A.locs ++ L ∧ B.cells = A.cells + rm.cells ∧ B.slots = A.slots + rm.slots) (X : Stand p l e R s m args below meth c B.U B.locs B.cells B.slots) : ∃ L, Q w B.U.heap L ∧ Stand p l e R s m args below meth c B.U (A.locs ++ L) (A.cells + rm.cells) (A.slots + rm.slots) := by
  obtain ⟨L, hQ, l, y, z⟩ := h
  rw [l, y, z] at X
  exact ⟨L, hQ, X⟩
end own
theorem own_or32 (n : Nat) : n ||| 32 = n + 32 * (1 - n / 32 % 2) := by
  have h1 : ∀ r < 64, r ||| 32 = r + 32 * (1 - r / 32 % 2) := by decide
  have h2 : n = 2 ^ 6 * (n / 64) + n % 64 := by omega
  have h3 : n % 64 < 2 ^ 6 := by omega
  have h4 : n % 64 ||| 32 < 2 ^ 6 := Nat.or_lt_two_pow h3 (by decide)
  have e : n ||| 32 = 2 ^ 6 * (n / 64) + (n % 64 ||| 32) := by
    rw [Nat.two_pow_add_eq_or_of_lt h4, ← Nat.or_assoc, ← Nat.two_pow_add_eq_or_of_lt h3, ← h2]
  have := h1 (n % 64) (by omega)
  omega
theorem own_char (x : Int32) : ∃ n : Nat, n < 65536 ∧ x.toUInt32.toUInt16.toUInt32.toInt32 = Int32.ofNat n := by
  refine ⟨x.toUInt32.toUInt16.toNat, x.toUInt32.toUInt16.toNat_lt, ?_⟩
  apply Int32.toBitVec_inj.mp
  apply BitVec.eq_of_toNat_eq
  show x.toUInt32.toUInt16.toUInt32.toNat = (BitVec.ofNat 32 _).toNat
  have := x.toUInt32.toUInt16.toNat_lt
  rw [BitVec.toNat_ofNat]
  simp only [UInt16.toNat_toUInt32]
  omega
theorem own_orN (a b : Nat) : Int32.ofNat a ||| Int32.ofNat b = Int32.ofNat (a ||| b) := by
  apply Int32.toBitVec_inj.mp
  show BitVec.ofNat 32 a ||| BitVec.ofNat 32 b = BitVec.ofNat 32 (a ||| b)
  apply BitVec.eq_of_toNat_eq
  simp [BitVec.toNat_or, Nat.or_mod_two_pow]
theorem own_tI {n : Nat} (h : n < 2147483648) : (Int32.ofNat n).toInt = n := Int32.toInt_ofNat_of_lt h
theorem own_sub {x y : Int32} (h1 : -2147483648 ≤ x.toInt - y.toInt) (h2 : x.toInt - y.toInt < 2147483648) : (x - y).toInt = x.toInt - y.toInt :=
  (Int32.toInt_sub x y).trans (Int.bmod_eq_of_le (by omega) (by omega))
theorem own_add {x y : Int32} (h1 : -2147483648 ≤ x.toInt + y.toInt) (h2 : x.toInt + y.toInt < 2147483648) : (x + y).toInt = x.toInt + y.toInt :=
  (Int32.toInt_add x y).trans (Int.bmod_eq_of_le (by omega) (by omega))
theorem own_mask31 (x : Int32) : 0 ≤ (x &&& (2147483647 : Int32)).toInt := by
  have h : (x &&& (2147483647 : Int32)).toBitVec.toNat < 2147483648 := by
    rw [Int32.toBitVec_and, BitVec.toNat_and]
    exact Nat.lt_of_le_of_lt Nat.and_le_right (by decide)
  show 0 ≤ (x &&& (2147483647 : Int32)).toBitVec.toInt
  rw [BitVec.toInt_eq_toNat_cond, if_pos (by omega)]
  omega
theorem own_lc1 (x y : Int64) : ((lcmpW x y) < (0 : Int32)) = (x < y) := by
  simp only [lcmpW, gt_iff_lt]
  by_cases h1 : y < x
  · rw [if_pos h1]
    have h2 : ¬ x < y := by rw [Int64.lt_iff_toInt_lt] at *; omega
    simp [h2]
  · rw [if_neg h1]
    by_cases h2 : x = y
    · rw [if_pos h2]; subst h2; simp
    · rw [if_neg h2]
      have h3 : x < y := by rw [← Int64.toInt_inj] at h2; rw [Int64.lt_iff_toInt_lt] at *; omega
      simp [h3]
theorem own_lc2 (x y : Int64) : ((0 : Int32) < (lcmpW x y)) = (y < x) := by
  simp only [lcmpW, gt_iff_lt]
  by_cases h1 : y < x
  · rw [if_pos h1]; simp [h1]
  · rw [if_neg h1]
    by_cases h2 : x = y
    · rw [if_pos h2]; subst h2; simp
    · rw [if_neg h2]; simp [h1]
theorem own_nn {n : Nat} (hn : n < 2147483648) : ¬ Int32.ofNat n < 0 := by
  rw [Int32.lt_iff_toInt_lt, own_tI hn, show (0 : Int32).toInt = 0 from rfl]; omega
theorem own_n32 {n : Nat} (hn : n < 2147483648) : (Int32.ofNat n).toNatClampNeg = n := by
  rw [Int32.toNatClampNeg, own_tI hn]; rfl
theorem own_ofI {x : Int32} (h : 0 ≤ x.toInt) : x = Int32.ofNat x.toInt.toNat := by
  apply Int32.toInt_inj.mp
  have := x.toInt_lt
  rw [own_tI (by omega)]; omega
/-- Java's x % d for x that isn't negative -/
theorem own_rem (x d : Int32) (hx : 0 ≤ x.toInt) (hd : 0 < d.toInt) : (x - (x / d) * d).toInt = x.toInt % d.toInt := by
  have b1 := x.toInt_lt; have b2 := d.toInt_lt
  have hq : (x / d).toInt = x.toInt / d.toInt := by
    rw [Int32.toInt_div, Int.tdiv_eq_ediv_of_nonneg hx]
    have h1 : 0 ≤ x.toInt / d.toInt := Int.ediv_nonneg hx (Int.le_of_lt hd)
    have h2 : x.toInt / d.toInt ≤ x.toInt := Int.ediv_le_self _ hx
    exact Int.bmod_eq_of_le (by omega) (by omega)
  have hm : (x / d * d).toInt = x.toInt / d.toInt * d.toInt := by
    rw [Int32.toInt_mul, hq]
    have h1 : 0 ≤ x.toInt / d.toInt * d.toInt := Int.mul_nonneg (Int.ediv_nonneg hx (Int.le_of_lt hd)) (Int.le_of_lt hd)
    have h2 : x.toInt / d.toInt * d.toInt ≤ x.toInt := Int.ediv_mul_le _ (by omega)
    exact Int.bmod_eq_of_le (by omega) (by omega)
  have h3 := Int.emod_add_mul_ediv x.toInt d.toInt
  rw [Int.mul_comm] at h3
  have h4 := Int.emod_nonneg x.toInt (show d.toInt ≠ 0 by omega)
  have h5 := Int.emod_lt_of_pos x.toInt hd
  rw [own_sub (by omega) (by omega), hm]; omega
theorem own_ix {p : Int32} {i j : Nat} (hk : p = Int32.ofNat i) (hb : i + j < 2147483648) : (p + Int32.ofNat j).toNatClampNeg = i + j ∧ ¬ (p + Int32.ofNat j) < 0 := by
  subst hk; rw [← Int32.ofNat_add]; exact ⟨own_n32 hb, own_nn hb⟩
theorem own_narB (x : Int32) : nar .byte (x.toInt8.toInt32) = x.toInt8.toInt32 := by
  show x.toInt8.toInt32.toInt8.toInt32 = x.toInt8.toInt32
  rw [Int8.toInt8_toInt32]
theorem own_lc0 (x : Int64) : (lcmpW x x) = (0 : Int32) := by simp [lcmpW]
theorem own_ltN {i j : Nat} (h : i < j) (hj : j < 2147483648) : Int32.ofNat i < Int32.ofNat j := by
  rw [Int32.lt_iff_toInt_lt, own_tI (by omega), own_tI hj]; omega
theorem own_nltN {i j : Nat} (h : ¬ i < j) (hi : i < 1000000) (hj : j < 1000000) : ¬ Int32.ofNat i < Int32.ofNat j := by
  rw [Int32.lt_iff_toInt_lt, own_tI (by omega), own_tI (by omega)]; omega
theorem own_one {i : Nat} : Int32.ofNat i + (1 : Int32) = Int32.ofNat (i + 1) := (Int32.ofNat_add i 1).symm
theorem own_andN (x : Int32) (k : Nat) (hk : k < 2147483648) : ∃ q : Nat, q ≤ k ∧ (x &&& Int32.ofNat k) = Int32.ofNat q := by
  refine ⟨(x &&& Int32.ofNat k).toBitVec.toNat, ?_, ?_⟩
  · rw [Int32.toBitVec_and, BitVec.toNat_and]
    refine Nat.le_trans Nat.and_le_right ?_
    show (BitVec.ofNat 32 k).toNat ≤ k
    rw [BitVec.toNat_ofNat]; exact Nat.mod_le _ _
  · apply Int32.toBitVec_inj.mp
    show _ = BitVec.ofNat 32 _
    rw [BitVec.ofNat_toNat]; simp
theorem own_mid {i j : Nat} (h : i + j < 2147483648) : ((Int32.ofNat i + Int32.ofNat j).toUInt32 >>> ((1 : Int32) &&& 31).toUInt32).toInt32 = Int32.ofNat ((i + j) / 2) := by
  rw [← Int32.ofNat_add]
  apply Int32.toBitVec_inj.mp
  show (BitVec.ofNat 32 (i + j)) >>> _ = BitVec.ofNat 32 ((i + j) / 2)
  apply BitVec.eq_of_toNat_eq
  rw [show (((1 : Int32) &&& 31).toUInt32.mod 32).toBitVec = 1#32 from by decide]
  rw [BitVec.toNat_ofNat, show (BitVec.ofNat 32 (i + j) >>> 1#32).toNat = (BitVec.ofNat 32 (i + j)).toNat >>> 1 from rfl, BitVec.toNat_ofNat, Nat.shiftRight_eq_div_pow]
  omega
theorem own_ofinj {a b : Nat} (ha : a < 2147483648) (hb : b < 2147483648) (h : Int32.ofNat a = Int32.ofNat b) : a = b := by
  have := congrArg Int32.toInt h
  rw [own_tI ha, own_tI hb] at this; omega
theorem own_tL {n : Nat} (h : n < 9223372036854775808) : (Int64.ofNat n).toInt = n := Int64.toInt_ofNat_of_lt h
theorem own_ofL {x : Int64} (h : 0 ≤ x.toInt) : x = Int64.ofNat x.toInt.toNat := by
  apply Int64.toInt_inj.mp
  have := x.toInt_lt
  rw [own_tL (by omega)]; omega
theorem own_addL {a b : Nat} : Int64.ofNat a + Int64.ofNat b = Int64.ofNat (a + b) := (Int64.ofNat_add a b).symm
theorem own_mulL {a b : Nat} : Int64.ofNat a * Int64.ofNat b = Int64.ofNat (a * b) := (Int64.ofNat_mul a b).symm
theorem own_divL {a b : Nat} (ha : a < 9223372036854775808) (hb : b < 9223372036854775808) : Int64.ofNat a / Int64.ofNat b = Int64.ofNat (a / b) := by
  apply Int64.toInt_inj.mp
  have hq : a / b ≤ a := Nat.div_le_self _ _
  rw [Int64.toInt_div, own_tL ha, own_tL hb, own_tL (by omega), ← Int.ofNat_tdiv]
  generalize a / b = q at *
  exact Int.bmod_eq_of_le (by omega) (by omega)
theorem own_remL {a b : Nat} (ha : a < 9223372036854775808) (hb : b < 9223372036854775808) : Int64.ofNat a - (Int64.ofNat a / Int64.ofNat b) * Int64.ofNat b = Int64.ofNat (a % b) := by
  rw [own_divL ha hb, own_mulL]
  have h1 : a / b * b ≤ a := Nat.div_mul_le_self _ _
  have h2 : a % b ≤ a := Nat.mod_le _ _
  have h3 := Nat.mod_add_div a b
  rw [Nat.mul_comm] at h3
  apply Int64.toInt_inj.mp
  rw [Int64.toInt_sub, own_tL ha, own_tL (by omega), own_tL (by omega)]
  rw [Int.bmod_eq_of_le (by omega) (by omega)]
  omega
theorem own_mask63 (x : Int64) : 0 ≤ (x &&& (9223372036854775807 : Int64)).toInt := by
  have h : (x &&& (9223372036854775807 : Int64)).toBitVec.toNat < 9223372036854775808 := by
    rw [Int64.toBitVec_and, BitVec.toNat_and]
    exact Nat.lt_of_le_of_lt Nat.and_le_right (by decide)
  show 0 ≤ (x &&& (9223372036854775807 : Int64)).toBitVec.toInt
  rw [BitVec.toInt_eq_toNat_cond, if_pos (by omega)]
  omega
section own2
variable {p : Program} {l : Launch} {e : Env} {R : Room} {s : State} {m : MethodId} {args : Array Value} {below : List Frame} {meth : Method} {c : Code} {T : State} {locs : List Loc} {cells slots : Nat} {Z : State} {a0 : Array Value} {h h' h0 : Heap} {a b : Addr} {vs us : List Int32} {sl : Nat} {v : Value} {ws : List Addr}
/-- a byte[] by its list -/
def BA (Z : State) (h : Heap) (a : Addr) (vs : List Int32) : Prop := (∃ k, IA Z h a k .byte (Int32.ofNat vs.length) vs) ∧ Exa Z h a "[B" ∧ vs.length < 1000000
theorem BA.lt (F : BA Z h a vs) : a < h.size := F.2.1.lt
theorem BA.ext (F : BA Z h a vs) (E : Ext h h') : BA Z h' a vs := by obtain ⟨⟨k, A⟩, X, q⟩ := F; exact ⟨⟨k, A.ext E⟩, X.ext E, q⟩
theorem BA.other (F : BA Z h b vs) (W : Wr h h' a sl v) (q : b ≠ a) : BA Z h' b vs := by obtain ⟨⟨k, A⟩, X, r⟩ := F; exact ⟨⟨k, A.other W q⟩, X.wr W, r⟩
theorem BA.keep (F : BA Z h a vs) (K : Keep h h' ws) (q : a ∉ ws) : BA Z h' a vs := by obtain ⟨⟨k, A⟩, X, r⟩ := F; exact ⟨⟨k, A.keep K q⟩, X.keep K, r⟩
theorem BA.eq (F : BA Z h a vs) (q : vs = us) : BA Z h a us := q ▸ F
theorem ba_ld (X : Stand p l e R s m args below meth c T locs cells slots) (hx : p.tables.exec = Jvm.exec) (hZ : Z.Warmed39 s.vm) (eT : T.heap = h) (A : BA Z h a vs) {j : Int32} (i : Nat) (hj : j = Int32.ofNat i) (hi : i < vs.length) {w : Int32} (hw : vs.getD i 0 = w) {g : JFrame} (hg : g.method = m) {rest : List Value} (hs : g.stack = .int j :: .ref a :: rest) (hd : decode c.code g.pc = .ok (.baload, 1)) (target : State)
    (q : Steps p.tables e below (T.setTop { g with pc := g.pc + 1, stack := .int w :: rest }) target) : Steps p.tables e below (T.setTop g) target := by
  obtain ⟨⟨k, A⟩, E, r⟩ := A
  exact ia_ldB X hx hZ eT A i (by rw [hj]; exact own_n32 (by omega)) (by rw [hj]; exact own_nn (by omega)) hi hw hg hs hd target q
theorem ba_len (X : Stand p l e R s m args below meth c T locs cells slots) (hx : p.tables.exec = Jvm.exec) (hZ : Z.Warmed39 s.vm) (eT : T.heap = h) (A : BA Z h a vs) {g : JFrame} (hg : g.method = m) {rest : List Value} (hs : g.stack = .ref a :: rest) (hd : decode c.code g.pc = .ok (.arraylength, 1)) (target : State)
    (q : Steps p.tables e below (T.setTop { g with pc := g.pc + 1, stack := .int (Int32.ofNat vs.length) :: rest }) target) : Steps p.tables e below (T.setTop g) target := by
  obtain ⟨⟨k, A⟩, E, r⟩ := A
  exact ia_len X hx hZ eT A hg hs hd target q
theorem ba_st (X : Stand p l e R s m args below meth c T locs cells slots) (hx : p.tables.exec = Jvm.exec) (hZ : Z.Warmed39 s.vm) (eT : T.heap = h) (A : BA Z h a vs) {j : Int32} (i : Nat) (hj : j = Int32.ofNat i) (hi : i < vs.length) {x y : Int32} (hy : nar .byte x = y) {g : JFrame} (hg : g.method = m) {rest : List Value} (hs : g.stack = .int x :: .int j :: .ref a :: rest) (hd : decode c.code g.pc = .ok (.bastore, 1)) :
    ∃ T' h', Stand p l e R s m args below meth c T' (locs ++ [⟨a, j.toNatClampNeg⟩]) cells slots ∧ T'.heap = h' ∧ Wr h h' a j.toNatClampNeg (.int y) ∧ BA Z h' a (vs.set i y) ∧ ∀ target, Steps p.tables e below (T'.setTop { g with pc := g.pc + 1, stack := rest }) target → Steps p.tables e below (T.setTop g) target := by
  obtain ⟨⟨k, A⟩, E, r⟩ := A
  obtain ⟨T', h', X', e', W, V, st⟩ := ia_stB X hx hZ eT A i (by rw [hj]; exact own_n32 (by omega)) (by rw [hj]; exact own_nn (by omega)) hi hy hg hs hd
  exact ⟨T', h', X', e', W, ⟨⟨k, by rw [List.length_set]; exact V⟩, E.wr W, by rw [List.length_set]; exact r⟩, st⟩
theorem ba_new (X : Stand p l e R s m args below meth c T locs cells slots) (hx : p.tables.exec = Jvm.exec) (hZ : Z.Warmed39 s.vm) (w : (Cond.arrayClass .byte).before a0 Z = true) (eT : T.heap = h) {g : JFrame} (hg : g.method = m) (hd : decode c.code g.pc = .ok (.newarray .byte, 2)) {n : Int32} {rest : List Value} (hs : g.stack = .int n :: rest)
    {N : Nat} (hn : n = Int32.ofNat N) {cap : Nat} (hcap : N ≤ cap) (hb : cap ≤ 10000) (hc : cells + 1 ≤ R.cells) (hl : slots + cap ≤ R.slots) :
    ∃ T' h', Stand p l e R s m args below meth c T' locs (cells + 1) (slots + cap) ∧ T'.heap = h' ∧ Ext h h' ∧ BA Z h' h.size (List.replicate N 0) ∧
      ∀ target, Steps p.tables e below (T'.setTop { g with pc := g.pc + 2, stack := .ref h.size :: rest }) target → Steps p.tables e below (T.setTop g) target := by
  have e1 : n.toNatClampNeg = N := by rw [hn]; exact own_n32 (by omega)
  have e2 : ¬ n < 0 := by rw [hn]; exact own_nn (by omega)
  obtain ⟨T', h', cA, X', e', E, A, B, st⟩ := newPE X hx hZ (aty := .byte) w eT hg hd hs e2 (cap := cap) (by omega) (by omega) hc hl (ad := "[B") rfl
  refine ⟨T', h', X', e', E, ⟨⟨cA, ?_⟩, B, by rw [List.length_replicate]; omega⟩, st⟩
  rw [List.length_replicate, ← hn]
  exact IA.new A e2 rfl e1
theorem ba_clone (X : Stand p l e R s m args below meth c T locs cells slots) (hx : p.tables.exec = Jvm.exec) (hZ : Z.Warmed39 s.vm) {own : String} {index : Nat} (hown : s.vm.findClass own = some m.cls)
    (w1 : (Cond.methodLink own index ⟨"[B", "clone", "()Ljava/lang/Object;"⟩).before a0 Z = true) (w2 : (Cond.sameMethod "[B" "java/lang/Object" "clone" "()Ljava/lang/Object;").before a0 Z = true) (w3 : (Cond.native ⟨"java/lang/Object", "clone", "()Ljava/lang/Object;"⟩).before a0 Z = true)
    (w4 : (Cond.instanceMethod ⟨"java/lang/Object", "clone", "()Ljava/lang/Object;"⟩).before a0 Z = true) (w5 : (Cond.selects "[B" ⟨"[B", "clone", "()Ljava/lang/Object;"⟩ ⟨"java/lang/Object", "clone", "()Ljava/lang/Object;"⟩).before a0 Z = true) (w6 : (Cond.castable "[B" "java/lang/Cloneable").before a0 Z = true)
    (eT : T.heap = h) (A : BA Z h a vs) {g : JFrame} (hg : g.method = m) (hsize : g.locals.size = c.maxLocals) {rest : List Value} (hst : g.stack = .ref a :: rest) (hd : decode c.code g.pc = .ok (.invokevirtual index, 3))
    (hf : 1 ≤ R.frames) {W cap : Nat} (hW : 2 * g.monitorRoom + (rest.map fun v => v.category).sum ≤ W) (hl : W + 14 ≤ R.locals) (hcap : vs.length ≤ cap) (hc : cells + 1 ≤ R.cells) (hsl : slots + cap ≤ R.slots) :
    ∃ T' h', Stand p l e R s m args below meth c T' locs (cells + 1) (slots + cap) ∧ T'.heap = h' ∧ Ext h h' ∧ BA Z h' h.size vs ∧
      ∀ target, Steps p.tables e below (T'.setTop { g with pc := g.pc + 3, stack := .ref h.size :: rest }) target → Steps p.tables e below (T.setTop g) target := by
  obtain ⟨⟨k, ⟨⟨cl, Ar, q1, S, q3, H, G⟩, hl2⟩⟩, E, r⟩ := A
  have FC : FitC Z cl := fitC_of Ar fun i hi v hv => by rw [H i hi] at hv; cases hv; exact G i hi
  obtain ⟨T', h', X', e', ex, A', E', st⟩ := cloneA X hx hZ hown w1 w2 w3 w4 w5 w6 eT Ar E FC hg hsize hst hd hf hW hl (by rw [S, own_n32 (by omega)]; exact hcap) hc hsl
  exact ⟨T', h', X', e', ex, ⟨⟨k, ⟨cloneOf cl, A', q1, S, q3, H, G⟩, hl2⟩, E', r⟩, st⟩
theorem own_stretch (vs : List Int32) (sp n : Nat) (h : sp + n ≤ vs.length) : ((List.range n).map fun i => (vs.map Value.int).getD (sp + i) (.int 0)) = ((vs.drop sp).take n).map Value.int := by
  apply List.ext_getElem?
  intro i
  by_cases q : i < n
  · rw [List.getElem?_map, List.getElem?_range q, List.getElem?_map, List.getElem?_take_of_lt q, List.getElem?_drop]
    simp only [Option.map_some, own_getI]
    rw [List.getD_eq_getElem?_getD, List.getElem?_eq_getElem (by omega)]; rfl
  · rw [List.getElem?_eq_none (by simp; omega), List.getElem?_eq_none (by simp; omega)]
theorem ba_copy (X : Stand p l e R s m args below meth c T locs cells slots) (hx : p.tables.exec = Jvm.exec) (hZ : Z.Warmed39 s.vm) {own : String} {index : Nat} (hown : s.vm.findClass own = some m.cls)
    (w1 : (Cond.methodLink own index Jvm.Stand.acN).before a0 Z = true) (w2 : (Cond.native Jvm.Stand.acN).before a0 Z = true) (w3 : (Cond.static Jvm.Stand.acN).before a0 Z = true) (w4 : (Cond.initialized "java/lang/System").before a0 Z = true) (eT : T.heap = h)
    (A : BA Z h a vs) (B : BA Z h b us) {sp dp nn : Int32} {i j n : Nat} (e1 : sp = Int32.ofNat i) (e2 : dp = Int32.ofNat j) (e3 : nn = Int32.ofNat n) (h4 : i + n ≤ vs.length) (h5 : j + n ≤ us.length) {n0 : Nat} (N : Fr n0 locs) (ge : n0 ≤ b)
    {g : JFrame} (hg : g.method = m) (hsize : g.locals.size = c.maxLocals) {rest : List Value} (hs : g.stack = .int nn :: .int dp :: .ref b :: .int sp :: .ref a :: rest) (hd : decode c.code g.pc = .ok (.invokestatic index, 3))
    (hf : 1 ≤ R.frames) {W : Nat} (hW : 2 * g.monitorRoom + (rest.map fun v => v.category).sum ≤ W) (hlo : W + (nativeFrameWords "java/lang/System" "arraycopy" 5 + 11) ≤ R.locals) :
    ∃ T' h' L, Stand p l e R s m args below meth c T' L cells slots ∧ T'.heap = h' ∧ Fr n0 L ∧ Keep h h' [b] ∧ BA Z h' b (us.take j ++ (vs.drop i).take n ++ us.drop (j + n)) ∧
      ∀ target, Steps p.tables e below (T'.setTop { g with pc := g.pc + 3, stack := rest }) target → Steps p.tables e below (T.setTop g) target := by
  obtain ⟨⟨k, A, la⟩, E, r⟩ := A
  obtain ⟨⟨k', B, lb⟩, E', r'⟩ := B
  have f1 : sp.toNatClampNeg = i := by rw [e1]; exact own_n32 (by omega)
  have f2 : dp.toNatClampNeg = j := by rw [e2]; exact own_n32 (by omega)
  have f3 : nn.toNatClampNeg = n := by rw [e3]; exact own_n32 (by omega)
  have f4 : (Int32.ofNat vs.length).toNatClampNeg = vs.length := own_n32 (by omega)
  have f5 : (Int32.ofNat us.length).toNatClampNeg = us.length := own_n32 (by omega)
  obtain ⟨T', h', L, X', e', N', K, V, st⟩ := cpA X hx hZ hown w1 w2 w3 w4 eT A B (Or.inl ⟨rfl, rfl⟩) (sp := sp) (dp := dp) (nn := nn) (by rw [e1]; exact own_nn (by omega)) (by rw [e2]; exact own_nn (by omega)) (by rw [e3]; exact own_nn (by omega)) (by rw [f1, f3, f4]; exact h4) (by rw [f2, f3, f5]; exact h5) rfl (by rw [f2, f3, List.length_map]; exact h5) N ge hg hsize hs hd hf hW hlo
  have hlen : (us.take j ++ (vs.drop i).take n ++ us.drop (j + n)).length = us.length := by
    simp only [List.length_append, List.length_take, List.length_drop]; omega
  refine ⟨T', h', L, X', e', N', K, ⟨⟨k', ?_, ?_⟩, E'.keep K, by rw [hlen]; exact r'⟩, st⟩
  · rw [hlen, List.map_append, List.map_append, List.map_take, List.map_drop, ← own_stretch vs i n h4]
    rw [f1, f2, f3] at V
    exact V
  · rw [hlen, f5]
/-- a static's value, its cell among the old ones -/
def SN (Z : State) (n0 : Nat) (h : Heap) (C n d : String) (v : Value) : Prop := ∃ (cf i : Nat) (k : Class) (f : Field) (st : Addr) (cell : Cell), Z.fieldFound? C n d = some (cf, k, i, f) ∧ f.isStatic = true ∧ k.init = .initialized ∧ k.statics = some st ∧ h[st]? = some cell ∧ cell.vm.isStatics = true ∧ cell.slots[f.slot]? = some v ∧ st < n0
variable {C n d : String} {n0 : Nat}
theorem SN.sta (F : SN Z n0 h C n d v) : Sta Z h C n d v := by obtain ⟨cf, i, k, f, st, cell, h1, h2, h3, h4, h5, h6, h7, -⟩ := F; exact ⟨cf, i, k, f, st, cell, h1, h2, h3, h4, h5, h6, h7⟩
theorem SN.of (F : Sta Z h C n d v) (q : h.size ≤ n0) : SN Z n0 h C n d v := by obtain ⟨cf, i, k, f, st, cell, h1, h2, h3, h4, h5, h6, h7⟩ := F; exact ⟨cf, i, k, f, st, cell, h1, h2, h3, h4, h5, h6, h7, Nat.lt_of_lt_of_le (Array.getElem?_eq_some_iff.mp h5).1 q⟩
theorem SN.ext (F : SN Z n0 h C n d v) (E : Ext h h') : SN Z n0 h' C n d v := by obtain ⟨cf, i, k, f, st, cell, h1, h2, h3, h4, h5, r⟩ := F; exact ⟨cf, i, k, f, st, cell, h1, h2, h3, h4, E.2 _ _ h5, r⟩
theorem SN.keep (F : SN Z n0 h C n d v) (K : Keep h h' ws) (q : ∀ x ∈ ws, n0 ≤ x) : SN Z n0 h' C n d v := by
  obtain ⟨cf, i, k, f, st, cell, h1, h2, h3, h4, h5, h6, h7, h8⟩ := F
  exact ⟨cf, i, k, f, st, cell, h1, h2, h3, h4, K.2.1 _ _ h5 fun y => absurd (q _ y) (Nat.not_le.mpr h8), h6, h7, h8⟩
theorem SN.wr {v' : Value} (F : SN Z n0 h C n d v) (W : Wr h h' a sl v') : SN Z n0 h' C n d v := by
  obtain ⟨cf, i, k, f, st, cell, h1, h2, h3, h4, h5, h6, h7, h8⟩ := F
  obtain ⟨c', e1, -, -, -, e5, -, e7⟩ := wr_at W h5
  have ne : st ≠ a := fun e => by rw [(e7 e).2.2] at h6; cases h6
  exact ⟨cf, i, k, f, st, cell, h1, h2, h3, h4, by rw [← e5 ne]; exact e1, h6, h7, h8⟩
end own2
section own3
variable {p : Program} {l : Launch} {e : Env} {R : Room} {s : State} {m : MethodId} {args : Array Value} {below : List Frame} {meth : Method} {c : Code} {T : State} {locs : List Loc} {cells slots : Nat} {Z : State} {a0 : Array Value} {h h' h0 : Heap} {a b : Addr} {vs us : List Int32} {sl : Nat} {v : Value} {ws : List Addr} {n0 : Nat} {fv : Value} {cs : Int32}
/-- a char[] by its list -/
def CA (Z : State) (h : Heap) (a : Addr) (vs : List Int32) : Prop := (∃ k, IA Z h a k .char (Int32.ofNat vs.length) vs) ∧ vs.length < 1000000
theorem CA.lt (F : CA Z h a vs) : a < h.size := by obtain ⟨⟨k, A⟩, -⟩ := F; exact A.lt
theorem CA.ext (F : CA Z h a vs) (E : Ext h h') : CA Z h' a vs := by obtain ⟨⟨k, A⟩, q⟩ := F; exact ⟨⟨k, A.ext E⟩, q⟩
theorem CA.other (F : CA Z h b vs) (W : Wr h h' a sl v) (q : b ≠ a) : CA Z h' b vs := by obtain ⟨⟨k, A⟩, r⟩ := F; exact ⟨⟨k, A.other W q⟩, r⟩
theorem CA.keep (F : CA Z h a vs) (K : Keep h h' ws) (q : a ∉ ws) : CA Z h' a vs := by obtain ⟨⟨k, A⟩, r⟩ := F; exact ⟨⟨k, A.keep K q⟩, r⟩
theorem ca_ld (X : Stand p l e R s m args below meth c T locs cells slots) (hx : p.tables.exec = Jvm.exec) (hZ : Z.Warmed39 s.vm) (eT : T.heap = h) (A : CA Z h a vs) {j : Int32} (i : Nat) (hj : j = Int32.ofNat i) (hi : i < vs.length) {w : Int32} (hw : vs.getD i 0 = w) {g : JFrame} (hg : g.method = m) {rest : List Value} (hs : g.stack = .int j :: .ref a :: rest) (hd : decode c.code g.pc = .ok (.caload, 1)) (target : State)
    (q : Steps p.tables e below (T.setTop { g with pc := g.pc + 1, stack := .int w :: rest }) target) : Steps p.tables e below (T.setTop g) target := by
  obtain ⟨⟨k, A⟩, r⟩ := A
  exact ia_ldC X hx hZ eT A i (by rw [hj]; exact own_n32 (by omega)) (by rw [hj]; exact own_nn (by omega)) hi hw hg hs hd target q
theorem ca_len (X : Stand p l e R s m args below meth c T locs cells slots) (hx : p.tables.exec = Jvm.exec) (hZ : Z.Warmed39 s.vm) (eT : T.heap = h) (A : CA Z h a vs) {g : JFrame} (hg : g.method = m) {rest : List Value} (hs : g.stack = .ref a :: rest) (hd : decode c.code g.pc = .ok (.arraylength, 1)) (target : State)
    (q : Steps p.tables e below (T.setTop { g with pc := g.pc + 1, stack := .int (Int32.ofNat vs.length) :: rest }) target) : Steps p.tables e below (T.setTop g) target := by
  obtain ⟨⟨k, A⟩, r⟩ := A
  exact ia_len X hx hZ eT A hg hs hd target q
/-- the JDK's statics that strings read -/
def JS (Z : State) (n0 : Nat) (h : Heap) (fv : Value) (cs : Int32) : Prop := SN Z n0 h "java/lang/String" "COMPACT_STRINGS" "Z" (.int cs) ∧ ¬ cs = 0 ∧ SN Z n0 h "jdk/internal/util/Preconditions" "SIOOBE_FORMATTER" "Ljava/util/function/BiFunction;" fv ∧ fv.isRef = true ∧ SN Z n0 h "java/lang/StringUTF16" "$assertionsDisabled" "Z" (.int 1) ∧ SN Z n0 h "java/lang/StringUTF16" "HI_BYTE_SHIFT" "I" (.int 0) ∧ SN Z n0 h "java/lang/StringUTF16" "LO_BYTE_SHIFT" "I" (.int 8)
theorem JS.ext (F : JS Z n0 h fv cs) (E : Ext h h') : JS Z n0 h' fv cs := ⟨F.1.ext E, F.2.1, F.2.2.1.ext E, F.2.2.2.1, F.2.2.2.2.1.ext E, F.2.2.2.2.2.1.ext E, F.2.2.2.2.2.2.ext E⟩
theorem JS.wr (F : JS Z n0 h fv cs) (W : Wr h h' a sl v) : JS Z n0 h' fv cs := ⟨F.1.wr W, F.2.1, F.2.2.1.wr W, F.2.2.2.1, F.2.2.2.2.1.wr W, F.2.2.2.2.2.1.wr W, F.2.2.2.2.2.2.wr W⟩
theorem JS.keep (F : JS Z n0 h fv cs) (K : Keep h h' ws) (q : ∀ x ∈ ws, n0 ≤ x) : JS Z n0 h' fv cs := ⟨F.1.keep K q, F.2.1, F.2.2.1.keep K q, F.2.2.2.1, F.2.2.2.2.1.keep K q, F.2.2.2.2.2.1.keep K q, F.2.2.2.2.2.2.keep K q⟩
/-- a String by its chars -/
def STR (Z : State) (h : Heap) (a : Addr) (b : Addr) (k : Int32) (vs : List Int32) : Prop := Exa Z h a "java/lang/String" ∧ Fld Z h a "java/lang/String" "value" "[B" (.ref b) ∧ Fld Z h a "java/lang/String" "coder" "B" (.int k) ∧ BA Z h b vs
end own3
def own_b0 (c : Int32) : Int32 := (c >>> ((0 : Int32) &&& 31)).toInt8.toInt32
def own_b1 (c : Int32) : Int32 := (c >>> ((8 : Int32) &&& 31)).toInt8.toInt32
def own_u16 (cs : List Int32) : List Int32 := cs.flatMap fun c => [own_b0 c, own_b1 c]
def own_lat (cs : List Int32) : List Int32 := cs.map fun c => c.toInt8.toInt32
/-- how many chars at the front are below 256 -/
def own_pre : List Int32 → Nat
  | [] => 0
  | c :: r => if (255 : Int32) < c then 0 else own_pre r + 1
def own_gc (x y : Int32) : Int32 := (((x &&& (255 : Int32)) <<< ((0 : Int32) &&& 31)) ||| ((y &&& (255 : Int32)) <<< ((8 : Int32) &&& 31))).toUInt32.toUInt16.toUInt32.toInt32
def own_lc (x : Int32) : Int32 := (x &&& (255 : Int32)).toUInt32.toUInt16.toUInt32.toInt32
theorem own_sx32 (U : BitVec 32) : ((U.signExtend 8).signExtend 32) &&& 255#32 = U &&& 255#32 := by
  apply BitVec.eq_of_getLsbD_eq
  intro i hi
  rw [BitVec.getLsbD_and, BitVec.getLsbD_and]
  by_cases h : i < 8
  · have h1 : i < 32 := by omega
    simp only [BitVec.getLsbD_signExtend, h, h1, decide_true, Bool.true_and, if_true]
  · have : (255#32).getLsbD i = false := by
      rw [BitVec.getLsbD, BitVec.toNat_ofNat]
      exact Nat.testBit_lt_two_pow (Nat.lt_of_lt_of_le (show 255 % 2 ^ 32 < 2 ^ 8 by decide) (Nat.pow_le_pow_right (by decide) (by omega)))
    rw [this, Bool.and_false, Bool.and_false]
theorem own_m255 (n : Nat) (h : n < 65536) : ((Int32.ofNat n).toInt8.toInt32 &&& (255 : Int32)) = Int32.ofNat (n % 256) := by
  apply Int32.toBitVec_inj.mp
  refine (own_sx32 (BitVec.ofNat 32 n)).trans ?_
  apply BitVec.eq_of_toNat_eq
  show (BitVec.ofNat 32 n &&& 255#32).toNat = (BitVec.ofNat 32 (n % 256)).toNat
  rw [BitVec.toNat_and, BitVec.toNat_ofNat, BitVec.toNat_ofNat, BitVec.toNat_ofNat, show 255 % 2 ^ 32 = 2 ^ 8 - 1 by decide, Nat.and_two_pow_sub_one_eq_mod]
  omega
theorem own_sar (n : Nat) (h : n < 65536) : (Int32.ofNat n >>> ((8 : Int32) &&& 31)) = Int32.ofNat (n / 256) := by
  apply Int32.toBitVec_inj.mp
  show (BitVec.ofNat 32 n).sshiftRight 8 = BitVec.ofNat 32 (n / 256)
  rw [BitVec.sshiftRight_eq_of_msb_false (by rw [BitVec.msb_eq_decide, BitVec.toNat_ofNat]; simp; omega)]
  apply BitVec.eq_of_toNat_eq
  rw [BitVec.toNat_ushiftRight, BitVec.toNat_ofNat, BitVec.toNat_ofNat, Nat.shiftRight_eq_div_pow]
  omega
theorem own_sar0 (x : Int32) : (x >>> ((0 : Int32) &&& 31)) = x := by
  apply Int32.toBitVec_inj.mp
  show x.toBitVec.sshiftRight 0 = x.toBitVec
  exact BitVec.sshiftRight_zero
theorem own_i2c (n : Nat) (h : n < 65536) : (Int32.ofNat n).toUInt32.toUInt16.toUInt32.toInt32 = Int32.ofNat n := by
  apply Int32.toBitVec_inj.mp
  apply BitVec.eq_of_toNat_eq
  show (((BitVec.ofNat 32 n).setWidth 16).setWidth 32).toNat = (BitVec.ofNat 32 n).toNat
  simp only [BitVec.toNat_setWidth, BitVec.toNat_ofNat]; omega
theorem own_gcOf {c : Int32} {n : Nat} (h : n < 65536) (e : c = Int32.ofNat n) : own_gc (own_b0 c) (own_b1 c) = c := by
  rw [own_gc, own_b0, own_b1, own_sar0, e, own_sar n h, own_m255 n h, own_m255 (n / 256) (by omega)]
  have e0 : Int32.ofNat (n % 256) <<< ((0 : Int32) &&& 31) = Int32.ofNat (n % 256) := by
    apply Int32.toBitVec_inj.mp
    show (BitVec.ofNat 32 (n % 256)) <<< 0 = _
    rw [BitVec.shiftLeft_zero]; rfl
  have e8 : Int32.ofNat (n / 256 % 256) <<< ((8 : Int32) &&& 31) = Int32.ofNat (n / 256 * 256) := by
    apply Int32.toBitVec_inj.mp
    show (BitVec.ofNat 32 (n / 256 % 256)) <<< 8 = BitVec.ofNat 32 (n / 256 * 256)
    apply BitVec.eq_of_toNat_eq
    rw [BitVec.toNat_shiftLeft, BitVec.toNat_ofNat, BitVec.toNat_ofNat, Nat.shiftLeft_eq]; omega
  have eo : n % 256 ||| n / 256 * 256 = n := by
    have := Nat.two_pow_add_eq_or_of_lt (i := 8) (b := n % 256) (by omega) (n / 256)
    rw [Nat.or_comm, Nat.mul_comm, show (256 : Nat) = 2 ^ 8 from rfl, ← this]
    omega
  rw [e0, e8, own_orN, eo, own_i2c n h]
theorem own_lcOf {c : Int32} {n : Nat} (h : n < 256) (e : c = Int32.ofNat n) : own_lc (c.toInt8.toInt32) = c := by
  rw [own_lc, e, own_m255 n (by omega), Nat.mod_eq_of_lt h, own_i2c n (by omega)]
theorem own_u16_app (a b : List Int32) : own_u16 (a ++ b) = own_u16 a ++ own_u16 b := List.flatMap_append
theorem own_u16_len (a : List Int32) : (own_u16 a).length = 2 * a.length := by
  induction a with
  | nil => rfl
  | cons c r ih => rw [show own_u16 (c :: r) = [own_b0 c, own_b1 c] ++ own_u16 r from rfl, List.length_append, ih, List.length_cons]; simp only [List.length_cons, List.length_nil]; omega
theorem own_u16_at (cs : List Int32) (i : Nat) (h : i < cs.length) : (own_u16 cs).getD (2 * i) 0 = own_b0 (cs.getD i 0) ∧ (own_u16 cs).getD (2 * i + 1) 0 = own_b1 (cs.getD i 0) := by
  induction cs generalizing i with
  | nil => simp at h
  | cons c r ih =>
    match i, h with
    | 0, _ => exact ⟨rfl, rfl⟩
    | i + 1, h =>
      have := ih i (by simpa using h)
      exact this
theorem own_lat_at (cs : List Int32) (i : Nat) (h : i < cs.length) : (own_lat cs).getD i 0 = (cs.getD i 0).toInt8.toInt32 := by
  rw [own_lat, List.getD_eq_getElem?_getD, List.getElem?_map, List.getD_eq_getElem?_getD, List.getElem?_eq_getElem h]; rfl
theorem own_pre_le (cs : List Int32) : own_pre cs ≤ cs.length := by
  induction cs with
  | nil => exact Nat.le_refl _
  | cons c r ih => rw [own_pre, List.length_cons]; split <;> omega
theorem own_pre_at (cs : List Int32) (h : own_pre cs < cs.length) : (255 : Int32) < cs.getD (own_pre cs) 0 := by
  induction cs with
  | nil => simp at h
  | cons c r ih =>
    rw [own_pre] at h ⊢
    by_cases q : (255 : Int32) < c
    · rw [if_pos q]; exact q
    · rw [if_neg q] at h ⊢
      exact ih (by simpa using h)
theorem own_pre_all (cs : List Int32) (h : own_pre cs = cs.length) (i : Nat) (hi : i < cs.length) : ¬ (255 : Int32) < cs.getD i 0 := by
  induction cs generalizing i with
  | nil => simp at hi
  | cons c r ih =>
    rw [own_pre, List.length_cons] at h
    by_cases q : (255 : Int32) < c
    · rw [if_pos q] at h; omega
    · rw [if_neg q] at h
      match i, hi with
      | 0, _ => exact q
      | i + 1, hi => exact ih (by omega) i (by simpa using hi)
theorem d1_0 : decode jdk_42_method_3_code 0 = .ok (.aload_n 0, 1) := by decide +kernel
theorem d1_1 : decode jdk_42_method_3_code 1 = .ok (.aload_n 1, 1) := by decide +kernel
theorem d1_2 : decode jdk_42_method_3_code 2 = .ok (.iconst 0, 1) := by decide +kernel
theorem d1_3 : decode jdk_42_method_3_code 3 = .ok (.aload_n 1, 1) := by decide +kernel
theorem d1_4 : decode jdk_42_method_3_code 4 = .ok (.arraylength, 1) := by decide +kernel
theorem d1_5 : decode jdk_42_method_3_code 5 = .ok (.aconst_null, 1) := by decide +kernel
theorem d1_6 : decode jdk_42_method_3_code 6 = .ok (.invokespecial 27, 3) := by decide +kernel
theorem d1_9 : decode jdk_42_method_3_code 9 = .ok (.return_, 1) := by decide +kernel
theorem d2_0 : decode jdk_42_method_149_code 0 = .ok (.aload_n 0, 1) := by decide +kernel
theorem d2_1 : decode jdk_42_method_149_code 1 = .ok (.invokespecial 1, 3) := by decide +kernel
theorem d2_4 : decode jdk_42_method_149_code 4 = .ok (.iload_n 3, 1) := by decide +kernel
theorem d2_5 : decode jdk_42_method_149_code 5 = .ok (.ifCond .ne 22, 3) := by decide +kernel
theorem d2_27 : decode jdk_42_method_149_code 27 = .ok (.getstatic 38, 3) := by decide +kernel
theorem d2_30 : decode jdk_42_method_149_code 30 = .ok (.ifCond .eq 28, 3) := by decide +kernel
theorem d2_33 : decode jdk_42_method_149_code 33 = .ok (.aload_n 1, 1) := by decide +kernel
theorem d2_34 : decode jdk_42_method_149_code 34 = .ok (.iload_n 2, 1) := by decide +kernel
theorem d2_35 : decode jdk_42_method_149_code 35 = .ok (.iload_n 3, 1) := by decide +kernel
theorem d2_36 : decode jdk_42_method_149_code 36 = .ok (.invokestatic 177, 3) := by decide +kernel
theorem d2_39 : decode jdk_42_method_149_code 39 = .ok (.astore 5, 2) := by decide +kernel
theorem d2_41 : decode jdk_42_method_149_code 41 = .ok (.aload_n 0, 1) := by decide +kernel
theorem d2_42 : decode jdk_42_method_149_code 42 = .ok (.aload 5, 2) := by decide +kernel
theorem d2_44 : decode jdk_42_method_149_code 44 = .ok (.iload_n 3, 1) := by decide +kernel
theorem d2_45 : decode jdk_42_method_149_code 45 = .ok (.invokestatic 47, 3) := by decide +kernel
theorem d2_48 : decode jdk_42_method_149_code 48 = .ok (.putfield 15, 3) := by decide +kernel
theorem d2_51 : decode jdk_42_method_149_code 51 = .ok (.aload_n 0, 1) := by decide +kernel
theorem d2_52 : decode jdk_42_method_149_code 52 = .ok (.aload 5, 2) := by decide +kernel
theorem d2_54 : decode jdk_42_method_149_code 54 = .ok (.putfield 9, 3) := by decide +kernel
theorem d2_57 : decode jdk_42_method_149_code 57 = .ok (.return_, 1) := by decide +kernel
theorem d4_0 : decode jdk_52_method_16_code 0 = .ok (.iload_n 2, 1) := by decide +kernel
theorem d4_1 : decode jdk_52_method_16_code 1 = .ok (.newarray .byte, 2) := by decide +kernel
theorem d4_3 : decode jdk_52_method_16_code 3 = .ok (.astore_n 3, 1) := by decide +kernel
theorem d4_4 : decode jdk_52_method_16_code 4 = .ok (.aload_n 0, 1) := by decide +kernel
theorem d4_5 : decode jdk_52_method_16_code 5 = .ok (.iload_n 1, 1) := by decide +kernel
theorem d4_6 : decode jdk_52_method_16_code 6 = .ok (.aload_n 3, 1) := by decide +kernel
theorem d4_7 : decode jdk_52_method_16_code 7 = .ok (.iconst 0, 1) := by decide +kernel
theorem d4_8 : decode jdk_52_method_16_code 8 = .ok (.iload_n 2, 1) := by decide +kernel
theorem d4_9 : decode jdk_52_method_16_code 9 = .ok (.invokestatic 115, 3) := by decide +kernel
theorem d4_12 : decode jdk_52_method_16_code 12 = .ok (.istore 4, 2) := by decide +kernel
theorem d4_14 : decode jdk_52_method_16_code 14 = .ok (.iload 4, 2) := by decide +kernel
theorem d4_16 : decode jdk_52_method_16_code 16 = .ok (.iload_n 2, 1) := by decide +kernel
theorem d4_17 : decode jdk_52_method_16_code 17 = .ok (.if_icmp .eq 40, 3) := by decide +kernel
theorem d4_20 : decode jdk_52_method_16_code 20 = .ok (.aload_n 0, 1) := by decide +kernel
theorem d4_21 : decode jdk_52_method_16_code 21 = .ok (.iload_n 1, 1) := by decide +kernel
theorem d4_22 : decode jdk_52_method_16_code 22 = .ok (.iload_n 2, 1) := by decide +kernel
theorem d4_23 : decode jdk_52_method_16_code 23 = .ok (.invokestatic 119, 3) := by decide +kernel
theorem d4_26 : decode jdk_52_method_16_code 26 = .ok (.astore 5, 2) := by decide +kernel
theorem d4_28 : decode jdk_52_method_16_code 28 = .ok (.aload 5, 2) := by decide +kernel
theorem d4_30 : decode jdk_52_method_16_code 30 = .ok (.iload 4, 2) := by decide +kernel
theorem d4_32 : decode jdk_52_method_16_code 32 = .ok (.invokestatic 71, 3) := by decide +kernel
theorem d4_35 : decode jdk_52_method_16_code 35 = .ok (.sipush 255, 3) := by decide +kernel
theorem d4_38 : decode jdk_52_method_16_code 38 = .ok (.if_icmp .gt 16, 3) := by decide +kernel
theorem d4_54 : decode jdk_52_method_16_code 54 = .ok (.aload 5, 2) := by decide +kernel
theorem d4_56 : decode jdk_52_method_16_code 56 = .ok (.areturn, 1) := by decide +kernel
theorem d4_57 : decode jdk_52_method_16_code 57 = .ok (.aload_n 3, 1) := by decide +kernel
theorem d4_58 : decode jdk_52_method_16_code 58 = .ok (.areturn, 1) := by decide +kernel
theorem d5_0 : decode jdk_52_method_21_code 0 = .ok (.iconst 0, 1) := by decide +kernel
theorem d5_1 : decode jdk_52_method_21_code 1 = .ok (.istore 5, 2) := by decide +kernel
theorem d5_3 : decode jdk_52_method_21_code 3 = .ok (.iload 5, 2) := by decide +kernel
theorem d5_5 : decode jdk_52_method_21_code 5 = .ok (.iload 4, 2) := by decide +kernel
theorem d5_7 : decode jdk_52_method_21_code 7 = .ok (.if_icmp .ge 37, 3) := by decide +kernel
theorem d5_10 : decode jdk_52_method_21_code 10 = .ok (.aload_n 0, 1) := by decide +kernel
theorem d5_11 : decode jdk_52_method_21_code 11 = .ok (.iload_n 1, 1) := by decide +kernel
theorem d5_12 : decode jdk_52_method_21_code 12 = .ok (.caload, 1) := by decide +kernel
theorem d5_13 : decode jdk_52_method_21_code 13 = .ok (.istore 6, 2) := by decide +kernel
theorem d5_15 : decode jdk_52_method_21_code 15 = .ok (.iload 6, 2) := by decide +kernel
theorem d5_17 : decode jdk_52_method_21_code 17 = .ok (.sipush 255, 3) := by decide +kernel
theorem d5_20 : decode jdk_52_method_21_code 20 = .ok (.if_icmp .le 6, 3) := by decide +kernel
theorem d5_23 : decode jdk_52_method_21_code 23 = .ok (.iload 5, 2) := by decide +kernel
theorem d5_25 : decode jdk_52_method_21_code 25 = .ok (.ireturn, 1) := by decide +kernel
theorem d5_26 : decode jdk_52_method_21_code 26 = .ok (.aload_n 2, 1) := by decide +kernel
theorem d5_27 : decode jdk_52_method_21_code 27 = .ok (.iload_n 3, 1) := by decide +kernel
theorem d5_28 : decode jdk_52_method_21_code 28 = .ok (.iload 6, 2) := by decide +kernel
theorem d5_30 : decode jdk_52_method_21_code 30 = .ok (.i2b, 1) := by decide +kernel
theorem d5_31 : decode jdk_52_method_21_code 31 = .ok (.bastore, 1) := by decide +kernel
theorem d5_32 : decode jdk_52_method_21_code 32 = .ok (.iinc 1 1, 3) := by decide +kernel
theorem d5_35 : decode jdk_52_method_21_code 35 = .ok (.iinc 3 1, 3) := by decide +kernel
theorem d5_38 : decode jdk_52_method_21_code 38 = .ok (.iinc 5 1, 3) := by decide +kernel
theorem d5_41 : decode jdk_52_method_21_code 41 = .ok (.goto (-38), 3) := by decide +kernel
theorem d5_44 : decode jdk_52_method_21_code 44 = .ok (.iload 4, 2) := by decide +kernel
theorem d5_46 : decode jdk_52_method_21_code 46 = .ok (.ireturn, 1) := by decide +kernel
theorem d6_0 : decode jdk_52_method_15_code 0 = .ok (.iload_n 1, 1) := by decide +kernel
theorem d6_1 : decode jdk_52_method_15_code 1 = .ok (.aload_n 0, 1) := by decide +kernel
theorem d6_2 : decode jdk_52_method_15_code 2 = .ok (.arraylength, 1) := by decide +kernel
theorem d6_3 : decode jdk_52_method_15_code 3 = .ok (.isub, 1) := by decide +kernel
theorem d6_4 : decode jdk_52_method_15_code 4 = .ok (.bipush 31, 2) := by decide +kernel
theorem d6_6 : decode jdk_52_method_15_code 6 = .ok (.iushr, 1) := by decide +kernel
theorem d6_7 : decode jdk_52_method_15_code 7 = .ok (.i2b, 1) := by decide +kernel
theorem d6_8 : decode jdk_52_method_15_code 8 = .ok (.ireturn, 1) := by decide +kernel
theorem d7_0 : decode method_3_code 0 = .ok (.iload_n 0, 1) := by decide +kernel
theorem d7_1 : decode method_3_code 1 = .ok (.bipush 48, 2) := by decide +kernel
theorem d7_3 : decode method_3_code 3 = .ok (.isub, 1) := by decide +kernel
theorem d7_4 : decode method_3_code 4 = .ok (.istore_n 1, 1) := by decide +kernel
theorem d7_5 : decode method_3_code 5 = .ok (.iload_n 1, 1) := by decide +kernel
theorem d7_6 : decode method_3_code 6 = .ok (.ifCond .lt 11, 3) := by decide +kernel
theorem d7_9 : decode method_3_code 9 = .ok (.iload_n 1, 1) := by decide +kernel
theorem d7_10 : decode method_3_code 10 = .ok (.bipush 9, 2) := by decide +kernel
theorem d7_12 : decode method_3_code 12 = .ok (.if_icmp .gt 5, 3) := by decide +kernel
theorem d7_15 : decode method_3_code 15 = .ok (.iconst 1, 1) := by decide +kernel
theorem d7_16 : decode method_3_code 16 = .ok (.ireturn, 1) := by decide +kernel
theorem d7_17 : decode method_3_code 17 = .ok (.iload_n 0, 1) := by decide +kernel
theorem d7_18 : decode method_3_code 18 = .ok (.bipush 32, 2) := by decide +kernel
theorem d7_20 : decode method_3_code 20 = .ok (.ior, 1) := by decide +kernel
theorem d7_21 : decode method_3_code 21 = .ok (.istore_n 2, 1) := by decide +kernel
theorem d7_22 : decode method_3_code 22 = .ok (.iload_n 2, 1) := by decide +kernel
theorem d7_23 : decode method_3_code 23 = .ok (.bipush 97, 2) := by decide +kernel
theorem d7_25 : decode method_3_code 25 = .ok (.if_icmp .lt 13, 3) := by decide +kernel
theorem d7_28 : decode method_3_code 28 = .ok (.iload_n 2, 1) := by decide +kernel
theorem d7_29 : decode method_3_code 29 = .ok (.bipush 102, 2) := by decide +kernel
theorem d7_31 : decode method_3_code 31 = .ok (.if_icmp .gt 7, 3) := by decide +kernel
theorem d7_34 : decode method_3_code 34 = .ok (.iconst 1, 1) := by decide +kernel
theorem d7_35 : decode method_3_code 35 = .ok (.goto 4, 3) := by decide +kernel
theorem d7_38 : decode method_3_code 38 = .ok (.iconst 0, 1) := by decide +kernel
theorem d7_39 : decode method_3_code 39 = .ok (.ireturn, 1) := by decide +kernel
theorem d8_0 : decode prog_49_method_8_code 0 = .ok (.iload_n 1, 1) := by decide +kernel
theorem d8_1 : decode prog_49_method_8_code 1 = .ok (.iconst 2, 1) := by decide +kernel
theorem d8_2 : decode prog_49_method_8_code 2 = .ok (.iadd, 1) := by decide +kernel
theorem d8_3 : decode prog_49_method_8_code 3 = .ok (.aload_n 0, 1) := by decide +kernel
theorem d8_4 : decode prog_49_method_8_code 4 = .ok (.invokevirtual 17, 3) := by decide +kernel
theorem d8_7 : decode prog_49_method_8_code 7 = .ok (.if_icmp .ge 33, 3) := by decide +kernel
theorem d8_10 : decode prog_49_method_8_code 10 = .ok (.aload_n 0, 1) := by decide +kernel
theorem d8_11 : decode prog_49_method_8_code 11 = .ok (.iload_n 1, 1) := by decide +kernel
theorem d8_12 : decode prog_49_method_8_code 12 = .ok (.iconst 1, 1) := by decide +kernel
theorem d8_13 : decode prog_49_method_8_code 13 = .ok (.iadd, 1) := by decide +kernel
theorem d8_14 : decode prog_49_method_8_code 14 = .ok (.invokevirtual 23, 3) := by decide +kernel
theorem d8_17 : decode prog_49_method_8_code 17 = .ok (.invokestatic 86, 3) := by decide +kernel
theorem d8_20 : decode prog_49_method_8_code 20 = .ok (.ifCond .eq 20, 3) := by decide +kernel
theorem d8_23 : decode prog_49_method_8_code 23 = .ok (.aload_n 0, 1) := by decide +kernel
theorem d8_24 : decode prog_49_method_8_code 24 = .ok (.iload_n 1, 1) := by decide +kernel
theorem d8_25 : decode prog_49_method_8_code 25 = .ok (.iconst 2, 1) := by decide +kernel
theorem d8_26 : decode prog_49_method_8_code 26 = .ok (.iadd, 1) := by decide +kernel
theorem d8_27 : decode prog_49_method_8_code 27 = .ok (.invokevirtual 23, 3) := by decide +kernel
theorem d8_30 : decode prog_49_method_8_code 30 = .ok (.invokestatic 86, 3) := by decide +kernel
theorem d8_33 : decode prog_49_method_8_code 33 = .ok (.ifCond .eq 7, 3) := by decide +kernel
theorem d8_36 : decode prog_49_method_8_code 36 = .ok (.iconst 1, 1) := by decide +kernel
theorem d8_37 : decode prog_49_method_8_code 37 = .ok (.goto 4, 3) := by decide +kernel
theorem d8_40 : decode prog_49_method_8_code 40 = .ok (.iconst 0, 1) := by decide +kernel
theorem d8_41 : decode prog_49_method_8_code 41 = .ok (.ireturn, 1) := by decide +kernel
theorem d9_0 : decode jdk_42_method_54_code 0 = .ok (.aload_n 0, 1) := by decide +kernel
theorem d9_1 : decode jdk_42_method_54_code 1 = .ok (.getfield 9, 3) := by decide +kernel
theorem d9_4 : decode jdk_42_method_54_code 4 = .ok (.arraylength, 1) := by decide +kernel
theorem d9_5 : decode jdk_42_method_54_code 5 = .ok (.aload_n 0, 1) := by decide +kernel
theorem d9_6 : decode jdk_42_method_54_code 6 = .ok (.invokevirtual 335, 3) := by decide +kernel
theorem d9_9 : decode jdk_42_method_54_code 9 = .ok (.ishr, 1) := by decide +kernel
theorem d9_10 : decode jdk_42_method_54_code 10 = .ok (.ireturn, 1) := by decide +kernel
theorem d10_0 : decode jdk_42_method_152_code 0 = .ok (.getstatic 38, 3) := by decide +kernel
theorem d10_3 : decode jdk_42_method_152_code 3 = .ok (.ifCond .eq 10, 3) := by decide +kernel
theorem d10_6 : decode jdk_42_method_152_code 6 = .ok (.aload_n 0, 1) := by decide +kernel
theorem d10_7 : decode jdk_42_method_152_code 7 = .ok (.getfield 15, 3) := by decide +kernel
theorem d10_10 : decode jdk_42_method_152_code 10 = .ok (.goto 4, 3) := by decide +kernel
theorem d10_14 : decode jdk_42_method_152_code 14 = .ok (.ireturn, 1) := by decide +kernel
theorem d11_0 : decode jdk_42_method_56_code 0 = .ok (.aload_n 0, 1) := by decide +kernel
theorem d11_1 : decode jdk_42_method_56_code 1 = .ok (.invokevirtual 492, 3) := by decide +kernel
theorem d11_4 : decode jdk_42_method_56_code 4 = .ok (.ifCond .eq 12, 3) := by decide +kernel
theorem d11_7 : decode jdk_42_method_56_code 7 = .ok (.aload_n 0, 1) := by decide +kernel
theorem d11_8 : decode jdk_42_method_56_code 8 = .ok (.getfield 9, 3) := by decide +kernel
theorem d11_11 : decode jdk_42_method_56_code 11 = .ok (.iload_n 1, 1) := by decide +kernel
theorem d11_12 : decode jdk_42_method_56_code 12 = .ok (.invokestatic 495, 3) := by decide +kernel
theorem d11_15 : decode jdk_42_method_56_code 15 = .ok (.ireturn, 1) := by decide +kernel
theorem d11_16 : decode jdk_42_method_56_code 16 = .ok (.aload_n 0, 1) := by decide +kernel
theorem d11_17 : decode jdk_42_method_56_code 17 = .ok (.getfield 9, 3) := by decide +kernel
theorem d11_20 : decode jdk_42_method_56_code 20 = .ok (.iload_n 1, 1) := by decide +kernel
theorem d11_21 : decode jdk_42_method_56_code 21 = .ok (.invokestatic 498, 3) := by decide +kernel
theorem d11_24 : decode jdk_42_method_56_code 24 = .ok (.ireturn, 1) := by decide +kernel
theorem d12_0 : decode jdk_42_method_154_code 0 = .ok (.getstatic 38, 3) := by decide +kernel
theorem d12_3 : decode jdk_42_method_154_code 3 = .ok (.ifCond .eq 14, 3) := by decide +kernel
theorem d12_6 : decode jdk_42_method_154_code 6 = .ok (.aload_n 0, 1) := by decide +kernel
theorem d12_7 : decode jdk_42_method_154_code 7 = .ok (.getfield 15, 3) := by decide +kernel
theorem d12_10 : decode jdk_42_method_154_code 10 = .ok (.ifCond .ne 7, 3) := by decide +kernel
theorem d12_13 : decode jdk_42_method_154_code 13 = .ok (.iconst 1, 1) := by decide +kernel
theorem d12_14 : decode jdk_42_method_154_code 14 = .ok (.goto 4, 3) := by decide +kernel
theorem d12_17 : decode jdk_42_method_154_code 17 = .ok (.iconst 0, 1) := by decide +kernel
theorem d12_18 : decode jdk_42_method_154_code 18 = .ok (.ireturn, 1) := by decide +kernel
theorem d13_0 : decode jdk_43_method_2_code 0 = .ok (.iload_n 1, 1) := by decide +kernel
theorem d13_1 : decode jdk_43_method_2_code 1 = .ok (.aload_n 0, 1) := by decide +kernel
theorem d13_2 : decode jdk_43_method_2_code 2 = .ok (.arraylength, 1) := by decide +kernel
theorem d13_3 : decode jdk_43_method_2_code 3 = .ok (.invokestatic 9, 3) := by decide +kernel
theorem d13_6 : decode jdk_43_method_2_code 6 = .ok (.aload_n 0, 1) := by decide +kernel
theorem d13_7 : decode jdk_43_method_2_code 7 = .ok (.iload_n 1, 1) := by decide +kernel
theorem d13_8 : decode jdk_43_method_2_code 8 = .ok (.baload, 1) := by decide +kernel
theorem d13_9 : decode jdk_43_method_2_code 9 = .ok (.sipush 255, 3) := by decide +kernel
theorem d13_12 : decode jdk_43_method_2_code 12 = .ok (.iand, 1) := by decide +kernel
theorem d13_13 : decode jdk_43_method_2_code 13 = .ok (.i2c, 1) := by decide +kernel
theorem d13_14 : decode jdk_43_method_2_code 14 = .ok (.ireturn, 1) := by decide +kernel
theorem d14_0 : decode jdk_42_method_155_code 0 = .ok (.iload_n 0, 1) := by decide +kernel
theorem d14_1 : decode jdk_42_method_155_code 1 = .ok (.iload_n 1, 1) := by decide +kernel
theorem d14_2 : decode jdk_42_method_155_code 2 = .ok (.getstatic 1053, 3) := by decide +kernel
theorem d14_5 : decode jdk_42_method_155_code 5 = .ok (.invokestatic 1059, 3) := by decide +kernel
theorem d14_8 : decode jdk_42_method_155_code 8 = .ok (.pop, 1) := by decide +kernel
theorem d14_9 : decode jdk_42_method_155_code 9 = .ok (.return_, 1) := by decide +kernel
theorem d15_0 : decode jdk_41_method_11_code 0 = .ok (.iload_n 0, 1) := by decide +kernel
theorem d15_1 : decode jdk_41_method_11_code 1 = .ok (.ifCond .lt 8, 3) := by decide +kernel
theorem d15_4 : decode jdk_41_method_11_code 4 = .ok (.iload_n 0, 1) := by decide +kernel
theorem d15_5 : decode jdk_41_method_11_code 5 = .ok (.iload_n 1, 1) := by decide +kernel
theorem d15_6 : decode jdk_41_method_11_code 6 = .ok (.if_icmp .lt 10, 3) := by decide +kernel
theorem d15_16 : decode jdk_41_method_11_code 16 = .ok (.iload_n 0, 1) := by decide +kernel
theorem d15_17 : decode jdk_41_method_11_code 17 = .ok (.ireturn, 1) := by decide +kernel
theorem d16_0 : decode prog_49_method_12_code 0 = .ok (.iload_n 0, 1) := by decide +kernel
theorem d16_1 : decode prog_49_method_12_code 1 = .ok (.bipush 48, 2) := by decide +kernel
theorem d16_3 : decode prog_49_method_12_code 3 = .ok (.if_icmp .lt 9, 3) := by decide +kernel
theorem d16_6 : decode prog_49_method_12_code 6 = .ok (.iload_n 0, 1) := by decide +kernel
theorem d16_7 : decode prog_49_method_12_code 7 = .ok (.bipush 57, 2) := by decide +kernel
theorem d16_9 : decode prog_49_method_12_code 9 = .ok (.if_icmp .le 27, 3) := by decide +kernel
theorem d16_12 : decode prog_49_method_12_code 12 = .ok (.iload_n 0, 1) := by decide +kernel
theorem d16_13 : decode prog_49_method_12_code 13 = .ok (.bipush 65, 2) := by decide +kernel
theorem d16_15 : decode prog_49_method_12_code 15 = .ok (.if_icmp .lt 9, 3) := by decide +kernel
theorem d16_18 : decode prog_49_method_12_code 18 = .ok (.iload_n 0, 1) := by decide +kernel
theorem d16_19 : decode prog_49_method_12_code 19 = .ok (.bipush 70, 2) := by decide +kernel
theorem d16_21 : decode prog_49_method_12_code 21 = .ok (.if_icmp .le 15, 3) := by decide +kernel
theorem d16_24 : decode prog_49_method_12_code 24 = .ok (.iload_n 0, 1) := by decide +kernel
theorem d16_25 : decode prog_49_method_12_code 25 = .ok (.bipush 97, 2) := by decide +kernel
theorem d16_27 : decode prog_49_method_12_code 27 = .ok (.if_icmp .lt 13, 3) := by decide +kernel
theorem d16_30 : decode prog_49_method_12_code 30 = .ok (.iload_n 0, 1) := by decide +kernel
theorem d16_31 : decode prog_49_method_12_code 31 = .ok (.bipush 102, 2) := by decide +kernel
theorem d16_33 : decode prog_49_method_12_code 33 = .ok (.if_icmp .gt 7, 3) := by decide +kernel
theorem d16_36 : decode prog_49_method_12_code 36 = .ok (.iconst 1, 1) := by decide +kernel
theorem d16_37 : decode prog_49_method_12_code 37 = .ok (.goto 4, 3) := by decide +kernel
theorem d16_40 : decode prog_49_method_12_code 40 = .ok (.iconst 0, 1) := by decide +kernel
theorem d16_41 : decode prog_49_method_12_code 41 = .ok (.ireturn, 1) := by decide +kernel
theorem d17_0 : decode jdk_52_method_14_code 0 = .ok (.iload_n 2, 1) := by decide +kernel
theorem d17_1 : decode jdk_52_method_14_code 1 = .ok (.invokestatic 107, 3) := by decide +kernel
theorem d17_4 : decode jdk_52_method_14_code 4 = .ok (.astore_n 3, 1) := by decide +kernel
theorem d17_5 : decode jdk_52_method_14_code 5 = .ok (.iconst 0, 1) := by decide +kernel
theorem d17_6 : decode jdk_52_method_14_code 6 = .ok (.istore 4, 2) := by decide +kernel
theorem d17_8 : decode jdk_52_method_14_code 8 = .ok (.iload 4, 2) := by decide +kernel
theorem d17_10 : decode jdk_52_method_14_code 10 = .ok (.iload_n 2, 1) := by decide +kernel
theorem d17_11 : decode jdk_52_method_14_code 11 = .ok (.if_icmp .ge 21, 3) := by decide +kernel
theorem d17_14 : decode jdk_52_method_14_code 14 = .ok (.aload_n 3, 1) := by decide +kernel
theorem d17_15 : decode jdk_52_method_14_code 15 = .ok (.iload 4, 2) := by decide +kernel
theorem d17_17 : decode jdk_52_method_14_code 17 = .ok (.aload_n 0, 1) := by decide +kernel
theorem d17_18 : decode jdk_52_method_14_code 18 = .ok (.iload_n 1, 1) := by decide +kernel
theorem d17_19 : decode jdk_52_method_14_code 19 = .ok (.caload, 1) := by decide +kernel
theorem d17_20 : decode jdk_52_method_14_code 20 = .ok (.invokestatic 111, 3) := by decide +kernel
theorem d17_23 : decode jdk_52_method_14_code 23 = .ok (.iinc 1 1, 3) := by decide +kernel
theorem d17_26 : decode jdk_52_method_14_code 26 = .ok (.iinc 4 1, 3) := by decide +kernel
theorem d17_29 : decode jdk_52_method_14_code 29 = .ok (.goto (-21), 3) := by decide +kernel
theorem d17_32 : decode jdk_52_method_14_code 32 = .ok (.aload_n 3, 1) := by decide +kernel
theorem d17_33 : decode jdk_52_method_14_code 33 = .ok (.areturn, 1) := by decide +kernel
theorem d18_0 : decode jdk_52_method_2_code 0 = .ok (.iload_n 0, 1) := by decide +kernel
theorem d18_1 : decode jdk_52_method_2_code 1 = .ok (.invokestatic 11, 3) := by decide +kernel
theorem d18_4 : decode jdk_52_method_2_code 4 = .ok (.newarray .byte, 2) := by decide +kernel
theorem d18_6 : decode jdk_52_method_2_code 6 = .ok (.areturn, 1) := by decide +kernel
theorem d19_0 : decode jdk_52_method_3_code 0 = .ok (.iload_n 0, 1) := by decide +kernel
theorem d19_1 : decode jdk_52_method_3_code 1 = .ok (.ifCond .ge 11, 3) := by decide +kernel
theorem d19_12 : decode jdk_52_method_3_code 12 = .ok (.iload_n 0, 1) := by decide +kernel
theorem d19_13 : decode jdk_52_method_3_code 13 = .ok (.ldc 20, 2) := by decide +kernel
theorem d19_15 : decode jdk_52_method_3_code 15 = .ok (.if_icmp .lt 40, 3) := by decide +kernel
theorem d19_55 : decode jdk_52_method_3_code 55 = .ok (.iload_n 0, 1) := by decide +kernel
theorem d19_56 : decode jdk_52_method_3_code 56 = .ok (.iconst 1, 1) := by decide +kernel
theorem d19_57 : decode jdk_52_method_3_code 57 = .ok (.ishl, 1) := by decide +kernel
theorem d19_58 : decode jdk_52_method_3_code 58 = .ok (.ireturn, 1) := by decide +kernel
theorem d20_0 : decode jdk_52_method_4_code 0 = .ok (.getstatic 44, 3) := by decide +kernel
theorem d20_3 : decode jdk_52_method_4_code 3 = .ok (.ifCond .ne 25, 3) := by decide +kernel
theorem d20_28 : decode jdk_52_method_4_code 28 = .ok (.iload_n 1, 1) := by decide +kernel
theorem d20_29 : decode jdk_52_method_4_code 29 = .ok (.iconst 1, 1) := by decide +kernel
theorem d20_30 : decode jdk_52_method_4_code 30 = .ok (.ishl, 1) := by decide +kernel
theorem d20_31 : decode jdk_52_method_4_code 31 = .ok (.istore_n 1, 1) := by decide +kernel
theorem d20_32 : decode jdk_52_method_4_code 32 = .ok (.aload_n 0, 1) := by decide +kernel
theorem d20_33 : decode jdk_52_method_4_code 33 = .ok (.iload_n 1, 1) := by decide +kernel
theorem d20_34 : decode jdk_52_method_4_code 34 = .ok (.iinc 1 1, 3) := by decide +kernel
theorem d20_37 : decode jdk_52_method_4_code 37 = .ok (.iload_n 2, 1) := by decide +kernel
theorem d20_38 : decode jdk_52_method_4_code 38 = .ok (.getstatic 59, 3) := by decide +kernel
theorem d20_41 : decode jdk_52_method_4_code 41 = .ok (.ishr, 1) := by decide +kernel
theorem d20_42 : decode jdk_52_method_4_code 42 = .ok (.i2b, 1) := by decide +kernel
theorem d20_43 : decode jdk_52_method_4_code 43 = .ok (.bastore, 1) := by decide +kernel
theorem d20_44 : decode jdk_52_method_4_code 44 = .ok (.aload_n 0, 1) := by decide +kernel
theorem d20_45 : decode jdk_52_method_4_code 45 = .ok (.iload_n 1, 1) := by decide +kernel
theorem d20_46 : decode jdk_52_method_4_code 46 = .ok (.iload_n 2, 1) := by decide +kernel
theorem d20_47 : decode jdk_52_method_4_code 47 = .ok (.getstatic 63, 3) := by decide +kernel
theorem d20_50 : decode jdk_52_method_4_code 50 = .ok (.ishr, 1) := by decide +kernel
theorem d20_51 : decode jdk_52_method_4_code 51 = .ok (.i2b, 1) := by decide +kernel
theorem d20_52 : decode jdk_52_method_4_code 52 = .ok (.bastore, 1) := by decide +kernel
theorem d20_53 : decode jdk_52_method_4_code 53 = .ok (.return_, 1) := by decide +kernel
theorem d21_0 : decode jdk_52_method_5_code 0 = .ok (.getstatic 44, 3) := by decide +kernel
theorem d21_3 : decode jdk_52_method_5_code 3 = .ok (.ifCond .ne 25, 3) := by decide +kernel
theorem d21_28 : decode jdk_52_method_5_code 28 = .ok (.iload_n 1, 1) := by decide +kernel
theorem d21_29 : decode jdk_52_method_5_code 29 = .ok (.iconst 1, 1) := by decide +kernel
theorem d21_30 : decode jdk_52_method_5_code 30 = .ok (.ishl, 1) := by decide +kernel
theorem d21_31 : decode jdk_52_method_5_code 31 = .ok (.istore_n 1, 1) := by decide +kernel
theorem d21_32 : decode jdk_52_method_5_code 32 = .ok (.aload_n 0, 1) := by decide +kernel
theorem d21_33 : decode jdk_52_method_5_code 33 = .ok (.iload_n 1, 1) := by decide +kernel
theorem d21_34 : decode jdk_52_method_5_code 34 = .ok (.iinc 1 1, 3) := by decide +kernel
theorem d21_37 : decode jdk_52_method_5_code 37 = .ok (.baload, 1) := by decide +kernel
theorem d21_38 : decode jdk_52_method_5_code 38 = .ok (.sipush 255, 3) := by decide +kernel
theorem d21_41 : decode jdk_52_method_5_code 41 = .ok (.iand, 1) := by decide +kernel
theorem d21_42 : decode jdk_52_method_5_code 42 = .ok (.getstatic 59, 3) := by decide +kernel
theorem d21_45 : decode jdk_52_method_5_code 45 = .ok (.ishl, 1) := by decide +kernel
theorem d21_46 : decode jdk_52_method_5_code 46 = .ok (.aload_n 0, 1) := by decide +kernel
theorem d21_47 : decode jdk_52_method_5_code 47 = .ok (.iload_n 1, 1) := by decide +kernel
theorem d21_48 : decode jdk_52_method_5_code 48 = .ok (.baload, 1) := by decide +kernel
theorem d21_49 : decode jdk_52_method_5_code 49 = .ok (.sipush 255, 3) := by decide +kernel
theorem d21_52 : decode jdk_52_method_5_code 52 = .ok (.iand, 1) := by decide +kernel
theorem d21_53 : decode jdk_52_method_5_code 53 = .ok (.getstatic 63, 3) := by decide +kernel
theorem d21_56 : decode jdk_52_method_5_code 56 = .ok (.ishl, 1) := by decide +kernel
theorem d21_57 : decode jdk_52_method_5_code 57 = .ok (.ior, 1) := by decide +kernel
theorem d21_58 : decode jdk_52_method_5_code 58 = .ok (.i2c, 1) := by decide +kernel
theorem d21_59 : decode jdk_52_method_5_code 59 = .ok (.ireturn, 1) := by decide +kernel
theorem d22_0 : decode jdk_52_method_83_code 0 = .ok (.iload_n 1, 1) := by decide +kernel
theorem d22_1 : decode jdk_52_method_83_code 1 = .ok (.aload_n 0, 1) := by decide +kernel
theorem d22_2 : decode jdk_52_method_83_code 2 = .ok (.invokestatic 67, 3) := by decide +kernel
theorem d22_5 : decode jdk_52_method_83_code 5 = .ok (.aload_n 0, 1) := by decide +kernel
theorem d22_6 : decode jdk_52_method_83_code 6 = .ok (.iload_n 1, 1) := by decide +kernel
theorem d22_7 : decode jdk_52_method_83_code 7 = .ok (.invokestatic 71, 3) := by decide +kernel
theorem d22_10 : decode jdk_52_method_83_code 10 = .ok (.ireturn, 1) := by decide +kernel
theorem d23_0 : decode jdk_52_method_91_code 0 = .ok (.iload_n 0, 1) := by decide +kernel
theorem d23_1 : decode jdk_52_method_91_code 1 = .ok (.aload_n 1, 1) := by decide +kernel
theorem d23_2 : decode jdk_52_method_91_code 2 = .ok (.invokestatic 48, 3) := by decide +kernel
theorem d23_5 : decode jdk_52_method_91_code 5 = .ok (.invokestatic 414, 3) := by decide +kernel
theorem d23_8 : decode jdk_52_method_91_code 8 = .ok (.return_, 1) := by decide +kernel
theorem d24_0 : decode jdk_52_method_6_code 0 = .ok (.aload_n 0, 1) := by decide +kernel
theorem d24_1 : decode jdk_52_method_6_code 1 = .ok (.arraylength, 1) := by decide +kernel
theorem d24_2 : decode jdk_52_method_6_code 2 = .ok (.iconst 1, 1) := by decide +kernel
theorem d24_3 : decode jdk_52_method_6_code 3 = .ok (.ishr, 1) := by decide +kernel
theorem d24_4 : decode jdk_52_method_6_code 4 = .ok (.ireturn, 1) := by decide +kernel
theorem pd_0 : parseMethodDescriptor "(I)I" = some ⟨[.int], some .int⟩ := by decide +kernel
theorem pd_1 : parseMethodDescriptor "(I)[B" = some ⟨[.int], some (.array .byte)⟩ := by decide +kernel
theorem pd_2 : parseMethodDescriptor "([BII)V" = some ⟨[(.array .byte), .int, .int], none⟩ := by decide +kernel
theorem pd_3 : parseMethodDescriptor "([CI[BII)I" = some ⟨[(.array .char), .int, (.array .byte), .int, .int], some .int⟩ := by decide +kernel
theorem pd_4 : parseMethodDescriptor "([CII)[B" = some ⟨[(.array .char), .int, .int], some (.array .byte)⟩ := by decide +kernel
theorem pd_5 : parseMethodDescriptor "([BI)C" = some ⟨[(.array .byte), .int], some .char⟩ := by decide +kernel
theorem pd_6 : parseMethodDescriptor "([BI)B" = some ⟨[(.array .byte), .int], some .byte⟩ := by decide +kernel
theorem pd_7 : parseMethodDescriptor "([CIILjava/lang/Void;)V" = some ⟨[(.array .char), .int, .int, (.object "java/lang/Void")], none⟩ := by decide +kernel
theorem pd_8 : parseMethodDescriptor "()B" = some ⟨[], some .byte⟩ := by decide +kernel
theorem pd_9 : parseMethodDescriptor "(IILjava/util/function/BiFunction;)I" = some ⟨[.int, .int, (.object "java/util/function/BiFunction")], some .int⟩ := by decide +kernel
theorem pd_10 : parseMethodDescriptor "(II)V" = some ⟨[.int, .int], none⟩ := by decide +kernel
theorem pd_11 : parseMethodDescriptor "([B)I" = some ⟨[(.array .byte)], some .int⟩ := by decide +kernel
theorem pd_12 : parseMethodDescriptor "(I[B)V" = some ⟨[.int, (.array .byte)], none⟩ := by decide +kernel
theorem pd_13 : parseMethodDescriptor "()Z" = some ⟨[], some .boolean⟩ := by decide +kernel
theorem pd_14 : parseMethodDescriptor "()I" = some ⟨[], some .int⟩ := by decide +kernel
theorem pd_15 : parseMethodDescriptor "(I)C" = some ⟨[.int], some .char⟩ := by decide +kernel
theorem pd_16 : parseMethodDescriptor "(C)Z" = some ⟨[.char], some .boolean⟩ := by decide +kernel
theorem pd_17 : parseMethodDescriptor "([C)V" = some ⟨[(.array .char)], none⟩ := by decide +kernel
theorem pd_18 : parseMethodDescriptor "(Ljava/lang/String;I)Z" = some ⟨[(.object "java/lang/String"), .int], some .boolean⟩ := by decide +kernel
theorem pn_0 : plainName "java/lang/StringUTF16" = true := by first | (simp [plainName, overriddenIn]; done) | decide +kernel
theorem pn_1 : plainName "java/lang/String" = true := by first | (simp [plainName, overriddenIn]; done) | decide +kernel
theorem pn_2 : plainName "jdk/internal/util/Preconditions" = true := by first | (simp [plainName, overriddenIn]; done) | decide +kernel
theorem pn_3 : plainName "java/lang/StringLatin1" = true := by first | (simp [plainName, overriddenIn]; done) | decide +kernel
theorem pn_4 : plainName "com/example/wirebind/wirebind/PercentEncoding" = true := by first | (simp [plainName, overriddenIn]; done) | decide +kernel
theorem pn_5 : plainName "com/example/wirebind/wirebind/PercentEncodingIsPercentTripletPinLaw" = true := by first | (simp [plainName, overriddenIn]; done) | decide +kernel
theorem own_dbl {p : Int32} {i : Nat} (e : p = Int32.ofNat i) (h : i < 1000) : p <<< ((1 : Int32) &&& 31) = Int32.ofNat (2 * i) := by
  rw [e]
  apply Int32.toBitVec_inj.mp
  show (BitVec.ofNat 32 i) <<< 1 = BitVec.ofNat 32 (2 * i)
  apply BitVec.eq_of_toNat_eq
  rw [BitVec.toNat_shiftLeft, BitVec.toNat_ofNat, BitVec.toNat_ofNat, Nat.shiftLeft_eq]; omega
theorem own_narC (x : Int32) : nar .char (x.toUInt32.toUInt16.toUInt32.toInt32) = x.toUInt32.toUInt16.toUInt32.toInt32 := by
  obtain ⟨q, hq, e⟩ := own_char x
  show (x.toUInt32.toUInt16.toUInt32.toInt32).toUInt32.toUInt16.toUInt32.toInt32 = _
  rw [e, own_i2c q hq]
theorem own_narCh {c : Int32} {q : Nat} (e : c = Int32.ofNat q) (h : q < 65536) : nar .char c = c := by
  show c.toUInt32.toUInt16.toUInt32.toInt32 = c
  rw [e, own_i2c q h]
theorem own_gcAt (xs : List Int32) (i : Nat) (h : i < xs.length) (hc : ∃ q : Nat, q < 65536 ∧ xs.getD i 0 = Int32.ofNat q) : own_gc ((own_u16 xs).getD (2 * i) 0) ((own_u16 xs).getD (2 * i + 1) 0) = xs.getD i 0 := by
  obtain ⟨q, hq, e⟩ := hc
  rw [(own_u16_at xs i h).1, (own_u16_at xs i h).2, own_gcOf hq e]
theorem own_codK {k : Int32} {vs : List Int32} (h : (k = 0 ∧ vs.length = 5) ∨ (k = 1 ∧ vs.length = 10)) : nar .byte (((((5 : Int32) - (Int32.ofNat vs.length)).toUInt32 >>> ((31 : Int32) &&& 31).toUInt32).toInt32).toInt8.toInt32) = k := by
  rcases h with ⟨rfl, h⟩ | ⟨rfl, h⟩ <;> rw [h] <;> decide
/-- what a String's coder and bytes say of its chars -/
def own_str (xs : List Int32) (k : Int32) (vs : List Int32) : Prop := (k = 0 ∧ vs = own_lat xs ∧ own_pre xs = xs.length) ∨ (k = 1 ∧ vs = own_u16 xs)
theorem own_mkstr {x0 x1 x2 x3 x4 : Int32} {vs : List Int32} (h : own_pre [x0, x1, x2, x3, x4] = 5 ∧ vs = own_lat [x0, x1, x2, x3, x4] ∨ ¬ own_pre [x0, x1, x2, x3, x4] = 5 ∧ vs = own_u16 [x0, x1, x2, x3, x4]) : ∃ k, own_str [x0, x1, x2, x3, x4] k vs := by
  rcases h with ⟨a, b⟩ | ⟨a, b⟩
  · exact ⟨0, Or.inl ⟨rfl, b, a⟩⟩
  · exact ⟨1, Or.inr ⟨rfl, b⟩⟩
theorem own_strK {xs vs : List Int32} {k : Int32} (hl : xs.length = 5) (h : own_str xs k vs) : (k = 0 ∧ vs.length = 5) ∨ (k = 1 ∧ vs.length = 10) := by
  rcases h with ⟨a, b, -⟩ | ⟨a, b⟩
  · left; exact ⟨a, by rw [b, own_lat, List.length_map, hl]⟩
  · right; exact ⟨a, by rw [b, own_u16_len, hl]⟩
theorem own_k01 {k : Int32} {vs : List Int32} (h : (k = 0 ∧ vs.length = 5) ∨ (k = 1 ∧ vs.length = 10)) : k = 0 ∨ k = 1 := h.imp (·.1) (·.1)
theorem own_lenK {k : Int32} {vs : List Int32} (h : (k = 0 ∧ vs.length = 5) ∨ (k = 1 ∧ vs.length = 10)) : (Int32.ofNat vs.length) >>> (k &&& 31) = (5 : Int32) := by
  rcases h with ⟨rfl, h⟩ | ⟨rfl, h⟩ <;> rw [h] <;> decide
theorem own_ge5 {i : Nat} (h : 3 ≤ i) (h5 : i < 5) : ¬ (Int32.ofNat i + (2 : Int32)) < (5 : Int32) := by
  obtain rfl | rfl : i = 3 ∨ i = 4 := by omega
  all_goals decide
theorem own_lt5 {i : Nat} (h : i < 3) : (Int32.ofNat i + (2 : Int32)) < (5 : Int32) := by
  obtain rfl | rfl | rfl : i = 0 ∨ i = 1 ∨ i = 2 := by omega
  all_goals decide
theorem own_strL {xs vs : List Int32} {k : Int32} (h : own_str xs k vs) (i : Nat) (hi : i < xs.length) (hc : ∃ q : Nat, q < 65536 ∧ xs.getD i 0 = Int32.ofNat q) : k = 0 → own_lc (vs.getD i 0) = xs.getD i 0 := by
  intro hk
  rcases h with ⟨a, b, p⟩ | ⟨a, b⟩
  · obtain ⟨q, hq, e⟩ := hc
    have hlt := own_pre_all xs p i hi
    rw [b, own_lat_at xs i hi]
    refine own_lcOf (n := q) ?_ e
    rw [e, Int32.lt_iff_toInt_lt, own_tI (by omega), show (255 : Int32).toInt = 255 from rfl] at hlt
    omega
  · rw [a] at hk; exact absurd hk (by decide)
theorem own_strU {xs vs : List Int32} {k : Int32} (h : own_str xs k vs) (i : Nat) (hi : i < xs.length) (hc : ∃ q : Nat, q < 65536 ∧ xs.getD i 0 = Int32.ofNat q) : k = 1 → own_gc (vs.getD (2 * i) 0) (vs.getD (2 * i + 1) 0) = xs.getD i 0 := by
  intro hk
  rcases h with ⟨a, b, p⟩ | ⟨a, b⟩
  · rw [a] at hk; exact absurd hk (by decide)
  · rw [b]; exact own_gcAt xs i hi hc
theorem ef_rmNL (m : MethodId) (x0 : Int32) : entryFrame m #[(.int x0)] 1 = mkF m 0 #[.val (.int x0)] [] := by first | (simp [entryFrame, mkF, argsToLocals, Value.category]; done) | rfl
def QNL  (h0 : Heap) (n0 : Nat) (v : Option Value) (h : Heap) (L : List Loc) : Prop := v = some (.int (10 : Int32)) ∧ Fr n0 L ∧ h = h0
set_option maxRecDepth 65536 in
set_option maxHeartbeats 40000000 in
theorem rmNL (l : Launch) (Z : State) (a0 : Array Value) (hw : ∀ d ∈ tables_1, d.before a0 Z = true) (hr0 : ∀ d ∈ jdkStatics_1, d.before a0 Z = true) (ws : List Jvm.Cond)   (h0 : Heap) (n0 : Nat) (Z0 : n0 ≤ h0.size)  :
    MetFree l (⟨"java/lang/StringUTF16", "newBytesLength", "(I)I"⟩ : MethodName) (head1 (Jvm.Cond.code (⟨"java/lang/StringUTF16", "newBytesLength", "(I)I"⟩ : MethodName) jdk_52_method_3_code 1 (some .int) :: ws) ({ frames := 0, cells := 0, slots := 0, locals := 0 } : Room)) (fun a U => a = #[(.int (5 : Int32))] ∧ Z.Warmed39 U.vm ∧ U.heap = h0) (fun _ _ _ _ _ => True) (fun _ U o U' => ∃ v L, o = .returned v ∧ QNL h0 n0 v U'.heap L ∧ FrameEnd U o U' L ({ frames := 0, cells := 0, slots := 0, locals := 0 } : Room).cells ({ frames := 0, cells := 0, slots := 0, locals := 0 } : Room).slots) := by
  refine MetFree.of_bodySF (plainFor_of_name pn_0) hisR ?_
  intro p e s m args below meth c s₁ Bd hml0 hP hK
  obtain ⟨rfl, hZ, hh⟩ := hP
  have hx := Bd.exec
  have hby := Bd.bytes
  have hml : c.maxLocals = 1 := hml0
  have hown : s.vm.findClass "java/lang/StringUTF16" = some m.cls := findClass_of_methodNamed Bd.named
  have hnm := (name_of_methodNamed Bd.named Bd.method).1
  have X0 : Stand p l e ({ frames := 0, cells := 0, slots := 0, locals := 0 } : Room) s m #[(.int (5 : Int32))] below meth c s₁ [] 0 0 := Stand.of_body Bd
  have e0 : s₁.heap = h0 := by rw [← hh, Bd.state]; rfl
  have N0 := Fr.nil n0
  obtain ⟨G, hG, pr0⟩ : ∃ G : State → Prop, (∀ t, G t → Steps p.tables e below (s₁.setTop (entryFrame m #[(.int (5 : Int32))] 1)) t) ∧ (∀ t, Steps p.tables e below (s₁.setTop (mkF m 0 #[.val (.int (5 : Int32))] [])) t → G t) := ⟨_, fun _ k => k, fun t ks => castTop (ef_rmNL m (5 : Int32)) ks⟩
  have pr1 : ∀ t, Steps p.tables e below (s₁.setTop (mkF m 58 #[.val (.int (5 : Int32))] [(.int ((5 : Int32) <<< ((1 : Int32) &&& 31)))])) t → G t := fun t ks => pr0 t (by
      refine XS.iloadN X0.here hx rfl (hb hby d19_0) rfl ?_
      refine XS.ifYes X0.here hx rfl (pc0 := 1) (pc' := 12) rfl (hb hby d19_1) rfl ((if0 _ _).trans (flt (by decide)).2.1) (by decide) (by decide) ?_
      refine XS.iloadN X0.here hx rfl (hb hby d19_12) rfl ?_
      refine X0.ldcInt hx hown (mvT hZ (hw _ (List.mem_of_getElem? (i := 84) rfl))) (g := (mkF m 13 #[.val (.int (5 : Int32))] [(.int (5 : Int32))])) rfl (hb hby d19_13) _ ?_
      refine XS.icmpYes X0.here hx rfl (pc0 := 15) (pc' := 55) rfl (hb hby d19_15) rfl (tlt (by decide)).1 (by decide) (by decide) ?_
      refine XS.iloadN X0.here hx rfl (hb hby d19_55) rfl ?_
      refine XS.iconst X0.here hx rfl (hb hby d19_56) ?_
      refine XS.ishl X0.here hx rfl (hb hby d19_57) rfl ?_
      exact ks)
  rw [(show (5 : Int32) <<< ((1 : Int32) &&& 31) = (10 : Int32) from by decide)] at pr1
  obtain ⟨fs, hr, hrun, hended, hW, hsame⟩ := X0.leave (v := some (.int (10 : Int32))) (fun h => by rw [Bd.returns] at h; cases h)
  refine ⟨_, _, hG _ (pr1 _ ?_), hrun, hended, _, _, rfl, ?_, ⟨_, rfl⟩, hW, hsame.mono (by decide) (by decide)⟩
  · exact retI X0 hx Bd.returns (hb hby d19_58) hr
  · show QNL h0 n0 _ s₁.heap _
    rw [e0]
    exact ⟨rfl, N0, rfl⟩
theorem ef_rmNF (m : MethodId) (x0 : Int32) : entryFrame m #[(.int x0)] 1 = mkF m 0 #[.val (.int x0)] [] := by first | (simp [entryFrame, mkF, argsToLocals, Value.category]; done) | rfl
def QNF (Z : State) (h0 : Heap) (n0 : Nat) (v : Option Value) (h : Heap) (L : List Loc) : Prop := ∃ b : Addr, v = some (.ref b) ∧ Fr n0 L ∧ Keep h0 h [] ∧ n0 ≤ b ∧ h0.size ≤ b ∧ BA Z h b (List.replicate 10 0)
set_option maxRecDepth 65536 in
set_option maxHeartbeats 40000000 in
theorem rmNF (l : Launch) (Z : State) (a0 : Array Value) (hw : ∀ d ∈ tables_1, d.before a0 Z = true) (hr0 : ∀ d ∈ jdkStatics_1, d.before a0 Z = true) (ws : List Jvm.Cond)   (h0 : Heap) (n0 : Nat) (Z0 : n0 ≤ h0.size)  :
    MetFree l (⟨"java/lang/StringUTF16", "newBytesFor", "(I)[B"⟩ : MethodName) (head1 (Jvm.Cond.code (⟨"java/lang/StringUTF16", "newBytesFor", "(I)[B"⟩ : MethodName) jdk_52_method_2_code 1 (some (.array .byte)) :: ws) ({ frames := 1, cells := 1, slots := 10, locals := 12 } : Room)) (fun a U => a = #[(.int (5 : Int32))] ∧ Z.Warmed39 U.vm ∧ U.heap = h0) (fun _ _ _ _ _ => True) (fun _ U o U' => ∃ v L, o = .returned v ∧ QNF Z h0 n0 v U'.heap L ∧ FrameEnd U o U' L ({ frames := 1, cells := 1, slots := 10, locals := 12 } : Room).cells ({ frames := 1, cells := 1, slots := 10, locals := 12 } : Room).slots) := by
  refine MetFree.of_bodySF (plainFor_of_name pn_0) hisR ?_
  intro p e s m args below meth c s₁ Bd hml0 hP hK
  obtain ⟨rfl, hZ, hh⟩ := hP
  have hx := Bd.exec
  have hby := Bd.bytes
  have hml : c.maxLocals = 1 := hml0
  have hown : s.vm.findClass "java/lang/StringUTF16" = some m.cls := findClass_of_methodNamed Bd.named
  have hnm := (name_of_methodNamed Bd.named Bd.method).1
  have X0 : Stand p l e ({ frames := 1, cells := 1, slots := 10, locals := 12 } : Room) s m #[(.int (5 : Int32))] below meth c s₁ [] 0 0 := Stand.of_body Bd
  have e0 : s₁.heap = h0 := by rw [← hh, Bd.state]; rfl
  have N0 := Fr.nil n0
  obtain ⟨G, hG, pr0⟩ : ∃ G : State → Prop, (∀ t, G t → Steps p.tables e below (s₁.setTop (entryFrame m #[(.int (5 : Int32))] 1)) t) ∧ (∀ t, Steps p.tables e below (s₁.setTop (mkF m 0 #[.val (.int (5 : Int32))] [])) t → G t) := ⟨_, fun _ k => k, fun t ks => castTop (ef_rmNF m (5 : Int32)) ks⟩
  have K0 : Keep h0 h0 [] := Keep.refl _ _
  have pr2 : ∀ t, Steps p.tables e below (s₁.setTop (mkF m 1 #[.val (.int (5 : Int32))] [(.int (5 : Int32))])) t → G t := fun t ks => pr0 t (by
      refine XS.iloadN X0.here hx rfl (hb hby d18_0) rfl ?_
      exact ks)
  obtain ⟨_, _, ⟨T3, L3, k3, n3⟩, -, X3, hP3, st3⟩ := Jvm.LawKit.callS X0 hx (y := (⟨"java/lang/StringUTF16", "newBytesLength", "(I)I"⟩ : MethodName)) hown (mvT hZ (hw _ (List.mem_of_getElem? (i := 81) rfl))) (mvT hZ (hw _ (List.mem_of_getElem? (i := 82) rfl))) (mvT hZ (hw _ (List.mem_of_getElem? (i := 19) rfl))) (mvT hZ (hw _ (List.mem_of_getElem? (i := 83) rfl))) (by decide) (backOf (W := 0) (rmNL l Z a0 hw hr0 [] h0 n0 Z0) hZ (hw _ (List.mem_of_getElem? (i := 83) rfl)) (hw _ (List.mem_of_getElem? (i := 19) rfl)) (by decide) (by decide)) (g := (mkF m 1 #[.val (.int (5 : Int32))] [(.int (5 : Int32))])) rfl (by rw [hml]; rfl) (argsL := [(.int (5 : Int32))]) (rest := []) (lenOf pd_0 rfl) rfl (by show 2 * 0 + _ ≤ _; exact Nat.le_of_eq rfl) (hb hby d18_1) (fun _ _ => ⟨rfl, e0, (by decide : 0 + 0 ≤ _), (by decide : 0 + 0 ≤ _)⟩)
  obtain ⟨Lc3, hQ3, X3⟩ := own_out hP3 X3
  clear hP3
  dsimp only [Pt.U, Pt.locs, Pt.cells, Pt.slots] at X3 st3 hQ3
  obtain ⟨rfl, Nq3, eh3⟩ := hQ3
  have N3 := Fr.app N0 Nq3
  have pr4 : ∀ t, Steps p.tables e below (T3.setTop (mkF m 4 #[.val (.int (5 : Int32))] [(.int (10 : Int32))])) t → G t := fun t ks => pr2 t (st3 t ks)
  obtain ⟨T5, h5, X5, e5, E5, A5, st5⟩ := ba_new X3 hx hZ (hw _ (List.mem_of_getElem? (i := 21) rfl)) eh3 (g := (mkF m 4 #[.val (.int (5 : Int32))] [(.int (10 : Int32))])) rfl (hb hby d18_4) rfl (N := 10) rfl (cap := 10) (by decide) (by decide) (by decide) (by decide)
  obtain ⟨b, g5⟩ : ∃ z, z = h0.size := ⟨_, rfl⟩
  rw [← g5] at A5 st5
  have g_b : n0 ≤ b := Nat.le_trans Z0 (Nat.le_of_eq g5.symm)
  have sz_b : h0.size ≤ b := Nat.le_trans K0.1 (Nat.le_of_eq g5.symm)
  have V_b := A5
  have Z5 : n0 ≤ h5.size := Nat.le_trans Z0 E5.1
  have K5 := K0.ext E5
  have pr6 : ∀ t, Steps p.tables e below (T5.setTop (mkF m 6 #[.val (.int (5 : Int32))] [(.ref b)])) t → G t := fun t ks => pr4 t (st5 t ks)
  obtain ⟨fs, hr, hrun, hended, hW, hsame⟩ := X5.leave (v := some (.ref b)) (fun h => by rw [Bd.returns] at h; cases h)
  refine ⟨_, _, hG _ (pr6 _ ?_), hrun, hended, _, _, rfl, ?_, ⟨_, rfl⟩, hW, hsame.mono (by decide) (by decide)⟩
  · jvm_step X5.here [X5.here.top, hx, (hb hby d18_6), X5.method', Bd.returns, Value.isRef, FieldType.isReference]
    first | (intro acts; rw [hr _ acts rfl rfl rfl]) | rw [hr _ _ rfl rfl rfl]
    exact Steps.refl _
  · show QNF Z h0 n0 _ T5.heap _
    rw [e5]
    exact ⟨b, rfl, N3, K5, g_b, sz_b, V_b⟩
theorem ef_rmPC (m : MethodId) (x0 : Addr) (x1 : Int32) (x2 : Int32) : entryFrame m #[(.ref x0), (.int x1), (.int x2)] 3 = mkF m 0 #[.val (.ref x0), .val (.int x1), .val (.int x2)] [] := by first | (simp [entryFrame, mkF, argsToLocals, Value.category]; done) | rfl
def QPC (Z : State) (a1 : Addr) (us : List Int32) (i : Nat) (p3 : Int32) (h0 : Heap) (n0 : Nat) (v : Option Value) (h : Heap) (L : List Loc) : Prop := v = none ∧ Fr n0 L ∧ Keep h0 h [a1] ∧ BA Z h a1 ((us.set (2 * i) (own_b0 p3)).set (2 * i + 1) (own_b1 p3))
set_option maxRecDepth 65536 in
set_option maxHeartbeats 40000000 in
theorem rmPC (l : Launch) (Z : State) (a0 : Array Value) (hw : ∀ d ∈ tables_1, d.before a0 Z = true) (hr0 : ∀ d ∈ jdkStatics_1, d.before a0 Z = true) (ws : List Jvm.Cond) (a1 : Addr) (p2 : Int32) (p3 : Int32) (us : List Int32) (i : Nat) (fv : Value) (cs : Int32) (h0 : Heap) (n0 : Nat) (Z0 : n0 ≤ h0.size) (V_a1 : BA Z h0 a1 us) (e2 : p2 = Int32.ofNat i) (hi : 2 * i + 1 < us.length) (hul : us.length ≤ 100) (g_a1 : n0 ≤ a1) (J_ : JS Z n0 h0 fv cs) :
    MetFree l (⟨"java/lang/StringUTF16", "putChar", "([BII)V"⟩ : MethodName) (head1 (Jvm.Cond.code (⟨"java/lang/StringUTF16", "putChar", "([BII)V"⟩ : MethodName) jdk_52_method_4_code 3 none :: ws) ({ frames := 0, cells := 0, slots := 0, locals := 0 } : Room)) (fun a U => a = #[(.ref a1), (.int p2), (.int p3)] ∧ Z.Warmed39 U.vm ∧ U.heap = h0) (fun _ _ _ _ _ => True) (fun _ U o U' => ∃ v L, o = .returned v ∧ QPC Z a1 us i p3 h0 n0 v U'.heap L ∧ FrameEnd U o U' L ({ frames := 0, cells := 0, slots := 0, locals := 0 } : Room).cells ({ frames := 0, cells := 0, slots := 0, locals := 0 } : Room).slots) := by
  refine MetFree.of_bodySF (plainFor_of_name pn_0) hisR ?_
  intro p e s m args below meth c s₁ Bd hml0 hP hK
  obtain ⟨rfl, hZ, hh⟩ := hP
  have hx := Bd.exec
  have hby := Bd.bytes
  have hml : c.maxLocals = 3 := hml0
  have hown : s.vm.findClass "java/lang/StringUTF16" = some m.cls := findClass_of_methodNamed Bd.named
  have hnm := (name_of_methodNamed Bd.named Bd.method).1
  have X0 : Stand p l e ({ frames := 0, cells := 0, slots := 0, locals := 0 } : Room) s m #[(.ref a1), (.int p2), (.int p3)] below meth c s₁ [] 0 0 := Stand.of_body Bd
  have e0 : s₁.heap = h0 := by rw [← hh, Bd.state]; rfl
  have N0 := Fr.nil n0
  obtain ⟨G, hG, pr0⟩ : ∃ G : State → Prop, (∀ t, G t → Steps p.tables e below (s₁.setTop (entryFrame m #[(.ref a1), (.int p2), (.int p3)] 3)) t) ∧ (∀ t, Steps p.tables e below (s₁.setTop (mkF m 0 #[.val (.ref a1), .val (.int p2), .val (.int p3)] [])) t → G t) := ⟨_, fun _ k => k, fun t ks => castTop (ef_rmPC m a1 p2 p3) ks⟩
  have K0 : Keep h0 h0 [a1] := Keep.refl _ _
  obtain ⟨T7, X7, e7, st7⟩ := getS2 X0 hx hZ hown (host := "") (Or.inl (hw _ (List.mem_of_getElem? (i := 88) rfl))) Via.refl e0 J_.2.2.2.2.1.sta (g := (mkF m 0 #[.val (.ref a1), .val (.int p2), .val (.int p3)] [])) rfl (hb hby d20_0)
  have pr8 : ∀ t, Steps p.tables e below (T7.setTop (mkF m 3 #[.val (.ref a1), .val (.int p2), .val (.int p3)] [(.int (1 : Int32))])) t → G t := fun t ks => pr0 t (st7 t ks)
  have pr9 : ∀ t, Steps p.tables e below (T7.setTop (mkF m 32 #[.val (.ref a1), .val (.int (p2 <<< ((1 : Int32) &&& 31))), .val (.int p3)] [])) t → G t := fun t ks => pr8 t (by
      refine XS.ifYes X7.here hx rfl (pc0 := 3) (pc' := 28) rfl (hb hby d20_3) rfl ((if0 _ _).trans (feq (by decide)).2) (by decide) (by decide) ?_
      refine XS.iloadN X7.here hx rfl (hb hby d20_28) rfl ?_
      refine XS.iconst X7.here hx rfl (hb hby d20_29) ?_
      refine XS.ishl X7.here hx rfl (hb hby d20_30) rfl ?_
      refine XS.istoreN X7.here hx rfl (hb hby d20_31) rfl (l' := #[.val (.ref a1), .val (.int (p2 <<< ((1 : Int32) &&& 31))), .val (.int p3)]) rfl ?_
      exact ks)
  rw [own_dbl e2 (by omega)] at pr9
  have pr10 : ∀ t, Steps p.tables e below (T7.setTop (mkF m 38 #[.val (.ref a1), .val (.int ((Int32.ofNat (2 * i)) + (1 : Int32))), .val (.int p3)] [(.int p3), (.int (Int32.ofNat (2 * i))), (.ref a1)])) t → G t := fun t ks => pr9 t (by
      refine XS.aloadN X7.here hx rfl (hb hby d20_32) rfl rfl ?_
      refine XS.iloadN X7.here hx rfl (hb hby d20_33) rfl ?_
      refine XS.iinc X7.here hx rfl (hb hby d20_34) rfl (l' := #[.val (.ref a1), .val (.int ((Int32.ofNat (2 * i)) + (1 : Int32))), .val (.int p3)]) rfl ?_
      refine XS.iloadN X7.here hx rfl (hb hby d20_37) rfl ?_
      exact ks)
  rw [own_one (i := 2 * i)] at pr10
  obtain ⟨T11, X11, e11, st11⟩ := getS2 X7 hx hZ hown (host := "") (Or.inl (hw _ (List.mem_of_getElem? (i := 89) rfl))) Via.refl e7 J_.2.2.2.2.2.1.sta (g := (mkF m 38 #[.val (.ref a1), .val (.int (Int32.ofNat (2 * i + 1))), .val (.int p3)] [(.int p3), (.int (Int32.ofNat (2 * i))), (.ref a1)])) rfl (hb hby d20_38)
  have pr12 : ∀ t, Steps p.tables e below (T11.setTop (mkF m 41 #[.val (.ref a1), .val (.int (Int32.ofNat (2 * i + 1))), .val (.int p3)] [(.int (0 : Int32)), (.int p3), (.int (Int32.ofNat (2 * i))), (.ref a1)])) t → G t := fun t ks => pr10 t (st11 t ks)
  have pr13 : ∀ t, Steps p.tables e below (T11.setTop (mkF m 43 #[.val (.ref a1), .val (.int (Int32.ofNat (2 * i + 1))), .val (.int p3)] [(.int ((p3 >>> ((0 : Int32) &&& 31)).toInt8.toInt32)), (.int (Int32.ofNat (2 * i))), (.ref a1)])) t → G t := fun t ks => pr12 t (by
      refine XS.ishr X11.here hx rfl (hb hby d20_41) rfl ?_
      refine XS.i2b X11.here hx rfl (hb hby d20_42) rfl ?_
      exact ks)
  obtain ⟨T14, h14, X14, e14, W14, V14, st14⟩ := ba_st X11 hx hZ e11 V_a1 (j := (Int32.ofNat (2 * i))) (2 * i) rfl (by omega) (y := (own_b0 p3)) (own_narB _) (g := (mkF m 43 #[.val (.ref a1), .val (.int (Int32.ofNat (2 * i + 1))), .val (.int p3)] [(.int ((p3 >>> ((0 : Int32) &&& 31)).toInt8.toInt32)), (.int (Int32.ofNat (2 * i))), (.ref a1)])) rfl rfl (hb hby d20_43)
  replace V_a1 := V14
  replace J_ := J_.wr W14
  have N14 := Fr.snoc X14 N0 g_a1
  have Z14 : n0 ≤ h14.size := Nat.le_trans Z0 (Keep.of_wr W14).1
  have K14 := K0.wr W14 (Or.inl (List.mem_of_getElem? (i := 0) rfl))
  have pr15 : ∀ t, Steps p.tables e below (T14.setTop (mkF m 44 #[.val (.ref a1), .val (.int (Int32.ofNat (2 * i + 1))), .val (.int p3)] [])) t → G t := fun t ks => pr13 t (st14 t ks)
  have pr16 : ∀ t, Steps p.tables e below (T14.setTop (mkF m 47 #[.val (.ref a1), .val (.int (Int32.ofNat (2 * i + 1))), .val (.int p3)] [(.int p3), (.int (Int32.ofNat (2 * i + 1))), (.ref a1)])) t → G t := fun t ks => pr15 t (by
      refine XS.aloadN X14.here hx rfl (hb hby d20_44) rfl rfl ?_
      refine XS.iloadN X14.here hx rfl (hb hby d20_45) rfl ?_
      refine XS.iloadN X14.here hx rfl (hb hby d20_46) rfl ?_
      exact ks)
  obtain ⟨T17, X17, e17, st17⟩ := getS2 X14 hx hZ hown (host := "") (Or.inl (hw _ (List.mem_of_getElem? (i := 90) rfl))) Via.refl e14 J_.2.2.2.2.2.2.sta (g := (mkF m 47 #[.val (.ref a1), .val (.int (Int32.ofNat (2 * i + 1))), .val (.int p3)] [(.int p3), (.int (Int32.ofNat (2 * i + 1))), (.ref a1)])) rfl (hb hby d20_47)
  have pr18 : ∀ t, Steps p.tables e below (T17.setTop (mkF m 50 #[.val (.ref a1), .val (.int (Int32.ofNat (2 * i + 1))), .val (.int p3)] [(.int (8 : Int32)), (.int p3), (.int (Int32.ofNat (2 * i + 1))), (.ref a1)])) t → G t := fun t ks => pr16 t (st17 t ks)
  have pr19 : ∀ t, Steps p.tables e below (T17.setTop (mkF m 52 #[.val (.ref a1), .val (.int (Int32.ofNat (2 * i + 1))), .val (.int p3)] [(.int ((p3 >>> ((8 : Int32) &&& 31)).toInt8.toInt32)), (.int (Int32.ofNat (2 * i + 1))), (.ref a1)])) t → G t := fun t ks => pr18 t (by
      refine XS.ishr X17.here hx rfl (hb hby d20_50) rfl ?_
      refine XS.i2b X17.here hx rfl (hb hby d20_51) rfl ?_
      exact ks)
  obtain ⟨T20, h20, X20, e20, W20, V20, st20⟩ := ba_st X17 hx hZ e17 V_a1 (j := (Int32.ofNat (2 * i + 1))) (2 * i + 1) rfl (by rw [List.length_set]; omega) (y := (own_b1 p3)) (own_narB _) (g := (mkF m 52 #[.val (.ref a1), .val (.int (Int32.ofNat (2 * i + 1))), .val (.int p3)] [(.int ((p3 >>> ((8 : Int32) &&& 31)).toInt8.toInt32)), (.int (Int32.ofNat (2 * i + 1))), (.ref a1)])) rfl rfl (hb hby d20_52)
  replace V_a1 := V20
  replace J_ := J_.wr W20
  have N20 := Fr.snoc X20 N14 g_a1
  have Z20 : n0 ≤ h20.size := Nat.le_trans Z14 (Keep.of_wr W20).1
  have K20 := K14.wr W20 (Or.inl (List.mem_of_getElem? (i := 0) rfl))
  have pr21 : ∀ t, Steps p.tables e below (T20.setTop (mkF m 53 #[.val (.ref a1), .val (.int (Int32.ofNat (2 * i + 1))), .val (.int p3)] [])) t → G t := fun t ks => pr19 t (st20 t ks)
  obtain ⟨fs, hr, hrun, hended, hW, hsame⟩ := X20.leave (v := none) (fun _ => rfl)
  refine ⟨_, _, hG _ (pr21 _ ?_), hrun, hended, _, _, rfl, ?_, ⟨_, rfl⟩, hW, hsame.mono (by decide) (by decide)⟩
  · exact X20.returnOut hx Bd.returns (hb hby d20_53) hr
  · show QPC Z a1 us i p3 h0 n0 _ T20.heap _
    rw [e20]
    exact ⟨rfl, N20, K20, V_a1⟩
theorem ef_rmTB (m : MethodId) (x0 : Addr) (x1 : Int32) (x2 : Int32) : entryFrame m #[(.ref x0), (.int x1), (.int x2)] 5 = mkF m 0 #[.val (.ref x0), .val (.int x1), .val (.int x2), .unset, .unset] [] := by first | (simp [entryFrame, mkF, argsToLocals, Value.category]; done) | rfl
def QTB (Z : State) (xs : List Int32) (h0 : Heap) (n0 : Nat) (v : Option Value) (h : Heap) (L : List Loc) : Prop := ∃ b : Addr, v = some (.ref b) ∧ Fr n0 L ∧ Keep h0 h [] ∧ n0 ≤ b ∧ h0.size ≤ b ∧ BA Z h b (own_u16 xs)
set_option maxRecDepth 65536 in
set_option maxHeartbeats 40000000 in
theorem rmTB (l : Launch) (Z : State) (a0 : Array Value) (hw : ∀ d ∈ tables_1, d.before a0 Z = true) (hr0 : ∀ d ∈ jdkStatics_1, d.before a0 Z = true) (ws : List Jvm.Cond) (a1 : Addr) (x0 x1 x2 x3 x4 : Int32) (fv : Value) (cs : Int32) (h0 : Heap) (n0 : Nat) (Z0 : n0 ≤ h0.size) (V_a1 : CA Z h0 a1 [x0, x1, x2, x3, x4]) (J_ : JS Z n0 h0 fv cs) :
    MetFree l (⟨"java/lang/StringUTF16", "toBytes", "([CII)[B"⟩ : MethodName) (head1 (Jvm.Cond.code (⟨"java/lang/StringUTF16", "toBytes", "([CII)[B"⟩ : MethodName) jdk_52_method_14_code 5 (some (.array .byte)) :: ws) ({ frames := 2, cells := 1, slots := 10, locals := 24 } : Room)) (fun a U => a = #[(.ref a1), (.int (0 : Int32)), (.int (5 : Int32))] ∧ Z.Warmed39 U.vm ∧ U.heap = h0) (fun _ _ _ _ _ => True) (fun _ U o U' => ∃ v L, o = .returned v ∧ QTB Z [x0, x1, x2, x3, x4] h0 n0 v U'.heap L ∧ FrameEnd U o U' L ({ frames := 2, cells := 1, slots := 10, locals := 24 } : Room).cells ({ frames := 2, cells := 1, slots := 10, locals := 24 } : Room).slots) := by
  refine MetFree.of_bodySF (plainFor_of_name pn_0) hisR ?_
  intro p e s m args below meth c s₁ Bd hml0 hP hK
  obtain ⟨rfl, hZ, hh⟩ := hP
  have hx := Bd.exec
  have hby := Bd.bytes
  have hml : c.maxLocals = 5 := hml0
  have hown : s.vm.findClass "java/lang/StringUTF16" = some m.cls := findClass_of_methodNamed Bd.named
  have hnm := (name_of_methodNamed Bd.named Bd.method).1
  have X0 : Stand p l e ({ frames := 2, cells := 1, slots := 10, locals := 24 } : Room) s m #[(.ref a1), (.int (0 : Int32)), (.int (5 : Int32))] below meth c s₁ [] 0 0 := Stand.of_body Bd
  have e0 : s₁.heap = h0 := by rw [← hh, Bd.state]; rfl
  have N0 := Fr.nil n0
  obtain ⟨G, hG, pr0⟩ : ∃ G : State → Prop, (∀ t, G t → Steps p.tables e below (s₁.setTop (entryFrame m #[(.ref a1), (.int (0 : Int32)), (.int (5 : Int32))] 5)) t) ∧ (∀ t, Steps p.tables e below (s₁.setTop (mkF m 0 #[.val (.ref a1), .val (.int (0 : Int32)), .val (.int (5 : Int32)), .unset, .unset] [])) t → G t) := ⟨_, fun _ k => k, fun t ks => castTop (ef_rmTB m a1 (0 : Int32) (5 : Int32)) ks⟩
  have K0 : Keep h0 h0 [] := Keep.refl _ _
  have pr22 : ∀ t, Steps p.tables e below (s₁.setTop (mkF m 1 #[.val (.ref a1), .val (.int (0 : Int32)), .val (.int (5 : Int32)), .unset, .unset] [(.int (5 : Int32))])) t → G t := fun t ks => pr0 t (by
      refine XS.iloadN X0.here hx rfl (hb hby d17_0) rfl ?_
      exact ks)
  obtain ⟨_, _, ⟨T23, L23, k23, n23⟩, -, X23, hP23, st23⟩ := Jvm.LawKit.callS X0 hx (y := (⟨"java/lang/StringUTF16", "newBytesFor", "(I)[B"⟩ : MethodName)) hown (mvT hZ (hw _ (List.mem_of_getElem? (i := 78) rfl))) (mvT hZ (hw _ (List.mem_of_getElem? (i := 79) rfl))) (mvT hZ (hw _ (List.mem_of_getElem? (i := 19) rfl))) (mvT hZ (hw _ (List.mem_of_getElem? (i := 80) rfl))) (by decide) (backOf (W := 0) (rmNF l Z a0 hw hr0 [] h0 n0 Z0) hZ (hw _ (List.mem_of_getElem? (i := 80) rfl)) (hw _ (List.mem_of_getElem? (i := 19) rfl)) (by decide) (by decide)) (g := (mkF m 1 #[.val (.ref a1), .val (.int (0 : Int32)), .val (.int (5 : Int32)), .unset, .unset] [(.int (5 : Int32))])) rfl (by rw [hml]; rfl) (argsL := [(.int (5 : Int32))]) (rest := []) (lenOf pd_1 rfl) rfl (by show 2 * 0 + _ ≤ _; exact Nat.le_of_eq rfl) (hb hby d17_1) (fun _ _ => ⟨rfl, e0, (by decide : 0 + 1 ≤ _), (by decide : 0 + 10 ≤ _)⟩)
  obtain ⟨Lc23, hQ23, X23⟩ := own_out hP23 X23
  clear hP23
  dsimp only [Pt.U, Pt.locs, Pt.cells, Pt.slots] at X23 st23 hQ23
  obtain ⟨b, rfl, Nq23, Kq23, g_b, szq_b, V_b⟩ := hQ23
  have ne_a1_b : a1 ≠ b := Nat.ne_of_lt (Nat.lt_of_lt_of_le V_a1.lt szq_b)
  have sz_b : h0.size ≤ b := Nat.le_trans K0.1 szq_b
  replace V_a1 := V_a1.keep Kq23 nin0
  replace J_ := J_.keep Kq23 all0
  have Z23 : n0 ≤ T23.heap.size := Nat.le_trans Z0 Kq23.1
  have K23 := K0.trans Kq23 all0
  have N23 := Fr.app N0 Nq23
  have pr24 : ∀ t, Steps p.tables e below (T23.setTop (mkF m 4 #[.val (.ref a1), .val (.int (0 : Int32)), .val (.int (5 : Int32)), .unset, .unset] [(.ref b)])) t → G t := fun t ks => pr22 t (st23 t ks)
  have pr25 : ∀ t, Steps p.tables e below (T23.setTop (mkF m 20 #[.val (.ref a1), .val (.int (0 : Int32)), .val (.int (5 : Int32)), .val (.ref b), .val (.int (0 : Int32))] [(.int x0), (.int (0 : Int32)), (.ref b)])) t → G t := fun t ks => pr24 t (by
      refine XS.astoreN X23.here hx rfl (hb hby d17_4) rfl rfl (l' := #[.val (.ref a1), .val (.int (0 : Int32)), .val (.int (5 : Int32)), .val (.ref b), .unset]) rfl ?_
      refine XS.iconst X23.here hx rfl (hb hby d17_5) ?_
      refine XS.istore X23.here hx rfl (hb hby d17_6) rfl (l' := #[.val (.ref a1), .val (.int (0 : Int32)), .val (.int (5 : Int32)), .val (.ref b), .val (.int (0 : Int32))]) rfl ?_
      refine XS.iload X23.here hx rfl (hb hby d17_8) rfl ?_
      refine XS.iloadN X23.here hx rfl (hb hby d17_10) rfl ?_
      refine XS.icmpNo X23.here hx rfl (hb hby d17_11) rfl (tlt (by decide)).2.1 ?_
      refine XS.aloadN X23.here hx rfl (hb hby d17_14) rfl rfl ?_
      refine XS.iload X23.here hx rfl (hb hby d17_15) rfl ?_
      refine XS.aloadN X23.here hx rfl (hb hby d17_17) rfl rfl ?_
      refine XS.iloadN X23.here hx rfl (hb hby d17_18) rfl ?_
      refine ca_ld X23 hx hZ rfl V_a1 (j := (0 : Int32)) 0 rfl (Nat.le_of_ble_eq_true rfl) (w := x0) rfl (g := (mkF m 19 #[.val (.ref a1), .val (.int (0 : Int32)), .val (.int (5 : Int32)), .val (.ref b), .val (.int (0 : Int32))] [(.int (0 : Int32)), (.ref a1), (.int (0 : Int32)), (.ref b)])) rfl rfl (hb hby d17_19) _ ?_
      exact ks)
  obtain ⟨_, _, ⟨T26, L26, k26, n26⟩, -, X26, hP26, st26⟩ := Jvm.LawKit.callS X23 hx (y := (⟨"java/lang/StringUTF16", "putChar", "([BII)V"⟩ : MethodName)) hown (mvT hZ (hw _ (List.mem_of_getElem? (i := 85) rfl))) (mvT hZ (hw _ (List.mem_of_getElem? (i := 86) rfl))) (mvT hZ (hw _ (List.mem_of_getElem? (i := 19) rfl))) (mvT hZ (hw _ (List.mem_of_getElem? (i := 87) rfl))) (by decide) (backOf (W := 0) (rmPC l Z a0 hw hr0 [] b (0 : Int32) x0 (List.replicate 10 0) 0 fv cs T23.heap n0 Z23 V_b rfl (Nat.le_of_ble_eq_true rfl) (Nat.le_of_ble_eq_true rfl) g_b J_) hZ (hw _ (List.mem_of_getElem? (i := 87) rfl)) (hw _ (List.mem_of_getElem? (i := 19) rfl)) (by decide) (by decide)) (g := (mkF m 20 #[.val (.ref a1), .val (.int (0 : Int32)), .val (.int (5 : Int32)), .val (.ref b), .val (.int (0 : Int32))] [(.int x0), (.int (0 : Int32)), (.ref b)])) rfl (by rw [hml]; rfl) (argsL := [(.ref b), (.int (0 : Int32)), (.int x0)]) (rest := []) (lenOf pd_2 rfl) rfl (by show 2 * 0 + _ ≤ _; exact Nat.le_of_eq rfl) (hb hby d17_20) (fun _ _ => ⟨rfl, rfl, (by decide : 1 + 0 ≤ _), (by decide : 10 + 0 ≤ _)⟩)
  obtain ⟨Lc26, hQ26, X26⟩ := own_out hP26 X26
  clear hP26
  dsimp only [Pt.U, Pt.locs, Pt.cells, Pt.slots] at X26 st26 hQ26
  obtain ⟨rfl, Nq26, Kq26, V_b⟩ := hQ26
  replace V_a1 := V_a1.keep Kq26 (ninS ne_a1_b nin0)
  replace J_ := J_.keep Kq26 (allS g_b all0)
  have Z26 : n0 ≤ T26.heap.size := Nat.le_trans Z23 Kq26.1
  have K26 := K23.trans Kq26 (allS (Or.inr sz_b) all0)
  have N26 := Fr.app N23 Nq26
  have pr27 : ∀ t, Steps p.tables e below (T26.setTop (mkF m 23 #[.val (.ref a1), .val (.int (0 : Int32)), .val (.int (5 : Int32)), .val (.ref b), .val (.int (0 : Int32))] [])) t → G t := fun t ks => pr25 t (st26 t ks)
  have pr28 : ∀ t, Steps p.tables e below (T26.setTop (mkF m 8 #[.val (.ref a1), .val (.int ((0 : Int32) + (1 : Int32))), .val (.int (5 : Int32)), .val (.ref b), .val (.int ((0 : Int32) + (1 : Int32)))] [])) t → G t := fun t ks => pr27 t (by
      refine XS.iinc X26.here hx rfl (hb hby d17_23) rfl (l' := #[.val (.ref a1), .val (.int ((0 : Int32) + (1 : Int32))), .val (.int (5 : Int32)), .val (.ref b), .val (.int (0 : Int32))]) rfl ?_
      refine XS.iinc X26.here hx rfl (hb hby d17_26) rfl (l' := #[.val (.ref a1), .val (.int ((0 : Int32) + (1 : Int32))), .val (.int (5 : Int32)), .val (.ref b), .val (.int ((0 : Int32) + (1 : Int32)))]) rfl ?_
      refine XS.goto X26.here hx rfl (pc0 := 29) (pc' := 8) rfl (hb hby d17_29) (by decide) (by decide) ?_
      exact ks)
  rw [(show (0 : Int32) + (1 : Int32) = (1 : Int32) from rfl)] at pr28
  have pr29 : ∀ t, Steps p.tables e below (T26.setTop (mkF m 20 #[.val (.ref a1), .val (.int (1 : Int32)), .val (.int (5 : Int32)), .val (.ref b), .val (.int (1 : Int32))] [(.int x1), (.int (1 : Int32)), (.ref b)])) t → G t := fun t ks => pr28 t (by
      refine XS.iload X26.here hx rfl (hb hby d17_8) rfl ?_
      refine XS.iloadN X26.here hx rfl (hb hby d17_10) rfl ?_
      refine XS.icmpNo X26.here hx rfl (hb hby d17_11) rfl (tlt (by decide)).2.1 ?_
      refine XS.aloadN X26.here hx rfl (hb hby d17_14) rfl rfl ?_
      refine XS.iload X26.here hx rfl (hb hby d17_15) rfl ?_
      refine XS.aloadN X26.here hx rfl (hb hby d17_17) rfl rfl ?_
      refine XS.iloadN X26.here hx rfl (hb hby d17_18) rfl ?_
      refine ca_ld X26 hx hZ rfl V_a1 (j := (1 : Int32)) 1 rfl (Nat.le_of_ble_eq_true rfl) (w := x1) rfl (g := (mkF m 19 #[.val (.ref a1), .val (.int (1 : Int32)), .val (.int (5 : Int32)), .val (.ref b), .val (.int (1 : Int32))] [(.int (1 : Int32)), (.ref a1), (.int (1 : Int32)), (.ref b)])) rfl rfl (hb hby d17_19) _ ?_
      exact ks)
  obtain ⟨_, _, ⟨T30, L30, k30, n30⟩, -, X30, hP30, st30⟩ := Jvm.LawKit.callS X26 hx (y := (⟨"java/lang/StringUTF16", "putChar", "([BII)V"⟩ : MethodName)) hown (mvT hZ (hw _ (List.mem_of_getElem? (i := 85) rfl))) (mvT hZ (hw _ (List.mem_of_getElem? (i := 86) rfl))) (mvT hZ (hw _ (List.mem_of_getElem? (i := 19) rfl))) (mvT hZ (hw _ (List.mem_of_getElem? (i := 87) rfl))) (by decide) (backOf (W := 0) (rmPC l Z a0 hw hr0 [] b (1 : Int32) x1 (((List.replicate 10 0).set (2 * 0) (own_b0 x0)).set (2 * 0 + 1) (own_b1 x0)) 1 fv cs T26.heap n0 Z26 V_b rfl (Nat.le_of_ble_eq_true rfl) (Nat.le_of_ble_eq_true rfl) g_b J_) hZ (hw _ (List.mem_of_getElem? (i := 87) rfl)) (hw _ (List.mem_of_getElem? (i := 19) rfl)) (by decide) (by decide)) (g := (mkF m 20 #[.val (.ref a1), .val (.int (1 : Int32)), .val (.int (5 : Int32)), .val (.ref b), .val (.int (1 : Int32))] [(.int x1), (.int (1 : Int32)), (.ref b)])) rfl (by rw [hml]; rfl) (argsL := [(.ref b), (.int (1 : Int32)), (.int x1)]) (rest := []) (lenOf pd_2 rfl) rfl (by show 2 * 0 + _ ≤ _; exact Nat.le_of_eq rfl) (hb hby d17_20) (fun _ _ => ⟨rfl, rfl, (by decide : 1 + 0 ≤ _), (by decide : 10 + 0 ≤ _)⟩)
  obtain ⟨Lc30, hQ30, X30⟩ := own_out hP30 X30
  clear hP30
  dsimp only [Pt.U, Pt.locs, Pt.cells, Pt.slots] at X30 st30 hQ30
  obtain ⟨rfl, Nq30, Kq30, V_b⟩ := hQ30
  replace V_a1 := V_a1.keep Kq30 (ninS ne_a1_b nin0)
  replace J_ := J_.keep Kq30 (allS g_b all0)
  have Z30 : n0 ≤ T30.heap.size := Nat.le_trans Z26 Kq30.1
  have K30 := K26.trans Kq30 (allS (Or.inr sz_b) all0)
  have N30 := Fr.app N26 Nq30
  have pr31 : ∀ t, Steps p.tables e below (T30.setTop (mkF m 23 #[.val (.ref a1), .val (.int (1 : Int32)), .val (.int (5 : Int32)), .val (.ref b), .val (.int (1 : Int32))] [])) t → G t := fun t ks => pr29 t (st30 t ks)
  have pr32 : ∀ t, Steps p.tables e below (T30.setTop (mkF m 8 #[.val (.ref a1), .val (.int ((1 : Int32) + (1 : Int32))), .val (.int (5 : Int32)), .val (.ref b), .val (.int ((1 : Int32) + (1 : Int32)))] [])) t → G t := fun t ks => pr31 t (by
      refine XS.iinc X30.here hx rfl (hb hby d17_23) rfl (l' := #[.val (.ref a1), .val (.int ((1 : Int32) + (1 : Int32))), .val (.int (5 : Int32)), .val (.ref b), .val (.int (1 : Int32))]) rfl ?_
      refine XS.iinc X30.here hx rfl (hb hby d17_26) rfl (l' := #[.val (.ref a1), .val (.int ((1 : Int32) + (1 : Int32))), .val (.int (5 : Int32)), .val (.ref b), .val (.int ((1 : Int32) + (1 : Int32)))]) rfl ?_
      refine XS.goto X30.here hx rfl (pc0 := 29) (pc' := 8) rfl (hb hby d17_29) (by decide) (by decide) ?_
      exact ks)
  rw [(show (1 : Int32) + (1 : Int32) = (2 : Int32) from rfl)] at pr32
  have pr33 : ∀ t, Steps p.tables e below (T30.setTop (mkF m 20 #[.val (.ref a1), .val (.int (2 : Int32)), .val (.int (5 : Int32)), .val (.ref b), .val (.int (2 : Int32))] [(.int x2), (.int (2 : Int32)), (.ref b)])) t → G t := fun t ks => pr32 t (by
      refine XS.iload X30.here hx rfl (hb hby d17_8) rfl ?_
      refine XS.iloadN X30.here hx rfl (hb hby d17_10) rfl ?_
      refine XS.icmpNo X30.here hx rfl (hb hby d17_11) rfl (tlt (by decide)).2.1 ?_
      refine XS.aloadN X30.here hx rfl (hb hby d17_14) rfl rfl ?_
      refine XS.iload X30.here hx rfl (hb hby d17_15) rfl ?_
      refine XS.aloadN X30.here hx rfl (hb hby d17_17) rfl rfl ?_
      refine XS.iloadN X30.here hx rfl (hb hby d17_18) rfl ?_
      refine ca_ld X30 hx hZ rfl V_a1 (j := (2 : Int32)) 2 rfl (Nat.le_of_ble_eq_true rfl) (w := x2) rfl (g := (mkF m 19 #[.val (.ref a1), .val (.int (2 : Int32)), .val (.int (5 : Int32)), .val (.ref b), .val (.int (2 : Int32))] [(.int (2 : Int32)), (.ref a1), (.int (2 : Int32)), (.ref b)])) rfl rfl (hb hby d17_19) _ ?_
      exact ks)
  obtain ⟨_, _, ⟨T34, L34, k34, n34⟩, -, X34, hP34, st34⟩ := Jvm.LawKit.callS X30 hx (y := (⟨"java/lang/StringUTF16", "putChar", "([BII)V"⟩ : MethodName)) hown (mvT hZ (hw _ (List.mem_of_getElem? (i := 85) rfl))) (mvT hZ (hw _ (List.mem_of_getElem? (i := 86) rfl))) (mvT hZ (hw _ (List.mem_of_getElem? (i := 19) rfl))) (mvT hZ (hw _ (List.mem_of_getElem? (i := 87) rfl))) (by decide) (backOf (W := 0) (rmPC l Z a0 hw hr0 [] b (2 : Int32) x2 (((((List.replicate 10 0).set (2 * 0) (own_b0 x0)).set (2 * 0 + 1) (own_b1 x0)).set (2 * 1) (own_b0 x1)).set (2 * 1 + 1) (own_b1 x1)) 2 fv cs T30.heap n0 Z30 V_b rfl (Nat.le_of_ble_eq_true rfl) (Nat.le_of_ble_eq_true rfl) g_b J_) hZ (hw _ (List.mem_of_getElem? (i := 87) rfl)) (hw _ (List.mem_of_getElem? (i := 19) rfl)) (by decide) (by decide)) (g := (mkF m 20 #[.val (.ref a1), .val (.int (2 : Int32)), .val (.int (5 : Int32)), .val (.ref b), .val (.int (2 : Int32))] [(.int x2), (.int (2 : Int32)), (.ref b)])) rfl (by rw [hml]; rfl) (argsL := [(.ref b), (.int (2 : Int32)), (.int x2)]) (rest := []) (lenOf pd_2 rfl) rfl (by show 2 * 0 + _ ≤ _; exact Nat.le_of_eq rfl) (hb hby d17_20) (fun _ _ => ⟨rfl, rfl, (by decide : 1 + 0 ≤ _), (by decide : 10 + 0 ≤ _)⟩)
  obtain ⟨Lc34, hQ34, X34⟩ := own_out hP34 X34
  clear hP34
  dsimp only [Pt.U, Pt.locs, Pt.cells, Pt.slots] at X34 st34 hQ34
  obtain ⟨rfl, Nq34, Kq34, V_b⟩ := hQ34
  replace V_a1 := V_a1.keep Kq34 (ninS ne_a1_b nin0)
  replace J_ := J_.keep Kq34 (allS g_b all0)
  have Z34 : n0 ≤ T34.heap.size := Nat.le_trans Z30 Kq34.1
  have K34 := K30.trans Kq34 (allS (Or.inr sz_b) all0)
  have N34 := Fr.app N30 Nq34
  have pr35 : ∀ t, Steps p.tables e below (T34.setTop (mkF m 23 #[.val (.ref a1), .val (.int (2 : Int32)), .val (.int (5 : Int32)), .val (.ref b), .val (.int (2 : Int32))] [])) t → G t := fun t ks => pr33 t (st34 t ks)
  have pr36 : ∀ t, Steps p.tables e below (T34.setTop (mkF m 8 #[.val (.ref a1), .val (.int ((2 : Int32) + (1 : Int32))), .val (.int (5 : Int32)), .val (.ref b), .val (.int ((2 : Int32) + (1 : Int32)))] [])) t → G t := fun t ks => pr35 t (by
      refine XS.iinc X34.here hx rfl (hb hby d17_23) rfl (l' := #[.val (.ref a1), .val (.int ((2 : Int32) + (1 : Int32))), .val (.int (5 : Int32)), .val (.ref b), .val (.int (2 : Int32))]) rfl ?_
      refine XS.iinc X34.here hx rfl (hb hby d17_26) rfl (l' := #[.val (.ref a1), .val (.int ((2 : Int32) + (1 : Int32))), .val (.int (5 : Int32)), .val (.ref b), .val (.int ((2 : Int32) + (1 : Int32)))]) rfl ?_
      refine XS.goto X34.here hx rfl (pc0 := 29) (pc' := 8) rfl (hb hby d17_29) (by decide) (by decide) ?_
      exact ks)
  rw [(show (2 : Int32) + (1 : Int32) = (3 : Int32) from rfl)] at pr36
  have pr37 : ∀ t, Steps p.tables e below (T34.setTop (mkF m 20 #[.val (.ref a1), .val (.int (3 : Int32)), .val (.int (5 : Int32)), .val (.ref b), .val (.int (3 : Int32))] [(.int x3), (.int (3 : Int32)), (.ref b)])) t → G t := fun t ks => pr36 t (by
      refine XS.iload X34.here hx rfl (hb hby d17_8) rfl ?_
      refine XS.iloadN X34.here hx rfl (hb hby d17_10) rfl ?_
      refine XS.icmpNo X34.here hx rfl (hb hby d17_11) rfl (tlt (by decide)).2.1 ?_
      refine XS.aloadN X34.here hx rfl (hb hby d17_14) rfl rfl ?_
      refine XS.iload X34.here hx rfl (hb hby d17_15) rfl ?_
      refine XS.aloadN X34.here hx rfl (hb hby d17_17) rfl rfl ?_
      refine XS.iloadN X34.here hx rfl (hb hby d17_18) rfl ?_
      refine ca_ld X34 hx hZ rfl V_a1 (j := (3 : Int32)) 3 rfl (Nat.le_of_ble_eq_true rfl) (w := x3) rfl (g := (mkF m 19 #[.val (.ref a1), .val (.int (3 : Int32)), .val (.int (5 : Int32)), .val (.ref b), .val (.int (3 : Int32))] [(.int (3 : Int32)), (.ref a1), (.int (3 : Int32)), (.ref b)])) rfl rfl (hb hby d17_19) _ ?_
      exact ks)
  obtain ⟨_, _, ⟨T38, L38, k38, n38⟩, -, X38, hP38, st38⟩ := Jvm.LawKit.callS X34 hx (y := (⟨"java/lang/StringUTF16", "putChar", "([BII)V"⟩ : MethodName)) hown (mvT hZ (hw _ (List.mem_of_getElem? (i := 85) rfl))) (mvT hZ (hw _ (List.mem_of_getElem? (i := 86) rfl))) (mvT hZ (hw _ (List.mem_of_getElem? (i := 19) rfl))) (mvT hZ (hw _ (List.mem_of_getElem? (i := 87) rfl))) (by decide) (backOf (W := 0) (rmPC l Z a0 hw hr0 [] b (3 : Int32) x3 (((((((List.replicate 10 0).set (2 * 0) (own_b0 x0)).set (2 * 0 + 1) (own_b1 x0)).set (2 * 1) (own_b0 x1)).set (2 * 1 + 1) (own_b1 x1)).set (2 * 2) (own_b0 x2)).set (2 * 2 + 1) (own_b1 x2)) 3 fv cs T34.heap n0 Z34 V_b rfl (Nat.le_of_ble_eq_true rfl) (Nat.le_of_ble_eq_true rfl) g_b J_) hZ (hw _ (List.mem_of_getElem? (i := 87) rfl)) (hw _ (List.mem_of_getElem? (i := 19) rfl)) (by decide) (by decide)) (g := (mkF m 20 #[.val (.ref a1), .val (.int (3 : Int32)), .val (.int (5 : Int32)), .val (.ref b), .val (.int (3 : Int32))] [(.int x3), (.int (3 : Int32)), (.ref b)])) rfl (by rw [hml]; rfl) (argsL := [(.ref b), (.int (3 : Int32)), (.int x3)]) (rest := []) (lenOf pd_2 rfl) rfl (by show 2 * 0 + _ ≤ _; exact Nat.le_of_eq rfl) (hb hby d17_20) (fun _ _ => ⟨rfl, rfl, (by decide : 1 + 0 ≤ _), (by decide : 10 + 0 ≤ _)⟩)
  obtain ⟨Lc38, hQ38, X38⟩ := own_out hP38 X38
  clear hP38
  dsimp only [Pt.U, Pt.locs, Pt.cells, Pt.slots] at X38 st38 hQ38
  obtain ⟨rfl, Nq38, Kq38, V_b⟩ := hQ38
  replace V_a1 := V_a1.keep Kq38 (ninS ne_a1_b nin0)
  replace J_ := J_.keep Kq38 (allS g_b all0)
  have Z38 : n0 ≤ T38.heap.size := Nat.le_trans Z34 Kq38.1
  have K38 := K34.trans Kq38 (allS (Or.inr sz_b) all0)
  have N38 := Fr.app N34 Nq38
  have pr39 : ∀ t, Steps p.tables e below (T38.setTop (mkF m 23 #[.val (.ref a1), .val (.int (3 : Int32)), .val (.int (5 : Int32)), .val (.ref b), .val (.int (3 : Int32))] [])) t → G t := fun t ks => pr37 t (st38 t ks)
  have pr40 : ∀ t, Steps p.tables e below (T38.setTop (mkF m 8 #[.val (.ref a1), .val (.int ((3 : Int32) + (1 : Int32))), .val (.int (5 : Int32)), .val (.ref b), .val (.int ((3 : Int32) + (1 : Int32)))] [])) t → G t := fun t ks => pr39 t (by
      refine XS.iinc X38.here hx rfl (hb hby d17_23) rfl (l' := #[.val (.ref a1), .val (.int ((3 : Int32) + (1 : Int32))), .val (.int (5 : Int32)), .val (.ref b), .val (.int (3 : Int32))]) rfl ?_
      refine XS.iinc X38.here hx rfl (hb hby d17_26) rfl (l' := #[.val (.ref a1), .val (.int ((3 : Int32) + (1 : Int32))), .val (.int (5 : Int32)), .val (.ref b), .val (.int ((3 : Int32) + (1 : Int32)))]) rfl ?_
      refine XS.goto X38.here hx rfl (pc0 := 29) (pc' := 8) rfl (hb hby d17_29) (by decide) (by decide) ?_
      exact ks)
  rw [(show (3 : Int32) + (1 : Int32) = (4 : Int32) from rfl)] at pr40
  have pr41 : ∀ t, Steps p.tables e below (T38.setTop (mkF m 20 #[.val (.ref a1), .val (.int (4 : Int32)), .val (.int (5 : Int32)), .val (.ref b), .val (.int (4 : Int32))] [(.int x4), (.int (4 : Int32)), (.ref b)])) t → G t := fun t ks => pr40 t (by
      refine XS.iload X38.here hx rfl (hb hby d17_8) rfl ?_
      refine XS.iloadN X38.here hx rfl (hb hby d17_10) rfl ?_
      refine XS.icmpNo X38.here hx rfl (hb hby d17_11) rfl (tlt (by decide)).2.1 ?_
      refine XS.aloadN X38.here hx rfl (hb hby d17_14) rfl rfl ?_
      refine XS.iload X38.here hx rfl (hb hby d17_15) rfl ?_
      refine XS.aloadN X38.here hx rfl (hb hby d17_17) rfl rfl ?_
      refine XS.iloadN X38.here hx rfl (hb hby d17_18) rfl ?_
      refine ca_ld X38 hx hZ rfl V_a1 (j := (4 : Int32)) 4 rfl (Nat.le_of_ble_eq_true rfl) (w := x4) rfl (g := (mkF m 19 #[.val (.ref a1), .val (.int (4 : Int32)), .val (.int (5 : Int32)), .val (.ref b), .val (.int (4 : Int32))] [(.int (4 : Int32)), (.ref a1), (.int (4 : Int32)), (.ref b)])) rfl rfl (hb hby d17_19) _ ?_
      exact ks)
  obtain ⟨_, _, ⟨T42, L42, k42, n42⟩, -, X42, hP42, st42⟩ := Jvm.LawKit.callS X38 hx (y := (⟨"java/lang/StringUTF16", "putChar", "([BII)V"⟩ : MethodName)) hown (mvT hZ (hw _ (List.mem_of_getElem? (i := 85) rfl))) (mvT hZ (hw _ (List.mem_of_getElem? (i := 86) rfl))) (mvT hZ (hw _ (List.mem_of_getElem? (i := 19) rfl))) (mvT hZ (hw _ (List.mem_of_getElem? (i := 87) rfl))) (by decide) (backOf (W := 0) (rmPC l Z a0 hw hr0 [] b (4 : Int32) x4 (((((((((List.replicate 10 0).set (2 * 0) (own_b0 x0)).set (2 * 0 + 1) (own_b1 x0)).set (2 * 1) (own_b0 x1)).set (2 * 1 + 1) (own_b1 x1)).set (2 * 2) (own_b0 x2)).set (2 * 2 + 1) (own_b1 x2)).set (2 * 3) (own_b0 x3)).set (2 * 3 + 1) (own_b1 x3)) 4 fv cs T38.heap n0 Z38 V_b rfl (Nat.le_of_ble_eq_true rfl) (Nat.le_of_ble_eq_true rfl) g_b J_) hZ (hw _ (List.mem_of_getElem? (i := 87) rfl)) (hw _ (List.mem_of_getElem? (i := 19) rfl)) (by decide) (by decide)) (g := (mkF m 20 #[.val (.ref a1), .val (.int (4 : Int32)), .val (.int (5 : Int32)), .val (.ref b), .val (.int (4 : Int32))] [(.int x4), (.int (4 : Int32)), (.ref b)])) rfl (by rw [hml]; rfl) (argsL := [(.ref b), (.int (4 : Int32)), (.int x4)]) (rest := []) (lenOf pd_2 rfl) rfl (by show 2 * 0 + _ ≤ _; exact Nat.le_of_eq rfl) (hb hby d17_20) (fun _ _ => ⟨rfl, rfl, (by decide : 1 + 0 ≤ _), (by decide : 10 + 0 ≤ _)⟩)
  obtain ⟨Lc42, hQ42, X42⟩ := own_out hP42 X42
  clear hP42
  dsimp only [Pt.U, Pt.locs, Pt.cells, Pt.slots] at X42 st42 hQ42
  obtain ⟨rfl, Nq42, Kq42, V_b⟩ := hQ42
  replace V_a1 := V_a1.keep Kq42 (ninS ne_a1_b nin0)
  replace J_ := J_.keep Kq42 (allS g_b all0)
  have Z42 : n0 ≤ T42.heap.size := Nat.le_trans Z38 Kq42.1
  have K42 := K38.trans Kq42 (allS (Or.inr sz_b) all0)
  have N42 := Fr.app N38 Nq42
  have pr43 : ∀ t, Steps p.tables e below (T42.setTop (mkF m 23 #[.val (.ref a1), .val (.int (4 : Int32)), .val (.int (5 : Int32)), .val (.ref b), .val (.int (4 : Int32))] [])) t → G t := fun t ks => pr41 t (st42 t ks)
  have pr44 : ∀ t, Steps p.tables e below (T42.setTop (mkF m 8 #[.val (.ref a1), .val (.int ((4 : Int32) + (1 : Int32))), .val (.int (5 : Int32)), .val (.ref b), .val (.int ((4 : Int32) + (1 : Int32)))] [])) t → G t := fun t ks => pr43 t (by
      refine XS.iinc X42.here hx rfl (hb hby d17_23) rfl (l' := #[.val (.ref a1), .val (.int ((4 : Int32) + (1 : Int32))), .val (.int (5 : Int32)), .val (.ref b), .val (.int (4 : Int32))]) rfl ?_
      refine XS.iinc X42.here hx rfl (hb hby d17_26) rfl (l' := #[.val (.ref a1), .val (.int ((4 : Int32) + (1 : Int32))), .val (.int (5 : Int32)), .val (.ref b), .val (.int ((4 : Int32) + (1 : Int32)))]) rfl ?_
      refine XS.goto X42.here hx rfl (pc0 := 29) (pc' := 8) rfl (hb hby d17_29) (by decide) (by decide) ?_
      exact ks)
  rw [(show (4 : Int32) + (1 : Int32) = (5 : Int32) from rfl)] at pr44
  have pr45 : ∀ t, Steps p.tables e below (T42.setTop (mkF m 33 #[.val (.ref a1), .val (.int (5 : Int32)), .val (.int (5 : Int32)), .val (.ref b), .val (.int (5 : Int32))] [(.ref b)])) t → G t := fun t ks => pr44 t (by
      refine XS.iload X42.here hx rfl (hb hby d17_8) rfl ?_
      refine XS.iloadN X42.here hx rfl (hb hby d17_10) rfl ?_
      refine XS.icmpYes X42.here hx rfl (pc0 := 11) (pc' := 32) rfl (hb hby d17_11) rfl (flt (by decide)).2.1 (by decide) (by decide) ?_
      refine XS.aloadN X42.here hx rfl (hb hby d17_32) rfl rfl ?_
      exact ks)
  obtain ⟨fs, hr, hrun, hended, hW, hsame⟩ := X42.leave (v := some (.ref b)) (fun h => by rw [Bd.returns] at h; cases h)
  refine ⟨_, _, hG _ (pr45 _ ?_), hrun, hended, _, _, rfl, ?_, ⟨_, rfl⟩, hW, hsame.mono (by decide) (by decide)⟩
  · jvm_step X42.here [X42.here.top, hx, (hb hby d17_33), X42.method', Bd.returns, Value.isRef, FieldType.isReference]
    first | (intro acts; rw [hr _ acts rfl rfl rfl]) | rw [hr _ _ rfl rfl rfl]
    exact Steps.refl _
  · show QTB Z [x0, x1, x2, x3, x4] h0 n0 _ T42.heap _
    exact ⟨b, rfl, N42, K42, g_b, sz_b, V_b⟩
theorem ef_rmGC (m : MethodId) (x0 : Addr) (x1 : Int32) : entryFrame m #[(.ref x0), (.int x1)] 2 = mkF m 0 #[.val (.ref x0), .val (.int x1)] [] := by first | (simp [entryFrame, mkF, argsToLocals, Value.category]; done) | rfl
def QGC (vs : List Int32) (i : Nat) (h0 : Heap) (n0 : Nat) (v : Option Value) (h : Heap) (L : List Loc) : Prop := v = some (.int (own_gc (vs.getD (2 * i) 0) (vs.getD (2 * i + 1) 0))) ∧ Fr n0 L ∧ h = h0
set_option maxRecDepth 65536 in
set_option maxHeartbeats 40000000 in
theorem rmGC (l : Launch) (Z : State) (a0 : Array Value) (hw : ∀ d ∈ tables_1, d.before a0 Z = true) (hr0 : ∀ d ∈ jdkStatics_1, d.before a0 Z = true) (ws : List Jvm.Cond) (a1 : Addr) (p2 : Int32) (vs : List Int32) (i : Nat) (fv : Value) (cs : Int32) (h0 : Heap) (n0 : Nat) (Z0 : n0 ≤ h0.size) (V_a1 : BA Z h0 a1 vs) (e2 : p2 = Int32.ofNat i) (hi : 2 * i + 1 < vs.length) (hul : vs.length ≤ 100) (J_ : JS Z n0 h0 fv cs) :
    MetFree l (⟨"java/lang/StringUTF16", "getChar", "([BI)C"⟩ : MethodName) (head1 (Jvm.Cond.code (⟨"java/lang/StringUTF16", "getChar", "([BI)C"⟩ : MethodName) jdk_52_method_5_code 2 (some .char) :: ws) ({ frames := 0, cells := 0, slots := 0, locals := 0 } : Room)) (fun a U => a = #[(.ref a1), (.int p2)] ∧ Z.Warmed39 U.vm ∧ U.heap = h0) (fun _ _ _ _ _ => True) (fun _ U o U' => ∃ v L, o = .returned v ∧ QGC vs i h0 n0 v U'.heap L ∧ FrameEnd U o U' L ({ frames := 0, cells := 0, slots := 0, locals := 0 } : Room).cells ({ frames := 0, cells := 0, slots := 0, locals := 0 } : Room).slots) := by
  refine MetFree.of_bodySF (plainFor_of_name pn_0) hisR ?_
  intro p e s m args below meth c s₁ Bd hml0 hP hK
  obtain ⟨rfl, hZ, hh⟩ := hP
  have hx := Bd.exec
  have hby := Bd.bytes
  have hml : c.maxLocals = 2 := hml0
  have hown : s.vm.findClass "java/lang/StringUTF16" = some m.cls := findClass_of_methodNamed Bd.named
  have hnm := (name_of_methodNamed Bd.named Bd.method).1
  have X0 : Stand p l e ({ frames := 0, cells := 0, slots := 0, locals := 0 } : Room) s m #[(.ref a1), (.int p2)] below meth c s₁ [] 0 0 := Stand.of_body Bd
  have e0 : s₁.heap = h0 := by rw [← hh, Bd.state]; rfl
  have N0 := Fr.nil n0
  obtain ⟨G, hG, pr0⟩ : ∃ G : State → Prop, (∀ t, G t → Steps p.tables e below (s₁.setTop (entryFrame m #[(.ref a1), (.int p2)] 2)) t) ∧ (∀ t, Steps p.tables e below (s₁.setTop (mkF m 0 #[.val (.ref a1), .val (.int p2)] [])) t → G t) := ⟨_, fun _ k => k, fun t ks => castTop (ef_rmGC m a1 p2) ks⟩
  obtain ⟨T46, X46, e46, st46⟩ := getS2 X0 hx hZ hown (host := "") (Or.inl (hw _ (List.mem_of_getElem? (i := 88) rfl))) Via.refl e0 J_.2.2.2.2.1.sta (g := (mkF m 0 #[.val (.ref a1), .val (.int p2)] [])) rfl (hb hby d21_0)
  have pr47 : ∀ t, Steps p.tables e below (T46.setTop (mkF m 3 #[.val (.ref a1), .val (.int p2)] [(.int (1 : Int32))])) t → G t := fun t ks => pr0 t (st46 t ks)
  have pr48 : ∀ t, Steps p.tables e below (T46.setTop (mkF m 32 #[.val (.ref a1), .val (.int (p2 <<< ((1 : Int32) &&& 31)))] [])) t → G t := fun t ks => pr47 t (by
      refine XS.ifYes X46.here hx rfl (pc0 := 3) (pc' := 28) rfl (hb hby d21_3) rfl ((if0 _ _).trans (feq (by decide)).2) (by decide) (by decide) ?_
      refine XS.iloadN X46.here hx rfl (hb hby d21_28) rfl ?_
      refine XS.iconst X46.here hx rfl (hb hby d21_29) ?_
      refine XS.ishl X46.here hx rfl (hb hby d21_30) rfl ?_
      refine XS.istoreN X46.here hx rfl (hb hby d21_31) rfl (l' := #[.val (.ref a1), .val (.int (p2 <<< ((1 : Int32) &&& 31)))]) rfl ?_
      exact ks)
  rw [own_dbl e2 (by omega)] at pr48
  have pr49 : ∀ t, Steps p.tables e below (T46.setTop (mkF m 37 #[.val (.ref a1), .val (.int ((Int32.ofNat (2 * i)) + (1 : Int32)))] [(.int (Int32.ofNat (2 * i))), (.ref a1)])) t → G t := fun t ks => pr48 t (by
      refine XS.aloadN X46.here hx rfl (hb hby d21_32) rfl rfl ?_
      refine XS.iloadN X46.here hx rfl (hb hby d21_33) rfl ?_
      refine XS.iinc X46.here hx rfl (hb hby d21_34) rfl (l' := #[.val (.ref a1), .val (.int ((Int32.ofNat (2 * i)) + (1 : Int32)))]) rfl ?_
      exact ks)
  rw [own_one (i := 2 * i)] at pr49
  have pr50 : ∀ t, Steps p.tables e below (T46.setTop (mkF m 42 #[.val (.ref a1), .val (.int (Int32.ofNat (2 * i + 1)))] [(.int ((vs.getD (2 * i) 0) &&& (255 : Int32)))])) t → G t := fun t ks => pr49 t (by
      refine ba_ld X46 hx hZ e46 V_a1 (j := (Int32.ofNat (2 * i))) (2 * i) rfl (by omega) (w := (vs.getD (2 * i) 0)) rfl (g := (mkF m 37 #[.val (.ref a1), .val (.int (Int32.ofNat (2 * i + 1)))] [(.int (Int32.ofNat (2 * i))), (.ref a1)])) rfl rfl (hb hby d21_37) _ ?_
      refine XS.sipush X46.here hx rfl (hb hby d21_38) ?_
      refine XS.iand X46.here hx rfl (hb hby d21_41) rfl ?_
      exact ks)
  obtain ⟨T51, X51, e51, st51⟩ := getS2 X46 hx hZ hown (host := "") (Or.inl (hw _ (List.mem_of_getElem? (i := 89) rfl))) Via.refl e46 J_.2.2.2.2.2.1.sta (g := (mkF m 42 #[.val (.ref a1), .val (.int (Int32.ofNat (2 * i + 1)))] [(.int ((vs.getD (2 * i) 0) &&& (255 : Int32)))])) rfl (hb hby d21_42)
  have pr52 : ∀ t, Steps p.tables e below (T51.setTop (mkF m 45 #[.val (.ref a1), .val (.int (Int32.ofNat (2 * i + 1)))] [(.int (0 : Int32)), (.int ((vs.getD (2 * i) 0) &&& (255 : Int32)))])) t → G t := fun t ks => pr50 t (st51 t ks)
  have pr53 : ∀ t, Steps p.tables e below (T51.setTop (mkF m 53 #[.val (.ref a1), .val (.int (Int32.ofNat (2 * i + 1)))] [(.int ((vs.getD (2 * i + 1) 0) &&& (255 : Int32))), (.int (((vs.getD (2 * i) 0) &&& (255 : Int32)) <<< ((0 : Int32) &&& 31)))])) t → G t := fun t ks => pr52 t (by
      refine XS.ishl X51.here hx rfl (hb hby d21_45) rfl ?_
      refine XS.aloadN X51.here hx rfl (hb hby d21_46) rfl rfl ?_
      refine XS.iloadN X51.here hx rfl (hb hby d21_47) rfl ?_
      refine ba_ld X51 hx hZ e51 V_a1 (j := (Int32.ofNat (2 * i + 1))) (2 * i + 1) rfl hi (w := (vs.getD (2 * i + 1) 0)) rfl (g := (mkF m 48 #[.val (.ref a1), .val (.int (Int32.ofNat (2 * i + 1)))] [(.int (Int32.ofNat (2 * i + 1))), (.ref a1), (.int (((vs.getD (2 * i) 0) &&& (255 : Int32)) <<< ((0 : Int32) &&& 31)))])) rfl rfl (hb hby d21_48) _ ?_
      refine XS.sipush X51.here hx rfl (hb hby d21_49) ?_
      refine XS.iand X51.here hx rfl (hb hby d21_52) rfl ?_
      exact ks)
  obtain ⟨T54, X54, e54, st54⟩ := getS2 X51 hx hZ hown (host := "") (Or.inl (hw _ (List.mem_of_getElem? (i := 90) rfl))) Via.refl e51 J_.2.2.2.2.2.2.sta (g := (mkF m 53 #[.val (.ref a1), .val (.int (Int32.ofNat (2 * i + 1)))] [(.int ((vs.getD (2 * i + 1) 0) &&& (255 : Int32))), (.int (((vs.getD (2 * i) 0) &&& (255 : Int32)) <<< ((0 : Int32) &&& 31)))])) rfl (hb hby d21_53)
  have pr55 : ∀ t, Steps p.tables e below (T54.setTop (mkF m 56 #[.val (.ref a1), .val (.int (Int32.ofNat (2 * i + 1)))] [(.int (8 : Int32)), (.int ((vs.getD (2 * i + 1) 0) &&& (255 : Int32))), (.int (((vs.getD (2 * i) 0) &&& (255 : Int32)) <<< ((0 : Int32) &&& 31)))])) t → G t := fun t ks => pr53 t (st54 t ks)
  have pr56 : ∀ t, Steps p.tables e below (T54.setTop (mkF m 59 #[.val (.ref a1), .val (.int (Int32.ofNat (2 * i + 1)))] [(.int (((((vs.getD (2 * i) 0) &&& (255 : Int32)) <<< ((0 : Int32) &&& 31)) ||| (((vs.getD (2 * i + 1) 0) &&& (255 : Int32)) <<< ((8 : Int32) &&& 31))).toUInt32.toUInt16.toUInt32.toInt32))])) t → G t := fun t ks => pr55 t (by
      refine XS.ishl X54.here hx rfl (hb hby d21_56) rfl ?_
      refine XS.ior X54.here hx rfl (hb hby d21_57) rfl ?_
      refine XS.i2c X54.here hx rfl (hb hby d21_58) rfl ?_
      exact ks)
  obtain ⟨fs, hr, hrun, hended, hW, hsame⟩ := X54.leave (v := some (.int (own_gc (vs.getD (2 * i) 0) (vs.getD (2 * i + 1) 0)))) (fun h => by rw [Bd.returns] at h; cases h)
  refine ⟨_, _, hG _ (pr56 _ ?_), hrun, hended, _, _, rfl, ?_, ⟨_, rfl⟩, hW, hsame.mono (by decide) (by decide)⟩
  · exact retN X54 hx (t := .char) Bd.returns (by simp) (hb hby d21_59) (by rw [show nar .char (((((vs.getD (2 * i) 0) &&& (255 : Int32)) <<< ((0 : Int32) &&& 31)) ||| (((vs.getD (2 * i + 1) 0) &&& (255 : Int32)) <<< ((8 : Int32) &&& 31))).toUInt32.toUInt16.toUInt32.toInt32) = (own_gc (vs.getD (2 * i) 0) (vs.getD (2 * i + 1) 0)) from (own_narC _)]; exact hr)
  · show QGC vs i h0 n0 _ T54.heap _
    rw [e54]
    exact ⟨rfl, N0, rfl⟩
theorem ef_rm5 (m : MethodId) (x0 : Addr) (x1 : Int32) (x2 : Addr) (x3 : Int32) (x4 : Int32) : entryFrame m #[(.ref x0), (.int x1), (.ref x2), (.int x3), (.int x4)] 7 = mkF m 0 #[.val (.ref x0), .val (.int x1), .val (.ref x2), .val (.int x3), .val (.int x4), .unset, .unset] [] := by first | (simp [entryFrame, mkF, argsToLocals, Value.category]; done) | rfl
def Q5 (Z : State) (a3 : Addr) (xs : List Int32) (h0 : Heap) (n0 : Nat) (v : Option Value) (h : Heap) (L : List Loc) : Prop := ∃ us : List Int32, v = some (.int (Int32.ofNat (own_pre xs))) ∧ Fr n0 L ∧ Keep h0 h [a3] ∧ BA Z h a3 us ∧ us.length = 5 ∧ (own_pre xs = 5 → us = own_lat xs)
set_option maxRecDepth 65536 in
set_option maxHeartbeats 40000000 in
theorem rm5 (l : Launch) (Z : State) (a0 : Array Value) (hw : ∀ d ∈ tables_1, d.before a0 Z = true) (hr0 : ∀ d ∈ jdkStatics_1, d.before a0 Z = true) (ws : List Jvm.Cond) (a1 : Addr) (a3 : Addr) (x0 x1 x2 x3 x4 : Int32) (h0 : Heap) (n0 : Nat) (Z0 : n0 ≤ h0.size) (V_a1 : CA Z h0 a1 [x0, x1, x2, x3, x4]) (V_a3 : BA Z h0 a3 [0, 0, 0, 0, 0]) (ne13 : a1 ≠ a3) (g_a3 : n0 ≤ a3) :
    MetFree l (⟨"java/lang/StringUTF16", "compress", "([CI[BII)I"⟩ : MethodName) (head1 (Jvm.Cond.code (⟨"java/lang/StringUTF16", "compress", "([CI[BII)I"⟩ : MethodName) jdk_52_method_21_code 7 (some .int) :: ws) ({ frames := 0, cells := 0, slots := 0, locals := 0 } : Room)) (fun a U => a = #[(.ref a1), (.int (0 : Int32)), (.ref a3), (.int (0 : Int32)), (.int (5 : Int32))] ∧ Z.Warmed39 U.vm ∧ U.heap = h0) (fun _ _ _ _ _ => True) (fun _ U o U' => ∃ v L, o = .returned v ∧ Q5 Z a3 [x0, x1, x2, x3, x4] h0 n0 v U'.heap L ∧ FrameEnd U o U' L ({ frames := 0, cells := 0, slots := 0, locals := 0 } : Room).cells ({ frames := 0, cells := 0, slots := 0, locals := 0 } : Room).slots) := by
  refine MetFree.of_bodySF (plainFor_of_name pn_0) hisR ?_
  intro p e s m args below meth c s₁ Bd hml0 hP hK
  obtain ⟨rfl, hZ, hh⟩ := hP
  have hx := Bd.exec
  have hby := Bd.bytes
  have hml : c.maxLocals = 7 := hml0
  have hown : s.vm.findClass "java/lang/StringUTF16" = some m.cls := findClass_of_methodNamed Bd.named
  have hnm := (name_of_methodNamed Bd.named Bd.method).1
  have X0 : Stand p l e ({ frames := 0, cells := 0, slots := 0, locals := 0 } : Room) s m #[(.ref a1), (.int (0 : Int32)), (.ref a3), (.int (0 : Int32)), (.int (5 : Int32))] below meth c s₁ [] 0 0 := Stand.of_body Bd
  have e0 : s₁.heap = h0 := by rw [← hh, Bd.state]; rfl
  have N0 := Fr.nil n0
  obtain ⟨G, hG, pr0⟩ : ∃ G : State → Prop, (∀ t, G t → Steps p.tables e below (s₁.setTop (entryFrame m #[(.ref a1), (.int (0 : Int32)), (.ref a3), (.int (0 : Int32)), (.int (5 : Int32))] 7)) t) ∧ (∀ t, Steps p.tables e below (s₁.setTop (mkF m 0 #[.val (.ref a1), .val (.int (0 : Int32)), .val (.ref a3), .val (.int (0 : Int32)), .val (.int (5 : Int32)), .unset, .unset] [])) t → G t) := ⟨_, fun _ k => k, fun t ks => castTop (ef_rm5 m a1 (0 : Int32) a3 (0 : Int32) (5 : Int32)) ks⟩
  have K0 : Keep h0 h0 [a3] := Keep.refl _ _
  have pr57 : ∀ t, Steps p.tables e below (s₁.setTop (mkF m 20 #[.val (.ref a1), .val (.int (0 : Int32)), .val (.ref a3), .val (.int (0 : Int32)), .val (.int (5 : Int32)), .val (.int (0 : Int32)), .val (.int x0)] [(.int (255 : Int32)), (.int x0)])) t → G t := fun t ks => pr0 t (by
      refine XS.iconst X0.here hx rfl (hb hby d5_0) ?_
      refine XS.istore X0.here hx rfl (hb hby d5_1) rfl (l' := #[.val (.ref a1), .val (.int (0 : Int32)), .val (.ref a3), .val (.int (0 : Int32)), .val (.int (5 : Int32)), .val (.int (0 : Int32)), .unset]) rfl ?_
      refine XS.iload X0.here hx rfl (hb hby d5_3) rfl ?_
      refine XS.iload X0.here hx rfl (hb hby d5_5) rfl ?_
      refine XS.icmpNo X0.here hx rfl (hb hby d5_7) rfl (tlt (by decide)).2.1 ?_
      refine XS.aloadN X0.here hx rfl (hb hby d5_10) rfl rfl ?_
      refine XS.iloadN X0.here hx rfl (hb hby d5_11) rfl ?_
      refine ca_ld X0 hx hZ e0 V_a1 (j := (0 : Int32)) 0 rfl (Nat.le_of_ble_eq_true rfl) (w := x0) rfl (g := (mkF m 12 #[.val (.ref a1), .val (.int (0 : Int32)), .val (.ref a3), .val (.int (0 : Int32)), .val (.int (5 : Int32)), .val (.int (0 : Int32)), .unset] [(.int (0 : Int32)), (.ref a1)])) rfl rfl (hb hby d5_12) _ ?_
      refine XS.istore X0.here hx rfl (hb hby d5_13) rfl (l' := #[.val (.ref a1), .val (.int (0 : Int32)), .val (.ref a3), .val (.int (0 : Int32)), .val (.int (5 : Int32)), .val (.int (0 : Int32)), .val (.int x0)]) rfl ?_
      refine XS.iload X0.here hx rfl (hb hby d5_15) rfl ?_
      refine XS.sipush X0.here hx rfl (hb hby d5_17) ?_
      exact ks)
  by_cases hc0 : (255 : Int32) < x0
  · have pr58 : ∀ t, Steps p.tables e below (s₁.setTop (mkF m 25 #[.val (.ref a1), .val (.int (0 : Int32)), .val (.ref a3), .val (.int (0 : Int32)), .val (.int (5 : Int32)), .val (.int (0 : Int32)), .val (.int x0)] [(.int (0 : Int32))])) t → G t := fun t ks => pr57 t (by
        refine XS.icmpNo X0.here hx rfl (hb hby d5_20) rfl (tlt hc0).2.2.2 ?_
        refine XS.iload X0.here hx rfl (hb hby d5_23) rfl ?_
        exact ks)
    have hpre : own_pre [x0, x1, x2, x3, x4] = 0 := by simp only [own_pre, if_pos hc0]
    obtain ⟨fs, hr, hrun, hended, hW, hsame⟩ := X0.leave (v := some (.int (0 : Int32))) (fun h => by rw [Bd.returns] at h; cases h)
    refine ⟨_, _, hG _ (pr58 _ ?_), hrun, hended, _, _, rfl, ?_, ⟨_, rfl⟩, hW, hsame.mono (by decide) (by decide)⟩
    · exact retI X0 hx Bd.returns (hb hby d5_25) hr
    · show Q5 Z a3 [x0, x1, x2, x3, x4] h0 n0 _ s₁.heap _
      rw [e0]
      exact ⟨_, by rw [hpre]; rfl, N0, K0, V_a3, rfl, fun q => by rw [hpre] at q; cases q⟩
  · have pr59 : ∀ t, Steps p.tables e below (s₁.setTop (mkF m 31 #[.val (.ref a1), .val (.int (0 : Int32)), .val (.ref a3), .val (.int (0 : Int32)), .val (.int (5 : Int32)), .val (.int (0 : Int32)), .val (.int x0)] [(.int (x0.toInt8.toInt32)), (.int (0 : Int32)), (.ref a3)])) t → G t := fun t ks => pr57 t (by
        refine XS.icmpYes X0.here hx rfl (pc0 := 20) (pc' := 26) rfl (hb hby d5_20) rfl (flt hc0).2.2.2 (by decide) (by decide) ?_
        refine XS.aloadN X0.here hx rfl (hb hby d5_26) rfl rfl ?_
        refine XS.iloadN X0.here hx rfl (hb hby d5_27) rfl ?_
        refine XS.iload X0.here hx rfl (hb hby d5_28) rfl ?_
        refine XS.i2b X0.here hx rfl (hb hby d5_30) rfl ?_
        exact ks)
    obtain ⟨T60, h60, X60, e60, W60, V60, st60⟩ := ba_st X0 hx hZ e0 V_a3 (j := (0 : Int32)) 0 rfl (Nat.le_of_ble_eq_true rfl) (y := (x0.toInt8.toInt32)) (own_narB _) (g := (mkF m 31 #[.val (.ref a1), .val (.int (0 : Int32)), .val (.ref a3), .val (.int (0 : Int32)), .val (.int (5 : Int32)), .val (.int (0 : Int32)), .val (.int x0)] [(.int (x0.toInt8.toInt32)), (.int (0 : Int32)), (.ref a3)])) rfl rfl (hb hby d5_31)
    replace V_a3 := V60
    replace V_a1 := V_a1.other W60 ne13
    have N60 := Fr.snoc X60 N0 g_a3
    have Z60 : n0 ≤ h60.size := Nat.le_trans Z0 (Keep.of_wr W60).1
    have K60 := K0.wr W60 (Or.inl (List.mem_of_getElem? (i := 0) rfl))
    have pr61 : ∀ t, Steps p.tables e below (T60.setTop (mkF m 32 #[.val (.ref a1), .val (.int (0 : Int32)), .val (.ref a3), .val (.int (0 : Int32)), .val (.int (5 : Int32)), .val (.int (0 : Int32)), .val (.int x0)] [])) t → G t := fun t ks => pr59 t (st60 t ks)
    have pr62 : ∀ t, Steps p.tables e below (T60.setTop (mkF m 3 #[.val (.ref a1), .val (.int ((0 : Int32) + (1 : Int32))), .val (.ref a3), .val (.int ((0 : Int32) + (1 : Int32))), .val (.int (5 : Int32)), .val (.int ((0 : Int32) + (1 : Int32))), .val (.int x0)] [])) t → G t := fun t ks => pr61 t (by
        refine XS.iinc X60.here hx rfl (hb hby d5_32) rfl (l' := #[.val (.ref a1), .val (.int ((0 : Int32) + (1 : Int32))), .val (.ref a3), .val (.int (0 : Int32)), .val (.int (5 : Int32)), .val (.int (0 : Int32)), .val (.int x0)]) rfl ?_
        refine XS.iinc X60.here hx rfl (hb hby d5_35) rfl (l' := #[.val (.ref a1), .val (.int ((0 : Int32) + (1 : Int32))), .val (.ref a3), .val (.int ((0 : Int32) + (1 : Int32))), .val (.int (5 : Int32)), .val (.int (0 : Int32)), .val (.int x0)]) rfl ?_
        refine XS.iinc X60.here hx rfl (hb hby d5_38) rfl (l' := #[.val (.ref a1), .val (.int ((0 : Int32) + (1 : Int32))), .val (.ref a3), .val (.int ((0 : Int32) + (1 : Int32))), .val (.int (5 : Int32)), .val (.int ((0 : Int32) + (1 : Int32))), .val (.int x0)]) rfl ?_
        refine XS.goto X60.here hx rfl (pc0 := 41) (pc' := 3) rfl (hb hby d5_41) (by decide) (by decide) ?_
        exact ks)
    rw [(show (0 : Int32) + (1 : Int32) = (1 : Int32) from rfl)] at pr62
    have pr63 : ∀ t, Steps p.tables e below (T60.setTop (mkF m 20 #[.val (.ref a1), .val (.int (1 : Int32)), .val (.ref a3), .val (.int (1 : Int32)), .val (.int (5 : Int32)), .val (.int (1 : Int32)), .val (.int x1)] [(.int (255 : Int32)), (.int x1)])) t → G t := fun t ks => pr62 t (by
        refine XS.iload X60.here hx rfl (hb hby d5_3) rfl ?_
        refine XS.iload X60.here hx rfl (hb hby d5_5) rfl ?_
        refine XS.icmpNo X60.here hx rfl (hb hby d5_7) rfl (tlt (by decide)).2.1 ?_
        refine XS.aloadN X60.here hx rfl (hb hby d5_10) rfl rfl ?_
        refine XS.iloadN X60.here hx rfl (hb hby d5_11) rfl ?_
        refine ca_ld X60 hx hZ e60 V_a1 (j := (1 : Int32)) 1 rfl (Nat.le_of_ble_eq_true rfl) (w := x1) rfl (g := (mkF m 12 #[.val (.ref a1), .val (.int (1 : Int32)), .val (.ref a3), .val (.int (1 : Int32)), .val (.int (5 : Int32)), .val (.int (1 : Int32)), .val (.int x0)] [(.int (1 : Int32)), (.ref a1)])) rfl rfl (hb hby d5_12) _ ?_
        refine XS.istore X60.here hx rfl (hb hby d5_13) rfl (l' := #[.val (.ref a1), .val (.int (1 : Int32)), .val (.ref a3), .val (.int (1 : Int32)), .val (.int (5 : Int32)), .val (.int (1 : Int32)), .val (.int x1)]) rfl ?_
        refine XS.iload X60.here hx rfl (hb hby d5_15) rfl ?_
        refine XS.sipush X60.here hx rfl (hb hby d5_17) ?_
        exact ks)
    by_cases hc1 : (255 : Int32) < x1
    · have pr64 : ∀ t, Steps p.tables e below (T60.setTop (mkF m 25 #[.val (.ref a1), .val (.int (1 : Int32)), .val (.ref a3), .val (.int (1 : Int32)), .val (.int (5 : Int32)), .val (.int (1 : Int32)), .val (.int x1)] [(.int (1 : Int32))])) t → G t := fun t ks => pr63 t (by
          refine XS.icmpNo X60.here hx rfl (hb hby d5_20) rfl (tlt hc1).2.2.2 ?_
          refine XS.iload X60.here hx rfl (hb hby d5_23) rfl ?_
          exact ks)
      have hpre : own_pre [x0, x1, x2, x3, x4] = 1 := by simp only [own_pre, if_neg hc0, if_pos hc1, Nat.zero_add]
      obtain ⟨fs, hr, hrun, hended, hW, hsame⟩ := X60.leave (v := some (.int (1 : Int32))) (fun h => by rw [Bd.returns] at h; cases h)
      refine ⟨_, _, hG _ (pr64 _ ?_), hrun, hended, _, _, rfl, ?_, ⟨_, rfl⟩, hW, hsame.mono (by decide) (by decide)⟩
      · exact retI X60 hx Bd.returns (hb hby d5_25) hr
      · show Q5 Z a3 [x0, x1, x2, x3, x4] h0 n0 _ T60.heap _
        rw [e60]
        exact ⟨_, by rw [hpre]; rfl, N60, K60, V_a3, rfl, fun q => by rw [hpre] at q; cases q⟩
    · have pr65 : ∀ t, Steps p.tables e below (T60.setTop (mkF m 31 #[.val (.ref a1), .val (.int (1 : Int32)), .val (.ref a3), .val (.int (1 : Int32)), .val (.int (5 : Int32)), .val (.int (1 : Int32)), .val (.int x1)] [(.int (x1.toInt8.toInt32)), (.int (1 : Int32)), (.ref a3)])) t → G t := fun t ks => pr63 t (by
          refine XS.icmpYes X60.here hx rfl (pc0 := 20) (pc' := 26) rfl (hb hby d5_20) rfl (flt hc1).2.2.2 (by decide) (by decide) ?_
          refine XS.aloadN X60.here hx rfl (hb hby d5_26) rfl rfl ?_
          refine XS.iloadN X60.here hx rfl (hb hby d5_27) rfl ?_
          refine XS.iload X60.here hx rfl (hb hby d5_28) rfl ?_
          refine XS.i2b X60.here hx rfl (hb hby d5_30) rfl ?_
          exact ks)
      obtain ⟨T66, h66, X66, e66, W66, V66, st66⟩ := ba_st X60 hx hZ e60 V_a3 (j := (1 : Int32)) 1 rfl (Nat.le_of_ble_eq_true rfl) (y := (x1.toInt8.toInt32)) (own_narB _) (g := (mkF m 31 #[.val (.ref a1), .val (.int (1 : Int32)), .val (.ref a3), .val (.int (1 : Int32)), .val (.int (5 : Int32)), .val (.int (1 : Int32)), .val (.int x1)] [(.int (x1.toInt8.toInt32)), (.int (1 : Int32)), (.ref a3)])) rfl rfl (hb hby d5_31)
      replace V_a3 := V66
      replace V_a1 := V_a1.other W66 ne13
      have N66 := Fr.snoc X66 N60 g_a3
      have Z66 : n0 ≤ h66.size := Nat.le_trans Z60 (Keep.of_wr W66).1
      have K66 := K60.wr W66 (Or.inl (List.mem_of_getElem? (i := 0) rfl))
      have pr67 : ∀ t, Steps p.tables e below (T66.setTop (mkF m 32 #[.val (.ref a1), .val (.int (1 : Int32)), .val (.ref a3), .val (.int (1 : Int32)), .val (.int (5 : Int32)), .val (.int (1 : Int32)), .val (.int x1)] [])) t → G t := fun t ks => pr65 t (st66 t ks)
      have pr68 : ∀ t, Steps p.tables e below (T66.setTop (mkF m 3 #[.val (.ref a1), .val (.int ((1 : Int32) + (1 : Int32))), .val (.ref a3), .val (.int ((1 : Int32) + (1 : Int32))), .val (.int (5 : Int32)), .val (.int ((1 : Int32) + (1 : Int32))), .val (.int x1)] [])) t → G t := fun t ks => pr67 t (by
          refine XS.iinc X66.here hx rfl (hb hby d5_32) rfl (l' := #[.val (.ref a1), .val (.int ((1 : Int32) + (1 : Int32))), .val (.ref a3), .val (.int (1 : Int32)), .val (.int (5 : Int32)), .val (.int (1 : Int32)), .val (.int x1)]) rfl ?_
          refine XS.iinc X66.here hx rfl (hb hby d5_35) rfl (l' := #[.val (.ref a1), .val (.int ((1 : Int32) + (1 : Int32))), .val (.ref a3), .val (.int ((1 : Int32) + (1 : Int32))), .val (.int (5 : Int32)), .val (.int (1 : Int32)), .val (.int x1)]) rfl ?_
          refine XS.iinc X66.here hx rfl (hb hby d5_38) rfl (l' := #[.val (.ref a1), .val (.int ((1 : Int32) + (1 : Int32))), .val (.ref a3), .val (.int ((1 : Int32) + (1 : Int32))), .val (.int (5 : Int32)), .val (.int ((1 : Int32) + (1 : Int32))), .val (.int x1)]) rfl ?_
          refine XS.goto X66.here hx rfl (pc0 := 41) (pc' := 3) rfl (hb hby d5_41) (by decide) (by decide) ?_
          exact ks)
      rw [(show (1 : Int32) + (1 : Int32) = (2 : Int32) from rfl)] at pr68
      have pr69 : ∀ t, Steps p.tables e below (T66.setTop (mkF m 20 #[.val (.ref a1), .val (.int (2 : Int32)), .val (.ref a3), .val (.int (2 : Int32)), .val (.int (5 : Int32)), .val (.int (2 : Int32)), .val (.int x2)] [(.int (255 : Int32)), (.int x2)])) t → G t := fun t ks => pr68 t (by
          refine XS.iload X66.here hx rfl (hb hby d5_3) rfl ?_
          refine XS.iload X66.here hx rfl (hb hby d5_5) rfl ?_
          refine XS.icmpNo X66.here hx rfl (hb hby d5_7) rfl (tlt (by decide)).2.1 ?_
          refine XS.aloadN X66.here hx rfl (hb hby d5_10) rfl rfl ?_
          refine XS.iloadN X66.here hx rfl (hb hby d5_11) rfl ?_
          refine ca_ld X66 hx hZ e66 V_a1 (j := (2 : Int32)) 2 rfl (Nat.le_of_ble_eq_true rfl) (w := x2) rfl (g := (mkF m 12 #[.val (.ref a1), .val (.int (2 : Int32)), .val (.ref a3), .val (.int (2 : Int32)), .val (.int (5 : Int32)), .val (.int (2 : Int32)), .val (.int x1)] [(.int (2 : Int32)), (.ref a1)])) rfl rfl (hb hby d5_12) _ ?_
          refine XS.istore X66.here hx rfl (hb hby d5_13) rfl (l' := #[.val (.ref a1), .val (.int (2 : Int32)), .val (.ref a3), .val (.int (2 : Int32)), .val (.int (5 : Int32)), .val (.int (2 : Int32)), .val (.int x2)]) rfl ?_
          refine XS.iload X66.here hx rfl (hb hby d5_15) rfl ?_
          refine XS.sipush X66.here hx rfl (hb hby d5_17) ?_
          exact ks)
      by_cases hc2 : (255 : Int32) < x2
      · have pr70 : ∀ t, Steps p.tables e below (T66.setTop (mkF m 25 #[.val (.ref a1), .val (.int (2 : Int32)), .val (.ref a3), .val (.int (2 : Int32)), .val (.int (5 : Int32)), .val (.int (2 : Int32)), .val (.int x2)] [(.int (2 : Int32))])) t → G t := fun t ks => pr69 t (by
            refine XS.icmpNo X66.here hx rfl (hb hby d5_20) rfl (tlt hc2).2.2.2 ?_
            refine XS.iload X66.here hx rfl (hb hby d5_23) rfl ?_
            exact ks)
        have hpre : own_pre [x0, x1, x2, x3, x4] = 2 := by simp only [own_pre, if_neg hc0, if_neg hc1, if_pos hc2, Nat.zero_add]
        obtain ⟨fs, hr, hrun, hended, hW, hsame⟩ := X66.leave (v := some (.int (2 : Int32))) (fun h => by rw [Bd.returns] at h; cases h)
        refine ⟨_, _, hG _ (pr70 _ ?_), hrun, hended, _, _, rfl, ?_, ⟨_, rfl⟩, hW, hsame.mono (by decide) (by decide)⟩
        · exact retI X66 hx Bd.returns (hb hby d5_25) hr
        · show Q5 Z a3 [x0, x1, x2, x3, x4] h0 n0 _ T66.heap _
          rw [e66]
          exact ⟨_, by rw [hpre]; rfl, N66, K66, V_a3, rfl, fun q => by rw [hpre] at q; cases q⟩
      · have pr71 : ∀ t, Steps p.tables e below (T66.setTop (mkF m 31 #[.val (.ref a1), .val (.int (2 : Int32)), .val (.ref a3), .val (.int (2 : Int32)), .val (.int (5 : Int32)), .val (.int (2 : Int32)), .val (.int x2)] [(.int (x2.toInt8.toInt32)), (.int (2 : Int32)), (.ref a3)])) t → G t := fun t ks => pr69 t (by
            refine XS.icmpYes X66.here hx rfl (pc0 := 20) (pc' := 26) rfl (hb hby d5_20) rfl (flt hc2).2.2.2 (by decide) (by decide) ?_
            refine XS.aloadN X66.here hx rfl (hb hby d5_26) rfl rfl ?_
            refine XS.iloadN X66.here hx rfl (hb hby d5_27) rfl ?_
            refine XS.iload X66.here hx rfl (hb hby d5_28) rfl ?_
            refine XS.i2b X66.here hx rfl (hb hby d5_30) rfl ?_
            exact ks)
        obtain ⟨T72, h72, X72, e72, W72, V72, st72⟩ := ba_st X66 hx hZ e66 V_a3 (j := (2 : Int32)) 2 rfl (Nat.le_of_ble_eq_true rfl) (y := (x2.toInt8.toInt32)) (own_narB _) (g := (mkF m 31 #[.val (.ref a1), .val (.int (2 : Int32)), .val (.ref a3), .val (.int (2 : Int32)), .val (.int (5 : Int32)), .val (.int (2 : Int32)), .val (.int x2)] [(.int (x2.toInt8.toInt32)), (.int (2 : Int32)), (.ref a3)])) rfl rfl (hb hby d5_31)
        replace V_a3 := V72
        replace V_a1 := V_a1.other W72 ne13
        have N72 := Fr.snoc X72 N66 g_a3
        have Z72 : n0 ≤ h72.size := Nat.le_trans Z66 (Keep.of_wr W72).1
        have K72 := K66.wr W72 (Or.inl (List.mem_of_getElem? (i := 0) rfl))
        have pr73 : ∀ t, Steps p.tables e below (T72.setTop (mkF m 32 #[.val (.ref a1), .val (.int (2 : Int32)), .val (.ref a3), .val (.int (2 : Int32)), .val (.int (5 : Int32)), .val (.int (2 : Int32)), .val (.int x2)] [])) t → G t := fun t ks => pr71 t (st72 t ks)
        have pr74 : ∀ t, Steps p.tables e below (T72.setTop (mkF m 3 #[.val (.ref a1), .val (.int ((2 : Int32) + (1 : Int32))), .val (.ref a3), .val (.int ((2 : Int32) + (1 : Int32))), .val (.int (5 : Int32)), .val (.int ((2 : Int32) + (1 : Int32))), .val (.int x2)] [])) t → G t := fun t ks => pr73 t (by
            refine XS.iinc X72.here hx rfl (hb hby d5_32) rfl (l' := #[.val (.ref a1), .val (.int ((2 : Int32) + (1 : Int32))), .val (.ref a3), .val (.int (2 : Int32)), .val (.int (5 : Int32)), .val (.int (2 : Int32)), .val (.int x2)]) rfl ?_
            refine XS.iinc X72.here hx rfl (hb hby d5_35) rfl (l' := #[.val (.ref a1), .val (.int ((2 : Int32) + (1 : Int32))), .val (.ref a3), .val (.int ((2 : Int32) + (1 : Int32))), .val (.int (5 : Int32)), .val (.int (2 : Int32)), .val (.int x2)]) rfl ?_
            refine XS.iinc X72.here hx rfl (hb hby d5_38) rfl (l' := #[.val (.ref a1), .val (.int ((2 : Int32) + (1 : Int32))), .val (.ref a3), .val (.int ((2 : Int32) + (1 : Int32))), .val (.int (5 : Int32)), .val (.int ((2 : Int32) + (1 : Int32))), .val (.int x2)]) rfl ?_
            refine XS.goto X72.here hx rfl (pc0 := 41) (pc' := 3) rfl (hb hby d5_41) (by decide) (by decide) ?_
            exact ks)
        rw [(show (2 : Int32) + (1 : Int32) = (3 : Int32) from rfl)] at pr74
        have pr75 : ∀ t, Steps p.tables e below (T72.setTop (mkF m 20 #[.val (.ref a1), .val (.int (3 : Int32)), .val (.ref a3), .val (.int (3 : Int32)), .val (.int (5 : Int32)), .val (.int (3 : Int32)), .val (.int x3)] [(.int (255 : Int32)), (.int x3)])) t → G t := fun t ks => pr74 t (by
            refine XS.iload X72.here hx rfl (hb hby d5_3) rfl ?_
            refine XS.iload X72.here hx rfl (hb hby d5_5) rfl ?_
            refine XS.icmpNo X72.here hx rfl (hb hby d5_7) rfl (tlt (by decide)).2.1 ?_
            refine XS.aloadN X72.here hx rfl (hb hby d5_10) rfl rfl ?_
            refine XS.iloadN X72.here hx rfl (hb hby d5_11) rfl ?_
            refine ca_ld X72 hx hZ e72 V_a1 (j := (3 : Int32)) 3 rfl (Nat.le_of_ble_eq_true rfl) (w := x3) rfl (g := (mkF m 12 #[.val (.ref a1), .val (.int (3 : Int32)), .val (.ref a3), .val (.int (3 : Int32)), .val (.int (5 : Int32)), .val (.int (3 : Int32)), .val (.int x2)] [(.int (3 : Int32)), (.ref a1)])) rfl rfl (hb hby d5_12) _ ?_
            refine XS.istore X72.here hx rfl (hb hby d5_13) rfl (l' := #[.val (.ref a1), .val (.int (3 : Int32)), .val (.ref a3), .val (.int (3 : Int32)), .val (.int (5 : Int32)), .val (.int (3 : Int32)), .val (.int x3)]) rfl ?_
            refine XS.iload X72.here hx rfl (hb hby d5_15) rfl ?_
            refine XS.sipush X72.here hx rfl (hb hby d5_17) ?_
            exact ks)
        by_cases hc3 : (255 : Int32) < x3
        · have pr76 : ∀ t, Steps p.tables e below (T72.setTop (mkF m 25 #[.val (.ref a1), .val (.int (3 : Int32)), .val (.ref a3), .val (.int (3 : Int32)), .val (.int (5 : Int32)), .val (.int (3 : Int32)), .val (.int x3)] [(.int (3 : Int32))])) t → G t := fun t ks => pr75 t (by
              refine XS.icmpNo X72.here hx rfl (hb hby d5_20) rfl (tlt hc3).2.2.2 ?_
              refine XS.iload X72.here hx rfl (hb hby d5_23) rfl ?_
              exact ks)
          have hpre : own_pre [x0, x1, x2, x3, x4] = 3 := by simp only [own_pre, if_neg hc0, if_neg hc1, if_neg hc2, if_pos hc3, Nat.zero_add]
          obtain ⟨fs, hr, hrun, hended, hW, hsame⟩ := X72.leave (v := some (.int (3 : Int32))) (fun h => by rw [Bd.returns] at h; cases h)
          refine ⟨_, _, hG _ (pr76 _ ?_), hrun, hended, _, _, rfl, ?_, ⟨_, rfl⟩, hW, hsame.mono (by decide) (by decide)⟩
          · exact retI X72 hx Bd.returns (hb hby d5_25) hr
          · show Q5 Z a3 [x0, x1, x2, x3, x4] h0 n0 _ T72.heap _
            rw [e72]
            exact ⟨_, by rw [hpre]; rfl, N72, K72, V_a3, rfl, fun q => by rw [hpre] at q; cases q⟩
        · have pr77 : ∀ t, Steps p.tables e below (T72.setTop (mkF m 31 #[.val (.ref a1), .val (.int (3 : Int32)), .val (.ref a3), .val (.int (3 : Int32)), .val (.int (5 : Int32)), .val (.int (3 : Int32)), .val (.int x3)] [(.int (x3.toInt8.toInt32)), (.int (3 : Int32)), (.ref a3)])) t → G t := fun t ks => pr75 t (by
              refine XS.icmpYes X72.here hx rfl (pc0 := 20) (pc' := 26) rfl (hb hby d5_20) rfl (flt hc3).2.2.2 (by decide) (by decide) ?_
              refine XS.aloadN X72.here hx rfl (hb hby d5_26) rfl rfl ?_
              refine XS.iloadN X72.here hx rfl (hb hby d5_27) rfl ?_
              refine XS.iload X72.here hx rfl (hb hby d5_28) rfl ?_
              refine XS.i2b X72.here hx rfl (hb hby d5_30) rfl ?_
              exact ks)
          obtain ⟨T78, h78, X78, e78, W78, V78, st78⟩ := ba_st X72 hx hZ e72 V_a3 (j := (3 : Int32)) 3 rfl (Nat.le_of_ble_eq_true rfl) (y := (x3.toInt8.toInt32)) (own_narB _) (g := (mkF m 31 #[.val (.ref a1), .val (.int (3 : Int32)), .val (.ref a3), .val (.int (3 : Int32)), .val (.int (5 : Int32)), .val (.int (3 : Int32)), .val (.int x3)] [(.int (x3.toInt8.toInt32)), (.int (3 : Int32)), (.ref a3)])) rfl rfl (hb hby d5_31)
          replace V_a3 := V78
          replace V_a1 := V_a1.other W78 ne13
          have N78 := Fr.snoc X78 N72 g_a3
          have Z78 : n0 ≤ h78.size := Nat.le_trans Z72 (Keep.of_wr W78).1
          have K78 := K72.wr W78 (Or.inl (List.mem_of_getElem? (i := 0) rfl))
          have pr79 : ∀ t, Steps p.tables e below (T78.setTop (mkF m 32 #[.val (.ref a1), .val (.int (3 : Int32)), .val (.ref a3), .val (.int (3 : Int32)), .val (.int (5 : Int32)), .val (.int (3 : Int32)), .val (.int x3)] [])) t → G t := fun t ks => pr77 t (st78 t ks)
          have pr80 : ∀ t, Steps p.tables e below (T78.setTop (mkF m 3 #[.val (.ref a1), .val (.int ((3 : Int32) + (1 : Int32))), .val (.ref a3), .val (.int ((3 : Int32) + (1 : Int32))), .val (.int (5 : Int32)), .val (.int ((3 : Int32) + (1 : Int32))), .val (.int x3)] [])) t → G t := fun t ks => pr79 t (by
              refine XS.iinc X78.here hx rfl (hb hby d5_32) rfl (l' := #[.val (.ref a1), .val (.int ((3 : Int32) + (1 : Int32))), .val (.ref a3), .val (.int (3 : Int32)), .val (.int (5 : Int32)), .val (.int (3 : Int32)), .val (.int x3)]) rfl ?_
              refine XS.iinc X78.here hx rfl (hb hby d5_35) rfl (l' := #[.val (.ref a1), .val (.int ((3 : Int32) + (1 : Int32))), .val (.ref a3), .val (.int ((3 : Int32) + (1 : Int32))), .val (.int (5 : Int32)), .val (.int (3 : Int32)), .val (.int x3)]) rfl ?_
              refine XS.iinc X78.here hx rfl (hb hby d5_38) rfl (l' := #[.val (.ref a1), .val (.int ((3 : Int32) + (1 : Int32))), .val (.ref a3), .val (.int ((3 : Int32) + (1 : Int32))), .val (.int (5 : Int32)), .val (.int ((3 : Int32) + (1 : Int32))), .val (.int x3)]) rfl ?_
              refine XS.goto X78.here hx rfl (pc0 := 41) (pc' := 3) rfl (hb hby d5_41) (by decide) (by decide) ?_
              exact ks)
          rw [(show (3 : Int32) + (1 : Int32) = (4 : Int32) from rfl)] at pr80
          have pr81 : ∀ t, Steps p.tables e below (T78.setTop (mkF m 20 #[.val (.ref a1), .val (.int (4 : Int32)), .val (.ref a3), .val (.int (4 : Int32)), .val (.int (5 : Int32)), .val (.int (4 : Int32)), .val (.int x4)] [(.int (255 : Int32)), (.int x4)])) t → G t := fun t ks => pr80 t (by
              refine XS.iload X78.here hx rfl (hb hby d5_3) rfl ?_
              refine XS.iload X78.here hx rfl (hb hby d5_5) rfl ?_
              refine XS.icmpNo X78.here hx rfl (hb hby d5_7) rfl (tlt (by decide)).2.1 ?_
              refine XS.aloadN X78.here hx rfl (hb hby d5_10) rfl rfl ?_
              refine XS.iloadN X78.here hx rfl (hb hby d5_11) rfl ?_
              refine ca_ld X78 hx hZ e78 V_a1 (j := (4 : Int32)) 4 rfl (Nat.le_of_ble_eq_true rfl) (w := x4) rfl (g := (mkF m 12 #[.val (.ref a1), .val (.int (4 : Int32)), .val (.ref a3), .val (.int (4 : Int32)), .val (.int (5 : Int32)), .val (.int (4 : Int32)), .val (.int x3)] [(.int (4 : Int32)), (.ref a1)])) rfl rfl (hb hby d5_12) _ ?_
              refine XS.istore X78.here hx rfl (hb hby d5_13) rfl (l' := #[.val (.ref a1), .val (.int (4 : Int32)), .val (.ref a3), .val (.int (4 : Int32)), .val (.int (5 : Int32)), .val (.int (4 : Int32)), .val (.int x4)]) rfl ?_
              refine XS.iload X78.here hx rfl (hb hby d5_15) rfl ?_
              refine XS.sipush X78.here hx rfl (hb hby d5_17) ?_
              exact ks)
          by_cases hc4 : (255 : Int32) < x4
          · have pr82 : ∀ t, Steps p.tables e below (T78.setTop (mkF m 25 #[.val (.ref a1), .val (.int (4 : Int32)), .val (.ref a3), .val (.int (4 : Int32)), .val (.int (5 : Int32)), .val (.int (4 : Int32)), .val (.int x4)] [(.int (4 : Int32))])) t → G t := fun t ks => pr81 t (by
                refine XS.icmpNo X78.here hx rfl (hb hby d5_20) rfl (tlt hc4).2.2.2 ?_
                refine XS.iload X78.here hx rfl (hb hby d5_23) rfl ?_
                exact ks)
            have hpre : own_pre [x0, x1, x2, x3, x4] = 4 := by simp only [own_pre, if_neg hc0, if_neg hc1, if_neg hc2, if_neg hc3, if_pos hc4, Nat.zero_add]
            obtain ⟨fs, hr, hrun, hended, hW, hsame⟩ := X78.leave (v := some (.int (4 : Int32))) (fun h => by rw [Bd.returns] at h; cases h)
            refine ⟨_, _, hG _ (pr82 _ ?_), hrun, hended, _, _, rfl, ?_, ⟨_, rfl⟩, hW, hsame.mono (by decide) (by decide)⟩
            · exact retI X78 hx Bd.returns (hb hby d5_25) hr
            · show Q5 Z a3 [x0, x1, x2, x3, x4] h0 n0 _ T78.heap _
              rw [e78]
              exact ⟨_, by rw [hpre]; rfl, N78, K78, V_a3, rfl, fun q => by rw [hpre] at q; cases q⟩
          · have pr83 : ∀ t, Steps p.tables e below (T78.setTop (mkF m 31 #[.val (.ref a1), .val (.int (4 : Int32)), .val (.ref a3), .val (.int (4 : Int32)), .val (.int (5 : Int32)), .val (.int (4 : Int32)), .val (.int x4)] [(.int (x4.toInt8.toInt32)), (.int (4 : Int32)), (.ref a3)])) t → G t := fun t ks => pr81 t (by
                refine XS.icmpYes X78.here hx rfl (pc0 := 20) (pc' := 26) rfl (hb hby d5_20) rfl (flt hc4).2.2.2 (by decide) (by decide) ?_
                refine XS.aloadN X78.here hx rfl (hb hby d5_26) rfl rfl ?_
                refine XS.iloadN X78.here hx rfl (hb hby d5_27) rfl ?_
                refine XS.iload X78.here hx rfl (hb hby d5_28) rfl ?_
                refine XS.i2b X78.here hx rfl (hb hby d5_30) rfl ?_
                exact ks)
            obtain ⟨T84, h84, X84, e84, W84, V84, st84⟩ := ba_st X78 hx hZ e78 V_a3 (j := (4 : Int32)) 4 rfl (Nat.le_of_ble_eq_true rfl) (y := (x4.toInt8.toInt32)) (own_narB _) (g := (mkF m 31 #[.val (.ref a1), .val (.int (4 : Int32)), .val (.ref a3), .val (.int (4 : Int32)), .val (.int (5 : Int32)), .val (.int (4 : Int32)), .val (.int x4)] [(.int (x4.toInt8.toInt32)), (.int (4 : Int32)), (.ref a3)])) rfl rfl (hb hby d5_31)
            replace V_a3 := V84
            replace V_a1 := V_a1.other W84 ne13
            have N84 := Fr.snoc X84 N78 g_a3
            have Z84 : n0 ≤ h84.size := Nat.le_trans Z78 (Keep.of_wr W84).1
            have K84 := K78.wr W84 (Or.inl (List.mem_of_getElem? (i := 0) rfl))
            have pr85 : ∀ t, Steps p.tables e below (T84.setTop (mkF m 32 #[.val (.ref a1), .val (.int (4 : Int32)), .val (.ref a3), .val (.int (4 : Int32)), .val (.int (5 : Int32)), .val (.int (4 : Int32)), .val (.int x4)] [])) t → G t := fun t ks => pr83 t (st84 t ks)
            have pr86 : ∀ t, Steps p.tables e below (T84.setTop (mkF m 3 #[.val (.ref a1), .val (.int ((4 : Int32) + (1 : Int32))), .val (.ref a3), .val (.int ((4 : Int32) + (1 : Int32))), .val (.int (5 : Int32)), .val (.int ((4 : Int32) + (1 : Int32))), .val (.int x4)] [])) t → G t := fun t ks => pr85 t (by
                refine XS.iinc X84.here hx rfl (hb hby d5_32) rfl (l' := #[.val (.ref a1), .val (.int ((4 : Int32) + (1 : Int32))), .val (.ref a3), .val (.int (4 : Int32)), .val (.int (5 : Int32)), .val (.int (4 : Int32)), .val (.int x4)]) rfl ?_
                refine XS.iinc X84.here hx rfl (hb hby d5_35) rfl (l' := #[.val (.ref a1), .val (.int ((4 : Int32) + (1 : Int32))), .val (.ref a3), .val (.int ((4 : Int32) + (1 : Int32))), .val (.int (5 : Int32)), .val (.int (4 : Int32)), .val (.int x4)]) rfl ?_
                refine XS.iinc X84.here hx rfl (hb hby d5_38) rfl (l' := #[.val (.ref a1), .val (.int ((4 : Int32) + (1 : Int32))), .val (.ref a3), .val (.int ((4 : Int32) + (1 : Int32))), .val (.int (5 : Int32)), .val (.int ((4 : Int32) + (1 : Int32))), .val (.int x4)]) rfl ?_
                refine XS.goto X84.here hx rfl (pc0 := 41) (pc' := 3) rfl (hb hby d5_41) (by decide) (by decide) ?_
                exact ks)
            rw [(show (4 : Int32) + (1 : Int32) = (5 : Int32) from rfl)] at pr86
            have pr87 : ∀ t, Steps p.tables e below (T84.setTop (mkF m 46 #[.val (.ref a1), .val (.int (5 : Int32)), .val (.ref a3), .val (.int (5 : Int32)), .val (.int (5 : Int32)), .val (.int (5 : Int32)), .val (.int x4)] [(.int (5 : Int32))])) t → G t := fun t ks => pr86 t (by
                refine XS.iload X84.here hx rfl (hb hby d5_3) rfl ?_
                refine XS.iload X84.here hx rfl (hb hby d5_5) rfl ?_
                refine XS.icmpYes X84.here hx rfl (pc0 := 7) (pc' := 44) rfl (hb hby d5_7) rfl (flt (by decide)).2.1 (by decide) (by decide) ?_
                refine XS.iload X84.here hx rfl (hb hby d5_44) rfl ?_
                exact ks)
            have hpre : own_pre [x0, x1, x2, x3, x4] = 5 := by simp only [own_pre, if_neg hc0, if_neg hc1, if_neg hc2, if_neg hc3, if_neg hc4, Nat.zero_add]
            obtain ⟨fs, hr, hrun, hended, hW, hsame⟩ := X84.leave (v := some (.int (5 : Int32))) (fun h => by rw [Bd.returns] at h; cases h)
            refine ⟨_, _, hG _ (pr87 _ ?_), hrun, hended, _, _, rfl, ?_, ⟨_, rfl⟩, hW, hsame.mono (by decide) (by decide)⟩
            · exact retI X84 hx Bd.returns (hb hby d5_46) hr
            · show Q5 Z a3 [x0, x1, x2, x3, x4] h0 n0 _ T84.heap _
              rw [e84]
              exact ⟨_, by rw [hpre]; rfl, N84, K84, V_a3, rfl, fun _ => rfl⟩
theorem ef_rmCO (m : MethodId) (x0 : Addr) (x1 : Int32) (x2 : Int32) : entryFrame m #[(.ref x0), (.int x1), (.int x2)] 6 = mkF m 0 #[.val (.ref x0), .val (.int x1), .val (.int x2), .unset, .unset, .unset] [] := by first | (simp [entryFrame, mkF, argsToLocals, Value.category]; done) | rfl
def QCO (Z : State) (xs : List Int32) (h0 : Heap) (n0 : Nat) (v : Option Value) (h : Heap) (L : List Loc) : Prop := ∃ (b : Addr) (vs : List Int32), v = some (.ref b) ∧ Fr n0 L ∧ Keep h0 h [] ∧ n0 ≤ b ∧ h0.size ≤ b ∧ BA Z h b vs ∧ (own_pre xs = 5 ∧ vs = own_lat xs ∨ ¬ own_pre xs = 5 ∧ vs = own_u16 xs)
set_option maxRecDepth 65536 in
set_option maxHeartbeats 40000000 in
theorem rmCO (l : Launch) (Z : State) (a0 : Array Value) (hw : ∀ d ∈ tables_1, d.before a0 Z = true) (hr0 : ∀ d ∈ jdkStatics_1, d.before a0 Z = true) (ws : List Jvm.Cond) (a1 : Addr) (x0 x1 x2 x3 x4 : Int32) (fv : Value) (cs : Int32) (h0 : Heap) (n0 : Nat) (Z0 : n0 ≤ h0.size) (V_a1 : CA Z h0 a1 [x0, x1, x2, x3, x4]) (hch : ∀ i, i < 5 → ∃ q : Nat, q < 65536 ∧ [x0, x1, x2, x3, x4].getD i 0 = Int32.ofNat q) (J_ : JS Z n0 h0 fv cs) :
    MetFree l (⟨"java/lang/StringUTF16", "compress", "([CII)[B"⟩ : MethodName) (head1 (Jvm.Cond.code (⟨"java/lang/StringUTF16", "compress", "([CII)[B"⟩ : MethodName) jdk_52_method_16_code 6 (some (.array .byte)) :: ws) ({ frames := 3, cells := 2, slots := 15, locals := 40 } : Room)) (fun a U => a = #[(.ref a1), (.int (0 : Int32)), (.int (5 : Int32))] ∧ Z.Warmed39 U.vm ∧ U.heap = h0) (fun _ _ _ _ _ => True) (fun _ U o U' => ∃ v L, o = .returned v ∧ QCO Z [x0, x1, x2, x3, x4] h0 n0 v U'.heap L ∧ FrameEnd U o U' L ({ frames := 3, cells := 2, slots := 15, locals := 40 } : Room).cells ({ frames := 3, cells := 2, slots := 15, locals := 40 } : Room).slots) := by
  refine MetFree.of_bodySF (plainFor_of_name pn_0) hisR ?_
  intro p e s m args below meth c s₁ Bd hml0 hP hK
  obtain ⟨rfl, hZ, hh⟩ := hP
  have hx := Bd.exec
  have hby := Bd.bytes
  have hml : c.maxLocals = 6 := hml0
  have hown : s.vm.findClass "java/lang/StringUTF16" = some m.cls := findClass_of_methodNamed Bd.named
  have hnm := (name_of_methodNamed Bd.named Bd.method).1
  have X0 : Stand p l e ({ frames := 3, cells := 2, slots := 15, locals := 40 } : Room) s m #[(.ref a1), (.int (0 : Int32)), (.int (5 : Int32))] below meth c s₁ [] 0 0 := Stand.of_body Bd
  have e0 : s₁.heap = h0 := by rw [← hh, Bd.state]; rfl
  have N0 := Fr.nil n0
  obtain ⟨G, hG, pr0⟩ : ∃ G : State → Prop, (∀ t, G t → Steps p.tables e below (s₁.setTop (entryFrame m #[(.ref a1), (.int (0 : Int32)), (.int (5 : Int32))] 6)) t) ∧ (∀ t, Steps p.tables e below (s₁.setTop (mkF m 0 #[.val (.ref a1), .val (.int (0 : Int32)), .val (.int (5 : Int32)), .unset, .unset, .unset] [])) t → G t) := ⟨_, fun _ k => k, fun t ks => castTop (ef_rmCO m a1 (0 : Int32) (5 : Int32)) ks⟩
  have K0 : Keep h0 h0 [] := Keep.refl _ _
  have pr88 : ∀ t, Steps p.tables e below (s₁.setTop (mkF m 1 #[.val (.ref a1), .val (.int (0 : Int32)), .val (.int (5 : Int32)), .unset, .unset, .unset] [(.int (5 : Int32))])) t → G t := fun t ks => pr0 t (by
      refine XS.iloadN X0.here hx rfl (hb hby d4_0) rfl ?_
      exact ks)
  obtain ⟨T89, h89, X89, e89, E89, A89, st89⟩ := ba_new X0 hx hZ (hw _ (List.mem_of_getElem? (i := 21) rfl)) e0 (g := (mkF m 1 #[.val (.ref a1), .val (.int (0 : Int32)), .val (.int (5 : Int32)), .unset, .unset, .unset] [(.int (5 : Int32))])) rfl (hb hby d4_1) rfl (N := 5) rfl (cap := 5) (by decide) (by decide) (by decide) (by decide)
  obtain ⟨b, g89⟩ : ∃ z, z = h0.size := ⟨_, rfl⟩
  rw [← g89] at A89 st89
  have ne_a1_b : a1 ≠ b := Nat.ne_of_lt (Nat.lt_of_lt_of_le V_a1.lt (Nat.le_of_eq g89.symm))
  have g_b : n0 ≤ b := Nat.le_trans Z0 (Nat.le_of_eq g89.symm)
  have sz_b : h0.size ≤ b := Nat.le_trans K0.1 (Nat.le_of_eq g89.symm)
  replace V_a1 := V_a1.ext E89
  replace J_ := J_.ext E89
  have V_b := A89
  have Z89 : n0 ≤ h89.size := Nat.le_trans Z0 E89.1
  have K89 := K0.ext E89
  have pr90 : ∀ t, Steps p.tables e below (T89.setTop (mkF m 3 #[.val (.ref a1), .val (.int (0 : Int32)), .val (.int (5 : Int32)), .unset, .unset, .unset] [(.ref b)])) t → G t := fun t ks => pr88 t (st89 t ks)
  have pr91 : ∀ t, Steps p.tables e below (T89.setTop (mkF m 9 #[.val (.ref a1), .val (.int (0 : Int32)), .val (.int (5 : Int32)), .val (.ref b), .unset, .unset] [(.int (5 : Int32)), (.int (0 : Int32)), (.ref b), (.int (0 : Int32)), (.ref a1)])) t → G t := fun t ks => pr90 t (by
      refine XS.astoreN X89.here hx rfl (hb hby d4_3) rfl rfl (l' := #[.val (.ref a1), .val (.int (0 : Int32)), .val (.int (5 : Int32)), .val (.ref b), .unset, .unset]) rfl ?_
      refine XS.aloadN X89.here hx rfl (hb hby d4_4) rfl rfl ?_
      refine XS.iloadN X89.here hx rfl (hb hby d4_5) rfl ?_
      refine XS.aloadN X89.here hx rfl (hb hby d4_6) rfl rfl ?_
      refine XS.iconst X89.here hx rfl (hb hby d4_7) ?_
      refine XS.iloadN X89.here hx rfl (hb hby d4_8) rfl ?_
      exact ks)
  obtain ⟨_, _, ⟨T92, L92, k92, n92⟩, -, X92, hP92, st92⟩ := Jvm.LawKit.callS X89 hx (y := (⟨"java/lang/StringUTF16", "compress", "([CI[BII)I"⟩ : MethodName)) hown (mvT hZ (hw _ (List.mem_of_getElem? (i := 22) rfl))) (mvT hZ (hw _ (List.mem_of_getElem? (i := 23) rfl))) (mvT hZ (hw _ (List.mem_of_getElem? (i := 19) rfl))) (mvT hZ (hw _ (List.mem_of_getElem? (i := 24) rfl))) (by decide) (backOf (W := 0) (rm5 l Z a0 hw hr0 [] a1 b x0 x1 x2 x3 x4 h89 n0 Z89 V_a1 V_b ne_a1_b g_b) hZ (hw _ (List.mem_of_getElem? (i := 24) rfl)) (hw _ (List.mem_of_getElem? (i := 19) rfl)) (by decide) (by decide)) (g := (mkF m 9 #[.val (.ref a1), .val (.int (0 : Int32)), .val (.int (5 : Int32)), .val (.ref b), .unset, .unset] [(.int (5 : Int32)), (.int (0 : Int32)), (.ref b), (.int (0 : Int32)), (.ref a1)])) rfl (by rw [hml]; rfl) (argsL := [(.ref a1), (.int (0 : Int32)), (.ref b), (.int (0 : Int32)), (.int (5 : Int32))]) (rest := []) (lenOf pd_3 rfl) rfl (by show 2 * 0 + _ ≤ _; exact Nat.le_of_eq rfl) (hb hby d4_9) (fun _ _ => ⟨rfl, e89, (by decide : 1 + 0 ≤ _), (by decide : 5 + 0 ≤ _)⟩)
  obtain ⟨Lc92, hQ92, X92⟩ := own_out hP92 X92
  clear hP92
  dsimp only [Pt.U, Pt.locs, Pt.cells, Pt.slots] at X92 st92 hQ92
  obtain ⟨us, rfl, Nq92, Kq92, V_b, hul, hus⟩ := hQ92
  replace V_a1 := V_a1.keep Kq92 (ninS ne_a1_b nin0)
  replace J_ := J_.keep Kq92 (allS g_b all0)
  have Z92 : n0 ≤ T92.heap.size := Nat.le_trans Z89 Kq92.1
  have K92 := K89.trans Kq92 (allS (Or.inr sz_b) all0)
  have N92 := Fr.app N0 Nq92
  have pr93 : ∀ t, Steps p.tables e below (T92.setTop (mkF m 12 #[.val (.ref a1), .val (.int (0 : Int32)), .val (.int (5 : Int32)), .val (.ref b), .unset, .unset] [(.int (Int32.ofNat (own_pre [x0, x1, x2, x3, x4])))])) t → G t := fun t ks => pr91 t (st92 t ks)
  have hple : own_pre [x0, x1, x2, x3, x4] ≤ 5 := own_pre_le [x0, x1, x2, x3, x4]
  have pr94 : ∀ t, Steps p.tables e below (T92.setTop (mkF m 17 #[.val (.ref a1), .val (.int (0 : Int32)), .val (.int (5 : Int32)), .val (.ref b), .val (.int (Int32.ofNat (own_pre [x0, x1, x2, x3, x4]))), .unset] [(.int (5 : Int32)), (.int (Int32.ofNat (own_pre [x0, x1, x2, x3, x4])))])) t → G t := fun t ks => pr93 t (by
      refine XS.istore X92.here hx rfl (hb hby d4_12) rfl (l' := #[.val (.ref a1), .val (.int (0 : Int32)), .val (.int (5 : Int32)), .val (.ref b), .val (.int (Int32.ofNat (own_pre [x0, x1, x2, x3, x4]))), .unset]) rfl ?_
      refine XS.iload X92.here hx rfl (hb hby d4_14) rfl ?_
      refine XS.iloadN X92.here hx rfl (hb hby d4_16) rfl ?_
      exact ks)
  by_cases hq : (Int32.ofNat (own_pre [x0, x1, x2, x3, x4])) = (5 : Int32)
  · have pr95 : ∀ t, Steps p.tables e below (T92.setTop (mkF m 58 #[.val (.ref a1), .val (.int (0 : Int32)), .val (.int (5 : Int32)), .val (.ref b), .val (.int (Int32.ofNat (own_pre [x0, x1, x2, x3, x4]))), .unset] [(.ref b)])) t → G t := fun t ks => pr94 t (by
        refine XS.icmpYes X92.here hx rfl (pc0 := 17) (pc' := 57) rfl (hb hby d4_17) rfl (teq hq).1 (by decide) (by decide) ?_
        refine XS.aloadN X92.here hx rfl (hb hby d4_57) rfl rfl ?_
        exact ks)
    have hp5 : own_pre [x0, x1, x2, x3, x4] = 5 := own_ofinj (b := 5) (by omega) (by decide) hq
    obtain ⟨fs, hr, hrun, hended, hW, hsame⟩ := X92.leave (v := some (.ref b)) (fun h => by rw [Bd.returns] at h; cases h)
    refine ⟨_, _, hG _ (pr95 _ ?_), hrun, hended, _, _, rfl, ?_, ⟨_, rfl⟩, hW, hsame.mono (by decide) (by decide)⟩
    · jvm_step X92.here [X92.here.top, hx, (hb hby d4_58), X92.method', Bd.returns, Value.isRef, FieldType.isReference]
      first | (intro acts; rw [hr _ acts rfl rfl rfl]) | rw [hr _ _ rfl rfl rfl]
      exact Steps.refl _
    · show QCO Z [x0, x1, x2, x3, x4] h0 n0 _ T92.heap _
      exact ⟨b, us, rfl, N92, K92, g_b, sz_b, V_b, Or.inl ⟨hp5, hus hp5⟩⟩
  · have pr96 : ∀ t, Steps p.tables e below (T92.setTop (mkF m 23 #[.val (.ref a1), .val (.int (0 : Int32)), .val (.int (5 : Int32)), .val (.ref b), .val (.int (Int32.ofNat (own_pre [x0, x1, x2, x3, x4]))), .unset] [(.int (5 : Int32)), (.int (0 : Int32)), (.ref a1)])) t → G t := fun t ks => pr94 t (by
        refine XS.icmpNo X92.here hx rfl (hb hby d4_17) rfl (feq hq).1 ?_
        refine XS.aloadN X92.here hx rfl (hb hby d4_20) rfl rfl ?_
        refine XS.iloadN X92.here hx rfl (hb hby d4_21) rfl ?_
        refine XS.iloadN X92.here hx rfl (hb hby d4_22) rfl ?_
        exact ks)
    have hp5 : ¬ own_pre [x0, x1, x2, x3, x4] = 5 := fun z => hq (by rw [z]; rfl)
    obtain ⟨_, _, ⟨T97, L97, k97, n97⟩, -, X97, hP97, st97⟩ := Jvm.LawKit.callS X92 hx (y := (⟨"java/lang/StringUTF16", "toBytes", "([CII)[B"⟩ : MethodName)) hown (mvT hZ (hw _ (List.mem_of_getElem? (i := 75) rfl))) (mvT hZ (hw _ (List.mem_of_getElem? (i := 76) rfl))) (mvT hZ (hw _ (List.mem_of_getElem? (i := 19) rfl))) (mvT hZ (hw _ (List.mem_of_getElem? (i := 77) rfl))) (by decide) (backOf (W := 0) (rmTB l Z a0 hw hr0 [] a1 x0 x1 x2 x3 x4 fv cs T92.heap n0 Z92 V_a1 J_) hZ (hw _ (List.mem_of_getElem? (i := 77) rfl)) (hw _ (List.mem_of_getElem? (i := 19) rfl)) (by decide) (by decide)) (g := (mkF m 23 #[.val (.ref a1), .val (.int (0 : Int32)), .val (.int (5 : Int32)), .val (.ref b), .val (.int (Int32.ofNat (own_pre [x0, x1, x2, x3, x4]))), .unset] [(.int (5 : Int32)), (.int (0 : Int32)), (.ref a1)])) rfl (by rw [hml]; rfl) (argsL := [(.ref a1), (.int (0 : Int32)), (.int (5 : Int32))]) (rest := []) (lenOf pd_4 rfl) rfl (by show 2 * 0 + _ ≤ _; exact Nat.le_of_eq rfl) (hb hby d4_23) (fun _ _ => ⟨rfl, rfl, (by decide : 1 + 1 ≤ _), (by decide : 5 + 10 ≤ _)⟩)
    obtain ⟨Lc97, hQ97, X97⟩ := own_out hP97 X97
    clear hP97
    dsimp only [Pt.U, Pt.locs, Pt.cells, Pt.slots] at X97 st97 hQ97
    obtain ⟨d, rfl, Nq97, Kq97, g_d, szq_d, V_d⟩ := hQ97
    have ne_a1_d : a1 ≠ d := Nat.ne_of_lt (Nat.lt_of_lt_of_le V_a1.lt szq_d)
    have ne_b_d : b ≠ d := Nat.ne_of_lt (Nat.lt_of_lt_of_le V_b.lt szq_d)
    have sz_d : h0.size ≤ d := Nat.le_trans K92.1 szq_d
    replace V_a1 := V_a1.keep Kq97 nin0
    replace J_ := J_.keep Kq97 all0
    replace V_b := V_b.keep Kq97 nin0
    have Z97 : n0 ≤ T97.heap.size := Nat.le_trans Z92 Kq97.1
    have K97 := K92.trans Kq97 all0
    have N97 := Fr.app N92 Nq97
    have pr98 : ∀ t, Steps p.tables e below (T97.setTop (mkF m 26 #[.val (.ref a1), .val (.int (0 : Int32)), .val (.int (5 : Int32)), .val (.ref b), .val (.int (Int32.ofNat (own_pre [x0, x1, x2, x3, x4]))), .unset] [(.ref d)])) t → G t := fun t ks => pr96 t (st97 t ks)
    have pr99 : ∀ t, Steps p.tables e below (T97.setTop (mkF m 32 #[.val (.ref a1), .val (.int (0 : Int32)), .val (.int (5 : Int32)), .val (.ref b), .val (.int (Int32.ofNat (own_pre [x0, x1, x2, x3, x4]))), .val (.ref d)] [(.int (Int32.ofNat (own_pre [x0, x1, x2, x3, x4]))), (.ref d)])) t → G t := fun t ks => pr98 t (by
        refine XS.astore X97.here hx rfl (hb hby d4_26) rfl rfl (l' := #[.val (.ref a1), .val (.int (0 : Int32)), .val (.int (5 : Int32)), .val (.ref b), .val (.int (Int32.ofNat (own_pre [x0, x1, x2, x3, x4]))), .val (.ref d)]) rfl ?_
        refine XS.aload X97.here hx rfl (hb hby d4_28) rfl rfl ?_
        refine XS.iload X97.here hx rfl (hb hby d4_30) rfl ?_
        exact ks)
    obtain ⟨_, _, ⟨T100, L100, k100, n100⟩, -, X100, hP100, st100⟩ := Jvm.LawKit.callS X97 hx (y := (⟨"java/lang/StringUTF16", "getChar", "([BI)C"⟩ : MethodName)) hown (mvT hZ (hw _ (List.mem_of_getElem? (i := 91) rfl))) (mvT hZ (hw _ (List.mem_of_getElem? (i := 92) rfl))) (mvT hZ (hw _ (List.mem_of_getElem? (i := 19) rfl))) (mvT hZ (hw _ (List.mem_of_getElem? (i := 93) rfl))) (by decide) (backOf (W := 0) (rmGC l Z a0 hw hr0 [] d (Int32.ofNat (own_pre [x0, x1, x2, x3, x4])) (own_u16 [x0, x1, x2, x3, x4]) (own_pre [x0, x1, x2, x3, x4]) fv cs T97.heap n0 Z97 V_d rfl (by rw [own_u16_len]; show 2 * own_pre [x0, x1, x2, x3, x4] + 1 < 10; omega) (by rw [own_u16_len]; exact Nat.le_of_ble_eq_true rfl) J_) hZ (hw _ (List.mem_of_getElem? (i := 93) rfl)) (hw _ (List.mem_of_getElem? (i := 19) rfl)) (by decide) (by decide)) (g := (mkF m 32 #[.val (.ref a1), .val (.int (0 : Int32)), .val (.int (5 : Int32)), .val (.ref b), .val (.int (Int32.ofNat (own_pre [x0, x1, x2, x3, x4]))), .val (.ref d)] [(.int (Int32.ofNat (own_pre [x0, x1, x2, x3, x4]))), (.ref d)])) rfl (by rw [hml]; rfl) (argsL := [(.ref d), (.int (Int32.ofNat (own_pre [x0, x1, x2, x3, x4])))]) (rest := []) (lenOf pd_5 rfl) rfl (by show 2 * 0 + _ ≤ _; exact Nat.le_of_eq rfl) (hb hby d4_32) (fun _ _ => ⟨rfl, rfl, (by decide : 2 + 0 ≤ _), (by decide : 15 + 0 ≤ _)⟩)
    obtain ⟨Lc100, hQ100, X100⟩ := own_out hP100 X100
    clear hP100
    dsimp only [Pt.U, Pt.locs, Pt.cells, Pt.slots] at X100 st100 hQ100
    obtain ⟨rfl, Nq100, eh100⟩ := hQ100
    have N100 := Fr.app N97 Nq100
    have pr101 : ∀ t, Steps p.tables e below (T100.setTop (mkF m 35 #[.val (.ref a1), .val (.int (0 : Int32)), .val (.int (5 : Int32)), .val (.ref b), .val (.int (Int32.ofNat (own_pre [x0, x1, x2, x3, x4]))), .val (.ref d)] [(.int (own_gc ((own_u16 [x0, x1, x2, x3, x4]).getD (2 * own_pre [x0, x1, x2, x3, x4]) 0) ((own_u16 [x0, x1, x2, x3, x4]).getD (2 * own_pre [x0, x1, x2, x3, x4] + 1) 0)))])) t → G t := fun t ks => pr99 t (st100 t ks)
    have hgc : own_gc ((own_u16 [x0, x1, x2, x3, x4]).getD (2 * own_pre [x0, x1, x2, x3, x4]) 0) ((own_u16 [x0, x1, x2, x3, x4]).getD (2 * own_pre [x0, x1, x2, x3, x4] + 1) 0) = [x0, x1, x2, x3, x4].getD (own_pre [x0, x1, x2, x3, x4]) 0 := own_gcAt [x0, x1, x2, x3, x4] _ (by show own_pre [x0, x1, x2, x3, x4] < 5; omega) (hch _ (by omega))
    rw [hgc] at pr101
    have pr102 : ∀ t, Steps p.tables e below (T100.setTop (mkF m 56 #[.val (.ref a1), .val (.int (0 : Int32)), .val (.int (5 : Int32)), .val (.ref b), .val (.int (Int32.ofNat (own_pre [x0, x1, x2, x3, x4]))), .val (.ref d)] [(.ref d)])) t → G t := fun t ks => pr101 t (by
        refine XS.sipush X100.here hx rfl (hb hby d4_35) ?_
        refine XS.icmpYes X100.here hx rfl (pc0 := 38) (pc' := 54) rfl (hb hby d4_38) rfl (tlt (own_pre_at [x0, x1, x2, x3, x4] (by show own_pre [x0, x1, x2, x3, x4] < 5; omega))).2.2.1 (by decide) (by decide) ?_
        refine XS.aload X100.here hx rfl (hb hby d4_54) rfl rfl ?_
        exact ks)
    obtain ⟨fs, hr, hrun, hended, hW, hsame⟩ := X100.leave (v := some (.ref d)) (fun h => by rw [Bd.returns] at h; cases h)
    refine ⟨_, _, hG _ (pr102 _ ?_), hrun, hended, _, _, rfl, ?_, ⟨_, rfl⟩, hW, hsame.mono (by decide) (by decide)⟩
    · jvm_step X100.here [X100.here.top, hx, (hb hby d4_56), X100.method', Bd.returns, Value.isRef, FieldType.isReference]
      first | (intro acts; rw [hr _ acts rfl rfl rfl]) | rw [hr _ _ rfl rfl rfl]
      exact Steps.refl _
    · show QCO Z [x0, x1, x2, x3, x4] h0 n0 _ T100.heap _
      rw [eh100]
      exact ⟨d, _, rfl, N100, K97, g_d, sz_d, V_d, Or.inr ⟨hp5, rfl⟩⟩
theorem ef_rmCF (m : MethodId) (x0 : Addr) (x1 : Int32) : entryFrame m #[(.ref x0), (.int x1)] 2 = mkF m 0 #[.val (.ref x0), .val (.int x1)] [] := by first | (simp [entryFrame, mkF, argsToLocals, Value.category]; done) | rfl
def QCF (k : Int32) (h0 : Heap) (n0 : Nat) (v : Option Value) (h : Heap) (L : List Loc) : Prop := v = some (.int k) ∧ Fr n0 L ∧ h = h0
set_option maxRecDepth 65536 in
set_option maxHeartbeats 40000000 in
theorem rmCF (l : Launch) (Z : State) (a0 : Array Value) (hw : ∀ d ∈ tables_1, d.before a0 Z = true) (hr0 : ∀ d ∈ jdkStatics_1, d.before a0 Z = true) (ws : List Jvm.Cond) (a1 : Addr) (vs : List Int32) (k : Int32) (h0 : Heap) (n0 : Nat) (Z0 : n0 ≤ h0.size) (V_a1 : BA Z h0 a1 vs) (hk : (k = 0 ∧ vs.length = 5) ∨ (k = 1 ∧ vs.length = 10)) :
    MetFree l (⟨"java/lang/StringUTF16", "coderFromArrayLen", "([BI)B"⟩ : MethodName) (head1 (Jvm.Cond.code (⟨"java/lang/StringUTF16", "coderFromArrayLen", "([BI)B"⟩ : MethodName) jdk_52_method_15_code 2 (some .byte) :: ws) ({ frames := 0, cells := 0, slots := 0, locals := 0 } : Room)) (fun a U => a = #[(.ref a1), (.int (5 : Int32))] ∧ Z.Warmed39 U.vm ∧ U.heap = h0) (fun _ _ _ _ _ => True) (fun _ U o U' => ∃ v L, o = .returned v ∧ QCF k h0 n0 v U'.heap L ∧ FrameEnd U o U' L ({ frames := 0, cells := 0, slots := 0, locals := 0 } : Room).cells ({ frames := 0, cells := 0, slots := 0, locals := 0 } : Room).slots) := by
  refine MetFree.of_bodySF (plainFor_of_name pn_0) hisR ?_
  intro p e s m args below meth c s₁ Bd hml0 hP hK
  obtain ⟨rfl, hZ, hh⟩ := hP
  have hx := Bd.exec
  have hby := Bd.bytes
  have hml : c.maxLocals = 2 := hml0
  have hown : s.vm.findClass "java/lang/StringUTF16" = some m.cls := findClass_of_methodNamed Bd.named
  have hnm := (name_of_methodNamed Bd.named Bd.method).1
  have X0 : Stand p l e ({ frames := 0, cells := 0, slots := 0, locals := 0 } : Room) s m #[(.ref a1), (.int (5 : Int32))] below meth c s₁ [] 0 0 := Stand.of_body Bd
  have e0 : s₁.heap = h0 := by rw [← hh, Bd.state]; rfl
  have N0 := Fr.nil n0
  obtain ⟨G, hG, pr0⟩ : ∃ G : State → Prop, (∀ t, G t → Steps p.tables e below (s₁.setTop (entryFrame m #[(.ref a1), (.int (5 : Int32))] 2)) t) ∧ (∀ t, Steps p.tables e below (s₁.setTop (mkF m 0 #[.val (.ref a1), .val (.int (5 : Int32))] [])) t → G t) := ⟨_, fun _ k => k, fun t ks => castTop (ef_rmCF m a1 (5 : Int32)) ks⟩
  have pr103 : ∀ t, Steps p.tables e below (s₁.setTop (mkF m 8 #[.val (.ref a1), .val (.int (5 : Int32))] [(.int (((((5 : Int32) - (Int32.ofNat vs.length)).toUInt32 >>> ((31 : Int32) &&& 31).toUInt32).toInt32).toInt8.toInt32))])) t → G t := fun t ks => pr0 t (by
      refine XS.iloadN X0.here hx rfl (hb hby d6_0) rfl ?_
      refine XS.aloadN X0.here hx rfl (hb hby d6_1) rfl rfl ?_
      refine ba_len X0 hx hZ e0 V_a1 (g := (mkF m 2 #[.val (.ref a1), .val (.int (5 : Int32))] [(.ref a1), (.int (5 : Int32))])) rfl rfl (hb hby d6_2) _ ?_
      refine XS.isub X0.here hx rfl (hb hby d6_3) rfl ?_
      refine XS.bipush X0.here hx rfl (hb hby d6_4) ?_
      refine XS.iushr X0.here hx rfl (hb hby d6_6) rfl ?_
      refine XS.i2b X0.here hx rfl (hb hby d6_7) rfl ?_
      exact ks)
  obtain ⟨fs, hr, hrun, hended, hW, hsame⟩ := X0.leave (v := some (.int k)) (fun h => by rw [Bd.returns] at h; cases h)
  refine ⟨_, _, hG _ (pr103 _ ?_), hrun, hended, _, _, rfl, ?_, ⟨_, rfl⟩, hW, hsame.mono (by decide) (by decide)⟩
  · exact retN X0 hx (t := .byte) Bd.returns (by simp) (hb hby d6_8) (by rw [show nar .byte (((((5 : Int32) - (Int32.ofNat vs.length)).toUInt32 >>> ((31 : Int32) &&& 31).toUInt32).toInt32).toInt8.toInt32) = k from (own_codK hk)]; exact hr)
  · show QCF k h0 n0 _ s₁.heap _
    rw [e0]
    exact ⟨rfl, N0, rfl⟩
theorem ef_rm4 (m : MethodId) (x0 : Addr) (x1 : Addr) (x2 : Int32) (x3 : Int32) : entryFrame m #[(.ref x0), (.ref x1), (.int x2), (.int x3), .null] 6 = mkF m 0 #[.val (.ref x0), .val (.ref x1), .val (.int x2), .val (.int x3), .val .null, .unset] [] := by first | (simp [entryFrame, mkF, argsToLocals, Value.category]; done) | rfl
def QS (Z : State) (a1 : Addr) (xs : List Int32) (h0 : Heap) (n0 : Nat) (v : Option Value) (h : Heap) (L : List Loc) : Prop := v = none ∧ Fr n0 L ∧ Keep h0 h [a1] ∧ ∃ (b : Addr) (k : Int32) (vs : List Int32), STR Z h a1 b k vs ∧ own_str xs k vs
set_option maxRecDepth 65536 in
set_option maxHeartbeats 40000000 in
theorem rm4 (l : Launch) (Z : State) (a0 : Array Value) (hw : ∀ d ∈ tables_1, d.before a0 Z = true) (hr0 : ∀ d ∈ jdkStatics_1, d.before a0 Z = true) (ws : List Jvm.Cond) (a1 : Addr) (a2 : Addr) (x0 x1 x2 x3 x4 : Int32) (fv : Value) (cs : Int32) (h0 : Heap) (n0 : Nat) (Z0 : n0 ≤ h0.size) (E_a1 : Exa Z h0 a1 "java/lang/String") (F_a1_value : Fld Z h0 a1 "java/lang/String" "value" "[B" .null) (F_a1_coder : Fld Z h0 a1 "java/lang/String" "coder" "B" (.int 0)) (V_a2 : CA Z h0 a2 [x0, x1, x2, x3, x4]) (hch : ∀ i, i < 5 → ∃ q : Nat, q < 65536 ∧ [x0, x1, x2, x3, x4].getD i 0 = Int32.ofNat q) (g_a1 : n0 ≤ a1) (ne12 : a1 ≠ a2) (J_ : JS Z n0 h0 fv cs) :
    MetFree l (⟨"java/lang/String", "<init>", "([CIILjava/lang/Void;)V"⟩ : MethodName) (head1 (Jvm.Cond.code (⟨"java/lang/String", "<init>", "([CIILjava/lang/Void;)V"⟩ : MethodName) jdk_42_method_149_code 6 none :: ws) ({ frames := 4, cells := 2, slots := 15, locals := 57 } : Room)) (fun a U => a = #[(.ref a1), (.ref a2), (.int (0 : Int32)), (.int (5 : Int32)), .null] ∧ Z.Warmed39 U.vm ∧ U.heap = h0) (fun _ _ _ _ _ => True) (fun _ U o U' => ∃ v L, o = .returned v ∧ QS Z a1 [x0, x1, x2, x3, x4] h0 n0 v U'.heap L ∧ FrameEnd U o U' L ({ frames := 4, cells := 2, slots := 15, locals := 57 } : Room).cells ({ frames := 4, cells := 2, slots := 15, locals := 57 } : Room).slots) := by
  refine MetFree.of_bodySF (plainFor_of_name pn_1) hisR ?_
  intro p e s m args below meth c s₁ Bd hml0 hP hK
  obtain ⟨rfl, hZ, hh⟩ := hP
  have hx := Bd.exec
  have hby := Bd.bytes
  have hml : c.maxLocals = 6 := hml0
  have hown : s.vm.findClass "java/lang/String" = some m.cls := findClass_of_methodNamed Bd.named
  have hnm := (name_of_methodNamed Bd.named Bd.method).1
  have X0 : Stand p l e ({ frames := 4, cells := 2, slots := 15, locals := 57 } : Room) s m #[(.ref a1), (.ref a2), (.int (0 : Int32)), (.int (5 : Int32)), .null] below meth c s₁ [] 0 0 := Stand.of_body Bd
  have e0 : s₁.heap = h0 := by rw [← hh, Bd.state]; rfl
  have N0 := Fr.nil n0
  obtain ⟨G, hG, pr0⟩ : ∃ G : State → Prop, (∀ t, G t → Steps p.tables e below (s₁.setTop (entryFrame m #[(.ref a1), (.ref a2), (.int (0 : Int32)), (.int (5 : Int32)), .null] 6)) t) ∧ (∀ t, Steps p.tables e below (s₁.setTop (mkF m 0 #[.val (.ref a1), .val (.ref a2), .val (.int (0 : Int32)), .val (.int (5 : Int32)), .val .null, .unset] [])) t → G t) := ⟨_, fun _ k => k, fun t ks => castTop (ef_rm4 m a1 a2 (0 : Int32) (5 : Int32)) ks⟩
  have K0 : Keep h0 h0 [a1] := Keep.refl _ _
  have pr104 : ∀ t, Steps p.tables e below (s₁.setTop (mkF m 1 #[.val (.ref a1), .val (.ref a2), .val (.int (0 : Int32)), .val (.int (5 : Int32)), .val .null, .unset] [(.ref a1)])) t → G t := fun t ks => pr0 t (by
      refine XS.aloadN X0.here hx rfl (hb hby d2_0) rfl rfl ?_
      exact ks)
  obtain ⟨T105, X105, e105, st105⟩ := initO X0 hx hZ hown (hw _ (List.mem_of_getElem? (i := 13) rfl)) (hw _ (List.mem_of_getElem? (i := 14) rfl)) (hw _ (List.mem_of_getElem? (i := 15) rfl)) e0 (g := (mkF m 1 #[.val (.ref a1), .val (.ref a2), .val (.int (0 : Int32)), .val (.int (5 : Int32)), .val .null, .unset] [(.ref a1)])) rfl (by rw [hml]; rfl) rfl (hb hby d2_1) (by decide) (W := 0) (by show 2 * 0 + _ ≤ _; exact Nat.le_of_eq rfl) (by decide)
  have pr106 : ∀ t, Steps p.tables e below (T105.setTop (mkF m 4 #[.val (.ref a1), .val (.ref a2), .val (.int (0 : Int32)), .val (.int (5 : Int32)), .val .null, .unset] [])) t → G t := fun t ks => pr104 t (st105 t ks)
  have pr107 : ∀ t, Steps p.tables e below (T105.setTop (mkF m 27 #[.val (.ref a1), .val (.ref a2), .val (.int (0 : Int32)), .val (.int (5 : Int32)), .val .null, .unset] [])) t → G t := fun t ks => pr106 t (by
      refine XS.iloadN X105.here hx rfl (hb hby d2_4) rfl ?_
      refine XS.ifYes X105.here hx rfl (pc0 := 5) (pc' := 27) rfl (hb hby d2_5) rfl ((if0 _ _).trans (feq (by decide)).2) (by decide) (by decide) ?_
      exact ks)
  obtain ⟨T108, X108, e108, st108⟩ := getS2 X105 hx hZ hown (host := "") (Or.inl (hw _ (List.mem_of_getElem? (i := 16) rfl))) Via.refl e105 J_.1.sta (g := (mkF m 27 #[.val (.ref a1), .val (.ref a2), .val (.int (0 : Int32)), .val (.int (5 : Int32)), .val .null, .unset] [])) rfl (hb hby d2_27)
  have pr109 : ∀ t, Steps p.tables e below (T108.setTop (mkF m 30 #[.val (.ref a1), .val (.ref a2), .val (.int (0 : Int32)), .val (.int (5 : Int32)), .val .null, .unset] [(.int cs)])) t → G t := fun t ks => pr107 t (st108 t ks)
  have pr110 : ∀ t, Steps p.tables e below (T108.setTop (mkF m 36 #[.val (.ref a1), .val (.ref a2), .val (.int (0 : Int32)), .val (.int (5 : Int32)), .val .null, .unset] [(.int (5 : Int32)), (.int (0 : Int32)), (.ref a2)])) t → G t := fun t ks => pr109 t (by
      refine XS.ifNo X108.here hx rfl (hb hby d2_30) rfl ((if0 _ _).trans (feq J_.2.1).1) ?_
      refine XS.aloadN X108.here hx rfl (hb hby d2_33) rfl rfl ?_
      refine XS.iloadN X108.here hx rfl (hb hby d2_34) rfl ?_
      refine XS.iloadN X108.here hx rfl (hb hby d2_35) rfl ?_
      exact ks)
  obtain ⟨_, _, ⟨T111, L111, k111, n111⟩, -, X111, hP111, st111⟩ := Jvm.LawKit.callS X108 hx (y := (⟨"java/lang/StringUTF16", "compress", "([CII)[B"⟩ : MethodName)) hown (mvT hZ (hw _ (List.mem_of_getElem? (i := 17) rfl))) (mvT hZ (hw _ (List.mem_of_getElem? (i := 18) rfl))) (mvT hZ (hw _ (List.mem_of_getElem? (i := 19) rfl))) (mvT hZ (hw _ (List.mem_of_getElem? (i := 20) rfl))) (by decide) (backOf (W := 0) (rmCO l Z a0 hw hr0 [] a2 x0 x1 x2 x3 x4 fv cs h0 n0 Z0 V_a2 hch J_) hZ (hw _ (List.mem_of_getElem? (i := 20) rfl)) (hw _ (List.mem_of_getElem? (i := 19) rfl)) (by decide) (by decide)) (g := (mkF m 36 #[.val (.ref a1), .val (.ref a2), .val (.int (0 : Int32)), .val (.int (5 : Int32)), .val .null, .unset] [(.int (5 : Int32)), (.int (0 : Int32)), (.ref a2)])) rfl (by rw [hml]; rfl) (argsL := [(.ref a2), (.int (0 : Int32)), (.int (5 : Int32))]) (rest := []) (lenOf pd_4 rfl) rfl (by show 2 * 0 + _ ≤ _; exact Nat.le_of_eq rfl) (hb hby d2_36) (fun _ _ => ⟨rfl, e108, (by decide : 0 + 2 ≤ _), (by decide : 0 + 15 ≤ _)⟩)
  obtain ⟨Lc111, hQ111, X111⟩ := own_out hP111 X111
  clear hP111
  dsimp only [Pt.U, Pt.locs, Pt.cells, Pt.slots] at X111 st111 hQ111
  obtain ⟨b, vs, rfl, Nq111, Kq111, g_b, szq_b, V_b, hvs⟩ := hQ111
  have ne_a1_b : a1 ≠ b := Nat.ne_of_lt (Nat.lt_of_lt_of_le E_a1.lt szq_b)
  have ne_a2_b : a2 ≠ b := Nat.ne_of_lt (Nat.lt_of_lt_of_le V_a2.lt szq_b)
  have sz_b : h0.size ≤ b := Nat.le_trans K0.1 szq_b
  replace E_a1 := E_a1.keep Kq111
  replace F_a1_value := F_a1_value.keep Kq111 nin0
  replace F_a1_coder := F_a1_coder.keep Kq111 nin0
  replace V_a2 := V_a2.keep Kq111 nin0
  replace J_ := J_.keep Kq111 all0
  have Z111 : n0 ≤ T111.heap.size := Nat.le_trans Z0 Kq111.1
  have K111 := K0.trans Kq111 all0
  have N111 := Fr.app N0 Nq111
  have pr112 : ∀ t, Steps p.tables e below (T111.setTop (mkF m 39 #[.val (.ref a1), .val (.ref a2), .val (.int (0 : Int32)), .val (.int (5 : Int32)), .val .null, .unset] [(.ref b)])) t → G t := fun t ks => pr110 t (st111 t ks)
  obtain ⟨k, hstr⟩ := own_mkstr hvs
  have hk := own_strK rfl hstr
  have pr113 : ∀ t, Steps p.tables e below (T111.setTop (mkF m 45 #[.val (.ref a1), .val (.ref a2), .val (.int (0 : Int32)), .val (.int (5 : Int32)), .val .null, .val (.ref b)] [(.int (5 : Int32)), (.ref b), (.ref a1)])) t → G t := fun t ks => pr112 t (by
      refine XS.astore X111.here hx rfl (hb hby d2_39) rfl rfl (l' := #[.val (.ref a1), .val (.ref a2), .val (.int (0 : Int32)), .val (.int (5 : Int32)), .val .null, .val (.ref b)]) rfl ?_
      refine XS.aloadN X111.here hx rfl (hb hby d2_41) rfl rfl ?_
      refine XS.aload X111.here hx rfl (hb hby d2_42) rfl rfl ?_
      refine XS.iloadN X111.here hx rfl (hb hby d2_44) rfl ?_
      exact ks)
  obtain ⟨_, _, ⟨T114, L114, k114, n114⟩, -, X114, hP114, st114⟩ := Jvm.LawKit.callS X111 hx (y := (⟨"java/lang/StringUTF16", "coderFromArrayLen", "([BI)B"⟩ : MethodName)) hown (mvT hZ (hw _ (List.mem_of_getElem? (i := 25) rfl))) (mvT hZ (hw _ (List.mem_of_getElem? (i := 26) rfl))) (mvT hZ (hw _ (List.mem_of_getElem? (i := 19) rfl))) (mvT hZ (hw _ (List.mem_of_getElem? (i := 27) rfl))) (by decide) (backOf (W := 1) (rmCF l Z a0 hw hr0 [] b vs k T111.heap n0 Z111 V_b hk) hZ (hw _ (List.mem_of_getElem? (i := 27) rfl)) (hw _ (List.mem_of_getElem? (i := 19) rfl)) (by decide) (by decide)) (g := (mkF m 45 #[.val (.ref a1), .val (.ref a2), .val (.int (0 : Int32)), .val (.int (5 : Int32)), .val .null, .val (.ref b)] [(.int (5 : Int32)), (.ref b), (.ref a1)])) rfl (by rw [hml]; rfl) (argsL := [(.ref b), (.int (5 : Int32))]) (rest := [(.ref a1)]) (lenOf pd_6 rfl) rfl (by show 2 * 0 + _ ≤ _; exact Nat.le_of_eq rfl) (hb hby d2_45) (fun _ _ => ⟨rfl, rfl, (by decide : 2 + 0 ≤ _), (by decide : 15 + 0 ≤ _)⟩)
  obtain ⟨Lc114, hQ114, X114⟩ := own_out hP114 X114
  clear hP114
  dsimp only [Pt.U, Pt.locs, Pt.cells, Pt.slots] at X114 st114 hQ114
  obtain ⟨rfl, Nq114, eh114⟩ := hQ114
  have N114 := Fr.app N111 Nq114
  have pr115 : ∀ t, Steps p.tables e below (T114.setTop (mkF m 48 #[.val (.ref a1), .val (.ref a2), .val (.int (0 : Int32)), .val (.int (5 : Int32)), .val .null, .val (.ref b)] [(.int k), (.ref a1)])) t → G t := fun t ks => pr113 t (st114 t ks)
  obtain ⟨T116, h116, X116, e116, W116, st116⟩ := putFN X114 hx hZ hown (hw _ (List.mem_of_getElem? (i := 28) rfl)) Via.refl eh114 F_a1_coder E_a1 (Or.inr ⟨(hw _ (List.mem_of_getElem? (i := 29) rfl)), rfl, hnm⟩) (hw _ (List.mem_of_getElem? (i := 4) rfl)) (ty := .byte) (v' := (.int k)) (by decide) (by rcases hk with ⟨rfl, -⟩ | ⟨rfl, -⟩ <;> rfl) (by rcases hk with ⟨rfl, -⟩ | ⟨rfl, -⟩ <;> rfl) (g := (mkF m 48 #[.val (.ref a1), .val (.ref a2), .val (.int (0 : Int32)), .val (.int (5 : Int32)), .val .null, .val (.ref b)] [(.int k), (.ref a1)])) rfl rfl (hb hby d2_48)
  replace F_a1_coder := F_a1_coder.same W116
  replace E_a1 := E_a1.wr W116
  replace F_a1_value := F_a1_value.other W116 (Or.inr (slot_ne (Or.inr (hw _ (List.mem_of_getElem? (i := 31) rfl))) (Or.inr (hw _ (List.mem_of_getElem? (i := 29) rfl))) (by decide) (t := (.array .byte)) (t' := .byte) (by decide) (by decide)))
  replace V_a2 := V_a2.other W116 (Ne.symm ne12)
  replace J_ := J_.wr W116
  replace V_b := V_b.other W116 (Ne.symm ne_a1_b)
  have N116 := Fr.snoc X116 N114 g_a1
  have Z116 : n0 ≤ h116.size := Nat.le_trans Z111 (Keep.of_wr W116).1
  have K116 := K111.wr W116 (Or.inl (List.mem_of_getElem? (i := 0) rfl))
  have pr117 : ∀ t, Steps p.tables e below (T116.setTop (mkF m 51 #[.val (.ref a1), .val (.ref a2), .val (.int (0 : Int32)), .val (.int (5 : Int32)), .val .null, .val (.ref b)] [])) t → G t := fun t ks => pr115 t (st116 t ks)
  have pr118 : ∀ t, Steps p.tables e below (T116.setTop (mkF m 54 #[.val (.ref a1), .val (.ref a2), .val (.int (0 : Int32)), .val (.int (5 : Int32)), .val .null, .val (.ref b)] [(.ref b), (.ref a1)])) t → G t := fun t ks => pr117 t (by
      refine XS.aloadN X116.here hx rfl (hb hby d2_51) rfl rfl ?_
      refine XS.aload X116.here hx rfl (hb hby d2_52) rfl rfl ?_
      exact ks)
  obtain ⟨T119, h119, X119, e119, W119, st119⟩ := putF X116 hx hZ hown (host := "") (Or.inl (hw _ (List.mem_of_getElem? (i := 30) rfl))) Via.refl e116 F_a1_value E_a1 (Or.inr ⟨(hw _ (List.mem_of_getElem? (i := 31) rfl)), rfl, hnm⟩) (hw _ (List.mem_of_getElem? (i := 4) rfl)) (ty := (.array .byte)) (by decide) rfl rfl (g := (mkF m 54 #[.val (.ref a1), .val (.ref a2), .val (.int (0 : Int32)), .val (.int (5 : Int32)), .val .null, .val (.ref b)] [(.ref b), (.ref a1)])) rfl rfl (hb hby d2_54)
  replace F_a1_value := F_a1_value.same W119
  replace E_a1 := E_a1.wr W119
  replace F_a1_coder := F_a1_coder.other W119 (Or.inr (slot_ne (Or.inr (hw _ (List.mem_of_getElem? (i := 29) rfl))) (Or.inr (hw _ (List.mem_of_getElem? (i := 31) rfl))) (by decide) (t := .byte) (t' := (.array .byte)) (by decide) (by decide)))
  replace V_a2 := V_a2.other W119 (Ne.symm ne12)
  replace J_ := J_.wr W119
  replace V_b := V_b.other W119 (Ne.symm ne_a1_b)
  have N119 := Fr.snoc X119 N116 g_a1
  have Z119 : n0 ≤ h119.size := Nat.le_trans Z116 (Keep.of_wr W119).1
  have K119 := K116.wr W119 (Or.inl (List.mem_of_getElem? (i := 0) rfl))
  have pr120 : ∀ t, Steps p.tables e below (T119.setTop (mkF m 57 #[.val (.ref a1), .val (.ref a2), .val (.int (0 : Int32)), .val (.int (5 : Int32)), .val .null, .val (.ref b)] [])) t → G t := fun t ks => pr118 t (st119 t ks)
  obtain ⟨fs, hr, hrun, hended, hW, hsame⟩ := X119.leave (v := none) (fun _ => rfl)
  refine ⟨_, _, hG _ (pr120 _ ?_), hrun, hended, _, _, rfl, ?_, ⟨_, rfl⟩, hW, hsame.mono (by decide) (by decide)⟩
  · exact X119.returnOut hx Bd.returns (hb hby d2_57) hr
  · show QS Z a1 [x0, x1, x2, x3, x4] h0 n0 _ T119.heap _
    rw [e119]
    exact ⟨rfl, N119, K119, b, k, vs, ⟨E_a1, F_a1_value, F_a1_coder, V_b⟩, hstr⟩
theorem ef_rm1 (m : MethodId) (x0 : Addr) (x1 : Addr) : entryFrame m #[(.ref x0), (.ref x1)] 2 = mkF m 0 #[.val (.ref x0), .val (.ref x1)] [] := by first | (simp [entryFrame, mkF, argsToLocals, Value.category]; done) | rfl
set_option maxRecDepth 65536 in
set_option maxHeartbeats 40000000 in
theorem rm1 (l : Launch) (Z : State) (a0 : Array Value) (hw : ∀ d ∈ tables_1, d.before a0 Z = true) (hr0 : ∀ d ∈ jdkStatics_1, d.before a0 Z = true) (ws : List Jvm.Cond) (a1 : Addr) (a2 : Addr) (x0 x1 x2 x3 x4 : Int32) (fv : Value) (cs : Int32) (h0 : Heap) (n0 : Nat) (Z0 : n0 ≤ h0.size) (E_a1 : Exa Z h0 a1 "java/lang/String") (F_a1_value : Fld Z h0 a1 "java/lang/String" "value" "[B" .null) (F_a1_coder : Fld Z h0 a1 "java/lang/String" "coder" "B" (.int 0)) (V_a2 : CA Z h0 a2 [x0, x1, x2, x3, x4]) (hch : ∀ i, i < 5 → ∃ q : Nat, q < 65536 ∧ [x0, x1, x2, x3, x4].getD i 0 = Int32.ofNat q) (g_a1 : n0 ≤ a1) (ne12 : a1 ≠ a2) (J_ : JS Z n0 h0 fv cs) :
    MetFree l (⟨"java/lang/String", "<init>", "([C)V"⟩ : MethodName) (head1 (Jvm.Cond.code (⟨"java/lang/String", "<init>", "([C)V"⟩ : MethodName) jdk_42_method_3_code 2 none :: ws) ({ frames := 5, cells := 2, slots := 15, locals := 74 } : Room)) (fun a U => a = #[(.ref a1), (.ref a2)] ∧ Z.Warmed39 U.vm ∧ U.heap = h0) (fun _ _ _ _ _ => True) (fun _ U o U' => ∃ v L, o = .returned v ∧ QS Z a1 [x0, x1, x2, x3, x4] h0 n0 v U'.heap L ∧ FrameEnd U o U' L ({ frames := 5, cells := 2, slots := 15, locals := 74 } : Room).cells ({ frames := 5, cells := 2, slots := 15, locals := 74 } : Room).slots) := by
  refine MetFree.of_bodySF (plainFor_of_name pn_1) hisR ?_
  intro p e s m args below meth c s₁ Bd hml0 hP hK
  obtain ⟨rfl, hZ, hh⟩ := hP
  have hx := Bd.exec
  have hby := Bd.bytes
  have hml : c.maxLocals = 2 := hml0
  have hown : s.vm.findClass "java/lang/String" = some m.cls := findClass_of_methodNamed Bd.named
  have hnm := (name_of_methodNamed Bd.named Bd.method).1
  have X0 : Stand p l e ({ frames := 5, cells := 2, slots := 15, locals := 74 } : Room) s m #[(.ref a1), (.ref a2)] below meth c s₁ [] 0 0 := Stand.of_body Bd
  have e0 : s₁.heap = h0 := by rw [← hh, Bd.state]; rfl
  have N0 := Fr.nil n0
  obtain ⟨G, hG, pr0⟩ : ∃ G : State → Prop, (∀ t, G t → Steps p.tables e below (s₁.setTop (entryFrame m #[(.ref a1), (.ref a2)] 2)) t) ∧ (∀ t, Steps p.tables e below (s₁.setTop (mkF m 0 #[.val (.ref a1), .val (.ref a2)] [])) t → G t) := ⟨_, fun _ k => k, fun t ks => castTop (ef_rm1 m a1 a2) ks⟩
  have K0 : Keep h0 h0 [a1] := Keep.refl _ _
  have pr121 : ∀ t, Steps p.tables e below (s₁.setTop (mkF m 6 #[.val (.ref a1), .val (.ref a2)] [.null, (.int (5 : Int32)), (.int (0 : Int32)), (.ref a2), (.ref a1)])) t → G t := fun t ks => pr0 t (by
      refine XS.aloadN X0.here hx rfl (hb hby d1_0) rfl rfl ?_
      refine XS.aloadN X0.here hx rfl (hb hby d1_1) rfl rfl ?_
      refine XS.iconst X0.here hx rfl (hb hby d1_2) ?_
      refine XS.aloadN X0.here hx rfl (hb hby d1_3) rfl rfl ?_
      refine ca_len X0 hx hZ e0 V_a2 (g := (mkF m 4 #[.val (.ref a1), .val (.ref a2)] [(.ref a2), (.int (0 : Int32)), (.ref a2), (.ref a1)])) rfl rfl (hb hby d1_4) _ ?_
      refine XS.aconstNull X0.here hx rfl (hb hby d1_5) ?_
      exact ks)
  obtain ⟨_, _, ⟨T122, L122, k122, n122⟩, -, X122, hP122, st122⟩ := X0.specialBack hx (y := (⟨"java/lang/String", "<init>", "([CIILjava/lang/Void;)V"⟩ : MethodName)) rfl hown (mvT hZ (hw _ (List.mem_of_getElem? (i := 9) rfl))) (mvT hZ (hw _ (List.mem_of_getElem? (i := 10) rfl))) (mvT hZ (hw _ (List.mem_of_getElem? (i := 12) rfl))) (by decide) (backOf (W := 0) (rm4 l Z a0 hw hr0 [] a1 a2 x0 x1 x2 x3 x4 fv cs h0 n0 Z0 E_a1 F_a1_value F_a1_coder V_a2 hch g_a1 ne12 J_) hZ (hw _ (List.mem_of_getElem? (i := 12) rfl)) (hw _ (List.mem_of_getElem? (i := 5) rfl)) (by decide) (by decide)) (g := (mkF m 6 #[.val (.ref a1), .val (.ref a2)] [.null, (.int (5 : Int32)), (.int (0 : Int32)), (.ref a2), (.ref a1)])) rfl (by rw [hml]; rfl) (Steps.refl _) (a := a1) (argsL := [(.ref a2), (.int (0 : Int32)), (.int (5 : Int32)), .null]) (rest := []) (lenOf pd_7 rfl) rfl (by show 2 * 0 + _ ≤ _; exact Nat.le_of_eq rfl) (hb hby d1_6) (fun _ _ => ⟨rfl, e0, (by decide : 0 + 2 ≤ _), (by decide : 0 + 15 ≤ _)⟩)
  obtain ⟨Lc122, hQ122, X122⟩ := own_out hP122 X122
  clear hP122
  dsimp only [Pt.U, Pt.locs, Pt.cells, Pt.slots] at X122 st122 hQ122
  obtain ⟨rfl, Nq122, Kq122, b, k, vs, hS, hstr⟩ := hQ122
  have Z122 : n0 ≤ T122.heap.size := Nat.le_trans Z0 Kq122.1
  have K122 := K0.trans Kq122 (allS (Or.inl (List.mem_of_getElem? (i := 0) rfl)) all0)
  have N122 := Fr.app N0 Nq122
  have pr123 : ∀ t, Steps p.tables e below (T122.setTop (mkF m 9 #[.val (.ref a1), .val (.ref a2)] [])) t → G t := fun t ks => pr121 t (st122.trans ks)
  obtain ⟨fs, hr, hrun, hended, hW, hsame⟩ := X122.leave (v := none) (fun _ => rfl)
  refine ⟨_, _, hG _ (pr123 _ ?_), hrun, hended, _, _, rfl, ?_, ⟨_, rfl⟩, hW, hsame.mono (by decide) (by decide)⟩
  · exact X122.returnOut hx Bd.returns (hb hby d1_9) hr
  · show QS Z a1 [x0, x1, x2, x3, x4] h0 n0 _ T122.heap _
    exact ⟨rfl, N122, K122, b, k, vs, hS, hstr⟩
theorem ef_rmCD (m : MethodId) (x0 : Addr) : entryFrame m #[(.ref x0)] 1 = mkF m 0 #[.val (.ref x0)] [] := by first | (simp [entryFrame, mkF, argsToLocals, Value.category]; done) | rfl
set_option maxRecDepth 65536 in
set_option maxHeartbeats 40000000 in
theorem rmCD (l : Launch) (Z : State) (a0 : Array Value) (hw : ∀ d ∈ tables_1, d.before a0 Z = true) (hr0 : ∀ d ∈ jdkStatics_1, d.before a0 Z = true) (ws : List Jvm.Cond) (a1 : Addr) (b : Addr) (k : Int32) (vs : List Int32) (fv : Value) (cs : Int32) (h0 : Heap) (n0 : Nat) (Z0 : n0 ≤ h0.size) (hS : STR Z h0 a1 b k vs) (J_ : JS Z n0 h0 fv cs) (hk : k = 0 ∨ k = 1) :
    MetFree l (⟨"java/lang/String", "coder", "()B"⟩ : MethodName) (head1 (Jvm.Cond.code (⟨"java/lang/String", "coder", "()B"⟩ : MethodName) jdk_42_method_152_code 1 (some .byte) :: ws) ({ frames := 0, cells := 0, slots := 0, locals := 0 } : Room)) (fun a U => a = #[(.ref a1)] ∧ Z.Warmed39 U.vm ∧ U.heap = h0) (fun _ _ _ _ _ => True) (fun _ U o U' => ∃ v L, o = .returned v ∧ QCF k h0 n0 v U'.heap L ∧ FrameEnd U o U' L ({ frames := 0, cells := 0, slots := 0, locals := 0 } : Room).cells ({ frames := 0, cells := 0, slots := 0, locals := 0 } : Room).slots) := by
  refine MetFree.of_bodySF (plainFor_of_name pn_1) hisR ?_
  intro p e s m args below meth c s₁ Bd hml0 hP hK
  obtain ⟨rfl, hZ, hh⟩ := hP
  have hx := Bd.exec
  have hby := Bd.bytes
  have hml : c.maxLocals = 1 := hml0
  have hown : s.vm.findClass "java/lang/String" = some m.cls := findClass_of_methodNamed Bd.named
  have hnm := (name_of_methodNamed Bd.named Bd.method).1
  have X0 : Stand p l e ({ frames := 0, cells := 0, slots := 0, locals := 0 } : Room) s m #[(.ref a1)] below meth c s₁ [] 0 0 := Stand.of_body Bd
  have e0 : s₁.heap = h0 := by rw [← hh, Bd.state]; rfl
  have N0 := Fr.nil n0
  obtain ⟨G, hG, pr0⟩ : ∃ G : State → Prop, (∀ t, G t → Steps p.tables e below (s₁.setTop (entryFrame m #[(.ref a1)] 1)) t) ∧ (∀ t, Steps p.tables e below (s₁.setTop (mkF m 0 #[.val (.ref a1)] [])) t → G t) := ⟨_, fun _ k => k, fun t ks => castTop (ef_rmCD m a1) ks⟩
  obtain ⟨E_a1, F_a1_value, F_a1_coder, V_b⟩ := hS
  obtain ⟨T124, X124, e124, st124⟩ := getS2 X0 hx hZ hown (host := "") (Or.inl (hw _ (List.mem_of_getElem? (i := 16) rfl))) Via.refl e0 J_.1.sta (g := (mkF m 0 #[.val (.ref a1)] [])) rfl (hb hby d10_0)
  have pr125 : ∀ t, Steps p.tables e below (T124.setTop (mkF m 3 #[.val (.ref a1)] [(.int cs)])) t → G t := fun t ks => pr0 t (st124 t ks)
  have pr126 : ∀ t, Steps p.tables e below (T124.setTop (mkF m 7 #[.val (.ref a1)] [(.ref a1)])) t → G t := fun t ks => pr125 t (by
      refine XS.ifNo X124.here hx rfl (hb hby d10_3) rfl ((if0 _ _).trans (feq J_.2.1).1) ?_
      refine XS.aloadN X124.here hx rfl (hb hby d10_6) rfl rfl ?_
      exact ks)
  obtain ⟨T127, X127, e127, st127⟩ := getF X124 hx hZ hown (host := "") (Or.inl (hw _ (List.mem_of_getElem? (i := 28) rfl))) Via.refl e124 F_a1_coder (g := (mkF m 7 #[.val (.ref a1)] [(.ref a1)])) rfl rfl (hb hby d10_7)
  have pr128 : ∀ t, Steps p.tables e below (T127.setTop (mkF m 10 #[.val (.ref a1)] [(.int k)])) t → G t := fun t ks => pr126 t (st127 t ks)
  have pr129 : ∀ t, Steps p.tables e below (T127.setTop (mkF m 14 #[.val (.ref a1)] [(.int k)])) t → G t := fun t ks => pr128 t (by
      refine XS.goto X127.here hx rfl (pc0 := 10) (pc' := 14) rfl (hb hby d10_10) (by decide) (by decide) ?_
      exact ks)
  obtain ⟨fs, hr, hrun, hended, hW, hsame⟩ := X127.leave (v := some (.int k)) (fun h => by rw [Bd.returns] at h; cases h)
  refine ⟨_, _, hG _ (pr129 _ ?_), hrun, hended, _, _, rfl, ?_, ⟨_, rfl⟩, hW, hsame.mono (by decide) (by decide)⟩
  · exact retN X127 hx (t := .byte) Bd.returns (by simp) (hb hby d10_14) (by rw [show nar .byte k = k from (by rcases hk with rfl | rfl <;> rfl)]; exact hr)
  · show QCF k h0 n0 _ T127.heap _
    rw [e127]
    exact ⟨rfl, N0, rfl⟩
theorem ef_rmL1 (m : MethodId) (x0 : Addr) : entryFrame m #[(.ref x0)] 1 = mkF m 0 #[.val (.ref x0)] [] := by first | (simp [entryFrame, mkF, argsToLocals, Value.category]; done) | rfl
set_option maxRecDepth 65536 in
set_option maxHeartbeats 40000000 in
theorem rmL1 (l : Launch) (Z : State) (a0 : Array Value) (hw : ∀ d ∈ tables_1, d.before a0 Z = true) (hr0 : ∀ d ∈ jdkStatics_1, d.before a0 Z = true) (ws : List Jvm.Cond) (a1 : Addr) (b : Addr) (k : Int32) (vs : List Int32) (fv : Value) (cs : Int32) (h0 : Heap) (n0 : Nat) (Z0 : n0 ≤ h0.size) (hS : STR Z h0 a1 b k vs) (J_ : JS Z n0 h0 fv cs) (hk : k = 0 ∨ k = 1) :
    MetFree l (⟨"java/lang/String", "isLatin1", "()Z"⟩ : MethodName) (head1 (Jvm.Cond.code (⟨"java/lang/String", "isLatin1", "()Z"⟩ : MethodName) jdk_42_method_154_code 1 (some .boolean) :: ws) ({ frames := 0, cells := 0, slots := 0, locals := 0 } : Room)) (fun a U => a = #[(.ref a1)] ∧ Z.Warmed39 U.vm ∧ U.heap = h0) (fun _ _ _ _ _ => True) (fun _ U o U' => ∃ v L, o = .returned v ∧ QCF (if k = 0 then 1 else 0) h0 n0 v U'.heap L ∧ FrameEnd U o U' L ({ frames := 0, cells := 0, slots := 0, locals := 0 } : Room).cells ({ frames := 0, cells := 0, slots := 0, locals := 0 } : Room).slots) := by
  refine MetFree.of_bodySF (plainFor_of_name pn_1) hisR ?_
  intro p e s m args below meth c s₁ Bd hml0 hP hK
  obtain ⟨rfl, hZ, hh⟩ := hP
  have hx := Bd.exec
  have hby := Bd.bytes
  have hml : c.maxLocals = 1 := hml0
  have hown : s.vm.findClass "java/lang/String" = some m.cls := findClass_of_methodNamed Bd.named
  have hnm := (name_of_methodNamed Bd.named Bd.method).1
  have X0 : Stand p l e ({ frames := 0, cells := 0, slots := 0, locals := 0 } : Room) s m #[(.ref a1)] below meth c s₁ [] 0 0 := Stand.of_body Bd
  have e0 : s₁.heap = h0 := by rw [← hh, Bd.state]; rfl
  have N0 := Fr.nil n0
  obtain ⟨G, hG, pr0⟩ : ∃ G : State → Prop, (∀ t, G t → Steps p.tables e below (s₁.setTop (entryFrame m #[(.ref a1)] 1)) t) ∧ (∀ t, Steps p.tables e below (s₁.setTop (mkF m 0 #[.val (.ref a1)] [])) t → G t) := ⟨_, fun _ k => k, fun t ks => castTop (ef_rmL1 m a1) ks⟩
  obtain ⟨E_a1, F_a1_value, F_a1_coder, V_b⟩ := hS
  obtain ⟨T130, X130, e130, st130⟩ := getS2 X0 hx hZ hown (host := "") (Or.inl (hw _ (List.mem_of_getElem? (i := 16) rfl))) Via.refl e0 J_.1.sta (g := (mkF m 0 #[.val (.ref a1)] [])) rfl (hb hby d12_0)
  have pr131 : ∀ t, Steps p.tables e below (T130.setTop (mkF m 3 #[.val (.ref a1)] [(.int cs)])) t → G t := fun t ks => pr0 t (st130 t ks)
  have pr132 : ∀ t, Steps p.tables e below (T130.setTop (mkF m 7 #[.val (.ref a1)] [(.ref a1)])) t → G t := fun t ks => pr131 t (by
      refine XS.ifNo X130.here hx rfl (hb hby d12_3) rfl ((if0 _ _).trans (feq J_.2.1).1) ?_
      refine XS.aloadN X130.here hx rfl (hb hby d12_6) rfl rfl ?_
      exact ks)
  obtain ⟨T133, X133, e133, st133⟩ := getF X130 hx hZ hown (host := "") (Or.inl (hw _ (List.mem_of_getElem? (i := 28) rfl))) Via.refl e130 F_a1_coder (g := (mkF m 7 #[.val (.ref a1)] [(.ref a1)])) rfl rfl (hb hby d12_7)
  have pr134 : ∀ t, Steps p.tables e below (T133.setTop (mkF m 10 #[.val (.ref a1)] [(.int k)])) t → G t := fun t ks => pr132 t (st133 t ks)
  obtain ⟨re, hre⟩ : ∃ z : Int32, z = (if k = (0 : Int32) then (1 : Int32) else (0 : Int32)) := ⟨_, rfl⟩
  have pr136 : ∀ t, Steps p.tables e below (T133.setTop (mkF m 18 #[.val (.ref a1)] [(.int re)])) t → G t := by
    intro t ks
    refine pr134 t ?_
    by_cases c135 : k = (0 : Int32)
    · refine XS.ifNo X133.here hx rfl (hb hby d12_10) rfl ((if0 _ _).trans (teq c135).2) ?_
      refine XS.iconst X133.here hx rfl (hb hby d12_13) ?_
      refine XS.goto X133.here hx rfl (pc0 := 14) (pc' := 18) rfl (hb hby d12_14) (by decide) (by decide) ?_
      have ere : re = (1 : Int32) := by rw [hre, if_pos c135]
      rw [ere] at ks
      exact ks
    · refine XS.ifYes X133.here hx rfl (pc0 := 10) (pc' := 17) rfl (hb hby d12_10) rfl ((if0 _ _).trans (feq c135).2) (by decide) (by decide) ?_
      refine XS.iconst X133.here hx rfl (hb hby d12_17) ?_
      have ere : re = (0 : Int32) := by rw [hre, if_neg c135]
      rw [ere] at ks
      exact ks
  obtain ⟨fs, hr, hrun, hended, hW, hsame⟩ := X133.leave (v := some (.int (if k = 0 then 1 else 0))) (fun h => by rw [Bd.returns] at h; cases h)
  refine ⟨_, _, hG _ (pr136 _ ?_), hrun, hended, _, _, rfl, ?_, ⟨_, rfl⟩, hW, hsame.mono (by decide) (by decide)⟩
  · exact retN X133 hx (t := .boolean) Bd.returns (by simp) (hb hby d12_18) (by rw [show nar .boolean re = (if k = 0 then 1 else 0) from ((own_nz (hre ▸ (own_ite01 (Or.inr rfl) (Or.inl rfl)))).trans hre)]; exact hr)
  · show QCF (if k = 0 then 1 else 0) h0 n0 _ T133.heap _
    rw [e133]
    exact ⟨rfl, N0, rfl⟩
theorem ef_rmLN (m : MethodId) (x0 : Addr) : entryFrame m #[(.ref x0)] 1 = mkF m 0 #[.val (.ref x0)] [] := by first | (simp [entryFrame, mkF, argsToLocals, Value.category]; done) | rfl
set_option maxRecDepth 65536 in
set_option maxHeartbeats 40000000 in
theorem rmLN (l : Launch) (Z : State) (a0 : Array Value) (hw : ∀ d ∈ tables_1, d.before a0 Z = true) (hr0 : ∀ d ∈ jdkStatics_1, d.before a0 Z = true) (ws : List Jvm.Cond) (a1 : Addr) (b : Addr) (k : Int32) (vs : List Int32) (fv : Value) (cs : Int32) (h0 : Heap) (n0 : Nat) (Z0 : n0 ≤ h0.size) (hS : STR Z h0 a1 b k vs) (J_ : JS Z n0 h0 fv cs) (hk : (k = 0 ∧ vs.length = 5) ∨ (k = 1 ∧ vs.length = 10)) :
    MetFree l (⟨"java/lang/String", "length", "()I"⟩ : MethodName) (head1 (Jvm.Cond.code (⟨"java/lang/String", "length", "()I"⟩ : MethodName) jdk_42_method_54_code 1 (some .int) :: ws) ({ frames := 1, cells := 0, slots := 0, locals := 13 } : Room)) (fun a U => a = #[(.ref a1)] ∧ Z.Warmed39 U.vm ∧ U.heap = h0) (fun _ _ _ _ _ => True) (fun _ U o U' => ∃ v L, o = .returned v ∧ QCF 5 h0 n0 v U'.heap L ∧ FrameEnd U o U' L ({ frames := 1, cells := 0, slots := 0, locals := 13 } : Room).cells ({ frames := 1, cells := 0, slots := 0, locals := 13 } : Room).slots) := by
  refine MetFree.of_bodySF (plainFor_of_name pn_1) hisR ?_
  intro p e s m args below meth c s₁ Bd hml0 hP hK
  obtain ⟨rfl, hZ, hh⟩ := hP
  have hx := Bd.exec
  have hby := Bd.bytes
  have hml : c.maxLocals = 1 := hml0
  have hown : s.vm.findClass "java/lang/String" = some m.cls := findClass_of_methodNamed Bd.named
  have hnm := (name_of_methodNamed Bd.named Bd.method).1
  have X0 : Stand p l e ({ frames := 1, cells := 0, slots := 0, locals := 13 } : Room) s m #[(.ref a1)] below meth c s₁ [] 0 0 := Stand.of_body Bd
  have e0 : s₁.heap = h0 := by rw [← hh, Bd.state]; rfl
  have N0 := Fr.nil n0
  obtain ⟨G, hG, pr0⟩ : ∃ G : State → Prop, (∀ t, G t → Steps p.tables e below (s₁.setTop (entryFrame m #[(.ref a1)] 1)) t) ∧ (∀ t, Steps p.tables e below (s₁.setTop (mkF m 0 #[.val (.ref a1)] [])) t → G t) := ⟨_, fun _ k => k, fun t ks => castTop (ef_rmLN m a1) ks⟩
  have hS0 := hS
  obtain ⟨E_a1, F_a1_value, F_a1_coder, V_b⟩ := hS
  have pr137 : ∀ t, Steps p.tables e below (s₁.setTop (mkF m 1 #[.val (.ref a1)] [(.ref a1)])) t → G t := fun t ks => pr0 t (by
      refine XS.aloadN X0.here hx rfl (hb hby d9_0) rfl rfl ?_
      exact ks)
  obtain ⟨T138, X138, e138, st138⟩ := getF X0 hx hZ hown (host := "") (Or.inl (hw _ (List.mem_of_getElem? (i := 30) rfl))) Via.refl e0 F_a1_value (g := (mkF m 1 #[.val (.ref a1)] [(.ref a1)])) rfl rfl (hb hby d9_1)
  have pr139 : ∀ t, Steps p.tables e below (T138.setTop (mkF m 4 #[.val (.ref a1)] [(.ref b)])) t → G t := fun t ks => pr137 t (st138 t ks)
  have pr140 : ∀ t, Steps p.tables e below (T138.setTop (mkF m 6 #[.val (.ref a1)] [(.ref a1), (.int (Int32.ofNat vs.length))])) t → G t := fun t ks => pr139 t (by
      refine ba_len X138 hx hZ e138 V_b (g := (mkF m 4 #[.val (.ref a1)] [(.ref b)])) rfl rfl (hb hby d9_4) _ ?_
      refine XS.aloadN X138.here hx rfl (hb hby d9_5) rfl rfl ?_
      exact ks)
  obtain ⟨cq141, kq141, q141a, q141b, q141c⟩ := isOf hZ e138 E_a1
  obtain ⟨_, _, ⟨T141, L141, k141, n141⟩, -, X141, hP141, st141⟩ := X138.virtualBack hx (y := (⟨"java/lang/String", "coder", "()B"⟩ : MethodName)) (z := (⟨"java/lang/String", "coder", "()B"⟩ : MethodName)) hown (mvT hZ (hw _ (List.mem_of_getElem? (i := 45) rfl))) (mvT hZ (hw _ (List.mem_of_getElem? (i := 46) rfl))) (notFace_of_selects (args := #[]) (mvT hZ (hw _ (List.mem_of_getElem? (i := 48) rfl)))) (mvT hZ (hw _ (List.mem_of_getElem? (i := 48) rfl))) (mvT hZ (hw _ (List.mem_of_getElem? (i := 47) rfl))) (by decide) (backOf (W := 1) (rmCD l Z a0 hw hr0 [] a1 b k vs fv cs h0 n0 Z0 hS0 J_ (own_k01 hk)) hZ (hw _ (List.mem_of_getElem? (i := 49) rfl)) (hw _ (List.mem_of_getElem? (i := 5) rfl)) (by decide) (by decide)) q141a q141c (g := (mkF m 6 #[.val (.ref a1)] [(.ref a1), (.int (Int32.ofNat vs.length))])) rfl (by rw [hml]; rfl) (Steps.refl _) (argsL := []) (rest := [(.int (Int32.ofNat vs.length))]) (lenOf pd_8 rfl) rfl (by show 2 * 0 + _ ≤ _; exact Nat.le_of_eq rfl) (hb hby d9_6) (fun _ _ => ⟨rfl, e138, (by decide : 0 + 0 ≤ _), (by decide : 0 + 0 ≤ _)⟩)
  obtain ⟨Lc141, hQ141, X141⟩ := own_out hP141 X141
  clear hP141
  dsimp only [Pt.U, Pt.locs, Pt.cells, Pt.slots] at X141 st141 hQ141
  obtain ⟨rfl, Nq141, eh141⟩ := hQ141
  have N141 := Fr.app N0 Nq141
  have pr142 : ∀ t, Steps p.tables e below (T141.setTop (mkF m 9 #[.val (.ref a1)] [(.int k), (.int (Int32.ofNat vs.length))])) t → G t := fun t ks => pr140 t (st141.trans ks)
  have pr143 : ∀ t, Steps p.tables e below (T141.setTop (mkF m 10 #[.val (.ref a1)] [(.int ((Int32.ofNat vs.length) >>> (k &&& 31)))])) t → G t := fun t ks => pr142 t (by
      refine XS.ishr X141.here hx rfl (hb hby d9_9) rfl ?_
      exact ks)
  rw [own_lenK hk] at pr143
  obtain ⟨fs, hr, hrun, hended, hW, hsame⟩ := X141.leave (v := some (.int (5 : Int32))) (fun h => by rw [Bd.returns] at h; cases h)
  refine ⟨_, _, hG _ (pr143 _ ?_), hrun, hended, _, _, rfl, ?_, ⟨_, rfl⟩, hW, hsame.mono (by decide) (by decide)⟩
  · exact retI X141 hx Bd.returns (hb hby d9_10) hr
  · show QCF 5 h0 n0 _ T141.heap _
    rw [eh141]
    exact ⟨rfl, N141, rfl⟩
theorem ef_rmP0 (m : MethodId) (x0 : Int32) (x1 : Int32) : entryFrame m #[(.int x0), (.int x1), .null] 3 = mkF m 0 #[.val (.int x0), .val (.int x1), .val .null] [] := by first | (simp [entryFrame, mkF, argsToLocals, Value.category]; done) | rfl
set_option maxRecDepth 65536 in
set_option maxHeartbeats 40000000 in
theorem rmP0 (l : Launch) (Z : State) (a0 : Array Value) (hw : ∀ d ∈ tables_1, d.before a0 Z = true) (hr0 : ∀ d ∈ jdkStatics_1, d.before a0 Z = true) (ws : List Jvm.Cond) (p1 : Int32) (p2 : Int32) (i N : Nat) (h0 : Heap) (n0 : Nat) (Z0 : n0 ≤ h0.size) (e1 : p1 = Int32.ofNat i) (e2 : p2 = Int32.ofNat N) (hi : i < N) (hN : N < 1000) :
    MetFree l (⟨"jdk/internal/util/Preconditions", "checkIndex", "(IILjava/util/function/BiFunction;)I"⟩ : MethodName) (head1 (Jvm.Cond.code (⟨"jdk/internal/util/Preconditions", "checkIndex", "(IILjava/util/function/BiFunction;)I"⟩ : MethodName) jdk_41_method_11_code 3 (some .int) :: ws) ({ frames := 0, cells := 0, slots := 0, locals := 0 } : Room)) (fun a U => a = #[(.int p1), (.int p2), .null] ∧ Z.Warmed39 U.vm ∧ U.heap = h0) (fun _ _ _ _ _ => True) (fun _ U o U' => ∃ v L, o = .returned v ∧ QCF p1 h0 n0 v U'.heap L ∧ FrameEnd U o U' L ({ frames := 0, cells := 0, slots := 0, locals := 0 } : Room).cells ({ frames := 0, cells := 0, slots := 0, locals := 0 } : Room).slots) := by
  refine MetFree.of_bodySF (plainFor_of_name pn_2) hisR ?_
  intro p e s m args below meth c s₁ Bd hml0 hP hK
  obtain ⟨rfl, hZ, hh⟩ := hP
  have hx := Bd.exec
  have hby := Bd.bytes
  have hml : c.maxLocals = 3 := hml0
  have hown : s.vm.findClass "jdk/internal/util/Preconditions" = some m.cls := findClass_of_methodNamed Bd.named
  have hnm := (name_of_methodNamed Bd.named Bd.method).1
  have X0 : Stand p l e ({ frames := 0, cells := 0, slots := 0, locals := 0 } : Room) s m #[(.int p1), (.int p2), .null] below meth c s₁ [] 0 0 := Stand.of_body Bd
  have e0 : s₁.heap = h0 := by rw [← hh, Bd.state]; rfl
  have N0 := Fr.nil n0
  obtain ⟨G, hG, pr0⟩ : ∃ G : State → Prop, (∀ t, G t → Steps p.tables e below (s₁.setTop (entryFrame m #[(.int p1), (.int p2), .null] 3)) t) ∧ (∀ t, Steps p.tables e below (s₁.setTop (mkF m 0 #[.val (.int p1), .val (.int p2), .val .null] [])) t → G t) := ⟨_, fun _ k => k, fun t ks => castTop (ef_rmP0 m p1 p2) ks⟩
  have pr144 : ∀ t, Steps p.tables e below (s₁.setTop (mkF m 17 #[.val (.int p1), .val (.int p2), .val .null] [(.int p1)])) t → G t := fun t ks => pr0 t (by
      refine XS.iloadN X0.here hx rfl (hb hby d15_0) rfl ?_
      refine XS.ifNo X0.here hx rfl (hb hby d15_1) rfl ((if0 _ _).trans (flt (by rw [e1]; exact own_nn (by omega))).1) ?_
      refine XS.iloadN X0.here hx rfl (hb hby d15_4) rfl ?_
      refine XS.iloadN X0.here hx rfl (hb hby d15_5) rfl ?_
      refine XS.icmpYes X0.here hx rfl (pc0 := 6) (pc' := 16) rfl (hb hby d15_6) rfl (tlt (by rw [e1, e2]; exact own_ltN hi (by omega))).1 (by decide) (by decide) ?_
      refine XS.iloadN X0.here hx rfl (hb hby d15_16) rfl ?_
      exact ks)
  obtain ⟨fs, hr, hrun, hended, hW, hsame⟩ := X0.leave (v := some (.int p1)) (fun h => by rw [Bd.returns] at h; cases h)
  refine ⟨_, _, hG _ (pr144 _ ?_), hrun, hended, _, _, rfl, ?_, ⟨_, rfl⟩, hW, hsame.mono (by decide) (by decide)⟩
  · exact retI X0 hx Bd.returns (hb hby d15_17) hr
  · show QCF p1 h0 n0 _ s₁.heap _
    rw [e0]
    exact ⟨rfl, N0, rfl⟩
theorem ef_rmP1 (m : MethodId) (x0 : Int32) (x1 : Int32) (x2 : Addr) : entryFrame m #[(.int x0), (.int x1), (.ref x2)] 3 = mkF m 0 #[.val (.int x0), .val (.int x1), .val (.ref x2)] [] := by first | (simp [entryFrame, mkF, argsToLocals, Value.category]; done) | rfl
set_option maxRecDepth 65536 in
set_option maxHeartbeats 40000000 in
theorem rmP1 (l : Launch) (Z : State) (a0 : Array Value) (hw : ∀ d ∈ tables_1, d.before a0 Z = true) (hr0 : ∀ d ∈ jdkStatics_1, d.before a0 Z = true) (ws : List Jvm.Cond) (p1 : Int32) (p2 : Int32) (a3 : Addr) (i N : Nat) (h0 : Heap) (n0 : Nat) (Z0 : n0 ≤ h0.size) (e1 : p1 = Int32.ofNat i) (e2 : p2 = Int32.ofNat N) (hi : i < N) (hN : N < 1000) :
    MetFree l (⟨"jdk/internal/util/Preconditions", "checkIndex", "(IILjava/util/function/BiFunction;)I"⟩ : MethodName) (head1 (Jvm.Cond.code (⟨"jdk/internal/util/Preconditions", "checkIndex", "(IILjava/util/function/BiFunction;)I"⟩ : MethodName) jdk_41_method_11_code 3 (some .int) :: ws) ({ frames := 0, cells := 0, slots := 0, locals := 0 } : Room)) (fun a U => a = #[(.int p1), (.int p2), (.ref a3)] ∧ Z.Warmed39 U.vm ∧ U.heap = h0) (fun _ _ _ _ _ => True) (fun _ U o U' => ∃ v L, o = .returned v ∧ QCF p1 h0 n0 v U'.heap L ∧ FrameEnd U o U' L ({ frames := 0, cells := 0, slots := 0, locals := 0 } : Room).cells ({ frames := 0, cells := 0, slots := 0, locals := 0 } : Room).slots) := by
  refine MetFree.of_bodySF (plainFor_of_name pn_2) hisR ?_
  intro p e s m args below meth c s₁ Bd hml0 hP hK
  obtain ⟨rfl, hZ, hh⟩ := hP
  have hx := Bd.exec
  have hby := Bd.bytes
  have hml : c.maxLocals = 3 := hml0
  have hown : s.vm.findClass "jdk/internal/util/Preconditions" = some m.cls := findClass_of_methodNamed Bd.named
  have hnm := (name_of_methodNamed Bd.named Bd.method).1
  have X0 : Stand p l e ({ frames := 0, cells := 0, slots := 0, locals := 0 } : Room) s m #[(.int p1), (.int p2), (.ref a3)] below meth c s₁ [] 0 0 := Stand.of_body Bd
  have e0 : s₁.heap = h0 := by rw [← hh, Bd.state]; rfl
  have N0 := Fr.nil n0
  obtain ⟨G, hG, pr0⟩ : ∃ G : State → Prop, (∀ t, G t → Steps p.tables e below (s₁.setTop (entryFrame m #[(.int p1), (.int p2), (.ref a3)] 3)) t) ∧ (∀ t, Steps p.tables e below (s₁.setTop (mkF m 0 #[.val (.int p1), .val (.int p2), .val (.ref a3)] [])) t → G t) := ⟨_, fun _ k => k, fun t ks => castTop (ef_rmP1 m p1 p2 a3) ks⟩
  have pr145 : ∀ t, Steps p.tables e below (s₁.setTop (mkF m 17 #[.val (.int p1), .val (.int p2), .val (.ref a3)] [(.int p1)])) t → G t := fun t ks => pr0 t (by
      refine XS.iloadN X0.here hx rfl (hb hby d15_0) rfl ?_
      refine XS.ifNo X0.here hx rfl (hb hby d15_1) rfl ((if0 _ _).trans (flt (by rw [e1]; exact own_nn (by omega))).1) ?_
      refine XS.iloadN X0.here hx rfl (hb hby d15_4) rfl ?_
      refine XS.iloadN X0.here hx rfl (hb hby d15_5) rfl ?_
      refine XS.icmpYes X0.here hx rfl (pc0 := 6) (pc' := 16) rfl (hb hby d15_6) rfl (tlt (by rw [e1, e2]; exact own_ltN hi (by omega))).1 (by decide) (by decide) ?_
      refine XS.iloadN X0.here hx rfl (hb hby d15_16) rfl ?_
      exact ks)
  obtain ⟨fs, hr, hrun, hended, hW, hsame⟩ := X0.leave (v := some (.int p1)) (fun h => by rw [Bd.returns] at h; cases h)
  refine ⟨_, _, hG _ (pr145 _ ?_), hrun, hended, _, _, rfl, ?_, ⟨_, rfl⟩, hW, hsame.mono (by decide) (by decide)⟩
  · exact retI X0 hx Bd.returns (hb hby d15_17) hr
  · show QCF p1 h0 n0 _ s₁.heap _
    rw [e0]
    exact ⟨rfl, N0, rfl⟩
theorem ef_rmCI (m : MethodId) (x0 : Int32) (x1 : Int32) : entryFrame m #[(.int x0), (.int x1)] 2 = mkF m 0 #[.val (.int x0), .val (.int x1)] [] := by first | (simp [entryFrame, mkF, argsToLocals, Value.category]; done) | rfl
def QV  (h0 : Heap) (n0 : Nat) (v : Option Value) (h : Heap) (L : List Loc) : Prop := v = none ∧ Fr n0 L ∧ h = h0
set_option maxRecDepth 65536 in
set_option maxHeartbeats 40000000 in
theorem rmCI (l : Launch) (Z : State) (a0 : Array Value) (hw : ∀ d ∈ tables_1, d.before a0 Z = true) (hr0 : ∀ d ∈ jdkStatics_1, d.before a0 Z = true) (ws : List Jvm.Cond) (p1 : Int32) (p2 : Int32) (i N : Nat) (fv : Value) (cs : Int32) (h0 : Heap) (n0 : Nat) (Z0 : n0 ≤ h0.size) (e1 : p1 = Int32.ofNat i) (e2 : p2 = Int32.ofNat N) (hi : i < N) (hN : N < 1000) (J_ : JS Z n0 h0 fv cs) :
    MetFree l (⟨"java/lang/String", "checkIndex", "(II)V"⟩ : MethodName) (head1 (Jvm.Cond.code (⟨"java/lang/String", "checkIndex", "(II)V"⟩ : MethodName) jdk_42_method_155_code 2 none :: ws) ({ frames := 1, cells := 0, slots := 0, locals := 14 } : Room)) (fun a U => a = #[(.int p1), (.int p2)] ∧ Z.Warmed39 U.vm ∧ U.heap = h0) (fun _ _ _ _ _ => True) (fun _ U o U' => ∃ v L, o = .returned v ∧ QV h0 n0 v U'.heap L ∧ FrameEnd U o U' L ({ frames := 1, cells := 0, slots := 0, locals := 14 } : Room).cells ({ frames := 1, cells := 0, slots := 0, locals := 14 } : Room).slots) := by
  refine MetFree.of_bodySF (plainFor_of_name pn_1) hisR ?_
  intro p e s m args below meth c s₁ Bd hml0 hP hK
  obtain ⟨rfl, hZ, hh⟩ := hP
  have hx := Bd.exec
  have hby := Bd.bytes
  have hml : c.maxLocals = 2 := hml0
  have hown : s.vm.findClass "java/lang/String" = some m.cls := findClass_of_methodNamed Bd.named
  have hnm := (name_of_methodNamed Bd.named Bd.method).1
  have X0 : Stand p l e ({ frames := 1, cells := 0, slots := 0, locals := 14 } : Room) s m #[(.int p1), (.int p2)] below meth c s₁ [] 0 0 := Stand.of_body Bd
  have e0 : s₁.heap = h0 := by rw [← hh, Bd.state]; rfl
  have N0 := Fr.nil n0
  obtain ⟨G, hG, pr0⟩ : ∃ G : State → Prop, (∀ t, G t → Steps p.tables e below (s₁.setTop (entryFrame m #[(.int p1), (.int p2)] 2)) t) ∧ (∀ t, Steps p.tables e below (s₁.setTop (mkF m 0 #[.val (.int p1), .val (.int p2)] [])) t → G t) := ⟨_, fun _ k => k, fun t ks => castTop (ef_rmCI m p1 p2) ks⟩
  have pr146 : ∀ t, Steps p.tables e below (s₁.setTop (mkF m 2 #[.val (.int p1), .val (.int p2)] [(.int p2), (.int p1)])) t → G t := fun t ks => pr0 t (by
      refine XS.iloadN X0.here hx rfl (hb hby d14_0) rfl ?_
      refine XS.iloadN X0.here hx rfl (hb hby d14_1) rfl ?_
      exact ks)
  have J2 := J_
  rcases ref_cases J_.2.2.2.1 with rfl | ⟨fa, rfl⟩
  · obtain ⟨T147, X147, e147, st147⟩ := getS2 X0 hx hZ hown (host := "") (Or.inl (hw _ (List.mem_of_getElem? (i := 67) rfl))) Via.refl e0 J_.2.2.1.sta (g := (mkF m 2 #[.val (.int p1), .val (.int p2)] [(.int p2), (.int p1)])) rfl (hb hby d14_2)
    have pr148 : ∀ t, Steps p.tables e below (T147.setTop (mkF m 5 #[.val (.int p1), .val (.int p2)] [.null, (.int p2), (.int p1)])) t → G t := fun t ks => pr146 t (st147 t ks)
    obtain ⟨_, _, ⟨T149, L149, k149, n149⟩, -, X149, hP149, st149⟩ := Jvm.LawKit.callS X147 hx (y := (⟨"jdk/internal/util/Preconditions", "checkIndex", "(IILjava/util/function/BiFunction;)I"⟩ : MethodName)) hown (mvT hZ (hw _ (List.mem_of_getElem? (i := 69) rfl))) (mvT hZ (hw _ (List.mem_of_getElem? (i := 70) rfl))) (mvT hZ (hw _ (List.mem_of_getElem? (i := 68) rfl))) (mvT hZ (hw _ (List.mem_of_getElem? (i := 71) rfl))) (by decide) (backOf (W := 0) (rmP0 l Z a0 hw hr0 [] p1 p2 i N h0 n0 Z0 e1 e2 hi hN) hZ (hw _ (List.mem_of_getElem? (i := 71) rfl)) (hw _ (List.mem_of_getElem? (i := 68) rfl)) (by decide) (by decide)) (g := (mkF m 5 #[.val (.int p1), .val (.int p2)] [.null, (.int p2), (.int p1)])) rfl (by rw [hml]; rfl) (argsL := [(.int p1), (.int p2), .null]) (rest := []) (lenOf pd_9 rfl) rfl (by show 2 * 0 + _ ≤ _; exact Nat.le_of_eq rfl) (hb hby d14_5) (fun _ _ => ⟨rfl, e147, (by decide : 0 + 0 ≤ _), (by decide : 0 + 0 ≤ _)⟩)
    obtain ⟨Lc149, hQ149, X149⟩ := own_out hP149 X149
    clear hP149
    dsimp only [Pt.U, Pt.locs, Pt.cells, Pt.slots] at X149 st149 hQ149
    obtain ⟨rfl, Nq149, eh149⟩ := hQ149
    have N149 := Fr.app N0 Nq149
    have pr150 : ∀ t, Steps p.tables e below (T149.setTop (mkF m 8 #[.val (.int p1), .val (.int p2)] [(.int p1)])) t → G t := fun t ks => pr148 t (st149 t ks)
    have pr151 : ∀ t, Steps p.tables e below (T149.setTop (mkF m 9 #[.val (.int p1), .val (.int p2)] [])) t → G t := fun t ks => pr150 t (by
        refine XS.pop X149.here hx rfl (hb hby d14_8) rfl rfl ?_
        exact ks)
    obtain ⟨fs, hr, hrun, hended, hW, hsame⟩ := X149.leave (v := none) (fun _ => rfl)
    refine ⟨_, _, hG _ (pr151 _ ?_), hrun, hended, _, _, rfl, ?_, ⟨_, rfl⟩, hW, hsame.mono (by decide) (by decide)⟩
    · exact X149.returnOut hx Bd.returns (hb hby d14_9) hr
    · show QV h0 n0 _ T149.heap _
      rw [eh149]
      exact ⟨rfl, N149, rfl⟩
  · obtain ⟨T152, X152, e152, st152⟩ := getS2 X0 hx hZ hown (host := "") (Or.inl (hw _ (List.mem_of_getElem? (i := 67) rfl))) Via.refl e0 J_.2.2.1.sta (g := (mkF m 2 #[.val (.int p1), .val (.int p2)] [(.int p2), (.int p1)])) rfl (hb hby d14_2)
    have pr153 : ∀ t, Steps p.tables e below (T152.setTop (mkF m 5 #[.val (.int p1), .val (.int p2)] [(.ref fa), (.int p2), (.int p1)])) t → G t := fun t ks => pr146 t (st152 t ks)
    obtain ⟨_, _, ⟨T154, L154, k154, n154⟩, -, X154, hP154, st154⟩ := Jvm.LawKit.callS X152 hx (y := (⟨"jdk/internal/util/Preconditions", "checkIndex", "(IILjava/util/function/BiFunction;)I"⟩ : MethodName)) hown (mvT hZ (hw _ (List.mem_of_getElem? (i := 69) rfl))) (mvT hZ (hw _ (List.mem_of_getElem? (i := 70) rfl))) (mvT hZ (hw _ (List.mem_of_getElem? (i := 68) rfl))) (mvT hZ (hw _ (List.mem_of_getElem? (i := 71) rfl))) (by decide) (backOf (W := 0) (rmP1 l Z a0 hw hr0 [] p1 p2 fa i N h0 n0 Z0 e1 e2 hi hN) hZ (hw _ (List.mem_of_getElem? (i := 71) rfl)) (hw _ (List.mem_of_getElem? (i := 68) rfl)) (by decide) (by decide)) (g := (mkF m 5 #[.val (.int p1), .val (.int p2)] [(.ref fa), (.int p2), (.int p1)])) rfl (by rw [hml]; rfl) (argsL := [(.int p1), (.int p2), (.ref fa)]) (rest := []) (lenOf pd_9 rfl) rfl (by show 2 * 0 + _ ≤ _; exact Nat.le_of_eq rfl) (hb hby d14_5) (fun _ _ => ⟨rfl, e152, (by decide : 0 + 0 ≤ _), (by decide : 0 + 0 ≤ _)⟩)
    obtain ⟨Lc154, hQ154, X154⟩ := own_out hP154 X154
    clear hP154
    dsimp only [Pt.U, Pt.locs, Pt.cells, Pt.slots] at X154 st154 hQ154
    obtain ⟨rfl, Nq154, eh154⟩ := hQ154
    have N154 := Fr.app N0 Nq154
    have pr155 : ∀ t, Steps p.tables e below (T154.setTop (mkF m 8 #[.val (.int p1), .val (.int p2)] [(.int p1)])) t → G t := fun t ks => pr153 t (st154 t ks)
    have pr156 : ∀ t, Steps p.tables e below (T154.setTop (mkF m 9 #[.val (.int p1), .val (.int p2)] [])) t → G t := fun t ks => pr155 t (by
        refine XS.pop X154.here hx rfl (hb hby d14_8) rfl rfl ?_
        exact ks)
    obtain ⟨fs, hr, hrun, hended, hW, hsame⟩ := X154.leave (v := none) (fun _ => rfl)
    refine ⟨_, _, hG _ (pr156 _ ?_), hrun, hended, _, _, rfl, ?_, ⟨_, rfl⟩, hW, hsame.mono (by decide) (by decide)⟩
    · exact X154.returnOut hx Bd.returns (hb hby d14_9) hr
    · show QV h0 n0 _ T154.heap _
      rw [eh154]
      exact ⟨rfl, N154, rfl⟩
theorem ef_rmLC (m : MethodId) (x0 : Addr) (x1 : Int32) : entryFrame m #[(.ref x0), (.int x1)] 2 = mkF m 0 #[.val (.ref x0), .val (.int x1)] [] := by first | (simp [entryFrame, mkF, argsToLocals, Value.category]; done) | rfl
set_option maxRecDepth 65536 in
set_option maxHeartbeats 40000000 in
theorem rmLC (l : Launch) (Z : State) (a0 : Array Value) (hw : ∀ d ∈ tables_1, d.before a0 Z = true) (hr0 : ∀ d ∈ jdkStatics_1, d.before a0 Z = true) (ws : List Jvm.Cond) (a1 : Addr) (p2 : Int32) (vs : List Int32) (i : Nat) (fv : Value) (cs : Int32) (h0 : Heap) (n0 : Nat) (Z0 : n0 ≤ h0.size) (V_a1 : BA Z h0 a1 vs) (e2 : p2 = Int32.ofNat i) (hi : i < vs.length) (hN : vs.length < 1000) (J_ : JS Z n0 h0 fv cs) :
    MetFree l (⟨"java/lang/StringLatin1", "charAt", "([BI)C"⟩ : MethodName) (head1 (Jvm.Cond.code (⟨"java/lang/StringLatin1", "charAt", "([BI)C"⟩ : MethodName) jdk_43_method_2_code 2 (some .char) :: ws) ({ frames := 2, cells := 0, slots := 0, locals := 27 } : Room)) (fun a U => a = #[(.ref a1), (.int p2)] ∧ Z.Warmed39 U.vm ∧ U.heap = h0) (fun _ _ _ _ _ => True) (fun _ U o U' => ∃ v L, o = .returned v ∧ QCF (own_lc (vs.getD i 0)) h0 n0 v U'.heap L ∧ FrameEnd U o U' L ({ frames := 2, cells := 0, slots := 0, locals := 27 } : Room).cells ({ frames := 2, cells := 0, slots := 0, locals := 27 } : Room).slots) := by
  refine MetFree.of_bodySF (plainFor_of_name pn_3) hisR ?_
  intro p e s m args below meth c s₁ Bd hml0 hP hK
  obtain ⟨rfl, hZ, hh⟩ := hP
  have hx := Bd.exec
  have hby := Bd.bytes
  have hml : c.maxLocals = 2 := hml0
  have hown : s.vm.findClass "java/lang/StringLatin1" = some m.cls := findClass_of_methodNamed Bd.named
  have hnm := (name_of_methodNamed Bd.named Bd.method).1
  have X0 : Stand p l e ({ frames := 2, cells := 0, slots := 0, locals := 27 } : Room) s m #[(.ref a1), (.int p2)] below meth c s₁ [] 0 0 := Stand.of_body Bd
  have e0 : s₁.heap = h0 := by rw [← hh, Bd.state]; rfl
  have N0 := Fr.nil n0
  obtain ⟨G, hG, pr0⟩ : ∃ G : State → Prop, (∀ t, G t → Steps p.tables e below (s₁.setTop (entryFrame m #[(.ref a1), (.int p2)] 2)) t) ∧ (∀ t, Steps p.tables e below (s₁.setTop (mkF m 0 #[.val (.ref a1), .val (.int p2)] [])) t → G t) := ⟨_, fun _ k => k, fun t ks => castTop (ef_rmLC m a1 p2) ks⟩
  have pr157 : ∀ t, Steps p.tables e below (s₁.setTop (mkF m 3 #[.val (.ref a1), .val (.int p2)] [(.int (Int32.ofNat vs.length)), (.int p2)])) t → G t := fun t ks => pr0 t (by
      refine XS.iloadN X0.here hx rfl (hb hby d13_0) rfl ?_
      refine XS.aloadN X0.here hx rfl (hb hby d13_1) rfl rfl ?_
      refine ba_len X0 hx hZ e0 V_a1 (g := (mkF m 2 #[.val (.ref a1), .val (.int p2)] [(.ref a1), (.int p2)])) rfl rfl (hb hby d13_2) _ ?_
      exact ks)
  obtain ⟨_, _, ⟨T158, L158, k158, n158⟩, -, X158, hP158, st158⟩ := Jvm.LawKit.callS X0 hx (y := (⟨"java/lang/String", "checkIndex", "(II)V"⟩ : MethodName)) hown (mvT hZ (hw _ (List.mem_of_getElem? (i := 64) rfl))) (mvT hZ (hw _ (List.mem_of_getElem? (i := 65) rfl))) (mvT hZ (hw _ (List.mem_of_getElem? (i := 5) rfl))) (mvT hZ (hw _ (List.mem_of_getElem? (i := 66) rfl))) (by decide) (backOf (W := 0) (rmCI l Z a0 hw hr0 [] p2 (Int32.ofNat vs.length) i vs.length fv cs h0 n0 Z0 e2 rfl hi hN J_) hZ (hw _ (List.mem_of_getElem? (i := 66) rfl)) (hw _ (List.mem_of_getElem? (i := 5) rfl)) (by decide) (by decide)) (g := (mkF m 3 #[.val (.ref a1), .val (.int p2)] [(.int (Int32.ofNat vs.length)), (.int p2)])) rfl (by rw [hml]; rfl) (argsL := [(.int p2), (.int (Int32.ofNat vs.length))]) (rest := []) (lenOf pd_10 rfl) rfl (by show 2 * 0 + _ ≤ _; exact Nat.le_of_eq rfl) (hb hby d13_3) (fun _ _ => ⟨rfl, e0, (by decide : 0 + 0 ≤ _), (by decide : 0 + 0 ≤ _)⟩)
  obtain ⟨Lc158, hQ158, X158⟩ := own_out hP158 X158
  clear hP158
  dsimp only [Pt.U, Pt.locs, Pt.cells, Pt.slots] at X158 st158 hQ158
  obtain ⟨rfl, Nq158, eh158⟩ := hQ158
  have N158 := Fr.app N0 Nq158
  have pr159 : ∀ t, Steps p.tables e below (T158.setTop (mkF m 6 #[.val (.ref a1), .val (.int p2)] [])) t → G t := fun t ks => pr157 t (st158 t ks)
  have pr160 : ∀ t, Steps p.tables e below (T158.setTop (mkF m 14 #[.val (.ref a1), .val (.int p2)] [(.int (((vs.getD i 0) &&& (255 : Int32)).toUInt32.toUInt16.toUInt32.toInt32))])) t → G t := fun t ks => pr159 t (by
      refine XS.aloadN X158.here hx rfl (hb hby d13_6) rfl rfl ?_
      refine XS.iloadN X158.here hx rfl (hb hby d13_7) rfl ?_
      refine ba_ld X158 hx hZ eh158 V_a1 (j := p2) i e2 hi (w := (vs.getD i 0)) rfl (g := (mkF m 8 #[.val (.ref a1), .val (.int p2)] [(.int p2), (.ref a1)])) rfl rfl (hb hby d13_8) _ ?_
      refine XS.sipush X158.here hx rfl (hb hby d13_9) ?_
      refine XS.iand X158.here hx rfl (hb hby d13_12) rfl ?_
      refine XS.i2c X158.here hx rfl (hb hby d13_13) rfl ?_
      exact ks)
  obtain ⟨fs, hr, hrun, hended, hW, hsame⟩ := X158.leave (v := some (.int (own_lc (vs.getD i 0)))) (fun h => by rw [Bd.returns] at h; cases h)
  refine ⟨_, _, hG _ (pr160 _ ?_), hrun, hended, _, _, rfl, ?_, ⟨_, rfl⟩, hW, hsame.mono (by decide) (by decide)⟩
  · exact retN X158 hx (t := .char) Bd.returns (by simp) (hb hby d13_14) (by rw [show nar .char (((vs.getD i 0) &&& (255 : Int32)).toUInt32.toUInt16.toUInt32.toInt32) = (own_lc (vs.getD i 0)) from (own_narC _)]; exact hr)
  · show QCF (own_lc (vs.getD i 0)) h0 n0 _ T158.heap _
    rw [eh158]
    exact ⟨rfl, N158, rfl⟩
theorem ef_rmUL (m : MethodId) (x0 : Addr) : entryFrame m #[(.ref x0)] 1 = mkF m 0 #[.val (.ref x0)] [] := by first | (simp [entryFrame, mkF, argsToLocals, Value.category]; done) | rfl
set_option maxRecDepth 65536 in
set_option maxHeartbeats 40000000 in
theorem rmUL (l : Launch) (Z : State) (a0 : Array Value) (hw : ∀ d ∈ tables_1, d.before a0 Z = true) (hr0 : ∀ d ∈ jdkStatics_1, d.before a0 Z = true) (ws : List Jvm.Cond) (a1 : Addr) (vs : List Int32) (h0 : Heap) (n0 : Nat) (Z0 : n0 ≤ h0.size) (V_a1 : BA Z h0 a1 vs) (hl : vs.length = 10) :
    MetFree l (⟨"java/lang/StringUTF16", "length", "([B)I"⟩ : MethodName) (head1 (Jvm.Cond.code (⟨"java/lang/StringUTF16", "length", "([B)I"⟩ : MethodName) jdk_52_method_6_code 1 (some .int) :: ws) ({ frames := 0, cells := 0, slots := 0, locals := 0 } : Room)) (fun a U => a = #[(.ref a1)] ∧ Z.Warmed39 U.vm ∧ U.heap = h0) (fun _ _ _ _ _ => True) (fun _ U o U' => ∃ v L, o = .returned v ∧ QCF 5 h0 n0 v U'.heap L ∧ FrameEnd U o U' L ({ frames := 0, cells := 0, slots := 0, locals := 0 } : Room).cells ({ frames := 0, cells := 0, slots := 0, locals := 0 } : Room).slots) := by
  refine MetFree.of_bodySF (plainFor_of_name pn_0) hisR ?_
  intro p e s m args below meth c s₁ Bd hml0 hP hK
  obtain ⟨rfl, hZ, hh⟩ := hP
  have hx := Bd.exec
  have hby := Bd.bytes
  have hml : c.maxLocals = 1 := hml0
  have hown : s.vm.findClass "java/lang/StringUTF16" = some m.cls := findClass_of_methodNamed Bd.named
  have hnm := (name_of_methodNamed Bd.named Bd.method).1
  have X0 : Stand p l e ({ frames := 0, cells := 0, slots := 0, locals := 0 } : Room) s m #[(.ref a1)] below meth c s₁ [] 0 0 := Stand.of_body Bd
  have e0 : s₁.heap = h0 := by rw [← hh, Bd.state]; rfl
  have N0 := Fr.nil n0
  obtain ⟨G, hG, pr0⟩ : ∃ G : State → Prop, (∀ t, G t → Steps p.tables e below (s₁.setTop (entryFrame m #[(.ref a1)] 1)) t) ∧ (∀ t, Steps p.tables e below (s₁.setTop (mkF m 0 #[.val (.ref a1)] [])) t → G t) := ⟨_, fun _ k => k, fun t ks => castTop (ef_rmUL m a1) ks⟩
  have pr161 : ∀ t, Steps p.tables e below (s₁.setTop (mkF m 4 #[.val (.ref a1)] [(.int ((Int32.ofNat vs.length) >>> ((1 : Int32) &&& 31)))])) t → G t := fun t ks => pr0 t (by
      refine XS.aloadN X0.here hx rfl (hb hby d24_0) rfl rfl ?_
      refine ba_len X0 hx hZ e0 V_a1 (g := (mkF m 1 #[.val (.ref a1)] [(.ref a1)])) rfl rfl (hb hby d24_1) _ ?_
      refine XS.iconst X0.here hx rfl (hb hby d24_2) ?_
      refine XS.ishr X0.here hx rfl (hb hby d24_3) rfl ?_
      exact ks)
  rw [(show (Int32.ofNat vs.length >>> ((1 : Int32) &&& 31)) = (5 : Int32) by rw [hl]; decide)] at pr161
  obtain ⟨fs, hr, hrun, hended, hW, hsame⟩ := X0.leave (v := some (.int (5 : Int32))) (fun h => by rw [Bd.returns] at h; cases h)
  refine ⟨_, _, hG _ (pr161 _ ?_), hrun, hended, _, _, rfl, ?_, ⟨_, rfl⟩, hW, hsame.mono (by decide) (by decide)⟩
  · exact retI X0 hx Bd.returns (hb hby d24_4) hr
  · show QCF 5 h0 n0 _ s₁.heap _
    rw [e0]
    exact ⟨rfl, N0, rfl⟩
theorem ef_rmUI (m : MethodId) (x0 : Int32) (x1 : Addr) : entryFrame m #[(.int x0), (.ref x1)] 2 = mkF m 0 #[.val (.int x0), .val (.ref x1)] [] := by first | (simp [entryFrame, mkF, argsToLocals, Value.category]; done) | rfl
set_option maxRecDepth 65536 in
set_option maxHeartbeats 40000000 in
theorem rmUI (l : Launch) (Z : State) (a0 : Array Value) (hw : ∀ d ∈ tables_1, d.before a0 Z = true) (hr0 : ∀ d ∈ jdkStatics_1, d.before a0 Z = true) (ws : List Jvm.Cond) (p1 : Int32) (a2 : Addr) (vs : List Int32) (i : Nat) (fv : Value) (cs : Int32) (h0 : Heap) (n0 : Nat) (Z0 : n0 ≤ h0.size) (V_a2 : BA Z h0 a2 vs) (hl : vs.length = 10) (e1 : p1 = Int32.ofNat i) (hi : i < 5) (J_ : JS Z n0 h0 fv cs) :
    MetFree l (⟨"java/lang/StringUTF16", "checkIndex", "(I[B)V"⟩ : MethodName) (head1 (Jvm.Cond.code (⟨"java/lang/StringUTF16", "checkIndex", "(I[B)V"⟩ : MethodName) jdk_52_method_91_code 2 none :: ws) ({ frames := 2, cells := 0, slots := 0, locals := 27 } : Room)) (fun a U => a = #[(.int p1), (.ref a2)] ∧ Z.Warmed39 U.vm ∧ U.heap = h0) (fun _ _ _ _ _ => True) (fun _ U o U' => ∃ v L, o = .returned v ∧ QV h0 n0 v U'.heap L ∧ FrameEnd U o U' L ({ frames := 2, cells := 0, slots := 0, locals := 27 } : Room).cells ({ frames := 2, cells := 0, slots := 0, locals := 27 } : Room).slots) := by
  refine MetFree.of_bodySF (plainFor_of_name pn_0) hisR ?_
  intro p e s m args below meth c s₁ Bd hml0 hP hK
  obtain ⟨rfl, hZ, hh⟩ := hP
  have hx := Bd.exec
  have hby := Bd.bytes
  have hml : c.maxLocals = 2 := hml0
  have hown : s.vm.findClass "java/lang/StringUTF16" = some m.cls := findClass_of_methodNamed Bd.named
  have hnm := (name_of_methodNamed Bd.named Bd.method).1
  have X0 : Stand p l e ({ frames := 2, cells := 0, slots := 0, locals := 27 } : Room) s m #[(.int p1), (.ref a2)] below meth c s₁ [] 0 0 := Stand.of_body Bd
  have e0 : s₁.heap = h0 := by rw [← hh, Bd.state]; rfl
  have N0 := Fr.nil n0
  obtain ⟨G, hG, pr0⟩ : ∃ G : State → Prop, (∀ t, G t → Steps p.tables e below (s₁.setTop (entryFrame m #[(.int p1), (.ref a2)] 2)) t) ∧ (∀ t, Steps p.tables e below (s₁.setTop (mkF m 0 #[.val (.int p1), .val (.ref a2)] [])) t → G t) := ⟨_, fun _ k => k, fun t ks => castTop (ef_rmUI m p1 a2) ks⟩
  have pr162 : ∀ t, Steps p.tables e below (s₁.setTop (mkF m 2 #[.val (.int p1), .val (.ref a2)] [(.ref a2), (.int p1)])) t → G t := fun t ks => pr0 t (by
      refine XS.iloadN X0.here hx rfl (hb hby d23_0) rfl ?_
      refine XS.aloadN X0.here hx rfl (hb hby d23_1) rfl rfl ?_
      exact ks)
  obtain ⟨_, _, ⟨T163, L163, k163, n163⟩, -, X163, hP163, st163⟩ := Jvm.LawKit.callS X0 hx (y := (⟨"java/lang/StringUTF16", "length", "([B)I"⟩ : MethodName)) hown (mvT hZ (hw _ (List.mem_of_getElem? (i := 100) rfl))) (mvT hZ (hw _ (List.mem_of_getElem? (i := 101) rfl))) (mvT hZ (hw _ (List.mem_of_getElem? (i := 19) rfl))) (mvT hZ (hw _ (List.mem_of_getElem? (i := 102) rfl))) (by decide) (backOf (W := 1) (rmUL l Z a0 hw hr0 [] a2 vs h0 n0 Z0 V_a2 hl) hZ (hw _ (List.mem_of_getElem? (i := 102) rfl)) (hw _ (List.mem_of_getElem? (i := 19) rfl)) (by decide) (by decide)) (g := (mkF m 2 #[.val (.int p1), .val (.ref a2)] [(.ref a2), (.int p1)])) rfl (by rw [hml]; rfl) (argsL := [(.ref a2)]) (rest := [(.int p1)]) (lenOf pd_11 rfl) rfl (by show 2 * 0 + _ ≤ _; exact Nat.le_of_eq rfl) (hb hby d23_2) (fun _ _ => ⟨rfl, e0, (by decide : 0 + 0 ≤ _), (by decide : 0 + 0 ≤ _)⟩)
  obtain ⟨Lc163, hQ163, X163⟩ := own_out hP163 X163
  clear hP163
  dsimp only [Pt.U, Pt.locs, Pt.cells, Pt.slots] at X163 st163 hQ163
  obtain ⟨rfl, Nq163, eh163⟩ := hQ163
  have N163 := Fr.app N0 Nq163
  have pr164 : ∀ t, Steps p.tables e below (T163.setTop (mkF m 5 #[.val (.int p1), .val (.ref a2)] [(.int (5 : Int32)), (.int p1)])) t → G t := fun t ks => pr162 t (st163 t ks)
  obtain ⟨_, _, ⟨T165, L165, k165, n165⟩, -, X165, hP165, st165⟩ := Jvm.LawKit.callS X163 hx (y := (⟨"java/lang/String", "checkIndex", "(II)V"⟩ : MethodName)) hown (mvT hZ (hw _ (List.mem_of_getElem? (i := 103) rfl))) (mvT hZ (hw _ (List.mem_of_getElem? (i := 65) rfl))) (mvT hZ (hw _ (List.mem_of_getElem? (i := 5) rfl))) (mvT hZ (hw _ (List.mem_of_getElem? (i := 66) rfl))) (by decide) (backOf (W := 0) (rmCI l Z a0 hw hr0 [] p1 (5 : Int32) i 5 fv cs h0 n0 Z0 e1 rfl hi (by decide) J_) hZ (hw _ (List.mem_of_getElem? (i := 66) rfl)) (hw _ (List.mem_of_getElem? (i := 5) rfl)) (by decide) (by decide)) (g := (mkF m 5 #[.val (.int p1), .val (.ref a2)] [(.int (5 : Int32)), (.int p1)])) rfl (by rw [hml]; rfl) (argsL := [(.int p1), (.int (5 : Int32))]) (rest := []) (lenOf pd_10 rfl) rfl (by show 2 * 0 + _ ≤ _; exact Nat.le_of_eq rfl) (hb hby d23_5) (fun _ _ => ⟨rfl, eh163, (by decide : 0 + 0 ≤ _), (by decide : 0 + 0 ≤ _)⟩)
  obtain ⟨Lc165, hQ165, X165⟩ := own_out hP165 X165
  clear hP165
  dsimp only [Pt.U, Pt.locs, Pt.cells, Pt.slots] at X165 st165 hQ165
  obtain ⟨rfl, Nq165, eh165⟩ := hQ165
  have N165 := Fr.app N163 Nq165
  have pr166 : ∀ t, Steps p.tables e below (T165.setTop (mkF m 8 #[.val (.int p1), .val (.ref a2)] [])) t → G t := fun t ks => pr164 t (st165 t ks)
  obtain ⟨fs, hr, hrun, hended, hW, hsame⟩ := X165.leave (v := none) (fun _ => rfl)
  refine ⟨_, _, hG _ (pr166 _ ?_), hrun, hended, _, _, rfl, ?_, ⟨_, rfl⟩, hW, hsame.mono (by decide) (by decide)⟩
  · exact X165.returnOut hx Bd.returns (hb hby d23_8) hr
  · show QV h0 n0 _ T165.heap _
    rw [eh165]
    exact ⟨rfl, N165, rfl⟩
theorem ef_rmUC (m : MethodId) (x0 : Addr) (x1 : Int32) : entryFrame m #[(.ref x0), (.int x1)] 2 = mkF m 0 #[.val (.ref x0), .val (.int x1)] [] := by first | (simp [entryFrame, mkF, argsToLocals, Value.category]; done) | rfl
set_option maxRecDepth 65536 in
set_option maxHeartbeats 40000000 in
theorem rmUC (l : Launch) (Z : State) (a0 : Array Value) (hw : ∀ d ∈ tables_1, d.before a0 Z = true) (hr0 : ∀ d ∈ jdkStatics_1, d.before a0 Z = true) (ws : List Jvm.Cond) (a1 : Addr) (p2 : Int32) (vs : List Int32) (i : Nat) (fv : Value) (cs : Int32) (h0 : Heap) (n0 : Nat) (Z0 : n0 ≤ h0.size) (V_a1 : BA Z h0 a1 vs) (hl : vs.length = 10) (e2 : p2 = Int32.ofNat i) (hi : i < 5) (J_ : JS Z n0 h0 fv cs) :
    MetFree l (⟨"java/lang/StringUTF16", "charAt", "([BI)C"⟩ : MethodName) (head1 (Jvm.Cond.code (⟨"java/lang/StringUTF16", "charAt", "([BI)C"⟩ : MethodName) jdk_52_method_83_code 2 (some .char) :: ws) ({ frames := 3, cells := 0, slots := 0, locals := 40 } : Room)) (fun a U => a = #[(.ref a1), (.int p2)] ∧ Z.Warmed39 U.vm ∧ U.heap = h0) (fun _ _ _ _ _ => True) (fun _ U o U' => ∃ v L, o = .returned v ∧ QGC vs i h0 n0 v U'.heap L ∧ FrameEnd U o U' L ({ frames := 3, cells := 0, slots := 0, locals := 40 } : Room).cells ({ frames := 3, cells := 0, slots := 0, locals := 40 } : Room).slots) := by
  refine MetFree.of_bodySF (plainFor_of_name pn_0) hisR ?_
  intro p e s m args below meth c s₁ Bd hml0 hP hK
  obtain ⟨rfl, hZ, hh⟩ := hP
  have hx := Bd.exec
  have hby := Bd.bytes
  have hml : c.maxLocals = 2 := hml0
  have hown : s.vm.findClass "java/lang/StringUTF16" = some m.cls := findClass_of_methodNamed Bd.named
  have hnm := (name_of_methodNamed Bd.named Bd.method).1
  have X0 : Stand p l e ({ frames := 3, cells := 0, slots := 0, locals := 40 } : Room) s m #[(.ref a1), (.int p2)] below meth c s₁ [] 0 0 := Stand.of_body Bd
  have e0 : s₁.heap = h0 := by rw [← hh, Bd.state]; rfl
  have N0 := Fr.nil n0
  obtain ⟨G, hG, pr0⟩ : ∃ G : State → Prop, (∀ t, G t → Steps p.tables e below (s₁.setTop (entryFrame m #[(.ref a1), (.int p2)] 2)) t) ∧ (∀ t, Steps p.tables e below (s₁.setTop (mkF m 0 #[.val (.ref a1), .val (.int p2)] [])) t → G t) := ⟨_, fun _ k => k, fun t ks => castTop (ef_rmUC m a1 p2) ks⟩
  have pr167 : ∀ t, Steps p.tables e below (s₁.setTop (mkF m 2 #[.val (.ref a1), .val (.int p2)] [(.ref a1), (.int p2)])) t → G t := fun t ks => pr0 t (by
      refine XS.iloadN X0.here hx rfl (hb hby d22_0) rfl ?_
      refine XS.aloadN X0.here hx rfl (hb hby d22_1) rfl rfl ?_
      exact ks)
  obtain ⟨_, _, ⟨T168, L168, k168, n168⟩, -, X168, hP168, st168⟩ := Jvm.LawKit.callS X0 hx (y := (⟨"java/lang/StringUTF16", "checkIndex", "(I[B)V"⟩ : MethodName)) hown (mvT hZ (hw _ (List.mem_of_getElem? (i := 97) rfl))) (mvT hZ (hw _ (List.mem_of_getElem? (i := 98) rfl))) (mvT hZ (hw _ (List.mem_of_getElem? (i := 19) rfl))) (mvT hZ (hw _ (List.mem_of_getElem? (i := 99) rfl))) (by decide) (backOf (W := 0) (rmUI l Z a0 hw hr0 [] p2 a1 vs i fv cs h0 n0 Z0 V_a1 hl e2 hi J_) hZ (hw _ (List.mem_of_getElem? (i := 99) rfl)) (hw _ (List.mem_of_getElem? (i := 19) rfl)) (by decide) (by decide)) (g := (mkF m 2 #[.val (.ref a1), .val (.int p2)] [(.ref a1), (.int p2)])) rfl (by rw [hml]; rfl) (argsL := [(.int p2), (.ref a1)]) (rest := []) (lenOf pd_12 rfl) rfl (by show 2 * 0 + _ ≤ _; exact Nat.le_of_eq rfl) (hb hby d22_2) (fun _ _ => ⟨rfl, e0, (by decide : 0 + 0 ≤ _), (by decide : 0 + 0 ≤ _)⟩)
  obtain ⟨Lc168, hQ168, X168⟩ := own_out hP168 X168
  clear hP168
  dsimp only [Pt.U, Pt.locs, Pt.cells, Pt.slots] at X168 st168 hQ168
  obtain ⟨rfl, Nq168, eh168⟩ := hQ168
  have N168 := Fr.app N0 Nq168
  have pr169 : ∀ t, Steps p.tables e below (T168.setTop (mkF m 5 #[.val (.ref a1), .val (.int p2)] [])) t → G t := fun t ks => pr167 t (st168 t ks)
  have pr170 : ∀ t, Steps p.tables e below (T168.setTop (mkF m 7 #[.val (.ref a1), .val (.int p2)] [(.int p2), (.ref a1)])) t → G t := fun t ks => pr169 t (by
      refine XS.aloadN X168.here hx rfl (hb hby d22_5) rfl rfl ?_
      refine XS.iloadN X168.here hx rfl (hb hby d22_6) rfl ?_
      exact ks)
  obtain ⟨_, _, ⟨T171, L171, k171, n171⟩, -, X171, hP171, st171⟩ := Jvm.LawKit.callS X168 hx (y := (⟨"java/lang/StringUTF16", "getChar", "([BI)C"⟩ : MethodName)) hown (mvT hZ (hw _ (List.mem_of_getElem? (i := 91) rfl))) (mvT hZ (hw _ (List.mem_of_getElem? (i := 92) rfl))) (mvT hZ (hw _ (List.mem_of_getElem? (i := 19) rfl))) (mvT hZ (hw _ (List.mem_of_getElem? (i := 93) rfl))) (by decide) (backOf (W := 0) (rmGC l Z a0 hw hr0 [] a1 p2 vs i fv cs h0 n0 Z0 V_a1 e2 (by omega) (by omega) J_) hZ (hw _ (List.mem_of_getElem? (i := 93) rfl)) (hw _ (List.mem_of_getElem? (i := 19) rfl)) (by decide) (by decide)) (g := (mkF m 7 #[.val (.ref a1), .val (.int p2)] [(.int p2), (.ref a1)])) rfl (by rw [hml]; rfl) (argsL := [(.ref a1), (.int p2)]) (rest := []) (lenOf pd_5 rfl) rfl (by show 2 * 0 + _ ≤ _; exact Nat.le_of_eq rfl) (hb hby d22_7) (fun _ _ => ⟨rfl, eh168, (by decide : 0 + 0 ≤ _), (by decide : 0 + 0 ≤ _)⟩)
  obtain ⟨Lc171, hQ171, X171⟩ := own_out hP171 X171
  clear hP171
  dsimp only [Pt.U, Pt.locs, Pt.cells, Pt.slots] at X171 st171 hQ171
  obtain ⟨rfl, Nq171, eh171⟩ := hQ171
  have N171 := Fr.app N168 Nq171
  have pr172 : ∀ t, Steps p.tables e below (T171.setTop (mkF m 10 #[.val (.ref a1), .val (.int p2)] [(.int (own_gc (vs.getD (2 * i) 0) (vs.getD (2 * i + 1) 0)))])) t → G t := fun t ks => pr170 t (st171 t ks)
  obtain ⟨fs, hr, hrun, hended, hW, hsame⟩ := X171.leave (v := some (.int (own_gc (vs.getD (2 * i) 0) (vs.getD (2 * i + 1) 0)))) (fun h => by rw [Bd.returns] at h; cases h)
  refine ⟨_, _, hG _ (pr172 _ ?_), hrun, hended, _, _, rfl, ?_, ⟨_, rfl⟩, hW, hsame.mono (by decide) (by decide)⟩
  · exact retN X171 hx (t := .char) Bd.returns (by simp) (hb hby d22_10) (by rw [show nar .char (own_gc (vs.getD (2 * i) 0) (vs.getD (2 * i + 1) 0)) = (own_gc (vs.getD (2 * i) 0) (vs.getD (2 * i + 1) 0)) from (own_narC _)]; exact hr)
  · show QGC vs i h0 n0 _ T171.heap _
    rw [eh171]
    exact ⟨rfl, N171, rfl⟩
theorem ef_rmCH (m : MethodId) (x0 : Addr) (x1 : Int32) : entryFrame m #[(.ref x0), (.int x1)] 2 = mkF m 0 #[.val (.ref x0), .val (.int x1)] [] := by first | (simp [entryFrame, mkF, argsToLocals, Value.category]; done) | rfl
set_option maxRecDepth 65536 in
set_option maxHeartbeats 40000000 in
theorem rmCH (l : Launch) (Z : State) (a0 : Array Value) (hw : ∀ d ∈ tables_1, d.before a0 Z = true) (hr0 : ∀ d ∈ jdkStatics_1, d.before a0 Z = true) (ws : List Jvm.Cond) (a1 : Addr) (p2 : Int32) (b : Addr) (k : Int32) (vs : List Int32) (fv : Value) (cs : Int32) (i : Nat) (ch : Int32) (h0 : Heap) (n0 : Nat) (Z0 : n0 ≤ h0.size) (hS : STR Z h0 a1 b k vs) (J_ : JS Z n0 h0 fv cs) (e2 : p2 = Int32.ofNat i) (hi : i < 5) (hk : (k = 0 ∧ vs.length = 5) ∨ (k = 1 ∧ vs.length = 10)) (hc0 : k = 0 → own_lc (vs.getD i 0) = ch) (hc1 : k = 1 → own_gc (vs.getD (2 * i) 0) (vs.getD (2 * i + 1) 0) = ch) :
    MetFree l (⟨"java/lang/String", "charAt", "(I)C"⟩ : MethodName) (head1 (Jvm.Cond.code (⟨"java/lang/String", "charAt", "(I)C"⟩ : MethodName) jdk_42_method_56_code 2 (some .char) :: ws) ({ frames := 4, cells := 0, slots := 0, locals := 53 } : Room)) (fun a U => a = #[(.ref a1), (.int p2)] ∧ Z.Warmed39 U.vm ∧ U.heap = h0) (fun _ _ _ _ _ => True) (fun _ U o U' => ∃ v L, o = .returned v ∧ QCF ch h0 n0 v U'.heap L ∧ FrameEnd U o U' L ({ frames := 4, cells := 0, slots := 0, locals := 53 } : Room).cells ({ frames := 4, cells := 0, slots := 0, locals := 53 } : Room).slots) := by
  refine MetFree.of_bodySF (plainFor_of_name pn_1) hisR ?_
  intro p e s m args below meth c s₁ Bd hml0 hP hK
  obtain ⟨rfl, hZ, hh⟩ := hP
  have hx := Bd.exec
  have hby := Bd.bytes
  have hml : c.maxLocals = 2 := hml0
  have hown : s.vm.findClass "java/lang/String" = some m.cls := findClass_of_methodNamed Bd.named
  have hnm := (name_of_methodNamed Bd.named Bd.method).1
  have X0 : Stand p l e ({ frames := 4, cells := 0, slots := 0, locals := 53 } : Room) s m #[(.ref a1), (.int p2)] below meth c s₁ [] 0 0 := Stand.of_body Bd
  have e0 : s₁.heap = h0 := by rw [← hh, Bd.state]; rfl
  have N0 := Fr.nil n0
  obtain ⟨G, hG, pr0⟩ : ∃ G : State → Prop, (∀ t, G t → Steps p.tables e below (s₁.setTop (entryFrame m #[(.ref a1), (.int p2)] 2)) t) ∧ (∀ t, Steps p.tables e below (s₁.setTop (mkF m 0 #[.val (.ref a1), .val (.int p2)] [])) t → G t) := ⟨_, fun _ k => k, fun t ks => castTop (ef_rmCH m a1 p2) ks⟩
  have hS0 := hS
  obtain ⟨E_a1, F_a1_value, F_a1_coder, V_b⟩ := hS
  have pr173 : ∀ t, Steps p.tables e below (s₁.setTop (mkF m 1 #[.val (.ref a1), .val (.int p2)] [(.ref a1)])) t → G t := fun t ks => pr0 t (by
      refine XS.aloadN X0.here hx rfl (hb hby d11_0) rfl rfl ?_
      exact ks)
  obtain ⟨cq174, kq174, q174a, q174b, q174c⟩ := isOf hZ e0 E_a1
  obtain ⟨_, _, ⟨T174, L174, k174, n174⟩, -, X174, hP174, st174⟩ := X0.virtualBack hx (y := (⟨"java/lang/String", "isLatin1", "()Z"⟩ : MethodName)) (z := (⟨"java/lang/String", "isLatin1", "()Z"⟩ : MethodName)) hown (mvT hZ (hw _ (List.mem_of_getElem? (i := 55) rfl))) (mvT hZ (hw _ (List.mem_of_getElem? (i := 56) rfl))) (notFace_of_selects (args := #[]) (mvT hZ (hw _ (List.mem_of_getElem? (i := 58) rfl)))) (mvT hZ (hw _ (List.mem_of_getElem? (i := 58) rfl))) (mvT hZ (hw _ (List.mem_of_getElem? (i := 57) rfl))) (by decide) (backOf (W := 0) (rmL1 l Z a0 hw hr0 [] a1 b k vs fv cs h0 n0 Z0 hS0 J_ (own_k01 hk)) hZ (hw _ (List.mem_of_getElem? (i := 59) rfl)) (hw _ (List.mem_of_getElem? (i := 5) rfl)) (by decide) (by decide)) q174a q174c (g := (mkF m 1 #[.val (.ref a1), .val (.int p2)] [(.ref a1)])) rfl (by rw [hml]; rfl) (Steps.refl _) (argsL := []) (rest := []) (lenOf pd_13 rfl) rfl (by show 2 * 0 + _ ≤ _; exact Nat.le_of_eq rfl) (hb hby d11_1) (fun _ _ => ⟨rfl, e0, (by decide : 0 + 0 ≤ _), (by decide : 0 + 0 ≤ _)⟩)
  obtain ⟨Lc174, hQ174, X174⟩ := own_out hP174 X174
  clear hP174
  dsimp only [Pt.U, Pt.locs, Pt.cells, Pt.slots] at X174 st174 hQ174
  obtain ⟨rfl, Nq174, eh174⟩ := hQ174
  have N174 := Fr.app N0 Nq174
  have pr175 : ∀ t, Steps p.tables e below (T174.setTop (mkF m 4 #[.val (.ref a1), .val (.int p2)] [(.int (if k = 0 then 1 else 0))])) t → G t := fun t ks => pr173 t (st174.trans ks)
  rcases hk with ⟨rfl, hl⟩ | ⟨rfl, hl⟩
  · rw [(show (if (0 : Int32) = 0 then (1 : Int32) else 0) = (1 : Int32) from rfl)] at pr175
    have pr176 : ∀ t, Steps p.tables e below (T174.setTop (mkF m 8 #[.val (.ref a1), .val (.int p2)] [(.ref a1)])) t → G t := fun t ks => pr175 t (by
        refine XS.ifNo X174.here hx rfl (hb hby d11_4) rfl ((if0 _ _).trans (feq (by decide)).1) ?_
        refine XS.aloadN X174.here hx rfl (hb hby d11_7) rfl rfl ?_
        exact ks)
    obtain ⟨T177, X177, e177, st177⟩ := getF X174 hx hZ hown (host := "") (Or.inl (hw _ (List.mem_of_getElem? (i := 30) rfl))) Via.refl eh174 F_a1_value (g := (mkF m 8 #[.val (.ref a1), .val (.int p2)] [(.ref a1)])) rfl rfl (hb hby d11_8)
    have pr178 : ∀ t, Steps p.tables e below (T177.setTop (mkF m 11 #[.val (.ref a1), .val (.int p2)] [(.ref b)])) t → G t := fun t ks => pr176 t (st177 t ks)
    have pr179 : ∀ t, Steps p.tables e below (T177.setTop (mkF m 12 #[.val (.ref a1), .val (.int p2)] [(.int p2), (.ref b)])) t → G t := fun t ks => pr178 t (by
        refine XS.iloadN X177.here hx rfl (hb hby d11_11) rfl ?_
        exact ks)
    obtain ⟨_, _, ⟨T180, L180, k180, n180⟩, -, X180, hP180, st180⟩ := Jvm.LawKit.callS X177 hx (y := (⟨"java/lang/StringLatin1", "charAt", "([BI)C"⟩ : MethodName)) hown (mvT hZ (hw _ (List.mem_of_getElem? (i := 60) rfl))) (mvT hZ (hw _ (List.mem_of_getElem? (i := 61) rfl))) (mvT hZ (hw _ (List.mem_of_getElem? (i := 62) rfl))) (mvT hZ (hw _ (List.mem_of_getElem? (i := 63) rfl))) (by decide) (backOf (W := 0) (rmLC l Z a0 hw hr0 [] b p2 vs i fv cs h0 n0 Z0 V_b e2 (by omega) (by omega) J_) hZ (hw _ (List.mem_of_getElem? (i := 63) rfl)) (hw _ (List.mem_of_getElem? (i := 62) rfl)) (by decide) (by decide)) (g := (mkF m 12 #[.val (.ref a1), .val (.int p2)] [(.int p2), (.ref b)])) rfl (by rw [hml]; rfl) (argsL := [(.ref b), (.int p2)]) (rest := []) (lenOf pd_5 rfl) rfl (by show 2 * 0 + _ ≤ _; exact Nat.le_of_eq rfl) (hb hby d11_12) (fun _ _ => ⟨rfl, e177, (by decide : 0 + 0 ≤ _), (by decide : 0 + 0 ≤ _)⟩)
    obtain ⟨Lc180, hQ180, X180⟩ := own_out hP180 X180
    clear hP180
    dsimp only [Pt.U, Pt.locs, Pt.cells, Pt.slots] at X180 st180 hQ180
    obtain ⟨rfl, Nq180, eh180⟩ := hQ180
    have N180 := Fr.app N174 Nq180
    have pr181 : ∀ t, Steps p.tables e below (T180.setTop (mkF m 15 #[.val (.ref a1), .val (.int p2)] [(.int (own_lc (vs.getD i 0)))])) t → G t := fun t ks => pr179 t (st180 t ks)
    obtain ⟨fs, hr, hrun, hended, hW, hsame⟩ := X180.leave (v := some (.int ch)) (fun h => by rw [Bd.returns] at h; cases h)
    refine ⟨_, _, hG _ (pr181 _ ?_), hrun, hended, _, _, rfl, ?_, ⟨_, rfl⟩, hW, hsame.mono (by decide) (by decide)⟩
    · exact retN X180 hx (t := .char) Bd.returns (by simp) (hb hby d11_15) (by rw [show nar .char (own_lc (vs.getD i 0)) = ch from ((own_narC _).trans (hc0 rfl))]; exact hr)
    · show QCF ch h0 n0 _ T180.heap _
      rw [eh180]
      exact ⟨rfl, N180, rfl⟩
  · rw [(show (if (1 : Int32) = 0 then (1 : Int32) else 0) = (0 : Int32) from rfl)] at pr175
    have pr182 : ∀ t, Steps p.tables e below (T174.setTop (mkF m 17 #[.val (.ref a1), .val (.int p2)] [(.ref a1)])) t → G t := fun t ks => pr175 t (by
        refine XS.ifYes X174.here hx rfl (pc0 := 4) (pc' := 16) rfl (hb hby d11_4) rfl ((if0 _ _).trans (teq (by decide)).1) (by decide) (by decide) ?_
        refine XS.aloadN X174.here hx rfl (hb hby d11_16) rfl rfl ?_
        exact ks)
    obtain ⟨T183, X183, e183, st183⟩ := getF X174 hx hZ hown (host := "") (Or.inl (hw _ (List.mem_of_getElem? (i := 30) rfl))) Via.refl eh174 F_a1_value (g := (mkF m 17 #[.val (.ref a1), .val (.int p2)] [(.ref a1)])) rfl rfl (hb hby d11_17)
    have pr184 : ∀ t, Steps p.tables e below (T183.setTop (mkF m 20 #[.val (.ref a1), .val (.int p2)] [(.ref b)])) t → G t := fun t ks => pr182 t (st183 t ks)
    have pr185 : ∀ t, Steps p.tables e below (T183.setTop (mkF m 21 #[.val (.ref a1), .val (.int p2)] [(.int p2), (.ref b)])) t → G t := fun t ks => pr184 t (by
        refine XS.iloadN X183.here hx rfl (hb hby d11_20) rfl ?_
        exact ks)
    obtain ⟨_, _, ⟨T186, L186, k186, n186⟩, -, X186, hP186, st186⟩ := Jvm.LawKit.callS X183 hx (y := (⟨"java/lang/StringUTF16", "charAt", "([BI)C"⟩ : MethodName)) hown (mvT hZ (hw _ (List.mem_of_getElem? (i := 94) rfl))) (mvT hZ (hw _ (List.mem_of_getElem? (i := 95) rfl))) (mvT hZ (hw _ (List.mem_of_getElem? (i := 19) rfl))) (mvT hZ (hw _ (List.mem_of_getElem? (i := 96) rfl))) (by decide) (backOf (W := 0) (rmUC l Z a0 hw hr0 [] b p2 vs i fv cs h0 n0 Z0 V_b hl e2 hi J_) hZ (hw _ (List.mem_of_getElem? (i := 96) rfl)) (hw _ (List.mem_of_getElem? (i := 19) rfl)) (by decide) (by decide)) (g := (mkF m 21 #[.val (.ref a1), .val (.int p2)] [(.int p2), (.ref b)])) rfl (by rw [hml]; rfl) (argsL := [(.ref b), (.int p2)]) (rest := []) (lenOf pd_5 rfl) rfl (by show 2 * 0 + _ ≤ _; exact Nat.le_of_eq rfl) (hb hby d11_21) (fun _ _ => ⟨rfl, e183, (by decide : 0 + 0 ≤ _), (by decide : 0 + 0 ≤ _)⟩)
    obtain ⟨Lc186, hQ186, X186⟩ := own_out hP186 X186
    clear hP186
    dsimp only [Pt.U, Pt.locs, Pt.cells, Pt.slots] at X186 st186 hQ186
    obtain ⟨rfl, Nq186, eh186⟩ := hQ186
    have N186 := Fr.app N174 Nq186
    have pr187 : ∀ t, Steps p.tables e below (T186.setTop (mkF m 24 #[.val (.ref a1), .val (.int p2)] [(.int (own_gc (vs.getD (2 * i) 0) (vs.getD (2 * i + 1) 0)))])) t → G t := fun t ks => pr185 t (st186 t ks)
    obtain ⟨fs, hr, hrun, hended, hW, hsame⟩ := X186.leave (v := some (.int ch)) (fun h => by rw [Bd.returns] at h; cases h)
    refine ⟨_, _, hG _ (pr187 _ ?_), hrun, hended, _, _, rfl, ?_, ⟨_, rfl⟩, hW, hsame.mono (by decide) (by decide)⟩
    · exact retN X186 hx (t := .char) Bd.returns (by simp) (hb hby d11_24) (by rw [show nar .char (own_gc (vs.getD (2 * i) 0) (vs.getD (2 * i + 1) 0)) = ch from ((own_narC _).trans (hc1 rfl))]; exact hr)
    · show QCF ch h0 n0 _ T186.heap _
      rw [eh186]
      exact ⟨rfl, N186, rfl⟩
def own_hexd (p1 : Int32) : Int32 := (if p1 < (48 : Int32) then (if p1 < (65 : Int32) then (if p1 < (97 : Int32) then (0 : Int32) else (if (102 : Int32) < p1 then (0 : Int32) else (1 : Int32))) else (if (70 : Int32) < p1 then (if p1 < (97 : Int32) then (0 : Int32) else (if (102 : Int32) < p1 then (0 : Int32) else (1 : Int32))) else (1 : Int32))) else (if (57 : Int32) < p1 then (if p1 < (65 : Int32) then (if p1 < (97 : Int32) then (0 : Int32) else (if (102 : Int32) < p1 then (0 : Int32) else (1 : Int32))) else (if (70 : Int32) < p1 then (if p1 < (97 : Int32) then (0 : Int32) else (if (102 : Int32) < p1 then (0 : Int32) else (1 : Int32))) else (1 : Int32))) else (1 : Int32)))
theorem ef_rmHD (m : MethodId) (x0 : Int32) : entryFrame m #[(.int x0)] 1 = mkF m 0 #[.val (.int x0)] [] := by first | (simp [entryFrame, mkF, argsToLocals, Value.category]; done) | rfl
def Q_rmHD (p1 : Int32) (h0 : Heap) (n0 : Nat) (v : Option Value) (h : Heap) (L : List Loc) : Prop := v = some (.int (own_hexd p1)) ∧ Fr n0 L ∧ h = h0
set_option maxRecDepth 65536 in
set_option maxHeartbeats 40000000 in
theorem rmHD (l : Launch) (Z : State) (a0 : Array Value) (hw : ∀ d ∈ tables_1, d.before a0 Z = true) (hr0 : ∀ d ∈ jdkStatics_1, d.before a0 Z = true) (ws : List Jvm.Cond) (p1 : Int32)  (h0 : Heap) (n0 : Nat) (Z0 : n0 ≤ h0.size)  :
    MetFree l (⟨"com/example/wirebind/wirebind/PercentEncoding", "isHexDigit", "(C)Z"⟩ : MethodName) (head1 (Jvm.Cond.code (⟨"com/example/wirebind/wirebind/PercentEncoding", "isHexDigit", "(C)Z"⟩ : MethodName) prog_49_method_12_code 1 (some .boolean) :: ws) ({ frames := 0, cells := 0, slots := 0, locals := 0 } : Room)) (fun a U => a = #[(.int p1)] ∧ Z.Warmed39 U.vm ∧ U.heap = h0) (fun _ _ _ _ _ => True) (fun _ U o U' => ∃ v L, o = .returned v ∧ Q_rmHD p1 h0 n0 v U'.heap L ∧ FrameEnd U o U' L ({ frames := 0, cells := 0, slots := 0, locals := 0 } : Room).cells ({ frames := 0, cells := 0, slots := 0, locals := 0 } : Room).slots) := by
  refine MetFree.of_bodySF (plainFor_of_name pn_4) hisR ?_
  intro p e s m args below meth c s₁ Bd hml0 hP hK
  obtain ⟨rfl, hZ, hh⟩ := hP
  have hx := Bd.exec
  have hby := Bd.bytes
  have hml : c.maxLocals = 1 := hml0
  have hown : s.vm.findClass "com/example/wirebind/wirebind/PercentEncoding" = some m.cls := findClass_of_methodNamed Bd.named
  have hnm := (name_of_methodNamed Bd.named Bd.method).1
  have X0 : Stand p l e ({ frames := 0, cells := 0, slots := 0, locals := 0 } : Room) s m #[(.int p1)] below meth c s₁ [] 0 0 := Stand.of_body Bd
  have e0 : s₁.heap = h0 := by rw [← hh, Bd.state]; rfl
  have N0 := Fr.nil n0
  obtain ⟨G, hG, pr0⟩ : ∃ G : State → Prop, (∀ t, G t → Steps p.tables e below (s₁.setTop (entryFrame m #[(.int p1)] 1)) t) ∧ (∀ t, Steps p.tables e below (s₁.setTop (mkF m 0 #[.val (.int p1)] [])) t → G t) := ⟨_, fun _ k => k, fun t ks => castTop (ef_rmHD m p1) ks⟩
  have pr188 : ∀ t, Steps p.tables e below (s₁.setTop (mkF m 3 #[.val (.int p1)] [(.int (48 : Int32)), (.int p1)])) t → G t := fun t ks => pr0 t (by
      refine XS.iloadN X0.here hx rfl (hb hby d16_0) rfl ?_
      refine XS.bipush X0.here hx rfl (hb hby d16_1) ?_
      exact ks)
  obtain ⟨j203, hj203⟩ : ∃ z : Int32, z = (if p1 < (48 : Int32) then (if p1 < (65 : Int32) then (if p1 < (97 : Int32) then (0 : Int32) else (if (102 : Int32) < p1 then (0 : Int32) else (1 : Int32))) else (if (70 : Int32) < p1 then (if p1 < (97 : Int32) then (0 : Int32) else (if (102 : Int32) < p1 then (0 : Int32) else (1 : Int32))) else (1 : Int32))) else (if (57 : Int32) < p1 then (if p1 < (65 : Int32) then (if p1 < (97 : Int32) then (0 : Int32) else (if (102 : Int32) < p1 then (0 : Int32) else (1 : Int32))) else (if (70 : Int32) < p1 then (if p1 < (97 : Int32) then (0 : Int32) else (if (102 : Int32) < p1 then (0 : Int32) else (1 : Int32))) else (1 : Int32))) else (1 : Int32))) := ⟨_, rfl⟩
  have pr204 : ∀ t, Steps p.tables e below (s₁.setTop (mkF m 41 #[.val (.int p1)] [(.int j203)])) t → G t := by
    intro t ks
    refine pr188 t ?_
    by_cases c189 : p1 < (48 : Int32)
    · refine XS.icmpYes X0.here hx rfl (pc0 := 3) (pc' := 12) rfl (hb hby d16_3) rfl (tlt c189).1 (by decide) (by decide) ?_
      refine XS.iloadN X0.here hx rfl (hb hby d16_12) rfl ?_
      refine XS.bipush X0.here hx rfl (hb hby d16_13) ?_
      by_cases c190 : p1 < (65 : Int32)
      · refine XS.icmpYes X0.here hx rfl (pc0 := 15) (pc' := 24) rfl (hb hby d16_15) rfl (tlt c190).1 (by decide) (by decide) ?_
        refine XS.iloadN X0.here hx rfl (hb hby d16_24) rfl ?_
        refine XS.bipush X0.here hx rfl (hb hby d16_25) ?_
        by_cases c191 : p1 < (97 : Int32)
        · refine XS.icmpYes X0.here hx rfl (pc0 := 27) (pc' := 40) rfl (hb hby d16_27) rfl (tlt c191).1 (by decide) (by decide) ?_
          refine XS.iconst X0.here hx rfl (hb hby d16_40) ?_
          have ej203 : j203 = (0 : Int32) := by rw [hj203, if_pos c189, if_pos c190, if_pos c191]
          rw [ej203] at ks
          exact ks
        · refine XS.icmpNo X0.here hx rfl (hb hby d16_27) rfl (flt c191).1 ?_
          refine XS.iloadN X0.here hx rfl (hb hby d16_30) rfl ?_
          refine XS.bipush X0.here hx rfl (hb hby d16_31) ?_
          by_cases c192 : (102 : Int32) < p1
          · refine XS.icmpYes X0.here hx rfl (pc0 := 33) (pc' := 40) rfl (hb hby d16_33) rfl (tlt c192).2.2.1 (by decide) (by decide) ?_
            refine XS.iconst X0.here hx rfl (hb hby d16_40) ?_
            have ej203 : j203 = (0 : Int32) := by rw [hj203, if_pos c189, if_pos c190, if_neg c191, if_pos c192]
            rw [ej203] at ks
            exact ks
          · refine XS.icmpNo X0.here hx rfl (hb hby d16_33) rfl (flt c192).2.2.1 ?_
            refine XS.iconst X0.here hx rfl (hb hby d16_36) ?_
            refine XS.goto X0.here hx rfl (pc0 := 37) (pc' := 41) rfl (hb hby d16_37) (by decide) (by decide) ?_
            have ej203 : j203 = (1 : Int32) := by rw [hj203, if_pos c189, if_pos c190, if_neg c191, if_neg c192]
            rw [ej203] at ks
            exact ks
      · refine XS.icmpNo X0.here hx rfl (hb hby d16_15) rfl (flt c190).1 ?_
        refine XS.iloadN X0.here hx rfl (hb hby d16_18) rfl ?_
        refine XS.bipush X0.here hx rfl (hb hby d16_19) ?_
        by_cases c193 : (70 : Int32) < p1
        · refine XS.icmpNo X0.here hx rfl (hb hby d16_21) rfl (tlt c193).2.2.2 ?_
          refine XS.iloadN X0.here hx rfl (hb hby d16_24) rfl ?_
          refine XS.bipush X0.here hx rfl (hb hby d16_25) ?_
          by_cases c194 : p1 < (97 : Int32)
          · refine XS.icmpYes X0.here hx rfl (pc0 := 27) (pc' := 40) rfl (hb hby d16_27) rfl (tlt c194).1 (by decide) (by decide) ?_
            refine XS.iconst X0.here hx rfl (hb hby d16_40) ?_
            have ej203 : j203 = (0 : Int32) := by rw [hj203, if_pos c189, if_neg c190, if_pos c193, if_pos c194]
            rw [ej203] at ks
            exact ks
          · refine XS.icmpNo X0.here hx rfl (hb hby d16_27) rfl (flt c194).1 ?_
            refine XS.iloadN X0.here hx rfl (hb hby d16_30) rfl ?_
            refine XS.bipush X0.here hx rfl (hb hby d16_31) ?_
            by_cases c195 : (102 : Int32) < p1
            · refine XS.icmpYes X0.here hx rfl (pc0 := 33) (pc' := 40) rfl (hb hby d16_33) rfl (tlt c195).2.2.1 (by decide) (by decide) ?_
              refine XS.iconst X0.here hx rfl (hb hby d16_40) ?_
              have ej203 : j203 = (0 : Int32) := by rw [hj203, if_pos c189, if_neg c190, if_pos c193, if_neg c194, if_pos c195]
              rw [ej203] at ks
              exact ks
            · refine XS.icmpNo X0.here hx rfl (hb hby d16_33) rfl (flt c195).2.2.1 ?_
              refine XS.iconst X0.here hx rfl (hb hby d16_36) ?_
              refine XS.goto X0.here hx rfl (pc0 := 37) (pc' := 41) rfl (hb hby d16_37) (by decide) (by decide) ?_
              have ej203 : j203 = (1 : Int32) := by rw [hj203, if_pos c189, if_neg c190, if_pos c193, if_neg c194, if_neg c195]
              rw [ej203] at ks
              exact ks
        · refine XS.icmpYes X0.here hx rfl (pc0 := 21) (pc' := 36) rfl (hb hby d16_21) rfl (flt c193).2.2.2 (by decide) (by decide) ?_
          refine XS.iconst X0.here hx rfl (hb hby d16_36) ?_
          refine XS.goto X0.here hx rfl (pc0 := 37) (pc' := 41) rfl (hb hby d16_37) (by decide) (by decide) ?_
          have ej203 : j203 = (1 : Int32) := by rw [hj203, if_pos c189, if_neg c190, if_neg c193]
          rw [ej203] at ks
          exact ks
    · refine XS.icmpNo X0.here hx rfl (hb hby d16_3) rfl (flt c189).1 ?_
      refine XS.iloadN X0.here hx rfl (hb hby d16_6) rfl ?_
      refine XS.bipush X0.here hx rfl (hb hby d16_7) ?_
      by_cases c196 : (57 : Int32) < p1
      · refine XS.icmpNo X0.here hx rfl (hb hby d16_9) rfl (tlt c196).2.2.2 ?_
        refine XS.iloadN X0.here hx rfl (hb hby d16_12) rfl ?_
        refine XS.bipush X0.here hx rfl (hb hby d16_13) ?_
        by_cases c197 : p1 < (65 : Int32)
        · refine XS.icmpYes X0.here hx rfl (pc0 := 15) (pc' := 24) rfl (hb hby d16_15) rfl (tlt c197).1 (by decide) (by decide) ?_
          refine XS.iloadN X0.here hx rfl (hb hby d16_24) rfl ?_
          refine XS.bipush X0.here hx rfl (hb hby d16_25) ?_
          by_cases c198 : p1 < (97 : Int32)
          · refine XS.icmpYes X0.here hx rfl (pc0 := 27) (pc' := 40) rfl (hb hby d16_27) rfl (tlt c198).1 (by decide) (by decide) ?_
            refine XS.iconst X0.here hx rfl (hb hby d16_40) ?_
            have ej203 : j203 = (0 : Int32) := by rw [hj203, if_neg c189, if_pos c196, if_pos c197, if_pos c198]
            rw [ej203] at ks
            exact ks
          · refine XS.icmpNo X0.here hx rfl (hb hby d16_27) rfl (flt c198).1 ?_
            refine XS.iloadN X0.here hx rfl (hb hby d16_30) rfl ?_
            refine XS.bipush X0.here hx rfl (hb hby d16_31) ?_
            by_cases c199 : (102 : Int32) < p1
            · refine XS.icmpYes X0.here hx rfl (pc0 := 33) (pc' := 40) rfl (hb hby d16_33) rfl (tlt c199).2.2.1 (by decide) (by decide) ?_
              refine XS.iconst X0.here hx rfl (hb hby d16_40) ?_
              have ej203 : j203 = (0 : Int32) := by rw [hj203, if_neg c189, if_pos c196, if_pos c197, if_neg c198, if_pos c199]
              rw [ej203] at ks
              exact ks
            · refine XS.icmpNo X0.here hx rfl (hb hby d16_33) rfl (flt c199).2.2.1 ?_
              refine XS.iconst X0.here hx rfl (hb hby d16_36) ?_
              refine XS.goto X0.here hx rfl (pc0 := 37) (pc' := 41) rfl (hb hby d16_37) (by decide) (by decide) ?_
              have ej203 : j203 = (1 : Int32) := by rw [hj203, if_neg c189, if_pos c196, if_pos c197, if_neg c198, if_neg c199]
              rw [ej203] at ks
              exact ks
        · refine XS.icmpNo X0.here hx rfl (hb hby d16_15) rfl (flt c197).1 ?_
          refine XS.iloadN X0.here hx rfl (hb hby d16_18) rfl ?_
          refine XS.bipush X0.here hx rfl (hb hby d16_19) ?_
          by_cases c200 : (70 : Int32) < p1
          · refine XS.icmpNo X0.here hx rfl (hb hby d16_21) rfl (tlt c200).2.2.2 ?_
            refine XS.iloadN X0.here hx rfl (hb hby d16_24) rfl ?_
            refine XS.bipush X0.here hx rfl (hb hby d16_25) ?_
            by_cases c201 : p1 < (97 : Int32)
            · refine XS.icmpYes X0.here hx rfl (pc0 := 27) (pc' := 40) rfl (hb hby d16_27) rfl (tlt c201).1 (by decide) (by decide) ?_
              refine XS.iconst X0.here hx rfl (hb hby d16_40) ?_
              have ej203 : j203 = (0 : Int32) := by rw [hj203, if_neg c189, if_pos c196, if_neg c197, if_pos c200, if_pos c201]
              rw [ej203] at ks
              exact ks
            · refine XS.icmpNo X0.here hx rfl (hb hby d16_27) rfl (flt c201).1 ?_
              refine XS.iloadN X0.here hx rfl (hb hby d16_30) rfl ?_
              refine XS.bipush X0.here hx rfl (hb hby d16_31) ?_
              by_cases c202 : (102 : Int32) < p1
              · refine XS.icmpYes X0.here hx rfl (pc0 := 33) (pc' := 40) rfl (hb hby d16_33) rfl (tlt c202).2.2.1 (by decide) (by decide) ?_
                refine XS.iconst X0.here hx rfl (hb hby d16_40) ?_
                have ej203 : j203 = (0 : Int32) := by rw [hj203, if_neg c189, if_pos c196, if_neg c197, if_pos c200, if_neg c201, if_pos c202]
                rw [ej203] at ks
                exact ks
              · refine XS.icmpNo X0.here hx rfl (hb hby d16_33) rfl (flt c202).2.2.1 ?_
                refine XS.iconst X0.here hx rfl (hb hby d16_36) ?_
                refine XS.goto X0.here hx rfl (pc0 := 37) (pc' := 41) rfl (hb hby d16_37) (by decide) (by decide) ?_
                have ej203 : j203 = (1 : Int32) := by rw [hj203, if_neg c189, if_pos c196, if_neg c197, if_pos c200, if_neg c201, if_neg c202]
                rw [ej203] at ks
                exact ks
          · refine XS.icmpYes X0.here hx rfl (pc0 := 21) (pc' := 36) rfl (hb hby d16_21) rfl (flt c200).2.2.2 (by decide) (by decide) ?_
            refine XS.iconst X0.here hx rfl (hb hby d16_36) ?_
            refine XS.goto X0.here hx rfl (pc0 := 37) (pc' := 41) rfl (hb hby d16_37) (by decide) (by decide) ?_
            have ej203 : j203 = (1 : Int32) := by rw [hj203, if_neg c189, if_pos c196, if_neg c197, if_neg c200]
            rw [ej203] at ks
            exact ks
      · refine XS.icmpYes X0.here hx rfl (pc0 := 9) (pc' := 36) rfl (hb hby d16_9) rfl (flt c196).2.2.2 (by decide) (by decide) ?_
        refine XS.iconst X0.here hx rfl (hb hby d16_36) ?_
        refine XS.goto X0.here hx rfl (pc0 := 37) (pc' := 41) rfl (hb hby d16_37) (by decide) (by decide) ?_
        have ej203 : j203 = (1 : Int32) := by rw [hj203, if_neg c189, if_neg c196]
        rw [ej203] at ks
        exact ks
  have hret : j203 = own_hexd p1 := by rw [hj203]; rfl
  have h01 : j203 = 0 ∨ j203 = 1 := (hj203 ▸ (own_ite01 (own_ite01 (own_ite01 (Or.inl rfl) (own_ite01 (Or.inl rfl) (Or.inr rfl))) (own_ite01 (own_ite01 (Or.inl rfl) (own_ite01 (Or.inl rfl) (Or.inr rfl))) (Or.inr rfl))) (own_ite01 (own_ite01 (own_ite01 (Or.inl rfl) (own_ite01 (Or.inl rfl) (Or.inr rfl))) (own_ite01 (own_ite01 (Or.inl rfl) (own_ite01 (Or.inl rfl) (Or.inr rfl))) (Or.inr rfl))) (Or.inr rfl))))
  obtain ⟨fs, hr, hrun, hended, hW, hsame⟩ := X0.leave (v := some (.int (own_hexd p1))) (fun h => by rw [Bd.returns] at h; cases h)
  refine ⟨_, _, hG _ (pr204 _ ?_), hrun, hended, _, _, rfl, ?_, ⟨_, rfl⟩, hW, hsame.mono (by decide) (by decide)⟩
  · exact retN X0 hx (t := .boolean) Bd.returns (by simp) (hb hby d16_41) (by rw [show nar .boolean j203 = (own_hexd p1) from ((own_nz h01).trans hret)]; exact hr)
  · show Q_rmHD p1 h0 n0 _ s₁.heap _
    rw [e0]
    exact ⟨rfl, N0, rfl⟩
def own_hex (p1 : Int32) : Int32 := if (p1 - (48 : Int32)) < (0 : Int32) then (if (p1 ||| (32 : Int32)) < (97 : Int32) then (0 : Int32) else (if (102 : Int32) < (p1 ||| (32 : Int32)) then (0 : Int32) else (1 : Int32))) else if (9 : Int32) < (p1 - (48 : Int32)) then (if (p1 ||| (32 : Int32)) < (97 : Int32) then (0 : Int32) else (if (102 : Int32) < (p1 ||| (32 : Int32)) then (0 : Int32) else (1 : Int32))) else 1
theorem ef_rmHX (m : MethodId) (x0 : Int32) : entryFrame m #[(.int x0)] 3 = mkF m 0 #[.val (.int x0), .unset, .unset] [] := by first | (simp [entryFrame, mkF, argsToLocals, Value.category]; done) | rfl
set_option maxRecDepth 65536 in
set_option maxHeartbeats 40000000 in
theorem rmHX (l : Launch) (Z : State) (a0 : Array Value) (hw : ∀ d ∈ tables_1, d.before a0 Z = true) (hr0 : ∀ d ∈ jdkStatics_1, d.before a0 Z = true) (ws : List Jvm.Cond) (p1 : Int32)  (h0 : Heap) (n0 : Nat) (Z0 : n0 ≤ h0.size)  :
    MetFree l (⟨"com/example/wirebind/wirebind/PercentEncodingIsPercentTripletPinLaw", "hex", "(C)Z"⟩ : MethodName) (head1 (Jvm.Cond.code (⟨"com/example/wirebind/wirebind/PercentEncodingIsPercentTripletPinLaw", "hex", "(C)Z"⟩ : MethodName) method_3_code 3 (some .boolean) :: ws) ({ frames := 0, cells := 0, slots := 0, locals := 0 } : Room)) (fun a U => a = #[(.int p1)] ∧ Z.Warmed39 U.vm ∧ U.heap = h0) (fun _ _ _ _ _ => True) (fun _ U o U' => ∃ v L, o = .returned v ∧ QCF (own_hex p1) h0 n0 v U'.heap L ∧ FrameEnd U o U' L ({ frames := 0, cells := 0, slots := 0, locals := 0 } : Room).cells ({ frames := 0, cells := 0, slots := 0, locals := 0 } : Room).slots) := by
  refine MetFree.of_bodySF (plainFor_of_name pn_5) hisR ?_
  intro p e s m args below meth c s₁ Bd hml0 hP hK
  obtain ⟨rfl, hZ, hh⟩ := hP
  have hx := Bd.exec
  have hby := Bd.bytes
  have hml : c.maxLocals = 3 := hml0
  have hown : s.vm.findClass "com/example/wirebind/wirebind/PercentEncodingIsPercentTripletPinLaw" = some m.cls := findClass_of_methodNamed Bd.named
  have hnm := (name_of_methodNamed Bd.named Bd.method).1
  have X0 : Stand p l e ({ frames := 0, cells := 0, slots := 0, locals := 0 } : Room) s m #[(.int p1)] below meth c s₁ [] 0 0 := Stand.of_body Bd
  have e0 : s₁.heap = h0 := by rw [← hh, Bd.state]; rfl
  have N0 := Fr.nil n0
  obtain ⟨G, hG, pr0⟩ : ∃ G : State → Prop, (∀ t, G t → Steps p.tables e below (s₁.setTop (entryFrame m #[(.int p1)] 3)) t) ∧ (∀ t, Steps p.tables e below (s₁.setTop (mkF m 0 #[.val (.int p1), .unset, .unset] [])) t → G t) := ⟨_, fun _ k => k, fun t ks => castTop (ef_rmHX m p1) ks⟩
  have pr205 : ∀ t, Steps p.tables e below (s₁.setTop (mkF m 6 #[.val (.int p1), .val (.int (p1 - (48 : Int32))), .unset] [(.int (p1 - (48 : Int32)))])) t → G t := fun t ks => pr0 t (by
      refine XS.iloadN X0.here hx rfl (hb hby d7_0) rfl ?_
      refine XS.bipush X0.here hx rfl (hb hby d7_1) ?_
      refine XS.isub X0.here hx rfl (hb hby d7_3) rfl ?_
      refine XS.istoreN X0.here hx rfl (hb hby d7_4) rfl (l' := #[.val (.int p1), .val (.int (p1 - (48 : Int32))), .unset]) rfl ?_
      refine XS.iloadN X0.here hx rfl (hb hby d7_5) rfl ?_
      exact ks)
  by_cases c1 : (p1 - (48 : Int32)) < (0 : Int32)
  · have pr206 : ∀ t, Steps p.tables e below (s₁.setTop (mkF m 25 #[.val (.int p1), .val (.int (p1 - (48 : Int32))), .val (.int (p1 ||| (32 : Int32)))] [(.int (97 : Int32)), (.int (p1 ||| (32 : Int32)))])) t → G t := fun t ks => pr205 t (by
        refine XS.ifYes X0.here hx rfl (pc0 := 6) (pc' := 17) rfl (hb hby d7_6) rfl ((if0 _ _).trans (tlt c1).1) (by decide) (by decide) ?_
        refine XS.iloadN X0.here hx rfl (hb hby d7_17) rfl ?_
        refine XS.bipush X0.here hx rfl (hb hby d7_18) ?_
        refine XS.ior X0.here hx rfl (hb hby d7_20) rfl ?_
        refine XS.istoreN X0.here hx rfl (hb hby d7_21) rfl (l' := #[.val (.int p1), .val (.int (p1 - (48 : Int32))), .val (.int (p1 ||| (32 : Int32)))]) rfl ?_
        refine XS.iloadN X0.here hx rfl (hb hby d7_22) rfl ?_
        refine XS.bipush X0.here hx rfl (hb hby d7_23) ?_
        exact ks)
    obtain ⟨re, hre⟩ : ∃ z : Int32, z = (if (p1 ||| (32 : Int32)) < (97 : Int32) then (0 : Int32) else (if (102 : Int32) < (p1 ||| (32 : Int32)) then (0 : Int32) else (1 : Int32))) := ⟨_, rfl⟩
    have pr209 : ∀ t, Steps p.tables e below (s₁.setTop (mkF m 39 #[.val (.int p1), .val (.int (p1 - (48 : Int32))), .val (.int (p1 ||| (32 : Int32)))] [(.int re)])) t → G t := by
      intro t ks
      refine pr206 t ?_
      by_cases c207 : (p1 ||| (32 : Int32)) < (97 : Int32)
      · refine XS.icmpYes X0.here hx rfl (pc0 := 25) (pc' := 38) rfl (hb hby d7_25) rfl (tlt c207).1 (by decide) (by decide) ?_
        refine XS.iconst X0.here hx rfl (hb hby d7_38) ?_
        have ere : re = (0 : Int32) := by rw [hre, if_pos c207]
        rw [ere] at ks
        exact ks
      · refine XS.icmpNo X0.here hx rfl (hb hby d7_25) rfl (flt c207).1 ?_
        refine XS.iloadN X0.here hx rfl (hb hby d7_28) rfl ?_
        refine XS.bipush X0.here hx rfl (hb hby d7_29) ?_
        by_cases c208 : (102 : Int32) < (p1 ||| (32 : Int32))
        · refine XS.icmpYes X0.here hx rfl (pc0 := 31) (pc' := 38) rfl (hb hby d7_31) rfl (tlt c208).2.2.1 (by decide) (by decide) ?_
          refine XS.iconst X0.here hx rfl (hb hby d7_38) ?_
          have ere : re = (0 : Int32) := by rw [hre, if_neg c207, if_pos c208]
          rw [ere] at ks
          exact ks
        · refine XS.icmpNo X0.here hx rfl (hb hby d7_31) rfl (flt c208).2.2.1 ?_
          refine XS.iconst X0.here hx rfl (hb hby d7_34) ?_
          refine XS.goto X0.here hx rfl (pc0 := 35) (pc' := 39) rfl (hb hby d7_35) (by decide) (by decide) ?_
          have ere : re = (1 : Int32) := by rw [hre, if_neg c207, if_neg c208]
          rw [ere] at ks
          exact ks
    have hre2 : re = own_hex p1 := by rw [own_hex, if_pos c1, hre]
    obtain ⟨fs, hr, hrun, hended, hW, hsame⟩ := X0.leave (v := some (.int (own_hex p1))) (fun h => by rw [Bd.returns] at h; cases h)
    refine ⟨_, _, hG _ (pr209 _ ?_), hrun, hended, _, _, rfl, ?_, ⟨_, rfl⟩, hW, hsame.mono (by decide) (by decide)⟩
    · exact retN X0 hx (t := .boolean) Bd.returns (by simp) (hb hby d7_39) (by rw [show nar .boolean re = (own_hex p1) from ((own_nz (hre ▸ (own_ite01 (Or.inl rfl) (own_ite01 (Or.inl rfl) (Or.inr rfl))))).trans hre2)]; exact hr)
    · show QCF (own_hex p1) h0 n0 _ s₁.heap _
      rw [e0]
      exact ⟨rfl, N0, rfl⟩
  · have pr210 : ∀ t, Steps p.tables e below (s₁.setTop (mkF m 12 #[.val (.int p1), .val (.int (p1 - (48 : Int32))), .unset] [(.int (9 : Int32)), (.int (p1 - (48 : Int32)))])) t → G t := fun t ks => pr205 t (by
        refine XS.ifNo X0.here hx rfl (hb hby d7_6) rfl ((if0 _ _).trans (flt c1).1) ?_
        refine XS.iloadN X0.here hx rfl (hb hby d7_9) rfl ?_
        refine XS.bipush X0.here hx rfl (hb hby d7_10) ?_
        exact ks)
    by_cases c2 : (9 : Int32) < (p1 - (48 : Int32))
    · have pr211 : ∀ t, Steps p.tables e below (s₁.setTop (mkF m 25 #[.val (.int p1), .val (.int (p1 - (48 : Int32))), .val (.int (p1 ||| (32 : Int32)))] [(.int (97 : Int32)), (.int (p1 ||| (32 : Int32)))])) t → G t := fun t ks => pr210 t (by
          refine XS.icmpYes X0.here hx rfl (pc0 := 12) (pc' := 17) rfl (hb hby d7_12) rfl (tlt c2).2.2.1 (by decide) (by decide) ?_
          refine XS.iloadN X0.here hx rfl (hb hby d7_17) rfl ?_
          refine XS.bipush X0.here hx rfl (hb hby d7_18) ?_
          refine XS.ior X0.here hx rfl (hb hby d7_20) rfl ?_
          refine XS.istoreN X0.here hx rfl (hb hby d7_21) rfl (l' := #[.val (.int p1), .val (.int (p1 - (48 : Int32))), .val (.int (p1 ||| (32 : Int32)))]) rfl ?_
          refine XS.iloadN X0.here hx rfl (hb hby d7_22) rfl ?_
          refine XS.bipush X0.here hx rfl (hb hby d7_23) ?_
          exact ks)
      obtain ⟨re, hre⟩ : ∃ z : Int32, z = (if (p1 ||| (32 : Int32)) < (97 : Int32) then (0 : Int32) else (if (102 : Int32) < (p1 ||| (32 : Int32)) then (0 : Int32) else (1 : Int32))) := ⟨_, rfl⟩
      have pr214 : ∀ t, Steps p.tables e below (s₁.setTop (mkF m 39 #[.val (.int p1), .val (.int (p1 - (48 : Int32))), .val (.int (p1 ||| (32 : Int32)))] [(.int re)])) t → G t := by
        intro t ks
        refine pr211 t ?_
        by_cases c212 : (p1 ||| (32 : Int32)) < (97 : Int32)
        · refine XS.icmpYes X0.here hx rfl (pc0 := 25) (pc' := 38) rfl (hb hby d7_25) rfl (tlt c212).1 (by decide) (by decide) ?_
          refine XS.iconst X0.here hx rfl (hb hby d7_38) ?_
          have ere : re = (0 : Int32) := by rw [hre, if_pos c212]
          rw [ere] at ks
          exact ks
        · refine XS.icmpNo X0.here hx rfl (hb hby d7_25) rfl (flt c212).1 ?_
          refine XS.iloadN X0.here hx rfl (hb hby d7_28) rfl ?_
          refine XS.bipush X0.here hx rfl (hb hby d7_29) ?_
          by_cases c213 : (102 : Int32) < (p1 ||| (32 : Int32))
          · refine XS.icmpYes X0.here hx rfl (pc0 := 31) (pc' := 38) rfl (hb hby d7_31) rfl (tlt c213).2.2.1 (by decide) (by decide) ?_
            refine XS.iconst X0.here hx rfl (hb hby d7_38) ?_
            have ere : re = (0 : Int32) := by rw [hre, if_neg c212, if_pos c213]
            rw [ere] at ks
            exact ks
          · refine XS.icmpNo X0.here hx rfl (hb hby d7_31) rfl (flt c213).2.2.1 ?_
            refine XS.iconst X0.here hx rfl (hb hby d7_34) ?_
            refine XS.goto X0.here hx rfl (pc0 := 35) (pc' := 39) rfl (hb hby d7_35) (by decide) (by decide) ?_
            have ere : re = (1 : Int32) := by rw [hre, if_neg c212, if_neg c213]
            rw [ere] at ks
            exact ks
      have hre2 : re = own_hex p1 := by rw [own_hex, if_neg c1, if_pos c2, hre]
      obtain ⟨fs, hr, hrun, hended, hW, hsame⟩ := X0.leave (v := some (.int (own_hex p1))) (fun h => by rw [Bd.returns] at h; cases h)
      refine ⟨_, _, hG _ (pr214 _ ?_), hrun, hended, _, _, rfl, ?_, ⟨_, rfl⟩, hW, hsame.mono (by decide) (by decide)⟩
      · exact retN X0 hx (t := .boolean) Bd.returns (by simp) (hb hby d7_39) (by rw [show nar .boolean re = (own_hex p1) from ((own_nz (hre ▸ (own_ite01 (Or.inl rfl) (own_ite01 (Or.inl rfl) (Or.inr rfl))))).trans hre2)]; exact hr)
      · show QCF (own_hex p1) h0 n0 _ s₁.heap _
        rw [e0]
        exact ⟨rfl, N0, rfl⟩
    · have pr215 : ∀ t, Steps p.tables e below (s₁.setTop (mkF m 16 #[.val (.int p1), .val (.int (p1 - (48 : Int32))), .unset] [(.int (1 : Int32))])) t → G t := fun t ks => pr210 t (by
          refine XS.icmpNo X0.here hx rfl (hb hby d7_12) rfl (flt c2).2.2.1 ?_
          refine XS.iconst X0.here hx rfl (hb hby d7_15) ?_
          exact ks)
      obtain ⟨fs, hr, hrun, hended, hW, hsame⟩ := X0.leave (v := some (.int (own_hex p1))) (fun h => by rw [Bd.returns] at h; cases h)
      refine ⟨_, _, hG _ (pr215 _ ?_), hrun, hended, _, _, rfl, ?_, ⟨_, rfl⟩, hW, hsame.mono (by decide) (by decide)⟩
      · exact retN X0 hx (t := .boolean) Bd.returns (by simp) (hb hby d7_16) (by rw [show nar .boolean (1 : Int32) = (own_hex p1) from (show nar .boolean (1 : Int32) = own_hex p1 by rw [own_hex, if_neg c1, if_neg c2]; rfl)]; exact hr)
      · show QCF (own_hex p1) h0 n0 _ s₁.heap _
        rw [e0]
        exact ⟨rfl, N0, rfl⟩
theorem ef_rmT0 (m : MethodId) (x0 : Addr) (x1 : Int32) : entryFrame m #[(.ref x0), (.int x1)] 2 = mkF m 0 #[.val (.ref x0), .val (.int x1)] [] := by first | (simp [entryFrame, mkF, argsToLocals, Value.category]; done) | rfl
set_option maxRecDepth 65536 in
set_option maxHeartbeats 40000000 in
theorem rmT0 (l : Launch) (Z : State) (a0 : Array Value) (hw : ∀ d ∈ tables_1, d.before a0 Z = true) (hr0 : ∀ d ∈ jdkStatics_1, d.before a0 Z = true) (ws : List Jvm.Cond) (a1 : Addr) (p2 : Int32) (b : Addr) (k : Int32) (vs : List Int32) (fv : Value) (cs : Int32) (i : Nat) (h0 : Heap) (n0 : Nat) (Z0 : n0 ≤ h0.size) (hS : STR Z h0 a1 b k vs) (J_ : JS Z n0 h0 fv cs) (e2 : p2 = Int32.ofNat i) (hk : (k = 0 ∧ vs.length = 5) ∨ (k = 1 ∧ vs.length = 10)) (hi : 3 ≤ i) (hi5 : i < 5) :
    MetFree l (⟨"com/example/wirebind/wirebind/PercentEncoding", "isPercentTriplet", "(Ljava/lang/String;I)Z"⟩ : MethodName) (head1 (Jvm.Cond.code (⟨"com/example/wirebind/wirebind/PercentEncoding", "isPercentTriplet", "(Ljava/lang/String;I)Z"⟩ : MethodName) prog_49_method_8_code 2 (some .boolean) :: ws) ({ frames := 2, cells := 0, slots := 0, locals := 26 } : Room)) (fun a U => a = #[(.ref a1), (.int p2)] ∧ Z.Warmed39 U.vm ∧ U.heap = h0) (fun _ _ _ _ _ => True) (fun _ U o U' => ∃ v L, o = .returned v ∧ QCF 0 h0 n0 v U'.heap L ∧ FrameEnd U o U' L ({ frames := 2, cells := 0, slots := 0, locals := 26 } : Room).cells ({ frames := 2, cells := 0, slots := 0, locals := 26 } : Room).slots) := by
  refine MetFree.of_bodySF (plainFor_of_name pn_4) hisR ?_
  intro p e s m args below meth c s₁ Bd hml0 hP hK
  obtain ⟨rfl, hZ, hh⟩ := hP
  have hx := Bd.exec
  have hby := Bd.bytes
  have hml : c.maxLocals = 2 := hml0
  have hown : s.vm.findClass "com/example/wirebind/wirebind/PercentEncoding" = some m.cls := findClass_of_methodNamed Bd.named
  have hnm := (name_of_methodNamed Bd.named Bd.method).1
  have X0 : Stand p l e ({ frames := 2, cells := 0, slots := 0, locals := 26 } : Room) s m #[(.ref a1), (.int p2)] below meth c s₁ [] 0 0 := Stand.of_body Bd
  have e0 : s₁.heap = h0 := by rw [← hh, Bd.state]; rfl
  have N0 := Fr.nil n0
  obtain ⟨G, hG, pr0⟩ : ∃ G : State → Prop, (∀ t, G t → Steps p.tables e below (s₁.setTop (entryFrame m #[(.ref a1), (.int p2)] 2)) t) ∧ (∀ t, Steps p.tables e below (s₁.setTop (mkF m 0 #[.val (.ref a1), .val (.int p2)] [])) t → G t) := ⟨_, fun _ k => k, fun t ks => castTop (ef_rmT0 m a1 p2) ks⟩
  have hS0 := hS
  obtain ⟨E_a1, F_a1_value, F_a1_coder, V_b⟩ := hS
  have pr216 : ∀ t, Steps p.tables e below (s₁.setTop (mkF m 4 #[.val (.ref a1), .val (.int p2)] [(.ref a1), (.int (p2 + (2 : Int32)))])) t → G t := fun t ks => pr0 t (by
      refine XS.iloadN X0.here hx rfl (hb hby d8_0) rfl ?_
      refine XS.iconst X0.here hx rfl (hb hby d8_1) ?_
      refine XS.iadd X0.here hx rfl (hb hby d8_2) rfl ?_
      refine XS.aloadN X0.here hx rfl (hb hby d8_3) rfl rfl ?_
      exact ks)
  obtain ⟨cq217, kq217, q217a, q217b, q217c⟩ := isOf hZ e0 E_a1
  obtain ⟨_, _, ⟨T217, L217, k217, n217⟩, -, X217, hP217, st217⟩ := X0.virtualBack hx (y := (⟨"java/lang/String", "length", "()I"⟩ : MethodName)) (z := (⟨"java/lang/String", "length", "()I"⟩ : MethodName)) hown (mvT hZ (hw _ (List.mem_of_getElem? (i := 40) rfl))) (mvT hZ (hw _ (List.mem_of_getElem? (i := 41) rfl))) (notFace_of_selects (args := #[]) (mvT hZ (hw _ (List.mem_of_getElem? (i := 43) rfl)))) (mvT hZ (hw _ (List.mem_of_getElem? (i := 43) rfl))) (mvT hZ (hw _ (List.mem_of_getElem? (i := 42) rfl))) (by decide) (backOf (W := 1) (rmLN l Z a0 hw hr0 [] a1 b k vs fv cs h0 n0 Z0 hS0 J_ hk) hZ (hw _ (List.mem_of_getElem? (i := 44) rfl)) (hw _ (List.mem_of_getElem? (i := 5) rfl)) (by decide) (by decide)) q217a q217c (g := (mkF m 4 #[.val (.ref a1), .val (.int p2)] [(.ref a1), (.int (p2 + (2 : Int32)))])) rfl (by rw [hml]; rfl) (Steps.refl _) (argsL := []) (rest := [(.int (p2 + (2 : Int32)))]) (lenOf pd_14 rfl) rfl (by show 2 * 0 + _ ≤ _; exact Nat.le_of_eq rfl) (hb hby d8_4) (fun _ _ => ⟨rfl, e0, (by decide : 0 + 0 ≤ _), (by decide : 0 + 0 ≤ _)⟩)
  obtain ⟨Lc217, hQ217, X217⟩ := own_out hP217 X217
  clear hP217
  dsimp only [Pt.U, Pt.locs, Pt.cells, Pt.slots] at X217 st217 hQ217
  obtain ⟨rfl, Nq217, eh217⟩ := hQ217
  have N217 := Fr.app N0 Nq217
  have pr218 : ∀ t, Steps p.tables e below (T217.setTop (mkF m 7 #[.val (.ref a1), .val (.int p2)] [(.int (5 : Int32)), (.int (p2 + (2 : Int32)))])) t → G t := fun t ks => pr216 t (st217.trans ks)
  have pr219 : ∀ t, Steps p.tables e below (T217.setTop (mkF m 41 #[.val (.ref a1), .val (.int p2)] [(.int (0 : Int32))])) t → G t := fun t ks => pr218 t (by
      refine XS.icmpYes X217.here hx rfl (pc0 := 7) (pc' := 40) rfl (hb hby d8_7) rfl (flt (by rw [e2]; exact own_ge5 hi hi5)).2.1 (by decide) (by decide) ?_
      refine XS.iconst X217.here hx rfl (hb hby d8_40) ?_
      exact ks)
  obtain ⟨fs, hr, hrun, hended, hW, hsame⟩ := X217.leave (v := some (.int 0)) (fun h => by rw [Bd.returns] at h; cases h)
  refine ⟨_, _, hG _ (pr219 _ ?_), hrun, hended, _, _, rfl, ?_, ⟨_, rfl⟩, hW, hsame.mono (by decide) (by decide)⟩
  · exact retN X217 hx (t := .boolean) Bd.returns (by simp) (hb hby d8_41) (by rw [show nar .boolean (0 : Int32) = 0 from rfl]; exact hr)
  · show QCF 0 h0 n0 _ T217.heap _
    rw [eh217]
    exact ⟨rfl, N217, rfl⟩
def own_tri (c1 c2 : Int32) : Int32 := if own_hexd c1 = (0 : Int32) then 0 else if own_hexd c2 = (0 : Int32) then 0 else 1
theorem ef_rmT1 (m : MethodId) (x0 : Addr) (x1 : Int32) : entryFrame m #[(.ref x0), (.int x1)] 2 = mkF m 0 #[.val (.ref x0), .val (.int x1)] [] := by first | (simp [entryFrame, mkF, argsToLocals, Value.category]; done) | rfl
set_option maxRecDepth 65536 in
set_option maxHeartbeats 40000000 in
theorem rmT1 (l : Launch) (Z : State) (a0 : Array Value) (hw : ∀ d ∈ tables_1, d.before a0 Z = true) (hr0 : ∀ d ∈ jdkStatics_1, d.before a0 Z = true) (ws : List Jvm.Cond) (a1 : Addr) (p2 : Int32) (b : Addr) (k : Int32) (vs : List Int32) (fv : Value) (cs : Int32) (i : Nat) (c1 c2 : Int32) (h0 : Heap) (n0 : Nat) (Z0 : n0 ≤ h0.size) (hS : STR Z h0 a1 b k vs) (J_ : JS Z n0 h0 fv cs) (e2 : p2 = Int32.ofNat i) (hk : (k = 0 ∧ vs.length = 5) ∨ (k = 1 ∧ vs.length = 10)) (hi : i < 3) (hc01 : k = 0 → own_lc (vs.getD (i + 1) 0) = c1) (hc11 : k = 1 → own_gc (vs.getD (2 * (i + 1)) 0) (vs.getD (2 * (i + 1) + 1) 0) = c1) (hc02 : k = 0 → own_lc (vs.getD (i + 2) 0) = c2) (hc12 : k = 1 → own_gc (vs.getD (2 * (i + 2)) 0) (vs.getD (2 * (i + 2) + 1) 0) = c2) :
    MetFree l (⟨"com/example/wirebind/wirebind/PercentEncoding", "isPercentTriplet", "(Ljava/lang/String;I)Z"⟩ : MethodName) (head1 (Jvm.Cond.code (⟨"com/example/wirebind/wirebind/PercentEncoding", "isPercentTriplet", "(Ljava/lang/String;I)Z"⟩ : MethodName) prog_49_method_8_code 2 (some .boolean) :: ws) ({ frames := 5, cells := 0, slots := 0, locals := 66 } : Room)) (fun a U => a = #[(.ref a1), (.int p2)] ∧ Z.Warmed39 U.vm ∧ U.heap = h0) (fun _ _ _ _ _ => True) (fun _ U o U' => ∃ v L, o = .returned v ∧ QCF (own_tri c1 c2) h0 n0 v U'.heap L ∧ FrameEnd U o U' L ({ frames := 5, cells := 0, slots := 0, locals := 66 } : Room).cells ({ frames := 5, cells := 0, slots := 0, locals := 66 } : Room).slots) := by
  refine MetFree.of_bodySF (plainFor_of_name pn_4) hisR ?_
  intro p e s m args below meth c s₁ Bd hml0 hP hK
  obtain ⟨rfl, hZ, hh⟩ := hP
  have hx := Bd.exec
  have hby := Bd.bytes
  have hml : c.maxLocals = 2 := hml0
  have hown : s.vm.findClass "com/example/wirebind/wirebind/PercentEncoding" = some m.cls := findClass_of_methodNamed Bd.named
  have hnm := (name_of_methodNamed Bd.named Bd.method).1
  have X0 : Stand p l e ({ frames := 5, cells := 0, slots := 0, locals := 66 } : Room) s m #[(.ref a1), (.int p2)] below meth c s₁ [] 0 0 := Stand.of_body Bd
  have e0 : s₁.heap = h0 := by rw [← hh, Bd.state]; rfl
  have N0 := Fr.nil n0
  obtain ⟨G, hG, pr0⟩ : ∃ G : State → Prop, (∀ t, G t → Steps p.tables e below (s₁.setTop (entryFrame m #[(.ref a1), (.int p2)] 2)) t) ∧ (∀ t, Steps p.tables e below (s₁.setTop (mkF m 0 #[.val (.ref a1), .val (.int p2)] [])) t → G t) := ⟨_, fun _ k => k, fun t ks => castTop (ef_rmT1 m a1 p2) ks⟩
  have hS0 := hS
  obtain ⟨E_a1, F_a1_value, F_a1_coder, V_b⟩ := hS
  have pr220 : ∀ t, Steps p.tables e below (s₁.setTop (mkF m 4 #[.val (.ref a1), .val (.int p2)] [(.ref a1), (.int (p2 + (2 : Int32)))])) t → G t := fun t ks => pr0 t (by
      refine XS.iloadN X0.here hx rfl (hb hby d8_0) rfl ?_
      refine XS.iconst X0.here hx rfl (hb hby d8_1) ?_
      refine XS.iadd X0.here hx rfl (hb hby d8_2) rfl ?_
      refine XS.aloadN X0.here hx rfl (hb hby d8_3) rfl rfl ?_
      exact ks)
  obtain ⟨cq221, kq221, q221a, q221b, q221c⟩ := isOf hZ e0 E_a1
  obtain ⟨_, _, ⟨T221, L221, k221, n221⟩, -, X221, hP221, st221⟩ := X0.virtualBack hx (y := (⟨"java/lang/String", "length", "()I"⟩ : MethodName)) (z := (⟨"java/lang/String", "length", "()I"⟩ : MethodName)) hown (mvT hZ (hw _ (List.mem_of_getElem? (i := 40) rfl))) (mvT hZ (hw _ (List.mem_of_getElem? (i := 41) rfl))) (notFace_of_selects (args := #[]) (mvT hZ (hw _ (List.mem_of_getElem? (i := 43) rfl)))) (mvT hZ (hw _ (List.mem_of_getElem? (i := 43) rfl))) (mvT hZ (hw _ (List.mem_of_getElem? (i := 42) rfl))) (by decide) (backOf (W := 1) (rmLN l Z a0 hw hr0 [] a1 b k vs fv cs h0 n0 Z0 hS0 J_ hk) hZ (hw _ (List.mem_of_getElem? (i := 44) rfl)) (hw _ (List.mem_of_getElem? (i := 5) rfl)) (by decide) (by decide)) q221a q221c (g := (mkF m 4 #[.val (.ref a1), .val (.int p2)] [(.ref a1), (.int (p2 + (2 : Int32)))])) rfl (by rw [hml]; rfl) (Steps.refl _) (argsL := []) (rest := [(.int (p2 + (2 : Int32)))]) (lenOf pd_14 rfl) rfl (by show 2 * 0 + _ ≤ _; exact Nat.le_of_eq rfl) (hb hby d8_4) (fun _ _ => ⟨rfl, e0, (by decide : 0 + 0 ≤ _), (by decide : 0 + 0 ≤ _)⟩)
  obtain ⟨Lc221, hQ221, X221⟩ := own_out hP221 X221
  clear hP221
  dsimp only [Pt.U, Pt.locs, Pt.cells, Pt.slots] at X221 st221 hQ221
  obtain ⟨rfl, Nq221, eh221⟩ := hQ221
  have N221 := Fr.app N0 Nq221
  have pr222 : ∀ t, Steps p.tables e below (T221.setTop (mkF m 7 #[.val (.ref a1), .val (.int p2)] [(.int (5 : Int32)), (.int (p2 + (2 : Int32)))])) t → G t := fun t ks => pr220 t (st221.trans ks)
  have pr223 : ∀ t, Steps p.tables e below (T221.setTop (mkF m 14 #[.val (.ref a1), .val (.int p2)] [(.int (p2 + (1 : Int32))), (.ref a1)])) t → G t := fun t ks => pr222 t (by
      refine XS.icmpNo X221.here hx rfl (hb hby d8_7) rfl (tlt (by rw [e2]; exact own_lt5 hi)).2.1 ?_
      refine XS.aloadN X221.here hx rfl (hb hby d8_10) rfl rfl ?_
      refine XS.iloadN X221.here hx rfl (hb hby d8_11) rfl ?_
      refine XS.iconst X221.here hx rfl (hb hby d8_12) ?_
      refine XS.iadd X221.here hx rfl (hb hby d8_13) rfl ?_
      exact ks)
  obtain ⟨cq224, kq224, q224a, q224b, q224c⟩ := isOf hZ eh221 E_a1
  obtain ⟨_, _, ⟨T224, L224, k224, n224⟩, -, X224, hP224, st224⟩ := X221.virtualBack hx (y := (⟨"java/lang/String", "charAt", "(I)C"⟩ : MethodName)) (z := (⟨"java/lang/String", "charAt", "(I)C"⟩ : MethodName)) hown (mvT hZ (hw _ (List.mem_of_getElem? (i := 50) rfl))) (mvT hZ (hw _ (List.mem_of_getElem? (i := 51) rfl))) (notFace_of_selects (args := #[]) (mvT hZ (hw _ (List.mem_of_getElem? (i := 53) rfl)))) (mvT hZ (hw _ (List.mem_of_getElem? (i := 53) rfl))) (mvT hZ (hw _ (List.mem_of_getElem? (i := 52) rfl))) (by decide) (backOf (W := 0) (rmCH l Z a0 hw hr0 [] a1 (p2 + (1 : Int32)) b k vs fv cs (i + 1) c1 h0 n0 Z0 hS0 J_ (by rw [e2]; exact (Int32.ofNat_add i 1).symm) (by omega) hk hc01 hc11) hZ (hw _ (List.mem_of_getElem? (i := 54) rfl)) (hw _ (List.mem_of_getElem? (i := 5) rfl)) (by decide) (by decide)) q224a q224c (g := (mkF m 14 #[.val (.ref a1), .val (.int p2)] [(.int (p2 + (1 : Int32))), (.ref a1)])) rfl (by rw [hml]; rfl) (Steps.refl _) (argsL := [(.int (p2 + (1 : Int32)))]) (rest := []) (lenOf pd_15 rfl) rfl (by show 2 * 0 + _ ≤ _; exact Nat.le_of_eq rfl) (hb hby d8_14) (fun _ _ => ⟨rfl, eh221, (by decide : 0 + 0 ≤ _), (by decide : 0 + 0 ≤ _)⟩)
  obtain ⟨Lc224, hQ224, X224⟩ := own_out hP224 X224
  clear hP224
  dsimp only [Pt.U, Pt.locs, Pt.cells, Pt.slots] at X224 st224 hQ224
  obtain ⟨rfl, Nq224, eh224⟩ := hQ224
  have N224 := Fr.app N221 Nq224
  have pr225 : ∀ t, Steps p.tables e below (T224.setTop (mkF m 17 #[.val (.ref a1), .val (.int p2)] [(.int c1)])) t → G t := fun t ks => pr223 t (st224.trans ks)
  obtain ⟨_, _, ⟨T226, L226, k226, n226⟩, -, X226, hP226, st226⟩ := Jvm.LawKit.callS X224 hx (y := (⟨"com/example/wirebind/wirebind/PercentEncoding", "isHexDigit", "(C)Z"⟩ : MethodName)) hown (mvT hZ (hw _ (List.mem_of_getElem? (i := 72) rfl))) (mvT hZ (hw _ (List.mem_of_getElem? (i := 73) rfl))) (mvT hZ (hw _ (List.mem_of_getElem? (i := 38) rfl))) (mvT hZ (hw _ (List.mem_of_getElem? (i := 74) rfl))) (by decide) (backOf (W := 0) (rmHD l Z a0 hw hr0 [] c1 h0 n0 Z0) hZ (hw _ (List.mem_of_getElem? (i := 74) rfl)) (hw _ (List.mem_of_getElem? (i := 38) rfl)) (by decide) (by decide)) (g := (mkF m 17 #[.val (.ref a1), .val (.int p2)] [(.int c1)])) rfl (by rw [hml]; rfl) (argsL := [(.int c1)]) (rest := []) (lenOf pd_16 rfl) rfl (by show 2 * 0 + _ ≤ _; exact Nat.le_of_eq rfl) (hb hby d8_17) (fun _ _ => ⟨rfl, eh224, (by decide : 0 + 0 ≤ _), (by decide : 0 + 0 ≤ _)⟩)
  obtain ⟨Lc226, hQ226, X226⟩ := own_out hP226 X226
  clear hP226
  dsimp only [Pt.U, Pt.locs, Pt.cells, Pt.slots] at X226 st226 hQ226
  obtain ⟨rfl, Nq226, eh226⟩ := hQ226
  have N226 := Fr.app N224 Nq226
  have pr227 : ∀ t, Steps p.tables e below (T226.setTop (mkF m 20 #[.val (.ref a1), .val (.int p2)] [(.int (own_hexd c1))])) t → G t := fun t ks => pr225 t (st226 t ks)
  by_cases d1 : (own_hexd c1) = (0 : Int32)
  · have pr228 : ∀ t, Steps p.tables e below (T226.setTop (mkF m 41 #[.val (.ref a1), .val (.int p2)] [(.int (0 : Int32))])) t → G t := fun t ks => pr227 t (by
        refine XS.ifYes X226.here hx rfl (pc0 := 20) (pc' := 40) rfl (hb hby d8_20) rfl ((if0 _ _).trans (teq d1).1) (by decide) (by decide) ?_
        refine XS.iconst X226.here hx rfl (hb hby d8_40) ?_
        exact ks)
    obtain ⟨fs, hr, hrun, hended, hW, hsame⟩ := X226.leave (v := some (.int (own_tri c1 c2))) (fun h => by rw [Bd.returns] at h; cases h)
    refine ⟨_, _, hG _ (pr228 _ ?_), hrun, hended, _, _, rfl, ?_, ⟨_, rfl⟩, hW, hsame.mono (by decide) (by decide)⟩
    · exact retN X226 hx (t := .boolean) Bd.returns (by simp) (hb hby d8_41) (by rw [show nar .boolean (0 : Int32) = (own_tri c1 c2) from (show nar .boolean (0 : Int32) = own_tri c1 c2 by rw [own_tri, if_pos d1]; rfl)]; exact hr)
    · show QCF (own_tri c1 c2) h0 n0 _ T226.heap _
      rw [eh226]
      exact ⟨rfl, N226, rfl⟩
  · have pr229 : ∀ t, Steps p.tables e below (T226.setTop (mkF m 27 #[.val (.ref a1), .val (.int p2)] [(.int (p2 + (2 : Int32))), (.ref a1)])) t → G t := fun t ks => pr227 t (by
        refine XS.ifNo X226.here hx rfl (hb hby d8_20) rfl ((if0 _ _).trans (feq d1).1) ?_
        refine XS.aloadN X226.here hx rfl (hb hby d8_23) rfl rfl ?_
        refine XS.iloadN X226.here hx rfl (hb hby d8_24) rfl ?_
        refine XS.iconst X226.here hx rfl (hb hby d8_25) ?_
        refine XS.iadd X226.here hx rfl (hb hby d8_26) rfl ?_
        exact ks)
    obtain ⟨cq230, kq230, q230a, q230b, q230c⟩ := isOf hZ eh226 E_a1
    obtain ⟨_, _, ⟨T230, L230, k230, n230⟩, -, X230, hP230, st230⟩ := X226.virtualBack hx (y := (⟨"java/lang/String", "charAt", "(I)C"⟩ : MethodName)) (z := (⟨"java/lang/String", "charAt", "(I)C"⟩ : MethodName)) hown (mvT hZ (hw _ (List.mem_of_getElem? (i := 50) rfl))) (mvT hZ (hw _ (List.mem_of_getElem? (i := 51) rfl))) (notFace_of_selects (args := #[]) (mvT hZ (hw _ (List.mem_of_getElem? (i := 53) rfl)))) (mvT hZ (hw _ (List.mem_of_getElem? (i := 53) rfl))) (mvT hZ (hw _ (List.mem_of_getElem? (i := 52) rfl))) (by decide) (backOf (W := 0) (rmCH l Z a0 hw hr0 [] a1 (p2 + (2 : Int32)) b k vs fv cs (i + 2) c2 h0 n0 Z0 hS0 J_ (by rw [e2]; exact (Int32.ofNat_add i 2).symm) (by omega) hk hc02 hc12) hZ (hw _ (List.mem_of_getElem? (i := 54) rfl)) (hw _ (List.mem_of_getElem? (i := 5) rfl)) (by decide) (by decide)) q230a q230c (g := (mkF m 27 #[.val (.ref a1), .val (.int p2)] [(.int (p2 + (2 : Int32))), (.ref a1)])) rfl (by rw [hml]; rfl) (Steps.refl _) (argsL := [(.int (p2 + (2 : Int32)))]) (rest := []) (lenOf pd_15 rfl) rfl (by show 2 * 0 + _ ≤ _; exact Nat.le_of_eq rfl) (hb hby d8_27) (fun _ _ => ⟨rfl, eh226, (by decide : 0 + 0 ≤ _), (by decide : 0 + 0 ≤ _)⟩)
    obtain ⟨Lc230, hQ230, X230⟩ := own_out hP230 X230
    clear hP230
    dsimp only [Pt.U, Pt.locs, Pt.cells, Pt.slots] at X230 st230 hQ230
    obtain ⟨rfl, Nq230, eh230⟩ := hQ230
    have N230 := Fr.app N226 Nq230
    have pr231 : ∀ t, Steps p.tables e below (T230.setTop (mkF m 30 #[.val (.ref a1), .val (.int p2)] [(.int c2)])) t → G t := fun t ks => pr229 t (st230.trans ks)
    obtain ⟨_, _, ⟨T232, L232, k232, n232⟩, -, X232, hP232, st232⟩ := Jvm.LawKit.callS X230 hx (y := (⟨"com/example/wirebind/wirebind/PercentEncoding", "isHexDigit", "(C)Z"⟩ : MethodName)) hown (mvT hZ (hw _ (List.mem_of_getElem? (i := 72) rfl))) (mvT hZ (hw _ (List.mem_of_getElem? (i := 73) rfl))) (mvT hZ (hw _ (List.mem_of_getElem? (i := 38) rfl))) (mvT hZ (hw _ (List.mem_of_getElem? (i := 74) rfl))) (by decide) (backOf (W := 0) (rmHD l Z a0 hw hr0 [] c2 h0 n0 Z0) hZ (hw _ (List.mem_of_getElem? (i := 74) rfl)) (hw _ (List.mem_of_getElem? (i := 38) rfl)) (by decide) (by decide)) (g := (mkF m 30 #[.val (.ref a1), .val (.int p2)] [(.int c2)])) rfl (by rw [hml]; rfl) (argsL := [(.int c2)]) (rest := []) (lenOf pd_16 rfl) rfl (by show 2 * 0 + _ ≤ _; exact Nat.le_of_eq rfl) (hb hby d8_30) (fun _ _ => ⟨rfl, eh230, (by decide : 0 + 0 ≤ _), (by decide : 0 + 0 ≤ _)⟩)
    obtain ⟨Lc232, hQ232, X232⟩ := own_out hP232 X232
    clear hP232
    dsimp only [Pt.U, Pt.locs, Pt.cells, Pt.slots] at X232 st232 hQ232
    obtain ⟨rfl, Nq232, eh232⟩ := hQ232
    have N232 := Fr.app N230 Nq232
    have pr233 : ∀ t, Steps p.tables e below (T232.setTop (mkF m 33 #[.val (.ref a1), .val (.int p2)] [(.int (own_hexd c2))])) t → G t := fun t ks => pr231 t (st232 t ks)
    by_cases d2 : (own_hexd c2) = (0 : Int32)
    · have pr234 : ∀ t, Steps p.tables e below (T232.setTop (mkF m 41 #[.val (.ref a1), .val (.int p2)] [(.int (0 : Int32))])) t → G t := fun t ks => pr233 t (by
          refine XS.ifYes X232.here hx rfl (pc0 := 33) (pc' := 40) rfl (hb hby d8_33) rfl ((if0 _ _).trans (teq d2).1) (by decide) (by decide) ?_
          refine XS.iconst X232.here hx rfl (hb hby d8_40) ?_
          exact ks)
      obtain ⟨fs, hr, hrun, hended, hW, hsame⟩ := X232.leave (v := some (.int (own_tri c1 c2))) (fun h => by rw [Bd.returns] at h; cases h)
      refine ⟨_, _, hG _ (pr234 _ ?_), hrun, hended, _, _, rfl, ?_, ⟨_, rfl⟩, hW, hsame.mono (by decide) (by decide)⟩
      · exact retN X232 hx (t := .boolean) Bd.returns (by simp) (hb hby d8_41) (by rw [show nar .boolean (0 : Int32) = (own_tri c1 c2) from (show nar .boolean (0 : Int32) = own_tri c1 c2 by rw [own_tri, if_neg d1, if_pos d2]; rfl)]; exact hr)
      · show QCF (own_tri c1 c2) h0 n0 _ T232.heap _
        rw [eh232]
        exact ⟨rfl, N232, rfl⟩
    · have pr235 : ∀ t, Steps p.tables e below (T232.setTop (mkF m 41 #[.val (.ref a1), .val (.int p2)] [(.int (1 : Int32))])) t → G t := fun t ks => pr233 t (by
          refine XS.ifNo X232.here hx rfl (hb hby d8_33) rfl ((if0 _ _).trans (feq d2).1) ?_
          refine XS.iconst X232.here hx rfl (hb hby d8_36) ?_
          refine XS.goto X232.here hx rfl (pc0 := 37) (pc' := 41) rfl (hb hby d8_37) (by decide) (by decide) ?_
          exact ks)
      obtain ⟨fs, hr, hrun, hended, hW, hsame⟩ := X232.leave (v := some (.int (own_tri c1 c2))) (fun h => by rw [Bd.returns] at h; cases h)
      refine ⟨_, _, hG _ (pr235 _ ?_), hrun, hended, _, _, rfl, ?_, ⟨_, rfl⟩, hW, hsame.mono (by decide) (by decide)⟩
      · exact retN X232 hx (t := .boolean) Bd.returns (by simp) (hb hby d8_41) (by rw [show nar .boolean (1 : Int32) = (own_tri c1 c2) from (show nar .boolean (1 : Int32) = own_tri c1 c2 by rw [own_tri, if_neg d1, if_neg d2]; rfl)]; exact hr)
      · show QCF (own_tri c1 c2) h0 n0 _ T232.heap _
        rw [eh232]
        exact ⟨rfl, N232, rfl⟩
theorem own_hx01 (p : Int32) : own_hex p = 0 ∨ own_hex p = 1 := own_ite01 (own_ite01 (Or.inl rfl) (own_ite01 (Or.inl rfl) (Or.inr rfl))) (own_ite01 (own_ite01 (Or.inl rfl) (own_ite01 (Or.inl rfl) (Or.inr rfl))) (Or.inr rfl))
theorem own_hexEq {c : Int32} {n : Nat} (e : c = Int32.ofNat n) (h : n < 65536) : own_hexd c = own_hex c := by
  have h32 := own_or32 n
  have e1 : c ||| 32 = Int32.ofNat (n ||| 32) := by rw [e]; exact own_orN n 32
  have t1 : c.toInt = n := by rw [e]; exact own_tI (by omega)
  have t2 : (c ||| 32).toInt = (n ||| 32 : Nat) := by rw [e1]; exact own_tI (by omega)
  have c48 : (48 : Int32).toInt = 48 := rfl
  have t3 : (c - 48).toInt = n - 48 := by rw [own_sub (by omega) (by omega), t1, c48]
  rw [own_hexd, own_hex]
  simp only [Int32.lt_iff_toInt_lt, t1, t2, t3, show (0 : Int32).toInt = 0 from rfl, show (9 : Int32).toInt = 9 from rfl, c48, show (57 : Int32).toInt = 57 from rfl, show (65 : Int32).toInt = 65 from rfl, show (70 : Int32).toInt = 70 from rfl, show (97 : Int32).toInt = 97 from rfl, show (102 : Int32).toInt = 102 from rfl]
  generalize (n ||| 32) = m at *
  repeat' split
  all_goals first | rfl | (exfalso; omega)
theorem own_triA {c1 c2 : Int32} {n : Nat} (e : c1 = Int32.ofNat n) (h : n < 65536) (y : own_hex c1 = (0 : Int32)) : own_tri c1 c2 = (0 : Int32) := by
  rw [own_tri, if_pos ((own_hexEq e h).trans y)]
theorem own_triB {c1 c2 : Int32} {n m : Nat} (e : c1 = Int32.ofNat n) (h : n < 65536) (e' : c2 = Int32.ofNat m) (h' : m < 65536) (y : ¬ own_hex c1 = (0 : Int32)) (y2 : own_hex c2 = (0 : Int32)) : own_tri c1 c2 = (0 : Int32) := by
  rw [own_tri, if_neg (by rw [own_hexEq e h]; exact y), if_pos ((own_hexEq e' h').trans y2)]
theorem own_triC {c1 c2 : Int32} {n m : Nat} (e : c1 = Int32.ofNat n) (h : n < 65536) (e' : c2 = Int32.ofNat m) (h' : m < 65536) (y : ¬ own_hex c1 = (0 : Int32)) (y2 : ¬ own_hex c2 = (0 : Int32)) : own_tri c1 c2 = (1 : Int32) := by
  rw [own_tri, if_neg (by rw [own_hexEq e h]; exact y), if_neg (by rw [own_hexEq e' h']; exact y2)]
theorem own_mod5 (p1 ix : Int32) (h : ix = ((p1 &&& (2147483647 : Int32)) - ((p1 &&& (2147483647 : Int32)) / (5 : Int32)) * (5 : Int32))) : ∃ i : Nat, i ≤ 4 ∧ ix = Int32.ofNat i := by
  have h0 := own_mask31 p1
  have hr := own_rem (p1 &&& 2147483647) 5 h0 (by decide)
  rw [show (5 : Int32).toInt = 5 from rfl, ← h] at hr
  exact ⟨ix.toInt.toNat, by omega, own_ofI (by omega)⟩
theorem own_chR {c x : Int32} (h : c = (x.toUInt32.toUInt16.toUInt32.toInt32)) : ∃ q : Nat, q < 65536 ∧ c = Int32.ofNat q := by
  obtain ⟨q, hq, e⟩ := own_char x
  exact ⟨q, hq, h.trans e⟩
theorem own_not0 {args : Array Value} {s : State} {t : Term} {x : Int32} (e : t.eval args s none [] s = some (.int x)) (h : (Cond.not (Cond.eq t (Term.int (0 : Int32)))).value args s none s [] = some true) : ¬ x = 0 := by
  intro q
  have e2 : (Term.int (0 : Int32)).eval args s none [] s = some (.int 0) := rfl
  simp [Cond.value, e, e2, q] at h
theorem own_isref {args : Array Value} {s : State} {t : Term} (h : (Cond.isRef t).value args s none s [] = some true) : ∃ v : Value, t.eval args s none [] s = some v ∧ v.isRef = true := by
  cases e : t.eval args s none [] s with
  | none => simp [Cond.value, e] at h
  | some v => exact ⟨v, rfl, by cases v <;> simp [Cond.value, e, Value.isRef] at h ⊢⟩
theorem own_eqI {args : Array Value} {s : State} {t : Term} {k : Int32} (h : (Cond.eq t (Term.int k)).value args s none s [] = some true) : t.eval args s none [] s = some (.int k) := by
  have e2 : (Term.int k).eval args s none [] s = some (.int k) := rfl
  cases e : t.eval args s none [] s with
  | none => simp [Cond.value, e] at h
  | some v => cases v <;> simp [Cond.value, e, e2] at h ⊢; exact h
theorem ef_rm0 (m : MethodId) (x0 : Int32) (x1 : Int32) (x2 : Int32) (x3 : Int32) : entryFrame m #[(.int x0), (.int x1), (.int x2), (.int x3)] maxLocals = mkF m 0 #[.val (.int x0), .val (.int x1), .val (.int x2), .val (.int x3), .unset, .unset, .unset, .unset, .unset, .unset, .unset] [] := by first | (simp [entryFrame, mkF, argsToLocals, Value.category, maxLocals]; done) | rfl
def Q0 (n0 : Nat) (v : Option Value) (h : Heap) (L : List Loc) : Prop := v = some (.int 1) ∧ Fr n0 L
set_option maxRecDepth 65536 in
set_option maxHeartbeats 40000000 in
theorem rm0 (l : Launch) (Z : State) (a0 : Array Value) (hw : ∀ d ∈ tables_1, d.before a0 Z = true) (hr0 : ∀ d ∈ jdkStatics_1, d.before a0 Z = true) (ws : List Jvm.Cond) (p1 : Int32) (p2 : Int32) (p3 : Int32) (p4 : Int32) (fv : Value) (cs : Int32) (h0 : Heap) (n0 : Nat) (Z0 : n0 ≤ h0.size) (J_ : JS Z n0 h0 fv cs) :
    MetFree l x (head1 (Jvm.Cond.code x code maxLocals ret :: ws) room_1) (fun a U => a = #[(.int p1), (.int p2), (.int p3), (.int p4)] ∧ Z.Warmed39 U.vm ∧ U.heap = h0) (fun _ _ _ _ _ => True) (fun _ U o U' => ∃ v L, o = .returned v ∧ Q0 n0 v U'.heap L ∧ FrameEnd U o U' L room_1.cells room_1.slots) := by
  refine MetFree.of_bodySF (plainFor_of_name pn_5) hisR ?_
  intro p e s m args below meth c s₁ Bd hml0 hP hK
  obtain ⟨rfl, hZ, hh⟩ := hP
  have hx := Bd.exec
  have hby := Bd.bytes
  have hml : c.maxLocals = 11 := hml0
  have hown : s.vm.findClass "com/example/wirebind/wirebind/PercentEncodingIsPercentTripletPinLaw" = some m.cls := findClass_of_methodNamed Bd.named
  have hnm := (name_of_methodNamed Bd.named Bd.method).1
  have X0 : Stand p l e room_1 s m #[(.int p1), (.int p2), (.int p3), (.int p4)] below meth c s₁ [] 0 0 := Stand.of_body Bd
  have e0 : s₁.heap = h0 := by rw [← hh, Bd.state]; rfl
  have N0 := Fr.nil n0
  obtain ⟨G, hG, pr0⟩ : ∃ G : State → Prop, (∀ t, G t → Steps p.tables e below (s₁.setTop (entryFrame m #[(.int p1), (.int p2), (.int p3), (.int p4)] maxLocals)) t) ∧ (∀ t, Steps p.tables e below (s₁.setTop (mkF m 0 #[.val (.int p1), .val (.int p2), .val (.int p3), .val (.int p4), .unset, .unset, .unset, .unset, .unset, .unset, .unset] [])) t → G t) := ⟨_, fun _ k => k, fun t ks => castTop (ef_rm0 m p1 p2 p3 p4) ks⟩
  have pr236 : ∀ t, Steps p.tables e below (s₁.setTop (mkF m 8 #[.val (.int p1), .val (.int p2), .val (.int p3), .val (.int p4), .val (.int ((p1 &&& (2147483647 : Int32)) - ((p1 &&& (2147483647 : Int32)) / (5 : Int32)) * (5 : Int32))), .unset, .unset, .unset, .unset, .unset, .unset] [])) t → G t := fun t ks => pr0 t (by
      refine XS.iloadN X0.here hx rfl (hb hby at_0) rfl ?_
      refine X0.ldcInt hx hown (mvT hZ (hw _ (List.mem_of_getElem? (i := 0) rfl))) (g := (mkF m 1 #[.val (.int p1), .val (.int p2), .val (.int p3), .val (.int p4), .unset, .unset, .unset, .unset, .unset, .unset, .unset] [(.int p1)])) rfl (hb hby at_1) _ ?_
      refine XS.iand X0.here hx rfl (hb hby at_3) rfl ?_
      refine XS.iconst X0.here hx rfl (hb hby at_4) ?_
      refine XS.irem X0.here hx rfl (hb hby at_5) rfl (by decide) ?_
      refine XS.istore X0.here hx rfl (hb hby at_6) rfl (l' := #[.val (.int p1), .val (.int p2), .val (.int p3), .val (.int p4), .val (.int ((p1 &&& (2147483647 : Int32)) - ((p1 &&& (2147483647 : Int32)) / (5 : Int32)) * (5 : Int32))), .unset, .unset, .unset, .unset, .unset, .unset]) rfl ?_
      exact ks)
  obtain ⟨ix, hix⟩ : ∃ z : Int32, z = ((p1 &&& (2147483647 : Int32)) - ((p1 &&& (2147483647 : Int32)) / (5 : Int32)) * (5 : Int32)) := ⟨_, rfl⟩
  rw [← hix] at pr236
  obtain ⟨i, hi, eix⟩ := own_mod5 p1 ix hix
  have pr237 : ∀ t, Steps p.tables e below (s₁.setTop (mkF m 25 #[.val (.int p1), .val (.int p2), .val (.int p3), .val (.int p4), .val (.int ix), .val (.int ((p2 &&& (65535 : Int32)).toUInt32.toUInt16.toUInt32.toInt32)), .val (.int ((p3 &&& (65535 : Int32)).toUInt32.toUInt16.toUInt32.toInt32)), .unset, .unset, .unset, .unset] [(.int (65535 : Int32)), (.int p4)])) t → G t := fun t ks => pr236 t (by
      refine XS.iloadN X0.here hx rfl (hb hby at_8) rfl ?_
      refine X0.ldcInt hx hown (mvT hZ (hw _ (List.mem_of_getElem? (i := 1) rfl))) (g := (mkF m 9 #[.val (.int p1), .val (.int p2), .val (.int p3), .val (.int p4), .val (.int ix), .unset, .unset, .unset, .unset, .unset, .unset] [(.int p2)])) rfl (hb hby at_9) _ ?_
      refine XS.iand X0.here hx rfl (hb hby at_11) rfl ?_
      refine XS.i2c X0.here hx rfl (hb hby at_12) rfl ?_
      refine XS.istore X0.here hx rfl (hb hby at_13) rfl (l' := #[.val (.int p1), .val (.int p2), .val (.int p3), .val (.int p4), .val (.int ix), .val (.int ((p2 &&& (65535 : Int32)).toUInt32.toUInt16.toUInt32.toInt32)), .unset, .unset, .unset, .unset, .unset]) rfl ?_
      refine XS.iloadN X0.here hx rfl (hb hby at_15) rfl ?_
      refine X0.ldcInt hx hown (mvT hZ (hw _ (List.mem_of_getElem? (i := 1) rfl))) (g := (mkF m 16 #[.val (.int p1), .val (.int p2), .val (.int p3), .val (.int p4), .val (.int ix), .val (.int ((p2 &&& (65535 : Int32)).toUInt32.toUInt16.toUInt32.toInt32)), .unset, .unset, .unset, .unset, .unset] [(.int p3)])) rfl (hb hby at_16) _ ?_
      refine XS.iand X0.here hx rfl (hb hby at_18) rfl ?_
      refine XS.i2c X0.here hx rfl (hb hby at_19) rfl ?_
      refine XS.istore X0.here hx rfl (hb hby at_20) rfl (l' := #[.val (.int p1), .val (.int p2), .val (.int p3), .val (.int p4), .val (.int ix), .val (.int ((p2 &&& (65535 : Int32)).toUInt32.toUInt16.toUInt32.toInt32)), .val (.int ((p3 &&& (65535 : Int32)).toUInt32.toUInt16.toUInt32.toInt32)), .unset, .unset, .unset, .unset]) rfl ?_
      refine XS.iloadN X0.here hx rfl (hb hby at_22) rfl ?_
      refine X0.ldcInt hx hown (mvT hZ (hw _ (List.mem_of_getElem? (i := 1) rfl))) (g := (mkF m 23 #[.val (.int p1), .val (.int p2), .val (.int p3), .val (.int p4), .val (.int ix), .val (.int ((p2 &&& (65535 : Int32)).toUInt32.toUInt16.toUInt32.toInt32)), .val (.int ((p3 &&& (65535 : Int32)).toUInt32.toUInt16.toUInt32.toInt32)), .unset, .unset, .unset, .unset] [(.int p4)])) rfl (hb hby at_23) _ ?_
      exact ks)
  have pr238 : ∀ t, Steps p.tables e below (s₁.setTop (mkF m 29 #[.val (.int p1), .val (.int p2), .val (.int p3), .val (.int p4), .val (.int ix), .val (.int ((p2 &&& (65535 : Int32)).toUInt32.toUInt16.toUInt32.toInt32)), .val (.int ((p3 &&& (65535 : Int32)).toUInt32.toUInt16.toUInt32.toInt32)), .val (.int ((p4 &&& (65535 : Int32)).toUInt32.toUInt16.toUInt32.toInt32)), .unset, .unset, .unset] [])) t → G t := fun t ks => pr237 t (by
      refine XS.iand X0.here hx rfl (hb hby at_25) rfl ?_
      refine XS.i2c X0.here hx rfl (hb hby at_26) rfl ?_
      refine XS.istore X0.here hx rfl (hb hby at_27) rfl (l' := #[.val (.int p1), .val (.int p2), .val (.int p3), .val (.int p4), .val (.int ix), .val (.int ((p2 &&& (65535 : Int32)).toUInt32.toUInt16.toUInt32.toInt32)), .val (.int ((p3 &&& (65535 : Int32)).toUInt32.toUInt16.toUInt32.toInt32)), .val (.int ((p4 &&& (65535 : Int32)).toUInt32.toUInt16.toUInt32.toInt32)), .unset, .unset, .unset]) rfl ?_
      exact ks)
  obtain ⟨ca, hca⟩ : ∃ z : Int32, z = ((p2 &&& (65535 : Int32)).toUInt32.toUInt16.toUInt32.toInt32) := ⟨_, rfl⟩
  rw [← hca] at pr238
  obtain ⟨cb, hcb⟩ : ∃ z : Int32, z = ((p3 &&& (65535 : Int32)).toUInt32.toUInt16.toUInt32.toInt32) := ⟨_, rfl⟩
  rw [← hcb] at pr238
  obtain ⟨cf, hcf⟩ : ∃ z : Int32, z = ((p4 &&& (65535 : Int32)).toUInt32.toUInt16.toUInt32.toInt32) := ⟨_, rfl⟩
  rw [← hcf] at pr238
  obtain ⟨qca, hca', eca⟩ := own_chR hca
  obtain ⟨qcb, hcb', ecb⟩ := own_chR hcb
  obtain ⟨qcf, hcf', ecf⟩ := own_chR hcf
  have pr239 : ∀ t, Steps p.tables e below (s₁.setTop (mkF m 30 #[.val (.int p1), .val (.int p2), .val (.int p3), .val (.int p4), .val (.int ix), .val (.int ca), .val (.int cb), .val (.int cf), .unset, .unset, .unset] [(.int (5 : Int32))])) t → G t := fun t ks => pr238 t (by
      refine XS.iconst X0.here hx rfl (hb hby at_29) ?_
      exact ks)
  obtain ⟨T240, h240, k240, X240, e240, E240, A240, st240⟩ := newP X0 hx hZ (hw _ (List.mem_of_getElem? (i := 2) rfl)) e0 (g := (mkF m 30 #[.val (.int p1), .val (.int p2), .val (.int p3), .val (.int p4), .val (.int ix), .val (.int ca), .val (.int cb), .val (.int cf), .unset, .unset, .unset] [(.int (5 : Int32))])) rfl (hb hby at_30) rfl (by decide) (cap := 5) (by decide) (by decide) (by decide) (by decide)
  obtain ⟨bc, g240⟩ : ∃ z, z = h0.size := ⟨_, rfl⟩
  rw [← g240] at A240 st240
  have g_bc : n0 ≤ bc := Nat.le_trans Z0 (Nat.le_of_eq g240.symm)
  replace J_ := J_.ext E240
  have V_bc : IA Z h240 bc k240 .char (5 : Int32) (List.replicate 5 0) := IA.new A240 (by decide) rfl rfl
  replace V_bc : IA Z h240 bc k240 .char (5 : Int32) [0, 0, 0, 0, 0] := V_bc
  have Z240 : n0 ≤ h240.size := Nat.le_trans Z0 E240.1
  have pr241 : ∀ t, Steps p.tables e below (T240.setTop (mkF m 32 #[.val (.int p1), .val (.int p2), .val (.int p3), .val (.int p4), .val (.int ix), .val (.int ca), .val (.int cb), .val (.int cf), .unset, .unset, .unset] [(.ref bc)])) t → G t := fun t ks => pr239 t (st240 t ks)
  have pr242 : ∀ t, Steps p.tables e below (T240.setTop (mkF m 36 #[.val (.int p1), .val (.int p2), .val (.int p3), .val (.int p4), .val (.int ix), .val (.int ca), .val (.int cb), .val (.int cf), .unset, .unset, .unset] [(.int cf), (.int (0 : Int32)), (.ref bc), (.ref bc)])) t → G t := fun t ks => pr241 t (by
      refine XS.dup X240.here hx rfl (hb hby at_32) rfl rfl ?_
      refine XS.iconst X240.here hx rfl (hb hby at_33) ?_
      refine XS.iload X240.here hx rfl (hb hby at_34) rfl ?_
      exact ks)
  obtain ⟨T243, h243, X243, e243, W243, V243, st243⟩ := ia_stC X240 hx hZ e240 V_bc (j := (0 : Int32)) 0 rfl (by decide) (Nat.le_of_ble_eq_true rfl) (y := cf) (own_narCh ecf hcf') (g := (mkF m 36 #[.val (.int p1), .val (.int p2), .val (.int p3), .val (.int p4), .val (.int ix), .val (.int ca), .val (.int cb), .val (.int cf), .unset, .unset, .unset] [(.int cf), (.int (0 : Int32)), (.ref bc), (.ref bc)])) rfl rfl (hb hby at_36)
  replace V_bc := V243
  replace J_ := J_.wr W243
  have N243 := Fr.snoc X243 N0 g_bc
  have Z243 : n0 ≤ h243.size := Nat.le_trans Z240 (Keep.of_wr W243).1
  have pr244 : ∀ t, Steps p.tables e below (T243.setTop (mkF m 37 #[.val (.int p1), .val (.int p2), .val (.int p3), .val (.int p4), .val (.int ix), .val (.int ca), .val (.int cb), .val (.int cf), .unset, .unset, .unset] [(.ref bc)])) t → G t := fun t ks => pr242 t (st243 t ks)
  have pr245 : ∀ t, Steps p.tables e below (T243.setTop (mkF m 41 #[.val (.int p1), .val (.int p2), .val (.int p3), .val (.int p4), .val (.int ix), .val (.int ca), .val (.int cb), .val (.int cf), .unset, .unset, .unset] [(.int cf), (.int (1 : Int32)), (.ref bc), (.ref bc)])) t → G t := fun t ks => pr244 t (by
      refine XS.dup X243.here hx rfl (hb hby at_37) rfl rfl ?_
      refine XS.iconst X243.here hx rfl (hb hby at_38) ?_
      refine XS.iload X243.here hx rfl (hb hby at_39) rfl ?_
      exact ks)
  obtain ⟨T246, h246, X246, e246, W246, V246, st246⟩ := ia_stC X243 hx hZ e243 V_bc (j := (1 : Int32)) 1 rfl (by decide) (Nat.le_of_ble_eq_true rfl) (y := cf) (own_narCh ecf hcf') (g := (mkF m 41 #[.val (.int p1), .val (.int p2), .val (.int p3), .val (.int p4), .val (.int ix), .val (.int ca), .val (.int cb), .val (.int cf), .unset, .unset, .unset] [(.int cf), (.int (1 : Int32)), (.ref bc), (.ref bc)])) rfl rfl (hb hby at_41)
  replace V_bc := V246
  replace J_ := J_.wr W246
  have N246 := Fr.snoc X246 N243 g_bc
  have Z246 : n0 ≤ h246.size := Nat.le_trans Z243 (Keep.of_wr W246).1
  have pr247 : ∀ t, Steps p.tables e below (T246.setTop (mkF m 42 #[.val (.int p1), .val (.int p2), .val (.int p3), .val (.int p4), .val (.int ix), .val (.int ca), .val (.int cb), .val (.int cf), .unset, .unset, .unset] [(.ref bc)])) t → G t := fun t ks => pr245 t (st246 t ks)
  have pr248 : ∀ t, Steps p.tables e below (T246.setTop (mkF m 46 #[.val (.int p1), .val (.int p2), .val (.int p3), .val (.int p4), .val (.int ix), .val (.int ca), .val (.int cb), .val (.int cf), .unset, .unset, .unset] [(.int cf), (.int (2 : Int32)), (.ref bc), (.ref bc)])) t → G t := fun t ks => pr247 t (by
      refine XS.dup X246.here hx rfl (hb hby at_42) rfl rfl ?_
      refine XS.iconst X246.here hx rfl (hb hby at_43) ?_
      refine XS.iload X246.here hx rfl (hb hby at_44) rfl ?_
      exact ks)
  obtain ⟨T249, h249, X249, e249, W249, V249, st249⟩ := ia_stC X246 hx hZ e246 V_bc (j := (2 : Int32)) 2 rfl (by decide) (Nat.le_of_ble_eq_true rfl) (y := cf) (own_narCh ecf hcf') (g := (mkF m 46 #[.val (.int p1), .val (.int p2), .val (.int p3), .val (.int p4), .val (.int ix), .val (.int ca), .val (.int cb), .val (.int cf), .unset, .unset, .unset] [(.int cf), (.int (2 : Int32)), (.ref bc), (.ref bc)])) rfl rfl (hb hby at_46)
  replace V_bc := V249
  replace J_ := J_.wr W249
  have N249 := Fr.snoc X249 N246 g_bc
  have Z249 : n0 ≤ h249.size := Nat.le_trans Z246 (Keep.of_wr W249).1
  have pr250 : ∀ t, Steps p.tables e below (T249.setTop (mkF m 47 #[.val (.int p1), .val (.int p2), .val (.int p3), .val (.int p4), .val (.int ix), .val (.int ca), .val (.int cb), .val (.int cf), .unset, .unset, .unset] [(.ref bc)])) t → G t := fun t ks => pr248 t (st249 t ks)
  have pr251 : ∀ t, Steps p.tables e below (T249.setTop (mkF m 51 #[.val (.int p1), .val (.int p2), .val (.int p3), .val (.int p4), .val (.int ix), .val (.int ca), .val (.int cb), .val (.int cf), .unset, .unset, .unset] [(.int cf), (.int (3 : Int32)), (.ref bc), (.ref bc)])) t → G t := fun t ks => pr250 t (by
      refine XS.dup X249.here hx rfl (hb hby at_47) rfl rfl ?_
      refine XS.iconst X249.here hx rfl (hb hby at_48) ?_
      refine XS.iload X249.here hx rfl (hb hby at_49) rfl ?_
      exact ks)
  obtain ⟨T252, h252, X252, e252, W252, V252, st252⟩ := ia_stC X249 hx hZ e249 V_bc (j := (3 : Int32)) 3 rfl (by decide) (Nat.le_of_ble_eq_true rfl) (y := cf) (own_narCh ecf hcf') (g := (mkF m 51 #[.val (.int p1), .val (.int p2), .val (.int p3), .val (.int p4), .val (.int ix), .val (.int ca), .val (.int cb), .val (.int cf), .unset, .unset, .unset] [(.int cf), (.int (3 : Int32)), (.ref bc), (.ref bc)])) rfl rfl (hb hby at_51)
  replace V_bc := V252
  replace J_ := J_.wr W252
  have N252 := Fr.snoc X252 N249 g_bc
  have Z252 : n0 ≤ h252.size := Nat.le_trans Z249 (Keep.of_wr W252).1
  have pr253 : ∀ t, Steps p.tables e below (T252.setTop (mkF m 52 #[.val (.int p1), .val (.int p2), .val (.int p3), .val (.int p4), .val (.int ix), .val (.int ca), .val (.int cb), .val (.int cf), .unset, .unset, .unset] [(.ref bc)])) t → G t := fun t ks => pr251 t (st252 t ks)
  have pr254 : ∀ t, Steps p.tables e below (T252.setTop (mkF m 56 #[.val (.int p1), .val (.int p2), .val (.int p3), .val (.int p4), .val (.int ix), .val (.int ca), .val (.int cb), .val (.int cf), .unset, .unset, .unset] [(.int cf), (.int (4 : Int32)), (.ref bc), (.ref bc)])) t → G t := fun t ks => pr253 t (by
      refine XS.dup X252.here hx rfl (hb hby at_52) rfl rfl ?_
      refine XS.iconst X252.here hx rfl (hb hby at_53) ?_
      refine XS.iload X252.here hx rfl (hb hby at_54) rfl ?_
      exact ks)
  obtain ⟨T255, h255, X255, e255, W255, V255, st255⟩ := ia_stC X252 hx hZ e252 V_bc (j := (4 : Int32)) 4 rfl (by decide) (Nat.le_of_ble_eq_true rfl) (y := cf) (own_narCh ecf hcf') (g := (mkF m 56 #[.val (.int p1), .val (.int p2), .val (.int p3), .val (.int p4), .val (.int ix), .val (.int ca), .val (.int cb), .val (.int cf), .unset, .unset, .unset] [(.int cf), (.int (4 : Int32)), (.ref bc), (.ref bc)])) rfl rfl (hb hby at_56)
  replace V_bc := V255
  replace J_ := J_.wr W255
  have N255 := Fr.snoc X255 N252 g_bc
  have Z255 : n0 ≤ h255.size := Nat.le_trans Z252 (Keep.of_wr W255).1
  have pr256 : ∀ t, Steps p.tables e below (T255.setTop (mkF m 57 #[.val (.int p1), .val (.int p2), .val (.int p3), .val (.int p4), .val (.int ix), .val (.int ca), .val (.int cb), .val (.int cf), .unset, .unset, .unset] [(.ref bc)])) t → G t := fun t ks => pr254 t (st255 t ks)
  replace V_bc : IA Z h255 bc k240 .char 5 [cf, cf, cf, cf, cf] := V_bc
  have pr257 : ∀ t, Steps p.tables e below (T255.setTop (mkF m 65 #[.val (.int p1), .val (.int p2), .val (.int p3), .val (.int p4), .val (.int ix), .val (.int ca), .val (.int cb), .val (.int cf), .val (.ref bc), .unset, .unset] [(.int (37 : Int32)), (.int ix), (.ref bc)])) t → G t := fun t ks => pr256 t (by
      refine XS.astore X255.here hx rfl (hb hby at_57) rfl rfl (l' := #[.val (.int p1), .val (.int p2), .val (.int p3), .val (.int p4), .val (.int ix), .val (.int ca), .val (.int cb), .val (.int cf), .val (.ref bc), .unset, .unset]) rfl ?_
      refine XS.aload X255.here hx rfl (hb hby at_59) rfl rfl ?_
      refine XS.iload X255.here hx rfl (hb hby at_61) rfl ?_
      refine XS.bipush X255.here hx rfl (hb hby at_63) ?_
      exact ks)
  obtain rfl | rfl | rfl | rfl | rfl : i = 0 ∨ i = 1 ∨ i = 2 ∨ i = 3 ∨ i = 4 := by omega
  · rw [(show ix = (0 : Int32) from eix)] at pr257
    obtain ⟨T258, h258, X258, e258, W258, V258, st258⟩ := ia_stC X255 hx hZ e255 V_bc (j := (0 : Int32)) 0 rfl (by decide) (Nat.le_of_ble_eq_true rfl) (y := (37 : Int32)) rfl (g := (mkF m 65 #[.val (.int p1), .val (.int p2), .val (.int p3), .val (.int p4), .val (.int (0 : Int32)), .val (.int ca), .val (.int cb), .val (.int cf), .val (.ref bc), .unset, .unset] [(.int (37 : Int32)), (.int (0 : Int32)), (.ref bc)])) rfl rfl (hb hby at_65)
    replace V_bc := V258
    replace J_ := J_.wr W258
    have N258 := Fr.snoc X258 N255 g_bc
    have Z258 : n0 ≤ h258.size := Nat.le_trans Z255 (Keep.of_wr W258).1
    have pr259 : ∀ t, Steps p.tables e below (T258.setTop (mkF m 66 #[.val (.int p1), .val (.int p2), .val (.int p3), .val (.int p4), .val (.int (0 : Int32)), .val (.int ca), .val (.int cb), .val (.int cf), .val (.ref bc), .unset, .unset] [])) t → G t := fun t ks => pr257 t (st258 t ks)
    have pr260 : ∀ t, Steps p.tables e below (T258.setTop (mkF m 82 #[.val (.int p1), .val (.int p2), .val (.int p3), .val (.int p4), .val (.int (0 : Int32)), .val (.int ca), .val (.int cb), .val (.int cf), .val (.ref bc), .unset, .unset] [(.int ca), (.int ((0 : Int32) + (1 : Int32))), (.ref bc)])) t → G t := fun t ks => pr259 t (by
        refine XS.iload X258.here hx rfl (hb hby at_66) rfl ?_
        refine XS.iconst X258.here hx rfl (hb hby at_68) ?_
        refine XS.iadd X258.here hx rfl (hb hby at_69) rfl ?_
        refine XS.iconst X258.here hx rfl (hb hby at_70) ?_
        refine XS.icmpNo X258.here hx rfl (hb hby at_71) rfl (tlt (show (0 : Int32) + (1 : Int32) < (5 : Int32) by decide)).2.1 ?_
        refine XS.aload X258.here hx rfl (hb hby at_74) rfl rfl ?_
        refine XS.iload X258.here hx rfl (hb hby at_76) rfl ?_
        refine XS.iconst X258.here hx rfl (hb hby at_78) ?_
        refine XS.iadd X258.here hx rfl (hb hby at_79) rfl ?_
        refine XS.iload X258.here hx rfl (hb hby at_80) rfl ?_
        exact ks)
    rw [(show (0 : Int32) + (1 : Int32) = (1 : Int32) from rfl)] at pr260
    obtain ⟨T261, h261, X261, e261, W261, V261, st261⟩ := ia_stC X258 hx hZ e258 V_bc (j := (1 : Int32)) 1 rfl (by decide) (Nat.le_of_ble_eq_true rfl) (y := ca) (own_narCh eca hca') (g := (mkF m 82 #[.val (.int p1), .val (.int p2), .val (.int p3), .val (.int p4), .val (.int (0 : Int32)), .val (.int ca), .val (.int cb), .val (.int cf), .val (.ref bc), .unset, .unset] [(.int ca), (.int (1 : Int32)), (.ref bc)])) rfl rfl (hb hby at_82)
    replace V_bc := V261
    replace J_ := J_.wr W261
    have N261 := Fr.snoc X261 N258 g_bc
    have Z261 : n0 ≤ h261.size := Nat.le_trans Z258 (Keep.of_wr W261).1
    have pr262 : ∀ t, Steps p.tables e below (T261.setTop (mkF m 83 #[.val (.int p1), .val (.int p2), .val (.int p3), .val (.int p4), .val (.int (0 : Int32)), .val (.int ca), .val (.int cb), .val (.int cf), .val (.ref bc), .unset, .unset] [])) t → G t := fun t ks => pr260 t (st261 t ks)
    have pr263 : ∀ t, Steps p.tables e below (T261.setTop (mkF m 99 #[.val (.int p1), .val (.int p2), .val (.int p3), .val (.int p4), .val (.int (0 : Int32)), .val (.int ca), .val (.int cb), .val (.int cf), .val (.ref bc), .unset, .unset] [(.int cb), (.int ((0 : Int32) + (2 : Int32))), (.ref bc)])) t → G t := fun t ks => pr262 t (by
        refine XS.iload X261.here hx rfl (hb hby at_83) rfl ?_
        refine XS.iconst X261.here hx rfl (hb hby at_85) ?_
        refine XS.iadd X261.here hx rfl (hb hby at_86) rfl ?_
        refine XS.iconst X261.here hx rfl (hb hby at_87) ?_
        refine XS.icmpNo X261.here hx rfl (hb hby at_88) rfl (tlt (show (0 : Int32) + (2 : Int32) < (5 : Int32) by decide)).2.1 ?_
        refine XS.aload X261.here hx rfl (hb hby at_91) rfl rfl ?_
        refine XS.iload X261.here hx rfl (hb hby at_93) rfl ?_
        refine XS.iconst X261.here hx rfl (hb hby at_95) ?_
        refine XS.iadd X261.here hx rfl (hb hby at_96) rfl ?_
        refine XS.iload X261.here hx rfl (hb hby at_97) rfl ?_
        exact ks)
    rw [(show (0 : Int32) + (2 : Int32) = (2 : Int32) from rfl)] at pr263
    obtain ⟨T264, h264, X264, e264, W264, V264, st264⟩ := ia_stC X261 hx hZ e261 V_bc (j := (2 : Int32)) 2 rfl (by decide) (Nat.le_of_ble_eq_true rfl) (y := cb) (own_narCh ecb hcb') (g := (mkF m 99 #[.val (.int p1), .val (.int p2), .val (.int p3), .val (.int p4), .val (.int (0 : Int32)), .val (.int ca), .val (.int cb), .val (.int cf), .val (.ref bc), .unset, .unset] [(.int cb), (.int (2 : Int32)), (.ref bc)])) rfl rfl (hb hby at_99)
    replace V_bc := V264
    replace J_ := J_.wr W264
    have N264 := Fr.snoc X264 N261 g_bc
    have Z264 : n0 ≤ h264.size := Nat.le_trans Z261 (Keep.of_wr W264).1
    have pr265 : ∀ t, Steps p.tables e below (T264.setTop (mkF m 100 #[.val (.int p1), .val (.int p2), .val (.int p3), .val (.int p4), .val (.int (0 : Int32)), .val (.int ca), .val (.int cb), .val (.int cf), .val (.ref bc), .unset, .unset] [])) t → G t := fun t ks => pr263 t (st264 t ks)
    replace V_bc : CA Z h264 bc [(37 : Int32), ca, cb, cf, cf] := ⟨⟨k240, V_bc⟩, Nat.le_of_ble_eq_true rfl⟩
    have hch : ∀ i, i < 5 → ∃ q : Nat, q < 65536 ∧ [(37 : Int32), ca, cb, cf, cf].getD i 0 = Int32.ofNat q := by
      intro i hi
      match i, hi with
      | 0, _ => exact ⟨37, by decide, rfl⟩
      | 1, _ => exact ⟨_, hca', eca⟩
      | 2, _ => exact ⟨_, hcb', ecb⟩
      | 3, _ => exact ⟨_, hcf', ecf⟩
      | 4, _ => exact ⟨_, hcf', ecf⟩
    obtain ⟨T266, h266, X266, e266, E266, A266, D266, -, st266⟩ := newO X264 hx hZ hown (hw _ (List.mem_of_getElem? (i := 3) rfl)) (hw _ (List.mem_of_getElem? (i := 4) rfl)) (hw _ (List.mem_of_getElem? (i := 5) rfl)) e264 (g := (mkF m 100 #[.val (.int p1), .val (.int p2), .val (.int p3), .val (.int p4), .val (.int (0 : Int32)), .val (.int ca), .val (.int cb), .val (.int cf), .val (.ref bc), .unset, .unset] [])) rfl (hb hby at_100) (by decide) (by decide)
    obtain ⟨so, g266⟩ : ∃ z, z = h264.size := ⟨_, rfl⟩
    rw [← g266] at A266 D266 st266
    have ne_bc_so : bc ≠ so := Nat.ne_of_lt (Nat.lt_of_lt_of_le V_bc.lt (Nat.le_of_eq g266.symm))
    have g_so : n0 ≤ so := Nat.le_trans Z264 (Nat.le_of_eq g266.symm)
    replace J_ := J_.ext E266
    replace V_bc := V_bc.ext E266
    have E_so := A266
    have F_so_coder : Fld Z h266 so "java/lang/String" "coder" "B" (.int (0 : Int32)) := D266 (Or.inr (hw _ (List.mem_of_getElem? (i := 29) rfl))) (ty := .byte) (by decide)
    have F_so_value : Fld Z h266 so "java/lang/String" "value" "[B" .null := D266 (Or.inr (hw _ (List.mem_of_getElem? (i := 31) rfl))) (ty := (.array .byte)) (by decide)
    have Z266 : n0 ≤ h266.size := Nat.le_trans Z264 E266.1
    have pr267 : ∀ t, Steps p.tables e below (T266.setTop (mkF m 103 #[.val (.int p1), .val (.int p2), .val (.int p3), .val (.int p4), .val (.int (0 : Int32)), .val (.int ca), .val (.int cb), .val (.int cf), .val (.ref bc), .unset, .unset] [(.ref so)])) t → G t := fun t ks => pr265 t (st266 t ks)
    have pr268 : ∀ t, Steps p.tables e below (T266.setTop (mkF m 106 #[.val (.int p1), .val (.int p2), .val (.int p3), .val (.int p4), .val (.int (0 : Int32)), .val (.int ca), .val (.int cb), .val (.int cf), .val (.ref bc), .unset, .unset] [(.ref bc), (.ref so), (.ref so)])) t → G t := fun t ks => pr267 t (by
        refine XS.dup X266.here hx rfl (hb hby at_103) rfl rfl ?_
        refine XS.aload X266.here hx rfl (hb hby at_104) rfl rfl ?_
        exact ks)
    obtain ⟨_, _, ⟨T269, L269, k269, n269⟩, -, X269, hP269, st269⟩ := X266.specialBack hx (y := (⟨"java/lang/String", "<init>", "([C)V"⟩ : MethodName)) rfl hown (mvT hZ (hw _ (List.mem_of_getElem? (i := 6) rfl))) (mvT hZ (hw _ (List.mem_of_getElem? (i := 7) rfl))) (mvT hZ (hw _ (List.mem_of_getElem? (i := 8) rfl))) (by decide) (backOf (W := 1) (rm1 l Z a0 hw hr0 [] so bc (37 : Int32) ca cb cf cf fv cs h266 n0 Z266 E_so F_so_value F_so_coder V_bc hch g_so (Ne.symm ne_bc_so) J_) hZ (hw _ (List.mem_of_getElem? (i := 8) rfl)) (hw _ (List.mem_of_getElem? (i := 5) rfl)) (by decide) (by decide)) (g := (mkF m 106 #[.val (.int p1), .val (.int p2), .val (.int p3), .val (.int p4), .val (.int (0 : Int32)), .val (.int ca), .val (.int cb), .val (.int cf), .val (.ref bc), .unset, .unset] [(.ref bc), (.ref so), (.ref so)])) rfl (by rw [hml]; rfl) (Steps.refl _) (a := so) (argsL := [(.ref bc)]) (rest := [(.ref so)]) (lenOf pd_17 rfl) rfl (by show 2 * 0 + _ ≤ _; exact Nat.le_of_eq rfl) (hb hby at_106) (fun _ _ => ⟨rfl, e266, (by decide : 2 + 2 ≤ _), (by decide : 9 + 15 ≤ _)⟩)
    obtain ⟨Lc269, hQ269, X269⟩ := own_out hP269 X269
    clear hP269
    dsimp only [Pt.U, Pt.locs, Pt.cells, Pt.slots] at X269 st269 hQ269
    obtain ⟨rfl, Nq269, Kq269, b, k, vs, hS, hstr⟩ := hQ269
    replace J_ := J_.keep Kq269 (allS g_so all0)
    replace V_bc := V_bc.keep Kq269 (ninS ne_bc_so nin0)
    replace E_so := E_so.keep Kq269
    have Z269 : n0 ≤ T269.heap.size := Nat.le_trans Z266 Kq269.1
    have N269 := Fr.app N264 Nq269
    have pr270 : ∀ t, Steps p.tables e below (T269.setTop (mkF m 109 #[.val (.int p1), .val (.int p2), .val (.int p3), .val (.int p4), .val (.int (0 : Int32)), .val (.int ca), .val (.int cb), .val (.int cf), .val (.ref bc), .unset, .unset] [(.ref so)])) t → G t := fun t ks => pr268 t (st269.trans ks)
    have hk := own_strK rfl hstr
    have pr271 : ∀ t, Steps p.tables e below (T269.setTop (mkF m 119 #[.val (.int p1), .val (.int p2), .val (.int p3), .val (.int p4), .val (.int (0 : Int32)), .val (.int ca), .val (.int cb), .val (.int cf), .val (.ref bc), .val (.ref so), .unset] [(.int ca)])) t → G t := fun t ks => pr270 t (by
        refine XS.astore X269.here hx rfl (hb hby at_109) rfl rfl (l' := #[.val (.int p1), .val (.int p2), .val (.int p3), .val (.int p4), .val (.int (0 : Int32)), .val (.int ca), .val (.int cb), .val (.int cf), .val (.ref bc), .val (.ref so), .unset]) rfl ?_
        refine XS.iload X269.here hx rfl (hb hby at_111) rfl ?_
        refine XS.iconst X269.here hx rfl (hb hby at_113) ?_
        refine XS.icmpNo X269.here hx rfl (hb hby at_114) rfl (flt (by decide)).2.2.1 ?_
        refine XS.iload X269.here hx rfl (hb hby at_117) rfl ?_
        exact ks)
    obtain ⟨_, _, ⟨T272, L272, k272, n272⟩, -, X272, hP272, st272⟩ := Jvm.LawKit.callS X269 hx (y := (⟨"com/example/wirebind/wirebind/PercentEncodingIsPercentTripletPinLaw", "hex", "(C)Z"⟩ : MethodName)) hown (mvT hZ (hw _ (List.mem_of_getElem? (i := 32) rfl))) (mvT hZ (hw _ (List.mem_of_getElem? (i := 33) rfl))) (mvT hZ (hw _ (List.mem_of_getElem? (i := 34) rfl))) (mvT hZ (hw _ (List.mem_of_getElem? (i := 35) rfl))) (by decide) (backOf (W := 0) (rmHX l Z a0 hw hr0 [] ca T269.heap n0 Z269) hZ (hw _ (List.mem_of_getElem? (i := 35) rfl)) (hw _ (List.mem_of_getElem? (i := 34) rfl)) (by decide) (by decide)) (g := (mkF m 119 #[.val (.int p1), .val (.int p2), .val (.int p3), .val (.int p4), .val (.int (0 : Int32)), .val (.int ca), .val (.int cb), .val (.int cf), .val (.ref bc), .val (.ref so), .unset] [(.int ca)])) rfl (by rw [hml]; rfl) (argsL := [(.int ca)]) (rest := []) (lenOf pd_16 rfl) rfl (by show 2 * 0 + _ ≤ _; exact Nat.le_of_eq rfl) (hb hby at_119) (fun _ _ => ⟨rfl, rfl, (by decide : 4 + 0 ≤ _), (by decide : 24 + 0 ≤ _)⟩)
    obtain ⟨Lc272, hQ272, X272⟩ := own_out hP272 X272
    clear hP272
    dsimp only [Pt.U, Pt.locs, Pt.cells, Pt.slots] at X272 st272 hQ272
    obtain ⟨rfl, Nq272, eh272⟩ := hQ272
    have N272 := Fr.app N269 Nq272
    have pr273 : ∀ t, Steps p.tables e below (T272.setTop (mkF m 122 #[.val (.int p1), .val (.int p2), .val (.int p3), .val (.int p4), .val (.int (0 : Int32)), .val (.int ca), .val (.int cb), .val (.int cf), .val (.ref bc), .val (.ref so), .unset] [(.int (own_hex ca))])) t → G t := fun t ks => pr271 t (st272 t ks)
    by_cases y1 : (own_hex ca) = (0 : Int32)
    · have pr274 : ∀ t, Steps p.tables e below (T272.setTop (mkF m 144 #[.val (.int p1), .val (.int p2), .val (.int p3), .val (.int p4), .val (.int (0 : Int32)), .val (.int ca), .val (.int cb), .val (.int cf), .val (.ref bc), .val (.ref so), .val (.int (0 : Int32))] [(.int (0 : Int32)), (.ref so)])) t → G t := fun t ks => pr273 t (by
          refine XS.ifYes X272.here hx rfl (pc0 := 122) (pc' := 137) rfl (hb hby at_122) rfl ((if0 _ _).trans (teq y1).1) (by decide) (by decide) ?_
          refine XS.iconst X272.here hx rfl (hb hby at_137) ?_
          refine XS.istore X272.here hx rfl (hb hby at_138) rfl (l' := #[.val (.int p1), .val (.int p2), .val (.int p3), .val (.int p4), .val (.int (0 : Int32)), .val (.int ca), .val (.int cb), .val (.int cf), .val (.ref bc), .val (.ref so), .val (.int (0 : Int32))]) rfl ?_
          refine XS.aload X272.here hx rfl (hb hby at_140) rfl rfl ?_
          refine XS.iload X272.here hx rfl (hb hby at_142) rfl ?_
          exact ks)
      obtain ⟨_, _, ⟨T275, L275, k275, n275⟩, -, X275, hP275, st275⟩ := Jvm.LawKit.callS X272 hx (y := (⟨"com/example/wirebind/wirebind/PercentEncoding", "isPercentTriplet", "(Ljava/lang/String;I)Z"⟩ : MethodName)) hown (mvT hZ (hw _ (List.mem_of_getElem? (i := 36) rfl))) (mvT hZ (hw _ (List.mem_of_getElem? (i := 37) rfl))) (mvT hZ (hw _ (List.mem_of_getElem? (i := 38) rfl))) (mvT hZ (hw _ (List.mem_of_getElem? (i := 39) rfl))) (by decide) (backOf (W := 0) (rmT1 l Z a0 hw hr0 [] so (0 : Int32) b k vs fv cs 0 ca cb T269.heap n0 Z269 hS J_ rfl hk (by decide) (own_strL hstr 1 (Nat.le_of_ble_eq_true rfl) (hch _ (by decide))) (own_strU hstr 1 (Nat.le_of_ble_eq_true rfl) (hch _ (by decide))) (own_strL hstr 2 (Nat.le_of_ble_eq_true rfl) (hch _ (by decide))) (own_strU hstr 2 (Nat.le_of_ble_eq_true rfl) (hch _ (by decide)))) hZ (hw _ (List.mem_of_getElem? (i := 39) rfl)) (hw _ (List.mem_of_getElem? (i := 38) rfl)) (by decide) (by decide)) (g := (mkF m 144 #[.val (.int p1), .val (.int p2), .val (.int p3), .val (.int p4), .val (.int (0 : Int32)), .val (.int ca), .val (.int cb), .val (.int cf), .val (.ref bc), .val (.ref so), .val (.int (0 : Int32))] [(.int (0 : Int32)), (.ref so)])) rfl (by rw [hml]; rfl) (argsL := [(.ref so), (.int (0 : Int32))]) (rest := []) (lenOf pd_18 rfl) rfl (by show 2 * 0 + _ ≤ _; exact Nat.le_of_eq rfl) (hb hby at_144) (fun _ _ => ⟨rfl, eh272, (by decide : 4 + 0 ≤ _), (by decide : 24 + 0 ≤ _)⟩)
      obtain ⟨Lc275, hQ275, X275⟩ := own_out hP275 X275
      clear hP275
      dsimp only [Pt.U, Pt.locs, Pt.cells, Pt.slots] at X275 st275 hQ275
      obtain ⟨rfl, Nq275, eh275⟩ := hQ275
      have N275 := Fr.app N272 Nq275
      have pr276 : ∀ t, Steps p.tables e below (T275.setTop (mkF m 147 #[.val (.int p1), .val (.int p2), .val (.int p3), .val (.int p4), .val (.int (0 : Int32)), .val (.int ca), .val (.int cb), .val (.int cf), .val (.ref bc), .val (.ref so), .val (.int (0 : Int32))] [(.int (own_tri ca cb))])) t → G t := fun t ks => pr274 t (st275 t ks)
      have htri : own_tri ca cb = (0 : Int32) := own_triA eca hca' y1
      rw [htri] at pr276
      have pr277 : ∀ t, Steps p.tables e below (T275.setTop (mkF m 157 #[.val (.int p1), .val (.int p2), .val (.int p3), .val (.int p4), .val (.int (0 : Int32)), .val (.int ca), .val (.int cb), .val (.int cf), .val (.ref bc), .val (.ref so), .val (.int (0 : Int32))] [(.int (1 : Int32))])) t → G t := fun t ks => pr276 t (by
          refine XS.iload X275.here hx rfl (hb hby at_147) rfl ?_
          refine XS.icmpNo X275.here hx rfl (hb hby at_149) rfl (teq (rfl : (0 : Int32) = (0 : Int32))).2 ?_
          refine XS.iconst X275.here hx rfl (hb hby at_152) ?_
          refine XS.goto X275.here hx rfl (pc0 := 153) (pc' := 157) rfl (hb hby at_153) (by decide) (by decide) ?_
          exact ks)
      obtain ⟨fs, hr, hrun, hended, hW, hsame⟩ := X275.leave (v := some (.int 1)) (fun h => by rw [Bd.returns] at h; cases h)
      refine ⟨_, _, hG _ (pr277 _ ?_), hrun, hended, _, _, rfl, ?_, ⟨_, rfl⟩, hW, hsame.mono (by decide) (by decide)⟩
      · exact retN X275 hx (t := .boolean) Bd.returns (by simp) (hb hby at_157) (by rw [show nar .boolean (1 : Int32) = 1 from rfl]; exact hr)
      · show Q0 n0 _ T275.heap _
        rw [eh275]
        exact ⟨rfl, N275⟩
    · have pr278 : ∀ t, Steps p.tables e below (T272.setTop (mkF m 127 #[.val (.int p1), .val (.int p2), .val (.int p3), .val (.int p4), .val (.int (0 : Int32)), .val (.int ca), .val (.int cb), .val (.int cf), .val (.ref bc), .val (.ref so), .unset] [(.int cb)])) t → G t := fun t ks => pr273 t (by
          refine XS.ifNo X272.here hx rfl (hb hby at_122) rfl ((if0 _ _).trans (feq y1).1) ?_
          refine XS.iload X272.here hx rfl (hb hby at_125) rfl ?_
          exact ks)
      obtain ⟨_, _, ⟨T279, L279, k279, n279⟩, -, X279, hP279, st279⟩ := Jvm.LawKit.callS X272 hx (y := (⟨"com/example/wirebind/wirebind/PercentEncodingIsPercentTripletPinLaw", "hex", "(C)Z"⟩ : MethodName)) hown (mvT hZ (hw _ (List.mem_of_getElem? (i := 32) rfl))) (mvT hZ (hw _ (List.mem_of_getElem? (i := 33) rfl))) (mvT hZ (hw _ (List.mem_of_getElem? (i := 34) rfl))) (mvT hZ (hw _ (List.mem_of_getElem? (i := 35) rfl))) (by decide) (backOf (W := 0) (rmHX l Z a0 hw hr0 [] cb T269.heap n0 Z269) hZ (hw _ (List.mem_of_getElem? (i := 35) rfl)) (hw _ (List.mem_of_getElem? (i := 34) rfl)) (by decide) (by decide)) (g := (mkF m 127 #[.val (.int p1), .val (.int p2), .val (.int p3), .val (.int p4), .val (.int (0 : Int32)), .val (.int ca), .val (.int cb), .val (.int cf), .val (.ref bc), .val (.ref so), .unset] [(.int cb)])) rfl (by rw [hml]; rfl) (argsL := [(.int cb)]) (rest := []) (lenOf pd_16 rfl) rfl (by show 2 * 0 + _ ≤ _; exact Nat.le_of_eq rfl) (hb hby at_127) (fun _ _ => ⟨rfl, eh272, (by decide : 4 + 0 ≤ _), (by decide : 24 + 0 ≤ _)⟩)
      obtain ⟨Lc279, hQ279, X279⟩ := own_out hP279 X279
      clear hP279
      dsimp only [Pt.U, Pt.locs, Pt.cells, Pt.slots] at X279 st279 hQ279
      obtain ⟨rfl, Nq279, eh279⟩ := hQ279
      have N279 := Fr.app N272 Nq279
      have pr280 : ∀ t, Steps p.tables e below (T279.setTop (mkF m 130 #[.val (.int p1), .val (.int p2), .val (.int p3), .val (.int p4), .val (.int (0 : Int32)), .val (.int ca), .val (.int cb), .val (.int cf), .val (.ref bc), .val (.ref so), .unset] [(.int (own_hex cb))])) t → G t := fun t ks => pr278 t (st279 t ks)
      by_cases y2 : (own_hex cb) = (0 : Int32)
      · have pr281 : ∀ t, Steps p.tables e below (T279.setTop (mkF m 144 #[.val (.int p1), .val (.int p2), .val (.int p3), .val (.int p4), .val (.int (0 : Int32)), .val (.int ca), .val (.int cb), .val (.int cf), .val (.ref bc), .val (.ref so), .val (.int (0 : Int32))] [(.int (0 : Int32)), (.ref so)])) t → G t := fun t ks => pr280 t (by
            refine XS.ifYes X279.here hx rfl (pc0 := 130) (pc' := 137) rfl (hb hby at_130) rfl ((if0 _ _).trans (teq y2).1) (by decide) (by decide) ?_
            refine XS.iconst X279.here hx rfl (hb hby at_137) ?_
            refine XS.istore X279.here hx rfl (hb hby at_138) rfl (l' := #[.val (.int p1), .val (.int p2), .val (.int p3), .val (.int p4), .val (.int (0 : Int32)), .val (.int ca), .val (.int cb), .val (.int cf), .val (.ref bc), .val (.ref so), .val (.int (0 : Int32))]) rfl ?_
            refine XS.aload X279.here hx rfl (hb hby at_140) rfl rfl ?_
            refine XS.iload X279.here hx rfl (hb hby at_142) rfl ?_
            exact ks)
        obtain ⟨_, _, ⟨T282, L282, k282, n282⟩, -, X282, hP282, st282⟩ := Jvm.LawKit.callS X279 hx (y := (⟨"com/example/wirebind/wirebind/PercentEncoding", "isPercentTriplet", "(Ljava/lang/String;I)Z"⟩ : MethodName)) hown (mvT hZ (hw _ (List.mem_of_getElem? (i := 36) rfl))) (mvT hZ (hw _ (List.mem_of_getElem? (i := 37) rfl))) (mvT hZ (hw _ (List.mem_of_getElem? (i := 38) rfl))) (mvT hZ (hw _ (List.mem_of_getElem? (i := 39) rfl))) (by decide) (backOf (W := 0) (rmT1 l Z a0 hw hr0 [] so (0 : Int32) b k vs fv cs 0 ca cb T269.heap n0 Z269 hS J_ rfl hk (by decide) (own_strL hstr 1 (Nat.le_of_ble_eq_true rfl) (hch _ (by decide))) (own_strU hstr 1 (Nat.le_of_ble_eq_true rfl) (hch _ (by decide))) (own_strL hstr 2 (Nat.le_of_ble_eq_true rfl) (hch _ (by decide))) (own_strU hstr 2 (Nat.le_of_ble_eq_true rfl) (hch _ (by decide)))) hZ (hw _ (List.mem_of_getElem? (i := 39) rfl)) (hw _ (List.mem_of_getElem? (i := 38) rfl)) (by decide) (by decide)) (g := (mkF m 144 #[.val (.int p1), .val (.int p2), .val (.int p3), .val (.int p4), .val (.int (0 : Int32)), .val (.int ca), .val (.int cb), .val (.int cf), .val (.ref bc), .val (.ref so), .val (.int (0 : Int32))] [(.int (0 : Int32)), (.ref so)])) rfl (by rw [hml]; rfl) (argsL := [(.ref so), (.int (0 : Int32))]) (rest := []) (lenOf pd_18 rfl) rfl (by show 2 * 0 + _ ≤ _; exact Nat.le_of_eq rfl) (hb hby at_144) (fun _ _ => ⟨rfl, eh279, (by decide : 4 + 0 ≤ _), (by decide : 24 + 0 ≤ _)⟩)
        obtain ⟨Lc282, hQ282, X282⟩ := own_out hP282 X282
        clear hP282
        dsimp only [Pt.U, Pt.locs, Pt.cells, Pt.slots] at X282 st282 hQ282
        obtain ⟨rfl, Nq282, eh282⟩ := hQ282
        have N282 := Fr.app N279 Nq282
        have pr283 : ∀ t, Steps p.tables e below (T282.setTop (mkF m 147 #[.val (.int p1), .val (.int p2), .val (.int p3), .val (.int p4), .val (.int (0 : Int32)), .val (.int ca), .val (.int cb), .val (.int cf), .val (.ref bc), .val (.ref so), .val (.int (0 : Int32))] [(.int (own_tri ca cb))])) t → G t := fun t ks => pr281 t (st282 t ks)
        have htri : own_tri ca cb = (0 : Int32) := own_triB eca hca' ecb hcb' y1 y2
        rw [htri] at pr283
        have pr284 : ∀ t, Steps p.tables e below (T282.setTop (mkF m 157 #[.val (.int p1), .val (.int p2), .val (.int p3), .val (.int p4), .val (.int (0 : Int32)), .val (.int ca), .val (.int cb), .val (.int cf), .val (.ref bc), .val (.ref so), .val (.int (0 : Int32))] [(.int (1 : Int32))])) t → G t := fun t ks => pr283 t (by
            refine XS.iload X282.here hx rfl (hb hby at_147) rfl ?_
            refine XS.icmpNo X282.here hx rfl (hb hby at_149) rfl (teq (rfl : (0 : Int32) = (0 : Int32))).2 ?_
            refine XS.iconst X282.here hx rfl (hb hby at_152) ?_
            refine XS.goto X282.here hx rfl (pc0 := 153) (pc' := 157) rfl (hb hby at_153) (by decide) (by decide) ?_
            exact ks)
        obtain ⟨fs, hr, hrun, hended, hW, hsame⟩ := X282.leave (v := some (.int 1)) (fun h => by rw [Bd.returns] at h; cases h)
        refine ⟨_, _, hG _ (pr284 _ ?_), hrun, hended, _, _, rfl, ?_, ⟨_, rfl⟩, hW, hsame.mono (by decide) (by decide)⟩
        · exact retN X282 hx (t := .boolean) Bd.returns (by simp) (hb hby at_157) (by rw [show nar .boolean (1 : Int32) = 1 from rfl]; exact hr)
        · show Q0 n0 _ T282.heap _
          rw [eh282]
          exact ⟨rfl, N282⟩
      · have pr285 : ∀ t, Steps p.tables e below (T279.setTop (mkF m 144 #[.val (.int p1), .val (.int p2), .val (.int p3), .val (.int p4), .val (.int (0 : Int32)), .val (.int ca), .val (.int cb), .val (.int cf), .val (.ref bc), .val (.ref so), .val (.int (1 : Int32))] [(.int (0 : Int32)), (.ref so)])) t → G t := fun t ks => pr280 t (by
            refine XS.ifNo X279.here hx rfl (hb hby at_130) rfl ((if0 _ _).trans (feq y2).1) ?_
            refine XS.iconst X279.here hx rfl (hb hby at_133) ?_
            refine XS.goto X279.here hx rfl (pc0 := 134) (pc' := 138) rfl (hb hby at_134) (by decide) (by decide) ?_
            refine XS.istore X279.here hx rfl (hb hby at_138) rfl (l' := #[.val (.int p1), .val (.int p2), .val (.int p3), .val (.int p4), .val (.int (0 : Int32)), .val (.int ca), .val (.int cb), .val (.int cf), .val (.ref bc), .val (.ref so), .val (.int (1 : Int32))]) rfl ?_
            refine XS.aload X279.here hx rfl (hb hby at_140) rfl rfl ?_
            refine XS.iload X279.here hx rfl (hb hby at_142) rfl ?_
            exact ks)
        obtain ⟨_, _, ⟨T286, L286, k286, n286⟩, -, X286, hP286, st286⟩ := Jvm.LawKit.callS X279 hx (y := (⟨"com/example/wirebind/wirebind/PercentEncoding", "isPercentTriplet", "(Ljava/lang/String;I)Z"⟩ : MethodName)) hown (mvT hZ (hw _ (List.mem_of_getElem? (i := 36) rfl))) (mvT hZ (hw _ (List.mem_of_getElem? (i := 37) rfl))) (mvT hZ (hw _ (List.mem_of_getElem? (i := 38) rfl))) (mvT hZ (hw _ (List.mem_of_getElem? (i := 39) rfl))) (by decide) (backOf (W := 0) (rmT1 l Z a0 hw hr0 [] so (0 : Int32) b k vs fv cs 0 ca cb T269.heap n0 Z269 hS J_ rfl hk (by decide) (own_strL hstr 1 (Nat.le_of_ble_eq_true rfl) (hch _ (by decide))) (own_strU hstr 1 (Nat.le_of_ble_eq_true rfl) (hch _ (by decide))) (own_strL hstr 2 (Nat.le_of_ble_eq_true rfl) (hch _ (by decide))) (own_strU hstr 2 (Nat.le_of_ble_eq_true rfl) (hch _ (by decide)))) hZ (hw _ (List.mem_of_getElem? (i := 39) rfl)) (hw _ (List.mem_of_getElem? (i := 38) rfl)) (by decide) (by decide)) (g := (mkF m 144 #[.val (.int p1), .val (.int p2), .val (.int p3), .val (.int p4), .val (.int (0 : Int32)), .val (.int ca), .val (.int cb), .val (.int cf), .val (.ref bc), .val (.ref so), .val (.int (1 : Int32))] [(.int (0 : Int32)), (.ref so)])) rfl (by rw [hml]; rfl) (argsL := [(.ref so), (.int (0 : Int32))]) (rest := []) (lenOf pd_18 rfl) rfl (by show 2 * 0 + _ ≤ _; exact Nat.le_of_eq rfl) (hb hby at_144) (fun _ _ => ⟨rfl, eh279, (by decide : 4 + 0 ≤ _), (by decide : 24 + 0 ≤ _)⟩)
        obtain ⟨Lc286, hQ286, X286⟩ := own_out hP286 X286
        clear hP286
        dsimp only [Pt.U, Pt.locs, Pt.cells, Pt.slots] at X286 st286 hQ286
        obtain ⟨rfl, Nq286, eh286⟩ := hQ286
        have N286 := Fr.app N279 Nq286
        have pr287 : ∀ t, Steps p.tables e below (T286.setTop (mkF m 147 #[.val (.int p1), .val (.int p2), .val (.int p3), .val (.int p4), .val (.int (0 : Int32)), .val (.int ca), .val (.int cb), .val (.int cf), .val (.ref bc), .val (.ref so), .val (.int (1 : Int32))] [(.int (own_tri ca cb))])) t → G t := fun t ks => pr285 t (st286 t ks)
        have htri : own_tri ca cb = (1 : Int32) := own_triC eca hca' ecb hcb' y1 y2
        rw [htri] at pr287
        have pr288 : ∀ t, Steps p.tables e below (T286.setTop (mkF m 157 #[.val (.int p1), .val (.int p2), .val (.int p3), .val (.int p4), .val (.int (0 : Int32)), .val (.int ca), .val (.int cb), .val (.int cf), .val (.ref bc), .val (.ref so), .val (.int (1 : Int32))] [(.int (1 : Int32))])) t → G t := fun t ks => pr287 t (by
            refine XS.iload X286.here hx rfl (hb hby at_147) rfl ?_
            refine XS.icmpNo X286.here hx rfl (hb hby at_149) rfl (teq (rfl : (1 : Int32) = (1 : Int32))).2 ?_
            refine XS.iconst X286.here hx rfl (hb hby at_152) ?_
            refine XS.goto X286.here hx rfl (pc0 := 153) (pc' := 157) rfl (hb hby at_153) (by decide) (by decide) ?_
            exact ks)
        obtain ⟨fs, hr, hrun, hended, hW, hsame⟩ := X286.leave (v := some (.int 1)) (fun h => by rw [Bd.returns] at h; cases h)
        refine ⟨_, _, hG _ (pr288 _ ?_), hrun, hended, _, _, rfl, ?_, ⟨_, rfl⟩, hW, hsame.mono (by decide) (by decide)⟩
        · exact retN X286 hx (t := .boolean) Bd.returns (by simp) (hb hby at_157) (by rw [show nar .boolean (1 : Int32) = 1 from rfl]; exact hr)
        · show Q0 n0 _ T286.heap _
          rw [eh286]
          exact ⟨rfl, N286⟩
  · rw [(show ix = (1 : Int32) from eix)] at pr257
    obtain ⟨T289, h289, X289, e289, W289, V289, st289⟩ := ia_stC X255 hx hZ e255 V_bc (j := (1 : Int32)) 1 rfl (by decide) (Nat.le_of_ble_eq_true rfl) (y := (37 : Int32)) rfl (g := (mkF m 65 #[.val (.int p1), .val (.int p2), .val (.int p3), .val (.int p4), .val (.int (1 : Int32)), .val (.int ca), .val (.int cb), .val (.int cf), .val (.ref bc), .unset, .unset] [(.int (37 : Int32)), (.int (1 : Int32)), (.ref bc)])) rfl rfl (hb hby at_65)
    replace V_bc := V289
    replace J_ := J_.wr W289
    have N289 := Fr.snoc X289 N255 g_bc
    have Z289 : n0 ≤ h289.size := Nat.le_trans Z255 (Keep.of_wr W289).1
    have pr290 : ∀ t, Steps p.tables e below (T289.setTop (mkF m 66 #[.val (.int p1), .val (.int p2), .val (.int p3), .val (.int p4), .val (.int (1 : Int32)), .val (.int ca), .val (.int cb), .val (.int cf), .val (.ref bc), .unset, .unset] [])) t → G t := fun t ks => pr257 t (st289 t ks)
    have pr291 : ∀ t, Steps p.tables e below (T289.setTop (mkF m 82 #[.val (.int p1), .val (.int p2), .val (.int p3), .val (.int p4), .val (.int (1 : Int32)), .val (.int ca), .val (.int cb), .val (.int cf), .val (.ref bc), .unset, .unset] [(.int ca), (.int ((1 : Int32) + (1 : Int32))), (.ref bc)])) t → G t := fun t ks => pr290 t (by
        refine XS.iload X289.here hx rfl (hb hby at_66) rfl ?_
        refine XS.iconst X289.here hx rfl (hb hby at_68) ?_
        refine XS.iadd X289.here hx rfl (hb hby at_69) rfl ?_
        refine XS.iconst X289.here hx rfl (hb hby at_70) ?_
        refine XS.icmpNo X289.here hx rfl (hb hby at_71) rfl (tlt (show (1 : Int32) + (1 : Int32) < (5 : Int32) by decide)).2.1 ?_
        refine XS.aload X289.here hx rfl (hb hby at_74) rfl rfl ?_
        refine XS.iload X289.here hx rfl (hb hby at_76) rfl ?_
        refine XS.iconst X289.here hx rfl (hb hby at_78) ?_
        refine XS.iadd X289.here hx rfl (hb hby at_79) rfl ?_
        refine XS.iload X289.here hx rfl (hb hby at_80) rfl ?_
        exact ks)
    rw [(show (1 : Int32) + (1 : Int32) = (2 : Int32) from rfl)] at pr291
    obtain ⟨T292, h292, X292, e292, W292, V292, st292⟩ := ia_stC X289 hx hZ e289 V_bc (j := (2 : Int32)) 2 rfl (by decide) (Nat.le_of_ble_eq_true rfl) (y := ca) (own_narCh eca hca') (g := (mkF m 82 #[.val (.int p1), .val (.int p2), .val (.int p3), .val (.int p4), .val (.int (1 : Int32)), .val (.int ca), .val (.int cb), .val (.int cf), .val (.ref bc), .unset, .unset] [(.int ca), (.int (2 : Int32)), (.ref bc)])) rfl rfl (hb hby at_82)
    replace V_bc := V292
    replace J_ := J_.wr W292
    have N292 := Fr.snoc X292 N289 g_bc
    have Z292 : n0 ≤ h292.size := Nat.le_trans Z289 (Keep.of_wr W292).1
    have pr293 : ∀ t, Steps p.tables e below (T292.setTop (mkF m 83 #[.val (.int p1), .val (.int p2), .val (.int p3), .val (.int p4), .val (.int (1 : Int32)), .val (.int ca), .val (.int cb), .val (.int cf), .val (.ref bc), .unset, .unset] [])) t → G t := fun t ks => pr291 t (st292 t ks)
    have pr294 : ∀ t, Steps p.tables e below (T292.setTop (mkF m 99 #[.val (.int p1), .val (.int p2), .val (.int p3), .val (.int p4), .val (.int (1 : Int32)), .val (.int ca), .val (.int cb), .val (.int cf), .val (.ref bc), .unset, .unset] [(.int cb), (.int ((1 : Int32) + (2 : Int32))), (.ref bc)])) t → G t := fun t ks => pr293 t (by
        refine XS.iload X292.here hx rfl (hb hby at_83) rfl ?_
        refine XS.iconst X292.here hx rfl (hb hby at_85) ?_
        refine XS.iadd X292.here hx rfl (hb hby at_86) rfl ?_
        refine XS.iconst X292.here hx rfl (hb hby at_87) ?_
        refine XS.icmpNo X292.here hx rfl (hb hby at_88) rfl (tlt (show (1 : Int32) + (2 : Int32) < (5 : Int32) by decide)).2.1 ?_
        refine XS.aload X292.here hx rfl (hb hby at_91) rfl rfl ?_
        refine XS.iload X292.here hx rfl (hb hby at_93) rfl ?_
        refine XS.iconst X292.here hx rfl (hb hby at_95) ?_
        refine XS.iadd X292.here hx rfl (hb hby at_96) rfl ?_
        refine XS.iload X292.here hx rfl (hb hby at_97) rfl ?_
        exact ks)
    rw [(show (1 : Int32) + (2 : Int32) = (3 : Int32) from rfl)] at pr294
    obtain ⟨T295, h295, X295, e295, W295, V295, st295⟩ := ia_stC X292 hx hZ e292 V_bc (j := (3 : Int32)) 3 rfl (by decide) (Nat.le_of_ble_eq_true rfl) (y := cb) (own_narCh ecb hcb') (g := (mkF m 99 #[.val (.int p1), .val (.int p2), .val (.int p3), .val (.int p4), .val (.int (1 : Int32)), .val (.int ca), .val (.int cb), .val (.int cf), .val (.ref bc), .unset, .unset] [(.int cb), (.int (3 : Int32)), (.ref bc)])) rfl rfl (hb hby at_99)
    replace V_bc := V295
    replace J_ := J_.wr W295
    have N295 := Fr.snoc X295 N292 g_bc
    have Z295 : n0 ≤ h295.size := Nat.le_trans Z292 (Keep.of_wr W295).1
    have pr296 : ∀ t, Steps p.tables e below (T295.setTop (mkF m 100 #[.val (.int p1), .val (.int p2), .val (.int p3), .val (.int p4), .val (.int (1 : Int32)), .val (.int ca), .val (.int cb), .val (.int cf), .val (.ref bc), .unset, .unset] [])) t → G t := fun t ks => pr294 t (st295 t ks)
    replace V_bc : CA Z h295 bc [cf, (37 : Int32), ca, cb, cf] := ⟨⟨k240, V_bc⟩, Nat.le_of_ble_eq_true rfl⟩
    have hch : ∀ i, i < 5 → ∃ q : Nat, q < 65536 ∧ [cf, (37 : Int32), ca, cb, cf].getD i 0 = Int32.ofNat q := by
      intro i hi
      match i, hi with
      | 0, _ => exact ⟨_, hcf', ecf⟩
      | 1, _ => exact ⟨37, by decide, rfl⟩
      | 2, _ => exact ⟨_, hca', eca⟩
      | 3, _ => exact ⟨_, hcb', ecb⟩
      | 4, _ => exact ⟨_, hcf', ecf⟩
    obtain ⟨T297, h297, X297, e297, E297, A297, D297, -, st297⟩ := newO X295 hx hZ hown (hw _ (List.mem_of_getElem? (i := 3) rfl)) (hw _ (List.mem_of_getElem? (i := 4) rfl)) (hw _ (List.mem_of_getElem? (i := 5) rfl)) e295 (g := (mkF m 100 #[.val (.int p1), .val (.int p2), .val (.int p3), .val (.int p4), .val (.int (1 : Int32)), .val (.int ca), .val (.int cb), .val (.int cf), .val (.ref bc), .unset, .unset] [])) rfl (hb hby at_100) (by decide) (by decide)
    obtain ⟨so, g297⟩ : ∃ z, z = h295.size := ⟨_, rfl⟩
    rw [← g297] at A297 D297 st297
    have ne_bc_so : bc ≠ so := Nat.ne_of_lt (Nat.lt_of_lt_of_le V_bc.lt (Nat.le_of_eq g297.symm))
    have g_so : n0 ≤ so := Nat.le_trans Z295 (Nat.le_of_eq g297.symm)
    replace J_ := J_.ext E297
    replace V_bc := V_bc.ext E297
    have E_so := A297
    have F_so_coder : Fld Z h297 so "java/lang/String" "coder" "B" (.int (0 : Int32)) := D297 (Or.inr (hw _ (List.mem_of_getElem? (i := 29) rfl))) (ty := .byte) (by decide)
    have F_so_value : Fld Z h297 so "java/lang/String" "value" "[B" .null := D297 (Or.inr (hw _ (List.mem_of_getElem? (i := 31) rfl))) (ty := (.array .byte)) (by decide)
    have Z297 : n0 ≤ h297.size := Nat.le_trans Z295 E297.1
    have pr298 : ∀ t, Steps p.tables e below (T297.setTop (mkF m 103 #[.val (.int p1), .val (.int p2), .val (.int p3), .val (.int p4), .val (.int (1 : Int32)), .val (.int ca), .val (.int cb), .val (.int cf), .val (.ref bc), .unset, .unset] [(.ref so)])) t → G t := fun t ks => pr296 t (st297 t ks)
    have pr299 : ∀ t, Steps p.tables e below (T297.setTop (mkF m 106 #[.val (.int p1), .val (.int p2), .val (.int p3), .val (.int p4), .val (.int (1 : Int32)), .val (.int ca), .val (.int cb), .val (.int cf), .val (.ref bc), .unset, .unset] [(.ref bc), (.ref so), (.ref so)])) t → G t := fun t ks => pr298 t (by
        refine XS.dup X297.here hx rfl (hb hby at_103) rfl rfl ?_
        refine XS.aload X297.here hx rfl (hb hby at_104) rfl rfl ?_
        exact ks)
    obtain ⟨_, _, ⟨T300, L300, k300, n300⟩, -, X300, hP300, st300⟩ := X297.specialBack hx (y := (⟨"java/lang/String", "<init>", "([C)V"⟩ : MethodName)) rfl hown (mvT hZ (hw _ (List.mem_of_getElem? (i := 6) rfl))) (mvT hZ (hw _ (List.mem_of_getElem? (i := 7) rfl))) (mvT hZ (hw _ (List.mem_of_getElem? (i := 8) rfl))) (by decide) (backOf (W := 1) (rm1 l Z a0 hw hr0 [] so bc cf (37 : Int32) ca cb cf fv cs h297 n0 Z297 E_so F_so_value F_so_coder V_bc hch g_so (Ne.symm ne_bc_so) J_) hZ (hw _ (List.mem_of_getElem? (i := 8) rfl)) (hw _ (List.mem_of_getElem? (i := 5) rfl)) (by decide) (by decide)) (g := (mkF m 106 #[.val (.int p1), .val (.int p2), .val (.int p3), .val (.int p4), .val (.int (1 : Int32)), .val (.int ca), .val (.int cb), .val (.int cf), .val (.ref bc), .unset, .unset] [(.ref bc), (.ref so), (.ref so)])) rfl (by rw [hml]; rfl) (Steps.refl _) (a := so) (argsL := [(.ref bc)]) (rest := [(.ref so)]) (lenOf pd_17 rfl) rfl (by show 2 * 0 + _ ≤ _; exact Nat.le_of_eq rfl) (hb hby at_106) (fun _ _ => ⟨rfl, e297, (by decide : 2 + 2 ≤ _), (by decide : 9 + 15 ≤ _)⟩)
    obtain ⟨Lc300, hQ300, X300⟩ := own_out hP300 X300
    clear hP300
    dsimp only [Pt.U, Pt.locs, Pt.cells, Pt.slots] at X300 st300 hQ300
    obtain ⟨rfl, Nq300, Kq300, b, k, vs, hS, hstr⟩ := hQ300
    replace J_ := J_.keep Kq300 (allS g_so all0)
    replace V_bc := V_bc.keep Kq300 (ninS ne_bc_so nin0)
    replace E_so := E_so.keep Kq300
    have Z300 : n0 ≤ T300.heap.size := Nat.le_trans Z297 Kq300.1
    have N300 := Fr.app N295 Nq300
    have pr301 : ∀ t, Steps p.tables e below (T300.setTop (mkF m 109 #[.val (.int p1), .val (.int p2), .val (.int p3), .val (.int p4), .val (.int (1 : Int32)), .val (.int ca), .val (.int cb), .val (.int cf), .val (.ref bc), .unset, .unset] [(.ref so)])) t → G t := fun t ks => pr299 t (st300.trans ks)
    have hk := own_strK rfl hstr
    have pr302 : ∀ t, Steps p.tables e below (T300.setTop (mkF m 119 #[.val (.int p1), .val (.int p2), .val (.int p3), .val (.int p4), .val (.int (1 : Int32)), .val (.int ca), .val (.int cb), .val (.int cf), .val (.ref bc), .val (.ref so), .unset] [(.int ca)])) t → G t := fun t ks => pr301 t (by
        refine XS.astore X300.here hx rfl (hb hby at_109) rfl rfl (l' := #[.val (.int p1), .val (.int p2), .val (.int p3), .val (.int p4), .val (.int (1 : Int32)), .val (.int ca), .val (.int cb), .val (.int cf), .val (.ref bc), .val (.ref so), .unset]) rfl ?_
        refine XS.iload X300.here hx rfl (hb hby at_111) rfl ?_
        refine XS.iconst X300.here hx rfl (hb hby at_113) ?_
        refine XS.icmpNo X300.here hx rfl (hb hby at_114) rfl (flt (by decide)).2.2.1 ?_
        refine XS.iload X300.here hx rfl (hb hby at_117) rfl ?_
        exact ks)
    obtain ⟨_, _, ⟨T303, L303, k303, n303⟩, -, X303, hP303, st303⟩ := Jvm.LawKit.callS X300 hx (y := (⟨"com/example/wirebind/wirebind/PercentEncodingIsPercentTripletPinLaw", "hex", "(C)Z"⟩ : MethodName)) hown (mvT hZ (hw _ (List.mem_of_getElem? (i := 32) rfl))) (mvT hZ (hw _ (List.mem_of_getElem? (i := 33) rfl))) (mvT hZ (hw _ (List.mem_of_getElem? (i := 34) rfl))) (mvT hZ (hw _ (List.mem_of_getElem? (i := 35) rfl))) (by decide) (backOf (W := 0) (rmHX l Z a0 hw hr0 [] ca T300.heap n0 Z300) hZ (hw _ (List.mem_of_getElem? (i := 35) rfl)) (hw _ (List.mem_of_getElem? (i := 34) rfl)) (by decide) (by decide)) (g := (mkF m 119 #[.val (.int p1), .val (.int p2), .val (.int p3), .val (.int p4), .val (.int (1 : Int32)), .val (.int ca), .val (.int cb), .val (.int cf), .val (.ref bc), .val (.ref so), .unset] [(.int ca)])) rfl (by rw [hml]; rfl) (argsL := [(.int ca)]) (rest := []) (lenOf pd_16 rfl) rfl (by show 2 * 0 + _ ≤ _; exact Nat.le_of_eq rfl) (hb hby at_119) (fun _ _ => ⟨rfl, rfl, (by decide : 4 + 0 ≤ _), (by decide : 24 + 0 ≤ _)⟩)
    obtain ⟨Lc303, hQ303, X303⟩ := own_out hP303 X303
    clear hP303
    dsimp only [Pt.U, Pt.locs, Pt.cells, Pt.slots] at X303 st303 hQ303
    obtain ⟨rfl, Nq303, eh303⟩ := hQ303
    have N303 := Fr.app N300 Nq303
    have pr304 : ∀ t, Steps p.tables e below (T303.setTop (mkF m 122 #[.val (.int p1), .val (.int p2), .val (.int p3), .val (.int p4), .val (.int (1 : Int32)), .val (.int ca), .val (.int cb), .val (.int cf), .val (.ref bc), .val (.ref so), .unset] [(.int (own_hex ca))])) t → G t := fun t ks => pr302 t (st303 t ks)
    by_cases y1 : (own_hex ca) = (0 : Int32)
    · have pr305 : ∀ t, Steps p.tables e below (T303.setTop (mkF m 144 #[.val (.int p1), .val (.int p2), .val (.int p3), .val (.int p4), .val (.int (1 : Int32)), .val (.int ca), .val (.int cb), .val (.int cf), .val (.ref bc), .val (.ref so), .val (.int (0 : Int32))] [(.int (1 : Int32)), (.ref so)])) t → G t := fun t ks => pr304 t (by
          refine XS.ifYes X303.here hx rfl (pc0 := 122) (pc' := 137) rfl (hb hby at_122) rfl ((if0 _ _).trans (teq y1).1) (by decide) (by decide) ?_
          refine XS.iconst X303.here hx rfl (hb hby at_137) ?_
          refine XS.istore X303.here hx rfl (hb hby at_138) rfl (l' := #[.val (.int p1), .val (.int p2), .val (.int p3), .val (.int p4), .val (.int (1 : Int32)), .val (.int ca), .val (.int cb), .val (.int cf), .val (.ref bc), .val (.ref so), .val (.int (0 : Int32))]) rfl ?_
          refine XS.aload X303.here hx rfl (hb hby at_140) rfl rfl ?_
          refine XS.iload X303.here hx rfl (hb hby at_142) rfl ?_
          exact ks)
      obtain ⟨_, _, ⟨T306, L306, k306, n306⟩, -, X306, hP306, st306⟩ := Jvm.LawKit.callS X303 hx (y := (⟨"com/example/wirebind/wirebind/PercentEncoding", "isPercentTriplet", "(Ljava/lang/String;I)Z"⟩ : MethodName)) hown (mvT hZ (hw _ (List.mem_of_getElem? (i := 36) rfl))) (mvT hZ (hw _ (List.mem_of_getElem? (i := 37) rfl))) (mvT hZ (hw _ (List.mem_of_getElem? (i := 38) rfl))) (mvT hZ (hw _ (List.mem_of_getElem? (i := 39) rfl))) (by decide) (backOf (W := 0) (rmT1 l Z a0 hw hr0 [] so (1 : Int32) b k vs fv cs 1 ca cb T300.heap n0 Z300 hS J_ rfl hk (by decide) (own_strL hstr 2 (Nat.le_of_ble_eq_true rfl) (hch _ (by decide))) (own_strU hstr 2 (Nat.le_of_ble_eq_true rfl) (hch _ (by decide))) (own_strL hstr 3 (Nat.le_of_ble_eq_true rfl) (hch _ (by decide))) (own_strU hstr 3 (Nat.le_of_ble_eq_true rfl) (hch _ (by decide)))) hZ (hw _ (List.mem_of_getElem? (i := 39) rfl)) (hw _ (List.mem_of_getElem? (i := 38) rfl)) (by decide) (by decide)) (g := (mkF m 144 #[.val (.int p1), .val (.int p2), .val (.int p3), .val (.int p4), .val (.int (1 : Int32)), .val (.int ca), .val (.int cb), .val (.int cf), .val (.ref bc), .val (.ref so), .val (.int (0 : Int32))] [(.int (1 : Int32)), (.ref so)])) rfl (by rw [hml]; rfl) (argsL := [(.ref so), (.int (1 : Int32))]) (rest := []) (lenOf pd_18 rfl) rfl (by show 2 * 0 + _ ≤ _; exact Nat.le_of_eq rfl) (hb hby at_144) (fun _ _ => ⟨rfl, eh303, (by decide : 4 + 0 ≤ _), (by decide : 24 + 0 ≤ _)⟩)
      obtain ⟨Lc306, hQ306, X306⟩ := own_out hP306 X306
      clear hP306
      dsimp only [Pt.U, Pt.locs, Pt.cells, Pt.slots] at X306 st306 hQ306
      obtain ⟨rfl, Nq306, eh306⟩ := hQ306
      have N306 := Fr.app N303 Nq306
      have pr307 : ∀ t, Steps p.tables e below (T306.setTop (mkF m 147 #[.val (.int p1), .val (.int p2), .val (.int p3), .val (.int p4), .val (.int (1 : Int32)), .val (.int ca), .val (.int cb), .val (.int cf), .val (.ref bc), .val (.ref so), .val (.int (0 : Int32))] [(.int (own_tri ca cb))])) t → G t := fun t ks => pr305 t (st306 t ks)
      have htri : own_tri ca cb = (0 : Int32) := own_triA eca hca' y1
      rw [htri] at pr307
      have pr308 : ∀ t, Steps p.tables e below (T306.setTop (mkF m 157 #[.val (.int p1), .val (.int p2), .val (.int p3), .val (.int p4), .val (.int (1 : Int32)), .val (.int ca), .val (.int cb), .val (.int cf), .val (.ref bc), .val (.ref so), .val (.int (0 : Int32))] [(.int (1 : Int32))])) t → G t := fun t ks => pr307 t (by
          refine XS.iload X306.here hx rfl (hb hby at_147) rfl ?_
          refine XS.icmpNo X306.here hx rfl (hb hby at_149) rfl (teq (rfl : (0 : Int32) = (0 : Int32))).2 ?_
          refine XS.iconst X306.here hx rfl (hb hby at_152) ?_
          refine XS.goto X306.here hx rfl (pc0 := 153) (pc' := 157) rfl (hb hby at_153) (by decide) (by decide) ?_
          exact ks)
      obtain ⟨fs, hr, hrun, hended, hW, hsame⟩ := X306.leave (v := some (.int 1)) (fun h => by rw [Bd.returns] at h; cases h)
      refine ⟨_, _, hG _ (pr308 _ ?_), hrun, hended, _, _, rfl, ?_, ⟨_, rfl⟩, hW, hsame.mono (by decide) (by decide)⟩
      · exact retN X306 hx (t := .boolean) Bd.returns (by simp) (hb hby at_157) (by rw [show nar .boolean (1 : Int32) = 1 from rfl]; exact hr)
      · show Q0 n0 _ T306.heap _
        rw [eh306]
        exact ⟨rfl, N306⟩
    · have pr309 : ∀ t, Steps p.tables e below (T303.setTop (mkF m 127 #[.val (.int p1), .val (.int p2), .val (.int p3), .val (.int p4), .val (.int (1 : Int32)), .val (.int ca), .val (.int cb), .val (.int cf), .val (.ref bc), .val (.ref so), .unset] [(.int cb)])) t → G t := fun t ks => pr304 t (by
          refine XS.ifNo X303.here hx rfl (hb hby at_122) rfl ((if0 _ _).trans (feq y1).1) ?_
          refine XS.iload X303.here hx rfl (hb hby at_125) rfl ?_
          exact ks)
      obtain ⟨_, _, ⟨T310, L310, k310, n310⟩, -, X310, hP310, st310⟩ := Jvm.LawKit.callS X303 hx (y := (⟨"com/example/wirebind/wirebind/PercentEncodingIsPercentTripletPinLaw", "hex", "(C)Z"⟩ : MethodName)) hown (mvT hZ (hw _ (List.mem_of_getElem? (i := 32) rfl))) (mvT hZ (hw _ (List.mem_of_getElem? (i := 33) rfl))) (mvT hZ (hw _ (List.mem_of_getElem? (i := 34) rfl))) (mvT hZ (hw _ (List.mem_of_getElem? (i := 35) rfl))) (by decide) (backOf (W := 0) (rmHX l Z a0 hw hr0 [] cb T300.heap n0 Z300) hZ (hw _ (List.mem_of_getElem? (i := 35) rfl)) (hw _ (List.mem_of_getElem? (i := 34) rfl)) (by decide) (by decide)) (g := (mkF m 127 #[.val (.int p1), .val (.int p2), .val (.int p3), .val (.int p4), .val (.int (1 : Int32)), .val (.int ca), .val (.int cb), .val (.int cf), .val (.ref bc), .val (.ref so), .unset] [(.int cb)])) rfl (by rw [hml]; rfl) (argsL := [(.int cb)]) (rest := []) (lenOf pd_16 rfl) rfl (by show 2 * 0 + _ ≤ _; exact Nat.le_of_eq rfl) (hb hby at_127) (fun _ _ => ⟨rfl, eh303, (by decide : 4 + 0 ≤ _), (by decide : 24 + 0 ≤ _)⟩)
      obtain ⟨Lc310, hQ310, X310⟩ := own_out hP310 X310
      clear hP310
      dsimp only [Pt.U, Pt.locs, Pt.cells, Pt.slots] at X310 st310 hQ310
      obtain ⟨rfl, Nq310, eh310⟩ := hQ310
      have N310 := Fr.app N303 Nq310
      have pr311 : ∀ t, Steps p.tables e below (T310.setTop (mkF m 130 #[.val (.int p1), .val (.int p2), .val (.int p3), .val (.int p4), .val (.int (1 : Int32)), .val (.int ca), .val (.int cb), .val (.int cf), .val (.ref bc), .val (.ref so), .unset] [(.int (own_hex cb))])) t → G t := fun t ks => pr309 t (st310 t ks)
      by_cases y2 : (own_hex cb) = (0 : Int32)
      · have pr312 : ∀ t, Steps p.tables e below (T310.setTop (mkF m 144 #[.val (.int p1), .val (.int p2), .val (.int p3), .val (.int p4), .val (.int (1 : Int32)), .val (.int ca), .val (.int cb), .val (.int cf), .val (.ref bc), .val (.ref so), .val (.int (0 : Int32))] [(.int (1 : Int32)), (.ref so)])) t → G t := fun t ks => pr311 t (by
            refine XS.ifYes X310.here hx rfl (pc0 := 130) (pc' := 137) rfl (hb hby at_130) rfl ((if0 _ _).trans (teq y2).1) (by decide) (by decide) ?_
            refine XS.iconst X310.here hx rfl (hb hby at_137) ?_
            refine XS.istore X310.here hx rfl (hb hby at_138) rfl (l' := #[.val (.int p1), .val (.int p2), .val (.int p3), .val (.int p4), .val (.int (1 : Int32)), .val (.int ca), .val (.int cb), .val (.int cf), .val (.ref bc), .val (.ref so), .val (.int (0 : Int32))]) rfl ?_
            refine XS.aload X310.here hx rfl (hb hby at_140) rfl rfl ?_
            refine XS.iload X310.here hx rfl (hb hby at_142) rfl ?_
            exact ks)
        obtain ⟨_, _, ⟨T313, L313, k313, n313⟩, -, X313, hP313, st313⟩ := Jvm.LawKit.callS X310 hx (y := (⟨"com/example/wirebind/wirebind/PercentEncoding", "isPercentTriplet", "(Ljava/lang/String;I)Z"⟩ : MethodName)) hown (mvT hZ (hw _ (List.mem_of_getElem? (i := 36) rfl))) (mvT hZ (hw _ (List.mem_of_getElem? (i := 37) rfl))) (mvT hZ (hw _ (List.mem_of_getElem? (i := 38) rfl))) (mvT hZ (hw _ (List.mem_of_getElem? (i := 39) rfl))) (by decide) (backOf (W := 0) (rmT1 l Z a0 hw hr0 [] so (1 : Int32) b k vs fv cs 1 ca cb T300.heap n0 Z300 hS J_ rfl hk (by decide) (own_strL hstr 2 (Nat.le_of_ble_eq_true rfl) (hch _ (by decide))) (own_strU hstr 2 (Nat.le_of_ble_eq_true rfl) (hch _ (by decide))) (own_strL hstr 3 (Nat.le_of_ble_eq_true rfl) (hch _ (by decide))) (own_strU hstr 3 (Nat.le_of_ble_eq_true rfl) (hch _ (by decide)))) hZ (hw _ (List.mem_of_getElem? (i := 39) rfl)) (hw _ (List.mem_of_getElem? (i := 38) rfl)) (by decide) (by decide)) (g := (mkF m 144 #[.val (.int p1), .val (.int p2), .val (.int p3), .val (.int p4), .val (.int (1 : Int32)), .val (.int ca), .val (.int cb), .val (.int cf), .val (.ref bc), .val (.ref so), .val (.int (0 : Int32))] [(.int (1 : Int32)), (.ref so)])) rfl (by rw [hml]; rfl) (argsL := [(.ref so), (.int (1 : Int32))]) (rest := []) (lenOf pd_18 rfl) rfl (by show 2 * 0 + _ ≤ _; exact Nat.le_of_eq rfl) (hb hby at_144) (fun _ _ => ⟨rfl, eh310, (by decide : 4 + 0 ≤ _), (by decide : 24 + 0 ≤ _)⟩)
        obtain ⟨Lc313, hQ313, X313⟩ := own_out hP313 X313
        clear hP313
        dsimp only [Pt.U, Pt.locs, Pt.cells, Pt.slots] at X313 st313 hQ313
        obtain ⟨rfl, Nq313, eh313⟩ := hQ313
        have N313 := Fr.app N310 Nq313
        have pr314 : ∀ t, Steps p.tables e below (T313.setTop (mkF m 147 #[.val (.int p1), .val (.int p2), .val (.int p3), .val (.int p4), .val (.int (1 : Int32)), .val (.int ca), .val (.int cb), .val (.int cf), .val (.ref bc), .val (.ref so), .val (.int (0 : Int32))] [(.int (own_tri ca cb))])) t → G t := fun t ks => pr312 t (st313 t ks)
        have htri : own_tri ca cb = (0 : Int32) := own_triB eca hca' ecb hcb' y1 y2
        rw [htri] at pr314
        have pr315 : ∀ t, Steps p.tables e below (T313.setTop (mkF m 157 #[.val (.int p1), .val (.int p2), .val (.int p3), .val (.int p4), .val (.int (1 : Int32)), .val (.int ca), .val (.int cb), .val (.int cf), .val (.ref bc), .val (.ref so), .val (.int (0 : Int32))] [(.int (1 : Int32))])) t → G t := fun t ks => pr314 t (by
            refine XS.iload X313.here hx rfl (hb hby at_147) rfl ?_
            refine XS.icmpNo X313.here hx rfl (hb hby at_149) rfl (teq (rfl : (0 : Int32) = (0 : Int32))).2 ?_
            refine XS.iconst X313.here hx rfl (hb hby at_152) ?_
            refine XS.goto X313.here hx rfl (pc0 := 153) (pc' := 157) rfl (hb hby at_153) (by decide) (by decide) ?_
            exact ks)
        obtain ⟨fs, hr, hrun, hended, hW, hsame⟩ := X313.leave (v := some (.int 1)) (fun h => by rw [Bd.returns] at h; cases h)
        refine ⟨_, _, hG _ (pr315 _ ?_), hrun, hended, _, _, rfl, ?_, ⟨_, rfl⟩, hW, hsame.mono (by decide) (by decide)⟩
        · exact retN X313 hx (t := .boolean) Bd.returns (by simp) (hb hby at_157) (by rw [show nar .boolean (1 : Int32) = 1 from rfl]; exact hr)
        · show Q0 n0 _ T313.heap _
          rw [eh313]
          exact ⟨rfl, N313⟩
      · have pr316 : ∀ t, Steps p.tables e below (T310.setTop (mkF m 144 #[.val (.int p1), .val (.int p2), .val (.int p3), .val (.int p4), .val (.int (1 : Int32)), .val (.int ca), .val (.int cb), .val (.int cf), .val (.ref bc), .val (.ref so), .val (.int (1 : Int32))] [(.int (1 : Int32)), (.ref so)])) t → G t := fun t ks => pr311 t (by
            refine XS.ifNo X310.here hx rfl (hb hby at_130) rfl ((if0 _ _).trans (feq y2).1) ?_
            refine XS.iconst X310.here hx rfl (hb hby at_133) ?_
            refine XS.goto X310.here hx rfl (pc0 := 134) (pc' := 138) rfl (hb hby at_134) (by decide) (by decide) ?_
            refine XS.istore X310.here hx rfl (hb hby at_138) rfl (l' := #[.val (.int p1), .val (.int p2), .val (.int p3), .val (.int p4), .val (.int (1 : Int32)), .val (.int ca), .val (.int cb), .val (.int cf), .val (.ref bc), .val (.ref so), .val (.int (1 : Int32))]) rfl ?_
            refine XS.aload X310.here hx rfl (hb hby at_140) rfl rfl ?_
            refine XS.iload X310.here hx rfl (hb hby at_142) rfl ?_
            exact ks)
        obtain ⟨_, _, ⟨T317, L317, k317, n317⟩, -, X317, hP317, st317⟩ := Jvm.LawKit.callS X310 hx (y := (⟨"com/example/wirebind/wirebind/PercentEncoding", "isPercentTriplet", "(Ljava/lang/String;I)Z"⟩ : MethodName)) hown (mvT hZ (hw _ (List.mem_of_getElem? (i := 36) rfl))) (mvT hZ (hw _ (List.mem_of_getElem? (i := 37) rfl))) (mvT hZ (hw _ (List.mem_of_getElem? (i := 38) rfl))) (mvT hZ (hw _ (List.mem_of_getElem? (i := 39) rfl))) (by decide) (backOf (W := 0) (rmT1 l Z a0 hw hr0 [] so (1 : Int32) b k vs fv cs 1 ca cb T300.heap n0 Z300 hS J_ rfl hk (by decide) (own_strL hstr 2 (Nat.le_of_ble_eq_true rfl) (hch _ (by decide))) (own_strU hstr 2 (Nat.le_of_ble_eq_true rfl) (hch _ (by decide))) (own_strL hstr 3 (Nat.le_of_ble_eq_true rfl) (hch _ (by decide))) (own_strU hstr 3 (Nat.le_of_ble_eq_true rfl) (hch _ (by decide)))) hZ (hw _ (List.mem_of_getElem? (i := 39) rfl)) (hw _ (List.mem_of_getElem? (i := 38) rfl)) (by decide) (by decide)) (g := (mkF m 144 #[.val (.int p1), .val (.int p2), .val (.int p3), .val (.int p4), .val (.int (1 : Int32)), .val (.int ca), .val (.int cb), .val (.int cf), .val (.ref bc), .val (.ref so), .val (.int (1 : Int32))] [(.int (1 : Int32)), (.ref so)])) rfl (by rw [hml]; rfl) (argsL := [(.ref so), (.int (1 : Int32))]) (rest := []) (lenOf pd_18 rfl) rfl (by show 2 * 0 + _ ≤ _; exact Nat.le_of_eq rfl) (hb hby at_144) (fun _ _ => ⟨rfl, eh310, (by decide : 4 + 0 ≤ _), (by decide : 24 + 0 ≤ _)⟩)
        obtain ⟨Lc317, hQ317, X317⟩ := own_out hP317 X317
        clear hP317
        dsimp only [Pt.U, Pt.locs, Pt.cells, Pt.slots] at X317 st317 hQ317
        obtain ⟨rfl, Nq317, eh317⟩ := hQ317
        have N317 := Fr.app N310 Nq317
        have pr318 : ∀ t, Steps p.tables e below (T317.setTop (mkF m 147 #[.val (.int p1), .val (.int p2), .val (.int p3), .val (.int p4), .val (.int (1 : Int32)), .val (.int ca), .val (.int cb), .val (.int cf), .val (.ref bc), .val (.ref so), .val (.int (1 : Int32))] [(.int (own_tri ca cb))])) t → G t := fun t ks => pr316 t (st317 t ks)
        have htri : own_tri ca cb = (1 : Int32) := own_triC eca hca' ecb hcb' y1 y2
        rw [htri] at pr318
        have pr319 : ∀ t, Steps p.tables e below (T317.setTop (mkF m 157 #[.val (.int p1), .val (.int p2), .val (.int p3), .val (.int p4), .val (.int (1 : Int32)), .val (.int ca), .val (.int cb), .val (.int cf), .val (.ref bc), .val (.ref so), .val (.int (1 : Int32))] [(.int (1 : Int32))])) t → G t := fun t ks => pr318 t (by
            refine XS.iload X317.here hx rfl (hb hby at_147) rfl ?_
            refine XS.icmpNo X317.here hx rfl (hb hby at_149) rfl (teq (rfl : (1 : Int32) = (1 : Int32))).2 ?_
            refine XS.iconst X317.here hx rfl (hb hby at_152) ?_
            refine XS.goto X317.here hx rfl (pc0 := 153) (pc' := 157) rfl (hb hby at_153) (by decide) (by decide) ?_
            exact ks)
        obtain ⟨fs, hr, hrun, hended, hW, hsame⟩ := X317.leave (v := some (.int 1)) (fun h => by rw [Bd.returns] at h; cases h)
        refine ⟨_, _, hG _ (pr319 _ ?_), hrun, hended, _, _, rfl, ?_, ⟨_, rfl⟩, hW, hsame.mono (by decide) (by decide)⟩
        · exact retN X317 hx (t := .boolean) Bd.returns (by simp) (hb hby at_157) (by rw [show nar .boolean (1 : Int32) = 1 from rfl]; exact hr)
        · show Q0 n0 _ T317.heap _
          rw [eh317]
          exact ⟨rfl, N317⟩
  · rw [(show ix = (2 : Int32) from eix)] at pr257
    obtain ⟨T320, h320, X320, e320, W320, V320, st320⟩ := ia_stC X255 hx hZ e255 V_bc (j := (2 : Int32)) 2 rfl (by decide) (Nat.le_of_ble_eq_true rfl) (y := (37 : Int32)) rfl (g := (mkF m 65 #[.val (.int p1), .val (.int p2), .val (.int p3), .val (.int p4), .val (.int (2 : Int32)), .val (.int ca), .val (.int cb), .val (.int cf), .val (.ref bc), .unset, .unset] [(.int (37 : Int32)), (.int (2 : Int32)), (.ref bc)])) rfl rfl (hb hby at_65)
    replace V_bc := V320
    replace J_ := J_.wr W320
    have N320 := Fr.snoc X320 N255 g_bc
    have Z320 : n0 ≤ h320.size := Nat.le_trans Z255 (Keep.of_wr W320).1
    have pr321 : ∀ t, Steps p.tables e below (T320.setTop (mkF m 66 #[.val (.int p1), .val (.int p2), .val (.int p3), .val (.int p4), .val (.int (2 : Int32)), .val (.int ca), .val (.int cb), .val (.int cf), .val (.ref bc), .unset, .unset] [])) t → G t := fun t ks => pr257 t (st320 t ks)
    have pr322 : ∀ t, Steps p.tables e below (T320.setTop (mkF m 82 #[.val (.int p1), .val (.int p2), .val (.int p3), .val (.int p4), .val (.int (2 : Int32)), .val (.int ca), .val (.int cb), .val (.int cf), .val (.ref bc), .unset, .unset] [(.int ca), (.int ((2 : Int32) + (1 : Int32))), (.ref bc)])) t → G t := fun t ks => pr321 t (by
        refine XS.iload X320.here hx rfl (hb hby at_66) rfl ?_
        refine XS.iconst X320.here hx rfl (hb hby at_68) ?_
        refine XS.iadd X320.here hx rfl (hb hby at_69) rfl ?_
        refine XS.iconst X320.here hx rfl (hb hby at_70) ?_
        refine XS.icmpNo X320.here hx rfl (hb hby at_71) rfl (tlt (show (2 : Int32) + (1 : Int32) < (5 : Int32) by decide)).2.1 ?_
        refine XS.aload X320.here hx rfl (hb hby at_74) rfl rfl ?_
        refine XS.iload X320.here hx rfl (hb hby at_76) rfl ?_
        refine XS.iconst X320.here hx rfl (hb hby at_78) ?_
        refine XS.iadd X320.here hx rfl (hb hby at_79) rfl ?_
        refine XS.iload X320.here hx rfl (hb hby at_80) rfl ?_
        exact ks)
    rw [(show (2 : Int32) + (1 : Int32) = (3 : Int32) from rfl)] at pr322
    obtain ⟨T323, h323, X323, e323, W323, V323, st323⟩ := ia_stC X320 hx hZ e320 V_bc (j := (3 : Int32)) 3 rfl (by decide) (Nat.le_of_ble_eq_true rfl) (y := ca) (own_narCh eca hca') (g := (mkF m 82 #[.val (.int p1), .val (.int p2), .val (.int p3), .val (.int p4), .val (.int (2 : Int32)), .val (.int ca), .val (.int cb), .val (.int cf), .val (.ref bc), .unset, .unset] [(.int ca), (.int (3 : Int32)), (.ref bc)])) rfl rfl (hb hby at_82)
    replace V_bc := V323
    replace J_ := J_.wr W323
    have N323 := Fr.snoc X323 N320 g_bc
    have Z323 : n0 ≤ h323.size := Nat.le_trans Z320 (Keep.of_wr W323).1
    have pr324 : ∀ t, Steps p.tables e below (T323.setTop (mkF m 83 #[.val (.int p1), .val (.int p2), .val (.int p3), .val (.int p4), .val (.int (2 : Int32)), .val (.int ca), .val (.int cb), .val (.int cf), .val (.ref bc), .unset, .unset] [])) t → G t := fun t ks => pr322 t (st323 t ks)
    have pr325 : ∀ t, Steps p.tables e below (T323.setTop (mkF m 99 #[.val (.int p1), .val (.int p2), .val (.int p3), .val (.int p4), .val (.int (2 : Int32)), .val (.int ca), .val (.int cb), .val (.int cf), .val (.ref bc), .unset, .unset] [(.int cb), (.int ((2 : Int32) + (2 : Int32))), (.ref bc)])) t → G t := fun t ks => pr324 t (by
        refine XS.iload X323.here hx rfl (hb hby at_83) rfl ?_
        refine XS.iconst X323.here hx rfl (hb hby at_85) ?_
        refine XS.iadd X323.here hx rfl (hb hby at_86) rfl ?_
        refine XS.iconst X323.here hx rfl (hb hby at_87) ?_
        refine XS.icmpNo X323.here hx rfl (hb hby at_88) rfl (tlt (show (2 : Int32) + (2 : Int32) < (5 : Int32) by decide)).2.1 ?_
        refine XS.aload X323.here hx rfl (hb hby at_91) rfl rfl ?_
        refine XS.iload X323.here hx rfl (hb hby at_93) rfl ?_
        refine XS.iconst X323.here hx rfl (hb hby at_95) ?_
        refine XS.iadd X323.here hx rfl (hb hby at_96) rfl ?_
        refine XS.iload X323.here hx rfl (hb hby at_97) rfl ?_
        exact ks)
    rw [(show (2 : Int32) + (2 : Int32) = (4 : Int32) from rfl)] at pr325
    obtain ⟨T326, h326, X326, e326, W326, V326, st326⟩ := ia_stC X323 hx hZ e323 V_bc (j := (4 : Int32)) 4 rfl (by decide) (Nat.le_of_ble_eq_true rfl) (y := cb) (own_narCh ecb hcb') (g := (mkF m 99 #[.val (.int p1), .val (.int p2), .val (.int p3), .val (.int p4), .val (.int (2 : Int32)), .val (.int ca), .val (.int cb), .val (.int cf), .val (.ref bc), .unset, .unset] [(.int cb), (.int (4 : Int32)), (.ref bc)])) rfl rfl (hb hby at_99)
    replace V_bc := V326
    replace J_ := J_.wr W326
    have N326 := Fr.snoc X326 N323 g_bc
    have Z326 : n0 ≤ h326.size := Nat.le_trans Z323 (Keep.of_wr W326).1
    have pr327 : ∀ t, Steps p.tables e below (T326.setTop (mkF m 100 #[.val (.int p1), .val (.int p2), .val (.int p3), .val (.int p4), .val (.int (2 : Int32)), .val (.int ca), .val (.int cb), .val (.int cf), .val (.ref bc), .unset, .unset] [])) t → G t := fun t ks => pr325 t (st326 t ks)
    replace V_bc : CA Z h326 bc [cf, cf, (37 : Int32), ca, cb] := ⟨⟨k240, V_bc⟩, Nat.le_of_ble_eq_true rfl⟩
    have hch : ∀ i, i < 5 → ∃ q : Nat, q < 65536 ∧ [cf, cf, (37 : Int32), ca, cb].getD i 0 = Int32.ofNat q := by
      intro i hi
      match i, hi with
      | 0, _ => exact ⟨_, hcf', ecf⟩
      | 1, _ => exact ⟨_, hcf', ecf⟩
      | 2, _ => exact ⟨37, by decide, rfl⟩
      | 3, _ => exact ⟨_, hca', eca⟩
      | 4, _ => exact ⟨_, hcb', ecb⟩
    obtain ⟨T328, h328, X328, e328, E328, A328, D328, -, st328⟩ := newO X326 hx hZ hown (hw _ (List.mem_of_getElem? (i := 3) rfl)) (hw _ (List.mem_of_getElem? (i := 4) rfl)) (hw _ (List.mem_of_getElem? (i := 5) rfl)) e326 (g := (mkF m 100 #[.val (.int p1), .val (.int p2), .val (.int p3), .val (.int p4), .val (.int (2 : Int32)), .val (.int ca), .val (.int cb), .val (.int cf), .val (.ref bc), .unset, .unset] [])) rfl (hb hby at_100) (by decide) (by decide)
    obtain ⟨so, g328⟩ : ∃ z, z = h326.size := ⟨_, rfl⟩
    rw [← g328] at A328 D328 st328
    have ne_bc_so : bc ≠ so := Nat.ne_of_lt (Nat.lt_of_lt_of_le V_bc.lt (Nat.le_of_eq g328.symm))
    have g_so : n0 ≤ so := Nat.le_trans Z326 (Nat.le_of_eq g328.symm)
    replace J_ := J_.ext E328
    replace V_bc := V_bc.ext E328
    have E_so := A328
    have F_so_coder : Fld Z h328 so "java/lang/String" "coder" "B" (.int (0 : Int32)) := D328 (Or.inr (hw _ (List.mem_of_getElem? (i := 29) rfl))) (ty := .byte) (by decide)
    have F_so_value : Fld Z h328 so "java/lang/String" "value" "[B" .null := D328 (Or.inr (hw _ (List.mem_of_getElem? (i := 31) rfl))) (ty := (.array .byte)) (by decide)
    have Z328 : n0 ≤ h328.size := Nat.le_trans Z326 E328.1
    have pr329 : ∀ t, Steps p.tables e below (T328.setTop (mkF m 103 #[.val (.int p1), .val (.int p2), .val (.int p3), .val (.int p4), .val (.int (2 : Int32)), .val (.int ca), .val (.int cb), .val (.int cf), .val (.ref bc), .unset, .unset] [(.ref so)])) t → G t := fun t ks => pr327 t (st328 t ks)
    have pr330 : ∀ t, Steps p.tables e below (T328.setTop (mkF m 106 #[.val (.int p1), .val (.int p2), .val (.int p3), .val (.int p4), .val (.int (2 : Int32)), .val (.int ca), .val (.int cb), .val (.int cf), .val (.ref bc), .unset, .unset] [(.ref bc), (.ref so), (.ref so)])) t → G t := fun t ks => pr329 t (by
        refine XS.dup X328.here hx rfl (hb hby at_103) rfl rfl ?_
        refine XS.aload X328.here hx rfl (hb hby at_104) rfl rfl ?_
        exact ks)
    obtain ⟨_, _, ⟨T331, L331, k331, n331⟩, -, X331, hP331, st331⟩ := X328.specialBack hx (y := (⟨"java/lang/String", "<init>", "([C)V"⟩ : MethodName)) rfl hown (mvT hZ (hw _ (List.mem_of_getElem? (i := 6) rfl))) (mvT hZ (hw _ (List.mem_of_getElem? (i := 7) rfl))) (mvT hZ (hw _ (List.mem_of_getElem? (i := 8) rfl))) (by decide) (backOf (W := 1) (rm1 l Z a0 hw hr0 [] so bc cf cf (37 : Int32) ca cb fv cs h328 n0 Z328 E_so F_so_value F_so_coder V_bc hch g_so (Ne.symm ne_bc_so) J_) hZ (hw _ (List.mem_of_getElem? (i := 8) rfl)) (hw _ (List.mem_of_getElem? (i := 5) rfl)) (by decide) (by decide)) (g := (mkF m 106 #[.val (.int p1), .val (.int p2), .val (.int p3), .val (.int p4), .val (.int (2 : Int32)), .val (.int ca), .val (.int cb), .val (.int cf), .val (.ref bc), .unset, .unset] [(.ref bc), (.ref so), (.ref so)])) rfl (by rw [hml]; rfl) (Steps.refl _) (a := so) (argsL := [(.ref bc)]) (rest := [(.ref so)]) (lenOf pd_17 rfl) rfl (by show 2 * 0 + _ ≤ _; exact Nat.le_of_eq rfl) (hb hby at_106) (fun _ _ => ⟨rfl, e328, (by decide : 2 + 2 ≤ _), (by decide : 9 + 15 ≤ _)⟩)
    obtain ⟨Lc331, hQ331, X331⟩ := own_out hP331 X331
    clear hP331
    dsimp only [Pt.U, Pt.locs, Pt.cells, Pt.slots] at X331 st331 hQ331
    obtain ⟨rfl, Nq331, Kq331, b, k, vs, hS, hstr⟩ := hQ331
    replace J_ := J_.keep Kq331 (allS g_so all0)
    replace V_bc := V_bc.keep Kq331 (ninS ne_bc_so nin0)
    replace E_so := E_so.keep Kq331
    have Z331 : n0 ≤ T331.heap.size := Nat.le_trans Z328 Kq331.1
    have N331 := Fr.app N326 Nq331
    have pr332 : ∀ t, Steps p.tables e below (T331.setTop (mkF m 109 #[.val (.int p1), .val (.int p2), .val (.int p3), .val (.int p4), .val (.int (2 : Int32)), .val (.int ca), .val (.int cb), .val (.int cf), .val (.ref bc), .unset, .unset] [(.ref so)])) t → G t := fun t ks => pr330 t (st331.trans ks)
    have hk := own_strK rfl hstr
    have pr333 : ∀ t, Steps p.tables e below (T331.setTop (mkF m 119 #[.val (.int p1), .val (.int p2), .val (.int p3), .val (.int p4), .val (.int (2 : Int32)), .val (.int ca), .val (.int cb), .val (.int cf), .val (.ref bc), .val (.ref so), .unset] [(.int ca)])) t → G t := fun t ks => pr332 t (by
        refine XS.astore X331.here hx rfl (hb hby at_109) rfl rfl (l' := #[.val (.int p1), .val (.int p2), .val (.int p3), .val (.int p4), .val (.int (2 : Int32)), .val (.int ca), .val (.int cb), .val (.int cf), .val (.ref bc), .val (.ref so), .unset]) rfl ?_
        refine XS.iload X331.here hx rfl (hb hby at_111) rfl ?_
        refine XS.iconst X331.here hx rfl (hb hby at_113) ?_
        refine XS.icmpNo X331.here hx rfl (hb hby at_114) rfl (flt (by decide)).2.2.1 ?_
        refine XS.iload X331.here hx rfl (hb hby at_117) rfl ?_
        exact ks)
    obtain ⟨_, _, ⟨T334, L334, k334, n334⟩, -, X334, hP334, st334⟩ := Jvm.LawKit.callS X331 hx (y := (⟨"com/example/wirebind/wirebind/PercentEncodingIsPercentTripletPinLaw", "hex", "(C)Z"⟩ : MethodName)) hown (mvT hZ (hw _ (List.mem_of_getElem? (i := 32) rfl))) (mvT hZ (hw _ (List.mem_of_getElem? (i := 33) rfl))) (mvT hZ (hw _ (List.mem_of_getElem? (i := 34) rfl))) (mvT hZ (hw _ (List.mem_of_getElem? (i := 35) rfl))) (by decide) (backOf (W := 0) (rmHX l Z a0 hw hr0 [] ca T331.heap n0 Z331) hZ (hw _ (List.mem_of_getElem? (i := 35) rfl)) (hw _ (List.mem_of_getElem? (i := 34) rfl)) (by decide) (by decide)) (g := (mkF m 119 #[.val (.int p1), .val (.int p2), .val (.int p3), .val (.int p4), .val (.int (2 : Int32)), .val (.int ca), .val (.int cb), .val (.int cf), .val (.ref bc), .val (.ref so), .unset] [(.int ca)])) rfl (by rw [hml]; rfl) (argsL := [(.int ca)]) (rest := []) (lenOf pd_16 rfl) rfl (by show 2 * 0 + _ ≤ _; exact Nat.le_of_eq rfl) (hb hby at_119) (fun _ _ => ⟨rfl, rfl, (by decide : 4 + 0 ≤ _), (by decide : 24 + 0 ≤ _)⟩)
    obtain ⟨Lc334, hQ334, X334⟩ := own_out hP334 X334
    clear hP334
    dsimp only [Pt.U, Pt.locs, Pt.cells, Pt.slots] at X334 st334 hQ334
    obtain ⟨rfl, Nq334, eh334⟩ := hQ334
    have N334 := Fr.app N331 Nq334
    have pr335 : ∀ t, Steps p.tables e below (T334.setTop (mkF m 122 #[.val (.int p1), .val (.int p2), .val (.int p3), .val (.int p4), .val (.int (2 : Int32)), .val (.int ca), .val (.int cb), .val (.int cf), .val (.ref bc), .val (.ref so), .unset] [(.int (own_hex ca))])) t → G t := fun t ks => pr333 t (st334 t ks)
    by_cases y1 : (own_hex ca) = (0 : Int32)
    · have pr336 : ∀ t, Steps p.tables e below (T334.setTop (mkF m 144 #[.val (.int p1), .val (.int p2), .val (.int p3), .val (.int p4), .val (.int (2 : Int32)), .val (.int ca), .val (.int cb), .val (.int cf), .val (.ref bc), .val (.ref so), .val (.int (0 : Int32))] [(.int (2 : Int32)), (.ref so)])) t → G t := fun t ks => pr335 t (by
          refine XS.ifYes X334.here hx rfl (pc0 := 122) (pc' := 137) rfl (hb hby at_122) rfl ((if0 _ _).trans (teq y1).1) (by decide) (by decide) ?_
          refine XS.iconst X334.here hx rfl (hb hby at_137) ?_
          refine XS.istore X334.here hx rfl (hb hby at_138) rfl (l' := #[.val (.int p1), .val (.int p2), .val (.int p3), .val (.int p4), .val (.int (2 : Int32)), .val (.int ca), .val (.int cb), .val (.int cf), .val (.ref bc), .val (.ref so), .val (.int (0 : Int32))]) rfl ?_
          refine XS.aload X334.here hx rfl (hb hby at_140) rfl rfl ?_
          refine XS.iload X334.here hx rfl (hb hby at_142) rfl ?_
          exact ks)
      obtain ⟨_, _, ⟨T337, L337, k337, n337⟩, -, X337, hP337, st337⟩ := Jvm.LawKit.callS X334 hx (y := (⟨"com/example/wirebind/wirebind/PercentEncoding", "isPercentTriplet", "(Ljava/lang/String;I)Z"⟩ : MethodName)) hown (mvT hZ (hw _ (List.mem_of_getElem? (i := 36) rfl))) (mvT hZ (hw _ (List.mem_of_getElem? (i := 37) rfl))) (mvT hZ (hw _ (List.mem_of_getElem? (i := 38) rfl))) (mvT hZ (hw _ (List.mem_of_getElem? (i := 39) rfl))) (by decide) (backOf (W := 0) (rmT1 l Z a0 hw hr0 [] so (2 : Int32) b k vs fv cs 2 ca cb T331.heap n0 Z331 hS J_ rfl hk (by decide) (own_strL hstr 3 (Nat.le_of_ble_eq_true rfl) (hch _ (by decide))) (own_strU hstr 3 (Nat.le_of_ble_eq_true rfl) (hch _ (by decide))) (own_strL hstr 4 (Nat.le_of_ble_eq_true rfl) (hch _ (by decide))) (own_strU hstr 4 (Nat.le_of_ble_eq_true rfl) (hch _ (by decide)))) hZ (hw _ (List.mem_of_getElem? (i := 39) rfl)) (hw _ (List.mem_of_getElem? (i := 38) rfl)) (by decide) (by decide)) (g := (mkF m 144 #[.val (.int p1), .val (.int p2), .val (.int p3), .val (.int p4), .val (.int (2 : Int32)), .val (.int ca), .val (.int cb), .val (.int cf), .val (.ref bc), .val (.ref so), .val (.int (0 : Int32))] [(.int (2 : Int32)), (.ref so)])) rfl (by rw [hml]; rfl) (argsL := [(.ref so), (.int (2 : Int32))]) (rest := []) (lenOf pd_18 rfl) rfl (by show 2 * 0 + _ ≤ _; exact Nat.le_of_eq rfl) (hb hby at_144) (fun _ _ => ⟨rfl, eh334, (by decide : 4 + 0 ≤ _), (by decide : 24 + 0 ≤ _)⟩)
      obtain ⟨Lc337, hQ337, X337⟩ := own_out hP337 X337
      clear hP337
      dsimp only [Pt.U, Pt.locs, Pt.cells, Pt.slots] at X337 st337 hQ337
      obtain ⟨rfl, Nq337, eh337⟩ := hQ337
      have N337 := Fr.app N334 Nq337
      have pr338 : ∀ t, Steps p.tables e below (T337.setTop (mkF m 147 #[.val (.int p1), .val (.int p2), .val (.int p3), .val (.int p4), .val (.int (2 : Int32)), .val (.int ca), .val (.int cb), .val (.int cf), .val (.ref bc), .val (.ref so), .val (.int (0 : Int32))] [(.int (own_tri ca cb))])) t → G t := fun t ks => pr336 t (st337 t ks)
      have htri : own_tri ca cb = (0 : Int32) := own_triA eca hca' y1
      rw [htri] at pr338
      have pr339 : ∀ t, Steps p.tables e below (T337.setTop (mkF m 157 #[.val (.int p1), .val (.int p2), .val (.int p3), .val (.int p4), .val (.int (2 : Int32)), .val (.int ca), .val (.int cb), .val (.int cf), .val (.ref bc), .val (.ref so), .val (.int (0 : Int32))] [(.int (1 : Int32))])) t → G t := fun t ks => pr338 t (by
          refine XS.iload X337.here hx rfl (hb hby at_147) rfl ?_
          refine XS.icmpNo X337.here hx rfl (hb hby at_149) rfl (teq (rfl : (0 : Int32) = (0 : Int32))).2 ?_
          refine XS.iconst X337.here hx rfl (hb hby at_152) ?_
          refine XS.goto X337.here hx rfl (pc0 := 153) (pc' := 157) rfl (hb hby at_153) (by decide) (by decide) ?_
          exact ks)
      obtain ⟨fs, hr, hrun, hended, hW, hsame⟩ := X337.leave (v := some (.int 1)) (fun h => by rw [Bd.returns] at h; cases h)
      refine ⟨_, _, hG _ (pr339 _ ?_), hrun, hended, _, _, rfl, ?_, ⟨_, rfl⟩, hW, hsame.mono (by decide) (by decide)⟩
      · exact retN X337 hx (t := .boolean) Bd.returns (by simp) (hb hby at_157) (by rw [show nar .boolean (1 : Int32) = 1 from rfl]; exact hr)
      · show Q0 n0 _ T337.heap _
        rw [eh337]
        exact ⟨rfl, N337⟩
    · have pr340 : ∀ t, Steps p.tables e below (T334.setTop (mkF m 127 #[.val (.int p1), .val (.int p2), .val (.int p3), .val (.int p4), .val (.int (2 : Int32)), .val (.int ca), .val (.int cb), .val (.int cf), .val (.ref bc), .val (.ref so), .unset] [(.int cb)])) t → G t := fun t ks => pr335 t (by
          refine XS.ifNo X334.here hx rfl (hb hby at_122) rfl ((if0 _ _).trans (feq y1).1) ?_
          refine XS.iload X334.here hx rfl (hb hby at_125) rfl ?_
          exact ks)
      obtain ⟨_, _, ⟨T341, L341, k341, n341⟩, -, X341, hP341, st341⟩ := Jvm.LawKit.callS X334 hx (y := (⟨"com/example/wirebind/wirebind/PercentEncodingIsPercentTripletPinLaw", "hex", "(C)Z"⟩ : MethodName)) hown (mvT hZ (hw _ (List.mem_of_getElem? (i := 32) rfl))) (mvT hZ (hw _ (List.mem_of_getElem? (i := 33) rfl))) (mvT hZ (hw _ (List.mem_of_getElem? (i := 34) rfl))) (mvT hZ (hw _ (List.mem_of_getElem? (i := 35) rfl))) (by decide) (backOf (W := 0) (rmHX l Z a0 hw hr0 [] cb T331.heap n0 Z331) hZ (hw _ (List.mem_of_getElem? (i := 35) rfl)) (hw _ (List.mem_of_getElem? (i := 34) rfl)) (by decide) (by decide)) (g := (mkF m 127 #[.val (.int p1), .val (.int p2), .val (.int p3), .val (.int p4), .val (.int (2 : Int32)), .val (.int ca), .val (.int cb), .val (.int cf), .val (.ref bc), .val (.ref so), .unset] [(.int cb)])) rfl (by rw [hml]; rfl) (argsL := [(.int cb)]) (rest := []) (lenOf pd_16 rfl) rfl (by show 2 * 0 + _ ≤ _; exact Nat.le_of_eq rfl) (hb hby at_127) (fun _ _ => ⟨rfl, eh334, (by decide : 4 + 0 ≤ _), (by decide : 24 + 0 ≤ _)⟩)
      obtain ⟨Lc341, hQ341, X341⟩ := own_out hP341 X341
      clear hP341
      dsimp only [Pt.U, Pt.locs, Pt.cells, Pt.slots] at X341 st341 hQ341
      obtain ⟨rfl, Nq341, eh341⟩ := hQ341
      have N341 := Fr.app N334 Nq341
      have pr342 : ∀ t, Steps p.tables e below (T341.setTop (mkF m 130 #[.val (.int p1), .val (.int p2), .val (.int p3), .val (.int p4), .val (.int (2 : Int32)), .val (.int ca), .val (.int cb), .val (.int cf), .val (.ref bc), .val (.ref so), .unset] [(.int (own_hex cb))])) t → G t := fun t ks => pr340 t (st341 t ks)
      by_cases y2 : (own_hex cb) = (0 : Int32)
      · have pr343 : ∀ t, Steps p.tables e below (T341.setTop (mkF m 144 #[.val (.int p1), .val (.int p2), .val (.int p3), .val (.int p4), .val (.int (2 : Int32)), .val (.int ca), .val (.int cb), .val (.int cf), .val (.ref bc), .val (.ref so), .val (.int (0 : Int32))] [(.int (2 : Int32)), (.ref so)])) t → G t := fun t ks => pr342 t (by
            refine XS.ifYes X341.here hx rfl (pc0 := 130) (pc' := 137) rfl (hb hby at_130) rfl ((if0 _ _).trans (teq y2).1) (by decide) (by decide) ?_
            refine XS.iconst X341.here hx rfl (hb hby at_137) ?_
            refine XS.istore X341.here hx rfl (hb hby at_138) rfl (l' := #[.val (.int p1), .val (.int p2), .val (.int p3), .val (.int p4), .val (.int (2 : Int32)), .val (.int ca), .val (.int cb), .val (.int cf), .val (.ref bc), .val (.ref so), .val (.int (0 : Int32))]) rfl ?_
            refine XS.aload X341.here hx rfl (hb hby at_140) rfl rfl ?_
            refine XS.iload X341.here hx rfl (hb hby at_142) rfl ?_
            exact ks)
        obtain ⟨_, _, ⟨T344, L344, k344, n344⟩, -, X344, hP344, st344⟩ := Jvm.LawKit.callS X341 hx (y := (⟨"com/example/wirebind/wirebind/PercentEncoding", "isPercentTriplet", "(Ljava/lang/String;I)Z"⟩ : MethodName)) hown (mvT hZ (hw _ (List.mem_of_getElem? (i := 36) rfl))) (mvT hZ (hw _ (List.mem_of_getElem? (i := 37) rfl))) (mvT hZ (hw _ (List.mem_of_getElem? (i := 38) rfl))) (mvT hZ (hw _ (List.mem_of_getElem? (i := 39) rfl))) (by decide) (backOf (W := 0) (rmT1 l Z a0 hw hr0 [] so (2 : Int32) b k vs fv cs 2 ca cb T331.heap n0 Z331 hS J_ rfl hk (by decide) (own_strL hstr 3 (Nat.le_of_ble_eq_true rfl) (hch _ (by decide))) (own_strU hstr 3 (Nat.le_of_ble_eq_true rfl) (hch _ (by decide))) (own_strL hstr 4 (Nat.le_of_ble_eq_true rfl) (hch _ (by decide))) (own_strU hstr 4 (Nat.le_of_ble_eq_true rfl) (hch _ (by decide)))) hZ (hw _ (List.mem_of_getElem? (i := 39) rfl)) (hw _ (List.mem_of_getElem? (i := 38) rfl)) (by decide) (by decide)) (g := (mkF m 144 #[.val (.int p1), .val (.int p2), .val (.int p3), .val (.int p4), .val (.int (2 : Int32)), .val (.int ca), .val (.int cb), .val (.int cf), .val (.ref bc), .val (.ref so), .val (.int (0 : Int32))] [(.int (2 : Int32)), (.ref so)])) rfl (by rw [hml]; rfl) (argsL := [(.ref so), (.int (2 : Int32))]) (rest := []) (lenOf pd_18 rfl) rfl (by show 2 * 0 + _ ≤ _; exact Nat.le_of_eq rfl) (hb hby at_144) (fun _ _ => ⟨rfl, eh341, (by decide : 4 + 0 ≤ _), (by decide : 24 + 0 ≤ _)⟩)
        obtain ⟨Lc344, hQ344, X344⟩ := own_out hP344 X344
        clear hP344
        dsimp only [Pt.U, Pt.locs, Pt.cells, Pt.slots] at X344 st344 hQ344
        obtain ⟨rfl, Nq344, eh344⟩ := hQ344
        have N344 := Fr.app N341 Nq344
        have pr345 : ∀ t, Steps p.tables e below (T344.setTop (mkF m 147 #[.val (.int p1), .val (.int p2), .val (.int p3), .val (.int p4), .val (.int (2 : Int32)), .val (.int ca), .val (.int cb), .val (.int cf), .val (.ref bc), .val (.ref so), .val (.int (0 : Int32))] [(.int (own_tri ca cb))])) t → G t := fun t ks => pr343 t (st344 t ks)
        have htri : own_tri ca cb = (0 : Int32) := own_triB eca hca' ecb hcb' y1 y2
        rw [htri] at pr345
        have pr346 : ∀ t, Steps p.tables e below (T344.setTop (mkF m 157 #[.val (.int p1), .val (.int p2), .val (.int p3), .val (.int p4), .val (.int (2 : Int32)), .val (.int ca), .val (.int cb), .val (.int cf), .val (.ref bc), .val (.ref so), .val (.int (0 : Int32))] [(.int (1 : Int32))])) t → G t := fun t ks => pr345 t (by
            refine XS.iload X344.here hx rfl (hb hby at_147) rfl ?_
            refine XS.icmpNo X344.here hx rfl (hb hby at_149) rfl (teq (rfl : (0 : Int32) = (0 : Int32))).2 ?_
            refine XS.iconst X344.here hx rfl (hb hby at_152) ?_
            refine XS.goto X344.here hx rfl (pc0 := 153) (pc' := 157) rfl (hb hby at_153) (by decide) (by decide) ?_
            exact ks)
        obtain ⟨fs, hr, hrun, hended, hW, hsame⟩ := X344.leave (v := some (.int 1)) (fun h => by rw [Bd.returns] at h; cases h)
        refine ⟨_, _, hG _ (pr346 _ ?_), hrun, hended, _, _, rfl, ?_, ⟨_, rfl⟩, hW, hsame.mono (by decide) (by decide)⟩
        · exact retN X344 hx (t := .boolean) Bd.returns (by simp) (hb hby at_157) (by rw [show nar .boolean (1 : Int32) = 1 from rfl]; exact hr)
        · show Q0 n0 _ T344.heap _
          rw [eh344]
          exact ⟨rfl, N344⟩
      · have pr347 : ∀ t, Steps p.tables e below (T341.setTop (mkF m 144 #[.val (.int p1), .val (.int p2), .val (.int p3), .val (.int p4), .val (.int (2 : Int32)), .val (.int ca), .val (.int cb), .val (.int cf), .val (.ref bc), .val (.ref so), .val (.int (1 : Int32))] [(.int (2 : Int32)), (.ref so)])) t → G t := fun t ks => pr342 t (by
            refine XS.ifNo X341.here hx rfl (hb hby at_130) rfl ((if0 _ _).trans (feq y2).1) ?_
            refine XS.iconst X341.here hx rfl (hb hby at_133) ?_
            refine XS.goto X341.here hx rfl (pc0 := 134) (pc' := 138) rfl (hb hby at_134) (by decide) (by decide) ?_
            refine XS.istore X341.here hx rfl (hb hby at_138) rfl (l' := #[.val (.int p1), .val (.int p2), .val (.int p3), .val (.int p4), .val (.int (2 : Int32)), .val (.int ca), .val (.int cb), .val (.int cf), .val (.ref bc), .val (.ref so), .val (.int (1 : Int32))]) rfl ?_
            refine XS.aload X341.here hx rfl (hb hby at_140) rfl rfl ?_
            refine XS.iload X341.here hx rfl (hb hby at_142) rfl ?_
            exact ks)
        obtain ⟨_, _, ⟨T348, L348, k348, n348⟩, -, X348, hP348, st348⟩ := Jvm.LawKit.callS X341 hx (y := (⟨"com/example/wirebind/wirebind/PercentEncoding", "isPercentTriplet", "(Ljava/lang/String;I)Z"⟩ : MethodName)) hown (mvT hZ (hw _ (List.mem_of_getElem? (i := 36) rfl))) (mvT hZ (hw _ (List.mem_of_getElem? (i := 37) rfl))) (mvT hZ (hw _ (List.mem_of_getElem? (i := 38) rfl))) (mvT hZ (hw _ (List.mem_of_getElem? (i := 39) rfl))) (by decide) (backOf (W := 0) (rmT1 l Z a0 hw hr0 [] so (2 : Int32) b k vs fv cs 2 ca cb T331.heap n0 Z331 hS J_ rfl hk (by decide) (own_strL hstr 3 (Nat.le_of_ble_eq_true rfl) (hch _ (by decide))) (own_strU hstr 3 (Nat.le_of_ble_eq_true rfl) (hch _ (by decide))) (own_strL hstr 4 (Nat.le_of_ble_eq_true rfl) (hch _ (by decide))) (own_strU hstr 4 (Nat.le_of_ble_eq_true rfl) (hch _ (by decide)))) hZ (hw _ (List.mem_of_getElem? (i := 39) rfl)) (hw _ (List.mem_of_getElem? (i := 38) rfl)) (by decide) (by decide)) (g := (mkF m 144 #[.val (.int p1), .val (.int p2), .val (.int p3), .val (.int p4), .val (.int (2 : Int32)), .val (.int ca), .val (.int cb), .val (.int cf), .val (.ref bc), .val (.ref so), .val (.int (1 : Int32))] [(.int (2 : Int32)), (.ref so)])) rfl (by rw [hml]; rfl) (argsL := [(.ref so), (.int (2 : Int32))]) (rest := []) (lenOf pd_18 rfl) rfl (by show 2 * 0 + _ ≤ _; exact Nat.le_of_eq rfl) (hb hby at_144) (fun _ _ => ⟨rfl, eh341, (by decide : 4 + 0 ≤ _), (by decide : 24 + 0 ≤ _)⟩)
        obtain ⟨Lc348, hQ348, X348⟩ := own_out hP348 X348
        clear hP348
        dsimp only [Pt.U, Pt.locs, Pt.cells, Pt.slots] at X348 st348 hQ348
        obtain ⟨rfl, Nq348, eh348⟩ := hQ348
        have N348 := Fr.app N341 Nq348
        have pr349 : ∀ t, Steps p.tables e below (T348.setTop (mkF m 147 #[.val (.int p1), .val (.int p2), .val (.int p3), .val (.int p4), .val (.int (2 : Int32)), .val (.int ca), .val (.int cb), .val (.int cf), .val (.ref bc), .val (.ref so), .val (.int (1 : Int32))] [(.int (own_tri ca cb))])) t → G t := fun t ks => pr347 t (st348 t ks)
        have htri : own_tri ca cb = (1 : Int32) := own_triC eca hca' ecb hcb' y1 y2
        rw [htri] at pr349
        have pr350 : ∀ t, Steps p.tables e below (T348.setTop (mkF m 157 #[.val (.int p1), .val (.int p2), .val (.int p3), .val (.int p4), .val (.int (2 : Int32)), .val (.int ca), .val (.int cb), .val (.int cf), .val (.ref bc), .val (.ref so), .val (.int (1 : Int32))] [(.int (1 : Int32))])) t → G t := fun t ks => pr349 t (by
            refine XS.iload X348.here hx rfl (hb hby at_147) rfl ?_
            refine XS.icmpNo X348.here hx rfl (hb hby at_149) rfl (teq (rfl : (1 : Int32) = (1 : Int32))).2 ?_
            refine XS.iconst X348.here hx rfl (hb hby at_152) ?_
            refine XS.goto X348.here hx rfl (pc0 := 153) (pc' := 157) rfl (hb hby at_153) (by decide) (by decide) ?_
            exact ks)
        obtain ⟨fs, hr, hrun, hended, hW, hsame⟩ := X348.leave (v := some (.int 1)) (fun h => by rw [Bd.returns] at h; cases h)
        refine ⟨_, _, hG _ (pr350 _ ?_), hrun, hended, _, _, rfl, ?_, ⟨_, rfl⟩, hW, hsame.mono (by decide) (by decide)⟩
        · exact retN X348 hx (t := .boolean) Bd.returns (by simp) (hb hby at_157) (by rw [show nar .boolean (1 : Int32) = 1 from rfl]; exact hr)
        · show Q0 n0 _ T348.heap _
          rw [eh348]
          exact ⟨rfl, N348⟩
  · rw [(show ix = (3 : Int32) from eix)] at pr257
    obtain ⟨T351, h351, X351, e351, W351, V351, st351⟩ := ia_stC X255 hx hZ e255 V_bc (j := (3 : Int32)) 3 rfl (by decide) (Nat.le_of_ble_eq_true rfl) (y := (37 : Int32)) rfl (g := (mkF m 65 #[.val (.int p1), .val (.int p2), .val (.int p3), .val (.int p4), .val (.int (3 : Int32)), .val (.int ca), .val (.int cb), .val (.int cf), .val (.ref bc), .unset, .unset] [(.int (37 : Int32)), (.int (3 : Int32)), (.ref bc)])) rfl rfl (hb hby at_65)
    replace V_bc := V351
    replace J_ := J_.wr W351
    have N351 := Fr.snoc X351 N255 g_bc
    have Z351 : n0 ≤ h351.size := Nat.le_trans Z255 (Keep.of_wr W351).1
    have pr352 : ∀ t, Steps p.tables e below (T351.setTop (mkF m 66 #[.val (.int p1), .val (.int p2), .val (.int p3), .val (.int p4), .val (.int (3 : Int32)), .val (.int ca), .val (.int cb), .val (.int cf), .val (.ref bc), .unset, .unset] [])) t → G t := fun t ks => pr257 t (st351 t ks)
    have pr353 : ∀ t, Steps p.tables e below (T351.setTop (mkF m 82 #[.val (.int p1), .val (.int p2), .val (.int p3), .val (.int p4), .val (.int (3 : Int32)), .val (.int ca), .val (.int cb), .val (.int cf), .val (.ref bc), .unset, .unset] [(.int ca), (.int ((3 : Int32) + (1 : Int32))), (.ref bc)])) t → G t := fun t ks => pr352 t (by
        refine XS.iload X351.here hx rfl (hb hby at_66) rfl ?_
        refine XS.iconst X351.here hx rfl (hb hby at_68) ?_
        refine XS.iadd X351.here hx rfl (hb hby at_69) rfl ?_
        refine XS.iconst X351.here hx rfl (hb hby at_70) ?_
        refine XS.icmpNo X351.here hx rfl (hb hby at_71) rfl (tlt (show (3 : Int32) + (1 : Int32) < (5 : Int32) by decide)).2.1 ?_
        refine XS.aload X351.here hx rfl (hb hby at_74) rfl rfl ?_
        refine XS.iload X351.here hx rfl (hb hby at_76) rfl ?_
        refine XS.iconst X351.here hx rfl (hb hby at_78) ?_
        refine XS.iadd X351.here hx rfl (hb hby at_79) rfl ?_
        refine XS.iload X351.here hx rfl (hb hby at_80) rfl ?_
        exact ks)
    rw [(show (3 : Int32) + (1 : Int32) = (4 : Int32) from rfl)] at pr353
    obtain ⟨T354, h354, X354, e354, W354, V354, st354⟩ := ia_stC X351 hx hZ e351 V_bc (j := (4 : Int32)) 4 rfl (by decide) (Nat.le_of_ble_eq_true rfl) (y := ca) (own_narCh eca hca') (g := (mkF m 82 #[.val (.int p1), .val (.int p2), .val (.int p3), .val (.int p4), .val (.int (3 : Int32)), .val (.int ca), .val (.int cb), .val (.int cf), .val (.ref bc), .unset, .unset] [(.int ca), (.int (4 : Int32)), (.ref bc)])) rfl rfl (hb hby at_82)
    replace V_bc := V354
    replace J_ := J_.wr W354
    have N354 := Fr.snoc X354 N351 g_bc
    have Z354 : n0 ≤ h354.size := Nat.le_trans Z351 (Keep.of_wr W354).1
    have pr355 : ∀ t, Steps p.tables e below (T354.setTop (mkF m 83 #[.val (.int p1), .val (.int p2), .val (.int p3), .val (.int p4), .val (.int (3 : Int32)), .val (.int ca), .val (.int cb), .val (.int cf), .val (.ref bc), .unset, .unset] [])) t → G t := fun t ks => pr353 t (st354 t ks)
    have pr356 : ∀ t, Steps p.tables e below (T354.setTop (mkF m 100 #[.val (.int p1), .val (.int p2), .val (.int p3), .val (.int p4), .val (.int (3 : Int32)), .val (.int ca), .val (.int cb), .val (.int cf), .val (.ref bc), .unset, .unset] [])) t → G t := fun t ks => pr355 t (by
        refine XS.iload X354.here hx rfl (hb hby at_83) rfl ?_
        refine XS.iconst X354.here hx rfl (hb hby at_85) ?_
        refine XS.iadd X354.here hx rfl (hb hby at_86) rfl ?_
        refine XS.iconst X354.here hx rfl (hb hby at_87) ?_
        refine XS.icmpYes X354.here hx rfl (pc0 := 88) (pc' := 100) rfl (hb hby at_88) rfl (flt (show ¬ (3 : Int32) + (2 : Int32) < (5 : Int32) by decide)).2.1 (by decide) (by decide) ?_
        exact ks)
    replace V_bc : CA Z h354 bc [cf, cf, cf, (37 : Int32), ca] := ⟨⟨k240, V_bc⟩, Nat.le_of_ble_eq_true rfl⟩
    have hch : ∀ i, i < 5 → ∃ q : Nat, q < 65536 ∧ [cf, cf, cf, (37 : Int32), ca].getD i 0 = Int32.ofNat q := by
      intro i hi
      match i, hi with
      | 0, _ => exact ⟨_, hcf', ecf⟩
      | 1, _ => exact ⟨_, hcf', ecf⟩
      | 2, _ => exact ⟨_, hcf', ecf⟩
      | 3, _ => exact ⟨37, by decide, rfl⟩
      | 4, _ => exact ⟨_, hca', eca⟩
    obtain ⟨T357, h357, X357, e357, E357, A357, D357, -, st357⟩ := newO X354 hx hZ hown (hw _ (List.mem_of_getElem? (i := 3) rfl)) (hw _ (List.mem_of_getElem? (i := 4) rfl)) (hw _ (List.mem_of_getElem? (i := 5) rfl)) e354 (g := (mkF m 100 #[.val (.int p1), .val (.int p2), .val (.int p3), .val (.int p4), .val (.int (3 : Int32)), .val (.int ca), .val (.int cb), .val (.int cf), .val (.ref bc), .unset, .unset] [])) rfl (hb hby at_100) (by decide) (by decide)
    obtain ⟨so, g357⟩ : ∃ z, z = h354.size := ⟨_, rfl⟩
    rw [← g357] at A357 D357 st357
    have ne_bc_so : bc ≠ so := Nat.ne_of_lt (Nat.lt_of_lt_of_le V_bc.lt (Nat.le_of_eq g357.symm))
    have g_so : n0 ≤ so := Nat.le_trans Z354 (Nat.le_of_eq g357.symm)
    replace J_ := J_.ext E357
    replace V_bc := V_bc.ext E357
    have E_so := A357
    have F_so_coder : Fld Z h357 so "java/lang/String" "coder" "B" (.int (0 : Int32)) := D357 (Or.inr (hw _ (List.mem_of_getElem? (i := 29) rfl))) (ty := .byte) (by decide)
    have F_so_value : Fld Z h357 so "java/lang/String" "value" "[B" .null := D357 (Or.inr (hw _ (List.mem_of_getElem? (i := 31) rfl))) (ty := (.array .byte)) (by decide)
    have Z357 : n0 ≤ h357.size := Nat.le_trans Z354 E357.1
    have pr358 : ∀ t, Steps p.tables e below (T357.setTop (mkF m 103 #[.val (.int p1), .val (.int p2), .val (.int p3), .val (.int p4), .val (.int (3 : Int32)), .val (.int ca), .val (.int cb), .val (.int cf), .val (.ref bc), .unset, .unset] [(.ref so)])) t → G t := fun t ks => pr356 t (st357 t ks)
    have pr359 : ∀ t, Steps p.tables e below (T357.setTop (mkF m 106 #[.val (.int p1), .val (.int p2), .val (.int p3), .val (.int p4), .val (.int (3 : Int32)), .val (.int ca), .val (.int cb), .val (.int cf), .val (.ref bc), .unset, .unset] [(.ref bc), (.ref so), (.ref so)])) t → G t := fun t ks => pr358 t (by
        refine XS.dup X357.here hx rfl (hb hby at_103) rfl rfl ?_
        refine XS.aload X357.here hx rfl (hb hby at_104) rfl rfl ?_
        exact ks)
    obtain ⟨_, _, ⟨T360, L360, k360, n360⟩, -, X360, hP360, st360⟩ := X357.specialBack hx (y := (⟨"java/lang/String", "<init>", "([C)V"⟩ : MethodName)) rfl hown (mvT hZ (hw _ (List.mem_of_getElem? (i := 6) rfl))) (mvT hZ (hw _ (List.mem_of_getElem? (i := 7) rfl))) (mvT hZ (hw _ (List.mem_of_getElem? (i := 8) rfl))) (by decide) (backOf (W := 1) (rm1 l Z a0 hw hr0 [] so bc cf cf cf (37 : Int32) ca fv cs h357 n0 Z357 E_so F_so_value F_so_coder V_bc hch g_so (Ne.symm ne_bc_so) J_) hZ (hw _ (List.mem_of_getElem? (i := 8) rfl)) (hw _ (List.mem_of_getElem? (i := 5) rfl)) (by decide) (by decide)) (g := (mkF m 106 #[.val (.int p1), .val (.int p2), .val (.int p3), .val (.int p4), .val (.int (3 : Int32)), .val (.int ca), .val (.int cb), .val (.int cf), .val (.ref bc), .unset, .unset] [(.ref bc), (.ref so), (.ref so)])) rfl (by rw [hml]; rfl) (Steps.refl _) (a := so) (argsL := [(.ref bc)]) (rest := [(.ref so)]) (lenOf pd_17 rfl) rfl (by show 2 * 0 + _ ≤ _; exact Nat.le_of_eq rfl) (hb hby at_106) (fun _ _ => ⟨rfl, e357, (by decide : 2 + 2 ≤ _), (by decide : 9 + 15 ≤ _)⟩)
    obtain ⟨Lc360, hQ360, X360⟩ := own_out hP360 X360
    clear hP360
    dsimp only [Pt.U, Pt.locs, Pt.cells, Pt.slots] at X360 st360 hQ360
    obtain ⟨rfl, Nq360, Kq360, b, k, vs, hS, hstr⟩ := hQ360
    replace J_ := J_.keep Kq360 (allS g_so all0)
    replace V_bc := V_bc.keep Kq360 (ninS ne_bc_so nin0)
    replace E_so := E_so.keep Kq360
    have Z360 : n0 ≤ T360.heap.size := Nat.le_trans Z357 Kq360.1
    have N360 := Fr.app N354 Nq360
    have pr361 : ∀ t, Steps p.tables e below (T360.setTop (mkF m 109 #[.val (.int p1), .val (.int p2), .val (.int p3), .val (.int p4), .val (.int (3 : Int32)), .val (.int ca), .val (.int cb), .val (.int cf), .val (.ref bc), .unset, .unset] [(.ref so)])) t → G t := fun t ks => pr359 t (st360.trans ks)
    have hk := own_strK rfl hstr
    have pr362 : ∀ t, Steps p.tables e below (T360.setTop (mkF m 144 #[.val (.int p1), .val (.int p2), .val (.int p3), .val (.int p4), .val (.int (3 : Int32)), .val (.int ca), .val (.int cb), .val (.int cf), .val (.ref bc), .val (.ref so), .val (.int (0 : Int32))] [(.int (3 : Int32)), (.ref so)])) t → G t := fun t ks => pr361 t (by
        refine XS.astore X360.here hx rfl (hb hby at_109) rfl rfl (l' := #[.val (.int p1), .val (.int p2), .val (.int p3), .val (.int p4), .val (.int (3 : Int32)), .val (.int ca), .val (.int cb), .val (.int cf), .val (.ref bc), .val (.ref so), .unset]) rfl ?_
        refine XS.iload X360.here hx rfl (hb hby at_111) rfl ?_
        refine XS.iconst X360.here hx rfl (hb hby at_113) ?_
        refine XS.icmpYes X360.here hx rfl (pc0 := 114) (pc' := 137) rfl (hb hby at_114) rfl (tlt (by decide)).2.2.1 (by decide) (by decide) ?_
        refine XS.iconst X360.here hx rfl (hb hby at_137) ?_
        refine XS.istore X360.here hx rfl (hb hby at_138) rfl (l' := #[.val (.int p1), .val (.int p2), .val (.int p3), .val (.int p4), .val (.int (3 : Int32)), .val (.int ca), .val (.int cb), .val (.int cf), .val (.ref bc), .val (.ref so), .val (.int (0 : Int32))]) rfl ?_
        refine XS.aload X360.here hx rfl (hb hby at_140) rfl rfl ?_
        refine XS.iload X360.here hx rfl (hb hby at_142) rfl ?_
        exact ks)
    obtain ⟨_, _, ⟨T363, L363, k363, n363⟩, -, X363, hP363, st363⟩ := Jvm.LawKit.callS X360 hx (y := (⟨"com/example/wirebind/wirebind/PercentEncoding", "isPercentTriplet", "(Ljava/lang/String;I)Z"⟩ : MethodName)) hown (mvT hZ (hw _ (List.mem_of_getElem? (i := 36) rfl))) (mvT hZ (hw _ (List.mem_of_getElem? (i := 37) rfl))) (mvT hZ (hw _ (List.mem_of_getElem? (i := 38) rfl))) (mvT hZ (hw _ (List.mem_of_getElem? (i := 39) rfl))) (by decide) (backOf (W := 0) (rmT0 l Z a0 hw hr0 [] so (3 : Int32) b k vs fv cs 3 T360.heap n0 Z360 hS J_ rfl hk (by decide) (by decide)) hZ (hw _ (List.mem_of_getElem? (i := 39) rfl)) (hw _ (List.mem_of_getElem? (i := 38) rfl)) (by decide) (by decide)) (g := (mkF m 144 #[.val (.int p1), .val (.int p2), .val (.int p3), .val (.int p4), .val (.int (3 : Int32)), .val (.int ca), .val (.int cb), .val (.int cf), .val (.ref bc), .val (.ref so), .val (.int (0 : Int32))] [(.int (3 : Int32)), (.ref so)])) rfl (by rw [hml]; rfl) (argsL := [(.ref so), (.int (3 : Int32))]) (rest := []) (lenOf pd_18 rfl) rfl (by show 2 * 0 + _ ≤ _; exact Nat.le_of_eq rfl) (hb hby at_144) (fun _ _ => ⟨rfl, rfl, (by decide : 4 + 0 ≤ _), (by decide : 24 + 0 ≤ _)⟩)
    obtain ⟨Lc363, hQ363, X363⟩ := own_out hP363 X363
    clear hP363
    dsimp only [Pt.U, Pt.locs, Pt.cells, Pt.slots] at X363 st363 hQ363
    obtain ⟨rfl, Nq363, eh363⟩ := hQ363
    have N363 := Fr.app N360 Nq363
    have pr364 : ∀ t, Steps p.tables e below (T363.setTop (mkF m 147 #[.val (.int p1), .val (.int p2), .val (.int p3), .val (.int p4), .val (.int (3 : Int32)), .val (.int ca), .val (.int cb), .val (.int cf), .val (.ref bc), .val (.ref so), .val (.int (0 : Int32))] [(.int (0 : Int32))])) t → G t := fun t ks => pr362 t (st363 t ks)
    have pr365 : ∀ t, Steps p.tables e below (T363.setTop (mkF m 157 #[.val (.int p1), .val (.int p2), .val (.int p3), .val (.int p4), .val (.int (3 : Int32)), .val (.int ca), .val (.int cb), .val (.int cf), .val (.ref bc), .val (.ref so), .val (.int (0 : Int32))] [(.int (1 : Int32))])) t → G t := fun t ks => pr364 t (by
        refine XS.iload X363.here hx rfl (hb hby at_147) rfl ?_
        refine XS.icmpNo X363.here hx rfl (hb hby at_149) rfl (teq (rfl : (0 : Int32) = (0 : Int32))).2 ?_
        refine XS.iconst X363.here hx rfl (hb hby at_152) ?_
        refine XS.goto X363.here hx rfl (pc0 := 153) (pc' := 157) rfl (hb hby at_153) (by decide) (by decide) ?_
        exact ks)
    obtain ⟨fs, hr, hrun, hended, hW, hsame⟩ := X363.leave (v := some (.int 1)) (fun h => by rw [Bd.returns] at h; cases h)
    refine ⟨_, _, hG _ (pr365 _ ?_), hrun, hended, _, _, rfl, ?_, ⟨_, rfl⟩, hW, hsame.mono (by decide) (by decide)⟩
    · exact retN X363 hx (t := .boolean) Bd.returns (by simp) (hb hby at_157) (by rw [show nar .boolean (1 : Int32) = 1 from rfl]; exact hr)
    · show Q0 n0 _ T363.heap _
      rw [eh363]
      exact ⟨rfl, N363⟩
  · rw [(show ix = (4 : Int32) from eix)] at pr257
    obtain ⟨T366, h366, X366, e366, W366, V366, st366⟩ := ia_stC X255 hx hZ e255 V_bc (j := (4 : Int32)) 4 rfl (by decide) (Nat.le_of_ble_eq_true rfl) (y := (37 : Int32)) rfl (g := (mkF m 65 #[.val (.int p1), .val (.int p2), .val (.int p3), .val (.int p4), .val (.int (4 : Int32)), .val (.int ca), .val (.int cb), .val (.int cf), .val (.ref bc), .unset, .unset] [(.int (37 : Int32)), (.int (4 : Int32)), (.ref bc)])) rfl rfl (hb hby at_65)
    replace V_bc := V366
    replace J_ := J_.wr W366
    have N366 := Fr.snoc X366 N255 g_bc
    have Z366 : n0 ≤ h366.size := Nat.le_trans Z255 (Keep.of_wr W366).1
    have pr367 : ∀ t, Steps p.tables e below (T366.setTop (mkF m 66 #[.val (.int p1), .val (.int p2), .val (.int p3), .val (.int p4), .val (.int (4 : Int32)), .val (.int ca), .val (.int cb), .val (.int cf), .val (.ref bc), .unset, .unset] [])) t → G t := fun t ks => pr257 t (st366 t ks)
    have pr368 : ∀ t, Steps p.tables e below (T366.setTop (mkF m 100 #[.val (.int p1), .val (.int p2), .val (.int p3), .val (.int p4), .val (.int (4 : Int32)), .val (.int ca), .val (.int cb), .val (.int cf), .val (.ref bc), .unset, .unset] [])) t → G t := fun t ks => pr367 t (by
        refine XS.iload X366.here hx rfl (hb hby at_66) rfl ?_
        refine XS.iconst X366.here hx rfl (hb hby at_68) ?_
        refine XS.iadd X366.here hx rfl (hb hby at_69) rfl ?_
        refine XS.iconst X366.here hx rfl (hb hby at_70) ?_
        refine XS.icmpYes X366.here hx rfl (pc0 := 71) (pc' := 83) rfl (hb hby at_71) rfl (flt (show ¬ (4 : Int32) + (1 : Int32) < (5 : Int32) by decide)).2.1 (by decide) (by decide) ?_
        refine XS.iload X366.here hx rfl (hb hby at_83) rfl ?_
        refine XS.iconst X366.here hx rfl (hb hby at_85) ?_
        refine XS.iadd X366.here hx rfl (hb hby at_86) rfl ?_
        refine XS.iconst X366.here hx rfl (hb hby at_87) ?_
        refine XS.icmpYes X366.here hx rfl (pc0 := 88) (pc' := 100) rfl (hb hby at_88) rfl (flt (show ¬ (4 : Int32) + (2 : Int32) < (5 : Int32) by decide)).2.1 (by decide) (by decide) ?_
        exact ks)
    replace V_bc : CA Z h366 bc [cf, cf, cf, cf, (37 : Int32)] := ⟨⟨k240, V_bc⟩, Nat.le_of_ble_eq_true rfl⟩
    have hch : ∀ i, i < 5 → ∃ q : Nat, q < 65536 ∧ [cf, cf, cf, cf, (37 : Int32)].getD i 0 = Int32.ofNat q := by
      intro i hi
      match i, hi with
      | 0, _ => exact ⟨_, hcf', ecf⟩
      | 1, _ => exact ⟨_, hcf', ecf⟩
      | 2, _ => exact ⟨_, hcf', ecf⟩
      | 3, _ => exact ⟨_, hcf', ecf⟩
      | 4, _ => exact ⟨37, by decide, rfl⟩
    obtain ⟨T369, h369, X369, e369, E369, A369, D369, -, st369⟩ := newO X366 hx hZ hown (hw _ (List.mem_of_getElem? (i := 3) rfl)) (hw _ (List.mem_of_getElem? (i := 4) rfl)) (hw _ (List.mem_of_getElem? (i := 5) rfl)) e366 (g := (mkF m 100 #[.val (.int p1), .val (.int p2), .val (.int p3), .val (.int p4), .val (.int (4 : Int32)), .val (.int ca), .val (.int cb), .val (.int cf), .val (.ref bc), .unset, .unset] [])) rfl (hb hby at_100) (by decide) (by decide)
    obtain ⟨so, g369⟩ : ∃ z, z = h366.size := ⟨_, rfl⟩
    rw [← g369] at A369 D369 st369
    have ne_bc_so : bc ≠ so := Nat.ne_of_lt (Nat.lt_of_lt_of_le V_bc.lt (Nat.le_of_eq g369.symm))
    have g_so : n0 ≤ so := Nat.le_trans Z366 (Nat.le_of_eq g369.symm)
    replace J_ := J_.ext E369
    replace V_bc := V_bc.ext E369
    have E_so := A369
    have F_so_coder : Fld Z h369 so "java/lang/String" "coder" "B" (.int (0 : Int32)) := D369 (Or.inr (hw _ (List.mem_of_getElem? (i := 29) rfl))) (ty := .byte) (by decide)
    have F_so_value : Fld Z h369 so "java/lang/String" "value" "[B" .null := D369 (Or.inr (hw _ (List.mem_of_getElem? (i := 31) rfl))) (ty := (.array .byte)) (by decide)
    have Z369 : n0 ≤ h369.size := Nat.le_trans Z366 E369.1
    have pr370 : ∀ t, Steps p.tables e below (T369.setTop (mkF m 103 #[.val (.int p1), .val (.int p2), .val (.int p3), .val (.int p4), .val (.int (4 : Int32)), .val (.int ca), .val (.int cb), .val (.int cf), .val (.ref bc), .unset, .unset] [(.ref so)])) t → G t := fun t ks => pr368 t (st369 t ks)
    have pr371 : ∀ t, Steps p.tables e below (T369.setTop (mkF m 106 #[.val (.int p1), .val (.int p2), .val (.int p3), .val (.int p4), .val (.int (4 : Int32)), .val (.int ca), .val (.int cb), .val (.int cf), .val (.ref bc), .unset, .unset] [(.ref bc), (.ref so), (.ref so)])) t → G t := fun t ks => pr370 t (by
        refine XS.dup X369.here hx rfl (hb hby at_103) rfl rfl ?_
        refine XS.aload X369.here hx rfl (hb hby at_104) rfl rfl ?_
        exact ks)
    obtain ⟨_, _, ⟨T372, L372, k372, n372⟩, -, X372, hP372, st372⟩ := X369.specialBack hx (y := (⟨"java/lang/String", "<init>", "([C)V"⟩ : MethodName)) rfl hown (mvT hZ (hw _ (List.mem_of_getElem? (i := 6) rfl))) (mvT hZ (hw _ (List.mem_of_getElem? (i := 7) rfl))) (mvT hZ (hw _ (List.mem_of_getElem? (i := 8) rfl))) (by decide) (backOf (W := 1) (rm1 l Z a0 hw hr0 [] so bc cf cf cf cf (37 : Int32) fv cs h369 n0 Z369 E_so F_so_value F_so_coder V_bc hch g_so (Ne.symm ne_bc_so) J_) hZ (hw _ (List.mem_of_getElem? (i := 8) rfl)) (hw _ (List.mem_of_getElem? (i := 5) rfl)) (by decide) (by decide)) (g := (mkF m 106 #[.val (.int p1), .val (.int p2), .val (.int p3), .val (.int p4), .val (.int (4 : Int32)), .val (.int ca), .val (.int cb), .val (.int cf), .val (.ref bc), .unset, .unset] [(.ref bc), (.ref so), (.ref so)])) rfl (by rw [hml]; rfl) (Steps.refl _) (a := so) (argsL := [(.ref bc)]) (rest := [(.ref so)]) (lenOf pd_17 rfl) rfl (by show 2 * 0 + _ ≤ _; exact Nat.le_of_eq rfl) (hb hby at_106) (fun _ _ => ⟨rfl, e369, (by decide : 2 + 2 ≤ _), (by decide : 9 + 15 ≤ _)⟩)
    obtain ⟨Lc372, hQ372, X372⟩ := own_out hP372 X372
    clear hP372
    dsimp only [Pt.U, Pt.locs, Pt.cells, Pt.slots] at X372 st372 hQ372
    obtain ⟨rfl, Nq372, Kq372, b, k, vs, hS, hstr⟩ := hQ372
    replace J_ := J_.keep Kq372 (allS g_so all0)
    replace V_bc := V_bc.keep Kq372 (ninS ne_bc_so nin0)
    replace E_so := E_so.keep Kq372
    have Z372 : n0 ≤ T372.heap.size := Nat.le_trans Z369 Kq372.1
    have N372 := Fr.app N366 Nq372
    have pr373 : ∀ t, Steps p.tables e below (T372.setTop (mkF m 109 #[.val (.int p1), .val (.int p2), .val (.int p3), .val (.int p4), .val (.int (4 : Int32)), .val (.int ca), .val (.int cb), .val (.int cf), .val (.ref bc), .unset, .unset] [(.ref so)])) t → G t := fun t ks => pr371 t (st372.trans ks)
    have hk := own_strK rfl hstr
    have pr374 : ∀ t, Steps p.tables e below (T372.setTop (mkF m 144 #[.val (.int p1), .val (.int p2), .val (.int p3), .val (.int p4), .val (.int (4 : Int32)), .val (.int ca), .val (.int cb), .val (.int cf), .val (.ref bc), .val (.ref so), .val (.int (0 : Int32))] [(.int (4 : Int32)), (.ref so)])) t → G t := fun t ks => pr373 t (by
        refine XS.astore X372.here hx rfl (hb hby at_109) rfl rfl (l' := #[.val (.int p1), .val (.int p2), .val (.int p3), .val (.int p4), .val (.int (4 : Int32)), .val (.int ca), .val (.int cb), .val (.int cf), .val (.ref bc), .val (.ref so), .unset]) rfl ?_
        refine XS.iload X372.here hx rfl (hb hby at_111) rfl ?_
        refine XS.iconst X372.here hx rfl (hb hby at_113) ?_
        refine XS.icmpYes X372.here hx rfl (pc0 := 114) (pc' := 137) rfl (hb hby at_114) rfl (tlt (by decide)).2.2.1 (by decide) (by decide) ?_
        refine XS.iconst X372.here hx rfl (hb hby at_137) ?_
        refine XS.istore X372.here hx rfl (hb hby at_138) rfl (l' := #[.val (.int p1), .val (.int p2), .val (.int p3), .val (.int p4), .val (.int (4 : Int32)), .val (.int ca), .val (.int cb), .val (.int cf), .val (.ref bc), .val (.ref so), .val (.int (0 : Int32))]) rfl ?_
        refine XS.aload X372.here hx rfl (hb hby at_140) rfl rfl ?_
        refine XS.iload X372.here hx rfl (hb hby at_142) rfl ?_
        exact ks)
    obtain ⟨_, _, ⟨T375, L375, k375, n375⟩, -, X375, hP375, st375⟩ := Jvm.LawKit.callS X372 hx (y := (⟨"com/example/wirebind/wirebind/PercentEncoding", "isPercentTriplet", "(Ljava/lang/String;I)Z"⟩ : MethodName)) hown (mvT hZ (hw _ (List.mem_of_getElem? (i := 36) rfl))) (mvT hZ (hw _ (List.mem_of_getElem? (i := 37) rfl))) (mvT hZ (hw _ (List.mem_of_getElem? (i := 38) rfl))) (mvT hZ (hw _ (List.mem_of_getElem? (i := 39) rfl))) (by decide) (backOf (W := 0) (rmT0 l Z a0 hw hr0 [] so (4 : Int32) b k vs fv cs 4 T372.heap n0 Z372 hS J_ rfl hk (by decide) (by decide)) hZ (hw _ (List.mem_of_getElem? (i := 39) rfl)) (hw _ (List.mem_of_getElem? (i := 38) rfl)) (by decide) (by decide)) (g := (mkF m 144 #[.val (.int p1), .val (.int p2), .val (.int p3), .val (.int p4), .val (.int (4 : Int32)), .val (.int ca), .val (.int cb), .val (.int cf), .val (.ref bc), .val (.ref so), .val (.int (0 : Int32))] [(.int (4 : Int32)), (.ref so)])) rfl (by rw [hml]; rfl) (argsL := [(.ref so), (.int (4 : Int32))]) (rest := []) (lenOf pd_18 rfl) rfl (by show 2 * 0 + _ ≤ _; exact Nat.le_of_eq rfl) (hb hby at_144) (fun _ _ => ⟨rfl, rfl, (by decide : 4 + 0 ≤ _), (by decide : 24 + 0 ≤ _)⟩)
    obtain ⟨Lc375, hQ375, X375⟩ := own_out hP375 X375
    clear hP375
    dsimp only [Pt.U, Pt.locs, Pt.cells, Pt.slots] at X375 st375 hQ375
    obtain ⟨rfl, Nq375, eh375⟩ := hQ375
    have N375 := Fr.app N372 Nq375
    have pr376 : ∀ t, Steps p.tables e below (T375.setTop (mkF m 147 #[.val (.int p1), .val (.int p2), .val (.int p3), .val (.int p4), .val (.int (4 : Int32)), .val (.int ca), .val (.int cb), .val (.int cf), .val (.ref bc), .val (.ref so), .val (.int (0 : Int32))] [(.int (0 : Int32))])) t → G t := fun t ks => pr374 t (st375 t ks)
    have pr377 : ∀ t, Steps p.tables e below (T375.setTop (mkF m 157 #[.val (.int p1), .val (.int p2), .val (.int p3), .val (.int p4), .val (.int (4 : Int32)), .val (.int ca), .val (.int cb), .val (.int cf), .val (.ref bc), .val (.ref so), .val (.int (0 : Int32))] [(.int (1 : Int32))])) t → G t := fun t ks => pr376 t (by
        refine XS.iload X375.here hx rfl (hb hby at_147) rfl ?_
        refine XS.icmpNo X375.here hx rfl (hb hby at_149) rfl (teq (rfl : (0 : Int32) = (0 : Int32))).2 ?_
        refine XS.iconst X375.here hx rfl (hb hby at_152) ?_
        refine XS.goto X375.here hx rfl (pc0 := 153) (pc' := 157) rfl (hb hby at_153) (by decide) (by decide) ?_
        exact ks)
    obtain ⟨fs, hr, hrun, hended, hW, hsame⟩ := X375.leave (v := some (.int 1)) (fun h => by rw [Bd.returns] at h; cases h)
    refine ⟨_, _, hG _ (pr377 _ ?_), hrun, hended, _, _, rfl, ?_, ⟨_, rfl⟩, hW, hsame.mono (by decide) (by decide)⟩
    · exact retN X375 hx (t := .boolean) Bd.returns (by simp) (hb hby at_157) (by rw [show nar .boolean (1 : Int32) = 1 from rfl]; exact hr)
    · show Q0 n0 _ T375.heap _
      rw [eh375]
      exact ⟨rfl, N375⟩
set_option maxRecDepth 65536 in
set_option maxHeartbeats 40000000 in
theorem comes_1 {Post : Tables → Env → Array Value → State → Outcome → State → Prop} (hpost : ∀ tb e args s v u, (limb_1_1.after args s (.returned v) u = true ∧ limb_1_2.after args s (.returned v) u = true ∧ True) → FrameEnd s (.returned v) u (Jvm.fieldLocs frame_1_writes args s ++ Jvm.arrayLocs frame_1_arrays args s ++ Jvm.staticLocs frame_1_statics s) 16 128 → Post tb e args s (.returned v) u) :
    ArmFor flags0 classFile x code maxLocals ret World_1 tables_1 room_1 Calls_1 rest_1 Pre_1 Post := by
  intro l hfl _ _ p e ha hc hk s m args below hf hA hF happ hP
  obtain ⟨hcalls, hrest, hpre⟩ := hP
  obtain ⟨-, -, -, hnamed, -, -, -, hat⟩ := (Spec.applies_iff hf).mp happ
  obtain ⟨hg, hn⟩ := and_e (Cond.before_iff.mp (show (Jvm.Cond.and given_1 narrow_1).before args s = true from hpre))
  obtain ⟨hcount, g0⟩ := and_e hg
  obtain ⟨ga0, g1⟩ := and_e g0
  obtain ⟨ga1, g2⟩ := and_e g1
  obtain ⟨ga2, g3⟩ := and_e g2
  have ga3 := g3
  obtain ⟨w0, w1, w2, w3, rfl⟩ : ∃ w0 w1 w2 w3 : Value, args = #[w0, w1, w2, w3] := by
    have hs : args.size = 4 := by simpa [Cond.value, given_1] using hcount
    obtain ⟨L⟩ := args
    match L, hs with
    | [w0, w1, w2, w3], _ => exact ⟨w0, w1, w2, w3, rfl⟩
  have hw := fun d (hd : d ∈ tables_1) => atoms_spec (ws := Jvm.Cond.code x code maxLocals ret :: tables_1) hat d (List.mem_cons_of_mem _ hd)
  have hfit : Fit s := fun {y c} hc i hi => by
    obtain ⟨ha, rfl⟩ := Array.getElem?_eq_some_iff.mp hc
    have q := List.all_eq_true.mp ((Array.all_eq_true_iff_forall_mem.mp hF) _ (Array.getElem_mem ha)) i (List.mem_range.mpr hi)
    simpa [Array.getElem?_eq_getElem hi] using q
  obtain ⟨hsets, hown0⟩ := atoms_of _ (rest_1_c_eq ▸ (show rest_1_c.before _ s = true from hrest))
  have hj := fun k d (hd : jdkStatics_1[k]? = some d) => hsets d (List.mem_of_getElem? hd)
  obtain ⟨cs, ecs⟩ := is_v (Cond.before_iff.mp (hj 1 _ rfl))
  have ncs : ¬ cs = 0 := own_not0 ecs (Cond.before_iff.mp (hj 2 _ rfl))
  obtain ⟨fv, efv, hfv⟩ := own_isref (Cond.before_iff.mp (hj 8 _ rfl))
  have e12 := own_eqI (Cond.before_iff.mp (hj 12 _ rfl))
  have e15 := own_eqI (Cond.before_iff.mp (hj 15 _ rfl))
  have e18 := own_eqI (Cond.before_iff.mp (hj 18 _ rfl))
  have Jn : JS s s.heap.size s.heap fv cs := ⟨SN.of (Sta.start ecs (Or.inl (hj 0 _ rfl))) (Nat.le_refl _), ncs, SN.of (Sta.start efv (Or.inl (hj 7 _ rfl))) (Nat.le_refl _), hfv, SN.of (Sta.start e12 (Or.inl (hj 11 _ rfl))) (Nat.le_refl _), SN.of (Sta.start e15 (Or.inl (hj 14 _ rfl))) (Nat.le_refl _), SN.of (Sta.start e18 (Or.inl (hj 17 _ rfl))) (Nat.le_refl _)⟩
  obtain ⟨i0, ei0⟩ := is_v ga0
  obtain rfl : w0 = (.int i0) := Option.some.inj ei0
  obtain ⟨i1, ei1⟩ := is_v ga1
  obtain rfl : w1 = (.int i1) := Option.some.inj ei1
  obtain ⟨i2, ei2⟩ := is_v ga2
  obtain rfl : w2 = (.int i2) := Option.some.inj ei2
  obtain ⟨i3, ei3⟩ := is_v ga3
  obtain rfl : w3 = (.int i3) := Option.some.inj ei3
  obtain ⟨n, o, h1, h2, h3, _, L, rfl, ⟨rfl, N⟩, hq⟩ := rm0 l s _ hw hsets tables_1 i0 i1 i2 i3 fv cs s.heap s.heap.size (Nat.le_refl _) Jn p e ha hc hk s m _ below hf ((Spec.applies_iff_loose hf).mp happ).1 ⟨rfl, State.Warmed39.refl s, rfl⟩ trivial
  refine ⟨n, _, h1, h2, h3, hpost _ _ _ _ _ _ ⟨Cond.after_iff.mpr rfl, Cond.after_iff.mpr (eq_i res_at (Term.int_eval (1)) rfl), trivial⟩ ⟨hq.1, hq.2.1, (hq.2.2.sift fun y hy => Or.inr (N y hy)).mono (by decide) (by decide)⟩⟩
theorem main_1_1 : Claimed_1_1 := comes_1 fun _ _ _ _ _ _ h hF => ⟨h.1, hF⟩
theorem main_1_2 : Claimed_1_2 := comes_1 fun _ _ _ _ _ _ h hF => ⟨h.2.1, hF⟩
end Jvm.Pilot.@@N@@
namespace Jvm.Pilot.@@N@@
open Jvm Jvm.ClassFile Sem Op Lib Jvm.Free Jvm.Stand Jvm.Pilot.@@N@@.Jvm.D
/-! MADE BY PROGRAM (witnessworld.py) out of the Statement's table words and the real class files: 20 classes; the members and pool entries that the words name. The judged class is class 1, her method 1. -/
namespace start1
open Jvm.ClassFile
def u (s : String) : CpInfo := .utf8 (stringToUtf16 s)
/-- a pool by its gaps: so many unusable entries, then the entry; so many at the end -/
def gap : Nat → List CpInfo → List CpInfo
  | 0, r => r
  | n + 1, r => .unusable :: gap n r
def poolList (es : List (Nat × CpInfo)) (last : Nat) : List CpInfo := es.foldr (fun e r => gap e.1 (e.2 :: r)) (gap last [])
def pool (es : List (Nat × CpInfo)) (last : Nat) : Array CpInfo := ⟨poolList es last⟩
def fileOf (pool : Array CpInfo) (this : Nat) (attrs : Array Attribute := #[]) (ms : Array MethodInfo := #[]) (fl : Nat := 33) (sup : Nat := 0) (ifs : Array Nat := #[]) (fds : Array FieldInfo := #[]) : ClassFile where
  minorVersion := 0
  majorVersion := 65
  constantPool := pool
  accessFlags := fl
  thisClass := this
  superClass := sup
  interfaces := ifs
  fields := fds
  methods := ms
  attributes := attrs
def plain (name : String) (sup : Option ClassId) : Class where
  name := name
  kind := .ordinary
  loader := none
  accessFlags := 33
  super := sup
  interfaces := #[]
  cf := none
  fields := #[]
  methods := #[]
  instanceTypes := #[]
  staticTypes := #[]
  resolved := #[]
  callSites := []
  init := .initialized
  statics := none
  mirror := none

def pool0 : Array CpInfo := pool [(5, u "<init>"), (0, u "()V"), (1, .class_ 10), (1, u "java/lang/Object")] 113

def k0c0 : Code := { maxStack := 0, maxLocals := 1, code := object_method_1_code, exceptionTable := #[], attributes := #[] }
def k0m0 : Method := { name := "<init>", desc := "()V", sig := { parameters := [], returnType := none }, accessFlags := 1, code := some k0c0 }
/-- java/lang/Object -/
def k0 : Class := { plain "java/lang/Object" none with
  accessFlags := 33
  interfaces := #[]
  cf := some (fileOf pool0 8 #[] #[{ accessFlags := 1, nameIndex := 5, descriptorIndex := 6, attributes := #[] }] 33 0 #[] #[])
  fields := #[]
  methods := #[k0m0]
  instanceTypes := #[]
  staticTypes := #[]
  resolved := Array.replicate 124 none
  statics := none }

def pool1 : Array CpInfo := pool [(2, .class_ 4), (1, u "java/lang/Object"), (0, u "<init>"), (0, u "()V"), (0, .integer 2147483647), (0, .integer 65535), (0, .class_ 10), (0, u "java/lang/String"), (0, .methodref 9 12), (0, .nameAndType 5 13), (0, u "([C)V"), (0, .methodref 15 16), (0, .class_ 17), (0, .nameAndType 18 19), (0, u "com/example/wirebind/wirebind/PercentEncodingIsPercentTripletPinLaw"), (0, u "hex"), (0, u "(C)Z"), (0, .methodref 21 22), (0, .class_ 23), (0, .nameAndType 24 25), (0, u "com/example/wirebind/wirebind/PercentEncoding"), (0, u "isPercentTriplet"), (0, u "(Ljava/lang/String;I)Z"), (2, u "law"), (0, u "(IIII)Z")] 5

def k1m0 : Method := { name := "<init>", desc := "()V", sig := { parameters := [], returnType := none }, accessFlags := 1, code := none }
def k1c1 : Code := { maxStack := 4, maxLocals := 11, code := code, exceptionTable := #[], attributes := #[] }
def k1m1 : Method := { name := "law", desc := "(IIII)Z", sig := { parameters := [.int, .int, .int, .int], returnType := some .boolean }, accessFlags := 9, code := some k1c1 }
def k1c2 : Code := { maxStack := 2, maxLocals := 3, code := method_3_code, exceptionTable := #[], attributes := #[] }
def k1m2 : Method := { name := "hex", desc := "(C)Z", sig := { parameters := [.char], returnType := some .boolean }, accessFlags := 10, code := some k1c2 }
/-- com/example/wirebind/wirebind/PercentEncodingIsPercentTripletPinLaw -/
def k1 : Class := { plain "com/example/wirebind/wirebind/PercentEncodingIsPercentTripletPinLaw" (some 0) with
  accessFlags := 49
  interfaces := #[]
  cf := some (fileOf pool1 15 #[] #[{ accessFlags := 1, nameIndex := 5, descriptorIndex := 6, attributes := #[] }, { accessFlags := 9, nameIndex := 28, descriptorIndex := 29, attributes := #[] }, { accessFlags := 10, nameIndex := 18, descriptorIndex := 19, attributes := #[] }] 49 2 #[] #[])
  fields := #[]
  methods := #[k1m0, k1m1, k1m2]
  instanceTypes := #[]
  staticTypes := #[]
  resolved := Array.replicate 35 none
  statics := none }

def pool2 : Array CpInfo := pool [(1, .class_ 2), (0, u "java/io/Serializable"), (0, .class_ 4), (0, u "java/lang/Object")] 2

/-- java/io/Serializable -/
def k2 : Class := { plain "java/io/Serializable" (some 0) with
  accessFlags := 1537
  interfaces := #[]
  cf := some (fileOf pool2 1 #[] #[] 1537 3 #[] #[])
  fields := #[]
  methods := #[]
  instanceTypes := #[]
  staticTypes := #[]
  resolved := Array.replicate 7 none
  statics := none }

def pool3 : Array CpInfo := pool [(1, .class_ 2), (0, u "java/lang/Comparable"), (0, .class_ 4), (0, u "java/lang/Object")] 7

/-- java/lang/Comparable -/
def k3 : Class := { plain "java/lang/Comparable" (some 0) with
  accessFlags := 1537
  interfaces := #[]
  cf := some (fileOf pool3 1 #[] #[] 1537 3 #[] #[])
  fields := #[]
  methods := #[]
  instanceTypes := #[]
  staticTypes := #[]
  resolved := Array.replicate 12 none
  statics := none }

def pool4 : Array CpInfo := pool [(2, .class_ 4), (1, u "java/lang/CharSequence"), (42, .class_ 48), (0, u "java/lang/CharSequence$1CodePointIterator"), (10, .class_ 60), (0, u "java/lang/CharSequence$1CharIterator"), (5, .class_ 67), (0, u "java/lang/Object")] 63

/-- java/lang/CharSequence -/
def k4 : Class := { plain "java/lang/CharSequence" (some 0) with
  accessFlags := 1537
  interfaces := #[]
  cf := some (fileOf pool4 2 #[.nestMembers #[47, 59]] #[] 1537 66 #[] #[])
  fields := #[]
  methods := #[]
  instanceTypes := #[]
  staticTypes := #[]
  resolved := Array.replicate 131 none
  statics := none }

def pool5 : Array CpInfo := pool [(1, .class_ 2), (0, u "java/lang/constant/Constable"), (0, .class_ 4), (0, u "java/lang/Object")] 6

/-- java/lang/constant/Constable -/
def k5 : Class := { plain "java/lang/constant/Constable" (some 0) with
  accessFlags := 1537
  interfaces := #[]
  cf := some (fileOf pool5 1 #[] #[] 1537 3 #[] #[])
  fields := #[]
  methods := #[]
  instanceTypes := #[]
  staticTypes := #[]
  resolved := Array.replicate 11 none
  statics := none }

def pool6 : Array CpInfo := pool [(1, .class_ 2), (0, u "java/lang/constant/ConstantDesc"), (0, .class_ 4), (0, u "java/lang/Object")] 32

/-- java/lang/constant/ConstantDesc -/
def k6 : Class := { plain "java/lang/constant/ConstantDesc" (some 0) with
  accessFlags := 1537
  interfaces := #[]
  cf := some (fileOf pool6 1 #[] #[] 1537 3 #[] #[])
  fields := #[]
  methods := #[]
  instanceTypes := #[]
  staticTypes := #[]
  resolved := Array.replicate 37 none
  statics := none }

def pool7 : Array CpInfo := pool [(1, .methodref 2 3), (0, .class_ 4), (0, .nameAndType 5 6), (0, u "java/lang/Object"), (0, u "<init>"), (0, u "()V"), (2, .fieldref 10 11), (0, .class_ 12), (0, .nameAndType 13 14), (0, u "java/lang/String"), (0, u "value"), (0, u "[B"), (0, .fieldref 10 16), (0, .nameAndType 17 18), (0, u "coder"), (0, u "B"), (2, u "hash"), (0, u "I"), (2, u "hashIsZero"), (0, u "Z"), (0, .methodref 10 28), (0, .nameAndType 5 29), (0, u "([CIILjava/lang/Void;)V"), (8, .fieldref 10 39), (0, .nameAndType 40 26), (0, u "COMPACT_STRINGS"), (1, .class_ 44), (1, u "java/lang/StringUTF16"), (0, u "compress"), (1, .methodref 42 48), (0, .nameAndType 49 50), (0, u "coderFromArrayLen"), (0, u "([BI)B"), (56, .class_ 109), (1, u "java/lang/StringLatin1"), (32, u "()Z"), (34, .methodref 42 178), (0, .nameAndType 45 179), (0, u "([CII)[B"), (154, u "()I"), (0, .methodref 10 336), (0, .nameAndType 17 337), (0, u "()B"), (25, u "([BI)C"), (27, u "(II)V"), (35, u "(I)C"), (64, .methodref 10 493), (0, .nameAndType 494 142), (0, u "isLatin1"), (0, .methodref 107 496), (0, .nameAndType 497 363), (0, u "charAt"), (0, .methodref 42 496), (2, u "checkIndex"), (5, u "length"), (67, .class_ 576), (0, u "java/lang/CharSequence"), (22, u "CASE_INSENSITIVE_ORDER"), (0, u "Ljava/util/Comparator;"), (409, u "([C)V"), (42, .fieldref 1054 1055), (0, .class_ 1056), (0, .nameAndType 1057 1058), (0, u "jdk/internal/util/Preconditions"), (0, u "SIOOBE_FORMATTER"), (0, u "Ljava/util/function/BiFunction;"), (0, .methodref 1054 1060), (0, .nameAndType 501 1061), (0, u "(IILjava/util/function/BiFunction;)I"), (39, u "serialPersistentFields"), (0, u "[Ljava/io/ObjectStreamField;"), (0, .class_ 1104), (0, u "java/lang/String$CaseInsensitiveComparator"), (1, .class_ 1107), (0, u "java/io/Serializable"), (0, .class_ 1109), (0, u "java/lang/Comparable"), (0, .class_ 1111), (0, u "java/lang/constant/Constable"), (0, .class_ 1113), (0, u "java/lang/constant/ConstantDesc"), (2, u "serialVersionUID"), (0, u "J"), (3, u "REPL"), (0, u "C"), (2, u "LATIN1"), (1, u "UTF16")] 323

def k7m0 : Method := { name := "<init>", desc := "()V", sig := { parameters := [], returnType := none }, accessFlags := 1, code := none }
def k7c1 : Code := { maxStack := 5, maxLocals := 2, code := jdk_42_method_3_code, exceptionTable := #[], attributes := #[] }
def k7m1 : Method := { name := "<init>", desc := "([C)V", sig := { parameters := [(.array .char)], returnType := none }, accessFlags := 1, code := some k7c1 }
def k7c2 : Code := { maxStack := 2, maxLocals := 1, code := jdk_42_method_54_code, exceptionTable := #[], attributes := #[] }
def k7m2 : Method := { name := "length", desc := "()I", sig := { parameters := [], returnType := some .int }, accessFlags := 1, code := some k7c2 }
def k7c3 : Code := { maxStack := 2, maxLocals := 2, code := jdk_42_method_56_code, exceptionTable := #[], attributes := #[] }
def k7m3 : Method := { name := "charAt", desc := "(I)C", sig := { parameters := [.int], returnType := some .char }, accessFlags := 1, code := some k7c3 }
def k7c4 : Code := { maxStack := 4, maxLocals := 6, code := jdk_42_method_149_code, exceptionTable := #[], attributes := #[] }
def k7m4 : Method := { name := "<init>", desc := "([CIILjava/lang/Void;)V", sig := { parameters := [(.array .char), .int, .int, (.object "java/lang/Void")], returnType := none }, accessFlags := 2, code := some k7c4 }
def k7c5 : Code := { maxStack := 1, maxLocals := 1, code := jdk_42_method_152_code, exceptionTable := #[], attributes := #[] }
def k7m5 : Method := { name := "coder", desc := "()B", sig := { parameters := [], returnType := some .byte }, accessFlags := 0, code := some k7c5 }
def k7c6 : Code := { maxStack := 1, maxLocals := 1, code := jdk_42_method_154_code, exceptionTable := #[], attributes := #[] }
def k7m6 : Method := { name := "isLatin1", desc := "()Z", sig := { parameters := [], returnType := some .boolean }, accessFlags := 0, code := some k7c6 }
def k7c7 : Code := { maxStack := 3, maxLocals := 2, code := jdk_42_method_155_code, exceptionTable := #[], attributes := #[] }
def k7m7 : Method := { name := "checkIndex", desc := "(II)V", sig := { parameters := [.int, .int], returnType := none }, accessFlags := 8, code := some k7c7 }
/-- java/lang/String -/
def k7 : Class := { plain "java/lang/String" (some 0) with
  accessFlags := 49
  interfaces := #[2, 3, 4, 5, 6]
  cf := some (fileOf pool7 10 #[.nestMembers #[1103]] #[{ accessFlags := 1, nameIndex := 5, descriptorIndex := 6, attributes := #[] }, { accessFlags := 1, nameIndex := 5, descriptorIndex := 1010, attributes := #[] }, { accessFlags := 1, nameIndex := 507, descriptorIndex := 334, attributes := #[] }, { accessFlags := 1, nameIndex := 497, descriptorIndex := 427, attributes := #[] }, { accessFlags := 2, nameIndex := 5, descriptorIndex := 29, attributes := #[] }, { accessFlags := 0, nameIndex := 17, descriptorIndex := 337, attributes := #[] }, { accessFlags := 0, nameIndex := 494, descriptorIndex := 142, attributes := #[] }, { accessFlags := 8, nameIndex := 501, descriptorIndex := 391, attributes := #[] }] 49 2 #[1106, 1108, 575, 1110, 1112] #[{ accessFlags := 18, nameIndex := 13, descriptorIndex := 14, attributes := #[] }, { accessFlags := 18, nameIndex := 17, descriptorIndex := 18, attributes := #[] }, { accessFlags := 2, nameIndex := 21, descriptorIndex := 22, attributes := #[] }, { accessFlags := 2, nameIndex := 25, descriptorIndex := 26, attributes := #[] }, { accessFlags := 26, nameIndex := 1116, descriptorIndex := 1117, attributes := #[] }, { accessFlags := 24, nameIndex := 40, descriptorIndex := 26, attributes := #[] }, { accessFlags := 26, nameIndex := 1101, descriptorIndex := 1102, attributes := #[] }, { accessFlags := 26, nameIndex := 1121, descriptorIndex := 1122, attributes := #[] }, { accessFlags := 25, nameIndex := 599, descriptorIndex := 600, attributes := #[] }, { accessFlags := 24, nameIndex := 1125, descriptorIndex := 18, attributes := #[] }, { accessFlags := 24, nameIndex := 1127, descriptorIndex := 18, attributes := #[] }])
  fields := #[{ name := "value", type := (.array .byte), accessFlags := 18, slot := 0, constantValue := 0 }, { name := "coder", type := .byte, accessFlags := 18, slot := 1, constantValue := 0 }, { name := "hash", type := .int, accessFlags := 2, slot := 2, constantValue := 0 }, { name := "hashIsZero", type := .boolean, accessFlags := 2, slot := 3, constantValue := 0 }, { name := "serialVersionUID", type := .long, accessFlags := 26, slot := 0, constantValue := 0 }, { name := "COMPACT_STRINGS", type := .boolean, accessFlags := 24, slot := 1, constantValue := 0 }, { name := "serialPersistentFields", type := (.array (.object "java/io/ObjectStreamField")), accessFlags := 26, slot := 2, constantValue := 0 }, { name := "REPL", type := .char, accessFlags := 26, slot := 3, constantValue := 0 }, { name := "CASE_INSENSITIVE_ORDER", type := (.object "java/util/Comparator"), accessFlags := 25, slot := 4, constantValue := 0 }, { name := "LATIN1", type := .byte, accessFlags := 24, slot := 5, constantValue := 0 }, { name := "UTF16", type := .byte, accessFlags := 24, slot := 6, constantValue := 0 }]
  methods := #[k7m0, k7m1, k7m2, k7m3, k7m4, k7m5, k7m6, k7m7]
  instanceTypes := #[(.array .byte), .byte, .int, .boolean]
  staticTypes := #[.long, .boolean, (.array (.object "java/io/ObjectStreamField")), .char, (.object "java/util/Comparator"), .byte, .byte]
  resolved := Array.replicate 1451 none
  statics := some 0 }

def pool8 : Array CpInfo := pool [(3, .class_ 4), (0, u "java/lang/String"), (1, .class_ 8), (1, u "java/lang/Object"), (0, u "<init>"), (0, u "()V"), (0, .methodref 12 13), (0, .class_ 14), (0, .nameAndType 15 16), (0, u "java/lang/StringUTF16"), (0, u "newBytesLength"), (0, u "(I)I"), (3, .integer 1073741823), (23, .fieldref 12 45), (0, .nameAndType 46 47), (0, u "$assertionsDisabled"), (0, u "Z"), (0, .methodref 12 49), (0, .nameAndType 50 51), (0, u "length"), (0, u "([B)I"), (7, .fieldref 12 60), (0, .nameAndType 61 62), (0, u "HI_BYTE_SHIFT"), (0, u "I"), (0, .fieldref 12 64), (0, .nameAndType 65 62), (0, u "LO_BYTE_SHIFT"), (1, .methodref 12 68), (0, .nameAndType 69 70), (0, u "checkIndex"), (0, u "(I[B)V"), (0, .methodref 12 72), (0, .nameAndType 73 74), (0, u "getChar"), (0, u "([BI)C"), (32, .methodref 12 108), (0, .nameAndType 109 110), (0, u "newBytesFor"), (0, u "(I)[B"), (0, .methodref 12 112), (0, .nameAndType 113 114), (0, u "putChar"), (0, u "([BII)V"), (0, .methodref 12 116), (0, .nameAndType 117 118), (0, u "compress"), (0, u "([CI[BII)I"), (0, .methodref 12 120), (0, .nameAndType 121 122), (0, u "toBytes"), (0, u "([CII)[B"), (138, u "coderFromArrayLen"), (0, u "([BI)B"), (106, .class_ 371), (1, u "java/lang/StringUTF16$LinesSpliterator"), (20, u "charAt"), (21, .methodref 3 415), (0, .nameAndType 69 416), (0, u "(II)V"), (13, u "MAX_LENGTH"), (196, .class_ 628), (0, u "java/lang/StringUTF16$CodePointsSpliterator"), (0, .class_ 630), (0, u "java/lang/StringUTF16$CharsSpliterator")] 4

def k8m0 : Method := { name := "<init>", desc := "()V", sig := { parameters := [], returnType := none }, accessFlags := 0, code := none }
def k8c1 : Code := { maxStack := 1, maxLocals := 1, code := jdk_52_method_2_code, exceptionTable := #[], attributes := #[] }
def k8m1 : Method := { name := "newBytesFor", desc := "(I)[B", sig := { parameters := [.int], returnType := some (.array .byte) }, accessFlags := 9, code := some k8c1 }
def k8c2 : Code := { maxStack := 4, maxLocals := 1, code := jdk_52_method_3_code, exceptionTable := #[], attributes := #[] }
def k8m2 : Method := { name := "newBytesLength", desc := "(I)I", sig := { parameters := [.int], returnType := some .int }, accessFlags := 9, code := some k8c2 }
def k8c3 : Code := { maxStack := 4, maxLocals := 3, code := jdk_52_method_4_code, exceptionTable := #[], attributes := #[] }
def k8m3 : Method := { name := "putChar", desc := "([BII)V", sig := { parameters := [(.array .byte), .int, .int], returnType := none }, accessFlags := 8, code := some k8c3 }
def k8c4 : Code := { maxStack := 3, maxLocals := 2, code := jdk_52_method_5_code, exceptionTable := #[], attributes := #[] }
def k8m4 : Method := { name := "getChar", desc := "([BI)C", sig := { parameters := [(.array .byte), .int], returnType := some .char }, accessFlags := 8, code := some k8c4 }
def k8c5 : Code := { maxStack := 2, maxLocals := 1, code := jdk_52_method_6_code, exceptionTable := #[], attributes := #[] }
def k8m5 : Method := { name := "length", desc := "([B)I", sig := { parameters := [(.array .byte)], returnType := some .int }, accessFlags := 9, code := some k8c5 }
def k8c6 : Code := { maxStack := 4, maxLocals := 5, code := jdk_52_method_14_code, exceptionTable := #[], attributes := #[] }
def k8m6 : Method := { name := "toBytes", desc := "([CII)[B", sig := { parameters := [(.array .char), .int, .int], returnType := some (.array .byte) }, accessFlags := 9, code := some k8c6 }
def k8c7 : Code := { maxStack := 2, maxLocals := 2, code := jdk_52_method_15_code, exceptionTable := #[], attributes := #[] }
def k8m7 : Method := { name := "coderFromArrayLen", desc := "([BI)B", sig := { parameters := [(.array .byte), .int], returnType := some .byte }, accessFlags := 8, code := some k8c7 }
def k8c8 : Code := { maxStack := 5, maxLocals := 6, code := jdk_52_method_16_code, exceptionTable := #[], attributes := #[] }
def k8m8 : Method := { name := "compress", desc := "([CII)[B", sig := { parameters := [(.array .char), .int, .int], returnType := some (.array .byte) }, accessFlags := 9, code := some k8c8 }
def k8c9 : Code := { maxStack := 3, maxLocals := 7, code := jdk_52_method_21_code, exceptionTable := #[], attributes := #[] }
def k8m9 : Method := { name := "compress", desc := "([CI[BII)I", sig := { parameters := [(.array .char), .int, (.array .byte), .int, .int], returnType := some .int }, accessFlags := 9, code := some k8c9 }
def k8c10 : Code := { maxStack := 2, maxLocals := 2, code := jdk_52_method_83_code, exceptionTable := #[], attributes := #[] }
def k8m10 : Method := { name := "charAt", desc := "([BI)C", sig := { parameters := [(.array .byte), .int], returnType := some .char }, accessFlags := 9, code := some k8c10 }
def k8c11 : Code := { maxStack := 2, maxLocals := 2, code := jdk_52_method_91_code, exceptionTable := #[], attributes := #[] }
def k8m11 : Method := { name := "checkIndex", desc := "(I[B)V", sig := { parameters := [.int, (.array .byte)], returnType := none }, accessFlags := 9, code := some k8c11 }
/-- java/lang/StringUTF16 -/
def k8 : Class := { plain "java/lang/StringUTF16" (some 0) with
  accessFlags := 48
  interfaces := #[]
  cf := some (fileOf pool8 12 #[.nestMembers #[627, 629, 369]] #[{ accessFlags := 0, nameIndex := 9, descriptorIndex := 10, attributes := #[] }, { accessFlags := 9, nameIndex := 109, descriptorIndex := 110, attributes := #[] }, { accessFlags := 9, nameIndex := 15, descriptorIndex := 16, attributes := #[] }, { accessFlags := 8, nameIndex := 113, descriptorIndex := 114, attributes := #[] }, { accessFlags := 8, nameIndex := 73, descriptorIndex := 74, attributes := #[] }, { accessFlags := 9, nameIndex := 50, descriptorIndex := 51, attributes := #[] }, { accessFlags := 9, nameIndex := 121, descriptorIndex := 122, attributes := #[] }, { accessFlags := 8, nameIndex := 261, descriptorIndex := 262, attributes := #[] }, { accessFlags := 9, nameIndex := 117, descriptorIndex := 122, attributes := #[] }, { accessFlags := 9, nameIndex := 117, descriptorIndex := 118, attributes := #[] }, { accessFlags := 9, nameIndex := 392, descriptorIndex := 74, attributes := #[] }, { accessFlags := 9, nameIndex := 69, descriptorIndex := 70, attributes := #[] }] 48 6 #[] #[{ accessFlags := 26, nameIndex := 61, descriptorIndex := 62, attributes := #[] }, { accessFlags := 26, nameIndex := 65, descriptorIndex := 62, attributes := #[] }, { accessFlags := 24, nameIndex := 430, descriptorIndex := 62, attributes := #[] }, { accessFlags := 4120, nameIndex := 46, descriptorIndex := 47, attributes := #[] }])
  fields := #[{ name := "HI_BYTE_SHIFT", type := .int, accessFlags := 26, slot := 0, constantValue := 0 }, { name := "LO_BYTE_SHIFT", type := .int, accessFlags := 26, slot := 1, constantValue := 0 }, { name := "MAX_LENGTH", type := .int, accessFlags := 24, slot := 2, constantValue := 0 }, { name := "$assertionsDisabled", type := .boolean, accessFlags := 4120, slot := 3, constantValue := 0 }]
  methods := #[k8m0, k8m1, k8m2, k8m3, k8m4, k8m5, k8m6, k8m7, k8m8, k8m9, k8m10, k8m11]
  instanceTypes := #[]
  staticTypes := #[.int, .int, .int, .boolean]
  resolved := Array.replicate 635 none
  statics := some 1 }

def pool9 : Array CpInfo := pool [(2, .class_ 4), (1, u "java/lang/Object"), (0, u "<init>"), (0, u "()V"), (0, .class_ 8), (0, u "com/example/wirebind/wirebind/PercentEncoding"), (8, .methodref 18 19), (0, .class_ 20), (0, .nameAndType 21 22), (0, u "java/lang/String"), (0, u "length"), (0, u "()I"), (0, .methodref 18 24), (0, .nameAndType 25 26), (0, u "charAt"), (0, u "(I)C"), (3, u "(C)Z"), (6, u "isPercentTriplet"), (0, u "(Ljava/lang/String;I)Z"), (45, u "HEX"), (0, u "[C"), (0, .methodref 7 87), (0, .nameAndType 88 30), (0, u "isHexDigit"), (9, u "RESERVED_CHARACTERS"), (0, u "Ljava/lang/String;"), (1, u "PATH_CHARACTERS")] 26

def k9m0 : Method := { name := "<init>", desc := "()V", sig := { parameters := [], returnType := none }, accessFlags := 2, code := none }
def k9c1 : Code := { maxStack := 3, maxLocals := 2, code := prog_49_method_8_code, exceptionTable := #[], attributes := #[] }
def k9m1 : Method := { name := "isPercentTriplet", desc := "(Ljava/lang/String;I)Z", sig := { parameters := [(.object "java/lang/String"), .int], returnType := some .boolean }, accessFlags := 8, code := some k9c1 }
def k9c2 : Code := { maxStack := 2, maxLocals := 1, code := prog_49_method_12_code, exceptionTable := #[], attributes := #[] }
def k9m2 : Method := { name := "isHexDigit", desc := "(C)Z", sig := { parameters := [.char], returnType := some .boolean }, accessFlags := 10, code := some k9c2 }
/-- com/example/wirebind/wirebind/PercentEncoding -/
def k9 : Class := { plain "com/example/wirebind/wirebind/PercentEncoding" (some 0) with
  accessFlags := 48
  interfaces := #[]
  cf := some (fileOf pool9 7 #[] #[{ accessFlags := 2, nameIndex := 5, descriptorIndex := 6, attributes := #[] }, { accessFlags := 8, nameIndex := 37, descriptorIndex := 38, attributes := #[] }, { accessFlags := 10, nameIndex := 88, descriptorIndex := 30, attributes := #[] }] 48 2 #[] #[{ accessFlags := 26, nameIndex := 84, descriptorIndex := 85, attributes := #[] }, { accessFlags := 26, nameIndex := 98, descriptorIndex := 99, attributes := #[] }, { accessFlags := 24, nameIndex := 101, descriptorIndex := 99, attributes := #[] }])
  fields := #[{ name := "HEX", type := (.array .char), accessFlags := 26, slot := 0, constantValue := 0 }, { name := "RESERVED_CHARACTERS", type := (.object "java/lang/String"), accessFlags := 26, slot := 1, constantValue := 0 }, { name := "PATH_CHARACTERS", type := (.object "java/lang/String"), accessFlags := 24, slot := 2, constantValue := 0 }]
  methods := #[k9m0, k9m1, k9m2]
  instanceTypes := #[]
  staticTypes := #[(.array .char), (.object "java/lang/String"), (.object "java/lang/String")]
  resolved := Array.replicate 128 none
  statics := none }

def pool10 : Array CpInfo := pool [(1, .class_ 2), (0, u "java/lang/String"), (1, .class_ 6), (1, u "java/lang/Object"), (0, u "<init>"), (0, u "()V"), (0, .methodref 1 10), (0, .nameAndType 11 12), (0, u "checkIndex"), (0, u "(II)V"), (1, .class_ 16), (1, u "java/lang/StringLatin1"), (36, u "([BI)C"), (67, u "$assertionsDisabled"), (0, u "Z"), (98, .class_ 223), (1, u "java/lang/StringLatin1$LinesSpliterator"), (28, u "charAt"), (137, .class_ 391), (0, u "java/lang/StringLatin1$CharsSpliterator")] 3

def k10m0 : Method := { name := "<init>", desc := "()V", sig := { parameters := [], returnType := none }, accessFlags := 0, code := none }
def k10c1 : Code := { maxStack := 2, maxLocals := 2, code := jdk_43_method_2_code, exceptionTable := #[], attributes := #[] }
def k10m1 : Method := { name := "charAt", desc := "([BI)C", sig := { parameters := [(.array .byte), .int], returnType := some .char }, accessFlags := 9, code := some k10c1 }
/-- java/lang/StringLatin1 -/
def k10 : Class := { plain "java/lang/StringLatin1" (some 0) with
  accessFlags := 48
  interfaces := #[]
  cf := some (fileOf pool10 14 #[.nestMembers #[390, 221]] #[{ accessFlags := 0, nameIndex := 7, descriptorIndex := 8, attributes := #[] }, { accessFlags := 9, nameIndex := 252, descriptorIndex := 53, attributes := #[] }] 48 4 #[] #[{ accessFlags := 4120, nameIndex := 121, descriptorIndex := 122, attributes := #[] }])
  fields := #[{ name := "$assertionsDisabled", type := .boolean, accessFlags := 4120, slot := 0, constantValue := 0 }]
  methods := #[k10m0, k10m1]
  instanceTypes := #[]
  staticTypes := #[.boolean]
  resolved := Array.replicate 395 none
  statics := none }

def pool11 : Array CpInfo := pool [(2, .class_ 4), (1, u "java/lang/Object"), (0, u "<init>"), (0, u "()V"), (17, .class_ 26), (1, u "jdk/internal/util/Preconditions"), (6, u "checkIndex"), (21, .class_ 56), (0, u "jdk/internal/util/Preconditions$4"), (57, .class_ 115), (0, u "jdk/internal/util/Preconditions$1"), (7, u "SIOOBE_FORMATTER"), (0, u "Ljava/util/function/BiFunction;"), (0, .class_ 126), (0, u "jdk/internal/util/Preconditions$2"), (3, u "AIOOBE_FORMATTER"), (0, .class_ 132), (0, u "jdk/internal/util/Preconditions$3"), (3, u "IOOBE_FORMATTER"), (41, u "(IILjava/util/function/BiFunction;)I")] 15

def k11m0 : Method := { name := "<init>", desc := "()V", sig := { parameters := [], returnType := none }, accessFlags := 1, code := none }
def k11c1 : Code := { maxStack := 3, maxLocals := 3, code := jdk_41_method_11_code, exceptionTable := #[], attributes := #[] }
def k11m1 : Method := { name := "checkIndex", desc := "(IILjava/util/function/BiFunction;)I", sig := { parameters := [.int, .int, (.object "java/util/function/BiFunction")], returnType := some .int }, accessFlags := 9, code := some k11c1 }
/-- jdk/internal/util/Preconditions -/
def k11 : Class := { plain "jdk/internal/util/Preconditions" (some 0) with
  accessFlags := 33
  interfaces := #[]
  cf := some (fileOf pool11 24 #[.nestMembers #[55, 131, 125, 114]] #[{ accessFlags := 1, nameIndex := 5, descriptorIndex := 6, attributes := #[] }, { accessFlags := 9, nameIndex := 33, descriptorIndex := 178, attributes := #[] }] 33 2 #[] #[{ accessFlags := 25, nameIndex := 123, descriptorIndex := 124, attributes := #[] }, { accessFlags := 25, nameIndex := 130, descriptorIndex := 124, attributes := #[] }, { accessFlags := 25, nameIndex := 136, descriptorIndex := 124, attributes := #[] }])
  fields := #[{ name := "SIOOBE_FORMATTER", type := (.object "java/util/function/BiFunction"), accessFlags := 25, slot := 0, constantValue := 0 }, { name := "AIOOBE_FORMATTER", type := (.object "java/util/function/BiFunction"), accessFlags := 25, slot := 1, constantValue := 0 }, { name := "IOOBE_FORMATTER", type := (.object "java/util/function/BiFunction"), accessFlags := 25, slot := 2, constantValue := 0 }]
  methods := #[k11m0, k11m1]
  instanceTypes := #[]
  staticTypes := #[(.object "java/util/function/BiFunction"), (.object "java/util/function/BiFunction"), (.object "java/util/function/BiFunction")]
  resolved := Array.replicate 194 none
  statics := some 2 }

def pool12 : Array CpInfo := pool [(9, u "<init>"), (6, .class_ 18), (1, u "java/lang/Object"), (0, u "()V"), (1, .class_ 23), (1, u "jdk/internal/util/ArraysSupport"), (0, u "LOG2_ARRAY_LONG_INDEX_SCALE"), (0, u "I"), (2, u "U"), (0, u "Ljdk/internal/misc/Unsafe;"), (8, u "BIG_ENDIAN"), (0, u "Z"), (8, u "LOG2_BYTE_BIT_SIZE"), (4, u "LOG2_ARRAY_INT_INDEX_SCALE"), (54, u "JLA"), (0, u "Ljdk/internal/access/JavaLangAccess;"), (11, u "LOG2_ARRAY_BOOLEAN_INDEX_SCALE"), (9, u "LOG2_ARRAY_BYTE_INDEX_SCALE"), (5, u "LOG2_ARRAY_CHAR_INDEX_SCALE"), (5, u "LOG2_ARRAY_SHORT_INDEX_SCALE"), (18, u "LOG2_ARRAY_FLOAT_INDEX_SCALE"), (24, u "LOG2_ARRAY_DOUBLE_INDEX_SCALE"), (89, u "T_BOOLEAN"), (2, u "T_CHAR"), (1, u "T_FLOAT"), (1, u "T_DOUBLE"), (1, u "T_BYTE"), (1, u "T_SHORT"), (1, u "T_INT"), (1, u "T_LONG"), (1, u "SOFT_MAX_ARRAY_LENGTH")] 83

def k12m0 : Method := { name := "<init>", desc := "()V", sig := { parameters := [], returnType := none }, accessFlags := 2, code := none }
/-- jdk/internal/util/ArraysSupport -/
def k12 : Class := { plain "jdk/internal/util/ArraysSupport" (some 0) with
  accessFlags := 33
  interfaces := #[]
  cf := some (fileOf pool12 21 #[] #[{ accessFlags := 2, nameIndex := 9, descriptorIndex := 19, attributes := #[] }] 33 16 #[] #[{ accessFlags := 24, nameIndex := 28, descriptorIndex := 29, attributes := #[] }, { accessFlags := 26, nameIndex := 38, descriptorIndex := 39, attributes := #[] }, { accessFlags := 25, nameIndex := 121, descriptorIndex := 25, attributes := #[] }, { accessFlags := 25, nameIndex := 131, descriptorIndex := 25, attributes := #[] }, { accessFlags := 25, nameIndex := 137, descriptorIndex := 25, attributes := #[] }, { accessFlags := 25, nameIndex := 143, descriptorIndex := 25, attributes := #[] }, { accessFlags := 25, nameIndex := 53, descriptorIndex := 25, attributes := #[] }, { accessFlags := 25, nameIndex := 24, descriptorIndex := 25, attributes := #[] }, { accessFlags := 25, nameIndex := 162, descriptorIndex := 25, attributes := #[] }, { accessFlags := 25, nameIndex := 187, descriptorIndex := 25, attributes := #[] }, { accessFlags := 26, nameIndex := 48, descriptorIndex := 25, attributes := #[] }, { accessFlags := 25, nameIndex := 277, descriptorIndex := 25, attributes := #[] }, { accessFlags := 25, nameIndex := 280, descriptorIndex := 25, attributes := #[] }, { accessFlags := 25, nameIndex := 282, descriptorIndex := 25, attributes := #[] }, { accessFlags := 25, nameIndex := 284, descriptorIndex := 25, attributes := #[] }, { accessFlags := 25, nameIndex := 286, descriptorIndex := 25, attributes := #[] }, { accessFlags := 25, nameIndex := 288, descriptorIndex := 25, attributes := #[] }, { accessFlags := 25, nameIndex := 290, descriptorIndex := 25, attributes := #[] }, { accessFlags := 25, nameIndex := 292, descriptorIndex := 25, attributes := #[] }, { accessFlags := 26, nameIndex := 108, descriptorIndex := 109, attributes := #[] }, { accessFlags := 25, nameIndex := 294, descriptorIndex := 25, attributes := #[] }])
  fields := #[{ name := "U", type := (.object "jdk/internal/misc/Unsafe"), accessFlags := 24, slot := 0, constantValue := 0 }, { name := "BIG_ENDIAN", type := .boolean, accessFlags := 26, slot := 1, constantValue := 0 }, { name := "LOG2_ARRAY_BOOLEAN_INDEX_SCALE", type := .int, accessFlags := 25, slot := 2, constantValue := 0 }, { name := "LOG2_ARRAY_BYTE_INDEX_SCALE", type := .int, accessFlags := 25, slot := 3, constantValue := 0 }, { name := "LOG2_ARRAY_CHAR_INDEX_SCALE", type := .int, accessFlags := 25, slot := 4, constantValue := 0 }, { name := "LOG2_ARRAY_SHORT_INDEX_SCALE", type := .int, accessFlags := 25, slot := 5, constantValue := 0 }, { name := "LOG2_ARRAY_INT_INDEX_SCALE", type := .int, accessFlags := 25, slot := 6, constantValue := 0 }, { name := "LOG2_ARRAY_LONG_INDEX_SCALE", type := .int, accessFlags := 25, slot := 7, constantValue := 0 }, { name := "LOG2_ARRAY_FLOAT_INDEX_SCALE", type := .int, accessFlags := 25, slot := 8, constantValue := 0 }, { name := "LOG2_ARRAY_DOUBLE_INDEX_SCALE", type := .int, accessFlags := 25, slot := 9, constantValue := 0 }, { name := "LOG2_BYTE_BIT_SIZE", type := .int, accessFlags := 26, slot := 10, constantValue := 0 }, { name := "T_BOOLEAN", type := .int, accessFlags := 25, slot := 11, constantValue := 0 }, { name := "T_CHAR", type := .int, accessFlags := 25, slot := 12, constantValue := 0 }, { name := "T_FLOAT", type := .int, accessFlags := 25, slot := 13, constantValue := 0 }, { name := "T_DOUBLE", type := .int, accessFlags := 25, slot := 14, constantValue := 0 }, { name := "T_BYTE", type := .int, accessFlags := 25, slot := 15, constantValue := 0 }, { name := "T_SHORT", type := .int, accessFlags := 25, slot := 16, constantValue := 0 }, { name := "T_INT", type := .int, accessFlags := 25, slot := 17, constantValue := 0 }, { name := "T_LONG", type := .int, accessFlags := 25, slot := 18, constantValue := 0 }, { name := "JLA", type := (.object "jdk/internal/access/JavaLangAccess"), accessFlags := 26, slot := 19, constantValue := 0 }, { name := "SOFT_MAX_ARRAY_LENGTH", type := .int, accessFlags := 25, slot := 20, constantValue := 0 }]
  methods := #[k12m0]
  instanceTypes := #[]
  staticTypes := #[(.object "jdk/internal/misc/Unsafe"), .boolean, .int, .int, .int, .int, .int, .int, .int, .int, .int, .int, .int, .int, .int, .int, .int, .int, .int, (.object "jdk/internal/access/JavaLangAccess"), .int]
  resolved := Array.replicate 378 none
  statics := none }

def pool13 : Array CpInfo := pool [(1, u "java/lang/Cloneable"), (0, .class_ 1), (0, u "java/lang/Object"), (0, .class_ 3)] 3

/-- java/lang/Cloneable -/
def k13 : Class := { plain "java/lang/Cloneable" (some 0) with
  accessFlags := 1537
  interfaces := #[]
  cf := some (fileOf pool13 2 #[] #[] 1537 4 #[] #[])
  fields := #[]
  methods := #[]
  instanceTypes := #[]
  staticTypes := #[]
  resolved := Array.replicate 8 none
  statics := none }

/-- the primitive byte -/
def k14 : Class := { plain "byte" none with kind := .primitive 'B', accessFlags := 0x411 }
/-- [B -/
def k15 : Class := { plain "[B" (some 0) with kind := .array 14 .byte, interfaces := #[13, 2], accessFlags := 1041 }

/-- the primitive char -/
def k16 : Class := { plain "char" none with kind := .primitive 'C', accessFlags := 0x411 }
/-- [C -/
def k17 : Class := { plain "[C" (some 0) with kind := .array 16 .char, interfaces := #[13, 2], accessFlags := 1041 }

/-- the primitive int -/
def k18 : Class := { plain "int" none with kind := .primitive 'I', accessFlags := 0x411 }
/-- [I -/
def k19 : Class := { plain "[I" (some 0) with kind := .array 18 .int, interfaces := #[13, 2], accessFlags := 1041 }

def heap : Heap := #[{ cls := 7, slots := #[.long 0, .int 1, .null, .int 0, .null, .int 0, .int 0], vm := .statics 7 },
  { cls := 8, slots := #[.int 0, .int 8, .int 0, .int 1], vm := .statics 8 },
  { cls := 11, slots := #[.null, .null, .null], vm := .statics 11 }]
def classes : Array Class := #[k0, k1, k2, k3, k4, k5, k6, k7, k8, k9, k10, k11, k12, k13, k14, k15, k16, k17, k18, k19]
def interned : List (Array UInt16 × Addr) := []
def slotsUsed : Nat := 14
def theMethod : MethodId := ⟨1, 1⟩
def args0 : Array Value := #[.int 1, .int 65, .int 66, .int 67]
def aboutOver (below : List Frame) : State where
  vm := { classes := classes, interned := interned.toArray }
  heap := heap
  slotsUsed := slotsUsed
  threads := #[{ frames := .invoking theMethod args0 :: below }]
def below0 : List Frame := [.native { method := ⟨0, 0⟩, args := #[] }]
def about1 : State := aboutOver below0
def p0 : Program := .bare "" "" ""
def e0 : Env := launch0.env 0 0 0
theorem w_frames : about1.frames = Frame.invoking theMethod args0 :: below0 := rfl
set_option maxRecDepth 65536 in
theorem w_args : argsFit about1.vm theMethod args0 = true := by decide +kernel
set_option maxRecDepth 65536 in
theorem w_heap : heapFits about1 = true := by decide +kernel
set_option maxRecDepth 65536 in
theorem w_runnable : about1.curStatus? = some .runnable := by decide +kernel
set_option maxRecDepth 65536 in
theorem w_alone : about1.alone = true := by decide +kernel
set_option maxRecDepth 65536 in
theorem w_named : about1.methodNamed? x = some theMethod := by decide +kernel
set_option maxRecDepth 65536 in
theorem w_hears : about1.hears theMethod below0 = true := by decide +kernel
set_option maxRecDepth 65536 in
theorem w_ripe : about1.ripe theMethod args0 below0 = true := by decide +kernel
theorem w_running : about1.status = .running := rfl
set_option maxRecDepth 65536 in
theorem w_room : about1.hasRoom e0.platform room_1 = true :=
  launch0.hasRoom_least _ room_1 (by decide +kernel) (by decide +kernel) (by decide +kernel) (by decide +kernel) (by decide +kernel) (by decide +kernel)
theorem allAtoms_all (ts : List Jvm.Cond) (a : Array Jvm.Value) (st : Jvm.State) : (allAtoms ts).before a st = ts.all (fun c => c.before a st) := by
  induction ts with
  | nil => rfl
  | cons c t ih =>
    show (Jvm.Cond.and c (allAtoms t)).before a st = _
    rw [Jvm.Cond.before_and, ih, List.all_cons]
def words1 : List Jvm.Cond := Jvm.Cond.code x code maxLocals ret :: tables_1
/-- a 'code' word, met by the world's own term for the bytes: nothing is compared byte by byte -/
theorem code_word {y : MethodName} {bytes : ByteArray} {mx : Nat} {rt : Option FieldType} {a : Array Value} {s : State} {m : MethodId} {meth : Method} {c : Code} (h1 : s.methodNamed? y = some m) (h2 : s.vm.method? m = some meth) (h3 : meth.code = some c) (h4 : c.code = bytes)
    (h5 : (c.maxLocals == mx && c.exceptionTable.isEmpty && decide (c.maxStack ≤ mostOperands) && decide (meth.sig.returnType = rt) && !meth.locks && decide (parseMethodDescriptor y.desc = some meth.sig)) = true) : (Jvm.Cond.code y bytes mx rt).before a s = true := by
  simp only [Bool.and_eq_true, beq_iff_eq, Bool.not_eq_true', decide_eq_true_eq] at h5
  obtain ⟨⟨⟨⟨⟨g1, g2⟩, g3⟩, g4⟩, g5⟩, g6⟩ := h5
  simp [Cond.before, Cond.holds, Cond.value, h1, h2, h3, h4, g1, g2, g3, g4, g5, g6]
def isCode : Jvm.Cond → Bool
  | .code _ _ _ _ => true
  | _ => false
theorem all_split {L : List Jvm.Cond} {P : Jvm.Cond → Bool} (h1 : L.all (fun c => isCode c || P c) = true) (h2 : ∀ c ∈ L.filter isCode, P c = true) : L.all P = true := by
  refine List.all_eq_true.mpr fun c hc => ?_
  have h := List.all_eq_true.mp h1 c hc
  rcases Bool.eq_false_or_eq_true (isCode c) with hi | hi
  · exact h2 c (List.mem_filter.mpr ⟨hc, hi⟩)
  · simpa [hi] using h
set_option maxRecDepth 65536 in
theorem w_c0 : (Jvm.Cond.code x code maxLocals ret).before args0 about1 = true := code_word (m := ⟨1, 1⟩) (meth := k1m1) (c := k1c1) (by decide +kernel) rfl rfl rfl (by decide +kernel)
set_option maxRecDepth 65536 in
theorem w_c1 : (Jvm.Cond.code ({ cls := "java/lang/String", name := "<init>", desc := "([C)V" } : Jvm.MethodName) jdk_42_method_3_code (2 : Nat) (Option.none : Option Jvm.ClassFile.FieldType)).before args0 about1 = true := code_word (m := ⟨7, 1⟩) (meth := k7m1) (c := k7c1) (by decide +kernel) rfl rfl rfl (by decide +kernel)
set_option maxRecDepth 65536 in
theorem w_c2 : (Jvm.Cond.code ({ cls := "java/lang/String", name := "<init>", desc := "([CIILjava/lang/Void;)V" } : Jvm.MethodName) jdk_42_method_149_code (6 : Nat) (Option.none : Option Jvm.ClassFile.FieldType)).before args0 about1 = true := code_word (m := ⟨7, 4⟩) (meth := k7m4) (c := k7c4) (by decide +kernel) rfl rfl rfl (by decide +kernel)
set_option maxRecDepth 65536 in
theorem w_c3 : (Jvm.Cond.code ({ cls := "java/lang/Object", name := "<init>", desc := "()V" } : Jvm.MethodName) object_method_1_code (1 : Nat) (Option.none : Option Jvm.ClassFile.FieldType)).before args0 about1 = true := code_word (m := ⟨0, 0⟩) (meth := k0m0) (c := k0c0) (by decide +kernel) rfl rfl rfl (by decide +kernel)
set_option maxRecDepth 65536 in
theorem w_c4 : (Jvm.Cond.code ({ cls := "java/lang/StringUTF16", name := "compress", desc := "([CII)[B" } : Jvm.MethodName) jdk_52_method_16_code (6 : Nat) (Option.some (Jvm.ClassFile.FieldType.array Jvm.ClassFile.FieldType.byte))).before args0 about1 = true := code_word (m := ⟨8, 8⟩) (meth := k8m8) (c := k8c8) (by decide +kernel) rfl rfl rfl (by decide +kernel)
set_option maxRecDepth 65536 in
theorem w_c5 : (Jvm.Cond.code ({ cls := "java/lang/StringUTF16", name := "compress", desc := "([CI[BII)I" } : Jvm.MethodName) jdk_52_method_21_code (7 : Nat) (Option.some Jvm.ClassFile.FieldType.int)).before args0 about1 = true := code_word (m := ⟨8, 9⟩) (meth := k8m9) (c := k8c9) (by decide +kernel) rfl rfl rfl (by decide +kernel)
set_option maxRecDepth 65536 in
theorem w_c6 : (Jvm.Cond.code ({ cls := "java/lang/StringUTF16", name := "coderFromArrayLen", desc := "([BI)B" } : Jvm.MethodName) jdk_52_method_15_code (2 : Nat) (Option.some Jvm.ClassFile.FieldType.byte)).before args0 about1 = true := code_word (m := ⟨8, 7⟩) (meth := k8m7) (c := k8c7) (by decide +kernel) rfl rfl rfl (by decide +kernel)
set_option maxRecDepth 65536 in
theorem w_c7 : (Jvm.Cond.code ({ cls := "com/example/wirebind/wirebind/PercentEncodingIsPercentTripletPinLaw", name := "hex", desc := "(C)Z" } : Jvm.MethodName) method_3_code (3 : Nat) (Option.some Jvm.ClassFile.FieldType.boolean)).before args0 about1 = true := code_word (m := ⟨1, 2⟩) (meth := k1m2) (c := k1c2) (by decide +kernel) rfl rfl rfl (by decide +kernel)
set_option maxRecDepth 65536 in
theorem w_c8 : (Jvm.Cond.code ({ cls := "com/example/wirebind/wirebind/PercentEncoding", name := "isPercentTriplet", desc := "(Ljava/lang/String;I)Z" } : Jvm.MethodName) prog_49_method_8_code (2 : Nat) (Option.some Jvm.ClassFile.FieldType.boolean)).before args0 about1 = true := code_word (m := ⟨9, 1⟩) (meth := k9m1) (c := k9c1) (by decide +kernel) rfl rfl rfl (by decide +kernel)
set_option maxRecDepth 65536 in
theorem w_c9 : (Jvm.Cond.code ({ cls := "java/lang/String", name := "length", desc := "()I" } : Jvm.MethodName) jdk_42_method_54_code (1 : Nat) (Option.some Jvm.ClassFile.FieldType.int)).before args0 about1 = true := code_word (m := ⟨7, 2⟩) (meth := k7m2) (c := k7c2) (by decide +kernel) rfl rfl rfl (by decide +kernel)
set_option maxRecDepth 65536 in
theorem w_c10 : (Jvm.Cond.code ({ cls := "java/lang/String", name := "coder", desc := "()B" } : Jvm.MethodName) jdk_42_method_152_code (1 : Nat) (Option.some Jvm.ClassFile.FieldType.byte)).before args0 about1 = true := code_word (m := ⟨7, 5⟩) (meth := k7m5) (c := k7c5) (by decide +kernel) rfl rfl rfl (by decide +kernel)
set_option maxRecDepth 65536 in
theorem w_c11 : (Jvm.Cond.code ({ cls := "java/lang/String", name := "charAt", desc := "(I)C" } : Jvm.MethodName) jdk_42_method_56_code (2 : Nat) (Option.some Jvm.ClassFile.FieldType.char)).before args0 about1 = true := code_word (m := ⟨7, 3⟩) (meth := k7m3) (c := k7c3) (by decide +kernel) rfl rfl rfl (by decide +kernel)
set_option maxRecDepth 65536 in
theorem w_c12 : (Jvm.Cond.code ({ cls := "java/lang/String", name := "isLatin1", desc := "()Z" } : Jvm.MethodName) jdk_42_method_154_code (1 : Nat) (Option.some Jvm.ClassFile.FieldType.boolean)).before args0 about1 = true := code_word (m := ⟨7, 6⟩) (meth := k7m6) (c := k7c6) (by decide +kernel) rfl rfl rfl (by decide +kernel)
set_option maxRecDepth 65536 in
theorem w_c13 : (Jvm.Cond.code ({ cls := "java/lang/StringLatin1", name := "charAt", desc := "([BI)C" } : Jvm.MethodName) jdk_43_method_2_code (2 : Nat) (Option.some Jvm.ClassFile.FieldType.char)).before args0 about1 = true := code_word (m := ⟨10, 1⟩) (meth := k10m1) (c := k10c1) (by decide +kernel) rfl rfl rfl (by decide +kernel)
set_option maxRecDepth 65536 in
theorem w_c14 : (Jvm.Cond.code ({ cls := "java/lang/String", name := "checkIndex", desc := "(II)V" } : Jvm.MethodName) jdk_42_method_155_code (2 : Nat) (Option.none : Option Jvm.ClassFile.FieldType)).before args0 about1 = true := code_word (m := ⟨7, 7⟩) (meth := k7m7) (c := k7c7) (by decide +kernel) rfl rfl rfl (by decide +kernel)
set_option maxRecDepth 65536 in
theorem w_c15 : (Jvm.Cond.code ({ cls := "jdk/internal/util/Preconditions", name := "checkIndex", desc := "(IILjava/util/function/BiFunction;)I" } : Jvm.MethodName) jdk_41_method_11_code (3 : Nat) (Option.some Jvm.ClassFile.FieldType.int)).before args0 about1 = true := code_word (m := ⟨11, 1⟩) (meth := k11m1) (c := k11c1) (by decide +kernel) rfl rfl rfl (by decide +kernel)
set_option maxRecDepth 65536 in
theorem w_c16 : (Jvm.Cond.code ({ cls := "com/example/wirebind/wirebind/PercentEncoding", name := "isHexDigit", desc := "(C)Z" } : Jvm.MethodName) prog_49_method_12_code (1 : Nat) (Option.some Jvm.ClassFile.FieldType.boolean)).before args0 about1 = true := code_word (m := ⟨9, 2⟩) (meth := k9m2) (c := k9c2) (by decide +kernel) rfl rfl rfl (by decide +kernel)
set_option maxRecDepth 65536 in
theorem w_c17 : (Jvm.Cond.code ({ cls := "java/lang/StringUTF16", name := "toBytes", desc := "([CII)[B" } : Jvm.MethodName) jdk_52_method_14_code (5 : Nat) (Option.some (Jvm.ClassFile.FieldType.array Jvm.ClassFile.FieldType.byte))).before args0 about1 = true := code_word (m := ⟨8, 6⟩) (meth := k8m6) (c := k8c6) (by decide +kernel) rfl rfl rfl (by decide +kernel)
set_option maxRecDepth 65536 in
theorem w_c18 : (Jvm.Cond.code ({ cls := "java/lang/StringUTF16", name := "newBytesFor", desc := "(I)[B" } : Jvm.MethodName) jdk_52_method_2_code (1 : Nat) (Option.some (Jvm.ClassFile.FieldType.array Jvm.ClassFile.FieldType.byte))).before args0 about1 = true := code_word (m := ⟨8, 1⟩) (meth := k8m1) (c := k8c1) (by decide +kernel) rfl rfl rfl (by decide +kernel)
set_option maxRecDepth 65536 in
theorem w_c19 : (Jvm.Cond.code ({ cls := "java/lang/StringUTF16", name := "newBytesLength", desc := "(I)I" } : Jvm.MethodName) jdk_52_method_3_code (1 : Nat) (Option.some Jvm.ClassFile.FieldType.int)).before args0 about1 = true := code_word (m := ⟨8, 2⟩) (meth := k8m2) (c := k8c2) (by decide +kernel) rfl rfl rfl (by decide +kernel)
set_option maxRecDepth 65536 in
theorem w_c20 : (Jvm.Cond.code ({ cls := "java/lang/StringUTF16", name := "putChar", desc := "([BII)V" } : Jvm.MethodName) jdk_52_method_4_code (3 : Nat) (Option.none : Option Jvm.ClassFile.FieldType)).before args0 about1 = true := code_word (m := ⟨8, 3⟩) (meth := k8m3) (c := k8c3) (by decide +kernel) rfl rfl rfl (by decide +kernel)
set_option maxRecDepth 65536 in
theorem w_c21 : (Jvm.Cond.code ({ cls := "java/lang/StringUTF16", name := "getChar", desc := "([BI)C" } : Jvm.MethodName) jdk_52_method_5_code (2 : Nat) (Option.some Jvm.ClassFile.FieldType.char)).before args0 about1 = true := code_word (m := ⟨8, 4⟩) (meth := k8m4) (c := k8c4) (by decide +kernel) rfl rfl rfl (by decide +kernel)
set_option maxRecDepth 65536 in
theorem w_c22 : (Jvm.Cond.code ({ cls := "java/lang/StringUTF16", name := "charAt", desc := "([BI)C" } : Jvm.MethodName) jdk_52_method_83_code (2 : Nat) (Option.some Jvm.ClassFile.FieldType.char)).before args0 about1 = true := code_word (m := ⟨8, 10⟩) (meth := k8m10) (c := k8c10) (by decide +kernel) rfl rfl rfl (by decide +kernel)
set_option maxRecDepth 65536 in
theorem w_c23 : (Jvm.Cond.code ({ cls := "java/lang/StringUTF16", name := "checkIndex", desc := "(I[B)V" } : Jvm.MethodName) jdk_52_method_91_code (2 : Nat) (Option.none : Option Jvm.ClassFile.FieldType)).before args0 about1 = true := code_word (m := ⟨8, 11⟩) (meth := k8m11) (c := k8c11) (by decide +kernel) rfl rfl rfl (by decide +kernel)
set_option maxRecDepth 65536 in
theorem w_c24 : (Jvm.Cond.code ({ cls := "java/lang/StringUTF16", name := "length", desc := "([B)I" } : Jvm.MethodName) jdk_52_method_6_code (1 : Nat) (Option.some Jvm.ClassFile.FieldType.int)).before args0 about1 = true := code_word (m := ⟨8, 5⟩) (meth := k8m5) (c := k8c5) (by decide +kernel) rfl rfl rfl (by decide +kernel)
def codes1 : List Jvm.Cond := [Jvm.Cond.code x code maxLocals ret, Jvm.Cond.code ({ cls := "java/lang/String", name := "<init>", desc := "([C)V" } : Jvm.MethodName) jdk_42_method_3_code (2 : Nat) (Option.none : Option Jvm.ClassFile.FieldType), Jvm.Cond.code ({ cls := "java/lang/String", name := "<init>", desc := "([CIILjava/lang/Void;)V" } : Jvm.MethodName) jdk_42_method_149_code (6 : Nat) (Option.none : Option Jvm.ClassFile.FieldType), Jvm.Cond.code ({ cls := "java/lang/Object", name := "<init>", desc := "()V" } : Jvm.MethodName) object_method_1_code (1 : Nat) (Option.none : Option Jvm.ClassFile.FieldType), Jvm.Cond.code ({ cls := "java/lang/StringUTF16", name := "compress", desc := "([CII)[B" } : Jvm.MethodName) jdk_52_method_16_code (6 : Nat) (Option.some (Jvm.ClassFile.FieldType.array Jvm.ClassFile.FieldType.byte)), Jvm.Cond.code ({ cls := "java/lang/StringUTF16", name := "compress", desc := "([CI[BII)I" } : Jvm.MethodName) jdk_52_method_21_code (7 : Nat) (Option.some Jvm.ClassFile.FieldType.int), Jvm.Cond.code ({ cls := "java/lang/StringUTF16", name := "coderFromArrayLen", desc := "([BI)B" } : Jvm.MethodName) jdk_52_method_15_code (2 : Nat) (Option.some Jvm.ClassFile.FieldType.byte), Jvm.Cond.code ({ cls := "com/example/wirebind/wirebind/PercentEncodingIsPercentTripletPinLaw", name := "hex", desc := "(C)Z" } : Jvm.MethodName) method_3_code (3 : Nat) (Option.some Jvm.ClassFile.FieldType.boolean), Jvm.Cond.code ({ cls := "com/example/wirebind/wirebind/PercentEncoding", name := "isPercentTriplet", desc := "(Ljava/lang/String;I)Z" } : Jvm.MethodName) prog_49_method_8_code (2 : Nat) (Option.some Jvm.ClassFile.FieldType.boolean), Jvm.Cond.code ({ cls := "java/lang/String", name := "length", desc := "()I" } : Jvm.MethodName) jdk_42_method_54_code (1 : Nat) (Option.some Jvm.ClassFile.FieldType.int), Jvm.Cond.code ({ cls := "java/lang/String", name := "coder", desc := "()B" } : Jvm.MethodName) jdk_42_method_152_code (1 : Nat) (Option.some Jvm.ClassFile.FieldType.byte), Jvm.Cond.code ({ cls := "java/lang/String", name := "charAt", desc := "(I)C" } : Jvm.MethodName) jdk_42_method_56_code (2 : Nat) (Option.some Jvm.ClassFile.FieldType.char), Jvm.Cond.code ({ cls := "java/lang/String", name := "isLatin1", desc := "()Z" } : Jvm.MethodName) jdk_42_method_154_code (1 : Nat) (Option.some Jvm.ClassFile.FieldType.boolean), Jvm.Cond.code ({ cls := "java/lang/StringLatin1", name := "charAt", desc := "([BI)C" } : Jvm.MethodName) jdk_43_method_2_code (2 : Nat) (Option.some Jvm.ClassFile.FieldType.char), Jvm.Cond.code ({ cls := "java/lang/String", name := "checkIndex", desc := "(II)V" } : Jvm.MethodName) jdk_42_method_155_code (2 : Nat) (Option.none : Option Jvm.ClassFile.FieldType), Jvm.Cond.code ({ cls := "jdk/internal/util/Preconditions", name := "checkIndex", desc := "(IILjava/util/function/BiFunction;)I" } : Jvm.MethodName) jdk_41_method_11_code (3 : Nat) (Option.some Jvm.ClassFile.FieldType.int), Jvm.Cond.code ({ cls := "com/example/wirebind/wirebind/PercentEncoding", name := "isHexDigit", desc := "(C)Z" } : Jvm.MethodName) prog_49_method_12_code (1 : Nat) (Option.some Jvm.ClassFile.FieldType.boolean), Jvm.Cond.code ({ cls := "java/lang/StringUTF16", name := "toBytes", desc := "([CII)[B" } : Jvm.MethodName) jdk_52_method_14_code (5 : Nat) (Option.some (Jvm.ClassFile.FieldType.array Jvm.ClassFile.FieldType.byte)), Jvm.Cond.code ({ cls := "java/lang/StringUTF16", name := "newBytesFor", desc := "(I)[B" } : Jvm.MethodName) jdk_52_method_2_code (1 : Nat) (Option.some (Jvm.ClassFile.FieldType.array Jvm.ClassFile.FieldType.byte)), Jvm.Cond.code ({ cls := "java/lang/StringUTF16", name := "newBytesLength", desc := "(I)I" } : Jvm.MethodName) jdk_52_method_3_code (1 : Nat) (Option.some Jvm.ClassFile.FieldType.int), Jvm.Cond.code ({ cls := "java/lang/StringUTF16", name := "putChar", desc := "([BII)V" } : Jvm.MethodName) jdk_52_method_4_code (3 : Nat) (Option.none : Option Jvm.ClassFile.FieldType), Jvm.Cond.code ({ cls := "java/lang/StringUTF16", name := "getChar", desc := "([BI)C" } : Jvm.MethodName) jdk_52_method_5_code (2 : Nat) (Option.some Jvm.ClassFile.FieldType.char), Jvm.Cond.code ({ cls := "java/lang/StringUTF16", name := "charAt", desc := "([BI)C" } : Jvm.MethodName) jdk_52_method_83_code (2 : Nat) (Option.some Jvm.ClassFile.FieldType.char), Jvm.Cond.code ({ cls := "java/lang/StringUTF16", name := "checkIndex", desc := "(I[B)V" } : Jvm.MethodName) jdk_52_method_91_code (2 : Nat) (Option.none : Option Jvm.ClassFile.FieldType), Jvm.Cond.code ({ cls := "java/lang/StringUTF16", name := "length", desc := "([B)I" } : Jvm.MethodName) jdk_52_method_6_code (1 : Nat) (Option.some Jvm.ClassFile.FieldType.int)]
set_option maxRecDepth 65536 in
theorem codes_eq : words1.filter isCode = codes1 := rfl
theorem w_codes : ∀ c ∈ words1.filter isCode, c.before args0 about1 = true := by
  rw [codes_eq]
  intro c hc
  simp only [codes1, List.mem_cons, List.not_mem_nil, or_false] at hc
  rcases hc with rfl | rfl | rfl | rfl | rfl | rfl | rfl | rfl | rfl | rfl | rfl | rfl | rfl | rfl | rfl | rfl | rfl | rfl | rfl | rfl | rfl | rfl | rfl | rfl | rfl
  · exact w_c0
  · exact w_c1
  · exact w_c2
  · exact w_c3
  · exact w_c4
  · exact w_c5
  · exact w_c6
  · exact w_c7
  · exact w_c8
  · exact w_c9
  · exact w_c10
  · exact w_c11
  · exact w_c12
  · exact w_c13
  · exact w_c14
  · exact w_c15
  · exact w_c16
  · exact w_c17
  · exact w_c18
  · exact w_c19
  · exact w_c20
  · exact w_c21
  · exact w_c22
  · exact w_c23
  · exact w_c24
set_option maxRecDepth 65536 in
theorem w_t1 : (words1.take 24).all (fun c => isCode c || c.before args0 about1) = true := by decide +kernel
set_option maxRecDepth 65536 in
theorem w_t2 : ((words1.drop 24).take 24).all (fun c => isCode c || c.before args0 about1) = true := by decide +kernel
set_option maxRecDepth 65536 in
theorem w_t3 : (((words1.drop 24).drop 24).take 24).all (fun c => isCode c || c.before args0 about1) = true := by decide +kernel
set_option maxRecDepth 65536 in
theorem w_t4 : ((((words1.drop 24).drop 24).drop 24).take 24).all (fun c => isCode c || c.before args0 about1) = true := by decide +kernel
set_option maxRecDepth 65536 in
theorem w_t5 : ((((words1.drop 24).drop 24).drop 24).drop 24).all (fun c => isCode c || c.before args0 about1) = true := by decide +kernel
theorem w_tables : (allAtoms (Jvm.Cond.code x code maxLocals ret :: tables_1)).before args0 about1 = true := by
  rw [allAtoms_all]
  show words1.all (fun c => c.before args0 about1) = true
  refine all_split ?_ w_codes
  rw [← List.take_append_drop 24 words1, List.all_append, w_t1, ← List.take_append_drop 24 (words1.drop 24), List.all_append, w_t2, ← List.take_append_drop 24 ((words1.drop 24).drop 24), List.all_append, w_t3, ← List.take_append_drop 24 (((words1.drop 24).drop 24).drop 24), List.all_append, w_t4, w_t5]
  rfl
set_option maxRecDepth 65536 in
theorem w_rest : rest_1_c.before args0 about1 = true := by decide +kernel
set_option maxRecDepth 65536 in
theorem w_case : (Jvm.Cond.and given_1 narrow_1).before args0 about1 = true := by decide +kernel
theorem w_applies : (headSpec (Jvm.Cond.code x code maxLocals ret :: tables_1) room_1).applies x e0.platform about1 = true :=
  (Spec.applies_iff w_frames).mpr ⟨w_running, w_runnable, w_alone, w_named, w_hears, w_ripe, w_room, w_tables⟩
theorem atStart : AtStart classFile x code maxLocals ret World_1 tables_1 room_1 Calls_1 rest_1 Pre_1 launch0 p0 e0 about1 theMethod args0 below0 :=
  ⟨lists_1, trivial, launch0.admits_env _ _ _, launch0.least_env, fairChoices_fair.cas, fairChoices_fair.clock, w_frames, w_args, w_heap, w_applies, trivial, w_rest, w_case⟩
end start1
theorem witness_1 : WitnessClaimed_1 := ⟨start1.p0, start1.e0, start1.about1, start1.theMethod, start1.args0, start1.below0, start1.atStart⟩
end Jvm.Pilot.@@N@@
