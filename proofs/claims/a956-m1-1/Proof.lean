import JvmDerived
import JvmDerived.Pilot.@@N@@Statement
import JvmDerived.Pilot.@@N@@Code
set_option linter.unusedVariables false
set_option linter.unusedSimpArgs false
namespace Jvm.RoadKit
open Sem ClassFile Op Lib Jvm.Stand Jvm.Free Jvm.LawKit
section New
variable {p : Program} {l : Launch} {e : Env} {R : Room} {s : State} {m : MethodId} {args : Array Value} {below : List Frame} {meth : Method} {c : Code} {T : State} {locs : List Loc} {cells slots : Nat}
theorem retI (X : Stand p l e R s m args below meth c T locs cells slots) (hx : p.tables.exec = Jvm.exec) {pc : Nat} {Ls : Array Slot} {z : Int32} {rest : List Value} (hret : meth.sig.returnType = some .int) (hd : decode c.code pc = .ok (.ireturn, 1)) {fs : List Frame}
    (hl : ∀ (f : JFrame) (acts : List Action), f.method = m → f.locked = none → f.entered = [] → (doReturn e (T.setTop f) acts (some (.int z))).1 = T.setFrames fs) : Steps p.tables e below (T.setTop (mkF m pc Ls (.int z :: rest))) (T.setFrames fs) := by
  have hm' : T.vm.method? m = some meth := X.method'
  have hn : narrow .int (.int z) = .int z := rfl
  show Steps p.tables e below (T.setTop { method := m, pc := pc, locals := Ls, stack := _ :: rest, locked := none }) _
  jvm_step X.here [X.here.top, hx, hd, hm', hret, hn]
  first | (intro acts; rw [hl _ acts rfl rfl rfl]) | rw [hl _ _ rfl rfl rfl]
  exact Steps.refl _
end New
end Jvm.RoadKit
namespace Jvm.Pilot.@@N@@
open Jvm Jvm.ClassFile Sem Op Lib Jvm.Free Jvm.Stand Jvm.LawKit Jvm.RoadKit Bundle Jvm.Pilot.@@N@@.Jvm.D
theorem own_ite01 {c : Prop} [Decidable c] {a b : Int32} (ha : a = 0 ∨ a = 1) (hb : b = 0 ∨ b = 1) : (if c then a else b) = 0 ∨ (if c then a else b) = 1 := by split <;> assumption
theorem own_nz {r : Int32} (h : r = 0 ∨ r = 1) : nar .boolean r = r := by rcases h with rfl | rfl <;> rfl
section own
variable {p : Program} {l : Launch} {e : Env} {R : Room} {s : State} {m : MethodId} {args : Array Value} {below : List Frame} {meth : Method} {c : Code} {T : State} {locs : List Loc} {cells slots : Nat} {Z : State} {h h' h0 : Heap} {a b : Addr} {k : ClassId} {ty : FieldType} {n : Int32} {vs : List Int32} {ls : List Int64} {sl : Nat} {v : Value} {ws : List Addr}
/-- an array of ints (or bytes, chars, shorts, booleans), by its list -/
def IA (Z : State) (h : Heap) (a : Addr) (k : ClassId) (ty : FieldType) (n : Int32) (vs : List Int32) : Prop := Arv Z h a k ty n (vs.map Value.int) (.int 0) ∧ vs.length = n.toNatClampNeg
def LA (Z : State) (h : Heap) (a : Addr) (k : ClassId) (n : Int32) (ls : List Int64) : Prop := Arv Z h a k .long n (ls.map Value.long) (.long 0) ∧ ls.length = n.toNatClampNeg
theorem IA.lt (F : IA Z h a k ty n vs) : a < h.size := F.1.lt
theorem IA.ext (F : IA Z h a k ty n vs) (E : Ext h h') : IA Z h' a k ty n vs := ⟨F.1.ext E, F.2⟩
theorem IA.other (F : IA Z h b k ty n vs) (W : Wr h h' a sl v) (q : b ≠ a) : IA Z h' b k ty n vs := ⟨F.1.other W q, F.2⟩
theorem IA.keep (F : IA Z h a k ty n vs) (K : Keep h h' ws) (q : a ∉ ws) : IA Z h' a k ty n vs := ⟨F.1.keep K q, F.2⟩
theorem LA.lt (F : LA Z h a k n ls) : a < h.size := F.1.lt
theorem LA.ext (F : LA Z h a k n ls) (E : Ext h h') : LA Z h' a k n ls := ⟨F.1.ext E, F.2⟩
theorem LA.other (F : LA Z h b k n ls) (W : Wr h h' a sl v) (q : b ≠ a) : LA Z h' b k n ls := ⟨F.1.other W q, F.2⟩
theorem LA.keep (F : LA Z h a k n ls) (K : Keep h h' ws) (q : a ∉ ws) : LA Z h' a k n ls := ⟨F.1.keep K q, F.2⟩
theorem IA.new (A : Arr Z h a (newA k ty n) ty) (q : ¬ n < 0) (hd : defaultValue ty = .int 0) {c : Nat} (hc : n.toNatClampNeg = c) : IA Z h a k ty n (List.replicate c 0) := by
  refine ⟨?_, by rw [List.length_replicate, hc]⟩
  have F := Arv.new A q
  rw [hd] at F
  rw [List.map_replicate]
  exact F.pad (pad_rep [] (.int 0) c)
theorem LA.new (A : Arr Z h a (newA k .long n) .long) (q : ¬ n < 0) {c : Nat} (hc : n.toNatClampNeg = c) : LA Z h a k n (List.replicate c 0) := by
  refine ⟨?_, by rw [List.length_replicate, hc]⟩
  have F : Arv Z h a k .long n [] (.long 0) := Arv.new A q
  rw [List.map_replicate]
  exact F.pad (pad_rep [] (.long 0) c)
theorem own_getI (vs : List Int32) (i : Nat) : (vs.map Value.int).getD i (.int 0) = .int (vs.getD i 0) := by
  simp only [List.getD_eq_getElem?_getD, List.getElem?_map]; cases vs[i]? <;> rfl
theorem own_getL (vs : List Int64) (i : Nat) : (vs.map Value.long).getD i (.long 0) = .long (vs.getD i 0) := by
  simp only [List.getD_eq_getElem?_getD, List.getElem?_map]; cases vs[i]? <;> rfl
theorem IA.inb {cl : Cell} {j : Int32} {i : Nat} (S : cl.slots.size = n.toNatClampNeg) (hl : vs.length = n.toNatClampNeg) (hj : j.toNatClampNeg = i) (hn : ¬ j < 0) (hi : i < vs.length) : ¬ (j < 0 ∨ cl.slots.size ≤ j.toNatClampNeg) := by
  rintro (q | q)
  · exact hn q
  · rw [S, ← hl, hj] at q; omega
theorem LA.inb {cl : Cell} {j : Int32} {i : Nat} (S : cl.slots.size = n.toNatClampNeg) (hl : ls.length = n.toNatClampNeg) (hj : j.toNatClampNeg = i) (hn : ¬ j < 0) (hi : i < ls.length) : ¬ (j < 0 ∨ cl.slots.size ≤ j.toNatClampNeg) := by
  rintro (q | q)
  · exact hn q
  · rw [S, ← hl, hj] at q; omega
theorem IA.at {cl : Cell} {j : Int32} {i : Nat} {w : Int32} (H : Has cl (vs.map Value.int) (.int 0)) (S : cl.slots.size = n.toNatClampNeg) (hl : vs.length = n.toNatClampNeg) (hj : j.toNatClampNeg = i) (hi : i < vs.length) (hw : vs.getD i 0 = w) : cl.slots[j.toNatClampNeg]? = some (.int w) := by
  rw [H _ (by rw [S, ← hl, hj]; exact hi), own_getI, hj, hw]
theorem LA.at {cl : Cell} {j : Int32} {i : Nat} {w : Int64} (H : Has cl (ls.map Value.long) (.long 0)) (S : cl.slots.size = n.toNatClampNeg) (hl : ls.length = n.toNatClampNeg) (hj : j.toNatClampNeg = i) (hi : i < ls.length) (hw : ls.getD i 0 = w) : cl.slots[j.toNatClampNeg]? = some (.long w) := by
  rw [H _ (by rw [S, ← hl, hj]; exact hi), own_getL, hj, hw]
theorem ia_ldI (X : Stand p l e R s m args below meth c T locs cells slots) (hx : p.tables.exec = Jvm.exec) (hZ : Z.Warmed39 s.vm) (eT : T.heap = h) (A : IA Z h a k .int n vs) {j : Int32} (i : Nat) (hj : j.toNatClampNeg = i) (hn : ¬ j < 0) (hi : i < vs.length) {w : Int32} (hw : vs.getD i 0 = w) {g : JFrame} (hg : g.method = m) {rest : List Value} (hs : g.stack = .int j :: .ref a :: rest) (hd : decode c.code g.pc = .ok (.iaload, 1)) (target : State)
    (q : Steps p.tables e below (T.setTop { g with pc := g.pc + 1, stack := .int w :: rest }) target) : Steps p.tables e below (T.setTop g) target := by
  obtain ⟨⟨cl, Ar, -, S, -, H, -⟩, hl⟩ := A
  exact X.iaload hx (by rw [eT]; exact Ar.1) (State.isArrayOf_alike hZ.alike Ar.2.1) Ar.2.2 (IA.inb S hl hj hn hi) (IA.at H S hl hj hi hw) hg hs hd target q
theorem ia_ldC (X : Stand p l e R s m args below meth c T locs cells slots) (hx : p.tables.exec = Jvm.exec) (hZ : Z.Warmed39 s.vm) (eT : T.heap = h) (A : IA Z h a k .char n vs) {j : Int32} (i : Nat) (hj : j.toNatClampNeg = i) (hn : ¬ j < 0) (hi : i < vs.length) {w : Int32} (hw : vs.getD i 0 = w) {g : JFrame} (hg : g.method = m) {rest : List Value} (hs : g.stack = .int j :: .ref a :: rest) (hd : decode c.code g.pc = .ok (.caload, 1)) (target : State)
    (q : Steps p.tables e below (T.setTop { g with pc := g.pc + 1, stack := .int w :: rest }) target) : Steps p.tables e below (T.setTop g) target := by
  obtain ⟨⟨cl, Ar, -, S, -, H, -⟩, hl⟩ := A
  exact X.caload hx (by rw [eT]; exact Ar.1) (State.isArrayOf_alike hZ.alike Ar.2.1) Ar.2.2 (IA.inb S hl hj hn hi) (IA.at H S hl hj hi hw) hg hs hd target q
theorem ia_ldS (X : Stand p l e R s m args below meth c T locs cells slots) (hx : p.tables.exec = Jvm.exec) (hZ : Z.Warmed39 s.vm) (eT : T.heap = h) (A : IA Z h a k .short n vs) {j : Int32} (i : Nat) (hj : j.toNatClampNeg = i) (hn : ¬ j < 0) (hi : i < vs.length) {w : Int32} (hw : vs.getD i 0 = w) {g : JFrame} (hg : g.method = m) {rest : List Value} (hs : g.stack = .int j :: .ref a :: rest) (hd : decode c.code g.pc = .ok (.saload, 1)) (target : State)
    (q : Steps p.tables e below (T.setTop { g with pc := g.pc + 1, stack := .int w :: rest }) target) : Steps p.tables e below (T.setTop g) target := by
  obtain ⟨⟨cl, Ar, -, S, -, H, -⟩, hl⟩ := A
  exact X.saload hx (by rw [eT]; exact Ar.1) (State.isArrayOf_alike hZ.alike Ar.2.1) Ar.2.2 (IA.inb S hl hj hn hi) (IA.at H S hl hj hi hw) hg hs hd target q
theorem ia_ldB (X : Stand p l e R s m args below meth c T locs cells slots) (hx : p.tables.exec = Jvm.exec) (hZ : Z.Warmed39 s.vm) (eT : T.heap = h) (A : IA Z h a k .byte n vs) {j : Int32} (i : Nat) (hj : j.toNatClampNeg = i) (hn : ¬ j < 0) (hi : i < vs.length) {w : Int32} (hw : vs.getD i 0 = w) {g : JFrame} (hg : g.method = m) {rest : List Value} (hs : g.stack = .int j :: .ref a :: rest) (hd : decode c.code g.pc = .ok (.baload, 1)) (target : State)
    (q : Steps p.tables e below (T.setTop { g with pc := g.pc + 1, stack := .int w :: rest }) target) : Steps p.tables e below (T.setTop g) target := by
  obtain ⟨⟨cl, Ar, -, S, -, H, -⟩, hl⟩ := A
  exact X.baloadBytes hx (by rw [eT]; exact Ar.1) (State.isArrayOf_alike hZ.alike Ar.2.1) Ar.2.2 (IA.inb S hl hj hn hi) (IA.at H S hl hj hi hw) hg hs hd target q
theorem ia_ldZ (X : Stand p l e R s m args below meth c T locs cells slots) (hx : p.tables.exec = Jvm.exec) (hZ : Z.Warmed39 s.vm) (eT : T.heap = h) (A : IA Z h a k .boolean n vs) {j : Int32} (i : Nat) (hj : j.toNatClampNeg = i) (hn : ¬ j < 0) (hi : i < vs.length) {w : Int32} (hw : vs.getD i 0 = w) {g : JFrame} (hg : g.method = m) {rest : List Value} (hs : g.stack = .int j :: .ref a :: rest) (hd : decode c.code g.pc = .ok (.baload, 1)) (target : State)
    (q : Steps p.tables e below (T.setTop { g with pc := g.pc + 1, stack := .int w :: rest }) target) : Steps p.tables e below (T.setTop g) target := by
  obtain ⟨⟨cl, Ar, -, S, -, H, -⟩, hl⟩ := A
  exact X.baloadBooleans hx (by rw [eT]; exact Ar.1) (State.isArrayOf_alike hZ.alike Ar.2.1) Ar.2.2 (IA.inb S hl hj hn hi) (IA.at H S hl hj hi hw) hg hs hd target q
theorem la_ldJ (X : Stand p l e R s m args below meth c T locs cells slots) (hx : p.tables.exec = Jvm.exec) (hZ : Z.Warmed39 s.vm) (eT : T.heap = h) (A : LA Z h a k n ls) {j : Int32} (i : Nat) (hj : j.toNatClampNeg = i) (hn : ¬ j < 0) (hi : i < ls.length) {w : Int64} (hw : ls.getD i 0 = w) {g : JFrame} (hg : g.method = m) {rest : List Value} (hs : g.stack = .int j :: .ref a :: rest) (hd : decode c.code g.pc = .ok (.laload, 1)) (target : State)
    (q : Steps p.tables e below (T.setTop { g with pc := g.pc + 1, stack := .long w :: rest }) target) : Steps p.tables e below (T.setTop g) target := by
  obtain ⟨⟨cl, Ar, -, S, -, H, -⟩, hl⟩ := A
  exact X.laload hx (by rw [eT]; exact Ar.1) (State.isArrayOf_alike hZ.alike Ar.2.1) Ar.2.2 (LA.inb S hl hj hn hi) (LA.at H S hl hj hi hw) hg hs hd target q
theorem ia_len (X : Stand p l e R s m args below meth c T locs cells slots) (hx : p.tables.exec = Jvm.exec) (hZ : Z.Warmed39 s.vm) (eT : T.heap = h) (A : IA Z h a k ty n vs) {g : JFrame} (hg : g.method = m) {rest : List Value} (hs : g.stack = .ref a :: rest) (hd : decode c.code g.pc = .ok (.arraylength, 1)) (target : State)
    (q : Steps p.tables e below (T.setTop { g with pc := g.pc + 1, stack := .int n :: rest }) target) : Steps p.tables e below (T.setTop g) target := by
  obtain ⟨⟨cl, Ar, -, S, N, H, -⟩, hl⟩ := A
  refine X.arraylength hx (by rw [eT]; exact Ar.1) (State.isArrayOf_alike hZ.alike Ar.2.1) hg hs hd target ?_
  rw [len_of S N]; exact q
theorem la_len (X : Stand p l e R s m args below meth c T locs cells slots) (hx : p.tables.exec = Jvm.exec) (hZ : Z.Warmed39 s.vm) (eT : T.heap = h) (A : LA Z h a k n ls) {g : JFrame} (hg : g.method = m) {rest : List Value} (hs : g.stack = .ref a :: rest) (hd : decode c.code g.pc = .ok (.arraylength, 1)) (target : State)
    (q : Steps p.tables e below (T.setTop { g with pc := g.pc + 1, stack := .int n :: rest }) target) : Steps p.tables e below (T.setTop g) target := by
  obtain ⟨⟨cl, Ar, -, S, N, H, -⟩, hl⟩ := A
  refine X.arraylength hx (by rw [eT]; exact Ar.1) (State.isArrayOf_alike hZ.alike Ar.2.1) hg hs hd target ?_
  rw [len_of S N]; exact q
theorem IA.put {cl : Cell} {j : Int32} {i : Nat} {y : Int32} (Ar : Arr Z h a cl ty) (q1 : cl.cls = k) (S : cl.slots.size = n.toNatClampNeg) (N : ¬ n < 0) (H : Has cl (vs.map Value.int) (.int 0)) (G : ∀ i, i < cl.slots.size → fits ty ((vs.map Value.int).getD i (.int 0)) = true) (hl : vs.length = n.toNatClampNeg) (hv : fits ty (.int y) = true) (W : Wr h h' a j.toNatClampNeg (.int y)) (hj : j.toNatClampNeg = i) (hi : i < vs.length) : IA Z h' a k ty n (vs.set i y) := by
  refine ⟨?_, by rw [List.length_set]; exact hl⟩
  have := Arv.set Ar q1 S N H G hv W i hj (by rw [List.length_map]; exact hi)
  rwa [← List.map_set] at this
theorem LA.put {cl : Cell} {j : Int32} {i : Nat} {y : Int64} (Ar : Arr Z h a cl .long) (q1 : cl.cls = k) (S : cl.slots.size = n.toNatClampNeg) (N : ¬ n < 0) (H : Has cl (ls.map Value.long) (.long 0)) (G : ∀ i, i < cl.slots.size → fits .long ((ls.map Value.long).getD i (.long 0)) = true) (hl : ls.length = n.toNatClampNeg) (W : Wr h h' a j.toNatClampNeg (.long y)) (hj : j.toNatClampNeg = i) (hi : i < ls.length) : LA Z h' a k n (ls.set i y) := by
  refine ⟨?_, by rw [List.length_set]; exact hl⟩
  have := Arv.set Ar q1 S N H G rfl W i hj (by rw [List.length_map]; exact hi)
  rwa [← List.map_set] at this
theorem ia_stI (X : Stand p l e R s m args below meth c T locs cells slots) (hx : p.tables.exec = Jvm.exec) (hZ : Z.Warmed39 s.vm) (eT : T.heap = h) (A : IA Z h a k .int n vs) {j : Int32} (i : Nat) (hj : j.toNatClampNeg = i) (hn : ¬ j < 0) (hi : i < vs.length) {x : Int32} {g : JFrame} (hg : g.method = m) {rest : List Value} (hs : g.stack = .int x :: .int j :: .ref a :: rest) (hd : decode c.code g.pc = .ok (.iastore, 1)) :
    ∃ T' h', Stand p l e R s m args below meth c T' (locs ++ [⟨a, j.toNatClampNeg⟩]) cells slots ∧ T'.heap = h' ∧ Wr h h' a j.toNatClampNeg (.int x) ∧ IA Z h' a k .int n (vs.set i x) ∧ ∀ target, Steps p.tables e below (T'.setTop { g with pc := g.pc + 1, stack := rest }) target → Steps p.tables e below (T.setTop g) target := by
  obtain ⟨⟨cl, Ar, q1, S, N, H, G⟩, hl⟩ := A
  obtain ⟨T', h', X', e', W, st⟩ := stI X hx hZ eT Ar (IA.inb S hl hj hn hi) hg hs hd
  exact ⟨T', h', X', e', W, IA.put Ar q1 S N H G hl rfl W hj hi, st⟩
theorem la_stJ (X : Stand p l e R s m args below meth c T locs cells slots) (hx : p.tables.exec = Jvm.exec) (hZ : Z.Warmed39 s.vm) (eT : T.heap = h) (A : LA Z h a k n ls) {j : Int32} (i : Nat) (hj : j.toNatClampNeg = i) (hn : ¬ j < 0) (hi : i < ls.length) {x : Int64} {g : JFrame} (hg : g.method = m) {rest : List Value} (hs : g.stack = .long x :: .int j :: .ref a :: rest) (hd : decode c.code g.pc = .ok (.lastore, 1)) :
    ∃ T' h', Stand p l e R s m args below meth c T' (locs ++ [⟨a, j.toNatClampNeg⟩]) cells slots ∧ T'.heap = h' ∧ Wr h h' a j.toNatClampNeg (.long x) ∧ LA Z h' a k n (ls.set i x) ∧ ∀ target, Steps p.tables e below (T'.setTop { g with pc := g.pc + 1, stack := rest }) target → Steps p.tables e below (T.setTop g) target := by
  obtain ⟨⟨cl, Ar, q1, S, N, H, G⟩, hl⟩ := A
  obtain ⟨T', h', X', e', W, st⟩ := stJ X hx hZ eT Ar (LA.inb S hl hj hn hi) hg hs hd
  exact ⟨T', h', X', e', W, LA.put Ar q1 S N H G hl W hj hi, st⟩
theorem ia_stC (X : Stand p l e R s m args below meth c T locs cells slots) (hx : p.tables.exec = Jvm.exec) (hZ : Z.Warmed39 s.vm) (eT : T.heap = h) (A : IA Z h a k .char n vs) {j : Int32} (i : Nat) (hj : j.toNatClampNeg = i) (hn : ¬ j < 0) (hi : i < vs.length) {x y : Int32} (hy : nar .char x = y) {g : JFrame} (hg : g.method = m) {rest : List Value} (hs : g.stack = .int x :: .int j :: .ref a :: rest) (hd : decode c.code g.pc = .ok (.castore, 1)) :
    ∃ T' h', Stand p l e R s m args below meth c T' (locs ++ [⟨a, j.toNatClampNeg⟩]) cells slots ∧ T'.heap = h' ∧ Wr h h' a j.toNatClampNeg (.int y) ∧ IA Z h' a k .char n (vs.set i y) ∧ ∀ target, Steps p.tables e below (T'.setTop { g with pc := g.pc + 1, stack := rest }) target → Steps p.tables e below (T.setTop g) target := by
  subst hy
  obtain ⟨⟨cl, Ar, q1, S, N, H, G⟩, hl⟩ := A
  obtain ⟨T', h', X', e', W, st⟩ := stC X hx hZ eT Ar (IA.inb S hl hj hn hi) hg hs hd
  exact ⟨T', h', X', e', W, IA.put Ar q1 S N H G hl (fits_nar_char _) W hj hi, st⟩
theorem ia_stS (X : Stand p l e R s m args below meth c T locs cells slots) (hx : p.tables.exec = Jvm.exec) (hZ : Z.Warmed39 s.vm) (eT : T.heap = h) (A : IA Z h a k .short n vs) {j : Int32} (i : Nat) (hj : j.toNatClampNeg = i) (hn : ¬ j < 0) (hi : i < vs.length) {x y : Int32} (hy : nar .short x = y) {g : JFrame} (hg : g.method = m) {rest : List Value} (hs : g.stack = .int x :: .int j :: .ref a :: rest) (hd : decode c.code g.pc = .ok (.sastore, 1)) :
    ∃ T' h', Stand p l e R s m args below meth c T' (locs ++ [⟨a, j.toNatClampNeg⟩]) cells slots ∧ T'.heap = h' ∧ Wr h h' a j.toNatClampNeg (.int y) ∧ IA Z h' a k .short n (vs.set i y) ∧ ∀ target, Steps p.tables e below (T'.setTop { g with pc := g.pc + 1, stack := rest }) target → Steps p.tables e below (T.setTop g) target := by
  subst hy
  obtain ⟨⟨cl, Ar, q1, S, N, H, G⟩, hl⟩ := A
  obtain ⟨T', h', X', e', W, st⟩ := stS X hx hZ eT Ar (IA.inb S hl hj hn hi) hg hs hd
  exact ⟨T', h', X', e', W, IA.put Ar q1 S N H G hl (fits_nar_short _) W hj hi, st⟩
theorem ia_stB (X : Stand p l e R s m args below meth c T locs cells slots) (hx : p.tables.exec = Jvm.exec) (hZ : Z.Warmed39 s.vm) (eT : T.heap = h) (A : IA Z h a k .byte n vs) {j : Int32} (i : Nat) (hj : j.toNatClampNeg = i) (hn : ¬ j < 0) (hi : i < vs.length) {x y : Int32} (hy : nar .byte x = y) {g : JFrame} (hg : g.method = m) {rest : List Value} (hs : g.stack = .int x :: .int j :: .ref a :: rest) (hd : decode c.code g.pc = .ok (.bastore, 1)) :
    ∃ T' h', Stand p l e R s m args below meth c T' (locs ++ [⟨a, j.toNatClampNeg⟩]) cells slots ∧ T'.heap = h' ∧ Wr h h' a j.toNatClampNeg (.int y) ∧ IA Z h' a k .byte n (vs.set i y) ∧ ∀ target, Steps p.tables e below (T'.setTop { g with pc := g.pc + 1, stack := rest }) target → Steps p.tables e below (T.setTop g) target := by
  subst hy
  obtain ⟨⟨cl, Ar, q1, S, N, H, G⟩, hl⟩ := A
  obtain ⟨T', h', X', e', W, st⟩ := stB X hx hZ eT Ar (IA.inb S hl hj hn hi) hg hs hd
  exact ⟨T', h', X', e', W, IA.put Ar q1 S N H G hl (fits_nar_byte _) W hj hi, st⟩
theorem ia_stZ (X : Stand p l e R s m args below meth c T locs cells slots) (hx : p.tables.exec = Jvm.exec) (hZ : Z.Warmed39 s.vm) (eT : T.heap = h) (A : IA Z h a k .boolean n vs) {j : Int32} (i : Nat) (hj : j.toNatClampNeg = i) (hn : ¬ j < 0) (hi : i < vs.length) {x y : Int32} (hy : nar .boolean x = y) {g : JFrame} (hg : g.method = m) {rest : List Value} (hs : g.stack = .int x :: .int j :: .ref a :: rest) (hd : decode c.code g.pc = .ok (.bastore, 1)) :
    ∃ T' h', Stand p l e R s m args below meth c T' (locs ++ [⟨a, j.toNatClampNeg⟩]) cells slots ∧ T'.heap = h' ∧ Wr h h' a j.toNatClampNeg (.int y) ∧ IA Z h' a k .boolean n (vs.set i y) ∧ ∀ target, Steps p.tables e below (T'.setTop { g with pc := g.pc + 1, stack := rest }) target → Steps p.tables e below (T.setTop g) target := by
  subst hy
  obtain ⟨⟨cl, Ar, q1, S, N, H, G⟩, hl⟩ := A
  obtain ⟨T', h', X', e', W, st⟩ := stZ X hx hZ eT Ar (IA.inb S hl hj hn hi) hg hs hd
  exact ⟨T', h', X', e', W, IA.put Ar q1 S N H G hl (fits_nar_bool _) W hj hi, st⟩
end own
theorem own_or32 (n : Nat) : n ||| 32 = n + 32 * (1 - n / 32 % 2) := by
  have h1 : ∀ r < 64, r ||| 32 = r + 32 * (1 - r / 32 % 2) := by decide
  have h2 : n = 2 ^ 6 * (n / 64) + n % 64 := by omega
  have h3 : n % 64 < 2 ^ 6 := by omega
  have h4 : n % 64 ||| 32 < 2 ^ 6 := Nat.or_lt_two_pow h3 (by decide)
  have e : n ||| 32 = 2 ^ 6 * (n / 64) + (n % 64 ||| 32) := by
    rw [Nat.two_pow_add_eq_or_of_lt h4, ← Nat.or_assoc, ← Nat.two_pow_add_eq_or_of_lt h3, ← h2]
  have := h1 (n % 64) (by omega)
  omega
theorem own_char (x : Int32) : ∃ n : Nat, n < 65536 ∧ x.toUInt32.toUInt16.toUInt32.toInt32 = Int32.ofNat n := by
  refine ⟨x.toUInt32.toUInt16.toNat, x.toUInt32.toUInt16.toNat_lt, ?_⟩
  apply Int32.toBitVec_inj.mp
  apply BitVec.eq_of_toNat_eq
  show x.toUInt32.toUInt16.toUInt32.toNat = (BitVec.ofNat 32 _).toNat
  have := x.toUInt32.toUInt16.toNat_lt
  rw [BitVec.toNat_ofNat]
  simp only [UInt16.toNat_toUInt32]
  omega
theorem own_orN (a b : Nat) : Int32.ofNat a ||| Int32.ofNat b = Int32.ofNat (a ||| b) := by
  apply Int32.toBitVec_inj.mp
  show BitVec.ofNat 32 a ||| BitVec.ofNat 32 b = BitVec.ofNat 32 (a ||| b)
  apply BitVec.eq_of_toNat_eq
  simp [BitVec.toNat_or, Nat.or_mod_two_pow]
theorem own_tI {n : Nat} (h : n < 2147483648) : (Int32.ofNat n).toInt = n := Int32.toInt_ofNat_of_lt h
theorem own_sub {x y : Int32} (h1 : -2147483648 ≤ x.toInt - y.toInt) (h2 : x.toInt - y.toInt < 2147483648) : (x - y).toInt = x.toInt - y.toInt :=
  (Int32.toInt_sub x y).trans (Int.bmod_eq_of_le (by omega) (by omega))
theorem own_add {x y : Int32} (h1 : -2147483648 ≤ x.toInt + y.toInt) (h2 : x.toInt + y.toInt < 2147483648) : (x + y).toInt = x.toInt + y.toInt :=
  (Int32.toInt_add x y).trans (Int.bmod_eq_of_le (by omega) (by omega))
theorem own_mask31 (x : Int32) : 0 ≤ (x &&& (2147483647 : Int32)).toInt := by
  have h : (x &&& (2147483647 : Int32)).toBitVec.toNat < 2147483648 := by
    rw [Int32.toBitVec_and, BitVec.toNat_and]
    exact Nat.lt_of_le_of_lt Nat.and_le_right (by decide)
  show 0 ≤ (x &&& (2147483647 : Int32)).toBitVec.toInt
  rw [BitVec.toInt_eq_toNat_cond, if_pos (by omega)]
  omega
theorem own_lc1 (x y : Int64) : ((lcmpW x y) < (0 : Int32)) = (x < y) := by
  simp only [lcmpW, gt_iff_lt]
  by_cases h1 : y < x
  · rw [if_pos h1]
    have h2 : ¬ x < y := by rw [Int64.lt_iff_toInt_lt] at *; omega
    simp [h2]
  · rw [if_neg h1]
    by_cases h2 : x = y
    · rw [if_pos h2]; subst h2; simp
    · rw [if_neg h2]
      have h3 : x < y := by rw [← Int64.toInt_inj] at h2; rw [Int64.lt_iff_toInt_lt] at *; omega
      simp [h3]
theorem own_lc2 (x y : Int64) : ((0 : Int32) < (lcmpW x y)) = (y < x) := by
  simp only [lcmpW, gt_iff_lt]
  by_cases h1 : y < x
  · rw [if_pos h1]; simp [h1]
  · rw [if_neg h1]
    by_cases h2 : x = y
    · rw [if_pos h2]; subst h2; simp
    · rw [if_neg h2]; simp [h1]
theorem d1_0 : decode prog_23_method_2_code 0 = .ok (.iload_n 0, 1) := by decide +kernel
theorem d1_1 : decode prog_23_method_2_code 1 = .ok (.ifCond .eq 18, 3) := by decide +kernel
theorem d1_4 : decode prog_23_method_2_code 4 = .ok (.iload_n 0, 1) := by decide +kernel
theorem d1_5 : decode prog_23_method_2_code 5 = .ok (.iload_n 1, 1) := by decide +kernel
theorem d1_6 : decode prog_23_method_2_code 6 = .ok (.ineg, 1) := by decide +kernel
theorem d1_7 : decode prog_23_method_2_code 7 = .ok (.if_icmp .lt 12, 3) := by decide +kernel
theorem d1_10 : decode prog_23_method_2_code 10 = .ok (.iload_n 0, 1) := by decide +kernel
theorem d1_11 : decode prog_23_method_2_code 11 = .ok (.iload_n 1, 1) := by decide +kernel
theorem d1_12 : decode prog_23_method_2_code 12 = .ok (.if_icmp .gt 7, 3) := by decide +kernel
theorem d1_15 : decode prog_23_method_2_code 15 = .ok (.iconst 1, 1) := by decide +kernel
theorem d1_16 : decode prog_23_method_2_code 16 = .ok (.goto 4, 3) := by decide +kernel
theorem d1_19 : decode prog_23_method_2_code 19 = .ok (.iconst 0, 1) := by decide +kernel
theorem d1_20 : decode prog_23_method_2_code 20 = .ok (.ireturn, 1) := by decide +kernel
theorem d2_0 : decode method_2_code 0 = .ok (.iload_n 0, 1) := by decide +kernel
theorem d2_1 : decode method_2_code 1 = .ok (.ifCond .ge 9, 3) := by decide +kernel
theorem d2_4 : decode method_2_code 4 = .ok (.iload_n 0, 1) := by decide +kernel
theorem d2_5 : decode method_2_code 5 = .ok (.i2l, 1) := by decide +kernel
theorem d2_6 : decode method_2_code 6 = .ok (.lneg, 1) := by decide +kernel
theorem d2_7 : decode method_2_code 7 = .ok (.goto 5, 3) := by decide +kernel
theorem d2_10 : decode method_2_code 10 = .ok (.iload_n 0, 1) := by decide +kernel
theorem d2_11 : decode method_2_code 11 = .ok (.i2l, 1) := by decide +kernel
theorem d2_12 : decode method_2_code 12 = .ok (.lstore_n 2, 1) := by decide +kernel
theorem d2_13 : decode method_2_code 13 = .ok (.lload_n 2, 1) := by decide +kernel
theorem d2_14 : decode method_2_code 14 = .ok (.lconst 1, 1) := by decide +kernel
theorem d2_15 : decode method_2_code 15 = .ok (.lcmp, 1) := by decide +kernel
theorem d2_16 : decode method_2_code 16 = .ok (.ifCond .lt 14, 3) := by decide +kernel
theorem d2_19 : decode method_2_code 19 = .ok (.lload_n 2, 1) := by decide +kernel
theorem d2_20 : decode method_2_code 20 = .ok (.iload_n 1, 1) := by decide +kernel
theorem d2_21 : decode method_2_code 21 = .ok (.i2l, 1) := by decide +kernel
theorem d2_22 : decode method_2_code 22 = .ok (.lcmp, 1) := by decide +kernel
theorem d2_23 : decode method_2_code 23 = .ok (.ifCond .gt 7, 3) := by decide +kernel
theorem d2_26 : decode method_2_code 26 = .ok (.iconst 1, 1) := by decide +kernel
theorem d2_27 : decode method_2_code 27 = .ok (.goto 4, 3) := by decide +kernel
theorem d2_30 : decode method_2_code 30 = .ok (.iconst 0, 1) := by decide +kernel
theorem d2_31 : decode method_2_code 31 = .ok (.ireturn, 1) := by decide +kernel
theorem pd_0 : parseMethodDescriptor "(II)Z" = some ⟨[.int, .int], some .boolean⟩ := by decide +kernel
theorem pn_0 : plainName "com/example/meerkat/meerkat/model/Cnf" = true := by first | (simp [plainName, overriddenIn]; done) | decide +kernel
theorem pn_1 : plainName "com/example/meerkat/meerkat/model/CnfNamesVariablePinLaw" = true := by first | (simp [plainName, overriddenIn]; done) | decide +kernel
def own_names (p1 : Int32) (p2 : Int32) : Int32 := (if p1 = (0 : Int32) then (0 : Int32) else (if p1 < (-p2) then (0 : Int32) else (if p2 < p1 then (0 : Int32) else (1 : Int32))))
theorem ef_rm1 (m : MethodId) (x0 : Int32) (x1 : Int32) : entryFrame m #[(.int x0), (.int x1)] 2 = mkF m 0 #[.val (.int x0), .val (.int x1)] [] := by first | (simp [entryFrame, mkF, argsToLocals, Value.category]; done) | rfl
def Q_rm1 (p1 : Int32) (p2 : Int32) (h0 : Heap) (n0 : Nat) (v : Option Value) (h : Heap) (L : List Loc) : Prop := v = some (.int (own_names p1 p2)) ∧ Fr n0 L ∧ h = h0
set_option maxRecDepth 65536 in
set_option maxHeartbeats 40000000 in
theorem rm1 (l : Launch) (Z : State) (a0 : Array Value) (hw : ∀ d ∈ tables_1, d.before a0 Z = true) (ws : List Jvm.Cond) (p1 : Int32) (p2 : Int32)  (h0 : Heap) (n0 : Nat) (Z0 : n0 ≤ h0.size)  :
    MetFree l (⟨"com/example/meerkat/meerkat/model/Cnf", "namesVariable", "(II)Z"⟩ : MethodName) (head1 (Jvm.Cond.code (⟨"com/example/meerkat/meerkat/model/Cnf", "namesVariable", "(II)Z"⟩ : MethodName) prog_23_method_2_code 2 (some .boolean) :: ws) ({ frames := 0, cells := 0, slots := 0, locals := 0 } : Room)) (fun a U => a = #[(.int p1), (.int p2)] ∧ Z.Warmed39 U.vm ∧ U.heap = h0) (fun _ _ _ _ _ => True) (fun _ U o U' => ∃ v L, o = .returned v ∧ Q_rm1 p1 p2 h0 n0 v U'.heap L ∧ FrameEnd U o U' L ({ frames := 0, cells := 0, slots := 0, locals := 0 } : Room).cells ({ frames := 0, cells := 0, slots := 0, locals := 0 } : Room).slots) := by
  refine MetFree.of_bodySF (plainFor_of_name pn_0) hisR ?_
  intro p e s m args below meth c s₁ Bd hml0 hP hK
  obtain ⟨rfl, hZ, hh⟩ := hP
  have hx := Bd.exec
  have hby := Bd.bytes
  have hml : c.maxLocals = 2 := hml0
  have hown : s.vm.findClass "com/example/meerkat/meerkat/model/Cnf" = some m.cls := findClass_of_methodNamed Bd.named
  have hnm := (name_of_methodNamed Bd.named Bd.method).1
  have X0 : Stand p l e ({ frames := 0, cells := 0, slots := 0, locals := 0 } : Room) s m #[(.int p1), (.int p2)] below meth c s₁ [] 0 0 := Stand.of_body Bd
  have e0 : s₁.heap = h0 := by rw [← hh, Bd.state]; rfl
  have N0 := Fr.nil n0
  obtain ⟨G, hG, pr0⟩ : ∃ G : State → Prop, (∀ t, G t → Steps p.tables e below (s₁.setTop (entryFrame m #[(.int p1), (.int p2)] 2)) t) ∧ (∀ t, Steps p.tables e below (s₁.setTop (mkF m 0 #[.val (.int p1), .val (.int p2)] [])) t → G t) := ⟨_, fun _ k => k, fun t k => castTop (ef_rm1 m p1 p2) k⟩
  have pr1 : ∀ t, Steps p.tables e below (s₁.setTop (mkF m 1 #[.val (.int p1), .val (.int p2)] [(.int p1)])) t → G t := fun t k => pr0 t (by
      refine XS.iloadN X0.here hx rfl (hb hby d1_0) rfl ?_
      exact k)
  obtain ⟨j5, hj5⟩ : ∃ z : Int32, z = (if p1 = (0 : Int32) then (0 : Int32) else (if p1 < (-p2) then (0 : Int32) else (if p2 < p1 then (0 : Int32) else (1 : Int32)))) := ⟨_, rfl⟩
  have pr6 : ∀ t, Steps p.tables e below (s₁.setTop (mkF m 20 #[.val (.int p1), .val (.int p2)] [(.int j5)])) t → G t := by
    intro t k
    refine pr1 t ?_
    by_cases c2 : p1 = (0 : Int32)
    · refine XS.ifYes X0.here hx rfl (pc0 := 1) (pc' := 19) rfl (hb hby d1_1) rfl ((if0 _ _).trans (teq c2).1) (by decide) (by decide) ?_
      refine XS.iconst X0.here hx rfl (hb hby d1_19) ?_
      have ej5 : j5 = (0 : Int32) := by rw [hj5, if_pos c2]
      rw [ej5] at k
      exact k
    · refine XS.ifNo X0.here hx rfl (hb hby d1_1) rfl ((if0 _ _).trans (feq c2).1) ?_
      refine XS.iloadN X0.here hx rfl (hb hby d1_4) rfl ?_
      refine XS.iloadN X0.here hx rfl (hb hby d1_5) rfl ?_
      refine XS.ineg X0.here hx rfl (hb hby d1_6) rfl ?_
      by_cases c3 : p1 < (-p2)
      · refine XS.icmpYes X0.here hx rfl (pc0 := 7) (pc' := 19) rfl (hb hby d1_7) rfl (tlt c3).1 (by decide) (by decide) ?_
        refine XS.iconst X0.here hx rfl (hb hby d1_19) ?_
        have ej5 : j5 = (0 : Int32) := by rw [hj5, if_neg c2, if_pos c3]
        rw [ej5] at k
        exact k
      · refine XS.icmpNo X0.here hx rfl (hb hby d1_7) rfl (flt c3).1 ?_
        refine XS.iloadN X0.here hx rfl (hb hby d1_10) rfl ?_
        refine XS.iloadN X0.here hx rfl (hb hby d1_11) rfl ?_
        by_cases c4 : p2 < p1
        · refine XS.icmpYes X0.here hx rfl (pc0 := 12) (pc' := 19) rfl (hb hby d1_12) rfl (tlt c4).2.2.1 (by decide) (by decide) ?_
          refine XS.iconst X0.here hx rfl (hb hby d1_19) ?_
          have ej5 : j5 = (0 : Int32) := by rw [hj5, if_neg c2, if_neg c3, if_pos c4]
          rw [ej5] at k
          exact k
        · refine XS.icmpNo X0.here hx rfl (hb hby d1_12) rfl (flt c4).2.2.1 ?_
          refine XS.iconst X0.here hx rfl (hb hby d1_15) ?_
          refine XS.goto X0.here hx rfl (pc0 := 16) (pc' := 20) rfl (hb hby d1_16) (by decide) (by decide) ?_
          have ej5 : j5 = (1 : Int32) := by rw [hj5, if_neg c2, if_neg c3, if_neg c4]
          rw [ej5] at k
          exact k
  have hret : j5 = own_names p1 p2 := by rw [hj5]; rfl
  have h01 : j5 = 0 ∨ j5 = 1 := (hj5 ▸ (own_ite01 (Or.inl rfl) (own_ite01 (Or.inl rfl) (own_ite01 (Or.inl rfl) (Or.inr rfl)))))
  obtain ⟨fs, hr, hrun, hended, hW, hsame⟩ := X0.leave (v := some (.int (own_names p1 p2))) (fun h => by rw [Bd.returns] at h; cases h)
  refine ⟨_, _, hG _ (pr6 _ ?_), hrun, hended, _, _, rfl, ?_, ⟨_, rfl⟩, hW, hsame.mono (by decide) (by decide)⟩
  · exact retN X0 hx (t := .boolean) Bd.returns (by simp) (hb hby d1_20) (by rw [show nar .boolean j5 = (own_names p1 p2) from ((own_nz h01).trans hret)]; exact hr)
  · show Q_rm1 p1 p2 h0 n0 _ s₁.heap _
    rw [e0]
    exact ⟨rfl, N0, rfl⟩
def own_expected (p1 : Int32) (p2 : Int32) : Int32 := (if (lcmpW (if p1 < (0 : Int32) then (-(p1.toInt64)) else (p1.toInt64)) (1 : Int64)) < (0 : Int32) then (0 : Int32) else (if (0 : Int32) < (lcmpW (if p1 < (0 : Int32) then (-(p1.toInt64)) else (p1.toInt64)) (p2.toInt64)) then (0 : Int32) else (1 : Int32)))
theorem ef_rm2 (m : MethodId) (x0 : Int32) (x1 : Int32) : entryFrame m #[(.int x0), (.int x1)] 4 = mkF m 0 #[.val (.int x0), .val (.int x1), .unset, .unset] [] := by first | (simp [entryFrame, mkF, argsToLocals, Value.category]; done) | rfl
def Q_rm2 (p1 : Int32) (p2 : Int32) (h0 : Heap) (n0 : Nat) (v : Option Value) (h : Heap) (L : List Loc) : Prop := v = some (.int (own_expected p1 p2)) ∧ Fr n0 L ∧ h = h0
set_option maxRecDepth 65536 in
set_option maxHeartbeats 40000000 in
theorem rm2 (l : Launch) (Z : State) (a0 : Array Value) (hw : ∀ d ∈ tables_1, d.before a0 Z = true) (ws : List Jvm.Cond) (p1 : Int32) (p2 : Int32)  (h0 : Heap) (n0 : Nat) (Z0 : n0 ≤ h0.size)  :
    MetFree l (⟨"com/example/meerkat/meerkat/model/CnfNamesVariablePinLaw", "expected", "(II)Z"⟩ : MethodName) (head1 (Jvm.Cond.code (⟨"com/example/meerkat/meerkat/model/CnfNamesVariablePinLaw", "expected", "(II)Z"⟩ : MethodName) method_2_code 4 (some .boolean) :: ws) ({ frames := 0, cells := 0, slots := 0, locals := 0 } : Room)) (fun a U => a = #[(.int p1), (.int p2)] ∧ Z.Warmed39 U.vm ∧ U.heap = h0) (fun _ _ _ _ _ => True) (fun _ U o U' => ∃ v L, o = .returned v ∧ Q_rm2 p1 p2 h0 n0 v U'.heap L ∧ FrameEnd U o U' L ({ frames := 0, cells := 0, slots := 0, locals := 0 } : Room).cells ({ frames := 0, cells := 0, slots := 0, locals := 0 } : Room).slots) := by
  refine MetFree.of_bodySF (plainFor_of_name pn_1) hisR ?_
  intro p e s m args below meth c s₁ Bd hml0 hP hK
  obtain ⟨rfl, hZ, hh⟩ := hP
  have hx := Bd.exec
  have hby := Bd.bytes
  have hml : c.maxLocals = 4 := hml0
  have hown : s.vm.findClass "com/example/meerkat/meerkat/model/CnfNamesVariablePinLaw" = some m.cls := findClass_of_methodNamed Bd.named
  have hnm := (name_of_methodNamed Bd.named Bd.method).1
  have X0 : Stand p l e ({ frames := 0, cells := 0, slots := 0, locals := 0 } : Room) s m #[(.int p1), (.int p2)] below meth c s₁ [] 0 0 := Stand.of_body Bd
  have e0 : s₁.heap = h0 := by rw [← hh, Bd.state]; rfl
  have N0 := Fr.nil n0
  obtain ⟨G, hG, pr0⟩ : ∃ G : State → Prop, (∀ t, G t → Steps p.tables e below (s₁.setTop (entryFrame m #[(.int p1), (.int p2)] 4)) t) ∧ (∀ t, Steps p.tables e below (s₁.setTop (mkF m 0 #[.val (.int p1), .val (.int p2), .unset, .unset] [])) t → G t) := ⟨_, fun _ k => k, fun t k => castTop (ef_rm2 m p1 p2) k⟩
  have pr7 : ∀ t, Steps p.tables e below (s₁.setTop (mkF m 1 #[.val (.int p1), .val (.int p2), .unset, .unset] [(.int p1)])) t → G t := fun t k => pr0 t (by
      refine XS.iloadN X0.here hx rfl (hb hby d2_0) rfl ?_
      exact k)
  obtain ⟨j9, hj9⟩ : ∃ z : Int64, z = (if p1 < (0 : Int32) then (-(p1.toInt64)) else (p1.toInt64)) := ⟨_, rfl⟩
  have pr10 : ∀ t, Steps p.tables e below (s₁.setTop (mkF m 12 #[.val (.int p1), .val (.int p2), .unset, .unset] [(.long j9)])) t → G t := by
    intro t k
    refine pr7 t ?_
    by_cases c8 : p1 < (0 : Int32)
    · refine XS.ifNo X0.here hx rfl (hb hby d2_1) rfl ((if0 _ _).trans (tlt c8).2.1) ?_
      refine XS.iloadN X0.here hx rfl (hb hby d2_4) rfl ?_
      refine XS.i2l X0.here hx rfl (hb hby d2_5) rfl ?_
      refine XS.lneg X0.here hx rfl (hb hby d2_6) rfl ?_
      refine XS.goto X0.here hx rfl (pc0 := 7) (pc' := 12) rfl (hb hby d2_7) (by decide) (by decide) ?_
      have ej9 : j9 = (-(p1.toInt64)) := by rw [hj9, if_pos c8]
      rw [ej9] at k
      exact k
    · refine XS.ifYes X0.here hx rfl (pc0 := 1) (pc' := 10) rfl (hb hby d2_1) rfl ((if0 _ _).trans (flt c8).2.1) (by decide) (by decide) ?_
      refine XS.iloadN X0.here hx rfl (hb hby d2_10) rfl ?_
      refine XS.i2l X0.here hx rfl (hb hby d2_11) rfl ?_
      have ej9 : j9 = (p1.toInt64) := by rw [hj9, if_neg c8]
      rw [ej9] at k
      exact k
  have pr11 : ∀ t, Steps p.tables e below (s₁.setTop (mkF m 16 #[.val (.int p1), .val (.int p2), .val (.long j9), .second] [(.int (lcmpW j9 (1 : Int64)))])) t → G t := fun t k => pr10 t (by
      refine XS.lstoreN X0.here hx rfl (hb hby d2_12) rfl (l' := #[.val (.int p1), .val (.int p2), .val (.long j9), .second]) rfl ?_
      refine XS.lloadN X0.here hx rfl (hb hby d2_13) rfl ?_
      refine XS.lconst X0.here hx rfl (hb hby d2_14) ?_
      refine XS.lcmp X0.here hx rfl (hb hby d2_15) rfl ?_
      exact k)
  obtain ⟨j14, hj14⟩ : ∃ z : Int32, z = (if (lcmpW j9 (1 : Int64)) < (0 : Int32) then (0 : Int32) else (if (0 : Int32) < (lcmpW j9 (p2.toInt64)) then (0 : Int32) else (1 : Int32))) := ⟨_, rfl⟩
  have pr15 : ∀ t, Steps p.tables e below (s₁.setTop (mkF m 31 #[.val (.int p1), .val (.int p2), .val (.long j9), .second] [(.int j14)])) t → G t := by
    intro t k
    refine pr11 t ?_
    by_cases c12 : (lcmpW j9 (1 : Int64)) < (0 : Int32)
    · refine XS.ifYes X0.here hx rfl (pc0 := 16) (pc' := 30) rfl (hb hby d2_16) rfl ((if0 _ _).trans (tlt c12).1) (by decide) (by decide) ?_
      refine XS.iconst X0.here hx rfl (hb hby d2_30) ?_
      have ej14 : j14 = (0 : Int32) := by rw [hj14, if_pos c12]
      rw [ej14] at k
      exact k
    · refine XS.ifNo X0.here hx rfl (hb hby d2_16) rfl ((if0 _ _).trans (flt c12).1) ?_
      refine XS.lloadN X0.here hx rfl (hb hby d2_19) rfl ?_
      refine XS.iloadN X0.here hx rfl (hb hby d2_20) rfl ?_
      refine XS.i2l X0.here hx rfl (hb hby d2_21) rfl ?_
      refine XS.lcmp X0.here hx rfl (hb hby d2_22) rfl ?_
      by_cases c13 : (0 : Int32) < (lcmpW j9 (p2.toInt64))
      · refine XS.ifYes X0.here hx rfl (pc0 := 23) (pc' := 30) rfl (hb hby d2_23) rfl ((if0 _ _).trans (tlt c13).2.2.1) (by decide) (by decide) ?_
        refine XS.iconst X0.here hx rfl (hb hby d2_30) ?_
        have ej14 : j14 = (0 : Int32) := by rw [hj14, if_neg c12, if_pos c13]
        rw [ej14] at k
        exact k
      · refine XS.ifNo X0.here hx rfl (hb hby d2_23) rfl ((if0 _ _).trans (flt c13).2.2.1) ?_
        refine XS.iconst X0.here hx rfl (hb hby d2_26) ?_
        refine XS.goto X0.here hx rfl (pc0 := 27) (pc' := 31) rfl (hb hby d2_27) (by decide) (by decide) ?_
        have ej14 : j14 = (1 : Int32) := by rw [hj14, if_neg c12, if_neg c13]
        rw [ej14] at k
        exact k
  have hret : j14 = own_expected p1 p2 := by rw [hj14, hj9]; rfl
  have h01 : j14 = 0 ∨ j14 = 1 := (hj14 ▸ (own_ite01 (Or.inl rfl) (own_ite01 (Or.inl rfl) (Or.inr rfl))))
  obtain ⟨fs, hr, hrun, hended, hW, hsame⟩ := X0.leave (v := some (.int (own_expected p1 p2))) (fun h => by rw [Bd.returns] at h; cases h)
  refine ⟨_, _, hG _ (pr15 _ ?_), hrun, hended, _, _, rfl, ?_, ⟨_, rfl⟩, hW, hsame.mono (by decide) (by decide)⟩
  · exact retN X0 hx (t := .boolean) Bd.returns (by simp) (hb hby d2_31) (by rw [show nar .boolean j14 = (own_expected p1 p2) from ((own_nz h01).trans hret)]; exact hr)
  · show Q_rm2 p1 p2 h0 n0 _ s₁.heap _
    rw [e0]
    exact ⟨rfl, N0, rfl⟩
theorem own_law (p1 : Int32) (p2 : Int32) (p3 : Int32) (p4 : Int32) (nn : Int32) (dd : Int32) (lit : Int32) (rr : Int32) (hnn : nn = (p2 &&& (2147483647 : Int32))) (hdd : dd = (p4 - (p4 / (3 : Int32)) * (3 : Int32))) (hlit : lit = (if (p3 &&& (3 : Int32)) = (0 : Int32) then p1 else (if (p3 &&& (3 : Int32)) = (1 : Int32) then (nn + dd) else (if (p3 &&& (3 : Int32)) = (2 : Int32) then ((-nn) + dd) else dd)))) (hrr : rr = (if (own_names lit nn) = (own_expected lit nn) then (1 : Int32) else (0 : Int32))) : rr = 1 := by
  have hn : 0 ≤ nn.toInt := by
    rw [hnn]; exact own_mask31 p2
  have hm := nn.toInt_lt
  have key : own_names lit nn = own_expected lit nn := by
    have a1 := lit.toInt_lt; have a2 := lit.le_toInt
    have e1 : (-nn).toInt = -nn.toInt := by rw [Int32.toInt_neg]; exact Int.bmod_eq_of_le (by omega) (by omega)
    have e2 : (if lit < (0 : Int32) then (-(lit.toInt64)) else (lit.toInt64)).toInt = if lit.toInt < 0 then -lit.toInt else lit.toInt := by
      have e0 : lit.toInt64.toInt = lit.toInt := Int32.toInt_toInt64 lit
      simp only [Int32.lt_iff_toInt_lt, show (0 : Int32).toInt = 0 from rfl]
      split
      · rw [Int64.toInt_neg, e0]; exact Int.bmod_eq_of_le (by omega) (by omega)
      · exact e0
    have e3 : nn.toInt64.toInt = nn.toInt := Int32.toInt_toInt64 nn
    rw [own_names, own_expected]
    generalize (if lit < (0 : Int32) then (-(lit.toInt64)) else (lit.toInt64)) = M at *
    generalize nn.toInt64 = N at *
    simp only [own_lc1 M 1, own_lc2 M N]
    simp only [Int32.lt_iff_toInt_lt, ← Int32.toInt_inj, Int64.lt_iff_toInt_lt, e1, e2, e3, show (0 : Int32).toInt = 0 from rfl, show (1 : Int64).toInt = 1 from rfl]
    generalize lit.toInt = x at *
    generalize nn.toInt = y at *
    repeat' split
    all_goals first | rfl | (exfalso; omega)
  rw [hrr, if_pos key]
theorem ef_rm0 (m : MethodId) (x0 : Int32) (x1 : Int32) (x2 : Int32) (x3 : Int32) : entryFrame m #[(.int x0), (.int x1), (.int x2), (.int x3)] maxLocals = mkF m 0 #[.val (.int x0), .val (.int x1), .val (.int x2), .val (.int x3), .unset, .unset, .unset, .unset] [] := by first | (simp [entryFrame, mkF, argsToLocals, Value.category, maxLocals]; done) | rfl
def Q0 (n0 : Nat) (v : Option Value) (h : Heap) (L : List Loc) : Prop := v = some (.int 1) ∧ Fr n0 L
set_option maxRecDepth 65536 in
set_option maxHeartbeats 40000000 in
theorem rm0 (l : Launch) (Z : State) (a0 : Array Value) (hw : ∀ d ∈ tables_1, d.before a0 Z = true) (ws : List Jvm.Cond) (p1 : Int32) (p2 : Int32) (p3 : Int32) (p4 : Int32)  (h0 : Heap) (n0 : Nat) (Z0 : n0 ≤ h0.size)  :
    MetFree l x (head1 (Jvm.Cond.code x code maxLocals ret :: ws) room_1) (fun a U => a = #[(.int p1), (.int p2), (.int p3), (.int p4)] ∧ Z.Warmed39 U.vm ∧ U.heap = h0) (fun _ _ _ _ _ => True) (fun _ U o U' => ∃ v L, o = .returned v ∧ Q0 n0 v U'.heap L ∧ FrameEnd U o U' L room_1.cells room_1.slots) := by
  refine MetFree.of_bodySF (plainFor_of_name pn_1) hisR ?_
  intro p e s m args below meth c s₁ Bd hml0 hP hK
  obtain ⟨rfl, hZ, hh⟩ := hP
  have hx := Bd.exec
  have hby := Bd.bytes
  have hml : c.maxLocals = 8 := hml0
  have hown : s.vm.findClass "com/example/meerkat/meerkat/model/CnfNamesVariablePinLaw" = some m.cls := findClass_of_methodNamed Bd.named
  have hnm := (name_of_methodNamed Bd.named Bd.method).1
  have X0 : Stand p l e room_1 s m #[(.int p1), (.int p2), (.int p3), (.int p4)] below meth c s₁ [] 0 0 := Stand.of_body Bd
  have e0 : s₁.heap = h0 := by rw [← hh, Bd.state]; rfl
  have N0 := Fr.nil n0
  obtain ⟨G, hG, pr0⟩ : ∃ G : State → Prop, (∀ t, G t → Steps p.tables e below (s₁.setTop (entryFrame m #[(.int p1), (.int p2), (.int p3), (.int p4)] maxLocals)) t) ∧ (∀ t, Steps p.tables e below (s₁.setTop (mkF m 0 #[.val (.int p1), .val (.int p2), .val (.int p3), .val (.int p4), .unset, .unset, .unset, .unset] [])) t → G t) := ⟨_, fun _ k => k, fun t k => castTop (ef_rm0 m p1 p2 p3 p4) k⟩
  have pr16 : ∀ t, Steps p.tables e below (s₁.setTop (mkF m 16 #[.val (.int p1), .val (.int p2), .val (.int p3), .val (.int p4), .val (.int (p2 &&& (2147483647 : Int32))), .val (.int (p4 - (p4 / (3 : Int32)) * (3 : Int32))), .val (.int (p3 &&& (3 : Int32))), .unset] [])) t → G t := fun t k => pr0 t (by
      refine XS.iloadN X0.here hx rfl (hb hby at_0) rfl ?_
      refine X0.ldcInt hx hown (mvT hZ (hw _ (List.mem_of_getElem? (i := 0) rfl))) (g := (mkF m 1 #[.val (.int p1), .val (.int p2), .val (.int p3), .val (.int p4), .unset, .unset, .unset, .unset] [(.int p2)])) rfl (hb hby at_1) _ ?_
      refine XS.iand X0.here hx rfl (hb hby at_3) rfl ?_
      refine XS.istore X0.here hx rfl (hb hby at_4) rfl (l' := #[.val (.int p1), .val (.int p2), .val (.int p3), .val (.int p4), .val (.int (p2 &&& (2147483647 : Int32))), .unset, .unset, .unset]) rfl ?_
      refine XS.iloadN X0.here hx rfl (hb hby at_6) rfl ?_
      refine XS.iconst X0.here hx rfl (hb hby at_7) ?_
      refine XS.irem X0.here hx rfl (hb hby at_8) rfl (by decide) ?_
      refine XS.istore X0.here hx rfl (hb hby at_9) rfl (l' := #[.val (.int p1), .val (.int p2), .val (.int p3), .val (.int p4), .val (.int (p2 &&& (2147483647 : Int32))), .val (.int (p4 - (p4 / (3 : Int32)) * (3 : Int32))), .unset, .unset]) rfl ?_
      refine XS.iloadN X0.here hx rfl (hb hby at_11) rfl ?_
      refine XS.iconst X0.here hx rfl (hb hby at_12) ?_
      refine XS.iand X0.here hx rfl (hb hby at_13) rfl ?_
      refine XS.istore X0.here hx rfl (hb hby at_14) rfl (l' := #[.val (.int p1), .val (.int p2), .val (.int p3), .val (.int p4), .val (.int (p2 &&& (2147483647 : Int32))), .val (.int (p4 - (p4 / (3 : Int32)) * (3 : Int32))), .val (.int (p3 &&& (3 : Int32))), .unset]) rfl ?_
      exact k)
  have pr17 : ∀ t, Steps p.tables e below (s₁.setTop (mkF m 18 #[.val (.int p1), .val (.int p2), .val (.int p3), .val (.int p4), .val (.int (p2 &&& (2147483647 : Int32))), .val (.int (p4 - (p4 / (3 : Int32)) * (3 : Int32))), .val (.int (p3 &&& (3 : Int32))), .unset] [(.int (p3 &&& (3 : Int32)))])) t → G t := fun t k => pr16 t (by
      refine XS.iload X0.here hx rfl (hb hby at_16) rfl ?_
      exact k)
  obtain ⟨nn, hnn⟩ : ∃ z : Int32, z = (p2 &&& (2147483647 : Int32)) := ⟨_, rfl⟩
  rw [← hnn] at pr17
  obtain ⟨dd, hdd⟩ : ∃ z : Int32, z = (p4 - (p4 / (3 : Int32)) * (3 : Int32)) := ⟨_, rfl⟩
  rw [← hdd] at pr17
  obtain ⟨lit, hlit⟩ : ∃ z : Int32, z = (if (p3 &&& (3 : Int32)) = (0 : Int32) then p1 else (if (p3 &&& (3 : Int32)) = (1 : Int32) then (nn + dd) else (if (p3 &&& (3 : Int32)) = (2 : Int32) then ((-nn) + dd) else dd))) := ⟨_, rfl⟩
  have pr21 : ∀ t, Steps p.tables e below (s₁.setTop (mkF m 64 #[.val (.int p1), .val (.int p2), .val (.int p3), .val (.int p4), .val (.int nn), .val (.int dd), .val (.int (p3 &&& (3 : Int32))), .val (.int lit)] [])) t → G t := by
    intro t k
    refine pr17 t ?_
    by_cases c18 : (p3 &&& (3 : Int32)) = (0 : Int32)
    · refine XS.ifNo X0.here hx rfl (hb hby at_18) rfl ((if0 _ _).trans (teq c18).2) ?_
      refine XS.iloadN X0.here hx rfl (hb hby at_21) rfl ?_
      refine XS.istore X0.here hx rfl (hb hby at_22) rfl (l' := #[.val (.int p1), .val (.int p2), .val (.int p3), .val (.int p4), .val (.int nn), .val (.int dd), .val (.int (p3 &&& (3 : Int32))), .val (.int p1)]) rfl ?_
      refine XS.goto X0.here hx rfl (pc0 := 24) (pc' := 64) rfl (hb hby at_24) (by decide) (by decide) ?_
      have elit : lit = p1 := by rw [hlit, if_pos c18]
      rw [elit] at k
      exact k
    · refine XS.ifYes X0.here hx rfl (pc0 := 18) (pc' := 27) rfl (hb hby at_18) rfl ((if0 _ _).trans (feq c18).2) (by decide) (by decide) ?_
      refine XS.iload X0.here hx rfl (hb hby at_27) rfl ?_
      refine XS.iconst X0.here hx rfl (hb hby at_29) ?_
      by_cases c19 : (p3 &&& (3 : Int32)) = (1 : Int32)
      · refine XS.icmpNo X0.here hx rfl (hb hby at_30) rfl (teq c19).2 ?_
        refine XS.iload X0.here hx rfl (hb hby at_33) rfl ?_
        refine XS.iload X0.here hx rfl (hb hby at_35) rfl ?_
        refine XS.iadd X0.here hx rfl (hb hby at_37) rfl ?_
        refine XS.istore X0.here hx rfl (hb hby at_38) rfl (l' := #[.val (.int p1), .val (.int p2), .val (.int p3), .val (.int p4), .val (.int nn), .val (.int dd), .val (.int (p3 &&& (3 : Int32))), .val (.int (nn + dd))]) rfl ?_
        refine XS.goto X0.here hx rfl (pc0 := 40) (pc' := 64) rfl (hb hby at_40) (by decide) (by decide) ?_
        have elit : lit = (nn + dd) := by rw [hlit, if_neg c18, if_pos c19]
        rw [elit] at k
        exact k
      · refine XS.icmpYes X0.here hx rfl (pc0 := 30) (pc' := 43) rfl (hb hby at_30) rfl (feq c19).2 (by decide) (by decide) ?_
        refine XS.iload X0.here hx rfl (hb hby at_43) rfl ?_
        refine XS.iconst X0.here hx rfl (hb hby at_45) ?_
        by_cases c20 : (p3 &&& (3 : Int32)) = (2 : Int32)
        · refine XS.icmpNo X0.here hx rfl (hb hby at_46) rfl (teq c20).2 ?_
          refine XS.iload X0.here hx rfl (hb hby at_49) rfl ?_
          refine XS.ineg X0.here hx rfl (hb hby at_51) rfl ?_
          refine XS.iload X0.here hx rfl (hb hby at_52) rfl ?_
          refine XS.iadd X0.here hx rfl (hb hby at_54) rfl ?_
          refine XS.istore X0.here hx rfl (hb hby at_55) rfl (l' := #[.val (.int p1), .val (.int p2), .val (.int p3), .val (.int p4), .val (.int nn), .val (.int dd), .val (.int (p3 &&& (3 : Int32))), .val (.int ((-nn) + dd))]) rfl ?_
          refine XS.goto X0.here hx rfl (pc0 := 57) (pc' := 64) rfl (hb hby at_57) (by decide) (by decide) ?_
          have elit : lit = ((-nn) + dd) := by rw [hlit, if_neg c18, if_neg c19, if_pos c20]
          rw [elit] at k
          exact k
        · refine XS.icmpYes X0.here hx rfl (pc0 := 46) (pc' := 60) rfl (hb hby at_46) rfl (feq c20).2 (by decide) (by decide) ?_
          refine XS.iload X0.here hx rfl (hb hby at_60) rfl ?_
          refine XS.istore X0.here hx rfl (hb hby at_62) rfl (l' := #[.val (.int p1), .val (.int p2), .val (.int p3), .val (.int p4), .val (.int nn), .val (.int dd), .val (.int (p3 &&& (3 : Int32))), .val (.int dd)]) rfl ?_
          have elit : lit = dd := by rw [hlit, if_neg c18, if_neg c19, if_neg c20]
          rw [elit] at k
          exact k
  have pr22 : ∀ t, Steps p.tables e below (s₁.setTop (mkF m 68 #[.val (.int p1), .val (.int p2), .val (.int p3), .val (.int p4), .val (.int nn), .val (.int dd), .val (.int (p3 &&& (3 : Int32))), .val (.int lit)] [(.int nn), (.int lit)])) t → G t := fun t k => pr21 t (by
      refine XS.iload X0.here hx rfl (hb hby at_64) rfl ?_
      refine XS.iload X0.here hx rfl (hb hby at_66) rfl ?_
      exact k)
  obtain ⟨_, _, ⟨T23, L23, k23, n23⟩, -, X23, ⟨Lc23, hQ23, l23, y23, z23⟩, st23⟩ := Jvm.LawKit.callS X0 hx (y := (⟨"com/example/meerkat/meerkat/model/Cnf", "namesVariable", "(II)Z"⟩ : MethodName)) hown (mvT hZ (hw _ (List.mem_of_getElem? (i := 1) rfl))) (mvT hZ (hw _ (List.mem_of_getElem? (i := 2) rfl))) (mvT hZ (hw _ (List.mem_of_getElem? (i := 3) rfl))) (mvT hZ (hw _ (List.mem_of_getElem? (i := 4) rfl))) (by decide) (backOf (W := 0) (rm1 l Z a0 hw [] lit nn h0 n0 Z0) hZ (hw _ (List.mem_of_getElem? (i := 4) rfl)) (hw _ (List.mem_of_getElem? (i := 3) rfl)) (by decide) (by decide)) (g := (mkF m 68 #[.val (.int p1), .val (.int p2), .val (.int p3), .val (.int p4), .val (.int nn), .val (.int dd), .val (.int (p3 &&& (3 : Int32))), .val (.int lit)] [(.int nn), (.int lit)])) rfl (by rw [hml]; rfl) (argsL := [(.int lit), (.int nn)]) (rest := []) (lenOf pd_0 rfl) rfl (by show 2 * 0 + _ ≤ _; exact Nat.le_of_eq rfl) (hb hby at_68) (fun _ _ => ⟨rfl, e0, (by decide : 0 + 0 ≤ _), (by decide : 0 + 0 ≤ _)⟩)
  dsimp only [Pt.U, Pt.locs, Pt.cells, Pt.slots] at X23 l23 y23 z23 st23 hQ23
  subst l23 y23 z23
  obtain ⟨rfl, Nq23, eh23⟩ := hQ23
  have N23 := Fr.app N0 Nq23
  have pr24 : ∀ t, Steps p.tables e below (T23.setTop (mkF m 71 #[.val (.int p1), .val (.int p2), .val (.int p3), .val (.int p4), .val (.int nn), .val (.int dd), .val (.int (p3 &&& (3 : Int32))), .val (.int lit)] [(.int (own_names lit nn))])) t → G t := fun t k => pr22 t (st23 t k)
  have pr25 : ∀ t, Steps p.tables e below (T23.setTop (mkF m 75 #[.val (.int p1), .val (.int p2), .val (.int p3), .val (.int p4), .val (.int nn), .val (.int dd), .val (.int (p3 &&& (3 : Int32))), .val (.int lit)] [(.int nn), (.int lit), (.int (own_names lit nn))])) t → G t := fun t k => pr24 t (by
      refine XS.iload X23.here hx rfl (hb hby at_71) rfl ?_
      refine XS.iload X23.here hx rfl (hb hby at_73) rfl ?_
      exact k)
  obtain ⟨_, _, ⟨T26, L26, k26, n26⟩, -, X26, ⟨Lc26, hQ26, l26, y26, z26⟩, st26⟩ := Jvm.LawKit.callS X23 hx (y := (⟨"com/example/meerkat/meerkat/model/CnfNamesVariablePinLaw", "expected", "(II)Z"⟩ : MethodName)) hown (mvT hZ (hw _ (List.mem_of_getElem? (i := 5) rfl))) (mvT hZ (hw _ (List.mem_of_getElem? (i := 6) rfl))) (mvT hZ (hw _ (List.mem_of_getElem? (i := 7) rfl))) (mvT hZ (hw _ (List.mem_of_getElem? (i := 8) rfl))) (by decide) (backOf (W := 1) (rm2 l Z a0 hw [] lit nn h0 n0 Z0) hZ (hw _ (List.mem_of_getElem? (i := 8) rfl)) (hw _ (List.mem_of_getElem? (i := 7) rfl)) (by decide) (by decide)) (g := (mkF m 75 #[.val (.int p1), .val (.int p2), .val (.int p3), .val (.int p4), .val (.int nn), .val (.int dd), .val (.int (p3 &&& (3 : Int32))), .val (.int lit)] [(.int nn), (.int lit), (.int (own_names lit nn))])) rfl (by rw [hml]; rfl) (argsL := [(.int lit), (.int nn)]) (rest := [(.int (own_names lit nn))]) (lenOf pd_0 rfl) rfl (by show 2 * 0 + _ ≤ _; exact Nat.le_of_eq rfl) (hb hby at_75) (fun _ _ => ⟨rfl, eh23, (by decide : 0 + 0 ≤ _), (by decide : 0 + 0 ≤ _)⟩)
  dsimp only [Pt.U, Pt.locs, Pt.cells, Pt.slots] at X26 l26 y26 z26 st26 hQ26
  subst l26 y26 z26
  obtain ⟨rfl, Nq26, eh26⟩ := hQ26
  have N26 := Fr.app N23 Nq26
  have pr27 : ∀ t, Steps p.tables e below (T26.setTop (mkF m 78 #[.val (.int p1), .val (.int p2), .val (.int p3), .val (.int p4), .val (.int nn), .val (.int dd), .val (.int (p3 &&& (3 : Int32))), .val (.int lit)] [(.int (own_expected lit nn)), (.int (own_names lit nn))])) t → G t := fun t k => pr25 t (st26 t k)
  obtain ⟨rr, hrr⟩ : ∃ z : Int32, z = (if (own_names lit nn) = (own_expected lit nn) then (1 : Int32) else (0 : Int32)) := ⟨_, rfl⟩
  have pr29 : ∀ t, Steps p.tables e below (T26.setTop (mkF m 86 #[.val (.int p1), .val (.int p2), .val (.int p3), .val (.int p4), .val (.int nn), .val (.int dd), .val (.int (p3 &&& (3 : Int32))), .val (.int lit)] [(.int rr)])) t → G t := by
    intro t k
    refine pr27 t ?_
    by_cases c28 : (own_names lit nn) = (own_expected lit nn)
    · refine XS.icmpNo X26.here hx rfl (hb hby at_78) rfl (teq c28).2 ?_
      refine XS.iconst X26.here hx rfl (hb hby at_81) ?_
      refine XS.goto X26.here hx rfl (pc0 := 82) (pc' := 86) rfl (hb hby at_82) (by decide) (by decide) ?_
      have err : rr = (1 : Int32) := by rw [hrr, if_pos c28]
      rw [err] at k
      exact k
    · refine XS.icmpYes X26.here hx rfl (pc0 := 78) (pc' := 85) rfl (hb hby at_78) rfl (feq c28).2 (by decide) (by decide) ?_
      refine XS.iconst X26.here hx rfl (hb hby at_85) ?_
      have err : rr = (0 : Int32) := by rw [hrr, if_neg c28]
      rw [err] at k
      exact k
  have hfin : rr = 1 := own_law p1 p2 p3 p4 nn dd lit rr hnn hdd hlit hrr
  obtain ⟨fs, hr, hrun, hended, hW, hsame⟩ := X26.leave (v := some (.int 1)) (fun h => by rw [Bd.returns] at h; cases h)
  refine ⟨_, _, hG _ (pr29 _ ?_), hrun, hended, _, _, rfl, ?_, ⟨_, rfl⟩, hW, hsame.mono (by decide) (by decide)⟩
  · exact retN X26 hx (t := .boolean) Bd.returns (by simp) (hb hby at_86) (by rw [show nar .boolean rr = 1 from (by rw [hfin]; rfl)]; exact hr)
  · show Q0 n0 _ T26.heap _
    rw [eh26]
    exact ⟨rfl, N26⟩
set_option maxRecDepth 65536 in
set_option maxHeartbeats 40000000 in
theorem comes_1 {Post : Tables → Env → Array Value → State → Outcome → State → Prop} (hpost : ∀ tb e args s v u, (limb_1_1.after args s (.returned v) u = true ∧ limb_1_2.after args s (.returned v) u = true ∧ True) → FrameEnd s (.returned v) u (Jvm.fieldLocs frame_1_writes args s ++ Jvm.arrayLocs frame_1_arrays args s ++ Jvm.staticLocs frame_1_statics s) 0 0 → Post tb e args s (.returned v) u) :
    ArmFor flags0 classFile x code maxLocals ret World_1 tables_1 room_1 Calls_1 rest_1 Pre_1 Post := by
  intro l hfl _ _ p e ha hc hk s m args below hf hA hF happ hP
  obtain ⟨hcalls, hrest, hpre⟩ := hP
  obtain ⟨-, -, -, hnamed, -, -, -, hat⟩ := (Spec.applies_iff hf).mp happ
  obtain ⟨hg, hn⟩ := and_e (Cond.before_iff.mp (show (Jvm.Cond.and given_1 narrow_1).before args s = true from hpre))
  obtain ⟨hcount, g0⟩ := and_e hg
  obtain ⟨ga0, g1⟩ := and_e g0
  obtain ⟨ga1, g2⟩ := and_e g1
  obtain ⟨ga2, g3⟩ := and_e g2
  have ga3 := g3
  obtain ⟨w0, w1, w2, w3, rfl⟩ : ∃ w0 w1 w2 w3 : Value, args = #[w0, w1, w2, w3] := by
    have hs : args.size = 4 := by simpa [Cond.value, given_1] using hcount
    obtain ⟨L⟩ := args
    match L, hs with
    | [w0, w1, w2, w3], _ => exact ⟨w0, w1, w2, w3, rfl⟩
  have hw := fun d (hd : d ∈ tables_1) => atoms_spec (ws := Jvm.Cond.code x code maxLocals ret :: tables_1) hat d (List.mem_cons_of_mem _ hd)
  obtain ⟨i0, ei0⟩ := is_v ga0
  obtain rfl : w0 = (.int i0) := Option.some.inj ei0
  obtain ⟨i1, ei1⟩ := is_v ga1
  obtain rfl : w1 = (.int i1) := Option.some.inj ei1
  obtain ⟨i2, ei2⟩ := is_v ga2
  obtain rfl : w2 = (.int i2) := Option.some.inj ei2
  obtain ⟨i3, ei3⟩ := is_v ga3
  obtain rfl : w3 = (.int i3) := Option.some.inj ei3
  obtain ⟨n, o, h1, h2, h3, _, L, rfl, ⟨rfl, N⟩, hq⟩ := rm0 l s _ hw tables_1 i0 i1 i2 i3  s.heap s.heap.size (Nat.le_refl _)  p e ha hc hk s m _ below hf ((Spec.applies_iff_loose hf).mp happ).1 ⟨rfl, State.Warmed39.refl s, rfl⟩ trivial
  refine ⟨n, _, h1, h2, h3, hpost _ _ _ _ _ _ ⟨Cond.after_iff.mpr rfl, Cond.after_iff.mpr (eq_i res_at (Term.int_eval (1)) rfl), trivial⟩ ⟨hq.1, hq.2.1, (hq.2.2.sift fun y hy => Or.inr (N y hy)).mono (by decide) (by decide)⟩⟩
theorem main_1_1 : Claimed_1_1 := comes_1 fun _ _ _ _ _ _ h hF => ⟨h.1, hF⟩
theorem main_1_2 : Claimed_1_2 := comes_1 fun _ _ _ _ _ _ h hF => ⟨h.2.1, hF⟩
end Jvm.Pilot.@@N@@
namespace Jvm.Pilot.@@N@@
open Jvm Jvm.ClassFile Sem Op Lib Jvm.Free Jvm.Stand Jvm.Pilot.@@N@@.Jvm.D
/-! MADE BY PROGRAM (witnessworld.py) out of the Statement's table words and the real class files: 10 classes; the members and pool entries that the words name. The judged class is class 1, her method 2. -/
namespace start1
open Jvm.ClassFile
def u (s : String) : CpInfo := .utf8 (stringToUtf16 s)
/-- a pool by its gaps: so many unusable entries, then the entry; so many at the end -/
def gap : Nat → List CpInfo → List CpInfo
  | 0, r => r
  | n + 1, r => .unusable :: gap n r
def poolList (es : List (Nat × CpInfo)) (last : Nat) : List CpInfo := es.foldr (fun e r => gap e.1 (e.2 :: r)) (gap last [])
def pool (es : List (Nat × CpInfo)) (last : Nat) : Array CpInfo := ⟨poolList es last⟩
def fileOf (pool : Array CpInfo) (this : Nat) (attrs : Array Attribute := #[]) (ms : Array MethodInfo := #[]) (fl : Nat := 33) (sup : Nat := 0) (ifs : Array Nat := #[]) (fds : Array FieldInfo := #[]) : ClassFile where
  minorVersion := 0
  majorVersion := 65
  constantPool := pool
  accessFlags := fl
  thisClass := this
  superClass := sup
  interfaces := ifs
  fields := fds
  methods := ms
  attributes := attrs
def plain (name : String) (sup : Option ClassId) : Class where
  name := name
  kind := .ordinary
  loader := none
  accessFlags := 33
  super := sup
  interfaces := #[]
  cf := none
  fields := #[]
  methods := #[]
  instanceTypes := #[]
  staticTypes := #[]
  resolved := #[]
  callSites := []
  init := .initialized
  statics := none
  mirror := none

def pool0 : Array CpInfo := pool [(5, u "<init>"), (0, u "()V"), (1, .class_ 10), (1, u "java/lang/Object")] 113

def k0m0 : Method := { name := "<init>", desc := "()V", sig := { parameters := [], returnType := none }, accessFlags := 1, code := none }
/-- java/lang/Object -/
def k0 : Class := { plain "java/lang/Object" none with
  accessFlags := 33
  interfaces := #[]
  cf := some (fileOf pool0 8 #[] #[{ accessFlags := 1, nameIndex := 5, descriptorIndex := 6, attributes := #[] }] 33 0 #[] #[])
  fields := #[]
  methods := #[k0m0]
  instanceTypes := #[]
  staticTypes := #[]
  resolved := Array.replicate 124 none
  statics := none }

def pool1 : Array CpInfo := pool [(2, .class_ 4), (1, u "java/lang/Object"), (0, u "<init>"), (0, u "()V"), (0, .integer 2147483647), (0, .methodref 9 10), (0, .class_ 11), (0, .nameAndType 12 13), (0, u "com/example/meerkat/meerkat/model/Cnf"), (0, u "namesVariable"), (0, u "(II)Z"), (0, .methodref 15 16), (0, .class_ 17), (0, .nameAndType 18 13), (0, u "com/example/meerkat/meerkat/model/CnfNamesVariablePinLaw"), (0, u "expected"), (3, u "law"), (0, u "(IIII)Z")] 2

def k1m0 : Method := { name := "<init>", desc := "()V", sig := { parameters := [], returnType := none }, accessFlags := 2, code := none }
def k1c1 : Code := { maxStack := 4, maxLocals := 4, code := method_2_code, exceptionTable := #[], attributes := #[] }
def k1m1 : Method := { name := "expected", desc := "(II)Z", sig := { parameters := [.int, .int], returnType := some .boolean }, accessFlags := 10, code := some k1c1 }
def k1c2 : Code := { maxStack := 3, maxLocals := 8, code := code, exceptionTable := #[], attributes := #[] }
def k1m2 : Method := { name := "law", desc := "(IIII)Z", sig := { parameters := [.int, .int, .int, .int], returnType := some .boolean }, accessFlags := 9, code := some k1c2 }
/-- com/example/meerkat/meerkat/model/CnfNamesVariablePinLaw -/
def k1 : Class := { plain "com/example/meerkat/meerkat/model/CnfNamesVariablePinLaw" (some 0) with
  accessFlags := 49
  interfaces := #[]
  cf := some (fileOf pool1 15 #[] #[{ accessFlags := 2, nameIndex := 5, descriptorIndex := 6, attributes := #[] }, { accessFlags := 10, nameIndex := 18, descriptorIndex := 13, attributes := #[] }, { accessFlags := 9, nameIndex := 22, descriptorIndex := 23, attributes := #[] }] 49 2 #[] #[])
  fields := #[]
  methods := #[k1m0, k1m1, k1m2]
  instanceTypes := #[]
  staticTypes := #[]
  resolved := Array.replicate 26 none
  statics := none }

def pool2 : Array CpInfo := pool [(2, .class_ 4), (1, u "java/lang/Object"), (0, u "<init>"), (0, u "()V"), (0, .class_ 8), (0, u "java/lang/Record")] 13

def k2m0 : Method := { name := "<init>", desc := "()V", sig := { parameters := [], returnType := none }, accessFlags := 4, code := none }
/-- java/lang/Record -/
def k2 : Class := { plain "java/lang/Record" (some 0) with
  accessFlags := 1057
  interfaces := #[]
  cf := some (fileOf pool2 7 #[] #[{ accessFlags := 4, nameIndex := 5, descriptorIndex := 6, attributes := #[] }] 1057 2 #[] #[])
  fields := #[]
  methods := #[k2m0]
  instanceTypes := #[]
  staticTypes := #[]
  resolved := Array.replicate 22 none
  statics := none }

def pool3 : Array CpInfo := pool [(2, .class_ 4), (1, u "java/lang/Record"), (31, .class_ 37), (0, u "com/example/meerkat/meerkat/model/Cnf$Clause"), (11, .class_ 51), (1, u "com/example/meerkat/meerkat/model/Cnf"), (0, u "namesVariable"), (0, u "(II)Z"), (5, u "variableCount"), (0, u "I"), (2, u "clauses"), (0, u "Ljava/util/List;")] 56

def k3c0 : Code := { maxStack := 2, maxLocals := 2, code := prog_23_method_2_code, exceptionTable := #[], attributes := #[] }
def k3m0 : Method := { name := "namesVariable", desc := "(II)Z", sig := { parameters := [.int, .int], returnType := some .boolean }, accessFlags := 9, code := some k3c0 }
/-- com/example/meerkat/meerkat/model/Cnf -/
def k3 : Class := { plain "com/example/meerkat/meerkat/model/Cnf" (some 2) with
  accessFlags := 49
  interfaces := #[]
  cf := some (fileOf pool3 49 #[.nestMembers #[36]] #[{ accessFlags := 9, nameIndex := 52, descriptorIndex := 53, attributes := #[] }] 49 2 #[] #[{ accessFlags := 18, nameIndex := 59, descriptorIndex := 60, attributes := #[] }, { accessFlags := 18, nameIndex := 63, descriptorIndex := 64, attributes := #[] }])
  fields := #[{ name := "variableCount", type := .int, accessFlags := 18, slot := 0, constantValue := 0 }, { name := "clauses", type := (.object "java/util/List"), accessFlags := 18, slot := 1, constantValue := 0 }]
  methods := #[k3m0]
  instanceTypes := #[.int, (.object "java/util/List")]
  staticTypes := #[]
  resolved := Array.replicate 121 none
  statics := none }

def pool4 : Array CpInfo := pool [(1, u "java/lang/Cloneable"), (0, .class_ 1), (0, u "java/lang/Object"), (0, .class_ 3)] 3

/-- java/lang/Cloneable -/
def k4 : Class := { plain "java/lang/Cloneable" (some 0) with
  accessFlags := 1537
  interfaces := #[]
  cf := some (fileOf pool4 2 #[] #[] 1537 4 #[] #[])
  fields := #[]
  methods := #[]
  instanceTypes := #[]
  staticTypes := #[]
  resolved := Array.replicate 8 none
  statics := none }

def pool5 : Array CpInfo := pool [(1, u "java/io/Serializable"), (0, .class_ 1), (0, u "java/lang/Object"), (0, .class_ 3)] 3

/-- java/io/Serializable -/
def k5 : Class := { plain "java/io/Serializable" (some 0) with
  accessFlags := 1537
  interfaces := #[]
  cf := some (fileOf pool5 2 #[] #[] 1537 4 #[] #[])
  fields := #[]
  methods := #[]
  instanceTypes := #[]
  staticTypes := #[]
  resolved := Array.replicate 8 none
  statics := none }

/-- the primitive byte -/
def k6 : Class := { plain "byte" none with kind := .primitive 'B', accessFlags := 0x411 }
/-- [B -/
def k7 : Class := { plain "[B" (some 0) with kind := .array 6 .byte, interfaces := #[4, 5], accessFlags := 1041 }

/-- the primitive int -/
def k8 : Class := { plain "int" none with kind := .primitive 'I', accessFlags := 0x411 }
/-- [I -/
def k9 : Class := { plain "[I" (some 0) with kind := .array 8 .int, interfaces := #[4, 5], accessFlags := 1041 }

def heap : Heap := #[]
def classes : Array Class := #[k0, k1, k2, k3, k4, k5, k6, k7, k8, k9]
def interned : List (Array UInt16 × Addr) := []
def slotsUsed : Nat := 0
def theMethod : MethodId := ⟨1, 2⟩
def args0 : Array Value := #[.int 5, .int 6, .int 7, .int 8]
def aboutOver (below : List Frame) : State where
  vm := { classes := classes, interned := interned.toArray }
  heap := heap
  slotsUsed := slotsUsed
  threads := #[{ frames := .invoking theMethod args0 :: below }]
def below0 : List Frame := [.native { method := ⟨0, 0⟩, args := #[] }]
def about1 : State := aboutOver below0
def p0 : Program := .bare "" "" ""
def e0 : Env := launch0.env 0 0 0
theorem w_frames : about1.frames = Frame.invoking theMethod args0 :: below0 := rfl
set_option maxRecDepth 65536 in
theorem w_args : argsFit about1.vm theMethod args0 = true := by decide +kernel
set_option maxRecDepth 65536 in
theorem w_heap : heapFits about1 = true := by decide +kernel
set_option maxRecDepth 65536 in
theorem w_runnable : about1.curStatus? = some .runnable := by decide +kernel
set_option maxRecDepth 65536 in
theorem w_alone : about1.alone = true := by decide +kernel
set_option maxRecDepth 65536 in
theorem w_named : about1.methodNamed? x = some theMethod := by decide +kernel
set_option maxRecDepth 65536 in
theorem w_hears : about1.hears theMethod below0 = true := by decide +kernel
set_option maxRecDepth 65536 in
theorem w_ripe : about1.ripe theMethod args0 below0 = true := by decide +kernel
theorem w_running : about1.status = .running := rfl
set_option maxRecDepth 65536 in
theorem w_room : about1.hasRoom e0.platform room_1 = true :=
  launch0.hasRoom_least _ room_1 (by decide +kernel) (by decide +kernel) (by decide +kernel) (by decide +kernel) (by decide +kernel) (by decide +kernel)
theorem allAtoms_all (ts : List Jvm.Cond) (a : Array Jvm.Value) (st : Jvm.State) : (allAtoms ts).before a st = ts.all (fun c => c.before a st) := by
  induction ts with
  | nil => rfl
  | cons c t ih =>
    show (Jvm.Cond.and c (allAtoms t)).before a st = _
    rw [Jvm.Cond.before_and, ih, List.all_cons]
def words1 : List Jvm.Cond := Jvm.Cond.code x code maxLocals ret :: tables_1
/-- a 'code' word, met by the world's own term for the bytes: nothing is compared byte by byte -/
theorem code_word {y : MethodName} {bytes : ByteArray} {mx : Nat} {rt : Option FieldType} {a : Array Value} {s : State} {m : MethodId} {meth : Method} {c : Code} (h1 : s.methodNamed? y = some m) (h2 : s.vm.method? m = some meth) (h3 : meth.code = some c) (h4 : c.code = bytes)
    (h5 : (c.maxLocals == mx && c.exceptionTable.isEmpty && decide (c.maxStack ≤ mostOperands) && decide (meth.sig.returnType = rt) && !meth.locks && decide (parseMethodDescriptor y.desc = some meth.sig)) = true) : (Jvm.Cond.code y bytes mx rt).before a s = true := by
  simp only [Bool.and_eq_true, beq_iff_eq, Bool.not_eq_true', decide_eq_true_eq] at h5
  obtain ⟨⟨⟨⟨⟨g1, g2⟩, g3⟩, g4⟩, g5⟩, g6⟩ := h5
  simp [Cond.before, Cond.holds, Cond.value, h1, h2, h3, h4, g1, g2, g3, g4, g5, g6]
def isCode : Jvm.Cond → Bool
  | .code _ _ _ _ => true
  | _ => false
theorem all_split {L : List Jvm.Cond} {P : Jvm.Cond → Bool} (h1 : L.all (fun c => isCode c || P c) = true) (h2 : ∀ c ∈ L.filter isCode, P c = true) : L.all P = true := by
  refine List.all_eq_true.mpr fun c hc => ?_
  have h := List.all_eq_true.mp h1 c hc
  rcases Bool.eq_false_or_eq_true (isCode c) with hi | hi
  · exact h2 c (List.mem_filter.mpr ⟨hc, hi⟩)
  · simpa [hi] using h
set_option maxRecDepth 65536 in
theorem w_c0 : (Jvm.Cond.code x code maxLocals ret).before args0 about1 = true := code_word (m := ⟨1, 2⟩) (meth := k1m2) (c := k1c2) (by decide +kernel) rfl rfl rfl (by decide +kernel)
set_option maxRecDepth 65536 in
theorem w_c1 : (Jvm.Cond.code ({ cls := "com/example/meerkat/meerkat/model/Cnf", name := "namesVariable", desc := "(II)Z" } : Jvm.MethodName) prog_23_method_2_code (2 : Nat) (Option.some Jvm.ClassFile.FieldType.boolean)).before args0 about1 = true := code_word (m := ⟨3, 0⟩) (meth := k3m0) (c := k3c0) (by decide +kernel) rfl rfl rfl (by decide +kernel)
set_option maxRecDepth 65536 in
theorem w_c2 : (Jvm.Cond.code ({ cls := "com/example/meerkat/meerkat/model/CnfNamesVariablePinLaw", name := "expected", desc := "(II)Z" } : Jvm.MethodName) method_2_code (4 : Nat) (Option.some Jvm.ClassFile.FieldType.boolean)).before args0 about1 = true := code_word (m := ⟨1, 1⟩) (meth := k1m1) (c := k1c1) (by decide +kernel) rfl rfl rfl (by decide +kernel)
def codes1 : List Jvm.Cond := [Jvm.Cond.code x code maxLocals ret, Jvm.Cond.code ({ cls := "com/example/meerkat/meerkat/model/Cnf", name := "namesVariable", desc := "(II)Z" } : Jvm.MethodName) prog_23_method_2_code (2 : Nat) (Option.some Jvm.ClassFile.FieldType.boolean), Jvm.Cond.code ({ cls := "com/example/meerkat/meerkat/model/CnfNamesVariablePinLaw", name := "expected", desc := "(II)Z" } : Jvm.MethodName) method_2_code (4 : Nat) (Option.some Jvm.ClassFile.FieldType.boolean)]
set_option maxRecDepth 65536 in
theorem codes_eq : words1.filter isCode = codes1 := rfl
theorem w_codes : ∀ c ∈ words1.filter isCode, c.before args0 about1 = true := by
  rw [codes_eq]
  intro c hc
  simp only [codes1, List.mem_cons, List.not_mem_nil, or_false] at hc
  rcases hc with rfl | rfl | rfl
  · exact w_c0
  · exact w_c1
  · exact w_c2
set_option maxRecDepth 65536 in
theorem w_t1 : words1.all (fun c => isCode c || c.before args0 about1) = true := by decide +kernel
theorem w_tables : (allAtoms (Jvm.Cond.code x code maxLocals ret :: tables_1)).before args0 about1 = true := by
  rw [allAtoms_all]
  show words1.all (fun c => c.before args0 about1) = true
  refine all_split ?_ w_codes
  rw [w_t1]
set_option maxRecDepth 65536 in
theorem w_case : (Jvm.Cond.and given_1 narrow_1).before args0 about1 = true := by decide +kernel
theorem w_applies : (headSpec (Jvm.Cond.code x code maxLocals ret :: tables_1) room_1).applies x e0.platform about1 = true :=
  (Spec.applies_iff w_frames).mpr ⟨w_running, w_runnable, w_alone, w_named, w_hears, w_ripe, w_room, w_tables⟩
theorem atStart : AtStart classFile x code maxLocals ret World_1 tables_1 room_1 Calls_1 rest_1 Pre_1 launch0 p0 e0 about1 theMethod args0 below0 :=
  ⟨lists_1, trivial, launch0.admits_env _ _ _, launch0.least_env, fairChoices_fair.cas, fairChoices_fair.clock, w_frames, w_args, w_heap, w_applies, trivial, trivial, w_case⟩
end start1
theorem witness_1 : WitnessClaimed_1 := ⟨start1.p0, start1.e0, start1.about1, start1.theMethod, start1.args0, start1.below0, start1.atStart⟩
end Jvm.Pilot.@@N@@
