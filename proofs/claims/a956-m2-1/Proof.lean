import JvmDerived
import JvmDerived.Pilot.@@N@@Statement
import JvmDerived.Pilot.@@N@@Code
set_option linter.unusedVariables false
set_option linter.unusedSimpArgs false
namespace Jvm.RoadKit
open Sem ClassFile Op Lib Jvm.Stand Jvm.Free Jvm.LawKit
section New
variable {p : Program} {l : Launch} {e : Env} {R : Room} {s : State} {m : MethodId} {args : Array Value} {below : List Frame} {meth : Method} {c : Code} {T : State} {locs : List Loc} {cells slots : Nat}
theorem retI (X : Stand p l e R s m args below meth c T locs cells slots) (hx : p.tables.exec = Jvm.exec) {pc : Nat} {Ls : Array Slot} {z : Int32} {rest : List Value} (hret : meth.sig.returnType = some .int) (hd : decode c.code pc = .ok (.ireturn, 1)) {fs : List Frame}
    (hl : ∀ (f : JFrame) (acts : List Action), f.method = m → f.locked = none → f.entered = [] → (doReturn e (T.setTop f) acts (some (.int z))).1 = T.setFrames fs) : Steps p.tables e below (T.setTop (mkF m pc Ls (.int z :: rest))) (T.setFrames fs) := by
  have hm' : T.vm.method? m = some meth := X.method'
  have hn : narrow .int (.int z) = .int z := rfl
  show Steps p.tables e below (T.setTop { method := m, pc := pc, locals := Ls, stack := _ :: rest, locked := none }) _
  jvm_step X.here [X.here.top, hx, hd, hm', hret, hn]
  first | (intro acts; rw [hl _ acts rfl rfl rfl]) | rw [hl _ _ rfl rfl rfl]
  exact Steps.refl _
end New
end Jvm.RoadKit
namespace Jvm.Pilot.@@N@@
open Jvm Jvm.ClassFile Sem Op Lib Jvm.Free Jvm.Stand Jvm.LawKit Jvm.RoadKit Bundle Jvm.Pilot.@@N@@.Jvm.D
theorem own_ite01 {c : Prop} [Decidable c] {a b : Int32} (ha : a = 0 ∨ a = 1) (hb : b = 0 ∨ b = 1) : (if c then a else b) = 0 ∨ (if c then a else b) = 1 := by split <;> assumption
theorem own_nz {r : Int32} (h : r = 0 ∨ r = 1) : nar .boolean r = r := by rcases h with rfl | rfl <;> rfl
section own
variable {p : Program} {l : Launch} {e : Env} {R : Room} {s : State} {m : MethodId} {args : Array Value} {below : List Frame} {meth : Method} {c : Code} {T : State} {locs : List Loc} {cells slots : Nat} {Z : State} {h h' h0 : Heap} {a b : Addr} {k : ClassId} {ty : FieldType} {n : Int32} {vs : List Int32} {ls : List Int64} {sl : Nat} {v : Value} {ws : List Addr}
/-- an array of ints (or bytes, chars, shorts, booleans), by its list -/
def IA (Z : State) (h : Heap) (a : Addr) (k : ClassId) (ty : FieldType) (n : Int32) (vs : List Int32) : Prop := Arv Z h a k ty n (vs.map Value.int) (.int 0) ∧ vs.length = n.toNatClampNeg
def LA (Z : State) (h : Heap) (a : Addr) (k : ClassId) (n : Int32) (ls : List Int64) : Prop := Arv Z h a k .long n (ls.map Value.long) (.long 0) ∧ ls.length = n.toNatClampNeg
theorem IA.lt (F : IA Z h a k ty n vs) : a < h.size := F.1.lt
theorem IA.ext (F : IA Z h a k ty n vs) (E : Ext h h') : IA Z h' a k ty n vs := ⟨F.1.ext E, F.2⟩
theorem IA.other (F : IA Z h b k ty n vs) (W : Wr h h' a sl v) (q : b ≠ a) : IA Z h' b k ty n vs := ⟨F.1.other W q, F.2⟩
theorem IA.keep (F : IA Z h a k ty n vs) (K : Keep h h' ws) (q : a ∉ ws) : IA Z h' a k ty n vs := ⟨F.1.keep K q, F.2⟩
theorem LA.lt (F : LA Z h a k n ls) : a < h.size := F.1.lt
theorem LA.ext (F : LA Z h a k n ls) (E : Ext h h') : LA Z h' a k n ls := ⟨F.1.ext E, F.2⟩
theorem LA.other (F : LA Z h b k n ls) (W : Wr h h' a sl v) (q : b ≠ a) : LA Z h' b k n ls := ⟨F.1.other W q, F.2⟩
theorem LA.keep (F : LA Z h a k n ls) (K : Keep h h' ws) (q : a ∉ ws) : LA Z h' a k n ls := ⟨F.1.keep K q, F.2⟩
theorem IA.new (A : Arr Z h a (newA k ty n) ty) (q : ¬ n < 0) (hd : defaultValue ty = .int 0) {c : Nat} (hc : n.toNatClampNeg = c) : IA Z h a k ty n (List.replicate c 0) := by
  refine ⟨?_, by rw [List.length_replicate, hc]⟩
  have F := Arv.new A q
  rw [hd] at F
  rw [List.map_replicate]
  exact F.pad (pad_rep [] (.int 0) c)
theorem LA.new (A : Arr Z h a (newA k .long n) .long) (q : ¬ n < 0) {c : Nat} (hc : n.toNatClampNeg = c) : LA Z h a k n (List.replicate c 0) := by
  refine ⟨?_, by rw [List.length_replicate, hc]⟩
  have F : Arv Z h a k .long n [] (.long 0) := Arv.new A q
  rw [List.map_replicate]
  exact F.pad (pad_rep [] (.long 0) c)
theorem own_getI (vs : List Int32) (i : Nat) : (vs.map Value.int).getD i (.int 0) = .int (vs.getD i 0) := by
  simp only [List.getD_eq_getElem?_getD, List.getElem?_map]; cases vs[i]? <;> rfl
theorem own_getL (vs : List Int64) (i : Nat) : (vs.map Value.long).getD i (.long 0) = .long (vs.getD i 0) := by
  simp only [List.getD_eq_getElem?_getD, List.getElem?_map]; cases vs[i]? <;> rfl
theorem IA.inb {cl : Cell} {j : Int32} {i : Nat} (S : cl.slots.size = n.toNatClampNeg) (hl : vs.length = n.toNatClampNeg) (hj : j.toNatClampNeg = i) (hn : ¬ j < 0) (hi : i < vs.length) : ¬ (j < 0 ∨ cl.slots.size ≤ j.toNatClampNeg) := by
  rintro (q | q)
  · exact hn q
  · rw [S, ← hl, hj] at q; omega
theorem LA.inb {cl : Cell} {j : Int32} {i : Nat} (S : cl.slots.size = n.toNatClampNeg) (hl : ls.length = n.toNatClampNeg) (hj : j.toNatClampNeg = i) (hn : ¬ j < 0) (hi : i < ls.length) : ¬ (j < 0 ∨ cl.slots.size ≤ j.toNatClampNeg) := by
  rintro (q | q)
  · exact hn q
  · rw [S, ← hl, hj] at q; omega
theorem IA.at {cl : Cell} {j : Int32} {i : Nat} {w : Int32} (H : Has cl (vs.map Value.int) (.int 0)) (S : cl.slots.size = n.toNatClampNeg) (hl : vs.length = n.toNatClampNeg) (hj : j.toNatClampNeg = i) (hi : i < vs.length) (hw : vs.getD i 0 = w) : cl.slots[j.toNatClampNeg]? = some (.int w) := by
  rw [H _ (by rw [S, ← hl, hj]; exact hi), own_getI, hj, hw]
theorem LA.at {cl : Cell} {j : Int32} {i : Nat} {w : Int64} (H : Has cl (ls.map Value.long) (.long 0)) (S : cl.slots.size = n.toNatClampNeg) (hl : ls.length = n.toNatClampNeg) (hj : j.toNatClampNeg = i) (hi : i < ls.length) (hw : ls.getD i 0 = w) : cl.slots[j.toNatClampNeg]? = some (.long w) := by
  rw [H _ (by rw [S, ← hl, hj]; exact hi), own_getL, hj, hw]
theorem ia_ldI (X : Stand p l e R s m args below meth c T locs cells slots) (hx : p.tables.exec = Jvm.exec) (hZ : Z.Warmed39 s.vm) (eT : T.heap = h) (A : IA Z h a k .int n vs) {j : Int32} (i : Nat) (hj : j.toNatClampNeg = i) (hn : ¬ j < 0) (hi : i < vs.length) {w : Int32} (hw : vs.getD i 0 = w) {g : JFrame} (hg : g.method = m) {rest : List Value} (hs : g.stack = .int j :: .ref a :: rest) (hd : decode c.code g.pc = .ok (.iaload, 1)) (target : State)
    (q : Steps p.tables e below (T.setTop { g with pc := g.pc + 1, stack := .int w :: rest }) target) : Steps p.tables e below (T.setTop g) target := by
  obtain ⟨⟨cl, Ar, -, S, -, H, -⟩, hl⟩ := A
  exact X.iaload hx (by rw [eT]; exact Ar.1) (State.isArrayOf_alike hZ.alike Ar.2.1) Ar.2.2 (IA.inb S hl hj hn hi) (IA.at H S hl hj hi hw) hg hs hd target q
theorem ia_ldC (X : Stand p l e R s m args below meth c T locs cells slots) (hx : p.tables.exec = Jvm.exec) (hZ : Z.Warmed39 s.vm) (eT : T.heap = h) (A : IA Z h a k .char n vs) {j : Int32} (i : Nat) (hj : j.toNatClampNeg = i) (hn : ¬ j < 0) (hi : i < vs.length) {w : Int32} (hw : vs.getD i 0 = w) {g : JFrame} (hg : g.method = m) {rest : List Value} (hs : g.stack = .int j :: .ref a :: rest) (hd : decode c.code g.pc = .ok (.caload, 1)) (target : State)
    (q : Steps p.tables e below (T.setTop { g with pc := g.pc + 1, stack := .int w :: rest }) target) : Steps p.tables e below (T.setTop g) target := by
  obtain ⟨⟨cl, Ar, -, S, -, H, -⟩, hl⟩ := A
  exact X.caload hx (by rw [eT]; exact Ar.1) (State.isArrayOf_alike hZ.alike Ar.2.1) Ar.2.2 (IA.inb S hl hj hn hi) (IA.at H S hl hj hi hw) hg hs hd target q
theorem ia_ldS (X : Stand p l e R s m args below meth c T locs cells slots) (hx : p.tables.exec = Jvm.exec) (hZ : Z.Warmed39 s.vm) (eT : T.heap = h) (A : IA Z h a k .short n vs) {j : Int32} (i : Nat) (hj : j.toNatClampNeg = i) (hn : ¬ j < 0) (hi : i < vs.length) {w : Int32} (hw : vs.getD i 0 = w) {g : JFrame} (hg : g.method = m) {rest : List Value} (hs : g.stack = .int j :: .ref a :: rest) (hd : decode c.code g.pc = .ok (.saload, 1)) (target : State)
    (q : Steps p.tables e below (T.setTop { g with pc := g.pc + 1, stack := .int w :: rest }) target) : Steps p.tables e below (T.setTop g) target := by
  obtain ⟨⟨cl, Ar, -, S, -, H, -⟩, hl⟩ := A
  exact X.saload hx (by rw [eT]; exact Ar.1) (State.isArrayOf_alike hZ.alike Ar.2.1) Ar.2.2 (IA.inb S hl hj hn hi) (IA.at H S hl hj hi hw) hg hs hd target q
theorem ia_ldB (X : Stand p l e R s m args below meth c T locs cells slots) (hx : p.tables.exec = Jvm.exec) (hZ : Z.Warmed39 s.vm) (eT : T.heap = h) (A : IA Z h a k .byte n vs) {j : Int32} (i : Nat) (hj : j.toNatClampNeg = i) (hn : ¬ j < 0) (hi : i < vs.length) {w : Int32} (hw : vs.getD i 0 = w) {g : JFrame} (hg : g.method = m) {rest : List Value} (hs : g.stack = .int j :: .ref a :: rest) (hd : decode c.code g.pc = .ok (.baload, 1)) (target : State)
    (q : Steps p.tables e below (T.setTop { g with pc := g.pc + 1, stack := .int w :: rest }) target) : Steps p.tables e below (T.setTop g) target := by
  obtain ⟨⟨cl, Ar, -, S, -, H, -⟩, hl⟩ := A
  exact X.baloadBytes hx (by rw [eT]; exact Ar.1) (State.isArrayOf_alike hZ.alike Ar.2.1) Ar.2.2 (IA.inb S hl hj hn hi) (IA.at H S hl hj hi hw) hg hs hd target q
theorem ia_ldZ (X : Stand p l e R s m args below meth c T locs cells slots) (hx : p.tables.exec = Jvm.exec) (hZ : Z.Warmed39 s.vm) (eT : T.heap = h) (A : IA Z h a k .boolean n vs) {j : Int32} (i : Nat) (hj : j.toNatClampNeg = i) (hn : ¬ j < 0) (hi : i < vs.length) {w : Int32} (hw : vs.getD i 0 = w) {g : JFrame} (hg : g.method = m) {rest : List Value} (hs : g.stack = .int j :: .ref a :: rest) (hd : decode c.code g.pc = .ok (.baload, 1)) (target : State)
    (q : Steps p.tables e below (T.setTop { g with pc := g.pc + 1, stack := .int w :: rest }) target) : Steps p.tables e below (T.setTop g) target := by
  obtain ⟨⟨cl, Ar, -, S, -, H, -⟩, hl⟩ := A
  exact X.baloadBooleans hx (by rw [eT]; exact Ar.1) (State.isArrayOf_alike hZ.alike Ar.2.1) Ar.2.2 (IA.inb S hl hj hn hi) (IA.at H S hl hj hi hw) hg hs hd target q
theorem la_ldJ (X : Stand p l e R s m args below meth c T locs cells slots) (hx : p.tables.exec = Jvm.exec) (hZ : Z.Warmed39 s.vm) (eT : T.heap = h) (A : LA Z h a k n ls) {j : Int32} (i : Nat) (hj : j.toNatClampNeg = i) (hn : ¬ j < 0) (hi : i < ls.length) {w : Int64} (hw : ls.getD i 0 = w) {g : JFrame} (hg : g.method = m) {rest : List Value} (hs : g.stack = .int j :: .ref a :: rest) (hd : decode c.code g.pc = .ok (.laload, 1)) (target : State)
    (q : Steps p.tables e below (T.setTop { g with pc := g.pc + 1, stack := .long w :: rest }) target) : Steps p.tables e below (T.setTop g) target := by
  obtain ⟨⟨cl, Ar, -, S, -, H, -⟩, hl⟩ := A
  exact X.laload hx (by rw [eT]; exact Ar.1) (State.isArrayOf_alike hZ.alike Ar.2.1) Ar.2.2 (LA.inb S hl hj hn hi) (LA.at H S hl hj hi hw) hg hs hd target q
theorem ia_len (X : Stand p l e R s m args below meth c T locs cells slots) (hx : p.tables.exec = Jvm.exec) (hZ : Z.Warmed39 s.vm) (eT : T.heap = h) (A : IA Z h a k ty n vs) {g : JFrame} (hg : g.method = m) {rest : List Value} (hs : g.stack = .ref a :: rest) (hd : decode c.code g.pc = .ok (.arraylength, 1)) (target : State)
    (q : Steps p.tables e below (T.setTop { g with pc := g.pc + 1, stack := .int n :: rest }) target) : Steps p.tables e below (T.setTop g) target := by
  obtain ⟨⟨cl, Ar, -, S, N, H, -⟩, hl⟩ := A
  refine X.arraylength hx (by rw [eT]; exact Ar.1) (State.isArrayOf_alike hZ.alike Ar.2.1) hg hs hd target ?_
  rw [len_of S N]; exact q
theorem la_len (X : Stand p l e R s m args below meth c T locs cells slots) (hx : p.tables.exec = Jvm.exec) (hZ : Z.Warmed39 s.vm) (eT : T.heap = h) (A : LA Z h a k n ls) {g : JFrame} (hg : g.method = m) {rest : List Value} (hs : g.stack = .ref a :: rest) (hd : decode c.code g.pc = .ok (.arraylength, 1)) (target : State)
    (q : Steps p.tables e below (T.setTop { g with pc := g.pc + 1, stack := .int n :: rest }) target) : Steps p.tables e below (T.setTop g) target := by
  obtain ⟨⟨cl, Ar, -, S, N, H, -⟩, hl⟩ := A
  refine X.arraylength hx (by rw [eT]; exact Ar.1) (State.isArrayOf_alike hZ.alike Ar.2.1) hg hs hd target ?_
  rw [len_of S N]; exact q
theorem IA.put {cl : Cell} {j : Int32} {i : Nat} {y : Int32} (Ar : Arr Z h a cl ty) (q1 : cl.cls = k) (S : cl.slots.size = n.toNatClampNeg) (N : ¬ n < 0) (H : Has cl (vs.map Value.int) (.int 0)) (G : ∀ i, i < cl.slots.size → fits ty ((vs.map Value.int).getD i (.int 0)) = true) (hl : vs.length = n.toNatClampNeg) (hv : fits ty (.int y) = true) (W : Wr h h' a j.toNatClampNeg (.int y)) (hj : j.toNatClampNeg = i) (hi : i < vs.length) : IA Z h' a k ty n (vs.set i y) := by
  refine ⟨?_, by rw [List.length_set]; exact hl⟩
  have := Arv.set Ar q1 S N H G hv W i hj (by rw [List.length_map]; exact hi)
  rwa [← List.map_set] at this
theorem LA.put {cl : Cell} {j : Int32} {i : Nat} {y : Int64} (Ar : Arr Z h a cl .long) (q1 : cl.cls = k) (S : cl.slots.size = n.toNatClampNeg) (N : ¬ n < 0) (H : Has cl (ls.map Value.long) (.long 0)) (G : ∀ i, i < cl.slots.size → fits .long ((ls.map Value.long).getD i (.long 0)) = true) (hl : ls.length = n.toNatClampNeg) (W : Wr h h' a j.toNatClampNeg (.long y)) (hj : j.toNatClampNeg = i) (hi : i < ls.length) : LA Z h' a k n (ls.set i y) := by
  refine ⟨?_, by rw [List.length_set]; exact hl⟩
  have := Arv.set Ar q1 S N H G rfl W i hj (by rw [List.length_map]; exact hi)
  rwa [← List.map_set] at this
theorem ia_stI (X : Stand p l e R s m args below meth c T locs cells slots) (hx : p.tables.exec = Jvm.exec) (hZ : Z.Warmed39 s.vm) (eT : T.heap = h) (A : IA Z h a k .int n vs) {j : Int32} (i : Nat) (hj : j.toNatClampNeg = i) (hn : ¬ j < 0) (hi : i < vs.length) {x : Int32} {g : JFrame} (hg : g.method = m) {rest : List Value} (hs : g.stack = .int x :: .int j :: .ref a :: rest) (hd : decode c.code g.pc = .ok (.iastore, 1)) :
    ∃ T' h', Stand p l e R s m args below meth c T' (locs ++ [⟨a, j.toNatClampNeg⟩]) cells slots ∧ T'.heap = h' ∧ Wr h h' a j.toNatClampNeg (.int x) ∧ IA Z h' a k .int n (vs.set i x) ∧ ∀ target, Steps p.tables e below (T'.setTop { g with pc := g.pc + 1, stack := rest }) target → Steps p.tables e below (T.setTop g) target := by
  obtain ⟨⟨cl, Ar, q1, S, N, H, G⟩, hl⟩ := A
  obtain ⟨T', h', X', e', W, st⟩ := stI X hx hZ eT Ar (IA.inb S hl hj hn hi) hg hs hd
  exact ⟨T', h', X', e', W, IA.put Ar q1 S N H G hl rfl W hj hi, st⟩
theorem la_stJ (X : Stand p l e R s m args below meth c T locs cells slots) (hx : p.tables.exec = Jvm.exec) (hZ : Z.Warmed39 s.vm) (eT : T.heap = h) (A : LA Z h a k n ls) {j : Int32} (i : Nat) (hj : j.toNatClampNeg = i) (hn : ¬ j < 0) (hi : i < ls.length) {x : Int64} {g : JFrame} (hg : g.method = m) {rest : List Value} (hs : g.stack = .long x :: .int j :: .ref a :: rest) (hd : decode c.code g.pc = .ok (.lastore, 1)) :
    ∃ T' h', Stand p l e R s m args below meth c T' (locs ++ [⟨a, j.toNatClampNeg⟩]) cells slots ∧ T'.heap = h' ∧ Wr h h' a j.toNatClampNeg (.long x) ∧ LA Z h' a k n (ls.set i x) ∧ ∀ target, Steps p.tables e below (T'.setTop { g with pc := g.pc + 1, stack := rest }) target → Steps p.tables e below (T.setTop g) target := by
  obtain ⟨⟨cl, Ar, q1, S, N, H, G⟩, hl⟩ := A
  obtain ⟨T', h', X', e', W, st⟩ := stJ X hx hZ eT Ar (LA.inb S hl hj hn hi) hg hs hd
  exact ⟨T', h', X', e', W, LA.put Ar q1 S N H G hl W hj hi, st⟩
theorem ia_stC (X : Stand p l e R s m args below meth c T locs cells slots) (hx : p.tables.exec = Jvm.exec) (hZ : Z.Warmed39 s.vm) (eT : T.heap = h) (A : IA Z h a k .char n vs) {j : Int32} (i : Nat) (hj : j.toNatClampNeg = i) (hn : ¬ j < 0) (hi : i < vs.length) {x y : Int32} (hy : nar .char x = y) {g : JFrame} (hg : g.method = m) {rest : List Value} (hs : g.stack = .int x :: .int j :: .ref a :: rest) (hd : decode c.code g.pc = .ok (.castore, 1)) :
    ∃ T' h', Stand p l e R s m args below meth c T' (locs ++ [⟨a, j.toNatClampNeg⟩]) cells slots ∧ T'.heap = h' ∧ Wr h h' a j.toNatClampNeg (.int y) ∧ IA Z h' a k .char n (vs.set i y) ∧ ∀ target, Steps p.tables e below (T'.setTop { g with pc := g.pc + 1, stack := rest }) target → Steps p.tables e below (T.setTop g) target := by
  subst hy
  obtain ⟨⟨cl, Ar, q1, S, N, H, G⟩, hl⟩ := A
  obtain ⟨T', h', X', e', W, st⟩ := stC X hx hZ eT Ar (IA.inb S hl hj hn hi) hg hs hd
  exact ⟨T', h', X', e', W, IA.put Ar q1 S N H G hl (fits_nar_char _) W hj hi, st⟩
theorem ia_stS (X : Stand p l e R s m args below meth c T locs cells slots) (hx : p.tables.exec = Jvm.exec) (hZ : Z.Warmed39 s.vm) (eT : T.heap = h) (A : IA Z h a k .short n vs) {j : Int32} (i : Nat) (hj : j.toNatClampNeg = i) (hn : ¬ j < 0) (hi : i < vs.length) {x y : Int32} (hy : nar .short x = y) {g : JFrame} (hg : g.method = m) {rest : List Value} (hs : g.stack = .int x :: .int j :: .ref a :: rest) (hd : decode c.code g.pc = .ok (.sastore, 1)) :
    ∃ T' h', Stand p l e R s m args below meth c T' (locs ++ [⟨a, j.toNatClampNeg⟩]) cells slots ∧ T'.heap = h' ∧ Wr h h' a j.toNatClampNeg (.int y) ∧ IA Z h' a k .short n (vs.set i y) ∧ ∀ target, Steps p.tables e below (T'.setTop { g with pc := g.pc + 1, stack := rest }) target → Steps p.tables e below (T.setTop g) target := by
  subst hy
  obtain ⟨⟨cl, Ar, q1, S, N, H, G⟩, hl⟩ := A
  obtain ⟨T', h', X', e', W, st⟩ := stS X hx hZ eT Ar (IA.inb S hl hj hn hi) hg hs hd
  exact ⟨T', h', X', e', W, IA.put Ar q1 S N H G hl (fits_nar_short _) W hj hi, st⟩
theorem ia_stB (X : Stand p l e R s m args below meth c T locs cells slots) (hx : p.tables.exec = Jvm.exec) (hZ : Z.Warmed39 s.vm) (eT : T.heap = h) (A : IA Z h a k .byte n vs) {j : Int32} (i : Nat) (hj : j.toNatClampNeg = i) (hn : ¬ j < 0) (hi : i < vs.length) {x y : Int32} (hy : nar .byte x = y) {g : JFrame} (hg : g.method = m) {rest : List Value} (hs : g.stack = .int x :: .int j :: .ref a :: rest) (hd : decode c.code g.pc = .ok (.bastore, 1)) :
    ∃ T' h', Stand p l e R s m args below meth c T' (locs ++ [⟨a, j.toNatClampNeg⟩]) cells slots ∧ T'.heap = h' ∧ Wr h h' a j.toNatClampNeg (.int y) ∧ IA Z h' a k .byte n (vs.set i y) ∧ ∀ target, Steps p.tables e below (T'.setTop { g with pc := g.pc + 1, stack := rest }) target → Steps p.tables e below (T.setTop g) target := by
  subst hy
  obtain ⟨⟨cl, Ar, q1, S, N, H, G⟩, hl⟩ := A
  obtain ⟨T', h', X', e', W, st⟩ := stB X hx hZ eT Ar (IA.inb S hl hj hn hi) hg hs hd
  exact ⟨T', h', X', e', W, IA.put Ar q1 S N H G hl (fits_nar_byte _) W hj hi, st⟩
theorem ia_stZ (X : Stand p l e R s m args below meth c T locs cells slots) (hx : p.tables.exec = Jvm.exec) (hZ : Z.Warmed39 s.vm) (eT : T.heap = h) (A : IA Z h a k .boolean n vs) {j : Int32} (i : Nat) (hj : j.toNatClampNeg = i) (hn : ¬ j < 0) (hi : i < vs.length) {x y : Int32} (hy : nar .boolean x = y) {g : JFrame} (hg : g.method = m) {rest : List Value} (hs : g.stack = .int x :: .int j :: .ref a :: rest) (hd : decode c.code g.pc = .ok (.bastore, 1)) :
    ∃ T' h', Stand p l e R s m args below meth c T' (locs ++ [⟨a, j.toNatClampNeg⟩]) cells slots ∧ T'.heap = h' ∧ Wr h h' a j.toNatClampNeg (.int y) ∧ IA Z h' a k .boolean n (vs.set i y) ∧ ∀ target, Steps p.tables e below (T'.setTop { g with pc := g.pc + 1, stack := rest }) target → Steps p.tables e below (T.setTop g) target := by
  subst hy
  obtain ⟨⟨cl, Ar, q1, S, N, H, G⟩, hl⟩ := A
  obtain ⟨T', h', X', e', W, st⟩ := stZ X hx hZ eT Ar (IA.inb S hl hj hn hi) hg hs hd
  exact ⟨T', h', X', e', W, IA.put Ar q1 S N H G hl (fits_nar_bool _) W hj hi, st⟩
end own
theorem own_or32 (n : Nat) : n ||| 32 = n + 32 * (1 - n / 32 % 2) := by
  have h1 : ∀ r < 64, r ||| 32 = r + 32 * (1 - r / 32 % 2) := by decide
  have h2 : n = 2 ^ 6 * (n / 64) + n % 64 := by omega
  have h3 : n % 64 < 2 ^ 6 := by omega
  have h4 : n % 64 ||| 32 < 2 ^ 6 := Nat.or_lt_two_pow h3 (by decide)
  have e : n ||| 32 = 2 ^ 6 * (n / 64) + (n % 64 ||| 32) := by
    rw [Nat.two_pow_add_eq_or_of_lt h4, ← Nat.or_assoc, ← Nat.two_pow_add_eq_or_of_lt h3, ← h2]
  have := h1 (n % 64) (by omega)
  omega
theorem own_char (x : Int32) : ∃ n : Nat, n < 65536 ∧ x.toUInt32.toUInt16.toUInt32.toInt32 = Int32.ofNat n := by
  refine ⟨x.toUInt32.toUInt16.toNat, x.toUInt32.toUInt16.toNat_lt, ?_⟩
  apply Int32.toBitVec_inj.mp
  apply BitVec.eq_of_toNat_eq
  show x.toUInt32.toUInt16.toUInt32.toNat = (BitVec.ofNat 32 _).toNat
  have := x.toUInt32.toUInt16.toNat_lt
  rw [BitVec.toNat_ofNat]
  simp only [UInt16.toNat_toUInt32]
  omega
theorem own_orN (a b : Nat) : Int32.ofNat a ||| Int32.ofNat b = Int32.ofNat (a ||| b) := by
  apply Int32.toBitVec_inj.mp
  show BitVec.ofNat 32 a ||| BitVec.ofNat 32 b = BitVec.ofNat 32 (a ||| b)
  apply BitVec.eq_of_toNat_eq
  simp [BitVec.toNat_or, Nat.or_mod_two_pow]
theorem own_tI {n : Nat} (h : n < 2147483648) : (Int32.ofNat n).toInt = n := Int32.toInt_ofNat_of_lt h
theorem own_sub {x y : Int32} (h1 : -2147483648 ≤ x.toInt - y.toInt) (h2 : x.toInt - y.toInt < 2147483648) : (x - y).toInt = x.toInt - y.toInt :=
  (Int32.toInt_sub x y).trans (Int.bmod_eq_of_le (by omega) (by omega))
theorem own_add {x y : Int32} (h1 : -2147483648 ≤ x.toInt + y.toInt) (h2 : x.toInt + y.toInt < 2147483648) : (x + y).toInt = x.toInt + y.toInt :=
  (Int32.toInt_add x y).trans (Int.bmod_eq_of_le (by omega) (by omega))
theorem own_mask31 (x : Int32) : 0 ≤ (x &&& (2147483647 : Int32)).toInt := by
  have h : (x &&& (2147483647 : Int32)).toBitVec.toNat < 2147483648 := by
    rw [Int32.toBitVec_and, BitVec.toNat_and]
    exact Nat.lt_of_le_of_lt Nat.and_le_right (by decide)
  show 0 ≤ (x &&& (2147483647 : Int32)).toBitVec.toInt
  rw [BitVec.toInt_eq_toNat_cond, if_pos (by omega)]
  omega
theorem own_lc1 (x y : Int64) : ((lcmpW x y) < (0 : Int32)) = (x < y) := by
  simp only [lcmpW, gt_iff_lt]
  by_cases h1 : y < x
  · rw [if_pos h1]
    have h2 : ¬ x < y := by rw [Int64.lt_iff_toInt_lt] at *; omega
    simp [h2]
  · rw [if_neg h1]
    by_cases h2 : x = y
    · rw [if_pos h2]; subst h2; simp
    · rw [if_neg h2]
      have h3 : x < y := by rw [← Int64.toInt_inj] at h2; rw [Int64.lt_iff_toInt_lt] at *; omega
      simp [h3]
theorem own_lc2 (x y : Int64) : ((0 : Int32) < (lcmpW x y)) = (y < x) := by
  simp only [lcmpW, gt_iff_lt]
  by_cases h1 : y < x
  · rw [if_pos h1]; simp [h1]
  · rw [if_neg h1]
    by_cases h2 : x = y
    · rw [if_pos h2]; subst h2; simp
    · rw [if_neg h2]; simp [h1]
theorem own_nn {n : Nat} (hn : n < 2147483648) : ¬ Int32.ofNat n < 0 := by
  rw [Int32.lt_iff_toInt_lt, own_tI hn, show (0 : Int32).toInt = 0 from rfl]; omega
theorem own_n32 {n : Nat} (hn : n < 2147483648) : (Int32.ofNat n).toNatClampNeg = n := by
  rw [Int32.toNatClampNeg, own_tI hn]; rfl
theorem own_ofI {x : Int32} (h : 0 ≤ x.toInt) : x = Int32.ofNat x.toInt.toNat := by
  apply Int32.toInt_inj.mp
  have := x.toInt_lt
  rw [own_tI (by omega)]; omega
/-- Java's x % d for x that isn't negative -/
theorem own_rem (x d : Int32) (hx : 0 ≤ x.toInt) (hd : 0 < d.toInt) : (x - (x / d) * d).toInt = x.toInt % d.toInt := by
  have b1 := x.toInt_lt; have b2 := d.toInt_lt
  have hq : (x / d).toInt = x.toInt / d.toInt := by
    rw [Int32.toInt_div, Int.tdiv_eq_ediv_of_nonneg hx]
    have h1 : 0 ≤ x.toInt / d.toInt := Int.ediv_nonneg hx (Int.le_of_lt hd)
    have h2 : x.toInt / d.toInt ≤ x.toInt := Int.ediv_le_self _ hx
    exact Int.bmod_eq_of_le (by omega) (by omega)
  have hm : (x / d * d).toInt = x.toInt / d.toInt * d.toInt := by
    rw [Int32.toInt_mul, hq]
    have h1 : 0 ≤ x.toInt / d.toInt * d.toInt := Int.mul_nonneg (Int.ediv_nonneg hx (Int.le_of_lt hd)) (Int.le_of_lt hd)
    have h2 : x.toInt / d.toInt * d.toInt ≤ x.toInt := Int.ediv_mul_le _ (by omega)
    exact Int.bmod_eq_of_le (by omega) (by omega)
  have h3 := Int.emod_add_mul_ediv x.toInt d.toInt
  rw [Int.mul_comm] at h3
  have h4 := Int.emod_nonneg x.toInt (show d.toInt ≠ 0 by omega)
  have h5 := Int.emod_lt_of_pos x.toInt hd
  rw [own_sub (by omega) (by omega), hm]; omega
theorem d1_0 : decode prog_19_method_7_code 0 = .ok (.aload_n 1, 1) := by decide +kernel
theorem d1_1 : decode prog_19_method_7_code 1 = .ok (.iload_n 0, 1) := by decide +kernel
theorem d1_2 : decode prog_19_method_7_code 2 = .ok (.invokestatic 38, 3) := by decide +kernel
theorem d1_5 : decode prog_19_method_7_code 5 = .ok (.baload, 1) := by decide +kernel
theorem d1_6 : decode prog_19_method_7_code 6 = .ok (.iload_n 0, 1) := by decide +kernel
theorem d1_7 : decode prog_19_method_7_code 7 = .ok (.ifCond .le 7, 3) := by decide +kernel
theorem d1_10 : decode prog_19_method_7_code 10 = .ok (.iconst 1, 1) := by decide +kernel
theorem d1_11 : decode prog_19_method_7_code 11 = .ok (.goto 4, 3) := by decide +kernel
theorem d1_14 : decode prog_19_method_7_code 14 = .ok (.iconst 0, 1) := by decide +kernel
theorem d1_15 : decode prog_19_method_7_code 15 = .ok (.if_icmp .ne 7, 3) := by decide +kernel
theorem d1_18 : decode prog_19_method_7_code 18 = .ok (.iconst 1, 1) := by decide +kernel
theorem d1_19 : decode prog_19_method_7_code 19 = .ok (.goto 4, 3) := by decide +kernel
theorem d1_22 : decode prog_19_method_7_code 22 = .ok (.iconst 0, 1) := by decide +kernel
theorem d1_23 : decode prog_19_method_7_code 23 = .ok (.ireturn, 1) := by decide +kernel
theorem d2_0 : decode jdk_29_method_59_code 0 = .ok (.iload_n 0, 1) := by decide +kernel
theorem d2_1 : decode jdk_29_method_59_code 1 = .ok (.ifCond .ge 8, 3) := by decide +kernel
theorem d2_4 : decode jdk_29_method_59_code 4 = .ok (.iload_n 0, 1) := by decide +kernel
theorem d2_5 : decode jdk_29_method_59_code 5 = .ok (.ineg, 1) := by decide +kernel
theorem d2_6 : decode jdk_29_method_59_code 6 = .ok (.goto 4, 3) := by decide +kernel
theorem d2_9 : decode jdk_29_method_59_code 9 = .ok (.iload_n 0, 1) := by decide +kernel
theorem d2_10 : decode jdk_29_method_59_code 10 = .ok (.ireturn, 1) := by decide +kernel
theorem pd_0 : parseMethodDescriptor "(I)I" = some ⟨[.int], some .int⟩ := by decide +kernel
theorem pd_1 : parseMethodDescriptor "(I[Z)Z" = some ⟨[.int, (.array .boolean)], some .boolean⟩ := by decide +kernel
theorem pn_0 : plainName "com/example/meerkat/meerkat/model/Circuit" = true := by first | (simp [plainName, overriddenIn]; done) | decide +kernel
theorem pn_1 : plainName "com/example/meerkat/meerkat/model/CircuitHoldsPinLaw" = true := by first | (simp [plainName, overriddenIn]; done) | decide +kernel
def own_abs (p1 : Int32) : Int32 := (if p1 < (0 : Int32) then (-p1) else p1)
theorem ef_rm2 (m : MethodId) (x0 : Int32) : entryFrame m #[(.int x0)] 1 = mkF m 0 #[.val (.int x0)] [] := by first | (simp [entryFrame, mkF, argsToLocals, Value.category]; done) | rfl
def Q_rm2 (p1 : Int32) (h0 : Heap) (n0 : Nat) (v : Option Value) (h : Heap) (L : List Loc) : Prop := v = some (.int (own_abs p1)) ∧ Fr n0 L ∧ h = h0
set_option maxRecDepth 65536 in
set_option maxHeartbeats 40000000 in
theorem rm2 (l : Launch) (Z : State) (a0 : Array Value) (hw : ∀ d ∈ tables_1, d.before a0 Z = true) (ws : List Jvm.Cond) (p1 : Int32)  (h0 : Heap) (n0 : Nat) (Z0 : n0 ≤ h0.size)  :
    MetFree l (⟨"java/lang/Math", "abs", "(I)I"⟩ : MethodName) (head1 (Jvm.Cond.code (⟨"java/lang/Math", "abs", "(I)I"⟩ : MethodName) jdk_29_method_59_code 1 (some .int) :: ws) ({ frames := 0, cells := 0, slots := 0, locals := 0 } : Room)) (fun a U => a = #[(.int p1)] ∧ Z.Warmed39 U.vm ∧ U.heap = h0) (fun _ _ _ _ _ => True) (fun _ U o U' => ∃ v L, o = .returned v ∧ Q_rm2 p1 h0 n0 v U'.heap L ∧ FrameEnd U o U' L ({ frames := 0, cells := 0, slots := 0, locals := 0 } : Room).cells ({ frames := 0, cells := 0, slots := 0, locals := 0 } : Room).slots) := by
  refine MetFree.of_bodySF (Jvm.Free.JP.mathPlain rfl (by decide +kernel)) hisR ?_
  intro p e s m args below meth c s₁ Bd hml0 hP hK
  obtain ⟨rfl, hZ, hh⟩ := hP
  have hx := Bd.exec
  have hby := Bd.bytes
  have hml : c.maxLocals = 1 := hml0
  have hown : s.vm.findClass "java/lang/Math" = some m.cls := findClass_of_methodNamed Bd.named
  have hnm := (name_of_methodNamed Bd.named Bd.method).1
  have X0 : Stand p l e ({ frames := 0, cells := 0, slots := 0, locals := 0 } : Room) s m #[(.int p1)] below meth c s₁ [] 0 0 := Stand.of_body Bd
  have e0 : s₁.heap = h0 := by rw [← hh, Bd.state]; rfl
  have N0 := Fr.nil n0
  obtain ⟨G, hG, pr0⟩ : ∃ G : State → Prop, (∀ t, G t → Steps p.tables e below (s₁.setTop (entryFrame m #[(.int p1)] 1)) t) ∧ (∀ t, Steps p.tables e below (s₁.setTop (mkF m 0 #[.val (.int p1)] [])) t → G t) := ⟨_, fun _ k => k, fun t k => castTop (ef_rm2 m p1) k⟩
  have pr1 : ∀ t, Steps p.tables e below (s₁.setTop (mkF m 1 #[.val (.int p1)] [(.int p1)])) t → G t := fun t k => pr0 t (by
      refine XS.iloadN X0.here hx rfl (hb hby d2_0) rfl ?_
      exact k)
  obtain ⟨j3, hj3⟩ : ∃ z : Int32, z = (if p1 < (0 : Int32) then (-p1) else p1) := ⟨_, rfl⟩
  have pr4 : ∀ t, Steps p.tables e below (s₁.setTop (mkF m 10 #[.val (.int p1)] [(.int j3)])) t → G t := by
    intro t k
    refine pr1 t ?_
    by_cases c2 : p1 < (0 : Int32)
    · refine XS.ifNo X0.here hx rfl (hb hby d2_1) rfl ((if0 _ _).trans (tlt c2).2.1) ?_
      refine XS.iloadN X0.here hx rfl (hb hby d2_4) rfl ?_
      refine XS.ineg X0.here hx rfl (hb hby d2_5) rfl ?_
      refine XS.goto X0.here hx rfl (pc0 := 6) (pc' := 10) rfl (hb hby d2_6) (by decide) (by decide) ?_
      have ej3 : j3 = (-p1) := by rw [hj3, if_pos c2]
      rw [ej3] at k
      exact k
    · refine XS.ifYes X0.here hx rfl (pc0 := 1) (pc' := 9) rfl (hb hby d2_1) rfl ((if0 _ _).trans (flt c2).2.1) (by decide) (by decide) ?_
      refine XS.iloadN X0.here hx rfl (hb hby d2_9) rfl ?_
      have ej3 : j3 = p1 := by rw [hj3, if_neg c2]
      rw [ej3] at k
      exact k
  have hret : j3 = own_abs p1 := by rw [hj3]; rfl
  rw [hret] at pr4
  obtain ⟨fs, hr, hrun, hended, hW, hsame⟩ := X0.leave (v := some (.int (own_abs p1))) (fun h => by rw [Bd.returns] at h; cases h)
  refine ⟨_, _, hG _ (pr4 _ ?_), hrun, hended, _, _, rfl, ?_, ⟨_, rfl⟩, hW, hsame.mono (by decide) (by decide)⟩
  · exact retI X0 hx Bd.returns (hb hby d2_10) hr
  · show Q_rm2 p1 h0 n0 _ s₁.heap _
    rw [e0]
    exact ⟨rfl, N0, rfl⟩
def own_holds (p1 w1 : Int32) : Int32 := (if w1 = (if (0 : Int32) < p1 then (1 : Int32) else (0 : Int32)) then (1 : Int32) else (0 : Int32))
theorem ef_rm1 (m : MethodId) (x0 : Int32) (x1 : Addr) : entryFrame m #[(.int x0), (.ref x1)] 2 = mkF m 0 #[.val (.int x0), .val (.ref x1)] [] := by first | (simp [entryFrame, mkF, argsToLocals, Value.category]; done) | rfl
def Q1 (p1 w1 : Int32) (h0 : Heap) (n0 : Nat) (v : Option Value) (h : Heap) (L : List Loc) : Prop := v = some (.int (own_holds p1 w1)) ∧ Fr n0 L ∧ h = h0
set_option maxRecDepth 65536 in
set_option maxHeartbeats 40000000 in
theorem rm1 (l : Launch) (Z : State) (a0 : Array Value) (hw : ∀ d ∈ tables_1, d.before a0 Z = true) (ws : List Jvm.Cond) (p1 : Int32) (a1 : Addr) (ka : ClassId) (vs : List Int32) (i : Nat) (w1 : Int32) (h0 : Heap) (n0 : Nat) (Z0 : n0 ≤ h0.size) (V_a1 : IA Z h0 a1 ka .boolean 5 vs) (hj : (own_abs p1).toNatClampNeg = i) (hnn : ¬ own_abs p1 < 0) (hi : i < vs.length) (hv : vs.getD i 0 = w1) :
    MetFree l (⟨"com/example/meerkat/meerkat/model/Circuit", "holds", "(I[Z)Z"⟩ : MethodName) (head1 (Jvm.Cond.code (⟨"com/example/meerkat/meerkat/model/Circuit", "holds", "(I[Z)Z"⟩ : MethodName) prog_19_method_7_code 2 (some .boolean) :: ws) ({ frames := 1, cells := 0, slots := 0, locals := 13 } : Room)) (fun a U => a = #[(.int p1), (.ref a1)] ∧ Z.Warmed39 U.vm ∧ U.heap = h0) (fun _ _ _ _ _ => True) (fun _ U o U' => ∃ v L, o = .returned v ∧ Q1 p1 w1 h0 n0 v U'.heap L ∧ FrameEnd U o U' L ({ frames := 1, cells := 0, slots := 0, locals := 13 } : Room).cells ({ frames := 1, cells := 0, slots := 0, locals := 13 } : Room).slots) := by
  refine MetFree.of_bodySF (plainFor_of_name pn_0) hisR ?_
  intro p e s m args below meth c s₁ Bd hml0 hP hK
  obtain ⟨rfl, hZ, hh⟩ := hP
  have hx := Bd.exec
  have hby := Bd.bytes
  have hml : c.maxLocals = 2 := hml0
  have hown : s.vm.findClass "com/example/meerkat/meerkat/model/Circuit" = some m.cls := findClass_of_methodNamed Bd.named
  have hnm := (name_of_methodNamed Bd.named Bd.method).1
  have X0 : Stand p l e ({ frames := 1, cells := 0, slots := 0, locals := 13 } : Room) s m #[(.int p1), (.ref a1)] below meth c s₁ [] 0 0 := Stand.of_body Bd
  have e0 : s₁.heap = h0 := by rw [← hh, Bd.state]; rfl
  have N0 := Fr.nil n0
  obtain ⟨G, hG, pr0⟩ : ∃ G : State → Prop, (∀ t, G t → Steps p.tables e below (s₁.setTop (entryFrame m #[(.int p1), (.ref a1)] 2)) t) ∧ (∀ t, Steps p.tables e below (s₁.setTop (mkF m 0 #[.val (.int p1), .val (.ref a1)] [])) t → G t) := ⟨_, fun _ k => k, fun t k => castTop (ef_rm1 m p1 a1) k⟩
  have pr5 : ∀ t, Steps p.tables e below (s₁.setTop (mkF m 2 #[.val (.int p1), .val (.ref a1)] [(.int p1), (.ref a1)])) t → G t := fun t k => pr0 t (by
      refine XS.aloadN X0.here hx rfl (hb hby d1_0) rfl rfl ?_
      refine XS.iloadN X0.here hx rfl (hb hby d1_1) rfl ?_
      exact k)
  obtain ⟨_, _, ⟨T6, L6, k6, n6⟩, -, X6, ⟨Lc6, hQ6, l6, y6, z6⟩, st6⟩ := Jvm.LawKit.callS X0 hx (y := (⟨"java/lang/Math", "abs", "(I)I"⟩ : MethodName)) hown (mvT hZ (hw _ (List.mem_of_getElem? (i := 6) rfl))) (mvT hZ (hw _ (List.mem_of_getElem? (i := 7) rfl))) (mvT hZ (hw _ (List.mem_of_getElem? (i := 8) rfl))) (mvT hZ (hw _ (List.mem_of_getElem? (i := 9) rfl))) (by decide) (backOf (W := 1) (rm2 l Z a0 hw [] p1 h0 n0 Z0) hZ (hw _ (List.mem_of_getElem? (i := 9) rfl)) (hw _ (List.mem_of_getElem? (i := 8) rfl)) (by decide) (by decide)) (g := (mkF m 2 #[.val (.int p1), .val (.ref a1)] [(.int p1), (.ref a1)])) rfl (by rw [hml]; rfl) (argsL := [(.int p1)]) (rest := [(.ref a1)]) (lenOf pd_0 rfl) rfl (by show 2 * 0 + _ ≤ _; exact Nat.le_of_eq rfl) (hb hby d1_2) (fun _ _ => ⟨rfl, e0, (by decide : 0 + 0 ≤ _), (by decide : 0 + 0 ≤ _)⟩)
  dsimp only [Pt.U, Pt.locs, Pt.cells, Pt.slots] at X6 l6 y6 z6 st6 hQ6
  subst l6 y6 z6
  obtain ⟨rfl, Nq6, eh6⟩ := hQ6
  have N6 := Fr.app N0 Nq6
  have pr7 : ∀ t, Steps p.tables e below (T6.setTop (mkF m 5 #[.val (.int p1), .val (.ref a1)] [(.int (own_abs p1)), (.ref a1)])) t → G t := fun t k => pr5 t (st6 t k)
  have pr8 : ∀ t, Steps p.tables e below (T6.setTop (mkF m 7 #[.val (.int p1), .val (.ref a1)] [(.int p1), (.int w1)])) t → G t := fun t k => pr7 t (by
      refine ia_ldZ X6 hx hZ eh6 V_a1 (j := (own_abs p1)) i hj hnn hi (w := w1) hv (g := (mkF m 5 #[.val (.int p1), .val (.ref a1)] [(.int (own_abs p1)), (.ref a1)])) rfl rfl (hb hby d1_5) _ ?_
      refine XS.iloadN X6.here hx rfl (hb hby d1_6) rfl ?_
      exact k)
  obtain ⟨sg, hsg⟩ : ∃ z : Int32, z = (if (0 : Int32) < p1 then (1 : Int32) else (0 : Int32)) := ⟨_, rfl⟩
  have pr10 : ∀ t, Steps p.tables e below (T6.setTop (mkF m 15 #[.val (.int p1), .val (.ref a1)] [(.int sg), (.int w1)])) t → G t := by
    intro t k
    refine pr8 t ?_
    by_cases c9 : (0 : Int32) < p1
    · refine XS.ifNo X6.here hx rfl (hb hby d1_7) rfl ((if0 _ _).trans (tlt c9).2.2.2) ?_
      refine XS.iconst X6.here hx rfl (hb hby d1_10) ?_
      refine XS.goto X6.here hx rfl (pc0 := 11) (pc' := 15) rfl (hb hby d1_11) (by decide) (by decide) ?_
      have esg : sg = (1 : Int32) := by rw [hsg, if_pos c9]
      rw [esg] at k
      exact k
    · refine XS.ifYes X6.here hx rfl (pc0 := 7) (pc' := 14) rfl (hb hby d1_7) rfl ((if0 _ _).trans (flt c9).2.2.2) (by decide) (by decide) ?_
      refine XS.iconst X6.here hx rfl (hb hby d1_14) ?_
      have esg : sg = (0 : Int32) := by rw [hsg, if_neg c9]
      rw [esg] at k
      exact k
  obtain ⟨re, hre⟩ : ∃ z : Int32, z = (if w1 = sg then (1 : Int32) else (0 : Int32)) := ⟨_, rfl⟩
  have pr12 : ∀ t, Steps p.tables e below (T6.setTop (mkF m 23 #[.val (.int p1), .val (.ref a1)] [(.int re)])) t → G t := by
    intro t k
    refine pr10 t ?_
    by_cases c11 : w1 = sg
    · refine XS.icmpNo X6.here hx rfl (hb hby d1_15) rfl (teq c11).2 ?_
      refine XS.iconst X6.here hx rfl (hb hby d1_18) ?_
      refine XS.goto X6.here hx rfl (pc0 := 19) (pc' := 23) rfl (hb hby d1_19) (by decide) (by decide) ?_
      have ere : re = (1 : Int32) := by rw [hre, if_pos c11]
      rw [ere] at k
      exact k
    · refine XS.icmpYes X6.here hx rfl (pc0 := 15) (pc' := 22) rfl (hb hby d1_15) rfl (feq c11).2 (by decide) (by decide) ?_
      refine XS.iconst X6.here hx rfl (hb hby d1_22) ?_
      have ere : re = (0 : Int32) := by rw [hre, if_neg c11]
      rw [ere] at k
      exact k
  have hret : re = own_holds p1 w1 := by rw [hre, hsg]; rfl
  have h01 : re = 0 ∨ re = 1 := (hre ▸ (own_ite01 (Or.inr rfl) (Or.inl rfl)))
  obtain ⟨fs, hr, hrun, hended, hW, hsame⟩ := X6.leave (v := some (.int (own_holds p1 w1))) (fun h => by rw [Bd.returns] at h; cases h)
  refine ⟨_, _, hG _ (pr12 _ ?_), hrun, hended, _, _, rfl, ?_, ⟨_, rfl⟩, hW, hsame.mono (by decide) (by decide)⟩
  · exact retN X6 hx (t := .boolean) Bd.returns (by simp) (hb hby d1_23) (by rw [show nar .boolean re = (own_holds p1 w1) from ((own_nz h01).trans hret)]; exact hr)
  · show Q1 p1 w1 h0 n0 _ T6.heap _
    rw [eh6]
    exact ⟨rfl, N6, rfl⟩
theorem own_node (p2 nd : Int32) (h : nd = ((1 : Int32) + ((p2 &&& (2147483647 : Int32)) - ((p2 &&& (2147483647 : Int32)) / (4 : Int32)) * (4 : Int32)))) : ∃ i : Nat, 1 ≤ i ∧ i ≤ 4 ∧ nd = Int32.ofNat i := by
  have h0 := own_mask31 p2
  have hr := own_rem (p2 &&& 2147483647) 4 h0 (by decide)
  rw [show (4 : Int32).toInt = 4 from rfl] at hr
  have hs : nd.toInt = 1 + (p2 &&& 2147483647).toInt % 4 := by
    rw [h, own_add (by rw [hr, show (1 : Int32).toInt = 1 from rfl]; omega) (by rw [hr, show (1 : Int32).toInt = 1 from rfl]; omega), hr]; rfl
  exact ⟨nd.toInt.toNat, by omega, by omega, own_ofI (by omega)⟩
theorem own_pick5 {w1 f0 f1 f2 f3 f4 : Int32} {i : Nat} (h : w1 = [f0, f1, f2, f3, f4].getD i 0) (hi : i ≤ 4) (h0 : f0 = 0 ∨ f0 = 1) (h1 : f1 = 0 ∨ f1 = 1) (h2 : f2 = 0 ∨ f2 = 1) (h3 : f3 = 0 ∨ f3 = 1) (h4 : f4 = 0 ∨ f4 = 1) : w1 = 0 ∨ w1 = 1 := by
  subst h
  match i, hi with
  | 0, _ => exact h0
  | 1, _ => exact h1
  | 2, _ => exact h2
  | 3, _ => exact h3
  | 4, _ => exact h4
theorem own_abs1 {ng nd lit : Int32} (h : lit = if ng = (0 : Int32) then nd else (-nd)) (h0 : ¬ nd < 0) : own_abs lit = nd := by
  rw [own_abs]
  rw [Int32.lt_iff_toInt_lt, show (0 : Int32).toInt = 0 from rfl] at h0
  by_cases q : ng = 0
  · rw [if_pos q] at h
    rw [h, if_neg (by rw [Int32.lt_iff_toInt_lt, show (0 : Int32).toInt = 0 from rfl]; exact h0)]
  · rw [if_neg q] at h
    have hb := nd.toInt_lt
    have e : (-nd).toInt = -nd.toInt := by rw [Int32.toInt_neg]; exact Int.bmod_eq_of_le (by omega) (by omega)
    rw [h]
    by_cases z : nd = 0
    · subst z; rfl
    · have : nd.toInt ≠ 0 := fun y => z (Int32.toInt_inj.mp y)
      rw [if_pos (by rw [Int32.lt_iff_toInt_lt, e, show (0 : Int32).toInt = 0 from rfl]; omega), Int32.neg_neg]
theorem own_abs2 {ng nd lit : Int32} {i : Nat} (h : lit = if ng = (0 : Int32) then nd else (-nd)) (ei : nd = Int32.ofNat i) (h1 : 1 ≤ i) (h4 : i ≤ 4) : own_abs (-lit) = nd := by
  have h0 : ¬ nd < 0 := by rw [ei]; exact own_nn (by omega)
  by_cases q : ng = 0
  · rw [if_pos q] at h
    exact own_abs1 (ng := 1) (by rw [if_neg (by decide), h]) h0
  · rw [if_neg q] at h
    exact own_abs1 (ng := 0) (by rw [if_pos rfl, h, Int32.neg_neg]) h0
theorem own_law (p3 nd : Int32) (i : Nat) (w1 ng lit ex rr : Int32) (ei : nd = Int32.ofNat i) (hi1 : 1 ≤ i) (hi4 : i ≤ 4) (w01 : w1 = 0 ∨ w1 = 1) (hng : ng = (if (p3 &&& (1 : Int32)) = (0 : Int32) then (0 : Int32) else (1 : Int32))) (hlit : lit = (if ng = (0 : Int32) then nd else (-nd))) (hex : ex = (if ng = (0 : Int32) then w1 else (if w1 = (0 : Int32) then (1 : Int32) else (0 : Int32)))) (hrr : rr = (if (own_holds lit w1) = ex then (if ex = (0 : Int32) then (if (own_holds (-lit) w1) = (1 : Int32) then (1 : Int32) else (0 : Int32)) else (if (own_holds (-lit) w1) = (0 : Int32) then (1 : Int32) else (0 : Int32))) else (0 : Int32))) : rr = 1 := by
  have g01 : ng = 0 ∨ ng = 1 := hng ▸ own_ite01 (Or.inl rfl) (Or.inr rfl)
  clear hng
  subst hrr hex hlit ei
  rcases w01 with rfl | rfl <;> rcases g01 with rfl | rfl <;> (obtain rfl | rfl | rfl | rfl : i = 1 ∨ i = 2 ∨ i = 3 ∨ i = 4 := by omega) <;> decide
theorem ef_rm0 (m : MethodId) (x0 : Int32) (x1 : Int32) (x2 : Int32) : entryFrame m #[(.int x0), (.int x1), (.int x2)] maxLocals = mkF m 0 #[.val (.int x0), .val (.int x1), .val (.int x2), .unset, .unset, .unset, .unset, .unset, .unset, .unset] [] := by first | (simp [entryFrame, mkF, argsToLocals, Value.category, maxLocals]; done) | rfl
def Q0 (n0 : Nat) (v : Option Value) (h : Heap) (L : List Loc) : Prop := v = some (.int 1) ∧ Fr n0 L
set_option maxRecDepth 65536 in
set_option maxHeartbeats 40000000 in
theorem rm0 (l : Launch) (Z : State) (a0 : Array Value) (hw : ∀ d ∈ tables_1, d.before a0 Z = true) (ws : List Jvm.Cond) (p1 : Int32) (p2 : Int32) (p3 : Int32)  (h0 : Heap) (n0 : Nat) (Z0 : n0 ≤ h0.size)  :
    MetFree l x (head1 (Jvm.Cond.code x code maxLocals ret :: ws) room_1) (fun a U => a = #[(.int p1), (.int p2), (.int p3)] ∧ Z.Warmed39 U.vm ∧ U.heap = h0) (fun _ _ _ _ _ => True) (fun _ U o U' => ∃ v L, o = .returned v ∧ Q0 n0 v U'.heap L ∧ FrameEnd U o U' L room_1.cells room_1.slots) := by
  refine MetFree.of_bodySF (plainFor_of_name pn_1) hisR ?_
  intro p e s m args below meth c s₁ Bd hml0 hP hK
  obtain ⟨rfl, hZ, hh⟩ := hP
  have hx := Bd.exec
  have hby := Bd.bytes
  have hml : c.maxLocals = 10 := hml0
  have hown : s.vm.findClass "com/example/meerkat/meerkat/model/CircuitHoldsPinLaw" = some m.cls := findClass_of_methodNamed Bd.named
  have hnm := (name_of_methodNamed Bd.named Bd.method).1
  have X0 : Stand p l e room_1 s m #[(.int p1), (.int p2), (.int p3)] below meth c s₁ [] 0 0 := Stand.of_body Bd
  have e0 : s₁.heap = h0 := by rw [← hh, Bd.state]; rfl
  have N0 := Fr.nil n0
  obtain ⟨G, hG, pr0⟩ : ∃ G : State → Prop, (∀ t, G t → Steps p.tables e below (s₁.setTop (entryFrame m #[(.int p1), (.int p2), (.int p3)] maxLocals)) t) ∧ (∀ t, Steps p.tables e below (s₁.setTop (mkF m 0 #[.val (.int p1), .val (.int p2), .val (.int p3), .unset, .unset, .unset, .unset, .unset, .unset, .unset] [])) t → G t) := ⟨_, fun _ k => k, fun t k => castTop (ef_rm0 m p1 p2 p3) k⟩
  have pr13 : ∀ t, Steps p.tables e below (s₁.setTop (mkF m 1 #[.val (.int p1), .val (.int p2), .val (.int p3), .unset, .unset, .unset, .unset, .unset, .unset, .unset] [(.int (5 : Int32))])) t → G t := fun t k => pr0 t (by
      refine XS.iconst X0.here hx rfl (hb hby at_0) ?_
      exact k)
  obtain ⟨T14, h14, k14, X14, e14, E14, A14, st14⟩ := newP X0 hx hZ (hw _ (List.mem_of_getElem? (i := 0) rfl)) e0 (g := (mkF m 1 #[.val (.int p1), .val (.int p2), .val (.int p3), .unset, .unset, .unset, .unset, .unset, .unset, .unset] [(.int (5 : Int32))])) rfl (hb hby at_1) rfl (by decide) (cap := 5) (by decide) (by decide) (by decide) (by decide)
  obtain ⟨b, g14⟩ : ∃ z, z = h0.size := ⟨_, rfl⟩
  rw [← g14] at A14 st14
  have g_b : n0 ≤ b := Nat.le_trans Z0 (Nat.le_of_eq g14.symm)
  have V_b : IA Z h14 b k14 .boolean (5 : Int32) (List.replicate 5 0) := IA.new A14 (by decide) rfl rfl
  replace V_b : IA Z h14 b k14 .boolean (5 : Int32) [0, 0, 0, 0, 0] := V_b
  have Z14 : n0 ≤ h14.size := Nat.le_trans Z0 E14.1
  have pr15 : ∀ t, Steps p.tables e below (T14.setTop (mkF m 3 #[.val (.int p1), .val (.int p2), .val (.int p3), .unset, .unset, .unset, .unset, .unset, .unset, .unset] [(.ref b)])) t → G t := fun t k => pr13 t (st14 t k)
  have pr16 : ∀ t, Steps p.tables e below (T14.setTop (mkF m 9 #[.val (.int p1), .val (.int p2), .val (.int p3), .val (.ref b), .unset, .unset, .unset, .unset, .unset, .unset] [(.int (p1 &&& (1 : Int32))), (.int (0 : Int32)), (.ref b)])) t → G t := fun t k => pr15 t (by
      refine XS.astoreN X14.here hx rfl (hb hby at_3) rfl rfl (l' := #[.val (.int p1), .val (.int p2), .val (.int p3), .val (.ref b), .unset, .unset, .unset, .unset, .unset, .unset]) rfl ?_
      refine XS.aloadN X14.here hx rfl (hb hby at_4) rfl rfl ?_
      refine XS.iconst X14.here hx rfl (hb hby at_5) ?_
      refine XS.iloadN X14.here hx rfl (hb hby at_6) rfl ?_
      refine XS.iconst X14.here hx rfl (hb hby at_7) ?_
      refine XS.iand X14.here hx rfl (hb hby at_8) rfl ?_
      exact k)
  obtain ⟨f0, hf0⟩ : ∃ z : Int32, z = (if (p1 &&& (1 : Int32)) = (0 : Int32) then (0 : Int32) else (1 : Int32)) := ⟨_, rfl⟩
  have pr18 : ∀ t, Steps p.tables e below (T14.setTop (mkF m 17 #[.val (.int p1), .val (.int p2), .val (.int p3), .val (.ref b), .unset, .unset, .unset, .unset, .unset, .unset] [(.int f0), (.int (0 : Int32)), (.ref b)])) t → G t := by
    intro t k
    refine pr16 t ?_
    by_cases c17 : (p1 &&& (1 : Int32)) = (0 : Int32)
    · refine XS.ifYes X14.here hx rfl (pc0 := 9) (pc' := 16) rfl (hb hby at_9) rfl ((if0 _ _).trans (teq c17).1) (by decide) (by decide) ?_
      refine XS.iconst X14.here hx rfl (hb hby at_16) ?_
      have ef0 : f0 = (0 : Int32) := by rw [hf0, if_pos c17]
      rw [ef0] at k
      exact k
    · refine XS.ifNo X14.here hx rfl (hb hby at_9) rfl ((if0 _ _).trans (feq c17).1) ?_
      refine XS.iconst X14.here hx rfl (hb hby at_12) ?_
      refine XS.goto X14.here hx rfl (pc0 := 13) (pc' := 17) rfl (hb hby at_13) (by decide) (by decide) ?_
      have ef0 : f0 = (1 : Int32) := by rw [hf0, if_neg c17]
      rw [ef0] at k
      exact k
  have h01_f0 : f0 = 0 ∨ f0 = 1 := (hf0 ▸ (own_ite01 (Or.inl rfl) (Or.inr rfl)))
  obtain ⟨T19, h19, X19, e19, W19, V19, st19⟩ := ia_stZ X14 hx hZ e14 V_b (j := (0 : Int32)) 0 rfl (by decide) (Nat.le_of_ble_eq_true rfl) (y := f0) (own_nz h01_f0) (g := (mkF m 17 #[.val (.int p1), .val (.int p2), .val (.int p3), .val (.ref b), .unset, .unset, .unset, .unset, .unset, .unset] [(.int f0), (.int (0 : Int32)), (.ref b)])) rfl rfl (hb hby at_17)
  replace V_b := V19
  have N19 := Fr.snoc X19 N0 g_b
  have Z19 : n0 ≤ h19.size := Nat.le_trans Z14 (Keep.of_wr W19).1
  have pr20 : ∀ t, Steps p.tables e below (T19.setTop (mkF m 18 #[.val (.int p1), .val (.int p2), .val (.int p3), .val (.ref b), .unset, .unset, .unset, .unset, .unset, .unset] [])) t → G t := fun t k => pr18 t (st19 t k)
  have pr21 : ∀ t, Steps p.tables e below (T19.setTop (mkF m 23 #[.val (.int p1), .val (.int p2), .val (.int p3), .val (.ref b), .unset, .unset, .unset, .unset, .unset, .unset] [(.int (p1 &&& (2 : Int32))), (.int (1 : Int32)), (.ref b)])) t → G t := fun t k => pr20 t (by
      refine XS.aloadN X19.here hx rfl (hb hby at_18) rfl rfl ?_
      refine XS.iconst X19.here hx rfl (hb hby at_19) ?_
      refine XS.iloadN X19.here hx rfl (hb hby at_20) rfl ?_
      refine XS.iconst X19.here hx rfl (hb hby at_21) ?_
      refine XS.iand X19.here hx rfl (hb hby at_22) rfl ?_
      exact k)
  obtain ⟨f1, hf1⟩ : ∃ z : Int32, z = (if (p1 &&& (2 : Int32)) = (0 : Int32) then (0 : Int32) else (1 : Int32)) := ⟨_, rfl⟩
  have pr23 : ∀ t, Steps p.tables e below (T19.setTop (mkF m 31 #[.val (.int p1), .val (.int p2), .val (.int p3), .val (.ref b), .unset, .unset, .unset, .unset, .unset, .unset] [(.int f1), (.int (1 : Int32)), (.ref b)])) t → G t := by
    intro t k
    refine pr21 t ?_
    by_cases c22 : (p1 &&& (2 : Int32)) = (0 : Int32)
    · refine XS.ifYes X19.here hx rfl (pc0 := 23) (pc' := 30) rfl (hb hby at_23) rfl ((if0 _ _).trans (teq c22).1) (by decide) (by decide) ?_
      refine XS.iconst X19.here hx rfl (hb hby at_30) ?_
      have ef1 : f1 = (0 : Int32) := by rw [hf1, if_pos c22]
      rw [ef1] at k
      exact k
    · refine XS.ifNo X19.here hx rfl (hb hby at_23) rfl ((if0 _ _).trans (feq c22).1) ?_
      refine XS.iconst X19.here hx rfl (hb hby at_26) ?_
      refine XS.goto X19.here hx rfl (pc0 := 27) (pc' := 31) rfl (hb hby at_27) (by decide) (by decide) ?_
      have ef1 : f1 = (1 : Int32) := by rw [hf1, if_neg c22]
      rw [ef1] at k
      exact k
  have h01_f1 : f1 = 0 ∨ f1 = 1 := (hf1 ▸ (own_ite01 (Or.inl rfl) (Or.inr rfl)))
  obtain ⟨T24, h24, X24, e24, W24, V24, st24⟩ := ia_stZ X19 hx hZ e19 V_b (j := (1 : Int32)) 1 rfl (by decide) (Nat.le_of_ble_eq_true rfl) (y := f1) (own_nz h01_f1) (g := (mkF m 31 #[.val (.int p1), .val (.int p2), .val (.int p3), .val (.ref b), .unset, .unset, .unset, .unset, .unset, .unset] [(.int f1), (.int (1 : Int32)), (.ref b)])) rfl rfl (hb hby at_31)
  replace V_b := V24
  have N24 := Fr.snoc X24 N19 g_b
  have Z24 : n0 ≤ h24.size := Nat.le_trans Z19 (Keep.of_wr W24).1
  have pr25 : ∀ t, Steps p.tables e below (T24.setTop (mkF m 32 #[.val (.int p1), .val (.int p2), .val (.int p3), .val (.ref b), .unset, .unset, .unset, .unset, .unset, .unset] [])) t → G t := fun t k => pr23 t (st24 t k)
  have pr26 : ∀ t, Steps p.tables e below (T24.setTop (mkF m 37 #[.val (.int p1), .val (.int p2), .val (.int p3), .val (.ref b), .unset, .unset, .unset, .unset, .unset, .unset] [(.int (p1 &&& (4 : Int32))), (.int (2 : Int32)), (.ref b)])) t → G t := fun t k => pr25 t (by
      refine XS.aloadN X24.here hx rfl (hb hby at_32) rfl rfl ?_
      refine XS.iconst X24.here hx rfl (hb hby at_33) ?_
      refine XS.iloadN X24.here hx rfl (hb hby at_34) rfl ?_
      refine XS.iconst X24.here hx rfl (hb hby at_35) ?_
      refine XS.iand X24.here hx rfl (hb hby at_36) rfl ?_
      exact k)
  obtain ⟨f2, hf2⟩ : ∃ z : Int32, z = (if (p1 &&& (4 : Int32)) = (0 : Int32) then (0 : Int32) else (1 : Int32)) := ⟨_, rfl⟩
  have pr28 : ∀ t, Steps p.tables e below (T24.setTop (mkF m 45 #[.val (.int p1), .val (.int p2), .val (.int p3), .val (.ref b), .unset, .unset, .unset, .unset, .unset, .unset] [(.int f2), (.int (2 : Int32)), (.ref b)])) t → G t := by
    intro t k
    refine pr26 t ?_
    by_cases c27 : (p1 &&& (4 : Int32)) = (0 : Int32)
    · refine XS.ifYes X24.here hx rfl (pc0 := 37) (pc' := 44) rfl (hb hby at_37) rfl ((if0 _ _).trans (teq c27).1) (by decide) (by decide) ?_
      refine XS.iconst X24.here hx rfl (hb hby at_44) ?_
      have ef2 : f2 = (0 : Int32) := by rw [hf2, if_pos c27]
      rw [ef2] at k
      exact k
    · refine XS.ifNo X24.here hx rfl (hb hby at_37) rfl ((if0 _ _).trans (feq c27).1) ?_
      refine XS.iconst X24.here hx rfl (hb hby at_40) ?_
      refine XS.goto X24.here hx rfl (pc0 := 41) (pc' := 45) rfl (hb hby at_41) (by decide) (by decide) ?_
      have ef2 : f2 = (1 : Int32) := by rw [hf2, if_neg c27]
      rw [ef2] at k
      exact k
  have h01_f2 : f2 = 0 ∨ f2 = 1 := (hf2 ▸ (own_ite01 (Or.inl rfl) (Or.inr rfl)))
  obtain ⟨T29, h29, X29, e29, W29, V29, st29⟩ := ia_stZ X24 hx hZ e24 V_b (j := (2 : Int32)) 2 rfl (by decide) (Nat.le_of_ble_eq_true rfl) (y := f2) (own_nz h01_f2) (g := (mkF m 45 #[.val (.int p1), .val (.int p2), .val (.int p3), .val (.ref b), .unset, .unset, .unset, .unset, .unset, .unset] [(.int f2), (.int (2 : Int32)), (.ref b)])) rfl rfl (hb hby at_45)
  replace V_b := V29
  have N29 := Fr.snoc X29 N24 g_b
  have Z29 : n0 ≤ h29.size := Nat.le_trans Z24 (Keep.of_wr W29).1
  have pr30 : ∀ t, Steps p.tables e below (T29.setTop (mkF m 46 #[.val (.int p1), .val (.int p2), .val (.int p3), .val (.ref b), .unset, .unset, .unset, .unset, .unset, .unset] [])) t → G t := fun t k => pr28 t (st29 t k)
  have pr31 : ∀ t, Steps p.tables e below (T29.setTop (mkF m 52 #[.val (.int p1), .val (.int p2), .val (.int p3), .val (.ref b), .unset, .unset, .unset, .unset, .unset, .unset] [(.int (p1 &&& (8 : Int32))), (.int (3 : Int32)), (.ref b)])) t → G t := fun t k => pr30 t (by
      refine XS.aloadN X29.here hx rfl (hb hby at_46) rfl rfl ?_
      refine XS.iconst X29.here hx rfl (hb hby at_47) ?_
      refine XS.iloadN X29.here hx rfl (hb hby at_48) rfl ?_
      refine XS.bipush X29.here hx rfl (hb hby at_49) ?_
      refine XS.iand X29.here hx rfl (hb hby at_51) rfl ?_
      exact k)
  obtain ⟨f3, hf3⟩ : ∃ z : Int32, z = (if (p1 &&& (8 : Int32)) = (0 : Int32) then (0 : Int32) else (1 : Int32)) := ⟨_, rfl⟩
  have pr33 : ∀ t, Steps p.tables e below (T29.setTop (mkF m 60 #[.val (.int p1), .val (.int p2), .val (.int p3), .val (.ref b), .unset, .unset, .unset, .unset, .unset, .unset] [(.int f3), (.int (3 : Int32)), (.ref b)])) t → G t := by
    intro t k
    refine pr31 t ?_
    by_cases c32 : (p1 &&& (8 : Int32)) = (0 : Int32)
    · refine XS.ifYes X29.here hx rfl (pc0 := 52) (pc' := 59) rfl (hb hby at_52) rfl ((if0 _ _).trans (teq c32).1) (by decide) (by decide) ?_
      refine XS.iconst X29.here hx rfl (hb hby at_59) ?_
      have ef3 : f3 = (0 : Int32) := by rw [hf3, if_pos c32]
      rw [ef3] at k
      exact k
    · refine XS.ifNo X29.here hx rfl (hb hby at_52) rfl ((if0 _ _).trans (feq c32).1) ?_
      refine XS.iconst X29.here hx rfl (hb hby at_55) ?_
      refine XS.goto X29.here hx rfl (pc0 := 56) (pc' := 60) rfl (hb hby at_56) (by decide) (by decide) ?_
      have ef3 : f3 = (1 : Int32) := by rw [hf3, if_neg c32]
      rw [ef3] at k
      exact k
  have h01_f3 : f3 = 0 ∨ f3 = 1 := (hf3 ▸ (own_ite01 (Or.inl rfl) (Or.inr rfl)))
  obtain ⟨T34, h34, X34, e34, W34, V34, st34⟩ := ia_stZ X29 hx hZ e29 V_b (j := (3 : Int32)) 3 rfl (by decide) (Nat.le_of_ble_eq_true rfl) (y := f3) (own_nz h01_f3) (g := (mkF m 60 #[.val (.int p1), .val (.int p2), .val (.int p3), .val (.ref b), .unset, .unset, .unset, .unset, .unset, .unset] [(.int f3), (.int (3 : Int32)), (.ref b)])) rfl rfl (hb hby at_60)
  replace V_b := V34
  have N34 := Fr.snoc X34 N29 g_b
  have Z34 : n0 ≤ h34.size := Nat.le_trans Z29 (Keep.of_wr W34).1
  have pr35 : ∀ t, Steps p.tables e below (T34.setTop (mkF m 61 #[.val (.int p1), .val (.int p2), .val (.int p3), .val (.ref b), .unset, .unset, .unset, .unset, .unset, .unset] [])) t → G t := fun t k => pr33 t (st34 t k)
  have pr36 : ∀ t, Steps p.tables e below (T34.setTop (mkF m 67 #[.val (.int p1), .val (.int p2), .val (.int p3), .val (.ref b), .unset, .unset, .unset, .unset, .unset, .unset] [(.int (p1 &&& (16 : Int32))), (.int (4 : Int32)), (.ref b)])) t → G t := fun t k => pr35 t (by
      refine XS.aloadN X34.here hx rfl (hb hby at_61) rfl rfl ?_
      refine XS.iconst X34.here hx rfl (hb hby at_62) ?_
      refine XS.iloadN X34.here hx rfl (hb hby at_63) rfl ?_
      refine XS.bipush X34.here hx rfl (hb hby at_64) ?_
      refine XS.iand X34.here hx rfl (hb hby at_66) rfl ?_
      exact k)
  obtain ⟨f4, hf4⟩ : ∃ z : Int32, z = (if (p1 &&& (16 : Int32)) = (0 : Int32) then (0 : Int32) else (1 : Int32)) := ⟨_, rfl⟩
  have pr38 : ∀ t, Steps p.tables e below (T34.setTop (mkF m 75 #[.val (.int p1), .val (.int p2), .val (.int p3), .val (.ref b), .unset, .unset, .unset, .unset, .unset, .unset] [(.int f4), (.int (4 : Int32)), (.ref b)])) t → G t := by
    intro t k
    refine pr36 t ?_
    by_cases c37 : (p1 &&& (16 : Int32)) = (0 : Int32)
    · refine XS.ifYes X34.here hx rfl (pc0 := 67) (pc' := 74) rfl (hb hby at_67) rfl ((if0 _ _).trans (teq c37).1) (by decide) (by decide) ?_
      refine XS.iconst X34.here hx rfl (hb hby at_74) ?_
      have ef4 : f4 = (0 : Int32) := by rw [hf4, if_pos c37]
      rw [ef4] at k
      exact k
    · refine XS.ifNo X34.here hx rfl (hb hby at_67) rfl ((if0 _ _).trans (feq c37).1) ?_
      refine XS.iconst X34.here hx rfl (hb hby at_70) ?_
      refine XS.goto X34.here hx rfl (pc0 := 71) (pc' := 75) rfl (hb hby at_71) (by decide) (by decide) ?_
      have ef4 : f4 = (1 : Int32) := by rw [hf4, if_neg c37]
      rw [ef4] at k
      exact k
  have h01_f4 : f4 = 0 ∨ f4 = 1 := (hf4 ▸ (own_ite01 (Or.inl rfl) (Or.inr rfl)))
  obtain ⟨T39, h39, X39, e39, W39, V39, st39⟩ := ia_stZ X34 hx hZ e34 V_b (j := (4 : Int32)) 4 rfl (by decide) (Nat.le_of_ble_eq_true rfl) (y := f4) (own_nz h01_f4) (g := (mkF m 75 #[.val (.int p1), .val (.int p2), .val (.int p3), .val (.ref b), .unset, .unset, .unset, .unset, .unset, .unset] [(.int f4), (.int (4 : Int32)), (.ref b)])) rfl rfl (hb hby at_75)
  replace V_b := V39
  have N39 := Fr.snoc X39 N34 g_b
  have Z39 : n0 ≤ h39.size := Nat.le_trans Z34 (Keep.of_wr W39).1
  have pr40 : ∀ t, Steps p.tables e below (T39.setTop (mkF m 76 #[.val (.int p1), .val (.int p2), .val (.int p3), .val (.ref b), .unset, .unset, .unset, .unset, .unset, .unset] [])) t → G t := fun t k => pr38 t (st39 t k)
  replace V_b : IA Z h39 b k14 .boolean 5 [f0, f1, f2, f3, f4] := V_b
  have pr41 : ∀ t, Steps p.tables e below (T39.setTop (mkF m 86 #[.val (.int p1), .val (.int p2), .val (.int p3), .val (.ref b), .val (.int ((1 : Int32) + ((p2 &&& (2147483647 : Int32)) - ((p2 &&& (2147483647 : Int32)) / (4 : Int32)) * (4 : Int32)))), .unset, .unset, .unset, .unset, .unset] [])) t → G t := fun t k => pr40 t (by
      refine XS.iconst X39.here hx rfl (hb hby at_76) ?_
      refine XS.iloadN X39.here hx rfl (hb hby at_77) rfl ?_
      refine X39.ldcInt hx hown (mvT hZ (hw _ (List.mem_of_getElem? (i := 1) rfl))) (g := (mkF m 78 #[.val (.int p1), .val (.int p2), .val (.int p3), .val (.ref b), .unset, .unset, .unset, .unset, .unset, .unset] [(.int p2), (.int (1 : Int32))])) rfl (hb hby at_78) _ ?_
      refine XS.iand X39.here hx rfl (hb hby at_80) rfl ?_
      refine XS.iconst X39.here hx rfl (hb hby at_81) ?_
      refine XS.irem X39.here hx rfl (hb hby at_82) rfl (by decide) ?_
      refine XS.iadd X39.here hx rfl (hb hby at_83) rfl ?_
      refine XS.istore X39.here hx rfl (hb hby at_84) rfl (l' := #[.val (.int p1), .val (.int p2), .val (.int p3), .val (.ref b), .val (.int ((1 : Int32) + ((p2 &&& (2147483647 : Int32)) - ((p2 &&& (2147483647 : Int32)) / (4 : Int32)) * (4 : Int32)))), .unset, .unset, .unset, .unset, .unset]) rfl ?_
      exact k)
  obtain ⟨nd, hnd⟩ : ∃ z : Int32, z = ((1 : Int32) + ((p2 &&& (2147483647 : Int32)) - ((p2 &&& (2147483647 : Int32)) / (4 : Int32)) * (4 : Int32))) := ⟨_, rfl⟩
  rw [← hnd] at pr41
  obtain ⟨i, hi1, hi4, ei⟩ := own_node p2 nd hnd
  have hj : nd.toNatClampNeg = i := by rw [ei]; exact own_n32 (by omega)
  have hn0 : ¬ nd < 0 := by rw [ei]; exact own_nn (by omega)
  have hil : i < [f0, f1, f2, f3, f4].length := by show i < 5; omega
  obtain ⟨w1, hw1⟩ : ∃ z : Int32, z = [f0, f1, f2, f3, f4].getD i 0 := ⟨_, rfl⟩
  have w01 : w1 = 0 ∨ w1 = 1 := own_pick5 hw1 hi4 h01_f0 h01_f1 h01_f2 h01_f3 h01_f4
  have pr42 : ∀ t, Steps p.tables e below (T39.setTop (mkF m 89 #[.val (.int p1), .val (.int p2), .val (.int p3), .val (.ref b), .val (.int nd), .unset, .unset, .unset, .unset, .unset] [(.int (p3 &&& (1 : Int32)))])) t → G t := fun t k => pr41 t (by
      refine XS.iloadN X39.here hx rfl (hb hby at_86) rfl ?_
      refine XS.iconst X39.here hx rfl (hb hby at_87) ?_
      refine XS.iand X39.here hx rfl (hb hby at_88) rfl ?_
      exact k)
  obtain ⟨ng, hng⟩ : ∃ z : Int32, z = (if (p3 &&& (1 : Int32)) = (0 : Int32) then (0 : Int32) else (1 : Int32)) := ⟨_, rfl⟩
  have pr44 : ∀ t, Steps p.tables e below (T39.setTop (mkF m 97 #[.val (.int p1), .val (.int p2), .val (.int p3), .val (.ref b), .val (.int nd), .unset, .unset, .unset, .unset, .unset] [(.int ng)])) t → G t := by
    intro t k
    refine pr42 t ?_
    by_cases c43 : (p3 &&& (1 : Int32)) = (0 : Int32)
    · refine XS.ifYes X39.here hx rfl (pc0 := 89) (pc' := 96) rfl (hb hby at_89) rfl ((if0 _ _).trans (teq c43).1) (by decide) (by decide) ?_
      refine XS.iconst X39.here hx rfl (hb hby at_96) ?_
      have eng : ng = (0 : Int32) := by rw [hng, if_pos c43]
      rw [eng] at k
      exact k
    · refine XS.ifNo X39.here hx rfl (hb hby at_89) rfl ((if0 _ _).trans (feq c43).1) ?_
      refine XS.iconst X39.here hx rfl (hb hby at_92) ?_
      refine XS.goto X39.here hx rfl (pc0 := 93) (pc' := 97) rfl (hb hby at_93) (by decide) (by decide) ?_
      have eng : ng = (1 : Int32) := by rw [hng, if_neg c43]
      rw [eng] at k
      exact k
  have pr45 : ∀ t, Steps p.tables e below (T39.setTop (mkF m 101 #[.val (.int p1), .val (.int p2), .val (.int p3), .val (.ref b), .val (.int nd), .val (.int ng), .unset, .unset, .unset, .unset] [(.int ng)])) t → G t := fun t k => pr44 t (by
      refine XS.istore X39.here hx rfl (hb hby at_97) rfl (l' := #[.val (.int p1), .val (.int p2), .val (.int p3), .val (.ref b), .val (.int nd), .val (.int ng), .unset, .unset, .unset, .unset]) rfl ?_
      refine XS.iload X39.here hx rfl (hb hby at_99) rfl ?_
      exact k)
  obtain ⟨lit, hlit⟩ : ∃ z : Int32, z = (if ng = (0 : Int32) then nd else (-nd)) := ⟨_, rfl⟩
  have pr47 : ∀ t, Steps p.tables e below (T39.setTop (mkF m 112 #[.val (.int p1), .val (.int p2), .val (.int p3), .val (.ref b), .val (.int nd), .val (.int ng), .unset, .unset, .unset, .unset] [(.int lit)])) t → G t := by
    intro t k
    refine pr45 t ?_
    by_cases c46 : ng = (0 : Int32)
    · refine XS.ifYes X39.here hx rfl (pc0 := 101) (pc' := 110) rfl (hb hby at_101) rfl ((if0 _ _).trans (teq c46).1) (by decide) (by decide) ?_
      refine XS.iload X39.here hx rfl (hb hby at_110) rfl ?_
      have elit : lit = nd := by rw [hlit, if_pos c46]
      rw [elit] at k
      exact k
    · refine XS.ifNo X39.here hx rfl (hb hby at_101) rfl ((if0 _ _).trans (feq c46).1) ?_
      refine XS.iload X39.here hx rfl (hb hby at_104) rfl ?_
      refine XS.ineg X39.here hx rfl (hb hby at_106) rfl ?_
      refine XS.goto X39.here hx rfl (pc0 := 107) (pc' := 112) rfl (hb hby at_107) (by decide) (by decide) ?_
      have elit : lit = (-nd) := by rw [hlit, if_neg c46]
      rw [elit] at k
      exact k
  have pr48 : ∀ t, Steps p.tables e below (T39.setTop (mkF m 116 #[.val (.int p1), .val (.int p2), .val (.int p3), .val (.ref b), .val (.int nd), .val (.int ng), .val (.int lit), .unset, .unset, .unset] [(.int ng)])) t → G t := fun t k => pr47 t (by
      refine XS.istore X39.here hx rfl (hb hby at_112) rfl (l' := #[.val (.int p1), .val (.int p2), .val (.int p3), .val (.ref b), .val (.int nd), .val (.int ng), .val (.int lit), .unset, .unset, .unset]) rfl ?_
      refine XS.iload X39.here hx rfl (hb hby at_114) rfl ?_
      exact k)
  obtain ⟨ex, hex⟩ : ∃ z : Int32, z = (if ng = (0 : Int32) then w1 else (if w1 = (0 : Int32) then (1 : Int32) else (0 : Int32))) := ⟨_, rfl⟩
  have pr51 : ∀ t, Steps p.tables e below (T39.setTop (mkF m 142 #[.val (.int p1), .val (.int p2), .val (.int p3), .val (.ref b), .val (.int nd), .val (.int ng), .val (.int lit), .val (.int ex), .unset, .unset] [])) t → G t := by
    intro t k
    refine pr48 t ?_
    by_cases c49 : ng = (0 : Int32)
    · refine XS.ifYes X39.here hx rfl (pc0 := 116) (pc' := 136) rfl (hb hby at_116) rfl ((if0 _ _).trans (teq c49).1) (by decide) (by decide) ?_
      refine XS.aloadN X39.here hx rfl (hb hby at_136) rfl rfl ?_
      refine XS.iload X39.here hx rfl (hb hby at_137) rfl ?_
      refine ia_ldZ X39 hx hZ e39 V_b (j := nd) i hj hn0 hil (w := w1) hw1.symm (g := (mkF m 139 #[.val (.int p1), .val (.int p2), .val (.int p3), .val (.ref b), .val (.int nd), .val (.int ng), .val (.int lit), .unset, .unset, .unset] [(.int nd), (.ref b)])) rfl rfl (hb hby at_139) _ ?_
      refine XS.istore X39.here hx rfl (hb hby at_140) rfl (l' := #[.val (.int p1), .val (.int p2), .val (.int p3), .val (.ref b), .val (.int nd), .val (.int ng), .val (.int lit), .val (.int w1), .unset, .unset]) rfl ?_
      have eex : ex = w1 := by rw [hex, if_pos c49]
      rw [eex] at k
      exact k
    · refine XS.ifNo X39.here hx rfl (hb hby at_116) rfl ((if0 _ _).trans (feq c49).1) ?_
      refine XS.aloadN X39.here hx rfl (hb hby at_119) rfl rfl ?_
      refine XS.iload X39.here hx rfl (hb hby at_120) rfl ?_
      refine ia_ldZ X39 hx hZ e39 V_b (j := nd) i hj hn0 hil (w := w1) hw1.symm (g := (mkF m 122 #[.val (.int p1), .val (.int p2), .val (.int p3), .val (.ref b), .val (.int nd), .val (.int ng), .val (.int lit), .unset, .unset, .unset] [(.int nd), (.ref b)])) rfl rfl (hb hby at_122) _ ?_
      by_cases c50 : w1 = (0 : Int32)
      · refine XS.ifNo X39.here hx rfl (hb hby at_123) rfl ((if0 _ _).trans (teq c50).2) ?_
        refine XS.iconst X39.here hx rfl (hb hby at_126) ?_
        refine XS.goto X39.here hx rfl (pc0 := 127) (pc' := 131) rfl (hb hby at_127) (by decide) (by decide) ?_
        refine XS.istore X39.here hx rfl (hb hby at_131) rfl (l' := #[.val (.int p1), .val (.int p2), .val (.int p3), .val (.ref b), .val (.int nd), .val (.int ng), .val (.int lit), .val (.int (1 : Int32)), .unset, .unset]) rfl ?_
        refine XS.goto X39.here hx rfl (pc0 := 133) (pc' := 142) rfl (hb hby at_133) (by decide) (by decide) ?_
        have eex : ex = (1 : Int32) := by rw [hex, if_neg c49, if_pos c50]
        rw [eex] at k
        exact k
      · refine XS.ifYes X39.here hx rfl (pc0 := 123) (pc' := 130) rfl (hb hby at_123) rfl ((if0 _ _).trans (feq c50).2) (by decide) (by decide) ?_
        refine XS.iconst X39.here hx rfl (hb hby at_130) ?_
        refine XS.istore X39.here hx rfl (hb hby at_131) rfl (l' := #[.val (.int p1), .val (.int p2), .val (.int p3), .val (.ref b), .val (.int nd), .val (.int ng), .val (.int lit), .val (.int (0 : Int32)), .unset, .unset]) rfl ?_
        refine XS.goto X39.here hx rfl (pc0 := 133) (pc' := 142) rfl (hb hby at_133) (by decide) (by decide) ?_
        have eex : ex = (0 : Int32) := by rw [hex, if_neg c49, if_neg c50]
        rw [eex] at k
        exact k
  have ha1 : own_abs lit = nd := own_abs1 hlit hn0
  have ha2 : own_abs (-lit) = nd := own_abs2 hlit ei hi1 hi4
  have pr52 : ∀ t, Steps p.tables e below (T39.setTop (mkF m 145 #[.val (.int p1), .val (.int p2), .val (.int p3), .val (.ref b), .val (.int nd), .val (.int ng), .val (.int lit), .val (.int ex), .unset, .unset] [(.ref b), (.int lit)])) t → G t := fun t k => pr51 t (by
      refine XS.iload X39.here hx rfl (hb hby at_142) rfl ?_
      refine XS.aloadN X39.here hx rfl (hb hby at_144) rfl rfl ?_
      exact k)
  obtain ⟨_, _, ⟨T53, L53, k53, n53⟩, -, X53, ⟨Lc53, hQ53, l53, y53, z53⟩, st53⟩ := Jvm.LawKit.callS X39 hx (y := (⟨"com/example/meerkat/meerkat/model/Circuit", "holds", "(I[Z)Z"⟩ : MethodName)) hown (mvT hZ (hw _ (List.mem_of_getElem? (i := 2) rfl))) (mvT hZ (hw _ (List.mem_of_getElem? (i := 3) rfl))) (mvT hZ (hw _ (List.mem_of_getElem? (i := 4) rfl))) (mvT hZ (hw _ (List.mem_of_getElem? (i := 5) rfl))) (by decide) (backOf (W := 0) (rm1 l Z a0 hw [] lit b k14 _ i w1 h39 n0 Z39 V_b (by rw [ha1]; exact hj) (by rw [ha1]; exact hn0) hil hw1.symm) hZ (hw _ (List.mem_of_getElem? (i := 5) rfl)) (hw _ (List.mem_of_getElem? (i := 4) rfl)) (by decide) (by decide)) (g := (mkF m 145 #[.val (.int p1), .val (.int p2), .val (.int p3), .val (.ref b), .val (.int nd), .val (.int ng), .val (.int lit), .val (.int ex), .unset, .unset] [(.ref b), (.int lit)])) rfl (by rw [hml]; rfl) (argsL := [(.int lit), (.ref b)]) (rest := []) (lenOf pd_1 rfl) rfl (by show 2 * 0 + _ ≤ _; exact Nat.le_of_eq rfl) (hb hby at_145) (fun _ _ => ⟨rfl, e39, (by decide : 1 + 0 ≤ _), (by decide : 5 + 0 ≤ _)⟩)
  dsimp only [Pt.U, Pt.locs, Pt.cells, Pt.slots] at X53 l53 y53 z53 st53 hQ53
  subst l53 y53 z53
  obtain ⟨rfl, Nq53, eh53⟩ := hQ53
  have N53 := Fr.app N39 Nq53
  have pr54 : ∀ t, Steps p.tables e below (T53.setTop (mkF m 148 #[.val (.int p1), .val (.int p2), .val (.int p3), .val (.ref b), .val (.int nd), .val (.int ng), .val (.int lit), .val (.int ex), .unset, .unset] [(.int (own_holds lit w1))])) t → G t := fun t k => pr52 t (st53 t k)
  have pr55 : ∀ t, Steps p.tables e below (T53.setTop (mkF m 154 #[.val (.int p1), .val (.int p2), .val (.int p3), .val (.ref b), .val (.int nd), .val (.int ng), .val (.int lit), .val (.int ex), .val (.int (own_holds lit w1)), .unset] [(.ref b), (.int (-lit))])) t → G t := fun t k => pr54 t (by
      refine XS.istore X53.here hx rfl (hb hby at_148) rfl (l' := #[.val (.int p1), .val (.int p2), .val (.int p3), .val (.ref b), .val (.int nd), .val (.int ng), .val (.int lit), .val (.int ex), .val (.int (own_holds lit w1)), .unset]) rfl ?_
      refine XS.iload X53.here hx rfl (hb hby at_150) rfl ?_
      refine XS.ineg X53.here hx rfl (hb hby at_152) rfl ?_
      refine XS.aloadN X53.here hx rfl (hb hby at_153) rfl rfl ?_
      exact k)
  obtain ⟨_, _, ⟨T56, L56, k56, n56⟩, -, X56, ⟨Lc56, hQ56, l56, y56, z56⟩, st56⟩ := Jvm.LawKit.callS X53 hx (y := (⟨"com/example/meerkat/meerkat/model/Circuit", "holds", "(I[Z)Z"⟩ : MethodName)) hown (mvT hZ (hw _ (List.mem_of_getElem? (i := 2) rfl))) (mvT hZ (hw _ (List.mem_of_getElem? (i := 3) rfl))) (mvT hZ (hw _ (List.mem_of_getElem? (i := 4) rfl))) (mvT hZ (hw _ (List.mem_of_getElem? (i := 5) rfl))) (by decide) (backOf (W := 0) (rm1 l Z a0 hw [] (-lit) b k14 _ i w1 h39 n0 Z39 V_b (by rw [ha2]; exact hj) (by rw [ha2]; exact hn0) hil hw1.symm) hZ (hw _ (List.mem_of_getElem? (i := 5) rfl)) (hw _ (List.mem_of_getElem? (i := 4) rfl)) (by decide) (by decide)) (g := (mkF m 154 #[.val (.int p1), .val (.int p2), .val (.int p3), .val (.ref b), .val (.int nd), .val (.int ng), .val (.int lit), .val (.int ex), .val (.int (own_holds lit w1)), .unset] [(.ref b), (.int (-lit))])) rfl (by rw [hml]; rfl) (argsL := [(.int (-lit)), (.ref b)]) (rest := []) (lenOf pd_1 rfl) rfl (by show 2 * 0 + _ ≤ _; exact Nat.le_of_eq rfl) (hb hby at_154) (fun _ _ => ⟨rfl, eh53, (by decide : 1 + 0 ≤ _), (by decide : 5 + 0 ≤ _)⟩)
  dsimp only [Pt.U, Pt.locs, Pt.cells, Pt.slots] at X56 l56 y56 z56 st56 hQ56
  subst l56 y56 z56
  obtain ⟨rfl, Nq56, eh56⟩ := hQ56
  have N56 := Fr.app N53 Nq56
  have pr57 : ∀ t, Steps p.tables e below (T56.setTop (mkF m 157 #[.val (.int p1), .val (.int p2), .val (.int p3), .val (.ref b), .val (.int nd), .val (.int ng), .val (.int lit), .val (.int ex), .val (.int (own_holds lit w1)), .unset] [(.int (own_holds (-lit) w1))])) t → G t := fun t k => pr55 t (st56 t k)
  have pr58 : ∀ t, Steps p.tables e below (T56.setTop (mkF m 163 #[.val (.int p1), .val (.int p2), .val (.int p3), .val (.ref b), .val (.int nd), .val (.int ng), .val (.int lit), .val (.int ex), .val (.int (own_holds lit w1)), .val (.int (own_holds (-lit) w1))] [(.int ex), (.int (own_holds lit w1))])) t → G t := fun t k => pr57 t (by
      refine XS.istore X56.here hx rfl (hb hby at_157) rfl (l' := #[.val (.int p1), .val (.int p2), .val (.int p3), .val (.ref b), .val (.int nd), .val (.int ng), .val (.int lit), .val (.int ex), .val (.int (own_holds lit w1)), .val (.int (own_holds (-lit) w1))]) rfl ?_
      refine XS.iload X56.here hx rfl (hb hby at_159) rfl ?_
      refine XS.iload X56.here hx rfl (hb hby at_161) rfl ?_
      exact k)
  obtain ⟨rr, hrr⟩ : ∃ z : Int32, z = (if (own_holds lit w1) = ex then (if ex = (0 : Int32) then (if (own_holds (-lit) w1) = (1 : Int32) then (1 : Int32) else (0 : Int32)) else (if (own_holds (-lit) w1) = (0 : Int32) then (1 : Int32) else (0 : Int32))) else (0 : Int32)) := ⟨_, rfl⟩
  have pr63 : ∀ t, Steps p.tables e below (T56.setTop (mkF m 186 #[.val (.int p1), .val (.int p2), .val (.int p3), .val (.ref b), .val (.int nd), .val (.int ng), .val (.int lit), .val (.int ex), .val (.int (own_holds lit w1)), .val (.int (own_holds (-lit) w1))] [(.int rr)])) t → G t := by
    intro t k
    refine pr58 t ?_
    by_cases c59 : (own_holds lit w1) = ex
    · refine XS.icmpNo X56.here hx rfl (hb hby at_163) rfl (teq c59).2 ?_
      refine XS.iload X56.here hx rfl (hb hby at_166) rfl ?_
      refine XS.iload X56.here hx rfl (hb hby at_168) rfl ?_
      by_cases c60 : ex = (0 : Int32)
      · refine XS.ifNo X56.here hx rfl (hb hby at_170) rfl ((if0 _ _).trans (teq c60).2) ?_
        refine XS.iconst X56.here hx rfl (hb hby at_173) ?_
        refine XS.goto X56.here hx rfl (pc0 := 174) (pc' := 178) rfl (hb hby at_174) (by decide) (by decide) ?_
        by_cases c61 : (own_holds (-lit) w1) = (1 : Int32)
        · refine XS.icmpNo X56.here hx rfl (hb hby at_178) rfl (teq c61).2 ?_
          refine XS.iconst X56.here hx rfl (hb hby at_181) ?_
          refine XS.goto X56.here hx rfl (pc0 := 182) (pc' := 186) rfl (hb hby at_182) (by decide) (by decide) ?_
          have err : rr = (1 : Int32) := by rw [hrr, if_pos c59, if_pos c60, if_pos c61]
          rw [err] at k
          exact k
        · refine XS.icmpYes X56.here hx rfl (pc0 := 178) (pc' := 185) rfl (hb hby at_178) rfl (feq c61).2 (by decide) (by decide) ?_
          refine XS.iconst X56.here hx rfl (hb hby at_185) ?_
          have err : rr = (0 : Int32) := by rw [hrr, if_pos c59, if_pos c60, if_neg c61]
          rw [err] at k
          exact k
      · refine XS.ifYes X56.here hx rfl (pc0 := 170) (pc' := 177) rfl (hb hby at_170) rfl ((if0 _ _).trans (feq c60).2) (by decide) (by decide) ?_
        refine XS.iconst X56.here hx rfl (hb hby at_177) ?_
        by_cases c62 : (own_holds (-lit) w1) = (0 : Int32)
        · refine XS.icmpNo X56.here hx rfl (hb hby at_178) rfl (teq c62).2 ?_
          refine XS.iconst X56.here hx rfl (hb hby at_181) ?_
          refine XS.goto X56.here hx rfl (pc0 := 182) (pc' := 186) rfl (hb hby at_182) (by decide) (by decide) ?_
          have err : rr = (1 : Int32) := by rw [hrr, if_pos c59, if_neg c60, if_pos c62]
          rw [err] at k
          exact k
        · refine XS.icmpYes X56.here hx rfl (pc0 := 178) (pc' := 185) rfl (hb hby at_178) rfl (feq c62).2 (by decide) (by decide) ?_
          refine XS.iconst X56.here hx rfl (hb hby at_185) ?_
          have err : rr = (0 : Int32) := by rw [hrr, if_pos c59, if_neg c60, if_neg c62]
          rw [err] at k
          exact k
    · refine XS.icmpYes X56.here hx rfl (pc0 := 163) (pc' := 185) rfl (hb hby at_163) rfl (feq c59).2 (by decide) (by decide) ?_
      refine XS.iconst X56.here hx rfl (hb hby at_185) ?_
      have err : rr = (0 : Int32) := by rw [hrr, if_neg c59]
      rw [err] at k
      exact k
  have hfin : rr = 1 := own_law p3 nd i w1 ng lit ex rr ei hi1 hi4 w01 hng hlit hex hrr
  obtain ⟨fs, hr, hrun, hended, hW, hsame⟩ := X56.leave (v := some (.int 1)) (fun h => by rw [Bd.returns] at h; cases h)
  refine ⟨_, _, hG _ (pr63 _ ?_), hrun, hended, _, _, rfl, ?_, ⟨_, rfl⟩, hW, hsame.mono (by decide) (by decide)⟩
  · exact retN X56 hx (t := .boolean) Bd.returns (by simp) (hb hby at_186) (by rw [show nar .boolean rr = 1 from (by rw [hfin]; rfl)]; exact hr)
  · show Q0 n0 _ T56.heap _
    rw [eh56]
    exact ⟨rfl, N56⟩
set_option maxRecDepth 65536 in
set_option maxHeartbeats 40000000 in
theorem comes_1 {Post : Tables → Env → Array Value → State → Outcome → State → Prop} (hpost : ∀ tb e args s v u, (limb_1_1.after args s (.returned v) u = true ∧ limb_1_2.after args s (.returned v) u = true ∧ True) → FrameEnd s (.returned v) u (Jvm.fieldLocs frame_1_writes args s ++ Jvm.arrayLocs frame_1_arrays args s ++ Jvm.staticLocs frame_1_statics s) 16 128 → Post tb e args s (.returned v) u) :
    ArmFor flags0 classFile x code maxLocals ret World_1 tables_1 room_1 Calls_1 rest_1 Pre_1 Post := by
  intro l hfl _ _ p e ha hc hk s m args below hf hA hF happ hP
  obtain ⟨hcalls, hrest, hpre⟩ := hP
  obtain ⟨-, -, -, hnamed, -, -, -, hat⟩ := (Spec.applies_iff hf).mp happ
  obtain ⟨hg, hn⟩ := and_e (Cond.before_iff.mp (show (Jvm.Cond.and given_1 narrow_1).before args s = true from hpre))
  obtain ⟨hcount, g0⟩ := and_e hg
  obtain ⟨ga0, g1⟩ := and_e g0
  obtain ⟨ga1, g2⟩ := and_e g1
  have ga2 := g2
  obtain ⟨w0, w1, w2, rfl⟩ : ∃ w0 w1 w2 : Value, args = #[w0, w1, w2] := by
    have hs : args.size = 3 := by simpa [Cond.value, given_1] using hcount
    obtain ⟨L⟩ := args
    match L, hs with
    | [w0, w1, w2], _ => exact ⟨w0, w1, w2, rfl⟩
  have hw := fun d (hd : d ∈ tables_1) => atoms_spec (ws := Jvm.Cond.code x code maxLocals ret :: tables_1) hat d (List.mem_cons_of_mem _ hd)
  obtain ⟨i0, ei0⟩ := is_v ga0
  obtain rfl : w0 = (.int i0) := Option.some.inj ei0
  obtain ⟨i1, ei1⟩ := is_v ga1
  obtain rfl : w1 = (.int i1) := Option.some.inj ei1
  obtain ⟨i2, ei2⟩ := is_v ga2
  obtain rfl : w2 = (.int i2) := Option.some.inj ei2
  obtain ⟨n, o, h1, h2, h3, _, L, rfl, ⟨rfl, N⟩, hq⟩ := rm0 l s _ hw tables_1 i0 i1 i2  s.heap s.heap.size (Nat.le_refl _)  p e ha hc hk s m _ below hf ((Spec.applies_iff_loose hf).mp happ).1 ⟨rfl, State.Warmed39.refl s, rfl⟩ trivial
  refine ⟨n, _, h1, h2, h3, hpost _ _ _ _ _ _ ⟨Cond.after_iff.mpr rfl, Cond.after_iff.mpr (eq_i res_at (Term.int_eval (1)) rfl), trivial⟩ ⟨hq.1, hq.2.1, (hq.2.2.sift fun y hy => Or.inr (N y hy)).mono (by decide) (by decide)⟩⟩
theorem main_1_1 : Claimed_1_1 := comes_1 fun _ _ _ _ _ _ h hF => ⟨h.1, hF⟩
theorem main_1_2 : Claimed_1_2 := comes_1 fun _ _ _ _ _ _ h hF => ⟨h.2.1, hF⟩
end Jvm.Pilot.@@N@@
namespace Jvm.Pilot.@@N@@
open Jvm Jvm.ClassFile Sem Op Lib Jvm.Free Jvm.Stand Jvm.Pilot.@@N@@.Jvm.D
/-! MADE BY PROGRAM (witnessworld.py) out of the Statement's table words and the real class files: 12 classes; the members and pool entries that the words name. The judged class is class 1, her method 1. -/
namespace start1
open Jvm.ClassFile
def u (s : String) : CpInfo := .utf8 (stringToUtf16 s)
/-- a pool by its gaps: so many unusable entries, then the entry; so many at the end -/
def gap : Nat → List CpInfo → List CpInfo
  | 0, r => r
  | n + 1, r => .unusable :: gap n r
def poolList (es : List (Nat × CpInfo)) (last : Nat) : List CpInfo := es.foldr (fun e r => gap e.1 (e.2 :: r)) (gap last [])
def pool (es : List (Nat × CpInfo)) (last : Nat) : Array CpInfo := ⟨poolList es last⟩
def fileOf (pool : Array CpInfo) (this : Nat) (attrs : Array Attribute := #[]) (ms : Array MethodInfo := #[]) (fl : Nat := 33) (sup : Nat := 0) (ifs : Array Nat := #[]) (fds : Array FieldInfo := #[]) : ClassFile where
  minorVersion := 0
  majorVersion := 65
  constantPool := pool
  accessFlags := fl
  thisClass := this
  superClass := sup
  interfaces := ifs
  fields := fds
  methods := ms
  attributes := attrs
def plain (name : String) (sup : Option ClassId) : Class where
  name := name
  kind := .ordinary
  loader := none
  accessFlags := 33
  super := sup
  interfaces := #[]
  cf := none
  fields := #[]
  methods := #[]
  instanceTypes := #[]
  staticTypes := #[]
  resolved := #[]
  callSites := []
  init := .initialized
  statics := none
  mirror := none

def pool0 : Array CpInfo := pool [(5, u "<init>"), (0, u "()V"), (1, .class_ 10), (1, u "java/lang/Object")] 113

def k0m0 : Method := { name := "<init>", desc := "()V", sig := { parameters := [], returnType := none }, accessFlags := 1, code := none }
/-- java/lang/Object -/
def k0 : Class := { plain "java/lang/Object" none with
  accessFlags := 33
  interfaces := #[]
  cf := some (fileOf pool0 8 #[] #[{ accessFlags := 1, nameIndex := 5, descriptorIndex := 6, attributes := #[] }] 33 0 #[] #[])
  fields := #[]
  methods := #[k0m0]
  instanceTypes := #[]
  staticTypes := #[]
  resolved := Array.replicate 124 none
  statics := none }

def pool1 : Array CpInfo := pool [(2, .class_ 4), (1, u "java/lang/Object"), (0, u "<init>"), (0, u "()V"), (0, .integer 2147483647), (0, .methodref 9 10), (0, .class_ 11), (0, .nameAndType 12 13), (0, u "com/example/meerkat/meerkat/model/Circuit"), (0, u "holds"), (0, u "(I[Z)Z"), (0, .class_ 15), (0, u "com/example/meerkat/meerkat/model/CircuitHoldsPinLaw"), (2, u "law"), (0, u "(III)Z")] 5

def k1m0 : Method := { name := "<init>", desc := "()V", sig := { parameters := [], returnType := none }, accessFlags := 1, code := none }
def k1c1 : Code := { maxStack := 4, maxLocals := 10, code := code, exceptionTable := #[], attributes := #[] }
def k1m1 : Method := { name := "law", desc := "(III)Z", sig := { parameters := [.int, .int, .int], returnType := some .boolean }, accessFlags := 9, code := some k1c1 }
/-- com/example/meerkat/meerkat/model/CircuitHoldsPinLaw -/
def k1 : Class := { plain "com/example/meerkat/meerkat/model/CircuitHoldsPinLaw" (some 0) with
  accessFlags := 49
  interfaces := #[]
  cf := some (fileOf pool1 14 #[] #[{ accessFlags := 1, nameIndex := 5, descriptorIndex := 6, attributes := #[] }, { accessFlags := 9, nameIndex := 18, descriptorIndex := 19, attributes := #[] }] 49 2 #[] #[])
  fields := #[]
  methods := #[k1m0, k1m1]
  instanceTypes := #[]
  staticTypes := #[]
  resolved := Array.replicate 25 none
  statics := none }

def pool2 : Array CpInfo := pool [(2, .class_ 4), (1, u "java/lang/Object"), (3, .class_ 10), (1, u "com/example/meerkat/meerkat/model/Circuit"), (0, u "input"), (0, u "[Z"), (2, u "firstChild"), (0, u "[I"), (2, u "children"), (9, u "(I)I"), (6, u "holds"), (0, u "(I[Z)Z"), (0, .methodref 39 40), (0, .class_ 41), (0, .nameAndType 42 29), (0, u "java/lang/Math"), (0, u "abs"), (22, .class_ 67), (1, u "com/example/meerkat/meerkat/model/Circuit$ClauseSink"), (5, u "TRUE"), (0, u "I"), (2, u "FALSE"), (1, u "UNNEGATED"), (0, u "B"), (0, u "NEGATED"), (30, .class_ 113), (0, u "com/example/meerkat/meerkat/model/Circuit$Gate"), (0, .class_ 115), (0, u "com/example/meerkat/meerkat/model/Circuit$Builder")] 4

def k2c0 : Code := { maxStack := 2, maxLocals := 2, code := prog_19_method_7_code, exceptionTable := #[], attributes := #[] }
def k2m0 : Method := { name := "holds", desc := "(I[Z)Z", sig := { parameters := [.int, (.array .boolean)], returnType := some .boolean }, accessFlags := 9, code := some k2c0 }
/-- com/example/meerkat/meerkat/model/Circuit -/
def k2 : Class := { plain "com/example/meerkat/meerkat/model/Circuit" (some 0) with
  accessFlags := 49
  interfaces := #[]
  cf := some (fileOf pool2 8 #[.nestMembers #[112, 114, 65]] #[{ accessFlags := 9, nameIndex := 36, descriptorIndex := 37, attributes := #[] }] 49 2 #[] #[{ accessFlags := 25, nameIndex := 73, descriptorIndex := 74, attributes := #[] }, { accessFlags := 25, nameIndex := 77, descriptorIndex := 74, attributes := #[] }, { accessFlags := 26, nameIndex := 79, descriptorIndex := 80, attributes := #[] }, { accessFlags := 26, nameIndex := 81, descriptorIndex := 80, attributes := #[] }, { accessFlags := 18, nameIndex := 11, descriptorIndex := 12, attributes := #[] }, { accessFlags := 18, nameIndex := 15, descriptorIndex := 16, attributes := #[] }, { accessFlags := 18, nameIndex := 19, descriptorIndex := 16, attributes := #[] }])
  fields := #[{ name := "TRUE", type := .int, accessFlags := 25, slot := 0, constantValue := 0 }, { name := "FALSE", type := .int, accessFlags := 25, slot := 1, constantValue := 0 }, { name := "UNNEGATED", type := .byte, accessFlags := 26, slot := 2, constantValue := 0 }, { name := "NEGATED", type := .byte, accessFlags := 26, slot := 3, constantValue := 0 }, { name := "input", type := (.array .boolean), accessFlags := 18, slot := 0, constantValue := 0 }, { name := "firstChild", type := (.array .int), accessFlags := 18, slot := 1, constantValue := 0 }, { name := "children", type := (.array .int), accessFlags := 18, slot := 2, constantValue := 0 }]
  methods := #[k2m0]
  instanceTypes := #[(.array .boolean), (.array .int), (.array .int)]
  staticTypes := #[.int, .int, .byte, .byte]
  resolved := Array.replicate 120 none
  statics := none }

def pool3 : Array CpInfo := pool [(1, .class_ 2), (0, u "java/lang/Math"), (1, .class_ 6), (1, u "java/lang/Object"), (0, u "<init>"), (0, u "()V"), (89, .class_ 100), (1, u "java/lang/Math$RandomNumberGeneratorHolder"), (23, u "abs"), (34, u "(I)I"), (12, u "negativeZeroFloatBits"), (0, u "J"), (2, u "negativeZeroDoubleBits"), (68, u "$assertionsDisabled"), (0, u "Z"), (91, u "twoToTheDoubleScaleDown"), (0, u "D"), (4, u "twoToTheDoubleScaleUp"), (9, u "E"), (3, u "PI"), (2, u "TAU"), (2, u "DEGREES_TO_RADIANS"), (0, u "RADIANS_TO_DEGREES")] 94

def k3m0 : Method := { name := "<init>", desc := "()V", sig := { parameters := [], returnType := none }, accessFlags := 2, code := none }
def k3c1 : Code := { maxStack := 1, maxLocals := 1, code := jdk_29_method_59_code, exceptionTable := #[], attributes := #[] }
def k3m1 : Method := { name := "abs", desc := "(I)I", sig := { parameters := [.int], returnType := some .int }, accessFlags := 9, code := some k3c1 }
/-- java/lang/Math -/
def k3 : Class := { plain "java/lang/Math" (some 0) with
  accessFlags := 49
  interfaces := #[]
  cf := some (fileOf pool3 1 #[.nestMembers #[98]] #[{ accessFlags := 2, nameIndex := 7, descriptorIndex := 8, attributes := #[] }, { accessFlags := 9, nameIndex := 124, descriptorIndex := 159, attributes := #[] }] 49 4 #[] #[{ accessFlags := 25, nameIndex := 354, descriptorIndex := 339, attributes := #[] }, { accessFlags := 25, nameIndex := 358, descriptorIndex := 339, attributes := #[] }, { accessFlags := 25, nameIndex := 361, descriptorIndex := 339, attributes := #[] }, { accessFlags := 26, nameIndex := 364, descriptorIndex := 339, attributes := #[] }, { accessFlags := 26, nameIndex := 365, descriptorIndex := 339, attributes := #[] }, { accessFlags := 26, nameIndex := 172, descriptorIndex := 173, attributes := #[] }, { accessFlags := 26, nameIndex := 176, descriptorIndex := 173, attributes := #[] }, { accessFlags := 8, nameIndex := 344, descriptorIndex := 339, attributes := #[] }, { accessFlags := 8, nameIndex := 338, descriptorIndex := 339, attributes := #[] }, { accessFlags := 4120, nameIndex := 245, descriptorIndex := 246, attributes := #[] }])
  fields := #[{ name := "E", type := .double, accessFlags := 25, slot := 0, constantValue := 0 }, { name := "PI", type := .double, accessFlags := 25, slot := 1, constantValue := 0 }, { name := "TAU", type := .double, accessFlags := 25, slot := 2, constantValue := 0 }, { name := "DEGREES_TO_RADIANS", type := .double, accessFlags := 26, slot := 3, constantValue := 0 }, { name := "RADIANS_TO_DEGREES", type := .double, accessFlags := 26, slot := 4, constantValue := 0 }, { name := "negativeZeroFloatBits", type := .long, accessFlags := 26, slot := 5, constantValue := 0 }, { name := "negativeZeroDoubleBits", type := .long, accessFlags := 26, slot := 6, constantValue := 0 }, { name := "twoToTheDoubleScaleUp", type := .double, accessFlags := 8, slot := 7, constantValue := 0 }, { name := "twoToTheDoubleScaleDown", type := .double, accessFlags := 8, slot := 8, constantValue := 0 }, { name := "$assertionsDisabled", type := .boolean, accessFlags := 4120, slot := 9, constantValue := 0 }]
  methods := #[k3m0, k3m1]
  instanceTypes := #[]
  staticTypes := #[.double, .double, .double, .double, .double, .long, .long, .double, .double, .boolean]
  resolved := Array.replicate 460 none
  statics := none }

def pool4 : Array CpInfo := pool [(1, u "java/lang/Cloneable"), (0, .class_ 1), (0, u "java/lang/Object"), (0, .class_ 3)] 3

/-- java/lang/Cloneable -/
def k4 : Class := { plain "java/lang/Cloneable" (some 0) with
  accessFlags := 1537
  interfaces := #[]
  cf := some (fileOf pool4 2 #[] #[] 1537 4 #[] #[])
  fields := #[]
  methods := #[]
  instanceTypes := #[]
  staticTypes := #[]
  resolved := Array.replicate 8 none
  statics := none }

def pool5 : Array CpInfo := pool [(1, u "java/io/Serializable"), (0, .class_ 1), (0, u "java/lang/Object"), (0, .class_ 3)] 3

/-- java/io/Serializable -/
def k5 : Class := { plain "java/io/Serializable" (some 0) with
  accessFlags := 1537
  interfaces := #[]
  cf := some (fileOf pool5 2 #[] #[] 1537 4 #[] #[])
  fields := #[]
  methods := #[]
  instanceTypes := #[]
  staticTypes := #[]
  resolved := Array.replicate 8 none
  statics := none }

/-- the primitive boolean -/
def k6 : Class := { plain "boolean" none with kind := .primitive 'Z', accessFlags := 0x411 }
/-- [Z -/
def k7 : Class := { plain "[Z" (some 0) with kind := .array 6 .boolean, interfaces := #[4, 5], accessFlags := 1041 }

/-- the primitive byte -/
def k8 : Class := { plain "byte" none with kind := .primitive 'B', accessFlags := 0x411 }
/-- [B -/
def k9 : Class := { plain "[B" (some 0) with kind := .array 8 .byte, interfaces := #[4, 5], accessFlags := 1041 }

/-- the primitive int -/
def k10 : Class := { plain "int" none with kind := .primitive 'I', accessFlags := 0x411 }
/-- [I -/
def k11 : Class := { plain "[I" (some 0) with kind := .array 10 .int, interfaces := #[4, 5], accessFlags := 1041 }

def heap : Heap := #[]
def classes : Array Class := #[k0, k1, k2, k3, k4, k5, k6, k7, k8, k9, k10, k11]
def interned : List (Array UInt16 × Addr) := []
def slotsUsed : Nat := 0
def theMethod : MethodId := ⟨1, 1⟩
def args0 : Array Value := #[.int 5, .int 6, .int 7]
def aboutOver (below : List Frame) : State where
  vm := { classes := classes, interned := interned.toArray }
  heap := heap
  slotsUsed := slotsUsed
  threads := #[{ frames := .invoking theMethod args0 :: below }]
def below0 : List Frame := [.native { method := ⟨0, 0⟩, args := #[] }]
def about1 : State := aboutOver below0
def p0 : Program := .bare "" "" ""
def e0 : Env := launch0.env 0 0 0
theorem w_frames : about1.frames = Frame.invoking theMethod args0 :: below0 := rfl
set_option maxRecDepth 65536 in
theorem w_args : argsFit about1.vm theMethod args0 = true := by decide +kernel
set_option maxRecDepth 65536 in
theorem w_heap : heapFits about1 = true := by decide +kernel
set_option maxRecDepth 65536 in
theorem w_runnable : about1.curStatus? = some .runnable := by decide +kernel
set_option maxRecDepth 65536 in
theorem w_alone : about1.alone = true := by decide +kernel
set_option maxRecDepth 65536 in
theorem w_named : about1.methodNamed? x = some theMethod := by decide +kernel
set_option maxRecDepth 65536 in
theorem w_hears : about1.hears theMethod below0 = true := by decide +kernel
set_option maxRecDepth 65536 in
theorem w_ripe : about1.ripe theMethod args0 below0 = true := by decide +kernel
theorem w_running : about1.status = .running := rfl
set_option maxRecDepth 65536 in
theorem w_room : about1.hasRoom e0.platform room_1 = true :=
  launch0.hasRoom_least _ room_1 (by decide +kernel) (by decide +kernel) (by decide +kernel) (by decide +kernel) (by decide +kernel) (by decide +kernel)
theorem allAtoms_all (ts : List Jvm.Cond) (a : Array Jvm.Value) (st : Jvm.State) : (allAtoms ts).before a st = ts.all (fun c => c.before a st) := by
  induction ts with
  | nil => rfl
  | cons c t ih =>
    show (Jvm.Cond.and c (allAtoms t)).before a st = _
    rw [Jvm.Cond.before_and, ih, List.all_cons]
def words1 : List Jvm.Cond := Jvm.Cond.code x code maxLocals ret :: tables_1
/-- a 'code' word, met by the world's own term for the bytes: nothing is compared byte by byte -/
theorem code_word {y : MethodName} {bytes : ByteArray} {mx : Nat} {rt : Option FieldType} {a : Array Value} {s : State} {m : MethodId} {meth : Method} {c : Code} (h1 : s.methodNamed? y = some m) (h2 : s.vm.method? m = some meth) (h3 : meth.code = some c) (h4 : c.code = bytes)
    (h5 : (c.maxLocals == mx && c.exceptionTable.isEmpty && decide (c.maxStack ≤ mostOperands) && decide (meth.sig.returnType = rt) && !meth.locks && decide (parseMethodDescriptor y.desc = some meth.sig)) = true) : (Jvm.Cond.code y bytes mx rt).before a s = true := by
  simp only [Bool.and_eq_true, beq_iff_eq, Bool.not_eq_true', decide_eq_true_eq] at h5
  obtain ⟨⟨⟨⟨⟨g1, g2⟩, g3⟩, g4⟩, g5⟩, g6⟩ := h5
  simp [Cond.before, Cond.holds, Cond.value, h1, h2, h3, h4, g1, g2, g3, g4, g5, g6]
def isCode : Jvm.Cond → Bool
  | .code _ _ _ _ => true
  | _ => false
theorem all_split {L : List Jvm.Cond} {P : Jvm.Cond → Bool} (h1 : L.all (fun c => isCode c || P c) = true) (h2 : ∀ c ∈ L.filter isCode, P c = true) : L.all P = true := by
  refine List.all_eq_true.mpr fun c hc => ?_
  have h := List.all_eq_true.mp h1 c hc
  rcases Bool.eq_false_or_eq_true (isCode c) with hi | hi
  · exact h2 c (List.mem_filter.mpr ⟨hc, hi⟩)
  · simpa [hi] using h
set_option maxRecDepth 65536 in
theorem w_c0 : (Jvm.Cond.code x code maxLocals ret).before args0 about1 = true := code_word (m := ⟨1, 1⟩) (meth := k1m1) (c := k1c1) (by decide +kernel) rfl rfl rfl (by decide +kernel)
set_option maxRecDepth 65536 in
theorem w_c1 : (Jvm.Cond.code ({ cls := "com/example/meerkat/meerkat/model/Circuit", name := "holds", desc := "(I[Z)Z" } : Jvm.MethodName) prog_19_method_7_code (2 : Nat) (Option.some Jvm.ClassFile.FieldType.boolean)).before args0 about1 = true := code_word (m := ⟨2, 0⟩) (meth := k2m0) (c := k2c0) (by decide +kernel) rfl rfl rfl (by decide +kernel)
set_option maxRecDepth 65536 in
theorem w_c2 : (Jvm.Cond.code ({ cls := "java/lang/Math", name := "abs", desc := "(I)I" } : Jvm.MethodName) jdk_29_method_59_code (1 : Nat) (Option.some Jvm.ClassFile.FieldType.int)).before args0 about1 = true := code_word (m := ⟨3, 1⟩) (meth := k3m1) (c := k3c1) (by decide +kernel) rfl rfl rfl (by decide +kernel)
def codes1 : List Jvm.Cond := [Jvm.Cond.code x code maxLocals ret, Jvm.Cond.code ({ cls := "com/example/meerkat/meerkat/model/Circuit", name := "holds", desc := "(I[Z)Z" } : Jvm.MethodName) prog_19_method_7_code (2 : Nat) (Option.some Jvm.ClassFile.FieldType.boolean), Jvm.Cond.code ({ cls := "java/lang/Math", name := "abs", desc := "(I)I" } : Jvm.MethodName) jdk_29_method_59_code (1 : Nat) (Option.some Jvm.ClassFile.FieldType.int)]
set_option maxRecDepth 65536 in
theorem codes_eq : words1.filter isCode = codes1 := rfl
theorem w_codes : ∀ c ∈ words1.filter isCode, c.before args0 about1 = true := by
  rw [codes_eq]
  intro c hc
  simp only [codes1, List.mem_cons, List.not_mem_nil, or_false] at hc
  rcases hc with rfl | rfl | rfl
  · exact w_c0
  · exact w_c1
  · exact w_c2
set_option maxRecDepth 65536 in
theorem w_t1 : words1.all (fun c => isCode c || c.before args0 about1) = true := by decide +kernel
theorem w_tables : (allAtoms (Jvm.Cond.code x code maxLocals ret :: tables_1)).before args0 about1 = true := by
  rw [allAtoms_all]
  show words1.all (fun c => c.before args0 about1) = true
  refine all_split ?_ w_codes
  rw [w_t1]
set_option maxRecDepth 65536 in
theorem w_case : (Jvm.Cond.and given_1 narrow_1).before args0 about1 = true := by decide +kernel
theorem w_applies : (headSpec (Jvm.Cond.code x code maxLocals ret :: tables_1) room_1).applies x e0.platform about1 = true :=
  (Spec.applies_iff w_frames).mpr ⟨w_running, w_runnable, w_alone, w_named, w_hears, w_ripe, w_room, w_tables⟩
theorem atStart : AtStart classFile x code maxLocals ret World_1 tables_1 room_1 Calls_1 rest_1 Pre_1 launch0 p0 e0 about1 theMethod args0 below0 :=
  ⟨lists_1, trivial, launch0.admits_env _ _ _, launch0.least_env, fairChoices_fair.cas, fairChoices_fair.clock, w_frames, w_args, w_heap, w_applies, trivial, trivial, w_case⟩
end start1
theorem witness_1 : WitnessClaimed_1 := ⟨start1.p0, start1.e0, start1.about1, start1.theMethod, start1.args0, start1.below0, start1.atStart⟩
end Jvm.Pilot.@@N@@
