import JvmDerived
import JvmDerived.Pilot.@@N@@Statement
import JvmDerived.Pilot.@@N@@Code
set_option linter.unusedVariables false
set_option linter.unusedSimpArgs false
namespace Jvm.RoadKit
open Sem ClassFile Op Lib Jvm.Stand Jvm.Free Jvm.LawKit
section New
variable {p : Program} {l : Launch} {e : Env} {R : Room} {s : State} {m : MethodId} {args : Array Value} {below : List Frame} {meth : Method} {c : Code} {T : State} {locs : List Loc} {cells slots : Nat}
theorem retI (X : Stand p l e R s m args below meth c T locs cells slots) (hx : p.tables.exec = Jvm.exec) {pc : Nat} {Ls : Array Slot} {z : Int32} {rest : List Value} (hret : meth.sig.returnType = some .int) (hd : decode c.code pc = .ok (.ireturn, 1)) {fs : List Frame}
    (hl : ∀ (f : JFrame) (acts : List Action), f.method = m → f.locked = none → f.entered = [] → (doReturn e (T.setTop f) acts (some (.int z))).1 = T.setFrames fs) : Steps p.tables e below (T.setTop (mkF m pc Ls (.int z :: rest))) (T.setFrames fs) := by
  have hm' : T.vm.method? m = some meth := X.method'
  have hn : narrow .int (.int z) = .int z := rfl
  show Steps p.tables e below (T.setTop { method := m, pc := pc, locals := Ls, stack := _ :: rest, locked := none }) _
  jvm_step X.here [X.here.top, hx, hd, hm', hret, hn]
  first | (intro acts; rw [hl _ acts rfl rfl rfl]) | rw [hl _ _ rfl rfl rfl]
  exact Steps.refl _
end New
end Jvm.RoadKit
namespace Jvm.Pilot.@@N@@
open Jvm Jvm.ClassFile Sem Op Lib Jvm.Free Jvm.Stand Jvm.LawKit Jvm.RoadKit Bundle Jvm.Pilot.@@N@@.Jvm.D
theorem own_ite01 {c : Prop} [Decidable c] {a b : Int32} (ha : a = 0 ∨ a = 1) (hb : b = 0 ∨ b = 1) : (if c then a else b) = 0 ∨ (if c then a else b) = 1 := by split <;> assumption
theorem own_nz {r : Int32} (h : r = 0 ∨ r = 1) : nar .boolean r = r := by rcases h with rfl | rfl <;> rfl
section own
variable {p : Program} {l : Launch} {e : Env} {R : Room} {s : State} {m : MethodId} {args : Array Value} {below : List Frame} {meth : Method} {c : Code} {T : State} {locs : List Loc} {cells slots : Nat} {Z : State} {h h' h0 : Heap} {a b : Addr} {k : ClassId} {ty : FieldType} {n : Int32} {vs : List Int32} {ls : List Int64} {sl : Nat} {v : Value} {ws : List Addr}
/-- an array of ints (or bytes, chars, shorts, booleans), by its list -/
def IA (Z : State) (h : Heap) (a : Addr) (k : ClassId) (ty : FieldType) (n : Int32) (vs : List Int32) : Prop := Arv Z h a k ty n (vs.map Value.int) (.int 0) ∧ vs.length = n.toNatClampNeg
def LA (Z : State) (h : Heap) (a : Addr) (k : ClassId) (n : Int32) (ls : List Int64) : Prop := Arv Z h a k .long n (ls.map Value.long) (.long 0) ∧ ls.length = n.toNatClampNeg
theorem IA.lt (F : IA Z h a k ty n vs) : a < h.size := F.1.lt
theorem IA.ext (F : IA Z h a k ty n vs) (E : Ext h h') : IA Z h' a k ty n vs := ⟨F.1.ext E, F.2⟩
theorem IA.other (F : IA Z h b k ty n vs) (W : Wr h h' a sl v) (q : b ≠ a) : IA Z h' b k ty n vs := ⟨F.1.other W q, F.2⟩
theorem IA.keep (F : IA Z h a k ty n vs) (K : Keep h h' ws) (q : a ∉ ws) : IA Z h' a k ty n vs := ⟨F.1.keep K q, F.2⟩
theorem LA.lt (F : LA Z h a k n ls) : a < h.size := F.1.lt
theorem LA.ext (F : LA Z h a k n ls) (E : Ext h h') : LA Z h' a k n ls := ⟨F.1.ext E, F.2⟩
theorem LA.other (F : LA Z h b k n ls) (W : Wr h h' a sl v) (q : b ≠ a) : LA Z h' b k n ls := ⟨F.1.other W q, F.2⟩
theorem LA.keep (F : LA Z h a k n ls) (K : Keep h h' ws) (q : a ∉ ws) : LA Z h' a k n ls := ⟨F.1.keep K q, F.2⟩
theorem IA.new (A : Arr Z h a (newA k ty n) ty) (q : ¬ n < 0) (hd : defaultValue ty = .int 0) {c : Nat} (hc : n.toNatClampNeg = c) : IA Z h a k ty n (List.replicate c 0) := by
  refine ⟨?_, by rw [List.length_replicate, hc]⟩
  have F := Arv.new A q
  rw [hd] at F
  rw [List.map_replicate]
  exact F.pad (pad_rep [] (.int 0) c)
theorem LA.new (A : Arr Z h a (newA k .long n) .long) (q : ¬ n < 0) {c : Nat} (hc : n.toNatClampNeg = c) : LA Z h a k n (List.replicate c 0) := by
  refine ⟨?_, by rw [List.length_replicate, hc]⟩
  have F : Arv Z h a k .long n [] (.long 0) := Arv.new A q
  rw [List.map_replicate]
  exact F.pad (pad_rep [] (.long 0) c)
theorem own_getI (vs : List Int32) (i : Nat) : (vs.map Value.int).getD i (.int 0) = .int (vs.getD i 0) := by
  simp only [List.getD_eq_getElem?_getD, List.getElem?_map]; cases vs[i]? <;> rfl
theorem own_getL (vs : List Int64) (i : Nat) : (vs.map Value.long).getD i (.long 0) = .long (vs.getD i 0) := by
  simp only [List.getD_eq_getElem?_getD, List.getElem?_map]; cases vs[i]? <;> rfl
theorem IA.inb {cl : Cell} {j : Int32} {i : Nat} (S : cl.slots.size = n.toNatClampNeg) (hl : vs.length = n.toNatClampNeg) (hj : j.toNatClampNeg = i) (hn : ¬ j < 0) (hi : i < vs.length) : ¬ (j < 0 ∨ cl.slots.size ≤ j.toNatClampNeg) := by
  rintro (q | q)
  · exact hn q
  · rw [S, ← hl, hj] at q; omega
theorem LA.inb {cl : Cell} {j : Int32} {i : Nat} (S : cl.slots.size = n.toNatClampNeg) (hl : ls.length = n.toNatClampNeg) (hj : j.toNatClampNeg = i) (hn : ¬ j < 0) (hi : i < ls.length) : ¬ (j < 0 ∨ cl.slots.size ≤ j.toNatClampNeg) := by
  rintro (q | q)
  · exact hn q
  · rw [S, ← hl, hj] at q; omega
theorem IA.at {cl : Cell} {j : Int32} {i : Nat} {w : Int32} (H : Has cl (vs.map Value.int) (.int 0)) (S : cl.slots.size = n.toNatClampNeg) (hl : vs.length = n.toNatClampNeg) (hj : j.toNatClampNeg = i) (hi : i < vs.length) (hw : vs.getD i 0 = w) : cl.slots[j.toNatClampNeg]? = some (.int w) := by
  rw [H _ (by rw [S, ← hl, hj]; exact hi), own_getI, hj, hw]
theorem LA.at {cl : Cell} {j : Int32} {i : Nat} {w : Int64} (H : Has cl (ls.map Value.long) (.long 0)) (S : cl.slots.size = n.toNatClampNeg) (hl : ls.length = n.toNatClampNeg) (hj : j.toNatClampNeg = i) (hi : i < ls.length) (hw : ls.getD i 0 = w) : cl.slots[j.toNatClampNeg]? = some (.long w) := by
  rw [H _ (by rw [S, ← hl, hj]; exact hi), own_getL, hj, hw]
theorem ia_ldI (X : Stand p l e R s m args below meth c T locs cells slots) (hx : p.tables.exec = Jvm.exec) (hZ : Z.Warmed39 s.vm) (eT : T.heap = h) (A : IA Z h a k .int n vs) {j : Int32} (i : Nat) (hj : j.toNatClampNeg = i) (hn : ¬ j < 0) (hi : i < vs.length) {w : Int32} (hw : vs.getD i 0 = w) {g : JFrame} (hg : g.method = m) {rest : List Value} (hs : g.stack = .int j :: .ref a :: rest) (hd : decode c.code g.pc = .ok (.iaload, 1)) (target : State)
    (q : Steps p.tables e below (T.setTop { g with pc := g.pc + 1, stack := .int w :: rest }) target) : Steps p.tables e below (T.setTop g) target := by
  obtain ⟨⟨cl, Ar, -, S, -, H, -⟩, hl⟩ := A
  exact X.iaload hx (by rw [eT]; exact Ar.1) (State.isArrayOf_alike hZ.alike Ar.2.1) Ar.2.2 (IA.inb S hl hj hn hi) (IA.at H S hl hj hi hw) hg hs hd target q
theorem ia_ldC (X : Stand p l e R s m args below meth c T locs cells slots) (hx : p.tables.exec = Jvm.exec) (hZ : Z.Warmed39 s.vm) (eT : T.heap = h) (A : IA Z h a k .char n vs) {j : Int32} (i : Nat) (hj : j.toNatClampNeg = i) (hn : ¬ j < 0) (hi : i < vs.length) {w : Int32} (hw : vs.getD i 0 = w) {g : JFrame} (hg : g.method = m) {rest : List Value} (hs : g.stack = .int j :: .ref a :: rest) (hd : decode c.code g.pc = .ok (.caload, 1)) (target : State)
    (q : Steps p.tables e below (T.setTop { g with pc := g.pc + 1, stack := .int w :: rest }) target) : Steps p.tables e below (T.setTop g) target := by
  obtain ⟨⟨cl, Ar, -, S, -, H, -⟩, hl⟩ := A
  exact X.caload hx (by rw [eT]; exact Ar.1) (State.isArrayOf_alike hZ.alike Ar.2.1) Ar.2.2 (IA.inb S hl hj hn hi) (IA.at H S hl hj hi hw) hg hs hd target q
theorem ia_ldS (X : Stand p l e R s m args below meth c T locs cells slots) (hx : p.tables.exec = Jvm.exec) (hZ : Z.Warmed39 s.vm) (eT : T.heap = h) (A : IA Z h a k .short n vs) {j : Int32} (i : Nat) (hj : j.toNatClampNeg = i) (hn : ¬ j < 0) (hi : i < vs.length) {w : Int32} (hw : vs.getD i 0 = w) {g : JFrame} (hg : g.method = m) {rest : List Value} (hs : g.stack = .int j :: .ref a :: rest) (hd : decode c.code g.pc = .ok (.saload, 1)) (target : State)
    (q : Steps p.tables e below (T.setTop { g with pc := g.pc + 1, stack := .int w :: rest }) target) : Steps p.tables e below (T.setTop g) target := by
  obtain ⟨⟨cl, Ar, -, S, -, H, -⟩, hl⟩ := A
  exact X.saload hx (by rw [eT]; exact Ar.1) (State.isArrayOf_alike hZ.alike Ar.2.1) Ar.2.2 (IA.inb S hl hj hn hi) (IA.at H S hl hj hi hw) hg hs hd target q
theorem ia_ldB (X : Stand p l e R s m args below meth c T locs cells slots) (hx : p.tables.exec = Jvm.exec) (hZ : Z.Warmed39 s.vm) (eT : T.heap = h) (A : IA Z h a k .byte n vs) {j : Int32} (i : Nat) (hj : j.toNatClampNeg = i) (hn : ¬ j < 0) (hi : i < vs.length) {w : Int32} (hw : vs.getD i 0 = w) {g : JFrame} (hg : g.method = m) {rest : List Value} (hs : g.stack = .int j :: .ref a :: rest) (hd : decode c.code g.pc = .ok (.baload, 1)) (target : State)
    (q : Steps p.tables e below (T.setTop { g with pc := g.pc + 1, stack := .int w :: rest }) target) : Steps p.tables e below (T.setTop g) target := by
  obtain ⟨⟨cl, Ar, -, S, -, H, -⟩, hl⟩ := A
  exact X.baloadBytes hx (by rw [eT]; exact Ar.1) (State.isArrayOf_alike hZ.alike Ar.2.1) Ar.2.2 (IA.inb S hl hj hn hi) (IA.at H S hl hj hi hw) hg hs hd target q
theorem ia_ldZ (X : Stand p l e R s m args below meth c T locs cells slots) (hx : p.tables.exec = Jvm.exec) (hZ : Z.Warmed39 s.vm) (eT : T.heap = h) (A : IA Z h a k .boolean n vs) {j : Int32} (i : Nat) (hj : j.toNatClampNeg = i) (hn : ¬ j < 0) (hi : i < vs.length) {w : Int32} (hw : vs.getD i 0 = w) {g : JFrame} (hg : g.method = m) {rest : List Value} (hs : g.stack = .int j :: .ref a :: rest) (hd : decode c.code g.pc = .ok (.baload, 1)) (target : State)
    (q : Steps p.tables e below (T.setTop { g with pc := g.pc + 1, stack := .int w :: rest }) target) : Steps p.tables e below (T.setTop g) target := by
  obtain ⟨⟨cl, Ar, -, S, -, H, -⟩, hl⟩ := A
  exact X.baloadBooleans hx (by rw [eT]; exact Ar.1) (State.isArrayOf_alike hZ.alike Ar.2.1) Ar.2.2 (IA.inb S hl hj hn hi) (IA.at H S hl hj hi hw) hg hs hd target q
theorem la_ldJ (X : Stand p l e R s m args below meth c T locs cells slots) (hx : p.tables.exec = Jvm.exec) (hZ : Z.Warmed39 s.vm) (eT : T.heap = h) (A : LA Z h a k n ls) {j : Int32} (i : Nat) (hj : j.toNatClampNeg = i) (hn : ¬ j < 0) (hi : i < ls.length) {w : Int64} (hw : ls.getD i 0 = w) {g : JFrame} (hg : g.method = m) {rest : List Value} (hs : g.stack = .int j :: .ref a :: rest) (hd : decode c.code g.pc = .ok (.laload, 1)) (target : State)
    (q : Steps p.tables e below (T.setTop { g with pc := g.pc + 1, stack := .long w :: rest }) target) : Steps p.tables e below (T.setTop g) target := by
  obtain ⟨⟨cl, Ar, -, S, -, H, -⟩, hl⟩ := A
  exact X.laload hx (by rw [eT]; exact Ar.1) (State.isArrayOf_alike hZ.alike Ar.2.1) Ar.2.2 (LA.inb S hl hj hn hi) (LA.at H S hl hj hi hw) hg hs hd target q
theorem ia_len (X : Stand p l e R s m args below meth c T locs cells slots) (hx : p.tables.exec = Jvm.exec) (hZ : Z.Warmed39 s.vm) (eT : T.heap = h) (A : IA Z h a k ty n vs) {g : JFrame} (hg : g.method = m) {rest : List Value} (hs : g.stack = .ref a :: rest) (hd : decode c.code g.pc = .ok (.arraylength, 1)) (target : State)
    (q : Steps p.tables e below (T.setTop { g with pc := g.pc + 1, stack := .int n :: rest }) target) : Steps p.tables e below (T.setTop g) target := by
  obtain ⟨⟨cl, Ar, -, S, N, H, -⟩, hl⟩ := A
  refine X.arraylength hx (by rw [eT]; exact Ar.1) (State.isArrayOf_alike hZ.alike Ar.2.1) hg hs hd target ?_
  rw [len_of S N]; exact q
theorem la_len (X : Stand p l e R s m args below meth c T locs cells slots) (hx : p.tables.exec = Jvm.exec) (hZ : Z.Warmed39 s.vm) (eT : T.heap = h) (A : LA Z h a k n ls) {g : JFrame} (hg : g.method = m) {rest : List Value} (hs : g.stack = .ref a :: rest) (hd : decode c.code g.pc = .ok (.arraylength, 1)) (target : State)
    (q : Steps p.tables e below (T.setTop { g with pc := g.pc + 1, stack := .int n :: rest }) target) : Steps p.tables e below (T.setTop g) target := by
  obtain ⟨⟨cl, Ar, -, S, N, H, -⟩, hl⟩ := A
  refine X.arraylength hx (by rw [eT]; exact Ar.1) (State.isArrayOf_alike hZ.alike Ar.2.1) hg hs hd target ?_
  rw [len_of S N]; exact q
theorem IA.put {cl : Cell} {j : Int32} {i : Nat} {y : Int32} (Ar : Arr Z h a cl ty) (q1 : cl.cls = k) (S : cl.slots.size = n.toNatClampNeg) (N : ¬ n < 0) (H : Has cl (vs.map Value.int) (.int 0)) (G : ∀ i, i < cl.slots.size → fits ty ((vs.map Value.int).getD i (.int 0)) = true) (hl : vs.length = n.toNatClampNeg) (hv : fits ty (.int y) = true) (W : Wr h h' a j.toNatClampNeg (.int y)) (hj : j.toNatClampNeg = i) (hi : i < vs.length) : IA Z h' a k ty n (vs.set i y) := by
  refine ⟨?_, by rw [List.length_set]; exact hl⟩
  have := Arv.set Ar q1 S N H G hv W i hj (by rw [List.length_map]; exact hi)
  rwa [← List.map_set] at this
theorem LA.put {cl : Cell} {j : Int32} {i : Nat} {y : Int64} (Ar : Arr Z h a cl .long) (q1 : cl.cls = k) (S : cl.slots.size = n.toNatClampNeg) (N : ¬ n < 0) (H : Has cl (ls.map Value.long) (.long 0)) (G : ∀ i, i < cl.slots.size → fits .long ((ls.map Value.long).getD i (.long 0)) = true) (hl : ls.length = n.toNatClampNeg) (W : Wr h h' a j.toNatClampNeg (.long y)) (hj : j.toNatClampNeg = i) (hi : i < ls.length) : LA Z h' a k n (ls.set i y) := by
  refine ⟨?_, by rw [List.length_set]; exact hl⟩
  have := Arv.set Ar q1 S N H G rfl W i hj (by rw [List.length_map]; exact hi)
  rwa [← List.map_set] at this
theorem ia_stI (X : Stand p l e R s m args below meth c T locs cells slots) (hx : p.tables.exec = Jvm.exec) (hZ : Z.Warmed39 s.vm) (eT : T.heap = h) (A : IA Z h a k .int n vs) {j : Int32} (i : Nat) (hj : j.toNatClampNeg = i) (hn : ¬ j < 0) (hi : i < vs.length) {x : Int32} {g : JFrame} (hg : g.method = m) {rest : List Value} (hs : g.stack = .int x :: .int j :: .ref a :: rest) (hd : decode c.code g.pc = .ok (.iastore, 1)) :
    ∃ T' h', Stand p l e R s m args below meth c T' (locs ++ [⟨a, j.toNatClampNeg⟩]) cells slots ∧ T'.heap = h' ∧ Wr h h' a j.toNatClampNeg (.int x) ∧ IA Z h' a k .int n (vs.set i x) ∧ ∀ target, Steps p.tables e below (T'.setTop { g with pc := g.pc + 1, stack := rest }) target → Steps p.tables e below (T.setTop g) target := by
  obtain ⟨⟨cl, Ar, q1, S, N, H, G⟩, hl⟩ := A
  obtain ⟨T', h', X', e', W, st⟩ := stI X hx hZ eT Ar (IA.inb S hl hj hn hi) hg hs hd
  exact ⟨T', h', X', e', W, IA.put Ar q1 S N H G hl rfl W hj hi, st⟩
theorem la_stJ (X : Stand p l e R s m args below meth c T locs cells slots) (hx : p.tables.exec = Jvm.exec) (hZ : Z.Warmed39 s.vm) (eT : T.heap = h) (A : LA Z h a k n ls) {j : Int32} (i : Nat) (hj : j.toNatClampNeg = i) (hn : ¬ j < 0) (hi : i < ls.length) {x : Int64} {g : JFrame} (hg : g.method = m) {rest : List Value} (hs : g.stack = .long x :: .int j :: .ref a :: rest) (hd : decode c.code g.pc = .ok (.lastore, 1)) :
    ∃ T' h', Stand p l e R s m args below meth c T' (locs ++ [⟨a, j.toNatClampNeg⟩]) cells slots ∧ T'.heap = h' ∧ Wr h h' a j.toNatClampNeg (.long x) ∧ LA Z h' a k n (ls.set i x) ∧ ∀ target, Steps p.tables e below (T'.setTop { g with pc := g.pc + 1, stack := rest }) target → Steps p.tables e below (T.setTop g) target := by
  obtain ⟨⟨cl, Ar, q1, S, N, H, G⟩, hl⟩ := A
  obtain ⟨T', h', X', e', W, st⟩ := stJ X hx hZ eT Ar (LA.inb S hl hj hn hi) hg hs hd
  exact ⟨T', h', X', e', W, LA.put Ar q1 S N H G hl W hj hi, st⟩
theorem ia_stC (X : Stand p l e R s m args below meth c T locs cells slots) (hx : p.tables.exec = Jvm.exec) (hZ : Z.Warmed39 s.vm) (eT : T.heap = h) (A : IA Z h a k .char n vs) {j : Int32} (i : Nat) (hj : j.toNatClampNeg = i) (hn : ¬ j < 0) (hi : i < vs.length) {x y : Int32} (hy : nar .char x = y) {g : JFrame} (hg : g.method = m) {rest : List Value} (hs : g.stack = .int x :: .int j :: .ref a :: rest) (hd : decode c.code g.pc = .ok (.castore, 1)) :
    ∃ T' h', Stand p l e R s m args below meth c T' (locs ++ [⟨a, j.toNatClampNeg⟩]) cells slots ∧ T'.heap = h' ∧ Wr h h' a j.toNatClampNeg (.int y) ∧ IA Z h' a k .char n (vs.set i y) ∧ ∀ target, Steps p.tables e below (T'.setTop { g with pc := g.pc + 1, stack := rest }) target → Steps p.tables e below (T.setTop g) target := by
  subst hy
  obtain ⟨⟨cl, Ar, q1, S, N, H, G⟩, hl⟩ := A
  obtain ⟨T', h', X', e', W, st⟩ := stC X hx hZ eT Ar (IA.inb S hl hj hn hi) hg hs hd
  exact ⟨T', h', X', e', W, IA.put Ar q1 S N H G hl (fits_nar_char _) W hj hi, st⟩
theorem ia_stS (X : Stand p l e R s m args below meth c T locs cells slots) (hx : p.tables.exec = Jvm.exec) (hZ : Z.Warmed39 s.vm) (eT : T.heap = h) (A : IA Z h a k .short n vs) {j : Int32} (i : Nat) (hj : j.toNatClampNeg = i) (hn : ¬ j < 0) (hi : i < vs.length) {x y : Int32} (hy : nar .short x = y) {g : JFrame} (hg : g.method = m) {rest : List Value} (hs : g.stack = .int x :: .int j :: .ref a :: rest) (hd : decode c.code g.pc = .ok (.sastore, 1)) :
    ∃ T' h', Stand p l e R s m args below meth c T' (locs ++ [⟨a, j.toNatClampNeg⟩]) cells slots ∧ T'.heap = h' ∧ Wr h h' a j.toNatClampNeg (.int y) ∧ IA Z h' a k .short n (vs.set i y) ∧ ∀ target, Steps p.tables e below (T'.setTop { g with pc := g.pc + 1, stack := rest }) target → Steps p.tables e below (T.setTop g) target := by
  subst hy
  obtain ⟨⟨cl, Ar, q1, S, N, H, G⟩, hl⟩ := A
  obtain ⟨T', h', X', e', W, st⟩ := stS X hx hZ eT Ar (IA.inb S hl hj hn hi) hg hs hd
  exact ⟨T', h', X', e', W, IA.put Ar q1 S N H G hl (fits_nar_short _) W hj hi, st⟩
theorem ia_stB (X : Stand p l e R s m args below meth c T locs cells slots) (hx : p.tables.exec = Jvm.exec) (hZ : Z.Warmed39 s.vm) (eT : T.heap = h) (A : IA Z h a k .byte n vs) {j : Int32} (i : Nat) (hj : j.toNatClampNeg = i) (hn : ¬ j < 0) (hi : i < vs.length) {x y : Int32} (hy : nar .byte x = y) {g : JFrame} (hg : g.method = m) {rest : List Value} (hs : g.stack = .int x :: .int j :: .ref a :: rest) (hd : decode c.code g.pc = .ok (.bastore, 1)) :
    ∃ T' h', Stand p l e R s m args below meth c T' (locs ++ [⟨a, j.toNatClampNeg⟩]) cells slots ∧ T'.heap = h' ∧ Wr h h' a j.toNatClampNeg (.int y) ∧ IA Z h' a k .byte n (vs.set i y) ∧ ∀ target, Steps p.tables e below (T'.setTop { g with pc := g.pc + 1, stack := rest }) target → Steps p.tables e below (T.setTop g) target := by
  subst hy
  obtain ⟨⟨cl, Ar, q1, S, N, H, G⟩, hl⟩ := A
  obtain ⟨T', h', X', e', W, st⟩ := stB X hx hZ eT Ar (IA.inb S hl hj hn hi) hg hs hd
  exact ⟨T', h', X', e', W, IA.put Ar q1 S N H G hl (fits_nar_byte _) W hj hi, st⟩
theorem ia_stZ (X : Stand p l e R s m args below meth c T locs cells slots) (hx : p.tables.exec = Jvm.exec) (hZ : Z.Warmed39 s.vm) (eT : T.heap = h) (A : IA Z h a k .boolean n vs) {j : Int32} (i : Nat) (hj : j.toNatClampNeg = i) (hn : ¬ j < 0) (hi : i < vs.length) {x y : Int32} (hy : nar .boolean x = y) {g : JFrame} (hg : g.method = m) {rest : List Value} (hs : g.stack = .int x :: .int j :: .ref a :: rest) (hd : decode c.code g.pc = .ok (.bastore, 1)) :
    ∃ T' h', Stand p l e R s m args below meth c T' (locs ++ [⟨a, j.toNatClampNeg⟩]) cells slots ∧ T'.heap = h' ∧ Wr h h' a j.toNatClampNeg (.int y) ∧ IA Z h' a k .boolean n (vs.set i y) ∧ ∀ target, Steps p.tables e below (T'.setTop { g with pc := g.pc + 1, stack := rest }) target → Steps p.tables e below (T.setTop g) target := by
  subst hy
  obtain ⟨⟨cl, Ar, q1, S, N, H, G⟩, hl⟩ := A
  obtain ⟨T', h', X', e', W, st⟩ := stZ X hx hZ eT Ar (IA.inb S hl hj hn hi) hg hs hd
  exact ⟨T', h', X', e', W, IA.put Ar q1 S N H G hl (fits_nar_bool _) W hj hi, st⟩
theorem own_out {A B : Pt} {w : Option Value} {rm : Room} {Q : Option Value → Heap → List Loc → Prop} (h : ∃ L, Q w B.U.heap L ∧ B.locs = A.locs ++ L ∧ B.cells = A.cells + rm.cells ∧ B.slots = A.slots + rm.slots) (X : Stand p l e R s m args below meth c B.U B.locs B.cells B.slots) : ∃ L, Q w B.U.heap L ∧ Stand p l e R s m args below meth c B.U (A.locs ++ L) (A.cells + rm.cells) (A.slots + rm.slots) := by
  obtain ⟨L, hQ, l, y, z⟩ := h
  rw [l, y, z] at X
  exact ⟨L, hQ, X⟩
end own
theorem own_or32 (n : Nat) : n ||| 32 = n + 32 * (1 - n / 32 % 2) := by
  have h1 : ∀ r < 64, r ||| 32 = r + 32 * (1 - r / 32 % 2) := by decide
  have h2 : n = 2 ^ 6 * (n / 64) + n % 64 := by omega
  have h3 : n % 64 < 2 ^ 6 := by omega
  have h4 : n % 64 ||| 32 < 2 ^ 6 := Nat.or_lt_two_pow h3 (by decide)
  have e : n ||| 32 = 2 ^ 6 * (n / 64) + (n % 64 ||| 32) := by
    rw [Nat.two_pow_add_eq_or_of_lt h4, ← Nat.or_assoc, ← Nat.two_pow_add_eq_or_of_lt h3, ← h2]
  have := h1 (n % 64) (by omega)
  omega
theorem own_char (x : Int32) : ∃ n : Nat, n < 65536 ∧ x.toUInt32.toUInt16.toUInt32.toInt32 = Int32.ofNat n := by
  refine ⟨x.toUInt32.toUInt16.toNat, x.toUInt32.toUInt16.toNat_lt, ?_⟩
  apply Int32.toBitVec_inj.mp
  apply BitVec.eq_of_toNat_eq
  show x.toUInt32.toUInt16.toUInt32.toNat = (BitVec.ofNat 32 _).toNat
  have := x.toUInt32.toUInt16.toNat_lt
  rw [BitVec.toNat_ofNat]
  simp only [UInt16.toNat_toUInt32]
  omega
theorem own_orN (a b : Nat) : Int32.ofNat a ||| Int32.ofNat b = Int32.ofNat (a ||| b) := by
  apply Int32.toBitVec_inj.mp
  show BitVec.ofNat 32 a ||| BitVec.ofNat 32 b = BitVec.ofNat 32 (a ||| b)
  apply BitVec.eq_of_toNat_eq
  simp [BitVec.toNat_or, Nat.or_mod_two_pow]
theorem own_tI {n : Nat} (h : n < 2147483648) : (Int32.ofNat n).toInt = n := Int32.toInt_ofNat_of_lt h
theorem own_sub {x y : Int32} (h1 : -2147483648 ≤ x.toInt - y.toInt) (h2 : x.toInt - y.toInt < 2147483648) : (x - y).toInt = x.toInt - y.toInt :=
  (Int32.toInt_sub x y).trans (Int.bmod_eq_of_le (by omega) (by omega))
theorem own_add {x y : Int32} (h1 : -2147483648 ≤ x.toInt + y.toInt) (h2 : x.toInt + y.toInt < 2147483648) : (x + y).toInt = x.toInt + y.toInt :=
  (Int32.toInt_add x y).trans (Int.bmod_eq_of_le (by omega) (by omega))
theorem own_mask31 (x : Int32) : 0 ≤ (x &&& (2147483647 : Int32)).toInt := by
  have h : (x &&& (2147483647 : Int32)).toBitVec.toNat < 2147483648 := by
    rw [Int32.toBitVec_and, BitVec.toNat_and]
    exact Nat.lt_of_le_of_lt Nat.and_le_right (by decide)
  show 0 ≤ (x &&& (2147483647 : Int32)).toBitVec.toInt
  rw [BitVec.toInt_eq_toNat_cond, if_pos (by omega)]
  omega
theorem own_lc1 (x y : Int64) : ((lcmpW x y) < (0 : Int32)) = (x < y) := by
  simp only [lcmpW, gt_iff_lt]
  by_cases h1 : y < x
  · rw [if_pos h1]
    have h2 : ¬ x < y := by rw [Int64.lt_iff_toInt_lt] at *; omega
    simp [h2]
  · rw [if_neg h1]
    by_cases h2 : x = y
    · rw [if_pos h2]; subst h2; simp
    · rw [if_neg h2]
      have h3 : x < y := by rw [← Int64.toInt_inj] at h2; rw [Int64.lt_iff_toInt_lt] at *; omega
      simp [h3]
theorem own_lc2 (x y : Int64) : ((0 : Int32) < (lcmpW x y)) = (y < x) := by
  simp only [lcmpW, gt_iff_lt]
  by_cases h1 : y < x
  · rw [if_pos h1]; simp [h1]
  · rw [if_neg h1]
    by_cases h2 : x = y
    · rw [if_pos h2]; subst h2; simp
    · rw [if_neg h2]; simp [h1]
theorem own_nn {n : Nat} (hn : n < 2147483648) : ¬ Int32.ofNat n < 0 := by
  rw [Int32.lt_iff_toInt_lt, own_tI hn, show (0 : Int32).toInt = 0 from rfl]; omega
theorem own_n32 {n : Nat} (hn : n < 2147483648) : (Int32.ofNat n).toNatClampNeg = n := by
  rw [Int32.toNatClampNeg, own_tI hn]; rfl
theorem own_ofI {x : Int32} (h : 0 ≤ x.toInt) : x = Int32.ofNat x.toInt.toNat := by
  apply Int32.toInt_inj.mp
  have := x.toInt_lt
  rw [own_tI (by omega)]; omega
/-- Java's x % d for x that isn't negative -/
theorem own_rem (x d : Int32) (hx : 0 ≤ x.toInt) (hd : 0 < d.toInt) : (x - (x / d) * d).toInt = x.toInt % d.toInt := by
  have b1 := x.toInt_lt; have b2 := d.toInt_lt
  have hq : (x / d).toInt = x.toInt / d.toInt := by
    rw [Int32.toInt_div, Int.tdiv_eq_ediv_of_nonneg hx]
    have h1 : 0 ≤ x.toInt / d.toInt := Int.ediv_nonneg hx (Int.le_of_lt hd)
    have h2 : x.toInt / d.toInt ≤ x.toInt := Int.ediv_le_self _ hx
    exact Int.bmod_eq_of_le (by omega) (by omega)
  have hm : (x / d * d).toInt = x.toInt / d.toInt * d.toInt := by
    rw [Int32.toInt_mul, hq]
    have h1 : 0 ≤ x.toInt / d.toInt * d.toInt := Int.mul_nonneg (Int.ediv_nonneg hx (Int.le_of_lt hd)) (Int.le_of_lt hd)
    have h2 : x.toInt / d.toInt * d.toInt ≤ x.toInt := Int.ediv_mul_le _ (by omega)
    exact Int.bmod_eq_of_le (by omega) (by omega)
  have h3 := Int.emod_add_mul_ediv x.toInt d.toInt
  rw [Int.mul_comm] at h3
  have h4 := Int.emod_nonneg x.toInt (show d.toInt ≠ 0 by omega)
  have h5 := Int.emod_lt_of_pos x.toInt hd
  rw [own_sub (by omega) (by omega), hm]; omega
theorem own_ix {p : Int32} {i j : Nat} (hk : p = Int32.ofNat i) (hb : i + j < 2147483648) : (p + Int32.ofNat j).toNatClampNeg = i + j ∧ ¬ (p + Int32.ofNat j) < 0 := by
  subst hk; rw [← Int32.ofNat_add]; exact ⟨own_n32 hb, own_nn hb⟩
theorem own_narB (x : Int32) : nar .byte (x.toInt8.toInt32) = x.toInt8.toInt32 := by
  show x.toInt8.toInt32.toInt8.toInt32 = x.toInt8.toInt32
  rw [Int8.toInt8_toInt32]
theorem own_lc0 (x : Int64) : (lcmpW x x) = (0 : Int32) := by simp [lcmpW]
theorem own_ltN {i j : Nat} (h : i < j) (hj : j < 2147483648) : Int32.ofNat i < Int32.ofNat j := by
  rw [Int32.lt_iff_toInt_lt, own_tI (by omega), own_tI hj]; omega
theorem own_nltN {i j : Nat} (h : ¬ i < j) (hi : i < 1000000) (hj : j < 1000000) : ¬ Int32.ofNat i < Int32.ofNat j := by
  rw [Int32.lt_iff_toInt_lt, own_tI (by omega), own_tI (by omega)]; omega
theorem own_one {i : Nat} : Int32.ofNat i + (1 : Int32) = Int32.ofNat (i + 1) := (Int32.ofNat_add i 1).symm
theorem own_andN (x : Int32) (k : Nat) (hk : k < 2147483648) : ∃ q : Nat, q ≤ k ∧ (x &&& Int32.ofNat k) = Int32.ofNat q := by
  refine ⟨(x &&& Int32.ofNat k).toBitVec.toNat, ?_, ?_⟩
  · rw [Int32.toBitVec_and, BitVec.toNat_and]
    refine Nat.le_trans Nat.and_le_right ?_
    show (BitVec.ofNat 32 k).toNat ≤ k
    rw [BitVec.toNat_ofNat]; exact Nat.mod_le _ _
  · apply Int32.toBitVec_inj.mp
    show _ = BitVec.ofNat 32 _
    rw [BitVec.ofNat_toNat]; simp
theorem own_mid {i j : Nat} (h : i + j < 2147483648) : ((Int32.ofNat i + Int32.ofNat j).toUInt32 >>> ((1 : Int32) &&& 31).toUInt32).toInt32 = Int32.ofNat ((i + j) / 2) := by
  rw [← Int32.ofNat_add]
  apply Int32.toBitVec_inj.mp
  show (BitVec.ofNat 32 (i + j)) >>> _ = BitVec.ofNat 32 ((i + j) / 2)
  apply BitVec.eq_of_toNat_eq
  rw [show (((1 : Int32) &&& 31).toUInt32.mod 32).toBitVec = 1#32 from by decide]
  rw [BitVec.toNat_ofNat, show (BitVec.ofNat 32 (i + j) >>> 1#32).toNat = (BitVec.ofNat 32 (i + j)).toNat >>> 1 from rfl, BitVec.toNat_ofNat, Nat.shiftRight_eq_div_pow]
  omega
theorem own_ofinj {a b : Nat} (ha : a < 2147483648) (hb : b < 2147483648) (h : Int32.ofNat a = Int32.ofNat b) : a = b := by
  have := congrArg Int32.toInt h
  rw [own_tI ha, own_tI hb] at this; omega
section own2
variable {p : Program} {l : Launch} {e : Env} {R : Room} {s : State} {m : MethodId} {args : Array Value} {below : List Frame} {meth : Method} {c : Code} {T : State} {locs : List Loc} {cells slots : Nat} {Z : State} {a0 : Array Value} {h h' h0 : Heap} {a b : Addr} {vs us : List Int32} {sl : Nat} {v : Value} {ws : List Addr}
/-- a byte[] by its list -/
def BA (Z : State) (h : Heap) (a : Addr) (vs : List Int32) : Prop := (∃ k, IA Z h a k .byte (Int32.ofNat vs.length) vs) ∧ Exa Z h a "[B" ∧ vs.length < 1000000
theorem BA.lt (F : BA Z h a vs) : a < h.size := F.2.1.lt
theorem BA.ext (F : BA Z h a vs) (E : Ext h h') : BA Z h' a vs := by obtain ⟨⟨k, A⟩, X, q⟩ := F; exact ⟨⟨k, A.ext E⟩, X.ext E, q⟩
theorem BA.other (F : BA Z h b vs) (W : Wr h h' a sl v) (q : b ≠ a) : BA Z h' b vs := by obtain ⟨⟨k, A⟩, X, r⟩ := F; exact ⟨⟨k, A.other W q⟩, X.wr W, r⟩
theorem BA.keep (F : BA Z h a vs) (K : Keep h h' ws) (q : a ∉ ws) : BA Z h' a vs := by obtain ⟨⟨k, A⟩, X, r⟩ := F; exact ⟨⟨k, A.keep K q⟩, X.keep K, r⟩
theorem BA.eq (F : BA Z h a vs) (q : vs = us) : BA Z h a us := q ▸ F
theorem ba_ld (X : Stand p l e R s m args below meth c T locs cells slots) (hx : p.tables.exec = Jvm.exec) (hZ : Z.Warmed39 s.vm) (eT : T.heap = h) (A : BA Z h a vs) {j : Int32} (i : Nat) (hj : j = Int32.ofNat i) (hi : i < vs.length) {w : Int32} (hw : vs.getD i 0 = w) {g : JFrame} (hg : g.method = m) {rest : List Value} (hs : g.stack = .int j :: .ref a :: rest) (hd : decode c.code g.pc = .ok (.baload, 1)) (target : State)
    (q : Steps p.tables e below (T.setTop { g with pc := g.pc + 1, stack := .int w :: rest }) target) : Steps p.tables e below (T.setTop g) target := by
  obtain ⟨⟨k, A⟩, E, r⟩ := A
  exact ia_ldB X hx hZ eT A i (by rw [hj]; exact own_n32 (by omega)) (by rw [hj]; exact own_nn (by omega)) hi hw hg hs hd target q
theorem ba_len (X : Stand p l e R s m args below meth c T locs cells slots) (hx : p.tables.exec = Jvm.exec) (hZ : Z.Warmed39 s.vm) (eT : T.heap = h) (A : BA Z h a vs) {g : JFrame} (hg : g.method = m) {rest : List Value} (hs : g.stack = .ref a :: rest) (hd : decode c.code g.pc = .ok (.arraylength, 1)) (target : State)
    (q : Steps p.tables e below (T.setTop { g with pc := g.pc + 1, stack := .int (Int32.ofNat vs.length) :: rest }) target) : Steps p.tables e below (T.setTop g) target := by
  obtain ⟨⟨k, A⟩, E, r⟩ := A
  exact ia_len X hx hZ eT A hg hs hd target q
theorem ba_st (X : Stand p l e R s m args below meth c T locs cells slots) (hx : p.tables.exec = Jvm.exec) (hZ : Z.Warmed39 s.vm) (eT : T.heap = h) (A : BA Z h a vs) {j : Int32} (i : Nat) (hj : j = Int32.ofNat i) (hi : i < vs.length) {x y : Int32} (hy : nar .byte x = y) {g : JFrame} (hg : g.method = m) {rest : List Value} (hs : g.stack = .int x :: .int j :: .ref a :: rest) (hd : decode c.code g.pc = .ok (.bastore, 1)) :
    ∃ T' h', Stand p l e R s m args below meth c T' (locs ++ [⟨a, j.toNatClampNeg⟩]) cells slots ∧ T'.heap = h' ∧ Wr h h' a j.toNatClampNeg (.int y) ∧ BA Z h' a (vs.set i y) ∧ ∀ target, Steps p.tables e below (T'.setTop { g with pc := g.pc + 1, stack := rest }) target → Steps p.tables e below (T.setTop g) target := by
  obtain ⟨⟨k, A⟩, E, r⟩ := A
  obtain ⟨T', h', X', e', W, V, st⟩ := ia_stB X hx hZ eT A i (by rw [hj]; exact own_n32 (by omega)) (by rw [hj]; exact own_nn (by omega)) hi hy hg hs hd
  exact ⟨T', h', X', e', W, ⟨⟨k, by rw [List.length_set]; exact V⟩, E.wr W, by rw [List.length_set]; exact r⟩, st⟩
theorem ba_new (X : Stand p l e R s m args below meth c T locs cells slots) (hx : p.tables.exec = Jvm.exec) (hZ : Z.Warmed39 s.vm) (w : (Cond.arrayClass .byte).before a0 Z = true) (eT : T.heap = h) {g : JFrame} (hg : g.method = m) (hd : decode c.code g.pc = .ok (.newarray .byte, 2)) {n : Int32} {rest : List Value} (hs : g.stack = .int n :: rest)
    {N : Nat} (hn : n = Int32.ofNat N) {cap : Nat} (hcap : N ≤ cap) (hb : cap ≤ 10000) (hc : cells + 1 ≤ R.cells) (hl : slots + cap ≤ R.slots) :
    ∃ T' h', Stand p l e R s m args below meth c T' locs (cells + 1) (slots + cap) ∧ T'.heap = h' ∧ Ext h h' ∧ BA Z h' h.size (List.replicate N 0) ∧
      ∀ target, Steps p.tables e below (T'.setTop { g with pc := g.pc + 2, stack := .ref h.size :: rest }) target → Steps p.tables e below (T.setTop g) target := by
  have e1 : n.toNatClampNeg = N := by rw [hn]; exact own_n32 (by omega)
  have e2 : ¬ n < 0 := by rw [hn]; exact own_nn (by omega)
  obtain ⟨T', h', cA, X', e', E, A, B, st⟩ := newPE X hx hZ (aty := .byte) w eT hg hd hs e2 (cap := cap) (by omega) (by omega) hc hl (ad := "[B") rfl
  refine ⟨T', h', X', e', E, ⟨⟨cA, ?_⟩, B, by rw [List.length_replicate]; omega⟩, st⟩
  rw [List.length_replicate, ← hn]
  exact IA.new A e2 rfl e1
theorem ba_clone (X : Stand p l e R s m args below meth c T locs cells slots) (hx : p.tables.exec = Jvm.exec) (hZ : Z.Warmed39 s.vm) {own : String} {index : Nat} (hown : s.vm.findClass own = some m.cls)
    (w1 : (Cond.methodLink own index ⟨"[B", "clone", "()Ljava/lang/Object;"⟩).before a0 Z = true) (w2 : (Cond.sameMethod "[B" "java/lang/Object" "clone" "()Ljava/lang/Object;").before a0 Z = true) (w3 : (Cond.native ⟨"java/lang/Object", "clone", "()Ljava/lang/Object;"⟩).before a0 Z = true)
    (w4 : (Cond.instanceMethod ⟨"java/lang/Object", "clone", "()Ljava/lang/Object;"⟩).before a0 Z = true) (w5 : (Cond.selects "[B" ⟨"[B", "clone", "()Ljava/lang/Object;"⟩ ⟨"java/lang/Object", "clone", "()Ljava/lang/Object;"⟩).before a0 Z = true) (w6 : (Cond.castable "[B" "java/lang/Cloneable").before a0 Z = true)
    (eT : T.heap = h) (A : BA Z h a vs) {g : JFrame} (hg : g.method = m) (hsize : g.locals.size = c.maxLocals) {rest : List Value} (hst : g.stack = .ref a :: rest) (hd : decode c.code g.pc = .ok (.invokevirtual index, 3))
    (hf : 1 ≤ R.frames) {W cap : Nat} (hW : 2 * g.monitorRoom + (rest.map fun v => v.category).sum ≤ W) (hl : W + 14 ≤ R.locals) (hcap : vs.length ≤ cap) (hc : cells + 1 ≤ R.cells) (hsl : slots + cap ≤ R.slots) :
    ∃ T' h', Stand p l e R s m args below meth c T' locs (cells + 1) (slots + cap) ∧ T'.heap = h' ∧ Ext h h' ∧ BA Z h' h.size vs ∧
      ∀ target, Steps p.tables e below (T'.setTop { g with pc := g.pc + 3, stack := .ref h.size :: rest }) target → Steps p.tables e below (T.setTop g) target := by
  obtain ⟨⟨k, ⟨⟨cl, Ar, q1, S, q3, H, G⟩, hl2⟩⟩, E, r⟩ := A
  have FC : FitC Z cl := fitC_of Ar fun i hi v hv => by rw [H i hi] at hv; cases hv; exact G i hi
  obtain ⟨T', h', X', e', ex, A', E', st⟩ := cloneA X hx hZ hown w1 w2 w3 w4 w5 w6 eT Ar E FC hg hsize hst hd hf hW hl (by rw [S, own_n32 (by omega)]; exact hcap) hc hsl
  exact ⟨T', h', X', e', ex, ⟨⟨k, ⟨cloneOf cl, A', q1, S, q3, H, G⟩, hl2⟩, E', r⟩, st⟩
theorem own_stretch (vs : List Int32) (sp n : Nat) (h : sp + n ≤ vs.length) : ((List.range n).map fun i => (vs.map Value.int).getD (sp + i) (.int 0)) = ((vs.drop sp).take n).map Value.int := by
  apply List.ext_getElem?
  intro i
  by_cases q : i < n
  · rw [List.getElem?_map, List.getElem?_range q, List.getElem?_map, List.getElem?_take_of_lt q, List.getElem?_drop]
    simp only [Option.map_some, own_getI]
    rw [List.getD_eq_getElem?_getD, List.getElem?_eq_getElem (by omega)]; rfl
  · rw [List.getElem?_eq_none (by simp; omega), List.getElem?_eq_none (by simp; omega)]
theorem ba_copy (X : Stand p l e R s m args below meth c T locs cells slots) (hx : p.tables.exec = Jvm.exec) (hZ : Z.Warmed39 s.vm) {own : String} {index : Nat} (hown : s.vm.findClass own = some m.cls)
    (w1 : (Cond.methodLink own index Jvm.Stand.acN).before a0 Z = true) (w2 : (Cond.native Jvm.Stand.acN).before a0 Z = true) (w3 : (Cond.static Jvm.Stand.acN).before a0 Z = true) (w4 : (Cond.initialized "java/lang/System").before a0 Z = true) (eT : T.heap = h)
    (A : BA Z h a vs) (B : BA Z h b us) {sp dp nn : Int32} {i j n : Nat} (e1 : sp = Int32.ofNat i) (e2 : dp = Int32.ofNat j) (e3 : nn = Int32.ofNat n) (h4 : i + n ≤ vs.length) (h5 : j + n ≤ us.length) {n0 : Nat} (N : Fr n0 locs) (ge : n0 ≤ b)
    {g : JFrame} (hg : g.method = m) (hsize : g.locals.size = c.maxLocals) {rest : List Value} (hs : g.stack = .int nn :: .int dp :: .ref b :: .int sp :: .ref a :: rest) (hd : decode c.code g.pc = .ok (.invokestatic index, 3))
    (hf : 1 ≤ R.frames) {W : Nat} (hW : 2 * g.monitorRoom + (rest.map fun v => v.category).sum ≤ W) (hlo : W + (nativeFrameWords "java/lang/System" "arraycopy" 5 + 11) ≤ R.locals) :
    ∃ T' h' L, Stand p l e R s m args below meth c T' L cells slots ∧ T'.heap = h' ∧ Fr n0 L ∧ Keep h h' [b] ∧ BA Z h' b (us.take j ++ (vs.drop i).take n ++ us.drop (j + n)) ∧
      ∀ target, Steps p.tables e below (T'.setTop { g with pc := g.pc + 3, stack := rest }) target → Steps p.tables e below (T.setTop g) target := by
  obtain ⟨⟨k, A, la⟩, E, r⟩ := A
  obtain ⟨⟨k', B, lb⟩, E', r'⟩ := B
  have f1 : sp.toNatClampNeg = i := by rw [e1]; exact own_n32 (by omega)
  have f2 : dp.toNatClampNeg = j := by rw [e2]; exact own_n32 (by omega)
  have f3 : nn.toNatClampNeg = n := by rw [e3]; exact own_n32 (by omega)
  have f4 : (Int32.ofNat vs.length).toNatClampNeg = vs.length := own_n32 (by omega)
  have f5 : (Int32.ofNat us.length).toNatClampNeg = us.length := own_n32 (by omega)
  obtain ⟨T', h', L, X', e', N', K, V, st⟩ := cpA X hx hZ hown w1 w2 w3 w4 eT A B (Or.inl ⟨rfl, rfl⟩) (sp := sp) (dp := dp) (nn := nn) (by rw [e1]; exact own_nn (by omega)) (by rw [e2]; exact own_nn (by omega)) (by rw [e3]; exact own_nn (by omega)) (by rw [f1, f3, f4]; exact h4) (by rw [f2, f3, f5]; exact h5) rfl (by rw [f2, f3, List.length_map]; exact h5) N ge hg hsize hs hd hf hW hlo
  have hlen : (us.take j ++ (vs.drop i).take n ++ us.drop (j + n)).length = us.length := by
    simp only [List.length_append, List.length_take, List.length_drop]; omega
  refine ⟨T', h', L, X', e', N', K, ⟨⟨k', ?_, ?_⟩, E'.keep K, by rw [hlen]; exact r'⟩, st⟩
  · rw [hlen, List.map_append, List.map_append, List.map_take, List.map_drop, ← own_stretch vs i n h4]
    rw [f1, f2, f3] at V
    exact V
  · rw [hlen, f5]
/-- a static's value, its cell among the old ones -/
def SN (Z : State) (n0 : Nat) (h : Heap) (C n d : String) (v : Value) : Prop := ∃ (cf i : Nat) (k : Class) (f : Field) (st : Addr) (cell : Cell), Z.fieldFound? C n d = some (cf, k, i, f) ∧ f.isStatic = true ∧ k.init = .initialized ∧ k.statics = some st ∧ h[st]? = some cell ∧ cell.vm.isStatics = true ∧ cell.slots[f.slot]? = some v ∧ st < n0
variable {C n d : String} {n0 : Nat}
theorem SN.sta (F : SN Z n0 h C n d v) : Sta Z h C n d v := by obtain ⟨cf, i, k, f, st, cell, h1, h2, h3, h4, h5, h6, h7, -⟩ := F; exact ⟨cf, i, k, f, st, cell, h1, h2, h3, h4, h5, h6, h7⟩
theorem SN.of (F : Sta Z h C n d v) (q : h.size ≤ n0) : SN Z n0 h C n d v := by obtain ⟨cf, i, k, f, st, cell, h1, h2, h3, h4, h5, h6, h7⟩ := F; exact ⟨cf, i, k, f, st, cell, h1, h2, h3, h4, h5, h6, h7, Nat.lt_of_lt_of_le (Array.getElem?_eq_some_iff.mp h5).1 q⟩
theorem SN.ext (F : SN Z n0 h C n d v) (E : Ext h h') : SN Z n0 h' C n d v := by obtain ⟨cf, i, k, f, st, cell, h1, h2, h3, h4, h5, r⟩ := F; exact ⟨cf, i, k, f, st, cell, h1, h2, h3, h4, E.2 _ _ h5, r⟩
theorem SN.keep (F : SN Z n0 h C n d v) (K : Keep h h' ws) (q : ∀ x ∈ ws, n0 ≤ x) : SN Z n0 h' C n d v := by
  obtain ⟨cf, i, k, f, st, cell, h1, h2, h3, h4, h5, h6, h7, h8⟩ := F
  exact ⟨cf, i, k, f, st, cell, h1, h2, h3, h4, K.2.1 _ _ h5 fun y => absurd (q _ y) (Nat.not_le.mpr h8), h6, h7, h8⟩
theorem SN.wr {v' : Value} (F : SN Z n0 h C n d v) (W : Wr h h' a sl v') : SN Z n0 h' C n d v := by
  obtain ⟨cf, i, k, f, st, cell, h1, h2, h3, h4, h5, h6, h7, h8⟩ := F
  obtain ⟨c', e1, -, -, -, e5, -, e7⟩ := wr_at W h5
  have ne : st ≠ a := fun e => by rw [(e7 e).2.2] at h6; cases h6
  exact ⟨cf, i, k, f, st, cell, h1, h2, h3, h4, by rw [← e5 ne]; exact e1, h6, h7, h8⟩
end own2
section own4
variable {p : Program} {l : Launch} {e : Env} {R : Room} {s : State} {m : MethodId} {args : Array Value} {below : List Frame} {meth : Method} {c : Code} {T : State} {locs : List Loc} {cells slots : Nat} {Z : State} {a0 : Array Value} {h h' h0 : Heap} {a b : Addr} {vs us : List Int32} {sl : Nat} {v : Value} {ws : List Addr} {ty : FieldType} {ad C : String} {xs ys : List Value} {bo : Bool} {n0 : Nat}
/-- an array of ints or booleans, of exactly that class, by its list -/
def PA (Z : State) (h : Heap) (a : Addr) (ty : FieldType) (ad : String) (vs : List Int32) : Prop := (∃ k, IA Z h a k ty (Int32.ofNat vs.length) vs) ∧ Exa Z h a ad ∧ vs.length < 1000
theorem PA.lt (F : PA Z h a ty ad vs) : a < h.size := F.2.1.lt
theorem PA.ext (F : PA Z h a ty ad vs) (E : Ext h h') : PA Z h' a ty ad vs := by obtain ⟨⟨k, A⟩, X, q⟩ := F; exact ⟨⟨k, A.ext E⟩, X.ext E, q⟩
theorem PA.other (F : PA Z h b ty ad vs) (W : Wr h h' a sl v) (q : b ≠ a) : PA Z h' b ty ad vs := by obtain ⟨⟨k, A⟩, X, r⟩ := F; exact ⟨⟨k, A.other W q⟩, X.wr W, r⟩
theorem PA.keep (F : PA Z h a ty ad vs) (K : Keep h h' ws) (q : a ∉ ws) : PA Z h' a ty ad vs := by obtain ⟨⟨k, A⟩, X, r⟩ := F; exact ⟨⟨k, A.keep K q⟩, X.keep K, r⟩
theorem PA.eq (F : PA Z h a ty ad vs) (q : vs = us) : PA Z h a ty ad us := q ▸ F
theorem pa_ldI (X : Stand p l e R s m args below meth c T locs cells slots) (hx : p.tables.exec = Jvm.exec) (hZ : Z.Warmed39 s.vm) (eT : T.heap = h) (A : PA Z h a .int ad vs) {j : Int32} (i : Nat) (hj : j = Int32.ofNat i) (hi : i < vs.length) {w : Int32} (hw : vs.getD i 0 = w) {g : JFrame} (hg : g.method = m) {rest : List Value} (hs : g.stack = .int j :: .ref a :: rest) (hd : decode c.code g.pc = .ok (.iaload, 1)) (target : State)
    (q : Steps p.tables e below (T.setTop { g with pc := g.pc + 1, stack := .int w :: rest }) target) : Steps p.tables e below (T.setTop g) target := by
  obtain ⟨⟨k, A⟩, E, r⟩ := A
  exact ia_ldI X hx hZ eT A i (by rw [hj]; exact own_n32 (by omega)) (by rw [hj]; exact own_nn (by omega)) hi hw hg hs hd target q
theorem pa_ldZ (X : Stand p l e R s m args below meth c T locs cells slots) (hx : p.tables.exec = Jvm.exec) (hZ : Z.Warmed39 s.vm) (eT : T.heap = h) (A : PA Z h a .boolean ad vs) {j : Int32} (i : Nat) (hj : j = Int32.ofNat i) (hi : i < vs.length) {w : Int32} (hw : vs.getD i 0 = w) {g : JFrame} (hg : g.method = m) {rest : List Value} (hs : g.stack = .int j :: .ref a :: rest) (hd : decode c.code g.pc = .ok (.baload, 1)) (target : State)
    (q : Steps p.tables e below (T.setTop { g with pc := g.pc + 1, stack := .int w :: rest }) target) : Steps p.tables e below (T.setTop g) target := by
  obtain ⟨⟨k, A⟩, E, r⟩ := A
  exact ia_ldZ X hx hZ eT A i (by rw [hj]; exact own_n32 (by omega)) (by rw [hj]; exact own_nn (by omega)) hi hw hg hs hd target q
theorem pa_len (X : Stand p l e R s m args below meth c T locs cells slots) (hx : p.tables.exec = Jvm.exec) (hZ : Z.Warmed39 s.vm) (eT : T.heap = h) (A : PA Z h a ty ad vs) {g : JFrame} (hg : g.method = m) {rest : List Value} (hs : g.stack = .ref a :: rest) (hd : decode c.code g.pc = .ok (.arraylength, 1)) (target : State)
    (q : Steps p.tables e below (T.setTop { g with pc := g.pc + 1, stack := .int (Int32.ofNat vs.length) :: rest }) target) : Steps p.tables e below (T.setTop g) target := by
  obtain ⟨⟨k, A⟩, E, r⟩ := A
  exact ia_len X hx hZ eT A hg hs hd target q
theorem pa_stI (X : Stand p l e R s m args below meth c T locs cells slots) (hx : p.tables.exec = Jvm.exec) (hZ : Z.Warmed39 s.vm) (eT : T.heap = h) (A : PA Z h a .int ad vs) {j : Int32} (i : Nat) (hj : j = Int32.ofNat i) (hi : i < vs.length) {x : Int32} {g : JFrame} (hg : g.method = m) {rest : List Value} (hs : g.stack = .int x :: .int j :: .ref a :: rest) (hd : decode c.code g.pc = .ok (.iastore, 1)) :
    ∃ T' h', Stand p l e R s m args below meth c T' (locs ++ [⟨a, j.toNatClampNeg⟩]) cells slots ∧ T'.heap = h' ∧ Wr h h' a j.toNatClampNeg (.int x) ∧ PA Z h' a .int ad (vs.set i x) ∧ ∀ target, Steps p.tables e below (T'.setTop { g with pc := g.pc + 1, stack := rest }) target → Steps p.tables e below (T.setTop g) target := by
  obtain ⟨⟨k, A⟩, E, r⟩ := A
  obtain ⟨T', h', X', e', W, V, st⟩ := ia_stI X hx hZ eT A i (by rw [hj]; exact own_n32 (by omega)) (by rw [hj]; exact own_nn (by omega)) hi hg hs hd
  exact ⟨T', h', X', e', W, ⟨⟨k, by rw [List.length_set]; exact V⟩, E.wr W, by rw [List.length_set]; exact r⟩, st⟩
theorem pa_stZ (X : Stand p l e R s m args below meth c T locs cells slots) (hx : p.tables.exec = Jvm.exec) (hZ : Z.Warmed39 s.vm) (eT : T.heap = h) (A : PA Z h a .boolean ad vs) {j : Int32} (i : Nat) (hj : j = Int32.ofNat i) (hi : i < vs.length) {x y : Int32} (hy : nar .boolean x = y) {g : JFrame} (hg : g.method = m) {rest : List Value} (hs : g.stack = .int x :: .int j :: .ref a :: rest) (hd : decode c.code g.pc = .ok (.bastore, 1)) :
    ∃ T' h', Stand p l e R s m args below meth c T' (locs ++ [⟨a, j.toNatClampNeg⟩]) cells slots ∧ T'.heap = h' ∧ Wr h h' a j.toNatClampNeg (.int y) ∧ PA Z h' a .boolean ad (vs.set i y) ∧ ∀ target, Steps p.tables e below (T'.setTop { g with pc := g.pc + 1, stack := rest }) target → Steps p.tables e below (T.setTop g) target := by
  obtain ⟨⟨k, A⟩, E, r⟩ := A
  obtain ⟨T', h', X', e', W, V, st⟩ := ia_stZ X hx hZ eT A i (by rw [hj]; exact own_n32 (by omega)) (by rw [hj]; exact own_nn (by omega)) hi hy hg hs hd
  exact ⟨T', h', X', e', W, ⟨⟨k, by rw [List.length_set]; exact V⟩, E.wr W, by rw [List.length_set]; exact r⟩, st⟩
theorem pa_new (X : Stand p l e R s m args below meth c T locs cells slots) (hx : p.tables.exec = Jvm.exec) (hZ : Z.Warmed39 s.vm) {aty : ArrayType} (w : (Cond.arrayClass (newarray.typeOf aty)).before a0 Z = true) (hdv : defaultValue (newarray.typeOf aty) = .int 0) (had : "[" ++ (newarray.typeOf aty).toString = ad) (eT : T.heap = h) {g : JFrame} (hg : g.method = m) (hd : decode c.code g.pc = .ok (.newarray aty, 2)) {n : Int32} {rest : List Value} (hs : g.stack = .int n :: rest)
    {N : Nat} (hn : n = Int32.ofNat N) {cap : Nat} (hcap : N ≤ cap) (hb : cap < 1000) (hc : cells + 1 ≤ R.cells) (hl : slots + cap ≤ R.slots) :
    ∃ T' h', Stand p l e R s m args below meth c T' locs (cells + 1) (slots + cap) ∧ T'.heap = h' ∧ Ext h h' ∧ PA Z h' h.size (newarray.typeOf aty) ad (List.replicate N 0) ∧
      ∀ target, Steps p.tables e below (T'.setTop { g with pc := g.pc + 2, stack := .ref h.size :: rest }) target → Steps p.tables e below (T.setTop g) target := by
  have e1 : n.toNatClampNeg = N := by rw [hn]; exact own_n32 (by omega)
  have e2 : ¬ n < 0 := by rw [hn]; exact own_nn (by omega)
  obtain ⟨T', h', cA, X', e', E, A, B, st⟩ := newPE X hx hZ w eT hg hd hs e2 (cap := cap) (by omega) (by omega) hc hl had
  refine ⟨T', h', X', e', E, ⟨⟨cA, ?_⟩, B, by rw [List.length_replicate]; omega⟩, st⟩
  rw [List.length_replicate, ← hn]
  exact IA.new A e2 hdv e1
theorem pa_clone (X : Stand p l e R s m args below meth c T locs cells slots) (hx : p.tables.exec = Jvm.exec) (hZ : Z.Warmed39 s.vm) {own : String} {index : Nat} (hown : s.vm.findClass own = some m.cls)
    (w1 : (Cond.methodLink own index ⟨ad, "clone", "()Ljava/lang/Object;"⟩).before a0 Z = true) (w2 : (Cond.sameMethod ad "java/lang/Object" "clone" "()Ljava/lang/Object;").before a0 Z = true) (w3 : (Cond.native ⟨"java/lang/Object", "clone", "()Ljava/lang/Object;"⟩).before a0 Z = true)
    (w4 : (Cond.instanceMethod ⟨"java/lang/Object", "clone", "()Ljava/lang/Object;"⟩).before a0 Z = true) (w5 : (Cond.selects ad ⟨ad, "clone", "()Ljava/lang/Object;"⟩ ⟨"java/lang/Object", "clone", "()Ljava/lang/Object;"⟩).before a0 Z = true) (w6 : (Cond.castable ad "java/lang/Cloneable").before a0 Z = true)
    (eT : T.heap = h) (A : PA Z h a ty ad vs) {g : JFrame} (hg : g.method = m) (hsize : g.locals.size = c.maxLocals) {rest : List Value} (hst : g.stack = .ref a :: rest) (hd : decode c.code g.pc = .ok (.invokevirtual index, 3))
    (hf : 1 ≤ R.frames) {W cap : Nat} (hW : 2 * g.monitorRoom + (rest.map fun v => v.category).sum ≤ W) (hl : W + 14 ≤ R.locals) (hcap : vs.length ≤ cap) (hc : cells + 1 ≤ R.cells) (hsl : slots + cap ≤ R.slots) :
    ∃ T' h', Stand p l e R s m args below meth c T' locs (cells + 1) (slots + cap) ∧ T'.heap = h' ∧ Ext h h' ∧ PA Z h' h.size ty ad vs ∧
      ∀ target, Steps p.tables e below (T'.setTop { g with pc := g.pc + 3, stack := .ref h.size :: rest }) target → Steps p.tables e below (T.setTop g) target := by
  obtain ⟨⟨k, ⟨⟨cl, Ar, q1, S, q3, H, G⟩, hl2⟩⟩, E, r⟩ := A
  have FC : FitC Z cl := fitC_of Ar fun i hi v hv => by rw [H i hi] at hv; cases hv; exact G i hi
  obtain ⟨T', h', X', e', ex, A', E', st⟩ := cloneA X hx hZ hown w1 w2 w3 w4 w5 w6 eT Ar E FC hg hsize hst hd hf hW hl (by rw [S, own_n32 (by omega)]; exact hcap) hc hsl
  exact ⟨T', h', X', e', ex, ⟨⟨k, ⟨cloneOf cl, A', q1, S, q3, H, G⟩, hl2⟩, E', r⟩, st⟩
theorem own_stretchI (vs : List Int32) (sp n : Nat) (h : sp + n ≤ vs.length) : ((List.range n).map fun i => (vs.map Value.int).getD (sp + i) (.int 0)) = ((vs.drop sp).take n).map Value.int := by
  apply List.ext_getElem?
  intro i
  by_cases q : i < n
  · rw [List.getElem?_map, List.getElem?_range q, List.getElem?_map, List.getElem?_take_of_lt q, List.getElem?_drop]
    simp only [Option.map_some, own_getI]
    rw [List.getD_eq_getElem?_getD, List.getElem?_eq_getElem (by omega)]; rfl
  · rw [List.getElem?_eq_none (by simp; omega), List.getElem?_eq_none (by simp; omega)]
theorem pa_copy (X : Stand p l e R s m args below meth c T locs cells slots) (hx : p.tables.exec = Jvm.exec) (hZ : Z.Warmed39 s.vm) {own : String} {index : Nat} (hown : s.vm.findClass own = some m.cls)
    (w1 : (Cond.methodLink own index Jvm.Stand.acN).before a0 Z = true) (w2 : (Cond.native Jvm.Stand.acN).before a0 Z = true) (w3 : (Cond.static Jvm.Stand.acN).before a0 Z = true) (w4 : (Cond.initialized "java/lang/System").before a0 Z = true) (eT : T.heap = h)
    (hk : refKind ty = false) (A : PA Z h a ty ad vs) (B : PA Z h b ty ad us) {sp dp nn : Int32} {i j n : Nat} (e1 : sp = Int32.ofNat i) (e2 : dp = Int32.ofNat j) (e3 : nn = Int32.ofNat n) (h4 : i + n ≤ vs.length) (h5 : j + n ≤ us.length) (N : Fr n0 locs) (ge : n0 ≤ b)
    {g : JFrame} (hg : g.method = m) (hsize : g.locals.size = c.maxLocals) {rest : List Value} (hs : g.stack = .int nn :: .int dp :: .ref b :: .int sp :: .ref a :: rest) (hd : decode c.code g.pc = .ok (.invokestatic index, 3))
    (hf : 1 ≤ R.frames) {W : Nat} (hW : 2 * g.monitorRoom + (rest.map fun v => v.category).sum ≤ W) (hlo : W + (nativeFrameWords "java/lang/System" "arraycopy" 5 + 11) ≤ R.locals) :
    ∃ T' h' L, Stand p l e R s m args below meth c T' L cells slots ∧ T'.heap = h' ∧ Fr n0 L ∧ Keep h h' [b] ∧ PA Z h' b ty ad (us.take j ++ (vs.drop i).take n ++ us.drop (j + n)) ∧
      ∀ target, Steps p.tables e below (T'.setTop { g with pc := g.pc + 3, stack := rest }) target → Steps p.tables e below (T.setTop g) target := by
  obtain ⟨⟨k, A, la⟩, E, r⟩ := A
  obtain ⟨⟨k', B, lb⟩, E', r'⟩ := B
  have f1 : sp.toNatClampNeg = i := by rw [e1]; exact own_n32 (by omega)
  have f2 : dp.toNatClampNeg = j := by rw [e2]; exact own_n32 (by omega)
  have f3 : nn.toNatClampNeg = n := by rw [e3]; exact own_n32 (by omega)
  have f4 : (Int32.ofNat vs.length).toNatClampNeg = vs.length := own_n32 (by omega)
  have f5 : (Int32.ofNat us.length).toNatClampNeg = us.length := own_n32 (by omega)
  obtain ⟨T', h', L, X', e', N', K, V, st⟩ := cpA X hx hZ hown w1 w2 w3 w4 eT A B (Or.inl ⟨rfl, hk⟩) (sp := sp) (dp := dp) (nn := nn) (by rw [e1]; exact own_nn (by omega)) (by rw [e2]; exact own_nn (by omega)) (by rw [e3]; exact own_nn (by omega)) (by rw [f1, f3, f4]; exact h4) (by rw [f2, f3, f5]; exact h5) rfl (by rw [f2, f3, List.length_map]; exact h5) N ge hg hsize hs hd hf hW hlo
  have hlen : (us.take j ++ (vs.drop i).take n ++ us.drop (j + n)).length = us.length := by
    simp only [List.length_append, List.length_take, List.length_drop]; omega
  refine ⟨T', h', L, X', e', N', K, ⟨⟨k', ?_, ?_⟩, E'.keep K, by rw [hlen]; exact r'⟩, st⟩
  · rw [hlen, List.map_append, List.map_append, List.map_take, List.map_drop, ← own_stretchI vs i n h4]
    rw [f1, f2, f3] at V
    exact V
  · rw [hlen, f5]
/-- references -/
theorem own_insKeep (F : Ins Z h a C bo) (K : Keep h h' ws) : Ins Z h' a C bo := by
  obtain ⟨cell, cT, h1, h2, h3⟩ := F
  obtain ⟨c', q, r1, r2, r3⟩ := K.2.2 a cell h1
  exact ⟨c', cT, q, h2, by rw [r1, r2]; exact h3⟩
/-- null, or an object of the class C -/
def VI (Z : State) (h : Heap) (C : String) (v : Value) : Prop := v = .null ∨ ∃ y, v = .ref y ∧ Ins Z h y C true
theorem VI.ext (F : VI Z h C v) (E : Ext h h') : VI Z h' C v := F.imp id fun ⟨y, q, I⟩ => ⟨y, q, I.ext E⟩
theorem VI.wr {v' : Value} (F : VI Z h C v) (W : Wr h h' a sl v') : VI Z h' C v := F.imp id fun ⟨y, q, I⟩ => ⟨y, q, I.wr W⟩
theorem VI.keep (F : VI Z h C v) (K : Keep h h' ws) : VI Z h' C v := F.imp id fun ⟨y, q, I⟩ => ⟨y, q, own_insKeep I K⟩
/-- an array of references, of exactly that class, by its list -/
def OA (Z : State) (h : Heap) (a : Addr) (C ad : String) (xs : List Value) : Prop := (∃ k, Arv Z h a k (.object C) (Int32.ofNat xs.length) xs .null ∧ Ovr Z k C) ∧ Exa Z h a ad ∧ xs.length < 1000 ∧ ∀ v ∈ xs, VI Z h C v
theorem OA.lt (F : OA Z h a C ad xs) : a < h.size := F.2.1.lt
theorem OA.ext (F : OA Z h a C ad xs) (E : Ext h h') : OA Z h' a C ad xs := by obtain ⟨⟨k, A, O⟩, X, q, r⟩ := F; exact ⟨⟨k, A.ext E, O⟩, X.ext E, q, fun v hv => (r v hv).ext E⟩
theorem OA.other {v' : Value} (F : OA Z h b C ad xs) (W : Wr h h' a sl v') (q : b ≠ a) : OA Z h' b C ad xs := by obtain ⟨⟨k, A, O⟩, X, r, t⟩ := F; exact ⟨⟨k, A.other W q, O⟩, X.wr W, r, fun v hv => (t v hv).wr W⟩
theorem OA.keep (F : OA Z h a C ad xs) (K : Keep h h' ws) (q : a ∉ ws) : OA Z h' a C ad xs := by obtain ⟨⟨k, A, O⟩, X, r, t⟩ := F; exact ⟨⟨k, A.keep K q, O⟩, X.keep K, r, fun v hv => (t v hv).keep K⟩
theorem OA.eq (F : OA Z h a C ad xs) (q : xs = ys) : OA Z h a C ad ys := q ▸ F
theorem oa_inb {cl : Cell} {n j : Int32} {i : Nat} (S : cl.slots.size = (Int32.ofNat xs.length).toNatClampNeg) (hl : xs.length < 1000) (hj : j = Int32.ofNat i) (hi : i < xs.length) : ¬ (j < 0 ∨ cl.slots.size ≤ j.toNatClampNeg) := by
  rintro (q | q)
  · rw [hj] at q; exact own_nn (by omega) q
  · rw [S, hj, own_n32 (by omega), own_n32 (by omega)] at q; omega
theorem oa_ld (X : Stand p l e R s m args below meth c T locs cells slots) (hx : p.tables.exec = Jvm.exec) (hZ : Z.Warmed39 s.vm) (eT : T.heap = h) (A : OA Z h a C ad xs) {j : Int32} (i : Nat) (hj : j = Int32.ofNat i) (hi : i < xs.length) {w : Value} (hw : xs.getD i .null = w) {g : JFrame} (hg : g.method = m) {rest : List Value} (hs : g.stack = .int j :: .ref a :: rest) (hd : decode c.code g.pc = .ok (.aaload, 1)) (target : State)
    (q : Steps p.tables e below (T.setTop { g with pc := g.pc + 1, stack := w :: rest }) target) : Steps p.tables e below (T.setTop g) target := by
  obtain ⟨⟨k, ⟨cl, Ar, q1, S, q3, H, G⟩, O⟩, E, r, t⟩ := A
  refine X.aaload hx (by rw [eT]; exact Ar.1) (State.isArrayOf_alike hZ.alike Ar.2.1) rfl Ar.2.2 (oa_inb (n := 0) S r hj hi) (v := w) ?_ hg hs hd target q
  rw [H _ (by rw [S, hj, own_n32 (by omega), own_n32 (by omega)]; exact hi), hj, own_n32 (by omega), hw]
theorem oa_len (X : Stand p l e R s m args below meth c T locs cells slots) (hx : p.tables.exec = Jvm.exec) (hZ : Z.Warmed39 s.vm) (eT : T.heap = h) (A : OA Z h a C ad xs) {g : JFrame} (hg : g.method = m) {rest : List Value} (hs : g.stack = .ref a :: rest) (hd : decode c.code g.pc = .ok (.arraylength, 1)) (target : State)
    (q : Steps p.tables e below (T.setTop { g with pc := g.pc + 1, stack := .int (Int32.ofNat xs.length) :: rest }) target) : Steps p.tables e below (T.setTop g) target := by
  obtain ⟨⟨k, ⟨cl, Ar, q1, S, q3, H, G⟩, O⟩, E, r, t⟩ := A
  refine X.arraylength hx (by rw [eT]; exact Ar.1) (State.isArrayOf_alike hZ.alike Ar.2.1) hg hs hd target ?_
  rw [len_of S q3]; exact q
theorem oa_st (X : Stand p l e R s m args below meth c T locs cells slots) (hx : p.tables.exec = Jvm.exec) (hZ : Z.Warmed39 s.vm) (eT : T.heap = h) (A : OA Z h a C ad xs) {j : Int32} (i : Nat) (hj : j = Int32.ofNat i) (hi : i < xs.length) {x : Value} (I : VI Z h C x) {g : JFrame} (hg : g.method = m) {rest : List Value} (hs : g.stack = x :: .int j :: .ref a :: rest) (hd : decode c.code g.pc = .ok (.aastore, 1)) :
    ∃ T' h', Stand p l e R s m args below meth c T' (locs ++ [⟨a, j.toNatClampNeg⟩]) cells slots ∧ T'.heap = h' ∧ Wr h h' a j.toNatClampNeg x ∧ OA Z h' a C ad (xs.set i x) ∧ ∀ target, Steps p.tables e below (T'.setTop { g with pc := g.pc + 1, stack := rest }) target → Steps p.tables e below (T.setTop g) target := by
  obtain ⟨⟨k, ⟨cl, Ar, q1, S, q3, H, G⟩, O⟩, E, r, t⟩ := A
  have hsto : Sto Z h a x := by
    rcases I with rfl | ⟨y, rfl, I⟩
    · exact Or.inl rfl
    · exact Sto.ofV Ar q1 O I
  have hfit : fits (.object C) x = true := by rcases I with rfl | ⟨y, rfl, -⟩ <;> rfl
  obtain ⟨T', h', X', e', W, st⟩ := stR X hx hZ eT Ar (oa_inb (n := 0) S r hj hi) rfl hsto hg hs hd
  have V := Arv.set Ar q1 S q3 H G hfit W i (by rw [hj]; exact own_n32 (by omega)) hi
  refine ⟨T', h', X', e', W, ⟨⟨k, by rw [List.length_set]; exact V, O⟩, E.wr W, by rw [List.length_set]; exact r, fun v hv => ?_⟩, st⟩
  rcases List.mem_or_eq_of_mem_set hv with q | q
  · exact (t v q).wr W
  · subst q; exact I.wr W
theorem oa_new (X : Stand p l e R s m args below meth c T locs cells slots) (hx : p.tables.exec = Jvm.exec) (hZ : Z.Warmed39 s.vm) {own : String} {index : Nat} (hown : s.vm.findClass own = some m.cls) (w1 : (Cond.classLink own index C).before a0 Z = true) (w2 : (Cond.arrayOver (.object C)).before a0 Z = true) (had : "[" ++ (FieldType.object C).toString = ad) (eT : T.heap = h) {g : JFrame} (hg : g.method = m) (hd : decode c.code g.pc = .ok (.anewarray index, 3)) {n : Int32} {rest : List Value} (hs : g.stack = .int n :: rest)
    {N : Nat} (hn : n = Int32.ofNat N) (hb : N < 1000) (hc : cells + 1 ≤ R.cells) (hl : slots + N ≤ R.slots) :
    ∃ T' h', Stand p l e R s m args below meth c T' locs (cells + 1) (slots + N) ∧ T'.heap = h' ∧ Ext h h' ∧ OA Z h' h.size C ad (List.replicate N .null) ∧
      ∀ target, Steps p.tables e below (T'.setTop { g with pc := g.pc + 3, stack := .ref h.size :: rest }) target → Steps p.tables e below (T.setTop g) target := by
  have e1 : n.toNatClampNeg = N := by rw [hn]; exact own_n32 (by omega)
  have e2 : ¬ n < 0 := by rw [hn]; exact own_nn (by omega)
  obtain ⟨T', h', cA, X', e', E, A, B, O, st⟩ := newRE X hx hZ hown w1 w2 eT hg hd hs e2 (cap := N) (by omega) (by omega) hc hl had
  refine ⟨T', h', X', e', E, ⟨⟨cA, ?_, O⟩, B, by rw [List.length_replicate]; omega, fun v hv => Or.inl (List.eq_of_mem_replicate hv)⟩, st⟩
  rw [List.length_replicate, ← hn]
  exact (Arv.new A e2).pad (pad_rep [] .null N)
theorem own_stoL : ∀ (us : List Value), (∀ v ∈ us, Sto Z h a v) → StoL Z h a us
  | [], _ => trivial
  | v :: r, H => ⟨H v (List.mem_cons_self ..), own_stoL r fun w hw => H w (List.mem_cons_of_mem _ hw)⟩
theorem own_stretchO (xs : List Value) (sp n : Nat) (h : sp + n ≤ xs.length) : ((List.range n).map fun i => xs.getD (sp + i) .null) = (xs.drop sp).take n := by
  apply List.ext_getElem?
  intro i
  by_cases q : i < n
  · rw [List.getElem?_map, List.getElem?_range q, List.getElem?_take_of_lt q, List.getElem?_drop]
    simp only [Option.map_some]
    rw [List.getD_eq_getElem?_getD, List.getElem?_eq_getElem (by omega)]; rfl
  · rw [List.getElem?_eq_none (by simp; omega), List.getElem?_eq_none (by simp; omega)]
theorem oa_copy (X : Stand p l e R s m args below meth c T locs cells slots) (hx : p.tables.exec = Jvm.exec) (hZ : Z.Warmed39 s.vm) {own : String} {index : Nat} (hown : s.vm.findClass own = some m.cls)
    (w1 : (Cond.methodLink own index Jvm.Stand.acN).before a0 Z = true) (w2 : (Cond.native Jvm.Stand.acN).before a0 Z = true) (w3 : (Cond.static Jvm.Stand.acN).before a0 Z = true) (w4 : (Cond.initialized "java/lang/System").before a0 Z = true) (eT : T.heap = h)
    (A : OA Z h a C ad xs) (B : OA Z h b C ad ys) {sp dp nn : Int32} {i j n : Nat} (e1 : sp = Int32.ofNat i) (e2 : dp = Int32.ofNat j) (e3 : nn = Int32.ofNat n) (h4 : i + n ≤ xs.length) (h5 : j + n ≤ ys.length) (N : Fr n0 locs) (ge : n0 ≤ b)
    {g : JFrame} (hg : g.method = m) (hsize : g.locals.size = c.maxLocals) {rest : List Value} (hs : g.stack = .int nn :: .int dp :: .ref b :: .int sp :: .ref a :: rest) (hd : decode c.code g.pc = .ok (.invokestatic index, 3))
    (hf : 1 ≤ R.frames) {W : Nat} (hW : 2 * g.monitorRoom + (rest.map fun v => v.category).sum ≤ W) (hlo : W + (nativeFrameWords "java/lang/System" "arraycopy" 5 + 11) ≤ R.locals) :
    ∃ T' h' L, Stand p l e R s m args below meth c T' L cells slots ∧ T'.heap = h' ∧ Fr n0 L ∧ Keep h h' [b] ∧ OA Z h' b C ad (ys.take j ++ (xs.drop i).take n ++ ys.drop (j + n)) ∧
      ∀ target, Steps p.tables e below (T'.setTop { g with pc := g.pc + 3, stack := rest }) target → Steps p.tables e below (T.setTop g) target := by
  obtain ⟨⟨k, A, O⟩, E, r, t⟩ := A
  obtain ⟨⟨k', B, O'⟩, E', r', t'⟩ := B
  have f1 : sp.toNatClampNeg = i := by rw [e1]; exact own_n32 (by omega)
  have f2 : dp.toNatClampNeg = j := by rw [e2]; exact own_n32 (by omega)
  have f3 : nn.toNatClampNeg = n := by rw [e3]; exact own_n32 (by omega)
  have f4 : (Int32.ofNat xs.length).toNatClampNeg = xs.length := own_n32 (by omega)
  have f5 : (Int32.ofNat ys.length).toNatClampNeg = ys.length := own_n32 (by omega)
  have hs' : ∀ v ∈ (xs.drop i).take n, VI Z h C v := fun v hv => t v (List.mem_of_mem_drop (List.mem_of_mem_take hv))
  have hS : StoL Z h b ((List.range nn.toNatClampNeg).map fun i => xs.getD (sp.toNatClampNeg + i) .null) := by
    rw [f1, f3, own_stretchO xs i n h4]
    refine own_stoL _ fun v hv => ?_
    obtain ⟨cl, Ar, q1, -⟩ := B
    rcases hs' v hv with rfl | ⟨y, rfl, I⟩
    · exact Or.inl rfl
    · exact Sto.ofV Ar q1 O' I
  obtain ⟨T', h', L, X', e', N', K, V, st⟩ := cpA X hx hZ hown w1 w2 w3 w4 eT A B (Or.inr ⟨rfl, rfl, hS⟩) (sp := sp) (dp := dp) (nn := nn) (by rw [e1]; exact own_nn (by omega)) (by rw [e2]; exact own_nn (by omega)) (by rw [e3]; exact own_nn (by omega)) (by rw [f1, f3, f4]; exact h4) (by rw [f2, f3, f5]; exact h5) rfl (by rw [f2, f3]; exact h5) N ge hg hsize hs hd hf hW hlo
  have hlen : (ys.take j ++ (xs.drop i).take n ++ ys.drop (j + n)).length = ys.length := by
    simp only [List.length_append, List.length_take, List.length_drop]; omega
  rw [f1, f2, f3, own_stretchO xs i n h4] at V
  refine ⟨T', h', L, X', e', N', K, ⟨⟨k', by rw [hlen]; exact V, O'⟩, E'.keep K, by rw [hlen]; exact r', fun v hv => ?_⟩, st⟩
  rcases List.mem_append.mp hv with q | q
  · rcases List.mem_append.mp q with q | q
    · exact (t' v (List.mem_of_mem_take q)).keep K
    · exact (hs' v q).keep K
  · exact (t' v (List.mem_of_mem_drop q)).keep K
/-- the Class object of C -/
def MI (Z : State) (C : String) (a : Addr) : Prop := ∃ (c : ClassId) (k : Class), Z.vm.findClass C = some c ∧ Z.vm.classes[c]? = some k ∧ k.mirror = some a
theorem MI.at (M : MI Z C a) (hZ : Z.Warmed39 s.vm) : ∃ (c : ClassId) (k : Class), s.vm.findClass C = some c ∧ s.vm.classes[c]? = some k ∧ k.mirror = some a := by
  obtain ⟨c, k, h1, h2, h3⟩ := M
  obtain ⟨k', q, e⟩ := hZ.alike.2.2 _ _ h2
  exact ⟨c, k', by rw [hZ.alike.findClass]; exact h1, q, by rw [e]; exact h3⟩
theorem ldcM (X : Stand p l e R s m args below meth c T locs cells slots) (hx : p.tables.exec = Jvm.exec) (hZ : Z.Warmed39 s.vm) {own : String} {index : Nat} (hown : s.vm.findClass own = some m.cls) (w : (Cond.classLink own index C).before a0 Z = true) (M : MI Z C a) (eT : T.heap = h) {g : JFrame} (hg : g.method = m) (hd : decode c.code g.pc = .ok (.ldc index, 2)) :
    ∃ T', Stand p l e R s m args below meth c T' locs cells slots ∧ T'.heap = h ∧ ∀ target, Steps p.tables e below (T'.setTop { g with pc := g.pc + 2, stack := .ref a :: g.stack }) target → Steps p.tables e below (T.setTop g) target := by
  obtain ⟨cc, k, h1, h2, h3⟩ := M.at hZ
  have ev : (Term.mirror C).eval args s none [] s = some (.ref a) := by simp [Term.eval, h1, h2, h3]
  obtain ⟨vm', X', st⟩ := X.ldcMirror hx hown (mvT hZ w) ev hg hd
  exact ⟨_, X', eT, st⟩
theorem gcV (X : Stand p l e R s m args below meth c T locs cells slots) (hx : p.tables.exec = Jvm.exec) (hZ : Z.Warmed39 s.vm) {own : String} {index : Nat} (hown : s.vm.findClass own = some m.cls) (w1 : (Cond.methodLink own index Jvm.Stand.gcN).before a0 Z = true) (w2 : (Cond.declares Jvm.Stand.gcN).before a0 Z = true) (w3 : (Cond.selects C Jvm.Stand.gcN Jvm.Stand.gcN).before a0 Z = true) (w4 : (Cond.instanceMethod Jvm.Stand.gcN).before a0 Z = true) (w5 : (Cond.native Jvm.Stand.gcN).before a0 Z = true)
    (M : MI Z C b) (E : Exa Z h a C) (eT : T.heap = h) {g : JFrame} (hg : g.method = m) (hsize : g.locals.size = c.maxLocals) {rest : List Value} (hs : g.stack = .ref a :: rest) (hd : decode c.code g.pc = .ok (.invokevirtual index, 3)) (hf : 1 ≤ R.frames) (hlo : 2 * g.monitorRoom + (rest.map fun v => v.category).sum + (nativeFrameWords "java/lang/Object" "getClass" 1 + 11) ≤ R.locals) :
    ∃ T', Stand p l e R s m args below meth c T' locs cells slots ∧ T'.heap = h ∧ ∀ target, Steps p.tables e below (T'.setTop { g with pc := g.pc + 3, stack := .ref b :: rest }) target → Steps p.tables e below (T.setTop g) target := by
  obtain ⟨cc, k, h1, h2, h3⟩ := M.at hZ
  obtain ⟨cB, kB, q1, q2, q3⟩ := isOf hZ eT E
  cases h1.symm.trans q1
  cases h2.symm.trans q2
  obtain ⟨vm', X', st⟩ := X.getClassOf hx hown (mvT hZ w1) (mvT hZ w2) (notFace_of_selects (args := #[]) (mvT hZ w3)) (mvT hZ w3) (mvT hZ w4) (mvT hZ w5) q1 q3 h2 h3 hg hsize hs hd hf hlo
  exact ⟨_, X', eT, st⟩
theorem gcI (X : Stand p l e R s m args below meth c T locs cells slots) (hx : p.tables.exec = Jvm.exec) (hZ : Z.Warmed39 s.vm) {own : String} {index count : Nat} {xi : MethodName} (hown : s.vm.findClass own = some m.cls) (w1 : (Cond.methodLink own index xi).before args s = true) (w2 : (Cond.declares Jvm.Stand.gcN).before args s = true) (w3 : (Cond.interfaceMethod xi.cls "java/lang/Object" xi.name xi.desc).before args s = true) (w4 : (Cond.selects C xi Jvm.Stand.gcN).before args s = true) (w5 : (Cond.instanceMethod Jvm.Stand.gcN).before args s = true) (w6 : (Cond.publicMethod Jvm.Stand.gcN).before args s = true) (w7 : (Cond.unhidden C xi.name xi.desc).before args s = true) (w8 : (Cond.castable C xi.cls).before args s = true) (w9 : (Cond.native Jvm.Stand.gcN).before args s = true)
    (hxi : xi.cls ≠ "java/lang/invoke/MethodHandle" ∧ xi.cls ≠ "java/lang/invoke/VarHandle") (hxo : xi.cls ≠ "java/lang/Object") (hname : xi.name = "getClass") (hdesc : xi.desc = "()Ljava/lang/Class;")
    (M : MI Z C b) (E : Exa Z h a C) (eT : T.heap = h) {g : JFrame} (hg : g.method = m) (hsize : g.locals.size = c.maxLocals) {rest : List Value} (hs : g.stack = .ref a :: rest) (hd : decode c.code g.pc = .ok (.invokeinterface index count, 5)) (hf : 1 ≤ R.frames) (hlo : 2 * g.monitorRoom + (rest.map fun v => v.category).sum + (nativeFrameWords "java/lang/Object" "getClass" 1 + 11) ≤ R.locals) :
    ∃ T', Stand p l e R s m args below meth c T' locs cells slots ∧ T'.heap = h ∧ ∀ target, Steps p.tables e below (T'.setTop { g with pc := g.pc + 5, stack := .ref b :: rest }) target → Steps p.tables e below (T.setTop g) target := by
  obtain ⟨cc, k, h1, h2, h3⟩ := M.at hZ
  obtain ⟨cB, kB, q1, q2, q3⟩ := isOf hZ eT E
  cases h1.symm.trans q1
  cases h2.symm.trans q2
  obtain ⟨vm', X', st⟩ := X.getClassOfI hx hown w1 w2 w3 w4 w5 w6 w7 w8 w9 hxi hxo hname hdesc q1 h2 q3 h3 hg hsize hs hd hf hlo
  exact ⟨_, X', eT, st⟩
/-- an ArrayList: its array, what lies in it, its size, its modCount -/
def AL (Z : State) (h : Heap) (a ea : Addr) (xs : List Value) (n mc : Int32) : Prop := Exa Z h a "java/util/ArrayList" ∧ Fld Z h a "java/util/ArrayList" "elementData" "[Ljava/lang/Object;" (.ref ea) ∧ Fld Z h a "java/util/ArrayList" "size" "I" (.int n) ∧ Fld Z h a "java/util/AbstractList" "modCount" "I" (.int mc) ∧ OA Z h ea "java/lang/Object" "[Ljava/lang/Object;" xs
variable {ea : Addr} {n mc : Int32}
theorem AL.lt (F : AL Z h a ea xs n mc) : a < h.size := F.1.lt
theorem AL.lt2 (F : AL Z h a ea xs n mc) : ea < h.size := F.2.2.2.2.lt
theorem AL.ext (F : AL Z h a ea xs n mc) (E : Ext h h') : AL Z h' a ea xs n mc := ⟨F.1.ext E, F.2.1.ext E, F.2.2.1.ext E, F.2.2.2.1.ext E, F.2.2.2.2.ext E⟩
theorem AL.other (F : AL Z h a ea xs n mc) (W : Wr h h' b sl v) (q : a ≠ b) (r : ea ≠ b) : AL Z h' a ea xs n mc := ⟨F.1.wr W, F.2.1.other W (Or.inl q), F.2.2.1.other W (Or.inl q), F.2.2.2.1.other W (Or.inl q), F.2.2.2.2.other W r⟩
theorem AL.keep (F : AL Z h a ea xs n mc) (K : Keep h h' ws) (q : a ∉ ws) (r : ea ∉ ws) : AL Z h' a ea xs n mc := ⟨F.1.keep K, F.2.1.keep K q, F.2.2.1.keep K q, F.2.2.2.1.keep K q, F.2.2.2.2.keep K r⟩
/-- one place of an array of references that nobody writes -/
def EA (Z : State) (h : Heap) (a : Addr) (C : String) (n i : Nat) (v : Value) : Prop := (∃ cl, Arr Z h a cl (.object C) ∧ cl.slots.size = n ∧ cl.slots[i]? = some v) ∧ i < n ∧ n < 1000
variable {n i : Nat}
theorem EA.lt (F : EA Z h a C n i v) : a < h.size := by obtain ⟨⟨cl, A, -⟩, -⟩ := F; exact A.lt
theorem EA.ext (F : EA Z h a C n i v) (E : Ext h h') : EA Z h' a C n i v := by obtain ⟨⟨cl, A, q⟩, r⟩ := F; exact ⟨⟨cl, A.ext E, q⟩, r⟩
theorem EA.other {v' : Value} (F : EA Z h b C n i v) (W : Wr h h' a sl v') (q : b ≠ a) : EA Z h' b C n i v := by obtain ⟨⟨cl, A, r⟩, t⟩ := F; exact ⟨⟨cl, A.other W q, r⟩, t⟩
theorem EA.keep (F : EA Z h a C n i v) (K : Keep h h' ws) (q : a ∉ ws) : EA Z h' a C n i v := by obtain ⟨⟨cl, A, r⟩, t⟩ := F; exact ⟨⟨cl, ⟨K.2.1 _ _ A.1 q, A.2⟩, r⟩, t⟩
theorem ea_ld (X : Stand p l e R s m args below meth c T locs cells slots) (hx : p.tables.exec = Jvm.exec) (hZ : Z.Warmed39 s.vm) (eT : T.heap = h) (A : EA Z h a C n i v) {j : Int32} {g : JFrame} (hg : g.method = m) {rest : List Value} (hj : j = Int32.ofNat i) (hs : g.stack = .int j :: .ref a :: rest) (hd : decode c.code g.pc = .ok (.aaload, 1)) (target : State)
    (q : Steps p.tables e below (T.setTop { g with pc := g.pc + 1, stack := v :: rest }) target) : Steps p.tables e below (T.setTop g) target := by
  obtain ⟨⟨cl, Ar, S, H⟩, r, t⟩ := A
  refine X.aaload hx (by rw [eT]; exact Ar.1) (State.isArrayOf_alike hZ.alike Ar.2.1) rfl Ar.2.2 ?_ (v := v) ?_ hg hs hd target q
  · rintro (q | q)
    · rw [hj] at q; exact own_nn (by omega) q
    · rw [S, hj, own_n32 (by omega)] at q; omega
  · rw [hj, own_n32 (by omega)]; exact H
end own4
theorem own_notFace {args : Array Value} {s : State} {C : String} {y z : MethodName} (hsel : (Cond.selects C z z).before args s = true) (hc : y.cls = z.cls) : NotFace s y := fun r0 h0 => by
  obtain ⟨c2, r2, m2, q1, q2, q3, q4, kP, hkP, hkPi⟩ := Cond.selects_spec hsel
  have e1 := findClass_of_methodNamed h0
  have e2 := findClass_of_methodNamed q3
  rw [hc] at e1
  have e3 := Option.some.inj (e2.symm.trans e1)
  exact ⟨kP, by rw [← e3]; exact hkP, hkPi⟩
theorem own_selPriv {args : Array Value} {s : State} {C : String} {y z : MethodName} (hsel : (Cond.selects C z z).before args s = true) (hc : y.cls = z.cls) (hpriv : s.PrivateAt y) (hinst : (Cond.instanceMethod y).before args s = true) (hy : y.cls ≠ "java/lang/invoke/MethodHandle" ∧ y.cls ≠ "java/lang/invoke/VarHandle") : (Cond.selects y.cls y y).before args s = true := by
  obtain ⟨c2, r2, m2, q1, q2, q3, q4, kP, hkP, hkPi⟩ := Cond.selects_spec hsel
  exact selects_self_of_private (by rw [hc]; exact findClass_of_methodNamed q3) hkP hkPi hpriv hinst hy
theorem own_mvN {Z s : State} {a0 args : Array Value} {own host : String} {index : Nat} {y : MethodName} (hZ : Z.Warmed39 s.vm) (w : (Cond.methodLinkNest own index y host).before a0 Z = true) : (Cond.methodLinkNest own index y host).before args s = true := (Cond.methodLinkNest_wide hZ w :)
/-! ## a small executor over an abstract heap, and its soundness -/
abbrev Ob := Sum (Nat × List (Nat × Value)) (Nat × List Value)
abbrev Ent := Nat × Instr × Nat × List Value
abbrev Met := MethodName × ByteArray × Nat × Option FieldType × List Ent
abbrev Cla := String × Nat × List Nat
abbrev Fie := String × String × String × FieldType
abbrev Ary := FieldType × String × Nat × Nat
abbrev Stc := String × String × String × Value
abbrev Pg := List Met × List Cla × List Fie × List Ary × List Stc × List (Value × Nat) × List (Nat × Nat) × Nat
abbrev Pg.ms (P : Pg) : List Met := P.1
abbrev Pg.cs (P : Pg) : List Cla := P.2.1
abbrev Pg.fs (P : Pg) : List Fie := P.2.2.1
abbrev Pg.ay (P : Pg) : List Ary := P.2.2.2.1
abbrev Pg.ss (P : Pg) : List Stc := P.2.2.2.2.1
abbrev Pg.kt (P : Pg) : List (Value × Nat) := P.2.2.2.2.2.1
abbrev Pg.dn (P : Pg) : List (Nat × Nat) := P.2.2.2.2.2.2.1
abbrev Pg.nb (P : Pg) : Nat := P.2.2.2.2.2.2.2
abbrev Orc := List (Nat × Value × Value × Value)
abbrev Cfg := Nat × List Slot × List Value × List Ob × Nat × Nat
abbrev Res := Option Value × List Ob × Nat × Nat
def den (ρ : Nat → Nat) (σ : Nat → Int32) : Value → Value
  | .ref i => .ref (ρ i)
  | .retAddr k => .int (σ k)
  | v => v
def denS (ρ : Nat → Nat) (σ : Nat → Int32) : Slot → Slot
  | .val v => .val (den ρ σ v)
  | x => x
def dS (ρ : Nat → Nat) (σ : Nat → Int32) (S : List Value) : List Value := S.map (den ρ σ)
def dL (ρ : Nat → Nat) (σ : Nat → Int32) (L : List Slot) : Array Slot := (L.map (denS ρ σ)).toArray
def ival (σ : Nat → Int32) : Value → Option Int32
  | .int x => some x
  | .retAddr k => some (σ k)
  | _ => none
def scV (n : Nat) : Value → Bool
  | .ref i => Nat.blt i n
  | _ => true
def scS (n : Nat) : Slot → Bool
  | .val v => scV n v
  | _ => true
def scO (n : Nat) : Ob → Bool
  | .inl (_, fl) => fl.all fun f => scV n f.2
  | .inr (_, es) => es.all (scV n)
/-! ### the pure instructions -/
def opf : Nat → Int32 → Int32 → Int32
  | 0, x, y => x + y
  | 1, x, y => x - y
  | 2, x, y => x * y
  | 3, x, y => x &&& y
  | 4, x, y => x ||| y
  | 5, x, y => x ^^^ y
  | 6, x, y => x <<< (y &&& 31)
  | 7, x, y => x >>> (y &&& 31)
  | 8, x, y => (x.toUInt32 >>> (y &&& 31).toUInt32).toInt32
  | 9, x, y => x / y
  | _, x, y => x - (x / y) * y
def opn : Instr → Option Nat
  | .iadd => some 0
  | .isub => some 1
  | .imul => some 2
  | .iand => some 3
  | .ior => some 4
  | .ixor => some 5
  | .ishl => some 6
  | .ishr => some 7
  | .iushr => some 8
  | .idiv => some 9
  | .irem => some 10
  | _ => none
def ofnd (q : Orc) (n : Nat) (a b : Value) : Option Value :=
  match q.find? (fun t => Nat.beq t.1 n && (decide (t.2.1 = a) && decide (t.2.2.1 = b))) with
  | some t => some t.2.2.2
  | none => none
def bop (q : Orc) (n : Nat) (a b : Value) : Option Value :=
  match a, b with
  | .int x, .int y => if Nat.ble 9 n && decide (y = 0) then none else some (.int (opf n x y))
  | a, b => ofnd q n a b
def cdn : ClassFile.Cond → Nat
  | .eq => 20
  | .ne => 21
  | .lt => 22
  | .ge => 23
  | .gt => 24
  | .le => 25
def cop (q : Orc) (cd : ClassFile.Cond) (a b : Value) : Option Bool :=
  match a, b with
  | .int x, .int y => some (if_icmp.holds cd x y)
  | a, b =>
    match ofnd q (cdn cd) a b with
    | some (.int z) => some (decide (z = 1))
    | _ => none
/-- what an oracle's row says -/
def OrcT (σ : Nat → Int32) (t : Nat × Value × Value × Value) : Prop :=
  ∃ x y z, ival σ t.2.1 = some x ∧ ival σ t.2.2.1 = some y ∧ ival σ t.2.2.2 = some z ∧
    (t.1 < 20 → (9 ≤ t.1 → y ≠ 0) ∧ z = opf t.1 x y) ∧ ∀ cd, cdn cd = t.1 → t.2.2.2 = .int z ∧ (z = 1 ↔ if_icmp.holds cd x y = true)
def OrcOK (σ : Nat → Int32) (q : Orc) : Prop := ∀ t ∈ q, OrcT σ t
def aeq (P : Pg) (n : Nat) : Value → Value → Option Bool
  | .null, .null => some true
  | .null, .ref _ => some false
  | .ref _, .null => some false
  | .ref i, .ref j => if Nat.beq i j then some true else if Nat.blt i n && (Nat.blt j n && ((Nat.ble P.nb i || Nat.ble P.nb j) || P.dn.any fun t => Nat.beq t.1 i && Nat.beq t.2 j)) then some false else none
  | _, _ => none
def jmp (pc : Nat) (o : Int) : Option Nat := if 0 ≤ (pc : Int) + o then some ((pc : Int) + o).toNat else none
def kOK : Nat → Value → Bool
  | 0, .int _ => true
  | 0, .retAddr _ => true
  | 1, .ref _ => true
  | 1, .null => true
  | _, _ => false
def cst : Instr → Nat → Option Value
  | .iconst i, 1 => some (.int (Int32.ofInt i))
  | .bipush i, 2 => some (.int (Int8.ofInt i).toInt32)
  | .sipush i, 3 => some (.int (Int16.ofInt i).toInt32)
  | .aconst_null, 1 => some .null
  | _, _ => none
def ldx : Instr → Nat → Option (Nat × Nat)
  | .iload_n k, 1 => some (k.val, 0)
  | .iload k, 2 => some (k, 0)
  | .aload_n k, 1 => some (k.val, 1)
  | .aload k, 2 => some (k, 1)
  | _, _ => none
def stx : Instr → Nat → Option (Nat × Nat)
  | .istore_n k, 1 => some (k.val, 0)
  | .istore k, 2 => some (k, 0)
  | .astore_n k, 1 => some (k.val, 1)
  | .astore k, 2 => some (k, 1)
  | _, _ => none
def cat1 : Slot → Bool
  | .unset => true
  | .second => false
  | .val w => Nat.beq w.category 1
abbrev Pu := Nat × List Slot × List Value
def una : Instr → Option (Int32 → Int32)
  | .ineg => some fun x => -x
  | .i2b => some fun x => x.toInt8.toInt32
  | .i2c => some fun x => x.toUInt32.toUInt16.toUInt32.toInt32
  | .i2s => some fun x => x.toInt16.toInt32
  | _ => none
def bra (P : Pg) (q : Orc) (pc : Nat) (ins : Instr) (len : Nat) (n : Nat) (S : List Value) : Option (Nat × List Value) :=
  match ins, S with
  | .goto o, S => if Nat.beq len 3 then (match jmp pc o with | some pc' => some (pc', S) | none => none) else none
  | .ifCond cd o, a :: r => if Nat.beq len 3 then (match cop q cd a (.int 0) with | some true => (match jmp pc o with | some pc' => some (pc', r) | none => none) | some false => some (pc + 3, r) | none => none) else none
  | .if_icmp cd o, b :: a :: r => if Nat.beq len 3 then (match cop q cd a b with | some true => (match jmp pc o with | some pc' => some (pc', r) | none => none) | some false => some (pc + 3, r) | none => none) else none
  | .ifnull o, .null :: r => if Nat.beq len 3 then (match jmp pc o with | some pc' => some (pc', r) | none => none) else none
  | .ifnull _, .ref _ :: r => if Nat.beq len 3 then some (pc + 3, r) else none
  | .ifnonnull o, .ref _ :: r => if Nat.beq len 3 then (match jmp pc o with | some pc' => some (pc', r) | none => none) else none
  | .ifnonnull _, .null :: r => if Nat.beq len 3 then some (pc + 3, r) else none
  | .if_acmp cd o, w :: v :: r => if Nat.beq len 3 then (match aeq P n v w, jmp pc o with | some b, some pc' => some (if acV cd b = true then pc' else pc + 3, r) | _, _ => none) else none
  | .tableswitch d lo hi offs, .int k :: r => if k.toInt < lo ∨ k.toInt > hi then (match jmp pc d with | some pc' => some (pc', r) | none => none) else (match offs[(k.toInt - lo).toNat]? with | some o => (match jmp pc o with | some pc' => some (pc', r) | none => none) | none => none)
  | .lookupswitch d prs, .int k :: r => if (prs.toList.zip (prs.toList.drop 1)).all (fun (a, next) => a.1 < next.1) = true then (match prs.find? (·.1 == k.toInt) with | some (_, o) => (match jmp pc o with | some pc' => some (pc', r) | none => none) | none => (match jmp pc d with | some pc' => some (pc', r) | none => none)) else none
  | _, _ => none
def stk (ins : Instr) (S : List Value) : Option (List Value) :=
  match ins, S with
  | .dup, v :: r => if Nat.beq v.category 1 then some (v :: v :: r) else none
  | .dup_x1, v :: w :: r => if Nat.beq v.category 1 && Nat.beq w.category 1 then some (v :: w :: v :: r) else none
  | .pop, v :: r => if Nat.beq v.category 1 then some r else none
  | _, _ => none
def inc (q : Orc) (ins : Instr) (len : Nat) (L : List Slot) : Option (List Slot) :=
  match ins with
  | .iinc k cs => if Nat.beq len 3 then (match L[k]? with | some (.val a) => (match bop q 0 a (.int (Int32.ofInt cs)) with | some v => some (L.set k (.val v)) | none => none) | _ => none) else none
  | _ => none
def pst (P : Pg) (q : Orc) (pc : Nat) (ins : Instr) (len : Nat) (n : Nat) (L : List Slot) (S : List Value) : Option Pu :=
  match cst ins len with
  | some v => some (pc + len, L, v :: S)
  | none =>
  match ldx ins len with
  | some (k, kd) => (match L[k]? with | some (.val v) => if kOK kd v then some (pc + len, L, v :: S) else none | _ => none)
  | none =>
  match stx ins len with
  | some (k, kd) => (match S with | v :: r => (match L[k]? with | some o => if kOK kd v && cat1 o then some (pc + len, L.set k (.val v), r) else none | none => none) | [] => none)
  | none =>
  match opn ins with
  | some n => (match S with | b :: a :: r => if Nat.beq len 1 then (match bop q n a b with | some v => some (pc + 1, L, v :: r) | none => none) else none | _ => none)
  | none =>
  match una ins with
  | some f => (match S with | .int x :: r => if Nat.beq len 1 then some (pc + 1, L, .int (f x) :: r) else none | _ => none)
  | none =>
  match stk ins S with
  | some S' => if Nat.beq len 1 then some (pc + 1, L, S') else none
  | none =>
  match bra P q pc ins len n S with
  | some (pc', S') => some (pc', L, S')
  | none =>
  match inc q ins len L with
  | some L' => some (pc + 3, L', S)
  | none => none
section exc
variable {p : Program} {l : Launch} {e : Env} {R : Room} {s : State} {m : MethodId} {args : Array Value} {below : List Frame} {meth : Method} {c : Code} {T : State} {locs : List Loc} {cells slots : Nat} {Z : State} {h h' : Heap} {ρ ρ' : Nat → Nat} {σ : Nat → Int32} {P : Pg} {q : Orc}
theorem den_ival {v : Value} {x : Int32} (h : ival σ v = some x) : den ρ σ v = .int x := by cases v <;> simp [ival] at h <;> simp [den, h]
theorem den_cat (v : Value) : (den ρ σ v).category = v.category := by cases v <;> rfl
theorem dL_get (L : List Slot) (k : Nat) : (dL ρ σ L)[k]? = (L[k]?).map (denS ρ σ) := by simp [dL]
theorem dL_set (L : List Slot) (k : Nat) (v : Value) : (dL ρ σ L).setIfInBounds k (.val (den ρ σ v)) = dL ρ σ (L.set k (.val v)) := by simp [dL, List.map_set, denS]
theorem dL_size (L : List Slot) : (dL ρ σ L).size = L.length := by simp [dL]
theorem ofnd_ok {n : Nat} {a b r : Value} (hq : OrcOK σ q) (h : ofnd q n a b = some r) : OrcT σ (n, a, b, r) := by
  unfold ofnd at h
  split at h
  · rename_i t ht
    cases h
    have hm := List.mem_of_find?_eq_some ht
    have hp := List.find?_some ht
    simp only [Bool.and_eq_true, decide_eq_true_eq] at hp
    obtain ⟨e1, rfl, rfl⟩ := hp
    cases Nat.eq_of_beq_eq_true e1
    exact hq _ hm
  · cases h
theorem bop_ok {n : Nat} {a b r : Value} (hn : n < 20) (hq : OrcOK σ q) (h : bop q n a b = some r) : ∃ x y, den ρ σ a = .int x ∧ den ρ σ b = .int y ∧ (9 ≤ n → y ≠ 0) ∧ den ρ σ r = .int (opf n x y) := by
  unfold bop at h
  split at h
  · rename_i x y
    split at h
    · cases h
    · rename_i hz
      cases h
      refine ⟨x, y, rfl, rfl, fun h9 h0 => hz ?_, rfl⟩
      simp [h0, Nat.ble_eq, h9]
  · obtain ⟨x, y, z, h1, h2, h3, h4, -⟩ := ofnd_ok hq h
    obtain ⟨h5, h6⟩ := h4 hn
    exact ⟨x, y, den_ival h1, den_ival h2, h5, by rw [den_ival h3]; exact congrArg _ h6⟩
theorem cop_ok {cd : ClassFile.Cond} {a b : Value} {t : Bool} (hq : OrcOK σ q) (h : cop q cd a b = some t) : ∃ x y, den ρ σ a = .int x ∧ den ρ σ b = .int y ∧ if_icmp.holds cd x y = t := by
  unfold cop at h
  split at h
  · cases h; exact ⟨_, _, rfl, rfl, rfl⟩
  · split at h
    · rename_i z hz
      cases h
      obtain ⟨x, y, z', h1, h2, h3, -, h5⟩ := ofnd_ok hq hz
      obtain ⟨h6, h7⟩ := h5 cd rfl
      cases h6
      refine ⟨x, y, den_ival h1, den_ival h2, ?_⟩
      by_cases e : z = 1
      · rw [h7.mp e]; simp [e]
      · have : ¬ if_icmp.holds cd x y = true := fun u => e (h7.mpr u)
        simp only [Bool.not_eq_true] at this
        simp [e, this]
    · cases h
theorem jmp_ok {pc pc' : Nat} {o : Int} (h : jmp pc o = some pc') : 0 ≤ (pc : Int) + o ∧ ((pc : Int) + o).toNat = pc' := by
  unfold jmp at h; split at h
  · rename_i q; cases h; exact ⟨q, rfl⟩
  · cases h
theorem cst_ok {ins : Instr} {len pc : Nat} {v : Value} {Ls : Array Slot} {st : List Value} (X : Stand p l e R s m args below meth c T locs cells slots) (hx : p.tables.exec = Jvm.exec) (hd : decode c.code pc = .ok (ins, len)) (h : cst ins len = some v) (t : State)
    (k : Steps p.tables e below (T.setTop (mkF m (pc + len) Ls (v :: st))) t) : Steps p.tables e below (T.setTop (mkF m pc Ls st)) t ∧ den ρ σ v = v := by
  unfold cst at h
  split at h
  · cases h; exact ⟨XS.iconst X.here hx rfl hd k, rfl⟩
  · cases h; exact ⟨XS.bipush X.here hx rfl hd k, rfl⟩
  · cases h; exact ⟨XS.sipush X.here hx rfl hd k, rfl⟩
  · cases h; exact ⟨XS.aconstNull X.here hx rfl hd k, rfl⟩
  · cases h
theorem kOK0 {v : Value} (h : kOK 0 v = true) : ∃ x, den ρ σ v = .int x := by cases v <;> simp [kOK] at h <;> exact ⟨_, rfl⟩
theorem kOK1 {v : Value} (h : kOK 1 v = true) : (den ρ σ v).isRef = true := by cases v <;> simp [kOK] at h <;> rfl
theorem ldx_ok {ins : Instr} {len pc i kd : Nat} {v : Value} {Ls : Array Slot} {st : List Value} (X : Stand p l e R s m args below meth c T locs cells slots) (hx : p.tables.exec = Jvm.exec) (hd : decode c.code pc = .ok (ins, len)) (h : ldx ins len = some (i, kd)) (hl : Ls[i]? = some (.val (den ρ σ v))) (hk : kOK kd v = true) (t : State)
    (k : Steps p.tables e below (T.setTop (mkF m (pc + len) Ls (den ρ σ v :: st))) t) : Steps p.tables e below (T.setTop (mkF m pc Ls st)) t := by
  unfold ldx at h
  split at h
  · cases h; obtain ⟨x, ex⟩ := kOK0 (ρ := ρ) (σ := σ) hk; rw [ex] at hl k; exact XS.iloadN X.here hx rfl hd hl k
  · cases h; obtain ⟨x, ex⟩ := kOK0 (ρ := ρ) (σ := σ) hk; rw [ex] at hl k; exact XS.iload X.here hx rfl hd hl k
  · cases h; exact XS.aloadN X.here hx rfl hd hl (kOK1 hk) k
  · cases h; exact XS.aload X.here hx rfl hd hl (kOK1 hk) k
  · cases h
theorem cat1_ok {o : Slot} (h : cat1 o = true) : denS ρ σ o = .unset ∨ ∃ w, denS ρ σ o = .val w ∧ w.category = 1 := by
  cases o with
  | unset => exact Or.inl rfl
  | second => cases h
  | val w => exact Or.inr ⟨_, rfl, by rw [den_cat]; exact Nat.eq_of_beq_eq_true h⟩
theorem stx_ok {ins : Instr} {len pc i kd : Nat} {v : Value} {o : Slot} {Ls : Array Slot} {st : List Value} (X : Stand p l e R s m args below meth c T locs cells slots) (hx : p.tables.exec = Jvm.exec) (hd : decode c.code pc = .ok (ins, len)) (h : stx ins len = some (i, kd)) (hl : Ls[i]? = some o) (ho : o = .unset ∨ ∃ w, o = .val w ∧ w.category = 1) (hk : kOK kd v = true) (t : State)
    (k : Steps p.tables e below (T.setTop (mkF m (pc + len) (Ls.setIfInBounds i (.val (den ρ σ v))) st)) t) : Steps p.tables e below (T.setTop (mkF m pc Ls (den ρ σ v :: st))) t := by
  unfold stx at h
  split at h
  · cases h; obtain ⟨x, ex⟩ := kOK0 (ρ := ρ) (σ := σ) hk; rw [ex] at k ⊢; exact XS.istoreN X.here hx rfl hd rfl (XS.store1 hl ho rfl) k
  · cases h; obtain ⟨x, ex⟩ := kOK0 (ρ := ρ) (σ := σ) hk; rw [ex] at k ⊢; exact XS.istore X.here hx rfl hd rfl (XS.store1 hl ho rfl) k
  · cases h; exact XS.astoreN X.here hx rfl hd rfl (kOK1 hk) (XS.store1 hl ho (by rcases ref_cases (kOK1 (ρ := ρ) (σ := σ) hk) with q | ⟨a, q⟩ <;> rw [q] <;> rfl)) k
  · cases h; exact XS.astore X.here hx rfl hd rfl (kOK1 hk) (XS.store1 hl ho (by rcases ref_cases (kOK1 (ρ := ρ) (σ := σ) hk) with q | ⟨a, q⟩ <;> rw [q] <;> rfl)) k
  · cases h
theorem opn_ok {ins : Instr} {pc n : Nat} {x y : Int32} {Ls : Array Slot} {st : List Value} (X : Stand p l e R s m args below meth c T locs cells slots) (hx : p.tables.exec = Jvm.exec) (hd : decode c.code pc = .ok (ins, 1)) (h : opn ins = some n) (hy : 9 ≤ n → y ≠ 0) (t : State)
    (k : Steps p.tables e below (T.setTop (mkF m (pc + 1) Ls (.int (opf n x y) :: st))) t) : Steps p.tables e below (T.setTop (mkF m pc Ls (.int y :: .int x :: st))) t ∧ n < 20 := by
  unfold opn at h
  split at h
  · cases h; exact ⟨XS.iadd X.here hx rfl hd rfl k, by decide⟩
  · cases h; exact ⟨XS.isub X.here hx rfl hd rfl k, by decide⟩
  · cases h; exact ⟨XS.imul X.here hx rfl hd rfl k, by decide⟩
  · cases h; exact ⟨XS.iand X.here hx rfl hd rfl k, by decide⟩
  · cases h; exact ⟨XS.ior X.here hx rfl hd rfl k, by decide⟩
  · cases h; exact ⟨XS.ixor X.here hx rfl hd rfl k, by decide⟩
  · cases h; exact ⟨XS.ishl X.here hx rfl hd rfl k, by decide⟩
  · cases h; exact ⟨XS.ishr X.here hx rfl hd rfl k, by decide⟩
  · cases h; exact ⟨XS.iushr X.here hx rfl hd rfl k, by decide⟩
  · cases h; exact ⟨XS.idiv X.here hx rfl hd rfl (hy (by decide)) k, by decide⟩
  · cases h; exact ⟨XS.irem X.here hx rfl hd rfl (hy (by decide)) k, by decide⟩
  · cases h
theorem opn_lt {ins : Instr} {n : Nat} (h : opn ins = some n) : n < 20 := by
  unfold opn at h
  split at h <;> first | (cases h; done) | (cases h; decide)
theorem una_ok {ins : Instr} {pc : Nat} {x : Int32} {f : Int32 → Int32} {Ls : Array Slot} {st : List Value} (X : Stand p l e R s m args below meth c T locs cells slots) (hx : p.tables.exec = Jvm.exec) (hd : decode c.code pc = .ok (ins, 1)) (h : una ins = some f) (t : State)
    (k : Steps p.tables e below (T.setTop (mkF m (pc + 1) Ls (.int (f x) :: st))) t) : Steps p.tables e below (T.setTop (mkF m pc Ls (.int x :: st))) t := by
  unfold una at h
  split at h
  · cases h; exact XS.ineg X.here hx rfl hd rfl k
  · cases h; exact XS.i2b X.here hx rfl hd rfl k
  · cases h; exact XS.i2c X.here hx rfl hd rfl k
  · cases h; exact XS.i2s X.here hx rfl hd rfl k
  · cases h
theorem stk_ok {ins : Instr} {pc : Nat} {S S' : List Value} {Ls : Array Slot} (X : Stand p l e R s m args below meth c T locs cells slots) (hx : p.tables.exec = Jvm.exec) (hd : decode c.code pc = .ok (ins, 1)) (h : stk ins S = some S') (t : State)
    (k : Steps p.tables e below (T.setTop (mkF m (pc + 1) Ls (dS ρ σ S'))) t) : Steps p.tables e below (T.setTop (mkF m pc Ls (dS ρ σ S))) t := by
  unfold stk at h
  split at h
  · split at h
    · rename_i q; cases h; exact XS.dup X.here hx rfl hd rfl (by rw [den_cat]; exact Nat.eq_of_beq_eq_true q) k
    · cases h
  · split at h
    · rename_i q; cases h; simp only [Bool.and_eq_true] at q
      exact XS.dupX1 X.here hx rfl hd rfl (by rw [den_cat]; exact Nat.eq_of_beq_eq_true q.1) (by rw [den_cat]; exact Nat.eq_of_beq_eq_true q.2) k
    · cases h
  · split at h
    · rename_i q; cases h; exact XS.pop X.here hx rfl hd rfl (by rw [den_cat]; exact Nat.eq_of_beq_eq_true q) k
    · cases h
  · cases h
/-- what the places of the heap are known to be apart by -/
def Apart (P : Pg) (ρ : Nat → Nat) (n : Nat) : Prop := ∀ i j, i < n → j < n → i ≠ j → (P.nb ≤ i ∨ P.nb ≤ j ∨ (i, j) ∈ P.dn) → ρ i ≠ ρ j
theorem aeq_ok {n : Nat} {v w : Value} {b : Bool} (hA : Apart P ρ n) (h : aeq P n v w = some b) : (den ρ σ v).isRef = true ∧ (den ρ σ w).isRef = true ∧ decide (den ρ σ v = den ρ σ w) = b := by
  unfold aeq at h
  split at h
  · cases h; exact ⟨rfl, rfl, rfl⟩
  · cases h; exact ⟨rfl, rfl, rfl⟩
  · cases h; exact ⟨rfl, rfl, rfl⟩
  · rename_i i j
    split at h
    · rename_i q; cases h; cases Nat.eq_of_beq_eq_true q; exact ⟨rfl, rfl, by simp⟩
    · rename_i q0
      split at h
      · rename_i q; cases h
        simp only [Bool.and_eq_true, Bool.or_eq_true, List.any_eq_true, Nat.blt_eq, Nat.ble_eq] at q
        have ne : i ≠ j := fun u => q0 (by rw [u]; exact Nat.beq_refl j)
        refine ⟨rfl, rfl, decide_eq_false fun uu => hA i j q.1 q.2.1 ne ?_ (Value.ref.inj uu)⟩
        rcases q.2.2 with (u | u) | ⟨⟨a, b⟩, u, u1, u2⟩
        · exact Or.inl u
        · exact Or.inr (Or.inl u)
        · cases Nat.eq_of_beq_eq_true u1; cases Nat.eq_of_beq_eq_true u2; exact Or.inr (Or.inr u)
      · cases h
  · cases h
theorem bra_ok {ins : Instr} {len pc pc' n : Nat} {S S' : List Value} {Ls : Array Slot} (X : Stand p l e R s m args below meth c T locs cells slots) (hx : p.tables.exec = Jvm.exec) (hq : OrcOK σ q) (hA : Apart P ρ n) (hd : decode c.code pc = .ok (ins, len)) (h : bra P q pc ins len n S = some (pc', S')) (t : State)
    (k : Steps p.tables e below (T.setTop (mkF m pc' Ls (dS ρ σ S'))) t) : Steps p.tables e below (T.setTop (mkF m pc Ls (dS ρ σ S))) t := by
  unfold bra at h
  split at h
  · split at h
    · rename_i u; cases Nat.eq_of_beq_eq_true u
      split at h
      · rename_i hj; cases h; obtain ⟨j1, j2⟩ := jmp_ok hj; exact XS.goto X.here hx rfl rfl hd j1 j2 k
      · cases h
    · cases h
  · split at h
    · rename_i u; cases Nat.eq_of_beq_eq_true u
      split at h
      · rename_i hc
        obtain ⟨x, y, e1, e2, e3⟩ := cop_ok (ρ := ρ) hq hc
        cases e2
        split at h
        · rename_i hj; cases h; obtain ⟨j1, j2⟩ := jmp_ok hj
          exact XS.ifYes X.here hx rfl rfl hd (congrArg (· :: _) e1) ((if0 _ _).trans e3) j1 j2 k
        · cases h
      · rename_i hc
        obtain ⟨x, y, e1, e2, e3⟩ := cop_ok (ρ := ρ) hq hc
        cases e2; cases h
        exact XS.ifNo X.here hx rfl hd (congrArg (· :: _) e1) ((if0 _ _).trans e3) k
      · cases h
    · cases h
  · split at h
    · rename_i u; cases Nat.eq_of_beq_eq_true u
      split at h
      · rename_i hc
        obtain ⟨x, y, e1, e2, e3⟩ := cop_ok (ρ := ρ) hq hc
        split at h
        · rename_i hj; cases h; obtain ⟨j1, j2⟩ := jmp_ok hj
          exact XS.icmpYes X.here hx rfl rfl hd (congr (congrArg List.cons e2) (congrArg (· :: _) e1)) e3 j1 j2 k
        · cases h
      · rename_i hc
        obtain ⟨x, y, e1, e2, e3⟩ := cop_ok (ρ := ρ) hq hc
        cases h
        exact XS.icmpNo X.here hx rfl hd (congr (congrArg List.cons e2) (congrArg (· :: _) e1)) e3 k
      · cases h
    · cases h
  · split at h
    · rename_i u; cases Nat.eq_of_beq_eq_true u
      split at h
      · rename_i hj; cases h; obtain ⟨j1, j2⟩ := jmp_ok hj; exact XS.ifnullYes X.here hx rfl rfl hd rfl j1 j2 k
      · cases h
    · cases h
  · split at h
    · rename_i u; cases Nat.eq_of_beq_eq_true u; cases h; exact XS.ifnullNo X.here hx rfl hd rfl k
    · cases h
  · split at h
    · rename_i u; cases Nat.eq_of_beq_eq_true u
      split at h
      · rename_i hj; cases h; obtain ⟨j1, j2⟩ := jmp_ok hj; exact XS.ifnonnullYes X.here hx rfl rfl hd rfl j1 j2 k
      · cases h
    · cases h
  · split at h
    · rename_i u; cases Nat.eq_of_beq_eq_true u; cases h; exact XS.ifnonnullNo X.here hx rfl hd rfl k
    · cases h
  · split at h
    · rename_i u; cases Nat.eq_of_beq_eq_true u
      split at h
      · rename_i b pj ha hj
        cases h
        obtain ⟨j1, j2⟩ := jmp_ok hj
        obtain ⟨r1, r2, r3⟩ := aeq_ok (σ := σ) hA ha
        refine Jvm.RoadKit.acmp X hx rfl r1 r2 rfl hd rfl r3 j1 ?_ k
        rw [j2]
      · cases h
    · cases h
  · rename_i dd lo hi offs kk r
    split at h
    · rename_i hout
      split at h
      · rename_i hj; cases h; obtain ⟨j1, j2⟩ := jmp_ok hj
        exact X.tableswitchOut hx (g := mkF m pc Ls (dS ρ σ (.int kk :: S'))) rfl (k := kk) rfl hd hout j1 t (by rw [← j2] at k; exact k)
      · cases h
    · rename_i hin
      split at h
      · rename_i o ho
        split at h
        · rename_i hj; cases h; obtain ⟨j1, j2⟩ := jmp_ok hj
          exact X.tableswitchIn hx (g := mkF m pc Ls (dS ρ σ (.int kk :: S'))) rfl (k := kk) rfl hd hin ho j1 t (by rw [← j2] at k; exact k)
        · cases h
      · cases h
  · rename_i dd prs kk r
    split at h
    · rename_i hs
      split at h
      · rename_i a o hf
        split at h
        · rename_i hj; cases h; obtain ⟨j1, j2⟩ := jmp_ok hj
          exact X.lookupswitchHit hx (g := mkF m pc Ls (dS ρ σ (.int kk :: S'))) rfl (k := kk) rfl hd hs hf j1 t (by rw [← j2] at k; exact k)
        · cases h
      · rename_i hf
        split at h
        · rename_i hj; cases h; obtain ⟨j1, j2⟩ := jmp_ok hj
          exact X.lookupswitchMiss hx (g := mkF m pc Ls (dS ρ σ (.int kk :: S'))) rfl (k := kk) rfl hd hs hf j1 t (by rw [← j2] at k; exact k)
        · cases h
    · cases h
  · cases h
theorem inc_ok {ins : Instr} {len pc : Nat} {L L' : List Slot} {st : List Value} (X : Stand p l e R s m args below meth c T locs cells slots) (hx : p.tables.exec = Jvm.exec) (hq : OrcOK σ q) (hd : decode c.code pc = .ok (ins, len)) (h : inc q ins len L = some L') :
    L'.length = L.length ∧ ∀ t, Steps p.tables e below (T.setTop (mkF m (pc + 3) (dL ρ σ L') st)) t → Steps p.tables e below (T.setTop (mkF m pc (dL ρ σ L) st)) t := by
  unfold inc at h
  split at h
  · rename_i k0 cs
    split at h
    · rename_i u; cases Nat.eq_of_beq_eq_true u
      split at h
      · rename_i a ha
        split at h
        · rename_i v hv
          cases h
          obtain ⟨x, y, e1, e2, -, e4⟩ := bop_ok (ρ := ρ) (by decide) hq hv
          cases e2
          refine ⟨List.length_set .., fun t k => ?_⟩
          rw [← dL_set, e4] at k
          have hl : (dL ρ σ L)[k0]? = some (Slot.val (.int x)) := by rw [dL_get, ha]; simp only [Option.map_some, denS, e1]
          exact XS.iinc X.here hx rfl hd hl (XS.store1 hl (Or.inr ⟨_, rfl, rfl⟩) rfl) k
        · cases h
      · cases h
    · cases h
  · cases h
theorem pst_ok {ins : Instr} {len pc pc' n : Nat} {L L' : List Slot} {S S' : List Value} (X : Stand p l e R s m args below meth c T locs cells slots) (hx : p.tables.exec = Jvm.exec) (hq : OrcOK σ q) (hA : Apart P ρ n) (hd : decode c.code pc = .ok (ins, len)) (h : pst P q pc ins len n L S = some (pc', L', S')) :
    L'.length = L.length ∧ ∀ t, Steps p.tables e below (T.setTop (mkF m pc' (dL ρ σ L') (dS ρ σ S'))) t → Steps p.tables e below (T.setTop (mkF m pc (dL ρ σ L) (dS ρ σ S))) t := by
  unfold pst at h
  split at h
  · rename_i v hv
    cases h
    refine ⟨rfl, fun t k => ?_⟩
    have e1 : den ρ σ v = v := by unfold cst at hv; split at hv <;> cases hv <;> rfl
    have k' : Steps p.tables e below (T.setTop (mkF m (pc + len) (dL ρ σ L) (v :: dS ρ σ S))) t := by rw [← e1]; exact k
    exact (cst_ok (ρ := ρ) (σ := σ) X hx hd hv t k').1
  split at h
  · rename_i i kd hi
    split at h
    · rename_i v hv
      split at h
      · rename_i hk
        cases h
        exact ⟨rfl, fun t k => ldx_ok X hx hd hi (by rw [dL_get, hv]; rfl) hk t k⟩
      · cases h
    · cases h
  split at h
  · rename_i i kd hi
    split at h
    · rename_i v r
      split at h
      · rename_i o ho
        split at h
        · rename_i hk
          simp only [Bool.and_eq_true] at hk
          cases h
          exact ⟨List.length_set .., fun t k => stx_ok X hx hd hi (by rw [dL_get, ho]; rfl) (cat1_ok hk.2) hk.1 t (by rw [dL_set]; exact k)⟩
        · cases h
      · cases h
    · cases h
  split at h
  · rename_i o ho
    split at h
    · split at h
      · rename_i u; cases Nat.eq_of_beq_eq_true u
        split at h
        · rename_i v hv
          cases h
          obtain ⟨x, y, e1, e2, e3, e4⟩ := bop_ok (ρ := ρ) (opn_lt ho) hq hv
          refine ⟨rfl, fun t k => ?_⟩
          simp only [dS, List.map_cons, e1, e2, e4] at k ⊢
          exact (opn_ok X hx hd ho e3 t k).1
        · cases h
      · cases h
    · cases h
  split at h
  · rename_i f hf
    split at h
    · split at h
      · rename_i u; cases Nat.eq_of_beq_eq_true u; cases h
        exact ⟨rfl, fun t k => una_ok X hx hd hf t k⟩
      · cases h
    · cases h
  split at h
  · rename_i S1 hS
    split at h
    · rename_i u; cases Nat.eq_of_beq_eq_true u; cases h
      exact ⟨rfl, fun t k => stk_ok X hx hd hS t k⟩
    · cases h
  split at h
  · rename_i hS; cases h
    exact ⟨rfl, fun t k => bra_ok X hx hq hA hd hS t k⟩
  split at h
  · rename_i L1 hL1
    cases h
    exact inc_ok X hx hq hd hL1
  · cases h
end exc
/-! ### the heap -/
def upd (ρ : Nat → Nat) (n : Nat) (a : Nat) : Nat → Nat := fun i => if i = n then a else ρ i
/-- an array by its list -/
def ArOK (Z : State) (h : Heap) (a : Addr) (ty : FieldType) (ad : String) (vs : List Value) : Prop :=
  (∃ C, ty = .object C ∧ OA Z h a C ad vs) ∨ ((∀ C, ty ≠ .object C) ∧ ∃ us, vs = us.map Value.int ∧ PA Z h a ty ad us)
def ObOK (P : Pg) (Z : State) (σ : Nat → Int32) (ρ : Nat → Nat) (h : Heap) (a : Addr) : Ob → Prop
  | .inl (c, fl) => ∃ C : Cla, P.cs[c]? = some C ∧ Exa Z h a C.1 ∧ ∀ t ∈ fl, ∃ F : Fie, P.fs[t.1]? = some F ∧ t.1 ∈ C.2.2 ∧ Fld Z h a F.1 F.2.1 F.2.2.1 (den ρ σ t.2)
  | .inr (k, es) => ∀ A : Ary, P.ay[k]? = some A → (A.2.2.1 = 0 → ArOK Z h a A.1 A.2.1 (dS ρ σ es)) ∧ (A.2.2.1 ≠ 0 → ∃ C v, A.1 = .object C ∧ es = [v] ∧ EA Z h a C A.2.2.1 A.2.2.2 (den ρ σ v))
def Rel (P : Pg) (Z : State) (ρ0 : Nat → Nat) (σ : Nat → Int32) (n0 : Nat) (ρ : Nat → Nat) (D : List Ob) (h : Heap) : Prop :=
  (∀ i o, D[i]? = some o → ObOK P Z σ ρ h (ρ i) o ∧ scO D.length o = true) ∧
  (∀ i, i < P.nb → ρ i = ρ0 i ∧ ρ0 i < n0) ∧
  (∀ i, P.nb ≤ i → i < D.length → n0 ≤ ρ i ∧ ρ i < h.size) ∧
  (∀ i j, P.nb ≤ i → P.nb ≤ j → i < D.length → j < D.length → i ≠ j → ρ i ≠ ρ j) ∧
  (n0 ≤ h.size ∧ P.nb ≤ D.length) ∧
  ∀ t ∈ P.ss, SN Z n0 h t.1 t.2.1 t.2.2.1 (den ρ0 σ t.2.2.2) ∧ scV P.nb t.2.2.2 = true
section exd
variable {p : Program} {l : Launch} {e : Env} {R : Room} {s : State} {m : MethodId} {args : Array Value} {below : List Frame} {meth : Method} {c : Code} {T : State} {locs : List Loc} {cells slots : Nat} {Z : State} {a0 : Array Value} {h h' : Heap} {ρ0 ρ ρ' : Nat → Nat} {σ : Nat → Int32} {P : Pg} {q : Orc} {n0 : Nat} {D : List Ob} {a b : Addr} {ws : List Addr}
theorem ArOK.keep {ty : FieldType} {ad : String} {vs : List Value} (F : ArOK Z h a ty ad vs) (K : Keep h h' ws) (q : a ∉ ws) : ArOK Z h' a ty ad vs := by
  rcases F with ⟨C, e1, F⟩ | ⟨e1, us, e2, F⟩
  · exact Or.inl ⟨C, e1, F.keep K q⟩
  · exact Or.inr ⟨e1, us, e2, F.keep K q⟩
theorem ObOK.keep {o : Ob} (F : ObOK P Z σ ρ h a o) (K : Keep h h' ws) (q : a ∉ ws) : ObOK P Z σ ρ h' a o := by
  match o, F with
  | .inl (c, fl), F =>
    obtain ⟨C, h1, h2, h3⟩ := F
    exact ⟨C, h1, h2.keep K, fun t ht => by obtain ⟨F, f1, f2, f3⟩ := h3 t ht; exact ⟨F, f1, f2, f3.keep K q⟩⟩
  | .inr (k, es), F =>
    intro A hA
    obtain ⟨h1, h2⟩ := F A hA
    exact ⟨fun z => (h1 z).keep K q, fun z => by obtain ⟨C, v, e1, e2, e3⟩ := h2 z; exact ⟨C, v, e1, e2, e3.keep K q⟩⟩
theorem den_eq {n : Nat} {v : Value} (H : ∀ i, i < n → ρ' i = ρ i) (hs : scV n v = true) : den ρ' σ v = den ρ σ v := by
  cases v <;> first | rfl | (simp only [scV, Nat.blt_eq] at hs; simp only [den, H _ hs])
theorem denS_eq {n : Nat} {v : Slot} (H : ∀ i, i < n → ρ' i = ρ i) (hs : scS n v = true) : denS ρ' σ v = denS ρ σ v := by
  cases v <;> first | rfl | (simp only [denS]; rw [den_eq H hs])
theorem dS_eq {n : Nat} {S : List Value} (H : ∀ i, i < n → ρ' i = ρ i) (hs : S.all (scV n) = true) : dS ρ' σ S = dS ρ σ S :=
  List.map_congr_left fun v hv => den_eq H (List.all_eq_true.mp hs v hv)
theorem dL_eq {n : Nat} {L : List Slot} (H : ∀ i, i < n → ρ' i = ρ i) (hs : L.all (scS n) = true) : dL ρ' σ L = dL ρ σ L := by
  unfold dL; exact congrArg _ (List.map_congr_left fun v hv => denS_eq H (List.all_eq_true.mp hs v hv))
theorem ObOK.agree {n : Nat} {o : Ob} (F : ObOK P Z σ ρ h a o) (H : ∀ i, i < n → ρ' i = ρ i) (hs : scO n o = true) : ObOK P Z σ ρ' h a o := by
  match o, F with
  | .inl (c, fl), F =>
    obtain ⟨C, h1, h2, h3⟩ := F
    exact ⟨C, h1, h2, fun t ht => by obtain ⟨F, f1, f2, f3⟩ := h3 t ht; exact ⟨F, f1, f2, by rw [den_eq H (List.all_eq_true.mp hs t ht)]; exact f3⟩⟩
  | .inr (k, es), F =>
    intro A hA
    obtain ⟨h1, h2⟩ := F A hA
    exact ⟨fun z => by rw [dS_eq H hs]; exact h1 z, fun z => by obtain ⟨C, v, e1, e2, e3⟩ := h2 z; refine ⟨C, v, e1, e2, ?_⟩; rw [den_eq H (by subst e2; simpa [scO] using hs)]; exact e3⟩
theorem scV_mono {n k : Nat} (hk : n ≤ k) {v : Value} (hs : scV n v = true) : scV k v = true := by
  cases v <;> first | rfl | (simp only [scV, Nat.blt_eq] at hs ⊢; omega)
theorem scO_mono {n k : Nat} (hk : n ≤ k) {o : Ob} (hs : scO n o = true) : scO k o = true := by
  match o with
  | .inl (c, fl) => exact List.all_eq_true.mpr fun t ht => scV_mono hk (List.all_eq_true.mp hs t ht)
  | .inr (c, fl) => exact List.all_eq_true.mpr fun t ht => scV_mono hk (List.all_eq_true.mp hs t ht)
theorem upd_lt {n i : Nat} (hi : i < n) : upd ρ n a i = ρ i := if_neg (Nat.ne_of_lt hi)
theorem Rel.new (H : Rel P Z ρ0 σ n0 ρ D h) (E : Ext h h') {o : Ob} (lt : h.size < h'.size) (ho : ObOK P Z σ (upd ρ D.length h.size) h' h.size o) (hs : scO (D.length + 1) o = true) : Rel P Z ρ0 σ n0 (upd ρ D.length h.size) (D ++ [o]) h' := by
  obtain ⟨H1, H2, H3, H4, ⟨H5, H6⟩, H7⟩ := H
  have el : (D ++ [o]).length = D.length + 1 := by simp
  have K : Keep h h' [] := (Keep.refl h []).ext E
  refine ⟨fun i o' hi => ?_, fun i hi => ?_, fun i hi hl => ?_, fun i j hi hj li lj ne => ?_, ⟨by omega, by omega⟩, fun t ht => ⟨(H7 t ht).1.ext E, (H7 t ht).2⟩⟩
  · rw [el]
    by_cases q : i < D.length
    · rw [List.getElem?_append_left q] at hi
      obtain ⟨h1, h2⟩ := H1 i o' hi
      rw [upd_lt q]
      exact ⟨(h1.agree (fun j hj => upd_lt hj) h2).keep K nin0, scO_mono (by omega) h2⟩
    · have : i = D.length := by
        have := (List.getElem?_eq_some_iff.mp hi).1; omega
      subst this
      rw [List.getElem?_append_right (Nat.le_refl _), Nat.sub_self] at hi
      cases hi
      have : upd ρ D.length h.size D.length = h.size := if_pos rfl
      rw [this]
      exact ⟨ho, hs⟩
  · rw [upd_lt (by omega)]; exact H2 i hi
  · by_cases q : i < D.length
    · rw [upd_lt q]; obtain ⟨u, v⟩ := H3 i hi q; exact ⟨u, by omega⟩
    · have : i = D.length := by omega
      subst this
      have : upd ρ D.length h.size D.length = h.size := if_pos rfl
      rw [this]; exact ⟨H5, lt⟩
  · rw [el] at li lj
    by_cases q : i < D.length
    · rw [upd_lt q]
      by_cases r : j < D.length
      · rw [upd_lt r]; exact H4 i j hi hj q r ne
      · have : j = D.length := by omega
        subst this
        have : upd ρ D.length h.size D.length = h.size := if_pos rfl
        rw [this]; have := (H3 i hi q).2; omega
    · have : i = D.length := by omega
      subst this
      have u : upd ρ D.length h.size D.length = h.size := if_pos rfl
      rw [u, upd_lt (by omega)]
      have := (H3 j hj (by omega)).2; omega
theorem Rel.put (H : Rel P Z ρ0 σ n0 ρ D h) {i : Nat} (K : Keep h h' [ρ i]) {o : Ob} (hi : P.nb ≤ i) (hl : i < D.length) (ho : ObOK P Z σ ρ h' (ρ i) o) (hs : scO D.length o = true) : Rel P Z ρ0 σ n0 ρ (D.set i o) h' := by
  obtain ⟨H1, H2, H3, H4, ⟨H5, H6⟩, H7⟩ := H
  have el : (D.set i o).length = D.length := List.length_set ..
  refine ⟨fun j o' hj => ?_, H2, fun j hj lj => ?_, fun j k hj hk lj lk ne => ?_, ⟨Nat.le_trans H5 K.1, by rw [el]; exact H6⟩, fun t ht => ⟨(H7 t ht).1.keep K fun x hx => ?_, (H7 t ht).2⟩⟩
  · rw [el]
    by_cases q : i = j
    · subst q
      rw [List.getElem?_set_self hl] at hj
      cases hj; exact ⟨ho, hs⟩
    · rw [List.getElem?_set_ne q] at hj
      obtain ⟨h1, h2⟩ := H1 j o' hj
      have lj := (List.getElem?_eq_some_iff.mp hj).1
      refine ⟨h1.keep K fun u => ?_, h2⟩
      have u := List.mem_singleton.mp u
      by_cases r : P.nb ≤ j
      · exact H4 j i r hi lj hl (Ne.symm q) u
      · have h3 := H2 j (by omega); have h4 := (H3 i hi hl).1
        rw [h3.1] at u; rw [← u] at h4; omega
  · rw [el] at lj; obtain ⟨u, v⟩ := H3 j hj lj; exact ⟨u, Nat.lt_of_lt_of_le v K.1⟩
  · rw [el] at lj lk; exact H4 j k hj hk lj lk ne
  · cases List.mem_singleton.mp hx; exact (H3 i hi hl).1
theorem Rel.apart (H : Rel P Z ρ0 σ n0 ρ D h) (hdn : ∀ t ∈ P.dn, t.1 < P.nb ∧ t.2 < P.nb ∧ ρ0 t.1 ≠ ρ0 t.2) : Apart P ρ D.length := by
  obtain ⟨H1, H2, H3, H4, -⟩ := H
  intro i j hi hj ne q
  by_cases u : P.nb ≤ i
  · by_cases v : P.nb ≤ j
    · exact H4 i j u v hi hj ne
    · have h1 := (H3 i u hi).1; have h2 := H2 j (by omega)
      rw [h2.1]; intro z; rw [z] at h1; omega
  · have h2 := H2 i (by omega)
    by_cases v : P.nb ≤ j
    · have h1 := (H3 j v hj).1
      rw [h2.1]; intro z; rw [← z] at h1; omega
    · rcases q with q | q | q
      · exact absurd q u
      · exact absurd q v
      · obtain ⟨-, -, w⟩ := hdn _ q
        rw [h2.1, (H2 j (by omega)).1]; exact w
/-! ### the heap's instructions -/
end exd
def lkp (f : Nat) : List (Nat × Value) → Option Value
  | [] => none
  | t :: r => if Nat.beq t.1 f then some t.2 else lkp f r
def stf (f : Nat) (v : Value) (fl : List (Nat × Value)) : List (Nat × Value) := fl.map fun t => if Nat.beq t.1 f then (f, v) else t
def tyOK : FieldType → Value → Bool
  | .int, .retAddr _ => true
  | .object _, .ref _ => true
  | .array _, .ref _ => true
  | ty, v => scV 0 v && (decide (narrow ty v = v) && fits ty v)
def dfl (P : Pg) (fl : List Nat) : List (Nat × Value) := fl.map fun f => (f, match P.fs[f]? with | some F => defaultValue F.2.2.2 | none => .null)
def siz (n : Int32) : Option Nat := if decide (n = Int32.ofNat n.toNatClampNeg) && Nat.blt n.toNatClampNeg 1000 then some n.toNatClampNeg else none
def scLS (n : Nat) (L : List Slot) (S : List Value) : Bool := L.all (scS n) && S.all (scV n)
def cats (S : List Value) : Nat := (S.map fun v => v.category).sum
def hGetf (nt : List Value) (len : Nat) : Cfg → Option Cfg
  | (pc, L, .ref a :: r, D, k, s) =>
    match nt with
    | [.ref f] => if Nat.beq len 3 then (match D[a]? with | some (.inl (_, fl)) => (match lkp f fl with | some v => some (pc + 3, L, v :: r, D, k, s) | none => none) | _ => none) else none
    | _ => none
  | _ => none
def hPutf (P : Pg) (nt : List Value) (len : Nat) : Cfg → Option Cfg
  | (pc, L, v :: .ref a :: r, D, k, s) =>
    match nt with
    | .ref f :: cl => if Nat.beq len 3 && (Nat.ble P.nb a && scV D.length v) then (match D[a]?, P.fs[f]? with
      | some (.inl (c, fl)), some F => if cl.any (fun t => decide (t = .ref c)) && ((lkp f fl).isSome && tyOK F.2.2.2 v) then some (pc + 3, L, r, D.set a (.inl (c, stf f v fl)), k, s) else none
      | _, _ => none) else none
    | _ => none
  | _ => none
def hGets (P : Pg) (nt : List Value) (len : Nat) : Cfg → Option Cfg
  | (pc, L, S, D, k, s) =>
    match nt with
    | [.ref i] => if Nat.beq len 3 then (match P.ss[i]? with | some t => some (pc + 3, L, t.2.2.2 :: S, D, k, s) | none => none) else none
    | _ => none
def hLdc (nt : List Value) (len : Nat) : Cfg → Option Cfg
  | (pc, L, S, D, k, s) =>
    match nt with
    | [v] => some (pc + len, L, v :: S, D, k, s)
    | _ => none
def hNew (P : Pg) (nt : List Value) (len : Nat) : Cfg → Option Cfg
  | (pc, L, S, D, k, s) =>
    match nt with
    | [.ref c] => if Nat.beq len 3 && scLS D.length L S then (match P.cs[c]? with | some C => if Nat.blt C.2.1 1000 then some (pc + 3, L, .ref D.length :: S, D ++ [.inl (c, dfl P C.2.2)], k + 1, s + C.2.1) else none | none => none) else none
    | _ => none
def hNewa (nt : List Value) (len : Nat) : Cfg → Option Cfg
  | (pc, L, .int n :: r, D, k, s) =>
    match nt with
    | [.ref i] => if Nat.beq len 2 && scLS D.length L r then (match siz n with | some N => some (pc + 2, L, .ref D.length :: r, D ++ [.inr (i, List.replicate N (.int 0))], k + 1, s + N) | none => none) else none
    | _ => none
  | _ => none
def hANewa (nt : List Value) (len : Nat) : Cfg → Option Cfg
  | (pc, L, .int n :: r, D, k, s) =>
    match nt with
    | [.ref i] => if Nat.beq len 3 && scLS D.length L r then (match siz n with | some N => some (pc + 3, L, .ref D.length :: r, D ++ [.inr (i, List.replicate N .null)], k + 1, s + N) | none => none) else none
    | _ => none
  | _ => none
def hLen (P : Pg) (len : Nat) : Cfg → Option Cfg
  | (pc, L, .ref a :: r, D, k, s) => if Nat.beq len 1 then (match D[a]? with | some (.inr (i, es)) => (match P.ay[i]? with | some A => if Nat.beq A.2.2.1 0 then some (pc + 1, L, .int (Int32.ofNat es.length) :: r, D, k, s) else none | none => none) | _ => none) else none
  | _ => none
/-- loads: kd 0: int[], 1: boolean[], 2: references -/
def ldT : Nat → FieldType → Bool
  | 0, .int => true
  | 1, .boolean => true
  | 2, .object _ => true
  | _, _ => false
def hLd (P : Pg) (kd : Nat) (len : Nat) : Cfg → Option Cfg
  | (pc, L, .int j :: .ref a :: r, D, k, s) => if Nat.beq len 1 then (match D[a]?, siz j with
    | some (.inr (i, es)), some N => (match P.ay[i]? with
      | some A => if ldT kd A.1 then (if Nat.beq A.2.2.1 0 then (match es[N]? with | some v => some (pc + 1, L, v :: r, D, k, s) | none => none) else (if Nat.beq kd 2 && Nat.beq A.2.2.2 N then (match es with | [v] => some (pc + 1, L, v :: r, D, k, s) | _ => none) else none)) else none
      | none => none)
    | _, _ => none) else none
  | _ => none
/-- may v lie in an array of references of that kind? -/
def stR (P : Pg) (D : List Ob) (i : Nat) (v : Value) : Bool :=
  match v with
  | .null => true
  | .ref b => (match D[b]? with | some (.inl (c, _)) => P.kt.any (fun t => decide (t.1 = .ref c) && Nat.beq t.2 i) | some (.inr (k, _)) => P.kt.any (fun t => decide (t.1 = .retAddr k) && Nat.beq t.2 i) | none => false)
  | _ => false
/-- may v lie in an array of that kind? -/
def stT (P : Pg) (D : List Ob) (kd i : Nat) (v : Value) : Bool :=
  match kd with
  | 0 => kOK 0 v
  | 1 => decide (v = .int 0) || decide (v = .int 1)
  | _ => stR P D i v
def hSt (P : Pg) (kd : Nat) (len : Nat) : Cfg → Option Cfg
  | (pc, L, v :: .int j :: .ref a :: r, D, k, s) => if Nat.beq len 1 && (Nat.ble P.nb a && scV D.length v) then (match D[a]?, siz j with
    | some (.inr (i, es)), some N => (match P.ay[i]? with
      | some A => if ldT kd A.1 && (Nat.beq A.2.2.1 0 && (Nat.blt N es.length && stT P D kd i v)) then some (pc + 1, L, r, D.set a (.inr (i, es.set N v)), k, s) else none
      | none => none)
    | _, _ => none) else none
  | _ => none
def hCast (nt : List Value) (len : Nat) : Cfg → Option Cfg
  | (pc, L, .null :: r, D, k, s) => if Nat.beq len 3 then some (pc + 3, L, .null :: r, D, k, s) else none
  | (pc, L, .ref a :: r, D, k, s) => if Nat.beq len 3 then (match D[a]? with
    | some (.inl (c, _)) => if nt.any (fun t => decide (t = .ref c)) then some (pc + 3, L, .ref a :: r, D, k, s) else none
    | some (.inr (i, _)) => if nt.any (fun t => decide (t = .retAddr i)) then some (pc + 3, L, .ref a :: r, D, k, s) else none
    | none => none) else none
  | _ => none
def hCopy (P : Pg) (fr lo len : Nat) : Cfg → Option Cfg
  | (pc, L, .int nn :: .int dp :: .ref b :: .int sp :: .ref a :: r, D, k, s) => if Nat.beq len 3 && (Nat.ble P.nb b && (Nat.ble 1 fr && Nat.ble (cats r + 18) lo)) then (match D[a]?, D[b]? with
    | some (.inr (i, xs)), some (.inr (j, ys)) => (match siz nn, siz dp, siz sp with
      | some N, some J, some I => (match P.ay[i]? with
        | some A => if Nat.beq i j && ((ldT 0 A.1 || ldT 2 A.1) && (Nat.beq A.2.2.1 0 && (Nat.ble (I + N) xs.length && Nat.ble (J + N) ys.length))) then some (pc + 3, L, r, D.set b (.inr (j, ys.take J ++ (xs.drop I).take N ++ ys.drop (J + N))), k, s) else none
        | none => none)
      | _, _, _ => none)
    | _, _ => none) else none
  | _ => none
def hInit (fr lo len : Nat) : Cfg → Option Cfg
  | (pc, L, .ref _ :: r, D, k, s) => if Nat.beq len 3 && (Nat.ble 1 fr && Nat.ble (cats r + 12) lo) then some (pc + 3, L, r, D, k, s) else none
  | _ => none
def gcp : Value → List Value → Option Nat
  | k, k' :: .ref i :: r => if decide (k = k') then some i else gcp k r
  | _, _ => none
def hGc (fr lo len : Nat) (nt : List Value) : Cfg → Option Cfg
  | (pc, L, .ref a :: r, D, k, s) => if Nat.ble 1 fr && Nat.ble (cats r + 14) lo then (match (match D[a]? with | some (.inl (c, _)) => gcp (.ref c) nt | some (.inr (i, _)) => gcp (.retAddr i) nt | none => none) with
    | some i => some (pc + len, L, .ref i :: r, D, k, s)
    | none => none) else none
  | _ => none
def hClone (P : Pg) (fr lo len i : Nat) : Cfg → Option Cfg
  | (pc, L, .ref a :: r, D, k, s) => if Nat.beq len 3 && (scLS D.length L r && (Nat.ble 1 fr && Nat.ble (cats r + 14) lo)) then (match D[a]?, P.ay[i]? with
    | some (.inr (j, es)), some A => if Nat.beq i j && (ldT 0 A.1 || ldT 1 A.1) then some (pc + 3, L, .ref D.length :: r, D ++ [.inr (i, es)], k + 1, s + es.length) else none
    | _, _ => none) else none
  | _ => none
def hst (P : Pg) (fr lo : Nat) (ins : Instr) (len : Nat) (nt : List Value) (g : Cfg) : Option Cfg :=
  match ins with
  | .getfield _ => hGetf nt len g
  | .putfield _ => hPutf P nt len g
  | .getstatic _ => hGets P nt len g
  | .ldc _ => hLdc nt len g
  | .new _ => hNew P nt len g
  | .newarray _ => hNewa nt len g
  | .anewarray _ => hANewa nt len g
  | .arraylength => hLen P len g
  | .iaload => hLd P 0 len g
  | .baload => hLd P 1 len g
  | .aaload => hLd P 2 len g
  | .iastore => hSt P 0 len g
  | .bastore => hSt P 1 len g
  | .aastore => hSt P 2 len g
  | .checkcast _ => hCast nt len g
  | .invokestatic _ => (match nt with | .long _ :: _ => hCopy P fr lo len g | _ => none)
  | .invokespecial _ => (match nt with | .long _ :: _ => hInit fr lo len g | _ => none)
  | .invokevirtual _ => (match nt with | .long _ :: t => hGc fr lo len t g | [.float _, .ref i] => hClone P fr lo len i g | _ => none)
  | .invokeinterface _ _ => (match nt with | .long _ :: t => hGc fr lo len t g | _ => none)
  | _ => none
/-! ### calls, returns, the run -/
def pko (D : List Ob) (as : List Value) : Value → Bool
  | .null => true
  | .int _ => (match as with | .ref _ :: _ => true | _ => false)
  | .ref c => (match as with | .ref i :: _ => (match D[i]? with | some (.inl (c', _)) => Nat.beq c c' | _ => false) | _ => false)
  | _ => false
def pick (D : List Ob) (as : List Value) : List Value → Option (Value × Nat)
  | k :: .ref mid :: r => if pko D as k then some (k, mid) else pick D as r
  | _ => none
def isInv : Instr → Bool
  | .invokestatic _ => true
  | .invokespecial _ => true
  | .invokevirtual _ => true
  | .invokeinterface _ _ => true
  | _ => false
def args0 (as : List Value) : List Slot := as.flatMap fun v => if v.category = 2 then [.val v, .second] else [.val v]
def loc0 (as : List Value) (ml : Nat) : List Slot := args0 as ++ List.replicate (ml - (args0 as).length) .unset
/-- none: no return here; else what it returns -/
def retv (ret : Option FieldType) (ins : Instr) (len : Nat) (S : List Value) : Option (Option Value) :=
  match ins, S with
  | .return_, [] => if Nat.beq len 1 && decide (ret = none) then some none else none
  | .ireturn, [v] => if Nat.beq len 1 then (match ret with
      | some .int => if kOK 0 v then some (some v) else none
      | some .boolean => if tyOK .boolean v then some (some v) else none
      | some .char => if tyOK .char v then some (some v) else none
      | some .byte => if tyOK .byte v then some (some v) else none
      | _ => none) else none
  | .areturn, [v] => if Nat.beq len 1 && kOK 1 v then (match ret with | some t => if t.isReference then some (some v) else none | none => none) else none
  | _, _ => none
abbrev Rn := Nat → Nat → Nat → Cfg → Option Res
def stepf (P : Pg) (q : Orc) (ih : Rn) : Rn := fun mid fr lo g =>
  match P.ms[mid]? with
  | none => none
  | some M =>
    match M.2.2.2.2.find? (fun t => Nat.beq t.1 g.1) with
    | none => none
    | some en =>
      match retv M.2.2.2.1 en.2.1 en.2.2.1 g.2.2.1 with
      | some v => some (v, g.2.2.2)
      | none =>
        match isInv en.2.1, en.2.2.2 with
        | true, .retAddr n :: al =>
          (match pick g.2.2.2.1 ((g.2.2.1.take n).reverse) al with
          | none => none
          | some (_, mid') =>
            match P.ms[mid']? with
            | none => none
            | some M' =>
              if Nat.ble n g.2.2.1.length && (Nat.blt 0 mid' && (Nat.ble 1 fr && (Nat.ble (cats (g.2.2.1.drop n) + (M'.2.2.1 + 11)) lo && (scLS g.2.2.2.1.length g.2.1 g.2.2.1 && Nat.beq (loc0 ((g.2.2.1.take n).reverse) M'.2.2.1).length M'.2.2.1)))) then
                (match ih mid' (fr - 1) (lo - (cats (g.2.2.1.drop n) + (M'.2.2.1 + 11))) (0, loc0 ((g.2.2.1.take n).reverse) M'.2.2.1, [], g.2.2.2.1, 0, 0) with
                | none => none
                | some (v, D', k', s') => ih mid fr lo (g.1 + en.2.2.1, g.2.1, v.toList ++ g.2.2.1.drop n, D', g.2.2.2.2.1 + k', g.2.2.2.2.2 + s'))
              else none)
        | _, _ =>
          match pst P q g.1 en.2.1 en.2.2.1 g.2.2.2.1.length g.2.1 g.2.2.1 with
          | some (pc', L', S') => ih mid fr lo (pc', L', S', g.2.2.2)
          | none =>
            match hst P fr lo en.2.1 en.2.2.1 en.2.2.2 g with
            | some g' => ih mid fr lo g'
            | none => none
def run (P : Pg) (q : Orc) : Nat → Rn
  | 0 => fun _ _ _ _ => none
  | n + 1 => stepf P q (run P q n)
/-! ### what the sites must give -/
def FLk (Z : State) (a0 : Array Value) (own : String) (i : Nat) (O n d : String) : Prop := ∃ R0 host, ((Cond.fieldLink own i R0 n d).before a0 Z = true ∨ (Cond.fieldLinkNest own i R0 n d host).before a0 Z = true) ∧ Via Z R0 O n d
def PushOK (Z : State) (own : String) (ins : Instr) (len : Nat) (v : Value) : Prop :=
  ∀ {p : Program} {l : Launch} {e : Env} {R : Room} {s : State} {m : MethodId} {args : Array Value} {below : List Frame} {meth : Method} {c : Code} {T : State} {locs : List Loc} {cells slots : Nat} {g : JFrame}, Stand p l e R s m args below meth c T locs cells slots → p.tables.exec = Jvm.exec → Z.Warmed39 s.vm → s.vm.findClass own = some m.cls → g.method = m → decode c.code g.pc = .ok (ins, len) →
    ∃ T', Stand p l e R s m args below meth c T' locs cells slots ∧ T'.heap = T.heap ∧ ∀ target, Steps p.tables e below (T'.setTop { g with pc := g.pc + len, stack := v :: g.stack }) target → Steps p.tables e below (T.setTop g) target
def GcOK (Z : State) (own : String) (ins : Instr) (len : Nat) (C : String) (b : Addr) : Prop :=
  ∀ {p : Program} {l : Launch} {e : Env} {R : Room} {s : State} {m : MethodId} {args : Array Value} {below : List Frame} {meth : Method} {c : Code} {T : State} {locs : List Loc} {cells slots : Nat} {g : JFrame} {a : Addr} {rest : List Value}, Stand p l e R s m args below meth c T locs cells slots → p.tables.exec = Jvm.exec → Z.Warmed39 s.vm → s.vm.findClass own = some m.cls → Exa Z T.heap a C → g.method = m → g.locals.size = c.maxLocals → g.stack = .ref a :: rest → decode c.code g.pc = .ok (ins, len) →
    1 ≤ R.frames → 2 * g.monitorRoom + (rest.map fun v => v.category).sum + (nativeFrameWords "java/lang/Object" "getClass" 1 + 11) ≤ R.locals →
    ∃ T', Stand p l e R s m args below meth c T' locs cells slots ∧ T'.heap = T.heap ∧ ∀ target, Steps p.tables e below (T'.setTop { g with pc := g.pc + len, stack := .ref b :: rest }) target → Steps p.tables e below (T.setTop g) target
/-- rq: none: a static method; some none: any receiver; some (some C): one of the class C -/
def CallOK (Z : State) (own : String) (ins : Instr) (len : Nat) (y : MethodName) (argc : Nat) (rq : Option (Option String)) : Prop :=
  ∀ {p : Program} {l : Launch} {e : Env} {R : Room} {s : State} {m : MethodId} {args : Array Value} {below : List Frame} {meth : Method} {c : Code} {T : State} {locs : List Loc} {cells slots : Nat} {W : Nat} {Pre : Pt → Array Value → Prop} {Post : Pt → Array Value → Option Value → Pt → Prop} {g : JFrame} {argsL rest : List Value},
    Stand p l e R s m args below meth c T locs cells slots → p.tables.exec = Jvm.exec → Z.Warmed39 s.vm → s.vm.findClass own = some m.cls → Back l R p e below s args y len W Pre Post → g.method = m → g.locals.size = c.maxLocals → argsL.length = argc → g.stack = argsL.reverse ++ rest → 2 * g.monitorRoom + (rest.map fun v => v.category).sum ≤ W →
    decode c.code g.pc = .ok (ins, len) → (∀ vm₁, s.WarmedH vm₁ → Pre ⟨T.setVm vm₁, locs, cells, slots⟩ argsL.toArray) → (∀ o, rq = some o → ∃ b tl, argsL = .ref b :: tl ∧ ∀ C, o = some C → Exa Z T.heap b C) →
    ∃ (v : Option Value) (vm₁ : Vm) (B : Pt), Stand p l e R s m args below meth c B.U B.locs B.cells B.slots ∧ Post ⟨T.setVm vm₁, locs, cells, slots⟩ argsL.toArray v B ∧ ∀ t, Steps p.tables e below (B.U.setTop { g with pc := g.pc + len, stack := v.toList ++ rest }) t → Steps p.tables e below (T.setTop g) t
def rqOf (P : Pg) : Value → Option (Option String)
  | .ref c => some (some (match P.cs[c]? with | some C => C.1 | none => ""))
  | .int _ => some none
  | _ => none
def alts : List Value → List (Value × Nat)
  | k :: .ref mid :: r => (k, mid) :: alts r
  | _ => []
def Good (P : Pg) (Z : State) (a0 : Array Value) (ρ0 : Nat → Nat) (y : MethodName) (en : Ent) : Prop :=
  match en.2.1, en.2.2.2 with
  | .getfield i, [.ref f] => ∃ F : Fie, P.fs[f]? = some F ∧ FLk Z a0 y.cls i F.1 F.2.1 F.2.2.1
  | .putfield i, .ref f :: cl => ∃ F : Fie, P.fs[f]? = some F ∧ FLk Z a0 y.cls i F.1 F.2.1 F.2.2.1 ∧ ∀ k ∈ cl, ∃ c, k = .ref c ∧ ∃ C : Cla, P.cs[c]? = some C ∧ ((Cond.lays C.1 F.1 F.2.1 F.2.2.1).before a0 Z = true ∨ ((Cond.laysFinal C.1 F.1 F.2.1 F.2.2.1).before a0 Z = true ∧ y.cls = F.1 ∧ y.name = "<init>")) ∧ C.2.1 ≠ 1000
  | .getstatic i, [.ref k] => ∃ t : Stc, P.ss[k]? = some t ∧ FLk Z a0 y.cls i t.1 t.2.1 t.2.2.1
  | .ldc i, [v] => ∃ w, PushOK Z y.cls (.ldc i) en.2.2.1 w ∧ (∀ σ, den ρ0 σ v = w) ∧ scV P.nb v = true
  | .new i, [.ref c] => ∃ C : Cla, P.cs[c]? = some C ∧ (Cond.classLink y.cls i C.1).before a0 Z = true
  | .newarray t, [.ref k] => ∃ A : Ary, P.ay[k]? = some A ∧ A.1 = newarray.typeOf t ∧ A.2.2.1 = 0 ∧ defaultValue (newarray.typeOf t) = .int 0 ∧ (∀ C, A.1 ≠ .object C) ∧ "[" ++ (newarray.typeOf t).toString = A.2.1 ∧ (Cond.arrayClass (newarray.typeOf t)).before a0 Z = true
  | .anewarray i, [.ref k] => ∃ (A : Ary) (C : String), P.ay[k]? = some A ∧ A.1 = .object C ∧ A.2.2.1 = 0 ∧ "[" ++ (FieldType.object C).toString = A.2.1 ∧ (Cond.classLink y.cls i C).before a0 Z = true ∧ (Cond.arrayOver (.object C)).before a0 Z = true
  | .checkcast i, k0 :: cl => ∃ K, (Cond.classLink y.cls i K).before a0 Z = true ∧ ∀ k ∈ k0 :: cl, (∃ c, k = .ref c ∧ ∃ C : Cla, P.cs[c]? = some C ∧ (C.1 = K ∨ (Cond.castable C.1 K).before a0 Z = true)) ∨ (∃ c, k = .retAddr c ∧ ∃ A : Ary, P.ay[c]? = some A ∧ A.2.2.1 = 0 ∧ (A.2.1 = K ∨ (Cond.castable A.2.1 K).before a0 Z = true))
  | .invokestatic i, .long _ :: _ => (Cond.methodLink y.cls i Jvm.Stand.acN).before a0 Z = true ∧ (Cond.native Jvm.Stand.acN).before a0 Z = true ∧ (Cond.static Jvm.Stand.acN).before a0 Z = true ∧ (Cond.initialized "java/lang/System").before a0 Z = true
  | .invokespecial i, .long _ :: _ => (Cond.methodLink y.cls i Lib.objectInit).before a0 Z = true ∧ (Cond.instanceMethod Lib.objectInit).before a0 Z = true ∧ (Cond.code Lib.objectInit ⟨#[0xb1]⟩ 1 none).before a0 Z = true
  | .invokevirtual i, [.float _, .ref k] => ∃ A : Ary, P.ay[k]? = some A ∧ A.2.2.1 = 0 ∧ (Cond.methodLink y.cls i ⟨A.2.1, "clone", "()Ljava/lang/Object;"⟩).before a0 Z = true ∧ (Cond.sameMethod A.2.1 "java/lang/Object" "clone" "()Ljava/lang/Object;").before a0 Z = true ∧ (Cond.native ⟨"java/lang/Object", "clone", "()Ljava/lang/Object;"⟩).before a0 Z = true ∧ (Cond.instanceMethod ⟨"java/lang/Object", "clone", "()Ljava/lang/Object;"⟩).before a0 Z = true ∧ (Cond.selects A.2.1 ⟨A.2.1, "clone", "()Ljava/lang/Object;"⟩ ⟨"java/lang/Object", "clone", "()Ljava/lang/Object;"⟩).before a0 Z = true ∧ (Cond.castable A.2.1 "java/lang/Cloneable").before a0 Z = true
  | ins, .long _ :: t => ∀ k i, (k, i) ∈ alts t → i < P.nb ∧ ((∃ c, k = .ref c ∧ ∃ C : Cla, P.cs[c]? = some C ∧ GcOK Z y.cls ins en.2.2.1 C.1 (ρ0 i)) ∨ (∃ c, k = .retAddr c ∧ ∃ A : Ary, P.ay[c]? = some A ∧ A.2.2.1 = 0 ∧ GcOK Z y.cls ins en.2.2.1 A.2.1 (ρ0 i)))
  | ins, .retAddr n :: al => ∀ k mid, (k, mid) ∈ alts al → ∃ M : Met, P.ms[mid]? = some M ∧ CallOK Z y.cls ins en.2.2.1 M.1 n (rqOf P k)
  | _, _ => True
def ClaOK (P : Pg) (Z : State) (a0 : Array Value) (C : Cla) : Prop := C.2.1 = 1000 ∨ ((Cond.instantiable C.1 C.2.1).before a0 Z = true ∧ (Cond.initialized C.1).before a0 Z = true ∧ ∀ f ∈ C.2.2, ∃ F : Fie, P.fs[f]? = some F ∧ Laid Z a0 C.1 F.1 F.2.1 F.2.2.1)
/-- what the tables themselves show -/
def chk (P : Pg) : Bool :=
  (P.fs.all fun F => decide (parseFieldDescriptor F.2.2.1 = some F.2.2.2)) &&
  ((P.cs.all fun C => C.2.2.all fun f => C.2.2.all fun g => Nat.beq f g || (match P.fs[f]?, P.fs[g]? with | some F, some G => decide (F.2.1 ≠ G.2.1) | _, _ => false)) &&
  ((P.dn.all fun t => Nat.blt t.1 P.nb && Nat.blt t.2 P.nb) &&
  (P.ms.all fun M => plainFor M.1 && M.2.2.2.2.all fun en => decide (decode M.2.1 en.1 = .ok (en.2.1, en.2.2.1)))))
def KtOK (P : Pg) (Z : State) (a0 : Array Value) (t : Value × Nat) : Prop := ∃ (A : Ary) (cn : String), P.ay[t.2]? = some A ∧ A.1 = .object cn ∧ ((∃ c, t.1 = .ref c ∧ ∃ C : Cla, P.cs[c]? = some C ∧ (C.1 = cn ∨ (Cond.castable C.1 cn).before a0 Z = true)) ∨ (∃ c, t.1 = .retAddr c ∧ ∃ B : Ary, P.ay[c]? = some B ∧ B.2.2.1 = 0 ∧ (B.2.1 = cn ∨ (Cond.castable B.2.1 cn).before a0 Z = true)))
def AllOK (P : Pg) (Z : State) (a0 : Array Value) (ρ0 : Nat → Nat) : Prop :=
  chk P = true ∧ (∀ (i : Nat) (C : Cla), P.cs[i]? = some C → ClaOK P Z a0 C) ∧ (∀ t ∈ P.kt, KtOK P Z a0 t) ∧
  (∀ t ∈ P.dn, ρ0 t.1 ≠ ρ0 t.2) ∧ ∀ (i : Nat) (M : Met), P.ms[i]? = some M → (i = 0 ∨ ((Cond.code M.1 M.2.1 M.2.2.1 M.2.2.2.1).before a0 Z = true ∧ (Cond.initialized M.1.cls).before a0 Z = true)) ∧ ∀ en ∈ M.2.2.2.2, Good P Z a0 ρ0 M.1 en
/-! ### the heap's steps are sound -/
def frm (m : MethodId) (ρ : Nat → Nat) (σ : Nat → Int32) (g : Cfg) : JFrame := mkF m g.1 (dL ρ σ g.2.1) (dS ρ σ g.2.2.1)
def Sim (P : Pg) (Z : State) (ρ0 : Nat → Nat) (σ : Nat → Int32) (n0 : Nat) (p : Program) (l : Launch) (e : Env) (R : Room) (s : State) (m : MethodId) (args : Array Value) (below : List Frame) (meth : Method) (c : Code) (ρ : Nat → Nat) (T : State) (locs : List Loc) (D : List Ob) (k n : Nat) : Prop :=
  Stand p l e R s m args below meth c T locs k n ∧ Rel P Z ρ0 σ n0 ρ D T.heap ∧ Fr n0 locs
def Stp (P : Pg) (Z : State) (ρ0 : Nat → Nat) (σ : Nat → Int32) (n0 : Nat) (p : Program) (l : Launch) (e : Env) (R : Room) (s : State) (m : MethodId) (args : Array Value) (below : List Frame) (meth : Method) (c : Code) (ρ : Nat → Nat) (T : State) (g g' : Cfg) : Prop :=
  ∃ ρ' T' locs', Sim P Z ρ0 σ n0 p l e R s m args below meth c ρ' T' locs' g'.2.2.2.1 g'.2.2.2.2.1 g'.2.2.2.2.2 ∧ (∀ i, i < g.2.2.2.1.length → ρ' i = ρ i) ∧ ∀ t, Steps p.tables e below (T'.setTop (frm m ρ' σ g')) t → Steps p.tables e below (T.setTop (frm m ρ σ g)) t
/-- what only grows -/
def Grow (g g' : Cfg) : Prop := g.2.2.2.2.1 ≤ g'.2.2.2.2.1 ∧ g.2.2.2.2.2 ≤ g'.2.2.2.2.2 ∧ g.2.2.2.1.length ≤ g'.2.2.2.1.length ∧ g'.2.1.length = g.2.1.length
section exe
variable {p : Program} {l : Launch} {e : Env} {R : Room} {s : State} {m : MethodId} {args : Array Value} {below : List Frame} {meth : Method} {c : Code} {T : State} {locs : List Loc} {Z : State} {a0 : Array Value} {h h' : Heap} {ρ0 ρ ρ' : Nat → Nat} {σ : Nat → Int32} {P : Pg} {q : Orc} {n0 : Nat} {y : MethodName} {g g' : Cfg} {len : Nat} {nt : List Value}
theorem lkp_mem {f : Nat} {v : Value} : ∀ {fl : List (Nat × Value)}, lkp f fl = some v → (f, v) ∈ fl
  | [], h => by cases h
  | t :: r, h => by
    unfold lkp at h
    split at h
    · rename_i u; cases Nat.eq_of_beq_eq_true u; cases h; exact List.mem_cons_self ..
    · exact List.mem_cons_of_mem _ (lkp_mem h)
theorem tyOK_ok {ty : FieldType} {v : Value} (h : tyOK ty v = true) : narrow ty (den ρ σ v) = den ρ σ v ∧ fits ty (den ρ σ v) = true := by
  unfold tyOK at h
  split at h
  · exact ⟨rfl, rfl⟩
  · exact ⟨rfl, rfl⟩
  · exact ⟨rfl, rfl⟩
  · simp only [Bool.and_eq_true, decide_eq_true_eq] at h
    obtain ⟨h1, h2, h3⟩ := h
    have : den ρ σ v = v := by
      cases v with
      | ref i => simp [scV, Nat.blt_eq] at h1
      | retAddr k => cases ty <;> simp [fits] at h3
      | _ => rfl
    rw [this]; exact ⟨h2, h3⟩
theorem siz_ok {n : Int32} {N : Nat} (h : siz n = some N) : n = Int32.ofNat N ∧ N < 1000 := by
  unfold siz at h
  split at h
  · rename_i u; simp only [Bool.and_eq_true, decide_eq_true_eq, Nat.blt_eq] at u; cases h; exact u
  · cases h
theorem den_old {n : Nat} {v : Value} (H : Rel P Z ρ0 σ n0 ρ g.2.2.2.1 h) (hs : scV P.nb v = true) : den ρ σ v = den ρ0 σ v := den_eq (fun i hi => (H.2.1 i hi).1) hs
theorem hGetf_ok {i : Nat} (W : Sim P Z ρ0 σ n0 p l e R s m args below meth c ρ T locs g.2.2.2.1 g.2.2.2.2.1 g.2.2.2.2.2) (hx : p.tables.exec = Jvm.exec) (hZ : Z.Warmed39 s.vm) (hown : s.vm.findClass y.cls = some m.cls) (hd : decode c.code g.1 = .ok (.getfield i, len)) (hG : Good P Z a0 ρ0 y (g.1, .getfield i, len, nt)) (h : hGetf nt len g = some g') :
    Grow g g' ∧ Stp P Z ρ0 σ n0 p l e R s m args below meth c ρ T g g' := by
  unfold hGetf at h
  split at h
  · rename_i pc L a r D k n
    split at h
    · rename_i f
      split at h
      · rename_i u; cases Nat.eq_of_beq_eq_true u
        split at h
        · rename_i cc fl hD
          split at h
          · rename_i v hv
            cases h
            obtain ⟨X, H, N⟩ := W
            obtain ⟨F, hF, R0, host, hw, via⟩ := hG
            obtain ⟨⟨C, -, -, h3⟩, -⟩ := H.1 _ _ hD
            obtain ⟨F', f1, -, f3⟩ := h3 _ (lkp_mem hv)
            cases hF.symm.trans f1
            obtain ⟨T', X', e', st⟩ := getF X hx hZ hown hw via rfl f3 (g := mkF m pc (dL ρ σ L) (dS ρ σ (.ref a :: r))) rfl rfl hd
            exact ⟨⟨Nat.le_refl _, Nat.le_refl _, Nat.le_refl _, rfl⟩, ρ, T', locs, ⟨X', by rw [e']; exact H, N⟩, fun _ _ => rfl, st⟩
          · cases h
        · cases h
      · cases h
    · cases h
  · cases h
theorem hGets_ok {i : Nat} (W : Sim P Z ρ0 σ n0 p l e R s m args below meth c ρ T locs g.2.2.2.1 g.2.2.2.2.1 g.2.2.2.2.2) (hx : p.tables.exec = Jvm.exec) (hZ : Z.Warmed39 s.vm) (hown : s.vm.findClass y.cls = some m.cls) (hd : decode c.code g.1 = .ok (.getstatic i, len)) (hG : Good P Z a0 ρ0 y (g.1, .getstatic i, len, nt)) (h : hGets P nt len g = some g') :
    Grow g g' ∧ Stp P Z ρ0 σ n0 p l e R s m args below meth c ρ T g g' := by
  unfold hGets at h
  obtain ⟨pc, L, S, D, k, n⟩ := g
  dsimp only at h
  split at h
  · rename_i f
    split at h
    · rename_i u; cases Nat.eq_of_beq_eq_true u
      split at h
      · rename_i t ht
        cases h
        obtain ⟨X, H, N⟩ := W
        obtain ⟨t', ht', R0, host, hw, via⟩ := hG
        cases ht.symm.trans ht'
        obtain ⟨F, sc⟩ := H.2.2.2.2.2 t (List.mem_of_getElem? ht)
        have ed : den ρ σ t.2.2.2 = den ρ0 σ t.2.2.2 := den_eq (fun i hi => (H.2.1 i hi).1) sc
        obtain ⟨T', X', e', st⟩ := getS2 X hx hZ hown hw via rfl F.sta (g := mkF m pc (dL ρ σ L) (dS ρ σ S)) rfl hd
        refine ⟨⟨Nat.le_refl _, Nat.le_refl _, Nat.le_refl _, rfl⟩, ρ, T', locs, ⟨X', by rw [e']; exact H, N⟩, fun _ _ => rfl, fun tt kk => st tt ?_⟩
        rw [← ed]; exact kk
      · cases h
    · cases h
  · cases h
theorem hLdc_ok {i : Nat} (W : Sim P Z ρ0 σ n0 p l e R s m args below meth c ρ T locs g.2.2.2.1 g.2.2.2.2.1 g.2.2.2.2.2) (hx : p.tables.exec = Jvm.exec) (hZ : Z.Warmed39 s.vm) (hown : s.vm.findClass y.cls = some m.cls) (hd : decode c.code g.1 = .ok (.ldc i, len)) (hG : Good P Z a0 ρ0 y (g.1, .ldc i, len, nt)) (h : hLdc nt len g = some g') :
    Grow g g' ∧ Stp P Z ρ0 σ n0 p l e R s m args below meth c ρ T g g' := by
  unfold hLdc at h
  obtain ⟨pc, L, S, D, k, n⟩ := g
  dsimp only at h
  split at h
  · rename_i v
    cases h
    obtain ⟨X, H, N⟩ := W
    obtain ⟨w, hp, hw, sc⟩ := hG
    have ed : den ρ σ v = w := (den_eq (fun i hi => (H.2.1 i hi).1) sc).trans (hw σ)
    obtain ⟨T', X', e', st⟩ := hp X hx hZ hown (g := mkF m pc (dL ρ σ L) (dS ρ σ S)) rfl hd
    refine ⟨⟨Nat.le_refl _, Nat.le_refl _, Nat.le_refl _, rfl⟩, ρ, T', locs, ⟨X', by rw [e']; exact H, N⟩, fun _ _ => rfl, fun tt kk => st tt ?_⟩
    rw [← ed]; exact kk
  · cases h
theorem chk_ty (hk : chk P = true) {f : Nat} {F : Fie} (h : P.fs[f]? = some F) : parseFieldDescriptor F.2.2.1 = some F.2.2.2 := by
  simp only [chk, Bool.and_eq_true] at hk
  exact of_decide_eq_true (List.all_eq_true.mp hk.1 F (List.mem_of_getElem? h))
theorem chk_ne (hk : chk P = true) {i f f' : Nat} {C : Cla} {F F' : Fie} (hC : P.cs[i]? = some C) (m1 : f ∈ C.2.2) (m2 : f' ∈ C.2.2) (hF : P.fs[f]? = some F) (hF' : P.fs[f']? = some F') (ne : f ≠ f') : F.2.1 ≠ F'.2.1 := by
  simp only [chk, Bool.and_eq_true] at hk
  have h1 := List.all_eq_true.mp (List.all_eq_true.mp (List.all_eq_true.mp hk.2.1 C (List.mem_of_getElem? hC)) f m1) f' m2
  simp only [hF, hF', Bool.or_eq_true, decide_eq_true_eq] at h1
  rcases h1 with h1 | h1
  · exact absurd (Nat.eq_of_beq_eq_true h1) ne
  · exact h1
theorem chk_dn (hk : chk P = true) {t : Nat × Nat} (h : t ∈ P.dn) : t.1 < P.nb ∧ t.2 < P.nb := by
  simp only [chk, Bool.and_eq_true] at hk
  have := List.all_eq_true.mp hk.2.2.1 t h
  simpa only [Bool.and_eq_true, Nat.blt_eq] using this
theorem chk_ms (hk : chk P = true) {i : Nat} {M : Met} (h : P.ms[i]? = some M) : plainFor M.1 = true ∧ ∀ en ∈ M.2.2.2.2, decode M.2.1 en.1 = .ok (en.2.1, en.2.2.1) := by
  simp only [chk, Bool.and_eq_true] at hk
  have := List.all_eq_true.mp hk.2.2.2 M (List.mem_of_getElem? h)
  simp only [Bool.and_eq_true] at this
  exact ⟨this.1, fun en hen => of_decide_eq_true (List.all_eq_true.mp this.2 en hen)⟩
theorem hPutf_ok {i : Nat} (A : AllOK P Z a0 ρ0) (W : Sim P Z ρ0 σ n0 p l e R s m args below meth c ρ T locs g.2.2.2.1 g.2.2.2.2.1 g.2.2.2.2.2) (hx : p.tables.exec = Jvm.exec) (hZ : Z.Warmed39 s.vm) (hown : s.vm.findClass y.cls = some m.cls) (hnm : meth.name = y.name) (hd : decode c.code g.1 = .ok (.putfield i, len)) (hG : Good P Z a0 ρ0 y (g.1, .putfield i, len, nt)) (h : hPutf P nt len g = some g') :
    Grow g g' ∧ Stp P Z ρ0 σ n0 p l e R s m args below meth c ρ T g g' := by
  unfold hPutf at h
  split at h
  · rename_i pc L v a r D k n
    split at h
    · rename_i f cl
      split at h
      · rename_i u
        simp only [Bool.and_eq_true, Nat.ble_eq] at u
        obtain ⟨u1, u2, u3⟩ := u
        cases Nat.eq_of_beq_eq_true u1
        split at h
        · rename_i cc fl F hD hF
          split at h
          · rename_i u4
            simp only [Bool.and_eq_true, List.any_eq_true, decide_eq_true_eq] at u4
            obtain ⟨⟨kk, hk1, hk2⟩, u5, u6⟩ := u4
            cases h
            obtain ⟨X, H, N⟩ := W
            obtain ⟨F0, hF0, ⟨R0, host, hw, via⟩, hcl⟩ := hG
            cases hF.symm.trans hF0
            obtain ⟨c0, e0, C, hC, hL, h1000⟩ := hcl kk hk1
            cases hk2.symm.trans e0
            obtain ⟨⟨C', hC', E, h3⟩, sc⟩ := H.1 _ _ hD
            cases hC.symm.trans hC'
            obtain ⟨old, ho⟩ := Option.isSome_iff_exists.mp u5
            obtain ⟨F', f1, mf, f3⟩ := h3 _ (lkp_mem ho)
            cases hF.symm.trans f1
            obtain ⟨ck, hCla, -, -, -⟩ := A
            rcases hCla _ _ hC with q0 | ⟨wi, wz, hlaid⟩
            · exact absurd q0 h1000
            have hty := chk_ty ck hF
            obtain ⟨t1, t2⟩ := tyOK_ok (ρ := ρ) (σ := σ) u6
            have lt : a < D.length := (List.getElem?_eq_some_iff.mp hD).1
            obtain ⟨T', h', X', e', Wq, st⟩ := putF X hx hZ hown hw via rfl f3 E (hL.imp id fun z => ⟨z.1, z.2.1, hnm.trans z.2.2⟩) wi hty t1 t2 (g := mkF m pc (dL ρ σ L) (dS ρ σ (v :: .ref a :: r))) rfl rfl hd
            have ge := (H.2.2.1 a u2 lt).1
            refine ⟨⟨Nat.le_refl _, Nat.le_refl _, by simp, rfl⟩, ρ, T', _, ⟨X', ?_, Fr.snoc X' N ge⟩, fun _ _ => rfl, st⟩
            rw [e']
            refine H.put (Keep.of_wr Wq) u2 lt ⟨C, hC, E.wr Wq, fun t ht => ?_⟩ ?_
            · obtain ⟨t0, ht0, et⟩ := List.mem_map.mp ht
              obtain ⟨G, g1, mg, g3⟩ := h3 t0 ht0
              split at et
              · subst et
                exact ⟨F, hF, mf, Fld.same Wq f3⟩
              · rename_i ne
                subst et
                refine ⟨G, g1, mg, g3.other Wq (Or.inr ?_)⟩
                obtain ⟨G', g1', l1⟩ := hlaid _ mg
                cases g1.symm.trans g1'
                obtain ⟨F1, f1', l2⟩ := hlaid _ mf
                cases hF.symm.trans f1'
                exact slot_ne l1 l2 (chk_ne ck hC mg mf g1 hF fun z => ne (by rw [z]; exact Nat.beq_refl f)) (chk_ty ck g1) hty
            · refine List.all_eq_true.mpr fun t ht => ?_
              obtain ⟨t0, ht0, et⟩ := List.mem_map.mp ht
              split at et
              · subst et; exact u3
              · subst et; exact List.all_eq_true.mp sc t0 ht0
          · cases h
        · cases h
      · cases h
    · cases h
  · cases h
theorem scLS_ok {n : Nat} {L : List Slot} {S : List Value} (h : scLS n L S = true) : L.all (scS n) = true ∧ S.all (scV n) = true := by simpa only [scLS, Bool.and_eq_true] using h
theorem upd_self {n : Nat} {a : Addr} : upd ρ n a n = a := if_pos rfl
theorem den_dfl (ty : FieldType) : den ρ σ (defaultValue ty) = defaultValue ty := by cases ty <;> rfl
theorem scV_dfl (n : Nat) (ty : FieldType) : scV n (defaultValue ty) = true := by cases ty <;> rfl
theorem hNew_ok {i : Nat} (A : AllOK P Z a0 ρ0) (W : Sim P Z ρ0 σ n0 p l e R s m args below meth c ρ T locs g.2.2.2.1 g.2.2.2.2.1 g.2.2.2.2.2) (hx : p.tables.exec = Jvm.exec) (hZ : Z.Warmed39 s.vm) (hown : s.vm.findClass y.cls = some m.cls) (hd : decode c.code g.1 = .ok (.new i, len)) (hG : Good P Z a0 ρ0 y (g.1, .new i, len, nt)) (h : hNew P nt len g = some g') (hc : g'.2.2.2.2.1 ≤ R.cells) (hs : g'.2.2.2.2.2 ≤ R.slots) :
    Grow g g' ∧ Stp P Z ρ0 σ n0 p l e R s m args below meth c ρ T g g' := by
  unfold hNew at h
  obtain ⟨pc, L, S, D, k, n⟩ := g
  dsimp only at h
  split at h
  · rename_i cc
    split at h
    · rename_i u
      simp only [Bool.and_eq_true] at u
      obtain ⟨u1, u2⟩ := u
      cases Nat.eq_of_beq_eq_true u1
      obtain ⟨s1, s2⟩ := scLS_ok u2
      split at h
      · rename_i C hC
        split at h
        · rename_i u3
          cases h
          obtain ⟨X, H, N⟩ := W
          obtain ⟨C', hC', hw⟩ := hG
          cases hC.symm.trans hC'
          obtain ⟨ck, hCla, -, -, -⟩ := A
          rcases hCla _ _ hC with q0 | ⟨wi, wz, hlaid⟩
          · rw [q0] at u3; cases u3
          obtain ⟨T', h', X', e', E, Ex, Fl, ⟨cell, hcell, -, -⟩, st⟩ := newO X hx hZ hown hw wi wz rfl (g := mkF m pc (dL ρ σ L) (dS ρ σ S)) rfl hd hc hs
          have lt : T.heap.size < h'.size := (Array.getElem?_eq_some_iff.mp hcell).1
          have ag : ∀ i, i < D.length → upd ρ D.length T.heap.size i = ρ i := fun i hi => upd_lt hi
          refine ⟨⟨Nat.le_succ _, Nat.le_add_right _ _, by simp, rfl⟩, upd ρ D.length T.heap.size, T', locs, ⟨X', ?_, N⟩, ag, fun t kk => st t ?_⟩
          · rw [e']
            refine H.new E lt ⟨C, hC, Ex, fun t ht => ?_⟩ ?_
            · obtain ⟨f, hf, et⟩ := List.mem_map.mp ht
              subst et
              obtain ⟨F, hF, hl⟩ := hlaid f hf
              refine ⟨F, hF, hf, ?_⟩
              simp only [hF]
              rw [den_dfl]
              exact Fl hl (chk_ty ck hF)
            · refine List.all_eq_true.mpr fun t ht => ?_
              obtain ⟨f, hf, et⟩ := List.mem_map.mp ht
              subst et
              dsimp only
              split
              · exact scV_dfl _ _
              · rfl
          · have e1 : dL (upd ρ D.length T.heap.size) σ L = dL ρ σ L := dL_eq ag s1
            have e2 : dS (upd ρ D.length T.heap.size) σ (.ref D.length :: S) = .ref T.heap.size :: dS ρ σ S := by
              show den _ σ (.ref D.length) :: dS _ σ S = _
              rw [dS_eq ag s2]; simp only [den, upd_self]
            simp only [frm, e1, e2] at kk
            exact kk
        · cases h
      · cases h
    · cases h
  · cases h
theorem dS_rep (N : Nat) (v : Value) (hv : den ρ σ v = v) : dS ρ σ (List.replicate N v) = List.replicate N v := by simp [dS, hv]
theorem sc_rep (n N : Nat) (v : Value) (hv : scV n v = true) : (List.replicate N v).all (scV n) = true := List.all_eq_true.mpr fun t ht => by rw [List.eq_of_mem_replicate ht]; exact hv
theorem hNewa_ok {at_ : ArrayType} (W : Sim P Z ρ0 σ n0 p l e R s m args below meth c ρ T locs g.2.2.2.1 g.2.2.2.2.1 g.2.2.2.2.2) (hx : p.tables.exec = Jvm.exec) (hZ : Z.Warmed39 s.vm) (hd : decode c.code g.1 = .ok (.newarray at_, len)) (hG : Good P Z a0 ρ0 y (g.1, .newarray at_, len, nt)) (h : hNewa nt len g = some g') (hc : g'.2.2.2.2.1 ≤ R.cells) (hs : g'.2.2.2.2.2 ≤ R.slots) :
    Grow g g' ∧ Stp P Z ρ0 σ n0 p l e R s m args below meth c ρ T g g' := by
  unfold hNewa at h
  split at h
  · rename_i pc L n r D k sl
    split at h
    · rename_i i
      split at h
      · rename_i u
        simp only [Bool.and_eq_true] at u
        obtain ⟨u1, u2⟩ := u
        cases Nat.eq_of_beq_eq_true u1
        obtain ⟨s1, s2⟩ := scLS_ok u2
        split at h
        · rename_i N hN
          cases h
          obtain ⟨X, H, Nf⟩ := W
          obtain ⟨A, hA, eA, z0, hdv, hno, had, hw⟩ := hG
          obtain ⟨en, hl⟩ := siz_ok hN
          obtain ⟨T', h', X', e', E, V, st⟩ := pa_new X hx hZ hw hdv had rfl (g := mkF m pc (dL ρ σ L) (dS ρ σ (.int n :: r))) rfl hd rfl en (Nat.le_refl N) hl hc hs
          have ag : ∀ i, i < D.length → upd ρ D.length T.heap.size i = ρ i := fun i hi => upd_lt hi
          refine ⟨⟨Nat.le_succ _, Nat.le_add_right _ _, by simp, rfl⟩, upd ρ D.length T.heap.size, T', locs, ⟨X', ?_, Nf⟩, ag, fun t kk => st t ?_⟩
          · rw [e']
            refine H.new E V.lt (fun A' hA' => ?_) (sc_rep _ _ _ rfl)
            cases hA.symm.trans hA'
            refine ⟨fun _ => Or.inr ⟨hno, List.replicate N 0, ?_, by rw [eA]; exact V⟩, fun z => absurd z0 z⟩
            rw [dS_rep _ _ rfl]; simp
          · have e1 : dL (upd ρ D.length T.heap.size) σ L = dL ρ σ L := dL_eq ag s1
            have e2 : dS (upd ρ D.length T.heap.size) σ (.ref D.length :: r) = .ref T.heap.size :: dS ρ σ r := by
              show den _ σ (.ref D.length) :: dS _ σ r = _
              rw [dS_eq ag s2]; simp only [den, upd_self]
            simp only [frm, e1, e2] at kk
            exact kk
        · cases h
      · cases h
    · cases h
  · cases h
theorem hANewa_ok {i0 : Nat} (W : Sim P Z ρ0 σ n0 p l e R s m args below meth c ρ T locs g.2.2.2.1 g.2.2.2.2.1 g.2.2.2.2.2) (hx : p.tables.exec = Jvm.exec) (hZ : Z.Warmed39 s.vm) (hown : s.vm.findClass y.cls = some m.cls) (hd : decode c.code g.1 = .ok (.anewarray i0, len)) (hG : Good P Z a0 ρ0 y (g.1, .anewarray i0, len, nt)) (h : hANewa nt len g = some g') (hc : g'.2.2.2.2.1 ≤ R.cells) (hs : g'.2.2.2.2.2 ≤ R.slots) :
    Grow g g' ∧ Stp P Z ρ0 σ n0 p l e R s m args below meth c ρ T g g' := by
  unfold hANewa at h
  split at h
  · rename_i pc L n r D k sl
    split at h
    · rename_i i
      split at h
      · rename_i u
        simp only [Bool.and_eq_true] at u
        obtain ⟨u1, u2⟩ := u
        cases Nat.eq_of_beq_eq_true u1
        obtain ⟨s1, s2⟩ := scLS_ok u2
        split at h
        · rename_i N hN
          cases h
          obtain ⟨X, H, Nf⟩ := W
          obtain ⟨A, C, hA, eA, z0, had, hw1, hw2⟩ := hG
          obtain ⟨en, hl⟩ := siz_ok hN
          obtain ⟨T', h', X', e', E, V, st⟩ := oa_new X hx hZ hown hw1 hw2 had rfl (g := mkF m pc (dL ρ σ L) (dS ρ σ (.int n :: r))) rfl hd rfl en hl hc hs
          have ag : ∀ i, i < D.length → upd ρ D.length T.heap.size i = ρ i := fun i hi => upd_lt hi
          refine ⟨⟨Nat.le_succ _, Nat.le_add_right _ _, by simp, rfl⟩, upd ρ D.length T.heap.size, T', locs, ⟨X', ?_, Nf⟩, ag, fun t kk => st t ?_⟩
          · rw [e']
            refine H.new E V.lt (fun A' hA' => ?_) (sc_rep _ _ _ rfl)
            cases hA.symm.trans hA'
            refine ⟨fun _ => Or.inl ⟨C, eA, ?_⟩, fun z => absurd z0 z⟩
            rw [dS_rep _ _ rfl]; exact V
          · have e1 : dL (upd ρ D.length T.heap.size) σ L = dL ρ σ L := dL_eq ag s1
            have e2 : dS (upd ρ D.length T.heap.size) σ (.ref D.length :: r) = .ref T.heap.size :: dS ρ σ r := by
              show den _ σ (.ref D.length) :: dS _ σ r = _
              rw [dS_eq ag s2]; simp only [den, upd_self]
            simp only [frm, e1, e2] at kk
            exact kk
        · cases h
      · cases h
    · cases h
  · cases h
theorem hLen_ok (W : Sim P Z ρ0 σ n0 p l e R s m args below meth c ρ T locs g.2.2.2.1 g.2.2.2.2.1 g.2.2.2.2.2) (hx : p.tables.exec = Jvm.exec) (hZ : Z.Warmed39 s.vm) (hd : decode c.code g.1 = .ok (.arraylength, len)) (h : hLen P len g = some g') :
    Grow g g' ∧ Stp P Z ρ0 σ n0 p l e R s m args below meth c ρ T g g' := by
  unfold hLen at h
  split at h
  · rename_i pc L a r D k n
    split at h
    · rename_i u; cases Nat.eq_of_beq_eq_true u
      split at h
      · rename_i i es hD
        split at h
        · rename_i A hA
          split at h
          · rename_i u
            cases h
            obtain ⟨X, H, N⟩ := W
            obtain ⟨hO, -⟩ := H.1 _ _ hD
            have V := (hO A hA).1 (Nat.eq_of_beq_eq_true u)
            refine ⟨⟨Nat.le_refl _, Nat.le_refl _, Nat.le_refl _, rfl⟩, ρ, T, locs, ⟨X, H, N⟩, fun _ _ => rfl, fun t kk => ?_⟩
            rcases V with ⟨C, -, V⟩ | ⟨-, us, eu, V⟩
            · refine oa_len X hx hZ rfl V (g := mkF m pc (dL ρ σ L) (dS ρ σ (.ref a :: r))) rfl rfl hd t ?_
              have : (dS ρ σ es).length = es.length := List.length_map ..
              rw [this]; exact kk
            · refine pa_len X hx hZ rfl V (g := mkF m pc (dL ρ σ L) (dS ρ σ (.ref a :: r))) rfl rfl hd t ?_
              have : us.length = es.length := by
                have := congrArg List.length eu
                simpa [dS] using this.symm
              rw [this]; exact kk
          · cases h
        · cases h
      · cases h
    · cases h
  · cases h
theorem getD_of {α : Type} {vs : List α} {i : Nat} {v d : α} (h : vs[i]? = some v) : vs.getD i d = v := by rw [List.getD_eq_getElem?_getD, h]; rfl
theorem ldI {us : List Int32} {es : List Value} {N : Nat} {v : Value} (eu : dS ρ σ es = us.map Value.int) (hv : es[N]? = some v) : ∃ x, us[N]? = some x ∧ den ρ σ v = .int x ∧ N < us.length := by
  have h1 : (dS ρ σ es)[N]? = some (den ρ σ v) := by simp [dS, hv]
  rw [eu, List.getElem?_map] at h1
  cases hu : us[N]? with
  | none => rw [hu] at h1; cases h1
  | some x => rw [hu] at h1; exact ⟨x, rfl, (Option.some.inj h1).symm, (List.getElem?_eq_some_iff.mp hu).1⟩
def ldi : Nat → Instr
  | 0 => .iaload
  | 1 => .baload
  | _ => .aaload
theorem hLd_ok {kd : Nat} (hkd : kd < 3) (W : Sim P Z ρ0 σ n0 p l e R s m args below meth c ρ T locs g.2.2.2.1 g.2.2.2.2.1 g.2.2.2.2.2) (hx : p.tables.exec = Jvm.exec) (hZ : Z.Warmed39 s.vm) (hd : decode c.code g.1 = .ok (ldi kd, len)) (h : hLd P kd len g = some g') :
    Grow g g' ∧ Stp P Z ρ0 σ n0 p l e R s m args below meth c ρ T g g' := by
  unfold hLd at h
  split at h
  · rename_i pc L j a r D k n
    split at h
    · rename_i u; cases Nat.eq_of_beq_eq_true u
      split at h
      · rename_i i es N hD hN
        obtain ⟨en, hl⟩ := siz_ok hN
        split at h
        · rename_i A hA
          split at h
          · rename_i uT
            obtain ⟨X, H, Nf⟩ := W
            obtain ⟨hO, -⟩ := H.1 _ _ hD
            split at h
            · rename_i uz
              split at h
              · rename_i v hv
                cases h
                have V := (hO A hA).1 (Nat.eq_of_beq_eq_true uz)
                refine ⟨⟨Nat.le_refl _, Nat.le_refl _, Nat.le_refl _, rfl⟩, ρ, T, locs, ⟨X, H, Nf⟩, fun _ _ => rfl, fun t kk => ?_⟩
                rcases V with ⟨C, eC, V⟩ | ⟨hno, us, eu, V⟩
                · rw [eC] at uT
                  match kd, hkd, uT, hd with
                  | 2, _, _, hd =>
                    have h1 : (dS ρ σ es)[N]? = some (den ρ σ v) := by simp [dS, hv]
                    exact oa_ld X hx hZ rfl V N en (List.getElem?_eq_some_iff.mp h1).1 (getD_of h1) (g := mkF m pc (dL ρ σ L) (dS ρ σ (.int j :: .ref a :: r))) rfl rfl hd t kk
                · obtain ⟨x, hx1, hx2, hx3⟩ := ldI eu hv
                  have kk' : Steps p.tables e below (T.setTop (mkF m (pc + 1) (dL ρ σ L) (.int x :: dS ρ σ r))) t := by rw [← hx2]; exact kk
                  match kd, hkd, uT, hd with
                  | 0, _, uT, hd =>
                    have eT : A.1 = .int := by cases hA1 : A.1 <;> rw [hA1] at uT <;> first | rfl | cases uT
                    rw [eT] at V
                    exact pa_ldI X hx hZ rfl V N en hx3 (getD_of hx1) (g := mkF m pc (dL ρ σ L) (dS ρ σ (.int j :: .ref a :: r))) rfl rfl hd t kk'
                  | 1, _, uT, hd =>
                    have eT : A.1 = .boolean := by cases hA1 : A.1 <;> rw [hA1] at uT <;> first | rfl | cases uT
                    rw [eT] at V
                    exact pa_ldZ X hx hZ rfl V N en hx3 (getD_of hx1) (g := mkF m pc (dL ρ σ L) (dS ρ σ (.int j :: .ref a :: r))) rfl rfl hd t kk'
                  | 2, _, uT, hd => exact absurd uT (by cases hA1 : A.1 <;> first | exact absurd hA1 (hno _) | (intro z; cases z))
              · cases h
            · rename_i uz
              split at h
              · rename_i uk
                simp only [Bool.and_eq_true] at uk
                cases Nat.eq_of_beq_eq_true uk.1
                split at h
                · rename_i v
                  cases h
                  obtain ⟨C, v', eC, ev, V⟩ := (hO A hA).2 (fun z => uz (by rw [z]; rfl))
                  cases ev
                  rw [Nat.eq_of_beq_eq_true uk.2] at V
                  exact ⟨⟨Nat.le_refl _, Nat.le_refl _, Nat.le_refl _, rfl⟩, ρ, T, locs, ⟨X, H, Nf⟩, fun _ _ => rfl, fun t kk => ea_ld X hx hZ rfl V (g := mkF m pc (dL ρ σ L) (dS ρ σ (.int j :: .ref a :: r))) rfl en rfl hd t kk⟩
                · cases h
              · cases h
          · cases h
        · cases h
      · cases h
    · cases h
  · cases h
def sti : Nat → Instr
  | 0 => .iastore
  | 1 => .bastore
  | _ => .aastore
theorem stT_vi {i : Nat} {C : String} {A : Ary} {v : Value} (hkt : ∀ t ∈ P.kt, KtOK P Z a0 t) {D : List Ob} (H : Rel P Z ρ0 σ n0 ρ D h) (hA : P.ay[i]? = some A) (eA : A.1 = .object C) (hs : stT P D 2 i v = true) : VI Z h C (den ρ σ v) := by
  replace hs : stR P D i v = true := hs
  unfold stR at hs
  split at hs
  · exact Or.inl rfl
  · rename_i b
    split at hs
    · rename_i cc fl hD
      obtain ⟨t, ht, u⟩ := List.any_eq_true.mp hs
      simp only [Bool.and_eq_true, decide_eq_true_eq] at u
      obtain ⟨A', cn, k2, k3, k4⟩ := hkt t ht
      rw [Nat.eq_of_beq_eq_true u.2] at k2
      cases hA.symm.trans k2
      cases eA.symm.trans k3
      obtain ⟨⟨C', c1, E, -⟩, -⟩ := H.1 _ _ hD
      refine Or.inr ⟨_, rfl, ?_⟩
      rcases k4 with ⟨c0, e0, Cc, k1, k4⟩ | ⟨c0, e0, -⟩
      · cases u.1.symm.trans e0
        cases k1.symm.trans c1
        rcases k4 with k4 | k4
        · rw [← k4]; exact Ins.self E
        · exact Ins.of_exa E k4
      · cases u.1.symm.trans e0
    · rename_i kk es hD
      obtain ⟨t, ht, u⟩ := List.any_eq_true.mp hs
      simp only [Bool.and_eq_true, decide_eq_true_eq] at u
      obtain ⟨A', cn, k2, k3, k4⟩ := hkt t ht
      rw [Nat.eq_of_beq_eq_true u.2] at k2
      cases hA.symm.trans k2
      cases eA.symm.trans k3
      obtain ⟨hO, -⟩ := H.1 _ _ hD
      refine Or.inr ⟨_, rfl, ?_⟩
      rcases k4 with ⟨c0, e0, -⟩ | ⟨c0, e0, B, k1, z0, k4⟩
      · cases u.1.symm.trans e0
      · cases u.1.symm.trans e0
        have E : Exa Z h (ρ b) B.2.1 := by
          rcases (hO B k1).1 z0 with ⟨C, -, V⟩ | ⟨-, us, -, V⟩
          · exact V.2.1
          · exact V.2.1
        rcases k4 with k4 | k4
        · rw [← k4]; exact Ins.self E
        · exact Ins.of_exa E k4
    · cases hs
  · cases hs
theorem hSt_ok {kd : Nat} (hkd : kd < 3) (A : AllOK P Z a0 ρ0) (W : Sim P Z ρ0 σ n0 p l e R s m args below meth c ρ T locs g.2.2.2.1 g.2.2.2.2.1 g.2.2.2.2.2) (hx : p.tables.exec = Jvm.exec) (hZ : Z.Warmed39 s.vm) (hd : decode c.code g.1 = .ok (sti kd, len)) (h : hSt P kd len g = some g') :
    Grow g g' ∧ Stp P Z ρ0 σ n0 p l e R s m args below meth c ρ T g g' := by
  unfold hSt at h
  split at h
  · rename_i pc L v j a r D k n
    split at h
    · rename_i u
      simp only [Bool.and_eq_true, Nat.ble_eq] at u
      obtain ⟨u1, u2, u3⟩ := u
      cases Nat.eq_of_beq_eq_true u1
      split at h
      · rename_i i es N hD hN
        obtain ⟨en, hl⟩ := siz_ok hN
        split at h
        · rename_i Ay hA
          split at h
          · rename_i uu
            simp only [Bool.and_eq_true, Nat.blt_eq] at uu
            obtain ⟨uT, uz, un, us⟩ := uu
            cases h
            obtain ⟨X, H, Nf⟩ := W
            obtain ⟨hO, sc⟩ := H.1 _ _ hD
            have V := (hO Ay hA).1 (Nat.eq_of_beq_eq_true uz)
            have z0 := Nat.eq_of_beq_eq_true uz
            have lt : a < D.length := (List.getElem?_eq_some_iff.mp hD).1
            have ge := (H.2.2.1 a u2 lt).1
            have hsc : scO D.length (.inr (i, es.set N v)) = true := List.all_eq_true.mpr fun t ht => by
              rcases List.mem_or_eq_of_mem_set ht with z | z
              · exact List.all_eq_true.mp sc t z
              · rw [z]; exact u3
            have eset : dS ρ σ (es.set N v) = (dS ρ σ es).set N (den ρ σ v) := by simp [dS, List.map_set]
            rcases V with ⟨C, eC, V⟩ | ⟨hno, xs, eu, V⟩
            · have uT' := uT; rw [eC] at uT'
              match kd, hkd, uT', hd, us with
              | 2, _, _, hd, us =>
                have lN : N < (dS ρ σ es).length := by simpa [dS] using un
                obtain ⟨T', h', X', e', Wq, V', st⟩ := oa_st X hx hZ rfl V N en lN (stT_vi A.2.2.1 H hA eC us) (g := mkF m pc (dL ρ σ L) (dS ρ σ (v :: .int j :: .ref a :: r))) rfl rfl hd
                refine ⟨⟨Nat.le_refl _, Nat.le_refl _, by simp, rfl⟩, ρ, T', _, ⟨X', ?_, Fr.snoc X' Nf ge⟩, fun _ _ => rfl, st⟩
                rw [e']
                refine H.put (Keep.of_wr Wq) u2 lt (fun A' hA' => ?_) hsc
                cases hA.symm.trans hA'
                exact ⟨fun _ => Or.inl ⟨C, eC, by rw [eset]; exact V'⟩, fun z => absurd z0 z⟩
            · have lN : N < xs.length := by have := congrArg List.length eu; simp [dS] at this; omega
              match kd, hkd, uT, hd, us with
              | 0, _, uT, hd, us =>
                have eT : Ay.1 = .int := by cases hA1 : Ay.1 <;> rw [hA1] at uT <;> first | rfl | cases uT
                have V0 := V; rw [eT] at V0
                obtain ⟨x, ex⟩ := kOK0 (ρ := ρ) (σ := σ) us
                obtain ⟨T', h', X', e', Wq, V', st⟩ := pa_stI X hx hZ rfl V0 N en lN (x := x) (g := mkF m pc (dL ρ σ L) (dS ρ σ (v :: .int j :: .ref a :: r))) rfl (congrArg (· :: _) ex) hd
                refine ⟨⟨Nat.le_refl _, Nat.le_refl _, by simp, rfl⟩, ρ, T', _, ⟨X', ?_, Fr.snoc X' Nf ge⟩, fun _ _ => rfl, st⟩
                rw [e']
                refine H.put (Keep.of_wr Wq) u2 lt (fun A' hA' => ?_) hsc
                cases hA.symm.trans hA'
                exact ⟨fun _ => Or.inr ⟨hno, xs.set N x, by rw [eset, eu, ex, List.map_set], by rw [eT]; exact V'⟩, fun z => absurd z0 z⟩
              | 1, _, uT, hd, us =>
                have eT : Ay.1 = .boolean := by cases hA1 : Ay.1 <;> rw [hA1] at uT <;> first | rfl | cases uT
                have V0 := V; rw [eT] at V0
                obtain ⟨x, ex, nx⟩ : ∃ x, v = .int x ∧ nar .boolean x = x := by
                  simp only [stT, Bool.or_eq_true, decide_eq_true_eq] at us
                  rcases us with z | z
                  · exact ⟨0, z, rfl⟩
                  · exact ⟨1, z, rfl⟩
                subst ex
                obtain ⟨T', h', X', e', Wq, V', st⟩ := pa_stZ X hx hZ rfl V0 N en lN (x := x) (y := x) nx (g := mkF m pc (dL ρ σ L) (dS ρ σ (.int x :: .int j :: .ref a :: r))) rfl rfl hd
                refine ⟨⟨Nat.le_refl _, Nat.le_refl _, by simp, rfl⟩, ρ, T', _, ⟨X', ?_, Fr.snoc X' Nf ge⟩, fun _ _ => rfl, st⟩
                rw [e']
                refine H.put (Keep.of_wr Wq) u2 lt (fun A' hA' => ?_) hsc
                cases hA.symm.trans hA'
                exact ⟨fun _ => Or.inr ⟨hno, xs.set N x, by rw [eset, eu, List.map_set]; rfl, by rw [eT]; exact V'⟩, fun z => absurd z0 z⟩
              | 2, _, uT, hd, us => exact absurd uT (by cases hA1 : Ay.1 <;> first | exact absurd hA1 (hno _) | (intro z; cases z))
          · cases h
        · cases h
      · cases h
    · cases h
  · cases h
theorem hCast_ok {i0 : Nat} (W : Sim P Z ρ0 σ n0 p l e R s m args below meth c ρ T locs g.2.2.2.1 g.2.2.2.2.1 g.2.2.2.2.2) (hx : p.tables.exec = Jvm.exec) (hZ : Z.Warmed39 s.vm) (hown : s.vm.findClass y.cls = some m.cls) (hd : decode c.code g.1 = .ok (.checkcast i0, len)) (hG : Good P Z a0 ρ0 y (g.1, .checkcast i0, len, nt)) (h : hCast nt len g = some g') :
    Grow g g' ∧ Stp P Z ρ0 σ n0 p l e R s m args below meth c ρ T g g' := by
  unfold hCast at h
  split at h
  · rename_i pc L r D k n
    split at h
    · rename_i u; cases Nat.eq_of_beq_eq_true u
      cases h
      obtain ⟨X, H, N⟩ := W
      exact ⟨⟨Nat.le_refl _, Nat.le_refl _, Nat.le_refl _, rfl⟩, ρ, T, locs, ⟨X, H, N⟩, fun _ _ => rfl, X.checkcastNull hx (g := mkF m pc (dL ρ σ L) (dS ρ σ (.null :: r))) rfl rfl hd⟩
    · cases h
  · rename_i pc L a r D k n
    split at h
    · rename_i u; cases Nat.eq_of_beq_eq_true u
      obtain ⟨X, H, N⟩ := W
      split at h
      · rename_i cc fl hD
        split at h
        · rename_i uu
          cases h
          obtain ⟨t, ht, et⟩ := List.any_eq_true.mp uu
          have et := of_decide_eq_true et
          subst et
          cases nt with
          | nil => cases ht
          | cons k0 cl =>
            obtain ⟨K, hw, hk⟩ := hG
            obtain ⟨⟨C', c1, E, -⟩, -⟩ := H.1 _ _ hD
            have I : Ins Z T.heap (ρ a) K true := by
              rcases hk _ ht with ⟨c0, e0, C, hC, q⟩ | ⟨c0, e0, -⟩
              · cases e0
                cases hC.symm.trans c1
                rcases q with q | q
                · rw [← q]; exact Ins.self E
                · exact Ins.of_exa E q
              · cases e0
            obtain ⟨T', X', e', st⟩ := castY X hx hZ hown hw rfl I (g := mkF m pc (dL ρ σ L) (dS ρ σ (.ref a :: r))) rfl rfl hd
            exact ⟨⟨Nat.le_refl _, Nat.le_refl _, Nat.le_refl _, rfl⟩, ρ, T', locs, ⟨X', by rw [e']; exact H, N⟩, fun _ _ => rfl, st⟩
        · cases h
      · rename_i i es hD
        split at h
        · rename_i uu
          cases h
          obtain ⟨t, ht, et⟩ := List.any_eq_true.mp uu
          have et := of_decide_eq_true et
          subst et
          cases nt with
          | nil => cases ht
          | cons k0 cl =>
            obtain ⟨K, hw, hk⟩ := hG
            obtain ⟨hO, -⟩ := H.1 _ _ hD
            have I : Ins Z T.heap (ρ a) K true := by
              rcases hk _ ht with ⟨c0, e0, -⟩ | ⟨c0, e0, A, hA, z0, q⟩
              · cases e0
              · cases e0
                have E : Exa Z T.heap (ρ a) A.2.1 := by
                  rcases (hO A hA).1 z0 with ⟨C, -, V⟩ | ⟨-, us, -, V⟩
                  · exact V.2.1
                  · exact V.2.1
                rcases q with q | q
                · rw [← q]; exact Ins.self E
                · exact Ins.of_exa E q
            obtain ⟨T', X', e', st⟩ := castY X hx hZ hown hw rfl I (g := mkF m pc (dL ρ σ L) (dS ρ σ (.ref a :: r))) rfl rfl hd
            exact ⟨⟨Nat.le_refl _, Nat.le_refl _, Nat.le_refl _, rfl⟩, ρ, T', locs, ⟨X', by rw [e']; exact H, N⟩, fun _ _ => rfl, st⟩
        · cases h
      · cases h
    · cases h
  · cases h
theorem cats_den (S : List Value) : ((dS ρ σ S).map fun v => v.category).sum = cats S := by
  unfold cats dS
  rw [List.map_map]
  exact congrArg _ (List.map_congr_left fun v _ => den_cat v)
theorem hInit_ok {i0 : Nat} {v : Int64} {nt : List Value} (W : Sim P Z ρ0 σ n0 p l e R s m args below meth c ρ T locs g.2.2.2.1 g.2.2.2.2.1 g.2.2.2.2.2) (hx : p.tables.exec = Jvm.exec) (hZ : Z.Warmed39 s.vm) (hown : s.vm.findClass y.cls = some m.cls) (hL : g.2.1.length = c.maxLocals) (hd : decode c.code g.1 = .ok (.invokespecial i0, len)) (hG : Good P Z a0 ρ0 y (g.1, .invokespecial i0, len, .long v :: nt)) (h : hInit R.frames R.locals len g = some g') :
    Grow g g' ∧ Stp P Z ρ0 σ n0 p l e R s m args below meth c ρ T g g' := by
  unfold hInit at h
  split at h
  · rename_i pc L a r D k n
    split at h
    · rename_i u
      simp only [Bool.and_eq_true, Nat.ble_eq] at u
      obtain ⟨u1, u2, u3⟩ := u
      cases Nat.eq_of_beq_eq_true u1
      cases h
      obtain ⟨X, H, N⟩ := W
      obtain ⟨w1, w2, w3⟩ := hG
      obtain ⟨T', X', e', st⟩ := initO X hx hZ hown w1 w2 w3 rfl (g := mkF m pc (dL ρ σ L) (dS ρ σ (.ref a :: r))) rfl (by rw [← hL]; exact dL_size L) rfl hd u2 (W := cats r) (by show 2 * 0 + ((dS ρ σ r).map fun v => v.category).sum ≤ cats r; rw [cats_den]; omega) u3
      exact ⟨⟨Nat.le_refl _, Nat.le_refl _, Nat.le_refl _, rfl⟩, ρ, T', locs, ⟨X', by rw [e']; exact H, N⟩, fun _ _ => rfl, st⟩
    · cases h
  · cases h
theorem gcp_mem {k : Value} {i : Nat} : ∀ {t : List Value}, gcp k t = some i → (k, i) ∈ alts t
  | k' :: .ref j :: r, h => by
    unfold gcp at h
    split at h
    · rename_i u; cases h; rw [of_decide_eq_true u]; exact List.mem_cons_self ..
    · exact List.mem_cons_of_mem _ (gcp_mem h)
  | [], h => by simp [gcp] at h
  | [_], h => by simp [gcp] at h
  | _ :: .int _ :: _, h => by simp [gcp] at h
  | _ :: .long _ :: _, h => by simp [gcp] at h
  | _ :: .float _ :: _, h => by simp [gcp] at h
  | _ :: .double _ :: _, h => by simp [gcp] at h
  | _ :: .null :: _, h => by simp [gcp] at h
  | _ :: .retAddr _ :: _, h => by simp [gcp] at h
theorem gc_words : nativeFrameWords "java/lang/Object" "getClass" 1 + 11 = 14 := by decide +kernel
theorem ac_words : nativeFrameWords "java/lang/System" "arraycopy" 5 + 11 = 18 := by decide +kernel
theorem hGc_ok {ins : Instr} {nt : List Value} (W : Sim P Z ρ0 σ n0 p l e R s m args below meth c ρ T locs g.2.2.2.1 g.2.2.2.2.1 g.2.2.2.2.2) (hx : p.tables.exec = Jvm.exec) (hZ : Z.Warmed39 s.vm) (hown : s.vm.findClass y.cls = some m.cls) (hL : g.2.1.length = c.maxLocals) (hd : decode c.code g.1 = .ok (ins, len))
    (hG : ∀ k i, (k, i) ∈ alts nt → i < P.nb ∧ ((∃ c, k = .ref c ∧ ∃ C : Cla, P.cs[c]? = some C ∧ GcOK Z y.cls ins len C.1 (ρ0 i)) ∨ (∃ c, k = .retAddr c ∧ ∃ A : Ary, P.ay[c]? = some A ∧ A.2.2.1 = 0 ∧ GcOK Z y.cls ins len A.2.1 (ρ0 i)))) (h : hGc R.frames R.locals len nt g = some g') :
    Grow g g' ∧ Stp P Z ρ0 σ n0 p l e R s m args below meth c ρ T g g' := by
  unfold hGc at h
  split at h
  · rename_i pc L a r D k n
    split at h
    · rename_i u
      simp only [Bool.and_eq_true, Nat.ble_eq] at u
      split at h
      · rename_i i hi
        cases h
        obtain ⟨X, H, N⟩ := W
        have hroom : 2 * (mkF m pc (dL ρ σ L) (dS ρ σ (.ref a :: r))).monitorRoom + ((dS ρ σ r).map fun v => v.category).sum + (nativeFrameWords "java/lang/Object" "getClass" 1 + 11) ≤ R.locals := by
          rw [gc_words, cats_den]; show 2 * 0 + _ + _ ≤ _; omega
        obtain ⟨C, hi', E, hgc⟩ : ∃ C, i < P.nb ∧ Exa Z T.heap (ρ a) C ∧ GcOK Z y.cls ins len C (ρ0 i) := by
          split at hi
          · rename_i cc fl hD
            obtain ⟨li, q⟩ := hG _ _ (gcp_mem hi)
            obtain ⟨⟨C', c1, E, -⟩, -⟩ := H.1 _ _ hD
            rcases q with ⟨c0, e0, C, hC, q⟩ | ⟨c0, e0, -⟩
            · cases e0; cases hC.symm.trans c1; exact ⟨_, li, E, q⟩
            · cases e0
          · rename_i ii es hD
            obtain ⟨li, q⟩ := hG _ _ (gcp_mem hi)
            obtain ⟨hO, -⟩ := H.1 _ _ hD
            rcases q with ⟨c0, e0, -⟩ | ⟨c0, e0, A, hA, z0, q⟩
            · cases e0
            · cases e0
              refine ⟨_, li, ?_, q⟩
              rcases (hO A hA).1 z0 with ⟨C, -, V⟩ | ⟨-, us, -, V⟩
              · exact V.2.1
              · exact V.2.1
          · cases hi
        obtain ⟨T', X', e', st⟩ := hgc X hx hZ hown E (g := mkF m pc (dL ρ σ L) (dS ρ σ (.ref a :: r))) rfl (by rw [← hL]; exact dL_size L) rfl hd u.1 hroom
        refine ⟨⟨Nat.le_refl _, Nat.le_refl _, Nat.le_refl _, rfl⟩, ρ, T', locs, ⟨X', by rw [e']; exact H, N⟩, fun _ _ => rfl, fun t kk => st t ?_⟩
        rw [← (H.2.1 i hi').1]; exact kk
      · cases h
    · cases h
  · cases h
theorem hCopy_ok {i0 : Nat} {v : Int64} {nt : List Value} (W : Sim P Z ρ0 σ n0 p l e R s m args below meth c ρ T locs g.2.2.2.1 g.2.2.2.2.1 g.2.2.2.2.2) (hx : p.tables.exec = Jvm.exec) (hZ : Z.Warmed39 s.vm) (hown : s.vm.findClass y.cls = some m.cls) (hL : g.2.1.length = c.maxLocals) (hd : decode c.code g.1 = .ok (.invokestatic i0, len)) (hG : Good P Z a0 ρ0 y (g.1, .invokestatic i0, len, .long v :: nt)) (h : hCopy P R.frames R.locals len g = some g') :
    Grow g g' ∧ Stp P Z ρ0 σ n0 p l e R s m args below meth c ρ T g g' := by
  unfold hCopy at h
  split at h
  · rename_i pc L nn dp b sp a r D k n
    split at h
    · rename_i u
      simp only [Bool.and_eq_true, Nat.ble_eq] at u
      obtain ⟨u1, u2, u3, u4⟩ := u
      cases Nat.eq_of_beq_eq_true u1
      split at h
      · rename_i i xs j ys hDa hDb
        split at h
        · rename_i N J I hN hJ hI
          split at h
          · rename_i Ay hA
            split at h
            · rename_i uu
              simp only [Bool.and_eq_true, Bool.or_eq_true, Nat.ble_eq] at uu
              obtain ⟨v1, v2, v3, v4, v5⟩ := uu
              cases Nat.eq_of_beq_eq_true v1
              have z0 := Nat.eq_of_beq_eq_true v3
              cases h
              obtain ⟨X, H, Nf⟩ := W
              obtain ⟨w1, w2, w3, w4⟩ := hG
              obtain ⟨hOa, sca⟩ := H.1 _ _ hDa
              obtain ⟨hOb, scb⟩ := H.1 _ _ hDb
              have Va := (hOa Ay hA).1 z0
              have Vb := (hOb Ay hA).1 z0
              have lt : b < D.length := (List.getElem?_eq_some_iff.mp hDb).1
              have ge := (H.2.2.1 b u2 lt).1
              have hlo : cats r + (nativeFrameWords "java/lang/System" "arraycopy" 5 + 11) ≤ R.locals := by rw [ac_words]; exact u4
              have hW : 2 * (mkF m pc (dL ρ σ L) (dS ρ σ (.int nn :: .int dp :: .ref b :: .int sp :: .ref a :: r))).monitorRoom + ((dS ρ σ r).map fun v => v.category).sum ≤ cats r := by rw [cats_den]; show 2 * 0 + _ ≤ _; omega
              have hsc : scO D.length (.inr (i, ys.take J ++ (xs.drop I).take N ++ ys.drop (J + N))) = true := List.all_eq_true.mpr fun t ht => by
                rcases List.mem_append.mp ht with z | z
                · rcases List.mem_append.mp z with z | z
                  · exact List.all_eq_true.mp scb t (List.mem_of_mem_take z)
                  · exact List.all_eq_true.mp sca t (List.mem_of_mem_drop (List.mem_of_mem_take z))
                · exact List.all_eq_true.mp scb t (List.mem_of_mem_drop z)
              have edS : dS ρ σ (ys.take J ++ (xs.drop I).take N ++ ys.drop (J + N)) = (dS ρ σ ys).take J ++ ((dS ρ σ xs).drop I).take N ++ (dS ρ σ ys).drop (J + N) := by simp [dS, List.map_take, List.map_drop]
              have lx : (dS ρ σ xs).length = xs.length := List.length_map ..
              have ly : (dS ρ σ ys).length = ys.length := List.length_map ..
              rcases Va with ⟨C, eC, Va⟩ | ⟨hno, us, eu, Va⟩
              · rcases Vb with ⟨C', eC', Vb⟩ | ⟨hno, -⟩
                · cases eC.symm.trans eC'
                  obtain ⟨T', h', L', X', e', N', K, V', st⟩ := oa_copy X hx hZ hown w1 w2 w3 w4 rfl Va Vb (siz_ok hI).1 (siz_ok hJ).1 (siz_ok hN).1 (by rw [lx]; exact v4) (by rw [ly]; exact v5) Nf ge (g := mkF m pc (dL ρ σ L) (dS ρ σ (.int nn :: .int dp :: .ref b :: .int sp :: .ref a :: r))) rfl (by rw [← hL]; exact dL_size L) rfl hd u3 hW hlo
                  refine ⟨⟨Nat.le_refl _, Nat.le_refl _, by simp, rfl⟩, ρ, T', L', ⟨X', ?_, N'⟩, fun _ _ => rfl, st⟩
                  rw [e']
                  refine H.put K u2 lt (fun A' hA' => ?_) hsc
                  cases hA.symm.trans hA'
                  exact ⟨fun _ => Or.inl ⟨C, eC, by rw [edS]; exact V'⟩, fun z => absurd z0 z⟩
                · exact absurd eC (hno C)
              · rcases Vb with ⟨C', eC', Vb⟩ | ⟨-, us', eu', Vb⟩
                · exact absurd eC' (hno C')
                · have eT : Ay.1 = .int := by
                    rcases v2 with v2 | v2
                    · cases hA1 : Ay.1 <;> rw [hA1] at v2 <;> first | rfl | cases v2
                    · cases hA1 : Ay.1 <;> rw [hA1] at v2 <;> first | exact absurd hA1 (hno _) | cases v2
                  rw [eT] at Va Vb
                  have l1 : us.length = xs.length := by have := congrArg List.length eu; simpa [dS] using this.symm
                  have l2 : us'.length = ys.length := by have := congrArg List.length eu'; simpa [dS] using this.symm
                  obtain ⟨T', h', L', X', e', N', K, V', st⟩ := pa_copy X hx hZ hown w1 w2 w3 w4 rfl rfl Va Vb (siz_ok hI).1 (siz_ok hJ).1 (siz_ok hN).1 (by rw [l1]; exact v4) (by rw [l2]; exact v5) Nf ge (g := mkF m pc (dL ρ σ L) (dS ρ σ (.int nn :: .int dp :: .ref b :: .int sp :: .ref a :: r))) rfl (by rw [← hL]; exact dL_size L) rfl hd u3 hW hlo
                  refine ⟨⟨Nat.le_refl _, Nat.le_refl _, by simp, rfl⟩, ρ, T', L', ⟨X', ?_, N'⟩, fun _ _ => rfl, st⟩
                  rw [e']
                  refine H.put K u2 lt (fun A' hA' => ?_) hsc
                  cases hA.symm.trans hA'
                  exact ⟨fun _ => Or.inr ⟨hno, _, by rw [edS, eu, eu', ← List.map_take, ← List.map_drop, ← List.map_drop, ← List.map_take, ← List.map_append, ← List.map_append], by rw [eT]; exact V'⟩, fun z => absurd z0 z⟩
            · cases h
          · cases h
        · cases h
      · cases h
    · cases h
  · cases h
theorem hClone_ok {i0 i : Nat} {v : UInt32} (W : Sim P Z ρ0 σ n0 p l e R s m args below meth c ρ T locs g.2.2.2.1 g.2.2.2.2.1 g.2.2.2.2.2) (hx : p.tables.exec = Jvm.exec) (hZ : Z.Warmed39 s.vm) (hown : s.vm.findClass y.cls = some m.cls) (hL : g.2.1.length = c.maxLocals) (hd : decode c.code g.1 = .ok (.invokevirtual i0, len)) (hG : Good P Z a0 ρ0 y (g.1, .invokevirtual i0, len, [.float v, .ref i])) (h : hClone P R.frames R.locals len i g = some g') (hc : g'.2.2.2.2.1 ≤ R.cells) (hs : g'.2.2.2.2.2 ≤ R.slots) :
    Grow g g' ∧ Stp P Z ρ0 σ n0 p l e R s m args below meth c ρ T g g' := by
  unfold hClone at h
  split at h
  · rename_i pc L a r D k n
    split at h
    · rename_i u
      simp only [Bool.and_eq_true, Nat.ble_eq] at u
      obtain ⟨u1, u2, u3, u4⟩ := u
      cases Nat.eq_of_beq_eq_true u1
      obtain ⟨s1, s2⟩ := scLS_ok u2
      split at h
      · rename_i j es A hD hA
        split at h
        · rename_i uu
          simp only [Bool.and_eq_true, Bool.or_eq_true] at uu
          obtain ⟨v1, v2⟩ := uu
          cases Nat.eq_of_beq_eq_true v1
          cases h
          obtain ⟨X, H, N⟩ := W
          obtain ⟨A', hA', z0, w1, w2, w3, w4, w5, w6⟩ := hG
          cases hA.symm.trans hA'
          obtain ⟨hO, sc⟩ := H.1 _ _ hD
          have hno : ∀ C, A.1 ≠ .object C := fun C e => by rw [e] at v2; rcases v2 with v2 | v2 <;> cases v2
          rcases (hO A hA).1 z0 with ⟨C, eC, -⟩ | ⟨-, us, eu, V⟩
          · exact absurd eC (hno C)
          have lu : us.length = es.length := by have := congrArg List.length eu; simpa [dS] using this.symm
          obtain ⟨T', h', X', e', E, V', st⟩ := pa_clone X hx hZ hown w1 w2 w3 w4 w5 w6 rfl V (g := mkF m pc (dL ρ σ L) (dS ρ σ (.ref a :: r))) rfl (by rw [← hL]; exact dL_size L) rfl hd u3 (W := cats r) (cap := es.length) (by show 2 * 0 + ((dS ρ σ r).map fun v => v.category).sum ≤ cats r; rw [cats_den]; omega) u4 (Nat.le_of_eq lu) hc hs
          have ag : ∀ i, i < D.length → upd ρ D.length T.heap.size i = ρ i := fun i hi => upd_lt hi
          refine ⟨⟨Nat.le_succ _, Nat.le_add_right _ _, by simp, rfl⟩, upd ρ D.length T.heap.size, T', locs, ⟨X', ?_, N⟩, ag, fun t kk => st t ?_⟩
          · rw [e']
            refine H.new E V'.lt (fun A' hA' => ?_) (scO_mono (o := .inr (i, es)) (Nat.le_succ _) sc)
            cases hA.symm.trans hA'
            refine ⟨fun _ => Or.inr ⟨hno, us, ?_, V'⟩, fun z => absurd z0 z⟩
            rw [dS_eq ag sc]; exact eu
          · have e1 : dL (upd ρ D.length T.heap.size) σ L = dL ρ σ L := dL_eq ag s1
            have e2 : dS (upd ρ D.length T.heap.size) σ (.ref D.length :: r) = .ref T.heap.size :: dS ρ σ r := by
              show den _ σ (.ref D.length) :: dS _ σ r = _
              rw [dS_eq ag s2]; simp only [den, upd_self]
            simp only [frm, e1, e2] at kk
            exact kk
        · cases h
      · cases h
    · cases h
  · cases h
theorem hst_ok {ins : Instr} (A : AllOK P Z a0 ρ0) (W : Sim P Z ρ0 σ n0 p l e R s m args below meth c ρ T locs g.2.2.2.1 g.2.2.2.2.1 g.2.2.2.2.2) (hx : p.tables.exec = Jvm.exec) (hZ : Z.Warmed39 s.vm) (hown : s.vm.findClass y.cls = some m.cls) (hnm : meth.name = y.name) (hL : g.2.1.length = c.maxLocals) (hd : decode c.code g.1 = .ok (ins, len)) (hG : Good P Z a0 ρ0 y (g.1, ins, len, nt)) (h : hst P R.frames R.locals ins len nt g = some g') (hc : g'.2.2.2.2.1 ≤ R.cells) (hs : g'.2.2.2.2.2 ≤ R.slots) :
    Grow g g' ∧ Stp P Z ρ0 σ n0 p l e R s m args below meth c ρ T g g' := by
  unfold hst at h
  split at h
  · exact hGetf_ok W hx hZ hown hd hG h
  · exact hPutf_ok A W hx hZ hown hnm hd hG h
  · exact hGets_ok W hx hZ hown hd hG h
  · exact hLdc_ok W hx hZ hown hd hG h
  · exact hNew_ok A W hx hZ hown hd hG h hc hs
  · exact hNewa_ok W hx hZ hd hG h hc hs
  · exact hANewa_ok W hx hZ hown hd hG h hc hs
  · exact hLen_ok W hx hZ hd h
  · exact hLd_ok (kd := 0) (by decide) W hx hZ hd h
  · exact hLd_ok (kd := 1) (by decide) W hx hZ hd h
  · exact hLd_ok (kd := 2) (by decide) W hx hZ hd h
  · exact hSt_ok (kd := 0) (by decide) A W hx hZ hd h
  · exact hSt_ok (kd := 1) (by decide) A W hx hZ hd h
  · exact hSt_ok (kd := 2) (by decide) A W hx hZ hd h
  · exact hCast_ok W hx hZ hown hd hG h
  · split at h
    · exact hCopy_ok W hx hZ hown hL hd hG h
    · cases h
  · split at h
    · exact hInit_ok W hx hZ hown hL hd hG h
    · cases h
  · split at h
    · exact hGc_ok W hx hZ hown hL hd hG h
    · exact hClone_ok W hx hZ hown hL hd hG h hc hs
    · cases h
  · split at h
    · exact hGc_ok W hx hZ hown hL hd hG h
    · cases h
  · cases h
theorem gGetf (h : hGetf nt len g = some g') : Grow g g' := by
  unfold hGetf at h
  (repeat' split at h) <;> first | (cases h; done) | (cases h; exact ⟨by simp, by simp, by simp, rfl⟩)
theorem gPutf (h : hPutf P nt len g = some g') : Grow g g' := by
  unfold hPutf at h
  (repeat' split at h) <;> first | (cases h; done) | (cases h; exact ⟨by simp, by simp, by simp, rfl⟩)
theorem gGets (h : hGets P nt len g = some g') : Grow g g' := by
  unfold hGets at h
  (repeat' split at h) <;> first | (cases h; done) | (cases h; exact ⟨by simp, by simp, by simp, rfl⟩)
theorem gLdc (h : hLdc nt len g = some g') : Grow g g' := by
  unfold hLdc at h
  (repeat' split at h) <;> first | (cases h; done) | (cases h; exact ⟨by simp, by simp, by simp, rfl⟩)
theorem gNew (h : hNew P nt len g = some g') : Grow g g' := by
  unfold hNew at h
  (repeat' split at h) <;> first | (cases h; done) | (cases h; exact ⟨by simp, by simp, by simp, rfl⟩)
theorem gNewa (h : hNewa nt len g = some g') : Grow g g' := by
  unfold hNewa at h
  (repeat' split at h) <;> first | (cases h; done) | (cases h; exact ⟨by simp, by simp, by simp, rfl⟩)
theorem gANewa (h : hANewa nt len g = some g') : Grow g g' := by
  unfold hANewa at h
  (repeat' split at h) <;> first | (cases h; done) | (cases h; exact ⟨by simp, by simp, by simp, rfl⟩)
theorem gLen (h : hLen P len g = some g') : Grow g g' := by
  unfold hLen at h
  (repeat' split at h) <;> first | (cases h; done) | (cases h; exact ⟨by simp, by simp, by simp, rfl⟩)
theorem gLd {kd : Nat} (h : hLd P kd len g = some g') : Grow g g' := by
  unfold hLd at h
  (repeat' split at h) <;> first | (cases h; done) | (cases h; exact ⟨by simp, by simp, by simp, rfl⟩)
theorem gSt {kd : Nat} (h : hSt P kd len g = some g') : Grow g g' := by
  unfold hSt at h
  (repeat' split at h) <;> first | (cases h; done) | (cases h; exact ⟨by simp, by simp, by simp, rfl⟩)
theorem gCast (h : hCast nt len g = some g') : Grow g g' := by
  unfold hCast at h
  (repeat' split at h) <;> first | (cases h; done) | (cases h; exact ⟨by simp, by simp, by simp, rfl⟩)
theorem gCopy {fr lo : Nat} (h : hCopy P fr lo len g = some g') : Grow g g' := by
  unfold hCopy at h
  (repeat' split at h) <;> first | (cases h; done) | (cases h; exact ⟨by simp, by simp, by simp, rfl⟩)
theorem gInit {fr lo : Nat} (h : hInit fr lo len g = some g') : Grow g g' := by
  unfold hInit at h
  (repeat' split at h) <;> first | (cases h; done) | (cases h; exact ⟨by simp, by simp, by simp, rfl⟩)
theorem gGc {fr lo : Nat} (h : hGc fr lo len nt g = some g') : Grow g g' := by
  unfold hGc at h
  (repeat' split at h) <;> first | (cases h; done) | (cases h; exact ⟨by simp, by simp, by simp, rfl⟩)
theorem gClone {fr lo i : Nat} (h : hClone P fr lo len i g = some g') : Grow g g' := by
  unfold hClone at h
  (repeat' split at h) <;> first | (cases h; done) | (cases h; exact ⟨by simp, by simp, by simp, rfl⟩)
theorem hst_grow {fr lo : Nat} {ins : Instr} (h : hst P fr lo ins len nt g = some g') : Grow g g' := by
  unfold hst at h
  split at h
  · exact gGetf h
  · exact gPutf h
  · exact gGets h
  · exact gLdc h
  · exact gNew h
  · exact gNewa h
  · exact gANewa h
  · exact gLen h
  · exact gLd h
  · exact gLd h
  · exact gLd h
  · exact gSt h
  · exact gSt h
  · exact gSt h
  · exact gCast h
  · split at h
    · exact gCopy h
    · cases h
  · split at h
    · exact gInit h
    · cases h
  · split at h
    · exact gGc h
    · exact gClone h
    · cases h
  · split at h
    · exact gGc h
    · cases h
  · cases h
end exe
/-! ### the run is sound -/
def RetAt (c : Code) (ret : Option FieldType) (pc : Nat) (st : List Value) (v : Option Value) : Prop :=
  (v = none ∧ st = [] ∧ ret = none ∧ decode c.code pc = .ok (.return_, 1)) ∨
  (∃ x t, v = some (.int x) ∧ st = [.int x] ∧ ret = some t ∧ (t = .int ∨ ((t = .boolean ∨ t = .byte ∨ t = .char ∨ t = .short) ∧ nar t x = x)) ∧ decode c.code pc = .ok (.ireturn, 1)) ∨
  (∃ w t, v = some w ∧ w.isRef = true ∧ st = [w] ∧ ret = some t ∧ t.isReference = true ∧ decode c.code pc = .ok (.areturn, 1))
def BodyOK (P : Pg) (Z : State) (ρ0 : Nat → Nat) (σ : Nat → Int32) (n0 : Nat) (mid fr lo : Nat) (g : Cfg) (r : Res) : Prop :=
  g.2.2.2.2.1 ≤ r.2.2.1 ∧ g.2.2.2.2.2 ≤ r.2.2.2 ∧ g.2.2.2.1.length ≤ r.2.1.length ∧
  ∀ {p : Program} {l : Launch} {e : Env} {R : Room} {s : State} {m : MethodId} {args : Array Value} {below : List Frame} {meth : Method} {c : Code} {T : State} {locs : List Loc} {ρ : Nat → Nat} (M : Met), P.ms[mid]? = some M → R.frames = fr → R.locals = lo → r.2.2.1 ≤ R.cells → r.2.2.2 ≤ R.slots → p.tables.exec = Jvm.exec → Z.Warmed39 s.vm → s.vm.findClass M.1.cls = some m.cls → meth.name = M.1.name → c.code = M.2.1 → c.maxLocals = M.2.2.1 → g.2.1.length = c.maxLocals →
    Sim P Z ρ0 σ n0 p l e R s m args below meth c ρ T locs g.2.2.2.1 g.2.2.2.2.1 g.2.2.2.2.2 →
    ∃ ρ' T' locs' pc' Ls st, Sim P Z ρ0 σ n0 p l e R s m args below meth c ρ' T' locs' r.2.1 r.2.2.1 r.2.2.2 ∧ (∀ i, i < g.2.2.2.1.length → ρ' i = ρ i) ∧ RetAt c M.2.2.2.1 pc' st (r.1.map (den ρ' σ)) ∧ ∀ t, Steps p.tables e below (T'.setTop (mkF m pc' Ls st)) t → Steps p.tables e below (T.setTop (frm m ρ σ g)) t
def QR (P : Pg) (Z : State) (ρ0 : Nat → Nat) (σ : Nat → Int32) (n0 : Nat) (ρ : Nat → Nat) (D : List Ob) (v : Option Value) (D' : List Ob) (w : Option Value) (h : Heap) (L : List Loc) : Prop :=
  Fr n0 L ∧ ∃ ρ', w = v.map (den ρ' σ) ∧ Rel P Z ρ0 σ n0 ρ' D' h ∧ ∀ i, i < D.length → ρ' i = ρ i
section exf
variable {p : Program} {l : Launch} {e : Env} {R : Room} {s : State} {m : MethodId} {args : Array Value} {below : List Frame} {meth : Method} {c : Code} {T : State} {locs : List Loc} {Z : State} {a0 : Array Value} {h h0 : Heap} {ρ0 ρ ρ' : Nat → Nat} {σ : Nat → Int32} {P : Pg} {q : Orc} {n0 : Nat} {y : MethodName} {g g' : Cfg} {len : Nat} {nt : List Value} {D D' : List Ob}
theorem fill_eq (as : List Value) : ∀ acc : Array Slot, (dS ρ σ as).foldl (fun acc v => if v.category = 2 then (acc.push (.val v)).push .second else acc.push (.val v)) acc = acc ++ ((args0 as).map (denS ρ σ)).toArray := by
  induction as with
  | nil => intro acc; simp [dS, args0]
  | cons v r ih =>
    intro acc
    have e1 : dS ρ σ (v :: r) = den ρ σ v :: dS ρ σ r := rfl
    have e2 : args0 (v :: r) = (if v.category = 2 then [.val v, .second] else [.val v]) ++ args0 r := by simp [args0]
    rw [e1, e2, List.foldl_cons, ih, den_cat]
    by_cases q : v.category = 2
    · simp [q, denS]
    · simp [q, denS]
theorem entry_eq (as : List Value) (ml : Nat) : argsToLocals (dS ρ σ as).toArray ml = dL ρ σ (loc0 as ml) := by
  unfold argsToLocals dL loc0
  have e1 : (dS ρ σ as).toArray.foldl (init := #[]) (fun acc v => if v.category = 2 then (acc.push (Slot.val v)).push .second else acc.push (.val v)) = ((args0 as).map (denS ρ σ)).toArray := by
    rw [List.foldl_toArray]
    rw [fill_eq as #[]]
    simp
  rw [e1]
  simp [denS]
theorem retv_ok {ret : Option FieldType} {ins : Instr} {pc : Nat} {S : List Value} {v : Option Value} (hd : decode c.code pc = .ok (ins, len)) (h : retv ret ins len S = some v) : RetAt c ret pc (dS ρ σ S) (v.map (den ρ σ)) := by
  unfold retv at h
  split at h
  · split at h
    · rename_i u
      simp only [Bool.and_eq_true, decide_eq_true_eq] at u
      cases Nat.eq_of_beq_eq_true u.1
      cases h
      exact Or.inl ⟨rfl, rfl, u.2, hd⟩
    · cases h
  · rename_i w
    split at h
    · rename_i u; cases Nat.eq_of_beq_eq_true u
      split at h
      · split at h
        · rename_i hk
          cases h
          obtain ⟨x, ex⟩ := kOK0 (ρ := ρ) (σ := σ) hk
          exact Or.inr (Or.inl ⟨x, .int, congrArg some ex, congrArg (· :: []) ex, rfl, Or.inl rfl, hd⟩)
        · cases h
      · split at h
        · rename_i hk
          cases h
          obtain ⟨t1, t2⟩ := tyOK_ok (ρ := ρ) (σ := σ) hk
          obtain ⟨x, ex⟩ : ∃ x, den ρ σ w = .int x := by cases hw : den ρ σ w <;> rw [hw] at t2 <;> first | exact ⟨_, rfl⟩ | cases t2
          rw [ex] at t1
          exact Or.inr (Or.inl ⟨x, .boolean, congrArg some ex, congrArg (· :: []) ex, rfl, Or.inr ⟨Or.inl rfl, Value.int.inj t1⟩, hd⟩)
        · cases h
      · split at h
        · rename_i hk
          cases h
          obtain ⟨t1, t2⟩ := tyOK_ok (ρ := ρ) (σ := σ) hk
          obtain ⟨x, ex⟩ : ∃ x, den ρ σ w = .int x := by cases hw : den ρ σ w <;> rw [hw] at t2 <;> first | exact ⟨_, rfl⟩ | cases t2
          rw [ex] at t1
          exact Or.inr (Or.inl ⟨x, .char, congrArg some ex, congrArg (· :: []) ex, rfl, Or.inr ⟨Or.inr (Or.inr (Or.inl rfl)), Value.int.inj t1⟩, hd⟩)
        · cases h
      · split at h
        · rename_i hk
          cases h
          obtain ⟨t1, t2⟩ := tyOK_ok (ρ := ρ) (σ := σ) hk
          obtain ⟨x, ex⟩ : ∃ x, den ρ σ w = .int x := by cases hw : den ρ σ w <;> rw [hw] at t2 <;> first | exact ⟨_, rfl⟩ | cases t2
          rw [ex] at t1
          exact Or.inr (Or.inl ⟨x, .byte, congrArg some ex, congrArg (· :: []) ex, rfl, Or.inr ⟨Or.inr (Or.inl rfl), Value.int.inj t1⟩, hd⟩)
        · cases h
      · cases h
    · cases h
  · rename_i w
    split at h
    · rename_i u
      simp only [Bool.and_eq_true] at u
      cases Nat.eq_of_beq_eq_true u.1
      split at h
      · rename_i t
        split at h
        · rename_i ht
          cases h
          exact Or.inr (Or.inr ⟨_, t, rfl, kOK1 u.2, rfl, rfl, ht, hd⟩)
        · cases h
      · cases h
    · cases h
  · cases h
theorem met_of (A : AllOK P Z a0 ρ0) {mid : Nat} {M : Met} (hM : P.ms[mid]? = some M) {as : List Value} {v : Option Value} {k n fr lo : Nat} (B : BodyOK P Z ρ0 σ n0 mid fr lo (0, loc0 as M.2.2.1, [], D, 0, 0) (v, D', k, n)) (hl : (loc0 as M.2.2.1).length = M.2.2.1) (H : Rel P Z ρ0 σ n0 ρ D h0) {rm : Room} (hf : rm.frames = fr) (hlo : rm.locals = lo) (hk : k ≤ rm.cells) (hn : n ≤ rm.slots) (ws : List Jvm.Cond) :
    MetFree l M.1 (head1 (Jvm.Cond.code M.1 M.2.1 M.2.2.1 M.2.2.2.1 :: ws) rm) (fun a U => a = (dS ρ σ as).toArray ∧ Z.Warmed39 U.vm ∧ U.heap = h0) (fun _ _ _ _ _ => True) (fun _ U o U' => ∃ w L, o = .returned w ∧ QR P Z ρ0 σ n0 ρ D v D' w U'.heap L ∧ FrameEnd U o U' L rm.cells rm.slots) := by
  refine MetFree.of_bodySF (chk_ms A.1 hM).1 hisR ?_
  intro p e s m args below meth c s₁ Bd hml0 hP hK
  obtain ⟨rfl, hZ, hh⟩ := hP
  have X0 : Stand p l e rm s m _ below meth c s₁ [] 0 0 := Stand.of_body Bd
  have e0 : s₁.heap = h0 := by rw [← hh, Bd.state]; rfl
  obtain ⟨ρ', T', locs', pc', Ls, st, ⟨X', H', N'⟩, ag, ra, stp⟩ := B.2.2.2 M hM hf hlo hk hn Bd.exec hZ (findClass_of_methodNamed Bd.named) (name_of_methodNamed Bd.named Bd.method).1 Bd.bytes hml0 (hl.trans hml0.symm) ⟨X0, by rw [e0]; exact H, Fr.nil n0⟩
  have hef : entryFrame m (dS ρ σ as).toArray M.2.2.1 = frm m ρ σ (0, loc0 as M.2.2.1, [], D, 0, 0) := by
    unfold entryFrame frm; rw [entry_eq]; rfl
  rcases ra with ⟨e1, e2, e3, hd⟩ | ⟨x, t, e1, e2, e3, e4, hd⟩ | ⟨w, t, e1, e2, e3, e4, e5, hd⟩
  · obtain ⟨fs, hr, hrun, hended, hW, hsame⟩ := X'.leave (v := none) (fun _ => rfl)
    refine ⟨_, _, castTop hef (stp _ ?_), hrun, hended, _, _, rfl, ⟨N', ρ', e1.symm, H', ag⟩, ⟨_, rfl⟩, hW, hsame.mono hk hn⟩
    subst e2
    exact X'.returnOut Bd.exec (Bd.returns.trans e3) hd hr
  · obtain ⟨fs, hr, hrun, hended, hW, hsame⟩ := X'.leave (v := some (.int x)) (fun h => by rw [Bd.returns, e3] at h; cases h)
    refine ⟨_, _, castTop hef (stp _ ?_), hrun, hended, _, _, rfl, ⟨N', ρ', e1.symm, H', ag⟩, ⟨_, rfl⟩, hW, hsame.mono hk hn⟩
    subst e2
    rcases e4 with rfl | ⟨e4, e5⟩
    · exact retI X' Bd.exec (Bd.returns.trans e3) hd hr
    · exact retN X' Bd.exec (Bd.returns.trans e3) e4 hd (by rw [e5]; exact hr)
  · obtain ⟨fs, hr, hrun, hended, hW, hsame⟩ := X'.leave (v := some w) (fun h => by rw [Bd.returns, e4] at h; cases h)
    refine ⟨_, _, castTop hef (stp _ ?_), hrun, hended, _, _, rfl, ⟨N', ρ', e1.symm, H', ag⟩, ⟨_, rfl⟩, hW, hsame.mono hk hn⟩
    subst e3
    exact X'.areturnOut Bd.exec e2 (Bd.returns.trans e4) e5 hd hr
theorem good_call {ins : Instr} {pc n : Nat} {al : List Value} (hi : isInv ins = true) (hG : Good P Z a0 ρ0 y (pc, ins, len, .retAddr n :: al)) : ∀ k mid, (k, mid) ∈ alts al → ∃ M : Met, P.ms[mid]? = some M ∧ CallOK Z y.cls ins len M.1 n (rqOf P k) := by
  unfold isInv at hi
  split at hi
  · exact hG
  · exact hG
  · exact hG
  · exact hG
  · cases hi
theorem pko_ok {as : List Value} {k : Value} (u : pko D as k = true) : k = .null ∨ (∃ z b tl, k = .int z ∧ as = .ref b :: tl) ∨ ∃ cc b tl fl, k = .ref cc ∧ as = .ref b :: tl ∧ D[b]? = some (.inl (cc, fl)) := by
  unfold pko at u
  split at u
  · exact Or.inl rfl
  · split at u
    · exact Or.inr (Or.inl ⟨_, _, _, rfl, rfl⟩)
    · cases u
  · split at u
    · split at u
      · rename_i hD
        cases Nat.eq_of_beq_eq_true u
        exact Or.inr (Or.inr ⟨_, _, _, _, rfl, rfl, hD⟩)
      · cases u
    · cases u
  · cases u
theorem pick_ok {as : List Value} {k : Value} {mid : Nat} : ∀ {al : List Value}, pick D as al = some (k, mid) → (k, mid) ∈ alts al ∧ pko D as k = true
  | k' :: .ref j :: r, h => by
    unfold pick at h
    split at h
    · rename_i u
      cases h
      exact ⟨List.mem_cons_self .., u⟩
    · obtain ⟨h1, h2⟩ := pick_ok h
      exact ⟨List.mem_cons_of_mem _ h1, h2⟩
  | [], h => absurd (show (none : Option (Value × Nat)) = some (k, mid) from h) (fun z => nomatch z)
  | [_], h => absurd (show (none : Option (Value × Nat)) = some (k, mid) from h) (fun z => nomatch z)
  | _ :: .int _ :: _, h => absurd (show (none : Option (Value × Nat)) = some (k, mid) from h) (fun z => nomatch z)
  | _ :: .long _ :: _, h => absurd (show (none : Option (Value × Nat)) = some (k, mid) from h) (fun z => nomatch z)
  | _ :: .float _ :: _, h => absurd (show (none : Option (Value × Nat)) = some (k, mid) from h) (fun z => nomatch z)
  | _ :: .double _ :: _, h => absurd (show (none : Option (Value × Nat)) = some (k, mid) from h) (fun z => nomatch z)
  | _ :: .null :: _, h => absurd (show (none : Option (Value × Nat)) = some (k, mid) from h) (fun z => nomatch z)
  | _ :: .retAddr _ :: _, h => absurd (show (none : Option (Value × Nat)) = some (k, mid) from h) (fun z => nomatch z)
theorem dS_all_drop {n k : Nat} {S : List Value} (hs : S.all (scV k) = true) : (S.drop n).all (scV k) = true := List.all_eq_true.mpr fun t ht => List.all_eq_true.mp hs t (List.mem_of_mem_drop ht)
theorem run_ok (A : AllOK P Z a0 ρ0) (hq : OrcOK σ q) : ∀ (n mid fr lo : Nat) (g : Cfg) (r : Res), run P q n mid fr lo g = some r → BodyOK P Z ρ0 σ n0 mid fr lo g r := by
  intro n
  induction n with
  | zero => intro mid fr lo g r h; exact absurd (show (none : Option Res) = some r from h) (fun z => nomatch z)
  | succ n ih =>
    intro mid fr lo g r h
    replace h : stepf P q (run P q n) mid fr lo g = some r := h
    unfold stepf at h
    split at h
    · cases h
    rename_i M hM
    split at h
    · cases h
    rename_i en hen
    have hmem := List.mem_of_find?_eq_some hen
    have hpe := List.find?_some hen
    have hpc : en.1 = g.1 := Nat.eq_of_beq_eq_true hpe
    have hdec := (chk_ms A.1 hM).2 en hmem
    have hgood := (A.2.2.2.2 mid M hM).2 en hmem
    obtain ⟨pc, ins, len, nt⟩ := en
    obtain ⟨pc0, L, S, D, k, sl⟩ := g
    dsimp only at h hpc hdec hgood
    subst hpc
    have hdn : ∀ t ∈ P.dn, t.1 < P.nb ∧ t.2 < P.nb ∧ ρ0 t.1 ≠ ρ0 t.2 := fun t ht => ⟨(chk_dn A.1 ht).1, (chk_dn A.1 ht).2, A.2.2.2.1 t ht⟩
    split at h
    · rename_i v hv
      cases h
      refine ⟨Nat.le_refl _, Nat.le_refl _, Nat.le_refl _, ?_⟩
      intro p l e R s m args below meth c T locs ρ M1 hM1 hf hlo hk hn hx hZ hown hnm hby hml hL W
      cases hM.symm.trans hM1
      exact ⟨ρ, T, locs, pc, dL ρ σ L, dS ρ σ S, W, fun _ _ => rfl, retv_ok (hb hby hdec) hv, fun t kk => kk⟩
    · split at h
      · rename_i na al hinv
        split at h
        · cases h
        rename_i kq mid' hpk
        split at h
        · cases h
        rename_i M' hM'
        split at h
        · rename_i u
          simp only [Bool.and_eq_true, Nat.ble_eq, Nat.blt_eq] at u
          obtain ⟨u1, u2, u3, u4, u5, u6⟩ := u
          obtain ⟨s1, s2⟩ := scLS_ok u5
          split at h
          · cases h
          rename_i v D' k' s' hcall
          have I1 := ih _ _ _ _ _ hcall
          have I2 := ih _ _ _ _ _ h
          obtain ⟨a1, a2, a3, a4⟩ := I2
          have b3 := I1.2.2.1
          dsimp only at a1 a2 a3 b3
          refine ⟨by dsimp only; omega, by dsimp only; omega, by dsimp only; omega, ?_⟩
          intro p l e R s m args below meth c T locs ρ M1 hM1 hf hlo hk hn hx hZ hown hnm hby hml hL W
          cases hM.symm.trans hM1
          subst hf hlo
          obtain ⟨X, H, N⟩ := W
          dsimp only at X H hL
          obtain ⟨hal, hpko⟩ := pick_ok hpk
          have hrq := pko_ok hpko
          obtain ⟨M2, hM2, hcok⟩ := good_call hinv hgood _ _ hal
          cases hM'.symm.trans hM2
          have hmw := (A.2.2.2.2 mid' M' hM').1
          rcases hmw with hz | ⟨wc, wz⟩
          · omega
          have mf := met_of (l := l) (rm := { frames := R.frames - 1, cells := k', slots := s', locals := R.locals - (cats (S.drop na) + (M'.2.2.1 + 11)) }) A hM' I1 (Nat.eq_of_beq_eq_true u6) H rfl rfl (Nat.le_refl _) (Nat.le_refl _) []
          have bk := backOf (W := cats (S.drop na)) (R := R) (p := p) (e := e) (below := below) (args := args) (len := len) mf hZ wc wz (by show R.frames - 1 + 1 ≤ R.frames; omega) (by show cats (S.drop na) + (M'.2.2.1 + 11) + (R.locals - (cats (S.drop na) + (M'.2.2.1 + 11))) ≤ R.locals; omega)
          have hstack : dS ρ σ S = (dS ρ σ (S.take na).reverse).reverse ++ dS ρ σ (S.drop na) := by
            simp only [dS, ← List.map_reverse, List.reverse_reverse, ← List.map_append, List.take_append_drop]
          obtain ⟨w, vm₁, B, X', hP, st⟩ := hcok X hx hZ hown bk (g := mkF m pc (dL ρ σ L) (dS ρ σ S)) (argsL := dS ρ σ (S.take na).reverse) (rest := dS ρ σ (S.drop na)) rfl (by rw [← hL]; exact dL_size L) (by simp [dS]; omega) hstack (by rw [cats_den]; show 2 * 0 + _ ≤ _; omega) (hb hby hdec)
            (fun vm₁ _ => ⟨rfl, rfl, Nat.le_trans a1 hk, Nat.le_trans a2 hn⟩) (fun o ho => by
              rcases hrq with rfl | ⟨z, b, tl, rfl, eas⟩ | ⟨cc, b, tl, fl, rfl, eas, hD⟩
              · cases ho
              · cases ho
                exact ⟨ρ b, dS ρ σ tl, by rw [eas]; rfl, fun C hC => nomatch hC⟩
              · cases ho
                refine ⟨ρ b, dS ρ σ tl, by rw [eas]; rfl, fun C hC => ?_⟩
                cases hC
                obtain ⟨⟨C', c1, E, -⟩, -⟩ := H.1 _ _ hD
                rw [c1]; exact E)
          obtain ⟨Lc, hQ, X'⟩ := own_out hP X'
          dsimp only [Pt.U, Pt.locs, Pt.cells, Pt.slots] at X' st hQ
          obtain ⟨N', ρ', rfl, H', ag⟩ := hQ
          obtain ⟨ρ'', T'', locs'', pc'', Ls, stt, W'', ag'', ra, st''⟩ := a4 M hM rfl rfl hk hn hx hZ hown hnm hby hml hL ⟨X', H', N.app N'⟩
          refine ⟨ρ'', T'', locs'', pc'', Ls, stt, W'', fun i hi => ?_, ra, fun t kk => st t ?_⟩
          · dsimp only at hi ag''
            rw [ag'' i (by omega)]; exact ag i hi
          · have kk := st'' t kk
            have e1 : dL ρ' σ L = dL ρ σ L := dL_eq ag s1
            have e2 : dS ρ' σ (v.toList ++ S.drop na) = (v.map (den ρ' σ)).toList ++ dS ρ σ (S.drop na) := by
              rw [← dS_eq (ρ := ρ) ag (dS_all_drop s2)]
              cases v <;> simp [dS]
            simp only [frm, e1, e2] at kk
            exact kk
        · cases h
      · split at h
        · rename_i pc' L' S' hp
          have I := ih _ _ _ _ _ h
          obtain ⟨a1, a2, a3, a4⟩ := I
          refine ⟨a1, a2, a3, ?_⟩
          intro p l e R s m args below meth c T locs ρ M1 hM1 hf hlo hk hn hx hZ hown hnm hby hml hL W
          cases hM.symm.trans hM1
          obtain ⟨el, st⟩ := pst_ok W.1 hx hq (W.2.1.apart hdn) (hb hby hdec) hp
          obtain ⟨ρ', T', locs', pc'', Ls, stt, W', ag, ra, st'⟩ := a4 M hM hf hlo hk hn hx hZ hown hnm hby hml (el.trans hL) W
          exact ⟨ρ', T', locs', pc'', Ls, stt, W', ag, ra, fun t kk => st t (st' t kk)⟩
        · split at h
          · rename_i g' hh
            have I := ih _ _ _ _ _ h
            obtain ⟨a1, a2, a3, a4⟩ := I
            have gr : Grow (pc, L, S, D, k, sl) g' := hst_grow hh
            refine ⟨Nat.le_trans gr.1 a1, Nat.le_trans gr.2.1 a2, Nat.le_trans gr.2.2.1 a3, ?_⟩
            intro p l e R s m args below meth c T locs ρ M1 hM1 hf hlo hk hn hx hZ hown hnm hby hml hL W
            cases hM.symm.trans hM1
            subst hf hlo
            obtain ⟨-, ρ1, T1, locs1, W1, ag1, st⟩ := hst_ok A W hx hZ hown hnm hL (hb hby hdec) hgood hh (Nat.le_trans a1 hk) (Nat.le_trans a2 hn)
            obtain ⟨ρ', T', locs', pc'', Ls, stt, W', ag, ra, st'⟩ := a4 M hM rfl rfl hk hn hx hZ hown hnm hby hml (gr.2.2.2.trans hL) W1
            exact ⟨ρ', T', locs', pc'', Ls, stt, W', fun i hi => (ag i (Nat.lt_of_lt_of_le hi gr.2.2.1)).trans (ag1 i hi), ra, fun t kk => st t (st' t kk)⟩
          · cases h
end exf
/-! ### the sites' facts, from the words -/
theorem wz {l : List Jvm.Cond} {a0 : Array Value} {Z : State} (hw : ∀ d ∈ l, d.before a0 Z = true) (i : Nat) {d : Jvm.Cond} (h : l[i]? = some d) : d.before a0 Z = true := hw d (List.mem_of_getElem? h)
theorem av_n {α : Type} {Q : α → Prop} : ∀ x ∈ ([] : List α), Q x := fun _ h => nomatch h
theorem av_c {α : Type} {Q : α → Prop} {x : α} {r : List α} (h : Q x) (t : ∀ y ∈ r, Q y) : ∀ y ∈ x :: r, Q y := fun y hy => by
  rcases List.mem_cons.mp hy with rfl | hy
  · exact h
  · exact t y hy
def AL' {α : Type} (Q : Nat → α → Prop) : Nat → List α → Prop
  | _, [] => True
  | n, x :: r => Q n x ∧ AL' Q (n + 1) r
theorem al_n {α : Type} {Q : Nat → α → Prop} {n : Nat} : AL' Q n [] := trivial
theorem al_c {α : Type} {Q : Nat → α → Prop} {n : Nat} {x : α} {r : List α} (h : Q n x) (t : AL' Q (n + 1) r) : AL' Q n (x :: r) := ⟨h, t⟩
theorem al_at' {α : Type} {Q : Nat → α → Prop} : ∀ {l : List α} {n : Nat}, AL' Q n l → ∀ i x, l[i]? = some x → Q (n + i) x
  | [], _, _, i, x, h => by simp at h
  | y :: r, n, H, i, x, h => by
    cases i with
    | zero => simp at h; subst h; exact H.1
    | succ i => rw [List.getElem?_cons_succ] at h; have := al_at' H.2 i x h; rw [show n + 1 + i = n + (i + 1) by omega] at this; exact this
theorem al_at {α : Type} {Q : Nat → α → Prop} {l : List α} (H : AL' Q 0 l) : ∀ i x, l[i]? = some x → Q i x := fun i x h => by have := al_at' H i x h; rwa [Nat.zero_add] at this
theorem ga_n {α β : Type} {Q : α → β → Prop} : ∀ k i, (k, i) ∈ ([] : List (α × β)) → Q k i := fun _ _ h => nomatch h
theorem ga_c {Q : Value → Nat → Prop} {x : Value} {j : Nat} {r : List Value} (h : Q x j) (t : ∀ k i, (k, i) ∈ alts r → Q k i) : ∀ k i, (k, i) ∈ alts (x :: .ref j :: r) → Q k i := fun k i hy => by
  rcases List.mem_cons.mp hy with e | hy
  · cases e; exact h
  · exact t k i hy
section exg
variable {Z : State} {a0 : Array Value} {own : String} {idx : Nat} {P : Pg} {ρ0 : Nat → Nat}
theorem g_ldcI {v : Int32} (w : (Cond.constant own idx v).before a0 Z = true) : ∃ w, PushOK Z own (.ldc idx) 2 w ∧ (∀ σ, den ρ0 σ (.int v) = w) ∧ scV P.nb (.int v) = true :=
  ⟨.int v, fun X hx hZ hown hg hd => ⟨_, X, rfl, X.ldcInt hx hown (mvT hZ w) hg hd⟩, fun _ => rfl, rfl⟩
theorem g_ldcF {v : UInt32} (w : (Cond.constantFloat own idx v).before a0 Z = true) : ∃ w, PushOK Z own (.ldc idx) 2 w ∧ (∀ σ, den ρ0 σ (.float v) = w) ∧ scV P.nb (.float v) = true :=
  ⟨.float v, fun X hx hZ hown hg hd => ⟨_, X, rfl, X.ldcFloatC hx hown (mvT hZ w) hg hd⟩, fun _ => rfl, rfl⟩
theorem g_ldcM {C : String} {i : Nat} (w : (Cond.classLink own idx C).before a0 Z = true) (M : MI Z C (ρ0 i)) (hi : Nat.blt i P.nb = true := by decide) : ∃ w, PushOK Z own (.ldc idx) 2 w ∧ (∀ σ, den ρ0 σ (.ref i) = w) ∧ scV P.nb (.ref i) = true :=
  ⟨.ref (ρ0 i), fun X hx hZ hown hg hd => ldcM X hx hZ hown w M rfl hg hd, fun _ => rfl, hi⟩
theorem g_gcV {C : String} {b : Addr} (w1 : (Cond.methodLink own idx Jvm.Stand.gcN).before a0 Z = true) (w2 : (Cond.declares Jvm.Stand.gcN).before a0 Z = true) (w3 : (Cond.selects C Jvm.Stand.gcN Jvm.Stand.gcN).before a0 Z = true) (w4 : (Cond.instanceMethod Jvm.Stand.gcN).before a0 Z = true) (w5 : (Cond.native Jvm.Stand.gcN).before a0 Z = true) (M : MI Z C b) : GcOK Z own (.invokevirtual idx) 3 C b :=
  fun X hx hZ hown E hg hsize hs hd hf hlo => gcV X hx hZ hown w1 w2 w3 w4 w5 M E rfl hg hsize hs hd hf hlo
theorem g_gcI {C : String} {b : Addr} {n : Nat} {xi : MethodName} (w1 : (Cond.methodLink own idx xi).before a0 Z = true) (w2 : (Cond.declares Jvm.Stand.gcN).before a0 Z = true) (w3 : (Cond.interfaceMethod xi.cls "java/lang/Object" xi.name xi.desc).before a0 Z = true) (w4 : (Cond.selects C xi Jvm.Stand.gcN).before a0 Z = true) (w5 : (Cond.instanceMethod Jvm.Stand.gcN).before a0 Z = true) (w6 : (Cond.publicMethod Jvm.Stand.gcN).before a0 Z = true) (w7 : (Cond.unhidden C xi.name xi.desc).before a0 Z = true) (w8 : (Cond.castable C xi.cls).before a0 Z = true) (w9 : (Cond.native Jvm.Stand.gcN).before a0 Z = true)
    (hxi : xi.cls ≠ "java/lang/invoke/MethodHandle" ∧ xi.cls ≠ "java/lang/invoke/VarHandle") (hxo : xi.cls ≠ "java/lang/Object") (hname : xi.name = "getClass") (hdesc : xi.desc = "()Ljava/lang/Class;") (M : MI Z C b) : GcOK Z own (.invokeinterface idx n) 5 C b :=
  fun X hx hZ hown E hg hsize hs hd hf hlo => gcI X hx hZ hown (mvT hZ w1) (mvT hZ w2) (Jvm.Free.ULB.iface_rides hZ.alike w3) (mvT hZ w4) (mvT hZ w5) (mvT hZ w6) (mvT hZ w7) (mvT hZ w8) (mvT hZ w9) hxi hxo hname hdesc M E rfl hg hsize hs hd hf hlo
variable {y z : MethodName} {bytes : ByteArray} {maxL n : Nat} {ret : Option FieldType} {ps : List FieldType} {r : Option FieldType}
theorem stk_recv {argsL rest st : List Value} {b : Addr} {tl : List Value} (h : st = argsL.reverse ++ rest) (e : argsL = .ref b :: tl) : st = tl.reverse ++ .ref b :: rest := by subst e; simpa using h
theorem tl_len {argsL tl : List Value} {b : Addr} {n : Nat} (h : argsL.length = n) (e : argsL = .ref b :: tl) (hn : ps.length + 1 = n) : tl.length = ps.length := by subst e; simp at h; omega
theorem c_s (w1 : (Cond.methodLink own idx y).before a0 Z = true) (w2 : (Cond.static y).before a0 Z = true) (w3 : (Cond.initialized y.cls).before a0 Z = true) (w4 : (Cond.code y bytes maxL ret).before a0 Z = true) (hy : y.cls ≠ "java/lang/invoke/MethodHandle" ∧ y.cls ≠ "java/lang/invoke/VarHandle") (hp : parseMethodDescriptor y.desc = some ⟨ps, r⟩) (hn : ps.length = n) : CallOK Z own (.invokestatic idx) 3 y n none :=
  fun X hx hZ hown hK hg hsize hlen hstack hW hd hpre _ => by
    obtain ⟨v, vm₁, B, -, X', hP, st⟩ := Jvm.LawKit.callS X hx hown (mvT hZ w1) (mvT hZ w2) (mvT hZ w3) (mvT hZ w4) hy hK hg hsize (lenOf hp (hlen.trans hn.symm)) hstack hW hd hpre
    exact ⟨v, vm₁, B, X', hP, st⟩
theorem c_i (hi : y.name = "<init>") (w1 : (Cond.methodLink own idx y).before a0 Z = true) (w2 : (Cond.instanceMethod y).before a0 Z = true) (w3 : (Cond.code y bytes maxL none).before a0 Z = true) (hy : y.cls ≠ "java/lang/invoke/MethodHandle" ∧ y.cls ≠ "java/lang/invoke/VarHandle") (hp : parseMethodDescriptor y.desc = some ⟨ps, r⟩) (hn : ps.length + 1 = n) : CallOK Z own (.invokespecial idx) 3 y n (some none) :=
  fun X hx hZ hown hK hg hsize hlen hstack hW hd hpre hr => by
    obtain ⟨b, tl, e, -⟩ := hr none rfl
    have hst := stk_recv hstack e
    have hl := tl_len hlen e hn
    subst e
    obtain ⟨v, vm₁, B, -, X', hP, st⟩ := X.specialBack hx hi hown (mvT hZ w1) (mvT hZ w2) (mvT hZ w3) hy hK hg hsize (Steps.refl _) (lenOf hp hl) hst hW hd hpre
    exact ⟨v, vm₁, B, X', hP, fun t k => st.trans k⟩
theorem c_iN {host : String} (hi : y.name = "<init>") (w1 : (Cond.methodLinkNest own idx y host).before a0 Z = true) (w2 : (Cond.instanceMethod y).before a0 Z = true) (w3 : (Cond.code y bytes maxL none).before a0 Z = true) (hy : y.cls ≠ "java/lang/invoke/MethodHandle" ∧ y.cls ≠ "java/lang/invoke/VarHandle") (hp : parseMethodDescriptor y.desc = some ⟨ps, r⟩) (hn : ps.length + 1 = n) : CallOK Z own (.invokespecial idx) 3 y n (some none) :=
  fun X hx hZ hown hK hg hsize hlen hstack hW hd hpre hr => by
    obtain ⟨b, tl, e, -⟩ := hr none rfl
    have hst := stk_recv hstack e
    have hl := tl_len hlen e hn
    subst e
    obtain ⟨v, vm₁, B, -, X', hP, st⟩ := X.specialBackNest hx hi hown (own_mvN hZ w1) (mvT hZ w2) (mvT hZ w3) hy hK hg hsize (Steps.refl _) (lenOf hp hl) hst hW hd hpre
    exact ⟨v, vm₁, B, X', hP, fun t k => st.trans k⟩
theorem c_p {C : String} (w1 : (Cond.methodLink own idx y).before a0 Z = true) (w2 : (Cond.instanceMethod y).before a0 Z = true) (w3 : (Cond.selects y.cls y y).before a0 Z = true) (w4 : (Cond.privateMethod y).before a0 Z = true) (w5 : (Cond.code y bytes maxL ret).before a0 Z = true) (hy : y.cls ≠ "java/lang/invoke/MethodHandle" ∧ y.cls ≠ "java/lang/invoke/VarHandle") (hp : parseMethodDescriptor y.desc = some ⟨ps, r⟩) (hn : ps.length + 1 = n) : CallOK Z own (.invokevirtual idx) 3 y n (some (some C)) :=
  fun X hx hZ hown hK hg hsize hlen hstack hW hd hpre hr => by
    obtain ⟨b, tl, e, E⟩ := hr _ rfl
    have hst := stk_recv hstack e
    have hl := tl_len hlen e hn
    subst e
    obtain ⟨cq, q1, q2⟩ := (E C rfl).cell
    obtain ⟨v, vm₁, B, -, X', hP, st⟩ := X.privateBack hx hown (mvT hZ w1) (mvT hZ w2) (mvT hZ w3) (Cond.privateMethod_at (mvP hZ w4 (args := #[]))) (mvT hZ w5) hy hK hg hsize (Steps.refl _) q1 q2 (lenOf hp hl) hst hW hd hpre
    exact ⟨v, vm₁, B, X', hP, fun t k => st.trans k⟩
theorem c_p' {C D : String} (w1 : (Cond.methodLink own idx y).before a0 Z = true) (w2 : (Cond.instanceMethod y).before a0 Z = true) (w3 : (Cond.selects D z z).before a0 Z = true) (hc : y.cls = z.cls) (w4 : (Cond.privateMethod y).before a0 Z = true) (w5 : (Cond.code y bytes maxL ret).before a0 Z = true) (hy : y.cls ≠ "java/lang/invoke/MethodHandle" ∧ y.cls ≠ "java/lang/invoke/VarHandle") (hp : parseMethodDescriptor y.desc = some ⟨ps, r⟩) (hn : ps.length + 1 = n) : CallOK Z own (.invokevirtual idx) 3 y n (some (some C)) :=
  fun X hx hZ hown hK hg hsize hlen hstack hW hd hpre hr => by
    obtain ⟨b, tl, e, E⟩ := hr _ rfl
    have hst := stk_recv hstack e
    have hl := tl_len hlen e hn
    subst e
    obtain ⟨cq, q1, q2⟩ := (E C rfl).cell
    obtain ⟨v, vm₁, B, -, X', hP, st⟩ := X.privateBack hx hown (mvT hZ w1) (mvT hZ w2) (own_selPriv (mvT hZ w3) hc (Cond.privateMethod_at (mvP hZ w4 (args := #[]))) (mvT hZ w2) hy) (Cond.privateMethod_at (mvP hZ w4 (args := #[]))) (mvT hZ w5) hy hK hg hsize (Steps.refl _) q1 q2 (lenOf hp hl) hst hW hd hpre
    exact ⟨v, vm₁, B, X', hP, fun t k => st.trans k⟩
theorem c_v {C : String} (w1 : (Cond.methodLink own idx y).before a0 Z = true) (w2 : (Cond.declares y).before a0 Z = true) (w3 : (Cond.selects C y y).before a0 Z = true) (w4 : (Cond.instanceMethod y).before a0 Z = true) (hy : y.cls ≠ "java/lang/invoke/MethodHandle" ∧ y.cls ≠ "java/lang/invoke/VarHandle") (hp : parseMethodDescriptor y.desc = some ⟨ps, r⟩) (hn : ps.length + 1 = n) : CallOK Z own (.invokevirtual idx) 3 y n (some (some C)) :=
  fun X hx hZ hown hK hg hsize hlen hstack hW hd hpre hr => by
    obtain ⟨b, tl, e, E⟩ := hr _ rfl
    have hst := stk_recv hstack e
    have hl := tl_len hlen e hn
    subst e
    obtain ⟨cq, kq, qa, qb, qc⟩ := isOf hZ rfl (E C rfl)
    obtain ⟨v, vm₁, B, -, X', hP, st⟩ := X.virtualBack hx hown (mvT hZ w1) (mvT hZ w2) (notFace_of_selects (args := #[]) (mvT hZ w3)) (mvT hZ w3) (mvT hZ w4) hy hK qa qc hg hsize (Steps.refl _) (lenOf hp hl) hst hW hd hpre
    exact ⟨v, vm₁, B, X', hP, fun t k => st.trans k⟩
theorem c_v' {C D : String} {u : MethodName} (w1 : (Cond.methodLink own idx y).before a0 Z = true) (w2 : (Cond.declares y).before a0 Z = true) (w0 : (Cond.selects D u u).before a0 Z = true) (hc : y.cls = u.cls) (w3 : (Cond.selects C y z).before a0 Z = true) (w4 : (Cond.instanceMethod z).before a0 Z = true) (hy : y.cls ≠ "java/lang/invoke/MethodHandle" ∧ y.cls ≠ "java/lang/invoke/VarHandle") (hp : parseMethodDescriptor y.desc = some ⟨ps, r⟩) (hn : ps.length + 1 = n) : CallOK Z own (.invokevirtual idx) 3 z n (some (some C)) :=
  fun X hx hZ hown hK hg hsize hlen hstack hW hd hpre hr => by
    obtain ⟨b, tl, e, E⟩ := hr _ rfl
    have hst := stk_recv hstack e
    have hl := tl_len hlen e hn
    subst e
    obtain ⟨cq, kq, qa, qb, qc⟩ := isOf hZ rfl (E C rfl)
    obtain ⟨v, vm₁, B, -, X', hP, st⟩ := X.virtualBack hx hown (mvT hZ w1) (mvT hZ w2) (own_notFace (args := #[]) (mvT hZ w0) hc) (mvT hZ w3) (mvT hZ w4) hy hK qa qc hg hsize (Steps.refl _) (lenOf hp hl) hst hW hd hpre
    exact ⟨v, vm₁, B, X', hP, fun t k => st.trans k⟩
theorem c_f {C : String} {k : Nat} (w1 : (Cond.methodLink own idx z).before a0 Z = true) (w2 : (Cond.declares z).before a0 Z = true) (w3 : (Cond.interfaceMethod z.cls z.cls z.name z.desc).before a0 Z = true) (w4 : (Cond.selects C z y).before a0 Z = true) (w5 : (Cond.instanceMethod y).before a0 Z = true) (w6 : (Cond.publicMethod y).before a0 Z = true) (w7 : (Cond.unhidden C z.name z.desc).before a0 Z = true) (w8 : (Cond.castable C z.cls).before a0 Z = true) (hy : z.cls ≠ "java/lang/invoke/MethodHandle" ∧ z.cls ≠ "java/lang/invoke/VarHandle") (hp : parseMethodDescriptor z.desc = some ⟨ps, r⟩) (hn : ps.length + 1 = n) : CallOK Z own (.invokeinterface idx k) 5 y n (some (some C)) :=
  fun X hx hZ hown hK hg hsize hlen hstack hW hd hpre hr => by
    obtain ⟨b, tl, e, E⟩ := hr _ rfl
    have hst := stk_recv hstack e
    have hl := tl_len hlen e hn
    subst e
    obtain ⟨cq, kq, qa, qb, qc⟩ := isOf hZ rfl (E C rfl)
    obtain ⟨v, vm₁, B, -, X', hP, st⟩ := X.interfaceBack hx hown (mvT hZ w1) (mvT hZ w2) (Jvm.Free.ULB.iface_rides hZ.alike w3) (mvT hZ w4) (mvT hZ w5) (mvT hZ w6) (mvT hZ w7) (mvT hZ w8) hy hK qa qb qc hg hsize (Steps.refl _) (lenOf hp hl) hst hW hd hpre
    exact ⟨v, vm₁, B, X', hP, fun t k => st.trans k⟩
theorem orc_op {σ : Nat → Int32} {n : Nat} {a b r : Value} {x y z : Int32} (h1 : ival σ a = some x) (h2 : ival σ b = some y) (h3 : ival σ r = some z) (hn : n < 20) (hy : 9 ≤ n → y ≠ 0) (hz : z = opf n x y) : OrcT σ (n, a, b, r) :=
  ⟨x, y, z, h1, h2, h3, fun _ => ⟨hy, hz⟩, fun cd h => by cases cd <;> simp only [cdn] at h <;> omega⟩
theorem orc_cd {σ : Nat → Int32} {a b : Value} {x y : Int32} {t : Bool} (cd : ClassFile.Cond) (h1 : ival σ a = some x) (h2 : ival σ b = some y) (h : if_icmp.holds cd x y = t) : OrcT σ (cdn cd, a, b, .int (cond t 1 0)) :=
  ⟨x, y, cond t 1 0, h1, h2, rfl, fun q => by exfalso; cases cd <;> simp [cdn] at q, fun cd' h' => by
    have : cd' = cd := by cases cd <;> cases cd' <;> first | rfl | cases h'
    subst this
    exact ⟨rfl, by rw [h]; cases t <;> simp⟩⟩
end exg
theorem pd_0 : parseMethodDescriptor "(Z)Ljava/lang/Boolean;" = some ⟨[.boolean], some (.object "java/lang/Boolean")⟩ := by decide +kernel
theorem pd_1 : parseMethodDescriptor "()V" = some ⟨[], none⟩ := by decide +kernel
theorem pd_2 : parseMethodDescriptor "(Ljava/lang/Object;)Ljava/lang/Object;" = some ⟨[(.object "java/lang/Object")], some (.object "java/lang/Object")⟩ := by decide +kernel
theorem pd_3 : parseMethodDescriptor "(Ljava/lang/Object;Ljava/lang/Object;)V" = some ⟨[(.object "java/lang/Object"), (.object "java/lang/Object")], none⟩ := by decide +kernel
theorem pd_4 : parseMethodDescriptor "(Ljava/lang/Object;Ljava/lang/Object;)Ljava/util/List;" = some ⟨[(.object "java/lang/Object"), (.object "java/lang/Object")], some (.object "java/util/List")⟩ := by decide +kernel
theorem pd_5 : parseMethodDescriptor "()[Ljava/lang/Object;" = some ⟨[], some (.array (.object "java/lang/Object"))⟩ := by decide +kernel
theorem pd_6 : parseMethodDescriptor "(II)I" = some ⟨[.int, .int], some .int⟩ := by decide +kernel
theorem pd_7 : parseMethodDescriptor "([Ljava/lang/Object;ILjava/lang/Class;)[Ljava/lang/Object;" = some ⟨[(.array (.object "java/lang/Object")), .int, (.object "java/lang/Class")], some (.array (.object "java/lang/Object"))⟩ := by decide +kernel
theorem pd_8 : parseMethodDescriptor "(Ljava/util/Collection;)V" = some ⟨[(.object "java/util/Collection")], none⟩ := by decide +kernel
theorem pd_9 : parseMethodDescriptor "(III)I" = some ⟨[.int, .int, .int], some .int⟩ := by decide +kernel
theorem pd_10 : parseMethodDescriptor "([Ljava/lang/Object;I)[Ljava/lang/Object;" = some ⟨[(.array (.object "java/lang/Object")), .int], some (.array (.object "java/lang/Object"))⟩ := by decide +kernel
theorem pd_11 : parseMethodDescriptor "(I)[Ljava/lang/Object;" = some ⟨[.int], some (.array (.object "java/lang/Object"))⟩ := by decide +kernel
theorem pd_12 : parseMethodDescriptor "(Ljava/lang/Object;[Ljava/lang/Object;I)V" = some ⟨[(.object "java/lang/Object"), (.array (.object "java/lang/Object")), .int], none⟩ := by decide +kernel
theorem pd_13 : parseMethodDescriptor "(Ljava/lang/Object;)Z" = some ⟨[(.object "java/lang/Object")], some .boolean⟩ := by decide +kernel
theorem pd_14 : parseMethodDescriptor "()I" = some ⟨[], some .int⟩ := by decide +kernel
theorem pd_15 : parseMethodDescriptor "(I)I" = some ⟨[.int], some .int⟩ := by decide +kernel
theorem pd_16 : parseMethodDescriptor "([III)V" = some ⟨[(.array .int), .int, .int], none⟩ := by decide +kernel
theorem pd_17 : parseMethodDescriptor "(Ljava/util/DualPivotQuicksort$Sorter;[IIII)V" = some ⟨[(.object "java/util/DualPivotQuicksort$Sorter"), (.array .int), .int, .int, .int], none⟩ := by decide +kernel
theorem pd_18 : parseMethodDescriptor "([IIII)V" = some ⟨[(.array .int), .int, .int, .int], none⟩ := by decide +kernel
theorem pd_19 : parseMethodDescriptor "([I)V" = some ⟨[(.array .int)], none⟩ := by decide +kernel
theorem pd_20 : parseMethodDescriptor "([IIII)I" = some ⟨[(.array .int), .int, .int, .int], some .int⟩ := by decide +kernel
theorem pd_21 : parseMethodDescriptor "([II)I" = some ⟨[(.array .int), .int], some .int⟩ := by decide +kernel
theorem pd_22 : parseMethodDescriptor "([II)[I" = some ⟨[(.array .int), .int], some (.array .int)⟩ := by decide +kernel
theorem pd_23 : parseMethodDescriptor "(Ljava/lang/Object;)Ljava/util/HashMap$Node;" = some ⟨[(.object "java/lang/Object")], some (.object "java/util/HashMap$Node")⟩ := by decide +kernel
theorem pd_24 : parseMethodDescriptor "(I)Ljava/lang/Integer;" = some ⟨[.int], some (.object "java/lang/Integer")⟩ := by decide +kernel
theorem pd_25 : parseMethodDescriptor "(I[III)I" = some ⟨[.int, (.array .int), .int, .int], some .int⟩ := by decide +kernel
theorem pd_26 : parseMethodDescriptor "(Ljava/lang/Object;IIII)I" = some ⟨[(.object "java/lang/Object"), .int, .int, .int, .int], some .int⟩ := by decide +kernel
theorem pd_27 : parseMethodDescriptor "([I)I" = some ⟨[(.array .int)], some .int⟩ := by decide +kernel
theorem pd_28 : parseMethodDescriptor "(Ljava/lang/Object;)I" = some ⟨[(.object "java/lang/Object")], some .int⟩ := by decide +kernel
theorem pd_29 : parseMethodDescriptor "()[Ljava/util/HashMap$Node;" = some ⟨[], some (.array (.object "java/util/HashMap$Node"))⟩ := by decide +kernel
theorem pd_30 : parseMethodDescriptor "(ILjava/lang/Object;Ljava/lang/Object;Ljava/util/HashMap$Node;)V" = some ⟨[.int, (.object "java/lang/Object"), (.object "java/lang/Object"), (.object "java/util/HashMap$Node")], none⟩ := by decide +kernel
theorem pd_31 : parseMethodDescriptor "(ILjava/lang/Object;Ljava/lang/Object;Ljava/util/HashMap$Node;)Ljava/util/HashMap$Node;" = some ⟨[.int, (.object "java/lang/Object"), (.object "java/lang/Object"), (.object "java/util/HashMap$Node")], some (.object "java/util/HashMap$Node")⟩ := by decide +kernel
theorem pd_32 : parseMethodDescriptor "(Z)V" = some ⟨[.boolean], none⟩ := by decide +kernel
theorem pd_33 : parseMethodDescriptor "(ILjava/lang/Object;Ljava/lang/Object;ZZ)Ljava/lang/Object;" = some ⟨[.int, (.object "java/lang/Object"), (.object "java/lang/Object"), .boolean, .boolean], some (.object "java/lang/Object")⟩ := by decide +kernel
theorem pd_34 : parseMethodDescriptor "(Ljava/lang/Object;Ljava/lang/Object;)Ljava/lang/Object;" = some ⟨[(.object "java/lang/Object"), (.object "java/lang/Object")], some (.object "java/lang/Object")⟩ := by decide +kernel
theorem pd_35 : parseMethodDescriptor "(IILjava/util/function/BiFunction;)I" = some ⟨[.int, .int, (.object "java/util/function/BiFunction")], some .int⟩ := by decide +kernel
theorem pd_36 : parseMethodDescriptor "(I)Ljava/lang/Object;" = some ⟨[.int], some (.object "java/lang/Object")⟩ := by decide +kernel
theorem pd_37 : parseMethodDescriptor "()Z" = some ⟨[], some .boolean⟩ := by decide +kernel
theorem pd_38 : parseMethodDescriptor "([Z[I[I)V" = some ⟨[(.array .boolean), (.array .int), (.array .int)], none⟩ := by decide +kernel
theorem pd_39 : parseMethodDescriptor "()Lcom/example/meerkat/meerkat/model/Circuit;" = some ⟨[], some (.object "com/example/meerkat/meerkat/model/Circuit")⟩ := by decide +kernel
theorem pd_40 : parseMethodDescriptor "(I)Z" = some ⟨[.int], some .boolean⟩ := by decide +kernel
def en0 : List Ent := [(0, .new 7, 3, [.ref 0]), (3, .dup, 1, []), (4, .invokespecial 9, 3, [.retAddr 1, .int 0, .ref 1]), (7, .astore_n 1, 1, []), (8, .aload_n 1, 1, []), (9, .invokevirtual 10, 3, [.retAddr 1, .ref 0, .ref 16]), (12, .istore_n 2, 1, []), (13, .aload_n 1, 1, []), (14, .invokevirtual 10, 3, [.retAddr 1, .ref 0, .ref 16]), (17, .istore_n 3, 1, []), (18, .iload_n 0, 1, []), (19, .ldc 14, 2, [.int 2147483647]), (21, .iand, 1, []), (22, .iconst 3, 1, []), (23, .irem, 1, []), (24, .istore 4, 2, []), (26, .iconst 0, 1, []), (27, .istore 5, 2, []), (29, .iload 4, 2, []), (31, .iconst 1, 1, []), (32, .if_icmp .ne 56, 3, []), (35, .iload_n 0, 1, []), (36, .iconst 4, 1, []), (37, .iand, 1, []), (38, .ifCond .eq 8, 3, []), (41, .iload_n 2, 1, []), (42, .ineg, 1, []), (43, .goto 4, 3, []), (46, .iload_n 2, 1, []), (47, .istore 6, 2, []), (49, .iload_n 0, 1, []), (50, .bipush 8, 2, []), (52, .iand, 1, []), (53, .ifCond .eq 8, 3, []), (56, .iload_n 3, 1, []), (57, .ineg, 1, []), (58, .goto 4, 3, []), (61, .iload_n 3, 1, []), (62, .istore 7, 2, []), (64, .aload_n 1, 1, []), (65, .iconst 2, 1, []), (66, .newarray .int, 2, [.ref 2]), (68, .dup, 1, []), (69, .iconst 0, 1, []), (70, .iload 6, 2, []), (72, .iastore, 1, []), (73, .dup, 1, []), (74, .iconst 1, 1, []), (75, .iload 7, 2, []), (77, .iastore, 1, []), (78, .invokevirtual 15, 3, [.retAddr 2, .ref 0, .ref 25]), (81, .pop, 1, []), (82, .iconst 1, 1, []), (83, .istore 5, 2, []), (85, .goto 26, 3, []), (88, .iload 4, 2, []), (90, .iconst 2, 1, []), (91, .if_icmp .ne 20, 3, []), (94, .aload_n 1, 1, []), (95, .iconst 2, 1, []), (96, .newarray .int, 2, [.ref 2]), (98, .dup, 1, []), (99, .iconst 0, 1, []), (100, .iload_n 2, 1, []), (101, .iastore, 1, []), (102, .dup, 1, []), (103, .iconst 1, 1, []), (104, .iload_n 2, 1, []), (105, .ineg, 1, []), (106, .iastore, 1, []), (107, .invokevirtual 15, 3, [.retAddr 2, .ref 0, .ref 25]), (110, .pop, 1, []), (111, .aload_n 1, 1, []), (112, .invokevirtual 10, 3, [.retAddr 1, .ref 0, .ref 16]), (115, .istore 6, 2, []), (117, .aload_n 1, 1, []), (118, .invokevirtual 19, 3, [.retAddr 1, .ref 0, .ref 52]), (121, .astore 7, 2, []), (123, .iload_n 2, 1, []), (124, .iconst 2, 1, []), (125, .if_icmp .ne 21, 3, []), (128, .iload_n 3, 1, []), (129, .iconst 3, 1, []), (130, .if_icmp .ne 16, 3, []), (133, .iload 6, 2, []), (135, .iconst 4, 1, []), (136, .iload 5, 2, []), (138, .iadd, 1, []), (139, .if_icmp .ne 7, 3, []), (142, .iconst 1, 1, []), (143, .goto 4, 3, []), (147, .istore 8, 2, []), (149, .iload 8, 2, []), (151, .ifCond .eq 17, 3, []), (154, .aload 7, 2, []), (156, .invokevirtual 23, 3, [.retAddr 1, .ref 8, .ref 59]), (159, .iload 6, 2, []), (161, .if_icmp .ne 7, 3, []), (164, .iconst 1, 1, []), (165, .goto 4, 3, []), (169, .istore 8, 2, []), (171, .iload 8, 2, []), (173, .ifCond .eq 26, 3, []), (176, .aload 7, 2, []), (178, .iload_n 2, 1, []), (179, .invokevirtual 28, 3, [.retAddr 2, .ref 8, .ref 60]), (182, .ifCond .eq 17, 3, []), (185, .aload 7, 2, []), (187, .iload 6, 2, []), (189, .invokevirtual 28, 3, [.retAddr 2, .ref 8, .ref 60]), (192, .ifCond .eq 7, 3, []), (195, .iconst 1, 1, []), (196, .goto 4, 3, []), (200, .istore 8, 2, []), (202, .iload 8, 2, []), (204, .ifCond .eq 17, 3, []), (207, .aload 7, 2, []), (209, .iload 6, 2, []), (211, .invokevirtual 32, 3, [.retAddr 2, .ref 8, .ref 61]), (214, .ifCond .ne 7, 3, []), (217, .iconst 1, 1, []), (218, .goto 4, 3, []), (222, .istore 8, 2, []), (224, .iload 8, 2, []), (226, .ifCond .eq 22, 3, []), (229, .iload 4, 2, []), (231, .iconst 1, 1, []), (232, .if_icmp .ne 12, 3, []), (235, .aload 7, 2, []), (237, .iconst 4, 1, []), (238, .invokevirtual 28, 3, [.retAddr 2, .ref 8, .ref 60]), (241, .ifCond .ne 7, 3, []), (244, .iconst 1, 1, []), (245, .goto 4, 3, []), (249, .istore 8, 2, []), (251, .iload 8, 2, []), (253, .ireturn, 1, [])]
def en1 : List Ent := [(0, .aload_n 0, 1, []), (1, .invokespecial 3, 3, [.long 3]), (4, .aload_n 0, 1, []), (5, .new 9, 3, [.ref 1]), (8, .dup, 1, []), (9, .iconst 0, 1, []), (10, .invokestatic 11, 3, [.retAddr 1, .null, .ref 2]), (13, .iconst 0, 1, []), (14, .invokestatic 11, 3, [.retAddr 1, .null, .ref 2]), (17, .invokestatic 17, 3, [.retAddr 2, .null, .ref 3]), (20, .invokespecial 23, 3, [.retAddr 2, .int 0, .ref 9]), (23, .putfield 26, 3, [.ref 2, .ref 0]), (26, .aload_n 0, 1, []), (27, .new 9, 3, [.ref 1]), (30, .dup, 1, []), (31, .iconst 0, 1, []), (32, .newarray .int, 2, [.ref 2]), (34, .iconst 0, 1, []), (35, .newarray .int, 2, [.ref 2]), (37, .invokestatic 17, 3, [.retAddr 2, .null, .ref 3]), (40, .invokespecial 23, 3, [.retAddr 2, .int 0, .ref 9]), (43, .putfield 32, 3, [.ref 3, .ref 0]), (46, .aload_n 0, 1, []), (47, .new 35, 3, [.ref 4]), (50, .dup, 1, []), (51, .invokespecial 37, 3, [.retAddr 1, .int 0, .ref 14]), (54, .putfield 38, 3, [.ref 4, .ref 0]), (57, .return_, 1, [])]
def en2 : List Ent := [(0, .iload_n 0, 1, []), (1, .ifCond .eq 9, 3, []), (4, .getstatic 27, 3, [.ref 1]), (7, .goto 6, 3, []), (10, .getstatic 31, 3, [.ref 0]), (13, .areturn, 1, [])]
def en3 : List Ent := [(0, .new 96, 3, [.ref 2]), (3, .dup, 1, []), (4, .aload_n 0, 1, []), (5, .aload_n 1, 1, []), (6, .invokespecial 100, 3, [.retAddr 3, .int 0, .ref 4]), (9, .areturn, 1, [])]
def en4 : List Ent := [(0, .aload_n 0, 1, []), (1, .invokespecial 1, 3, [.retAddr 1, .int 0, .ref 5]), (4, .aload_n 0, 1, []), (5, .aload_n 1, 1, []), (6, .invokestatic 7, 3, [.retAddr 1, .null, .ref 8]), (9, .putfield 13, 3, [.ref 8, .ref 2]), (12, .aload_n 0, 1, []), (13, .aload_n 2, 1, []), (14, .invokestatic 7, 3, [.retAddr 1, .null, .ref 8]), (17, .putfield 24, 3, [.ref 9, .ref 2]), (20, .return_, 1, [])]
def en5 : List Ent := [(0, .aload_n 0, 1, []), (1, .invokespecial 1, 3, [.retAddr 1, .int 0, .ref 6]), (4, .return_, 1, [])]
def en6 : List Ent := [(0, .aload_n 0, 1, []), (1, .invokespecial 1, 3, [.retAddr 1, .int 0, .ref 7]), (4, .return_, 1, [])]
def en7 : List Ent := [(0, .aload_n 0, 1, []), (1, .invokespecial 1, 3, [.long 3]), (4, .return_, 1, [])]
def en8 : List Ent := [(0, .aload_n 0, 1, []), (1, .ifnonnull 11, 3, []), (12, .aload_n 0, 1, []), (13, .areturn, 1, [])]
def en9 : List Ent := [(0, .aload_n 0, 1, []), (1, .invokespecial 1, 3, [.retAddr 1, .int 0, .ref 10]), (4, .aload_n 1, 1, []), (5, .invokeinterface 42 1, 5, [.retAddr 1, .ref 2, .ref 11]), (10, .astore_n 2, 1, []), (11, .aload_n 0, 1, []), (12, .aload_n 2, 1, []), (13, .arraylength, 1, []), (14, .dup_x1, 1, []), (15, .putfield 48, 3, [.ref 6, .ref 1]), (18, .ifCond .eq 39, 3, []), (21, .aload_n 1, 1, []), (22, .invokeinterface 52 1, 5, [.long 2, .ref 2, .ref 5]), (27, .ldc 10, 2, [.ref 6]), (29, .if_acmp .ne 11, 3, []), (40, .aload_n 0, 1, []), (41, .aload_n 2, 1, []), (42, .aload_n 0, 1, []), (43, .getfield 48, 3, [.ref 6]), (46, .ldc 56, 2, [.ref 7]), (48, .invokestatic 57, 3, [.retAddr 3, .null, .ref 12]), (51, .putfield 9, 3, [.ref 7, .ref 1]), (54, .goto 10, 3, []), (64, .return_, 1, [])]
def en10 : List Ent := [(0, .aload_n 0, 1, []), (1, .invokespecial 1, 3, [.retAddr 1, .int 0, .ref 7]), (4, .aload_n 0, 1, []), (5, .iconst 0, 1, []), (6, .putfield 7, 3, [.ref 5, .ref 1]), (9, .return_, 1, [])]
def en11 : List Ent := [(0, .aload_n 0, 1, []), (1, .getfield 24, 3, [.ref 9]), (4, .getstatic 19, 3, [.ref 2]), (7, .if_acmp .ne 15, 3, []), (22, .iconst 2, 1, []), (23, .anewarray 32, 3, [.ref 1]), (26, .dup, 1, []), (27, .iconst 0, 1, []), (28, .aload_n 0, 1, []), (29, .getfield 13, 3, [.ref 8]), (32, .aastore, 1, []), (33, .dup, 1, []), (34, .iconst 1, 1, []), (35, .aload_n 0, 1, []), (36, .getfield 24, 3, [.ref 9]), (39, .aastore, 1, []), (40, .areturn, 1, [])]
def en12 : List Ent := [(0, .aload_n 2, 1, []), (1, .ldc 110, 2, [.ref 7]), (3, .if_acmp .ne 10, 3, []), (6, .iload_n 1, 1, []), (7, .anewarray 2, 3, [.ref 1]), (10, .goto 14, 3, []), (24, .astore_n 3, 1, []), (25, .aload_n 0, 1, []), (26, .iconst 0, 1, []), (27, .aload_n 3, 1, []), (28, .iconst 0, 1, []), (29, .aload_n 0, 1, []), (30, .arraylength, 1, []), (31, .iload_n 1, 1, []), (32, .invokestatic 304, 3, [.retAddr 2, .null, .ref 13]), (35, .invokestatic 150, 3, [.long 1]), (38, .aload_n 3, 1, []), (39, .areturn, 1, [])]
def en13 : List Ent := [(0, .iload_n 0, 1, []), (1, .iload_n 1, 1, []), (2, .if_icmp .gt 7, 3, []), (5, .iload_n 0, 1, []), (6, .goto 4, 3, []), (10, .ireturn, 1, [])]
def en14 : List Ent := [(0, .aload_n 0, 1, []), (1, .invokespecial 43, 3, [.retAddr 1, .int 0, .ref 15]), (4, .aload_n 0, 1, []), (5, .ldc 92, 2, [.float 1061158912]), (7, .putfield 81, 3, [.ref 10, .ref 4]), (10, .return_, 1, [])]
def en15 : List Ent := [(0, .aload_n 0, 1, []), (1, .invokespecial 1, 3, [.long 3]), (4, .return_, 1, [])]
def en16 : List Ent := [(0, .aload_n 0, 1, []), (1, .getfield 26, 3, [.ref 2]), (4, .iconst 1, 1, []), (5, .invokestatic 11, 3, [.retAddr 1, .null, .ref 2]), (8, .invokeinterface 42 2, 5, [.retAddr 2, .ref 1, .ref 17]), (13, .pop, 1, []), (14, .aload_n 0, 1, []), (15, .getfield 32, 3, [.ref 3]), (18, .iconst 0, 1, []), (19, .newarray .int, 2, [.ref 2]), (21, .invokeinterface 42 2, 5, [.retAddr 2, .ref 1, .ref 17]), (26, .pop, 1, []), (27, .aload_n 0, 1, []), (28, .getfield 26, 3, [.ref 2]), (31, .invokeinterface 46 1, 5, [.retAddr 1, .ref 1, .ref 24]), (36, .iconst 1, 1, []), (37, .isub, 1, []), (38, .ireturn, 1, [])]
def en17 : List Ent := [(0, .aload_n 0, 1, []), (1, .dup, 1, []), (2, .getfield 63, 3, [.ref 5]), (5, .iconst 1, 1, []), (6, .iadd, 1, []), (7, .putfield 63, 3, [.ref 5, .ref 1]), (10, .aload_n 0, 1, []), (11, .aload_n 1, 1, []), (12, .aload_n 0, 1, []), (13, .getfield 9, 3, [.ref 7]), (16, .aload_n 0, 1, []), (17, .getfield 48, 3, [.ref 6]), (20, .invokevirtual 131, 3, [.retAddr 4, .ref 1, .ref 18]), (23, .iconst 1, 1, []), (24, .ireturn, 1, [])]
def en18 : List Ent := [(0, .iload_n 3, 1, []), (1, .aload_n 2, 1, []), (2, .arraylength, 1, []), (3, .if_icmp .ne 8, 3, []), (6, .aload_n 0, 1, []), (7, .invokevirtual 129, 3, [.retAddr 1, .ref 1, .ref 19]), (10, .astore_n 2, 1, []), (11, .aload_n 2, 1, []), (12, .iload_n 3, 1, []), (13, .aload_n 1, 1, []), (14, .aastore, 1, []), (15, .aload_n 0, 1, []), (16, .iload_n 3, 1, []), (17, .iconst 1, 1, []), (18, .iadd, 1, []), (19, .putfield 48, 3, [.ref 6, .ref 1]), (22, .return_, 1, [])]
def en19 : List Ent := [(0, .aload_n 0, 1, []), (1, .aload_n 0, 1, []), (2, .getfield 48, 3, [.ref 6]), (5, .iconst 1, 1, []), (6, .iadd, 1, []), (7, .invokevirtual 69, 3, [.retAddr 2, .ref 1, .ref 20]), (10, .areturn, 1, [])]
def en20 : List Ent := [(0, .aload_n 0, 1, []), (1, .getfield 9, 3, [.ref 7]), (4, .arraylength, 1, []), (5, .istore_n 2, 1, []), (6, .iload_n 2, 1, []), (7, .ifCond .gt 13, 3, []), (20, .iload_n 2, 1, []), (21, .iload_n 1, 1, []), (22, .iload_n 2, 1, []), (23, .isub, 1, []), (24, .iload_n 2, 1, []), (25, .iconst 1, 1, []), (26, .ishr, 1, []), (27, .invokestatic 73, 3, [.retAddr 3, .null, .ref 21]), (30, .istore_n 3, 1, []), (31, .aload_n 0, 1, []), (32, .aload_n 0, 1, []), (33, .getfield 9, 3, [.ref 7]), (36, .iload_n 3, 1, []), (37, .invokestatic 66, 3, [.retAddr 2, .null, .ref 23]), (40, .dup_x1, 1, []), (41, .putfield 9, 3, [.ref 7, .ref 1]), (44, .areturn, 1, [])]
def en21 : List Ent := [(0, .iload_n 0, 1, []), (1, .iload_n 1, 1, []), (2, .iload_n 2, 1, []), (3, .invokestatic 194, 3, [.retAddr 2, .null, .ref 22]), (6, .iadd, 1, []), (7, .istore_n 3, 1, []), (8, .iconst 0, 1, []), (9, .iload_n 3, 1, []), (10, .if_icmp .ge 11, 3, []), (13, .iload_n 3, 1, []), (14, .ldc 200, 2, [.int 2147483639]), (16, .if_icmp .gt 5, 3, []), (19, .iload_n 3, 1, []), (20, .ireturn, 1, [])]
def en22 : List Ent := [(0, .iload_n 0, 1, []), (1, .iload_n 1, 1, []), (2, .if_icmp .lt 7, 3, []), (5, .iload_n 0, 1, []), (6, .goto 4, 3, []), (9, .iload_n 1, 1, []), (10, .ireturn, 1, [])]
def en23 : List Ent := [(0, .aload_n 0, 1, []), (1, .iload_n 1, 1, []), (2, .aload_n 0, 1, []), (3, .invokevirtual 86, 3, [.long 2, .retAddr 1, .ref 7]), (6, .invokestatic 300, 3, [.retAddr 3, .null, .ref 12]), (9, .areturn, 1, [])]
def en24 : List Ent := [(0, .aload_n 0, 1, []), (1, .getfield 48, 3, [.ref 6]), (4, .ireturn, 1, [])]
def en25 : List Ent := [(0, .aload_n 1, 1, []), (1, .invokevirtual 50, 3, [.float 4, .ref 2]), (4, .checkcast 51, 3, [.retAddr 2]), (7, .astore_n 2, 1, []), (8, .aload_n 2, 1, []), (9, .astore_n 3, 1, []), (10, .aload_n 3, 1, []), (11, .arraylength, 1, []), (12, .istore 4, 2, []), (14, .iconst 0, 1, []), (15, .istore 5, 2, []), (17, .iload 5, 2, []), (19, .iload 4, 2, []), (21, .if_icmp .ge 52, 3, []), (24, .aload_n 3, 1, []), (25, .iload 5, 2, []), (27, .iaload, 1, []), (28, .istore 6, 2, []), (30, .iload 6, 2, []), (32, .ifCond .eq 20, 3, []), (35, .iload 6, 2, []), (37, .invokestatic 56, 3, [.retAddr 1, .null, .ref 26]), (40, .aload_n 0, 1, []), (41, .getfield 26, 3, [.ref 2]), (44, .invokeinterface 46 1, 5, [.retAddr 1, .ref 1, .ref 24]), (49, .if_icmp .lt 18, 3, []), (67, .iinc 5 1, 3, []), (70, .goto (-53), 3, []), (73, .aload_n 2, 1, []), (74, .invokestatic 71, 3, [.retAddr 1, .null, .ref 27]), (77, .aload_n 2, 1, []), (78, .arraylength, 1, []), (79, .newarray .int, 2, [.ref 2]), (81, .astore_n 3, 1, []), (82, .iconst 0, 1, []), (83, .istore 4, 2, []), (85, .iconst 0, 1, []), (86, .istore 5, 2, []), (88, .aload_n 2, 1, []), (89, .astore 6, 2, []), (91, .aload 6, 2, []), (93, .arraylength, 1, []), (94, .istore 7, 2, []), (96, .iconst 0, 1, []), (97, .istore 8, 2, []), (99, .iload 8, 2, []), (101, .iload 7, 2, []), (103, .if_icmp .ge 73, 3, []), (106, .aload 6, 2, []), (108, .iload 8, 2, []), (110, .iaload, 1, []), (111, .istore 9, 2, []), (113, .iload 5, 2, []), (115, .iload 9, 2, []), (117, .iconst (-1), 1, []), (118, .if_icmp .eq 13, 3, []), (121, .aload_n 2, 1, []), (122, .iload 9, 2, []), (124, .ineg, 1, []), (125, .invokestatic 77, 3, [.retAddr 2, .null, .ref 31]), (128, .ifCond .lt 7, 3, []), (131, .iconst 1, 1, []), (132, .goto 4, 3, []), (135, .iconst 0, 1, []), (136, .ior, 1, []), (137, .istore 5, 2, []), (139, .iload 9, 2, []), (141, .iconst 1, 1, []), (142, .if_icmp .eq 28, 3, []), (145, .iload 4, 2, []), (147, .ifCond .eq 14, 3, []), (150, .aload_n 3, 1, []), (151, .iload 4, 2, []), (153, .iconst 1, 1, []), (154, .isub, 1, []), (155, .iaload, 1, []), (156, .iload 9, 2, []), (158, .if_icmp .eq 12, 3, []), (161, .aload_n 3, 1, []), (162, .iload 4, 2, []), (164, .iload 9, 2, []), (166, .iastore, 1, []), (167, .iinc 4 1, 3, []), (170, .iinc 8 1, 3, []), (173, .goto (-74), 3, []), (176, .iload 5, 2, []), (178, .ifCond .eq 9, 3, []), (181, .iconst (-1), 1, []), (182, .istore 6, 2, []), (184, .goto 40, 3, []), (187, .iload 4, 2, []), (189, .ifCond .ne 9, 3, []), (198, .iload 4, 2, []), (200, .iconst 1, 1, []), (201, .if_icmp .ne 11, 3, []), (212, .aload_n 0, 1, []), (213, .aload_n 3, 1, []), (214, .iload 4, 2, []), (216, .invokestatic 81, 3, [.retAddr 2, .null, .ref 33]), (219, .invokevirtual 85, 3, [.retAddr 2, .ref 0, .ref 34]), (222, .istore 6, 2, []), (224, .iload 6, 2, []), (226, .ireturn, 1, [])]
def en26 : List Ent := [(0, .iload_n 0, 1, []), (1, .ifCond .ge 8, 3, []), (4, .iload_n 0, 1, []), (5, .ineg, 1, []), (6, .goto 4, 3, []), (9, .iload_n 0, 1, []), (10, .ireturn, 1, [])]
def en27 : List Ent := [(0, .aload_n 0, 1, []), (1, .iconst 0, 1, []), (2, .iconst 0, 1, []), (3, .aload_n 0, 1, []), (4, .arraylength, 1, []), (5, .invokestatic 7, 3, [.retAddr 4, .null, .ref 28]), (8, .return_, 1, [])]
def en28 : List Ent := [(0, .iload_n 3, 1, []), (1, .iload_n 2, 1, []), (2, .isub, 1, []), (3, .istore 4, 2, []), (5, .iload_n 1, 1, []), (6, .iconst 1, 1, []), (7, .if_icmp .le 61, 3, []), (68, .aconst_null, 1, []), (69, .aload_n 0, 1, []), (70, .iconst 0, 1, []), (71, .iload_n 2, 1, []), (72, .iload_n 3, 1, []), (73, .invokestatic 26, 3, [.retAddr 5, .null, .ref 29]), (76, .return_, 1, [])]
def en29 : List Ent := [(0, .iload 4, 2, []), (2, .iconst 1, 1, []), (3, .isub, 1, []), (4, .istore 5, 2, []), (6, .iload 4, 2, []), (8, .iload_n 3, 1, []), (9, .isub, 1, []), (10, .istore 6, 2, []), (12, .iload 6, 2, []), (14, .bipush 65, 2, []), (16, .iload_n 2, 1, []), (17, .iadd, 1, []), (18, .if_icmp .ge 28, 3, []), (21, .iload_n 2, 1, []), (22, .iconst 1, 1, []), (23, .iand, 1, []), (24, .ifCond .le 22, 3, []), (46, .iload 6, 2, []), (48, .bipush 44, 2, []), (50, .if_icmp .ge 11, 3, []), (53, .aload_n 1, 1, []), (54, .iload_n 3, 1, []), (55, .iload 4, 2, []), (57, .invokestatic 34, 3, [.retAddr 3, .null, .ref 30]), (60, .return_, 1, [])]
def en30 : List Ent := [(0, .iload_n 1, 1, []), (1, .istore 4, 2, []), (3, .iinc 4 1, 3, []), (6, .iload 4, 2, []), (8, .iload_n 2, 1, []), (9, .if_icmp .ge 58, 3, []), (12, .aload_n 0, 1, []), (13, .iload 4, 2, []), (15, .dup, 1, []), (16, .istore_n 3, 1, []), (17, .iaload, 1, []), (18, .istore 5, 2, []), (20, .iload 5, 2, []), (22, .aload_n 0, 1, []), (23, .iload_n 3, 1, []), (24, .iconst 1, 1, []), (25, .isub, 1, []), (26, .iaload, 1, []), (27, .if_icmp .ge 37, 3, []), (30, .iinc 3 (-1), 3, []), (33, .iload_n 3, 1, []), (34, .iload_n 1, 1, []), (35, .if_icmp .lt 22, 3, []), (38, .iload 5, 2, []), (40, .aload_n 0, 1, []), (41, .iload_n 3, 1, []), (42, .iaload, 1, []), (43, .if_icmp .ge 14, 3, []), (46, .aload_n 0, 1, []), (47, .iload_n 3, 1, []), (48, .iconst 1, 1, []), (49, .iadd, 1, []), (50, .aload_n 0, 1, []), (51, .iload_n 3, 1, []), (52, .iaload, 1, []), (53, .iastore, 1, []), (54, .goto (-24), 3, []), (57, .aload_n 0, 1, []), (58, .iload_n 3, 1, []), (59, .iconst 1, 1, []), (60, .iadd, 1, []), (61, .iload 5, 2, []), (63, .iastore, 1, []), (64, .goto (-61), 3, []), (67, .return_, 1, [])]
def en31 : List Ent := [(0, .aload_n 0, 1, []), (1, .iconst 0, 1, []), (2, .aload_n 0, 1, []), (3, .arraylength, 1, []), (4, .iload_n 1, 1, []), (5, .invokestatic 209, 3, [.retAddr 4, .null, .ref 32]), (8, .ireturn, 1, [])]
def en32 : List Ent := [(0, .iload_n 1, 1, []), (1, .istore 4, 2, []), (3, .iload_n 2, 1, []), (4, .iconst 1, 1, []), (5, .isub, 1, []), (6, .istore 5, 2, []), (8, .iload 4, 2, []), (10, .iload 5, 2, []), (12, .if_icmp .gt 54, 3, []), (15, .iload 4, 2, []), (17, .iload 5, 2, []), (19, .iadd, 1, []), (20, .iconst 1, 1, []), (21, .iushr, 1, []), (22, .istore 6, 2, []), (24, .aload_n 0, 1, []), (25, .iload 6, 2, []), (27, .iaload, 1, []), (28, .istore 7, 2, []), (30, .iload 7, 2, []), (32, .iload_n 3, 1, []), (33, .if_icmp .ge 12, 3, []), (36, .iload 6, 2, []), (38, .iconst 1, 1, []), (39, .iadd, 1, []), (40, .istore 4, 2, []), (42, .goto 21, 3, []), (45, .iload 7, 2, []), (47, .iload_n 3, 1, []), (48, .if_icmp .le 12, 3, []), (51, .iload 6, 2, []), (53, .iconst 1, 1, []), (54, .isub, 1, []), (55, .istore 5, 2, []), (57, .goto 6, 3, []), (60, .iload 6, 2, []), (62, .ireturn, 1, []), (63, .goto (-55), 3, []), (66, .iload 4, 2, []), (68, .iconst 1, 1, []), (69, .iadd, 1, []), (70, .ineg, 1, []), (71, .ireturn, 1, [])]
def en33 : List Ent := [(0, .iload_n 1, 1, []), (1, .aload_n 0, 1, []), (2, .arraylength, 1, []), (3, .if_icmp .ne 11, 3, []), (6, .aload_n 0, 1, []), (7, .invokevirtual 316, 3, [.float 4, .ref 2]), (10, .checkcast 317, 3, [.retAddr 2]), (13, .areturn, 1, [])]
def en34 : List Ent := [(0, .new 120, 3, [.ref 5]), (3, .dup, 1, []), (4, .aload_n 1, 1, []), (5, .invokespecial 122, 3, [.retAddr 2, .int 0, .ref 35]), (8, .astore_n 2, 1, []), (9, .aload_n 0, 1, []), (10, .getfield 38, 3, [.ref 4]), (13, .aload_n 2, 1, []), (14, .invokeinterface 124 2, 5, [.retAddr 2, .ref 4, .ref 37]), (19, .checkcast 129, 3, []), (22, .astore_n 3, 1, []), (23, .aload_n 3, 1, []), (24, .ifnonnull 55, 3, []), (27, .aload_n 0, 1, []), (28, .getfield 26, 3, [.ref 2]), (31, .iconst 0, 1, []), (32, .invokestatic 11, 3, [.retAddr 1, .null, .ref 2]), (35, .invokeinterface 42 2, 5, [.retAddr 2, .ref 1, .ref 17]), (40, .pop, 1, []), (41, .aload_n 0, 1, []), (42, .getfield 32, 3, [.ref 3]), (45, .aload_n 1, 1, []), (46, .invokeinterface 42 2, 5, [.retAddr 2, .ref 1, .ref 17]), (51, .pop, 1, []), (52, .aload_n 0, 1, []), (53, .getfield 26, 3, [.ref 2]), (56, .invokeinterface 46 1, 5, [.retAddr 1, .ref 1, .ref 24]), (61, .iconst 1, 1, []), (62, .isub, 1, []), (63, .invokestatic 131, 3, [.retAddr 1, .null, .ref 39]), (66, .astore_n 3, 1, []), (67, .aload_n 0, 1, []), (68, .getfield 38, 3, [.ref 4]), (71, .aload_n 2, 1, []), (72, .aload_n 3, 1, []), (73, .invokeinterface 134 3, 5, [.retAddr 3, .ref 4, .ref 40]), (78, .pop, 1, []), (79, .aload_n 3, 1, []), (80, .invokevirtual 138, 3, [.retAddr 1, .ref 7, .ref 51]), (83, .ireturn, 1, [])]
def en35 : List Ent := [(0, .aload_n 0, 1, []), (1, .invokespecial 1, 3, [.retAddr 1, .int 0, .ref 36]), (4, .aload_n 0, 1, []), (5, .aload_n 1, 1, []), (6, .putfield 7, 3, [.ref 15, .ref 5]), (9, .return_, 1, [])]
def en36 : List Ent := [(0, .aload_n 0, 1, []), (1, .invokespecial 1, 3, [.long 3]), (4, .return_, 1, [])]
def en37 : List Ent := [(0, .aload_n 0, 1, []), (1, .aload_n 1, 1, []), (2, .invokevirtual 158, 3, [.retAddr 2, .ref 4, .ref 38]), (5, .dup, 1, []), (6, .astore_n 2, 1, []), (7, .ifnonnull 7, 3, []), (10, .aconst_null, 1, []), (11, .goto 7, 3, []), (18, .areturn, 1, [])]
def en38 : List Ent := [(0, .aload_n 0, 1, []), (1, .getfield 105, 3, [.ref 11]), (4, .dup, 1, []), (5, .astore_n 2, 1, []), (6, .ifnull 142, 3, []), (148, .aconst_null, 1, []), (149, .areturn, 1, [])]
def en39 : List Ent := [(0, .iload_n 0, 1, []), (1, .bipush (-128), 2, []), (3, .if_icmp .lt 20, 3, []), (6, .iload_n 0, 1, []), (7, .getstatic 191, 3, [.ref 3]), (10, .if_icmp .gt 13, 3, []), (13, .getstatic 195, 3, [.ref 4]), (16, .iload_n 0, 1, []), (17, .sipush 128, 3, []), (20, .iadd, 1, []), (21, .aaload, 1, []), (22, .areturn, 1, [])]
def en40 : List Ent := [(0, .aload_n 0, 1, []), (1, .aload_n 1, 1, []), (2, .invokestatic 149, 3, [.retAddr 1, .null, .ref 41]), (5, .aload_n 1, 1, []), (6, .aload_n 2, 1, []), (7, .iconst 0, 1, []), (8, .iconst 1, 1, []), (9, .invokevirtual 152, 3, [.retAddr 6, .ref 4, .ref 46]), (12, .areturn, 1, [])]
def en41 : List Ent := [(0, .aload_n 0, 1, []), (1, .ifnonnull 7, 3, []), (8, .aload_n 0, 1, []), (9, .invokevirtual 1, 3, [.retAddr 1, .ref 5, .ref 42]), (12, .dup, 1, []), (13, .istore_n 1, 1, []), (14, .iload_n 1, 1, []), (15, .bipush 16, 2, []), (17, .iushr, 1, []), (18, .ixor, 1, []), (19, .ireturn, 1, [])]
def en42 : List Ent := [(0, .aload_n 0, 1, []), (1, .getfield 7, 3, [.ref 15]), (4, .invokestatic 19, 3, [.retAddr 1, .null, .ref 43]), (7, .ireturn, 1, [])]
def en43 : List Ent := [(0, .aload_n 0, 1, []), (1, .ifnonnull 5, 3, []), (6, .aload_n 0, 1, []), (7, .arraylength, 1, []), (8, .lookupswitch 41 #[(0, 28), (1, 32)], 28, []), (49, .aload_n 0, 1, []), (50, .iconst 0, 1, []), (51, .aload_n 0, 1, []), (52, .arraylength, 1, []), (53, .iconst 1, 1, []), (54, .bipush 10, 2, []), (56, .invokestatic 379, 3, [.retAddr 5, .null, .ref 44]), (59, .ireturn, 1, [])]
def en44 : List Ent := [(0, .iload 4, 2, []), (2, .tableswitch 127 4 10 #[42, 55, 127, 127, 88, 101, 114], 42, []), (116, .iload_n 3, 1, []), (117, .aload_n 0, 1, []), (118, .checkcast 82, 3, [.retAddr 2]), (121, .iload_n 1, 1, []), (122, .iload_n 2, 1, []), (123, .invokestatic 84, 3, [.retAddr 4, .null, .ref 45]), (126, .goto 31, 3, []), (157, .ireturn, 1, [])]
def en45 : List Ent := [(0, .iload_n 2, 1, []), (1, .iload_n 3, 1, []), (2, .iadd, 1, []), (3, .istore 4, 2, []), (5, .iload_n 2, 1, []), (6, .istore 5, 2, []), (8, .iload 5, 2, []), (10, .iload 4, 2, []), (12, .if_icmp .ge 19, 3, []), (15, .bipush 31, 2, []), (17, .iload_n 0, 1, []), (18, .imul, 1, []), (19, .aload_n 1, 1, []), (20, .iload 5, 2, []), (22, .iaload, 1, []), (23, .iadd, 1, []), (24, .istore_n 0, 1, []), (25, .iinc 5 1, 3, []), (28, .goto (-20), 3, []), (31, .iload_n 0, 1, []), (32, .ireturn, 1, [])]
def en46 : List Ent := [(0, .aload_n 0, 1, []), (1, .getfield 105, 3, [.ref 11]), (4, .dup, 1, []), (5, .astore 6, 2, []), (7, .ifnull 12, 3, []), (19, .aload_n 0, 1, []), (20, .invokevirtual 117, 3, [.retAddr 1, .ref 4, .ref 47]), (23, .dup, 1, []), (24, .astore 6, 2, []), (26, .arraylength, 1, []), (27, .istore 8, 2, []), (29, .aload 6, 2, []), (31, .iload 8, 2, []), (33, .iconst 1, 1, []), (34, .isub, 1, []), (35, .iload_n 1, 1, []), (36, .iand, 1, []), (37, .dup, 1, []), (38, .istore 9, 2, []), (40, .aaload, 1, []), (41, .dup, 1, []), (42, .astore 7, 2, []), (44, .ifnonnull 19, 3, []), (47, .aload 6, 2, []), (49, .iload 9, 2, []), (51, .aload_n 0, 1, []), (52, .iload_n 1, 1, []), (53, .aload_n 2, 1, []), (54, .aload_n 3, 1, []), (55, .aconst_null, 1, []), (56, .invokevirtual 186, 3, [.retAddr 5, .ref 4, .ref 48]), (59, .aastore, 1, []), (60, .goto 199, 3, []), (259, .aload_n 0, 1, []), (260, .dup, 1, []), (261, .getfield 202, 3, [.ref 13]), (264, .iconst 1, 1, []), (265, .iadd, 1, []), (266, .putfield 202, 3, [.ref 13, .ref 4]), (269, .aload_n 0, 1, []), (270, .dup, 1, []), (271, .getfield 156, 3, [.ref 14]), (274, .iconst 1, 1, []), (275, .iadd, 1, []), (276, .dup_x1, 1, []), (277, .putfield 156, 3, [.ref 14, .ref 4]), (280, .aload_n 0, 1, []), (281, .getfield 88, 3, [.ref 12]), (284, .if_icmp .le 8, 3, []), (292, .aload_n 0, 1, []), (293, .iload 5, 2, []), (295, .invokevirtual 205, 3, [.retAddr 2, .ref 4, .ref 50]), (298, .aconst_null, 1, []), (299, .areturn, 1, [])]
def en47 : List Ent := [(0, .aload_n 0, 1, []), (1, .getfield 105, 3, [.ref 11]), (4, .astore_n 1, 1, []), (5, .aload_n 1, 1, []), (6, .ifnonnull 7, 3, []), (9, .iconst 0, 1, []), (10, .goto 5, 3, []), (15, .istore_n 2, 1, []), (16, .aload_n 0, 1, []), (17, .getfield 88, 3, [.ref 12]), (20, .istore_n 3, 1, []), (21, .iconst 0, 1, []), (22, .istore 5, 2, []), (24, .iload_n 2, 1, []), (25, .ifCond .le 42, 3, []), (67, .iload_n 3, 1, []), (68, .ifCond .le 9, 3, []), (77, .bipush 16, 2, []), (79, .istore 4, 2, []), (81, .bipush 12, 2, []), (83, .istore 5, 2, []), (85, .iload 5, 2, []), (87, .ifCond .ne 38, 3, []), (125, .aload_n 0, 1, []), (126, .iload 5, 2, []), (128, .putfield 88, 3, [.ref 12, .ref 4]), (131, .iload 4, 2, []), (133, .anewarray 163, 3, [.ref 3]), (136, .astore 6, 2, []), (138, .aload_n 0, 1, []), (139, .aload 6, 2, []), (141, .putfield 105, 3, [.ref 11, .ref 4]), (144, .aload_n 1, 1, []), (145, .ifnull 208, 3, []), (353, .aload 6, 2, []), (355, .areturn, 1, [])]
def en48 : List Ent := [(0, .new 163, 3, [.ref 6]), (3, .dup, 1, []), (4, .iload_n 1, 1, []), (5, .aload_n 2, 1, []), (6, .aload_n 3, 1, []), (7, .aload 4, 2, []), (9, .invokespecial 375, 3, [.retAddr 5, .int 0, .ref 49]), (12, .areturn, 1, [])]
def en49 : List Ent := [(0, .aload_n 0, 1, []), (1, .invokespecial 1, 3, [.long 3]), (4, .aload_n 0, 1, []), (5, .iload_n 1, 1, []), (6, .putfield 7, 3, [.ref 16, .ref 6]), (9, .aload_n 0, 1, []), (10, .aload_n 2, 1, []), (11, .putfield 13, 3, [.ref 17, .ref 6]), (14, .aload_n 0, 1, []), (15, .aload_n 3, 1, []), (16, .putfield 17, 3, [.ref 18, .ref 6]), (19, .aload_n 0, 1, []), (20, .aload 4, 2, []), (22, .putfield 20, 3, [.ref 19, .ref 6]), (25, .return_, 1, [])]
def en50 : List Ent := [(0, .return_, 1, [])]
def en51 : List Ent := [(0, .aload_n 0, 1, []), (1, .getfield 205, 3, [.ref 1]), (4, .ireturn, 1, [])]
def en52 : List Ent := [(0, .aload_n 0, 1, []), (1, .getfield 26, 3, [.ref 2]), (4, .invokeinterface 46 1, 5, [.retAddr 1, .ref 1, .ref 24]), (9, .newarray .boolean, 2, [.ref 4]), (11, .astore_n 1, 1, []), (12, .aload_n 0, 1, []), (13, .getfield 26, 3, [.ref 2]), (16, .invokeinterface 46 1, 5, [.retAddr 1, .ref 1, .ref 24]), (21, .iconst 1, 1, []), (22, .iadd, 1, []), (23, .newarray .int, 2, [.ref 2]), (25, .astore_n 2, 1, []), (26, .iconst 0, 1, []), (27, .istore_n 3, 1, []), (28, .iconst 0, 1, []), (29, .istore 4, 2, []), (31, .iload 4, 2, []), (33, .aload_n 0, 1, []), (34, .getfield 26, 3, [.ref 2]), (37, .invokeinterface 46 1, 5, [.retAddr 1, .ref 1, .ref 24]), (42, .if_icmp .ge 53, 3, []), (45, .aload_n 1, 1, []), (46, .iload 4, 2, []), (48, .aload_n 0, 1, []), (49, .getfield 26, 3, [.ref 2]), (52, .iload 4, 2, []), (54, .invokeinterface 103 2, 5, [.retAddr 2, .ref 1, .ref 53]), (59, .checkcast 12, 3, [.ref 3]), (62, .invokevirtual 107, 3, [.retAddr 1, .ref 3, .ref 57]), (65, .bastore, 1, []), (66, .aload_n 2, 1, []), (67, .iload 4, 2, []), (69, .iload_n 3, 1, []), (70, .iastore, 1, []), (71, .iload_n 3, 1, []), (72, .aload_n 0, 1, []), (73, .getfield 32, 3, [.ref 3]), (76, .iload 4, 2, []), (78, .invokeinterface 103 2, 5, [.retAddr 2, .ref 1, .ref 53]), (83, .checkcast 51, 3, [.retAddr 2]), (86, .arraylength, 1, []), (87, .iadd, 1, []), (88, .istore_n 3, 1, []), (89, .iinc 4 1, 3, []), (92, .goto (-61), 3, []), (95, .aload_n 2, 1, []), (96, .aload_n 0, 1, []), (97, .getfield 26, 3, [.ref 2]), (100, .invokeinterface 46 1, 5, [.retAddr 1, .ref 1, .ref 24]), (105, .iload_n 3, 1, []), (106, .iastore, 1, []), (107, .iload_n 3, 1, []), (108, .newarray .int, 2, [.ref 2]), (110, .astore 4, 2, []), (112, .iconst 0, 1, []), (113, .istore 5, 2, []), (115, .iload 5, 2, []), (117, .aload_n 0, 1, []), (118, .getfield 26, 3, [.ref 2]), (121, .invokeinterface 46 1, 5, [.retAddr 1, .ref 1, .ref 24]), (126, .if_icmp .ge 40, 3, []), (129, .aload_n 0, 1, []), (130, .getfield 32, 3, [.ref 3]), (133, .iload 5, 2, []), (135, .invokeinterface 103 2, 5, [.retAddr 2, .ref 1, .ref 53]), (140, .checkcast 51, 3, [.retAddr 2]), (143, .astore 6, 2, []), (145, .aload 6, 2, []), (147, .iconst 0, 1, []), (148, .aload 4, 2, []), (150, .aload_n 2, 1, []), (151, .iload 5, 2, []), (153, .iaload, 1, []), (154, .aload 6, 2, []), (156, .arraylength, 1, []), (157, .invokestatic 111, 3, [.long 1]), (160, .iinc 5 1, 3, []), (163, .goto (-48), 3, []), (166, .new 1, 3, [.ref 8]), (169, .dup, 1, []), (170, .aload_n 1, 1, []), (171, .aload_n 2, 1, []), (172, .aload 4, 2, []), (174, .invokespecial 117, 3, [.retAddr 4, .int 0, .ref 58]), (177, .areturn, 1, [])]
def en53 : List Ent := [(0, .iload_n 1, 1, []), (1, .aload_n 0, 1, []), (2, .getfield 48, 3, [.ref 6]), (5, .invokestatic 118, 3, [.retAddr 2, .null, .ref 54]), (8, .pop, 1, []), (9, .aload_n 0, 1, []), (10, .iload_n 1, 1, []), (11, .invokevirtual 123, 3, [.retAddr 2, .ref 1, .ref 56]), (14, .areturn, 1, [])]
def en54 : List Ent := [(0, .iload_n 0, 1, []), (1, .iload_n 1, 1, []), (2, .aconst_null, 1, []), (3, .invokestatic 105, 3, [.retAddr 3, .null, .ref 55]), (6, .ireturn, 1, [])]
def en55 : List Ent := [(0, .iload_n 0, 1, []), (1, .ifCond .lt 8, 3, []), (4, .iload_n 0, 1, []), (5, .iload_n 1, 1, []), (6, .if_icmp .lt 10, 3, []), (16, .iload_n 0, 1, []), (17, .ireturn, 1, [])]
def en56 : List Ent := [(0, .aload_n 0, 1, []), (1, .getfield 9, 3, [.ref 7]), (4, .iload_n 1, 1, []), (5, .aaload, 1, []), (6, .areturn, 1, [])]
def en57 : List Ent := [(0, .aload_n 0, 1, []), (1, .getfield 7, 3, [.ref 0]), (4, .ireturn, 1, [])]
def en58 : List Ent := [(0, .aload_n 0, 1, []), (1, .invokespecial 1, 3, [.long 3]), (4, .aload_n 0, 1, []), (5, .aload_n 1, 1, []), (6, .putfield 7, 3, [.ref 20, .ref 8]), (9, .aload_n 0, 1, []), (10, .aload_n 2, 1, []), (11, .putfield 13, 3, [.ref 21, .ref 8]), (14, .aload_n 0, 1, []), (15, .aload_n 3, 1, []), (16, .putfield 17, 3, [.ref 22, .ref 8]), (19, .return_, 1, [])]
def en59 : List Ent := [(0, .aload_n 0, 1, []), (1, .getfield 7, 3, [.ref 20]), (4, .arraylength, 1, []), (5, .iconst 1, 1, []), (6, .isub, 1, []), (7, .ireturn, 1, [])]
def en60 : List Ent := [(0, .aload_n 0, 1, []), (1, .getfield 7, 3, [.ref 20]), (4, .iload_n 1, 1, []), (5, .baload, 1, []), (6, .ireturn, 1, [])]
def en61 : List Ent := [(0, .aload_n 0, 1, []), (1, .getfield 13, 3, [.ref 21]), (4, .iload_n 1, 1, []), (5, .iconst 1, 1, []), (6, .iadd, 1, []), (7, .iaload, 1, []), (8, .aload_n 0, 1, []), (9, .getfield 13, 3, [.ref 21]), (12, .iload_n 1, 1, []), (13, .iaload, 1, []), (14, .isub, 1, []), (15, .ireturn, 1, [])]
def pms : List Met := [(x, code, maxLocals, ret, en0),
  ((⟨"com/example/meerkat/meerkat/model/Circuit$Builder", "<init>", "()V"⟩ : MethodName), prog_21_method_1_code, 1, none, en1),
  ((⟨"java/lang/Boolean", "valueOf", "(Z)Ljava/lang/Boolean;"⟩ : MethodName), jdk_2055_method_5_code, 1, some (.object "java/lang/Boolean"), en2),
  ((⟨"java/util/List", "of", "(Ljava/lang/Object;Ljava/lang/Object;)Ljava/util/List;"⟩ : MethodName), jdk_40_method_38_code, 2, some (.object "java/util/List"), en3),
  ((⟨"java/util/ImmutableCollections$List12", "<init>", "(Ljava/lang/Object;Ljava/lang/Object;)V"⟩ : MethodName), jdk_44_method_2_code, 3, none, en4),
  ((⟨"java/util/ImmutableCollections$AbstractImmutableList", "<init>", "()V"⟩ : MethodName), jdk_46_method_1_code, 1, none, en5),
  ((⟨"java/util/ImmutableCollections$AbstractImmutableCollection", "<init>", "()V"⟩ : MethodName), jdk_47_method_1_code, 1, none, en6),
  ((⟨"java/util/AbstractCollection", "<init>", "()V"⟩ : MethodName), jdk_22_method_1_code, 1, none, en7),
  ((⟨"java/util/Objects", "requireNonNull", "(Ljava/lang/Object;)Ljava/lang/Object;"⟩ : MethodName), jdk_31_method_10_code, 1, some (.object "java/lang/Object"), en8),
  ((⟨"java/util/ArrayList", "<init>", "(Ljava/util/Collection;)V"⟩ : MethodName), jdk_38_method_3_code, 3, none, en9),
  ((⟨"java/util/AbstractList", "<init>", "()V"⟩ : MethodName), jdk_39_method_1_code, 1, none, en10),
  ((⟨"java/util/ImmutableCollections$List12", "toArray", "()[Ljava/lang/Object;"⟩ : MethodName), jdk_44_method_10_code, 1, some (.array (.object "java/lang/Object")), en11),
  ((⟨"java/util/Arrays", "copyOf", "([Ljava/lang/Object;ILjava/lang/Class;)[Ljava/lang/Object;"⟩ : MethodName), jdk_65_method_120_code, 4, some (.array (.object "java/lang/Object")), en12),
  ((⟨"java/lang/Math", "min", "(II)I"⟩ : MethodName), jdk_29_method_69_code, 2, some .int, en13),
  ((⟨"java/util/HashMap", "<init>", "()V"⟩ : MethodName), jdk_69_method_7_code, 1, none, en14),
  ((⟨"java/util/AbstractMap", "<init>", "()V"⟩ : MethodName), jdk_71_method_1_code, 1, none, en15),
  ((⟨"com/example/meerkat/meerkat/model/Circuit$Builder", "input", "()I"⟩ : MethodName), prog_21_method_2_code, 1, some .int, en16),
  ((⟨"java/util/ArrayList", "add", "(Ljava/lang/Object;)Z"⟩ : MethodName), jdk_38_method_25_code, 2, some .boolean, en17),
  ((⟨"java/util/ArrayList", "add", "(Ljava/lang/Object;[Ljava/lang/Object;I)V"⟩ : MethodName), jdk_38_method_24_code, 4, none, en18),
  ((⟨"java/util/ArrayList", "grow", "()[Ljava/lang/Object;"⟩ : MethodName), jdk_38_method_7_code, 1, some (.array (.object "java/lang/Object")), en19),
  ((⟨"java/util/ArrayList", "grow", "(I)[Ljava/lang/Object;"⟩ : MethodName), jdk_38_method_6_code, 4, some (.array (.object "java/lang/Object")), en20),
  ((⟨"jdk/internal/util/ArraysSupport", "newLength", "(III)I"⟩ : MethodName), jdk_48_method_27_code, 4, some .int, en21),
  ((⟨"java/lang/Math", "max", "(II)I"⟩ : MethodName), jdk_29_method_65_code, 2, some .int, en22),
  ((⟨"java/util/Arrays", "copyOf", "([Ljava/lang/Object;I)[Ljava/lang/Object;"⟩ : MethodName), jdk_65_method_119_code, 2, some (.array (.object "java/lang/Object")), en23),
  ((⟨"java/util/ArrayList", "size", "()I"⟩ : MethodName), jdk_38_method_8_code, 1, some .int, en24),
  ((⟨"com/example/meerkat/meerkat/model/Circuit$Builder", "and", "([I)I"⟩ : MethodName), prog_21_method_3_code, 10, some .int, en25),
  ((⟨"java/lang/Math", "abs", "(I)I"⟩ : MethodName), jdk_29_method_59_code, 1, some .int, en26),
  ((⟨"java/util/Arrays", "sort", "([I)V"⟩ : MethodName), jdk_65_method_2_code, 1, none, en27),
  ((⟨"java/util/DualPivotQuicksort", "sort", "([IIII)V"⟩ : MethodName), jdk_2529_method_3_code, 7, none, en28),
  ((⟨"java/util/DualPivotQuicksort", "sort", "(Ljava/util/DualPivotQuicksort$Sorter;[IIII)V"⟩ : MethodName), jdk_2529_method_4_code, 21, none, en29),
  ((⟨"java/util/DualPivotQuicksort", "insertionSort", "([III)V"⟩ : MethodName), jdk_2529_method_6_code, 6, none, en30),
  ((⟨"java/util/Arrays", "binarySearch", "([II)I"⟩ : MethodName), jdk_65_method_57_code, 2, some .int, en31),
  ((⟨"java/util/Arrays", "binarySearch0", "([IIII)I"⟩ : MethodName), jdk_65_method_59_code, 8, some .int, en32),
  ((⟨"java/util/Arrays", "copyOf", "([II)[I"⟩ : MethodName), jdk_65_method_123_code, 3, some (.array .int), en33),
  ((⟨"com/example/meerkat/meerkat/model/Circuit$Builder", "gate", "([I)I"⟩ : MethodName), prog_21_method_10_code, 4, some .int, en34),
  ((⟨"com/example/meerkat/meerkat/model/Circuit$Gate", "<init>", "([I)V"⟩ : MethodName), prog_23_method_1_code, 2, none, en35),
  ((⟨"java/lang/Record", "<init>", "()V"⟩ : MethodName), jdk_30_method_1_code, 1, none, en36),
  ((⟨"java/util/HashMap", "get", "(Ljava/lang/Object;)Ljava/lang/Object;"⟩ : MethodName), jdk_69_method_12_code, 3, some (.object "java/lang/Object"), en37),
  ((⟨"java/util/HashMap", "getNode", "(Ljava/lang/Object;)Ljava/util/HashMap$Node;"⟩ : MethodName), jdk_69_method_13_code, 8, some (.object "java/util/HashMap$Node"), en38),
  ((⟨"java/lang/Integer", "valueOf", "(I)Ljava/lang/Integer;"⟩ : MethodName), jdk_33_method_22_code, 1, some (.object "java/lang/Integer"), en39),
  ((⟨"java/util/HashMap", "put", "(Ljava/lang/Object;Ljava/lang/Object;)Ljava/lang/Object;"⟩ : MethodName), jdk_69_method_15_code, 3, some (.object "java/lang/Object"), en40),
  ((⟨"java/util/HashMap", "hash", "(Ljava/lang/Object;)I"⟩ : MethodName), jdk_69_method_1_code, 2, some .int, en41),
  ((⟨"com/example/meerkat/meerkat/model/Circuit$Gate", "hashCode", "()I"⟩ : MethodName), prog_23_method_3_code, 1, some .int, en42),
  ((⟨"java/util/Arrays", "hashCode", "([I)I"⟩ : MethodName), jdk_65_method_150_code, 1, some .int, en43),
  ((⟨"jdk/internal/util/ArraysSupport", "vectorizedHashCode", "(Ljava/lang/Object;IIII)I"⟩ : MethodName), jdk_48_method_4_code, 5, some .int, en44),
  ((⟨"jdk/internal/util/ArraysSupport", "hashCode", "(I[III)I"⟩ : MethodName), jdk_48_method_9_code, 6, some .int, en45),
  ((⟨"java/util/HashMap", "putVal", "(ILjava/lang/Object;Ljava/lang/Object;ZZ)Ljava/lang/Object;"⟩ : MethodName), jdk_69_method_16_code, 13, some (.object "java/lang/Object"), en46),
  ((⟨"java/util/HashMap", "resize", "()[Ljava/util/HashMap$Node;"⟩ : MethodName), jdk_69_method_17_code, 14, some (.array (.object "java/util/HashMap$Node")), en47),
  ((⟨"java/util/HashMap", "newNode", "(ILjava/lang/Object;Ljava/lang/Object;Ljava/util/HashMap$Node;)Ljava/util/HashMap$Node;"⟩ : MethodName), jdk_69_method_46_code, 5, some (.object "java/util/HashMap$Node"), en48),
  ((⟨"java/util/HashMap$Node", "<init>", "(ILjava/lang/Object;Ljava/lang/Object;Ljava/util/HashMap$Node;)V"⟩ : MethodName), jdk_70_method_1_code, 5, none, en49),
  ((⟨"java/util/HashMap", "afterNodeInsertion", "(Z)V"⟩ : MethodName), jdk_69_method_52_code, 2, none, en50),
  ((⟨"java/lang/Integer", "intValue", "()I"⟩ : MethodName), jdk_33_method_27_code, 1, some .int, en51),
  ((⟨"com/example/meerkat/meerkat/model/Circuit$Builder", "build", "()Lcom/example/meerkat/meerkat/model/Circuit;"⟩ : MethodName), prog_21_method_9_code, 7, some (.object "com/example/meerkat/meerkat/model/Circuit"), en52),
  ((⟨"java/util/ArrayList", "get", "(I)Ljava/lang/Object;"⟩ : MethodName), jdk_38_method_20_code, 2, some (.object "java/lang/Object"), en53),
  ((⟨"java/util/Objects", "checkIndex", "(II)I"⟩ : MethodName), jdk_31_method_17_code, 2, some .int, en54),
  ((⟨"jdk/internal/util/Preconditions", "checkIndex", "(IILjava/util/function/BiFunction;)I"⟩ : MethodName), jdk_41_method_11_code, 3, some .int, en55),
  ((⟨"java/util/ArrayList", "elementData", "(I)Ljava/lang/Object;"⟩ : MethodName), jdk_38_method_18_code, 2, some (.object "java/lang/Object"), en56),
  ((⟨"java/lang/Boolean", "booleanValue", "()Z"⟩ : MethodName), jdk_2055_method_4_code, 1, some .boolean, en57),
  ((⟨"com/example/meerkat/meerkat/model/Circuit", "<init>", "([Z[I[I)V"⟩ : MethodName), prog_20_method_1_code, 4, none, en58),
  ((⟨"com/example/meerkat/meerkat/model/Circuit", "nodeCount", "()I"⟩ : MethodName), prog_20_method_2_code, 1, some .int, en59),
  ((⟨"com/example/meerkat/meerkat/model/Circuit", "isInput", "(I)Z"⟩ : MethodName), prog_20_method_3_code, 2, some .boolean, en60),
  ((⟨"com/example/meerkat/meerkat/model/Circuit", "childCount", "(I)I"⟩ : MethodName), prog_20_method_4_code, 2, some .int, en61)]
def pcs : List Cla := [("com/example/meerkat/meerkat/model/Circuit$Builder", 3, [2, 3, 4]), ("java/util/ArrayList", 3, [5, 6, 7]), ("java/util/ImmutableCollections$List12", 2, [8, 9]), ("java/lang/Boolean", 1000, [0]), ("java/util/HashMap", 8, [10, 11, 12, 13, 14]), ("com/example/meerkat/meerkat/model/Circuit$Gate", 1, [15]), ("java/util/HashMap$Node", 4, [16, 17, 18, 19]), ("java/lang/Integer", 1000, [1]), ("com/example/meerkat/meerkat/model/Circuit", 3, [20, 21, 22]), ("java/lang/Object", 1000, [])]
def pfs : List Fie := [("java/lang/Boolean", "value", "Z", .boolean), ("java/lang/Integer", "value", "I", .int), ("com/example/meerkat/meerkat/model/Circuit$Builder", "input", "Ljava/util/List;", (.object "java/util/List")), ("com/example/meerkat/meerkat/model/Circuit$Builder", "gates", "Ljava/util/List;", (.object "java/util/List")), ("com/example/meerkat/meerkat/model/Circuit$Builder", "made", "Ljava/util/Map;", (.object "java/util/Map")), ("java/util/AbstractList", "modCount", "I", .int), ("java/util/ArrayList", "size", "I", .int), ("java/util/ArrayList", "elementData", "[Ljava/lang/Object;", (.array (.object "java/lang/Object"))), ("java/util/ImmutableCollections$List12", "e0", "Ljava/lang/Object;", (.object "java/lang/Object")), ("java/util/ImmutableCollections$List12", "e1", "Ljava/lang/Object;", (.object "java/lang/Object")), ("java/util/HashMap", "loadFactor", "F", .float), ("java/util/HashMap", "table", "[Ljava/util/HashMap$Node;", (.array (.object "java/util/HashMap$Node"))), ("java/util/HashMap", "threshold", "I", .int), ("java/util/HashMap", "modCount", "I", .int), ("java/util/HashMap", "size", "I", .int), ("com/example/meerkat/meerkat/model/Circuit$Gate", "literals", "[I", (.array .int)), ("java/util/HashMap$Node", "hash", "I", .int), ("java/util/HashMap$Node", "key", "Ljava/lang/Object;", (.object "java/lang/Object")), ("java/util/HashMap$Node", "value", "Ljava/lang/Object;", (.object "java/lang/Object")), ("java/util/HashMap$Node", "next", "Ljava/util/HashMap$Node;", (.object "java/util/HashMap$Node")), ("com/example/meerkat/meerkat/model/Circuit", "input", "[Z", (.array .boolean)), ("com/example/meerkat/meerkat/model/Circuit", "firstChild", "[I", (.array .int)), ("com/example/meerkat/meerkat/model/Circuit", "children", "[I", (.array .int))]
def pay : List Ary := [(.object "java/lang/Integer", "[Ljava/lang/Integer;", 256, 132), (.object "java/lang/Object", "[Ljava/lang/Object;", 0, 0), (.int, "[I", 0, 0), (.object "java/util/HashMap$Node", "[Ljava/util/HashMap$Node;", 0, 0), (.boolean, "[Z", 0, 0)]
def pss : List Stc := [("java/lang/Boolean", "FALSE", "Ljava/lang/Boolean;", .ref 0), ("java/lang/Boolean", "TRUE", "Ljava/lang/Boolean;", .ref 1), ("java/util/ImmutableCollections", "EMPTY", "Ljava/lang/Object;", .ref 2), ("java/lang/Integer$IntegerCache", "high", "I", .int 127), ("java/lang/Integer$IntegerCache", "cache", "[Ljava/lang/Integer;", .ref 3)]
def pkt : List (Value × Nat) := [(.ref 3, 1), (.retAddr 2, 1), (.ref 6, 3)]
def pdn : List (Nat × Nat) := [(0, 2), (5, 6)]
def pg : Pg := (pms, pcs, pfs, pay, pss, pkt, pdn, 8)
set_option maxRecDepth 65536 in
theorem pg_chk : chk pg = true := by decide +kernel
set_option maxRecDepth 65536 in
theorem gd0 {Z : State} {a0 : Array Value} {ρ0 : Nat → Nat} (hw : ∀ d ∈ tables_1, d.before a0 Z = true) (hr0 : ∀ d ∈ jdkStatics_1, d.before a0 Z = true) (M0 : MI Z "java/util/ImmutableCollections$List12" (ρ0 5)) (M1 : MI Z "java/util/ArrayList" (ρ0 6)) (M2 : MI Z "[Ljava/lang/Object;" (ρ0 7)) : ∀ en ∈ en0, Good pg Z a0 ρ0 x en :=
  (av_c ⟨_, rfl, (wz hw 0 rfl)⟩
  (av_c trivial
  (av_c (ga_c ⟨_, rfl, (c_i rfl (wz hw 3 rfl) (wz hw 4 rfl) (wz hw 5 rfl) (by decide) pd_1 rfl)⟩ ga_n)
  (av_c trivial
  (av_c trivial
  (av_c (ga_c ⟨_, rfl, (c_v (wz hw 136 rfl) (wz hw 137 rfl) (wz hw 139 rfl) (wz hw 138 rfl) (by decide) pd_14 rfl)⟩ ga_n)
  (av_c trivial
  (av_c trivial
  (av_c (ga_c ⟨_, rfl, (c_v (wz hw 136 rfl) (wz hw 137 rfl) (wz hw 139 rfl) (wz hw 138 rfl) (by decide) pd_14 rfl)⟩ ga_n)
  (av_c trivial
  (av_c trivial
  (av_c (g_ldcI (wz hw 190 rfl))
  (av_c trivial
  (av_c trivial
  (av_c trivial
  (av_c trivial
  (av_c trivial
  (av_c trivial
  (av_c trivial
  (av_c trivial
  (av_c trivial
  (av_c trivial
  (av_c trivial
  (av_c trivial
  (av_c trivial
  (av_c trivial
  (av_c trivial
  (av_c trivial
  (av_c trivial
  (av_c trivial
  (av_c trivial
  (av_c trivial
  (av_c trivial
  (av_c trivial
  (av_c trivial
  (av_c trivial
  (av_c trivial
  (av_c trivial
  (av_c trivial
  (av_c trivial
  (av_c trivial
  (av_c ⟨_, rfl, rfl, rfl, rfl, (fun _ z => nomatch z), rfl, (wz hw 114 rfl)⟩
  (av_c trivial
  (av_c trivial
  (av_c trivial
  (av_c trivial
  (av_c trivial
  (av_c trivial
  (av_c trivial
  (av_c trivial
  (av_c (ga_c ⟨_, rfl, (c_v (wz hw 257 rfl) (wz hw 258 rfl) (wz hw 260 rfl) (wz hw 259 rfl) (by decide) pd_27 rfl)⟩ ga_n)
  (av_c trivial
  (av_c trivial
  (av_c trivial
  (av_c trivial
  (av_c trivial
  (av_c trivial
  (av_c trivial
  (av_c trivial
  (av_c trivial
  (av_c ⟨_, rfl, rfl, rfl, rfl, (fun _ z => nomatch z), rfl, (wz hw 114 rfl)⟩
  (av_c trivial
  (av_c trivial
  (av_c trivial
  (av_c trivial
  (av_c trivial
  (av_c trivial
  (av_c trivial
  (av_c trivial
  (av_c trivial
  (av_c (ga_c ⟨_, rfl, (c_v (wz hw 257 rfl) (wz hw 258 rfl) (wz hw 260 rfl) (wz hw 259 rfl) (by decide) pd_27 rfl)⟩ ga_n)
  (av_c trivial
  (av_c trivial
  (av_c (ga_c ⟨_, rfl, (c_v (wz hw 136 rfl) (wz hw 137 rfl) (wz hw 139 rfl) (wz hw 138 rfl) (by decide) pd_14 rfl)⟩ ga_n)
  (av_c trivial
  (av_c trivial
  (av_c (ga_c ⟨_, rfl, (c_v (wz hw 191 rfl) (wz hw 192 rfl) (wz hw 194 rfl) (wz hw 193 rfl) (by decide) pd_39 rfl)⟩ ga_n)
  (av_c trivial
  (av_c trivial
  (av_c trivial
  (av_c trivial
  (av_c trivial
  (av_c trivial
  (av_c trivial
  (av_c trivial
  (av_c trivial
  (av_c trivial
  (av_c trivial
  (av_c trivial
  (av_c trivial
  (av_c trivial
  (av_c trivial
  (av_c trivial
  (av_c trivial
  (av_c trivial
  (av_c (ga_c ⟨_, rfl, (c_v (wz hw 242 rfl) (wz hw 243 rfl) (wz hw 245 rfl) (wz hw 244 rfl) (by decide) pd_14 rfl)⟩ ga_n)
  (av_c trivial
  (av_c trivial
  (av_c trivial
  (av_c trivial
  (av_c trivial
  (av_c trivial
  (av_c trivial
  (av_c trivial
  (av_c trivial
  (av_c (ga_c ⟨_, rfl, (c_v (wz hw 247 rfl) (wz hw 248 rfl) (wz hw 250 rfl) (wz hw 249 rfl) (by decide) pd_40 rfl)⟩ ga_n)
  (av_c trivial
  (av_c trivial
  (av_c trivial
  (av_c (ga_c ⟨_, rfl, (c_v (wz hw 247 rfl) (wz hw 248 rfl) (wz hw 250 rfl) (wz hw 249 rfl) (by decide) pd_40 rfl)⟩ ga_n)
  (av_c trivial
  (av_c trivial
  (av_c trivial
  (av_c trivial
  (av_c trivial
  (av_c trivial
  (av_c trivial
  (av_c trivial
  (av_c (ga_c ⟨_, rfl, (c_v (wz hw 252 rfl) (wz hw 253 rfl) (wz hw 255 rfl) (wz hw 254 rfl) (by decide) pd_15 rfl)⟩ ga_n)
  (av_c trivial
  (av_c trivial
  (av_c trivial
  (av_c trivial
  (av_c trivial
  (av_c trivial
  (av_c trivial
  (av_c trivial
  (av_c trivial
  (av_c trivial
  (av_c trivial
  (av_c (ga_c ⟨_, rfl, (c_v (wz hw 247 rfl) (wz hw 248 rfl) (wz hw 250 rfl) (wz hw 249 rfl) (by decide) pd_40 rfl)⟩ ga_n)
  (av_c trivial
  (av_c trivial
  (av_c trivial
  (av_c trivial
  (av_c trivial
  (av_c trivial
  av_n)))))))))))))))))))))))))))))))))))))))))))))))))))))))))))))))))))))))))))))))))))))))))))))))))))))))))))))))))))))))))))))))))))))))))
set_option maxRecDepth 65536 in
theorem gd1 {Z : State} {a0 : Array Value} {ρ0 : Nat → Nat} (hw : ∀ d ∈ tables_1, d.before a0 Z = true) (hr0 : ∀ d ∈ jdkStatics_1, d.before a0 Z = true) (M0 : MI Z "java/util/ImmutableCollections$List12" (ρ0 5)) (M1 : MI Z "java/util/ArrayList" (ρ0 6)) (M2 : MI Z "[Ljava/lang/Object;" (ρ0 7)) : ∀ en ∈ en1, Good pg Z a0 ρ0 (⟨"com/example/meerkat/meerkat/model/Circuit$Builder", "<init>", "()V"⟩ : MethodName) en :=
  (av_c trivial
  (av_c ⟨(wz hw 6 rfl), (wz hw 7 rfl), wz hw 8 rfl⟩
  (av_c trivial
  (av_c ⟨_, rfl, (wz hw 9 rfl)⟩
  (av_c trivial
  (av_c trivial
  (av_c (ga_c ⟨_, rfl, (c_s (wz hw 12 rfl) (wz hw 13 rfl) (wz hw 14 rfl) (wz hw 15 rfl) (by decide) pd_0 rfl)⟩ ga_n)
  (av_c trivial
  (av_c (ga_c ⟨_, rfl, (c_s (wz hw 12 rfl) (wz hw 13 rfl) (wz hw 14 rfl) (wz hw 15 rfl) (by decide) pd_0 rfl)⟩ ga_n)
  (av_c (ga_c ⟨_, rfl, (c_s (wz hw 17 rfl) (wz hw 18 rfl) (wz hw 19 rfl) (wz hw 20 rfl) (by decide) pd_4 rfl)⟩ ga_n)
  (av_c (ga_c ⟨_, rfl, (c_i rfl (wz hw 55 rfl) (wz hw 56 rfl) (wz hw 57 rfl) (by decide) pd_8 rfl)⟩ ga_n)
  (av_c ⟨_, rfl, ⟨_, "", Or.inl (wz hw 112 rfl), Via.refl⟩, (av_c ⟨_, rfl, _, rfl, Or.inr ⟨(wz hw 113 rfl), rfl, rfl⟩, by decide⟩ av_n)⟩
  (av_c trivial
  (av_c ⟨_, rfl, (wz hw 9 rfl)⟩
  (av_c trivial
  (av_c trivial
  (av_c ⟨_, rfl, rfl, rfl, rfl, (fun _ z => nomatch z), rfl, (wz hw 114 rfl)⟩
  (av_c trivial
  (av_c ⟨_, rfl, rfl, rfl, rfl, (fun _ z => nomatch z), rfl, (wz hw 114 rfl)⟩
  (av_c (ga_c ⟨_, rfl, (c_s (wz hw 17 rfl) (wz hw 18 rfl) (wz hw 19 rfl) (wz hw 20 rfl) (by decide) pd_4 rfl)⟩ ga_n)
  (av_c (ga_c ⟨_, rfl, (c_i rfl (wz hw 55 rfl) (wz hw 56 rfl) (wz hw 57 rfl) (by decide) pd_8 rfl)⟩ ga_n)
  (av_c ⟨_, rfl, ⟨_, "", Or.inl (wz hw 116 rfl), Via.refl⟩, (av_c ⟨_, rfl, _, rfl, Or.inr ⟨(wz hw 117 rfl), rfl, rfl⟩, by decide⟩ av_n)⟩
  (av_c trivial
  (av_c ⟨_, rfl, (wz hw 118 rfl)⟩
  (av_c trivial
  (av_c (ga_c ⟨_, rfl, (c_i rfl (wz hw 121 rfl) (wz hw 122 rfl) (wz hw 123 rfl) (by decide) pd_1 rfl)⟩ ga_n)
  (av_c ⟨_, rfl, ⟨_, "", Or.inl (wz hw 134 rfl), Via.refl⟩, (av_c ⟨_, rfl, _, rfl, Or.inr ⟨(wz hw 135 rfl), rfl, rfl⟩, by decide⟩ av_n)⟩
  (av_c trivial
  av_n))))))))))))))))))))))))))))
set_option maxRecDepth 65536 in
theorem gd2 {Z : State} {a0 : Array Value} {ρ0 : Nat → Nat} (hw : ∀ d ∈ tables_1, d.before a0 Z = true) (hr0 : ∀ d ∈ jdkStatics_1, d.before a0 Z = true) (M0 : MI Z "java/util/ImmutableCollections$List12" (ρ0 5)) (M1 : MI Z "java/util/ArrayList" (ρ0 6)) (M2 : MI Z "[Ljava/lang/Object;" (ρ0 7)) : ∀ en ∈ en2, Good pg Z a0 ρ0 (⟨"java/lang/Boolean", "valueOf", "(Z)Ljava/lang/Boolean;"⟩ : MethodName) en :=
  (av_c trivial
  (av_c trivial
  (av_c ⟨_, rfl, ⟨_, "", Or.inl (wz hw 141 rfl), Via.refl⟩⟩
  (av_c trivial
  (av_c ⟨_, rfl, ⟨_, "", Or.inl (wz hw 16 rfl), Via.refl⟩⟩
  (av_c trivial
  av_n))))))
set_option maxRecDepth 65536 in
theorem gd3 {Z : State} {a0 : Array Value} {ρ0 : Nat → Nat} (hw : ∀ d ∈ tables_1, d.before a0 Z = true) (hr0 : ∀ d ∈ jdkStatics_1, d.before a0 Z = true) (M0 : MI Z "java/util/ImmutableCollections$List12" (ρ0 5)) (M1 : MI Z "java/util/ArrayList" (ρ0 6)) (M2 : MI Z "[Ljava/lang/Object;" (ρ0 7)) : ∀ en ∈ en3, Good pg Z a0 ρ0 (⟨"java/util/List", "of", "(Ljava/lang/Object;Ljava/lang/Object;)Ljava/util/List;"⟩ : MethodName) en :=
  (av_c ⟨_, rfl, (wz hw 21 rfl)⟩
  (av_c trivial
  (av_c trivial
  (av_c trivial
  (av_c (ga_c ⟨_, rfl, (c_i rfl (wz hw 24 rfl) (wz hw 25 rfl) (wz hw 27 rfl) (by decide) pd_3 rfl)⟩ ga_n)
  (av_c trivial
  av_n))))))
set_option maxRecDepth 65536 in
theorem gd4 {Z : State} {a0 : Array Value} {ρ0 : Nat → Nat} (hw : ∀ d ∈ tables_1, d.before a0 Z = true) (hr0 : ∀ d ∈ jdkStatics_1, d.before a0 Z = true) (M0 : MI Z "java/util/ImmutableCollections$List12" (ρ0 5)) (M1 : MI Z "java/util/ArrayList" (ρ0 6)) (M2 : MI Z "[Ljava/lang/Object;" (ρ0 7)) : ∀ en ∈ en4, Good pg Z a0 ρ0 (⟨"java/util/ImmutableCollections$List12", "<init>", "(Ljava/lang/Object;Ljava/lang/Object;)V"⟩ : MethodName) en :=
  (av_c trivial
  (av_c (ga_c ⟨_, rfl, (c_i rfl (wz hw 28 rfl) (wz hw 29 rfl) (wz hw 33 rfl) (by decide) pd_1 rfl)⟩ ga_n)
  (av_c trivial
  (av_c trivial
  (av_c (ga_c ⟨_, rfl, (c_s (wz hw 47 rfl) (wz hw 48 rfl) (wz hw 49 rfl) (wz hw 50 rfl) (by decide) pd_2 rfl)⟩ ga_n)
  (av_c ⟨_, rfl, ⟨_, "", Or.inl (wz hw 51 rfl), Via.refl⟩, (av_c ⟨_, rfl, _, rfl, Or.inr ⟨(wz hw 52 rfl), rfl, rfl⟩, by decide⟩ av_n)⟩
  (av_c trivial
  (av_c trivial
  (av_c (ga_c ⟨_, rfl, (c_s (wz hw 47 rfl) (wz hw 48 rfl) (wz hw 49 rfl) (wz hw 50 rfl) (by decide) pd_2 rfl)⟩ ga_n)
  (av_c ⟨_, rfl, ⟨_, "", Or.inl (wz hw 53 rfl), Via.refl⟩, (av_c ⟨_, rfl, _, rfl, Or.inr ⟨(wz hw 54 rfl), rfl, rfl⟩, by decide⟩ av_n)⟩
  (av_c trivial
  av_n)))))))))))
set_option maxRecDepth 65536 in
theorem gd5 {Z : State} {a0 : Array Value} {ρ0 : Nat → Nat} (hw : ∀ d ∈ tables_1, d.before a0 Z = true) (hr0 : ∀ d ∈ jdkStatics_1, d.before a0 Z = true) (M0 : MI Z "java/util/ImmutableCollections$List12" (ρ0 5)) (M1 : MI Z "java/util/ArrayList" (ρ0 6)) (M2 : MI Z "[Ljava/lang/Object;" (ρ0 7)) : ∀ en ∈ en5, Good pg Z a0 ρ0 (⟨"java/util/ImmutableCollections$AbstractImmutableList", "<init>", "()V"⟩ : MethodName) en :=
  (av_c trivial
  (av_c (ga_c ⟨_, rfl, (c_i rfl (wz hw 34 rfl) (wz hw 35 rfl) (wz hw 39 rfl) (by decide) pd_1 rfl)⟩ ga_n)
  (av_c trivial
  av_n)))
set_option maxRecDepth 65536 in
theorem gd6 {Z : State} {a0 : Array Value} {ρ0 : Nat → Nat} (hw : ∀ d ∈ tables_1, d.before a0 Z = true) (hr0 : ∀ d ∈ jdkStatics_1, d.before a0 Z = true) (M0 : MI Z "java/util/ImmutableCollections$List12" (ρ0 5)) (M1 : MI Z "java/util/ArrayList" (ρ0 6)) (M2 : MI Z "[Ljava/lang/Object;" (ρ0 7)) : ∀ en ∈ en6, Good pg Z a0 ρ0 (⟨"java/util/ImmutableCollections$AbstractImmutableCollection", "<init>", "()V"⟩ : MethodName) en :=
  (av_c trivial
  (av_c (ga_c ⟨_, rfl, (c_i rfl (wz hw 40 rfl) (wz hw 41 rfl) (wz hw 45 rfl) (by decide) pd_1 rfl)⟩ ga_n)
  (av_c trivial
  av_n)))
set_option maxRecDepth 65536 in
theorem gd7 {Z : State} {a0 : Array Value} {ρ0 : Nat → Nat} (hw : ∀ d ∈ tables_1, d.before a0 Z = true) (hr0 : ∀ d ∈ jdkStatics_1, d.before a0 Z = true) (M0 : MI Z "java/util/ImmutableCollections$List12" (ρ0 5)) (M1 : MI Z "java/util/ArrayList" (ρ0 6)) (M2 : MI Z "[Ljava/lang/Object;" (ρ0 7)) : ∀ en ∈ en7, Good pg Z a0 ρ0 (⟨"java/util/AbstractCollection", "<init>", "()V"⟩ : MethodName) en :=
  (av_c trivial
  (av_c ⟨(wz hw 46 rfl), (wz hw 7 rfl), wz hw 8 rfl⟩
  (av_c trivial
  av_n)))
set_option maxRecDepth 65536 in
theorem gd8 {Z : State} {a0 : Array Value} {ρ0 : Nat → Nat} (hw : ∀ d ∈ tables_1, d.before a0 Z = true) (hr0 : ∀ d ∈ jdkStatics_1, d.before a0 Z = true) (M0 : MI Z "java/util/ImmutableCollections$List12" (ρ0 5)) (M1 : MI Z "java/util/ArrayList" (ρ0 6)) (M2 : MI Z "[Ljava/lang/Object;" (ρ0 7)) : ∀ en ∈ en8, Good pg Z a0 ρ0 (⟨"java/util/Objects", "requireNonNull", "(Ljava/lang/Object;)Ljava/lang/Object;"⟩ : MethodName) en :=
  (av_c trivial
  (av_c trivial
  (av_c trivial
  (av_c trivial
  av_n))))
set_option maxRecDepth 65536 in
theorem gd9 {Z : State} {a0 : Array Value} {ρ0 : Nat → Nat} (hw : ∀ d ∈ tables_1, d.before a0 Z = true) (hr0 : ∀ d ∈ jdkStatics_1, d.before a0 Z = true) (M0 : MI Z "java/util/ImmutableCollections$List12" (ρ0 5)) (M1 : MI Z "java/util/ArrayList" (ρ0 6)) (M2 : MI Z "[Ljava/lang/Object;" (ρ0 7)) : ∀ en ∈ en9, Good pg Z a0 ρ0 (⟨"java/util/ArrayList", "<init>", "(Ljava/util/Collection;)V"⟩ : MethodName) en :=
  (av_c trivial
  (av_c (ga_c ⟨_, rfl, (c_i rfl (wz hw 58 rfl) (wz hw 59 rfl) (wz hw 63 rfl) (by decide) pd_1 rfl)⟩ ga_n)
  (av_c trivial
  (av_c (ga_c ⟨_, rfl, (c_f (wz hw 68 rfl) (wz hw 69 rfl) (wz hw 70 rfl) (wz hw 71 rfl) (wz hw 72 rfl) (wz hw 73 rfl) (wz hw 74 rfl) (wz hw 75 rfl) (by decide) pd_5 rfl)⟩ ga_n)
  (av_c trivial
  (av_c trivial
  (av_c trivial
  (av_c trivial
  (av_c trivial
  (av_c ⟨_, rfl, ⟨_, "", Or.inl (wz hw 82 rfl), Via.refl⟩, (av_c ⟨_, rfl, _, rfl, Or.inl (wz hw 83 rfl), by decide⟩ av_n)⟩
  (av_c trivial
  (av_c trivial
  (av_c (ga_c ⟨by decide, Or.inl ⟨_, rfl, _, rfl, (g_gcI (xi := (⟨"java/util/Collection", "getClass", "()Ljava/lang/Class;"⟩ : MethodName)) (wz hw 84 rfl) (wz hw 85 rfl) (wz hw 86 rfl) (wz hw 87 rfl) (wz hw 88 rfl) (wz hw 89 rfl) (wz hw 90 rfl) (wz hw 75 rfl) (wz hw 91 rfl) (by decide) (by decide) rfl rfl M0)⟩⟩ ga_n)
  (av_c (g_ldcM (wz hw 92 rfl) M1)
  (av_c trivial
  (av_c trivial
  (av_c trivial
  (av_c trivial
  (av_c ⟨_, rfl, ⟨_, "", Or.inl (wz hw 82 rfl), Via.refl⟩⟩
  (av_c (g_ldcM (wz hw 94 rfl) M2)
  (av_c (ga_c ⟨_, rfl, (c_s (wz hw 96 rfl) (wz hw 97 rfl) (wz hw 98 rfl) (wz hw 99 rfl) (by decide) pd_7 rfl)⟩ ga_n)
  (av_c ⟨_, rfl, ⟨_, "", Or.inl (wz hw 110 rfl), Via.refl⟩, (av_c ⟨_, rfl, _, rfl, Or.inl (wz hw 111 rfl), by decide⟩ av_n)⟩
  (av_c trivial
  (av_c trivial
  av_n))))))))))))))))))))))))
set_option maxRecDepth 65536 in
theorem gd10 {Z : State} {a0 : Array Value} {ρ0 : Nat → Nat} (hw : ∀ d ∈ tables_1, d.before a0 Z = true) (hr0 : ∀ d ∈ jdkStatics_1, d.before a0 Z = true) (M0 : MI Z "java/util/ImmutableCollections$List12" (ρ0 5)) (M1 : MI Z "java/util/ArrayList" (ρ0 6)) (M2 : MI Z "[Ljava/lang/Object;" (ρ0 7)) : ∀ en ∈ en10, Good pg Z a0 ρ0 (⟨"java/util/AbstractList", "<init>", "()V"⟩ : MethodName) en :=
  (av_c trivial
  (av_c (ga_c ⟨_, rfl, (c_i rfl (wz hw 64 rfl) (wz hw 41 rfl) (wz hw 45 rfl) (by decide) pd_1 rfl)⟩ ga_n)
  (av_c trivial
  (av_c trivial
  (av_c ⟨_, rfl, ⟨_, "", Or.inl (wz hw 66 rfl), Via.refl⟩, (av_c ⟨_, rfl, _, rfl, Or.inl (wz hw 67 rfl), by decide⟩ av_n)⟩
  (av_c trivial
  av_n))))))
set_option maxRecDepth 65536 in
theorem gd11 {Z : State} {a0 : Array Value} {ρ0 : Nat → Nat} (hw : ∀ d ∈ tables_1, d.before a0 Z = true) (hr0 : ∀ d ∈ jdkStatics_1, d.before a0 Z = true) (M0 : MI Z "java/util/ImmutableCollections$List12" (ρ0 5)) (M1 : MI Z "java/util/ArrayList" (ρ0 6)) (M2 : MI Z "[Ljava/lang/Object;" (ρ0 7)) : ∀ en ∈ en11, Good pg Z a0 ρ0 (⟨"java/util/ImmutableCollections$List12", "toArray", "()[Ljava/lang/Object;"⟩ : MethodName) en :=
  (av_c trivial
  (av_c ⟨_, rfl, ⟨_, "", Or.inl (wz hw 53 rfl), Via.refl⟩⟩
  (av_c ⟨_, rfl, ⟨_, _, Or.inr (wz hw 77 rfl), Via.refl⟩⟩
  (av_c trivial
  (av_c trivial
  (av_c ⟨_, _, rfl, rfl, rfl, rfl, (wz hw 79 rfl), wz hw 80 rfl⟩
  (av_c trivial
  (av_c trivial
  (av_c trivial
  (av_c ⟨_, rfl, ⟨_, "", Or.inl (wz hw 51 rfl), Via.refl⟩⟩
  (av_c trivial
  (av_c trivial
  (av_c trivial
  (av_c trivial
  (av_c ⟨_, rfl, ⟨_, "", Or.inl (wz hw 53 rfl), Via.refl⟩⟩
  (av_c trivial
  (av_c trivial
  av_n)))))))))))))))))
set_option maxRecDepth 65536 in
theorem gd12 {Z : State} {a0 : Array Value} {ρ0 : Nat → Nat} (hw : ∀ d ∈ tables_1, d.before a0 Z = true) (hr0 : ∀ d ∈ jdkStatics_1, d.before a0 Z = true) (M0 : MI Z "java/util/ImmutableCollections$List12" (ρ0 5)) (M1 : MI Z "java/util/ArrayList" (ρ0 6)) (M2 : MI Z "[Ljava/lang/Object;" (ρ0 7)) : ∀ en ∈ en12, Good pg Z a0 ρ0 (⟨"java/util/Arrays", "copyOf", "([Ljava/lang/Object;ILjava/lang/Class;)[Ljava/lang/Object;"⟩ : MethodName) en :=
  (av_c trivial
  (av_c (g_ldcM (wz hw 100 rfl) M2)
  (av_c trivial
  (av_c trivial
  (av_c ⟨_, _, rfl, rfl, rfl, rfl, (wz hw 101 rfl), wz hw 80 rfl⟩
  (av_c trivial
  (av_c trivial
  (av_c trivial
  (av_c trivial
  (av_c trivial
  (av_c trivial
  (av_c trivial
  (av_c trivial
  (av_c trivial
  (av_c (ga_c ⟨_, rfl, (c_s (wz hw 102 rfl) (wz hw 103 rfl) (wz hw 104 rfl) (wz hw 105 rfl) (by decide) pd_6 rfl)⟩ ga_n)
  (av_c ⟨(wz hw 106 rfl), (wz hw 109 rfl), (wz hw 107 rfl), (wz hw 108 rfl)⟩
  (av_c trivial
  (av_c trivial
  av_n))))))))))))))))))
set_option maxRecDepth 65536 in
theorem gd13 {Z : State} {a0 : Array Value} {ρ0 : Nat → Nat} (hw : ∀ d ∈ tables_1, d.before a0 Z = true) (hr0 : ∀ d ∈ jdkStatics_1, d.before a0 Z = true) (M0 : MI Z "java/util/ImmutableCollections$List12" (ρ0 5)) (M1 : MI Z "java/util/ArrayList" (ρ0 6)) (M2 : MI Z "[Ljava/lang/Object;" (ρ0 7)) : ∀ en ∈ en13, Good pg Z a0 ρ0 (⟨"java/lang/Math", "min", "(II)I"⟩ : MethodName) en :=
  (av_c trivial
  (av_c trivial
  (av_c trivial
  (av_c trivial
  (av_c trivial
  (av_c trivial
  av_n))))))
set_option maxRecDepth 65536 in
theorem gd14 {Z : State} {a0 : Array Value} {ρ0 : Nat → Nat} (hw : ∀ d ∈ tables_1, d.before a0 Z = true) (hr0 : ∀ d ∈ jdkStatics_1, d.before a0 Z = true) (M0 : MI Z "java/util/ImmutableCollections$List12" (ρ0 5)) (M1 : MI Z "java/util/ArrayList" (ρ0 6)) (M2 : MI Z "[Ljava/lang/Object;" (ρ0 7)) : ∀ en ∈ en14, Good pg Z a0 ρ0 (⟨"java/util/HashMap", "<init>", "()V"⟩ : MethodName) en :=
  (av_c trivial
  (av_c (ga_c ⟨_, rfl, (c_i rfl (wz hw 124 rfl) (wz hw 125 rfl) (wz hw 129 rfl) (by decide) pd_1 rfl)⟩ ga_n)
  (av_c trivial
  (av_c (g_ldcF (wz hw 131 rfl))
  (av_c ⟨_, rfl, ⟨_, "", Or.inl (wz hw 132 rfl), Via.refl⟩, (av_c ⟨_, rfl, _, rfl, Or.inr ⟨(wz hw 133 rfl), rfl, rfl⟩, by decide⟩ av_n)⟩
  (av_c trivial
  av_n))))))
set_option maxRecDepth 65536 in
theorem gd15 {Z : State} {a0 : Array Value} {ρ0 : Nat → Nat} (hw : ∀ d ∈ tables_1, d.before a0 Z = true) (hr0 : ∀ d ∈ jdkStatics_1, d.before a0 Z = true) (M0 : MI Z "java/util/ImmutableCollections$List12" (ρ0 5)) (M1 : MI Z "java/util/ArrayList" (ρ0 6)) (M2 : MI Z "[Ljava/lang/Object;" (ρ0 7)) : ∀ en ∈ en15, Good pg Z a0 ρ0 (⟨"java/util/AbstractMap", "<init>", "()V"⟩ : MethodName) en :=
  (av_c trivial
  (av_c ⟨(wz hw 130 rfl), (wz hw 7 rfl), wz hw 8 rfl⟩
  (av_c trivial
  av_n)))
set_option maxRecDepth 65536 in
theorem gd16 {Z : State} {a0 : Array Value} {ρ0 : Nat → Nat} (hw : ∀ d ∈ tables_1, d.before a0 Z = true) (hr0 : ∀ d ∈ jdkStatics_1, d.before a0 Z = true) (M0 : MI Z "java/util/ImmutableCollections$List12" (ρ0 5)) (M1 : MI Z "java/util/ArrayList" (ρ0 6)) (M2 : MI Z "[Ljava/lang/Object;" (ρ0 7)) : ∀ en ∈ en16, Good pg Z a0 ρ0 (⟨"com/example/meerkat/meerkat/model/Circuit$Builder", "input", "()I"⟩ : MethodName) en :=
  (av_c trivial
  (av_c ⟨_, rfl, ⟨_, "", Or.inl (wz hw 112 rfl), Via.refl⟩⟩
  (av_c trivial
  (av_c (ga_c ⟨_, rfl, (c_s (wz hw 12 rfl) (wz hw 13 rfl) (wz hw 14 rfl) (wz hw 15 rfl) (by decide) pd_0 rfl)⟩ ga_n)
  (av_c (ga_c ⟨_, rfl, (c_f (wz hw 142 rfl) (wz hw 143 rfl) (wz hw 144 rfl) (wz hw 145 rfl) (wz hw 146 rfl) (wz hw 147 rfl) (wz hw 148 rfl) (wz hw 149 rfl) (by decide) pd_13 rfl)⟩ ga_n)
  (av_c trivial
  (av_c trivial
  (av_c ⟨_, rfl, ⟨_, "", Or.inl (wz hw 116 rfl), Via.refl⟩⟩
  (av_c trivial
  (av_c ⟨_, rfl, rfl, rfl, rfl, (fun _ z => nomatch z), rfl, (wz hw 114 rfl)⟩
  (av_c (ga_c ⟨_, rfl, (c_f (wz hw 142 rfl) (wz hw 143 rfl) (wz hw 144 rfl) (wz hw 145 rfl) (wz hw 146 rfl) (wz hw 147 rfl) (wz hw 148 rfl) (wz hw 149 rfl) (by decide) pd_13 rfl)⟩ ga_n)
  (av_c trivial
  (av_c trivial
  (av_c ⟨_, rfl, ⟨_, "", Or.inl (wz hw 112 rfl), Via.refl⟩⟩
  (av_c (ga_c ⟨_, rfl, (c_f (wz hw 182 rfl) (wz hw 183 rfl) (wz hw 184 rfl) (wz hw 185 rfl) (wz hw 186 rfl) (wz hw 187 rfl) (wz hw 188 rfl) (wz hw 149 rfl) (by decide) pd_14 rfl)⟩ ga_n)
  (av_c trivial
  (av_c trivial
  (av_c trivial
  av_n))))))))))))))))))
set_option maxRecDepth 65536 in
theorem gd17 {Z : State} {a0 : Array Value} {ρ0 : Nat → Nat} (hw : ∀ d ∈ tables_1, d.before a0 Z = true) (hr0 : ∀ d ∈ jdkStatics_1, d.before a0 Z = true) (M0 : MI Z "java/util/ImmutableCollections$List12" (ρ0 5)) (M1 : MI Z "java/util/ArrayList" (ρ0 6)) (M2 : MI Z "[Ljava/lang/Object;" (ρ0 7)) : ∀ en ∈ en17, Good pg Z a0 ρ0 (⟨"java/util/ArrayList", "add", "(Ljava/lang/Object;)Z"⟩ : MethodName) en :=
  (av_c trivial
  (av_c trivial
  (av_c ⟨_, rfl, ⟨_, "", Or.inl (wz hw 151 rfl), (Via.of (wz hw 152 rfl))⟩⟩
  (av_c trivial
  (av_c trivial
  (av_c ⟨_, rfl, ⟨_, "", Or.inl (wz hw 151 rfl), (Via.of (wz hw 152 rfl))⟩, (av_c ⟨_, rfl, _, rfl, Or.inl (wz hw 67 rfl), by decide⟩ av_n)⟩
  (av_c trivial
  (av_c trivial
  (av_c trivial
  (av_c ⟨_, rfl, ⟨_, "", Or.inl (wz hw 110 rfl), Via.refl⟩⟩
  (av_c trivial
  (av_c ⟨_, rfl, ⟨_, "", Or.inl (wz hw 82 rfl), Via.refl⟩⟩
  (av_c (ga_c ⟨_, rfl, (c_p (wz hw 153 rfl) (wz hw 154 rfl) (wz hw 156 rfl) (wz hw 155 rfl) (wz hw 157 rfl) (by decide) pd_12 rfl)⟩ ga_n)
  (av_c trivial
  (av_c trivial
  av_n)))))))))))))))
set_option maxRecDepth 65536 in
theorem gd18 {Z : State} {a0 : Array Value} {ρ0 : Nat → Nat} (hw : ∀ d ∈ tables_1, d.before a0 Z = true) (hr0 : ∀ d ∈ jdkStatics_1, d.before a0 Z = true) (M0 : MI Z "java/util/ImmutableCollections$List12" (ρ0 5)) (M1 : MI Z "java/util/ArrayList" (ρ0 6)) (M2 : MI Z "[Ljava/lang/Object;" (ρ0 7)) : ∀ en ∈ en18, Good pg Z a0 ρ0 (⟨"java/util/ArrayList", "add", "(Ljava/lang/Object;[Ljava/lang/Object;I)V"⟩ : MethodName) en :=
  (av_c trivial
  (av_c trivial
  (av_c trivial
  (av_c trivial
  (av_c trivial
  (av_c (ga_c ⟨_, rfl, (c_p (wz hw 158 rfl) (wz hw 159 rfl) (wz hw 161 rfl) (wz hw 160 rfl) (wz hw 162 rfl) (by decide) pd_5 rfl)⟩ ga_n)
  (av_c trivial
  (av_c trivial
  (av_c trivial
  (av_c trivial
  (av_c trivial
  (av_c trivial
  (av_c trivial
  (av_c trivial
  (av_c trivial
  (av_c ⟨_, rfl, ⟨_, "", Or.inl (wz hw 82 rfl), Via.refl⟩, (av_c ⟨_, rfl, _, rfl, Or.inl (wz hw 83 rfl), by decide⟩ av_n)⟩
  (av_c trivial
  av_n)))))))))))))))))
set_option maxRecDepth 65536 in
theorem gd19 {Z : State} {a0 : Array Value} {ρ0 : Nat → Nat} (hw : ∀ d ∈ tables_1, d.before a0 Z = true) (hr0 : ∀ d ∈ jdkStatics_1, d.before a0 Z = true) (M0 : MI Z "java/util/ImmutableCollections$List12" (ρ0 5)) (M1 : MI Z "java/util/ArrayList" (ρ0 6)) (M2 : MI Z "[Ljava/lang/Object;" (ρ0 7)) : ∀ en ∈ en19, Good pg Z a0 ρ0 (⟨"java/util/ArrayList", "grow", "()[Ljava/lang/Object;"⟩ : MethodName) en :=
  (av_c trivial
  (av_c trivial
  (av_c ⟨_, rfl, ⟨_, "", Or.inl (wz hw 82 rfl), Via.refl⟩⟩
  (av_c trivial
  (av_c trivial
  (av_c (ga_c ⟨_, rfl, (c_p (wz hw 163 rfl) (wz hw 164 rfl) (wz hw 166 rfl) (wz hw 165 rfl) (wz hw 167 rfl) (by decide) pd_11 rfl)⟩ ga_n)
  (av_c trivial
  av_n)))))))
set_option maxRecDepth 65536 in
theorem gd20 {Z : State} {a0 : Array Value} {ρ0 : Nat → Nat} (hw : ∀ d ∈ tables_1, d.before a0 Z = true) (hr0 : ∀ d ∈ jdkStatics_1, d.before a0 Z = true) (M0 : MI Z "java/util/ImmutableCollections$List12" (ρ0 5)) (M1 : MI Z "java/util/ArrayList" (ρ0 6)) (M2 : MI Z "[Ljava/lang/Object;" (ρ0 7)) : ∀ en ∈ en20, Good pg Z a0 ρ0 (⟨"java/util/ArrayList", "grow", "(I)[Ljava/lang/Object;"⟩ : MethodName) en :=
  (av_c trivial
  (av_c ⟨_, rfl, ⟨_, "", Or.inl (wz hw 110 rfl), Via.refl⟩⟩
  (av_c trivial
  (av_c trivial
  (av_c trivial
  (av_c trivial
  (av_c trivial
  (av_c trivial
  (av_c trivial
  (av_c trivial
  (av_c trivial
  (av_c trivial
  (av_c trivial
  (av_c (ga_c ⟨_, rfl, (c_s (wz hw 168 rfl) (wz hw 169 rfl) (wz hw 170 rfl) (wz hw 171 rfl) (by decide) pd_9 rfl)⟩ ga_n)
  (av_c trivial
  (av_c trivial
  (av_c trivial
  (av_c ⟨_, rfl, ⟨_, "", Or.inl (wz hw 110 rfl), Via.refl⟩⟩
  (av_c trivial
  (av_c (ga_c ⟨_, rfl, (c_s (wz hw 176 rfl) (wz hw 177 rfl) (wz hw 98 rfl) (wz hw 178 rfl) (by decide) pd_10 rfl)⟩ ga_n)
  (av_c trivial
  (av_c ⟨_, rfl, ⟨_, "", Or.inl (wz hw 110 rfl), Via.refl⟩, (av_c ⟨_, rfl, _, rfl, Or.inl (wz hw 111 rfl), by decide⟩ av_n)⟩
  (av_c trivial
  av_n)))))))))))))))))))))))
set_option maxRecDepth 65536 in
theorem gd21 {Z : State} {a0 : Array Value} {ρ0 : Nat → Nat} (hw : ∀ d ∈ tables_1, d.before a0 Z = true) (hr0 : ∀ d ∈ jdkStatics_1, d.before a0 Z = true) (M0 : MI Z "java/util/ImmutableCollections$List12" (ρ0 5)) (M1 : MI Z "java/util/ArrayList" (ρ0 6)) (M2 : MI Z "[Ljava/lang/Object;" (ρ0 7)) : ∀ en ∈ en21, Good pg Z a0 ρ0 (⟨"jdk/internal/util/ArraysSupport", "newLength", "(III)I"⟩ : MethodName) en :=
  (av_c trivial
  (av_c trivial
  (av_c trivial
  (av_c (ga_c ⟨_, rfl, (c_s (wz hw 172 rfl) (wz hw 173 rfl) (wz hw 104 rfl) (wz hw 174 rfl) (by decide) pd_6 rfl)⟩ ga_n)
  (av_c trivial
  (av_c trivial
  (av_c trivial
  (av_c trivial
  (av_c trivial
  (av_c trivial
  (av_c (g_ldcI (wz hw 175 rfl))
  (av_c trivial
  (av_c trivial
  (av_c trivial
  av_n))))))))))))))
set_option maxRecDepth 65536 in
theorem gd22 {Z : State} {a0 : Array Value} {ρ0 : Nat → Nat} (hw : ∀ d ∈ tables_1, d.before a0 Z = true) (hr0 : ∀ d ∈ jdkStatics_1, d.before a0 Z = true) (M0 : MI Z "java/util/ImmutableCollections$List12" (ρ0 5)) (M1 : MI Z "java/util/ArrayList" (ρ0 6)) (M2 : MI Z "[Ljava/lang/Object;" (ρ0 7)) : ∀ en ∈ en22, Good pg Z a0 ρ0 (⟨"java/lang/Math", "max", "(II)I"⟩ : MethodName) en :=
  (av_c trivial
  (av_c trivial
  (av_c trivial
  (av_c trivial
  (av_c trivial
  (av_c trivial
  (av_c trivial
  av_n)))))))
set_option maxRecDepth 65536 in
theorem gd23 {Z : State} {a0 : Array Value} {ρ0 : Nat → Nat} (hw : ∀ d ∈ tables_1, d.before a0 Z = true) (hr0 : ∀ d ∈ jdkStatics_1, d.before a0 Z = true) (M0 : MI Z "java/util/ImmutableCollections$List12" (ρ0 5)) (M1 : MI Z "java/util/ArrayList" (ρ0 6)) (M2 : MI Z "[Ljava/lang/Object;" (ρ0 7)) : ∀ en ∈ en23, Good pg Z a0 ρ0 (⟨"java/util/Arrays", "copyOf", "([Ljava/lang/Object;I)[Ljava/lang/Object;"⟩ : MethodName) en :=
  (av_c trivial
  (av_c trivial
  (av_c trivial
  (av_c (ga_c ⟨by decide, Or.inr ⟨_, rfl, _, rfl, rfl, (g_gcV (wz hw 179 rfl) (wz hw 85 rfl) (wz hw 180 rfl) (wz hw 88 rfl) (wz hw 91 rfl) M2)⟩⟩ ga_n)
  (av_c (ga_c ⟨_, rfl, (c_s (wz hw 181 rfl) (wz hw 97 rfl) (wz hw 98 rfl) (wz hw 99 rfl) (by decide) pd_7 rfl)⟩ ga_n)
  (av_c trivial
  av_n))))))
set_option maxRecDepth 65536 in
theorem gd24 {Z : State} {a0 : Array Value} {ρ0 : Nat → Nat} (hw : ∀ d ∈ tables_1, d.before a0 Z = true) (hr0 : ∀ d ∈ jdkStatics_1, d.before a0 Z = true) (M0 : MI Z "java/util/ImmutableCollections$List12" (ρ0 5)) (M1 : MI Z "java/util/ArrayList" (ρ0 6)) (M2 : MI Z "[Ljava/lang/Object;" (ρ0 7)) : ∀ en ∈ en24, Good pg Z a0 ρ0 (⟨"java/util/ArrayList", "size", "()I"⟩ : MethodName) en :=
  (av_c trivial
  (av_c ⟨_, rfl, ⟨_, "", Or.inl (wz hw 82 rfl), Via.refl⟩⟩
  (av_c trivial
  av_n)))
set_option maxRecDepth 65536 in
theorem gd25 {Z : State} {a0 : Array Value} {ρ0 : Nat → Nat} (hw : ∀ d ∈ tables_1, d.before a0 Z = true) (hr0 : ∀ d ∈ jdkStatics_1, d.before a0 Z = true) (M0 : MI Z "java/util/ImmutableCollections$List12" (ρ0 5)) (M1 : MI Z "java/util/ArrayList" (ρ0 6)) (M2 : MI Z "[Ljava/lang/Object;" (ρ0 7)) : ∀ en ∈ en25, Good pg Z a0 ρ0 (⟨"com/example/meerkat/meerkat/model/Circuit$Builder", "and", "([I)I"⟩ : MethodName) en :=
  (av_c trivial
  (av_c ⟨_, rfl, rfl, (wz hw 262 rfl), (wz hw 263 rfl), (wz hw 267 rfl), (wz hw 265 rfl), (wz hw 266 rfl), (wz hw 268 rfl)⟩
  (av_c ⟨_, (wz hw 226 rfl), (av_c (Or.inr ⟨_, rfl, _, rfl, rfl, Or.inl rfl⟩) av_n)⟩
  (av_c trivial
  (av_c trivial
  (av_c trivial
  (av_c trivial
  (av_c trivial
  (av_c trivial
  (av_c trivial
  (av_c trivial
  (av_c trivial
  (av_c trivial
  (av_c trivial
  (av_c trivial
  (av_c trivial
  (av_c trivial
  (av_c trivial
  (av_c trivial
  (av_c trivial
  (av_c trivial
  (av_c (ga_c ⟨_, rfl, (c_s (wz hw 269 rfl) (wz hw 270 rfl) (wz hw 104 rfl) (wz hw 271 rfl) (by decide) pd_15 rfl)⟩ ga_n)
  (av_c trivial
  (av_c ⟨_, rfl, ⟨_, "", Or.inl (wz hw 112 rfl), Via.refl⟩⟩
  (av_c (ga_c ⟨_, rfl, (c_f (wz hw 182 rfl) (wz hw 183 rfl) (wz hw 184 rfl) (wz hw 185 rfl) (wz hw 186 rfl) (wz hw 187 rfl) (wz hw 188 rfl) (wz hw 149 rfl) (by decide) pd_14 rfl)⟩ ga_n)
  (av_c trivial
  (av_c trivial
  (av_c trivial
  (av_c trivial
  (av_c (ga_c ⟨_, rfl, (c_s (wz hw 272 rfl) (wz hw 273 rfl) (wz hw 98 rfl) (wz hw 274 rfl) (by decide) pd_19 rfl)⟩ ga_n)
  (av_c trivial
  (av_c trivial
  (av_c ⟨_, rfl, rfl, rfl, rfl, (fun _ z => nomatch z), rfl, (wz hw 114 rfl)⟩
  (av_c trivial
  (av_c trivial
  (av_c trivial
  (av_c trivial
  (av_c trivial
  (av_c trivial
  (av_c trivial
  (av_c trivial
  (av_c trivial
  (av_c trivial
  (av_c trivial
  (av_c trivial
  (av_c trivial
  (av_c trivial
  (av_c trivial
  (av_c trivial
  (av_c trivial
  (av_c trivial
  (av_c trivial
  (av_c trivial
  (av_c trivial
  (av_c trivial
  (av_c trivial
  (av_c trivial
  (av_c trivial
  (av_c trivial
  (av_c (ga_c ⟨_, rfl, (c_s (wz hw 285 rfl) (wz hw 286 rfl) (wz hw 98 rfl) (wz hw 287 rfl) (by decide) pd_21 rfl)⟩ ga_n)
  (av_c trivial
  (av_c trivial
  (av_c trivial
  (av_c trivial
  (av_c trivial
  (av_c trivial
  (av_c trivial
  (av_c trivial
  (av_c trivial
  (av_c trivial
  (av_c trivial
  (av_c trivial
  (av_c trivial
  (av_c trivial
  (av_c trivial
  (av_c trivial
  (av_c trivial
  (av_c trivial
  (av_c trivial
  (av_c trivial
  (av_c trivial
  (av_c trivial
  (av_c trivial
  (av_c trivial
  (av_c trivial
  (av_c trivial
  (av_c trivial
  (av_c trivial
  (av_c trivial
  (av_c trivial
  (av_c trivial
  (av_c trivial
  (av_c trivial
  (av_c trivial
  (av_c trivial
  (av_c trivial
  (av_c trivial
  (av_c trivial
  (av_c (ga_c ⟨_, rfl, (c_s (wz hw 291 rfl) (wz hw 292 rfl) (wz hw 98 rfl) (wz hw 293 rfl) (by decide) pd_22 rfl)⟩ ga_n)
  (av_c (ga_c ⟨_, rfl, (c_p' (wz hw 296 rfl) (wz hw 297 rfl) (wz hw 139 rfl) rfl (wz hw 298 rfl) (wz hw 299 rfl) (by decide) pd_27 rfl)⟩ ga_n)
  (av_c trivial
  (av_c trivial
  (av_c trivial
  av_n)))))))))))))))))))))))))))))))))))))))))))))))))))))))))))))))))))))))))))))))))))))))))))))))))))))))
set_option maxRecDepth 65536 in
theorem gd26 {Z : State} {a0 : Array Value} {ρ0 : Nat → Nat} (hw : ∀ d ∈ tables_1, d.before a0 Z = true) (hr0 : ∀ d ∈ jdkStatics_1, d.before a0 Z = true) (M0 : MI Z "java/util/ImmutableCollections$List12" (ρ0 5)) (M1 : MI Z "java/util/ArrayList" (ρ0 6)) (M2 : MI Z "[Ljava/lang/Object;" (ρ0 7)) : ∀ en ∈ en26, Good pg Z a0 ρ0 (⟨"java/lang/Math", "abs", "(I)I"⟩ : MethodName) en :=
  (av_c trivial
  (av_c trivial
  (av_c trivial
  (av_c trivial
  (av_c trivial
  (av_c trivial
  (av_c trivial
  av_n)))))))
set_option maxRecDepth 65536 in
theorem gd27 {Z : State} {a0 : Array Value} {ρ0 : Nat → Nat} (hw : ∀ d ∈ tables_1, d.before a0 Z = true) (hr0 : ∀ d ∈ jdkStatics_1, d.before a0 Z = true) (M0 : MI Z "java/util/ImmutableCollections$List12" (ρ0 5)) (M1 : MI Z "java/util/ArrayList" (ρ0 6)) (M2 : MI Z "[Ljava/lang/Object;" (ρ0 7)) : ∀ en ∈ en27, Good pg Z a0 ρ0 (⟨"java/util/Arrays", "sort", "([I)V"⟩ : MethodName) en :=
  (av_c trivial
  (av_c trivial
  (av_c trivial
  (av_c trivial
  (av_c trivial
  (av_c (ga_c ⟨_, rfl, (c_s (wz hw 275 rfl) (wz hw 276 rfl) (wz hw 277 rfl) (wz hw 278 rfl) (by decide) pd_18 rfl)⟩ ga_n)
  (av_c trivial
  av_n)))))))
set_option maxRecDepth 65536 in
theorem gd28 {Z : State} {a0 : Array Value} {ρ0 : Nat → Nat} (hw : ∀ d ∈ tables_1, d.before a0 Z = true) (hr0 : ∀ d ∈ jdkStatics_1, d.before a0 Z = true) (M0 : MI Z "java/util/ImmutableCollections$List12" (ρ0 5)) (M1 : MI Z "java/util/ArrayList" (ρ0 6)) (M2 : MI Z "[Ljava/lang/Object;" (ρ0 7)) : ∀ en ∈ en28, Good pg Z a0 ρ0 (⟨"java/util/DualPivotQuicksort", "sort", "([IIII)V"⟩ : MethodName) en :=
  (av_c trivial
  (av_c trivial
  (av_c trivial
  (av_c trivial
  (av_c trivial
  (av_c trivial
  (av_c trivial
  (av_c trivial
  (av_c trivial
  (av_c trivial
  (av_c trivial
  (av_c trivial
  (av_c (ga_c ⟨_, rfl, (c_s (wz hw 279 rfl) (wz hw 280 rfl) (wz hw 277 rfl) (wz hw 281 rfl) (by decide) pd_17 rfl)⟩ ga_n)
  (av_c trivial
  av_n))))))))))))))
set_option maxRecDepth 65536 in
theorem gd29 {Z : State} {a0 : Array Value} {ρ0 : Nat → Nat} (hw : ∀ d ∈ tables_1, d.before a0 Z = true) (hr0 : ∀ d ∈ jdkStatics_1, d.before a0 Z = true) (M0 : MI Z "java/util/ImmutableCollections$List12" (ρ0 5)) (M1 : MI Z "java/util/ArrayList" (ρ0 6)) (M2 : MI Z "[Ljava/lang/Object;" (ρ0 7)) : ∀ en ∈ en29, Good pg Z a0 ρ0 (⟨"java/util/DualPivotQuicksort", "sort", "(Ljava/util/DualPivotQuicksort$Sorter;[IIII)V"⟩ : MethodName) en :=
  (av_c trivial
  (av_c trivial
  (av_c trivial
  (av_c trivial
  (av_c trivial
  (av_c trivial
  (av_c trivial
  (av_c trivial
  (av_c trivial
  (av_c trivial
  (av_c trivial
  (av_c trivial
  (av_c trivial
  (av_c trivial
  (av_c trivial
  (av_c trivial
  (av_c trivial
  (av_c trivial
  (av_c trivial
  (av_c trivial
  (av_c trivial
  (av_c trivial
  (av_c trivial
  (av_c (ga_c ⟨_, rfl, (c_s (wz hw 282 rfl) (wz hw 283 rfl) (wz hw 277 rfl) (wz hw 284 rfl) (by decide) pd_16 rfl)⟩ ga_n)
  (av_c trivial
  av_n)))))))))))))))))))))))))
set_option maxRecDepth 65536 in
theorem gd30 {Z : State} {a0 : Array Value} {ρ0 : Nat → Nat} (hw : ∀ d ∈ tables_1, d.before a0 Z = true) (hr0 : ∀ d ∈ jdkStatics_1, d.before a0 Z = true) (M0 : MI Z "java/util/ImmutableCollections$List12" (ρ0 5)) (M1 : MI Z "java/util/ArrayList" (ρ0 6)) (M2 : MI Z "[Ljava/lang/Object;" (ρ0 7)) : ∀ en ∈ en30, Good pg Z a0 ρ0 (⟨"java/util/DualPivotQuicksort", "insertionSort", "([III)V"⟩ : MethodName) en :=
  (av_c trivial
  (av_c trivial
  (av_c trivial
  (av_c trivial
  (av_c trivial
  (av_c trivial
  (av_c trivial
  (av_c trivial
  (av_c trivial
  (av_c trivial
  (av_c trivial
  (av_c trivial
  (av_c trivial
  (av_c trivial
  (av_c trivial
  (av_c trivial
  (av_c trivial
  (av_c trivial
  (av_c trivial
  (av_c trivial
  (av_c trivial
  (av_c trivial
  (av_c trivial
  (av_c trivial
  (av_c trivial
  (av_c trivial
  (av_c trivial
  (av_c trivial
  (av_c trivial
  (av_c trivial
  (av_c trivial
  (av_c trivial
  (av_c trivial
  (av_c trivial
  (av_c trivial
  (av_c trivial
  (av_c trivial
  (av_c trivial
  (av_c trivial
  (av_c trivial
  (av_c trivial
  (av_c trivial
  (av_c trivial
  (av_c trivial
  (av_c trivial
  av_n)))))))))))))))))))))))))))))))))))))))))))))
set_option maxRecDepth 65536 in
theorem gd31 {Z : State} {a0 : Array Value} {ρ0 : Nat → Nat} (hw : ∀ d ∈ tables_1, d.before a0 Z = true) (hr0 : ∀ d ∈ jdkStatics_1, d.before a0 Z = true) (M0 : MI Z "java/util/ImmutableCollections$List12" (ρ0 5)) (M1 : MI Z "java/util/ArrayList" (ρ0 6)) (M2 : MI Z "[Ljava/lang/Object;" (ρ0 7)) : ∀ en ∈ en31, Good pg Z a0 ρ0 (⟨"java/util/Arrays", "binarySearch", "([II)I"⟩ : MethodName) en :=
  (av_c trivial
  (av_c trivial
  (av_c trivial
  (av_c trivial
  (av_c trivial
  (av_c (ga_c ⟨_, rfl, (c_s (wz hw 288 rfl) (wz hw 289 rfl) (wz hw 98 rfl) (wz hw 290 rfl) (by decide) pd_20 rfl)⟩ ga_n)
  (av_c trivial
  av_n)))))))
set_option maxRecDepth 65536 in
theorem gd32 {Z : State} {a0 : Array Value} {ρ0 : Nat → Nat} (hw : ∀ d ∈ tables_1, d.before a0 Z = true) (hr0 : ∀ d ∈ jdkStatics_1, d.before a0 Z = true) (M0 : MI Z "java/util/ImmutableCollections$List12" (ρ0 5)) (M1 : MI Z "java/util/ArrayList" (ρ0 6)) (M2 : MI Z "[Ljava/lang/Object;" (ρ0 7)) : ∀ en ∈ en32, Good pg Z a0 ρ0 (⟨"java/util/Arrays", "binarySearch0", "([IIII)I"⟩ : MethodName) en :=
  (av_c trivial
  (av_c trivial
  (av_c trivial
  (av_c trivial
  (av_c trivial
  (av_c trivial
  (av_c trivial
  (av_c trivial
  (av_c trivial
  (av_c trivial
  (av_c trivial
  (av_c trivial
  (av_c trivial
  (av_c trivial
  (av_c trivial
  (av_c trivial
  (av_c trivial
  (av_c trivial
  (av_c trivial
  (av_c trivial
  (av_c trivial
  (av_c trivial
  (av_c trivial
  (av_c trivial
  (av_c trivial
  (av_c trivial
  (av_c trivial
  (av_c trivial
  (av_c trivial
  (av_c trivial
  (av_c trivial
  (av_c trivial
  (av_c trivial
  (av_c trivial
  (av_c trivial
  (av_c trivial
  (av_c trivial
  (av_c trivial
  (av_c trivial
  (av_c trivial
  (av_c trivial
  (av_c trivial
  (av_c trivial
  av_n)))))))))))))))))))))))))))))))))))))))))))
set_option maxRecDepth 65536 in
theorem gd33 {Z : State} {a0 : Array Value} {ρ0 : Nat → Nat} (hw : ∀ d ∈ tables_1, d.before a0 Z = true) (hr0 : ∀ d ∈ jdkStatics_1, d.before a0 Z = true) (M0 : MI Z "java/util/ImmutableCollections$List12" (ρ0 5)) (M1 : MI Z "java/util/ArrayList" (ρ0 6)) (M2 : MI Z "[Ljava/lang/Object;" (ρ0 7)) : ∀ en ∈ en33, Good pg Z a0 ρ0 (⟨"java/util/Arrays", "copyOf", "([II)[I"⟩ : MethodName) en :=
  (av_c trivial
  (av_c trivial
  (av_c trivial
  (av_c trivial
  (av_c trivial
  (av_c ⟨_, rfl, rfl, (wz hw 294 rfl), (wz hw 263 rfl), (wz hw 267 rfl), (wz hw 265 rfl), (wz hw 266 rfl), (wz hw 268 rfl)⟩
  (av_c ⟨_, (wz hw 295 rfl), (av_c (Or.inr ⟨_, rfl, _, rfl, rfl, Or.inl rfl⟩) av_n)⟩
  (av_c trivial
  av_n))))))))
set_option maxRecDepth 65536 in
theorem gd34 {Z : State} {a0 : Array Value} {ρ0 : Nat → Nat} (hw : ∀ d ∈ tables_1, d.before a0 Z = true) (hr0 : ∀ d ∈ jdkStatics_1, d.before a0 Z = true) (M0 : MI Z "java/util/ImmutableCollections$List12" (ρ0 5)) (M1 : MI Z "java/util/ArrayList" (ρ0 6)) (M2 : MI Z "[Ljava/lang/Object;" (ρ0 7)) : ∀ en ∈ en34, Good pg Z a0 ρ0 (⟨"com/example/meerkat/meerkat/model/Circuit$Builder", "gate", "([I)I"⟩ : MethodName) en :=
  (av_c ⟨_, rfl, (wz hw 300 rfl)⟩
  (av_c trivial
  (av_c trivial
  (av_c (ga_c ⟨_, rfl, (c_iN rfl (wz hw 303 rfl) (wz hw 304 rfl) (wz hw 305 rfl) (by decide) pd_19 rfl)⟩ ga_n)
  (av_c trivial
  (av_c trivial
  (av_c ⟨_, rfl, ⟨_, "", Or.inl (wz hw 134 rfl), Via.refl⟩⟩
  (av_c trivial
  (av_c (ga_c ⟨_, rfl, (c_f (wz hw 314 rfl) (wz hw 315 rfl) (wz hw 316 rfl) (wz hw 317 rfl) (wz hw 318 rfl) (wz hw 319 rfl) (wz hw 320 rfl) (wz hw 321 rfl) (by decide) pd_2 rfl)⟩ ga_n)
  (av_c trivial
  (av_c trivial
  (av_c trivial
  (av_c trivial
  (av_c trivial
  (av_c ⟨_, rfl, ⟨_, "", Or.inl (wz hw 112 rfl), Via.refl⟩⟩
  (av_c trivial
  (av_c (ga_c ⟨_, rfl, (c_s (wz hw 12 rfl) (wz hw 13 rfl) (wz hw 14 rfl) (wz hw 15 rfl) (by decide) pd_0 rfl)⟩ ga_n)
  (av_c (ga_c ⟨_, rfl, (c_f (wz hw 142 rfl) (wz hw 143 rfl) (wz hw 144 rfl) (wz hw 145 rfl) (wz hw 146 rfl) (wz hw 147 rfl) (wz hw 148 rfl) (wz hw 149 rfl) (by decide) pd_13 rfl)⟩ ga_n)
  (av_c trivial
  (av_c trivial
  (av_c ⟨_, rfl, ⟨_, "", Or.inl (wz hw 116 rfl), Via.refl⟩⟩
  (av_c trivial
  (av_c (ga_c ⟨_, rfl, (c_f (wz hw 142 rfl) (wz hw 143 rfl) (wz hw 144 rfl) (wz hw 145 rfl) (wz hw 146 rfl) (wz hw 147 rfl) (wz hw 148 rfl) (wz hw 149 rfl) (by decide) pd_13 rfl)⟩ ga_n)
  (av_c trivial
  (av_c trivial
  (av_c ⟨_, rfl, ⟨_, "", Or.inl (wz hw 112 rfl), Via.refl⟩⟩
  (av_c (ga_c ⟨_, rfl, (c_f (wz hw 182 rfl) (wz hw 183 rfl) (wz hw 184 rfl) (wz hw 185 rfl) (wz hw 186 rfl) (wz hw 187 rfl) (wz hw 188 rfl) (wz hw 149 rfl) (by decide) pd_14 rfl)⟩ ga_n)
  (av_c trivial
  (av_c trivial
  (av_c (ga_c ⟨_, rfl, (c_s (wz hw 330 rfl) (wz hw 331 rfl) (wz hw 332 rfl) (wz hw 333 rfl) (by decide) pd_24 rfl)⟩ ga_n)
  (av_c trivial
  (av_c trivial
  (av_c ⟨_, rfl, ⟨_, "", Or.inl (wz hw 134 rfl), Via.refl⟩⟩
  (av_c trivial
  (av_c trivial
  (av_c (ga_c ⟨_, rfl, (c_f (wz hw 337 rfl) (wz hw 338 rfl) (wz hw 339 rfl) (wz hw 340 rfl) (wz hw 341 rfl) (wz hw 342 rfl) (wz hw 343 rfl) (wz hw 321 rfl) (by decide) pd_34 rfl)⟩ ga_n)
  (av_c trivial
  (av_c trivial
  (av_c (ga_c ⟨_, rfl, (c_v (wz hw 407 rfl) (wz hw 408 rfl) (wz hw 410 rfl) (wz hw 409 rfl) (by decide) pd_14 rfl)⟩ ga_n)
  (av_c trivial
  av_n))))))))))))))))))))))))))))))))))))))))
set_option maxRecDepth 65536 in
theorem gd35 {Z : State} {a0 : Array Value} {ρ0 : Nat → Nat} (hw : ∀ d ∈ tables_1, d.before a0 Z = true) (hr0 : ∀ d ∈ jdkStatics_1, d.before a0 Z = true) (M0 : MI Z "java/util/ImmutableCollections$List12" (ρ0 5)) (M1 : MI Z "java/util/ArrayList" (ρ0 6)) (M2 : MI Z "[Ljava/lang/Object;" (ρ0 7)) : ∀ en ∈ en35, Good pg Z a0 ρ0 (⟨"com/example/meerkat/meerkat/model/Circuit$Gate", "<init>", "([I)V"⟩ : MethodName) en :=
  (av_c trivial
  (av_c (ga_c ⟨_, rfl, (c_i rfl (wz hw 306 rfl) (wz hw 307 rfl) (wz hw 310 rfl) (by decide) pd_1 rfl)⟩ ga_n)
  (av_c trivial
  (av_c trivial
  (av_c ⟨_, rfl, ⟨_, "", Or.inl (wz hw 312 rfl), Via.refl⟩, (av_c ⟨_, rfl, _, rfl, Or.inr ⟨(wz hw 313 rfl), rfl, rfl⟩, by decide⟩ av_n)⟩
  (av_c trivial
  av_n))))))
set_option maxRecDepth 65536 in
theorem gd36 {Z : State} {a0 : Array Value} {ρ0 : Nat → Nat} (hw : ∀ d ∈ tables_1, d.before a0 Z = true) (hr0 : ∀ d ∈ jdkStatics_1, d.before a0 Z = true) (M0 : MI Z "java/util/ImmutableCollections$List12" (ρ0 5)) (M1 : MI Z "java/util/ArrayList" (ρ0 6)) (M2 : MI Z "[Ljava/lang/Object;" (ρ0 7)) : ∀ en ∈ en36, Good pg Z a0 ρ0 (⟨"java/lang/Record", "<init>", "()V"⟩ : MethodName) en :=
  (av_c trivial
  (av_c ⟨(wz hw 311 rfl), (wz hw 7 rfl), wz hw 8 rfl⟩
  (av_c trivial
  av_n)))
set_option maxRecDepth 65536 in
theorem gd37 {Z : State} {a0 : Array Value} {ρ0 : Nat → Nat} (hw : ∀ d ∈ tables_1, d.before a0 Z = true) (hr0 : ∀ d ∈ jdkStatics_1, d.before a0 Z = true) (M0 : MI Z "java/util/ImmutableCollections$List12" (ρ0 5)) (M1 : MI Z "java/util/ArrayList" (ρ0 6)) (M2 : MI Z "[Ljava/lang/Object;" (ρ0 7)) : ∀ en ∈ en37, Good pg Z a0 ρ0 (⟨"java/util/HashMap", "get", "(Ljava/lang/Object;)Ljava/lang/Object;"⟩ : MethodName) en :=
  (av_c trivial
  (av_c trivial
  (av_c (ga_c ⟨_, rfl, (c_v (wz hw 323 rfl) (wz hw 324 rfl) (wz hw 326 rfl) (wz hw 325 rfl) (by decide) pd_23 rfl)⟩ ga_n)
  (av_c trivial
  (av_c trivial
  (av_c trivial
  (av_c trivial
  (av_c trivial
  (av_c trivial
  av_n)))))))))
set_option maxRecDepth 65536 in
theorem gd38 {Z : State} {a0 : Array Value} {ρ0 : Nat → Nat} (hw : ∀ d ∈ tables_1, d.before a0 Z = true) (hr0 : ∀ d ∈ jdkStatics_1, d.before a0 Z = true) (M0 : MI Z "java/util/ImmutableCollections$List12" (ρ0 5)) (M1 : MI Z "java/util/ArrayList" (ρ0 6)) (M2 : MI Z "[Ljava/lang/Object;" (ρ0 7)) : ∀ en ∈ en38, Good pg Z a0 ρ0 (⟨"java/util/HashMap", "getNode", "(Ljava/lang/Object;)Ljava/util/HashMap$Node;"⟩ : MethodName) en :=
  (av_c trivial
  (av_c ⟨_, rfl, ⟨_, "", Or.inl (wz hw 328 rfl), Via.refl⟩⟩
  (av_c trivial
  (av_c trivial
  (av_c trivial
  (av_c trivial
  (av_c trivial
  av_n)))))))
set_option maxRecDepth 65536 in
theorem gd39 {Z : State} {a0 : Array Value} {ρ0 : Nat → Nat} (hw : ∀ d ∈ tables_1, d.before a0 Z = true) (hr0 : ∀ d ∈ jdkStatics_1, d.before a0 Z = true) (M0 : MI Z "java/util/ImmutableCollections$List12" (ρ0 5)) (M1 : MI Z "java/util/ArrayList" (ρ0 6)) (M2 : MI Z "[Ljava/lang/Object;" (ρ0 7)) : ∀ en ∈ en39, Good pg Z a0 ρ0 (⟨"java/lang/Integer", "valueOf", "(I)Ljava/lang/Integer;"⟩ : MethodName) en :=
  (av_c trivial
  (av_c trivial
  (av_c trivial
  (av_c trivial
  (av_c ⟨_, rfl, ⟨_, "", Or.inl (wz hw 334 rfl), Via.refl⟩⟩
  (av_c trivial
  (av_c ⟨_, rfl, ⟨_, "", Or.inl (wz hw 336 rfl), Via.refl⟩⟩
  (av_c trivial
  (av_c trivial
  (av_c trivial
  (av_c trivial
  (av_c trivial
  av_n))))))))))))
set_option maxRecDepth 65536 in
theorem gd40 {Z : State} {a0 : Array Value} {ρ0 : Nat → Nat} (hw : ∀ d ∈ tables_1, d.before a0 Z = true) (hr0 : ∀ d ∈ jdkStatics_1, d.before a0 Z = true) (M0 : MI Z "java/util/ImmutableCollections$List12" (ρ0 5)) (M1 : MI Z "java/util/ArrayList" (ρ0 6)) (M2 : MI Z "[Ljava/lang/Object;" (ρ0 7)) : ∀ en ∈ en40, Good pg Z a0 ρ0 (⟨"java/util/HashMap", "put", "(Ljava/lang/Object;Ljava/lang/Object;)Ljava/lang/Object;"⟩ : MethodName) en :=
  (av_c trivial
  (av_c trivial
  (av_c (ga_c ⟨_, rfl, (c_s (wz hw 345 rfl) (wz hw 346 rfl) (wz hw 120 rfl) (wz hw 347 rfl) (by decide) pd_28 rfl)⟩ ga_n)
  (av_c trivial
  (av_c trivial
  (av_c trivial
  (av_c trivial
  (av_c (ga_c ⟨_, rfl, (c_v (wz hw 364 rfl) (wz hw 365 rfl) (wz hw 367 rfl) (wz hw 366 rfl) (by decide) pd_33 rfl)⟩ ga_n)
  (av_c trivial
  av_n)))))))))
set_option maxRecDepth 65536 in
theorem gd41 {Z : State} {a0 : Array Value} {ρ0 : Nat → Nat} (hw : ∀ d ∈ tables_1, d.before a0 Z = true) (hr0 : ∀ d ∈ jdkStatics_1, d.before a0 Z = true) (M0 : MI Z "java/util/ImmutableCollections$List12" (ρ0 5)) (M1 : MI Z "java/util/ArrayList" (ρ0 6)) (M2 : MI Z "[Ljava/lang/Object;" (ρ0 7)) : ∀ en ∈ en41, Good pg Z a0 ρ0 (⟨"java/util/HashMap", "hash", "(Ljava/lang/Object;)I"⟩ : MethodName) en :=
  (av_c trivial
  (av_c trivial
  (av_c trivial
  (av_c (ga_c ⟨_, rfl, (c_v' (wz hw 348 rfl) (wz hw 349 rfl) (wz hw 180 rfl) rfl (wz hw 351 rfl) (wz hw 352 rfl) (by decide) pd_14 rfl)⟩ ga_n)
  (av_c trivial
  (av_c trivial
  (av_c trivial
  (av_c trivial
  (av_c trivial
  (av_c trivial
  (av_c trivial
  av_n)))))))))))
set_option maxRecDepth 65536 in
theorem gd42 {Z : State} {a0 : Array Value} {ρ0 : Nat → Nat} (hw : ∀ d ∈ tables_1, d.before a0 Z = true) (hr0 : ∀ d ∈ jdkStatics_1, d.before a0 Z = true) (M0 : MI Z "java/util/ImmutableCollections$List12" (ρ0 5)) (M1 : MI Z "java/util/ArrayList" (ρ0 6)) (M2 : MI Z "[Ljava/lang/Object;" (ρ0 7)) : ∀ en ∈ en42, Good pg Z a0 ρ0 (⟨"com/example/meerkat/meerkat/model/Circuit$Gate", "hashCode", "()I"⟩ : MethodName) en :=
  (av_c trivial
  (av_c ⟨_, rfl, ⟨_, "", Or.inl (wz hw 312 rfl), Via.refl⟩⟩
  (av_c (ga_c ⟨_, rfl, (c_s (wz hw 354 rfl) (wz hw 355 rfl) (wz hw 98 rfl) (wz hw 356 rfl) (by decide) pd_27 rfl)⟩ ga_n)
  (av_c trivial
  av_n))))
set_option maxRecDepth 65536 in
theorem gd43 {Z : State} {a0 : Array Value} {ρ0 : Nat → Nat} (hw : ∀ d ∈ tables_1, d.before a0 Z = true) (hr0 : ∀ d ∈ jdkStatics_1, d.before a0 Z = true) (M0 : MI Z "java/util/ImmutableCollections$List12" (ρ0 5)) (M1 : MI Z "java/util/ArrayList" (ρ0 6)) (M2 : MI Z "[Ljava/lang/Object;" (ρ0 7)) : ∀ en ∈ en43, Good pg Z a0 ρ0 (⟨"java/util/Arrays", "hashCode", "([I)I"⟩ : MethodName) en :=
  (av_c trivial
  (av_c trivial
  (av_c trivial
  (av_c trivial
  (av_c trivial
  (av_c trivial
  (av_c trivial
  (av_c trivial
  (av_c trivial
  (av_c trivial
  (av_c trivial
  (av_c (ga_c ⟨_, rfl, (c_s (wz hw 357 rfl) (wz hw 358 rfl) (wz hw 170 rfl) (wz hw 359 rfl) (by decide) pd_26 rfl)⟩ ga_n)
  (av_c trivial
  av_n)))))))))))))
set_option maxRecDepth 65536 in
theorem gd44 {Z : State} {a0 : Array Value} {ρ0 : Nat → Nat} (hw : ∀ d ∈ tables_1, d.before a0 Z = true) (hr0 : ∀ d ∈ jdkStatics_1, d.before a0 Z = true) (M0 : MI Z "java/util/ImmutableCollections$List12" (ρ0 5)) (M1 : MI Z "java/util/ArrayList" (ρ0 6)) (M2 : MI Z "[Ljava/lang/Object;" (ρ0 7)) : ∀ en ∈ en44, Good pg Z a0 ρ0 (⟨"jdk/internal/util/ArraysSupport", "vectorizedHashCode", "(Ljava/lang/Object;IIII)I"⟩ : MethodName) en :=
  (av_c trivial
  (av_c trivial
  (av_c trivial
  (av_c trivial
  (av_c ⟨_, (wz hw 360 rfl), (av_c (Or.inr ⟨_, rfl, _, rfl, rfl, Or.inl rfl⟩) av_n)⟩
  (av_c trivial
  (av_c trivial
  (av_c (ga_c ⟨_, rfl, (c_s (wz hw 361 rfl) (wz hw 362 rfl) (wz hw 170 rfl) (wz hw 363 rfl) (by decide) pd_25 rfl)⟩ ga_n)
  (av_c trivial
  (av_c trivial
  av_n))))))))))
set_option maxRecDepth 65536 in
theorem gd45 {Z : State} {a0 : Array Value} {ρ0 : Nat → Nat} (hw : ∀ d ∈ tables_1, d.before a0 Z = true) (hr0 : ∀ d ∈ jdkStatics_1, d.before a0 Z = true) (M0 : MI Z "java/util/ImmutableCollections$List12" (ρ0 5)) (M1 : MI Z "java/util/ArrayList" (ρ0 6)) (M2 : MI Z "[Ljava/lang/Object;" (ρ0 7)) : ∀ en ∈ en45, Good pg Z a0 ρ0 (⟨"jdk/internal/util/ArraysSupport", "hashCode", "(I[III)I"⟩ : MethodName) en :=
  (av_c trivial
  (av_c trivial
  (av_c trivial
  (av_c trivial
  (av_c trivial
  (av_c trivial
  (av_c trivial
  (av_c trivial
  (av_c trivial
  (av_c trivial
  (av_c trivial
  (av_c trivial
  (av_c trivial
  (av_c trivial
  (av_c trivial
  (av_c trivial
  (av_c trivial
  (av_c trivial
  (av_c trivial
  (av_c trivial
  (av_c trivial
  av_n)))))))))))))))))))))
set_option maxRecDepth 65536 in
theorem gd46 {Z : State} {a0 : Array Value} {ρ0 : Nat → Nat} (hw : ∀ d ∈ tables_1, d.before a0 Z = true) (hr0 : ∀ d ∈ jdkStatics_1, d.before a0 Z = true) (M0 : MI Z "java/util/ImmutableCollections$List12" (ρ0 5)) (M1 : MI Z "java/util/ArrayList" (ρ0 6)) (M2 : MI Z "[Ljava/lang/Object;" (ρ0 7)) : ∀ en ∈ en46, Good pg Z a0 ρ0 (⟨"java/util/HashMap", "putVal", "(ILjava/lang/Object;Ljava/lang/Object;ZZ)Ljava/lang/Object;"⟩ : MethodName) en :=
  (av_c trivial
  (av_c ⟨_, rfl, ⟨_, "", Or.inl (wz hw 328 rfl), Via.refl⟩⟩
  (av_c trivial
  (av_c trivial
  (av_c trivial
  (av_c trivial
  (av_c (ga_c ⟨_, rfl, (c_v (wz hw 369 rfl) (wz hw 370 rfl) (wz hw 372 rfl) (wz hw 371 rfl) (by decide) pd_29 rfl)⟩ ga_n)
  (av_c trivial
  (av_c trivial
  (av_c trivial
  (av_c trivial
  (av_c trivial
  (av_c trivial
  (av_c trivial
  (av_c trivial
  (av_c trivial
  (av_c trivial
  (av_c trivial
  (av_c trivial
  (av_c trivial
  (av_c trivial
  (av_c trivial
  (av_c trivial
  (av_c trivial
  (av_c trivial
  (av_c trivial
  (av_c trivial
  (av_c trivial
  (av_c trivial
  (av_c trivial
  (av_c (ga_c ⟨_, rfl, (c_v (wz hw 378 rfl) (wz hw 379 rfl) (wz hw 381 rfl) (wz hw 380 rfl) (by decide) pd_31 rfl)⟩ ga_n)
  (av_c trivial
  (av_c trivial
  (av_c trivial
  (av_c trivial
  (av_c ⟨_, rfl, ⟨_, "", Or.inl (wz hw 398 rfl), Via.refl⟩⟩
  (av_c trivial
  (av_c trivial
  (av_c ⟨_, rfl, ⟨_, "", Or.inl (wz hw 398 rfl), Via.refl⟩, (av_c ⟨_, rfl, _, rfl, Or.inl (wz hw 399 rfl), by decide⟩ av_n)⟩
  (av_c trivial
  (av_c trivial
  (av_c ⟨_, rfl, ⟨_, "", Or.inl (wz hw 400 rfl), Via.refl⟩⟩
  (av_c trivial
  (av_c trivial
  (av_c trivial
  (av_c ⟨_, rfl, ⟨_, "", Or.inl (wz hw 400 rfl), Via.refl⟩, (av_c ⟨_, rfl, _, rfl, Or.inl (wz hw 401 rfl), by decide⟩ av_n)⟩
  (av_c trivial
  (av_c ⟨_, rfl, ⟨_, "", Or.inl (wz hw 374 rfl), Via.refl⟩⟩
  (av_c trivial
  (av_c trivial
  (av_c trivial
  (av_c (ga_c ⟨_, rfl, (c_v (wz hw 402 rfl) (wz hw 403 rfl) (wz hw 405 rfl) (wz hw 404 rfl) (by decide) pd_32 rfl)⟩ ga_n)
  (av_c trivial
  (av_c trivial
  av_n))))))))))))))))))))))))))))))))))))))))))))))))))))))
set_option maxRecDepth 65536 in
theorem gd47 {Z : State} {a0 : Array Value} {ρ0 : Nat → Nat} (hw : ∀ d ∈ tables_1, d.before a0 Z = true) (hr0 : ∀ d ∈ jdkStatics_1, d.before a0 Z = true) (M0 : MI Z "java/util/ImmutableCollections$List12" (ρ0 5)) (M1 : MI Z "java/util/ArrayList" (ρ0 6)) (M2 : MI Z "[Ljava/lang/Object;" (ρ0 7)) : ∀ en ∈ en47, Good pg Z a0 ρ0 (⟨"java/util/HashMap", "resize", "()[Ljava/util/HashMap$Node;"⟩ : MethodName) en :=
  (av_c trivial
  (av_c ⟨_, rfl, ⟨_, "", Or.inl (wz hw 328 rfl), Via.refl⟩⟩
  (av_c trivial
  (av_c trivial
  (av_c trivial
  (av_c trivial
  (av_c trivial
  (av_c trivial
  (av_c trivial
  (av_c ⟨_, rfl, ⟨_, "", Or.inl (wz hw 374 rfl), Via.refl⟩⟩
  (av_c trivial
  (av_c trivial
  (av_c trivial
  (av_c trivial
  (av_c trivial
  (av_c trivial
  (av_c trivial
  (av_c trivial
  (av_c trivial
  (av_c trivial
  (av_c trivial
  (av_c trivial
  (av_c trivial
  (av_c trivial
  (av_c trivial
  (av_c ⟨_, rfl, ⟨_, "", Or.inl (wz hw 374 rfl), Via.refl⟩, (av_c ⟨_, rfl, _, rfl, Or.inl (wz hw 375 rfl), by decide⟩ av_n)⟩
  (av_c trivial
  (av_c ⟨_, _, rfl, rfl, rfl, rfl, (wz hw 376 rfl), wz hw 377 rfl⟩
  (av_c trivial
  (av_c trivial
  (av_c trivial
  (av_c ⟨_, rfl, ⟨_, "", Or.inl (wz hw 328 rfl), Via.refl⟩, (av_c ⟨_, rfl, _, rfl, Or.inl (wz hw 329 rfl), by decide⟩ av_n)⟩
  (av_c trivial
  (av_c trivial
  (av_c trivial
  (av_c trivial
  av_n))))))))))))))))))))))))))))))))))))
set_option maxRecDepth 65536 in
theorem gd48 {Z : State} {a0 : Array Value} {ρ0 : Nat → Nat} (hw : ∀ d ∈ tables_1, d.before a0 Z = true) (hr0 : ∀ d ∈ jdkStatics_1, d.before a0 Z = true) (M0 : MI Z "java/util/ImmutableCollections$List12" (ρ0 5)) (M1 : MI Z "java/util/ArrayList" (ρ0 6)) (M2 : MI Z "[Ljava/lang/Object;" (ρ0 7)) : ∀ en ∈ en48, Good pg Z a0 ρ0 (⟨"java/util/HashMap", "newNode", "(ILjava/lang/Object;Ljava/lang/Object;Ljava/util/HashMap$Node;)Ljava/util/HashMap$Node;"⟩ : MethodName) en :=
  (av_c ⟨_, rfl, (wz hw 376 rfl)⟩
  (av_c trivial
  (av_c trivial
  (av_c trivial
  (av_c trivial
  (av_c trivial
  (av_c (ga_c ⟨_, rfl, (c_i rfl (wz hw 385 rfl) (wz hw 386 rfl) (wz hw 388 rfl) (by decide) pd_30 rfl)⟩ ga_n)
  (av_c trivial
  av_n))))))))
set_option maxRecDepth 65536 in
theorem gd49 {Z : State} {a0 : Array Value} {ρ0 : Nat → Nat} (hw : ∀ d ∈ tables_1, d.before a0 Z = true) (hr0 : ∀ d ∈ jdkStatics_1, d.before a0 Z = true) (M0 : MI Z "java/util/ImmutableCollections$List12" (ρ0 5)) (M1 : MI Z "java/util/ArrayList" (ρ0 6)) (M2 : MI Z "[Ljava/lang/Object;" (ρ0 7)) : ∀ en ∈ en49, Good pg Z a0 ρ0 (⟨"java/util/HashMap$Node", "<init>", "(ILjava/lang/Object;Ljava/lang/Object;Ljava/util/HashMap$Node;)V"⟩ : MethodName) en :=
  (av_c trivial
  (av_c ⟨(wz hw 389 rfl), (wz hw 7 rfl), wz hw 8 rfl⟩
  (av_c trivial
  (av_c trivial
  (av_c ⟨_, rfl, ⟨_, "", Or.inl (wz hw 390 rfl), Via.refl⟩, (av_c ⟨_, rfl, _, rfl, Or.inr ⟨(wz hw 391 rfl), rfl, rfl⟩, by decide⟩ av_n)⟩
  (av_c trivial
  (av_c trivial
  (av_c ⟨_, rfl, ⟨_, "", Or.inl (wz hw 392 rfl), Via.refl⟩, (av_c ⟨_, rfl, _, rfl, Or.inr ⟨(wz hw 393 rfl), rfl, rfl⟩, by decide⟩ av_n)⟩
  (av_c trivial
  (av_c trivial
  (av_c ⟨_, rfl, ⟨_, "", Or.inl (wz hw 394 rfl), Via.refl⟩, (av_c ⟨_, rfl, _, rfl, Or.inl (wz hw 395 rfl), by decide⟩ av_n)⟩
  (av_c trivial
  (av_c trivial
  (av_c ⟨_, rfl, ⟨_, "", Or.inl (wz hw 396 rfl), Via.refl⟩, (av_c ⟨_, rfl, _, rfl, Or.inl (wz hw 397 rfl), by decide⟩ av_n)⟩
  (av_c trivial
  av_n)))))))))))))))
set_option maxRecDepth 65536 in
theorem gd50 {Z : State} {a0 : Array Value} {ρ0 : Nat → Nat} (hw : ∀ d ∈ tables_1, d.before a0 Z = true) (hr0 : ∀ d ∈ jdkStatics_1, d.before a0 Z = true) (M0 : MI Z "java/util/ImmutableCollections$List12" (ρ0 5)) (M1 : MI Z "java/util/ArrayList" (ρ0 6)) (M2 : MI Z "[Ljava/lang/Object;" (ρ0 7)) : ∀ en ∈ en50, Good pg Z a0 ρ0 (⟨"java/util/HashMap", "afterNodeInsertion", "(Z)V"⟩ : MethodName) en :=
  (av_c trivial
  av_n)
set_option maxRecDepth 65536 in
theorem gd51 {Z : State} {a0 : Array Value} {ρ0 : Nat → Nat} (hw : ∀ d ∈ tables_1, d.before a0 Z = true) (hr0 : ∀ d ∈ jdkStatics_1, d.before a0 Z = true) (M0 : MI Z "java/util/ImmutableCollections$List12" (ρ0 5)) (M1 : MI Z "java/util/ArrayList" (ρ0 6)) (M2 : MI Z "[Ljava/lang/Object;" (ρ0 7)) : ∀ en ∈ en51, Good pg Z a0 ρ0 (⟨"java/lang/Integer", "intValue", "()I"⟩ : MethodName) en :=
  (av_c trivial
  (av_c ⟨_, rfl, ⟨_, "", Or.inl (wz hw 412 rfl), Via.refl⟩⟩
  (av_c trivial
  av_n)))
set_option maxRecDepth 65536 in
theorem gd52 {Z : State} {a0 : Array Value} {ρ0 : Nat → Nat} (hw : ∀ d ∈ tables_1, d.before a0 Z = true) (hr0 : ∀ d ∈ jdkStatics_1, d.before a0 Z = true) (M0 : MI Z "java/util/ImmutableCollections$List12" (ρ0 5)) (M1 : MI Z "java/util/ArrayList" (ρ0 6)) (M2 : MI Z "[Ljava/lang/Object;" (ρ0 7)) : ∀ en ∈ en52, Good pg Z a0 ρ0 (⟨"com/example/meerkat/meerkat/model/Circuit$Builder", "build", "()Lcom/example/meerkat/meerkat/model/Circuit;"⟩ : MethodName) en :=
  (av_c trivial
  (av_c ⟨_, rfl, ⟨_, "", Or.inl (wz hw 112 rfl), Via.refl⟩⟩
  (av_c (ga_c ⟨_, rfl, (c_f (wz hw 182 rfl) (wz hw 183 rfl) (wz hw 184 rfl) (wz hw 185 rfl) (wz hw 186 rfl) (wz hw 187 rfl) (wz hw 188 rfl) (wz hw 149 rfl) (by decide) pd_14 rfl)⟩ ga_n)
  (av_c ⟨_, rfl, rfl, rfl, rfl, (fun _ z => nomatch z), rfl, (wz hw 196 rfl)⟩
  (av_c trivial
  (av_c trivial
  (av_c ⟨_, rfl, ⟨_, "", Or.inl (wz hw 112 rfl), Via.refl⟩⟩
  (av_c (ga_c ⟨_, rfl, (c_f (wz hw 182 rfl) (wz hw 183 rfl) (wz hw 184 rfl) (wz hw 185 rfl) (wz hw 186 rfl) (wz hw 187 rfl) (wz hw 188 rfl) (wz hw 149 rfl) (by decide) pd_14 rfl)⟩ ga_n)
  (av_c trivial
  (av_c trivial
  (av_c ⟨_, rfl, rfl, rfl, rfl, (fun _ z => nomatch z), rfl, (wz hw 114 rfl)⟩
  (av_c trivial
  (av_c trivial
  (av_c trivial
  (av_c trivial
  (av_c trivial
  (av_c trivial
  (av_c trivial
  (av_c ⟨_, rfl, ⟨_, "", Or.inl (wz hw 112 rfl), Via.refl⟩⟩
  (av_c (ga_c ⟨_, rfl, (c_f (wz hw 182 rfl) (wz hw 183 rfl) (wz hw 184 rfl) (wz hw 185 rfl) (wz hw 186 rfl) (wz hw 187 rfl) (wz hw 188 rfl) (wz hw 149 rfl) (by decide) pd_14 rfl)⟩ ga_n)
  (av_c trivial
  (av_c trivial
  (av_c trivial
  (av_c trivial
  (av_c ⟨_, rfl, ⟨_, "", Or.inl (wz hw 112 rfl), Via.refl⟩⟩
  (av_c trivial
  (av_c (ga_c ⟨_, rfl, (c_f (wz hw 197 rfl) (wz hw 198 rfl) (wz hw 199 rfl) (wz hw 200 rfl) (wz hw 201 rfl) (wz hw 202 rfl) (wz hw 203 rfl) (wz hw 149 rfl) (by decide) pd_36 rfl)⟩ ga_n)
  (av_c ⟨_, (wz hw 217 rfl), (av_c (Or.inl ⟨_, rfl, _, rfl, Or.inl rfl⟩) av_n)⟩
  (av_c (ga_c ⟨_, rfl, (c_v (wz hw 219 rfl) (wz hw 220 rfl) (wz hw 222 rfl) (wz hw 221 rfl) (by decide) pd_37 rfl)⟩ ga_n)
  (av_c trivial
  (av_c trivial
  (av_c trivial
  (av_c trivial
  (av_c trivial
  (av_c trivial
  (av_c trivial
  (av_c ⟨_, rfl, ⟨_, "", Or.inl (wz hw 116 rfl), Via.refl⟩⟩
  (av_c trivial
  (av_c (ga_c ⟨_, rfl, (c_f (wz hw 197 rfl) (wz hw 198 rfl) (wz hw 199 rfl) (wz hw 200 rfl) (wz hw 201 rfl) (wz hw 202 rfl) (wz hw 203 rfl) (wz hw 149 rfl) (by decide) pd_36 rfl)⟩ ga_n)
  (av_c ⟨_, (wz hw 226 rfl), (av_c (Or.inr ⟨_, rfl, _, rfl, rfl, Or.inl rfl⟩) av_n)⟩
  (av_c trivial
  (av_c trivial
  (av_c trivial
  (av_c trivial
  (av_c trivial
  (av_c trivial
  (av_c trivial
  (av_c ⟨_, rfl, ⟨_, "", Or.inl (wz hw 112 rfl), Via.refl⟩⟩
  (av_c (ga_c ⟨_, rfl, (c_f (wz hw 182 rfl) (wz hw 183 rfl) (wz hw 184 rfl) (wz hw 185 rfl) (wz hw 186 rfl) (wz hw 187 rfl) (wz hw 188 rfl) (wz hw 149 rfl) (by decide) pd_14 rfl)⟩ ga_n)
  (av_c trivial
  (av_c trivial
  (av_c trivial
  (av_c ⟨_, rfl, rfl, rfl, rfl, (fun _ z => nomatch z), rfl, (wz hw 114 rfl)⟩
  (av_c trivial
  (av_c trivial
  (av_c trivial
  (av_c trivial
  (av_c trivial
  (av_c ⟨_, rfl, ⟨_, "", Or.inl (wz hw 112 rfl), Via.refl⟩⟩
  (av_c (ga_c ⟨_, rfl, (c_f (wz hw 182 rfl) (wz hw 183 rfl) (wz hw 184 rfl) (wz hw 185 rfl) (wz hw 186 rfl) (wz hw 187 rfl) (wz hw 188 rfl) (wz hw 149 rfl) (by decide) pd_14 rfl)⟩ ga_n)
  (av_c trivial
  (av_c trivial
  (av_c ⟨_, rfl, ⟨_, "", Or.inl (wz hw 116 rfl), Via.refl⟩⟩
  (av_c trivial
  (av_c (ga_c ⟨_, rfl, (c_f (wz hw 197 rfl) (wz hw 198 rfl) (wz hw 199 rfl) (wz hw 200 rfl) (wz hw 201 rfl) (wz hw 202 rfl) (wz hw 203 rfl) (wz hw 149 rfl) (by decide) pd_36 rfl)⟩ ga_n)
  (av_c ⟨_, (wz hw 226 rfl), (av_c (Or.inr ⟨_, rfl, _, rfl, rfl, Or.inl rfl⟩) av_n)⟩
  (av_c trivial
  (av_c trivial
  (av_c trivial
  (av_c trivial
  (av_c trivial
  (av_c trivial
  (av_c trivial
  (av_c trivial
  (av_c trivial
  (av_c ⟨(wz hw 228 rfl), (wz hw 109 rfl), (wz hw 107 rfl), (wz hw 108 rfl)⟩
  (av_c trivial
  (av_c trivial
  (av_c ⟨_, rfl, (wz hw 229 rfl)⟩
  (av_c trivial
  (av_c trivial
  (av_c trivial
  (av_c trivial
  (av_c (ga_c ⟨_, rfl, (c_iN rfl (wz hw 232 rfl) (wz hw 233 rfl) (wz hw 234 rfl) (by decide) pd_38 rfl)⟩ ga_n)
  (av_c trivial
  av_n)))))))))))))))))))))))))))))))))))))))))))))))))))))))))))))))))))))))))))))))))))))
set_option maxRecDepth 65536 in
theorem gd53 {Z : State} {a0 : Array Value} {ρ0 : Nat → Nat} (hw : ∀ d ∈ tables_1, d.before a0 Z = true) (hr0 : ∀ d ∈ jdkStatics_1, d.before a0 Z = true) (M0 : MI Z "java/util/ImmutableCollections$List12" (ρ0 5)) (M1 : MI Z "java/util/ArrayList" (ρ0 6)) (M2 : MI Z "[Ljava/lang/Object;" (ρ0 7)) : ∀ en ∈ en53, Good pg Z a0 ρ0 (⟨"java/util/ArrayList", "get", "(I)Ljava/lang/Object;"⟩ : MethodName) en :=
  (av_c trivial
  (av_c trivial
  (av_c ⟨_, rfl, ⟨_, "", Or.inl (wz hw 82 rfl), Via.refl⟩⟩
  (av_c (ga_c ⟨_, rfl, (c_s (wz hw 205 rfl) (wz hw 206 rfl) (wz hw 49 rfl) (wz hw 207 rfl) (by decide) pd_6 rfl)⟩ ga_n)
  (av_c trivial
  (av_c trivial
  (av_c trivial
  (av_c (ga_c ⟨_, rfl, (c_v (wz hw 212 rfl) (wz hw 213 rfl) (wz hw 215 rfl) (wz hw 214 rfl) (by decide) pd_36 rfl)⟩ ga_n)
  (av_c trivial
  av_n)))))))))
set_option maxRecDepth 65536 in
theorem gd54 {Z : State} {a0 : Array Value} {ρ0 : Nat → Nat} (hw : ∀ d ∈ tables_1, d.before a0 Z = true) (hr0 : ∀ d ∈ jdkStatics_1, d.before a0 Z = true) (M0 : MI Z "java/util/ImmutableCollections$List12" (ρ0 5)) (M1 : MI Z "java/util/ArrayList" (ρ0 6)) (M2 : MI Z "[Ljava/lang/Object;" (ρ0 7)) : ∀ en ∈ en54, Good pg Z a0 ρ0 (⟨"java/util/Objects", "checkIndex", "(II)I"⟩ : MethodName) en :=
  (av_c trivial
  (av_c trivial
  (av_c trivial
  (av_c (ga_c ⟨_, rfl, (c_s (wz hw 208 rfl) (wz hw 209 rfl) (wz hw 210 rfl) (wz hw 211 rfl) (by decide) pd_35 rfl)⟩ ga_n)
  (av_c trivial
  av_n)))))
set_option maxRecDepth 65536 in
theorem gd55 {Z : State} {a0 : Array Value} {ρ0 : Nat → Nat} (hw : ∀ d ∈ tables_1, d.before a0 Z = true) (hr0 : ∀ d ∈ jdkStatics_1, d.before a0 Z = true) (M0 : MI Z "java/util/ImmutableCollections$List12" (ρ0 5)) (M1 : MI Z "java/util/ArrayList" (ρ0 6)) (M2 : MI Z "[Ljava/lang/Object;" (ρ0 7)) : ∀ en ∈ en55, Good pg Z a0 ρ0 (⟨"jdk/internal/util/Preconditions", "checkIndex", "(IILjava/util/function/BiFunction;)I"⟩ : MethodName) en :=
  (av_c trivial
  (av_c trivial
  (av_c trivial
  (av_c trivial
  (av_c trivial
  (av_c trivial
  (av_c trivial
  av_n)))))))
set_option maxRecDepth 65536 in
theorem gd56 {Z : State} {a0 : Array Value} {ρ0 : Nat → Nat} (hw : ∀ d ∈ tables_1, d.before a0 Z = true) (hr0 : ∀ d ∈ jdkStatics_1, d.before a0 Z = true) (M0 : MI Z "java/util/ImmutableCollections$List12" (ρ0 5)) (M1 : MI Z "java/util/ArrayList" (ρ0 6)) (M2 : MI Z "[Ljava/lang/Object;" (ρ0 7)) : ∀ en ∈ en56, Good pg Z a0 ρ0 (⟨"java/util/ArrayList", "elementData", "(I)Ljava/lang/Object;"⟩ : MethodName) en :=
  (av_c trivial
  (av_c ⟨_, rfl, ⟨_, "", Or.inl (wz hw 110 rfl), Via.refl⟩⟩
  (av_c trivial
  (av_c trivial
  (av_c trivial
  av_n)))))
set_option maxRecDepth 65536 in
theorem gd57 {Z : State} {a0 : Array Value} {ρ0 : Nat → Nat} (hw : ∀ d ∈ tables_1, d.before a0 Z = true) (hr0 : ∀ d ∈ jdkStatics_1, d.before a0 Z = true) (M0 : MI Z "java/util/ImmutableCollections$List12" (ρ0 5)) (M1 : MI Z "java/util/ArrayList" (ρ0 6)) (M2 : MI Z "[Ljava/lang/Object;" (ρ0 7)) : ∀ en ∈ en57, Good pg Z a0 ρ0 (⟨"java/lang/Boolean", "booleanValue", "()Z"⟩ : MethodName) en :=
  (av_c trivial
  (av_c ⟨_, rfl, ⟨_, "", Or.inl (wz hw 224 rfl), Via.refl⟩⟩
  (av_c trivial
  av_n)))
set_option maxRecDepth 65536 in
theorem gd58 {Z : State} {a0 : Array Value} {ρ0 : Nat → Nat} (hw : ∀ d ∈ tables_1, d.before a0 Z = true) (hr0 : ∀ d ∈ jdkStatics_1, d.before a0 Z = true) (M0 : MI Z "java/util/ImmutableCollections$List12" (ρ0 5)) (M1 : MI Z "java/util/ArrayList" (ρ0 6)) (M2 : MI Z "[Ljava/lang/Object;" (ρ0 7)) : ∀ en ∈ en58, Good pg Z a0 ρ0 (⟨"com/example/meerkat/meerkat/model/Circuit", "<init>", "([Z[I[I)V"⟩ : MethodName) en :=
  (av_c trivial
  (av_c ⟨(wz hw 235 rfl), (wz hw 7 rfl), wz hw 8 rfl⟩
  (av_c trivial
  (av_c trivial
  (av_c ⟨_, rfl, ⟨_, "", Or.inl (wz hw 236 rfl), Via.refl⟩, (av_c ⟨_, rfl, _, rfl, Or.inr ⟨(wz hw 237 rfl), rfl, rfl⟩, by decide⟩ av_n)⟩
  (av_c trivial
  (av_c trivial
  (av_c ⟨_, rfl, ⟨_, "", Or.inl (wz hw 238 rfl), Via.refl⟩, (av_c ⟨_, rfl, _, rfl, Or.inr ⟨(wz hw 239 rfl), rfl, rfl⟩, by decide⟩ av_n)⟩
  (av_c trivial
  (av_c trivial
  (av_c ⟨_, rfl, ⟨_, "", Or.inl (wz hw 240 rfl), Via.refl⟩, (av_c ⟨_, rfl, _, rfl, Or.inr ⟨(wz hw 241 rfl), rfl, rfl⟩, by decide⟩ av_n)⟩
  (av_c trivial
  av_n))))))))))))
set_option maxRecDepth 65536 in
theorem gd59 {Z : State} {a0 : Array Value} {ρ0 : Nat → Nat} (hw : ∀ d ∈ tables_1, d.before a0 Z = true) (hr0 : ∀ d ∈ jdkStatics_1, d.before a0 Z = true) (M0 : MI Z "java/util/ImmutableCollections$List12" (ρ0 5)) (M1 : MI Z "java/util/ArrayList" (ρ0 6)) (M2 : MI Z "[Ljava/lang/Object;" (ρ0 7)) : ∀ en ∈ en59, Good pg Z a0 ρ0 (⟨"com/example/meerkat/meerkat/model/Circuit", "nodeCount", "()I"⟩ : MethodName) en :=
  (av_c trivial
  (av_c ⟨_, rfl, ⟨_, "", Or.inl (wz hw 236 rfl), Via.refl⟩⟩
  (av_c trivial
  (av_c trivial
  (av_c trivial
  (av_c trivial
  av_n))))))
set_option maxRecDepth 65536 in
theorem gd60 {Z : State} {a0 : Array Value} {ρ0 : Nat → Nat} (hw : ∀ d ∈ tables_1, d.before a0 Z = true) (hr0 : ∀ d ∈ jdkStatics_1, d.before a0 Z = true) (M0 : MI Z "java/util/ImmutableCollections$List12" (ρ0 5)) (M1 : MI Z "java/util/ArrayList" (ρ0 6)) (M2 : MI Z "[Ljava/lang/Object;" (ρ0 7)) : ∀ en ∈ en60, Good pg Z a0 ρ0 (⟨"com/example/meerkat/meerkat/model/Circuit", "isInput", "(I)Z"⟩ : MethodName) en :=
  (av_c trivial
  (av_c ⟨_, rfl, ⟨_, "", Or.inl (wz hw 236 rfl), Via.refl⟩⟩
  (av_c trivial
  (av_c trivial
  (av_c trivial
  av_n)))))
set_option maxRecDepth 65536 in
theorem gd61 {Z : State} {a0 : Array Value} {ρ0 : Nat → Nat} (hw : ∀ d ∈ tables_1, d.before a0 Z = true) (hr0 : ∀ d ∈ jdkStatics_1, d.before a0 Z = true) (M0 : MI Z "java/util/ImmutableCollections$List12" (ρ0 5)) (M1 : MI Z "java/util/ArrayList" (ρ0 6)) (M2 : MI Z "[Ljava/lang/Object;" (ρ0 7)) : ∀ en ∈ en61, Good pg Z a0 ρ0 (⟨"com/example/meerkat/meerkat/model/Circuit", "childCount", "(I)I"⟩ : MethodName) en :=
  (av_c trivial
  (av_c ⟨_, rfl, ⟨_, "", Or.inl (wz hw 238 rfl), Via.refl⟩⟩
  (av_c trivial
  (av_c trivial
  (av_c trivial
  (av_c trivial
  (av_c trivial
  (av_c ⟨_, rfl, ⟨_, "", Or.inl (wz hw 238 rfl), Via.refl⟩⟩
  (av_c trivial
  (av_c trivial
  (av_c trivial
  (av_c trivial
  av_n))))))))))))
set_option maxRecDepth 65536 in
theorem pg_ok {Z : State} {a0 : Array Value} {ρ0 : Nat → Nat} (hw : ∀ d ∈ tables_1, d.before a0 Z = true) (hr0 : ∀ d ∈ jdkStatics_1, d.before a0 Z = true) (M0 : MI Z "java/util/ImmutableCollections$List12" (ρ0 5)) (M1 : MI Z "java/util/ArrayList" (ρ0 6)) (M2 : MI Z "[Ljava/lang/Object;" (ρ0 7)) (ne_bf_em : ρ0 0 ≠ ρ0 2) (ne_mL_mA : ρ0 5 ≠ ρ0 6) : AllOK pg Z a0 ρ0 :=
  ⟨pg_chk, al_at ((al_c (Or.inr ⟨(wz hw 1 rfl), (wz hw 2 rfl), (av_c ⟨_, rfl, Or.inr (wz hw 113 rfl)⟩ (av_c ⟨_, rfl, Or.inr (wz hw 117 rfl)⟩ (av_c ⟨_, rfl, Or.inr (wz hw 135 rfl)⟩ av_n)))⟩)
  (al_c (Or.inr ⟨(wz hw 10 rfl), (wz hw 11 rfl), (av_c ⟨_, rfl, Or.inl (wz hw 67 rfl)⟩ (av_c ⟨_, rfl, Or.inl (wz hw 83 rfl)⟩ (av_c ⟨_, rfl, Or.inl (wz hw 111 rfl)⟩ av_n)))⟩)
  (al_c (Or.inr ⟨(wz hw 22 rfl), (wz hw 23 rfl), (av_c ⟨_, rfl, Or.inr (wz hw 52 rfl)⟩ (av_c ⟨_, rfl, Or.inr (wz hw 54 rfl)⟩ av_n))⟩)
  (al_c (Or.inl rfl) (al_c (Or.inr ⟨(wz hw 119 rfl), (wz hw 120 rfl), (av_c ⟨_, rfl, Or.inr (wz hw 133 rfl)⟩ (av_c ⟨_, rfl, Or.inl (wz hw 329 rfl)⟩ (av_c ⟨_, rfl, Or.inl (wz hw 375 rfl)⟩ (av_c ⟨_, rfl, Or.inl (wz hw 399 rfl)⟩ (av_c ⟨_, rfl, Or.inl (wz hw 401 rfl)⟩ av_n)))))⟩)
  (al_c (Or.inr ⟨(wz hw 301 rfl), (wz hw 302 rfl), (av_c ⟨_, rfl, Or.inr (wz hw 313 rfl)⟩ av_n)⟩)
  (al_c (Or.inr ⟨(wz hw 383 rfl), (wz hw 384 rfl), (av_c ⟨_, rfl, Or.inr (wz hw 391 rfl)⟩ (av_c ⟨_, rfl, Or.inr (wz hw 393 rfl)⟩ (av_c ⟨_, rfl, Or.inl (wz hw 395 rfl)⟩ (av_c ⟨_, rfl, Or.inl (wz hw 397 rfl)⟩ av_n))))⟩)
  (al_c (Or.inl rfl) (al_c (Or.inr ⟨(wz hw 230 rfl), (wz hw 231 rfl), (av_c ⟨_, rfl, Or.inr (wz hw 237 rfl)⟩ (av_c ⟨_, rfl, Or.inr (wz hw 239 rfl)⟩ (av_c ⟨_, rfl, Or.inr (wz hw 241 rfl)⟩ av_n)))⟩)
  (al_c (Or.inl rfl) al_n))))))))))),
  (av_c ⟨_, _, rfl, rfl, Or.inl ⟨_, rfl, _, rfl, Or.inr (wz hw 81 rfl)⟩⟩ (av_c ⟨_, _, rfl, rfl, Or.inr ⟨_, rfl, _, rfl, rfl, Or.inr (wz hw 115 rfl)⟩⟩ (av_c ⟨_, _, rfl, rfl, Or.inl ⟨_, rfl, _, rfl, Or.inl rfl⟩⟩ av_n))), (av_c ne_bf_em (av_c ne_mL_mA av_n)),
  al_at ((al_c ⟨Or.inl rfl, gd0 hw hr0 M0 M1 M2⟩
  (al_c ⟨Or.inr ⟨(wz hw 5 rfl), (wz hw 2 rfl)⟩, gd1 hw hr0 M0 M1 M2⟩
  (al_c ⟨Or.inr ⟨(wz hw 15 rfl), (wz hw 14 rfl)⟩, gd2 hw hr0 M0 M1 M2⟩
  (al_c ⟨Or.inr ⟨(wz hw 20 rfl), (wz hw 19 rfl)⟩, gd3 hw hr0 M0 M1 M2⟩
  (al_c ⟨Or.inr ⟨(wz hw 27 rfl), (wz hw 23 rfl)⟩, gd4 hw hr0 M0 M1 M2⟩
  (al_c ⟨Or.inr ⟨(wz hw 33 rfl), (wz hw 32 rfl)⟩, gd5 hw hr0 M0 M1 M2⟩
  (al_c ⟨Or.inr ⟨(wz hw 39 rfl), (wz hw 38 rfl)⟩, gd6 hw hr0 M0 M1 M2⟩
  (al_c ⟨Or.inr ⟨(wz hw 45 rfl), (wz hw 44 rfl)⟩, gd7 hw hr0 M0 M1 M2⟩
  (al_c ⟨Or.inr ⟨(wz hw 50 rfl), (wz hw 49 rfl)⟩, gd8 hw hr0 M0 M1 M2⟩
  (al_c ⟨Or.inr ⟨(wz hw 57 rfl), (wz hw 11 rfl)⟩, gd9 hw hr0 M0 M1 M2⟩
  (al_c ⟨Or.inr ⟨(wz hw 63 rfl), (wz hw 62 rfl)⟩, gd10 hw hr0 M0 M1 M2⟩
  (al_c ⟨Or.inr ⟨(wz hw 76 rfl), (wz hw 23 rfl)⟩, gd11 hw hr0 M0 M1 M2⟩
  (al_c ⟨Or.inr ⟨(wz hw 99 rfl), (wz hw 98 rfl)⟩, gd12 hw hr0 M0 M1 M2⟩
  (al_c ⟨Or.inr ⟨(wz hw 105 rfl), (wz hw 104 rfl)⟩, gd13 hw hr0 M0 M1 M2⟩
  (al_c ⟨Or.inr ⟨(wz hw 123 rfl), (wz hw 120 rfl)⟩, gd14 hw hr0 M0 M1 M2⟩
  (al_c ⟨Or.inr ⟨(wz hw 129 rfl), (wz hw 128 rfl)⟩, gd15 hw hr0 M0 M1 M2⟩
  (al_c ⟨Or.inr ⟨(wz hw 140 rfl), (wz hw 2 rfl)⟩, gd16 hw hr0 M0 M1 M2⟩
  (al_c ⟨Or.inr ⟨(wz hw 150 rfl), (wz hw 11 rfl)⟩, gd17 hw hr0 M0 M1 M2⟩
  (al_c ⟨Or.inr ⟨(wz hw 157 rfl), (wz hw 11 rfl)⟩, gd18 hw hr0 M0 M1 M2⟩
  (al_c ⟨Or.inr ⟨(wz hw 162 rfl), (wz hw 11 rfl)⟩, gd19 hw hr0 M0 M1 M2⟩
  (al_c ⟨Or.inr ⟨(wz hw 167 rfl), (wz hw 11 rfl)⟩, gd20 hw hr0 M0 M1 M2⟩
  (al_c ⟨Or.inr ⟨(wz hw 171 rfl), (wz hw 170 rfl)⟩, gd21 hw hr0 M0 M1 M2⟩
  (al_c ⟨Or.inr ⟨(wz hw 174 rfl), (wz hw 104 rfl)⟩, gd22 hw hr0 M0 M1 M2⟩
  (al_c ⟨Or.inr ⟨(wz hw 178 rfl), (wz hw 98 rfl)⟩, gd23 hw hr0 M0 M1 M2⟩
  (al_c ⟨Or.inr ⟨(wz hw 189 rfl), (wz hw 11 rfl)⟩, gd24 hw hr0 M0 M1 M2⟩
  (al_c ⟨Or.inr ⟨(wz hw 261 rfl), (wz hw 2 rfl)⟩, gd25 hw hr0 M0 M1 M2⟩
  (al_c ⟨Or.inr ⟨(wz hw 271 rfl), (wz hw 104 rfl)⟩, gd26 hw hr0 M0 M1 M2⟩
  (al_c ⟨Or.inr ⟨(wz hw 274 rfl), (wz hw 98 rfl)⟩, gd27 hw hr0 M0 M1 M2⟩
  (al_c ⟨Or.inr ⟨(wz hw 278 rfl), (wz hw 277 rfl)⟩, gd28 hw hr0 M0 M1 M2⟩
  (al_c ⟨Or.inr ⟨(wz hw 281 rfl), (wz hw 277 rfl)⟩, gd29 hw hr0 M0 M1 M2⟩
  (al_c ⟨Or.inr ⟨(wz hw 284 rfl), (wz hw 277 rfl)⟩, gd30 hw hr0 M0 M1 M2⟩
  (al_c ⟨Or.inr ⟨(wz hw 287 rfl), (wz hw 98 rfl)⟩, gd31 hw hr0 M0 M1 M2⟩
  (al_c ⟨Or.inr ⟨(wz hw 290 rfl), (wz hw 98 rfl)⟩, gd32 hw hr0 M0 M1 M2⟩
  (al_c ⟨Or.inr ⟨(wz hw 293 rfl), (wz hw 98 rfl)⟩, gd33 hw hr0 M0 M1 M2⟩
  (al_c ⟨Or.inr ⟨(wz hw 299 rfl), (wz hw 2 rfl)⟩, gd34 hw hr0 M0 M1 M2⟩
  (al_c ⟨Or.inr ⟨(wz hw 305 rfl), (wz hw 302 rfl)⟩, gd35 hw hr0 M0 M1 M2⟩
  (al_c ⟨Or.inr ⟨(wz hw 310 rfl), (wz hw 309 rfl)⟩, gd36 hw hr0 M0 M1 M2⟩
  (al_c ⟨Or.inr ⟨(wz hw 322 rfl), (wz hw 120 rfl)⟩, gd37 hw hr0 M0 M1 M2⟩
  (al_c ⟨Or.inr ⟨(wz hw 327 rfl), (wz hw 120 rfl)⟩, gd38 hw hr0 M0 M1 M2⟩
  (al_c ⟨Or.inr ⟨(wz hw 333 rfl), (wz hw 332 rfl)⟩, gd39 hw hr0 M0 M1 M2⟩
  (al_c ⟨Or.inr ⟨(wz hw 344 rfl), (wz hw 120 rfl)⟩, gd40 hw hr0 M0 M1 M2⟩
  (al_c ⟨Or.inr ⟨(wz hw 347 rfl), (wz hw 120 rfl)⟩, gd41 hw hr0 M0 M1 M2⟩
  (al_c ⟨Or.inr ⟨(wz hw 353 rfl), (wz hw 302 rfl)⟩, gd42 hw hr0 M0 M1 M2⟩
  (al_c ⟨Or.inr ⟨(wz hw 356 rfl), (wz hw 98 rfl)⟩, gd43 hw hr0 M0 M1 M2⟩
  (al_c ⟨Or.inr ⟨(wz hw 359 rfl), (wz hw 170 rfl)⟩, gd44 hw hr0 M0 M1 M2⟩
  (al_c ⟨Or.inr ⟨(wz hw 363 rfl), (wz hw 170 rfl)⟩, gd45 hw hr0 M0 M1 M2⟩
  (al_c ⟨Or.inr ⟨(wz hw 368 rfl), (wz hw 120 rfl)⟩, gd46 hw hr0 M0 M1 M2⟩
  (al_c ⟨Or.inr ⟨(wz hw 373 rfl), (wz hw 120 rfl)⟩, gd47 hw hr0 M0 M1 M2⟩
  (al_c ⟨Or.inr ⟨(wz hw 382 rfl), (wz hw 120 rfl)⟩, gd48 hw hr0 M0 M1 M2⟩
  (al_c ⟨Or.inr ⟨(wz hw 388 rfl), (wz hw 384 rfl)⟩, gd49 hw hr0 M0 M1 M2⟩
  (al_c ⟨Or.inr ⟨(wz hw 406 rfl), (wz hw 120 rfl)⟩, gd50 hw hr0 M0 M1 M2⟩
  (al_c ⟨Or.inr ⟨(wz hw 411 rfl), (wz hw 332 rfl)⟩, gd51 hw hr0 M0 M1 M2⟩
  (al_c ⟨Or.inr ⟨(wz hw 195 rfl), (wz hw 2 rfl)⟩, gd52 hw hr0 M0 M1 M2⟩
  (al_c ⟨Or.inr ⟨(wz hw 204 rfl), (wz hw 11 rfl)⟩, gd53 hw hr0 M0 M1 M2⟩
  (al_c ⟨Or.inr ⟨(wz hw 207 rfl), (wz hw 49 rfl)⟩, gd54 hw hr0 M0 M1 M2⟩
  (al_c ⟨Or.inr ⟨(wz hw 211 rfl), (wz hw 210 rfl)⟩, gd55 hw hr0 M0 M1 M2⟩
  (al_c ⟨Or.inr ⟨(wz hw 216 rfl), (wz hw 11 rfl)⟩, gd56 hw hr0 M0 M1 M2⟩
  (al_c ⟨Or.inr ⟨(wz hw 223 rfl), (wz hw 14 rfl)⟩, gd57 hw hr0 M0 M1 M2⟩
  (al_c ⟨Or.inr ⟨(wz hw 234 rfl), (wz hw 231 rfl)⟩, gd58 hw hr0 M0 M1 M2⟩
  (al_c ⟨Or.inr ⟨(wz hw 246 rfl), (wz hw 231 rfl)⟩, gd59 hw hr0 M0 M1 M2⟩
  (al_c ⟨Or.inr ⟨(wz hw 251 rfl), (wz hw 231 rfl)⟩, gd60 hw hr0 M0 M1 M2⟩
  (al_c ⟨Or.inr ⟨(wz hw 256 rfl), (wz hw 231 rfl)⟩, gd61 hw hr0 M0 M1 M2⟩
  al_n)))))))))))))))))))))))))))))))))))))))))))))))))))))))))))))))⟩
def Q0 (n0 : Nat) (v : Option Value) (h : Heap) (L : List Loc) : Prop := v = some (.int 1) ∧ Fr n0 L
def hp0 : List Ob := [.inl (3, [(0, .int 0)]), .inl (3, [(0, .int 1)]), .inl (9, []), .inr (0, [.ref 4]), .inl (7, [(1, .int 4)]), .inr (100, []), .inr (100, []), .inr (100, [])]
def rh (bf bt em ca iv mL mA mO : Addr) : Nat → Nat
  | 0 => bf
  | 1 => bt
  | 2 => em
  | 3 => ca
  | 4 => iv
  | 5 => mL
  | 6 => mA
  | _ => mO
def sg (p1 : Int32) : Nat → Int32
  | 0 => p1
  | 1 => p1 &&& 2147483647
  | 2 => opf 10 (p1 &&& 2147483647) 3
  | 3 => p1 &&& 4
  | _ => p1 &&& 8
def okr (q : Orc) (n : Nat) : Bool := match run pg q n 0 12 256 (0, loc0 [.retAddr 0] maxLocals, [], hp0, 0, 0) with | some (some (.int z), _, k, s) => decide (z = 1) && (Nat.ble k 72 && Nat.ble s 320) | _ => false
def oq0 : Orc := [(3, .retAddr 0, .int 2147483647, .retAddr 1), (10, .retAddr 1, .int 3, .retAddr 2), (21, .retAddr 2, .int 1, .int 0), (3, .retAddr 0, .int 4, .retAddr 3), (20, .retAddr 3, .int 0, .int 0), (3, .retAddr 0, .int 8, .retAddr 4), (20, .retAddr 4, .int 0, .int 0)]
def oq1 : Orc := [(3, .retAddr 0, .int 2147483647, .retAddr 1), (10, .retAddr 1, .int 3, .retAddr 2), (21, .retAddr 2, .int 1, .int 0), (3, .retAddr 0, .int 4, .retAddr 3), (20, .retAddr 3, .int 0, .int 0), (3, .retAddr 0, .int 8, .retAddr 4), (20, .retAddr 4, .int 0, .int 1)]
def oq2 : Orc := [(3, .retAddr 0, .int 2147483647, .retAddr 1), (10, .retAddr 1, .int 3, .retAddr 2), (21, .retAddr 2, .int 1, .int 0), (3, .retAddr 0, .int 4, .retAddr 3), (20, .retAddr 3, .int 0, .int 1), (3, .retAddr 0, .int 8, .retAddr 4), (20, .retAddr 4, .int 0, .int 0)]
def oq3 : Orc := [(3, .retAddr 0, .int 2147483647, .retAddr 1), (10, .retAddr 1, .int 3, .retAddr 2), (21, .retAddr 2, .int 1, .int 0), (3, .retAddr 0, .int 4, .retAddr 3), (20, .retAddr 3, .int 0, .int 1), (3, .retAddr 0, .int 8, .retAddr 4), (20, .retAddr 4, .int 0, .int 1)]
def oq4 : Orc := [(3, .retAddr 0, .int 2147483647, .retAddr 1), (10, .retAddr 1, .int 3, .retAddr 2), (21, .retAddr 2, .int 1, .int 1), (21, .retAddr 2, .int 2, .int 0)]
def oq5 : Orc := [(3, .retAddr 0, .int 2147483647, .retAddr 1), (10, .retAddr 1, .int 3, .retAddr 2), (21, .retAddr 2, .int 1, .int 1), (21, .retAddr 2, .int 2, .int 1)]
set_option maxRecDepth 65536 in
theorem rd0 : okr oq0 3000 = true := by decide +kernel
set_option maxRecDepth 65536 in
theorem rd1 : okr oq1 3000 = true := by decide +kernel
set_option maxRecDepth 65536 in
theorem rd2 : okr oq2 3000 = true := by decide +kernel
set_option maxRecDepth 65536 in
theorem rd3 : okr oq3 3000 = true := by decide +kernel
set_option maxRecDepth 65536 in
theorem rd4 : okr oq4 3000 = true := by decide +kernel
set_option maxRecDepth 65536 in
theorem rd5 : okr oq5 3000 = true := by decide +kernel
theorem rel0 {Z : State} {p1 : Int32} {bf bt em ca iv mL mA mO : Addr} {h0 : Heap} {n0 : Nat} (Z0 : n0 = h0.size) (S_Boolean_FALSE : SN Z n0 h0 "java/lang/Boolean" "FALSE" "Ljava/lang/Boolean;" (.ref bf)) (S_Boolean_TRUE : SN Z n0 h0 "java/lang/Boolean" "TRUE" "Ljava/lang/Boolean;" (.ref bt)) (S_ImmutableCollections_EMPTY : SN Z n0 h0 "java/util/ImmutableCollections" "EMPTY" "Ljava/lang/Object;" (.ref em)) (S_Integer_IntegerCache_high : SN Z n0 h0 "java/lang/Integer$IntegerCache" "high" "I" (.int (127 : Int32))) (S_Integer_IntegerCache_cache : SN Z n0 h0 "java/lang/Integer$IntegerCache" "cache" "[Ljava/lang/Integer;" (.ref ca)) (E_bf : Exa Z h0 bf "java/lang/Boolean") (E_bt : Exa Z h0 bt "java/lang/Boolean") (E_em : Exa Z h0 em "java/lang/Object") (E_iv : Exa Z h0 iv "java/lang/Integer") (F_bf_value : Fld Z h0 bf "java/lang/Boolean" "value" "Z" (.int (0 : Int32))) (F_bt_value : Fld Z h0 bt "java/lang/Boolean" "value" "Z" (.int (1 : Int32))) (F_iv_value : Fld Z h0 iv "java/lang/Integer" "value" "I" (.int (4 : Int32))) (V_ca : EA Z h0 ca "java/lang/Integer" 256 132 (.ref iv)) (M_ImmutableCollections_List12 : MI Z "java/util/ImmutableCollections$List12" mL) (M_ArrayList : MI Z "java/util/ArrayList" mA) (M_Object_ : MI Z "[Ljava/lang/Object;" mO) (ne_bf_em : bf ≠ em) (ne_mL_mA : mL ≠ mA) (lt_mL : mL < h0.size) (lt_mA : mA < h0.size) (lt_mO : mO < h0.size) : Rel pg Z (rh bf bt em ca iv mL mA mO) (sg p1) n0 (rh bf bt em ca iv mL mA mO) hp0 h0 := by
  subst Z0
  refine ⟨al_at (al_c ⟨⟨_, rfl, E_bf, av_c ⟨_, rfl, by decide, F_bf_value⟩ av_n⟩, rfl⟩ (al_c ⟨⟨_, rfl, E_bt, av_c ⟨_, rfl, by decide, F_bt_value⟩ av_n⟩, rfl⟩ (al_c ⟨⟨_, rfl, E_em, av_n⟩, rfl⟩ (al_c ⟨fun A hA => ?_, rfl⟩ (al_c ⟨⟨_, rfl, E_iv, av_c ⟨_, rfl, by decide, F_iv_value⟩ av_n⟩, rfl⟩ (al_c ⟨fun A hA => (nomatch (show (none : Option Ary) = some A from hA)), rfl⟩ (al_c ⟨fun A hA => (nomatch (show (none : Option Ary) = some A from hA)), rfl⟩ (al_c ⟨fun A hA => (nomatch (show (none : Option Ary) = some A from hA)), rfl⟩ al_n)))))))), fun i hi => ⟨rfl, ?_⟩, fun i hi hl => absurd (show 8 ≤ i from hi) (Nat.not_le.mpr hl), fun i j hi hj hl => absurd (show 8 ≤ i from hi) (Nat.not_le.mpr hl), ⟨Nat.le_refl _, by decide⟩, av_c ⟨S_Boolean_FALSE, rfl⟩ (av_c ⟨S_Boolean_TRUE, rfl⟩ (av_c ⟨S_ImmutableCollections_EMPTY, rfl⟩ (av_c ⟨S_Integer_IntegerCache_high, rfl⟩ (av_c ⟨S_Integer_IntegerCache_cache, rfl⟩ (av_n)))))⟩
  · cases hA; exact ⟨fun z => absurd z (by decide), fun _ => ⟨_, _, rfl, rfl, V_ca⟩⟩
  · match i, (show i < 8 from hi) with
    | 0, _ => exact E_bf.lt
    | 1, _ => exact E_bt.lt
    | 2, _ => exact E_em.lt
    | 3, _ => exact V_ca.lt
    | 4, _ => exact E_iv.lt
    | 5, _ => exact lt_mL
    | 6, _ => exact lt_mA
    | 7, _ => exact lt_mO
theorem rmq (l : Launch) (Z : State) (a0 : Array Value) (hw : ∀ d ∈ tables_1, d.before a0 Z = true) (hr0 : ∀ d ∈ jdkStatics_1, d.before a0 Z = true) (ws : List Jvm.Cond) (p1 : Int32) (bf bt em ca iv mL mA mO : Addr) (h0 : Heap) (n0 : Nat) (Z0 : n0 = h0.size) (S_Boolean_FALSE : SN Z n0 h0 "java/lang/Boolean" "FALSE" "Ljava/lang/Boolean;" (.ref bf)) (S_Boolean_TRUE : SN Z n0 h0 "java/lang/Boolean" "TRUE" "Ljava/lang/Boolean;" (.ref bt)) (S_ImmutableCollections_EMPTY : SN Z n0 h0 "java/util/ImmutableCollections" "EMPTY" "Ljava/lang/Object;" (.ref em)) (S_Integer_IntegerCache_high : SN Z n0 h0 "java/lang/Integer$IntegerCache" "high" "I" (.int (127 : Int32))) (S_Integer_IntegerCache_cache : SN Z n0 h0 "java/lang/Integer$IntegerCache" "cache" "[Ljava/lang/Integer;" (.ref ca)) (E_bf : Exa Z h0 bf "java/lang/Boolean") (E_bt : Exa Z h0 bt "java/lang/Boolean") (E_em : Exa Z h0 em "java/lang/Object") (E_iv : Exa Z h0 iv "java/lang/Integer") (F_bf_value : Fld Z h0 bf "java/lang/Boolean" "value" "Z" (.int (0 : Int32))) (F_bt_value : Fld Z h0 bt "java/lang/Boolean" "value" "Z" (.int (1 : Int32))) (F_iv_value : Fld Z h0 iv "java/lang/Integer" "value" "I" (.int (4 : Int32))) (V_ca : EA Z h0 ca "java/lang/Integer" 256 132 (.ref iv)) (M_ImmutableCollections_List12 : MI Z "java/util/ImmutableCollections$List12" mL) (M_ArrayList : MI Z "java/util/ArrayList" mA) (M_Object_ : MI Z "[Ljava/lang/Object;" mO) (ne_bf_em : bf ≠ em) (ne_mL_mA : mL ≠ mA) (lt_mL : mL < h0.size) (lt_mA : mA < h0.size) (lt_mO : mO < h0.size) {q : Orc} (hq : OrcOK (sg p1) q) (h : okr q 3000 = true) :
    MetFree l x (head1 (Jvm.Cond.code x code maxLocals ret :: ws) room_1) (fun a U => a = #[(.int p1)] ∧ Z.Warmed39 U.vm ∧ U.heap = h0) (fun _ _ _ _ _ => True) (fun _ U o U' => ∃ v L, o = .returned v ∧ Q0 n0 v U'.heap L ∧ FrameEnd U o U' L room_1.cells room_1.slots) := by
  unfold okr at h
  split at h
  · rename_i z D' k s hr
    simp only [Bool.and_eq_true, decide_eq_true_eq, Nat.ble_eq] at h
    obtain ⟨rfl, hk, hs⟩ := h
    have A := pg_ok (ρ0 := rh bf bt em ca iv mL mA mO) hw hr0 M_ImmutableCollections_List12 M_ArrayList M_Object_ ne_bf_em ne_mL_mA
    have b := run_ok (n0 := n0) A hq _ _ _ _ _ _ hr
    have mf := met_of (l := l) (rm := room_1) (M := (x, code, maxLocals, ret, en0)) A rfl b rfl (rel0 (p1 := p1) Z0 S_Boolean_FALSE S_Boolean_TRUE S_ImmutableCollections_EMPTY S_Integer_IntegerCache_high S_Integer_IntegerCache_cache E_bf E_bt E_em E_iv F_bf_value F_bt_value F_iv_value V_ca M_ImmutableCollections_List12 M_ArrayList M_Object_ ne_bf_em ne_mL_mA lt_mL lt_mA lt_mO) rfl rfl hk hs ws
    intro p e ha hc hkk s' m args below hf happ hP hK
    obtain ⟨n, o, h1, h2, h3, w, L, e1, ⟨N, ρ', ew, -⟩, fe⟩ := mf p e ha hc hkk s' m args below hf happ hP hK
    exact ⟨n, o, h1, h2, h3, w, L, e1, ⟨ew, N⟩, fe⟩
  · cases h
set_option maxRecDepth 65536 in
theorem rm0a (l : Launch) (Z : State) (a0 : Array Value) (hw : ∀ d ∈ tables_1, d.before a0 Z = true) (hr0 : ∀ d ∈ jdkStatics_1, d.before a0 Z = true) (ws : List Jvm.Cond) (p1 : Int32) (bf bt em ca iv mL mA mO : Addr) (h0 : Heap) (n0 : Nat) (Z0 : n0 = h0.size) (S_Boolean_FALSE : SN Z n0 h0 "java/lang/Boolean" "FALSE" "Ljava/lang/Boolean;" (.ref bf)) (S_Boolean_TRUE : SN Z n0 h0 "java/lang/Boolean" "TRUE" "Ljava/lang/Boolean;" (.ref bt)) (S_ImmutableCollections_EMPTY : SN Z n0 h0 "java/util/ImmutableCollections" "EMPTY" "Ljava/lang/Object;" (.ref em)) (S_Integer_IntegerCache_high : SN Z n0 h0 "java/lang/Integer$IntegerCache" "high" "I" (.int (127 : Int32))) (S_Integer_IntegerCache_cache : SN Z n0 h0 "java/lang/Integer$IntegerCache" "cache" "[Ljava/lang/Integer;" (.ref ca)) (E_bf : Exa Z h0 bf "java/lang/Boolean") (E_bt : Exa Z h0 bt "java/lang/Boolean") (E_em : Exa Z h0 em "java/lang/Object") (E_iv : Exa Z h0 iv "java/lang/Integer") (F_bf_value : Fld Z h0 bf "java/lang/Boolean" "value" "Z" (.int (0 : Int32))) (F_bt_value : Fld Z h0 bt "java/lang/Boolean" "value" "Z" (.int (1 : Int32))) (F_iv_value : Fld Z h0 iv "java/lang/Integer" "value" "I" (.int (4 : Int32))) (V_ca : EA Z h0 ca "java/lang/Integer" 256 132 (.ref iv)) (M_ImmutableCollections_List12 : MI Z "java/util/ImmutableCollections$List12" mL) (M_ArrayList : MI Z "java/util/ArrayList" mA) (M_Object_ : MI Z "[Ljava/lang/Object;" mO) (ne_bf_em : bf ≠ em) (ne_mL_mA : mL ≠ mA) (lt_mL : mL < h0.size) (lt_mA : mA < h0.size) (lt_mO : mO < h0.size) :
    MetFree l x (head1 (Jvm.Cond.code x code maxLocals ret :: ws) room_1) (fun a U => a = #[(.int p1)] ∧ Z.Warmed39 U.vm ∧ U.heap = h0) (fun _ _ _ _ _ => True) (fun _ U o U' => ∃ v L, o = .returned v ∧ Q0 n0 v U'.heap L ∧ FrameEnd U o U' L room_1.cells room_1.slots) := by
  by_cases h1 : opf 10 (p1 &&& 2147483647) 3 = 1
  · by_cases h4 : p1 &&& 4 = 0
    · by_cases h8 : p1 &&& 8 = 0
      · exact rmq l Z a0 hw hr0 ws p1 bf bt em ca iv mL mA mO h0 n0 Z0 S_Boolean_FALSE S_Boolean_TRUE S_ImmutableCollections_EMPTY S_Integer_IntegerCache_high S_Integer_IntegerCache_cache E_bf E_bt E_em E_iv F_bf_value F_bt_value F_iv_value V_ca M_ImmutableCollections_List12 M_ArrayList M_Object_ ne_bf_em ne_mL_mA lt_mL lt_mA lt_mO (q := oq3) (av_c (orc_op rfl rfl rfl (by decide) (fun _ => by decide) rfl) (av_c (orc_op rfl rfl rfl (by decide) (fun _ => by decide) rfl) (av_c (orc_cd (t := false) .ne rfl rfl (teq h1).2) (av_c (orc_op rfl rfl rfl (by decide) (fun _ => by decide) rfl) (av_c (orc_cd (t := true) .eq rfl rfl (teq h4).1) (av_c (orc_op rfl rfl rfl (by decide) (fun _ => by decide) rfl) (av_c (orc_cd (t := true) .eq rfl rfl (teq h8).1) av_n))))))) rd3
      · exact rmq l Z a0 hw hr0 ws p1 bf bt em ca iv mL mA mO h0 n0 Z0 S_Boolean_FALSE S_Boolean_TRUE S_ImmutableCollections_EMPTY S_Integer_IntegerCache_high S_Integer_IntegerCache_cache E_bf E_bt E_em E_iv F_bf_value F_bt_value F_iv_value V_ca M_ImmutableCollections_List12 M_ArrayList M_Object_ ne_bf_em ne_mL_mA lt_mL lt_mA lt_mO (q := oq2) (av_c (orc_op rfl rfl rfl (by decide) (fun _ => by decide) rfl) (av_c (orc_op rfl rfl rfl (by decide) (fun _ => by decide) rfl) (av_c (orc_cd (t := false) .ne rfl rfl (teq h1).2) (av_c (orc_op rfl rfl rfl (by decide) (fun _ => by decide) rfl) (av_c (orc_cd (t := true) .eq rfl rfl (teq h4).1) (av_c (orc_op rfl rfl rfl (by decide) (fun _ => by decide) rfl) (av_c (orc_cd (t := false) .eq rfl rfl (feq h8).1) av_n))))))) rd2
    · by_cases h8 : p1 &&& 8 = 0
      · exact rmq l Z a0 hw hr0 ws p1 bf bt em ca iv mL mA mO h0 n0 Z0 S_Boolean_FALSE S_Boolean_TRUE S_ImmutableCollections_EMPTY S_Integer_IntegerCache_high S_Integer_IntegerCache_cache E_bf E_bt E_em E_iv F_bf_value F_bt_value F_iv_value V_ca M_ImmutableCollections_List12 M_ArrayList M_Object_ ne_bf_em ne_mL_mA lt_mL lt_mA lt_mO (q := oq1) (av_c (orc_op rfl rfl rfl (by decide) (fun _ => by decide) rfl) (av_c (orc_op rfl rfl rfl (by decide) (fun _ => by decide) rfl) (av_c (orc_cd (t := false) .ne rfl rfl (teq h1).2) (av_c (orc_op rfl rfl rfl (by decide) (fun _ => by decide) rfl) (av_c (orc_cd (t := false) .eq rfl rfl (feq h4).1) (av_c (orc_op rfl rfl rfl (by decide) (fun _ => by decide) rfl) (av_c (orc_cd (t := true) .eq rfl rfl (teq h8).1) av_n))))))) rd1
      · exact rmq l Z a0 hw hr0 ws p1 bf bt em ca iv mL mA mO h0 n0 Z0 S_Boolean_FALSE S_Boolean_TRUE S_ImmutableCollections_EMPTY S_Integer_IntegerCache_high S_Integer_IntegerCache_cache E_bf E_bt E_em E_iv F_bf_value F_bt_value F_iv_value V_ca M_ImmutableCollections_List12 M_ArrayList M_Object_ ne_bf_em ne_mL_mA lt_mL lt_mA lt_mO (q := oq0) (av_c (orc_op rfl rfl rfl (by decide) (fun _ => by decide) rfl) (av_c (orc_op rfl rfl rfl (by decide) (fun _ => by decide) rfl) (av_c (orc_cd (t := false) .ne rfl rfl (teq h1).2) (av_c (orc_op rfl rfl rfl (by decide) (fun _ => by decide) rfl) (av_c (orc_cd (t := false) .eq rfl rfl (feq h4).1) (av_c (orc_op rfl rfl rfl (by decide) (fun _ => by decide) rfl) (av_c (orc_cd (t := false) .eq rfl rfl (feq h8).1) av_n))))))) rd0
  · by_cases h2 : opf 10 (p1 &&& 2147483647) 3 = 2
    · exact rmq l Z a0 hw hr0 ws p1 bf bt em ca iv mL mA mO h0 n0 Z0 S_Boolean_FALSE S_Boolean_TRUE S_ImmutableCollections_EMPTY S_Integer_IntegerCache_high S_Integer_IntegerCache_cache E_bf E_bt E_em E_iv F_bf_value F_bt_value F_iv_value V_ca M_ImmutableCollections_List12 M_ArrayList M_Object_ ne_bf_em ne_mL_mA lt_mL lt_mA lt_mO (q := oq4) (av_c (orc_op rfl rfl rfl (by decide) (fun _ => by decide) rfl) (av_c (orc_op rfl rfl rfl (by decide) (fun _ => by decide) rfl) (av_c (orc_cd (t := true) .ne rfl rfl (feq h1).2) (av_c (orc_cd (t := false) .ne rfl rfl (teq h2).2) av_n)))) rd4
    · exact rmq l Z a0 hw hr0 ws p1 bf bt em ca iv mL mA mO h0 n0 Z0 S_Boolean_FALSE S_Boolean_TRUE S_ImmutableCollections_EMPTY S_Integer_IntegerCache_high S_Integer_IntegerCache_cache E_bf E_bt E_em E_iv F_bf_value F_bt_value F_iv_value V_ca M_ImmutableCollections_List12 M_ArrayList M_Object_ ne_bf_em ne_mL_mA lt_mL lt_mA lt_mO (q := oq5) (av_c (orc_op rfl rfl rfl (by decide) (fun _ => by decide) rfl) (av_c (orc_op rfl rfl rfl (by decide) (fun _ => by decide) rfl) (av_c (orc_cd (t := true) .ne rfl rfl (feq h1).2) (av_c (orc_cd (t := true) .ne rfl rfl (feq h2).2) av_n)))) rd5
theorem own_eqI {args : Array Value} {s : State} {t : Term} {k : Int32} (h : (Cond.eq t (Term.int k)).value args s none s [] = some true) : t.eval args s none [] s = some (.int k) := by
  have e2 : (Term.int k).eval args s none [] s = some (.int k) := rfl
  cases e : t.eval args s none [] s with
  | none => simp [Cond.value, e] at h
  | some v => cases v <;> simp [Cond.value, e, e2] at h ⊢; exact h
theorem own_start {args : Array Value} {s : State} (hw : ∀ d ∈ tables_1, d.before args s = true) (hsets : ∀ d ∈ jdkStatics_1, d.before args s = true) : ∃ bf bt em ca iv : Addr, SN s s.heap.size s.heap "java/lang/Boolean" "FALSE" "Ljava/lang/Boolean;" (.ref bf) ∧ SN s s.heap.size s.heap "java/lang/Boolean" "TRUE" "Ljava/lang/Boolean;" (.ref bt) ∧ SN s s.heap.size s.heap "java/util/ImmutableCollections" "EMPTY" "Ljava/lang/Object;" (.ref em) ∧ SN s s.heap.size s.heap "java/lang/Integer$IntegerCache" "high" "I" (.int (127 : Int32)) ∧ SN s s.heap.size s.heap "java/lang/Integer$IntegerCache" "cache" "[Ljava/lang/Integer;" (.ref ca) ∧ Exa s s.heap bf "java/lang/Boolean" ∧ Exa s s.heap bt "java/lang/Boolean" ∧ Exa s s.heap em "java/lang/Object" ∧ Exa s s.heap iv "java/lang/Integer" ∧ Fld s s.heap bf "java/lang/Boolean" "value" "Z" (.int (0 : Int32)) ∧ Fld s s.heap bt "java/lang/Boolean" "value" "Z" (.int (1 : Int32)) ∧ Fld s s.heap iv "java/lang/Integer" "value" "I" (.int (4 : Int32)) ∧ EA s s.heap ca "java/lang/Integer" 256 132 (.ref iv) := by
  have hj := fun k d (hd : jdkStatics_1[k]? = some d) => hsets d (List.mem_of_getElem? hd)
  obtain ⟨bf, ebf⟩ := exa_v (Cond.before_iff.mp (hj 2 _ rfl))
  obtain ⟨em, eem⟩ := exa_v (Cond.before_iff.mp (hj 6 _ rfl))
  obtain ⟨bt, ebt⟩ := exa_v (Cond.before_iff.mp (hj 15 _ rfl))
  obtain ⟨ca, eca⟩ := exa_v (Cond.before_iff.mp (hj 22 _ rfl))
  have ehi := own_eqI (Cond.before_iff.mp (hj 20 _ rfl))
  obtain ⟨cc, Ac⟩ := Arr.start eca (Cond.before_iff.mp (hj 21 _ rfl))
  obtain ⟨hsz, hsz2⟩ := Jvm.Free.IntBox.length_fwd (hj 23 _ rfl) eca Ac.1 Ac.2.1 Ac.2.2
  have Bx : Bxs s ca cc "java/lang/Integer" "I" 256 (fun j => .int (j - 128)) := Bxs.start (fun idx => eca) Ac hsz hsz2 (by decide) (Cond.before_iff.mp (hj 24 _ rfl)) (fun X j nn h => eqv_i (by
    have q : (Term.index 0).eval args s none [j.toNatClampNeg] s = some (.int j) := idx_at nn
    simp only [Term.eval] at q ⊢
    rw [q]; rfl) h)
  have hz : cc.slots.size = 256 := Bx.2.1
  obtain ⟨iv, hiv, Eiv, Fiv⟩ := Bx.2.2.2 132 (by rw [hz]; decide)
  exact ⟨bf, bt, em, ca, iv, SN.of (Sta.start ebf (Or.inl (hj 1 _ rfl))) (Nat.le_refl _), SN.of (Sta.start ebt (Or.inl (hj 14 _ rfl))) (Nat.le_refl _), SN.of (Sta.start eem (Or.inl (hj 5 _ rfl))) (Nat.le_refl _), SN.of (Sta.start ehi (Or.inl (hj 18 _ rfl))) (Nat.le_refl _), SN.of (Sta.start eca (Or.inr ⟨hw _ (List.mem_of_getElem? (i := 335) rfl), hj 19 _ rfl⟩)) (Nat.le_refl _),
    Exa.start ebf (Cond.before_iff.mp (hj 2 _ rfl)), Exa.start ebt (Cond.before_iff.mp (hj 15 _ rfl)), Exa.start eem (Cond.before_iff.mp (hj 6 _ rfl)), Eiv, Fld.start ((fld_at ebf).symm.trans (own_eqI (Cond.before_iff.mp (hj 3 _ rfl)))), Fld.start ((fld_at ebt).symm.trans (own_eqI (Cond.before_iff.mp (hj 16 _ rfl)))), Fiv, ⟨⟨cc, Ac, hz, hiv⟩, by decide, by decide⟩⟩

set_option maxRecDepth 65536 in
set_option maxHeartbeats 40000000 in
theorem comes_1 {Post : Tables → Env → Array Value → State → Outcome → State → Prop} (hpost : ∀ tb e args s v u, (limb_1_1.after args s (.returned v) u = true ∧ limb_1_2.after args s (.returned v) u = true ∧ True) → FrameEnd s (.returned v) u (Jvm.fieldLocs frame_1_writes args s ++ Jvm.arrayLocs frame_1_arrays args s ++ Jvm.staticLocs frame_1_statics s) 72 320 → Post tb e args s (.returned v) u) :
    ArmFor flags0 classFile x code maxLocals ret World_1 tables_1 room_1 Calls_1 rest_1 Pre_1 Post := by
  intro l hfl _ _ p e ha hc hk s m args below hf hA hF happ hP
  obtain ⟨hcalls, hrest, hpre⟩ := hP
  obtain ⟨-, -, -, hnamed, -, -, -, hat⟩ := (Spec.applies_iff hf).mp happ
  obtain ⟨hg, hn⟩ := and_e (Cond.before_iff.mp (show (Jvm.Cond.and given_1 narrow_1).before args s = true from hpre))
  obtain ⟨hcount, g0⟩ := and_e hg
  have ga0 := g0
  obtain ⟨w0, rfl⟩ : ∃ w0 : Value, args = #[w0] := by
    have hs : args.size = 1 := by simpa [Cond.value, given_1] using hcount
    obtain ⟨L⟩ := args
    match L, hs with
    | [w0], _ => exact ⟨w0, rfl⟩
  have hw := fun d (hd : d ∈ tables_1) => atoms_spec (ws := Jvm.Cond.code x code maxLocals ret :: tables_1) hat d (List.mem_cons_of_mem _ hd)
  have hfit : Fit s := fun {y c} hc i hi => by
    obtain ⟨ha, rfl⟩ := Array.getElem?_eq_some_iff.mp hc
    have q := List.all_eq_true.mp ((Array.all_eq_true_iff_forall_mem.mp hF) _ (Array.getElem_mem ha)) i (List.mem_range.mpr hi)
    simpa [Array.getElem?_eq_getElem hi] using q
  obtain ⟨hsets, hown0⟩ := atoms_of _ (rest_1_c_eq ▸ (show rest_1_c.before _ s = true from hrest))
  obtain ⟨⟨c1, k1, mL, q1, q2, q3⟩, ⟨c2, k2, mA, q4, q5, q6⟩, ⟨c3, k3, mO, q7, q8, q9⟩, -⟩ := hcalls
  obtain ⟨bf, bt, em, ca, iv, S_Boolean_FALSE, S_Boolean_TRUE, S_ImmutableCollections_EMPTY, S_Integer_IntegerCache_high, S_Integer_IntegerCache_cache, E_bf, E_bt, E_em, E_iv, F_bf_value, F_bt_value, F_iv_value, V_ca⟩ := own_start hw hsets
  obtain ⟨i0, ei0⟩ := is_v ga0
  obtain rfl : w0 = (.int i0) := Option.some.inj ei0
  obtain ⟨n, o, h1, h2, h3, _, L, rfl, ⟨rfl, N⟩, hq⟩ := rm0a l s _ hw hsets tables_1 i0 bf bt em ca iv mL mA mO s.heap s.heap.size rfl S_Boolean_FALSE S_Boolean_TRUE S_ImmutableCollections_EMPTY S_Integer_IntegerCache_high S_Integer_IntegerCache_cache E_bf E_bt E_em E_iv F_bf_value F_bt_value F_iv_value V_ca ⟨c1, k1, q1, q2, q3.1⟩ ⟨c2, k2, q4, q5, q6.1⟩ ⟨c3, k3, q7, q8, q9.1⟩ (ne_exa E_bf E_em (by decide)) (Mir.ne (C := "java/util/ImmutableCollections$List12") (D := "java/util/ArrayList") ⟨c1, k1, q1, q2, q3⟩ ⟨c2, k2, q4, q5, q6⟩ (by decide)) (by obtain ⟨-, cc, hcc, -⟩ := q3; exact (Array.getElem?_eq_some_iff.mp hcc).1) (by obtain ⟨-, cc, hcc, -⟩ := q6; exact (Array.getElem?_eq_some_iff.mp hcc).1) (by obtain ⟨-, cc, hcc, -⟩ := q9; exact (Array.getElem?_eq_some_iff.mp hcc).1) p e ha hc hk s m _ below hf ((Spec.applies_iff_loose hf).mp happ).1 ⟨rfl, State.Warmed39.refl s, rfl⟩ trivial
  refine ⟨n, _, h1, h2, h3, hpost _ _ _ _ _ _ ⟨Cond.after_iff.mpr rfl, Cond.after_iff.mpr (eq_i res_at (Term.int_eval (1)) rfl), trivial⟩ ⟨hq.1, hq.2.1, (hq.2.2.sift fun y hy => Or.inr (N y hy)).mono (by decide) (by decide)⟩⟩
theorem main_1_1 : Claimed_1_1 := comes_1 fun _ _ _ _ _ _ h hF => ⟨h.1, hF⟩
theorem main_1_2 : Claimed_1_2 := comes_1 fun _ _ _ _ _ _ h hF => ⟨h.2.1, hF⟩
end Jvm.Pilot.@@N@@
namespace Jvm.Pilot.@@N@@
open Jvm Jvm.ClassFile Sem Op Lib Jvm.Free Jvm.Stand Jvm.Pilot.@@N@@.Jvm.D
/-! MADE BY PROGRAM (witnessworld.py) out of the Statement's table words and the real class files: 50 classes; the members and pool entries that the words name. The judged class is class 1, her method 1. -/
namespace start1
open Jvm.ClassFile
def u (s : String) : CpInfo := .utf8 (stringToUtf16 s)
/-- a pool by its gaps: so many unusable entries, then the entry; so many at the end -/
def gap : Nat → List CpInfo → List CpInfo
  | 0, r => r
  | n + 1, r => .unusable :: gap n r
def poolList (es : List (Nat × CpInfo)) (last : Nat) : List CpInfo := es.foldr (fun e r => gap e.1 (e.2 :: r)) (gap last [])
def pool (es : List (Nat × CpInfo)) (last : Nat) : Array CpInfo := ⟨poolList es last⟩
def fileOf (pool : Array CpInfo) (this : Nat) (attrs : Array Attribute := #[]) (ms : Array MethodInfo := #[]) (fl : Nat := 33) (sup : Nat := 0) (ifs : Array Nat := #[]) (fds : Array FieldInfo := #[]) : ClassFile where
  minorVersion := 0
  majorVersion := 65
  constantPool := pool
  accessFlags := fl
  thisClass := this
  superClass := sup
  interfaces := ifs
  fields := fds
  methods := ms
  attributes := attrs
def plain (name : String) (sup : Option ClassId) : Class where
  name := name
  kind := .ordinary
  loader := none
  accessFlags := 33
  super := sup
  interfaces := #[]
  cf := none
  fields := #[]
  methods := #[]
  instanceTypes := #[]
  staticTypes := #[]
  resolved := #[]
  callSites := []
  init := .initialized
  statics := none
  mirror := none

def pool0 : Array CpInfo := pool [(5, u "<init>"), (0, u "()V"), (1, .class_ 10), (1, u "java/lang/Object"), (0, u "getClass"), (0, u "()Ljava/lang/Class;"), (14, u "hashCode"), (0, u "()I"), (67, u "clone"), (0, u "()Ljava/lang/Object;")] 26

def k0c0 : Code := { maxStack := 0, maxLocals := 1, code := object_method_1_code, exceptionTable := #[], attributes := #[] }
def k0m0 : Method := { name := "<init>", desc := "()V", sig := { parameters := [], returnType := none }, accessFlags := 1, code := some k0c0 }
def k0m1 : Method := { name := "getClass", desc := "()Ljava/lang/Class;", sig := { parameters := [], returnType := some (.object "java/lang/Class") }, accessFlags := 273, code := none }
def k0m2 : Method := { name := "hashCode", desc := "()I", sig := { parameters := [], returnType := some .int }, accessFlags := 257, code := none }
def k0m3 : Method := { name := "clone", desc := "()Ljava/lang/Object;", sig := { parameters := [], returnType := some (.object "java/lang/Object") }, accessFlags := 260, code := none }
/-- java/lang/Object -/
def k0 : Class := { plain "java/lang/Object" none with
  accessFlags := 33
  interfaces := #[]
  cf := some (fileOf pool0 8 #[] #[{ accessFlags := 1, nameIndex := 5, descriptorIndex := 6, attributes := #[] }, { accessFlags := 273, nameIndex := 11, descriptorIndex := 12, attributes := #[] }, { accessFlags := 257, nameIndex := 27, descriptorIndex := 28, attributes := #[] }, { accessFlags := 260, nameIndex := 96, descriptorIndex := 97, attributes := #[] }] 33 0 #[] #[])
  fields := #[]
  methods := #[k0m0, k0m1, k0m2, k0m3]
  instanceTypes := #[]
  staticTypes := #[]
  resolved := Array.replicate 124 none
  statics := none }

def pool1 : Array CpInfo := pool [(2, .class_ 4), (0, .nameAndType 5 6), (0, u "java/lang/Object"), (0, u "<init>"), (0, u "()V"), (0, .class_ 8), (0, u "com/example/meerkat/meerkat/model/Circuit$Builder"), (0, .methodref 7 3), (0, .methodref 7 11), (0, .nameAndType 12 13), (0, u "input"), (0, u "()I"), (0, .integer 2147483647), (0, .methodref 7 16), (0, .nameAndType 17 18), (0, u "and"), (0, u "([I)I"), (0, .methodref 7 20), (0, .nameAndType 21 22), (0, u "build"), (0, u "()Lcom/example/meerkat/meerkat/model/Circuit;"), (0, .methodref 24 25), (0, .class_ 26), (0, .nameAndType 27 13), (0, u "com/example/meerkat/meerkat/model/Circuit"), (0, u "nodeCount"), (0, .methodref 24 29), (0, .nameAndType 30 31), (0, u "isInput"), (0, u "(I)Z"), (0, .methodref 24 33), (0, .nameAndType 34 35), (0, u "childCount"), (0, u "(I)I"), (0, .class_ 37), (0, u "com/example/meerkat/meerkat/model/BuilderInputPinLaw"), (2, u "law")] 5

def k1m0 : Method := { name := "<init>", desc := "()V", sig := { parameters := [], returnType := none }, accessFlags := 1, code := none }
def k1c1 : Code := { maxStack := 5, maxLocals := 9, code := code, exceptionTable := #[], attributes := #[] }
def k1m1 : Method := { name := "law", desc := "(I)Z", sig := { parameters := [.int], returnType := some .boolean }, accessFlags := 9, code := some k1c1 }
/-- com/example/meerkat/meerkat/model/BuilderInputPinLaw -/
def k1 : Class := { plain "com/example/meerkat/meerkat/model/BuilderInputPinLaw" (some 0) with
  accessFlags := 49
  interfaces := #[]
  cf := some (fileOf pool1 36 #[] #[{ accessFlags := 1, nameIndex := 5, descriptorIndex := 6, attributes := #[] }, { accessFlags := 9, nameIndex := 40, descriptorIndex := 31, attributes := #[] }] 49 2 #[] #[])
  fields := #[]
  methods := #[k1m0, k1m1]
  instanceTypes := #[]
  staticTypes := #[]
  resolved := Array.replicate 46 none
  statics := none }

def pool2 : Array CpInfo := pool [(1, .class_ 2), (0, u "com/example/meerkat/meerkat/model/Circuit"), (0, .methodref 4 5), (0, .class_ 6), (0, .nameAndType 7 8), (0, u "java/lang/Object"), (0, u "<init>"), (0, u "()V"), (0, .class_ 10), (0, u "java/util/ArrayList"), (0, .methodref 12 13), (0, .class_ 14), (0, .nameAndType 15 16), (0, u "java/lang/Boolean"), (0, u "valueOf"), (0, u "(Z)Ljava/lang/Boolean;"), (0, .interfaceMethodref 18 19), (0, .class_ 20), (0, .nameAndType 21 22), (0, u "java/util/List"), (0, u "of"), (0, u "(Ljava/lang/Object;Ljava/lang/Object;)Ljava/util/List;"), (0, .methodref 9 24), (0, .nameAndType 7 25), (0, u "(Ljava/util/Collection;)V"), (0, .fieldref 27 28), (0, .class_ 29), (0, .nameAndType 30 31), (0, u "com/example/meerkat/meerkat/model/Circuit$Builder"), (0, u "input"), (0, u "Ljava/util/List;"), (0, .fieldref 27 33), (0, .nameAndType 34 31), (0, u "gates"), (0, .class_ 36), (0, u "java/util/HashMap"), (0, .methodref 35 5), (0, .fieldref 27 39), (0, .nameAndType 40 41), (0, u "made"), (0, u "Ljava/util/Map;"), (0, .interfaceMethodref 18 43), (0, .nameAndType 44 45), (0, u "add"), (0, u "(Ljava/lang/Object;)Z"), (0, .interfaceMethodref 18 47), (0, .nameAndType 48 49), (0, u "size"), (0, u "()I"), (0, .methodref 51 52), (0, .class_ 53), (0, .nameAndType 54 55), (0, u "[I"), (0, u "clone"), (0, u "()Ljava/lang/Object;"), (0, .methodref 57 58), (0, .class_ 59), (0, .nameAndType 60 61), (0, u "java/lang/Math"), (0, u "abs"), (0, u "(I)I"), (9, .methodref 72 73), (0, .class_ 74), (0, .nameAndType 75 76), (0, u "java/util/Arrays"), (0, u "sort"), (0, u "([I)V"), (0, .methodref 72 78), (0, .nameAndType 79 80), (0, u "binarySearch"), (0, u "([II)I"), (0, .methodref 72 82), (0, .nameAndType 83 84), (0, u "copyOf"), (0, u "([II)[I"), (0, .methodref 27 86), (0, .nameAndType 87 88), (0, u "gate"), (0, u "([I)I"), (6, u "and"), (7, .interfaceMethodref 18 104), (0, .nameAndType 105 106), (0, u "get"), (0, u "(I)Ljava/lang/Object;"), (0, .methodref 12 108), (0, .nameAndType 109 110), (0, u "booleanValue"), (0, u "()Z"), (0, .methodref 112 113), (0, .class_ 114), (0, .nameAndType 115 116), (0, u "java/lang/System"), (0, u "arraycopy"), (0, u "(Ljava/lang/Object;ILjava/lang/Object;II)V"), (0, .methodref 1 118), (0, .nameAndType 7 119), (0, u "([Z[I[I)V"), (0, .class_ 121), (0, u "com/example/meerkat/meerkat/model/Circuit$Gate"), (0, .methodref 120 123), (0, .nameAndType 7 76), (0, .interfaceMethodref 125 126), (0, .class_ 127), (0, .nameAndType 105 128), (0, u "java/util/Map"), (0, u "(Ljava/lang/Object;)Ljava/lang/Object;"), (0, .class_ 130), (0, u "java/lang/Integer"), (0, .methodref 129 132), (0, .nameAndType 15 133), (0, u "(I)Ljava/lang/Integer;"), (0, .interfaceMethodref 125 135), (0, .nameAndType 136 137), (0, u "put"), (0, u "(Ljava/lang/Object;Ljava/lang/Object;)Ljava/lang/Object;"), (0, .methodref 129 139), (0, .nameAndType 140 49), (0, u "intValue"), (10, u "build"), (0, u "()Lcom/example/meerkat/meerkat/model/Circuit;")] 23

def k2c0 : Code := { maxStack := 5, maxLocals := 1, code := prog_21_method_1_code, exceptionTable := #[], attributes := #[] }
def k2m0 : Method := { name := "<init>", desc := "()V", sig := { parameters := [], returnType := none }, accessFlags := 1, code := some k2c0 }
def k2c1 : Code := { maxStack := 2, maxLocals := 1, code := prog_21_method_2_code, exceptionTable := #[], attributes := #[] }
def k2m1 : Method := { name := "input", desc := "()I", sig := { parameters := [], returnType := some .int }, accessFlags := 1, code := some k2c1 }
def k2c2 : Code := { maxStack := 3, maxLocals := 10, code := prog_21_method_3_code, exceptionTable := #[], attributes := #[] }
def k2m2 : Method := { name := "and", desc := "([I)I", sig := { parameters := [(.array .int)], returnType := some .int }, accessFlags := 129, code := some k2c2 }
def k2c3 : Code := { maxStack := 5, maxLocals := 7, code := prog_21_method_9_code, exceptionTable := #[], attributes := #[] }
def k2m3 : Method := { name := "build", desc := "()Lcom/example/meerkat/meerkat/model/Circuit;", sig := { parameters := [], returnType := some (.object "com/example/meerkat/meerkat/model/Circuit") }, accessFlags := 1, code := some k2c3 }
def k2c4 : Code := { maxStack := 3, maxLocals := 4, code := prog_21_method_10_code, exceptionTable := #[], attributes := #[] }
def k2m4 : Method := { name := "gate", desc := "([I)I", sig := { parameters := [(.array .int)], returnType := some .int }, accessFlags := 2, code := some k2c4 }
/-- com/example/meerkat/meerkat/model/Circuit$Builder -/
def k2 : Class := { plain "com/example/meerkat/meerkat/model/Circuit$Builder" (some 0) with
  accessFlags := 49
  interfaces := #[]
  cf := some (fileOf pool2 27 #[.nestHost 1] #[{ accessFlags := 1, nameIndex := 7, descriptorIndex := 8, attributes := #[] }, { accessFlags := 1, nameIndex := 30, descriptorIndex := 49, attributes := #[] }, { accessFlags := 129, nameIndex := 95, descriptorIndex := 88, attributes := #[] }, { accessFlags := 1, nameIndex := 151, descriptorIndex := 152, attributes := #[] }, { accessFlags := 2, nameIndex := 87, descriptorIndex := 88, attributes := #[] }] 49 4 #[] #[{ accessFlags := 18, nameIndex := 30, descriptorIndex := 31, attributes := #[] }, { accessFlags := 18, nameIndex := 34, descriptorIndex := 31, attributes := #[] }, { accessFlags := 18, nameIndex := 40, descriptorIndex := 41, attributes := #[] }])
  fields := #[{ name := "input", type := (.object "java/util/List"), accessFlags := 18, slot := 0, constantValue := 0 }, { name := "gates", type := (.object "java/util/List"), accessFlags := 18, slot := 1, constantValue := 0 }, { name := "made", type := (.object "java/util/Map"), accessFlags := 18, slot := 2, constantValue := 0 }]
  methods := #[k2m0, k2m1, k2m2, k2m3, k2m4]
  instanceTypes := #[(.object "java/util/List"), (.object "java/util/List"), (.object "java/util/Map")]
  staticTypes := #[]
  resolved := Array.replicate 176 none
  statics := none }

def pool3 : Array CpInfo := pool [(8, .class_ 10), (1, u "java/lang/Iterable"), (24, .class_ 36), (0, u "java/lang/Object")] 25

/-- java/lang/Iterable -/
def k3 : Class := { plain "java/lang/Iterable" (some 0) with
  accessFlags := 1537
  interfaces := #[]
  cf := some (fileOf pool3 8 #[] #[] 1537 35 #[] #[])
  fields := #[]
  methods := #[]
  instanceTypes := #[]
  staticTypes := #[]
  resolved := Array.replicate 62 none
  statics := none }

def pool4 : Array CpInfo := pool [(10, .class_ 12), (1, u "java/util/Collection"), (0, u "toArray"), (46, .class_ 61), (0, u "java/lang/Object"), (0, .class_ 63), (0, u "java/lang/Iterable"), (6, u "()[Ljava/lang/Object;")] 44

def k4m0 : Method := { name := "toArray", desc := "()[Ljava/lang/Object;", sig := { parameters := [], returnType := some (.array (.object "java/lang/Object")) }, accessFlags := 1025, code := none }
/-- java/util/Collection -/
def k4 : Class := { plain "java/util/Collection" (some 0) with
  accessFlags := 1537
  interfaces := #[3]
  cf := some (fileOf pool4 10 #[] #[{ accessFlags := 1025, nameIndex := 13, descriptorIndex := 70, attributes := #[] }] 1537 60 #[62] #[])
  fields := #[]
  methods := #[k4m0]
  instanceTypes := #[]
  staticTypes := #[]
  resolved := Array.replicate 115 none
  statics := none }

def pool5 : Array CpInfo := pool [(1, .methodref 2 3), (0, .class_ 4), (0, .nameAndType 5 6), (0, u "java/lang/Object"), (0, u "<init>"), (0, u "()V"), (1, .class_ 10), (1, u "java/util/AbstractCollection"), (66, .class_ 78), (0, u "java/util/Collection")] 81

def k5c0 : Code := { maxStack := 1, maxLocals := 1, code := jdk_22_method_1_code, exceptionTable := #[], attributes := #[] }
def k5m0 : Method := { name := "<init>", desc := "()V", sig := { parameters := [], returnType := none }, accessFlags := 4, code := some k5c0 }
/-- java/util/AbstractCollection -/
def k5 : Class := { plain "java/util/AbstractCollection" (some 0) with
  accessFlags := 1057
  interfaces := #[4]
  cf := some (fileOf pool5 8 #[] #[{ accessFlags := 4, nameIndex := 5, descriptorIndex := 6, attributes := #[] }] 1057 2 #[77] #[])
  fields := #[]
  methods := #[k5m0]
  instanceTypes := #[]
  staticTypes := #[]
  resolved := Array.replicate 160 none
  statics := none }

def pool6 : Array CpInfo := pool [(8, .class_ 10), (1, u "java/util/SequencedCollection"), (15, .class_ 27), (0, u "java/lang/Object"), (0, .class_ 29), (0, u "java/util/Collection")] 27

/-- java/util/SequencedCollection -/
def k6 : Class := { plain "java/util/SequencedCollection" (some 0) with
  accessFlags := 1537
  interfaces := #[4]
  cf := some (fileOf pool6 8 #[] #[] 1537 26 #[28] #[])
  fields := #[]
  methods := #[]
  instanceTypes := #[]
  staticTypes := #[]
  resolved := Array.replicate 57 none
  statics := none }

def pool7 : Array CpInfo := pool [(8, .class_ 10), (1, u "java/util/List"), (37, u "<init>"), (11, u "add"), (3, u "(Ljava/lang/Object;)Z"), (10, u "get"), (0, u "(I)Ljava/lang/Object;"), (2, u "size"), (0, u "()I"), (7, u "of"), (7, .class_ 97), (0, u "java/util/ImmutableCollections$List12"), (2, .methodref 96 101), (0, .nameAndType 48 102), (0, u "(Ljava/lang/Object;Ljava/lang/Object;)V"), (0, .class_ 104), (0, u "java/lang/Object"), (15, .class_ 121), (0, u "java/util/SequencedCollection"), (79, u "(Ljava/lang/Object;Ljava/lang/Object;)Ljava/util/List;")] 49

def k7m0 : Method := { name := "size", desc := "()I", sig := { parameters := [], returnType := some .int }, accessFlags := 1025, code := none }
def k7m1 : Method := { name := "add", desc := "(Ljava/lang/Object;)Z", sig := { parameters := [(.object "java/lang/Object")], returnType := some .boolean }, accessFlags := 1025, code := none }
def k7m2 : Method := { name := "get", desc := "(I)Ljava/lang/Object;", sig := { parameters := [.int], returnType := some (.object "java/lang/Object") }, accessFlags := 1025, code := none }
def k7c3 : Code := { maxStack := 4, maxLocals := 2, code := jdk_40_method_38_code, exceptionTable := #[], attributes := #[] }
def k7m3 : Method := { name := "of", desc := "(Ljava/lang/Object;Ljava/lang/Object;)Ljava/util/List;", sig := { parameters := [(.object "java/lang/Object"), (.object "java/lang/Object")], returnType := some (.object "java/util/List") }, accessFlags := 9, code := some k7c3 }
/-- java/util/List -/
def k7 : Class := { plain "java/util/List" (some 0) with
  accessFlags := 1537
  interfaces := #[6]
  cf := some (fileOf pool7 8 #[] #[{ accessFlags := 1025, nameIndex := 79, descriptorIndex := 80, attributes := #[] }, { accessFlags := 1025, nameIndex := 60, descriptorIndex := 64, attributes := #[] }, { accessFlags := 1025, nameIndex := 75, descriptorIndex := 76, attributes := #[] }, { accessFlags := 9, nameIndex := 88, descriptorIndex := 201, attributes := #[] }] 1537 103 #[120] #[])
  fields := #[]
  methods := #[k7m0, k7m1, k7m2, k7m3]
  instanceTypes := #[]
  staticTypes := #[]
  resolved := Array.replicate 251 none
  statics := none }

def pool8 : Array CpInfo := pool [(1, .methodref 2 3), (0, .class_ 4), (0, .nameAndType 5 6), (0, u "java/util/AbstractCollection"), (0, u "<init>"), (0, u "()V"), (0, .fieldref 8 9), (0, .class_ 10), (0, .nameAndType 11 12), (0, u "java/util/AbstractList"), (0, u "modCount"), (0, u "I"), (64, .class_ 78), (0, u "java/util/AbstractList$Itr"), (3, .class_ 83), (0, u "java/util/AbstractList$ListItr"), (9, .class_ 94), (0, u "java/util/AbstractList$RandomAccessSubList"), (3, .class_ 99), (0, u "java/util/AbstractList$SubList"), (33, .class_ 134), (0, u "java/util/List"), (73, .class_ 209), (0, u "java/util/AbstractList$SubList$1"), (0, .class_ 211), (0, u "java/util/AbstractList$RandomAccessSpliterator")] 6

def k8c0 : Code := { maxStack := 2, maxLocals := 1, code := jdk_39_method_1_code, exceptionTable := #[], attributes := #[] }
def k8m0 : Method := { name := "<init>", desc := "()V", sig := { parameters := [], returnType := none }, accessFlags := 4, code := some k8c0 }
/-- java/util/AbstractList -/
def k8 : Class := { plain "java/util/AbstractList" (some 5) with
  accessFlags := 1057
  interfaces := #[7]
  cf := some (fileOf pool8 8 #[.nestMembers #[93, 98, 208, 210, 82, 77]] #[{ accessFlags := 4, nameIndex := 5, descriptorIndex := 6, attributes := #[] }] 1057 2 #[133] #[{ accessFlags := 132, nameIndex := 11, descriptorIndex := 12, attributes := #[] }])
  fields := #[{ name := "modCount", type := .int, accessFlags := 132, slot := 0, constantValue := 0 }]
  methods := #[k8m0]
  instanceTypes := #[.int]
  staticTypes := #[]
  resolved := Array.replicate 218 none
  statics := none }

def pool9 : Array CpInfo := pool [(1, .class_ 2), (0, u "java/util/RandomAccess"), (0, .class_ 4), (0, u "java/lang/Object")] 2

/-- java/util/RandomAccess -/
def k9 : Class := { plain "java/util/RandomAccess" (some 0) with
  accessFlags := 1537
  interfaces := #[]
  cf := some (fileOf pool9 1 #[] #[] 1537 3 #[] #[])
  fields := #[]
  methods := #[]
  instanceTypes := #[]
  staticTypes := #[]
  resolved := Array.replicate 7 none
  statics := none }

def pool10 : Array CpInfo := pool [(1, .class_ 2), (0, u "java/lang/Cloneable"), (0, .class_ 4), (0, u "java/lang/Object")] 2

/-- java/lang/Cloneable -/
def k10 : Class := { plain "java/lang/Cloneable" (some 0) with
  accessFlags := 1537
  interfaces := #[]
  cf := some (fileOf pool10 1 #[] #[] 1537 3 #[] #[])
  fields := #[]
  methods := #[]
  instanceTypes := #[]
  staticTypes := #[]
  resolved := Array.replicate 7 none
  statics := none }

def pool11 : Array CpInfo := pool [(1, .class_ 2), (0, u "java/io/Serializable"), (0, .class_ 4), (0, u "java/lang/Object")] 2

/-- java/io/Serializable -/
def k11 : Class := { plain "java/io/Serializable" (some 0) with
  accessFlags := 1537
  interfaces := #[]
  cf := some (fileOf pool11 1 #[] #[] 1537 3 #[] #[])
  fields := #[]
  methods := #[]
  instanceTypes := #[]
  staticTypes := #[]
  resolved := Array.replicate 7 none
  statics := none }

def pool12 : Array CpInfo := pool [(1, .methodref 2 3), (0, .class_ 4), (0, .nameAndType 5 6), (0, u "java/util/AbstractList"), (0, u "<init>"), (0, u "()V"), (2, .fieldref 10 11), (0, .class_ 12), (0, .nameAndType 13 14), (0, u "java/util/ArrayList"), (0, u "elementData"), (0, u "[Ljava/lang/Object;"), (2, u "EMPTY_ELEMENTDATA"), (23, u "DEFAULTCAPACITY_EMPTY_ELEMENTDATA"), (0, .interfaceMethodref 43 44), (0, .class_ 45), (0, .nameAndType 46 47), (0, u "java/util/Collection"), (0, u "toArray"), (0, u "()[Ljava/lang/Object;"), (0, .fieldref 10 49), (0, .nameAndType 50 51), (0, u "size"), (0, u "I"), (0, .interfaceMethodref 43 53), (0, .nameAndType 54 55), (0, u "getClass"), (0, u "()Ljava/lang/Class;"), (0, .class_ 14), (0, .methodref 58 59), (0, .class_ 60), (0, .nameAndType 61 62), (0, u "java/util/Arrays"), (0, u "copyOf"), (0, u "([Ljava/lang/Object;ILjava/lang/Class;)[Ljava/lang/Object;"), (0, .fieldref 10 64), (0, .nameAndType 65 51), (0, u "modCount"), (0, .methodref 58 67), (0, .nameAndType 61 68), (0, u "([Ljava/lang/Object;I)[Ljava/lang/Object;"), (0, .methodref 10 70), (0, .nameAndType 71 72), (0, u "grow"), (0, u "(I)[Ljava/lang/Object;"), (0, .methodref 74 75), (0, .class_ 76), (0, .nameAndType 77 78), (0, u "jdk/internal/util/ArraysSupport"), (0, u "newLength"), (0, u "(III)I"), (5, u "(II)I"), (11, u "(Ljava/lang/Object;)Z"), (21, .methodref 119 120), (0, .class_ 121), (0, .nameAndType 122 84), (0, u "java/util/Objects"), (0, u "checkIndex"), (0, .methodref 10 124), (0, .nameAndType 13 125), (0, u "(I)Ljava/lang/Object;"), (3, .methodref 10 130), (0, .nameAndType 71 47), (0, .methodref 10 132), (0, .nameAndType 133 134), (0, u "add"), (0, u "(Ljava/lang/Object;[Ljava/lang/Object;I)V"), (13, .class_ 149), (0, u "java/util/List"), (36, u "()I"), (75, .class_ 263), (0, u "java/util/ArrayList$ListItr"), (3, .class_ 268), (0, u "java/util/ArrayList$Itr"), (7, .class_ 277), (0, u "java/util/ArrayList$SubList"), (12, .class_ 291), (0, u "java/util/ArrayList$ArrayListSpliterator"), (37, .class_ 330), (0, u "java/util/RandomAccess"), (0, .class_ 332), (0, u "java/lang/Cloneable"), (0, .class_ 334), (0, u "java/io/Serializable"), (0, u "serialVersionUID"), (0, u "J"), (3, u "DEFAULT_CAPACITY"), (10, u "(Ljava/util/Collection;)V"), (29, u "get"), (118, .class_ 501), (0, u "java/util/ArrayList$SubList$2"), (0, .class_ 503), (0, u "java/util/ArrayList$SubList$1")] 5

def k12m0 : Method := { name := "<init>", desc := "()V", sig := { parameters := [], returnType := none }, accessFlags := 1, code := none }
def k12c1 : Code := { maxStack := 4, maxLocals := 3, code := jdk_38_method_3_code, exceptionTable := #[], attributes := #[] }
def k12m1 : Method := { name := "<init>", desc := "(Ljava/util/Collection;)V", sig := { parameters := [(.object "java/util/Collection")], returnType := none }, accessFlags := 1, code := some k12c1 }
def k12c2 : Code := { maxStack := 4, maxLocals := 4, code := jdk_38_method_6_code, exceptionTable := #[], attributes := #[] }
def k12m2 : Method := { name := "grow", desc := "(I)[Ljava/lang/Object;", sig := { parameters := [.int], returnType := some (.array (.object "java/lang/Object")) }, accessFlags := 2, code := some k12c2 }
def k12c3 : Code := { maxStack := 3, maxLocals := 1, code := jdk_38_method_7_code, exceptionTable := #[], attributes := #[] }
def k12m3 : Method := { name := "grow", desc := "()[Ljava/lang/Object;", sig := { parameters := [], returnType := some (.array (.object "java/lang/Object")) }, accessFlags := 2, code := some k12c3 }
def k12c4 : Code := { maxStack := 1, maxLocals := 1, code := jdk_38_method_8_code, exceptionTable := #[], attributes := #[] }
def k12m4 : Method := { name := "size", desc := "()I", sig := { parameters := [], returnType := some .int }, accessFlags := 1, code := some k12c4 }
def k12c5 : Code := { maxStack := 2, maxLocals := 2, code := jdk_38_method_18_code, exceptionTable := #[], attributes := #[] }
def k12m5 : Method := { name := "elementData", desc := "(I)Ljava/lang/Object;", sig := { parameters := [.int], returnType := some (.object "java/lang/Object") }, accessFlags := 0, code := some k12c5 }
def k12c6 : Code := { maxStack := 2, maxLocals := 2, code := jdk_38_method_20_code, exceptionTable := #[], attributes := #[] }
def k12m6 : Method := { name := "get", desc := "(I)Ljava/lang/Object;", sig := { parameters := [.int], returnType := some (.object "java/lang/Object") }, accessFlags := 1, code := some k12c6 }
def k12c7 : Code := { maxStack := 3, maxLocals := 4, code := jdk_38_method_24_code, exceptionTable := #[], attributes := #[] }
def k12m7 : Method := { name := "add", desc := "(Ljava/lang/Object;[Ljava/lang/Object;I)V", sig := { parameters := [(.object "java/lang/Object"), (.array (.object "java/lang/Object")), .int], returnType := none }, accessFlags := 2, code := some k12c7 }
def k12c8 : Code := { maxStack := 4, maxLocals := 2, code := jdk_38_method_25_code, exceptionTable := #[], attributes := #[] }
def k12m8 : Method := { name := "add", desc := "(Ljava/lang/Object;)Z", sig := { parameters := [(.object "java/lang/Object")], returnType := some .boolean }, accessFlags := 1, code := some k12c8 }
/-- java/util/ArrayList -/
def k12 : Class := { plain "java/util/ArrayList" (some 8) with
  accessFlags := 33
  interfaces := #[7, 9, 10, 11]
  cf := some (fileOf pool12 10 #[.nestMembers #[290, 276, 500, 502, 262, 267]] #[{ accessFlags := 1, nameIndex := 5, descriptorIndex := 6, attributes := #[] }, { accessFlags := 1, nameIndex := 5, descriptorIndex := 351, attributes := #[] }, { accessFlags := 2, nameIndex := 71, descriptorIndex := 72, attributes := #[] }, { accessFlags := 2, nameIndex := 71, descriptorIndex := 47, attributes := #[] }, { accessFlags := 1, nameIndex := 50, descriptorIndex := 186, attributes := #[] }, { accessFlags := 0, nameIndex := 13, descriptorIndex := 125, attributes := #[] }, { accessFlags := 1, nameIndex := 381, descriptorIndex := 125, attributes := #[] }, { accessFlags := 2, nameIndex := 133, descriptorIndex := 134, attributes := #[] }, { accessFlags := 1, nameIndex := 133, descriptorIndex := 96, attributes := #[] }] 33 2 #[148, 329, 331, 333] #[{ accessFlags := 26, nameIndex := 335, descriptorIndex := 336, attributes := #[] }, { accessFlags := 26, nameIndex := 340, descriptorIndex := 51, attributes := #[] }, { accessFlags := 26, nameIndex := 17, descriptorIndex := 14, attributes := #[] }, { accessFlags := 26, nameIndex := 41, descriptorIndex := 14, attributes := #[] }, { accessFlags := 128, nameIndex := 13, descriptorIndex := 14, attributes := #[] }, { accessFlags := 2, nameIndex := 50, descriptorIndex := 51, attributes := #[] }])
  fields := #[{ name := "serialVersionUID", type := .long, accessFlags := 26, slot := 0, constantValue := 0 }, { name := "DEFAULT_CAPACITY", type := .int, accessFlags := 26, slot := 1, constantValue := 0 }, { name := "EMPTY_ELEMENTDATA", type := (.array (.object "java/lang/Object")), accessFlags := 26, slot := 2, constantValue := 0 }, { name := "DEFAULTCAPACITY_EMPTY_ELEMENTDATA", type := (.array (.object "java/lang/Object")), accessFlags := 26, slot := 3, constantValue := 0 }, { name := "elementData", type := (.array (.object "java/lang/Object")), accessFlags := 128, slot := 1, constantValue := 0 }, { name := "size", type := .int, accessFlags := 2, slot := 2, constantValue := 0 }]
  methods := #[k12m0, k12m1, k12m2, k12m3, k12m4, k12m5, k12m6, k12m7, k12m8]
  instanceTypes := #[.int, (.array (.object "java/lang/Object")), .int]
  staticTypes := #[.long, .int, (.array (.object "java/lang/Object")), (.array (.object "java/lang/Object"))]
  resolved := Array.replicate 509 none
  mirror := some 4
  statics := none }

def pool13 : Array CpInfo := pool [(1, .class_ 2), (0, u "java/lang/Comparable"), (0, .class_ 4), (0, u "java/lang/Object")] 7

/-- java/lang/Comparable -/
def k13 : Class := { plain "java/lang/Comparable" (some 0) with
  accessFlags := 1537
  interfaces := #[]
  cf := some (fileOf pool13 1 #[] #[] 1537 3 #[] #[])
  fields := #[]
  methods := #[]
  instanceTypes := #[]
  staticTypes := #[]
  resolved := Array.replicate 12 none
  statics := none }

def pool14 : Array CpInfo := pool [(1, .class_ 2), (0, u "java/lang/constant/Constable"), (0, .class_ 4), (0, u "java/lang/Object")] 6

/-- java/lang/constant/Constable -/
def k14 : Class := { plain "java/lang/constant/Constable" (some 0) with
  accessFlags := 1537
  interfaces := #[]
  cf := some (fileOf pool14 1 #[] #[] 1537 3 #[] #[])
  fields := #[]
  methods := #[]
  instanceTypes := #[]
  staticTypes := #[]
  resolved := Array.replicate 11 none
  statics := none }

def pool15 : Array CpInfo := pool [(2, .class_ 4), (1, u "java/lang/Object"), (2, .fieldref 8 9), (0, .class_ 10), (0, .nameAndType 11 12), (0, u "java/lang/Boolean"), (0, u "value"), (0, u "Z"), (14, .fieldref 8 28), (0, .nameAndType 29 30), (0, u "TRUE"), (0, u "Ljava/lang/Boolean;"), (0, .fieldref 8 32), (0, .nameAndType 33 30), (0, u "FALSE"), (2, u "valueOf"), (7, u "booleanValue"), (0, u "()Z"), (41, u "TYPE"), (0, u "Ljava/lang/Class;"), (0, .class_ 90), (0, u "java/io/Serializable"), (0, .class_ 92), (0, u "java/lang/Comparable"), (0, .class_ 94), (0, u "java/lang/constant/Constable"), (2, u "serialVersionUID"), (0, u "J"), (18, u "(Z)Ljava/lang/Boolean;")] 34

def k15c0 : Code := { maxStack := 1, maxLocals := 1, code := jdk_2055_method_4_code, exceptionTable := #[], attributes := #[] }
def k15m0 : Method := { name := "booleanValue", desc := "()Z", sig := { parameters := [], returnType := some .boolean }, accessFlags := 1, code := some k15c0 }
def k15c1 : Code := { maxStack := 1, maxLocals := 1, code := jdk_2055_method_5_code, exceptionTable := #[], attributes := #[] }
def k15m1 : Method := { name := "valueOf", desc := "(Z)Ljava/lang/Boolean;", sig := { parameters := [.boolean], returnType := some (.object "java/lang/Boolean") }, accessFlags := 9, code := some k15c1 }
/-- java/lang/Boolean -/
def k15 : Class := { plain "java/lang/Boolean" (some 0) with
  accessFlags := 49
  interfaces := #[11, 13, 14]
  cf := some (fileOf pool15 8 #[] #[{ accessFlags := 1, nameIndex := 44, descriptorIndex := 45, attributes := #[] }, { accessFlags := 9, nameIndex := 36, descriptorIndex := 117, attributes := #[] }] 49 2 #[89, 91, 93] #[{ accessFlags := 25, nameIndex := 29, descriptorIndex := 30, attributes := #[] }, { accessFlags := 25, nameIndex := 33, descriptorIndex := 30, attributes := #[] }, { accessFlags := 25, nameIndex := 87, descriptorIndex := 88, attributes := #[] }, { accessFlags := 18, nameIndex := 11, descriptorIndex := 12, attributes := #[] }, { accessFlags := 26, nameIndex := 97, descriptorIndex := 98, attributes := #[] }])
  fields := #[{ name := "TRUE", type := (.object "java/lang/Boolean"), accessFlags := 25, slot := 0, constantValue := 0 }, { name := "FALSE", type := (.object "java/lang/Boolean"), accessFlags := 25, slot := 1, constantValue := 0 }, { name := "TYPE", type := (.object "java/lang/Class"), accessFlags := 25, slot := 2, constantValue := 0 }, { name := "value", type := .boolean, accessFlags := 18, slot := 0, constantValue := 0 }, { name := "serialVersionUID", type := .long, accessFlags := 26, slot := 3, constantValue := 0 }]
  methods := #[k15m0, k15m1]
  instanceTypes := #[.boolean]
  staticTypes := #[(.object "java/lang/Boolean"), (.object "java/lang/Boolean"), (.object "java/lang/Class"), .long]
  resolved := Array.replicate 152 none
  statics := some 0 }

def pool16 : Array CpInfo := pool [(1, .methodref 2 3), (0, .class_ 4), (0, .nameAndType 5 6), (0, u "java/util/AbstractCollection"), (0, u "<init>"), (0, u "()V"), (1, .class_ 10), (1, u "java/util/ImmutableCollections"), (2, .class_ 14), (0, u "java/util/ImmutableCollections$AbstractImmutableCollection")] 41

def k16c0 : Code := { maxStack := 1, maxLocals := 1, code := jdk_47_method_1_code, exceptionTable := #[], attributes := #[] }
def k16m0 : Method := { name := "<init>", desc := "()V", sig := { parameters := [], returnType := none }, accessFlags := 0, code := some k16c0 }
/-- java/util/ImmutableCollections$AbstractImmutableCollection -/
def k16 : Class := { plain "java/util/ImmutableCollections$AbstractImmutableCollection" (some 5) with
  accessFlags := 1056
  interfaces := #[]
  cf := some (fileOf pool16 13 #[.nestHost 8] #[{ accessFlags := 0, nameIndex := 5, descriptorIndex := 6, attributes := #[] }] 1056 2 #[] #[])
  fields := #[]
  methods := #[k16m0]
  instanceTypes := #[]
  staticTypes := #[]
  resolved := Array.replicate 56 none
  statics := none }

def pool17 : Array CpInfo := pool [(1, .methodref 2 3), (0, .class_ 4), (0, .nameAndType 5 6), (0, u "java/util/ImmutableCollections$AbstractImmutableCollection"), (0, u "<init>"), (0, u "()V"), (1, .class_ 10), (1, u "java/util/ImmutableCollections"), (3, .class_ 16), (1, u "java/util/ImmutableCollections$AbstractImmutableList"), (60, .class_ 78), (0, u "java/util/List"), (45, .class_ 125), (0, u "java/util/RandomAccess")] 70

def k17c0 : Code := { maxStack := 1, maxLocals := 1, code := jdk_46_method_1_code, exceptionTable := #[], attributes := #[] }
def k17m0 : Method := { name := "<init>", desc := "()V", sig := { parameters := [], returnType := none }, accessFlags := 0, code := some k17c0 }
/-- java/util/ImmutableCollections$AbstractImmutableList -/
def k17 : Class := { plain "java/util/ImmutableCollections$AbstractImmutableList" (some 16) with
  accessFlags := 1056
  interfaces := #[7, 9]
  cf := some (fileOf pool17 14 #[.nestHost 8] #[{ accessFlags := 0, nameIndex := 5, descriptorIndex := 6, attributes := #[] }] 1056 2 #[77, 124] #[])
  fields := #[]
  methods := #[k17m0]
  instanceTypes := #[]
  staticTypes := #[]
  resolved := Array.replicate 196 none
  statics := none }

def pool18 : Array CpInfo := pool [(1, .methodref 2 3), (0, .class_ 4), (0, .nameAndType 5 6), (0, u "java/util/ImmutableCollections$AbstractImmutableList"), (0, u "<init>"), (0, u "()V"), (0, .methodref 8 9), (0, .class_ 10), (0, .nameAndType 11 12), (0, u "java/util/Objects"), (0, u "requireNonNull"), (0, u "(Ljava/lang/Object;)Ljava/lang/Object;"), (0, .fieldref 14 15), (0, .class_ 16), (0, .nameAndType 17 18), (0, u "java/util/ImmutableCollections$List12"), (0, u "e0"), (0, u "Ljava/lang/Object;"), (0, .fieldref 20 21), (0, .class_ 22), (0, .nameAndType 23 18), (0, u "java/util/ImmutableCollections"), (0, u "EMPTY"), (0, .fieldref 14 25), (0, .nameAndType 26 18), (0, u "e1"), (5, .class_ 34), (1, u "java/lang/Object"), (35, .class_ 71), (0, u "java/io/Serializable"), (13, u "(Ljava/lang/Object;Ljava/lang/Object;)V"), (24, u "toArray"), (0, u "()[Ljava/lang/Object;")] 13

def k18c0 : Code := { maxStack := 2, maxLocals := 3, code := jdk_44_method_2_code, exceptionTable := #[], attributes := #[] }
def k18m0 : Method := { name := "<init>", desc := "(Ljava/lang/Object;Ljava/lang/Object;)V", sig := { parameters := [(.object "java/lang/Object"), (.object "java/lang/Object")], returnType := none }, accessFlags := 0, code := some k18c0 }
def k18c1 : Code := { maxStack := 4, maxLocals := 1, code := jdk_44_method_10_code, exceptionTable := #[], attributes := #[] }
def k18m1 : Method := { name := "toArray", desc := "()[Ljava/lang/Object;", sig := { parameters := [], returnType := some (.array (.object "java/lang/Object")) }, accessFlags := 1, code := some k18c1 }
/-- java/util/ImmutableCollections$List12 -/
def k18 : Class := { plain "java/util/ImmutableCollections$List12" (some 17) with
  accessFlags := 48
  interfaces := #[11]
  cf := some (fileOf pool18 14 #[.nestHost 20] #[{ accessFlags := 0, nameIndex := 5, descriptorIndex := 85, attributes := #[] }, { accessFlags := 1, nameIndex := 110, descriptorIndex := 111, attributes := #[] }] 48 2 #[70] #[{ accessFlags := 18, nameIndex := 17, descriptorIndex := 18, attributes := #[] }, { accessFlags := 18, nameIndex := 26, descriptorIndex := 18, attributes := #[] }])
  fields := #[{ name := "e0", type := (.object "java/lang/Object"), accessFlags := 18, slot := 0, constantValue := 0 }, { name := "e1", type := (.object "java/lang/Object"), accessFlags := 18, slot := 1, constantValue := 0 }]
  methods := #[k18m0, k18m1]
  instanceTypes := #[(.object "java/lang/Object"), (.object "java/lang/Object")]
  staticTypes := #[]
  resolved := Array.replicate 125 none
  mirror := some 3
  statics := none }

def pool19 : Array CpInfo := pool [(2, .class_ 4), (1, u "java/lang/Object"), (0, u "<init>"), (0, u "()V"), (35, .class_ 44), (1, u "java/util/Objects"), (0, u "requireNonNull"), (0, u "(Ljava/lang/Object;)Ljava/lang/Object;"), (58, .methodref 106 107), (0, .class_ 108), (0, .nameAndType 109 110), (0, u "jdk/internal/util/Preconditions"), (0, u "checkIndex"), (0, u "(IILjava/util/function/BiFunction;)I"), (60, u "(II)I")] 12

def k19m0 : Method := { name := "<init>", desc := "()V", sig := { parameters := [], returnType := none }, accessFlags := 2, code := none }
def k19c1 : Code := { maxStack := 2, maxLocals := 1, code := jdk_31_method_10_code, exceptionTable := #[], attributes := #[] }
def k19m1 : Method := { name := "requireNonNull", desc := "(Ljava/lang/Object;)Ljava/lang/Object;", sig := { parameters := [(.object "java/lang/Object")], returnType := some (.object "java/lang/Object") }, accessFlags := 9, code := some k19c1 }
def k19c2 : Code := { maxStack := 3, maxLocals := 2, code := jdk_31_method_17_code, exceptionTable := #[], attributes := #[] }
def k19m2 : Method := { name := "checkIndex", desc := "(II)I", sig := { parameters := [.int, .int], returnType := some .int }, accessFlags := 9, code := some k19c2 }
/-- java/util/Objects -/
def k19 : Class := { plain "java/util/Objects" (some 0) with
  accessFlags := 49
  interfaces := #[]
  cf := some (fileOf pool19 42 #[] #[{ accessFlags := 2, nameIndex := 5, descriptorIndex := 6, attributes := #[] }, { accessFlags := 9, nameIndex := 45, descriptorIndex := 46, attributes := #[] }, { accessFlags := 9, nameIndex := 109, descriptorIndex := 171, attributes := #[] }] 49 2 #[] #[])
  fields := #[]
  methods := #[k19m0, k19m1, k19m2]
  instanceTypes := #[]
  staticTypes := #[]
  resolved := Array.replicate 184 none
  statics := none }

def pool20 : Array CpInfo := pool [(2, .class_ 4), (1, u "java/lang/Object"), (0, u "<init>"), (0, u "()V"), (3, .class_ 11), (0, u "java/util/ImmutableCollections$List12"), (0, .class_ 13), (0, u "java/util/ImmutableCollections$ListN"), (3, u "Z"), (29, .class_ 49), (1, u "java/util/ImmutableCollections"), (0, u "$assertionsDisabled"), (5, u "[Ljava/lang/Object;"), (5, u "EMPTY_LIST"), (0, u "Ljava/util/ImmutableCollections$ListN;"), (8, u "EMPTY_LIST_NULLS"), (22, u "SALT32L"), (0, u "J"), (2, u "REVERSE"), (6, u "archivedObjects"), (2, u "EMPTY"), (0, u "Ljava/lang/Object;"), (0, .class_ 112), (0, u "java/util/ImmutableCollections$SetN"), (5, u "EMPTY_SET"), (0, u "Ljava/util/ImmutableCollections$SetN;"), (0, .class_ 121), (0, u "java/util/ImmutableCollections$MapN"), (3, u "EMPTY_MAP"), (0, u "Ljava/util/ImmutableCollections$MapN;"), (4, u "EXPAND_FACTOR"), (0, u "I"), (36, .class_ 170), (0, u "java/util/ImmutableCollections$MapN$MapNIterator"), (0, .class_ 172), (0, u "java/util/ImmutableCollections$MapN$1"), (0, .class_ 174), (0, u "java/util/ImmutableCollections$Map1"), (0, .class_ 176), (0, u "java/util/ImmutableCollections$AbstractImmutableMap"), (0, .class_ 178), (0, u "java/util/ImmutableCollections$SetN$SetNIterator"), (0, .class_ 180), (0, u "java/util/ImmutableCollections$Set12"), (0, .class_ 182), (0, u "java/util/ImmutableCollections$Set12$1"), (0, .class_ 184), (0, u "java/util/ImmutableCollections$AbstractImmutableSet"), (0, .class_ 186), (0, u "java/util/ImmutableCollections$SubList"), (0, .class_ 188), (0, u "java/util/ImmutableCollections$ListItr"), (0, .class_ 190), (0, u "java/util/ImmutableCollections$AbstractImmutableList"), (0, .class_ 192), (0, u "java/util/ImmutableCollections$AbstractImmutableCollection"), (0, .class_ 194), (0, u "java/util/ImmutableCollections$Access"), (0, .class_ 196), (0, u "java/util/ImmutableCollections$Access$1")] 16

def k20m0 : Method := { name := "<init>", desc := "()V", sig := { parameters := [], returnType := none }, accessFlags := 2, code := none }
/-- java/util/ImmutableCollections -/
def k20 : Class := { plain "java/util/ImmutableCollections" (some 0) with
  accessFlags := 32
  interfaces := #[]
  cf := some (fileOf pool20 47 #[.nestMembers #[120, 169, 171, 173, 175, 111, 177, 179, 181, 183, 12, 10, 185, 187, 189, 191, 193, 195]] #[{ accessFlags := 2, nameIndex := 5, descriptorIndex := 6, attributes := #[] }] 32 2 #[] #[{ accessFlags := 26, nameIndex := 95, descriptorIndex := 96, attributes := #[] }, { accessFlags := 26, nameIndex := 99, descriptorIndex := 17, attributes := #[] }, { accessFlags := 10, nameIndex := 106, descriptorIndex := 56, attributes := #[] }, { accessFlags := 26, nameIndex := 109, descriptorIndex := 110, attributes := #[] }, { accessFlags := 24, nameIndex := 62, descriptorIndex := 63, attributes := #[] }, { accessFlags := 24, nameIndex := 72, descriptorIndex := 63, attributes := #[] }, { accessFlags := 24, nameIndex := 118, descriptorIndex := 119, attributes := #[] }, { accessFlags := 24, nameIndex := 125, descriptorIndex := 126, attributes := #[] }, { accessFlags := 24, nameIndex := 131, descriptorIndex := 132, attributes := #[] }, { accessFlags := 4120, nameIndex := 50, descriptorIndex := 17, attributes := #[] }])
  fields := #[{ name := "SALT32L", type := .long, accessFlags := 26, slot := 0, constantValue := 0 }, { name := "REVERSE", type := .boolean, accessFlags := 26, slot := 1, constantValue := 0 }, { name := "archivedObjects", type := (.array (.object "java/lang/Object")), accessFlags := 10, slot := 2, constantValue := 0 }, { name := "EMPTY", type := (.object "java/lang/Object"), accessFlags := 26, slot := 3, constantValue := 0 }, { name := "EMPTY_LIST", type := (.object "java/util/ImmutableCollections$ListN"), accessFlags := 24, slot := 4, constantValue := 0 }, { name := "EMPTY_LIST_NULLS", type := (.object "java/util/ImmutableCollections$ListN"), accessFlags := 24, slot := 5, constantValue := 0 }, { name := "EMPTY_SET", type := (.object "java/util/ImmutableCollections$SetN"), accessFlags := 24, slot := 6, constantValue := 0 }, { name := "EMPTY_MAP", type := (.object "java/util/ImmutableCollections$MapN"), accessFlags := 24, slot := 7, constantValue := 0 }, { name := "EXPAND_FACTOR", type := .int, accessFlags := 24, slot := 8, constantValue := 0 }, { name := "$assertionsDisabled", type := .boolean, accessFlags := 4120, slot := 9, constantValue := 0 }]
  methods := #[k20m0]
  instanceTypes := #[]
  staticTypes := #[.long, .boolean, (.array (.object "java/lang/Object")), (.object "java/lang/Object"), (.object "java/util/ImmutableCollections$ListN"), (.object "java/util/ImmutableCollections$ListN"), (.object "java/util/ImmutableCollections$SetN"), (.object "java/util/ImmutableCollections$MapN"), .int, .boolean]
  resolved := Array.replicate 213 none
  statics := some 1 }

def pool21 : Array CpInfo := pool [(2, .class_ 4), (1, u "java/lang/Object"), (0, u "<init>"), (0, u "()V"), (0, .methodref 8 9), (0, .class_ 10), (0, .nameAndType 11 12), (0, u "java/util/DualPivotQuicksort"), (0, u "sort"), (0, u "([IIII)V"), (1, .class_ 16), (1, u "java/util/Arrays"), (57, .class_ 76), (1, u "java/util/Arrays$NaturalOrder"), (9, .methodref 2 87), (0, .nameAndType 88 89), (0, u "getClass"), (0, u "()Ljava/lang/Class;"), (19, u "()Ljava/lang/Object;"), (0, .class_ 111), (0, u "[Ljava/lang/Object;"), (1, .class_ 115), (1, u "java/util/Arrays$LegacyMergeSort"), (1, u "Z"), (10, .nameAndType 129 109), (0, u "clone"), (20, .methodref 151 152), (0, .class_ 153), (0, .nameAndType 154 155), (0, u "java/lang/System"), (0, u "arraycopy"), (0, u "(Ljava/lang/Object;ILjava/lang/Object;II)V"), (51, u "binarySearch0"), (1, .methodref 14 210), (0, .nameAndType 207 211), (0, u "([IIII)I"), (34, .class_ 248), (1, u "jdk/internal/util/ArraysSupport"), (51, .methodref 14 301), (0, .nameAndType 302 303), (0, u "copyOf"), (0, u "([Ljava/lang/Object;ILjava/lang/Class;)[Ljava/lang/Object;"), (0, .methodref 305 306), (0, .class_ 307), (0, .nameAndType 308 309), (0, u "java/lang/Math"), (0, u "min"), (0, u "(II)I"), (6, .methodref 317 128), (0, .class_ 318), (0, u "[I"), (56, .class_ 376), (0, u "java/util/Arrays$ArrayList"), (2, .methodref 246 380), (0, .nameAndType 381 382), (0, u "vectorizedHashCode"), (0, u "(Ljava/lang/Object;IIII)I"), (2, u "hashCode"), (22, u "([I)I"), (36, u "$assertionsDisabled"), (269, u "MIN_ARRAY_SORT_GRAN"), (0, u "I"), (2, u "INSERTIONSORT_THRESHOLD"), (6, u "([I)V"), (67, u "binarySearch"), (4, u "([II)I"), (60, u "([Ljava/lang/Object;I)[Ljava/lang/Object;"), (10, u "([II)[I"), (103, .class_ 976), (0, u "java/util/Arrays$ArrayItr")] 52

def k21m0 : Method := { name := "<init>", desc := "()V", sig := { parameters := [], returnType := none }, accessFlags := 2, code := none }
def k21c1 : Code := { maxStack := 4, maxLocals := 1, code := jdk_65_method_2_code, exceptionTable := #[], attributes := #[] }
def k21m1 : Method := { name := "sort", desc := "([I)V", sig := { parameters := [(.array .int)], returnType := none }, accessFlags := 9, code := some k21c1 }
def k21c2 : Code := { maxStack := 4, maxLocals := 2, code := jdk_65_method_57_code, exceptionTable := #[], attributes := #[] }
def k21m2 : Method := { name := "binarySearch", desc := "([II)I", sig := { parameters := [(.array .int), .int], returnType := some .int }, accessFlags := 9, code := some k21c2 }
def k21c3 : Code := { maxStack := 2, maxLocals := 8, code := jdk_65_method_59_code, exceptionTable := #[], attributes := #[] }
def k21m3 : Method := { name := "binarySearch0", desc := "([IIII)I", sig := { parameters := [(.array .int), .int, .int, .int], returnType := some .int }, accessFlags := 10, code := some k21c3 }
def k21c4 : Code := { maxStack := 3, maxLocals := 2, code := jdk_65_method_119_code, exceptionTable := #[], attributes := #[] }
def k21m4 : Method := { name := "copyOf", desc := "([Ljava/lang/Object;I)[Ljava/lang/Object;", sig := { parameters := [(.array (.object "java/lang/Object")), .int], returnType := some (.array (.object "java/lang/Object")) }, accessFlags := 9, code := some k21c4 }
def k21c5 : Code := { maxStack := 6, maxLocals := 4, code := jdk_65_method_120_code, exceptionTable := #[], attributes := #[] }
def k21m5 : Method := { name := "copyOf", desc := "([Ljava/lang/Object;ILjava/lang/Class;)[Ljava/lang/Object;", sig := { parameters := [(.array (.object "java/lang/Object")), .int, (.object "java/lang/Class")], returnType := some (.array (.object "java/lang/Object")) }, accessFlags := 9, code := some k21c5 }
def k21c6 : Code := { maxStack := 6, maxLocals := 3, code := jdk_65_method_123_code, exceptionTable := #[], attributes := #[] }
def k21m6 : Method := { name := "copyOf", desc := "([II)[I", sig := { parameters := [(.array .int), .int], returnType := some (.array .int) }, accessFlags := 9, code := some k21c6 }
def k21c7 : Code := { maxStack := 5, maxLocals := 1, code := jdk_65_method_150_code, exceptionTable := #[], attributes := #[] }
def k21m7 : Method := { name := "hashCode", desc := "([I)I", sig := { parameters := [(.array .int)], returnType := some .int }, accessFlags := 9, code := some k21c7 }
/-- java/util/Arrays -/
def k21 : Class := { plain "java/util/Arrays" (some 0) with
  accessFlags := 49
  interfaces := #[]
  cf := some (fileOf pool21 14 #[.nestMembers #[975, 375, 113, 74]] #[{ accessFlags := 2, nameIndex := 5, descriptorIndex := 6, attributes := #[] }, { accessFlags := 9, nameIndex := 11, descriptorIndex := 726, attributes := #[] }, { accessFlags := 9, nameIndex := 794, descriptorIndex := 799, attributes := #[] }, { accessFlags := 10, nameIndex := 207, descriptorIndex := 211, attributes := #[] }, { accessFlags := 9, nameIndex := 302, descriptorIndex := 860, attributes := #[] }, { accessFlags := 9, nameIndex := 302, descriptorIndex := 303, attributes := #[] }, { accessFlags := 9, nameIndex := 302, descriptorIndex := 871, attributes := #[] }, { accessFlags := 9, nameIndex := 385, descriptorIndex := 408, attributes := #[] }] 49 2 #[] #[{ accessFlags := 26, nameIndex := 715, descriptorIndex := 716, attributes := #[] }, { accessFlags := 26, nameIndex := 719, descriptorIndex := 716, attributes := #[] }, { accessFlags := 4120, nameIndex := 445, descriptorIndex := 117, attributes := #[] }])
  fields := #[{ name := "MIN_ARRAY_SORT_GRAN", type := .int, accessFlags := 26, slot := 0, constantValue := 0 }, { name := "INSERTIONSORT_THRESHOLD", type := .int, accessFlags := 26, slot := 1, constantValue := 0 }, { name := "$assertionsDisabled", type := .boolean, accessFlags := 4120, slot := 2, constantValue := 0 }]
  methods := #[k21m0, k21m1, k21m2, k21m3, k21m4, k21m5, k21m6, k21m7]
  instanceTypes := #[]
  staticTypes := #[.int, .int, .boolean]
  resolved := Array.replicate 1029 none
  statics := none }

def pool22 : Array CpInfo := pool [(1, .class_ 2), (0, u "java/lang/Math"), (1, .class_ 6), (1, u "java/lang/Object"), (0, u "<init>"), (0, u "()V"), (89, .class_ 100), (1, u "java/lang/Math$RandomNumberGeneratorHolder"), (23, u "abs"), (34, u "(I)I"), (12, u "negativeZeroFloatBits"), (0, u "J"), (2, u "negativeZeroDoubleBits"), (21, u "max"), (2, u "min"), (43, u "$assertionsDisabled"), (0, u "Z"), (88, u "(II)I"), (2, u "twoToTheDoubleScaleDown"), (0, u "D"), (4, u "twoToTheDoubleScaleUp"), (9, u "E"), (3, u "PI"), (2, u "TAU"), (2, u "DEGREES_TO_RADIANS"), (0, u "RADIANS_TO_DEGREES")] 94

def k22m0 : Method := { name := "<init>", desc := "()V", sig := { parameters := [], returnType := none }, accessFlags := 2, code := none }
def k22c1 : Code := { maxStack := 1, maxLocals := 1, code := jdk_29_method_59_code, exceptionTable := #[], attributes := #[] }
def k22m1 : Method := { name := "abs", desc := "(I)I", sig := { parameters := [.int], returnType := some .int }, accessFlags := 9, code := some k22c1 }
def k22c2 : Code := { maxStack := 2, maxLocals := 2, code := jdk_29_method_65_code, exceptionTable := #[], attributes := #[] }
def k22m2 : Method := { name := "max", desc := "(II)I", sig := { parameters := [.int, .int], returnType := some .int }, accessFlags := 9, code := some k22c2 }
def k22c3 : Code := { maxStack := 2, maxLocals := 2, code := jdk_29_method_69_code, exceptionTable := #[], attributes := #[] }
def k22m3 : Method := { name := "min", desc := "(II)I", sig := { parameters := [.int, .int], returnType := some .int }, accessFlags := 9, code := some k22c3 }
/-- java/lang/Math -/
def k22 : Class := { plain "java/lang/Math" (some 0) with
  accessFlags := 49
  interfaces := #[]
  cf := some (fileOf pool22 1 #[.nestMembers #[98]] #[{ accessFlags := 2, nameIndex := 7, descriptorIndex := 8, attributes := #[] }, { accessFlags := 9, nameIndex := 124, descriptorIndex := 159, attributes := #[] }, { accessFlags := 9, nameIndex := 198, descriptorIndex := 335, attributes := #[] }, { accessFlags := 9, nameIndex := 201, descriptorIndex := 335, attributes := #[] }] 49 4 #[] #[{ accessFlags := 25, nameIndex := 354, descriptorIndex := 339, attributes := #[] }, { accessFlags := 25, nameIndex := 358, descriptorIndex := 339, attributes := #[] }, { accessFlags := 25, nameIndex := 361, descriptorIndex := 339, attributes := #[] }, { accessFlags := 26, nameIndex := 364, descriptorIndex := 339, attributes := #[] }, { accessFlags := 26, nameIndex := 365, descriptorIndex := 339, attributes := #[] }, { accessFlags := 26, nameIndex := 172, descriptorIndex := 173, attributes := #[] }, { accessFlags := 26, nameIndex := 176, descriptorIndex := 173, attributes := #[] }, { accessFlags := 8, nameIndex := 344, descriptorIndex := 339, attributes := #[] }, { accessFlags := 8, nameIndex := 338, descriptorIndex := 339, attributes := #[] }, { accessFlags := 4120, nameIndex := 245, descriptorIndex := 246, attributes := #[] }])
  fields := #[{ name := "E", type := .double, accessFlags := 25, slot := 0, constantValue := 0 }, { name := "PI", type := .double, accessFlags := 25, slot := 1, constantValue := 0 }, { name := "TAU", type := .double, accessFlags := 25, slot := 2, constantValue := 0 }, { name := "DEGREES_TO_RADIANS", type := .double, accessFlags := 26, slot := 3, constantValue := 0 }, { name := "RADIANS_TO_DEGREES", type := .double, accessFlags := 26, slot := 4, constantValue := 0 }, { name := "negativeZeroFloatBits", type := .long, accessFlags := 26, slot := 5, constantValue := 0 }, { name := "negativeZeroDoubleBits", type := .long, accessFlags := 26, slot := 6, constantValue := 0 }, { name := "twoToTheDoubleScaleUp", type := .double, accessFlags := 8, slot := 7, constantValue := 0 }, { name := "twoToTheDoubleScaleDown", type := .double, accessFlags := 8, slot := 8, constantValue := 0 }, { name := "$assertionsDisabled", type := .boolean, accessFlags := 4120, slot := 9, constantValue := 0 }]
  methods := #[k22m0, k22m1, k22m2, k22m3]
  instanceTypes := #[]
  staticTypes := #[.double, .double, .double, .double, .double, .long, .long, .double, .double, .boolean]
  resolved := Array.replicate 460 none
  statics := none }

def pool23 : Array CpInfo := pool [(2, .class_ 4), (1, u "java/lang/Object"), (0, u "<init>"), (0, u "()V"), (1, .class_ 10), (1, u "java/lang/System"), (0, u "allowSecurityManager"), (0, u "I"), (16, u "cons"), (0, u "Ljava/io/Console;"), (77, .class_ 110), (1, u "java/lang/System$CallersHolder"), (43, u "initialErrStream"), (0, u "Ljava/io/PrintStream;"), (19, u "security"), (0, u "Ljava/lang/SecurityManager;"), (31, .class_ 209), (0, u "java/lang/System$1"), (7, u "props"), (0, u "Ljava/util/Properties;"), (2, u "lineSeparator"), (0, u "Ljava/lang/String;"), (96, .class_ 321), (1, u "java/lang/System$LoggerFinder"), (5, .class_ 328), (0, u "java/lang/System$Logger"), (67, u "err"), (2, u "out"), (91, u "notSupportedJnuEncoding"), (15, u "in"), (17, u "initialIn"), (0, u "Ljava/io/InputStream;"), (35, u "bootLayer"), (0, u "Ljava/lang/ModuleLayer;"), (99, .class_ 664), (0, u "java/lang/System$2"), (9, u "NEVER"), (2, u "MAYBE"), (49, u "arraycopy"), (0, u "(Ljava/lang/Object;ILjava/lang/Object;II)V"), (72, .class_ 802), (0, u "java/lang/System$Logger$Level")] 31

def k23m0 : Method := { name := "<init>", desc := "()V", sig := { parameters := [], returnType := none }, accessFlags := 2, code := none }
def k23m1 : Method := { name := "arraycopy", desc := "(Ljava/lang/Object;ILjava/lang/Object;II)V", sig := { parameters := [(.object "java/lang/Object"), .int, (.object "java/lang/Object"), .int, .int], returnType := none }, accessFlags := 265, code := none }
/-- java/lang/System -/
def k23 : Class := { plain "java/lang/System" (some 0) with
  accessFlags := 49
  interfaces := #[]
  cf := some (fileOf pool23 8 #[.nestMembers #[319, 327, 801, 108, 663, 208]] #[{ accessFlags := 2, nameIndex := 5, descriptorIndex := 6, attributes := #[] }, { accessFlags := 265, nameIndex := 727, descriptorIndex := 728, attributes := #[] }] 49 2 #[] #[{ accessFlags := 25, nameIndex := 507, descriptorIndex := 526, attributes := #[] }, { accessFlags := 25, nameIndex := 399, descriptorIndex := 155, attributes := #[] }, { accessFlags := 25, nameIndex := 396, descriptorIndex := 155, attributes := #[] }, { accessFlags := 10, nameIndex := 525, descriptorIndex := 526, attributes := #[] }, { accessFlags := 26, nameIndex := 674, descriptorIndex := 12, attributes := #[] }, { accessFlags := 26, nameIndex := 677, descriptorIndex := 12, attributes := #[] }, { accessFlags := 10, nameIndex := 11, descriptorIndex := 12, attributes := #[] }, { accessFlags := 74, nameIndex := 175, descriptorIndex := 176, attributes := #[] }, { accessFlags := 10, nameIndex := 491, descriptorIndex := 222, attributes := #[] }, { accessFlags := 74, nameIndex := 29, descriptorIndex := 30, attributes := #[] }, { accessFlags := 74, nameIndex := 154, descriptorIndex := 155, attributes := #[] }, { accessFlags := 10, nameIndex := 217, descriptorIndex := 218, attributes := #[] }, { accessFlags := 10, nameIndex := 221, descriptorIndex := 222, attributes := #[] }, { accessFlags := 8, nameIndex := 562, descriptorIndex := 563, attributes := #[] }])
  fields := #[{ name := "in", type := (.object "java/io/InputStream"), accessFlags := 25, slot := 0, constantValue := 0 }, { name := "out", type := (.object "java/io/PrintStream"), accessFlags := 25, slot := 1, constantValue := 0 }, { name := "err", type := (.object "java/io/PrintStream"), accessFlags := 25, slot := 2, constantValue := 0 }, { name := "initialIn", type := (.object "java/io/InputStream"), accessFlags := 10, slot := 3, constantValue := 0 }, { name := "NEVER", type := .int, accessFlags := 26, slot := 4, constantValue := 0 }, { name := "MAYBE", type := .int, accessFlags := 26, slot := 5, constantValue := 0 }, { name := "allowSecurityManager", type := .int, accessFlags := 10, slot := 6, constantValue := 0 }, { name := "security", type := (.object "java/lang/SecurityManager"), accessFlags := 74, slot := 7, constantValue := 0 }, { name := "notSupportedJnuEncoding", type := (.object "java/lang/String"), accessFlags := 10, slot := 8, constantValue := 0 }, { name := "cons", type := (.object "java/io/Console"), accessFlags := 74, slot := 9, constantValue := 0 }, { name := "initialErrStream", type := (.object "java/io/PrintStream"), accessFlags := 74, slot := 10, constantValue := 0 }, { name := "props", type := (.object "java/util/Properties"), accessFlags := 10, slot := 11, constantValue := 0 }, { name := "lineSeparator", type := (.object "java/lang/String"), accessFlags := 10, slot := 12, constantValue := 0 }, { name := "bootLayer", type := (.object "java/lang/ModuleLayer"), accessFlags := 8, slot := 13, constantValue := 0 }]
  methods := #[k23m0, k23m1]
  instanceTypes := #[]
  staticTypes := #[(.object "java/io/InputStream"), (.object "java/io/PrintStream"), (.object "java/io/PrintStream"), (.object "java/io/InputStream"), .int, .int, .int, (.object "java/lang/SecurityManager"), (.object "java/lang/String"), (.object "java/io/Console"), (.object "java/io/PrintStream"), (.object "java/util/Properties"), (.object "java/lang/String"), (.object "java/lang/ModuleLayer")]
  resolved := Array.replicate 834 none
  statics := none }

def pool24 : Array CpInfo := pool [(2, .class_ 4), (1, u "java/util/Map"), (0, u "get"), (0, u "(Ljava/lang/Object;)Ljava/lang/Object;"), (29, .class_ 37), (0, u "java/util/Map$Entry"), (25, u "(Ljava/lang/Object;Ljava/lang/Object;)Ljava/lang/Object;"), (5, u "put"), (23, .class_ 94), (0, u "java/lang/Object")] 168

def k24m0 : Method := { name := "get", desc := "(Ljava/lang/Object;)Ljava/lang/Object;", sig := { parameters := [(.object "java/lang/Object")], returnType := some (.object "java/lang/Object") }, accessFlags := 1025, code := none }
def k24m1 : Method := { name := "put", desc := "(Ljava/lang/Object;Ljava/lang/Object;)Ljava/lang/Object;", sig := { parameters := [(.object "java/lang/Object"), (.object "java/lang/Object")], returnType := some (.object "java/lang/Object") }, accessFlags := 1025, code := none }
/-- java/util/Map -/
def k24 : Class := { plain "java/util/Map" (some 0) with
  accessFlags := 1537
  interfaces := #[]
  cf := some (fileOf pool24 2 #[.nestMembers #[36]] #[{ accessFlags := 1025, nameIndex := 5, descriptorIndex := 6, attributes := #[] }, { accessFlags := 1025, nameIndex := 69, descriptorIndex := 63, attributes := #[] }] 1537 93 #[] #[])
  fields := #[]
  methods := #[k24m0, k24m1]
  instanceTypes := #[]
  staticTypes := #[]
  resolved := Array.replicate 263 none
  statics := none }

def pool25 : Array CpInfo := pool [(1, .methodref 2 3), (0, .class_ 4), (0, .nameAndType 5 6), (0, u "java/lang/Object"), (0, u "<init>"), (0, u "()V"), (1, .class_ 10), (1, u "java/util/AbstractMap"), (42, .class_ 54), (0, u "java/util/Map"), (9, u "keySet"), (0, u "Ljava/util/Set;"), (0, .class_ 67), (0, u "java/util/AbstractMap$1"), (5, u "values"), (0, u "Ljava/util/Collection;"), (0, .class_ 76), (0, u "java/util/AbstractMap$2"), (104, .class_ 182), (0, u "java/util/AbstractMap$ViewCollection"), (0, .class_ 184), (0, u "java/util/AbstractMap$SimpleImmutableEntry"), (0, .class_ 186), (0, u "java/util/AbstractMap$SimpleEntry"), (0, .class_ 188), (0, u "java/util/AbstractMap$2$1"), (0, .class_ 190), (0, u "java/util/AbstractMap$1$1")] 5

def k25c0 : Code := { maxStack := 1, maxLocals := 1, code := jdk_71_method_1_code, exceptionTable := #[], attributes := #[] }
def k25m0 : Method := { name := "<init>", desc := "()V", sig := { parameters := [], returnType := none }, accessFlags := 4, code := some k25c0 }
/-- java/util/AbstractMap -/
def k25 : Class := { plain "java/util/AbstractMap" (some 0) with
  accessFlags := 1057
  interfaces := #[24]
  cf := some (fileOf pool25 8 #[.nestMembers #[181, 183, 185, 75, 187, 66, 189]] #[{ accessFlags := 4, nameIndex := 5, descriptorIndex := 6, attributes := #[] }] 1057 2 #[53] #[{ accessFlags := 128, nameIndex := 64, descriptorIndex := 65, attributes := #[] }, { accessFlags := 128, nameIndex := 73, descriptorIndex := 74, attributes := #[] }])
  fields := #[{ name := "keySet", type := (.object "java/util/Set"), accessFlags := 128, slot := 0, constantValue := 0 }, { name := "values", type := (.object "java/util/Collection"), accessFlags := 128, slot := 1, constantValue := 0 }]
  methods := #[k25m0]
  instanceTypes := #[(.object "java/util/Set"), (.object "java/util/Collection")]
  staticTypes := #[]
  resolved := Array.replicate 196 none
  statics := none }

def pool26 : Array CpInfo := pool [(1, .methodref 2 3), (0, .class_ 4), (0, .nameAndType 5 6), (0, u "java/lang/Object"), (0, u "hashCode"), (0, u "()I"), (26, u "(Ljava/lang/Object;)I"), (6, .class_ 41), (0, u "java/util/HashMap"), (1, .methodref 44 45), (0, .class_ 46), (0, .nameAndType 47 48), (0, u "java/util/AbstractMap"), (0, u "<init>"), (0, u "()V"), (32, .fieldref 40 82), (0, .nameAndType 83 84), (0, u "loadFactor"), (0, u "F"), (3, .fieldref 40 89), (0, .nameAndType 90 91), (0, u "threshold"), (0, u "I"), (0, .float 1061158912), (8, .class_ 103), (1, u "java/util/Map"), (0, u "size"), (0, .fieldref 40 106), (0, .nameAndType 107 108), (0, u "table"), (0, u "[Ljava/util/HashMap$Node;"), (8, .methodref 40 118), (0, .nameAndType 119 120), (0, u "resize"), (0, u "()[Ljava/util/HashMap$Node;"), (2, u "entrySet"), (25, .methodref 40 150), (0, .nameAndType 151 33), (0, u "hash"), (0, .methodref 40 153), (0, .nameAndType 154 155), (0, u "putVal"), (0, u "(ILjava/lang/Object;Ljava/lang/Object;ZZ)Ljava/lang/Object;"), (0, .fieldref 40 157), (0, .nameAndType 104 91), (0, .methodref 40 159), (0, .nameAndType 160 161), (0, u "getNode"), (0, u "(Ljava/lang/Object;)Ljava/util/HashMap$Node;"), (1, .class_ 165), (1, u "java/util/HashMap$Node"), (14, .class_ 181), (0, u "java/util/HashMap$TreeNode"), (4, .methodref 40 187), (0, .nameAndType 188 189), (0, u "newNode"), (0, u "(ILjava/lang/Object;Ljava/lang/Object;Ljava/util/HashMap$Node;)Ljava/util/HashMap$Node;"), (12, .fieldref 40 203), (0, .nameAndType 204 91), (0, u "modCount"), (0, .methodref 40 206), (0, .nameAndType 207 208), (0, u "afterNodeInsertion"), (0, u "(Z)V"), (33, u "Ljava/util/Set;"), (0, .class_ 244), (0, u "java/util/HashMap$KeySet"), (18, .class_ 264), (0, u "java/util/HashMap$Values"), (3, .class_ 269), (0, u "java/util/HashMap$EntrySet"), (9, u "(Ljava/lang/Object;)Ljava/lang/Object;"), (7, u "(Ljava/lang/Object;Ljava/lang/Object;)Ljava/lang/Object;"), (46, u "get"), (11, .class_ 348), (1, u "java/util/HashMap$UnsafeHolder"), (26, .methodref 163 376), (0, .nameAndType 47 377), (0, u "(ILjava/lang/Object;Ljava/lang/Object;Ljava/util/HashMap$Node;)V"), (14, .class_ 393), (0, u "java/lang/Cloneable"), (0, .class_ 395), (0, u "java/io/Serializable"), (0, u "serialVersionUID"), (0, u "J"), (3, u "DEFAULT_INITIAL_CAPACITY"), (1, u "MAXIMUM_CAPACITY"), (0, u "DEFAULT_LOAD_FACTOR"), (0, u "TREEIFY_THRESHOLD"), (1, u "UNTREEIFY_THRESHOLD"), (1, u "MIN_TREEIFY_CAPACITY"), (60, u "put"), (125, .class_ 597), (0, u "java/util/HashMap$EntrySpliterator"), (0, .class_ 599), (0, u "java/util/HashMap$ValueSpliterator"), (0, .class_ 601), (0, u "java/util/HashMap$KeySpliterator"), (0, .class_ 603), (0, u "java/util/HashMap$HashMapSpliterator"), (0, .class_ 605), (0, u "java/util/HashMap$EntryIterator"), (0, .class_ 607), (0, u "java/util/HashMap$ValueIterator"), (0, .class_ 609), (0, u "java/util/HashMap$KeyIterator"), (0, .class_ 611), (0, u "java/util/HashMap$HashIterator")] 17

def k26c0 : Code := { maxStack := 3, maxLocals := 2, code := jdk_69_method_1_code, exceptionTable := #[], attributes := #[] }
def k26m0 : Method := { name := "hash", desc := "(Ljava/lang/Object;)I", sig := { parameters := [(.object "java/lang/Object")], returnType := some .int }, accessFlags := 24, code := some k26c0 }
def k26c1 : Code := { maxStack := 2, maxLocals := 1, code := jdk_69_method_7_code, exceptionTable := #[], attributes := #[] }
def k26m1 : Method := { name := "<init>", desc := "()V", sig := { parameters := [], returnType := none }, accessFlags := 1, code := some k26c1 }
def k26c2 : Code := { maxStack := 2, maxLocals := 3, code := jdk_69_method_12_code, exceptionTable := #[], attributes := #[] }
def k26m2 : Method := { name := "get", desc := "(Ljava/lang/Object;)Ljava/lang/Object;", sig := { parameters := [(.object "java/lang/Object")], returnType := some (.object "java/lang/Object") }, accessFlags := 1, code := some k26c2 }
def k26c3 : Code := { maxStack := 4, maxLocals := 8, code := jdk_69_method_13_code, exceptionTable := #[], attributes := #[] }
def k26m3 : Method := { name := "getNode", desc := "(Ljava/lang/Object;)Ljava/util/HashMap$Node;", sig := { parameters := [(.object "java/lang/Object")], returnType := some (.object "java/util/HashMap$Node") }, accessFlags := 16, code := some k26c3 }
def k26c4 : Code := { maxStack := 6, maxLocals := 3, code := jdk_69_method_15_code, exceptionTable := #[], attributes := #[] }
def k26m4 : Method := { name := "put", desc := "(Ljava/lang/Object;Ljava/lang/Object;)Ljava/lang/Object;", sig := { parameters := [(.object "java/lang/Object"), (.object "java/lang/Object")], returnType := some (.object "java/lang/Object") }, accessFlags := 1, code := some k26c4 }
def k26c5 : Code := { maxStack := 7, maxLocals := 13, code := jdk_69_method_16_code, exceptionTable := #[], attributes := #[] }
def k26m5 : Method := { name := "putVal", desc := "(ILjava/lang/Object;Ljava/lang/Object;ZZ)Ljava/lang/Object;", sig := { parameters := [.int, (.object "java/lang/Object"), (.object "java/lang/Object"), .boolean, .boolean], returnType := some (.object "java/lang/Object") }, accessFlags := 16, code := some k26c5 }
def k26c6 : Code := { maxStack := 5, maxLocals := 14, code := jdk_69_method_17_code, exceptionTable := #[], attributes := #[] }
def k26m6 : Method := { name := "resize", desc := "()[Ljava/util/HashMap$Node;", sig := { parameters := [], returnType := some (.array (.object "java/util/HashMap$Node")) }, accessFlags := 16, code := some k26c6 }
def k26c7 : Code := { maxStack := 6, maxLocals := 5, code := jdk_69_method_46_code, exceptionTable := #[], attributes := #[] }
def k26m7 : Method := { name := "newNode", desc := "(ILjava/lang/Object;Ljava/lang/Object;Ljava/util/HashMap$Node;)Ljava/util/HashMap$Node;", sig := { parameters := [.int, (.object "java/lang/Object"), (.object "java/lang/Object"), (.object "java/util/HashMap$Node")], returnType := some (.object "java/util/HashMap$Node") }, accessFlags := 0, code := some k26c7 }
def k26c8 : Code := { maxStack := 0, maxLocals := 2, code := jdk_69_method_52_code, exceptionTable := #[], attributes := #[] }
def k26m8 : Method := { name := "afterNodeInsertion", desc := "(Z)V", sig := { parameters := [.boolean], returnType := none }, accessFlags := 0, code := some k26c8 }
/-- java/util/HashMap -/
def k26 : Class := { plain "java/util/HashMap" (some 25) with
  accessFlags := 33
  interfaces := #[24, 10, 11]
  cf := some (fileOf pool26 40 #[.nestMembers #[180, 596, 598, 600, 602, 604, 606, 608, 610, 346, 268, 263, 243, 163]] #[{ accessFlags := 24, nameIndex := 151, descriptorIndex := 33, attributes := #[] }, { accessFlags := 1, nameIndex := 47, descriptorIndex := 48, attributes := #[] }, { accessFlags := 1, nameIndex := 334, descriptorIndex := 279, attributes := #[] }, { accessFlags := 16, nameIndex := 160, descriptorIndex := 161, attributes := #[] }, { accessFlags := 1, nameIndex := 470, descriptorIndex := 287, attributes := #[] }, { accessFlags := 16, nameIndex := 154, descriptorIndex := 155, attributes := #[] }, { accessFlags := 16, nameIndex := 119, descriptorIndex := 120, attributes := #[] }, { accessFlags := 0, nameIndex := 188, descriptorIndex := 189, attributes := #[] }, { accessFlags := 0, nameIndex := 207, descriptorIndex := 208, attributes := #[] }] 33 44 #[101, 392, 394] #[{ accessFlags := 26, nameIndex := 396, descriptorIndex := 397, attributes := #[] }, { accessFlags := 24, nameIndex := 401, descriptorIndex := 91, attributes := #[] }, { accessFlags := 24, nameIndex := 403, descriptorIndex := 91, attributes := #[] }, { accessFlags := 24, nameIndex := 404, descriptorIndex := 84, attributes := #[] }, { accessFlags := 24, nameIndex := 405, descriptorIndex := 91, attributes := #[] }, { accessFlags := 24, nameIndex := 407, descriptorIndex := 91, attributes := #[] }, { accessFlags := 24, nameIndex := 409, descriptorIndex := 91, attributes := #[] }, { accessFlags := 128, nameIndex := 107, descriptorIndex := 108, attributes := #[] }, { accessFlags := 128, nameIndex := 123, descriptorIndex := 242, attributes := #[] }, { accessFlags := 128, nameIndex := 104, descriptorIndex := 91, attributes := #[] }, { accessFlags := 128, nameIndex := 204, descriptorIndex := 91, attributes := #[] }, { accessFlags := 0, nameIndex := 90, descriptorIndex := 91, attributes := #[] }, { accessFlags := 16, nameIndex := 83, descriptorIndex := 84, attributes := #[] }])
  fields := #[{ name := "serialVersionUID", type := .long, accessFlags := 26, slot := 0, constantValue := 0 }, { name := "DEFAULT_INITIAL_CAPACITY", type := .int, accessFlags := 24, slot := 1, constantValue := 0 }, { name := "MAXIMUM_CAPACITY", type := .int, accessFlags := 24, slot := 2, constantValue := 0 }, { name := "DEFAULT_LOAD_FACTOR", type := .float, accessFlags := 24, slot := 3, constantValue := 0 }, { name := "TREEIFY_THRESHOLD", type := .int, accessFlags := 24, slot := 4, constantValue := 0 }, { name := "UNTREEIFY_THRESHOLD", type := .int, accessFlags := 24, slot := 5, constantValue := 0 }, { name := "MIN_TREEIFY_CAPACITY", type := .int, accessFlags := 24, slot := 6, constantValue := 0 }, { name := "table", type := (.array (.object "java/util/HashMap$Node")), accessFlags := 128, slot := 2, constantValue := 0 }, { name := "entrySet", type := (.object "java/util/Set"), accessFlags := 128, slot := 3, constantValue := 0 }, { name := "size", type := .int, accessFlags := 128, slot := 4, constantValue := 0 }, { name := "modCount", type := .int, accessFlags := 128, slot := 5, constantValue := 0 }, { name := "threshold", type := .int, accessFlags := 0, slot := 6, constantValue := 0 }, { name := "loadFactor", type := .float, accessFlags := 16, slot := 7, constantValue := 0 }]
  methods := #[k26m0, k26m1, k26m2, k26m3, k26m4, k26m5, k26m6, k26m7, k26m8]
  instanceTypes := #[(.object "java/util/Set"), (.object "java/util/Collection"), (.array (.object "java/util/HashMap$Node")), (.object "java/util/Set"), .int, .int, .int, .float]
  staticTypes := #[.long, .int, .int, .float, .int, .int, .int]
  resolved := Array.replicate 629 none
  statics := none }

def pool27 : Array CpInfo := pool [(9, u "<init>"), (6, .class_ 18), (1, u "java/lang/Object"), (0, u "()V"), (1, .class_ 23), (1, u "jdk/internal/util/ArraysSupport"), (0, u "LOG2_ARRAY_LONG_INDEX_SCALE"), (0, u "I"), (2, u "U"), (0, u "Ljdk/internal/misc/Unsafe;"), (8, u "BIG_ENDIAN"), (0, u "Z"), (8, u "LOG2_BYTE_BIT_SIZE"), (4, u "LOG2_ARRAY_INT_INDEX_SCALE"), (19, u "hashCode"), (8, .class_ 83), (0, u "[I"), (0, .methodref 21 85), (0, .nameAndType 73 86), (0, u "(I[III)I"), (21, u "JLA"), (0, u "Ljdk/internal/access/JavaLangAccess;"), (11, u "LOG2_ARRAY_BOOLEAN_INDEX_SCALE"), (9, u "LOG2_ARRAY_BYTE_INDEX_SCALE"), (5, u "LOG2_ARRAY_CHAR_INDEX_SCALE"), (5, u "LOG2_ARRAY_SHORT_INDEX_SCALE"), (18, u "LOG2_ARRAY_FLOAT_INDEX_SCALE"), (24, u "LOG2_ARRAY_DOUBLE_INDEX_SCALE"), (6, .methodref 195 196), (0, .class_ 197), (0, .nameAndType 198 199), (0, u "java/lang/Math"), (0, u "max"), (0, u "(II)I"), (0, .integer 2147483639), (76, u "T_BOOLEAN"), (2, u "T_CHAR"), (1, u "T_FLOAT"), (1, u "T_DOUBLE"), (1, u "T_BYTE"), (1, u "T_SHORT"), (1, u "T_INT"), (1, u "T_LONG"), (1, u "SOFT_MAX_ARRAY_LENGTH"), (26, u "vectorizedHashCode"), (0, u "(Ljava/lang/Object;IIII)I"), (28, u "newLength"), (0, u "(III)I")] 25

def k27m0 : Method := { name := "<init>", desc := "()V", sig := { parameters := [], returnType := none }, accessFlags := 2, code := none }
def k27c1 : Code := { maxStack := 4, maxLocals := 5, code := jdk_48_method_4_code, exceptionTable := #[], attributes := #[] }
def k27m1 : Method := { name := "vectorizedHashCode", desc := "(Ljava/lang/Object;IIII)I", sig := { parameters := [(.object "java/lang/Object"), .int, .int, .int, .int], returnType := some .int }, accessFlags := 9, code := some k27c1 }
def k27c2 : Code := { maxStack := 3, maxLocals := 6, code := jdk_48_method_9_code, exceptionTable := #[], attributes := #[] }
def k27m2 : Method := { name := "hashCode", desc := "(I[III)I", sig := { parameters := [.int, (.array .int), .int, .int], returnType := some .int }, accessFlags := 10, code := some k27c2 }
def k27c3 : Code := { maxStack := 3, maxLocals := 4, code := jdk_48_method_27_code, exceptionTable := #[], attributes := #[] }
def k27m3 : Method := { name := "newLength", desc := "(III)I", sig := { parameters := [.int, .int, .int], returnType := some .int }, accessFlags := 9, code := some k27c3 }
/-- jdk/internal/util/ArraysSupport -/
def k27 : Class := { plain "jdk/internal/util/ArraysSupport" (some 0) with
  accessFlags := 33
  interfaces := #[]
  cf := some (fileOf pool27 21 #[] #[{ accessFlags := 2, nameIndex := 9, descriptorIndex := 19, attributes := #[] }, { accessFlags := 9, nameIndex := 321, descriptorIndex := 322, attributes := #[] }, { accessFlags := 10, nameIndex := 73, descriptorIndex := 86, attributes := #[] }, { accessFlags := 9, nameIndex := 351, descriptorIndex := 352, attributes := #[] }] 33 16 #[] #[{ accessFlags := 24, nameIndex := 28, descriptorIndex := 29, attributes := #[] }, { accessFlags := 26, nameIndex := 38, descriptorIndex := 39, attributes := #[] }, { accessFlags := 25, nameIndex := 121, descriptorIndex := 25, attributes := #[] }, { accessFlags := 25, nameIndex := 131, descriptorIndex := 25, attributes := #[] }, { accessFlags := 25, nameIndex := 137, descriptorIndex := 25, attributes := #[] }, { accessFlags := 25, nameIndex := 143, descriptorIndex := 25, attributes := #[] }, { accessFlags := 25, nameIndex := 53, descriptorIndex := 25, attributes := #[] }, { accessFlags := 25, nameIndex := 24, descriptorIndex := 25, attributes := #[] }, { accessFlags := 25, nameIndex := 162, descriptorIndex := 25, attributes := #[] }, { accessFlags := 25, nameIndex := 187, descriptorIndex := 25, attributes := #[] }, { accessFlags := 26, nameIndex := 48, descriptorIndex := 25, attributes := #[] }, { accessFlags := 25, nameIndex := 277, descriptorIndex := 25, attributes := #[] }, { accessFlags := 25, nameIndex := 280, descriptorIndex := 25, attributes := #[] }, { accessFlags := 25, nameIndex := 282, descriptorIndex := 25, attributes := #[] }, { accessFlags := 25, nameIndex := 284, descriptorIndex := 25, attributes := #[] }, { accessFlags := 25, nameIndex := 286, descriptorIndex := 25, attributes := #[] }, { accessFlags := 25, nameIndex := 288, descriptorIndex := 25, attributes := #[] }, { accessFlags := 25, nameIndex := 290, descriptorIndex := 25, attributes := #[] }, { accessFlags := 25, nameIndex := 292, descriptorIndex := 25, attributes := #[] }, { accessFlags := 26, nameIndex := 108, descriptorIndex := 109, attributes := #[] }, { accessFlags := 25, nameIndex := 294, descriptorIndex := 25, attributes := #[] }])
  fields := #[{ name := "U", type := (.object "jdk/internal/misc/Unsafe"), accessFlags := 24, slot := 0, constantValue := 0 }, { name := "BIG_ENDIAN", type := .boolean, accessFlags := 26, slot := 1, constantValue := 0 }, { name := "LOG2_ARRAY_BOOLEAN_INDEX_SCALE", type := .int, accessFlags := 25, slot := 2, constantValue := 0 }, { name := "LOG2_ARRAY_BYTE_INDEX_SCALE", type := .int, accessFlags := 25, slot := 3, constantValue := 0 }, { name := "LOG2_ARRAY_CHAR_INDEX_SCALE", type := .int, accessFlags := 25, slot := 4, constantValue := 0 }, { name := "LOG2_ARRAY_SHORT_INDEX_SCALE", type := .int, accessFlags := 25, slot := 5, constantValue := 0 }, { name := "LOG2_ARRAY_INT_INDEX_SCALE", type := .int, accessFlags := 25, slot := 6, constantValue := 0 }, { name := "LOG2_ARRAY_LONG_INDEX_SCALE", type := .int, accessFlags := 25, slot := 7, constantValue := 0 }, { name := "LOG2_ARRAY_FLOAT_INDEX_SCALE", type := .int, accessFlags := 25, slot := 8, constantValue := 0 }, { name := "LOG2_ARRAY_DOUBLE_INDEX_SCALE", type := .int, accessFlags := 25, slot := 9, constantValue := 0 }, { name := "LOG2_BYTE_BIT_SIZE", type := .int, accessFlags := 26, slot := 10, constantValue := 0 }, { name := "T_BOOLEAN", type := .int, accessFlags := 25, slot := 11, constantValue := 0 }, { name := "T_CHAR", type := .int, accessFlags := 25, slot := 12, constantValue := 0 }, { name := "T_FLOAT", type := .int, accessFlags := 25, slot := 13, constantValue := 0 }, { name := "T_DOUBLE", type := .int, accessFlags := 25, slot := 14, constantValue := 0 }, { name := "T_BYTE", type := .int, accessFlags := 25, slot := 15, constantValue := 0 }, { name := "T_SHORT", type := .int, accessFlags := 25, slot := 16, constantValue := 0 }, { name := "T_INT", type := .int, accessFlags := 25, slot := 17, constantValue := 0 }, { name := "T_LONG", type := .int, accessFlags := 25, slot := 18, constantValue := 0 }, { name := "JLA", type := (.object "jdk/internal/access/JavaLangAccess"), accessFlags := 26, slot := 19, constantValue := 0 }, { name := "SOFT_MAX_ARRAY_LENGTH", type := .int, accessFlags := 25, slot := 20, constantValue := 0 }]
  methods := #[k27m0, k27m1, k27m2, k27m3]
  instanceTypes := #[]
  staticTypes := #[(.object "jdk/internal/misc/Unsafe"), .boolean, .int, .int, .int, .int, .int, .int, .int, .int, .int, .int, .int, .int, .int, .int, .int, .int, .int, (.object "jdk/internal/access/JavaLangAccess"), .int]
  resolved := Array.replicate 378 none
  statics := none }

def pool28 : Array CpInfo := pool [(2, .class_ 4), (1, u "java/lang/Object"), (0, u "<init>"), (0, u "()V"), (17, .class_ 26), (1, u "jdk/internal/util/Preconditions"), (6, u "checkIndex"), (21, .class_ 56), (0, u "jdk/internal/util/Preconditions$4"), (57, .class_ 115), (0, u "jdk/internal/util/Preconditions$1"), (7, u "SIOOBE_FORMATTER"), (0, u "Ljava/util/function/BiFunction;"), (0, .class_ 126), (0, u "jdk/internal/util/Preconditions$2"), (3, u "AIOOBE_FORMATTER"), (0, .class_ 132), (0, u "jdk/internal/util/Preconditions$3"), (3, u "IOOBE_FORMATTER"), (41, u "(IILjava/util/function/BiFunction;)I")] 15

def k28m0 : Method := { name := "<init>", desc := "()V", sig := { parameters := [], returnType := none }, accessFlags := 1, code := none }
def k28c1 : Code := { maxStack := 3, maxLocals := 3, code := jdk_41_method_11_code, exceptionTable := #[], attributes := #[] }
def k28m1 : Method := { name := "checkIndex", desc := "(IILjava/util/function/BiFunction;)I", sig := { parameters := [.int, .int, (.object "java/util/function/BiFunction")], returnType := some .int }, accessFlags := 9, code := some k28c1 }
/-- jdk/internal/util/Preconditions -/
def k28 : Class := { plain "jdk/internal/util/Preconditions" (some 0) with
  accessFlags := 33
  interfaces := #[]
  cf := some (fileOf pool28 24 #[.nestMembers #[55, 131, 125, 114]] #[{ accessFlags := 1, nameIndex := 5, descriptorIndex := 6, attributes := #[] }, { accessFlags := 9, nameIndex := 33, descriptorIndex := 178, attributes := #[] }] 33 2 #[] #[{ accessFlags := 25, nameIndex := 123, descriptorIndex := 124, attributes := #[] }, { accessFlags := 25, nameIndex := 130, descriptorIndex := 124, attributes := #[] }, { accessFlags := 25, nameIndex := 136, descriptorIndex := 124, attributes := #[] }])
  fields := #[{ name := "SIOOBE_FORMATTER", type := (.object "java/util/function/BiFunction"), accessFlags := 25, slot := 0, constantValue := 0 }, { name := "AIOOBE_FORMATTER", type := (.object "java/util/function/BiFunction"), accessFlags := 25, slot := 1, constantValue := 0 }, { name := "IOOBE_FORMATTER", type := (.object "java/util/function/BiFunction"), accessFlags := 25, slot := 2, constantValue := 0 }]
  methods := #[k28m0, k28m1]
  instanceTypes := #[]
  staticTypes := #[(.object "java/util/function/BiFunction"), (.object "java/util/function/BiFunction"), (.object "java/util/function/BiFunction")]
  resolved := Array.replicate 194 none
  statics := none }

def pool29 : Array CpInfo := pool [(1, .methodref 2 3), (0, .class_ 4), (0, .nameAndType 5 6), (0, u "java/lang/Object"), (0, u "<init>"), (0, u "()V"), (0, .fieldref 8 9), (0, .class_ 10), (0, .nameAndType 11 12), (0, u "com/example/meerkat/meerkat/model/Circuit"), (0, u "input"), (0, u "[Z"), (0, .fieldref 8 14), (0, .nameAndType 15 16), (0, u "firstChild"), (0, u "[I"), (0, .fieldref 8 18), (0, .nameAndType 19 16), (0, u "children"), (5, u "(I)Z"), (2, u "childCount"), (0, u "(I)I"), (35, .class_ 67), (1, u "com/example/meerkat/meerkat/model/Circuit$ClauseSink"), (5, u "TRUE"), (0, u "I"), (2, u "FALSE"), (1, u "UNNEGATED"), (0, u "B"), (0, u "NEGATED"), (1, u "([Z[I[I)V"), (2, u "nodeCount"), (0, u "()I"), (0, u "isInput"), (23, .class_ 113), (0, u "com/example/meerkat/meerkat/model/Circuit$Gate"), (0, .class_ 115), (0, u "com/example/meerkat/meerkat/model/Circuit$Builder")] 4

def k29c0 : Code := { maxStack := 2, maxLocals := 4, code := prog_20_method_1_code, exceptionTable := #[], attributes := #[] }
def k29m0 : Method := { name := "<init>", desc := "([Z[I[I)V", sig := { parameters := [(.array .boolean), (.array .int), (.array .int)], returnType := none }, accessFlags := 2, code := some k29c0 }
def k29c1 : Code := { maxStack := 2, maxLocals := 1, code := prog_20_method_2_code, exceptionTable := #[], attributes := #[] }
def k29m1 : Method := { name := "nodeCount", desc := "()I", sig := { parameters := [], returnType := some .int }, accessFlags := 1, code := some k29c1 }
def k29c2 : Code := { maxStack := 2, maxLocals := 2, code := prog_20_method_3_code, exceptionTable := #[], attributes := #[] }
def k29m2 : Method := { name := "isInput", desc := "(I)Z", sig := { parameters := [.int], returnType := some .boolean }, accessFlags := 1, code := some k29c2 }
def k29c3 : Code := { maxStack := 3, maxLocals := 2, code := prog_20_method_4_code, exceptionTable := #[], attributes := #[] }
def k29m3 : Method := { name := "childCount", desc := "(I)I", sig := { parameters := [.int], returnType := some .int }, accessFlags := 1, code := some k29c3 }
/-- com/example/meerkat/meerkat/model/Circuit -/
def k29 : Class := { plain "com/example/meerkat/meerkat/model/Circuit" (some 0) with
  accessFlags := 49
  interfaces := #[]
  cf := some (fileOf pool29 8 #[.nestMembers #[112, 114, 65]] #[{ accessFlags := 2, nameIndex := 5, descriptorIndex := 83, attributes := #[] }, { accessFlags := 1, nameIndex := 86, descriptorIndex := 87, attributes := #[] }, { accessFlags := 1, nameIndex := 88, descriptorIndex := 25, attributes := #[] }, { accessFlags := 1, nameIndex := 28, descriptorIndex := 29, attributes := #[] }] 49 2 #[] #[{ accessFlags := 25, nameIndex := 73, descriptorIndex := 74, attributes := #[] }, { accessFlags := 25, nameIndex := 77, descriptorIndex := 74, attributes := #[] }, { accessFlags := 26, nameIndex := 79, descriptorIndex := 80, attributes := #[] }, { accessFlags := 26, nameIndex := 81, descriptorIndex := 80, attributes := #[] }, { accessFlags := 18, nameIndex := 11, descriptorIndex := 12, attributes := #[] }, { accessFlags := 18, nameIndex := 15, descriptorIndex := 16, attributes := #[] }, { accessFlags := 18, nameIndex := 19, descriptorIndex := 16, attributes := #[] }])
  fields := #[{ name := "TRUE", type := .int, accessFlags := 25, slot := 0, constantValue := 0 }, { name := "FALSE", type := .int, accessFlags := 25, slot := 1, constantValue := 0 }, { name := "UNNEGATED", type := .byte, accessFlags := 26, slot := 2, constantValue := 0 }, { name := "NEGATED", type := .byte, accessFlags := 26, slot := 3, constantValue := 0 }, { name := "input", type := (.array .boolean), accessFlags := 18, slot := 0, constantValue := 0 }, { name := "firstChild", type := (.array .int), accessFlags := 18, slot := 1, constantValue := 0 }, { name := "children", type := (.array .int), accessFlags := 18, slot := 2, constantValue := 0 }]
  methods := #[k29m0, k29m1, k29m2, k29m3]
  instanceTypes := #[(.array .boolean), (.array .int), (.array .int)]
  staticTypes := #[.int, .int, .byte, .byte]
  resolved := Array.replicate 120 none
  statics := none }

def pool30 : Array CpInfo := pool [(1, .class_ 2), (0, u "java/util/DualPivotQuicksort"), (5, .class_ 10), (1, u "java/lang/Object"), (0, u "<init>"), (0, u "()V"), (4, .class_ 18), (0, u "java/util/DualPivotQuicksort$Sorter"), (7, .methodref 1 27), (0, .nameAndType 28 29), (0, u "sort"), (0, u "(Ljava/util/DualPivotQuicksort$Sorter;[IIII)V"), (3, u "([IIII)V"), (0, .methodref 1 35), (0, .nameAndType 36 37), (0, u "insertionSort"), (0, u "([III)V"), (30, u "I"), (4, .class_ 74), (0, u "java/util/DualPivotQuicksort$RunMerger"), (10, .class_ 86), (0, u "java/util/DualPivotQuicksort$Merger"), (127, u "MAX_MIXED_INSERTION_SORT_SIZE"), (2, u "MAX_INSERTION_SORT_SIZE"), (1, u "MIN_PARALLEL_SORT_SIZE"), (1, u "MIN_TRY_MERGE_SIZE"), (0, u "MIN_FIRST_RUN_SIZE"), (1, u "MIN_FIRST_RUNS_FACTOR"), (1, u "MAX_RUN_CAPACITY"), (1, u "MIN_RUN_COUNT"), (1, u "MIN_PARALLEL_MERGE_PARTS_SIZE"), (0, u "MIN_BYTE_COUNTING_SORT_SIZE"), (1, u "MIN_SHORT_OR_CHAR_COUNTING_SORT_SIZE"), (1, u "DELTA"), (1, u "MAX_RECURSION_DEPTH"), (1, u "NUM_BYTE_VALUES"), (1, u "MAX_BYTE_INDEX"), (0, u "NUM_CHAR_VALUES"), (0, u "NUM_SHORT_VALUES"), (0, u "MAX_SHORT_INDEX")] 86

def k30m0 : Method := { name := "<init>", desc := "()V", sig := { parameters := [], returnType := none }, accessFlags := 2, code := none }
def k30c1 : Code := { maxStack := 9, maxLocals := 7, code := jdk_2529_method_3_code, exceptionTable := #[], attributes := #[] }
def k30m1 : Method := { name := "sort", desc := "([IIII)V", sig := { parameters := [(.array .int), .int, .int, .int], returnType := none }, accessFlags := 8, code := some k30c1 }
def k30c2 : Code := { maxStack := 6, maxLocals := 21, code := jdk_2529_method_4_code, exceptionTable := #[], attributes := #[] }
def k30m2 : Method := { name := "sort", desc := "(Ljava/util/DualPivotQuicksort$Sorter;[IIII)V", sig := { parameters := [(.object "java/util/DualPivotQuicksort$Sorter"), (.array .int), .int, .int, .int], returnType := none }, accessFlags := 8, code := some k30c2 }
def k30c3 : Code := { maxStack := 4, maxLocals := 6, code := jdk_2529_method_6_code, exceptionTable := #[], attributes := #[] }
def k30m3 : Method := { name := "insertionSort", desc := "([III)V", sig := { parameters := [(.array .int), .int, .int], returnType := none }, accessFlags := 10, code := some k30c3 }
/-- java/util/DualPivotQuicksort -/
def k30 : Class := { plain "java/util/DualPivotQuicksort" (some 0) with
  accessFlags := 48
  interfaces := #[]
  cf := some (fileOf pool30 1 #[.nestMembers #[73, 85, 17]] #[{ accessFlags := 2, nameIndex := 11, descriptorIndex := 12, attributes := #[] }, { accessFlags := 8, nameIndex := 28, descriptorIndex := 33, attributes := #[] }, { accessFlags := 8, nameIndex := 28, descriptorIndex := 29, attributes := #[] }, { accessFlags := 10, nameIndex := 36, descriptorIndex := 37, attributes := #[] }] 48 8 #[] #[{ accessFlags := 26, nameIndex := 214, descriptorIndex := 68, attributes := #[] }, { accessFlags := 26, nameIndex := 217, descriptorIndex := 68, attributes := #[] }, { accessFlags := 26, nameIndex := 219, descriptorIndex := 68, attributes := #[] }, { accessFlags := 26, nameIndex := 221, descriptorIndex := 68, attributes := #[] }, { accessFlags := 26, nameIndex := 222, descriptorIndex := 68, attributes := #[] }, { accessFlags := 26, nameIndex := 224, descriptorIndex := 68, attributes := #[] }, { accessFlags := 26, nameIndex := 226, descriptorIndex := 68, attributes := #[] }, { accessFlags := 26, nameIndex := 228, descriptorIndex := 68, attributes := #[] }, { accessFlags := 26, nameIndex := 230, descriptorIndex := 68, attributes := #[] }, { accessFlags := 26, nameIndex := 231, descriptorIndex := 68, attributes := #[] }, { accessFlags := 26, nameIndex := 233, descriptorIndex := 68, attributes := #[] }, { accessFlags := 26, nameIndex := 235, descriptorIndex := 68, attributes := #[] }, { accessFlags := 26, nameIndex := 237, descriptorIndex := 68, attributes := #[] }, { accessFlags := 26, nameIndex := 239, descriptorIndex := 68, attributes := #[] }, { accessFlags := 26, nameIndex := 241, descriptorIndex := 68, attributes := #[] }, { accessFlags := 26, nameIndex := 242, descriptorIndex := 68, attributes := #[] }, { accessFlags := 26, nameIndex := 243, descriptorIndex := 68, attributes := #[] }, { accessFlags := 26, nameIndex := 244, descriptorIndex := 68, attributes := #[] }])
  fields := #[{ name := "MAX_MIXED_INSERTION_SORT_SIZE", type := .int, accessFlags := 26, slot := 0, constantValue := 0 }, { name := "MAX_INSERTION_SORT_SIZE", type := .int, accessFlags := 26, slot := 1, constantValue := 0 }, { name := "MIN_PARALLEL_SORT_SIZE", type := .int, accessFlags := 26, slot := 2, constantValue := 0 }, { name := "MIN_TRY_MERGE_SIZE", type := .int, accessFlags := 26, slot := 3, constantValue := 0 }, { name := "MIN_FIRST_RUN_SIZE", type := .int, accessFlags := 26, slot := 4, constantValue := 0 }, { name := "MIN_FIRST_RUNS_FACTOR", type := .int, accessFlags := 26, slot := 5, constantValue := 0 }, { name := "MAX_RUN_CAPACITY", type := .int, accessFlags := 26, slot := 6, constantValue := 0 }, { name := "MIN_RUN_COUNT", type := .int, accessFlags := 26, slot := 7, constantValue := 0 }, { name := "MIN_PARALLEL_MERGE_PARTS_SIZE", type := .int, accessFlags := 26, slot := 8, constantValue := 0 }, { name := "MIN_BYTE_COUNTING_SORT_SIZE", type := .int, accessFlags := 26, slot := 9, constantValue := 0 }, { name := "MIN_SHORT_OR_CHAR_COUNTING_SORT_SIZE", type := .int, accessFlags := 26, slot := 10, constantValue := 0 }, { name := "DELTA", type := .int, accessFlags := 26, slot := 11, constantValue := 0 }, { name := "MAX_RECURSION_DEPTH", type := .int, accessFlags := 26, slot := 12, constantValue := 0 }, { name := "NUM_BYTE_VALUES", type := .int, accessFlags := 26, slot := 13, constantValue := 0 }, { name := "MAX_BYTE_INDEX", type := .int, accessFlags := 26, slot := 14, constantValue := 0 }, { name := "NUM_CHAR_VALUES", type := .int, accessFlags := 26, slot := 15, constantValue := 0 }, { name := "NUM_SHORT_VALUES", type := .int, accessFlags := 26, slot := 16, constantValue := 0 }, { name := "MAX_SHORT_INDEX", type := .int, accessFlags := 26, slot := 17, constantValue := 0 }]
  methods := #[k30m0, k30m1, k30m2, k30m3]
  instanceTypes := #[]
  staticTypes := #[.int, .int, .int, .int, .int, .int, .int, .int, .int, .int, .int, .int, .int, .int, .int, .int, .int, .int]
  resolved := Array.replicate 331 none
  statics := none }

def pool31 : Array CpInfo := pool [(1, .methodref 2 3), (0, .class_ 4), (0, .nameAndType 5 6), (0, u "java/lang/Object"), (0, u "<init>"), (0, u "()V"), (0, .class_ 8), (0, u "java/lang/Record")] 13

def k31c0 : Code := { maxStack := 1, maxLocals := 1, code := jdk_30_method_1_code, exceptionTable := #[], attributes := #[] }
def k31m0 : Method := { name := "<init>", desc := "()V", sig := { parameters := [], returnType := none }, accessFlags := 4, code := some k31c0 }
/-- java/lang/Record -/
def k31 : Class := { plain "java/lang/Record" (some 0) with
  accessFlags := 1057
  interfaces := #[]
  cf := some (fileOf pool31 7 #[] #[{ accessFlags := 4, nameIndex := 5, descriptorIndex := 6, attributes := #[] }] 1057 2 #[] #[])
  fields := #[]
  methods := #[k31m0]
  instanceTypes := #[]
  staticTypes := #[]
  resolved := Array.replicate 22 none
  statics := none }

def pool32 : Array CpInfo := pool [(1, .methodref 2 3), (0, .class_ 4), (0, .nameAndType 5 6), (0, u "java/lang/Record"), (0, u "<init>"), (0, u "()V"), (0, .fieldref 8 9), (0, .class_ 10), (0, .nameAndType 11 12), (0, u "com/example/meerkat/meerkat/model/Circuit$Gate"), (0, u "literals"), (0, u "[I"), (1, .class_ 16), (1, u "java/util/Arrays"), (2, .methodref 14 20), (0, .nameAndType 21 22), (0, u "hashCode"), (0, u "([I)I"), (4, u "([I)V"), (5, u "()I"), (5, .class_ 40), (0, u "com/example/meerkat/meerkat/model/Circuit")] 3

def k32c0 : Code := { maxStack := 2, maxLocals := 2, code := prog_23_method_1_code, exceptionTable := #[], attributes := #[] }
def k32m0 : Method := { name := "<init>", desc := "([I)V", sig := { parameters := [(.array .int)], returnType := none }, accessFlags := 2, code := some k32c0 }
def k32c1 : Code := { maxStack := 1, maxLocals := 1, code := prog_23_method_3_code, exceptionTable := #[], attributes := #[] }
def k32m1 : Method := { name := "hashCode", desc := "()I", sig := { parameters := [], returnType := some .int }, accessFlags := 1, code := some k32c1 }
/-- com/example/meerkat/meerkat/model/Circuit$Gate -/
def k32 : Class := { plain "com/example/meerkat/meerkat/model/Circuit$Gate" (some 31) with
  accessFlags := 48
  interfaces := #[]
  cf := some (fileOf pool32 8 #[.nestHost 39] #[{ accessFlags := 2, nameIndex := 5, descriptorIndex := 27, attributes := #[] }, { accessFlags := 1, nameIndex := 21, descriptorIndex := 33, attributes := #[] }] 48 2 #[] #[{ accessFlags := 18, nameIndex := 11, descriptorIndex := 12, attributes := #[] }])
  fields := #[{ name := "literals", type := (.array .int), accessFlags := 18, slot := 0, constantValue := 0 }]
  methods := #[k32m0, k32m1]
  instanceTypes := #[(.array .int)]
  staticTypes := #[]
  resolved := Array.replicate 44 none
  statics := none }

def pool33 : Array CpInfo := pool [(2, .class_ 4), (1, u "java/lang/Object"), (0, u "<init>"), (0, u "()V"), (1, .class_ 10), (1, u "java/lang/Number"), (2, .class_ 14), (0, u "java/io/Serializable"), (0, u "serialVersionUID"), (0, u "J")] 20

def k33m0 : Method := { name := "<init>", desc := "()V", sig := { parameters := [], returnType := none }, accessFlags := 1, code := none }
/-- java/lang/Number -/
def k33 : Class := { plain "java/lang/Number" (some 0) with
  accessFlags := 1057
  interfaces := #[11]
  cf := some (fileOf pool33 8 #[] #[{ accessFlags := 1, nameIndex := 5, descriptorIndex := 6, attributes := #[] }] 1057 2 #[13] #[{ accessFlags := 26, nameIndex := 15, descriptorIndex := 16, attributes := #[] }])
  fields := #[{ name := "serialVersionUID", type := .long, accessFlags := 26, slot := 0, constantValue := 0 }]
  methods := #[k33m0]
  instanceTypes := #[]
  staticTypes := #[.long]
  resolved := Array.replicate 37 none
  statics := none }

def pool34 : Array CpInfo := pool [(1, .class_ 2), (0, u "java/lang/constant/ConstantDesc"), (0, .class_ 4), (0, u "java/lang/Object")] 32

/-- java/lang/constant/ConstantDesc -/
def k34 : Class := { plain "java/lang/constant/ConstantDesc" (some 0) with
  accessFlags := 1537
  interfaces := #[]
  cf := some (fileOf pool34 1 #[] #[] 1537 3 #[] #[])
  fields := #[]
  methods := #[]
  instanceTypes := #[]
  staticTypes := #[]
  resolved := Array.replicate 37 none
  statics := none }

def pool35 : Array CpInfo := pool [(1, .class_ 2), (0, u "java/lang/Integer"), (16, u "digits"), (0, u "[C"), (64, u "DigitOnes"), (0, u "[B"), (2, u "DigitTens"), (31, u "()I"), (65, u "valueOf"), (0, u "(I)Ljava/lang/Integer;"), (0, .class_ 190), (0, u "java/lang/Integer$IntegerCache"), (0, .fieldref 189 192), (0, .nameAndType 193 194), (0, u "high"), (0, u "I"), (0, .fieldref 189 196), (0, .nameAndType 197 198), (0, u "cache"), (0, u "[Ljava/lang/Integer;"), (4, .class_ 204), (0, u "java/lang/Number"), (0, .fieldref 1 206), (0, .nameAndType 207 194), (0, u "value"), (5, u "intValue"), (88, u "TYPE"), (0, u "Ljava/lang/Class;"), (0, .class_ 305), (0, u "java/lang/Comparable"), (0, .class_ 307), (0, u "java/lang/constant/Constable"), (0, .class_ 309), (0, u "java/lang/constant/ConstantDesc"), (0, u "MIN_VALUE"), (1, u "MAX_VALUE"), (3, u "SIZE"), (1, u "BYTES"), (1, u "serialVersionUID"), (0, u "J")] 131

def k35c0 : Code := { maxStack := 3, maxLocals := 1, code := jdk_33_method_22_code, exceptionTable := #[], attributes := #[] }
def k35m0 : Method := { name := "valueOf", desc := "(I)Ljava/lang/Integer;", sig := { parameters := [.int], returnType := some (.object "java/lang/Integer") }, accessFlags := 9, code := some k35c0 }
def k35c1 : Code := { maxStack := 1, maxLocals := 1, code := jdk_33_method_27_code, exceptionTable := #[], attributes := #[] }
def k35m1 : Method := { name := "intValue", desc := "()I", sig := { parameters := [], returnType := some .int }, accessFlags := 1, code := some k35c1 }
/-- java/lang/Integer -/
def k35 : Class := { plain "java/lang/Integer" (some 33) with
  accessFlags := 49
  interfaces := #[13, 14, 34]
  cf := some (fileOf pool35 1 #[.nestMembers #[189]] #[{ accessFlags := 9, nameIndex := 187, descriptorIndex := 188, attributes := #[] }, { accessFlags := 1, nameIndex := 213, descriptorIndex := 121, attributes := #[] }] 49 203 #[304, 306, 308] #[{ accessFlags := 25, nameIndex := 310, descriptorIndex := 194, attributes := #[] }, { accessFlags := 25, nameIndex := 312, descriptorIndex := 194, attributes := #[] }, { accessFlags := 25, nameIndex := 302, descriptorIndex := 303, attributes := #[] }, { accessFlags := 24, nameIndex := 19, descriptorIndex := 20, attributes := #[] }, { accessFlags := 24, nameIndex := 89, descriptorIndex := 86, attributes := #[] }, { accessFlags := 24, nameIndex := 85, descriptorIndex := 86, attributes := #[] }, { accessFlags := 18, nameIndex := 207, descriptorIndex := 194, attributes := #[] }, { accessFlags := 25, nameIndex := 316, descriptorIndex := 194, attributes := #[] }, { accessFlags := 25, nameIndex := 318, descriptorIndex := 194, attributes := #[] }, { accessFlags := 26, nameIndex := 320, descriptorIndex := 321, attributes := #[] }])
  fields := #[{ name := "MIN_VALUE", type := .int, accessFlags := 25, slot := 0, constantValue := 0 }, { name := "MAX_VALUE", type := .int, accessFlags := 25, slot := 1, constantValue := 0 }, { name := "TYPE", type := (.object "java/lang/Class"), accessFlags := 25, slot := 2, constantValue := 0 }, { name := "digits", type := (.array .char), accessFlags := 24, slot := 3, constantValue := 0 }, { name := "DigitTens", type := (.array .byte), accessFlags := 24, slot := 4, constantValue := 0 }, { name := "DigitOnes", type := (.array .byte), accessFlags := 24, slot := 5, constantValue := 0 }, { name := "value", type := .int, accessFlags := 18, slot := 0, constantValue := 0 }, { name := "SIZE", type := .int, accessFlags := 25, slot := 6, constantValue := 0 }, { name := "BYTES", type := .int, accessFlags := 25, slot := 7, constantValue := 0 }, { name := "serialVersionUID", type := .long, accessFlags := 26, slot := 8, constantValue := 0 }]
  methods := #[k35m0, k35m1]
  instanceTypes := #[.int]
  staticTypes := #[.int, .int, (.object "java/lang/Class"), (.array .char), (.array .byte), (.array .byte), .int, .int, .long]
  resolved := Array.replicate 453 none
  statics := none }

def pool36 : Array CpInfo := pool [(2, .class_ 4), (1, u "java/lang/Object"), (0, u "<init>"), (0, u "()V"), (0, .class_ 8), (0, u "java/lang/Integer"), (7, .class_ 18), (1, u "java/lang/Integer$IntegerCache"), (0, u "$assertionsDisabled"), (0, u "Z"), (26, u "high"), (0, u "I"), (8, u "archivedCache"), (0, u "[Ljava/lang/Integer;"), (12, u "cache"), (0, u "low")] 27

def k36m0 : Method := { name := "<init>", desc := "()V", sig := { parameters := [], returnType := none }, accessFlags := 2, code := none }
/-- java/lang/Integer$IntegerCache -/
def k36 : Class := { plain "java/lang/Integer$IntegerCache" (some 0) with
  accessFlags := 48
  interfaces := #[]
  cf := some (fileOf pool36 16 #[.nestHost 7] #[{ accessFlags := 2, nameIndex := 5, descriptorIndex := 6, attributes := #[] }] 48 2 #[] #[{ accessFlags := 24, nameIndex := 72, descriptorIndex := 48, attributes := #[] }, { accessFlags := 24, nameIndex := 47, descriptorIndex := 48, attributes := #[] }, { accessFlags := 24, nameIndex := 71, descriptorIndex := 58, attributes := #[] }, { accessFlags := 8, nameIndex := 57, descriptorIndex := 58, attributes := #[] }, { accessFlags := 4120, nameIndex := 19, descriptorIndex := 20, attributes := #[] }])
  fields := #[{ name := "low", type := .int, accessFlags := 24, slot := 0, constantValue := 0 }, { name := "high", type := .int, accessFlags := 24, slot := 1, constantValue := 0 }, { name := "cache", type := (.array (.object "java/lang/Integer")), accessFlags := 24, slot := 2, constantValue := 0 }, { name := "archivedCache", type := (.array (.object "java/lang/Integer")), accessFlags := 8, slot := 3, constantValue := 0 }, { name := "$assertionsDisabled", type := .boolean, accessFlags := 4120, slot := 4, constantValue := 0 }]
  methods := #[k36m0]
  instanceTypes := #[]
  staticTypes := #[.int, .int, (.array (.object "java/lang/Integer")), (.array (.object "java/lang/Integer")), .boolean]
  resolved := Array.replicate 100 none
  statics := some 2 }

def pool37 : Array CpInfo := pool [(23, .class_ 25), (1, u "java/util/Map$Entry"), (6, .class_ 34), (1, u "java/util/Map"), (34, .class_ 70), (0, u "java/lang/Object")] 107

/-- java/util/Map$Entry -/
def k37 : Class := { plain "java/util/Map$Entry" (some 0) with
  accessFlags := 1537
  interfaces := #[]
  cf := some (fileOf pool37 23 #[.nestHost 32] #[] 1537 69 #[] #[])
  fields := #[]
  methods := #[]
  instanceTypes := #[]
  staticTypes := #[]
  resolved := Array.replicate 178 none
  statics := none }

def pool38 : Array CpInfo := pool [(1, .methodref 2 3), (0, .class_ 4), (0, .nameAndType 5 6), (0, u "java/lang/Object"), (0, u "<init>"), (0, u "()V"), (0, .fieldref 8 9), (0, .class_ 10), (0, .nameAndType 11 12), (0, u "java/util/HashMap$Node"), (0, u "hash"), (0, u "I"), (0, .fieldref 8 14), (0, .nameAndType 15 16), (0, u "key"), (0, u "Ljava/lang/Object;"), (0, .fieldref 8 18), (0, .nameAndType 19 16), (0, u "value"), (0, .fieldref 8 21), (0, .nameAndType 22 23), (0, u "next"), (0, u "Ljava/util/HashMap$Node;"), (22, .class_ 47), (0, u "java/util/Map$Entry"), (15, u "(ILjava/lang/Object;Ljava/lang/Object;Ljava/util/HashMap$Node;)V"), (24, .class_ 89), (0, u "java/util/HashMap")] 5

def k38c0 : Code := { maxStack := 2, maxLocals := 5, code := jdk_70_method_1_code, exceptionTable := #[], attributes := #[] }
def k38m0 : Method := { name := "<init>", desc := "(ILjava/lang/Object;Ljava/lang/Object;Ljava/util/HashMap$Node;)V", sig := { parameters := [.int, (.object "java/lang/Object"), (.object "java/lang/Object"), (.object "java/util/HashMap$Node")], returnType := none }, accessFlags := 0, code := some k38c0 }
/-- java/util/HashMap$Node -/
def k38 : Class := { plain "java/util/HashMap$Node" (some 0) with
  accessFlags := 32
  interfaces := #[37]
  cf := some (fileOf pool38 8 #[.nestHost 88] #[{ accessFlags := 0, nameIndex := 5, descriptorIndex := 63, attributes := #[] }] 32 2 #[46] #[{ accessFlags := 16, nameIndex := 11, descriptorIndex := 12, attributes := #[] }, { accessFlags := 16, nameIndex := 15, descriptorIndex := 16, attributes := #[] }, { accessFlags := 0, nameIndex := 19, descriptorIndex := 16, attributes := #[] }, { accessFlags := 0, nameIndex := 22, descriptorIndex := 23, attributes := #[] }])
  fields := #[{ name := "hash", type := .int, accessFlags := 16, slot := 0, constantValue := 0 }, { name := "key", type := (.object "java/lang/Object"), accessFlags := 16, slot := 1, constantValue := 0 }, { name := "value", type := (.object "java/lang/Object"), accessFlags := 0, slot := 2, constantValue := 0 }, { name := "next", type := (.object "java/util/HashMap$Node"), accessFlags := 0, slot := 3, constantValue := 0 }]
  methods := #[k38m0]
  instanceTypes := #[.int, (.object "java/lang/Object"), (.object "java/lang/Object"), (.object "java/util/HashMap$Node")]
  staticTypes := #[]
  resolved := Array.replicate 95 none
  statics := none }

def pool39 : Array CpInfo := pool [(2, .class_ 4), (1, u "java/util/ImmutableCollections$AbstractImmutableList"), (3, .class_ 10), (1, u "java/util/ImmutableCollections$ListN"), (0, u "elements"), (0, u "[Ljava/lang/Object;"), (2, u "allowNulls"), (0, u "Z"), (42, .class_ 60), (0, u "java/io/Serializable"), (53, .class_ 115), (0, u "java/util/ImmutableCollections")] 3

/-- java/util/ImmutableCollections$ListN -/
def k39 : Class := { plain "java/util/ImmutableCollections$ListN" (some 17) with
  accessFlags := 48
  interfaces := #[11]
  cf := some (fileOf pool39 8 #[.nestHost 114] #[] 48 2 #[59] #[{ accessFlags := 18, nameIndex := 11, descriptorIndex := 12, attributes := #[] }, { accessFlags := 18, nameIndex := 15, descriptorIndex := 16, attributes := #[] }])
  fields := #[{ name := "elements", type := (.array (.object "java/lang/Object")), accessFlags := 18, slot := 0, constantValue := 0 }, { name := "allowNulls", type := .boolean, accessFlags := 18, slot := 1, constantValue := 0 }]
  methods := #[]
  instanceTypes := #[(.array (.object "java/lang/Object")), .boolean]
  staticTypes := #[]
  resolved := Array.replicate 119 none
  statics := none }

def pool40 : Array CpInfo := pool [(1, u "java/lang/Class"), (0, .class_ 1), (0, u "java/lang/Object"), (0, .class_ 3)] 0

/-- java/lang/Class -/
def k40 : Class := { plain "java/lang/Class" (some 0) with
  accessFlags := 49
  interfaces := #[]
  cf := some (fileOf pool40 2 #[] #[] 49 4 #[] #[])
  fields := #[]
  methods := #[]
  instanceTypes := #[]
  staticTypes := #[]
  resolved := Array.replicate 5 none
  statics := none }

/-- the primitive boolean -/
def k41 : Class := { plain "boolean" none with kind := .primitive 'Z', accessFlags := 0x411 }
/-- [Z -/
def k42 : Class := { plain "[Z" (some 0) with kind := .array 41 .boolean, interfaces := #[10, 11], accessFlags := 1041 }

/-- the primitive byte -/
def k43 : Class := { plain "byte" none with kind := .primitive 'B', accessFlags := 0x411 }
/-- [B -/
def k44 : Class := { plain "[B" (some 0) with kind := .array 43 .byte, interfaces := #[10, 11], accessFlags := 1041 }

/-- the primitive int -/
def k45 : Class := { plain "int" none with kind := .primitive 'I', accessFlags := 0x411 }
/-- [I -/
def k46 : Class := { plain "[I" (some 0) with kind := .array 45 .int, interfaces := #[10, 11], accessFlags := 1041 }

/-- [Ljava/lang/Integer; -/
def k47 : Class := { plain "[Ljava/lang/Integer;" (some 0) with kind := .array 35 (.object "java/lang/Integer"), interfaces := #[10, 11], accessFlags := 1041 }

/-- [Ljava/lang/Object; -/
def k48 : Class := { plain "[Ljava/lang/Object;" (some 0) with kind := .array 0 (.object "java/lang/Object"), interfaces := #[10, 11], accessFlags := 1041, mirror := some 5 }

/-- [Ljava/util/HashMap$Node; -/
def k49 : Class := { plain "[Ljava/util/HashMap$Node;" (some 0) with kind := .array 38 (.object "java/util/HashMap$Node"), interfaces := #[10, 11], accessFlags := 1041 }

def heap : Heap := #[{ cls := 15, slots := #[.ref 266, .ref 263, .null, .long 0], vm := .statics 15 },
  { cls := 20, slots := #[.long 0, .int 0, .null, .ref 264, .ref 265, .null, .null, .null, .int 0, .int 1], vm := .statics 20 },
  { cls := 36, slots := #[.int 0, .int 127, .ref 6, .null, .int 0], vm := .statics 36 },
  { cls := 40, slots := #[], vm := .mirror 18 },
  { cls := 40, slots := #[], vm := .mirror 12 },
  { cls := 40, slots := #[], vm := .mirror 48 },
  { cls := 47, slots := #[.ref 7, .ref 8, .ref 9, .ref 10, .ref 11, .ref 12, .ref 13, .ref 14, .ref 15, .ref 16, .ref 17, .ref 18, .ref 19, .ref 20, .ref 21, .ref 22, .ref 23, .ref 24, .ref 25, .ref 26, .ref 27, .ref 28, .ref 29, .ref 30, .ref 31, .ref 32, .ref 33, .ref 34, .ref 35, .ref 36, .ref 37, .ref 38, .ref 39, .ref 40, .ref 41, .ref 42, .ref 43, .ref 44, .ref 45, .ref 46, .ref 47, .ref 48, .ref 49, .ref 50, .ref 51, .ref 52, .ref 53, .ref 54, .ref 55, .ref 56, .ref 57, .ref 58, .ref 59, .ref 60, .ref 61, .ref 62, .ref 63, .ref 64, .ref 65, .ref 66, .ref 67, .ref 68, .ref 69, .ref 70, .ref 71, .ref 72, .ref 73, .ref 74, .ref 75, .ref 76, .ref 77, .ref 78, .ref 79, .ref 80, .ref 81, .ref 82, .ref 83, .ref 84, .ref 85, .ref 86, .ref 87, .ref 88, .ref 89, .ref 90, .ref 91, .ref 92, .ref 93, .ref 94, .ref 95, .ref 96, .ref 97, .ref 98, .ref 99, .ref 100, .ref 101, .ref 102, .ref 103, .ref 104, .ref 105, .ref 106, .ref 107, .ref 108, .ref 109, .ref 110, .ref 111, .ref 112, .ref 113, .ref 114, .ref 115, .ref 116, .ref 117, .ref 118, .ref 119, .ref 120, .ref 121, .ref 122, .ref 123, .ref 124, .ref 125, .ref 126, .ref 127, .ref 128, .ref 129, .ref 130, .ref 131, .ref 132, .ref 133, .ref 134, .ref 135, .ref 136, .ref 137, .ref 138, .ref 139, .ref 140, .ref 141, .ref 142, .ref 143, .ref 144, .ref 145, .ref 146, .ref 147, .ref 148, .ref 149, .ref 150, .ref 151, .ref 152, .ref 153, .ref 154, .ref 155, .ref 156, .ref 157, .ref 158, .ref 159, .ref 160, .ref 161, .ref 162, .ref 163, .ref 164, .ref 165, .ref 166, .ref 167, .ref 168, .ref 169, .ref 170, .ref 171, .ref 172, .ref 173, .ref 174, .ref 175, .ref 176, .ref 177, .ref 178, .ref 179, .ref 180, .ref 181, .ref 182, .ref 183, .ref 184, .ref 185, .ref 186, .ref 187, .ref 188, .ref 189, .ref 190, .ref 191, .ref 192, .ref 193, .ref 194, .ref 195, .ref 196, .ref 197, .ref 198, .ref 199, .ref 200, .ref 201, .ref 202, .ref 203, .ref 204, .ref 205, .ref 206, .ref 207, .ref 208, .ref 209, .ref 210, .ref 211, .ref 212, .ref 213, .ref 214, .ref 215, .ref 216, .ref 217, .ref 218, .ref 219, .ref 220, .ref 221, .ref 222, .ref 223, .ref 224, .ref 225, .ref 226, .ref 227, .ref 228, .ref 229, .ref 230, .ref 231, .ref 232, .ref 233, .ref 234, .ref 235, .ref 236, .ref 237, .ref 238, .ref 239, .ref 240, .ref 241, .ref 242, .ref 243, .ref 244, .ref 245, .ref 246, .ref 247, .ref 248, .ref 249, .ref 250, .ref 251, .ref 252, .ref 253, .ref 254, .ref 255, .ref 256, .ref 257, .ref 258, .ref 259, .ref 260, .ref 261, .ref 262], vm := .none },
  { cls := 35, slots := #[.int (-128)], vm := .none },
  { cls := 35, slots := #[.int (-127)], vm := .none },
  { cls := 35, slots := #[.int (-126)], vm := .none },
  { cls := 35, slots := #[.int (-125)], vm := .none },
  { cls := 35, slots := #[.int (-124)], vm := .none },
  { cls := 35, slots := #[.int (-123)], vm := .none },
  { cls := 35, slots := #[.int (-122)], vm := .none },
  { cls := 35, slots := #[.int (-121)], vm := .none },
  { cls := 35, slots := #[.int (-120)], vm := .none },
  { cls := 35, slots := #[.int (-119)], vm := .none },
  { cls := 35, slots := #[.int (-118)], vm := .none },
  { cls := 35, slots := #[.int (-117)], vm := .none },
  { cls := 35, slots := #[.int (-116)], vm := .none },
  { cls := 35, slots := #[.int (-115)], vm := .none },
  { cls := 35, slots := #[.int (-114)], vm := .none },
  { cls := 35, slots := #[.int (-113)], vm := .none },
  { cls := 35, slots := #[.int (-112)], vm := .none },
  { cls := 35, slots := #[.int (-111)], vm := .none },
  { cls := 35, slots := #[.int (-110)], vm := .none },
  { cls := 35, slots := #[.int (-109)], vm := .none },
  { cls := 35, slots := #[.int (-108)], vm := .none },
  { cls := 35, slots := #[.int (-107)], vm := .none },
  { cls := 35, slots := #[.int (-106)], vm := .none },
  { cls := 35, slots := #[.int (-105)], vm := .none },
  { cls := 35, slots := #[.int (-104)], vm := .none },
  { cls := 35, slots := #[.int (-103)], vm := .none },
  { cls := 35, slots := #[.int (-102)], vm := .none },
  { cls := 35, slots := #[.int (-101)], vm := .none },
  { cls := 35, slots := #[.int (-100)], vm := .none },
  { cls := 35, slots := #[.int (-99)], vm := .none },
  { cls := 35, slots := #[.int (-98)], vm := .none },
  { cls := 35, slots := #[.int (-97)], vm := .none },
  { cls := 35, slots := #[.int (-96)], vm := .none },
  { cls := 35, slots := #[.int (-95)], vm := .none },
  { cls := 35, slots := #[.int (-94)], vm := .none },
  { cls := 35, slots := #[.int (-93)], vm := .none },
  { cls := 35, slots := #[.int (-92)], vm := .none },
  { cls := 35, slots := #[.int (-91)], vm := .none },
  { cls := 35, slots := #[.int (-90)], vm := .none },
  { cls := 35, slots := #[.int (-89)], vm := .none },
  { cls := 35, slots := #[.int (-88)], vm := .none },
  { cls := 35, slots := #[.int (-87)], vm := .none },
  { cls := 35, slots := #[.int (-86)], vm := .none },
  { cls := 35, slots := #[.int (-85)], vm := .none },
  { cls := 35, slots := #[.int (-84)], vm := .none },
  { cls := 35, slots := #[.int (-83)], vm := .none },
  { cls := 35, slots := #[.int (-82)], vm := .none },
  { cls := 35, slots := #[.int (-81)], vm := .none },
  { cls := 35, slots := #[.int (-80)], vm := .none },
  { cls := 35, slots := #[.int (-79)], vm := .none },
  { cls := 35, slots := #[.int (-78)], vm := .none },
  { cls := 35, slots := #[.int (-77)], vm := .none },
  { cls := 35, slots := #[.int (-76)], vm := .none },
  { cls := 35, slots := #[.int (-75)], vm := .none },
  { cls := 35, slots := #[.int (-74)], vm := .none },
  { cls := 35, slots := #[.int (-73)], vm := .none },
  { cls := 35, slots := #[.int (-72)], vm := .none },
  { cls := 35, slots := #[.int (-71)], vm := .none },
  { cls := 35, slots := #[.int (-70)], vm := .none },
  { cls := 35, slots := #[.int (-69)], vm := .none },
  { cls := 35, slots := #[.int (-68)], vm := .none },
  { cls := 35, slots := #[.int (-67)], vm := .none },
  { cls := 35, slots := #[.int (-66)], vm := .none },
  { cls := 35, slots := #[.int (-65)], vm := .none },
  { cls := 35, slots := #[.int (-64)], vm := .none },
  { cls := 35, slots := #[.int (-63)], vm := .none },
  { cls := 35, slots := #[.int (-62)], vm := .none },
  { cls := 35, slots := #[.int (-61)], vm := .none },
  { cls := 35, slots := #[.int (-60)], vm := .none },
  { cls := 35, slots := #[.int (-59)], vm := .none },
  { cls := 35, slots := #[.int (-58)], vm := .none },
  { cls := 35, slots := #[.int (-57)], vm := .none },
  { cls := 35, slots := #[.int (-56)], vm := .none },
  { cls := 35, slots := #[.int (-55)], vm := .none },
  { cls := 35, slots := #[.int (-54)], vm := .none },
  { cls := 35, slots := #[.int (-53)], vm := .none },
  { cls := 35, slots := #[.int (-52)], vm := .none },
  { cls := 35, slots := #[.int (-51)], vm := .none },
  { cls := 35, slots := #[.int (-50)], vm := .none },
  { cls := 35, slots := #[.int (-49)], vm := .none },
  { cls := 35, slots := #[.int (-48)], vm := .none },
  { cls := 35, slots := #[.int (-47)], vm := .none },
  { cls := 35, slots := #[.int (-46)], vm := .none },
  { cls := 35, slots := #[.int (-45)], vm := .none },
  { cls := 35, slots := #[.int (-44)], vm := .none },
  { cls := 35, slots := #[.int (-43)], vm := .none },
  { cls := 35, slots := #[.int (-42)], vm := .none },
  { cls := 35, slots := #[.int (-41)], vm := .none },
  { cls := 35, slots := #[.int (-40)], vm := .none },
  { cls := 35, slots := #[.int (-39)], vm := .none },
  { cls := 35, slots := #[.int (-38)], vm := .none },
  { cls := 35, slots := #[.int (-37)], vm := .none },
  { cls := 35, slots := #[.int (-36)], vm := .none },
  { cls := 35, slots := #[.int (-35)], vm := .none },
  { cls := 35, slots := #[.int (-34)], vm := .none },
  { cls := 35, slots := #[.int (-33)], vm := .none },
  { cls := 35, slots := #[.int (-32)], vm := .none },
  { cls := 35, slots := #[.int (-31)], vm := .none },
  { cls := 35, slots := #[.int (-30)], vm := .none },
  { cls := 35, slots := #[.int (-29)], vm := .none },
  { cls := 35, slots := #[.int (-28)], vm := .none },
  { cls := 35, slots := #[.int (-27)], vm := .none },
  { cls := 35, slots := #[.int (-26)], vm := .none },
  { cls := 35, slots := #[.int (-25)], vm := .none },
  { cls := 35, slots := #[.int (-24)], vm := .none },
  { cls := 35, slots := #[.int (-23)], vm := .none },
  { cls := 35, slots := #[.int (-22)], vm := .none },
  { cls := 35, slots := #[.int (-21)], vm := .none },
  { cls := 35, slots := #[.int (-20)], vm := .none },
  { cls := 35, slots := #[.int (-19)], vm := .none },
  { cls := 35, slots := #[.int (-18)], vm := .none },
  { cls := 35, slots := #[.int (-17)], vm := .none },
  { cls := 35, slots := #[.int (-16)], vm := .none },
  { cls := 35, slots := #[.int (-15)], vm := .none },
  { cls := 35, slots := #[.int (-14)], vm := .none },
  { cls := 35, slots := #[.int (-13)], vm := .none },
  { cls := 35, slots := #[.int (-12)], vm := .none },
  { cls := 35, slots := #[.int (-11)], vm := .none },
  { cls := 35, slots := #[.int (-10)], vm := .none },
  { cls := 35, slots := #[.int (-9)], vm := .none },
  { cls := 35, slots := #[.int (-8)], vm := .none },
  { cls := 35, slots := #[.int (-7)], vm := .none },
  { cls := 35, slots := #[.int (-6)], vm := .none },
  { cls := 35, slots := #[.int (-5)], vm := .none },
  { cls := 35, slots := #[.int (-4)], vm := .none },
  { cls := 35, slots := #[.int (-3)], vm := .none },
  { cls := 35, slots := #[.int (-2)], vm := .none },
  { cls := 35, slots := #[.int (-1)], vm := .none },
  { cls := 35, slots := #[.int (0)], vm := .none },
  { cls := 35, slots := #[.int (1)], vm := .none },
  { cls := 35, slots := #[.int (2)], vm := .none },
  { cls := 35, slots := #[.int (3)], vm := .none },
  { cls := 35, slots := #[.int (4)], vm := .none },
  { cls := 35, slots := #[.int (5)], vm := .none },
  { cls := 35, slots := #[.int (6)], vm := .none },
  { cls := 35, slots := #[.int (7)], vm := .none },
  { cls := 35, slots := #[.int (8)], vm := .none },
  { cls := 35, slots := #[.int (9)], vm := .none },
  { cls := 35, slots := #[.int (10)], vm := .none },
  { cls := 35, slots := #[.int (11)], vm := .none },
  { cls := 35, slots := #[.int (12)], vm := .none },
  { cls := 35, slots := #[.int (13)], vm := .none },
  { cls := 35, slots := #[.int (14)], vm := .none },
  { cls := 35, slots := #[.int (15)], vm := .none },
  { cls := 35, slots := #[.int (16)], vm := .none },
  { cls := 35, slots := #[.int (17)], vm := .none },
  { cls := 35, slots := #[.int (18)], vm := .none },
  { cls := 35, slots := #[.int (19)], vm := .none },
  { cls := 35, slots := #[.int (20)], vm := .none },
  { cls := 35, slots := #[.int (21)], vm := .none },
  { cls := 35, slots := #[.int (22)], vm := .none },
  { cls := 35, slots := #[.int (23)], vm := .none },
  { cls := 35, slots := #[.int (24)], vm := .none },
  { cls := 35, slots := #[.int (25)], vm := .none },
  { cls := 35, slots := #[.int (26)], vm := .none },
  { cls := 35, slots := #[.int (27)], vm := .none },
  { cls := 35, slots := #[.int (28)], vm := .none },
  { cls := 35, slots := #[.int (29)], vm := .none },
  { cls := 35, slots := #[.int (30)], vm := .none },
  { cls := 35, slots := #[.int (31)], vm := .none },
  { cls := 35, slots := #[.int (32)], vm := .none },
  { cls := 35, slots := #[.int (33)], vm := .none },
  { cls := 35, slots := #[.int (34)], vm := .none },
  { cls := 35, slots := #[.int (35)], vm := .none },
  { cls := 35, slots := #[.int (36)], vm := .none },
  { cls := 35, slots := #[.int (37)], vm := .none },
  { cls := 35, slots := #[.int (38)], vm := .none },
  { cls := 35, slots := #[.int (39)], vm := .none },
  { cls := 35, slots := #[.int (40)], vm := .none },
  { cls := 35, slots := #[.int (41)], vm := .none },
  { cls := 35, slots := #[.int (42)], vm := .none },
  { cls := 35, slots := #[.int (43)], vm := .none },
  { cls := 35, slots := #[.int (44)], vm := .none },
  { cls := 35, slots := #[.int (45)], vm := .none },
  { cls := 35, slots := #[.int (46)], vm := .none },
  { cls := 35, slots := #[.int (47)], vm := .none },
  { cls := 35, slots := #[.int (48)], vm := .none },
  { cls := 35, slots := #[.int (49)], vm := .none },
  { cls := 35, slots := #[.int (50)], vm := .none },
  { cls := 35, slots := #[.int (51)], vm := .none },
  { cls := 35, slots := #[.int (52)], vm := .none },
  { cls := 35, slots := #[.int (53)], vm := .none },
  { cls := 35, slots := #[.int (54)], vm := .none },
  { cls := 35, slots := #[.int (55)], vm := .none },
  { cls := 35, slots := #[.int (56)], vm := .none },
  { cls := 35, slots := #[.int (57)], vm := .none },
  { cls := 35, slots := #[.int (58)], vm := .none },
  { cls := 35, slots := #[.int (59)], vm := .none },
  { cls := 35, slots := #[.int (60)], vm := .none },
  { cls := 35, slots := #[.int (61)], vm := .none },
  { cls := 35, slots := #[.int (62)], vm := .none },
  { cls := 35, slots := #[.int (63)], vm := .none },
  { cls := 35, slots := #[.int (64)], vm := .none },
  { cls := 35, slots := #[.int (65)], vm := .none },
  { cls := 35, slots := #[.int (66)], vm := .none },
  { cls := 35, slots := #[.int (67)], vm := .none },
  { cls := 35, slots := #[.int (68)], vm := .none },
  { cls := 35, slots := #[.int (69)], vm := .none },
  { cls := 35, slots := #[.int (70)], vm := .none },
  { cls := 35, slots := #[.int (71)], vm := .none },
  { cls := 35, slots := #[.int (72)], vm := .none },
  { cls := 35, slots := #[.int (73)], vm := .none },
  { cls := 35, slots := #[.int (74)], vm := .none },
  { cls := 35, slots := #[.int (75)], vm := .none },
  { cls := 35, slots := #[.int (76)], vm := .none },
  { cls := 35, slots := #[.int (77)], vm := .none },
  { cls := 35, slots := #[.int (78)], vm := .none },
  { cls := 35, slots := #[.int (79)], vm := .none },
  { cls := 35, slots := #[.int (80)], vm := .none },
  { cls := 35, slots := #[.int (81)], vm := .none },
  { cls := 35, slots := #[.int (82)], vm := .none },
  { cls := 35, slots := #[.int (83)], vm := .none },
  { cls := 35, slots := #[.int (84)], vm := .none },
  { cls := 35, slots := #[.int (85)], vm := .none },
  { cls := 35, slots := #[.int (86)], vm := .none },
  { cls := 35, slots := #[.int (87)], vm := .none },
  { cls := 35, slots := #[.int (88)], vm := .none },
  { cls := 35, slots := #[.int (89)], vm := .none },
  { cls := 35, slots := #[.int (90)], vm := .none },
  { cls := 35, slots := #[.int (91)], vm := .none },
  { cls := 35, slots := #[.int (92)], vm := .none },
  { cls := 35, slots := #[.int (93)], vm := .none },
  { cls := 35, slots := #[.int (94)], vm := .none },
  { cls := 35, slots := #[.int (95)], vm := .none },
  { cls := 35, slots := #[.int (96)], vm := .none },
  { cls := 35, slots := #[.int (97)], vm := .none },
  { cls := 35, slots := #[.int (98)], vm := .none },
  { cls := 35, slots := #[.int (99)], vm := .none },
  { cls := 35, slots := #[.int (100)], vm := .none },
  { cls := 35, slots := #[.int (101)], vm := .none },
  { cls := 35, slots := #[.int (102)], vm := .none },
  { cls := 35, slots := #[.int (103)], vm := .none },
  { cls := 35, slots := #[.int (104)], vm := .none },
  { cls := 35, slots := #[.int (105)], vm := .none },
  { cls := 35, slots := #[.int (106)], vm := .none },
  { cls := 35, slots := #[.int (107)], vm := .none },
  { cls := 35, slots := #[.int (108)], vm := .none },
  { cls := 35, slots := #[.int (109)], vm := .none },
  { cls := 35, slots := #[.int (110)], vm := .none },
  { cls := 35, slots := #[.int (111)], vm := .none },
  { cls := 35, slots := #[.int (112)], vm := .none },
  { cls := 35, slots := #[.int (113)], vm := .none },
  { cls := 35, slots := #[.int (114)], vm := .none },
  { cls := 35, slots := #[.int (115)], vm := .none },
  { cls := 35, slots := #[.int (116)], vm := .none },
  { cls := 35, slots := #[.int (117)], vm := .none },
  { cls := 35, slots := #[.int (118)], vm := .none },
  { cls := 35, slots := #[.int (119)], vm := .none },
  { cls := 35, slots := #[.int (120)], vm := .none },
  { cls := 35, slots := #[.int (121)], vm := .none },
  { cls := 35, slots := #[.int (122)], vm := .none },
  { cls := 35, slots := #[.int (123)], vm := .none },
  { cls := 35, slots := #[.int (124)], vm := .none },
  { cls := 35, slots := #[.int (125)], vm := .none },
  { cls := 35, slots := #[.int (126)], vm := .none },
  { cls := 35, slots := #[.int (127)], vm := .none },
  { cls := 15, slots := #[.int 0], vm := .none },
  { cls := 0, slots := #[], vm := .none },
  { cls := 39, slots := #[.null, .int 0], vm := .none },
  { cls := 15, slots := #[.int 1], vm := .none }]
def classes : Array Class := #[k0, k1, k2, k3, k4, k5, k6, k7, k8, k9, k10, k11, k12, k13, k14, k15, k16, k17, k18, k19, k20, k21, k22, k23, k24, k25, k26, k27, k28, k29, k30, k31, k32, k33, k34, k35, k36, k37, k38, k39, k40, k41, k42, k43, k44, k45, k46, k47, k48, k49]
def interned : List (Array UInt16 × Addr) := []
def slotsUsed : Nat := 535
def theMethod : MethodId := ⟨1, 1⟩
def args0 : Array Value := #[.int 1]
def aboutOver (below : List Frame) : State where
  vm := { classes := classes, interned := interned.toArray }
  heap := heap
  slotsUsed := slotsUsed
  threads := #[{ frames := .invoking theMethod args0 :: below }]
def below0 : List Frame := [.native { method := ⟨0, 0⟩, args := #[] }]
def about1 : State := aboutOver below0
def p0 : Program := .bare "" "" ""
def e0 : Env := launch0.env 0 0 0
theorem w_frames : about1.frames = Frame.invoking theMethod args0 :: below0 := rfl
set_option maxRecDepth 65536 in
theorem w_args : argsFit about1.vm theMethod args0 = true := by decide +kernel
set_option maxRecDepth 65536 in
theorem w_heap : heapFits about1 = true := by decide +kernel
set_option maxRecDepth 65536 in
theorem w_runnable : about1.curStatus? = some .runnable := by decide +kernel
set_option maxRecDepth 65536 in
theorem w_alone : about1.alone = true := by decide +kernel
set_option maxRecDepth 65536 in
theorem w_named : about1.methodNamed? x = some theMethod := by decide +kernel
set_option maxRecDepth 65536 in
theorem w_hears : about1.hears theMethod below0 = true := by decide +kernel
set_option maxRecDepth 65536 in
theorem w_ripe : about1.ripe theMethod args0 below0 = true := by decide +kernel
theorem w_running : about1.status = .running := rfl
set_option maxRecDepth 65536 in
theorem w_room : about1.hasRoom e0.platform room_1 = true :=
  launch0.hasRoom_least _ room_1 (by decide +kernel) (by decide +kernel) (by decide +kernel) (by decide +kernel) (by decide +kernel) (by decide +kernel)
theorem allAtoms_all (ts : List Jvm.Cond) (a : Array Jvm.Value) (st : Jvm.State) : (allAtoms ts).before a st = ts.all (fun c => c.before a st) := by
  induction ts with
  | nil => rfl
  | cons c t ih =>
    show (Jvm.Cond.and c (allAtoms t)).before a st = _
    rw [Jvm.Cond.before_and, ih, List.all_cons]
def words1 : List Jvm.Cond := Jvm.Cond.code x code maxLocals ret :: tables_1
/-- a 'code' word, met by the world's own term for the bytes: nothing is compared byte by byte -/
theorem code_word {y : MethodName} {bytes : ByteArray} {mx : Nat} {rt : Option FieldType} {a : Array Value} {s : State} {m : MethodId} {meth : Method} {c : Code} (h1 : s.methodNamed? y = some m) (h2 : s.vm.method? m = some meth) (h3 : meth.code = some c) (h4 : c.code = bytes)
    (h5 : (c.maxLocals == mx && c.exceptionTable.isEmpty && decide (c.maxStack ≤ mostOperands) && decide (meth.sig.returnType = rt) && !meth.locks && decide (parseMethodDescriptor y.desc = some meth.sig)) = true) : (Jvm.Cond.code y bytes mx rt).before a s = true := by
  simp only [Bool.and_eq_true, beq_iff_eq, Bool.not_eq_true', decide_eq_true_eq] at h5
  obtain ⟨⟨⟨⟨⟨g1, g2⟩, g3⟩, g4⟩, g5⟩, g6⟩ := h5
  simp [Cond.before, Cond.holds, Cond.value, h1, h2, h3, h4, g1, g2, g3, g4, g5, g6]
def isCode : Jvm.Cond → Bool
  | .code _ _ _ _ => true
  | _ => false
theorem all_split {L : List Jvm.Cond} {P : Jvm.Cond → Bool} (h1 : L.all (fun c => isCode c || P c) = true) (h2 : ∀ c ∈ L.filter isCode, P c = true) : L.all P = true := by
  refine List.all_eq_true.mpr fun c hc => ?_
  have h := List.all_eq_true.mp h1 c hc
  rcases Bool.eq_false_or_eq_true (isCode c) with hi | hi
  · exact h2 c (List.mem_filter.mpr ⟨hc, hi⟩)
  · simpa [hi] using h
set_option maxRecDepth 65536 in
theorem w_c0 : (Jvm.Cond.code x code maxLocals ret).before args0 about1 = true := code_word (m := ⟨1, 1⟩) (meth := k1m1) (c := k1c1) (by decide +kernel) rfl rfl rfl (by decide +kernel)
set_option maxRecDepth 65536 in
theorem w_c1 : (Jvm.Cond.code ({ cls := "com/example/meerkat/meerkat/model/Circuit$Builder", name := "<init>", desc := "()V" } : Jvm.MethodName) prog_21_method_1_code (1 : Nat) (Option.none : Option Jvm.ClassFile.FieldType)).before args0 about1 = true := code_word (m := ⟨2, 0⟩) (meth := k2m0) (c := k2c0) (by decide +kernel) rfl rfl rfl (by decide +kernel)
set_option maxRecDepth 65536 in
theorem w_c2 : (Jvm.Cond.code ({ cls := "java/lang/Object", name := "<init>", desc := "()V" } : Jvm.MethodName) object_method_1_code (1 : Nat) (Option.none : Option Jvm.ClassFile.FieldType)).before args0 about1 = true := code_word (m := ⟨0, 0⟩) (meth := k0m0) (c := k0c0) (by decide +kernel) rfl rfl rfl (by decide +kernel)
set_option maxRecDepth 65536 in
theorem w_c3 : (Jvm.Cond.code ({ cls := "java/lang/Boolean", name := "valueOf", desc := "(Z)Ljava/lang/Boolean;" } : Jvm.MethodName) jdk_2055_method_5_code (1 : Nat) (Option.some (Jvm.ClassFile.FieldType.object "java/lang/Boolean"))).before args0 about1 = true := code_word (m := ⟨15, 1⟩) (meth := k15m1) (c := k15c1) (by decide +kernel) rfl rfl rfl (by decide +kernel)
set_option maxRecDepth 65536 in
theorem w_c4 : (Jvm.Cond.code ({ cls := "java/util/List", name := "of", desc := "(Ljava/lang/Object;Ljava/lang/Object;)Ljava/util/List;" } : Jvm.MethodName) jdk_40_method_38_code (2 : Nat) (Option.some (Jvm.ClassFile.FieldType.object "java/util/List"))).before args0 about1 = true := code_word (m := ⟨7, 3⟩) (meth := k7m3) (c := k7c3) (by decide +kernel) rfl rfl rfl (by decide +kernel)
set_option maxRecDepth 65536 in
theorem w_c5 : (Jvm.Cond.code ({ cls := "java/util/ImmutableCollections$List12", name := "<init>", desc := "(Ljava/lang/Object;Ljava/lang/Object;)V" } : Jvm.MethodName) jdk_44_method_2_code (3 : Nat) (Option.none : Option Jvm.ClassFile.FieldType)).before args0 about1 = true := code_word (m := ⟨18, 0⟩) (meth := k18m0) (c := k18c0) (by decide +kernel) rfl rfl rfl (by decide +kernel)
set_option maxRecDepth 65536 in
theorem w_c6 : (Jvm.Cond.code ({ cls := "java/util/ImmutableCollections$AbstractImmutableList", name := "<init>", desc := "()V" } : Jvm.MethodName) jdk_46_method_1_code (1 : Nat) (Option.none : Option Jvm.ClassFile.FieldType)).before args0 about1 = true := code_word (m := ⟨17, 0⟩) (meth := k17m0) (c := k17c0) (by decide +kernel) rfl rfl rfl (by decide +kernel)
set_option maxRecDepth 65536 in
theorem w_c7 : (Jvm.Cond.code ({ cls := "java/util/ImmutableCollections$AbstractImmutableCollection", name := "<init>", desc := "()V" } : Jvm.MethodName) jdk_47_method_1_code (1 : Nat) (Option.none : Option Jvm.ClassFile.FieldType)).before args0 about1 = true := code_word (m := ⟨16, 0⟩) (meth := k16m0) (c := k16c0) (by decide +kernel) rfl rfl rfl (by decide +kernel)
set_option maxRecDepth 65536 in
theorem w_c8 : (Jvm.Cond.code ({ cls := "java/util/AbstractCollection", name := "<init>", desc := "()V" } : Jvm.MethodName) jdk_22_method_1_code (1 : Nat) (Option.none : Option Jvm.ClassFile.FieldType)).before args0 about1 = true := code_word (m := ⟨5, 0⟩) (meth := k5m0) (c := k5c0) (by decide +kernel) rfl rfl rfl (by decide +kernel)
set_option maxRecDepth 65536 in
theorem w_c9 : (Jvm.Cond.code ({ cls := "java/util/Objects", name := "requireNonNull", desc := "(Ljava/lang/Object;)Ljava/lang/Object;" } : Jvm.MethodName) jdk_31_method_10_code (1 : Nat) (Option.some (Jvm.ClassFile.FieldType.object "java/lang/Object"))).before args0 about1 = true := code_word (m := ⟨19, 1⟩) (meth := k19m1) (c := k19c1) (by decide +kernel) rfl rfl rfl (by decide +kernel)
set_option maxRecDepth 65536 in
theorem w_c10 : (Jvm.Cond.code ({ cls := "java/util/ArrayList", name := "<init>", desc := "(Ljava/util/Collection;)V" } : Jvm.MethodName) jdk_38_method_3_code (3 : Nat) (Option.none : Option Jvm.ClassFile.FieldType)).before args0 about1 = true := code_word (m := ⟨12, 1⟩) (meth := k12m1) (c := k12c1) (by decide +kernel) rfl rfl rfl (by decide +kernel)
set_option maxRecDepth 65536 in
theorem w_c11 : (Jvm.Cond.code ({ cls := "java/util/AbstractList", name := "<init>", desc := "()V" } : Jvm.MethodName) jdk_39_method_1_code (1 : Nat) (Option.none : Option Jvm.ClassFile.FieldType)).before args0 about1 = true := code_word (m := ⟨8, 0⟩) (meth := k8m0) (c := k8c0) (by decide +kernel) rfl rfl rfl (by decide +kernel)
set_option maxRecDepth 65536 in
theorem w_c12 : (Jvm.Cond.code ({ cls := "java/util/ImmutableCollections$List12", name := "toArray", desc := "()[Ljava/lang/Object;" } : Jvm.MethodName) jdk_44_method_10_code (1 : Nat) (Option.some (Jvm.ClassFile.FieldType.array (Jvm.ClassFile.FieldType.object "java/lang/Object")))).before args0 about1 = true := code_word (m := ⟨18, 1⟩) (meth := k18m1) (c := k18c1) (by decide +kernel) rfl rfl rfl (by decide +kernel)
set_option maxRecDepth 65536 in
theorem w_c13 : (Jvm.Cond.code ({ cls := "java/util/Arrays", name := "copyOf", desc := "([Ljava/lang/Object;ILjava/lang/Class;)[Ljava/lang/Object;" } : Jvm.MethodName) jdk_65_method_120_code (4 : Nat) (Option.some (Jvm.ClassFile.FieldType.array (Jvm.ClassFile.FieldType.object "java/lang/Object")))).before args0 about1 = true := code_word (m := ⟨21, 5⟩) (meth := k21m5) (c := k21c5) (by decide +kernel) rfl rfl rfl (by decide +kernel)
set_option maxRecDepth 65536 in
theorem w_c14 : (Jvm.Cond.code ({ cls := "java/lang/Math", name := "min", desc := "(II)I" } : Jvm.MethodName) jdk_29_method_69_code (2 : Nat) (Option.some Jvm.ClassFile.FieldType.int)).before args0 about1 = true := code_word (m := ⟨22, 3⟩) (meth := k22m3) (c := k22c3) (by decide +kernel) rfl rfl rfl (by decide +kernel)
set_option maxRecDepth 65536 in
theorem w_c15 : (Jvm.Cond.code ({ cls := "java/util/HashMap", name := "<init>", desc := "()V" } : Jvm.MethodName) jdk_69_method_7_code (1 : Nat) (Option.none : Option Jvm.ClassFile.FieldType)).before args0 about1 = true := code_word (m := ⟨26, 1⟩) (meth := k26m1) (c := k26c1) (by decide +kernel) rfl rfl rfl (by decide +kernel)
set_option maxRecDepth 65536 in
theorem w_c16 : (Jvm.Cond.code ({ cls := "java/util/AbstractMap", name := "<init>", desc := "()V" } : Jvm.MethodName) jdk_71_method_1_code (1 : Nat) (Option.none : Option Jvm.ClassFile.FieldType)).before args0 about1 = true := code_word (m := ⟨25, 0⟩) (meth := k25m0) (c := k25c0) (by decide +kernel) rfl rfl rfl (by decide +kernel)
set_option maxRecDepth 65536 in
theorem w_c17 : (Jvm.Cond.code ({ cls := "com/example/meerkat/meerkat/model/Circuit$Builder", name := "input", desc := "()I" } : Jvm.MethodName) prog_21_method_2_code (1 : Nat) (Option.some Jvm.ClassFile.FieldType.int)).before args0 about1 = true := code_word (m := ⟨2, 1⟩) (meth := k2m1) (c := k2c1) (by decide +kernel) rfl rfl rfl (by decide +kernel)
set_option maxRecDepth 65536 in
theorem w_c18 : (Jvm.Cond.code ({ cls := "java/util/ArrayList", name := "add", desc := "(Ljava/lang/Object;)Z" } : Jvm.MethodName) jdk_38_method_25_code (2 : Nat) (Option.some Jvm.ClassFile.FieldType.boolean)).before args0 about1 = true := code_word (m := ⟨12, 8⟩) (meth := k12m8) (c := k12c8) (by decide +kernel) rfl rfl rfl (by decide +kernel)
set_option maxRecDepth 65536 in
theorem w_c19 : (Jvm.Cond.code ({ cls := "java/util/ArrayList", name := "add", desc := "(Ljava/lang/Object;[Ljava/lang/Object;I)V" } : Jvm.MethodName) jdk_38_method_24_code (4 : Nat) (Option.none : Option Jvm.ClassFile.FieldType)).before args0 about1 = true := code_word (m := ⟨12, 7⟩) (meth := k12m7) (c := k12c7) (by decide +kernel) rfl rfl rfl (by decide +kernel)
set_option maxRecDepth 65536 in
theorem w_c20 : (Jvm.Cond.code ({ cls := "java/util/ArrayList", name := "grow", desc := "()[Ljava/lang/Object;" } : Jvm.MethodName) jdk_38_method_7_code (1 : Nat) (Option.some (Jvm.ClassFile.FieldType.array (Jvm.ClassFile.FieldType.object "java/lang/Object")))).before args0 about1 = true := code_word (m := ⟨12, 3⟩) (meth := k12m3) (c := k12c3) (by decide +kernel) rfl rfl rfl (by decide +kernel)
set_option maxRecDepth 65536 in
theorem w_c21 : (Jvm.Cond.code ({ cls := "java/util/ArrayList", name := "grow", desc := "(I)[Ljava/lang/Object;" } : Jvm.MethodName) jdk_38_method_6_code (4 : Nat) (Option.some (Jvm.ClassFile.FieldType.array (Jvm.ClassFile.FieldType.object "java/lang/Object")))).before args0 about1 = true := code_word (m := ⟨12, 2⟩) (meth := k12m2) (c := k12c2) (by decide +kernel) rfl rfl rfl (by decide +kernel)
set_option maxRecDepth 65536 in
theorem w_c22 : (Jvm.Cond.code ({ cls := "jdk/internal/util/ArraysSupport", name := "newLength", desc := "(III)I" } : Jvm.MethodName) jdk_48_method_27_code (4 : Nat) (Option.some Jvm.ClassFile.FieldType.int)).before args0 about1 = true := code_word (m := ⟨27, 3⟩) (meth := k27m3) (c := k27c3) (by decide +kernel) rfl rfl rfl (by decide +kernel)
set_option maxRecDepth 65536 in
theorem w_c23 : (Jvm.Cond.code ({ cls := "java/lang/Math", name := "max", desc := "(II)I" } : Jvm.MethodName) jdk_29_method_65_code (2 : Nat) (Option.some Jvm.ClassFile.FieldType.int)).before args0 about1 = true := code_word (m := ⟨22, 2⟩) (meth := k22m2) (c := k22c2) (by decide +kernel) rfl rfl rfl (by decide +kernel)
set_option maxRecDepth 65536 in
theorem w_c24 : (Jvm.Cond.code ({ cls := "java/util/Arrays", name := "copyOf", desc := "([Ljava/lang/Object;I)[Ljava/lang/Object;" } : Jvm.MethodName) jdk_65_method_119_code (2 : Nat) (Option.some (Jvm.ClassFile.FieldType.array (Jvm.ClassFile.FieldType.object "java/lang/Object")))).before args0 about1 = true := code_word (m := ⟨21, 4⟩) (meth := k21m4) (c := k21c4) (by decide +kernel) rfl rfl rfl (by decide +kernel)
set_option maxRecDepth 65536 in
theorem w_c25 : (Jvm.Cond.code ({ cls := "java/util/ArrayList", name := "size", desc := "()I" } : Jvm.MethodName) jdk_38_method_8_code (1 : Nat) (Option.some Jvm.ClassFile.FieldType.int)).before args0 about1 = true := code_word (m := ⟨12, 4⟩) (meth := k12m4) (c := k12c4) (by decide +kernel) rfl rfl rfl (by decide +kernel)
set_option maxRecDepth 65536 in
theorem w_c26 : (Jvm.Cond.code ({ cls := "com/example/meerkat/meerkat/model/Circuit$Builder", name := "build", desc := "()Lcom/example/meerkat/meerkat/model/Circuit;" } : Jvm.MethodName) prog_21_method_9_code (7 : Nat) (Option.some (Jvm.ClassFile.FieldType.object "com/example/meerkat/meerkat/model/Circuit"))).before args0 about1 = true := code_word (m := ⟨2, 3⟩) (meth := k2m3) (c := k2c3) (by decide +kernel) rfl rfl rfl (by decide +kernel)
set_option maxRecDepth 65536 in
theorem w_c27 : (Jvm.Cond.code ({ cls := "java/util/ArrayList", name := "get", desc := "(I)Ljava/lang/Object;" } : Jvm.MethodName) jdk_38_method_20_code (2 : Nat) (Option.some (Jvm.ClassFile.FieldType.object "java/lang/Object"))).before args0 about1 = true := code_word (m := ⟨12, 6⟩) (meth := k12m6) (c := k12c6) (by decide +kernel) rfl rfl rfl (by decide +kernel)
set_option maxRecDepth 65536 in
theorem w_c28 : (Jvm.Cond.code ({ cls := "java/util/Objects", name := "checkIndex", desc := "(II)I" } : Jvm.MethodName) jdk_31_method_17_code (2 : Nat) (Option.some Jvm.ClassFile.FieldType.int)).before args0 about1 = true := code_word (m := ⟨19, 2⟩) (meth := k19m2) (c := k19c2) (by decide +kernel) rfl rfl rfl (by decide +kernel)
set_option maxRecDepth 65536 in
theorem w_c29 : (Jvm.Cond.code ({ cls := "jdk/internal/util/Preconditions", name := "checkIndex", desc := "(IILjava/util/function/BiFunction;)I" } : Jvm.MethodName) jdk_41_method_11_code (3 : Nat) (Option.some Jvm.ClassFile.FieldType.int)).before args0 about1 = true := code_word (m := ⟨28, 1⟩) (meth := k28m1) (c := k28c1) (by decide +kernel) rfl rfl rfl (by decide +kernel)
set_option maxRecDepth 65536 in
theorem w_c30 : (Jvm.Cond.code ({ cls := "java/util/ArrayList", name := "elementData", desc := "(I)Ljava/lang/Object;" } : Jvm.MethodName) jdk_38_method_18_code (2 : Nat) (Option.some (Jvm.ClassFile.FieldType.object "java/lang/Object"))).before args0 about1 = true := code_word (m := ⟨12, 5⟩) (meth := k12m5) (c := k12c5) (by decide +kernel) rfl rfl rfl (by decide +kernel)
set_option maxRecDepth 65536 in
theorem w_c31 : (Jvm.Cond.code ({ cls := "java/lang/Boolean", name := "booleanValue", desc := "()Z" } : Jvm.MethodName) jdk_2055_method_4_code (1 : Nat) (Option.some Jvm.ClassFile.FieldType.boolean)).before args0 about1 = true := code_word (m := ⟨15, 0⟩) (meth := k15m0) (c := k15c0) (by decide +kernel) rfl rfl rfl (by decide +kernel)
set_option maxRecDepth 65536 in
theorem w_c32 : (Jvm.Cond.code ({ cls := "com/example/meerkat/meerkat/model/Circuit", name := "<init>", desc := "([Z[I[I)V" } : Jvm.MethodName) prog_20_method_1_code (4 : Nat) (Option.none : Option Jvm.ClassFile.FieldType)).before args0 about1 = true := code_word (m := ⟨29, 0⟩) (meth := k29m0) (c := k29c0) (by decide +kernel) rfl rfl rfl (by decide +kernel)
set_option maxRecDepth 65536 in
theorem w_c33 : (Jvm.Cond.code ({ cls := "com/example/meerkat/meerkat/model/Circuit", name := "nodeCount", desc := "()I" } : Jvm.MethodName) prog_20_method_2_code (1 : Nat) (Option.some Jvm.ClassFile.FieldType.int)).before args0 about1 = true := code_word (m := ⟨29, 1⟩) (meth := k29m1) (c := k29c1) (by decide +kernel) rfl rfl rfl (by decide +kernel)
set_option maxRecDepth 65536 in
theorem w_c34 : (Jvm.Cond.code ({ cls := "com/example/meerkat/meerkat/model/Circuit", name := "isInput", desc := "(I)Z" } : Jvm.MethodName) prog_20_method_3_code (2 : Nat) (Option.some Jvm.ClassFile.FieldType.boolean)).before args0 about1 = true := code_word (m := ⟨29, 2⟩) (meth := k29m2) (c := k29c2) (by decide +kernel) rfl rfl rfl (by decide +kernel)
set_option maxRecDepth 65536 in
theorem w_c35 : (Jvm.Cond.code ({ cls := "com/example/meerkat/meerkat/model/Circuit", name := "childCount", desc := "(I)I" } : Jvm.MethodName) prog_20_method_4_code (2 : Nat) (Option.some Jvm.ClassFile.FieldType.int)).before args0 about1 = true := code_word (m := ⟨29, 3⟩) (meth := k29m3) (c := k29c3) (by decide +kernel) rfl rfl rfl (by decide +kernel)
set_option maxRecDepth 65536 in
theorem w_c36 : (Jvm.Cond.code ({ cls := "com/example/meerkat/meerkat/model/Circuit$Builder", name := "and", desc := "([I)I" } : Jvm.MethodName) prog_21_method_3_code (10 : Nat) (Option.some Jvm.ClassFile.FieldType.int)).before args0 about1 = true := code_word (m := ⟨2, 2⟩) (meth := k2m2) (c := k2c2) (by decide +kernel) rfl rfl rfl (by decide +kernel)
set_option maxRecDepth 65536 in
theorem w_c37 : (Jvm.Cond.code ({ cls := "java/lang/Math", name := "abs", desc := "(I)I" } : Jvm.MethodName) jdk_29_method_59_code (1 : Nat) (Option.some Jvm.ClassFile.FieldType.int)).before args0 about1 = true := code_word (m := ⟨22, 1⟩) (meth := k22m1) (c := k22c1) (by decide +kernel) rfl rfl rfl (by decide +kernel)
set_option maxRecDepth 65536 in
theorem w_c38 : (Jvm.Cond.code ({ cls := "java/util/Arrays", name := "sort", desc := "([I)V" } : Jvm.MethodName) jdk_65_method_2_code (1 : Nat) (Option.none : Option Jvm.ClassFile.FieldType)).before args0 about1 = true := code_word (m := ⟨21, 1⟩) (meth := k21m1) (c := k21c1) (by decide +kernel) rfl rfl rfl (by decide +kernel)
set_option maxRecDepth 65536 in
theorem w_c39 : (Jvm.Cond.code ({ cls := "java/util/DualPivotQuicksort", name := "sort", desc := "([IIII)V" } : Jvm.MethodName) jdk_2529_method_3_code (7 : Nat) (Option.none : Option Jvm.ClassFile.FieldType)).before args0 about1 = true := code_word (m := ⟨30, 1⟩) (meth := k30m1) (c := k30c1) (by decide +kernel) rfl rfl rfl (by decide +kernel)
set_option maxRecDepth 65536 in
theorem w_c40 : (Jvm.Cond.code ({ cls := "java/util/DualPivotQuicksort", name := "sort", desc := "(Ljava/util/DualPivotQuicksort$Sorter;[IIII)V" } : Jvm.MethodName) jdk_2529_method_4_code (21 : Nat) (Option.none : Option Jvm.ClassFile.FieldType)).before args0 about1 = true := code_word (m := ⟨30, 2⟩) (meth := k30m2) (c := k30c2) (by decide +kernel) rfl rfl rfl (by decide +kernel)
set_option maxRecDepth 65536 in
theorem w_c41 : (Jvm.Cond.code ({ cls := "java/util/DualPivotQuicksort", name := "insertionSort", desc := "([III)V" } : Jvm.MethodName) jdk_2529_method_6_code (6 : Nat) (Option.none : Option Jvm.ClassFile.FieldType)).before args0 about1 = true := code_word (m := ⟨30, 3⟩) (meth := k30m3) (c := k30c3) (by decide +kernel) rfl rfl rfl (by decide +kernel)
set_option maxRecDepth 65536 in
theorem w_c42 : (Jvm.Cond.code ({ cls := "java/util/Arrays", name := "binarySearch", desc := "([II)I" } : Jvm.MethodName) jdk_65_method_57_code (2 : Nat) (Option.some Jvm.ClassFile.FieldType.int)).before args0 about1 = true := code_word (m := ⟨21, 2⟩) (meth := k21m2) (c := k21c2) (by decide +kernel) rfl rfl rfl (by decide +kernel)
set_option maxRecDepth 65536 in
theorem w_c43 : (Jvm.Cond.code ({ cls := "java/util/Arrays", name := "binarySearch0", desc := "([IIII)I" } : Jvm.MethodName) jdk_65_method_59_code (8 : Nat) (Option.some Jvm.ClassFile.FieldType.int)).before args0 about1 = true := code_word (m := ⟨21, 3⟩) (meth := k21m3) (c := k21c3) (by decide +kernel) rfl rfl rfl (by decide +kernel)
set_option maxRecDepth 65536 in
theorem w_c44 : (Jvm.Cond.code ({ cls := "java/util/Arrays", name := "copyOf", desc := "([II)[I" } : Jvm.MethodName) jdk_65_method_123_code (3 : Nat) (Option.some (Jvm.ClassFile.FieldType.array Jvm.ClassFile.FieldType.int))).before args0 about1 = true := code_word (m := ⟨21, 6⟩) (meth := k21m6) (c := k21c6) (by decide +kernel) rfl rfl rfl (by decide +kernel)
set_option maxRecDepth 65536 in
theorem w_c45 : (Jvm.Cond.code ({ cls := "com/example/meerkat/meerkat/model/Circuit$Builder", name := "gate", desc := "([I)I" } : Jvm.MethodName) prog_21_method_10_code (4 : Nat) (Option.some Jvm.ClassFile.FieldType.int)).before args0 about1 = true := code_word (m := ⟨2, 4⟩) (meth := k2m4) (c := k2c4) (by decide +kernel) rfl rfl rfl (by decide +kernel)
set_option maxRecDepth 65536 in
theorem w_c46 : (Jvm.Cond.code ({ cls := "com/example/meerkat/meerkat/model/Circuit$Gate", name := "<init>", desc := "([I)V" } : Jvm.MethodName) prog_23_method_1_code (2 : Nat) (Option.none : Option Jvm.ClassFile.FieldType)).before args0 about1 = true := code_word (m := ⟨32, 0⟩) (meth := k32m0) (c := k32c0) (by decide +kernel) rfl rfl rfl (by decide +kernel)
set_option maxRecDepth 65536 in
theorem w_c47 : (Jvm.Cond.code ({ cls := "java/lang/Record", name := "<init>", desc := "()V" } : Jvm.MethodName) jdk_30_method_1_code (1 : Nat) (Option.none : Option Jvm.ClassFile.FieldType)).before args0 about1 = true := code_word (m := ⟨31, 0⟩) (meth := k31m0) (c := k31c0) (by decide +kernel) rfl rfl rfl (by decide +kernel)
set_option maxRecDepth 65536 in
theorem w_c48 : (Jvm.Cond.code ({ cls := "java/util/HashMap", name := "get", desc := "(Ljava/lang/Object;)Ljava/lang/Object;" } : Jvm.MethodName) jdk_69_method_12_code (3 : Nat) (Option.some (Jvm.ClassFile.FieldType.object "java/lang/Object"))).before args0 about1 = true := code_word (m := ⟨26, 2⟩) (meth := k26m2) (c := k26c2) (by decide +kernel) rfl rfl rfl (by decide +kernel)
set_option maxRecDepth 65536 in
theorem w_c49 : (Jvm.Cond.code ({ cls := "java/util/HashMap", name := "getNode", desc := "(Ljava/lang/Object;)Ljava/util/HashMap$Node;" } : Jvm.MethodName) jdk_69_method_13_code (8 : Nat) (Option.some (Jvm.ClassFile.FieldType.object "java/util/HashMap$Node"))).before args0 about1 = true := code_word (m := ⟨26, 3⟩) (meth := k26m3) (c := k26c3) (by decide +kernel) rfl rfl rfl (by decide +kernel)
set_option maxRecDepth 65536 in
theorem w_c50 : (Jvm.Cond.code ({ cls := "java/lang/Integer", name := "valueOf", desc := "(I)Ljava/lang/Integer;" } : Jvm.MethodName) jdk_33_method_22_code (1 : Nat) (Option.some (Jvm.ClassFile.FieldType.object "java/lang/Integer"))).before args0 about1 = true := code_word (m := ⟨35, 0⟩) (meth := k35m0) (c := k35c0) (by decide +kernel) rfl rfl rfl (by decide +kernel)
set_option maxRecDepth 65536 in
theorem w_c51 : (Jvm.Cond.code ({ cls := "java/util/HashMap", name := "put", desc := "(Ljava/lang/Object;Ljava/lang/Object;)Ljava/lang/Object;" } : Jvm.MethodName) jdk_69_method_15_code (3 : Nat) (Option.some (Jvm.ClassFile.FieldType.object "java/lang/Object"))).before args0 about1 = true := code_word (m := ⟨26, 4⟩) (meth := k26m4) (c := k26c4) (by decide +kernel) rfl rfl rfl (by decide +kernel)
set_option maxRecDepth 65536 in
theorem w_c52 : (Jvm.Cond.code ({ cls := "java/util/HashMap", name := "hash", desc := "(Ljava/lang/Object;)I" } : Jvm.MethodName) jdk_69_method_1_code (2 : Nat) (Option.some Jvm.ClassFile.FieldType.int)).before args0 about1 = true := code_word (m := ⟨26, 0⟩) (meth := k26m0) (c := k26c0) (by decide +kernel) rfl rfl rfl (by decide +kernel)
set_option maxRecDepth 65536 in
theorem w_c53 : (Jvm.Cond.code ({ cls := "com/example/meerkat/meerkat/model/Circuit$Gate", name := "hashCode", desc := "()I" } : Jvm.MethodName) prog_23_method_3_code (1 : Nat) (Option.some Jvm.ClassFile.FieldType.int)).before args0 about1 = true := code_word (m := ⟨32, 1⟩) (meth := k32m1) (c := k32c1) (by decide +kernel) rfl rfl rfl (by decide +kernel)
set_option maxRecDepth 65536 in
theorem w_c54 : (Jvm.Cond.code ({ cls := "java/util/Arrays", name := "hashCode", desc := "([I)I" } : Jvm.MethodName) jdk_65_method_150_code (1 : Nat) (Option.some Jvm.ClassFile.FieldType.int)).before args0 about1 = true := code_word (m := ⟨21, 7⟩) (meth := k21m7) (c := k21c7) (by decide +kernel) rfl rfl rfl (by decide +kernel)
set_option maxRecDepth 65536 in
theorem w_c55 : (Jvm.Cond.code ({ cls := "jdk/internal/util/ArraysSupport", name := "vectorizedHashCode", desc := "(Ljava/lang/Object;IIII)I" } : Jvm.MethodName) jdk_48_method_4_code (5 : Nat) (Option.some Jvm.ClassFile.FieldType.int)).before args0 about1 = true := code_word (m := ⟨27, 1⟩) (meth := k27m1) (c := k27c1) (by decide +kernel) rfl rfl rfl (by decide +kernel)
set_option maxRecDepth 65536 in
theorem w_c56 : (Jvm.Cond.code ({ cls := "jdk/internal/util/ArraysSupport", name := "hashCode", desc := "(I[III)I" } : Jvm.MethodName) jdk_48_method_9_code (6 : Nat) (Option.some Jvm.ClassFile.FieldType.int)).before args0 about1 = true := code_word (m := ⟨27, 2⟩) (meth := k27m2) (c := k27c2) (by decide +kernel) rfl rfl rfl (by decide +kernel)
set_option maxRecDepth 65536 in
theorem w_c57 : (Jvm.Cond.code ({ cls := "java/util/HashMap", name := "putVal", desc := "(ILjava/lang/Object;Ljava/lang/Object;ZZ)Ljava/lang/Object;" } : Jvm.MethodName) jdk_69_method_16_code (13 : Nat) (Option.some (Jvm.ClassFile.FieldType.object "java/lang/Object"))).before args0 about1 = true := code_word (m := ⟨26, 5⟩) (meth := k26m5) (c := k26c5) (by decide +kernel) rfl rfl rfl (by decide +kernel)
set_option maxRecDepth 65536 in
theorem w_c58 : (Jvm.Cond.code ({ cls := "java/util/HashMap", name := "resize", desc := "()[Ljava/util/HashMap$Node;" } : Jvm.MethodName) jdk_69_method_17_code (14 : Nat) (Option.some (Jvm.ClassFile.FieldType.array (Jvm.ClassFile.FieldType.object "java/util/HashMap$Node")))).before args0 about1 = true := code_word (m := ⟨26, 6⟩) (meth := k26m6) (c := k26c6) (by decide +kernel) rfl rfl rfl (by decide +kernel)
set_option maxRecDepth 65536 in
theorem w_c59 : (Jvm.Cond.code ({ cls := "java/util/HashMap", name := "newNode", desc := "(ILjava/lang/Object;Ljava/lang/Object;Ljava/util/HashMap$Node;)Ljava/util/HashMap$Node;" } : Jvm.MethodName) jdk_69_method_46_code (5 : Nat) (Option.some (Jvm.ClassFile.FieldType.object "java/util/HashMap$Node"))).before args0 about1 = true := code_word (m := ⟨26, 7⟩) (meth := k26m7) (c := k26c7) (by decide +kernel) rfl rfl rfl (by decide +kernel)
set_option maxRecDepth 65536 in
theorem w_c60 : (Jvm.Cond.code ({ cls := "java/util/HashMap$Node", name := "<init>", desc := "(ILjava/lang/Object;Ljava/lang/Object;Ljava/util/HashMap$Node;)V" } : Jvm.MethodName) jdk_70_method_1_code (5 : Nat) (Option.none : Option Jvm.ClassFile.FieldType)).before args0 about1 = true := code_word (m := ⟨38, 0⟩) (meth := k38m0) (c := k38c0) (by decide +kernel) rfl rfl rfl (by decide +kernel)
set_option maxRecDepth 65536 in
theorem w_c61 : (Jvm.Cond.code ({ cls := "java/util/HashMap", name := "afterNodeInsertion", desc := "(Z)V" } : Jvm.MethodName) jdk_69_method_52_code (2 : Nat) (Option.none : Option Jvm.ClassFile.FieldType)).before args0 about1 = true := code_word (m := ⟨26, 8⟩) (meth := k26m8) (c := k26c8) (by decide +kernel) rfl rfl rfl (by decide +kernel)
set_option maxRecDepth 65536 in
theorem w_c62 : (Jvm.Cond.code ({ cls := "java/lang/Integer", name := "intValue", desc := "()I" } : Jvm.MethodName) jdk_33_method_27_code (1 : Nat) (Option.some Jvm.ClassFile.FieldType.int)).before args0 about1 = true := code_word (m := ⟨35, 1⟩) (meth := k35m1) (c := k35c1) (by decide +kernel) rfl rfl rfl (by decide +kernel)
def codes1 : List Jvm.Cond := [Jvm.Cond.code x code maxLocals ret, Jvm.Cond.code ({ cls := "com/example/meerkat/meerkat/model/Circuit$Builder", name := "<init>", desc := "()V" } : Jvm.MethodName) prog_21_method_1_code (1 : Nat) (Option.none : Option Jvm.ClassFile.FieldType), Jvm.Cond.code ({ cls := "java/lang/Object", name := "<init>", desc := "()V" } : Jvm.MethodName) object_method_1_code (1 : Nat) (Option.none : Option Jvm.ClassFile.FieldType), Jvm.Cond.code ({ cls := "java/lang/Boolean", name := "valueOf", desc := "(Z)Ljava/lang/Boolean;" } : Jvm.MethodName) jdk_2055_method_5_code (1 : Nat) (Option.some (Jvm.ClassFile.FieldType.object "java/lang/Boolean")), Jvm.Cond.code ({ cls := "java/util/List", name := "of", desc := "(Ljava/lang/Object;Ljava/lang/Object;)Ljava/util/List;" } : Jvm.MethodName) jdk_40_method_38_code (2 : Nat) (Option.some (Jvm.ClassFile.FieldType.object "java/util/List")), Jvm.Cond.code ({ cls := "java/util/ImmutableCollections$List12", name := "<init>", desc := "(Ljava/lang/Object;Ljava/lang/Object;)V" } : Jvm.MethodName) jdk_44_method_2_code (3 : Nat) (Option.none : Option Jvm.ClassFile.FieldType), Jvm.Cond.code ({ cls := "java/util/ImmutableCollections$AbstractImmutableList", name := "<init>", desc := "()V" } : Jvm.MethodName) jdk_46_method_1_code (1 : Nat) (Option.none : Option Jvm.ClassFile.FieldType), Jvm.Cond.code ({ cls := "java/util/ImmutableCollections$AbstractImmutableCollection", name := "<init>", desc := "()V" } : Jvm.MethodName) jdk_47_method_1_code (1 : Nat) (Option.none : Option Jvm.ClassFile.FieldType), Jvm.Cond.code ({ cls := "java/util/AbstractCollection", name := "<init>", desc := "()V" } : Jvm.MethodName) jdk_22_method_1_code (1 : Nat) (Option.none : Option Jvm.ClassFile.FieldType), Jvm.Cond.code ({ cls := "java/util/Objects", name := "requireNonNull", desc := "(Ljava/lang/Object;)Ljava/lang/Object;" } : Jvm.MethodName) jdk_31_method_10_code (1 : Nat) (Option.some (Jvm.ClassFile.FieldType.object "java/lang/Object")), Jvm.Cond.code ({ cls := "java/util/ArrayList", name := "<init>", desc := "(Ljava/util/Collection;)V" } : Jvm.MethodName) jdk_38_method_3_code (3 : Nat) (Option.none : Option Jvm.ClassFile.FieldType), Jvm.Cond.code ({ cls := "java/util/AbstractList", name := "<init>", desc := "()V" } : Jvm.MethodName) jdk_39_method_1_code (1 : Nat) (Option.none : Option Jvm.ClassFile.FieldType), Jvm.Cond.code ({ cls := "java/util/ImmutableCollections$List12", name := "toArray", desc := "()[Ljava/lang/Object;" } : Jvm.MethodName) jdk_44_method_10_code (1 : Nat) (Option.some (Jvm.ClassFile.FieldType.array (Jvm.ClassFile.FieldType.object "java/lang/Object"))), Jvm.Cond.code ({ cls := "java/util/Arrays", name := "copyOf", desc := "([Ljava/lang/Object;ILjava/lang/Class;)[Ljava/lang/Object;" } : Jvm.MethodName) jdk_65_method_120_code (4 : Nat) (Option.some (Jvm.ClassFile.FieldType.array (Jvm.ClassFile.FieldType.object "java/lang/Object"))), Jvm.Cond.code ({ cls := "java/lang/Math", name := "min", desc := "(II)I" } : Jvm.MethodName) jdk_29_method_69_code (2 : Nat) (Option.some Jvm.ClassFile.FieldType.int), Jvm.Cond.code ({ cls := "java/util/HashMap", name := "<init>", desc := "()V" } : Jvm.MethodName) jdk_69_method_7_code (1 : Nat) (Option.none : Option Jvm.ClassFile.FieldType), Jvm.Cond.code ({ cls := "java/util/AbstractMap", name := "<init>", desc := "()V" } : Jvm.MethodName) jdk_71_method_1_code (1 : Nat) (Option.none : Option Jvm.ClassFile.FieldType), Jvm.Cond.code ({ cls := "com/example/meerkat/meerkat/model/Circuit$Builder", name := "input", desc := "()I" } : Jvm.MethodName) prog_21_method_2_code (1 : Nat) (Option.some Jvm.ClassFile.FieldType.int), Jvm.Cond.code ({ cls := "java/util/ArrayList", name := "add", desc := "(Ljava/lang/Object;)Z" } : Jvm.MethodName) jdk_38_method_25_code (2 : Nat) (Option.some Jvm.ClassFile.FieldType.boolean), Jvm.Cond.code ({ cls := "java/util/ArrayList", name := "add", desc := "(Ljava/lang/Object;[Ljava/lang/Object;I)V" } : Jvm.MethodName) jdk_38_method_24_code (4 : Nat) (Option.none : Option Jvm.ClassFile.FieldType), Jvm.Cond.code ({ cls := "java/util/ArrayList", name := "grow", desc := "()[Ljava/lang/Object;" } : Jvm.MethodName) jdk_38_method_7_code (1 : Nat) (Option.some (Jvm.ClassFile.FieldType.array (Jvm.ClassFile.FieldType.object "java/lang/Object"))), Jvm.Cond.code ({ cls := "java/util/ArrayList", name := "grow", desc := "(I)[Ljava/lang/Object;" } : Jvm.MethodName) jdk_38_method_6_code (4 : Nat) (Option.some (Jvm.ClassFile.FieldType.array (Jvm.ClassFile.FieldType.object "java/lang/Object"))), Jvm.Cond.code ({ cls := "jdk/internal/util/ArraysSupport", name := "newLength", desc := "(III)I" } : Jvm.MethodName) jdk_48_method_27_code (4 : Nat) (Option.some Jvm.ClassFile.FieldType.int), Jvm.Cond.code ({ cls := "java/lang/Math", name := "max", desc := "(II)I" } : Jvm.MethodName) jdk_29_method_65_code (2 : Nat) (Option.some Jvm.ClassFile.FieldType.int), Jvm.Cond.code ({ cls := "java/util/Arrays", name := "copyOf", desc := "([Ljava/lang/Object;I)[Ljava/lang/Object;" } : Jvm.MethodName) jdk_65_method_119_code (2 : Nat) (Option.some (Jvm.ClassFile.FieldType.array (Jvm.ClassFile.FieldType.object "java/lang/Object"))), Jvm.Cond.code ({ cls := "java/util/ArrayList", name := "size", desc := "()I" } : Jvm.MethodName) jdk_38_method_8_code (1 : Nat) (Option.some Jvm.ClassFile.FieldType.int), Jvm.Cond.code ({ cls := "com/example/meerkat/meerkat/model/Circuit$Builder", name := "build", desc := "()Lcom/example/meerkat/meerkat/model/Circuit;" } : Jvm.MethodName) prog_21_method_9_code (7 : Nat) (Option.some (Jvm.ClassFile.FieldType.object "com/example/meerkat/meerkat/model/Circuit")), Jvm.Cond.code ({ cls := "java/util/ArrayList", name := "get", desc := "(I)Ljava/lang/Object;" } : Jvm.MethodName) jdk_38_method_20_code (2 : Nat) (Option.some (Jvm.ClassFile.FieldType.object "java/lang/Object")), Jvm.Cond.code ({ cls := "java/util/Objects", name := "checkIndex", desc := "(II)I" } : Jvm.MethodName) jdk_31_method_17_code (2 : Nat) (Option.some Jvm.ClassFile.FieldType.int), Jvm.Cond.code ({ cls := "jdk/internal/util/Preconditions", name := "checkIndex", desc := "(IILjava/util/function/BiFunction;)I" } : Jvm.MethodName) jdk_41_method_11_code (3 : Nat) (Option.some Jvm.ClassFile.FieldType.int), Jvm.Cond.code ({ cls := "java/util/ArrayList", name := "elementData", desc := "(I)Ljava/lang/Object;" } : Jvm.MethodName) jdk_38_method_18_code (2 : Nat) (Option.some (Jvm.ClassFile.FieldType.object "java/lang/Object")), Jvm.Cond.code ({ cls := "java/lang/Boolean", name := "booleanValue", desc := "()Z" } : Jvm.MethodName) jdk_2055_method_4_code (1 : Nat) (Option.some Jvm.ClassFile.FieldType.boolean), Jvm.Cond.code ({ cls := "com/example/meerkat/meerkat/model/Circuit", name := "<init>", desc := "([Z[I[I)V" } : Jvm.MethodName) prog_20_method_1_code (4 : Nat) (Option.none : Option Jvm.ClassFile.FieldType), Jvm.Cond.code ({ cls := "com/example/meerkat/meerkat/model/Circuit", name := "nodeCount", desc := "()I" } : Jvm.MethodName) prog_20_method_2_code (1 : Nat) (Option.some Jvm.ClassFile.FieldType.int), Jvm.Cond.code ({ cls := "com/example/meerkat/meerkat/model/Circuit", name := "isInput", desc := "(I)Z" } : Jvm.MethodName) prog_20_method_3_code (2 : Nat) (Option.some Jvm.ClassFile.FieldType.boolean), Jvm.Cond.code ({ cls := "com/example/meerkat/meerkat/model/Circuit", name := "childCount", desc := "(I)I" } : Jvm.MethodName) prog_20_method_4_code (2 : Nat) (Option.some Jvm.ClassFile.FieldType.int), Jvm.Cond.code ({ cls := "com/example/meerkat/meerkat/model/Circuit$Builder", name := "and", desc := "([I)I" } : Jvm.MethodName) prog_21_method_3_code (10 : Nat) (Option.some Jvm.ClassFile.FieldType.int), Jvm.Cond.code ({ cls := "java/lang/Math", name := "abs", desc := "(I)I" } : Jvm.MethodName) jdk_29_method_59_code (1 : Nat) (Option.some Jvm.ClassFile.FieldType.int), Jvm.Cond.code ({ cls := "java/util/Arrays", name := "sort", desc := "([I)V" } : Jvm.MethodName) jdk_65_method_2_code (1 : Nat) (Option.none : Option Jvm.ClassFile.FieldType), Jvm.Cond.code ({ cls := "java/util/DualPivotQuicksort", name := "sort", desc := "([IIII)V" } : Jvm.MethodName) jdk_2529_method_3_code (7 : Nat) (Option.none : Option Jvm.ClassFile.FieldType), Jvm.Cond.code ({ cls := "java/util/DualPivotQuicksort", name := "sort", desc := "(Ljava/util/DualPivotQuicksort$Sorter;[IIII)V" } : Jvm.MethodName) jdk_2529_method_4_code (21 : Nat) (Option.none : Option Jvm.ClassFile.FieldType), Jvm.Cond.code ({ cls := "java/util/DualPivotQuicksort", name := "insertionSort", desc := "([III)V" } : Jvm.MethodName) jdk_2529_method_6_code (6 : Nat) (Option.none : Option Jvm.ClassFile.FieldType), Jvm.Cond.code ({ cls := "java/util/Arrays", name := "binarySearch", desc := "([II)I" } : Jvm.MethodName) jdk_65_method_57_code (2 : Nat) (Option.some Jvm.ClassFile.FieldType.int), Jvm.Cond.code ({ cls := "java/util/Arrays", name := "binarySearch0", desc := "([IIII)I" } : Jvm.MethodName) jdk_65_method_59_code (8 : Nat) (Option.some Jvm.ClassFile.FieldType.int), Jvm.Cond.code ({ cls := "java/util/Arrays", name := "copyOf", desc := "([II)[I" } : Jvm.MethodName) jdk_65_method_123_code (3 : Nat) (Option.some (Jvm.ClassFile.FieldType.array Jvm.ClassFile.FieldType.int)), Jvm.Cond.code ({ cls := "com/example/meerkat/meerkat/model/Circuit$Builder", name := "gate", desc := "([I)I" } : Jvm.MethodName) prog_21_method_10_code (4 : Nat) (Option.some Jvm.ClassFile.FieldType.int), Jvm.Cond.code ({ cls := "com/example/meerkat/meerkat/model/Circuit$Gate", name := "<init>", desc := "([I)V" } : Jvm.MethodName) prog_23_method_1_code (2 : Nat) (Option.none : Option Jvm.ClassFile.FieldType), Jvm.Cond.code ({ cls := "java/lang/Record", name := "<init>", desc := "()V" } : Jvm.MethodName) jdk_30_method_1_code (1 : Nat) (Option.none : Option Jvm.ClassFile.FieldType), Jvm.Cond.code ({ cls := "java/util/HashMap", name := "get", desc := "(Ljava/lang/Object;)Ljava/lang/Object;" } : Jvm.MethodName) jdk_69_method_12_code (3 : Nat) (Option.some (Jvm.ClassFile.FieldType.object "java/lang/Object")), Jvm.Cond.code ({ cls := "java/util/HashMap", name := "getNode", desc := "(Ljava/lang/Object;)Ljava/util/HashMap$Node;" } : Jvm.MethodName) jdk_69_method_13_code (8 : Nat) (Option.some (Jvm.ClassFile.FieldType.object "java/util/HashMap$Node")), Jvm.Cond.code ({ cls := "java/lang/Integer", name := "valueOf", desc := "(I)Ljava/lang/Integer;" } : Jvm.MethodName) jdk_33_method_22_code (1 : Nat) (Option.some (Jvm.ClassFile.FieldType.object "java/lang/Integer")), Jvm.Cond.code ({ cls := "java/util/HashMap", name := "put", desc := "(Ljava/lang/Object;Ljava/lang/Object;)Ljava/lang/Object;" } : Jvm.MethodName) jdk_69_method_15_code (3 : Nat) (Option.some (Jvm.ClassFile.FieldType.object "java/lang/Object")), Jvm.Cond.code ({ cls := "java/util/HashMap", name := "hash", desc := "(Ljava/lang/Object;)I" } : Jvm.MethodName) jdk_69_method_1_code (2 : Nat) (Option.some Jvm.ClassFile.FieldType.int), Jvm.Cond.code ({ cls := "com/example/meerkat/meerkat/model/Circuit$Gate", name := "hashCode", desc := "()I" } : Jvm.MethodName) prog_23_method_3_code (1 : Nat) (Option.some Jvm.ClassFile.FieldType.int), Jvm.Cond.code ({ cls := "java/util/Arrays", name := "hashCode", desc := "([I)I" } : Jvm.MethodName) jdk_65_method_150_code (1 : Nat) (Option.some Jvm.ClassFile.FieldType.int), Jvm.Cond.code ({ cls := "jdk/internal/util/ArraysSupport", name := "vectorizedHashCode", desc := "(Ljava/lang/Object;IIII)I" } : Jvm.MethodName) jdk_48_method_4_code (5 : Nat) (Option.some Jvm.ClassFile.FieldType.int), Jvm.Cond.code ({ cls := "jdk/internal/util/ArraysSupport", name := "hashCode", desc := "(I[III)I" } : Jvm.MethodName) jdk_48_method_9_code (6 : Nat) (Option.some Jvm.ClassFile.FieldType.int), Jvm.Cond.code ({ cls := "java/util/HashMap", name := "putVal", desc := "(ILjava/lang/Object;Ljava/lang/Object;ZZ)Ljava/lang/Object;" } : Jvm.MethodName) jdk_69_method_16_code (13 : Nat) (Option.some (Jvm.ClassFile.FieldType.object "java/lang/Object")), Jvm.Cond.code ({ cls := "java/util/HashMap", name := "resize", desc := "()[Ljava/util/HashMap$Node;" } : Jvm.MethodName) jdk_69_method_17_code (14 : Nat) (Option.some (Jvm.ClassFile.FieldType.array (Jvm.ClassFile.FieldType.object "java/util/HashMap$Node"))), Jvm.Cond.code ({ cls := "java/util/HashMap", name := "newNode", desc := "(ILjava/lang/Object;Ljava/lang/Object;Ljava/util/HashMap$Node;)Ljava/util/HashMap$Node;" } : Jvm.MethodName) jdk_69_method_46_code (5 : Nat) (Option.some (Jvm.ClassFile.FieldType.object "java/util/HashMap$Node")), Jvm.Cond.code ({ cls := "java/util/HashMap$Node", name := "<init>", desc := "(ILjava/lang/Object;Ljava/lang/Object;Ljava/util/HashMap$Node;)V" } : Jvm.MethodName) jdk_70_method_1_code (5 : Nat) (Option.none : Option Jvm.ClassFile.FieldType), Jvm.Cond.code ({ cls := "java/util/HashMap", name := "afterNodeInsertion", desc := "(Z)V" } : Jvm.MethodName) jdk_69_method_52_code (2 : Nat) (Option.none : Option Jvm.ClassFile.FieldType), Jvm.Cond.code ({ cls := "java/lang/Integer", name := "intValue", desc := "()I" } : Jvm.MethodName) jdk_33_method_27_code (1 : Nat) (Option.some Jvm.ClassFile.FieldType.int)]
set_option maxRecDepth 65536 in
theorem codes_eq : words1.filter isCode = codes1 := rfl
theorem w_codes : ∀ c ∈ words1.filter isCode, c.before args0 about1 = true := by
  rw [codes_eq]
  intro c hc
  simp only [codes1, List.mem_cons, List.not_mem_nil, or_false] at hc
  rcases hc with rfl | rfl | rfl | rfl | rfl | rfl | rfl | rfl | rfl | rfl | rfl | rfl | rfl | rfl | rfl | rfl | rfl | rfl | rfl | rfl | rfl | rfl | rfl | rfl | rfl | rfl | rfl | rfl | rfl | rfl | rfl | rfl | rfl | rfl | rfl | rfl | rfl | rfl | rfl | rfl | rfl | rfl | rfl | rfl | rfl | rfl | rfl | rfl | rfl | rfl | rfl | rfl | rfl | rfl | rfl | rfl | rfl | rfl | rfl | rfl | rfl | rfl | rfl
  · exact w_c0
  · exact w_c1
  · exact w_c2
  · exact w_c3
  · exact w_c4
  · exact w_c5
  · exact w_c6
  · exact w_c7
  · exact w_c8
  · exact w_c9
  · exact w_c10
  · exact w_c11
  · exact w_c12
  · exact w_c13
  · exact w_c14
  · exact w_c15
  · exact w_c16
  · exact w_c17
  · exact w_c18
  · exact w_c19
  · exact w_c20
  · exact w_c21
  · exact w_c22
  · exact w_c23
  · exact w_c24
  · exact w_c25
  · exact w_c26
  · exact w_c27
  · exact w_c28
  · exact w_c29
  · exact w_c30
  · exact w_c31
  · exact w_c32
  · exact w_c33
  · exact w_c34
  · exact w_c35
  · exact w_c36
  · exact w_c37
  · exact w_c38
  · exact w_c39
  · exact w_c40
  · exact w_c41
  · exact w_c42
  · exact w_c43
  · exact w_c44
  · exact w_c45
  · exact w_c46
  · exact w_c47
  · exact w_c48
  · exact w_c49
  · exact w_c50
  · exact w_c51
  · exact w_c52
  · exact w_c53
  · exact w_c54
  · exact w_c55
  · exact w_c56
  · exact w_c57
  · exact w_c58
  · exact w_c59
  · exact w_c60
  · exact w_c61
  · exact w_c62
set_option maxRecDepth 65536 in
theorem w_t1 : (words1.take 24).all (fun c => isCode c || c.before args0 about1) = true := by decide +kernel
set_option maxRecDepth 65536 in
theorem w_t2 : ((words1.drop 24).take 24).all (fun c => isCode c || c.before args0 about1) = true := by decide +kernel
set_option maxRecDepth 65536 in
theorem w_t3 : (((words1.drop 24).drop 24).take 24).all (fun c => isCode c || c.before args0 about1) = true := by decide +kernel
set_option maxRecDepth 65536 in
theorem w_t4 : ((((words1.drop 24).drop 24).drop 24).take 24).all (fun c => isCode c || c.before args0 about1) = true := by decide +kernel
set_option maxRecDepth 65536 in
theorem w_t5 : (((((words1.drop 24).drop 24).drop 24).drop 24).take 24).all (fun c => isCode c || c.before args0 about1) = true := by decide +kernel
set_option maxRecDepth 65536 in
theorem w_t6 : ((((((words1.drop 24).drop 24).drop 24).drop 24).drop 24).take 24).all (fun c => isCode c || c.before args0 about1) = true := by decide +kernel
set_option maxRecDepth 65536 in
theorem w_t7 : (((((((words1.drop 24).drop 24).drop 24).drop 24).drop 24).drop 24).take 24).all (fun c => isCode c || c.before args0 about1) = true := by decide +kernel
set_option maxRecDepth 65536 in
theorem w_t8 : ((((((((words1.drop 24).drop 24).drop 24).drop 24).drop 24).drop 24).drop 24).take 24).all (fun c => isCode c || c.before args0 about1) = true := by decide +kernel
set_option maxRecDepth 65536 in
theorem w_t9 : (((((((((words1.drop 24).drop 24).drop 24).drop 24).drop 24).drop 24).drop 24).drop 24).take 24).all (fun c => isCode c || c.before args0 about1) = true := by decide +kernel
set_option maxRecDepth 65536 in
theorem w_t10 : ((((((((((words1.drop 24).drop 24).drop 24).drop 24).drop 24).drop 24).drop 24).drop 24).drop 24).take 24).all (fun c => isCode c || c.before args0 about1) = true := by decide +kernel
set_option maxRecDepth 65536 in
theorem w_t11 : (((((((((((words1.drop 24).drop 24).drop 24).drop 24).drop 24).drop 24).drop 24).drop 24).drop 24).drop 24).take 24).all (fun c => isCode c || c.before args0 about1) = true := by decide +kernel
set_option maxRecDepth 65536 in
theorem w_t12 : ((((((((((((words1.drop 24).drop 24).drop 24).drop 24).drop 24).drop 24).drop 24).drop 24).drop 24).drop 24).drop 24).take 24).all (fun c => isCode c || c.before args0 about1) = true := by decide +kernel
set_option maxRecDepth 65536 in
theorem w_t13 : (((((((((((((words1.drop 24).drop 24).drop 24).drop 24).drop 24).drop 24).drop 24).drop 24).drop 24).drop 24).drop 24).drop 24).take 24).all (fun c => isCode c || c.before args0 about1) = true := by decide +kernel
set_option maxRecDepth 65536 in
theorem w_t14 : ((((((((((((((words1.drop 24).drop 24).drop 24).drop 24).drop 24).drop 24).drop 24).drop 24).drop 24).drop 24).drop 24).drop 24).drop 24).take 24).all (fun c => isCode c || c.before args0 about1) = true := by decide +kernel
set_option maxRecDepth 65536 in
theorem w_t15 : (((((((((((((((words1.drop 24).drop 24).drop 24).drop 24).drop 24).drop 24).drop 24).drop 24).drop 24).drop 24).drop 24).drop 24).drop 24).drop 24).take 24).all (fun c => isCode c || c.before args0 about1) = true := by decide +kernel
set_option maxRecDepth 65536 in
theorem w_t16 : ((((((((((((((((words1.drop 24).drop 24).drop 24).drop 24).drop 24).drop 24).drop 24).drop 24).drop 24).drop 24).drop 24).drop 24).drop 24).drop 24).drop 24).take 24).all (fun c => isCode c || c.before args0 about1) = true := by decide +kernel
set_option maxRecDepth 65536 in
theorem w_t17 : (((((((((((((((((words1.drop 24).drop 24).drop 24).drop 24).drop 24).drop 24).drop 24).drop 24).drop 24).drop 24).drop 24).drop 24).drop 24).drop 24).drop 24).drop 24).take 24).all (fun c => isCode c || c.before args0 about1) = true := by decide +kernel
set_option maxRecDepth 65536 in
theorem w_t18 : (((((((((((((((((words1.drop 24).drop 24).drop 24).drop 24).drop 24).drop 24).drop 24).drop 24).drop 24).drop 24).drop 24).drop 24).drop 24).drop 24).drop 24).drop 24).drop 24).all (fun c => isCode c || c.before args0 about1) = true := by decide +kernel
theorem w_tables : (allAtoms (Jvm.Cond.code x code maxLocals ret :: tables_1)).before args0 about1 = true := by
  rw [allAtoms_all]
  show words1.all (fun c => c.before args0 about1) = true
  refine all_split ?_ w_codes
  rw [← List.take_append_drop 24 words1, List.all_append, w_t1, ← List.take_append_drop 24 (words1.drop 24), List.all_append, w_t2, ← List.take_append_drop 24 ((words1.drop 24).drop 24), List.all_append, w_t3, ← List.take_append_drop 24 (((words1.drop 24).drop 24).drop 24), List.all_append, w_t4, ← List.take_append_drop 24 ((((words1.drop 24).drop 24).drop 24).drop 24), List.all_append, w_t5, ← List.take_append_drop 24 (((((words1.drop 24).drop 24).drop 24).drop 24).drop 24), List.all_append, w_t6, ← List.take_append_drop 24 ((((((words1.drop 24).drop 24).drop 24).drop 24).drop 24).drop 24), List.all_append, w_t7, ← List.take_append_drop 24 (((((((words1.drop 24).drop 24).drop 24).drop 24).drop 24).drop 24).drop 24), List.all_append, w_t8, ← List.take_append_drop 24 ((((((((words1.drop 24).drop 24).drop 24).drop 24).drop 24).drop 24).drop 24).drop 24), List.all_append, w_t9, ← List.take_append_drop 24 (((((((((words1.drop 24).drop 24).drop 24).drop 24).drop 24).drop 24).drop 24).drop 24).drop 24), List.all_append, w_t10, ← List.take_append_drop 24 ((((((((((words1.drop 24).drop 24).drop 24).drop 24).drop 24).drop 24).drop 24).drop 24).drop 24).drop 24), List.all_append, w_t11, ← List.take_append_drop 24 (((((((((((words1.drop 24).drop 24).drop 24).drop 24).drop 24).drop 24).drop 24).drop 24).drop 24).drop 24).drop 24), List.all_append, w_t12, ← List.take_append_drop 24 ((((((((((((words1.drop 24).drop 24).drop 24).drop 24).drop 24).drop 24).drop 24).drop 24).drop 24).drop 24).drop 24).drop 24), List.all_append, w_t13, ← List.take_append_drop 24 (((((((((((((words1.drop 24).drop 24).drop 24).drop 24).drop 24).drop 24).drop 24).drop 24).drop 24).drop 24).drop 24).drop 24).drop 24), List.all_append, w_t14, ← List.take_append_drop 24 ((((((((((((((words1.drop 24).drop 24).drop 24).drop 24).drop 24).drop 24).drop 24).drop 24).drop 24).drop 24).drop 24).drop 24).drop 24).drop 24), List.all_append, w_t15, ← List.take_append_drop 24 (((((((((((((((words1.drop 24).drop 24).drop 24).drop 24).drop 24).drop 24).drop 24).drop 24).drop 24).drop 24).drop 24).drop 24).drop 24).drop 24).drop 24), List.all_append, w_t16, ← List.take_append_drop 24 ((((((((((((((((words1.drop 24).drop 24).drop 24).drop 24).drop 24).drop 24).drop 24).drop 24).drop 24).drop 24).drop 24).drop 24).drop 24).drop 24).drop 24).drop 24), List.all_append, w_t17, w_t18]
  rfl
set_option maxRecDepth 65536 in
theorem w_rest : rest_1_c.before args0 about1 = true := by decide +kernel
set_option maxRecDepth 65536 in
theorem w_case : (Jvm.Cond.and given_1 narrow_1).before args0 about1 = true := by decide +kernel
theorem w_applies : (headSpec (Jvm.Cond.code x code maxLocals ret :: tables_1) room_1).applies x e0.platform about1 = true :=
  (Spec.applies_iff w_frames).mpr ⟨w_running, w_runnable, w_alone, w_named, w_hears, w_ripe, w_room, w_tables⟩
set_option maxRecDepth 65536 in
theorem atStart : AtStart classFile x code maxLocals ret World_1 tables_1 room_1 Calls_1 rest_1 Pre_1 launch0 p0 e0 about1 theMethod args0 below0 :=
  ⟨lists_1, trivial, launch0.admits_env _ _ _, launch0.least_env, fairChoices_fair.cas, fairChoices_fair.clock, w_frames, w_args, w_heap, w_applies, ⟨⟨18, k18, 3, by decide +kernel, rfl, rfl, _, rfl, rfl⟩, ⟨⟨12, k12, 4, by decide +kernel, rfl, rfl, _, rfl, rfl⟩, ⟨⟨48, k48, 5, by decide +kernel, rfl, rfl, _, rfl, rfl⟩, trivial⟩⟩⟩, w_rest, w_case⟩
end start1
theorem witness_1 : WitnessClaimed_1 := ⟨start1.p0, start1.e0, start1.about1, start1.theMethod, start1.args0, start1.below0, start1.atStart⟩
end Jvm.Pilot.@@N@@
