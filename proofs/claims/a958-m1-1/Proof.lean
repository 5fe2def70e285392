import JvmDerived
import JvmDerived.Pilot.@@N@@Statement
import JvmDerived.Pilot.@@N@@Code
set_option linter.unusedVariables false
set_option linter.unusedSimpArgs false
namespace Jvm.RoadKit
open Sem ClassFile Op Lib Jvm.Stand Jvm.Free Jvm.LawKit
section New
variable {p : Program} {l : Launch} {e : Env} {R : Room} {s : State} {m : MethodId} {args : Array Value} {below : List Frame} {meth : Method} {c : Code} {T : State} {locs : List Loc} {cells slots : Nat}
theorem retI (X : Stand p l e R s m args below meth c T locs cells slots) (hx : p.tables.exec = Jvm.exec) {pc : Nat} {Ls : Array Slot} {z : Int32} {rest : List Value} (hret : meth.sig.returnType = some .int) (hd : decode c.code pc = .ok (.ireturn, 1)) {fs : List Frame}
    (hl : ∀ (f : JFrame) (acts : List Action), f.method = m → f.locked = none → f.entered = [] → (doReturn e (T.setTop f) acts (some (.int z))).1 = T.setFrames fs) : Steps p.tables e below (T.setTop (mkF m pc Ls (.int z :: rest))) (T.setFrames fs) := by
  have hm' : T.vm.method? m = some meth := X.method'
  have hn : narrow .int (.int z) = .int z := rfl
  show Steps p.tables e below (T.setTop { method := m, pc := pc, locals := Ls, stack := _ :: rest, locked := none }) _
  jvm_step X.here [X.here.top, hx, hd, hm', hret, hn]
  first | (intro acts; rw [hl _ acts rfl rfl rfl]) | rw [hl _ _ rfl rfl rfl]
  exact Steps.refl _
end New
end Jvm.RoadKit
namespace Jvm.Pilot.@@N@@
open Jvm Jvm.ClassFile Sem Op Lib Jvm.Free Jvm.Stand Jvm.LawKit Jvm.RoadKit Bundle Jvm.Pilot.@@N@@.Jvm.D
theorem own_ite01 {c : Prop} [Decidable c] {a b : Int32} (ha : a = 0 ∨ a = 1) (hb : b = 0 ∨ b = 1) : (if c then a else b) = 0 ∨ (if c then a else b) = 1 := by split <;> assumption
theorem own_nz {r : Int32} (h : r = 0 ∨ r = 1) : nar .boolean r = r := by rcases h with rfl | rfl <;> rfl
section own
variable {p : Program} {l : Launch} {e : Env} {R : Room} {s : State} {m : MethodId} {args : Array Value} {below : List Frame} {meth : Method} {c : Code} {T : State} {locs : List Loc} {cells slots : Nat} {Z : State} {h h' h0 : Heap} {a b : Addr} {k : ClassId} {ty : FieldType} {n : Int32} {vs : List Int32} {ls : List Int64} {sl : Nat} {v : Value} {ws : List Addr}
/-- an array of ints (or bytes, chars, shorts, booleans), by its list -/
def IA (Z : State) (h : Heap) (a : Addr) (k : ClassId) (ty : FieldType) (n : Int32) (vs : List Int32) : Prop := Arv Z h a k ty n (vs.map Value.int) (.int 0) ∧ vs.length = n.toNatClampNeg
def LA (Z : State) (h : Heap) (a : Addr) (k : ClassId) (n : Int32) (ls : List Int64) : Prop := Arv Z h a k .long n (ls.map Value.long) (.long 0) ∧ ls.length = n.toNatClampNeg
theorem IA.lt (F : IA Z h a k ty n vs) : a < h.size := F.1.lt
theorem IA.ext (F : IA Z h a k ty n vs) (E : Ext h h') : IA Z h' a k ty n vs := ⟨F.1.ext E, F.2⟩
theorem IA.other (F : IA Z h b k ty n vs) (W : Wr h h' a sl v) (q : b ≠ a) : IA Z h' b k ty n vs := ⟨F.1.other W q, F.2⟩
theorem IA.keep (F : IA Z h a k ty n vs) (K : Keep h h' ws) (q : a ∉ ws) : IA Z h' a k ty n vs := ⟨F.1.keep K q, F.2⟩
theorem LA.lt (F : LA Z h a k n ls) : a < h.size := F.1.lt
theorem LA.ext (F : LA Z h a k n ls) (E : Ext h h') : LA Z h' a k n ls := ⟨F.1.ext E, F.2⟩
theorem LA.other (F : LA Z h b k n ls) (W : Wr h h' a sl v) (q : b ≠ a) : LA Z h' b k n ls := ⟨F.1.other W q, F.2⟩
theorem LA.keep (F : LA Z h a k n ls) (K : Keep h h' ws) (q : a ∉ ws) : LA Z h' a k n ls := ⟨F.1.keep K q, F.2⟩
theorem IA.new (A : Arr Z h a (newA k ty n) ty) (q : ¬ n < 0) (hd : defaultValue ty = .int 0) {c : Nat} (hc : n.toNatClampNeg = c) : IA Z h a k ty n (List.replicate c 0) := by
  refine ⟨?_, by rw [List.length_replicate, hc]⟩
  have F := Arv.new A q
  rw [hd] at F
  rw [List.map_replicate]
  exact F.pad (pad_rep [] (.int 0) c)
theorem LA.new (A : Arr Z h a (newA k .long n) .long) (q : ¬ n < 0) {c : Nat} (hc : n.toNatClampNeg = c) : LA Z h a k n (List.replicate c 0) := by
  refine ⟨?_, by rw [List.length_replicate, hc]⟩
  have F : Arv Z h a k .long n [] (.long 0) := Arv.new A q
  rw [List.map_replicate]
  exact F.pad (pad_rep [] (.long 0) c)
theorem own_getI (vs : List Int32) (i : Nat) : (vs.map Value.int).getD i (.int 0) = .int (vs.getD i 0) := by
  simp only [List.getD_eq_getElem?_getD, List.getElem?_map]; cases vs[i]? <;> rfl
theorem own_getL (vs : List Int64) (i : Nat) : (vs.map Value.long).getD i (.long 0) = .long (vs.getD i 0) := by
  simp only [List.getD_eq_getElem?_getD, List.getElem?_map]; cases vs[i]? <;> rfl
theorem IA.inb {cl : Cell} {j : Int32} {i : Nat} (S : cl.slots.size = n.toNatClampNeg) (hl : vs.length = n.toNatClampNeg) (hj : j.toNatClampNeg = i) (hn : ¬ j < 0) (hi : i < vs.length) : ¬ (j < 0 ∨ cl.slots.size ≤ j.toNatClampNeg) := by
  rintro (q | q)
  · exact hn q
  · rw [S, ← hl, hj] at q; omega
theorem LA.inb {cl : Cell} {j : Int32} {i : Nat} (S : cl.slots.size = n.toNatClampNeg) (hl : ls.length = n.toNatClampNeg) (hj : j.toNatClampNeg = i) (hn : ¬ j < 0) (hi : i < ls.length) : ¬ (j < 0 ∨ cl.slots.size ≤ j.toNatClampNeg) := by
  rintro (q | q)
  · exact hn q
  · rw [S, ← hl, hj] at q; omega
theorem IA.at {cl : Cell} {j : Int32} {i : Nat} {w : Int32} (H : Has cl (vs.map Value.int) (.int 0)) (S : cl.slots.size = n.toNatClampNeg) (hl : vs.length = n.toNatClampNeg) (hj : j.toNatClampNeg = i) (hi : i < vs.length) (hw : vs.getD i 0 = w) : cl.slots[j.toNatClampNeg]? = some (.int w) := by
  rw [H _ (by rw [S, ← hl, hj]; exact hi), own_getI, hj, hw]
theorem LA.at {cl : Cell} {j : Int32} {i : Nat} {w : Int64} (H : Has cl (ls.map Value.long) (.long 0)) (S : cl.slots.size = n.toNatClampNeg) (hl : ls.length = n.toNatClampNeg) (hj : j.toNatClampNeg = i) (hi : i < ls.length) (hw : ls.getD i 0 = w) : cl.slots[j.toNatClampNeg]? = some (.long w) := by
  rw [H _ (by rw [S, ← hl, hj]; exact hi), own_getL, hj, hw]
theorem ia_ldI (X : Stand p l e R s m args below meth c T locs cells slots) (hx : p.tables.exec = Jvm.exec) (hZ : Z.Warmed39 s.vm) (eT : T.heap = h) (A : IA Z h a k .int n vs) {j : Int32} (i : Nat) (hj : j.toNatClampNeg = i) (hn : ¬ j < 0) (hi : i < vs.length) {w : Int32} (hw : vs.getD i 0 = w) {g : JFrame} (hg : g.method = m) {rest : List Value} (hs : g.stack = .int j :: .ref a :: rest) (hd : decode c.code g.pc = .ok (.iaload, 1)) (target : State)
    (q : Steps p.tables e below (T.setTop { g with pc := g.pc + 1, stack := .int w :: rest }) target) : Steps p.tables e below (T.setTop g) target := by
  obtain ⟨⟨cl, Ar, -, S, -, H, -⟩, hl⟩ := A
  exact X.iaload hx (by rw [eT]; exact Ar.1) (State.isArrayOf_alike hZ.alike Ar.2.1) Ar.2.2 (IA.inb S hl hj hn hi) (IA.at H S hl hj hi hw) hg hs hd target q
theorem ia_ldC (X : Stand p l e R s m args below meth c T locs cells slots) (hx : p.tables.exec = Jvm.exec) (hZ : Z.Warmed39 s.vm) (eT : T.heap = h) (A : IA Z h a k .char n vs) {j : Int32} (i : Nat) (hj : j.toNatClampNeg = i) (hn : ¬ j < 0) (hi : i < vs.length) {w : Int32} (hw : vs.getD i 0 = w) {g : JFrame} (hg : g.method = m) {rest : List Value} (hs : g.stack = .int j :: .ref a :: rest) (hd : decode c.code g.pc = .ok (.caload, 1)) (target : State)
    (q : Steps p.tables e below (T.setTop { g with pc := g.pc + 1, stack := .int w :: rest }) target) : Steps p.tables e below (T.setTop g) target := by
  obtain ⟨⟨cl, Ar, -, S, -, H, -⟩, hl⟩ := A
  exact X.caload hx (by rw [eT]; exact Ar.1) (State.isArrayOf_alike hZ.alike Ar.2.1) Ar.2.2 (IA.inb S hl hj hn hi) (IA.at H S hl hj hi hw) hg hs hd target q
theorem ia_ldS (X : Stand p l e R s m args below meth c T locs cells slots) (hx : p.tables.exec = Jvm.exec) (hZ : Z.Warmed39 s.vm) (eT : T.heap = h) (A : IA Z h a k .short n vs) {j : Int32} (i : Nat) (hj : j.toNatClampNeg = i) (hn : ¬ j < 0) (hi : i < vs.length) {w : Int32} (hw : vs.getD i 0 = w) {g : JFrame} (hg : g.method = m) {rest : List Value} (hs : g.stack = .int j :: .ref a :: rest) (hd : decode c.code g.pc = .ok (.saload, 1)) (target : State)
    (q : Steps p.tables e below (T.setTop { g with pc := g.pc + 1, stack := .int w :: rest }) target) : Steps p.tables e below (T.setTop g) target := by
  obtain ⟨⟨cl, Ar, -, S, -, H, -⟩, hl⟩ := A
  exact X.saload hx (by rw [eT]; exact Ar.1) (State.isArrayOf_alike hZ.alike Ar.2.1) Ar.2.2 (IA.inb S hl hj hn hi) (IA.at H S hl hj hi hw) hg hs hd target q
theorem ia_ldB (X : Stand p l e R s m args below meth c T locs cells slots) (hx : p.tables.exec = Jvm.exec) (hZ : Z.Warmed39 s.vm) (eT : T.heap = h) (A : IA Z h a k .byte n vs) {j : Int32} (i : Nat) (hj : j.toNatClampNeg = i) (hn : ¬ j < 0) (hi : i < vs.length) {w : Int32} (hw : vs.getD i 0 = w) {g : JFrame} (hg : g.method = m) {rest : List Value} (hs : g.stack = .int j :: .ref a :: rest) (hd : decode c.code g.pc = .ok (.baload, 1)) (target : State)
    (q : Steps p.tables e below (T.setTop { g with pc := g.pc + 1, stack := .int w :: rest }) target) : Steps p.tables e below (T.setTop g) target := by
  obtain ⟨⟨cl, Ar, -, S, -, H, -⟩, hl⟩ := A
  exact X.baloadBytes hx (by rw [eT]; exact Ar.1) (State.isArrayOf_alike hZ.alike Ar.2.1) Ar.2.2 (IA.inb S hl hj hn hi) (IA.at H S hl hj hi hw) hg hs hd target q
theorem ia_ldZ (X : Stand p l e R s m args below meth c T locs cells slots) (hx : p.tables.exec = Jvm.exec) (hZ : Z.Warmed39 s.vm) (eT : T.heap = h) (A : IA Z h a k .boolean n vs) {j : Int32} (i : Nat) (hj : j.toNatClampNeg = i) (hn : ¬ j < 0) (hi : i < vs.length) {w : Int32} (hw : vs.getD i 0 = w) {g : JFrame} (hg : g.method = m) {rest : List Value} (hs : g.stack = .int j :: .ref a :: rest) (hd : decode c.code g.pc = .ok (.baload, 1)) (target : State)
    (q : Steps p.tables e below (T.setTop { g with pc := g.pc + 1, stack := .int w :: rest }) target) : Steps p.tables e below (T.setTop g) target := by
  obtain ⟨⟨cl, Ar, -, S, -, H, -⟩, hl⟩ := A
  exact X.baloadBooleans hx (by rw [eT]; exact Ar.1) (State.isArrayOf_alike hZ.alike Ar.2.1) Ar.2.2 (IA.inb S hl hj hn hi) (IA.at H S hl hj hi hw) hg hs hd target q
theorem la_ldJ (X : Stand p l e R s m args below meth c T locs cells slots) (hx : p.tables.exec = Jvm.exec) (hZ : Z.Warmed39 s.vm) (eT : T.heap = h) (A : LA Z h a k n ls) {j : Int32} (i : Nat) (hj : j.toNatClampNeg = i) (hn : ¬ j < 0) (hi : i < ls.length) {w : Int64} (hw : ls.getD i 0 = w) {g : JFrame} (hg : g.method = m) {rest : List Value} (hs : g.stack = .int j :: .ref a :: rest) (hd : decode c.code g.pc = .ok (.laload, 1)) (target : State)
    (q : Steps p.tables e below (T.setTop { g with pc := g.pc + 1, stack := .long w :: rest }) target) : Steps p.tables e below (T.setTop g) target := by
  obtain ⟨⟨cl, Ar, -, S, -, H, -⟩, hl⟩ := A
  exact X.laload hx (by rw [eT]; exact Ar.1) (State.isArrayOf_alike hZ.alike Ar.2.1) Ar.2.2 (LA.inb S hl hj hn hi) (LA.at H S hl hj hi hw) hg hs hd target q
theorem ia_len (X : Stand p l e R s m args below meth c T locs cells slots) (hx : p.tables.exec = Jvm.exec) (hZ : Z.Warmed39 s.vm) (eT : T.heap = h) (A : IA Z h a k ty n vs) {g : JFrame} (hg : g.method = m) {rest : List Value} (hs : g.stack = .ref a :: rest) (hd : decode c.code g.pc = .ok (.arraylength, 1)) (target : State)
    (q : Steps p.tables e below (T.setTop { g with pc := g.pc + 1, stack := .int n :: rest }) target) : Steps p.tables e below (T.setTop g) target := by
  obtain ⟨⟨cl, Ar, -, S, N, H, -⟩, hl⟩ := A
  refine X.arraylength hx (by rw [eT]; exact Ar.1) (State.isArrayOf_alike hZ.alike Ar.2.1) hg hs hd target ?_
  rw [len_of S N]; exact q
theorem la_len (X : Stand p l e R s m args below meth c T locs cells slots) (hx : p.tables.exec = Jvm.exec) (hZ : Z.Warmed39 s.vm) (eT : T.heap = h) (A : LA Z h a k n ls) {g : JFrame} (hg : g.method = m) {rest : List Value} (hs : g.stack = .ref a :: rest) (hd : decode c.code g.pc = .ok (.arraylength, 1)) (target : State)
    (q : Steps p.tables e below (T.setTop { g with pc := g.pc + 1, stack := .int n :: rest }) target) : Steps p.tables e below (T.setTop g) target := by
  obtain ⟨⟨cl, Ar, -, S, N, H, -⟩, hl⟩ := A
  refine X.arraylength hx (by rw [eT]; exact Ar.1) (State.isArrayOf_alike hZ.alike Ar.2.1) hg hs hd target ?_
  rw [len_of S N]; exact q
theorem IA.put {cl : Cell} {j : Int32} {i : Nat} {y : Int32} (Ar : Arr Z h a cl ty) (q1 : cl.cls = k) (S : cl.slots.size = n.toNatClampNeg) (N : ¬ n < 0) (H : Has cl (vs.map Value.int) (.int 0)) (G : ∀ i, i < cl.slots.size → fits ty ((vs.map Value.int).getD i (.int 0)) = true) (hl : vs.length = n.toNatClampNeg) (hv : fits ty (.int y) = true) (W : Wr h h' a j.toNatClampNeg (.int y)) (hj : j.toNatClampNeg = i) (hi : i < vs.length) : IA Z h' a k ty n (vs.set i y) := by
  refine ⟨?_, by rw [List.length_set]; exact hl⟩
  have := Arv.set Ar q1 S N H G hv W i hj (by rw [List.length_map]; exact hi)
  rwa [← List.map_set] at this
theorem LA.put {cl : Cell} {j : Int32} {i : Nat} {y : Int64} (Ar : Arr Z h a cl .long) (q1 : cl.cls = k) (S : cl.slots.size = n.toNatClampNeg) (N : ¬ n < 0) (H : Has cl (ls.map Value.long) (.long 0)) (G : ∀ i, i < cl.slots.size → fits .long ((ls.map Value.long).getD i (.long 0)) = true) (hl : ls.length = n.toNatClampNeg) (W : Wr h h' a j.toNatClampNeg (.long y)) (hj : j.toNatClampNeg = i) (hi : i < ls.length) : LA Z h' a k n (ls.set i y) := by
  refine ⟨?_, by rw [List.length_set]; exact hl⟩
  have := Arv.set Ar q1 S N H G rfl W i hj (by rw [List.length_map]; exact hi)
  rwa [← List.map_set] at this
theorem ia_stI (X : Stand p l e R s m args below meth c T locs cells slots) (hx : p.tables.exec = Jvm.exec) (hZ : Z.Warmed39 s.vm) (eT : T.heap = h) (A : IA Z h a k .int n vs) {j : Int32} (i : Nat) (hj : j.toNatClampNeg = i) (hn : ¬ j < 0) (hi : i < vs.length) {x : Int32} {g : JFrame} (hg : g.method = m) {rest : List Value} (hs : g.stack = .int x :: .int j :: .ref a :: rest) (hd : decode c.code g.pc = .ok (.iastore, 1)) :
    ∃ T' h', Stand p l e R s m args below meth c T' (locs ++ [⟨a, j.toNatClampNeg⟩]) cells slots ∧ T'.heap = h' ∧ Wr h h' a j.toNatClampNeg (.int x) ∧ IA Z h' a k .int n (vs.set i x) ∧ ∀ target, Steps p.tables e below (T'.setTop { g with pc := g.pc + 1, stack := rest }) target → Steps p.tables e below (T.setTop g) target := by
  obtain ⟨⟨cl, Ar, q1, S, N, H, G⟩, hl⟩ := A
  obtain ⟨T', h', X', e', W, st⟩ := stI X hx hZ eT Ar (IA.inb S hl hj hn hi) hg hs hd
  exact ⟨T', h', X', e', W, IA.put Ar q1 S N H G hl rfl W hj hi, st⟩
theorem la_stJ (X : Stand p l e R s m args below meth c T locs cells slots) (hx : p.tables.exec = Jvm.exec) (hZ : Z.Warmed39 s.vm) (eT : T.heap = h) (A : LA Z h a k n ls) {j : Int32} (i : Nat) (hj : j.toNatClampNeg = i) (hn : ¬ j < 0) (hi : i < ls.length) {x : Int64} {g : JFrame} (hg : g.method = m) {rest : List Value} (hs : g.stack = .long x :: .int j :: .ref a :: rest) (hd : decode c.code g.pc = .ok (.lastore, 1)) :
    ∃ T' h', Stand p l e R s m args below meth c T' (locs ++ [⟨a, j.toNatClampNeg⟩]) cells slots ∧ T'.heap = h' ∧ Wr h h' a j.toNatClampNeg (.long x) ∧ LA Z h' a k n (ls.set i x) ∧ ∀ target, Steps p.tables e below (T'.setTop { g with pc := g.pc + 1, stack := rest }) target → Steps p.tables e below (T.setTop g) target := by
  obtain ⟨⟨cl, Ar, q1, S, N, H, G⟩, hl⟩ := A
  obtain ⟨T', h', X', e', W, st⟩ := stJ X hx hZ eT Ar (LA.inb S hl hj hn hi) hg hs hd
  exact ⟨T', h', X', e', W, LA.put Ar q1 S N H G hl W hj hi, st⟩
theorem ia_stC (X : Stand p l e R s m args below meth c T locs cells slots) (hx : p.tables.exec = Jvm.exec) (hZ : Z.Warmed39 s.vm) (eT : T.heap = h) (A : IA Z h a k .char n vs) {j : Int32} (i : Nat) (hj : j.toNatClampNeg = i) (hn : ¬ j < 0) (hi : i < vs.length) {x y : Int32} (hy : nar .char x = y) {g : JFrame} (hg : g.method = m) {rest : List Value} (hs : g.stack = .int x :: .int j :: .ref a :: rest) (hd : decode c.code g.pc = .ok (.castore, 1)) :
    ∃ T' h', Stand p l e R s m args below meth c T' (locs ++ [⟨a, j.toNatClampNeg⟩]) cells slots ∧ T'.heap = h' ∧ Wr h h' a j.toNatClampNeg (.int y) ∧ IA Z h' a k .char n (vs.set i y) ∧ ∀ target, Steps p.tables e below (T'.setTop { g with pc := g.pc + 1, stack := rest }) target → Steps p.tables e below (T.setTop g) target := by
  subst hy
  obtain ⟨⟨cl, Ar, q1, S, N, H, G⟩, hl⟩ := A
  obtain ⟨T', h', X', e', W, st⟩ := stC X hx hZ eT Ar (IA.inb S hl hj hn hi) hg hs hd
  exact ⟨T', h', X', e', W, IA.put Ar q1 S N H G hl (fits_nar_char _) W hj hi, st⟩
theorem ia_stS (X : Stand p l e R s m args below meth c T locs cells slots) (hx : p.tables.exec = Jvm.exec) (hZ : Z.Warmed39 s.vm) (eT : T.heap = h) (A : IA Z h a k .short n vs) {j : Int32} (i : Nat) (hj : j.toNatClampNeg = i) (hn : ¬ j < 0) (hi : i < vs.length) {x y : Int32} (hy : nar .short x = y) {g : JFrame} (hg : g.method = m) {rest : List Value} (hs : g.stack = .int x :: .int j :: .ref a :: rest) (hd : decode c.code g.pc = .ok (.sastore, 1)) :
    ∃ T' h', Stand p l e R s m args below meth c T' (locs ++ [⟨a, j.toNatClampNeg⟩]) cells slots ∧ T'.heap = h' ∧ Wr h h' a j.toNatClampNeg (.int y) ∧ IA Z h' a k .short n (vs.set i y) ∧ ∀ target, Steps p.tables e below (T'.setTop { g with pc := g.pc + 1, stack := rest }) target → Steps p.tables e below (T.setTop g) target := by
  subst hy
  obtain ⟨⟨cl, Ar, q1, S, N, H, G⟩, hl⟩ := A
  obtain ⟨T', h', X', e', W, st⟩ := stS X hx hZ eT Ar (IA.inb S hl hj hn hi) hg hs hd
  exact ⟨T', h', X', e', W, IA.put Ar q1 S N H G hl (fits_nar_short _) W hj hi, st⟩
theorem ia_stB (X : Stand p l e R s m args below meth c T locs cells slots) (hx : p.tables.exec = Jvm.exec) (hZ : Z.Warmed39 s.vm) (eT : T.heap = h) (A : IA Z h a k .byte n vs) {j : Int32} (i : Nat) (hj : j.toNatClampNeg = i) (hn : ¬ j < 0) (hi : i < vs.length) {x y : Int32} (hy : nar .byte x = y) {g : JFrame} (hg : g.method = m) {rest : List Value} (hs : g.stack = .int x :: .int j :: .ref a :: rest) (hd : decode c.code g.pc = .ok (.bastore, 1)) :
    ∃ T' h', Stand p l e R s m args below meth c T' (locs ++ [⟨a, j.toNatClampNeg⟩]) cells slots ∧ T'.heap = h' ∧ Wr h h' a j.toNatClampNeg (.int y) ∧ IA Z h' a k .byte n (vs.set i y) ∧ ∀ target, Steps p.tables e below (T'.setTop { g with pc := g.pc + 1, stack := rest }) target → Steps p.tables e below (T.setTop g) target := by
  subst hy
  obtain ⟨⟨cl, Ar, q1, S, N, H, G⟩, hl⟩ := A
  obtain ⟨T', h', X', e', W, st⟩ := stB X hx hZ eT Ar (IA.inb S hl hj hn hi) hg hs hd
  exact ⟨T', h', X', e', W, IA.put Ar q1 S N H G hl (fits_nar_byte _) W hj hi, st⟩
theorem ia_stZ (X : Stand p l e R s m args below meth c T locs cells slots) (hx : p.tables.exec = Jvm.exec) (hZ : Z.Warmed39 s.vm) (eT : T.heap = h) (A : IA Z h a k .boolean n vs) {j : Int32} (i : Nat) (hj : j.toNatClampNeg = i) (hn : ¬ j < 0) (hi : i < vs.length) {x y : Int32} (hy : nar .boolean x = y) {g : JFrame} (hg : g.method = m) {rest : List Value} (hs : g.stack = .int x :: .int j :: .ref a :: rest) (hd : decode c.code g.pc = .ok (.bastore, 1)) :
    ∃ T' h', Stand p l e R s m args below meth c T' (locs ++ [⟨a, j.toNatClampNeg⟩]) cells slots ∧ T'.heap = h' ∧ Wr h h' a j.toNatClampNeg (.int y) ∧ IA Z h' a k .boolean n (vs.set i y) ∧ ∀ target, Steps p.tables e below (T'.setTop { g with pc := g.pc + 1, stack := rest }) target → Steps p.tables e below (T.setTop g) target := by
  subst hy
  obtain ⟨⟨cl, Ar, q1, S, N, H, G⟩, hl⟩ := A
  obtain ⟨T', h', X', e', W, st⟩ := stZ X hx hZ eT Ar (IA.inb S hl hj hn hi) hg hs hd
  exact ⟨T', h', X', e', W, IA.put Ar q1 S N H G hl (fits_nar_bool _) W hj hi, st⟩
end own
theorem own_or32 (n : Nat) : n ||| 32 = n + 32 * (1 - n / 32 % 2) := by
  have h1 : ∀ r < 64, r ||| 32 = r + 32 * (1 - r / 32 % 2) := by decide
  have h2 : n = 2 ^ 6 * (n / 64) + n % 64 := by omega
  have h3 : n % 64 < 2 ^ 6 := by omega
  have h4 : n % 64 ||| 32 < 2 ^ 6 := Nat.or_lt_two_pow h3 (by decide)
  have e : n ||| 32 = 2 ^ 6 * (n / 64) + (n % 64 ||| 32) := by
    rw [Nat.two_pow_add_eq_or_of_lt h4, ← Nat.or_assoc, ← Nat.two_pow_add_eq_or_of_lt h3, ← h2]
  have := h1 (n % 64) (by omega)
  omega
theorem own_char (x : Int32) : ∃ n : Nat, n < 65536 ∧ x.toUInt32.toUInt16.toUInt32.toInt32 = Int32.ofNat n := by
  refine ⟨x.toUInt32.toUInt16.toNat, x.toUInt32.toUInt16.toNat_lt, ?_⟩
  apply Int32.toBitVec_inj.mp
  apply BitVec.eq_of_toNat_eq
  show x.toUInt32.toUInt16.toUInt32.toNat = (BitVec.ofNat 32 _).toNat
  have := x.toUInt32.toUInt16.toNat_lt
  rw [BitVec.toNat_ofNat]
  simp only [UInt16.toNat_toUInt32]
  omega
theorem own_orN (a b : Nat) : Int32.ofNat a ||| Int32.ofNat b = Int32.ofNat (a ||| b) := by
  apply Int32.toBitVec_inj.mp
  show BitVec.ofNat 32 a ||| BitVec.ofNat 32 b = BitVec.ofNat 32 (a ||| b)
  apply BitVec.eq_of_toNat_eq
  simp [BitVec.toNat_or, Nat.or_mod_two_pow]
theorem own_tI {n : Nat} (h : n < 2147483648) : (Int32.ofNat n).toInt = n := Int32.toInt_ofNat_of_lt h
theorem own_sub {x y : Int32} (h1 : -2147483648 ≤ x.toInt - y.toInt) (h2 : x.toInt - y.toInt < 2147483648) : (x - y).toInt = x.toInt - y.toInt :=
  (Int32.toInt_sub x y).trans (Int.bmod_eq_of_le (by omega) (by omega))
theorem own_add {x y : Int32} (h1 : -2147483648 ≤ x.toInt + y.toInt) (h2 : x.toInt + y.toInt < 2147483648) : (x + y).toInt = x.toInt + y.toInt :=
  (Int32.toInt_add x y).trans (Int.bmod_eq_of_le (by omega) (by omega))
theorem own_mask31 (x : Int32) : 0 ≤ (x &&& (2147483647 : Int32)).toInt := by
  have h : (x &&& (2147483647 : Int32)).toBitVec.toNat < 2147483648 := by
    rw [Int32.toBitVec_and, BitVec.toNat_and]
    exact Nat.lt_of_le_of_lt Nat.and_le_right (by decide)
  show 0 ≤ (x &&& (2147483647 : Int32)).toBitVec.toInt
  rw [BitVec.toInt_eq_toNat_cond, if_pos (by omega)]
  omega
theorem own_lc1 (x y : Int64) : ((lcmpW x y) < (0 : Int32)) = (x < y) := by
  simp only [lcmpW, gt_iff_lt]
  by_cases h1 : y < x
  · rw [if_pos h1]
    have h2 : ¬ x < y := by rw [Int64.lt_iff_toInt_lt] at *; omega
    simp [h2]
  · rw [if_neg h1]
    by_cases h2 : x = y
    · rw [if_pos h2]; subst h2; simp
    · rw [if_neg h2]
      have h3 : x < y := by rw [← Int64.toInt_inj] at h2; rw [Int64.lt_iff_toInt_lt] at *; omega
      simp [h3]
theorem own_lc2 (x y : Int64) : ((0 : Int32) < (lcmpW x y)) = (y < x) := by
  simp only [lcmpW, gt_iff_lt]
  by_cases h1 : y < x
  · rw [if_pos h1]; simp [h1]
  · rw [if_neg h1]
    by_cases h2 : x = y
    · rw [if_pos h2]; subst h2; simp
    · rw [if_neg h2]; simp [h1]
theorem own_nn {n : Nat} (hn : n < 2147483648) : ¬ Int32.ofNat n < 0 := by
  rw [Int32.lt_iff_toInt_lt, own_tI hn, show (0 : Int32).toInt = 0 from rfl]; omega
theorem own_n32 {n : Nat} (hn : n < 2147483648) : (Int32.ofNat n).toNatClampNeg = n := by
  rw [Int32.toNatClampNeg, own_tI hn]; rfl
theorem own_ofI {x : Int32} (h : 0 ≤ x.toInt) : x = Int32.ofNat x.toInt.toNat := by
  apply Int32.toInt_inj.mp
  have := x.toInt_lt
  rw [own_tI (by omega)]; omega
/-- Java's x % d for x that isn't negative -/
theorem own_rem (x d : Int32) (hx : 0 ≤ x.toInt) (hd : 0 < d.toInt) : (x - (x / d) * d).toInt = x.toInt % d.toInt := by
  have b1 := x.toInt_lt; have b2 := d.toInt_lt
  have hq : (x / d).toInt = x.toInt / d.toInt := by
    rw [Int32.toInt_div, Int.tdiv_eq_ediv_of_nonneg hx]
    have h1 : 0 ≤ x.toInt / d.toInt := Int.ediv_nonneg hx (Int.le_of_lt hd)
    have h2 : x.toInt / d.toInt ≤ x.toInt := Int.ediv_le_self _ hx
    exact Int.bmod_eq_of_le (by omega) (by omega)
  have hm : (x / d * d).toInt = x.toInt / d.toInt * d.toInt := by
    rw [Int32.toInt_mul, hq]
    have h1 : 0 ≤ x.toInt / d.toInt * d.toInt := Int.mul_nonneg (Int.ediv_nonneg hx (Int.le_of_lt hd)) (Int.le_of_lt hd)
    have h2 : x.toInt / d.toInt * d.toInt ≤ x.toInt := Int.ediv_mul_le _ (by omega)
    exact Int.bmod_eq_of_le (by omega) (by omega)
  have h3 := Int.emod_add_mul_ediv x.toInt d.toInt
  rw [Int.mul_comm] at h3
  have h4 := Int.emod_nonneg x.toInt (show d.toInt ≠ 0 by omega)
  have h5 := Int.emod_lt_of_pos x.toInt hd
  rw [own_sub (by omega) (by omega), hm]; omega
theorem own_ix {p : Int32} {i j : Nat} (hk : p = Int32.ofNat i) (hb : i + j < 2147483648) : (p + Int32.ofNat j).toNatClampNeg = i + j ∧ ¬ (p + Int32.ofNat j) < 0 := by
  subst hk; rw [← Int32.ofNat_add]; exact ⟨own_n32 hb, own_nn hb⟩
theorem own_narB (x : Int32) : nar .byte (x.toInt8.toInt32) = x.toInt8.toInt32 := by
  show x.toInt8.toInt32.toInt8.toInt32 = x.toInt8.toInt32
  rw [Int8.toInt8_toInt32]
theorem own_lc0 (x : Int64) : (lcmpW x x) = (0 : Int32) := by simp [lcmpW]
theorem own_ltN {i j : Nat} (h : i < j) (hj : j < 2147483648) : Int32.ofNat i < Int32.ofNat j := by
  rw [Int32.lt_iff_toInt_lt, own_tI (by omega), own_tI hj]; omega
theorem own_nltN {i j : Nat} (h : ¬ i < j) (hi : i < 1000000) (hj : j < 1000000) : ¬ Int32.ofNat i < Int32.ofNat j := by
  rw [Int32.lt_iff_toInt_lt, own_tI (by omega), own_tI (by omega)]; omega
theorem own_one {i : Nat} : Int32.ofNat i + (1 : Int32) = Int32.ofNat (i + 1) := (Int32.ofNat_add i 1).symm
theorem own_andN (x : Int32) (k : Nat) (hk : k < 2147483648) : ∃ q : Nat, q ≤ k ∧ (x &&& Int32.ofNat k) = Int32.ofNat q := by
  refine ⟨(x &&& Int32.ofNat k).toBitVec.toNat, ?_, ?_⟩
  · rw [Int32.toBitVec_and, BitVec.toNat_and]
    refine Nat.le_trans Nat.and_le_right ?_
    show (BitVec.ofNat 32 k).toNat ≤ k
    rw [BitVec.toNat_ofNat]; exact Nat.mod_le _ _
  · apply Int32.toBitVec_inj.mp
    show _ = BitVec.ofNat 32 _
    rw [BitVec.ofNat_toNat]; simp
theorem own_mid {i j : Nat} (h : i + j < 2147483648) : ((Int32.ofNat i + Int32.ofNat j).toUInt32 >>> ((1 : Int32) &&& 31).toUInt32).toInt32 = Int32.ofNat ((i + j) / 2) := by
  rw [← Int32.ofNat_add]
  apply Int32.toBitVec_inj.mp
  show (BitVec.ofNat 32 (i + j)) >>> _ = BitVec.ofNat 32 ((i + j) / 2)
  apply BitVec.eq_of_toNat_eq
  rw [show (((1 : Int32) &&& 31).toUInt32.mod 32).toBitVec = 1#32 from by decide]
  rw [BitVec.toNat_ofNat, show (BitVec.ofNat 32 (i + j) >>> 1#32).toNat = (BitVec.ofNat 32 (i + j)).toNat >>> 1 from rfl, BitVec.toNat_ofNat, Nat.shiftRight_eq_div_pow]
  omega
theorem d1_0 : decode prog_114_method_18_code 0 = .ok (.aload_n 0, 1) := by decide +kernel
theorem d1_1 : decode prog_114_method_18_code 1 = .ok (.iload_n 1, 1) := by decide +kernel
theorem d1_2 : decode prog_114_method_18_code 2 = .ok (.baload, 1) := by decide +kernel
theorem d1_3 : decode prog_114_method_18_code 3 = .ok (.i2l, 1) := by decide +kernel
theorem d1_4 : decode prog_114_method_18_code 4 = .ok (.ldc2_w 131, 3) := by decide +kernel
theorem d1_7 : decode prog_114_method_18_code 7 = .ok (.land, 1) := by decide +kernel
theorem d1_8 : decode prog_114_method_18_code 8 = .ok (.bipush 56, 2) := by decide +kernel
theorem d1_10 : decode prog_114_method_18_code 10 = .ok (.lshl, 1) := by decide +kernel
theorem d1_11 : decode prog_114_method_18_code 11 = .ok (.aload_n 0, 1) := by decide +kernel
theorem d1_12 : decode prog_114_method_18_code 12 = .ok (.iload_n 1, 1) := by decide +kernel
theorem d1_13 : decode prog_114_method_18_code 13 = .ok (.iconst 1, 1) := by decide +kernel
theorem d1_14 : decode prog_114_method_18_code 14 = .ok (.iadd, 1) := by decide +kernel
theorem d1_15 : decode prog_114_method_18_code 15 = .ok (.baload, 1) := by decide +kernel
theorem d1_16 : decode prog_114_method_18_code 16 = .ok (.i2l, 1) := by decide +kernel
theorem d1_17 : decode prog_114_method_18_code 17 = .ok (.ldc2_w 131, 3) := by decide +kernel
theorem d1_20 : decode prog_114_method_18_code 20 = .ok (.land, 1) := by decide +kernel
theorem d1_21 : decode prog_114_method_18_code 21 = .ok (.bipush 48, 2) := by decide +kernel
theorem d1_23 : decode prog_114_method_18_code 23 = .ok (.lshl, 1) := by decide +kernel
theorem d1_24 : decode prog_114_method_18_code 24 = .ok (.lor, 1) := by decide +kernel
theorem d1_25 : decode prog_114_method_18_code 25 = .ok (.aload_n 0, 1) := by decide +kernel
theorem d1_26 : decode prog_114_method_18_code 26 = .ok (.iload_n 1, 1) := by decide +kernel
theorem d1_27 : decode prog_114_method_18_code 27 = .ok (.iconst 2, 1) := by decide +kernel
theorem d1_28 : decode prog_114_method_18_code 28 = .ok (.iadd, 1) := by decide +kernel
theorem d1_29 : decode prog_114_method_18_code 29 = .ok (.baload, 1) := by decide +kernel
theorem d1_30 : decode prog_114_method_18_code 30 = .ok (.i2l, 1) := by decide +kernel
theorem d1_31 : decode prog_114_method_18_code 31 = .ok (.ldc2_w 131, 3) := by decide +kernel
theorem d1_34 : decode prog_114_method_18_code 34 = .ok (.land, 1) := by decide +kernel
theorem d1_35 : decode prog_114_method_18_code 35 = .ok (.bipush 40, 2) := by decide +kernel
theorem d1_37 : decode prog_114_method_18_code 37 = .ok (.lshl, 1) := by decide +kernel
theorem d1_38 : decode prog_114_method_18_code 38 = .ok (.lor, 1) := by decide +kernel
theorem d1_39 : decode prog_114_method_18_code 39 = .ok (.aload_n 0, 1) := by decide +kernel
theorem d1_40 : decode prog_114_method_18_code 40 = .ok (.iload_n 1, 1) := by decide +kernel
theorem d1_41 : decode prog_114_method_18_code 41 = .ok (.iconst 3, 1) := by decide +kernel
theorem d1_42 : decode prog_114_method_18_code 42 = .ok (.iadd, 1) := by decide +kernel
theorem d1_43 : decode prog_114_method_18_code 43 = .ok (.baload, 1) := by decide +kernel
theorem d1_44 : decode prog_114_method_18_code 44 = .ok (.i2l, 1) := by decide +kernel
theorem d1_45 : decode prog_114_method_18_code 45 = .ok (.ldc2_w 131, 3) := by decide +kernel
theorem d1_48 : decode prog_114_method_18_code 48 = .ok (.land, 1) := by decide +kernel
theorem d1_49 : decode prog_114_method_18_code 49 = .ok (.bipush 32, 2) := by decide +kernel
theorem d1_51 : decode prog_114_method_18_code 51 = .ok (.lshl, 1) := by decide +kernel
theorem d1_52 : decode prog_114_method_18_code 52 = .ok (.lor, 1) := by decide +kernel
theorem d1_53 : decode prog_114_method_18_code 53 = .ok (.aload_n 0, 1) := by decide +kernel
theorem d1_54 : decode prog_114_method_18_code 54 = .ok (.iload_n 1, 1) := by decide +kernel
theorem d1_55 : decode prog_114_method_18_code 55 = .ok (.iconst 4, 1) := by decide +kernel
theorem d1_56 : decode prog_114_method_18_code 56 = .ok (.iadd, 1) := by decide +kernel
theorem d1_57 : decode prog_114_method_18_code 57 = .ok (.baload, 1) := by decide +kernel
theorem d1_58 : decode prog_114_method_18_code 58 = .ok (.i2l, 1) := by decide +kernel
theorem d1_59 : decode prog_114_method_18_code 59 = .ok (.ldc2_w 131, 3) := by decide +kernel
theorem d1_62 : decode prog_114_method_18_code 62 = .ok (.land, 1) := by decide +kernel
theorem d1_63 : decode prog_114_method_18_code 63 = .ok (.bipush 24, 2) := by decide +kernel
theorem d1_65 : decode prog_114_method_18_code 65 = .ok (.lshl, 1) := by decide +kernel
theorem d1_66 : decode prog_114_method_18_code 66 = .ok (.lor, 1) := by decide +kernel
theorem d1_67 : decode prog_114_method_18_code 67 = .ok (.aload_n 0, 1) := by decide +kernel
theorem d1_68 : decode prog_114_method_18_code 68 = .ok (.iload_n 1, 1) := by decide +kernel
theorem d1_69 : decode prog_114_method_18_code 69 = .ok (.iconst 5, 1) := by decide +kernel
theorem d1_70 : decode prog_114_method_18_code 70 = .ok (.iadd, 1) := by decide +kernel
theorem d1_71 : decode prog_114_method_18_code 71 = .ok (.baload, 1) := by decide +kernel
theorem d1_72 : decode prog_114_method_18_code 72 = .ok (.i2l, 1) := by decide +kernel
theorem d1_73 : decode prog_114_method_18_code 73 = .ok (.ldc2_w 131, 3) := by decide +kernel
theorem d1_76 : decode prog_114_method_18_code 76 = .ok (.land, 1) := by decide +kernel
theorem d1_77 : decode prog_114_method_18_code 77 = .ok (.bipush 16, 2) := by decide +kernel
theorem d1_79 : decode prog_114_method_18_code 79 = .ok (.lshl, 1) := by decide +kernel
theorem d1_80 : decode prog_114_method_18_code 80 = .ok (.lor, 1) := by decide +kernel
theorem d1_81 : decode prog_114_method_18_code 81 = .ok (.aload_n 0, 1) := by decide +kernel
theorem d1_82 : decode prog_114_method_18_code 82 = .ok (.iload_n 1, 1) := by decide +kernel
theorem d1_83 : decode prog_114_method_18_code 83 = .ok (.bipush 6, 2) := by decide +kernel
theorem d1_85 : decode prog_114_method_18_code 85 = .ok (.iadd, 1) := by decide +kernel
theorem d1_86 : decode prog_114_method_18_code 86 = .ok (.baload, 1) := by decide +kernel
theorem d1_87 : decode prog_114_method_18_code 87 = .ok (.i2l, 1) := by decide +kernel
theorem d1_88 : decode prog_114_method_18_code 88 = .ok (.ldc2_w 131, 3) := by decide +kernel
theorem d1_91 : decode prog_114_method_18_code 91 = .ok (.land, 1) := by decide +kernel
theorem d1_92 : decode prog_114_method_18_code 92 = .ok (.bipush 8, 2) := by decide +kernel
theorem d1_94 : decode prog_114_method_18_code 94 = .ok (.lshl, 1) := by decide +kernel
theorem d1_95 : decode prog_114_method_18_code 95 = .ok (.lor, 1) := by decide +kernel
theorem d1_96 : decode prog_114_method_18_code 96 = .ok (.aload_n 0, 1) := by decide +kernel
theorem d1_97 : decode prog_114_method_18_code 97 = .ok (.iload_n 1, 1) := by decide +kernel
theorem d1_98 : decode prog_114_method_18_code 98 = .ok (.bipush 7, 2) := by decide +kernel
theorem d1_100 : decode prog_114_method_18_code 100 = .ok (.iadd, 1) := by decide +kernel
theorem d1_101 : decode prog_114_method_18_code 101 = .ok (.baload, 1) := by decide +kernel
theorem d1_102 : decode prog_114_method_18_code 102 = .ok (.i2l, 1) := by decide +kernel
theorem d1_103 : decode prog_114_method_18_code 103 = .ok (.ldc2_w 131, 3) := by decide +kernel
theorem d1_106 : decode prog_114_method_18_code 106 = .ok (.land, 1) := by decide +kernel
theorem d1_107 : decode prog_114_method_18_code 107 = .ok (.lor, 1) := by decide +kernel
theorem d1_108 : decode prog_114_method_18_code 108 = .ok (.lreturn, 1) := by decide +kernel
theorem pd_0 : parseMethodDescriptor "([BI)J" = some ⟨[(.array .byte), .int], some .long⟩ := by decide +kernel
theorem pn_0 : plainName "com/example/gneiss/gneiss/store/Page" = true := by first | (simp [plainName, overriddenIn]; done) | decide +kernel
theorem pn_1 : plainName "com/example/gneiss/gneiss/store/PageLongAtPinLaw" = true := by first | (simp [plainName, overriddenIn]; done) | decide +kernel
def own_long (y0 y1 y2 y3 y4 y5 y6 y7 : Int32) : Int64 := ((((((((((y0.toInt64) &&& (255 : Int64)) <<< ((56 : Int32) &&& 0x3f).toInt64) ||| (((y1.toInt64) &&& (255 : Int64)) <<< ((48 : Int32) &&& 0x3f).toInt64)) ||| (((y2.toInt64) &&& (255 : Int64)) <<< ((40 : Int32) &&& 0x3f).toInt64)) ||| (((y3.toInt64) &&& (255 : Int64)) <<< ((32 : Int32) &&& 0x3f).toInt64)) ||| (((y4.toInt64) &&& (255 : Int64)) <<< ((24 : Int32) &&& 0x3f).toInt64)) ||| (((y5.toInt64) &&& (255 : Int64)) <<< ((16 : Int32) &&& 0x3f).toInt64)) ||| (((y6.toInt64) &&& (255 : Int64)) <<< ((8 : Int32) &&& 0x3f).toInt64)) ||| ((y7.toInt64) &&& (255 : Int64)))
theorem ef_rm1 (m : MethodId) (x0 : Addr) (x1 : Int32) : entryFrame m #[(.ref x0), (.int x1)] 2 = mkF m 0 #[.val (.ref x0), .val (.int x1)] [] := by first | (simp [entryFrame, mkF, argsToLocals, Value.category]; done) | rfl
def Q1 (y0 y1 y2 y3 y4 y5 y6 y7 : Int32) (h0 : Heap) (n0 : Nat) (v : Option Value) (h : Heap) (L : List Loc) : Prop := v = some (.long (own_long y0 y1 y2 y3 y4 y5 y6 y7)) ∧ Fr n0 L ∧ h = h0
set_option maxRecDepth 65536 in
set_option maxHeartbeats 40000000 in
theorem rm1 (l : Launch) (Z : State) (a0 : Array Value) (hw : ∀ d ∈ tables_1, d.before a0 Z = true) (ws : List Jvm.Cond) (a1 : Addr) (p1 : Int32) (ka : ClassId) (n : Int32) (vs : List Int32) (i : Nat) (y0 y1 y2 y3 y4 y5 y6 y7 : Int32) (h0 : Heap) (n0 : Nat) (Z0 : n0 ≤ h0.size) (V_a1 : IA Z h0 a1 ka .byte n vs) (hk : p1 = Int32.ofNat i) (hi : i + 8 ≤ vs.length) (hb8 : i < 2147480000) (hy0 : vs.getD (i + 0) 0 = y0) (hy1 : vs.getD (i + 1) 0 = y1) (hy2 : vs.getD (i + 2) 0 = y2) (hy3 : vs.getD (i + 3) 0 = y3) (hy4 : vs.getD (i + 4) 0 = y4) (hy5 : vs.getD (i + 5) 0 = y5) (hy6 : vs.getD (i + 6) 0 = y6) (hy7 : vs.getD (i + 7) 0 = y7) :
    MetFree l (⟨"com/example/gneiss/gneiss/store/Page", "longAt", "([BI)J"⟩ : MethodName) (head1 (Jvm.Cond.code (⟨"com/example/gneiss/gneiss/store/Page", "longAt", "([BI)J"⟩ : MethodName) prog_114_method_18_code 2 (some .long) :: ws) ({ frames := 0, cells := 0, slots := 0, locals := 0 } : Room)) (fun a U => a = #[(.ref a1), (.int p1)] ∧ Z.Warmed39 U.vm ∧ U.heap = h0) (fun _ _ _ _ _ => True) (fun _ U o U' => ∃ v L, o = .returned v ∧ Q1 y0 y1 y2 y3 y4 y5 y6 y7 h0 n0 v U'.heap L ∧ FrameEnd U o U' L ({ frames := 0, cells := 0, slots := 0, locals := 0 } : Room).cells ({ frames := 0, cells := 0, slots := 0, locals := 0 } : Room).slots) := by
  refine MetFree.of_bodySF (plainFor_of_name pn_0) hisR ?_
  intro p e s m args below meth c s₁ Bd hml0 hP hK
  obtain ⟨rfl, hZ, hh⟩ := hP
  have hx := Bd.exec
  have hby := Bd.bytes
  have hml : c.maxLocals = 2 := hml0
  have hown : s.vm.findClass "com/example/gneiss/gneiss/store/Page" = some m.cls := findClass_of_methodNamed Bd.named
  have hnm := (name_of_methodNamed Bd.named Bd.method).1
  have X0 : Stand p l e ({ frames := 0, cells := 0, slots := 0, locals := 0 } : Room) s m #[(.ref a1), (.int p1)] below meth c s₁ [] 0 0 := Stand.of_body Bd
  have e0 : s₁.heap = h0 := by rw [← hh, Bd.state]; rfl
  have N0 := Fr.nil n0
  obtain ⟨G, hG, pr0⟩ : ∃ G : State → Prop, (∀ t, G t → Steps p.tables e below (s₁.setTop (entryFrame m #[(.ref a1), (.int p1)] 2)) t) ∧ (∀ t, Steps p.tables e below (s₁.setTop (mkF m 0 #[.val (.ref a1), .val (.int p1)] [])) t → G t) := ⟨_, fun _ k => k, fun t k => castTop (ef_rm1 m a1 p1) k⟩
  have pr1 : ∀ t, Steps p.tables e below (s₁.setTop (mkF m 15 #[.val (.ref a1), .val (.int p1)] [(.int (p1 + (1 : Int32))), (.ref a1), (.long (((y0.toInt64) &&& (255 : Int64)) <<< ((56 : Int32) &&& 0x3f).toInt64))])) t → G t := fun t k => pr0 t (by
      refine XS.aloadN X0.here hx rfl (hb hby d1_0) rfl rfl ?_
      refine XS.iloadN X0.here hx rfl (hb hby d1_1) rfl ?_
      refine ia_ldB X0 hx hZ e0 V_a1 (j := p1) i (by rw [hk]; exact own_n32 (by omega)) (by rw [hk]; exact own_nn (by omega)) (by omega) (w := y0) hy0 (g := (mkF m 2 #[.val (.ref a1), .val (.int p1)] [(.int p1), (.ref a1)])) rfl rfl (hb hby d1_2) _ ?_
      refine XS.i2l X0.here hx rfl (hb hby d1_3) rfl ?_
      refine X0.ldc2Long hx hown (mvT hZ (hw _ (List.mem_of_getElem? (i := 6) rfl))) (g := (mkF m 4 #[.val (.ref a1), .val (.int p1)] [(.long (y0.toInt64))])) rfl (hb hby d1_4) _ ?_
      refine XS.land X0.here hx rfl (hb hby d1_7) rfl ?_
      refine XS.bipush X0.here hx rfl (hb hby d1_8) ?_
      refine XS.lshl X0.here hx rfl (hb hby d1_10) rfl ?_
      refine XS.aloadN X0.here hx rfl (hb hby d1_11) rfl rfl ?_
      refine XS.iloadN X0.here hx rfl (hb hby d1_12) rfl ?_
      refine XS.iconst X0.here hx rfl (hb hby d1_13) ?_
      refine XS.iadd X0.here hx rfl (hb hby d1_14) rfl ?_
      exact k)
  have pr2 : ∀ t, Steps p.tables e below (s₁.setTop (mkF m 31 #[.val (.ref a1), .val (.int p1)] [(.long (y2.toInt64)), (.long ((((y0.toInt64) &&& (255 : Int64)) <<< ((56 : Int32) &&& 0x3f).toInt64) ||| (((y1.toInt64) &&& (255 : Int64)) <<< ((48 : Int32) &&& 0x3f).toInt64)))])) t → G t := fun t k => pr1 t (by
      refine ia_ldB X0 hx hZ e0 V_a1 (j := (p1 + (1 : Int32))) (i + 1) (own_ix (j := 1) hk (by omega)).1 (own_ix (j := 1) hk (by omega)).2 (by omega) (w := y1) hy1 (g := (mkF m 15 #[.val (.ref a1), .val (.int p1)] [(.int (p1 + (1 : Int32))), (.ref a1), (.long (((y0.toInt64) &&& (255 : Int64)) <<< ((56 : Int32) &&& 0x3f).toInt64))])) rfl rfl (hb hby d1_15) _ ?_
      refine XS.i2l X0.here hx rfl (hb hby d1_16) rfl ?_
      refine X0.ldc2Long hx hown (mvT hZ (hw _ (List.mem_of_getElem? (i := 6) rfl))) (g := (mkF m 17 #[.val (.ref a1), .val (.int p1)] [(.long (y1.toInt64)), (.long (((y0.toInt64) &&& (255 : Int64)) <<< ((56 : Int32) &&& 0x3f).toInt64))])) rfl (hb hby d1_17) _ ?_
      refine XS.land X0.here hx rfl (hb hby d1_20) rfl ?_
      refine XS.bipush X0.here hx rfl (hb hby d1_21) ?_
      refine XS.lshl X0.here hx rfl (hb hby d1_23) rfl ?_
      refine XS.lor X0.here hx rfl (hb hby d1_24) rfl ?_
      refine XS.aloadN X0.here hx rfl (hb hby d1_25) rfl rfl ?_
      refine XS.iloadN X0.here hx rfl (hb hby d1_26) rfl ?_
      refine XS.iconst X0.here hx rfl (hb hby d1_27) ?_
      refine XS.iadd X0.here hx rfl (hb hby d1_28) rfl ?_
      refine ia_ldB X0 hx hZ e0 V_a1 (j := (p1 + (2 : Int32))) (i + 2) (own_ix (j := 2) hk (by omega)).1 (own_ix (j := 2) hk (by omega)).2 (by omega) (w := y2) hy2 (g := (mkF m 29 #[.val (.ref a1), .val (.int p1)] [(.int (p1 + (2 : Int32))), (.ref a1), (.long ((((y0.toInt64) &&& (255 : Int64)) <<< ((56 : Int32) &&& 0x3f).toInt64) ||| (((y1.toInt64) &&& (255 : Int64)) <<< ((48 : Int32) &&& 0x3f).toInt64)))])) rfl rfl (hb hby d1_29) _ ?_
      refine XS.i2l X0.here hx rfl (hb hby d1_30) rfl ?_
      exact k)
  have pr3 : ∀ t, Steps p.tables e below (s₁.setTop (mkF m 48 #[.val (.ref a1), .val (.int p1)] [(.long (255 : Int64)), (.long (y3.toInt64)), (.long (((((y0.toInt64) &&& (255 : Int64)) <<< ((56 : Int32) &&& 0x3f).toInt64) ||| (((y1.toInt64) &&& (255 : Int64)) <<< ((48 : Int32) &&& 0x3f).toInt64)) ||| (((y2.toInt64) &&& (255 : Int64)) <<< ((40 : Int32) &&& 0x3f).toInt64)))])) t → G t := fun t k => pr2 t (by
      refine X0.ldc2Long hx hown (mvT hZ (hw _ (List.mem_of_getElem? (i := 6) rfl))) (g := (mkF m 31 #[.val (.ref a1), .val (.int p1)] [(.long (y2.toInt64)), (.long ((((y0.toInt64) &&& (255 : Int64)) <<< ((56 : Int32) &&& 0x3f).toInt64) ||| (((y1.toInt64) &&& (255 : Int64)) <<< ((48 : Int32) &&& 0x3f).toInt64)))])) rfl (hb hby d1_31) _ ?_
      refine XS.land X0.here hx rfl (hb hby d1_34) rfl ?_
      refine XS.bipush X0.here hx rfl (hb hby d1_35) ?_
      refine XS.lshl X0.here hx rfl (hb hby d1_37) rfl ?_
      refine XS.lor X0.here hx rfl (hb hby d1_38) rfl ?_
      refine XS.aloadN X0.here hx rfl (hb hby d1_39) rfl rfl ?_
      refine XS.iloadN X0.here hx rfl (hb hby d1_40) rfl ?_
      refine XS.iconst X0.here hx rfl (hb hby d1_41) ?_
      refine XS.iadd X0.here hx rfl (hb hby d1_42) rfl ?_
      refine ia_ldB X0 hx hZ e0 V_a1 (j := (p1 + (3 : Int32))) (i + 3) (own_ix (j := 3) hk (by omega)).1 (own_ix (j := 3) hk (by omega)).2 (by omega) (w := y3) hy3 (g := (mkF m 43 #[.val (.ref a1), .val (.int p1)] [(.int (p1 + (3 : Int32))), (.ref a1), (.long (((((y0.toInt64) &&& (255 : Int64)) <<< ((56 : Int32) &&& 0x3f).toInt64) ||| (((y1.toInt64) &&& (255 : Int64)) <<< ((48 : Int32) &&& 0x3f).toInt64)) ||| (((y2.toInt64) &&& (255 : Int64)) <<< ((40 : Int32) &&& 0x3f).toInt64)))])) rfl rfl (hb hby d1_43) _ ?_
      refine XS.i2l X0.here hx rfl (hb hby d1_44) rfl ?_
      refine X0.ldc2Long hx hown (mvT hZ (hw _ (List.mem_of_getElem? (i := 6) rfl))) (g := (mkF m 45 #[.val (.ref a1), .val (.int p1)] [(.long (y3.toInt64)), (.long (((((y0.toInt64) &&& (255 : Int64)) <<< ((56 : Int32) &&& 0x3f).toInt64) ||| (((y1.toInt64) &&& (255 : Int64)) <<< ((48 : Int32) &&& 0x3f).toInt64)) ||| (((y2.toInt64) &&& (255 : Int64)) <<< ((40 : Int32) &&& 0x3f).toInt64)))])) rfl (hb hby d1_45) _ ?_
      exact k)
  have pr4 : ∀ t, Steps p.tables e below (s₁.setTop (mkF m 63 #[.val (.ref a1), .val (.int p1)] [(.long ((y4.toInt64) &&& (255 : Int64))), (.long ((((((y0.toInt64) &&& (255 : Int64)) <<< ((56 : Int32) &&& 0x3f).toInt64) ||| (((y1.toInt64) &&& (255 : Int64)) <<< ((48 : Int32) &&& 0x3f).toInt64)) ||| (((y2.toInt64) &&& (255 : Int64)) <<< ((40 : Int32) &&& 0x3f).toInt64)) ||| (((y3.toInt64) &&& (255 : Int64)) <<< ((32 : Int32) &&& 0x3f).toInt64)))])) t → G t := fun t k => pr3 t (by
      refine XS.land X0.here hx rfl (hb hby d1_48) rfl ?_
      refine XS.bipush X0.here hx rfl (hb hby d1_49) ?_
      refine XS.lshl X0.here hx rfl (hb hby d1_51) rfl ?_
      refine XS.lor X0.here hx rfl (hb hby d1_52) rfl ?_
      refine XS.aloadN X0.here hx rfl (hb hby d1_53) rfl rfl ?_
      refine XS.iloadN X0.here hx rfl (hb hby d1_54) rfl ?_
      refine XS.iconst X0.here hx rfl (hb hby d1_55) ?_
      refine XS.iadd X0.here hx rfl (hb hby d1_56) rfl ?_
      refine ia_ldB X0 hx hZ e0 V_a1 (j := (p1 + (4 : Int32))) (i + 4) (own_ix (j := 4) hk (by omega)).1 (own_ix (j := 4) hk (by omega)).2 (by omega) (w := y4) hy4 (g := (mkF m 57 #[.val (.ref a1), .val (.int p1)] [(.int (p1 + (4 : Int32))), (.ref a1), (.long ((((((y0.toInt64) &&& (255 : Int64)) <<< ((56 : Int32) &&& 0x3f).toInt64) ||| (((y1.toInt64) &&& (255 : Int64)) <<< ((48 : Int32) &&& 0x3f).toInt64)) ||| (((y2.toInt64) &&& (255 : Int64)) <<< ((40 : Int32) &&& 0x3f).toInt64)) ||| (((y3.toInt64) &&& (255 : Int64)) <<< ((32 : Int32) &&& 0x3f).toInt64)))])) rfl rfl (hb hby d1_57) _ ?_
      refine XS.i2l X0.here hx rfl (hb hby d1_58) rfl ?_
      refine X0.ldc2Long hx hown (mvT hZ (hw _ (List.mem_of_getElem? (i := 6) rfl))) (g := (mkF m 59 #[.val (.ref a1), .val (.int p1)] [(.long (y4.toInt64)), (.long ((((((y0.toInt64) &&& (255 : Int64)) <<< ((56 : Int32) &&& 0x3f).toInt64) ||| (((y1.toInt64) &&& (255 : Int64)) <<< ((48 : Int32) &&& 0x3f).toInt64)) ||| (((y2.toInt64) &&& (255 : Int64)) <<< ((40 : Int32) &&& 0x3f).toInt64)) ||| (((y3.toInt64) &&& (255 : Int64)) <<< ((32 : Int32) &&& 0x3f).toInt64)))])) rfl (hb hby d1_59) _ ?_
      refine XS.land X0.here hx rfl (hb hby d1_62) rfl ?_
      exact k)
  have pr5 : ∀ t, Steps p.tables e below (s₁.setTop (mkF m 79 #[.val (.ref a1), .val (.int p1)] [(.int (16 : Int32)), (.long ((y5.toInt64) &&& (255 : Int64))), (.long (((((((y0.toInt64) &&& (255 : Int64)) <<< ((56 : Int32) &&& 0x3f).toInt64) ||| (((y1.toInt64) &&& (255 : Int64)) <<< ((48 : Int32) &&& 0x3f).toInt64)) ||| (((y2.toInt64) &&& (255 : Int64)) <<< ((40 : Int32) &&& 0x3f).toInt64)) ||| (((y3.toInt64) &&& (255 : Int64)) <<< ((32 : Int32) &&& 0x3f).toInt64)) ||| (((y4.toInt64) &&& (255 : Int64)) <<< ((24 : Int32) &&& 0x3f).toInt64)))])) t → G t := fun t k => pr4 t (by
      refine XS.bipush X0.here hx rfl (hb hby d1_63) ?_
      refine XS.lshl X0.here hx rfl (hb hby d1_65) rfl ?_
      refine XS.lor X0.here hx rfl (hb hby d1_66) rfl ?_
      refine XS.aloadN X0.here hx rfl (hb hby d1_67) rfl rfl ?_
      refine XS.iloadN X0.here hx rfl (hb hby d1_68) rfl ?_
      refine XS.iconst X0.here hx rfl (hb hby d1_69) ?_
      refine XS.iadd X0.here hx rfl (hb hby d1_70) rfl ?_
      refine ia_ldB X0 hx hZ e0 V_a1 (j := (p1 + (5 : Int32))) (i + 5) (own_ix (j := 5) hk (by omega)).1 (own_ix (j := 5) hk (by omega)).2 (by omega) (w := y5) hy5 (g := (mkF m 71 #[.val (.ref a1), .val (.int p1)] [(.int (p1 + (5 : Int32))), (.ref a1), (.long (((((((y0.toInt64) &&& (255 : Int64)) <<< ((56 : Int32) &&& 0x3f).toInt64) ||| (((y1.toInt64) &&& (255 : Int64)) <<< ((48 : Int32) &&& 0x3f).toInt64)) ||| (((y2.toInt64) &&& (255 : Int64)) <<< ((40 : Int32) &&& 0x3f).toInt64)) ||| (((y3.toInt64) &&& (255 : Int64)) <<< ((32 : Int32) &&& 0x3f).toInt64)) ||| (((y4.toInt64) &&& (255 : Int64)) <<< ((24 : Int32) &&& 0x3f).toInt64)))])) rfl rfl (hb hby d1_71) _ ?_
      refine XS.i2l X0.here hx rfl (hb hby d1_72) rfl ?_
      refine X0.ldc2Long hx hown (mvT hZ (hw _ (List.mem_of_getElem? (i := 6) rfl))) (g := (mkF m 73 #[.val (.ref a1), .val (.int p1)] [(.long (y5.toInt64)), (.long (((((((y0.toInt64) &&& (255 : Int64)) <<< ((56 : Int32) &&& 0x3f).toInt64) ||| (((y1.toInt64) &&& (255 : Int64)) <<< ((48 : Int32) &&& 0x3f).toInt64)) ||| (((y2.toInt64) &&& (255 : Int64)) <<< ((40 : Int32) &&& 0x3f).toInt64)) ||| (((y3.toInt64) &&& (255 : Int64)) <<< ((32 : Int32) &&& 0x3f).toInt64)) ||| (((y4.toInt64) &&& (255 : Int64)) <<< ((24 : Int32) &&& 0x3f).toInt64)))])) rfl (hb hby d1_73) _ ?_
      refine XS.land X0.here hx rfl (hb hby d1_76) rfl ?_
      refine XS.bipush X0.here hx rfl (hb hby d1_77) ?_
      exact k)
  have pr6 : ∀ t, Steps p.tables e below (s₁.setTop (mkF m 95 #[.val (.ref a1), .val (.int p1)] [(.long (((y6.toInt64) &&& (255 : Int64)) <<< ((8 : Int32) &&& 0x3f).toInt64)), (.long ((((((((y0.toInt64) &&& (255 : Int64)) <<< ((56 : Int32) &&& 0x3f).toInt64) ||| (((y1.toInt64) &&& (255 : Int64)) <<< ((48 : Int32) &&& 0x3f).toInt64)) ||| (((y2.toInt64) &&& (255 : Int64)) <<< ((40 : Int32) &&& 0x3f).toInt64)) ||| (((y3.toInt64) &&& (255 : Int64)) <<< ((32 : Int32) &&& 0x3f).toInt64)) ||| (((y4.toInt64) &&& (255 : Int64)) <<< ((24 : Int32) &&& 0x3f).toInt64)) ||| (((y5.toInt64) &&& (255 : Int64)) <<< ((16 : Int32) &&& 0x3f).toInt64)))])) t → G t := fun t k => pr5 t (by
      refine XS.lshl X0.here hx rfl (hb hby d1_79) rfl ?_
      refine XS.lor X0.here hx rfl (hb hby d1_80) rfl ?_
      refine XS.aloadN X0.here hx rfl (hb hby d1_81) rfl rfl ?_
      refine XS.iloadN X0.here hx rfl (hb hby d1_82) rfl ?_
      refine XS.bipush X0.here hx rfl (hb hby d1_83) ?_
      refine XS.iadd X0.here hx rfl (hb hby d1_85) rfl ?_
      refine ia_ldB X0 hx hZ e0 V_a1 (j := (p1 + (6 : Int32))) (i + 6) (own_ix (j := 6) hk (by omega)).1 (own_ix (j := 6) hk (by omega)).2 (by omega) (w := y6) hy6 (g := (mkF m 86 #[.val (.ref a1), .val (.int p1)] [(.int (p1 + (6 : Int32))), (.ref a1), (.long ((((((((y0.toInt64) &&& (255 : Int64)) <<< ((56 : Int32) &&& 0x3f).toInt64) ||| (((y1.toInt64) &&& (255 : Int64)) <<< ((48 : Int32) &&& 0x3f).toInt64)) ||| (((y2.toInt64) &&& (255 : Int64)) <<< ((40 : Int32) &&& 0x3f).toInt64)) ||| (((y3.toInt64) &&& (255 : Int64)) <<< ((32 : Int32) &&& 0x3f).toInt64)) ||| (((y4.toInt64) &&& (255 : Int64)) <<< ((24 : Int32) &&& 0x3f).toInt64)) ||| (((y5.toInt64) &&& (255 : Int64)) <<< ((16 : Int32) &&& 0x3f).toInt64)))])) rfl rfl (hb hby d1_86) _ ?_
      refine XS.i2l X0.here hx rfl (hb hby d1_87) rfl ?_
      refine X0.ldc2Long hx hown (mvT hZ (hw _ (List.mem_of_getElem? (i := 6) rfl))) (g := (mkF m 88 #[.val (.ref a1), .val (.int p1)] [(.long (y6.toInt64)), (.long ((((((((y0.toInt64) &&& (255 : Int64)) <<< ((56 : Int32) &&& 0x3f).toInt64) ||| (((y1.toInt64) &&& (255 : Int64)) <<< ((48 : Int32) &&& 0x3f).toInt64)) ||| (((y2.toInt64) &&& (255 : Int64)) <<< ((40 : Int32) &&& 0x3f).toInt64)) ||| (((y3.toInt64) &&& (255 : Int64)) <<< ((32 : Int32) &&& 0x3f).toInt64)) ||| (((y4.toInt64) &&& (255 : Int64)) <<< ((24 : Int32) &&& 0x3f).toInt64)) ||| (((y5.toInt64) &&& (255 : Int64)) <<< ((16 : Int32) &&& 0x3f).toInt64)))])) rfl (hb hby d1_88) _ ?_
      refine XS.land X0.here hx rfl (hb hby d1_91) rfl ?_
      refine XS.bipush X0.here hx rfl (hb hby d1_92) ?_
      refine XS.lshl X0.here hx rfl (hb hby d1_94) rfl ?_
      exact k)
  have pr7 : ∀ t, Steps p.tables e below (s₁.setTop (mkF m 108 #[.val (.ref a1), .val (.int p1)] [(.long ((((((((((y0.toInt64) &&& (255 : Int64)) <<< ((56 : Int32) &&& 0x3f).toInt64) ||| (((y1.toInt64) &&& (255 : Int64)) <<< ((48 : Int32) &&& 0x3f).toInt64)) ||| (((y2.toInt64) &&& (255 : Int64)) <<< ((40 : Int32) &&& 0x3f).toInt64)) ||| (((y3.toInt64) &&& (255 : Int64)) <<< ((32 : Int32) &&& 0x3f).toInt64)) ||| (((y4.toInt64) &&& (255 : Int64)) <<< ((24 : Int32) &&& 0x3f).toInt64)) ||| (((y5.toInt64) &&& (255 : Int64)) <<< ((16 : Int32) &&& 0x3f).toInt64)) ||| (((y6.toInt64) &&& (255 : Int64)) <<< ((8 : Int32) &&& 0x3f).toInt64)) ||| ((y7.toInt64) &&& (255 : Int64))))])) t → G t := fun t k => pr6 t (by
      refine XS.lor X0.here hx rfl (hb hby d1_95) rfl ?_
      refine XS.aloadN X0.here hx rfl (hb hby d1_96) rfl rfl ?_
      refine XS.iloadN X0.here hx rfl (hb hby d1_97) rfl ?_
      refine XS.bipush X0.here hx rfl (hb hby d1_98) ?_
      refine XS.iadd X0.here hx rfl (hb hby d1_100) rfl ?_
      refine ia_ldB X0 hx hZ e0 V_a1 (j := (p1 + (7 : Int32))) (i + 7) (own_ix (j := 7) hk (by omega)).1 (own_ix (j := 7) hk (by omega)).2 (by omega) (w := y7) hy7 (g := (mkF m 101 #[.val (.ref a1), .val (.int p1)] [(.int (p1 + (7 : Int32))), (.ref a1), (.long (((((((((y0.toInt64) &&& (255 : Int64)) <<< ((56 : Int32) &&& 0x3f).toInt64) ||| (((y1.toInt64) &&& (255 : Int64)) <<< ((48 : Int32) &&& 0x3f).toInt64)) ||| (((y2.toInt64) &&& (255 : Int64)) <<< ((40 : Int32) &&& 0x3f).toInt64)) ||| (((y3.toInt64) &&& (255 : Int64)) <<< ((32 : Int32) &&& 0x3f).toInt64)) ||| (((y4.toInt64) &&& (255 : Int64)) <<< ((24 : Int32) &&& 0x3f).toInt64)) ||| (((y5.toInt64) &&& (255 : Int64)) <<< ((16 : Int32) &&& 0x3f).toInt64)) ||| (((y6.toInt64) &&& (255 : Int64)) <<< ((8 : Int32) &&& 0x3f).toInt64)))])) rfl rfl (hb hby d1_101) _ ?_
      refine XS.i2l X0.here hx rfl (hb hby d1_102) rfl ?_
      refine X0.ldc2Long hx hown (mvT hZ (hw _ (List.mem_of_getElem? (i := 6) rfl))) (g := (mkF m 103 #[.val (.ref a1), .val (.int p1)] [(.long (y7.toInt64)), (.long (((((((((y0.toInt64) &&& (255 : Int64)) <<< ((56 : Int32) &&& 0x3f).toInt64) ||| (((y1.toInt64) &&& (255 : Int64)) <<< ((48 : Int32) &&& 0x3f).toInt64)) ||| (((y2.toInt64) &&& (255 : Int64)) <<< ((40 : Int32) &&& 0x3f).toInt64)) ||| (((y3.toInt64) &&& (255 : Int64)) <<< ((32 : Int32) &&& 0x3f).toInt64)) ||| (((y4.toInt64) &&& (255 : Int64)) <<< ((24 : Int32) &&& 0x3f).toInt64)) ||| (((y5.toInt64) &&& (255 : Int64)) <<< ((16 : Int32) &&& 0x3f).toInt64)) ||| (((y6.toInt64) &&& (255 : Int64)) <<< ((8 : Int32) &&& 0x3f).toInt64)))])) rfl (hb hby d1_103) _ ?_
      refine XS.land X0.here hx rfl (hb hby d1_106) rfl ?_
      refine XS.lor X0.here hx rfl (hb hby d1_107) rfl ?_
      exact k)
  have hret : ((((((((((y0.toInt64) &&& (255 : Int64)) <<< ((56 : Int32) &&& 0x3f).toInt64) ||| (((y1.toInt64) &&& (255 : Int64)) <<< ((48 : Int32) &&& 0x3f).toInt64)) ||| (((y2.toInt64) &&& (255 : Int64)) <<< ((40 : Int32) &&& 0x3f).toInt64)) ||| (((y3.toInt64) &&& (255 : Int64)) <<< ((32 : Int32) &&& 0x3f).toInt64)) ||| (((y4.toInt64) &&& (255 : Int64)) <<< ((24 : Int32) &&& 0x3f).toInt64)) ||| (((y5.toInt64) &&& (255 : Int64)) <<< ((16 : Int32) &&& 0x3f).toInt64)) ||| (((y6.toInt64) &&& (255 : Int64)) <<< ((8 : Int32) &&& 0x3f).toInt64)) ||| ((y7.toInt64) &&& (255 : Int64))) = own_long y0 y1 y2 y3 y4 y5 y6 y7 := rfl
  rw [hret] at pr7
  obtain ⟨fs, hr, hrun, hended, hW, hsame⟩ := X0.leave (v := some (.long (own_long y0 y1 y2 y3 y4 y5 y6 y7))) (fun h => by rw [Bd.returns] at h; cases h)
  refine ⟨_, _, hG _ (pr7 _ ?_), hrun, hended, _, _, rfl, ?_, ⟨_, rfl⟩, hW, hsame.mono (by decide) (by decide)⟩
  · jvm_step X0.here [X0.here.top, hx, (hb hby d1_108), X0.method', Bd.returns, narrow]
    first | (intro acts; rw [hr _ acts rfl rfl rfl]) | rw [hr _ _ rfl rfl rfl]
    exact Steps.refl _
  · show Q1 y0 y1 y2 y3 y4 y5 y6 y7 h0 n0 _ s₁.heap _
    rw [e0]
    exact ⟨rfl, N0, rfl⟩
theorem own_at5 (p2 kx : Int32) (h : kx = ((p2 &&& (2147483647 : Int32)) - ((p2 &&& (2147483647 : Int32)) / (5 : Int32)) * (5 : Int32))) : ∃ i : Nat, i ≤ 4 ∧ kx = Int32.ofNat i := by
  have h0 := own_mask31 p2
  have hr := own_rem (p2 &&& 2147483647) 5 h0 (by decide)
  rw [show (5 : Int32).toInt = 5 from rfl] at hr
  rw [← h] at hr
  exact ⟨kx.toInt.toNat, by omega, own_ofI (by omega)⟩
theorem own_gs (l : List Int32) (i j : Nat) (y : Int32) (h : i ≠ j) : (l.set i y).getD j 0 = l.getD j 0 := by
  simp only [List.getD_eq_getElem?_getD, List.getElem?_set_ne h]
theorem own_ge (l : List Int32) (i : Nat) (y : Int32) (h : i < l.length) : (l.set i y).getD i 0 = y := by
  simp [List.getD_eq_getElem?_getD, h]
theorem own_eight {vs us : List Int32} {i : Nat} {y0 y1 y2 y3 y4 y5 y6 y7 : Int32} (hl : vs.length = 12) (hi : i ≤ 4) (h : us = ((((((((vs.set i y0).set (i + 1) y1).set (i + 2) y2).set (i + 3) y3).set (i + 4) y4).set (i + 5) y5).set (i + 6) y6).set (i + 7) y7)) :
    us.length = 12 ∧ us.getD (i + 0) 0 = y0 ∧ us.getD (i + 1) 0 = y1 ∧ us.getD (i + 2) 0 = y2 ∧ us.getD (i + 3) 0 = y3 ∧ us.getD (i + 4) 0 = y4 ∧ us.getD (i + 5) 0 = y5 ∧ us.getD (i + 6) 0 = y6 ∧ us.getD (i + 7) 0 = y7 := by
  subst h
  refine ⟨by simp [hl], ?_, ?_, ?_, ?_, ?_, ?_, ?_, ?_⟩
  · rw [own_gs _ _ _ _ (by omega), own_gs _ _ _ _ (by omega), own_gs _ _ _ _ (by omega), own_gs _ _ _ _ (by omega), own_gs _ _ _ _ (by omega), own_gs _ _ _ _ (by omega), own_gs _ _ _ _ (by omega)]
    exact own_ge _ _ _ (by omega)
  · rw [own_gs _ _ _ _ (by omega), own_gs _ _ _ _ (by omega), own_gs _ _ _ _ (by omega), own_gs _ _ _ _ (by omega), own_gs _ _ _ _ (by omega), own_gs _ _ _ _ (by omega)]
    exact own_ge _ _ _ (by simp only [List.length_set]; omega)
  · rw [own_gs _ _ _ _ (by omega), own_gs _ _ _ _ (by omega), own_gs _ _ _ _ (by omega), own_gs _ _ _ _ (by omega), own_gs _ _ _ _ (by omega)]
    exact own_ge _ _ _ (by simp only [List.length_set]; omega)
  · rw [own_gs _ _ _ _ (by omega), own_gs _ _ _ _ (by omega), own_gs _ _ _ _ (by omega), own_gs _ _ _ _ (by omega)]
    exact own_ge _ _ _ (by simp only [List.length_set]; omega)
  · rw [own_gs _ _ _ _ (by omega), own_gs _ _ _ _ (by omega), own_gs _ _ _ _ (by omega)]
    exact own_ge _ _ _ (by simp only [List.length_set]; omega)
  · rw [own_gs _ _ _ _ (by omega), own_gs _ _ _ _ (by omega)]
    exact own_ge _ _ _ (by simp only [List.length_set]; omega)
  · rw [own_gs _ _ _ _ (by omega)]
    exact own_ge _ _ _ (by simp only [List.length_set]; omega)
  · exact own_ge _ _ _ (by simp only [List.length_set]; omega)
theorem own_sx (U : BitVec 64) : ((((U.signExtend 32).signExtend 8).signExtend 32).signExtend 64) &&& 255#64 = U &&& 255#64 := by
  apply BitVec.eq_of_getLsbD_eq
  intro i hi
  rw [BitVec.getLsbD_and, BitVec.getLsbD_and]
  by_cases h : i < 8
  · have h1 : i < 32 := by omega
    have h2 : i < 64 := by omega
    simp only [BitVec.getLsbD_signExtend, h, h1, h2, decide_true, Bool.true_and, if_true]
  · have : (255#64).getLsbD i = false := by
      rw [BitVec.getLsbD, BitVec.toNat_ofNat]
      exact Nat.testBit_lt_two_pow (Nat.lt_of_lt_of_le (show 255 % 2 ^ 64 < 2 ^ 8 by decide) (Nat.pow_le_pow_right (by decide) (by omega)))
    rw [this, Bool.and_false, Bool.and_false]
theorem own_b255 (j : Nat) : (255#64).getLsbD j = decide (j < 8) := by
  by_cases h : j < 8
  · match j, h with
    | 0, _ => rfl
    | 1, _ => rfl
    | 2, _ => rfl
    | 3, _ => rfl
    | 4, _ => rfl
    | 5, _ => rfl
    | 6, _ => rfl
    | 7, _ => rfl
  · have : (255#64).getLsbD j = false := by
      rw [BitVec.getLsbD, BitVec.toNat_ofNat]
      exact Nat.testBit_lt_two_pow (Nat.lt_of_lt_of_le (show 255 % 2 ^ 64 < 2 ^ 8 by decide) (Nat.pow_le_pow_right (by decide) (by omega)))
    rw [this]; simp [h]
theorem own_piece (V : BitVec 64) (s i : Nat) (hi : i < 64) : (((V >>> s) &&& 255#64) <<< s).getLsbD i = (decide (s ≤ i ∧ i < s + 8) && V.getLsbD i) := by
  rw [BitVec.getLsbD_shiftLeft, BitVec.getLsbD_and, own_b255, BitVec.getLsbD_ushiftRight]
  by_cases h : s ≤ i
  · have e : s + (i - s) = i := by omega
    rw [e]
    by_cases h2 : i < s + 8
    · have h3 : i - s < 8 := by omega
      simp [hi, h, h2, h3, Nat.not_lt.mpr h]
    · have h3 : ¬ i - s < 8 := by omega
      simp [h2, h3]
  · have h4 : i < s := by omega
    simp [h, h4]
theorem own_glue (V : BitVec 64) : (((((((((V >>> 56) &&& 255#64) <<< 56) ||| (((V >>> 48) &&& 255#64) <<< 48)) ||| (((V >>> 40) &&& 255#64) <<< 40)) ||| (((V >>> 32) &&& 255#64) <<< 32)) ||| (((V >>> 24) &&& 255#64) <<< 24)) ||| (((V >>> 16) &&& 255#64) <<< 16)) ||| (((V >>> 8) &&& 255#64) <<< 8)) ||| (((V >>> 0) &&& 255#64) <<< 0) = V := by
  apply BitVec.eq_of_getLsbD_eq
  intro i hi
  simp only [BitVec.getLsbD_or, own_piece V _ i hi]
  cases V.getLsbD i
  · simp
  · have : i < 8 ∨ (8 ≤ i ∧ i < 16) ∨ (16 ≤ i ∧ i < 24) ∨ (24 ≤ i ∧ i < 32) ∨ (32 ≤ i ∧ i < 40) ∨ (40 ≤ i ∧ i < 48) ∨ (48 ≤ i ∧ i < 56) ∨ (56 ≤ i ∧ i < 64) := by omega
    simp only [Bool.and_true]
    rcases this with h | h | h | h | h | h | h | h <;> simp [h]
theorem own_shl {x k : Int64} {n : Nat} (hk : (k.toBitVec.smod 64).toNat = n) : (x <<< k).toBitVec = x.toBitVec <<< n := by
  subst hk; rfl
theorem own_shr {x : Int64} {k : UInt64} {n : Nat} (hk : (k.toBitVec % 64).toNat = n) : ((x.toUInt64 >>> k).toInt64).toBitVec = x.toBitVec >>> n := by
  subst hk; rfl
theorem own_yb {u : Int64} {y : Int32} (h : y = u.toInt32.toInt8.toInt32) : (y.toInt64 &&& 255).toBitVec = u.toBitVec &&& 255#64 := by
  subst h; exact own_sx u.toBitVec
theorem own_back (p1 : Int64) (y0 y1 y2 y3 y4 y5 y6 y7 : Int32) (hy0 : y0 = ((((p1.toUInt64 >>> ((56 : Int32) &&& 0x3f).toInt64.toUInt64).toInt64).toInt32).toInt8.toInt32)) (hy1 : y1 = ((((p1.toUInt64 >>> ((48 : Int32) &&& 0x3f).toInt64.toUInt64).toInt64).toInt32).toInt8.toInt32)) (hy2 : y2 = ((((p1.toUInt64 >>> ((40 : Int32) &&& 0x3f).toInt64.toUInt64).toInt64).toInt32).toInt8.toInt32)) (hy3 : y3 = ((((p1.toUInt64 >>> ((32 : Int32) &&& 0x3f).toInt64.toUInt64).toInt64).toInt32).toInt8.toInt32)) (hy4 : y4 = ((((p1.toUInt64 >>> ((24 : Int32) &&& 0x3f).toInt64.toUInt64).toInt64).toInt32).toInt8.toInt32)) (hy5 : y5 = ((((p1.toUInt64 >>> ((16 : Int32) &&& 0x3f).toInt64.toUInt64).toInt64).toInt32).toInt8.toInt32)) (hy6 : y6 = ((((p1.toUInt64 >>> ((8 : Int32) &&& 0x3f).toInt64.toUInt64).toInt64).toInt32).toInt8.toInt32)) (hy7 : y7 = ((p1.toInt32).toInt8.toInt32)) : own_long y0 y1 y2 y3 y4 y5 y6 y7 = p1 := by
  apply Int64.toBitVec_inj.mp
  refine Eq.trans ?_ (own_glue p1.toBitVec)
  have e0 := (own_yb hy0).trans (congrArg (· &&& 255#64) (own_shr (n := 56) (by decide)))
  have e1 := (own_yb hy1).trans (congrArg (· &&& 255#64) (own_shr (n := 48) (by decide)))
  have e2 := (own_yb hy2).trans (congrArg (· &&& 255#64) (own_shr (n := 40) (by decide)))
  have e3 := (own_yb hy3).trans (congrArg (· &&& 255#64) (own_shr (n := 32) (by decide)))
  have e4 := (own_yb hy4).trans (congrArg (· &&& 255#64) (own_shr (n := 24) (by decide)))
  have e5 := (own_yb hy5).trans (congrArg (· &&& 255#64) (own_shr (n := 16) (by decide)))
  have e6 := (own_yb hy6).trans (congrArg (· &&& 255#64) (own_shr (n := 8) (by decide)))
  have e7 := own_yb hy7
  rw [own_long]
  simp only [Int64.toBitVec_or]
  rw [own_shl (n := 56) (by decide), own_shl (n := 48) (by decide), own_shl (n := 40) (by decide), own_shl (n := 32) (by decide), own_shl (n := 24) (by decide), own_shl (n := 16) (by decide), own_shl (n := 8) (by decide)]
  rw [e0, e1, e2, e3, e4, e5, e6, e7, BitVec.shiftLeft_zero]
  rfl
theorem ef_rm0 (m : MethodId) (x0 : Int64) (x1 : Int32) (x2 : Int64) (x3 : Int32) : entryFrame m #[(.long x0), (.int x1), (.long x2), (.int x3)] maxLocals = mkF m 0 #[.val (.long x0), .second, .val (.int x1), .val (.long x2), .second, .val (.int x3), .unset, .unset] [] := by first | (simp [entryFrame, mkF, argsToLocals, Value.category, maxLocals]; done) | rfl
def Q0 (n0 : Nat) (v : Option Value) (h : Heap) (L : List Loc) : Prop := v = some (.int 1) ∧ Fr n0 L
set_option maxRecDepth 65536 in
set_option maxHeartbeats 40000000 in
theorem rm0 (l : Launch) (Z : State) (a0 : Array Value) (hw : ∀ d ∈ tables_1, d.before a0 Z = true) (ws : List Jvm.Cond) (p1 : Int64) (p2 : Int32) (p3 : Int64) (p4 : Int32)  (h0 : Heap) (n0 : Nat) (Z0 : n0 ≤ h0.size)  :
    MetFree l x (head1 (Jvm.Cond.code x code maxLocals ret :: ws) room_1) (fun a U => a = #[(.long p1), (.int p2), (.long p3), (.int p4)] ∧ Z.Warmed39 U.vm ∧ U.heap = h0) (fun _ _ _ _ _ => True) (fun _ U o U' => ∃ v L, o = .returned v ∧ Q0 n0 v U'.heap L ∧ FrameEnd U o U' L room_1.cells room_1.slots) := by
  refine MetFree.of_bodySF (plainFor_of_name pn_1) hisR ?_
  intro p e s m args below meth c s₁ Bd hml0 hP hK
  obtain ⟨rfl, hZ, hh⟩ := hP
  have hx := Bd.exec
  have hby := Bd.bytes
  have hml : c.maxLocals = 8 := hml0
  have hown : s.vm.findClass "com/example/gneiss/gneiss/store/PageLongAtPinLaw" = some m.cls := findClass_of_methodNamed Bd.named
  have hnm := (name_of_methodNamed Bd.named Bd.method).1
  have X0 : Stand p l e room_1 s m #[(.long p1), (.int p2), (.long p3), (.int p4)] below meth c s₁ [] 0 0 := Stand.of_body Bd
  have e0 : s₁.heap = h0 := by rw [← hh, Bd.state]; rfl
  have N0 := Fr.nil n0
  obtain ⟨G, hG, pr0⟩ : ∃ G : State → Prop, (∀ t, G t → Steps p.tables e below (s₁.setTop (entryFrame m #[(.long p1), (.int p2), (.long p3), (.int p4)] maxLocals)) t) ∧ (∀ t, Steps p.tables e below (s₁.setTop (mkF m 0 #[.val (.long p1), .second, .val (.int p2), .val (.long p3), .second, .val (.int p4), .unset, .unset] [])) t → G t) := ⟨_, fun _ k => k, fun t k => castTop (ef_rm0 m p1 p2 p3 p4) k⟩
  have pr8 : ∀ t, Steps p.tables e below (s₁.setTop (mkF m 8 #[.val (.long p1), .second, .val (.int p2), .val (.long p3), .second, .val (.int p4), .val (.int ((p2 &&& (2147483647 : Int32)) - ((p2 &&& (2147483647 : Int32)) / (5 : Int32)) * (5 : Int32))), .unset] [])) t → G t := fun t k => pr0 t (by
      refine XS.iloadN X0.here hx rfl (hb hby at_0) rfl ?_
      refine X0.ldcInt hx hown (mvT hZ (hw _ (List.mem_of_getElem? (i := 0) rfl))) (g := (mkF m 1 #[.val (.long p1), .second, .val (.int p2), .val (.long p3), .second, .val (.int p4), .unset, .unset] [(.int p2)])) rfl (hb hby at_1) _ ?_
      refine XS.iand X0.here hx rfl (hb hby at_3) rfl ?_
      refine XS.iconst X0.here hx rfl (hb hby at_4) ?_
      refine XS.irem X0.here hx rfl (hb hby at_5) rfl (by decide) ?_
      refine XS.istore X0.here hx rfl (hb hby at_6) rfl (l' := #[.val (.long p1), .second, .val (.int p2), .val (.long p3), .second, .val (.int p4), .val (.int ((p2 &&& (2147483647 : Int32)) - ((p2 &&& (2147483647 : Int32)) / (5 : Int32)) * (5 : Int32))), .unset]) rfl ?_
      exact k)
  obtain ⟨kx, hkx⟩ : ∃ z : Int32, z = ((p2 &&& (2147483647 : Int32)) - ((p2 &&& (2147483647 : Int32)) / (5 : Int32)) * (5 : Int32)) := ⟨_, rfl⟩
  rw [← hkx] at pr8
  obtain ⟨i, hi4, ei⟩ := own_at5 p2 kx hkx
  have pr9 : ∀ t, Steps p.tables e below (s₁.setTop (mkF m 10 #[.val (.long p1), .second, .val (.int p2), .val (.long p3), .second, .val (.int p4), .val (.int kx), .unset] [(.int (12 : Int32))])) t → G t := fun t k => pr8 t (by
      refine XS.bipush X0.here hx rfl (hb hby at_8) ?_
      exact k)
  obtain ⟨T10, h10, k10, X10, e10, E10, A10, st10⟩ := newP X0 hx hZ (hw _ (List.mem_of_getElem? (i := 1) rfl)) e0 (g := (mkF m 10 #[.val (.long p1), .second, .val (.int p2), .val (.long p3), .second, .val (.int p4), .val (.int kx), .unset] [(.int (12 : Int32))])) rfl (hb hby at_10) rfl (by decide) (cap := 12) (by decide) (by decide) (by decide) (by decide)
  obtain ⟨b, g10⟩ : ∃ z, z = h0.size := ⟨_, rfl⟩
  rw [← g10] at A10 st10
  have g_b : n0 ≤ b := Nat.le_trans Z0 (Nat.le_of_eq g10.symm)
  have V_b : IA Z h10 b k10 .byte (12 : Int32) (List.replicate 12 0) := IA.new A10 (by decide) rfl rfl
  replace V_b : IA Z h10 b k10 .byte (12 : Int32) [0, 0, 0, 0, 0, 0, 0, 0, 0, 0, 0, 0] := V_b
  have Z10 : n0 ≤ h10.size := Nat.le_trans Z0 E10.1
  have pr11 : ∀ t, Steps p.tables e below (T10.setTop (mkF m 12 #[.val (.long p1), .second, .val (.int p2), .val (.long p3), .second, .val (.int p4), .val (.int kx), .unset] [(.ref b)])) t → G t := fun t k => pr9 t (st10 t k)
  have pr12 : ∀ t, Steps p.tables e below (T10.setTop (mkF m 23 #[.val (.long p1), .second, .val (.int p2), .val (.long p3), .second, .val (.int p4), .val (.int kx), .val (.ref b)] [(.int ((((p3.toUInt64 >>> ((56 : Int32) &&& 0x3f).toInt64.toUInt64).toInt64).toInt32).toInt8.toInt32)), (.int (0 : Int32)), (.ref b)])) t → G t := fun t k => pr11 t (by
      refine XS.astore X10.here hx rfl (hb hby at_12) rfl rfl (l' := #[.val (.long p1), .second, .val (.int p2), .val (.long p3), .second, .val (.int p4), .val (.int kx), .val (.ref b)]) rfl ?_
      refine XS.aload X10.here hx rfl (hb hby at_14) rfl rfl ?_
      refine XS.iconst X10.here hx rfl (hb hby at_16) ?_
      refine XS.lloadN X10.here hx rfl (hb hby at_17) rfl ?_
      refine XS.bipush X10.here hx rfl (hb hby at_18) ?_
      refine XS.lushr X10.here hx rfl (hb hby at_20) rfl ?_
      refine XS.l2i X10.here hx rfl (hb hby at_21) rfl ?_
      refine XS.i2b X10.here hx rfl (hb hby at_22) rfl ?_
      exact k)
  obtain ⟨c0, hc0⟩ : ∃ z : Int32, z = ((((p3.toUInt64 >>> ((56 : Int32) &&& 0x3f).toInt64.toUInt64).toInt64).toInt32).toInt8.toInt32) := ⟨_, rfl⟩
  rw [← hc0] at pr12
  obtain ⟨T13, h13, X13, e13, W13, V13, st13⟩ := ia_stB X10 hx hZ e10 V_b (j := (0 : Int32)) 0 rfl (by decide) (Nat.le_of_ble_eq_true rfl) (y := c0) (by rw [hc0]; exact own_narB _) (g := (mkF m 23 #[.val (.long p1), .second, .val (.int p2), .val (.long p3), .second, .val (.int p4), .val (.int kx), .val (.ref b)] [(.int c0), (.int (0 : Int32)), (.ref b)])) rfl rfl (hb hby at_23)
  replace V_b := V13
  have N13 := Fr.snoc X13 N0 g_b
  have Z13 : n0 ≤ h13.size := Nat.le_trans Z10 (Keep.of_wr W13).1
  have pr14 : ∀ t, Steps p.tables e below (T13.setTop (mkF m 24 #[.val (.long p1), .second, .val (.int p2), .val (.long p3), .second, .val (.int p4), .val (.int kx), .val (.ref b)] [])) t → G t := fun t k => pr12 t (st13 t k)
  have pr15 : ∀ t, Steps p.tables e below (T13.setTop (mkF m 33 #[.val (.long p1), .second, .val (.int p2), .val (.long p3), .second, .val (.int p4), .val (.int kx), .val (.ref b)] [(.int ((((p3.toUInt64 >>> ((48 : Int32) &&& 0x3f).toInt64.toUInt64).toInt64).toInt32).toInt8.toInt32)), (.int (1 : Int32)), (.ref b)])) t → G t := fun t k => pr14 t (by
      refine XS.aload X13.here hx rfl (hb hby at_24) rfl rfl ?_
      refine XS.iconst X13.here hx rfl (hb hby at_26) ?_
      refine XS.lloadN X13.here hx rfl (hb hby at_27) rfl ?_
      refine XS.bipush X13.here hx rfl (hb hby at_28) ?_
      refine XS.lushr X13.here hx rfl (hb hby at_30) rfl ?_
      refine XS.l2i X13.here hx rfl (hb hby at_31) rfl ?_
      refine XS.i2b X13.here hx rfl (hb hby at_32) rfl ?_
      exact k)
  obtain ⟨c1, hc1⟩ : ∃ z : Int32, z = ((((p3.toUInt64 >>> ((48 : Int32) &&& 0x3f).toInt64.toUInt64).toInt64).toInt32).toInt8.toInt32) := ⟨_, rfl⟩
  rw [← hc1] at pr15
  obtain ⟨T16, h16, X16, e16, W16, V16, st16⟩ := ia_stB X13 hx hZ e13 V_b (j := (1 : Int32)) 1 rfl (by decide) (Nat.le_of_ble_eq_true rfl) (y := c1) (by rw [hc1]; exact own_narB _) (g := (mkF m 33 #[.val (.long p1), .second, .val (.int p2), .val (.long p3), .second, .val (.int p4), .val (.int kx), .val (.ref b)] [(.int c1), (.int (1 : Int32)), (.ref b)])) rfl rfl (hb hby at_33)
  replace V_b := V16
  have N16 := Fr.snoc X16 N13 g_b
  have Z16 : n0 ≤ h16.size := Nat.le_trans Z13 (Keep.of_wr W16).1
  have pr17 : ∀ t, Steps p.tables e below (T16.setTop (mkF m 34 #[.val (.long p1), .second, .val (.int p2), .val (.long p3), .second, .val (.int p4), .val (.int kx), .val (.ref b)] [])) t → G t := fun t k => pr15 t (st16 t k)
  have pr18 : ∀ t, Steps p.tables e below (T16.setTop (mkF m 43 #[.val (.long p1), .second, .val (.int p2), .val (.long p3), .second, .val (.int p4), .val (.int kx), .val (.ref b)] [(.int ((((p3.toUInt64 >>> ((40 : Int32) &&& 0x3f).toInt64.toUInt64).toInt64).toInt32).toInt8.toInt32)), (.int (2 : Int32)), (.ref b)])) t → G t := fun t k => pr17 t (by
      refine XS.aload X16.here hx rfl (hb hby at_34) rfl rfl ?_
      refine XS.iconst X16.here hx rfl (hb hby at_36) ?_
      refine XS.lloadN X16.here hx rfl (hb hby at_37) rfl ?_
      refine XS.bipush X16.here hx rfl (hb hby at_38) ?_
      refine XS.lushr X16.here hx rfl (hb hby at_40) rfl ?_
      refine XS.l2i X16.here hx rfl (hb hby at_41) rfl ?_
      refine XS.i2b X16.here hx rfl (hb hby at_42) rfl ?_
      exact k)
  obtain ⟨c2, hc2⟩ : ∃ z : Int32, z = ((((p3.toUInt64 >>> ((40 : Int32) &&& 0x3f).toInt64.toUInt64).toInt64).toInt32).toInt8.toInt32) := ⟨_, rfl⟩
  rw [← hc2] at pr18
  obtain ⟨T19, h19, X19, e19, W19, V19, st19⟩ := ia_stB X16 hx hZ e16 V_b (j := (2 : Int32)) 2 rfl (by decide) (Nat.le_of_ble_eq_true rfl) (y := c2) (by rw [hc2]; exact own_narB _) (g := (mkF m 43 #[.val (.long p1), .second, .val (.int p2), .val (.long p3), .second, .val (.int p4), .val (.int kx), .val (.ref b)] [(.int c2), (.int (2 : Int32)), (.ref b)])) rfl rfl (hb hby at_43)
  replace V_b := V19
  have N19 := Fr.snoc X19 N16 g_b
  have Z19 : n0 ≤ h19.size := Nat.le_trans Z16 (Keep.of_wr W19).1
  have pr20 : ∀ t, Steps p.tables e below (T19.setTop (mkF m 44 #[.val (.long p1), .second, .val (.int p2), .val (.long p3), .second, .val (.int p4), .val (.int kx), .val (.ref b)] [])) t → G t := fun t k => pr18 t (st19 t k)
  have pr21 : ∀ t, Steps p.tables e below (T19.setTop (mkF m 53 #[.val (.long p1), .second, .val (.int p2), .val (.long p3), .second, .val (.int p4), .val (.int kx), .val (.ref b)] [(.int ((((p3.toUInt64 >>> ((32 : Int32) &&& 0x3f).toInt64.toUInt64).toInt64).toInt32).toInt8.toInt32)), (.int (3 : Int32)), (.ref b)])) t → G t := fun t k => pr20 t (by
      refine XS.aload X19.here hx rfl (hb hby at_44) rfl rfl ?_
      refine XS.iconst X19.here hx rfl (hb hby at_46) ?_
      refine XS.lloadN X19.here hx rfl (hb hby at_47) rfl ?_
      refine XS.bipush X19.here hx rfl (hb hby at_48) ?_
      refine XS.lushr X19.here hx rfl (hb hby at_50) rfl ?_
      refine XS.l2i X19.here hx rfl (hb hby at_51) rfl ?_
      refine XS.i2b X19.here hx rfl (hb hby at_52) rfl ?_
      exact k)
  obtain ⟨c3, hc3⟩ : ∃ z : Int32, z = ((((p3.toUInt64 >>> ((32 : Int32) &&& 0x3f).toInt64.toUInt64).toInt64).toInt32).toInt8.toInt32) := ⟨_, rfl⟩
  rw [← hc3] at pr21
  obtain ⟨T22, h22, X22, e22, W22, V22, st22⟩ := ia_stB X19 hx hZ e19 V_b (j := (3 : Int32)) 3 rfl (by decide) (Nat.le_of_ble_eq_true rfl) (y := c3) (by rw [hc3]; exact own_narB _) (g := (mkF m 53 #[.val (.long p1), .second, .val (.int p2), .val (.long p3), .second, .val (.int p4), .val (.int kx), .val (.ref b)] [(.int c3), (.int (3 : Int32)), (.ref b)])) rfl rfl (hb hby at_53)
  replace V_b := V22
  have N22 := Fr.snoc X22 N19 g_b
  have Z22 : n0 ≤ h22.size := Nat.le_trans Z19 (Keep.of_wr W22).1
  have pr23 : ∀ t, Steps p.tables e below (T22.setTop (mkF m 54 #[.val (.long p1), .second, .val (.int p2), .val (.long p3), .second, .val (.int p4), .val (.int kx), .val (.ref b)] [])) t → G t := fun t k => pr21 t (st22 t k)
  have pr24 : ∀ t, Steps p.tables e below (T22.setTop (mkF m 63 #[.val (.long p1), .second, .val (.int p2), .val (.long p3), .second, .val (.int p4), .val (.int kx), .val (.ref b)] [(.int ((((p3.toUInt64 >>> ((24 : Int32) &&& 0x3f).toInt64.toUInt64).toInt64).toInt32).toInt8.toInt32)), (.int (4 : Int32)), (.ref b)])) t → G t := fun t k => pr23 t (by
      refine XS.aload X22.here hx rfl (hb hby at_54) rfl rfl ?_
      refine XS.iconst X22.here hx rfl (hb hby at_56) ?_
      refine XS.lloadN X22.here hx rfl (hb hby at_57) rfl ?_
      refine XS.bipush X22.here hx rfl (hb hby at_58) ?_
      refine XS.lushr X22.here hx rfl (hb hby at_60) rfl ?_
      refine XS.l2i X22.here hx rfl (hb hby at_61) rfl ?_
      refine XS.i2b X22.here hx rfl (hb hby at_62) rfl ?_
      exact k)
  obtain ⟨c4, hc4⟩ : ∃ z : Int32, z = ((((p3.toUInt64 >>> ((24 : Int32) &&& 0x3f).toInt64.toUInt64).toInt64).toInt32).toInt8.toInt32) := ⟨_, rfl⟩
  rw [← hc4] at pr24
  obtain ⟨T25, h25, X25, e25, W25, V25, st25⟩ := ia_stB X22 hx hZ e22 V_b (j := (4 : Int32)) 4 rfl (by decide) (Nat.le_of_ble_eq_true rfl) (y := c4) (by rw [hc4]; exact own_narB _) (g := (mkF m 63 #[.val (.long p1), .second, .val (.int p2), .val (.long p3), .second, .val (.int p4), .val (.int kx), .val (.ref b)] [(.int c4), (.int (4 : Int32)), (.ref b)])) rfl rfl (hb hby at_63)
  replace V_b := V25
  have N25 := Fr.snoc X25 N22 g_b
  have Z25 : n0 ≤ h25.size := Nat.le_trans Z22 (Keep.of_wr W25).1
  have pr26 : ∀ t, Steps p.tables e below (T25.setTop (mkF m 64 #[.val (.long p1), .second, .val (.int p2), .val (.long p3), .second, .val (.int p4), .val (.int kx), .val (.ref b)] [])) t → G t := fun t k => pr24 t (st25 t k)
  have pr27 : ∀ t, Steps p.tables e below (T25.setTop (mkF m 73 #[.val (.long p1), .second, .val (.int p2), .val (.long p3), .second, .val (.int p4), .val (.int kx), .val (.ref b)] [(.int ((((p3.toUInt64 >>> ((16 : Int32) &&& 0x3f).toInt64.toUInt64).toInt64).toInt32).toInt8.toInt32)), (.int (5 : Int32)), (.ref b)])) t → G t := fun t k => pr26 t (by
      refine XS.aload X25.here hx rfl (hb hby at_64) rfl rfl ?_
      refine XS.iconst X25.here hx rfl (hb hby at_66) ?_
      refine XS.lloadN X25.here hx rfl (hb hby at_67) rfl ?_
      refine XS.bipush X25.here hx rfl (hb hby at_68) ?_
      refine XS.lushr X25.here hx rfl (hb hby at_70) rfl ?_
      refine XS.l2i X25.here hx rfl (hb hby at_71) rfl ?_
      refine XS.i2b X25.here hx rfl (hb hby at_72) rfl ?_
      exact k)
  obtain ⟨c5, hc5⟩ : ∃ z : Int32, z = ((((p3.toUInt64 >>> ((16 : Int32) &&& 0x3f).toInt64.toUInt64).toInt64).toInt32).toInt8.toInt32) := ⟨_, rfl⟩
  rw [← hc5] at pr27
  obtain ⟨T28, h28, X28, e28, W28, V28, st28⟩ := ia_stB X25 hx hZ e25 V_b (j := (5 : Int32)) 5 rfl (by decide) (Nat.le_of_ble_eq_true rfl) (y := c5) (by rw [hc5]; exact own_narB _) (g := (mkF m 73 #[.val (.long p1), .second, .val (.int p2), .val (.long p3), .second, .val (.int p4), .val (.int kx), .val (.ref b)] [(.int c5), (.int (5 : Int32)), (.ref b)])) rfl rfl (hb hby at_73)
  replace V_b := V28
  have N28 := Fr.snoc X28 N25 g_b
  have Z28 : n0 ≤ h28.size := Nat.le_trans Z25 (Keep.of_wr W28).1
  have pr29 : ∀ t, Steps p.tables e below (T28.setTop (mkF m 74 #[.val (.long p1), .second, .val (.int p2), .val (.long p3), .second, .val (.int p4), .val (.int kx), .val (.ref b)] [])) t → G t := fun t k => pr27 t (st28 t k)
  have pr30 : ∀ t, Steps p.tables e below (T28.setTop (mkF m 84 #[.val (.long p1), .second, .val (.int p2), .val (.long p3), .second, .val (.int p4), .val (.int kx), .val (.ref b)] [(.int ((((p3.toUInt64 >>> ((8 : Int32) &&& 0x3f).toInt64.toUInt64).toInt64).toInt32).toInt8.toInt32)), (.int (6 : Int32)), (.ref b)])) t → G t := fun t k => pr29 t (by
      refine XS.aload X28.here hx rfl (hb hby at_74) rfl rfl ?_
      refine XS.bipush X28.here hx rfl (hb hby at_76) ?_
      refine XS.lloadN X28.here hx rfl (hb hby at_78) rfl ?_
      refine XS.bipush X28.here hx rfl (hb hby at_79) ?_
      refine XS.lushr X28.here hx rfl (hb hby at_81) rfl ?_
      refine XS.l2i X28.here hx rfl (hb hby at_82) rfl ?_
      refine XS.i2b X28.here hx rfl (hb hby at_83) rfl ?_
      exact k)
  obtain ⟨c6, hc6⟩ : ∃ z : Int32, z = ((((p3.toUInt64 >>> ((8 : Int32) &&& 0x3f).toInt64.toUInt64).toInt64).toInt32).toInt8.toInt32) := ⟨_, rfl⟩
  rw [← hc6] at pr30
  obtain ⟨T31, h31, X31, e31, W31, V31, st31⟩ := ia_stB X28 hx hZ e28 V_b (j := (6 : Int32)) 6 rfl (by decide) (Nat.le_of_ble_eq_true rfl) (y := c6) (by rw [hc6]; exact own_narB _) (g := (mkF m 84 #[.val (.long p1), .second, .val (.int p2), .val (.long p3), .second, .val (.int p4), .val (.int kx), .val (.ref b)] [(.int c6), (.int (6 : Int32)), (.ref b)])) rfl rfl (hb hby at_84)
  replace V_b := V31
  have N31 := Fr.snoc X31 N28 g_b
  have Z31 : n0 ≤ h31.size := Nat.le_trans Z28 (Keep.of_wr W31).1
  have pr32 : ∀ t, Steps p.tables e below (T31.setTop (mkF m 85 #[.val (.long p1), .second, .val (.int p2), .val (.long p3), .second, .val (.int p4), .val (.int kx), .val (.ref b)] [])) t → G t := fun t k => pr30 t (st31 t k)
  have pr33 : ∀ t, Steps p.tables e below (T31.setTop (mkF m 92 #[.val (.long p1), .second, .val (.int p2), .val (.long p3), .second, .val (.int p4), .val (.int kx), .val (.ref b)] [(.int ((p3.toInt32).toInt8.toInt32)), (.int (7 : Int32)), (.ref b)])) t → G t := fun t k => pr32 t (by
      refine XS.aload X31.here hx rfl (hb hby at_85) rfl rfl ?_
      refine XS.bipush X31.here hx rfl (hb hby at_87) ?_
      refine XS.lloadN X31.here hx rfl (hb hby at_89) rfl ?_
      refine XS.l2i X31.here hx rfl (hb hby at_90) rfl ?_
      refine XS.i2b X31.here hx rfl (hb hby at_91) rfl ?_
      exact k)
  obtain ⟨c7, hc7⟩ : ∃ z : Int32, z = ((p3.toInt32).toInt8.toInt32) := ⟨_, rfl⟩
  rw [← hc7] at pr33
  obtain ⟨T34, h34, X34, e34, W34, V34, st34⟩ := ia_stB X31 hx hZ e31 V_b (j := (7 : Int32)) 7 rfl (by decide) (Nat.le_of_ble_eq_true rfl) (y := c7) (by rw [hc7]; exact own_narB _) (g := (mkF m 92 #[.val (.long p1), .second, .val (.int p2), .val (.long p3), .second, .val (.int p4), .val (.int kx), .val (.ref b)] [(.int c7), (.int (7 : Int32)), (.ref b)])) rfl rfl (hb hby at_92)
  replace V_b := V34
  have N34 := Fr.snoc X34 N31 g_b
  have Z34 : n0 ≤ h34.size := Nat.le_trans Z31 (Keep.of_wr W34).1
  have pr35 : ∀ t, Steps p.tables e below (T34.setTop (mkF m 93 #[.val (.long p1), .second, .val (.int p2), .val (.long p3), .second, .val (.int p4), .val (.int kx), .val (.ref b)] [])) t → G t := fun t k => pr33 t (st34 t k)
  have pr36 : ∀ t, Steps p.tables e below (T34.setTop (mkF m 103 #[.val (.long p1), .second, .val (.int p2), .val (.long p3), .second, .val (.int p4), .val (.int kx), .val (.ref b)] [(.int (((p4.toUInt32 >>> ((24 : Int32) &&& 31).toUInt32).toInt32).toInt8.toInt32)), (.int (8 : Int32)), (.ref b)])) t → G t := fun t k => pr35 t (by
      refine XS.aload X34.here hx rfl (hb hby at_93) rfl rfl ?_
      refine XS.bipush X34.here hx rfl (hb hby at_95) ?_
      refine XS.iload X34.here hx rfl (hb hby at_97) rfl ?_
      refine XS.bipush X34.here hx rfl (hb hby at_99) ?_
      refine XS.iushr X34.here hx rfl (hb hby at_101) rfl ?_
      refine XS.i2b X34.here hx rfl (hb hby at_102) rfl ?_
      exact k)
  obtain ⟨c8, hc8⟩ : ∃ z : Int32, z = (((p4.toUInt32 >>> ((24 : Int32) &&& 31).toUInt32).toInt32).toInt8.toInt32) := ⟨_, rfl⟩
  rw [← hc8] at pr36
  obtain ⟨T37, h37, X37, e37, W37, V37, st37⟩ := ia_stB X34 hx hZ e34 V_b (j := (8 : Int32)) 8 rfl (by decide) (Nat.le_of_ble_eq_true rfl) (y := c8) (by rw [hc8]; exact own_narB _) (g := (mkF m 103 #[.val (.long p1), .second, .val (.int p2), .val (.long p3), .second, .val (.int p4), .val (.int kx), .val (.ref b)] [(.int c8), (.int (8 : Int32)), (.ref b)])) rfl rfl (hb hby at_103)
  replace V_b := V37
  have N37 := Fr.snoc X37 N34 g_b
  have Z37 : n0 ≤ h37.size := Nat.le_trans Z34 (Keep.of_wr W37).1
  have pr38 : ∀ t, Steps p.tables e below (T37.setTop (mkF m 104 #[.val (.long p1), .second, .val (.int p2), .val (.long p3), .second, .val (.int p4), .val (.int kx), .val (.ref b)] [])) t → G t := fun t k => pr36 t (st37 t k)
  have pr39 : ∀ t, Steps p.tables e below (T37.setTop (mkF m 114 #[.val (.long p1), .second, .val (.int p2), .val (.long p3), .second, .val (.int p4), .val (.int kx), .val (.ref b)] [(.int (((p4.toUInt32 >>> ((16 : Int32) &&& 31).toUInt32).toInt32).toInt8.toInt32)), (.int (9 : Int32)), (.ref b)])) t → G t := fun t k => pr38 t (by
      refine XS.aload X37.here hx rfl (hb hby at_104) rfl rfl ?_
      refine XS.bipush X37.here hx rfl (hb hby at_106) ?_
      refine XS.iload X37.here hx rfl (hb hby at_108) rfl ?_
      refine XS.bipush X37.here hx rfl (hb hby at_110) ?_
      refine XS.iushr X37.here hx rfl (hb hby at_112) rfl ?_
      refine XS.i2b X37.here hx rfl (hb hby at_113) rfl ?_
      exact k)
  obtain ⟨c9, hc9⟩ : ∃ z : Int32, z = (((p4.toUInt32 >>> ((16 : Int32) &&& 31).toUInt32).toInt32).toInt8.toInt32) := ⟨_, rfl⟩
  rw [← hc9] at pr39
  obtain ⟨T40, h40, X40, e40, W40, V40, st40⟩ := ia_stB X37 hx hZ e37 V_b (j := (9 : Int32)) 9 rfl (by decide) (Nat.le_of_ble_eq_true rfl) (y := c9) (by rw [hc9]; exact own_narB _) (g := (mkF m 114 #[.val (.long p1), .second, .val (.int p2), .val (.long p3), .second, .val (.int p4), .val (.int kx), .val (.ref b)] [(.int c9), (.int (9 : Int32)), (.ref b)])) rfl rfl (hb hby at_114)
  replace V_b := V40
  have N40 := Fr.snoc X40 N37 g_b
  have Z40 : n0 ≤ h40.size := Nat.le_trans Z37 (Keep.of_wr W40).1
  have pr41 : ∀ t, Steps p.tables e below (T40.setTop (mkF m 115 #[.val (.long p1), .second, .val (.int p2), .val (.long p3), .second, .val (.int p4), .val (.int kx), .val (.ref b)] [])) t → G t := fun t k => pr39 t (st40 t k)
  have pr42 : ∀ t, Steps p.tables e below (T40.setTop (mkF m 125 #[.val (.long p1), .second, .val (.int p2), .val (.long p3), .second, .val (.int p4), .val (.int kx), .val (.ref b)] [(.int (((p4.toUInt32 >>> ((8 : Int32) &&& 31).toUInt32).toInt32).toInt8.toInt32)), (.int (10 : Int32)), (.ref b)])) t → G t := fun t k => pr41 t (by
      refine XS.aload X40.here hx rfl (hb hby at_115) rfl rfl ?_
      refine XS.bipush X40.here hx rfl (hb hby at_117) ?_
      refine XS.iload X40.here hx rfl (hb hby at_119) rfl ?_
      refine XS.bipush X40.here hx rfl (hb hby at_121) ?_
      refine XS.iushr X40.here hx rfl (hb hby at_123) rfl ?_
      refine XS.i2b X40.here hx rfl (hb hby at_124) rfl ?_
      exact k)
  obtain ⟨c10, hc10⟩ : ∃ z : Int32, z = (((p4.toUInt32 >>> ((8 : Int32) &&& 31).toUInt32).toInt32).toInt8.toInt32) := ⟨_, rfl⟩
  rw [← hc10] at pr42
  obtain ⟨T43, h43, X43, e43, W43, V43, st43⟩ := ia_stB X40 hx hZ e40 V_b (j := (10 : Int32)) 10 rfl (by decide) (Nat.le_of_ble_eq_true rfl) (y := c10) (by rw [hc10]; exact own_narB _) (g := (mkF m 125 #[.val (.long p1), .second, .val (.int p2), .val (.long p3), .second, .val (.int p4), .val (.int kx), .val (.ref b)] [(.int c10), (.int (10 : Int32)), (.ref b)])) rfl rfl (hb hby at_125)
  replace V_b := V43
  have N43 := Fr.snoc X43 N40 g_b
  have Z43 : n0 ≤ h43.size := Nat.le_trans Z40 (Keep.of_wr W43).1
  have pr44 : ∀ t, Steps p.tables e below (T43.setTop (mkF m 126 #[.val (.long p1), .second, .val (.int p2), .val (.long p3), .second, .val (.int p4), .val (.int kx), .val (.ref b)] [])) t → G t := fun t k => pr42 t (st43 t k)
  have pr45 : ∀ t, Steps p.tables e below (T43.setTop (mkF m 133 #[.val (.long p1), .second, .val (.int p2), .val (.long p3), .second, .val (.int p4), .val (.int kx), .val (.ref b)] [(.int (p4.toInt8.toInt32)), (.int (11 : Int32)), (.ref b)])) t → G t := fun t k => pr44 t (by
      refine XS.aload X43.here hx rfl (hb hby at_126) rfl rfl ?_
      refine XS.bipush X43.here hx rfl (hb hby at_128) ?_
      refine XS.iload X43.here hx rfl (hb hby at_130) rfl ?_
      refine XS.i2b X43.here hx rfl (hb hby at_132) rfl ?_
      exact k)
  obtain ⟨c11, hc11⟩ : ∃ z : Int32, z = (p4.toInt8.toInt32) := ⟨_, rfl⟩
  rw [← hc11] at pr45
  obtain ⟨T46, h46, X46, e46, W46, V46, st46⟩ := ia_stB X43 hx hZ e43 V_b (j := (11 : Int32)) 11 rfl (by decide) (Nat.le_of_ble_eq_true rfl) (y := c11) (by rw [hc11]; exact own_narB _) (g := (mkF m 133 #[.val (.long p1), .second, .val (.int p2), .val (.long p3), .second, .val (.int p4), .val (.int kx), .val (.ref b)] [(.int c11), (.int (11 : Int32)), (.ref b)])) rfl rfl (hb hby at_133)
  replace V_b := V46
  have N46 := Fr.snoc X46 N43 g_b
  have Z46 : n0 ≤ h46.size := Nat.le_trans Z43 (Keep.of_wr W46).1
  have pr47 : ∀ t, Steps p.tables e below (T46.setTop (mkF m 134 #[.val (.long p1), .second, .val (.int p2), .val (.long p3), .second, .val (.int p4), .val (.int kx), .val (.ref b)] [])) t → G t := fun t k => pr45 t (st46 t k)
  replace V_b : IA Z h46 b k10 .byte 12 [c0, c1, c2, c3, c4, c5, c6, c7, c8, c9, c10, c11] := V_b
  obtain ⟨vs, hvs⟩ : ∃ z : List Int32, z = [c0, c1, c2, c3, c4, c5, c6, c7, c8, c9, c10, c11] := ⟨_, rfl⟩
  have hlen : vs.length = 12 := by rw [hvs]; rfl
  rw [← hvs] at V_b
  have pr48 : ∀ t, Steps p.tables e below (T46.setTop (mkF m 144 #[.val (.long p1), .second, .val (.int p2), .val (.long p3), .second, .val (.int p4), .val (.int kx), .val (.ref b)] [(.int ((((p1.toUInt64 >>> ((56 : Int32) &&& 0x3f).toInt64.toUInt64).toInt64).toInt32).toInt8.toInt32)), (.int kx), (.ref b)])) t → G t := fun t k => pr47 t (by
      refine XS.aload X46.here hx rfl (hb hby at_134) rfl rfl ?_
      refine XS.iload X46.here hx rfl (hb hby at_136) rfl ?_
      refine XS.lloadN X46.here hx rfl (hb hby at_138) rfl ?_
      refine XS.bipush X46.here hx rfl (hb hby at_139) ?_
      refine XS.lushr X46.here hx rfl (hb hby at_141) rfl ?_
      refine XS.l2i X46.here hx rfl (hb hby at_142) rfl ?_
      refine XS.i2b X46.here hx rfl (hb hby at_143) rfl ?_
      exact k)
  obtain ⟨y0, hy0⟩ : ∃ z : Int32, z = ((((p1.toUInt64 >>> ((56 : Int32) &&& 0x3f).toInt64.toUInt64).toInt64).toInt32).toInt8.toInt32) := ⟨_, rfl⟩
  rw [← hy0] at pr48
  obtain ⟨T49, h49, X49, e49, W49, V49, st49⟩ := ia_stB X46 hx hZ e46 V_b (j := kx) i (by rw [ei]; exact own_n32 (by omega)) (by rw [ei]; exact own_nn (by omega)) (by simp only [List.length_set, hlen]; omega) (y := y0) (by rw [hy0]; exact own_narB _) (g := (mkF m 144 #[.val (.long p1), .second, .val (.int p2), .val (.long p3), .second, .val (.int p4), .val (.int kx), .val (.ref b)] [(.int y0), (.int kx), (.ref b)])) rfl rfl (hb hby at_144)
  replace V_b := V49
  have N49 := Fr.snoc X49 N46 g_b
  have Z49 : n0 ≤ h49.size := Nat.le_trans Z46 (Keep.of_wr W49).1
  have pr50 : ∀ t, Steps p.tables e below (T49.setTop (mkF m 145 #[.val (.long p1), .second, .val (.int p2), .val (.long p3), .second, .val (.int p4), .val (.int kx), .val (.ref b)] [])) t → G t := fun t k => pr48 t (st49 t k)
  have pr51 : ∀ t, Steps p.tables e below (T49.setTop (mkF m 157 #[.val (.long p1), .second, .val (.int p2), .val (.long p3), .second, .val (.int p4), .val (.int kx), .val (.ref b)] [(.int ((((p1.toUInt64 >>> ((48 : Int32) &&& 0x3f).toInt64.toUInt64).toInt64).toInt32).toInt8.toInt32)), (.int (kx + (1 : Int32))), (.ref b)])) t → G t := fun t k => pr50 t (by
      refine XS.aload X49.here hx rfl (hb hby at_145) rfl rfl ?_
      refine XS.iload X49.here hx rfl (hb hby at_147) rfl ?_
      refine XS.iconst X49.here hx rfl (hb hby at_149) ?_
      refine XS.iadd X49.here hx rfl (hb hby at_150) rfl ?_
      refine XS.lloadN X49.here hx rfl (hb hby at_151) rfl ?_
      refine XS.bipush X49.here hx rfl (hb hby at_152) ?_
      refine XS.lushr X49.here hx rfl (hb hby at_154) rfl ?_
      refine XS.l2i X49.here hx rfl (hb hby at_155) rfl ?_
      refine XS.i2b X49.here hx rfl (hb hby at_156) rfl ?_
      exact k)
  obtain ⟨y1, hy1⟩ : ∃ z : Int32, z = ((((p1.toUInt64 >>> ((48 : Int32) &&& 0x3f).toInt64.toUInt64).toInt64).toInt32).toInt8.toInt32) := ⟨_, rfl⟩
  rw [← hy1] at pr51
  obtain ⟨T52, h52, X52, e52, W52, V52, st52⟩ := ia_stB X49 hx hZ e49 V_b (j := (kx + (1 : Int32))) (i + 1) (own_ix (j := 1) ei (by omega)).1 (own_ix (j := 1) ei (by omega)).2 (by simp only [List.length_set, hlen]; omega) (y := y1) (by rw [hy1]; exact own_narB _) (g := (mkF m 157 #[.val (.long p1), .second, .val (.int p2), .val (.long p3), .second, .val (.int p4), .val (.int kx), .val (.ref b)] [(.int y1), (.int (kx + (1 : Int32))), (.ref b)])) rfl rfl (hb hby at_157)
  replace V_b := V52
  have N52 := Fr.snoc X52 N49 g_b
  have Z52 : n0 ≤ h52.size := Nat.le_trans Z49 (Keep.of_wr W52).1
  have pr53 : ∀ t, Steps p.tables e below (T52.setTop (mkF m 158 #[.val (.long p1), .second, .val (.int p2), .val (.long p3), .second, .val (.int p4), .val (.int kx), .val (.ref b)] [])) t → G t := fun t k => pr51 t (st52 t k)
  have pr54 : ∀ t, Steps p.tables e below (T52.setTop (mkF m 170 #[.val (.long p1), .second, .val (.int p2), .val (.long p3), .second, .val (.int p4), .val (.int kx), .val (.ref b)] [(.int ((((p1.toUInt64 >>> ((40 : Int32) &&& 0x3f).toInt64.toUInt64).toInt64).toInt32).toInt8.toInt32)), (.int (kx + (2 : Int32))), (.ref b)])) t → G t := fun t k => pr53 t (by
      refine XS.aload X52.here hx rfl (hb hby at_158) rfl rfl ?_
      refine XS.iload X52.here hx rfl (hb hby at_160) rfl ?_
      refine XS.iconst X52.here hx rfl (hb hby at_162) ?_
      refine XS.iadd X52.here hx rfl (hb hby at_163) rfl ?_
      refine XS.lloadN X52.here hx rfl (hb hby at_164) rfl ?_
      refine XS.bipush X52.here hx rfl (hb hby at_165) ?_
      refine XS.lushr X52.here hx rfl (hb hby at_167) rfl ?_
      refine XS.l2i X52.here hx rfl (hb hby at_168) rfl ?_
      refine XS.i2b X52.here hx rfl (hb hby at_169) rfl ?_
      exact k)
  obtain ⟨y2, hy2⟩ : ∃ z : Int32, z = ((((p1.toUInt64 >>> ((40 : Int32) &&& 0x3f).toInt64.toUInt64).toInt64).toInt32).toInt8.toInt32) := ⟨_, rfl⟩
  rw [← hy2] at pr54
  obtain ⟨T55, h55, X55, e55, W55, V55, st55⟩ := ia_stB X52 hx hZ e52 V_b (j := (kx + (2 : Int32))) (i + 2) (own_ix (j := 2) ei (by omega)).1 (own_ix (j := 2) ei (by omega)).2 (by simp only [List.length_set, hlen]; omega) (y := y2) (by rw [hy2]; exact own_narB _) (g := (mkF m 170 #[.val (.long p1), .second, .val (.int p2), .val (.long p3), .second, .val (.int p4), .val (.int kx), .val (.ref b)] [(.int y2), (.int (kx + (2 : Int32))), (.ref b)])) rfl rfl (hb hby at_170)
  replace V_b := V55
  have N55 := Fr.snoc X55 N52 g_b
  have Z55 : n0 ≤ h55.size := Nat.le_trans Z52 (Keep.of_wr W55).1
  have pr56 : ∀ t, Steps p.tables e below (T55.setTop (mkF m 171 #[.val (.long p1), .second, .val (.int p2), .val (.long p3), .second, .val (.int p4), .val (.int kx), .val (.ref b)] [])) t → G t := fun t k => pr54 t (st55 t k)
  have pr57 : ∀ t, Steps p.tables e below (T55.setTop (mkF m 183 #[.val (.long p1), .second, .val (.int p2), .val (.long p3), .second, .val (.int p4), .val (.int kx), .val (.ref b)] [(.int ((((p1.toUInt64 >>> ((32 : Int32) &&& 0x3f).toInt64.toUInt64).toInt64).toInt32).toInt8.toInt32)), (.int (kx + (3 : Int32))), (.ref b)])) t → G t := fun t k => pr56 t (by
      refine XS.aload X55.here hx rfl (hb hby at_171) rfl rfl ?_
      refine XS.iload X55.here hx rfl (hb hby at_173) rfl ?_
      refine XS.iconst X55.here hx rfl (hb hby at_175) ?_
      refine XS.iadd X55.here hx rfl (hb hby at_176) rfl ?_
      refine XS.lloadN X55.here hx rfl (hb hby at_177) rfl ?_
      refine XS.bipush X55.here hx rfl (hb hby at_178) ?_
      refine XS.lushr X55.here hx rfl (hb hby at_180) rfl ?_
      refine XS.l2i X55.here hx rfl (hb hby at_181) rfl ?_
      refine XS.i2b X55.here hx rfl (hb hby at_182) rfl ?_
      exact k)
  obtain ⟨y3, hy3⟩ : ∃ z : Int32, z = ((((p1.toUInt64 >>> ((32 : Int32) &&& 0x3f).toInt64.toUInt64).toInt64).toInt32).toInt8.toInt32) := ⟨_, rfl⟩
  rw [← hy3] at pr57
  obtain ⟨T58, h58, X58, e58, W58, V58, st58⟩ := ia_stB X55 hx hZ e55 V_b (j := (kx + (3 : Int32))) (i + 3) (own_ix (j := 3) ei (by omega)).1 (own_ix (j := 3) ei (by omega)).2 (by simp only [List.length_set, hlen]; omega) (y := y3) (by rw [hy3]; exact own_narB _) (g := (mkF m 183 #[.val (.long p1), .second, .val (.int p2), .val (.long p3), .second, .val (.int p4), .val (.int kx), .val (.ref b)] [(.int y3), (.int (kx + (3 : Int32))), (.ref b)])) rfl rfl (hb hby at_183)
  replace V_b := V58
  have N58 := Fr.snoc X58 N55 g_b
  have Z58 : n0 ≤ h58.size := Nat.le_trans Z55 (Keep.of_wr W58).1
  have pr59 : ∀ t, Steps p.tables e below (T58.setTop (mkF m 184 #[.val (.long p1), .second, .val (.int p2), .val (.long p3), .second, .val (.int p4), .val (.int kx), .val (.ref b)] [])) t → G t := fun t k => pr57 t (st58 t k)
  have pr60 : ∀ t, Steps p.tables e below (T58.setTop (mkF m 196 #[.val (.long p1), .second, .val (.int p2), .val (.long p3), .second, .val (.int p4), .val (.int kx), .val (.ref b)] [(.int ((((p1.toUInt64 >>> ((24 : Int32) &&& 0x3f).toInt64.toUInt64).toInt64).toInt32).toInt8.toInt32)), (.int (kx + (4 : Int32))), (.ref b)])) t → G t := fun t k => pr59 t (by
      refine XS.aload X58.here hx rfl (hb hby at_184) rfl rfl ?_
      refine XS.iload X58.here hx rfl (hb hby at_186) rfl ?_
      refine XS.iconst X58.here hx rfl (hb hby at_188) ?_
      refine XS.iadd X58.here hx rfl (hb hby at_189) rfl ?_
      refine XS.lloadN X58.here hx rfl (hb hby at_190) rfl ?_
      refine XS.bipush X58.here hx rfl (hb hby at_191) ?_
      refine XS.lushr X58.here hx rfl (hb hby at_193) rfl ?_
      refine XS.l2i X58.here hx rfl (hb hby at_194) rfl ?_
      refine XS.i2b X58.here hx rfl (hb hby at_195) rfl ?_
      exact k)
  obtain ⟨y4, hy4⟩ : ∃ z : Int32, z = ((((p1.toUInt64 >>> ((24 : Int32) &&& 0x3f).toInt64.toUInt64).toInt64).toInt32).toInt8.toInt32) := ⟨_, rfl⟩
  rw [← hy4] at pr60
  obtain ⟨T61, h61, X61, e61, W61, V61, st61⟩ := ia_stB X58 hx hZ e58 V_b (j := (kx + (4 : Int32))) (i + 4) (own_ix (j := 4) ei (by omega)).1 (own_ix (j := 4) ei (by omega)).2 (by simp only [List.length_set, hlen]; omega) (y := y4) (by rw [hy4]; exact own_narB _) (g := (mkF m 196 #[.val (.long p1), .second, .val (.int p2), .val (.long p3), .second, .val (.int p4), .val (.int kx), .val (.ref b)] [(.int y4), (.int (kx + (4 : Int32))), (.ref b)])) rfl rfl (hb hby at_196)
  replace V_b := V61
  have N61 := Fr.snoc X61 N58 g_b
  have Z61 : n0 ≤ h61.size := Nat.le_trans Z58 (Keep.of_wr W61).1
  have pr62 : ∀ t, Steps p.tables e below (T61.setTop (mkF m 197 #[.val (.long p1), .second, .val (.int p2), .val (.long p3), .second, .val (.int p4), .val (.int kx), .val (.ref b)] [])) t → G t := fun t k => pr60 t (st61 t k)
  have pr63 : ∀ t, Steps p.tables e below (T61.setTop (mkF m 209 #[.val (.long p1), .second, .val (.int p2), .val (.long p3), .second, .val (.int p4), .val (.int kx), .val (.ref b)] [(.int ((((p1.toUInt64 >>> ((16 : Int32) &&& 0x3f).toInt64.toUInt64).toInt64).toInt32).toInt8.toInt32)), (.int (kx + (5 : Int32))), (.ref b)])) t → G t := fun t k => pr62 t (by
      refine XS.aload X61.here hx rfl (hb hby at_197) rfl rfl ?_
      refine XS.iload X61.here hx rfl (hb hby at_199) rfl ?_
      refine XS.iconst X61.here hx rfl (hb hby at_201) ?_
      refine XS.iadd X61.here hx rfl (hb hby at_202) rfl ?_
      refine XS.lloadN X61.here hx rfl (hb hby at_203) rfl ?_
      refine XS.bipush X61.here hx rfl (hb hby at_204) ?_
      refine XS.lushr X61.here hx rfl (hb hby at_206) rfl ?_
      refine XS.l2i X61.here hx rfl (hb hby at_207) rfl ?_
      refine XS.i2b X61.here hx rfl (hb hby at_208) rfl ?_
      exact k)
  obtain ⟨y5, hy5⟩ : ∃ z : Int32, z = ((((p1.toUInt64 >>> ((16 : Int32) &&& 0x3f).toInt64.toUInt64).toInt64).toInt32).toInt8.toInt32) := ⟨_, rfl⟩
  rw [← hy5] at pr63
  obtain ⟨T64, h64, X64, e64, W64, V64, st64⟩ := ia_stB X61 hx hZ e61 V_b (j := (kx + (5 : Int32))) (i + 5) (own_ix (j := 5) ei (by omega)).1 (own_ix (j := 5) ei (by omega)).2 (by simp only [List.length_set, hlen]; omega) (y := y5) (by rw [hy5]; exact own_narB _) (g := (mkF m 209 #[.val (.long p1), .second, .val (.int p2), .val (.long p3), .second, .val (.int p4), .val (.int kx), .val (.ref b)] [(.int y5), (.int (kx + (5 : Int32))), (.ref b)])) rfl rfl (hb hby at_209)
  replace V_b := V64
  have N64 := Fr.snoc X64 N61 g_b
  have Z64 : n0 ≤ h64.size := Nat.le_trans Z61 (Keep.of_wr W64).1
  have pr65 : ∀ t, Steps p.tables e below (T64.setTop (mkF m 210 #[.val (.long p1), .second, .val (.int p2), .val (.long p3), .second, .val (.int p4), .val (.int kx), .val (.ref b)] [])) t → G t := fun t k => pr63 t (st64 t k)
  have pr66 : ∀ t, Steps p.tables e below (T64.setTop (mkF m 223 #[.val (.long p1), .second, .val (.int p2), .val (.long p3), .second, .val (.int p4), .val (.int kx), .val (.ref b)] [(.int ((((p1.toUInt64 >>> ((8 : Int32) &&& 0x3f).toInt64.toUInt64).toInt64).toInt32).toInt8.toInt32)), (.int (kx + (6 : Int32))), (.ref b)])) t → G t := fun t k => pr65 t (by
      refine XS.aload X64.here hx rfl (hb hby at_210) rfl rfl ?_
      refine XS.iload X64.here hx rfl (hb hby at_212) rfl ?_
      refine XS.bipush X64.here hx rfl (hb hby at_214) ?_
      refine XS.iadd X64.here hx rfl (hb hby at_216) rfl ?_
      refine XS.lloadN X64.here hx rfl (hb hby at_217) rfl ?_
      refine XS.bipush X64.here hx rfl (hb hby at_218) ?_
      refine XS.lushr X64.here hx rfl (hb hby at_220) rfl ?_
      refine XS.l2i X64.here hx rfl (hb hby at_221) rfl ?_
      refine XS.i2b X64.here hx rfl (hb hby at_222) rfl ?_
      exact k)
  obtain ⟨y6, hy6⟩ : ∃ z : Int32, z = ((((p1.toUInt64 >>> ((8 : Int32) &&& 0x3f).toInt64.toUInt64).toInt64).toInt32).toInt8.toInt32) := ⟨_, rfl⟩
  rw [← hy6] at pr66
  obtain ⟨T67, h67, X67, e67, W67, V67, st67⟩ := ia_stB X64 hx hZ e64 V_b (j := (kx + (6 : Int32))) (i + 6) (own_ix (j := 6) ei (by omega)).1 (own_ix (j := 6) ei (by omega)).2 (by simp only [List.length_set, hlen]; omega) (y := y6) (by rw [hy6]; exact own_narB _) (g := (mkF m 223 #[.val (.long p1), .second, .val (.int p2), .val (.long p3), .second, .val (.int p4), .val (.int kx), .val (.ref b)] [(.int y6), (.int (kx + (6 : Int32))), (.ref b)])) rfl rfl (hb hby at_223)
  replace V_b := V67
  have N67 := Fr.snoc X67 N64 g_b
  have Z67 : n0 ≤ h67.size := Nat.le_trans Z64 (Keep.of_wr W67).1
  have pr68 : ∀ t, Steps p.tables e below (T67.setTop (mkF m 224 #[.val (.long p1), .second, .val (.int p2), .val (.long p3), .second, .val (.int p4), .val (.int kx), .val (.ref b)] [])) t → G t := fun t k => pr66 t (st67 t k)
  have pr69 : ∀ t, Steps p.tables e below (T67.setTop (mkF m 234 #[.val (.long p1), .second, .val (.int p2), .val (.long p3), .second, .val (.int p4), .val (.int kx), .val (.ref b)] [(.int ((p1.toInt32).toInt8.toInt32)), (.int (kx + (7 : Int32))), (.ref b)])) t → G t := fun t k => pr68 t (by
      refine XS.aload X67.here hx rfl (hb hby at_224) rfl rfl ?_
      refine XS.iload X67.here hx rfl (hb hby at_226) rfl ?_
      refine XS.bipush X67.here hx rfl (hb hby at_228) ?_
      refine XS.iadd X67.here hx rfl (hb hby at_230) rfl ?_
      refine XS.lloadN X67.here hx rfl (hb hby at_231) rfl ?_
      refine XS.l2i X67.here hx rfl (hb hby at_232) rfl ?_
      refine XS.i2b X67.here hx rfl (hb hby at_233) rfl ?_
      exact k)
  obtain ⟨y7, hy7⟩ : ∃ z : Int32, z = ((p1.toInt32).toInt8.toInt32) := ⟨_, rfl⟩
  rw [← hy7] at pr69
  obtain ⟨T70, h70, X70, e70, W70, V70, st70⟩ := ia_stB X67 hx hZ e67 V_b (j := (kx + (7 : Int32))) (i + 7) (own_ix (j := 7) ei (by omega)).1 (own_ix (j := 7) ei (by omega)).2 (by simp only [List.length_set, hlen]; omega) (y := y7) (by rw [hy7]; exact own_narB _) (g := (mkF m 234 #[.val (.long p1), .second, .val (.int p2), .val (.long p3), .second, .val (.int p4), .val (.int kx), .val (.ref b)] [(.int y7), (.int (kx + (7 : Int32))), (.ref b)])) rfl rfl (hb hby at_234)
  replace V_b := V70
  have N70 := Fr.snoc X70 N67 g_b
  have Z70 : n0 ≤ h70.size := Nat.le_trans Z67 (Keep.of_wr W70).1
  have pr71 : ∀ t, Steps p.tables e below (T70.setTop (mkF m 235 #[.val (.long p1), .second, .val (.int p2), .val (.long p3), .second, .val (.int p4), .val (.int kx), .val (.ref b)] [])) t → G t := fun t k => pr69 t (st70 t k)
  obtain ⟨us, hus⟩ : ∃ z : List Int32, z = ((((((((vs.set i y0).set (i + 1) y1).set (i + 2) y2).set (i + 3) y3).set (i + 4) y4).set (i + 5) y5).set (i + 6) y6).set (i + 7) y7) := ⟨_, rfl⟩
  rw [← hus] at V_b
  obtain ⟨hul, u0, u1, u2, u3, u4, u5, u6, u7⟩ := own_eight hlen hi4 hus
  have pr72 : ∀ t, Steps p.tables e below (T70.setTop (mkF m 239 #[.val (.long p1), .second, .val (.int p2), .val (.long p3), .second, .val (.int p4), .val (.int kx), .val (.ref b)] [(.int kx), (.ref b)])) t → G t := fun t k => pr71 t (by
      refine XS.aload X70.here hx rfl (hb hby at_235) rfl rfl ?_
      refine XS.iload X70.here hx rfl (hb hby at_237) rfl ?_
      exact k)
  obtain ⟨_, _, ⟨T73, L73, k73, n73⟩, -, X73, ⟨Lc73, hQ73, l73, y73, z73⟩, st73⟩ := Jvm.LawKit.callS X70 hx (y := (⟨"com/example/gneiss/gneiss/store/Page", "longAt", "([BI)J"⟩ : MethodName)) hown (mvT hZ (hw _ (List.mem_of_getElem? (i := 2) rfl))) (mvT hZ (hw _ (List.mem_of_getElem? (i := 3) rfl))) (mvT hZ (hw _ (List.mem_of_getElem? (i := 4) rfl))) (mvT hZ (hw _ (List.mem_of_getElem? (i := 5) rfl))) (by decide) (backOf (W := 0) (rm1 l Z a0 hw [] b kx k10 12 us i y0 y1 y2 y3 y4 y5 y6 y7 h70 n0 Z70 V_b ei (by omega) (by omega) u0 u1 u2 u3 u4 u5 u6 u7) hZ (hw _ (List.mem_of_getElem? (i := 5) rfl)) (hw _ (List.mem_of_getElem? (i := 4) rfl)) (by decide) (by decide)) (g := (mkF m 239 #[.val (.long p1), .second, .val (.int p2), .val (.long p3), .second, .val (.int p4), .val (.int kx), .val (.ref b)] [(.int kx), (.ref b)])) rfl (by rw [hml]; rfl) (argsL := [(.ref b), (.int kx)]) (rest := []) (lenOf pd_0 rfl) rfl (by show 2 * 0 + _ ≤ _; exact Nat.le_of_eq rfl) (hb hby at_239) (fun _ _ => ⟨rfl, e70, (by decide : 1 + 0 ≤ _), (by decide : 12 + 0 ≤ _)⟩)
  dsimp only [Pt.U, Pt.locs, Pt.cells, Pt.slots] at X73 l73 y73 z73 st73 hQ73
  subst l73 y73 z73
  obtain ⟨rfl, Nq73, eh73⟩ := hQ73
  have N73 := Fr.app N70 Nq73
  have pr74 : ∀ t, Steps p.tables e below (T73.setTop (mkF m 242 #[.val (.long p1), .second, .val (.int p2), .val (.long p3), .second, .val (.int p4), .val (.int kx), .val (.ref b)] [(.long (own_long y0 y1 y2 y3 y4 y5 y6 y7))])) t → G t := fun t k => pr72 t (st73 t k)
  have hlong : own_long y0 y1 y2 y3 y4 y5 y6 y7 = p1 := own_back p1 y0 y1 y2 y3 y4 y5 y6 y7 hy0 hy1 hy2 hy3 hy4 hy5 hy6 hy7
  rw [hlong] at pr74
  have pr75 : ∀ t, Steps p.tables e below (T73.setTop (mkF m 252 #[.val (.long p1), .second, .val (.int p2), .val (.long p3), .second, .val (.int p4), .val (.int kx), .val (.ref b)] [(.int (1 : Int32))])) t → G t := fun t k => pr74 t (by
      refine XS.lloadN X73.here hx rfl (hb hby at_242) rfl ?_
      refine XS.lcmp X73.here hx rfl (hb hby at_243) rfl ?_
      refine XS.ifNo X73.here hx rfl (hb hby at_244) rfl ((if0 _ _).trans (teq (own_lc0 p1)).2) ?_
      refine XS.iconst X73.here hx rfl (hb hby at_247) ?_
      refine XS.goto X73.here hx rfl (pc0 := 248) (pc' := 252) rfl (hb hby at_248) (by decide) (by decide) ?_
      exact k)
  obtain ⟨fs, hr, hrun, hended, hW, hsame⟩ := X73.leave (v := some (.int 1)) (fun h => by rw [Bd.returns] at h; cases h)
  refine ⟨_, _, hG _ (pr75 _ ?_), hrun, hended, _, _, rfl, ?_, ⟨_, rfl⟩, hW, hsame.mono (by decide) (by decide)⟩
  · exact retN X73 hx (t := .boolean) Bd.returns (by simp) (hb hby at_252) (by rw [show nar .boolean (1 : Int32) = 1 from rfl]; exact hr)
  · show Q0 n0 _ T73.heap _
    rw [eh73]
    exact ⟨rfl, N73⟩
set_option maxRecDepth 65536 in
set_option maxHeartbeats 40000000 in
theorem comes_1 {Post : Tables → Env → Array Value → State → Outcome → State → Prop} (hpost : ∀ tb e args s v u, (limb_1_1.after args s (.returned v) u = true ∧ limb_1_2.after args s (.returned v) u = true ∧ True) → FrameEnd s (.returned v) u (Jvm.fieldLocs frame_1_writes args s ++ Jvm.arrayLocs frame_1_arrays args s ++ Jvm.staticLocs frame_1_statics s) 16 128 → Post tb e args s (.returned v) u) :
    ArmFor flags0 classFile x code maxLocals ret World_1 tables_1 room_1 Calls_1 rest_1 Pre_1 Post := by
  intro l hfl _ _ p e ha hc hk s m args below hf hA hF happ hP
  obtain ⟨hcalls, hrest, hpre⟩ := hP
  obtain ⟨-, -, -, hnamed, -, -, -, hat⟩ := (Spec.applies_iff hf).mp happ
  obtain ⟨hg, hn⟩ := and_e (Cond.before_iff.mp (show (Jvm.Cond.and given_1 narrow_1).before args s = true from hpre))
  obtain ⟨hcount, g0⟩ := and_e hg
  obtain ⟨ga0, g1⟩ := and_e g0
  obtain ⟨ga1, g2⟩ := and_e g1
  obtain ⟨ga2, g3⟩ := and_e g2
  have ga3 := g3
  obtain ⟨w0, w1, w2, w3, rfl⟩ : ∃ w0 w1 w2 w3 : Value, args = #[w0, w1, w2, w3] := by
    have hs : args.size = 4 := by simpa [Cond.value, given_1] using hcount
    obtain ⟨L⟩ := args
    match L, hs with
    | [w0, w1, w2, w3], _ => exact ⟨w0, w1, w2, w3, rfl⟩
  have hw := fun d (hd : d ∈ tables_1) => atoms_spec (ws := Jvm.Cond.code x code maxLocals ret :: tables_1) hat d (List.mem_cons_of_mem _ hd)
  obtain ⟨i0, ei0⟩ := isL_v ga0
  obtain rfl : w0 = (.long i0) := Option.some.inj ei0
  obtain ⟨i1, ei1⟩ := is_v ga1
  obtain rfl : w1 = (.int i1) := Option.some.inj ei1
  obtain ⟨i2, ei2⟩ := isL_v ga2
  obtain rfl : w2 = (.long i2) := Option.some.inj ei2
  obtain ⟨i3, ei3⟩ := is_v ga3
  obtain rfl : w3 = (.int i3) := Option.some.inj ei3
  obtain ⟨n, o, h1, h2, h3, _, L, rfl, ⟨rfl, N⟩, hq⟩ := rm0 l s _ hw tables_1 i0 i1 i2 i3  s.heap s.heap.size (Nat.le_refl _)  p e ha hc hk s m _ below hf ((Spec.applies_iff_loose hf).mp happ).1 ⟨rfl, State.Warmed39.refl s, rfl⟩ trivial
  refine ⟨n, _, h1, h2, h3, hpost _ _ _ _ _ _ ⟨Cond.after_iff.mpr rfl, Cond.after_iff.mpr (eq_i res_at (Term.int_eval (1)) rfl), trivial⟩ ⟨hq.1, hq.2.1, (hq.2.2.sift fun y hy => Or.inr (N y hy)).mono (by decide) (by decide)⟩⟩
theorem main_1_1 : Claimed_1_1 := comes_1 fun _ _ _ _ _ _ h hF => ⟨h.1, hF⟩
theorem main_1_2 : Claimed_1_2 := comes_1 fun _ _ _ _ _ _ h hF => ⟨h.2.1, hF⟩
end Jvm.Pilot.@@N@@
namespace Jvm.Pilot.@@N@@
open Jvm Jvm.ClassFile Sem Op Lib Jvm.Free Jvm.Stand Jvm.Pilot.@@N@@.Jvm.D
/-! MADE BY PROGRAM (witnessworld.py) out of the Statement's table words and the real class files: 9 classes; the members and pool entries that the words name. The judged class is class 1, her method 1. -/
namespace start1
open Jvm.ClassFile
def u (s : String) : CpInfo := .utf8 (stringToUtf16 s)
/-- a pool by its gaps: so many unusable entries, then the entry; so many at the end -/
def gap : Nat → List CpInfo → List CpInfo
  | 0, r => r
  | n + 1, r => .unusable :: gap n r
def poolList (es : List (Nat × CpInfo)) (last : Nat) : List CpInfo := es.foldr (fun e r => gap e.1 (e.2 :: r)) (gap last [])
def pool (es : List (Nat × CpInfo)) (last : Nat) : Array CpInfo := ⟨poolList es last⟩
def fileOf (pool : Array CpInfo) (this : Nat) (attrs : Array Attribute := #[]) (ms : Array MethodInfo := #[]) (fl : Nat := 33) (sup : Nat := 0) (ifs : Array Nat := #[]) (fds : Array FieldInfo := #[]) : ClassFile where
  minorVersion := 0
  majorVersion := 65
  constantPool := pool
  accessFlags := fl
  thisClass := this
  superClass := sup
  interfaces := ifs
  fields := fds
  methods := ms
  attributes := attrs
def plain (name : String) (sup : Option ClassId) : Class where
  name := name
  kind := .ordinary
  loader := none
  accessFlags := 33
  super := sup
  interfaces := #[]
  cf := none
  fields := #[]
  methods := #[]
  instanceTypes := #[]
  staticTypes := #[]
  resolved := #[]
  callSites := []
  init := .initialized
  statics := none
  mirror := none

def pool0 : Array CpInfo := pool [(5, u "<init>"), (0, u "()V"), (1, .class_ 10), (1, u "java/lang/Object")] 113

def k0m0 : Method := { name := "<init>", desc := "()V", sig := { parameters := [], returnType := none }, accessFlags := 1, code := none }
/-- java/lang/Object -/
def k0 : Class := { plain "java/lang/Object" none with
  accessFlags := 33
  interfaces := #[]
  cf := some (fileOf pool0 8 #[] #[{ accessFlags := 1, nameIndex := 5, descriptorIndex := 6, attributes := #[] }] 33 0 #[] #[])
  fields := #[]
  methods := #[k0m0]
  instanceTypes := #[]
  staticTypes := #[]
  resolved := Array.replicate 124 none
  statics := none }

def pool1 : Array CpInfo := pool [(2, .class_ 4), (1, u "java/lang/Object"), (0, u "<init>"), (0, u "()V"), (0, .integer 2147483647), (0, .methodref 9 10), (0, .class_ 11), (0, .nameAndType 12 13), (0, u "com/example/gneiss/gneiss/store/Page"), (0, u "longAt"), (0, u "([BI)J"), (0, .class_ 15), (0, u "com/example/gneiss/gneiss/store/PageLongAtPinLaw"), (2, u "law"), (0, u "(JIJI)Z")] 5

def k1m0 : Method := { name := "<init>", desc := "()V", sig := { parameters := [], returnType := none }, accessFlags := 2, code := none }
def k1c1 : Code := { maxStack := 5, maxLocals := 8, code := code, exceptionTable := #[], attributes := #[] }
def k1m1 : Method := { name := "law", desc := "(JIJI)Z", sig := { parameters := [.long, .int, .long, .int], returnType := some .boolean }, accessFlags := 9, code := some k1c1 }
/-- com/example/gneiss/gneiss/store/PageLongAtPinLaw -/
def k1 : Class := { plain "com/example/gneiss/gneiss/store/PageLongAtPinLaw" (some 0) with
  accessFlags := 49
  interfaces := #[]
  cf := some (fileOf pool1 14 #[] #[{ accessFlags := 2, nameIndex := 5, descriptorIndex := 6, attributes := #[] }, { accessFlags := 9, nameIndex := 18, descriptorIndex := 19, attributes := #[] }] 49 2 #[] #[])
  fields := #[]
  methods := #[k1m0, k1m1]
  instanceTypes := #[]
  staticTypes := #[]
  resolved := Array.replicate 25 none
  statics := none }

def pool2 : Array CpInfo := pool [(1, .class_ 2), (0, u "com/example/gneiss/gneiss/store/Page"), (3, .class_ 8), (1, u "java/lang/Object"), (0, u "<init>"), (0, u "()V"), (104, u "longAt"), (0, u "([BI)J"), (14, .long 255), (21, u "BIG_ENDIAN_LONG"), (0, u "Ljava/lang/invoke/VarHandle;"), (115, u "BIG_ENDIAN_SHORT"), (63, .class_ 336), (1, u "com/example/gneiss/gneiss/store/Page$Cut"), (26, u "[B"), (107, u "NO_KEY"), (50, u "SIZE"), (0, u "I"), (2, u "LEAF"), (0, u "B"), (1, u "BRANCH"), (1, u "UNCHECKED_BRANCH"), (1, u "UNCOUNTED_BRANCH"), (1, u "PACKED_LEAF"), (1, u "PREFIXED_LEAF"), (1, u "FORMAT_15_PREFIXED_LEAF"), (1, u "LEAF_ENTRY_HEADER"), (0, u "HELD_APART"), (0, u "PREFIXED_SAVING"), (0, u "KIND"), (1, u "COUNT"), (0, u "START"), (0, u "HEADER"), (0, u "SLOT"), (0, u "CAPACITY"), (1, u "VALUE_LENGTH"), (0, u "CHILD"), (0, u "SIX"), (0, u "BELOW"), (0, u "CHECKSUM"), (1, u "BRANCH_ENTRY_HEADER"), (1, u "UNCHECKED_BRANCH_ENTRY_HEADER"), (0, u "UNCOUNTED_BRANCH_ENTRY_HEADER")] 85

def k2m0 : Method := { name := "<init>", desc := "()V", sig := { parameters := [], returnType := none }, accessFlags := 2, code := none }
def k2c1 : Code := { maxStack := 6, maxLocals := 2, code := prog_114_method_18_code, exceptionTable := #[], attributes := #[] }
def k2m1 : Method := { name := "longAt", desc := "([BI)J", sig := { parameters := [(.array .byte), .int], returnType := some .long }, accessFlags := 8, code := some k2c1 }
/-- com/example/gneiss/gneiss/store/Page -/
def k2 : Class := { plain "com/example/gneiss/gneiss/store/Page" (some 0) with
  accessFlags := 48
  interfaces := #[]
  cf := some (fileOf pool2 1 #[.nestMembers #[334]] #[{ accessFlags := 2, nameIndex := 9, descriptorIndex := 10, attributes := #[] }, { accessFlags := 8, nameIndex := 115, descriptorIndex := 116, attributes := #[] }] 48 6 #[] #[{ accessFlags := 24, nameIndex := 522, descriptorIndex := 523, attributes := #[] }, { accessFlags := 24, nameIndex := 526, descriptorIndex := 527, attributes := #[] }, { accessFlags := 24, nameIndex := 529, descriptorIndex := 527, attributes := #[] }, { accessFlags := 24, nameIndex := 531, descriptorIndex := 527, attributes := #[] }, { accessFlags := 24, nameIndex := 533, descriptorIndex := 527, attributes := #[] }, { accessFlags := 24, nameIndex := 535, descriptorIndex := 527, attributes := #[] }, { accessFlags := 24, nameIndex := 537, descriptorIndex := 527, attributes := #[] }, { accessFlags := 24, nameIndex := 539, descriptorIndex := 527, attributes := #[] }, { accessFlags := 24, nameIndex := 541, descriptorIndex := 523, attributes := #[] }, { accessFlags := 24, nameIndex := 542, descriptorIndex := 523, attributes := #[] }, { accessFlags := 24, nameIndex := 153, descriptorIndex := 154, attributes := #[] }, { accessFlags := 26, nameIndex := 543, descriptorIndex := 523, attributes := #[] }, { accessFlags := 26, nameIndex := 544, descriptorIndex := 523, attributes := #[] }, { accessFlags := 26, nameIndex := 546, descriptorIndex := 523, attributes := #[] }, { accessFlags := 26, nameIndex := 547, descriptorIndex := 523, attributes := #[] }, { accessFlags := 26, nameIndex := 548, descriptorIndex := 523, attributes := #[] }, { accessFlags := 26, nameIndex := 549, descriptorIndex := 523, attributes := #[] }, { accessFlags := 26, nameIndex := 550, descriptorIndex := 523, attributes := #[] }, { accessFlags := 26, nameIndex := 552, descriptorIndex := 523, attributes := #[] }, { accessFlags := 26, nameIndex := 553, descriptorIndex := 523, attributes := #[] }, { accessFlags := 26, nameIndex := 554, descriptorIndex := 523, attributes := #[] }, { accessFlags := 26, nameIndex := 555, descriptorIndex := 523, attributes := #[] }, { accessFlags := 26, nameIndex := 556, descriptorIndex := 523, attributes := #[] }, { accessFlags := 26, nameIndex := 558, descriptorIndex := 523, attributes := #[] }, { accessFlags := 26, nameIndex := 560, descriptorIndex := 523, attributes := #[] }, { accessFlags := 26, nameIndex := 561, descriptorIndex := 523, attributes := #[] }, { accessFlags := 26, nameIndex := 471, descriptorIndex := 363, attributes := #[] }, { accessFlags := 26, nameIndex := 270, descriptorIndex := 154, attributes := #[] }])
  fields := #[{ name := "SIZE", type := .int, accessFlags := 24, slot := 0, constantValue := 0 }, { name := "LEAF", type := .byte, accessFlags := 24, slot := 1, constantValue := 0 }, { name := "BRANCH", type := .byte, accessFlags := 24, slot := 2, constantValue := 0 }, { name := "UNCHECKED_BRANCH", type := .byte, accessFlags := 24, slot := 3, constantValue := 0 }, { name := "UNCOUNTED_BRANCH", type := .byte, accessFlags := 24, slot := 4, constantValue := 0 }, { name := "PACKED_LEAF", type := .byte, accessFlags := 24, slot := 5, constantValue := 0 }, { name := "PREFIXED_LEAF", type := .byte, accessFlags := 24, slot := 6, constantValue := 0 }, { name := "FORMAT_15_PREFIXED_LEAF", type := .byte, accessFlags := 24, slot := 7, constantValue := 0 }, { name := "LEAF_ENTRY_HEADER", type := .int, accessFlags := 24, slot := 8, constantValue := 0 }, { name := "HELD_APART", type := .int, accessFlags := 24, slot := 9, constantValue := 0 }, { name := "BIG_ENDIAN_LONG", type := (.object "java/lang/invoke/VarHandle"), accessFlags := 24, slot := 10, constantValue := 0 }, { name := "PREFIXED_SAVING", type := .int, accessFlags := 26, slot := 11, constantValue := 0 }, { name := "KIND", type := .int, accessFlags := 26, slot := 12, constantValue := 0 }, { name := "COUNT", type := .int, accessFlags := 26, slot := 13, constantValue := 0 }, { name := "START", type := .int, accessFlags := 26, slot := 14, constantValue := 0 }, { name := "HEADER", type := .int, accessFlags := 26, slot := 15, constantValue := 0 }, { name := "SLOT", type := .int, accessFlags := 26, slot := 16, constantValue := 0 }, { name := "CAPACITY", type := .int, accessFlags := 26, slot := 17, constantValue := 0 }, { name := "VALUE_LENGTH", type := .int, accessFlags := 26, slot := 18, constantValue := 0 }, { name := "CHILD", type := .int, accessFlags := 26, slot := 19, constantValue := 0 }, { name := "SIX", type := .int, accessFlags := 26, slot := 20, constantValue := 0 }, { name := "BELOW", type := .int, accessFlags := 26, slot := 21, constantValue := 0 }, { name := "CHECKSUM", type := .int, accessFlags := 26, slot := 22, constantValue := 0 }, { name := "BRANCH_ENTRY_HEADER", type := .int, accessFlags := 26, slot := 23, constantValue := 0 }, { name := "UNCHECKED_BRANCH_ENTRY_HEADER", type := .int, accessFlags := 26, slot := 24, constantValue := 0 }, { name := "UNCOUNTED_BRANCH_ENTRY_HEADER", type := .int, accessFlags := 26, slot := 25, constantValue := 0 }, { name := "NO_KEY", type := (.array .byte), accessFlags := 26, slot := 26, constantValue := 0 }, { name := "BIG_ENDIAN_SHORT", type := (.object "java/lang/invoke/VarHandle"), accessFlags := 26, slot := 27, constantValue := 0 }]
  methods := #[k2m0, k2m1]
  instanceTypes := #[]
  staticTypes := #[.int, .byte, .byte, .byte, .byte, .byte, .byte, .byte, .int, .int, (.object "java/lang/invoke/VarHandle"), .int, .int, .int, .int, .int, .int, .int, .int, .int, .int, .int, .int, .int, .int, .int, (.array .byte), (.object "java/lang/invoke/VarHandle")]
  resolved := Array.replicate 647 none
  statics := none }

def pool3 : Array CpInfo := pool [(1, u "java/lang/Cloneable"), (0, .class_ 1), (0, u "java/lang/Object"), (0, .class_ 3)] 3

/-- java/lang/Cloneable -/
def k3 : Class := { plain "java/lang/Cloneable" (some 0) with
  accessFlags := 1537
  interfaces := #[]
  cf := some (fileOf pool3 2 #[] #[] 1537 4 #[] #[])
  fields := #[]
  methods := #[]
  instanceTypes := #[]
  staticTypes := #[]
  resolved := Array.replicate 8 none
  statics := none }

def pool4 : Array CpInfo := pool [(1, u "java/io/Serializable"), (0, .class_ 1), (0, u "java/lang/Object"), (0, .class_ 3)] 3

/-- java/io/Serializable -/
def k4 : Class := { plain "java/io/Serializable" (some 0) with
  accessFlags := 1537
  interfaces := #[]
  cf := some (fileOf pool4 2 #[] #[] 1537 4 #[] #[])
  fields := #[]
  methods := #[]
  instanceTypes := #[]
  staticTypes := #[]
  resolved := Array.replicate 8 none
  statics := none }

/-- the primitive byte -/
def k5 : Class := { plain "byte" none with kind := .primitive 'B', accessFlags := 0x411 }
/-- [B -/
def k6 : Class := { plain "[B" (some 0) with kind := .array 5 .byte, interfaces := #[3, 4], accessFlags := 1041 }

/-- the primitive int -/
def k7 : Class := { plain "int" none with kind := .primitive 'I', accessFlags := 0x411 }
/-- [I -/
def k8 : Class := { plain "[I" (some 0) with kind := .array 7 .int, interfaces := #[3, 4], accessFlags := 1041 }

def heap : Heap := #[]
def classes : Array Class := #[k0, k1, k2, k3, k4, k5, k6, k7, k8]
def interned : List (Array UInt16 × Addr) := []
def slotsUsed : Nat := 0
def theMethod : MethodId := ⟨1, 1⟩
def args0 : Array Value := #[.long 5, .int 6, .long 7, .int 8]
def aboutOver (below : List Frame) : State where
  vm := { classes := classes, interned := interned.toArray }
  heap := heap
  slotsUsed := slotsUsed
  threads := #[{ frames := .invoking theMethod args0 :: below }]
def below0 : List Frame := [.native { method := ⟨0, 0⟩, args := #[] }]
def about1 : State := aboutOver below0
def p0 : Program := .bare "" "" ""
def e0 : Env := launch0.env 0 0 0
theorem w_frames : about1.frames = Frame.invoking theMethod args0 :: below0 := rfl
set_option maxRecDepth 65536 in
theorem w_args : argsFit about1.vm theMethod args0 = true := by decide +kernel
set_option maxRecDepth 65536 in
theorem w_heap : heapFits about1 = true := by decide +kernel
set_option maxRecDepth 65536 in
theorem w_runnable : about1.curStatus? = some .runnable := by decide +kernel
set_option maxRecDepth 65536 in
theorem w_alone : about1.alone = true := by decide +kernel
set_option maxRecDepth 65536 in
theorem w_named : about1.methodNamed? x = some theMethod := by decide +kernel
set_option maxRecDepth 65536 in
theorem w_hears : about1.hears theMethod below0 = true := by decide +kernel
set_option maxRecDepth 65536 in
theorem w_ripe : about1.ripe theMethod args0 below0 = true := by decide +kernel
theorem w_running : about1.status = .running := rfl
set_option maxRecDepth 65536 in
theorem w_room : about1.hasRoom e0.platform room_1 = true :=
  launch0.hasRoom_least _ room_1 (by decide +kernel) (by decide +kernel) (by decide +kernel) (by decide +kernel) (by decide +kernel) (by decide +kernel)
theorem allAtoms_all (ts : List Jvm.Cond) (a : Array Jvm.Value) (st : Jvm.State) : (allAtoms ts).before a st = ts.all (fun c => c.before a st) := by
  induction ts with
  | nil => rfl
  | cons c t ih =>
    show (Jvm.Cond.and c (allAtoms t)).before a st = _
    rw [Jvm.Cond.before_and, ih, List.all_cons]
def words1 : List Jvm.Cond := Jvm.Cond.code x code maxLocals ret :: tables_1
/-- a 'code' word, met by the world's own term for the bytes: nothing is compared byte by byte -/
theorem code_word {y : MethodName} {bytes : ByteArray} {mx : Nat} {rt : Option FieldType} {a : Array Value} {s : State} {m : MethodId} {meth : Method} {c : Code} (h1 : s.methodNamed? y = some m) (h2 : s.vm.method? m = some meth) (h3 : meth.code = some c) (h4 : c.code = bytes)
    (h5 : (c.maxLocals == mx && c.exceptionTable.isEmpty && decide (c.maxStack ≤ mostOperands) && decide (meth.sig.returnType = rt) && !meth.locks && decide (parseMethodDescriptor y.desc = some meth.sig)) = true) : (Jvm.Cond.code y bytes mx rt).before a s = true := by
  simp only [Bool.and_eq_true, beq_iff_eq, Bool.not_eq_true', decide_eq_true_eq] at h5
  obtain ⟨⟨⟨⟨⟨g1, g2⟩, g3⟩, g4⟩, g5⟩, g6⟩ := h5
  simp [Cond.before, Cond.holds, Cond.value, h1, h2, h3, h4, g1, g2, g3, g4, g5, g6]
def isCode : Jvm.Cond → Bool
  | .code _ _ _ _ => true
  | _ => false
theorem all_split {L : List Jvm.Cond} {P : Jvm.Cond → Bool} (h1 : L.all (fun c => isCode c || P c) = true) (h2 : ∀ c ∈ L.filter isCode, P c = true) : L.all P = true := by
  refine List.all_eq_true.mpr fun c hc => ?_
  have h := List.all_eq_true.mp h1 c hc
  rcases Bool.eq_false_or_eq_true (isCode c) with hi | hi
  · exact h2 c (List.mem_filter.mpr ⟨hc, hi⟩)
  · simpa [hi] using h
set_option maxRecDepth 65536 in
theorem w_c0 : (Jvm.Cond.code x code maxLocals ret).before args0 about1 = true := code_word (m := ⟨1, 1⟩) (meth := k1m1) (c := k1c1) (by decide +kernel) rfl rfl rfl (by decide +kernel)
set_option maxRecDepth 65536 in
theorem w_c1 : (Jvm.Cond.code ({ cls := "com/example/gneiss/gneiss/store/Page", name := "longAt", desc := "([BI)J" } : Jvm.MethodName) prog_114_method_18_code (2 : Nat) (Option.some Jvm.ClassFile.FieldType.long)).before args0 about1 = true := code_word (m := ⟨2, 1⟩) (meth := k2m1) (c := k2c1) (by decide +kernel) rfl rfl rfl (by decide +kernel)
def codes1 : List Jvm.Cond := [Jvm.Cond.code x code maxLocals ret, Jvm.Cond.code ({ cls := "com/example/gneiss/gneiss/store/Page", name := "longAt", desc := "([BI)J" } : Jvm.MethodName) prog_114_method_18_code (2 : Nat) (Option.some Jvm.ClassFile.FieldType.long)]
set_option maxRecDepth 65536 in
theorem codes_eq : words1.filter isCode = codes1 := rfl
theorem w_codes : ∀ c ∈ words1.filter isCode, c.before args0 about1 = true := by
  rw [codes_eq]
  intro c hc
  simp only [codes1, List.mem_cons, List.not_mem_nil, or_false] at hc
  rcases hc with rfl | rfl
  · exact w_c0
  · exact w_c1
set_option maxRecDepth 65536 in
theorem w_t1 : words1.all (fun c => isCode c || c.before args0 about1) = true := by decide +kernel
theorem w_tables : (allAtoms (Jvm.Cond.code x code maxLocals ret :: tables_1)).before args0 about1 = true := by
  rw [allAtoms_all]
  show words1.all (fun c => c.before args0 about1) = true
  refine all_split ?_ w_codes
  rw [w_t1]
set_option maxRecDepth 65536 in
theorem w_case : (Jvm.Cond.and given_1 narrow_1).before args0 about1 = true := by decide +kernel
theorem w_applies : (headSpec (Jvm.Cond.code x code maxLocals ret :: tables_1) room_1).applies x e0.platform about1 = true :=
  (Spec.applies_iff w_frames).mpr ⟨w_running, w_runnable, w_alone, w_named, w_hears, w_ripe, w_room, w_tables⟩
theorem atStart : AtStart classFile x code maxLocals ret World_1 tables_1 room_1 Calls_1 rest_1 Pre_1 launch0 p0 e0 about1 theMethod args0 below0 :=
  ⟨lists_1, trivial, launch0.admits_env _ _ _, launch0.least_env, fairChoices_fair.cas, fairChoices_fair.clock, w_frames, w_args, w_heap, w_applies, trivial, trivial, w_case⟩
end start1
theorem witness_1 : WitnessClaimed_1 := ⟨start1.p0, start1.e0, start1.about1, start1.theMethod, start1.args0, start1.below0, start1.atStart⟩
end Jvm.Pilot.@@N@@
