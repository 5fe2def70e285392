import JvmDerived
import JvmDerived.Pilot.@@N@@Statement
import JvmDerived.Pilot.@@N@@Code
set_option linter.unusedVariables false
set_option linter.unusedSimpArgs false
namespace Jvm.RoadKit
open Sem ClassFile Op Lib Jvm.Stand Jvm.Free Jvm.LawKit
section New
variable {p : Program} {l : Launch} {e : Env} {R : Room} {s : State} {m : MethodId} {args : Array Value} {below : List Frame} {meth : Method} {c : Code} {T : State} {locs : List Loc} {cells slots : Nat}
theorem retI (X : Stand p l e R s m args below meth c T locs cells slots) (hx : p.tables.exec = Jvm.exec) {pc : Nat} {Ls : Array Slot} {z : Int32} {rest : List Value} (hret : meth.sig.returnType = some .int) (hd : decode c.code pc = .ok (.ireturn, 1)) {fs : List Frame}
    (hl : ∀ (f : JFrame) (acts : List Action), f.method = m → f.locked = none → f.entered = [] → (doReturn e (T.setTop f) acts (some (.int z))).1 = T.setFrames fs) : Steps p.tables e below (T.setTop (mkF m pc Ls (.int z :: rest))) (T.setFrames fs) := by
  have hm' : T.vm.method? m = some meth := X.method'
  have hn : narrow .int (.int z) = .int z := rfl
  show Steps p.tables e below (T.setTop { method := m, pc := pc, locals := Ls, stack := _ :: rest, locked := none }) _
  jvm_step X.here [X.here.top, hx, hd, hm', hret, hn]
  first | (intro acts; rw [hl _ acts rfl rfl rfl]) | rw [hl _ _ rfl rfl rfl]
  exact Steps.refl _
end New
end Jvm.RoadKit
namespace Jvm.Pilot.@@N@@
open Jvm Jvm.ClassFile Sem Op Lib Jvm.Free Jvm.Stand Jvm.LawKit Jvm.RoadKit Bundle Jvm.Pilot.@@N@@.Jvm.D
theorem own_ite01 {c : Prop} [Decidable c] {a b : Int32} (ha : a = 0 ∨ a = 1) (hb : b = 0 ∨ b = 1) : (if c then a else b) = 0 ∨ (if c then a else b) = 1 := by split <;> assumption
theorem own_nz {r : Int32} (h : r = 0 ∨ r = 1) : nar .boolean r = r := by rcases h with rfl | rfl <;> rfl
section own
variable {p : Program} {l : Launch} {e : Env} {R : Room} {s : State} {m : MethodId} {args : Array Value} {below : List Frame} {meth : Method} {c : Code} {T : State} {locs : List Loc} {cells slots : Nat} {Z : State} {h h' h0 : Heap} {a b : Addr} {k : ClassId} {ty : FieldType} {n : Int32} {vs : List Int32} {ls : List Int64} {sl : Nat} {v : Value} {ws : List Addr}
/-- an array of ints (or bytes, chars, shorts, booleans), by its list -/
def IA (Z : State) (h : Heap) (a : Addr) (k : ClassId) (ty : FieldType) (n : Int32) (vs : List Int32) : Prop := Arv Z h a k ty n (vs.map Value.int) (.int 0) ∧ vs.length = n.toNatClampNeg
def LA (Z : State) (h : Heap) (a : Addr) (k : ClassId) (n : Int32) (ls : List Int64) : Prop := Arv Z h a k .long n (ls.map Value.long) (.long 0) ∧ ls.length = n.toNatClampNeg
theorem IA.lt (F : IA Z h a k ty n vs) : a < h.size := F.1.lt
theorem IA.ext (F : IA Z h a k ty n vs) (E : Ext h h') : IA Z h' a k ty n vs := ⟨F.1.ext E, F.2⟩
theorem IA.other (F : IA Z h b k ty n vs) (W : Wr h h' a sl v) (q : b ≠ a) : IA Z h' b k ty n vs := ⟨F.1.other W q, F.2⟩
theorem IA.keep (F : IA Z h a k ty n vs) (K : Keep h h' ws) (q : a ∉ ws) : IA Z h' a k ty n vs := ⟨F.1.keep K q, F.2⟩
theorem LA.lt (F : LA Z h a k n ls) : a < h.size := F.1.lt
theorem LA.ext (F : LA Z h a k n ls) (E : Ext h h') : LA Z h' a k n ls := ⟨F.1.ext E, F.2⟩
theorem LA.other (F : LA Z h b k n ls) (W : Wr h h' a sl v) (q : b ≠ a) : LA Z h' b k n ls := ⟨F.1.other W q, F.2⟩
theorem LA.keep (F : LA Z h a k n ls) (K : Keep h h' ws) (q : a ∉ ws) : LA Z h' a k n ls := ⟨F.1.keep K q, F.2⟩
theorem IA.new (A : Arr Z h a (newA k ty n) ty) (q : ¬ n < 0) (hd : defaultValue ty = .int 0) {c : Nat} (hc : n.toNatClampNeg = c) : IA Z h a k ty n (List.replicate c 0) := by
  refine ⟨?_, by rw [List.length_replicate, hc]⟩
  have F := Arv.new A q
  rw [hd] at F
  rw [List.map_replicate]
  exact F.pad (pad_rep [] (.int 0) c)
theorem LA.new (A : Arr Z h a (newA k .long n) .long) (q : ¬ n < 0) {c : Nat} (hc : n.toNatClampNeg = c) : LA Z h a k n (List.replicate c 0) := by
  refine ⟨?_, by rw [List.length_replicate, hc]⟩
  have F : Arv Z h a k .long n [] (.long 0) := Arv.new A q
  rw [List.map_replicate]
  exact F.pad (pad_rep [] (.long 0) c)
theorem own_getI (vs : List Int32) (i : Nat) : (vs.map Value.int).getD i (.int 0) = .int (vs.getD i 0) := by
  simp only [List.getD_eq_getElem?_getD, List.getElem?_map]; cases vs[i]? <;> rfl
theorem own_getL (vs : List Int64) (i : Nat) : (vs.map Value.long).getD i (.long 0) = .long (vs.getD i 0) := by
  simp only [List.getD_eq_getElem?_getD, List.getElem?_map]; cases vs[i]? <;> rfl
theorem IA.inb {cl : Cell} {j : Int32} {i : Nat} (S : cl.slots.size = n.toNatClampNeg) (hl : vs.length = n.toNatClampNeg) (hj : j.toNatClampNeg = i) (hn : ¬ j < 0) (hi : i < vs.length) : ¬ (j < 0 ∨ cl.slots.size ≤ j.toNatClampNeg) := by
  rintro (q | q)
  · exact hn q
  · rw [S, ← hl, hj] at q; omega
theorem LA.inb {cl : Cell} {j : Int32} {i : Nat} (S : cl.slots.size = n.toNatClampNeg) (hl : ls.length = n.toNatClampNeg) (hj : j.toNatClampNeg = i) (hn : ¬ j < 0) (hi : i < ls.length) : ¬ (j < 0 ∨ cl.slots.size ≤ j.toNatClampNeg) := by
  rintro (q | q)
  · exact hn q
  · rw [S, ← hl, hj] at q; omega
theorem IA.at {cl : Cell} {j : Int32} {i : Nat} {w : Int32} (H : Has cl (vs.map Value.int) (.int 0)) (S : cl.slots.size = n.toNatClampNeg) (hl : vs.length = n.toNatClampNeg) (hj : j.toNatClampNeg = i) (hi : i < vs.length) (hw : vs.getD i 0 = w) : cl.slots[j.toNatClampNeg]? = some (.int w) := by
  rw [H _ (by rw [S, ← hl, hj]; exact hi), own_getI, hj, hw]
theorem LA.at {cl : Cell} {j : Int32} {i : Nat} {w : Int64} (H : Has cl (ls.map Value.long) (.long 0)) (S : cl.slots.size = n.toNatClampNeg) (hl : ls.length = n.toNatClampNeg) (hj : j.toNatClampNeg = i) (hi : i < ls.length) (hw : ls.getD i 0 = w) : cl.slots[j.toNatClampNeg]? = some (.long w) := by
  rw [H _ (by rw [S, ← hl, hj]; exact hi), own_getL, hj, hw]
theorem ia_ldI (X : Stand p l e R s m args below meth c T locs cells slots) (hx : p.tables.exec = Jvm.exec) (hZ : Z.Warmed39 s.vm) (eT : T.heap = h) (A : IA Z h a k .int n vs) {j : Int32} (i : Nat) (hj : j.toNatClampNeg = i) (hn : ¬ j < 0) (hi : i < vs.length) {w : Int32} (hw : vs.getD i 0 = w) {g : JFrame} (hg : g.method = m) {rest : List Value} (hs : g.stack = .int j :: .ref a :: rest) (hd : decode c.code g.pc = .ok (.iaload, 1)) (target : State)
    (q : Steps p.tables e below (T.setTop { g with pc := g.pc + 1, stack := .int w :: rest }) target) : Steps p.tables e below (T.setTop g) target := by
  obtain ⟨⟨cl, Ar, -, S, -, H, -⟩, hl⟩ := A
  exact X.iaload hx (by rw [eT]; exact Ar.1) (State.isArrayOf_alike hZ.alike Ar.2.1) Ar.2.2 (IA.inb S hl hj hn hi) (IA.at H S hl hj hi hw) hg hs hd target q
theorem ia_ldC (X : Stand p l e R s m args below meth c T locs cells slots) (hx : p.tables.exec = Jvm.exec) (hZ : Z.Warmed39 s.vm) (eT : T.heap = h) (A : IA Z h a k .char n vs) {j : Int32} (i : Nat) (hj : j.toNatClampNeg = i) (hn : ¬ j < 0) (hi : i < vs.length) {w : Int32} (hw : vs.getD i 0 = w) {g : JFrame} (hg : g.method = m) {rest : List Value} (hs : g.stack = .int j :: .ref a :: rest) (hd : decode c.code g.pc = .ok (.caload, 1)) (target : State)
    (q : Steps p.tables e below (T.setTop { g with pc := g.pc + 1, stack := .int w :: rest }) target) : Steps p.tables e below (T.setTop g) target := by
  obtain ⟨⟨cl, Ar, -, S, -, H, -⟩, hl⟩ := A
  exact X.caload hx (by rw [eT]; exact Ar.1) (State.isArrayOf_alike hZ.alike Ar.2.1) Ar.2.2 (IA.inb S hl hj hn hi) (IA.at H S hl hj hi hw) hg hs hd target q
theorem ia_ldS (X : Stand p l e R s m args below meth c T locs cells slots) (hx : p.tables.exec = Jvm.exec) (hZ : Z.Warmed39 s.vm) (eT : T.heap = h) (A : IA Z h a k .short n vs) {j : Int32} (i : Nat) (hj : j.toNatClampNeg = i) (hn : ¬ j < 0) (hi : i < vs.length) {w : Int32} (hw : vs.getD i 0 = w) {g : JFrame} (hg : g.method = m) {rest : List Value} (hs : g.stack = .int j :: .ref a :: rest) (hd : decode c.code g.pc = .ok (.saload, 1)) (target : State)
    (q : Steps p.tables e below (T.setTop { g with pc := g.pc + 1, stack := .int w :: rest }) target) : Steps p.tables e below (T.setTop g) target := by
  obtain ⟨⟨cl, Ar, -, S, -, H, -⟩, hl⟩ := A
  exact X.saload hx (by rw [eT]; exact Ar.1) (State.isArrayOf_alike hZ.alike Ar.2.1) Ar.2.2 (IA.inb S hl hj hn hi) (IA.at H S hl hj hi hw) hg hs hd target q
theorem ia_ldB (X : Stand p l e R s m args below meth c T locs cells slots) (hx : p.tables.exec = Jvm.exec) (hZ : Z.Warmed39 s.vm) (eT : T.heap = h) (A : IA Z h a k .byte n vs) {j : Int32} (i : Nat) (hj : j.toNatClampNeg = i) (hn : ¬ j < 0) (hi : i < vs.length) {w : Int32} (hw : vs.getD i 0 = w) {g : JFrame} (hg : g.method = m) {rest : List Value} (hs : g.stack = .int j :: .ref a :: rest) (hd : decode c.code g.pc = .ok (.baload, 1)) (target : State)
    (q : Steps p.tables e below (T.setTop { g with pc := g.pc + 1, stack := .int w :: rest }) target) : Steps p.tables e below (T.setTop g) target := by
  obtain ⟨⟨cl, Ar, -, S, -, H, -⟩, hl⟩ := A
  exact X.baloadBytes hx (by rw [eT]; exact Ar.1) (State.isArrayOf_alike hZ.alike Ar.2.1) Ar.2.2 (IA.inb S hl hj hn hi) (IA.at H S hl hj hi hw) hg hs hd target q
theorem ia_ldZ (X : Stand p l e R s m args below meth c T locs cells slots) (hx : p.tables.exec = Jvm.exec) (hZ : Z.Warmed39 s.vm) (eT : T.heap = h) (A : IA Z h a k .boolean n vs) {j : Int32} (i : Nat) (hj : j.toNatClampNeg = i) (hn : ¬ j < 0) (hi : i < vs.length) {w : Int32} (hw : vs.getD i 0 = w) {g : JFrame} (hg : g.method = m) {rest : List Value} (hs : g.stack = .int j :: .ref a :: rest) (hd : decode c.code g.pc = .ok (.baload, 1)) (target : State)
    (q : Steps p.tables e below (T.setTop { g with pc := g.pc + 1, stack := .int w :: rest }) target) : Steps p.tables e below (T.setTop g) target := by
  obtain ⟨⟨cl, Ar, -, S, -, H, -⟩, hl⟩ := A
  exact X.baloadBooleans hx (by rw [eT]; exact Ar.1) (State.isArrayOf_alike hZ.alike Ar.2.1) Ar.2.2 (IA.inb S hl hj hn hi) (IA.at H S hl hj hi hw) hg hs hd target q
theorem la_ldJ (X : Stand p l e R s m args below meth c T locs cells slots) (hx : p.tables.exec = Jvm.exec) (hZ : Z.Warmed39 s.vm) (eT : T.heap = h) (A : LA Z h a k n ls) {j : Int32} (i : Nat) (hj : j.toNatClampNeg = i) (hn : ¬ j < 0) (hi : i < ls.length) {w : Int64} (hw : ls.getD i 0 = w) {g : JFrame} (hg : g.method = m) {rest : List Value} (hs : g.stack = .int j :: .ref a :: rest) (hd : decode c.code g.pc = .ok (.laload, 1)) (target : State)
    (q : Steps p.tables e below (T.setTop { g with pc := g.pc + 1, stack := .long w :: rest }) target) : Steps p.tables e below (T.setTop g) target := by
  obtain ⟨⟨cl, Ar, -, S, -, H, -⟩, hl⟩ := A
  exact X.laload hx (by rw [eT]; exact Ar.1) (State.isArrayOf_alike hZ.alike Ar.2.1) Ar.2.2 (LA.inb S hl hj hn hi) (LA.at H S hl hj hi hw) hg hs hd target q
theorem ia_len (X : Stand p l e R s m args below meth c T locs cells slots) (hx : p.tables.exec = Jvm.exec) (hZ : Z.Warmed39 s.vm) (eT : T.heap = h) (A : IA Z h a k ty n vs) {g : JFrame} (hg : g.method = m) {rest : List Value} (hs : g.stack = .ref a :: rest) (hd : decode c.code g.pc = .ok (.arraylength, 1)) (target : State)
    (q : Steps p.tables e below (T.setTop { g with pc := g.pc + 1, stack := .int n :: rest }) target) : Steps p.tables e below (T.setTop g) target := by
  obtain ⟨⟨cl, Ar, -, S, N, H, -⟩, hl⟩ := A
  refine X.arraylength hx (by rw [eT]; exact Ar.1) (State.isArrayOf_alike hZ.alike Ar.2.1) hg hs hd target ?_
  rw [len_of S N]; exact q
theorem la_len (X : Stand p l e R s m args below meth c T locs cells slots) (hx : p.tables.exec = Jvm.exec) (hZ : Z.Warmed39 s.vm) (eT : T.heap = h) (A : LA Z h a k n ls) {g : JFrame} (hg : g.method = m) {rest : List Value} (hs : g.stack = .ref a :: rest) (hd : decode c.code g.pc = .ok (.arraylength, 1)) (target : State)
    (q : Steps p.tables e below (T.setTop { g with pc := g.pc + 1, stack := .int n :: rest }) target) : Steps p.tables e below (T.setTop g) target := by
  obtain ⟨⟨cl, Ar, -, S, N, H, -⟩, hl⟩ := A
  refine X.arraylength hx (by rw [eT]; exact Ar.1) (State.isArrayOf_alike hZ.alike Ar.2.1) hg hs hd target ?_
  rw [len_of S N]; exact q
theorem IA.put {cl : Cell} {j : Int32} {i : Nat} {y : Int32} (Ar : Arr Z h a cl ty) (q1 : cl.cls = k) (S : cl.slots.size = n.toNatClampNeg) (N : ¬ n < 0) (H : Has cl (vs.map Value.int) (.int 0)) (G : ∀ i, i < cl.slots.size → fits ty ((vs.map Value.int).getD i (.int 0)) = true) (hl : vs.length = n.toNatClampNeg) (hv : fits ty (.int y) = true) (W : Wr h h' a j.toNatClampNeg (.int y)) (hj : j.toNatClampNeg = i) (hi : i < vs.length) : IA Z h' a k ty n (vs.set i y) := by
  refine ⟨?_, by rw [List.length_set]; exact hl⟩
  have := Arv.set Ar q1 S N H G hv W i hj (by rw [List.length_map]; exact hi)
  rwa [← List.map_set] at this
theorem LA.put {cl : Cell} {j : Int32} {i : Nat} {y : Int64} (Ar : Arr Z h a cl .long) (q1 : cl.cls = k) (S : cl.slots.size = n.toNatClampNeg) (N : ¬ n < 0) (H : Has cl (ls.map Value.long) (.long 0)) (G : ∀ i, i < cl.slots.size → fits .long ((ls.map Value.long).getD i (.long 0)) = true) (hl : ls.length = n.toNatClampNeg) (W : Wr h h' a j.toNatClampNeg (.long y)) (hj : j.toNatClampNeg = i) (hi : i < ls.length) : LA Z h' a k n (ls.set i y) := by
  refine ⟨?_, by rw [List.length_set]; exact hl⟩
  have := Arv.set Ar q1 S N H G rfl W i hj (by rw [List.length_map]; exact hi)
  rwa [← List.map_set] at this
theorem ia_stI (X : Stand p l e R s m args below meth c T locs cells slots) (hx : p.tables.exec = Jvm.exec) (hZ : Z.Warmed39 s.vm) (eT : T.heap = h) (A : IA Z h a k .int n vs) {j : Int32} (i : Nat) (hj : j.toNatClampNeg = i) (hn : ¬ j < 0) (hi : i < vs.length) {x : Int32} {g : JFrame} (hg : g.method = m) {rest : List Value} (hs : g.stack = .int x :: .int j :: .ref a :: rest) (hd : decode c.code g.pc = .ok (.iastore, 1)) :
    ∃ T' h', Stand p l e R s m args below meth c T' (locs ++ [⟨a, j.toNatClampNeg⟩]) cells slots ∧ T'.heap = h' ∧ Wr h h' a j.toNatClampNeg (.int x) ∧ IA Z h' a k .int n (vs.set i x) ∧ ∀ target, Steps p.tables e below (T'.setTop { g with pc := g.pc + 1, stack := rest }) target → Steps p.tables e below (T.setTop g) target := by
  obtain ⟨⟨cl, Ar, q1, S, N, H, G⟩, hl⟩ := A
  obtain ⟨T', h', X', e', W, st⟩ := stI X hx hZ eT Ar (IA.inb S hl hj hn hi) hg hs hd
  exact ⟨T', h', X', e', W, IA.put Ar q1 S N H G hl rfl W hj hi, st⟩
theorem la_stJ (X : Stand p l e R s m args below meth c T locs cells slots) (hx : p.tables.exec = Jvm.exec) (hZ : Z.Warmed39 s.vm) (eT : T.heap = h) (A : LA Z h a k n ls) {j : Int32} (i : Nat) (hj : j.toNatClampNeg = i) (hn : ¬ j < 0) (hi : i < ls.length) {x : Int64} {g : JFrame} (hg : g.method = m) {rest : List Value} (hs : g.stack = .long x :: .int j :: .ref a :: rest) (hd : decode c.code g.pc = .ok (.lastore, 1)) :
    ∃ T' h', Stand p l e R s m args below meth c T' (locs ++ [⟨a, j.toNatClampNeg⟩]) cells slots ∧ T'.heap = h' ∧ Wr h h' a j.toNatClampNeg (.long x) ∧ LA Z h' a k n (ls.set i x) ∧ ∀ target, Steps p.tables e below (T'.setTop { g with pc := g.pc + 1, stack := rest }) target → Steps p.tables e below (T.setTop g) target := by
  obtain ⟨⟨cl, Ar, q1, S, N, H, G⟩, hl⟩ := A
  obtain ⟨T', h', X', e', W, st⟩ := stJ X hx hZ eT Ar (LA.inb S hl hj hn hi) hg hs hd
  exact ⟨T', h', X', e', W, LA.put Ar q1 S N H G hl W hj hi, st⟩
theorem ia_stC (X : Stand p l e R s m args below meth c T locs cells slots) (hx : p.tables.exec = Jvm.exec) (hZ : Z.Warmed39 s.vm) (eT : T.heap = h) (A : IA Z h a k .char n vs) {j : Int32} (i : Nat) (hj : j.toNatClampNeg = i) (hn : ¬ j < 0) (hi : i < vs.length) {x y : Int32} (hy : nar .char x = y) {g : JFrame} (hg : g.method = m) {rest : List Value} (hs : g.stack = .int x :: .int j :: .ref a :: rest) (hd : decode c.code g.pc = .ok (.castore, 1)) :
    ∃ T' h', Stand p l e R s m args below meth c T' (locs ++ [⟨a, j.toNatClampNeg⟩]) cells slots ∧ T'.heap = h' ∧ Wr h h' a j.toNatClampNeg (.int y) ∧ IA Z h' a k .char n (vs.set i y) ∧ ∀ target, Steps p.tables e below (T'.setTop { g with pc := g.pc + 1, stack := rest }) target → Steps p.tables e below (T.setTop g) target := by
  subst hy
  obtain ⟨⟨cl, Ar, q1, S, N, H, G⟩, hl⟩ := A
  obtain ⟨T', h', X', e', W, st⟩ := stC X hx hZ eT Ar (IA.inb S hl hj hn hi) hg hs hd
  exact ⟨T', h', X', e', W, IA.put Ar q1 S N H G hl (fits_nar_char _) W hj hi, st⟩
theorem ia_stS (X : Stand p l e R s m args below meth c T locs cells slots) (hx : p.tables.exec = Jvm.exec) (hZ : Z.Warmed39 s.vm) (eT : T.heap = h) (A : IA Z h a k .short n vs) {j : Int32} (i : Nat) (hj : j.toNatClampNeg = i) (hn : ¬ j < 0) (hi : i < vs.length) {x y : Int32} (hy : nar .short x = y) {g : JFrame} (hg : g.method = m) {rest : List Value} (hs : g.stack = .int x :: .int j :: .ref a :: rest) (hd : decode c.code g.pc = .ok (.sastore, 1)) :
    ∃ T' h', Stand p l e R s m args below meth c T' (locs ++ [⟨a, j.toNatClampNeg⟩]) cells slots ∧ T'.heap = h' ∧ Wr h h' a j.toNatClampNeg (.int y) ∧ IA Z h' a k .short n (vs.set i y) ∧ ∀ target, Steps p.tables e below (T'.setTop { g with pc := g.pc + 1, stack := rest }) target → Steps p.tables e below (T.setTop g) target := by
  subst hy
  obtain ⟨⟨cl, Ar, q1, S, N, H, G⟩, hl⟩ := A
  obtain ⟨T', h', X', e', W, st⟩ := stS X hx hZ eT Ar (IA.inb S hl hj hn hi) hg hs hd
  exact ⟨T', h', X', e', W, IA.put Ar q1 S N H G hl (fits_nar_short _) W hj hi, st⟩
theorem ia_stB (X : Stand p l e R s m args below meth c T locs cells slots) (hx : p.tables.exec = Jvm.exec) (hZ : Z.Warmed39 s.vm) (eT : T.heap = h) (A : IA Z h a k .byte n vs) {j : Int32} (i : Nat) (hj : j.toNatClampNeg = i) (hn : ¬ j < 0) (hi : i < vs.length) {x y : Int32} (hy : nar .byte x = y) {g : JFrame} (hg : g.method = m) {rest : List Value} (hs : g.stack = .int x :: .int j :: .ref a :: rest) (hd : decode c.code g.pc = .ok (.bastore, 1)) :
    ∃ T' h', Stand p l e R s m args below meth c T' (locs ++ [⟨a, j.toNatClampNeg⟩]) cells slots ∧ T'.heap = h' ∧ Wr h h' a j.toNatClampNeg (.int y) ∧ IA Z h' a k .byte n (vs.set i y) ∧ ∀ target, Steps p.tables e below (T'.setTop { g with pc := g.pc + 1, stack := rest }) target → Steps p.tables e below (T.setTop g) target := by
  subst hy
  obtain ⟨⟨cl, Ar, q1, S, N, H, G⟩, hl⟩ := A
  obtain ⟨T', h', X', e', W, st⟩ := stB X hx hZ eT Ar (IA.inb S hl hj hn hi) hg hs hd
  exact ⟨T', h', X', e', W, IA.put Ar q1 S N H G hl (fits_nar_byte _) W hj hi, st⟩
theorem ia_stZ (X : Stand p l e R s m args below meth c T locs cells slots) (hx : p.tables.exec = Jvm.exec) (hZ : Z.Warmed39 s.vm) (eT : T.heap = h) (A : IA Z h a k .boolean n vs) {j : Int32} (i : Nat) (hj : j.toNatClampNeg = i) (hn : ¬ j < 0) (hi : i < vs.length) {x y : Int32} (hy : nar .boolean x = y) {g : JFrame} (hg : g.method = m) {rest : List Value} (hs : g.stack = .int x :: .int j :: .ref a :: rest) (hd : decode c.code g.pc = .ok (.bastore, 1)) :
    ∃ T' h', Stand p l e R s m args below meth c T' (locs ++ [⟨a, j.toNatClampNeg⟩]) cells slots ∧ T'.heap = h' ∧ Wr h h' a j.toNatClampNeg (.int y) ∧ IA Z h' a k .boolean n (vs.set i y) ∧ ∀ target, Steps p.tables e below (T'.setTop { g with pc := g.pc + 1, stack := rest }) target → Steps p.tables e below (T.setTop g) target := by
  subst hy
  obtain ⟨⟨cl, Ar, q1, S, N, H, G⟩, hl⟩ := A
  obtain ⟨T', h', X', e', W, st⟩ := stZ X hx hZ eT Ar (IA.inb S hl hj hn hi) hg hs hd
  exact ⟨T', h', X', e', W, IA.put Ar q1 S N H G hl (fits_nar_bool _) W hj hi, st⟩
theorem own_out {A B : Pt} {w : Option Value} {rm : Room} {Q : Option Value → Heap → List Loc → Prop} (h : ∃ L, Q w B.U.heap L ∧ B.locs = A.locs ++ L ∧ B.cells = A.cells + rm.cells ∧ B.slots = A.slots + rm.slots) (X : Stand p l e R s m args below meth c B.U B.locs B.cells B.slots) : ∃ L, Q w B.U.heap L ∧ Stand p l e R s m args below meth c B.U (A.locs ++ L) (A.cells + rm.cells) (A.slots + rm.slots) := by
  obtain ⟨L, hQ, l, y, z⟩ := h
  rw [l, y, z] at X
  exact ⟨L, hQ, X⟩
end own
theorem own_or32 (n : Nat) : n ||| 32 = n + 32 * (1 - n / 32 % 2) := by
  have h1 : ∀ r < 64, r ||| 32 = r + 32 * (1 - r / 32 % 2) := by decide
  have h2 : n = 2 ^ 6 * (n / 64) + n % 64 := by omega
  have h3 : n % 64 < 2 ^ 6 := by omega
  have h4 : n % 64 ||| 32 < 2 ^ 6 := Nat.or_lt_two_pow h3 (by decide)
  have e : n ||| 32 = 2 ^ 6 * (n / 64) + (n % 64 ||| 32) := by
    rw [Nat.two_pow_add_eq_or_of_lt h4, ← Nat.or_assoc, ← Nat.two_pow_add_eq_or_of_lt h3, ← h2]
  have := h1 (n % 64) (by omega)
  omega
theorem own_char (x : Int32) : ∃ n : Nat, n < 65536 ∧ x.toUInt32.toUInt16.toUInt32.toInt32 = Int32.ofNat n := by
  refine ⟨x.toUInt32.toUInt16.toNat, x.toUInt32.toUInt16.toNat_lt, ?_⟩
  apply Int32.toBitVec_inj.mp
  apply BitVec.eq_of_toNat_eq
  show x.toUInt32.toUInt16.toUInt32.toNat = (BitVec.ofNat 32 _).toNat
  have := x.toUInt32.toUInt16.toNat_lt
  rw [BitVec.toNat_ofNat]
  simp only [UInt16.toNat_toUInt32]
  omega
theorem own_orN (a b : Nat) : Int32.ofNat a ||| Int32.ofNat b = Int32.ofNat (a ||| b) := by
  apply Int32.toBitVec_inj.mp
  show BitVec.ofNat 32 a ||| BitVec.ofNat 32 b = BitVec.ofNat 32 (a ||| b)
  apply BitVec.eq_of_toNat_eq
  simp [BitVec.toNat_or, Nat.or_mod_two_pow]
theorem own_tI {n : Nat} (h : n < 2147483648) : (Int32.ofNat n).toInt = n := Int32.toInt_ofNat_of_lt h
theorem own_sub {x y : Int32} (h1 : -2147483648 ≤ x.toInt - y.toInt) (h2 : x.toInt - y.toInt < 2147483648) : (x - y).toInt = x.toInt - y.toInt :=
  (Int32.toInt_sub x y).trans (Int.bmod_eq_of_le (by omega) (by omega))
theorem own_add {x y : Int32} (h1 : -2147483648 ≤ x.toInt + y.toInt) (h2 : x.toInt + y.toInt < 2147483648) : (x + y).toInt = x.toInt + y.toInt :=
  (Int32.toInt_add x y).trans (Int.bmod_eq_of_le (by omega) (by omega))
theorem own_mask31 (x : Int32) : 0 ≤ (x &&& (2147483647 : Int32)).toInt := by
  have h : (x &&& (2147483647 : Int32)).toBitVec.toNat < 2147483648 := by
    rw [Int32.toBitVec_and, BitVec.toNat_and]
    exact Nat.lt_of_le_of_lt Nat.and_le_right (by decide)
  show 0 ≤ (x &&& (2147483647 : Int32)).toBitVec.toInt
  rw [BitVec.toInt_eq_toNat_cond, if_pos (by omega)]
  omega
theorem own_lc1 (x y : Int64) : ((lcmpW x y) < (0 : Int32)) = (x < y) := by
  simp only [lcmpW, gt_iff_lt]
  by_cases h1 : y < x
  · rw [if_pos h1]
    have h2 : ¬ x < y := by rw [Int64.lt_iff_toInt_lt] at *; omega
    simp [h2]
  · rw [if_neg h1]
    by_cases h2 : x = y
    · rw [if_pos h2]; subst h2; simp
    · rw [if_neg h2]
      have h3 : x < y := by rw [← Int64.toInt_inj] at h2; rw [Int64.lt_iff_toInt_lt] at *; omega
      simp [h3]
theorem own_lc2 (x y : Int64) : ((0 : Int32) < (lcmpW x y)) = (y < x) := by
  simp only [lcmpW, gt_iff_lt]
  by_cases h1 : y < x
  · rw [if_pos h1]; simp [h1]
  · rw [if_neg h1]
    by_cases h2 : x = y
    · rw [if_pos h2]; subst h2; simp
    · rw [if_neg h2]; simp [h1]
theorem own_nn {n : Nat} (hn : n < 2147483648) : ¬ Int32.ofNat n < 0 := by
  rw [Int32.lt_iff_toInt_lt, own_tI hn, show (0 : Int32).toInt = 0 from rfl]; omega
theorem own_n32 {n : Nat} (hn : n < 2147483648) : (Int32.ofNat n).toNatClampNeg = n := by
  rw [Int32.toNatClampNeg, own_tI hn]; rfl
theorem own_ofI {x : Int32} (h : 0 ≤ x.toInt) : x = Int32.ofNat x.toInt.toNat := by
  apply Int32.toInt_inj.mp
  have := x.toInt_lt
  rw [own_tI (by omega)]; omega
/-- Java's x % d for x that isn't negative -/
theorem own_rem (x d : Int32) (hx : 0 ≤ x.toInt) (hd : 0 < d.toInt) : (x - (x / d) * d).toInt = x.toInt % d.toInt := by
  have b1 := x.toInt_lt; have b2 := d.toInt_lt
  have hq : (x / d).toInt = x.toInt / d.toInt := by
    rw [Int32.toInt_div, Int.tdiv_eq_ediv_of_nonneg hx]
    have h1 : 0 ≤ x.toInt / d.toInt := Int.ediv_nonneg hx (Int.le_of_lt hd)
    have h2 : x.toInt / d.toInt ≤ x.toInt := Int.ediv_le_self _ hx
    exact Int.bmod_eq_of_le (by omega) (by omega)
  have hm : (x / d * d).toInt = x.toInt / d.toInt * d.toInt := by
    rw [Int32.toInt_mul, hq]
    have h1 : 0 ≤ x.toInt / d.toInt * d.toInt := Int.mul_nonneg (Int.ediv_nonneg hx (Int.le_of_lt hd)) (Int.le_of_lt hd)
    have h2 : x.toInt / d.toInt * d.toInt ≤ x.toInt := Int.ediv_mul_le _ (by omega)
    exact Int.bmod_eq_of_le (by omega) (by omega)
  have h3 := Int.emod_add_mul_ediv x.toInt d.toInt
  rw [Int.mul_comm] at h3
  have h4 := Int.emod_nonneg x.toInt (show d.toInt ≠ 0 by omega)
  have h5 := Int.emod_lt_of_pos x.toInt hd
  rw [own_sub (by omega) (by omega), hm]; omega
theorem own_ix {p : Int32} {i j : Nat} (hk : p = Int32.ofNat i) (hb : i + j < 2147483648) : (p + Int32.ofNat j).toNatClampNeg = i + j ∧ ¬ (p + Int32.ofNat j) < 0 := by
  subst hk; rw [← Int32.ofNat_add]; exact ⟨own_n32 hb, own_nn hb⟩
theorem own_narB (x : Int32) : nar .byte (x.toInt8.toInt32) = x.toInt8.toInt32 := by
  show x.toInt8.toInt32.toInt8.toInt32 = x.toInt8.toInt32
  rw [Int8.toInt8_toInt32]
theorem own_lc0 (x : Int64) : (lcmpW x x) = (0 : Int32) := by simp [lcmpW]
theorem own_ltN {i j : Nat} (h : i < j) (hj : j < 2147483648) : Int32.ofNat i < Int32.ofNat j := by
  rw [Int32.lt_iff_toInt_lt, own_tI (by omega), own_tI hj]; omega
theorem own_nltN {i j : Nat} (h : ¬ i < j) (hi : i < 1000000) (hj : j < 1000000) : ¬ Int32.ofNat i < Int32.ofNat j := by
  rw [Int32.lt_iff_toInt_lt, own_tI (by omega), own_tI (by omega)]; omega
theorem own_one {i : Nat} : Int32.ofNat i + (1 : Int32) = Int32.ofNat (i + 1) := (Int32.ofNat_add i 1).symm
theorem own_andN (x : Int32) (k : Nat) (hk : k < 2147483648) : ∃ q : Nat, q ≤ k ∧ (x &&& Int32.ofNat k) = Int32.ofNat q := by
  refine ⟨(x &&& Int32.ofNat k).toBitVec.toNat, ?_, ?_⟩
  · rw [Int32.toBitVec_and, BitVec.toNat_and]
    refine Nat.le_trans Nat.and_le_right ?_
    show (BitVec.ofNat 32 k).toNat ≤ k
    rw [BitVec.toNat_ofNat]; exact Nat.mod_le _ _
  · apply Int32.toBitVec_inj.mp
    show _ = BitVec.ofNat 32 _
    rw [BitVec.ofNat_toNat]; simp
theorem own_mid {i j : Nat} (h : i + j < 2147483648) : ((Int32.ofNat i + Int32.ofNat j).toUInt32 >>> ((1 : Int32) &&& 31).toUInt32).toInt32 = Int32.ofNat ((i + j) / 2) := by
  rw [← Int32.ofNat_add]
  apply Int32.toBitVec_inj.mp
  show (BitVec.ofNat 32 (i + j)) >>> _ = BitVec.ofNat 32 ((i + j) / 2)
  apply BitVec.eq_of_toNat_eq
  rw [show (((1 : Int32) &&& 31).toUInt32.mod 32).toBitVec = 1#32 from by decide]
  rw [BitVec.toNat_ofNat, show (BitVec.ofNat 32 (i + j) >>> 1#32).toNat = (BitVec.ofNat 32 (i + j)).toNat >>> 1 from rfl, BitVec.toNat_ofNat, Nat.shiftRight_eq_div_pow]
  omega
theorem own_ofinj {a b : Nat} (ha : a < 2147483648) (hb : b < 2147483648) (h : Int32.ofNat a = Int32.ofNat b) : a = b := by
  have := congrArg Int32.toInt h
  rw [own_tI ha, own_tI hb] at this; omega
theorem own_tL {n : Nat} (h : n < 9223372036854775808) : (Int64.ofNat n).toInt = n := Int64.toInt_ofNat_of_lt h
theorem own_ofL {x : Int64} (h : 0 ≤ x.toInt) : x = Int64.ofNat x.toInt.toNat := by
  apply Int64.toInt_inj.mp
  have := x.toInt_lt
  rw [own_tL (by omega)]; omega
theorem own_addL {a b : Nat} : Int64.ofNat a + Int64.ofNat b = Int64.ofNat (a + b) := (Int64.ofNat_add a b).symm
theorem own_mulL {a b : Nat} : Int64.ofNat a * Int64.ofNat b = Int64.ofNat (a * b) := (Int64.ofNat_mul a b).symm
theorem own_divL {a b : Nat} (ha : a < 9223372036854775808) (hb : b < 9223372036854775808) : Int64.ofNat a / Int64.ofNat b = Int64.ofNat (a / b) := by
  apply Int64.toInt_inj.mp
  have hq : a / b ≤ a := Nat.div_le_self _ _
  rw [Int64.toInt_div, own_tL ha, own_tL hb, own_tL (by omega), ← Int.ofNat_tdiv]
  generalize a / b = q at *
  exact Int.bmod_eq_of_le (by omega) (by omega)
theorem own_remL {a b : Nat} (ha : a < 9223372036854775808) (hb : b < 9223372036854775808) : Int64.ofNat a - (Int64.ofNat a / Int64.ofNat b) * Int64.ofNat b = Int64.ofNat (a % b) := by
  rw [own_divL ha hb, own_mulL]
  have h1 : a / b * b ≤ a := Nat.div_mul_le_self _ _
  have h2 : a % b ≤ a := Nat.mod_le _ _
  have h3 := Nat.mod_add_div a b
  rw [Nat.mul_comm] at h3
  apply Int64.toInt_inj.mp
  rw [Int64.toInt_sub, own_tL ha, own_tL (by omega), own_tL (by omega)]
  rw [Int.bmod_eq_of_le (by omega) (by omega)]
  omega
theorem own_mask63 (x : Int64) : 0 ≤ (x &&& (9223372036854775807 : Int64)).toInt := by
  have h : (x &&& (9223372036854775807 : Int64)).toBitVec.toNat < 9223372036854775808 := by
    rw [Int64.toBitVec_and, BitVec.toNat_and]
    exact Nat.lt_of_le_of_lt Nat.and_le_right (by decide)
  show 0 ≤ (x &&& (9223372036854775807 : Int64)).toBitVec.toInt
  rw [BitVec.toInt_eq_toNat_cond, if_pos (by omega)]
  omega
theorem d1_0 : decode method_2_code 0 = .ok (.lload_n 0, 1) := by decide +kernel
theorem d1_1 : decode method_2_code 1 = .ok (.lload_n 2, 1) := by decide +kernel
theorem d1_2 : decode method_2_code 2 = .ok (.ldiv, 1) := by decide +kernel
theorem d1_3 : decode method_2_code 3 = .ok (.ldc2_w 7, 3) := by decide +kernel
theorem d1_6 : decode method_2_code 6 = .ok (.lrem, 1) := by decide +kernel
theorem d1_7 : decode method_2_code 7 = .ok (.lreturn, 1) := by decide +kernel
theorem d2_0 : decode prog_52_method_4_code 0 = .ok (.iload_n 1, 1) := by decide +kernel
theorem d2_1 : decode prog_52_method_4_code 1 = .ok (.iload_n 2, 1) := by decide +kernel
theorem d2_2 : decode prog_52_method_4_code 2 = .ok (.if_icmp .ne 7, 3) := by decide +kernel
theorem d2_5 : decode prog_52_method_4_code 5 = .ok (.ldc2_w 59, 3) := by decide +kernel
theorem d2_8 : decode prog_52_method_4_code 8 = .ok (.lreturn, 1) := by decide +kernel
theorem d2_9 : decode prog_52_method_4_code 9 = .ok (.lconst 0, 1) := by decide +kernel
theorem d2_10 : decode prog_52_method_4_code 10 = .ok (.lstore_n 3, 1) := by decide +kernel
theorem d2_11 : decode prog_52_method_4_code 11 = .ok (.iload_n 1, 1) := by decide +kernel
theorem d2_12 : decode prog_52_method_4_code 12 = .ok (.istore 5, 2) := by decide +kernel
theorem d2_14 : decode prog_52_method_4_code 14 = .ok (.iload 5, 2) := by decide +kernel
theorem d2_16 : decode prog_52_method_4_code 16 = .ok (.iload_n 2, 1) := by decide +kernel
theorem d2_17 : decode prog_52_method_4_code 17 = .ok (.if_icmp .ge 56, 3) := by decide +kernel
theorem d2_20 : decode prog_52_method_4_code 20 = .ok (.aload_n 0, 1) := by decide +kernel
theorem d2_21 : decode prog_52_method_4_code 21 = .ok (.iload 5, 2) := by decide +kernel
theorem d2_23 : decode prog_52_method_4_code 23 = .ok (.baload, 1) := by decide +kernel
theorem d2_24 : decode prog_52_method_4_code 24 = .ok (.bipush 48, 2) := by decide +kernel
theorem d2_26 : decode prog_52_method_4_code 26 = .ok (.isub, 1) := by decide +kernel
theorem d2_27 : decode prog_52_method_4_code 27 = .ok (.istore 6, 2) := by decide +kernel
theorem d2_29 : decode prog_52_method_4_code 29 = .ok (.iload 6, 2) := by decide +kernel
theorem d2_31 : decode prog_52_method_4_code 31 = .ok (.ifCond .lt 10, 3) := by decide +kernel
theorem d2_34 : decode prog_52_method_4_code 34 = .ok (.iload 6, 2) := by decide +kernel
theorem d2_36 : decode prog_52_method_4_code 36 = .ok (.bipush 9, 2) := by decide +kernel
theorem d2_38 : decode prog_52_method_4_code 38 = .ok (.if_icmp .le 7, 3) := by decide +kernel
theorem d2_41 : decode prog_52_method_4_code 41 = .ok (.ldc2_w 59, 3) := by decide +kernel
theorem d2_44 : decode prog_52_method_4_code 44 = .ok (.lreturn, 1) := by decide +kernel
theorem d2_45 : decode prog_52_method_4_code 45 = .ok (.lload_n 3, 1) := by decide +kernel
theorem d2_46 : decode prog_52_method_4_code 46 = .ok (.ldc2_w 61, 3) := by decide +kernel
theorem d2_49 : decode prog_52_method_4_code 49 = .ok (.lmul, 1) := by decide +kernel
theorem d2_50 : decode prog_52_method_4_code 50 = .ok (.iload 6, 2) := by decide +kernel
theorem d2_52 : decode prog_52_method_4_code 52 = .ok (.i2l, 1) := by decide +kernel
theorem d2_53 : decode prog_52_method_4_code 53 = .ok (.ladd, 1) := by decide +kernel
theorem d2_54 : decode prog_52_method_4_code 54 = .ok (.lstore_n 3, 1) := by decide +kernel
theorem d2_55 : decode prog_52_method_4_code 55 = .ok (.lload_n 3, 1) := by decide +kernel
theorem d2_56 : decode prog_52_method_4_code 56 = .ok (.ldc2_w 63, 3) := by decide +kernel
theorem d2_59 : decode prog_52_method_4_code 59 = .ok (.lcmp, 1) := by decide +kernel
theorem d2_60 : decode prog_52_method_4_code 60 = .ok (.ifCond .le 7, 3) := by decide +kernel
theorem d2_63 : decode prog_52_method_4_code 63 = .ok (.ldc2_w 59, 3) := by decide +kernel
theorem d2_66 : decode prog_52_method_4_code 66 = .ok (.lreturn, 1) := by decide +kernel
theorem d2_67 : decode prog_52_method_4_code 67 = .ok (.iinc 5 1, 3) := by decide +kernel
theorem d2_70 : decode prog_52_method_4_code 70 = .ok (.goto (-56), 3) := by decide +kernel
theorem d2_73 : decode prog_52_method_4_code 73 = .ok (.lload_n 3, 1) := by decide +kernel
theorem d2_74 : decode prog_52_method_4_code 74 = .ok (.lreturn, 1) := by decide +kernel
theorem pd_0 : parseMethodDescriptor "(JJ)J" = some ⟨[.long, .long], some .long⟩ := by decide +kernel
theorem pd_1 : parseMethodDescriptor "([BII)J" = some ⟨[(.array .byte), .int, .int], some .long⟩ := by decide +kernel
theorem pn_0 : plainName "com/example/gneiss/gneiss/graph/EdgeListDecimalPinLaw" = true := by first | (simp [plainName, overriddenIn]; done) | decide +kernel
theorem pn_1 : plainName "com/example/gneiss/gneiss/graph/EdgeList" = true := by first | (simp [plainName, overriddenIn]; done) | decide +kernel
def own_digit (p1 p2 : Int64) : Int64 := ((p1 / p2) - ((p1 / p2) / (10 : Int64)) * (10 : Int64))
theorem ef_rm1 (m : MethodId) (x0 : Int64) (x1 : Int64) : entryFrame m #[(.long x0), (.long x1)] 4 = mkF m 0 #[.val (.long x0), .second, .val (.long x1), .second] [] := by first | (simp [entryFrame, mkF, argsToLocals, Value.category]; done) | rfl
def Q1 (p1 p2 : Int64) (h0 : Heap) (n0 : Nat) (v : Option Value) (h : Heap) (L : List Loc) : Prop := v = some (.long (own_digit p1 p2)) ∧ Fr n0 L ∧ h = h0
set_option maxRecDepth 65536 in
set_option maxHeartbeats 40000000 in
theorem rm1 (l : Launch) (Z : State) (a0 : Array Value) (hw : ∀ d ∈ tables_1, d.before a0 Z = true) (ws : List Jvm.Cond) (p1 : Int64) (p2 : Int64)  (h0 : Heap) (n0 : Nat) (Z0 : n0 ≤ h0.size) (hnz : p2 ≠ 0) :
    MetFree l (⟨"com/example/gneiss/gneiss/graph/EdgeListDecimalPinLaw", "digit", "(JJ)J"⟩ : MethodName) (head1 (Jvm.Cond.code (⟨"com/example/gneiss/gneiss/graph/EdgeListDecimalPinLaw", "digit", "(JJ)J"⟩ : MethodName) method_2_code 4 (some .long) :: ws) ({ frames := 0, cells := 0, slots := 0, locals := 0 } : Room)) (fun a U => a = #[(.long p1), (.long p2)] ∧ Z.Warmed39 U.vm ∧ U.heap = h0) (fun _ _ _ _ _ => True) (fun _ U o U' => ∃ v L, o = .returned v ∧ Q1 p1 p2 h0 n0 v U'.heap L ∧ FrameEnd U o U' L ({ frames := 0, cells := 0, slots := 0, locals := 0 } : Room).cells ({ frames := 0, cells := 0, slots := 0, locals := 0 } : Room).slots) := by
  refine MetFree.of_bodySF (plainFor_of_name pn_0) hisR ?_
  intro p e s m args below meth c s₁ Bd hml0 hP hK
  obtain ⟨rfl, hZ, hh⟩ := hP
  have hx := Bd.exec
  have hby := Bd.bytes
  have hml : c.maxLocals = 4 := hml0
  have hown : s.vm.findClass "com/example/gneiss/gneiss/graph/EdgeListDecimalPinLaw" = some m.cls := findClass_of_methodNamed Bd.named
  have hnm := (name_of_methodNamed Bd.named Bd.method).1
  have X0 : Stand p l e ({ frames := 0, cells := 0, slots := 0, locals := 0 } : Room) s m #[(.long p1), (.long p2)] below meth c s₁ [] 0 0 := Stand.of_body Bd
  have e0 : s₁.heap = h0 := by rw [← hh, Bd.state]; rfl
  have N0 := Fr.nil n0
  obtain ⟨G, hG, pr0⟩ : ∃ G : State → Prop, (∀ t, G t → Steps p.tables e below (s₁.setTop (entryFrame m #[(.long p1), (.long p2)] 4)) t) ∧ (∀ t, Steps p.tables e below (s₁.setTop (mkF m 0 #[.val (.long p1), .second, .val (.long p2), .second] [])) t → G t) := ⟨_, fun _ k => k, fun t ks => castTop (ef_rm1 m p1 p2) ks⟩
  have pr1 : ∀ t, Steps p.tables e below (s₁.setTop (mkF m 7 #[.val (.long p1), .second, .val (.long p2), .second] [(.long ((p1 / p2) - ((p1 / p2) / (10 : Int64)) * (10 : Int64)))])) t → G t := fun t ks => pr0 t (by
      refine XS.lloadN X0.here hx rfl (hb hby d1_0) rfl ?_
      refine XS.lloadN X0.here hx rfl (hb hby d1_1) rfl ?_
      refine XS.ldiv X0.here hx rfl (hb hby d1_2) rfl hnz ?_
      refine X0.ldc2Long hx hown (mvT hZ (hw _ (List.mem_of_getElem? (i := 1) rfl))) (g := (mkF m 3 #[.val (.long p1), .second, .val (.long p2), .second] [(.long (p1 / p2))])) rfl (hb hby d1_3) _ ?_
      refine XS.lrem X0.here hx rfl (hb hby d1_6) rfl (by decide) ?_
      exact ks)
  rw [show ((p1 / p2) - ((p1 / p2) / (10 : Int64)) * (10 : Int64)) = own_digit p1 p2 from rfl] at pr1
  obtain ⟨fs, hr, hrun, hended, hW, hsame⟩ := X0.leave (v := some (.long (own_digit p1 p2))) (fun h => by rw [Bd.returns] at h; cases h)
  refine ⟨_, _, hG _ (pr1 _ ?_), hrun, hended, _, _, rfl, ?_, ⟨_, rfl⟩, hW, hsame.mono (by decide) (by decide)⟩
  · jvm_step X0.here [X0.here.top, hx, (hb hby d1_7), X0.method', Bd.returns, narrow]
    first | (intro acts; rw [hr _ acts rfl rfl rfl]) | rw [hr _ _ rfl rfl rfl]
    exact Steps.refl _
  · show Q1 p1 p2 h0 n0 _ s₁.heap _
    rw [e0]
    exact ⟨rfl, N0, rfl⟩
def own_dec (us : List Int32) : Nat → Nat → Int64 → Int64
  | 0, _, acc => acc
  | k + 1, i, acc => if us.getD i 0 - 48 < 0 then -1 else if 9 < us.getD i 0 - 48 then -1 else if 0 < lcmpW (acc * 10 + (us.getD i 0 - 48).toInt64) 4294967295 then -1 else own_dec us k (i + 1) (acc * 10 + (us.getD i 0 - 48).toInt64)
def own_decimal (us : List Int32) (fa ta : Nat) : Int64 := if fa = ta then -1 else own_dec us (ta - fa) fa 0
set_option maxRecDepth 65536 in
set_option maxHeartbeats 40000000 in
theorem tnG {p : Program} {l : Launch} {e : Env} {R : Room} {s : State} {m : MethodId} {args : Array Value} {below : List Frame} {meth : Method} {c : Code} {T0 : State} {locs : List Loc} {cells slots : Nat} {Z : State} {a0 : Array Value} {h0 : Heap} {a1 : Addr} {p2 p3 n : Int32} {ka : ClassId} {us : List Int32} {s6 : Slot} {i : Nat} {ac : Int64}
    (X0 : Stand p l e R s m args below meth c T0 locs cells slots) (hx : p.tables.exec = Jvm.exec) (hZ : Z.Warmed39 s.vm) (hw : ∀ d ∈ tables_1, d.before a0 Z = true) (hby : c.code = prog_52_method_4_code) (hml : c.maxLocals = 7) (hown : s.vm.findClass "com/example/gneiss/gneiss/graph/EdgeList" = some m.cls) (e0 : T0.heap = h0) (V_a1 : IA Z h0 a1 ka .byte n us) (h6 : One s6) (hlt : (Int32.ofNat i) < p3) (hi : i < us.length) (hbd : i < 1000000) (hc1 : ¬ (us.getD i 0 - 48) < 0) (hc2 : ¬ 9 < (us.getD i 0 - 48)) (hc3 : ¬ 0 < lcmpW (ac * 10 + (us.getD i 0 - 48).toInt64) 4294967295) :
    ∀ t, Steps p.tables e below (T0.setTop (mkF m 14 #[.val (.ref a1), .val (.int p2), .val (.int p3), .val (.long ((ac * (10 : Int64)) + (((us.getD i 0) - (48 : Int32)).toInt64))), .second, .val (.int (Int32.ofNat (i + 1))), .val (.int ((us.getD i 0) - (48 : Int32)))] [])) t → Steps p.tables e below (T0.setTop (mkF m 14 #[.val (.ref a1), .val (.int p2), .val (.int p3), .val (.long ac), .second, .val (.int (Int32.ofNat i)), s6] [])) t := by
  obtain ⟨G, hG, pr0⟩ : ∃ G : State → Prop, (∀ t, G t → Steps p.tables e below (T0.setTop (mkF m 14 #[.val (.ref a1), .val (.int p2), .val (.int p3), .val (.long ac), .second, .val (.int (Int32.ofNat i)), s6] [])) t) ∧ (∀ t, Steps p.tables e below (T0.setTop (mkF m 14 #[.val (.ref a1), .val (.int p2), .val (.int p3), .val (.long ac), .second, .val (.int (Int32.ofNat i)), s6] [])) t → G t) := ⟨_, fun _ k => k, fun _ k => k⟩
  have pr2 : ∀ t, Steps p.tables e below (T0.setTop (mkF m 36 #[.val (.ref a1), .val (.int p2), .val (.int p3), .val (.long ac), .second, .val (.int (Int32.ofNat i)), .val (.int ((us.getD i 0) - (48 : Int32)))] [(.int ((us.getD i 0) - (48 : Int32)))])) t → G t := fun t ks => pr0 t (by
      refine XS.iload X0.here hx rfl (hb hby d2_14) rfl ?_
      refine XS.iloadN X0.here hx rfl (hb hby d2_16) rfl ?_
      refine XS.icmpNo X0.here hx rfl (hb hby d2_17) rfl (tlt hlt).2.1 ?_
      refine XS.aloadN X0.here hx rfl (hb hby d2_20) rfl rfl ?_
      refine XS.iload X0.here hx rfl (hb hby d2_21) rfl ?_
      refine ia_ldB X0 hx hZ e0 V_a1 (j := (Int32.ofNat i)) i (own_n32 (by omega)) (own_nn (by omega)) hi (w := (us.getD i 0)) rfl (g := (mkF m 23 #[.val (.ref a1), .val (.int p2), .val (.int p3), .val (.long ac), .second, .val (.int (Int32.ofNat i)), s6] [(.int (Int32.ofNat i)), (.ref a1)])) rfl rfl (hb hby d2_23) _ ?_
      refine XS.bipush X0.here hx rfl (hb hby d2_24) ?_
      refine XS.isub X0.here hx rfl (hb hby d2_26) rfl ?_
      refine XS.istore X0.here hx rfl (hb hby d2_27) rfl (l' := #[.val (.ref a1), .val (.int p2), .val (.int p3), .val (.long ac), .second, .val (.int (Int32.ofNat i)), .val (.int ((us.getD i 0) - (48 : Int32)))]) (by rcases h6 with rfl | ⟨w, rfl, hw⟩ <;> first | rfl | (cases w <;> first | rfl | (simp [Value.category] at hw))) ?_
      refine XS.iload X0.here hx rfl (hb hby d2_29) rfl ?_
      refine XS.ifNo X0.here hx rfl (hb hby d2_31) rfl ((if0 _ _).trans (flt hc1).1) ?_
      refine XS.iload X0.here hx rfl (hb hby d2_34) rfl ?_
      exact ks)
  have pr3 : ∀ t, Steps p.tables e below (T0.setTop (mkF m 60 #[.val (.ref a1), .val (.int p2), .val (.int p3), .val (.long ((ac * (10 : Int64)) + (((us.getD i 0) - (48 : Int32)).toInt64))), .second, .val (.int (Int32.ofNat i)), .val (.int ((us.getD i 0) - (48 : Int32)))] [(.int (lcmpW ((ac * (10 : Int64)) + (((us.getD i 0) - (48 : Int32)).toInt64)) (4294967295 : Int64)))])) t → G t := fun t ks => pr2 t (by
      refine XS.bipush X0.here hx rfl (hb hby d2_36) ?_
      refine XS.icmpYes X0.here hx rfl (pc0 := 38) (pc' := 45) rfl (hb hby d2_38) rfl (flt hc2).2.2.2 (by decide) (by decide) ?_
      refine XS.lloadN X0.here hx rfl (hb hby d2_45) rfl ?_
      refine X0.ldc2Long hx hown (mvT hZ (hw _ (List.mem_of_getElem? (i := 25) rfl))) (g := (mkF m 46 #[.val (.ref a1), .val (.int p2), .val (.int p3), .val (.long ac), .second, .val (.int (Int32.ofNat i)), .val (.int ((us.getD i 0) - (48 : Int32)))] [(.long ac)])) rfl (hb hby d2_46) _ ?_
      refine XS.lmul X0.here hx rfl (hb hby d2_49) rfl ?_
      refine XS.iload X0.here hx rfl (hb hby d2_50) rfl ?_
      refine XS.i2l X0.here hx rfl (hb hby d2_52) rfl ?_
      refine XS.ladd X0.here hx rfl (hb hby d2_53) rfl ?_
      refine XS.lstoreN X0.here hx rfl (hb hby d2_54) rfl (l' := #[.val (.ref a1), .val (.int p2), .val (.int p3), .val (.long ((ac * (10 : Int64)) + (((us.getD i 0) - (48 : Int32)).toInt64))), .second, .val (.int (Int32.ofNat i)), .val (.int ((us.getD i 0) - (48 : Int32)))]) rfl ?_
      refine XS.lloadN X0.here hx rfl (hb hby d2_55) rfl ?_
      refine X0.ldc2Long hx hown (mvT hZ (hw _ (List.mem_of_getElem? (i := 26) rfl))) (g := (mkF m 56 #[.val (.ref a1), .val (.int p2), .val (.int p3), .val (.long ((ac * (10 : Int64)) + (((us.getD i 0) - (48 : Int32)).toInt64))), .second, .val (.int (Int32.ofNat i)), .val (.int ((us.getD i 0) - (48 : Int32)))] [(.long ((ac * (10 : Int64)) + (((us.getD i 0) - (48 : Int32)).toInt64)))])) rfl (hb hby d2_56) _ ?_
      refine XS.lcmp X0.here hx rfl (hb hby d2_59) rfl ?_
      exact ks)
  have pr4 : ∀ t, Steps p.tables e below (T0.setTop (mkF m 14 #[.val (.ref a1), .val (.int p2), .val (.int p3), .val (.long ((ac * (10 : Int64)) + (((us.getD i 0) - (48 : Int32)).toInt64))), .second, .val (.int ((Int32.ofNat i) + (1 : Int32))), .val (.int ((us.getD i 0) - (48 : Int32)))] [])) t → G t := fun t ks => pr3 t (by
      refine XS.ifYes X0.here hx rfl (pc0 := 60) (pc' := 67) rfl (hb hby d2_60) rfl ((if0 _ _).trans (flt hc3).2.2.2) (by decide) (by decide) ?_
      refine XS.iinc X0.here hx rfl (hb hby d2_67) rfl (l' := #[.val (.ref a1), .val (.int p2), .val (.int p3), .val (.long ((ac * (10 : Int64)) + (((us.getD i 0) - (48 : Int32)).toInt64))), .second, .val (.int ((Int32.ofNat i) + (1 : Int32))), .val (.int ((us.getD i 0) - (48 : Int32)))]) rfl ?_
      refine XS.goto X0.here hx rfl (pc0 := 70) (pc' := 14) rfl (hb hby d2_70) (by decide) (by decide) ?_
      exact ks)
  rw [own_one] at pr4
  exact fun t ks => hG t (pr4 t ks)
set_option maxRecDepth 65536 in
set_option maxHeartbeats 40000000 in
theorem tn1 {p : Program} {l : Launch} {e : Env} {R : Room} {s : State} {m : MethodId} {args : Array Value} {below : List Frame} {meth : Method} {c : Code} {T0 : State} {locs : List Loc} {cells slots : Nat} {Z : State} {a0 : Array Value} {h0 : Heap} {a1 : Addr} {p2 p3 n : Int32} {ka : ClassId} {us : List Int32} {s6 : Slot} {i : Nat} {ac : Int64}
    (X0 : Stand p l e R s m args below meth c T0 locs cells slots) (hx : p.tables.exec = Jvm.exec) (hZ : Z.Warmed39 s.vm) (hw : ∀ d ∈ tables_1, d.before a0 Z = true) (hby : c.code = prog_52_method_4_code) (hml : c.maxLocals = 7) (hown : s.vm.findClass "com/example/gneiss/gneiss/graph/EdgeList" = some m.cls) (e0 : T0.heap = h0) (V_a1 : IA Z h0 a1 ka .byte n us) (h6 : One s6) (hlt : (Int32.ofNat i) < p3) (hi : i < us.length) (hbd : i < 1000000) (hc1 : (us.getD i 0 - 48) < 0) :
    ∀ t, Steps p.tables e below (T0.setTop (mkF m 44 #[.val (.ref a1), .val (.int p2), .val (.int p3), .val (.long ac), .second, .val (.int (Int32.ofNat i)), .val (.int ((us.getD i 0) - (48 : Int32)))] [(.long (-1 : Int64))])) t → Steps p.tables e below (T0.setTop (mkF m 14 #[.val (.ref a1), .val (.int p2), .val (.int p3), .val (.long ac), .second, .val (.int (Int32.ofNat i)), s6] [])) t := by
  obtain ⟨G, hG, pr0⟩ : ∃ G : State → Prop, (∀ t, G t → Steps p.tables e below (T0.setTop (mkF m 14 #[.val (.ref a1), .val (.int p2), .val (.int p3), .val (.long ac), .second, .val (.int (Int32.ofNat i)), s6] [])) t) ∧ (∀ t, Steps p.tables e below (T0.setTop (mkF m 14 #[.val (.ref a1), .val (.int p2), .val (.int p3), .val (.long ac), .second, .val (.int (Int32.ofNat i)), s6] [])) t → G t) := ⟨_, fun _ k => k, fun _ k => k⟩
  have pr5 : ∀ t, Steps p.tables e below (T0.setTop (mkF m 44 #[.val (.ref a1), .val (.int p2), .val (.int p3), .val (.long ac), .second, .val (.int (Int32.ofNat i)), .val (.int ((us.getD i 0) - (48 : Int32)))] [(.long (-1 : Int64))])) t → G t := fun t ks => pr0 t (by
      refine XS.iload X0.here hx rfl (hb hby d2_14) rfl ?_
      refine XS.iloadN X0.here hx rfl (hb hby d2_16) rfl ?_
      refine XS.icmpNo X0.here hx rfl (hb hby d2_17) rfl (tlt hlt).2.1 ?_
      refine XS.aloadN X0.here hx rfl (hb hby d2_20) rfl rfl ?_
      refine XS.iload X0.here hx rfl (hb hby d2_21) rfl ?_
      refine ia_ldB X0 hx hZ e0 V_a1 (j := (Int32.ofNat i)) i (own_n32 (by omega)) (own_nn (by omega)) hi (w := (us.getD i 0)) rfl (g := (mkF m 23 #[.val (.ref a1), .val (.int p2), .val (.int p3), .val (.long ac), .second, .val (.int (Int32.ofNat i)), s6] [(.int (Int32.ofNat i)), (.ref a1)])) rfl rfl (hb hby d2_23) _ ?_
      refine XS.bipush X0.here hx rfl (hb hby d2_24) ?_
      refine XS.isub X0.here hx rfl (hb hby d2_26) rfl ?_
      refine XS.istore X0.here hx rfl (hb hby d2_27) rfl (l' := #[.val (.ref a1), .val (.int p2), .val (.int p3), .val (.long ac), .second, .val (.int (Int32.ofNat i)), .val (.int ((us.getD i 0) - (48 : Int32)))]) (by rcases h6 with rfl | ⟨w, rfl, hw⟩ <;> first | rfl | (cases w <;> first | rfl | (simp [Value.category] at hw))) ?_
      refine XS.iload X0.here hx rfl (hb hby d2_29) rfl ?_
      refine XS.ifYes X0.here hx rfl (pc0 := 31) (pc' := 41) rfl (hb hby d2_31) rfl ((if0 _ _).trans (tlt hc1).1) (by decide) (by decide) ?_
      refine X0.ldc2Long hx hown (mvT hZ (hw _ (List.mem_of_getElem? (i := 28) rfl))) (g := (mkF m 41 #[.val (.ref a1), .val (.int p2), .val (.int p3), .val (.long ac), .second, .val (.int (Int32.ofNat i)), .val (.int ((us.getD i 0) - (48 : Int32)))] [])) rfl (hb hby d2_41) _ ?_
      exact ks)
  exact fun t ks => hG t (pr5 t ks)
set_option maxRecDepth 65536 in
set_option maxHeartbeats 40000000 in
theorem tn2 {p : Program} {l : Launch} {e : Env} {R : Room} {s : State} {m : MethodId} {args : Array Value} {below : List Frame} {meth : Method} {c : Code} {T0 : State} {locs : List Loc} {cells slots : Nat} {Z : State} {a0 : Array Value} {h0 : Heap} {a1 : Addr} {p2 p3 n : Int32} {ka : ClassId} {us : List Int32} {s6 : Slot} {i : Nat} {ac : Int64}
    (X0 : Stand p l e R s m args below meth c T0 locs cells slots) (hx : p.tables.exec = Jvm.exec) (hZ : Z.Warmed39 s.vm) (hw : ∀ d ∈ tables_1, d.before a0 Z = true) (hby : c.code = prog_52_method_4_code) (hml : c.maxLocals = 7) (hown : s.vm.findClass "com/example/gneiss/gneiss/graph/EdgeList" = some m.cls) (e0 : T0.heap = h0) (V_a1 : IA Z h0 a1 ka .byte n us) (h6 : One s6) (hlt : (Int32.ofNat i) < p3) (hi : i < us.length) (hbd : i < 1000000) (hc1 : ¬ (us.getD i 0 - 48) < 0) (hc2 : 9 < (us.getD i 0 - 48)) :
    ∀ t, Steps p.tables e below (T0.setTop (mkF m 44 #[.val (.ref a1), .val (.int p2), .val (.int p3), .val (.long ac), .second, .val (.int (Int32.ofNat i)), .val (.int ((us.getD i 0) - (48 : Int32)))] [(.long (-1 : Int64))])) t → Steps p.tables e below (T0.setTop (mkF m 14 #[.val (.ref a1), .val (.int p2), .val (.int p3), .val (.long ac), .second, .val (.int (Int32.ofNat i)), s6] [])) t := by
  obtain ⟨G, hG, pr0⟩ : ∃ G : State → Prop, (∀ t, G t → Steps p.tables e below (T0.setTop (mkF m 14 #[.val (.ref a1), .val (.int p2), .val (.int p3), .val (.long ac), .second, .val (.int (Int32.ofNat i)), s6] [])) t) ∧ (∀ t, Steps p.tables e below (T0.setTop (mkF m 14 #[.val (.ref a1), .val (.int p2), .val (.int p3), .val (.long ac), .second, .val (.int (Int32.ofNat i)), s6] [])) t → G t) := ⟨_, fun _ k => k, fun _ k => k⟩
  have pr6 : ∀ t, Steps p.tables e below (T0.setTop (mkF m 36 #[.val (.ref a1), .val (.int p2), .val (.int p3), .val (.long ac), .second, .val (.int (Int32.ofNat i)), .val (.int ((us.getD i 0) - (48 : Int32)))] [(.int ((us.getD i 0) - (48 : Int32)))])) t → G t := fun t ks => pr0 t (by
      refine XS.iload X0.here hx rfl (hb hby d2_14) rfl ?_
      refine XS.iloadN X0.here hx rfl (hb hby d2_16) rfl ?_
      refine XS.icmpNo X0.here hx rfl (hb hby d2_17) rfl (tlt hlt).2.1 ?_
      refine XS.aloadN X0.here hx rfl (hb hby d2_20) rfl rfl ?_
      refine XS.iload X0.here hx rfl (hb hby d2_21) rfl ?_
      refine ia_ldB X0 hx hZ e0 V_a1 (j := (Int32.ofNat i)) i (own_n32 (by omega)) (own_nn (by omega)) hi (w := (us.getD i 0)) rfl (g := (mkF m 23 #[.val (.ref a1), .val (.int p2), .val (.int p3), .val (.long ac), .second, .val (.int (Int32.ofNat i)), s6] [(.int (Int32.ofNat i)), (.ref a1)])) rfl rfl (hb hby d2_23) _ ?_
      refine XS.bipush X0.here hx rfl (hb hby d2_24) ?_
      refine XS.isub X0.here hx rfl (hb hby d2_26) rfl ?_
      refine XS.istore X0.here hx rfl (hb hby d2_27) rfl (l' := #[.val (.ref a1), .val (.int p2), .val (.int p3), .val (.long ac), .second, .val (.int (Int32.ofNat i)), .val (.int ((us.getD i 0) - (48 : Int32)))]) (by rcases h6 with rfl | ⟨w, rfl, hw⟩ <;> first | rfl | (cases w <;> first | rfl | (simp [Value.category] at hw))) ?_
      refine XS.iload X0.here hx rfl (hb hby d2_29) rfl ?_
      refine XS.ifNo X0.here hx rfl (hb hby d2_31) rfl ((if0 _ _).trans (flt hc1).1) ?_
      refine XS.iload X0.here hx rfl (hb hby d2_34) rfl ?_
      exact ks)
  have pr7 : ∀ t, Steps p.tables e below (T0.setTop (mkF m 44 #[.val (.ref a1), .val (.int p2), .val (.int p3), .val (.long ac), .second, .val (.int (Int32.ofNat i)), .val (.int ((us.getD i 0) - (48 : Int32)))] [(.long (-1 : Int64))])) t → G t := fun t ks => pr6 t (by
      refine XS.bipush X0.here hx rfl (hb hby d2_36) ?_
      refine XS.icmpNo X0.here hx rfl (hb hby d2_38) rfl (tlt hc2).2.2.2 ?_
      refine X0.ldc2Long hx hown (mvT hZ (hw _ (List.mem_of_getElem? (i := 28) rfl))) (g := (mkF m 41 #[.val (.ref a1), .val (.int p2), .val (.int p3), .val (.long ac), .second, .val (.int (Int32.ofNat i)), .val (.int ((us.getD i 0) - (48 : Int32)))] [])) rfl (hb hby d2_41) _ ?_
      exact ks)
  exact fun t ks => hG t (pr7 t ks)
set_option maxRecDepth 65536 in
set_option maxHeartbeats 40000000 in
theorem tn3 {p : Program} {l : Launch} {e : Env} {R : Room} {s : State} {m : MethodId} {args : Array Value} {below : List Frame} {meth : Method} {c : Code} {T0 : State} {locs : List Loc} {cells slots : Nat} {Z : State} {a0 : Array Value} {h0 : Heap} {a1 : Addr} {p2 p3 n : Int32} {ka : ClassId} {us : List Int32} {s6 : Slot} {i : Nat} {ac : Int64}
    (X0 : Stand p l e R s m args below meth c T0 locs cells slots) (hx : p.tables.exec = Jvm.exec) (hZ : Z.Warmed39 s.vm) (hw : ∀ d ∈ tables_1, d.before a0 Z = true) (hby : c.code = prog_52_method_4_code) (hml : c.maxLocals = 7) (hown : s.vm.findClass "com/example/gneiss/gneiss/graph/EdgeList" = some m.cls) (e0 : T0.heap = h0) (V_a1 : IA Z h0 a1 ka .byte n us) (h6 : One s6) (hlt : (Int32.ofNat i) < p3) (hi : i < us.length) (hbd : i < 1000000) (hc1 : ¬ (us.getD i 0 - 48) < 0) (hc2 : ¬ 9 < (us.getD i 0 - 48)) (hc3 : 0 < lcmpW (ac * 10 + (us.getD i 0 - 48).toInt64) 4294967295) :
    ∀ t, Steps p.tables e below (T0.setTop (mkF m 66 #[.val (.ref a1), .val (.int p2), .val (.int p3), .val (.long ((ac * (10 : Int64)) + (((us.getD i 0) - (48 : Int32)).toInt64))), .second, .val (.int (Int32.ofNat i)), .val (.int ((us.getD i 0) - (48 : Int32)))] [(.long (-1 : Int64))])) t → Steps p.tables e below (T0.setTop (mkF m 14 #[.val (.ref a1), .val (.int p2), .val (.int p3), .val (.long ac), .second, .val (.int (Int32.ofNat i)), s6] [])) t := by
  obtain ⟨G, hG, pr0⟩ : ∃ G : State → Prop, (∀ t, G t → Steps p.tables e below (T0.setTop (mkF m 14 #[.val (.ref a1), .val (.int p2), .val (.int p3), .val (.long ac), .second, .val (.int (Int32.ofNat i)), s6] [])) t) ∧ (∀ t, Steps p.tables e below (T0.setTop (mkF m 14 #[.val (.ref a1), .val (.int p2), .val (.int p3), .val (.long ac), .second, .val (.int (Int32.ofNat i)), s6] [])) t → G t) := ⟨_, fun _ k => k, fun _ k => k⟩
  have pr8 : ∀ t, Steps p.tables e below (T0.setTop (mkF m 36 #[.val (.ref a1), .val (.int p2), .val (.int p3), .val (.long ac), .second, .val (.int (Int32.ofNat i)), .val (.int ((us.getD i 0) - (48 : Int32)))] [(.int ((us.getD i 0) - (48 : Int32)))])) t → G t := fun t ks => pr0 t (by
      refine XS.iload X0.here hx rfl (hb hby d2_14) rfl ?_
      refine XS.iloadN X0.here hx rfl (hb hby d2_16) rfl ?_
      refine XS.icmpNo X0.here hx rfl (hb hby d2_17) rfl (tlt hlt).2.1 ?_
      refine XS.aloadN X0.here hx rfl (hb hby d2_20) rfl rfl ?_
      refine XS.iload X0.here hx rfl (hb hby d2_21) rfl ?_
      refine ia_ldB X0 hx hZ e0 V_a1 (j := (Int32.ofNat i)) i (own_n32 (by omega)) (own_nn (by omega)) hi (w := (us.getD i 0)) rfl (g := (mkF m 23 #[.val (.ref a1), .val (.int p2), .val (.int p3), .val (.long ac), .second, .val (.int (Int32.ofNat i)), s6] [(.int (Int32.ofNat i)), (.ref a1)])) rfl rfl (hb hby d2_23) _ ?_
      refine XS.bipush X0.here hx rfl (hb hby d2_24) ?_
      refine XS.isub X0.here hx rfl (hb hby d2_26) rfl ?_
      refine XS.istore X0.here hx rfl (hb hby d2_27) rfl (l' := #[.val (.ref a1), .val (.int p2), .val (.int p3), .val (.long ac), .second, .val (.int (Int32.ofNat i)), .val (.int ((us.getD i 0) - (48 : Int32)))]) (by rcases h6 with rfl | ⟨w, rfl, hw⟩ <;> first | rfl | (cases w <;> first | rfl | (simp [Value.category] at hw))) ?_
      refine XS.iload X0.here hx rfl (hb hby d2_29) rfl ?_
      refine XS.ifNo X0.here hx rfl (hb hby d2_31) rfl ((if0 _ _).trans (flt hc1).1) ?_
      refine XS.iload X0.here hx rfl (hb hby d2_34) rfl ?_
      exact ks)
  have pr9 : ∀ t, Steps p.tables e below (T0.setTop (mkF m 60 #[.val (.ref a1), .val (.int p2), .val (.int p3), .val (.long ((ac * (10 : Int64)) + (((us.getD i 0) - (48 : Int32)).toInt64))), .second, .val (.int (Int32.ofNat i)), .val (.int ((us.getD i 0) - (48 : Int32)))] [(.int (lcmpW ((ac * (10 : Int64)) + (((us.getD i 0) - (48 : Int32)).toInt64)) (4294967295 : Int64)))])) t → G t := fun t ks => pr8 t (by
      refine XS.bipush X0.here hx rfl (hb hby d2_36) ?_
      refine XS.icmpYes X0.here hx rfl (pc0 := 38) (pc' := 45) rfl (hb hby d2_38) rfl (flt hc2).2.2.2 (by decide) (by decide) ?_
      refine XS.lloadN X0.here hx rfl (hb hby d2_45) rfl ?_
      refine X0.ldc2Long hx hown (mvT hZ (hw _ (List.mem_of_getElem? (i := 25) rfl))) (g := (mkF m 46 #[.val (.ref a1), .val (.int p2), .val (.int p3), .val (.long ac), .second, .val (.int (Int32.ofNat i)), .val (.int ((us.getD i 0) - (48 : Int32)))] [(.long ac)])) rfl (hb hby d2_46) _ ?_
      refine XS.lmul X0.here hx rfl (hb hby d2_49) rfl ?_
      refine XS.iload X0.here hx rfl (hb hby d2_50) rfl ?_
      refine XS.i2l X0.here hx rfl (hb hby d2_52) rfl ?_
      refine XS.ladd X0.here hx rfl (hb hby d2_53) rfl ?_
      refine XS.lstoreN X0.here hx rfl (hb hby d2_54) rfl (l' := #[.val (.ref a1), .val (.int p2), .val (.int p3), .val (.long ((ac * (10 : Int64)) + (((us.getD i 0) - (48 : Int32)).toInt64))), .second, .val (.int (Int32.ofNat i)), .val (.int ((us.getD i 0) - (48 : Int32)))]) rfl ?_
      refine XS.lloadN X0.here hx rfl (hb hby d2_55) rfl ?_
      refine X0.ldc2Long hx hown (mvT hZ (hw _ (List.mem_of_getElem? (i := 26) rfl))) (g := (mkF m 56 #[.val (.ref a1), .val (.int p2), .val (.int p3), .val (.long ((ac * (10 : Int64)) + (((us.getD i 0) - (48 : Int32)).toInt64))), .second, .val (.int (Int32.ofNat i)), .val (.int ((us.getD i 0) - (48 : Int32)))] [(.long ((ac * (10 : Int64)) + (((us.getD i 0) - (48 : Int32)).toInt64)))])) rfl (hb hby d2_56) _ ?_
      refine XS.lcmp X0.here hx rfl (hb hby d2_59) rfl ?_
      exact ks)
  have pr10 : ∀ t, Steps p.tables e below (T0.setTop (mkF m 66 #[.val (.ref a1), .val (.int p2), .val (.int p3), .val (.long ((ac * (10 : Int64)) + (((us.getD i 0) - (48 : Int32)).toInt64))), .second, .val (.int (Int32.ofNat i)), .val (.int ((us.getD i 0) - (48 : Int32)))] [(.long (-1 : Int64))])) t → G t := fun t ks => pr9 t (by
      refine XS.ifNo X0.here hx rfl (hb hby d2_60) rfl ((if0 _ _).trans (tlt hc3).2.2.2) ?_
      refine X0.ldc2Long hx hown (mvT hZ (hw _ (List.mem_of_getElem? (i := 28) rfl))) (g := (mkF m 63 #[.val (.ref a1), .val (.int p2), .val (.int p3), .val (.long ((ac * (10 : Int64)) + (((us.getD i 0) - (48 : Int32)).toInt64))), .second, .val (.int (Int32.ofNat i)), .val (.int ((us.getD i 0) - (48 : Int32)))] [])) rfl (hb hby d2_63) _ ?_
      exact ks)
  exact fun t ks => hG t (pr10 t ks)
set_option maxRecDepth 65536 in
set_option maxHeartbeats 40000000 in
theorem tn0 {p : Program} {l : Launch} {e : Env} {R : Room} {s : State} {m : MethodId} {args : Array Value} {below : List Frame} {meth : Method} {c : Code} {T0 : State} {locs : List Loc} {cells slots : Nat} {Z : State} {a0 : Array Value} {h0 : Heap} {a1 : Addr} {p2 p3 n : Int32} {ka : ClassId} {us : List Int32} {s6 : Slot} {i : Nat} {ac : Int64}
    (X0 : Stand p l e R s m args below meth c T0 locs cells slots) (hx : p.tables.exec = Jvm.exec) (hZ : Z.Warmed39 s.vm) (hw : ∀ d ∈ tables_1, d.before a0 Z = true) (hby : c.code = prog_52_method_4_code) (hml : c.maxLocals = 7) (hown : s.vm.findClass "com/example/gneiss/gneiss/graph/EdgeList" = some m.cls) (e0 : T0.heap = h0) (hge : ¬ (Int32.ofNat i) < p3) :
    ∀ t, Steps p.tables e below (T0.setTop (mkF m 74 #[.val (.ref a1), .val (.int p2), .val (.int p3), .val (.long ac), .second, .val (.int (Int32.ofNat i)), s6] [(.long ac)])) t → Steps p.tables e below (T0.setTop (mkF m 14 #[.val (.ref a1), .val (.int p2), .val (.int p3), .val (.long ac), .second, .val (.int (Int32.ofNat i)), s6] [])) t := by
  obtain ⟨G, hG, pr0⟩ : ∃ G : State → Prop, (∀ t, G t → Steps p.tables e below (T0.setTop (mkF m 14 #[.val (.ref a1), .val (.int p2), .val (.int p3), .val (.long ac), .second, .val (.int (Int32.ofNat i)), s6] [])) t) ∧ (∀ t, Steps p.tables e below (T0.setTop (mkF m 14 #[.val (.ref a1), .val (.int p2), .val (.int p3), .val (.long ac), .second, .val (.int (Int32.ofNat i)), s6] [])) t → G t) := ⟨_, fun _ k => k, fun _ k => k⟩
  have pr11 : ∀ t, Steps p.tables e below (T0.setTop (mkF m 74 #[.val (.ref a1), .val (.int p2), .val (.int p3), .val (.long ac), .second, .val (.int (Int32.ofNat i)), s6] [(.long ac)])) t → G t := fun t ks => pr0 t (by
      refine XS.iload X0.here hx rfl (hb hby d2_14) rfl ?_
      refine XS.iloadN X0.here hx rfl (hb hby d2_16) rfl ?_
      refine XS.icmpYes X0.here hx rfl (pc0 := 17) (pc' := 73) rfl (hb hby d2_17) rfl (flt hge).2.1 (by decide) (by decide) ?_
      refine XS.lloadN X0.here hx rfl (hb hby d2_73) rfl ?_
      exact ks)
  exact fun t ks => hG t (pr11 t ks)
theorem loopD {p : Program} {l : Launch} {e : Env} {R : Room} {s : State} {m : MethodId} {args : Array Value} {below : List Frame} {meth : Method} {c : Code} {T0 : State} {locs : List Loc} {cells slots : Nat} {Z : State} {a0 : Array Value} {h0 : Heap} {a1 : Addr} {p2 p3 n : Int32} {ka : ClassId} {us : List Int32} {g : Nat}
    (X0 : Stand p l e R s m args below meth c T0 locs cells slots) (hx : p.tables.exec = Jvm.exec) (hZ : Z.Warmed39 s.vm) (hw : ∀ d ∈ tables_1, d.before a0 Z = true) (hby : c.code = prog_52_method_4_code) (hml : c.maxLocals = 7) (hown : s.vm.findClass "com/example/gneiss/gneiss/graph/EdgeList" = some m.cls) (e0 : T0.heap = h0) (V_a1 : IA Z h0 a1 ka .byte n us) (e3 : p3 = Int32.ofNat g) (hg : g ≤ us.length) (hg2 : g < 1000000) :
    ∀ (k i : Nat) (ac : Int64) (s6 : Slot), One s6 → i + k = g → ∃ (pc' : Nat) (L' : Array Slot), (pc' = 74 ∨ pc' = 44 ∨ pc' = 66) ∧ ∀ t, Steps p.tables e below (T0.setTop (mkF m pc' L' [(.long (own_dec us k i ac))])) t → Steps p.tables e below (T0.setTop (mkF m 14 #[.val (.ref a1), .val (.int p2), .val (.int p3), .val (.long ac), .second, .val (.int (Int32.ofNat i)), s6] [])) t := by
  intro k
  induction k with
  | zero =>
    intro i ac s6 h6 hd
    exact ⟨74, #[.val (.ref a1), .val (.int p2), .val (.int p3), .val (.long ac), .second, .val (.int (Int32.ofNat i)), s6], Or.inl rfl, tn0 (us := us) (ka := ka) (n := n) (i := i) X0 hx hZ hw hby hml hown e0 (by rw [e3]; exact own_nltN (by omega) (by omega) hg2)⟩
  | succ k ih =>
    intro i ac s6 h6 hd
    have hlt : Int32.ofNat i < p3 := by rw [e3]; exact own_ltN (by omega) (by omega)
    by_cases hc1 : us.getD i 0 - 48 < 0
    · refine ⟨44, #[.val (.ref a1), .val (.int p2), .val (.int p3), .val (.long ac), .second, .val (.int (Int32.ofNat i)), .val (.int (us.getD i 0 - 48))], Or.inr (Or.inl rfl), fun t q => tn1 X0 hx hZ hw hby hml hown e0 V_a1 h6 hlt (by omega) (by omega) hc1 t ?_⟩
      rw [own_dec, if_pos hc1] at q; exact q
    · by_cases hc2 : 9 < us.getD i 0 - 48
      · refine ⟨44, #[.val (.ref a1), .val (.int p2), .val (.int p3), .val (.long ac), .second, .val (.int (Int32.ofNat i)), .val (.int (us.getD i 0 - 48))], Or.inr (Or.inl rfl), fun t q => tn2 X0 hx hZ hw hby hml hown e0 V_a1 h6 hlt (by omega) (by omega) hc1 hc2 t ?_⟩
        rw [own_dec, if_neg hc1, if_pos hc2] at q; exact q
      · by_cases hc3 : 0 < lcmpW (ac * 10 + (us.getD i 0 - 48).toInt64) 4294967295
        · refine ⟨66, #[.val (.ref a1), .val (.int p2), .val (.int p3), .val (.long (ac * 10 + (us.getD i 0 - 48).toInt64)), .second, .val (.int (Int32.ofNat i)), .val (.int (us.getD i 0 - 48))], Or.inr (Or.inr rfl), fun t q => tn3 X0 hx hZ hw hby hml hown e0 V_a1 h6 hlt (by omega) (by omega) hc1 hc2 hc3 t ?_⟩
          rw [own_dec, if_neg hc1, if_neg hc2, if_pos hc3] at q; exact q
        · obtain ⟨pc', L', hpc, st⟩ := ih (i + 1) (ac * 10 + (us.getD i 0 - 48).toInt64) (.val (.int (us.getD i 0 - 48))) (One.val rfl) (by omega)
          refine ⟨pc', L', hpc, fun t q => tnG X0 hx hZ hw hby hml hown e0 V_a1 h6 hlt (by omega) (by omega) hc1 hc2 hc3 t (st t ?_)⟩
          rw [own_dec, if_neg hc1, if_neg hc2, if_neg hc3] at q; exact q
theorem ef_rm2 (m : MethodId) (x0 : Addr) (x1 : Int32) (x2 : Int32) : entryFrame m #[(.ref x0), (.int x1), (.int x2)] 7 = mkF m 0 #[.val (.ref x0), .val (.int x1), .val (.int x2), .unset, .unset, .unset, .unset] [] := by first | (simp [entryFrame, mkF, argsToLocals, Value.category]; done) | rfl
def Q2 (us : List Int32) (fa ta : Nat) (h0 : Heap) (n0 : Nat) (v : Option Value) (h : Heap) (L : List Loc) : Prop := v = some (.long (own_decimal us fa ta)) ∧ Fr n0 L ∧ h = h0
set_option maxRecDepth 65536 in
set_option maxHeartbeats 40000000 in
theorem rm2 (l : Launch) (Z : State) (a0 : Array Value) (hw : ∀ d ∈ tables_1, d.before a0 Z = true) (ws : List Jvm.Cond) (a1 : Addr) (p2 : Int32) (p3 : Int32) (ka : ClassId) (n : Int32) (us : List Int32) (fa ta : Nat) (h0 : Heap) (n0 : Nat) (Z0 : n0 ≤ h0.size) (V_a1 : IA Z h0 a1 ka .byte n us) (e2 : p2 = Int32.ofNat fa) (e3 : p3 = Int32.ofNat ta) (hta : ta ≤ us.length) (hle : fa ≤ ta) (hbd : ta < 1000000) :
    MetFree l (⟨"com/example/gneiss/gneiss/graph/EdgeList", "decimal", "([BII)J"⟩ : MethodName) (head1 (Jvm.Cond.code (⟨"com/example/gneiss/gneiss/graph/EdgeList", "decimal", "([BII)J"⟩ : MethodName) prog_52_method_4_code 7 (some .long) :: ws) ({ frames := 0, cells := 0, slots := 0, locals := 0 } : Room)) (fun a U => a = #[(.ref a1), (.int p2), (.int p3)] ∧ Z.Warmed39 U.vm ∧ U.heap = h0) (fun _ _ _ _ _ => True) (fun _ U o U' => ∃ v L, o = .returned v ∧ Q2 us fa ta h0 n0 v U'.heap L ∧ FrameEnd U o U' L ({ frames := 0, cells := 0, slots := 0, locals := 0 } : Room).cells ({ frames := 0, cells := 0, slots := 0, locals := 0 } : Room).slots) := by
  refine MetFree.of_bodySF (plainFor_of_name pn_1) hisR ?_
  intro p e s m args below meth c s₁ Bd hml0 hP hK
  obtain ⟨rfl, hZ, hh⟩ := hP
  have hx := Bd.exec
  have hby := Bd.bytes
  have hml : c.maxLocals = 7 := hml0
  have hown : s.vm.findClass "com/example/gneiss/gneiss/graph/EdgeList" = some m.cls := findClass_of_methodNamed Bd.named
  have hnm := (name_of_methodNamed Bd.named Bd.method).1
  have X0 : Stand p l e ({ frames := 0, cells := 0, slots := 0, locals := 0 } : Room) s m #[(.ref a1), (.int p2), (.int p3)] below meth c s₁ [] 0 0 := Stand.of_body Bd
  have e0 : s₁.heap = h0 := by rw [← hh, Bd.state]; rfl
  have N0 := Fr.nil n0
  obtain ⟨G, hG, pr0⟩ : ∃ G : State → Prop, (∀ t, G t → Steps p.tables e below (s₁.setTop (entryFrame m #[(.ref a1), (.int p2), (.int p3)] 7)) t) ∧ (∀ t, Steps p.tables e below (s₁.setTop (mkF m 0 #[.val (.ref a1), .val (.int p2), .val (.int p3), .unset, .unset, .unset, .unset] [])) t → G t) := ⟨_, fun _ k => k, fun t ks => castTop (ef_rm2 m a1 p2 p3) ks⟩
  have pr12 : ∀ t, Steps p.tables e below (s₁.setTop (mkF m 2 #[.val (.ref a1), .val (.int p2), .val (.int p3), .unset, .unset, .unset, .unset] [(.int p3), (.int p2)])) t → G t := fun t ks => pr0 t (by
      refine XS.iloadN X0.here hx rfl (hb hby d2_0) rfl ?_
      refine XS.iloadN X0.here hx rfl (hb hby d2_1) rfl ?_
      exact ks)
  by_cases hc : p2 = p3
  · have pr13 : ∀ t, Steps p.tables e below (s₁.setTop (mkF m 8 #[.val (.ref a1), .val (.int p2), .val (.int p3), .unset, .unset, .unset, .unset] [(.long (-1 : Int64))])) t → G t := fun t ks => pr12 t (by
        refine XS.icmpNo X0.here hx rfl (hb hby d2_2) rfl (teq hc).2 ?_
        refine X0.ldc2Long hx hown (mvT hZ (hw _ (List.mem_of_getElem? (i := 28) rfl))) (g := (mkF m 5 #[.val (.ref a1), .val (.int p2), .val (.int p3), .unset, .unset, .unset, .unset] [])) rfl (hb hby d2_5) _ ?_
        exact ks)
    have hft : fa = ta := own_ofinj (by omega) (by omega) (e2 ▸ e3 ▸ hc)
    have hq : own_decimal us fa ta = (-1 : Int64) := if_pos hft
    obtain ⟨fs, hr, hrun, hended, hW, hsame⟩ := X0.leave (v := some (.long (-1 : Int64))) (fun h => by rw [Bd.returns] at h; cases h)
    refine ⟨_, _, hG _ (pr13 _ ?_), hrun, hended, _, _, rfl, ?_, ⟨_, rfl⟩, hW, hsame.mono (by decide) (by decide)⟩
    · jvm_step X0.here [X0.here.top, hx, (hb hby d2_8), X0.method', Bd.returns, narrow]
      first | (intro acts; rw [hr _ acts rfl rfl rfl]) | rw [hr _ _ rfl rfl rfl]
      exact Steps.refl _
    · show Q2 us fa ta h0 n0 _ s₁.heap _
      rw [e0]
      exact ⟨by rw [hq], N0, rfl⟩
  · have pr14 : ∀ t, Steps p.tables e below (s₁.setTop (mkF m 14 #[.val (.ref a1), .val (.int p2), .val (.int p3), .val (.long (0 : Int64)), .second, .val (.int p2), .unset] [])) t → G t := fun t ks => pr12 t (by
        refine XS.icmpYes X0.here hx rfl (pc0 := 2) (pc' := 9) rfl (hb hby d2_2) rfl (feq hc).2 (by decide) (by decide) ?_
        refine XS.lconst X0.here hx rfl (hb hby d2_9) ?_
        refine XS.lstoreN X0.here hx rfl (hb hby d2_10) rfl (l' := #[.val (.ref a1), .val (.int p2), .val (.int p3), .val (.long (0 : Int64)), .second, .unset, .unset]) rfl ?_
        refine XS.iloadN X0.here hx rfl (hb hby d2_11) rfl ?_
        refine XS.istore X0.here hx rfl (hb hby d2_12) rfl (l' := #[.val (.ref a1), .val (.int p2), .val (.int p3), .val (.long (0 : Int64)), .second, .val (.int p2), .unset]) rfl ?_
        exact ks)
    have hft : ¬ fa = ta := fun q => hc (by rw [e2, e3, q])
    have hq : own_decimal us fa ta = own_dec us (ta - fa) fa 0 := if_neg hft
    obtain ⟨pc', L', hpc, st⟩ := loopD (p2 := p2) X0 hx hZ hw hby hml hown e0 V_a1 e3 hta hbd (ta - fa) fa 0 .unset One.u (by omega)
    rw [← e2, ← hq] at st
    rcases hpc with rfl | rfl | rfl
    · obtain ⟨fs, hr, hrun, hended, hW, hsame⟩ := X0.leave (v := some (.long (own_decimal us fa ta))) (fun h => by rw [Bd.returns] at h; cases h)
      refine ⟨_, _, hG _ (pr14 _ (st _ ?_)), hrun, hended, _, _, rfl, ?_, ⟨_, rfl⟩, hW, hsame.mono (by decide) (by decide)⟩
      · jvm_step X0.here [X0.here.top, hx, (hb hby d2_74), X0.method', Bd.returns, narrow]
        first | (intro acts; rw [hr _ acts rfl rfl rfl]) | rw [hr _ _ rfl rfl rfl]
        exact Steps.refl _
      · show Q2 us fa ta h0 n0 _ s₁.heap _
        rw [e0]
        exact ⟨rfl, N0, rfl⟩
    · obtain ⟨fs, hr, hrun, hended, hW, hsame⟩ := X0.leave (v := some (.long (own_decimal us fa ta))) (fun h => by rw [Bd.returns] at h; cases h)
      refine ⟨_, _, hG _ (pr14 _ (st _ ?_)), hrun, hended, _, _, rfl, ?_, ⟨_, rfl⟩, hW, hsame.mono (by decide) (by decide)⟩
      · jvm_step X0.here [X0.here.top, hx, (hb hby d2_44), X0.method', Bd.returns, narrow]
        first | (intro acts; rw [hr _ acts rfl rfl rfl]) | rw [hr _ _ rfl rfl rfl]
        exact Steps.refl _
      · show Q2 us fa ta h0 n0 _ s₁.heap _
        rw [e0]
        exact ⟨rfl, N0, rfl⟩
    · obtain ⟨fs, hr, hrun, hended, hW, hsame⟩ := X0.leave (v := some (.long (own_decimal us fa ta))) (fun h => by rw [Bd.returns] at h; cases h)
      refine ⟨_, _, hG _ (pr14 _ (st _ ?_)), hrun, hended, _, _, rfl, ?_, ⟨_, rfl⟩, hW, hsame.mono (by decide) (by decide)⟩
      · jvm_step X0.here [X0.here.top, hx, (hb hby d2_66), X0.method', Bd.returns, narrow]
        first | (intro acts; rw [hr _ acts rfl rfl rfl]) | rw [hr _ _ rfl rfl rfl]
        exact Steps.refl _
      · show Q2 us fa ta h0 n0 _ s₁.heap _
        rw [e0]
        exact ⟨rfl, N0, rfl⟩
theorem own_lt10 {k : Nat} (h : k ≤ 11) : 10 ^ k < 9223372036854775808 :=
  Nat.lt_of_le_of_lt (Nat.pow_le_pow_right (by decide) h) (by decide)
theorem own_byteOf : ∀ d < 10, (((48 : Int64) + Int64.ofNat d).toInt32).toInt8.toInt32 = Int32.ofNat (48 + d) := by decide +kernel
theorem own_sub48 {d : Nat} (h : d < 10) : Int32.ofNat (48 + d) - (48 : Int32) = Int32.ofNat d := by
  apply Int32.toInt_inj.mp
  have e : (Int32.ofNat (48 + d)).toInt = (48 + d : Nat) := own_tI (by omega)
  rw [own_sub (by rw [e, show (48 : Int32).toInt = 48 from rfl]; omega) (by rw [e, show (48 : Int32).toInt = 48 from rfl]; omega), e, own_tI (by omega), show (48 : Int32).toInt = 48 from rfl]; omega
theorem own_i2l {d : Nat} (h : d < 2147483648) : (Int32.ofNat d).toInt64 = Int64.ofNat d := by
  apply Int64.toInt_inj.mp
  rw [Int32.toInt_toInt64, own_tI h, own_tL (by omega)]
theorem own_pos (k : Nat) : 0 < 10 ^ k := Nat.pow_pos (by decide)
theorem own_decG (us : List Int32) (W : Nat) : ∀ (k i acc : Nat), i + k ≤ 11 → (∀ j, i ≤ j → j < i + k → us.getD j 0 = Int32.ofNat (48 + W / 10 ^ (10 - j) % 10)) → acc ≤ 4294967295 →
    own_dec us k i (Int64.ofNat acc) = if 4294967295 < acc * 10 ^ k + W / 10 ^ (11 - i - k) % 10 ^ k then (-1 : Int64) else Int64.ofNat (acc * 10 ^ k + W / 10 ^ (11 - i - k) % 10 ^ k) := by
  intro k
  induction k with
  | zero =>
    intro i acc hi hd ha
    simp only [Nat.pow_zero, Nat.mul_one, Nat.mod_one, Nat.add_zero]
    rw [if_neg (by omega)]; rfl
  | succ k ih =>
    intro i acc hi hd ha
    have hdig := hd i (Nat.le_refl _) (by omega)
    have hlt : W / 10 ^ (10 - i) % 10 < 10 := Nat.mod_lt _ (by decide)
    have hX : W / 10 ^ (11 - i - (k + 1)) / 10 ^ k = W / 10 ^ (10 - i) := by
      rw [Nat.div_div_eq_div_mul, ← Nat.pow_add, show 11 - i - (k + 1) + k = 10 - i by omega]
    have hsplit : acc * 10 ^ (k + 1) + W / 10 ^ (11 - i - (k + 1)) % 10 ^ (k + 1) = (acc * 10 + W / 10 ^ (10 - i) % 10) * 10 ^ k + W / 10 ^ (11 - i - (k + 1)) % 10 ^ k := by
      rw [Nat.mod_pow_succ, hX, Nat.add_mul, Nat.pow_succ]
      rw [show acc * 10 * 10 ^ k = acc * (10 ^ k * 10) by rw [Nat.mul_assoc, Nat.mul_comm 10]]
      rw [Nat.mul_comm (10 ^ k) (W / 10 ^ (10 - i) % 10)]
      omega
    rw [hsplit]
    generalize hdd : W / 10 ^ (10 - i) % 10 = d at *
    have e1 : us.getD i 0 - 48 = Int32.ofNat d := by rw [hdig, own_sub48 hlt]
    have e2 : Int64.ofNat acc * 10 + (us.getD i 0 - 48).toInt64 = Int64.ofNat (acc * 10 + d) := by
      rw [e1, own_i2l (by omega), ← own_addL, ← own_mulL]; rfl
    have c1 : ¬ us.getD i 0 - 48 < 0 := by rw [e1]; exact own_nn (by omega)
    have c2 : ¬ 9 < us.getD i 0 - 48 := by
      rw [e1, Int32.lt_iff_toInt_lt, own_tI (by omega), show (9 : Int32).toInt = 9 from rfl]; omega
    rw [own_dec, if_neg c1, if_neg c2, e2]
    have hp := own_pos k
    by_cases c3 : 4294967295 < acc * 10 + d
    · have c3' : (0 : Int32) < lcmpW (Int64.ofNat (acc * 10 + d)) 4294967295 := by
        rw [own_lc2, Int64.lt_iff_toInt_lt, own_tL (by omega), show (4294967295 : Int64).toInt = 4294967295 from rfl]; omega
      rw [if_pos c3']
      have h4 : acc * 10 + d ≤ (acc * 10 + d) * 10 ^ k := Nat.le_mul_of_pos_right _ hp
      rw [if_pos (by omega)]
    · have c3' : ¬ (0 : Int32) < lcmpW (Int64.ofNat (acc * 10 + d)) 4294967295 := by
        rw [own_lc2, Int64.lt_iff_toInt_lt, own_tL (by omega), show (4294967295 : Int64).toInt = 4294967295 from rfl]; omega
      rw [if_neg c3']
      have := ih (i + 1) (acc * 10 + d) (by omega) (fun j h1 h2 => hd j (by omega) (by omega)) (by omega)
      rw [show 11 - (i + 1) - k = 11 - i - (k + 1) by omega] at this
      exact this
theorem own_decB (us : List Int32) (P : Nat) (hbad : us.getD P 0 - 48 < 0 ∨ 9 < us.getD P 0 - 48) : ∀ (k i : Nat) (acc : Int64), i ≤ P → P < i + k → own_dec us k i acc = -1 := by
  intro k
  induction k with
  | zero => intro i acc h1 h2; omega
  | succ k ih =>
    intro i acc h1 h2
    rw [own_dec]
    by_cases c1 : us.getD i 0 - 48 < 0
    · rw [if_pos c1]
    · rw [if_neg c1]
      by_cases c2 : 9 < us.getD i 0 - 48
      · rw [if_pos c2]
      · rw [if_neg c2]
        by_cases c3 : (0 : Int32) < lcmpW (acc * 10 + (us.getD i 0 - 48).toInt64) 4294967295
        · rw [if_pos c3]
        · rw [if_neg c3]
          by_cases e : i = P
          · subst e; exact (hbad.elim (absurd · c1) (absurd · c2))
          · exact ih (i + 1) _ (by omega) (by omega)
/-- a digit of W replaced -/
theorem own_repl (W m d' : Nat) (hd : d' < 10) : ∃ W' : Nat, W' + W / 10 ^ m % 10 * 10 ^ m = W + d' * 10 ^ m ∧ (∀ j, W' / 10 ^ j % 10 = if j = m then d' else W / 10 ^ j % 10) := by
  have hp := own_pos m
  have h1 := Nat.mod_add_div W (10 ^ m)
  have h2 := Nat.mod_add_div (W / 10 ^ m) 10
  refine ⟨(W / 10 ^ m / 10 * 10 + d') * 10 ^ m + W % 10 ^ m, ?_, fun j => ?_⟩
  · have h3 : W / 10 ^ m * 10 ^ m = (W / 10 ^ m % 10) * 10 ^ m + (W / 10 ^ m / 10 * 10) * 10 ^ m := by rw [← Nat.add_mul]; congr 1; omega
    rw [Nat.add_mul]
    rw [Nat.mul_comm] at h1
    omega
  · have hlow : W % 10 ^ m < 10 ^ m := Nat.mod_lt _ hp
    by_cases c : j = m
    · subst c
      rw [if_pos rfl, Nat.add_comm, Nat.add_mul_div_right _ _ hp, Nat.div_eq_of_lt hlow]; omega
    · rw [if_neg c]
      by_cases c2 : j < m
      · -- low digits
        have e1 : ∀ X Y : Nat, (X * 10 ^ m + Y) / 10 ^ j % 10 = Y / 10 ^ j % 10 := by
          intro X Y
          rw [show X * 10 ^ m = (X * 10 ^ (m - j - 1) * 10) * 10 ^ j by
            rw [Nat.mul_assoc, Nat.mul_assoc, Nat.mul_comm 10, ← Nat.pow_succ, ← Nat.pow_add]; congr 2; omega]
          rw [Nat.add_comm, Nat.add_mul_div_right _ _ (own_pos j), Nat.add_mul_mod_self_right]
        rw [e1]
        conv => rhs; rw [← h1, Nat.add_comm, Nat.mul_comm, e1]
      · -- high digits
        have e2 : ∀ X : Nat, X / 10 ^ j = X / 10 ^ m / 10 / 10 ^ (j - m - 1) := by
          intro X
          rw [Nat.div_div_eq_div_mul (X / 10 ^ m), Nat.div_div_eq_div_mul, ← Nat.pow_succ', ← Nat.pow_add]; congr 2; omega
        rw [e2, e2 W, Nat.add_comm, Nat.add_mul_div_right _ _ hp, Nat.div_eq_of_lt hlow]
        rw [show (0 + (W / 10 ^ m / 10 * 10 + d')) / 10 = W / 10 ^ m / 10 by omega]
theorem own_byteLo {bb x : Int32} (h : bb = (x.toInt8.toInt32)) : -128 ≤ bb.toInt := by
  rw [h, Int8.toInt_toInt32]; exact x.toInt8.le_toInt
theorem own_w0 (p1 w0 : Int64) (h : w0 = ((p1 &&& (9223372036854775807 : Int64)) - ((p1 &&& (9223372036854775807 : Int64)) / (100000000000 : Int64)) * (100000000000 : Int64))) : ∃ W : Nat, W < 100000000000 ∧ w0 = Int64.ofNat W := by
  have h0 := own_mask63 p1
  have e := own_ofL h0
  have hb := (p1 &&& (9223372036854775807 : Int64)).toInt_lt
  have e11 : (100000000000 : Int64) = Int64.ofNat 100000000000 := rfl
  rw [e, e11, own_remL (by omega) (by decide)] at h
  exact ⟨_, Nat.mod_lt _ (by decide), h⟩
theorem own_digN {w0 D : Int64} {W k : Nat} (hW : W < 9223372036854775808) (ew : w0 = Int64.ofNat W) (hk : k ≤ 11) (eD : D = Int64.ofNat (10 ^ k)) : own_digit w0 D = Int64.ofNat (W / 10 ^ k % 10) := by
  have h1 := own_lt10 hk
  have h2 : W / 10 ^ k ≤ W := Nat.div_le_self _ _
  rw [own_digit, ew, eD, own_divL hW h1]
  exact own_remL (b := 10) (by omega) (by decide)
theorem own_bval {w0 D : Int64} {W k : Nat} {b : Int32} (hW : W < 100000000000) (ew : w0 = Int64.ofNat W) (hk : k ≤ 11) (eD : D = Int64.ofNat (10 ^ k)) (h : b = ((((48 : Int64) + (own_digit w0 D)).toInt32).toInt8.toInt32)) : b = Int32.ofNat (48 + W / 10 ^ k % 10) := by
  rw [h, own_digN (by omega) ew hk eD]
  exact own_byteOf _ (Nat.mod_lt _ (by decide))
theorem own_modN (x : Int32) (k : Nat) (r : Int32) (hk : 0 < k) (hk2 : k < 1000) (h : r = ((x &&& (2147483647 : Int32)) - ((x &&& (2147483647 : Int32)) / (Int32.ofNat k)) * (Int32.ofNat k))) : ∃ q : Nat, q < k ∧ r = Int32.ofNat q := by
  have h0 := own_mask31 x
  have ek := own_tI (n := k) (by omega)
  have hr := own_rem (x &&& 2147483647) (Int32.ofNat k) h0 (by omega)
  rw [← h, ek] at hr
  have h5 := Int.emod_nonneg (x &&& 2147483647).toInt (show (k : Int) ≠ 0 by omega)
  have h6 := Int.emod_lt_of_pos (x &&& 2147483647).toInt (show (0 : Int) < k by omega)
  exact ⟨r.toInt.toNat, by omega, own_ofI (by omega)⟩
theorem own_subN {a b : Nat} (h : b ≤ a) (ha : a < 2147483648) : Int32.ofNat a - Int32.ofNat b = Int32.ofNat (a - b) := by
  apply Int32.toInt_inj.mp
  rw [own_sub (by rw [own_tI ha, own_tI (by omega)]; omega) (by rw [own_tI ha, own_tI (by omega)]; omega), own_tI ha, own_tI (by omega), own_tI (by omega)]; omega
theorem own_nz12 {fr : Int32} {fa : Nat} (hfa : fa < 12) (efr : fr = Int32.ofNat fa) : ((12 : Int32) - fr) ≠ 0 := by
  have e : (12 : Int32) - fr = Int32.ofNat (12 - fa) := by rw [efr]; exact own_subN (a := 12) (by omega) (by decide)
  rw [e]; intro q
  have := own_ofinj (a := 12 - fa) (b := 0) (by omega) (by decide) q
  omega
theorem own_to (p3 fr to : Int32) {fa : Nat} (hfa : fa < 12) (efr : fr = Int32.ofNat fa) (h : to = (fr + ((p3 &&& (2147483647 : Int32)) - ((p3 &&& (2147483647 : Int32)) / ((12 : Int32) - fr)) * ((12 : Int32) - fr)))) : ∃ ta : Nat, fa ≤ ta ∧ ta ≤ 11 ∧ to = Int32.ofNat ta := by
  have e : (12 : Int32) - fr = Int32.ofNat (12 - fa) := by rw [efr]; exact own_subN (a := 12) (by omega) (by decide)
  rw [e] at h
  obtain ⟨q, hq, eq⟩ := own_modN p3 (12 - fa) _ (by omega) (by omega) rfl
  rw [eq, efr, ← Int32.ofNat_add] at h
  exact ⟨fa + q, by omega, by omega, h⟩
theorem own_p10 {k : Nat} (h : k < 12) : [(1 : Int64), (10 : Int64), (100 : Int64), (1000 : Int64), (10000 : Int64), (100000 : Int64), (1000000 : Int64), (10000000 : Int64), (100000000 : Int64), (1000000000 : Int64), (10000000000 : Int64), (100000000000 : Int64)].getD k 0 = Int64.ofNat (10 ^ k) := by
  match k, h with
  | 0, _ => rfl
  | 1, _ => rfl
  | 2, _ => rfl
  | 3, _ => rfl
  | 4, _ => rfl
  | 5, _ => rfl
  | 6, _ => rfl
  | 7, _ => rfl
  | 8, _ => rfl
  | 9, _ => rfl
  | 10, _ => rfl
  | 11, _ => rfl
theorem own_p10nz {k : Nat} (h : k < 12) : Int64.ofNat (10 ^ k) ≠ 0 := by
  intro q
  have := congrArg Int64.toInt q
  rw [own_tL (own_lt10 (by omega)), show (0 : Int64).toInt = 0 from rfl] at this
  have := own_pos k
  omega
theorem own_six {x y : Int32} {a b : Nat} (ex : x = Int32.ofNat a) (ey : y = Int32.ofNat b) (h : b ≤ a) (ha : a < 2147483648) : (x - y).toNatClampNeg = a - b ∧ ¬ (x - y) < 0 := by
  rw [ex, ey, own_subN h ha]; exact ⟨own_n32 (by omega), own_nn (by omega)⟩
/-- the digits in the range are W's -/
theorem own_lawG {us : List Int32} {W fa ta : Nat} {fr to : Int32} {w : Int64} (hd : ∀ j, fa ≤ j → j < ta → us.getD j 0 = Int32.ofNat (48 + W / 10 ^ (10 - j) % 10)) (hle : fa ≤ ta) (hta : ta ≤ 11) (efr : fr = Int32.ofNat fa) (eto : to = Int32.ofNat ta) (ew : w = Int64.ofNat W) (hW : W < 9223372036854775808) :
    own_decimal us fa ta = (if fr = to then (-1 : Int64) else (if (0 : Int32) < (lcmpW ((w / (Int64.ofNat (10 ^ (11 - ta)))) - ((w / (Int64.ofNat (10 ^ (11 - ta)))) / (Int64.ofNat (10 ^ (ta - fa)))) * (Int64.ofNat (10 ^ (ta - fa)))) (4294967295 : Int64)) then (-1 : Int64) else ((w / (Int64.ofNat (10 ^ (11 - ta)))) - ((w / (Int64.ofNat (10 ^ (11 - ta)))) / (Int64.ofNat (10 ^ (ta - fa)))) * (Int64.ofNat (10 ^ (ta - fa)))))) := by
  rw [own_decimal]
  by_cases c : fa = ta
  · rw [if_pos c, if_pos (by rw [efr, eto, c])]
  · have c' : ¬ fr = to := fun q => c (own_ofinj (by omega) (by omega) (efr ▸ eto ▸ q))
    rw [if_neg c, if_neg c']
    have h1 := own_decG us W (ta - fa) fa 0 (by omega) (fun j a b => hd j a (by omega)) (by decide)
    have e0 : Int64.ofNat 0 = 0 := rfl
    rw [e0] at h1
    rw [h1, Nat.zero_mul, Nat.zero_add, show 11 - fa - (ta - fa) = 11 - ta by omega]
    have h2 : W / 10 ^ (11 - ta) ≤ W := Nat.div_le_self _ _
    have h3 := own_lt10 (k := 11 - ta) (by omega)
    have h4 := own_lt10 (k := ta - fa) (by omega)
    have e : (w / (Int64.ofNat (10 ^ (11 - ta)))) - ((w / (Int64.ofNat (10 ^ (11 - ta)))) / (Int64.ofNat (10 ^ (ta - fa)))) * (Int64.ofNat (10 ^ (ta - fa))) = Int64.ofNat (W / 10 ^ (11 - ta) % 10 ^ (ta - fa)) := by
      rw [ew, own_divL hW h3, own_remL (by omega) h4]
    rw [e]
    have h5 : W / 10 ^ (11 - ta) % 10 ^ (ta - fa) ≤ W / 10 ^ (11 - ta) := Nat.mod_le _ _
    generalize W / 10 ^ (11 - ta) % 10 ^ (ta - fa) = V at *
    by_cases q : 4294967295 < V
    · rw [if_pos q, if_pos (by rw [own_lc2, Int64.lt_iff_toInt_lt, own_tL (by omega), show (4294967295 : Int64).toInt = 4294967295 from rfl]; omega)]
    · rw [if_neg q, if_neg (by rw [own_lc2, Int64.lt_iff_toInt_lt, own_tL (by omega), show (4294967295 : Int64).toInt = 4294967295 from rfl]; omega)]
theorem own_gsN (l : List Int32) (i j : Nat) (y : Int32) (h : i ≠ j) : (l.set i y).getD j 0 = l.getD j 0 := by
  simp only [List.getD_eq_getElem?_getD, List.getElem?_set_ne h]
theorem own_geN (l : List Int32) (i : Nat) (y : Int32) (h : i < l.length) : (l.set i y).getD i 0 = y := by
  simp [List.getD_eq_getElem?_getD, h]
theorem own_lawA {vs : List Int32} {W fa ta : Nat} {fr to : Int32} {w0 : Int64} (hvd : ∀ j, j < 11 → vs.getD j 0 = Int32.ofNat (48 + W / 10 ^ (10 - j) % 10)) (hfa : fa < 12) (hle : fa ≤ ta) (hta : ta ≤ 11) (efr : fr = Int32.ofNat fa) (eto : to = Int32.ofNat ta) (ew : w0 = Int64.ofNat W) (hW : W < 100000000000) :
    own_decimal vs fa ta = (if fr = to then (-1 : Int64) else (if (0 : Int32) < (lcmpW ((w0 / (Int64.ofNat (10 ^ (11 - ta)))) - ((w0 / (Int64.ofNat (10 ^ (11 - ta)))) / (Int64.ofNat (10 ^ (ta - fa)))) * (Int64.ofNat (10 ^ (ta - fa)))) (4294967295 : Int64)) then (-1 : Int64) else ((w0 / (Int64.ofNat (10 ^ (11 - ta)))) - ((w0 / (Int64.ofNat (10 ^ (11 - ta)))) / (Int64.ofNat (10 ^ (ta - fa)))) * (Int64.ofNat (10 ^ (ta - fa)))))) := own_lawG (fun j _ b => hvd j (by omega)) hle hta efr eto ew (by omega)
theorem own_lawB {vs : List Int32} {W fa ta Q : Nat} {fr to ps bb : Int32} {w0 : Int64} (hvd : ∀ j, j < 11 → vs.getD j 0 = Int32.ofNat (48 + W / 10 ^ (10 - j) % 10)) (hvl : vs.length = 11) (hfa : fa < 12) (hle : fa ≤ ta) (hta : ta ≤ 11) (hQ : Q < 11) (efr : fr = Int32.ofNat fa) (eto : to = Int32.ofNat ta) (eps : ps = Int32.ofNat Q) (ew : w0 = Int64.ofNat W) (hW : W < 100000000000) (hbb8 : -128 ≤ bb.toInt) (hdg : (if bb < (48 : Int32) then (0 : Int32) else (if (57 : Int32) < bb then (0 : Int32) else (1 : Int32))) = (0 : Int32)) :
    own_decimal (vs.set Q bb) fa ta = (if fr = to then (-1 : Int64) else (if ps < fr then (if (0 : Int32) < (lcmpW ((w0 / (Int64.ofNat (10 ^ (11 - ta)))) - ((w0 / (Int64.ofNat (10 ^ (11 - ta)))) / (Int64.ofNat (10 ^ (ta - fa)))) * (Int64.ofNat (10 ^ (ta - fa)))) (4294967295 : Int64)) then (-1 : Int64) else ((w0 / (Int64.ofNat (10 ^ (11 - ta)))) - ((w0 / (Int64.ofNat (10 ^ (11 - ta)))) / (Int64.ofNat (10 ^ (ta - fa)))) * (Int64.ofNat (10 ^ (ta - fa))))) else (if ps < to then (-1 : Int64) else (if (0 : Int32) < (lcmpW ((w0 / (Int64.ofNat (10 ^ (11 - ta)))) - ((w0 / (Int64.ofNat (10 ^ (11 - ta)))) / (Int64.ofNat (10 ^ (ta - fa)))) * (Int64.ofNat (10 ^ (ta - fa)))) (4294967295 : Int64)) then (-1 : Int64) else ((w0 / (Int64.ofNat (10 ^ (11 - ta)))) - ((w0 / (Int64.ofNat (10 ^ (11 - ta)))) / (Int64.ofNat (10 ^ (ta - fa)))) * (Int64.ofNat (10 ^ (ta - fa)))))))) := by
  have hout : ¬ (fa ≤ Q ∧ Q < ta) → own_decimal (vs.set Q bb) fa ta = (if fr = to then (-1 : Int64) else (if (0 : Int32) < (lcmpW ((w0 / (Int64.ofNat (10 ^ (11 - ta)))) - ((w0 / (Int64.ofNat (10 ^ (11 - ta)))) / (Int64.ofNat (10 ^ (ta - fa)))) * (Int64.ofNat (10 ^ (ta - fa)))) (4294967295 : Int64)) then (-1 : Int64) else ((w0 / (Int64.ofNat (10 ^ (11 - ta)))) - ((w0 / (Int64.ofNat (10 ^ (11 - ta)))) / (Int64.ofNat (10 ^ (ta - fa)))) * (Int64.ofNat (10 ^ (ta - fa)))))) := fun hn => own_lawG (fun j a b => by rw [own_gsN _ _ _ _ (by omega)]; exact hvd j (by omega)) hle hta efr eto ew (by omega)
  have l1 : ps < fr ↔ Q < fa := by rw [eps, efr, Int32.lt_iff_toInt_lt, own_tI (by omega), own_tI (by omega)]; omega
  have l2 : ps < to ↔ Q < ta := by rw [eps, eto, Int32.lt_iff_toInt_lt, own_tI (by omega), own_tI (by omega)]; omega
  by_cases c0 : fr = to
  · rw [if_pos c0]
    have : fa = ta := own_ofinj (by omega) (by omega) (efr ▸ eto ▸ c0)
    rw [own_decimal, if_pos this]
  · rw [if_neg c0]
    rw [if_neg c0] at hout
    by_cases c1 : ps < fr
    · rw [if_pos c1]; exact hout (by have := l1.mp c1; omega)
    · rw [if_neg c1]
      by_cases c2 : ps < to
      · rw [if_pos c2]
        have q1 : ¬ Q < fa := fun z => c1 (l1.mpr z)
        have q2 := l2.mp c2
        rw [own_decimal, if_neg (by omega)]
        refine own_decB _ Q ?_ _ _ _ (by omega) (by omega)
        rw [own_geN _ _ _ (by omega)]
        by_cases d1 : bb < (48 : Int32)
        · left
          rw [Int32.lt_iff_toInt_lt, show (48 : Int32).toInt = 48 from rfl] at d1
          rw [Int32.lt_iff_toInt_lt, show (0 : Int32).toInt = 0 from rfl]
          have := bb.le_toInt
          by_cases o : -2147483648 ≤ bb.toInt - 48
          · rw [own_sub (by rw [show (48 : Int32).toInt = 48 from rfl]; omega) (by rw [show (48 : Int32).toInt = 48 from rfl]; omega), show (48 : Int32).toInt = 48 from rfl]; omega
          · exact absurd hbb8 (by omega)
        · rw [if_neg d1] at hdg
          by_cases d2 : (57 : Int32) < bb
          · right
            rw [Int32.lt_iff_toInt_lt, show (57 : Int32).toInt = 57 from rfl] at d2
            have := bb.toInt_lt
            rw [Int32.lt_iff_toInt_lt, own_sub (by rw [show (48 : Int32).toInt = 48 from rfl]; omega) (by rw [show (48 : Int32).toInt = 48 from rfl]; omega), show (48 : Int32).toInt = 48 from rfl, show (9 : Int32).toInt = 9 from rfl]; omega
          · rw [if_neg d2] at hdg; exact absurd hdg (by decide)
      · rw [if_neg c2]; exact hout (by have : ¬ Q < ta := fun z => c2 (l2.mpr z); omega)
theorem own_lawC {vs : List Int32} {W fa ta Q : Nat} {fr to bb : Int32} {w0 wc : Int64} (hvd : ∀ j, j < 11 → vs.getD j 0 = Int32.ofNat (48 + W / 10 ^ (10 - j) % 10)) (hvl : vs.length = 11) (hfa : fa < 12) (hle : fa ≤ ta) (hta : ta ≤ 11) (hQ : Q < 11) (efr : fr = Int32.ofNat fa) (eto : to = Int32.ofNat ta) (ew : w0 = Int64.ofNat W) (hW : W < 100000000000) (hwc : wc = (w0 + ((((bb - (48 : Int32)).toInt64) - (own_digit w0 (Int64.ofNat (10 ^ (10 - Q))))) * (Int64.ofNat (10 ^ (10 - Q)))))) (hdg : ¬ (if bb < (48 : Int32) then (0 : Int32) else (if (57 : Int32) < bb then (0 : Int32) else (1 : Int32))) = (0 : Int32)) :
    own_decimal (vs.set Q bb) fa ta = (if fr = to then (-1 : Int64) else (if (0 : Int32) < (lcmpW ((wc / (Int64.ofNat (10 ^ (11 - ta)))) - ((wc / (Int64.ofNat (10 ^ (11 - ta)))) / (Int64.ofNat (10 ^ (ta - fa)))) * (Int64.ofNat (10 ^ (ta - fa)))) (4294967295 : Int64)) then (-1 : Int64) else ((wc / (Int64.ofNat (10 ^ (11 - ta)))) - ((wc / (Int64.ofNat (10 ^ (11 - ta)))) / (Int64.ofNat (10 ^ (ta - fa)))) * (Int64.ofNat (10 ^ (ta - fa)))))) := by
  have hr : 48 ≤ bb.toInt ∧ bb.toInt ≤ 57 := by
    by_cases d1 : bb < (48 : Int32)
    · rw [if_pos d1] at hdg; exact absurd rfl hdg
    · rw [if_neg d1] at hdg
      by_cases d2 : (57 : Int32) < bb
      · rw [if_pos d2] at hdg; exact absurd rfl hdg
      · rw [Int32.lt_iff_toInt_lt, show (48 : Int32).toInt = 48 from rfl] at d1
        rw [Int32.lt_iff_toInt_lt, show (57 : Int32).toInt = 57 from rfl] at d2
        omega
  obtain ⟨d', hd', eb⟩ : ∃ d' : Nat, d' < 10 ∧ bb = Int32.ofNat (48 + d') := ⟨bb.toInt.toNat - 48, by omega, by
    have := own_ofI (x := bb) (by omega)
    rw [show 48 + (bb.toInt.toNat - 48) = bb.toInt.toNat by omega]; exact this⟩
  obtain ⟨W', h1, h2⟩ := own_repl W (10 - Q) d' hd'
  have hp := own_lt10 (k := 10 - Q) (by omega)
  have hq : W / 10 ^ (10 - Q) % 10 < 10 := Nat.mod_lt _ (by decide)
  have hm : d' * 10 ^ (10 - Q) ≤ 9 * 10000000000 := Nat.mul_le_mul (by omega) (Nat.pow_le_pow_right (n := 10) (j := 10) (by decide) (by omega))
  have hW' : W' < 9223372036854775808 := by omega
  have ewc : wc = Int64.ofNat W' := by
    rw [hwc, eb, own_sub48 hd', own_i2l (by omega), own_digN (by omega) ew (by omega) rfl, ew]
    have hm2 : W / 10 ^ (10 - Q) % 10 * 10 ^ (10 - Q) ≤ 9 * 10000000000 := Nat.mul_le_mul (by omega) (Nat.pow_le_pow_right (n := 10) (j := 10) (by decide) (by omega))
    rw [Int64.sub_mul, own_mulL, own_mulL]
    generalize W / 10 ^ (10 - Q) % 10 * 10 ^ (10 - Q) = A at *
    generalize d' * 10 ^ (10 - Q) = B at *
    apply Int64.toInt_inj.mp
    rw [own_tL hW', Int64.toInt_add, Int64.toInt_sub, own_tL (by omega), own_tL (by omega), own_tL (by omega)]
    rw [Int.bmod_eq_of_le (n := (B : Int) - A) (by omega) (by omega), Int.bmod_eq_of_le (by omega) (by omega)]
    omega
  refine own_lawG (W := W') (fun j a b => ?_) hle hta efr eto ewc hW'
  by_cases c : Q = j
  · subst c
    rw [own_geN _ _ _ (by omega), h2, if_pos rfl]; exact eb
  · rw [own_gsN _ _ _ _ c, hvd j (by omega), h2, if_neg (by omega)]
theorem ef_rm0 (m : MethodId) (x0 : Int64) (x1 : Int32) (x2 : Int32) (x3 : Int32) (x4 : Int32) (x5 : Int32) : entryFrame m #[(.long x0), (.int x1), (.int x2), (.int x3), (.int x4), (.int x5)] maxLocals = mkF m 0 #[.val (.long x0), .second, .val (.int x1), .val (.int x2), .val (.int x3), .val (.int x4), .val (.int x5), .unset, .unset, .unset, .unset, .unset, .unset, .unset, .unset, .unset, .unset, .unset, .unset, .unset, .unset, .unset, .unset] [] := by first | (simp [entryFrame, mkF, argsToLocals, Value.category, maxLocals]; done) | rfl
def Q0 (n0 : Nat) (v : Option Value) (h : Heap) (L : List Loc) : Prop := v = some (.int 1) ∧ Fr n0 L
set_option maxRecDepth 65536 in
set_option maxHeartbeats 40000000 in
theorem rm0 (l : Launch) (Z : State) (a0 : Array Value) (hw : ∀ d ∈ tables_1, d.before a0 Z = true) (ws : List Jvm.Cond) (p1 : Int64) (p2 : Int32) (p3 : Int32) (p4 : Int32) (p5 : Int32) (p6 : Int32)  (h0 : Heap) (n0 : Nat) (Z0 : n0 ≤ h0.size)  :
    MetFree l x (head1 (Jvm.Cond.code x code maxLocals ret :: ws) room_1) (fun a U => a = #[(.long p1), (.int p2), (.int p3), (.int p4), (.int p5), (.int p6)] ∧ Z.Warmed39 U.vm ∧ U.heap = h0) (fun _ _ _ _ _ => True) (fun _ U o U' => ∃ v L, o = .returned v ∧ Q0 n0 v U'.heap L ∧ FrameEnd U o U' L room_1.cells room_1.slots) := by
  refine MetFree.of_bodySF (plainFor_of_name pn_0) hisR ?_
  intro p e s m args below meth c s₁ Bd hml0 hP hK
  obtain ⟨rfl, hZ, hh⟩ := hP
  have hx := Bd.exec
  have hby := Bd.bytes
  have hml : c.maxLocals = 23 := hml0
  have hown : s.vm.findClass "com/example/gneiss/gneiss/graph/EdgeListDecimalPinLaw" = some m.cls := findClass_of_methodNamed Bd.named
  have hnm := (name_of_methodNamed Bd.named Bd.method).1
  have X0 : Stand p l e room_1 s m #[(.long p1), (.int p2), (.int p3), (.int p4), (.int p5), (.int p6)] below meth c s₁ [] 0 0 := Stand.of_body Bd
  have e0 : s₁.heap = h0 := by rw [← hh, Bd.state]; rfl
  have N0 := Fr.nil n0
  obtain ⟨G, hG, pr0⟩ : ∃ G : State → Prop, (∀ t, G t → Steps p.tables e below (s₁.setTop (entryFrame m #[(.long p1), (.int p2), (.int p3), (.int p4), (.int p5), (.int p6)] maxLocals)) t) ∧ (∀ t, Steps p.tables e below (s₁.setTop (mkF m 0 #[.val (.long p1), .second, .val (.int p2), .val (.int p3), .val (.int p4), .val (.int p5), .val (.int p6), .unset, .unset, .unset, .unset, .unset, .unset, .unset, .unset, .unset, .unset, .unset, .unset, .unset, .unset, .unset, .unset] [])) t → G t) := ⟨_, fun _ k => k, fun t ks => castTop (ef_rm0 m p1 p2 p3 p4 p5 p6) ks⟩
  have pr15 : ∀ t, Steps p.tables e below (s₁.setTop (mkF m 2 #[.val (.long p1), .second, .val (.int p2), .val (.int p3), .val (.int p4), .val (.int p5), .val (.int p6), .unset, .unset, .unset, .unset, .unset, .unset, .unset, .unset, .unset, .unset, .unset, .unset, .unset, .unset, .unset, .unset] [(.int (12 : Int32))])) t → G t := fun t ks => pr0 t (by
      refine XS.bipush X0.here hx rfl (hb hby at_0) ?_
      exact ks)
  obtain ⟨T16, h16, k16, X16, e16, E16, A16, st16⟩ := newP X0 hx hZ (hw _ (List.mem_of_getElem? (i := 0) rfl)) e0 (g := (mkF m 2 #[.val (.long p1), .second, .val (.int p2), .val (.int p3), .val (.int p4), .val (.int p5), .val (.int p6), .unset, .unset, .unset, .unset, .unset, .unset, .unset, .unset, .unset, .unset, .unset, .unset, .unset, .unset, .unset, .unset] [(.int (12 : Int32))])) rfl (hb hby at_2) rfl (by decide) (cap := 12) (by decide) (by decide) (by decide) (by decide)
  obtain ⟨pt, g16⟩ : ∃ z, z = h0.size := ⟨_, rfl⟩
  rw [← g16] at A16 st16
  have g_pt : n0 ≤ pt := Nat.le_trans Z0 (Nat.le_of_eq g16.symm)
  have V_pt : LA Z h16 pt k16 (12 : Int32) (List.replicate 12 0) := LA.new A16 (by decide) rfl
  replace V_pt : LA Z h16 pt k16 (12 : Int32) [0, 0, 0, 0, 0, 0, 0, 0, 0, 0, 0, 0] := V_pt
  have Z16 : n0 ≤ h16.size := Nat.le_trans Z0 E16.1
  have pr17 : ∀ t, Steps p.tables e below (T16.setTop (mkF m 4 #[.val (.long p1), .second, .val (.int p2), .val (.int p3), .val (.int p4), .val (.int p5), .val (.int p6), .unset, .unset, .unset, .unset, .unset, .unset, .unset, .unset, .unset, .unset, .unset, .unset, .unset, .unset, .unset, .unset] [(.ref pt)])) t → G t := fun t ks => pr15 t (st16 t ks)
  have pr18 : ∀ t, Steps p.tables e below (T16.setTop (mkF m 10 #[.val (.long p1), .second, .val (.int p2), .val (.int p3), .val (.int p4), .val (.int p5), .val (.int p6), .val (.ref pt), .unset, .unset, .unset, .unset, .unset, .unset, .unset, .unset, .unset, .unset, .unset, .unset, .unset, .unset, .unset] [(.long (1 : Int64)), (.int (0 : Int32)), (.ref pt)])) t → G t := fun t ks => pr17 t (by
      refine XS.astore X16.here hx rfl (hb hby at_4) rfl rfl (l' := #[.val (.long p1), .second, .val (.int p2), .val (.int p3), .val (.int p4), .val (.int p5), .val (.int p6), .val (.ref pt), .unset, .unset, .unset, .unset, .unset, .unset, .unset, .unset, .unset, .unset, .unset, .unset, .unset, .unset, .unset]) rfl ?_
      refine XS.aload X16.here hx rfl (hb hby at_6) rfl rfl ?_
      refine XS.iconst X16.here hx rfl (hb hby at_8) ?_
      refine XS.lconst X16.here hx rfl (hb hby at_9) ?_
      exact ks)
  obtain ⟨T19, h19, X19, e19, W19, V19, st19⟩ := la_stJ X16 hx hZ e16 V_pt (j := (0 : Int32)) 0 rfl (by decide) (Nat.le_of_ble_eq_true rfl) (g := (mkF m 10 #[.val (.long p1), .second, .val (.int p2), .val (.int p3), .val (.int p4), .val (.int p5), .val (.int p6), .val (.ref pt), .unset, .unset, .unset, .unset, .unset, .unset, .unset, .unset, .unset, .unset, .unset, .unset, .unset, .unset, .unset] [(.long (1 : Int64)), (.int (0 : Int32)), (.ref pt)])) rfl rfl (hb hby at_10)
  replace V_pt := V19
  have N19 := Fr.snoc X19 N0 g_pt
  have Z19 : n0 ≤ h19.size := Nat.le_trans Z16 (Keep.of_wr W19).1
  have pr20 : ∀ t, Steps p.tables e below (T19.setTop (mkF m 11 #[.val (.long p1), .second, .val (.int p2), .val (.int p3), .val (.int p4), .val (.int p5), .val (.int p6), .val (.ref pt), .unset, .unset, .unset, .unset, .unset, .unset, .unset, .unset, .unset, .unset, .unset, .unset, .unset, .unset, .unset] [])) t → G t := fun t ks => pr18 t (st19 t ks)
  have pr21 : ∀ t, Steps p.tables e below (T19.setTop (mkF m 17 #[.val (.long p1), .second, .val (.int p2), .val (.int p3), .val (.int p4), .val (.int p5), .val (.int p6), .val (.ref pt), .unset, .unset, .unset, .unset, .unset, .unset, .unset, .unset, .unset, .unset, .unset, .unset, .unset, .unset, .unset] [(.long (10 : Int64)), (.int (1 : Int32)), (.ref pt)])) t → G t := fun t ks => pr20 t (by
      refine XS.aload X19.here hx rfl (hb hby at_11) rfl rfl ?_
      refine XS.iconst X19.here hx rfl (hb hby at_13) ?_
      refine X19.ldc2Long hx hown (mvT hZ (hw _ (List.mem_of_getElem? (i := 1) rfl))) (g := (mkF m 14 #[.val (.long p1), .second, .val (.int p2), .val (.int p3), .val (.int p4), .val (.int p5), .val (.int p6), .val (.ref pt), .unset, .unset, .unset, .unset, .unset, .unset, .unset, .unset, .unset, .unset, .unset, .unset, .unset, .unset, .unset] [(.int (1 : Int32)), (.ref pt)])) rfl (hb hby at_14) _ ?_
      exact ks)
  obtain ⟨T22, h22, X22, e22, W22, V22, st22⟩ := la_stJ X19 hx hZ e19 V_pt (j := (1 : Int32)) 1 rfl (by decide) (Nat.le_of_ble_eq_true rfl) (g := (mkF m 17 #[.val (.long p1), .second, .val (.int p2), .val (.int p3), .val (.int p4), .val (.int p5), .val (.int p6), .val (.ref pt), .unset, .unset, .unset, .unset, .unset, .unset, .unset, .unset, .unset, .unset, .unset, .unset, .unset, .unset, .unset] [(.long (10 : Int64)), (.int (1 : Int32)), (.ref pt)])) rfl rfl (hb hby at_17)
  replace V_pt := V22
  have N22 := Fr.snoc X22 N19 g_pt
  have Z22 : n0 ≤ h22.size := Nat.le_trans Z19 (Keep.of_wr W22).1
  have pr23 : ∀ t, Steps p.tables e below (T22.setTop (mkF m 18 #[.val (.long p1), .second, .val (.int p2), .val (.int p3), .val (.int p4), .val (.int p5), .val (.int p6), .val (.ref pt), .unset, .unset, .unset, .unset, .unset, .unset, .unset, .unset, .unset, .unset, .unset, .unset, .unset, .unset, .unset] [])) t → G t := fun t ks => pr21 t (st22 t ks)
  have pr24 : ∀ t, Steps p.tables e below (T22.setTop (mkF m 24 #[.val (.long p1), .second, .val (.int p2), .val (.int p3), .val (.int p4), .val (.int p5), .val (.int p6), .val (.ref pt), .unset, .unset, .unset, .unset, .unset, .unset, .unset, .unset, .unset, .unset, .unset, .unset, .unset, .unset, .unset] [(.long (100 : Int64)), (.int (2 : Int32)), (.ref pt)])) t → G t := fun t ks => pr23 t (by
      refine XS.aload X22.here hx rfl (hb hby at_18) rfl rfl ?_
      refine XS.iconst X22.here hx rfl (hb hby at_20) ?_
      refine X22.ldc2Long hx hown (mvT hZ (hw _ (List.mem_of_getElem? (i := 2) rfl))) (g := (mkF m 21 #[.val (.long p1), .second, .val (.int p2), .val (.int p3), .val (.int p4), .val (.int p5), .val (.int p6), .val (.ref pt), .unset, .unset, .unset, .unset, .unset, .unset, .unset, .unset, .unset, .unset, .unset, .unset, .unset, .unset, .unset] [(.int (2 : Int32)), (.ref pt)])) rfl (hb hby at_21) _ ?_
      exact ks)
  obtain ⟨T25, h25, X25, e25, W25, V25, st25⟩ := la_stJ X22 hx hZ e22 V_pt (j := (2 : Int32)) 2 rfl (by decide) (Nat.le_of_ble_eq_true rfl) (g := (mkF m 24 #[.val (.long p1), .second, .val (.int p2), .val (.int p3), .val (.int p4), .val (.int p5), .val (.int p6), .val (.ref pt), .unset, .unset, .unset, .unset, .unset, .unset, .unset, .unset, .unset, .unset, .unset, .unset, .unset, .unset, .unset] [(.long (100 : Int64)), (.int (2 : Int32)), (.ref pt)])) rfl rfl (hb hby at_24)
  replace V_pt := V25
  have N25 := Fr.snoc X25 N22 g_pt
  have Z25 : n0 ≤ h25.size := Nat.le_trans Z22 (Keep.of_wr W25).1
  have pr26 : ∀ t, Steps p.tables e below (T25.setTop (mkF m 25 #[.val (.long p1), .second, .val (.int p2), .val (.int p3), .val (.int p4), .val (.int p5), .val (.int p6), .val (.ref pt), .unset, .unset, .unset, .unset, .unset, .unset, .unset, .unset, .unset, .unset, .unset, .unset, .unset, .unset, .unset] [])) t → G t := fun t ks => pr24 t (st25 t ks)
  have pr27 : ∀ t, Steps p.tables e below (T25.setTop (mkF m 31 #[.val (.long p1), .second, .val (.int p2), .val (.int p3), .val (.int p4), .val (.int p5), .val (.int p6), .val (.ref pt), .unset, .unset, .unset, .unset, .unset, .unset, .unset, .unset, .unset, .unset, .unset, .unset, .unset, .unset, .unset] [(.long (1000 : Int64)), (.int (3 : Int32)), (.ref pt)])) t → G t := fun t ks => pr26 t (by
      refine XS.aload X25.here hx rfl (hb hby at_25) rfl rfl ?_
      refine XS.iconst X25.here hx rfl (hb hby at_27) ?_
      refine X25.ldc2Long hx hown (mvT hZ (hw _ (List.mem_of_getElem? (i := 3) rfl))) (g := (mkF m 28 #[.val (.long p1), .second, .val (.int p2), .val (.int p3), .val (.int p4), .val (.int p5), .val (.int p6), .val (.ref pt), .unset, .unset, .unset, .unset, .unset, .unset, .unset, .unset, .unset, .unset, .unset, .unset, .unset, .unset, .unset] [(.int (3 : Int32)), (.ref pt)])) rfl (hb hby at_28) _ ?_
      exact ks)
  obtain ⟨T28, h28, X28, e28, W28, V28, st28⟩ := la_stJ X25 hx hZ e25 V_pt (j := (3 : Int32)) 3 rfl (by decide) (Nat.le_of_ble_eq_true rfl) (g := (mkF m 31 #[.val (.long p1), .second, .val (.int p2), .val (.int p3), .val (.int p4), .val (.int p5), .val (.int p6), .val (.ref pt), .unset, .unset, .unset, .unset, .unset, .unset, .unset, .unset, .unset, .unset, .unset, .unset, .unset, .unset, .unset] [(.long (1000 : Int64)), (.int (3 : Int32)), (.ref pt)])) rfl rfl (hb hby at_31)
  replace V_pt := V28
  have N28 := Fr.snoc X28 N25 g_pt
  have Z28 : n0 ≤ h28.size := Nat.le_trans Z25 (Keep.of_wr W28).1
  have pr29 : ∀ t, Steps p.tables e below (T28.setTop (mkF m 32 #[.val (.long p1), .second, .val (.int p2), .val (.int p3), .val (.int p4), .val (.int p5), .val (.int p6), .val (.ref pt), .unset, .unset, .unset, .unset, .unset, .unset, .unset, .unset, .unset, .unset, .unset, .unset, .unset, .unset, .unset] [])) t → G t := fun t ks => pr27 t (st28 t ks)
  have pr30 : ∀ t, Steps p.tables e below (T28.setTop (mkF m 38 #[.val (.long p1), .second, .val (.int p2), .val (.int p3), .val (.int p4), .val (.int p5), .val (.int p6), .val (.ref pt), .unset, .unset, .unset, .unset, .unset, .unset, .unset, .unset, .unset, .unset, .unset, .unset, .unset, .unset, .unset] [(.long (10000 : Int64)), (.int (4 : Int32)), (.ref pt)])) t → G t := fun t ks => pr29 t (by
      refine XS.aload X28.here hx rfl (hb hby at_32) rfl rfl ?_
      refine XS.iconst X28.here hx rfl (hb hby at_34) ?_
      refine X28.ldc2Long hx hown (mvT hZ (hw _ (List.mem_of_getElem? (i := 4) rfl))) (g := (mkF m 35 #[.val (.long p1), .second, .val (.int p2), .val (.int p3), .val (.int p4), .val (.int p5), .val (.int p6), .val (.ref pt), .unset, .unset, .unset, .unset, .unset, .unset, .unset, .unset, .unset, .unset, .unset, .unset, .unset, .unset, .unset] [(.int (4 : Int32)), (.ref pt)])) rfl (hb hby at_35) _ ?_
      exact ks)
  obtain ⟨T31, h31, X31, e31, W31, V31, st31⟩ := la_stJ X28 hx hZ e28 V_pt (j := (4 : Int32)) 4 rfl (by decide) (Nat.le_of_ble_eq_true rfl) (g := (mkF m 38 #[.val (.long p1), .second, .val (.int p2), .val (.int p3), .val (.int p4), .val (.int p5), .val (.int p6), .val (.ref pt), .unset, .unset, .unset, .unset, .unset, .unset, .unset, .unset, .unset, .unset, .unset, .unset, .unset, .unset, .unset] [(.long (10000 : Int64)), (.int (4 : Int32)), (.ref pt)])) rfl rfl (hb hby at_38)
  replace V_pt := V31
  have N31 := Fr.snoc X31 N28 g_pt
  have Z31 : n0 ≤ h31.size := Nat.le_trans Z28 (Keep.of_wr W31).1
  have pr32 : ∀ t, Steps p.tables e below (T31.setTop (mkF m 39 #[.val (.long p1), .second, .val (.int p2), .val (.int p3), .val (.int p4), .val (.int p5), .val (.int p6), .val (.ref pt), .unset, .unset, .unset, .unset, .unset, .unset, .unset, .unset, .unset, .unset, .unset, .unset, .unset, .unset, .unset] [])) t → G t := fun t ks => pr30 t (st31 t ks)
  have pr33 : ∀ t, Steps p.tables e below (T31.setTop (mkF m 45 #[.val (.long p1), .second, .val (.int p2), .val (.int p3), .val (.int p4), .val (.int p5), .val (.int p6), .val (.ref pt), .unset, .unset, .unset, .unset, .unset, .unset, .unset, .unset, .unset, .unset, .unset, .unset, .unset, .unset, .unset] [(.long (100000 : Int64)), (.int (5 : Int32)), (.ref pt)])) t → G t := fun t ks => pr32 t (by
      refine XS.aload X31.here hx rfl (hb hby at_39) rfl rfl ?_
      refine XS.iconst X31.here hx rfl (hb hby at_41) ?_
      refine X31.ldc2Long hx hown (mvT hZ (hw _ (List.mem_of_getElem? (i := 5) rfl))) (g := (mkF m 42 #[.val (.long p1), .second, .val (.int p2), .val (.int p3), .val (.int p4), .val (.int p5), .val (.int p6), .val (.ref pt), .unset, .unset, .unset, .unset, .unset, .unset, .unset, .unset, .unset, .unset, .unset, .unset, .unset, .unset, .unset] [(.int (5 : Int32)), (.ref pt)])) rfl (hb hby at_42) _ ?_
      exact ks)
  obtain ⟨T34, h34, X34, e34, W34, V34, st34⟩ := la_stJ X31 hx hZ e31 V_pt (j := (5 : Int32)) 5 rfl (by decide) (Nat.le_of_ble_eq_true rfl) (g := (mkF m 45 #[.val (.long p1), .second, .val (.int p2), .val (.int p3), .val (.int p4), .val (.int p5), .val (.int p6), .val (.ref pt), .unset, .unset, .unset, .unset, .unset, .unset, .unset, .unset, .unset, .unset, .unset, .unset, .unset, .unset, .unset] [(.long (100000 : Int64)), (.int (5 : Int32)), (.ref pt)])) rfl rfl (hb hby at_45)
  replace V_pt := V34
  have N34 := Fr.snoc X34 N31 g_pt
  have Z34 : n0 ≤ h34.size := Nat.le_trans Z31 (Keep.of_wr W34).1
  have pr35 : ∀ t, Steps p.tables e below (T34.setTop (mkF m 46 #[.val (.long p1), .second, .val (.int p2), .val (.int p3), .val (.int p4), .val (.int p5), .val (.int p6), .val (.ref pt), .unset, .unset, .unset, .unset, .unset, .unset, .unset, .unset, .unset, .unset, .unset, .unset, .unset, .unset, .unset] [])) t → G t := fun t ks => pr33 t (st34 t ks)
  have pr36 : ∀ t, Steps p.tables e below (T34.setTop (mkF m 53 #[.val (.long p1), .second, .val (.int p2), .val (.int p3), .val (.int p4), .val (.int p5), .val (.int p6), .val (.ref pt), .unset, .unset, .unset, .unset, .unset, .unset, .unset, .unset, .unset, .unset, .unset, .unset, .unset, .unset, .unset] [(.long (1000000 : Int64)), (.int (6 : Int32)), (.ref pt)])) t → G t := fun t ks => pr35 t (by
      refine XS.aload X34.here hx rfl (hb hby at_46) rfl rfl ?_
      refine XS.bipush X34.here hx rfl (hb hby at_48) ?_
      refine X34.ldc2Long hx hown (mvT hZ (hw _ (List.mem_of_getElem? (i := 6) rfl))) (g := (mkF m 50 #[.val (.long p1), .second, .val (.int p2), .val (.int p3), .val (.int p4), .val (.int p5), .val (.int p6), .val (.ref pt), .unset, .unset, .unset, .unset, .unset, .unset, .unset, .unset, .unset, .unset, .unset, .unset, .unset, .unset, .unset] [(.int (6 : Int32)), (.ref pt)])) rfl (hb hby at_50) _ ?_
      exact ks)
  obtain ⟨T37, h37, X37, e37, W37, V37, st37⟩ := la_stJ X34 hx hZ e34 V_pt (j := (6 : Int32)) 6 rfl (by decide) (Nat.le_of_ble_eq_true rfl) (g := (mkF m 53 #[.val (.long p1), .second, .val (.int p2), .val (.int p3), .val (.int p4), .val (.int p5), .val (.int p6), .val (.ref pt), .unset, .unset, .unset, .unset, .unset, .unset, .unset, .unset, .unset, .unset, .unset, .unset, .unset, .unset, .unset] [(.long (1000000 : Int64)), (.int (6 : Int32)), (.ref pt)])) rfl rfl (hb hby at_53)
  replace V_pt := V37
  have N37 := Fr.snoc X37 N34 g_pt
  have Z37 : n0 ≤ h37.size := Nat.le_trans Z34 (Keep.of_wr W37).1
  have pr38 : ∀ t, Steps p.tables e below (T37.setTop (mkF m 54 #[.val (.long p1), .second, .val (.int p2), .val (.int p3), .val (.int p4), .val (.int p5), .val (.int p6), .val (.ref pt), .unset, .unset, .unset, .unset, .unset, .unset, .unset, .unset, .unset, .unset, .unset, .unset, .unset, .unset, .unset] [])) t → G t := fun t ks => pr36 t (st37 t ks)
  have pr39 : ∀ t, Steps p.tables e below (T37.setTop (mkF m 61 #[.val (.long p1), .second, .val (.int p2), .val (.int p3), .val (.int p4), .val (.int p5), .val (.int p6), .val (.ref pt), .unset, .unset, .unset, .unset, .unset, .unset, .unset, .unset, .unset, .unset, .unset, .unset, .unset, .unset, .unset] [(.long (10000000 : Int64)), (.int (7 : Int32)), (.ref pt)])) t → G t := fun t ks => pr38 t (by
      refine XS.aload X37.here hx rfl (hb hby at_54) rfl rfl ?_
      refine XS.bipush X37.here hx rfl (hb hby at_56) ?_
      refine X37.ldc2Long hx hown (mvT hZ (hw _ (List.mem_of_getElem? (i := 7) rfl))) (g := (mkF m 58 #[.val (.long p1), .second, .val (.int p2), .val (.int p3), .val (.int p4), .val (.int p5), .val (.int p6), .val (.ref pt), .unset, .unset, .unset, .unset, .unset, .unset, .unset, .unset, .unset, .unset, .unset, .unset, .unset, .unset, .unset] [(.int (7 : Int32)), (.ref pt)])) rfl (hb hby at_58) _ ?_
      exact ks)
  obtain ⟨T40, h40, X40, e40, W40, V40, st40⟩ := la_stJ X37 hx hZ e37 V_pt (j := (7 : Int32)) 7 rfl (by decide) (Nat.le_of_ble_eq_true rfl) (g := (mkF m 61 #[.val (.long p1), .second, .val (.int p2), .val (.int p3), .val (.int p4), .val (.int p5), .val (.int p6), .val (.ref pt), .unset, .unset, .unset, .unset, .unset, .unset, .unset, .unset, .unset, .unset, .unset, .unset, .unset, .unset, .unset] [(.long (10000000 : Int64)), (.int (7 : Int32)), (.ref pt)])) rfl rfl (hb hby at_61)
  replace V_pt := V40
  have N40 := Fr.snoc X40 N37 g_pt
  have Z40 : n0 ≤ h40.size := Nat.le_trans Z37 (Keep.of_wr W40).1
  have pr41 : ∀ t, Steps p.tables e below (T40.setTop (mkF m 62 #[.val (.long p1), .second, .val (.int p2), .val (.int p3), .val (.int p4), .val (.int p5), .val (.int p6), .val (.ref pt), .unset, .unset, .unset, .unset, .unset, .unset, .unset, .unset, .unset, .unset, .unset, .unset, .unset, .unset, .unset] [])) t → G t := fun t ks => pr39 t (st40 t ks)
  have pr42 : ∀ t, Steps p.tables e below (T40.setTop (mkF m 69 #[.val (.long p1), .second, .val (.int p2), .val (.int p3), .val (.int p4), .val (.int p5), .val (.int p6), .val (.ref pt), .unset, .unset, .unset, .unset, .unset, .unset, .unset, .unset, .unset, .unset, .unset, .unset, .unset, .unset, .unset] [(.long (100000000 : Int64)), (.int (8 : Int32)), (.ref pt)])) t → G t := fun t ks => pr41 t (by
      refine XS.aload X40.here hx rfl (hb hby at_62) rfl rfl ?_
      refine XS.bipush X40.here hx rfl (hb hby at_64) ?_
      refine X40.ldc2Long hx hown (mvT hZ (hw _ (List.mem_of_getElem? (i := 8) rfl))) (g := (mkF m 66 #[.val (.long p1), .second, .val (.int p2), .val (.int p3), .val (.int p4), .val (.int p5), .val (.int p6), .val (.ref pt), .unset, .unset, .unset, .unset, .unset, .unset, .unset, .unset, .unset, .unset, .unset, .unset, .unset, .unset, .unset] [(.int (8 : Int32)), (.ref pt)])) rfl (hb hby at_66) _ ?_
      exact ks)
  obtain ⟨T43, h43, X43, e43, W43, V43, st43⟩ := la_stJ X40 hx hZ e40 V_pt (j := (8 : Int32)) 8 rfl (by decide) (Nat.le_of_ble_eq_true rfl) (g := (mkF m 69 #[.val (.long p1), .second, .val (.int p2), .val (.int p3), .val (.int p4), .val (.int p5), .val (.int p6), .val (.ref pt), .unset, .unset, .unset, .unset, .unset, .unset, .unset, .unset, .unset, .unset, .unset, .unset, .unset, .unset, .unset] [(.long (100000000 : Int64)), (.int (8 : Int32)), (.ref pt)])) rfl rfl (hb hby at_69)
  replace V_pt := V43
  have N43 := Fr.snoc X43 N40 g_pt
  have Z43 : n0 ≤ h43.size := Nat.le_trans Z40 (Keep.of_wr W43).1
  have pr44 : ∀ t, Steps p.tables e below (T43.setTop (mkF m 70 #[.val (.long p1), .second, .val (.int p2), .val (.int p3), .val (.int p4), .val (.int p5), .val (.int p6), .val (.ref pt), .unset, .unset, .unset, .unset, .unset, .unset, .unset, .unset, .unset, .unset, .unset, .unset, .unset, .unset, .unset] [])) t → G t := fun t ks => pr42 t (st43 t ks)
  have pr45 : ∀ t, Steps p.tables e below (T43.setTop (mkF m 77 #[.val (.long p1), .second, .val (.int p2), .val (.int p3), .val (.int p4), .val (.int p5), .val (.int p6), .val (.ref pt), .unset, .unset, .unset, .unset, .unset, .unset, .unset, .unset, .unset, .unset, .unset, .unset, .unset, .unset, .unset] [(.long (1000000000 : Int64)), (.int (9 : Int32)), (.ref pt)])) t → G t := fun t ks => pr44 t (by
      refine XS.aload X43.here hx rfl (hb hby at_70) rfl rfl ?_
      refine XS.bipush X43.here hx rfl (hb hby at_72) ?_
      refine X43.ldc2Long hx hown (mvT hZ (hw _ (List.mem_of_getElem? (i := 9) rfl))) (g := (mkF m 74 #[.val (.long p1), .second, .val (.int p2), .val (.int p3), .val (.int p4), .val (.int p5), .val (.int p6), .val (.ref pt), .unset, .unset, .unset, .unset, .unset, .unset, .unset, .unset, .unset, .unset, .unset, .unset, .unset, .unset, .unset] [(.int (9 : Int32)), (.ref pt)])) rfl (hb hby at_74) _ ?_
      exact ks)
  obtain ⟨T46, h46, X46, e46, W46, V46, st46⟩ := la_stJ X43 hx hZ e43 V_pt (j := (9 : Int32)) 9 rfl (by decide) (Nat.le_of_ble_eq_true rfl) (g := (mkF m 77 #[.val (.long p1), .second, .val (.int p2), .val (.int p3), .val (.int p4), .val (.int p5), .val (.int p6), .val (.ref pt), .unset, .unset, .unset, .unset, .unset, .unset, .unset, .unset, .unset, .unset, .unset, .unset, .unset, .unset, .unset] [(.long (1000000000 : Int64)), (.int (9 : Int32)), (.ref pt)])) rfl rfl (hb hby at_77)
  replace V_pt := V46
  have N46 := Fr.snoc X46 N43 g_pt
  have Z46 : n0 ≤ h46.size := Nat.le_trans Z43 (Keep.of_wr W46).1
  have pr47 : ∀ t, Steps p.tables e below (T46.setTop (mkF m 78 #[.val (.long p1), .second, .val (.int p2), .val (.int p3), .val (.int p4), .val (.int p5), .val (.int p6), .val (.ref pt), .unset, .unset, .unset, .unset, .unset, .unset, .unset, .unset, .unset, .unset, .unset, .unset, .unset, .unset, .unset] [])) t → G t := fun t ks => pr45 t (st46 t ks)
  have pr48 : ∀ t, Steps p.tables e below (T46.setTop (mkF m 85 #[.val (.long p1), .second, .val (.int p2), .val (.int p3), .val (.int p4), .val (.int p5), .val (.int p6), .val (.ref pt), .unset, .unset, .unset, .unset, .unset, .unset, .unset, .unset, .unset, .unset, .unset, .unset, .unset, .unset, .unset] [(.long (10000000000 : Int64)), (.int (10 : Int32)), (.ref pt)])) t → G t := fun t ks => pr47 t (by
      refine XS.aload X46.here hx rfl (hb hby at_78) rfl rfl ?_
      refine XS.bipush X46.here hx rfl (hb hby at_80) ?_
      refine X46.ldc2Long hx hown (mvT hZ (hw _ (List.mem_of_getElem? (i := 10) rfl))) (g := (mkF m 82 #[.val (.long p1), .second, .val (.int p2), .val (.int p3), .val (.int p4), .val (.int p5), .val (.int p6), .val (.ref pt), .unset, .unset, .unset, .unset, .unset, .unset, .unset, .unset, .unset, .unset, .unset, .unset, .unset, .unset, .unset] [(.int (10 : Int32)), (.ref pt)])) rfl (hb hby at_82) _ ?_
      exact ks)
  obtain ⟨T49, h49, X49, e49, W49, V49, st49⟩ := la_stJ X46 hx hZ e46 V_pt (j := (10 : Int32)) 10 rfl (by decide) (Nat.le_of_ble_eq_true rfl) (g := (mkF m 85 #[.val (.long p1), .second, .val (.int p2), .val (.int p3), .val (.int p4), .val (.int p5), .val (.int p6), .val (.ref pt), .unset, .unset, .unset, .unset, .unset, .unset, .unset, .unset, .unset, .unset, .unset, .unset, .unset, .unset, .unset] [(.long (10000000000 : Int64)), (.int (10 : Int32)), (.ref pt)])) rfl rfl (hb hby at_85)
  replace V_pt := V49
  have N49 := Fr.snoc X49 N46 g_pt
  have Z49 : n0 ≤ h49.size := Nat.le_trans Z46 (Keep.of_wr W49).1
  have pr50 : ∀ t, Steps p.tables e below (T49.setTop (mkF m 86 #[.val (.long p1), .second, .val (.int p2), .val (.int p3), .val (.int p4), .val (.int p5), .val (.int p6), .val (.ref pt), .unset, .unset, .unset, .unset, .unset, .unset, .unset, .unset, .unset, .unset, .unset, .unset, .unset, .unset, .unset] [])) t → G t := fun t ks => pr48 t (st49 t ks)
  have pr51 : ∀ t, Steps p.tables e below (T49.setTop (mkF m 93 #[.val (.long p1), .second, .val (.int p2), .val (.int p3), .val (.int p4), .val (.int p5), .val (.int p6), .val (.ref pt), .unset, .unset, .unset, .unset, .unset, .unset, .unset, .unset, .unset, .unset, .unset, .unset, .unset, .unset, .unset] [(.long (100000000000 : Int64)), (.int (11 : Int32)), (.ref pt)])) t → G t := fun t ks => pr50 t (by
      refine XS.aload X49.here hx rfl (hb hby at_86) rfl rfl ?_
      refine XS.bipush X49.here hx rfl (hb hby at_88) ?_
      refine X49.ldc2Long hx hown (mvT hZ (hw _ (List.mem_of_getElem? (i := 11) rfl))) (g := (mkF m 90 #[.val (.long p1), .second, .val (.int p2), .val (.int p3), .val (.int p4), .val (.int p5), .val (.int p6), .val (.ref pt), .unset, .unset, .unset, .unset, .unset, .unset, .unset, .unset, .unset, .unset, .unset, .unset, .unset, .unset, .unset] [(.int (11 : Int32)), (.ref pt)])) rfl (hb hby at_90) _ ?_
      exact ks)
  obtain ⟨T52, h52, X52, e52, W52, V52, st52⟩ := la_stJ X49 hx hZ e49 V_pt (j := (11 : Int32)) 11 rfl (by decide) (Nat.le_of_ble_eq_true rfl) (g := (mkF m 93 #[.val (.long p1), .second, .val (.int p2), .val (.int p3), .val (.int p4), .val (.int p5), .val (.int p6), .val (.ref pt), .unset, .unset, .unset, .unset, .unset, .unset, .unset, .unset, .unset, .unset, .unset, .unset, .unset, .unset, .unset] [(.long (100000000000 : Int64)), (.int (11 : Int32)), (.ref pt)])) rfl rfl (hb hby at_93)
  replace V_pt := V52
  have N52 := Fr.snoc X52 N49 g_pt
  have Z52 : n0 ≤ h52.size := Nat.le_trans Z49 (Keep.of_wr W52).1
  have pr53 : ∀ t, Steps p.tables e below (T52.setTop (mkF m 94 #[.val (.long p1), .second, .val (.int p2), .val (.int p3), .val (.int p4), .val (.int p5), .val (.int p6), .val (.ref pt), .unset, .unset, .unset, .unset, .unset, .unset, .unset, .unset, .unset, .unset, .unset, .unset, .unset, .unset, .unset] [])) t → G t := fun t ks => pr51 t (st52 t ks)
  replace V_pt : LA Z h52 pt k16 12 [(1 : Int64), (10 : Int64), (100 : Int64), (1000 : Int64), (10000 : Int64), (100000 : Int64), (1000000 : Int64), (10000000 : Int64), (100000000 : Int64), (1000000000 : Int64), (10000000000 : Int64), (100000000000 : Int64)] := V_pt
  have pr54 : ∀ t, Steps p.tables e below (T52.setTop (mkF m 107 #[.val (.long p1), .second, .val (.int p2), .val (.int p3), .val (.int p4), .val (.int p5), .val (.int p6), .val (.ref pt), .val (.long ((p1 &&& (9223372036854775807 : Int64)) - ((p1 &&& (9223372036854775807 : Int64)) / (100000000000 : Int64)) * (100000000000 : Int64))), .second, .unset, .unset, .unset, .unset, .unset, .unset, .unset, .unset, .unset, .unset, .unset, .unset, .unset] [])) t → G t := fun t ks => pr53 t (by
      refine XS.lloadN X52.here hx rfl (hb hby at_94) rfl ?_
      refine X52.ldc2Long hx hown (mvT hZ (hw _ (List.mem_of_getElem? (i := 12) rfl))) (g := (mkF m 95 #[.val (.long p1), .second, .val (.int p2), .val (.int p3), .val (.int p4), .val (.int p5), .val (.int p6), .val (.ref pt), .unset, .unset, .unset, .unset, .unset, .unset, .unset, .unset, .unset, .unset, .unset, .unset, .unset, .unset, .unset] [(.long p1)])) rfl (hb hby at_95) _ ?_
      refine XS.land X52.here hx rfl (hb hby at_98) rfl ?_
      refine XS.aload X52.here hx rfl (hb hby at_99) rfl rfl ?_
      refine XS.bipush X52.here hx rfl (hb hby at_101) ?_
      refine la_ldJ X52 hx hZ e52 V_pt (j := (11 : Int32)) 11 rfl (by decide) (Nat.le_of_ble_eq_true rfl) (w := (100000000000 : Int64)) rfl (g := (mkF m 103 #[.val (.long p1), .second, .val (.int p2), .val (.int p3), .val (.int p4), .val (.int p5), .val (.int p6), .val (.ref pt), .unset, .unset, .unset, .unset, .unset, .unset, .unset, .unset, .unset, .unset, .unset, .unset, .unset, .unset, .unset] [(.int (11 : Int32)), (.ref pt), (.long (p1 &&& (9223372036854775807 : Int64)))])) rfl rfl (hb hby at_103) _ ?_
      refine XS.lrem X52.here hx rfl (hb hby at_104) rfl (by decide) ?_
      refine XS.lstore X52.here hx rfl (hb hby at_105) rfl (l' := #[.val (.long p1), .second, .val (.int p2), .val (.int p3), .val (.int p4), .val (.int p5), .val (.int p6), .val (.ref pt), .val (.long ((p1 &&& (9223372036854775807 : Int64)) - ((p1 &&& (9223372036854775807 : Int64)) / (100000000000 : Int64)) * (100000000000 : Int64))), .second, .unset, .unset, .unset, .unset, .unset, .unset, .unset, .unset, .unset, .unset, .unset, .unset, .unset]) rfl ?_
      exact ks)
  obtain ⟨w0, hw0⟩ : ∃ z : Int64, z = ((p1 &&& (9223372036854775807 : Int64)) - ((p1 &&& (9223372036854775807 : Int64)) / (100000000000 : Int64)) * (100000000000 : Int64)) := ⟨_, rfl⟩
  rw [← hw0] at pr54
  obtain ⟨W, hW, ew⟩ := own_w0 p1 w0 hw0
  have pr55 : ∀ t, Steps p.tables e below (T52.setTop (mkF m 109 #[.val (.long p1), .second, .val (.int p2), .val (.int p3), .val (.int p4), .val (.int p5), .val (.int p6), .val (.ref pt), .val (.long w0), .second, .unset, .unset, .unset, .unset, .unset, .unset, .unset, .unset, .unset, .unset, .unset, .unset, .unset] [(.int (11 : Int32))])) t → G t := fun t ks => pr54 t (by
      refine XS.bipush X52.here hx rfl (hb hby at_107) ?_
      exact ks)
  obtain ⟨T56, h56, k56, X56, e56, E56, A56, st56⟩ := newP X52 hx hZ (hw _ (List.mem_of_getElem? (i := 13) rfl)) e52 (g := (mkF m 109 #[.val (.long p1), .second, .val (.int p2), .val (.int p3), .val (.int p4), .val (.int p5), .val (.int p6), .val (.ref pt), .val (.long w0), .second, .unset, .unset, .unset, .unset, .unset, .unset, .unset, .unset, .unset, .unset, .unset, .unset, .unset] [(.int (11 : Int32))])) rfl (hb hby at_109) rfl (by decide) (cap := 11) (by decide) (by decide) (by decide) (by decide)
  obtain ⟨bt, g56⟩ : ∃ z, z = h52.size := ⟨_, rfl⟩
  rw [← g56] at A56 st56
  have ne_pt_bt : pt ≠ bt := Nat.ne_of_lt (Nat.lt_of_lt_of_le V_pt.lt (Nat.le_of_eq g56.symm))
  have g_bt : n0 ≤ bt := Nat.le_trans Z52 (Nat.le_of_eq g56.symm)
  replace V_pt := V_pt.ext E56
  have V_bt : IA Z h56 bt k56 .byte (11 : Int32) (List.replicate 11 0) := IA.new A56 (by decide) rfl rfl
  replace V_bt : IA Z h56 bt k56 .byte (11 : Int32) [0, 0, 0, 0, 0, 0, 0, 0, 0, 0, 0] := V_bt
  have Z56 : n0 ≤ h56.size := Nat.le_trans Z52 E56.1
  have pr57 : ∀ t, Steps p.tables e below (T56.setTop (mkF m 111 #[.val (.long p1), .second, .val (.int p2), .val (.int p3), .val (.int p4), .val (.int p5), .val (.int p6), .val (.ref pt), .val (.long w0), .second, .unset, .unset, .unset, .unset, .unset, .unset, .unset, .unset, .unset, .unset, .unset, .unset, .unset] [(.ref bt)])) t → G t := fun t ks => pr55 t (st56 t ks)
  have pr58 : ∀ t, Steps p.tables e below (T56.setTop (mkF m 126 #[.val (.long p1), .second, .val (.int p2), .val (.int p3), .val (.int p4), .val (.int p5), .val (.int p6), .val (.ref pt), .val (.long w0), .second, .val (.ref bt), .unset, .unset, .unset, .unset, .unset, .unset, .unset, .unset, .unset, .unset, .unset, .unset] [(.long (10000000000 : Int64)), (.long w0), (.long (48 : Int64)), (.int (0 : Int32)), (.ref bt)])) t → G t := fun t ks => pr57 t (by
      refine XS.astore X56.here hx rfl (hb hby at_111) rfl rfl (l' := #[.val (.long p1), .second, .val (.int p2), .val (.int p3), .val (.int p4), .val (.int p5), .val (.int p6), .val (.ref pt), .val (.long w0), .second, .val (.ref bt), .unset, .unset, .unset, .unset, .unset, .unset, .unset, .unset, .unset, .unset, .unset, .unset]) rfl ?_
      refine XS.aload X56.here hx rfl (hb hby at_113) rfl rfl ?_
      refine XS.iconst X56.here hx rfl (hb hby at_115) ?_
      refine X56.ldc2Long hx hown (mvT hZ (hw _ (List.mem_of_getElem? (i := 14) rfl))) (g := (mkF m 116 #[.val (.long p1), .second, .val (.int p2), .val (.int p3), .val (.int p4), .val (.int p5), .val (.int p6), .val (.ref pt), .val (.long w0), .second, .val (.ref bt), .unset, .unset, .unset, .unset, .unset, .unset, .unset, .unset, .unset, .unset, .unset, .unset] [(.int (0 : Int32)), (.ref bt)])) rfl (hb hby at_116) _ ?_
      refine XS.lload X56.here hx rfl (hb hby at_119) rfl ?_
      refine XS.aload X56.here hx rfl (hb hby at_121) rfl rfl ?_
      refine XS.bipush X56.here hx rfl (hb hby at_123) ?_
      refine la_ldJ X56 hx hZ e56 V_pt (j := (10 : Int32)) 10 rfl (by decide) (Nat.le_of_ble_eq_true rfl) (w := (10000000000 : Int64)) rfl (g := (mkF m 125 #[.val (.long p1), .second, .val (.int p2), .val (.int p3), .val (.int p4), .val (.int p5), .val (.int p6), .val (.ref pt), .val (.long w0), .second, .val (.ref bt), .unset, .unset, .unset, .unset, .unset, .unset, .unset, .unset, .unset, .unset, .unset, .unset] [(.int (10 : Int32)), (.ref pt), (.long w0), (.long (48 : Int64)), (.int (0 : Int32)), (.ref bt)])) rfl rfl (hb hby at_125) _ ?_
      exact ks)
  obtain ⟨_, _, ⟨T59, L59, k59, n59⟩, -, X59, hP59, st59⟩ := Jvm.LawKit.callS X56 hx (y := (⟨"com/example/gneiss/gneiss/graph/EdgeListDecimalPinLaw", "digit", "(JJ)J"⟩ : MethodName)) hown (mvT hZ (hw _ (List.mem_of_getElem? (i := 15) rfl))) (mvT hZ (hw _ (List.mem_of_getElem? (i := 16) rfl))) (mvT hZ (hw _ (List.mem_of_getElem? (i := 17) rfl))) (mvT hZ (hw _ (List.mem_of_getElem? (i := 18) rfl))) (by decide) (backOf (W := 4) (rm1 l Z a0 hw [] w0 (10000000000 : Int64) h56 n0 Z56 (by decide)) hZ (hw _ (List.mem_of_getElem? (i := 18) rfl)) (hw _ (List.mem_of_getElem? (i := 17) rfl)) (by decide) (by decide)) (g := (mkF m 126 #[.val (.long p1), .second, .val (.int p2), .val (.int p3), .val (.int p4), .val (.int p5), .val (.int p6), .val (.ref pt), .val (.long w0), .second, .val (.ref bt), .unset, .unset, .unset, .unset, .unset, .unset, .unset, .unset, .unset, .unset, .unset, .unset] [(.long (10000000000 : Int64)), (.long w0), (.long (48 : Int64)), (.int (0 : Int32)), (.ref bt)])) rfl (by rw [hml]; rfl) (argsL := [(.long w0), (.long (10000000000 : Int64))]) (rest := [(.long (48 : Int64)), (.int (0 : Int32)), (.ref bt)]) (lenOf pd_0 rfl) rfl (by show 2 * 0 + _ ≤ _; exact Nat.le_of_eq rfl) (hb hby at_126) (fun _ _ => ⟨rfl, e56, (by decide : 2 + 0 ≤ _), (by decide : 23 + 0 ≤ _)⟩)
  obtain ⟨Lc59, hQ59, X59⟩ := own_out hP59 X59
  clear hP59
  dsimp only [Pt.U, Pt.locs, Pt.cells, Pt.slots] at X59 st59 hQ59
  obtain ⟨rfl, Nq59, eh59⟩ := hQ59
  have N59 := Fr.app N52 Nq59
  have pr60 : ∀ t, Steps p.tables e below (T59.setTop (mkF m 129 #[.val (.long p1), .second, .val (.int p2), .val (.int p3), .val (.int p4), .val (.int p5), .val (.int p6), .val (.ref pt), .val (.long w0), .second, .val (.ref bt), .unset, .unset, .unset, .unset, .unset, .unset, .unset, .unset, .unset, .unset, .unset, .unset] [(.long (own_digit w0 (10000000000 : Int64))), (.long (48 : Int64)), (.int (0 : Int32)), (.ref bt)])) t → G t := fun t ks => pr58 t (st59 t ks)
  have pr61 : ∀ t, Steps p.tables e below (T59.setTop (mkF m 132 #[.val (.long p1), .second, .val (.int p2), .val (.int p3), .val (.int p4), .val (.int p5), .val (.int p6), .val (.ref pt), .val (.long w0), .second, .val (.ref bt), .unset, .unset, .unset, .unset, .unset, .unset, .unset, .unset, .unset, .unset, .unset, .unset] [(.int ((((48 : Int64) + (own_digit w0 (10000000000 : Int64))).toInt32).toInt8.toInt32)), (.int (0 : Int32)), (.ref bt)])) t → G t := fun t ks => pr60 t (by
      refine XS.ladd X59.here hx rfl (hb hby at_129) rfl ?_
      refine XS.l2i X59.here hx rfl (hb hby at_130) rfl ?_
      refine XS.i2b X59.here hx rfl (hb hby at_131) rfl ?_
      exact ks)
  obtain ⟨b0, hb0⟩ : ∃ z : Int32, z = ((((48 : Int64) + (own_digit w0 (10000000000 : Int64))).toInt32).toInt8.toInt32) := ⟨_, rfl⟩
  rw [← hb0] at pr61
  have hv0 : b0 = Int32.ofNat (48 + W / 10 ^ (10 - 0) % 10) := own_bval hW ew (k := 10) (by decide) rfl hb0
  obtain ⟨T62, h62, X62, e62, W62, V62, st62⟩ := ia_stB X59 hx hZ eh59 V_bt (j := (0 : Int32)) 0 rfl (by decide) (Nat.le_of_ble_eq_true rfl) (y := b0) (by rw [hb0]; exact own_narB _) (g := (mkF m 132 #[.val (.long p1), .second, .val (.int p2), .val (.int p3), .val (.int p4), .val (.int p5), .val (.int p6), .val (.ref pt), .val (.long w0), .second, .val (.ref bt), .unset, .unset, .unset, .unset, .unset, .unset, .unset, .unset, .unset, .unset, .unset, .unset] [(.int b0), (.int (0 : Int32)), (.ref bt)])) rfl rfl (hb hby at_132)
  replace V_bt := V62
  replace V_pt := V_pt.other W62 ne_pt_bt
  have N62 := Fr.snoc X62 N59 g_bt
  have Z62 : n0 ≤ h62.size := Nat.le_trans Z56 (Keep.of_wr W62).1
  have pr63 : ∀ t, Steps p.tables e below (T62.setTop (mkF m 133 #[.val (.long p1), .second, .val (.int p2), .val (.int p3), .val (.int p4), .val (.int p5), .val (.int p6), .val (.ref pt), .val (.long w0), .second, .val (.ref bt), .unset, .unset, .unset, .unset, .unset, .unset, .unset, .unset, .unset, .unset, .unset, .unset] [])) t → G t := fun t ks => pr61 t (st62 t ks)
  have pr64 : ∀ t, Steps p.tables e below (T62.setTop (mkF m 146 #[.val (.long p1), .second, .val (.int p2), .val (.int p3), .val (.int p4), .val (.int p5), .val (.int p6), .val (.ref pt), .val (.long w0), .second, .val (.ref bt), .unset, .unset, .unset, .unset, .unset, .unset, .unset, .unset, .unset, .unset, .unset, .unset] [(.long (1000000000 : Int64)), (.long w0), (.long (48 : Int64)), (.int (1 : Int32)), (.ref bt)])) t → G t := fun t ks => pr63 t (by
      refine XS.aload X62.here hx rfl (hb hby at_133) rfl rfl ?_
      refine XS.iconst X62.here hx rfl (hb hby at_135) ?_
      refine X62.ldc2Long hx hown (mvT hZ (hw _ (List.mem_of_getElem? (i := 14) rfl))) (g := (mkF m 136 #[.val (.long p1), .second, .val (.int p2), .val (.int p3), .val (.int p4), .val (.int p5), .val (.int p6), .val (.ref pt), .val (.long w0), .second, .val (.ref bt), .unset, .unset, .unset, .unset, .unset, .unset, .unset, .unset, .unset, .unset, .unset, .unset] [(.int (1 : Int32)), (.ref bt)])) rfl (hb hby at_136) _ ?_
      refine XS.lload X62.here hx rfl (hb hby at_139) rfl ?_
      refine XS.aload X62.here hx rfl (hb hby at_141) rfl rfl ?_
      refine XS.bipush X62.here hx rfl (hb hby at_143) ?_
      refine la_ldJ X62 hx hZ e62 V_pt (j := (9 : Int32)) 9 rfl (by decide) (Nat.le_of_ble_eq_true rfl) (w := (1000000000 : Int64)) rfl (g := (mkF m 145 #[.val (.long p1), .second, .val (.int p2), .val (.int p3), .val (.int p4), .val (.int p5), .val (.int p6), .val (.ref pt), .val (.long w0), .second, .val (.ref bt), .unset, .unset, .unset, .unset, .unset, .unset, .unset, .unset, .unset, .unset, .unset, .unset] [(.int (9 : Int32)), (.ref pt), (.long w0), (.long (48 : Int64)), (.int (1 : Int32)), (.ref bt)])) rfl rfl (hb hby at_145) _ ?_
      exact ks)
  obtain ⟨_, _, ⟨T65, L65, k65, n65⟩, -, X65, hP65, st65⟩ := Jvm.LawKit.callS X62 hx (y := (⟨"com/example/gneiss/gneiss/graph/EdgeListDecimalPinLaw", "digit", "(JJ)J"⟩ : MethodName)) hown (mvT hZ (hw _ (List.mem_of_getElem? (i := 15) rfl))) (mvT hZ (hw _ (List.mem_of_getElem? (i := 16) rfl))) (mvT hZ (hw _ (List.mem_of_getElem? (i := 17) rfl))) (mvT hZ (hw _ (List.mem_of_getElem? (i := 18) rfl))) (by decide) (backOf (W := 4) (rm1 l Z a0 hw [] w0 (1000000000 : Int64) h62 n0 Z62 (by decide)) hZ (hw _ (List.mem_of_getElem? (i := 18) rfl)) (hw _ (List.mem_of_getElem? (i := 17) rfl)) (by decide) (by decide)) (g := (mkF m 146 #[.val (.long p1), .second, .val (.int p2), .val (.int p3), .val (.int p4), .val (.int p5), .val (.int p6), .val (.ref pt), .val (.long w0), .second, .val (.ref bt), .unset, .unset, .unset, .unset, .unset, .unset, .unset, .unset, .unset, .unset, .unset, .unset] [(.long (1000000000 : Int64)), (.long w0), (.long (48 : Int64)), (.int (1 : Int32)), (.ref bt)])) rfl (by rw [hml]; rfl) (argsL := [(.long w0), (.long (1000000000 : Int64))]) (rest := [(.long (48 : Int64)), (.int (1 : Int32)), (.ref bt)]) (lenOf pd_0 rfl) rfl (by show 2 * 0 + _ ≤ _; exact Nat.le_of_eq rfl) (hb hby at_146) (fun _ _ => ⟨rfl, e62, (by decide : 2 + 0 ≤ _), (by decide : 23 + 0 ≤ _)⟩)
  obtain ⟨Lc65, hQ65, X65⟩ := own_out hP65 X65
  clear hP65
  dsimp only [Pt.U, Pt.locs, Pt.cells, Pt.slots] at X65 st65 hQ65
  obtain ⟨rfl, Nq65, eh65⟩ := hQ65
  have N65 := Fr.app N62 Nq65
  have pr66 : ∀ t, Steps p.tables e below (T65.setTop (mkF m 149 #[.val (.long p1), .second, .val (.int p2), .val (.int p3), .val (.int p4), .val (.int p5), .val (.int p6), .val (.ref pt), .val (.long w0), .second, .val (.ref bt), .unset, .unset, .unset, .unset, .unset, .unset, .unset, .unset, .unset, .unset, .unset, .unset] [(.long (own_digit w0 (1000000000 : Int64))), (.long (48 : Int64)), (.int (1 : Int32)), (.ref bt)])) t → G t := fun t ks => pr64 t (st65 t ks)
  have pr67 : ∀ t, Steps p.tables e below (T65.setTop (mkF m 152 #[.val (.long p1), .second, .val (.int p2), .val (.int p3), .val (.int p4), .val (.int p5), .val (.int p6), .val (.ref pt), .val (.long w0), .second, .val (.ref bt), .unset, .unset, .unset, .unset, .unset, .unset, .unset, .unset, .unset, .unset, .unset, .unset] [(.int ((((48 : Int64) + (own_digit w0 (1000000000 : Int64))).toInt32).toInt8.toInt32)), (.int (1 : Int32)), (.ref bt)])) t → G t := fun t ks => pr66 t (by
      refine XS.ladd X65.here hx rfl (hb hby at_149) rfl ?_
      refine XS.l2i X65.here hx rfl (hb hby at_150) rfl ?_
      refine XS.i2b X65.here hx rfl (hb hby at_151) rfl ?_
      exact ks)
  obtain ⟨b1, hb1⟩ : ∃ z : Int32, z = ((((48 : Int64) + (own_digit w0 (1000000000 : Int64))).toInt32).toInt8.toInt32) := ⟨_, rfl⟩
  rw [← hb1] at pr67
  have hv1 : b1 = Int32.ofNat (48 + W / 10 ^ (10 - 1) % 10) := own_bval hW ew (k := 9) (by decide) rfl hb1
  obtain ⟨T68, h68, X68, e68, W68, V68, st68⟩ := ia_stB X65 hx hZ eh65 V_bt (j := (1 : Int32)) 1 rfl (by decide) (Nat.le_of_ble_eq_true rfl) (y := b1) (by rw [hb1]; exact own_narB _) (g := (mkF m 152 #[.val (.long p1), .second, .val (.int p2), .val (.int p3), .val (.int p4), .val (.int p5), .val (.int p6), .val (.ref pt), .val (.long w0), .second, .val (.ref bt), .unset, .unset, .unset, .unset, .unset, .unset, .unset, .unset, .unset, .unset, .unset, .unset] [(.int b1), (.int (1 : Int32)), (.ref bt)])) rfl rfl (hb hby at_152)
  replace V_bt := V68
  replace V_pt := V_pt.other W68 ne_pt_bt
  have N68 := Fr.snoc X68 N65 g_bt
  have Z68 : n0 ≤ h68.size := Nat.le_trans Z62 (Keep.of_wr W68).1
  have pr69 : ∀ t, Steps p.tables e below (T68.setTop (mkF m 153 #[.val (.long p1), .second, .val (.int p2), .val (.int p3), .val (.int p4), .val (.int p5), .val (.int p6), .val (.ref pt), .val (.long w0), .second, .val (.ref bt), .unset, .unset, .unset, .unset, .unset, .unset, .unset, .unset, .unset, .unset, .unset, .unset] [])) t → G t := fun t ks => pr67 t (st68 t ks)
  have pr70 : ∀ t, Steps p.tables e below (T68.setTop (mkF m 166 #[.val (.long p1), .second, .val (.int p2), .val (.int p3), .val (.int p4), .val (.int p5), .val (.int p6), .val (.ref pt), .val (.long w0), .second, .val (.ref bt), .unset, .unset, .unset, .unset, .unset, .unset, .unset, .unset, .unset, .unset, .unset, .unset] [(.long (100000000 : Int64)), (.long w0), (.long (48 : Int64)), (.int (2 : Int32)), (.ref bt)])) t → G t := fun t ks => pr69 t (by
      refine XS.aload X68.here hx rfl (hb hby at_153) rfl rfl ?_
      refine XS.iconst X68.here hx rfl (hb hby at_155) ?_
      refine X68.ldc2Long hx hown (mvT hZ (hw _ (List.mem_of_getElem? (i := 14) rfl))) (g := (mkF m 156 #[.val (.long p1), .second, .val (.int p2), .val (.int p3), .val (.int p4), .val (.int p5), .val (.int p6), .val (.ref pt), .val (.long w0), .second, .val (.ref bt), .unset, .unset, .unset, .unset, .unset, .unset, .unset, .unset, .unset, .unset, .unset, .unset] [(.int (2 : Int32)), (.ref bt)])) rfl (hb hby at_156) _ ?_
      refine XS.lload X68.here hx rfl (hb hby at_159) rfl ?_
      refine XS.aload X68.here hx rfl (hb hby at_161) rfl rfl ?_
      refine XS.bipush X68.here hx rfl (hb hby at_163) ?_
      refine la_ldJ X68 hx hZ e68 V_pt (j := (8 : Int32)) 8 rfl (by decide) (Nat.le_of_ble_eq_true rfl) (w := (100000000 : Int64)) rfl (g := (mkF m 165 #[.val (.long p1), .second, .val (.int p2), .val (.int p3), .val (.int p4), .val (.int p5), .val (.int p6), .val (.ref pt), .val (.long w0), .second, .val (.ref bt), .unset, .unset, .unset, .unset, .unset, .unset, .unset, .unset, .unset, .unset, .unset, .unset] [(.int (8 : Int32)), (.ref pt), (.long w0), (.long (48 : Int64)), (.int (2 : Int32)), (.ref bt)])) rfl rfl (hb hby at_165) _ ?_
      exact ks)
  obtain ⟨_, _, ⟨T71, L71, k71, n71⟩, -, X71, hP71, st71⟩ := Jvm.LawKit.callS X68 hx (y := (⟨"com/example/gneiss/gneiss/graph/EdgeListDecimalPinLaw", "digit", "(JJ)J"⟩ : MethodName)) hown (mvT hZ (hw _ (List.mem_of_getElem? (i := 15) rfl))) (mvT hZ (hw _ (List.mem_of_getElem? (i := 16) rfl))) (mvT hZ (hw _ (List.mem_of_getElem? (i := 17) rfl))) (mvT hZ (hw _ (List.mem_of_getElem? (i := 18) rfl))) (by decide) (backOf (W := 4) (rm1 l Z a0 hw [] w0 (100000000 : Int64) h68 n0 Z68 (by decide)) hZ (hw _ (List.mem_of_getElem? (i := 18) rfl)) (hw _ (List.mem_of_getElem? (i := 17) rfl)) (by decide) (by decide)) (g := (mkF m 166 #[.val (.long p1), .second, .val (.int p2), .val (.int p3), .val (.int p4), .val (.int p5), .val (.int p6), .val (.ref pt), .val (.long w0), .second, .val (.ref bt), .unset, .unset, .unset, .unset, .unset, .unset, .unset, .unset, .unset, .unset, .unset, .unset] [(.long (100000000 : Int64)), (.long w0), (.long (48 : Int64)), (.int (2 : Int32)), (.ref bt)])) rfl (by rw [hml]; rfl) (argsL := [(.long w0), (.long (100000000 : Int64))]) (rest := [(.long (48 : Int64)), (.int (2 : Int32)), (.ref bt)]) (lenOf pd_0 rfl) rfl (by show 2 * 0 + _ ≤ _; exact Nat.le_of_eq rfl) (hb hby at_166) (fun _ _ => ⟨rfl, e68, (by decide : 2 + 0 ≤ _), (by decide : 23 + 0 ≤ _)⟩)
  obtain ⟨Lc71, hQ71, X71⟩ := own_out hP71 X71
  clear hP71
  dsimp only [Pt.U, Pt.locs, Pt.cells, Pt.slots] at X71 st71 hQ71
  obtain ⟨rfl, Nq71, eh71⟩ := hQ71
  have N71 := Fr.app N68 Nq71
  have pr72 : ∀ t, Steps p.tables e below (T71.setTop (mkF m 169 #[.val (.long p1), .second, .val (.int p2), .val (.int p3), .val (.int p4), .val (.int p5), .val (.int p6), .val (.ref pt), .val (.long w0), .second, .val (.ref bt), .unset, .unset, .unset, .unset, .unset, .unset, .unset, .unset, .unset, .unset, .unset, .unset] [(.long (own_digit w0 (100000000 : Int64))), (.long (48 : Int64)), (.int (2 : Int32)), (.ref bt)])) t → G t := fun t ks => pr70 t (st71 t ks)
  have pr73 : ∀ t, Steps p.tables e below (T71.setTop (mkF m 172 #[.val (.long p1), .second, .val (.int p2), .val (.int p3), .val (.int p4), .val (.int p5), .val (.int p6), .val (.ref pt), .val (.long w0), .second, .val (.ref bt), .unset, .unset, .unset, .unset, .unset, .unset, .unset, .unset, .unset, .unset, .unset, .unset] [(.int ((((48 : Int64) + (own_digit w0 (100000000 : Int64))).toInt32).toInt8.toInt32)), (.int (2 : Int32)), (.ref bt)])) t → G t := fun t ks => pr72 t (by
      refine XS.ladd X71.here hx rfl (hb hby at_169) rfl ?_
      refine XS.l2i X71.here hx rfl (hb hby at_170) rfl ?_
      refine XS.i2b X71.here hx rfl (hb hby at_171) rfl ?_
      exact ks)
  obtain ⟨b2, hb2⟩ : ∃ z : Int32, z = ((((48 : Int64) + (own_digit w0 (100000000 : Int64))).toInt32).toInt8.toInt32) := ⟨_, rfl⟩
  rw [← hb2] at pr73
  have hv2 : b2 = Int32.ofNat (48 + W / 10 ^ (10 - 2) % 10) := own_bval hW ew (k := 8) (by decide) rfl hb2
  obtain ⟨T74, h74, X74, e74, W74, V74, st74⟩ := ia_stB X71 hx hZ eh71 V_bt (j := (2 : Int32)) 2 rfl (by decide) (Nat.le_of_ble_eq_true rfl) (y := b2) (by rw [hb2]; exact own_narB _) (g := (mkF m 172 #[.val (.long p1), .second, .val (.int p2), .val (.int p3), .val (.int p4), .val (.int p5), .val (.int p6), .val (.ref pt), .val (.long w0), .second, .val (.ref bt), .unset, .unset, .unset, .unset, .unset, .unset, .unset, .unset, .unset, .unset, .unset, .unset] [(.int b2), (.int (2 : Int32)), (.ref bt)])) rfl rfl (hb hby at_172)
  replace V_bt := V74
  replace V_pt := V_pt.other W74 ne_pt_bt
  have N74 := Fr.snoc X74 N71 g_bt
  have Z74 : n0 ≤ h74.size := Nat.le_trans Z68 (Keep.of_wr W74).1
  have pr75 : ∀ t, Steps p.tables e below (T74.setTop (mkF m 173 #[.val (.long p1), .second, .val (.int p2), .val (.int p3), .val (.int p4), .val (.int p5), .val (.int p6), .val (.ref pt), .val (.long w0), .second, .val (.ref bt), .unset, .unset, .unset, .unset, .unset, .unset, .unset, .unset, .unset, .unset, .unset, .unset] [])) t → G t := fun t ks => pr73 t (st74 t ks)
  have pr76 : ∀ t, Steps p.tables e below (T74.setTop (mkF m 186 #[.val (.long p1), .second, .val (.int p2), .val (.int p3), .val (.int p4), .val (.int p5), .val (.int p6), .val (.ref pt), .val (.long w0), .second, .val (.ref bt), .unset, .unset, .unset, .unset, .unset, .unset, .unset, .unset, .unset, .unset, .unset, .unset] [(.long (10000000 : Int64)), (.long w0), (.long (48 : Int64)), (.int (3 : Int32)), (.ref bt)])) t → G t := fun t ks => pr75 t (by
      refine XS.aload X74.here hx rfl (hb hby at_173) rfl rfl ?_
      refine XS.iconst X74.here hx rfl (hb hby at_175) ?_
      refine X74.ldc2Long hx hown (mvT hZ (hw _ (List.mem_of_getElem? (i := 14) rfl))) (g := (mkF m 176 #[.val (.long p1), .second, .val (.int p2), .val (.int p3), .val (.int p4), .val (.int p5), .val (.int p6), .val (.ref pt), .val (.long w0), .second, .val (.ref bt), .unset, .unset, .unset, .unset, .unset, .unset, .unset, .unset, .unset, .unset, .unset, .unset] [(.int (3 : Int32)), (.ref bt)])) rfl (hb hby at_176) _ ?_
      refine XS.lload X74.here hx rfl (hb hby at_179) rfl ?_
      refine XS.aload X74.here hx rfl (hb hby at_181) rfl rfl ?_
      refine XS.bipush X74.here hx rfl (hb hby at_183) ?_
      refine la_ldJ X74 hx hZ e74 V_pt (j := (7 : Int32)) 7 rfl (by decide) (Nat.le_of_ble_eq_true rfl) (w := (10000000 : Int64)) rfl (g := (mkF m 185 #[.val (.long p1), .second, .val (.int p2), .val (.int p3), .val (.int p4), .val (.int p5), .val (.int p6), .val (.ref pt), .val (.long w0), .second, .val (.ref bt), .unset, .unset, .unset, .unset, .unset, .unset, .unset, .unset, .unset, .unset, .unset, .unset] [(.int (7 : Int32)), (.ref pt), (.long w0), (.long (48 : Int64)), (.int (3 : Int32)), (.ref bt)])) rfl rfl (hb hby at_185) _ ?_
      exact ks)
  obtain ⟨_, _, ⟨T77, L77, k77, n77⟩, -, X77, hP77, st77⟩ := Jvm.LawKit.callS X74 hx (y := (⟨"com/example/gneiss/gneiss/graph/EdgeListDecimalPinLaw", "digit", "(JJ)J"⟩ : MethodName)) hown (mvT hZ (hw _ (List.mem_of_getElem? (i := 15) rfl))) (mvT hZ (hw _ (List.mem_of_getElem? (i := 16) rfl))) (mvT hZ (hw _ (List.mem_of_getElem? (i := 17) rfl))) (mvT hZ (hw _ (List.mem_of_getElem? (i := 18) rfl))) (by decide) (backOf (W := 4) (rm1 l Z a0 hw [] w0 (10000000 : Int64) h74 n0 Z74 (by decide)) hZ (hw _ (List.mem_of_getElem? (i := 18) rfl)) (hw _ (List.mem_of_getElem? (i := 17) rfl)) (by decide) (by decide)) (g := (mkF m 186 #[.val (.long p1), .second, .val (.int p2), .val (.int p3), .val (.int p4), .val (.int p5), .val (.int p6), .val (.ref pt), .val (.long w0), .second, .val (.ref bt), .unset, .unset, .unset, .unset, .unset, .unset, .unset, .unset, .unset, .unset, .unset, .unset] [(.long (10000000 : Int64)), (.long w0), (.long (48 : Int64)), (.int (3 : Int32)), (.ref bt)])) rfl (by rw [hml]; rfl) (argsL := [(.long w0), (.long (10000000 : Int64))]) (rest := [(.long (48 : Int64)), (.int (3 : Int32)), (.ref bt)]) (lenOf pd_0 rfl) rfl (by show 2 * 0 + _ ≤ _; exact Nat.le_of_eq rfl) (hb hby at_186) (fun _ _ => ⟨rfl, e74, (by decide : 2 + 0 ≤ _), (by decide : 23 + 0 ≤ _)⟩)
  obtain ⟨Lc77, hQ77, X77⟩ := own_out hP77 X77
  clear hP77
  dsimp only [Pt.U, Pt.locs, Pt.cells, Pt.slots] at X77 st77 hQ77
  obtain ⟨rfl, Nq77, eh77⟩ := hQ77
  have N77 := Fr.app N74 Nq77
  have pr78 : ∀ t, Steps p.tables e below (T77.setTop (mkF m 189 #[.val (.long p1), .second, .val (.int p2), .val (.int p3), .val (.int p4), .val (.int p5), .val (.int p6), .val (.ref pt), .val (.long w0), .second, .val (.ref bt), .unset, .unset, .unset, .unset, .unset, .unset, .unset, .unset, .unset, .unset, .unset, .unset] [(.long (own_digit w0 (10000000 : Int64))), (.long (48 : Int64)), (.int (3 : Int32)), (.ref bt)])) t → G t := fun t ks => pr76 t (st77 t ks)
  have pr79 : ∀ t, Steps p.tables e below (T77.setTop (mkF m 192 #[.val (.long p1), .second, .val (.int p2), .val (.int p3), .val (.int p4), .val (.int p5), .val (.int p6), .val (.ref pt), .val (.long w0), .second, .val (.ref bt), .unset, .unset, .unset, .unset, .unset, .unset, .unset, .unset, .unset, .unset, .unset, .unset] [(.int ((((48 : Int64) + (own_digit w0 (10000000 : Int64))).toInt32).toInt8.toInt32)), (.int (3 : Int32)), (.ref bt)])) t → G t := fun t ks => pr78 t (by
      refine XS.ladd X77.here hx rfl (hb hby at_189) rfl ?_
      refine XS.l2i X77.here hx rfl (hb hby at_190) rfl ?_
      refine XS.i2b X77.here hx rfl (hb hby at_191) rfl ?_
      exact ks)
  obtain ⟨b3, hb3⟩ : ∃ z : Int32, z = ((((48 : Int64) + (own_digit w0 (10000000 : Int64))).toInt32).toInt8.toInt32) := ⟨_, rfl⟩
  rw [← hb3] at pr79
  have hv3 : b3 = Int32.ofNat (48 + W / 10 ^ (10 - 3) % 10) := own_bval hW ew (k := 7) (by decide) rfl hb3
  obtain ⟨T80, h80, X80, e80, W80, V80, st80⟩ := ia_stB X77 hx hZ eh77 V_bt (j := (3 : Int32)) 3 rfl (by decide) (Nat.le_of_ble_eq_true rfl) (y := b3) (by rw [hb3]; exact own_narB _) (g := (mkF m 192 #[.val (.long p1), .second, .val (.int p2), .val (.int p3), .val (.int p4), .val (.int p5), .val (.int p6), .val (.ref pt), .val (.long w0), .second, .val (.ref bt), .unset, .unset, .unset, .unset, .unset, .unset, .unset, .unset, .unset, .unset, .unset, .unset] [(.int b3), (.int (3 : Int32)), (.ref bt)])) rfl rfl (hb hby at_192)
  replace V_bt := V80
  replace V_pt := V_pt.other W80 ne_pt_bt
  have N80 := Fr.snoc X80 N77 g_bt
  have Z80 : n0 ≤ h80.size := Nat.le_trans Z74 (Keep.of_wr W80).1
  have pr81 : ∀ t, Steps p.tables e below (T80.setTop (mkF m 193 #[.val (.long p1), .second, .val (.int p2), .val (.int p3), .val (.int p4), .val (.int p5), .val (.int p6), .val (.ref pt), .val (.long w0), .second, .val (.ref bt), .unset, .unset, .unset, .unset, .unset, .unset, .unset, .unset, .unset, .unset, .unset, .unset] [])) t → G t := fun t ks => pr79 t (st80 t ks)
  have pr82 : ∀ t, Steps p.tables e below (T80.setTop (mkF m 206 #[.val (.long p1), .second, .val (.int p2), .val (.int p3), .val (.int p4), .val (.int p5), .val (.int p6), .val (.ref pt), .val (.long w0), .second, .val (.ref bt), .unset, .unset, .unset, .unset, .unset, .unset, .unset, .unset, .unset, .unset, .unset, .unset] [(.long (1000000 : Int64)), (.long w0), (.long (48 : Int64)), (.int (4 : Int32)), (.ref bt)])) t → G t := fun t ks => pr81 t (by
      refine XS.aload X80.here hx rfl (hb hby at_193) rfl rfl ?_
      refine XS.iconst X80.here hx rfl (hb hby at_195) ?_
      refine X80.ldc2Long hx hown (mvT hZ (hw _ (List.mem_of_getElem? (i := 14) rfl))) (g := (mkF m 196 #[.val (.long p1), .second, .val (.int p2), .val (.int p3), .val (.int p4), .val (.int p5), .val (.int p6), .val (.ref pt), .val (.long w0), .second, .val (.ref bt), .unset, .unset, .unset, .unset, .unset, .unset, .unset, .unset, .unset, .unset, .unset, .unset] [(.int (4 : Int32)), (.ref bt)])) rfl (hb hby at_196) _ ?_
      refine XS.lload X80.here hx rfl (hb hby at_199) rfl ?_
      refine XS.aload X80.here hx rfl (hb hby at_201) rfl rfl ?_
      refine XS.bipush X80.here hx rfl (hb hby at_203) ?_
      refine la_ldJ X80 hx hZ e80 V_pt (j := (6 : Int32)) 6 rfl (by decide) (Nat.le_of_ble_eq_true rfl) (w := (1000000 : Int64)) rfl (g := (mkF m 205 #[.val (.long p1), .second, .val (.int p2), .val (.int p3), .val (.int p4), .val (.int p5), .val (.int p6), .val (.ref pt), .val (.long w0), .second, .val (.ref bt), .unset, .unset, .unset, .unset, .unset, .unset, .unset, .unset, .unset, .unset, .unset, .unset] [(.int (6 : Int32)), (.ref pt), (.long w0), (.long (48 : Int64)), (.int (4 : Int32)), (.ref bt)])) rfl rfl (hb hby at_205) _ ?_
      exact ks)
  obtain ⟨_, _, ⟨T83, L83, k83, n83⟩, -, X83, hP83, st83⟩ := Jvm.LawKit.callS X80 hx (y := (⟨"com/example/gneiss/gneiss/graph/EdgeListDecimalPinLaw", "digit", "(JJ)J"⟩ : MethodName)) hown (mvT hZ (hw _ (List.mem_of_getElem? (i := 15) rfl))) (mvT hZ (hw _ (List.mem_of_getElem? (i := 16) rfl))) (mvT hZ (hw _ (List.mem_of_getElem? (i := 17) rfl))) (mvT hZ (hw _ (List.mem_of_getElem? (i := 18) rfl))) (by decide) (backOf (W := 4) (rm1 l Z a0 hw [] w0 (1000000 : Int64) h80 n0 Z80 (by decide)) hZ (hw _ (List.mem_of_getElem? (i := 18) rfl)) (hw _ (List.mem_of_getElem? (i := 17) rfl)) (by decide) (by decide)) (g := (mkF m 206 #[.val (.long p1), .second, .val (.int p2), .val (.int p3), .val (.int p4), .val (.int p5), .val (.int p6), .val (.ref pt), .val (.long w0), .second, .val (.ref bt), .unset, .unset, .unset, .unset, .unset, .unset, .unset, .unset, .unset, .unset, .unset, .unset] [(.long (1000000 : Int64)), (.long w0), (.long (48 : Int64)), (.int (4 : Int32)), (.ref bt)])) rfl (by rw [hml]; rfl) (argsL := [(.long w0), (.long (1000000 : Int64))]) (rest := [(.long (48 : Int64)), (.int (4 : Int32)), (.ref bt)]) (lenOf pd_0 rfl) rfl (by show 2 * 0 + _ ≤ _; exact Nat.le_of_eq rfl) (hb hby at_206) (fun _ _ => ⟨rfl, e80, (by decide : 2 + 0 ≤ _), (by decide : 23 + 0 ≤ _)⟩)
  obtain ⟨Lc83, hQ83, X83⟩ := own_out hP83 X83
  clear hP83
  dsimp only [Pt.U, Pt.locs, Pt.cells, Pt.slots] at X83 st83 hQ83
  obtain ⟨rfl, Nq83, eh83⟩ := hQ83
  have N83 := Fr.app N80 Nq83
  have pr84 : ∀ t, Steps p.tables e below (T83.setTop (mkF m 209 #[.val (.long p1), .second, .val (.int p2), .val (.int p3), .val (.int p4), .val (.int p5), .val (.int p6), .val (.ref pt), .val (.long w0), .second, .val (.ref bt), .unset, .unset, .unset, .unset, .unset, .unset, .unset, .unset, .unset, .unset, .unset, .unset] [(.long (own_digit w0 (1000000 : Int64))), (.long (48 : Int64)), (.int (4 : Int32)), (.ref bt)])) t → G t := fun t ks => pr82 t (st83 t ks)
  have pr85 : ∀ t, Steps p.tables e below (T83.setTop (mkF m 212 #[.val (.long p1), .second, .val (.int p2), .val (.int p3), .val (.int p4), .val (.int p5), .val (.int p6), .val (.ref pt), .val (.long w0), .second, .val (.ref bt), .unset, .unset, .unset, .unset, .unset, .unset, .unset, .unset, .unset, .unset, .unset, .unset] [(.int ((((48 : Int64) + (own_digit w0 (1000000 : Int64))).toInt32).toInt8.toInt32)), (.int (4 : Int32)), (.ref bt)])) t → G t := fun t ks => pr84 t (by
      refine XS.ladd X83.here hx rfl (hb hby at_209) rfl ?_
      refine XS.l2i X83.here hx rfl (hb hby at_210) rfl ?_
      refine XS.i2b X83.here hx rfl (hb hby at_211) rfl ?_
      exact ks)
  obtain ⟨b4, hb4⟩ : ∃ z : Int32, z = ((((48 : Int64) + (own_digit w0 (1000000 : Int64))).toInt32).toInt8.toInt32) := ⟨_, rfl⟩
  rw [← hb4] at pr85
  have hv4 : b4 = Int32.ofNat (48 + W / 10 ^ (10 - 4) % 10) := own_bval hW ew (k := 6) (by decide) rfl hb4
  obtain ⟨T86, h86, X86, e86, W86, V86, st86⟩ := ia_stB X83 hx hZ eh83 V_bt (j := (4 : Int32)) 4 rfl (by decide) (Nat.le_of_ble_eq_true rfl) (y := b4) (by rw [hb4]; exact own_narB _) (g := (mkF m 212 #[.val (.long p1), .second, .val (.int p2), .val (.int p3), .val (.int p4), .val (.int p5), .val (.int p6), .val (.ref pt), .val (.long w0), .second, .val (.ref bt), .unset, .unset, .unset, .unset, .unset, .unset, .unset, .unset, .unset, .unset, .unset, .unset] [(.int b4), (.int (4 : Int32)), (.ref bt)])) rfl rfl (hb hby at_212)
  replace V_bt := V86
  replace V_pt := V_pt.other W86 ne_pt_bt
  have N86 := Fr.snoc X86 N83 g_bt
  have Z86 : n0 ≤ h86.size := Nat.le_trans Z80 (Keep.of_wr W86).1
  have pr87 : ∀ t, Steps p.tables e below (T86.setTop (mkF m 213 #[.val (.long p1), .second, .val (.int p2), .val (.int p3), .val (.int p4), .val (.int p5), .val (.int p6), .val (.ref pt), .val (.long w0), .second, .val (.ref bt), .unset, .unset, .unset, .unset, .unset, .unset, .unset, .unset, .unset, .unset, .unset, .unset] [])) t → G t := fun t ks => pr85 t (st86 t ks)
  have pr88 : ∀ t, Steps p.tables e below (T86.setTop (mkF m 225 #[.val (.long p1), .second, .val (.int p2), .val (.int p3), .val (.int p4), .val (.int p5), .val (.int p6), .val (.ref pt), .val (.long w0), .second, .val (.ref bt), .unset, .unset, .unset, .unset, .unset, .unset, .unset, .unset, .unset, .unset, .unset, .unset] [(.long (100000 : Int64)), (.long w0), (.long (48 : Int64)), (.int (5 : Int32)), (.ref bt)])) t → G t := fun t ks => pr87 t (by
      refine XS.aload X86.here hx rfl (hb hby at_213) rfl rfl ?_
      refine XS.iconst X86.here hx rfl (hb hby at_215) ?_
      refine X86.ldc2Long hx hown (mvT hZ (hw _ (List.mem_of_getElem? (i := 14) rfl))) (g := (mkF m 216 #[.val (.long p1), .second, .val (.int p2), .val (.int p3), .val (.int p4), .val (.int p5), .val (.int p6), .val (.ref pt), .val (.long w0), .second, .val (.ref bt), .unset, .unset, .unset, .unset, .unset, .unset, .unset, .unset, .unset, .unset, .unset, .unset] [(.int (5 : Int32)), (.ref bt)])) rfl (hb hby at_216) _ ?_
      refine XS.lload X86.here hx rfl (hb hby at_219) rfl ?_
      refine XS.aload X86.here hx rfl (hb hby at_221) rfl rfl ?_
      refine XS.iconst X86.here hx rfl (hb hby at_223) ?_
      refine la_ldJ X86 hx hZ e86 V_pt (j := (5 : Int32)) 5 rfl (by decide) (Nat.le_of_ble_eq_true rfl) (w := (100000 : Int64)) rfl (g := (mkF m 224 #[.val (.long p1), .second, .val (.int p2), .val (.int p3), .val (.int p4), .val (.int p5), .val (.int p6), .val (.ref pt), .val (.long w0), .second, .val (.ref bt), .unset, .unset, .unset, .unset, .unset, .unset, .unset, .unset, .unset, .unset, .unset, .unset] [(.int (5 : Int32)), (.ref pt), (.long w0), (.long (48 : Int64)), (.int (5 : Int32)), (.ref bt)])) rfl rfl (hb hby at_224) _ ?_
      exact ks)
  obtain ⟨_, _, ⟨T89, L89, k89, n89⟩, -, X89, hP89, st89⟩ := Jvm.LawKit.callS X86 hx (y := (⟨"com/example/gneiss/gneiss/graph/EdgeListDecimalPinLaw", "digit", "(JJ)J"⟩ : MethodName)) hown (mvT hZ (hw _ (List.mem_of_getElem? (i := 15) rfl))) (mvT hZ (hw _ (List.mem_of_getElem? (i := 16) rfl))) (mvT hZ (hw _ (List.mem_of_getElem? (i := 17) rfl))) (mvT hZ (hw _ (List.mem_of_getElem? (i := 18) rfl))) (by decide) (backOf (W := 4) (rm1 l Z a0 hw [] w0 (100000 : Int64) h86 n0 Z86 (by decide)) hZ (hw _ (List.mem_of_getElem? (i := 18) rfl)) (hw _ (List.mem_of_getElem? (i := 17) rfl)) (by decide) (by decide)) (g := (mkF m 225 #[.val (.long p1), .second, .val (.int p2), .val (.int p3), .val (.int p4), .val (.int p5), .val (.int p6), .val (.ref pt), .val (.long w0), .second, .val (.ref bt), .unset, .unset, .unset, .unset, .unset, .unset, .unset, .unset, .unset, .unset, .unset, .unset] [(.long (100000 : Int64)), (.long w0), (.long (48 : Int64)), (.int (5 : Int32)), (.ref bt)])) rfl (by rw [hml]; rfl) (argsL := [(.long w0), (.long (100000 : Int64))]) (rest := [(.long (48 : Int64)), (.int (5 : Int32)), (.ref bt)]) (lenOf pd_0 rfl) rfl (by show 2 * 0 + _ ≤ _; exact Nat.le_of_eq rfl) (hb hby at_225) (fun _ _ => ⟨rfl, e86, (by decide : 2 + 0 ≤ _), (by decide : 23 + 0 ≤ _)⟩)
  obtain ⟨Lc89, hQ89, X89⟩ := own_out hP89 X89
  clear hP89
  dsimp only [Pt.U, Pt.locs, Pt.cells, Pt.slots] at X89 st89 hQ89
  obtain ⟨rfl, Nq89, eh89⟩ := hQ89
  have N89 := Fr.app N86 Nq89
  have pr90 : ∀ t, Steps p.tables e below (T89.setTop (mkF m 228 #[.val (.long p1), .second, .val (.int p2), .val (.int p3), .val (.int p4), .val (.int p5), .val (.int p6), .val (.ref pt), .val (.long w0), .second, .val (.ref bt), .unset, .unset, .unset, .unset, .unset, .unset, .unset, .unset, .unset, .unset, .unset, .unset] [(.long (own_digit w0 (100000 : Int64))), (.long (48 : Int64)), (.int (5 : Int32)), (.ref bt)])) t → G t := fun t ks => pr88 t (st89 t ks)
  have pr91 : ∀ t, Steps p.tables e below (T89.setTop (mkF m 231 #[.val (.long p1), .second, .val (.int p2), .val (.int p3), .val (.int p4), .val (.int p5), .val (.int p6), .val (.ref pt), .val (.long w0), .second, .val (.ref bt), .unset, .unset, .unset, .unset, .unset, .unset, .unset, .unset, .unset, .unset, .unset, .unset] [(.int ((((48 : Int64) + (own_digit w0 (100000 : Int64))).toInt32).toInt8.toInt32)), (.int (5 : Int32)), (.ref bt)])) t → G t := fun t ks => pr90 t (by
      refine XS.ladd X89.here hx rfl (hb hby at_228) rfl ?_
      refine XS.l2i X89.here hx rfl (hb hby at_229) rfl ?_
      refine XS.i2b X89.here hx rfl (hb hby at_230) rfl ?_
      exact ks)
  obtain ⟨b5, hb5⟩ : ∃ z : Int32, z = ((((48 : Int64) + (own_digit w0 (100000 : Int64))).toInt32).toInt8.toInt32) := ⟨_, rfl⟩
  rw [← hb5] at pr91
  have hv5 : b5 = Int32.ofNat (48 + W / 10 ^ (10 - 5) % 10) := own_bval hW ew (k := 5) (by decide) rfl hb5
  obtain ⟨T92, h92, X92, e92, W92, V92, st92⟩ := ia_stB X89 hx hZ eh89 V_bt (j := (5 : Int32)) 5 rfl (by decide) (Nat.le_of_ble_eq_true rfl) (y := b5) (by rw [hb5]; exact own_narB _) (g := (mkF m 231 #[.val (.long p1), .second, .val (.int p2), .val (.int p3), .val (.int p4), .val (.int p5), .val (.int p6), .val (.ref pt), .val (.long w0), .second, .val (.ref bt), .unset, .unset, .unset, .unset, .unset, .unset, .unset, .unset, .unset, .unset, .unset, .unset] [(.int b5), (.int (5 : Int32)), (.ref bt)])) rfl rfl (hb hby at_231)
  replace V_bt := V92
  replace V_pt := V_pt.other W92 ne_pt_bt
  have N92 := Fr.snoc X92 N89 g_bt
  have Z92 : n0 ≤ h92.size := Nat.le_trans Z86 (Keep.of_wr W92).1
  have pr93 : ∀ t, Steps p.tables e below (T92.setTop (mkF m 232 #[.val (.long p1), .second, .val (.int p2), .val (.int p3), .val (.int p4), .val (.int p5), .val (.int p6), .val (.ref pt), .val (.long w0), .second, .val (.ref bt), .unset, .unset, .unset, .unset, .unset, .unset, .unset, .unset, .unset, .unset, .unset, .unset] [])) t → G t := fun t ks => pr91 t (st92 t ks)
  have pr94 : ∀ t, Steps p.tables e below (T92.setTop (mkF m 245 #[.val (.long p1), .second, .val (.int p2), .val (.int p3), .val (.int p4), .val (.int p5), .val (.int p6), .val (.ref pt), .val (.long w0), .second, .val (.ref bt), .unset, .unset, .unset, .unset, .unset, .unset, .unset, .unset, .unset, .unset, .unset, .unset] [(.long (10000 : Int64)), (.long w0), (.long (48 : Int64)), (.int (6 : Int32)), (.ref bt)])) t → G t := fun t ks => pr93 t (by
      refine XS.aload X92.here hx rfl (hb hby at_232) rfl rfl ?_
      refine XS.bipush X92.here hx rfl (hb hby at_234) ?_
      refine X92.ldc2Long hx hown (mvT hZ (hw _ (List.mem_of_getElem? (i := 14) rfl))) (g := (mkF m 236 #[.val (.long p1), .second, .val (.int p2), .val (.int p3), .val (.int p4), .val (.int p5), .val (.int p6), .val (.ref pt), .val (.long w0), .second, .val (.ref bt), .unset, .unset, .unset, .unset, .unset, .unset, .unset, .unset, .unset, .unset, .unset, .unset] [(.int (6 : Int32)), (.ref bt)])) rfl (hb hby at_236) _ ?_
      refine XS.lload X92.here hx rfl (hb hby at_239) rfl ?_
      refine XS.aload X92.here hx rfl (hb hby at_241) rfl rfl ?_
      refine XS.iconst X92.here hx rfl (hb hby at_243) ?_
      refine la_ldJ X92 hx hZ e92 V_pt (j := (4 : Int32)) 4 rfl (by decide) (Nat.le_of_ble_eq_true rfl) (w := (10000 : Int64)) rfl (g := (mkF m 244 #[.val (.long p1), .second, .val (.int p2), .val (.int p3), .val (.int p4), .val (.int p5), .val (.int p6), .val (.ref pt), .val (.long w0), .second, .val (.ref bt), .unset, .unset, .unset, .unset, .unset, .unset, .unset, .unset, .unset, .unset, .unset, .unset] [(.int (4 : Int32)), (.ref pt), (.long w0), (.long (48 : Int64)), (.int (6 : Int32)), (.ref bt)])) rfl rfl (hb hby at_244) _ ?_
      exact ks)
  obtain ⟨_, _, ⟨T95, L95, k95, n95⟩, -, X95, hP95, st95⟩ := Jvm.LawKit.callS X92 hx (y := (⟨"com/example/gneiss/gneiss/graph/EdgeListDecimalPinLaw", "digit", "(JJ)J"⟩ : MethodName)) hown (mvT hZ (hw _ (List.mem_of_getElem? (i := 15) rfl))) (mvT hZ (hw _ (List.mem_of_getElem? (i := 16) rfl))) (mvT hZ (hw _ (List.mem_of_getElem? (i := 17) rfl))) (mvT hZ (hw _ (List.mem_of_getElem? (i := 18) rfl))) (by decide) (backOf (W := 4) (rm1 l Z a0 hw [] w0 (10000 : Int64) h92 n0 Z92 (by decide)) hZ (hw _ (List.mem_of_getElem? (i := 18) rfl)) (hw _ (List.mem_of_getElem? (i := 17) rfl)) (by decide) (by decide)) (g := (mkF m 245 #[.val (.long p1), .second, .val (.int p2), .val (.int p3), .val (.int p4), .val (.int p5), .val (.int p6), .val (.ref pt), .val (.long w0), .second, .val (.ref bt), .unset, .unset, .unset, .unset, .unset, .unset, .unset, .unset, .unset, .unset, .unset, .unset] [(.long (10000 : Int64)), (.long w0), (.long (48 : Int64)), (.int (6 : Int32)), (.ref bt)])) rfl (by rw [hml]; rfl) (argsL := [(.long w0), (.long (10000 : Int64))]) (rest := [(.long (48 : Int64)), (.int (6 : Int32)), (.ref bt)]) (lenOf pd_0 rfl) rfl (by show 2 * 0 + _ ≤ _; exact Nat.le_of_eq rfl) (hb hby at_245) (fun _ _ => ⟨rfl, e92, (by decide : 2 + 0 ≤ _), (by decide : 23 + 0 ≤ _)⟩)
  obtain ⟨Lc95, hQ95, X95⟩ := own_out hP95 X95
  clear hP95
  dsimp only [Pt.U, Pt.locs, Pt.cells, Pt.slots] at X95 st95 hQ95
  obtain ⟨rfl, Nq95, eh95⟩ := hQ95
  have N95 := Fr.app N92 Nq95
  have pr96 : ∀ t, Steps p.tables e below (T95.setTop (mkF m 248 #[.val (.long p1), .second, .val (.int p2), .val (.int p3), .val (.int p4), .val (.int p5), .val (.int p6), .val (.ref pt), .val (.long w0), .second, .val (.ref bt), .unset, .unset, .unset, .unset, .unset, .unset, .unset, .unset, .unset, .unset, .unset, .unset] [(.long (own_digit w0 (10000 : Int64))), (.long (48 : Int64)), (.int (6 : Int32)), (.ref bt)])) t → G t := fun t ks => pr94 t (st95 t ks)
  have pr97 : ∀ t, Steps p.tables e below (T95.setTop (mkF m 251 #[.val (.long p1), .second, .val (.int p2), .val (.int p3), .val (.int p4), .val (.int p5), .val (.int p6), .val (.ref pt), .val (.long w0), .second, .val (.ref bt), .unset, .unset, .unset, .unset, .unset, .unset, .unset, .unset, .unset, .unset, .unset, .unset] [(.int ((((48 : Int64) + (own_digit w0 (10000 : Int64))).toInt32).toInt8.toInt32)), (.int (6 : Int32)), (.ref bt)])) t → G t := fun t ks => pr96 t (by
      refine XS.ladd X95.here hx rfl (hb hby at_248) rfl ?_
      refine XS.l2i X95.here hx rfl (hb hby at_249) rfl ?_
      refine XS.i2b X95.here hx rfl (hb hby at_250) rfl ?_
      exact ks)
  obtain ⟨b6, hb6⟩ : ∃ z : Int32, z = ((((48 : Int64) + (own_digit w0 (10000 : Int64))).toInt32).toInt8.toInt32) := ⟨_, rfl⟩
  rw [← hb6] at pr97
  have hv6 : b6 = Int32.ofNat (48 + W / 10 ^ (10 - 6) % 10) := own_bval hW ew (k := 4) (by decide) rfl hb6
  obtain ⟨T98, h98, X98, e98, W98, V98, st98⟩ := ia_stB X95 hx hZ eh95 V_bt (j := (6 : Int32)) 6 rfl (by decide) (Nat.le_of_ble_eq_true rfl) (y := b6) (by rw [hb6]; exact own_narB _) (g := (mkF m 251 #[.val (.long p1), .second, .val (.int p2), .val (.int p3), .val (.int p4), .val (.int p5), .val (.int p6), .val (.ref pt), .val (.long w0), .second, .val (.ref bt), .unset, .unset, .unset, .unset, .unset, .unset, .unset, .unset, .unset, .unset, .unset, .unset] [(.int b6), (.int (6 : Int32)), (.ref bt)])) rfl rfl (hb hby at_251)
  replace V_bt := V98
  replace V_pt := V_pt.other W98 ne_pt_bt
  have N98 := Fr.snoc X98 N95 g_bt
  have Z98 : n0 ≤ h98.size := Nat.le_trans Z92 (Keep.of_wr W98).1
  have pr99 : ∀ t, Steps p.tables e below (T98.setTop (mkF m 252 #[.val (.long p1), .second, .val (.int p2), .val (.int p3), .val (.int p4), .val (.int p5), .val (.int p6), .val (.ref pt), .val (.long w0), .second, .val (.ref bt), .unset, .unset, .unset, .unset, .unset, .unset, .unset, .unset, .unset, .unset, .unset, .unset] [])) t → G t := fun t ks => pr97 t (st98 t ks)
  have pr100 : ∀ t, Steps p.tables e below (T98.setTop (mkF m 265 #[.val (.long p1), .second, .val (.int p2), .val (.int p3), .val (.int p4), .val (.int p5), .val (.int p6), .val (.ref pt), .val (.long w0), .second, .val (.ref bt), .unset, .unset, .unset, .unset, .unset, .unset, .unset, .unset, .unset, .unset, .unset, .unset] [(.long (1000 : Int64)), (.long w0), (.long (48 : Int64)), (.int (7 : Int32)), (.ref bt)])) t → G t := fun t ks => pr99 t (by
      refine XS.aload X98.here hx rfl (hb hby at_252) rfl rfl ?_
      refine XS.bipush X98.here hx rfl (hb hby at_254) ?_
      refine X98.ldc2Long hx hown (mvT hZ (hw _ (List.mem_of_getElem? (i := 14) rfl))) (g := (mkF m 256 #[.val (.long p1), .second, .val (.int p2), .val (.int p3), .val (.int p4), .val (.int p5), .val (.int p6), .val (.ref pt), .val (.long w0), .second, .val (.ref bt), .unset, .unset, .unset, .unset, .unset, .unset, .unset, .unset, .unset, .unset, .unset, .unset] [(.int (7 : Int32)), (.ref bt)])) rfl (hb hby at_256) _ ?_
      refine XS.lload X98.here hx rfl (hb hby at_259) rfl ?_
      refine XS.aload X98.here hx rfl (hb hby at_261) rfl rfl ?_
      refine XS.iconst X98.here hx rfl (hb hby at_263) ?_
      refine la_ldJ X98 hx hZ e98 V_pt (j := (3 : Int32)) 3 rfl (by decide) (Nat.le_of_ble_eq_true rfl) (w := (1000 : Int64)) rfl (g := (mkF m 264 #[.val (.long p1), .second, .val (.int p2), .val (.int p3), .val (.int p4), .val (.int p5), .val (.int p6), .val (.ref pt), .val (.long w0), .second, .val (.ref bt), .unset, .unset, .unset, .unset, .unset, .unset, .unset, .unset, .unset, .unset, .unset, .unset] [(.int (3 : Int32)), (.ref pt), (.long w0), (.long (48 : Int64)), (.int (7 : Int32)), (.ref bt)])) rfl rfl (hb hby at_264) _ ?_
      exact ks)
  obtain ⟨_, _, ⟨T101, L101, k101, n101⟩, -, X101, hP101, st101⟩ := Jvm.LawKit.callS X98 hx (y := (⟨"com/example/gneiss/gneiss/graph/EdgeListDecimalPinLaw", "digit", "(JJ)J"⟩ : MethodName)) hown (mvT hZ (hw _ (List.mem_of_getElem? (i := 15) rfl))) (mvT hZ (hw _ (List.mem_of_getElem? (i := 16) rfl))) (mvT hZ (hw _ (List.mem_of_getElem? (i := 17) rfl))) (mvT hZ (hw _ (List.mem_of_getElem? (i := 18) rfl))) (by decide) (backOf (W := 4) (rm1 l Z a0 hw [] w0 (1000 : Int64) h98 n0 Z98 (by decide)) hZ (hw _ (List.mem_of_getElem? (i := 18) rfl)) (hw _ (List.mem_of_getElem? (i := 17) rfl)) (by decide) (by decide)) (g := (mkF m 265 #[.val (.long p1), .second, .val (.int p2), .val (.int p3), .val (.int p4), .val (.int p5), .val (.int p6), .val (.ref pt), .val (.long w0), .second, .val (.ref bt), .unset, .unset, .unset, .unset, .unset, .unset, .unset, .unset, .unset, .unset, .unset, .unset] [(.long (1000 : Int64)), (.long w0), (.long (48 : Int64)), (.int (7 : Int32)), (.ref bt)])) rfl (by rw [hml]; rfl) (argsL := [(.long w0), (.long (1000 : Int64))]) (rest := [(.long (48 : Int64)), (.int (7 : Int32)), (.ref bt)]) (lenOf pd_0 rfl) rfl (by show 2 * 0 + _ ≤ _; exact Nat.le_of_eq rfl) (hb hby at_265) (fun _ _ => ⟨rfl, e98, (by decide : 2 + 0 ≤ _), (by decide : 23 + 0 ≤ _)⟩)
  obtain ⟨Lc101, hQ101, X101⟩ := own_out hP101 X101
  clear hP101
  dsimp only [Pt.U, Pt.locs, Pt.cells, Pt.slots] at X101 st101 hQ101
  obtain ⟨rfl, Nq101, eh101⟩ := hQ101
  have N101 := Fr.app N98 Nq101
  have pr102 : ∀ t, Steps p.tables e below (T101.setTop (mkF m 268 #[.val (.long p1), .second, .val (.int p2), .val (.int p3), .val (.int p4), .val (.int p5), .val (.int p6), .val (.ref pt), .val (.long w0), .second, .val (.ref bt), .unset, .unset, .unset, .unset, .unset, .unset, .unset, .unset, .unset, .unset, .unset, .unset] [(.long (own_digit w0 (1000 : Int64))), (.long (48 : Int64)), (.int (7 : Int32)), (.ref bt)])) t → G t := fun t ks => pr100 t (st101 t ks)
  have pr103 : ∀ t, Steps p.tables e below (T101.setTop (mkF m 271 #[.val (.long p1), .second, .val (.int p2), .val (.int p3), .val (.int p4), .val (.int p5), .val (.int p6), .val (.ref pt), .val (.long w0), .second, .val (.ref bt), .unset, .unset, .unset, .unset, .unset, .unset, .unset, .unset, .unset, .unset, .unset, .unset] [(.int ((((48 : Int64) + (own_digit w0 (1000 : Int64))).toInt32).toInt8.toInt32)), (.int (7 : Int32)), (.ref bt)])) t → G t := fun t ks => pr102 t (by
      refine XS.ladd X101.here hx rfl (hb hby at_268) rfl ?_
      refine XS.l2i X101.here hx rfl (hb hby at_269) rfl ?_
      refine XS.i2b X101.here hx rfl (hb hby at_270) rfl ?_
      exact ks)
  obtain ⟨b7, hb7⟩ : ∃ z : Int32, z = ((((48 : Int64) + (own_digit w0 (1000 : Int64))).toInt32).toInt8.toInt32) := ⟨_, rfl⟩
  rw [← hb7] at pr103
  have hv7 : b7 = Int32.ofNat (48 + W / 10 ^ (10 - 7) % 10) := own_bval hW ew (k := 3) (by decide) rfl hb7
  obtain ⟨T104, h104, X104, e104, W104, V104, st104⟩ := ia_stB X101 hx hZ eh101 V_bt (j := (7 : Int32)) 7 rfl (by decide) (Nat.le_of_ble_eq_true rfl) (y := b7) (by rw [hb7]; exact own_narB _) (g := (mkF m 271 #[.val (.long p1), .second, .val (.int p2), .val (.int p3), .val (.int p4), .val (.int p5), .val (.int p6), .val (.ref pt), .val (.long w0), .second, .val (.ref bt), .unset, .unset, .unset, .unset, .unset, .unset, .unset, .unset, .unset, .unset, .unset, .unset] [(.int b7), (.int (7 : Int32)), (.ref bt)])) rfl rfl (hb hby at_271)
  replace V_bt := V104
  replace V_pt := V_pt.other W104 ne_pt_bt
  have N104 := Fr.snoc X104 N101 g_bt
  have Z104 : n0 ≤ h104.size := Nat.le_trans Z98 (Keep.of_wr W104).1
  have pr105 : ∀ t, Steps p.tables e below (T104.setTop (mkF m 272 #[.val (.long p1), .second, .val (.int p2), .val (.int p3), .val (.int p4), .val (.int p5), .val (.int p6), .val (.ref pt), .val (.long w0), .second, .val (.ref bt), .unset, .unset, .unset, .unset, .unset, .unset, .unset, .unset, .unset, .unset, .unset, .unset] [])) t → G t := fun t ks => pr103 t (st104 t ks)
  have pr106 : ∀ t, Steps p.tables e below (T104.setTop (mkF m 285 #[.val (.long p1), .second, .val (.int p2), .val (.int p3), .val (.int p4), .val (.int p5), .val (.int p6), .val (.ref pt), .val (.long w0), .second, .val (.ref bt), .unset, .unset, .unset, .unset, .unset, .unset, .unset, .unset, .unset, .unset, .unset, .unset] [(.long (100 : Int64)), (.long w0), (.long (48 : Int64)), (.int (8 : Int32)), (.ref bt)])) t → G t := fun t ks => pr105 t (by
      refine XS.aload X104.here hx rfl (hb hby at_272) rfl rfl ?_
      refine XS.bipush X104.here hx rfl (hb hby at_274) ?_
      refine X104.ldc2Long hx hown (mvT hZ (hw _ (List.mem_of_getElem? (i := 14) rfl))) (g := (mkF m 276 #[.val (.long p1), .second, .val (.int p2), .val (.int p3), .val (.int p4), .val (.int p5), .val (.int p6), .val (.ref pt), .val (.long w0), .second, .val (.ref bt), .unset, .unset, .unset, .unset, .unset, .unset, .unset, .unset, .unset, .unset, .unset, .unset] [(.int (8 : Int32)), (.ref bt)])) rfl (hb hby at_276) _ ?_
      refine XS.lload X104.here hx rfl (hb hby at_279) rfl ?_
      refine XS.aload X104.here hx rfl (hb hby at_281) rfl rfl ?_
      refine XS.iconst X104.here hx rfl (hb hby at_283) ?_
      refine la_ldJ X104 hx hZ e104 V_pt (j := (2 : Int32)) 2 rfl (by decide) (Nat.le_of_ble_eq_true rfl) (w := (100 : Int64)) rfl (g := (mkF m 284 #[.val (.long p1), .second, .val (.int p2), .val (.int p3), .val (.int p4), .val (.int p5), .val (.int p6), .val (.ref pt), .val (.long w0), .second, .val (.ref bt), .unset, .unset, .unset, .unset, .unset, .unset, .unset, .unset, .unset, .unset, .unset, .unset] [(.int (2 : Int32)), (.ref pt), (.long w0), (.long (48 : Int64)), (.int (8 : Int32)), (.ref bt)])) rfl rfl (hb hby at_284) _ ?_
      exact ks)
  obtain ⟨_, _, ⟨T107, L107, k107, n107⟩, -, X107, hP107, st107⟩ := Jvm.LawKit.callS X104 hx (y := (⟨"com/example/gneiss/gneiss/graph/EdgeListDecimalPinLaw", "digit", "(JJ)J"⟩ : MethodName)) hown (mvT hZ (hw _ (List.mem_of_getElem? (i := 15) rfl))) (mvT hZ (hw _ (List.mem_of_getElem? (i := 16) rfl))) (mvT hZ (hw _ (List.mem_of_getElem? (i := 17) rfl))) (mvT hZ (hw _ (List.mem_of_getElem? (i := 18) rfl))) (by decide) (backOf (W := 4) (rm1 l Z a0 hw [] w0 (100 : Int64) h104 n0 Z104 (by decide)) hZ (hw _ (List.mem_of_getElem? (i := 18) rfl)) (hw _ (List.mem_of_getElem? (i := 17) rfl)) (by decide) (by decide)) (g := (mkF m 285 #[.val (.long p1), .second, .val (.int p2), .val (.int p3), .val (.int p4), .val (.int p5), .val (.int p6), .val (.ref pt), .val (.long w0), .second, .val (.ref bt), .unset, .unset, .unset, .unset, .unset, .unset, .unset, .unset, .unset, .unset, .unset, .unset] [(.long (100 : Int64)), (.long w0), (.long (48 : Int64)), (.int (8 : Int32)), (.ref bt)])) rfl (by rw [hml]; rfl) (argsL := [(.long w0), (.long (100 : Int64))]) (rest := [(.long (48 : Int64)), (.int (8 : Int32)), (.ref bt)]) (lenOf pd_0 rfl) rfl (by show 2 * 0 + _ ≤ _; exact Nat.le_of_eq rfl) (hb hby at_285) (fun _ _ => ⟨rfl, e104, (by decide : 2 + 0 ≤ _), (by decide : 23 + 0 ≤ _)⟩)
  obtain ⟨Lc107, hQ107, X107⟩ := own_out hP107 X107
  clear hP107
  dsimp only [Pt.U, Pt.locs, Pt.cells, Pt.slots] at X107 st107 hQ107
  obtain ⟨rfl, Nq107, eh107⟩ := hQ107
  have N107 := Fr.app N104 Nq107
  have pr108 : ∀ t, Steps p.tables e below (T107.setTop (mkF m 288 #[.val (.long p1), .second, .val (.int p2), .val (.int p3), .val (.int p4), .val (.int p5), .val (.int p6), .val (.ref pt), .val (.long w0), .second, .val (.ref bt), .unset, .unset, .unset, .unset, .unset, .unset, .unset, .unset, .unset, .unset, .unset, .unset] [(.long (own_digit w0 (100 : Int64))), (.long (48 : Int64)), (.int (8 : Int32)), (.ref bt)])) t → G t := fun t ks => pr106 t (st107 t ks)
  have pr109 : ∀ t, Steps p.tables e below (T107.setTop (mkF m 291 #[.val (.long p1), .second, .val (.int p2), .val (.int p3), .val (.int p4), .val (.int p5), .val (.int p6), .val (.ref pt), .val (.long w0), .second, .val (.ref bt), .unset, .unset, .unset, .unset, .unset, .unset, .unset, .unset, .unset, .unset, .unset, .unset] [(.int ((((48 : Int64) + (own_digit w0 (100 : Int64))).toInt32).toInt8.toInt32)), (.int (8 : Int32)), (.ref bt)])) t → G t := fun t ks => pr108 t (by
      refine XS.ladd X107.here hx rfl (hb hby at_288) rfl ?_
      refine XS.l2i X107.here hx rfl (hb hby at_289) rfl ?_
      refine XS.i2b X107.here hx rfl (hb hby at_290) rfl ?_
      exact ks)
  obtain ⟨b8, hb8⟩ : ∃ z : Int32, z = ((((48 : Int64) + (own_digit w0 (100 : Int64))).toInt32).toInt8.toInt32) := ⟨_, rfl⟩
  rw [← hb8] at pr109
  have hv8 : b8 = Int32.ofNat (48 + W / 10 ^ (10 - 8) % 10) := own_bval hW ew (k := 2) (by decide) rfl hb8
  obtain ⟨T110, h110, X110, e110, W110, V110, st110⟩ := ia_stB X107 hx hZ eh107 V_bt (j := (8 : Int32)) 8 rfl (by decide) (Nat.le_of_ble_eq_true rfl) (y := b8) (by rw [hb8]; exact own_narB _) (g := (mkF m 291 #[.val (.long p1), .second, .val (.int p2), .val (.int p3), .val (.int p4), .val (.int p5), .val (.int p6), .val (.ref pt), .val (.long w0), .second, .val (.ref bt), .unset, .unset, .unset, .unset, .unset, .unset, .unset, .unset, .unset, .unset, .unset, .unset] [(.int b8), (.int (8 : Int32)), (.ref bt)])) rfl rfl (hb hby at_291)
  replace V_bt := V110
  replace V_pt := V_pt.other W110 ne_pt_bt
  have N110 := Fr.snoc X110 N107 g_bt
  have Z110 : n0 ≤ h110.size := Nat.le_trans Z104 (Keep.of_wr W110).1
  have pr111 : ∀ t, Steps p.tables e below (T110.setTop (mkF m 292 #[.val (.long p1), .second, .val (.int p2), .val (.int p3), .val (.int p4), .val (.int p5), .val (.int p6), .val (.ref pt), .val (.long w0), .second, .val (.ref bt), .unset, .unset, .unset, .unset, .unset, .unset, .unset, .unset, .unset, .unset, .unset, .unset] [])) t → G t := fun t ks => pr109 t (st110 t ks)
  have pr112 : ∀ t, Steps p.tables e below (T110.setTop (mkF m 305 #[.val (.long p1), .second, .val (.int p2), .val (.int p3), .val (.int p4), .val (.int p5), .val (.int p6), .val (.ref pt), .val (.long w0), .second, .val (.ref bt), .unset, .unset, .unset, .unset, .unset, .unset, .unset, .unset, .unset, .unset, .unset, .unset] [(.long (10 : Int64)), (.long w0), (.long (48 : Int64)), (.int (9 : Int32)), (.ref bt)])) t → G t := fun t ks => pr111 t (by
      refine XS.aload X110.here hx rfl (hb hby at_292) rfl rfl ?_
      refine XS.bipush X110.here hx rfl (hb hby at_294) ?_
      refine X110.ldc2Long hx hown (mvT hZ (hw _ (List.mem_of_getElem? (i := 14) rfl))) (g := (mkF m 296 #[.val (.long p1), .second, .val (.int p2), .val (.int p3), .val (.int p4), .val (.int p5), .val (.int p6), .val (.ref pt), .val (.long w0), .second, .val (.ref bt), .unset, .unset, .unset, .unset, .unset, .unset, .unset, .unset, .unset, .unset, .unset, .unset] [(.int (9 : Int32)), (.ref bt)])) rfl (hb hby at_296) _ ?_
      refine XS.lload X110.here hx rfl (hb hby at_299) rfl ?_
      refine XS.aload X110.here hx rfl (hb hby at_301) rfl rfl ?_
      refine XS.iconst X110.here hx rfl (hb hby at_303) ?_
      refine la_ldJ X110 hx hZ e110 V_pt (j := (1 : Int32)) 1 rfl (by decide) (Nat.le_of_ble_eq_true rfl) (w := (10 : Int64)) rfl (g := (mkF m 304 #[.val (.long p1), .second, .val (.int p2), .val (.int p3), .val (.int p4), .val (.int p5), .val (.int p6), .val (.ref pt), .val (.long w0), .second, .val (.ref bt), .unset, .unset, .unset, .unset, .unset, .unset, .unset, .unset, .unset, .unset, .unset, .unset] [(.int (1 : Int32)), (.ref pt), (.long w0), (.long (48 : Int64)), (.int (9 : Int32)), (.ref bt)])) rfl rfl (hb hby at_304) _ ?_
      exact ks)
  obtain ⟨_, _, ⟨T113, L113, k113, n113⟩, -, X113, hP113, st113⟩ := Jvm.LawKit.callS X110 hx (y := (⟨"com/example/gneiss/gneiss/graph/EdgeListDecimalPinLaw", "digit", "(JJ)J"⟩ : MethodName)) hown (mvT hZ (hw _ (List.mem_of_getElem? (i := 15) rfl))) (mvT hZ (hw _ (List.mem_of_getElem? (i := 16) rfl))) (mvT hZ (hw _ (List.mem_of_getElem? (i := 17) rfl))) (mvT hZ (hw _ (List.mem_of_getElem? (i := 18) rfl))) (by decide) (backOf (W := 4) (rm1 l Z a0 hw [] w0 (10 : Int64) h110 n0 Z110 (by decide)) hZ (hw _ (List.mem_of_getElem? (i := 18) rfl)) (hw _ (List.mem_of_getElem? (i := 17) rfl)) (by decide) (by decide)) (g := (mkF m 305 #[.val (.long p1), .second, .val (.int p2), .val (.int p3), .val (.int p4), .val (.int p5), .val (.int p6), .val (.ref pt), .val (.long w0), .second, .val (.ref bt), .unset, .unset, .unset, .unset, .unset, .unset, .unset, .unset, .unset, .unset, .unset, .unset] [(.long (10 : Int64)), (.long w0), (.long (48 : Int64)), (.int (9 : Int32)), (.ref bt)])) rfl (by rw [hml]; rfl) (argsL := [(.long w0), (.long (10 : Int64))]) (rest := [(.long (48 : Int64)), (.int (9 : Int32)), (.ref bt)]) (lenOf pd_0 rfl) rfl (by show 2 * 0 + _ ≤ _; exact Nat.le_of_eq rfl) (hb hby at_305) (fun _ _ => ⟨rfl, e110, (by decide : 2 + 0 ≤ _), (by decide : 23 + 0 ≤ _)⟩)
  obtain ⟨Lc113, hQ113, X113⟩ := own_out hP113 X113
  clear hP113
  dsimp only [Pt.U, Pt.locs, Pt.cells, Pt.slots] at X113 st113 hQ113
  obtain ⟨rfl, Nq113, eh113⟩ := hQ113
  have N113 := Fr.app N110 Nq113
  have pr114 : ∀ t, Steps p.tables e below (T113.setTop (mkF m 308 #[.val (.long p1), .second, .val (.int p2), .val (.int p3), .val (.int p4), .val (.int p5), .val (.int p6), .val (.ref pt), .val (.long w0), .second, .val (.ref bt), .unset, .unset, .unset, .unset, .unset, .unset, .unset, .unset, .unset, .unset, .unset, .unset] [(.long (own_digit w0 (10 : Int64))), (.long (48 : Int64)), (.int (9 : Int32)), (.ref bt)])) t → G t := fun t ks => pr112 t (st113 t ks)
  have pr115 : ∀ t, Steps p.tables e below (T113.setTop (mkF m 311 #[.val (.long p1), .second, .val (.int p2), .val (.int p3), .val (.int p4), .val (.int p5), .val (.int p6), .val (.ref pt), .val (.long w0), .second, .val (.ref bt), .unset, .unset, .unset, .unset, .unset, .unset, .unset, .unset, .unset, .unset, .unset, .unset] [(.int ((((48 : Int64) + (own_digit w0 (10 : Int64))).toInt32).toInt8.toInt32)), (.int (9 : Int32)), (.ref bt)])) t → G t := fun t ks => pr114 t (by
      refine XS.ladd X113.here hx rfl (hb hby at_308) rfl ?_
      refine XS.l2i X113.here hx rfl (hb hby at_309) rfl ?_
      refine XS.i2b X113.here hx rfl (hb hby at_310) rfl ?_
      exact ks)
  obtain ⟨b9, hb9⟩ : ∃ z : Int32, z = ((((48 : Int64) + (own_digit w0 (10 : Int64))).toInt32).toInt8.toInt32) := ⟨_, rfl⟩
  rw [← hb9] at pr115
  have hv9 : b9 = Int32.ofNat (48 + W / 10 ^ (10 - 9) % 10) := own_bval hW ew (k := 1) (by decide) rfl hb9
  obtain ⟨T116, h116, X116, e116, W116, V116, st116⟩ := ia_stB X113 hx hZ eh113 V_bt (j := (9 : Int32)) 9 rfl (by decide) (Nat.le_of_ble_eq_true rfl) (y := b9) (by rw [hb9]; exact own_narB _) (g := (mkF m 311 #[.val (.long p1), .second, .val (.int p2), .val (.int p3), .val (.int p4), .val (.int p5), .val (.int p6), .val (.ref pt), .val (.long w0), .second, .val (.ref bt), .unset, .unset, .unset, .unset, .unset, .unset, .unset, .unset, .unset, .unset, .unset, .unset] [(.int b9), (.int (9 : Int32)), (.ref bt)])) rfl rfl (hb hby at_311)
  replace V_bt := V116
  replace V_pt := V_pt.other W116 ne_pt_bt
  have N116 := Fr.snoc X116 N113 g_bt
  have Z116 : n0 ≤ h116.size := Nat.le_trans Z110 (Keep.of_wr W116).1
  have pr117 : ∀ t, Steps p.tables e below (T116.setTop (mkF m 312 #[.val (.long p1), .second, .val (.int p2), .val (.int p3), .val (.int p4), .val (.int p5), .val (.int p6), .val (.ref pt), .val (.long w0), .second, .val (.ref bt), .unset, .unset, .unset, .unset, .unset, .unset, .unset, .unset, .unset, .unset, .unset, .unset] [])) t → G t := fun t ks => pr115 t (st116 t ks)
  have pr118 : ∀ t, Steps p.tables e below (T116.setTop (mkF m 325 #[.val (.long p1), .second, .val (.int p2), .val (.int p3), .val (.int p4), .val (.int p5), .val (.int p6), .val (.ref pt), .val (.long w0), .second, .val (.ref bt), .unset, .unset, .unset, .unset, .unset, .unset, .unset, .unset, .unset, .unset, .unset, .unset] [(.long (1 : Int64)), (.long w0), (.long (48 : Int64)), (.int (10 : Int32)), (.ref bt)])) t → G t := fun t ks => pr117 t (by
      refine XS.aload X116.here hx rfl (hb hby at_312) rfl rfl ?_
      refine XS.bipush X116.here hx rfl (hb hby at_314) ?_
      refine X116.ldc2Long hx hown (mvT hZ (hw _ (List.mem_of_getElem? (i := 14) rfl))) (g := (mkF m 316 #[.val (.long p1), .second, .val (.int p2), .val (.int p3), .val (.int p4), .val (.int p5), .val (.int p6), .val (.ref pt), .val (.long w0), .second, .val (.ref bt), .unset, .unset, .unset, .unset, .unset, .unset, .unset, .unset, .unset, .unset, .unset, .unset] [(.int (10 : Int32)), (.ref bt)])) rfl (hb hby at_316) _ ?_
      refine XS.lload X116.here hx rfl (hb hby at_319) rfl ?_
      refine XS.aload X116.here hx rfl (hb hby at_321) rfl rfl ?_
      refine XS.iconst X116.here hx rfl (hb hby at_323) ?_
      refine la_ldJ X116 hx hZ e116 V_pt (j := (0 : Int32)) 0 rfl (by decide) (Nat.le_of_ble_eq_true rfl) (w := (1 : Int64)) rfl (g := (mkF m 324 #[.val (.long p1), .second, .val (.int p2), .val (.int p3), .val (.int p4), .val (.int p5), .val (.int p6), .val (.ref pt), .val (.long w0), .second, .val (.ref bt), .unset, .unset, .unset, .unset, .unset, .unset, .unset, .unset, .unset, .unset, .unset, .unset] [(.int (0 : Int32)), (.ref pt), (.long w0), (.long (48 : Int64)), (.int (10 : Int32)), (.ref bt)])) rfl rfl (hb hby at_324) _ ?_
      exact ks)
  obtain ⟨_, _, ⟨T119, L119, k119, n119⟩, -, X119, hP119, st119⟩ := Jvm.LawKit.callS X116 hx (y := (⟨"com/example/gneiss/gneiss/graph/EdgeListDecimalPinLaw", "digit", "(JJ)J"⟩ : MethodName)) hown (mvT hZ (hw _ (List.mem_of_getElem? (i := 15) rfl))) (mvT hZ (hw _ (List.mem_of_getElem? (i := 16) rfl))) (mvT hZ (hw _ (List.mem_of_getElem? (i := 17) rfl))) (mvT hZ (hw _ (List.mem_of_getElem? (i := 18) rfl))) (by decide) (backOf (W := 4) (rm1 l Z a0 hw [] w0 (1 : Int64) h116 n0 Z116 (by decide)) hZ (hw _ (List.mem_of_getElem? (i := 18) rfl)) (hw _ (List.mem_of_getElem? (i := 17) rfl)) (by decide) (by decide)) (g := (mkF m 325 #[.val (.long p1), .second, .val (.int p2), .val (.int p3), .val (.int p4), .val (.int p5), .val (.int p6), .val (.ref pt), .val (.long w0), .second, .val (.ref bt), .unset, .unset, .unset, .unset, .unset, .unset, .unset, .unset, .unset, .unset, .unset, .unset] [(.long (1 : Int64)), (.long w0), (.long (48 : Int64)), (.int (10 : Int32)), (.ref bt)])) rfl (by rw [hml]; rfl) (argsL := [(.long w0), (.long (1 : Int64))]) (rest := [(.long (48 : Int64)), (.int (10 : Int32)), (.ref bt)]) (lenOf pd_0 rfl) rfl (by show 2 * 0 + _ ≤ _; exact Nat.le_of_eq rfl) (hb hby at_325) (fun _ _ => ⟨rfl, e116, (by decide : 2 + 0 ≤ _), (by decide : 23 + 0 ≤ _)⟩)
  obtain ⟨Lc119, hQ119, X119⟩ := own_out hP119 X119
  clear hP119
  dsimp only [Pt.U, Pt.locs, Pt.cells, Pt.slots] at X119 st119 hQ119
  obtain ⟨rfl, Nq119, eh119⟩ := hQ119
  have N119 := Fr.app N116 Nq119
  have pr120 : ∀ t, Steps p.tables e below (T119.setTop (mkF m 328 #[.val (.long p1), .second, .val (.int p2), .val (.int p3), .val (.int p4), .val (.int p5), .val (.int p6), .val (.ref pt), .val (.long w0), .second, .val (.ref bt), .unset, .unset, .unset, .unset, .unset, .unset, .unset, .unset, .unset, .unset, .unset, .unset] [(.long (own_digit w0 (1 : Int64))), (.long (48 : Int64)), (.int (10 : Int32)), (.ref bt)])) t → G t := fun t ks => pr118 t (st119 t ks)
  have pr121 : ∀ t, Steps p.tables e below (T119.setTop (mkF m 331 #[.val (.long p1), .second, .val (.int p2), .val (.int p3), .val (.int p4), .val (.int p5), .val (.int p6), .val (.ref pt), .val (.long w0), .second, .val (.ref bt), .unset, .unset, .unset, .unset, .unset, .unset, .unset, .unset, .unset, .unset, .unset, .unset] [(.int ((((48 : Int64) + (own_digit w0 (1 : Int64))).toInt32).toInt8.toInt32)), (.int (10 : Int32)), (.ref bt)])) t → G t := fun t ks => pr120 t (by
      refine XS.ladd X119.here hx rfl (hb hby at_328) rfl ?_
      refine XS.l2i X119.here hx rfl (hb hby at_329) rfl ?_
      refine XS.i2b X119.here hx rfl (hb hby at_330) rfl ?_
      exact ks)
  obtain ⟨b10, hb10⟩ : ∃ z : Int32, z = ((((48 : Int64) + (own_digit w0 (1 : Int64))).toInt32).toInt8.toInt32) := ⟨_, rfl⟩
  rw [← hb10] at pr121
  have hv10 : b10 = Int32.ofNat (48 + W / 10 ^ (10 - 10) % 10) := own_bval hW ew (k := 0) (by decide) rfl hb10
  obtain ⟨T122, h122, X122, e122, W122, V122, st122⟩ := ia_stB X119 hx hZ eh119 V_bt (j := (10 : Int32)) 10 rfl (by decide) (Nat.le_of_ble_eq_true rfl) (y := b10) (by rw [hb10]; exact own_narB _) (g := (mkF m 331 #[.val (.long p1), .second, .val (.int p2), .val (.int p3), .val (.int p4), .val (.int p5), .val (.int p6), .val (.ref pt), .val (.long w0), .second, .val (.ref bt), .unset, .unset, .unset, .unset, .unset, .unset, .unset, .unset, .unset, .unset, .unset, .unset] [(.int b10), (.int (10 : Int32)), (.ref bt)])) rfl rfl (hb hby at_331)
  replace V_bt := V122
  replace V_pt := V_pt.other W122 ne_pt_bt
  have N122 := Fr.snoc X122 N119 g_bt
  have Z122 : n0 ≤ h122.size := Nat.le_trans Z116 (Keep.of_wr W122).1
  have pr123 : ∀ t, Steps p.tables e below (T122.setTop (mkF m 332 #[.val (.long p1), .second, .val (.int p2), .val (.int p3), .val (.int p4), .val (.int p5), .val (.int p6), .val (.ref pt), .val (.long w0), .second, .val (.ref bt), .unset, .unset, .unset, .unset, .unset, .unset, .unset, .unset, .unset, .unset, .unset, .unset] [])) t → G t := fun t ks => pr121 t (st122 t ks)
  replace V_bt : IA Z h122 bt k56 .byte 11 [b0, b1, b2, b3, b4, b5, b6, b7, b8, b9, b10] := V_bt
  obtain ⟨vs, hvs⟩ : ∃ z : List Int32, z = [b0, b1, b2, b3, b4, b5, b6, b7, b8, b9, b10] := ⟨_, rfl⟩
  rw [← hvs] at V_bt
  have hvl : vs.length = 11 := by rw [hvs]; rfl
  have hvd : ∀ j, j < 11 → vs.getD j 0 = Int32.ofNat (48 + W / 10 ^ (10 - j) % 10) := by
    rw [hvs]; intro j hj
    match j, hj with
    | 0, _ => exact hv0
    | 1, _ => exact hv1
    | 2, _ => exact hv2
    | 3, _ => exact hv3
    | 4, _ => exact hv4
    | 5, _ => exact hv5
    | 6, _ => exact hv6
    | 7, _ => exact hv7
    | 8, _ => exact hv8
    | 9, _ => exact hv9
    | 10, _ => exact hv10
  have pr124 : ∀ t, Steps p.tables e below (T122.setTop (mkF m 341 #[.val (.long p1), .second, .val (.int p2), .val (.int p3), .val (.int p4), .val (.int p5), .val (.int p6), .val (.ref pt), .val (.long w0), .second, .val (.ref bt), .val (.int ((p2 &&& (2147483647 : Int32)) - ((p2 &&& (2147483647 : Int32)) / (12 : Int32)) * (12 : Int32))), .unset, .unset, .unset, .unset, .unset, .unset, .unset, .unset, .unset, .unset, .unset] [])) t → G t := fun t ks => pr123 t (by
      refine XS.iloadN X122.here hx rfl (hb hby at_332) rfl ?_
      refine X122.ldcInt hx hown (mvT hZ (hw _ (List.mem_of_getElem? (i := 19) rfl))) (g := (mkF m 333 #[.val (.long p1), .second, .val (.int p2), .val (.int p3), .val (.int p4), .val (.int p5), .val (.int p6), .val (.ref pt), .val (.long w0), .second, .val (.ref bt), .unset, .unset, .unset, .unset, .unset, .unset, .unset, .unset, .unset, .unset, .unset, .unset] [(.int p2)])) rfl (hb hby at_333) _ ?_
      refine XS.iand X122.here hx rfl (hb hby at_335) rfl ?_
      refine XS.bipush X122.here hx rfl (hb hby at_336) ?_
      refine XS.irem X122.here hx rfl (hb hby at_338) rfl (by decide) ?_
      refine XS.istore X122.here hx rfl (hb hby at_339) rfl (l' := #[.val (.long p1), .second, .val (.int p2), .val (.int p3), .val (.int p4), .val (.int p5), .val (.int p6), .val (.ref pt), .val (.long w0), .second, .val (.ref bt), .val (.int ((p2 &&& (2147483647 : Int32)) - ((p2 &&& (2147483647 : Int32)) / (12 : Int32)) * (12 : Int32))), .unset, .unset, .unset, .unset, .unset, .unset, .unset, .unset, .unset, .unset, .unset]) rfl ?_
      exact ks)
  obtain ⟨fr, hfr⟩ : ∃ z : Int32, z = ((p2 &&& (2147483647 : Int32)) - ((p2 &&& (2147483647 : Int32)) / (12 : Int32)) * (12 : Int32)) := ⟨_, rfl⟩
  rw [← hfr] at pr124
  obtain ⟨fa, hfa, efr⟩ := own_modN p2 12 fr (by decide) (by decide) hfr
  have hnz12 : ((12 : Int32) - fr) ≠ 0 := own_nz12 hfa efr
  have pr125 : ∀ t, Steps p.tables e below (T122.setTop (mkF m 356 #[.val (.long p1), .second, .val (.int p2), .val (.int p3), .val (.int p4), .val (.int p5), .val (.int p6), .val (.ref pt), .val (.long w0), .second, .val (.ref bt), .val (.int fr), .val (.int (fr + ((p3 &&& (2147483647 : Int32)) - ((p3 &&& (2147483647 : Int32)) / ((12 : Int32) - fr)) * ((12 : Int32) - fr)))), .unset, .unset, .unset, .unset, .unset, .unset, .unset, .unset, .unset, .unset] [])) t → G t := fun t ks => pr124 t (by
      refine XS.iload X122.here hx rfl (hb hby at_341) rfl ?_
      refine XS.iloadN X122.here hx rfl (hb hby at_343) rfl ?_
      refine X122.ldcInt hx hown (mvT hZ (hw _ (List.mem_of_getElem? (i := 19) rfl))) (g := (mkF m 344 #[.val (.long p1), .second, .val (.int p2), .val (.int p3), .val (.int p4), .val (.int p5), .val (.int p6), .val (.ref pt), .val (.long w0), .second, .val (.ref bt), .val (.int fr), .unset, .unset, .unset, .unset, .unset, .unset, .unset, .unset, .unset, .unset, .unset] [(.int p3), (.int fr)])) rfl (hb hby at_344) _ ?_
      refine XS.iand X122.here hx rfl (hb hby at_346) rfl ?_
      refine XS.bipush X122.here hx rfl (hb hby at_347) ?_
      refine XS.iload X122.here hx rfl (hb hby at_349) rfl ?_
      refine XS.isub X122.here hx rfl (hb hby at_351) rfl ?_
      refine XS.irem X122.here hx rfl (hb hby at_352) rfl hnz12 ?_
      refine XS.iadd X122.here hx rfl (hb hby at_353) rfl ?_
      refine XS.istore X122.here hx rfl (hb hby at_354) rfl (l' := #[.val (.long p1), .second, .val (.int p2), .val (.int p3), .val (.int p4), .val (.int p5), .val (.int p6), .val (.ref pt), .val (.long w0), .second, .val (.ref bt), .val (.int fr), .val (.int (fr + ((p3 &&& (2147483647 : Int32)) - ((p3 &&& (2147483647 : Int32)) / ((12 : Int32) - fr)) * ((12 : Int32) - fr)))), .unset, .unset, .unset, .unset, .unset, .unset, .unset, .unset, .unset, .unset]) rfl ?_
      exact ks)
  obtain ⟨to, hto⟩ : ∃ z : Int32, z = (fr + ((p3 &&& (2147483647 : Int32)) - ((p3 &&& (2147483647 : Int32)) / ((12 : Int32) - fr)) * ((12 : Int32) - fr))) := ⟨_, rfl⟩
  rw [← hto] at pr125
  obtain ⟨ta, hle, hta, eto⟩ := own_to p3 fr to hfa efr hto
  have pr126 : ∀ t, Steps p.tables e below (T122.setTop (mkF m 366 #[.val (.long p1), .second, .val (.int p2), .val (.int p3), .val (.int p4), .val (.int p5), .val (.int p6), .val (.ref pt), .val (.long w0), .second, .val (.ref bt), .val (.int fr), .val (.int to), .val (.int ((p4 &&& (2147483647 : Int32)) - ((p4 &&& (2147483647 : Int32)) / (11 : Int32)) * (11 : Int32))), .unset, .unset, .unset, .unset, .unset, .unset, .unset, .unset, .unset] [])) t → G t := fun t ks => pr125 t (by
      refine XS.iload X122.here hx rfl (hb hby at_356) rfl ?_
      refine X122.ldcInt hx hown (mvT hZ (hw _ (List.mem_of_getElem? (i := 19) rfl))) (g := (mkF m 358 #[.val (.long p1), .second, .val (.int p2), .val (.int p3), .val (.int p4), .val (.int p5), .val (.int p6), .val (.ref pt), .val (.long w0), .second, .val (.ref bt), .val (.int fr), .val (.int to), .unset, .unset, .unset, .unset, .unset, .unset, .unset, .unset, .unset, .unset] [(.int p4)])) rfl (hb hby at_358) _ ?_
      refine XS.iand X122.here hx rfl (hb hby at_360) rfl ?_
      refine XS.bipush X122.here hx rfl (hb hby at_361) ?_
      refine XS.irem X122.here hx rfl (hb hby at_363) rfl (by decide) ?_
      refine XS.istore X122.here hx rfl (hb hby at_364) rfl (l' := #[.val (.long p1), .second, .val (.int p2), .val (.int p3), .val (.int p4), .val (.int p5), .val (.int p6), .val (.ref pt), .val (.long w0), .second, .val (.ref bt), .val (.int fr), .val (.int to), .val (.int ((p4 &&& (2147483647 : Int32)) - ((p4 &&& (2147483647 : Int32)) / (11 : Int32)) * (11 : Int32))), .unset, .unset, .unset, .unset, .unset, .unset, .unset, .unset, .unset]) rfl ?_
      exact ks)
  obtain ⟨ps, hps⟩ : ∃ z : Int32, z = ((p4 &&& (2147483647 : Int32)) - ((p4 &&& (2147483647 : Int32)) / (11 : Int32)) * (11 : Int32)) := ⟨_, rfl⟩
  rw [← hps] at pr126
  obtain ⟨Q, hQ, eps⟩ := own_modN p4 11 ps (by decide) (by decide) hps
  have pr127 : ∀ t, Steps p.tables e below (T122.setTop (mkF m 371 #[.val (.long p1), .second, .val (.int p2), .val (.int p3), .val (.int p4), .val (.int p5), .val (.int p6), .val (.ref pt), .val (.long w0), .second, .val (.ref bt), .val (.int fr), .val (.int to), .val (.int ps), .val (.int (p5.toInt8.toInt32)), .unset, .unset, .unset, .unset, .unset, .unset, .unset, .unset] [])) t → G t := fun t ks => pr126 t (by
      refine XS.iload X122.here hx rfl (hb hby at_366) rfl ?_
      refine XS.i2b X122.here hx rfl (hb hby at_368) rfl ?_
      refine XS.istore X122.here hx rfl (hb hby at_369) rfl (l' := #[.val (.long p1), .second, .val (.int p2), .val (.int p3), .val (.int p4), .val (.int p5), .val (.int p6), .val (.ref pt), .val (.long w0), .second, .val (.ref bt), .val (.int fr), .val (.int to), .val (.int ps), .val (.int (p5.toInt8.toInt32)), .unset, .unset, .unset, .unset, .unset, .unset, .unset, .unset]) rfl ?_
      exact ks)
  obtain ⟨bb, hbb⟩ : ∃ z : Int32, z = (p5.toInt8.toInt32) := ⟨_, rfl⟩
  rw [← hbb] at pr127
  have pr128 : ∀ t, Steps p.tables e below (T122.setTop (mkF m 375 #[.val (.long p1), .second, .val (.int p2), .val (.int p3), .val (.int p4), .val (.int p5), .val (.int p6), .val (.ref pt), .val (.long w0), .second, .val (.ref bt), .val (.int fr), .val (.int to), .val (.int ps), .val (.int bb), .unset, .unset, .unset, .unset, .unset, .unset, .unset, .unset] [(.int (p6 &&& (1 : Int32)))])) t → G t := fun t ks => pr127 t (by
      refine XS.iload X122.here hx rfl (hb hby at_371) rfl ?_
      refine XS.iconst X122.here hx rfl (hb hby at_373) ?_
      refine XS.iand X122.here hx rfl (hb hby at_374) rfl ?_
      exact ks)
  obtain ⟨cr, hcr⟩ : ∃ z : Int32, z = (if (p6 &&& (1 : Int32)) = (0 : Int32) then (0 : Int32) else (1 : Int32)) := ⟨_, rfl⟩
  have pr130 : ∀ t, Steps p.tables e below (T122.setTop (mkF m 383 #[.val (.long p1), .second, .val (.int p2), .val (.int p3), .val (.int p4), .val (.int p5), .val (.int p6), .val (.ref pt), .val (.long w0), .second, .val (.ref bt), .val (.int fr), .val (.int to), .val (.int ps), .val (.int bb), .unset, .unset, .unset, .unset, .unset, .unset, .unset, .unset] [(.int cr)])) t → G t := by
    intro t ks
    refine pr128 t ?_
    by_cases c129 : (p6 &&& (1 : Int32)) = (0 : Int32)
    · refine XS.ifYes X122.here hx rfl (pc0 := 375) (pc' := 382) rfl (hb hby at_375) rfl ((if0 _ _).trans (teq c129).1) (by decide) (by decide) ?_
      refine XS.iconst X122.here hx rfl (hb hby at_382) ?_
      have ecr : cr = (0 : Int32) := by rw [hcr, if_pos c129]
      rw [ecr] at ks
      exact ks
    · refine XS.ifNo X122.here hx rfl (hb hby at_375) rfl ((if0 _ _).trans (feq c129).1) ?_
      refine XS.iconst X122.here hx rfl (hb hby at_378) ?_
      refine XS.goto X122.here hx rfl (pc0 := 379) (pc' := 383) rfl (hb hby at_379) (by decide) (by decide) ?_
      have ecr : cr = (1 : Int32) := by rw [hcr, if_neg c129]
      rw [ecr] at ks
      exact ks
  have pr131 : ∀ t, Steps p.tables e below (T122.setTop (mkF m 389 #[.val (.long p1), .second, .val (.int p2), .val (.int p3), .val (.int p4), .val (.int p5), .val (.int p6), .val (.ref pt), .val (.long w0), .second, .val (.ref bt), .val (.int fr), .val (.int to), .val (.int ps), .val (.int bb), .val (.int cr), .unset, .unset, .unset, .unset, .unset, .unset, .unset] [(.int (48 : Int32)), (.int bb)])) t → G t := fun t ks => pr130 t (by
      refine XS.istore X122.here hx rfl (hb hby at_383) rfl (l' := #[.val (.long p1), .second, .val (.int p2), .val (.int p3), .val (.int p4), .val (.int p5), .val (.int p6), .val (.ref pt), .val (.long w0), .second, .val (.ref bt), .val (.int fr), .val (.int to), .val (.int ps), .val (.int bb), .val (.int cr), .unset, .unset, .unset, .unset, .unset, .unset, .unset]) rfl ?_
      refine XS.iload X122.here hx rfl (hb hby at_385) rfl ?_
      refine XS.bipush X122.here hx rfl (hb hby at_387) ?_
      exact ks)
  obtain ⟨dg, hdg⟩ : ∃ z : Int32, z = (if bb < (48 : Int32) then (0 : Int32) else (if (57 : Int32) < bb then (0 : Int32) else (1 : Int32))) := ⟨_, rfl⟩
  have pr134 : ∀ t, Steps p.tables e below (T122.setTop (mkF m 404 #[.val (.long p1), .second, .val (.int p2), .val (.int p3), .val (.int p4), .val (.int p5), .val (.int p6), .val (.ref pt), .val (.long w0), .second, .val (.ref bt), .val (.int fr), .val (.int to), .val (.int ps), .val (.int bb), .val (.int cr), .unset, .unset, .unset, .unset, .unset, .unset, .unset] [(.int dg)])) t → G t := by
    intro t ks
    refine pr131 t ?_
    by_cases c132 : bb < (48 : Int32)
    · refine XS.icmpYes X122.here hx rfl (pc0 := 389) (pc' := 403) rfl (hb hby at_389) rfl (tlt c132).1 (by decide) (by decide) ?_
      refine XS.iconst X122.here hx rfl (hb hby at_403) ?_
      have edg : dg = (0 : Int32) := by rw [hdg, if_pos c132]
      rw [edg] at ks
      exact ks
    · refine XS.icmpNo X122.here hx rfl (hb hby at_389) rfl (flt c132).1 ?_
      refine XS.iload X122.here hx rfl (hb hby at_392) rfl ?_
      refine XS.bipush X122.here hx rfl (hb hby at_394) ?_
      by_cases c133 : (57 : Int32) < bb
      · refine XS.icmpYes X122.here hx rfl (pc0 := 396) (pc' := 403) rfl (hb hby at_396) rfl (tlt c133).2.2.1 (by decide) (by decide) ?_
        refine XS.iconst X122.here hx rfl (hb hby at_403) ?_
        have edg : dg = (0 : Int32) := by rw [hdg, if_neg c132, if_pos c133]
        rw [edg] at ks
        exact ks
      · refine XS.icmpNo X122.here hx rfl (hb hby at_396) rfl (flt c133).2.2.1 ?_
        refine XS.iconst X122.here hx rfl (hb hby at_399) ?_
        refine XS.goto X122.here hx rfl (pc0 := 400) (pc' := 404) rfl (hb hby at_400) (by decide) (by decide) ?_
        have edg : dg = (1 : Int32) := by rw [hdg, if_neg c132, if_neg c133]
        rw [edg] at ks
        exact ks
  have hD1 : (Int64.ofNat (10 ^ (11 - ta))) ≠ 0 := own_p10nz (by omega)
  have hD2 : (Int64.ofNat (10 ^ (ta - fa))) ≠ 0 := own_p10nz (by omega)
  have pr135 : ∀ t, Steps p.tables e below (T122.setTop (mkF m 412 #[.val (.long p1), .second, .val (.int p2), .val (.int p3), .val (.int p4), .val (.int p5), .val (.int p6), .val (.ref pt), .val (.long w0), .second, .val (.ref bt), .val (.int fr), .val (.int to), .val (.int ps), .val (.int bb), .val (.int cr), .val (.int dg), .val (.long w0), .second, .unset, .unset, .unset, .unset] [(.int cr)])) t → G t := fun t ks => pr134 t (by
      refine XS.istore X122.here hx rfl (hb hby at_404) rfl (l' := #[.val (.long p1), .second, .val (.int p2), .val (.int p3), .val (.int p4), .val (.int p5), .val (.int p6), .val (.ref pt), .val (.long w0), .second, .val (.ref bt), .val (.int fr), .val (.int to), .val (.int ps), .val (.int bb), .val (.int cr), .val (.int dg), .unset, .unset, .unset, .unset, .unset, .unset]) rfl ?_
      refine XS.lload X122.here hx rfl (hb hby at_406) rfl ?_
      refine XS.lstore X122.here hx rfl (hb hby at_408) rfl (l' := #[.val (.long p1), .second, .val (.int p2), .val (.int p3), .val (.int p4), .val (.int p5), .val (.int p6), .val (.ref pt), .val (.long w0), .second, .val (.ref bt), .val (.int fr), .val (.int to), .val (.int ps), .val (.int bb), .val (.int cr), .val (.int dg), .val (.long w0), .second, .unset, .unset, .unset, .unset]) rfl ?_
      refine XS.iload X122.here hx rfl (hb hby at_410) rfl ?_
      exact ks)
  by_cases hcr : cr = (0 : Int32)
  · have pr136 : ∀ t, Steps p.tables e below (T122.setTop (mkF m 465 #[.val (.long p1), .second, .val (.int p2), .val (.int p3), .val (.int p4), .val (.int p5), .val (.int p6), .val (.ref pt), .val (.long w0), .second, .val (.ref bt), .val (.int fr), .val (.int to), .val (.int ps), .val (.int bb), .val (.int cr), .val (.int dg), .val (.long w0), .second, .unset, .unset, .unset, .unset] [(.int to), (.int fr)])) t → G t := fun t ks => pr135 t (by
        refine XS.ifYes X122.here hx rfl (pc0 := 412) (pc' := 461) rfl (hb hby at_412) rfl ((if0 _ _).trans (teq hcr).1) (by decide) (by decide) ?_
        refine XS.iload X122.here hx rfl (hb hby at_461) rfl ?_
        refine XS.iload X122.here hx rfl (hb hby at_463) rfl ?_
        exact ks)
    obtain ⟨exA, hexA⟩ : ∃ z : Int64, z = (if fr = to then (-1 : Int64) else (if (0 : Int32) < (lcmpW ((w0 / (Int64.ofNat (10 ^ (11 - ta)))) - ((w0 / (Int64.ofNat (10 ^ (11 - ta)))) / (Int64.ofNat (10 ^ (ta - fa)))) * (Int64.ofNat (10 ^ (ta - fa)))) (4294967295 : Int64)) then (-1 : Int64) else ((w0 / (Int64.ofNat (10 ^ (11 - ta)))) - ((w0 / (Int64.ofNat (10 ^ (11 - ta)))) / (Int64.ofNat (10 ^ (ta - fa)))) * (Int64.ofNat (10 ^ (ta - fa)))))) := ⟨_, rfl⟩
    obtain ⟨j140, hj140⟩ : ∃ z : Slot, z = (if fr = to then (.unset : Slot) else (.val (.long ((w0 / (Int64.ofNat (10 ^ (11 - ta)))) - ((w0 / (Int64.ofNat (10 ^ (11 - ta)))) / (Int64.ofNat (10 ^ (ta - fa)))) * (Int64.ofNat (10 ^ (ta - fa))))) : Slot)) := ⟨_, rfl⟩
    obtain ⟨j141, hj141⟩ : ∃ z : Slot, z = (if fr = to then (.unset : Slot) else (.second : Slot)) := ⟨_, rfl⟩
    have pr142 : ∀ t, Steps p.tables e below (T122.setTop (mkF m 549 #[.val (.long p1), .second, .val (.int p2), .val (.int p3), .val (.int p4), .val (.int p5), .val (.int p6), .val (.ref pt), .val (.long w0), .second, .val (.ref bt), .val (.int fr), .val (.int to), .val (.int ps), .val (.int bb), .val (.int cr), .val (.int dg), .val (.long w0), .second, .val (.long exA), .second, j140, j141] [])) t → G t := by
      intro t ks
      refine pr136 t ?_
      by_cases c137 : fr = to
      · refine XS.icmpNo X122.here hx rfl (hb hby at_465) rfl (teq c137).2 ?_
        refine X122.ldc2Long hx hown (mvT hZ (hw _ (List.mem_of_getElem? (i := 27) rfl))) (g := (mkF m 468 #[.val (.long p1), .second, .val (.int p2), .val (.int p3), .val (.int p4), .val (.int p5), .val (.int p6), .val (.ref pt), .val (.long w0), .second, .val (.ref bt), .val (.int fr), .val (.int to), .val (.int ps), .val (.int bb), .val (.int cr), .val (.int dg), .val (.long w0), .second, .unset, .unset, .unset, .unset] [])) rfl (hb hby at_468) _ ?_
        refine XS.lstore X122.here hx rfl (hb hby at_471) rfl (l' := #[.val (.long p1), .second, .val (.int p2), .val (.int p3), .val (.int p4), .val (.int p5), .val (.int p6), .val (.ref pt), .val (.long w0), .second, .val (.ref bt), .val (.int fr), .val (.int to), .val (.int ps), .val (.int bb), .val (.int cr), .val (.int dg), .val (.long w0), .second, .val (.long (-1 : Int64)), .second, .unset, .unset]) rfl ?_
        refine XS.goto X122.here hx rfl (pc0 := 473) (pc' := 549) rfl (hb hby at_473) (by decide) (by decide) ?_
        have eexA : exA = (-1 : Int64) := by rw [hexA, if_pos c137]
        have ej140 : j140 = .unset := by rw [hj140, if_pos c137]
        have ej141 : j141 = .unset := by rw [hj141, if_pos c137]
        rw [eexA, ej140, ej141] at ks
        exact ks
      · refine XS.icmpYes X122.here hx rfl (pc0 := 465) (pc' := 476) rfl (hb hby at_465) rfl (feq c137).2 (by decide) (by decide) ?_
        refine XS.iload X122.here hx rfl (hb hby at_476) rfl ?_
        refine XS.ifYes X122.here hx rfl (pc0 := 478) (pc' := 508) rfl (hb hby at_478) rfl ((if0 _ _).trans (teq hcr).1) (by decide) (by decide) ?_
        refine XS.lload X122.here hx rfl (hb hby at_508) rfl ?_
        refine XS.aload X122.here hx rfl (hb hby at_510) rfl rfl ?_
        refine XS.bipush X122.here hx rfl (hb hby at_512) ?_
        refine XS.iload X122.here hx rfl (hb hby at_514) rfl ?_
        refine XS.isub X122.here hx rfl (hb hby at_516) rfl ?_
        refine la_ldJ X122 hx hZ e122 V_pt (j := ((11 : Int32) - to)) (11 - ta) (own_six (a := 11) rfl eto (by omega) (by omega)).1 (own_six (a := 11) rfl eto (by omega) (by omega)).2 (show (11 - ta) < 12 by omega) (w := (Int64.ofNat (10 ^ (11 - ta)))) (own_p10 (by omega)) (g := (mkF m 517 #[.val (.long p1), .second, .val (.int p2), .val (.int p3), .val (.int p4), .val (.int p5), .val (.int p6), .val (.ref pt), .val (.long w0), .second, .val (.ref bt), .val (.int fr), .val (.int to), .val (.int ps), .val (.int bb), .val (.int cr), .val (.int dg), .val (.long w0), .second, .unset, .unset, .unset, .unset] [(.int ((11 : Int32) - to)), (.ref pt), (.long w0)])) rfl rfl (hb hby at_517) _ ?_
        refine XS.ldiv X122.here hx rfl (hb hby at_518) rfl hD1 ?_
        refine XS.aload X122.here hx rfl (hb hby at_519) rfl rfl ?_
        refine XS.iload X122.here hx rfl (hb hby at_521) rfl ?_
        refine XS.iload X122.here hx rfl (hb hby at_523) rfl ?_
        refine XS.isub X122.here hx rfl (hb hby at_525) rfl ?_
        refine la_ldJ X122 hx hZ e122 V_pt (j := (to - fr)) (ta - fa) (own_six eto efr (by omega) (by omega)).1 (own_six eto efr (by omega) (by omega)).2 (show (ta - fa) < 12 by omega) (w := (Int64.ofNat (10 ^ (ta - fa)))) (own_p10 (by omega)) (g := (mkF m 526 #[.val (.long p1), .second, .val (.int p2), .val (.int p3), .val (.int p4), .val (.int p5), .val (.int p6), .val (.ref pt), .val (.long w0), .second, .val (.ref bt), .val (.int fr), .val (.int to), .val (.int ps), .val (.int bb), .val (.int cr), .val (.int dg), .val (.long w0), .second, .unset, .unset, .unset, .unset] [(.int (to - fr)), (.ref pt), (.long (w0 / (Int64.ofNat (10 ^ (11 - ta)))))])) rfl rfl (hb hby at_526) _ ?_
        refine XS.lrem X122.here hx rfl (hb hby at_527) rfl hD2 ?_
        refine XS.lstore X122.here hx rfl (hb hby at_528) rfl (l' := #[.val (.long p1), .second, .val (.int p2), .val (.int p3), .val (.int p4), .val (.int p5), .val (.int p6), .val (.ref pt), .val (.long w0), .second, .val (.ref bt), .val (.int fr), .val (.int to), .val (.int ps), .val (.int bb), .val (.int cr), .val (.int dg), .val (.long w0), .second, .unset, .unset, .val (.long ((w0 / (Int64.ofNat (10 ^ (11 - ta)))) - ((w0 / (Int64.ofNat (10 ^ (11 - ta)))) / (Int64.ofNat (10 ^ (ta - fa)))) * (Int64.ofNat (10 ^ (ta - fa))))), .second]) rfl ?_
        refine XS.lload X122.here hx rfl (hb hby at_530) rfl ?_
        refine X122.ldc2Long hx hown (mvT hZ (hw _ (List.mem_of_getElem? (i := 20) rfl))) (g := (mkF m 532 #[.val (.long p1), .second, .val (.int p2), .val (.int p3), .val (.int p4), .val (.int p5), .val (.int p6), .val (.ref pt), .val (.long w0), .second, .val (.ref bt), .val (.int fr), .val (.int to), .val (.int ps), .val (.int bb), .val (.int cr), .val (.int dg), .val (.long w0), .second, .unset, .unset, .val (.long ((w0 / (Int64.ofNat (10 ^ (11 - ta)))) - ((w0 / (Int64.ofNat (10 ^ (11 - ta)))) / (Int64.ofNat (10 ^ (ta - fa)))) * (Int64.ofNat (10 ^ (ta - fa))))), .second] [(.long ((w0 / (Int64.ofNat (10 ^ (11 - ta)))) - ((w0 / (Int64.ofNat (10 ^ (11 - ta)))) / (Int64.ofNat (10 ^ (ta - fa)))) * (Int64.ofNat (10 ^ (ta - fa)))))])) rfl (hb hby at_532) _ ?_
        refine XS.lcmp X122.here hx rfl (hb hby at_535) rfl ?_
        by_cases c139 : (0 : Int32) < (lcmpW ((w0 / (Int64.ofNat (10 ^ (11 - ta)))) - ((w0 / (Int64.ofNat (10 ^ (11 - ta)))) / (Int64.ofNat (10 ^ (ta - fa)))) * (Int64.ofNat (10 ^ (ta - fa)))) (4294967295 : Int64))
        · refine XS.ifNo X122.here hx rfl (hb hby at_536) rfl ((if0 _ _).trans (tlt c139).2.2.2) ?_
          refine X122.ldc2Long hx hown (mvT hZ (hw _ (List.mem_of_getElem? (i := 27) rfl))) (g := (mkF m 539 #[.val (.long p1), .second, .val (.int p2), .val (.int p3), .val (.int p4), .val (.int p5), .val (.int p6), .val (.ref pt), .val (.long w0), .second, .val (.ref bt), .val (.int fr), .val (.int to), .val (.int ps), .val (.int bb), .val (.int cr), .val (.int dg), .val (.long w0), .second, .unset, .unset, .val (.long ((w0 / (Int64.ofNat (10 ^ (11 - ta)))) - ((w0 / (Int64.ofNat (10 ^ (11 - ta)))) / (Int64.ofNat (10 ^ (ta - fa)))) * (Int64.ofNat (10 ^ (ta - fa))))), .second] [])) rfl (hb hby at_539) _ ?_
          refine XS.goto X122.here hx rfl (pc0 := 542) (pc' := 547) rfl (hb hby at_542) (by decide) (by decide) ?_
          refine XS.lstore X122.here hx rfl (hb hby at_547) rfl (l' := #[.val (.long p1), .second, .val (.int p2), .val (.int p3), .val (.int p4), .val (.int p5), .val (.int p6), .val (.ref pt), .val (.long w0), .second, .val (.ref bt), .val (.int fr), .val (.int to), .val (.int ps), .val (.int bb), .val (.int cr), .val (.int dg), .val (.long w0), .second, .val (.long (-1 : Int64)), .second, .val (.long ((w0 / (Int64.ofNat (10 ^ (11 - ta)))) - ((w0 / (Int64.ofNat (10 ^ (11 - ta)))) / (Int64.ofNat (10 ^ (ta - fa)))) * (Int64.ofNat (10 ^ (ta - fa))))), .second]) rfl ?_
          have eexA : exA = (-1 : Int64) := by rw [hexA, if_neg c137, if_pos c139]
          have ej140 : j140 = .val (.long ((w0 / (Int64.ofNat (10 ^ (11 - ta)))) - ((w0 / (Int64.ofNat (10 ^ (11 - ta)))) / (Int64.ofNat (10 ^ (ta - fa)))) * (Int64.ofNat (10 ^ (ta - fa))))) := by rw [hj140, if_neg c137]
          have ej141 : j141 = .second := by rw [hj141, if_neg c137]
          rw [eexA, ej140, ej141] at ks
          exact ks
        · refine XS.ifYes X122.here hx rfl (pc0 := 536) (pc' := 545) rfl (hb hby at_536) rfl ((if0 _ _).trans (flt c139).2.2.2) (by decide) (by decide) ?_
          refine XS.lload X122.here hx rfl (hb hby at_545) rfl ?_
          refine XS.lstore X122.here hx rfl (hb hby at_547) rfl (l' := #[.val (.long p1), .second, .val (.int p2), .val (.int p3), .val (.int p4), .val (.int p5), .val (.int p6), .val (.ref pt), .val (.long w0), .second, .val (.ref bt), .val (.int fr), .val (.int to), .val (.int ps), .val (.int bb), .val (.int cr), .val (.int dg), .val (.long w0), .second, .val (.long ((w0 / (Int64.ofNat (10 ^ (11 - ta)))) - ((w0 / (Int64.ofNat (10 ^ (11 - ta)))) / (Int64.ofNat (10 ^ (ta - fa)))) * (Int64.ofNat (10 ^ (ta - fa))))), .second, .val (.long ((w0 / (Int64.ofNat (10 ^ (11 - ta)))) - ((w0 / (Int64.ofNat (10 ^ (11 - ta)))) / (Int64.ofNat (10 ^ (ta - fa)))) * (Int64.ofNat (10 ^ (ta - fa))))), .second]) rfl ?_
          have eexA : exA = ((w0 / (Int64.ofNat (10 ^ (11 - ta)))) - ((w0 / (Int64.ofNat (10 ^ (11 - ta)))) / (Int64.ofNat (10 ^ (ta - fa)))) * (Int64.ofNat (10 ^ (ta - fa)))) := by rw [hexA, if_neg c137, if_neg c139]
          have ej140 : j140 = .val (.long ((w0 / (Int64.ofNat (10 ^ (11 - ta)))) - ((w0 / (Int64.ofNat (10 ^ (11 - ta)))) / (Int64.ofNat (10 ^ (ta - fa)))) * (Int64.ofNat (10 ^ (ta - fa))))) := by rw [hj140, if_neg c137]
          have ej141 : j141 = .second := by rw [hj141, if_neg c137]
          rw [eexA, ej140, ej141] at ks
          exact ks
    have pr143 : ∀ t, Steps p.tables e below (T122.setTop (mkF m 555 #[.val (.long p1), .second, .val (.int p2), .val (.int p3), .val (.int p4), .val (.int p5), .val (.int p6), .val (.ref pt), .val (.long w0), .second, .val (.ref bt), .val (.int fr), .val (.int to), .val (.int ps), .val (.int bb), .val (.int cr), .val (.int dg), .val (.long w0), .second, .val (.long exA), .second, j140, j141] [(.int to), (.int fr), (.ref bt)])) t → G t := fun t ks => pr142 t (by
        refine XS.aload X122.here hx rfl (hb hby at_549) rfl rfl ?_
        refine XS.iload X122.here hx rfl (hb hby at_551) rfl ?_
        refine XS.iload X122.here hx rfl (hb hby at_553) rfl ?_
        exact ks)
    obtain ⟨_, _, ⟨T144, L144, k144, n144⟩, -, X144, hP144, st144⟩ := Jvm.LawKit.callS X122 hx (y := (⟨"com/example/gneiss/gneiss/graph/EdgeList", "decimal", "([BII)J"⟩ : MethodName)) hown (mvT hZ (hw _ (List.mem_of_getElem? (i := 21) rfl))) (mvT hZ (hw _ (List.mem_of_getElem? (i := 22) rfl))) (mvT hZ (hw _ (List.mem_of_getElem? (i := 23) rfl))) (mvT hZ (hw _ (List.mem_of_getElem? (i := 24) rfl))) (by decide) (backOf (W := 0) (rm2 l Z a0 hw [] bt fr to k56 11 vs fa ta h122 n0 Z122 V_bt efr eto (by rw [hvl]; omega) hle (by omega)) hZ (hw _ (List.mem_of_getElem? (i := 24) rfl)) (hw _ (List.mem_of_getElem? (i := 23) rfl)) (by decide) (by decide)) (g := (mkF m 555 #[.val (.long p1), .second, .val (.int p2), .val (.int p3), .val (.int p4), .val (.int p5), .val (.int p6), .val (.ref pt), .val (.long w0), .second, .val (.ref bt), .val (.int fr), .val (.int to), .val (.int ps), .val (.int bb), .val (.int cr), .val (.int dg), .val (.long w0), .second, .val (.long exA), .second, j140, j141] [(.int to), (.int fr), (.ref bt)])) rfl (by rw [hml]; rfl) (argsL := [(.ref bt), (.int fr), (.int to)]) (rest := []) (lenOf pd_1 rfl) rfl (by show 2 * 0 + _ ≤ _; exact Nat.le_of_eq rfl) (hb hby at_555) (fun _ _ => ⟨rfl, e122, (by decide : 2 + 0 ≤ _), (by decide : 23 + 0 ≤ _)⟩)
    obtain ⟨Lc144, hQ144, X144⟩ := own_out hP144 X144
    clear hP144
    dsimp only [Pt.U, Pt.locs, Pt.cells, Pt.slots] at X144 st144 hQ144
    obtain ⟨rfl, Nq144, eh144⟩ := hQ144
    have N144 := Fr.app N122 Nq144
    have pr145 : ∀ t, Steps p.tables e below (T144.setTop (mkF m 558 #[.val (.long p1), .second, .val (.int p2), .val (.int p3), .val (.int p4), .val (.int p5), .val (.int p6), .val (.ref pt), .val (.long w0), .second, .val (.ref bt), .val (.int fr), .val (.int to), .val (.int ps), .val (.int bb), .val (.int cr), .val (.int dg), .val (.long w0), .second, .val (.long exA), .second, j140, j141] [(.long (own_decimal vs fa ta))])) t → G t := fun t ks => pr143 t (st144 t ks)
    have hfin : own_decimal vs fa ta = exA := by rw [hexA]; exact own_lawA hvd hfa hle hta efr eto ew hW
    rw [hfin] at pr145
    have pr146 : ∀ t, Steps p.tables e below (T144.setTop (mkF m 569 #[.val (.long p1), .second, .val (.int p2), .val (.int p3), .val (.int p4), .val (.int p5), .val (.int p6), .val (.ref pt), .val (.long w0), .second, .val (.ref bt), .val (.int fr), .val (.int to), .val (.int ps), .val (.int bb), .val (.int cr), .val (.int dg), .val (.long w0), .second, .val (.long exA), .second, j140, j141] [(.int (1 : Int32))])) t → G t := fun t ks => pr145 t (by
        refine XS.lload X144.here hx rfl (hb hby at_558) rfl ?_
        refine XS.lcmp X144.here hx rfl (hb hby at_560) rfl ?_
        refine XS.ifNo X144.here hx rfl (hb hby at_561) rfl ((if0 _ _).trans (teq (own_lc0 exA)).2) ?_
        refine XS.iconst X144.here hx rfl (hb hby at_564) ?_
        refine XS.goto X144.here hx rfl (pc0 := 565) (pc' := 569) rfl (hb hby at_565) (by decide) (by decide) ?_
        exact ks)
    obtain ⟨fs, hr, hrun, hended, hW, hsame⟩ := X144.leave (v := some (.int 1)) (fun h => by rw [Bd.returns] at h; cases h)
    refine ⟨_, _, hG _ (pr146 _ ?_), hrun, hended, _, _, rfl, ?_, ⟨_, rfl⟩, hW, hsame.mono (by decide) (by decide)⟩
    · exact retN X144 hx (t := .boolean) Bd.returns (by simp) (hb hby at_569) (by rw [show nar .boolean (1 : Int32) = 1 from rfl]; exact hr)
    · show Q0 n0 _ T144.heap _
      rw [eh144]
      exact ⟨rfl, N144⟩
  · have pr147 : ∀ t, Steps p.tables e below (T122.setTop (mkF m 421 #[.val (.long p1), .second, .val (.int p2), .val (.int p3), .val (.int p4), .val (.int p5), .val (.int p6), .val (.ref pt), .val (.long w0), .second, .val (.ref bt), .val (.int fr), .val (.int to), .val (.int ps), .val (.int bb), .val (.int cr), .val (.int dg), .val (.long w0), .second, .unset, .unset, .unset, .unset] [(.int bb), (.int ps), (.ref bt)])) t → G t := fun t ks => pr135 t (by
        refine XS.ifNo X122.here hx rfl (hb hby at_412) rfl ((if0 _ _).trans (feq hcr).1) ?_
        refine XS.aload X122.here hx rfl (hb hby at_415) rfl rfl ?_
        refine XS.iload X122.here hx rfl (hb hby at_417) rfl ?_
        refine XS.iload X122.here hx rfl (hb hby at_419) rfl ?_
        exact ks)
    obtain ⟨T148, h148, X148, e148, W148, V148, st148⟩ := ia_stB X122 hx hZ e122 V_bt (j := ps) Q (by rw [eps]; exact own_n32 (by omega)) (by rw [eps]; exact own_nn (by omega)) (by rw [hvl]; omega) (y := bb) (by rw [hbb]; exact own_narB _) (g := (mkF m 421 #[.val (.long p1), .second, .val (.int p2), .val (.int p3), .val (.int p4), .val (.int p5), .val (.int p6), .val (.ref pt), .val (.long w0), .second, .val (.ref bt), .val (.int fr), .val (.int to), .val (.int ps), .val (.int bb), .val (.int cr), .val (.int dg), .val (.long w0), .second, .unset, .unset, .unset, .unset] [(.int bb), (.int ps), (.ref bt)])) rfl rfl (hb hby at_421)
    replace V_bt := V148
    replace V_pt := V_pt.other W148 ne_pt_bt
    have N148 := Fr.snoc X148 N122 g_bt
    have Z148 : n0 ≤ h148.size := Nat.le_trans Z122 (Keep.of_wr W148).1
    have pr149 : ∀ t, Steps p.tables e below (T148.setTop (mkF m 422 #[.val (.long p1), .second, .val (.int p2), .val (.int p3), .val (.int p4), .val (.int p5), .val (.int p6), .val (.ref pt), .val (.long w0), .second, .val (.ref bt), .val (.int fr), .val (.int to), .val (.int ps), .val (.int bb), .val (.int cr), .val (.int dg), .val (.long w0), .second, .unset, .unset, .unset, .unset] [])) t → G t := fun t ks => pr147 t (st148 t ks)
    have pr150 : ∀ t, Steps p.tables e below (T148.setTop (mkF m 424 #[.val (.long p1), .second, .val (.int p2), .val (.int p3), .val (.int p4), .val (.int p5), .val (.int p6), .val (.ref pt), .val (.long w0), .second, .val (.ref bt), .val (.int fr), .val (.int to), .val (.int ps), .val (.int bb), .val (.int cr), .val (.int dg), .val (.long w0), .second, .unset, .unset, .unset, .unset] [(.int dg)])) t → G t := fun t ks => pr149 t (by
        refine XS.iload X148.here hx rfl (hb hby at_422) rfl ?_
        exact ks)
    by_cases hdz : dg = (0 : Int32)
    · have pr151 : ∀ t, Steps p.tables e below (T148.setTop (mkF m 465 #[.val (.long p1), .second, .val (.int p2), .val (.int p3), .val (.int p4), .val (.int p5), .val (.int p6), .val (.ref pt), .val (.long w0), .second, .val (.ref bt), .val (.int fr), .val (.int to), .val (.int ps), .val (.int bb), .val (.int cr), .val (.int dg), .val (.long w0), .second, .unset, .unset, .unset, .unset] [(.int to), (.int fr)])) t → G t := fun t ks => pr150 t (by
          refine XS.ifYes X148.here hx rfl (pc0 := 424) (pc' := 461) rfl (hb hby at_424) rfl ((if0 _ _).trans (teq hdz).1) (by decide) (by decide) ?_
          refine XS.iload X148.here hx rfl (hb hby at_461) rfl ?_
          refine XS.iload X148.here hx rfl (hb hby at_463) rfl ?_
          exact ks)
      obtain ⟨exB, hexB⟩ : ∃ z : Int64, z = (if fr = to then (-1 : Int64) else (if ps < fr then (if (0 : Int32) < (lcmpW ((w0 / (Int64.ofNat (10 ^ (11 - ta)))) - ((w0 / (Int64.ofNat (10 ^ (11 - ta)))) / (Int64.ofNat (10 ^ (ta - fa)))) * (Int64.ofNat (10 ^ (ta - fa)))) (4294967295 : Int64)) then (-1 : Int64) else ((w0 / (Int64.ofNat (10 ^ (11 - ta)))) - ((w0 / (Int64.ofNat (10 ^ (11 - ta)))) / (Int64.ofNat (10 ^ (ta - fa)))) * (Int64.ofNat (10 ^ (ta - fa))))) else (if ps < to then (-1 : Int64) else (if (0 : Int32) < (lcmpW ((w0 / (Int64.ofNat (10 ^ (11 - ta)))) - ((w0 / (Int64.ofNat (10 ^ (11 - ta)))) / (Int64.ofNat (10 ^ (ta - fa)))) * (Int64.ofNat (10 ^ (ta - fa)))) (4294967295 : Int64)) then (-1 : Int64) else ((w0 / (Int64.ofNat (10 ^ (11 - ta)))) - ((w0 / (Int64.ofNat (10 ^ (11 - ta)))) / (Int64.ofNat (10 ^ (ta - fa)))) * (Int64.ofNat (10 ^ (ta - fa)))))))) := ⟨_, rfl⟩
      obtain ⟨j159, hj159⟩ : ∃ z : Slot, z = (if fr = to then (.unset : Slot) else (if ps < fr then (.val (.long ((w0 / (Int64.ofNat (10 ^ (11 - ta)))) - ((w0 / (Int64.ofNat (10 ^ (11 - ta)))) / (Int64.ofNat (10 ^ (ta - fa)))) * (Int64.ofNat (10 ^ (ta - fa))))) : Slot) else (if ps < to then (.unset : Slot) else (.val (.long ((w0 / (Int64.ofNat (10 ^ (11 - ta)))) - ((w0 / (Int64.ofNat (10 ^ (11 - ta)))) / (Int64.ofNat (10 ^ (ta - fa)))) * (Int64.ofNat (10 ^ (ta - fa))))) : Slot)))) := ⟨_, rfl⟩
      obtain ⟨j160, hj160⟩ : ∃ z : Slot, z = (if fr = to then (.unset : Slot) else (if ps < fr then (.second : Slot) else (if ps < to then (.unset : Slot) else (.second : Slot)))) := ⟨_, rfl⟩
      have pr161 : ∀ t, Steps p.tables e below (T148.setTop (mkF m 549 #[.val (.long p1), .second, .val (.int p2), .val (.int p3), .val (.int p4), .val (.int p5), .val (.int p6), .val (.ref pt), .val (.long w0), .second, .val (.ref bt), .val (.int fr), .val (.int to), .val (.int ps), .val (.int bb), .val (.int cr), .val (.int dg), .val (.long w0), .second, .val (.long exB), .second, j159, j160] [])) t → G t := by
        intro t ks
        refine pr151 t ?_
        by_cases c152 : fr = to
        · refine XS.icmpNo X148.here hx rfl (hb hby at_465) rfl (teq c152).2 ?_
          refine X148.ldc2Long hx hown (mvT hZ (hw _ (List.mem_of_getElem? (i := 27) rfl))) (g := (mkF m 468 #[.val (.long p1), .second, .val (.int p2), .val (.int p3), .val (.int p4), .val (.int p5), .val (.int p6), .val (.ref pt), .val (.long w0), .second, .val (.ref bt), .val (.int fr), .val (.int to), .val (.int ps), .val (.int bb), .val (.int cr), .val (.int dg), .val (.long w0), .second, .unset, .unset, .unset, .unset] [])) rfl (hb hby at_468) _ ?_
          refine XS.lstore X148.here hx rfl (hb hby at_471) rfl (l' := #[.val (.long p1), .second, .val (.int p2), .val (.int p3), .val (.int p4), .val (.int p5), .val (.int p6), .val (.ref pt), .val (.long w0), .second, .val (.ref bt), .val (.int fr), .val (.int to), .val (.int ps), .val (.int bb), .val (.int cr), .val (.int dg), .val (.long w0), .second, .val (.long (-1 : Int64)), .second, .unset, .unset]) rfl ?_
          refine XS.goto X148.here hx rfl (pc0 := 473) (pc' := 549) rfl (hb hby at_473) (by decide) (by decide) ?_
          have eexB : exB = (-1 : Int64) := by rw [hexB, if_pos c152]
          have ej159 : j159 = .unset := by rw [hj159, if_pos c152]
          have ej160 : j160 = .unset := by rw [hj160, if_pos c152]
          rw [eexB, ej159, ej160] at ks
          exact ks
        · refine XS.icmpYes X148.here hx rfl (pc0 := 465) (pc' := 476) rfl (hb hby at_465) rfl (feq c152).2 (by decide) (by decide) ?_
          refine XS.iload X148.here hx rfl (hb hby at_476) rfl ?_
          refine XS.ifNo X148.here hx rfl (hb hby at_478) rfl ((if0 _ _).trans (feq hcr).1) ?_
          refine XS.iload X148.here hx rfl (hb hby at_481) rfl ?_
          refine XS.ifNo X148.here hx rfl (hb hby at_483) rfl ((if0 _ _).trans (teq hdz).2) ?_
          refine XS.iload X148.here hx rfl (hb hby at_486) rfl ?_
          refine XS.iload X148.here hx rfl (hb hby at_488) rfl ?_
          by_cases c155 : ps < fr
          · refine XS.icmpYes X148.here hx rfl (pc0 := 490) (pc' := 508) rfl (hb hby at_490) rfl (tlt c155).2.2.1 (by decide) (by decide) ?_
            refine XS.lload X148.here hx rfl (hb hby at_508) rfl ?_
            refine XS.aload X148.here hx rfl (hb hby at_510) rfl rfl ?_
            refine XS.bipush X148.here hx rfl (hb hby at_512) ?_
            refine XS.iload X148.here hx rfl (hb hby at_514) rfl ?_
            refine XS.isub X148.here hx rfl (hb hby at_516) rfl ?_
            refine la_ldJ X148 hx hZ e148 V_pt (j := ((11 : Int32) - to)) (11 - ta) (own_six (a := 11) rfl eto (by omega) (by omega)).1 (own_six (a := 11) rfl eto (by omega) (by omega)).2 (show (11 - ta) < 12 by omega) (w := (Int64.ofNat (10 ^ (11 - ta)))) (own_p10 (by omega)) (g := (mkF m 517 #[.val (.long p1), .second, .val (.int p2), .val (.int p3), .val (.int p4), .val (.int p5), .val (.int p6), .val (.ref pt), .val (.long w0), .second, .val (.ref bt), .val (.int fr), .val (.int to), .val (.int ps), .val (.int bb), .val (.int cr), .val (.int dg), .val (.long w0), .second, .unset, .unset, .unset, .unset] [(.int ((11 : Int32) - to)), (.ref pt), (.long w0)])) rfl rfl (hb hby at_517) _ ?_
            refine XS.ldiv X148.here hx rfl (hb hby at_518) rfl hD1 ?_
            refine XS.aload X148.here hx rfl (hb hby at_519) rfl rfl ?_
            refine XS.iload X148.here hx rfl (hb hby at_521) rfl ?_
            refine XS.iload X148.here hx rfl (hb hby at_523) rfl ?_
            refine XS.isub X148.here hx rfl (hb hby at_525) rfl ?_
            refine la_ldJ X148 hx hZ e148 V_pt (j := (to - fr)) (ta - fa) (own_six eto efr (by omega) (by omega)).1 (own_six eto efr (by omega) (by omega)).2 (show (ta - fa) < 12 by omega) (w := (Int64.ofNat (10 ^ (ta - fa)))) (own_p10 (by omega)) (g := (mkF m 526 #[.val (.long p1), .second, .val (.int p2), .val (.int p3), .val (.int p4), .val (.int p5), .val (.int p6), .val (.ref pt), .val (.long w0), .second, .val (.ref bt), .val (.int fr), .val (.int to), .val (.int ps), .val (.int bb), .val (.int cr), .val (.int dg), .val (.long w0), .second, .unset, .unset, .unset, .unset] [(.int (to - fr)), (.ref pt), (.long (w0 / (Int64.ofNat (10 ^ (11 - ta)))))])) rfl rfl (hb hby at_526) _ ?_
            refine XS.lrem X148.here hx rfl (hb hby at_527) rfl hD2 ?_
            refine XS.lstore X148.here hx rfl (hb hby at_528) rfl (l' := #[.val (.long p1), .second, .val (.int p2), .val (.int p3), .val (.int p4), .val (.int p5), .val (.int p6), .val (.ref pt), .val (.long w0), .second, .val (.ref bt), .val (.int fr), .val (.int to), .val (.int ps), .val (.int bb), .val (.int cr), .val (.int dg), .val (.long w0), .second, .unset, .unset, .val (.long ((w0 / (Int64.ofNat (10 ^ (11 - ta)))) - ((w0 / (Int64.ofNat (10 ^ (11 - ta)))) / (Int64.ofNat (10 ^ (ta - fa)))) * (Int64.ofNat (10 ^ (ta - fa))))), .second]) rfl ?_
            refine XS.lload X148.here hx rfl (hb hby at_530) rfl ?_
            refine X148.ldc2Long hx hown (mvT hZ (hw _ (List.mem_of_getElem? (i := 20) rfl))) (g := (mkF m 532 #[.val (.long p1), .second, .val (.int p2), .val (.int p3), .val (.int p4), .val (.int p5), .val (.int p6), .val (.ref pt), .val (.long w0), .second, .val (.ref bt), .val (.int fr), .val (.int to), .val (.int ps), .val (.int bb), .val (.int cr), .val (.int dg), .val (.long w0), .second, .unset, .unset, .val (.long ((w0 / (Int64.ofNat (10 ^ (11 - ta)))) - ((w0 / (Int64.ofNat (10 ^ (11 - ta)))) / (Int64.ofNat (10 ^ (ta - fa)))) * (Int64.ofNat (10 ^ (ta - fa))))), .second] [(.long ((w0 / (Int64.ofNat (10 ^ (11 - ta)))) - ((w0 / (Int64.ofNat (10 ^ (11 - ta)))) / (Int64.ofNat (10 ^ (ta - fa)))) * (Int64.ofNat (10 ^ (ta - fa)))))])) rfl (hb hby at_532) _ ?_
            refine XS.lcmp X148.here hx rfl (hb hby at_535) rfl ?_
            by_cases c156 : (0 : Int32) < (lcmpW ((w0 / (Int64.ofNat (10 ^ (11 - ta)))) - ((w0 / (Int64.ofNat (10 ^ (11 - ta)))) / (Int64.ofNat (10 ^ (ta - fa)))) * (Int64.ofNat (10 ^ (ta - fa)))) (4294967295 : Int64))
            · refine XS.ifNo X148.here hx rfl (hb hby at_536) rfl ((if0 _ _).trans (tlt c156).2.2.2) ?_
              refine X148.ldc2Long hx hown (mvT hZ (hw _ (List.mem_of_getElem? (i := 27) rfl))) (g := (mkF m 539 #[.val (.long p1), .second, .val (.int p2), .val (.int p3), .val (.int p4), .val (.int p5), .val (.int p6), .val (.ref pt), .val (.long w0), .second, .val (.ref bt), .val (.int fr), .val (.int to), .val (.int ps), .val (.int bb), .val (.int cr), .val (.int dg), .val (.long w0), .second, .unset, .unset, .val (.long ((w0 / (Int64.ofNat (10 ^ (11 - ta)))) - ((w0 / (Int64.ofNat (10 ^ (11 - ta)))) / (Int64.ofNat (10 ^ (ta - fa)))) * (Int64.ofNat (10 ^ (ta - fa))))), .second] [])) rfl (hb hby at_539) _ ?_
              refine XS.goto X148.here hx rfl (pc0 := 542) (pc' := 547) rfl (hb hby at_542) (by decide) (by decide) ?_
              refine XS.lstore X148.here hx rfl (hb hby at_547) rfl (l' := #[.val (.long p1), .second, .val (.int p2), .val (.int p3), .val (.int p4), .val (.int p5), .val (.int p6), .val (.ref pt), .val (.long w0), .second, .val (.ref bt), .val (.int fr), .val (.int to), .val (.int ps), .val (.int bb), .val (.int cr), .val (.int dg), .val (.long w0), .second, .val (.long (-1 : Int64)), .second, .val (.long ((w0 / (Int64.ofNat (10 ^ (11 - ta)))) - ((w0 / (Int64.ofNat (10 ^ (11 - ta)))) / (Int64.ofNat (10 ^ (ta - fa)))) * (Int64.ofNat (10 ^ (ta - fa))))), .second]) rfl ?_
              have eexB : exB = (-1 : Int64) := by rw [hexB, if_neg c152, if_pos c155, if_pos c156]
              have ej159 : j159 = .val (.long ((w0 / (Int64.ofNat (10 ^ (11 - ta)))) - ((w0 / (Int64.ofNat (10 ^ (11 - ta)))) / (Int64.ofNat (10 ^ (ta - fa)))) * (Int64.ofNat (10 ^ (ta - fa))))) := by rw [hj159, if_neg c152, if_pos c155]
              have ej160 : j160 = .second := by rw [hj160, if_neg c152, if_pos c155]
              rw [eexB, ej159, ej160] at ks
              exact ks
            · refine XS.ifYes X148.here hx rfl (pc0 := 536) (pc' := 545) rfl (hb hby at_536) rfl ((if0 _ _).trans (flt c156).2.2.2) (by decide) (by decide) ?_
              refine XS.lload X148.here hx rfl (hb hby at_545) rfl ?_
              refine XS.lstore X148.here hx rfl (hb hby at_547) rfl (l' := #[.val (.long p1), .second, .val (.int p2), .val (.int p3), .val (.int p4), .val (.int p5), .val (.int p6), .val (.ref pt), .val (.long w0), .second, .val (.ref bt), .val (.int fr), .val (.int to), .val (.int ps), .val (.int bb), .val (.int cr), .val (.int dg), .val (.long w0), .second, .val (.long ((w0 / (Int64.ofNat (10 ^ (11 - ta)))) - ((w0 / (Int64.ofNat (10 ^ (11 - ta)))) / (Int64.ofNat (10 ^ (ta - fa)))) * (Int64.ofNat (10 ^ (ta - fa))))), .second, .val (.long ((w0 / (Int64.ofNat (10 ^ (11 - ta)))) - ((w0 / (Int64.ofNat (10 ^ (11 - ta)))) / (Int64.ofNat (10 ^ (ta - fa)))) * (Int64.ofNat (10 ^ (ta - fa))))), .second]) rfl ?_
              have eexB : exB = ((w0 / (Int64.ofNat (10 ^ (11 - ta)))) - ((w0 / (Int64.ofNat (10 ^ (11 - ta)))) / (Int64.ofNat (10 ^ (ta - fa)))) * (Int64.ofNat (10 ^ (ta - fa)))) := by rw [hexB, if_neg c152, if_pos c155, if_neg c156]
              have ej159 : j159 = .val (.long ((w0 / (Int64.ofNat (10 ^ (11 - ta)))) - ((w0 / (Int64.ofNat (10 ^ (11 - ta)))) / (Int64.ofNat (10 ^ (ta - fa)))) * (Int64.ofNat (10 ^ (ta - fa))))) := by rw [hj159, if_neg c152, if_pos c155]
              have ej160 : j160 = .second := by rw [hj160, if_neg c152, if_pos c155]
              rw [eexB, ej159, ej160] at ks
              exact ks
          · refine XS.icmpNo X148.here hx rfl (hb hby at_490) rfl (flt c155).2.2.1 ?_
            refine XS.iload X148.here hx rfl (hb hby at_493) rfl ?_
            refine XS.iload X148.here hx rfl (hb hby at_495) rfl ?_
            by_cases c157 : ps < to
            · refine XS.icmpNo X148.here hx rfl (hb hby at_497) rfl (tlt c157).2.1 ?_
              refine X148.ldc2Long hx hown (mvT hZ (hw _ (List.mem_of_getElem? (i := 27) rfl))) (g := (mkF m 500 #[.val (.long p1), .second, .val (.int p2), .val (.int p3), .val (.int p4), .val (.int p5), .val (.int p6), .val (.ref pt), .val (.long w0), .second, .val (.ref bt), .val (.int fr), .val (.int to), .val (.int ps), .val (.int bb), .val (.int cr), .val (.int dg), .val (.long w0), .second, .unset, .unset, .unset, .unset] [])) rfl (hb hby at_500) _ ?_
              refine XS.lstore X148.here hx rfl (hb hby at_503) rfl (l' := #[.val (.long p1), .second, .val (.int p2), .val (.int p3), .val (.int p4), .val (.int p5), .val (.int p6), .val (.ref pt), .val (.long w0), .second, .val (.ref bt), .val (.int fr), .val (.int to), .val (.int ps), .val (.int bb), .val (.int cr), .val (.int dg), .val (.long w0), .second, .val (.long (-1 : Int64)), .second, .unset, .unset]) rfl ?_
              refine XS.goto X148.here hx rfl (pc0 := 505) (pc' := 549) rfl (hb hby at_505) (by decide) (by decide) ?_
              have eexB : exB = (-1 : Int64) := by rw [hexB, if_neg c152, if_neg c155, if_pos c157]
              have ej159 : j159 = .unset := by rw [hj159, if_neg c152, if_neg c155, if_pos c157]
              have ej160 : j160 = .unset := by rw [hj160, if_neg c152, if_neg c155, if_pos c157]
              rw [eexB, ej159, ej160] at ks
              exact ks
            · refine XS.icmpYes X148.here hx rfl (pc0 := 497) (pc' := 508) rfl (hb hby at_497) rfl (flt c157).2.1 (by decide) (by decide) ?_
              refine XS.lload X148.here hx rfl (hb hby at_508) rfl ?_
              refine XS.aload X148.here hx rfl (hb hby at_510) rfl rfl ?_
              refine XS.bipush X148.here hx rfl (hb hby at_512) ?_
              refine XS.iload X148.here hx rfl (hb hby at_514) rfl ?_
              refine XS.isub X148.here hx rfl (hb hby at_516) rfl ?_
              refine la_ldJ X148 hx hZ e148 V_pt (j := ((11 : Int32) - to)) (11 - ta) (own_six (a := 11) rfl eto (by omega) (by omega)).1 (own_six (a := 11) rfl eto (by omega) (by omega)).2 (show (11 - ta) < 12 by omega) (w := (Int64.ofNat (10 ^ (11 - ta)))) (own_p10 (by omega)) (g := (mkF m 517 #[.val (.long p1), .second, .val (.int p2), .val (.int p3), .val (.int p4), .val (.int p5), .val (.int p6), .val (.ref pt), .val (.long w0), .second, .val (.ref bt), .val (.int fr), .val (.int to), .val (.int ps), .val (.int bb), .val (.int cr), .val (.int dg), .val (.long w0), .second, .unset, .unset, .unset, .unset] [(.int ((11 : Int32) - to)), (.ref pt), (.long w0)])) rfl rfl (hb hby at_517) _ ?_
              refine XS.ldiv X148.here hx rfl (hb hby at_518) rfl hD1 ?_
              refine XS.aload X148.here hx rfl (hb hby at_519) rfl rfl ?_
              refine XS.iload X148.here hx rfl (hb hby at_521) rfl ?_
              refine XS.iload X148.here hx rfl (hb hby at_523) rfl ?_
              refine XS.isub X148.here hx rfl (hb hby at_525) rfl ?_
              refine la_ldJ X148 hx hZ e148 V_pt (j := (to - fr)) (ta - fa) (own_six eto efr (by omega) (by omega)).1 (own_six eto efr (by omega) (by omega)).2 (show (ta - fa) < 12 by omega) (w := (Int64.ofNat (10 ^ (ta - fa)))) (own_p10 (by omega)) (g := (mkF m 526 #[.val (.long p1), .second, .val (.int p2), .val (.int p3), .val (.int p4), .val (.int p5), .val (.int p6), .val (.ref pt), .val (.long w0), .second, .val (.ref bt), .val (.int fr), .val (.int to), .val (.int ps), .val (.int bb), .val (.int cr), .val (.int dg), .val (.long w0), .second, .unset, .unset, .unset, .unset] [(.int (to - fr)), (.ref pt), (.long (w0 / (Int64.ofNat (10 ^ (11 - ta)))))])) rfl rfl (hb hby at_526) _ ?_
              refine XS.lrem X148.here hx rfl (hb hby at_527) rfl hD2 ?_
              refine XS.lstore X148.here hx rfl (hb hby at_528) rfl (l' := #[.val (.long p1), .second, .val (.int p2), .val (.int p3), .val (.int p4), .val (.int p5), .val (.int p6), .val (.ref pt), .val (.long w0), .second, .val (.ref bt), .val (.int fr), .val (.int to), .val (.int ps), .val (.int bb), .val (.int cr), .val (.int dg), .val (.long w0), .second, .unset, .unset, .val (.long ((w0 / (Int64.ofNat (10 ^ (11 - ta)))) - ((w0 / (Int64.ofNat (10 ^ (11 - ta)))) / (Int64.ofNat (10 ^ (ta - fa)))) * (Int64.ofNat (10 ^ (ta - fa))))), .second]) rfl ?_
              refine XS.lload X148.here hx rfl (hb hby at_530) rfl ?_
              refine X148.ldc2Long hx hown (mvT hZ (hw _ (List.mem_of_getElem? (i := 20) rfl))) (g := (mkF m 532 #[.val (.long p1), .second, .val (.int p2), .val (.int p3), .val (.int p4), .val (.int p5), .val (.int p6), .val (.ref pt), .val (.long w0), .second, .val (.ref bt), .val (.int fr), .val (.int to), .val (.int ps), .val (.int bb), .val (.int cr), .val (.int dg), .val (.long w0), .second, .unset, .unset, .val (.long ((w0 / (Int64.ofNat (10 ^ (11 - ta)))) - ((w0 / (Int64.ofNat (10 ^ (11 - ta)))) / (Int64.ofNat (10 ^ (ta - fa)))) * (Int64.ofNat (10 ^ (ta - fa))))), .second] [(.long ((w0 / (Int64.ofNat (10 ^ (11 - ta)))) - ((w0 / (Int64.ofNat (10 ^ (11 - ta)))) / (Int64.ofNat (10 ^ (ta - fa)))) * (Int64.ofNat (10 ^ (ta - fa)))))])) rfl (hb hby at_532) _ ?_
              refine XS.lcmp X148.here hx rfl (hb hby at_535) rfl ?_
              by_cases c158 : (0 : Int32) < (lcmpW ((w0 / (Int64.ofNat (10 ^ (11 - ta)))) - ((w0 / (Int64.ofNat (10 ^ (11 - ta)))) / (Int64.ofNat (10 ^ (ta - fa)))) * (Int64.ofNat (10 ^ (ta - fa)))) (4294967295 : Int64))
              · refine XS.ifNo X148.here hx rfl (hb hby at_536) rfl ((if0 _ _).trans (tlt c158).2.2.2) ?_
                refine X148.ldc2Long hx hown (mvT hZ (hw _ (List.mem_of_getElem? (i := 27) rfl))) (g := (mkF m 539 #[.val (.long p1), .second, .val (.int p2), .val (.int p3), .val (.int p4), .val (.int p5), .val (.int p6), .val (.ref pt), .val (.long w0), .second, .val (.ref bt), .val (.int fr), .val (.int to), .val (.int ps), .val (.int bb), .val (.int cr), .val (.int dg), .val (.long w0), .second, .unset, .unset, .val (.long ((w0 / (Int64.ofNat (10 ^ (11 - ta)))) - ((w0 / (Int64.ofNat (10 ^ (11 - ta)))) / (Int64.ofNat (10 ^ (ta - fa)))) * (Int64.ofNat (10 ^ (ta - fa))))), .second] [])) rfl (hb hby at_539) _ ?_
                refine XS.goto X148.here hx rfl (pc0 := 542) (pc' := 547) rfl (hb hby at_542) (by decide) (by decide) ?_
                refine XS.lstore X148.here hx rfl (hb hby at_547) rfl (l' := #[.val (.long p1), .second, .val (.int p2), .val (.int p3), .val (.int p4), .val (.int p5), .val (.int p6), .val (.ref pt), .val (.long w0), .second, .val (.ref bt), .val (.int fr), .val (.int to), .val (.int ps), .val (.int bb), .val (.int cr), .val (.int dg), .val (.long w0), .second, .val (.long (-1 : Int64)), .second, .val (.long ((w0 / (Int64.ofNat (10 ^ (11 - ta)))) - ((w0 / (Int64.ofNat (10 ^ (11 - ta)))) / (Int64.ofNat (10 ^ (ta - fa)))) * (Int64.ofNat (10 ^ (ta - fa))))), .second]) rfl ?_
                have eexB : exB = (-1 : Int64) := by rw [hexB, if_neg c152, if_neg c155, if_neg c157, if_pos c158]
                have ej159 : j159 = .val (.long ((w0 / (Int64.ofNat (10 ^ (11 - ta)))) - ((w0 / (Int64.ofNat (10 ^ (11 - ta)))) / (Int64.ofNat (10 ^ (ta - fa)))) * (Int64.ofNat (10 ^ (ta - fa))))) := by rw [hj159, if_neg c152, if_neg c155, if_neg c157]
                have ej160 : j160 = .second := by rw [hj160, if_neg c152, if_neg c155, if_neg c157]
                rw [eexB, ej159, ej160] at ks
                exact ks
              · refine XS.ifYes X148.here hx rfl (pc0 := 536) (pc' := 545) rfl (hb hby at_536) rfl ((if0 _ _).trans (flt c158).2.2.2) (by decide) (by decide) ?_
                refine XS.lload X148.here hx rfl (hb hby at_545) rfl ?_
                refine XS.lstore X148.here hx rfl (hb hby at_547) rfl (l' := #[.val (.long p1), .second, .val (.int p2), .val (.int p3), .val (.int p4), .val (.int p5), .val (.int p6), .val (.ref pt), .val (.long w0), .second, .val (.ref bt), .val (.int fr), .val (.int to), .val (.int ps), .val (.int bb), .val (.int cr), .val (.int dg), .val (.long w0), .second, .val (.long ((w0 / (Int64.ofNat (10 ^ (11 - ta)))) - ((w0 / (Int64.ofNat (10 ^ (11 - ta)))) / (Int64.ofNat (10 ^ (ta - fa)))) * (Int64.ofNat (10 ^ (ta - fa))))), .second, .val (.long ((w0 / (Int64.ofNat (10 ^ (11 - ta)))) - ((w0 / (Int64.ofNat (10 ^ (11 - ta)))) / (Int64.ofNat (10 ^ (ta - fa)))) * (Int64.ofNat (10 ^ (ta - fa))))), .second]) rfl ?_
                have eexB : exB = ((w0 / (Int64.ofNat (10 ^ (11 - ta)))) - ((w0 / (Int64.ofNat (10 ^ (11 - ta)))) / (Int64.ofNat (10 ^ (ta - fa)))) * (Int64.ofNat (10 ^ (ta - fa)))) := by rw [hexB, if_neg c152, if_neg c155, if_neg c157, if_neg c158]
                have ej159 : j159 = .val (.long ((w0 / (Int64.ofNat (10 ^ (11 - ta)))) - ((w0 / (Int64.ofNat (10 ^ (11 - ta)))) / (Int64.ofNat (10 ^ (ta - fa)))) * (Int64.ofNat (10 ^ (ta - fa))))) := by rw [hj159, if_neg c152, if_neg c155, if_neg c157]
                have ej160 : j160 = .second := by rw [hj160, if_neg c152, if_neg c155, if_neg c157]
                rw [eexB, ej159, ej160] at ks
                exact ks
      have pr162 : ∀ t, Steps p.tables e below (T148.setTop (mkF m 555 #[.val (.long p1), .second, .val (.int p2), .val (.int p3), .val (.int p4), .val (.int p5), .val (.int p6), .val (.ref pt), .val (.long w0), .second, .val (.ref bt), .val (.int fr), .val (.int to), .val (.int ps), .val (.int bb), .val (.int cr), .val (.int dg), .val (.long w0), .second, .val (.long exB), .second, j159, j160] [(.int to), (.int fr), (.ref bt)])) t → G t := fun t ks => pr161 t (by
          refine XS.aload X148.here hx rfl (hb hby at_549) rfl rfl ?_
          refine XS.iload X148.here hx rfl (hb hby at_551) rfl ?_
          refine XS.iload X148.here hx rfl (hb hby at_553) rfl ?_
          exact ks)
      obtain ⟨_, _, ⟨T163, L163, k163, n163⟩, -, X163, hP163, st163⟩ := Jvm.LawKit.callS X148 hx (y := (⟨"com/example/gneiss/gneiss/graph/EdgeList", "decimal", "([BII)J"⟩ : MethodName)) hown (mvT hZ (hw _ (List.mem_of_getElem? (i := 21) rfl))) (mvT hZ (hw _ (List.mem_of_getElem? (i := 22) rfl))) (mvT hZ (hw _ (List.mem_of_getElem? (i := 23) rfl))) (mvT hZ (hw _ (List.mem_of_getElem? (i := 24) rfl))) (by decide) (backOf (W := 0) (rm2 l Z a0 hw [] bt fr to k56 11 (vs.set Q bb) fa ta h148 n0 Z148 V_bt efr eto (by rw [List.length_set, hvl]; omega) hle (by omega)) hZ (hw _ (List.mem_of_getElem? (i := 24) rfl)) (hw _ (List.mem_of_getElem? (i := 23) rfl)) (by decide) (by decide)) (g := (mkF m 555 #[.val (.long p1), .second, .val (.int p2), .val (.int p3), .val (.int p4), .val (.int p5), .val (.int p6), .val (.ref pt), .val (.long w0), .second, .val (.ref bt), .val (.int fr), .val (.int to), .val (.int ps), .val (.int bb), .val (.int cr), .val (.int dg), .val (.long w0), .second, .val (.long exB), .second, j159, j160] [(.int to), (.int fr), (.ref bt)])) rfl (by rw [hml]; rfl) (argsL := [(.ref bt), (.int fr), (.int to)]) (rest := []) (lenOf pd_1 rfl) rfl (by show 2 * 0 + _ ≤ _; exact Nat.le_of_eq rfl) (hb hby at_555) (fun _ _ => ⟨rfl, e148, (by decide : 2 + 0 ≤ _), (by decide : 23 + 0 ≤ _)⟩)
      obtain ⟨Lc163, hQ163, X163⟩ := own_out hP163 X163
      clear hP163
      dsimp only [Pt.U, Pt.locs, Pt.cells, Pt.slots] at X163 st163 hQ163
      obtain ⟨rfl, Nq163, eh163⟩ := hQ163
      have N163 := Fr.app N148 Nq163
      have pr164 : ∀ t, Steps p.tables e below (T163.setTop (mkF m 558 #[.val (.long p1), .second, .val (.int p2), .val (.int p3), .val (.int p4), .val (.int p5), .val (.int p6), .val (.ref pt), .val (.long w0), .second, .val (.ref bt), .val (.int fr), .val (.int to), .val (.int ps), .val (.int bb), .val (.int cr), .val (.int dg), .val (.long w0), .second, .val (.long exB), .second, j159, j160] [(.long (own_decimal (vs.set Q bb) fa ta))])) t → G t := fun t ks => pr162 t (st163 t ks)
      have hfin : own_decimal (vs.set Q bb) fa ta = exB := by rw [hexB]; exact own_lawB hvd hvl hfa hle hta hQ efr eto eps ew hW (own_byteLo hbb) (by rw [← hdg]; assumption)
      rw [hfin] at pr164
      have pr165 : ∀ t, Steps p.tables e below (T163.setTop (mkF m 569 #[.val (.long p1), .second, .val (.int p2), .val (.int p3), .val (.int p4), .val (.int p5), .val (.int p6), .val (.ref pt), .val (.long w0), .second, .val (.ref bt), .val (.int fr), .val (.int to), .val (.int ps), .val (.int bb), .val (.int cr), .val (.int dg), .val (.long w0), .second, .val (.long exB), .second, j159, j160] [(.int (1 : Int32))])) t → G t := fun t ks => pr164 t (by
          refine XS.lload X163.here hx rfl (hb hby at_558) rfl ?_
          refine XS.lcmp X163.here hx rfl (hb hby at_560) rfl ?_
          refine XS.ifNo X163.here hx rfl (hb hby at_561) rfl ((if0 _ _).trans (teq (own_lc0 exB)).2) ?_
          refine XS.iconst X163.here hx rfl (hb hby at_564) ?_
          refine XS.goto X163.here hx rfl (pc0 := 565) (pc' := 569) rfl (hb hby at_565) (by decide) (by decide) ?_
          exact ks)
      obtain ⟨fs, hr, hrun, hended, hW, hsame⟩ := X163.leave (v := some (.int 1)) (fun h => by rw [Bd.returns] at h; cases h)
      refine ⟨_, _, hG _ (pr165 _ ?_), hrun, hended, _, _, rfl, ?_, ⟨_, rfl⟩, hW, hsame.mono (by decide) (by decide)⟩
      · exact retN X163 hx (t := .boolean) Bd.returns (by simp) (hb hby at_569) (by rw [show nar .boolean (1 : Int32) = 1 from rfl]; exact hr)
      · show Q0 n0 _ T163.heap _
        rw [eh163]
        exact ⟨rfl, N163⟩
    · have pr166 : ∀ t, Steps p.tables e below (T148.setTop (mkF m 445 #[.val (.long p1), .second, .val (.int p2), .val (.int p3), .val (.int p4), .val (.int p5), .val (.int p6), .val (.ref pt), .val (.long w0), .second, .val (.ref bt), .val (.int fr), .val (.int to), .val (.int ps), .val (.int bb), .val (.int cr), .val (.int dg), .val (.long w0), .second, .unset, .unset, .unset, .unset] [(.long (Int64.ofNat (10 ^ (10 - Q)))), (.long w0), (.long ((bb - (48 : Int32)).toInt64)), (.long w0)])) t → G t := fun t ks => pr150 t (by
          refine XS.ifNo X148.here hx rfl (hb hby at_424) rfl ((if0 _ _).trans (feq hdz).1) ?_
          refine XS.lload X148.here hx rfl (hb hby at_427) rfl ?_
          refine XS.iload X148.here hx rfl (hb hby at_429) rfl ?_
          refine XS.bipush X148.here hx rfl (hb hby at_431) ?_
          refine XS.isub X148.here hx rfl (hb hby at_433) rfl ?_
          refine XS.i2l X148.here hx rfl (hb hby at_434) rfl ?_
          refine XS.lload X148.here hx rfl (hb hby at_435) rfl ?_
          refine XS.aload X148.here hx rfl (hb hby at_437) rfl rfl ?_
          refine XS.bipush X148.here hx rfl (hb hby at_439) ?_
          refine XS.iload X148.here hx rfl (hb hby at_441) rfl ?_
          refine XS.isub X148.here hx rfl (hb hby at_443) rfl ?_
          refine la_ldJ X148 hx hZ e148 V_pt (j := ((10 : Int32) - ps)) (10 - Q) (own_six (a := 10) rfl eps (by omega) (by omega)).1 (own_six (a := 10) rfl eps (by omega) (by omega)).2 (show (10 - Q) < 12 by omega) (w := (Int64.ofNat (10 ^ (10 - Q)))) (own_p10 (by omega)) (g := (mkF m 444 #[.val (.long p1), .second, .val (.int p2), .val (.int p3), .val (.int p4), .val (.int p5), .val (.int p6), .val (.ref pt), .val (.long w0), .second, .val (.ref bt), .val (.int fr), .val (.int to), .val (.int ps), .val (.int bb), .val (.int cr), .val (.int dg), .val (.long w0), .second, .unset, .unset, .unset, .unset] [(.int ((10 : Int32) - ps)), (.ref pt), (.long w0), (.long ((bb - (48 : Int32)).toInt64)), (.long w0)])) rfl rfl (hb hby at_444) _ ?_
          exact ks)
      obtain ⟨_, _, ⟨T167, L167, k167, n167⟩, -, X167, hP167, st167⟩ := Jvm.LawKit.callS X148 hx (y := (⟨"com/example/gneiss/gneiss/graph/EdgeListDecimalPinLaw", "digit", "(JJ)J"⟩ : MethodName)) hown (mvT hZ (hw _ (List.mem_of_getElem? (i := 15) rfl))) (mvT hZ (hw _ (List.mem_of_getElem? (i := 16) rfl))) (mvT hZ (hw _ (List.mem_of_getElem? (i := 17) rfl))) (mvT hZ (hw _ (List.mem_of_getElem? (i := 18) rfl))) (by decide) (backOf (W := 4) (rm1 l Z a0 hw [] w0 (Int64.ofNat (10 ^ (10 - Q))) h148 n0 Z148 (own_p10nz (by omega))) hZ (hw _ (List.mem_of_getElem? (i := 18) rfl)) (hw _ (List.mem_of_getElem? (i := 17) rfl)) (by decide) (by decide)) (g := (mkF m 445 #[.val (.long p1), .second, .val (.int p2), .val (.int p3), .val (.int p4), .val (.int p5), .val (.int p6), .val (.ref pt), .val (.long w0), .second, .val (.ref bt), .val (.int fr), .val (.int to), .val (.int ps), .val (.int bb), .val (.int cr), .val (.int dg), .val (.long w0), .second, .unset, .unset, .unset, .unset] [(.long (Int64.ofNat (10 ^ (10 - Q)))), (.long w0), (.long ((bb - (48 : Int32)).toInt64)), (.long w0)])) rfl (by rw [hml]; rfl) (argsL := [(.long w0), (.long (Int64.ofNat (10 ^ (10 - Q))))]) (rest := [(.long ((bb - (48 : Int32)).toInt64)), (.long w0)]) (lenOf pd_0 rfl) rfl (by show 2 * 0 + _ ≤ _; exact Nat.le_of_eq rfl) (hb hby at_445) (fun _ _ => ⟨rfl, e148, (by decide : 2 + 0 ≤ _), (by decide : 23 + 0 ≤ _)⟩)
      obtain ⟨Lc167, hQ167, X167⟩ := own_out hP167 X167
      clear hP167
      dsimp only [Pt.U, Pt.locs, Pt.cells, Pt.slots] at X167 st167 hQ167
      obtain ⟨rfl, Nq167, eh167⟩ := hQ167
      have N167 := Fr.app N148 Nq167
      have pr168 : ∀ t, Steps p.tables e below (T167.setTop (mkF m 448 #[.val (.long p1), .second, .val (.int p2), .val (.int p3), .val (.int p4), .val (.int p5), .val (.int p6), .val (.ref pt), .val (.long w0), .second, .val (.ref bt), .val (.int fr), .val (.int to), .val (.int ps), .val (.int bb), .val (.int cr), .val (.int dg), .val (.long w0), .second, .unset, .unset, .unset, .unset] [(.long (own_digit w0 (Int64.ofNat (10 ^ (10 - Q))))), (.long ((bb - (48 : Int32)).toInt64)), (.long w0)])) t → G t := fun t ks => pr166 t (st167 t ks)
      have pr169 : ∀ t, Steps p.tables e below (T167.setTop (mkF m 461 #[.val (.long p1), .second, .val (.int p2), .val (.int p3), .val (.int p4), .val (.int p5), .val (.int p6), .val (.ref pt), .val (.long w0), .second, .val (.ref bt), .val (.int fr), .val (.int to), .val (.int ps), .val (.int bb), .val (.int cr), .val (.int dg), .val (.long (w0 + ((((bb - (48 : Int32)).toInt64) - (own_digit w0 (Int64.ofNat (10 ^ (10 - Q))))) * (Int64.ofNat (10 ^ (10 - Q)))))), .second, .unset, .unset, .unset, .unset] [])) t → G t := fun t ks => pr168 t (by
          refine XS.lsub X167.here hx rfl (hb hby at_448) rfl ?_
          refine XS.aload X167.here hx rfl (hb hby at_449) rfl rfl ?_
          refine XS.bipush X167.here hx rfl (hb hby at_451) ?_
          refine XS.iload X167.here hx rfl (hb hby at_453) rfl ?_
          refine XS.isub X167.here hx rfl (hb hby at_455) rfl ?_
          refine la_ldJ X167 hx hZ eh167 V_pt (j := ((10 : Int32) - ps)) (10 - Q) (own_six (a := 10) rfl eps (by omega) (by omega)).1 (own_six (a := 10) rfl eps (by omega) (by omega)).2 (show (10 - Q) < 12 by omega) (w := (Int64.ofNat (10 ^ (10 - Q)))) (own_p10 (by omega)) (g := (mkF m 456 #[.val (.long p1), .second, .val (.int p2), .val (.int p3), .val (.int p4), .val (.int p5), .val (.int p6), .val (.ref pt), .val (.long w0), .second, .val (.ref bt), .val (.int fr), .val (.int to), .val (.int ps), .val (.int bb), .val (.int cr), .val (.int dg), .val (.long w0), .second, .unset, .unset, .unset, .unset] [(.int ((10 : Int32) - ps)), (.ref pt), (.long (((bb - (48 : Int32)).toInt64) - (own_digit w0 (Int64.ofNat (10 ^ (10 - Q)))))), (.long w0)])) rfl rfl (hb hby at_456) _ ?_
          refine XS.lmul X167.here hx rfl (hb hby at_457) rfl ?_
          refine XS.ladd X167.here hx rfl (hb hby at_458) rfl ?_
          refine XS.lstore X167.here hx rfl (hb hby at_459) rfl (l' := #[.val (.long p1), .second, .val (.int p2), .val (.int p3), .val (.int p4), .val (.int p5), .val (.int p6), .val (.ref pt), .val (.long w0), .second, .val (.ref bt), .val (.int fr), .val (.int to), .val (.int ps), .val (.int bb), .val (.int cr), .val (.int dg), .val (.long (w0 + ((((bb - (48 : Int32)).toInt64) - (own_digit w0 (Int64.ofNat (10 ^ (10 - Q))))) * (Int64.ofNat (10 ^ (10 - Q)))))), .second, .unset, .unset, .unset, .unset]) rfl ?_
          exact ks)
      obtain ⟨wc, hwc⟩ : ∃ z : Int64, z = (w0 + ((((bb - (48 : Int32)).toInt64) - (own_digit w0 (Int64.ofNat (10 ^ (10 - Q))))) * (Int64.ofNat (10 ^ (10 - Q))))) := ⟨_, rfl⟩
      rw [← hwc] at pr169
      have pr170 : ∀ t, Steps p.tables e below (T167.setTop (mkF m 465 #[.val (.long p1), .second, .val (.int p2), .val (.int p3), .val (.int p4), .val (.int p5), .val (.int p6), .val (.ref pt), .val (.long w0), .second, .val (.ref bt), .val (.int fr), .val (.int to), .val (.int ps), .val (.int bb), .val (.int cr), .val (.int dg), .val (.long wc), .second, .unset, .unset, .unset, .unset] [(.int to), (.int fr)])) t → G t := fun t ks => pr169 t (by
          refine XS.iload X167.here hx rfl (hb hby at_461) rfl ?_
          refine XS.iload X167.here hx rfl (hb hby at_463) rfl ?_
          exact ks)
      obtain ⟨exC, hexC⟩ : ∃ z : Int64, z = (if fr = to then (-1 : Int64) else (if (0 : Int32) < (lcmpW ((wc / (Int64.ofNat (10 ^ (11 - ta)))) - ((wc / (Int64.ofNat (10 ^ (11 - ta)))) / (Int64.ofNat (10 ^ (ta - fa)))) * (Int64.ofNat (10 ^ (ta - fa)))) (4294967295 : Int64)) then (-1 : Int64) else ((wc / (Int64.ofNat (10 ^ (11 - ta)))) - ((wc / (Int64.ofNat (10 ^ (11 - ta)))) / (Int64.ofNat (10 ^ (ta - fa)))) * (Int64.ofNat (10 ^ (ta - fa)))))) := ⟨_, rfl⟩
      obtain ⟨j175, hj175⟩ : ∃ z : Slot, z = (if fr = to then (.unset : Slot) else (.val (.long ((wc / (Int64.ofNat (10 ^ (11 - ta)))) - ((wc / (Int64.ofNat (10 ^ (11 - ta)))) / (Int64.ofNat (10 ^ (ta - fa)))) * (Int64.ofNat (10 ^ (ta - fa))))) : Slot)) := ⟨_, rfl⟩
      obtain ⟨j176, hj176⟩ : ∃ z : Slot, z = (if fr = to then (.unset : Slot) else (.second : Slot)) := ⟨_, rfl⟩
      have pr177 : ∀ t, Steps p.tables e below (T167.setTop (mkF m 549 #[.val (.long p1), .second, .val (.int p2), .val (.int p3), .val (.int p4), .val (.int p5), .val (.int p6), .val (.ref pt), .val (.long w0), .second, .val (.ref bt), .val (.int fr), .val (.int to), .val (.int ps), .val (.int bb), .val (.int cr), .val (.int dg), .val (.long wc), .second, .val (.long exC), .second, j175, j176] [])) t → G t := by
        intro t ks
        refine pr170 t ?_
        by_cases c171 : fr = to
        · refine XS.icmpNo X167.here hx rfl (hb hby at_465) rfl (teq c171).2 ?_
          refine X167.ldc2Long hx hown (mvT hZ (hw _ (List.mem_of_getElem? (i := 27) rfl))) (g := (mkF m 468 #[.val (.long p1), .second, .val (.int p2), .val (.int p3), .val (.int p4), .val (.int p5), .val (.int p6), .val (.ref pt), .val (.long w0), .second, .val (.ref bt), .val (.int fr), .val (.int to), .val (.int ps), .val (.int bb), .val (.int cr), .val (.int dg), .val (.long wc), .second, .unset, .unset, .unset, .unset] [])) rfl (hb hby at_468) _ ?_
          refine XS.lstore X167.here hx rfl (hb hby at_471) rfl (l' := #[.val (.long p1), .second, .val (.int p2), .val (.int p3), .val (.int p4), .val (.int p5), .val (.int p6), .val (.ref pt), .val (.long w0), .second, .val (.ref bt), .val (.int fr), .val (.int to), .val (.int ps), .val (.int bb), .val (.int cr), .val (.int dg), .val (.long wc), .second, .val (.long (-1 : Int64)), .second, .unset, .unset]) rfl ?_
          refine XS.goto X167.here hx rfl (pc0 := 473) (pc' := 549) rfl (hb hby at_473) (by decide) (by decide) ?_
          have eexC : exC = (-1 : Int64) := by rw [hexC, if_pos c171]
          have ej175 : j175 = .unset := by rw [hj175, if_pos c171]
          have ej176 : j176 = .unset := by rw [hj176, if_pos c171]
          rw [eexC, ej175, ej176] at ks
          exact ks
        · refine XS.icmpYes X167.here hx rfl (pc0 := 465) (pc' := 476) rfl (hb hby at_465) rfl (feq c171).2 (by decide) (by decide) ?_
          refine XS.iload X167.here hx rfl (hb hby at_476) rfl ?_
          refine XS.ifNo X167.here hx rfl (hb hby at_478) rfl ((if0 _ _).trans (feq hcr).1) ?_
          refine XS.iload X167.here hx rfl (hb hby at_481) rfl ?_
          refine XS.ifYes X167.here hx rfl (pc0 := 483) (pc' := 508) rfl (hb hby at_483) rfl ((if0 _ _).trans (feq hdz).2) (by decide) (by decide) ?_
          refine XS.lload X167.here hx rfl (hb hby at_508) rfl ?_
          refine XS.aload X167.here hx rfl (hb hby at_510) rfl rfl ?_
          refine XS.bipush X167.here hx rfl (hb hby at_512) ?_
          refine XS.iload X167.here hx rfl (hb hby at_514) rfl ?_
          refine XS.isub X167.here hx rfl (hb hby at_516) rfl ?_
          refine la_ldJ X167 hx hZ eh167 V_pt (j := ((11 : Int32) - to)) (11 - ta) (own_six (a := 11) rfl eto (by omega) (by omega)).1 (own_six (a := 11) rfl eto (by omega) (by omega)).2 (show (11 - ta) < 12 by omega) (w := (Int64.ofNat (10 ^ (11 - ta)))) (own_p10 (by omega)) (g := (mkF m 517 #[.val (.long p1), .second, .val (.int p2), .val (.int p3), .val (.int p4), .val (.int p5), .val (.int p6), .val (.ref pt), .val (.long w0), .second, .val (.ref bt), .val (.int fr), .val (.int to), .val (.int ps), .val (.int bb), .val (.int cr), .val (.int dg), .val (.long wc), .second, .unset, .unset, .unset, .unset] [(.int ((11 : Int32) - to)), (.ref pt), (.long wc)])) rfl rfl (hb hby at_517) _ ?_
          refine XS.ldiv X167.here hx rfl (hb hby at_518) rfl hD1 ?_
          refine XS.aload X167.here hx rfl (hb hby at_519) rfl rfl ?_
          refine XS.iload X167.here hx rfl (hb hby at_521) rfl ?_
          refine XS.iload X167.here hx rfl (hb hby at_523) rfl ?_
          refine XS.isub X167.here hx rfl (hb hby at_525) rfl ?_
          refine la_ldJ X167 hx hZ eh167 V_pt (j := (to - fr)) (ta - fa) (own_six eto efr (by omega) (by omega)).1 (own_six eto efr (by omega) (by omega)).2 (show (ta - fa) < 12 by omega) (w := (Int64.ofNat (10 ^ (ta - fa)))) (own_p10 (by omega)) (g := (mkF m 526 #[.val (.long p1), .second, .val (.int p2), .val (.int p3), .val (.int p4), .val (.int p5), .val (.int p6), .val (.ref pt), .val (.long w0), .second, .val (.ref bt), .val (.int fr), .val (.int to), .val (.int ps), .val (.int bb), .val (.int cr), .val (.int dg), .val (.long wc), .second, .unset, .unset, .unset, .unset] [(.int (to - fr)), (.ref pt), (.long (wc / (Int64.ofNat (10 ^ (11 - ta)))))])) rfl rfl (hb hby at_526) _ ?_
          refine XS.lrem X167.here hx rfl (hb hby at_527) rfl hD2 ?_
          refine XS.lstore X167.here hx rfl (hb hby at_528) rfl (l' := #[.val (.long p1), .second, .val (.int p2), .val (.int p3), .val (.int p4), .val (.int p5), .val (.int p6), .val (.ref pt), .val (.long w0), .second, .val (.ref bt), .val (.int fr), .val (.int to), .val (.int ps), .val (.int bb), .val (.int cr), .val (.int dg), .val (.long wc), .second, .unset, .unset, .val (.long ((wc / (Int64.ofNat (10 ^ (11 - ta)))) - ((wc / (Int64.ofNat (10 ^ (11 - ta)))) / (Int64.ofNat (10 ^ (ta - fa)))) * (Int64.ofNat (10 ^ (ta - fa))))), .second]) rfl ?_
          refine XS.lload X167.here hx rfl (hb hby at_530) rfl ?_
          refine X167.ldc2Long hx hown (mvT hZ (hw _ (List.mem_of_getElem? (i := 20) rfl))) (g := (mkF m 532 #[.val (.long p1), .second, .val (.int p2), .val (.int p3), .val (.int p4), .val (.int p5), .val (.int p6), .val (.ref pt), .val (.long w0), .second, .val (.ref bt), .val (.int fr), .val (.int to), .val (.int ps), .val (.int bb), .val (.int cr), .val (.int dg), .val (.long wc), .second, .unset, .unset, .val (.long ((wc / (Int64.ofNat (10 ^ (11 - ta)))) - ((wc / (Int64.ofNat (10 ^ (11 - ta)))) / (Int64.ofNat (10 ^ (ta - fa)))) * (Int64.ofNat (10 ^ (ta - fa))))), .second] [(.long ((wc / (Int64.ofNat (10 ^ (11 - ta)))) - ((wc / (Int64.ofNat (10 ^ (11 - ta)))) / (Int64.ofNat (10 ^ (ta - fa)))) * (Int64.ofNat (10 ^ (ta - fa)))))])) rfl (hb hby at_532) _ ?_
          refine XS.lcmp X167.here hx rfl (hb hby at_535) rfl ?_
          by_cases c174 : (0 : Int32) < (lcmpW ((wc / (Int64.ofNat (10 ^ (11 - ta)))) - ((wc / (Int64.ofNat (10 ^ (11 - ta)))) / (Int64.ofNat (10 ^ (ta - fa)))) * (Int64.ofNat (10 ^ (ta - fa)))) (4294967295 : Int64))
          · refine XS.ifNo X167.here hx rfl (hb hby at_536) rfl ((if0 _ _).trans (tlt c174).2.2.2) ?_
            refine X167.ldc2Long hx hown (mvT hZ (hw _ (List.mem_of_getElem? (i := 27) rfl))) (g := (mkF m 539 #[.val (.long p1), .second, .val (.int p2), .val (.int p3), .val (.int p4), .val (.int p5), .val (.int p6), .val (.ref pt), .val (.long w0), .second, .val (.ref bt), .val (.int fr), .val (.int to), .val (.int ps), .val (.int bb), .val (.int cr), .val (.int dg), .val (.long wc), .second, .unset, .unset, .val (.long ((wc / (Int64.ofNat (10 ^ (11 - ta)))) - ((wc / (Int64.ofNat (10 ^ (11 - ta)))) / (Int64.ofNat (10 ^ (ta - fa)))) * (Int64.ofNat (10 ^ (ta - fa))))), .second] [])) rfl (hb hby at_539) _ ?_
            refine XS.goto X167.here hx rfl (pc0 := 542) (pc' := 547) rfl (hb hby at_542) (by decide) (by decide) ?_
            refine XS.lstore X167.here hx rfl (hb hby at_547) rfl (l' := #[.val (.long p1), .second, .val (.int p2), .val (.int p3), .val (.int p4), .val (.int p5), .val (.int p6), .val (.ref pt), .val (.long w0), .second, .val (.ref bt), .val (.int fr), .val (.int to), .val (.int ps), .val (.int bb), .val (.int cr), .val (.int dg), .val (.long wc), .second, .val (.long (-1 : Int64)), .second, .val (.long ((wc / (Int64.ofNat (10 ^ (11 - ta)))) - ((wc / (Int64.ofNat (10 ^ (11 - ta)))) / (Int64.ofNat (10 ^ (ta - fa)))) * (Int64.ofNat (10 ^ (ta - fa))))), .second]) rfl ?_
            have eexC : exC = (-1 : Int64) := by rw [hexC, if_neg c171, if_pos c174]
            have ej175 : j175 = .val (.long ((wc / (Int64.ofNat (10 ^ (11 - ta)))) - ((wc / (Int64.ofNat (10 ^ (11 - ta)))) / (Int64.ofNat (10 ^ (ta - fa)))) * (Int64.ofNat (10 ^ (ta - fa))))) := by rw [hj175, if_neg c171]
            have ej176 : j176 = .second := by rw [hj176, if_neg c171]
            rw [eexC, ej175, ej176] at ks
            exact ks
          · refine XS.ifYes X167.here hx rfl (pc0 := 536) (pc' := 545) rfl (hb hby at_536) rfl ((if0 _ _).trans (flt c174).2.2.2) (by decide) (by decide) ?_
            refine XS.lload X167.here hx rfl (hb hby at_545) rfl ?_
            refine XS.lstore X167.here hx rfl (hb hby at_547) rfl (l' := #[.val (.long p1), .second, .val (.int p2), .val (.int p3), .val (.int p4), .val (.int p5), .val (.int p6), .val (.ref pt), .val (.long w0), .second, .val (.ref bt), .val (.int fr), .val (.int to), .val (.int ps), .val (.int bb), .val (.int cr), .val (.int dg), .val (.long wc), .second, .val (.long ((wc / (Int64.ofNat (10 ^ (11 - ta)))) - ((wc / (Int64.ofNat (10 ^ (11 - ta)))) / (Int64.ofNat (10 ^ (ta - fa)))) * (Int64.ofNat (10 ^ (ta - fa))))), .second, .val (.long ((wc / (Int64.ofNat (10 ^ (11 - ta)))) - ((wc / (Int64.ofNat (10 ^ (11 - ta)))) / (Int64.ofNat (10 ^ (ta - fa)))) * (Int64.ofNat (10 ^ (ta - fa))))), .second]) rfl ?_
            have eexC : exC = ((wc / (Int64.ofNat (10 ^ (11 - ta)))) - ((wc / (Int64.ofNat (10 ^ (11 - ta)))) / (Int64.ofNat (10 ^ (ta - fa)))) * (Int64.ofNat (10 ^ (ta - fa)))) := by rw [hexC, if_neg c171, if_neg c174]
            have ej175 : j175 = .val (.long ((wc / (Int64.ofNat (10 ^ (11 - ta)))) - ((wc / (Int64.ofNat (10 ^ (11 - ta)))) / (Int64.ofNat (10 ^ (ta - fa)))) * (Int64.ofNat (10 ^ (ta - fa))))) := by rw [hj175, if_neg c171]
            have ej176 : j176 = .second := by rw [hj176, if_neg c171]
            rw [eexC, ej175, ej176] at ks
            exact ks
      have pr178 : ∀ t, Steps p.tables e below (T167.setTop (mkF m 555 #[.val (.long p1), .second, .val (.int p2), .val (.int p3), .val (.int p4), .val (.int p5), .val (.int p6), .val (.ref pt), .val (.long w0), .second, .val (.ref bt), .val (.int fr), .val (.int to), .val (.int ps), .val (.int bb), .val (.int cr), .val (.int dg), .val (.long wc), .second, .val (.long exC), .second, j175, j176] [(.int to), (.int fr), (.ref bt)])) t → G t := fun t ks => pr177 t (by
          refine XS.aload X167.here hx rfl (hb hby at_549) rfl rfl ?_
          refine XS.iload X167.here hx rfl (hb hby at_551) rfl ?_
          refine XS.iload X167.here hx rfl (hb hby at_553) rfl ?_
          exact ks)
      obtain ⟨_, _, ⟨T179, L179, k179, n179⟩, -, X179, hP179, st179⟩ := Jvm.LawKit.callS X167 hx (y := (⟨"com/example/gneiss/gneiss/graph/EdgeList", "decimal", "([BII)J"⟩ : MethodName)) hown (mvT hZ (hw _ (List.mem_of_getElem? (i := 21) rfl))) (mvT hZ (hw _ (List.mem_of_getElem? (i := 22) rfl))) (mvT hZ (hw _ (List.mem_of_getElem? (i := 23) rfl))) (mvT hZ (hw _ (List.mem_of_getElem? (i := 24) rfl))) (by decide) (backOf (W := 0) (rm2 l Z a0 hw [] bt fr to k56 11 (vs.set Q bb) fa ta h148 n0 Z148 V_bt efr eto (by rw [List.length_set, hvl]; omega) hle (by omega)) hZ (hw _ (List.mem_of_getElem? (i := 24) rfl)) (hw _ (List.mem_of_getElem? (i := 23) rfl)) (by decide) (by decide)) (g := (mkF m 555 #[.val (.long p1), .second, .val (.int p2), .val (.int p3), .val (.int p4), .val (.int p5), .val (.int p6), .val (.ref pt), .val (.long w0), .second, .val (.ref bt), .val (.int fr), .val (.int to), .val (.int ps), .val (.int bb), .val (.int cr), .val (.int dg), .val (.long wc), .second, .val (.long exC), .second, j175, j176] [(.int to), (.int fr), (.ref bt)])) rfl (by rw [hml]; rfl) (argsL := [(.ref bt), (.int fr), (.int to)]) (rest := []) (lenOf pd_1 rfl) rfl (by show 2 * 0 + _ ≤ _; exact Nat.le_of_eq rfl) (hb hby at_555) (fun _ _ => ⟨rfl, eh167, (by decide : 2 + 0 ≤ _), (by decide : 23 + 0 ≤ _)⟩)
      obtain ⟨Lc179, hQ179, X179⟩ := own_out hP179 X179
      clear hP179
      dsimp only [Pt.U, Pt.locs, Pt.cells, Pt.slots] at X179 st179 hQ179
      obtain ⟨rfl, Nq179, eh179⟩ := hQ179
      have N179 := Fr.app N167 Nq179
      have pr180 : ∀ t, Steps p.tables e below (T179.setTop (mkF m 558 #[.val (.long p1), .second, .val (.int p2), .val (.int p3), .val (.int p4), .val (.int p5), .val (.int p6), .val (.ref pt), .val (.long w0), .second, .val (.ref bt), .val (.int fr), .val (.int to), .val (.int ps), .val (.int bb), .val (.int cr), .val (.int dg), .val (.long wc), .second, .val (.long exC), .second, j175, j176] [(.long (own_decimal (vs.set Q bb) fa ta))])) t → G t := fun t ks => pr178 t (st179 t ks)
      have hfin : own_decimal (vs.set Q bb) fa ta = exC := by rw [hexC]; exact own_lawC hvd hvl hfa hle hta hQ efr eto ew hW hwc (by rw [← hdg]; assumption)
      rw [hfin] at pr180
      have pr181 : ∀ t, Steps p.tables e below (T179.setTop (mkF m 569 #[.val (.long p1), .second, .val (.int p2), .val (.int p3), .val (.int p4), .val (.int p5), .val (.int p6), .val (.ref pt), .val (.long w0), .second, .val (.ref bt), .val (.int fr), .val (.int to), .val (.int ps), .val (.int bb), .val (.int cr), .val (.int dg), .val (.long wc), .second, .val (.long exC), .second, j175, j176] [(.int (1 : Int32))])) t → G t := fun t ks => pr180 t (by
          refine XS.lload X179.here hx rfl (hb hby at_558) rfl ?_
          refine XS.lcmp X179.here hx rfl (hb hby at_560) rfl ?_
          refine XS.ifNo X179.here hx rfl (hb hby at_561) rfl ((if0 _ _).trans (teq (own_lc0 exC)).2) ?_
          refine XS.iconst X179.here hx rfl (hb hby at_564) ?_
          refine XS.goto X179.here hx rfl (pc0 := 565) (pc' := 569) rfl (hb hby at_565) (by decide) (by decide) ?_
          exact ks)
      obtain ⟨fs, hr, hrun, hended, hW, hsame⟩ := X179.leave (v := some (.int 1)) (fun h => by rw [Bd.returns] at h; cases h)
      refine ⟨_, _, hG _ (pr181 _ ?_), hrun, hended, _, _, rfl, ?_, ⟨_, rfl⟩, hW, hsame.mono (by decide) (by decide)⟩
      · exact retN X179 hx (t := .boolean) Bd.returns (by simp) (hb hby at_569) (by rw [show nar .boolean (1 : Int32) = 1 from rfl]; exact hr)
      · show Q0 n0 _ T179.heap _
        rw [eh179]
        exact ⟨rfl, N179⟩
set_option maxRecDepth 65536 in
set_option maxHeartbeats 40000000 in
theorem comes_1 {Post : Tables → Env → Array Value → State → Outcome → State → Prop} (hpost : ∀ tb e args s v u, (limb_1_1.after args s (.returned v) u = true ∧ limb_1_2.after args s (.returned v) u = true ∧ True) → FrameEnd s (.returned v) u (Jvm.fieldLocs frame_1_writes args s ++ Jvm.arrayLocs frame_1_arrays args s ++ Jvm.staticLocs frame_1_statics s) 16 128 → Post tb e args s (.returned v) u) :
    ArmFor flags0 classFile x code maxLocals ret World_1 tables_1 room_1 Calls_1 rest_1 Pre_1 Post := by
  intro l hfl _ _ p e ha hc hk s m args below hf hA hF happ hP
  obtain ⟨hcalls, hrest, hpre⟩ := hP
  obtain ⟨-, -, -, hnamed, -, -, -, hat⟩ := (Spec.applies_iff hf).mp happ
  obtain ⟨hg, hn⟩ := and_e (Cond.before_iff.mp (show (Jvm.Cond.and given_1 narrow_1).before args s = true from hpre))
  obtain ⟨hcount, g0⟩ := and_e hg
  obtain ⟨ga0, g1⟩ := and_e g0
  obtain ⟨ga1, g2⟩ := and_e g1
  obtain ⟨ga2, g3⟩ := and_e g2
  obtain ⟨ga3, g4⟩ := and_e g3
  obtain ⟨ga4, g5⟩ := and_e g4
  have ga5 := g5
  obtain ⟨w0, w1, w2, w3, w4, w5, rfl⟩ : ∃ w0 w1 w2 w3 w4 w5 : Value, args = #[w0, w1, w2, w3, w4, w5] := by
    have hs : args.size = 6 := by simpa [Cond.value, given_1] using hcount
    obtain ⟨L⟩ := args
    match L, hs with
    | [w0, w1, w2, w3, w4, w5], _ => exact ⟨w0, w1, w2, w3, w4, w5, rfl⟩
  have hw := fun d (hd : d ∈ tables_1) => atoms_spec (ws := Jvm.Cond.code x code maxLocals ret :: tables_1) hat d (List.mem_cons_of_mem _ hd)
  obtain ⟨i0, ei0⟩ := isL_v ga0
  obtain rfl : w0 = (.long i0) := Option.some.inj ei0
  obtain ⟨i1, ei1⟩ := is_v ga1
  obtain rfl : w1 = (.int i1) := Option.some.inj ei1
  obtain ⟨i2, ei2⟩ := is_v ga2
  obtain rfl : w2 = (.int i2) := Option.some.inj ei2
  obtain ⟨i3, ei3⟩ := is_v ga3
  obtain rfl : w3 = (.int i3) := Option.some.inj ei3
  obtain ⟨i4, ei4⟩ := is_v ga4
  obtain rfl : w4 = (.int i4) := Option.some.inj ei4
  obtain ⟨i5, ei5⟩ := is_v ga5
  obtain rfl : w5 = (.int i5) := Option.some.inj ei5
  obtain ⟨n, o, h1, h2, h3, _, L, rfl, ⟨rfl, N⟩, hq⟩ := rm0 l s _ hw tables_1 i0 i1 i2 i3 i4 i5  s.heap s.heap.size (Nat.le_refl _)  p e ha hc hk s m _ below hf ((Spec.applies_iff_loose hf).mp happ).1 ⟨rfl, State.Warmed39.refl s, rfl⟩ trivial
  refine ⟨n, _, h1, h2, h3, hpost _ _ _ _ _ _ ⟨Cond.after_iff.mpr rfl, Cond.after_iff.mpr (eq_i res_at (Term.int_eval (1)) rfl), trivial⟩ ⟨hq.1, hq.2.1, (hq.2.2.sift fun y hy => Or.inr (N y hy)).mono (by decide) (by decide)⟩⟩
theorem main_1_1 : Claimed_1_1 := comes_1 fun _ _ _ _ _ _ h hF => ⟨h.1, hF⟩
theorem main_1_2 : Claimed_1_2 := comes_1 fun _ _ _ _ _ _ h hF => ⟨h.2.1, hF⟩
end Jvm.Pilot.@@N@@
namespace Jvm.Pilot.@@N@@
open Jvm Jvm.ClassFile Sem Op Lib Jvm.Free Jvm.Stand Jvm.Pilot.@@N@@.Jvm.D
/-! MADE BY PROGRAM (witnessworld.py) out of the Statement's table words and the real class files: 11 classes; the members and pool entries that the words name. The judged class is class 1, her method 2. -/
namespace start1
open Jvm.ClassFile
def u (s : String) : CpInfo := .utf8 (stringToUtf16 s)
/-- a pool by its gaps: so many unusable entries, then the entry; so many at the end -/
def gap : Nat → List CpInfo → List CpInfo
  | 0, r => r
  | n + 1, r => .unusable :: gap n r
def poolList (es : List (Nat × CpInfo)) (last : Nat) : List CpInfo := es.foldr (fun e r => gap e.1 (e.2 :: r)) (gap last [])
def pool (es : List (Nat × CpInfo)) (last : Nat) : Array CpInfo := ⟨poolList es last⟩
def fileOf (pool : Array CpInfo) (this : Nat) (attrs : Array Attribute := #[]) (ms : Array MethodInfo := #[]) (fl : Nat := 33) (sup : Nat := 0) (ifs : Array Nat := #[]) (fds : Array FieldInfo := #[]) : ClassFile where
  minorVersion := 0
  majorVersion := 65
  constantPool := pool
  accessFlags := fl
  thisClass := this
  superClass := sup
  interfaces := ifs
  fields := fds
  methods := ms
  attributes := attrs
def plain (name : String) (sup : Option ClassId) : Class where
  name := name
  kind := .ordinary
  loader := none
  accessFlags := 33
  super := sup
  interfaces := #[]
  cf := none
  fields := #[]
  methods := #[]
  instanceTypes := #[]
  staticTypes := #[]
  resolved := #[]
  callSites := []
  init := .initialized
  statics := none
  mirror := none

def pool0 : Array CpInfo := pool [(5, u "<init>"), (0, u "()V"), (1, .class_ 10), (1, u "java/lang/Object")] 113

def k0m0 : Method := { name := "<init>", desc := "()V", sig := { parameters := [], returnType := none }, accessFlags := 1, code := none }
/-- java/lang/Object -/
def k0 : Class := { plain "java/lang/Object" none with
  accessFlags := 33
  interfaces := #[]
  cf := some (fileOf pool0 8 #[] #[{ accessFlags := 1, nameIndex := 5, descriptorIndex := 6, attributes := #[] }] 33 0 #[] #[])
  fields := #[]
  methods := #[k0m0]
  instanceTypes := #[]
  staticTypes := #[]
  resolved := Array.replicate 124 none
  statics := none }

def pool1 : Array CpInfo := pool [(2, .class_ 4), (1, u "java/lang/Object"), (0, u "<init>"), (0, u "()V"), (0, .long 10), (1, .long 100), (1, .long 1000), (1, .long 10000), (1, .long 100000), (1, .long 1000000), (1, .long 10000000), (1, .long 100000000), (1, .long 1000000000), (1, .long 10000000000), (1, .long 100000000000), (3, .long 9223372036854775807), (1, .long 48), (1, .methodref 36 37), (0, .class_ 38), (0, .nameAndType 39 40), (0, u "com/example/gneiss/gneiss/graph/EdgeListDecimalPinLaw"), (0, u "digit"), (0, u "(JJ)J"), (0, .integer 2147483647), (0, .long 18446744073709551615), (3, .long 4294967295), (1, .methodref 49 50), (0, .class_ 51), (0, .nameAndType 52 53), (0, u "com/example/gneiss/gneiss/graph/EdgeList"), (0, u "decimal"), (0, u "([BII)J"), (2, u "law"), (0, u "(JIIIII)Z")] 7

def k1m0 : Method := { name := "<init>", desc := "()V", sig := { parameters := [], returnType := none }, accessFlags := 1, code := none }
def k1c1 : Code := { maxStack := 4, maxLocals := 4, code := method_2_code, exceptionTable := #[], attributes := #[] }
def k1m1 : Method := { name := "digit", desc := "(JJ)J", sig := { parameters := [.long, .long], returnType := some .long }, accessFlags := 10, code := some k1c1 }
def k1c2 : Code := { maxStack := 9, maxLocals := 23, code := code, exceptionTable := #[], attributes := #[] }
def k1m2 : Method := { name := "law", desc := "(JIIIII)Z", sig := { parameters := [.long, .int, .int, .int, .int, .int], returnType := some .boolean }, accessFlags := 9, code := some k1c2 }
/-- com/example/gneiss/gneiss/graph/EdgeListDecimalPinLaw -/
def k1 : Class := { plain "com/example/gneiss/gneiss/graph/EdgeListDecimalPinLaw" (some 0) with
  accessFlags := 49
  interfaces := #[]
  cf := some (fileOf pool1 36 #[] #[{ accessFlags := 1, nameIndex := 5, descriptorIndex := 6, attributes := #[] }, { accessFlags := 10, nameIndex := 39, descriptorIndex := 40, attributes := #[] }, { accessFlags := 9, nameIndex := 56, descriptorIndex := 57, attributes := #[] }] 49 2 #[] #[])
  fields := #[]
  methods := #[k1m0, k1m1, k1m2]
  instanceTypes := #[]
  staticTypes := #[]
  resolved := Array.replicate 65 none
  statics := none }

def pool2 : Array CpInfo := pool [(4, .class_ 6), (1, u "java/lang/Object"), (0, u "<init>"), (0, u "()V"), (0, .class_ 10), (0, u "com/example/gneiss/gneiss/graph/EdgeList"), (17, u "decimal"), (0, u "([BII)J"), (29, .long 18446744073709551615), (1, .long 10), (1, .long 4294967295), (1, u "LONGEST_LINE"), (0, u "I"), (2, u "COMMENT"), (0, u "B"), (1, u "CARRIAGE_RETURN"), (1, u "NODE_NUMBER"), (0, u "Ljava/lang/String;")] 34

def k2m0 : Method := { name := "<init>", desc := "()V", sig := { parameters := [], returnType := none }, accessFlags := 2, code := none }
def k2c1 : Code := { maxStack := 4, maxLocals := 7, code := prog_52_method_4_code, exceptionTable := #[], attributes := #[] }
def k2m1 : Method := { name := "decimal", desc := "([BII)J", sig := { parameters := [(.array .byte), .int, .int], returnType := some .long }, accessFlags := 8, code := some k2c1 }
/-- com/example/gneiss/gneiss/graph/EdgeList -/
def k2 : Class := { plain "com/example/gneiss/gneiss/graph/EdgeList" (some 0) with
  accessFlags := 49
  interfaces := #[]
  cf := some (fileOf pool2 9 #[] #[{ accessFlags := 2, nameIndex := 7, descriptorIndex := 8, attributes := #[] }, { accessFlags := 8, nameIndex := 28, descriptorIndex := 29, attributes := #[] }] 49 4 #[] #[{ accessFlags := 25, nameIndex := 65, descriptorIndex := 66, attributes := #[] }, { accessFlags := 26, nameIndex := 69, descriptorIndex := 70, attributes := #[] }, { accessFlags := 26, nameIndex := 72, descriptorIndex := 70, attributes := #[] }, { accessFlags := 26, nameIndex := 74, descriptorIndex := 75, attributes := #[] }])
  fields := #[{ name := "LONGEST_LINE", type := .int, accessFlags := 25, slot := 0, constantValue := 0 }, { name := "COMMENT", type := .byte, accessFlags := 26, slot := 1, constantValue := 0 }, { name := "CARRIAGE_RETURN", type := .byte, accessFlags := 26, slot := 2, constantValue := 0 }, { name := "NODE_NUMBER", type := (.object "java/lang/String"), accessFlags := 26, slot := 3, constantValue := 0 }]
  methods := #[k2m0, k2m1]
  instanceTypes := #[]
  staticTypes := #[.int, .byte, .byte, (.object "java/lang/String")]
  resolved := Array.replicate 110 none
  statics := none }

def pool3 : Array CpInfo := pool [(1, u "java/lang/Cloneable"), (0, .class_ 1), (0, u "java/lang/Object"), (0, .class_ 3)] 3

/-- java/lang/Cloneable -/
def k3 : Class := { plain "java/lang/Cloneable" (some 0) with
  accessFlags := 1537
  interfaces := #[]
  cf := some (fileOf pool3 2 #[] #[] 1537 4 #[] #[])
  fields := #[]
  methods := #[]
  instanceTypes := #[]
  staticTypes := #[]
  resolved := Array.replicate 8 none
  statics := none }

def pool4 : Array CpInfo := pool [(1, u "java/io/Serializable"), (0, .class_ 1), (0, u "java/lang/Object"), (0, .class_ 3)] 3

/-- java/io/Serializable -/
def k4 : Class := { plain "java/io/Serializable" (some 0) with
  accessFlags := 1537
  interfaces := #[]
  cf := some (fileOf pool4 2 #[] #[] 1537 4 #[] #[])
  fields := #[]
  methods := #[]
  instanceTypes := #[]
  staticTypes := #[]
  resolved := Array.replicate 8 none
  statics := none }

/-- the primitive byte -/
def k5 : Class := { plain "byte" none with kind := .primitive 'B', accessFlags := 0x411 }
/-- [B -/
def k6 : Class := { plain "[B" (some 0) with kind := .array 5 .byte, interfaces := #[3, 4], accessFlags := 1041 }

/-- the primitive int -/
def k7 : Class := { plain "int" none with kind := .primitive 'I', accessFlags := 0x411 }
/-- [I -/
def k8 : Class := { plain "[I" (some 0) with kind := .array 7 .int, interfaces := #[3, 4], accessFlags := 1041 }

/-- the primitive long -/
def k9 : Class := { plain "long" none with kind := .primitive 'J', accessFlags := 0x411 }
/-- [J -/
def k10 : Class := { plain "[J" (some 0) with kind := .array 9 .long, interfaces := #[3, 4], accessFlags := 1041 }

def heap : Heap := #[]
def classes : Array Class := #[k0, k1, k2, k3, k4, k5, k6, k7, k8, k9, k10]
def interned : List (Array UInt16 × Addr) := []
def slotsUsed : Nat := 0
def theMethod : MethodId := ⟨1, 2⟩
def args0 : Array Value := #[.long 5, .int 6, .int 7, .int 8, .int 9, .int 10]
def aboutOver (below : List Frame) : State where
  vm := { classes := classes, interned := interned.toArray }
  heap := heap
  slotsUsed := slotsUsed
  threads := #[{ frames := .invoking theMethod args0 :: below }]
def below0 : List Frame := [.native { method := ⟨0, 0⟩, args := #[] }]
def about1 : State := aboutOver below0
def p0 : Program := .bare "" "" ""
def e0 : Env := launch0.env 0 0 0
theorem w_frames : about1.frames = Frame.invoking theMethod args0 :: below0 := rfl
set_option maxRecDepth 65536 in
theorem w_args : argsFit about1.vm theMethod args0 = true := by decide +kernel
set_option maxRecDepth 65536 in
theorem w_heap : heapFits about1 = true := by decide +kernel
set_option maxRecDepth 65536 in
theorem w_runnable : about1.curStatus? = some .runnable := by decide +kernel
set_option maxRecDepth 65536 in
theorem w_alone : about1.alone = true := by decide +kernel
set_option maxRecDepth 65536 in
theorem w_named : about1.methodNamed? x = some theMethod := by decide +kernel
set_option maxRecDepth 65536 in
theorem w_hears : about1.hears theMethod below0 = true := by decide +kernel
set_option maxRecDepth 65536 in
theorem w_ripe : about1.ripe theMethod args0 below0 = true := by decide +kernel
theorem w_running : about1.status = .running := rfl
set_option maxRecDepth 65536 in
theorem w_room : about1.hasRoom e0.platform room_1 = true :=
  launch0.hasRoom_least _ room_1 (by decide +kernel) (by decide +kernel) (by decide +kernel) (by decide +kernel) (by decide +kernel) (by decide +kernel)
theorem allAtoms_all (ts : List Jvm.Cond) (a : Array Jvm.Value) (st : Jvm.State) : (allAtoms ts).before a st = ts.all (fun c => c.before a st) := by
  induction ts with
  | nil => rfl
  | cons c t ih =>
    show (Jvm.Cond.and c (allAtoms t)).before a st = _
    rw [Jvm.Cond.before_and, ih, List.all_cons]
def words1 : List Jvm.Cond := Jvm.Cond.code x code maxLocals ret :: tables_1
/-- a 'code' word, met by the world's own term for the bytes: nothing is compared byte by byte -/
theorem code_word {y : MethodName} {bytes : ByteArray} {mx : Nat} {rt : Option FieldType} {a : Array Value} {s : State} {m : MethodId} {meth : Method} {c : Code} (h1 : s.methodNamed? y = some m) (h2 : s.vm.method? m = some meth) (h3 : meth.code = some c) (h4 : c.code = bytes)
    (h5 : (c.maxLocals == mx && c.exceptionTable.isEmpty && decide (c.maxStack ≤ mostOperands) && decide (meth.sig.returnType = rt) && !meth.locks && decide (parseMethodDescriptor y.desc = some meth.sig)) = true) : (Jvm.Cond.code y bytes mx rt).before a s = true := by
  simp only [Bool.and_eq_true, beq_iff_eq, Bool.not_eq_true', decide_eq_true_eq] at h5
  obtain ⟨⟨⟨⟨⟨g1, g2⟩, g3⟩, g4⟩, g5⟩, g6⟩ := h5
  simp [Cond.before, Cond.holds, Cond.value, h1, h2, h3, h4, g1, g2, g3, g4, g5, g6]
def isCode : Jvm.Cond → Bool
  | .code _ _ _ _ => true
  | _ => false
theorem all_split {L : List Jvm.Cond} {P : Jvm.Cond → Bool} (h1 : L.all (fun c => isCode c || P c) = true) (h2 : ∀ c ∈ L.filter isCode, P c = true) : L.all P = true := by
  refine List.all_eq_true.mpr fun c hc => ?_
  have h := List.all_eq_true.mp h1 c hc
  rcases Bool.eq_false_or_eq_true (isCode c) with hi | hi
  · exact h2 c (List.mem_filter.mpr ⟨hc, hi⟩)
  · simpa [hi] using h
set_option maxRecDepth 65536 in
theorem w_c0 : (Jvm.Cond.code x code maxLocals ret).before args0 about1 = true := code_word (m := ⟨1, 2⟩) (meth := k1m2) (c := k1c2) (by decide +kernel) rfl rfl rfl (by decide +kernel)
set_option maxRecDepth 65536 in
theorem w_c1 : (Jvm.Cond.code ({ cls := "com/example/gneiss/gneiss/graph/EdgeListDecimalPinLaw", name := "digit", desc := "(JJ)J" } : Jvm.MethodName) method_2_code (4 : Nat) (Option.some Jvm.ClassFile.FieldType.long)).before args0 about1 = true := code_word (m := ⟨1, 1⟩) (meth := k1m1) (c := k1c1) (by decide +kernel) rfl rfl rfl (by decide +kernel)
set_option maxRecDepth 65536 in
theorem w_c2 : (Jvm.Cond.code ({ cls := "com/example/gneiss/gneiss/graph/EdgeList", name := "decimal", desc := "([BII)J" } : Jvm.MethodName) prog_52_method_4_code (7 : Nat) (Option.some Jvm.ClassFile.FieldType.long)).before args0 about1 = true := code_word (m := ⟨2, 1⟩) (meth := k2m1) (c := k2c1) (by decide +kernel) rfl rfl rfl (by decide +kernel)
def codes1 : List Jvm.Cond := [Jvm.Cond.code x code maxLocals ret, Jvm.Cond.code ({ cls := "com/example/gneiss/gneiss/graph/EdgeListDecimalPinLaw", name := "digit", desc := "(JJ)J" } : Jvm.MethodName) method_2_code (4 : Nat) (Option.some Jvm.ClassFile.FieldType.long), Jvm.Cond.code ({ cls := "com/example/gneiss/gneiss/graph/EdgeList", name := "decimal", desc := "([BII)J" } : Jvm.MethodName) prog_52_method_4_code (7 : Nat) (Option.some Jvm.ClassFile.FieldType.long)]
set_option maxRecDepth 65536 in
theorem codes_eq : words1.filter isCode = codes1 := rfl
theorem w_codes : ∀ c ∈ words1.filter isCode, c.before args0 about1 = true := by
  rw [codes_eq]
  intro c hc
  simp only [codes1, List.mem_cons, List.not_mem_nil, or_false] at hc
  rcases hc with rfl | rfl | rfl
  · exact w_c0
  · exact w_c1
  · exact w_c2
set_option maxRecDepth 65536 in
theorem w_t1 : (words1.take 24).all (fun c => isCode c || c.before args0 about1) = true := by decide +kernel
set_option maxRecDepth 65536 in
theorem w_t2 : (words1.drop 24).all (fun c => isCode c || c.before args0 about1) = true := by decide +kernel
theorem w_tables : (allAtoms (Jvm.Cond.code x code maxLocals ret :: tables_1)).before args0 about1 = true := by
  rw [allAtoms_all]
  show words1.all (fun c => c.before args0 about1) = true
  refine all_split ?_ w_codes
  rw [← List.take_append_drop 24 words1, List.all_append, w_t1, w_t2]
  rfl
set_option maxRecDepth 65536 in
theorem w_case : (Jvm.Cond.and given_1 narrow_1).before args0 about1 = true := by decide +kernel
theorem w_applies : (headSpec (Jvm.Cond.code x code maxLocals ret :: tables_1) room_1).applies x e0.platform about1 = true :=
  (Spec.applies_iff w_frames).mpr ⟨w_running, w_runnable, w_alone, w_named, w_hears, w_ripe, w_room, w_tables⟩
theorem atStart : AtStart classFile x code maxLocals ret World_1 tables_1 room_1 Calls_1 rest_1 Pre_1 launch0 p0 e0 about1 theMethod args0 below0 :=
  ⟨lists_1, trivial, launch0.admits_env _ _ _, launch0.least_env, fairChoices_fair.cas, fairChoices_fair.clock, w_frames, w_args, w_heap, w_applies, trivial, trivial, w_case⟩
end start1
theorem witness_1 : WitnessClaimed_1 := ⟨start1.p0, start1.e0, start1.about1, start1.theMethod, start1.args0, start1.below0, start1.atStart⟩
end Jvm.Pilot.@@N@@
