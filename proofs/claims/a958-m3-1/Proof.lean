import JvmDerived
import JvmDerived.Pilot.@@N@@Statement
import JvmDerived.Pilot.@@N@@Code
set_option linter.unusedVariables false
set_option linter.unusedSimpArgs false
namespace Jvm.RoadKit
open Sem ClassFile Op Lib Jvm.Stand Jvm.Free Jvm.LawKit
section New
variable {p : Program} {l : Launch} {e : Env} {R : Room} {s : State} {m : MethodId} {args : Array Value} {below : List Frame} {meth : Method} {c : Code} {T : State} {locs : List Loc} {cells slots : Nat}
theorem retI (X : Stand p l e R s m args below meth c T locs cells slots) (hx : p.tables.exec = Jvm.exec) {pc : Nat} {Ls : Array Slot} {z : Int32} {rest : List Value} (hret : meth.sig.returnType = some .int) (hd : decode c.code pc = .ok (.ireturn, 1)) {fs : List Frame}
    (hl : ∀ (f : JFrame) (acts : List Action), f.method = m → f.locked = none → f.entered = [] → (doReturn e (T.setTop f) acts (some (.int z))).1 = T.setFrames fs) : Steps p.tables e below (T.setTop (mkF m pc Ls (.int z :: rest))) (T.setFrames fs) := by
  have hm' : T.vm.method? m = some meth := X.method'
  have hn : narrow .int (.int z) = .int z := rfl
  show Steps p.tables e below (T.setTop { method := m, pc := pc, locals := Ls, stack := _ :: rest, locked := none }) _
  jvm_step X.here [X.here.top, hx, hd, hm', hret, hn]
  first | (intro acts; rw [hl _ acts rfl rfl rfl]) | rw [hl _ _ rfl rfl rfl]
  exact Steps.refl _
end New
end Jvm.RoadKit
namespace Jvm.Pilot.@@N@@
open Jvm Jvm.ClassFile Sem Op Lib Jvm.Free Jvm.Stand Jvm.LawKit Jvm.RoadKit Bundle Jvm.Pilot.@@N@@.Jvm.D
theorem own_ite01 {c : Prop} [Decidable c] {a b : Int32} (ha : a = 0 ∨ a = 1) (hb : b = 0 ∨ b = 1) : (if c then a else b) = 0 ∨ (if c then a else b) = 1 := by split <;> assumption
theorem own_nz {r : Int32} (h : r = 0 ∨ r = 1) : nar .boolean r = r := by rcases h with rfl | rfl <;> rfl
section own
variable {p : Program} {l : Launch} {e : Env} {R : Room} {s : State} {m : MethodId} {args : Array Value} {below : List Frame} {meth : Method} {c : Code} {T : State} {locs : List Loc} {cells slots : Nat} {Z : State} {h h' h0 : Heap} {a b : Addr} {k : ClassId} {ty : FieldType} {n : Int32} {vs : List Int32} {ls : List Int64} {sl : Nat} {v : Value} {ws : List Addr}
/-- an array of ints (or bytes, chars, shorts, booleans), by its list -/
def IA (Z : State) (h : Heap) (a : Addr) (k : ClassId) (ty : FieldType) (n : Int32) (vs : List Int32) : Prop := Arv Z h a k ty n (vs.map Value.int) (.int 0) ∧ vs.length = n.toNatClampNeg
def LA (Z : State) (h : Heap) (a : Addr) (k : ClassId) (n : Int32) (ls : List Int64) : Prop := Arv Z h a k .long n (ls.map Value.long) (.long 0) ∧ ls.length = n.toNatClampNeg
theorem IA.lt (F : IA Z h a k ty n vs) : a < h.size := F.1.lt
theorem IA.ext (F : IA Z h a k ty n vs) (E : Ext h h') : IA Z h' a k ty n vs := ⟨F.1.ext E, F.2⟩
theorem IA.other (F : IA Z h b k ty n vs) (W : Wr h h' a sl v) (q : b ≠ a) : IA Z h' b k ty n vs := ⟨F.1.other W q, F.2⟩
theorem IA.keep (F : IA Z h a k ty n vs) (K : Keep h h' ws) (q : a ∉ ws) : IA Z h' a k ty n vs := ⟨F.1.keep K q, F.2⟩
theorem LA.lt (F : LA Z h a k n ls) : a < h.size := F.1.lt
theorem LA.ext (F : LA Z h a k n ls) (E : Ext h h') : LA Z h' a k n ls := ⟨F.1.ext E, F.2⟩
theorem LA.other (F : LA Z h b k n ls) (W : Wr h h' a sl v) (q : b ≠ a) : LA Z h' b k n ls := ⟨F.1.other W q, F.2⟩
theorem LA.keep (F : LA Z h a k n ls) (K : Keep h h' ws) (q : a ∉ ws) : LA Z h' a k n ls := ⟨F.1.keep K q, F.2⟩
theorem IA.new (A : Arr Z h a (newA k ty n) ty) (q : ¬ n < 0) (hd : defaultValue ty = .int 0) {c : Nat} (hc : n.toNatClampNeg = c) : IA Z h a k ty n (List.replicate c 0) := by
  refine ⟨?_, by rw [List.length_replicate, hc]⟩
  have F := Arv.new A q
  rw [hd] at F
  rw [List.map_replicate]
  exact F.pad (pad_rep [] (.int 0) c)
theorem LA.new (A : Arr Z h a (newA k .long n) .long) (q : ¬ n < 0) {c : Nat} (hc : n.toNatClampNeg = c) : LA Z h a k n (List.replicate c 0) := by
  refine ⟨?_, by rw [List.length_replicate, hc]⟩
  have F : Arv Z h a k .long n [] (.long 0) := Arv.new A q
  rw [List.map_replicate]
  exact F.pad (pad_rep [] (.long 0) c)
theorem own_getI (vs : List Int32) (i : Nat) : (vs.map Value.int).getD i (.int 0) = .int (vs.getD i 0) := by
  simp only [List.getD_eq_getElem?_getD, List.getElem?_map]; cases vs[i]? <;> rfl
theorem own_getL (vs : List Int64) (i : Nat) : (vs.map Value.long).getD i (.long 0) = .long (vs.getD i 0) := by
  simp only [List.getD_eq_getElem?_getD, List.getElem?_map]; cases vs[i]? <;> rfl
theorem IA.inb {cl : Cell} {j : Int32} {i : Nat} (S : cl.slots.size = n.toNatClampNeg) (hl : vs.length = n.toNatClampNeg) (hj : j.toNatClampNeg = i) (hn : ¬ j < 0) (hi : i < vs.length) : ¬ (j < 0 ∨ cl.slots.size ≤ j.toNatClampNeg) := by
  rintro (q | q)
  · exact hn q
  · rw [S, ← hl, hj] at q; omega
theorem LA.inb {cl : Cell} {j : Int32} {i : Nat} (S : cl.slots.size = n.toNatClampNeg) (hl : ls.length = n.toNatClampNeg) (hj : j.toNatClampNeg = i) (hn : ¬ j < 0) (hi : i < ls.length) : ¬ (j < 0 ∨ cl.slots.size ≤ j.toNatClampNeg) := by
  rintro (q | q)
  · exact hn q
  · rw [S, ← hl, hj] at q; omega
theorem IA.at {cl : Cell} {j : Int32} {i : Nat} {w : Int32} (H : Has cl (vs.map Value.int) (.int 0)) (S : cl.slots.size = n.toNatClampNeg) (hl : vs.length = n.toNatClampNeg) (hj : j.toNatClampNeg = i) (hi : i < vs.length) (hw : vs.getD i 0 = w) : cl.slots[j.toNatClampNeg]? = some (.int w) := by
  rw [H _ (by rw [S, ← hl, hj]; exact hi), own_getI, hj, hw]
theorem LA.at {cl : Cell} {j : Int32} {i : Nat} {w : Int64} (H : Has cl (ls.map Value.long) (.long 0)) (S : cl.slots.size = n.toNatClampNeg) (hl : ls.length = n.toNatClampNeg) (hj : j.toNatClampNeg = i) (hi : i < ls.length) (hw : ls.getD i 0 = w) : cl.slots[j.toNatClampNeg]? = some (.long w) := by
  rw [H _ (by rw [S, ← hl, hj]; exact hi), own_getL, hj, hw]
theorem ia_ldI (X : Stand p l e R s m args below meth c T locs cells slots) (hx : p.tables.exec = Jvm.exec) (hZ : Z.Warmed39 s.vm) (eT : T.heap = h) (A : IA Z h a k .int n vs) {j : Int32} (i : Nat) (hj : j.toNatClampNeg = i) (hn : ¬ j < 0) (hi : i < vs.length) {w : Int32} (hw : vs.getD i 0 = w) {g : JFrame} (hg : g.method = m) {rest : List Value} (hs : g.stack = .int j :: .ref a :: rest) (hd : decode c.code g.pc = .ok (.iaload, 1)) (target : State)
    (q : Steps p.tables e below (T.setTop { g with pc := g.pc + 1, stack := .int w :: rest }) target) : Steps p.tables e below (T.setTop g) target := by
  obtain ⟨⟨cl, Ar, -, S, -, H, -⟩, hl⟩ := A
  exact X.iaload hx (by rw [eT]; exact Ar.1) (State.isArrayOf_alike hZ.alike Ar.2.1) Ar.2.2 (IA.inb S hl hj hn hi) (IA.at H S hl hj hi hw) hg hs hd target q
theorem ia_ldC (X : Stand p l e R s m args below meth c T locs cells slots) (hx : p.tables.exec = Jvm.exec) (hZ : Z.Warmed39 s.vm) (eT : T.heap = h) (A : IA Z h a k .char n vs) {j : Int32} (i : Nat) (hj : j.toNatClampNeg = i) (hn : ¬ j < 0) (hi : i < vs.length) {w : Int32} (hw : vs.getD i 0 = w) {g : JFrame} (hg : g.method = m) {rest : List Value} (hs : g.stack = .int j :: .ref a :: rest) (hd : decode c.code g.pc = .ok (.caload, 1)) (target : State)
    (q : Steps p.tables e below (T.setTop { g with pc := g.pc + 1, stack := .int w :: rest }) target) : Steps p.tables e below (T.setTop g) target := by
  obtain ⟨⟨cl, Ar, -, S, -, H, -⟩, hl⟩ := A
  exact X.caload hx (by rw [eT]; exact Ar.1) (State.isArrayOf_alike hZ.alike Ar.2.1) Ar.2.2 (IA.inb S hl hj hn hi) (IA.at H S hl hj hi hw) hg hs hd target q
theorem ia_ldS (X : Stand p l e R s m args below meth c T locs cells slots) (hx : p.tables.exec = Jvm.exec) (hZ : Z.Warmed39 s.vm) (eT : T.heap = h) (A : IA Z h a k .short n vs) {j : Int32} (i : Nat) (hj : j.toNatClampNeg = i) (hn : ¬ j < 0) (hi : i < vs.length) {w : Int32} (hw : vs.getD i 0 = w) {g : JFrame} (hg : g.method = m) {rest : List Value} (hs : g.stack = .int j :: .ref a :: rest) (hd : decode c.code g.pc = .ok (.saload, 1)) (target : State)
    (q : Steps p.tables e below (T.setTop { g with pc := g.pc + 1, stack := .int w :: rest }) target) : Steps p.tables e below (T.setTop g) target := by
  obtain ⟨⟨cl, Ar, -, S, -, H, -⟩, hl⟩ := A
  exact X.saload hx (by rw [eT]; exact Ar.1) (State.isArrayOf_alike hZ.alike Ar.2.1) Ar.2.2 (IA.inb S hl hj hn hi) (IA.at H S hl hj hi hw) hg hs hd target q
theorem ia_ldB (X : Stand p l e R s m args below meth c T locs cells slots) (hx : p.tables.exec = Jvm.exec) (hZ : Z.Warmed39 s.vm) (eT : T.heap = h) (A : IA Z h a k .byte n vs) {j : Int32} (i : Nat) (hj : j.toNatClampNeg = i) (hn : ¬ j < 0) (hi : i < vs.length) {w : Int32} (hw : vs.getD i 0 = w) {g : JFrame} (hg : g.method = m) {rest : List Value} (hs : g.stack = .int j :: .ref a :: rest) (hd : decode c.code g.pc = .ok (.baload, 1)) (target : State)
    (q : Steps p.tables e below (T.setTop { g with pc := g.pc + 1, stack := .int w :: rest }) target) : Steps p.tables e below (T.setTop g) target := by
  obtain ⟨⟨cl, Ar, -, S, -, H, -⟩, hl⟩ := A
  exact X.baloadBytes hx (by rw [eT]; exact Ar.1) (State.isArrayOf_alike hZ.alike Ar.2.1) Ar.2.2 (IA.inb S hl hj hn hi) (IA.at H S hl hj hi hw) hg hs hd target q
theorem ia_ldZ (X : Stand p l e R s m args below meth c T locs cells slots) (hx : p.tables.exec = Jvm.exec) (hZ : Z.Warmed39 s.vm) (eT : T.heap = h) (A : IA Z h a k .boolean n vs) {j : Int32} (i : Nat) (hj : j.toNatClampNeg = i) (hn : ¬ j < 0) (hi : i < vs.length) {w : Int32} (hw : vs.getD i 0 = w) {g : JFrame} (hg : g.method = m) {rest : List Value} (hs : g.stack = .int j :: .ref a :: rest) (hd : decode c.code g.pc = .ok (.baload, 1)) (target : State)
    (q : Steps p.tables e below (T.setTop { g with pc := g.pc + 1, stack := .int w :: rest }) target) : Steps p.tables e below (T.setTop g) target := by
  obtain ⟨⟨cl, Ar, -, S, -, H, -⟩, hl⟩ := A
  exact X.baloadBooleans hx (by rw [eT]; exact Ar.1) (State.isArrayOf_alike hZ.alike Ar.2.1) Ar.2.2 (IA.inb S hl hj hn hi) (IA.at H S hl hj hi hw) hg hs hd target q
theorem la_ldJ (X : Stand p l e R s m args below meth c T locs cells slots) (hx : p.tables.exec = Jvm.exec) (hZ : Z.Warmed39 s.vm) (eT : T.heap = h) (A : LA Z h a k n ls) {j : Int32} (i : Nat) (hj : j.toNatClampNeg = i) (hn : ¬ j < 0) (hi : i < ls.length) {w : Int64} (hw : ls.getD i 0 = w) {g : JFrame} (hg : g.method = m) {rest : List Value} (hs : g.stack = .int j :: .ref a :: rest) (hd : decode c.code g.pc = .ok (.laload, 1)) (target : State)
    (q : Steps p.tables e below (T.setTop { g with pc := g.pc + 1, stack := .long w :: rest }) target) : Steps p.tables e below (T.setTop g) target := by
  obtain ⟨⟨cl, Ar, -, S, -, H, -⟩, hl⟩ := A
  exact X.laload hx (by rw [eT]; exact Ar.1) (State.isArrayOf_alike hZ.alike Ar.2.1) Ar.2.2 (LA.inb S hl hj hn hi) (LA.at H S hl hj hi hw) hg hs hd target q
theorem ia_len (X : Stand p l e R s m args below meth c T locs cells slots) (hx : p.tables.exec = Jvm.exec) (hZ : Z.Warmed39 s.vm) (eT : T.heap = h) (A : IA Z h a k ty n vs) {g : JFrame} (hg : g.method = m) {rest : List Value} (hs : g.stack = .ref a :: rest) (hd : decode c.code g.pc = .ok (.arraylength, 1)) (target : State)
    (q : Steps p.tables e below (T.setTop { g with pc := g.pc + 1, stack := .int n :: rest }) target) : Steps p.tables e below (T.setTop g) target := by
  obtain ⟨⟨cl, Ar, -, S, N, H, -⟩, hl⟩ := A
  refine X.arraylength hx (by rw [eT]; exact Ar.1) (State.isArrayOf_alike hZ.alike Ar.2.1) hg hs hd target ?_
  rw [len_of S N]; exact q
theorem la_len (X : Stand p l e R s m args below meth c T locs cells slots) (hx : p.tables.exec = Jvm.exec) (hZ : Z.Warmed39 s.vm) (eT : T.heap = h) (A : LA Z h a k n ls) {g : JFrame} (hg : g.method = m) {rest : List Value} (hs : g.stack = .ref a :: rest) (hd : decode c.code g.pc = .ok (.arraylength, 1)) (target : State)
    (q : Steps p.tables e below (T.setTop { g with pc := g.pc + 1, stack := .int n :: rest }) target) : Steps p.tables e below (T.setTop g) target := by
  obtain ⟨⟨cl, Ar, -, S, N, H, -⟩, hl⟩ := A
  refine X.arraylength hx (by rw [eT]; exact Ar.1) (State.isArrayOf_alike hZ.alike Ar.2.1) hg hs hd target ?_
  rw [len_of S N]; exact q
theorem IA.put {cl : Cell} {j : Int32} {i : Nat} {y : Int32} (Ar : Arr Z h a cl ty) (q1 : cl.cls = k) (S : cl.slots.size = n.toNatClampNeg) (N : ¬ n < 0) (H : Has cl (vs.map Value.int) (.int 0)) (G : ∀ i, i < cl.slots.size → fits ty ((vs.map Value.int).getD i (.int 0)) = true) (hl : vs.length = n.toNatClampNeg) (hv : fits ty (.int y) = true) (W : Wr h h' a j.toNatClampNeg (.int y)) (hj : j.toNatClampNeg = i) (hi : i < vs.length) : IA Z h' a k ty n (vs.set i y) := by
  refine ⟨?_, by rw [List.length_set]; exact hl⟩
  have := Arv.set Ar q1 S N H G hv W i hj (by rw [List.length_map]; exact hi)
  rwa [← List.map_set] at this
theorem LA.put {cl : Cell} {j : Int32} {i : Nat} {y : Int64} (Ar : Arr Z h a cl .long) (q1 : cl.cls = k) (S : cl.slots.size = n.toNatClampNeg) (N : ¬ n < 0) (H : Has cl (ls.map Value.long) (.long 0)) (G : ∀ i, i < cl.slots.size → fits .long ((ls.map Value.long).getD i (.long 0)) = true) (hl : ls.length = n.toNatClampNeg) (W : Wr h h' a j.toNatClampNeg (.long y)) (hj : j.toNatClampNeg = i) (hi : i < ls.length) : LA Z h' a k n (ls.set i y) := by
  refine ⟨?_, by rw [List.length_set]; exact hl⟩
  have := Arv.set Ar q1 S N H G rfl W i hj (by rw [List.length_map]; exact hi)
  rwa [← List.map_set] at this
theorem ia_stI (X : Stand p l e R s m args below meth c T locs cells slots) (hx : p.tables.exec = Jvm.exec) (hZ : Z.Warmed39 s.vm) (eT : T.heap = h) (A : IA Z h a k .int n vs) {j : Int32} (i : Nat) (hj : j.toNatClampNeg = i) (hn : ¬ j < 0) (hi : i < vs.length) {x : Int32} {g : JFrame} (hg : g.method = m) {rest : List Value} (hs : g.stack = .int x :: .int j :: .ref a :: rest) (hd : decode c.code g.pc = .ok (.iastore, 1)) :
    ∃ T' h', Stand p l e R s m args below meth c T' (locs ++ [⟨a, j.toNatClampNeg⟩]) cells slots ∧ T'.heap = h' ∧ Wr h h' a j.toNatClampNeg (.int x) ∧ IA Z h' a k .int n (vs.set i x) ∧ ∀ target, Steps p.tables e below (T'.setTop { g with pc := g.pc + 1, stack := rest }) target → Steps p.tables e below (T.setTop g) target := by
  obtain ⟨⟨cl, Ar, q1, S, N, H, G⟩, hl⟩ := A
  obtain ⟨T', h', X', e', W, st⟩ := stI X hx hZ eT Ar (IA.inb S hl hj hn hi) hg hs hd
  exact ⟨T', h', X', e', W, IA.put Ar q1 S N H G hl rfl W hj hi, st⟩
theorem la_stJ (X : Stand p l e R s m args below meth c T locs cells slots) (hx : p.tables.exec = Jvm.exec) (hZ : Z.Warmed39 s.vm) (eT : T.heap = h) (A : LA Z h a k n ls) {j : Int32} (i : Nat) (hj : j.toNatClampNeg = i) (hn : ¬ j < 0) (hi : i < ls.length) {x : Int64} {g : JFrame} (hg : g.method = m) {rest : List Value} (hs : g.stack = .long x :: .int j :: .ref a :: rest) (hd : decode c.code g.pc = .ok (.lastore, 1)) :
    ∃ T' h', Stand p l e R s m args below meth c T' (locs ++ [⟨a, j.toNatClampNeg⟩]) cells slots ∧ T'.heap = h' ∧ Wr h h' a j.toNatClampNeg (.long x) ∧ LA Z h' a k n (ls.set i x) ∧ ∀ target, Steps p.tables e below (T'.setTop { g with pc := g.pc + 1, stack := rest }) target → Steps p.tables e below (T.setTop g) target := by
  obtain ⟨⟨cl, Ar, q1, S, N, H, G⟩, hl⟩ := A
  obtain ⟨T', h', X', e', W, st⟩ := stJ X hx hZ eT Ar (LA.inb S hl hj hn hi) hg hs hd
  exact ⟨T', h', X', e', W, LA.put Ar q1 S N H G hl W hj hi, st⟩
theorem ia_stC (X : Stand p l e R s m args below meth c T locs cells slots) (hx : p.tables.exec = Jvm.exec) (hZ : Z.Warmed39 s.vm) (eT : T.heap = h) (A : IA Z h a k .char n vs) {j : Int32} (i : Nat) (hj : j.toNatClampNeg = i) (hn : ¬ j < 0) (hi : i < vs.length) {x y : Int32} (hy : nar .char x = y) {g : JFrame} (hg : g.method = m) {rest : List Value} (hs : g.stack = .int x :: .int j :: .ref a :: rest) (hd : decode c.code g.pc = .ok (.castore, 1)) :
    ∃ T' h', Stand p l e R s m args below meth c T' (locs ++ [⟨a, j.toNatClampNeg⟩]) cells slots ∧ T'.heap = h' ∧ Wr h h' a j.toNatClampNeg (.int y) ∧ IA Z h' a k .char n (vs.set i y) ∧ ∀ target, Steps p.tables e below (T'.setTop { g with pc := g.pc + 1, stack := rest }) target → Steps p.tables e below (T.setTop g) target := by
  subst hy
  obtain ⟨⟨cl, Ar, q1, S, N, H, G⟩, hl⟩ := A
  obtain ⟨T', h', X', e', W, st⟩ := stC X hx hZ eT Ar (IA.inb S hl hj hn hi) hg hs hd
  exact ⟨T', h', X', e', W, IA.put Ar q1 S N H G hl (fits_nar_char _) W hj hi, st⟩
theorem ia_stS (X : Stand p l e R s m args below meth c T locs cells slots) (hx : p.tables.exec = Jvm.exec) (hZ : Z.Warmed39 s.vm) (eT : T.heap = h) (A : IA Z h a k .short n vs) {j : Int32} (i : Nat) (hj : j.toNatClampNeg = i) (hn : ¬ j < 0) (hi : i < vs.length) {x y : Int32} (hy : nar .short x = y) {g : JFrame} (hg : g.method = m) {rest : List Value} (hs : g.stack = .int x :: .int j :: .ref a :: rest) (hd : decode c.code g.pc = .ok (.sastore, 1)) :
    ∃ T' h', Stand p l e R s m args below meth c T' (locs ++ [⟨a, j.toNatClampNeg⟩]) cells slots ∧ T'.heap = h' ∧ Wr h h' a j.toNatClampNeg (.int y) ∧ IA Z h' a k .short n (vs.set i y) ∧ ∀ target, Steps p.tables e below (T'.setTop { g with pc := g.pc + 1, stack := rest }) target → Steps p.tables e below (T.setTop g) target := by
  subst hy
  obtain ⟨⟨cl, Ar, q1, S, N, H, G⟩, hl⟩ := A
  obtain ⟨T', h', X', e', W, st⟩ := stS X hx hZ eT Ar (IA.inb S hl hj hn hi) hg hs hd
  exact ⟨T', h', X', e', W, IA.put Ar q1 S N H G hl (fits_nar_short _) W hj hi, st⟩
theorem ia_stB (X : Stand p l e R s m args below meth c T locs cells slots) (hx : p.tables.exec = Jvm.exec) (hZ : Z.Warmed39 s.vm) (eT : T.heap = h) (A : IA Z h a k .byte n vs) {j : Int32} (i : Nat) (hj : j.toNatClampNeg = i) (hn : ¬ j < 0) (hi : i < vs.length) {x y : Int32} (hy : nar .byte x = y) {g : JFrame} (hg : g.method = m) {rest : List Value} (hs : g.stack = .int x :: .int j :: .ref a :: rest) (hd : decode c.code g.pc = .ok (.bastore, 1)) :
    ∃ T' h', Stand p l e R s m args below meth c T' (locs ++ [⟨a, j.toNatClampNeg⟩]) cells slots ∧ T'.heap = h' ∧ Wr h h' a j.toNatClampNeg (.int y) ∧ IA Z h' a k .byte n (vs.set i y) ∧ ∀ target, Steps p.tables e below (T'.setTop { g with pc := g.pc + 1, stack := rest }) target → Steps p.tables e below (T.setTop g) target := by
  subst hy
  obtain ⟨⟨cl, Ar, q1, S, N, H, G⟩, hl⟩ := A
  obtain ⟨T', h', X', e', W, st⟩ := stB X hx hZ eT Ar (IA.inb S hl hj hn hi) hg hs hd
  exact ⟨T', h', X', e', W, IA.put Ar q1 S N H G hl (fits_nar_byte _) W hj hi, st⟩
theorem ia_stZ (X : Stand p l e R s m args below meth c T locs cells slots) (hx : p.tables.exec = Jvm.exec) (hZ : Z.Warmed39 s.vm) (eT : T.heap = h) (A : IA Z h a k .boolean n vs) {j : Int32} (i : Nat) (hj : j.toNatClampNeg = i) (hn : ¬ j < 0) (hi : i < vs.length) {x y : Int32} (hy : nar .boolean x = y) {g : JFrame} (hg : g.method = m) {rest : List Value} (hs : g.stack = .int x :: .int j :: .ref a :: rest) (hd : decode c.code g.pc = .ok (.bastore, 1)) :
    ∃ T' h', Stand p l e R s m args below meth c T' (locs ++ [⟨a, j.toNatClampNeg⟩]) cells slots ∧ T'.heap = h' ∧ Wr h h' a j.toNatClampNeg (.int y) ∧ IA Z h' a k .boolean n (vs.set i y) ∧ ∀ target, Steps p.tables e below (T'.setTop { g with pc := g.pc + 1, stack := rest }) target → Steps p.tables e below (T.setTop g) target := by
  subst hy
  obtain ⟨⟨cl, Ar, q1, S, N, H, G⟩, hl⟩ := A
  obtain ⟨T', h', X', e', W, st⟩ := stZ X hx hZ eT Ar (IA.inb S hl hj hn hi) hg hs hd
  exact ⟨T', h', X', e', W, IA.put Ar q1 S N H G hl (fits_nar_bool _) W hj hi, st⟩
theorem own_out {A B : Pt} {w : Option Value} {rm : Room} {Q : Option Value → Heap → List Loc → Prop} (h : ∃ L, Q w B.U.heap L ∧ B.locs = A.locs ++ L ∧ B.cells = A.cells + rm.cells ∧ B.slots = A.slots + rm.slots) (X : Stand p l e R s m args below meth c B.U B.locs B.cells B.slots) : ∃ L, Q w B.U.heap L ∧ Stand p l e R s m args below meth c B.U (A.locs ++ L) (A.cells + rm.cells) (A.slots + rm.slots) := by
  obtain ⟨L, hQ, l, y, z⟩ := h
  rw [l, y, z] at X
  exact ⟨L, hQ, X⟩
end own
theorem own_or32 (n : Nat) : n ||| 32 = n + 32 * (1 - n / 32 % 2) := by
  have h1 : ∀ r < 64, r ||| 32 = r + 32 * (1 - r / 32 % 2) := by decide
  have h2 : n = 2 ^ 6 * (n / 64) + n % 64 := by omega
  have h3 : n % 64 < 2 ^ 6 := by omega
  have h4 : n % 64 ||| 32 < 2 ^ 6 := Nat.or_lt_two_pow h3 (by decide)
  have e : n ||| 32 = 2 ^ 6 * (n / 64) + (n % 64 ||| 32) := by
    rw [Nat.two_pow_add_eq_or_of_lt h4, ← Nat.or_assoc, ← Nat.two_pow_add_eq_or_of_lt h3, ← h2]
  have := h1 (n % 64) (by omega)
  omega
theorem own_char (x : Int32) : ∃ n : Nat, n < 65536 ∧ x.toUInt32.toUInt16.toUInt32.toInt32 = Int32.ofNat n := by
  refine ⟨x.toUInt32.toUInt16.toNat, x.toUInt32.toUInt16.toNat_lt, ?_⟩
  apply Int32.toBitVec_inj.mp
  apply BitVec.eq_of_toNat_eq
  show x.toUInt32.toUInt16.toUInt32.toNat = (BitVec.ofNat 32 _).toNat
  have := x.toUInt32.toUInt16.toNat_lt
  rw [BitVec.toNat_ofNat]
  simp only [UInt16.toNat_toUInt32]
  omega
theorem own_orN (a b : Nat) : Int32.ofNat a ||| Int32.ofNat b = Int32.ofNat (a ||| b) := by
  apply Int32.toBitVec_inj.mp
  show BitVec.ofNat 32 a ||| BitVec.ofNat 32 b = BitVec.ofNat 32 (a ||| b)
  apply BitVec.eq_of_toNat_eq
  simp [BitVec.toNat_or, Nat.or_mod_two_pow]
theorem own_tI {n : Nat} (h : n < 2147483648) : (Int32.ofNat n).toInt = n := Int32.toInt_ofNat_of_lt h
theorem own_sub {x y : Int32} (h1 : -2147483648 ≤ x.toInt - y.toInt) (h2 : x.toInt - y.toInt < 2147483648) : (x - y).toInt = x.toInt - y.toInt :=
  (Int32.toInt_sub x y).trans (Int.bmod_eq_of_le (by omega) (by omega))
theorem own_add {x y : Int32} (h1 : -2147483648 ≤ x.toInt + y.toInt) (h2 : x.toInt + y.toInt < 2147483648) : (x + y).toInt = x.toInt + y.toInt :=
  (Int32.toInt_add x y).trans (Int.bmod_eq_of_le (by omega) (by omega))
theorem own_mask31 (x : Int32) : 0 ≤ (x &&& (2147483647 : Int32)).toInt := by
  have h : (x &&& (2147483647 : Int32)).toBitVec.toNat < 2147483648 := by
    rw [Int32.toBitVec_and, BitVec.toNat_and]
    exact Nat.lt_of_le_of_lt Nat.and_le_right (by decide)
  show 0 ≤ (x &&& (2147483647 : Int32)).toBitVec.toInt
  rw [BitVec.toInt_eq_toNat_cond, if_pos (by omega)]
  omega
theorem own_lc1 (x y : Int64) : ((lcmpW x y) < (0 : Int32)) = (x < y) := by
  simp only [lcmpW, gt_iff_lt]
  by_cases h1 : y < x
  · rw [if_pos h1]
    have h2 : ¬ x < y := by rw [Int64.lt_iff_toInt_lt] at *; omega
    simp [h2]
  · rw [if_neg h1]
    by_cases h2 : x = y
    · rw [if_pos h2]; subst h2; simp
    · rw [if_neg h2]
      have h3 : x < y := by rw [← Int64.toInt_inj] at h2; rw [Int64.lt_iff_toInt_lt] at *; omega
      simp [h3]
theorem own_lc2 (x y : Int64) : ((0 : Int32) < (lcmpW x y)) = (y < x) := by
  simp only [lcmpW, gt_iff_lt]
  by_cases h1 : y < x
  · rw [if_pos h1]; simp [h1]
  · rw [if_neg h1]
    by_cases h2 : x = y
    · rw [if_pos h2]; subst h2; simp
    · rw [if_neg h2]; simp [h1]
theorem own_nn {n : Nat} (hn : n < 2147483648) : ¬ Int32.ofNat n < 0 := by
  rw [Int32.lt_iff_toInt_lt, own_tI hn, show (0 : Int32).toInt = 0 from rfl]; omega
theorem own_n32 {n : Nat} (hn : n < 2147483648) : (Int32.ofNat n).toNatClampNeg = n := by
  rw [Int32.toNatClampNeg, own_tI hn]; rfl
theorem own_ofI {x : Int32} (h : 0 ≤ x.toInt) : x = Int32.ofNat x.toInt.toNat := by
  apply Int32.toInt_inj.mp
  have := x.toInt_lt
  rw [own_tI (by omega)]; omega
/-- Java's x % d for x that isn't negative -/
theorem own_rem (x d : Int32) (hx : 0 ≤ x.toInt) (hd : 0 < d.toInt) : (x - (x / d) * d).toInt = x.toInt % d.toInt := by
  have b1 := x.toInt_lt; have b2 := d.toInt_lt
  have hq : (x / d).toInt = x.toInt / d.toInt := by
    rw [Int32.toInt_div, Int.tdiv_eq_ediv_of_nonneg hx]
    have h1 : 0 ≤ x.toInt / d.toInt := Int.ediv_nonneg hx (Int.le_of_lt hd)
    have h2 : x.toInt / d.toInt ≤ x.toInt := Int.ediv_le_self _ hx
    exact Int.bmod_eq_of_le (by omega) (by omega)
  have hm : (x / d * d).toInt = x.toInt / d.toInt * d.toInt := by
    rw [Int32.toInt_mul, hq]
    have h1 : 0 ≤ x.toInt / d.toInt * d.toInt := Int.mul_nonneg (Int.ediv_nonneg hx (Int.le_of_lt hd)) (Int.le_of_lt hd)
    have h2 : x.toInt / d.toInt * d.toInt ≤ x.toInt := Int.ediv_mul_le _ (by omega)
    exact Int.bmod_eq_of_le (by omega) (by omega)
  have h3 := Int.emod_add_mul_ediv x.toInt d.toInt
  rw [Int.mul_comm] at h3
  have h4 := Int.emod_nonneg x.toInt (show d.toInt ≠ 0 by omega)
  have h5 := Int.emod_lt_of_pos x.toInt hd
  rw [own_sub (by omega) (by omega), hm]; omega
theorem own_ix {p : Int32} {i j : Nat} (hk : p = Int32.ofNat i) (hb : i + j < 2147483648) : (p + Int32.ofNat j).toNatClampNeg = i + j ∧ ¬ (p + Int32.ofNat j) < 0 := by
  subst hk; rw [← Int32.ofNat_add]; exact ⟨own_n32 hb, own_nn hb⟩
theorem own_narB (x : Int32) : nar .byte (x.toInt8.toInt32) = x.toInt8.toInt32 := by
  show x.toInt8.toInt32.toInt8.toInt32 = x.toInt8.toInt32
  rw [Int8.toInt8_toInt32]
theorem own_lc0 (x : Int64) : (lcmpW x x) = (0 : Int32) := by simp [lcmpW]
theorem own_ltN {i j : Nat} (h : i < j) (hj : j < 2147483648) : Int32.ofNat i < Int32.ofNat j := by
  rw [Int32.lt_iff_toInt_lt, own_tI (by omega), own_tI hj]; omega
theorem own_nltN {i j : Nat} (h : ¬ i < j) (hi : i < 1000000) (hj : j < 1000000) : ¬ Int32.ofNat i < Int32.ofNat j := by
  rw [Int32.lt_iff_toInt_lt, own_tI (by omega), own_tI (by omega)]; omega
theorem own_one {i : Nat} : Int32.ofNat i + (1 : Int32) = Int32.ofNat (i + 1) := (Int32.ofNat_add i 1).symm
theorem own_andN (x : Int32) (k : Nat) (hk : k < 2147483648) : ∃ q : Nat, q ≤ k ∧ (x &&& Int32.ofNat k) = Int32.ofNat q := by
  refine ⟨(x &&& Int32.ofNat k).toBitVec.toNat, ?_, ?_⟩
  · rw [Int32.toBitVec_and, BitVec.toNat_and]
    refine Nat.le_trans Nat.and_le_right ?_
    show (BitVec.ofNat 32 k).toNat ≤ k
    rw [BitVec.toNat_ofNat]; exact Nat.mod_le _ _
  · apply Int32.toBitVec_inj.mp
    show _ = BitVec.ofNat 32 _
    rw [BitVec.ofNat_toNat]; simp
theorem own_mid {i j : Nat} (h : i + j < 2147483648) : ((Int32.ofNat i + Int32.ofNat j).toUInt32 >>> ((1 : Int32) &&& 31).toUInt32).toInt32 = Int32.ofNat ((i + j) / 2) := by
  rw [← Int32.ofNat_add]
  apply Int32.toBitVec_inj.mp
  show (BitVec.ofNat 32 (i + j)) >>> _ = BitVec.ofNat 32 ((i + j) / 2)
  apply BitVec.eq_of_toNat_eq
  rw [show (((1 : Int32) &&& 31).toUInt32.mod 32).toBitVec = 1#32 from by decide]
  rw [BitVec.toNat_ofNat, show (BitVec.ofNat 32 (i + j) >>> 1#32).toNat = (BitVec.ofNat 32 (i + j)).toNat >>> 1 from rfl, BitVec.toNat_ofNat, Nat.shiftRight_eq_div_pow]
  omega
theorem own_ofinj {a b : Nat} (ha : a < 2147483648) (hb : b < 2147483648) (h : Int32.ofNat a = Int32.ofNat b) : a = b := by
  have := congrArg Int32.toInt h
  rw [own_tI ha, own_tI hb] at this; omega
theorem own_tL {n : Nat} (h : n < 9223372036854775808) : (Int64.ofNat n).toInt = n := Int64.toInt_ofNat_of_lt h
theorem own_ofL {x : Int64} (h : 0 ≤ x.toInt) : x = Int64.ofNat x.toInt.toNat := by
  apply Int64.toInt_inj.mp
  have := x.toInt_lt
  rw [own_tL (by omega)]; omega
theorem own_addL {a b : Nat} : Int64.ofNat a + Int64.ofNat b = Int64.ofNat (a + b) := (Int64.ofNat_add a b).symm
theorem own_mulL {a b : Nat} : Int64.ofNat a * Int64.ofNat b = Int64.ofNat (a * b) := (Int64.ofNat_mul a b).symm
theorem own_divL {a b : Nat} (ha : a < 9223372036854775808) (hb : b < 9223372036854775808) : Int64.ofNat a / Int64.ofNat b = Int64.ofNat (a / b) := by
  apply Int64.toInt_inj.mp
  have hq : a / b ≤ a := Nat.div_le_self _ _
  rw [Int64.toInt_div, own_tL ha, own_tL hb, own_tL (by omega), ← Int.ofNat_tdiv]
  generalize a / b = q at *
  exact Int.bmod_eq_of_le (by omega) (by omega)
theorem own_remL {a b : Nat} (ha : a < 9223372036854775808) (hb : b < 9223372036854775808) : Int64.ofNat a - (Int64.ofNat a / Int64.ofNat b) * Int64.ofNat b = Int64.ofNat (a % b) := by
  rw [own_divL ha hb, own_mulL]
  have h1 : a / b * b ≤ a := Nat.div_mul_le_self _ _
  have h2 : a % b ≤ a := Nat.mod_le _ _
  have h3 := Nat.mod_add_div a b
  rw [Nat.mul_comm] at h3
  apply Int64.toInt_inj.mp
  rw [Int64.toInt_sub, own_tL ha, own_tL (by omega), own_tL (by omega)]
  rw [Int.bmod_eq_of_le (by omega) (by omega)]
  omega
theorem own_mask63 (x : Int64) : 0 ≤ (x &&& (9223372036854775807 : Int64)).toInt := by
  have h : (x &&& (9223372036854775807 : Int64)).toBitVec.toNat < 9223372036854775808 := by
    rw [Int64.toBitVec_and, BitVec.toNat_and]
    exact Nat.lt_of_le_of_lt Nat.and_le_right (by decide)
  show 0 ≤ (x &&& (9223372036854775807 : Int64)).toBitVec.toInt
  rw [BitVec.toInt_eq_toNat_cond, if_pos (by omega)]
  omega
section own2
variable {p : Program} {l : Launch} {e : Env} {R : Room} {s : State} {m : MethodId} {args : Array Value} {below : List Frame} {meth : Method} {c : Code} {T : State} {locs : List Loc} {cells slots : Nat} {Z : State} {a0 : Array Value} {h h' h0 : Heap} {a b : Addr} {vs us : List Int32} {sl : Nat} {v : Value} {ws : List Addr}
/-- a byte[] by its list -/
def BA (Z : State) (h : Heap) (a : Addr) (vs : List Int32) : Prop := (∃ k, IA Z h a k .byte (Int32.ofNat vs.length) vs) ∧ Exa Z h a "[B" ∧ vs.length < 1000000
theorem BA.lt (F : BA Z h a vs) : a < h.size := F.2.1.lt
theorem BA.ext (F : BA Z h a vs) (E : Ext h h') : BA Z h' a vs := by obtain ⟨⟨k, A⟩, X, q⟩ := F; exact ⟨⟨k, A.ext E⟩, X.ext E, q⟩
theorem BA.other (F : BA Z h b vs) (W : Wr h h' a sl v) (q : b ≠ a) : BA Z h' b vs := by obtain ⟨⟨k, A⟩, X, r⟩ := F; exact ⟨⟨k, A.other W q⟩, X.wr W, r⟩
theorem BA.keep (F : BA Z h a vs) (K : Keep h h' ws) (q : a ∉ ws) : BA Z h' a vs := by obtain ⟨⟨k, A⟩, X, r⟩ := F; exact ⟨⟨k, A.keep K q⟩, X.keep K, r⟩
theorem BA.eq (F : BA Z h a vs) (q : vs = us) : BA Z h a us := q ▸ F
theorem ba_ld (X : Stand p l e R s m args below meth c T locs cells slots) (hx : p.tables.exec = Jvm.exec) (hZ : Z.Warmed39 s.vm) (eT : T.heap = h) (A : BA Z h a vs) {j : Int32} (i : Nat) (hj : j = Int32.ofNat i) (hi : i < vs.length) {w : Int32} (hw : vs.getD i 0 = w) {g : JFrame} (hg : g.method = m) {rest : List Value} (hs : g.stack = .int j :: .ref a :: rest) (hd : decode c.code g.pc = .ok (.baload, 1)) (target : State)
    (q : Steps p.tables e below (T.setTop { g with pc := g.pc + 1, stack := .int w :: rest }) target) : Steps p.tables e below (T.setTop g) target := by
  obtain ⟨⟨k, A⟩, E, r⟩ := A
  exact ia_ldB X hx hZ eT A i (by rw [hj]; exact own_n32 (by omega)) (by rw [hj]; exact own_nn (by omega)) hi hw hg hs hd target q
theorem ba_len (X : Stand p l e R s m args below meth c T locs cells slots) (hx : p.tables.exec = Jvm.exec) (hZ : Z.Warmed39 s.vm) (eT : T.heap = h) (A : BA Z h a vs) {g : JFrame} (hg : g.method = m) {rest : List Value} (hs : g.stack = .ref a :: rest) (hd : decode c.code g.pc = .ok (.arraylength, 1)) (target : State)
    (q : Steps p.tables e below (T.setTop { g with pc := g.pc + 1, stack := .int (Int32.ofNat vs.length) :: rest }) target) : Steps p.tables e below (T.setTop g) target := by
  obtain ⟨⟨k, A⟩, E, r⟩ := A
  exact ia_len X hx hZ eT A hg hs hd target q
theorem ba_st (X : Stand p l e R s m args below meth c T locs cells slots) (hx : p.tables.exec = Jvm.exec) (hZ : Z.Warmed39 s.vm) (eT : T.heap = h) (A : BA Z h a vs) {j : Int32} (i : Nat) (hj : j = Int32.ofNat i) (hi : i < vs.length) {x y : Int32} (hy : nar .byte x = y) {g : JFrame} (hg : g.method = m) {rest : List Value} (hs : g.stack = .int x :: .int j :: .ref a :: rest) (hd : decode c.code g.pc = .ok (.bastore, 1)) :
    ∃ T' h', Stand p l e R s m args below meth c T' (locs ++ [⟨a, j.toNatClampNeg⟩]) cells slots ∧ T'.heap = h' ∧ Wr h h' a j.toNatClampNeg (.int y) ∧ BA Z h' a (vs.set i y) ∧ ∀ target, Steps p.tables e below (T'.setTop { g with pc := g.pc + 1, stack := rest }) target → Steps p.tables e below (T.setTop g) target := by
  obtain ⟨⟨k, A⟩, E, r⟩ := A
  obtain ⟨T', h', X', e', W, V, st⟩ := ia_stB X hx hZ eT A i (by rw [hj]; exact own_n32 (by omega)) (by rw [hj]; exact own_nn (by omega)) hi hy hg hs hd
  exact ⟨T', h', X', e', W, ⟨⟨k, by rw [List.length_set]; exact V⟩, E.wr W, by rw [List.length_set]; exact r⟩, st⟩
theorem ba_new (X : Stand p l e R s m args below meth c T locs cells slots) (hx : p.tables.exec = Jvm.exec) (hZ : Z.Warmed39 s.vm) (w : (Cond.arrayClass .byte).before a0 Z = true) (eT : T.heap = h) {g : JFrame} (hg : g.method = m) (hd : decode c.code g.pc = .ok (.newarray .byte, 2)) {n : Int32} {rest : List Value} (hs : g.stack = .int n :: rest)
    {N : Nat} (hn : n = Int32.ofNat N) {cap : Nat} (hcap : N ≤ cap) (hb : cap ≤ 10000) (hc : cells + 1 ≤ R.cells) (hl : slots + cap ≤ R.slots) :
    ∃ T' h', Stand p l e R s m args below meth c T' locs (cells + 1) (slots + cap) ∧ T'.heap = h' ∧ Ext h h' ∧ BA Z h' h.size (List.replicate N 0) ∧
      ∀ target, Steps p.tables e below (T'.setTop { g with pc := g.pc + 2, stack := .ref h.size :: rest }) target → Steps p.tables e below (T.setTop g) target := by
  have e1 : n.toNatClampNeg = N := by rw [hn]; exact own_n32 (by omega)
  have e2 : ¬ n < 0 := by rw [hn]; exact own_nn (by omega)
  obtain ⟨T', h', cA, X', e', E, A, B, st⟩ := newPE X hx hZ (aty := .byte) w eT hg hd hs e2 (cap := cap) (by omega) (by omega) hc hl (ad := "[B") rfl
  refine ⟨T', h', X', e', E, ⟨⟨cA, ?_⟩, B, by rw [List.length_replicate]; omega⟩, st⟩
  rw [List.length_replicate, ← hn]
  exact IA.new A e2 rfl e1
theorem ba_clone (X : Stand p l e R s m args below meth c T locs cells slots) (hx : p.tables.exec = Jvm.exec) (hZ : Z.Warmed39 s.vm) {own : String} {index : Nat} (hown : s.vm.findClass own = some m.cls)
    (w1 : (Cond.methodLink own index ⟨"[B", "clone", "()Ljava/lang/Object;"⟩).before a0 Z = true) (w2 : (Cond.sameMethod "[B" "java/lang/Object" "clone" "()Ljava/lang/Object;").before a0 Z = true) (w3 : (Cond.native ⟨"java/lang/Object", "clone", "()Ljava/lang/Object;"⟩).before a0 Z = true)
    (w4 : (Cond.instanceMethod ⟨"java/lang/Object", "clone", "()Ljava/lang/Object;"⟩).before a0 Z = true) (w5 : (Cond.selects "[B" ⟨"[B", "clone", "()Ljava/lang/Object;"⟩ ⟨"java/lang/Object", "clone", "()Ljava/lang/Object;"⟩).before a0 Z = true) (w6 : (Cond.castable "[B" "java/lang/Cloneable").before a0 Z = true)
    (eT : T.heap = h) (A : BA Z h a vs) {g : JFrame} (hg : g.method = m) (hsize : g.locals.size = c.maxLocals) {rest : List Value} (hst : g.stack = .ref a :: rest) (hd : decode c.code g.pc = .ok (.invokevirtual index, 3))
    (hf : 1 ≤ R.frames) {W cap : Nat} (hW : 2 * g.monitorRoom + (rest.map fun v => v.category).sum ≤ W) (hl : W + 14 ≤ R.locals) (hcap : vs.length ≤ cap) (hc : cells + 1 ≤ R.cells) (hsl : slots + cap ≤ R.slots) :
    ∃ T' h', Stand p l e R s m args below meth c T' locs (cells + 1) (slots + cap) ∧ T'.heap = h' ∧ Ext h h' ∧ BA Z h' h.size vs ∧
      ∀ target, Steps p.tables e below (T'.setTop { g with pc := g.pc + 3, stack := .ref h.size :: rest }) target → Steps p.tables e below (T.setTop g) target := by
  obtain ⟨⟨k, ⟨⟨cl, Ar, q1, S, q3, H, G⟩, hl2⟩⟩, E, r⟩ := A
  have FC : FitC Z cl := fitC_of Ar fun i hi v hv => by rw [H i hi] at hv; cases hv; exact G i hi
  obtain ⟨T', h', X', e', ex, A', E', st⟩ := cloneA X hx hZ hown w1 w2 w3 w4 w5 w6 eT Ar E FC hg hsize hst hd hf hW hl (by rw [S, own_n32 (by omega)]; exact hcap) hc hsl
  exact ⟨T', h', X', e', ex, ⟨⟨k, ⟨cloneOf cl, A', q1, S, q3, H, G⟩, hl2⟩, E', r⟩, st⟩
theorem own_stretch (vs : List Int32) (sp n : Nat) (h : sp + n ≤ vs.length) : ((List.range n).map fun i => (vs.map Value.int).getD (sp + i) (.int 0)) = ((vs.drop sp).take n).map Value.int := by
  apply List.ext_getElem?
  intro i
  by_cases q : i < n
  · rw [List.getElem?_map, List.getElem?_range q, List.getElem?_map, List.getElem?_take_of_lt q, List.getElem?_drop]
    simp only [Option.map_some, own_getI]
    rw [List.getD_eq_getElem?_getD, List.getElem?_eq_getElem (by omega)]; rfl
  · rw [List.getElem?_eq_none (by simp; omega), List.getElem?_eq_none (by simp; omega)]
theorem ba_copy (X : Stand p l e R s m args below meth c T locs cells slots) (hx : p.tables.exec = Jvm.exec) (hZ : Z.Warmed39 s.vm) {own : String} {index : Nat} (hown : s.vm.findClass own = some m.cls)
    (w1 : (Cond.methodLink own index Jvm.Stand.acN).before a0 Z = true) (w2 : (Cond.native Jvm.Stand.acN).before a0 Z = true) (w3 : (Cond.static Jvm.Stand.acN).before a0 Z = true) (w4 : (Cond.initialized "java/lang/System").before a0 Z = true) (eT : T.heap = h)
    (A : BA Z h a vs) (B : BA Z h b us) {sp dp nn : Int32} {i j n : Nat} (e1 : sp = Int32.ofNat i) (e2 : dp = Int32.ofNat j) (e3 : nn = Int32.ofNat n) (h4 : i + n ≤ vs.length) (h5 : j + n ≤ us.length) {n0 : Nat} (N : Fr n0 locs) (ge : n0 ≤ b)
    {g : JFrame} (hg : g.method = m) (hsize : g.locals.size = c.maxLocals) {rest : List Value} (hs : g.stack = .int nn :: .int dp :: .ref b :: .int sp :: .ref a :: rest) (hd : decode c.code g.pc = .ok (.invokestatic index, 3))
    (hf : 1 ≤ R.frames) {W : Nat} (hW : 2 * g.monitorRoom + (rest.map fun v => v.category).sum ≤ W) (hlo : W + (nativeFrameWords "java/lang/System" "arraycopy" 5 + 11) ≤ R.locals) :
    ∃ T' h' L, Stand p l e R s m args below meth c T' L cells slots ∧ T'.heap = h' ∧ Fr n0 L ∧ Keep h h' [b] ∧ BA Z h' b (us.take j ++ (vs.drop i).take n ++ us.drop (j + n)) ∧
      ∀ target, Steps p.tables e below (T'.setTop { g with pc := g.pc + 3, stack := rest }) target → Steps p.tables e below (T.setTop g) target := by
  obtain ⟨⟨k, A, la⟩, E, r⟩ := A
  obtain ⟨⟨k', B, lb⟩, E', r'⟩ := B
  have f1 : sp.toNatClampNeg = i := by rw [e1]; exact own_n32 (by omega)
  have f2 : dp.toNatClampNeg = j := by rw [e2]; exact own_n32 (by omega)
  have f3 : nn.toNatClampNeg = n := by rw [e3]; exact own_n32 (by omega)
  have f4 : (Int32.ofNat vs.length).toNatClampNeg = vs.length := own_n32 (by omega)
  have f5 : (Int32.ofNat us.length).toNatClampNeg = us.length := own_n32 (by omega)
  obtain ⟨T', h', L, X', e', N', K, V, st⟩ := cpA X hx hZ hown w1 w2 w3 w4 eT A B (Or.inl ⟨rfl, rfl⟩) (sp := sp) (dp := dp) (nn := nn) (by rw [e1]; exact own_nn (by omega)) (by rw [e2]; exact own_nn (by omega)) (by rw [e3]; exact own_nn (by omega)) (by rw [f1, f3, f4]; exact h4) (by rw [f2, f3, f5]; exact h5) rfl (by rw [f2, f3, List.length_map]; exact h5) N ge hg hsize hs hd hf hW hlo
  have hlen : (us.take j ++ (vs.drop i).take n ++ us.drop (j + n)).length = us.length := by
    simp only [List.length_append, List.length_take, List.length_drop]; omega
  refine ⟨T', h', L, X', e', N', K, ⟨⟨k', ?_, ?_⟩, E'.keep K, by rw [hlen]; exact r'⟩, st⟩
  · rw [hlen, List.map_append, List.map_append, List.map_take, List.map_drop, ← own_stretch vs i n h4]
    rw [f1, f2, f3] at V
    exact V
  · rw [hlen, f5]
/-- a static's value, its cell among the old ones -/
def SN (Z : State) (n0 : Nat) (h : Heap) (C n d : String) (v : Value) : Prop := ∃ (cf i : Nat) (k : Class) (f : Field) (st : Addr) (cell : Cell), Z.fieldFound? C n d = some (cf, k, i, f) ∧ f.isStatic = true ∧ k.init = .initialized ∧ k.statics = some st ∧ h[st]? = some cell ∧ cell.vm.isStatics = true ∧ cell.slots[f.slot]? = some v ∧ st < n0
variable {C n d : String} {n0 : Nat}
theorem SN.sta (F : SN Z n0 h C n d v) : Sta Z h C n d v := by obtain ⟨cf, i, k, f, st, cell, h1, h2, h3, h4, h5, h6, h7, -⟩ := F; exact ⟨cf, i, k, f, st, cell, h1, h2, h3, h4, h5, h6, h7⟩
theorem SN.of (F : Sta Z h C n d v) (q : h.size ≤ n0) : SN Z n0 h C n d v := by obtain ⟨cf, i, k, f, st, cell, h1, h2, h3, h4, h5, h6, h7⟩ := F; exact ⟨cf, i, k, f, st, cell, h1, h2, h3, h4, h5, h6, h7, Nat.lt_of_lt_of_le (Array.getElem?_eq_some_iff.mp h5).1 q⟩
theorem SN.ext (F : SN Z n0 h C n d v) (E : Ext h h') : SN Z n0 h' C n d v := by obtain ⟨cf, i, k, f, st, cell, h1, h2, h3, h4, h5, r⟩ := F; exact ⟨cf, i, k, f, st, cell, h1, h2, h3, h4, E.2 _ _ h5, r⟩
theorem SN.keep (F : SN Z n0 h C n d v) (K : Keep h h' ws) (q : ∀ x ∈ ws, n0 ≤ x) : SN Z n0 h' C n d v := by
  obtain ⟨cf, i, k, f, st, cell, h1, h2, h3, h4, h5, h6, h7, h8⟩ := F
  exact ⟨cf, i, k, f, st, cell, h1, h2, h3, h4, K.2.1 _ _ h5 fun y => absurd (q _ y) (Nat.not_le.mpr h8), h6, h7, h8⟩
theorem SN.wr {v' : Value} (F : SN Z n0 h C n d v) (W : Wr h h' a sl v') : SN Z n0 h' C n d v := by
  obtain ⟨cf, i, k, f, st, cell, h1, h2, h3, h4, h5, h6, h7, h8⟩ := F
  obtain ⟨c', e1, -, -, -, e5, -, e7⟩ := wr_at W h5
  have ne : st ≠ a := fun e => by rw [(e7 e).2.2] at h6; cases h6
  exact ⟨cf, i, k, f, st, cell, h1, h2, h3, h4, by rw [← e5 ne]; exact e1, h6, h7, h8⟩
end own2
/-- the bytes as they are written: a 0 is followed by a 1 -/
def own_esc (vs : List Int32) : List Int32 := vs.flatMap fun b => if b = 0 then [0, 1] else [b]
theorem own_esc_app (a b : List Int32) : own_esc (a ++ b) = own_esc a ++ own_esc b := List.flatMap_append
theorem own_esc_z : own_esc [0] = [0, 1] := rfl
theorem own_esc_n {b : Int32} (h : ¬ b = 0) : own_esc [b] = [b] := by simp [own_esc, h]
theorem own_esc_len (vs : List Int32) : vs.length ≤ (own_esc vs).length ∧ (own_esc vs).length ≤ 2 * vs.length := by
  induction vs with
  | nil => exact ⟨Nat.le_refl _, Nat.le_refl _⟩
  | cons b r ih =>
    have e : own_esc (b :: r) = own_esc [b] ++ own_esc r := own_esc_app [b] r
    rw [e, List.length_append]
    by_cases h : b = 0
    · subst h; rw [own_esc_z]; simp only [List.length_cons, List.length_nil]; omega
    · rw [own_esc_n h]; simp only [List.length_cons, List.length_nil]; omega
/-- how many zeros -/
def own_zc (vs : List Int32) : Nat := (own_esc vs).length - vs.length
theorem own_zc_z (d : List Int32) : own_zc (d ++ [0]) = own_zc d + 1 := by
  have := own_esc_len d
  rw [own_zc, own_zc, own_esc_app, own_esc_z, List.length_append, List.length_append]; simp only [List.length_cons, List.length_nil]; omega
theorem own_zc_n (d : List Int32) {b : Int32} (h : ¬ b = 0) : own_zc (d ++ [b]) = own_zc d := by
  have := own_esc_len d
  rw [own_zc, own_zc, own_esc_app, own_esc_n h, List.length_append, List.length_append]; simp only [List.length_cons, List.length_nil]; omega
theorem own_at (d : List Int32) (b : Int32) (r : List Int32) : (d ++ b :: r).getD d.length 0 = b := by simp [List.getD_eq_getElem?_getD]
theorem own_snoc (A us : List Int32) (x : Int32) (h : A.length < us.length) : (A ++ us.drop A.length).set A.length x = (A ++ [x]) ++ us.drop (A.length + 1) := by
  rw [List.set_append_right _ _ (Nat.le_refl _), Nat.sub_self, List.append_assoc]
  congr 1
  rw [List.drop_eq_getElem_cons h]; rfl
theorem own_snoc_len (A us : List Int32) (h : A.length ≤ us.length) : (A ++ us.drop A.length).length = us.length := by
  rw [List.length_append, List.length_drop]; omega
/-- a stretch laid over a list -/
theorem own_put1 (us : List Int32) (i : Nat) (x : Int32) (h : i < us.length) : us.set i x = us.take i ++ [x] ++ us.drop (i + 1) := by
  rw [List.set_eq_take_append_cons_drop, if_pos h]; simp
theorem own_put2 (us : List Int32) (i : Nat) (x y : Int32) (h : i + 1 < us.length) : (us.set i x).set (i + 1) y = us.take i ++ [x, y] ++ us.drop (i + 2) := by
  rw [own_put1 us i x (by omega)]
  have e : (us.take i ++ [x]).length = i + 1 := by rw [List.length_append, List.length_take]; simp only [List.length_cons, List.length_nil]; omega
  have := own_snoc (us.take i ++ [x]) us y (by omega)
  rw [e] at this
  rw [this, List.append_assoc (us.take i)]; rfl
def own_b8 (x : Int64) : List Int32 := [((((x.toUInt64 >>> ((56 : Int32) &&& 0x3f).toInt64.toUInt64).toInt64).toInt32).toInt8.toInt32), ((((x.toUInt64 >>> ((48 : Int32) &&& 0x3f).toInt64.toUInt64).toInt64).toInt32).toInt8.toInt32), ((((x.toUInt64 >>> ((40 : Int32) &&& 0x3f).toInt64.toUInt64).toInt64).toInt32).toInt8.toInt32), ((((x.toUInt64 >>> ((32 : Int32) &&& 0x3f).toInt64.toUInt64).toInt64).toInt32).toInt8.toInt32), ((((x.toUInt64 >>> ((24 : Int32) &&& 0x3f).toInt64.toUInt64).toInt64).toInt32).toInt8.toInt32), ((((x.toUInt64 >>> ((16 : Int32) &&& 0x3f).toInt64.toUInt64).toInt64).toInt32).toInt8.toInt32), ((((x.toUInt64 >>> ((8 : Int32) &&& 0x3f).toInt64.toUInt64).toInt64).toInt32).toInt8.toInt32), ((x.toInt32).toInt8.toInt32)]
theorem own_laid (A us : List Int32) (i : Nat) (x : Int32) (hi : i + A.length < us.length) : (us.take i ++ A ++ us.drop (i + A.length)).set (i + A.length) x = us.take i ++ (A ++ [x]) ++ us.drop (i + (A ++ [x]).length) := by
  have e : (us.take i ++ A).length = i + A.length := by rw [List.length_append, List.length_take]; omega
  have := own_snoc (us.take i ++ A) us x (by omega)
  rw [e] at this
  rw [this, List.length_append, ← List.append_assoc]; simp only [List.length_cons, List.length_nil, Nat.add_assoc]
theorem own_laid_len (A us : List Int32) (i : Nat) (hi : i + A.length ≤ us.length) : (us.take i ++ A ++ us.drop (i + A.length)).length = us.length := by
  simp only [List.length_append, List.length_take, List.length_drop]; omega
/-- what number() reads -/
def own_fold (acc : Int64) (R : List Int32) : Int64 := R.foldl (fun a b => (a <<< ((8 : Int32) &&& 0x3f).toInt64) ||| (b.toInt64 &&& (255 : Int64))) acc
theorem own_sx (U : BitVec 64) : ((((U.signExtend 32).signExtend 8).signExtend 32).signExtend 64) &&& 255#64 = U &&& 255#64 := by
  apply BitVec.eq_of_getLsbD_eq
  intro i hi
  rw [BitVec.getLsbD_and, BitVec.getLsbD_and]
  by_cases h : i < 8
  · have h1 : i < 32 := by omega
    have h2 : i < 64 := by omega
    simp only [BitVec.getLsbD_signExtend, h, h1, h2, decide_true, Bool.true_and, if_true]
  · have : (255#64).getLsbD i = false := by
      rw [BitVec.getLsbD, BitVec.toNat_ofNat]
      exact Nat.testBit_lt_two_pow (Nat.lt_of_lt_of_le (show 255 % 2 ^ 64 < 2 ^ 8 by decide) (Nat.pow_le_pow_right (by decide) (by omega)))
    rw [this, Bool.and_false, Bool.and_false]
theorem own_b255 (j : Nat) : (255#64).getLsbD j = decide (j < 8) := by
  by_cases h : j < 8
  · match j, h with
    | 0, _ => rfl
    | 1, _ => rfl
    | 2, _ => rfl
    | 3, _ => rfl
    | 4, _ => rfl
    | 5, _ => rfl
    | 6, _ => rfl
    | 7, _ => rfl
  · have : (255#64).getLsbD j = false := by
      rw [BitVec.getLsbD, BitVec.toNat_ofNat]
      exact Nat.testBit_lt_two_pow (Nat.lt_of_lt_of_le (show 255 % 2 ^ 64 < 2 ^ 8 by decide) (Nat.pow_le_pow_right (by decide) (by omega)))
    rw [this]; simp [h]
theorem own_step (V : BitVec 64) (s : Nat) : ((V >>> (s + 8)) <<< 8) ||| ((V >>> s) &&& 255#64) = V >>> s := by
  apply BitVec.eq_of_getLsbD_eq
  intro i hi
  rw [BitVec.getLsbD_or, BitVec.getLsbD_shiftLeft, BitVec.getLsbD_and, own_b255, BitVec.getLsbD_ushiftRight, BitVec.getLsbD_ushiftRight]
  by_cases h : i < 8
  · simp [h]
  · rw [show s + 8 + (i - 8) = s + i by omega]; simp [h, hi]
theorem own_shr {x : Int64} {k : UInt64} {n : Nat} (hk : (k.toBitVec % 64).toNat = n) : ((x.toUInt64 >>> k).toInt64).toBitVec = x.toBitVec >>> n := by
  subst hk; rfl
theorem own_yb (u : Int64) : ((u.toInt32.toInt8.toInt32).toInt64 &&& (255 : Int64)).toBitVec = u.toBitVec &&& 255#64 := own_sx u.toBitVec
theorem own_turn {a : Int64} {V : BitVec 64} {s : Nat} {u : Int64} (ha : a.toBitVec = V >>> (s + 8)) (hu : u.toBitVec = V >>> s) : ((a <<< ((8 : Int32) &&& 0x3f).toInt64) ||| ((u.toInt32.toInt8.toInt32).toInt64 &&& (255 : Int64))).toBitVec = V >>> s := by
  rw [Int64.toBitVec_or, own_yb, hu]
  have : (a <<< ((8 : Int32) &&& 0x3f).toInt64).toBitVec = a.toBitVec <<< 8 := rfl
  rw [this, ha, own_step]
theorem own_number (x : Int64) : own_fold 0 (own_b8 x) = x := by
  apply Int64.toBitVec_inj.mp
  simp only [own_fold, own_b8, List.foldl_cons, List.foldl_nil]
  have h0 : (0 : Int64).toBitVec = x.toBitVec >>> (56 + 8) := by
    apply BitVec.eq_of_getLsbD_eq
    intro i hi
    rw [BitVec.getLsbD_ushiftRight, BitVec.getLsbD_of_ge x.toBitVec (56 + 8 + i) (by omega)]; exact BitVec.getLsbD_zero
  have h1 := own_turn h0 (own_shr (x := x) (k := ((56 : Int32) &&& 0x3f).toInt64.toUInt64) (n := 56) (by decide))
  have h2 := own_turn (s := 48) h1 (own_shr (x := x) (k := ((48 : Int32) &&& 0x3f).toInt64.toUInt64) (n := 48) (by decide))
  have h3 := own_turn (s := 40) h2 (own_shr (x := x) (k := ((40 : Int32) &&& 0x3f).toInt64.toUInt64) (n := 40) (by decide))
  have h4 := own_turn (s := 32) h3 (own_shr (x := x) (k := ((32 : Int32) &&& 0x3f).toInt64.toUInt64) (n := 32) (by decide))
  have h5 := own_turn (s := 24) h4 (own_shr (x := x) (k := ((24 : Int32) &&& 0x3f).toInt64.toUInt64) (n := 24) (by decide))
  have h6 := own_turn (s := 16) h5 (own_shr (x := x) (k := ((16 : Int32) &&& 0x3f).toInt64.toUInt64) (n := 16) (by decide))
  have h7 := own_turn (s := 8) h6 (own_shr (x := x) (k := ((8 : Int32) &&& 0x3f).toInt64.toUInt64) (n := 8) (by decide))
  have h8 := own_turn (s := 0) (u := x) h7 (by rw [BitVec.ushiftRight_zero])
  rw [BitVec.ushiftRight_zero] at h8
  exact h8
theorem d1_0 : decode method_3_code 0 = .ok (.iload_n 0, 1) := by decide +kernel
theorem d1_1 : decode method_3_code 1 = .ok (.invokestatic 7, 3) := by decide +kernel
theorem d1_4 : decode method_3_code 4 = .ok (.istore_n 1, 1) := by decide +kernel
theorem d1_5 : decode method_3_code 5 = .ok (.iload_n 1, 1) := by decide +kernel
theorem d1_6 : decode method_3_code 6 = .ok (.newarray .byte, 2) := by decide +kernel
theorem d1_8 : decode method_3_code 8 = .ok (.astore_n 2, 1) := by decide +kernel
theorem d1_9 : decode method_3_code 9 = .ok (.iload_n 1, 1) := by decide +kernel
theorem d1_10 : decode method_3_code 10 = .ok (.ifCond .le 8, 3) := by decide +kernel
theorem d1_13 : decode method_3_code 13 = .ok (.aload_n 2, 1) := by decide +kernel
theorem d1_14 : decode method_3_code 14 = .ok (.iconst 0, 1) := by decide +kernel
theorem d1_15 : decode method_3_code 15 = .ok (.iload_n 0, 1) := by decide +kernel
theorem d1_16 : decode method_3_code 16 = .ok (.i2b, 1) := by decide +kernel
theorem d1_17 : decode method_3_code 17 = .ok (.bastore, 1) := by decide +kernel
theorem d1_18 : decode method_3_code 18 = .ok (.iload_n 1, 1) := by decide +kernel
theorem d1_19 : decode method_3_code 19 = .ok (.iconst 1, 1) := by decide +kernel
theorem d1_20 : decode method_3_code 20 = .ok (.if_icmp .le 11, 3) := by decide +kernel
theorem d1_23 : decode method_3_code 23 = .ok (.aload_n 2, 1) := by decide +kernel
theorem d1_24 : decode method_3_code 24 = .ok (.iconst 1, 1) := by decide +kernel
theorem d1_25 : decode method_3_code 25 = .ok (.iload_n 0, 1) := by decide +kernel
theorem d1_26 : decode method_3_code 26 = .ok (.bipush 8, 2) := by decide +kernel
theorem d1_28 : decode method_3_code 28 = .ok (.iushr, 1) := by decide +kernel
theorem d1_29 : decode method_3_code 29 = .ok (.i2b, 1) := by decide +kernel
theorem d1_30 : decode method_3_code 30 = .ok (.bastore, 1) := by decide +kernel
theorem d1_31 : decode method_3_code 31 = .ok (.aload_n 2, 1) := by decide +kernel
theorem d1_32 : decode method_3_code 32 = .ok (.areturn, 1) := by decide +kernel
theorem d2_0 : decode method_2_code 0 = .ok (.iload_n 0, 1) := by decide +kernel
theorem d2_1 : decode method_2_code 1 = .ok (.bipush 16, 2) := by decide +kernel
theorem d2_3 : decode method_2_code 3 = .ok (.iushr, 1) := by decide +kernel
theorem d2_4 : decode method_2_code 4 = .ok (.iconst 3, 1) := by decide +kernel
theorem d2_5 : decode method_2_code 5 = .ok (.irem, 1) := by decide +kernel
theorem d2_6 : decode method_2_code 6 = .ok (.ireturn, 1) := by decide +kernel
theorem d3_0 : decode method_5_code 0 = .ok (.aload_n 2, 1) := by decide +kernel
theorem d3_1 : decode method_5_code 1 = .ok (.arraylength, 1) := by decide +kernel
theorem d3_2 : decode method_5_code 2 = .ok (.ifCond .le 9, 3) := by decide +kernel
theorem d3_5 : decode method_5_code 5 = .ok (.aload_n 0, 1) := by decide +kernel
theorem d3_6 : decode method_5_code 6 = .ok (.iload_n 1, 1) := by decide +kernel
theorem d3_7 : decode method_5_code 7 = .ok (.aload_n 2, 1) := by decide +kernel
theorem d3_8 : decode method_5_code 8 = .ok (.iconst 0, 1) := by decide +kernel
theorem d3_9 : decode method_5_code 9 = .ok (.baload, 1) := by decide +kernel
theorem d3_10 : decode method_5_code 10 = .ok (.bastore, 1) := by decide +kernel
theorem d3_11 : decode method_5_code 11 = .ok (.aload_n 2, 1) := by decide +kernel
theorem d3_12 : decode method_5_code 12 = .ok (.arraylength, 1) := by decide +kernel
theorem d3_13 : decode method_5_code 13 = .ok (.iconst 1, 1) := by decide +kernel
theorem d3_14 : decode method_5_code 14 = .ok (.if_icmp .le 11, 3) := by decide +kernel
theorem d3_17 : decode method_5_code 17 = .ok (.aload_n 0, 1) := by decide +kernel
theorem d3_18 : decode method_5_code 18 = .ok (.iload_n 1, 1) := by decide +kernel
theorem d3_19 : decode method_5_code 19 = .ok (.iconst 1, 1) := by decide +kernel
theorem d3_20 : decode method_5_code 20 = .ok (.iadd, 1) := by decide +kernel
theorem d3_21 : decode method_5_code 21 = .ok (.aload_n 2, 1) := by decide +kernel
theorem d3_22 : decode method_5_code 22 = .ok (.iconst 1, 1) := by decide +kernel
theorem d3_23 : decode method_5_code 23 = .ok (.baload, 1) := by decide +kernel
theorem d3_24 : decode method_5_code 24 = .ok (.bastore, 1) := by decide +kernel
theorem d3_25 : decode method_5_code 25 = .ok (.return_, 1) := by decide +kernel
theorem d4_0 : decode method_4_code 0 = .ok (.aload_n 0, 1) := by decide +kernel
theorem d4_1 : decode method_4_code 1 = .ok (.iload_n 1, 1) := by decide +kernel
theorem d4_2 : decode method_4_code 2 = .ok (.lload_n 2, 1) := by decide +kernel
theorem d4_3 : decode method_4_code 3 = .ok (.bipush 56, 2) := by decide +kernel
theorem d4_5 : decode method_4_code 5 = .ok (.lushr, 1) := by decide +kernel
theorem d4_6 : decode method_4_code 6 = .ok (.l2i, 1) := by decide +kernel
theorem d4_7 : decode method_4_code 7 = .ok (.i2b, 1) := by decide +kernel
theorem d4_8 : decode method_4_code 8 = .ok (.bastore, 1) := by decide +kernel
theorem d4_9 : decode method_4_code 9 = .ok (.aload_n 0, 1) := by decide +kernel
theorem d4_10 : decode method_4_code 10 = .ok (.iload_n 1, 1) := by decide +kernel
theorem d4_11 : decode method_4_code 11 = .ok (.iconst 1, 1) := by decide +kernel
theorem d4_12 : decode method_4_code 12 = .ok (.iadd, 1) := by decide +kernel
theorem d4_13 : decode method_4_code 13 = .ok (.lload_n 2, 1) := by decide +kernel
theorem d4_14 : decode method_4_code 14 = .ok (.bipush 48, 2) := by decide +kernel
theorem d4_16 : decode method_4_code 16 = .ok (.lushr, 1) := by decide +kernel
theorem d4_17 : decode method_4_code 17 = .ok (.l2i, 1) := by decide +kernel
theorem d4_18 : decode method_4_code 18 = .ok (.i2b, 1) := by decide +kernel
theorem d4_19 : decode method_4_code 19 = .ok (.bastore, 1) := by decide +kernel
theorem d4_20 : decode method_4_code 20 = .ok (.aload_n 0, 1) := by decide +kernel
theorem d4_21 : decode method_4_code 21 = .ok (.iload_n 1, 1) := by decide +kernel
theorem d4_22 : decode method_4_code 22 = .ok (.iconst 2, 1) := by decide +kernel
theorem d4_23 : decode method_4_code 23 = .ok (.iadd, 1) := by decide +kernel
theorem d4_24 : decode method_4_code 24 = .ok (.lload_n 2, 1) := by decide +kernel
theorem d4_25 : decode method_4_code 25 = .ok (.bipush 40, 2) := by decide +kernel
theorem d4_27 : decode method_4_code 27 = .ok (.lushr, 1) := by decide +kernel
theorem d4_28 : decode method_4_code 28 = .ok (.l2i, 1) := by decide +kernel
theorem d4_29 : decode method_4_code 29 = .ok (.i2b, 1) := by decide +kernel
theorem d4_30 : decode method_4_code 30 = .ok (.bastore, 1) := by decide +kernel
theorem d4_31 : decode method_4_code 31 = .ok (.aload_n 0, 1) := by decide +kernel
theorem d4_32 : decode method_4_code 32 = .ok (.iload_n 1, 1) := by decide +kernel
theorem d4_33 : decode method_4_code 33 = .ok (.iconst 3, 1) := by decide +kernel
theorem d4_34 : decode method_4_code 34 = .ok (.iadd, 1) := by decide +kernel
theorem d4_35 : decode method_4_code 35 = .ok (.lload_n 2, 1) := by decide +kernel
theorem d4_36 : decode method_4_code 36 = .ok (.bipush 32, 2) := by decide +kernel
theorem d4_38 : decode method_4_code 38 = .ok (.lushr, 1) := by decide +kernel
theorem d4_39 : decode method_4_code 39 = .ok (.l2i, 1) := by decide +kernel
theorem d4_40 : decode method_4_code 40 = .ok (.i2b, 1) := by decide +kernel
theorem d4_41 : decode method_4_code 41 = .ok (.bastore, 1) := by decide +kernel
theorem d4_42 : decode method_4_code 42 = .ok (.aload_n 0, 1) := by decide +kernel
theorem d4_43 : decode method_4_code 43 = .ok (.iload_n 1, 1) := by decide +kernel
theorem d4_44 : decode method_4_code 44 = .ok (.iconst 4, 1) := by decide +kernel
theorem d4_45 : decode method_4_code 45 = .ok (.iadd, 1) := by decide +kernel
theorem d4_46 : decode method_4_code 46 = .ok (.lload_n 2, 1) := by decide +kernel
theorem d4_47 : decode method_4_code 47 = .ok (.bipush 24, 2) := by decide +kernel
theorem d4_49 : decode method_4_code 49 = .ok (.lushr, 1) := by decide +kernel
theorem d4_50 : decode method_4_code 50 = .ok (.l2i, 1) := by decide +kernel
theorem d4_51 : decode method_4_code 51 = .ok (.i2b, 1) := by decide +kernel
theorem d4_52 : decode method_4_code 52 = .ok (.bastore, 1) := by decide +kernel
theorem d4_53 : decode method_4_code 53 = .ok (.aload_n 0, 1) := by decide +kernel
theorem d4_54 : decode method_4_code 54 = .ok (.iload_n 1, 1) := by decide +kernel
theorem d4_55 : decode method_4_code 55 = .ok (.iconst 5, 1) := by decide +kernel
theorem d4_56 : decode method_4_code 56 = .ok (.iadd, 1) := by decide +kernel
theorem d4_57 : decode method_4_code 57 = .ok (.lload_n 2, 1) := by decide +kernel
theorem d4_58 : decode method_4_code 58 = .ok (.bipush 16, 2) := by decide +kernel
theorem d4_60 : decode method_4_code 60 = .ok (.lushr, 1) := by decide +kernel
theorem d4_61 : decode method_4_code 61 = .ok (.l2i, 1) := by decide +kernel
theorem d4_62 : decode method_4_code 62 = .ok (.i2b, 1) := by decide +kernel
theorem d4_63 : decode method_4_code 63 = .ok (.bastore, 1) := by decide +kernel
theorem d4_64 : decode method_4_code 64 = .ok (.aload_n 0, 1) := by decide +kernel
theorem d4_65 : decode method_4_code 65 = .ok (.iload_n 1, 1) := by decide +kernel
theorem d4_66 : decode method_4_code 66 = .ok (.bipush 6, 2) := by decide +kernel
theorem d4_68 : decode method_4_code 68 = .ok (.iadd, 1) := by decide +kernel
theorem d4_69 : decode method_4_code 69 = .ok (.lload_n 2, 1) := by decide +kernel
theorem d4_70 : decode method_4_code 70 = .ok (.bipush 8, 2) := by decide +kernel
theorem d4_72 : decode method_4_code 72 = .ok (.lushr, 1) := by decide +kernel
theorem d4_73 : decode method_4_code 73 = .ok (.l2i, 1) := by decide +kernel
theorem d4_74 : decode method_4_code 74 = .ok (.i2b, 1) := by decide +kernel
theorem d4_75 : decode method_4_code 75 = .ok (.bastore, 1) := by decide +kernel
theorem d4_76 : decode method_4_code 76 = .ok (.aload_n 0, 1) := by decide +kernel
theorem d4_77 : decode method_4_code 77 = .ok (.iload_n 1, 1) := by decide +kernel
theorem d4_78 : decode method_4_code 78 = .ok (.bipush 7, 2) := by decide +kernel
theorem d4_80 : decode method_4_code 80 = .ok (.iadd, 1) := by decide +kernel
theorem d4_81 : decode method_4_code 81 = .ok (.lload_n 2, 1) := by decide +kernel
theorem d4_82 : decode method_4_code 82 = .ok (.l2i, 1) := by decide +kernel
theorem d4_83 : decode method_4_code 83 = .ok (.i2b, 1) := by decide +kernel
theorem d4_84 : decode method_4_code 84 = .ok (.bastore, 1) := by decide +kernel
theorem d4_85 : decode method_4_code 85 = .ok (.return_, 1) := by decide +kernel
theorem d5_0 : decode prog_122_method_1_code 0 = .ok (.aload_n 0, 1) := by decide +kernel
theorem d5_1 : decode prog_122_method_1_code 1 = .ok (.invokespecial 1, 3) := by decide +kernel
theorem d5_4 : decode prog_122_method_1_code 4 = .ok (.aload_n 0, 1) := by decide +kernel
theorem d5_5 : decode prog_122_method_1_code 5 = .ok (.aload_n 1, 1) := by decide +kernel
theorem d5_6 : decode prog_122_method_1_code 6 = .ok (.invokevirtual 7, 3) := by decide +kernel
theorem d5_9 : decode prog_122_method_1_code 9 = .ok (.checkcast 8, 3) := by decide +kernel
theorem d5_12 : decode prog_122_method_1_code 12 = .ok (.putfield 13, 3) := by decide +kernel
theorem d5_15 : decode prog_122_method_1_code 15 = .ok (.aload_n 0, 1) := by decide +kernel
theorem d5_16 : decode prog_122_method_1_code 16 = .ok (.aload_n 2, 1) := by decide +kernel
theorem d5_17 : decode prog_122_method_1_code 17 = .ok (.invokevirtual 7, 3) := by decide +kernel
theorem d5_20 : decode prog_122_method_1_code 20 = .ok (.checkcast 8, 3) := by decide +kernel
theorem d5_23 : decode prog_122_method_1_code 23 = .ok (.putfield 18, 3) := by decide +kernel
theorem d5_26 : decode prog_122_method_1_code 26 = .ok (.aload_n 0, 1) := by decide +kernel
theorem d5_27 : decode prog_122_method_1_code 27 = .ok (.aload_n 3, 1) := by decide +kernel
theorem d5_28 : decode prog_122_method_1_code 28 = .ok (.invokevirtual 7, 3) := by decide +kernel
theorem d5_31 : decode prog_122_method_1_code 31 = .ok (.checkcast 8, 3) := by decide +kernel
theorem d5_34 : decode prog_122_method_1_code 34 = .ok (.putfield 21, 3) := by decide +kernel
theorem d5_37 : decode prog_122_method_1_code 37 = .ok (.aload_n 1, 1) := by decide +kernel
theorem d5_38 : decode prog_122_method_1_code 38 = .ok (.invokestatic 24, 3) := by decide +kernel
theorem d5_41 : decode prog_122_method_1_code 41 = .ok (.astore 4, 2) := by decide +kernel
theorem d5_43 : decode prog_122_method_1_code 43 = .ok (.aload_n 0, 1) := by decide +kernel
theorem d5_44 : decode prog_122_method_1_code 44 = .ok (.aload 4, 2) := by decide +kernel
theorem d5_46 : decode prog_122_method_1_code 46 = .ok (.aload 4, 2) := by decide +kernel
theorem d5_48 : decode prog_122_method_1_code 48 = .ok (.arraylength, 1) := by decide +kernel
theorem d5_49 : decode prog_122_method_1_code 49 = .ok (.iconst 2, 1) := by decide +kernel
theorem d5_50 : decode prog_122_method_1_code 50 = .ok (.isub, 1) := by decide +kernel
theorem d5_51 : decode prog_122_method_1_code 51 = .ok (.invokestatic 32, 3) := by decide +kernel
theorem d5_54 : decode prog_122_method_1_code 54 = .ok (.putfield 38, 3) := by decide +kernel
theorem d5_57 : decode prog_122_method_1_code 57 = .ok (.aload_n 0, 1) := by decide +kernel
theorem d5_58 : decode prog_122_method_1_code 58 = .ok (.aload_n 2, 1) := by decide +kernel
theorem d5_59 : decode prog_122_method_1_code 59 = .ok (.aload_n 3, 1) := by decide +kernel
theorem d5_60 : decode prog_122_method_1_code 60 = .ok (.invokestatic 41, 3) := by decide +kernel
theorem d5_63 : decode prog_122_method_1_code 63 = .ok (.putfield 45, 3) := by decide +kernel
theorem d5_66 : decode prog_122_method_1_code 66 = .ok (.return_, 1) := by decide +kernel
theorem d7_0 : decode prog_121_method_3_code 0 = .ok (.aload_n 0, 1) := by decide +kernel
theorem d7_1 : decode prog_121_method_3_code 1 = .ok (.getstatic 25, 3) := by decide +kernel
theorem d7_4 : decode prog_121_method_3_code 4 = .ok (.invokestatic 31, 3) := by decide +kernel
theorem d7_7 : decode prog_121_method_3_code 7 = .ok (.areturn, 1) := by decide +kernel
theorem d8_0 : decode prog_121_method_2_code 0 = .ok (.aload_n 0, 1) := by decide +kernel
theorem d8_1 : decode prog_121_method_2_code 1 = .ok (.invokestatic 11, 3) := by decide +kernel
theorem d8_4 : decode prog_121_method_2_code 4 = .ok (.aload_n 1, 1) := by decide +kernel
theorem d8_5 : decode prog_121_method_2_code 5 = .ok (.arraylength, 1) := by decide +kernel
theorem d8_6 : decode prog_121_method_2_code 6 = .ok (.iadd, 1) := by decide +kernel
theorem d8_7 : decode prog_121_method_2_code 7 = .ok (.newarray .byte, 2) := by decide +kernel
theorem d8_9 : decode prog_121_method_2_code 9 = .ok (.astore_n 2, 1) := by decide +kernel
theorem d8_10 : decode prog_121_method_2_code 10 = .ok (.aload_n 0, 1) := by decide +kernel
theorem d8_11 : decode prog_121_method_2_code 11 = .ok (.aload_n 2, 1) := by decide +kernel
theorem d8_12 : decode prog_121_method_2_code 12 = .ok (.iconst 0, 1) := by decide +kernel
theorem d8_13 : decode prog_121_method_2_code 13 = .ok (.invokestatic 15, 3) := by decide +kernel
theorem d8_16 : decode prog_121_method_2_code 16 = .ok (.istore_n 3, 1) := by decide +kernel
theorem d8_17 : decode prog_121_method_2_code 17 = .ok (.aload_n 1, 1) := by decide +kernel
theorem d8_18 : decode prog_121_method_2_code 18 = .ok (.iconst 0, 1) := by decide +kernel
theorem d8_19 : decode prog_121_method_2_code 19 = .ok (.aload_n 2, 1) := by decide +kernel
theorem d8_20 : decode prog_121_method_2_code 20 = .ok (.iload_n 3, 1) := by decide +kernel
theorem d8_21 : decode prog_121_method_2_code 21 = .ok (.aload_n 1, 1) := by decide +kernel
theorem d8_22 : decode prog_121_method_2_code 22 = .ok (.arraylength, 1) := by decide +kernel
theorem d8_23 : decode prog_121_method_2_code 23 = .ok (.invokestatic 19, 3) := by decide +kernel
theorem d8_26 : decode prog_121_method_2_code 26 = .ok (.aload_n 2, 1) := by decide +kernel
theorem d8_27 : decode prog_121_method_2_code 27 = .ok (.areturn, 1) := by decide +kernel
theorem d9_0 : decode prog_156_method_3_code 0 = .ok (.iconst 0, 1) := by decide +kernel
theorem d9_1 : decode prog_156_method_3_code 1 = .ok (.istore_n 1, 1) := by decide +kernel
theorem d9_2 : decode prog_156_method_3_code 2 = .ok (.aload_n 0, 1) := by decide +kernel
theorem d9_3 : decode prog_156_method_3_code 3 = .ok (.astore_n 2, 1) := by decide +kernel
theorem d9_4 : decode prog_156_method_3_code 4 = .ok (.aload_n 2, 1) := by decide +kernel
theorem d9_5 : decode prog_156_method_3_code 5 = .ok (.arraylength, 1) := by decide +kernel
theorem d9_6 : decode prog_156_method_3_code 6 = .ok (.istore_n 3, 1) := by decide +kernel
theorem d9_7 : decode prog_156_method_3_code 7 = .ok (.iconst 0, 1) := by decide +kernel
theorem d9_8 : decode prog_156_method_3_code 8 = .ok (.istore 4, 2) := by decide +kernel
theorem d9_10 : decode prog_156_method_3_code 10 = .ok (.iload 4, 2) := by decide +kernel
theorem d9_12 : decode prog_156_method_3_code 12 = .ok (.iload_n 3, 1) := by decide +kernel
theorem d9_13 : decode prog_156_method_3_code 13 = .ok (.if_icmp .ge 23, 3) := by decide +kernel
theorem d9_16 : decode prog_156_method_3_code 16 = .ok (.aload_n 2, 1) := by decide +kernel
theorem d9_17 : decode prog_156_method_3_code 17 = .ok (.iload 4, 2) := by decide +kernel
theorem d9_19 : decode prog_156_method_3_code 19 = .ok (.baload, 1) := by decide +kernel
theorem d9_20 : decode prog_156_method_3_code 20 = .ok (.istore 5, 2) := by decide +kernel
theorem d9_22 : decode prog_156_method_3_code 22 = .ok (.iload 5, 2) := by decide +kernel
theorem d9_24 : decode prog_156_method_3_code 24 = .ok (.ifCond .ne 6, 3) := by decide +kernel
theorem d9_27 : decode prog_156_method_3_code 27 = .ok (.iinc 1 1, 3) := by decide +kernel
theorem d9_30 : decode prog_156_method_3_code 30 = .ok (.iinc 4 1, 3) := by decide +kernel
theorem d9_33 : decode prog_156_method_3_code 33 = .ok (.goto (-23), 3) := by decide +kernel
theorem d9_36 : decode prog_156_method_3_code 36 = .ok (.aload_n 0, 1) := by decide +kernel
theorem d9_37 : decode prog_156_method_3_code 37 = .ok (.arraylength, 1) := by decide +kernel
theorem d9_38 : decode prog_156_method_3_code 38 = .ok (.iload_n 1, 1) := by decide +kernel
theorem d9_39 : decode prog_156_method_3_code 39 = .ok (.iadd, 1) := by decide +kernel
theorem d9_40 : decode prog_156_method_3_code 40 = .ok (.iconst 2, 1) := by decide +kernel
theorem d9_41 : decode prog_156_method_3_code 41 = .ok (.iadd, 1) := by decide +kernel
theorem d9_42 : decode prog_156_method_3_code 42 = .ok (.ireturn, 1) := by decide +kernel
theorem d10_0 : decode prog_156_method_2_code 0 = .ok (.iload_n 2, 1) := by decide +kernel
theorem d10_1 : decode prog_156_method_2_code 1 = .ok (.istore_n 3, 1) := by decide +kernel
theorem d10_2 : decode prog_156_method_2_code 2 = .ok (.aload_n 0, 1) := by decide +kernel
theorem d10_3 : decode prog_156_method_2_code 3 = .ok (.astore 4, 2) := by decide +kernel
theorem d10_5 : decode prog_156_method_2_code 5 = .ok (.aload 4, 2) := by decide +kernel
theorem d10_7 : decode prog_156_method_2_code 7 = .ok (.arraylength, 1) := by decide +kernel
theorem d10_8 : decode prog_156_method_2_code 8 = .ok (.istore 5, 2) := by decide +kernel
theorem d10_10 : decode prog_156_method_2_code 10 = .ok (.iconst 0, 1) := by decide +kernel
theorem d10_11 : decode prog_156_method_2_code 11 = .ok (.istore 6, 2) := by decide +kernel
theorem d10_13 : decode prog_156_method_2_code 13 = .ok (.iload 6, 2) := by decide +kernel
theorem d10_15 : decode prog_156_method_2_code 15 = .ok (.iload 5, 2) := by decide +kernel
theorem d10_17 : decode prog_156_method_2_code 17 = .ok (.if_icmp .ge 36, 3) := by decide +kernel
theorem d10_20 : decode prog_156_method_2_code 20 = .ok (.aload 4, 2) := by decide +kernel
theorem d10_22 : decode prog_156_method_2_code 22 = .ok (.iload 6, 2) := by decide +kernel
theorem d10_24 : decode prog_156_method_2_code 24 = .ok (.baload, 1) := by decide +kernel
theorem d10_25 : decode prog_156_method_2_code 25 = .ok (.istore 7, 2) := by decide +kernel
theorem d10_27 : decode prog_156_method_2_code 27 = .ok (.aload_n 1, 1) := by decide +kernel
theorem d10_28 : decode prog_156_method_2_code 28 = .ok (.iload_n 3, 1) := by decide +kernel
theorem d10_29 : decode prog_156_method_2_code 29 = .ok (.iinc 3 1, 3) := by decide +kernel
theorem d10_32 : decode prog_156_method_2_code 32 = .ok (.iload 7, 2) := by decide +kernel
theorem d10_34 : decode prog_156_method_2_code 34 = .ok (.bastore, 1) := by decide +kernel
theorem d10_35 : decode prog_156_method_2_code 35 = .ok (.iload 7, 2) := by decide +kernel
theorem d10_37 : decode prog_156_method_2_code 37 = .ok (.ifCond .ne 10, 3) := by decide +kernel
theorem d10_40 : decode prog_156_method_2_code 40 = .ok (.aload_n 1, 1) := by decide +kernel
theorem d10_41 : decode prog_156_method_2_code 41 = .ok (.iload_n 3, 1) := by decide +kernel
theorem d10_42 : decode prog_156_method_2_code 42 = .ok (.iinc 3 1, 3) := by decide +kernel
theorem d10_45 : decode prog_156_method_2_code 45 = .ok (.iconst 1, 1) := by decide +kernel
theorem d10_46 : decode prog_156_method_2_code 46 = .ok (.bastore, 1) := by decide +kernel
theorem d10_47 : decode prog_156_method_2_code 47 = .ok (.iinc 6 1, 3) := by decide +kernel
theorem d10_50 : decode prog_156_method_2_code 50 = .ok (.goto (-37), 3) := by decide +kernel
theorem d10_53 : decode prog_156_method_2_code 53 = .ok (.aload_n 1, 1) := by decide +kernel
theorem d10_54 : decode prog_156_method_2_code 54 = .ok (.iload_n 3, 1) := by decide +kernel
theorem d10_55 : decode prog_156_method_2_code 55 = .ok (.iconst 0, 1) := by decide +kernel
theorem d10_56 : decode prog_156_method_2_code 56 = .ok (.bastore, 1) := by decide +kernel
theorem d10_57 : decode prog_156_method_2_code 57 = .ok (.aload_n 1, 1) := by decide +kernel
theorem d10_58 : decode prog_156_method_2_code 58 = .ok (.iload_n 3, 1) := by decide +kernel
theorem d10_59 : decode prog_156_method_2_code 59 = .ok (.iconst 1, 1) := by decide +kernel
theorem d10_60 : decode prog_156_method_2_code 60 = .ok (.iadd, 1) := by decide +kernel
theorem d10_61 : decode prog_156_method_2_code 61 = .ok (.iconst 0, 1) := by decide +kernel
theorem d10_62 : decode prog_156_method_2_code 62 = .ok (.bastore, 1) := by decide +kernel
theorem d10_63 : decode prog_156_method_2_code 63 = .ok (.iload_n 3, 1) := by decide +kernel
theorem d10_64 : decode prog_156_method_2_code 64 = .ok (.iconst 2, 1) := by decide +kernel
theorem d10_65 : decode prog_156_method_2_code 65 = .ok (.iadd, 1) := by decide +kernel
theorem d10_66 : decode prog_156_method_2_code 66 = .ok (.ireturn, 1) := by decide +kernel
theorem d11_0 : decode jdk_65_method_121_code 0 = .ok (.iload_n 1, 1) := by decide +kernel
theorem d11_1 : decode jdk_65_method_121_code 1 = .ok (.aload_n 0, 1) := by decide +kernel
theorem d11_2 : decode jdk_65_method_121_code 2 = .ok (.arraylength, 1) := by decide +kernel
theorem d11_3 : decode jdk_65_method_121_code 3 = .ok (.if_icmp .ne 11, 3) := by decide +kernel
theorem d11_14 : decode jdk_65_method_121_code 14 = .ok (.iload_n 1, 1) := by decide +kernel
theorem d11_15 : decode jdk_65_method_121_code 15 = .ok (.newarray .byte, 2) := by decide +kernel
theorem d11_17 : decode jdk_65_method_121_code 17 = .ok (.astore_n 2, 1) := by decide +kernel
theorem d11_18 : decode jdk_65_method_121_code 18 = .ok (.aload_n 0, 1) := by decide +kernel
theorem d11_19 : decode jdk_65_method_121_code 19 = .ok (.iconst 0, 1) := by decide +kernel
theorem d11_20 : decode jdk_65_method_121_code 20 = .ok (.aload_n 2, 1) := by decide +kernel
theorem d11_21 : decode jdk_65_method_121_code 21 = .ok (.iconst 0, 1) := by decide +kernel
theorem d11_22 : decode jdk_65_method_121_code 22 = .ok (.aload_n 0, 1) := by decide +kernel
theorem d11_23 : decode jdk_65_method_121_code 23 = .ok (.arraylength, 1) := by decide +kernel
theorem d11_24 : decode jdk_65_method_121_code 24 = .ok (.iload_n 1, 1) := by decide +kernel
theorem d11_25 : decode jdk_65_method_121_code 25 = .ok (.invokestatic 304, 3) := by decide +kernel
theorem d11_28 : decode jdk_65_method_121_code 28 = .ok (.invokestatic 150, 3) := by decide +kernel
theorem d11_31 : decode jdk_65_method_121_code 31 = .ok (.aload_n 2, 1) := by decide +kernel
theorem d11_32 : decode jdk_65_method_121_code 32 = .ok (.areturn, 1) := by decide +kernel
theorem d12_0 : decode jdk_29_method_69_code 0 = .ok (.iload_n 0, 1) := by decide +kernel
theorem d12_1 : decode jdk_29_method_69_code 1 = .ok (.iload_n 1, 1) := by decide +kernel
theorem d12_2 : decode jdk_29_method_69_code 2 = .ok (.if_icmp .gt 7, 3) := by decide +kernel
theorem d12_5 : decode jdk_29_method_69_code 5 = .ok (.iload_n 0, 1) := by decide +kernel
theorem d12_6 : decode jdk_29_method_69_code 6 = .ok (.goto 4, 3) := by decide +kernel
theorem d12_9 : decode jdk_29_method_69_code 9 = .ok (.iload_n 1, 1) := by decide +kernel
theorem d12_10 : decode jdk_29_method_69_code 10 = .ok (.ireturn, 1) := by decide +kernel
theorem d13_0 : decode prog_122_method_5_code 0 = .ok (.iload_n 2, 1) := by decide +kernel
theorem d13_1 : decode prog_122_method_5_code 1 = .ok (.aload_n 0, 1) := by decide +kernel
theorem d13_2 : decode prog_122_method_5_code 2 = .ok (.getfield 21, 3) := by decide +kernel
theorem d13_5 : decode prog_122_method_5_code 5 = .ok (.arraylength, 1) := by decide +kernel
theorem d13_6 : decode prog_122_method_5_code 6 = .ok (.iadd, 1) := by decide +kernel
theorem d13_7 : decode prog_122_method_5_code 7 = .ok (.aload_n 0, 1) := by decide +kernel
theorem d13_8 : decode prog_122_method_5_code 8 = .ok (.getfield 45, 3) := by decide +kernel
theorem d13_11 : decode prog_122_method_5_code 11 = .ok (.arraylength, 1) := by decide +kernel
theorem d13_12 : decode prog_122_method_5_code 12 = .ok (.isub, 1) := by decide +kernel
theorem d13_13 : decode prog_122_method_5_code 13 = .ok (.istore_n 3, 1) := by decide +kernel
theorem d13_14 : decode prog_122_method_5_code 14 = .ok (.lconst 0, 1) := by decide +kernel
theorem d13_15 : decode prog_122_method_5_code 15 = .ok (.lstore 4, 2) := by decide +kernel
theorem d13_17 : decode prog_122_method_5_code 17 = .ok (.aload_n 0, 1) := by decide +kernel
theorem d13_18 : decode prog_122_method_5_code 18 = .ok (.getfield 38, 3) := by decide +kernel
theorem d13_21 : decode prog_122_method_5_code 21 = .ok (.arraylength, 1) := by decide +kernel
theorem d13_22 : decode prog_122_method_5_code 22 = .ok (.istore 6, 2) := by decide +kernel
theorem d13_24 : decode prog_122_method_5_code 24 = .ok (.iload 6, 2) := by decide +kernel
theorem d13_26 : decode prog_122_method_5_code 26 = .ok (.iload_n 3, 1) := by decide +kernel
theorem d13_27 : decode prog_122_method_5_code 27 = .ok (.if_icmp .ge 40, 3) := by decide +kernel
theorem d13_30 : decode prog_122_method_5_code 30 = .ok (.lload 4, 2) := by decide +kernel
theorem d13_32 : decode prog_122_method_5_code 32 = .ok (.bipush 8, 2) := by decide +kernel
theorem d13_34 : decode prog_122_method_5_code 34 = .ok (.lshl, 1) := by decide +kernel
theorem d13_35 : decode prog_122_method_5_code 35 = .ok (.aload_n 1, 1) := by decide +kernel
theorem d13_36 : decode prog_122_method_5_code 36 = .ok (.iload 6, 2) := by decide +kernel
theorem d13_38 : decode prog_122_method_5_code 38 = .ok (.baload, 1) := by decide +kernel
theorem d13_39 : decode prog_122_method_5_code 39 = .ok (.i2l, 1) := by decide +kernel
theorem d13_40 : decode prog_122_method_5_code 40 = .ok (.ldc2_w 59, 3) := by decide +kernel
theorem d13_43 : decode prog_122_method_5_code 43 = .ok (.land, 1) := by decide +kernel
theorem d13_44 : decode prog_122_method_5_code 44 = .ok (.lor, 1) := by decide +kernel
theorem d13_45 : decode prog_122_method_5_code 45 = .ok (.lstore 4, 2) := by decide +kernel
theorem d13_47 : decode prog_122_method_5_code 47 = .ok (.iload 6, 2) := by decide +kernel
theorem d13_49 : decode prog_122_method_5_code 49 = .ok (.aload_n 1, 1) := by decide +kernel
theorem d13_50 : decode prog_122_method_5_code 50 = .ok (.iload 6, 2) := by decide +kernel
theorem d13_52 : decode prog_122_method_5_code 52 = .ok (.baload, 1) := by decide +kernel
theorem d13_53 : decode prog_122_method_5_code 53 = .ok (.ifCond .ne 7, 3) := by decide +kernel
theorem d13_56 : decode prog_122_method_5_code 56 = .ok (.iconst 2, 1) := by decide +kernel
theorem d13_57 : decode prog_122_method_5_code 57 = .ok (.goto 4, 3) := by decide +kernel
theorem d13_60 : decode prog_122_method_5_code 60 = .ok (.iconst 1, 1) := by decide +kernel
theorem d13_61 : decode prog_122_method_5_code 61 = .ok (.iadd, 1) := by decide +kernel
theorem d13_62 : decode prog_122_method_5_code 62 = .ok (.istore 6, 2) := by decide +kernel
theorem d13_64 : decode prog_122_method_5_code 64 = .ok (.goto (-40), 3) := by decide +kernel
theorem d13_67 : decode prog_122_method_5_code 67 = .ok (.lload 4, 2) := by decide +kernel
theorem d13_69 : decode prog_122_method_5_code 69 = .ok (.lreturn, 1) := by decide +kernel
theorem pd_0 : parseMethodDescriptor "(I)I" = some ⟨[.int], some .int⟩ := by decide +kernel
theorem pd_1 : parseMethodDescriptor "([B)I" = some ⟨[(.array .byte)], some .int⟩ := by decide +kernel
theorem pd_2 : parseMethodDescriptor "([B[BI)I" = some ⟨[(.array .byte), (.array .byte), .int], some .int⟩ := by decide +kernel
theorem pd_3 : parseMethodDescriptor "([B[B)[B" = some ⟨[(.array .byte), (.array .byte)], some (.array .byte)⟩ := by decide +kernel
theorem pd_4 : parseMethodDescriptor "(II)I" = some ⟨[.int, .int], some .int⟩ := by decide +kernel
theorem pd_5 : parseMethodDescriptor "([B)[B" = some ⟨[(.array .byte)], some (.array .byte)⟩ := by decide +kernel
theorem pd_6 : parseMethodDescriptor "([BI)[B" = some ⟨[(.array .byte), .int], some (.array .byte)⟩ := by decide +kernel
theorem pd_7 : parseMethodDescriptor "(I)[B" = some ⟨[.int], some (.array .byte)⟩ := by decide +kernel
theorem pd_8 : parseMethodDescriptor "([BI[B)V" = some ⟨[(.array .byte), .int, (.array .byte)], none⟩ := by decide +kernel
theorem pd_9 : parseMethodDescriptor "([BIJ)V" = some ⟨[(.array .byte), .int, .long], none⟩ := by decide +kernel
theorem pd_10 : parseMethodDescriptor "([B[B[B)V" = some ⟨[(.array .byte), (.array .byte), (.array .byte)], none⟩ := by decide +kernel
theorem pd_11 : parseMethodDescriptor "([BI)J" = some ⟨[(.array .byte), .int], some .long⟩ := by decide +kernel
theorem pn_0 : plainName "com/example/gneiss/gneiss/store/FormNumberPinLaw" = true := by first | (simp [plainName, overriddenIn]; done) | decide +kernel
theorem pn_1 : plainName "com/example/gneiss/gneiss/tuple/EscapedBytes" = true := by first | (simp [plainName, overriddenIn]; done) | decide +kernel
theorem pn_2 : plainName "com/example/gneiss/gneiss/store/Pairs" = true := by first | (simp [plainName, overriddenIn]; done) | decide +kernel
theorem pn_3 : plainName "java/util/Arrays" = true := by first | (simp [plainName, overriddenIn]; done) | decide +kernel
theorem pn_4 : plainName "com/example/gneiss/gneiss/store/Pairs$Form" = true := by first | (simp [plainName, overriddenIn]; done) | decide +kernel
def own_len (p1 : Int32) : Int32 := (((p1.toUInt32 >>> ((16 : Int32) &&& 31).toUInt32).toInt32) - (((p1.toUInt32 >>> ((16 : Int32) &&& 31).toUInt32).toInt32) / (3 : Int32)) * (3 : Int32))
theorem ef_rmLen (m : MethodId) (x0 : Int32) : entryFrame m #[(.int x0)] 1 = mkF m 0 #[.val (.int x0)] [] := by first | (simp [entryFrame, mkF, argsToLocals, Value.category]; done) | rfl
def Q_rmLen (p1 : Int32) (h0 : Heap) (n0 : Nat) (v : Option Value) (h : Heap) (L : List Loc) : Prop := v = some (.int (own_len p1)) ∧ Fr n0 L ∧ h = h0
set_option maxRecDepth 65536 in
set_option maxHeartbeats 40000000 in
theorem rmLen (l : Launch) (Z : State) (a0 : Array Value) (hw : ∀ d ∈ tables_1, d.before a0 Z = true) (ws : List Jvm.Cond) (p1 : Int32)  (h0 : Heap) (n0 : Nat) (Z0 : n0 ≤ h0.size)  :
    MetFree l (⟨"com/example/gneiss/gneiss/store/FormNumberPinLaw", "len", "(I)I"⟩ : MethodName) (head1 (Jvm.Cond.code (⟨"com/example/gneiss/gneiss/store/FormNumberPinLaw", "len", "(I)I"⟩ : MethodName) method_2_code 1 (some .int) :: ws) ({ frames := 0, cells := 0, slots := 0, locals := 0 } : Room)) (fun a U => a = #[(.int p1)] ∧ Z.Warmed39 U.vm ∧ U.heap = h0) (fun _ _ _ _ _ => True) (fun _ U o U' => ∃ v L, o = .returned v ∧ Q_rmLen p1 h0 n0 v U'.heap L ∧ FrameEnd U o U' L ({ frames := 0, cells := 0, slots := 0, locals := 0 } : Room).cells ({ frames := 0, cells := 0, slots := 0, locals := 0 } : Room).slots) := by
  refine MetFree.of_bodySF (plainFor_of_name pn_0) hisR ?_
  intro p e s m args below meth c s₁ Bd hml0 hP hK
  obtain ⟨rfl, hZ, hh⟩ := hP
  have hx := Bd.exec
  have hby := Bd.bytes
  have hml : c.maxLocals = 1 := hml0
  have hown : s.vm.findClass "com/example/gneiss/gneiss/store/FormNumberPinLaw" = some m.cls := findClass_of_methodNamed Bd.named
  have hnm := (name_of_methodNamed Bd.named Bd.method).1
  have X0 : Stand p l e ({ frames := 0, cells := 0, slots := 0, locals := 0 } : Room) s m #[(.int p1)] below meth c s₁ [] 0 0 := Stand.of_body Bd
  have e0 : s₁.heap = h0 := by rw [← hh, Bd.state]; rfl
  have N0 := Fr.nil n0
  obtain ⟨G, hG, pr0⟩ : ∃ G : State → Prop, (∀ t, G t → Steps p.tables e below (s₁.setTop (entryFrame m #[(.int p1)] 1)) t) ∧ (∀ t, Steps p.tables e below (s₁.setTop (mkF m 0 #[.val (.int p1)] [])) t → G t) := ⟨_, fun _ k => k, fun t ks => castTop (ef_rmLen m p1) ks⟩
  have pr1 : ∀ t, Steps p.tables e below (s₁.setTop (mkF m 6 #[.val (.int p1)] [(.int (((p1.toUInt32 >>> ((16 : Int32) &&& 31).toUInt32).toInt32) - (((p1.toUInt32 >>> ((16 : Int32) &&& 31).toUInt32).toInt32) / (3 : Int32)) * (3 : Int32)))])) t → G t := fun t ks => pr0 t (by
      refine XS.iloadN X0.here hx rfl (hb hby d2_0) rfl ?_
      refine XS.bipush X0.here hx rfl (hb hby d2_1) ?_
      refine XS.iushr X0.here hx rfl (hb hby d2_3) rfl ?_
      refine XS.iconst X0.here hx rfl (hb hby d2_4) ?_
      refine XS.irem X0.here hx rfl (hb hby d2_5) rfl (by decide) ?_
      exact ks)
  have hret : (((p1.toUInt32 >>> ((16 : Int32) &&& 31).toUInt32).toInt32) - (((p1.toUInt32 >>> ((16 : Int32) &&& 31).toUInt32).toInt32) / (3 : Int32)) * (3 : Int32)) = own_len p1 := by rfl
  rw [hret] at pr1
  obtain ⟨fs, hr, hrun, hended, hW, hsame⟩ := X0.leave (v := some (.int (own_len p1))) (fun h => by rw [Bd.returns] at h; cases h)
  refine ⟨_, _, hG _ (pr1 _ ?_), hrun, hended, _, _, rfl, ?_, ⟨_, rfl⟩, hW, hsame.mono (by decide) (by decide)⟩
  · exact retI X0 hx Bd.returns (hb hby d2_6) hr
  · show Q_rmLen p1 h0 n0 _ s₁.heap _
    rw [e0]
    exact ⟨rfl, N0, rfl⟩
def own_min (p1 : Int32) (p2 : Int32) : Int32 := (if p2 < p1 then p2 else p1)
theorem ef_rmMin (m : MethodId) (x0 : Int32) (x1 : Int32) : entryFrame m #[(.int x0), (.int x1)] 2 = mkF m 0 #[.val (.int x0), .val (.int x1)] [] := by first | (simp [entryFrame, mkF, argsToLocals, Value.category]; done) | rfl
def Q_rmMin (p1 : Int32) (p2 : Int32) (h0 : Heap) (n0 : Nat) (v : Option Value) (h : Heap) (L : List Loc) : Prop := v = some (.int (own_min p1 p2)) ∧ Fr n0 L ∧ h = h0
set_option maxRecDepth 65536 in
set_option maxHeartbeats 40000000 in
theorem rmMin (l : Launch) (Z : State) (a0 : Array Value) (hw : ∀ d ∈ tables_1, d.before a0 Z = true) (ws : List Jvm.Cond) (p1 : Int32) (p2 : Int32)  (h0 : Heap) (n0 : Nat) (Z0 : n0 ≤ h0.size)  :
    MetFree l (⟨"java/lang/Math", "min", "(II)I"⟩ : MethodName) (head1 (Jvm.Cond.code (⟨"java/lang/Math", "min", "(II)I"⟩ : MethodName) jdk_29_method_69_code 2 (some .int) :: ws) ({ frames := 0, cells := 0, slots := 0, locals := 0 } : Room)) (fun a U => a = #[(.int p1), (.int p2)] ∧ Z.Warmed39 U.vm ∧ U.heap = h0) (fun _ _ _ _ _ => True) (fun _ U o U' => ∃ v L, o = .returned v ∧ Q_rmMin p1 p2 h0 n0 v U'.heap L ∧ FrameEnd U o U' L ({ frames := 0, cells := 0, slots := 0, locals := 0 } : Room).cells ({ frames := 0, cells := 0, slots := 0, locals := 0 } : Room).slots) := by
  refine MetFree.of_bodySF (Jvm.Free.JP.mathPlain rfl (by decide +kernel)) hisR ?_
  intro p e s m args below meth c s₁ Bd hml0 hP hK
  obtain ⟨rfl, hZ, hh⟩ := hP
  have hx := Bd.exec
  have hby := Bd.bytes
  have hml : c.maxLocals = 2 := hml0
  have hown : s.vm.findClass "java/lang/Math" = some m.cls := findClass_of_methodNamed Bd.named
  have hnm := (name_of_methodNamed Bd.named Bd.method).1
  have X0 : Stand p l e ({ frames := 0, cells := 0, slots := 0, locals := 0 } : Room) s m #[(.int p1), (.int p2)] below meth c s₁ [] 0 0 := Stand.of_body Bd
  have e0 : s₁.heap = h0 := by rw [← hh, Bd.state]; rfl
  have N0 := Fr.nil n0
  obtain ⟨G, hG, pr0⟩ : ∃ G : State → Prop, (∀ t, G t → Steps p.tables e below (s₁.setTop (entryFrame m #[(.int p1), (.int p2)] 2)) t) ∧ (∀ t, Steps p.tables e below (s₁.setTop (mkF m 0 #[.val (.int p1), .val (.int p2)] [])) t → G t) := ⟨_, fun _ k => k, fun t ks => castTop (ef_rmMin m p1 p2) ks⟩
  have pr2 : ∀ t, Steps p.tables e below (s₁.setTop (mkF m 2 #[.val (.int p1), .val (.int p2)] [(.int p2), (.int p1)])) t → G t := fun t ks => pr0 t (by
      refine XS.iloadN X0.here hx rfl (hb hby d12_0) rfl ?_
      refine XS.iloadN X0.here hx rfl (hb hby d12_1) rfl ?_
      exact ks)
  obtain ⟨j4, hj4⟩ : ∃ z : Int32, z = (if p2 < p1 then p2 else p1) := ⟨_, rfl⟩
  have pr5 : ∀ t, Steps p.tables e below (s₁.setTop (mkF m 10 #[.val (.int p1), .val (.int p2)] [(.int j4)])) t → G t := by
    intro t ks
    refine pr2 t ?_
    by_cases c3 : p2 < p1
    · refine XS.icmpYes X0.here hx rfl (pc0 := 2) (pc' := 9) rfl (hb hby d12_2) rfl (tlt c3).2.2.1 (by decide) (by decide) ?_
      refine XS.iloadN X0.here hx rfl (hb hby d12_9) rfl ?_
      have ej4 : j4 = p2 := by rw [hj4, if_pos c3]
      rw [ej4] at ks
      exact ks
    · refine XS.icmpNo X0.here hx rfl (hb hby d12_2) rfl (flt c3).2.2.1 ?_
      refine XS.iloadN X0.here hx rfl (hb hby d12_5) rfl ?_
      refine XS.goto X0.here hx rfl (pc0 := 6) (pc' := 10) rfl (hb hby d12_6) (by decide) (by decide) ?_
      have ej4 : j4 = p1 := by rw [hj4, if_neg c3]
      rw [ej4] at ks
      exact ks
  have hret : j4 = own_min p1 p2 := by rw [hj4]; rfl
  rw [hret] at pr5
  obtain ⟨fs, hr, hrun, hended, hW, hsame⟩ := X0.leave (v := some (.int (own_min p1 p2))) (fun h => by rw [Bd.returns] at h; cases h)
  refine ⟨_, _, hG _ (pr5 _ ?_), hrun, hended, _, _, rfl, ?_, ⟨_, rfl⟩, hW, hsame.mono (by decide) (by decide)⟩
  · exact retI X0 hx Bd.returns (hb hby d12_10) hr
  · show Q_rmMin p1 p2 h0 n0 _ s₁.heap _
    rw [e0]
    exact ⟨rfl, N0, rfl⟩
theorem own_two {i : Nat} : Int32.ofNat i + (2 : Int32) = Int32.ofNat (i + 2) := (Int32.ofNat_add i 2).symm
theorem own_subN {a b : Nat} (h : b ≤ a) (ha : a < 2147483648) : Int32.ofNat a - Int32.ofNat b = Int32.ofNat (a - b) := by
  apply Int32.toInt_inj.mp
  rw [own_sub (by rw [own_tI ha, own_tI (by omega)]; omega) (by rw [own_tI ha, own_tI (by omega)]; omega), own_tI ha, own_tI (by omega), own_tI (by omega)]; omega
theorem own_adx {p : Int32} {i : Nat} (hat : p = Int32.ofNat i) (j : Nat) : p + Int32.ofNat j = Int32.ofNat (i + j) := by rw [hat, ← Int32.ofNat_add]
theorem own_addNN {a b : Nat} : Int32.ofNat a + Int32.ofNat b = Int32.ofNat (a + b) := (Int32.ofNat_add a b).symm
theorem own_key {a b : Nat} : (Int32.ofNat a + (8 : Int32)) + Int32.ofNat b = Int32.ofNat (a + 8 + b) := by rw [Int32.ofNat_add, Int32.ofNat_add]; rfl
theorem own_eight8 {a : Nat} : Int32.ofNat a + (8 : Int32) = Int32.ofNat (a + 8) := (Int32.ofNat_add a 8).symm
theorem own_len2 (x : Int32) : ∃ q : Nat, q ≤ 2 ∧ own_len x = Int32.ofNat q := by
  have hy : ∃ y : Nat, y < 65536 ∧ (x.toUInt32 >>> ((16 : Int32) &&& 31).toUInt32).toInt32 = Int32.ofNat y := by
    refine ⟨x.toUInt32.toNat / 65536, by have := x.toUInt32.toNat_lt; omega, ?_⟩
    apply Int32.toBitVec_inj.mp
    apply BitVec.eq_of_toNat_eq
    show (x.toUInt32.toBitVec >>> (((16 : Int32) &&& 31).toUInt32.mod 32).toBitVec).toNat = (BitVec.ofNat 32 _).toNat
    rw [show (((16 : Int32) &&& 31).toUInt32.mod 32).toBitVec = 16#32 from by decide]
    rw [show (x.toUInt32.toBitVec >>> 16#32).toNat = x.toUInt32.toNat >>> 16 from rfl, BitVec.toNat_ofNat, Nat.shiftRight_eq_div_pow]
    have := x.toUInt32.toNat_lt
    omega
  obtain ⟨y, hy, e⟩ := hy
  have h0 : 0 ≤ (Int32.ofNat y).toInt := by rw [own_tI (by omega)]; omega
  have hr := own_rem (Int32.ofNat y) 3 h0 (by decide)
  have e2 : own_len x = Int32.ofNat y - Int32.ofNat y / 3 * 3 := by rw [own_len, e]
  rw [← e2, own_tI (by omega), show (3 : Int32).toInt = 3 from rfl] at hr
  exact ⟨(own_len x).toInt.toNat, by omega, own_ofI (by omega)⟩
theorem own_byte8 {x : Int32} (h1 : -128 ≤ x.toInt) (h2 : x.toInt ≤ 127) : x.toInt8.toInt32 = x := by
  apply Int32.toInt_inj.mp
  rw [Int8.toInt_toInt32, Int32.toInt_toInt8]
  exact Int.bmod_eq_of_le (by omega) (by omega)
theorem own_nb {Z : State} {h : Heap} {a : Addr} {vs : List Int32} {b : Int32} (V : BA Z h a vs) (i : Nat) (hi : i < vs.length) (hv : vs.getD i 0 = b) : nar .byte b = b := by
  obtain ⟨⟨k, ⟨cl, Ar, q1, S, q3, H, G⟩, hl⟩, E, r⟩ := V
  have g := G i (by rw [S, ← hl]; exact hi)
  rw [own_getI, hv] at g
  obtain ⟨g1, g2⟩ := rng_byte g
  rw [Int32.lt_iff_toInt_lt] at g1 g2
  have c1 : (-128 : Int32).toInt = -128 := by decide
  have c2 : (127 : Int32).toInt = 127 := by decide
  exact own_byte8 (by omega) (by omega)
theorem own_wlen (vs : List Int32) : (Int32.ofNat vs.length + Int32.ofNat (own_zc vs)) + (2 : Int32) = Int32.ofNat ((own_esc vs).length + 2) := by
  have := own_esc_len vs
  rw [own_addNN, own_two, own_zc]; congr 1; omega
theorem own_pairN (vs us : List Int32) : (own_esc vs ++ [0, 0] ++ (List.replicate ((own_esc vs).length + 2 + us.length) (0 : Int32)).drop ((own_esc vs).length + 2)).length = (own_esc vs).length + 2 + us.length := by
  simp only [List.length_append, List.length_drop, List.length_replicate, List.length_cons, List.length_nil]; omega
theorem own_pairL (vs us : List Int32) : (own_esc vs ++ [0, 0] ++ (List.replicate ((own_esc vs).length + 2 + us.length) (0 : Int32)).drop ((own_esc vs).length + 2)).take ((own_esc vs).length + 2) ++ (us.drop 0).take us.length ++ (own_esc vs ++ [0, 0] ++ (List.replicate ((own_esc vs).length + 2 + us.length) (0 : Int32)).drop ((own_esc vs).length + 2)).drop ((own_esc vs).length + 2 + us.length) = own_esc vs ++ [0, 0] ++ us := by
  have e : (own_esc vs ++ [0, 0]).length = (own_esc vs).length + 2 := by simp
  rw [← e, List.take_left, List.drop_zero, List.take_length, List.drop_eq_nil_of_le (by rw [e, own_pairN]; exact Nat.le_refl _), List.append_nil]
theorem own_minN {p2 : Int32} {k N : Nat} (e2 : p2 = Int32.ofNat k) (hk : k < N) (hN : N < 1000) : own_min (Int32.ofNat N) p2 = Int32.ofNat k := by
  rw [own_min, e2, if_pos (own_ltN hk (by omega))]
theorem own_b8len (x : Int64) : (own_b8 x).length = 8 := rfl
theorem own_L1 (kh kt : List Int32) : (List.replicate (kh.length + 8 + kt.length) (0 : Int32)).take 0 ++ kh ++ (List.replicate (kh.length + 8 + kt.length) (0 : Int32)).drop (0 + kh.length) = kh ++ List.replicate (8 + kt.length) 0 := by
  rw [List.take_zero, List.nil_append, List.drop_replicate]; congr 2; omega
theorem own_L2 (kh kt : List Int32) (x : Int64) : (kh ++ List.replicate (8 + kt.length) (0 : Int32)).take kh.length ++ own_b8 x ++ (kh ++ List.replicate (8 + kt.length) (0 : Int32)).drop (kh.length + 8) = kh ++ own_b8 x ++ List.replicate kt.length 0 := by
  rw [List.take_left, List.drop_append]; simp
theorem own_L3 (kh kt : List Int32) (x : Int64) : (kh ++ own_b8 x ++ List.replicate kt.length (0 : Int32)).take (kh.length + 8) ++ kt ++ (kh ++ own_b8 x ++ List.replicate kt.length (0 : Int32)).drop (kh.length + 8 + kt.length) = kh ++ own_b8 x ++ kt := by
  have e : (kh ++ own_b8 x).length = kh.length + 8 := by rw [List.length_append, own_b8len]
  rw [← e, List.take_left, List.drop_eq_nil_of_le (by rw [List.length_append, List.length_replicate]; exact Nat.le_refl _), List.append_nil]
theorem own_L4 (vh : List Int32) : (List.replicate (vh.length + 8) (0 : Int32)).take 0 ++ vh ++ (List.replicate (vh.length + 8) (0 : Int32)).drop (0 + vh.length) = vh ++ List.replicate 8 0 := by
  rw [List.take_zero, List.nil_append, List.drop_replicate]; congr 2; omega
theorem own_L5 (vh : List Int32) (x : Int64) : (vh ++ List.replicate 8 (0 : Int32)).take vh.length ++ own_b8 x ++ (vh ++ List.replicate 8 (0 : Int32)).drop (vh.length + 8) = vh ++ own_b8 x := by
  rw [List.take_left, List.drop_eq_nil_of_le (by rw [List.length_append, List.length_replicate]; exact Nat.le_refl _), List.append_nil]
theorem own_L6 (kh kt vh : List Int32) (x y : Int64) : own_esc (kh ++ own_b8 x ++ kt) ++ [0, 0] ++ (vh ++ own_b8 y) = own_esc kh ++ own_esc (own_b8 x) ++ (own_esc kt ++ [0, 0] ++ vh ++ own_b8 y) := by
  rw [own_esc_app, own_esc_app]; simp only [List.append_assoc]
theorem own_L7 {kh kt vh : List Int32} {x y : Int64} {s : Int32} (h1 : kh.length ≤ 2) (h2 : kt.length ≤ 2) (h3 : vh.length ≤ 2) (h : s = ((Int32.ofNat (own_esc kh ++ own_esc (own_b8 x) ++ (own_esc kt ++ [0, 0] ++ vh ++ own_b8 y)).length) - (8 : Int32)) - (Int32.ofNat vh.length)) : s = Int32.ofNat ((own_esc kh).length + (own_esc (own_b8 x)).length + (own_esc kt).length + 2) := by
  have a1 := own_esc_len kh
  have a2 := own_esc_len kt
  have a3 := own_esc_len (own_b8 x)
  rw [own_b8len] at a3
  have hl : (own_esc kh ++ own_esc (own_b8 x) ++ (own_esc kt ++ [0, 0] ++ vh ++ own_b8 y)).length = (own_esc kh).length + (own_esc (own_b8 x)).length + (own_esc kt).length + 2 + vh.length + 8 := by
    simp only [List.length_append, own_b8len, List.length_cons, List.length_nil]; omega
  have e8 : (8 : Int32) = Int32.ofNat 8 := rfl
  rw [h, hl, e8, own_subN (by omega) (by omega), Nat.add_sub_cancel, own_subN (by omega) (by omega), Nat.add_sub_cancel]
theorem own_len0 {args : Array Value} {s : State} {t : Term} {nv : Addr} {cn : Cell} (env : t.eval args s none [] s = some (.ref nv)) (ha : s.arrayAt? nv = some cn) (h : (Cond.eq (Term.length t) (Term.int (0 : Int32))).value args s none s [] = some true) : cn.slots.size = 0 := by
  by_cases q : cn.slots.size < 2 ^ 31
  · have e1 := len_f env ha q
    have e2 : (Term.int (0 : Int32)).eval args s none [] s = some (.int 0) := rfl
    simp only [Cond.value, e1, e2] at h
    have h3 : cn.slots.size.toInt32 = 0 := by simpa using h
    have h4 := len_toInt q
    rw [h3] at h4
    have : (0 : Int32).toInt = 0 := rfl
    omega
  · simp [Cond.value, Term.eval, env, ha, q] at h
theorem ef_rmD (m : MethodId) (x0 : Int32) : entryFrame m #[(.int x0)] 3 = mkF m 0 #[.val (.int x0), .unset, .unset] [] := by first | (simp [entryFrame, mkF, argsToLocals, Value.category]; done) | rfl
def QD (Z : State) (h0 : Heap) (n0 : Nat) (v : Option Value) (h : Heap) (L : List Loc) : Prop := ∃ (b : Addr) (ds : List Int32), v = some (.ref b) ∧ Fr n0 L ∧ Keep h0 h [] ∧ n0 ≤ b ∧ h0.size ≤ b ∧ ds.length ≤ 2 ∧ BA Z h b ds
set_option maxRecDepth 65536 in
set_option maxHeartbeats 40000000 in
theorem rmD (l : Launch) (Z : State) (a0 : Array Value) (hw : ∀ d ∈ tables_1, d.before a0 Z = true) (ws : List Jvm.Cond) (p1 : Int32)  (h0 : Heap) (n0 : Nat) (Z0 : n0 ≤ h0.size)  :
    MetFree l (⟨"com/example/gneiss/gneiss/store/FormNumberPinLaw", "drawn", "(I)[B"⟩ : MethodName) (head1 (Jvm.Cond.code (⟨"com/example/gneiss/gneiss/store/FormNumberPinLaw", "drawn", "(I)[B"⟩ : MethodName) method_3_code 3 (some (.array .byte)) :: ws) ({ frames := 1, cells := 1, slots := 2, locals := 12 } : Room)) (fun a U => a = #[(.int p1)] ∧ Z.Warmed39 U.vm ∧ U.heap = h0) (fun _ _ _ _ _ => True) (fun _ U o U' => ∃ v L, o = .returned v ∧ QD Z h0 n0 v U'.heap L ∧ FrameEnd U o U' L ({ frames := 1, cells := 1, slots := 2, locals := 12 } : Room).cells ({ frames := 1, cells := 1, slots := 2, locals := 12 } : Room).slots) := by
  refine MetFree.of_bodySF (plainFor_of_name pn_0) hisR ?_
  intro p e s m args below meth c s₁ Bd hml0 hP hK
  obtain ⟨rfl, hZ, hh⟩ := hP
  have hx := Bd.exec
  have hby := Bd.bytes
  have hml : c.maxLocals = 3 := hml0
  have hown : s.vm.findClass "com/example/gneiss/gneiss/store/FormNumberPinLaw" = some m.cls := findClass_of_methodNamed Bd.named
  have hnm := (name_of_methodNamed Bd.named Bd.method).1
  have X0 : Stand p l e ({ frames := 1, cells := 1, slots := 2, locals := 12 } : Room) s m #[(.int p1)] below meth c s₁ [] 0 0 := Stand.of_body Bd
  have e0 : s₁.heap = h0 := by rw [← hh, Bd.state]; rfl
  have N0 := Fr.nil n0
  obtain ⟨G, hG, pr0⟩ : ∃ G : State → Prop, (∀ t, G t → Steps p.tables e below (s₁.setTop (entryFrame m #[(.int p1)] 3)) t) ∧ (∀ t, Steps p.tables e below (s₁.setTop (mkF m 0 #[.val (.int p1), .unset, .unset] [])) t → G t) := ⟨_, fun _ k => k, fun t ks => castTop (ef_rmD m p1) ks⟩
  have K0 : Keep h0 h0 [] := Keep.refl _ _
  have pr6 : ∀ t, Steps p.tables e below (s₁.setTop (mkF m 1 #[.val (.int p1), .unset, .unset] [(.int p1)])) t → G t := fun t ks => pr0 t (by
      refine XS.iloadN X0.here hx rfl (hb hby d1_0) rfl ?_
      exact ks)
  obtain ⟨_, _, ⟨T7, L7, k7, n7⟩, -, X7, hP7, st7⟩ := Jvm.LawKit.callS X0 hx (y := (⟨"com/example/gneiss/gneiss/store/FormNumberPinLaw", "len", "(I)I"⟩ : MethodName)) hown (mvT hZ (hw _ (List.mem_of_getElem? (i := 4) rfl))) (mvT hZ (hw _ (List.mem_of_getElem? (i := 5) rfl))) (mvT hZ (hw _ (List.mem_of_getElem? (i := 2) rfl))) (mvT hZ (hw _ (List.mem_of_getElem? (i := 6) rfl))) (by decide) (backOf (W := 0) (rmLen l Z a0 hw [] p1 h0 n0 Z0) hZ (hw _ (List.mem_of_getElem? (i := 6) rfl)) (hw _ (List.mem_of_getElem? (i := 2) rfl)) (by decide) (by decide)) (g := (mkF m 1 #[.val (.int p1), .unset, .unset] [(.int p1)])) rfl (by rw [hml]; rfl) (argsL := [(.int p1)]) (rest := []) (lenOf pd_0 rfl) rfl (by show 2 * 0 + _ ≤ _; exact Nat.le_of_eq rfl) (hb hby d1_1) (fun _ _ => ⟨rfl, e0, (by decide : 0 + 0 ≤ _), (by decide : 0 + 0 ≤ _)⟩)
  obtain ⟨Lc7, hQ7, X7⟩ := own_out hP7 X7
  clear hP7
  dsimp only [Pt.U, Pt.locs, Pt.cells, Pt.slots] at X7 st7 hQ7
  obtain ⟨rfl, Nq7, eh7⟩ := hQ7
  have N7 := Fr.app N0 Nq7
  have pr8 : ∀ t, Steps p.tables e below (T7.setTop (mkF m 4 #[.val (.int p1), .unset, .unset] [(.int (own_len p1))])) t → G t := fun t ks => pr6 t (st7 t ks)
  have pr9 : ∀ t, Steps p.tables e below (T7.setTop (mkF m 5 #[.val (.int p1), .val (.int (own_len p1)), .unset] [])) t → G t := fun t ks => pr8 t (by
      refine XS.istoreN X7.here hx rfl (hb hby d1_4) rfl (l' := #[.val (.int p1), .val (.int (own_len p1)), .unset]) rfl ?_
      exact ks)
  obtain ⟨q, hq, eq⟩ := own_len2 p1
  rw [eq] at pr9
  obtain rfl | rfl | rfl : q = 0 ∨ q = 1 ∨ q = 2 := by omega
  · have pr10 : ∀ t, Steps p.tables e below (T7.setTop (mkF m 6 #[.val (.int p1), .val (.int (Int32.ofNat 0)), .unset] [(.int (Int32.ofNat 0))])) t → G t := fun t ks => pr9 t (by
        refine XS.iloadN X7.here hx rfl (hb hby d1_5) rfl ?_
        exact ks)
    obtain ⟨T11, h11, X11, e11, E11, A11, st11⟩ := ba_new X7 hx hZ (hw _ (List.mem_of_getElem? (i := 7) rfl)) eh7 (g := (mkF m 6 #[.val (.int p1), .val (.int (Int32.ofNat 0)), .unset] [(.int (Int32.ofNat 0))])) rfl (hb hby d1_6) rfl (N := 0) rfl (cap := 2) (by decide) (by decide) (by decide) (by decide)
    obtain ⟨b, g11⟩ : ∃ z, z = h0.size := ⟨_, rfl⟩
    rw [← g11] at A11 st11
    have g_b : n0 ≤ b := Nat.le_trans Z0 (Nat.le_of_eq g11.symm)
    have sz_b : h0.size ≤ b := Nat.le_trans K0.1 (Nat.le_of_eq g11.symm)
    have V_b := A11
    have Z11 : n0 ≤ h11.size := Nat.le_trans Z0 E11.1
    have K11 := K0.ext E11
    have pr12 : ∀ t, Steps p.tables e below (T11.setTop (mkF m 8 #[.val (.int p1), .val (.int (Int32.ofNat 0)), .unset] [(.ref b)])) t → G t := fun t ks => pr10 t (st11 t ks)
    have pr13 : ∀ t, Steps p.tables e below (T11.setTop (mkF m 32 #[.val (.int p1), .val (.int (Int32.ofNat 0)), .val (.ref b)] [(.ref b)])) t → G t := fun t ks => pr12 t (by
        refine XS.astoreN X11.here hx rfl (hb hby d1_8) rfl rfl (l' := #[.val (.int p1), .val (.int (Int32.ofNat 0)), .val (.ref b)]) rfl ?_
        refine XS.iloadN X11.here hx rfl (hb hby d1_9) rfl ?_
        refine XS.ifYes X11.here hx rfl (pc0 := 10) (pc' := 18) rfl (hb hby d1_10) rfl ((if0 _ _).trans (flt (by decide)).2.2.2) (by decide) (by decide) ?_
        refine XS.iloadN X11.here hx rfl (hb hby d1_18) rfl ?_
        refine XS.iconst X11.here hx rfl (hb hby d1_19) ?_
        refine XS.icmpYes X11.here hx rfl (pc0 := 20) (pc' := 31) rfl (hb hby d1_20) rfl (flt (by decide)).2.2.2 (by decide) (by decide) ?_
        refine XS.aloadN X11.here hx rfl (hb hby d1_31) rfl rfl ?_
        exact ks)
    obtain ⟨fs, hr, hrun, hended, hW, hsame⟩ := X11.leave (v := some (.ref b)) (fun h => by rw [Bd.returns] at h; cases h)
    refine ⟨_, _, hG _ (pr13 _ ?_), hrun, hended, _, _, rfl, ?_, ⟨_, rfl⟩, hW, hsame.mono (by decide) (by decide)⟩
    · jvm_step X11.here [X11.here.top, hx, (hb hby d1_32), X11.method', Bd.returns, Value.isRef, FieldType.isReference]
      first | (intro acts; rw [hr _ acts rfl rfl rfl]) | rw [hr _ _ rfl rfl rfl]
      exact Steps.refl _
    · show QD Z h0 n0 _ T11.heap _
      rw [e11]
      exact ⟨b, _, rfl, N7, K11, g_b, sz_b, Nat.le_of_ble_eq_true rfl, V_b⟩
  · have pr14 : ∀ t, Steps p.tables e below (T7.setTop (mkF m 6 #[.val (.int p1), .val (.int (Int32.ofNat 1)), .unset] [(.int (Int32.ofNat 1))])) t → G t := fun t ks => pr9 t (by
        refine XS.iloadN X7.here hx rfl (hb hby d1_5) rfl ?_
        exact ks)
    obtain ⟨T15, h15, X15, e15, E15, A15, st15⟩ := ba_new X7 hx hZ (hw _ (List.mem_of_getElem? (i := 7) rfl)) eh7 (g := (mkF m 6 #[.val (.int p1), .val (.int (Int32.ofNat 1)), .unset] [(.int (Int32.ofNat 1))])) rfl (hb hby d1_6) rfl (N := 1) rfl (cap := 2) (by decide) (by decide) (by decide) (by decide)
    obtain ⟨b, g15⟩ : ∃ z, z = h0.size := ⟨_, rfl⟩
    rw [← g15] at A15 st15
    have g_b : n0 ≤ b := Nat.le_trans Z0 (Nat.le_of_eq g15.symm)
    have sz_b : h0.size ≤ b := Nat.le_trans K0.1 (Nat.le_of_eq g15.symm)
    have V_b := A15
    have Z15 : n0 ≤ h15.size := Nat.le_trans Z0 E15.1
    have K15 := K0.ext E15
    have pr16 : ∀ t, Steps p.tables e below (T15.setTop (mkF m 8 #[.val (.int p1), .val (.int (Int32.ofNat 1)), .unset] [(.ref b)])) t → G t := fun t ks => pr14 t (st15 t ks)
    have pr17 : ∀ t, Steps p.tables e below (T15.setTop (mkF m 17 #[.val (.int p1), .val (.int (Int32.ofNat 1)), .val (.ref b)] [(.int (p1.toInt8.toInt32)), (.int (0 : Int32)), (.ref b)])) t → G t := fun t ks => pr16 t (by
        refine XS.astoreN X15.here hx rfl (hb hby d1_8) rfl rfl (l' := #[.val (.int p1), .val (.int (Int32.ofNat 1)), .val (.ref b)]) rfl ?_
        refine XS.iloadN X15.here hx rfl (hb hby d1_9) rfl ?_
        refine XS.ifNo X15.here hx rfl (hb hby d1_10) rfl ((if0 _ _).trans (tlt (by decide)).2.2.2) ?_
        refine XS.aloadN X15.here hx rfl (hb hby d1_13) rfl rfl ?_
        refine XS.iconst X15.here hx rfl (hb hby d1_14) ?_
        refine XS.iloadN X15.here hx rfl (hb hby d1_15) rfl ?_
        refine XS.i2b X15.here hx rfl (hb hby d1_16) rfl ?_
        exact ks)
    obtain ⟨T18, h18, X18, e18, W18, V18, st18⟩ := ba_st X15 hx hZ e15 V_b (j := (0 : Int32)) 0 rfl (Nat.le_of_ble_eq_true rfl) rfl (g := (mkF m 17 #[.val (.int p1), .val (.int (Int32.ofNat 1)), .val (.ref b)] [(.int (p1.toInt8.toInt32)), (.int (0 : Int32)), (.ref b)])) rfl rfl (hb hby d1_17)
    replace V_b := V18
    have N18 := Fr.snoc X18 N7 g_b
    have Z18 : n0 ≤ h18.size := Nat.le_trans Z15 (Keep.of_wr W18).1
    have K18 := K15.wr W18 (Or.inr sz_b)
    have pr19 : ∀ t, Steps p.tables e below (T18.setTop (mkF m 18 #[.val (.int p1), .val (.int (Int32.ofNat 1)), .val (.ref b)] [])) t → G t := fun t ks => pr17 t (st18 t ks)
    have pr20 : ∀ t, Steps p.tables e below (T18.setTop (mkF m 32 #[.val (.int p1), .val (.int (Int32.ofNat 1)), .val (.ref b)] [(.ref b)])) t → G t := fun t ks => pr19 t (by
        refine XS.iloadN X18.here hx rfl (hb hby d1_18) rfl ?_
        refine XS.iconst X18.here hx rfl (hb hby d1_19) ?_
        refine XS.icmpYes X18.here hx rfl (pc0 := 20) (pc' := 31) rfl (hb hby d1_20) rfl (flt (by decide)).2.2.2 (by decide) (by decide) ?_
        refine XS.aloadN X18.here hx rfl (hb hby d1_31) rfl rfl ?_
        exact ks)
    obtain ⟨fs, hr, hrun, hended, hW, hsame⟩ := X18.leave (v := some (.ref b)) (fun h => by rw [Bd.returns] at h; cases h)
    refine ⟨_, _, hG _ (pr20 _ ?_), hrun, hended, _, _, rfl, ?_, ⟨_, rfl⟩, hW, hsame.mono (by decide) (by decide)⟩
    · jvm_step X18.here [X18.here.top, hx, (hb hby d1_32), X18.method', Bd.returns, Value.isRef, FieldType.isReference]
      first | (intro acts; rw [hr _ acts rfl rfl rfl]) | rw [hr _ _ rfl rfl rfl]
      exact Steps.refl _
    · show QD Z h0 n0 _ T18.heap _
      rw [e18]
      exact ⟨b, _, rfl, N18, K18, g_b, sz_b, Nat.le_of_ble_eq_true rfl, V_b⟩
  · have pr21 : ∀ t, Steps p.tables e below (T7.setTop (mkF m 6 #[.val (.int p1), .val (.int (Int32.ofNat 2)), .unset] [(.int (Int32.ofNat 2))])) t → G t := fun t ks => pr9 t (by
        refine XS.iloadN X7.here hx rfl (hb hby d1_5) rfl ?_
        exact ks)
    obtain ⟨T22, h22, X22, e22, E22, A22, st22⟩ := ba_new X7 hx hZ (hw _ (List.mem_of_getElem? (i := 7) rfl)) eh7 (g := (mkF m 6 #[.val (.int p1), .val (.int (Int32.ofNat 2)), .unset] [(.int (Int32.ofNat 2))])) rfl (hb hby d1_6) rfl (N := 2) rfl (cap := 2) (by decide) (by decide) (by decide) (by decide)
    obtain ⟨b, g22⟩ : ∃ z, z = h0.size := ⟨_, rfl⟩
    rw [← g22] at A22 st22
    have g_b : n0 ≤ b := Nat.le_trans Z0 (Nat.le_of_eq g22.symm)
    have sz_b : h0.size ≤ b := Nat.le_trans K0.1 (Nat.le_of_eq g22.symm)
    have V_b := A22
    have Z22 : n0 ≤ h22.size := Nat.le_trans Z0 E22.1
    have K22 := K0.ext E22
    have pr23 : ∀ t, Steps p.tables e below (T22.setTop (mkF m 8 #[.val (.int p1), .val (.int (Int32.ofNat 2)), .unset] [(.ref b)])) t → G t := fun t ks => pr21 t (st22 t ks)
    have pr24 : ∀ t, Steps p.tables e below (T22.setTop (mkF m 17 #[.val (.int p1), .val (.int (Int32.ofNat 2)), .val (.ref b)] [(.int (p1.toInt8.toInt32)), (.int (0 : Int32)), (.ref b)])) t → G t := fun t ks => pr23 t (by
        refine XS.astoreN X22.here hx rfl (hb hby d1_8) rfl rfl (l' := #[.val (.int p1), .val (.int (Int32.ofNat 2)), .val (.ref b)]) rfl ?_
        refine XS.iloadN X22.here hx rfl (hb hby d1_9) rfl ?_
        refine XS.ifNo X22.here hx rfl (hb hby d1_10) rfl ((if0 _ _).trans (tlt (by decide)).2.2.2) ?_
        refine XS.aloadN X22.here hx rfl (hb hby d1_13) rfl rfl ?_
        refine XS.iconst X22.here hx rfl (hb hby d1_14) ?_
        refine XS.iloadN X22.here hx rfl (hb hby d1_15) rfl ?_
        refine XS.i2b X22.here hx rfl (hb hby d1_16) rfl ?_
        exact ks)
    obtain ⟨T25, h25, X25, e25, W25, V25, st25⟩ := ba_st X22 hx hZ e22 V_b (j := (0 : Int32)) 0 rfl (Nat.le_of_ble_eq_true rfl) rfl (g := (mkF m 17 #[.val (.int p1), .val (.int (Int32.ofNat 2)), .val (.ref b)] [(.int (p1.toInt8.toInt32)), (.int (0 : Int32)), (.ref b)])) rfl rfl (hb hby d1_17)
    replace V_b := V25
    have N25 := Fr.snoc X25 N7 g_b
    have Z25 : n0 ≤ h25.size := Nat.le_trans Z22 (Keep.of_wr W25).1
    have K25 := K22.wr W25 (Or.inr sz_b)
    have pr26 : ∀ t, Steps p.tables e below (T25.setTop (mkF m 18 #[.val (.int p1), .val (.int (Int32.ofNat 2)), .val (.ref b)] [])) t → G t := fun t ks => pr24 t (st25 t ks)
    have pr27 : ∀ t, Steps p.tables e below (T25.setTop (mkF m 30 #[.val (.int p1), .val (.int (Int32.ofNat 2)), .val (.ref b)] [(.int (((p1.toUInt32 >>> ((8 : Int32) &&& 31).toUInt32).toInt32).toInt8.toInt32)), (.int (1 : Int32)), (.ref b)])) t → G t := fun t ks => pr26 t (by
        refine XS.iloadN X25.here hx rfl (hb hby d1_18) rfl ?_
        refine XS.iconst X25.here hx rfl (hb hby d1_19) ?_
        refine XS.icmpNo X25.here hx rfl (hb hby d1_20) rfl (tlt (by decide)).2.2.2 ?_
        refine XS.aloadN X25.here hx rfl (hb hby d1_23) rfl rfl ?_
        refine XS.iconst X25.here hx rfl (hb hby d1_24) ?_
        refine XS.iloadN X25.here hx rfl (hb hby d1_25) rfl ?_
        refine XS.bipush X25.here hx rfl (hb hby d1_26) ?_
        refine XS.iushr X25.here hx rfl (hb hby d1_28) rfl ?_
        refine XS.i2b X25.here hx rfl (hb hby d1_29) rfl ?_
        exact ks)
    obtain ⟨T28, h28, X28, e28, W28, V28, st28⟩ := ba_st X25 hx hZ e25 V_b (j := (1 : Int32)) 1 rfl (Nat.le_of_ble_eq_true rfl) rfl (g := (mkF m 30 #[.val (.int p1), .val (.int (Int32.ofNat 2)), .val (.ref b)] [(.int (((p1.toUInt32 >>> ((8 : Int32) &&& 31).toUInt32).toInt32).toInt8.toInt32)), (.int (1 : Int32)), (.ref b)])) rfl rfl (hb hby d1_30)
    replace V_b := V28
    have N28 := Fr.snoc X28 N25 g_b
    have Z28 : n0 ≤ h28.size := Nat.le_trans Z25 (Keep.of_wr W28).1
    have K28 := K25.wr W28 (Or.inr sz_b)
    have pr29 : ∀ t, Steps p.tables e below (T28.setTop (mkF m 31 #[.val (.int p1), .val (.int (Int32.ofNat 2)), .val (.ref b)] [])) t → G t := fun t ks => pr27 t (st28 t ks)
    have pr30 : ∀ t, Steps p.tables e below (T28.setTop (mkF m 32 #[.val (.int p1), .val (.int (Int32.ofNat 2)), .val (.ref b)] [(.ref b)])) t → G t := fun t ks => pr29 t (by
        refine XS.aloadN X28.here hx rfl (hb hby d1_31) rfl rfl ?_
        exact ks)
    obtain ⟨fs, hr, hrun, hended, hW, hsame⟩ := X28.leave (v := some (.ref b)) (fun h => by rw [Bd.returns] at h; cases h)
    refine ⟨_, _, hG _ (pr30 _ ?_), hrun, hended, _, _, rfl, ?_, ⟨_, rfl⟩, hW, hsame.mono (by decide) (by decide)⟩
    · jvm_step X28.here [X28.here.top, hx, (hb hby d1_32), X28.method', Bd.returns, Value.isRef, FieldType.isReference]
      first | (intro acts; rw [hr _ acts rfl rfl rfl]) | rw [hr _ _ rfl rfl rfl]
      exact Steps.refl _
    · show QD Z h0 n0 _ T28.heap _
      rw [e28]
      exact ⟨b, _, rfl, N28, K28, g_b, sz_b, Nat.le_of_ble_eq_true rfl, V_b⟩
theorem ef_rmP (m : MethodId) (x0 : Addr) (x1 : Int32) (x2 : Addr) : entryFrame m #[(.ref x0), (.int x1), (.ref x2)] 3 = mkF m 0 #[.val (.ref x0), .val (.int x1), .val (.ref x2)] [] := by first | (simp [entryFrame, mkF, argsToLocals, Value.category]; done) | rfl
def QP (Z : State) (a1 : Addr) (us fs : List Int32) (i : Nat) (h0 : Heap) (n0 : Nat) (v : Option Value) (h : Heap) (L : List Loc) : Prop := v = none ∧ Fr n0 L ∧ Keep h0 h [a1] ∧ BA Z h a1 (us.take i ++ fs ++ us.drop (i + fs.length))
set_option maxRecDepth 65536 in
set_option maxHeartbeats 40000000 in
theorem rmP (l : Launch) (Z : State) (a0 : Array Value) (hw : ∀ d ∈ tables_1, d.before a0 Z = true) (ws : List Jvm.Cond) (a1 : Addr) (p2 : Int32) (a3 : Addr) (us fs : List Int32) (i : Nat) (h0 : Heap) (n0 : Nat) (Z0 : n0 ≤ h0.size) (V_a1 : BA Z h0 a1 us) (V_a3 : BA Z h0 a3 fs) (hfs : fs.length ≤ 2) (hat : p2 = Int32.ofNat i) (hi : i + fs.length ≤ us.length) (ne13 : a1 ≠ a3) (g_a1 : n0 ≤ a1) :
    MetFree l (⟨"com/example/gneiss/gneiss/store/FormNumberPinLaw", "put", "([BI[B)V"⟩ : MethodName) (head1 (Jvm.Cond.code (⟨"com/example/gneiss/gneiss/store/FormNumberPinLaw", "put", "([BI[B)V"⟩ : MethodName) method_5_code 3 none :: ws) ({ frames := 0, cells := 0, slots := 0, locals := 0 } : Room)) (fun a U => a = #[(.ref a1), (.int p2), (.ref a3)] ∧ Z.Warmed39 U.vm ∧ U.heap = h0) (fun _ _ _ _ _ => True) (fun _ U o U' => ∃ v L, o = .returned v ∧ QP Z a1 us fs i h0 n0 v U'.heap L ∧ FrameEnd U o U' L ({ frames := 0, cells := 0, slots := 0, locals := 0 } : Room).cells ({ frames := 0, cells := 0, slots := 0, locals := 0 } : Room).slots) := by
  refine MetFree.of_bodySF (plainFor_of_name pn_0) hisR ?_
  intro p e s m args below meth c s₁ Bd hml0 hP hK
  obtain ⟨rfl, hZ, hh⟩ := hP
  have hx := Bd.exec
  have hby := Bd.bytes
  have hml : c.maxLocals = 3 := hml0
  have hown : s.vm.findClass "com/example/gneiss/gneiss/store/FormNumberPinLaw" = some m.cls := findClass_of_methodNamed Bd.named
  have hnm := (name_of_methodNamed Bd.named Bd.method).1
  have X0 : Stand p l e ({ frames := 0, cells := 0, slots := 0, locals := 0 } : Room) s m #[(.ref a1), (.int p2), (.ref a3)] below meth c s₁ [] 0 0 := Stand.of_body Bd
  have e0 : s₁.heap = h0 := by rw [← hh, Bd.state]; rfl
  have N0 := Fr.nil n0
  obtain ⟨G, hG, pr0⟩ : ∃ G : State → Prop, (∀ t, G t → Steps p.tables e below (s₁.setTop (entryFrame m #[(.ref a1), (.int p2), (.ref a3)] 3)) t) ∧ (∀ t, Steps p.tables e below (s₁.setTop (mkF m 0 #[.val (.ref a1), .val (.int p2), .val (.ref a3)] [])) t → G t) := ⟨_, fun _ k => k, fun t ks => castTop (ef_rmP m a1 p2 a3) ks⟩
  have K0 : Keep h0 h0 [a1] := Keep.refl _ _
  rcases fs with _ | ⟨x0, _ | ⟨x1, fs⟩⟩
  · simp only [List.length_cons, List.length_nil] at hi
    have pr31 : ∀ t, Steps p.tables e below (s₁.setTop (mkF m 25 #[.val (.ref a1), .val (.int p2), .val (.ref a3)] [])) t → G t := fun t ks => pr0 t (by
        refine XS.aloadN X0.here hx rfl (hb hby d3_0) rfl rfl ?_
        refine ba_len X0 hx hZ e0 V_a3 (g := (mkF m 1 #[.val (.ref a1), .val (.int p2), .val (.ref a3)] [(.ref a3)])) rfl rfl (hb hby d3_1) _ ?_
        refine XS.ifYes X0.here hx rfl (pc0 := 2) (pc' := 11) rfl (hb hby d3_2) rfl ((if0 _ _).trans (flt (show ¬ (0 : Int32) < Int32.ofNat 0 by decide)).2.2.2) (by decide) (by decide) ?_
        refine XS.aloadN X0.here hx rfl (hb hby d3_11) rfl rfl ?_
        refine ba_len X0 hx hZ e0 V_a3 (g := (mkF m 12 #[.val (.ref a1), .val (.int p2), .val (.ref a3)] [(.ref a3)])) rfl rfl (hb hby d3_12) _ ?_
        refine XS.iconst X0.here hx rfl (hb hby d3_13) ?_
        refine XS.icmpYes X0.here hx rfl (pc0 := 14) (pc' := 25) rfl (hb hby d3_14) rfl (flt (show ¬ (1 : Int32) < Int32.ofNat 0 by decide)).2.2.2 (by decide) (by decide) ?_
        exact ks)
    obtain ⟨fs, hr, hrun, hended, hW, hsame⟩ := X0.leave (v := none) (fun _ => rfl)
    refine ⟨_, _, hG _ (pr31 _ ?_), hrun, hended, _, _, rfl, ?_, ⟨_, rfl⟩, hW, hsame.mono (by decide) (by decide)⟩
    · exact X0.returnOut hx Bd.returns (hb hby d3_25) hr
    · show QP Z a1 us ([] : List Int32) i h0 n0 _ s₁.heap _
      rw [e0]
      exact ⟨rfl, N0, K0, V_a1.eq (by simp)⟩
  · simp only [List.length_cons, List.length_nil] at hi
    have pr32 : ∀ t, Steps p.tables e below (s₁.setTop (mkF m 10 #[.val (.ref a1), .val (.int p2), .val (.ref a3)] [(.int x0), (.int p2), (.ref a1)])) t → G t := fun t ks => pr0 t (by
        refine XS.aloadN X0.here hx rfl (hb hby d3_0) rfl rfl ?_
        refine ba_len X0 hx hZ e0 V_a3 (g := (mkF m 1 #[.val (.ref a1), .val (.int p2), .val (.ref a3)] [(.ref a3)])) rfl rfl (hb hby d3_1) _ ?_
        refine XS.ifNo X0.here hx rfl (hb hby d3_2) rfl ((if0 _ _).trans (tlt (show (0 : Int32) < Int32.ofNat 1 by decide)).2.2.2) ?_
        refine XS.aloadN X0.here hx rfl (hb hby d3_5) rfl rfl ?_
        refine XS.iloadN X0.here hx rfl (hb hby d3_6) rfl ?_
        refine XS.aloadN X0.here hx rfl (hb hby d3_7) rfl rfl ?_
        refine XS.iconst X0.here hx rfl (hb hby d3_8) ?_
        refine ba_ld X0 hx hZ e0 V_a3 (j := (0 : Int32)) 0 rfl (Nat.le_of_ble_eq_true rfl) (w := x0) rfl (g := (mkF m 9 #[.val (.ref a1), .val (.int p2), .val (.ref a3)] [(.int (0 : Int32)), (.ref a3), (.int p2), (.ref a1)])) rfl rfl (hb hby d3_9) _ ?_
        exact ks)
    obtain ⟨T33, h33, X33, e33, W33, V33, st33⟩ := ba_st X0 hx hZ e0 V_a1 (j := p2) i hat (by omega) (y := (nar .byte x0)) rfl (g := (mkF m 10 #[.val (.ref a1), .val (.int p2), .val (.ref a3)] [(.int x0), (.int p2), (.ref a1)])) rfl rfl (hb hby d3_10)
    replace V_a1 := V33
    replace V_a3 := V_a3.other W33 (Ne.symm ne13)
    have N33 := Fr.snoc X33 N0 g_a1
    have Z33 : n0 ≤ h33.size := Nat.le_trans Z0 (Keep.of_wr W33).1
    have K33 := K0.wr W33 (Or.inl (List.mem_of_getElem? (i := 0) rfl))
    have pr34 : ∀ t, Steps p.tables e below (T33.setTop (mkF m 11 #[.val (.ref a1), .val (.int p2), .val (.ref a3)] [])) t → G t := fun t ks => pr32 t (st33 t ks)
    have pr35 : ∀ t, Steps p.tables e below (T33.setTop (mkF m 25 #[.val (.ref a1), .val (.int p2), .val (.ref a3)] [])) t → G t := fun t ks => pr34 t (by
        refine XS.aloadN X33.here hx rfl (hb hby d3_11) rfl rfl ?_
        refine ba_len X33 hx hZ e33 V_a3 (g := (mkF m 12 #[.val (.ref a1), .val (.int p2), .val (.ref a3)] [(.ref a3)])) rfl rfl (hb hby d3_12) _ ?_
        refine XS.iconst X33.here hx rfl (hb hby d3_13) ?_
        refine XS.icmpYes X33.here hx rfl (pc0 := 14) (pc' := 25) rfl (hb hby d3_14) rfl (flt (show ¬ (1 : Int32) < Int32.ofNat 1 by decide)).2.2.2 (by decide) (by decide) ?_
        exact ks)
    have en0 : nar .byte x0 = x0 := own_nb V_a3 0 (Nat.le_of_ble_eq_true rfl) rfl
    obtain ⟨fs, hr, hrun, hended, hW, hsame⟩ := X33.leave (v := none) (fun _ => rfl)
    refine ⟨_, _, hG _ (pr35 _ ?_), hrun, hended, _, _, rfl, ?_, ⟨_, rfl⟩, hW, hsame.mono (by decide) (by decide)⟩
    · exact X33.returnOut hx Bd.returns (hb hby d3_25) hr
    · show QP Z a1 us [x0] i h0 n0 _ T33.heap _
      rw [e33]
      exact ⟨rfl, N33, K33, V_a1.eq (by rw [en0, own_put1 us i _ (by omega)]; rfl)⟩
  · obtain rfl : fs = [] := List.eq_nil_of_length_eq_zero (by simp only [List.length_cons] at hfs; omega)
    simp only [List.length_cons, List.length_nil] at hi
    have pr36 : ∀ t, Steps p.tables e below (s₁.setTop (mkF m 10 #[.val (.ref a1), .val (.int p2), .val (.ref a3)] [(.int x0), (.int p2), (.ref a1)])) t → G t := fun t ks => pr0 t (by
        refine XS.aloadN X0.here hx rfl (hb hby d3_0) rfl rfl ?_
        refine ba_len X0 hx hZ e0 V_a3 (g := (mkF m 1 #[.val (.ref a1), .val (.int p2), .val (.ref a3)] [(.ref a3)])) rfl rfl (hb hby d3_1) _ ?_
        refine XS.ifNo X0.here hx rfl (hb hby d3_2) rfl ((if0 _ _).trans (tlt (show (0 : Int32) < Int32.ofNat 2 by decide)).2.2.2) ?_
        refine XS.aloadN X0.here hx rfl (hb hby d3_5) rfl rfl ?_
        refine XS.iloadN X0.here hx rfl (hb hby d3_6) rfl ?_
        refine XS.aloadN X0.here hx rfl (hb hby d3_7) rfl rfl ?_
        refine XS.iconst X0.here hx rfl (hb hby d3_8) ?_
        refine ba_ld X0 hx hZ e0 V_a3 (j := (0 : Int32)) 0 rfl (Nat.le_of_ble_eq_true rfl) (w := x0) rfl (g := (mkF m 9 #[.val (.ref a1), .val (.int p2), .val (.ref a3)] [(.int (0 : Int32)), (.ref a3), (.int p2), (.ref a1)])) rfl rfl (hb hby d3_9) _ ?_
        exact ks)
    obtain ⟨T37, h37, X37, e37, W37, V37, st37⟩ := ba_st X0 hx hZ e0 V_a1 (j := p2) i hat (by omega) (y := (nar .byte x0)) rfl (g := (mkF m 10 #[.val (.ref a1), .val (.int p2), .val (.ref a3)] [(.int x0), (.int p2), (.ref a1)])) rfl rfl (hb hby d3_10)
    replace V_a1 := V37
    replace V_a3 := V_a3.other W37 (Ne.symm ne13)
    have N37 := Fr.snoc X37 N0 g_a1
    have Z37 : n0 ≤ h37.size := Nat.le_trans Z0 (Keep.of_wr W37).1
    have K37 := K0.wr W37 (Or.inl (List.mem_of_getElem? (i := 0) rfl))
    have pr38 : ∀ t, Steps p.tables e below (T37.setTop (mkF m 11 #[.val (.ref a1), .val (.int p2), .val (.ref a3)] [])) t → G t := fun t ks => pr36 t (st37 t ks)
    have pr39 : ∀ t, Steps p.tables e below (T37.setTop (mkF m 24 #[.val (.ref a1), .val (.int p2), .val (.ref a3)] [(.int x1), (.int (p2 + (1 : Int32))), (.ref a1)])) t → G t := fun t ks => pr38 t (by
        refine XS.aloadN X37.here hx rfl (hb hby d3_11) rfl rfl ?_
        refine ba_len X37 hx hZ e37 V_a3 (g := (mkF m 12 #[.val (.ref a1), .val (.int p2), .val (.ref a3)] [(.ref a3)])) rfl rfl (hb hby d3_12) _ ?_
        refine XS.iconst X37.here hx rfl (hb hby d3_13) ?_
        refine XS.icmpNo X37.here hx rfl (hb hby d3_14) rfl (tlt (show (1 : Int32) < Int32.ofNat 2 by decide)).2.2.2 ?_
        refine XS.aloadN X37.here hx rfl (hb hby d3_17) rfl rfl ?_
        refine XS.iloadN X37.here hx rfl (hb hby d3_18) rfl ?_
        refine XS.iconst X37.here hx rfl (hb hby d3_19) ?_
        refine XS.iadd X37.here hx rfl (hb hby d3_20) rfl ?_
        refine XS.aloadN X37.here hx rfl (hb hby d3_21) rfl rfl ?_
        refine XS.iconst X37.here hx rfl (hb hby d3_22) ?_
        refine ba_ld X37 hx hZ e37 V_a3 (j := (1 : Int32)) 1 rfl (Nat.le_of_ble_eq_true rfl) (w := x1) rfl (g := (mkF m 23 #[.val (.ref a1), .val (.int p2), .val (.ref a3)] [(.int (1 : Int32)), (.ref a3), (.int (p2 + (1 : Int32))), (.ref a1)])) rfl rfl (hb hby d3_23) _ ?_
        exact ks)
    obtain ⟨T40, h40, X40, e40, W40, V40, st40⟩ := ba_st X37 hx hZ e37 V_a1 (j := (p2 + (1 : Int32))) (i + 1) (by rw [hat]; exact own_one) (by rw [List.length_set]; omega) (y := (nar .byte x1)) rfl (g := (mkF m 24 #[.val (.ref a1), .val (.int p2), .val (.ref a3)] [(.int x1), (.int (p2 + (1 : Int32))), (.ref a1)])) rfl rfl (hb hby d3_24)
    replace V_a1 := V40
    replace V_a3 := V_a3.other W40 (Ne.symm ne13)
    have N40 := Fr.snoc X40 N37 g_a1
    have Z40 : n0 ≤ h40.size := Nat.le_trans Z37 (Keep.of_wr W40).1
    have K40 := K37.wr W40 (Or.inl (List.mem_of_getElem? (i := 0) rfl))
    have pr41 : ∀ t, Steps p.tables e below (T40.setTop (mkF m 25 #[.val (.ref a1), .val (.int p2), .val (.ref a3)] [])) t → G t := fun t ks => pr39 t (st40 t ks)
    have en0 : nar .byte x0 = x0 := own_nb V_a3 0 (Nat.le_of_ble_eq_true rfl) rfl
    have en1 : nar .byte x1 = x1 := own_nb V_a3 1 (Nat.le_of_ble_eq_true rfl) rfl
    obtain ⟨fs, hr, hrun, hended, hW, hsame⟩ := X40.leave (v := none) (fun _ => rfl)
    refine ⟨_, _, hG _ (pr41 _ ?_), hrun, hended, _, _, rfl, ?_, ⟨_, rfl⟩, hW, hsame.mono (by decide) (by decide)⟩
    · exact X40.returnOut hx Bd.returns (hb hby d3_25) hr
    · show QP Z a1 us [x0, x1] i h0 n0 _ T40.heap _
      rw [e40]
      exact ⟨rfl, N40, K40, V_a1.eq (by rw [en0, en1, own_put2 us i _ _ (by omega)]; rfl)⟩
theorem ef_rmE (m : MethodId) (x0 : Addr) (x1 : Int32) (x2 : Int64) : entryFrame m #[(.ref x0), (.int x1), (.long x2)] 4 = mkF m 0 #[.val (.ref x0), .val (.int x1), .val (.long x2), .second] [] := by first | (simp [entryFrame, mkF, argsToLocals, Value.category]; done) | rfl
def QE (Z : State) (a1 : Addr) (us : List Int32) (p3 : Int64) (i : Nat) (h0 : Heap) (n0 : Nat) (v : Option Value) (h : Heap) (L : List Loc) : Prop := v = none ∧ Fr n0 L ∧ Keep h0 h [a1] ∧ BA Z h a1 (us.take i ++ own_b8 p3 ++ us.drop (i + 8))
set_option maxRecDepth 65536 in
set_option maxHeartbeats 40000000 in
theorem rmE (l : Launch) (Z : State) (a0 : Array Value) (hw : ∀ d ∈ tables_1, d.before a0 Z = true) (ws : List Jvm.Cond) (a1 : Addr) (p2 : Int32) (p3 : Int64) (us : List Int32) (i : Nat) (h0 : Heap) (n0 : Nat) (Z0 : n0 ≤ h0.size) (V_a1 : BA Z h0 a1 us) (hat : p2 = Int32.ofNat i) (hi : i + 8 ≤ us.length) (g_a1 : n0 ≤ a1) :
    MetFree l (⟨"com/example/gneiss/gneiss/store/FormNumberPinLaw", "put8", "([BIJ)V"⟩ : MethodName) (head1 (Jvm.Cond.code (⟨"com/example/gneiss/gneiss/store/FormNumberPinLaw", "put8", "([BIJ)V"⟩ : MethodName) method_4_code 4 none :: ws) ({ frames := 0, cells := 0, slots := 0, locals := 0 } : Room)) (fun a U => a = #[(.ref a1), (.int p2), (.long p3)] ∧ Z.Warmed39 U.vm ∧ U.heap = h0) (fun _ _ _ _ _ => True) (fun _ U o U' => ∃ v L, o = .returned v ∧ QE Z a1 us p3 i h0 n0 v U'.heap L ∧ FrameEnd U o U' L ({ frames := 0, cells := 0, slots := 0, locals := 0 } : Room).cells ({ frames := 0, cells := 0, slots := 0, locals := 0 } : Room).slots) := by
  refine MetFree.of_bodySF (plainFor_of_name pn_0) hisR ?_
  intro p e s m args below meth c s₁ Bd hml0 hP hK
  obtain ⟨rfl, hZ, hh⟩ := hP
  have hx := Bd.exec
  have hby := Bd.bytes
  have hml : c.maxLocals = 4 := hml0
  have hown : s.vm.findClass "com/example/gneiss/gneiss/store/FormNumberPinLaw" = some m.cls := findClass_of_methodNamed Bd.named
  have hnm := (name_of_methodNamed Bd.named Bd.method).1
  have X0 : Stand p l e ({ frames := 0, cells := 0, slots := 0, locals := 0 } : Room) s m #[(.ref a1), (.int p2), (.long p3)] below meth c s₁ [] 0 0 := Stand.of_body Bd
  have e0 : s₁.heap = h0 := by rw [← hh, Bd.state]; rfl
  have N0 := Fr.nil n0
  obtain ⟨G, hG, pr0⟩ : ∃ G : State → Prop, (∀ t, G t → Steps p.tables e below (s₁.setTop (entryFrame m #[(.ref a1), (.int p2), (.long p3)] 4)) t) ∧ (∀ t, Steps p.tables e below (s₁.setTop (mkF m 0 #[.val (.ref a1), .val (.int p2), .val (.long p3), .second] [])) t → G t) := ⟨_, fun _ k => k, fun t ks => castTop (ef_rmE m a1 p2 p3) ks⟩
  have K0 : Keep h0 h0 [a1] := Keep.refl _ _
  replace V_a1 : BA Z h0 a1 (us.take i ++ [] ++ us.drop (i + 0)) := V_a1.eq (by simp)
  have pr42 : ∀ t, Steps p.tables e below (s₁.setTop (mkF m 8 #[.val (.ref a1), .val (.int p2), .val (.long p3), .second] [(.int ((((p3.toUInt64 >>> ((56 : Int32) &&& 0x3f).toInt64.toUInt64).toInt64).toInt32).toInt8.toInt32)), (.int p2), (.ref a1)])) t → G t := fun t ks => pr0 t (by
      refine XS.aloadN X0.here hx rfl (hb hby d4_0) rfl rfl ?_
      refine XS.iloadN X0.here hx rfl (hb hby d4_1) rfl ?_
      refine XS.lloadN X0.here hx rfl (hb hby d4_2) rfl ?_
      refine XS.bipush X0.here hx rfl (hb hby d4_3) ?_
      refine XS.lushr X0.here hx rfl (hb hby d4_5) rfl ?_
      refine XS.l2i X0.here hx rfl (hb hby d4_6) rfl ?_
      refine XS.i2b X0.here hx rfl (hb hby d4_7) rfl ?_
      exact ks)
  obtain ⟨y0, hy0⟩ : ∃ z : Int32, z = ((((p3.toUInt64 >>> ((56 : Int32) &&& 0x3f).toInt64.toUInt64).toInt64).toInt32).toInt8.toInt32) := ⟨_, rfl⟩
  rw [← hy0] at pr42
  obtain ⟨T43, h43, X43, e43, W43, V43, st43⟩ := ba_st X0 hx hZ e0 V_a1 (j := p2) (i + 0) hat (by simp only [List.length_append, List.length_take, List.length_drop, List.length_cons, List.length_nil]; omega) (y := y0) (by rw [hy0]; exact own_narB _) (g := (mkF m 8 #[.val (.ref a1), .val (.int p2), .val (.long p3), .second] [(.int y0), (.int p2), (.ref a1)])) rfl rfl (hb hby d4_8)
  replace V_a1 := V43
  replace V_a1 : BA Z h43 a1 (us.take i ++ [y0] ++ us.drop (i + 1)) := V_a1.eq (own_laid [] us i y0 (by simp only [List.length_cons, List.length_nil]; omega))
  have N43 := Fr.snoc X43 N0 g_a1
  have Z43 : n0 ≤ h43.size := Nat.le_trans Z0 (Keep.of_wr W43).1
  have K43 := K0.wr W43 (Or.inl (List.mem_of_getElem? (i := 0) rfl))
  have pr44 : ∀ t, Steps p.tables e below (T43.setTop (mkF m 9 #[.val (.ref a1), .val (.int p2), .val (.long p3), .second] [])) t → G t := fun t ks => pr42 t (st43 t ks)
  have pr45 : ∀ t, Steps p.tables e below (T43.setTop (mkF m 19 #[.val (.ref a1), .val (.int p2), .val (.long p3), .second] [(.int ((((p3.toUInt64 >>> ((48 : Int32) &&& 0x3f).toInt64.toUInt64).toInt64).toInt32).toInt8.toInt32)), (.int (p2 + (1 : Int32))), (.ref a1)])) t → G t := fun t ks => pr44 t (by
      refine XS.aloadN X43.here hx rfl (hb hby d4_9) rfl rfl ?_
      refine XS.iloadN X43.here hx rfl (hb hby d4_10) rfl ?_
      refine XS.iconst X43.here hx rfl (hb hby d4_11) ?_
      refine XS.iadd X43.here hx rfl (hb hby d4_12) rfl ?_
      refine XS.lloadN X43.here hx rfl (hb hby d4_13) rfl ?_
      refine XS.bipush X43.here hx rfl (hb hby d4_14) ?_
      refine XS.lushr X43.here hx rfl (hb hby d4_16) rfl ?_
      refine XS.l2i X43.here hx rfl (hb hby d4_17) rfl ?_
      refine XS.i2b X43.here hx rfl (hb hby d4_18) rfl ?_
      exact ks)
  obtain ⟨y1, hy1⟩ : ∃ z : Int32, z = ((((p3.toUInt64 >>> ((48 : Int32) &&& 0x3f).toInt64.toUInt64).toInt64).toInt32).toInt8.toInt32) := ⟨_, rfl⟩
  rw [← hy1] at pr45
  obtain ⟨T46, h46, X46, e46, W46, V46, st46⟩ := ba_st X43 hx hZ e43 V_a1 (j := (p2 + (1 : Int32))) (i + 1) (own_adx hat 1) (by simp only [List.length_append, List.length_take, List.length_drop, List.length_cons, List.length_nil]; omega) (y := y1) (by rw [hy1]; exact own_narB _) (g := (mkF m 19 #[.val (.ref a1), .val (.int p2), .val (.long p3), .second] [(.int y1), (.int (p2 + (1 : Int32))), (.ref a1)])) rfl rfl (hb hby d4_19)
  replace V_a1 := V46
  replace V_a1 : BA Z h46 a1 (us.take i ++ [y0, y1] ++ us.drop (i + 2)) := V_a1.eq (own_laid [y0] us i y1 (by simp only [List.length_cons, List.length_nil]; omega))
  have N46 := Fr.snoc X46 N43 g_a1
  have Z46 : n0 ≤ h46.size := Nat.le_trans Z43 (Keep.of_wr W46).1
  have K46 := K43.wr W46 (Or.inl (List.mem_of_getElem? (i := 0) rfl))
  have pr47 : ∀ t, Steps p.tables e below (T46.setTop (mkF m 20 #[.val (.ref a1), .val (.int p2), .val (.long p3), .second] [])) t → G t := fun t ks => pr45 t (st46 t ks)
  have pr48 : ∀ t, Steps p.tables e below (T46.setTop (mkF m 30 #[.val (.ref a1), .val (.int p2), .val (.long p3), .second] [(.int ((((p3.toUInt64 >>> ((40 : Int32) &&& 0x3f).toInt64.toUInt64).toInt64).toInt32).toInt8.toInt32)), (.int (p2 + (2 : Int32))), (.ref a1)])) t → G t := fun t ks => pr47 t (by
      refine XS.aloadN X46.here hx rfl (hb hby d4_20) rfl rfl ?_
      refine XS.iloadN X46.here hx rfl (hb hby d4_21) rfl ?_
      refine XS.iconst X46.here hx rfl (hb hby d4_22) ?_
      refine XS.iadd X46.here hx rfl (hb hby d4_23) rfl ?_
      refine XS.lloadN X46.here hx rfl (hb hby d4_24) rfl ?_
      refine XS.bipush X46.here hx rfl (hb hby d4_25) ?_
      refine XS.lushr X46.here hx rfl (hb hby d4_27) rfl ?_
      refine XS.l2i X46.here hx rfl (hb hby d4_28) rfl ?_
      refine XS.i2b X46.here hx rfl (hb hby d4_29) rfl ?_
      exact ks)
  obtain ⟨y2, hy2⟩ : ∃ z : Int32, z = ((((p3.toUInt64 >>> ((40 : Int32) &&& 0x3f).toInt64.toUInt64).toInt64).toInt32).toInt8.toInt32) := ⟨_, rfl⟩
  rw [← hy2] at pr48
  obtain ⟨T49, h49, X49, e49, W49, V49, st49⟩ := ba_st X46 hx hZ e46 V_a1 (j := (p2 + (2 : Int32))) (i + 2) (own_adx hat 2) (by simp only [List.length_append, List.length_take, List.length_drop, List.length_cons, List.length_nil]; omega) (y := y2) (by rw [hy2]; exact own_narB _) (g := (mkF m 30 #[.val (.ref a1), .val (.int p2), .val (.long p3), .second] [(.int y2), (.int (p2 + (2 : Int32))), (.ref a1)])) rfl rfl (hb hby d4_30)
  replace V_a1 := V49
  replace V_a1 : BA Z h49 a1 (us.take i ++ [y0, y1, y2] ++ us.drop (i + 3)) := V_a1.eq (own_laid [y0, y1] us i y2 (by simp only [List.length_cons, List.length_nil]; omega))
  have N49 := Fr.snoc X49 N46 g_a1
  have Z49 : n0 ≤ h49.size := Nat.le_trans Z46 (Keep.of_wr W49).1
  have K49 := K46.wr W49 (Or.inl (List.mem_of_getElem? (i := 0) rfl))
  have pr50 : ∀ t, Steps p.tables e below (T49.setTop (mkF m 31 #[.val (.ref a1), .val (.int p2), .val (.long p3), .second] [])) t → G t := fun t ks => pr48 t (st49 t ks)
  have pr51 : ∀ t, Steps p.tables e below (T49.setTop (mkF m 41 #[.val (.ref a1), .val (.int p2), .val (.long p3), .second] [(.int ((((p3.toUInt64 >>> ((32 : Int32) &&& 0x3f).toInt64.toUInt64).toInt64).toInt32).toInt8.toInt32)), (.int (p2 + (3 : Int32))), (.ref a1)])) t → G t := fun t ks => pr50 t (by
      refine XS.aloadN X49.here hx rfl (hb hby d4_31) rfl rfl ?_
      refine XS.iloadN X49.here hx rfl (hb hby d4_32) rfl ?_
      refine XS.iconst X49.here hx rfl (hb hby d4_33) ?_
      refine XS.iadd X49.here hx rfl (hb hby d4_34) rfl ?_
      refine XS.lloadN X49.here hx rfl (hb hby d4_35) rfl ?_
      refine XS.bipush X49.here hx rfl (hb hby d4_36) ?_
      refine XS.lushr X49.here hx rfl (hb hby d4_38) rfl ?_
      refine XS.l2i X49.here hx rfl (hb hby d4_39) rfl ?_
      refine XS.i2b X49.here hx rfl (hb hby d4_40) rfl ?_
      exact ks)
  obtain ⟨y3, hy3⟩ : ∃ z : Int32, z = ((((p3.toUInt64 >>> ((32 : Int32) &&& 0x3f).toInt64.toUInt64).toInt64).toInt32).toInt8.toInt32) := ⟨_, rfl⟩
  rw [← hy3] at pr51
  obtain ⟨T52, h52, X52, e52, W52, V52, st52⟩ := ba_st X49 hx hZ e49 V_a1 (j := (p2 + (3 : Int32))) (i + 3) (own_adx hat 3) (by simp only [List.length_append, List.length_take, List.length_drop, List.length_cons, List.length_nil]; omega) (y := y3) (by rw [hy3]; exact own_narB _) (g := (mkF m 41 #[.val (.ref a1), .val (.int p2), .val (.long p3), .second] [(.int y3), (.int (p2 + (3 : Int32))), (.ref a1)])) rfl rfl (hb hby d4_41)
  replace V_a1 := V52
  replace V_a1 : BA Z h52 a1 (us.take i ++ [y0, y1, y2, y3] ++ us.drop (i + 4)) := V_a1.eq (own_laid [y0, y1, y2] us i y3 (by simp only [List.length_cons, List.length_nil]; omega))
  have N52 := Fr.snoc X52 N49 g_a1
  have Z52 : n0 ≤ h52.size := Nat.le_trans Z49 (Keep.of_wr W52).1
  have K52 := K49.wr W52 (Or.inl (List.mem_of_getElem? (i := 0) rfl))
  have pr53 : ∀ t, Steps p.tables e below (T52.setTop (mkF m 42 #[.val (.ref a1), .val (.int p2), .val (.long p3), .second] [])) t → G t := fun t ks => pr51 t (st52 t ks)
  have pr54 : ∀ t, Steps p.tables e below (T52.setTop (mkF m 52 #[.val (.ref a1), .val (.int p2), .val (.long p3), .second] [(.int ((((p3.toUInt64 >>> ((24 : Int32) &&& 0x3f).toInt64.toUInt64).toInt64).toInt32).toInt8.toInt32)), (.int (p2 + (4 : Int32))), (.ref a1)])) t → G t := fun t ks => pr53 t (by
      refine XS.aloadN X52.here hx rfl (hb hby d4_42) rfl rfl ?_
      refine XS.iloadN X52.here hx rfl (hb hby d4_43) rfl ?_
      refine XS.iconst X52.here hx rfl (hb hby d4_44) ?_
      refine XS.iadd X52.here hx rfl (hb hby d4_45) rfl ?_
      refine XS.lloadN X52.here hx rfl (hb hby d4_46) rfl ?_
      refine XS.bipush X52.here hx rfl (hb hby d4_47) ?_
      refine XS.lushr X52.here hx rfl (hb hby d4_49) rfl ?_
      refine XS.l2i X52.here hx rfl (hb hby d4_50) rfl ?_
      refine XS.i2b X52.here hx rfl (hb hby d4_51) rfl ?_
      exact ks)
  obtain ⟨y4, hy4⟩ : ∃ z : Int32, z = ((((p3.toUInt64 >>> ((24 : Int32) &&& 0x3f).toInt64.toUInt64).toInt64).toInt32).toInt8.toInt32) := ⟨_, rfl⟩
  rw [← hy4] at pr54
  obtain ⟨T55, h55, X55, e55, W55, V55, st55⟩ := ba_st X52 hx hZ e52 V_a1 (j := (p2 + (4 : Int32))) (i + 4) (own_adx hat 4) (by simp only [List.length_append, List.length_take, List.length_drop, List.length_cons, List.length_nil]; omega) (y := y4) (by rw [hy4]; exact own_narB _) (g := (mkF m 52 #[.val (.ref a1), .val (.int p2), .val (.long p3), .second] [(.int y4), (.int (p2 + (4 : Int32))), (.ref a1)])) rfl rfl (hb hby d4_52)
  replace V_a1 := V55
  replace V_a1 : BA Z h55 a1 (us.take i ++ [y0, y1, y2, y3, y4] ++ us.drop (i + 5)) := V_a1.eq (own_laid [y0, y1, y2, y3] us i y4 (by simp only [List.length_cons, List.length_nil]; omega))
  have N55 := Fr.snoc X55 N52 g_a1
  have Z55 : n0 ≤ h55.size := Nat.le_trans Z52 (Keep.of_wr W55).1
  have K55 := K52.wr W55 (Or.inl (List.mem_of_getElem? (i := 0) rfl))
  have pr56 : ∀ t, Steps p.tables e below (T55.setTop (mkF m 53 #[.val (.ref a1), .val (.int p2), .val (.long p3), .second] [])) t → G t := fun t ks => pr54 t (st55 t ks)
  have pr57 : ∀ t, Steps p.tables e below (T55.setTop (mkF m 63 #[.val (.ref a1), .val (.int p2), .val (.long p3), .second] [(.int ((((p3.toUInt64 >>> ((16 : Int32) &&& 0x3f).toInt64.toUInt64).toInt64).toInt32).toInt8.toInt32)), (.int (p2 + (5 : Int32))), (.ref a1)])) t → G t := fun t ks => pr56 t (by
      refine XS.aloadN X55.here hx rfl (hb hby d4_53) rfl rfl ?_
      refine XS.iloadN X55.here hx rfl (hb hby d4_54) rfl ?_
      refine XS.iconst X55.here hx rfl (hb hby d4_55) ?_
      refine XS.iadd X55.here hx rfl (hb hby d4_56) rfl ?_
      refine XS.lloadN X55.here hx rfl (hb hby d4_57) rfl ?_
      refine XS.bipush X55.here hx rfl (hb hby d4_58) ?_
      refine XS.lushr X55.here hx rfl (hb hby d4_60) rfl ?_
      refine XS.l2i X55.here hx rfl (hb hby d4_61) rfl ?_
      refine XS.i2b X55.here hx rfl (hb hby d4_62) rfl ?_
      exact ks)
  obtain ⟨y5, hy5⟩ : ∃ z : Int32, z = ((((p3.toUInt64 >>> ((16 : Int32) &&& 0x3f).toInt64.toUInt64).toInt64).toInt32).toInt8.toInt32) := ⟨_, rfl⟩
  rw [← hy5] at pr57
  obtain ⟨T58, h58, X58, e58, W58, V58, st58⟩ := ba_st X55 hx hZ e55 V_a1 (j := (p2 + (5 : Int32))) (i + 5) (own_adx hat 5) (by simp only [List.length_append, List.length_take, List.length_drop, List.length_cons, List.length_nil]; omega) (y := y5) (by rw [hy5]; exact own_narB _) (g := (mkF m 63 #[.val (.ref a1), .val (.int p2), .val (.long p3), .second] [(.int y5), (.int (p2 + (5 : Int32))), (.ref a1)])) rfl rfl (hb hby d4_63)
  replace V_a1 := V58
  replace V_a1 : BA Z h58 a1 (us.take i ++ [y0, y1, y2, y3, y4, y5] ++ us.drop (i + 6)) := V_a1.eq (own_laid [y0, y1, y2, y3, y4] us i y5 (by simp only [List.length_cons, List.length_nil]; omega))
  have N58 := Fr.snoc X58 N55 g_a1
  have Z58 : n0 ≤ h58.size := Nat.le_trans Z55 (Keep.of_wr W58).1
  have K58 := K55.wr W58 (Or.inl (List.mem_of_getElem? (i := 0) rfl))
  have pr59 : ∀ t, Steps p.tables e below (T58.setTop (mkF m 64 #[.val (.ref a1), .val (.int p2), .val (.long p3), .second] [])) t → G t := fun t ks => pr57 t (st58 t ks)
  have pr60 : ∀ t, Steps p.tables e below (T58.setTop (mkF m 75 #[.val (.ref a1), .val (.int p2), .val (.long p3), .second] [(.int ((((p3.toUInt64 >>> ((8 : Int32) &&& 0x3f).toInt64.toUInt64).toInt64).toInt32).toInt8.toInt32)), (.int (p2 + (6 : Int32))), (.ref a1)])) t → G t := fun t ks => pr59 t (by
      refine XS.aloadN X58.here hx rfl (hb hby d4_64) rfl rfl ?_
      refine XS.iloadN X58.here hx rfl (hb hby d4_65) rfl ?_
      refine XS.bipush X58.here hx rfl (hb hby d4_66) ?_
      refine XS.iadd X58.here hx rfl (hb hby d4_68) rfl ?_
      refine XS.lloadN X58.here hx rfl (hb hby d4_69) rfl ?_
      refine XS.bipush X58.here hx rfl (hb hby d4_70) ?_
      refine XS.lushr X58.here hx rfl (hb hby d4_72) rfl ?_
      refine XS.l2i X58.here hx rfl (hb hby d4_73) rfl ?_
      refine XS.i2b X58.here hx rfl (hb hby d4_74) rfl ?_
      exact ks)
  obtain ⟨y6, hy6⟩ : ∃ z : Int32, z = ((((p3.toUInt64 >>> ((8 : Int32) &&& 0x3f).toInt64.toUInt64).toInt64).toInt32).toInt8.toInt32) := ⟨_, rfl⟩
  rw [← hy6] at pr60
  obtain ⟨T61, h61, X61, e61, W61, V61, st61⟩ := ba_st X58 hx hZ e58 V_a1 (j := (p2 + (6 : Int32))) (i + 6) (own_adx hat 6) (by simp only [List.length_append, List.length_take, List.length_drop, List.length_cons, List.length_nil]; omega) (y := y6) (by rw [hy6]; exact own_narB _) (g := (mkF m 75 #[.val (.ref a1), .val (.int p2), .val (.long p3), .second] [(.int y6), (.int (p2 + (6 : Int32))), (.ref a1)])) rfl rfl (hb hby d4_75)
  replace V_a1 := V61
  replace V_a1 : BA Z h61 a1 (us.take i ++ [y0, y1, y2, y3, y4, y5, y6] ++ us.drop (i + 7)) := V_a1.eq (own_laid [y0, y1, y2, y3, y4, y5] us i y6 (by simp only [List.length_cons, List.length_nil]; omega))
  have N61 := Fr.snoc X61 N58 g_a1
  have Z61 : n0 ≤ h61.size := Nat.le_trans Z58 (Keep.of_wr W61).1
  have K61 := K58.wr W61 (Or.inl (List.mem_of_getElem? (i := 0) rfl))
  have pr62 : ∀ t, Steps p.tables e below (T61.setTop (mkF m 76 #[.val (.ref a1), .val (.int p2), .val (.long p3), .second] [])) t → G t := fun t ks => pr60 t (st61 t ks)
  have pr63 : ∀ t, Steps p.tables e below (T61.setTop (mkF m 84 #[.val (.ref a1), .val (.int p2), .val (.long p3), .second] [(.int ((p3.toInt32).toInt8.toInt32)), (.int (p2 + (7 : Int32))), (.ref a1)])) t → G t := fun t ks => pr62 t (by
      refine XS.aloadN X61.here hx rfl (hb hby d4_76) rfl rfl ?_
      refine XS.iloadN X61.here hx rfl (hb hby d4_77) rfl ?_
      refine XS.bipush X61.here hx rfl (hb hby d4_78) ?_
      refine XS.iadd X61.here hx rfl (hb hby d4_80) rfl ?_
      refine XS.lloadN X61.here hx rfl (hb hby d4_81) rfl ?_
      refine XS.l2i X61.here hx rfl (hb hby d4_82) rfl ?_
      refine XS.i2b X61.here hx rfl (hb hby d4_83) rfl ?_
      exact ks)
  obtain ⟨y7, hy7⟩ : ∃ z : Int32, z = ((p3.toInt32).toInt8.toInt32) := ⟨_, rfl⟩
  rw [← hy7] at pr63
  obtain ⟨T64, h64, X64, e64, W64, V64, st64⟩ := ba_st X61 hx hZ e61 V_a1 (j := (p2 + (7 : Int32))) (i + 7) (own_adx hat 7) (by simp only [List.length_append, List.length_take, List.length_drop, List.length_cons, List.length_nil]; omega) (y := y7) (by rw [hy7]; exact own_narB _) (g := (mkF m 84 #[.val (.ref a1), .val (.int p2), .val (.long p3), .second] [(.int y7), (.int (p2 + (7 : Int32))), (.ref a1)])) rfl rfl (hb hby d4_84)
  replace V_a1 := V64
  replace V_a1 : BA Z h64 a1 (us.take i ++ [y0, y1, y2, y3, y4, y5, y6, y7] ++ us.drop (i + 8)) := V_a1.eq (own_laid [y0, y1, y2, y3, y4, y5, y6] us i y7 (by simp only [List.length_cons, List.length_nil]; omega))
  have N64 := Fr.snoc X64 N61 g_a1
  have Z64 : n0 ≤ h64.size := Nat.le_trans Z61 (Keep.of_wr W64).1
  have K64 := K61.wr W64 (Or.inl (List.mem_of_getElem? (i := 0) rfl))
  have pr65 : ∀ t, Steps p.tables e below (T64.setTop (mkF m 85 #[.val (.ref a1), .val (.int p2), .val (.long p3), .second] [])) t → G t := fun t ks => pr63 t (st64 t ks)
  have hb8 : [y0, y1, y2, y3, y4, y5, y6, y7] = own_b8 p3 := by rw [own_b8, hy0, hy1, hy2, hy3, hy4, hy5, hy6, hy7]
  rw [hb8] at V_a1
  obtain ⟨fs, hr, hrun, hended, hW, hsame⟩ := X64.leave (v := none) (fun _ => rfl)
  refine ⟨_, _, hG _ (pr65 _ ?_), hrun, hended, _, _, rfl, ?_, ⟨_, rfl⟩, hW, hsame.mono (by decide) (by decide)⟩
  · exact X64.returnOut hx Bd.returns (hb hby d4_85) hr
  · show QE Z a1 us p3 i h0 n0 _ T64.heap _
    rw [e64]
    exact ⟨rfl, N64, K64, V_a1⟩
set_option maxRecDepth 65536 in
set_option maxHeartbeats 40000000 in
theorem wlZ {p : Program} {l : Launch} {e : Env} {R : Room} {s : State} {m : MethodId} {args : Array Value} {below : List Frame} {meth : Method} {c : Code} {T0 : State} {locs : List Loc} {cells slots : Nat} {Z : State} {a0 : Array Value} {h0 : Heap} {a1 : Addr} {vs : List Int32} {z i : Nat} {b : Int32} {s5 : Slot}
    (X0 : Stand p l e R s m args below meth c T0 locs cells slots) (hx : p.tables.exec = Jvm.exec) (hZ : Z.Warmed39 s.vm) (hw : ∀ d ∈ tables_1, d.before a0 Z = true) (hby : c.code = prog_156_method_3_code) (hml : c.maxLocals = 6) (hown : s.vm.findClass "com/example/gneiss/gneiss/tuple/EscapedBytes" = some m.cls) (e0 : T0.heap = h0) (V_a1 : BA Z h0 a1 vs) (h5 : One s5) (hi : i < vs.length) (hbd : vs.length < 1000) (hv : vs.getD i 0 = b) (hc : b = 0) :
    ∀ t, Steps p.tables e below (T0.setTop (mkF m 10 #[.val (.ref a1), .val (.int (Int32.ofNat (z + 1))), .val (.ref a1), .val (.int (Int32.ofNat vs.length)), .val (.int (Int32.ofNat (i + 1))), .val (.int b)] [])) t → Steps p.tables e below (T0.setTop (mkF m 10 #[.val (.ref a1), .val (.int (Int32.ofNat z)), .val (.ref a1), .val (.int (Int32.ofNat vs.length)), .val (.int (Int32.ofNat i)), s5] [])) t := by
  obtain ⟨G, hG, pr0⟩ : ∃ G : State → Prop, (∀ t, G t → Steps p.tables e below (T0.setTop (mkF m 10 #[.val (.ref a1), .val (.int (Int32.ofNat z)), .val (.ref a1), .val (.int (Int32.ofNat vs.length)), .val (.int (Int32.ofNat i)), s5] [])) t) ∧ (∀ t, Steps p.tables e below (T0.setTop (mkF m 10 #[.val (.ref a1), .val (.int (Int32.ofNat z)), .val (.ref a1), .val (.int (Int32.ofNat vs.length)), .val (.int (Int32.ofNat i)), s5] [])) t → G t) := ⟨_, fun _ k => k, fun _ k => k⟩
  have pr66 : ∀ t, Steps p.tables e below (T0.setTop (mkF m 10 #[.val (.ref a1), .val (.int ((Int32.ofNat z) + (1 : Int32))), .val (.ref a1), .val (.int (Int32.ofNat vs.length)), .val (.int ((Int32.ofNat i) + (1 : Int32))), .val (.int b)] [])) t → G t := fun t ks => pr0 t (by
      refine XS.iload X0.here hx rfl (hb hby d9_10) rfl ?_
      refine XS.iloadN X0.here hx rfl (hb hby d9_12) rfl ?_
      refine XS.icmpNo X0.here hx rfl (hb hby d9_13) rfl (tlt (own_ltN hi (by omega))).2.1 ?_
      refine XS.aloadN X0.here hx rfl (hb hby d9_16) rfl rfl ?_
      refine XS.iload X0.here hx rfl (hb hby d9_17) rfl ?_
      refine ba_ld X0 hx hZ e0 V_a1 (j := (Int32.ofNat i)) i rfl hi (w := b) hv (g := (mkF m 19 #[.val (.ref a1), .val (.int (Int32.ofNat z)), .val (.ref a1), .val (.int (Int32.ofNat vs.length)), .val (.int (Int32.ofNat i)), s5] [(.int (Int32.ofNat i)), (.ref a1)])) rfl rfl (hb hby d9_19) _ ?_
      refine XS.istore X0.here hx rfl (hb hby d9_20) rfl (l' := #[.val (.ref a1), .val (.int (Int32.ofNat z)), .val (.ref a1), .val (.int (Int32.ofNat vs.length)), .val (.int (Int32.ofNat i)), .val (.int b)]) (by rcases h5 with rfl | ⟨w, rfl, hw⟩ <;> first | rfl | (cases w <;> first | rfl | (simp [Value.category] at hw))) ?_
      refine XS.iload X0.here hx rfl (hb hby d9_22) rfl ?_
      refine XS.ifNo X0.here hx rfl (hb hby d9_24) rfl ((if0 _ _).trans (teq hc).2) ?_
      refine XS.iinc X0.here hx rfl (hb hby d9_27) rfl (l' := #[.val (.ref a1), .val (.int ((Int32.ofNat z) + (1 : Int32))), .val (.ref a1), .val (.int (Int32.ofNat vs.length)), .val (.int (Int32.ofNat i)), .val (.int b)]) rfl ?_
      refine XS.iinc X0.here hx rfl (hb hby d9_30) rfl (l' := #[.val (.ref a1), .val (.int ((Int32.ofNat z) + (1 : Int32))), .val (.ref a1), .val (.int (Int32.ofNat vs.length)), .val (.int ((Int32.ofNat i) + (1 : Int32))), .val (.int b)]) rfl ?_
      refine XS.goto X0.here hx rfl (pc0 := 33) (pc' := 10) rfl (hb hby d9_33) (by decide) (by decide) ?_
      exact ks)
  rw [own_one (i := i)] at pr66
  rw [own_one (i := z)] at pr66
  exact fun t ks => hG t (pr66 t ks)
set_option maxRecDepth 65536 in
set_option maxHeartbeats 40000000 in
theorem wlN {p : Program} {l : Launch} {e : Env} {R : Room} {s : State} {m : MethodId} {args : Array Value} {below : List Frame} {meth : Method} {c : Code} {T0 : State} {locs : List Loc} {cells slots : Nat} {Z : State} {a0 : Array Value} {h0 : Heap} {a1 : Addr} {vs : List Int32} {z i : Nat} {b : Int32} {s5 : Slot}
    (X0 : Stand p l e R s m args below meth c T0 locs cells slots) (hx : p.tables.exec = Jvm.exec) (hZ : Z.Warmed39 s.vm) (hw : ∀ d ∈ tables_1, d.before a0 Z = true) (hby : c.code = prog_156_method_3_code) (hml : c.maxLocals = 6) (hown : s.vm.findClass "com/example/gneiss/gneiss/tuple/EscapedBytes" = some m.cls) (e0 : T0.heap = h0) (V_a1 : BA Z h0 a1 vs) (h5 : One s5) (hi : i < vs.length) (hbd : vs.length < 1000) (hv : vs.getD i 0 = b) (hc : ¬ b = 0) :
    ∀ t, Steps p.tables e below (T0.setTop (mkF m 10 #[.val (.ref a1), .val (.int (Int32.ofNat z)), .val (.ref a1), .val (.int (Int32.ofNat vs.length)), .val (.int (Int32.ofNat (i + 1))), .val (.int b)] [])) t → Steps p.tables e below (T0.setTop (mkF m 10 #[.val (.ref a1), .val (.int (Int32.ofNat z)), .val (.ref a1), .val (.int (Int32.ofNat vs.length)), .val (.int (Int32.ofNat i)), s5] [])) t := by
  obtain ⟨G, hG, pr0⟩ : ∃ G : State → Prop, (∀ t, G t → Steps p.tables e below (T0.setTop (mkF m 10 #[.val (.ref a1), .val (.int (Int32.ofNat z)), .val (.ref a1), .val (.int (Int32.ofNat vs.length)), .val (.int (Int32.ofNat i)), s5] [])) t) ∧ (∀ t, Steps p.tables e below (T0.setTop (mkF m 10 #[.val (.ref a1), .val (.int (Int32.ofNat z)), .val (.ref a1), .val (.int (Int32.ofNat vs.length)), .val (.int (Int32.ofNat i)), s5] [])) t → G t) := ⟨_, fun _ k => k, fun _ k => k⟩
  have pr67 : ∀ t, Steps p.tables e below (T0.setTop (mkF m 10 #[.val (.ref a1), .val (.int (Int32.ofNat z)), .val (.ref a1), .val (.int (Int32.ofNat vs.length)), .val (.int ((Int32.ofNat i) + (1 : Int32))), .val (.int b)] [])) t → G t := fun t ks => pr0 t (by
      refine XS.iload X0.here hx rfl (hb hby d9_10) rfl ?_
      refine XS.iloadN X0.here hx rfl (hb hby d9_12) rfl ?_
      refine XS.icmpNo X0.here hx rfl (hb hby d9_13) rfl (tlt (own_ltN hi (by omega))).2.1 ?_
      refine XS.aloadN X0.here hx rfl (hb hby d9_16) rfl rfl ?_
      refine XS.iload X0.here hx rfl (hb hby d9_17) rfl ?_
      refine ba_ld X0 hx hZ e0 V_a1 (j := (Int32.ofNat i)) i rfl hi (w := b) hv (g := (mkF m 19 #[.val (.ref a1), .val (.int (Int32.ofNat z)), .val (.ref a1), .val (.int (Int32.ofNat vs.length)), .val (.int (Int32.ofNat i)), s5] [(.int (Int32.ofNat i)), (.ref a1)])) rfl rfl (hb hby d9_19) _ ?_
      refine XS.istore X0.here hx rfl (hb hby d9_20) rfl (l' := #[.val (.ref a1), .val (.int (Int32.ofNat z)), .val (.ref a1), .val (.int (Int32.ofNat vs.length)), .val (.int (Int32.ofNat i)), .val (.int b)]) (by rcases h5 with rfl | ⟨w, rfl, hw⟩ <;> first | rfl | (cases w <;> first | rfl | (simp [Value.category] at hw))) ?_
      refine XS.iload X0.here hx rfl (hb hby d9_22) rfl ?_
      refine XS.ifYes X0.here hx rfl (pc0 := 24) (pc' := 30) rfl (hb hby d9_24) rfl ((if0 _ _).trans (feq hc).2) (by decide) (by decide) ?_
      refine XS.iinc X0.here hx rfl (hb hby d9_30) rfl (l' := #[.val (.ref a1), .val (.int (Int32.ofNat z)), .val (.ref a1), .val (.int (Int32.ofNat vs.length)), .val (.int ((Int32.ofNat i) + (1 : Int32))), .val (.int b)]) rfl ?_
      refine XS.goto X0.here hx rfl (pc0 := 33) (pc' := 10) rfl (hb hby d9_33) (by decide) (by decide) ?_
      exact ks)
  rw [own_one (i := i)] at pr67
  exact fun t ks => hG t (pr67 t ks)
set_option maxRecDepth 65536 in
set_option maxHeartbeats 40000000 in
theorem wlE {p : Program} {l : Launch} {e : Env} {R : Room} {s : State} {m : MethodId} {args : Array Value} {below : List Frame} {meth : Method} {c : Code} {T0 : State} {locs : List Loc} {cells slots : Nat} {Z : State} {a0 : Array Value} {h0 : Heap} {a1 : Addr} {vs : List Int32} {z i : Nat} {s5 : Slot}
    (X0 : Stand p l e R s m args below meth c T0 locs cells slots) (hx : p.tables.exec = Jvm.exec) (hZ : Z.Warmed39 s.vm) (hw : ∀ d ∈ tables_1, d.before a0 Z = true) (hby : c.code = prog_156_method_3_code) (hml : c.maxLocals = 6) (hown : s.vm.findClass "com/example/gneiss/gneiss/tuple/EscapedBytes" = some m.cls) (e0 : T0.heap = h0) (hge : ¬ i < vs.length) (hbd : vs.length < 1000) (hbd' : i < 1000) :
    ∀ t, Steps p.tables e below (T0.setTop (mkF m 36 #[.val (.ref a1), .val (.int (Int32.ofNat z)), .val (.ref a1), .val (.int (Int32.ofNat vs.length)), .val (.int (Int32.ofNat i)), s5] [])) t → Steps p.tables e below (T0.setTop (mkF m 10 #[.val (.ref a1), .val (.int (Int32.ofNat z)), .val (.ref a1), .val (.int (Int32.ofNat vs.length)), .val (.int (Int32.ofNat i)), s5] [])) t := by
  obtain ⟨G, hG, pr0⟩ : ∃ G : State → Prop, (∀ t, G t → Steps p.tables e below (T0.setTop (mkF m 10 #[.val (.ref a1), .val (.int (Int32.ofNat z)), .val (.ref a1), .val (.int (Int32.ofNat vs.length)), .val (.int (Int32.ofNat i)), s5] [])) t) ∧ (∀ t, Steps p.tables e below (T0.setTop (mkF m 10 #[.val (.ref a1), .val (.int (Int32.ofNat z)), .val (.ref a1), .val (.int (Int32.ofNat vs.length)), .val (.int (Int32.ofNat i)), s5] [])) t → G t) := ⟨_, fun _ k => k, fun _ k => k⟩
  have pr68 : ∀ t, Steps p.tables e below (T0.setTop (mkF m 36 #[.val (.ref a1), .val (.int (Int32.ofNat z)), .val (.ref a1), .val (.int (Int32.ofNat vs.length)), .val (.int (Int32.ofNat i)), s5] [])) t → G t := fun t ks => pr0 t (by
      refine XS.iload X0.here hx rfl (hb hby d9_10) rfl ?_
      refine XS.iloadN X0.here hx rfl (hb hby d9_12) rfl ?_
      refine XS.icmpYes X0.here hx rfl (pc0 := 13) (pc' := 36) rfl (hb hby d9_13) rfl (flt (own_nltN hge (by omega) (by omega))).2.1 (by decide) (by decide) ?_
      exact ks)
  exact fun t ks => hG t (pr68 t ks)
theorem loopWL {p : Program} {l : Launch} {e : Env} {R : Room} {s : State} {m : MethodId} {args : Array Value} {below : List Frame} {meth : Method} {c : Code} {cells slots : Nat} {Z : State} {a0 : Array Value} {T0 : State} {locs : List Loc} {h0 : Heap} {a1 : Addr} {vs : List Int32}
    (X0 : Stand p l e R s m args below meth c T0 locs cells slots) (hx : p.tables.exec = Jvm.exec) (hZ : Z.Warmed39 s.vm) (hw : ∀ d ∈ tables_1, d.before a0 Z = true) (hby : c.code = prog_156_method_3_code) (hml : c.maxLocals = 6) (hown : s.vm.findClass "com/example/gneiss/gneiss/tuple/EscapedBytes" = some m.cls) (e0 : T0.heap = h0) (V_a1 : BA Z h0 a1 vs) (hbd : vs.length < 1000) :
    ∀ (rest done : List Int32) (s5 : Slot), One s5 → vs = done ++ rest → ∃ s5' : Slot, ∀ t, Steps p.tables e below (T0.setTop (mkF m 36 #[.val (.ref a1), .val (.int (Int32.ofNat (own_zc vs))), .val (.ref a1), .val (.int (Int32.ofNat vs.length)), .val (.int (Int32.ofNat vs.length)), s5'] [])) t → Steps p.tables e below (T0.setTop (mkF m 10 #[.val (.ref a1), .val (.int (Int32.ofNat (own_zc done))), .val (.ref a1), .val (.int (Int32.ofNat vs.length)), .val (.int (Int32.ofNat done.length)), s5] [])) t := by
  intro rest
  induction rest with
  | nil =>
    intro done s5 h5 hd
    rw [List.append_nil] at hd; subst hd
    exact ⟨s5, wlE X0 hx hZ hw hby hml hown e0 (by omega) hbd hbd⟩
  | cons b r ih =>
    intro done s5 h5 hd
    have hlen : done.length < vs.length := by rw [hd, List.length_append, List.length_cons]; omega
    have hat : vs.getD done.length 0 = b := by rw [hd]; exact own_at done b r
    obtain ⟨s5', st⟩ := ih (done ++ [b]) (.val (.int b)) (One.val rfl) (by rw [hd, List.append_assoc]; rfl)
    rw [List.length_append] at st
    by_cases hc : b = 0
    · subst hc
      rw [own_zc_z] at st
      exact ⟨s5', fun t q => wlZ X0 hx hZ hw hby hml hown e0 V_a1 h5 hlen hbd hat rfl t (st t q)⟩
    · rw [own_zc_n _ hc] at st
      exact ⟨s5', fun t q => wlN X0 hx hZ hw hby hml hown e0 V_a1 h5 hlen hbd hat hc t (st t q)⟩
theorem ef_rmW (m : MethodId) (x0 : Addr) : entryFrame m #[(.ref x0)] 6 = mkF m 0 #[.val (.ref x0), .unset, .unset, .unset, .unset, .unset] [] := by first | (simp [entryFrame, mkF, argsToLocals, Value.category]; done) | rfl
def QW (vs : List Int32) (h0 : Heap) (n0 : Nat) (v : Option Value) (h : Heap) (L : List Loc) : Prop := v = some (.int (Int32.ofNat ((own_esc vs).length + 2))) ∧ Fr n0 L ∧ h = h0
set_option maxRecDepth 65536 in
set_option maxHeartbeats 40000000 in
theorem rmW (l : Launch) (Z : State) (a0 : Array Value) (hw : ∀ d ∈ tables_1, d.before a0 Z = true) (ws : List Jvm.Cond) (a1 : Addr) (vs : List Int32) (h0 : Heap) (n0 : Nat) (Z0 : n0 ≤ h0.size) (V_a1 : BA Z h0 a1 vs) (hbd : vs.length < 1000) :
    MetFree l (⟨"com/example/gneiss/gneiss/tuple/EscapedBytes", "writtenLength", "([B)I"⟩ : MethodName) (head1 (Jvm.Cond.code (⟨"com/example/gneiss/gneiss/tuple/EscapedBytes", "writtenLength", "([B)I"⟩ : MethodName) prog_156_method_3_code 6 (some .int) :: ws) ({ frames := 0, cells := 0, slots := 0, locals := 0 } : Room)) (fun a U => a = #[(.ref a1)] ∧ Z.Warmed39 U.vm ∧ U.heap = h0) (fun _ _ _ _ _ => True) (fun _ U o U' => ∃ v L, o = .returned v ∧ QW vs h0 n0 v U'.heap L ∧ FrameEnd U o U' L ({ frames := 0, cells := 0, slots := 0, locals := 0 } : Room).cells ({ frames := 0, cells := 0, slots := 0, locals := 0 } : Room).slots) := by
  refine MetFree.of_bodySF (plainFor_of_name pn_1) hisR ?_
  intro p e s m args below meth c s₁ Bd hml0 hP hK
  obtain ⟨rfl, hZ, hh⟩ := hP
  have hx := Bd.exec
  have hby := Bd.bytes
  have hml : c.maxLocals = 6 := hml0
  have hown : s.vm.findClass "com/example/gneiss/gneiss/tuple/EscapedBytes" = some m.cls := findClass_of_methodNamed Bd.named
  have hnm := (name_of_methodNamed Bd.named Bd.method).1
  have X0 : Stand p l e ({ frames := 0, cells := 0, slots := 0, locals := 0 } : Room) s m #[(.ref a1)] below meth c s₁ [] 0 0 := Stand.of_body Bd
  have e0 : s₁.heap = h0 := by rw [← hh, Bd.state]; rfl
  have N0 := Fr.nil n0
  obtain ⟨G, hG, pr0⟩ : ∃ G : State → Prop, (∀ t, G t → Steps p.tables e below (s₁.setTop (entryFrame m #[(.ref a1)] 6)) t) ∧ (∀ t, Steps p.tables e below (s₁.setTop (mkF m 0 #[.val (.ref a1), .unset, .unset, .unset, .unset, .unset] [])) t → G t) := ⟨_, fun _ k => k, fun t ks => castTop (ef_rmW m a1) ks⟩
  have pr69 : ∀ t, Steps p.tables e below (s₁.setTop (mkF m 10 #[.val (.ref a1), .val (.int (0 : Int32)), .val (.ref a1), .val (.int (Int32.ofNat vs.length)), .val (.int (0 : Int32)), .unset] [])) t → G t := fun t ks => pr0 t (by
      refine XS.iconst X0.here hx rfl (hb hby d9_0) ?_
      refine XS.istoreN X0.here hx rfl (hb hby d9_1) rfl (l' := #[.val (.ref a1), .val (.int (0 : Int32)), .unset, .unset, .unset, .unset]) rfl ?_
      refine XS.aloadN X0.here hx rfl (hb hby d9_2) rfl rfl ?_
      refine XS.astoreN X0.here hx rfl (hb hby d9_3) rfl rfl (l' := #[.val (.ref a1), .val (.int (0 : Int32)), .val (.ref a1), .unset, .unset, .unset]) rfl ?_
      refine XS.aloadN X0.here hx rfl (hb hby d9_4) rfl rfl ?_
      refine ba_len X0 hx hZ e0 V_a1 (g := (mkF m 5 #[.val (.ref a1), .val (.int (0 : Int32)), .val (.ref a1), .unset, .unset, .unset] [(.ref a1)])) rfl rfl (hb hby d9_5) _ ?_
      refine XS.istoreN X0.here hx rfl (hb hby d9_6) rfl (l' := #[.val (.ref a1), .val (.int (0 : Int32)), .val (.ref a1), .val (.int (Int32.ofNat vs.length)), .unset, .unset]) rfl ?_
      refine XS.iconst X0.here hx rfl (hb hby d9_7) ?_
      refine XS.istore X0.here hx rfl (hb hby d9_8) rfl (l' := #[.val (.ref a1), .val (.int (0 : Int32)), .val (.ref a1), .val (.int (Int32.ofNat vs.length)), .val (.int (0 : Int32)), .unset]) rfl ?_
      exact ks)
  obtain ⟨s5', st⟩ := loopWL X0 hx hZ hw hby hml hown e0 V_a1 hbd vs [] .unset One.u rfl
  have prL : ∀ t, Steps p.tables e below (s₁.setTop (mkF m 36 #[.val (.ref a1), .val (.int (Int32.ofNat (own_zc vs))), .val (.ref a1), .val (.int (Int32.ofNat vs.length)), .val (.int (Int32.ofNat vs.length)), s5'] [])) t → G t := fun t ks => pr69 t (st t ks)
  have pr70 : ∀ t, Steps p.tables e below (s₁.setTop (mkF m 42 #[.val (.ref a1), .val (.int (Int32.ofNat (own_zc vs))), .val (.ref a1), .val (.int (Int32.ofNat vs.length)), .val (.int (Int32.ofNat vs.length)), s5'] [(.int (((Int32.ofNat vs.length) + (Int32.ofNat (own_zc vs))) + (2 : Int32)))])) t → G t := fun t ks => prL t (by
      refine XS.aloadN X0.here hx rfl (hb hby d9_36) rfl rfl ?_
      refine ba_len X0 hx hZ e0 V_a1 (g := (mkF m 37 #[.val (.ref a1), .val (.int (Int32.ofNat (own_zc vs))), .val (.ref a1), .val (.int (Int32.ofNat vs.length)), .val (.int (Int32.ofNat vs.length)), s5'] [(.ref a1)])) rfl rfl (hb hby d9_37) _ ?_
      refine XS.iloadN X0.here hx rfl (hb hby d9_38) rfl ?_
      refine XS.iadd X0.here hx rfl (hb hby d9_39) rfl ?_
      refine XS.iconst X0.here hx rfl (hb hby d9_40) ?_
      refine XS.iadd X0.here hx rfl (hb hby d9_41) rfl ?_
      exact ks)
  rw [own_wlen vs] at pr70
  obtain ⟨fs, hr, hrun, hended, hW, hsame⟩ := X0.leave (v := some (.int (Int32.ofNat ((own_esc vs).length + 2)))) (fun h => by rw [Bd.returns] at h; cases h)
  refine ⟨_, _, hG _ (pr70 _ ?_), hrun, hended, _, _, rfl, ?_, ⟨_, rfl⟩, hW, hsame.mono (by decide) (by decide)⟩
  · exact retI X0 hx Bd.returns (hb hby d9_42) hr
  · show QW vs h0 n0 _ s₁.heap _
    rw [e0]
    exact ⟨rfl, N0, rfl⟩
set_option maxRecDepth 65536 in
set_option maxHeartbeats 40000000 in
theorem wrZ {p : Program} {l : Launch} {e : Env} {R : Room} {s : State} {m : MethodId} {args : Array Value} {below : List Frame} {meth : Method} {c : Code} {T0 : State} {locs : List Loc} {cells slots : Nat} {Z : State} {a0 : Array Value} {h0 : Heap} {a1 a2 : Addr} {vs us A : List Int32} {i n0 : Nat} {b p3 : Int32} {s7 : Slot} {hb0 : Heap}
    (X0 : Stand p l e R s m args below meth c T0 locs cells slots) (hx : p.tables.exec = Jvm.exec) (hZ : Z.Warmed39 s.vm) (hw : ∀ d ∈ tables_1, d.before a0 Z = true) (hby : c.code = prog_156_method_2_code) (hml : c.maxLocals = 8) (hown : s.vm.findClass "com/example/gneiss/gneiss/tuple/EscapedBytes" = some m.cls) (e0 : T0.heap = h0) (N0 : Fr n0 locs) (Z0 : n0 ≤ h0.size) (KB : Keep hb0 h0 [a2]) (V_a1 : BA Z h0 a1 vs) (V_a2 : BA Z h0 a2 (A ++ us.drop A.length)) (ne12 : a1 ≠ a2) (g_a2 : n0 ≤ a2) (h7 : One s7) (hi : i < vs.length) (hbd : vs.length < 1000) (hA : A.length + 2 ≤ us.length) (hA2 : A.length < 3000) (hv : vs.getD i 0 = b) (hc : b = 0) :
    ∃ (T' : State) (locs' : List Loc) (h' : Heap), Stand p l e R s m args below meth c T' locs' cells slots ∧ T'.heap = h' ∧ Fr n0 locs' ∧ n0 ≤ h'.size ∧ Keep hb0 h' [a2] ∧ BA Z h' a1 vs ∧ BA Z h' a2 (((A ++ [b]) ++ [1]) ++ us.drop ((A ++ [b]) ++ [1]).length) ∧ ∀ t, Steps p.tables e below (T'.setTop (mkF m 13 #[.val (.ref a1), .val (.ref a2), .val (.int p3), .val (.int (Int32.ofNat (A.length + 2))), .val (.ref a1), .val (.int (Int32.ofNat vs.length)), .val (.int (Int32.ofNat (i + 1))), .val (.int b)] [])) t → Steps p.tables e below (T0.setTop (mkF m 13 #[.val (.ref a1), .val (.ref a2), .val (.int p3), .val (.int (Int32.ofNat A.length)), .val (.ref a1), .val (.int (Int32.ofNat vs.length)), .val (.int (Int32.ofNat i)), s7] [])) t := by
  obtain ⟨G, hG, pr0⟩ : ∃ G : State → Prop, (∀ t, G t → Steps p.tables e below (T0.setTop (mkF m 13 #[.val (.ref a1), .val (.ref a2), .val (.int p3), .val (.int (Int32.ofNat A.length)), .val (.ref a1), .val (.int (Int32.ofNat vs.length)), .val (.int (Int32.ofNat i)), s7] [])) t) ∧ (∀ t, Steps p.tables e below (T0.setTop (mkF m 13 #[.val (.ref a1), .val (.ref a2), .val (.int p3), .val (.int (Int32.ofNat A.length)), .val (.ref a1), .val (.int (Int32.ofNat vs.length)), .val (.int (Int32.ofNat i)), s7] [])) t → G t) := ⟨_, fun _ k => k, fun _ k => k⟩
  have pr71 : ∀ t, Steps p.tables e below (T0.setTop (mkF m 34 #[.val (.ref a1), .val (.ref a2), .val (.int p3), .val (.int ((Int32.ofNat A.length) + (1 : Int32))), .val (.ref a1), .val (.int (Int32.ofNat vs.length)), .val (.int (Int32.ofNat i)), .val (.int b)] [(.int b), (.int (Int32.ofNat A.length)), (.ref a2)])) t → G t := fun t ks => pr0 t (by
      refine XS.iload X0.here hx rfl (hb hby d10_13) rfl ?_
      refine XS.iload X0.here hx rfl (hb hby d10_15) rfl ?_
      refine XS.icmpNo X0.here hx rfl (hb hby d10_17) rfl (tlt (own_ltN hi (by omega))).2.1 ?_
      refine XS.aload X0.here hx rfl (hb hby d10_20) rfl rfl ?_
      refine XS.iload X0.here hx rfl (hb hby d10_22) rfl ?_
      refine ba_ld X0 hx hZ e0 V_a1 (j := (Int32.ofNat i)) i rfl hi (w := b) hv (g := (mkF m 24 #[.val (.ref a1), .val (.ref a2), .val (.int p3), .val (.int (Int32.ofNat A.length)), .val (.ref a1), .val (.int (Int32.ofNat vs.length)), .val (.int (Int32.ofNat i)), s7] [(.int (Int32.ofNat i)), (.ref a1)])) rfl rfl (hb hby d10_24) _ ?_
      refine XS.istore X0.here hx rfl (hb hby d10_25) rfl (l' := #[.val (.ref a1), .val (.ref a2), .val (.int p3), .val (.int (Int32.ofNat A.length)), .val (.ref a1), .val (.int (Int32.ofNat vs.length)), .val (.int (Int32.ofNat i)), .val (.int b)]) (by rcases h7 with rfl | ⟨w, rfl, hw⟩ <;> first | rfl | (cases w <;> first | rfl | (simp [Value.category] at hw))) ?_
      refine XS.aloadN X0.here hx rfl (hb hby d10_27) rfl rfl ?_
      refine XS.iloadN X0.here hx rfl (hb hby d10_28) rfl ?_
      refine XS.iinc X0.here hx rfl (hb hby d10_29) rfl (l' := #[.val (.ref a1), .val (.ref a2), .val (.int p3), .val (.int ((Int32.ofNat A.length) + (1 : Int32))), .val (.ref a1), .val (.int (Int32.ofNat vs.length)), .val (.int (Int32.ofNat i)), .val (.int b)]) rfl ?_
      refine XS.iload X0.here hx rfl (hb hby d10_32) rfl ?_
      exact ks)
  rw [own_one (i := A.length)] at pr71
  obtain ⟨T72, h72, X72, e72, W72, V72, st72⟩ := ba_st X0 hx hZ e0 V_a2 (j := (Int32.ofNat A.length)) A.length rfl (by rw [own_snoc_len _ _ (by omega)]; omega) (y := b) (own_nb V_a1 i hi hv) (g := (mkF m 34 #[.val (.ref a1), .val (.ref a2), .val (.int p3), .val (.int (Int32.ofNat (A.length + 1))), .val (.ref a1), .val (.int (Int32.ofNat vs.length)), .val (.int (Int32.ofNat i)), .val (.int b)] [(.int b), (.int (Int32.ofNat A.length)), (.ref a2)])) rfl rfl (hb hby d10_34)
  replace V_a2 := V72
  replace V_a2 : BA Z h72 a2 ((A ++ [b]) ++ us.drop (A ++ [b]).length) := V_a2.eq (by rw [own_snoc _ _ _ (by omega), List.length_append]; rfl)
  replace V_a1 := V_a1.other W72 ne12
  have N72 := Fr.snoc X72 N0 g_a2
  have Z72 : n0 ≤ h72.size := Nat.le_trans Z0 (Keep.of_wr W72).1
  have K72 := KB.wr W72 (Or.inl (List.mem_of_getElem? (i := 0) rfl))
  have pr73 : ∀ t, Steps p.tables e below (T72.setTop (mkF m 35 #[.val (.ref a1), .val (.ref a2), .val (.int p3), .val (.int (Int32.ofNat (A.length + 1))), .val (.ref a1), .val (.int (Int32.ofNat vs.length)), .val (.int (Int32.ofNat i)), .val (.int b)] [])) t → G t := fun t ks => pr71 t (st72 t ks)
  have pr74 : ∀ t, Steps p.tables e below (T72.setTop (mkF m 46 #[.val (.ref a1), .val (.ref a2), .val (.int p3), .val (.int ((Int32.ofNat (A.length + 1)) + (1 : Int32))), .val (.ref a1), .val (.int (Int32.ofNat vs.length)), .val (.int (Int32.ofNat i)), .val (.int b)] [(.int (1 : Int32)), (.int (Int32.ofNat (A.length + 1))), (.ref a2)])) t → G t := fun t ks => pr73 t (by
      refine XS.iload X72.here hx rfl (hb hby d10_35) rfl ?_
      refine XS.ifNo X72.here hx rfl (hb hby d10_37) rfl ((if0 _ _).trans (teq hc).2) ?_
      refine XS.aloadN X72.here hx rfl (hb hby d10_40) rfl rfl ?_
      refine XS.iloadN X72.here hx rfl (hb hby d10_41) rfl ?_
      refine XS.iinc X72.here hx rfl (hb hby d10_42) rfl (l' := #[.val (.ref a1), .val (.ref a2), .val (.int p3), .val (.int ((Int32.ofNat (A.length + 1)) + (1 : Int32))), .val (.ref a1), .val (.int (Int32.ofNat vs.length)), .val (.int (Int32.ofNat i)), .val (.int b)]) rfl ?_
      refine XS.iconst X72.here hx rfl (hb hby d10_45) ?_
      exact ks)
  rw [own_one (i := A.length + 1)] at pr74
  obtain ⟨T75, h75, X75, e75, W75, V75, st75⟩ := ba_st X72 hx hZ e72 V_a2 (j := (Int32.ofNat (A.length + 1))) (A ++ [b]).length (by rw [List.length_append]; rfl) (by rw [own_snoc_len _ _ (by rw [List.length_append]; simp only [List.length_cons, List.length_nil]; omega)]; rw [List.length_append]; simp only [List.length_cons, List.length_nil]; omega) (y := 1) rfl (g := (mkF m 46 #[.val (.ref a1), .val (.ref a2), .val (.int p3), .val (.int (Int32.ofNat (A.length + 2))), .val (.ref a1), .val (.int (Int32.ofNat vs.length)), .val (.int (Int32.ofNat i)), .val (.int b)] [(.int (1 : Int32)), (.int (Int32.ofNat (A.length + 1))), (.ref a2)])) rfl rfl (hb hby d10_46)
  replace V_a2 := V75
  replace V_a2 : BA Z h75 a2 ((A ++ [b]) ++ [1] ++ us.drop ((A ++ [b]) ++ [1]).length) := V_a2.eq (by rw [own_snoc _ _ _ (by rw [List.length_append]; simp only [List.length_cons, List.length_nil]; omega), List.length_append (as := A ++ [b])]; rfl)
  replace V_a1 := V_a1.other W75 ne12
  have N75 := Fr.snoc X75 N72 g_a2
  have Z75 : n0 ≤ h75.size := Nat.le_trans Z72 (Keep.of_wr W75).1
  have K75 := K72.wr W75 (Or.inl (List.mem_of_getElem? (i := 0) rfl))
  have pr76 : ∀ t, Steps p.tables e below (T75.setTop (mkF m 47 #[.val (.ref a1), .val (.ref a2), .val (.int p3), .val (.int (Int32.ofNat (A.length + 2))), .val (.ref a1), .val (.int (Int32.ofNat vs.length)), .val (.int (Int32.ofNat i)), .val (.int b)] [])) t → G t := fun t ks => pr74 t (st75 t ks)
  have pr77 : ∀ t, Steps p.tables e below (T75.setTop (mkF m 13 #[.val (.ref a1), .val (.ref a2), .val (.int p3), .val (.int (Int32.ofNat (A.length + 2))), .val (.ref a1), .val (.int (Int32.ofNat vs.length)), .val (.int ((Int32.ofNat i) + (1 : Int32))), .val (.int b)] [])) t → G t := fun t ks => pr76 t (by
      refine XS.iinc X75.here hx rfl (hb hby d10_47) rfl (l' := #[.val (.ref a1), .val (.ref a2), .val (.int p3), .val (.int (Int32.ofNat (A.length + 2))), .val (.ref a1), .val (.int (Int32.ofNat vs.length)), .val (.int ((Int32.ofNat i) + (1 : Int32))), .val (.int b)]) rfl ?_
      refine XS.goto X75.here hx rfl (pc0 := 50) (pc' := 13) rfl (hb hby d10_50) (by decide) (by decide) ?_
      exact ks)
  rw [own_one (i := i)] at pr77
  exact ⟨T75, _, _, X75, e75, N75, Z75, K75, V_a1, V_a2, fun t ks => hG t (pr77 t ks)⟩
set_option maxRecDepth 65536 in
set_option maxHeartbeats 40000000 in
theorem wrN {p : Program} {l : Launch} {e : Env} {R : Room} {s : State} {m : MethodId} {args : Array Value} {below : List Frame} {meth : Method} {c : Code} {T0 : State} {locs : List Loc} {cells slots : Nat} {Z : State} {a0 : Array Value} {h0 : Heap} {a1 a2 : Addr} {vs us A : List Int32} {i n0 : Nat} {b p3 : Int32} {s7 : Slot} {hb0 : Heap}
    (X0 : Stand p l e R s m args below meth c T0 locs cells slots) (hx : p.tables.exec = Jvm.exec) (hZ : Z.Warmed39 s.vm) (hw : ∀ d ∈ tables_1, d.before a0 Z = true) (hby : c.code = prog_156_method_2_code) (hml : c.maxLocals = 8) (hown : s.vm.findClass "com/example/gneiss/gneiss/tuple/EscapedBytes" = some m.cls) (e0 : T0.heap = h0) (N0 : Fr n0 locs) (Z0 : n0 ≤ h0.size) (KB : Keep hb0 h0 [a2]) (V_a1 : BA Z h0 a1 vs) (V_a2 : BA Z h0 a2 (A ++ us.drop A.length)) (ne12 : a1 ≠ a2) (g_a2 : n0 ≤ a2) (h7 : One s7) (hi : i < vs.length) (hbd : vs.length < 1000) (hA : A.length + 2 ≤ us.length) (hA2 : A.length < 3000) (hv : vs.getD i 0 = b) (hc : ¬ b = 0) :
    ∃ (T' : State) (locs' : List Loc) (h' : Heap), Stand p l e R s m args below meth c T' locs' cells slots ∧ T'.heap = h' ∧ Fr n0 locs' ∧ n0 ≤ h'.size ∧ Keep hb0 h' [a2] ∧ BA Z h' a1 vs ∧ BA Z h' a2 ((A ++ [b]) ++ us.drop (A ++ [b]).length) ∧ ∀ t, Steps p.tables e below (T'.setTop (mkF m 13 #[.val (.ref a1), .val (.ref a2), .val (.int p3), .val (.int (Int32.ofNat (A.length + 1))), .val (.ref a1), .val (.int (Int32.ofNat vs.length)), .val (.int (Int32.ofNat (i + 1))), .val (.int b)] [])) t → Steps p.tables e below (T0.setTop (mkF m 13 #[.val (.ref a1), .val (.ref a2), .val (.int p3), .val (.int (Int32.ofNat A.length)), .val (.ref a1), .val (.int (Int32.ofNat vs.length)), .val (.int (Int32.ofNat i)), s7] [])) t := by
  obtain ⟨G, hG, pr0⟩ : ∃ G : State → Prop, (∀ t, G t → Steps p.tables e below (T0.setTop (mkF m 13 #[.val (.ref a1), .val (.ref a2), .val (.int p3), .val (.int (Int32.ofNat A.length)), .val (.ref a1), .val (.int (Int32.ofNat vs.length)), .val (.int (Int32.ofNat i)), s7] [])) t) ∧ (∀ t, Steps p.tables e below (T0.setTop (mkF m 13 #[.val (.ref a1), .val (.ref a2), .val (.int p3), .val (.int (Int32.ofNat A.length)), .val (.ref a1), .val (.int (Int32.ofNat vs.length)), .val (.int (Int32.ofNat i)), s7] [])) t → G t) := ⟨_, fun _ k => k, fun _ k => k⟩
  have pr78 : ∀ t, Steps p.tables e below (T0.setTop (mkF m 34 #[.val (.ref a1), .val (.ref a2), .val (.int p3), .val (.int ((Int32.ofNat A.length) + (1 : Int32))), .val (.ref a1), .val (.int (Int32.ofNat vs.length)), .val (.int (Int32.ofNat i)), .val (.int b)] [(.int b), (.int (Int32.ofNat A.length)), (.ref a2)])) t → G t := fun t ks => pr0 t (by
      refine XS.iload X0.here hx rfl (hb hby d10_13) rfl ?_
      refine XS.iload X0.here hx rfl (hb hby d10_15) rfl ?_
      refine XS.icmpNo X0.here hx rfl (hb hby d10_17) rfl (tlt (own_ltN hi (by omega))).2.1 ?_
      refine XS.aload X0.here hx rfl (hb hby d10_20) rfl rfl ?_
      refine XS.iload X0.here hx rfl (hb hby d10_22) rfl ?_
      refine ba_ld X0 hx hZ e0 V_a1 (j := (Int32.ofNat i)) i rfl hi (w := b) hv (g := (mkF m 24 #[.val (.ref a1), .val (.ref a2), .val (.int p3), .val (.int (Int32.ofNat A.length)), .val (.ref a1), .val (.int (Int32.ofNat vs.length)), .val (.int (Int32.ofNat i)), s7] [(.int (Int32.ofNat i)), (.ref a1)])) rfl rfl (hb hby d10_24) _ ?_
      refine XS.istore X0.here hx rfl (hb hby d10_25) rfl (l' := #[.val (.ref a1), .val (.ref a2), .val (.int p3), .val (.int (Int32.ofNat A.length)), .val (.ref a1), .val (.int (Int32.ofNat vs.length)), .val (.int (Int32.ofNat i)), .val (.int b)]) (by rcases h7 with rfl | ⟨w, rfl, hw⟩ <;> first | rfl | (cases w <;> first | rfl | (simp [Value.category] at hw))) ?_
      refine XS.aloadN X0.here hx rfl (hb hby d10_27) rfl rfl ?_
      refine XS.iloadN X0.here hx rfl (hb hby d10_28) rfl ?_
      refine XS.iinc X0.here hx rfl (hb hby d10_29) rfl (l' := #[.val (.ref a1), .val (.ref a2), .val (.int p3), .val (.int ((Int32.ofNat A.length) + (1 : Int32))), .val (.ref a1), .val (.int (Int32.ofNat vs.length)), .val (.int (Int32.ofNat i)), .val (.int b)]) rfl ?_
      refine XS.iload X0.here hx rfl (hb hby d10_32) rfl ?_
      exact ks)
  rw [own_one (i := A.length)] at pr78
  obtain ⟨T79, h79, X79, e79, W79, V79, st79⟩ := ba_st X0 hx hZ e0 V_a2 (j := (Int32.ofNat A.length)) A.length rfl (by rw [own_snoc_len _ _ (by omega)]; omega) (y := b) (own_nb V_a1 i hi hv) (g := (mkF m 34 #[.val (.ref a1), .val (.ref a2), .val (.int p3), .val (.int (Int32.ofNat (A.length + 1))), .val (.ref a1), .val (.int (Int32.ofNat vs.length)), .val (.int (Int32.ofNat i)), .val (.int b)] [(.int b), (.int (Int32.ofNat A.length)), (.ref a2)])) rfl rfl (hb hby d10_34)
  replace V_a2 := V79
  replace V_a2 : BA Z h79 a2 ((A ++ [b]) ++ us.drop (A ++ [b]).length) := V_a2.eq (by rw [own_snoc _ _ _ (by omega), List.length_append]; rfl)
  replace V_a1 := V_a1.other W79 ne12
  have N79 := Fr.snoc X79 N0 g_a2
  have Z79 : n0 ≤ h79.size := Nat.le_trans Z0 (Keep.of_wr W79).1
  have K79 := KB.wr W79 (Or.inl (List.mem_of_getElem? (i := 0) rfl))
  have pr80 : ∀ t, Steps p.tables e below (T79.setTop (mkF m 35 #[.val (.ref a1), .val (.ref a2), .val (.int p3), .val (.int (Int32.ofNat (A.length + 1))), .val (.ref a1), .val (.int (Int32.ofNat vs.length)), .val (.int (Int32.ofNat i)), .val (.int b)] [])) t → G t := fun t ks => pr78 t (st79 t ks)
  have pr81 : ∀ t, Steps p.tables e below (T79.setTop (mkF m 13 #[.val (.ref a1), .val (.ref a2), .val (.int p3), .val (.int (Int32.ofNat (A.length + 1))), .val (.ref a1), .val (.int (Int32.ofNat vs.length)), .val (.int ((Int32.ofNat i) + (1 : Int32))), .val (.int b)] [])) t → G t := fun t ks => pr80 t (by
      refine XS.iload X79.here hx rfl (hb hby d10_35) rfl ?_
      refine XS.ifYes X79.here hx rfl (pc0 := 37) (pc' := 47) rfl (hb hby d10_37) rfl ((if0 _ _).trans (feq hc).2) (by decide) (by decide) ?_
      refine XS.iinc X79.here hx rfl (hb hby d10_47) rfl (l' := #[.val (.ref a1), .val (.ref a2), .val (.int p3), .val (.int (Int32.ofNat (A.length + 1))), .val (.ref a1), .val (.int (Int32.ofNat vs.length)), .val (.int ((Int32.ofNat i) + (1 : Int32))), .val (.int b)]) rfl ?_
      refine XS.goto X79.here hx rfl (pc0 := 50) (pc' := 13) rfl (hb hby d10_50) (by decide) (by decide) ?_
      exact ks)
  rw [own_one (i := i)] at pr81
  exact ⟨T79, _, _, X79, e79, N79, Z79, K79, V_a1, V_a2, fun t ks => hG t (pr81 t ks)⟩
set_option maxRecDepth 65536 in
set_option maxHeartbeats 40000000 in
theorem wrE {p : Program} {l : Launch} {e : Env} {R : Room} {s : State} {m : MethodId} {args : Array Value} {below : List Frame} {meth : Method} {c : Code} {T0 : State} {locs : List Loc} {cells slots : Nat} {Z : State} {a0 : Array Value} {h0 : Heap} {a1 a2 : Addr} {vs A : List Int32} {i : Nat} {p3 : Int32} {s7 : Slot}
    (X0 : Stand p l e R s m args below meth c T0 locs cells slots) (hx : p.tables.exec = Jvm.exec) (hZ : Z.Warmed39 s.vm) (hw : ∀ d ∈ tables_1, d.before a0 Z = true) (hby : c.code = prog_156_method_2_code) (hml : c.maxLocals = 8) (hown : s.vm.findClass "com/example/gneiss/gneiss/tuple/EscapedBytes" = some m.cls) (e0 : T0.heap = h0) (hge : ¬ i < vs.length) (hbd : vs.length < 1000) (hbd' : i < 1000) :
    ∀ t, Steps p.tables e below (T0.setTop (mkF m 53 #[.val (.ref a1), .val (.ref a2), .val (.int p3), .val (.int (Int32.ofNat A.length)), .val (.ref a1), .val (.int (Int32.ofNat vs.length)), .val (.int (Int32.ofNat i)), s7] [])) t → Steps p.tables e below (T0.setTop (mkF m 13 #[.val (.ref a1), .val (.ref a2), .val (.int p3), .val (.int (Int32.ofNat A.length)), .val (.ref a1), .val (.int (Int32.ofNat vs.length)), .val (.int (Int32.ofNat i)), s7] [])) t := by
  obtain ⟨G, hG, pr0⟩ : ∃ G : State → Prop, (∀ t, G t → Steps p.tables e below (T0.setTop (mkF m 13 #[.val (.ref a1), .val (.ref a2), .val (.int p3), .val (.int (Int32.ofNat A.length)), .val (.ref a1), .val (.int (Int32.ofNat vs.length)), .val (.int (Int32.ofNat i)), s7] [])) t) ∧ (∀ t, Steps p.tables e below (T0.setTop (mkF m 13 #[.val (.ref a1), .val (.ref a2), .val (.int p3), .val (.int (Int32.ofNat A.length)), .val (.ref a1), .val (.int (Int32.ofNat vs.length)), .val (.int (Int32.ofNat i)), s7] [])) t → G t) := ⟨_, fun _ k => k, fun _ k => k⟩
  have pr82 : ∀ t, Steps p.tables e below (T0.setTop (mkF m 53 #[.val (.ref a1), .val (.ref a2), .val (.int p3), .val (.int (Int32.ofNat A.length)), .val (.ref a1), .val (.int (Int32.ofNat vs.length)), .val (.int (Int32.ofNat i)), s7] [])) t → G t := fun t ks => pr0 t (by
      refine XS.iload X0.here hx rfl (hb hby d10_13) rfl ?_
      refine XS.iload X0.here hx rfl (hb hby d10_15) rfl ?_
      refine XS.icmpYes X0.here hx rfl (pc0 := 17) (pc' := 53) rfl (hb hby d10_17) rfl (flt (own_nltN hge (by omega) (by omega))).2.1 (by decide) (by decide) ?_
      exact ks)
  exact fun t ks => hG t (pr82 t ks)
theorem loopWR {p : Program} {l : Launch} {e : Env} {R : Room} {s : State} {m : MethodId} {args : Array Value} {below : List Frame} {meth : Method} {c : Code} {cells slots : Nat} {Z : State} {a0 : Array Value} {h0 : Heap} {a1 a2 : Addr} {vs us : List Int32} {n0 : Nat} {p3 : Int32}
    (hx : p.tables.exec = Jvm.exec) (hZ : Z.Warmed39 s.vm) (hw : ∀ d ∈ tables_1, d.before a0 Z = true) (hby : c.code = prog_156_method_2_code) (hml : c.maxLocals = 8) (hown : s.vm.findClass "com/example/gneiss/gneiss/tuple/EscapedBytes" = some m.cls) (hbd : vs.length < 1000) (hle : (own_esc vs).length + 2 ≤ us.length) (ne12 : a1 ≠ a2) (g_a2 : n0 ≤ a2) :
    ∀ (rest done : List Int32) (T0 : State) (locs : List Loc) (hh : Heap) (s7 : Slot), One s7 → vs = done ++ rest → Stand p l e R s m args below meth c T0 locs cells slots → T0.heap = hh → Fr n0 locs → n0 ≤ hh.size → Keep h0 hh [a2] → BA Z hh a1 vs → BA Z hh a2 (own_esc done ++ us.drop (own_esc done).length) →
      ∃ (T' : State) (locs' : List Loc) (h' : Heap) (s7' : Slot), Stand p l e R s m args below meth c T' locs' cells slots ∧ T'.heap = h' ∧ Fr n0 locs' ∧ n0 ≤ h'.size ∧ Keep h0 h' [a2] ∧ BA Z h' a1 vs ∧ BA Z h' a2 (own_esc vs ++ us.drop (own_esc vs).length) ∧ ∀ t, Steps p.tables e below (T'.setTop (mkF m 53 #[.val (.ref a1), .val (.ref a2), .val (.int p3), .val (.int (Int32.ofNat (own_esc vs).length)), .val (.ref a1), .val (.int (Int32.ofNat vs.length)), .val (.int (Int32.ofNat vs.length)), s7'] [])) t → Steps p.tables e below (T0.setTop (mkF m 13 #[.val (.ref a1), .val (.ref a2), .val (.int p3), .val (.int (Int32.ofNat (own_esc done).length)), .val (.ref a1), .val (.int (Int32.ofNat vs.length)), .val (.int (Int32.ofNat done.length)), s7] [])) t := by
  intro rest
  induction rest with
  | nil =>
    intro done T0 locs hh s7 h7 hd X0 e0 N0 Z0 KB V1 V2
    rw [List.append_nil] at hd; subst hd
    exact ⟨T0, locs, hh, s7, X0, e0, N0, Z0, KB, V1, V2, wrE X0 hx hZ hw hby hml hown e0 (by omega) hbd hbd⟩
  | cons b r ih =>
    intro done T0 locs hh s7 h7 hd X0 e0 N0 Z0 KB V1 V2
    have hlen : done.length < vs.length := by rw [hd, List.length_append, List.length_cons]; omega
    have hat : vs.getD done.length 0 = b := by rw [hd]; exact own_at done b r
    have hl0 := own_esc_len vs
    have hesc : own_esc vs = own_esc done ++ own_esc [b] ++ own_esc r := by rw [hd, ← own_esc_app, ← own_esc_app, List.append_assoc]; rfl
    have hel : (own_esc done).length + (own_esc [b]).length ≤ (own_esc vs).length := by rw [hesc, List.length_append, List.length_append]; omega
    have hel1 := own_esc_len [b]
    by_cases hc : b = 0
    · obtain ⟨T1, l1, h1, X1, e1, N1, Z1, K1, W1, W2, st1⟩ := wrZ (us := us) X0 hx hZ hw hby hml hown e0 N0 Z0 KB V1 V2 ne12 g_a2 h7 hlen hbd (by omega) (by omega) hat hc
      have ea : own_esc (done ++ [b]) = own_esc done ++ [b] ++ [1] := by rw [own_esc_app, hc, own_esc_z, List.append_assoc]; rfl
      rw [← ea] at W2
      obtain ⟨T2, l2, h2, s7', X2, e2, N2, Z2, K2, U1, U2, st2⟩ := ih (done ++ [b]) T1 l1 h1 (.val (.int b)) (One.val rfl) (by rw [hd, List.append_assoc]; rfl) X1 e1 N1 Z1 K1 W1 W2
      refine ⟨T2, l2, h2, s7', X2, e2, N2, Z2, K2, U1, U2, fun t q => st1 t ?_⟩
      have := st2 t q
      rw [ea, List.length_append, List.length_append, List.length_append] at this; exact this
    · obtain ⟨T1, l1, h1, X1, e1, N1, Z1, K1, W1, W2, st1⟩ := wrN (us := us) X0 hx hZ hw hby hml hown e0 N0 Z0 KB V1 V2 ne12 g_a2 h7 hlen hbd (by omega) (by omega) hat hc
      have ea : own_esc (done ++ [b]) = own_esc done ++ [b] := by rw [own_esc_app, own_esc_n hc]
      rw [← ea] at W2
      obtain ⟨T2, l2, h2, s7', X2, e2, N2, Z2, K2, U1, U2, st2⟩ := ih (done ++ [b]) T1 l1 h1 (.val (.int b)) (One.val rfl) (by rw [hd, List.append_assoc]; rfl) X1 e1 N1 Z1 K1 W1 W2
      refine ⟨T2, l2, h2, s7', X2, e2, N2, Z2, K2, U1, U2, fun t q => st1 t ?_⟩
      have := st2 t q
      rw [ea, List.length_append, List.length_append] at this; exact this
theorem ef_rmR (m : MethodId) (x0 : Addr) (x1 : Addr) (x2 : Int32) : entryFrame m #[(.ref x0), (.ref x1), (.int x2)] 8 = mkF m 0 #[.val (.ref x0), .val (.ref x1), .val (.int x2), .unset, .unset, .unset, .unset, .unset] [] := by first | (simp [entryFrame, mkF, argsToLocals, Value.category]; done) | rfl
def QR (Z : State) (a2 : Addr) (vs us : List Int32) (h0 : Heap) (n0 : Nat) (v : Option Value) (h : Heap) (L : List Loc) : Prop := v = some (.int (Int32.ofNat ((own_esc vs).length + 2))) ∧ Fr n0 L ∧ Keep h0 h [a2] ∧ BA Z h a2 (own_esc vs ++ [0, 0] ++ us.drop ((own_esc vs).length + 2))
set_option maxRecDepth 65536 in
set_option maxHeartbeats 40000000 in
theorem rmR (l : Launch) (Z : State) (a0 : Array Value) (hw : ∀ d ∈ tables_1, d.before a0 Z = true) (ws : List Jvm.Cond) (a1 : Addr) (a2 : Addr) (p3 : Int32) (vs us : List Int32) (h0 : Heap) (n0 : Nat) (Z0 : n0 ≤ h0.size) (V_a1 : BA Z h0 a1 vs) (V_a2 : BA Z h0 a2 us) (ne12 : a1 ≠ a2) (g_a2 : n0 ≤ a2) (hbd : vs.length < 1000) (hle : (own_esc vs).length + 2 ≤ us.length) (e3 : p3 = Int32.ofNat 0) :
    MetFree l (⟨"com/example/gneiss/gneiss/tuple/EscapedBytes", "write", "([B[BI)I"⟩ : MethodName) (head1 (Jvm.Cond.code (⟨"com/example/gneiss/gneiss/tuple/EscapedBytes", "write", "([B[BI)I"⟩ : MethodName) prog_156_method_2_code 8 (some .int) :: ws) ({ frames := 0, cells := 0, slots := 0, locals := 0 } : Room)) (fun a U => a = #[(.ref a1), (.ref a2), (.int p3)] ∧ Z.Warmed39 U.vm ∧ U.heap = h0) (fun _ _ _ _ _ => True) (fun _ U o U' => ∃ v L, o = .returned v ∧ QR Z a2 vs us h0 n0 v U'.heap L ∧ FrameEnd U o U' L ({ frames := 0, cells := 0, slots := 0, locals := 0 } : Room).cells ({ frames := 0, cells := 0, slots := 0, locals := 0 } : Room).slots) := by
  refine MetFree.of_bodySF (plainFor_of_name pn_1) hisR ?_
  intro p e s m args below meth c s₁ Bd hml0 hP hK
  obtain ⟨rfl, hZ, hh⟩ := hP
  have hx := Bd.exec
  have hby := Bd.bytes
  have hml : c.maxLocals = 8 := hml0
  have hown : s.vm.findClass "com/example/gneiss/gneiss/tuple/EscapedBytes" = some m.cls := findClass_of_methodNamed Bd.named
  have hnm := (name_of_methodNamed Bd.named Bd.method).1
  have X0 : Stand p l e ({ frames := 0, cells := 0, slots := 0, locals := 0 } : Room) s m #[(.ref a1), (.ref a2), (.int p3)] below meth c s₁ [] 0 0 := Stand.of_body Bd
  have e0 : s₁.heap = h0 := by rw [← hh, Bd.state]; rfl
  have N0 := Fr.nil n0
  obtain ⟨G, hG, pr0⟩ : ∃ G : State → Prop, (∀ t, G t → Steps p.tables e below (s₁.setTop (entryFrame m #[(.ref a1), (.ref a2), (.int p3)] 8)) t) ∧ (∀ t, Steps p.tables e below (s₁.setTop (mkF m 0 #[.val (.ref a1), .val (.ref a2), .val (.int p3), .unset, .unset, .unset, .unset, .unset] [])) t → G t) := ⟨_, fun _ k => k, fun t ks => castTop (ef_rmR m a1 a2 p3) ks⟩
  have K0 : Keep h0 h0 [a2] := Keep.refl _ _
  have pr83 : ∀ t, Steps p.tables e below (s₁.setTop (mkF m 13 #[.val (.ref a1), .val (.ref a2), .val (.int p3), .val (.int p3), .val (.ref a1), .val (.int (Int32.ofNat vs.length)), .val (.int (0 : Int32)), .unset] [])) t → G t := fun t ks => pr0 t (by
      refine XS.iloadN X0.here hx rfl (hb hby d10_0) rfl ?_
      refine XS.istoreN X0.here hx rfl (hb hby d10_1) rfl (l' := #[.val (.ref a1), .val (.ref a2), .val (.int p3), .val (.int p3), .unset, .unset, .unset, .unset]) rfl ?_
      refine XS.aloadN X0.here hx rfl (hb hby d10_2) rfl rfl ?_
      refine XS.astore X0.here hx rfl (hb hby d10_3) rfl rfl (l' := #[.val (.ref a1), .val (.ref a2), .val (.int p3), .val (.int p3), .val (.ref a1), .unset, .unset, .unset]) rfl ?_
      refine XS.aload X0.here hx rfl (hb hby d10_5) rfl rfl ?_
      refine ba_len X0 hx hZ e0 V_a1 (g := (mkF m 7 #[.val (.ref a1), .val (.ref a2), .val (.int p3), .val (.int p3), .val (.ref a1), .unset, .unset, .unset] [(.ref a1)])) rfl rfl (hb hby d10_7) _ ?_
      refine XS.istore X0.here hx rfl (hb hby d10_8) rfl (l' := #[.val (.ref a1), .val (.ref a2), .val (.int p3), .val (.int p3), .val (.ref a1), .val (.int (Int32.ofNat vs.length)), .unset, .unset]) rfl ?_
      refine XS.iconst X0.here hx rfl (hb hby d10_10) ?_
      refine XS.istore X0.here hx rfl (hb hby d10_11) rfl (l' := #[.val (.ref a1), .val (.ref a2), .val (.int p3), .val (.int p3), .val (.ref a1), .val (.int (Int32.ofNat vs.length)), .val (.int (0 : Int32)), .unset]) rfl ?_
      exact ks)
  rw [e3] at pr83
  obtain ⟨TL, locsL, hL, s7', XL, eL, NL, ZL, KL, V1, V2, st⟩ := loopWR (p3 := Int32.ofNat 0) hx hZ hw hby hml hown hbd hle ne12 g_a2 vs [] s₁ [] h0 .unset One.u rfl X0 e0 N0 Z0 K0 V_a1 V_a2
  replace V_a1 := V1
  replace V_a2 := V2
  have prL : ∀ t, Steps p.tables e below (TL.setTop (mkF m 53 #[.val (.ref a1), .val (.ref a2), .val (.int (Int32.ofNat 0)), .val (.int (Int32.ofNat (own_esc vs).length)), .val (.ref a1), .val (.int (Int32.ofNat vs.length)), .val (.int (Int32.ofNat vs.length)), s7'] [])) t → G t := fun t ks => pr83 t (st t ks)
  have hel := own_esc_len vs
  have pr84 : ∀ t, Steps p.tables e below (TL.setTop (mkF m 56 #[.val (.ref a1), .val (.ref a2), .val (.int (Int32.ofNat 0)), .val (.int (Int32.ofNat (own_esc vs).length)), .val (.ref a1), .val (.int (Int32.ofNat vs.length)), .val (.int (Int32.ofNat vs.length)), s7'] [(.int (0 : Int32)), (.int (Int32.ofNat (own_esc vs).length)), (.ref a2)])) t → G t := fun t ks => prL t (by
      refine XS.aloadN XL.here hx rfl (hb hby d10_53) rfl rfl ?_
      refine XS.iloadN XL.here hx rfl (hb hby d10_54) rfl ?_
      refine XS.iconst XL.here hx rfl (hb hby d10_55) ?_
      exact ks)
  obtain ⟨T85, h85, X85, e85, W85, V85, st85⟩ := ba_st XL hx hZ eL V_a2 (j := (Int32.ofNat (own_esc vs).length)) (own_esc vs).length rfl (by rw [own_snoc_len _ _ (by omega)]; omega) (y := 0) rfl (g := (mkF m 56 #[.val (.ref a1), .val (.ref a2), .val (.int (Int32.ofNat 0)), .val (.int (Int32.ofNat (own_esc vs).length)), .val (.ref a1), .val (.int (Int32.ofNat vs.length)), .val (.int (Int32.ofNat vs.length)), s7'] [(.int (0 : Int32)), (.int (Int32.ofNat (own_esc vs).length)), (.ref a2)])) rfl rfl (hb hby d10_56)
  replace V_a2 := V85
  replace V_a2 : BA Z h85 a2 ((own_esc vs ++ [0]) ++ us.drop (own_esc vs ++ [0]).length) := V_a2.eq (by rw [own_snoc _ _ _ (by omega), List.length_append]; rfl)
  replace V_a1 := V_a1.other W85 ne12
  have N85 := Fr.snoc X85 NL g_a2
  have Z85 : n0 ≤ h85.size := Nat.le_trans ZL (Keep.of_wr W85).1
  have K85 := KL.wr W85 (Or.inl (List.mem_of_getElem? (i := 0) rfl))
  have pr86 : ∀ t, Steps p.tables e below (T85.setTop (mkF m 57 #[.val (.ref a1), .val (.ref a2), .val (.int (Int32.ofNat 0)), .val (.int (Int32.ofNat (own_esc vs).length)), .val (.ref a1), .val (.int (Int32.ofNat vs.length)), .val (.int (Int32.ofNat vs.length)), s7'] [])) t → G t := fun t ks => pr84 t (st85 t ks)
  have pr87 : ∀ t, Steps p.tables e below (T85.setTop (mkF m 62 #[.val (.ref a1), .val (.ref a2), .val (.int (Int32.ofNat 0)), .val (.int (Int32.ofNat (own_esc vs).length)), .val (.ref a1), .val (.int (Int32.ofNat vs.length)), .val (.int (Int32.ofNat vs.length)), s7'] [(.int (0 : Int32)), (.int ((Int32.ofNat (own_esc vs).length) + (1 : Int32))), (.ref a2)])) t → G t := fun t ks => pr86 t (by
      refine XS.aloadN X85.here hx rfl (hb hby d10_57) rfl rfl ?_
      refine XS.iloadN X85.here hx rfl (hb hby d10_58) rfl ?_
      refine XS.iconst X85.here hx rfl (hb hby d10_59) ?_
      refine XS.iadd X85.here hx rfl (hb hby d10_60) rfl ?_
      refine XS.iconst X85.here hx rfl (hb hby d10_61) ?_
      exact ks)
  obtain ⟨T88, h88, X88, e88, W88, V88, st88⟩ := ba_st X85 hx hZ e85 V_a2 (j := ((Int32.ofNat (own_esc vs).length) + (1 : Int32))) (own_esc vs ++ [0]).length (by rw [List.length_append]; exact own_one) (by rw [own_snoc_len _ _ (by rw [List.length_append]; simp only [List.length_cons, List.length_nil]; omega), List.length_append]; simp only [List.length_cons, List.length_nil]; omega) (y := 0) rfl (g := (mkF m 62 #[.val (.ref a1), .val (.ref a2), .val (.int (Int32.ofNat 0)), .val (.int (Int32.ofNat (own_esc vs).length)), .val (.ref a1), .val (.int (Int32.ofNat vs.length)), .val (.int (Int32.ofNat vs.length)), s7'] [(.int (0 : Int32)), (.int ((Int32.ofNat (own_esc vs).length) + (1 : Int32))), (.ref a2)])) rfl rfl (hb hby d10_62)
  replace V_a2 := V88
  replace V_a2 : BA Z h88 a2 (own_esc vs ++ [0, 0] ++ us.drop ((own_esc vs).length + 2)) := V_a2.eq (by rw [own_snoc _ _ _ (by rw [List.length_append]; simp only [List.length_cons, List.length_nil]; omega), List.length_append, List.append_assoc (own_esc vs)]; rfl)
  replace V_a1 := V_a1.other W88 ne12
  have N88 := Fr.snoc X88 N85 g_a2
  have Z88 : n0 ≤ h88.size := Nat.le_trans Z85 (Keep.of_wr W88).1
  have K88 := K85.wr W88 (Or.inl (List.mem_of_getElem? (i := 0) rfl))
  have pr89 : ∀ t, Steps p.tables e below (T88.setTop (mkF m 63 #[.val (.ref a1), .val (.ref a2), .val (.int (Int32.ofNat 0)), .val (.int (Int32.ofNat (own_esc vs).length)), .val (.ref a1), .val (.int (Int32.ofNat vs.length)), .val (.int (Int32.ofNat vs.length)), s7'] [])) t → G t := fun t ks => pr87 t (st88 t ks)
  have pr90 : ∀ t, Steps p.tables e below (T88.setTop (mkF m 66 #[.val (.ref a1), .val (.ref a2), .val (.int (Int32.ofNat 0)), .val (.int (Int32.ofNat (own_esc vs).length)), .val (.ref a1), .val (.int (Int32.ofNat vs.length)), .val (.int (Int32.ofNat vs.length)), s7'] [(.int ((Int32.ofNat (own_esc vs).length) + (2 : Int32)))])) t → G t := fun t ks => pr89 t (by
      refine XS.iloadN X88.here hx rfl (hb hby d10_63) rfl ?_
      refine XS.iconst X88.here hx rfl (hb hby d10_64) ?_
      refine XS.iadd X88.here hx rfl (hb hby d10_65) rfl ?_
      exact ks)
  rw [own_two] at pr90
  obtain ⟨fs, hr, hrun, hended, hW, hsame⟩ := X88.leave (v := some (.int (Int32.ofNat ((own_esc vs).length + 2)))) (fun h => by rw [Bd.returns] at h; cases h)
  refine ⟨_, _, hG _ (pr90 _ ?_), hrun, hended, _, _, rfl, ?_, ⟨_, rfl⟩, hW, hsame.mono (by decide) (by decide)⟩
  · exact retI X88 hx Bd.returns (hb hby d10_66) hr
  · show QR Z a2 vs us h0 n0 _ T88.heap _
    rw [e88]
    exact ⟨rfl, N88, K88, V_a2⟩
theorem ef_rmA (m : MethodId) (x0 : Addr) (x1 : Addr) : entryFrame m #[(.ref x0), (.ref x1)] 4 = mkF m 0 #[.val (.ref x0), .val (.ref x1), .unset, .unset] [] := by first | (simp [entryFrame, mkF, argsToLocals, Value.category]; done) | rfl
def QA (Z : State) (vs us : List Int32) (h0 : Heap) (n0 : Nat) (v : Option Value) (h : Heap) (L : List Loc) : Prop := ∃ b : Addr, v = some (.ref b) ∧ Fr n0 L ∧ Keep h0 h [] ∧ n0 ≤ b ∧ h0.size ≤ b ∧ BA Z h b (own_esc vs ++ [0, 0] ++ us)
set_option maxRecDepth 65536 in
set_option maxHeartbeats 40000000 in
theorem rmA (l : Launch) (Z : State) (a0 : Array Value) (hw : ∀ d ∈ tables_1, d.before a0 Z = true) (ws : List Jvm.Cond) (a1 : Addr) (a2 : Addr) (vs us : List Int32) (h0 : Heap) (n0 : Nat) (Z0 : n0 ≤ h0.size) (V_a1 : BA Z h0 a1 vs) (V_a2 : BA Z h0 a2 us) (hv12 : vs.length ≤ 12) (hu10 : us.length ≤ 10) :
    MetFree l (⟨"com/example/gneiss/gneiss/store/Pairs", "pair", "([B[B)[B"⟩ : MethodName) (head1 (Jvm.Cond.code (⟨"com/example/gneiss/gneiss/store/Pairs", "pair", "([B[B)[B"⟩ : MethodName) prog_121_method_2_code 4 (some (.array .byte)) :: ws) ({ frames := 1, cells := 1, slots := 36, locals := 40 } : Room)) (fun a U => a = #[(.ref a1), (.ref a2)] ∧ Z.Warmed39 U.vm ∧ U.heap = h0) (fun _ _ _ _ _ => True) (fun _ U o U' => ∃ v L, o = .returned v ∧ QA Z vs us h0 n0 v U'.heap L ∧ FrameEnd U o U' L ({ frames := 1, cells := 1, slots := 36, locals := 40 } : Room).cells ({ frames := 1, cells := 1, slots := 36, locals := 40 } : Room).slots) := by
  refine MetFree.of_bodySF (plainFor_of_name pn_2) hisR ?_
  intro p e s m args below meth c s₁ Bd hml0 hP hK
  obtain ⟨rfl, hZ, hh⟩ := hP
  have hx := Bd.exec
  have hby := Bd.bytes
  have hml : c.maxLocals = 4 := hml0
  have hown : s.vm.findClass "com/example/gneiss/gneiss/store/Pairs" = some m.cls := findClass_of_methodNamed Bd.named
  have hnm := (name_of_methodNamed Bd.named Bd.method).1
  have X0 : Stand p l e ({ frames := 1, cells := 1, slots := 36, locals := 40 } : Room) s m #[(.ref a1), (.ref a2)] below meth c s₁ [] 0 0 := Stand.of_body Bd
  have e0 : s₁.heap = h0 := by rw [← hh, Bd.state]; rfl
  have N0 := Fr.nil n0
  obtain ⟨G, hG, pr0⟩ : ∃ G : State → Prop, (∀ t, G t → Steps p.tables e below (s₁.setTop (entryFrame m #[(.ref a1), (.ref a2)] 4)) t) ∧ (∀ t, Steps p.tables e below (s₁.setTop (mkF m 0 #[.val (.ref a1), .val (.ref a2), .unset, .unset] [])) t → G t) := ⟨_, fun _ k => k, fun t ks => castTop (ef_rmA m a1 a2) ks⟩
  have K0 : Keep h0 h0 [] := Keep.refl _ _
  have hel := own_esc_len vs
  have pr91 : ∀ t, Steps p.tables e below (s₁.setTop (mkF m 1 #[.val (.ref a1), .val (.ref a2), .unset, .unset] [(.ref a1)])) t → G t := fun t ks => pr0 t (by
      refine XS.aloadN X0.here hx rfl (hb hby d8_0) rfl rfl ?_
      exact ks)
  obtain ⟨_, _, ⟨T92, L92, k92, n92⟩, -, X92, hP92, st92⟩ := Jvm.LawKit.callS X0 hx (y := (⟨"com/example/gneiss/gneiss/tuple/EscapedBytes", "writtenLength", "([B)I"⟩ : MethodName)) hown (mvT hZ (hw _ (List.mem_of_getElem? (i := 47) rfl))) (mvT hZ (hw _ (List.mem_of_getElem? (i := 48) rfl))) (mvT hZ (hw _ (List.mem_of_getElem? (i := 49) rfl))) (mvT hZ (hw _ (List.mem_of_getElem? (i := 50) rfl))) (by decide) (backOf (W := 0) (rmW l Z a0 hw [] a1 vs h0 n0 Z0 V_a1 (by omega)) hZ (hw _ (List.mem_of_getElem? (i := 50) rfl)) (hw _ (List.mem_of_getElem? (i := 49) rfl)) (by decide) (by decide)) (g := (mkF m 1 #[.val (.ref a1), .val (.ref a2), .unset, .unset] [(.ref a1)])) rfl (by rw [hml]; rfl) (argsL := [(.ref a1)]) (rest := []) (lenOf pd_1 rfl) rfl (by show 2 * 0 + _ ≤ _; exact Nat.le_of_eq rfl) (hb hby d8_1) (fun _ _ => ⟨rfl, e0, (by decide : 0 + 0 ≤ _), (by decide : 0 + 0 ≤ _)⟩)
  obtain ⟨Lc92, hQ92, X92⟩ := own_out hP92 X92
  clear hP92
  dsimp only [Pt.U, Pt.locs, Pt.cells, Pt.slots] at X92 st92 hQ92
  obtain ⟨rfl, Nq92, eh92⟩ := hQ92
  have N92 := Fr.app N0 Nq92
  have pr93 : ∀ t, Steps p.tables e below (T92.setTop (mkF m 4 #[.val (.ref a1), .val (.ref a2), .unset, .unset] [(.int (Int32.ofNat ((own_esc vs).length + 2)))])) t → G t := fun t ks => pr91 t (st92 t ks)
  have pr94 : ∀ t, Steps p.tables e below (T92.setTop (mkF m 7 #[.val (.ref a1), .val (.ref a2), .unset, .unset] [(.int ((Int32.ofNat ((own_esc vs).length + 2)) + (Int32.ofNat us.length)))])) t → G t := fun t ks => pr93 t (by
      refine XS.aloadN X92.here hx rfl (hb hby d8_4) rfl rfl ?_
      refine ba_len X92 hx hZ eh92 V_a2 (g := (mkF m 5 #[.val (.ref a1), .val (.ref a2), .unset, .unset] [(.ref a2), (.int (Int32.ofNat ((own_esc vs).length + 2)))])) rfl rfl (hb hby d8_5) _ ?_
      refine XS.iadd X92.here hx rfl (hb hby d8_6) rfl ?_
      exact ks)
  obtain ⟨T95, h95, X95, e95, E95, A95, st95⟩ := ba_new X92 hx hZ (hw _ (List.mem_of_getElem? (i := 7) rfl)) eh92 (g := (mkF m 7 #[.val (.ref a1), .val (.ref a2), .unset, .unset] [(.int ((Int32.ofNat ((own_esc vs).length + 2)) + (Int32.ofNat us.length)))])) rfl (hb hby d8_7) rfl (N := ((own_esc vs).length + 2 + us.length)) own_addNN (cap := 36) (by omega) (by decide) (by decide) (by decide)
  obtain ⟨b, g95⟩ : ∃ z, z = h0.size := ⟨_, rfl⟩
  rw [← g95] at A95 st95
  have ne_a1_b : a1 ≠ b := Nat.ne_of_lt (Nat.lt_of_lt_of_le V_a1.lt (Nat.le_of_eq g95.symm))
  have ne_a2_b : a2 ≠ b := Nat.ne_of_lt (Nat.lt_of_lt_of_le V_a2.lt (Nat.le_of_eq g95.symm))
  have g_b : n0 ≤ b := Nat.le_trans Z0 (Nat.le_of_eq g95.symm)
  have sz_b : h0.size ≤ b := Nat.le_trans K0.1 (Nat.le_of_eq g95.symm)
  replace V_a1 := V_a1.ext E95
  replace V_a2 := V_a2.ext E95
  have V_b := A95
  have Z95 : n0 ≤ h95.size := Nat.le_trans Z0 E95.1
  have K95 := K0.ext E95
  have pr96 : ∀ t, Steps p.tables e below (T95.setTop (mkF m 9 #[.val (.ref a1), .val (.ref a2), .unset, .unset] [(.ref b)])) t → G t := fun t ks => pr94 t (st95 t ks)
  have pr97 : ∀ t, Steps p.tables e below (T95.setTop (mkF m 13 #[.val (.ref a1), .val (.ref a2), .val (.ref b), .unset] [(.int (0 : Int32)), (.ref b), (.ref a1)])) t → G t := fun t ks => pr96 t (by
      refine XS.astoreN X95.here hx rfl (hb hby d8_9) rfl rfl (l' := #[.val (.ref a1), .val (.ref a2), .val (.ref b), .unset]) rfl ?_
      refine XS.aloadN X95.here hx rfl (hb hby d8_10) rfl rfl ?_
      refine XS.aloadN X95.here hx rfl (hb hby d8_11) rfl rfl ?_
      refine XS.iconst X95.here hx rfl (hb hby d8_12) ?_
      exact ks)
  obtain ⟨_, _, ⟨T98, L98, k98, n98⟩, -, X98, hP98, st98⟩ := Jvm.LawKit.callS X95 hx (y := (⟨"com/example/gneiss/gneiss/tuple/EscapedBytes", "write", "([B[BI)I"⟩ : MethodName)) hown (mvT hZ (hw _ (List.mem_of_getElem? (i := 51) rfl))) (mvT hZ (hw _ (List.mem_of_getElem? (i := 52) rfl))) (mvT hZ (hw _ (List.mem_of_getElem? (i := 49) rfl))) (mvT hZ (hw _ (List.mem_of_getElem? (i := 53) rfl))) (by decide) (backOf (W := 0) (rmR l Z a0 hw [] a1 b (0 : Int32) vs (List.replicate ((own_esc vs).length + 2 + us.length) 0) h95 n0 Z95 V_a1 V_b ne_a1_b g_b (by omega) (by rw [List.length_replicate]; omega) rfl) hZ (hw _ (List.mem_of_getElem? (i := 53) rfl)) (hw _ (List.mem_of_getElem? (i := 49) rfl)) (by decide) (by decide)) (g := (mkF m 13 #[.val (.ref a1), .val (.ref a2), .val (.ref b), .unset] [(.int (0 : Int32)), (.ref b), (.ref a1)])) rfl (by rw [hml]; rfl) (argsL := [(.ref a1), (.ref b), (.int (0 : Int32))]) (rest := []) (lenOf pd_2 rfl) rfl (by show 2 * 0 + _ ≤ _; exact Nat.le_of_eq rfl) (hb hby d8_13) (fun _ _ => ⟨rfl, e95, (by decide : 1 + 0 ≤ _), (by decide : 36 + 0 ≤ _)⟩)
  obtain ⟨Lc98, hQ98, X98⟩ := own_out hP98 X98
  clear hP98
  dsimp only [Pt.U, Pt.locs, Pt.cells, Pt.slots] at X98 st98 hQ98
  obtain ⟨rfl, Nq98, Kq98, V_b⟩ := hQ98
  replace V_a1 := V_a1.keep Kq98 (ninS ne_a1_b nin0)
  replace V_a2 := V_a2.keep Kq98 (ninS ne_a2_b nin0)
  have Z98 : n0 ≤ T98.heap.size := Nat.le_trans Z95 Kq98.1
  have K98 := K95.trans Kq98 (allS (Or.inr sz_b) all0)
  have N98 := Fr.app N92 Nq98
  have pr99 : ∀ t, Steps p.tables e below (T98.setTop (mkF m 16 #[.val (.ref a1), .val (.ref a2), .val (.ref b), .unset] [(.int (Int32.ofNat ((own_esc vs).length + 2)))])) t → G t := fun t ks => pr97 t (st98 t ks)
  have pr100 : ∀ t, Steps p.tables e below (T98.setTop (mkF m 23 #[.val (.ref a1), .val (.ref a2), .val (.ref b), .val (.int (Int32.ofNat ((own_esc vs).length + 2)))] [(.int (Int32.ofNat us.length)), (.int (Int32.ofNat ((own_esc vs).length + 2))), (.ref b), (.int (0 : Int32)), (.ref a2)])) t → G t := fun t ks => pr99 t (by
      refine XS.istoreN X98.here hx rfl (hb hby d8_16) rfl (l' := #[.val (.ref a1), .val (.ref a2), .val (.ref b), .val (.int (Int32.ofNat ((own_esc vs).length + 2)))]) rfl ?_
      refine XS.aloadN X98.here hx rfl (hb hby d8_17) rfl rfl ?_
      refine XS.iconst X98.here hx rfl (hb hby d8_18) ?_
      refine XS.aloadN X98.here hx rfl (hb hby d8_19) rfl rfl ?_
      refine XS.iloadN X98.here hx rfl (hb hby d8_20) rfl ?_
      refine XS.aloadN X98.here hx rfl (hb hby d8_21) rfl rfl ?_
      refine ba_len X98 hx hZ rfl V_a2 (g := (mkF m 22 #[.val (.ref a1), .val (.ref a2), .val (.ref b), .val (.int (Int32.ofNat ((own_esc vs).length + 2)))] [(.ref a2), (.int (Int32.ofNat ((own_esc vs).length + 2))), (.ref b), (.int (0 : Int32)), (.ref a2)])) rfl rfl (hb hby d8_22) _ ?_
      exact ks)
  obtain ⟨T101, h101, L101, X101, e101, N101, Kq101, V101, st101⟩ := ba_copy X98 hx hZ hown (hw _ (List.mem_of_getElem? (i := 54) rfl)) (hw _ (List.mem_of_getElem? (i := 57) rfl)) (hw _ (List.mem_of_getElem? (i := 55) rfl)) (hw _ (List.mem_of_getElem? (i := 56) rfl)) rfl V_a2 V_b (sp := (0 : Int32)) (dp := (Int32.ofNat ((own_esc vs).length + 2))) (nn := (Int32.ofNat us.length)) (i := 0) (j := ((own_esc vs).length + 2)) (n := us.length) rfl rfl rfl (by omega) (by rw [own_pairN]; omega) N98 g_b (g := (mkF m 23 #[.val (.ref a1), .val (.ref a2), .val (.ref b), .val (.int (Int32.ofNat ((own_esc vs).length + 2)))] [(.int (Int32.ofNat us.length)), (.int (Int32.ofNat ((own_esc vs).length + 2))), (.ref b), (.int (0 : Int32)), (.ref a2)])) rfl (by rw [hml]; rfl) rfl (hb hby d8_23) (by decide) (W := 0) (by show 2 * 0 + _ ≤ _; exact Nat.le_of_eq rfl) (by decide)
  replace V_a1 := V_a1.keep Kq101 (ninS ne_a1_b nin0)
  replace V_a2 := V_a2.keep Kq101 (ninS ne_a2_b nin0)
  have V_b := V101
  replace V_b : BA Z h101 b (own_esc vs ++ [0, 0] ++ us) := V_b.eq (own_pairL vs us)
  have Z101 : n0 ≤ h101.size := Nat.le_trans Z98 Kq101.1
  have K101 := K98.trans Kq101 (allS (Or.inr sz_b) all0)
  have pr102 : ∀ t, Steps p.tables e below (T101.setTop (mkF m 26 #[.val (.ref a1), .val (.ref a2), .val (.ref b), .val (.int (Int32.ofNat ((own_esc vs).length + 2)))] [])) t → G t := fun t ks => pr100 t (st101 t ks)
  have pr103 : ∀ t, Steps p.tables e below (T101.setTop (mkF m 27 #[.val (.ref a1), .val (.ref a2), .val (.ref b), .val (.int (Int32.ofNat ((own_esc vs).length + 2)))] [(.ref b)])) t → G t := fun t ks => pr102 t (by
      refine XS.aloadN X101.here hx rfl (hb hby d8_26) rfl rfl ?_
      exact ks)
  obtain ⟨fs, hr, hrun, hended, hW, hsame⟩ := X101.leave (v := some (.ref b)) (fun h => by rw [Bd.returns] at h; cases h)
  refine ⟨_, _, hG _ (pr103 _ ?_), hrun, hended, _, _, rfl, ?_, ⟨_, rfl⟩, hW, hsame.mono (by decide) (by decide)⟩
  · jvm_step X101.here [X101.here.top, hx, (hb hby d8_27), X101.method', Bd.returns, Value.isRef, FieldType.isReference]
    first | (intro acts; rw [hr _ acts rfl rfl rfl]) | rw [hr _ _ rfl rfl rfl]
    exact Steps.refl _
  · show QA Z vs us h0 n0 _ T101.heap _
    rw [e101]
    exact ⟨b, rfl, N101, K101, g_b, sz_b, V_b⟩
theorem ef_rmI (m : MethodId) (x0 : Addr) : entryFrame m #[(.ref x0)] 1 = mkF m 0 #[.val (.ref x0)] [] := by first | (simp [entryFrame, mkF, argsToLocals, Value.category]; done) | rfl
set_option maxRecDepth 65536 in
set_option maxHeartbeats 40000000 in
theorem rmI (l : Launch) (Z : State) (a0 : Array Value) (hw : ∀ d ∈ tables_1, d.before a0 Z = true) (ws : List Jvm.Cond) (a1 : Addr) (nv : Addr) (vs : List Int32) (h0 : Heap) (n0 : Nat) (Z0 : n0 ≤ h0.size) (V_a1 : BA Z h0 a1 vs) (S_nv : SN Z n0 h0 "com/example/gneiss/gneiss/store/Pairs" "NO_VALUE" "[B" (.ref nv)) (V_nv : BA Z h0 nv []) (hv12 : vs.length ≤ 12) :
    MetFree l (⟨"com/example/gneiss/gneiss/store/Pairs", "first", "([B)[B"⟩ : MethodName) (head1 (Jvm.Cond.code (⟨"com/example/gneiss/gneiss/store/Pairs", "first", "([B)[B"⟩ : MethodName) prog_121_method_3_code 1 (some (.array .byte)) :: ws) ({ frames := 2, cells := 1, slots := 36, locals := 55 } : Room)) (fun a U => a = #[(.ref a1)] ∧ Z.Warmed39 U.vm ∧ U.heap = h0) (fun _ _ _ _ _ => True) (fun _ U o U' => ∃ v L, o = .returned v ∧ QA Z vs [] h0 n0 v U'.heap L ∧ FrameEnd U o U' L ({ frames := 2, cells := 1, slots := 36, locals := 55 } : Room).cells ({ frames := 2, cells := 1, slots := 36, locals := 55 } : Room).slots) := by
  refine MetFree.of_bodySF (plainFor_of_name pn_2) hisR ?_
  intro p e s m args below meth c s₁ Bd hml0 hP hK
  obtain ⟨rfl, hZ, hh⟩ := hP
  have hx := Bd.exec
  have hby := Bd.bytes
  have hml : c.maxLocals = 1 := hml0
  have hown : s.vm.findClass "com/example/gneiss/gneiss/store/Pairs" = some m.cls := findClass_of_methodNamed Bd.named
  have hnm := (name_of_methodNamed Bd.named Bd.method).1
  have X0 : Stand p l e ({ frames := 2, cells := 1, slots := 36, locals := 55 } : Room) s m #[(.ref a1)] below meth c s₁ [] 0 0 := Stand.of_body Bd
  have e0 : s₁.heap = h0 := by rw [← hh, Bd.state]; rfl
  have N0 := Fr.nil n0
  obtain ⟨G, hG, pr0⟩ : ∃ G : State → Prop, (∀ t, G t → Steps p.tables e below (s₁.setTop (entryFrame m #[(.ref a1)] 1)) t) ∧ (∀ t, Steps p.tables e below (s₁.setTop (mkF m 0 #[.val (.ref a1)] [])) t → G t) := ⟨_, fun _ k => k, fun t ks => castTop (ef_rmI m a1) ks⟩
  have K0 : Keep h0 h0 [] := Keep.refl _ _
  have pr104 : ∀ t, Steps p.tables e below (s₁.setTop (mkF m 1 #[.val (.ref a1)] [(.ref a1)])) t → G t := fun t ks => pr0 t (by
      refine XS.aloadN X0.here hx rfl (hb hby d7_0) rfl rfl ?_
      exact ks)
  obtain ⟨T105, X105, e105, st105⟩ := getS2 X0 hx hZ hown (host := "") (Or.inl (hw _ (List.mem_of_getElem? (i := 42) rfl))) Via.refl e0 S_nv.sta (g := (mkF m 1 #[.val (.ref a1)] [(.ref a1)])) rfl (hb hby d7_1)
  have pr106 : ∀ t, Steps p.tables e below (T105.setTop (mkF m 4 #[.val (.ref a1)] [(.ref nv), (.ref a1)])) t → G t := fun t ks => pr104 t (st105 t ks)
  obtain ⟨_, _, ⟨T107, L107, k107, n107⟩, -, X107, hP107, st107⟩ := Jvm.LawKit.callS X105 hx (y := (⟨"com/example/gneiss/gneiss/store/Pairs", "pair", "([B[B)[B"⟩ : MethodName)) hown (mvT hZ (hw _ (List.mem_of_getElem? (i := 44) rfl))) (mvT hZ (hw _ (List.mem_of_getElem? (i := 45) rfl))) (mvT hZ (hw _ (List.mem_of_getElem? (i := 40) rfl))) (mvT hZ (hw _ (List.mem_of_getElem? (i := 46) rfl))) (by decide) (backOf (W := 0) (rmA l Z a0 hw [] a1 nv vs [] h0 n0 Z0 V_a1 V_nv hv12 (by decide)) hZ (hw _ (List.mem_of_getElem? (i := 46) rfl)) (hw _ (List.mem_of_getElem? (i := 40) rfl)) (by decide) (by decide)) (g := (mkF m 4 #[.val (.ref a1)] [(.ref nv), (.ref a1)])) rfl (by rw [hml]; rfl) (argsL := [(.ref a1), (.ref nv)]) (rest := []) (lenOf pd_3 rfl) rfl (by show 2 * 0 + _ ≤ _; exact Nat.le_of_eq rfl) (hb hby d7_4) (fun _ _ => ⟨rfl, e105, (by decide : 0 + 1 ≤ _), (by decide : 0 + 36 ≤ _)⟩)
  obtain ⟨Lc107, hQ107, X107⟩ := own_out hP107 X107
  clear hP107
  dsimp only [Pt.U, Pt.locs, Pt.cells, Pt.slots] at X107 st107 hQ107
  obtain ⟨b, rfl, Nq107, Kq107, g_b, szq_b, V_b⟩ := hQ107
  have ne_a1_b : a1 ≠ b := Nat.ne_of_lt (Nat.lt_of_lt_of_le V_a1.lt szq_b)
  have ne_nv_b : nv ≠ b := Nat.ne_of_lt (Nat.lt_of_lt_of_le V_nv.lt szq_b)
  have sz_b : h0.size ≤ b := Nat.le_trans K0.1 szq_b
  replace V_a1 := V_a1.keep Kq107 nin0
  replace V_nv := V_nv.keep Kq107 nin0
  replace S_nv := S_nv.keep Kq107 all0
  have Z107 : n0 ≤ T107.heap.size := Nat.le_trans Z0 Kq107.1
  have K107 := K0.trans Kq107 all0
  have N107 := Fr.app N0 Nq107
  have pr108 : ∀ t, Steps p.tables e below (T107.setTop (mkF m 7 #[.val (.ref a1)] [(.ref b)])) t → G t := fun t ks => pr106 t (st107 t ks)
  obtain ⟨fs, hr, hrun, hended, hW, hsame⟩ := X107.leave (v := some (.ref b)) (fun h => by rw [Bd.returns] at h; cases h)
  refine ⟨_, _, hG _ (pr108 _ ?_), hrun, hended, _, _, rfl, ?_, ⟨_, rfl⟩, hW, hsame.mono (by decide) (by decide)⟩
  · jvm_step X107.here [X107.here.top, hx, (hb hby d7_7), X107.method', Bd.returns, Value.isRef, FieldType.isReference]
    first | (intro acts; rw [hr _ acts rfl rfl rfl]) | rw [hr _ _ rfl rfl rfl]
    exact Steps.refl _
  · show QA Z vs [] h0 n0 _ T107.heap _
    exact ⟨b, rfl, N107, K107, g_b, sz_b, V_b⟩
theorem ef_rmC (m : MethodId) (x0 : Addr) (x1 : Int32) : entryFrame m #[(.ref x0), (.int x1)] 3 = mkF m 0 #[.val (.ref x0), .val (.int x1), .unset] [] := by first | (simp [entryFrame, mkF, argsToLocals, Value.category]; done) | rfl
def QC (Z : State) (vs : List Int32) (k : Nat) (h0 : Heap) (n0 : Nat) (v : Option Value) (h : Heap) (L : List Loc) : Prop := ∃ b : Addr, v = some (.ref b) ∧ Fr n0 L ∧ Keep h0 h [] ∧ n0 ≤ b ∧ h0.size ≤ b ∧ BA Z h b (vs.take k)
set_option maxRecDepth 65536 in
set_option maxHeartbeats 40000000 in
theorem rmC (l : Launch) (Z : State) (a0 : Array Value) (hw : ∀ d ∈ tables_1, d.before a0 Z = true) (ws : List Jvm.Cond) (a1 : Addr) (p2 : Int32) (vs : List Int32) (k : Nat) (h0 : Heap) (n0 : Nat) (Z0 : n0 ≤ h0.size) (V_a1 : BA Z h0 a1 vs) (e2 : p2 = Int32.ofNat k) (hk : k < vs.length) (hk24 : k ≤ 24) (hv : vs.length < 1000) :
    MetFree l (⟨"java/util/Arrays", "copyOf", "([BI)[B"⟩ : MethodName) (head1 (Jvm.Cond.code (⟨"java/util/Arrays", "copyOf", "([BI)[B"⟩ : MethodName) jdk_65_method_121_code 3 (some (.array .byte)) :: ws) ({ frames := 1, cells := 1, slots := 24, locals := 40 } : Room)) (fun a U => a = #[(.ref a1), (.int p2)] ∧ Z.Warmed39 U.vm ∧ U.heap = h0) (fun _ _ _ _ _ => True) (fun _ U o U' => ∃ v L, o = .returned v ∧ QC Z vs k h0 n0 v U'.heap L ∧ FrameEnd U o U' L ({ frames := 1, cells := 1, slots := 24, locals := 40 } : Room).cells ({ frames := 1, cells := 1, slots := 24, locals := 40 } : Room).slots) := by
  refine MetFree.of_bodySF (plainFor_of_name pn_3) hisR ?_
  intro p e s m args below meth c s₁ Bd hml0 hP hK
  obtain ⟨rfl, hZ, hh⟩ := hP
  have hx := Bd.exec
  have hby := Bd.bytes
  have hml : c.maxLocals = 3 := hml0
  have hown : s.vm.findClass "java/util/Arrays" = some m.cls := findClass_of_methodNamed Bd.named
  have hnm := (name_of_methodNamed Bd.named Bd.method).1
  have X0 : Stand p l e ({ frames := 1, cells := 1, slots := 24, locals := 40 } : Room) s m #[(.ref a1), (.int p2)] below meth c s₁ [] 0 0 := Stand.of_body Bd
  have e0 : s₁.heap = h0 := by rw [← hh, Bd.state]; rfl
  have N0 := Fr.nil n0
  obtain ⟨G, hG, pr0⟩ : ∃ G : State → Prop, (∀ t, G t → Steps p.tables e below (s₁.setTop (entryFrame m #[(.ref a1), (.int p2)] 3)) t) ∧ (∀ t, Steps p.tables e below (s₁.setTop (mkF m 0 #[.val (.ref a1), .val (.int p2), .unset] [])) t → G t) := ⟨_, fun _ k => k, fun t ks => castTop (ef_rmC m a1 p2) ks⟩
  have K0 : Keep h0 h0 [] := Keep.refl _ _
  have pr109 : ∀ t, Steps p.tables e below (s₁.setTop (mkF m 15 #[.val (.ref a1), .val (.int p2), .unset] [(.int p2)])) t → G t := fun t ks => pr0 t (by
      refine XS.iloadN X0.here hx rfl (hb hby d11_0) rfl ?_
      refine XS.aloadN X0.here hx rfl (hb hby d11_1) rfl rfl ?_
      refine ba_len X0 hx hZ e0 V_a1 (g := (mkF m 2 #[.val (.ref a1), .val (.int p2), .unset] [(.ref a1), (.int p2)])) rfl rfl (hb hby d11_2) _ ?_
      refine XS.icmpYes X0.here hx rfl (pc0 := 3) (pc' := 14) rfl (hb hby d11_3) rfl (feq (by rw [e2]; exact fun q => absurd (own_ofinj (by omega) (by omega) q) (by omega))).2 (by decide) (by decide) ?_
      refine XS.iloadN X0.here hx rfl (hb hby d11_14) rfl ?_
      exact ks)
  obtain ⟨T110, h110, X110, e110, E110, A110, st110⟩ := ba_new X0 hx hZ (hw _ (List.mem_of_getElem? (i := 7) rfl)) e0 (g := (mkF m 15 #[.val (.ref a1), .val (.int p2), .unset] [(.int p2)])) rfl (hb hby d11_15) rfl (N := k) e2 (cap := 24) (by omega) (by decide) (by decide) (by decide)
  obtain ⟨b, g110⟩ : ∃ z, z = h0.size := ⟨_, rfl⟩
  rw [← g110] at A110 st110
  have ne_a1_b : a1 ≠ b := Nat.ne_of_lt (Nat.lt_of_lt_of_le V_a1.lt (Nat.le_of_eq g110.symm))
  have g_b : n0 ≤ b := Nat.le_trans Z0 (Nat.le_of_eq g110.symm)
  have sz_b : h0.size ≤ b := Nat.le_trans K0.1 (Nat.le_of_eq g110.symm)
  replace V_a1 := V_a1.ext E110
  have V_b := A110
  have Z110 : n0 ≤ h110.size := Nat.le_trans Z0 E110.1
  have K110 := K0.ext E110
  have pr111 : ∀ t, Steps p.tables e below (T110.setTop (mkF m 17 #[.val (.ref a1), .val (.int p2), .unset] [(.ref b)])) t → G t := fun t ks => pr109 t (st110 t ks)
  have pr112 : ∀ t, Steps p.tables e below (T110.setTop (mkF m 25 #[.val (.ref a1), .val (.int p2), .val (.ref b)] [(.int p2), (.int (Int32.ofNat vs.length)), (.int (0 : Int32)), (.ref b), (.int (0 : Int32)), (.ref a1)])) t → G t := fun t ks => pr111 t (by
      refine XS.astoreN X110.here hx rfl (hb hby d11_17) rfl rfl (l' := #[.val (.ref a1), .val (.int p2), .val (.ref b)]) rfl ?_
      refine XS.aloadN X110.here hx rfl (hb hby d11_18) rfl rfl ?_
      refine XS.iconst X110.here hx rfl (hb hby d11_19) ?_
      refine XS.aloadN X110.here hx rfl (hb hby d11_20) rfl rfl ?_
      refine XS.iconst X110.here hx rfl (hb hby d11_21) ?_
      refine XS.aloadN X110.here hx rfl (hb hby d11_22) rfl rfl ?_
      refine ba_len X110 hx hZ e110 V_a1 (g := (mkF m 23 #[.val (.ref a1), .val (.int p2), .val (.ref b)] [(.ref a1), (.int (0 : Int32)), (.ref b), (.int (0 : Int32)), (.ref a1)])) rfl rfl (hb hby d11_23) _ ?_
      refine XS.iloadN X110.here hx rfl (hb hby d11_24) rfl ?_
      exact ks)
  obtain ⟨_, _, ⟨T113, L113, k113, n113⟩, -, X113, hP113, st113⟩ := Jvm.LawKit.callS X110 hx (y := (⟨"java/lang/Math", "min", "(II)I"⟩ : MethodName)) hown (mvT hZ (hw _ (List.mem_of_getElem? (i := 62) rfl))) (mvT hZ (hw _ (List.mem_of_getElem? (i := 63) rfl))) (mvT hZ (hw _ (List.mem_of_getElem? (i := 64) rfl))) (mvT hZ (hw _ (List.mem_of_getElem? (i := 65) rfl))) (by decide) (backOf (W := 4) (rmMin l Z a0 hw [] (Int32.ofNat vs.length) p2 h110 n0 Z110) hZ (hw _ (List.mem_of_getElem? (i := 65) rfl)) (hw _ (List.mem_of_getElem? (i := 64) rfl)) (by decide) (by decide)) (g := (mkF m 25 #[.val (.ref a1), .val (.int p2), .val (.ref b)] [(.int p2), (.int (Int32.ofNat vs.length)), (.int (0 : Int32)), (.ref b), (.int (0 : Int32)), (.ref a1)])) rfl (by rw [hml]; rfl) (argsL := [(.int (Int32.ofNat vs.length)), (.int p2)]) (rest := [(.int (0 : Int32)), (.ref b), (.int (0 : Int32)), (.ref a1)]) (lenOf pd_4 rfl) rfl (by show 2 * 0 + _ ≤ _; exact Nat.le_of_eq rfl) (hb hby d11_25) (fun _ _ => ⟨rfl, e110, (by decide : 1 + 0 ≤ _), (by decide : 24 + 0 ≤ _)⟩)
  obtain ⟨Lc113, hQ113, X113⟩ := own_out hP113 X113
  clear hP113
  dsimp only [Pt.U, Pt.locs, Pt.cells, Pt.slots] at X113 st113 hQ113
  obtain ⟨rfl, Nq113, eh113⟩ := hQ113
  have N113 := Fr.app N0 Nq113
  have pr114 : ∀ t, Steps p.tables e below (T113.setTop (mkF m 28 #[.val (.ref a1), .val (.int p2), .val (.ref b)] [(.int (own_min (Int32.ofNat vs.length) p2)), (.int (0 : Int32)), (.ref b), (.int (0 : Int32)), (.ref a1)])) t → G t := fun t ks => pr112 t (st113 t ks)
  have hmin : own_min (Int32.ofNat vs.length) p2 = Int32.ofNat k := own_minN e2 hk hv
  rw [hmin] at pr114
  obtain ⟨T115, h115, L115, X115, e115, N115, Kq115, V115, st115⟩ := ba_copy X113 hx hZ hown (hw _ (List.mem_of_getElem? (i := 66) rfl)) (hw _ (List.mem_of_getElem? (i := 57) rfl)) (hw _ (List.mem_of_getElem? (i := 55) rfl)) (hw _ (List.mem_of_getElem? (i := 56) rfl)) eh113 V_a1 V_b (sp := (0 : Int32)) (dp := (0 : Int32)) (nn := (Int32.ofNat k)) (i := 0) (j := 0) (n := k) rfl rfl rfl (by omega) (by rw [List.length_replicate]; omega) N113 g_b (g := (mkF m 28 #[.val (.ref a1), .val (.int p2), .val (.ref b)] [(.int (Int32.ofNat k)), (.int (0 : Int32)), (.ref b), (.int (0 : Int32)), (.ref a1)])) rfl (by rw [hml]; rfl) rfl (hb hby d11_28) (by decide) (W := 0) (by show 2 * 0 + _ ≤ _; exact Nat.le_of_eq rfl) (by decide)
  replace V_a1 := V_a1.keep Kq115 (ninS ne_a1_b nin0)
  have V_b := V115
  replace V_b : BA Z h115 b (vs.take k) := V_b.eq (by simp)
  have Z115 : n0 ≤ h115.size := Nat.le_trans Z110 Kq115.1
  have K115 := K110.trans Kq115 (allS (Or.inr sz_b) all0)
  have pr116 : ∀ t, Steps p.tables e below (T115.setTop (mkF m 31 #[.val (.ref a1), .val (.int p2), .val (.ref b)] [])) t → G t := fun t ks => pr114 t (st115 t ks)
  have pr117 : ∀ t, Steps p.tables e below (T115.setTop (mkF m 32 #[.val (.ref a1), .val (.int p2), .val (.ref b)] [(.ref b)])) t → G t := fun t ks => pr116 t (by
      refine XS.aloadN X115.here hx rfl (hb hby d11_31) rfl rfl ?_
      exact ks)
  obtain ⟨fs, hr, hrun, hended, hW, hsame⟩ := X115.leave (v := some (.ref b)) (fun h => by rw [Bd.returns] at h; cases h)
  refine ⟨_, _, hG _ (pr117 _ ?_), hrun, hended, _, _, rfl, ?_, ⟨_, rfl⟩, hW, hsame.mono (by decide) (by decide)⟩
  · jvm_step X115.here [X115.here.top, hx, (hb hby d11_32), X115.method', Bd.returns, Value.isRef, FieldType.isReference]
    first | (intro acts; rw [hr _ acts rfl rfl rfl]) | rw [hr _ _ rfl rfl rfl]
    exact Steps.refl _
  · show QC Z vs k h0 n0 _ T115.heap _
    rw [e115]
    exact ⟨b, rfl, N115, K115, g_b, sz_b, V_b⟩
theorem ef_rmF (m : MethodId) (x0 : Addr) (x1 : Addr) (x2 : Addr) (x3 : Addr) : entryFrame m #[(.ref x0), (.ref x1), (.ref x2), (.ref x3)] 5 = mkF m 0 #[.val (.ref x0), .val (.ref x1), .val (.ref x2), .val (.ref x3), .unset] [] := by first | (simp [entryFrame, mkF, argsToLocals, Value.category]; done) | rfl
def QF (Z : State) (a1 : Addr) (kh kt vh : List Int32) (h0 : Heap) (n0 : Nat) (v : Option Value) (h : Heap) (L : List Loc) : Prop := v = none ∧ Fr n0 L ∧ Keep h0 h [a1] ∧ Exa Z h a1 "com/example/gneiss/gneiss/store/Pairs$Form" ∧ ∃ (bv ba bb : Addr), Fld Z h a1 "com/example/gneiss/gneiss/store/Pairs$Form" "valueHead" "[B" (.ref bv) ∧ Fld Z h a1 "com/example/gneiss/gneiss/store/Pairs$Form" "after" "[B" (.ref ba) ∧ Fld Z h a1 "com/example/gneiss/gneiss/store/Pairs$Form" "before" "[B" (.ref bb) ∧ BA Z h bv vh ∧ BA Z h ba (own_esc kt ++ [0, 0] ++ vh) ∧ BA Z h bb (own_esc kh)
set_option maxRecDepth 65536 in
set_option maxHeartbeats 40000000 in
theorem rmF (l : Launch) (Z : State) (a0 : Array Value) (hw : ∀ d ∈ tables_1, d.before a0 Z = true) (ws : List Jvm.Cond) (a1 : Addr) (a2 : Addr) (a3 : Addr) (a4 : Addr) (nv : Addr) (kh kt vh : List Int32) (h0 : Heap) (n0 : Nat) (Z0 : n0 ≤ h0.size) (E_a1 : Exa Z h0 a1 "com/example/gneiss/gneiss/store/Pairs$Form") (F_a1_keyHead : Fld Z h0 a1 "com/example/gneiss/gneiss/store/Pairs$Form" "keyHead" "[B" .null) (F_a1_keyTail : Fld Z h0 a1 "com/example/gneiss/gneiss/store/Pairs$Form" "keyTail" "[B" .null) (F_a1_valueHead : Fld Z h0 a1 "com/example/gneiss/gneiss/store/Pairs$Form" "valueHead" "[B" .null) (F_a1_before : Fld Z h0 a1 "com/example/gneiss/gneiss/store/Pairs$Form" "before" "[B" .null) (F_a1_after : Fld Z h0 a1 "com/example/gneiss/gneiss/store/Pairs$Form" "after" "[B" .null) (V_a2 : BA Z h0 a2 kh) (V_a3 : BA Z h0 a3 kt) (V_a4 : BA Z h0 a4 vh) (S_nv : SN Z n0 h0 "com/example/gneiss/gneiss/store/Pairs" "NO_VALUE" "[B" (.ref nv)) (V_nv : BA Z h0 nv []) (hkh : kh.length ≤ 2) (hkt : kt.length ≤ 2) (hvh : vh.length ≤ 2) (g_a1 : n0 ≤ a1) (ne12 : a1 ≠ a2) (ne13 : a1 ≠ a3) (ne14 : a1 ≠ a4) (ne1n : a1 ≠ nv) :
    MetFree l (⟨"com/example/gneiss/gneiss/store/Pairs$Form", "<init>", "([B[B[B)V"⟩ : MethodName) (head1 (Jvm.Cond.code (⟨"com/example/gneiss/gneiss/store/Pairs$Form", "<init>", "([B[B[B)V"⟩ : MethodName) prog_122_method_1_code 5 none :: ws) ({ frames := 3, cells := 6, slots := 102, locals := 67 } : Room)) (fun a U => a = #[(.ref a1), (.ref a2), (.ref a3), (.ref a4)] ∧ Z.Warmed39 U.vm ∧ U.heap = h0) (fun _ _ _ _ _ => True) (fun _ U o U' => ∃ v L, o = .returned v ∧ QF Z a1 kh kt vh h0 n0 v U'.heap L ∧ FrameEnd U o U' L ({ frames := 3, cells := 6, slots := 102, locals := 67 } : Room).cells ({ frames := 3, cells := 6, slots := 102, locals := 67 } : Room).slots) := by
  refine MetFree.of_bodySF (plainFor_of_name pn_4) hisR ?_
  intro p e s m args below meth c s₁ Bd hml0 hP hK
  obtain ⟨rfl, hZ, hh⟩ := hP
  have hx := Bd.exec
  have hby := Bd.bytes
  have hml : c.maxLocals = 5 := hml0
  have hown : s.vm.findClass "com/example/gneiss/gneiss/store/Pairs$Form" = some m.cls := findClass_of_methodNamed Bd.named
  have hnm := (name_of_methodNamed Bd.named Bd.method).1
  have X0 : Stand p l e ({ frames := 3, cells := 6, slots := 102, locals := 67 } : Room) s m #[(.ref a1), (.ref a2), (.ref a3), (.ref a4)] below meth c s₁ [] 0 0 := Stand.of_body Bd
  have e0 : s₁.heap = h0 := by rw [← hh, Bd.state]; rfl
  have N0 := Fr.nil n0
  obtain ⟨G, hG, pr0⟩ : ∃ G : State → Prop, (∀ t, G t → Steps p.tables e below (s₁.setTop (entryFrame m #[(.ref a1), (.ref a2), (.ref a3), (.ref a4)] 5)) t) ∧ (∀ t, Steps p.tables e below (s₁.setTop (mkF m 0 #[.val (.ref a1), .val (.ref a2), .val (.ref a3), .val (.ref a4), .unset] [])) t → G t) := ⟨_, fun _ k => k, fun t ks => castTop (ef_rmF m a1 a2 a3 a4) ks⟩
  have K0 : Keep h0 h0 [a1] := Keep.refl _ _
  have pr118 : ∀ t, Steps p.tables e below (s₁.setTop (mkF m 1 #[.val (.ref a1), .val (.ref a2), .val (.ref a3), .val (.ref a4), .unset] [(.ref a1)])) t → G t := fun t ks => pr0 t (by
      refine XS.aloadN X0.here hx rfl (hb hby d5_0) rfl rfl ?_
      exact ks)
  obtain ⟨T119, X119, e119, st119⟩ := initO X0 hx hZ hown (hw _ (List.mem_of_getElem? (i := 20) rfl)) (hw _ (List.mem_of_getElem? (i := 21) rfl)) (hw _ (List.mem_of_getElem? (i := 22) rfl)) e0 (g := (mkF m 1 #[.val (.ref a1), .val (.ref a2), .val (.ref a3), .val (.ref a4), .unset] [(.ref a1)])) rfl (by rw [hml]; rfl) rfl (hb hby d5_1) (by decide) (W := 0) (by show 2 * 0 + _ ≤ _; exact Nat.le_of_eq rfl) (by decide)
  have pr120 : ∀ t, Steps p.tables e below (T119.setTop (mkF m 4 #[.val (.ref a1), .val (.ref a2), .val (.ref a3), .val (.ref a4), .unset] [])) t → G t := fun t ks => pr118 t (st119 t ks)
  have pr121 : ∀ t, Steps p.tables e below (T119.setTop (mkF m 6 #[.val (.ref a1), .val (.ref a2), .val (.ref a3), .val (.ref a4), .unset] [(.ref a2), (.ref a1)])) t → G t := fun t ks => pr120 t (by
      refine XS.aloadN X119.here hx rfl (hb hby d5_4) rfl rfl ?_
      refine XS.aloadN X119.here hx rfl (hb hby d5_5) rfl rfl ?_
      exact ks)
  obtain ⟨T122, h122, X122, e122, E122, A122, st122⟩ := ba_clone X119 hx hZ hown (hw _ (List.mem_of_getElem? (i := 23) rfl)) (hw _ (List.mem_of_getElem? (i := 24) rfl)) (hw _ (List.mem_of_getElem? (i := 28) rfl)) (hw _ (List.mem_of_getElem? (i := 26) rfl)) (hw _ (List.mem_of_getElem? (i := 27) rfl)) (hw _ (List.mem_of_getElem? (i := 29) rfl)) e119 V_a2 (g := (mkF m 6 #[.val (.ref a1), .val (.ref a2), .val (.ref a3), .val (.ref a4), .unset] [(.ref a2), (.ref a1)])) rfl (by rw [hml]; rfl) rfl (hb hby d5_6) (by decide) (W := 1) (cap := 2) (by show 2 * 0 + _ ≤ _; exact Nat.le_of_eq rfl) (by decide) hkh (by decide) (by decide)
  obtain ⟨c0, g122⟩ : ∃ z, z = h0.size := ⟨_, rfl⟩
  rw [← g122] at A122 st122
  have ne_a1_c0 : a1 ≠ c0 := Nat.ne_of_lt (Nat.lt_of_lt_of_le E_a1.lt (Nat.le_of_eq g122.symm))
  have ne_a2_c0 : a2 ≠ c0 := Nat.ne_of_lt (Nat.lt_of_lt_of_le V_a2.lt (Nat.le_of_eq g122.symm))
  have ne_a3_c0 : a3 ≠ c0 := Nat.ne_of_lt (Nat.lt_of_lt_of_le V_a3.lt (Nat.le_of_eq g122.symm))
  have ne_a4_c0 : a4 ≠ c0 := Nat.ne_of_lt (Nat.lt_of_lt_of_le V_a4.lt (Nat.le_of_eq g122.symm))
  have ne_nv_c0 : nv ≠ c0 := Nat.ne_of_lt (Nat.lt_of_lt_of_le V_nv.lt (Nat.le_of_eq g122.symm))
  have g_c0 : n0 ≤ c0 := Nat.le_trans Z0 (Nat.le_of_eq g122.symm)
  have sz_c0 : h0.size ≤ c0 := Nat.le_trans K0.1 (Nat.le_of_eq g122.symm)
  replace E_a1 := E_a1.ext E122
  replace F_a1_keyHead := F_a1_keyHead.ext E122
  replace F_a1_keyTail := F_a1_keyTail.ext E122
  replace F_a1_valueHead := F_a1_valueHead.ext E122
  replace F_a1_before := F_a1_before.ext E122
  replace F_a1_after := F_a1_after.ext E122
  replace V_a2 := V_a2.ext E122
  replace V_a3 := V_a3.ext E122
  replace V_a4 := V_a4.ext E122
  replace V_nv := V_nv.ext E122
  replace S_nv := S_nv.ext E122
  have V_c0 := A122
  have Z122 : n0 ≤ h122.size := Nat.le_trans Z0 E122.1
  have K122 := K0.ext E122
  have pr123 : ∀ t, Steps p.tables e below (T122.setTop (mkF m 9 #[.val (.ref a1), .val (.ref a2), .val (.ref a3), .val (.ref a4), .unset] [(.ref c0), (.ref a1)])) t → G t := fun t ks => pr121 t (st122 t ks)
  obtain ⟨T124, X124, e124, st124⟩ := castY X122 hx hZ hown (hw _ (List.mem_of_getElem? (i := 30) rfl)) e122 (Ins.self V_c0.2.1) (g := (mkF m 9 #[.val (.ref a1), .val (.ref a2), .val (.ref a3), .val (.ref a4), .unset] [(.ref c0), (.ref a1)])) rfl rfl (hb hby d5_9)
  have pr125 : ∀ t, Steps p.tables e below (T124.setTop (mkF m 12 #[.val (.ref a1), .val (.ref a2), .val (.ref a3), .val (.ref a4), .unset] [(.ref c0), (.ref a1)])) t → G t := fun t ks => pr123 t (st124 t ks)
  obtain ⟨T126, h126, X126, e126, W126, st126⟩ := putF X124 hx hZ hown (host := "") (Or.inl (hw _ (List.mem_of_getElem? (i := 32) rfl))) Via.refl e124 F_a1_keyHead E_a1 (Or.inr ⟨(hw _ (List.mem_of_getElem? (i := 33) rfl)), rfl, hnm⟩) (hw _ (List.mem_of_getElem? (i := 15) rfl)) (ty := (.array .byte)) (by decide) rfl rfl (g := (mkF m 12 #[.val (.ref a1), .val (.ref a2), .val (.ref a3), .val (.ref a4), .unset] [(.ref c0), (.ref a1)])) rfl rfl (hb hby d5_12)
  replace F_a1_keyHead := F_a1_keyHead.same W126
  replace E_a1 := E_a1.wr W126
  replace F_a1_keyTail := F_a1_keyTail.other W126 (Or.inr (slot_ne (Or.inr (hw _ (List.mem_of_getElem? (i := 35) rfl))) (Or.inr (hw _ (List.mem_of_getElem? (i := 33) rfl))) (by decide) (t := (.array .byte)) (t' := (.array .byte)) (by decide) (by decide)))
  replace F_a1_valueHead := F_a1_valueHead.other W126 (Or.inr (slot_ne (Or.inr (hw _ (List.mem_of_getElem? (i := 37) rfl))) (Or.inr (hw _ (List.mem_of_getElem? (i := 33) rfl))) (by decide) (t := (.array .byte)) (t' := (.array .byte)) (by decide) (by decide)))
  replace F_a1_before := F_a1_before.other W126 (Or.inr (slot_ne (Or.inr (hw _ (List.mem_of_getElem? (i := 68) rfl))) (Or.inr (hw _ (List.mem_of_getElem? (i := 33) rfl))) (by decide) (t := (.array .byte)) (t' := (.array .byte)) (by decide) (by decide)))
  replace F_a1_after := F_a1_after.other W126 (Or.inr (slot_ne (Or.inr (hw _ (List.mem_of_getElem? (i := 71) rfl))) (Or.inr (hw _ (List.mem_of_getElem? (i := 33) rfl))) (by decide) (t := (.array .byte)) (t' := (.array .byte)) (by decide) (by decide)))
  replace V_a2 := V_a2.other W126 (Ne.symm ne12)
  replace V_a3 := V_a3.other W126 (Ne.symm ne13)
  replace V_a4 := V_a4.other W126 (Ne.symm ne14)
  replace V_nv := V_nv.other W126 (Ne.symm ne1n)
  replace S_nv := S_nv.wr W126
  replace V_c0 := V_c0.other W126 (Ne.symm ne_a1_c0)
  have N126 := Fr.snoc X126 N0 g_a1
  have Z126 : n0 ≤ h126.size := Nat.le_trans Z122 (Keep.of_wr W126).1
  have K126 := K122.wr W126 (Or.inl (List.mem_of_getElem? (i := 0) rfl))
  have pr127 : ∀ t, Steps p.tables e below (T126.setTop (mkF m 15 #[.val (.ref a1), .val (.ref a2), .val (.ref a3), .val (.ref a4), .unset] [])) t → G t := fun t ks => pr125 t (st126 t ks)
  have pr128 : ∀ t, Steps p.tables e below (T126.setTop (mkF m 17 #[.val (.ref a1), .val (.ref a2), .val (.ref a3), .val (.ref a4), .unset] [(.ref a3), (.ref a1)])) t → G t := fun t ks => pr127 t (by
      refine XS.aloadN X126.here hx rfl (hb hby d5_15) rfl rfl ?_
      refine XS.aloadN X126.here hx rfl (hb hby d5_16) rfl rfl ?_
      exact ks)
  obtain ⟨T129, h129, X129, e129, E129, A129, st129⟩ := ba_clone X126 hx hZ hown (hw _ (List.mem_of_getElem? (i := 23) rfl)) (hw _ (List.mem_of_getElem? (i := 24) rfl)) (hw _ (List.mem_of_getElem? (i := 28) rfl)) (hw _ (List.mem_of_getElem? (i := 26) rfl)) (hw _ (List.mem_of_getElem? (i := 27) rfl)) (hw _ (List.mem_of_getElem? (i := 29) rfl)) e126 V_a3 (g := (mkF m 17 #[.val (.ref a1), .val (.ref a2), .val (.ref a3), .val (.ref a4), .unset] [(.ref a3), (.ref a1)])) rfl (by rw [hml]; rfl) rfl (hb hby d5_17) (by decide) (W := 1) (cap := 2) (by show 2 * 0 + _ ≤ _; exact Nat.le_of_eq rfl) (by decide) hkt (by decide) (by decide)
  obtain ⟨c1, g129⟩ : ∃ z, z = h126.size := ⟨_, rfl⟩
  rw [← g129] at A129 st129
  have ne_a1_c1 : a1 ≠ c1 := Nat.ne_of_lt (Nat.lt_of_lt_of_le E_a1.lt (Nat.le_of_eq g129.symm))
  have ne_a2_c1 : a2 ≠ c1 := Nat.ne_of_lt (Nat.lt_of_lt_of_le V_a2.lt (Nat.le_of_eq g129.symm))
  have ne_a3_c1 : a3 ≠ c1 := Nat.ne_of_lt (Nat.lt_of_lt_of_le V_a3.lt (Nat.le_of_eq g129.symm))
  have ne_a4_c1 : a4 ≠ c1 := Nat.ne_of_lt (Nat.lt_of_lt_of_le V_a4.lt (Nat.le_of_eq g129.symm))
  have ne_nv_c1 : nv ≠ c1 := Nat.ne_of_lt (Nat.lt_of_lt_of_le V_nv.lt (Nat.le_of_eq g129.symm))
  have ne_c0_c1 : c0 ≠ c1 := Nat.ne_of_lt (Nat.lt_of_lt_of_le V_c0.lt (Nat.le_of_eq g129.symm))
  have g_c1 : n0 ≤ c1 := Nat.le_trans Z126 (Nat.le_of_eq g129.symm)
  have sz_c1 : h0.size ≤ c1 := Nat.le_trans K126.1 (Nat.le_of_eq g129.symm)
  replace E_a1 := E_a1.ext E129
  replace F_a1_keyHead := F_a1_keyHead.ext E129
  replace F_a1_keyTail := F_a1_keyTail.ext E129
  replace F_a1_valueHead := F_a1_valueHead.ext E129
  replace F_a1_before := F_a1_before.ext E129
  replace F_a1_after := F_a1_after.ext E129
  replace V_a2 := V_a2.ext E129
  replace V_a3 := V_a3.ext E129
  replace V_a4 := V_a4.ext E129
  replace V_nv := V_nv.ext E129
  replace S_nv := S_nv.ext E129
  replace V_c0 := V_c0.ext E129
  have V_c1 := A129
  have Z129 : n0 ≤ h129.size := Nat.le_trans Z126 E129.1
  have K129 := K126.ext E129
  have pr130 : ∀ t, Steps p.tables e below (T129.setTop (mkF m 20 #[.val (.ref a1), .val (.ref a2), .val (.ref a3), .val (.ref a4), .unset] [(.ref c1), (.ref a1)])) t → G t := fun t ks => pr128 t (st129 t ks)
  obtain ⟨T131, X131, e131, st131⟩ := castY X129 hx hZ hown (hw _ (List.mem_of_getElem? (i := 30) rfl)) e129 (Ins.self V_c1.2.1) (g := (mkF m 20 #[.val (.ref a1), .val (.ref a2), .val (.ref a3), .val (.ref a4), .unset] [(.ref c1), (.ref a1)])) rfl rfl (hb hby d5_20)
  have pr132 : ∀ t, Steps p.tables e below (T131.setTop (mkF m 23 #[.val (.ref a1), .val (.ref a2), .val (.ref a3), .val (.ref a4), .unset] [(.ref c1), (.ref a1)])) t → G t := fun t ks => pr130 t (st131 t ks)
  obtain ⟨T133, h133, X133, e133, W133, st133⟩ := putF X131 hx hZ hown (host := "") (Or.inl (hw _ (List.mem_of_getElem? (i := 34) rfl))) Via.refl e131 F_a1_keyTail E_a1 (Or.inr ⟨(hw _ (List.mem_of_getElem? (i := 35) rfl)), rfl, hnm⟩) (hw _ (List.mem_of_getElem? (i := 15) rfl)) (ty := (.array .byte)) (by decide) rfl rfl (g := (mkF m 23 #[.val (.ref a1), .val (.ref a2), .val (.ref a3), .val (.ref a4), .unset] [(.ref c1), (.ref a1)])) rfl rfl (hb hby d5_23)
  replace F_a1_keyTail := F_a1_keyTail.same W133
  replace E_a1 := E_a1.wr W133
  replace F_a1_keyHead := F_a1_keyHead.other W133 (Or.inr (slot_ne (Or.inr (hw _ (List.mem_of_getElem? (i := 33) rfl))) (Or.inr (hw _ (List.mem_of_getElem? (i := 35) rfl))) (by decide) (t := (.array .byte)) (t' := (.array .byte)) (by decide) (by decide)))
  replace F_a1_valueHead := F_a1_valueHead.other W133 (Or.inr (slot_ne (Or.inr (hw _ (List.mem_of_getElem? (i := 37) rfl))) (Or.inr (hw _ (List.mem_of_getElem? (i := 35) rfl))) (by decide) (t := (.array .byte)) (t' := (.array .byte)) (by decide) (by decide)))
  replace F_a1_before := F_a1_before.other W133 (Or.inr (slot_ne (Or.inr (hw _ (List.mem_of_getElem? (i := 68) rfl))) (Or.inr (hw _ (List.mem_of_getElem? (i := 35) rfl))) (by decide) (t := (.array .byte)) (t' := (.array .byte)) (by decide) (by decide)))
  replace F_a1_after := F_a1_after.other W133 (Or.inr (slot_ne (Or.inr (hw _ (List.mem_of_getElem? (i := 71) rfl))) (Or.inr (hw _ (List.mem_of_getElem? (i := 35) rfl))) (by decide) (t := (.array .byte)) (t' := (.array .byte)) (by decide) (by decide)))
  replace V_a2 := V_a2.other W133 (Ne.symm ne12)
  replace V_a3 := V_a3.other W133 (Ne.symm ne13)
  replace V_a4 := V_a4.other W133 (Ne.symm ne14)
  replace V_nv := V_nv.other W133 (Ne.symm ne1n)
  replace S_nv := S_nv.wr W133
  replace V_c0 := V_c0.other W133 (Ne.symm ne_a1_c0)
  replace V_c1 := V_c1.other W133 (Ne.symm ne_a1_c1)
  have N133 := Fr.snoc X133 N126 g_a1
  have Z133 : n0 ≤ h133.size := Nat.le_trans Z129 (Keep.of_wr W133).1
  have K133 := K129.wr W133 (Or.inl (List.mem_of_getElem? (i := 0) rfl))
  have pr134 : ∀ t, Steps p.tables e below (T133.setTop (mkF m 26 #[.val (.ref a1), .val (.ref a2), .val (.ref a3), .val (.ref a4), .unset] [])) t → G t := fun t ks => pr132 t (st133 t ks)
  have pr135 : ∀ t, Steps p.tables e below (T133.setTop (mkF m 28 #[.val (.ref a1), .val (.ref a2), .val (.ref a3), .val (.ref a4), .unset] [(.ref a4), (.ref a1)])) t → G t := fun t ks => pr134 t (by
      refine XS.aloadN X133.here hx rfl (hb hby d5_26) rfl rfl ?_
      refine XS.aloadN X133.here hx rfl (hb hby d5_27) rfl rfl ?_
      exact ks)
  obtain ⟨T136, h136, X136, e136, E136, A136, st136⟩ := ba_clone X133 hx hZ hown (hw _ (List.mem_of_getElem? (i := 23) rfl)) (hw _ (List.mem_of_getElem? (i := 24) rfl)) (hw _ (List.mem_of_getElem? (i := 28) rfl)) (hw _ (List.mem_of_getElem? (i := 26) rfl)) (hw _ (List.mem_of_getElem? (i := 27) rfl)) (hw _ (List.mem_of_getElem? (i := 29) rfl)) e133 V_a4 (g := (mkF m 28 #[.val (.ref a1), .val (.ref a2), .val (.ref a3), .val (.ref a4), .unset] [(.ref a4), (.ref a1)])) rfl (by rw [hml]; rfl) rfl (hb hby d5_28) (by decide) (W := 1) (cap := 2) (by show 2 * 0 + _ ≤ _; exact Nat.le_of_eq rfl) (by decide) hvh (by decide) (by decide)
  obtain ⟨c2, g136⟩ : ∃ z, z = h133.size := ⟨_, rfl⟩
  rw [← g136] at A136 st136
  have ne_a1_c2 : a1 ≠ c2 := Nat.ne_of_lt (Nat.lt_of_lt_of_le E_a1.lt (Nat.le_of_eq g136.symm))
  have ne_a2_c2 : a2 ≠ c2 := Nat.ne_of_lt (Nat.lt_of_lt_of_le V_a2.lt (Nat.le_of_eq g136.symm))
  have ne_a3_c2 : a3 ≠ c2 := Nat.ne_of_lt (Nat.lt_of_lt_of_le V_a3.lt (Nat.le_of_eq g136.symm))
  have ne_a4_c2 : a4 ≠ c2 := Nat.ne_of_lt (Nat.lt_of_lt_of_le V_a4.lt (Nat.le_of_eq g136.symm))
  have ne_nv_c2 : nv ≠ c2 := Nat.ne_of_lt (Nat.lt_of_lt_of_le V_nv.lt (Nat.le_of_eq g136.symm))
  have ne_c0_c2 : c0 ≠ c2 := Nat.ne_of_lt (Nat.lt_of_lt_of_le V_c0.lt (Nat.le_of_eq g136.symm))
  have ne_c1_c2 : c1 ≠ c2 := Nat.ne_of_lt (Nat.lt_of_lt_of_le V_c1.lt (Nat.le_of_eq g136.symm))
  have g_c2 : n0 ≤ c2 := Nat.le_trans Z133 (Nat.le_of_eq g136.symm)
  have sz_c2 : h0.size ≤ c2 := Nat.le_trans K133.1 (Nat.le_of_eq g136.symm)
  replace E_a1 := E_a1.ext E136
  replace F_a1_keyHead := F_a1_keyHead.ext E136
  replace F_a1_keyTail := F_a1_keyTail.ext E136
  replace F_a1_valueHead := F_a1_valueHead.ext E136
  replace F_a1_before := F_a1_before.ext E136
  replace F_a1_after := F_a1_after.ext E136
  replace V_a2 := V_a2.ext E136
  replace V_a3 := V_a3.ext E136
  replace V_a4 := V_a4.ext E136
  replace V_nv := V_nv.ext E136
  replace S_nv := S_nv.ext E136
  replace V_c0 := V_c0.ext E136
  replace V_c1 := V_c1.ext E136
  have V_c2 := A136
  have Z136 : n0 ≤ h136.size := Nat.le_trans Z133 E136.1
  have K136 := K133.ext E136
  have pr137 : ∀ t, Steps p.tables e below (T136.setTop (mkF m 31 #[.val (.ref a1), .val (.ref a2), .val (.ref a3), .val (.ref a4), .unset] [(.ref c2), (.ref a1)])) t → G t := fun t ks => pr135 t (st136 t ks)
  obtain ⟨T138, X138, e138, st138⟩ := castY X136 hx hZ hown (hw _ (List.mem_of_getElem? (i := 30) rfl)) e136 (Ins.self V_c2.2.1) (g := (mkF m 31 #[.val (.ref a1), .val (.ref a2), .val (.ref a3), .val (.ref a4), .unset] [(.ref c2), (.ref a1)])) rfl rfl (hb hby d5_31)
  have pr139 : ∀ t, Steps p.tables e below (T138.setTop (mkF m 34 #[.val (.ref a1), .val (.ref a2), .val (.ref a3), .val (.ref a4), .unset] [(.ref c2), (.ref a1)])) t → G t := fun t ks => pr137 t (st138 t ks)
  obtain ⟨T140, h140, X140, e140, W140, st140⟩ := putF X138 hx hZ hown (host := "") (Or.inl (hw _ (List.mem_of_getElem? (i := 36) rfl))) Via.refl e138 F_a1_valueHead E_a1 (Or.inr ⟨(hw _ (List.mem_of_getElem? (i := 37) rfl)), rfl, hnm⟩) (hw _ (List.mem_of_getElem? (i := 15) rfl)) (ty := (.array .byte)) (by decide) rfl rfl (g := (mkF m 34 #[.val (.ref a1), .val (.ref a2), .val (.ref a3), .val (.ref a4), .unset] [(.ref c2), (.ref a1)])) rfl rfl (hb hby d5_34)
  replace F_a1_valueHead := F_a1_valueHead.same W140
  replace E_a1 := E_a1.wr W140
  replace F_a1_keyHead := F_a1_keyHead.other W140 (Or.inr (slot_ne (Or.inr (hw _ (List.mem_of_getElem? (i := 33) rfl))) (Or.inr (hw _ (List.mem_of_getElem? (i := 37) rfl))) (by decide) (t := (.array .byte)) (t' := (.array .byte)) (by decide) (by decide)))
  replace F_a1_keyTail := F_a1_keyTail.other W140 (Or.inr (slot_ne (Or.inr (hw _ (List.mem_of_getElem? (i := 35) rfl))) (Or.inr (hw _ (List.mem_of_getElem? (i := 37) rfl))) (by decide) (t := (.array .byte)) (t' := (.array .byte)) (by decide) (by decide)))
  replace F_a1_before := F_a1_before.other W140 (Or.inr (slot_ne (Or.inr (hw _ (List.mem_of_getElem? (i := 68) rfl))) (Or.inr (hw _ (List.mem_of_getElem? (i := 37) rfl))) (by decide) (t := (.array .byte)) (t' := (.array .byte)) (by decide) (by decide)))
  replace F_a1_after := F_a1_after.other W140 (Or.inr (slot_ne (Or.inr (hw _ (List.mem_of_getElem? (i := 71) rfl))) (Or.inr (hw _ (List.mem_of_getElem? (i := 37) rfl))) (by decide) (t := (.array .byte)) (t' := (.array .byte)) (by decide) (by decide)))
  replace V_a2 := V_a2.other W140 (Ne.symm ne12)
  replace V_a3 := V_a3.other W140 (Ne.symm ne13)
  replace V_a4 := V_a4.other W140 (Ne.symm ne14)
  replace V_nv := V_nv.other W140 (Ne.symm ne1n)
  replace S_nv := S_nv.wr W140
  replace V_c0 := V_c0.other W140 (Ne.symm ne_a1_c0)
  replace V_c1 := V_c1.other W140 (Ne.symm ne_a1_c1)
  replace V_c2 := V_c2.other W140 (Ne.symm ne_a1_c2)
  have N140 := Fr.snoc X140 N133 g_a1
  have Z140 : n0 ≤ h140.size := Nat.le_trans Z136 (Keep.of_wr W140).1
  have K140 := K136.wr W140 (Or.inl (List.mem_of_getElem? (i := 0) rfl))
  have pr141 : ∀ t, Steps p.tables e below (T140.setTop (mkF m 37 #[.val (.ref a1), .val (.ref a2), .val (.ref a3), .val (.ref a4), .unset] [])) t → G t := fun t ks => pr139 t (st140 t ks)
  have pr142 : ∀ t, Steps p.tables e below (T140.setTop (mkF m 38 #[.val (.ref a1), .val (.ref a2), .val (.ref a3), .val (.ref a4), .unset] [(.ref a2)])) t → G t := fun t ks => pr141 t (by
      refine XS.aloadN X140.here hx rfl (hb hby d5_37) rfl rfl ?_
      exact ks)
  obtain ⟨_, _, ⟨T143, L143, k143, n143⟩, -, X143, hP143, st143⟩ := Jvm.LawKit.callS X140 hx (y := (⟨"com/example/gneiss/gneiss/store/Pairs", "first", "([B)[B"⟩ : MethodName)) hown (mvT hZ (hw _ (List.mem_of_getElem? (i := 38) rfl))) (mvT hZ (hw _ (List.mem_of_getElem? (i := 39) rfl))) (mvT hZ (hw _ (List.mem_of_getElem? (i := 40) rfl))) (mvT hZ (hw _ (List.mem_of_getElem? (i := 41) rfl))) (by decide) (backOf (W := 0) (rmI l Z a0 hw [] a2 nv kh h140 n0 Z140 V_a2 S_nv V_nv (by omega)) hZ (hw _ (List.mem_of_getElem? (i := 41) rfl)) (hw _ (List.mem_of_getElem? (i := 40) rfl)) (by decide) (by decide)) (g := (mkF m 38 #[.val (.ref a1), .val (.ref a2), .val (.ref a3), .val (.ref a4), .unset] [(.ref a2)])) rfl (by rw [hml]; rfl) (argsL := [(.ref a2)]) (rest := []) (lenOf pd_5 rfl) rfl (by show 2 * 0 + _ ≤ _; exact Nat.le_of_eq rfl) (hb hby d5_38) (fun _ _ => ⟨rfl, e140, (by decide : 3 + 1 ≤ _), (by decide : 6 + 36 ≤ _)⟩)
  obtain ⟨Lc143, hQ143, X143⟩ := own_out hP143 X143
  clear hP143
  dsimp only [Pt.U, Pt.locs, Pt.cells, Pt.slots] at X143 st143 hQ143
  obtain ⟨d1, rfl, Nq143, Kq143, g_d1, szq_d1, V_d1⟩ := hQ143
  have ne_a1_d1 : a1 ≠ d1 := Nat.ne_of_lt (Nat.lt_of_lt_of_le E_a1.lt szq_d1)
  have ne_a2_d1 : a2 ≠ d1 := Nat.ne_of_lt (Nat.lt_of_lt_of_le V_a2.lt szq_d1)
  have ne_a3_d1 : a3 ≠ d1 := Nat.ne_of_lt (Nat.lt_of_lt_of_le V_a3.lt szq_d1)
  have ne_a4_d1 : a4 ≠ d1 := Nat.ne_of_lt (Nat.lt_of_lt_of_le V_a4.lt szq_d1)
  have ne_nv_d1 : nv ≠ d1 := Nat.ne_of_lt (Nat.lt_of_lt_of_le V_nv.lt szq_d1)
  have ne_c0_d1 : c0 ≠ d1 := Nat.ne_of_lt (Nat.lt_of_lt_of_le V_c0.lt szq_d1)
  have ne_c1_d1 : c1 ≠ d1 := Nat.ne_of_lt (Nat.lt_of_lt_of_le V_c1.lt szq_d1)
  have ne_c2_d1 : c2 ≠ d1 := Nat.ne_of_lt (Nat.lt_of_lt_of_le V_c2.lt szq_d1)
  have sz_d1 : h0.size ≤ d1 := Nat.le_trans K140.1 szq_d1
  replace E_a1 := E_a1.keep Kq143
  replace F_a1_keyHead := F_a1_keyHead.keep Kq143 nin0
  replace F_a1_keyTail := F_a1_keyTail.keep Kq143 nin0
  replace F_a1_valueHead := F_a1_valueHead.keep Kq143 nin0
  replace F_a1_before := F_a1_before.keep Kq143 nin0
  replace F_a1_after := F_a1_after.keep Kq143 nin0
  replace V_a2 := V_a2.keep Kq143 nin0
  replace V_a3 := V_a3.keep Kq143 nin0
  replace V_a4 := V_a4.keep Kq143 nin0
  replace V_nv := V_nv.keep Kq143 nin0
  replace S_nv := S_nv.keep Kq143 all0
  replace V_c0 := V_c0.keep Kq143 nin0
  replace V_c1 := V_c1.keep Kq143 nin0
  replace V_c2 := V_c2.keep Kq143 nin0
  have Z143 : n0 ≤ T143.heap.size := Nat.le_trans Z140 Kq143.1
  have K143 := K140.trans Kq143 all0
  have N143 := Fr.app N140 Nq143
  have pr144 : ∀ t, Steps p.tables e below (T143.setTop (mkF m 41 #[.val (.ref a1), .val (.ref a2), .val (.ref a3), .val (.ref a4), .unset] [(.ref d1)])) t → G t := fun t ks => pr142 t (st143 t ks)
  have pr145 : ∀ t, Steps p.tables e below (T143.setTop (mkF m 51 #[.val (.ref a1), .val (.ref a2), .val (.ref a3), .val (.ref a4), .val (.ref d1)] [(.int ((Int32.ofNat (own_esc kh ++ [0, 0] ++ []).length) - (2 : Int32))), (.ref d1), (.ref a1)])) t → G t := fun t ks => pr144 t (by
      refine XS.astore X143.here hx rfl (hb hby d5_41) rfl rfl (l' := #[.val (.ref a1), .val (.ref a2), .val (.ref a3), .val (.ref a4), .val (.ref d1)]) rfl ?_
      refine XS.aloadN X143.here hx rfl (hb hby d5_43) rfl rfl ?_
      refine XS.aload X143.here hx rfl (hb hby d5_44) rfl rfl ?_
      refine XS.aload X143.here hx rfl (hb hby d5_46) rfl rfl ?_
      refine ba_len X143 hx hZ rfl V_d1 (g := (mkF m 48 #[.val (.ref a1), .val (.ref a2), .val (.ref a3), .val (.ref a4), .val (.ref d1)] [(.ref d1), (.ref d1), (.ref a1)])) rfl rfl (hb hby d5_48) _ ?_
      refine XS.iconst X143.here hx rfl (hb hby d5_49) ?_
      refine XS.isub X143.here hx rfl (hb hby d5_50) rfl ?_
      exact ks)
  have hel := own_esc_len kh
  have hl1 : (own_esc kh ++ [0, 0] ++ []).length = (own_esc kh).length + 2 := by simp
  have hs2 : Int32.ofNat (own_esc kh ++ [0, 0] ++ []).length - (2 : Int32) = Int32.ofNat (own_esc kh).length := by rw [hl1]; exact own_subN (a := (own_esc kh).length + 2) (b := 2) (by omega) (by omega)
  rw [hs2] at pr145
  obtain ⟨_, _, ⟨T146, L146, k146, n146⟩, -, X146, hP146, st146⟩ := Jvm.LawKit.callS X143 hx (y := (⟨"java/util/Arrays", "copyOf", "([BI)[B"⟩ : MethodName)) hown (mvT hZ (hw _ (List.mem_of_getElem? (i := 58) rfl))) (mvT hZ (hw _ (List.mem_of_getElem? (i := 59) rfl))) (mvT hZ (hw _ (List.mem_of_getElem? (i := 60) rfl))) (mvT hZ (hw _ (List.mem_of_getElem? (i := 61) rfl))) (by decide) (backOf (W := 1) (rmC l Z a0 hw [] d1 (Int32.ofNat (own_esc kh).length) (own_esc kh ++ [0, 0] ++ []) (own_esc kh).length T143.heap n0 Z143 V_d1 rfl (by rw [hl1]; omega) (by omega) (by rw [hl1]; omega)) hZ (hw _ (List.mem_of_getElem? (i := 61) rfl)) (hw _ (List.mem_of_getElem? (i := 60) rfl)) (by decide) (by decide)) (g := (mkF m 51 #[.val (.ref a1), .val (.ref a2), .val (.ref a3), .val (.ref a4), .val (.ref d1)] [(.int (Int32.ofNat (own_esc kh).length)), (.ref d1), (.ref a1)])) rfl (by rw [hml]; rfl) (argsL := [(.ref d1), (.int (Int32.ofNat (own_esc kh).length))]) (rest := [(.ref a1)]) (lenOf pd_6 rfl) rfl (by show 2 * 0 + _ ≤ _; exact Nat.le_of_eq rfl) (hb hby d5_51) (fun _ _ => ⟨rfl, rfl, (by decide : 4 + 1 ≤ _), (by decide : 42 + 24 ≤ _)⟩)
  obtain ⟨Lc146, hQ146, X146⟩ := own_out hP146 X146
  clear hP146
  dsimp only [Pt.U, Pt.locs, Pt.cells, Pt.slots] at X146 st146 hQ146
  obtain ⟨d2, rfl, Nq146, Kq146, g_d2, szq_d2, V_d2⟩ := hQ146
  have ne_a1_d2 : a1 ≠ d2 := Nat.ne_of_lt (Nat.lt_of_lt_of_le E_a1.lt szq_d2)
  have ne_a2_d2 : a2 ≠ d2 := Nat.ne_of_lt (Nat.lt_of_lt_of_le V_a2.lt szq_d2)
  have ne_a3_d2 : a3 ≠ d2 := Nat.ne_of_lt (Nat.lt_of_lt_of_le V_a3.lt szq_d2)
  have ne_a4_d2 : a4 ≠ d2 := Nat.ne_of_lt (Nat.lt_of_lt_of_le V_a4.lt szq_d2)
  have ne_nv_d2 : nv ≠ d2 := Nat.ne_of_lt (Nat.lt_of_lt_of_le V_nv.lt szq_d2)
  have ne_c0_d2 : c0 ≠ d2 := Nat.ne_of_lt (Nat.lt_of_lt_of_le V_c0.lt szq_d2)
  have ne_c1_d2 : c1 ≠ d2 := Nat.ne_of_lt (Nat.lt_of_lt_of_le V_c1.lt szq_d2)
  have ne_c2_d2 : c2 ≠ d2 := Nat.ne_of_lt (Nat.lt_of_lt_of_le V_c2.lt szq_d2)
  have ne_d1_d2 : d1 ≠ d2 := Nat.ne_of_lt (Nat.lt_of_lt_of_le V_d1.lt szq_d2)
  have sz_d2 : h0.size ≤ d2 := Nat.le_trans K143.1 szq_d2
  replace E_a1 := E_a1.keep Kq146
  replace F_a1_keyHead := F_a1_keyHead.keep Kq146 nin0
  replace F_a1_keyTail := F_a1_keyTail.keep Kq146 nin0
  replace F_a1_valueHead := F_a1_valueHead.keep Kq146 nin0
  replace F_a1_before := F_a1_before.keep Kq146 nin0
  replace F_a1_after := F_a1_after.keep Kq146 nin0
  replace V_a2 := V_a2.keep Kq146 nin0
  replace V_a3 := V_a3.keep Kq146 nin0
  replace V_a4 := V_a4.keep Kq146 nin0
  replace V_nv := V_nv.keep Kq146 nin0
  replace S_nv := S_nv.keep Kq146 all0
  replace V_c0 := V_c0.keep Kq146 nin0
  replace V_c1 := V_c1.keep Kq146 nin0
  replace V_c2 := V_c2.keep Kq146 nin0
  replace V_d1 := V_d1.keep Kq146 nin0
  have Z146 : n0 ≤ T146.heap.size := Nat.le_trans Z143 Kq146.1
  have K146 := K143.trans Kq146 all0
  have N146 := Fr.app N143 Nq146
  have pr147 : ∀ t, Steps p.tables e below (T146.setTop (mkF m 54 #[.val (.ref a1), .val (.ref a2), .val (.ref a3), .val (.ref a4), .val (.ref d1)] [(.ref d2), (.ref a1)])) t → G t := fun t ks => pr145 t (st146 t ks)
  replace V_d2 := V_d2.eq (us := own_esc kh) (by simp)
  obtain ⟨T148, h148, X148, e148, W148, st148⟩ := putF X146 hx hZ hown (host := "") (Or.inl (hw _ (List.mem_of_getElem? (i := 67) rfl))) Via.refl rfl F_a1_before E_a1 (Or.inr ⟨(hw _ (List.mem_of_getElem? (i := 68) rfl)), rfl, hnm⟩) (hw _ (List.mem_of_getElem? (i := 15) rfl)) (ty := (.array .byte)) (by decide) rfl rfl (g := (mkF m 54 #[.val (.ref a1), .val (.ref a2), .val (.ref a3), .val (.ref a4), .val (.ref d1)] [(.ref d2), (.ref a1)])) rfl rfl (hb hby d5_54)
  replace F_a1_before := F_a1_before.same W148
  replace E_a1 := E_a1.wr W148
  replace F_a1_keyHead := F_a1_keyHead.other W148 (Or.inr (slot_ne (Or.inr (hw _ (List.mem_of_getElem? (i := 33) rfl))) (Or.inr (hw _ (List.mem_of_getElem? (i := 68) rfl))) (by decide) (t := (.array .byte)) (t' := (.array .byte)) (by decide) (by decide)))
  replace F_a1_keyTail := F_a1_keyTail.other W148 (Or.inr (slot_ne (Or.inr (hw _ (List.mem_of_getElem? (i := 35) rfl))) (Or.inr (hw _ (List.mem_of_getElem? (i := 68) rfl))) (by decide) (t := (.array .byte)) (t' := (.array .byte)) (by decide) (by decide)))
  replace F_a1_valueHead := F_a1_valueHead.other W148 (Or.inr (slot_ne (Or.inr (hw _ (List.mem_of_getElem? (i := 37) rfl))) (Or.inr (hw _ (List.mem_of_getElem? (i := 68) rfl))) (by decide) (t := (.array .byte)) (t' := (.array .byte)) (by decide) (by decide)))
  replace F_a1_after := F_a1_after.other W148 (Or.inr (slot_ne (Or.inr (hw _ (List.mem_of_getElem? (i := 71) rfl))) (Or.inr (hw _ (List.mem_of_getElem? (i := 68) rfl))) (by decide) (t := (.array .byte)) (t' := (.array .byte)) (by decide) (by decide)))
  replace V_a2 := V_a2.other W148 (Ne.symm ne12)
  replace V_a3 := V_a3.other W148 (Ne.symm ne13)
  replace V_a4 := V_a4.other W148 (Ne.symm ne14)
  replace V_nv := V_nv.other W148 (Ne.symm ne1n)
  replace S_nv := S_nv.wr W148
  replace V_c0 := V_c0.other W148 (Ne.symm ne_a1_c0)
  replace V_c1 := V_c1.other W148 (Ne.symm ne_a1_c1)
  replace V_c2 := V_c2.other W148 (Ne.symm ne_a1_c2)
  replace V_d1 := V_d1.other W148 (Ne.symm ne_a1_d1)
  replace V_d2 := V_d2.other W148 (Ne.symm ne_a1_d2)
  have N148 := Fr.snoc X148 N146 g_a1
  have Z148 : n0 ≤ h148.size := Nat.le_trans Z146 (Keep.of_wr W148).1
  have K148 := K146.wr W148 (Or.inl (List.mem_of_getElem? (i := 0) rfl))
  have pr149 : ∀ t, Steps p.tables e below (T148.setTop (mkF m 57 #[.val (.ref a1), .val (.ref a2), .val (.ref a3), .val (.ref a4), .val (.ref d1)] [])) t → G t := fun t ks => pr147 t (st148 t ks)
  have pr150 : ∀ t, Steps p.tables e below (T148.setTop (mkF m 60 #[.val (.ref a1), .val (.ref a2), .val (.ref a3), .val (.ref a4), .val (.ref d1)] [(.ref a4), (.ref a3), (.ref a1)])) t → G t := fun t ks => pr149 t (by
      refine XS.aloadN X148.here hx rfl (hb hby d5_57) rfl rfl ?_
      refine XS.aloadN X148.here hx rfl (hb hby d5_58) rfl rfl ?_
      refine XS.aloadN X148.here hx rfl (hb hby d5_59) rfl rfl ?_
      exact ks)
  obtain ⟨_, _, ⟨T151, L151, k151, n151⟩, -, X151, hP151, st151⟩ := Jvm.LawKit.callS X148 hx (y := (⟨"com/example/gneiss/gneiss/store/Pairs", "pair", "([B[B)[B"⟩ : MethodName)) hown (mvT hZ (hw _ (List.mem_of_getElem? (i := 69) rfl))) (mvT hZ (hw _ (List.mem_of_getElem? (i := 45) rfl))) (mvT hZ (hw _ (List.mem_of_getElem? (i := 40) rfl))) (mvT hZ (hw _ (List.mem_of_getElem? (i := 46) rfl))) (by decide) (backOf (W := 1) (rmA l Z a0 hw [] a3 a4 kt vh h148 n0 Z148 V_a3 V_a4 (by omega) (by omega)) hZ (hw _ (List.mem_of_getElem? (i := 46) rfl)) (hw _ (List.mem_of_getElem? (i := 40) rfl)) (by decide) (by decide)) (g := (mkF m 60 #[.val (.ref a1), .val (.ref a2), .val (.ref a3), .val (.ref a4), .val (.ref d1)] [(.ref a4), (.ref a3), (.ref a1)])) rfl (by rw [hml]; rfl) (argsL := [(.ref a3), (.ref a4)]) (rest := [(.ref a1)]) (lenOf pd_3 rfl) rfl (by show 2 * 0 + _ ≤ _; exact Nat.le_of_eq rfl) (hb hby d5_60) (fun _ _ => ⟨rfl, e148, (by decide : 5 + 1 ≤ _), (by decide : 66 + 36 ≤ _)⟩)
  obtain ⟨Lc151, hQ151, X151⟩ := own_out hP151 X151
  clear hP151
  dsimp only [Pt.U, Pt.locs, Pt.cells, Pt.slots] at X151 st151 hQ151
  obtain ⟨d3, rfl, Nq151, Kq151, g_d3, szq_d3, V_d3⟩ := hQ151
  have ne_a1_d3 : a1 ≠ d3 := Nat.ne_of_lt (Nat.lt_of_lt_of_le E_a1.lt szq_d3)
  have ne_a2_d3 : a2 ≠ d3 := Nat.ne_of_lt (Nat.lt_of_lt_of_le V_a2.lt szq_d3)
  have ne_a3_d3 : a3 ≠ d3 := Nat.ne_of_lt (Nat.lt_of_lt_of_le V_a3.lt szq_d3)
  have ne_a4_d3 : a4 ≠ d3 := Nat.ne_of_lt (Nat.lt_of_lt_of_le V_a4.lt szq_d3)
  have ne_nv_d3 : nv ≠ d3 := Nat.ne_of_lt (Nat.lt_of_lt_of_le V_nv.lt szq_d3)
  have ne_c0_d3 : c0 ≠ d3 := Nat.ne_of_lt (Nat.lt_of_lt_of_le V_c0.lt szq_d3)
  have ne_c1_d3 : c1 ≠ d3 := Nat.ne_of_lt (Nat.lt_of_lt_of_le V_c1.lt szq_d3)
  have ne_c2_d3 : c2 ≠ d3 := Nat.ne_of_lt (Nat.lt_of_lt_of_le V_c2.lt szq_d3)
  have ne_d1_d3 : d1 ≠ d3 := Nat.ne_of_lt (Nat.lt_of_lt_of_le V_d1.lt szq_d3)
  have ne_d2_d3 : d2 ≠ d3 := Nat.ne_of_lt (Nat.lt_of_lt_of_le V_d2.lt szq_d3)
  have sz_d3 : h0.size ≤ d3 := Nat.le_trans K148.1 szq_d3
  replace E_a1 := E_a1.keep Kq151
  replace F_a1_keyHead := F_a1_keyHead.keep Kq151 nin0
  replace F_a1_keyTail := F_a1_keyTail.keep Kq151 nin0
  replace F_a1_valueHead := F_a1_valueHead.keep Kq151 nin0
  replace F_a1_before := F_a1_before.keep Kq151 nin0
  replace F_a1_after := F_a1_after.keep Kq151 nin0
  replace V_a2 := V_a2.keep Kq151 nin0
  replace V_a3 := V_a3.keep Kq151 nin0
  replace V_a4 := V_a4.keep Kq151 nin0
  replace V_nv := V_nv.keep Kq151 nin0
  replace S_nv := S_nv.keep Kq151 all0
  replace V_c0 := V_c0.keep Kq151 nin0
  replace V_c1 := V_c1.keep Kq151 nin0
  replace V_c2 := V_c2.keep Kq151 nin0
  replace V_d1 := V_d1.keep Kq151 nin0
  replace V_d2 := V_d2.keep Kq151 nin0
  have Z151 : n0 ≤ T151.heap.size := Nat.le_trans Z148 Kq151.1
  have K151 := K148.trans Kq151 all0
  have N151 := Fr.app N148 Nq151
  have pr152 : ∀ t, Steps p.tables e below (T151.setTop (mkF m 63 #[.val (.ref a1), .val (.ref a2), .val (.ref a3), .val (.ref a4), .val (.ref d1)] [(.ref d3), (.ref a1)])) t → G t := fun t ks => pr150 t (st151 t ks)
  obtain ⟨T153, h153, X153, e153, W153, st153⟩ := putF X151 hx hZ hown (host := "") (Or.inl (hw _ (List.mem_of_getElem? (i := 70) rfl))) Via.refl rfl F_a1_after E_a1 (Or.inr ⟨(hw _ (List.mem_of_getElem? (i := 71) rfl)), rfl, hnm⟩) (hw _ (List.mem_of_getElem? (i := 15) rfl)) (ty := (.array .byte)) (by decide) rfl rfl (g := (mkF m 63 #[.val (.ref a1), .val (.ref a2), .val (.ref a3), .val (.ref a4), .val (.ref d1)] [(.ref d3), (.ref a1)])) rfl rfl (hb hby d5_63)
  replace F_a1_after := F_a1_after.same W153
  replace E_a1 := E_a1.wr W153
  replace F_a1_keyHead := F_a1_keyHead.other W153 (Or.inr (slot_ne (Or.inr (hw _ (List.mem_of_getElem? (i := 33) rfl))) (Or.inr (hw _ (List.mem_of_getElem? (i := 71) rfl))) (by decide) (t := (.array .byte)) (t' := (.array .byte)) (by decide) (by decide)))
  replace F_a1_keyTail := F_a1_keyTail.other W153 (Or.inr (slot_ne (Or.inr (hw _ (List.mem_of_getElem? (i := 35) rfl))) (Or.inr (hw _ (List.mem_of_getElem? (i := 71) rfl))) (by decide) (t := (.array .byte)) (t' := (.array .byte)) (by decide) (by decide)))
  replace F_a1_valueHead := F_a1_valueHead.other W153 (Or.inr (slot_ne (Or.inr (hw _ (List.mem_of_getElem? (i := 37) rfl))) (Or.inr (hw _ (List.mem_of_getElem? (i := 71) rfl))) (by decide) (t := (.array .byte)) (t' := (.array .byte)) (by decide) (by decide)))
  replace F_a1_before := F_a1_before.other W153 (Or.inr (slot_ne (Or.inr (hw _ (List.mem_of_getElem? (i := 68) rfl))) (Or.inr (hw _ (List.mem_of_getElem? (i := 71) rfl))) (by decide) (t := (.array .byte)) (t' := (.array .byte)) (by decide) (by decide)))
  replace V_a2 := V_a2.other W153 (Ne.symm ne12)
  replace V_a3 := V_a3.other W153 (Ne.symm ne13)
  replace V_a4 := V_a4.other W153 (Ne.symm ne14)
  replace V_nv := V_nv.other W153 (Ne.symm ne1n)
  replace S_nv := S_nv.wr W153
  replace V_c0 := V_c0.other W153 (Ne.symm ne_a1_c0)
  replace V_c1 := V_c1.other W153 (Ne.symm ne_a1_c1)
  replace V_c2 := V_c2.other W153 (Ne.symm ne_a1_c2)
  replace V_d1 := V_d1.other W153 (Ne.symm ne_a1_d1)
  replace V_d2 := V_d2.other W153 (Ne.symm ne_a1_d2)
  replace V_d3 := V_d3.other W153 (Ne.symm ne_a1_d3)
  have N153 := Fr.snoc X153 N151 g_a1
  have Z153 : n0 ≤ h153.size := Nat.le_trans Z151 (Keep.of_wr W153).1
  have K153 := K151.wr W153 (Or.inl (List.mem_of_getElem? (i := 0) rfl))
  have pr154 : ∀ t, Steps p.tables e below (T153.setTop (mkF m 66 #[.val (.ref a1), .val (.ref a2), .val (.ref a3), .val (.ref a4), .val (.ref d1)] [])) t → G t := fun t ks => pr152 t (st153 t ks)
  obtain ⟨fs, hr, hrun, hended, hW, hsame⟩ := X153.leave (v := none) (fun _ => rfl)
  refine ⟨_, _, hG _ (pr154 _ ?_), hrun, hended, _, _, rfl, ?_, ⟨_, rfl⟩, hW, hsame.mono (by decide) (by decide)⟩
  · exact X153.returnOut hx Bd.returns (hb hby d5_66) hr
  · show QF Z a1 kh kt vh h0 n0 _ T153.heap _
    rw [e153]
    exact ⟨rfl, N153, K153, E_a1, c2, d3, d2, F_a1_valueHead, F_a1_after, F_a1_before, V_c2, V_d3, V_d2⟩
set_option maxRecDepth 65536 in
set_option maxHeartbeats 40000000 in
theorem nbZ {p : Program} {l : Launch} {e : Env} {R : Room} {s : State} {m : MethodId} {args : Array Value} {below : List Frame} {meth : Method} {c : Code} {T0 : State} {locs : List Loc} {cells slots : Nat} {Z : State} {a0 : Array Value} {h0 : Heap} {a1 a2 : Addr} {p3 b : Int32} {ac : Int64} {vs : List Int32} {i en : Nat}
    (X0 : Stand p l e R s m args below meth c T0 locs cells slots) (hx : p.tables.exec = Jvm.exec) (hZ : Z.Warmed39 s.vm) (hw : ∀ d ∈ tables_1, d.before a0 Z = true) (hby : c.code = prog_122_method_5_code) (hml : c.maxLocals = 7) (hown : s.vm.findClass "com/example/gneiss/gneiss/store/Pairs$Form" = some m.cls) (e0 : T0.heap = h0) (V_a2 : BA Z h0 a2 vs) (hlt : i < en) (hi : i < vs.length) (hbd : vs.length < 1000) (hen : en < 1000) (hv : vs.getD i 0 = b) (hc : b = 0) :
    ∀ t, Steps p.tables e below (T0.setTop (mkF m 24 #[.val (.ref a1), .val (.ref a2), .val (.int p3), .val (.int (Int32.ofNat en)), .val (.long ((ac <<< ((8 : Int32) &&& 0x3f).toInt64) ||| ((b.toInt64) &&& (255 : Int64)))), .second, .val (.int (Int32.ofNat (i + 2)))] [])) t → Steps p.tables e below (T0.setTop (mkF m 24 #[.val (.ref a1), .val (.ref a2), .val (.int p3), .val (.int (Int32.ofNat en)), .val (.long ac), .second, .val (.int (Int32.ofNat i))] [])) t := by
  obtain ⟨G, hG, pr0⟩ : ∃ G : State → Prop, (∀ t, G t → Steps p.tables e below (T0.setTop (mkF m 24 #[.val (.ref a1), .val (.ref a2), .val (.int p3), .val (.int (Int32.ofNat en)), .val (.long ac), .second, .val (.int (Int32.ofNat i))] [])) t) ∧ (∀ t, Steps p.tables e below (T0.setTop (mkF m 24 #[.val (.ref a1), .val (.ref a2), .val (.int p3), .val (.int (Int32.ofNat en)), .val (.long ac), .second, .val (.int (Int32.ofNat i))] [])) t → G t) := ⟨_, fun _ k => k, fun _ k => k⟩
  have pr155 : ∀ t, Steps p.tables e below (T0.setTop (mkF m 44 #[.val (.ref a1), .val (.ref a2), .val (.int p3), .val (.int (Int32.ofNat en)), .val (.long ac), .second, .val (.int (Int32.ofNat i))] [(.long ((b.toInt64) &&& (255 : Int64))), (.long (ac <<< ((8 : Int32) &&& 0x3f).toInt64))])) t → G t := fun t ks => pr0 t (by
      refine XS.iload X0.here hx rfl (hb hby d13_24) rfl ?_
      refine XS.iloadN X0.here hx rfl (hb hby d13_26) rfl ?_
      refine XS.icmpNo X0.here hx rfl (hb hby d13_27) rfl (tlt (own_ltN hlt (by omega))).2.1 ?_
      refine XS.lload X0.here hx rfl (hb hby d13_30) rfl ?_
      refine XS.bipush X0.here hx rfl (hb hby d13_32) ?_
      refine XS.lshl X0.here hx rfl (hb hby d13_34) rfl ?_
      refine XS.aloadN X0.here hx rfl (hb hby d13_35) rfl rfl ?_
      refine XS.iload X0.here hx rfl (hb hby d13_36) rfl ?_
      refine ba_ld X0 hx hZ e0 V_a2 (j := (Int32.ofNat i)) i rfl hi (w := b) hv (g := (mkF m 38 #[.val (.ref a1), .val (.ref a2), .val (.int p3), .val (.int (Int32.ofNat en)), .val (.long ac), .second, .val (.int (Int32.ofNat i))] [(.int (Int32.ofNat i)), (.ref a2), (.long (ac <<< ((8 : Int32) &&& 0x3f).toInt64))])) rfl rfl (hb hby d13_38) _ ?_
      refine XS.i2l X0.here hx rfl (hb hby d13_39) rfl ?_
      refine X0.ldc2Long hx hown (mvT hZ (hw _ (List.mem_of_getElem? (i := 78) rfl))) (g := (mkF m 40 #[.val (.ref a1), .val (.ref a2), .val (.int p3), .val (.int (Int32.ofNat en)), .val (.long ac), .second, .val (.int (Int32.ofNat i))] [(.long (b.toInt64)), (.long (ac <<< ((8 : Int32) &&& 0x3f).toInt64))])) rfl (hb hby d13_40) _ ?_
      refine XS.land X0.here hx rfl (hb hby d13_43) rfl ?_
      exact ks)
  have pr156 : ∀ t, Steps p.tables e below (T0.setTop (mkF m 24 #[.val (.ref a1), .val (.ref a2), .val (.int p3), .val (.int (Int32.ofNat en)), .val (.long ((ac <<< ((8 : Int32) &&& 0x3f).toInt64) ||| ((b.toInt64) &&& (255 : Int64)))), .second, .val (.int ((Int32.ofNat i) + (2 : Int32)))] [])) t → G t := fun t ks => pr155 t (by
      refine XS.lor X0.here hx rfl (hb hby d13_44) rfl ?_
      refine XS.lstore X0.here hx rfl (hb hby d13_45) rfl (l' := #[.val (.ref a1), .val (.ref a2), .val (.int p3), .val (.int (Int32.ofNat en)), .val (.long ((ac <<< ((8 : Int32) &&& 0x3f).toInt64) ||| ((b.toInt64) &&& (255 : Int64)))), .second, .val (.int (Int32.ofNat i))]) rfl ?_
      refine XS.iload X0.here hx rfl (hb hby d13_47) rfl ?_
      refine XS.aloadN X0.here hx rfl (hb hby d13_49) rfl rfl ?_
      refine XS.iload X0.here hx rfl (hb hby d13_50) rfl ?_
      refine ba_ld X0 hx hZ e0 V_a2 (j := (Int32.ofNat i)) i rfl hi (w := b) hv (g := (mkF m 52 #[.val (.ref a1), .val (.ref a2), .val (.int p3), .val (.int (Int32.ofNat en)), .val (.long ((ac <<< ((8 : Int32) &&& 0x3f).toInt64) ||| ((b.toInt64) &&& (255 : Int64)))), .second, .val (.int (Int32.ofNat i))] [(.int (Int32.ofNat i)), (.ref a2), (.int (Int32.ofNat i))])) rfl rfl (hb hby d13_52) _ ?_
      refine XS.ifNo X0.here hx rfl (hb hby d13_53) rfl ((if0 _ _).trans (teq hc).2) ?_
      refine XS.iconst X0.here hx rfl (hb hby d13_56) ?_
      refine XS.goto X0.here hx rfl (pc0 := 57) (pc' := 61) rfl (hb hby d13_57) (by decide) (by decide) ?_
      refine XS.iadd X0.here hx rfl (hb hby d13_61) rfl ?_
      refine XS.istore X0.here hx rfl (hb hby d13_62) rfl (l' := #[.val (.ref a1), .val (.ref a2), .val (.int p3), .val (.int (Int32.ofNat en)), .val (.long ((ac <<< ((8 : Int32) &&& 0x3f).toInt64) ||| ((b.toInt64) &&& (255 : Int64)))), .second, .val (.int ((Int32.ofNat i) + (2 : Int32)))]) rfl ?_
      refine XS.goto X0.here hx rfl (pc0 := 64) (pc' := 24) rfl (hb hby d13_64) (by decide) (by decide) ?_
      exact ks)
  rw [own_two] at pr156
  exact fun t ks => hG t (pr156 t ks)
set_option maxRecDepth 65536 in
set_option maxHeartbeats 40000000 in
theorem nbN {p : Program} {l : Launch} {e : Env} {R : Room} {s : State} {m : MethodId} {args : Array Value} {below : List Frame} {meth : Method} {c : Code} {T0 : State} {locs : List Loc} {cells slots : Nat} {Z : State} {a0 : Array Value} {h0 : Heap} {a1 a2 : Addr} {p3 b : Int32} {ac : Int64} {vs : List Int32} {i en : Nat}
    (X0 : Stand p l e R s m args below meth c T0 locs cells slots) (hx : p.tables.exec = Jvm.exec) (hZ : Z.Warmed39 s.vm) (hw : ∀ d ∈ tables_1, d.before a0 Z = true) (hby : c.code = prog_122_method_5_code) (hml : c.maxLocals = 7) (hown : s.vm.findClass "com/example/gneiss/gneiss/store/Pairs$Form" = some m.cls) (e0 : T0.heap = h0) (V_a2 : BA Z h0 a2 vs) (hlt : i < en) (hi : i < vs.length) (hbd : vs.length < 1000) (hen : en < 1000) (hv : vs.getD i 0 = b) (hc : ¬ b = 0) :
    ∀ t, Steps p.tables e below (T0.setTop (mkF m 24 #[.val (.ref a1), .val (.ref a2), .val (.int p3), .val (.int (Int32.ofNat en)), .val (.long ((ac <<< ((8 : Int32) &&& 0x3f).toInt64) ||| ((b.toInt64) &&& (255 : Int64)))), .second, .val (.int (Int32.ofNat (i + 1)))] [])) t → Steps p.tables e below (T0.setTop (mkF m 24 #[.val (.ref a1), .val (.ref a2), .val (.int p3), .val (.int (Int32.ofNat en)), .val (.long ac), .second, .val (.int (Int32.ofNat i))] [])) t := by
  obtain ⟨G, hG, pr0⟩ : ∃ G : State → Prop, (∀ t, G t → Steps p.tables e below (T0.setTop (mkF m 24 #[.val (.ref a1), .val (.ref a2), .val (.int p3), .val (.int (Int32.ofNat en)), .val (.long ac), .second, .val (.int (Int32.ofNat i))] [])) t) ∧ (∀ t, Steps p.tables e below (T0.setTop (mkF m 24 #[.val (.ref a1), .val (.ref a2), .val (.int p3), .val (.int (Int32.ofNat en)), .val (.long ac), .second, .val (.int (Int32.ofNat i))] [])) t → G t) := ⟨_, fun _ k => k, fun _ k => k⟩
  have pr157 : ∀ t, Steps p.tables e below (T0.setTop (mkF m 44 #[.val (.ref a1), .val (.ref a2), .val (.int p3), .val (.int (Int32.ofNat en)), .val (.long ac), .second, .val (.int (Int32.ofNat i))] [(.long ((b.toInt64) &&& (255 : Int64))), (.long (ac <<< ((8 : Int32) &&& 0x3f).toInt64))])) t → G t := fun t ks => pr0 t (by
      refine XS.iload X0.here hx rfl (hb hby d13_24) rfl ?_
      refine XS.iloadN X0.here hx rfl (hb hby d13_26) rfl ?_
      refine XS.icmpNo X0.here hx rfl (hb hby d13_27) rfl (tlt (own_ltN hlt (by omega))).2.1 ?_
      refine XS.lload X0.here hx rfl (hb hby d13_30) rfl ?_
      refine XS.bipush X0.here hx rfl (hb hby d13_32) ?_
      refine XS.lshl X0.here hx rfl (hb hby d13_34) rfl ?_
      refine XS.aloadN X0.here hx rfl (hb hby d13_35) rfl rfl ?_
      refine XS.iload X0.here hx rfl (hb hby d13_36) rfl ?_
      refine ba_ld X0 hx hZ e0 V_a2 (j := (Int32.ofNat i)) i rfl hi (w := b) hv (g := (mkF m 38 #[.val (.ref a1), .val (.ref a2), .val (.int p3), .val (.int (Int32.ofNat en)), .val (.long ac), .second, .val (.int (Int32.ofNat i))] [(.int (Int32.ofNat i)), (.ref a2), (.long (ac <<< ((8 : Int32) &&& 0x3f).toInt64))])) rfl rfl (hb hby d13_38) _ ?_
      refine XS.i2l X0.here hx rfl (hb hby d13_39) rfl ?_
      refine X0.ldc2Long hx hown (mvT hZ (hw _ (List.mem_of_getElem? (i := 78) rfl))) (g := (mkF m 40 #[.val (.ref a1), .val (.ref a2), .val (.int p3), .val (.int (Int32.ofNat en)), .val (.long ac), .second, .val (.int (Int32.ofNat i))] [(.long (b.toInt64)), (.long (ac <<< ((8 : Int32) &&& 0x3f).toInt64))])) rfl (hb hby d13_40) _ ?_
      refine XS.land X0.here hx rfl (hb hby d13_43) rfl ?_
      exact ks)
  have pr158 : ∀ t, Steps p.tables e below (T0.setTop (mkF m 24 #[.val (.ref a1), .val (.ref a2), .val (.int p3), .val (.int (Int32.ofNat en)), .val (.long ((ac <<< ((8 : Int32) &&& 0x3f).toInt64) ||| ((b.toInt64) &&& (255 : Int64)))), .second, .val (.int ((Int32.ofNat i) + (1 : Int32)))] [])) t → G t := fun t ks => pr157 t (by
      refine XS.lor X0.here hx rfl (hb hby d13_44) rfl ?_
      refine XS.lstore X0.here hx rfl (hb hby d13_45) rfl (l' := #[.val (.ref a1), .val (.ref a2), .val (.int p3), .val (.int (Int32.ofNat en)), .val (.long ((ac <<< ((8 : Int32) &&& 0x3f).toInt64) ||| ((b.toInt64) &&& (255 : Int64)))), .second, .val (.int (Int32.ofNat i))]) rfl ?_
      refine XS.iload X0.here hx rfl (hb hby d13_47) rfl ?_
      refine XS.aloadN X0.here hx rfl (hb hby d13_49) rfl rfl ?_
      refine XS.iload X0.here hx rfl (hb hby d13_50) rfl ?_
      refine ba_ld X0 hx hZ e0 V_a2 (j := (Int32.ofNat i)) i rfl hi (w := b) hv (g := (mkF m 52 #[.val (.ref a1), .val (.ref a2), .val (.int p3), .val (.int (Int32.ofNat en)), .val (.long ((ac <<< ((8 : Int32) &&& 0x3f).toInt64) ||| ((b.toInt64) &&& (255 : Int64)))), .second, .val (.int (Int32.ofNat i))] [(.int (Int32.ofNat i)), (.ref a2), (.int (Int32.ofNat i))])) rfl rfl (hb hby d13_52) _ ?_
      refine XS.ifYes X0.here hx rfl (pc0 := 53) (pc' := 60) rfl (hb hby d13_53) rfl ((if0 _ _).trans (feq hc).2) (by decide) (by decide) ?_
      refine XS.iconst X0.here hx rfl (hb hby d13_60) ?_
      refine XS.iadd X0.here hx rfl (hb hby d13_61) rfl ?_
      refine XS.istore X0.here hx rfl (hb hby d13_62) rfl (l' := #[.val (.ref a1), .val (.ref a2), .val (.int p3), .val (.int (Int32.ofNat en)), .val (.long ((ac <<< ((8 : Int32) &&& 0x3f).toInt64) ||| ((b.toInt64) &&& (255 : Int64)))), .second, .val (.int ((Int32.ofNat i) + (1 : Int32)))]) rfl ?_
      refine XS.goto X0.here hx rfl (pc0 := 64) (pc' := 24) rfl (hb hby d13_64) (by decide) (by decide) ?_
      exact ks)
  rw [own_one] at pr158
  exact fun t ks => hG t (pr158 t ks)
set_option maxRecDepth 65536 in
set_option maxHeartbeats 40000000 in
theorem nbE {p : Program} {l : Launch} {e : Env} {R : Room} {s : State} {m : MethodId} {args : Array Value} {below : List Frame} {meth : Method} {c : Code} {T0 : State} {locs : List Loc} {cells slots : Nat} {Z : State} {a0 : Array Value} {h0 : Heap} {a1 a2 : Addr} {p3 : Int32} {ac : Int64} {i en : Nat}
    (X0 : Stand p l e R s m args below meth c T0 locs cells slots) (hx : p.tables.exec = Jvm.exec) (hZ : Z.Warmed39 s.vm) (hw : ∀ d ∈ tables_1, d.before a0 Z = true) (hby : c.code = prog_122_method_5_code) (hml : c.maxLocals = 7) (hown : s.vm.findClass "com/example/gneiss/gneiss/store/Pairs$Form" = some m.cls) (e0 : T0.heap = h0) (hge : ¬ i < en) (hbd : i < 1000) (hbd' : en < 1000) :
    ∀ t, Steps p.tables e below (T0.setTop (mkF m 67 #[.val (.ref a1), .val (.ref a2), .val (.int p3), .val (.int (Int32.ofNat en)), .val (.long ac), .second, .val (.int (Int32.ofNat i))] [])) t → Steps p.tables e below (T0.setTop (mkF m 24 #[.val (.ref a1), .val (.ref a2), .val (.int p3), .val (.int (Int32.ofNat en)), .val (.long ac), .second, .val (.int (Int32.ofNat i))] [])) t := by
  obtain ⟨G, hG, pr0⟩ : ∃ G : State → Prop, (∀ t, G t → Steps p.tables e below (T0.setTop (mkF m 24 #[.val (.ref a1), .val (.ref a2), .val (.int p3), .val (.int (Int32.ofNat en)), .val (.long ac), .second, .val (.int (Int32.ofNat i))] [])) t) ∧ (∀ t, Steps p.tables e below (T0.setTop (mkF m 24 #[.val (.ref a1), .val (.ref a2), .val (.int p3), .val (.int (Int32.ofNat en)), .val (.long ac), .second, .val (.int (Int32.ofNat i))] [])) t → G t) := ⟨_, fun _ k => k, fun _ k => k⟩
  have pr159 : ∀ t, Steps p.tables e below (T0.setTop (mkF m 67 #[.val (.ref a1), .val (.ref a2), .val (.int p3), .val (.int (Int32.ofNat en)), .val (.long ac), .second, .val (.int (Int32.ofNat i))] [])) t → G t := fun t ks => pr0 t (by
      refine XS.iload X0.here hx rfl (hb hby d13_24) rfl ?_
      refine XS.iloadN X0.here hx rfl (hb hby d13_26) rfl ?_
      refine XS.icmpYes X0.here hx rfl (pc0 := 27) (pc' := 67) rfl (hb hby d13_27) rfl (flt (own_nltN hge (by omega) (by omega))).2.1 (by decide) (by decide) ?_
      exact ks)
  exact fun t ks => hG t (pr159 t ks)
theorem loopNB {p : Program} {l : Launch} {e : Env} {R : Room} {s : State} {m : MethodId} {args : Array Value} {below : List Frame} {meth : Method} {c : Code} {cells slots : Nat} {Z : State} {a0 : Array Value} {T0 : State} {locs : List Loc} {h0 : Heap} {a1 a2 : Addr} {p3 : Int32} {vs E : List Int32} {en : Nat}
    (X0 : Stand p l e R s m args below meth c T0 locs cells slots) (hx : p.tables.exec = Jvm.exec) (hZ : Z.Warmed39 s.vm) (hw : ∀ d ∈ tables_1, d.before a0 Z = true) (hby : c.code = prog_122_method_5_code) (hml : c.maxLocals = 7) (hown : s.vm.findClass "com/example/gneiss/gneiss/store/Pairs$Form" = some m.cls) (e0 : T0.heap = h0) (V_a2 : BA Z h0 a2 vs) (hbd : vs.length < 1000) :
    ∀ (rest A : List Int32) (ac : Int64), vs = A ++ own_esc rest ++ E → en = A.length + (own_esc rest).length → ∀ t, Steps p.tables e below (T0.setTop (mkF m 67 #[.val (.ref a1), .val (.ref a2), .val (.int p3), .val (.int (Int32.ofNat en)), .val (.long (own_fold ac rest)), .second, .val (.int (Int32.ofNat en))] [])) t → Steps p.tables e below (T0.setTop (mkF m 24 #[.val (.ref a1), .val (.ref a2), .val (.int p3), .val (.int (Int32.ofNat en)), .val (.long ac), .second, .val (.int (Int32.ofNat A.length))] [])) t := by
  intro rest
  induction rest with
  | nil =>
    intro A ac hd he
    have he' : en = A.length := he
    have hl : A.length ≤ vs.length := by rw [hd]; simp only [List.length_append]; omega
    subst he'
    exact nbE X0 hx hZ hw hby hml hown e0 (by omega) (by omega) (by omega)
  | cons b r ih =>
    intro A ac hd he t q
    have e1 : own_esc (b :: r) = own_esc [b] ++ own_esc r := own_esc_app [b] r
    have hl : en ≤ vs.length := by rw [hd, he]; simp only [List.length_append]; omega
    by_cases hc : b = 0
    · subst hc
      rw [e1, own_esc_z] at hd he
      simp only [List.length_append, List.length_cons, List.length_nil] at he
      have hat : vs.getD A.length 0 = 0 := by rw [hd, List.append_assoc, List.append_assoc]; exact own_at A 0 _
      refine nbZ X0 hx hZ hw hby hml hown e0 V_a2 (by omega) (by omega) hbd (by omega) hat rfl t ?_
      have := ih (A ++ [0, 1]) ((ac <<< ((8 : Int32) &&& 0x3f).toInt64) ||| ((0 : Int32).toInt64 &&& (255 : Int64))) (by rw [hd]; simp only [List.append_assoc]) (by rw [he]; simp only [List.length_append, List.length_cons, List.length_nil]; omega) t q
      rw [List.length_append] at this; exact this
    · rw [e1, own_esc_n hc] at hd he
      simp only [List.length_append, List.length_cons, List.length_nil] at he
      have hat : vs.getD A.length 0 = b := by rw [hd, List.append_assoc, List.append_assoc]; exact own_at A b _
      refine nbN X0 hx hZ hw hby hml hown e0 V_a2 (by omega) (by omega) hbd (by omega) hat hc t ?_
      have := ih (A ++ [b]) ((ac <<< ((8 : Int32) &&& 0x3f).toInt64) ||| (b.toInt64 &&& (255 : Int64))) (by rw [hd]; simp only [List.append_assoc]) (by rw [he]; simp only [List.length_append, List.length_cons, List.length_nil]; omega) t q
      rw [List.length_append] at this; exact this
theorem ef_rmN (m : MethodId) (x0 : Addr) (x1 : Addr) (x2 : Int32) : entryFrame m #[(.ref x0), (.ref x1), (.int x2)] 7 = mkF m 0 #[.val (.ref x0), .val (.ref x1), .val (.int x2), .unset, .unset, .unset, .unset] [] := by first | (simp [entryFrame, mkF, argsToLocals, Value.category]; done) | rfl
def QN (R : List Int32) (h0 : Heap) (n0 : Nat) (v : Option Value) (h : Heap) (L : List Loc) : Prop := v = some (.long (own_fold 0 R)) ∧ Fr n0 L ∧ h = h0
set_option maxRecDepth 65536 in
set_option maxHeartbeats 40000000 in
theorem rmN (l : Launch) (Z : State) (a0 : Array Value) (hw : ∀ d ∈ tables_1, d.before a0 Z = true) (ws : List Jvm.Cond) (a1 : Addr) (a2 : Addr) (p3 : Int32) (bv ba bb : Addr) (A R E vh af : List Int32) (st en : Nat) (h0 : Heap) (n0 : Nat) (Z0 : n0 ≤ h0.size) (F_a1_valueHead : Fld Z h0 a1 "com/example/gneiss/gneiss/store/Pairs$Form" "valueHead" "[B" (.ref bv)) (F_a1_after : Fld Z h0 a1 "com/example/gneiss/gneiss/store/Pairs$Form" "after" "[B" (.ref ba)) (F_a1_before : Fld Z h0 a1 "com/example/gneiss/gneiss/store/Pairs$Form" "before" "[B" (.ref bb)) (V_bv : BA Z h0 bv vh) (V_ba : BA Z h0 ba af) (V_bb : BA Z h0 bb A) (V_a2 : BA Z h0 a2 (A ++ own_esc R ++ E)) (e3 : p3 = Int32.ofNat st) (hst : st < 1000) (hvh : vh.length < 1000) (haf : af.length < 1000) (hen : st + vh.length = en + af.length) (hen2 : en = A.length + (own_esc R).length) (hbd : (A ++ own_esc R ++ E).length < 1000) :
    MetFree l (⟨"com/example/gneiss/gneiss/store/Pairs$Form", "number", "([BI)J"⟩ : MethodName) (head1 (Jvm.Cond.code (⟨"com/example/gneiss/gneiss/store/Pairs$Form", "number", "([BI)J"⟩ : MethodName) prog_122_method_5_code 7 (some .long) :: ws) ({ frames := 0, cells := 0, slots := 0, locals := 0 } : Room)) (fun a U => a = #[(.ref a1), (.ref a2), (.int p3)] ∧ Z.Warmed39 U.vm ∧ U.heap = h0) (fun _ _ _ _ _ => True) (fun _ U o U' => ∃ v L, o = .returned v ∧ QN R h0 n0 v U'.heap L ∧ FrameEnd U o U' L ({ frames := 0, cells := 0, slots := 0, locals := 0 } : Room).cells ({ frames := 0, cells := 0, slots := 0, locals := 0 } : Room).slots) := by
  refine MetFree.of_bodySF (plainFor_of_name pn_4) hisR ?_
  intro p e s m args below meth c s₁ Bd hml0 hP hK
  obtain ⟨rfl, hZ, hh⟩ := hP
  have hx := Bd.exec
  have hby := Bd.bytes
  have hml : c.maxLocals = 7 := hml0
  have hown : s.vm.findClass "com/example/gneiss/gneiss/store/Pairs$Form" = some m.cls := findClass_of_methodNamed Bd.named
  have hnm := (name_of_methodNamed Bd.named Bd.method).1
  have X0 : Stand p l e ({ frames := 0, cells := 0, slots := 0, locals := 0 } : Room) s m #[(.ref a1), (.ref a2), (.int p3)] below meth c s₁ [] 0 0 := Stand.of_body Bd
  have e0 : s₁.heap = h0 := by rw [← hh, Bd.state]; rfl
  have N0 := Fr.nil n0
  obtain ⟨G, hG, pr0⟩ : ∃ G : State → Prop, (∀ t, G t → Steps p.tables e below (s₁.setTop (entryFrame m #[(.ref a1), (.ref a2), (.int p3)] 7)) t) ∧ (∀ t, Steps p.tables e below (s₁.setTop (mkF m 0 #[.val (.ref a1), .val (.ref a2), .val (.int p3), .unset, .unset, .unset, .unset] [])) t → G t) := ⟨_, fun _ k => k, fun t ks => castTop (ef_rmN m a1 a2 p3) ks⟩
  have pr160 : ∀ t, Steps p.tables e below (s₁.setTop (mkF m 2 #[.val (.ref a1), .val (.ref a2), .val (.int p3), .unset, .unset, .unset, .unset] [(.ref a1), (.int p3)])) t → G t := fun t ks => pr0 t (by
      refine XS.iloadN X0.here hx rfl (hb hby d13_0) rfl ?_
      refine XS.aloadN X0.here hx rfl (hb hby d13_1) rfl rfl ?_
      exact ks)
  obtain ⟨T161, X161, e161, st161⟩ := getF X0 hx hZ hown (host := "") (Or.inl (hw _ (List.mem_of_getElem? (i := 36) rfl))) Via.refl e0 F_a1_valueHead (g := (mkF m 2 #[.val (.ref a1), .val (.ref a2), .val (.int p3), .unset, .unset, .unset, .unset] [(.ref a1), (.int p3)])) rfl rfl (hb hby d13_2)
  have pr162 : ∀ t, Steps p.tables e below (T161.setTop (mkF m 5 #[.val (.ref a1), .val (.ref a2), .val (.int p3), .unset, .unset, .unset, .unset] [(.ref bv), (.int p3)])) t → G t := fun t ks => pr160 t (st161 t ks)
  have pr163 : ∀ t, Steps p.tables e below (T161.setTop (mkF m 8 #[.val (.ref a1), .val (.ref a2), .val (.int p3), .unset, .unset, .unset, .unset] [(.ref a1), (.int (p3 + (Int32.ofNat vh.length)))])) t → G t := fun t ks => pr162 t (by
      refine ba_len X161 hx hZ e161 V_bv (g := (mkF m 5 #[.val (.ref a1), .val (.ref a2), .val (.int p3), .unset, .unset, .unset, .unset] [(.ref bv), (.int p3)])) rfl rfl (hb hby d13_5) _ ?_
      refine XS.iadd X161.here hx rfl (hb hby d13_6) rfl ?_
      refine XS.aloadN X161.here hx rfl (hb hby d13_7) rfl rfl ?_
      exact ks)
  obtain ⟨T164, X164, e164, st164⟩ := getF X161 hx hZ hown (host := "") (Or.inl (hw _ (List.mem_of_getElem? (i := 70) rfl))) Via.refl e161 F_a1_after (g := (mkF m 8 #[.val (.ref a1), .val (.ref a2), .val (.int p3), .unset, .unset, .unset, .unset] [(.ref a1), (.int (p3 + (Int32.ofNat vh.length)))])) rfl rfl (hb hby d13_8)
  have pr165 : ∀ t, Steps p.tables e below (T164.setTop (mkF m 11 #[.val (.ref a1), .val (.ref a2), .val (.int p3), .unset, .unset, .unset, .unset] [(.ref ba), (.int (p3 + (Int32.ofNat vh.length)))])) t → G t := fun t ks => pr163 t (st164 t ks)
  have pr166 : ∀ t, Steps p.tables e below (T164.setTop (mkF m 13 #[.val (.ref a1), .val (.ref a2), .val (.int p3), .unset, .unset, .unset, .unset] [(.int ((p3 + (Int32.ofNat vh.length)) - (Int32.ofNat af.length)))])) t → G t := fun t ks => pr165 t (by
      refine ba_len X164 hx hZ e164 V_ba (g := (mkF m 11 #[.val (.ref a1), .val (.ref a2), .val (.int p3), .unset, .unset, .unset, .unset] [(.ref ba), (.int (p3 + (Int32.ofNat vh.length)))])) rfl rfl (hb hby d13_11) _ ?_
      refine XS.isub X164.here hx rfl (hb hby d13_12) rfl ?_
      exact ks)
  have hs3 : (p3 + Int32.ofNat vh.length) - Int32.ofNat af.length = Int32.ofNat en := by rw [e3, ← Int32.ofNat_add, own_subN (by omega) (by omega)]; congr 1; omega
  rw [hs3] at pr166
  have pr167 : ∀ t, Steps p.tables e below (T164.setTop (mkF m 18 #[.val (.ref a1), .val (.ref a2), .val (.int p3), .val (.int (Int32.ofNat en)), .val (.long (0 : Int64)), .second, .unset] [(.ref a1)])) t → G t := fun t ks => pr166 t (by
      refine XS.istoreN X164.here hx rfl (hb hby d13_13) rfl (l' := #[.val (.ref a1), .val (.ref a2), .val (.int p3), .val (.int (Int32.ofNat en)), .unset, .unset, .unset]) rfl ?_
      refine XS.lconst X164.here hx rfl (hb hby d13_14) ?_
      refine XS.lstore X164.here hx rfl (hb hby d13_15) rfl (l' := #[.val (.ref a1), .val (.ref a2), .val (.int p3), .val (.int (Int32.ofNat en)), .val (.long (0 : Int64)), .second, .unset]) rfl ?_
      refine XS.aloadN X164.here hx rfl (hb hby d13_17) rfl rfl ?_
      exact ks)
  obtain ⟨T168, X168, e168, st168⟩ := getF X164 hx hZ hown (host := "") (Or.inl (hw _ (List.mem_of_getElem? (i := 67) rfl))) Via.refl e164 F_a1_before (g := (mkF m 18 #[.val (.ref a1), .val (.ref a2), .val (.int p3), .val (.int (Int32.ofNat en)), .val (.long (0 : Int64)), .second, .unset] [(.ref a1)])) rfl rfl (hb hby d13_18)
  have pr169 : ∀ t, Steps p.tables e below (T168.setTop (mkF m 21 #[.val (.ref a1), .val (.ref a2), .val (.int p3), .val (.int (Int32.ofNat en)), .val (.long (0 : Int64)), .second, .unset] [(.ref bb)])) t → G t := fun t ks => pr167 t (st168 t ks)
  have pr170 : ∀ t, Steps p.tables e below (T168.setTop (mkF m 24 #[.val (.ref a1), .val (.ref a2), .val (.int p3), .val (.int (Int32.ofNat en)), .val (.long (0 : Int64)), .second, .val (.int (Int32.ofNat A.length))] [])) t → G t := fun t ks => pr169 t (by
      refine ba_len X168 hx hZ e168 V_bb (g := (mkF m 21 #[.val (.ref a1), .val (.ref a2), .val (.int p3), .val (.int (Int32.ofNat en)), .val (.long (0 : Int64)), .second, .unset] [(.ref bb)])) rfl rfl (hb hby d13_21) _ ?_
      refine XS.istore X168.here hx rfl (hb hby d13_22) rfl (l' := #[.val (.ref a1), .val (.ref a2), .val (.int p3), .val (.int (Int32.ofNat en)), .val (.long (0 : Int64)), .second, .val (.int (Int32.ofNat A.length))]) rfl ?_
      exact ks)
  have st0 := loopNB (p3 := p3) X168 hx hZ hw hby hml hown e168 V_a2 hbd R A 0 rfl hen2 (a1 := a1) (E := E)
  have prL : ∀ t, Steps p.tables e below (T168.setTop (mkF m 67 #[.val (.ref a1), .val (.ref a2), .val (.int p3), .val (.int (Int32.ofNat en)), .val (.long (own_fold 0 R)), .second, .val (.int (Int32.ofNat en))] [])) t → G t := fun t ks => pr170 t (st0 t ks)
  have pr171 : ∀ t, Steps p.tables e below (T168.setTop (mkF m 69 #[.val (.ref a1), .val (.ref a2), .val (.int p3), .val (.int (Int32.ofNat en)), .val (.long (own_fold 0 R)), .second, .val (.int (Int32.ofNat en))] [(.long (own_fold 0 R))])) t → G t := fun t ks => prL t (by
      refine XS.lload X168.here hx rfl (hb hby d13_67) rfl ?_
      exact ks)
  obtain ⟨fs, hr, hrun, hended, hW, hsame⟩ := X168.leave (v := some (.long (own_fold 0 R))) (fun h => by rw [Bd.returns] at h; cases h)
  refine ⟨_, _, hG _ (pr171 _ ?_), hrun, hended, _, _, rfl, ?_, ⟨_, rfl⟩, hW, hsame.mono (by decide) (by decide)⟩
  · jvm_step X168.here [X168.here.top, hx, (hb hby d13_69), X168.method', Bd.returns, narrow]
    first | (intro acts; rw [hr _ acts rfl rfl rfl]) | rw [hr _ _ rfl rfl rfl]
    exact Steps.refl _
  · show QN R h0 n0 _ T168.heap _
    rw [e168]
    exact ⟨rfl, N0, rfl⟩
theorem ef_rm0 (m : MethodId) (x0 : Int64) (x1 : Int64) (x2 : Int32) (x3 : Int32) (x4 : Int32) : entryFrame m #[(.long x0), (.long x1), (.int x2), (.int x3), (.int x4)] maxLocals = mkF m 0 #[.val (.long x0), .second, .val (.long x1), .second, .val (.int x2), .val (.int x3), .val (.int x4), .unset, .unset, .unset, .unset, .unset, .unset, .unset, .unset] [] := by first | (simp [entryFrame, mkF, argsToLocals, Value.category, maxLocals]; done) | rfl
def Q0 (n0 : Nat) (v : Option Value) (h : Heap) (L : List Loc) : Prop := v = some (.int 1) ∧ Fr n0 L
set_option maxRecDepth 65536 in
set_option maxHeartbeats 40000000 in
theorem rm0 (l : Launch) (Z : State) (a0 : Array Value) (hw : ∀ d ∈ tables_1, d.before a0 Z = true) (ws : List Jvm.Cond) (p1 : Int64) (p2 : Int64) (p3 : Int32) (p4 : Int32) (p5 : Int32) (nv : Addr) (h0 : Heap) (n0 : Nat) (Z0 : n0 ≤ h0.size) (S_nv : SN Z n0 h0 "com/example/gneiss/gneiss/store/Pairs" "NO_VALUE" "[B" (.ref nv)) (V_nv : BA Z h0 nv []) :
    MetFree l x (head1 (Jvm.Cond.code x code maxLocals ret :: ws) room_1) (fun a U => a = #[(.long p1), (.long p2), (.int p3), (.int p4), (.int p5)] ∧ Z.Warmed39 U.vm ∧ U.heap = h0) (fun _ _ _ _ _ => True) (fun _ U o U' => ∃ v L, o = .returned v ∧ Q0 n0 v U'.heap L ∧ FrameEnd U o U' L room_1.cells room_1.slots) := by
  refine MetFree.of_bodySF (plainFor_of_name pn_0) hisR ?_
  intro p e s m args below meth c s₁ Bd hml0 hP hK
  obtain ⟨rfl, hZ, hh⟩ := hP
  have hx := Bd.exec
  have hby := Bd.bytes
  have hml : c.maxLocals = 15 := hml0
  have hown : s.vm.findClass "com/example/gneiss/gneiss/store/FormNumberPinLaw" = some m.cls := findClass_of_methodNamed Bd.named
  have hnm := (name_of_methodNamed Bd.named Bd.method).1
  have X0 : Stand p l e room_1 s m #[(.long p1), (.long p2), (.int p3), (.int p4), (.int p5)] below meth c s₁ [] 0 0 := Stand.of_body Bd
  have e0 : s₁.heap = h0 := by rw [← hh, Bd.state]; rfl
  have N0 := Fr.nil n0
  obtain ⟨G, hG, pr0⟩ : ∃ G : State → Prop, (∀ t, G t → Steps p.tables e below (s₁.setTop (entryFrame m #[(.long p1), (.long p2), (.int p3), (.int p4), (.int p5)] maxLocals)) t) ∧ (∀ t, Steps p.tables e below (s₁.setTop (mkF m 0 #[.val (.long p1), .second, .val (.long p2), .second, .val (.int p3), .val (.int p4), .val (.int p5), .unset, .unset, .unset, .unset, .unset, .unset, .unset, .unset] [])) t → G t) := ⟨_, fun _ k => k, fun t ks => castTop (ef_rm0 m p1 p2 p3 p4 p5) ks⟩
  have pr172 : ∀ t, Steps p.tables e below (s₁.setTop (mkF m 2 #[.val (.long p1), .second, .val (.long p2), .second, .val (.int p3), .val (.int p4), .val (.int p5), .unset, .unset, .unset, .unset, .unset, .unset, .unset, .unset] [(.int p3)])) t → G t := fun t ks => pr0 t (by
      refine XS.iload X0.here hx rfl (hb hby at_0) rfl ?_
      exact ks)
  obtain ⟨_, _, ⟨T173, L173, k173, n173⟩, -, X173, hP173, st173⟩ := Jvm.LawKit.callS X0 hx (y := (⟨"com/example/gneiss/gneiss/store/FormNumberPinLaw", "drawn", "(I)[B"⟩ : MethodName)) hown (mvT hZ (hw _ (List.mem_of_getElem? (i := 0) rfl))) (mvT hZ (hw _ (List.mem_of_getElem? (i := 1) rfl))) (mvT hZ (hw _ (List.mem_of_getElem? (i := 2) rfl))) (mvT hZ (hw _ (List.mem_of_getElem? (i := 3) rfl))) (by decide) (backOf (W := 0) (rmD l Z a0 hw [] p3 h0 n0 Z0) hZ (hw _ (List.mem_of_getElem? (i := 3) rfl)) (hw _ (List.mem_of_getElem? (i := 2) rfl)) (by decide) (by decide)) (g := (mkF m 2 #[.val (.long p1), .second, .val (.long p2), .second, .val (.int p3), .val (.int p4), .val (.int p5), .unset, .unset, .unset, .unset, .unset, .unset, .unset, .unset] [(.int p3)])) rfl (by rw [hml]; rfl) (argsL := [(.int p3)]) (rest := []) (lenOf pd_7 rfl) rfl (by show 2 * 0 + _ ≤ _; exact Nat.le_of_eq rfl) (hb hby at_2) (fun _ _ => ⟨rfl, e0, (by decide : 0 + 1 ≤ _), (by decide : 0 + 2 ≤ _)⟩)
  obtain ⟨Lc173, hQ173, X173⟩ := own_out hP173 X173
  clear hP173
  dsimp only [Pt.U, Pt.locs, Pt.cells, Pt.slots] at X173 st173 hQ173
  obtain ⟨bkh, kh, rfl, Nq173, Kq173, g_bkh, szq_bkh, hkh, V_bkh⟩ := hQ173
  have ne_nv_bkh : nv ≠ bkh := Nat.ne_of_lt (Nat.lt_of_lt_of_le V_nv.lt szq_bkh)
  replace V_nv := V_nv.keep Kq173 nin0
  replace S_nv := S_nv.keep Kq173 all0
  have Z173 : n0 ≤ T173.heap.size := Nat.le_trans Z0 Kq173.1
  have N173 := Fr.app N0 Nq173
  have pr174 : ∀ t, Steps p.tables e below (T173.setTop (mkF m 5 #[.val (.long p1), .second, .val (.long p2), .second, .val (.int p3), .val (.int p4), .val (.int p5), .unset, .unset, .unset, .unset, .unset, .unset, .unset, .unset] [(.ref bkh)])) t → G t := fun t ks => pr172 t (st173 t ks)
  have pr175 : ∀ t, Steps p.tables e below (T173.setTop (mkF m 9 #[.val (.long p1), .second, .val (.long p2), .second, .val (.int p3), .val (.int p4), .val (.int p5), .val (.ref bkh), .unset, .unset, .unset, .unset, .unset, .unset, .unset] [(.int p4)])) t → G t := fun t ks => pr174 t (by
      refine XS.astore X173.here hx rfl (hb hby at_5) rfl rfl (l' := #[.val (.long p1), .second, .val (.long p2), .second, .val (.int p3), .val (.int p4), .val (.int p5), .val (.ref bkh), .unset, .unset, .unset, .unset, .unset, .unset, .unset]) rfl ?_
      refine XS.iload X173.here hx rfl (hb hby at_7) rfl ?_
      exact ks)
  obtain ⟨_, _, ⟨T176, L176, k176, n176⟩, -, X176, hP176, st176⟩ := Jvm.LawKit.callS X173 hx (y := (⟨"com/example/gneiss/gneiss/store/FormNumberPinLaw", "drawn", "(I)[B"⟩ : MethodName)) hown (mvT hZ (hw _ (List.mem_of_getElem? (i := 0) rfl))) (mvT hZ (hw _ (List.mem_of_getElem? (i := 1) rfl))) (mvT hZ (hw _ (List.mem_of_getElem? (i := 2) rfl))) (mvT hZ (hw _ (List.mem_of_getElem? (i := 3) rfl))) (by decide) (backOf (W := 0) (rmD l Z a0 hw [] p4 T173.heap n0 Z173) hZ (hw _ (List.mem_of_getElem? (i := 3) rfl)) (hw _ (List.mem_of_getElem? (i := 2) rfl)) (by decide) (by decide)) (g := (mkF m 9 #[.val (.long p1), .second, .val (.long p2), .second, .val (.int p3), .val (.int p4), .val (.int p5), .val (.ref bkh), .unset, .unset, .unset, .unset, .unset, .unset, .unset] [(.int p4)])) rfl (by rw [hml]; rfl) (argsL := [(.int p4)]) (rest := []) (lenOf pd_7 rfl) rfl (by show 2 * 0 + _ ≤ _; exact Nat.le_of_eq rfl) (hb hby at_9) (fun _ _ => ⟨rfl, rfl, (by decide : 1 + 1 ≤ _), (by decide : 2 + 2 ≤ _)⟩)
  obtain ⟨Lc176, hQ176, X176⟩ := own_out hP176 X176
  clear hP176
  dsimp only [Pt.U, Pt.locs, Pt.cells, Pt.slots] at X176 st176 hQ176
  obtain ⟨bkt, kt, rfl, Nq176, Kq176, g_bkt, szq_bkt, hkt, V_bkt⟩ := hQ176
  have ne_nv_bkt : nv ≠ bkt := Nat.ne_of_lt (Nat.lt_of_lt_of_le V_nv.lt szq_bkt)
  have ne_bkh_bkt : bkh ≠ bkt := Nat.ne_of_lt (Nat.lt_of_lt_of_le V_bkh.lt szq_bkt)
  replace V_nv := V_nv.keep Kq176 nin0
  replace S_nv := S_nv.keep Kq176 all0
  replace V_bkh := V_bkh.keep Kq176 nin0
  have Z176 : n0 ≤ T176.heap.size := Nat.le_trans Z173 Kq176.1
  have N176 := Fr.app N173 Nq176
  have pr177 : ∀ t, Steps p.tables e below (T176.setTop (mkF m 12 #[.val (.long p1), .second, .val (.long p2), .second, .val (.int p3), .val (.int p4), .val (.int p5), .val (.ref bkh), .unset, .unset, .unset, .unset, .unset, .unset, .unset] [(.ref bkt)])) t → G t := fun t ks => pr175 t (st176 t ks)
  have pr178 : ∀ t, Steps p.tables e below (T176.setTop (mkF m 16 #[.val (.long p1), .second, .val (.long p2), .second, .val (.int p3), .val (.int p4), .val (.int p5), .val (.ref bkh), .val (.ref bkt), .unset, .unset, .unset, .unset, .unset, .unset] [(.int p5)])) t → G t := fun t ks => pr177 t (by
      refine XS.astore X176.here hx rfl (hb hby at_12) rfl rfl (l' := #[.val (.long p1), .second, .val (.long p2), .second, .val (.int p3), .val (.int p4), .val (.int p5), .val (.ref bkh), .val (.ref bkt), .unset, .unset, .unset, .unset, .unset, .unset]) rfl ?_
      refine XS.iload X176.here hx rfl (hb hby at_14) rfl ?_
      exact ks)
  obtain ⟨_, _, ⟨T179, L179, k179, n179⟩, -, X179, hP179, st179⟩ := Jvm.LawKit.callS X176 hx (y := (⟨"com/example/gneiss/gneiss/store/FormNumberPinLaw", "drawn", "(I)[B"⟩ : MethodName)) hown (mvT hZ (hw _ (List.mem_of_getElem? (i := 0) rfl))) (mvT hZ (hw _ (List.mem_of_getElem? (i := 1) rfl))) (mvT hZ (hw _ (List.mem_of_getElem? (i := 2) rfl))) (mvT hZ (hw _ (List.mem_of_getElem? (i := 3) rfl))) (by decide) (backOf (W := 0) (rmD l Z a0 hw [] p5 T176.heap n0 Z176) hZ (hw _ (List.mem_of_getElem? (i := 3) rfl)) (hw _ (List.mem_of_getElem? (i := 2) rfl)) (by decide) (by decide)) (g := (mkF m 16 #[.val (.long p1), .second, .val (.long p2), .second, .val (.int p3), .val (.int p4), .val (.int p5), .val (.ref bkh), .val (.ref bkt), .unset, .unset, .unset, .unset, .unset, .unset] [(.int p5)])) rfl (by rw [hml]; rfl) (argsL := [(.int p5)]) (rest := []) (lenOf pd_7 rfl) rfl (by show 2 * 0 + _ ≤ _; exact Nat.le_of_eq rfl) (hb hby at_16) (fun _ _ => ⟨rfl, rfl, (by decide : 2 + 1 ≤ _), (by decide : 4 + 2 ≤ _)⟩)
  obtain ⟨Lc179, hQ179, X179⟩ := own_out hP179 X179
  clear hP179
  dsimp only [Pt.U, Pt.locs, Pt.cells, Pt.slots] at X179 st179 hQ179
  obtain ⟨bvh, vh, rfl, Nq179, Kq179, g_bvh, szq_bvh, hvh, V_bvh⟩ := hQ179
  have ne_nv_bvh : nv ≠ bvh := Nat.ne_of_lt (Nat.lt_of_lt_of_le V_nv.lt szq_bvh)
  have ne_bkh_bvh : bkh ≠ bvh := Nat.ne_of_lt (Nat.lt_of_lt_of_le V_bkh.lt szq_bvh)
  have ne_bkt_bvh : bkt ≠ bvh := Nat.ne_of_lt (Nat.lt_of_lt_of_le V_bkt.lt szq_bvh)
  replace V_nv := V_nv.keep Kq179 nin0
  replace S_nv := S_nv.keep Kq179 all0
  replace V_bkh := V_bkh.keep Kq179 nin0
  replace V_bkt := V_bkt.keep Kq179 nin0
  have Z179 : n0 ≤ T179.heap.size := Nat.le_trans Z176 Kq179.1
  have N179 := Fr.app N176 Nq179
  have pr180 : ∀ t, Steps p.tables e below (T179.setTop (mkF m 19 #[.val (.long p1), .second, .val (.long p2), .second, .val (.int p3), .val (.int p4), .val (.int p5), .val (.ref bkh), .val (.ref bkt), .unset, .unset, .unset, .unset, .unset, .unset] [(.ref bvh)])) t → G t := fun t ks => pr178 t (st179 t ks)
  have pr181 : ∀ t, Steps p.tables e below (T179.setTop (mkF m 31 #[.val (.long p1), .second, .val (.long p2), .second, .val (.int p3), .val (.int p4), .val (.int p5), .val (.ref bkh), .val (.ref bkt), .val (.ref bvh), .unset, .unset, .unset, .unset, .unset] [(.int (((Int32.ofNat kh.length) + (8 : Int32)) + (Int32.ofNat kt.length)))])) t → G t := fun t ks => pr180 t (by
      refine XS.astore X179.here hx rfl (hb hby at_19) rfl rfl (l' := #[.val (.long p1), .second, .val (.long p2), .second, .val (.int p3), .val (.int p4), .val (.int p5), .val (.ref bkh), .val (.ref bkt), .val (.ref bvh), .unset, .unset, .unset, .unset, .unset]) rfl ?_
      refine XS.aload X179.here hx rfl (hb hby at_21) rfl rfl ?_
      refine ba_len X179 hx hZ rfl V_bkh (g := (mkF m 23 #[.val (.long p1), .second, .val (.long p2), .second, .val (.int p3), .val (.int p4), .val (.int p5), .val (.ref bkh), .val (.ref bkt), .val (.ref bvh), .unset, .unset, .unset, .unset, .unset] [(.ref bkh)])) rfl rfl (hb hby at_23) _ ?_
      refine XS.bipush X179.here hx rfl (hb hby at_24) ?_
      refine XS.iadd X179.here hx rfl (hb hby at_26) rfl ?_
      refine XS.aload X179.here hx rfl (hb hby at_27) rfl rfl ?_
      refine ba_len X179 hx hZ rfl V_bkt (g := (mkF m 29 #[.val (.long p1), .second, .val (.long p2), .second, .val (.int p3), .val (.int p4), .val (.int p5), .val (.ref bkh), .val (.ref bkt), .val (.ref bvh), .unset, .unset, .unset, .unset, .unset] [(.ref bkt), (.int ((Int32.ofNat kh.length) + (8 : Int32)))])) rfl rfl (hb hby at_29) _ ?_
      refine XS.iadd X179.here hx rfl (hb hby at_30) rfl ?_
      exact ks)
  obtain ⟨T182, h182, X182, e182, E182, A182, st182⟩ := ba_new X179 hx hZ (hw _ (List.mem_of_getElem? (i := 7) rfl)) rfl (g := (mkF m 31 #[.val (.long p1), .second, .val (.long p2), .second, .val (.int p3), .val (.int p4), .val (.int p5), .val (.ref bkh), .val (.ref bkt), .val (.ref bvh), .unset, .unset, .unset, .unset, .unset] [(.int (((Int32.ofNat kh.length) + (8 : Int32)) + (Int32.ofNat kt.length)))])) rfl (hb hby at_31) rfl (N := (kh.length + 8 + kt.length)) own_key (cap := 12) (by omega) (by decide) (by decide) (by decide)
  obtain ⟨bk, g182⟩ : ∃ z, z = T179.heap.size := ⟨_, rfl⟩
  rw [← g182] at A182 st182
  have ne_nv_bk : nv ≠ bk := Nat.ne_of_lt (Nat.lt_of_lt_of_le V_nv.lt (Nat.le_of_eq g182.symm))
  have ne_bkh_bk : bkh ≠ bk := Nat.ne_of_lt (Nat.lt_of_lt_of_le V_bkh.lt (Nat.le_of_eq g182.symm))
  have ne_bkt_bk : bkt ≠ bk := Nat.ne_of_lt (Nat.lt_of_lt_of_le V_bkt.lt (Nat.le_of_eq g182.symm))
  have ne_bvh_bk : bvh ≠ bk := Nat.ne_of_lt (Nat.lt_of_lt_of_le V_bvh.lt (Nat.le_of_eq g182.symm))
  have g_bk : n0 ≤ bk := Nat.le_trans Z179 (Nat.le_of_eq g182.symm)
  replace V_nv := V_nv.ext E182
  replace S_nv := S_nv.ext E182
  replace V_bkh := V_bkh.ext E182
  replace V_bkt := V_bkt.ext E182
  replace V_bvh := V_bvh.ext E182
  have V_bk := A182
  have Z182 : n0 ≤ h182.size := Nat.le_trans Z179 E182.1
  have pr183 : ∀ t, Steps p.tables e below (T182.setTop (mkF m 33 #[.val (.long p1), .second, .val (.long p2), .second, .val (.int p3), .val (.int p4), .val (.int p5), .val (.ref bkh), .val (.ref bkt), .val (.ref bvh), .unset, .unset, .unset, .unset, .unset] [(.ref bk)])) t → G t := fun t ks => pr181 t (st182 t ks)
  have pr184 : ∀ t, Steps p.tables e below (T182.setTop (mkF m 40 #[.val (.long p1), .second, .val (.long p2), .second, .val (.int p3), .val (.int p4), .val (.int p5), .val (.ref bkh), .val (.ref bkt), .val (.ref bvh), .val (.ref bk), .unset, .unset, .unset, .unset] [(.ref bkh), (.int (0 : Int32)), (.ref bk)])) t → G t := fun t ks => pr183 t (by
      refine XS.astore X182.here hx rfl (hb hby at_33) rfl rfl (l' := #[.val (.long p1), .second, .val (.long p2), .second, .val (.int p3), .val (.int p4), .val (.int p5), .val (.ref bkh), .val (.ref bkt), .val (.ref bvh), .val (.ref bk), .unset, .unset, .unset, .unset]) rfl ?_
      refine XS.aload X182.here hx rfl (hb hby at_35) rfl rfl ?_
      refine XS.iconst X182.here hx rfl (hb hby at_37) ?_
      refine XS.aload X182.here hx rfl (hb hby at_38) rfl rfl ?_
      exact ks)
  obtain ⟨_, _, ⟨T185, L185, k185, n185⟩, -, X185, hP185, st185⟩ := Jvm.LawKit.callS X182 hx (y := (⟨"com/example/gneiss/gneiss/store/FormNumberPinLaw", "put", "([BI[B)V"⟩ : MethodName)) hown (mvT hZ (hw _ (List.mem_of_getElem? (i := 8) rfl))) (mvT hZ (hw _ (List.mem_of_getElem? (i := 9) rfl))) (mvT hZ (hw _ (List.mem_of_getElem? (i := 2) rfl))) (mvT hZ (hw _ (List.mem_of_getElem? (i := 10) rfl))) (by decide) (backOf (W := 0) (rmP l Z a0 hw [] bk (0 : Int32) bkh (List.replicate (kh.length + 8 + kt.length) 0) kh 0 h182 n0 Z182 V_bk V_bkh hkh rfl (by simp only [List.length_append, List.length_replicate, own_b8len]; omega) (Ne.symm ne_bkh_bk) g_bk) hZ (hw _ (List.mem_of_getElem? (i := 10) rfl)) (hw _ (List.mem_of_getElem? (i := 2) rfl)) (by decide) (by decide)) (g := (mkF m 40 #[.val (.long p1), .second, .val (.long p2), .second, .val (.int p3), .val (.int p4), .val (.int p5), .val (.ref bkh), .val (.ref bkt), .val (.ref bvh), .val (.ref bk), .unset, .unset, .unset, .unset] [(.ref bkh), (.int (0 : Int32)), (.ref bk)])) rfl (by rw [hml]; rfl) (argsL := [(.ref bk), (.int (0 : Int32)), (.ref bkh)]) (rest := []) (lenOf pd_8 rfl) rfl (by show 2 * 0 + _ ≤ _; exact Nat.le_of_eq rfl) (hb hby at_40) (fun _ _ => ⟨rfl, e182, (by decide : 4 + 0 ≤ _), (by decide : 18 + 0 ≤ _)⟩)
  obtain ⟨Lc185, hQ185, X185⟩ := own_out hP185 X185
  clear hP185
  dsimp only [Pt.U, Pt.locs, Pt.cells, Pt.slots] at X185 st185 hQ185
  obtain ⟨rfl, Nq185, Kq185, V_bk⟩ := hQ185
  replace V_nv := V_nv.keep Kq185 (ninS ne_nv_bk nin0)
  replace S_nv := S_nv.keep Kq185 (allS g_bk all0)
  replace V_bkh := V_bkh.keep Kq185 (ninS ne_bkh_bk nin0)
  replace V_bkt := V_bkt.keep Kq185 (ninS ne_bkt_bk nin0)
  replace V_bvh := V_bvh.keep Kq185 (ninS ne_bvh_bk nin0)
  have Z185 : n0 ≤ T185.heap.size := Nat.le_trans Z182 Kq185.1
  have N185 := Fr.app N179 Nq185
  have pr186 : ∀ t, Steps p.tables e below (T185.setTop (mkF m 43 #[.val (.long p1), .second, .val (.long p2), .second, .val (.int p3), .val (.int p4), .val (.int p5), .val (.ref bkh), .val (.ref bkt), .val (.ref bvh), .val (.ref bk), .unset, .unset, .unset, .unset] [])) t → G t := fun t ks => pr184 t (st185 t ks)
  replace V_bk := V_bk.eq (us := (kh ++ List.replicate (8 + kt.length) 0)) (own_L1 kh kt)
  have pr187 : ∀ t, Steps p.tables e below (T185.setTop (mkF m 49 #[.val (.long p1), .second, .val (.long p2), .second, .val (.int p3), .val (.int p4), .val (.int p5), .val (.ref bkh), .val (.ref bkt), .val (.ref bvh), .val (.ref bk), .unset, .unset, .unset, .unset] [(.long p1), (.int (Int32.ofNat kh.length)), (.ref bk)])) t → G t := fun t ks => pr186 t (by
      refine XS.aload X185.here hx rfl (hb hby at_43) rfl rfl ?_
      refine XS.aload X185.here hx rfl (hb hby at_45) rfl rfl ?_
      refine ba_len X185 hx hZ rfl V_bkh (g := (mkF m 47 #[.val (.long p1), .second, .val (.long p2), .second, .val (.int p3), .val (.int p4), .val (.int p5), .val (.ref bkh), .val (.ref bkt), .val (.ref bvh), .val (.ref bk), .unset, .unset, .unset, .unset] [(.ref bkh), (.ref bk)])) rfl rfl (hb hby at_47) _ ?_
      refine XS.lloadN X185.here hx rfl (hb hby at_48) rfl ?_
      exact ks)
  obtain ⟨_, _, ⟨T188, L188, k188, n188⟩, -, X188, hP188, st188⟩ := Jvm.LawKit.callS X185 hx (y := (⟨"com/example/gneiss/gneiss/store/FormNumberPinLaw", "put8", "([BIJ)V"⟩ : MethodName)) hown (mvT hZ (hw _ (List.mem_of_getElem? (i := 11) rfl))) (mvT hZ (hw _ (List.mem_of_getElem? (i := 12) rfl))) (mvT hZ (hw _ (List.mem_of_getElem? (i := 2) rfl))) (mvT hZ (hw _ (List.mem_of_getElem? (i := 13) rfl))) (by decide) (backOf (W := 0) (rmE l Z a0 hw [] bk (Int32.ofNat kh.length) p1 (kh ++ List.replicate (8 + kt.length) 0) kh.length T185.heap n0 Z185 V_bk rfl (by simp only [List.length_append, List.length_replicate, own_b8len]; omega) g_bk) hZ (hw _ (List.mem_of_getElem? (i := 13) rfl)) (hw _ (List.mem_of_getElem? (i := 2) rfl)) (by decide) (by decide)) (g := (mkF m 49 #[.val (.long p1), .second, .val (.long p2), .second, .val (.int p3), .val (.int p4), .val (.int p5), .val (.ref bkh), .val (.ref bkt), .val (.ref bvh), .val (.ref bk), .unset, .unset, .unset, .unset] [(.long p1), (.int (Int32.ofNat kh.length)), (.ref bk)])) rfl (by rw [hml]; rfl) (argsL := [(.ref bk), (.int (Int32.ofNat kh.length)), (.long p1)]) (rest := []) (lenOf pd_9 rfl) rfl (by show 2 * 0 + _ ≤ _; exact Nat.le_of_eq rfl) (hb hby at_49) (fun _ _ => ⟨rfl, rfl, (by decide : 4 + 0 ≤ _), (by decide : 18 + 0 ≤ _)⟩)
  obtain ⟨Lc188, hQ188, X188⟩ := own_out hP188 X188
  clear hP188
  dsimp only [Pt.U, Pt.locs, Pt.cells, Pt.slots] at X188 st188 hQ188
  obtain ⟨rfl, Nq188, Kq188, V_bk⟩ := hQ188
  replace V_nv := V_nv.keep Kq188 (ninS ne_nv_bk nin0)
  replace S_nv := S_nv.keep Kq188 (allS g_bk all0)
  replace V_bkh := V_bkh.keep Kq188 (ninS ne_bkh_bk nin0)
  replace V_bkt := V_bkt.keep Kq188 (ninS ne_bkt_bk nin0)
  replace V_bvh := V_bvh.keep Kq188 (ninS ne_bvh_bk nin0)
  have Z188 : n0 ≤ T188.heap.size := Nat.le_trans Z185 Kq188.1
  have N188 := Fr.app N185 Nq188
  have pr189 : ∀ t, Steps p.tables e below (T188.setTop (mkF m 52 #[.val (.long p1), .second, .val (.long p2), .second, .val (.int p3), .val (.int p4), .val (.int p5), .val (.ref bkh), .val (.ref bkt), .val (.ref bvh), .val (.ref bk), .unset, .unset, .unset, .unset] [])) t → G t := fun t ks => pr187 t (st188 t ks)
  replace V_bk := V_bk.eq (us := (kh ++ own_b8 p1 ++ List.replicate kt.length 0)) (own_L2 kh kt p1)
  have pr190 : ∀ t, Steps p.tables e below (T188.setTop (mkF m 62 #[.val (.long p1), .second, .val (.long p2), .second, .val (.int p3), .val (.int p4), .val (.int p5), .val (.ref bkh), .val (.ref bkt), .val (.ref bvh), .val (.ref bk), .unset, .unset, .unset, .unset] [(.ref bkt), (.int ((Int32.ofNat kh.length) + (8 : Int32))), (.ref bk)])) t → G t := fun t ks => pr189 t (by
      refine XS.aload X188.here hx rfl (hb hby at_52) rfl rfl ?_
      refine XS.aload X188.here hx rfl (hb hby at_54) rfl rfl ?_
      refine ba_len X188 hx hZ rfl V_bkh (g := (mkF m 56 #[.val (.long p1), .second, .val (.long p2), .second, .val (.int p3), .val (.int p4), .val (.int p5), .val (.ref bkh), .val (.ref bkt), .val (.ref bvh), .val (.ref bk), .unset, .unset, .unset, .unset] [(.ref bkh), (.ref bk)])) rfl rfl (hb hby at_56) _ ?_
      refine XS.bipush X188.here hx rfl (hb hby at_57) ?_
      refine XS.iadd X188.here hx rfl (hb hby at_59) rfl ?_
      refine XS.aload X188.here hx rfl (hb hby at_60) rfl rfl ?_
      exact ks)
  obtain ⟨_, _, ⟨T191, L191, k191, n191⟩, -, X191, hP191, st191⟩ := Jvm.LawKit.callS X188 hx (y := (⟨"com/example/gneiss/gneiss/store/FormNumberPinLaw", "put", "([BI[B)V"⟩ : MethodName)) hown (mvT hZ (hw _ (List.mem_of_getElem? (i := 8) rfl))) (mvT hZ (hw _ (List.mem_of_getElem? (i := 9) rfl))) (mvT hZ (hw _ (List.mem_of_getElem? (i := 2) rfl))) (mvT hZ (hw _ (List.mem_of_getElem? (i := 10) rfl))) (by decide) (backOf (W := 0) (rmP l Z a0 hw [] bk ((Int32.ofNat kh.length) + (8 : Int32)) bkt (kh ++ own_b8 p1 ++ List.replicate kt.length 0) kt (kh.length + 8) T188.heap n0 Z188 V_bk V_bkt hkt own_eight8 (by simp only [List.length_append, List.length_replicate, own_b8len]; omega) (Ne.symm ne_bkt_bk) g_bk) hZ (hw _ (List.mem_of_getElem? (i := 10) rfl)) (hw _ (List.mem_of_getElem? (i := 2) rfl)) (by decide) (by decide)) (g := (mkF m 62 #[.val (.long p1), .second, .val (.long p2), .second, .val (.int p3), .val (.int p4), .val (.int p5), .val (.ref bkh), .val (.ref bkt), .val (.ref bvh), .val (.ref bk), .unset, .unset, .unset, .unset] [(.ref bkt), (.int ((Int32.ofNat kh.length) + (8 : Int32))), (.ref bk)])) rfl (by rw [hml]; rfl) (argsL := [(.ref bk), (.int ((Int32.ofNat kh.length) + (8 : Int32))), (.ref bkt)]) (rest := []) (lenOf pd_8 rfl) rfl (by show 2 * 0 + _ ≤ _; exact Nat.le_of_eq rfl) (hb hby at_62) (fun _ _ => ⟨rfl, rfl, (by decide : 4 + 0 ≤ _), (by decide : 18 + 0 ≤ _)⟩)
  obtain ⟨Lc191, hQ191, X191⟩ := own_out hP191 X191
  clear hP191
  dsimp only [Pt.U, Pt.locs, Pt.cells, Pt.slots] at X191 st191 hQ191
  obtain ⟨rfl, Nq191, Kq191, V_bk⟩ := hQ191
  replace V_nv := V_nv.keep Kq191 (ninS ne_nv_bk nin0)
  replace S_nv := S_nv.keep Kq191 (allS g_bk all0)
  replace V_bkh := V_bkh.keep Kq191 (ninS ne_bkh_bk nin0)
  replace V_bkt := V_bkt.keep Kq191 (ninS ne_bkt_bk nin0)
  replace V_bvh := V_bvh.keep Kq191 (ninS ne_bvh_bk nin0)
  have Z191 : n0 ≤ T191.heap.size := Nat.le_trans Z188 Kq191.1
  have N191 := Fr.app N188 Nq191
  have pr192 : ∀ t, Steps p.tables e below (T191.setTop (mkF m 65 #[.val (.long p1), .second, .val (.long p2), .second, .val (.int p3), .val (.int p4), .val (.int p5), .val (.ref bkh), .val (.ref bkt), .val (.ref bvh), .val (.ref bk), .unset, .unset, .unset, .unset] [])) t → G t := fun t ks => pr190 t (st191 t ks)
  replace V_bk := V_bk.eq (us := (kh ++ own_b8 p1 ++ kt)) (own_L3 kh kt p1)
  have pr193 : ∀ t, Steps p.tables e below (T191.setTop (mkF m 71 #[.val (.long p1), .second, .val (.long p2), .second, .val (.int p3), .val (.int p4), .val (.int p5), .val (.ref bkh), .val (.ref bkt), .val (.ref bvh), .val (.ref bk), .unset, .unset, .unset, .unset] [(.int ((Int32.ofNat vh.length) + (8 : Int32)))])) t → G t := fun t ks => pr192 t (by
      refine XS.aload X191.here hx rfl (hb hby at_65) rfl rfl ?_
      refine ba_len X191 hx hZ rfl V_bvh (g := (mkF m 67 #[.val (.long p1), .second, .val (.long p2), .second, .val (.int p3), .val (.int p4), .val (.int p5), .val (.ref bkh), .val (.ref bkt), .val (.ref bvh), .val (.ref bk), .unset, .unset, .unset, .unset] [(.ref bvh)])) rfl rfl (hb hby at_67) _ ?_
      refine XS.bipush X191.here hx rfl (hb hby at_68) ?_
      refine XS.iadd X191.here hx rfl (hb hby at_70) rfl ?_
      exact ks)
  obtain ⟨T194, h194, X194, e194, E194, A194, st194⟩ := ba_new X191 hx hZ (hw _ (List.mem_of_getElem? (i := 7) rfl)) rfl (g := (mkF m 71 #[.val (.long p1), .second, .val (.long p2), .second, .val (.int p3), .val (.int p4), .val (.int p5), .val (.ref bkh), .val (.ref bkt), .val (.ref bvh), .val (.ref bk), .unset, .unset, .unset, .unset] [(.int ((Int32.ofNat vh.length) + (8 : Int32)))])) rfl (hb hby at_71) rfl (N := (vh.length + 8)) own_eight8 (cap := 10) (by omega) (by decide) (by decide) (by decide)
  obtain ⟨bw, g194⟩ : ∃ z, z = T191.heap.size := ⟨_, rfl⟩
  rw [← g194] at A194 st194
  have ne_nv_bw : nv ≠ bw := Nat.ne_of_lt (Nat.lt_of_lt_of_le V_nv.lt (Nat.le_of_eq g194.symm))
  have ne_bkh_bw : bkh ≠ bw := Nat.ne_of_lt (Nat.lt_of_lt_of_le V_bkh.lt (Nat.le_of_eq g194.symm))
  have ne_bkt_bw : bkt ≠ bw := Nat.ne_of_lt (Nat.lt_of_lt_of_le V_bkt.lt (Nat.le_of_eq g194.symm))
  have ne_bvh_bw : bvh ≠ bw := Nat.ne_of_lt (Nat.lt_of_lt_of_le V_bvh.lt (Nat.le_of_eq g194.symm))
  have ne_bk_bw : bk ≠ bw := Nat.ne_of_lt (Nat.lt_of_lt_of_le V_bk.lt (Nat.le_of_eq g194.symm))
  have g_bw : n0 ≤ bw := Nat.le_trans Z191 (Nat.le_of_eq g194.symm)
  replace V_nv := V_nv.ext E194
  replace S_nv := S_nv.ext E194
  replace V_bkh := V_bkh.ext E194
  replace V_bkt := V_bkt.ext E194
  replace V_bvh := V_bvh.ext E194
  replace V_bk := V_bk.ext E194
  have V_bw := A194
  have Z194 : n0 ≤ h194.size := Nat.le_trans Z191 E194.1
  have pr195 : ∀ t, Steps p.tables e below (T194.setTop (mkF m 73 #[.val (.long p1), .second, .val (.long p2), .second, .val (.int p3), .val (.int p4), .val (.int p5), .val (.ref bkh), .val (.ref bkt), .val (.ref bvh), .val (.ref bk), .unset, .unset, .unset, .unset] [(.ref bw)])) t → G t := fun t ks => pr193 t (st194 t ks)
  have pr196 : ∀ t, Steps p.tables e below (T194.setTop (mkF m 80 #[.val (.long p1), .second, .val (.long p2), .second, .val (.int p3), .val (.int p4), .val (.int p5), .val (.ref bkh), .val (.ref bkt), .val (.ref bvh), .val (.ref bk), .val (.ref bw), .unset, .unset, .unset] [(.ref bvh), (.int (0 : Int32)), (.ref bw)])) t → G t := fun t ks => pr195 t (by
      refine XS.astore X194.here hx rfl (hb hby at_73) rfl rfl (l' := #[.val (.long p1), .second, .val (.long p2), .second, .val (.int p3), .val (.int p4), .val (.int p5), .val (.ref bkh), .val (.ref bkt), .val (.ref bvh), .val (.ref bk), .val (.ref bw), .unset, .unset, .unset]) rfl ?_
      refine XS.aload X194.here hx rfl (hb hby at_75) rfl rfl ?_
      refine XS.iconst X194.here hx rfl (hb hby at_77) ?_
      refine XS.aload X194.here hx rfl (hb hby at_78) rfl rfl ?_
      exact ks)
  obtain ⟨_, _, ⟨T197, L197, k197, n197⟩, -, X197, hP197, st197⟩ := Jvm.LawKit.callS X194 hx (y := (⟨"com/example/gneiss/gneiss/store/FormNumberPinLaw", "put", "([BI[B)V"⟩ : MethodName)) hown (mvT hZ (hw _ (List.mem_of_getElem? (i := 8) rfl))) (mvT hZ (hw _ (List.mem_of_getElem? (i := 9) rfl))) (mvT hZ (hw _ (List.mem_of_getElem? (i := 2) rfl))) (mvT hZ (hw _ (List.mem_of_getElem? (i := 10) rfl))) (by decide) (backOf (W := 0) (rmP l Z a0 hw [] bw (0 : Int32) bvh (List.replicate (vh.length + 8) 0) vh 0 h194 n0 Z194 V_bw V_bvh hvh rfl (by simp only [List.length_append, List.length_replicate, own_b8len]; omega) (Ne.symm ne_bvh_bw) g_bw) hZ (hw _ (List.mem_of_getElem? (i := 10) rfl)) (hw _ (List.mem_of_getElem? (i := 2) rfl)) (by decide) (by decide)) (g := (mkF m 80 #[.val (.long p1), .second, .val (.long p2), .second, .val (.int p3), .val (.int p4), .val (.int p5), .val (.ref bkh), .val (.ref bkt), .val (.ref bvh), .val (.ref bk), .val (.ref bw), .unset, .unset, .unset] [(.ref bvh), (.int (0 : Int32)), (.ref bw)])) rfl (by rw [hml]; rfl) (argsL := [(.ref bw), (.int (0 : Int32)), (.ref bvh)]) (rest := []) (lenOf pd_8 rfl) rfl (by show 2 * 0 + _ ≤ _; exact Nat.le_of_eq rfl) (hb hby at_80) (fun _ _ => ⟨rfl, e194, (by decide : 5 + 0 ≤ _), (by decide : 28 + 0 ≤ _)⟩)
  obtain ⟨Lc197, hQ197, X197⟩ := own_out hP197 X197
  clear hP197
  dsimp only [Pt.U, Pt.locs, Pt.cells, Pt.slots] at X197 st197 hQ197
  obtain ⟨rfl, Nq197, Kq197, V_bw⟩ := hQ197
  replace V_nv := V_nv.keep Kq197 (ninS ne_nv_bw nin0)
  replace S_nv := S_nv.keep Kq197 (allS g_bw all0)
  replace V_bkh := V_bkh.keep Kq197 (ninS ne_bkh_bw nin0)
  replace V_bkt := V_bkt.keep Kq197 (ninS ne_bkt_bw nin0)
  replace V_bvh := V_bvh.keep Kq197 (ninS ne_bvh_bw nin0)
  replace V_bk := V_bk.keep Kq197 (ninS ne_bk_bw nin0)
  have Z197 : n0 ≤ T197.heap.size := Nat.le_trans Z194 Kq197.1
  have N197 := Fr.app N191 Nq197
  have pr198 : ∀ t, Steps p.tables e below (T197.setTop (mkF m 83 #[.val (.long p1), .second, .val (.long p2), .second, .val (.int p3), .val (.int p4), .val (.int p5), .val (.ref bkh), .val (.ref bkt), .val (.ref bvh), .val (.ref bk), .val (.ref bw), .unset, .unset, .unset] [])) t → G t := fun t ks => pr196 t (st197 t ks)
  replace V_bw := V_bw.eq (us := (vh ++ List.replicate 8 0)) (own_L4 vh)
  have pr199 : ∀ t, Steps p.tables e below (T197.setTop (mkF m 89 #[.val (.long p1), .second, .val (.long p2), .second, .val (.int p3), .val (.int p4), .val (.int p5), .val (.ref bkh), .val (.ref bkt), .val (.ref bvh), .val (.ref bk), .val (.ref bw), .unset, .unset, .unset] [(.long p2), (.int (Int32.ofNat vh.length)), (.ref bw)])) t → G t := fun t ks => pr198 t (by
      refine XS.aload X197.here hx rfl (hb hby at_83) rfl rfl ?_
      refine XS.aload X197.here hx rfl (hb hby at_85) rfl rfl ?_
      refine ba_len X197 hx hZ rfl V_bvh (g := (mkF m 87 #[.val (.long p1), .second, .val (.long p2), .second, .val (.int p3), .val (.int p4), .val (.int p5), .val (.ref bkh), .val (.ref bkt), .val (.ref bvh), .val (.ref bk), .val (.ref bw), .unset, .unset, .unset] [(.ref bvh), (.ref bw)])) rfl rfl (hb hby at_87) _ ?_
      refine XS.lloadN X197.here hx rfl (hb hby at_88) rfl ?_
      exact ks)
  obtain ⟨_, _, ⟨T200, L200, k200, n200⟩, -, X200, hP200, st200⟩ := Jvm.LawKit.callS X197 hx (y := (⟨"com/example/gneiss/gneiss/store/FormNumberPinLaw", "put8", "([BIJ)V"⟩ : MethodName)) hown (mvT hZ (hw _ (List.mem_of_getElem? (i := 11) rfl))) (mvT hZ (hw _ (List.mem_of_getElem? (i := 12) rfl))) (mvT hZ (hw _ (List.mem_of_getElem? (i := 2) rfl))) (mvT hZ (hw _ (List.mem_of_getElem? (i := 13) rfl))) (by decide) (backOf (W := 0) (rmE l Z a0 hw [] bw (Int32.ofNat vh.length) p2 (vh ++ List.replicate 8 0) vh.length T197.heap n0 Z197 V_bw rfl (by simp only [List.length_append, List.length_replicate, own_b8len]; omega) g_bw) hZ (hw _ (List.mem_of_getElem? (i := 13) rfl)) (hw _ (List.mem_of_getElem? (i := 2) rfl)) (by decide) (by decide)) (g := (mkF m 89 #[.val (.long p1), .second, .val (.long p2), .second, .val (.int p3), .val (.int p4), .val (.int p5), .val (.ref bkh), .val (.ref bkt), .val (.ref bvh), .val (.ref bk), .val (.ref bw), .unset, .unset, .unset] [(.long p2), (.int (Int32.ofNat vh.length)), (.ref bw)])) rfl (by rw [hml]; rfl) (argsL := [(.ref bw), (.int (Int32.ofNat vh.length)), (.long p2)]) (rest := []) (lenOf pd_9 rfl) rfl (by show 2 * 0 + _ ≤ _; exact Nat.le_of_eq rfl) (hb hby at_89) (fun _ _ => ⟨rfl, rfl, (by decide : 5 + 0 ≤ _), (by decide : 28 + 0 ≤ _)⟩)
  obtain ⟨Lc200, hQ200, X200⟩ := own_out hP200 X200
  clear hP200
  dsimp only [Pt.U, Pt.locs, Pt.cells, Pt.slots] at X200 st200 hQ200
  obtain ⟨rfl, Nq200, Kq200, V_bw⟩ := hQ200
  replace V_nv := V_nv.keep Kq200 (ninS ne_nv_bw nin0)
  replace S_nv := S_nv.keep Kq200 (allS g_bw all0)
  replace V_bkh := V_bkh.keep Kq200 (ninS ne_bkh_bw nin0)
  replace V_bkt := V_bkt.keep Kq200 (ninS ne_bkt_bw nin0)
  replace V_bvh := V_bvh.keep Kq200 (ninS ne_bvh_bw nin0)
  replace V_bk := V_bk.keep Kq200 (ninS ne_bk_bw nin0)
  have Z200 : n0 ≤ T200.heap.size := Nat.le_trans Z197 Kq200.1
  have N200 := Fr.app N197 Nq200
  have pr201 : ∀ t, Steps p.tables e below (T200.setTop (mkF m 92 #[.val (.long p1), .second, .val (.long p2), .second, .val (.int p3), .val (.int p4), .val (.int p5), .val (.ref bkh), .val (.ref bkt), .val (.ref bvh), .val (.ref bk), .val (.ref bw), .unset, .unset, .unset] [])) t → G t := fun t ks => pr199 t (st200 t ks)
  replace V_bw := V_bw.eq (us := (vh ++ own_b8 p2)) (own_L5 vh p2)
  obtain ⟨T202, h202, X202, e202, E202, A202, D202, -, st202⟩ := newO X200 hx hZ hown (hw _ (List.mem_of_getElem? (i := 14) rfl)) (hw _ (List.mem_of_getElem? (i := 15) rfl)) (hw _ (List.mem_of_getElem? (i := 16) rfl)) rfl (g := (mkF m 92 #[.val (.long p1), .second, .val (.long p2), .second, .val (.int p3), .val (.int p4), .val (.int p5), .val (.ref bkh), .val (.ref bkt), .val (.ref bvh), .val (.ref bk), .val (.ref bw), .unset, .unset, .unset] [])) rfl (hb hby at_92) (by decide) (by decide)
  obtain ⟨fo, g202⟩ : ∃ z, z = T200.heap.size := ⟨_, rfl⟩
  rw [← g202] at A202 D202 st202
  have ne_nv_fo : nv ≠ fo := Nat.ne_of_lt (Nat.lt_of_lt_of_le V_nv.lt (Nat.le_of_eq g202.symm))
  have ne_bkh_fo : bkh ≠ fo := Nat.ne_of_lt (Nat.lt_of_lt_of_le V_bkh.lt (Nat.le_of_eq g202.symm))
  have ne_bkt_fo : bkt ≠ fo := Nat.ne_of_lt (Nat.lt_of_lt_of_le V_bkt.lt (Nat.le_of_eq g202.symm))
  have ne_bvh_fo : bvh ≠ fo := Nat.ne_of_lt (Nat.lt_of_lt_of_le V_bvh.lt (Nat.le_of_eq g202.symm))
  have ne_bk_fo : bk ≠ fo := Nat.ne_of_lt (Nat.lt_of_lt_of_le V_bk.lt (Nat.le_of_eq g202.symm))
  have ne_bw_fo : bw ≠ fo := Nat.ne_of_lt (Nat.lt_of_lt_of_le V_bw.lt (Nat.le_of_eq g202.symm))
  have g_fo : n0 ≤ fo := Nat.le_trans Z200 (Nat.le_of_eq g202.symm)
  replace V_nv := V_nv.ext E202
  replace S_nv := S_nv.ext E202
  replace V_bkh := V_bkh.ext E202
  replace V_bkt := V_bkt.ext E202
  replace V_bvh := V_bvh.ext E202
  replace V_bk := V_bk.ext E202
  replace V_bw := V_bw.ext E202
  have E_fo := A202
  have F_fo_keyHead : Fld Z h202 fo "com/example/gneiss/gneiss/store/Pairs$Form" "keyHead" "[B" .null := D202 (Or.inr (hw _ (List.mem_of_getElem? (i := 33) rfl))) (ty := (.array .byte)) (by decide)
  have F_fo_keyTail : Fld Z h202 fo "com/example/gneiss/gneiss/store/Pairs$Form" "keyTail" "[B" .null := D202 (Or.inr (hw _ (List.mem_of_getElem? (i := 35) rfl))) (ty := (.array .byte)) (by decide)
  have F_fo_valueHead : Fld Z h202 fo "com/example/gneiss/gneiss/store/Pairs$Form" "valueHead" "[B" .null := D202 (Or.inr (hw _ (List.mem_of_getElem? (i := 37) rfl))) (ty := (.array .byte)) (by decide)
  have F_fo_before : Fld Z h202 fo "com/example/gneiss/gneiss/store/Pairs$Form" "before" "[B" .null := D202 (Or.inr (hw _ (List.mem_of_getElem? (i := 68) rfl))) (ty := (.array .byte)) (by decide)
  have F_fo_after : Fld Z h202 fo "com/example/gneiss/gneiss/store/Pairs$Form" "after" "[B" .null := D202 (Or.inr (hw _ (List.mem_of_getElem? (i := 71) rfl))) (ty := (.array .byte)) (by decide)
  have Z202 : n0 ≤ h202.size := Nat.le_trans Z200 E202.1
  have pr203 : ∀ t, Steps p.tables e below (T202.setTop (mkF m 95 #[.val (.long p1), .second, .val (.long p2), .second, .val (.int p3), .val (.int p4), .val (.int p5), .val (.ref bkh), .val (.ref bkt), .val (.ref bvh), .val (.ref bk), .val (.ref bw), .unset, .unset, .unset] [(.ref fo)])) t → G t := fun t ks => pr201 t (st202 t ks)
  have pr204 : ∀ t, Steps p.tables e below (T202.setTop (mkF m 102 #[.val (.long p1), .second, .val (.long p2), .second, .val (.int p3), .val (.int p4), .val (.int p5), .val (.ref bkh), .val (.ref bkt), .val (.ref bvh), .val (.ref bk), .val (.ref bw), .unset, .unset, .unset] [(.ref bvh), (.ref bkt), (.ref bkh), (.ref fo), (.ref fo)])) t → G t := fun t ks => pr203 t (by
      refine XS.dup X202.here hx rfl (hb hby at_95) rfl rfl ?_
      refine XS.aload X202.here hx rfl (hb hby at_96) rfl rfl ?_
      refine XS.aload X202.here hx rfl (hb hby at_98) rfl rfl ?_
      refine XS.aload X202.here hx rfl (hb hby at_100) rfl rfl ?_
      exact ks)
  obtain ⟨_, _, ⟨T205, L205, k205, n205⟩, -, X205, hP205, st205⟩ := X202.specialBack hx (y := (⟨"com/example/gneiss/gneiss/store/Pairs$Form", "<init>", "([B[B[B)V"⟩ : MethodName)) rfl hown (mvT hZ (hw _ (List.mem_of_getElem? (i := 17) rfl))) (mvT hZ (hw _ (List.mem_of_getElem? (i := 18) rfl))) (mvT hZ (hw _ (List.mem_of_getElem? (i := 19) rfl))) (by decide) (backOf (W := 1) (rmF l Z a0 hw [] fo bkh bkt bvh nv kh kt vh h202 n0 Z202 E_fo F_fo_keyHead F_fo_keyTail F_fo_valueHead F_fo_before F_fo_after V_bkh V_bkt V_bvh S_nv V_nv hkh hkt hvh g_fo (Ne.symm ne_bkh_fo) (Ne.symm ne_bkt_fo) (Ne.symm ne_bvh_fo) (Ne.symm ne_nv_fo)) hZ (hw _ (List.mem_of_getElem? (i := 19) rfl)) (hw _ (List.mem_of_getElem? (i := 16) rfl)) (by decide) (by decide)) (g := (mkF m 102 #[.val (.long p1), .second, .val (.long p2), .second, .val (.int p3), .val (.int p4), .val (.int p5), .val (.ref bkh), .val (.ref bkt), .val (.ref bvh), .val (.ref bk), .val (.ref bw), .unset, .unset, .unset] [(.ref bvh), (.ref bkt), (.ref bkh), (.ref fo), (.ref fo)])) rfl (by rw [hml]; rfl) (Steps.refl _) (a := fo) (argsL := [(.ref bkh), (.ref bkt), (.ref bvh)]) (rest := [(.ref fo)]) (lenOf pd_10 rfl) rfl (by show 2 * 0 + _ ≤ _; exact Nat.le_of_eq rfl) (hb hby at_102) (fun _ _ => ⟨rfl, e202, (by decide : 6 + 6 ≤ _), (by decide : 33 + 102 ≤ _)⟩)
  obtain ⟨Lc205, hQ205, X205⟩ := own_out hP205 X205
  clear hP205
  dsimp only [Pt.U, Pt.locs, Pt.cells, Pt.slots] at X205 st205 hQ205
  obtain ⟨rfl, Nq205, Kq205, E_fo', qv, qa, qb, F_fo_valueHead, F_fo_after, F_fo_before, V_qv, V_qa, V_qb⟩ := hQ205
  replace V_nv := V_nv.keep Kq205 (ninS ne_nv_fo nin0)
  replace S_nv := S_nv.keep Kq205 (allS g_fo all0)
  replace V_bkh := V_bkh.keep Kq205 (ninS ne_bkh_fo nin0)
  replace V_bkt := V_bkt.keep Kq205 (ninS ne_bkt_fo nin0)
  replace V_bvh := V_bvh.keep Kq205 (ninS ne_bvh_fo nin0)
  replace V_bk := V_bk.keep Kq205 (ninS ne_bk_fo nin0)
  replace V_bw := V_bw.keep Kq205 (ninS ne_bw_fo nin0)
  replace E_fo := E_fo.keep Kq205
  have Z205 : n0 ≤ T205.heap.size := Nat.le_trans Z202 Kq205.1
  have N205 := Fr.app N200 Nq205
  have pr206 : ∀ t, Steps p.tables e below (T205.setTop (mkF m 105 #[.val (.long p1), .second, .val (.long p2), .second, .val (.int p3), .val (.int p4), .val (.int p5), .val (.ref bkh), .val (.ref bkt), .val (.ref bvh), .val (.ref bk), .val (.ref bw), .unset, .unset, .unset] [(.ref fo)])) t → G t := fun t ks => pr204 t (st205.trans ks)
  have pr207 : ∀ t, Steps p.tables e below (T205.setTop (mkF m 111 #[.val (.long p1), .second, .val (.long p2), .second, .val (.int p3), .val (.int p4), .val (.int p5), .val (.ref bkh), .val (.ref bkt), .val (.ref bvh), .val (.ref bk), .val (.ref bw), .val (.ref fo), .unset, .unset] [(.ref bw), (.ref bk)])) t → G t := fun t ks => pr206 t (by
      refine XS.astore X205.here hx rfl (hb hby at_105) rfl rfl (l' := #[.val (.long p1), .second, .val (.long p2), .second, .val (.int p3), .val (.int p4), .val (.int p5), .val (.ref bkh), .val (.ref bkt), .val (.ref bvh), .val (.ref bk), .val (.ref bw), .val (.ref fo), .unset, .unset]) rfl ?_
      refine XS.aload X205.here hx rfl (hb hby at_107) rfl rfl ?_
      refine XS.aload X205.here hx rfl (hb hby at_109) rfl rfl ?_
      exact ks)
  obtain ⟨_, _, ⟨T208, L208, k208, n208⟩, -, X208, hP208, st208⟩ := Jvm.LawKit.callS X205 hx (y := (⟨"com/example/gneiss/gneiss/store/Pairs", "pair", "([B[B)[B"⟩ : MethodName)) hown (mvT hZ (hw _ (List.mem_of_getElem? (i := 72) rfl))) (mvT hZ (hw _ (List.mem_of_getElem? (i := 45) rfl))) (mvT hZ (hw _ (List.mem_of_getElem? (i := 40) rfl))) (mvT hZ (hw _ (List.mem_of_getElem? (i := 46) rfl))) (by decide) (backOf (W := 0) (rmA l Z a0 hw [] bk bw (kh ++ own_b8 p1 ++ kt) (vh ++ own_b8 p2) T205.heap n0 Z205 V_bk V_bw (by simp only [List.length_append, List.length_replicate, own_b8len]; omega) (by simp only [List.length_append, List.length_replicate, own_b8len]; omega)) hZ (hw _ (List.mem_of_getElem? (i := 46) rfl)) (hw _ (List.mem_of_getElem? (i := 40) rfl)) (by decide) (by decide)) (g := (mkF m 111 #[.val (.long p1), .second, .val (.long p2), .second, .val (.int p3), .val (.int p4), .val (.int p5), .val (.ref bkh), .val (.ref bkt), .val (.ref bvh), .val (.ref bk), .val (.ref bw), .val (.ref fo), .unset, .unset] [(.ref bw), (.ref bk)])) rfl (by rw [hml]; rfl) (argsL := [(.ref bk), (.ref bw)]) (rest := []) (lenOf pd_3 rfl) rfl (by show 2 * 0 + _ ≤ _; exact Nat.le_of_eq rfl) (hb hby at_111) (fun _ _ => ⟨rfl, rfl, (by decide : 12 + 1 ≤ _), (by decide : 135 + 36 ≤ _)⟩)
  obtain ⟨Lc208, hQ208, X208⟩ := own_out hP208 X208
  clear hP208
  dsimp only [Pt.U, Pt.locs, Pt.cells, Pt.slots] at X208 st208 hQ208
  obtain ⟨pa, rfl, Nq208, Kq208, g_pa, szq_pa, V_pa⟩ := hQ208
  have ne_nv_pa : nv ≠ pa := Nat.ne_of_lt (Nat.lt_of_lt_of_le V_nv.lt szq_pa)
  have ne_bkh_pa : bkh ≠ pa := Nat.ne_of_lt (Nat.lt_of_lt_of_le V_bkh.lt szq_pa)
  have ne_bkt_pa : bkt ≠ pa := Nat.ne_of_lt (Nat.lt_of_lt_of_le V_bkt.lt szq_pa)
  have ne_bvh_pa : bvh ≠ pa := Nat.ne_of_lt (Nat.lt_of_lt_of_le V_bvh.lt szq_pa)
  have ne_bk_pa : bk ≠ pa := Nat.ne_of_lt (Nat.lt_of_lt_of_le V_bk.lt szq_pa)
  have ne_bw_pa : bw ≠ pa := Nat.ne_of_lt (Nat.lt_of_lt_of_le V_bw.lt szq_pa)
  have ne_fo_pa : fo ≠ pa := Nat.ne_of_lt (Nat.lt_of_lt_of_le E_fo.lt szq_pa)
  have ne_qv_pa : qv ≠ pa := Nat.ne_of_lt (Nat.lt_of_lt_of_le V_qv.lt szq_pa)
  have ne_qa_pa : qa ≠ pa := Nat.ne_of_lt (Nat.lt_of_lt_of_le V_qa.lt szq_pa)
  have ne_qb_pa : qb ≠ pa := Nat.ne_of_lt (Nat.lt_of_lt_of_le V_qb.lt szq_pa)
  replace V_nv := V_nv.keep Kq208 nin0
  replace S_nv := S_nv.keep Kq208 all0
  replace V_bkh := V_bkh.keep Kq208 nin0
  replace V_bkt := V_bkt.keep Kq208 nin0
  replace V_bvh := V_bvh.keep Kq208 nin0
  replace V_bk := V_bk.keep Kq208 nin0
  replace V_bw := V_bw.keep Kq208 nin0
  replace E_fo := E_fo.keep Kq208
  replace F_fo_valueHead := F_fo_valueHead.keep Kq208 nin0
  replace F_fo_after := F_fo_after.keep Kq208 nin0
  replace F_fo_before := F_fo_before.keep Kq208 nin0
  replace V_qv := V_qv.keep Kq208 nin0
  replace V_qa := V_qa.keep Kq208 nin0
  replace V_qb := V_qb.keep Kq208 nin0
  have Z208 : n0 ≤ T208.heap.size := Nat.le_trans Z205 Kq208.1
  have N208 := Fr.app N205 Nq208
  have pr209 : ∀ t, Steps p.tables e below (T208.setTop (mkF m 114 #[.val (.long p1), .second, .val (.long p2), .second, .val (.int p3), .val (.int p4), .val (.int p5), .val (.ref bkh), .val (.ref bkt), .val (.ref bvh), .val (.ref bk), .val (.ref bw), .val (.ref fo), .unset, .unset] [(.ref pa)])) t → G t := fun t ks => pr207 t (st208 t ks)
  replace V_pa := V_pa.eq (us := own_esc kh ++ own_esc (own_b8 p1) ++ (own_esc kt ++ [0, 0] ++ vh ++ own_b8 p2)) (own_L6 kh kt vh p1 p2)
  have hel1 := own_esc_len kh
  have hel2 := own_esc_len kt
  have hel3 := own_esc_len (own_b8 p1)
  rw [own_b8len] at hel3
  have pr210 : ∀ t, Steps p.tables e below (T208.setTop (mkF m 126 #[.val (.long p1), .second, .val (.long p2), .second, .val (.int p3), .val (.int p4), .val (.int p5), .val (.ref bkh), .val (.ref bkt), .val (.ref bvh), .val (.ref bk), .val (.ref bw), .val (.ref fo), .val (.ref pa), .unset] [(.int (((Int32.ofNat (own_esc kh ++ own_esc (own_b8 p1) ++ (own_esc kt ++ [0, 0] ++ vh ++ own_b8 p2)).length) - (8 : Int32)) - (Int32.ofNat vh.length)))])) t → G t := fun t ks => pr209 t (by
      refine XS.astore X208.here hx rfl (hb hby at_114) rfl rfl (l' := #[.val (.long p1), .second, .val (.long p2), .second, .val (.int p3), .val (.int p4), .val (.int p5), .val (.ref bkh), .val (.ref bkt), .val (.ref bvh), .val (.ref bk), .val (.ref bw), .val (.ref fo), .val (.ref pa), .unset]) rfl ?_
      refine XS.aload X208.here hx rfl (hb hby at_116) rfl rfl ?_
      refine ba_len X208 hx hZ rfl V_pa (g := (mkF m 118 #[.val (.long p1), .second, .val (.long p2), .second, .val (.int p3), .val (.int p4), .val (.int p5), .val (.ref bkh), .val (.ref bkt), .val (.ref bvh), .val (.ref bk), .val (.ref bw), .val (.ref fo), .val (.ref pa), .unset] [(.ref pa)])) rfl rfl (hb hby at_118) _ ?_
      refine XS.bipush X208.here hx rfl (hb hby at_119) ?_
      refine XS.isub X208.here hx rfl (hb hby at_121) rfl ?_
      refine XS.aload X208.here hx rfl (hb hby at_122) rfl rfl ?_
      refine ba_len X208 hx hZ rfl V_bvh (g := (mkF m 124 #[.val (.long p1), .second, .val (.long p2), .second, .val (.int p3), .val (.int p4), .val (.int p5), .val (.ref bkh), .val (.ref bkt), .val (.ref bvh), .val (.ref bk), .val (.ref bw), .val (.ref fo), .val (.ref pa), .unset] [(.ref bvh), (.int ((Int32.ofNat (own_esc kh ++ own_esc (own_b8 p1) ++ (own_esc kt ++ [0, 0] ++ vh ++ own_b8 p2)).length) - (8 : Int32)))])) rfl rfl (hb hby at_124) _ ?_
      refine XS.isub X208.here hx rfl (hb hby at_125) rfl ?_
      exact ks)
  obtain ⟨stv, hstv⟩ : ∃ z : Int32, z = (((Int32.ofNat (own_esc kh ++ own_esc (own_b8 p1) ++ (own_esc kt ++ [0, 0] ++ vh ++ own_b8 p2)).length) - (8 : Int32)) - (Int32.ofNat vh.length)) := ⟨_, rfl⟩
  rw [← hstv] at pr210
  have hst : stv = Int32.ofNat ((own_esc kh).length + (own_esc (own_b8 p1)).length + (own_esc kt).length + 2) := own_L7 hkh hkt hvh hstv
  have pr211 : ∀ t, Steps p.tables e below (T208.setTop (mkF m 134 #[.val (.long p1), .second, .val (.long p2), .second, .val (.int p3), .val (.int p4), .val (.int p5), .val (.ref bkh), .val (.ref bkt), .val (.ref bvh), .val (.ref bk), .val (.ref bw), .val (.ref fo), .val (.ref pa), .val (.int stv)] [(.int stv), (.ref pa), (.ref fo)])) t → G t := fun t ks => pr210 t (by
      refine XS.istore X208.here hx rfl (hb hby at_126) rfl (l' := #[.val (.long p1), .second, .val (.long p2), .second, .val (.int p3), .val (.int p4), .val (.int p5), .val (.ref bkh), .val (.ref bkt), .val (.ref bvh), .val (.ref bk), .val (.ref bw), .val (.ref fo), .val (.ref pa), .val (.int stv)]) rfl ?_
      refine XS.aload X208.here hx rfl (hb hby at_128) rfl rfl ?_
      refine XS.aload X208.here hx rfl (hb hby at_130) rfl rfl ?_
      refine XS.iload X208.here hx rfl (hb hby at_132) rfl ?_
      exact ks)
  obtain ⟨cq212, kq212, q212a, q212b, q212c⟩ := isOf hZ rfl E_fo
  obtain ⟨_, _, ⟨T212, L212, k212, n212⟩, -, X212, hP212, st212⟩ := X208.virtualBack hx (y := (⟨"com/example/gneiss/gneiss/store/Pairs$Form", "number", "([BI)J"⟩ : MethodName)) (z := (⟨"com/example/gneiss/gneiss/store/Pairs$Form", "number", "([BI)J"⟩ : MethodName)) hown (mvT hZ (hw _ (List.mem_of_getElem? (i := 73) rfl))) (mvT hZ (hw _ (List.mem_of_getElem? (i := 74) rfl))) (notFace_of_selects (args := #[]) (mvT hZ (hw _ (List.mem_of_getElem? (i := 76) rfl)))) (mvT hZ (hw _ (List.mem_of_getElem? (i := 76) rfl))) (mvT hZ (hw _ (List.mem_of_getElem? (i := 75) rfl))) (by decide) (backOf (W := 0) (rmN l Z a0 hw [] fo pa stv qv qa qb (own_esc kh) (own_b8 p1) (own_esc kt ++ [0, 0] ++ vh ++ own_b8 p2) vh (own_esc kt ++ [0, 0] ++ vh) ((own_esc kh).length + (own_esc (own_b8 p1)).length + (own_esc kt).length + 2) ((own_esc kh).length + (own_esc (own_b8 p1)).length) T208.heap n0 Z208 F_fo_valueHead F_fo_after F_fo_before V_qv V_qa V_qb V_pa hst (by omega) (by omega) (by simp only [List.length_append, List.length_replicate, own_b8len, List.length_cons, List.length_nil]; omega) (by simp only [List.length_append, List.length_replicate, own_b8len, List.length_cons, List.length_nil]; omega) rfl (by simp only [List.length_append, List.length_replicate, own_b8len, List.length_cons, List.length_nil]; omega)) hZ (hw _ (List.mem_of_getElem? (i := 77) rfl)) (hw _ (List.mem_of_getElem? (i := 16) rfl)) (by decide) (by decide)) q212a q212c (g := (mkF m 134 #[.val (.long p1), .second, .val (.long p2), .second, .val (.int p3), .val (.int p4), .val (.int p5), .val (.ref bkh), .val (.ref bkt), .val (.ref bvh), .val (.ref bk), .val (.ref bw), .val (.ref fo), .val (.ref pa), .val (.int stv)] [(.int stv), (.ref pa), (.ref fo)])) rfl (by rw [hml]; rfl) (Steps.refl _) (argsL := [(.ref pa), (.int stv)]) (rest := []) (lenOf pd_11 rfl) rfl (by show 2 * 0 + _ ≤ _; exact Nat.le_of_eq rfl) (hb hby at_134) (fun _ _ => ⟨rfl, rfl, (by decide : 13 + 0 ≤ _), (by decide : 171 + 0 ≤ _)⟩)
  obtain ⟨Lc212, hQ212, X212⟩ := own_out hP212 X212
  clear hP212
  dsimp only [Pt.U, Pt.locs, Pt.cells, Pt.slots] at X212 st212 hQ212
  obtain ⟨rfl, Nq212, eh212⟩ := hQ212
  have N212 := Fr.app N208 Nq212
  have pr213 : ∀ t, Steps p.tables e below (T212.setTop (mkF m 137 #[.val (.long p1), .second, .val (.long p2), .second, .val (.int p3), .val (.int p4), .val (.int p5), .val (.ref bkh), .val (.ref bkt), .val (.ref bvh), .val (.ref bk), .val (.ref bw), .val (.ref fo), .val (.ref pa), .val (.int stv)] [(.long (own_fold 0 (own_b8 p1)))])) t → G t := fun t ks => pr211 t (st212.trans ks)
  rw [(own_number p1)] at pr213
  have pr214 : ∀ t, Steps p.tables e below (T212.setTop (mkF m 147 #[.val (.long p1), .second, .val (.long p2), .second, .val (.int p3), .val (.int p4), .val (.int p5), .val (.ref bkh), .val (.ref bkt), .val (.ref bvh), .val (.ref bk), .val (.ref bw), .val (.ref fo), .val (.ref pa), .val (.int stv)] [(.int (1 : Int32))])) t → G t := fun t ks => pr213 t (by
      refine XS.lloadN X212.here hx rfl (hb hby at_137) rfl ?_
      refine XS.lcmp X212.here hx rfl (hb hby at_138) rfl ?_
      refine XS.ifNo X212.here hx rfl (hb hby at_139) rfl ((if0 _ _).trans (teq (own_lc0 p1)).2) ?_
      refine XS.iconst X212.here hx rfl (hb hby at_142) ?_
      refine XS.goto X212.here hx rfl (pc0 := 143) (pc' := 147) rfl (hb hby at_143) (by decide) (by decide) ?_
      exact ks)
  obtain ⟨fs, hr, hrun, hended, hW, hsame⟩ := X212.leave (v := some (.int 1)) (fun h => by rw [Bd.returns] at h; cases h)
  refine ⟨_, _, hG _ (pr214 _ ?_), hrun, hended, _, _, rfl, ?_, ⟨_, rfl⟩, hW, hsame.mono (by decide) (by decide)⟩
  · exact retN X212 hx (t := .boolean) Bd.returns (by simp) (hb hby at_147) (by rw [show nar .boolean (1 : Int32) = 1 from rfl]; exact hr)
  · show Q0 n0 _ T212.heap _
    rw [eh212]
    exact ⟨rfl, N212⟩
set_option maxRecDepth 65536 in
set_option maxHeartbeats 40000000 in
theorem comes_1 {Post : Tables → Env → Array Value → State → Outcome → State → Prop} (hpost : ∀ tb e args s v u, (limb_1_1.after args s (.returned v) u = true ∧ limb_1_2.after args s (.returned v) u = true ∧ True) → FrameEnd s (.returned v) u (Jvm.fieldLocs frame_1_writes args s ++ Jvm.arrayLocs frame_1_arrays args s ++ Jvm.staticLocs frame_1_statics s) 40 256 → Post tb e args s (.returned v) u) :
    ArmFor flags0 classFile x code maxLocals ret World_1 tables_1 room_1 Calls_1 rest_1 Pre_1 Post := by
  intro l hfl _ _ p e ha hc hk s m args below hf hA hF happ hP
  obtain ⟨hcalls, hrest, hpre⟩ := hP
  obtain ⟨-, -, -, hnamed, -, -, -, hat⟩ := (Spec.applies_iff hf).mp happ
  obtain ⟨hg, hn⟩ := and_e (Cond.before_iff.mp (show (Jvm.Cond.and given_1 narrow_1).before args s = true from hpre))
  obtain ⟨hcount, g0⟩ := and_e hg
  obtain ⟨ga0, g1⟩ := and_e g0
  obtain ⟨ga1, g2⟩ := and_e g1
  obtain ⟨ga2, g3⟩ := and_e g2
  obtain ⟨ga3, g4⟩ := and_e g3
  have ga4 := g4
  obtain ⟨w0, w1, w2, w3, w4, rfl⟩ : ∃ w0 w1 w2 w3 w4 : Value, args = #[w0, w1, w2, w3, w4] := by
    have hs : args.size = 5 := by simpa [Cond.value, given_1] using hcount
    obtain ⟨L⟩ := args
    match L, hs with
    | [w0, w1, w2, w3, w4], _ => exact ⟨w0, w1, w2, w3, w4, rfl⟩
  have hw := fun d (hd : d ∈ tables_1) => atoms_spec (ws := Jvm.Cond.code x code maxLocals ret :: tables_1) hat d (List.mem_cons_of_mem _ hd)
  obtain ⟨hn1, hn4⟩ := and_e hn
  obtain ⟨hn2, hn3⟩ := and_e hn4
  obtain ⟨nv, env⟩ := exa_v hn2
  have Sn : SN s s.heap.size s.heap "com/example/gneiss/gneiss/store/Pairs" "NO_VALUE" "[B" (.ref nv) := SN.of (Sta.start env (Or.inr ⟨hw _ (List.mem_of_getElem? (i := 40) rfl), hw _ (List.mem_of_getElem? (i := 43) rfl)⟩)) (Nat.le_refl _)
  have En := Exa.start env hn2
  obtain ⟨cn, An⟩ := Arr.start env hn1
  have hat' : s.arrayAt? nv = some cn := Arr.fin (Vm.Alike.refl _) An
  have hlen : cn.slots.size = 0 := own_len0 env hat' hn3
  have Vn : BA s s.heap nv [] := ⟨⟨cn.cls, ⟨cn, An, rfl, by rw [hlen]; rfl, by decide, fun k hk => by omega, fun k hk => by omega⟩, rfl⟩, En, by decide⟩
  obtain ⟨i0, ei0⟩ := isL_v ga0
  obtain rfl : w0 = (.long i0) := Option.some.inj ei0
  obtain ⟨i1, ei1⟩ := isL_v ga1
  obtain rfl : w1 = (.long i1) := Option.some.inj ei1
  obtain ⟨i2, ei2⟩ := is_v ga2
  obtain rfl : w2 = (.int i2) := Option.some.inj ei2
  obtain ⟨i3, ei3⟩ := is_v ga3
  obtain rfl : w3 = (.int i3) := Option.some.inj ei3
  obtain ⟨i4, ei4⟩ := is_v ga4
  obtain rfl : w4 = (.int i4) := Option.some.inj ei4
  obtain ⟨n, o, h1, h2, h3, _, L, rfl, ⟨rfl, N⟩, hq⟩ := rm0 l s _ hw tables_1 i0 i1 i2 i3 i4 nv s.heap s.heap.size (Nat.le_refl _) Sn Vn p e ha hc hk s m _ below hf ((Spec.applies_iff_loose hf).mp happ).1 ⟨rfl, State.Warmed39.refl s, rfl⟩ trivial
  refine ⟨n, _, h1, h2, h3, hpost _ _ _ _ _ _ ⟨Cond.after_iff.mpr rfl, Cond.after_iff.mpr (eq_i res_at (Term.int_eval (1)) rfl), trivial⟩ ⟨hq.1, hq.2.1, (hq.2.2.sift fun y hy => Or.inr (N y hy)).mono (by decide) (by decide)⟩⟩
theorem main_1_1 : Claimed_1_1 := comes_1 fun _ _ _ _ _ _ h hF => ⟨h.1, hF⟩
theorem main_1_2 : Claimed_1_2 := comes_1 fun _ _ _ _ _ _ h hF => ⟨h.2.1, hF⟩
end Jvm.Pilot.@@N@@
namespace Jvm.Pilot.@@N@@
open Jvm Jvm.ClassFile Sem Op Lib Jvm.Free Jvm.Stand Jvm.Pilot.@@N@@.Jvm.D
/-! MADE BY PROGRAM (witnessworld.py) out of the Statement's table words and the real class files: 14 classes; the members and pool entries that the words name. The judged class is class 1, her method 5. -/
namespace start1
open Jvm.ClassFile
def u (s : String) : CpInfo := .utf8 (stringToUtf16 s)
/-- a pool by its gaps: so many unusable entries, then the entry; so many at the end -/
def gap : Nat → List CpInfo → List CpInfo
  | 0, r => r
  | n + 1, r => .unusable :: gap n r
def poolList (es : List (Nat × CpInfo)) (last : Nat) : List CpInfo := es.foldr (fun e r => gap e.1 (e.2 :: r)) (gap last [])
def pool (es : List (Nat × CpInfo)) (last : Nat) : Array CpInfo := ⟨poolList es last⟩
def fileOf (pool : Array CpInfo) (this : Nat) (attrs : Array Attribute := #[]) (ms : Array MethodInfo := #[]) (fl : Nat := 33) (sup : Nat := 0) (ifs : Array Nat := #[]) (fds : Array FieldInfo := #[]) : ClassFile where
  minorVersion := 0
  majorVersion := 65
  constantPool := pool
  accessFlags := fl
  thisClass := this
  superClass := sup
  interfaces := ifs
  fields := fds
  methods := ms
  attributes := attrs
def plain (name : String) (sup : Option ClassId) : Class where
  name := name
  kind := .ordinary
  loader := none
  accessFlags := 33
  super := sup
  interfaces := #[]
  cf := none
  fields := #[]
  methods := #[]
  instanceTypes := #[]
  staticTypes := #[]
  resolved := #[]
  callSites := []
  init := .initialized
  statics := none
  mirror := none

def pool0 : Array CpInfo := pool [(5, u "<init>"), (0, u "()V"), (1, .class_ 10), (1, u "java/lang/Object"), (85, u "clone"), (0, u "()Ljava/lang/Object;")] 26

def k0c0 : Code := { maxStack := 0, maxLocals := 1, code := object_method_1_code, exceptionTable := #[], attributes := #[] }
def k0m0 : Method := { name := "<init>", desc := "()V", sig := { parameters := [], returnType := none }, accessFlags := 1, code := some k0c0 }
def k0m1 : Method := { name := "clone", desc := "()Ljava/lang/Object;", sig := { parameters := [], returnType := some (.object "java/lang/Object") }, accessFlags := 260, code := none }
/-- java/lang/Object -/
def k0 : Class := { plain "java/lang/Object" none with
  accessFlags := 33
  interfaces := #[]
  cf := some (fileOf pool0 8 #[] #[{ accessFlags := 1, nameIndex := 5, descriptorIndex := 6, attributes := #[] }, { accessFlags := 260, nameIndex := 96, descriptorIndex := 97, attributes := #[] }] 33 0 #[] #[])
  fields := #[]
  methods := #[k0m0, k0m1]
  instanceTypes := #[]
  staticTypes := #[]
  resolved := Array.replicate 124 none
  statics := none }

def pool1 : Array CpInfo := pool [(2, .class_ 4), (1, u "java/lang/Object"), (0, u "<init>"), (0, u "()V"), (0, .methodref 8 9), (0, .class_ 10), (0, .nameAndType 11 12), (0, u "com/example/gneiss/gneiss/store/FormNumberPinLaw"), (0, u "len"), (0, u "(I)I"), (0, .methodref 8 14), (0, .nameAndType 15 16), (0, u "drawn"), (0, u "(I)[B"), (0, .methodref 8 18), (0, .nameAndType 19 20), (0, u "put"), (0, u "([BI[B)V"), (0, .methodref 8 22), (0, .nameAndType 23 24), (0, u "put8"), (0, u "([BIJ)V"), (0, .class_ 26), (0, u "com/example/gneiss/gneiss/store/Pairs$Form"), (0, .methodref 25 28), (0, .nameAndType 5 29), (0, u "([B[B[B)V"), (0, .methodref 31 32), (0, .class_ 33), (0, .nameAndType 34 35), (0, u "com/example/gneiss/gneiss/store/Pairs"), (0, u "pair"), (0, u "([B[B)[B"), (0, .methodref 25 37), (0, .nameAndType 38 39), (0, u "number"), (0, u "([BI)J"), (5, u "law"), (0, u "(JJIII)Z")] 4

def k1m0 : Method := { name := "<init>", desc := "()V", sig := { parameters := [], returnType := none }, accessFlags := 2, code := none }
def k1c1 : Code := { maxStack := 2, maxLocals := 1, code := method_2_code, exceptionTable := #[], attributes := #[] }
def k1m1 : Method := { name := "len", desc := "(I)I", sig := { parameters := [.int], returnType := some .int }, accessFlags := 10, code := some k1c1 }
def k1c2 : Code := { maxStack := 4, maxLocals := 3, code := method_3_code, exceptionTable := #[], attributes := #[] }
def k1m2 : Method := { name := "drawn", desc := "(I)[B", sig := { parameters := [.int], returnType := some (.array .byte) }, accessFlags := 10, code := some k1c2 }
def k1c3 : Code := { maxStack := 5, maxLocals := 4, code := method_4_code, exceptionTable := #[], attributes := #[] }
def k1m3 : Method := { name := "put8", desc := "([BIJ)V", sig := { parameters := [(.array .byte), .int, .long], returnType := none }, accessFlags := 10, code := some k1c3 }
def k1c4 : Code := { maxStack := 4, maxLocals := 3, code := method_5_code, exceptionTable := #[], attributes := #[] }
def k1m4 : Method := { name := "put", desc := "([BI[B)V", sig := { parameters := [(.array .byte), .int, (.array .byte)], returnType := none }, accessFlags := 10, code := some k1c4 }
def k1c5 : Code := { maxStack := 5, maxLocals := 15, code := code, exceptionTable := #[], attributes := #[] }
def k1m5 : Method := { name := "law", desc := "(JJIII)Z", sig := { parameters := [.long, .long, .int, .int, .int], returnType := some .boolean }, accessFlags := 9, code := some k1c5 }
/-- com/example/gneiss/gneiss/store/FormNumberPinLaw -/
def k1 : Class := { plain "com/example/gneiss/gneiss/store/FormNumberPinLaw" (some 0) with
  accessFlags := 49
  interfaces := #[]
  cf := some (fileOf pool1 8 #[] #[{ accessFlags := 2, nameIndex := 5, descriptorIndex := 6, attributes := #[] }, { accessFlags := 10, nameIndex := 11, descriptorIndex := 12, attributes := #[] }, { accessFlags := 10, nameIndex := 15, descriptorIndex := 16, attributes := #[] }, { accessFlags := 10, nameIndex := 23, descriptorIndex := 24, attributes := #[] }, { accessFlags := 10, nameIndex := 19, descriptorIndex := 20, attributes := #[] }, { accessFlags := 9, nameIndex := 45, descriptorIndex := 46, attributes := #[] }] 49 2 #[] #[])
  fields := #[]
  methods := #[k1m0, k1m1, k1m2, k1m3, k1m4, k1m5]
  instanceTypes := #[]
  staticTypes := #[]
  resolved := Array.replicate 51 none
  statics := none }

def pool2 : Array CpInfo := pool [(1, .methodref 2 3), (0, .class_ 4), (0, .nameAndType 5 6), (0, u "java/lang/Object"), (0, u "<init>"), (0, u "()V"), (0, .methodref 8 9), (0, .class_ 10), (0, .nameAndType 11 12), (0, u "[B"), (0, u "clone"), (0, u "()Ljava/lang/Object;"), (0, .fieldref 14 15), (0, .class_ 16), (0, .nameAndType 17 10), (0, u "com/example/gneiss/gneiss/store/Pairs$Form"), (0, u "keyHead"), (0, .fieldref 14 19), (0, .nameAndType 20 10), (0, u "keyTail"), (0, .fieldref 14 22), (0, .nameAndType 23 10), (0, u "valueHead"), (0, .methodref 25 26), (0, .class_ 27), (0, .nameAndType 28 29), (0, u "com/example/gneiss/gneiss/store/Pairs"), (0, u "first"), (0, u "([B)[B"), (2, .methodref 33 34), (0, .class_ 35), (0, .nameAndType 36 37), (0, u "java/util/Arrays"), (0, u "copyOf"), (0, u "([BI)[B"), (0, .fieldref 14 39), (0, .nameAndType 40 10), (0, u "before"), (0, .methodref 25 42), (0, .nameAndType 43 44), (0, u "pair"), (0, u "([B[B)[B"), (0, .fieldref 14 46), (0, .nameAndType 47 10), (0, u "after"), (11, .long 255), (1, u "([B[B[B)V"), (8, u "number"), (0, u "([BI)J")] 5

def k2c0 : Code := { maxStack := 4, maxLocals := 5, code := prog_122_method_1_code, exceptionTable := #[], attributes := #[] }
def k2m0 : Method := { name := "<init>", desc := "([B[B[B)V", sig := { parameters := [(.array .byte), (.array .byte), (.array .byte)], returnType := none }, accessFlags := 0, code := some k2c0 }
def k2c1 : Code := { maxStack := 6, maxLocals := 7, code := prog_122_method_5_code, exceptionTable := #[], attributes := #[] }
def k2m1 : Method := { name := "number", desc := "([BI)J", sig := { parameters := [(.array .byte), .int], returnType := some .long }, accessFlags := 0, code := some k2c1 }
/-- com/example/gneiss/gneiss/store/Pairs$Form -/
def k2 : Class := { plain "com/example/gneiss/gneiss/store/Pairs$Form" (some 0) with
  accessFlags := 48
  interfaces := #[]
  cf := some (fileOf pool2 14 #[.nestHost 25] #[{ accessFlags := 0, nameIndex := 5, descriptorIndex := 61, attributes := #[] }, { accessFlags := 0, nameIndex := 70, descriptorIndex := 71, attributes := #[] }] 48 2 #[] #[{ accessFlags := 18, nameIndex := 17, descriptorIndex := 10, attributes := #[] }, { accessFlags := 18, nameIndex := 20, descriptorIndex := 10, attributes := #[] }, { accessFlags := 18, nameIndex := 23, descriptorIndex := 10, attributes := #[] }, { accessFlags := 18, nameIndex := 40, descriptorIndex := 10, attributes := #[] }, { accessFlags := 18, nameIndex := 47, descriptorIndex := 10, attributes := #[] }])
  fields := #[{ name := "keyHead", type := (.array .byte), accessFlags := 18, slot := 0, constantValue := 0 }, { name := "keyTail", type := (.array .byte), accessFlags := 18, slot := 1, constantValue := 0 }, { name := "valueHead", type := (.array .byte), accessFlags := 18, slot := 2, constantValue := 0 }, { name := "before", type := (.array .byte), accessFlags := 18, slot := 3, constantValue := 0 }, { name := "after", type := (.array .byte), accessFlags := 18, slot := 4, constantValue := 0 }]
  methods := #[k2m0, k2m1]
  instanceTypes := #[(.array .byte), (.array .byte), (.array .byte), (.array .byte), (.array .byte)]
  staticTypes := #[]
  resolved := Array.replicate 77 none
  statics := none }

def pool3 : Array CpInfo := pool [(1, .class_ 2), (0, u "java/lang/Cloneable"), (0, .class_ 4), (0, u "java/lang/Object")] 2

/-- java/lang/Cloneable -/
def k3 : Class := { plain "java/lang/Cloneable" (some 0) with
  accessFlags := 1537
  interfaces := #[]
  cf := some (fileOf pool3 1 #[] #[] 1537 3 #[] #[])
  fields := #[]
  methods := #[]
  instanceTypes := #[]
  staticTypes := #[]
  resolved := Array.replicate 7 none
  statics := none }

def pool4 : Array CpInfo := pool [(3, .class_ 4), (0, u "com/example/gneiss/gneiss/tuple/EscapedBytes"), (1, .class_ 8), (1, u "java/lang/Object"), (0, u "<init>"), (0, u "()V"), (0, .methodref 3 12), (0, .nameAndType 13 14), (0, u "writtenLength"), (0, u "([B)I"), (0, .methodref 3 16), (0, .nameAndType 17 18), (0, u "write"), (0, u "([B[BI)I"), (0, .methodref 20 21), (0, .class_ 22), (0, .nameAndType 23 24), (0, u "java/lang/System"), (0, u "arraycopy"), (0, u "(Ljava/lang/Object;ILjava/lang/Object;II)V"), (0, .fieldref 26 27), (0, .class_ 28), (0, .nameAndType 29 30), (0, u "com/example/gneiss/gneiss/store/Pairs"), (0, u "NO_VALUE"), (0, u "[B"), (0, .methodref 26 32), (0, .nameAndType 33 34), (0, u "pair"), (0, u "([B[B)[B"), (40, u "LONGEST"), (0, u "I"), (4, u "first"), (0, u "([B)[B"), (7, .class_ 91), (0, u "com/example/gneiss/gneiss/store/Pairs$Form")] 20

def k4m0 : Method := { name := "<init>", desc := "()V", sig := { parameters := [], returnType := none }, accessFlags := 2, code := none }
def k4c1 : Code := { maxStack := 5, maxLocals := 4, code := prog_121_method_2_code, exceptionTable := #[], attributes := #[] }
def k4m1 : Method := { name := "pair", desc := "([B[B)[B", sig := { parameters := [(.array .byte), (.array .byte)], returnType := some (.array .byte) }, accessFlags := 8, code := some k4c1 }
def k4c2 : Code := { maxStack := 2, maxLocals := 1, code := prog_121_method_3_code, exceptionTable := #[], attributes := #[] }
def k4m2 : Method := { name := "first", desc := "([B)[B", sig := { parameters := [(.array .byte)], returnType := some (.array .byte) }, accessFlags := 8, code := some k4c2 }
/-- com/example/gneiss/gneiss/store/Pairs -/
def k4 : Class := { plain "com/example/gneiss/gneiss/store/Pairs" (some 0) with
  accessFlags := 48
  interfaces := #[]
  cf := some (fileOf pool4 26 #[.nestMembers #[90]] #[{ accessFlags := 2, nameIndex := 9, descriptorIndex := 10, attributes := #[] }, { accessFlags := 8, nameIndex := 33, descriptorIndex := 34, attributes := #[] }, { accessFlags := 8, nameIndex := 81, descriptorIndex := 82, attributes := #[] }] 48 6 #[] #[{ accessFlags := 24, nameIndex := 75, descriptorIndex := 76, attributes := #[] }, { accessFlags := 26, nameIndex := 29, descriptorIndex := 30, attributes := #[] }])
  fields := #[{ name := "LONGEST", type := .int, accessFlags := 24, slot := 0, constantValue := 0 }, { name := "NO_VALUE", type := (.array .byte), accessFlags := 26, slot := 1, constantValue := 0 }]
  methods := #[k4m0, k4m1, k4m2]
  instanceTypes := #[]
  staticTypes := #[.int, (.array .byte)]
  resolved := Array.replicate 112 none
  statics := some 0 }

def pool5 : Array CpInfo := pool [(2, .class_ 4), (1, u "java/lang/Object"), (0, u "<init>"), (0, u "()V"), (0, .class_ 8), (0, u "com/example/gneiss/gneiss/tuple/EscapedBytes"), (7, u "END_BYTES"), (0, u "I"), (4, u "write"), (0, u "([B[BI)I"), (3, u "writtenLength"), (0, u "([B)I")] 5

def k5m0 : Method := { name := "<init>", desc := "()V", sig := { parameters := [], returnType := none }, accessFlags := 2, code := none }
def k5c1 : Code := { maxStack := 3, maxLocals := 8, code := prog_156_method_2_code, exceptionTable := #[], attributes := #[] }
def k5m1 : Method := { name := "write", desc := "([B[BI)I", sig := { parameters := [(.array .byte), (.array .byte), .int], returnType := some .int }, accessFlags := 9, code := some k5c1 }
def k5c2 : Code := { maxStack := 2, maxLocals := 6, code := prog_156_method_3_code, exceptionTable := #[], attributes := #[] }
def k5m2 : Method := { name := "writtenLength", desc := "([B)I", sig := { parameters := [(.array .byte)], returnType := some .int }, accessFlags := 9, code := some k5c2 }
/-- com/example/gneiss/gneiss/tuple/EscapedBytes -/
def k5 : Class := { plain "com/example/gneiss/gneiss/tuple/EscapedBytes" (some 0) with
  accessFlags := 49
  interfaces := #[]
  cf := some (fileOf pool5 7 #[] #[{ accessFlags := 2, nameIndex := 5, descriptorIndex := 6, attributes := #[] }, { accessFlags := 9, nameIndex := 22, descriptorIndex := 23, attributes := #[] }, { accessFlags := 9, nameIndex := 27, descriptorIndex := 28, attributes := #[] }] 49 2 #[] #[{ accessFlags := 25, nameIndex := 16, descriptorIndex := 17, attributes := #[] }])
  fields := #[{ name := "END_BYTES", type := .int, accessFlags := 25, slot := 0, constantValue := 0 }]
  methods := #[k5m0, k5m1, k5m2]
  instanceTypes := #[]
  staticTypes := #[.int]
  resolved := Array.replicate 34 none
  statics := none }

def pool6 : Array CpInfo := pool [(2, .class_ 4), (1, u "java/lang/Object"), (0, u "<init>"), (0, u "()V"), (1, .class_ 10), (1, u "java/lang/System"), (0, u "allowSecurityManager"), (0, u "I"), (16, u "cons"), (0, u "Ljava/io/Console;"), (77, .class_ 110), (1, u "java/lang/System$CallersHolder"), (43, u "initialErrStream"), (0, u "Ljava/io/PrintStream;"), (19, u "security"), (0, u "Ljava/lang/SecurityManager;"), (31, .class_ 209), (0, u "java/lang/System$1"), (7, u "props"), (0, u "Ljava/util/Properties;"), (2, u "lineSeparator"), (0, u "Ljava/lang/String;"), (96, .class_ 321), (1, u "java/lang/System$LoggerFinder"), (5, .class_ 328), (0, u "java/lang/System$Logger"), (67, u "err"), (2, u "out"), (91, u "notSupportedJnuEncoding"), (15, u "in"), (17, u "initialIn"), (0, u "Ljava/io/InputStream;"), (35, u "bootLayer"), (0, u "Ljava/lang/ModuleLayer;"), (99, .class_ 664), (0, u "java/lang/System$2"), (9, u "NEVER"), (2, u "MAYBE"), (49, u "arraycopy"), (0, u "(Ljava/lang/Object;ILjava/lang/Object;II)V"), (72, .class_ 802), (0, u "java/lang/System$Logger$Level")] 31

def k6m0 : Method := { name := "<init>", desc := "()V", sig := { parameters := [], returnType := none }, accessFlags := 2, code := none }
def k6m1 : Method := { name := "arraycopy", desc := "(Ljava/lang/Object;ILjava/lang/Object;II)V", sig := { parameters := [(.object "java/lang/Object"), .int, (.object "java/lang/Object"), .int, .int], returnType := none }, accessFlags := 265, code := none }
/-- java/lang/System -/
def k6 : Class := { plain "java/lang/System" (some 0) with
  accessFlags := 49
  interfaces := #[]
  cf := some (fileOf pool6 8 #[.nestMembers #[319, 327, 801, 108, 663, 208]] #[{ accessFlags := 2, nameIndex := 5, descriptorIndex := 6, attributes := #[] }, { accessFlags := 265, nameIndex := 727, descriptorIndex := 728, attributes := #[] }] 49 2 #[] #[{ accessFlags := 25, nameIndex := 507, descriptorIndex := 526, attributes := #[] }, { accessFlags := 25, nameIndex := 399, descriptorIndex := 155, attributes := #[] }, { accessFlags := 25, nameIndex := 396, descriptorIndex := 155, attributes := #[] }, { accessFlags := 10, nameIndex := 525, descriptorIndex := 526, attributes := #[] }, { accessFlags := 26, nameIndex := 674, descriptorIndex := 12, attributes := #[] }, { accessFlags := 26, nameIndex := 677, descriptorIndex := 12, attributes := #[] }, { accessFlags := 10, nameIndex := 11, descriptorIndex := 12, attributes := #[] }, { accessFlags := 74, nameIndex := 175, descriptorIndex := 176, attributes := #[] }, { accessFlags := 10, nameIndex := 491, descriptorIndex := 222, attributes := #[] }, { accessFlags := 74, nameIndex := 29, descriptorIndex := 30, attributes := #[] }, { accessFlags := 74, nameIndex := 154, descriptorIndex := 155, attributes := #[] }, { accessFlags := 10, nameIndex := 217, descriptorIndex := 218, attributes := #[] }, { accessFlags := 10, nameIndex := 221, descriptorIndex := 222, attributes := #[] }, { accessFlags := 8, nameIndex := 562, descriptorIndex := 563, attributes := #[] }])
  fields := #[{ name := "in", type := (.object "java/io/InputStream"), accessFlags := 25, slot := 0, constantValue := 0 }, { name := "out", type := (.object "java/io/PrintStream"), accessFlags := 25, slot := 1, constantValue := 0 }, { name := "err", type := (.object "java/io/PrintStream"), accessFlags := 25, slot := 2, constantValue := 0 }, { name := "initialIn", type := (.object "java/io/InputStream"), accessFlags := 10, slot := 3, constantValue := 0 }, { name := "NEVER", type := .int, accessFlags := 26, slot := 4, constantValue := 0 }, { name := "MAYBE", type := .int, accessFlags := 26, slot := 5, constantValue := 0 }, { name := "allowSecurityManager", type := .int, accessFlags := 10, slot := 6, constantValue := 0 }, { name := "security", type := (.object "java/lang/SecurityManager"), accessFlags := 74, slot := 7, constantValue := 0 }, { name := "notSupportedJnuEncoding", type := (.object "java/lang/String"), accessFlags := 10, slot := 8, constantValue := 0 }, { name := "cons", type := (.object "java/io/Console"), accessFlags := 74, slot := 9, constantValue := 0 }, { name := "initialErrStream", type := (.object "java/io/PrintStream"), accessFlags := 74, slot := 10, constantValue := 0 }, { name := "props", type := (.object "java/util/Properties"), accessFlags := 10, slot := 11, constantValue := 0 }, { name := "lineSeparator", type := (.object "java/lang/String"), accessFlags := 10, slot := 12, constantValue := 0 }, { name := "bootLayer", type := (.object "java/lang/ModuleLayer"), accessFlags := 8, slot := 13, constantValue := 0 }]
  methods := #[k6m0, k6m1]
  instanceTypes := #[]
  staticTypes := #[(.object "java/io/InputStream"), (.object "java/io/PrintStream"), (.object "java/io/PrintStream"), (.object "java/io/InputStream"), .int, .int, .int, (.object "java/lang/SecurityManager"), (.object "java/lang/String"), (.object "java/io/Console"), (.object "java/io/PrintStream"), (.object "java/util/Properties"), (.object "java/lang/String"), (.object "java/lang/ModuleLayer")]
  resolved := Array.replicate 834 none
  statics := none }

def pool7 : Array CpInfo := pool [(2, .class_ 4), (1, u "java/lang/Object"), (0, u "<init>"), (0, u "()V"), (7, .class_ 16), (1, u "java/util/Arrays"), (57, .class_ 76), (1, u "java/util/Arrays$NaturalOrder"), (36, .class_ 115), (1, u "java/util/Arrays$LegacyMergeSort"), (1, u "Z"), (32, .methodref 151 152), (0, .class_ 153), (0, .nameAndType 154 155), (0, u "java/lang/System"), (0, u "arraycopy"), (0, u "(Ljava/lang/Object;ILjava/lang/Object;II)V"), (146, u "copyOf"), (1, .methodref 305 306), (0, .class_ 307), (0, .nameAndType 308 309), (0, u "java/lang/Math"), (0, u "min"), (0, u "(II)I"), (65, .class_ 376), (0, u "java/util/Arrays$ArrayList"), (68, u "$assertionsDisabled"), (269, u "MIN_ARRAY_SORT_GRAN"), (0, u "I"), (2, u "INSERTIONSORT_THRESHOLD"), (149, u "([BI)[B"), (105, .class_ 976), (0, u "java/util/Arrays$ArrayItr")] 52

def k7m0 : Method := { name := "<init>", desc := "()V", sig := { parameters := [], returnType := none }, accessFlags := 2, code := none }
def k7c1 : Code := { maxStack := 6, maxLocals := 3, code := jdk_65_method_121_code, exceptionTable := #[], attributes := #[] }
def k7m1 : Method := { name := "copyOf", desc := "([BI)[B", sig := { parameters := [(.array .byte), .int], returnType := some (.array .byte) }, accessFlags := 9, code := some k7c1 }
/-- java/util/Arrays -/
def k7 : Class := { plain "java/util/Arrays" (some 0) with
  accessFlags := 49
  interfaces := #[]
  cf := some (fileOf pool7 14 #[.nestMembers #[975, 375, 113, 74]] #[{ accessFlags := 2, nameIndex := 5, descriptorIndex := 6, attributes := #[] }, { accessFlags := 9, nameIndex := 302, descriptorIndex := 869, attributes := #[] }] 49 2 #[] #[{ accessFlags := 26, nameIndex := 715, descriptorIndex := 716, attributes := #[] }, { accessFlags := 26, nameIndex := 719, descriptorIndex := 716, attributes := #[] }, { accessFlags := 4120, nameIndex := 445, descriptorIndex := 117, attributes := #[] }])
  fields := #[{ name := "MIN_ARRAY_SORT_GRAN", type := .int, accessFlags := 26, slot := 0, constantValue := 0 }, { name := "INSERTIONSORT_THRESHOLD", type := .int, accessFlags := 26, slot := 1, constantValue := 0 }, { name := "$assertionsDisabled", type := .boolean, accessFlags := 4120, slot := 2, constantValue := 0 }]
  methods := #[k7m0, k7m1]
  instanceTypes := #[]
  staticTypes := #[.int, .int, .boolean]
  resolved := Array.replicate 1029 none
  statics := none }

def pool8 : Array CpInfo := pool [(1, .class_ 2), (0, u "java/lang/Math"), (1, .class_ 6), (1, u "java/lang/Object"), (0, u "<init>"), (0, u "()V"), (89, .class_ 100), (1, u "java/lang/Math$RandomNumberGeneratorHolder"), (71, u "negativeZeroFloatBits"), (0, u "J"), (2, u "negativeZeroDoubleBits"), (24, u "min"), (43, u "$assertionsDisabled"), (0, u "Z"), (88, u "(II)I"), (2, u "twoToTheDoubleScaleDown"), (0, u "D"), (4, u "twoToTheDoubleScaleUp"), (9, u "E"), (3, u "PI"), (2, u "TAU"), (2, u "DEGREES_TO_RADIANS"), (0, u "RADIANS_TO_DEGREES")] 94

def k8m0 : Method := { name := "<init>", desc := "()V", sig := { parameters := [], returnType := none }, accessFlags := 2, code := none }
def k8c1 : Code := { maxStack := 2, maxLocals := 2, code := jdk_29_method_69_code, exceptionTable := #[], attributes := #[] }
def k8m1 : Method := { name := "min", desc := "(II)I", sig := { parameters := [.int, .int], returnType := some .int }, accessFlags := 9, code := some k8c1 }
/-- java/lang/Math -/
def k8 : Class := { plain "java/lang/Math" (some 0) with
  accessFlags := 49
  interfaces := #[]
  cf := some (fileOf pool8 1 #[.nestMembers #[98]] #[{ accessFlags := 2, nameIndex := 7, descriptorIndex := 8, attributes := #[] }, { accessFlags := 9, nameIndex := 201, descriptorIndex := 335, attributes := #[] }] 49 4 #[] #[{ accessFlags := 25, nameIndex := 354, descriptorIndex := 339, attributes := #[] }, { accessFlags := 25, nameIndex := 358, descriptorIndex := 339, attributes := #[] }, { accessFlags := 25, nameIndex := 361, descriptorIndex := 339, attributes := #[] }, { accessFlags := 26, nameIndex := 364, descriptorIndex := 339, attributes := #[] }, { accessFlags := 26, nameIndex := 365, descriptorIndex := 339, attributes := #[] }, { accessFlags := 26, nameIndex := 172, descriptorIndex := 173, attributes := #[] }, { accessFlags := 26, nameIndex := 176, descriptorIndex := 173, attributes := #[] }, { accessFlags := 8, nameIndex := 344, descriptorIndex := 339, attributes := #[] }, { accessFlags := 8, nameIndex := 338, descriptorIndex := 339, attributes := #[] }, { accessFlags := 4120, nameIndex := 245, descriptorIndex := 246, attributes := #[] }])
  fields := #[{ name := "E", type := .double, accessFlags := 25, slot := 0, constantValue := 0 }, { name := "PI", type := .double, accessFlags := 25, slot := 1, constantValue := 0 }, { name := "TAU", type := .double, accessFlags := 25, slot := 2, constantValue := 0 }, { name := "DEGREES_TO_RADIANS", type := .double, accessFlags := 26, slot := 3, constantValue := 0 }, { name := "RADIANS_TO_DEGREES", type := .double, accessFlags := 26, slot := 4, constantValue := 0 }, { name := "negativeZeroFloatBits", type := .long, accessFlags := 26, slot := 5, constantValue := 0 }, { name := "negativeZeroDoubleBits", type := .long, accessFlags := 26, slot := 6, constantValue := 0 }, { name := "twoToTheDoubleScaleUp", type := .double, accessFlags := 8, slot := 7, constantValue := 0 }, { name := "twoToTheDoubleScaleDown", type := .double, accessFlags := 8, slot := 8, constantValue := 0 }, { name := "$assertionsDisabled", type := .boolean, accessFlags := 4120, slot := 9, constantValue := 0 }]
  methods := #[k8m0, k8m1]
  instanceTypes := #[]
  staticTypes := #[.double, .double, .double, .double, .double, .long, .long, .double, .double, .boolean]
  resolved := Array.replicate 460 none
  statics := none }

def pool9 : Array CpInfo := pool [(1, u "java/io/Serializable"), (0, .class_ 1), (0, u "java/lang/Object"), (0, .class_ 3)] 3

/-- java/io/Serializable -/
def k9 : Class := { plain "java/io/Serializable" (some 0) with
  accessFlags := 1537
  interfaces := #[]
  cf := some (fileOf pool9 2 #[] #[] 1537 4 #[] #[])
  fields := #[]
  methods := #[]
  instanceTypes := #[]
  staticTypes := #[]
  resolved := Array.replicate 8 none
  statics := none }

/-- the primitive byte -/
def k10 : Class := { plain "byte" none with kind := .primitive 'B', accessFlags := 0x411 }
/-- [B -/
def k11 : Class := { plain "[B" (some 0) with kind := .array 10 .byte, interfaces := #[3, 9], accessFlags := 1041 }

/-- the primitive int -/
def k12 : Class := { plain "int" none with kind := .primitive 'I', accessFlags := 0x411 }
/-- [I -/
def k13 : Class := { plain "[I" (some 0) with kind := .array 12 .int, interfaces := #[3, 9], accessFlags := 1041 }

def heap : Heap := #[{ cls := 4, slots := #[.int 0, .ref 1], vm := .statics 4 },
  { cls := 11, slots := #[], vm := .none }]
def classes : Array Class := #[k0, k1, k2, k3, k4, k5, k6, k7, k8, k9, k10, k11, k12, k13]
def interned : List (Array UInt16 × Addr) := []
def slotsUsed : Nat := 2
def theMethod : MethodId := ⟨1, 5⟩
def args0 : Array Value := #[.long 5, .long 6, .int 7, .int 8, .int 9]
def aboutOver (below : List Frame) : State where
  vm := { classes := classes, interned := interned.toArray }
  heap := heap
  slotsUsed := slotsUsed
  threads := #[{ frames := .invoking theMethod args0 :: below }]
def below0 : List Frame := [.native { method := ⟨0, 0⟩, args := #[] }]
def about1 : State := aboutOver below0
def p0 : Program := .bare "" "" ""
def e0 : Env := launch0.env 0 0 0
theorem w_frames : about1.frames = Frame.invoking theMethod args0 :: below0 := rfl
set_option maxRecDepth 65536 in
theorem w_args : argsFit about1.vm theMethod args0 = true := by decide +kernel
set_option maxRecDepth 65536 in
theorem w_heap : heapFits about1 = true := by decide +kernel
set_option maxRecDepth 65536 in
theorem w_runnable : about1.curStatus? = some .runnable := by decide +kernel
set_option maxRecDepth 65536 in
theorem w_alone : about1.alone = true := by decide +kernel
set_option maxRecDepth 65536 in
theorem w_named : about1.methodNamed? x = some theMethod := by decide +kernel
set_option maxRecDepth 65536 in
theorem w_hears : about1.hears theMethod below0 = true := by decide +kernel
set_option maxRecDepth 65536 in
theorem w_ripe : about1.ripe theMethod args0 below0 = true := by decide +kernel
theorem w_running : about1.status = .running := rfl
set_option maxRecDepth 65536 in
theorem w_room : about1.hasRoom e0.platform room_1 = true :=
  launch0.hasRoom_least _ room_1 (by decide +kernel) (by decide +kernel) (by decide +kernel) (by decide +kernel) (by decide +kernel) (by decide +kernel)
theorem allAtoms_all (ts : List Jvm.Cond) (a : Array Jvm.Value) (st : Jvm.State) : (allAtoms ts).before a st = ts.all (fun c => c.before a st) := by
  induction ts with
  | nil => rfl
  | cons c t ih =>
    show (Jvm.Cond.and c (allAtoms t)).before a st = _
    rw [Jvm.Cond.before_and, ih, List.all_cons]
def words1 : List Jvm.Cond := Jvm.Cond.code x code maxLocals ret :: tables_1
/-- a 'code' word, met by the world's own term for the bytes: nothing is compared byte by byte -/
theorem code_word {y : MethodName} {bytes : ByteArray} {mx : Nat} {rt : Option FieldType} {a : Array Value} {s : State} {m : MethodId} {meth : Method} {c : Code} (h1 : s.methodNamed? y = some m) (h2 : s.vm.method? m = some meth) (h3 : meth.code = some c) (h4 : c.code = bytes)
    (h5 : (c.maxLocals == mx && c.exceptionTable.isEmpty && decide (c.maxStack ≤ mostOperands) && decide (meth.sig.returnType = rt) && !meth.locks && decide (parseMethodDescriptor y.desc = some meth.sig)) = true) : (Jvm.Cond.code y bytes mx rt).before a s = true := by
  simp only [Bool.and_eq_true, beq_iff_eq, Bool.not_eq_true', decide_eq_true_eq] at h5
  obtain ⟨⟨⟨⟨⟨g1, g2⟩, g3⟩, g4⟩, g5⟩, g6⟩ := h5
  simp [Cond.before, Cond.holds, Cond.value, h1, h2, h3, h4, g1, g2, g3, g4, g5, g6]
def isCode : Jvm.Cond → Bool
  | .code _ _ _ _ => true
  | _ => false
theorem all_split {L : List Jvm.Cond} {P : Jvm.Cond → Bool} (h1 : L.all (fun c => isCode c || P c) = true) (h2 : ∀ c ∈ L.filter isCode, P c = true) : L.all P = true := by
  refine List.all_eq_true.mpr fun c hc => ?_
  have h := List.all_eq_true.mp h1 c hc
  rcases Bool.eq_false_or_eq_true (isCode c) with hi | hi
  · exact h2 c (List.mem_filter.mpr ⟨hc, hi⟩)
  · simpa [hi] using h
set_option maxRecDepth 65536 in
theorem w_c0 : (Jvm.Cond.code x code maxLocals ret).before args0 about1 = true := code_word (m := ⟨1, 5⟩) (meth := k1m5) (c := k1c5) (by decide +kernel) rfl rfl rfl (by decide +kernel)
set_option maxRecDepth 65536 in
theorem w_c1 : (Jvm.Cond.code ({ cls := "com/example/gneiss/gneiss/store/FormNumberPinLaw", name := "drawn", desc := "(I)[B" } : Jvm.MethodName) method_3_code (3 : Nat) (Option.some (Jvm.ClassFile.FieldType.array Jvm.ClassFile.FieldType.byte))).before args0 about1 = true := code_word (m := ⟨1, 2⟩) (meth := k1m2) (c := k1c2) (by decide +kernel) rfl rfl rfl (by decide +kernel)
set_option maxRecDepth 65536 in
theorem w_c2 : (Jvm.Cond.code ({ cls := "com/example/gneiss/gneiss/store/FormNumberPinLaw", name := "len", desc := "(I)I" } : Jvm.MethodName) method_2_code (1 : Nat) (Option.some Jvm.ClassFile.FieldType.int)).before args0 about1 = true := code_word (m := ⟨1, 1⟩) (meth := k1m1) (c := k1c1) (by decide +kernel) rfl rfl rfl (by decide +kernel)
set_option maxRecDepth 65536 in
theorem w_c3 : (Jvm.Cond.code ({ cls := "com/example/gneiss/gneiss/store/FormNumberPinLaw", name := "put", desc := "([BI[B)V" } : Jvm.MethodName) method_5_code (3 : Nat) (Option.none : Option Jvm.ClassFile.FieldType)).before args0 about1 = true := code_word (m := ⟨1, 4⟩) (meth := k1m4) (c := k1c4) (by decide +kernel) rfl rfl rfl (by decide +kernel)
set_option maxRecDepth 65536 in
theorem w_c4 : (Jvm.Cond.code ({ cls := "com/example/gneiss/gneiss/store/FormNumberPinLaw", name := "put8", desc := "([BIJ)V" } : Jvm.MethodName) method_4_code (4 : Nat) (Option.none : Option Jvm.ClassFile.FieldType)).before args0 about1 = true := code_word (m := ⟨1, 3⟩) (meth := k1m3) (c := k1c3) (by decide +kernel) rfl rfl rfl (by decide +kernel)
set_option maxRecDepth 65536 in
theorem w_c5 : (Jvm.Cond.code ({ cls := "com/example/gneiss/gneiss/store/Pairs$Form", name := "<init>", desc := "([B[B[B)V" } : Jvm.MethodName) prog_122_method_1_code (5 : Nat) (Option.none : Option Jvm.ClassFile.FieldType)).before args0 about1 = true := code_word (m := ⟨2, 0⟩) (meth := k2m0) (c := k2c0) (by decide +kernel) rfl rfl rfl (by decide +kernel)
set_option maxRecDepth 65536 in
theorem w_c6 : (Jvm.Cond.code ({ cls := "java/lang/Object", name := "<init>", desc := "()V" } : Jvm.MethodName) object_method_1_code (1 : Nat) (Option.none : Option Jvm.ClassFile.FieldType)).before args0 about1 = true := code_word (m := ⟨0, 0⟩) (meth := k0m0) (c := k0c0) (by decide +kernel) rfl rfl rfl (by decide +kernel)
set_option maxRecDepth 65536 in
theorem w_c7 : (Jvm.Cond.code ({ cls := "com/example/gneiss/gneiss/store/Pairs", name := "first", desc := "([B)[B" } : Jvm.MethodName) prog_121_method_3_code (1 : Nat) (Option.some (Jvm.ClassFile.FieldType.array Jvm.ClassFile.FieldType.byte))).before args0 about1 = true := code_word (m := ⟨4, 2⟩) (meth := k4m2) (c := k4c2) (by decide +kernel) rfl rfl rfl (by decide +kernel)
set_option maxRecDepth 65536 in
theorem w_c8 : (Jvm.Cond.code ({ cls := "com/example/gneiss/gneiss/store/Pairs", name := "pair", desc := "([B[B)[B" } : Jvm.MethodName) prog_121_method_2_code (4 : Nat) (Option.some (Jvm.ClassFile.FieldType.array Jvm.ClassFile.FieldType.byte))).before args0 about1 = true := code_word (m := ⟨4, 1⟩) (meth := k4m1) (c := k4c1) (by decide +kernel) rfl rfl rfl (by decide +kernel)
set_option maxRecDepth 65536 in
theorem w_c9 : (Jvm.Cond.code ({ cls := "com/example/gneiss/gneiss/tuple/EscapedBytes", name := "writtenLength", desc := "([B)I" } : Jvm.MethodName) prog_156_method_3_code (6 : Nat) (Option.some Jvm.ClassFile.FieldType.int)).before args0 about1 = true := code_word (m := ⟨5, 2⟩) (meth := k5m2) (c := k5c2) (by decide +kernel) rfl rfl rfl (by decide +kernel)
set_option maxRecDepth 65536 in
theorem w_c10 : (Jvm.Cond.code ({ cls := "com/example/gneiss/gneiss/tuple/EscapedBytes", name := "write", desc := "([B[BI)I" } : Jvm.MethodName) prog_156_method_2_code (8 : Nat) (Option.some Jvm.ClassFile.FieldType.int)).before args0 about1 = true := code_word (m := ⟨5, 1⟩) (meth := k5m1) (c := k5c1) (by decide +kernel) rfl rfl rfl (by decide +kernel)
set_option maxRecDepth 65536 in
theorem w_c11 : (Jvm.Cond.code ({ cls := "java/util/Arrays", name := "copyOf", desc := "([BI)[B" } : Jvm.MethodName) jdk_65_method_121_code (3 : Nat) (Option.some (Jvm.ClassFile.FieldType.array Jvm.ClassFile.FieldType.byte))).before args0 about1 = true := code_word (m := ⟨7, 1⟩) (meth := k7m1) (c := k7c1) (by decide +kernel) rfl rfl rfl (by decide +kernel)
set_option maxRecDepth 65536 in
theorem w_c12 : (Jvm.Cond.code ({ cls := "java/lang/Math", name := "min", desc := "(II)I" } : Jvm.MethodName) jdk_29_method_69_code (2 : Nat) (Option.some Jvm.ClassFile.FieldType.int)).before args0 about1 = true := code_word (m := ⟨8, 1⟩) (meth := k8m1) (c := k8c1) (by decide +kernel) rfl rfl rfl (by decide +kernel)
set_option maxRecDepth 65536 in
theorem w_c13 : (Jvm.Cond.code ({ cls := "com/example/gneiss/gneiss/store/Pairs$Form", name := "number", desc := "([BI)J" } : Jvm.MethodName) prog_122_method_5_code (7 : Nat) (Option.some Jvm.ClassFile.FieldType.long)).before args0 about1 = true := code_word (m := ⟨2, 1⟩) (meth := k2m1) (c := k2c1) (by decide +kernel) rfl rfl rfl (by decide +kernel)
def codes1 : List Jvm.Cond := [Jvm.Cond.code x code maxLocals ret, Jvm.Cond.code ({ cls := "com/example/gneiss/gneiss/store/FormNumberPinLaw", name := "drawn", desc := "(I)[B" } : Jvm.MethodName) method_3_code (3 : Nat) (Option.some (Jvm.ClassFile.FieldType.array Jvm.ClassFile.FieldType.byte)), Jvm.Cond.code ({ cls := "com/example/gneiss/gneiss/store/FormNumberPinLaw", name := "len", desc := "(I)I" } : Jvm.MethodName) method_2_code (1 : Nat) (Option.some Jvm.ClassFile.FieldType.int), Jvm.Cond.code ({ cls := "com/example/gneiss/gneiss/store/FormNumberPinLaw", name := "put", desc := "([BI[B)V" } : Jvm.MethodName) method_5_code (3 : Nat) (Option.none : Option Jvm.ClassFile.FieldType), Jvm.Cond.code ({ cls := "com/example/gneiss/gneiss/store/FormNumberPinLaw", name := "put8", desc := "([BIJ)V" } : Jvm.MethodName) method_4_code (4 : Nat) (Option.none : Option Jvm.ClassFile.FieldType), Jvm.Cond.code ({ cls := "com/example/gneiss/gneiss/store/Pairs$Form", name := "<init>", desc := "([B[B[B)V" } : Jvm.MethodName) prog_122_method_1_code (5 : Nat) (Option.none : Option Jvm.ClassFile.FieldType), Jvm.Cond.code ({ cls := "java/lang/Object", name := "<init>", desc := "()V" } : Jvm.MethodName) object_method_1_code (1 : Nat) (Option.none : Option Jvm.ClassFile.FieldType), Jvm.Cond.code ({ cls := "com/example/gneiss/gneiss/store/Pairs", name := "first", desc := "([B)[B" } : Jvm.MethodName) prog_121_method_3_code (1 : Nat) (Option.some (Jvm.ClassFile.FieldType.array Jvm.ClassFile.FieldType.byte)), Jvm.Cond.code ({ cls := "com/example/gneiss/gneiss/store/Pairs", name := "pair", desc := "([B[B)[B" } : Jvm.MethodName) prog_121_method_2_code (4 : Nat) (Option.some (Jvm.ClassFile.FieldType.array Jvm.ClassFile.FieldType.byte)), Jvm.Cond.code ({ cls := "com/example/gneiss/gneiss/tuple/EscapedBytes", name := "writtenLength", desc := "([B)I" } : Jvm.MethodName) prog_156_method_3_code (6 : Nat) (Option.some Jvm.ClassFile.FieldType.int), Jvm.Cond.code ({ cls := "com/example/gneiss/gneiss/tuple/EscapedBytes", name := "write", desc := "([B[BI)I" } : Jvm.MethodName) prog_156_method_2_code (8 : Nat) (Option.some Jvm.ClassFile.FieldType.int), Jvm.Cond.code ({ cls := "java/util/Arrays", name := "copyOf", desc := "([BI)[B" } : Jvm.MethodName) jdk_65_method_121_code (3 : Nat) (Option.some (Jvm.ClassFile.FieldType.array Jvm.ClassFile.FieldType.byte)), Jvm.Cond.code ({ cls := "java/lang/Math", name := "min", desc := "(II)I" } : Jvm.MethodName) jdk_29_method_69_code (2 : Nat) (Option.some Jvm.ClassFile.FieldType.int), Jvm.Cond.code ({ cls := "com/example/gneiss/gneiss/store/Pairs$Form", name := "number", desc := "([BI)J" } : Jvm.MethodName) prog_122_method_5_code (7 : Nat) (Option.some Jvm.ClassFile.FieldType.long)]
set_option maxRecDepth 65536 in
theorem codes_eq : words1.filter isCode = codes1 := rfl
theorem w_codes : ∀ c ∈ words1.filter isCode, c.before args0 about1 = true := by
  rw [codes_eq]
  intro c hc
  simp only [codes1, List.mem_cons, List.not_mem_nil, or_false] at hc
  rcases hc with rfl | rfl | rfl | rfl | rfl | rfl | rfl | rfl | rfl | rfl | rfl | rfl | rfl | rfl
  · exact w_c0
  · exact w_c1
  · exact w_c2
  · exact w_c3
  · exact w_c4
  · exact w_c5
  · exact w_c6
  · exact w_c7
  · exact w_c8
  · exact w_c9
  · exact w_c10
  · exact w_c11
  · exact w_c12
  · exact w_c13
set_option maxRecDepth 65536 in
theorem w_t1 : (words1.take 24).all (fun c => isCode c || c.before args0 about1) = true := by decide +kernel
set_option maxRecDepth 65536 in
theorem w_t2 : ((words1.drop 24).take 24).all (fun c => isCode c || c.before args0 about1) = true := by decide +kernel
set_option maxRecDepth 65536 in
theorem w_t3 : (((words1.drop 24).drop 24).take 24).all (fun c => isCode c || c.before args0 about1) = true := by decide +kernel
set_option maxRecDepth 65536 in
theorem w_t4 : (((words1.drop 24).drop 24).drop 24).all (fun c => isCode c || c.before args0 about1) = true := by decide +kernel
theorem w_tables : (allAtoms (Jvm.Cond.code x code maxLocals ret :: tables_1)).before args0 about1 = true := by
  rw [allAtoms_all]
  show words1.all (fun c => c.before args0 about1) = true
  refine all_split ?_ w_codes
  rw [← List.take_append_drop 24 words1, List.all_append, w_t1, ← List.take_append_drop 24 (words1.drop 24), List.all_append, w_t2, ← List.take_append_drop 24 ((words1.drop 24).drop 24), List.all_append, w_t3, w_t4]
  rfl
set_option maxRecDepth 65536 in
theorem w_case : (Jvm.Cond.and given_1 narrow_1).before args0 about1 = true := by decide +kernel
theorem w_applies : (headSpec (Jvm.Cond.code x code maxLocals ret :: tables_1) room_1).applies x e0.platform about1 = true :=
  (Spec.applies_iff w_frames).mpr ⟨w_running, w_runnable, w_alone, w_named, w_hears, w_ripe, w_room, w_tables⟩
theorem atStart : AtStart classFile x code maxLocals ret World_1 tables_1 room_1 Calls_1 rest_1 Pre_1 launch0 p0 e0 about1 theMethod args0 below0 :=
  ⟨lists_1, trivial, launch0.admits_env _ _ _, launch0.least_env, fairChoices_fair.cas, fairChoices_fair.clock, w_frames, w_args, w_heap, w_applies, trivial, trivial, w_case⟩
end start1
theorem witness_1 : WitnessClaimed_1 := ⟨start1.p0, start1.e0, start1.about1, start1.theMethod, start1.args0, start1.below0, start1.atStart⟩
end Jvm.Pilot.@@N@@
