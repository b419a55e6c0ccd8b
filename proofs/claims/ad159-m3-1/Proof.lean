import JvmDerived
import JvmDerived.Pilot.@@N@@Statement
import JvmDerived.Pilot.@@N@@Code
set_option linter.unusedVariables false
set_option linter.unusedSimpArgs false
namespace Jvm.RoadKit
open Sem ClassFile Op Lib Jvm.Stand Jvm.Free Jvm.LawKit
section New
variable {p : Program} {l : Launch} {e : Env} {R : Room} {s : State} {m : MethodId} {args : Array Value} {below : List Frame} {meth : Method} {c : Code} {T : State} {locs : List Loc} {cells slots : Nat}
theorem retI (X : Stand p l e R s m args below meth c T locs cells slots) (hx : p.tables.exec = Jvm.exec) {pc : Nat} {Ls : Array Slot} {z : Int32} {rest : List Value} (hret : meth.sig.returnType = some .int) (hd : decode c.code pc = .ok (.ireturn, 1)) {fs : List Frame}
    (hl : ∀ (f : JFrame) (acts : List Action), f.method = m → f.locked = none → f.entered = [] → (doReturn e (T.setTop f) acts (some (.int z))).1 = T.setFrames fs) : Steps p.tables e below (T.setTop (mkF m pc Ls (.int z :: rest))) (T.setFrames fs) := by
  have hm' : T.vm.method? m = some meth := X.method'
  have hn : narrow .int (.int z) = .int z := rfl
  show Steps p.tables e below (T.setTop { method := m, pc := pc, locals := Ls, stack := _ :: rest, locked := none }) _
  jvm_step X.here [X.here.top, hx, hd, hm', hret, hn]
  first | (intro acts; rw [hl _ acts rfl rfl rfl]) | rw [hl _ _ rfl rfl rfl]
  exact Steps.refl _
theorem retJ (X : Stand p l e R s m args below meth c T locs cells slots) (hx : p.tables.exec = Jvm.exec) {pc : Nat} {Ls : Array Slot} {z : Int64} {rest : List Value} (hret : meth.sig.returnType = some .long) (hd : decode c.code pc = .ok (.lreturn, 1)) {fs : List Frame}
    (hl : ∀ (f : JFrame) (acts : List Action), f.method = m → f.locked = none → f.entered = [] → (doReturn e (T.setTop f) acts (some (.long z))).1 = T.setFrames fs) : Steps p.tables e below (T.setTop (mkF m pc Ls (.long z :: rest))) (T.setFrames fs) := by
  have hm' : T.vm.method? m = some meth := X.method'
  show Steps p.tables e below (T.setTop { method := m, pc := pc, locals := Ls, stack := _ :: rest, locked := none }) _
  jvm_step X.here [X.here.top, hx, hd, hm', hret]
  first | (intro acts; rw [hl _ acts rfl rfl rfl]) | rw [hl _ _ rfl rfl rfl]
  exact Steps.refl _
theorem retR (X : Stand p l e R s m args below meth c T locs cells slots) (hx : p.tables.exec = Jvm.exec) {pc : Nat} {Ls : Array Slot} {z : Addr} {t : FieldType} {rest : List Value} (hret : meth.sig.returnType = some t) (ht : t.isReference = true) (hd : decode c.code pc = .ok (.areturn, 1)) {fs : List Frame}
    (hl : ∀ (f : JFrame) (acts : List Action), f.method = m → f.locked = none → f.entered = [] → (doReturn e (T.setTop f) acts (some (.ref z))).1 = T.setFrames fs) : Steps p.tables e below (T.setTop (mkF m pc Ls (.ref z :: rest))) (T.setFrames fs) := by
  have hm' : T.vm.method? m = some meth := X.method'
  show Steps p.tables e below (T.setTop { method := m, pc := pc, locals := Ls, stack := _ :: rest, locked := none }) _
  jvm_step X.here [X.here.top, hx, hd, hm', hret, Value.isRef, ht]
  first | (intro acts; rw [hl _ acts rfl rfl rfl]) | rw [hl _ _ rfl rfl rfl]
  exact Steps.refl _
end New
end Jvm.RoadKit
namespace Jvm.Pilot.@@N@@
open Jvm Jvm.ClassFile Sem Op Lib Jvm.Free Jvm.Stand Jvm.LawKit Jvm.RoadKit Bundle Jvm.Pilot.@@N@@.Jvm.D
/-- from the frame g, where T stands, the body comes to its end, and its end is as QQ says -/
def own_End (p : Program) (e : Env) (below : List Frame) (s : State) (QQ : Option Value → Heap → List Loc → Prop) (rc rs : Nat) (T : State) (g : JFrame) : Prop :=
  ∃ s₂ o, Steps p.tables e below (T.setTop g) s₂ ∧ s₂.status = .running ∧ Ended s₂ below o ∧ ∃ v L, o = .returned v ∧ QQ v s₂.heap L ∧ FrameEnd s o s₂ L rc rs
section Own
variable {p : Program} {l : Launch} {e : Env} {R : Room} {s : State} {m : MethodId} {args : Array Value} {below : List Frame} {meth : Method} {c : Code} {T T' : State} {locs : List Loc} {cells slots : Nat} {QQ : Option Value → Heap → List Loc → Prop} {rc rs : Nat}
theorem own_End.go {g g' : JFrame} (st : ∀ t, Steps p.tables e below (T'.setTop g') t → Steps p.tables e below (T.setTop g) t) (h : own_End p e below s QQ rc rs T' g') : own_End p e below s QQ rc rs T g := by
  obtain ⟨s2, o, a, b⟩ := h
  exact ⟨s2, o, st _ a, b⟩
theorem own_leafI (X : Stand p l e R s m args below meth c T locs cells slots) (hx : p.tables.exec = Jvm.exec) (hk : meth.locks = false) {pc : Nat} {Ls : Array Slot} {z : Int32} {rest : List Value} (hret : meth.sig.returnType = some .int) (hd : decode c.code pc = .ok (.ireturn, 1)) (hq : QQ (some (.int z)) T.heap locs) (h1 : cells ≤ rc) (h2 : slots ≤ rs) : own_End p e below s QQ rc rs T (mkF m pc Ls (.int z :: rest)) := by
  obtain ⟨fs, hr, hrun, hended, hW, hsame⟩ := X.leave (v := some (.int z)) (fun h => by rw [hret] at h; cases h) hk
  exact ⟨_, _, retI X hx hret hd hr, hrun, hended, _, _, rfl, hq, ⟨_, rfl⟩, hW, hsame.mono h1 h2⟩
theorem own_leafN (X : Stand p l e R s m args below meth c T locs cells slots) (hx : p.tables.exec = Jvm.exec) (hk : meth.locks = false) {pc : Nat} {Ls : Array Slot} {z : Int32} {t : FieldType} {rest : List Value} (hret : meth.sig.returnType = some t) (ht : t = .boolean ∨ t = .byte ∨ t = .char ∨ t = .short) (hd : decode c.code pc = .ok (.ireturn, 1)) (hq : QQ (some (.int (nar t z))) T.heap locs) (h1 : cells ≤ rc) (h2 : slots ≤ rs) : own_End p e below s QQ rc rs T (mkF m pc Ls (.int z :: rest)) := by
  obtain ⟨fs, hr, hrun, hended, hW, hsame⟩ := X.leave (v := some (.int (nar t z))) (fun h => by rw [hret] at h; cases h) hk
  exact ⟨_, _, retN X hx hret ht hd hr, hrun, hended, _, _, rfl, hq, ⟨_, rfl⟩, hW, hsame.mono h1 h2⟩
theorem own_leafJ (X : Stand p l e R s m args below meth c T locs cells slots) (hx : p.tables.exec = Jvm.exec) (hk : meth.locks = false) {pc : Nat} {Ls : Array Slot} {z : Int64} {rest : List Value} (hret : meth.sig.returnType = some .long) (hd : decode c.code pc = .ok (.lreturn, 1)) (hq : QQ (some (.long z)) T.heap locs) (h1 : cells ≤ rc) (h2 : slots ≤ rs) : own_End p e below s QQ rc rs T (mkF m pc Ls (.long z :: rest)) := by
  obtain ⟨fs, hr, hrun, hended, hW, hsame⟩ := X.leave (v := some (.long z)) (fun h => by rw [hret] at h; cases h) hk
  exact ⟨_, _, retJ X hx hret hd hr, hrun, hended, _, _, rfl, hq, ⟨_, rfl⟩, hW, hsame.mono h1 h2⟩
theorem own_leafR (X : Stand p l e R s m args below meth c T locs cells slots) (hx : p.tables.exec = Jvm.exec) (hk : meth.locks = false) {pc : Nat} {Ls : Array Slot} {z : Addr} {t : FieldType} {rest : List Value} (hret : meth.sig.returnType = some t) (ht : t.isReference = true) (hd : decode c.code pc = .ok (.areturn, 1)) (hq : QQ (some (.ref z)) T.heap locs) (h1 : cells ≤ rc) (h2 : slots ≤ rs) : own_End p e below s QQ rc rs T (mkF m pc Ls (.ref z :: rest)) := by
  obtain ⟨fs, hr, hrun, hended, hW, hsame⟩ := X.leave (v := some (.ref z)) (fun h => by rw [hret] at h; cases h) hk
  exact ⟨_, _, retR X hx hret ht hd hr, hrun, hended, _, _, rfl, hq, ⟨_, rfl⟩, hW, hsame.mono h1 h2⟩
theorem own_leafV (X : Stand p l e R s m args below meth c T locs cells slots) (hx : p.tables.exec = Jvm.exec) (hk : meth.locks = false) {pc : Nat} {Ls : Array Slot} (hret : meth.sig.returnType = none) (hd : decode c.code pc = .ok (.return_, 1)) (hq : QQ none T.heap locs) (h1 : cells ≤ rc) (h2 : slots ≤ rs) : own_End p e below s QQ rc rs T (mkF m pc Ls []) := by
  obtain ⟨fs, hr, hrun, hended, hW, hsame⟩ := X.leave (v := none) (fun _ => rfl) hk
  exact ⟨_, _, X.returnOut hx hret hd hr, hrun, hended, _, _, rfl, hq, ⟨_, rfl⟩, hW, hsame.mono h1 h2⟩
end Own
theorem own_nb0 : nar .boolean (0 : Int32) = 0 := by decide
theorem own_nb1 : nar .boolean (1 : Int32) = 1 := by decide
theorem own_oneif {P : Prop} [Decidable P] {x y : Slot} (hx : One x) (hy : One y) : One (if P then x else y) := by split <;> assumption

/-! arrays as lists; one step, one row -/
def own_IA (Z : State) (h : Heap) (a : Addr) (ty : FieldType) (L : List Int32) : Prop := ∃ k n, Arv Z h a k ty n (L.map Value.int) (.int 0) ∧ n.toInt = (L.length : Int)
def own_JA (Z : State) (h : Heap) (a : Addr) (L : List Int64) : Prop := ∃ k n, Arv Z h a k .long n (L.map Value.long) (.long 0) ∧ n.toInt = (L.length : Int)
theorem own_IA.keep {Z : State} {h h' : Heap} {a : Addr} {ty : FieldType} {L : List Int32} {ws : List Addr} (V : own_IA Z h a ty L) (K : Keep h h' ws) (q : a ∉ ws) : own_IA Z h' a ty L := by
  obtain ⟨k, n, A, e⟩ := V; exact ⟨k, n, A.keep K q, e⟩
theorem own_JA.keep {Z : State} {h h' : Heap} {a : Addr} {L : List Int64} {ws : List Addr} (V : own_JA Z h a L) (K : Keep h h' ws) (q : a ∉ ws) : own_JA Z h' a L := by
  obtain ⟨k, n, A, e⟩ := V; exact ⟨k, n, A.keep K q, e⟩
theorem own_IA.lt {Z : State} {h : Heap} {a : Addr} {ty : FieldType} {L : List Int32} (V : own_IA Z h a ty L) : a < h.size := by
  obtain ⟨k, n, A, e⟩ := V; exact A.lt
theorem own_JA.lt {Z : State} {h : Heap} {a : Addr} {L : List Int64} (V : own_JA Z h a L) : a < h.size := by
  obtain ⟨k, n, A, e⟩ := V; exact A.lt
theorem own_IA.len {Z : State} {h : Heap} {a : Addr} {ty : FieldType} {L : List Int32} (V : own_IA Z h a ty L) : (L.length : Int) < 2147483648 := by
  obtain ⟨k, n, A, e⟩ := V; have := rng32 n; omega
theorem own_keepE {h h' : Heap} (E : Ext h h') : Keep h h' [] := (Keep.refl h []).ext E
theorem own_ne {h : Heap} {x y : Addr} (hx : x < h.size) (hy : h.size ≤ y) : x ≠ y := Nat.ne_of_lt (Nat.lt_of_lt_of_le hx hy)
theorem own_clamp {j : Int32} (h : 0 ≤ j.toInt) : j.toNatClampNeg = j.toInt.toNat := rfl
theorem own_lt0 {n : Int32} (h : 0 ≤ n.toInt) : ¬ n < 0 := by
  rw [Int32.lt_iff_toInt_lt]; have : (0 : Int32).toInt = 0 := by decide
  omega
theorem own_in {j : Int32} {n m : Nat} (hn : n = m) (h : 0 ≤ j.toInt ∧ j.toInt < (m : Int)) : 0 ≤ j.toInt ∧ j.toInt < (n : Int) := hn ▸ h
theorem own_mapD (L : List Int32) (i : Nat) : (L.map Value.int).getD i (.int 0) = .int (L.getD i 0) := by
  simp only [List.getD_eq_getElem?_getD, List.getElem?_map]; cases L[i]? <;> rfl
theorem own_mapDJ (L : List Int64) (i : Nat) : (L.map Value.long).getD i (.long 0) = .long (L.getD i 0) := by
  simp only [List.getD_eq_getElem?_getD, List.getElem?_map]; cases L[i]? <;> rfl
theorem own_mapS {α β : Type} (f : α → β) (L : List α) (i : Nat) (x : α) : (L.map f).set i (f x) = (L.set i x).map f := by
  induction L generalizing i with
  | nil => rfl
  | cons y L ih => cases i with
    | zero => rfl
    | succ i => simp only [List.map_cons, List.set_cons_succ, ih]
section Heap
variable {p : Program} {l : Launch} {e : Env} {R : Room} {s : State} {m : MethodId} {args : Array Value} {below : List Frame} {meth : Method} {c : Code} {T : State} {locs : List Loc} {cells slots : Nat} {Z : State} {a0 : Array Value} {h : Heap} {n0 : Nat}
/-- newarray of ints, bytes, booleans, chars, shorts -/
theorem own_newA (X : Stand p l e R s m args below meth c T locs cells slots) (hx : p.tables.exec = Jvm.exec) (hZ : Z.Warmed39 s.vm) {aty : ArrayType} {ty : FieldType} (hty : newarray.typeOf aty = ty) (w : (Cond.arrayClass ty).before a0 Z = true) (hd0 : defaultValue ty = .int 0) (eT : T.heap = h) {g : JFrame} (hg : g.method = m) (hd : decode c.code g.pc = .ok (.newarray aty, 2)) {n : Int32} {rest : List Value} (hs : g.stack = .int n :: rest)
    (len : Nat) (hn : n.toInt = len) {cap : Nat} (hcap : len ≤ cap) (hb : cap * 8 ≤ 536870912) (hc : cells + 1 ≤ R.cells) (hl : slots + cap ≤ R.slots) :
    ∃ T' h' a, Stand p l e R s m args below meth c T' locs (cells + 1) (slots + cap) ∧ T'.heap = h' ∧ Keep h h' [] ∧ h.size ≤ a ∧ own_IA Z h' a ty (List.replicate len 0) ∧
      ∀ target, Steps p.tables e below (T'.setTop { g with pc := g.pc + 2, stack := .ref a :: rest }) target → Steps p.tables e below (T.setTop g) target := by
  subst hty
  have h0 : ¬ n < 0 := own_lt0 (by omega)
  obtain ⟨T', h', cA, X', e', E, A, st⟩ := newP X hx hZ w eT hg hd hs h0 (cap := cap) (by show n.toInt.toNat ≤ cap; omega) hb hc hl
  refine ⟨T', h', h.size, X', e', own_keepE E, Nat.le_refl _, ⟨cA, n, ?_, ?_⟩, st⟩
  · have V := (Arv.new A h0).pad (pad_rep [] _ len)
    rw [hd0] at V
    simpa using V
  · simpa using hn
theorem own_newJ (X : Stand p l e R s m args below meth c T locs cells slots) (hx : p.tables.exec = Jvm.exec) (hZ : Z.Warmed39 s.vm) (w : (Cond.arrayClass .long).before a0 Z = true) (eT : T.heap = h) {g : JFrame} (hg : g.method = m) (hd : decode c.code g.pc = .ok (.newarray .long, 2)) {n : Int32} {rest : List Value} (hs : g.stack = .int n :: rest)
    (len : Nat) (hn : n.toInt = len) {cap : Nat} (hcap : len ≤ cap) (hb : cap * 8 ≤ 536870912) (hc : cells + 1 ≤ R.cells) (hl : slots + cap ≤ R.slots) :
    ∃ T' h' a, Stand p l e R s m args below meth c T' locs (cells + 1) (slots + cap) ∧ T'.heap = h' ∧ Keep h h' [] ∧ h.size ≤ a ∧ own_JA Z h' a (List.replicate len 0) ∧
      ∀ target, Steps p.tables e below (T'.setTop { g with pc := g.pc + 2, stack := .ref a :: rest }) target → Steps p.tables e below (T.setTop g) target := by
  have h0 : ¬ n < 0 := own_lt0 (by omega)
  obtain ⟨T', h', cA, X', e', E, A, st⟩ := newP X hx hZ (aty := .long) w eT hg hd hs h0 (cap := cap) (by show n.toInt.toNat ≤ cap; omega) hb hc hl
  refine ⟨T', h', h.size, X', e', own_keepE E, Nat.le_refl _, ⟨cA, n, ?_, ?_⟩, st⟩
  · have V := (Arv.new A h0).pad (pad_rep [] _ len)
    have hd0 : defaultValue (newarray.typeOf .long) = .long 0 := rfl
    rw [hd0] at V
    have V' : Arv Z h' h.size cA .long n ([] ++ List.replicate len (Value.long 0)) (.long 0) := V
    simpa using V'
  · simpa using hn
theorem own_bounds {Z : State} {h : Heap} {a : Addr} {cl : Cell} {n j : Int32} {len : Nat} (S : cl.slots.size = n.toNatClampNeg) (hn : n.toInt = (len : Int)) (hj : 0 ≤ j.toInt ∧ j.toInt < (len : Int)) : ¬ (j < 0 ∨ cl.slots.size ≤ j.toNatClampNeg) := by
  have hn' : n.toNatClampNeg = n.toInt.toNat := rfl
  have hj' : j.toNatClampNeg = j.toInt.toNat := rfl
  rintro (q | q)
  · exact own_lt0 hj.1 q
  · omega
theorem own_ialoadI (X : Stand p l e R s m args below meth c T locs cells slots) (hx : p.tables.exec = Jvm.exec) (hZ : Z.Warmed39 s.vm) (eT : T.heap = h) {a : Addr} {L : List Int32} (V : own_IA Z h a .int L) {j : Int32} (hj : 0 ≤ j.toInt ∧ j.toInt < (L.length : Int)) {g : JFrame} (hg : g.method = m) {rest : List Value} (hs : g.stack = .int j :: .ref a :: rest) (hd : decode c.code g.pc = .ok (.iaload, 1)) :
    ∀ target, Steps p.tables e below (T.setTop { g with pc := g.pc + 1, stack := .int (L.getD j.toInt.toNat 0) :: rest }) target → Steps p.tables e below (T.setTop g) target := by
  obtain ⟨k, n, ⟨cl, A, q1, S, q3, H, G⟩, hn⟩ := V
  have hb := own_bounds (Z := Z) (h := h) (a := a) S hn hj
  exact X.iaload hx (j := j) (v := .int (L.getD j.toInt.toNat 0)) (by rw [eT]; exact A.1) (State.isArrayOf_alike hZ.alike A.2.1) A.2.2 hb (H.at hb (own_mapD L _)) hg hs hd
theorem own_baloadB (X : Stand p l e R s m args below meth c T locs cells slots) (hx : p.tables.exec = Jvm.exec) (hZ : Z.Warmed39 s.vm) (eT : T.heap = h) {a : Addr} {L : List Int32} (V : own_IA Z h a .byte L) {j : Int32} (hj : 0 ≤ j.toInt ∧ j.toInt < (L.length : Int)) {g : JFrame} (hg : g.method = m) {rest : List Value} (hs : g.stack = .int j :: .ref a :: rest) (hd : decode c.code g.pc = .ok (.baload, 1)) :
    ∀ target, Steps p.tables e below (T.setTop { g with pc := g.pc + 1, stack := .int (L.getD j.toInt.toNat 0) :: rest }) target → Steps p.tables e below (T.setTop g) target := by
  obtain ⟨k, n, ⟨cl, A, q1, S, q3, H, G⟩, hn⟩ := V
  have hb := own_bounds (Z := Z) (h := h) (a := a) S hn hj
  exact X.baloadBytes hx (j := j) (v := .int (L.getD j.toInt.toNat 0)) (by rw [eT]; exact A.1) (State.isArrayOf_alike hZ.alike A.2.1) A.2.2 hb (H.at hb (own_mapD L _)) hg hs hd
theorem own_baloadZ (X : Stand p l e R s m args below meth c T locs cells slots) (hx : p.tables.exec = Jvm.exec) (hZ : Z.Warmed39 s.vm) (eT : T.heap = h) {a : Addr} {L : List Int32} (V : own_IA Z h a .boolean L) {j : Int32} (hj : 0 ≤ j.toInt ∧ j.toInt < (L.length : Int)) {g : JFrame} (hg : g.method = m) {rest : List Value} (hs : g.stack = .int j :: .ref a :: rest) (hd : decode c.code g.pc = .ok (.baload, 1)) :
    ∀ target, Steps p.tables e below (T.setTop { g with pc := g.pc + 1, stack := .int (L.getD j.toInt.toNat 0) :: rest }) target → Steps p.tables e below (T.setTop g) target := by
  obtain ⟨k, n, ⟨cl, A, q1, S, q3, H, G⟩, hn⟩ := V
  have hb := own_bounds (Z := Z) (h := h) (a := a) S hn hj
  exact X.baloadBooleans hx (j := j) (v := .int (L.getD j.toInt.toNat 0)) (by rw [eT]; exact A.1) (State.isArrayOf_alike hZ.alike A.2.1) A.2.2 hb (H.at hb (own_mapD L _)) hg hs hd
theorem own_laloadJ (X : Stand p l e R s m args below meth c T locs cells slots) (hx : p.tables.exec = Jvm.exec) (hZ : Z.Warmed39 s.vm) (eT : T.heap = h) {a : Addr} {L : List Int64} (V : own_JA Z h a L) {j : Int32} (hj : 0 ≤ j.toInt ∧ j.toInt < (L.length : Int)) {g : JFrame} (hg : g.method = m) {rest : List Value} (hs : g.stack = .int j :: .ref a :: rest) (hd : decode c.code g.pc = .ok (.laload, 1)) :
    ∀ target, Steps p.tables e below (T.setTop { g with pc := g.pc + 1, stack := .long (L.getD j.toInt.toNat 0) :: rest }) target → Steps p.tables e below (T.setTop g) target := by
  obtain ⟨k, n, ⟨cl, A, q1, S, q3, H, G⟩, hn⟩ := V
  have hb := own_bounds (Z := Z) (h := h) (a := a) S hn hj
  exact X.laload hx (j := j) (v := .long (L.getD j.toInt.toNat 0)) (by rw [eT]; exact A.1) (State.isArrayOf_alike hZ.alike A.2.1) A.2.2 hb (H.at hb (own_mapDJ L _)) hg hs hd
theorem own_lenI (X : Stand p l e R s m args below meth c T locs cells slots) (hx : p.tables.exec = Jvm.exec) (hZ : Z.Warmed39 s.vm) (eT : T.heap = h) {a : Addr} {ty : FieldType} {L : List Int32} (V : own_IA Z h a ty L) {g : JFrame} (hg : g.method = m) {rest : List Value} (hs : g.stack = .ref a :: rest) (hd : decode c.code g.pc = .ok (.arraylength, 1)) :
    ∀ target, Steps p.tables e below (T.setTop { g with pc := g.pc + 1, stack := .int (Int32.ofNat L.length) :: rest }) target → Steps p.tables e below (T.setTop g) target := by
  have hl := V.len
  obtain ⟨k, n, ⟨cl, A, q1, S, q3, H, G⟩, hn⟩ := V
  intro t k
  refine X.arraylength hx (by rw [eT]; exact A.1) (State.isArrayOf_alike hZ.alike A.2.1) hg hs hd t ?_
  rw [len_of S q3]
  have e : n = Int32.ofNat L.length := by
    rw [← Int32.toInt_inj, Int32.toInt_ofNat_of_lt (by omega)]; exact hn
  rw [e]; exact k
theorem own_lenJ (X : Stand p l e R s m args below meth c T locs cells slots) (hx : p.tables.exec = Jvm.exec) (hZ : Z.Warmed39 s.vm) (eT : T.heap = h) {a : Addr} {L : List Int64} (V : own_JA Z h a L) {g : JFrame} (hg : g.method = m) {rest : List Value} (hs : g.stack = .ref a :: rest) (hd : decode c.code g.pc = .ok (.arraylength, 1)) :
    ∀ target, Steps p.tables e below (T.setTop { g with pc := g.pc + 1, stack := .int (Int32.ofNat L.length) :: rest }) target → Steps p.tables e below (T.setTop g) target := by
  obtain ⟨k, n, ⟨cl, A, q1, S, q3, H, G⟩, hn⟩ := V
  have hl := rng32 n
  intro t k
  refine X.arraylength hx (by rw [eT]; exact A.1) (State.isArrayOf_alike hZ.alike A.2.1) hg hs hd t ?_
  rw [len_of S q3]
  have e : n = Int32.ofNat L.length := by
    rw [← Int32.toInt_inj, Int32.toInt_ofNat_of_lt (by omega)]; exact hn
  rw [e]; exact k
theorem own_iastoreI (X : Stand p l e R s m args below meth c T locs cells slots) (hx : p.tables.exec = Jvm.exec) (hZ : Z.Warmed39 s.vm) (N : Fr n0 locs) (eT : T.heap = h) {a : Addr} {L : List Int32} (V : own_IA Z h a .int L) {j x : Int32} (hj : 0 ≤ j.toInt ∧ j.toInt < (L.length : Int)) (ha : n0 ≤ a) {g : JFrame} (hg : g.method = m) {rest : List Value} (hs : g.stack = .int x :: .int j :: .ref a :: rest) (hd : decode c.code g.pc = .ok (.iastore, 1)) :
    ∃ T' h' locs', Stand p l e R s m args below meth c T' locs' cells slots ∧ Fr n0 locs' ∧ T'.heap = h' ∧ Keep h h' [a] ∧ own_IA Z h' a .int (L.set j.toInt.toNat x) ∧
      ∀ target, Steps p.tables e below (T'.setTop { g with pc := g.pc + 1, stack := rest }) target → Steps p.tables e below (T.setTop g) target := by
  obtain ⟨k, n, ⟨cl, A, q1, S, q3, H, G⟩, hn⟩ := V
  have hb := own_bounds (Z := Z) (h := h) (a := a) S hn hj
  obtain ⟨T', h', X', e', W, st⟩ := stI X hx hZ eT A (j := j) hb hg hs hd
  have V' := Arv.set A q1 S q3 H G (v := .int x) rfl W j.toInt.toNat rfl (by simp only [List.length_map]; omega)
  rw [own_mapS] at V'
  exact ⟨T', h', _, X', Fr.snoc X' N ha, e', Keep.of_wr W, ⟨k, n, V', by simpa using hn⟩, st⟩
theorem own_bastoreB (X : Stand p l e R s m args below meth c T locs cells slots) (hx : p.tables.exec = Jvm.exec) (hZ : Z.Warmed39 s.vm) (N : Fr n0 locs) (eT : T.heap = h) {a : Addr} {L : List Int32} (V : own_IA Z h a .byte L) {j x : Int32} (hj : 0 ≤ j.toInt ∧ j.toInt < (L.length : Int)) (ha : n0 ≤ a) {g : JFrame} (hg : g.method = m) {rest : List Value} (hs : g.stack = .int x :: .int j :: .ref a :: rest) (hd : decode c.code g.pc = .ok (.bastore, 1)) :
    ∃ T' h' locs', Stand p l e R s m args below meth c T' locs' cells slots ∧ Fr n0 locs' ∧ T'.heap = h' ∧ Keep h h' [a] ∧ own_IA Z h' a .byte (L.set j.toInt.toNat (nar .byte x)) ∧
      ∀ target, Steps p.tables e below (T'.setTop { g with pc := g.pc + 1, stack := rest }) target → Steps p.tables e below (T.setTop g) target := by
  obtain ⟨k, n, ⟨cl, A, q1, S, q3, H, G⟩, hn⟩ := V
  have hb := own_bounds (Z := Z) (h := h) (a := a) S hn hj
  obtain ⟨T', h', X', e', W, st⟩ := stB X hx hZ eT A (j := j) hb hg hs hd
  have V' := Arv.set A q1 S q3 H G (v := .int (nar .byte x)) (fits_nar_byte _) W j.toInt.toNat rfl (by simp only [List.length_map]; omega)
  rw [own_mapS] at V'
  exact ⟨T', h', _, X', Fr.snoc X' N ha, e', Keep.of_wr W, ⟨k, n, V', by simpa using hn⟩, st⟩
theorem own_bastoreZ (X : Stand p l e R s m args below meth c T locs cells slots) (hx : p.tables.exec = Jvm.exec) (hZ : Z.Warmed39 s.vm) (N : Fr n0 locs) (eT : T.heap = h) {a : Addr} {L : List Int32} (V : own_IA Z h a .boolean L) {j x : Int32} (hj : 0 ≤ j.toInt ∧ j.toInt < (L.length : Int)) (ha : n0 ≤ a) {g : JFrame} (hg : g.method = m) {rest : List Value} (hs : g.stack = .int x :: .int j :: .ref a :: rest) (hd : decode c.code g.pc = .ok (.bastore, 1)) :
    ∃ T' h' locs', Stand p l e R s m args below meth c T' locs' cells slots ∧ Fr n0 locs' ∧ T'.heap = h' ∧ Keep h h' [a] ∧ own_IA Z h' a .boolean (L.set j.toInt.toNat (nar .boolean x)) ∧
      ∀ target, Steps p.tables e below (T'.setTop { g with pc := g.pc + 1, stack := rest }) target → Steps p.tables e below (T.setTop g) target := by
  obtain ⟨k, n, ⟨cl, A, q1, S, q3, H, G⟩, hn⟩ := V
  have hb := own_bounds (Z := Z) (h := h) (a := a) S hn hj
  obtain ⟨T', h', X', e', W, st⟩ := stZ X hx hZ eT A (j := j) hb hg hs hd
  have V' := Arv.set A q1 S q3 H G (v := .int (nar .boolean x)) (fits_nar_bool _) W j.toInt.toNat rfl (by simp only [List.length_map]; omega)
  rw [own_mapS] at V'
  exact ⟨T', h', _, X', Fr.snoc X' N ha, e', Keep.of_wr W, ⟨k, n, V', by simpa using hn⟩, st⟩
theorem own_lastoreJ (X : Stand p l e R s m args below meth c T locs cells slots) (hx : p.tables.exec = Jvm.exec) (hZ : Z.Warmed39 s.vm) (N : Fr n0 locs) (eT : T.heap = h) {a : Addr} {L : List Int64} (V : own_JA Z h a L) {j : Int32} {x : Int64} (hj : 0 ≤ j.toInt ∧ j.toInt < (L.length : Int)) (ha : n0 ≤ a) {g : JFrame} (hg : g.method = m) {rest : List Value} (hs : g.stack = .long x :: .int j :: .ref a :: rest) (hd : decode c.code g.pc = .ok (.lastore, 1)) :
    ∃ T' h' locs', Stand p l e R s m args below meth c T' locs' cells slots ∧ Fr n0 locs' ∧ T'.heap = h' ∧ Keep h h' [a] ∧ own_JA Z h' a (L.set j.toInt.toNat x) ∧
      ∀ target, Steps p.tables e below (T'.setTop { g with pc := g.pc + 1, stack := rest }) target → Steps p.tables e below (T.setTop g) target := by
  obtain ⟨k, n, ⟨cl, A, q1, S, q3, H, G⟩, hn⟩ := V
  have hb := own_bounds (Z := Z) (h := h) (a := a) S hn hj
  obtain ⟨T', h', X', e', W, st⟩ := stJ X hx hZ eT A (j := j) hb hg hs hd
  have V' := Arv.set A q1 S q3 H G (v := .long x) rfl W j.toInt.toNat rfl (by simp only [List.length_map]; omega)
  rw [own_mapS] at V'
  exact ⟨T', h', _, X', Fr.snoc X' N ha, e', Keep.of_wr W, ⟨k, n, V', by simpa using hn⟩, st⟩
/-- new -/
theorem own_new (X : Stand p l e R s m args below meth c T locs cells slots) (hx : p.tables.exec = Jvm.exec) (hZ : Z.Warmed39 s.vm) {own C : String} {index n : Nat} (hown : s.vm.findClass own = some m.cls) (w : (Cond.classLink own index C).before a0 Z = true) (wi : (Cond.instantiable C n).before a0 Z = true) (wz : (Cond.initialized C).before a0 Z = true) (eT : T.heap = h)
    {g : JFrame} (hg : g.method = m) (hd : decode c.code g.pc = .ok (.new index, 3)) (hc : cells + 1 ≤ R.cells) (hl : slots + n ≤ R.slots) :
    ∃ T' h' a, Stand p l e R s m args below meth c T' locs (cells + 1) (slots + n) ∧ T'.heap = h' ∧ Keep h h' [] ∧ h.size ≤ a ∧ Exa Z h' a C ∧ (∀ {O nm d : String} {ty : FieldType}, Laid Z a0 C O nm d → parseFieldDescriptor d = some ty → Fld Z h' a O nm d (defaultValue ty)) ∧
      ∀ target, Steps p.tables e below (T'.setTop { g with pc := g.pc + 3, stack := .ref a :: g.stack }) target → Steps p.tables e below (T.setTop g) target := by
  obtain ⟨T', h', X', e', E, A, D, -, st⟩ := newO X hx hZ hown w wi wz eT hg hd hc hl
  exact ⟨T', h', h.size, X', e', own_keepE E, Nat.le_refl _, A, D, st⟩
end Heap
theorem own_irem (x y : Int32) : x - (x / y) * y = x % y := by
  have lo (z : Int32) : Int32.minValue.toInt ≤ z.toInt := z.minValue_le_toInt
  have hi (z : Int32) : z.toInt ≤ Int32.maxValue.toInt := z.toInt_le
  have d := Int32.ofInt_tdiv (a := x.toInt) (b := y.toInt) (lo x) (hi x) (lo y) (hi y)
  have m := Int32.ofInt_tmod (a := x.toInt) (b := y.toInt) (lo x) (hi x) (lo y) (hi y)
  simp only [Int32.ofInt_toInt] at d m
  have e : x.toInt.tmod y.toInt = x.toInt - (x.toInt.tdiv y.toInt) * y.toInt := by
    have := Int.tmod_add_mul_tdiv x.toInt y.toInt
    rw [Int.mul_comm (x.toInt.tdiv y.toInt)]; omega
  rw [← d, ← m, e, Int32.ofInt_sub, Int32.ofInt_mul, Int32.ofInt_toInt, Int32.ofInt_toInt]
theorem own_remP (x d : Int32) (k : Int) (hd : d.toInt = k) (h : 0 ≤ x.toInt) : (x - (x / d) * d).toInt = x.toInt % k := by
  rw [own_irem]; exact (c_irem x d k hd).1 h
theorem own_mask31 (x : Int32) : (x &&& (2147483647 : Int32)).toInt = x.toInt % 2147483648 := by
  have : (x &&& (2147483647 : Int32)).toInt = x.toInt % (2 ^ 31 : Nat) := c_mask x 2147483647 31 (by decide) (by decide)
  omega
theorem own_succ {x y : Int32} (h : y = x + (1 : Int32)) (hb : x.toInt < 2147483647) : y.toInt = x.toInt + 1 := by
  subst h
  have a := c_iadd x 1
  have r := rng32 (x + 1)
  have r' := rng32 x
  have z : (1 : Int32).toInt = 1 := by decide
  omega
theorem own_ofN {v : Int32} {n : Nat} (h : v = Int32.ofNat n) (hn : n < 2147483648) : v.toInt = n := by
  subst h; exact Int32.toInt_ofNat_of_lt hn
theorem own_z0 : (0 : Int32).toInt = 0 := by decide

theorem own_mid {m lo hi : Int32} {n : Nat} (hm : m = (((lo + hi).toUInt32 >>> ((1 : Int32) &&& 31).toUInt32).toInt32)) (i1 : 0 ≤ lo.toInt) (i3 : hi.toInt ≤ (n : Int)) (i4 : n < 1073741824) (hc : lo < hi) : lo.toInt ≤ m.toInt ∧ m.toInt < hi.toInt := by
  rw [Int32.lt_iff_toInt_lt] at hc
  have u := c_iushr (lo + hi) 1 1 (by decide) (by decide)
  rw [← hm] at u
  have a := c_iadd lo hi
  have r := rng32 (lo + hi)
  omega
theorem own_midI {m lo hi : Int32} {n : Nat} (hm : m = (((lo + hi).toUInt32 >>> ((1 : Int32) &&& 31).toUInt32).toInt32)) (i1 : 0 ≤ lo.toInt) (i3 : hi.toInt ≤ (n : Int)) (i4 : n < 1073741824) (hc : lo < hi) : 0 ≤ m.toInt ∧ m.toInt < (n : Int) := by
  have := own_mid hm i1 i3 i4 hc
  omega
theorem own_ent {v : Int32} {L : List Int32} (h : v = Int32.ofNat (List.length L)) (hL : L.length < 1073741824) : (0 : Int32).toInt ≤ v.toInt ∧ v.toInt ≤ (L.length : Int) ∧ v.toInt - (0 : Int32).toInt < ((L.length + 1 : Nat) : Int) := by
  have e := own_ofN h (by omega)
  have z : (0 : Int32).toInt = 0 := by decide
  omega
theorem own_leni {P : Prop} [Decidable P] (L : List Int32) (i : Nat) (x : Int32) : (if P then List.set L i x else L).length = L.length := by
  split <;> simp
theorem own_ixk {j n : Int32} {L : List Int32} (hL : L.length = n.toInt.toNat) (hn : 0 ≤ n.toInt) (hc : j < n) (hj : 0 ≤ j.toInt) : 0 ≤ j.toInt ∧ j.toInt < (L.length : Int) := by
  rw [Int32.lt_iff_toInt_lt] at hc
  omega
theorem own_len5 {v p : Int32} (h : v = ((p &&& (2147483647 : Int32)) - ((p &&& (2147483647 : Int32)) / (5 : Int32)) * (5 : Int32))) : 0 ≤ v.toInt ∧ v.toInt ≤ 4 := by
  have m := own_mask31 p
  have r := own_remP (p &&& (2147483647 : Int32)) 5 5 (by decide) (by omega)
  rw [← h] at r
  omega
theorem own_pd0 : parseMethodDescriptor "([II)I" = some ⟨[(.array .int), .int], some .int⟩ := by decide +kernel
theorem own_pd1 : parseMethodDescriptor "(IIII)Z" = some ⟨[.int, .int, .int, .int], some .boolean⟩ := by decide +kernel
theorem own_pd2 : parseMethodDescriptor "(IIII)I" = some ⟨[.int, .int, .int, .int], some .int⟩ := by decide +kernel
theorem own_d2_0 : decode method_3_code 0 = .ok (.iload_n 1, 1) := by decide +kernel
theorem own_d2_1 : decode method_3_code 1 = .ok (.iload_n 0, 1) := by decide +kernel
theorem own_d2_2 : decode method_3_code 2 = .ok (.if_icmp .ge 12, 3) := by decide +kernel
theorem own_d2_5 : decode method_3_code 5 = .ok (.iload_n 2, 1) := by decide +kernel
theorem own_d2_6 : decode method_3_code 6 = .ok (.iload_n 3, 1) := by decide +kernel
theorem own_d2_7 : decode method_3_code 7 = .ok (.if_icmp .ne 7, 3) := by decide +kernel
theorem own_d2_10 : decode method_3_code 10 = .ok (.iconst 1, 1) := by decide +kernel
theorem own_d2_11 : decode method_3_code 11 = .ok (.goto 4, 3) := by decide +kernel
theorem own_d2_14 : decode method_3_code 14 = .ok (.iconst 0, 1) := by decide +kernel
theorem own_d2_15 : decode method_3_code 15 = .ok (.ireturn, 1) := by decide +kernel
theorem own_pn2 : plainName "com/example/tame_markup/tamemarkup/document/AttributeListIndexPastPinLaw" = true := by first | (simp [plainName, overriddenIn]; done) | decide +kernel
theorem own_ef2 (m : MethodId) (p0 : Int32) (p1 : Int32) (p2 : Int32) (p3 : Int32) : entryFrame m #[(.int p0), (.int p1), (.int p2), (.int p3)] 4 = mkF m 0 #[.val (.int p0), .val (.int p1), .val (.int p2), .val (.int p3)] [] := by first | (simp [entryFrame, mkF, argsToLocals, Value.category]; done) | rfl
abbrev own_R2 : Room := { frames := 0, cells := 0, slots := 0, locals := 0 }
def own_F2 (p0 : Int32) (p1 : Int32) (p2 : Int32) (p3 : Int32) : Int32 :=
  if p1 < p0 then
    if p2 = p3 then
      (1 : Int32)
    else
      (0 : Int32)
  else
    (0 : Int32)
def own_Q2 (p0 : Int32) (p1 : Int32) (p2 : Int32) (p3 : Int32) (h0 : Heap) (vz : Option Value) (h : Heap) (Lz : List Loc) : Prop :=  vz = some (.int (own_F2 p0 p1 p2 p3)) ∧ Lz = [] ∧ h = h0
theorem own_e2_6 {p0 : Int32} {p1 : Int32} {p2 : Int32} {p3 : Int32} (hc2_2 : p1 < p0) (hc7_4 : p2 = p3) : (nar .boolean (1 : Int32)) = (own_F2 p0 p1 p2 p3) := by
  rw [own_nb1]
  skip
  first
    | (simp only [own_F2, if_pos hc2_2, if_pos hc7_4]; done)
    | (exfalso; contradiction)
theorem own_e2_8 {p0 : Int32} {p1 : Int32} {p2 : Int32} {p3 : Int32} (hc2_2 : p1 < p0) (hc7_4 : ¬ (p2 = p3)) : (nar .boolean (0 : Int32)) = (own_F2 p0 p1 p2 p3) := by
  rw [own_nb0]
  skip
  first
    | (simp only [own_F2, if_pos hc2_2, if_neg hc7_4]; done)
    | (exfalso; contradiction)
theorem own_e2_10 {p0 : Int32} {p1 : Int32} {p2 : Int32} {p3 : Int32} (hc2_2 : ¬ (p1 < p0)) : (nar .boolean (0 : Int32)) = (own_F2 p0 p1 p2 p3) := by
  rw [own_nb0]
  skip
  first
    | (simp only [own_F2, if_neg hc2_2]; done)
    | (exfalso; contradiction)
set_option maxRecDepth 65536 in
set_option maxHeartbeats 40000000 in
theorem own_rm2 (l : Launch) (Z : State) (a0 : Array Value) (hw : ∀ d ∈ tables_1, d.before a0 Z = true) (ws : List Jvm.Cond) (p0 : Int32) (p1 : Int32) (p2 : Int32) (p3 : Int32) (h0 : Heap) :
    MetFree l (⟨"com/example/tame_markup/tamemarkup/document/AttributeListIndexPastPinLaw", "hit", "(IIII)Z"⟩ : MethodName) (head1 (Jvm.Cond.code (⟨"com/example/tame_markup/tamemarkup/document/AttributeListIndexPastPinLaw", "hit", "(IIII)Z"⟩ : MethodName) method_3_code 4 (some .boolean) :: ws) own_R2) (fun a U => a = #[(.int p0), (.int p1), (.int p2), (.int p3)] ∧ Z.Warmed39 U.vm ∧ U.heap = h0) (fun _ _ _ _ _ => True) (fun _ U o U' => ∃ vz Lz, o = .returned vz ∧ own_Q2 p0 p1 p2 p3 h0 vz U'.heap Lz ∧ FrameEnd U o U' Lz own_R2.cells own_R2.slots) := by
  refine MetFree.of_bodySF (plainFor_of_name own_pn2) hisR ?_
  intro p e s m args below meth c s₁ Bd hml0 hP hK
  obtain ⟨rfl, hZ, hh⟩ := hP
  have hx := Bd.exec
  have hby := Bd.bytes
  have hml : c.maxLocals = 4 := hml0
  have hown : s.vm.findClass "com/example/tame_markup/tamemarkup/document/AttributeListIndexPastPinLaw" = some m.cls := findClass_of_methodNamed Bd.named
  have hnm := (name_of_methodNamed Bd.named Bd.method).1
  have X0 : Stand p l e own_R2 s m #[(.int p0), (.int p1), (.int p2), (.int p3)] below meth c s₁ [] 0 0 := Stand.of_body Bd
  have e0 : s₁.heap = h0 := by rw [← hh, Bd.state]; rfl
  show own_End p e below s (fun vz h Lz => vz = some (.int (own_F2 p0 p1 p2 p3)) ∧ Lz = [] ∧ h = h0) own_R2.cells own_R2.slots s₁ (entryFrame m #[(.int p0), (.int p1), (.int p2), (.int p3)] 4)
  refine own_End.go (fun t k => castTop (own_ef2 m p0 p1 p2 p3) k) ?_
  show own_End p e below s _ _ _ s₁ (mkF m 0 #[.val (.int p0), .val (.int p1), .val (.int p2), .val (.int p3)] [])
  have st1 : ∀ t, Steps p.tables e below (s₁.setTop (mkF m 2 #[.val (.int p0), .val (.int p1), .val (.int p2), .val (.int p3)] [(.int p0), (.int p1)])) t → Steps p.tables e below (s₁.setTop (mkF m 0 #[.val (.int p0), .val (.int p1), .val (.int p2), .val (.int p3)] [])) t := by
    intro t k
    show Steps p.tables e below (s₁.setTop (mkF m 0 #[.val (.int p0), .val (.int p1), .val (.int p2), .val (.int p3)] [])) _
    refine XS.iloadN X0.here hx rfl (hb hby own_d2_0) rfl ?_
    show Steps p.tables e below (s₁.setTop (mkF m 1 #[.val (.int p0), .val (.int p1), .val (.int p2), .val (.int p3)] [(.int p1)])) _
    refine XS.iloadN X0.here hx rfl (hb hby own_d2_1) rfl ?_
    exact k
  refine own_End.go (fun t k => st1 _ k) ?_
  by_cases hc2_2 : p1 < p0
  · have st3 : ∀ t, Steps p.tables e below (s₁.setTop (mkF m 7 #[.val (.int p0), .val (.int p1), .val (.int p2), .val (.int p3)] [(.int p3), (.int p2)])) t → Steps p.tables e below (s₁.setTop (mkF m 2 #[.val (.int p0), .val (.int p1), .val (.int p2), .val (.int p3)] [(.int p0), (.int p1)])) t := by
      intro t k
      show Steps p.tables e below (s₁.setTop (mkF m 2 #[.val (.int p0), .val (.int p1), .val (.int p2), .val (.int p3)] [(.int p0), (.int p1)])) _
      refine XS.icmpNo X0.here hx rfl (hb hby own_d2_2) rfl (tlt hc2_2).2.1 ?_
      show Steps p.tables e below (s₁.setTop (mkF m 5 #[.val (.int p0), .val (.int p1), .val (.int p2), .val (.int p3)] [])) _
      refine XS.iloadN X0.here hx rfl (hb hby own_d2_5) rfl ?_
      show Steps p.tables e below (s₁.setTop (mkF m 6 #[.val (.int p0), .val (.int p1), .val (.int p2), .val (.int p3)] [(.int p2)])) _
      refine XS.iloadN X0.here hx rfl (hb hby own_d2_6) rfl ?_
      exact k
    refine own_End.go (fun t k => st3 _ k) ?_
    by_cases hc7_4 : p2 = p3
    · have st5 : ∀ t, Steps p.tables e below (s₁.setTop (mkF m 15 #[.val (.int p0), .val (.int p1), .val (.int p2), .val (.int p3)] [(.int (1 : Int32))])) t → Steps p.tables e below (s₁.setTop (mkF m 7 #[.val (.int p0), .val (.int p1), .val (.int p2), .val (.int p3)] [(.int p3), (.int p2)])) t := by
        intro t k
        show Steps p.tables e below (s₁.setTop (mkF m 7 #[.val (.int p0), .val (.int p1), .val (.int p2), .val (.int p3)] [(.int p3), (.int p2)])) _
        refine XS.icmpNo X0.here hx rfl (hb hby own_d2_7) rfl (teq hc7_4).2 ?_
        show Steps p.tables e below (s₁.setTop (mkF m 10 #[.val (.int p0), .val (.int p1), .val (.int p2), .val (.int p3)] [])) _
        refine XS.iconst X0.here hx rfl (hb hby own_d2_10) ?_
        show Steps p.tables e below (s₁.setTop (mkF m 11 #[.val (.int p0), .val (.int p1), .val (.int p2), .val (.int p3)] [(.int (1 : Int32))])) _
        refine XS.goto X0.here hx rfl (pc0 := 11) (pc' := 15) rfl (hb hby own_d2_11) (by decide) (by decide) ?_
        exact k
      refine own_End.go (fun t k => st5 _ k) ?_
      exact own_leafN X0 hx Bd.notSynchronized (t := .boolean) Bd.returns (by simp) (hb hby own_d2_15) ⟨congrArg (fun z => some (Value.int z)) (own_e2_6 hc2_2 hc7_4), rfl, e0⟩ (by decide) (by decide)
    · have st7 : ∀ t, Steps p.tables e below (s₁.setTop (mkF m 15 #[.val (.int p0), .val (.int p1), .val (.int p2), .val (.int p3)] [(.int (0 : Int32))])) t → Steps p.tables e below (s₁.setTop (mkF m 7 #[.val (.int p0), .val (.int p1), .val (.int p2), .val (.int p3)] [(.int p3), (.int p2)])) t := by
        intro t k
        show Steps p.tables e below (s₁.setTop (mkF m 7 #[.val (.int p0), .val (.int p1), .val (.int p2), .val (.int p3)] [(.int p3), (.int p2)])) _
        refine XS.icmpYes X0.here hx rfl (pc0 := 7) (pc' := 14) rfl (hb hby own_d2_7) rfl (feq hc7_4).2 (by decide) (by decide) ?_
        show Steps p.tables e below (s₁.setTop (mkF m 14 #[.val (.int p0), .val (.int p1), .val (.int p2), .val (.int p3)] [])) _
        refine XS.iconst X0.here hx rfl (hb hby own_d2_14) ?_
        exact k
      refine own_End.go (fun t k => st7 _ k) ?_
      exact own_leafN X0 hx Bd.notSynchronized (t := .boolean) Bd.returns (by simp) (hb hby own_d2_15) ⟨congrArg (fun z => some (Value.int z)) (own_e2_8 hc2_2 hc7_4), rfl, e0⟩ (by decide) (by decide)
  · have st9 : ∀ t, Steps p.tables e below (s₁.setTop (mkF m 15 #[.val (.int p0), .val (.int p1), .val (.int p2), .val (.int p3)] [(.int (0 : Int32))])) t → Steps p.tables e below (s₁.setTop (mkF m 2 #[.val (.int p0), .val (.int p1), .val (.int p2), .val (.int p3)] [(.int p0), (.int p1)])) t := by
      intro t k
      show Steps p.tables e below (s₁.setTop (mkF m 2 #[.val (.int p0), .val (.int p1), .val (.int p2), .val (.int p3)] [(.int p0), (.int p1)])) _
      refine XS.icmpYes X0.here hx rfl (pc0 := 2) (pc' := 14) rfl (hb hby own_d2_2) rfl (flt hc2_2).2.1 (by decide) (by decide) ?_
      show Steps p.tables e below (s₁.setTop (mkF m 14 #[.val (.int p0), .val (.int p1), .val (.int p2), .val (.int p3)] [])) _
      refine XS.iconst X0.here hx rfl (hb hby own_d2_14) ?_
      exact k
    refine own_End.go (fun t k => st9 _ k) ?_
    exact own_leafN X0 hx Bd.notSynchronized (t := .boolean) Bd.returns (by simp) (hb hby own_d2_15) ⟨congrArg (fun z => some (Value.int z)) (own_e2_10 hc2_2), rfl, e0⟩ (by decide) (by decide)
theorem own_d3_0 : decode method_2_code 0 = .ok (.iload_n 1, 1) := by decide +kernel
theorem own_d3_1 : decode method_2_code 1 = .ok (.iload_n 0, 1) := by decide +kernel
theorem own_d3_2 : decode method_2_code 2 = .ok (.if_icmp .ge 12, 3) := by decide +kernel
theorem own_d3_5 : decode method_2_code 5 = .ok (.iload_n 2, 1) := by decide +kernel
theorem own_d3_6 : decode method_2_code 6 = .ok (.iload_n 3, 1) := by decide +kernel
theorem own_d3_7 : decode method_2_code 7 = .ok (.if_icmp .ge 7, 3) := by decide +kernel
theorem own_d3_10 : decode method_2_code 10 = .ok (.iconst 1, 1) := by decide +kernel
theorem own_d3_11 : decode method_2_code 11 = .ok (.goto 4, 3) := by decide +kernel
theorem own_d3_14 : decode method_2_code 14 = .ok (.iconst 0, 1) := by decide +kernel
theorem own_d3_15 : decode method_2_code 15 = .ok (.ireturn, 1) := by decide +kernel
theorem own_pn3 : plainName "com/example/tame_markup/tamemarkup/document/AttributeListIndexPastPinLaw" = true := by first | (simp [plainName, overriddenIn]; done) | decide +kernel
theorem own_ef3 (m : MethodId) (p0 : Int32) (p1 : Int32) (p2 : Int32) (p3 : Int32) : entryFrame m #[(.int p0), (.int p1), (.int p2), (.int p3)] 4 = mkF m 0 #[.val (.int p0), .val (.int p1), .val (.int p2), .val (.int p3)] [] := by first | (simp [entryFrame, mkF, argsToLocals, Value.category]; done) | rfl
abbrev own_R3 : Room := { frames := 0, cells := 0, slots := 0, locals := 0 }
def own_F3 (p0 : Int32) (p1 : Int32) (p2 : Int32) (p3 : Int32) : Int32 :=
  if p1 < p0 then
    if p2 < p3 then
      (1 : Int32)
    else
      (0 : Int32)
  else
    (0 : Int32)
def own_Q3 (p0 : Int32) (p1 : Int32) (p2 : Int32) (p3 : Int32) (h0 : Heap) (vz : Option Value) (h : Heap) (Lz : List Loc) : Prop :=  vz = some (.int (own_F3 p0 p1 p2 p3)) ∧ Lz = [] ∧ h = h0
theorem own_e3_6 {p0 : Int32} {p1 : Int32} {p2 : Int32} {p3 : Int32} (hc2_2 : p1 < p0) (hc7_4 : p2 < p3) : (1 : Int32) = (own_F3 p0 p1 p2 p3) := by
  skip
  first
    | (simp only [own_F3, if_pos hc2_2, if_pos hc7_4]; done)
    | (exfalso; contradiction)
theorem own_e3_8 {p0 : Int32} {p1 : Int32} {p2 : Int32} {p3 : Int32} (hc2_2 : p1 < p0) (hc7_4 : ¬ (p2 < p3)) : (0 : Int32) = (own_F3 p0 p1 p2 p3) := by
  skip
  first
    | (simp only [own_F3, if_pos hc2_2, if_neg hc7_4]; done)
    | (exfalso; contradiction)
theorem own_e3_10 {p0 : Int32} {p1 : Int32} {p2 : Int32} {p3 : Int32} (hc2_2 : ¬ (p1 < p0)) : (0 : Int32) = (own_F3 p0 p1 p2 p3) := by
  skip
  first
    | (simp only [own_F3, if_neg hc2_2]; done)
    | (exfalso; contradiction)
set_option maxRecDepth 65536 in
set_option maxHeartbeats 40000000 in
theorem own_rm3 (l : Launch) (Z : State) (a0 : Array Value) (hw : ∀ d ∈ tables_1, d.before a0 Z = true) (ws : List Jvm.Cond) (p0 : Int32) (p1 : Int32) (p2 : Int32) (p3 : Int32) (h0 : Heap) :
    MetFree l (⟨"com/example/tame_markup/tamemarkup/document/AttributeListIndexPastPinLaw", "below", "(IIII)I"⟩ : MethodName) (head1 (Jvm.Cond.code (⟨"com/example/tame_markup/tamemarkup/document/AttributeListIndexPastPinLaw", "below", "(IIII)I"⟩ : MethodName) method_2_code 4 (some .int) :: ws) own_R3) (fun a U => a = #[(.int p0), (.int p1), (.int p2), (.int p3)] ∧ Z.Warmed39 U.vm ∧ U.heap = h0) (fun _ _ _ _ _ => True) (fun _ U o U' => ∃ vz Lz, o = .returned vz ∧ own_Q3 p0 p1 p2 p3 h0 vz U'.heap Lz ∧ FrameEnd U o U' Lz own_R3.cells own_R3.slots) := by
  refine MetFree.of_bodySF (plainFor_of_name own_pn3) hisR ?_
  intro p e s m args below meth c s₁ Bd hml0 hP hK
  obtain ⟨rfl, hZ, hh⟩ := hP
  have hx := Bd.exec
  have hby := Bd.bytes
  have hml : c.maxLocals = 4 := hml0
  have hown : s.vm.findClass "com/example/tame_markup/tamemarkup/document/AttributeListIndexPastPinLaw" = some m.cls := findClass_of_methodNamed Bd.named
  have hnm := (name_of_methodNamed Bd.named Bd.method).1
  have X0 : Stand p l e own_R3 s m #[(.int p0), (.int p1), (.int p2), (.int p3)] below meth c s₁ [] 0 0 := Stand.of_body Bd
  have e0 : s₁.heap = h0 := by rw [← hh, Bd.state]; rfl
  show own_End p e below s (fun vz h Lz => vz = some (.int (own_F3 p0 p1 p2 p3)) ∧ Lz = [] ∧ h = h0) own_R3.cells own_R3.slots s₁ (entryFrame m #[(.int p0), (.int p1), (.int p2), (.int p3)] 4)
  refine own_End.go (fun t k => castTop (own_ef3 m p0 p1 p2 p3) k) ?_
  show own_End p e below s _ _ _ s₁ (mkF m 0 #[.val (.int p0), .val (.int p1), .val (.int p2), .val (.int p3)] [])
  have st1 : ∀ t, Steps p.tables e below (s₁.setTop (mkF m 2 #[.val (.int p0), .val (.int p1), .val (.int p2), .val (.int p3)] [(.int p0), (.int p1)])) t → Steps p.tables e below (s₁.setTop (mkF m 0 #[.val (.int p0), .val (.int p1), .val (.int p2), .val (.int p3)] [])) t := by
    intro t k
    show Steps p.tables e below (s₁.setTop (mkF m 0 #[.val (.int p0), .val (.int p1), .val (.int p2), .val (.int p3)] [])) _
    refine XS.iloadN X0.here hx rfl (hb hby own_d3_0) rfl ?_
    show Steps p.tables e below (s₁.setTop (mkF m 1 #[.val (.int p0), .val (.int p1), .val (.int p2), .val (.int p3)] [(.int p1)])) _
    refine XS.iloadN X0.here hx rfl (hb hby own_d3_1) rfl ?_
    exact k
  refine own_End.go (fun t k => st1 _ k) ?_
  by_cases hc2_2 : p1 < p0
  · have st3 : ∀ t, Steps p.tables e below (s₁.setTop (mkF m 7 #[.val (.int p0), .val (.int p1), .val (.int p2), .val (.int p3)] [(.int p3), (.int p2)])) t → Steps p.tables e below (s₁.setTop (mkF m 2 #[.val (.int p0), .val (.int p1), .val (.int p2), .val (.int p3)] [(.int p0), (.int p1)])) t := by
      intro t k
      show Steps p.tables e below (s₁.setTop (mkF m 2 #[.val (.int p0), .val (.int p1), .val (.int p2), .val (.int p3)] [(.int p0), (.int p1)])) _
      refine XS.icmpNo X0.here hx rfl (hb hby own_d3_2) rfl (tlt hc2_2).2.1 ?_
      show Steps p.tables e below (s₁.setTop (mkF m 5 #[.val (.int p0), .val (.int p1), .val (.int p2), .val (.int p3)] [])) _
      refine XS.iloadN X0.here hx rfl (hb hby own_d3_5) rfl ?_
      show Steps p.tables e below (s₁.setTop (mkF m 6 #[.val (.int p0), .val (.int p1), .val (.int p2), .val (.int p3)] [(.int p2)])) _
      refine XS.iloadN X0.here hx rfl (hb hby own_d3_6) rfl ?_
      exact k
    refine own_End.go (fun t k => st3 _ k) ?_
    by_cases hc7_4 : p2 < p3
    · have st5 : ∀ t, Steps p.tables e below (s₁.setTop (mkF m 15 #[.val (.int p0), .val (.int p1), .val (.int p2), .val (.int p3)] [(.int (1 : Int32))])) t → Steps p.tables e below (s₁.setTop (mkF m 7 #[.val (.int p0), .val (.int p1), .val (.int p2), .val (.int p3)] [(.int p3), (.int p2)])) t := by
        intro t k
        show Steps p.tables e below (s₁.setTop (mkF m 7 #[.val (.int p0), .val (.int p1), .val (.int p2), .val (.int p3)] [(.int p3), (.int p2)])) _
        refine XS.icmpNo X0.here hx rfl (hb hby own_d3_7) rfl (tlt hc7_4).2.1 ?_
        show Steps p.tables e below (s₁.setTop (mkF m 10 #[.val (.int p0), .val (.int p1), .val (.int p2), .val (.int p3)] [])) _
        refine XS.iconst X0.here hx rfl (hb hby own_d3_10) ?_
        show Steps p.tables e below (s₁.setTop (mkF m 11 #[.val (.int p0), .val (.int p1), .val (.int p2), .val (.int p3)] [(.int (1 : Int32))])) _
        refine XS.goto X0.here hx rfl (pc0 := 11) (pc' := 15) rfl (hb hby own_d3_11) (by decide) (by decide) ?_
        exact k
      refine own_End.go (fun t k => st5 _ k) ?_
      exact own_leafI X0 hx Bd.notSynchronized Bd.returns (hb hby own_d3_15) ⟨congrArg (fun z => some (Value.int z)) (own_e3_6 hc2_2 hc7_4), rfl, e0⟩ (by decide) (by decide)
    · have st7 : ∀ t, Steps p.tables e below (s₁.setTop (mkF m 15 #[.val (.int p0), .val (.int p1), .val (.int p2), .val (.int p3)] [(.int (0 : Int32))])) t → Steps p.tables e below (s₁.setTop (mkF m 7 #[.val (.int p0), .val (.int p1), .val (.int p2), .val (.int p3)] [(.int p3), (.int p2)])) t := by
        intro t k
        show Steps p.tables e below (s₁.setTop (mkF m 7 #[.val (.int p0), .val (.int p1), .val (.int p2), .val (.int p3)] [(.int p3), (.int p2)])) _
        refine XS.icmpYes X0.here hx rfl (pc0 := 7) (pc' := 14) rfl (hb hby own_d3_7) rfl (flt hc7_4).2.1 (by decide) (by decide) ?_
        show Steps p.tables e below (s₁.setTop (mkF m 14 #[.val (.int p0), .val (.int p1), .val (.int p2), .val (.int p3)] [])) _
        refine XS.iconst X0.here hx rfl (hb hby own_d3_14) ?_
        exact k
      refine own_End.go (fun t k => st7 _ k) ?_
      exact own_leafI X0 hx Bd.notSynchronized Bd.returns (hb hby own_d3_15) ⟨congrArg (fun z => some (Value.int z)) (own_e3_8 hc2_2 hc7_4), rfl, e0⟩ (by decide) (by decide)
  · have st9 : ∀ t, Steps p.tables e below (s₁.setTop (mkF m 15 #[.val (.int p0), .val (.int p1), .val (.int p2), .val (.int p3)] [(.int (0 : Int32))])) t → Steps p.tables e below (s₁.setTop (mkF m 2 #[.val (.int p0), .val (.int p1), .val (.int p2), .val (.int p3)] [(.int p0), (.int p1)])) t := by
      intro t k
      show Steps p.tables e below (s₁.setTop (mkF m 2 #[.val (.int p0), .val (.int p1), .val (.int p2), .val (.int p3)] [(.int p0), (.int p1)])) _
      refine XS.icmpYes X0.here hx rfl (pc0 := 2) (pc' := 14) rfl (hb hby own_d3_2) rfl (flt hc2_2).2.1 (by decide) (by decide) ?_
      show Steps p.tables e below (s₁.setTop (mkF m 14 #[.val (.int p0), .val (.int p1), .val (.int p2), .val (.int p3)] [])) _
      refine XS.iconst X0.here hx rfl (hb hby own_d3_14) ?_
      exact k
    refine own_End.go (fun t k => st9 _ k) ?_
    exact own_leafI X0 hx Bd.notSynchronized Bd.returns (hb hby own_d3_15) ⟨congrArg (fun z => some (Value.int z)) (own_e3_10 hc2_2), rfl, e0⟩ (by decide) (by decide)
theorem own_os1_15 {z0 : Value} {z1 : Value} {z2 : Value} {z3 : Value} {s4 : Slot} {v : Int32} (h : One s4) : storeLocals #[.val z0, .val z1, .val z2, .val z3, s4] 4 (.int v) = some #[.val z0, .val z1, .val z2, .val z3, .val (.int v)] := by
  rcases h with rfl | ⟨w, rfl, hw⟩
  · rfl
  · cases w <;> first | rfl | (simp [Value.category] at hw)
theorem own_d1_0 : decode prog_16_method_5_code 0 = .ok (.iconst 0, 1) := by decide +kernel
theorem own_d1_1 : decode prog_16_method_5_code 1 = .ok (.istore_n 2, 1) := by decide +kernel
theorem own_d1_2 : decode prog_16_method_5_code 2 = .ok (.aload_n 0, 1) := by decide +kernel
theorem own_d1_3 : decode prog_16_method_5_code 3 = .ok (.arraylength, 1) := by decide +kernel
theorem own_d1_4 : decode prog_16_method_5_code 4 = .ok (.istore_n 3, 1) := by decide +kernel
theorem own_d1_5 : decode prog_16_method_5_code 5 = .ok (.iload_n 2, 1) := by decide +kernel
theorem own_d1_6 : decode prog_16_method_5_code 6 = .ok (.iload_n 3, 1) := by decide +kernel
theorem own_d1_7 : decode prog_16_method_5_code 7 = .ok (.if_icmp .ge 35, 3) := by decide +kernel
theorem own_d1_10 : decode prog_16_method_5_code 10 = .ok (.iload_n 2, 1) := by decide +kernel
theorem own_d1_11 : decode prog_16_method_5_code 11 = .ok (.iload_n 3, 1) := by decide +kernel
theorem own_d1_12 : decode prog_16_method_5_code 12 = .ok (.iadd, 1) := by decide +kernel
theorem own_d1_13 : decode prog_16_method_5_code 13 = .ok (.iconst 1, 1) := by decide +kernel
theorem own_d1_14 : decode prog_16_method_5_code 14 = .ok (.iushr, 1) := by decide +kernel
theorem own_d1_15 : decode prog_16_method_5_code 15 = .ok (.istore 4, 2) := by decide +kernel
theorem own_d1_17 : decode prog_16_method_5_code 17 = .ok (.aload_n 0, 1) := by decide +kernel
theorem own_d1_18 : decode prog_16_method_5_code 18 = .ok (.iload 4, 2) := by decide +kernel
theorem own_d1_20 : decode prog_16_method_5_code 20 = .ok (.iaload, 1) := by decide +kernel
theorem own_d1_21 : decode prog_16_method_5_code 21 = .ok (.iload 4, 2) := by decide +kernel
theorem own_d1_23 : decode prog_16_method_5_code 23 = .ok (.isub, 1) := by decide +kernel
theorem own_d1_24 : decode prog_16_method_5_code 24 = .ok (.iload_n 1, 1) := by decide +kernel
theorem own_d1_25 : decode prog_16_method_5_code 25 = .ok (.if_icmp .gt 11, 3) := by decide +kernel
theorem own_d1_28 : decode prog_16_method_5_code 28 = .ok (.iload 4, 2) := by decide +kernel
theorem own_d1_30 : decode prog_16_method_5_code 30 = .ok (.iconst 1, 1) := by decide +kernel
theorem own_d1_31 : decode prog_16_method_5_code 31 = .ok (.iadd, 1) := by decide +kernel
theorem own_d1_32 : decode prog_16_method_5_code 32 = .ok (.istore_n 2, 1) := by decide +kernel
theorem own_d1_33 : decode prog_16_method_5_code 33 = .ok (.goto 6, 3) := by decide +kernel
theorem own_d1_36 : decode prog_16_method_5_code 36 = .ok (.iload 4, 2) := by decide +kernel
theorem own_d1_38 : decode prog_16_method_5_code 38 = .ok (.istore_n 3, 1) := by decide +kernel
theorem own_d1_39 : decode prog_16_method_5_code 39 = .ok (.goto (-34), 3) := by decide +kernel
theorem own_d1_42 : decode prog_16_method_5_code 42 = .ok (.iload_n 1, 1) := by decide +kernel
theorem own_d1_43 : decode prog_16_method_5_code 43 = .ok (.iload_n 2, 1) := by decide +kernel
theorem own_d1_44 : decode prog_16_method_5_code 44 = .ok (.iadd, 1) := by decide +kernel
theorem own_d1_45 : decode prog_16_method_5_code 45 = .ok (.ireturn, 1) := by decide +kernel
theorem own_pn1 : plainName "com/example/tame_markup/tamemarkup/document/AttributeList" = true := by first | (simp [plainName, overriddenIn]; done) | decide +kernel
theorem own_ef1 (m : MethodId) (o0 : Addr) (p1 : Int32) : entryFrame m #[(.ref o0), (.int p1)] 5 = mkF m 0 #[.val (.ref o0), .val (.int p1), .unset, .unset, .unset] [] := by first | (simp [entryFrame, mkF, argsToLocals, Value.category]; done) | rfl
abbrev own_R1 : Room := { frames := 0, cells := 0, slots := 0, locals := 0 }
def own_P1_5_0 (p1 : Int32) (L : List Int32) : Nat → Int32 → Int32 → Int32
  | 0, _, _ => 0
  | fuel + 1, lo, hi =>
    if lo < hi then
      let v5 : Int32 := (((lo + hi).toUInt32 >>> ((1 : Int32) &&& 31).toUInt32).toInt32)
      if p1 < ((List.getD L (v5).toInt.toNat 0) - v5) then
        (own_P1_5_0 p1 L fuel lo v5)
      else
        let v11 : Int32 := (v5 + (1 : Int32))
        (own_P1_5_0 p1 L fuel v11 hi)
    else
      (p1 + lo)
theorem own_e1_10 {p1 : Int32} {L : List Int32} {fuel : Nat} {lo : Int32} {hi : Int32} {v5 : Int32} (hv5 : v5 = (((lo + hi).toUInt32 >>> ((1 : Int32) &&& 31).toUInt32).toInt32)) (hc7_4 : lo < hi) (hc25_8 : p1 < ((List.getD L (v5).toInt.toNat 0) - v5)) : (own_P1_5_0 p1 L fuel lo v5) = (own_P1_5_0 p1 L (fuel + 1) lo hi) := by
  subst hv5
  first
    | (simp only [own_P1_5_0, if_pos hc7_4, if_pos hc25_8]; done)
    | (exfalso; contradiction)
theorem own_e1_14 {p1 : Int32} {L : List Int32} {fuel : Nat} {lo : Int32} {hi : Int32} {v5 : Int32} {v11 : Int32} (hv5 : v5 = (((lo + hi).toUInt32 >>> ((1 : Int32) &&& 31).toUInt32).toInt32)) (hv11 : v11 = (v5 + (1 : Int32))) (hc7_4 : lo < hi) (hc25_8 : ¬ (p1 < ((List.getD L (v5).toInt.toNat 0) - v5))) : (own_P1_5_0 p1 L fuel v11 hi) = (own_P1_5_0 p1 L (fuel + 1) lo hi) := by
  subst hv5 hv11
  first
    | (simp only [own_P1_5_0, if_pos hc7_4, if_neg hc25_8]; done)
    | (exfalso; contradiction)
theorem own_e1_16 {p1 : Int32} {L : List Int32} {fuel : Nat} {lo : Int32} {hi : Int32} (hc7_4 : ¬ (lo < hi)) : (p1 + lo) = (own_P1_5_0 p1 L (fuel + 1) lo hi) := by
  skip
  first
    | (simp only [own_P1_5_0, if_neg hc7_4]; done)
    | (exfalso; contradiction)
set_option maxRecDepth 65536 in
set_option maxHeartbeats 40000000 in
theorem own_lp1_5 {p : Program} {l : Launch} {e : Env} {s : State} {m : MethodId} {below : List Frame} {meth : Method} {c : Code} {Z : State} {a0 : Array Value} {h0 : Heap} {n0 : Nat} (hx : p.tables.exec = Jvm.exec) (hZ : Z.Warmed39 s.vm) (hw : ∀ d ∈ tables_1, d.before a0 Z = true) (hby : c.code = prog_16_method_5_code) (hml : c.maxLocals = 5) (hown : s.vm.findClass "com/example/tame_markup/tamemarkup/document/AttributeList" = some m.cls) (hnm : meth.name = "indexPast") (hret : meth.sig.returnType = (some .int)) (hk : meth.locks = false) (o0 : Addr) (p1 : Int32) (L : List Int32) :
    ∀ (fuel : Nat) (T : State) (lo : Int32) (hi : Int32) (s4 : Slot) (X : Stand p l e own_R1 s m #[(.ref o0), (.int p1)] below meth c T [] 0 0) (eT : T.heap = h0) (f_0 : own_IA Z h0 o0 .int L) (h_s4 : One s4) (i1 : 0 ≤ lo.toInt) (i2 : lo.toInt ≤ hi.toInt) (i3 : hi.toInt ≤ (L.length : Int)) (i4 : L.length < 1073741824) (hf : hi.toInt - lo.toInt < (fuel : Int)), own_End p e below s (fun vz h Lz => vz = some (.int (own_P1_5_0 p1 L fuel lo hi)) ∧ Lz = [] ∧ h = h0) own_R1.cells own_R1.slots T (mkF m 5 #[.val (.ref o0), .val (.int p1), .val (.int lo), .val (.int hi), s4] []) := by
  intro fuel
  induction fuel with
  | zero =>
    intro T lo hi s4 X eT f_0 h_s4 i1 i2 i3 i4 hf
    exfalso
    omega
  | succ fuel ih =>
    intro T lo hi s4 X eT f_0 h_s4 i1 i2 i3 i4 hf
    have st3 : ∀ t, Steps p.tables e below (T.setTop (mkF m 7 #[.val (.ref o0), .val (.int p1), .val (.int lo), .val (.int hi), s4] [(.int hi), (.int lo)])) t → Steps p.tables e below (T.setTop (mkF m 5 #[.val (.ref o0), .val (.int p1), .val (.int lo), .val (.int hi), s4] [])) t := by
      intro t k
      show Steps p.tables e below (T.setTop (mkF m 5 #[.val (.ref o0), .val (.int p1), .val (.int lo), .val (.int hi), s4] [])) _
      refine XS.iloadN X.here hx rfl (hb hby own_d1_5) rfl ?_
      show Steps p.tables e below (T.setTop (mkF m 6 #[.val (.ref o0), .val (.int p1), .val (.int lo), .val (.int hi), s4] [(.int lo)])) _
      refine XS.iloadN X.here hx rfl (hb hby own_d1_6) rfl ?_
      exact k
    refine own_End.go (fun t k => st3 _ k) ?_
    by_cases hc7_4 : lo < hi
    · obtain ⟨v5, hv5⟩ : ∃ z : Int32, z = (((lo + hi).toUInt32 >>> ((1 : Int32) &&& 31).toUInt32).toInt32) := ⟨_, rfl⟩
      have st6 : ∀ t, Steps p.tables e below (T.setTop (mkF m 17 #[.val (.ref o0), .val (.int p1), .val (.int lo), .val (.int hi), .val (.int v5)] [])) t → Steps p.tables e below (T.setTop (mkF m 7 #[.val (.ref o0), .val (.int p1), .val (.int lo), .val (.int hi), s4] [(.int hi), (.int lo)])) t := by
        rw [hv5]
        intro t k
        show Steps p.tables e below (T.setTop (mkF m 7 #[.val (.ref o0), .val (.int p1), .val (.int lo), .val (.int hi), s4] [(.int hi), (.int lo)])) _
        refine XS.icmpNo X.here hx rfl (hb hby own_d1_7) rfl (tlt hc7_4).2.1 ?_
        show Steps p.tables e below (T.setTop (mkF m 10 #[.val (.ref o0), .val (.int p1), .val (.int lo), .val (.int hi), s4] [])) _
        refine XS.iloadN X.here hx rfl (hb hby own_d1_10) rfl ?_
        show Steps p.tables e below (T.setTop (mkF m 11 #[.val (.ref o0), .val (.int p1), .val (.int lo), .val (.int hi), s4] [(.int lo)])) _
        refine XS.iloadN X.here hx rfl (hb hby own_d1_11) rfl ?_
        show Steps p.tables e below (T.setTop (mkF m 12 #[.val (.ref o0), .val (.int p1), .val (.int lo), .val (.int hi), s4] [(.int hi), (.int lo)])) _
        refine XS.iadd X.here hx rfl (hb hby own_d1_12) rfl ?_
        show Steps p.tables e below (T.setTop (mkF m 13 #[.val (.ref o0), .val (.int p1), .val (.int lo), .val (.int hi), s4] [(.int (lo + hi))])) _
        refine XS.iconst X.here hx rfl (hb hby own_d1_13) ?_
        show Steps p.tables e below (T.setTop (mkF m 14 #[.val (.ref o0), .val (.int p1), .val (.int lo), .val (.int hi), s4] [(.int (1 : Int32)), (.int (lo + hi))])) _
        refine XS.iushr X.here hx rfl (hb hby own_d1_14) rfl ?_
        show Steps p.tables e below (T.setTop (mkF m 15 #[.val (.ref o0), .val (.int p1), .val (.int lo), .val (.int hi), s4] [(.int (((lo + hi).toUInt32 >>> ((1 : Int32) &&& 31).toUInt32).toInt32))])) _
        refine XS.istore X.here hx rfl (hb hby own_d1_15) rfl (l' := #[.val (.ref o0), .val (.int p1), .val (.int lo), .val (.int hi), .val (.int (((lo + hi).toUInt32 >>> ((1 : Int32) &&& 31).toUInt32).toInt32))]) (own_os1_15 h_s4) ?_
        exact k
      have st7 : ∀ t, Steps p.tables e below (T.setTop (mkF m 25 #[.val (.ref o0), .val (.int p1), .val (.int lo), .val (.int hi), .val (.int v5)] [(.int p1), (.int ((List.getD L (v5).toInt.toNat 0) - v5))])) t → Steps p.tables e below (T.setTop (mkF m 17 #[.val (.ref o0), .val (.int p1), .val (.int lo), .val (.int hi), .val (.int v5)] [])) t := by
        intro t k
        show Steps p.tables e below (T.setTop (mkF m 17 #[.val (.ref o0), .val (.int p1), .val (.int lo), .val (.int hi), .val (.int v5)] [])) _
        refine XS.aloadN X.here hx rfl (hb hby own_d1_17) rfl rfl ?_
        show Steps p.tables e below (T.setTop (mkF m 18 #[.val (.ref o0), .val (.int p1), .val (.int lo), .val (.int hi), .val (.int v5)] [(.ref o0)])) _
        refine XS.iload X.here hx rfl (hb hby own_d1_18) rfl ?_
        show Steps p.tables e below (T.setTop (mkF m 20 #[.val (.ref o0), .val (.int p1), .val (.int lo), .val (.int hi), .val (.int v5)] [(.int v5), (.ref o0)])) _
        refine own_ialoadI X hx hZ eT f_0 (j := v5) (own_midI hv5 i1 i3 i4 hc7_4) (g := (mkF m 20 #[.val (.ref o0), .val (.int p1), .val (.int lo), .val (.int hi), .val (.int v5)] [(.int v5), (.ref o0)])) rfl rfl (hb hby own_d1_20) _ ?_
        show Steps p.tables e below (T.setTop (mkF m 21 #[.val (.ref o0), .val (.int p1), .val (.int lo), .val (.int hi), .val (.int v5)] [(.int (List.getD L (v5).toInt.toNat 0))])) _
        refine XS.iload X.here hx rfl (hb hby own_d1_21) rfl ?_
        show Steps p.tables e below (T.setTop (mkF m 23 #[.val (.ref o0), .val (.int p1), .val (.int lo), .val (.int hi), .val (.int v5)] [(.int v5), (.int (List.getD L (v5).toInt.toNat 0))])) _
        refine XS.isub X.here hx rfl (hb hby own_d1_23) rfl ?_
        show Steps p.tables e below (T.setTop (mkF m 24 #[.val (.ref o0), .val (.int p1), .val (.int lo), .val (.int hi), .val (.int v5)] [(.int ((List.getD L (v5).toInt.toNat 0) - v5))])) _
        refine XS.iloadN X.here hx rfl (hb hby own_d1_24) rfl ?_
        exact k
      refine own_End.go (fun t k => st6 _ (st7 _ k)) ?_
      by_cases hc25_8 : p1 < ((List.getD L (v5).toInt.toNat 0) - v5)
      · have st9 : ∀ t, Steps p.tables e below (T.setTop (mkF m 5 #[.val (.ref o0), .val (.int p1), .val (.int lo), .val (.int v5), .val (.int v5)] [])) t → Steps p.tables e below (T.setTop (mkF m 25 #[.val (.ref o0), .val (.int p1), .val (.int lo), .val (.int hi), .val (.int v5)] [(.int p1), (.int ((List.getD L (v5).toInt.toNat 0) - v5))])) t := by
          intro t k
          show Steps p.tables e below (T.setTop (mkF m 25 #[.val (.ref o0), .val (.int p1), .val (.int lo), .val (.int hi), .val (.int v5)] [(.int p1), (.int ((List.getD L (v5).toInt.toNat 0) - v5))])) _
          refine XS.icmpYes X.here hx rfl (pc0 := 25) (pc' := 36) rfl (hb hby own_d1_25) rfl (tlt hc25_8).2.2.1 (by decide) (by decide) ?_
          show Steps p.tables e below (T.setTop (mkF m 36 #[.val (.ref o0), .val (.int p1), .val (.int lo), .val (.int hi), .val (.int v5)] [])) _
          refine XS.iload X.here hx rfl (hb hby own_d1_36) rfl ?_
          show Steps p.tables e below (T.setTop (mkF m 38 #[.val (.ref o0), .val (.int p1), .val (.int lo), .val (.int hi), .val (.int v5)] [(.int v5)])) _
          refine XS.istoreN X.here hx rfl (hb hby own_d1_38) rfl (l' := #[.val (.ref o0), .val (.int p1), .val (.int lo), .val (.int v5), .val (.int v5)]) rfl ?_
          show Steps p.tables e below (T.setTop (mkF m 39 #[.val (.ref o0), .val (.int p1), .val (.int lo), .val (.int v5), .val (.int v5)] [])) _
          refine XS.goto X.here hx rfl (pc0 := 39) (pc' := 5) rfl (hb hby own_d1_39) (by decide) (by decide) ?_
          exact k
        refine own_End.go (fun t k => st9 _ k) ?_
        rw [← (own_e1_10 hv5 hc7_4 hc25_8)]
        exact ih T lo v5 (.val (.int v5)) X eT f_0 (One.val rfl) (by have q := own_mid hv5 i1 i3 i4 hc7_4; omega) (by have q := own_mid hv5 i1 i3 i4 hc7_4; omega) (by have q := own_mid hv5 i1 i3 i4 hc7_4; omega) i4 (by have q := own_mid hv5 i1 i3 i4 hc7_4; omega)
      · obtain ⟨v11, hv11⟩ : ∃ z : Int32, z = (v5 + (1 : Int32)) := ⟨_, rfl⟩
        have st12 : ∀ t, Steps p.tables e below (T.setTop (mkF m 33 #[.val (.ref o0), .val (.int p1), .val (.int v11), .val (.int hi), .val (.int v5)] [])) t → Steps p.tables e below (T.setTop (mkF m 25 #[.val (.ref o0), .val (.int p1), .val (.int lo), .val (.int hi), .val (.int v5)] [(.int p1), (.int ((List.getD L (v5).toInt.toNat 0) - v5))])) t := by
          rw [hv11]
          intro t k
          show Steps p.tables e below (T.setTop (mkF m 25 #[.val (.ref o0), .val (.int p1), .val (.int lo), .val (.int hi), .val (.int v5)] [(.int p1), (.int ((List.getD L (v5).toInt.toNat 0) - v5))])) _
          refine XS.icmpNo X.here hx rfl (hb hby own_d1_25) rfl (flt hc25_8).2.2.1 ?_
          show Steps p.tables e below (T.setTop (mkF m 28 #[.val (.ref o0), .val (.int p1), .val (.int lo), .val (.int hi), .val (.int v5)] [])) _
          refine XS.iload X.here hx rfl (hb hby own_d1_28) rfl ?_
          show Steps p.tables e below (T.setTop (mkF m 30 #[.val (.ref o0), .val (.int p1), .val (.int lo), .val (.int hi), .val (.int v5)] [(.int v5)])) _
          refine XS.iconst X.here hx rfl (hb hby own_d1_30) ?_
          show Steps p.tables e below (T.setTop (mkF m 31 #[.val (.ref o0), .val (.int p1), .val (.int lo), .val (.int hi), .val (.int v5)] [(.int (1 : Int32)), (.int v5)])) _
          refine XS.iadd X.here hx rfl (hb hby own_d1_31) rfl ?_
          show Steps p.tables e below (T.setTop (mkF m 32 #[.val (.ref o0), .val (.int p1), .val (.int lo), .val (.int hi), .val (.int v5)] [(.int (v5 + (1 : Int32)))])) _
          refine XS.istoreN X.here hx rfl (hb hby own_d1_32) rfl (l' := #[.val (.ref o0), .val (.int p1), .val (.int (v5 + (1 : Int32))), .val (.int hi), .val (.int v5)]) rfl ?_
          exact k
        have st13 : ∀ t, Steps p.tables e below (T.setTop (mkF m 5 #[.val (.ref o0), .val (.int p1), .val (.int v11), .val (.int hi), .val (.int v5)] [])) t → Steps p.tables e below (T.setTop (mkF m 33 #[.val (.ref o0), .val (.int p1), .val (.int v11), .val (.int hi), .val (.int v5)] [])) t := by
          intro t k
          show Steps p.tables e below (T.setTop (mkF m 33 #[.val (.ref o0), .val (.int p1), .val (.int v11), .val (.int hi), .val (.int v5)] [])) _
          refine XS.goto X.here hx rfl (pc0 := 33) (pc' := 39) rfl (hb hby own_d1_33) (by decide) (by decide) ?_
          show Steps p.tables e below (T.setTop (mkF m 39 #[.val (.ref o0), .val (.int p1), .val (.int v11), .val (.int hi), .val (.int v5)] [])) _
          refine XS.goto X.here hx rfl (pc0 := 39) (pc' := 5) rfl (hb hby own_d1_39) (by decide) (by decide) ?_
          exact k
        refine own_End.go (fun t k => st12 _ (st13 _ k)) ?_
        rw [← (own_e1_14 hv5 hv11 hc7_4 hc25_8)]
        exact ih T v11 hi (.val (.int v5)) X eT f_0 (One.val rfl) (by have q := own_mid hv5 i1 i3 i4 hc7_4; have e := own_succ hv11 (by omega); omega) (by have q := own_mid hv5 i1 i3 i4 hc7_4; have e := own_succ hv11 (by omega); omega) (by have q := own_mid hv5 i1 i3 i4 hc7_4; have e := own_succ hv11 (by omega); omega) i4 (by have q := own_mid hv5 i1 i3 i4 hc7_4; have e := own_succ hv11 (by omega); omega)
    · have st15 : ∀ t, Steps p.tables e below (T.setTop (mkF m 45 #[.val (.ref o0), .val (.int p1), .val (.int lo), .val (.int hi), s4] [(.int (p1 + lo))])) t → Steps p.tables e below (T.setTop (mkF m 7 #[.val (.ref o0), .val (.int p1), .val (.int lo), .val (.int hi), s4] [(.int hi), (.int lo)])) t := by
        intro t k
        show Steps p.tables e below (T.setTop (mkF m 7 #[.val (.ref o0), .val (.int p1), .val (.int lo), .val (.int hi), s4] [(.int hi), (.int lo)])) _
        refine XS.icmpYes X.here hx rfl (pc0 := 7) (pc' := 42) rfl (hb hby own_d1_7) rfl (flt hc7_4).2.1 (by decide) (by decide) ?_
        show Steps p.tables e below (T.setTop (mkF m 42 #[.val (.ref o0), .val (.int p1), .val (.int lo), .val (.int hi), s4] [])) _
        refine XS.iloadN X.here hx rfl (hb hby own_d1_42) rfl ?_
        show Steps p.tables e below (T.setTop (mkF m 43 #[.val (.ref o0), .val (.int p1), .val (.int lo), .val (.int hi), s4] [(.int p1)])) _
        refine XS.iloadN X.here hx rfl (hb hby own_d1_43) rfl ?_
        show Steps p.tables e below (T.setTop (mkF m 44 #[.val (.ref o0), .val (.int p1), .val (.int lo), .val (.int hi), s4] [(.int lo), (.int p1)])) _
        refine XS.iadd X.here hx rfl (hb hby own_d1_44) rfl ?_
        exact k
      refine own_End.go (fun t k => st15 _ k) ?_
      exact own_leafI X hx hk hret (hb hby own_d1_45) ⟨congrArg (fun z => some (Value.int z)) (own_e1_16 hc7_4), rfl, eT⟩ (by decide) (by decide)
def own_F1 (p1 : Int32) (L : List Int32) : Int32 :=
  let v1 : Int32 := (Int32.ofNat (List.length L))
  (own_P1_5_0 p1 L (L.length + 1) (0 : Int32) v1)
def own_Q1 (Z : State) (o0 : Addr) (p1 : Int32) (L : List Int32) (h0 : Heap) (n0 : Nat) (vz : Option Value) (h : Heap) (Lz : List Loc) : Prop := vz = some (.int (own_F1 p1 L)) ∧ Lz = [] ∧ h = h0
theorem own_e1_17 {p1 : Int32} {L : List Int32} {v1 : Int32} (hv1 : v1 = (Int32.ofNat (List.length L))) : (own_P1_5_0 p1 L (L.length + 1) (0 : Int32) v1) = (own_F1 p1 L) := by
  subst hv1
  first
    | (simp only [own_F1]; done)
    | (exfalso; contradiction)
set_option maxRecDepth 65536 in
set_option maxHeartbeats 40000000 in
theorem own_rm1 (l : Launch) (Z : State) (a0 : Array Value) (hw : ∀ d ∈ tables_1, d.before a0 Z = true) (ws : List Jvm.Cond) (o0 : Addr) (p1 : Int32) (L : List Int32) (h0 : Heap) (n0 : Nat) (Z0 : n0 ≤ h0.size) (V_o0 : own_IA Z h0 o0 .int L) (hL : L.length < 1073741824) :
    MetFree l (⟨"com/example/tame_markup/tamemarkup/document/AttributeList", "indexPast", "([II)I"⟩ : MethodName) (head1 (Jvm.Cond.code (⟨"com/example/tame_markup/tamemarkup/document/AttributeList", "indexPast", "([II)I"⟩ : MethodName) prog_16_method_5_code 5 (some .int) :: ws) own_R1) (fun a U => a = #[(.ref o0), (.int p1)] ∧ Z.Warmed39 U.vm ∧ U.heap = h0) (fun _ _ _ _ _ => True) (fun _ U o U' => ∃ vz Lz, o = .returned vz ∧ own_Q1 Z o0 p1 L h0 n0 vz U'.heap Lz ∧ FrameEnd U o U' Lz own_R1.cells own_R1.slots) := by
  refine MetFree.of_bodySF (plainFor_of_name own_pn1) hisR ?_
  intro p e s m args below meth c s₁ Bd hml0 hP hK
  obtain ⟨rfl, hZ, hh⟩ := hP
  have hx := Bd.exec
  have hby := Bd.bytes
  have hml : c.maxLocals = 5 := hml0
  have hown : s.vm.findClass "com/example/tame_markup/tamemarkup/document/AttributeList" = some m.cls := findClass_of_methodNamed Bd.named
  have hnm := (name_of_methodNamed Bd.named Bd.method).1
  have X0 : Stand p l e own_R1 s m #[(.ref o0), (.int p1)] below meth c s₁ [] 0 0 := Stand.of_body Bd
  have e0 : s₁.heap = h0 := by rw [← hh, Bd.state]; rfl
  show own_End p e below s (fun vz h Lz => vz = some (.int (own_F1 p1 L)) ∧ Lz = [] ∧ h = h0) own_R1.cells own_R1.slots s₁ (entryFrame m #[(.ref o0), (.int p1)] 5)
  refine own_End.go (fun t k => castTop (own_ef1 m o0 p1) k) ?_
  show own_End p e below s _ _ _ s₁ (mkF m 0 #[.val (.ref o0), .val (.int p1), .unset, .unset, .unset] [])
  have N0 := Fr.nil n0
  have K0 : Keep h0 h0 [] := Keep.refl h0 _
  obtain ⟨v1, hv1⟩ : ∃ z : Int32, z = (Int32.ofNat (List.length L)) := ⟨_, rfl⟩
  have st2 : ∀ t, Steps p.tables e below (s₁.setTop (mkF m 5 #[.val (.ref o0), .val (.int p1), .val (.int (0 : Int32)), .val (.int v1), .unset] [])) t → Steps p.tables e below (s₁.setTop (mkF m 0 #[.val (.ref o0), .val (.int p1), .unset, .unset, .unset] [])) t := by
    rw [hv1]
    intro t k
    show Steps p.tables e below (s₁.setTop (mkF m 0 #[.val (.ref o0), .val (.int p1), .unset, .unset, .unset] [])) _
    refine XS.iconst X0.here hx rfl (hb hby own_d1_0) ?_
    show Steps p.tables e below (s₁.setTop (mkF m 1 #[.val (.ref o0), .val (.int p1), .unset, .unset, .unset] [(.int (0 : Int32))])) _
    refine XS.istoreN X0.here hx rfl (hb hby own_d1_1) rfl (l' := #[.val (.ref o0), .val (.int p1), .val (.int (0 : Int32)), .unset, .unset]) rfl ?_
    show Steps p.tables e below (s₁.setTop (mkF m 2 #[.val (.ref o0), .val (.int p1), .val (.int (0 : Int32)), .unset, .unset] [])) _
    refine XS.aloadN X0.here hx rfl (hb hby own_d1_2) rfl rfl ?_
    show Steps p.tables e below (s₁.setTop (mkF m 3 #[.val (.ref o0), .val (.int p1), .val (.int (0 : Int32)), .unset, .unset] [(.ref o0)])) _
    refine own_lenI X0 hx hZ e0 V_o0 (g := (mkF m 3 #[.val (.ref o0), .val (.int p1), .val (.int (0 : Int32)), .unset, .unset] [(.ref o0)])) rfl rfl (hb hby own_d1_3) _ ?_
    show Steps p.tables e below (s₁.setTop (mkF m 4 #[.val (.ref o0), .val (.int p1), .val (.int (0 : Int32)), .unset, .unset] [(.int (Int32.ofNat (List.length L)))])) _
    refine XS.istoreN X0.here hx rfl (hb hby own_d1_4) rfl (l' := #[.val (.ref o0), .val (.int p1), .val (.int (0 : Int32)), .val (.int (Int32.ofNat (List.length L))), .unset]) rfl ?_
    exact k
  refine own_End.go (fun t k => st2 _ k) ?_
  rw [← (own_e1_17 hv1)]
  exact own_lp1_5 (n0 := n0) hx hZ hw hby hml hown hnm Bd.returns Bd.notSynchronized o0 p1 L (L.length + 1) s₁ (0 : Int32) v1 (.unset) X0 e0 V_o0 One.u (by decide) (own_ent hv1 hL).1 (own_ent hv1 hL).2.1 hL (own_ent hv1 hL).2.2
theorem own_pn0 : plainName "com/example/tame_markup/tamemarkup/document/AttributeListIndexPastPinLaw" = true := by first | (simp [plainName, overriddenIn]; done) | decide +kernel
theorem own_ef0 (m : MethodId) (p0 : Int32) (p1 : Int32) (p2 : Int32) (p3 : Int32) (p4 : Int32) (p5 : Int32) : entryFrame m #[(.int p0), (.int p1), (.int p2), (.int p3), (.int p4), (.int p5)] maxLocals = mkF m 0 #[.val (.int p0), .val (.int p1), .val (.int p2), .val (.int p3), .val (.int p4), .val (.int p5), .unset, .unset, .unset, .unset, .unset, .unset, .unset, .unset, .unset, .unset] [] := by first | (simp [entryFrame, mkF, argsToLocals, Value.category, maxLocals]; done) | rfl
def own_F0 (p0 : Int32) (p1 : Int32) (p2 : Int32) (p3 : Int32) (p4 : Int32) (p5 : Int32) : Int32 :=
  let v1 : Int32 := ((p0 &&& (2147483647 : Int32)) - ((p0 &&& (2147483647 : Int32)) / (5 : Int32)) * (5 : Int32))
  let v3 : Int32 := (p1 &&& (268435455 : Int32))
  let v5 : Int32 := ((v3 + (1 : Int32)) + (p2 &&& (268435455 : Int32)))
  let v7 : Int32 := ((v5 + (1 : Int32)) + (p3 &&& (268435455 : Int32)))
  let v9 : Int32 := ((v7 + (1 : Int32)) + (p4 &&& (268435455 : Int32)))
  let v21 : List Int32 := (if (0 : Int32) < v1 then (List.set (List.replicate v1.toInt.toNat (0 : Int32)) ((0 : Int32)).toInt.toNat v3) else (List.replicate v1.toInt.toNat (0 : Int32)))
  let v31 : List Int32 := (if (1 : Int32) < v1 then (List.set v21 ((1 : Int32)).toInt.toNat v5) else v21)
  let v41 : List Int32 := (if (2 : Int32) < v1 then (List.set v31 ((2 : Int32)).toInt.toNat v7) else v31)
  let v51 : List Int32 := (if (3 : Int32) < v1 then (List.set v41 ((3 : Int32)).toInt.toNat v9) else v41)
  let v54 : Int32 := (p5 &&& (1073741823 : Int32))
  let v58 : Int32 := (own_F1 v54 v51)
  let v61 : Int32 := (own_F2 v1 (0 : Int32) v3 v58)
  let v80 : Int32 := (if v61 = (0 : Int32) then (if (own_F2 v1 (1 : Int32) v5 v58) = (0 : Int32) then (if (own_F2 v1 (2 : Int32) v7 v58) = (0 : Int32) then (if (own_F2 v1 (3 : Int32) v9 v58) = (0 : Int32) then (0 : Int32) else (1 : Int32)) else (1 : Int32)) else (1 : Int32)) else (1 : Int32))
  let v84 : Int32 := (own_F3 v1 (0 : Int32) v3 v58)
  let v87 : Int32 := (own_F3 v1 (1 : Int32) v5 v58)
  let v90 : Int32 := (own_F3 v1 (2 : Int32) v7 v58)
  let v93 : Int32 := (own_F3 v1 (3 : Int32) v9 v58)
  let v94 : Int32 := (((v84 + v87) + v90) + v93)
  if v58 < (0 : Int32) then
    (0 : Int32)
  else
    if v80 = (0 : Int32) then
      if (v58 - v94) = v54 then
        (1 : Int32)
      else
        (0 : Int32)
    else
      (0 : Int32)
def own_Q0 (Z : State) (p0 : Int32) (p1 : Int32) (p2 : Int32) (p3 : Int32) (p4 : Int32) (p5 : Int32) (h0 : Heap) (n0 : Nat) (vz : Option Value) (h : Heap) (Lz : List Loc) : Prop := vz = some (.int (own_F0 p0 p1 p2 p3 p4 p5)) ∧ Fr n0 Lz
theorem own_e0_99 {p0 : Int32} {p1 : Int32} {p2 : Int32} {p3 : Int32} {p4 : Int32} {p5 : Int32} {v1 : Int32} {v3 : Int32} {v5 : Int32} {v7 : Int32} {v9 : Int32} {v21 : List Int32} {v31 : List Int32} {v41 : List Int32} {v51 : List Int32} {v54 : Int32} {v58 : Int32} {v61 : Int32} {v80 : Int32} {v84 : Int32} {v87 : Int32} {v90 : Int32} {v93 : Int32} {v94 : Int32} (hv1 : v1 = ((p0 &&& (2147483647 : Int32)) - ((p0 &&& (2147483647 : Int32)) / (5 : Int32)) * (5 : Int32))) (hv3 : v3 = (p1 &&& (268435455 : Int32))) (hv5 : v5 = ((v3 + (1 : Int32)) + (p2 &&& (268435455 : Int32)))) (hv7 : v7 = ((v5 + (1 : Int32)) + (p3 &&& (268435455 : Int32)))) (hv9 : v9 = ((v7 + (1 : Int32)) + (p4 &&& (268435455 : Int32)))) (hv21 : v21 = (if (0 : Int32) < v1 then (List.set (List.replicate v1.toInt.toNat (0 : Int32)) ((0 : Int32)).toInt.toNat v3) else (List.replicate v1.toInt.toNat (0 : Int32)))) (hv31 : v31 = (if (1 : Int32) < v1 then (List.set v21 ((1 : Int32)).toInt.toNat v5) else v21)) (hv41 : v41 = (if (2 : Int32) < v1 then (List.set v31 ((2 : Int32)).toInt.toNat v7) else v31)) (hv51 : v51 = (if (3 : Int32) < v1 then (List.set v41 ((3 : Int32)).toInt.toNat v9) else v41)) (hv54 : v54 = (p5 &&& (1073741823 : Int32))) (hv58 : v58 = (own_F1 v54 v51)) (hv61 : v61 = (own_F2 v1 (0 : Int32) v3 v58)) (hv80 : v80 = (if v61 = (0 : Int32) then (if (own_F2 v1 (1 : Int32) v5 v58) = (0 : Int32) then (if (own_F2 v1 (2 : Int32) v7 v58) = (0 : Int32) then (if (own_F2 v1 (3 : Int32) v9 v58) = (0 : Int32) then (0 : Int32) else (1 : Int32)) else (1 : Int32)) else (1 : Int32)) else (1 : Int32))) (hv84 : v84 = (own_F3 v1 (0 : Int32) v3 v58)) (hv87 : v87 = (own_F3 v1 (1 : Int32) v5 v58)) (hv90 : v90 = (own_F3 v1 (2 : Int32) v7 v58)) (hv93 : v93 = (own_F3 v1 (3 : Int32) v9 v58)) (hv94 : v94 = (((v84 + v87) + v90) + v93)) (hc223_97 : v58 < (0 : Int32)) : (nar .boolean (0 : Int32)) = (own_F0 p0 p1 p2 p3 p4 p5) := by
  rw [own_nb0]
  subst hv1 hv3 hv5 hv7 hv9 hv21 hv31 hv41 hv51 hv54 hv58 hv61 hv80 hv84 hv87 hv90 hv93 hv94
  first
    | (simp only [own_F0, if_pos hc223_97]; done)
    | (exfalso; contradiction)
theorem own_e0_105 {p0 : Int32} {p1 : Int32} {p2 : Int32} {p3 : Int32} {p4 : Int32} {p5 : Int32} {v1 : Int32} {v3 : Int32} {v5 : Int32} {v7 : Int32} {v9 : Int32} {v21 : List Int32} {v31 : List Int32} {v41 : List Int32} {v51 : List Int32} {v54 : Int32} {v58 : Int32} {v61 : Int32} {v80 : Int32} {v84 : Int32} {v87 : Int32} {v90 : Int32} {v93 : Int32} {v94 : Int32} (hv1 : v1 = ((p0 &&& (2147483647 : Int32)) - ((p0 &&& (2147483647 : Int32)) / (5 : Int32)) * (5 : Int32))) (hv3 : v3 = (p1 &&& (268435455 : Int32))) (hv5 : v5 = ((v3 + (1 : Int32)) + (p2 &&& (268435455 : Int32)))) (hv7 : v7 = ((v5 + (1 : Int32)) + (p3 &&& (268435455 : Int32)))) (hv9 : v9 = ((v7 + (1 : Int32)) + (p4 &&& (268435455 : Int32)))) (hv21 : v21 = (if (0 : Int32) < v1 then (List.set (List.replicate v1.toInt.toNat (0 : Int32)) ((0 : Int32)).toInt.toNat v3) else (List.replicate v1.toInt.toNat (0 : Int32)))) (hv31 : v31 = (if (1 : Int32) < v1 then (List.set v21 ((1 : Int32)).toInt.toNat v5) else v21)) (hv41 : v41 = (if (2 : Int32) < v1 then (List.set v31 ((2 : Int32)).toInt.toNat v7) else v31)) (hv51 : v51 = (if (3 : Int32) < v1 then (List.set v41 ((3 : Int32)).toInt.toNat v9) else v41)) (hv54 : v54 = (p5 &&& (1073741823 : Int32))) (hv58 : v58 = (own_F1 v54 v51)) (hv61 : v61 = (own_F2 v1 (0 : Int32) v3 v58)) (hv80 : v80 = (if v61 = (0 : Int32) then (if (own_F2 v1 (1 : Int32) v5 v58) = (0 : Int32) then (if (own_F2 v1 (2 : Int32) v7 v58) = (0 : Int32) then (if (own_F2 v1 (3 : Int32) v9 v58) = (0 : Int32) then (0 : Int32) else (1 : Int32)) else (1 : Int32)) else (1 : Int32)) else (1 : Int32))) (hv84 : v84 = (own_F3 v1 (0 : Int32) v3 v58)) (hv87 : v87 = (own_F3 v1 (1 : Int32) v5 v58)) (hv90 : v90 = (own_F3 v1 (2 : Int32) v7 v58)) (hv93 : v93 = (own_F3 v1 (3 : Int32) v9 v58)) (hv94 : v94 = (((v84 + v87) + v90) + v93)) (hc223_97 : ¬ (v58 < (0 : Int32))) (hc228_101 : v80 = (0 : Int32)) (hc238_103 : (v58 - v94) = v54) : (nar .boolean (1 : Int32)) = (own_F0 p0 p1 p2 p3 p4 p5) := by
  rw [own_nb1]
  subst hv1 hv3 hv5 hv7 hv9 hv21 hv31 hv41 hv51 hv54 hv58 hv61 hv80 hv84 hv87 hv90 hv93 hv94
  first
    | (simp only [own_F0, if_neg hc223_97, if_pos hc228_101, if_pos hc238_103]; done)
    | (exfalso; contradiction)
theorem own_e0_107 {p0 : Int32} {p1 : Int32} {p2 : Int32} {p3 : Int32} {p4 : Int32} {p5 : Int32} {v1 : Int32} {v3 : Int32} {v5 : Int32} {v7 : Int32} {v9 : Int32} {v21 : List Int32} {v31 : List Int32} {v41 : List Int32} {v51 : List Int32} {v54 : Int32} {v58 : Int32} {v61 : Int32} {v80 : Int32} {v84 : Int32} {v87 : Int32} {v90 : Int32} {v93 : Int32} {v94 : Int32} (hv1 : v1 = ((p0 &&& (2147483647 : Int32)) - ((p0 &&& (2147483647 : Int32)) / (5 : Int32)) * (5 : Int32))) (hv3 : v3 = (p1 &&& (268435455 : Int32))) (hv5 : v5 = ((v3 + (1 : Int32)) + (p2 &&& (268435455 : Int32)))) (hv7 : v7 = ((v5 + (1 : Int32)) + (p3 &&& (268435455 : Int32)))) (hv9 : v9 = ((v7 + (1 : Int32)) + (p4 &&& (268435455 : Int32)))) (hv21 : v21 = (if (0 : Int32) < v1 then (List.set (List.replicate v1.toInt.toNat (0 : Int32)) ((0 : Int32)).toInt.toNat v3) else (List.replicate v1.toInt.toNat (0 : Int32)))) (hv31 : v31 = (if (1 : Int32) < v1 then (List.set v21 ((1 : Int32)).toInt.toNat v5) else v21)) (hv41 : v41 = (if (2 : Int32) < v1 then (List.set v31 ((2 : Int32)).toInt.toNat v7) else v31)) (hv51 : v51 = (if (3 : Int32) < v1 then (List.set v41 ((3 : Int32)).toInt.toNat v9) else v41)) (hv54 : v54 = (p5 &&& (1073741823 : Int32))) (hv58 : v58 = (own_F1 v54 v51)) (hv61 : v61 = (own_F2 v1 (0 : Int32) v3 v58)) (hv80 : v80 = (if v61 = (0 : Int32) then (if (own_F2 v1 (1 : Int32) v5 v58) = (0 : Int32) then (if (own_F2 v1 (2 : Int32) v7 v58) = (0 : Int32) then (if (own_F2 v1 (3 : Int32) v9 v58) = (0 : Int32) then (0 : Int32) else (1 : Int32)) else (1 : Int32)) else (1 : Int32)) else (1 : Int32))) (hv84 : v84 = (own_F3 v1 (0 : Int32) v3 v58)) (hv87 : v87 = (own_F3 v1 (1 : Int32) v5 v58)) (hv90 : v90 = (own_F3 v1 (2 : Int32) v7 v58)) (hv93 : v93 = (own_F3 v1 (3 : Int32) v9 v58)) (hv94 : v94 = (((v84 + v87) + v90) + v93)) (hc223_97 : ¬ (v58 < (0 : Int32))) (hc228_101 : v80 = (0 : Int32)) (hc238_103 : ¬ ((v58 - v94) = v54)) : (nar .boolean (0 : Int32)) = (own_F0 p0 p1 p2 p3 p4 p5) := by
  rw [own_nb0]
  subst hv1 hv3 hv5 hv7 hv9 hv21 hv31 hv41 hv51 hv54 hv58 hv61 hv80 hv84 hv87 hv90 hv93 hv94
  first
    | (simp only [own_F0, if_neg hc223_97, if_pos hc228_101, if_neg hc238_103]; done)
    | (exfalso; contradiction)
theorem own_e0_109 {p0 : Int32} {p1 : Int32} {p2 : Int32} {p3 : Int32} {p4 : Int32} {p5 : Int32} {v1 : Int32} {v3 : Int32} {v5 : Int32} {v7 : Int32} {v9 : Int32} {v21 : List Int32} {v31 : List Int32} {v41 : List Int32} {v51 : List Int32} {v54 : Int32} {v58 : Int32} {v61 : Int32} {v80 : Int32} {v84 : Int32} {v87 : Int32} {v90 : Int32} {v93 : Int32} {v94 : Int32} (hv1 : v1 = ((p0 &&& (2147483647 : Int32)) - ((p0 &&& (2147483647 : Int32)) / (5 : Int32)) * (5 : Int32))) (hv3 : v3 = (p1 &&& (268435455 : Int32))) (hv5 : v5 = ((v3 + (1 : Int32)) + (p2 &&& (268435455 : Int32)))) (hv7 : v7 = ((v5 + (1 : Int32)) + (p3 &&& (268435455 : Int32)))) (hv9 : v9 = ((v7 + (1 : Int32)) + (p4 &&& (268435455 : Int32)))) (hv21 : v21 = (if (0 : Int32) < v1 then (List.set (List.replicate v1.toInt.toNat (0 : Int32)) ((0 : Int32)).toInt.toNat v3) else (List.replicate v1.toInt.toNat (0 : Int32)))) (hv31 : v31 = (if (1 : Int32) < v1 then (List.set v21 ((1 : Int32)).toInt.toNat v5) else v21)) (hv41 : v41 = (if (2 : Int32) < v1 then (List.set v31 ((2 : Int32)).toInt.toNat v7) else v31)) (hv51 : v51 = (if (3 : Int32) < v1 then (List.set v41 ((3 : Int32)).toInt.toNat v9) else v41)) (hv54 : v54 = (p5 &&& (1073741823 : Int32))) (hv58 : v58 = (own_F1 v54 v51)) (hv61 : v61 = (own_F2 v1 (0 : Int32) v3 v58)) (hv80 : v80 = (if v61 = (0 : Int32) then (if (own_F2 v1 (1 : Int32) v5 v58) = (0 : Int32) then (if (own_F2 v1 (2 : Int32) v7 v58) = (0 : Int32) then (if (own_F2 v1 (3 : Int32) v9 v58) = (0 : Int32) then (0 : Int32) else (1 : Int32)) else (1 : Int32)) else (1 : Int32)) else (1 : Int32))) (hv84 : v84 = (own_F3 v1 (0 : Int32) v3 v58)) (hv87 : v87 = (own_F3 v1 (1 : Int32) v5 v58)) (hv90 : v90 = (own_F3 v1 (2 : Int32) v7 v58)) (hv93 : v93 = (own_F3 v1 (3 : Int32) v9 v58)) (hv94 : v94 = (((v84 + v87) + v90) + v93)) (hc223_97 : ¬ (v58 < (0 : Int32))) (hc228_101 : ¬ (v80 = (0 : Int32))) : (nar .boolean (0 : Int32)) = (own_F0 p0 p1 p2 p3 p4 p5) := by
  rw [own_nb0]
  subst hv1 hv3 hv5 hv7 hv9 hv21 hv31 hv41 hv51 hv54 hv58 hv61 hv80 hv84 hv87 hv90 hv93 hv94
  first
    | (simp only [own_F0, if_neg hc223_97, if_neg hc228_101]; done)
    | (exfalso; contradiction)
set_option maxRecDepth 65536 in
set_option maxHeartbeats 40000000 in
theorem own_rm0 (l : Launch) (Z : State) (a0 : Array Value) (hw : ∀ d ∈ tables_1, d.before a0 Z = true) (ws : List Jvm.Cond) (p0 : Int32) (p1 : Int32) (p2 : Int32) (p3 : Int32) (p4 : Int32) (p5 : Int32) (h0 : Heap) (n0 : Nat) (Z0 : n0 ≤ h0.size) :
    MetFree l x (head1 (Jvm.Cond.code x code maxLocals ret :: ws) room_1) (fun a U => a = #[(.int p0), (.int p1), (.int p2), (.int p3), (.int p4), (.int p5)] ∧ Z.Warmed39 U.vm ∧ U.heap = h0) (fun _ _ _ _ _ => True) (fun _ U o U' => ∃ vz Lz, o = .returned vz ∧ own_Q0 Z p0 p1 p2 p3 p4 p5 h0 n0 vz U'.heap Lz ∧ FrameEnd U o U' Lz room_1.cells room_1.slots) := by
  refine MetFree.of_bodySF (plainFor_of_name own_pn0) hisR ?_
  intro p e s m args below meth c s₁ Bd hml0 hP hK
  obtain ⟨rfl, hZ, hh⟩ := hP
  have hx := Bd.exec
  have hby := Bd.bytes
  have hml : c.maxLocals = 16 := hml0
  have hown : s.vm.findClass "com/example/tame_markup/tamemarkup/document/AttributeListIndexPastPinLaw" = some m.cls := findClass_of_methodNamed Bd.named
  have hnm := (name_of_methodNamed Bd.named Bd.method).1
  have X0 : Stand p l e room_1 s m #[(.int p0), (.int p1), (.int p2), (.int p3), (.int p4), (.int p5)] below meth c s₁ [] 0 0 := Stand.of_body Bd
  have e0 : s₁.heap = h0 := by rw [← hh, Bd.state]; rfl
  show own_End p e below s (fun vz h Lz => vz = some (.int (own_F0 p0 p1 p2 p3 p4 p5)) ∧ Fr n0 Lz) room_1.cells room_1.slots s₁ (entryFrame m #[(.int p0), (.int p1), (.int p2), (.int p3), (.int p4), (.int p5)] maxLocals)
  refine own_End.go (fun t k => castTop (own_ef0 m p0 p1 p2 p3 p4 p5) k) ?_
  show own_End p e below s _ _ _ s₁ (mkF m 0 #[.val (.int p0), .val (.int p1), .val (.int p2), .val (.int p3), .val (.int p4), .val (.int p5), .unset, .unset, .unset, .unset, .unset, .unset, .unset, .unset, .unset, .unset] [])
  have N0 := Fr.nil n0
  obtain ⟨v1, hv1⟩ : ∃ z : Int32, z = ((p0 &&& (2147483647 : Int32)) - ((p0 &&& (2147483647 : Int32)) / (5 : Int32)) * (5 : Int32)) := ⟨_, rfl⟩
  have st2 : ∀ t, Steps p.tables e below (s₁.setTop (mkF m 8 #[.val (.int p0), .val (.int p1), .val (.int p2), .val (.int p3), .val (.int p4), .val (.int p5), .val (.int v1), .unset, .unset, .unset, .unset, .unset, .unset, .unset, .unset, .unset] [])) t → Steps p.tables e below (s₁.setTop (mkF m 0 #[.val (.int p0), .val (.int p1), .val (.int p2), .val (.int p3), .val (.int p4), .val (.int p5), .unset, .unset, .unset, .unset, .unset, .unset, .unset, .unset, .unset, .unset] [])) t := by
    rw [hv1]
    intro t k
    show Steps p.tables e below (s₁.setTop (mkF m 0 #[.val (.int p0), .val (.int p1), .val (.int p2), .val (.int p3), .val (.int p4), .val (.int p5), .unset, .unset, .unset, .unset, .unset, .unset, .unset, .unset, .unset, .unset] [])) _
    refine XS.iloadN X0.here hx rfl (hb hby at_0) rfl ?_
    show Steps p.tables e below (s₁.setTop (mkF m 1 #[.val (.int p0), .val (.int p1), .val (.int p2), .val (.int p3), .val (.int p4), .val (.int p5), .unset, .unset, .unset, .unset, .unset, .unset, .unset, .unset, .unset, .unset] [(.int p0)])) _
    refine X0.ldcInt hx hown (mvT hZ (hw _ (List.mem_of_getElem? (i := 0) rfl))) (g := (mkF m 1 #[.val (.int p0), .val (.int p1), .val (.int p2), .val (.int p3), .val (.int p4), .val (.int p5), .unset, .unset, .unset, .unset, .unset, .unset, .unset, .unset, .unset, .unset] [(.int p0)])) rfl (hb hby at_1) _ ?_
    show Steps p.tables e below (s₁.setTop (mkF m 3 #[.val (.int p0), .val (.int p1), .val (.int p2), .val (.int p3), .val (.int p4), .val (.int p5), .unset, .unset, .unset, .unset, .unset, .unset, .unset, .unset, .unset, .unset] [(.int (2147483647 : Int32)), (.int p0)])) _
    refine XS.iand X0.here hx rfl (hb hby at_3) rfl ?_
    show Steps p.tables e below (s₁.setTop (mkF m 4 #[.val (.int p0), .val (.int p1), .val (.int p2), .val (.int p3), .val (.int p4), .val (.int p5), .unset, .unset, .unset, .unset, .unset, .unset, .unset, .unset, .unset, .unset] [(.int (p0 &&& (2147483647 : Int32)))])) _
    refine XS.iconst X0.here hx rfl (hb hby at_4) ?_
    show Steps p.tables e below (s₁.setTop (mkF m 5 #[.val (.int p0), .val (.int p1), .val (.int p2), .val (.int p3), .val (.int p4), .val (.int p5), .unset, .unset, .unset, .unset, .unset, .unset, .unset, .unset, .unset, .unset] [(.int (5 : Int32)), (.int (p0 &&& (2147483647 : Int32)))])) _
    refine XS.irem X0.here hx rfl (hb hby at_5) rfl (by decide) ?_
    show Steps p.tables e below (s₁.setTop (mkF m 6 #[.val (.int p0), .val (.int p1), .val (.int p2), .val (.int p3), .val (.int p4), .val (.int p5), .unset, .unset, .unset, .unset, .unset, .unset, .unset, .unset, .unset, .unset] [(.int ((p0 &&& (2147483647 : Int32)) - ((p0 &&& (2147483647 : Int32)) / (5 : Int32)) * (5 : Int32)))])) _
    refine XS.istore X0.here hx rfl (hb hby at_6) rfl (l' := #[.val (.int p0), .val (.int p1), .val (.int p2), .val (.int p3), .val (.int p4), .val (.int p5), .val (.int ((p0 &&& (2147483647 : Int32)) - ((p0 &&& (2147483647 : Int32)) / (5 : Int32)) * (5 : Int32))), .unset, .unset, .unset, .unset, .unset, .unset, .unset, .unset, .unset]) rfl ?_
    exact k
  obtain ⟨v3, hv3⟩ : ∃ z : Int32, z = (p1 &&& (268435455 : Int32)) := ⟨_, rfl⟩
  have st4 : ∀ t, Steps p.tables e below (s₁.setTop (mkF m 14 #[.val (.int p0), .val (.int p1), .val (.int p2), .val (.int p3), .val (.int p4), .val (.int p5), .val (.int v1), .val (.int v3), .unset, .unset, .unset, .unset, .unset, .unset, .unset, .unset] [])) t → Steps p.tables e below (s₁.setTop (mkF m 8 #[.val (.int p0), .val (.int p1), .val (.int p2), .val (.int p3), .val (.int p4), .val (.int p5), .val (.int v1), .unset, .unset, .unset, .unset, .unset, .unset, .unset, .unset, .unset] [])) t := by
    rw [hv3]
    intro t k
    show Steps p.tables e below (s₁.setTop (mkF m 8 #[.val (.int p0), .val (.int p1), .val (.int p2), .val (.int p3), .val (.int p4), .val (.int p5), .val (.int v1), .unset, .unset, .unset, .unset, .unset, .unset, .unset, .unset, .unset] [])) _
    refine XS.iloadN X0.here hx rfl (hb hby at_8) rfl ?_
    show Steps p.tables e below (s₁.setTop (mkF m 9 #[.val (.int p0), .val (.int p1), .val (.int p2), .val (.int p3), .val (.int p4), .val (.int p5), .val (.int v1), .unset, .unset, .unset, .unset, .unset, .unset, .unset, .unset, .unset] [(.int p1)])) _
    refine X0.ldcInt hx hown (mvT hZ (hw _ (List.mem_of_getElem? (i := 1) rfl))) (g := (mkF m 9 #[.val (.int p0), .val (.int p1), .val (.int p2), .val (.int p3), .val (.int p4), .val (.int p5), .val (.int v1), .unset, .unset, .unset, .unset, .unset, .unset, .unset, .unset, .unset] [(.int p1)])) rfl (hb hby at_9) _ ?_
    show Steps p.tables e below (s₁.setTop (mkF m 11 #[.val (.int p0), .val (.int p1), .val (.int p2), .val (.int p3), .val (.int p4), .val (.int p5), .val (.int v1), .unset, .unset, .unset, .unset, .unset, .unset, .unset, .unset, .unset] [(.int (268435455 : Int32)), (.int p1)])) _
    refine XS.iand X0.here hx rfl (hb hby at_11) rfl ?_
    show Steps p.tables e below (s₁.setTop (mkF m 12 #[.val (.int p0), .val (.int p1), .val (.int p2), .val (.int p3), .val (.int p4), .val (.int p5), .val (.int v1), .unset, .unset, .unset, .unset, .unset, .unset, .unset, .unset, .unset] [(.int (p1 &&& (268435455 : Int32)))])) _
    refine XS.istore X0.here hx rfl (hb hby at_12) rfl (l' := #[.val (.int p0), .val (.int p1), .val (.int p2), .val (.int p3), .val (.int p4), .val (.int p5), .val (.int v1), .val (.int (p1 &&& (268435455 : Int32))), .unset, .unset, .unset, .unset, .unset, .unset, .unset, .unset]) rfl ?_
    exact k
  obtain ⟨v5, hv5⟩ : ∃ z : Int32, z = ((v3 + (1 : Int32)) + (p2 &&& (268435455 : Int32))) := ⟨_, rfl⟩
  have st6 : ∀ t, Steps p.tables e below (s₁.setTop (mkF m 25 #[.val (.int p0), .val (.int p1), .val (.int p2), .val (.int p3), .val (.int p4), .val (.int p5), .val (.int v1), .val (.int v3), .val (.int v5), .unset, .unset, .unset, .unset, .unset, .unset, .unset] [])) t → Steps p.tables e below (s₁.setTop (mkF m 14 #[.val (.int p0), .val (.int p1), .val (.int p2), .val (.int p3), .val (.int p4), .val (.int p5), .val (.int v1), .val (.int v3), .unset, .unset, .unset, .unset, .unset, .unset, .unset, .unset] [])) t := by
    rw [hv5]
    intro t k
    show Steps p.tables e below (s₁.setTop (mkF m 14 #[.val (.int p0), .val (.int p1), .val (.int p2), .val (.int p3), .val (.int p4), .val (.int p5), .val (.int v1), .val (.int v3), .unset, .unset, .unset, .unset, .unset, .unset, .unset, .unset] [])) _
    refine XS.iload X0.here hx rfl (hb hby at_14) rfl ?_
    show Steps p.tables e below (s₁.setTop (mkF m 16 #[.val (.int p0), .val (.int p1), .val (.int p2), .val (.int p3), .val (.int p4), .val (.int p5), .val (.int v1), .val (.int v3), .unset, .unset, .unset, .unset, .unset, .unset, .unset, .unset] [(.int v3)])) _
    refine XS.iconst X0.here hx rfl (hb hby at_16) ?_
    show Steps p.tables e below (s₁.setTop (mkF m 17 #[.val (.int p0), .val (.int p1), .val (.int p2), .val (.int p3), .val (.int p4), .val (.int p5), .val (.int v1), .val (.int v3), .unset, .unset, .unset, .unset, .unset, .unset, .unset, .unset] [(.int (1 : Int32)), (.int v3)])) _
    refine XS.iadd X0.here hx rfl (hb hby at_17) rfl ?_
    show Steps p.tables e below (s₁.setTop (mkF m 18 #[.val (.int p0), .val (.int p1), .val (.int p2), .val (.int p3), .val (.int p4), .val (.int p5), .val (.int v1), .val (.int v3), .unset, .unset, .unset, .unset, .unset, .unset, .unset, .unset] [(.int (v3 + (1 : Int32)))])) _
    refine XS.iloadN X0.here hx rfl (hb hby at_18) rfl ?_
    show Steps p.tables e below (s₁.setTop (mkF m 19 #[.val (.int p0), .val (.int p1), .val (.int p2), .val (.int p3), .val (.int p4), .val (.int p5), .val (.int v1), .val (.int v3), .unset, .unset, .unset, .unset, .unset, .unset, .unset, .unset] [(.int p2), (.int (v3 + (1 : Int32)))])) _
    refine X0.ldcInt hx hown (mvT hZ (hw _ (List.mem_of_getElem? (i := 1) rfl))) (g := (mkF m 19 #[.val (.int p0), .val (.int p1), .val (.int p2), .val (.int p3), .val (.int p4), .val (.int p5), .val (.int v1), .val (.int v3), .unset, .unset, .unset, .unset, .unset, .unset, .unset, .unset] [(.int p2), (.int (v3 + (1 : Int32)))])) rfl (hb hby at_19) _ ?_
    show Steps p.tables e below (s₁.setTop (mkF m 21 #[.val (.int p0), .val (.int p1), .val (.int p2), .val (.int p3), .val (.int p4), .val (.int p5), .val (.int v1), .val (.int v3), .unset, .unset, .unset, .unset, .unset, .unset, .unset, .unset] [(.int (268435455 : Int32)), (.int p2), (.int (v3 + (1 : Int32)))])) _
    refine XS.iand X0.here hx rfl (hb hby at_21) rfl ?_
    show Steps p.tables e below (s₁.setTop (mkF m 22 #[.val (.int p0), .val (.int p1), .val (.int p2), .val (.int p3), .val (.int p4), .val (.int p5), .val (.int v1), .val (.int v3), .unset, .unset, .unset, .unset, .unset, .unset, .unset, .unset] [(.int (p2 &&& (268435455 : Int32))), (.int (v3 + (1 : Int32)))])) _
    refine XS.iadd X0.here hx rfl (hb hby at_22) rfl ?_
    show Steps p.tables e below (s₁.setTop (mkF m 23 #[.val (.int p0), .val (.int p1), .val (.int p2), .val (.int p3), .val (.int p4), .val (.int p5), .val (.int v1), .val (.int v3), .unset, .unset, .unset, .unset, .unset, .unset, .unset, .unset] [(.int ((v3 + (1 : Int32)) + (p2 &&& (268435455 : Int32))))])) _
    refine XS.istore X0.here hx rfl (hb hby at_23) rfl (l' := #[.val (.int p0), .val (.int p1), .val (.int p2), .val (.int p3), .val (.int p4), .val (.int p5), .val (.int v1), .val (.int v3), .val (.int ((v3 + (1 : Int32)) + (p2 &&& (268435455 : Int32)))), .unset, .unset, .unset, .unset, .unset, .unset, .unset]) rfl ?_
    exact k
  obtain ⟨v7, hv7⟩ : ∃ z : Int32, z = ((v5 + (1 : Int32)) + (p3 &&& (268435455 : Int32))) := ⟨_, rfl⟩
  have st8 : ∀ t, Steps p.tables e below (s₁.setTop (mkF m 36 #[.val (.int p0), .val (.int p1), .val (.int p2), .val (.int p3), .val (.int p4), .val (.int p5), .val (.int v1), .val (.int v3), .val (.int v5), .val (.int v7), .unset, .unset, .unset, .unset, .unset, .unset] [])) t → Steps p.tables e below (s₁.setTop (mkF m 25 #[.val (.int p0), .val (.int p1), .val (.int p2), .val (.int p3), .val (.int p4), .val (.int p5), .val (.int v1), .val (.int v3), .val (.int v5), .unset, .unset, .unset, .unset, .unset, .unset, .unset] [])) t := by
    rw [hv7]
    intro t k
    show Steps p.tables e below (s₁.setTop (mkF m 25 #[.val (.int p0), .val (.int p1), .val (.int p2), .val (.int p3), .val (.int p4), .val (.int p5), .val (.int v1), .val (.int v3), .val (.int v5), .unset, .unset, .unset, .unset, .unset, .unset, .unset] [])) _
    refine XS.iload X0.here hx rfl (hb hby at_25) rfl ?_
    show Steps p.tables e below (s₁.setTop (mkF m 27 #[.val (.int p0), .val (.int p1), .val (.int p2), .val (.int p3), .val (.int p4), .val (.int p5), .val (.int v1), .val (.int v3), .val (.int v5), .unset, .unset, .unset, .unset, .unset, .unset, .unset] [(.int v5)])) _
    refine XS.iconst X0.here hx rfl (hb hby at_27) ?_
    show Steps p.tables e below (s₁.setTop (mkF m 28 #[.val (.int p0), .val (.int p1), .val (.int p2), .val (.int p3), .val (.int p4), .val (.int p5), .val (.int v1), .val (.int v3), .val (.int v5), .unset, .unset, .unset, .unset, .unset, .unset, .unset] [(.int (1 : Int32)), (.int v5)])) _
    refine XS.iadd X0.here hx rfl (hb hby at_28) rfl ?_
    show Steps p.tables e below (s₁.setTop (mkF m 29 #[.val (.int p0), .val (.int p1), .val (.int p2), .val (.int p3), .val (.int p4), .val (.int p5), .val (.int v1), .val (.int v3), .val (.int v5), .unset, .unset, .unset, .unset, .unset, .unset, .unset] [(.int (v5 + (1 : Int32)))])) _
    refine XS.iloadN X0.here hx rfl (hb hby at_29) rfl ?_
    show Steps p.tables e below (s₁.setTop (mkF m 30 #[.val (.int p0), .val (.int p1), .val (.int p2), .val (.int p3), .val (.int p4), .val (.int p5), .val (.int v1), .val (.int v3), .val (.int v5), .unset, .unset, .unset, .unset, .unset, .unset, .unset] [(.int p3), (.int (v5 + (1 : Int32)))])) _
    refine X0.ldcInt hx hown (mvT hZ (hw _ (List.mem_of_getElem? (i := 1) rfl))) (g := (mkF m 30 #[.val (.int p0), .val (.int p1), .val (.int p2), .val (.int p3), .val (.int p4), .val (.int p5), .val (.int v1), .val (.int v3), .val (.int v5), .unset, .unset, .unset, .unset, .unset, .unset, .unset] [(.int p3), (.int (v5 + (1 : Int32)))])) rfl (hb hby at_30) _ ?_
    show Steps p.tables e below (s₁.setTop (mkF m 32 #[.val (.int p0), .val (.int p1), .val (.int p2), .val (.int p3), .val (.int p4), .val (.int p5), .val (.int v1), .val (.int v3), .val (.int v5), .unset, .unset, .unset, .unset, .unset, .unset, .unset] [(.int (268435455 : Int32)), (.int p3), (.int (v5 + (1 : Int32)))])) _
    refine XS.iand X0.here hx rfl (hb hby at_32) rfl ?_
    show Steps p.tables e below (s₁.setTop (mkF m 33 #[.val (.int p0), .val (.int p1), .val (.int p2), .val (.int p3), .val (.int p4), .val (.int p5), .val (.int v1), .val (.int v3), .val (.int v5), .unset, .unset, .unset, .unset, .unset, .unset, .unset] [(.int (p3 &&& (268435455 : Int32))), (.int (v5 + (1 : Int32)))])) _
    refine XS.iadd X0.here hx rfl (hb hby at_33) rfl ?_
    show Steps p.tables e below (s₁.setTop (mkF m 34 #[.val (.int p0), .val (.int p1), .val (.int p2), .val (.int p3), .val (.int p4), .val (.int p5), .val (.int v1), .val (.int v3), .val (.int v5), .unset, .unset, .unset, .unset, .unset, .unset, .unset] [(.int ((v5 + (1 : Int32)) + (p3 &&& (268435455 : Int32))))])) _
    refine XS.istore X0.here hx rfl (hb hby at_34) rfl (l' := #[.val (.int p0), .val (.int p1), .val (.int p2), .val (.int p3), .val (.int p4), .val (.int p5), .val (.int v1), .val (.int v3), .val (.int v5), .val (.int ((v5 + (1 : Int32)) + (p3 &&& (268435455 : Int32)))), .unset, .unset, .unset, .unset, .unset, .unset]) rfl ?_
    exact k
  obtain ⟨v9, hv9⟩ : ∃ z : Int32, z = ((v7 + (1 : Int32)) + (p4 &&& (268435455 : Int32))) := ⟨_, rfl⟩
  have st10 : ∀ t, Steps p.tables e below (s₁.setTop (mkF m 48 #[.val (.int p0), .val (.int p1), .val (.int p2), .val (.int p3), .val (.int p4), .val (.int p5), .val (.int v1), .val (.int v3), .val (.int v5), .val (.int v7), .val (.int v9), .unset, .unset, .unset, .unset, .unset] [])) t → Steps p.tables e below (s₁.setTop (mkF m 36 #[.val (.int p0), .val (.int p1), .val (.int p2), .val (.int p3), .val (.int p4), .val (.int p5), .val (.int v1), .val (.int v3), .val (.int v5), .val (.int v7), .unset, .unset, .unset, .unset, .unset, .unset] [])) t := by
    rw [hv9]
    intro t k
    show Steps p.tables e below (s₁.setTop (mkF m 36 #[.val (.int p0), .val (.int p1), .val (.int p2), .val (.int p3), .val (.int p4), .val (.int p5), .val (.int v1), .val (.int v3), .val (.int v5), .val (.int v7), .unset, .unset, .unset, .unset, .unset, .unset] [])) _
    refine XS.iload X0.here hx rfl (hb hby at_36) rfl ?_
    show Steps p.tables e below (s₁.setTop (mkF m 38 #[.val (.int p0), .val (.int p1), .val (.int p2), .val (.int p3), .val (.int p4), .val (.int p5), .val (.int v1), .val (.int v3), .val (.int v5), .val (.int v7), .unset, .unset, .unset, .unset, .unset, .unset] [(.int v7)])) _
    refine XS.iconst X0.here hx rfl (hb hby at_38) ?_
    show Steps p.tables e below (s₁.setTop (mkF m 39 #[.val (.int p0), .val (.int p1), .val (.int p2), .val (.int p3), .val (.int p4), .val (.int p5), .val (.int v1), .val (.int v3), .val (.int v5), .val (.int v7), .unset, .unset, .unset, .unset, .unset, .unset] [(.int (1 : Int32)), (.int v7)])) _
    refine XS.iadd X0.here hx rfl (hb hby at_39) rfl ?_
    show Steps p.tables e below (s₁.setTop (mkF m 40 #[.val (.int p0), .val (.int p1), .val (.int p2), .val (.int p3), .val (.int p4), .val (.int p5), .val (.int v1), .val (.int v3), .val (.int v5), .val (.int v7), .unset, .unset, .unset, .unset, .unset, .unset] [(.int (v7 + (1 : Int32)))])) _
    refine XS.iload X0.here hx rfl (hb hby at_40) rfl ?_
    show Steps p.tables e below (s₁.setTop (mkF m 42 #[.val (.int p0), .val (.int p1), .val (.int p2), .val (.int p3), .val (.int p4), .val (.int p5), .val (.int v1), .val (.int v3), .val (.int v5), .val (.int v7), .unset, .unset, .unset, .unset, .unset, .unset] [(.int p4), (.int (v7 + (1 : Int32)))])) _
    refine X0.ldcInt hx hown (mvT hZ (hw _ (List.mem_of_getElem? (i := 1) rfl))) (g := (mkF m 42 #[.val (.int p0), .val (.int p1), .val (.int p2), .val (.int p3), .val (.int p4), .val (.int p5), .val (.int v1), .val (.int v3), .val (.int v5), .val (.int v7), .unset, .unset, .unset, .unset, .unset, .unset] [(.int p4), (.int (v7 + (1 : Int32)))])) rfl (hb hby at_42) _ ?_
    show Steps p.tables e below (s₁.setTop (mkF m 44 #[.val (.int p0), .val (.int p1), .val (.int p2), .val (.int p3), .val (.int p4), .val (.int p5), .val (.int v1), .val (.int v3), .val (.int v5), .val (.int v7), .unset, .unset, .unset, .unset, .unset, .unset] [(.int (268435455 : Int32)), (.int p4), (.int (v7 + (1 : Int32)))])) _
    refine XS.iand X0.here hx rfl (hb hby at_44) rfl ?_
    show Steps p.tables e below (s₁.setTop (mkF m 45 #[.val (.int p0), .val (.int p1), .val (.int p2), .val (.int p3), .val (.int p4), .val (.int p5), .val (.int v1), .val (.int v3), .val (.int v5), .val (.int v7), .unset, .unset, .unset, .unset, .unset, .unset] [(.int (p4 &&& (268435455 : Int32))), (.int (v7 + (1 : Int32)))])) _
    refine XS.iadd X0.here hx rfl (hb hby at_45) rfl ?_
    show Steps p.tables e below (s₁.setTop (mkF m 46 #[.val (.int p0), .val (.int p1), .val (.int p2), .val (.int p3), .val (.int p4), .val (.int p5), .val (.int v1), .val (.int v3), .val (.int v5), .val (.int v7), .unset, .unset, .unset, .unset, .unset, .unset] [(.int ((v7 + (1 : Int32)) + (p4 &&& (268435455 : Int32))))])) _
    refine XS.istore X0.here hx rfl (hb hby at_46) rfl (l' := #[.val (.int p0), .val (.int p1), .val (.int p2), .val (.int p3), .val (.int p4), .val (.int p5), .val (.int v1), .val (.int v3), .val (.int v5), .val (.int v7), .val (.int ((v7 + (1 : Int32)) + (p4 &&& (268435455 : Int32)))), .unset, .unset, .unset, .unset, .unset]) rfl ?_
    exact k
  have st11 : ∀ t, Steps p.tables e below (s₁.setTop (mkF m 50 #[.val (.int p0), .val (.int p1), .val (.int p2), .val (.int p3), .val (.int p4), .val (.int p5), .val (.int v1), .val (.int v3), .val (.int v5), .val (.int v7), .val (.int v9), .unset, .unset, .unset, .unset, .unset] [(.int v1)])) t → Steps p.tables e below (s₁.setTop (mkF m 48 #[.val (.int p0), .val (.int p1), .val (.int p2), .val (.int p3), .val (.int p4), .val (.int p5), .val (.int v1), .val (.int v3), .val (.int v5), .val (.int v7), .val (.int v9), .unset, .unset, .unset, .unset, .unset] [])) t := by
    intro t k
    show Steps p.tables e below (s₁.setTop (mkF m 48 #[.val (.int p0), .val (.int p1), .val (.int p2), .val (.int p3), .val (.int p4), .val (.int p5), .val (.int v1), .val (.int v3), .val (.int v5), .val (.int v7), .val (.int v9), .unset, .unset, .unset, .unset, .unset] [])) _
    refine XS.iload X0.here hx rfl (hb hby at_48) rfl ?_
    exact k
  obtain ⟨T12, h12, b12, X12, e12, K12, q12, V12, st12⟩ := own_newA X0 hx hZ (ty := .int) rfl (hw _ (List.mem_of_getElem? (i := 2) rfl)) rfl e0 (g := (mkF m 50 #[.val (.int p0), .val (.int p1), .val (.int p2), .val (.int p3), .val (.int p4), .val (.int p5), .val (.int v1), .val (.int v3), .val (.int v5), .val (.int v7), .val (.int v9), .unset, .unset, .unset, .unset, .unset] [(.int v1)])) rfl (hb hby at_50) rfl (v1.toInt.toNat) (Int.toNat_of_nonneg (own_len5 hv1).1).symm (cap := 4) (by have := own_len5 hv1; omega) (by decide) (by decide) (by decide)
  have X12 : Stand p l e room_1 s m #[(.int p0), (.int p1), (.int p2), (.int p3), (.int p4), (.int p5)] below meth c T12 [] 1 4 := X12
  have V12 : own_IA Z h12 b12 .int (List.replicate v1.toInt.toNat (0 : Int32)) := V12
  have g_b12 : n0 ≤ b12 := Nat.le_trans Z0 q12
  have Zp13 : n0 ≤ h12.size := Nat.le_trans Z0 K12.1
  have st14 : ∀ t, Steps p.tables e below (T12.setTop (mkF m 56 #[.val (.int p0), .val (.int p1), .val (.int p2), .val (.int p3), .val (.int p4), .val (.int p5), .val (.int v1), .val (.int v3), .val (.int v5), .val (.int v7), .val (.int v9), .val (.ref b12), .unset, .unset, .unset, .unset] [(.int v1)])) t → Steps p.tables e below (T12.setTop (mkF m 52 #[.val (.int p0), .val (.int p1), .val (.int p2), .val (.int p3), .val (.int p4), .val (.int p5), .val (.int v1), .val (.int v3), .val (.int v5), .val (.int v7), .val (.int v9), .unset, .unset, .unset, .unset, .unset] [(.ref b12)])) t := by
    intro t k
    show Steps p.tables e below (T12.setTop (mkF m 52 #[.val (.int p0), .val (.int p1), .val (.int p2), .val (.int p3), .val (.int p4), .val (.int p5), .val (.int v1), .val (.int v3), .val (.int v5), .val (.int v7), .val (.int v9), .unset, .unset, .unset, .unset, .unset] [(.ref b12)])) _
    refine XS.astore X12.here hx rfl (hb hby at_52) rfl rfl (l' := #[.val (.int p0), .val (.int p1), .val (.int p2), .val (.int p3), .val (.int p4), .val (.int p5), .val (.int v1), .val (.int v3), .val (.int v5), .val (.int v7), .val (.int v9), .val (.ref b12), .unset, .unset, .unset, .unset]) rfl ?_
    show Steps p.tables e below (T12.setTop (mkF m 54 #[.val (.int p0), .val (.int p1), .val (.int p2), .val (.int p3), .val (.int p4), .val (.int p5), .val (.int v1), .val (.int v3), .val (.int v5), .val (.int v7), .val (.int v9), .val (.ref b12), .unset, .unset, .unset, .unset] [])) _
    refine XS.iload X12.here hx rfl (hb hby at_54) rfl ?_
    exact k
  obtain ⟨v21, hv21⟩ : ∃ z : List Int32, z = (if (0 : Int32) < v1 then (List.set (List.replicate v1.toInt.toNat (0 : Int32)) ((0 : Int32)).toInt.toNat v3) else (List.replicate v1.toInt.toNat (0 : Int32))) := ⟨_, rfl⟩
  obtain ⟨T22, h22, L22, X22, N22, e22, K22, F22_0, st22⟩ : ∃ (T' : State) (h' : Heap) (locs' : List Loc), Stand p l e room_1 s m #[(.int p0), (.int p1), (.int p2), (.int p3), (.int p4), (.int p5)] below meth c T' locs' 1 4 ∧ Fr n0 locs' ∧ T'.heap = h' ∧ Keep h12 h' [b12] ∧ own_IA Z h' b12 .int v21 ∧ (∀ t, Steps p.tables e below (T'.setTop (mkF m 65 #[.val (.int p0), .val (.int p1), .val (.int p2), .val (.int p3), .val (.int p4), .val (.int p5), .val (.int v1), .val (.int v3), .val (.int v5), .val (.int v7), .val (.int v9), .val (.ref b12), .unset, .unset, .unset, .unset] [])) t → Steps p.tables e below (T12.setTop (mkF m 56 #[.val (.int p0), .val (.int p1), .val (.int p2), .val (.int p3), .val (.int p4), .val (.int p5), .val (.int v1), .val (.int v3), .val (.int v5), .val (.int v7), .val (.int v9), .val (.ref b12), .unset, .unset, .unset, .unset] [(.int v1)])) t) := by
    rw [hv21]
    by_cases hc56_15 : (0 : Int32) < v1
    · repeat rw [if_pos hc56_15]
      have st17 : ∀ t, Steps p.tables e below (T12.setTop (mkF m 64 #[.val (.int p0), .val (.int p1), .val (.int p2), .val (.int p3), .val (.int p4), .val (.int p5), .val (.int v1), .val (.int v3), .val (.int v5), .val (.int v7), .val (.int v9), .val (.ref b12), .unset, .unset, .unset, .unset] [(.int v3), (.int (0 : Int32)), (.ref b12)])) t → Steps p.tables e below (T12.setTop (mkF m 56 #[.val (.int p0), .val (.int p1), .val (.int p2), .val (.int p3), .val (.int p4), .val (.int p5), .val (.int v1), .val (.int v3), .val (.int v5), .val (.int v7), .val (.int v9), .val (.ref b12), .unset, .unset, .unset, .unset] [(.int v1)])) t := by
        intro t k
        show Steps p.tables e below (T12.setTop (mkF m 56 #[.val (.int p0), .val (.int p1), .val (.int p2), .val (.int p3), .val (.int p4), .val (.int p5), .val (.int v1), .val (.int v3), .val (.int v5), .val (.int v7), .val (.int v9), .val (.ref b12), .unset, .unset, .unset, .unset] [(.int v1)])) _
        refine XS.ifNo X12.here hx rfl (hb hby at_56) rfl ((if0 _ _).trans (tlt hc56_15).2.2.2) ?_
        show Steps p.tables e below (T12.setTop (mkF m 59 #[.val (.int p0), .val (.int p1), .val (.int p2), .val (.int p3), .val (.int p4), .val (.int p5), .val (.int v1), .val (.int v3), .val (.int v5), .val (.int v7), .val (.int v9), .val (.ref b12), .unset, .unset, .unset, .unset] [])) _
        refine XS.aload X12.here hx rfl (hb hby at_59) rfl rfl ?_
        show Steps p.tables e below (T12.setTop (mkF m 61 #[.val (.int p0), .val (.int p1), .val (.int p2), .val (.int p3), .val (.int p4), .val (.int p5), .val (.int v1), .val (.int v3), .val (.int v5), .val (.int v7), .val (.int v9), .val (.ref b12), .unset, .unset, .unset, .unset] [(.ref b12)])) _
        refine XS.iconst X12.here hx rfl (hb hby at_61) ?_
        show Steps p.tables e below (T12.setTop (mkF m 62 #[.val (.int p0), .val (.int p1), .val (.int p2), .val (.int p3), .val (.int p4), .val (.int p5), .val (.int v1), .val (.int v3), .val (.int v5), .val (.int v7), .val (.int v9), .val (.ref b12), .unset, .unset, .unset, .unset] [(.int (0 : Int32)), (.ref b12)])) _
        refine XS.iload X12.here hx rfl (hb hby at_62) rfl ?_
        exact k
      obtain ⟨T18, h18, L18, X18, N18, e18, K18, V18, st18⟩ := own_iastoreI X12 hx hZ N0 e12 V12 (j := (0 : Int32)) (own_ixk (n := v1) (by simp only [own_leni, List.length_set, List.length_replicate]) (own_len5 hv1).1 hc56_15 (by decide)) g_b12 (g := (mkF m 64 #[.val (.int p0), .val (.int p1), .val (.int p2), .val (.int p3), .val (.int p4), .val (.int p5), .val (.int v1), .val (.int v3), .val (.int v5), .val (.int v7), .val (.int v9), .val (.ref b12), .unset, .unset, .unset, .unset] [(.int v3), (.int (0 : Int32)), (.ref b12)])) rfl rfl (hb hby at_64)
      have V18 : own_IA Z h18 b12 .int (List.set (List.replicate v1.toInt.toNat (0 : Int32)) ((0 : Int32)).toInt.toNat v3) := V18
      have Zp19 : n0 ≤ h18.size := Nat.le_trans Zp13 K18.1
      have Kr19 : Keep h12 h18 [b12] := (Keep.refl h12 [b12]).trans K18 (allS (Or.inl (List.mem_of_getElem? (i := 0) rfl)) all0)
      exact ⟨T18, h18, L18, X18, N18, e18, Kr19, V18, fun t k => st17 _ (st18 _ k)⟩
    · repeat rw [if_neg hc56_15]
      have st20 : ∀ t, Steps p.tables e below (T12.setTop (mkF m 65 #[.val (.int p0), .val (.int p1), .val (.int p2), .val (.int p3), .val (.int p4), .val (.int p5), .val (.int v1), .val (.int v3), .val (.int v5), .val (.int v7), .val (.int v9), .val (.ref b12), .unset, .unset, .unset, .unset] [])) t → Steps p.tables e below (T12.setTop (mkF m 56 #[.val (.int p0), .val (.int p1), .val (.int p2), .val (.int p3), .val (.int p4), .val (.int p5), .val (.int v1), .val (.int v3), .val (.int v5), .val (.int v7), .val (.int v9), .val (.ref b12), .unset, .unset, .unset, .unset] [(.int v1)])) t := by
        intro t k
        show Steps p.tables e below (T12.setTop (mkF m 56 #[.val (.int p0), .val (.int p1), .val (.int p2), .val (.int p3), .val (.int p4), .val (.int p5), .val (.int v1), .val (.int v3), .val (.int v5), .val (.int v7), .val (.int v9), .val (.ref b12), .unset, .unset, .unset, .unset] [(.int v1)])) _
        refine XS.ifYes X12.here hx rfl (pc0 := 56) (pc' := 65) rfl (hb hby at_56) rfl ((if0 _ _).trans (flt hc56_15).2.2.2) (by decide) (by decide) ?_
        exact k
      exact ⟨T12, h12, [], X12, N0, e12, (Keep.refl h12 [b12]), V12, fun t k => st20 _ k⟩
  have Zp23 : n0 ≤ h22.size := Nat.le_trans Zp13 K22.1
  have st24 : ∀ t, Steps p.tables e below (T22.setTop (mkF m 68 #[.val (.int p0), .val (.int p1), .val (.int p2), .val (.int p3), .val (.int p4), .val (.int p5), .val (.int v1), .val (.int v3), .val (.int v5), .val (.int v7), .val (.int v9), .val (.ref b12), .unset, .unset, .unset, .unset] [(.int (1 : Int32)), (.int v1)])) t → Steps p.tables e below (T22.setTop (mkF m 65 #[.val (.int p0), .val (.int p1), .val (.int p2), .val (.int p3), .val (.int p4), .val (.int p5), .val (.int v1), .val (.int v3), .val (.int v5), .val (.int v7), .val (.int v9), .val (.ref b12), .unset, .unset, .unset, .unset] [])) t := by
    intro t k
    show Steps p.tables e below (T22.setTop (mkF m 65 #[.val (.int p0), .val (.int p1), .val (.int p2), .val (.int p3), .val (.int p4), .val (.int p5), .val (.int v1), .val (.int v3), .val (.int v5), .val (.int v7), .val (.int v9), .val (.ref b12), .unset, .unset, .unset, .unset] [])) _
    refine XS.iload X22.here hx rfl (hb hby at_65) rfl ?_
    show Steps p.tables e below (T22.setTop (mkF m 67 #[.val (.int p0), .val (.int p1), .val (.int p2), .val (.int p3), .val (.int p4), .val (.int p5), .val (.int v1), .val (.int v3), .val (.int v5), .val (.int v7), .val (.int v9), .val (.ref b12), .unset, .unset, .unset, .unset] [(.int v1)])) _
    refine XS.iconst X22.here hx rfl (hb hby at_67) ?_
    exact k
  obtain ⟨v31, hv31⟩ : ∃ z : List Int32, z = (if (1 : Int32) < v1 then (List.set v21 ((1 : Int32)).toInt.toNat v5) else v21) := ⟨_, rfl⟩
  obtain ⟨T32, h32, L32, X32, N32, e32, K32, F32_0, st32⟩ : ∃ (T' : State) (h' : Heap) (locs' : List Loc), Stand p l e room_1 s m #[(.int p0), (.int p1), (.int p2), (.int p3), (.int p4), (.int p5)] below meth c T' locs' 1 4 ∧ Fr n0 locs' ∧ T'.heap = h' ∧ Keep h22 h' [b12] ∧ own_IA Z h' b12 .int v31 ∧ (∀ t, Steps p.tables e below (T'.setTop (mkF m 77 #[.val (.int p0), .val (.int p1), .val (.int p2), .val (.int p3), .val (.int p4), .val (.int p5), .val (.int v1), .val (.int v3), .val (.int v5), .val (.int v7), .val (.int v9), .val (.ref b12), .unset, .unset, .unset, .unset] [])) t → Steps p.tables e below (T22.setTop (mkF m 68 #[.val (.int p0), .val (.int p1), .val (.int p2), .val (.int p3), .val (.int p4), .val (.int p5), .val (.int v1), .val (.int v3), .val (.int v5), .val (.int v7), .val (.int v9), .val (.ref b12), .unset, .unset, .unset, .unset] [(.int (1 : Int32)), (.int v1)])) t) := by
    rw [hv31]
    by_cases hc68_25 : (1 : Int32) < v1
    · repeat rw [if_pos hc68_25]
      have st27 : ∀ t, Steps p.tables e below (T22.setTop (mkF m 76 #[.val (.int p0), .val (.int p1), .val (.int p2), .val (.int p3), .val (.int p4), .val (.int p5), .val (.int v1), .val (.int v3), .val (.int v5), .val (.int v7), .val (.int v9), .val (.ref b12), .unset, .unset, .unset, .unset] [(.int v5), (.int (1 : Int32)), (.ref b12)])) t → Steps p.tables e below (T22.setTop (mkF m 68 #[.val (.int p0), .val (.int p1), .val (.int p2), .val (.int p3), .val (.int p4), .val (.int p5), .val (.int v1), .val (.int v3), .val (.int v5), .val (.int v7), .val (.int v9), .val (.ref b12), .unset, .unset, .unset, .unset] [(.int (1 : Int32)), (.int v1)])) t := by
        intro t k
        show Steps p.tables e below (T22.setTop (mkF m 68 #[.val (.int p0), .val (.int p1), .val (.int p2), .val (.int p3), .val (.int p4), .val (.int p5), .val (.int v1), .val (.int v3), .val (.int v5), .val (.int v7), .val (.int v9), .val (.ref b12), .unset, .unset, .unset, .unset] [(.int (1 : Int32)), (.int v1)])) _
        refine XS.icmpNo X22.here hx rfl (hb hby at_68) rfl (tlt hc68_25).2.2.2 ?_
        show Steps p.tables e below (T22.setTop (mkF m 71 #[.val (.int p0), .val (.int p1), .val (.int p2), .val (.int p3), .val (.int p4), .val (.int p5), .val (.int v1), .val (.int v3), .val (.int v5), .val (.int v7), .val (.int v9), .val (.ref b12), .unset, .unset, .unset, .unset] [])) _
        refine XS.aload X22.here hx rfl (hb hby at_71) rfl rfl ?_
        show Steps p.tables e below (T22.setTop (mkF m 73 #[.val (.int p0), .val (.int p1), .val (.int p2), .val (.int p3), .val (.int p4), .val (.int p5), .val (.int v1), .val (.int v3), .val (.int v5), .val (.int v7), .val (.int v9), .val (.ref b12), .unset, .unset, .unset, .unset] [(.ref b12)])) _
        refine XS.iconst X22.here hx rfl (hb hby at_73) ?_
        show Steps p.tables e below (T22.setTop (mkF m 74 #[.val (.int p0), .val (.int p1), .val (.int p2), .val (.int p3), .val (.int p4), .val (.int p5), .val (.int v1), .val (.int v3), .val (.int v5), .val (.int v7), .val (.int v9), .val (.ref b12), .unset, .unset, .unset, .unset] [(.int (1 : Int32)), (.ref b12)])) _
        refine XS.iload X22.here hx rfl (hb hby at_74) rfl ?_
        exact k
      obtain ⟨T28, h28, L28, X28, N28, e28, K28, V28, st28⟩ := own_iastoreI X22 hx hZ N22 e22 F22_0 (j := (1 : Int32)) (own_ixk (n := v1) (by simp only [hv21, own_leni, List.length_set, List.length_replicate]) (own_len5 hv1).1 hc68_25 (by decide)) g_b12 (g := (mkF m 76 #[.val (.int p0), .val (.int p1), .val (.int p2), .val (.int p3), .val (.int p4), .val (.int p5), .val (.int v1), .val (.int v3), .val (.int v5), .val (.int v7), .val (.int v9), .val (.ref b12), .unset, .unset, .unset, .unset] [(.int v5), (.int (1 : Int32)), (.ref b12)])) rfl rfl (hb hby at_76)
      have V28 : own_IA Z h28 b12 .int (List.set v21 ((1 : Int32)).toInt.toNat v5) := V28
      have Zp29 : n0 ≤ h28.size := Nat.le_trans Zp23 K28.1
      have Kr29 : Keep h22 h28 [b12] := (Keep.refl h22 [b12]).trans K28 (allS (Or.inl (List.mem_of_getElem? (i := 0) rfl)) all0)
      exact ⟨T28, h28, L28, X28, N28, e28, Kr29, V28, fun t k => st27 _ (st28 _ k)⟩
    · repeat rw [if_neg hc68_25]
      have st30 : ∀ t, Steps p.tables e below (T22.setTop (mkF m 77 #[.val (.int p0), .val (.int p1), .val (.int p2), .val (.int p3), .val (.int p4), .val (.int p5), .val (.int v1), .val (.int v3), .val (.int v5), .val (.int v7), .val (.int v9), .val (.ref b12), .unset, .unset, .unset, .unset] [])) t → Steps p.tables e below (T22.setTop (mkF m 68 #[.val (.int p0), .val (.int p1), .val (.int p2), .val (.int p3), .val (.int p4), .val (.int p5), .val (.int v1), .val (.int v3), .val (.int v5), .val (.int v7), .val (.int v9), .val (.ref b12), .unset, .unset, .unset, .unset] [(.int (1 : Int32)), (.int v1)])) t := by
        intro t k
        show Steps p.tables e below (T22.setTop (mkF m 68 #[.val (.int p0), .val (.int p1), .val (.int p2), .val (.int p3), .val (.int p4), .val (.int p5), .val (.int v1), .val (.int v3), .val (.int v5), .val (.int v7), .val (.int v9), .val (.ref b12), .unset, .unset, .unset, .unset] [(.int (1 : Int32)), (.int v1)])) _
        refine XS.icmpYes X22.here hx rfl (pc0 := 68) (pc' := 77) rfl (hb hby at_68) rfl (flt hc68_25).2.2.2 (by decide) (by decide) ?_
        exact k
      exact ⟨T22, h22, L22, X22, N22, e22, (Keep.refl h22 [b12]), F22_0, fun t k => st30 _ k⟩
  have Zp33 : n0 ≤ h32.size := Nat.le_trans Zp23 K32.1
  have st34 : ∀ t, Steps p.tables e below (T32.setTop (mkF m 80 #[.val (.int p0), .val (.int p1), .val (.int p2), .val (.int p3), .val (.int p4), .val (.int p5), .val (.int v1), .val (.int v3), .val (.int v5), .val (.int v7), .val (.int v9), .val (.ref b12), .unset, .unset, .unset, .unset] [(.int (2 : Int32)), (.int v1)])) t → Steps p.tables e below (T32.setTop (mkF m 77 #[.val (.int p0), .val (.int p1), .val (.int p2), .val (.int p3), .val (.int p4), .val (.int p5), .val (.int v1), .val (.int v3), .val (.int v5), .val (.int v7), .val (.int v9), .val (.ref b12), .unset, .unset, .unset, .unset] [])) t := by
    intro t k
    show Steps p.tables e below (T32.setTop (mkF m 77 #[.val (.int p0), .val (.int p1), .val (.int p2), .val (.int p3), .val (.int p4), .val (.int p5), .val (.int v1), .val (.int v3), .val (.int v5), .val (.int v7), .val (.int v9), .val (.ref b12), .unset, .unset, .unset, .unset] [])) _
    refine XS.iload X32.here hx rfl (hb hby at_77) rfl ?_
    show Steps p.tables e below (T32.setTop (mkF m 79 #[.val (.int p0), .val (.int p1), .val (.int p2), .val (.int p3), .val (.int p4), .val (.int p5), .val (.int v1), .val (.int v3), .val (.int v5), .val (.int v7), .val (.int v9), .val (.ref b12), .unset, .unset, .unset, .unset] [(.int v1)])) _
    refine XS.iconst X32.here hx rfl (hb hby at_79) ?_
    exact k
  obtain ⟨v41, hv41⟩ : ∃ z : List Int32, z = (if (2 : Int32) < v1 then (List.set v31 ((2 : Int32)).toInt.toNat v7) else v31) := ⟨_, rfl⟩
  obtain ⟨T42, h42, L42, X42, N42, e42, K42, F42_0, st42⟩ : ∃ (T' : State) (h' : Heap) (locs' : List Loc), Stand p l e room_1 s m #[(.int p0), (.int p1), (.int p2), (.int p3), (.int p4), (.int p5)] below meth c T' locs' 1 4 ∧ Fr n0 locs' ∧ T'.heap = h' ∧ Keep h32 h' [b12] ∧ own_IA Z h' b12 .int v41 ∧ (∀ t, Steps p.tables e below (T'.setTop (mkF m 89 #[.val (.int p0), .val (.int p1), .val (.int p2), .val (.int p3), .val (.int p4), .val (.int p5), .val (.int v1), .val (.int v3), .val (.int v5), .val (.int v7), .val (.int v9), .val (.ref b12), .unset, .unset, .unset, .unset] [])) t → Steps p.tables e below (T32.setTop (mkF m 80 #[.val (.int p0), .val (.int p1), .val (.int p2), .val (.int p3), .val (.int p4), .val (.int p5), .val (.int v1), .val (.int v3), .val (.int v5), .val (.int v7), .val (.int v9), .val (.ref b12), .unset, .unset, .unset, .unset] [(.int (2 : Int32)), (.int v1)])) t) := by
    rw [hv41]
    by_cases hc80_35 : (2 : Int32) < v1
    · repeat rw [if_pos hc80_35]
      have st37 : ∀ t, Steps p.tables e below (T32.setTop (mkF m 88 #[.val (.int p0), .val (.int p1), .val (.int p2), .val (.int p3), .val (.int p4), .val (.int p5), .val (.int v1), .val (.int v3), .val (.int v5), .val (.int v7), .val (.int v9), .val (.ref b12), .unset, .unset, .unset, .unset] [(.int v7), (.int (2 : Int32)), (.ref b12)])) t → Steps p.tables e below (T32.setTop (mkF m 80 #[.val (.int p0), .val (.int p1), .val (.int p2), .val (.int p3), .val (.int p4), .val (.int p5), .val (.int v1), .val (.int v3), .val (.int v5), .val (.int v7), .val (.int v9), .val (.ref b12), .unset, .unset, .unset, .unset] [(.int (2 : Int32)), (.int v1)])) t := by
        intro t k
        show Steps p.tables e below (T32.setTop (mkF m 80 #[.val (.int p0), .val (.int p1), .val (.int p2), .val (.int p3), .val (.int p4), .val (.int p5), .val (.int v1), .val (.int v3), .val (.int v5), .val (.int v7), .val (.int v9), .val (.ref b12), .unset, .unset, .unset, .unset] [(.int (2 : Int32)), (.int v1)])) _
        refine XS.icmpNo X32.here hx rfl (hb hby at_80) rfl (tlt hc80_35).2.2.2 ?_
        show Steps p.tables e below (T32.setTop (mkF m 83 #[.val (.int p0), .val (.int p1), .val (.int p2), .val (.int p3), .val (.int p4), .val (.int p5), .val (.int v1), .val (.int v3), .val (.int v5), .val (.int v7), .val (.int v9), .val (.ref b12), .unset, .unset, .unset, .unset] [])) _
        refine XS.aload X32.here hx rfl (hb hby at_83) rfl rfl ?_
        show Steps p.tables e below (T32.setTop (mkF m 85 #[.val (.int p0), .val (.int p1), .val (.int p2), .val (.int p3), .val (.int p4), .val (.int p5), .val (.int v1), .val (.int v3), .val (.int v5), .val (.int v7), .val (.int v9), .val (.ref b12), .unset, .unset, .unset, .unset] [(.ref b12)])) _
        refine XS.iconst X32.here hx rfl (hb hby at_85) ?_
        show Steps p.tables e below (T32.setTop (mkF m 86 #[.val (.int p0), .val (.int p1), .val (.int p2), .val (.int p3), .val (.int p4), .val (.int p5), .val (.int v1), .val (.int v3), .val (.int v5), .val (.int v7), .val (.int v9), .val (.ref b12), .unset, .unset, .unset, .unset] [(.int (2 : Int32)), (.ref b12)])) _
        refine XS.iload X32.here hx rfl (hb hby at_86) rfl ?_
        exact k
      obtain ⟨T38, h38, L38, X38, N38, e38, K38, V38, st38⟩ := own_iastoreI X32 hx hZ N32 e32 F32_0 (j := (2 : Int32)) (own_ixk (n := v1) (by simp only [hv21, hv31, own_leni, List.length_set, List.length_replicate]) (own_len5 hv1).1 hc80_35 (by decide)) g_b12 (g := (mkF m 88 #[.val (.int p0), .val (.int p1), .val (.int p2), .val (.int p3), .val (.int p4), .val (.int p5), .val (.int v1), .val (.int v3), .val (.int v5), .val (.int v7), .val (.int v9), .val (.ref b12), .unset, .unset, .unset, .unset] [(.int v7), (.int (2 : Int32)), (.ref b12)])) rfl rfl (hb hby at_88)
      have V38 : own_IA Z h38 b12 .int (List.set v31 ((2 : Int32)).toInt.toNat v7) := V38
      have Zp39 : n0 ≤ h38.size := Nat.le_trans Zp33 K38.1
      have Kr39 : Keep h32 h38 [b12] := (Keep.refl h32 [b12]).trans K38 (allS (Or.inl (List.mem_of_getElem? (i := 0) rfl)) all0)
      exact ⟨T38, h38, L38, X38, N38, e38, Kr39, V38, fun t k => st37 _ (st38 _ k)⟩
    · repeat rw [if_neg hc80_35]
      have st40 : ∀ t, Steps p.tables e below (T32.setTop (mkF m 89 #[.val (.int p0), .val (.int p1), .val (.int p2), .val (.int p3), .val (.int p4), .val (.int p5), .val (.int v1), .val (.int v3), .val (.int v5), .val (.int v7), .val (.int v9), .val (.ref b12), .unset, .unset, .unset, .unset] [])) t → Steps p.tables e below (T32.setTop (mkF m 80 #[.val (.int p0), .val (.int p1), .val (.int p2), .val (.int p3), .val (.int p4), .val (.int p5), .val (.int v1), .val (.int v3), .val (.int v5), .val (.int v7), .val (.int v9), .val (.ref b12), .unset, .unset, .unset, .unset] [(.int (2 : Int32)), (.int v1)])) t := by
        intro t k
        show Steps p.tables e below (T32.setTop (mkF m 80 #[.val (.int p0), .val (.int p1), .val (.int p2), .val (.int p3), .val (.int p4), .val (.int p5), .val (.int v1), .val (.int v3), .val (.int v5), .val (.int v7), .val (.int v9), .val (.ref b12), .unset, .unset, .unset, .unset] [(.int (2 : Int32)), (.int v1)])) _
        refine XS.icmpYes X32.here hx rfl (pc0 := 80) (pc' := 89) rfl (hb hby at_80) rfl (flt hc80_35).2.2.2 (by decide) (by decide) ?_
        exact k
      exact ⟨T32, h32, L32, X32, N32, e32, (Keep.refl h32 [b12]), F32_0, fun t k => st40 _ k⟩
  have Zp43 : n0 ≤ h42.size := Nat.le_trans Zp33 K42.1
  have st44 : ∀ t, Steps p.tables e below (T42.setTop (mkF m 92 #[.val (.int p0), .val (.int p1), .val (.int p2), .val (.int p3), .val (.int p4), .val (.int p5), .val (.int v1), .val (.int v3), .val (.int v5), .val (.int v7), .val (.int v9), .val (.ref b12), .unset, .unset, .unset, .unset] [(.int (3 : Int32)), (.int v1)])) t → Steps p.tables e below (T42.setTop (mkF m 89 #[.val (.int p0), .val (.int p1), .val (.int p2), .val (.int p3), .val (.int p4), .val (.int p5), .val (.int v1), .val (.int v3), .val (.int v5), .val (.int v7), .val (.int v9), .val (.ref b12), .unset, .unset, .unset, .unset] [])) t := by
    intro t k
    show Steps p.tables e below (T42.setTop (mkF m 89 #[.val (.int p0), .val (.int p1), .val (.int p2), .val (.int p3), .val (.int p4), .val (.int p5), .val (.int v1), .val (.int v3), .val (.int v5), .val (.int v7), .val (.int v9), .val (.ref b12), .unset, .unset, .unset, .unset] [])) _
    refine XS.iload X42.here hx rfl (hb hby at_89) rfl ?_
    show Steps p.tables e below (T42.setTop (mkF m 91 #[.val (.int p0), .val (.int p1), .val (.int p2), .val (.int p3), .val (.int p4), .val (.int p5), .val (.int v1), .val (.int v3), .val (.int v5), .val (.int v7), .val (.int v9), .val (.ref b12), .unset, .unset, .unset, .unset] [(.int v1)])) _
    refine XS.iconst X42.here hx rfl (hb hby at_91) ?_
    exact k
  obtain ⟨v51, hv51⟩ : ∃ z : List Int32, z = (if (3 : Int32) < v1 then (List.set v41 ((3 : Int32)).toInt.toNat v9) else v41) := ⟨_, rfl⟩
  obtain ⟨T52, h52, L52, X52, N52, e52, K52, F52_0, st52⟩ : ∃ (T' : State) (h' : Heap) (locs' : List Loc), Stand p l e room_1 s m #[(.int p0), (.int p1), (.int p2), (.int p3), (.int p4), (.int p5)] below meth c T' locs' 1 4 ∧ Fr n0 locs' ∧ T'.heap = h' ∧ Keep h42 h' [b12] ∧ own_IA Z h' b12 .int v51 ∧ (∀ t, Steps p.tables e below (T'.setTop (mkF m 101 #[.val (.int p0), .val (.int p1), .val (.int p2), .val (.int p3), .val (.int p4), .val (.int p5), .val (.int v1), .val (.int v3), .val (.int v5), .val (.int v7), .val (.int v9), .val (.ref b12), .unset, .unset, .unset, .unset] [])) t → Steps p.tables e below (T42.setTop (mkF m 92 #[.val (.int p0), .val (.int p1), .val (.int p2), .val (.int p3), .val (.int p4), .val (.int p5), .val (.int v1), .val (.int v3), .val (.int v5), .val (.int v7), .val (.int v9), .val (.ref b12), .unset, .unset, .unset, .unset] [(.int (3 : Int32)), (.int v1)])) t) := by
    rw [hv51]
    by_cases hc92_45 : (3 : Int32) < v1
    · repeat rw [if_pos hc92_45]
      have st47 : ∀ t, Steps p.tables e below (T42.setTop (mkF m 100 #[.val (.int p0), .val (.int p1), .val (.int p2), .val (.int p3), .val (.int p4), .val (.int p5), .val (.int v1), .val (.int v3), .val (.int v5), .val (.int v7), .val (.int v9), .val (.ref b12), .unset, .unset, .unset, .unset] [(.int v9), (.int (3 : Int32)), (.ref b12)])) t → Steps p.tables e below (T42.setTop (mkF m 92 #[.val (.int p0), .val (.int p1), .val (.int p2), .val (.int p3), .val (.int p4), .val (.int p5), .val (.int v1), .val (.int v3), .val (.int v5), .val (.int v7), .val (.int v9), .val (.ref b12), .unset, .unset, .unset, .unset] [(.int (3 : Int32)), (.int v1)])) t := by
        intro t k
        show Steps p.tables e below (T42.setTop (mkF m 92 #[.val (.int p0), .val (.int p1), .val (.int p2), .val (.int p3), .val (.int p4), .val (.int p5), .val (.int v1), .val (.int v3), .val (.int v5), .val (.int v7), .val (.int v9), .val (.ref b12), .unset, .unset, .unset, .unset] [(.int (3 : Int32)), (.int v1)])) _
        refine XS.icmpNo X42.here hx rfl (hb hby at_92) rfl (tlt hc92_45).2.2.2 ?_
        show Steps p.tables e below (T42.setTop (mkF m 95 #[.val (.int p0), .val (.int p1), .val (.int p2), .val (.int p3), .val (.int p4), .val (.int p5), .val (.int v1), .val (.int v3), .val (.int v5), .val (.int v7), .val (.int v9), .val (.ref b12), .unset, .unset, .unset, .unset] [])) _
        refine XS.aload X42.here hx rfl (hb hby at_95) rfl rfl ?_
        show Steps p.tables e below (T42.setTop (mkF m 97 #[.val (.int p0), .val (.int p1), .val (.int p2), .val (.int p3), .val (.int p4), .val (.int p5), .val (.int v1), .val (.int v3), .val (.int v5), .val (.int v7), .val (.int v9), .val (.ref b12), .unset, .unset, .unset, .unset] [(.ref b12)])) _
        refine XS.iconst X42.here hx rfl (hb hby at_97) ?_
        show Steps p.tables e below (T42.setTop (mkF m 98 #[.val (.int p0), .val (.int p1), .val (.int p2), .val (.int p3), .val (.int p4), .val (.int p5), .val (.int v1), .val (.int v3), .val (.int v5), .val (.int v7), .val (.int v9), .val (.ref b12), .unset, .unset, .unset, .unset] [(.int (3 : Int32)), (.ref b12)])) _
        refine XS.iload X42.here hx rfl (hb hby at_98) rfl ?_
        exact k
      obtain ⟨T48, h48, L48, X48, N48, e48, K48, V48, st48⟩ := own_iastoreI X42 hx hZ N42 e42 F42_0 (j := (3 : Int32)) (own_ixk (n := v1) (by simp only [hv21, hv31, hv41, own_leni, List.length_set, List.length_replicate]) (own_len5 hv1).1 hc92_45 (by decide)) g_b12 (g := (mkF m 100 #[.val (.int p0), .val (.int p1), .val (.int p2), .val (.int p3), .val (.int p4), .val (.int p5), .val (.int v1), .val (.int v3), .val (.int v5), .val (.int v7), .val (.int v9), .val (.ref b12), .unset, .unset, .unset, .unset] [(.int v9), (.int (3 : Int32)), (.ref b12)])) rfl rfl (hb hby at_100)
      have V48 : own_IA Z h48 b12 .int (List.set v41 ((3 : Int32)).toInt.toNat v9) := V48
      have Zp49 : n0 ≤ h48.size := Nat.le_trans Zp43 K48.1
      have Kr49 : Keep h42 h48 [b12] := (Keep.refl h42 [b12]).trans K48 (allS (Or.inl (List.mem_of_getElem? (i := 0) rfl)) all0)
      exact ⟨T48, h48, L48, X48, N48, e48, Kr49, V48, fun t k => st47 _ (st48 _ k)⟩
    · repeat rw [if_neg hc92_45]
      have st50 : ∀ t, Steps p.tables e below (T42.setTop (mkF m 101 #[.val (.int p0), .val (.int p1), .val (.int p2), .val (.int p3), .val (.int p4), .val (.int p5), .val (.int v1), .val (.int v3), .val (.int v5), .val (.int v7), .val (.int v9), .val (.ref b12), .unset, .unset, .unset, .unset] [])) t → Steps p.tables e below (T42.setTop (mkF m 92 #[.val (.int p0), .val (.int p1), .val (.int p2), .val (.int p3), .val (.int p4), .val (.int p5), .val (.int v1), .val (.int v3), .val (.int v5), .val (.int v7), .val (.int v9), .val (.ref b12), .unset, .unset, .unset, .unset] [(.int (3 : Int32)), (.int v1)])) t := by
        intro t k
        show Steps p.tables e below (T42.setTop (mkF m 92 #[.val (.int p0), .val (.int p1), .val (.int p2), .val (.int p3), .val (.int p4), .val (.int p5), .val (.int v1), .val (.int v3), .val (.int v5), .val (.int v7), .val (.int v9), .val (.ref b12), .unset, .unset, .unset, .unset] [(.int (3 : Int32)), (.int v1)])) _
        refine XS.icmpYes X42.here hx rfl (pc0 := 92) (pc' := 101) rfl (hb hby at_92) rfl (flt hc92_45).2.2.2 (by decide) (by decide) ?_
        exact k
      exact ⟨T42, h42, L42, X42, N42, e42, (Keep.refl h42 [b12]), F42_0, fun t k => st50 _ k⟩
  have Zp53 : n0 ≤ h52.size := Nat.le_trans Zp43 K52.1
  obtain ⟨v54, hv54⟩ : ∃ z : Int32, z = (p5 &&& (1073741823 : Int32)) := ⟨_, rfl⟩
  have st55 : ∀ t, Steps p.tables e below (T52.setTop (mkF m 108 #[.val (.int p0), .val (.int p1), .val (.int p2), .val (.int p3), .val (.int p4), .val (.int p5), .val (.int v1), .val (.int v3), .val (.int v5), .val (.int v7), .val (.int v9), .val (.ref b12), .val (.int v54), .unset, .unset, .unset] [])) t → Steps p.tables e below (T52.setTop (mkF m 101 #[.val (.int p0), .val (.int p1), .val (.int p2), .val (.int p3), .val (.int p4), .val (.int p5), .val (.int v1), .val (.int v3), .val (.int v5), .val (.int v7), .val (.int v9), .val (.ref b12), .unset, .unset, .unset, .unset] [])) t := by
    rw [hv54]
    intro t k
    show Steps p.tables e below (T52.setTop (mkF m 101 #[.val (.int p0), .val (.int p1), .val (.int p2), .val (.int p3), .val (.int p4), .val (.int p5), .val (.int v1), .val (.int v3), .val (.int v5), .val (.int v7), .val (.int v9), .val (.ref b12), .unset, .unset, .unset, .unset] [])) _
    refine XS.iload X52.here hx rfl (hb hby at_101) rfl ?_
    show Steps p.tables e below (T52.setTop (mkF m 103 #[.val (.int p0), .val (.int p1), .val (.int p2), .val (.int p3), .val (.int p4), .val (.int p5), .val (.int v1), .val (.int v3), .val (.int v5), .val (.int v7), .val (.int v9), .val (.ref b12), .unset, .unset, .unset, .unset] [(.int p5)])) _
    refine X52.ldcInt hx hown (mvT hZ (hw _ (List.mem_of_getElem? (i := 3) rfl))) (g := (mkF m 103 #[.val (.int p0), .val (.int p1), .val (.int p2), .val (.int p3), .val (.int p4), .val (.int p5), .val (.int v1), .val (.int v3), .val (.int v5), .val (.int v7), .val (.int v9), .val (.ref b12), .unset, .unset, .unset, .unset] [(.int p5)])) rfl (hb hby at_103) _ ?_
    show Steps p.tables e below (T52.setTop (mkF m 105 #[.val (.int p0), .val (.int p1), .val (.int p2), .val (.int p3), .val (.int p4), .val (.int p5), .val (.int v1), .val (.int v3), .val (.int v5), .val (.int v7), .val (.int v9), .val (.ref b12), .unset, .unset, .unset, .unset] [(.int (1073741823 : Int32)), (.int p5)])) _
    refine XS.iand X52.here hx rfl (hb hby at_105) rfl ?_
    show Steps p.tables e below (T52.setTop (mkF m 106 #[.val (.int p0), .val (.int p1), .val (.int p2), .val (.int p3), .val (.int p4), .val (.int p5), .val (.int v1), .val (.int v3), .val (.int v5), .val (.int v7), .val (.int v9), .val (.ref b12), .unset, .unset, .unset, .unset] [(.int (p5 &&& (1073741823 : Int32)))])) _
    refine XS.istore X52.here hx rfl (hb hby at_106) rfl (l' := #[.val (.int p0), .val (.int p1), .val (.int p2), .val (.int p3), .val (.int p4), .val (.int p5), .val (.int v1), .val (.int v3), .val (.int v5), .val (.int v7), .val (.int v9), .val (.ref b12), .val (.int (p5 &&& (1073741823 : Int32))), .unset, .unset, .unset]) rfl ?_
    exact k
  have st56 : ∀ t, Steps p.tables e below (T52.setTop (mkF m 112 #[.val (.int p0), .val (.int p1), .val (.int p2), .val (.int p3), .val (.int p4), .val (.int p5), .val (.int v1), .val (.int v3), .val (.int v5), .val (.int v7), .val (.int v9), .val (.ref b12), .val (.int v54), .unset, .unset, .unset] [(.int v54), (.ref b12)])) t → Steps p.tables e below (T52.setTop (mkF m 108 #[.val (.int p0), .val (.int p1), .val (.int p2), .val (.int p3), .val (.int p4), .val (.int p5), .val (.int v1), .val (.int v3), .val (.int v5), .val (.int v7), .val (.int v9), .val (.ref b12), .val (.int v54), .unset, .unset, .unset] [])) t := by
    intro t k
    show Steps p.tables e below (T52.setTop (mkF m 108 #[.val (.int p0), .val (.int p1), .val (.int p2), .val (.int p3), .val (.int p4), .val (.int p5), .val (.int v1), .val (.int v3), .val (.int v5), .val (.int v7), .val (.int v9), .val (.ref b12), .val (.int v54), .unset, .unset, .unset] [])) _
    refine XS.aload X52.here hx rfl (hb hby at_108) rfl rfl ?_
    show Steps p.tables e below (T52.setTop (mkF m 110 #[.val (.int p0), .val (.int p1), .val (.int p2), .val (.int p3), .val (.int p4), .val (.int p5), .val (.int v1), .val (.int v3), .val (.int v5), .val (.int v7), .val (.int v9), .val (.ref b12), .val (.int v54), .unset, .unset, .unset] [(.ref b12)])) _
    refine XS.iload X52.here hx rfl (hb hby at_110) rfl ?_
    exact k
  obtain ⟨_, _, ⟨T57, L57, k57, n57⟩, -, X57, ⟨Lc57, hQ57, l57, y57, z57⟩, st57⟩ := Jvm.LawKit.callS X52 hx (y := (⟨"com/example/tame_markup/tamemarkup/document/AttributeList", "indexPast", "([II)I"⟩ : MethodName)) hown (mvT hZ (hw _ (List.mem_of_getElem? (i := 4) rfl))) (mvT hZ (hw _ (List.mem_of_getElem? (i := 5) rfl))) (mvT hZ (hw _ (List.mem_of_getElem? (i := 6) rfl))) (mvT hZ (hw _ (List.mem_of_getElem? (i := 7) rfl))) (by decide) (backOf (W := 0) (own_rm1 l Z a0 hw [] b12 v54 v51 h52 n0 Zp53 F52_0 (by simp only [hv21, hv31, hv41, hv51, own_leni, List.length_set, List.length_replicate]; have := own_len5 hv1; omega)) hZ (hw _ (List.mem_of_getElem? (i := 7) rfl)) (hw _ (List.mem_of_getElem? (i := 6) rfl)) (by decide) (by decide)) (g := (mkF m 112 #[.val (.int p0), .val (.int p1), .val (.int p2), .val (.int p3), .val (.int p4), .val (.int p5), .val (.int v1), .val (.int v3), .val (.int v5), .val (.int v7), .val (.int v9), .val (.ref b12), .val (.int v54), .unset, .unset, .unset] [(.int v54), (.ref b12)])) rfl (by rw [hml]; rfl) (argsL := [(.ref b12), (.int v54)]) (rest := []) (lenOf own_pd0 rfl) rfl (by show 2 * 0 + _ ≤ _; exact Nat.le_of_eq rfl) (hb hby at_112) (fun _ _ => ⟨rfl, e52, (by decide : 1 + 0 ≤ _), (by decide : 4 + 0 ≤ _)⟩)
  dsimp only [Pt.U, Pt.locs, Pt.cells, Pt.slots] at X57 l57 y57 z57 st57 hQ57
  subst y57 z57
  obtain ⟨rfl, rfl, e57⟩ := hQ57
  have X57' : Stand p l e room_1 s m #[(.int p0), (.int p1), (.int p2), (.int p3), (.int p4), (.int p5)] below meth c T57 L52 1 4 := by rw [show L57 = L52 from by rw [l57]; first | rfl | exact List.append_nil _] at X57; exact X57
  obtain ⟨v58, hv58⟩ : ∃ z : Int32, z = (own_F1 v54 v51) := ⟨_, rfl⟩
  rw [← hv58] at st57
  have st59 : ∀ t, Steps p.tables e below (T57.setTop (mkF m 124 #[.val (.int p0), .val (.int p1), .val (.int p2), .val (.int p3), .val (.int p4), .val (.int p5), .val (.int v1), .val (.int v3), .val (.int v5), .val (.int v7), .val (.int v9), .val (.ref b12), .val (.int v54), .val (.int v58), .unset, .unset] [(.int v58), (.int v3), (.int (0 : Int32)), (.int v1)])) t → Steps p.tables e below (T57.setTop (mkF m 115 #[.val (.int p0), .val (.int p1), .val (.int p2), .val (.int p3), .val (.int p4), .val (.int p5), .val (.int v1), .val (.int v3), .val (.int v5), .val (.int v7), .val (.int v9), .val (.ref b12), .val (.int v54), .unset, .unset, .unset] [(.int v58)])) t := by
    intro t k
    show Steps p.tables e below (T57.setTop (mkF m 115 #[.val (.int p0), .val (.int p1), .val (.int p2), .val (.int p3), .val (.int p4), .val (.int p5), .val (.int v1), .val (.int v3), .val (.int v5), .val (.int v7), .val (.int v9), .val (.ref b12), .val (.int v54), .unset, .unset, .unset] [(.int v58)])) _
    refine XS.istore X57'.here hx rfl (hb hby at_115) rfl (l' := #[.val (.int p0), .val (.int p1), .val (.int p2), .val (.int p3), .val (.int p4), .val (.int p5), .val (.int v1), .val (.int v3), .val (.int v5), .val (.int v7), .val (.int v9), .val (.ref b12), .val (.int v54), .val (.int v58), .unset, .unset]) rfl ?_
    show Steps p.tables e below (T57.setTop (mkF m 117 #[.val (.int p0), .val (.int p1), .val (.int p2), .val (.int p3), .val (.int p4), .val (.int p5), .val (.int v1), .val (.int v3), .val (.int v5), .val (.int v7), .val (.int v9), .val (.ref b12), .val (.int v54), .val (.int v58), .unset, .unset] [])) _
    refine XS.iload X57'.here hx rfl (hb hby at_117) rfl ?_
    show Steps p.tables e below (T57.setTop (mkF m 119 #[.val (.int p0), .val (.int p1), .val (.int p2), .val (.int p3), .val (.int p4), .val (.int p5), .val (.int v1), .val (.int v3), .val (.int v5), .val (.int v7), .val (.int v9), .val (.ref b12), .val (.int v54), .val (.int v58), .unset, .unset] [(.int v1)])) _
    refine XS.iconst X57'.here hx rfl (hb hby at_119) ?_
    show Steps p.tables e below (T57.setTop (mkF m 120 #[.val (.int p0), .val (.int p1), .val (.int p2), .val (.int p3), .val (.int p4), .val (.int p5), .val (.int v1), .val (.int v3), .val (.int v5), .val (.int v7), .val (.int v9), .val (.ref b12), .val (.int v54), .val (.int v58), .unset, .unset] [(.int (0 : Int32)), (.int v1)])) _
    refine XS.iload X57'.here hx rfl (hb hby at_120) rfl ?_
    show Steps p.tables e below (T57.setTop (mkF m 122 #[.val (.int p0), .val (.int p1), .val (.int p2), .val (.int p3), .val (.int p4), .val (.int p5), .val (.int v1), .val (.int v3), .val (.int v5), .val (.int v7), .val (.int v9), .val (.ref b12), .val (.int v54), .val (.int v58), .unset, .unset] [(.int v3), (.int (0 : Int32)), (.int v1)])) _
    refine XS.iload X57'.here hx rfl (hb hby at_122) rfl ?_
    exact k
  obtain ⟨_, _, ⟨T60, L60, k60, n60⟩, -, X60, ⟨Lc60, hQ60, l60, y60, z60⟩, st60⟩ := Jvm.LawKit.callS X57' hx (y := (⟨"com/example/tame_markup/tamemarkup/document/AttributeListIndexPastPinLaw", "hit", "(IIII)Z"⟩ : MethodName)) hown (mvT hZ (hw _ (List.mem_of_getElem? (i := 8) rfl))) (mvT hZ (hw _ (List.mem_of_getElem? (i := 9) rfl))) (mvT hZ (hw _ (List.mem_of_getElem? (i := 10) rfl))) (mvT hZ (hw _ (List.mem_of_getElem? (i := 11) rfl))) (by decide) (backOf (W := 0) (own_rm2 l Z a0 hw [] v1 (0 : Int32) v3 v58 h52) hZ (hw _ (List.mem_of_getElem? (i := 11) rfl)) (hw _ (List.mem_of_getElem? (i := 10) rfl)) (by decide) (by decide)) (g := (mkF m 124 #[.val (.int p0), .val (.int p1), .val (.int p2), .val (.int p3), .val (.int p4), .val (.int p5), .val (.int v1), .val (.int v3), .val (.int v5), .val (.int v7), .val (.int v9), .val (.ref b12), .val (.int v54), .val (.int v58), .unset, .unset] [(.int v58), (.int v3), (.int (0 : Int32)), (.int v1)])) rfl (by rw [hml]; rfl) (argsL := [(.int v1), (.int (0 : Int32)), (.int v3), (.int v58)]) (rest := []) (lenOf own_pd1 rfl) rfl (by show 2 * 0 + _ ≤ _; exact Nat.le_of_eq rfl) (hb hby at_124) (fun _ _ => ⟨rfl, e57, (by decide : 1 + 0 ≤ _), (by decide : 4 + 0 ≤ _)⟩)
  dsimp only [Pt.U, Pt.locs, Pt.cells, Pt.slots] at X60 l60 y60 z60 st60 hQ60
  subst y60 z60
  obtain ⟨rfl, rfl, e60⟩ := hQ60
  have X60' : Stand p l e room_1 s m #[(.int p0), (.int p1), (.int p2), (.int p3), (.int p4), (.int p5)] below meth c T60 L52 1 4 := by rw [show L60 = L52 from by rw [l60]; first | rfl | exact List.append_nil _] at X60; exact X60
  obtain ⟨v61, hv61⟩ : ∃ z : Int32, z = (own_F2 v1 (0 : Int32) v3 v58) := ⟨_, rfl⟩
  rw [← hv61] at st60
  obtain ⟨v80, hv80⟩ : ∃ z : Int32, z = (if v61 = (0 : Int32) then (if (own_F2 v1 (1 : Int32) v5 v58) = (0 : Int32) then (if (own_F2 v1 (2 : Int32) v7 v58) = (0 : Int32) then (if (own_F2 v1 (3 : Int32) v9 v58) = (0 : Int32) then (0 : Int32) else (1 : Int32)) else (1 : Int32)) else (1 : Int32)) else (1 : Int32)) := ⟨_, rfl⟩
  obtain ⟨T81, X81, e81, st81⟩ : ∃ T' : State, Stand p l e room_1 s m #[(.int p0), (.int p1), (.int p2), (.int p3), (.int p4), (.int p5)] below meth c T' L52 1 4 ∧ T'.heap = h52 ∧ ∀ t, Steps p.tables e below (T'.setTop (mkF m 174 #[.val (.int p0), .val (.int p1), .val (.int p2), .val (.int p3), .val (.int p4), .val (.int p5), .val (.int v1), .val (.int v3), .val (.int v5), .val (.int v7), .val (.int v9), .val (.ref b12), .val (.int v54), .val (.int v58), .unset, .unset] [(.int v80)])) t → Steps p.tables e below (T60.setTop (mkF m 127 #[.val (.int p0), .val (.int p1), .val (.int p2), .val (.int p3), .val (.int p4), .val (.int p5), .val (.int v1), .val (.int v3), .val (.int v5), .val (.int v7), .val (.int v9), .val (.ref b12), .val (.int v54), .val (.int v58), .unset, .unset] [(.int v61)])) t := by
    rw [hv80]
    by_cases hc127_62 : v61 = (0 : Int32)
    · repeat rw [if_pos hc127_62]
      have st63 : ∀ t, Steps p.tables e below (T60.setTop (mkF m 137 #[.val (.int p0), .val (.int p1), .val (.int p2), .val (.int p3), .val (.int p4), .val (.int p5), .val (.int v1), .val (.int v3), .val (.int v5), .val (.int v7), .val (.int v9), .val (.ref b12), .val (.int v54), .val (.int v58), .unset, .unset] [(.int v58), (.int v5), (.int (1 : Int32)), (.int v1)])) t → Steps p.tables e below (T60.setTop (mkF m 127 #[.val (.int p0), .val (.int p1), .val (.int p2), .val (.int p3), .val (.int p4), .val (.int p5), .val (.int v1), .val (.int v3), .val (.int v5), .val (.int v7), .val (.int v9), .val (.ref b12), .val (.int v54), .val (.int v58), .unset, .unset] [(.int v61)])) t := by
        intro t k
        show Steps p.tables e below (T60.setTop (mkF m 127 #[.val (.int p0), .val (.int p1), .val (.int p2), .val (.int p3), .val (.int p4), .val (.int p5), .val (.int v1), .val (.int v3), .val (.int v5), .val (.int v7), .val (.int v9), .val (.ref b12), .val (.int v54), .val (.int v58), .unset, .unset] [(.int v61)])) _
        refine XS.ifNo X60'.here hx rfl (hb hby at_127) rfl ((if0 _ _).trans (teq hc127_62).2) ?_
        show Steps p.tables e below (T60.setTop (mkF m 130 #[.val (.int p0), .val (.int p1), .val (.int p2), .val (.int p3), .val (.int p4), .val (.int p5), .val (.int v1), .val (.int v3), .val (.int v5), .val (.int v7), .val (.int v9), .val (.ref b12), .val (.int v54), .val (.int v58), .unset, .unset] [])) _
        refine XS.iload X60'.here hx rfl (hb hby at_130) rfl ?_
        show Steps p.tables e below (T60.setTop (mkF m 132 #[.val (.int p0), .val (.int p1), .val (.int p2), .val (.int p3), .val (.int p4), .val (.int p5), .val (.int v1), .val (.int v3), .val (.int v5), .val (.int v7), .val (.int v9), .val (.ref b12), .val (.int v54), .val (.int v58), .unset, .unset] [(.int v1)])) _
        refine XS.iconst X60'.here hx rfl (hb hby at_132) ?_
        show Steps p.tables e below (T60.setTop (mkF m 133 #[.val (.int p0), .val (.int p1), .val (.int p2), .val (.int p3), .val (.int p4), .val (.int p5), .val (.int v1), .val (.int v3), .val (.int v5), .val (.int v7), .val (.int v9), .val (.ref b12), .val (.int v54), .val (.int v58), .unset, .unset] [(.int (1 : Int32)), (.int v1)])) _
        refine XS.iload X60'.here hx rfl (hb hby at_133) rfl ?_
        show Steps p.tables e below (T60.setTop (mkF m 135 #[.val (.int p0), .val (.int p1), .val (.int p2), .val (.int p3), .val (.int p4), .val (.int p5), .val (.int v1), .val (.int v3), .val (.int v5), .val (.int v7), .val (.int v9), .val (.ref b12), .val (.int v54), .val (.int v58), .unset, .unset] [(.int v5), (.int (1 : Int32)), (.int v1)])) _
        refine XS.iload X60'.here hx rfl (hb hby at_135) rfl ?_
        exact k
      obtain ⟨_, _, ⟨T64, L64, k64, n64⟩, -, X64, ⟨Lc64, hQ64, l64, y64, z64⟩, st64⟩ := Jvm.LawKit.callS X60' hx (y := (⟨"com/example/tame_markup/tamemarkup/document/AttributeListIndexPastPinLaw", "hit", "(IIII)Z"⟩ : MethodName)) hown (mvT hZ (hw _ (List.mem_of_getElem? (i := 8) rfl))) (mvT hZ (hw _ (List.mem_of_getElem? (i := 9) rfl))) (mvT hZ (hw _ (List.mem_of_getElem? (i := 10) rfl))) (mvT hZ (hw _ (List.mem_of_getElem? (i := 11) rfl))) (by decide) (backOf (W := 0) (own_rm2 l Z a0 hw [] v1 (1 : Int32) v5 v58 h52) hZ (hw _ (List.mem_of_getElem? (i := 11) rfl)) (hw _ (List.mem_of_getElem? (i := 10) rfl)) (by decide) (by decide)) (g := (mkF m 137 #[.val (.int p0), .val (.int p1), .val (.int p2), .val (.int p3), .val (.int p4), .val (.int p5), .val (.int v1), .val (.int v3), .val (.int v5), .val (.int v7), .val (.int v9), .val (.ref b12), .val (.int v54), .val (.int v58), .unset, .unset] [(.int v58), (.int v5), (.int (1 : Int32)), (.int v1)])) rfl (by rw [hml]; rfl) (argsL := [(.int v1), (.int (1 : Int32)), (.int v5), (.int v58)]) (rest := []) (lenOf own_pd1 rfl) rfl (by show 2 * 0 + _ ≤ _; exact Nat.le_of_eq rfl) (hb hby at_137) (fun _ _ => ⟨rfl, e60, (by decide : 1 + 0 ≤ _), (by decide : 4 + 0 ≤ _)⟩)
      dsimp only [Pt.U, Pt.locs, Pt.cells, Pt.slots] at X64 l64 y64 z64 st64 hQ64
      subst y64 z64
      obtain ⟨rfl, rfl, e64⟩ := hQ64
      have X64' : Stand p l e room_1 s m #[(.int p0), (.int p1), (.int p2), (.int p3), (.int p4), (.int p5)] below meth c T64 L52 1 4 := by rw [show L64 = L52 from by rw [l64]; first | rfl | exact List.append_nil _] at X64; exact X64
      obtain ⟨T78, X78, e78, st78⟩ : ∃ T' : State, Stand p l e room_1 s m #[(.int p0), (.int p1), (.int p2), (.int p3), (.int p4), (.int p5)] below meth c T' L52 1 4 ∧ T'.heap = h52 ∧ ∀ t, Steps p.tables e below (T'.setTop (mkF m 174 #[.val (.int p0), .val (.int p1), .val (.int p2), .val (.int p3), .val (.int p4), .val (.int p5), .val (.int v1), .val (.int v3), .val (.int v5), .val (.int v7), .val (.int v9), .val (.ref b12), .val (.int v54), .val (.int v58), .unset, .unset] [(.int (if (own_F2 v1 (1 : Int32) v5 v58) = (0 : Int32) then (if (own_F2 v1 (2 : Int32) v7 v58) = (0 : Int32) then (if (own_F2 v1 (3 : Int32) v9 v58) = (0 : Int32) then (0 : Int32) else (1 : Int32)) else (1 : Int32)) else (1 : Int32)))])) t → Steps p.tables e below (T64.setTop (mkF m 140 #[.val (.int p0), .val (.int p1), .val (.int p2), .val (.int p3), .val (.int p4), .val (.int p5), .val (.int v1), .val (.int v3), .val (.int v5), .val (.int v7), .val (.int v9), .val (.ref b12), .val (.int v54), .val (.int v58), .unset, .unset] [(.int (own_F2 v1 (1 : Int32) v5 v58))])) t := by
        by_cases hc140_65 : (own_F2 v1 (1 : Int32) v5 v58) = (0 : Int32)
        · repeat rw [if_pos hc140_65]
          have st66 : ∀ t, Steps p.tables e below (T64.setTop (mkF m 150 #[.val (.int p0), .val (.int p1), .val (.int p2), .val (.int p3), .val (.int p4), .val (.int p5), .val (.int v1), .val (.int v3), .val (.int v5), .val (.int v7), .val (.int v9), .val (.ref b12), .val (.int v54), .val (.int v58), .unset, .unset] [(.int v58), (.int v7), (.int (2 : Int32)), (.int v1)])) t → Steps p.tables e below (T64.setTop (mkF m 140 #[.val (.int p0), .val (.int p1), .val (.int p2), .val (.int p3), .val (.int p4), .val (.int p5), .val (.int v1), .val (.int v3), .val (.int v5), .val (.int v7), .val (.int v9), .val (.ref b12), .val (.int v54), .val (.int v58), .unset, .unset] [(.int (own_F2 v1 (1 : Int32) v5 v58))])) t := by
            intro t k
            show Steps p.tables e below (T64.setTop (mkF m 140 #[.val (.int p0), .val (.int p1), .val (.int p2), .val (.int p3), .val (.int p4), .val (.int p5), .val (.int v1), .val (.int v3), .val (.int v5), .val (.int v7), .val (.int v9), .val (.ref b12), .val (.int v54), .val (.int v58), .unset, .unset] [(.int (own_F2 v1 (1 : Int32) v5 v58))])) _
            refine XS.ifNo X64'.here hx rfl (hb hby at_140) rfl ((if0 _ _).trans (teq hc140_65).2) ?_
            show Steps p.tables e below (T64.setTop (mkF m 143 #[.val (.int p0), .val (.int p1), .val (.int p2), .val (.int p3), .val (.int p4), .val (.int p5), .val (.int v1), .val (.int v3), .val (.int v5), .val (.int v7), .val (.int v9), .val (.ref b12), .val (.int v54), .val (.int v58), .unset, .unset] [])) _
            refine XS.iload X64'.here hx rfl (hb hby at_143) rfl ?_
            show Steps p.tables e below (T64.setTop (mkF m 145 #[.val (.int p0), .val (.int p1), .val (.int p2), .val (.int p3), .val (.int p4), .val (.int p5), .val (.int v1), .val (.int v3), .val (.int v5), .val (.int v7), .val (.int v9), .val (.ref b12), .val (.int v54), .val (.int v58), .unset, .unset] [(.int v1)])) _
            refine XS.iconst X64'.here hx rfl (hb hby at_145) ?_
            show Steps p.tables e below (T64.setTop (mkF m 146 #[.val (.int p0), .val (.int p1), .val (.int p2), .val (.int p3), .val (.int p4), .val (.int p5), .val (.int v1), .val (.int v3), .val (.int v5), .val (.int v7), .val (.int v9), .val (.ref b12), .val (.int v54), .val (.int v58), .unset, .unset] [(.int (2 : Int32)), (.int v1)])) _
            refine XS.iload X64'.here hx rfl (hb hby at_146) rfl ?_
            show Steps p.tables e below (T64.setTop (mkF m 148 #[.val (.int p0), .val (.int p1), .val (.int p2), .val (.int p3), .val (.int p4), .val (.int p5), .val (.int v1), .val (.int v3), .val (.int v5), .val (.int v7), .val (.int v9), .val (.ref b12), .val (.int v54), .val (.int v58), .unset, .unset] [(.int v7), (.int (2 : Int32)), (.int v1)])) _
            refine XS.iload X64'.here hx rfl (hb hby at_148) rfl ?_
            exact k
          obtain ⟨_, _, ⟨T67, L67, k67, n67⟩, -, X67, ⟨Lc67, hQ67, l67, y67, z67⟩, st67⟩ := Jvm.LawKit.callS X64' hx (y := (⟨"com/example/tame_markup/tamemarkup/document/AttributeListIndexPastPinLaw", "hit", "(IIII)Z"⟩ : MethodName)) hown (mvT hZ (hw _ (List.mem_of_getElem? (i := 8) rfl))) (mvT hZ (hw _ (List.mem_of_getElem? (i := 9) rfl))) (mvT hZ (hw _ (List.mem_of_getElem? (i := 10) rfl))) (mvT hZ (hw _ (List.mem_of_getElem? (i := 11) rfl))) (by decide) (backOf (W := 0) (own_rm2 l Z a0 hw [] v1 (2 : Int32) v7 v58 h52) hZ (hw _ (List.mem_of_getElem? (i := 11) rfl)) (hw _ (List.mem_of_getElem? (i := 10) rfl)) (by decide) (by decide)) (g := (mkF m 150 #[.val (.int p0), .val (.int p1), .val (.int p2), .val (.int p3), .val (.int p4), .val (.int p5), .val (.int v1), .val (.int v3), .val (.int v5), .val (.int v7), .val (.int v9), .val (.ref b12), .val (.int v54), .val (.int v58), .unset, .unset] [(.int v58), (.int v7), (.int (2 : Int32)), (.int v1)])) rfl (by rw [hml]; rfl) (argsL := [(.int v1), (.int (2 : Int32)), (.int v7), (.int v58)]) (rest := []) (lenOf own_pd1 rfl) rfl (by show 2 * 0 + _ ≤ _; exact Nat.le_of_eq rfl) (hb hby at_150) (fun _ _ => ⟨rfl, e64, (by decide : 1 + 0 ≤ _), (by decide : 4 + 0 ≤ _)⟩)
          dsimp only [Pt.U, Pt.locs, Pt.cells, Pt.slots] at X67 l67 y67 z67 st67 hQ67
          subst y67 z67
          obtain ⟨rfl, rfl, e67⟩ := hQ67
          have X67' : Stand p l e room_1 s m #[(.int p0), (.int p1), (.int p2), (.int p3), (.int p4), (.int p5)] below meth c T67 L52 1 4 := by rw [show L67 = L52 from by rw [l67]; first | rfl | exact List.append_nil _] at X67; exact X67
          obtain ⟨T76, X76, e76, st76⟩ : ∃ T' : State, Stand p l e room_1 s m #[(.int p0), (.int p1), (.int p2), (.int p3), (.int p4), (.int p5)] below meth c T' L52 1 4 ∧ T'.heap = h52 ∧ ∀ t, Steps p.tables e below (T'.setTop (mkF m 174 #[.val (.int p0), .val (.int p1), .val (.int p2), .val (.int p3), .val (.int p4), .val (.int p5), .val (.int v1), .val (.int v3), .val (.int v5), .val (.int v7), .val (.int v9), .val (.ref b12), .val (.int v54), .val (.int v58), .unset, .unset] [(.int (if (own_F2 v1 (2 : Int32) v7 v58) = (0 : Int32) then (if (own_F2 v1 (3 : Int32) v9 v58) = (0 : Int32) then (0 : Int32) else (1 : Int32)) else (1 : Int32)))])) t → Steps p.tables e below (T67.setTop (mkF m 153 #[.val (.int p0), .val (.int p1), .val (.int p2), .val (.int p3), .val (.int p4), .val (.int p5), .val (.int v1), .val (.int v3), .val (.int v5), .val (.int v7), .val (.int v9), .val (.ref b12), .val (.int v54), .val (.int v58), .unset, .unset] [(.int (own_F2 v1 (2 : Int32) v7 v58))])) t := by
            by_cases hc153_68 : (own_F2 v1 (2 : Int32) v7 v58) = (0 : Int32)
            · repeat rw [if_pos hc153_68]
              have st69 : ∀ t, Steps p.tables e below (T67.setTop (mkF m 163 #[.val (.int p0), .val (.int p1), .val (.int p2), .val (.int p3), .val (.int p4), .val (.int p5), .val (.int v1), .val (.int v3), .val (.int v5), .val (.int v7), .val (.int v9), .val (.ref b12), .val (.int v54), .val (.int v58), .unset, .unset] [(.int v58), (.int v9), (.int (3 : Int32)), (.int v1)])) t → Steps p.tables e below (T67.setTop (mkF m 153 #[.val (.int p0), .val (.int p1), .val (.int p2), .val (.int p3), .val (.int p4), .val (.int p5), .val (.int v1), .val (.int v3), .val (.int v5), .val (.int v7), .val (.int v9), .val (.ref b12), .val (.int v54), .val (.int v58), .unset, .unset] [(.int (own_F2 v1 (2 : Int32) v7 v58))])) t := by
                intro t k
                show Steps p.tables e below (T67.setTop (mkF m 153 #[.val (.int p0), .val (.int p1), .val (.int p2), .val (.int p3), .val (.int p4), .val (.int p5), .val (.int v1), .val (.int v3), .val (.int v5), .val (.int v7), .val (.int v9), .val (.ref b12), .val (.int v54), .val (.int v58), .unset, .unset] [(.int (own_F2 v1 (2 : Int32) v7 v58))])) _
                refine XS.ifNo X67'.here hx rfl (hb hby at_153) rfl ((if0 _ _).trans (teq hc153_68).2) ?_
                show Steps p.tables e below (T67.setTop (mkF m 156 #[.val (.int p0), .val (.int p1), .val (.int p2), .val (.int p3), .val (.int p4), .val (.int p5), .val (.int v1), .val (.int v3), .val (.int v5), .val (.int v7), .val (.int v9), .val (.ref b12), .val (.int v54), .val (.int v58), .unset, .unset] [])) _
                refine XS.iload X67'.here hx rfl (hb hby at_156) rfl ?_
                show Steps p.tables e below (T67.setTop (mkF m 158 #[.val (.int p0), .val (.int p1), .val (.int p2), .val (.int p3), .val (.int p4), .val (.int p5), .val (.int v1), .val (.int v3), .val (.int v5), .val (.int v7), .val (.int v9), .val (.ref b12), .val (.int v54), .val (.int v58), .unset, .unset] [(.int v1)])) _
                refine XS.iconst X67'.here hx rfl (hb hby at_158) ?_
                show Steps p.tables e below (T67.setTop (mkF m 159 #[.val (.int p0), .val (.int p1), .val (.int p2), .val (.int p3), .val (.int p4), .val (.int p5), .val (.int v1), .val (.int v3), .val (.int v5), .val (.int v7), .val (.int v9), .val (.ref b12), .val (.int v54), .val (.int v58), .unset, .unset] [(.int (3 : Int32)), (.int v1)])) _
                refine XS.iload X67'.here hx rfl (hb hby at_159) rfl ?_
                show Steps p.tables e below (T67.setTop (mkF m 161 #[.val (.int p0), .val (.int p1), .val (.int p2), .val (.int p3), .val (.int p4), .val (.int p5), .val (.int v1), .val (.int v3), .val (.int v5), .val (.int v7), .val (.int v9), .val (.ref b12), .val (.int v54), .val (.int v58), .unset, .unset] [(.int v9), (.int (3 : Int32)), (.int v1)])) _
                refine XS.iload X67'.here hx rfl (hb hby at_161) rfl ?_
                exact k
              obtain ⟨_, _, ⟨T70, L70, k70, n70⟩, -, X70, ⟨Lc70, hQ70, l70, y70, z70⟩, st70⟩ := Jvm.LawKit.callS X67' hx (y := (⟨"com/example/tame_markup/tamemarkup/document/AttributeListIndexPastPinLaw", "hit", "(IIII)Z"⟩ : MethodName)) hown (mvT hZ (hw _ (List.mem_of_getElem? (i := 8) rfl))) (mvT hZ (hw _ (List.mem_of_getElem? (i := 9) rfl))) (mvT hZ (hw _ (List.mem_of_getElem? (i := 10) rfl))) (mvT hZ (hw _ (List.mem_of_getElem? (i := 11) rfl))) (by decide) (backOf (W := 0) (own_rm2 l Z a0 hw [] v1 (3 : Int32) v9 v58 h52) hZ (hw _ (List.mem_of_getElem? (i := 11) rfl)) (hw _ (List.mem_of_getElem? (i := 10) rfl)) (by decide) (by decide)) (g := (mkF m 163 #[.val (.int p0), .val (.int p1), .val (.int p2), .val (.int p3), .val (.int p4), .val (.int p5), .val (.int v1), .val (.int v3), .val (.int v5), .val (.int v7), .val (.int v9), .val (.ref b12), .val (.int v54), .val (.int v58), .unset, .unset] [(.int v58), (.int v9), (.int (3 : Int32)), (.int v1)])) rfl (by rw [hml]; rfl) (argsL := [(.int v1), (.int (3 : Int32)), (.int v9), (.int v58)]) (rest := []) (lenOf own_pd1 rfl) rfl (by show 2 * 0 + _ ≤ _; exact Nat.le_of_eq rfl) (hb hby at_163) (fun _ _ => ⟨rfl, e67, (by decide : 1 + 0 ≤ _), (by decide : 4 + 0 ≤ _)⟩)
              dsimp only [Pt.U, Pt.locs, Pt.cells, Pt.slots] at X70 l70 y70 z70 st70 hQ70
              subst y70 z70
              obtain ⟨rfl, rfl, e70⟩ := hQ70
              have X70' : Stand p l e room_1 s m #[(.int p0), (.int p1), (.int p2), (.int p3), (.int p4), (.int p5)] below meth c T70 L52 1 4 := by rw [show L70 = L52 from by rw [l70]; first | rfl | exact List.append_nil _] at X70; exact X70
              have st74 : ∀ t, Steps p.tables e below (T70.setTop (mkF m 174 #[.val (.int p0), .val (.int p1), .val (.int p2), .val (.int p3), .val (.int p4), .val (.int p5), .val (.int v1), .val (.int v3), .val (.int v5), .val (.int v7), .val (.int v9), .val (.ref b12), .val (.int v54), .val (.int v58), .unset, .unset] [(.int (if (own_F2 v1 (3 : Int32) v9 v58) = (0 : Int32) then (0 : Int32) else (1 : Int32)))])) t → Steps p.tables e below (T70.setTop (mkF m 166 #[.val (.int p0), .val (.int p1), .val (.int p2), .val (.int p3), .val (.int p4), .val (.int p5), .val (.int v1), .val (.int v3), .val (.int v5), .val (.int v7), .val (.int v9), .val (.ref b12), .val (.int v54), .val (.int v58), .unset, .unset] [(.int (own_F2 v1 (3 : Int32) v9 v58))])) t := by
                by_cases hc166_71 : (own_F2 v1 (3 : Int32) v9 v58) = (0 : Int32)
                · repeat rw [if_pos hc166_71]
                  have st72 : ∀ t, Steps p.tables e below (T70.setTop (mkF m 174 #[.val (.int p0), .val (.int p1), .val (.int p2), .val (.int p3), .val (.int p4), .val (.int p5), .val (.int v1), .val (.int v3), .val (.int v5), .val (.int v7), .val (.int v9), .val (.ref b12), .val (.int v54), .val (.int v58), .unset, .unset] [(.int (0 : Int32))])) t → Steps p.tables e below (T70.setTop (mkF m 166 #[.val (.int p0), .val (.int p1), .val (.int p2), .val (.int p3), .val (.int p4), .val (.int p5), .val (.int v1), .val (.int v3), .val (.int v5), .val (.int v7), .val (.int v9), .val (.ref b12), .val (.int v54), .val (.int v58), .unset, .unset] [(.int (own_F2 v1 (3 : Int32) v9 v58))])) t := by
                    intro t k
                    show Steps p.tables e below (T70.setTop (mkF m 166 #[.val (.int p0), .val (.int p1), .val (.int p2), .val (.int p3), .val (.int p4), .val (.int p5), .val (.int v1), .val (.int v3), .val (.int v5), .val (.int v7), .val (.int v9), .val (.ref b12), .val (.int v54), .val (.int v58), .unset, .unset] [(.int (own_F2 v1 (3 : Int32) v9 v58))])) _
                    refine XS.ifYes X70'.here hx rfl (pc0 := 166) (pc' := 173) rfl (hb hby at_166) rfl ((if0 _ _).trans (teq hc166_71).1) (by decide) (by decide) ?_
                    show Steps p.tables e below (T70.setTop (mkF m 173 #[.val (.int p0), .val (.int p1), .val (.int p2), .val (.int p3), .val (.int p4), .val (.int p5), .val (.int v1), .val (.int v3), .val (.int v5), .val (.int v7), .val (.int v9), .val (.ref b12), .val (.int v54), .val (.int v58), .unset, .unset] [])) _
                    refine XS.iconst X70'.here hx rfl (hb hby at_173) ?_
                    exact k
                  exact fun t k => st72 _ k
                · repeat rw [if_neg hc166_71]
                  have st73 : ∀ t, Steps p.tables e below (T70.setTop (mkF m 174 #[.val (.int p0), .val (.int p1), .val (.int p2), .val (.int p3), .val (.int p4), .val (.int p5), .val (.int v1), .val (.int v3), .val (.int v5), .val (.int v7), .val (.int v9), .val (.ref b12), .val (.int v54), .val (.int v58), .unset, .unset] [(.int (1 : Int32))])) t → Steps p.tables e below (T70.setTop (mkF m 166 #[.val (.int p0), .val (.int p1), .val (.int p2), .val (.int p3), .val (.int p4), .val (.int p5), .val (.int v1), .val (.int v3), .val (.int v5), .val (.int v7), .val (.int v9), .val (.ref b12), .val (.int v54), .val (.int v58), .unset, .unset] [(.int (own_F2 v1 (3 : Int32) v9 v58))])) t := by
                    intro t k
                    show Steps p.tables e below (T70.setTop (mkF m 166 #[.val (.int p0), .val (.int p1), .val (.int p2), .val (.int p3), .val (.int p4), .val (.int p5), .val (.int v1), .val (.int v3), .val (.int v5), .val (.int v7), .val (.int v9), .val (.ref b12), .val (.int v54), .val (.int v58), .unset, .unset] [(.int (own_F2 v1 (3 : Int32) v9 v58))])) _
                    refine XS.ifNo X70'.here hx rfl (hb hby at_166) rfl ((if0 _ _).trans (feq hc166_71).1) ?_
                    show Steps p.tables e below (T70.setTop (mkF m 169 #[.val (.int p0), .val (.int p1), .val (.int p2), .val (.int p3), .val (.int p4), .val (.int p5), .val (.int v1), .val (.int v3), .val (.int v5), .val (.int v7), .val (.int v9), .val (.ref b12), .val (.int v54), .val (.int v58), .unset, .unset] [])) _
                    refine XS.iconst X70'.here hx rfl (hb hby at_169) ?_
                    show Steps p.tables e below (T70.setTop (mkF m 170 #[.val (.int p0), .val (.int p1), .val (.int p2), .val (.int p3), .val (.int p4), .val (.int p5), .val (.int v1), .val (.int v3), .val (.int v5), .val (.int v7), .val (.int v9), .val (.ref b12), .val (.int v54), .val (.int v58), .unset, .unset] [(.int (1 : Int32))])) _
                    refine XS.goto X70'.here hx rfl (pc0 := 170) (pc' := 174) rfl (hb hby at_170) (by decide) (by decide) ?_
                    exact k
                  exact fun t k => st73 _ k
              exact ⟨T70, X70', e70, fun t k => st69 _ (st70 _ (st74 _ k))⟩
            · repeat rw [if_neg hc153_68]
              have st75 : ∀ t, Steps p.tables e below (T67.setTop (mkF m 174 #[.val (.int p0), .val (.int p1), .val (.int p2), .val (.int p3), .val (.int p4), .val (.int p5), .val (.int v1), .val (.int v3), .val (.int v5), .val (.int v7), .val (.int v9), .val (.ref b12), .val (.int v54), .val (.int v58), .unset, .unset] [(.int (1 : Int32))])) t → Steps p.tables e below (T67.setTop (mkF m 153 #[.val (.int p0), .val (.int p1), .val (.int p2), .val (.int p3), .val (.int p4), .val (.int p5), .val (.int v1), .val (.int v3), .val (.int v5), .val (.int v7), .val (.int v9), .val (.ref b12), .val (.int v54), .val (.int v58), .unset, .unset] [(.int (own_F2 v1 (2 : Int32) v7 v58))])) t := by
                intro t k
                show Steps p.tables e below (T67.setTop (mkF m 153 #[.val (.int p0), .val (.int p1), .val (.int p2), .val (.int p3), .val (.int p4), .val (.int p5), .val (.int v1), .val (.int v3), .val (.int v5), .val (.int v7), .val (.int v9), .val (.ref b12), .val (.int v54), .val (.int v58), .unset, .unset] [(.int (own_F2 v1 (2 : Int32) v7 v58))])) _
                refine XS.ifYes X67'.here hx rfl (pc0 := 153) (pc' := 169) rfl (hb hby at_153) rfl ((if0 _ _).trans (feq hc153_68).2) (by decide) (by decide) ?_
                show Steps p.tables e below (T67.setTop (mkF m 169 #[.val (.int p0), .val (.int p1), .val (.int p2), .val (.int p3), .val (.int p4), .val (.int p5), .val (.int v1), .val (.int v3), .val (.int v5), .val (.int v7), .val (.int v9), .val (.ref b12), .val (.int v54), .val (.int v58), .unset, .unset] [])) _
                refine XS.iconst X67'.here hx rfl (hb hby at_169) ?_
                show Steps p.tables e below (T67.setTop (mkF m 170 #[.val (.int p0), .val (.int p1), .val (.int p2), .val (.int p3), .val (.int p4), .val (.int p5), .val (.int v1), .val (.int v3), .val (.int v5), .val (.int v7), .val (.int v9), .val (.ref b12), .val (.int v54), .val (.int v58), .unset, .unset] [(.int (1 : Int32))])) _
                refine XS.goto X67'.here hx rfl (pc0 := 170) (pc' := 174) rfl (hb hby at_170) (by decide) (by decide) ?_
                exact k
              exact ⟨T67, X67', e67, fun t k => st75 _ k⟩
          exact ⟨T76, X76, e76, fun t k => st66 _ (st67 _ (st76 _ k))⟩
        · repeat rw [if_neg hc140_65]
          have st77 : ∀ t, Steps p.tables e below (T64.setTop (mkF m 174 #[.val (.int p0), .val (.int p1), .val (.int p2), .val (.int p3), .val (.int p4), .val (.int p5), .val (.int v1), .val (.int v3), .val (.int v5), .val (.int v7), .val (.int v9), .val (.ref b12), .val (.int v54), .val (.int v58), .unset, .unset] [(.int (1 : Int32))])) t → Steps p.tables e below (T64.setTop (mkF m 140 #[.val (.int p0), .val (.int p1), .val (.int p2), .val (.int p3), .val (.int p4), .val (.int p5), .val (.int v1), .val (.int v3), .val (.int v5), .val (.int v7), .val (.int v9), .val (.ref b12), .val (.int v54), .val (.int v58), .unset, .unset] [(.int (own_F2 v1 (1 : Int32) v5 v58))])) t := by
            intro t k
            show Steps p.tables e below (T64.setTop (mkF m 140 #[.val (.int p0), .val (.int p1), .val (.int p2), .val (.int p3), .val (.int p4), .val (.int p5), .val (.int v1), .val (.int v3), .val (.int v5), .val (.int v7), .val (.int v9), .val (.ref b12), .val (.int v54), .val (.int v58), .unset, .unset] [(.int (own_F2 v1 (1 : Int32) v5 v58))])) _
            refine XS.ifYes X64'.here hx rfl (pc0 := 140) (pc' := 169) rfl (hb hby at_140) rfl ((if0 _ _).trans (feq hc140_65).2) (by decide) (by decide) ?_
            show Steps p.tables e below (T64.setTop (mkF m 169 #[.val (.int p0), .val (.int p1), .val (.int p2), .val (.int p3), .val (.int p4), .val (.int p5), .val (.int v1), .val (.int v3), .val (.int v5), .val (.int v7), .val (.int v9), .val (.ref b12), .val (.int v54), .val (.int v58), .unset, .unset] [])) _
            refine XS.iconst X64'.here hx rfl (hb hby at_169) ?_
            show Steps p.tables e below (T64.setTop (mkF m 170 #[.val (.int p0), .val (.int p1), .val (.int p2), .val (.int p3), .val (.int p4), .val (.int p5), .val (.int v1), .val (.int v3), .val (.int v5), .val (.int v7), .val (.int v9), .val (.ref b12), .val (.int v54), .val (.int v58), .unset, .unset] [(.int (1 : Int32))])) _
            refine XS.goto X64'.here hx rfl (pc0 := 170) (pc' := 174) rfl (hb hby at_170) (by decide) (by decide) ?_
            exact k
          exact ⟨T64, X64', e64, fun t k => st77 _ k⟩
      exact ⟨T78, X78, e78, fun t k => st63 _ (st64 _ (st78 _ k))⟩
    · repeat rw [if_neg hc127_62]
      have st79 : ∀ t, Steps p.tables e below (T60.setTop (mkF m 174 #[.val (.int p0), .val (.int p1), .val (.int p2), .val (.int p3), .val (.int p4), .val (.int p5), .val (.int v1), .val (.int v3), .val (.int v5), .val (.int v7), .val (.int v9), .val (.ref b12), .val (.int v54), .val (.int v58), .unset, .unset] [(.int (1 : Int32))])) t → Steps p.tables e below (T60.setTop (mkF m 127 #[.val (.int p0), .val (.int p1), .val (.int p2), .val (.int p3), .val (.int p4), .val (.int p5), .val (.int v1), .val (.int v3), .val (.int v5), .val (.int v7), .val (.int v9), .val (.ref b12), .val (.int v54), .val (.int v58), .unset, .unset] [(.int v61)])) t := by
        intro t k
        show Steps p.tables e below (T60.setTop (mkF m 127 #[.val (.int p0), .val (.int p1), .val (.int p2), .val (.int p3), .val (.int p4), .val (.int p5), .val (.int v1), .val (.int v3), .val (.int v5), .val (.int v7), .val (.int v9), .val (.ref b12), .val (.int v54), .val (.int v58), .unset, .unset] [(.int v61)])) _
        refine XS.ifYes X60'.here hx rfl (pc0 := 127) (pc' := 169) rfl (hb hby at_127) rfl ((if0 _ _).trans (feq hc127_62).2) (by decide) (by decide) ?_
        show Steps p.tables e below (T60.setTop (mkF m 169 #[.val (.int p0), .val (.int p1), .val (.int p2), .val (.int p3), .val (.int p4), .val (.int p5), .val (.int v1), .val (.int v3), .val (.int v5), .val (.int v7), .val (.int v9), .val (.ref b12), .val (.int v54), .val (.int v58), .unset, .unset] [])) _
        refine XS.iconst X60'.here hx rfl (hb hby at_169) ?_
        show Steps p.tables e below (T60.setTop (mkF m 170 #[.val (.int p0), .val (.int p1), .val (.int p2), .val (.int p3), .val (.int p4), .val (.int p5), .val (.int v1), .val (.int v3), .val (.int v5), .val (.int v7), .val (.int v9), .val (.ref b12), .val (.int v54), .val (.int v58), .unset, .unset] [(.int (1 : Int32))])) _
        refine XS.goto X60'.here hx rfl (pc0 := 170) (pc' := 174) rfl (hb hby at_170) (by decide) (by decide) ?_
        exact k
      exact ⟨T60, X60', e60, fun t k => st79 _ k⟩
  have st82 : ∀ t, Steps p.tables e below (T81.setTop (mkF m 183 #[.val (.int p0), .val (.int p1), .val (.int p2), .val (.int p3), .val (.int p4), .val (.int p5), .val (.int v1), .val (.int v3), .val (.int v5), .val (.int v7), .val (.int v9), .val (.ref b12), .val (.int v54), .val (.int v58), .val (.int v80), .unset] [(.int v58), (.int v3), (.int (0 : Int32)), (.int v1)])) t → Steps p.tables e below (T81.setTop (mkF m 174 #[.val (.int p0), .val (.int p1), .val (.int p2), .val (.int p3), .val (.int p4), .val (.int p5), .val (.int v1), .val (.int v3), .val (.int v5), .val (.int v7), .val (.int v9), .val (.ref b12), .val (.int v54), .val (.int v58), .unset, .unset] [(.int v80)])) t := by
    intro t k
    show Steps p.tables e below (T81.setTop (mkF m 174 #[.val (.int p0), .val (.int p1), .val (.int p2), .val (.int p3), .val (.int p4), .val (.int p5), .val (.int v1), .val (.int v3), .val (.int v5), .val (.int v7), .val (.int v9), .val (.ref b12), .val (.int v54), .val (.int v58), .unset, .unset] [(.int v80)])) _
    refine XS.istore X81.here hx rfl (hb hby at_174) rfl (l' := #[.val (.int p0), .val (.int p1), .val (.int p2), .val (.int p3), .val (.int p4), .val (.int p5), .val (.int v1), .val (.int v3), .val (.int v5), .val (.int v7), .val (.int v9), .val (.ref b12), .val (.int v54), .val (.int v58), .val (.int v80), .unset]) rfl ?_
    show Steps p.tables e below (T81.setTop (mkF m 176 #[.val (.int p0), .val (.int p1), .val (.int p2), .val (.int p3), .val (.int p4), .val (.int p5), .val (.int v1), .val (.int v3), .val (.int v5), .val (.int v7), .val (.int v9), .val (.ref b12), .val (.int v54), .val (.int v58), .val (.int v80), .unset] [])) _
    refine XS.iload X81.here hx rfl (hb hby at_176) rfl ?_
    show Steps p.tables e below (T81.setTop (mkF m 178 #[.val (.int p0), .val (.int p1), .val (.int p2), .val (.int p3), .val (.int p4), .val (.int p5), .val (.int v1), .val (.int v3), .val (.int v5), .val (.int v7), .val (.int v9), .val (.ref b12), .val (.int v54), .val (.int v58), .val (.int v80), .unset] [(.int v1)])) _
    refine XS.iconst X81.here hx rfl (hb hby at_178) ?_
    show Steps p.tables e below (T81.setTop (mkF m 179 #[.val (.int p0), .val (.int p1), .val (.int p2), .val (.int p3), .val (.int p4), .val (.int p5), .val (.int v1), .val (.int v3), .val (.int v5), .val (.int v7), .val (.int v9), .val (.ref b12), .val (.int v54), .val (.int v58), .val (.int v80), .unset] [(.int (0 : Int32)), (.int v1)])) _
    refine XS.iload X81.here hx rfl (hb hby at_179) rfl ?_
    show Steps p.tables e below (T81.setTop (mkF m 181 #[.val (.int p0), .val (.int p1), .val (.int p2), .val (.int p3), .val (.int p4), .val (.int p5), .val (.int v1), .val (.int v3), .val (.int v5), .val (.int v7), .val (.int v9), .val (.ref b12), .val (.int v54), .val (.int v58), .val (.int v80), .unset] [(.int v3), (.int (0 : Int32)), (.int v1)])) _
    refine XS.iload X81.here hx rfl (hb hby at_181) rfl ?_
    exact k
  obtain ⟨_, _, ⟨T83, L83, k83, n83⟩, -, X83, ⟨Lc83, hQ83, l83, y83, z83⟩, st83⟩ := Jvm.LawKit.callS X81 hx (y := (⟨"com/example/tame_markup/tamemarkup/document/AttributeListIndexPastPinLaw", "below", "(IIII)I"⟩ : MethodName)) hown (mvT hZ (hw _ (List.mem_of_getElem? (i := 12) rfl))) (mvT hZ (hw _ (List.mem_of_getElem? (i := 13) rfl))) (mvT hZ (hw _ (List.mem_of_getElem? (i := 10) rfl))) (mvT hZ (hw _ (List.mem_of_getElem? (i := 14) rfl))) (by decide) (backOf (W := 0) (own_rm3 l Z a0 hw [] v1 (0 : Int32) v3 v58 h52) hZ (hw _ (List.mem_of_getElem? (i := 14) rfl)) (hw _ (List.mem_of_getElem? (i := 10) rfl)) (by decide) (by decide)) (g := (mkF m 183 #[.val (.int p0), .val (.int p1), .val (.int p2), .val (.int p3), .val (.int p4), .val (.int p5), .val (.int v1), .val (.int v3), .val (.int v5), .val (.int v7), .val (.int v9), .val (.ref b12), .val (.int v54), .val (.int v58), .val (.int v80), .unset] [(.int v58), (.int v3), (.int (0 : Int32)), (.int v1)])) rfl (by rw [hml]; rfl) (argsL := [(.int v1), (.int (0 : Int32)), (.int v3), (.int v58)]) (rest := []) (lenOf own_pd2 rfl) rfl (by show 2 * 0 + _ ≤ _; exact Nat.le_of_eq rfl) (hb hby at_183) (fun _ _ => ⟨rfl, e81, (by decide : 1 + 0 ≤ _), (by decide : 4 + 0 ≤ _)⟩)
  dsimp only [Pt.U, Pt.locs, Pt.cells, Pt.slots] at X83 l83 y83 z83 st83 hQ83
  subst y83 z83
  obtain ⟨rfl, rfl, e83⟩ := hQ83
  have X83' : Stand p l e room_1 s m #[(.int p0), (.int p1), (.int p2), (.int p3), (.int p4), (.int p5)] below meth c T83 L52 1 4 := by rw [show L83 = L52 from by rw [l83]; first | rfl | exact List.append_nil _] at X83; exact X83
  obtain ⟨v84, hv84⟩ : ∃ z : Int32, z = (own_F3 v1 (0 : Int32) v3 v58) := ⟨_, rfl⟩
  rw [← hv84] at st83
  have st85 : ∀ t, Steps p.tables e below (T83.setTop (mkF m 193 #[.val (.int p0), .val (.int p1), .val (.int p2), .val (.int p3), .val (.int p4), .val (.int p5), .val (.int v1), .val (.int v3), .val (.int v5), .val (.int v7), .val (.int v9), .val (.ref b12), .val (.int v54), .val (.int v58), .val (.int v80), .unset] [(.int v58), (.int v5), (.int (1 : Int32)), (.int v1), (.int v84)])) t → Steps p.tables e below (T83.setTop (mkF m 186 #[.val (.int p0), .val (.int p1), .val (.int p2), .val (.int p3), .val (.int p4), .val (.int p5), .val (.int v1), .val (.int v3), .val (.int v5), .val (.int v7), .val (.int v9), .val (.ref b12), .val (.int v54), .val (.int v58), .val (.int v80), .unset] [(.int v84)])) t := by
    intro t k
    show Steps p.tables e below (T83.setTop (mkF m 186 #[.val (.int p0), .val (.int p1), .val (.int p2), .val (.int p3), .val (.int p4), .val (.int p5), .val (.int v1), .val (.int v3), .val (.int v5), .val (.int v7), .val (.int v9), .val (.ref b12), .val (.int v54), .val (.int v58), .val (.int v80), .unset] [(.int v84)])) _
    refine XS.iload X83'.here hx rfl (hb hby at_186) rfl ?_
    show Steps p.tables e below (T83.setTop (mkF m 188 #[.val (.int p0), .val (.int p1), .val (.int p2), .val (.int p3), .val (.int p4), .val (.int p5), .val (.int v1), .val (.int v3), .val (.int v5), .val (.int v7), .val (.int v9), .val (.ref b12), .val (.int v54), .val (.int v58), .val (.int v80), .unset] [(.int v1), (.int v84)])) _
    refine XS.iconst X83'.here hx rfl (hb hby at_188) ?_
    show Steps p.tables e below (T83.setTop (mkF m 189 #[.val (.int p0), .val (.int p1), .val (.int p2), .val (.int p3), .val (.int p4), .val (.int p5), .val (.int v1), .val (.int v3), .val (.int v5), .val (.int v7), .val (.int v9), .val (.ref b12), .val (.int v54), .val (.int v58), .val (.int v80), .unset] [(.int (1 : Int32)), (.int v1), (.int v84)])) _
    refine XS.iload X83'.here hx rfl (hb hby at_189) rfl ?_
    show Steps p.tables e below (T83.setTop (mkF m 191 #[.val (.int p0), .val (.int p1), .val (.int p2), .val (.int p3), .val (.int p4), .val (.int p5), .val (.int v1), .val (.int v3), .val (.int v5), .val (.int v7), .val (.int v9), .val (.ref b12), .val (.int v54), .val (.int v58), .val (.int v80), .unset] [(.int v5), (.int (1 : Int32)), (.int v1), (.int v84)])) _
    refine XS.iload X83'.here hx rfl (hb hby at_191) rfl ?_
    exact k
  obtain ⟨_, _, ⟨T86, L86, k86, n86⟩, -, X86, ⟨Lc86, hQ86, l86, y86, z86⟩, st86⟩ := Jvm.LawKit.callS X83' hx (y := (⟨"com/example/tame_markup/tamemarkup/document/AttributeListIndexPastPinLaw", "below", "(IIII)I"⟩ : MethodName)) hown (mvT hZ (hw _ (List.mem_of_getElem? (i := 12) rfl))) (mvT hZ (hw _ (List.mem_of_getElem? (i := 13) rfl))) (mvT hZ (hw _ (List.mem_of_getElem? (i := 10) rfl))) (mvT hZ (hw _ (List.mem_of_getElem? (i := 14) rfl))) (by decide) (backOf (W := 1) (own_rm3 l Z a0 hw [] v1 (1 : Int32) v5 v58 h52) hZ (hw _ (List.mem_of_getElem? (i := 14) rfl)) (hw _ (List.mem_of_getElem? (i := 10) rfl)) (by decide) (by decide)) (g := (mkF m 193 #[.val (.int p0), .val (.int p1), .val (.int p2), .val (.int p3), .val (.int p4), .val (.int p5), .val (.int v1), .val (.int v3), .val (.int v5), .val (.int v7), .val (.int v9), .val (.ref b12), .val (.int v54), .val (.int v58), .val (.int v80), .unset] [(.int v58), (.int v5), (.int (1 : Int32)), (.int v1), (.int v84)])) rfl (by rw [hml]; rfl) (argsL := [(.int v1), (.int (1 : Int32)), (.int v5), (.int v58)]) (rest := [(.int v84)]) (lenOf own_pd2 rfl) rfl (by show 2 * 0 + _ ≤ _; exact Nat.le_of_eq rfl) (hb hby at_193) (fun _ _ => ⟨rfl, e83, (by decide : 1 + 0 ≤ _), (by decide : 4 + 0 ≤ _)⟩)
  dsimp only [Pt.U, Pt.locs, Pt.cells, Pt.slots] at X86 l86 y86 z86 st86 hQ86
  subst y86 z86
  obtain ⟨rfl, rfl, e86⟩ := hQ86
  have X86' : Stand p l e room_1 s m #[(.int p0), (.int p1), (.int p2), (.int p3), (.int p4), (.int p5)] below meth c T86 L52 1 4 := by rw [show L86 = L52 from by rw [l86]; first | rfl | exact List.append_nil _] at X86; exact X86
  obtain ⟨v87, hv87⟩ : ∃ z : Int32, z = (own_F3 v1 (1 : Int32) v5 v58) := ⟨_, rfl⟩
  rw [← hv87] at st86
  have st88 : ∀ t, Steps p.tables e below (T86.setTop (mkF m 204 #[.val (.int p0), .val (.int p1), .val (.int p2), .val (.int p3), .val (.int p4), .val (.int p5), .val (.int v1), .val (.int v3), .val (.int v5), .val (.int v7), .val (.int v9), .val (.ref b12), .val (.int v54), .val (.int v58), .val (.int v80), .unset] [(.int v58), (.int v7), (.int (2 : Int32)), (.int v1), (.int (v84 + v87))])) t → Steps p.tables e below (T86.setTop (mkF m 196 #[.val (.int p0), .val (.int p1), .val (.int p2), .val (.int p3), .val (.int p4), .val (.int p5), .val (.int v1), .val (.int v3), .val (.int v5), .val (.int v7), .val (.int v9), .val (.ref b12), .val (.int v54), .val (.int v58), .val (.int v80), .unset] [(.int v87), (.int v84)])) t := by
    intro t k
    show Steps p.tables e below (T86.setTop (mkF m 196 #[.val (.int p0), .val (.int p1), .val (.int p2), .val (.int p3), .val (.int p4), .val (.int p5), .val (.int v1), .val (.int v3), .val (.int v5), .val (.int v7), .val (.int v9), .val (.ref b12), .val (.int v54), .val (.int v58), .val (.int v80), .unset] [(.int v87), (.int v84)])) _
    refine XS.iadd X86'.here hx rfl (hb hby at_196) rfl ?_
    show Steps p.tables e below (T86.setTop (mkF m 197 #[.val (.int p0), .val (.int p1), .val (.int p2), .val (.int p3), .val (.int p4), .val (.int p5), .val (.int v1), .val (.int v3), .val (.int v5), .val (.int v7), .val (.int v9), .val (.ref b12), .val (.int v54), .val (.int v58), .val (.int v80), .unset] [(.int (v84 + v87))])) _
    refine XS.iload X86'.here hx rfl (hb hby at_197) rfl ?_
    show Steps p.tables e below (T86.setTop (mkF m 199 #[.val (.int p0), .val (.int p1), .val (.int p2), .val (.int p3), .val (.int p4), .val (.int p5), .val (.int v1), .val (.int v3), .val (.int v5), .val (.int v7), .val (.int v9), .val (.ref b12), .val (.int v54), .val (.int v58), .val (.int v80), .unset] [(.int v1), (.int (v84 + v87))])) _
    refine XS.iconst X86'.here hx rfl (hb hby at_199) ?_
    show Steps p.tables e below (T86.setTop (mkF m 200 #[.val (.int p0), .val (.int p1), .val (.int p2), .val (.int p3), .val (.int p4), .val (.int p5), .val (.int v1), .val (.int v3), .val (.int v5), .val (.int v7), .val (.int v9), .val (.ref b12), .val (.int v54), .val (.int v58), .val (.int v80), .unset] [(.int (2 : Int32)), (.int v1), (.int (v84 + v87))])) _
    refine XS.iload X86'.here hx rfl (hb hby at_200) rfl ?_
    show Steps p.tables e below (T86.setTop (mkF m 202 #[.val (.int p0), .val (.int p1), .val (.int p2), .val (.int p3), .val (.int p4), .val (.int p5), .val (.int v1), .val (.int v3), .val (.int v5), .val (.int v7), .val (.int v9), .val (.ref b12), .val (.int v54), .val (.int v58), .val (.int v80), .unset] [(.int v7), (.int (2 : Int32)), (.int v1), (.int (v84 + v87))])) _
    refine XS.iload X86'.here hx rfl (hb hby at_202) rfl ?_
    exact k
  obtain ⟨_, _, ⟨T89, L89, k89, n89⟩, -, X89, ⟨Lc89, hQ89, l89, y89, z89⟩, st89⟩ := Jvm.LawKit.callS X86' hx (y := (⟨"com/example/tame_markup/tamemarkup/document/AttributeListIndexPastPinLaw", "below", "(IIII)I"⟩ : MethodName)) hown (mvT hZ (hw _ (List.mem_of_getElem? (i := 12) rfl))) (mvT hZ (hw _ (List.mem_of_getElem? (i := 13) rfl))) (mvT hZ (hw _ (List.mem_of_getElem? (i := 10) rfl))) (mvT hZ (hw _ (List.mem_of_getElem? (i := 14) rfl))) (by decide) (backOf (W := 1) (own_rm3 l Z a0 hw [] v1 (2 : Int32) v7 v58 h52) hZ (hw _ (List.mem_of_getElem? (i := 14) rfl)) (hw _ (List.mem_of_getElem? (i := 10) rfl)) (by decide) (by decide)) (g := (mkF m 204 #[.val (.int p0), .val (.int p1), .val (.int p2), .val (.int p3), .val (.int p4), .val (.int p5), .val (.int v1), .val (.int v3), .val (.int v5), .val (.int v7), .val (.int v9), .val (.ref b12), .val (.int v54), .val (.int v58), .val (.int v80), .unset] [(.int v58), (.int v7), (.int (2 : Int32)), (.int v1), (.int (v84 + v87))])) rfl (by rw [hml]; rfl) (argsL := [(.int v1), (.int (2 : Int32)), (.int v7), (.int v58)]) (rest := [(.int (v84 + v87))]) (lenOf own_pd2 rfl) rfl (by show 2 * 0 + _ ≤ _; exact Nat.le_of_eq rfl) (hb hby at_204) (fun _ _ => ⟨rfl, e86, (by decide : 1 + 0 ≤ _), (by decide : 4 + 0 ≤ _)⟩)
  dsimp only [Pt.U, Pt.locs, Pt.cells, Pt.slots] at X89 l89 y89 z89 st89 hQ89
  subst y89 z89
  obtain ⟨rfl, rfl, e89⟩ := hQ89
  have X89' : Stand p l e room_1 s m #[(.int p0), (.int p1), (.int p2), (.int p3), (.int p4), (.int p5)] below meth c T89 L52 1 4 := by rw [show L89 = L52 from by rw [l89]; first | rfl | exact List.append_nil _] at X89; exact X89
  obtain ⟨v90, hv90⟩ : ∃ z : Int32, z = (own_F3 v1 (2 : Int32) v7 v58) := ⟨_, rfl⟩
  rw [← hv90] at st89
  have st91 : ∀ t, Steps p.tables e below (T89.setTop (mkF m 215 #[.val (.int p0), .val (.int p1), .val (.int p2), .val (.int p3), .val (.int p4), .val (.int p5), .val (.int v1), .val (.int v3), .val (.int v5), .val (.int v7), .val (.int v9), .val (.ref b12), .val (.int v54), .val (.int v58), .val (.int v80), .unset] [(.int v58), (.int v9), (.int (3 : Int32)), (.int v1), (.int ((v84 + v87) + v90))])) t → Steps p.tables e below (T89.setTop (mkF m 207 #[.val (.int p0), .val (.int p1), .val (.int p2), .val (.int p3), .val (.int p4), .val (.int p5), .val (.int v1), .val (.int v3), .val (.int v5), .val (.int v7), .val (.int v9), .val (.ref b12), .val (.int v54), .val (.int v58), .val (.int v80), .unset] [(.int v90), (.int (v84 + v87))])) t := by
    intro t k
    show Steps p.tables e below (T89.setTop (mkF m 207 #[.val (.int p0), .val (.int p1), .val (.int p2), .val (.int p3), .val (.int p4), .val (.int p5), .val (.int v1), .val (.int v3), .val (.int v5), .val (.int v7), .val (.int v9), .val (.ref b12), .val (.int v54), .val (.int v58), .val (.int v80), .unset] [(.int v90), (.int (v84 + v87))])) _
    refine XS.iadd X89'.here hx rfl (hb hby at_207) rfl ?_
    show Steps p.tables e below (T89.setTop (mkF m 208 #[.val (.int p0), .val (.int p1), .val (.int p2), .val (.int p3), .val (.int p4), .val (.int p5), .val (.int v1), .val (.int v3), .val (.int v5), .val (.int v7), .val (.int v9), .val (.ref b12), .val (.int v54), .val (.int v58), .val (.int v80), .unset] [(.int ((v84 + v87) + v90))])) _
    refine XS.iload X89'.here hx rfl (hb hby at_208) rfl ?_
    show Steps p.tables e below (T89.setTop (mkF m 210 #[.val (.int p0), .val (.int p1), .val (.int p2), .val (.int p3), .val (.int p4), .val (.int p5), .val (.int v1), .val (.int v3), .val (.int v5), .val (.int v7), .val (.int v9), .val (.ref b12), .val (.int v54), .val (.int v58), .val (.int v80), .unset] [(.int v1), (.int ((v84 + v87) + v90))])) _
    refine XS.iconst X89'.here hx rfl (hb hby at_210) ?_
    show Steps p.tables e below (T89.setTop (mkF m 211 #[.val (.int p0), .val (.int p1), .val (.int p2), .val (.int p3), .val (.int p4), .val (.int p5), .val (.int v1), .val (.int v3), .val (.int v5), .val (.int v7), .val (.int v9), .val (.ref b12), .val (.int v54), .val (.int v58), .val (.int v80), .unset] [(.int (3 : Int32)), (.int v1), (.int ((v84 + v87) + v90))])) _
    refine XS.iload X89'.here hx rfl (hb hby at_211) rfl ?_
    show Steps p.tables e below (T89.setTop (mkF m 213 #[.val (.int p0), .val (.int p1), .val (.int p2), .val (.int p3), .val (.int p4), .val (.int p5), .val (.int v1), .val (.int v3), .val (.int v5), .val (.int v7), .val (.int v9), .val (.ref b12), .val (.int v54), .val (.int v58), .val (.int v80), .unset] [(.int v9), (.int (3 : Int32)), (.int v1), (.int ((v84 + v87) + v90))])) _
    refine XS.iload X89'.here hx rfl (hb hby at_213) rfl ?_
    exact k
  obtain ⟨_, _, ⟨T92, L92, k92, n92⟩, -, X92, ⟨Lc92, hQ92, l92, y92, z92⟩, st92⟩ := Jvm.LawKit.callS X89' hx (y := (⟨"com/example/tame_markup/tamemarkup/document/AttributeListIndexPastPinLaw", "below", "(IIII)I"⟩ : MethodName)) hown (mvT hZ (hw _ (List.mem_of_getElem? (i := 12) rfl))) (mvT hZ (hw _ (List.mem_of_getElem? (i := 13) rfl))) (mvT hZ (hw _ (List.mem_of_getElem? (i := 10) rfl))) (mvT hZ (hw _ (List.mem_of_getElem? (i := 14) rfl))) (by decide) (backOf (W := 1) (own_rm3 l Z a0 hw [] v1 (3 : Int32) v9 v58 h52) hZ (hw _ (List.mem_of_getElem? (i := 14) rfl)) (hw _ (List.mem_of_getElem? (i := 10) rfl)) (by decide) (by decide)) (g := (mkF m 215 #[.val (.int p0), .val (.int p1), .val (.int p2), .val (.int p3), .val (.int p4), .val (.int p5), .val (.int v1), .val (.int v3), .val (.int v5), .val (.int v7), .val (.int v9), .val (.ref b12), .val (.int v54), .val (.int v58), .val (.int v80), .unset] [(.int v58), (.int v9), (.int (3 : Int32)), (.int v1), (.int ((v84 + v87) + v90))])) rfl (by rw [hml]; rfl) (argsL := [(.int v1), (.int (3 : Int32)), (.int v9), (.int v58)]) (rest := [(.int ((v84 + v87) + v90))]) (lenOf own_pd2 rfl) rfl (by show 2 * 0 + _ ≤ _; exact Nat.le_of_eq rfl) (hb hby at_215) (fun _ _ => ⟨rfl, e89, (by decide : 1 + 0 ≤ _), (by decide : 4 + 0 ≤ _)⟩)
  dsimp only [Pt.U, Pt.locs, Pt.cells, Pt.slots] at X92 l92 y92 z92 st92 hQ92
  subst y92 z92
  obtain ⟨rfl, rfl, e92⟩ := hQ92
  have X92' : Stand p l e room_1 s m #[(.int p0), (.int p1), (.int p2), (.int p3), (.int p4), (.int p5)] below meth c T92 L52 1 4 := by rw [show L92 = L52 from by rw [l92]; first | rfl | exact List.append_nil _] at X92; exact X92
  obtain ⟨v93, hv93⟩ : ∃ z : Int32, z = (own_F3 v1 (3 : Int32) v9 v58) := ⟨_, rfl⟩
  rw [← hv93] at st92
  obtain ⟨v94, hv94⟩ : ∃ z : Int32, z = (((v84 + v87) + v90) + v93) := ⟨_, rfl⟩
  have st95 : ∀ t, Steps p.tables e below (T92.setTop (mkF m 221 #[.val (.int p0), .val (.int p1), .val (.int p2), .val (.int p3), .val (.int p4), .val (.int p5), .val (.int v1), .val (.int v3), .val (.int v5), .val (.int v7), .val (.int v9), .val (.ref b12), .val (.int v54), .val (.int v58), .val (.int v80), .val (.int v94)] [])) t → Steps p.tables e below (T92.setTop (mkF m 218 #[.val (.int p0), .val (.int p1), .val (.int p2), .val (.int p3), .val (.int p4), .val (.int p5), .val (.int v1), .val (.int v3), .val (.int v5), .val (.int v7), .val (.int v9), .val (.ref b12), .val (.int v54), .val (.int v58), .val (.int v80), .unset] [(.int v93), (.int ((v84 + v87) + v90))])) t := by
    rw [hv94]
    intro t k
    show Steps p.tables e below (T92.setTop (mkF m 218 #[.val (.int p0), .val (.int p1), .val (.int p2), .val (.int p3), .val (.int p4), .val (.int p5), .val (.int v1), .val (.int v3), .val (.int v5), .val (.int v7), .val (.int v9), .val (.ref b12), .val (.int v54), .val (.int v58), .val (.int v80), .unset] [(.int v93), (.int ((v84 + v87) + v90))])) _
    refine XS.iadd X92'.here hx rfl (hb hby at_218) rfl ?_
    show Steps p.tables e below (T92.setTop (mkF m 219 #[.val (.int p0), .val (.int p1), .val (.int p2), .val (.int p3), .val (.int p4), .val (.int p5), .val (.int v1), .val (.int v3), .val (.int v5), .val (.int v7), .val (.int v9), .val (.ref b12), .val (.int v54), .val (.int v58), .val (.int v80), .unset] [(.int (((v84 + v87) + v90) + v93))])) _
    refine XS.istore X92'.here hx rfl (hb hby at_219) rfl (l' := #[.val (.int p0), .val (.int p1), .val (.int p2), .val (.int p3), .val (.int p4), .val (.int p5), .val (.int v1), .val (.int v3), .val (.int v5), .val (.int v7), .val (.int v9), .val (.ref b12), .val (.int v54), .val (.int v58), .val (.int v80), .val (.int (((v84 + v87) + v90) + v93))]) rfl ?_
    exact k
  have st96 : ∀ t, Steps p.tables e below (T92.setTop (mkF m 223 #[.val (.int p0), .val (.int p1), .val (.int p2), .val (.int p3), .val (.int p4), .val (.int p5), .val (.int v1), .val (.int v3), .val (.int v5), .val (.int v7), .val (.int v9), .val (.ref b12), .val (.int v54), .val (.int v58), .val (.int v80), .val (.int v94)] [(.int v58)])) t → Steps p.tables e below (T92.setTop (mkF m 221 #[.val (.int p0), .val (.int p1), .val (.int p2), .val (.int p3), .val (.int p4), .val (.int p5), .val (.int v1), .val (.int v3), .val (.int v5), .val (.int v7), .val (.int v9), .val (.ref b12), .val (.int v54), .val (.int v58), .val (.int v80), .val (.int v94)] [])) t := by
    intro t k
    show Steps p.tables e below (T92.setTop (mkF m 221 #[.val (.int p0), .val (.int p1), .val (.int p2), .val (.int p3), .val (.int p4), .val (.int p5), .val (.int v1), .val (.int v3), .val (.int v5), .val (.int v7), .val (.int v9), .val (.ref b12), .val (.int v54), .val (.int v58), .val (.int v80), .val (.int v94)] [])) _
    refine XS.iload X92'.here hx rfl (hb hby at_221) rfl ?_
    exact k
  refine own_End.go (fun t k => st2 _ (st4 _ (st6 _ (st8 _ (st10 _ (st11 _ (st12 _ (st14 _ (st22 _ (st24 _ (st32 _ (st34 _ (st42 _ (st44 _ (st52 _ (st55 _ (st56 _ (st57 _ (st59 _ (st60 _ (st81 _ (st82 _ (st83 _ (st85 _ (st86 _ (st88 _ (st89 _ (st91 _ (st92 _ (st95 _ (st96 _ k))))))))))))))))))))))))))))))) ?_
  by_cases hc223_97 : v58 < (0 : Int32)
  · have st98 : ∀ t, Steps p.tables e below (T92.setTop (mkF m 246 #[.val (.int p0), .val (.int p1), .val (.int p2), .val (.int p3), .val (.int p4), .val (.int p5), .val (.int v1), .val (.int v3), .val (.int v5), .val (.int v7), .val (.int v9), .val (.ref b12), .val (.int v54), .val (.int v58), .val (.int v80), .val (.int v94)] [(.int (0 : Int32))])) t → Steps p.tables e below (T92.setTop (mkF m 223 #[.val (.int p0), .val (.int p1), .val (.int p2), .val (.int p3), .val (.int p4), .val (.int p5), .val (.int v1), .val (.int v3), .val (.int v5), .val (.int v7), .val (.int v9), .val (.ref b12), .val (.int v54), .val (.int v58), .val (.int v80), .val (.int v94)] [(.int v58)])) t := by
      intro t k
      show Steps p.tables e below (T92.setTop (mkF m 223 #[.val (.int p0), .val (.int p1), .val (.int p2), .val (.int p3), .val (.int p4), .val (.int p5), .val (.int v1), .val (.int v3), .val (.int v5), .val (.int v7), .val (.int v9), .val (.ref b12), .val (.int v54), .val (.int v58), .val (.int v80), .val (.int v94)] [(.int v58)])) _
      refine XS.ifYes X92'.here hx rfl (pc0 := 223) (pc' := 245) rfl (hb hby at_223) rfl ((if0 _ _).trans (tlt hc223_97).1) (by decide) (by decide) ?_
      show Steps p.tables e below (T92.setTop (mkF m 245 #[.val (.int p0), .val (.int p1), .val (.int p2), .val (.int p3), .val (.int p4), .val (.int p5), .val (.int v1), .val (.int v3), .val (.int v5), .val (.int v7), .val (.int v9), .val (.ref b12), .val (.int v54), .val (.int v58), .val (.int v80), .val (.int v94)] [])) _
      refine XS.iconst X92'.here hx rfl (hb hby at_245) ?_
      exact k
    refine own_End.go (fun t k => st98 _ k) ?_
    exact own_leafN X92' hx Bd.notSynchronized (t := .boolean) Bd.returns (by simp) (hb hby at_246) ⟨congrArg (fun z => some (Value.int z)) (own_e0_99 hv1 hv3 hv5 hv7 hv9 hv21 hv31 hv41 hv51 hv54 hv58 hv61 hv80 hv84 hv87 hv90 hv93 hv94 hc223_97), N52⟩ (by decide) (by decide)
  · have st100 : ∀ t, Steps p.tables e below (T92.setTop (mkF m 228 #[.val (.int p0), .val (.int p1), .val (.int p2), .val (.int p3), .val (.int p4), .val (.int p5), .val (.int v1), .val (.int v3), .val (.int v5), .val (.int v7), .val (.int v9), .val (.ref b12), .val (.int v54), .val (.int v58), .val (.int v80), .val (.int v94)] [(.int v80)])) t → Steps p.tables e below (T92.setTop (mkF m 223 #[.val (.int p0), .val (.int p1), .val (.int p2), .val (.int p3), .val (.int p4), .val (.int p5), .val (.int v1), .val (.int v3), .val (.int v5), .val (.int v7), .val (.int v9), .val (.ref b12), .val (.int v54), .val (.int v58), .val (.int v80), .val (.int v94)] [(.int v58)])) t := by
      intro t k
      show Steps p.tables e below (T92.setTop (mkF m 223 #[.val (.int p0), .val (.int p1), .val (.int p2), .val (.int p3), .val (.int p4), .val (.int p5), .val (.int v1), .val (.int v3), .val (.int v5), .val (.int v7), .val (.int v9), .val (.ref b12), .val (.int v54), .val (.int v58), .val (.int v80), .val (.int v94)] [(.int v58)])) _
      refine XS.ifNo X92'.here hx rfl (hb hby at_223) rfl ((if0 _ _).trans (flt hc223_97).1) ?_
      show Steps p.tables e below (T92.setTop (mkF m 226 #[.val (.int p0), .val (.int p1), .val (.int p2), .val (.int p3), .val (.int p4), .val (.int p5), .val (.int v1), .val (.int v3), .val (.int v5), .val (.int v7), .val (.int v9), .val (.ref b12), .val (.int v54), .val (.int v58), .val (.int v80), .val (.int v94)] [])) _
      refine XS.iload X92'.here hx rfl (hb hby at_226) rfl ?_
      exact k
    refine own_End.go (fun t k => st100 _ k) ?_
    by_cases hc228_101 : v80 = (0 : Int32)
    · have st102 : ∀ t, Steps p.tables e below (T92.setTop (mkF m 238 #[.val (.int p0), .val (.int p1), .val (.int p2), .val (.int p3), .val (.int p4), .val (.int p5), .val (.int v1), .val (.int v3), .val (.int v5), .val (.int v7), .val (.int v9), .val (.ref b12), .val (.int v54), .val (.int v58), .val (.int v80), .val (.int v94)] [(.int v54), (.int (v58 - v94))])) t → Steps p.tables e below (T92.setTop (mkF m 228 #[.val (.int p0), .val (.int p1), .val (.int p2), .val (.int p3), .val (.int p4), .val (.int p5), .val (.int v1), .val (.int v3), .val (.int v5), .val (.int v7), .val (.int v9), .val (.ref b12), .val (.int v54), .val (.int v58), .val (.int v80), .val (.int v94)] [(.int v80)])) t := by
        intro t k
        show Steps p.tables e below (T92.setTop (mkF m 228 #[.val (.int p0), .val (.int p1), .val (.int p2), .val (.int p3), .val (.int p4), .val (.int p5), .val (.int v1), .val (.int v3), .val (.int v5), .val (.int v7), .val (.int v9), .val (.ref b12), .val (.int v54), .val (.int v58), .val (.int v80), .val (.int v94)] [(.int v80)])) _
        refine XS.ifNo X92'.here hx rfl (hb hby at_228) rfl ((if0 _ _).trans (teq hc228_101).2) ?_
        show Steps p.tables e below (T92.setTop (mkF m 231 #[.val (.int p0), .val (.int p1), .val (.int p2), .val (.int p3), .val (.int p4), .val (.int p5), .val (.int v1), .val (.int v3), .val (.int v5), .val (.int v7), .val (.int v9), .val (.ref b12), .val (.int v54), .val (.int v58), .val (.int v80), .val (.int v94)] [])) _
        refine XS.iload X92'.here hx rfl (hb hby at_231) rfl ?_
        show Steps p.tables e below (T92.setTop (mkF m 233 #[.val (.int p0), .val (.int p1), .val (.int p2), .val (.int p3), .val (.int p4), .val (.int p5), .val (.int v1), .val (.int v3), .val (.int v5), .val (.int v7), .val (.int v9), .val (.ref b12), .val (.int v54), .val (.int v58), .val (.int v80), .val (.int v94)] [(.int v58)])) _
        refine XS.iload X92'.here hx rfl (hb hby at_233) rfl ?_
        show Steps p.tables e below (T92.setTop (mkF m 235 #[.val (.int p0), .val (.int p1), .val (.int p2), .val (.int p3), .val (.int p4), .val (.int p5), .val (.int v1), .val (.int v3), .val (.int v5), .val (.int v7), .val (.int v9), .val (.ref b12), .val (.int v54), .val (.int v58), .val (.int v80), .val (.int v94)] [(.int v94), (.int v58)])) _
        refine XS.isub X92'.here hx rfl (hb hby at_235) rfl ?_
        show Steps p.tables e below (T92.setTop (mkF m 236 #[.val (.int p0), .val (.int p1), .val (.int p2), .val (.int p3), .val (.int p4), .val (.int p5), .val (.int v1), .val (.int v3), .val (.int v5), .val (.int v7), .val (.int v9), .val (.ref b12), .val (.int v54), .val (.int v58), .val (.int v80), .val (.int v94)] [(.int (v58 - v94))])) _
        refine XS.iload X92'.here hx rfl (hb hby at_236) rfl ?_
        exact k
      refine own_End.go (fun t k => st102 _ k) ?_
      by_cases hc238_103 : (v58 - v94) = v54
      · have st104 : ∀ t, Steps p.tables e below (T92.setTop (mkF m 246 #[.val (.int p0), .val (.int p1), .val (.int p2), .val (.int p3), .val (.int p4), .val (.int p5), .val (.int v1), .val (.int v3), .val (.int v5), .val (.int v7), .val (.int v9), .val (.ref b12), .val (.int v54), .val (.int v58), .val (.int v80), .val (.int v94)] [(.int (1 : Int32))])) t → Steps p.tables e below (T92.setTop (mkF m 238 #[.val (.int p0), .val (.int p1), .val (.int p2), .val (.int p3), .val (.int p4), .val (.int p5), .val (.int v1), .val (.int v3), .val (.int v5), .val (.int v7), .val (.int v9), .val (.ref b12), .val (.int v54), .val (.int v58), .val (.int v80), .val (.int v94)] [(.int v54), (.int (v58 - v94))])) t := by
          intro t k
          show Steps p.tables e below (T92.setTop (mkF m 238 #[.val (.int p0), .val (.int p1), .val (.int p2), .val (.int p3), .val (.int p4), .val (.int p5), .val (.int v1), .val (.int v3), .val (.int v5), .val (.int v7), .val (.int v9), .val (.ref b12), .val (.int v54), .val (.int v58), .val (.int v80), .val (.int v94)] [(.int v54), (.int (v58 - v94))])) _
          refine XS.icmpNo X92'.here hx rfl (hb hby at_238) rfl (teq hc238_103).2 ?_
          show Steps p.tables e below (T92.setTop (mkF m 241 #[.val (.int p0), .val (.int p1), .val (.int p2), .val (.int p3), .val (.int p4), .val (.int p5), .val (.int v1), .val (.int v3), .val (.int v5), .val (.int v7), .val (.int v9), .val (.ref b12), .val (.int v54), .val (.int v58), .val (.int v80), .val (.int v94)] [])) _
          refine XS.iconst X92'.here hx rfl (hb hby at_241) ?_
          show Steps p.tables e below (T92.setTop (mkF m 242 #[.val (.int p0), .val (.int p1), .val (.int p2), .val (.int p3), .val (.int p4), .val (.int p5), .val (.int v1), .val (.int v3), .val (.int v5), .val (.int v7), .val (.int v9), .val (.ref b12), .val (.int v54), .val (.int v58), .val (.int v80), .val (.int v94)] [(.int (1 : Int32))])) _
          refine XS.goto X92'.here hx rfl (pc0 := 242) (pc' := 246) rfl (hb hby at_242) (by decide) (by decide) ?_
          exact k
        refine own_End.go (fun t k => st104 _ k) ?_
        exact own_leafN X92' hx Bd.notSynchronized (t := .boolean) Bd.returns (by simp) (hb hby at_246) ⟨congrArg (fun z => some (Value.int z)) (own_e0_105 hv1 hv3 hv5 hv7 hv9 hv21 hv31 hv41 hv51 hv54 hv58 hv61 hv80 hv84 hv87 hv90 hv93 hv94 hc223_97 hc228_101 hc238_103), N52⟩ (by decide) (by decide)
      · have st106 : ∀ t, Steps p.tables e below (T92.setTop (mkF m 246 #[.val (.int p0), .val (.int p1), .val (.int p2), .val (.int p3), .val (.int p4), .val (.int p5), .val (.int v1), .val (.int v3), .val (.int v5), .val (.int v7), .val (.int v9), .val (.ref b12), .val (.int v54), .val (.int v58), .val (.int v80), .val (.int v94)] [(.int (0 : Int32))])) t → Steps p.tables e below (T92.setTop (mkF m 238 #[.val (.int p0), .val (.int p1), .val (.int p2), .val (.int p3), .val (.int p4), .val (.int p5), .val (.int v1), .val (.int v3), .val (.int v5), .val (.int v7), .val (.int v9), .val (.ref b12), .val (.int v54), .val (.int v58), .val (.int v80), .val (.int v94)] [(.int v54), (.int (v58 - v94))])) t := by
          intro t k
          show Steps p.tables e below (T92.setTop (mkF m 238 #[.val (.int p0), .val (.int p1), .val (.int p2), .val (.int p3), .val (.int p4), .val (.int p5), .val (.int v1), .val (.int v3), .val (.int v5), .val (.int v7), .val (.int v9), .val (.ref b12), .val (.int v54), .val (.int v58), .val (.int v80), .val (.int v94)] [(.int v54), (.int (v58 - v94))])) _
          refine XS.icmpYes X92'.here hx rfl (pc0 := 238) (pc' := 245) rfl (hb hby at_238) rfl (feq hc238_103).2 (by decide) (by decide) ?_
          show Steps p.tables e below (T92.setTop (mkF m 245 #[.val (.int p0), .val (.int p1), .val (.int p2), .val (.int p3), .val (.int p4), .val (.int p5), .val (.int v1), .val (.int v3), .val (.int v5), .val (.int v7), .val (.int v9), .val (.ref b12), .val (.int v54), .val (.int v58), .val (.int v80), .val (.int v94)] [])) _
          refine XS.iconst X92'.here hx rfl (hb hby at_245) ?_
          exact k
        refine own_End.go (fun t k => st106 _ k) ?_
        exact own_leafN X92' hx Bd.notSynchronized (t := .boolean) Bd.returns (by simp) (hb hby at_246) ⟨congrArg (fun z => some (Value.int z)) (own_e0_107 hv1 hv3 hv5 hv7 hv9 hv21 hv31 hv41 hv51 hv54 hv58 hv61 hv80 hv84 hv87 hv90 hv93 hv94 hc223_97 hc228_101 hc238_103), N52⟩ (by decide) (by decide)
    · have st108 : ∀ t, Steps p.tables e below (T92.setTop (mkF m 246 #[.val (.int p0), .val (.int p1), .val (.int p2), .val (.int p3), .val (.int p4), .val (.int p5), .val (.int v1), .val (.int v3), .val (.int v5), .val (.int v7), .val (.int v9), .val (.ref b12), .val (.int v54), .val (.int v58), .val (.int v80), .val (.int v94)] [(.int (0 : Int32))])) t → Steps p.tables e below (T92.setTop (mkF m 228 #[.val (.int p0), .val (.int p1), .val (.int p2), .val (.int p3), .val (.int p4), .val (.int p5), .val (.int v1), .val (.int v3), .val (.int v5), .val (.int v7), .val (.int v9), .val (.ref b12), .val (.int v54), .val (.int v58), .val (.int v80), .val (.int v94)] [(.int v80)])) t := by
        intro t k
        show Steps p.tables e below (T92.setTop (mkF m 228 #[.val (.int p0), .val (.int p1), .val (.int p2), .val (.int p3), .val (.int p4), .val (.int p5), .val (.int v1), .val (.int v3), .val (.int v5), .val (.int v7), .val (.int v9), .val (.ref b12), .val (.int v54), .val (.int v58), .val (.int v80), .val (.int v94)] [(.int v80)])) _
        refine XS.ifYes X92'.here hx rfl (pc0 := 228) (pc' := 245) rfl (hb hby at_228) rfl ((if0 _ _).trans (feq hc228_101).2) (by decide) (by decide) ?_
        show Steps p.tables e below (T92.setTop (mkF m 245 #[.val (.int p0), .val (.int p1), .val (.int p2), .val (.int p3), .val (.int p4), .val (.int p5), .val (.int v1), .val (.int v3), .val (.int v5), .val (.int v7), .val (.int v9), .val (.ref b12), .val (.int v54), .val (.int v58), .val (.int v80), .val (.int v94)] [])) _
        refine XS.iconst X92'.here hx rfl (hb hby at_245) ?_
        exact k
      refine own_End.go (fun t k => st108 _ k) ?_
      exact own_leafN X92' hx Bd.notSynchronized (t := .boolean) Bd.returns (by simp) (hb hby at_246) ⟨congrArg (fun z => some (Value.int z)) (own_e0_109 hv1 hv3 hv5 hv7 hv9 hv21 hv31 hv41 hv51 hv54 hv58 hv61 hv80 hv84 hv87 hv90 hv93 hv94 hc223_97 hc228_101), N52⟩ (by decide) (by decide)
theorem own_up (p : Int32) (L : List Int32) (fuel : Nat) {lo hi m m' : Int32} (h : lo < hi) (hm : (((lo + hi).toUInt32 >>> ((1 : Int32) &&& 31).toUInt32).toInt32) = m) (m1 : m + 1 = m') : own_P1_5_0 p L (fuel + 1) lo hi = if p < (List.getD L m.toInt.toNat 0) - m then own_P1_5_0 p L fuel lo m else own_P1_5_0 p L fuel m' hi := by
  subst hm m1
  simp only [own_P1_5_0, if_pos h]
theorem own_end (p : Int32) (L : List Int32) (fuel : Nat) {lo hi : Int32} (h : ¬ lo < hi) : own_P1_5_0 p L (fuel + 1) lo hi = p + lo := by
  simp only [own_P1_5_0, if_neg h]
theorem own_s0 (p : Int32) : own_F1 p [] = p + 0 := by
  show own_P1_5_0 p [] (0 + 1) 0 0 = _
  exact own_end p [] 0 (by decide)
theorem own_s1 (p a : Int32) : own_F1 p [a] = if p < a - 0 then p + 0 else p + 1 := by
  show own_P1_5_0 p [a] (1 + 1) 0 1 = _
  rw [own_up p [a] 1 (m := 0) (m' := 1) (by decide) (by decide) (by decide), own_end p [a] 0 (by decide), own_end p [a] 0 (by decide)]
  rfl
theorem own_s2 (p a b : Int32) : own_F1 p [a, b] = if p < b - 1 then (if p < a - 0 then p + 0 else p + 1) else p + 2 := by
  show own_P1_5_0 p [a, b] (2 + 1) 0 2 = _
  rw [own_up p [a, b] 2 (m := 1) (m' := 2) (by decide) (by decide) (by decide), own_up p [a, b] 1 (lo := 0) (hi := 1) (m := 0) (m' := 1) (by decide) (by decide) (by decide), own_end p [a, b] 1 (lo := 2) (hi := 2) (by decide), own_end p [a, b] 0 (lo := 0) (hi := 0) (by decide), own_end p [a, b] 0 (lo := 1) (hi := 1) (by decide)]
  rfl
theorem own_s3 (p a b c : Int32) : own_F1 p [a, b, c] = if p < b - 1 then (if p < a - 0 then p + 0 else p + 1) else (if p < c - 2 then p + 2 else p + 3) := by
  show own_P1_5_0 p [a, b, c] (3 + 1) 0 3 = _
  rw [own_up p [a, b, c] 3 (m := 1) (m' := 2) (by decide) (by decide) (by decide), own_up p [a, b, c] 2 (lo := 0) (hi := 1) (m := 0) (m' := 1) (by decide) (by decide) (by decide), own_up p [a, b, c] 2 (lo := 2) (hi := 3) (m := 2) (m' := 3) (by decide) (by decide) (by decide), own_end p [a, b, c] 1 (lo := 0) (hi := 0) (by decide), own_end p [a, b, c] 1 (lo := 1) (hi := 1) (by decide), own_end p [a, b, c] 1 (lo := 2) (hi := 2) (by decide), own_end p [a, b, c] 1 (lo := 3) (hi := 3) (by decide)]
  rfl
theorem own_s4 (p a b c d : Int32) : own_F1 p [a, b, c, d] = if p < c - 2 then (if p < b - 1 then (if p < a - 0 then p + 0 else p + 1) else p + 2) else (if p < d - 3 then p + 3 else p + 4) := by
  show own_P1_5_0 p [a, b, c, d] (4 + 1) 0 4 = _
  rw [own_up p [a, b, c, d] 4 (m := 2) (m' := 3) (by decide) (by decide) (by decide), own_up p [a, b, c, d] 3 (lo := 0) (hi := 2) (m := 1) (m' := 2) (by decide) (by decide) (by decide), own_up p [a, b, c, d] 3 (lo := 3) (hi := 4) (m := 3) (m' := 4) (by decide) (by decide) (by decide),
    own_up p [a, b, c, d] 2 (lo := 0) (hi := 1) (m := 0) (m' := 1) (by decide) (by decide) (by decide), own_end p [a, b, c, d] 2 (lo := 2) (hi := 2) (by decide), own_end p [a, b, c, d] 2 (lo := 3) (hi := 3) (by decide), own_end p [a, b, c, d] 2 (lo := 4) (hi := 4) (by decide), own_end p [a, b, c, d] 1 (lo := 0) (hi := 0) (by decide), own_end p [a, b, c, d] 1 (lo := 1) (hi := 1) (by decide)]
  rfl
def own_L (n a b c d : Int32) : List Int32 :=
  let v21 : List Int32 := (if (0 : Int32) < n then (List.set (List.replicate n.toInt.toNat (0 : Int32)) ((0 : Int32)).toInt.toNat a) else (List.replicate n.toInt.toNat (0 : Int32)))
  let v31 : List Int32 := (if (1 : Int32) < n then (List.set v21 ((1 : Int32)).toInt.toNat b) else v21)
  let v41 : List Int32 := (if (2 : Int32) < n then (List.set v31 ((2 : Int32)).toInt.toNat c) else v31)
  (if (3 : Int32) < n then (List.set v41 ((3 : Int32)).toInt.toNat d) else v41)
theorem own_L0 (a b c d : Int32) : own_L 0 a b c d = [] := by simp [own_L]
theorem own_L1 (a b c d : Int32) : own_L 1 a b c d = [a] := rfl
theorem own_L2 (a b c d : Int32) : own_L 2 a b c d = [a, b] := rfl
theorem own_L3 (a b c d : Int32) : own_L 3 a b c d = [a, b, c] := rfl
theorem own_L4 (a b c d : Int32) : own_L 4 a b c d = [a, b, c, d] := rfl
def own_H (n a b c d p r : Int32) : Int32 :=
  let u : Int32 := (if (own_F2 n (0 : Int32) a r) = (0 : Int32) then (if (own_F2 n (1 : Int32) b r) = (0 : Int32) then (if (own_F2 n (2 : Int32) c r) = (0 : Int32) then (if (own_F2 n (3 : Int32) d r) = (0 : Int32) then (0 : Int32) else (1 : Int32)) else (1 : Int32)) else (1 : Int32)) else (1 : Int32))
  if r < (0 : Int32) then (0 : Int32)
  else if u = (0 : Int32) then
    if (r - (((own_F3 n (0 : Int32) a r + own_F3 n (1 : Int32) b r) + own_F3 n (2 : Int32) c r) + own_F3 n (3 : Int32) d r)) = p then (1 : Int32) else (0 : Int32)
  else (0 : Int32)
theorem own_lo {n k x r : Int32} (hk : k < n) (h : x < r) : own_F2 n k x r = 0 ∧ own_F3 n k x r = 1 := by
  have : ¬ x = r := fun e => by rw [e] at h; exact Int32.lt_irrefl h
  simp only [own_F2, own_F3, if_pos hk, if_pos h, if_neg this]; exact ⟨trivial, trivial⟩
theorem own_hi {n k x r : Int32} (hk : k < n) (h : r < x) : own_F2 n k x r = 0 ∧ own_F3 n k x r = 0 := by
  have h1 : ¬ x = r := fun e => by rw [e] at h; exact Int32.lt_irrefl h
  have h2 : ¬ x < r := fun e => Int32.lt_irrefl (Int32.lt_trans h e)
  simp only [own_F2, own_F3, if_pos hk, if_neg h2, if_neg h1]; exact ⟨trivial, trivial⟩
theorem own_no {n k x r : Int32} (hk : ¬ k < n) : own_F2 n k x r = 0 ∧ own_F3 n k x r = 0 := by
  simp only [own_F2, own_F3, if_neg hk]; exact ⟨trivial, trivial⟩
theorem own_core {n a b c d p r j c0 c1 c2 c3 : Int32} (h0 : own_F2 n 0 a r = 0 ∧ own_F3 n 0 a r = c0) (h1 : own_F2 n 1 b r = 0 ∧ own_F3 n 1 b r = c1) (h2 : own_F2 n 2 c r = 0 ∧ own_F3 n 2 c r = c2) (h3 : own_F2 n 3 d r = 0 ∧ own_F3 n 3 d r = c3) (hs : ((c0 + c1) + c2) + c3 = j) (hr : r = p + j) (hn : ¬ r < 0) : own_H n a b c d p r = 1 := by
  have e : r - j = p := by rw [hr, Int32.add_sub_cancel]
  unfold own_H
  simp only [h0.1, h1.1, h2.1, h3.1, h0.2, h1.2, h2.2, h3.2, hs, if_true, if_neg hn, if_pos e]
theorem own_law {n a b c d p : Int32} (hn : n = 0 ∨ n = 1 ∨ n = 2 ∨ n = 3 ∨ n = 4) (ea : 0 ≤ a.toInt ∧ a.toInt < 268435456) (eb : a.toInt < b.toInt ∧ b.toInt < 536870912) (ec : b.toInt < c.toInt ∧ c.toInt < 805306368) (ed : c.toInt < d.toInt ∧ d.toInt < 1073741824) (ep : 0 ≤ p.toInt ∧ p.toInt < 1073741824) : own_H n a b c d p (own_F1 p (own_L n a b c d)) = 1 := by
  have z0 : (0 : Int32).toInt = 0 := by decide
  have z1 : (1 : Int32).toInt = 1 := by decide
  have z2 : (2 : Int32).toInt = 2 := by decide
  have z3 : (3 : Int32).toInt = 3 := by decide
  have z4 : (4 : Int32).toInt = 4 := by decide
  have ad (j : Int32) (hj : 0 ≤ j.toInt ∧ j.toInt ≤ 4) : (p + j).toInt = p.toInt + j.toInt := by
    have := c_iadd p j; have := rng32 (p + j); omega
  have sb (x j : Int32) (hx : 0 ≤ x.toInt) (hj : 0 ≤ j.toInt ∧ j.toInt ≤ 4) : (x - j).toInt = x.toInt - j.toInt := by
    have := c_isub x j; have := rng32 (x - j); have := rng32 x; omega
  have t0 := ad 0 (by decide); have t1 := ad 1 (by decide); have t2 := ad 2 (by decide); have t3 := ad 3 (by decide); have t4 := ad 4 (by decide)
  have w0 := sb a 0 (by omega) (by decide); have w1 := sb b 1 (by omega) (by decide); have w2 := sb c 2 (by omega) (by decide); have w3 := sb d 3 (by omega) (by decide)
  clear ad sb
  rcases hn with rfl | rfl | rfl | rfl | rfl
  · rw [own_L0, own_s0]
    exact own_core (j := 0) (own_no (by decide)) (own_no (by decide)) (own_no (by decide)) (own_no (by decide)) (by decide) rfl (by rw [Int32.lt_iff_toInt_lt]; omega)
  · rw [own_L1, own_s1]
    by_cases h1 : p < a - 0
    · rw [if_pos h1]
      rw [Int32.lt_iff_toInt_lt] at h1
      exact own_core (j := 0) (own_hi (by decide) (by rw [Int32.lt_iff_toInt_lt]; omega)) (own_no (by decide)) (own_no (by decide)) (own_no (by decide)) (by decide) rfl (by rw [Int32.lt_iff_toInt_lt]; omega)
    · rw [if_neg h1]
      rw [Int32.lt_iff_toInt_lt] at h1
      exact own_core (j := 1) (own_lo (by decide) (by rw [Int32.lt_iff_toInt_lt]; omega)) (own_no (by decide)) (own_no (by decide)) (own_no (by decide)) (by decide) rfl (by rw [Int32.lt_iff_toInt_lt]; omega)
  · rw [own_L2, own_s2]
    by_cases h2 : p < b - 1
    · rw [if_pos h2]
      rw [Int32.lt_iff_toInt_lt] at h2
      by_cases h3 : p < a - 0
      · rw [if_pos h3]
        rw [Int32.lt_iff_toInt_lt] at h3
        exact own_core (j := 0) (own_hi (by decide) (by rw [Int32.lt_iff_toInt_lt]; omega)) (own_hi (by decide) (by rw [Int32.lt_iff_toInt_lt]; omega)) (own_no (by decide)) (own_no (by decide)) (by decide) rfl (by rw [Int32.lt_iff_toInt_lt]; omega)
      · rw [if_neg h3]
        rw [Int32.lt_iff_toInt_lt] at h3
        exact own_core (j := 1) (own_lo (by decide) (by rw [Int32.lt_iff_toInt_lt]; omega)) (own_hi (by decide) (by rw [Int32.lt_iff_toInt_lt]; omega)) (own_no (by decide)) (own_no (by decide)) (by decide) rfl (by rw [Int32.lt_iff_toInt_lt]; omega)
    · rw [if_neg h2]
      rw [Int32.lt_iff_toInt_lt] at h2
      exact own_core (j := 2) (own_lo (by decide) (by rw [Int32.lt_iff_toInt_lt]; omega)) (own_lo (by decide) (by rw [Int32.lt_iff_toInt_lt]; omega)) (own_no (by decide)) (own_no (by decide)) (by decide) rfl (by rw [Int32.lt_iff_toInt_lt]; omega)
  · rw [own_L3, own_s3]
    by_cases h4 : p < b - 1
    · rw [if_pos h4]
      rw [Int32.lt_iff_toInt_lt] at h4
      by_cases h5 : p < a - 0
      · rw [if_pos h5]
        rw [Int32.lt_iff_toInt_lt] at h5
        exact own_core (j := 0) (own_hi (by decide) (by rw [Int32.lt_iff_toInt_lt]; omega)) (own_hi (by decide) (by rw [Int32.lt_iff_toInt_lt]; omega)) (own_hi (by decide) (by rw [Int32.lt_iff_toInt_lt]; omega)) (own_no (by decide)) (by decide) rfl (by rw [Int32.lt_iff_toInt_lt]; omega)
      · rw [if_neg h5]
        rw [Int32.lt_iff_toInt_lt] at h5
        exact own_core (j := 1) (own_lo (by decide) (by rw [Int32.lt_iff_toInt_lt]; omega)) (own_hi (by decide) (by rw [Int32.lt_iff_toInt_lt]; omega)) (own_hi (by decide) (by rw [Int32.lt_iff_toInt_lt]; omega)) (own_no (by decide)) (by decide) rfl (by rw [Int32.lt_iff_toInt_lt]; omega)
    · rw [if_neg h4]
      rw [Int32.lt_iff_toInt_lt] at h4
      by_cases h6 : p < c - 2
      · rw [if_pos h6]
        rw [Int32.lt_iff_toInt_lt] at h6
        exact own_core (j := 2) (own_lo (by decide) (by rw [Int32.lt_iff_toInt_lt]; omega)) (own_lo (by decide) (by rw [Int32.lt_iff_toInt_lt]; omega)) (own_hi (by decide) (by rw [Int32.lt_iff_toInt_lt]; omega)) (own_no (by decide)) (by decide) rfl (by rw [Int32.lt_iff_toInt_lt]; omega)
      · rw [if_neg h6]
        rw [Int32.lt_iff_toInt_lt] at h6
        exact own_core (j := 3) (own_lo (by decide) (by rw [Int32.lt_iff_toInt_lt]; omega)) (own_lo (by decide) (by rw [Int32.lt_iff_toInt_lt]; omega)) (own_lo (by decide) (by rw [Int32.lt_iff_toInt_lt]; omega)) (own_no (by decide)) (by decide) rfl (by rw [Int32.lt_iff_toInt_lt]; omega)
  · rw [own_L4, own_s4]
    by_cases h7 : p < c - 2
    · rw [if_pos h7]
      rw [Int32.lt_iff_toInt_lt] at h7
      by_cases h8 : p < b - 1
      · rw [if_pos h8]
        rw [Int32.lt_iff_toInt_lt] at h8
        by_cases h9 : p < a - 0
        · rw [if_pos h9]
          rw [Int32.lt_iff_toInt_lt] at h9
          exact own_core (j := 0) (own_hi (by decide) (by rw [Int32.lt_iff_toInt_lt]; omega)) (own_hi (by decide) (by rw [Int32.lt_iff_toInt_lt]; omega)) (own_hi (by decide) (by rw [Int32.lt_iff_toInt_lt]; omega)) (own_hi (by decide) (by rw [Int32.lt_iff_toInt_lt]; omega)) (by decide) rfl (by rw [Int32.lt_iff_toInt_lt]; omega)
        · rw [if_neg h9]
          rw [Int32.lt_iff_toInt_lt] at h9
          exact own_core (j := 1) (own_lo (by decide) (by rw [Int32.lt_iff_toInt_lt]; omega)) (own_hi (by decide) (by rw [Int32.lt_iff_toInt_lt]; omega)) (own_hi (by decide) (by rw [Int32.lt_iff_toInt_lt]; omega)) (own_hi (by decide) (by rw [Int32.lt_iff_toInt_lt]; omega)) (by decide) rfl (by rw [Int32.lt_iff_toInt_lt]; omega)
      · rw [if_neg h8]
        rw [Int32.lt_iff_toInt_lt] at h8
        exact own_core (j := 2) (own_lo (by decide) (by rw [Int32.lt_iff_toInt_lt]; omega)) (own_lo (by decide) (by rw [Int32.lt_iff_toInt_lt]; omega)) (own_hi (by decide) (by rw [Int32.lt_iff_toInt_lt]; omega)) (own_hi (by decide) (by rw [Int32.lt_iff_toInt_lt]; omega)) (by decide) rfl (by rw [Int32.lt_iff_toInt_lt]; omega)
    · rw [if_neg h7]
      rw [Int32.lt_iff_toInt_lt] at h7
      by_cases h10 : p < d - 3
      · rw [if_pos h10]
        rw [Int32.lt_iff_toInt_lt] at h10
        exact own_core (j := 3) (own_lo (by decide) (by rw [Int32.lt_iff_toInt_lt]; omega)) (own_lo (by decide) (by rw [Int32.lt_iff_toInt_lt]; omega)) (own_lo (by decide) (by rw [Int32.lt_iff_toInt_lt]; omega)) (own_hi (by decide) (by rw [Int32.lt_iff_toInt_lt]; omega)) (by decide) rfl (by rw [Int32.lt_iff_toInt_lt]; omega)
      · rw [if_neg h10]
        rw [Int32.lt_iff_toInt_lt] at h10
        exact own_core (j := 4) (own_lo (by decide) (by rw [Int32.lt_iff_toInt_lt]; omega)) (own_lo (by decide) (by rw [Int32.lt_iff_toInt_lt]; omega)) (own_lo (by decide) (by rw [Int32.lt_iff_toInt_lt]; omega)) (own_lo (by decide) (by rw [Int32.lt_iff_toInt_lt]; omega)) (by decide) rfl (by rw [Int32.lt_iff_toInt_lt]; omega)
theorem own_plain (p0 p1 p2 p3 p4 p5 : Int32) : own_F0 p0 p1 p2 p3 p4 p5 = 1 := by
  have m28 (x : Int32) : (x &&& (268435455 : Int32)).toInt = x.toInt % (2 ^ 28 : Nat) := c_mask x 268435455 28 (by decide) (by decide)
  have m30 : (p5 &&& (1073741823 : Int32)).toInt = p5.toInt % (2 ^ 30 : Nat) := c_mask p5 1073741823 30 (by decide) (by decide)
  have up (x y : Int32) (B : Int) (hB : B ≤ 1073741824) (hx : 0 ≤ x.toInt ∧ x.toInt < B) : x.toInt < ((x + (1 : Int32)) + (y &&& (268435455 : Int32))).toInt ∧ ((x + (1 : Int32)) + (y &&& (268435455 : Int32))).toInt < B + 268435456 := by
    have g := m28 y
    have z1 : (1 : Int32).toInt = 1 := by decide
    have q1 := c_iadd x 1; have q2 := c_iadd (x + 1) (y &&& (268435455 : Int32)); have q3 := rng32 (x + 1); have q4 := rng32 ((x + 1) + (y &&& (268435455 : Int32)))
    omega
  show own_H _ _ _ _ _ _ _ = 1
  have g1 := m28 p1
  have ea : 0 ≤ (p1 &&& (268435455 : Int32)).toInt ∧ (p1 &&& (268435455 : Int32)).toInt < 268435456 := by omega
  have eb := up _ p2 _ (by decide) ea
  have ec := up _ p3 _ (by decide) ⟨by omega, eb.2⟩
  have ed := up _ p4 _ (by decide) ⟨by omega, ec.2⟩
  refine own_law ?_ ea ⟨eb.1, by omega⟩ ⟨ec.1, by omega⟩ ⟨ed.1, by omega⟩ (by omega)
  obtain ⟨n, hn⟩ : ∃ z : Int32, z = ((p0 &&& (2147483647 : Int32)) - ((p0 &&& (2147483647 : Int32)) / (5 : Int32)) * (5 : Int32)) := ⟨_, rfl⟩
  have hb := own_len5 hn
  rw [← hn]
  rcases (by omega : n.toInt = 0 ∨ n.toInt = 1 ∨ n.toInt = 2 ∨ n.toInt = 3 ∨ n.toInt = 4) with h | h | h | h | h
  · exact Or.inl (Int32.toInt_inj.mp h)
  · exact Or.inr (Or.inl (Int32.toInt_inj.mp h))
  · exact Or.inr (Or.inr (Or.inl (Int32.toInt_inj.mp h)))
  · exact Or.inr (Or.inr (Or.inr (Or.inl (Int32.toInt_inj.mp h))))
  · exact Or.inr (Or.inr (Or.inr (Or.inr (Int32.toInt_inj.mp h))))

set_option maxRecDepth 65536 in
set_option maxHeartbeats 40000000 in
theorem comes_1 {Post : Tables → Env → Array Value → State → Outcome → State → Prop} (hpost : ∀ tb e args s v u, (limb_1_1.after args s (.returned v) u = true ∧ limb_1_2.after args s (.returned v) u = true ∧ True) → FrameEnd s (.returned v) u (Jvm.fieldLocs frame_1_writes args s ++ Jvm.arrayLocs frame_1_arrays args s ++ Jvm.staticLocs frame_1_statics s) 16 128 → Post tb e args s (.returned v) u) :
    ArmFor flags0 classFile x code maxLocals ret World_1 tables_1 room_1 Calls_1 rest_1 Pre_1 Post := by
  intro l hfl _ _ p e ha hc hk s m args below hf hA hF happ hP
  obtain ⟨hcalls, hrest, hpre⟩ := hP
  obtain ⟨-, -, -, hnamed, -, -, -, hat⟩ := (Spec.applies_iff hf).mp happ
  obtain ⟨hg, hn⟩ := and_e (Cond.before_iff.mp (show (Jvm.Cond.and given_1 narrow_1).before args s = true from hpre))
  obtain ⟨g1, g2⟩ := and_e hg
  obtain ⟨ga0, gb0⟩ := and_e g2
  obtain ⟨ga1, gb1⟩ := and_e gb0
  obtain ⟨ga2, gb2⟩ := and_e gb1
  obtain ⟨ga3, gb3⟩ := and_e gb2
  obtain ⟨ga4, gb4⟩ := and_e gb3
  obtain ⟨w0, w1, w2, w3, w4, w5, rfl⟩ : ∃ w0 w1 w2 w3 w4 w5 : Value, args = #[w0, w1, w2, w3, w4, w5] := by
    have hs : args.size = 6 := by simpa [Cond.value, given_1] using g1
    obtain ⟨L⟩ := args
    match L, hs with
    | [w0, w1, w2, w3, w4, w5], _ => exact ⟨w0, w1, w2, w3, w4, w5, rfl⟩
  have hw := fun d (hd : d ∈ tables_1) => atoms_spec (ws := Jvm.Cond.code x code maxLocals ret :: tables_1) hat d (List.mem_cons_of_mem _ hd)
  obtain ⟨i0, ei0⟩ := is_v ga0
  obtain rfl : w0 = (.int i0) := Option.some.inj ei0
  obtain ⟨i1, ei1⟩ := is_v ga1
  obtain rfl : w1 = (.int i1) := Option.some.inj ei1
  obtain ⟨i2, ei2⟩ := is_v ga2
  obtain rfl : w2 = (.int i2) := Option.some.inj ei2
  obtain ⟨i3, ei3⟩ := is_v ga3
  obtain rfl : w3 = (.int i3) := Option.some.inj ei3
  obtain ⟨i4, ei4⟩ := is_v ga4
  obtain rfl : w4 = (.int i4) := Option.some.inj ei4
  obtain ⟨i5, ei5⟩ := is_v gb4
  obtain rfl : w5 = (.int i5) := Option.some.inj ei5
  obtain ⟨n, o, h1, h2, h3, _, L, rfl, ⟨hv, N⟩, hq⟩ := own_rm0 l s _ hw tables_1 i0 i1 i2 i3 i4 i5 s.heap s.heap.size (Nat.le_refl _) p e ha hc hk s m _ below hf ((Spec.applies_iff_loose hf).mp happ).1 ⟨rfl, State.Warmed39.refl s, rfl⟩ trivial
  rw [own_plain i0 i1 i2 i3 i4 i5] at hv
  subst hv
  refine ⟨n, _, h1, h2, h3, hpost _ _ _ _ _ _ ⟨Cond.after_iff.mpr rfl, Cond.after_iff.mpr (eq_i res_at (Term.int_eval (1)) rfl), trivial⟩ ⟨hq.1, hq.2.1, (hq.2.2.sift fun y hy => Or.inr (N y hy)).mono (by decide) (by decide)⟩⟩
theorem main_1_1 : Claimed_1_1 := comes_1 fun _ _ _ _ _ _ h hF => ⟨h.1, hF⟩
theorem main_1_2 : Claimed_1_2 := comes_1 fun _ _ _ _ _ _ h hF => ⟨h.2.1, hF⟩
end Jvm.Pilot.@@N@@
namespace Jvm.Pilot.@@N@@
open Jvm Jvm.ClassFile Sem Op Lib Jvm.Free Jvm.Stand Jvm.Pilot.@@N@@.Jvm.D
/-! MADE BY PROGRAM (witnessworld.py) out of the Statement's table words and the real class files: 16 classes; the members and pool entries that the words name. The judged class is class 1, her method 3. -/
namespace start1
open Jvm.ClassFile
def u (s : String) : CpInfo := .utf8 (stringToUtf16 s)
/-- a pool by its gaps: so many unusable entries, then the entry; so many at the end -/
def gap : Nat → List CpInfo → List CpInfo
  | 0, r => r
  | n + 1, r => .unusable :: gap n r
def poolList (es : List (Nat × CpInfo)) (last : Nat) : List CpInfo := es.foldr (fun e r => gap e.1 (e.2 :: r)) (gap last [])
def pool (es : List (Nat × CpInfo)) (last : Nat) : Array CpInfo := ⟨poolList es last⟩
def fileOf (pool : Array CpInfo) (this : Nat) (attrs : Array Attribute := #[]) (ms : Array MethodInfo := #[]) (fl : Nat := 33) (sup : Nat := 0) (ifs : Array Nat := #[]) (fds : Array FieldInfo := #[]) : ClassFile where
  minorVersion := 0
  majorVersion := 65
  constantPool := pool
  accessFlags := fl
  thisClass := this
  superClass := sup
  interfaces := ifs
  fields := fds
  methods := ms
  attributes := attrs
def plain (name : String) (sup : Option ClassId) : Class where
  name := name
  kind := .ordinary
  loader := none
  accessFlags := 33
  super := sup
  interfaces := #[]
  cf := none
  fields := #[]
  methods := #[]
  instanceTypes := #[]
  staticTypes := #[]
  resolved := #[]
  callSites := []
  init := .initialized
  statics := none
  mirror := none

def pool0 : Array CpInfo := pool [(5, u "<init>"), (0, u "()V"), (1, .class_ 10), (1, u "java/lang/Object")] 113

def k0m0 : Method := { name := "<init>", desc := "()V", sig := { parameters := [], returnType := none }, accessFlags := 1, code := none }
/-- java/lang/Object -/
def k0 : Class := { plain "java/lang/Object" none with
  accessFlags := 33
  interfaces := #[]
  cf := some (fileOf pool0 8 #[] #[{ accessFlags := 1, nameIndex := 5, descriptorIndex := 6, attributes := #[] }] 33 0 #[] #[])
  fields := #[]
  methods := #[k0m0]
  instanceTypes := #[]
  staticTypes := #[]
  resolved := Array.replicate 124 none
  statics := none }

def pool1 : Array CpInfo := pool [(2, .class_ 4), (1, u "java/lang/Object"), (0, u "<init>"), (0, u "()V"), (0, .integer 2147483647), (0, .integer 268435455), (0, .integer 1073741823), (0, .methodref 11 12), (0, .class_ 13), (0, .nameAndType 14 15), (0, u "com/example/tame_markup/tamemarkup/document/AttributeList"), (0, u "indexPast"), (0, u "([II)I"), (0, .methodref 17 18), (0, .class_ 19), (0, .nameAndType 20 21), (0, u "com/example/tame_markup/tamemarkup/document/AttributeListIndexPastPinLaw"), (0, u "hit"), (0, u "(IIII)Z"), (0, .methodref 17 23), (0, .nameAndType 24 25), (0, u "below"), (0, u "(IIII)I"), (3, u "law"), (0, u "(IIIIII)Z")] 4

def k1m0 : Method := { name := "<init>", desc := "()V", sig := { parameters := [], returnType := none }, accessFlags := 2, code := none }
def k1c1 : Code := { maxStack := 2, maxLocals := 4, code := method_2_code, exceptionTable := #[], attributes := #[] }
def k1m1 : Method := { name := "below", desc := "(IIII)I", sig := { parameters := [.int, .int, .int, .int], returnType := some .int }, accessFlags := 10, code := some k1c1 }
def k1c2 : Code := { maxStack := 2, maxLocals := 4, code := method_3_code, exceptionTable := #[], attributes := #[] }
def k1m2 : Method := { name := "hit", desc := "(IIII)Z", sig := { parameters := [.int, .int, .int, .int], returnType := some .boolean }, accessFlags := 10, code := some k1c2 }
def k1c3 : Code := { maxStack := 5, maxLocals := 16, code := code, exceptionTable := #[], attributes := #[] }
def k1m3 : Method := { name := "law", desc := "(IIIIII)Z", sig := { parameters := [.int, .int, .int, .int, .int, .int], returnType := some .boolean }, accessFlags := 9, code := some k1c3 }
/-- com/example/tame_markup/tamemarkup/document/AttributeListIndexPastPinLaw -/
def k1 : Class := { plain "com/example/tame_markup/tamemarkup/document/AttributeListIndexPastPinLaw" (some 0) with
  accessFlags := 49
  interfaces := #[]
  cf := some (fileOf pool1 17 #[] #[{ accessFlags := 2, nameIndex := 5, descriptorIndex := 6, attributes := #[] }, { accessFlags := 10, nameIndex := 24, descriptorIndex := 25, attributes := #[] }, { accessFlags := 10, nameIndex := 20, descriptorIndex := 21, attributes := #[] }, { accessFlags := 9, nameIndex := 29, descriptorIndex := 30, attributes := #[] }] 49 2 #[] #[])
  fields := #[]
  methods := #[k1m0, k1m1, k1m2, k1m3]
  instanceTypes := #[]
  staticTypes := #[]
  resolved := Array.replicate 35 none
  statics := none }

def pool2 : Array CpInfo := pool [(8, .class_ 10), (1, u "java/lang/Iterable"), (24, .class_ 36), (0, u "java/lang/Object")] 25

/-- java/lang/Iterable -/
def k2 : Class := { plain "java/lang/Iterable" (some 0) with
  accessFlags := 1537
  interfaces := #[]
  cf := some (fileOf pool2 8 #[] #[] 1537 35 #[] #[])
  fields := #[]
  methods := #[]
  instanceTypes := #[]
  staticTypes := #[]
  resolved := Array.replicate 62 none
  statics := none }

def pool3 : Array CpInfo := pool [(10, .class_ 12), (1, u "java/util/Collection"), (47, .class_ 61), (0, u "java/lang/Object"), (0, .class_ 63), (0, u "java/lang/Iterable")] 51

/-- java/util/Collection -/
def k3 : Class := { plain "java/util/Collection" (some 0) with
  accessFlags := 1537
  interfaces := #[2]
  cf := some (fileOf pool3 10 #[] #[] 1537 60 #[62] #[])
  fields := #[]
  methods := #[]
  instanceTypes := #[]
  staticTypes := #[]
  resolved := Array.replicate 115 none
  statics := none }

def pool4 : Array CpInfo := pool [(2, .class_ 4), (1, u "java/lang/Object"), (0, u "<init>"), (0, u "()V"), (1, .class_ 10), (1, u "java/util/AbstractCollection"), (66, .class_ 78), (0, u "java/util/Collection")] 81

def k4m0 : Method := { name := "<init>", desc := "()V", sig := { parameters := [], returnType := none }, accessFlags := 4, code := none }
/-- java/util/AbstractCollection -/
def k4 : Class := { plain "java/util/AbstractCollection" (some 0) with
  accessFlags := 1057
  interfaces := #[3]
  cf := some (fileOf pool4 8 #[] #[{ accessFlags := 4, nameIndex := 5, descriptorIndex := 6, attributes := #[] }] 1057 2 #[77] #[])
  fields := #[]
  methods := #[k4m0]
  instanceTypes := #[]
  staticTypes := #[]
  resolved := Array.replicate 160 none
  statics := none }

def pool5 : Array CpInfo := pool [(8, .class_ 10), (1, u "java/util/SequencedCollection"), (15, .class_ 27), (0, u "java/lang/Object"), (0, .class_ 29), (0, u "java/util/Collection")] 27

/-- java/util/SequencedCollection -/
def k5 : Class := { plain "java/util/SequencedCollection" (some 0) with
  accessFlags := 1537
  interfaces := #[3]
  cf := some (fileOf pool5 8 #[] #[] 1537 26 #[28] #[])
  fields := #[]
  methods := #[]
  instanceTypes := #[]
  staticTypes := #[]
  resolved := Array.replicate 57 none
  statics := none }

def pool6 : Array CpInfo := pool [(8, .class_ 10), (1, u "java/util/List"), (92, .class_ 104), (0, u "java/lang/Object"), (15, .class_ 121), (0, u "java/util/SequencedCollection")] 129

/-- java/util/List -/
def k6 : Class := { plain "java/util/List" (some 0) with
  accessFlags := 1537
  interfaces := #[5]
  cf := some (fileOf pool6 8 #[] #[] 1537 103 #[120] #[])
  fields := #[]
  methods := #[]
  instanceTypes := #[]
  staticTypes := #[]
  resolved := Array.replicate 251 none
  statics := none }

def pool7 : Array CpInfo := pool [(2, .class_ 4), (1, u "java/util/AbstractCollection"), (0, u "<init>"), (0, u "()V"), (1, .class_ 10), (1, u "java/util/AbstractList"), (0, u "modCount"), (0, u "I"), (64, .class_ 78), (0, u "java/util/AbstractList$Itr"), (3, .class_ 83), (0, u "java/util/AbstractList$ListItr"), (9, .class_ 94), (0, u "java/util/AbstractList$RandomAccessSubList"), (3, .class_ 99), (0, u "java/util/AbstractList$SubList"), (33, .class_ 134), (0, u "java/util/List"), (73, .class_ 209), (0, u "java/util/AbstractList$SubList$1"), (0, .class_ 211), (0, u "java/util/AbstractList$RandomAccessSpliterator")] 6

def k7m0 : Method := { name := "<init>", desc := "()V", sig := { parameters := [], returnType := none }, accessFlags := 4, code := none }
/-- java/util/AbstractList -/
def k7 : Class := { plain "java/util/AbstractList" (some 4) with
  accessFlags := 1057
  interfaces := #[6]
  cf := some (fileOf pool7 8 #[.nestMembers #[93, 98, 208, 210, 82, 77]] #[{ accessFlags := 4, nameIndex := 5, descriptorIndex := 6, attributes := #[] }] 1057 2 #[133] #[{ accessFlags := 132, nameIndex := 11, descriptorIndex := 12, attributes := #[] }])
  fields := #[{ name := "modCount", type := .int, accessFlags := 132, slot := 0, constantValue := 0 }]
  methods := #[k7m0]
  instanceTypes := #[.int]
  staticTypes := #[]
  resolved := Array.replicate 218 none
  statics := none }

def pool8 : Array CpInfo := pool [(1, .class_ 2), (0, u "java/util/RandomAccess"), (0, .class_ 4), (0, u "java/lang/Object")] 2

/-- java/util/RandomAccess -/
def k8 : Class := { plain "java/util/RandomAccess" (some 0) with
  accessFlags := 1537
  interfaces := #[]
  cf := some (fileOf pool8 1 #[] #[] 1537 3 #[] #[])
  fields := #[]
  methods := #[]
  instanceTypes := #[]
  staticTypes := #[]
  resolved := Array.replicate 7 none
  statics := none }

def pool9 : Array CpInfo := pool [(2, .class_ 4), (1, u "java/util/AbstractList"), (3, .class_ 10), (1, u "com/example/tame_markup/tamemarkup/document/AttributeList"), (0, u "own"), (0, u "Ljava/util/List;"), (2, u "defaults"), (2, u "carried"), (0, u "[I"), (4, u "size"), (3, u "I"), (43, u "indexPast"), (0, u "([II)I"), (3, .class_ 78), (0, u "java/util/RandomAccess")] 28

def k9c0 : Code := { maxStack := 2, maxLocals := 5, code := prog_16_method_5_code, exceptionTable := #[], attributes := #[] }
def k9m0 : Method := { name := "indexPast", desc := "([II)I", sig := { parameters := [(.array .int), .int], returnType := some .int }, accessFlags := 8, code := some k9c0 }
/-- com/example/tame_markup/tamemarkup/document/AttributeList -/
def k9 : Class := { plain "com/example/tame_markup/tamemarkup/document/AttributeList" (some 7) with
  accessFlags := 33
  interfaces := #[8]
  cf := some (fileOf pool9 8 #[] #[{ accessFlags := 8, nameIndex := 72, descriptorIndex := 73, attributes := #[] }] 33 2 #[77] #[{ accessFlags := 18, nameIndex := 11, descriptorIndex := 12, attributes := #[] }, { accessFlags := 18, nameIndex := 15, descriptorIndex := 12, attributes := #[] }, { accessFlags := 18, nameIndex := 18, descriptorIndex := 19, attributes := #[] }, { accessFlags := 18, nameIndex := 24, descriptorIndex := 28, attributes := #[] }])
  fields := #[{ name := "own", type := (.object "java/util/List"), accessFlags := 18, slot := 1, constantValue := 0 }, { name := "defaults", type := (.object "java/util/List"), accessFlags := 18, slot := 2, constantValue := 0 }, { name := "carried", type := (.array .int), accessFlags := 18, slot := 3, constantValue := 0 }, { name := "size", type := .int, accessFlags := 18, slot := 4, constantValue := 0 }]
  methods := #[k9m0]
  instanceTypes := #[.int, (.object "java/util/List"), (.object "java/util/List"), (.array .int), .int]
  staticTypes := #[]
  resolved := Array.replicate 107 none
  statics := none }

def pool10 : Array CpInfo := pool [(1, u "java/lang/Cloneable"), (0, .class_ 1), (0, u "java/lang/Object"), (0, .class_ 3)] 3

/-- java/lang/Cloneable -/
def k10 : Class := { plain "java/lang/Cloneable" (some 0) with
  accessFlags := 1537
  interfaces := #[]
  cf := some (fileOf pool10 2 #[] #[] 1537 4 #[] #[])
  fields := #[]
  methods := #[]
  instanceTypes := #[]
  staticTypes := #[]
  resolved := Array.replicate 8 none
  statics := none }

def pool11 : Array CpInfo := pool [(1, u "java/io/Serializable"), (0, .class_ 1), (0, u "java/lang/Object"), (0, .class_ 3)] 3

/-- java/io/Serializable -/
def k11 : Class := { plain "java/io/Serializable" (some 0) with
  accessFlags := 1537
  interfaces := #[]
  cf := some (fileOf pool11 2 #[] #[] 1537 4 #[] #[])
  fields := #[]
  methods := #[]
  instanceTypes := #[]
  staticTypes := #[]
  resolved := Array.replicate 8 none
  statics := none }

/-- the primitive byte -/
def k12 : Class := { plain "byte" none with kind := .primitive 'B', accessFlags := 0x411 }
/-- [B -/
def k13 : Class := { plain "[B" (some 0) with kind := .array 12 .byte, interfaces := #[10, 11], accessFlags := 1041 }

/-- the primitive int -/
def k14 : Class := { plain "int" none with kind := .primitive 'I', accessFlags := 0x411 }
/-- [I -/
def k15 : Class := { plain "[I" (some 0) with kind := .array 14 .int, interfaces := #[10, 11], accessFlags := 1041 }

def heap : Heap := #[]
def classes : Array Class := #[k0, k1, k2, k3, k4, k5, k6, k7, k8, k9, k10, k11, k12, k13, k14, k15]
def interned : List (Array UInt16 × Addr) := []
def slotsUsed : Nat := 0
def theMethod : MethodId := ⟨1, 3⟩
def args0 : Array Value := #[.int 5, .int 5, .int 5, .int 5, .int 5, .int 5]
def aboutOver (below : List Frame) : State where
  vm := { classes := classes, interned := interned.toArray }
  heap := heap
  slotsUsed := slotsUsed
  threads := #[{ frames := .invoking theMethod args0 :: below }]
def below0 : List Frame := [.native { method := ⟨0, 0⟩, args := #[] }]
def about1 : State := aboutOver below0
def p0 : Program := .bare "" "" ""
def e0 : Env := launch0.env 0 0 0
theorem w_frames : about1.frames = Frame.invoking theMethod args0 :: below0 := rfl
set_option maxRecDepth 65536 in
theorem w_args : argsFit about1.vm theMethod args0 = true := by decide +kernel
set_option maxRecDepth 65536 in
theorem w_heap : heapFits about1 = true := by decide +kernel
set_option maxRecDepth 65536 in
theorem w_runnable : about1.curStatus? = some .runnable := by decide +kernel
set_option maxRecDepth 65536 in
theorem w_alone : about1.alone = true := by decide +kernel
set_option maxRecDepth 65536 in
theorem w_named : about1.methodNamed? x = some theMethod := by decide +kernel
set_option maxRecDepth 65536 in
theorem w_hears : about1.hears theMethod below0 = true := by decide +kernel
set_option maxRecDepth 65536 in
theorem w_ripe : about1.ripe theMethod args0 below0 = true := by decide +kernel
theorem w_running : about1.status = .running := rfl
set_option maxRecDepth 65536 in
theorem w_room : about1.hasRoom e0.platform room_1 = true :=
  launch0.hasRoom_least _ room_1 (by decide +kernel) (by decide +kernel) (by decide +kernel) (by decide +kernel) (by decide +kernel) (by decide +kernel)
theorem allAtoms_all (ts : List Jvm.Cond) (a : Array Jvm.Value) (st : Jvm.State) : (allAtoms ts).before a st = ts.all (fun c => c.before a st) := by
  induction ts with
  | nil => rfl
  | cons c t ih =>
    show (Jvm.Cond.and c (allAtoms t)).before a st = _
    rw [Jvm.Cond.before_and, ih, List.all_cons]
def words1 : List Jvm.Cond := Jvm.Cond.code x code maxLocals ret :: tables_1
/-- a 'code' word, met by the world's own term for the bytes: nothing is compared byte by byte -/
theorem code_word {y : MethodName} {bytes : ByteArray} {mx : Nat} {rt : Option FieldType} {a : Array Value} {s : State} {m : MethodId} {meth : Method} {c : Code} (h1 : s.methodNamed? y = some m) (h2 : s.vm.method? m = some meth) (h3 : meth.code = some c) (h4 : c.code = bytes)
    (h5 : (c.maxLocals == mx && c.exceptionTable.isEmpty && decide (c.maxStack ≤ mostOperands) && decide (meth.sig.returnType = rt) && !meth.locks && decide (parseMethodDescriptor y.desc = some meth.sig)) = true) : (Jvm.Cond.code y bytes mx rt).before a s = true := by
  simp only [Bool.and_eq_true, beq_iff_eq, Bool.not_eq_true', decide_eq_true_eq] at h5
  obtain ⟨⟨⟨⟨⟨g1, g2⟩, g3⟩, g4⟩, g5⟩, g6⟩ := h5
  simp [Cond.before, Cond.holds, Cond.value, h1, h2, h3, h4, g1, g2, g3, g4, g5, g6]
def isCode : Jvm.Cond → Bool
  | .code _ _ _ _ => true
  | _ => false
theorem all_split {L : List Jvm.Cond} {P : Jvm.Cond → Bool} (h1 : L.all (fun c => isCode c || P c) = true) (h2 : ∀ c ∈ L.filter isCode, P c = true) : L.all P = true := by
  refine List.all_eq_true.mpr fun c hc => ?_
  have h := List.all_eq_true.mp h1 c hc
  rcases Bool.eq_false_or_eq_true (isCode c) with hi | hi
  · exact h2 c (List.mem_filter.mpr ⟨hc, hi⟩)
  · simpa [hi] using h
set_option maxRecDepth 65536 in
theorem w_c0 : (Jvm.Cond.code x code maxLocals ret).before args0 about1 = true := code_word (m := ⟨1, 3⟩) (meth := k1m3) (c := k1c3) (by decide +kernel) rfl rfl rfl (by decide +kernel)
set_option maxRecDepth 65536 in
theorem w_c1 : (Jvm.Cond.code ({ cls := "com/example/tame_markup/tamemarkup/document/AttributeList", name := "indexPast", desc := "([II)I" } : Jvm.MethodName) prog_16_method_5_code (5 : Nat) (Option.some Jvm.ClassFile.FieldType.int)).before args0 about1 = true := code_word (m := ⟨9, 0⟩) (meth := k9m0) (c := k9c0) (by decide +kernel) rfl rfl rfl (by decide +kernel)
set_option maxRecDepth 65536 in
theorem w_c2 : (Jvm.Cond.code ({ cls := "com/example/tame_markup/tamemarkup/document/AttributeListIndexPastPinLaw", name := "hit", desc := "(IIII)Z" } : Jvm.MethodName) method_3_code (4 : Nat) (Option.some Jvm.ClassFile.FieldType.boolean)).before args0 about1 = true := code_word (m := ⟨1, 2⟩) (meth := k1m2) (c := k1c2) (by decide +kernel) rfl rfl rfl (by decide +kernel)
set_option maxRecDepth 65536 in
theorem w_c3 : (Jvm.Cond.code ({ cls := "com/example/tame_markup/tamemarkup/document/AttributeListIndexPastPinLaw", name := "below", desc := "(IIII)I" } : Jvm.MethodName) method_2_code (4 : Nat) (Option.some Jvm.ClassFile.FieldType.int)).before args0 about1 = true := code_word (m := ⟨1, 1⟩) (meth := k1m1) (c := k1c1) (by decide +kernel) rfl rfl rfl (by decide +kernel)
def codes1 : List Jvm.Cond := [Jvm.Cond.code x code maxLocals ret, Jvm.Cond.code ({ cls := "com/example/tame_markup/tamemarkup/document/AttributeList", name := "indexPast", desc := "([II)I" } : Jvm.MethodName) prog_16_method_5_code (5 : Nat) (Option.some Jvm.ClassFile.FieldType.int), Jvm.Cond.code ({ cls := "com/example/tame_markup/tamemarkup/document/AttributeListIndexPastPinLaw", name := "hit", desc := "(IIII)Z" } : Jvm.MethodName) method_3_code (4 : Nat) (Option.some Jvm.ClassFile.FieldType.boolean), Jvm.Cond.code ({ cls := "com/example/tame_markup/tamemarkup/document/AttributeListIndexPastPinLaw", name := "below", desc := "(IIII)I" } : Jvm.MethodName) method_2_code (4 : Nat) (Option.some Jvm.ClassFile.FieldType.int)]
set_option maxRecDepth 65536 in
theorem codes_eq : words1.filter isCode = codes1 := rfl
theorem w_codes : ∀ c ∈ words1.filter isCode, c.before args0 about1 = true := by
  rw [codes_eq]
  intro c hc
  simp only [codes1, List.mem_cons, List.not_mem_nil, or_false] at hc
  rcases hc with rfl | rfl | rfl | rfl
  · exact w_c0
  · exact w_c1
  · exact w_c2
  · exact w_c3
set_option maxRecDepth 65536 in
theorem w_t1 : words1.all (fun c => isCode c || c.before args0 about1) = true := by decide +kernel
theorem w_tables : (allAtoms (Jvm.Cond.code x code maxLocals ret :: tables_1)).before args0 about1 = true := by
  rw [allAtoms_all]
  show words1.all (fun c => c.before args0 about1) = true
  refine all_split ?_ w_codes
  rw [w_t1]
set_option maxRecDepth 65536 in
theorem w_case : (Jvm.Cond.and given_1 narrow_1).before args0 about1 = true := by decide +kernel
theorem w_applies : (headSpec (Jvm.Cond.code x code maxLocals ret :: tables_1) room_1).applies x e0.platform about1 = true :=
  (Spec.applies_iff w_frames).mpr ⟨w_running, w_runnable, w_alone, w_named, w_hears, w_ripe, w_room, w_tables⟩
theorem atStart : AtStart classFile x code maxLocals ret World_1 tables_1 room_1 Calls_1 rest_1 Pre_1 launch0 p0 e0 about1 theMethod args0 below0 :=
  ⟨lists_1, trivial, launch0.admits_env _ _ _, launch0.least_env, fairChoices_fair.cas, fairChoices_fair.clock, w_frames, w_args, w_heap, w_applies, trivial, trivial, w_case⟩
end start1
theorem witness_1 : WitnessClaimed_1 := ⟨start1.p0, start1.e0, start1.about1, start1.theMethod, start1.args0, start1.below0, start1.atStart⟩
end Jvm.Pilot.@@N@@
