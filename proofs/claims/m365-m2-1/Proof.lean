import JvmDerived
import JvmDerived.Pilot.@@N@@Statement
import JvmDerived.Pilot.@@N@@Code
set_option linter.unusedVariables false
set_option linter.unusedSimpArgs false
namespace Jvm.Pilot.@@N@@
open Jvm Jvm.ClassFile Sem Op Lib Jvm.Free Jvm.Stand Jvm.LawKit Jvm.RoadKit Bundle Jvm.Pilot.@@N@@.Jvm.D
section OwnKit
variable {p : Program} {l : Launch} {e : Env} {R : Room} {s : State} {m : MethodId} {args : Array Value} {below : List Frame} {meth : Method} {c : Code} {Z : State} {y : MethodName} {ret : Option FieldType} {code : ByteArray} {ml : Nat} {ws : List Addr} {T : State} {h : Heap} {cells slots : Nat} {C : Outcome → State → Prop} {a0 : Array Value}
/-- the run goes on from this frame to an end that C allows -/
def own_Go (p : Program) (e : Env) (below : List Frame) (C : Outcome → State → Prop) (T : State) (g : JFrame) : Prop :=
  ∃ u o, Steps p.tables e below (T.setTop g) u ∧ u.status = .running ∧ Ended u below o ∧ C o u
/-- what was written lies at one of ws, or is new since s -/
def own_Fw (s : State) (ws : List Addr) (L : List Loc) : Prop := ∀ y ∈ L, y.base ∈ ws ∨ s.heap.size ≤ y.base
/-- where the walk stands: what is fixed of this body; the heap h; nothing old written but at ws -/
def own_W (p : Program) (l : Launch) (e : Env) (R : Room) (s : State) (m : MethodId) (args : Array Value) (below : List Frame) (meth : Method) (c : Code) (Z : State) (y : MethodName) (ret : Option FieldType) (code : ByteArray) (ml : Nat) (ws : List Addr) (T : State) (h : Heap) (cells slots : Nat) : Prop :=
  (p.tables.exec = Jvm.exec ∧ c.code = code ∧ c.maxLocals = ml ∧ s.vm.findClass y.cls = some m.cls ∧ meth.name = y.name ∧ meth.sig.returnType = ret ∧ meth.locks = false ∧ Z.Warmed39 s.vm) ∧ ∃ locs, Stand p l e R s m args below meth c T locs cells slots ∧ T.heap = h ∧ own_Fw s ws locs
/-- what a call leaves: written at ws or new alone; all else kept; where nothing is made or written the heap itself; and Q -/
def own_Q (ws : List Addr) (rm : Room) (h0 : Heap) (Q : Option Value → Heap → Prop) (v : Option Value) (h : Heap) (L : List Loc) : Prop := (∀ y ∈ L, y.base ∈ ws ∨ h0.size ≤ y.base) ∧ Keep h0 h ws ∧ (rm.cells = 0 → ws = [] → h = h0) ∧ Q v h
/-- a body's contract: called with A at the heap h0 it returns, Q holds of what it returns and of the heap, nothing old is written but at ws -/
def own_M (l : Launch) (Z : State) (wo : List Jvm.Cond) (y : MethodName) (bytes : ByteArray) (maxL : Nat) (ret : Option FieldType) (rm : Room) (ws : List Addr) (A : Array Value) (h0 : Heap) (Q : Option Value → Heap → Prop) : Prop :=
  MetFree l y (head1 (Jvm.Cond.code y bytes maxL ret :: wo) rm) (fun a U => a = A ∧ Z.Warmed39 U.vm ∧ U.heap = h0) (fun _ _ _ _ _ => True) (fun _ U o U' => ∃ v L, o = .returned v ∧ own_Q ws rm h0 Q v U'.heap L ∧ FrameEnd U o U' L rm.cells rm.slots)
theorem own_keep {u : State} {L : List Loc} {k n : Nat} (q : s.sameButNew ({ u with vm := s.vm } : State) L k n) (F : own_Fw s ws L) : Keep s.heap u.heap ws := by
  obtain ⟨-, q2, -, -, -, q6⟩ := q
  refine ⟨q2, fun x c hx hn => ?_, fun x c hx => ?_⟩
  · obtain ⟨c', h1, h2, h3, h4⟩ := q6 x c hx
    have h5 : c'.slots = c.slots := by
      apply Array.ext_getElem?
      intro i
      refine h4 i fun hm => ?_
      rcases F _ hm with w | w
      · exact hn w
      · exact absurd (Array.getElem?_eq_some_iff.mp hx).1 (Nat.not_lt.mpr w)
    rw [h5] at h2
    rw [h2] at h1
    exact h1
  · obtain ⟨c', h1, h2, h3, h4⟩ := q6 x c hx
    exact ⟨c', h1, by rw [h2], by rw [h2], h3⟩
theorem own_same0 {u : State} {L : List Loc} {n : Nat} (q : s.sameButNew ({ u with vm := s.vm } : State) L 0 n) (K : Keep s.heap u.heap []) : u.heap = s.heap := by
  obtain ⟨-, q2, q3, -⟩ := q
  apply Array.ext_getElem?
  intro i
  rcases Nat.lt_or_ge i s.heap.size with hi | hi
  · have hs : s.heap[i]? = some s.heap[i] := Array.getElem?_eq_getElem hi
    rw [hs]
    exact K.2.1 i _ hs nin0
  · have h1 : u.heap.size ≤ i := Nat.le_trans q3 hi
    rw [Array.getElem?_eq_none hi, Array.getElem?_eq_none h1]
theorem own_st {T' : State} {g g' : JFrame} (q : ∀ t, Steps p.tables e below (T'.setTop g') t → Steps p.tables e below (T.setTop g) t) (k : own_Go p e below C T' g') : own_Go p e below C T g := by
  obtain ⟨u, o, h1, h2⟩ := k
  exact ⟨u, o, q _ h1, h2⟩
theorem own_tr {T' : State} {g g' : JFrame} (q : Steps p.tables e below (T.setTop g) (T'.setTop g')) (k : own_Go p e below C T' g') : own_Go p e below C T g := by
  obtain ⟨u, o, h1, h2⟩ := k
  exact ⟨u, o, q.trans h1, h2⟩
theorem own_body {wo : List Jvm.Cond} {maxL : Nat} {rm : Room} {A : Array Value} {h0 : Heap} {Q : Option Value → Heap → Prop} {L0 : Array Slot} (hpl : plainFor y = true) (hef : ∀ m, entryFrame m A maxL = mkF m 0 L0 [])
    (body : ∀ p e s m below meth c (C : Outcome → State → Prop) (_ : ∀ v L u, own_Fw s ws L → Q v u.heap → FrameEnd s (.returned v) u L rm.cells rm.slots → C (.returned v) u) T0,
      own_W p l e rm s m A below meth c Z y ret code maxL ws T0 h0 0 0 → own_Go p e below C T0 (mkF m 0 L0 [])) :
    own_M l Z wo y code maxL ret rm ws A h0 Q := by
  refine MetFree.of_bodySF hpl hisR ?_
  intro p e s m args below meth c s₁ Bd hml0 hP hK
  obtain ⟨rfl, hZ, rfl⟩ := hP
  have X0 : Stand p l e rm s m _ below meth c s₁ [] 0 0 := Stand.of_body Bd
  have e0 : s₁.heap = s.heap := by rw [Bd.state]; rfl
  have hlk : meth.locks = false := BodyLoose.notSynchronized Bd
  have k := body p e s m below meth c (fun o U' => ∃ v L, o = .returned v ∧ own_Q ws rm s.heap Q v U'.heap L ∧ FrameEnd s o U' L rm.cells rm.slots)
    (fun v L u h1 h2 h3 => by
      have K := own_keep h3.2.2 h1
      refine ⟨v, L, rfl, ⟨h1, K, fun hc hw => ?_, h2⟩, h3⟩
      subst hw
      have h4 := h3.2.2
      rw [hc] at h4
      exact own_same0 h4 K) s₁
    ⟨⟨Bd.exec, Bd.bytes, hml0, findClass_of_methodNamed Bd.named, (name_of_methodNamed Bd.named Bd.method).1, Bd.returns, hlk, hZ⟩, [], X0, e0, fun _ hy => nomatch hy⟩
  obtain ⟨u, o, h1, h2⟩ := k
  exact ⟨u, o, castTop (hef m) h1, h2⟩
theorem own_Fw_snoc {L : List Loc} {a : Addr} {sl : Nat} (N : own_Fw s ws L) (q : a ∈ ws ∨ s.heap.size ≤ a) : own_Fw s ws (L ++ [⟨a, sl⟩]) := fun y hy => by
  rcases List.mem_append.mp hy with w | w
  · exact N y w
  · cases List.mem_singleton.mp w; exact q
theorem own_Fw_app {L L' : List Loc} {wc' : List Addr} (N : own_Fw s ws L) (q : ∀ y ∈ L', y.base ∈ wc' ∨ h.size ≤ y.base) (r : ∀ b ∈ wc', b ∈ ws ∨ s.heap.size ≤ b) (z : s.heap.size ≤ h.size) : own_Fw s ws (L ++ L') := fun y hy => by
  rcases List.mem_append.mp hy with w | w
  · exact N y w
  · rcases q y w with u | u
    · exact r _ u
    · exact Or.inr (Nat.le_trans z u)
theorem own_le (W : own_W p l e R s m args below meth c Z y ret code ml ws T h cells slots) : s.heap.size ≤ h.size := by
  obtain ⟨-, locs, X, rfl, -⟩ := W
  exact X.same.2.1
theorem own_iadd (W : own_W p l e R s m args below meth c Z y ret code ml ws T h cells slots) {u v : Int32} {pc : Nat} (pc' : Nat) {L : Array Slot} {st : List Value} (hd : decode code pc = .ok (.iadd, 1))  (hp : pc + 1 = pc') (k : own_Go p e below C T (mkF m pc' L (.int (u + v) :: st))) : own_Go p e below C T (mkF m pc L (.int v :: .int u :: st)) := by
  have hsz := own_le W
  obtain ⟨⟨hx, hby, hml, hown, hnm, hrt, hlk, hZ⟩, locs, X, eT, N⟩ := W
  subst hp
  exact own_st (fun _ k => XS.iadd X.here hx rfl (hb hby hd) rfl k) k
theorem own_ladd (W : own_W p l e R s m args below meth c Z y ret code ml ws T h cells slots) {u v : Int64} {pc : Nat} (pc' : Nat) {L : Array Slot} {st : List Value} (hd : decode code pc = .ok (.ladd, 1))  (hp : pc + 1 = pc') (k : own_Go p e below C T (mkF m pc' L (.long (u + v) :: st))) : own_Go p e below C T (mkF m pc L (.long v :: .long u :: st)) := by
  have hsz := own_le W
  obtain ⟨⟨hx, hby, hml, hown, hnm, hrt, hlk, hZ⟩, locs, X, eT, N⟩ := W
  subst hp
  exact own_st (fun _ k => XS.ladd X.here hx rfl (hb hby hd) rfl k) k
theorem own_isub (W : own_W p l e R s m args below meth c Z y ret code ml ws T h cells slots) {u v : Int32} {pc : Nat} (pc' : Nat) {L : Array Slot} {st : List Value} (hd : decode code pc = .ok (.isub, 1))  (hp : pc + 1 = pc') (k : own_Go p e below C T (mkF m pc' L (.int (u - v) :: st))) : own_Go p e below C T (mkF m pc L (.int v :: .int u :: st)) := by
  have hsz := own_le W
  obtain ⟨⟨hx, hby, hml, hown, hnm, hrt, hlk, hZ⟩, locs, X, eT, N⟩ := W
  subst hp
  exact own_st (fun _ k => XS.isub X.here hx rfl (hb hby hd) rfl k) k
theorem own_lsub (W : own_W p l e R s m args below meth c Z y ret code ml ws T h cells slots) {u v : Int64} {pc : Nat} (pc' : Nat) {L : Array Slot} {st : List Value} (hd : decode code pc = .ok (.lsub, 1))  (hp : pc + 1 = pc') (k : own_Go p e below C T (mkF m pc' L (.long (u - v) :: st))) : own_Go p e below C T (mkF m pc L (.long v :: .long u :: st)) := by
  have hsz := own_le W
  obtain ⟨⟨hx, hby, hml, hown, hnm, hrt, hlk, hZ⟩, locs, X, eT, N⟩ := W
  subst hp
  exact own_st (fun _ k => XS.lsub X.here hx rfl (hb hby hd) rfl k) k
theorem own_imul (W : own_W p l e R s m args below meth c Z y ret code ml ws T h cells slots) {u v : Int32} {pc : Nat} (pc' : Nat) {L : Array Slot} {st : List Value} (hd : decode code pc = .ok (.imul, 1))  (hp : pc + 1 = pc') (k : own_Go p e below C T (mkF m pc' L (.int (u * v) :: st))) : own_Go p e below C T (mkF m pc L (.int v :: .int u :: st)) := by
  have hsz := own_le W
  obtain ⟨⟨hx, hby, hml, hown, hnm, hrt, hlk, hZ⟩, locs, X, eT, N⟩ := W
  subst hp
  exact own_st (fun _ k => XS.imul X.here hx rfl (hb hby hd) rfl k) k
theorem own_lmul (W : own_W p l e R s m args below meth c Z y ret code ml ws T h cells slots) {u v : Int64} {pc : Nat} (pc' : Nat) {L : Array Slot} {st : List Value} (hd : decode code pc = .ok (.lmul, 1))  (hp : pc + 1 = pc') (k : own_Go p e below C T (mkF m pc' L (.long (u * v) :: st))) : own_Go p e below C T (mkF m pc L (.long v :: .long u :: st)) := by
  have hsz := own_le W
  obtain ⟨⟨hx, hby, hml, hown, hnm, hrt, hlk, hZ⟩, locs, X, eT, N⟩ := W
  subst hp
  exact own_st (fun _ k => XS.lmul X.here hx rfl (hb hby hd) rfl k) k
theorem own_iand (W : own_W p l e R s m args below meth c Z y ret code ml ws T h cells slots) {u v : Int32} {pc : Nat} (pc' : Nat) {L : Array Slot} {st : List Value} (hd : decode code pc = .ok (.iand, 1))  (hp : pc + 1 = pc') (k : own_Go p e below C T (mkF m pc' L (.int (u &&& v) :: st))) : own_Go p e below C T (mkF m pc L (.int v :: .int u :: st)) := by
  have hsz := own_le W
  obtain ⟨⟨hx, hby, hml, hown, hnm, hrt, hlk, hZ⟩, locs, X, eT, N⟩ := W
  subst hp
  exact own_st (fun _ k => XS.iand X.here hx rfl (hb hby hd) rfl k) k
theorem own_land (W : own_W p l e R s m args below meth c Z y ret code ml ws T h cells slots) {u v : Int64} {pc : Nat} (pc' : Nat) {L : Array Slot} {st : List Value} (hd : decode code pc = .ok (.land, 1))  (hp : pc + 1 = pc') (k : own_Go p e below C T (mkF m pc' L (.long (u &&& v) :: st))) : own_Go p e below C T (mkF m pc L (.long v :: .long u :: st)) := by
  have hsz := own_le W
  obtain ⟨⟨hx, hby, hml, hown, hnm, hrt, hlk, hZ⟩, locs, X, eT, N⟩ := W
  subst hp
  exact own_st (fun _ k => XS.land X.here hx rfl (hb hby hd) rfl k) k
theorem own_ior (W : own_W p l e R s m args below meth c Z y ret code ml ws T h cells slots) {u v : Int32} {pc : Nat} (pc' : Nat) {L : Array Slot} {st : List Value} (hd : decode code pc = .ok (.ior, 1))  (hp : pc + 1 = pc') (k : own_Go p e below C T (mkF m pc' L (.int (u ||| v) :: st))) : own_Go p e below C T (mkF m pc L (.int v :: .int u :: st)) := by
  have hsz := own_le W
  obtain ⟨⟨hx, hby, hml, hown, hnm, hrt, hlk, hZ⟩, locs, X, eT, N⟩ := W
  subst hp
  exact own_st (fun _ k => XS.ior X.here hx rfl (hb hby hd) rfl k) k
theorem own_lor (W : own_W p l e R s m args below meth c Z y ret code ml ws T h cells slots) {u v : Int64} {pc : Nat} (pc' : Nat) {L : Array Slot} {st : List Value} (hd : decode code pc = .ok (.lor, 1))  (hp : pc + 1 = pc') (k : own_Go p e below C T (mkF m pc' L (.long (u ||| v) :: st))) : own_Go p e below C T (mkF m pc L (.long v :: .long u :: st)) := by
  have hsz := own_le W
  obtain ⟨⟨hx, hby, hml, hown, hnm, hrt, hlk, hZ⟩, locs, X, eT, N⟩ := W
  subst hp
  exact own_st (fun _ k => XS.lor X.here hx rfl (hb hby hd) rfl k) k
theorem own_ixor (W : own_W p l e R s m args below meth c Z y ret code ml ws T h cells slots) {u v : Int32} {pc : Nat} (pc' : Nat) {L : Array Slot} {st : List Value} (hd : decode code pc = .ok (.ixor, 1))  (hp : pc + 1 = pc') (k : own_Go p e below C T (mkF m pc' L (.int (u ^^^ v) :: st))) : own_Go p e below C T (mkF m pc L (.int v :: .int u :: st)) := by
  have hsz := own_le W
  obtain ⟨⟨hx, hby, hml, hown, hnm, hrt, hlk, hZ⟩, locs, X, eT, N⟩ := W
  subst hp
  exact own_st (fun _ k => XS.ixor X.here hx rfl (hb hby hd) rfl k) k
theorem own_lxor (W : own_W p l e R s m args below meth c Z y ret code ml ws T h cells slots) {u v : Int64} {pc : Nat} (pc' : Nat) {L : Array Slot} {st : List Value} (hd : decode code pc = .ok (.lxor, 1))  (hp : pc + 1 = pc') (k : own_Go p e below C T (mkF m pc' L (.long (u ^^^ v) :: st))) : own_Go p e below C T (mkF m pc L (.long v :: .long u :: st)) := by
  have hsz := own_le W
  obtain ⟨⟨hx, hby, hml, hown, hnm, hrt, hlk, hZ⟩, locs, X, eT, N⟩ := W
  subst hp
  exact own_st (fun _ k => XS.lxor X.here hx rfl (hb hby hd) rfl k) k
theorem own_ishl (W : own_W p l e R s m args below meth c Z y ret code ml ws T h cells slots) {u v : Int32} {pc : Nat} (pc' : Nat) {L : Array Slot} {st : List Value} (hd : decode code pc = .ok (.ishl, 1))  (hp : pc + 1 = pc') (k : own_Go p e below C T (mkF m pc' L (.int (u <<< (v &&& 31)) :: st))) : own_Go p e below C T (mkF m pc L (.int v :: .int u :: st)) := by
  have hsz := own_le W
  obtain ⟨⟨hx, hby, hml, hown, hnm, hrt, hlk, hZ⟩, locs, X, eT, N⟩ := W
  subst hp
  exact own_st (fun _ k => XS.ishl X.here hx rfl (hb hby hd) rfl k) k
theorem own_ishr (W : own_W p l e R s m args below meth c Z y ret code ml ws T h cells slots) {u v : Int32} {pc : Nat} (pc' : Nat) {L : Array Slot} {st : List Value} (hd : decode code pc = .ok (.ishr, 1))  (hp : pc + 1 = pc') (k : own_Go p e below C T (mkF m pc' L (.int (u >>> (v &&& 31)) :: st))) : own_Go p e below C T (mkF m pc L (.int v :: .int u :: st)) := by
  have hsz := own_le W
  obtain ⟨⟨hx, hby, hml, hown, hnm, hrt, hlk, hZ⟩, locs, X, eT, N⟩ := W
  subst hp
  exact own_st (fun _ k => XS.ishr X.here hx rfl (hb hby hd) rfl k) k
theorem own_iushr (W : own_W p l e R s m args below meth c Z y ret code ml ws T h cells slots) {u v : Int32} {pc : Nat} (pc' : Nat) {L : Array Slot} {st : List Value} (hd : decode code pc = .ok (.iushr, 1))  (hp : pc + 1 = pc') (k : own_Go p e below C T (mkF m pc' L (.int ((u.toUInt32 >>> (v &&& 31).toUInt32).toInt32) :: st))) : own_Go p e below C T (mkF m pc L (.int v :: .int u :: st)) := by
  have hsz := own_le W
  obtain ⟨⟨hx, hby, hml, hown, hnm, hrt, hlk, hZ⟩, locs, X, eT, N⟩ := W
  subst hp
  exact own_st (fun _ k => XS.iushr X.here hx rfl (hb hby hd) rfl k) k
theorem own_lshl (W : own_W p l e R s m args below meth c Z y ret code ml ws T h cells slots) {u : Int64} {v : Int32} {pc : Nat} (pc' : Nat) {L : Array Slot} {st : List Value} (hd : decode code pc = .ok (.lshl, 1))  (hp : pc + 1 = pc') (k : own_Go p e below C T (mkF m pc' L (.long (u <<< (v &&& 0x3f).toInt64) :: st))) : own_Go p e below C T (mkF m pc L (.int v :: .long u :: st)) := by
  have hsz := own_le W
  obtain ⟨⟨hx, hby, hml, hown, hnm, hrt, hlk, hZ⟩, locs, X, eT, N⟩ := W
  subst hp
  exact own_st (fun _ k => XS.lshl X.here hx rfl (hb hby hd) rfl k) k
theorem own_lshr (W : own_W p l e R s m args below meth c Z y ret code ml ws T h cells slots) {u : Int64} {v : Int32} {pc : Nat} (pc' : Nat) {L : Array Slot} {st : List Value} (hd : decode code pc = .ok (.lshr, 1))  (hp : pc + 1 = pc') (k : own_Go p e below C T (mkF m pc' L (.long (u >>> (v &&& 0x3f).toInt64) :: st))) : own_Go p e below C T (mkF m pc L (.int v :: .long u :: st)) := by
  have hsz := own_le W
  obtain ⟨⟨hx, hby, hml, hown, hnm, hrt, hlk, hZ⟩, locs, X, eT, N⟩ := W
  subst hp
  exact own_st (fun _ k => XS.lshr X.here hx rfl (hb hby hd) rfl k) k
theorem own_lushr (W : own_W p l e R s m args below meth c Z y ret code ml ws T h cells slots) {u : Int64} {v : Int32} {pc : Nat} (pc' : Nat) {L : Array Slot} {st : List Value} (hd : decode code pc = .ok (.lushr, 1))  (hp : pc + 1 = pc') (k : own_Go p e below C T (mkF m pc' L (.long ((u.toUInt64 >>> (v &&& 0x3f).toInt64.toUInt64).toInt64) :: st))) : own_Go p e below C T (mkF m pc L (.int v :: .long u :: st)) := by
  have hsz := own_le W
  obtain ⟨⟨hx, hby, hml, hown, hnm, hrt, hlk, hZ⟩, locs, X, eT, N⟩ := W
  subst hp
  exact own_st (fun _ k => XS.lushr X.here hx rfl (hb hby hd) rfl k) k
theorem own_ineg (W : own_W p l e R s m args below meth c Z y ret code ml ws T h cells slots) {u : Int32} {pc : Nat} (pc' : Nat) {L : Array Slot} {st : List Value} (hd : decode code pc = .ok (.ineg, 1))  (hp : pc + 1 = pc') (k : own_Go p e below C T (mkF m pc' L (.int (-u) :: st))) : own_Go p e below C T (mkF m pc L (.int u :: st)) := by
  have hsz := own_le W
  obtain ⟨⟨hx, hby, hml, hown, hnm, hrt, hlk, hZ⟩, locs, X, eT, N⟩ := W
  subst hp
  exact own_st (fun _ k => XS.ineg X.here hx rfl (hb hby hd) rfl k) k
theorem own_lneg (W : own_W p l e R s m args below meth c Z y ret code ml ws T h cells slots) {u : Int64} {pc : Nat} (pc' : Nat) {L : Array Slot} {st : List Value} (hd : decode code pc = .ok (.lneg, 1))  (hp : pc + 1 = pc') (k : own_Go p e below C T (mkF m pc' L (.long (-u) :: st))) : own_Go p e below C T (mkF m pc L (.long u :: st)) := by
  have hsz := own_le W
  obtain ⟨⟨hx, hby, hml, hown, hnm, hrt, hlk, hZ⟩, locs, X, eT, N⟩ := W
  subst hp
  exact own_st (fun _ k => XS.lneg X.here hx rfl (hb hby hd) rfl k) k
theorem own_i2l (W : own_W p l e R s m args below meth c Z y ret code ml ws T h cells slots) {u : Int32} {pc : Nat} (pc' : Nat) {L : Array Slot} {st : List Value} (hd : decode code pc = .ok (.i2l, 1))  (hp : pc + 1 = pc') (k : own_Go p e below C T (mkF m pc' L (.long u.toInt64 :: st))) : own_Go p e below C T (mkF m pc L (.int u :: st)) := by
  have hsz := own_le W
  obtain ⟨⟨hx, hby, hml, hown, hnm, hrt, hlk, hZ⟩, locs, X, eT, N⟩ := W
  subst hp
  exact own_st (fun _ k => XS.i2l X.here hx rfl (hb hby hd) rfl k) k
theorem own_l2i (W : own_W p l e R s m args below meth c Z y ret code ml ws T h cells slots) {u : Int64} {pc : Nat} (pc' : Nat) {L : Array Slot} {st : List Value} (hd : decode code pc = .ok (.l2i, 1))  (hp : pc + 1 = pc') (k : own_Go p e below C T (mkF m pc' L (.int u.toInt32 :: st))) : own_Go p e below C T (mkF m pc L (.long u :: st)) := by
  have hsz := own_le W
  obtain ⟨⟨hx, hby, hml, hown, hnm, hrt, hlk, hZ⟩, locs, X, eT, N⟩ := W
  subst hp
  exact own_st (fun _ k => XS.l2i X.here hx rfl (hb hby hd) rfl k) k
theorem own_i2b (W : own_W p l e R s m args below meth c Z y ret code ml ws T h cells slots) {u : Int32} {pc : Nat} (pc' : Nat) {L : Array Slot} {st : List Value} (hd : decode code pc = .ok (.i2b, 1))  (hp : pc + 1 = pc') (k : own_Go p e below C T (mkF m pc' L (.int u.toInt8.toInt32 :: st))) : own_Go p e below C T (mkF m pc L (.int u :: st)) := by
  have hsz := own_le W
  obtain ⟨⟨hx, hby, hml, hown, hnm, hrt, hlk, hZ⟩, locs, X, eT, N⟩ := W
  subst hp
  exact own_st (fun _ k => XS.i2b X.here hx rfl (hb hby hd) rfl k) k
theorem own_i2c (W : own_W p l e R s m args below meth c Z y ret code ml ws T h cells slots) {u : Int32} {pc : Nat} (pc' : Nat) {L : Array Slot} {st : List Value} (hd : decode code pc = .ok (.i2c, 1))  (hp : pc + 1 = pc') (k : own_Go p e below C T (mkF m pc' L (.int u.toUInt32.toUInt16.toUInt32.toInt32 :: st))) : own_Go p e below C T (mkF m pc L (.int u :: st)) := by
  have hsz := own_le W
  obtain ⟨⟨hx, hby, hml, hown, hnm, hrt, hlk, hZ⟩, locs, X, eT, N⟩ := W
  subst hp
  exact own_st (fun _ k => XS.i2c X.here hx rfl (hb hby hd) rfl k) k
theorem own_lcmp (W : own_W p l e R s m args below meth c Z y ret code ml ws T h cells slots) {u v : Int64} {pc : Nat} (pc' : Nat) {L : Array Slot} {st : List Value} (hd : decode code pc = .ok (.lcmp, 1))  (hp : pc + 1 = pc') (k : own_Go p e below C T (mkF m pc' L (.int (lcmpW u v) :: st))) : own_Go p e below C T (mkF m pc L (.long v :: .long u :: st)) := by
  have hsz := own_le W
  obtain ⟨⟨hx, hby, hml, hown, hnm, hrt, hlk, hZ⟩, locs, X, eT, N⟩ := W
  subst hp
  exact own_st (fun _ k => XS.lcmp X.here hx rfl (hb hby hd) rfl k) k
theorem own_idiv (W : own_W p l e R s m args below meth c Z y ret code ml ws T h cells slots) {u v : Int32} {pc : Nat} (pc' : Nat) {L : Array Slot} {st : List Value} (hd : decode code pc = .ok (.idiv, 1)) (hv : v ≠ 0) (hp : pc + 1 = pc') (k : own_Go p e below C T (mkF m pc' L (.int (u / v) :: st))) : own_Go p e below C T (mkF m pc L (.int v :: .int u :: st)) := by
  have hsz := own_le W
  obtain ⟨⟨hx, hby, hml, hown, hnm, hrt, hlk, hZ⟩, locs, X, eT, N⟩ := W
  subst hp
  exact own_st (fun _ k => XS.idiv X.here hx rfl (hb hby hd) rfl hv k) k
theorem own_ldiv (W : own_W p l e R s m args below meth c Z y ret code ml ws T h cells slots) {u v : Int64} {pc : Nat} (pc' : Nat) {L : Array Slot} {st : List Value} (hd : decode code pc = .ok (.ldiv, 1)) (hv : v ≠ 0) (hp : pc + 1 = pc') (k : own_Go p e below C T (mkF m pc' L (.long (u / v) :: st))) : own_Go p e below C T (mkF m pc L (.long v :: .long u :: st)) := by
  have hsz := own_le W
  obtain ⟨⟨hx, hby, hml, hown, hnm, hrt, hlk, hZ⟩, locs, X, eT, N⟩ := W
  subst hp
  exact own_st (fun _ k => XS.ldiv X.here hx rfl (hb hby hd) rfl hv k) k
theorem own_lrem (W : own_W p l e R s m args below meth c Z y ret code ml ws T h cells slots) {u v : Int64} {pc : Nat} (pc' : Nat) {L : Array Slot} {st : List Value} (hd : decode code pc = .ok (.lrem, 1)) (hv : v ≠ 0) (hp : pc + 1 = pc') (k : own_Go p e below C T (mkF m pc' L (.long (u - (u / v) * v) :: st))) : own_Go p e below C T (mkF m pc L (.long v :: .long u :: st)) := by
  have hsz := own_le W
  obtain ⟨⟨hx, hby, hml, hown, hnm, hrt, hlk, hZ⟩, locs, X, eT, N⟩ := W
  subst hp
  exact own_st (fun _ k => XS.lrem X.here hx rfl (hb hby hd) rfl hv k) k
theorem own_irem (W : own_W p l e R s m args below meth c Z y ret code ml ws T h cells slots) {u v : Int32} {pc : Nat} (pc' : Nat) {L : Array Slot} {st : List Value} (hd : decode code pc = .ok (.irem, 1)) (hv : v ≠ 0) (hp : pc + 1 = pc') (k : own_Go p e below C T (mkF m pc' L (.int (u % v) :: st))) : own_Go p e below C T (mkF m pc L (.int v :: .int u :: st)) := by
  have hsz := own_le W
  obtain ⟨⟨hx, hby, hml, hown, hnm, hrt, hlk, hZ⟩, locs, X, eT, N⟩ := W
  subst hp
  exact own_st (fun _ k => iremM X hx rfl (hb hby hd) rfl hv k) k
theorem own_iconst (W : own_W p l e R s m args below meth c Z y ret code ml ws T h cells slots) {i : Int} (v : Int32) {pc : Nat} (pc' : Nat) {L : Array Slot} {st : List Value} (hd : decode code pc = .ok (.iconst i, 1)) (hv : Int32.ofInt i = v) (hp : pc + 1 = pc') (k : own_Go p e below C T (mkF m pc' L (.int v :: st))) : own_Go p e below C T (mkF m pc L st) := by
  have hsz := own_le W
  obtain ⟨⟨hx, hby, hml, hown, hnm, hrt, hlk, hZ⟩, locs, X, eT, N⟩ := W
  subst hp hv
  exact own_st (fun _ k => XS.iconst X.here hx rfl (hb hby hd) k) k
theorem own_bipush (W : own_W p l e R s m args below meth c Z y ret code ml ws T h cells slots) {i : Int} (v : Int32) {pc : Nat} (pc' : Nat) {L : Array Slot} {st : List Value} (hd : decode code pc = .ok (.bipush i, 2)) (hv : (Int8.ofInt i).toInt32 = v) (hp : pc + 2 = pc') (k : own_Go p e below C T (mkF m pc' L (.int v :: st))) : own_Go p e below C T (mkF m pc L st) := by
  have hsz := own_le W
  obtain ⟨⟨hx, hby, hml, hown, hnm, hrt, hlk, hZ⟩, locs, X, eT, N⟩ := W
  subst hp hv
  exact own_st (fun _ k => XS.bipush X.here hx rfl (hb hby hd) k) k
theorem own_sipush (W : own_W p l e R s m args below meth c Z y ret code ml ws T h cells slots) {i : Int} (v : Int32) {pc : Nat} (pc' : Nat) {L : Array Slot} {st : List Value} (hd : decode code pc = .ok (.sipush i, 3)) (hv : (Int16.ofInt i).toInt32 = v) (hp : pc + 3 = pc') (k : own_Go p e below C T (mkF m pc' L (.int v :: st))) : own_Go p e below C T (mkF m pc L st) := by
  have hsz := own_le W
  obtain ⟨⟨hx, hby, hml, hown, hnm, hrt, hlk, hZ⟩, locs, X, eT, N⟩ := W
  subst hp hv
  exact own_st (fun _ k => XS.sipush X.here hx rfl (hb hby hd) k) k
theorem own_lconst (W : own_W p l e R s m args below meth c Z y ret code ml ws T h cells slots) {i : Fin 2} (v : Int64) {pc : Nat} (pc' : Nat) {L : Array Slot} {st : List Value} (hd : decode code pc = .ok (.lconst i, 1)) (hv : Int64.ofNat i.val = v) (hp : pc + 1 = pc') (k : own_Go p e below C T (mkF m pc' L (.long v :: st))) : own_Go p e below C T (mkF m pc L st) := by
  have hsz := own_le W
  obtain ⟨⟨hx, hby, hml, hown, hnm, hrt, hlk, hZ⟩, locs, X, eT, N⟩ := W
  subst hp hv
  exact own_st (fun _ k => XS.lconst X.here hx rfl (hb hby hd) k) k
theorem own_aconst_null (W : own_W p l e R s m args below meth c Z y ret code ml ws T h cells slots) {pc : Nat} (pc' : Nat) {L : Array Slot} {st : List Value} (hd : decode code pc = .ok (.aconst_null, 1)) (hp : pc + 1 = pc') (k : own_Go p e below C T (mkF m pc' L (.null :: st))) : own_Go p e below C T (mkF m pc L st) := by
  have hsz := own_le W
  obtain ⟨⟨hx, hby, hml, hown, hnm, hrt, hlk, hZ⟩, locs, X, eT, N⟩ := W
  subst hp
  exact own_st (fun _ k => XS.aconstNull X.here hx rfl (hb hby hd) k) k
theorem own_ldcInt (W : own_W p l e R s m args below meth c Z y ret code ml ws T h cells slots) {i : Nat} {v : Int32} {pc : Nat} (pc' : Nat) {L : Array Slot} {st : List Value} (hd : decode code pc = .ok (.ldc i, 2)) (w : (Jvm.Cond.constant y.cls i v).before a0 Z = true) (hp : pc + 2 = pc') (k : own_Go p e below C T (mkF m pc' L (.int v :: st))) : own_Go p e below C T (mkF m pc L st) := by
  have hsz := own_le W
  obtain ⟨⟨hx, hby, hml, hown, hnm, hrt, hlk, hZ⟩, locs, X, eT, N⟩ := W
  subst hp
  exact own_st (fun _ k => X.ldcInt hx hown (mvT hZ w) (g := mkF m pc L st) rfl (hb hby hd) _ k) k
theorem own_ldc2Long (W : own_W p l e R s m args below meth c Z y ret code ml ws T h cells slots) {i : Nat} {v : Int64} {pc : Nat} (pc' : Nat) {L : Array Slot} {st : List Value} (hd : decode code pc = .ok (.ldc2_w i, 3)) (w : (Jvm.Cond.constantLong y.cls i v).before a0 Z = true) (hp : pc + 3 = pc') (k : own_Go p e below C T (mkF m pc' L (.long v :: st))) : own_Go p e below C T (mkF m pc L st) := by
  have hsz := own_le W
  obtain ⟨⟨hx, hby, hml, hown, hnm, hrt, hlk, hZ⟩, locs, X, eT, N⟩ := W
  subst hp
  exact own_st (fun _ k => X.ldc2Long hx hown (mvT hZ w) (g := mkF m pc L st) rfl (hb hby hd) _ k) k
theorem own_iloadN (W : own_W p l e R s m args below meth c Z y ret code ml ws T h cells slots) {i : Fin 4} {v : Int32} {pc : Nat} (pc' : Nat) {L : Array Slot} {st : List Value} (hd : decode code pc = .ok (.iload_n i, 1)) (hl : L[i.val]? = some (.val (.int v))) (hp : pc + 1 = pc') (k : own_Go p e below C T (mkF m pc' L (.int v :: st))) : own_Go p e below C T (mkF m pc L st) := by
  have hsz := own_le W
  obtain ⟨⟨hx, hby, hml, hown, hnm, hrt, hlk, hZ⟩, locs, X, eT, N⟩ := W
  subst hp
  exact own_st (fun _ k => XS.iloadN X.here hx rfl (hb hby hd) hl k) k
theorem own_iload (W : own_W p l e R s m args below meth c Z y ret code ml ws T h cells slots) {i : Nat} {v : Int32} {pc : Nat} (pc' : Nat) {L : Array Slot} {st : List Value} (hd : decode code pc = .ok (.iload i, 2)) (hl : L[i]? = some (.val (.int v))) (hp : pc + 2 = pc') (k : own_Go p e below C T (mkF m pc' L (.int v :: st))) : own_Go p e below C T (mkF m pc L st) := by
  have hsz := own_le W
  obtain ⟨⟨hx, hby, hml, hown, hnm, hrt, hlk, hZ⟩, locs, X, eT, N⟩ := W
  subst hp
  exact own_st (fun _ k => XS.iload X.here hx rfl (hb hby hd) hl k) k
theorem own_lloadN (W : own_W p l e R s m args below meth c Z y ret code ml ws T h cells slots) {i : Fin 4} {v : Int64} {pc : Nat} (pc' : Nat) {L : Array Slot} {st : List Value} (hd : decode code pc = .ok (.lload_n i, 1)) (hl : L[i.val]? = some (.val (.long v))) (hp : pc + 1 = pc') (k : own_Go p e below C T (mkF m pc' L (.long v :: st))) : own_Go p e below C T (mkF m pc L st) := by
  have hsz := own_le W
  obtain ⟨⟨hx, hby, hml, hown, hnm, hrt, hlk, hZ⟩, locs, X, eT, N⟩ := W
  subst hp
  exact own_st (fun _ k => XS.lloadN X.here hx rfl (hb hby hd) hl k) k
theorem own_lload (W : own_W p l e R s m args below meth c Z y ret code ml ws T h cells slots) {i : Nat} {v : Int64} {pc : Nat} (pc' : Nat) {L : Array Slot} {st : List Value} (hd : decode code pc = .ok (.lload i, 2)) (hl : L[i]? = some (.val (.long v))) (hp : pc + 2 = pc') (k : own_Go p e below C T (mkF m pc' L (.long v :: st))) : own_Go p e below C T (mkF m pc L st) := by
  have hsz := own_le W
  obtain ⟨⟨hx, hby, hml, hown, hnm, hrt, hlk, hZ⟩, locs, X, eT, N⟩ := W
  subst hp
  exact own_st (fun _ k => XS.lload X.here hx rfl (hb hby hd) hl k) k
theorem own_aloadN (W : own_W p l e R s m args below meth c Z y ret code ml ws T h cells slots) {i : Fin 4} {v : Value} {pc : Nat} (pc' : Nat) {L : Array Slot} {st : List Value} (hd : decode code pc = .ok (.aload_n i, 1)) (hl : L[i.val]? = some (.val v)) (hv : v.isRef = true) (hp : pc + 1 = pc') (k : own_Go p e below C T (mkF m pc' L (v :: st))) : own_Go p e below C T (mkF m pc L st) := by
  have hsz := own_le W
  obtain ⟨⟨hx, hby, hml, hown, hnm, hrt, hlk, hZ⟩, locs, X, eT, N⟩ := W
  subst hp
  exact own_st (fun _ k => XS.aloadN X.here hx rfl (hb hby hd) hl hv k) k
theorem own_aload (W : own_W p l e R s m args below meth c Z y ret code ml ws T h cells slots) {i : Nat} {v : Value} {pc : Nat} (pc' : Nat) {L : Array Slot} {st : List Value} (hd : decode code pc = .ok (.aload i, 2)) (hl : L[i]? = some (.val v)) (hv : v.isRef = true) (hp : pc + 2 = pc') (k : own_Go p e below C T (mkF m pc' L (v :: st))) : own_Go p e below C T (mkF m pc L st) := by
  have hsz := own_le W
  obtain ⟨⟨hx, hby, hml, hown, hnm, hrt, hlk, hZ⟩, locs, X, eT, N⟩ := W
  subst hp
  exact own_st (fun _ k => XS.aload X.here hx rfl (hb hby hd) hl hv k) k
theorem own_istoreN (W : own_W p l e R s m args below meth c Z y ret code ml ws T h cells slots) {i : Fin 4} {v : Int32} {pc : Nat} (pc' : Nat) {L : Array Slot} (L' : Array Slot) {st : List Value} (hd : decode code pc = .ok (.istore_n i, 1)) (hl : storeLocals L i.val (.int v) = some L') (hp : pc + 1 = pc') (k : own_Go p e below C T (mkF m pc' L' st)) : own_Go p e below C T (mkF m pc L (.int v :: st)) := by
  have hsz := own_le W
  obtain ⟨⟨hx, hby, hml, hown, hnm, hrt, hlk, hZ⟩, locs, X, eT, N⟩ := W
  subst hp
  exact own_st (fun _ k => XS.istoreN X.here hx rfl (hb hby hd) rfl hl k) k
theorem own_istore (W : own_W p l e R s m args below meth c Z y ret code ml ws T h cells slots) {i : Nat} {v : Int32} {pc : Nat} (pc' : Nat) {L : Array Slot} (L' : Array Slot) {st : List Value} (hd : decode code pc = .ok (.istore i, 2)) (hl : storeLocals L i (.int v) = some L') (hp : pc + 2 = pc') (k : own_Go p e below C T (mkF m pc' L' st)) : own_Go p e below C T (mkF m pc L (.int v :: st)) := by
  have hsz := own_le W
  obtain ⟨⟨hx, hby, hml, hown, hnm, hrt, hlk, hZ⟩, locs, X, eT, N⟩ := W
  subst hp
  exact own_st (fun _ k => XS.istore X.here hx rfl (hb hby hd) rfl hl k) k
theorem own_lstoreN (W : own_W p l e R s m args below meth c Z y ret code ml ws T h cells slots) {i : Fin 4} {v : Int64} {pc : Nat} (pc' : Nat) {L : Array Slot} (L' : Array Slot) {st : List Value} (hd : decode code pc = .ok (.lstore_n i, 1)) (hl : storeLocals L i.val (.long v) = some L') (hp : pc + 1 = pc') (k : own_Go p e below C T (mkF m pc' L' st)) : own_Go p e below C T (mkF m pc L (.long v :: st)) := by
  have hsz := own_le W
  obtain ⟨⟨hx, hby, hml, hown, hnm, hrt, hlk, hZ⟩, locs, X, eT, N⟩ := W
  subst hp
  exact own_st (fun _ k => XS.lstoreN X.here hx rfl (hb hby hd) rfl hl k) k
theorem own_lstore (W : own_W p l e R s m args below meth c Z y ret code ml ws T h cells slots) {i : Nat} {v : Int64} {pc : Nat} (pc' : Nat) {L : Array Slot} (L' : Array Slot) {st : List Value} (hd : decode code pc = .ok (.lstore i, 2)) (hl : storeLocals L i (.long v) = some L') (hp : pc + 2 = pc') (k : own_Go p e below C T (mkF m pc' L' st)) : own_Go p e below C T (mkF m pc L (.long v :: st)) := by
  have hsz := own_le W
  obtain ⟨⟨hx, hby, hml, hown, hnm, hrt, hlk, hZ⟩, locs, X, eT, N⟩ := W
  subst hp
  exact own_st (fun _ k => XS.lstore X.here hx rfl (hb hby hd) rfl hl k) k
theorem own_astoreN (W : own_W p l e R s m args below meth c Z y ret code ml ws T h cells slots) {i : Fin 4} {v : Value} {pc : Nat} (pc' : Nat) {L : Array Slot} (L' : Array Slot) {st : List Value} (hd : decode code pc = .ok (.astore_n i, 1)) (hv : v.isRef = true) (hl : storeLocals L i.val v = some L') (hp : pc + 1 = pc') (k : own_Go p e below C T (mkF m pc' L' st)) : own_Go p e below C T (mkF m pc L (v :: st)) := by
  have hsz := own_le W
  obtain ⟨⟨hx, hby, hml, hown, hnm, hrt, hlk, hZ⟩, locs, X, eT, N⟩ := W
  subst hp
  exact own_st (fun _ k => XS.astoreN X.here hx rfl (hb hby hd) rfl hv hl k) k
theorem own_astore (W : own_W p l e R s m args below meth c Z y ret code ml ws T h cells slots) {i : Nat} {v : Value} {pc : Nat} (pc' : Nat) {L : Array Slot} (L' : Array Slot) {st : List Value} (hd : decode code pc = .ok (.astore i, 2)) (hv : v.isRef = true) (hl : storeLocals L i v = some L') (hp : pc + 2 = pc') (k : own_Go p e below C T (mkF m pc' L' st)) : own_Go p e below C T (mkF m pc L (v :: st)) := by
  have hsz := own_le W
  obtain ⟨⟨hx, hby, hml, hown, hnm, hrt, hlk, hZ⟩, locs, X, eT, N⟩ := W
  subst hp
  exact own_st (fun _ k => XS.astore X.here hx rfl (hb hby hd) rfl hv hl k) k
theorem own_iinc (W : own_W p l e R s m args below meth c Z y ret code ml ws T h cells slots) {i : Nat} {cst : Int} {v : Int32} (v' : Int32) {pc : Nat} (pc' : Nat) {L : Array Slot} (L' : Array Slot) {st : List Value} (hd : decode code pc = .ok (.iinc i cst, 3)) (hv : L[i]? = some (.val (.int v))) (hv' : v + Int32.ofInt cst = v') (hl : storeLocals L i (.int v') = some L') (hp : pc + 3 = pc') (k : own_Go p e below C T (mkF m pc' L' st)) : own_Go p e below C T (mkF m pc L st) := by
  have hsz := own_le W
  obtain ⟨⟨hx, hby, hml, hown, hnm, hrt, hlk, hZ⟩, locs, X, eT, N⟩ := W
  subst hp hv'
  exact own_st (fun _ k => XS.iinc X.here hx rfl (hb hby hd) hv hl k) k
theorem own_dup (W : own_W p l e R s m args below meth c Z y ret code ml ws T h cells slots) {v : Value} {pc : Nat} (pc' : Nat) {L : Array Slot} {st : List Value} (hd : decode code pc = .ok (.dup, 1)) (hc : v.category = 1) (hp : pc + 1 = pc') (k : own_Go p e below C T (mkF m pc' L (v :: v :: st))) : own_Go p e below C T (mkF m pc L (v :: st)) := by
  have hsz := own_le W
  obtain ⟨⟨hx, hby, hml, hown, hnm, hrt, hlk, hZ⟩, locs, X, eT, N⟩ := W
  subst hp
  exact own_st (fun _ k => XS.dup X.here hx rfl (hb hby hd) rfl hc k) k
theorem own_pop (W : own_W p l e R s m args below meth c Z y ret code ml ws T h cells slots) {v : Value} {pc : Nat} (pc' : Nat) {L : Array Slot} {st : List Value} (hd : decode code pc = .ok (.pop, 1)) (hc : v.category = 1) (hp : pc + 1 = pc') (k : own_Go p e below C T (mkF m pc' L st)) : own_Go p e below C T (mkF m pc L (v :: st)) := by
  have hsz := own_le W
  obtain ⟨⟨hx, hby, hml, hown, hnm, hrt, hlk, hZ⟩, locs, X, eT, N⟩ := W
  subst hp
  exact own_st (fun _ k => XS.pop X.here hx rfl (hb hby hd) rfl hc k) k
theorem own_dup_x1 (W : own_W p l e R s m args below meth c Z y ret code ml ws T h cells slots) {u v : Value} {pc : Nat} (pc' : Nat) {L : Array Slot} {st : List Value} (hd : decode code pc = .ok (.dup_x1, 1)) (hc : v.category = 1) (hc' : u.category = 1) (hp : pc + 1 = pc') (k : own_Go p e below C T (mkF m pc' L (v :: u :: v :: st))) : own_Go p e below C T (mkF m pc L (v :: u :: st)) := by
  have hsz := own_le W
  obtain ⟨⟨hx, hby, hml, hown, hnm, hrt, hlk, hZ⟩, locs, X, eT, N⟩ := W
  subst hp
  exact own_st (fun _ k => XS.dupX1 X.here hx rfl (hb hby hd) rfl hc hc' k) k
theorem own_goto (W : own_W p l e R s m args below meth c Z y ret code ml ws T h cells slots) {o : Int} {pc : Nat} (pc' : Nat) {L : Array Slot} {st : List Value} (hd : decode code pc = .ok (.goto o, 3)) (ho : 0 ≤ (pc : Int) + o) (hp : ((pc : Int) + o).toNat = pc') (k : own_Go p e below C T (mkF m pc' L st)) : own_Go p e below C T (mkF m pc L st) := by
  have hsz := own_le W
  obtain ⟨⟨hx, hby, hml, hown, hnm, hrt, hlk, hZ⟩, locs, X, eT, N⟩ := W
  exact own_st (fun _ k => XS.goto X.here hx rfl rfl (hb hby hd) ho hp k) k
theorem own_ifY (W : own_W p l e R s m args below meth c Z y ret code ml ws T h cells slots) {cd : ClassFile.Cond} {o : Int} {u : Int32} {pc : Nat} (pc' : Nat) {L : Array Slot} {st : List Value} (hd : decode code pc = .ok (.ifCond cd o, 3)) (hc : ifCond.holds cd u = true) (ho : 0 ≤ (pc : Int) + o) (hp : ((pc : Int) + o).toNat = pc') (k : own_Go p e below C T (mkF m pc' L st)) : own_Go p e below C T (mkF m pc L (.int u :: st)) := by
  have hsz := own_le W
  obtain ⟨⟨hx, hby, hml, hown, hnm, hrt, hlk, hZ⟩, locs, X, eT, N⟩ := W
  exact own_st (fun _ k => XS.ifYes X.here hx rfl rfl (hb hby hd) rfl hc ho hp k) k
theorem own_ifN (W : own_W p l e R s m args below meth c Z y ret code ml ws T h cells slots) {cd : ClassFile.Cond} {o : Int} {u : Int32} {pc : Nat} (pc' : Nat) {L : Array Slot} {st : List Value} (hd : decode code pc = .ok (.ifCond cd o, 3)) (hc : ifCond.holds cd u = false) (hp : pc + 3 = pc') (k : own_Go p e below C T (mkF m pc' L st)) : own_Go p e below C T (mkF m pc L (.int u :: st)) := by
  have hsz := own_le W
  obtain ⟨⟨hx, hby, hml, hown, hnm, hrt, hlk, hZ⟩, locs, X, eT, N⟩ := W
  subst hp
  exact own_st (fun _ k => XS.ifNo X.here hx rfl (hb hby hd) rfl hc k) k
theorem own_icmpY (W : own_W p l e R s m args below meth c Z y ret code ml ws T h cells slots) {cd : ClassFile.Cond} {o : Int} {u v : Int32} {pc : Nat} (pc' : Nat) {L : Array Slot} {st : List Value} (hd : decode code pc = .ok (.if_icmp cd o, 3)) (hc : if_icmp.holds cd u v = true) (ho : 0 ≤ (pc : Int) + o) (hp : ((pc : Int) + o).toNat = pc') (k : own_Go p e below C T (mkF m pc' L st)) : own_Go p e below C T (mkF m pc L (.int v :: .int u :: st)) := by
  have hsz := own_le W
  obtain ⟨⟨hx, hby, hml, hown, hnm, hrt, hlk, hZ⟩, locs, X, eT, N⟩ := W
  exact own_st (fun _ k => XS.icmpYes X.here hx rfl rfl (hb hby hd) rfl hc ho hp k) k
theorem own_icmpN (W : own_W p l e R s m args below meth c Z y ret code ml ws T h cells slots) {cd : ClassFile.Cond} {o : Int} {u v : Int32} {pc : Nat} (pc' : Nat) {L : Array Slot} {st : List Value} (hd : decode code pc = .ok (.if_icmp cd o, 3)) (hc : if_icmp.holds cd u v = false) (hp : pc + 3 = pc') (k : own_Go p e below C T (mkF m pc' L st)) : own_Go p e below C T (mkF m pc L (.int v :: .int u :: st)) := by
  have hsz := own_le W
  obtain ⟨⟨hx, hby, hml, hown, hnm, hrt, hlk, hZ⟩, locs, X, eT, N⟩ := W
  subst hp
  exact own_st (fun _ k => XS.icmpNo X.here hx rfl (hb hby hd) rfl hc k) k
theorem own_ifnullY (W : own_W p l e R s m args below meth c Z y ret code ml ws T h cells slots) {o : Int}  {pc : Nat} (pc' : Nat) {L : Array Slot} {st : List Value} (hd : decode code pc = .ok (.ifnull o, 3)) (ho : 0 ≤ (pc : Int) + o) (hp : ((pc : Int) + o).toNat = pc') (k : own_Go p e below C T (mkF m pc' L st)) : own_Go p e below C T (mkF m pc L (.null :: st)) := by
  have hsz := own_le W
  obtain ⟨⟨hx, hby, hml, hown, hnm, hrt, hlk, hZ⟩, locs, X, eT, N⟩ := W
  exact own_st (fun _ k => XS.ifnullYes X.here hx rfl rfl (hb hby hd) rfl ho hp k) k
theorem own_ifnullN (W : own_W p l e R s m args below meth c Z y ret code ml ws T h cells slots) {o : Int} {b : Addr} {pc : Nat} (pc' : Nat) {L : Array Slot} {st : List Value} (hd : decode code pc = .ok (.ifnull o, 3)) (hp : pc + 3 = pc') (k : own_Go p e below C T (mkF m pc' L st)) : own_Go p e below C T (mkF m pc L (.ref b :: st)) := by
  have hsz := own_le W
  obtain ⟨⟨hx, hby, hml, hown, hnm, hrt, hlk, hZ⟩, locs, X, eT, N⟩ := W
  subst hp
  exact own_st (fun _ k => XS.ifnullNo X.here hx rfl (hb hby hd) rfl k) k
theorem own_ifnonnullY (W : own_W p l e R s m args below meth c Z y ret code ml ws T h cells slots) {o : Int} {b : Addr} {pc : Nat} (pc' : Nat) {L : Array Slot} {st : List Value} (hd : decode code pc = .ok (.ifnonnull o, 3)) (ho : 0 ≤ (pc : Int) + o) (hp : ((pc : Int) + o).toNat = pc') (k : own_Go p e below C T (mkF m pc' L st)) : own_Go p e below C T (mkF m pc L (.ref b :: st)) := by
  have hsz := own_le W
  obtain ⟨⟨hx, hby, hml, hown, hnm, hrt, hlk, hZ⟩, locs, X, eT, N⟩ := W
  exact own_st (fun _ k => XS.ifnonnullYes X.here hx rfl rfl (hb hby hd) rfl ho hp k) k
theorem own_ifnonnullN (W : own_W p l e R s m args below meth c Z y ret code ml ws T h cells slots) {o : Int}  {pc : Nat} (pc' : Nat) {L : Array Slot} {st : List Value} (hd : decode code pc = .ok (.ifnonnull o, 3)) (hp : pc + 3 = pc') (k : own_Go p e below C T (mkF m pc' L st)) : own_Go p e below C T (mkF m pc L (.null :: st)) := by
  have hsz := own_le W
  obtain ⟨⟨hx, hby, hml, hown, hnm, hrt, hlk, hZ⟩, locs, X, eT, N⟩ := W
  subst hp
  exact own_st (fun _ k => XS.ifnonnullNo X.here hx rfl (hb hby hd) rfl k) k
theorem own_acmp (W : own_W p l e R s m args below meth c Z y ret code ml ws T h cells slots) {cd : ACond} {o : Int} {u v : Value} {same : Bool} {pc : Nat} (pc' : Nat) {L : Array Slot} {st : List Value} (hd : decode code pc = .ok (.if_acmp cd o, 3)) (h1 : u.isRef = true) (h2 : v.isRef = true) (hq : decide (u = v) = same) (ho : 0 ≤ (pc : Int) + o) (hp : pc' = if acV cd same = true then ((pc : Int) + o).toNat else pc + 3) (k : own_Go p e below C T (mkF m pc' L st)) : own_Go p e below C T (mkF m pc L (v :: u :: st)) := by
  have hsz := own_le W
  obtain ⟨⟨hx, hby, hml, hown, hnm, hrt, hlk, hZ⟩, locs, X, eT, N⟩ := W
  exact own_st (fun _ k => Jvm.RoadKit.acmp X hx rfl h1 h2 rfl (hb hby hd) rfl hq ho hp k) k
theorem own_retI {Q : Option Value → Heap → Prop} {kc ks : Nat} {z : Int32}  (W : own_W p l e R s m args below meth c Z y (some .int) code ml ws T h cells slots) (hC : ∀ v L u, own_Fw s ws L → Q v u.heap → FrameEnd s (.returned v) u L kc ks → C (.returned v) u) (hcl : cells ≤ kc) (hsl : slots ≤ ks) {pc : Nat} {L : Array Slot} {st : List Value} (hd : decode code pc = .ok (.ireturn, 1)) (hq : Q (some (.int z)) h) : own_Go p e below C T (mkF m pc L (.int z :: st)) := by
  have hsz := own_le W
  obtain ⟨⟨hx, hby, hml, hown, hnm, hrt, hlk, hZ⟩, locs, X, eT, N⟩ := W
  subst eT
  obtain ⟨fs, hr, hrun, hended, hW, hsame⟩ := X.leave (v := (some (.int z))) (fun h => by rw [hrt] at h; cases h) hlk
  refine ⟨_, _, ?_, hrun, hended, hC _ _ _ N hq ⟨⟨_, rfl⟩, hW, hsame.mono hcl hsl⟩⟩
  have hn : narrow .int (.int z) = .int z := rfl
  show Steps p.tables e below (T.setTop { method := m, pc := pc, locals := L, stack := _ :: st, locked := none }) _
  have hm' := X.method'
  jvm_step X.here [X.here.top, hx, (hb hby hd), hm', hrt, hn]
  first | (intro acts; rw [hr _ acts rfl rfl rfl]) | rw [hr _ _ rfl rfl rfl]
  exact Steps.refl _
theorem own_retZ {Q : Option Value → Heap → Prop} {kc ks : Nat} {z : Int32}  (W : own_W p l e R s m args below meth c Z y (some .boolean) code ml ws T h cells slots) (hC : ∀ v L u, own_Fw s ws L → Q v u.heap → FrameEnd s (.returned v) u L kc ks → C (.returned v) u) (hcl : cells ≤ kc) (hsl : slots ≤ ks) {pc : Nat} {L : Array Slot} {st : List Value} (hd : decode code pc = .ok (.ireturn, 1)) (hq : Q (some (.int (z &&& 1))) h) : own_Go p e below C T (mkF m pc L (.int z :: st)) := by
  have hsz := own_le W
  obtain ⟨⟨hx, hby, hml, hown, hnm, hrt, hlk, hZ⟩, locs, X, eT, N⟩ := W
  subst eT
  obtain ⟨fs, hr, hrun, hended, hW, hsame⟩ := X.leave (v := (some (.int (z &&& 1)))) (fun h => by rw [hrt] at h; cases h) hlk
  refine ⟨_, _, ?_, hrun, hended, hC _ _ _ N hq ⟨⟨_, rfl⟩, hW, hsame.mono hcl hsl⟩⟩
  exact retN X hx (t := .boolean) hrt (by simp) (hb hby hd) hr
theorem own_retB {Q : Option Value → Heap → Prop} {kc ks : Nat} {z : Int32}  (W : own_W p l e R s m args below meth c Z y (some .byte) code ml ws T h cells slots) (hC : ∀ v L u, own_Fw s ws L → Q v u.heap → FrameEnd s (.returned v) u L kc ks → C (.returned v) u) (hcl : cells ≤ kc) (hsl : slots ≤ ks) {pc : Nat} {L : Array Slot} {st : List Value} (hd : decode code pc = .ok (.ireturn, 1)) (hq : Q (some (.int z.toInt8.toInt32)) h) : own_Go p e below C T (mkF m pc L (.int z :: st)) := by
  have hsz := own_le W
  obtain ⟨⟨hx, hby, hml, hown, hnm, hrt, hlk, hZ⟩, locs, X, eT, N⟩ := W
  subst eT
  obtain ⟨fs, hr, hrun, hended, hW, hsame⟩ := X.leave (v := (some (.int z.toInt8.toInt32))) (fun h => by rw [hrt] at h; cases h) hlk
  refine ⟨_, _, ?_, hrun, hended, hC _ _ _ N hq ⟨⟨_, rfl⟩, hW, hsame.mono hcl hsl⟩⟩
  exact retN X hx (t := .byte) hrt (by simp) (hb hby hd) hr
theorem own_retC {Q : Option Value → Heap → Prop} {kc ks : Nat} {z : Int32}  (W : own_W p l e R s m args below meth c Z y (some .char) code ml ws T h cells slots) (hC : ∀ v L u, own_Fw s ws L → Q v u.heap → FrameEnd s (.returned v) u L kc ks → C (.returned v) u) (hcl : cells ≤ kc) (hsl : slots ≤ ks) {pc : Nat} {L : Array Slot} {st : List Value} (hd : decode code pc = .ok (.ireturn, 1)) (hq : Q (some (.int z.toUInt32.toUInt16.toUInt32.toInt32)) h) : own_Go p e below C T (mkF m pc L (.int z :: st)) := by
  have hsz := own_le W
  obtain ⟨⟨hx, hby, hml, hown, hnm, hrt, hlk, hZ⟩, locs, X, eT, N⟩ := W
  subst eT
  obtain ⟨fs, hr, hrun, hended, hW, hsame⟩ := X.leave (v := (some (.int z.toUInt32.toUInt16.toUInt32.toInt32))) (fun h => by rw [hrt] at h; cases h) hlk
  refine ⟨_, _, ?_, hrun, hended, hC _ _ _ N hq ⟨⟨_, rfl⟩, hW, hsame.mono hcl hsl⟩⟩
  exact retN X hx (t := .char) hrt (by simp) (hb hby hd) hr
theorem own_retJ {Q : Option Value → Heap → Prop} {kc ks : Nat} {z : Int64}  (W : own_W p l e R s m args below meth c Z y (some .long) code ml ws T h cells slots) (hC : ∀ v L u, own_Fw s ws L → Q v u.heap → FrameEnd s (.returned v) u L kc ks → C (.returned v) u) (hcl : cells ≤ kc) (hsl : slots ≤ ks) {pc : Nat} {L : Array Slot} {st : List Value} (hd : decode code pc = .ok (.lreturn, 1)) (hq : Q (some (.long z)) h) : own_Go p e below C T (mkF m pc L (.long z :: st)) := by
  have hsz := own_le W
  obtain ⟨⟨hx, hby, hml, hown, hnm, hrt, hlk, hZ⟩, locs, X, eT, N⟩ := W
  subst eT
  obtain ⟨fs, hr, hrun, hended, hW, hsame⟩ := X.leave (v := (some (.long z))) (fun h => by rw [hrt] at h; cases h) hlk
  refine ⟨_, _, ?_, hrun, hended, hC _ _ _ N hq ⟨⟨_, rfl⟩, hW, hsame.mono hcl hsl⟩⟩
  have hn : narrow .long (.long z) = .long z := rfl
  show Steps p.tables e below (T.setTop { method := m, pc := pc, locals := L, stack := _ :: st, locked := none }) _
  have hm' := X.method'
  jvm_step X.here [X.here.top, hx, (hb hby hd), hm', hrt, hn]
  first | (intro acts; rw [hr _ acts rfl rfl rfl]) | rw [hr _ _ rfl rfl rfl]
  exact Steps.refl _
theorem own_retV {Q : Option Value → Heap → Prop} {kc ks : Nat}  (W : own_W p l e R s m args below meth c Z y none code ml ws T h cells slots) (hC : ∀ v L u, own_Fw s ws L → Q v u.heap → FrameEnd s (.returned v) u L kc ks → C (.returned v) u) (hcl : cells ≤ kc) (hsl : slots ≤ ks) {pc : Nat} {L : Array Slot} (hd : decode code pc = .ok (.return_, 1)) (hq : Q none h) : own_Go p e below C T (mkF m pc L []) := by
  have hsz := own_le W
  obtain ⟨⟨hx, hby, hml, hown, hnm, hrt, hlk, hZ⟩, locs, X, eT, N⟩ := W
  subst eT
  obtain ⟨fs, hr, hrun, hended, hW, hsame⟩ := X.leave (v := none) (fun _ => rfl) hlk
  refine ⟨_, _, ?_, hrun, hended, hC _ _ _ N hq ⟨⟨_, rfl⟩, hW, hsame.mono hcl hsl⟩⟩
  exact X.returnOut hx hrt (hb hby hd) hr
theorem own_retA {Q : Option Value → Heap → Prop} {kc ks : Nat} {rt : FieldType} {z : Value} (W : own_W p l e R s m args below meth c Z y (some rt) code ml ws T h cells slots) (hC : ∀ v L u, own_Fw s ws L → Q v u.heap → FrameEnd s (.returned v) u L kc ks → C (.returned v) u) (hcl : cells ≤ kc) (hsl : slots ≤ ks) (hrr : rt.isReference = true) (hzr : z.isRef = true) {pc : Nat} {L : Array Slot} {st : List Value} (hd : decode code pc = .ok (.areturn, 1)) (hn : narrow rt z = z) (hq : Q (some z) h) : own_Go p e below C T (mkF m pc L (z :: st)) := by
  have hsz := own_le W
  obtain ⟨⟨hx, hby, hml, hown, hnm, hrt, hlk, hZ⟩, locs, X, eT, N⟩ := W
  subst eT
  obtain ⟨fs, hr, hrun, hended, hW, hsame⟩ := X.leave (v := some z) (fun h => by rw [hrt] at h; cases h) hlk
  refine ⟨_, _, ?_, hrun, hended, hC _ _ _ N hq ⟨⟨_, rfl⟩, hW, hsame.mono hcl hsl⟩⟩
  exact retOut X hx hrt hn (Or.inr (Or.inr (Or.inr (Or.inr ⟨rfl, hrr, hzr⟩)))) (hb hby hd) hr
/-- an array by its places: n of them, place j holds f j -/
def own_A (Z : State) (h : Heap) (a : Addr) (ty : FieldType) (n : Nat) (f : Nat → Value) : Prop := ∃ cl : Cell, Arr Z h a cl ty ∧ cl.slots.size = n ∧ ∀ j, j < n → cl.slots[j]? = some (f j)
def own_upd (f : Nat → Value) (k : Nat) (v : Value) : Nat → Value := fun j => if j = k then v else f j
theorem own_A.lt {a : Addr} {ty : FieldType} {n : Nat} {f : Nat → Value} (F : own_A Z h a ty n f) : a < h.size := by obtain ⟨cl, A, -⟩ := F; exact A.lt
theorem own_A.ext {h' : Heap} {a : Addr} {ty : FieldType} {n : Nat} {f : Nat → Value} (F : own_A Z h a ty n f) (E : Ext h h') : own_A Z h' a ty n f := by obtain ⟨cl, A, r⟩ := F; exact ⟨cl, A.ext E, r⟩
theorem own_A.other {h' : Heap} {a b : Addr} {sl : Nat} {v : Value} {ty : FieldType} {n : Nat} {f : Nat → Value} (F : own_A Z h b ty n f) (q : Wr h h' a sl v) (ne : b ≠ a) : own_A Z h' b ty n f := by obtain ⟨cl, A, r⟩ := F; exact ⟨cl, A.other q ne, r⟩
theorem own_A.keep {h' : Heap} {ws : List Addr} {a : Addr} {ty : FieldType} {n : Nat} {f : Nat → Value} (F : own_A Z h a ty n f) (K : Keep h h' ws) (q : a ∉ ws) : own_A Z h' a ty n f := by obtain ⟨cl, A, r⟩ := F; exact ⟨cl, ⟨K.2.1 a cl A.1 q, A.2⟩, r⟩
theorem own_A.congr {a : Addr} {ty : FieldType} {n : Nat} {f g : Nat → Value} (F : own_A Z h a ty n f) (q : ∀ j, j < n → f j = g j) : own_A Z h a ty n g := by obtain ⟨cl, A, r1, r2⟩ := F; exact ⟨cl, A, r1, fun j hj => by rw [r2 j hj, q j hj]⟩
theorem own_nn {z : Int32} {k : Nat} (hz : z.toInt = (k : Int)) : ¬ z < 0 := by rw [Int32.lt_iff_toInt_lt]; have : (0 : Int32).toInt = 0 := rfl; omega
theorem own_cl {z : Int32} {k : Nat} (hz : z.toInt = (k : Int)) : z.toNatClampNeg = k := by
  have h := nat_of (own_nn hz)
  omega
theorem own_in {z : Int32} {k n : Nat} {cl : Cell} (hz : z.toInt = (k : Int)) (hs : cl.slots.size = n) (hk : k < n) : ¬ (z < 0 ∨ cl.slots.size ≤ z.toNatClampNeg) := by
  rintro (q | q)
  · exact own_nn hz q
  · rw [own_cl hz] at q; omega
theorem own_A.set {h' : Heap} {a : Addr} {ty : FieldType} {n k : Nat} {f : Nat → Value} {v : Value} (F : own_A Z h a ty n f) (q : Wr h h' a k v) (hk : k < n) : own_A Z h' a ty n (own_upd f k v) := by
  obtain ⟨cl, A, r1, r2⟩ := F
  refine ⟨cl.setSlot k v, Arr.same q A, by rw [sz_set]; exact r1, fun j hj => ?_⟩
  by_cases e : j = k
  · subst e; simp [own_upd, Cell.setSlot, r1, hj]
  · simp only [own_upd, if_neg e, Cell.setSlot]
    rw [Array.getElem?_setIfInBounds_ne (Ne.symm e)]; exact r2 j hj
theorem own_newarray (W : own_W p l e R s m args below meth c Z y ret code ml ws T h cells slots) {aty : ArrayType} {z : Int32} (N cap : Nat) {pc : Nat} (pc' : Nat) {L : Array Slot} {st : List Value} (hd : decode code pc = .ok (.newarray aty, 2)) (w : (Jvm.Cond.arrayClass (newarray.typeOf aty)).before a0 Z = true) (hz : z.toInt = (N : Int)) (hcap : N ≤ cap) (hb8 : cap * 8 ≤ 536870912) (hc : cells + 1 ≤ R.cells) (hl : slots + cap ≤ R.slots) (hp : pc + 2 = pc') (k : ∀ T' h' a, own_W p l e R s m args below meth c Z y ret code ml ws T' h' (cells + 1) (slots + cap) → Ext h h' → a = h.size → s.heap.size ≤ a → own_A Z h' a (newarray.typeOf aty) N (fun _ => defaultValue (newarray.typeOf aty)) → own_Go p e below C T' (mkF m pc' L (.ref a :: st))) : own_Go p e below C T (mkF m pc L (.int z :: st)) := by
  have hsz := own_le W
  obtain ⟨⟨hx, hby, hml, hown, hnm, hrt, hlk, hZ⟩, locs, X, eT, Nf⟩ := W
  subst hp
  have hcl := own_cl hz
  obtain ⟨T', h', cA, X', e', E', A', st'⟩ := newP X hx hZ w eT (g := mkF m pc L (.int z :: st)) rfl (hb hby hd) rfl (own_nn hz) (cap := cap) (by rw [hcl]; exact hcap) hb8 hc hl
  refine own_st st' (k T' h' h.size ⟨⟨hx, hby, hml, hown, hnm, hrt, hlk, hZ⟩, locs, X', e', Nf⟩ E' rfl hsz ⟨_, A', by rw [sz_new, hcl], fun j hj => ?_⟩)
  simp [newA, hcl, hj]
theorem own_baload (W : own_W p l e R s m args below meth c Z y ret code ml ws T h cells slots) {a : Addr} {z : Int32} {n : Nat} {f : Nat → Value} (k : Nat) (v : Int32) {pc : Nat} (pc' : Nat) {L : Array Slot} {st : List Value} (hd : decode code pc = .ok (.baload, 1)) (F : own_A Z h a .byte n f) (hz : z.toInt = (k : Int)) (hk : k < n) (hv : f k = (.int v)) (hp : pc + 1 = pc') (kk : own_Go p e below C T (mkF m pc' L ((.int v) :: st))) : own_Go p e below C T (mkF m pc L (.int z :: .ref a :: st)) := by
  have hsz := own_le W
  obtain ⟨⟨hx, hby, hml, hown, hnm, hrt, hlk, hZ⟩, locs, X, eT, N⟩ := W
  subst hp eT
  obtain ⟨cl, A, hs, hf⟩ := F
  have hat : cl.slots[z.toNatClampNeg]? = some (.int v) := by rw [own_cl hz, hf k hk, hv]
  exact own_st (fun t q => X.baloadBytes hx A.1 (State.isArrayOf_alike hZ.alike A.2.1) A.2.2 (own_in hz hs hk) hat (g := mkF m pc L (.int z :: .ref a :: st)) rfl rfl (hb hby hd) t q) kk
theorem own_iaload (W : own_W p l e R s m args below meth c Z y ret code ml ws T h cells slots) {a : Addr} {z : Int32} {n : Nat} {f : Nat → Value} (k : Nat) (v : Int32) {pc : Nat} (pc' : Nat) {L : Array Slot} {st : List Value} (hd : decode code pc = .ok (.iaload, 1)) (F : own_A Z h a .int n f) (hz : z.toInt = (k : Int)) (hk : k < n) (hv : f k = (.int v)) (hp : pc + 1 = pc') (kk : own_Go p e below C T (mkF m pc' L ((.int v) :: st))) : own_Go p e below C T (mkF m pc L (.int z :: .ref a :: st)) := by
  have hsz := own_le W
  obtain ⟨⟨hx, hby, hml, hown, hnm, hrt, hlk, hZ⟩, locs, X, eT, N⟩ := W
  subst hp eT
  obtain ⟨cl, A, hs, hf⟩ := F
  have hat : cl.slots[z.toNatClampNeg]? = some (.int v) := by rw [own_cl hz, hf k hk, hv]
  exact own_st (fun t q => X.iaload hx A.1 (State.isArrayOf_alike hZ.alike A.2.1) A.2.2 (own_in hz hs hk) hat (g := mkF m pc L (.int z :: .ref a :: st)) rfl rfl (hb hby hd) t q) kk
theorem own_laload (W : own_W p l e R s m args below meth c Z y ret code ml ws T h cells slots) {a : Addr} {z : Int32} {n : Nat} {f : Nat → Value} (k : Nat) (v : Int64) {pc : Nat} (pc' : Nat) {L : Array Slot} {st : List Value} (hd : decode code pc = .ok (.laload, 1)) (F : own_A Z h a .long n f) (hz : z.toInt = (k : Int)) (hk : k < n) (hv : f k = (.long v)) (hp : pc + 1 = pc') (kk : own_Go p e below C T (mkF m pc' L ((.long v) :: st))) : own_Go p e below C T (mkF m pc L (.int z :: .ref a :: st)) := by
  have hsz := own_le W
  obtain ⟨⟨hx, hby, hml, hown, hnm, hrt, hlk, hZ⟩, locs, X, eT, N⟩ := W
  subst hp eT
  obtain ⟨cl, A, hs, hf⟩ := F
  have hat : cl.slots[z.toNatClampNeg]? = some (.long v) := by rw [own_cl hz, hf k hk, hv]
  exact own_st (fun t q => X.laload hx A.1 (State.isArrayOf_alike hZ.alike A.2.1) A.2.2 (own_in hz hs hk) hat (g := mkF m pc L (.int z :: .ref a :: st)) rfl rfl (hb hby hd) t q) kk
theorem own_caload (W : own_W p l e R s m args below meth c Z y ret code ml ws T h cells slots) {a : Addr} {z : Int32} {n : Nat} {f : Nat → Value} (k : Nat) (v : Int32) {pc : Nat} (pc' : Nat) {L : Array Slot} {st : List Value} (hd : decode code pc = .ok (.caload, 1)) (F : own_A Z h a .char n f) (hz : z.toInt = (k : Int)) (hk : k < n) (hv : f k = (.int v)) (hp : pc + 1 = pc') (kk : own_Go p e below C T (mkF m pc' L ((.int v) :: st))) : own_Go p e below C T (mkF m pc L (.int z :: .ref a :: st)) := by
  have hsz := own_le W
  obtain ⟨⟨hx, hby, hml, hown, hnm, hrt, hlk, hZ⟩, locs, X, eT, N⟩ := W
  subst hp eT
  obtain ⟨cl, A, hs, hf⟩ := F
  have hat : cl.slots[z.toNatClampNeg]? = some (.int v) := by rw [own_cl hz, hf k hk, hv]
  exact own_st (fun t q => X.caload hx A.1 (State.isArrayOf_alike hZ.alike A.2.1) A.2.2 (own_in hz hs hk) hat (g := mkF m pc L (.int z :: .ref a :: st)) rfl rfl (hb hby hd) t q) kk
theorem own_bastore (W : own_W p l e R s m args below meth c Z y ret code ml ws T h cells slots) {a : Addr} {z : Int32} {n : Nat} {f : Nat → Value} {xx : Int32} (k : Nat) {pc : Nat} (pc' : Nat) {L : Array Slot} {st : List Value} (hd : decode code pc = .ok (.bastore, 1)) (F : own_A Z h a .byte n f) (ha : a ∈ ws ∨ s.heap.size ≤ a) (hz : z.toInt = (k : Int)) (hk : k < n) (hp : pc + 1 = pc') (kk : ∀ T' h', own_W p l e R s m args below meth c Z y ret code ml ws T' h' cells slots → Wr h h' a k (.int xx.toInt8.toInt32) → own_A Z h' a .byte n (own_upd f k (.int xx.toInt8.toInt32)) → own_Go p e below C T' (mkF m pc' L st)) : own_Go p e below C T (mkF m pc L (.int xx :: .int z :: .ref a :: st)) := by
  have hsz := own_le W
  obtain ⟨⟨hx, hby, hml, hown, hnm, hrt, hlk, hZ⟩, locs, X, eT, N⟩ := W
  subst hp
  have F' := F
  obtain ⟨cl, A, hs, hf⟩ := F
  obtain ⟨T', h', X', e', W', st'⟩ := stB X hx hZ eT A (j := z) (own_in hz hs hk) (g := mkF m pc L (.int xx :: .int z :: .ref a :: st)) rfl rfl (hb hby hd)
  rw [own_cl hz] at W'
  exact own_st st' (kk T' h' ⟨⟨hx, hby, hml, hown, hnm, hrt, hlk, hZ⟩, _, X', e', own_Fw_snoc N ha⟩ W' (F'.set W' hk))
theorem own_iastore (W : own_W p l e R s m args below meth c Z y ret code ml ws T h cells slots) {a : Addr} {z : Int32} {n : Nat} {f : Nat → Value} {xx : Int32} (k : Nat) {pc : Nat} (pc' : Nat) {L : Array Slot} {st : List Value} (hd : decode code pc = .ok (.iastore, 1)) (F : own_A Z h a .int n f) (ha : a ∈ ws ∨ s.heap.size ≤ a) (hz : z.toInt = (k : Int)) (hk : k < n) (hp : pc + 1 = pc') (kk : ∀ T' h', own_W p l e R s m args below meth c Z y ret code ml ws T' h' cells slots → Wr h h' a k (.int xx) → own_A Z h' a .int n (own_upd f k (.int xx)) → own_Go p e below C T' (mkF m pc' L st)) : own_Go p e below C T (mkF m pc L (.int xx :: .int z :: .ref a :: st)) := by
  have hsz := own_le W
  obtain ⟨⟨hx, hby, hml, hown, hnm, hrt, hlk, hZ⟩, locs, X, eT, N⟩ := W
  subst hp
  have F' := F
  obtain ⟨cl, A, hs, hf⟩ := F
  obtain ⟨T', h', X', e', W', st'⟩ := stI X hx hZ eT A (j := z) (own_in hz hs hk) (g := mkF m pc L (.int xx :: .int z :: .ref a :: st)) rfl rfl (hb hby hd)
  rw [own_cl hz] at W'
  exact own_st st' (kk T' h' ⟨⟨hx, hby, hml, hown, hnm, hrt, hlk, hZ⟩, _, X', e', own_Fw_snoc N ha⟩ W' (F'.set W' hk))
theorem own_lastore (W : own_W p l e R s m args below meth c Z y ret code ml ws T h cells slots) {a : Addr} {z : Int32} {n : Nat} {f : Nat → Value} {xx : Int64} (k : Nat) {pc : Nat} (pc' : Nat) {L : Array Slot} {st : List Value} (hd : decode code pc = .ok (.lastore, 1)) (F : own_A Z h a .long n f) (ha : a ∈ ws ∨ s.heap.size ≤ a) (hz : z.toInt = (k : Int)) (hk : k < n) (hp : pc + 1 = pc') (kk : ∀ T' h', own_W p l e R s m args below meth c Z y ret code ml ws T' h' cells slots → Wr h h' a k (.long xx) → own_A Z h' a .long n (own_upd f k (.long xx)) → own_Go p e below C T' (mkF m pc' L st)) : own_Go p e below C T (mkF m pc L (.long xx :: .int z :: .ref a :: st)) := by
  have hsz := own_le W
  obtain ⟨⟨hx, hby, hml, hown, hnm, hrt, hlk, hZ⟩, locs, X, eT, N⟩ := W
  subst hp
  have F' := F
  obtain ⟨cl, A, hs, hf⟩ := F
  obtain ⟨T', h', X', e', W', st'⟩ := stJ X hx hZ eT A (j := z) (own_in hz hs hk) (g := mkF m pc L (.long xx :: .int z :: .ref a :: st)) rfl rfl (hb hby hd)
  rw [own_cl hz] at W'
  exact own_st st' (kk T' h' ⟨⟨hx, hby, hml, hown, hnm, hrt, hlk, hZ⟩, _, X', e', own_Fw_snoc N ha⟩ W' (F'.set W' hk))
theorem own_castore (W : own_W p l e R s m args below meth c Z y ret code ml ws T h cells slots) {a : Addr} {z : Int32} {n : Nat} {f : Nat → Value} {xx : Int32} (k : Nat) {pc : Nat} (pc' : Nat) {L : Array Slot} {st : List Value} (hd : decode code pc = .ok (.castore, 1)) (F : own_A Z h a .char n f) (ha : a ∈ ws ∨ s.heap.size ≤ a) (hz : z.toInt = (k : Int)) (hk : k < n) (hp : pc + 1 = pc') (kk : ∀ T' h', own_W p l e R s m args below meth c Z y ret code ml ws T' h' cells slots → Wr h h' a k (.int xx.toUInt32.toUInt16.toUInt32.toInt32) → own_A Z h' a .char n (own_upd f k (.int xx.toUInt32.toUInt16.toUInt32.toInt32)) → own_Go p e below C T' (mkF m pc' L st)) : own_Go p e below C T (mkF m pc L (.int xx :: .int z :: .ref a :: st)) := by
  have hsz := own_le W
  obtain ⟨⟨hx, hby, hml, hown, hnm, hrt, hlk, hZ⟩, locs, X, eT, N⟩ := W
  subst hp
  have F' := F
  obtain ⟨cl, A, hs, hf⟩ := F
  obtain ⟨T', h', X', e', W', st'⟩ := stC X hx hZ eT A (j := z) (own_in hz hs hk) (g := mkF m pc L (.int xx :: .int z :: .ref a :: st)) rfl rfl (hb hby hd)
  rw [own_cl hz] at W'
  exact own_st st' (kk T' h' ⟨⟨hx, hby, hml, hown, hnm, hrt, hlk, hZ⟩, _, X', e', own_Fw_snoc N ha⟩ W' (F'.set W' hk))
theorem own_arraylength (W : own_W p l e R s m args below meth c Z y ret code ml ws T h cells slots) {a : Addr} {ty : FieldType} {n : Nat} {f : Nat → Value} (z : Int32) {pc : Nat} (pc' : Nat) {L : Array Slot} {st : List Value} (hd : decode code pc = .ok (.arraylength, 1)) (F : own_A Z h a ty n f) (hz : n.toInt32 = z) (hp : pc + 1 = pc') (k : own_Go p e below C T (mkF m pc' L (.int z :: st))) : own_Go p e below C T (mkF m pc L (.ref a :: st)) := by
  have hsz := own_le W
  obtain ⟨⟨hx, hby, hml, hown, hnm, hrt, hlk, hZ⟩, locs, X, eT, N⟩ := W
  subst hp eT
  obtain ⟨cl, A, hs, hf⟩ := F
  subst hs hz
  exact own_st (fun t q => X.arraylength hx A.1 (State.isArrayOf_alike hZ.alike A.2.1) (g := mkF m pc L (.ref a :: st)) rfl rfl (hb hby hd) t q) k
/-- an array of references to objects of C (and of what may be stored there) -/
def own_R (Z : State) (h : Heap) (a : Addr) (C0 : String) (n : Nat) (f : Nat → Value) : Prop := ∃ cl : Cell, Arr Z h a cl (.object C0) ∧ Ovr Z cl.cls C0 ∧ cl.slots.size = n ∧ ∀ j, j < n → cl.slots[j]? = some (f j)
theorem own_R.lt {a : Addr} {C0 : String} {n : Nat} {f : Nat → Value} (F : own_R Z h a C0 n f) : a < h.size := by obtain ⟨cl, A, -⟩ := F; exact A.lt
theorem own_R.ext {h' : Heap} {a : Addr} {C0 : String} {n : Nat} {f : Nat → Value} (F : own_R Z h a C0 n f) (E : Ext h h') : own_R Z h' a C0 n f := by obtain ⟨cl, A, r⟩ := F; exact ⟨cl, A.ext E, r⟩
theorem own_R.other {h' : Heap} {a b : Addr} {sl : Nat} {v : Value} {C0 : String} {n : Nat} {f : Nat → Value} (F : own_R Z h b C0 n f) (q : Wr h h' a sl v) (ne : b ≠ a) : own_R Z h' b C0 n f := by obtain ⟨cl, A, r⟩ := F; exact ⟨cl, A.other q ne, r⟩
theorem own_R.keep {h' : Heap} {ws : List Addr} {a : Addr} {C0 : String} {n : Nat} {f : Nat → Value} (F : own_R Z h a C0 n f) (K : Keep h h' ws) (q : a ∉ ws) : own_R Z h' a C0 n f := by obtain ⟨cl, A, r⟩ := F; exact ⟨cl, ⟨K.2.1 a cl A.1 q, A.2⟩, r⟩
theorem own_R.set {h' : Heap} {a : Addr} {C0 : String} {n k : Nat} {f : Nat → Value} {v : Value} (F : own_R Z h a C0 n f) (q : Wr h h' a k v) (hk : k < n) : own_R Z h' a C0 n (own_upd f k v) := by
  obtain ⟨cl, A, O, r1, r2⟩ := F
  refine ⟨cl.setSlot k v, Arr.same q A, O, by rw [sz_set]; exact r1, fun j hj => ?_⟩
  by_cases e : j = k
  · subst e; simp [own_upd, Cell.setSlot, r1, hj]
  · simp only [own_upd, if_neg e, Cell.setSlot]
    rw [Array.getElem?_setIfInBounds_ne (Ne.symm e)]; exact r2 j hj
theorem own_anewarray (W : own_W p l e R s m args below meth c Z y ret code ml ws T h cells slots) {C0 : String} {i : Nat} {z : Int32} (N cap : Nat) {pc : Nat} (pc' : Nat) {L : Array Slot} {st : List Value} (hd : decode code pc = .ok (.anewarray i, 3)) (w1 : (Jvm.Cond.classLink y.cls i C0).before a0 Z = true) (w2 : (Jvm.Cond.arrayOver (.object C0)).before a0 Z = true) (hz : z.toInt = (N : Int)) (hcap : N ≤ cap) (hb8 : cap * 8 ≤ 536870912) (hc : cells + 1 ≤ R.cells) (hl : slots + cap ≤ R.slots) (hp : pc + 3 = pc') (k : ∀ T' h' a, own_W p l e R s m args below meth c Z y ret code ml ws T' h' (cells + 1) (slots + cap) → Ext h h' → a = h.size → s.heap.size ≤ a → own_R Z h' a C0 N (fun _ => .null) → own_Go p e below C T' (mkF m pc' L (.ref a :: st))) : own_Go p e below C T (mkF m pc L (.int z :: st)) := by
  have hsz := own_le W
  obtain ⟨⟨hx, hby, hml, hown, hnm, hrt, hlk, hZ⟩, locs, X, eT, Nf⟩ := W
  subst hp
  have hcl := own_cl hz
  obtain ⟨T', h', cA, X', e', E', A', O', st'⟩ := newR X hx hZ hown w1 w2 eT (g := mkF m pc L (.int z :: st)) rfl (hb hby hd) rfl (own_nn hz) (cap := cap) (by rw [hcl]; exact hcap) hb8 hc hl
  refine own_st st' (k T' h' h.size ⟨⟨hx, hby, hml, hown, hnm, hrt, hlk, hZ⟩, locs, X', e', Nf⟩ E' rfl hsz ⟨_, A', O', by rw [sz_new, hcl], fun j hj => ?_⟩)
  simp [newA, hcl, hj, defaultValue]
theorem own_aastore (W : own_W p l e R s m args below meth c Z y ret code ml ws T h cells slots) {a b : Addr} {C0 : String} {z : Int32} {n : Nat} {f : Nat → Value} (k : Nat) {pc : Nat} (pc' : Nat) {L : Array Slot} {st : List Value} (hd : decode code pc = .ok (.aastore, 1)) (F : own_R Z h a C0 n f) (I : Ins Z h b C0 true) (ha : a ∈ ws ∨ s.heap.size ≤ a) (hz : z.toInt = (k : Int)) (hk : k < n) (hp : pc + 1 = pc') (kk : ∀ T' h', own_W p l e R s m args below meth c Z y ret code ml ws T' h' cells slots → Wr h h' a k (.ref b) → own_R Z h' a C0 n (own_upd f k (.ref b)) → own_Go p e below C T' (mkF m pc' L st)) : own_Go p e below C T (mkF m pc L (.ref b :: .int z :: .ref a :: st)) := by
  have hsz := own_le W
  obtain ⟨⟨hx, hby, hml, hown, hnm, hrt, hlk, hZ⟩, locs, X, eT, N⟩ := W
  subst hp
  have F' := F
  obtain ⟨cl, A, O, hs, hf⟩ := F
  obtain ⟨T', h', X', e', W', st'⟩ := stR X hx hZ eT A (j := z) (own_in hz hs hk) rfl (Sto.of A O I) (g := mkF m pc L (.ref b :: .int z :: .ref a :: st)) rfl rfl (hb hby hd)
  rw [own_cl hz] at W'
  exact own_st st' (kk T' h' ⟨⟨hx, hby, hml, hown, hnm, hrt, hlk, hZ⟩, _, X', e', own_Fw_snoc N ha⟩ W' (F'.set W' hk))
theorem own_aaload (W : own_W p l e R s m args below meth c Z y ret code ml ws T h cells slots) {a : Addr} {C0 : String} {z : Int32} {n : Nat} {f : Nat → Value} (k : Nat) (v : Value) {pc : Nat} (pc' : Nat) {L : Array Slot} {st : List Value} (hd : decode code pc = .ok (.aaload, 1)) (F : own_R Z h a C0 n f) (hz : z.toInt = (k : Int)) (hk : k < n) (hv : f k = v) (hp : pc + 1 = pc') (kk : own_Go p e below C T (mkF m pc' L (v :: st))) : own_Go p e below C T (mkF m pc L (.int z :: .ref a :: st)) := by
  have hsz := own_le W
  obtain ⟨⟨hx, hby, hml, hown, hnm, hrt, hlk, hZ⟩, locs, X, eT, N⟩ := W
  subst hp eT
  obtain ⟨cl, A, O, hs, hf⟩ := F
  have hat : cl.slots[z.toNatClampNeg]? = some v := by rw [own_cl hz, hf k hk, hv]
  exact own_st (fun t q => X.aaload hx A.1 (State.isArrayOf_alike hZ.alike A.2.1) rfl A.2.2 (own_in hz hs hk) hat (g := mkF m pc L (.int z :: .ref a :: st)) rfl rfl (hb hby hd) t q) kk
theorem own_dup2 (W : own_W p l e R s m args below meth c Z y ret code ml ws T h cells slots) {a : Addr} {z : Int32} {pc : Nat} (pc' : Nat) {L : Array Slot} {st : List Value} (hd : decode code pc = .ok (.dup2, 1)) (hp : pc + 1 = pc') (k : own_Go p e below C T (mkF m pc' L (.int z :: .ref a :: .int z :: .ref a :: st))) : own_Go p e below C T (mkF m pc L (.int z :: .ref a :: st)) := by
  have hsz := own_le W
  obtain ⟨⟨hx, hby, hml, hown, hnm, hrt, hlk, hZ⟩, locs, X, eT, N⟩ := W
  subst hp
  refine own_st (fun t q => ?_) k
  show Steps p.tables e below (T.setTop { method := m, pc := pc, locals := L, stack := .int z :: .ref a :: st, locked := none }) _
  jvm_step X.here [X.here.top, hx, (hb hby hd), Value.category]
  exact q
theorem own_gd {n k : Nat} {f : Nat → Value} {d : Value} (hk : k < n) : ((List.range n).map f).getD k d = f k := by simp [List.getD, hk]
theorem own_A.arv {a : Addr} {ty : FieldType} {n : Nat} {f : Nat → Value} (F : own_A Z h a ty n f) (hn : n < 2147483648) (hf : ∀ j, j < n → fits ty (f j) = true) (d : Value) : ∃ k, Arv Z h a k ty n.toInt32 ((List.range n).map f) d := by
  obtain ⟨cl, A, r1, r2⟩ := F
  have hz : n.toInt32.toInt = (n : Int) := len_toInt hn
  refine ⟨cl.cls, cl, A, rfl, by rw [r1, own_cl hz], own_nn hz, fun k hk => ?_, fun i hi => ?_⟩
  · rw [r1] at hk
    rw [r2 k hk, own_gd hk]
  · rw [r1] at hi
    rw [own_gd hi]; exact hf i hi
theorem own_A.of_arv {a : Addr} {k : ClassId} {ty : FieldType} {z : Int32} {n : Nat} {vs : List Value} {d : Value} (F : Arv Z h a k ty z vs d) (hz : z.toInt = (n : Int)) : own_A Z h a ty n (fun j => vs.getD j d) := by
  obtain ⟨cl, A, -, r2, -, H, -⟩ := F
  rw [own_cl hz] at r2
  exact ⟨cl, A, r2, fun j hj => H j (by rw [r2]; exact hj)⟩
theorem own_cpl (f f' : Nat → Value) (n n' i j k : Nat) (d : Value) (h4 : i + k ≤ n) (h5 : j + k ≤ n') (q : Nat) (hq : q < n') :
    (((List.range n').map f').take j ++ (List.range k).map (fun t => ((List.range n).map f).getD (i + t) d) ++ ((List.range n').map f').drop (j + k)).getD q d = if j ≤ q ∧ q < j + k then f (i + (q - j)) else f' q := by
  have hl : (((List.range n').map f').take j).length = j := by simp; omega
  have hm : ((List.range k).map (fun t => ((List.range n).map f).getD (i + t) d)).length = k := by simp
  rw [List.getD_eq_getElem?_getD, List.append_assoc]
  rcases Nat.lt_or_ge q j with h1 | h1
  · rw [List.getElem?_append_left (by omega), if_neg (by omega)]
    simp [List.getElem?_take, h1, hq]
  · rw [List.getElem?_append_right (by omega), hl]
    rcases Nat.lt_or_ge q (j + k) with h2 | h2
    · rw [List.getElem?_append_left (by omega), if_pos ⟨h1, h2⟩, List.getElem?_map, List.getElem?_range (by omega)]
      simp only [Option.map_some, Option.getD_some]
      rw [own_gd (by omega)]
    · rw [List.getElem?_append_right (by omega), hm, if_neg (by omega), List.getElem?_drop]
      rw [show j + k + (q - j - k) = q by omega]
      simp [hq]
theorem own_arraycopy (W : own_W p l e R s m args below meth c Z y ret code ml [] T h cells slots) {i : Nat} {a b : Addr} {ty : FieldType} {n n' : Nat} {f f' : Nat → Value} {sp dp nn : Int32} (i1 j1 k1 wt : Nat) {pc : Nat} (pc' : Nat) {L : Array Slot} {st : List Value} (hd : decode code pc = .ok (.invokestatic i, 3)) (w1 : (Jvm.Cond.methodLink y.cls i Jvm.Stand.acN).before a0 Z = true) (w2 : (Jvm.Cond.native Jvm.Stand.acN).before a0 Z = true) (w3 : (Jvm.Cond.static Jvm.Stand.acN).before a0 Z = true) (w4 : (Jvm.Cond.initialized "java/lang/System").before a0 Z = true) (F : own_A Z h a ty n f) (G : own_A Z h b ty n' f') (hff : ∀ j, j < n → fits ty (f j) = true) (hfg : ∀ j, j < n' → fits ty (f' j) = true) (hn : n < 2147483648) (hn' : n' < 2147483648) (hrk : refKind ty = false) (hsp : sp.toInt = (i1 : Int)) (hdp : dp.toInt = (j1 : Int)) (hnn : nn.toInt = (k1 : Int)) (h4 : i1 + k1 ≤ n) (h5 : j1 + k1 ≤ n') (hob : s.heap.size ≤ b) (hL : L.size = ml) (hwt : (st.map fun v => v.category).sum ≤ wt) (hf : 1 ≤ R.frames) (hlo : wt + (nativeFrameWords "java/lang/System" "arraycopy" 5 + 11) ≤ R.locals) (hp : pc + 3 = pc') (k : ∀ T' h', own_W p l e R s m args below meth c Z y ret code ml [] T' h' cells slots → Keep h h' [b] → own_A Z h' b ty n' (fun q => if j1 ≤ q ∧ q < j1 + k1 then f (i1 + (q - j1)) else f' q) → own_Go p e below C T' (mkF m pc' L st)) : own_Go p e below C T (mkF m pc L (.int nn :: .int dp :: .ref b :: .int sp :: .ref a :: st)) := by
  have hsz := own_le W
  obtain ⟨⟨hx, hby, hml, hown, hnm, hrt, hlk, hZ⟩, locs, X, eT, N⟩ := W
  subst hp
  have NF : Fr s.heap.size locs := fun y hy => (N y hy).resolve_left (fun q => nomatch q)
  obtain ⟨ka, A⟩ := F.arv hn hff (.int 0)
  obtain ⟨kb, B⟩ := G.arv hn' hfg (.int 0)
  have ez : n.toInt32.toNatClampNeg = n := own_cl (len_toInt hn)
  have ez' : n'.toInt32.toNatClampNeg = n' := own_cl (len_toInt hn')
  obtain ⟨T', h', L', X', e', N', K', B', st'⟩ := cpA X hx hZ hown w1 w2 w3 w4 eT A B (Or.inl ⟨rfl, hrk⟩) (own_nn hsp) (own_nn hdp) (own_nn hnn) (by rw [own_cl hsp, own_cl hnn, ez]; exact h4) (by rw [own_cl hdp, own_cl hnn, ez']; exact h5) rfl (by rw [own_cl hdp, own_cl hnn]; simpa using h5) NF hob (g := mkF m pc L (.int nn :: .int dp :: .ref b :: .int sp :: .ref a :: st)) rfl (by rw [hml]; exact hL) rfl (hb hby hd) hf (W := wt) (by show 2 * 0 + _ ≤ _; omega) hlo
  refine own_st st' (k T' h' ⟨⟨hx, hby, hml, hown, hnm, hrt, hlk, hZ⟩, L', X', e', fun y hy => Or.inr (N' y hy)⟩ K' ((own_A.of_arv B' (len_toInt hn')).congr fun q hq => ?_))
  rw [own_cl hsp, own_cl hdp, own_cl hnn]
  exact own_cpl f f' n n' i1 j1 k1 _ h4 h5 q hq
theorem own_new (W : own_W p l e R s m args below meth c Z y ret code ml ws T h cells slots) {C0 : String} {i nn : Nat} {pc : Nat} (pc' : Nat) {L : Array Slot} {st : List Value} (hd : decode code pc = .ok (.new i, 3)) (w : (Jvm.Cond.classLink y.cls i C0).before a0 Z = true) (wi : (Jvm.Cond.instantiable C0 nn).before a0 Z = true) (wz : (Jvm.Cond.initialized C0).before a0 Z = true) (hc : cells + 1 ≤ R.cells) (hl : slots + nn ≤ R.slots) (hp : pc + 3 = pc') (k : ∀ T' h' a, own_W p l e R s m args below meth c Z y ret code ml ws T' h' (cells + 1) (slots + nn) → Ext h h' → a = h.size → s.heap.size ≤ a → Exa Z h' a C0 → (∀ {O nm d : String} {ty : FieldType}, Laid Z a0 C0 O nm d → parseFieldDescriptor d = some ty → Fld Z h' a O nm d (defaultValue ty)) → own_Go p e below C T' (mkF m pc' L (.ref a :: st))) : own_Go p e below C T (mkF m pc L st) := by
  have hsz := own_le W
  obtain ⟨⟨hx, hby, hml, hown, hnm, hrt, hlk, hZ⟩, locs, X, eT, N⟩ := W
  subst hp
  obtain ⟨T', h', X', e', E', A', D', -, st'⟩ := newO X hx hZ hown w wi wz eT (g := mkF m pc L st) rfl (hb hby hd) hc hl
  exact own_st st' (k T' h' h.size ⟨⟨hx, hby, hml, hown, hnm, hrt, hlk, hZ⟩, locs, X', e', N⟩ E' rfl hsz A' D')
theorem own_getfield (W : own_W p l e R s m args below meth c Z y ret code ml ws T h cells slots) {O n d : String} {i : Nat} {a : Addr} {v : Value} {pc : Nat} (pc' : Nat) {L : Array Slot} {st : List Value} (hd : decode code pc = .ok (.getfield i, 3)) (w : (Jvm.Cond.fieldLink y.cls i O n d).before a0 Z = true) (F : Fld Z h a O n d v) (hp : pc + 3 = pc') (k : ∀ T', own_W p l e R s m args below meth c Z y ret code ml ws T' h cells slots → own_Go p e below C T' (mkF m pc' L (v :: st))) : own_Go p e below C T (mkF m pc L (.ref a :: st)) := by
  have hsz := own_le W
  obtain ⟨⟨hx, hby, hml, hown, hnm, hrt, hlk, hZ⟩, locs, X, eT, N⟩ := W
  subst hp
  obtain ⟨T', X', e', st'⟩ := getF X hx hZ hown (host := "") (Or.inl w) Via.refl eT F (g := mkF m pc L (.ref a :: st)) rfl rfl (hb hby hd)
  exact own_st st' (k T' ⟨⟨hx, hby, hml, hown, hnm, hrt, hlk, hZ⟩, locs, X', e', N⟩)
theorem own_getfieldN (W : own_W p l e R s m args below meth c Z y ret code ml ws T h cells slots) {O n d host : String} {i : Nat} {a : Addr} {v : Value} {pc : Nat} (pc' : Nat) {L : Array Slot} {st : List Value} (hd : decode code pc = .ok (.getfield i, 3)) (w : (Jvm.Cond.fieldLinkNest y.cls i O n d host).before a0 Z = true) (F : Fld Z h a O n d v) (hp : pc + 3 = pc') (k : ∀ T', own_W p l e R s m args below meth c Z y ret code ml ws T' h cells slots → own_Go p e below C T' (mkF m pc' L (v :: st))) : own_Go p e below C T (mkF m pc L (.ref a :: st)) := by
  have hsz := own_le W
  obtain ⟨⟨hx, hby, hml, hown, hnm, hrt, hlk, hZ⟩, locs, X, eT, N⟩ := W
  subst hp
  obtain ⟨T', X', e', st'⟩ := getF X hx hZ hown (host := host) (Or.inr w) Via.refl eT F (g := mkF m pc L (.ref a :: st)) rfl rfl (hb hby hd)
  exact own_st st' (k T' ⟨⟨hx, hby, hml, hown, hnm, hrt, hlk, hZ⟩, locs, X', e', N⟩)
theorem own_getstatic (W : own_W p l e R s m args below meth c Z y ret code ml ws T h cells slots) {O n d : String} {i : Nat} {v : Value} {pc : Nat} (pc' : Nat) {L : Array Slot} {st : List Value} (hd : decode code pc = .ok (.getstatic i, 3)) (w : (Jvm.Cond.fieldLink y.cls i O n d).before a0 Z = true) (F : Sta Z h O n d v) (hp : pc + 3 = pc') (k : ∀ T', own_W p l e R s m args below meth c Z y ret code ml ws T' h cells slots → own_Go p e below C T' (mkF m pc' L (v :: st))) : own_Go p e below C T (mkF m pc L st) := by
  have hsz := own_le W
  obtain ⟨⟨hx, hby, hml, hown, hnm, hrt, hlk, hZ⟩, locs, X, eT, N⟩ := W
  subst hp
  obtain ⟨T', X', e', st'⟩ := getS X hx hZ hown (host := "") w Via.refl eT F (g := mkF m pc L st) rfl (hb hby hd)
  exact own_st st' (k T' ⟨⟨hx, hby, hml, hown, hnm, hrt, hlk, hZ⟩, locs, X', e', N⟩)
theorem own_putfield (W : own_W p l e R s m args below meth c Z y ret code ml ws T h cells slots) {O n d C0 : String} {i kk : Nat} {ty : FieldType} {a : Addr} {v old : Value} (v' : Value) {pc : Nat} (pc' : Nat) {L : Array Slot} {st : List Value} (hd : decode code pc = .ok (.putfield i, 3)) (w : (Jvm.Cond.fieldLink y.cls i O n d).before a0 Z = true) (F : Fld Z h a O n d old) (E : Exa Z h a C0) (La : (Jvm.Cond.lays C0 O n d).before a0 Z = true ∨ ((Jvm.Cond.laysFinal C0 O n d).before a0 Z = true ∧ y.cls = O ∧ y.name = "<init>")) (wi : (Jvm.Cond.instantiable C0 kk).before a0 Z = true) (ha : a ∈ ws ∨ s.heap.size ≤ a) (hty : parseFieldDescriptor d = some ty) (hn : narrow ty v = v') (hf : fits ty v' = true) (hp : pc + 3 = pc') (k : ∀ T' h', own_W p l e R s m args below meth c Z y ret code ml ws T' h' cells slots → Wr h h' a (Jvm.RoadKit.slotOf Z O n d) v' → Fld Z h' a O n d v' → own_Go p e below C T' (mkF m pc' L st)) : own_Go p e below C T (mkF m pc L (v :: .ref a :: st)) := by
  have hsz := own_le W
  obtain ⟨⟨hx, hby, hml, hown, hnm, hrt, hlk, hZ⟩, locs, X, eT, N⟩ := W
  subst hp
  obtain ⟨T', h', X', e', W', st'⟩ := putFN X hx hZ hown w Via.refl eT F E (by rw [hnm]; exact La) wi hty hn hf (g := mkF m pc L (v :: .ref a :: st)) rfl rfl (hb hby hd)
  exact own_st st' (k T' h' ⟨⟨hx, hby, hml, hown, hnm, hrt, hlk, hZ⟩, _, X', e', own_Fw_snoc N ha⟩ W' (F.same W'))
theorem own_callS (W : own_W p l e R s m args below meth c Z y ret code ml ws T h cells slots) {i : Nat} {yc : MethodName} {bytes : ByteArray} {maxL : Nat} {rt : Option FieldType} {rm : Room} {Q : Option Value → Heap → Prop} {ps : List FieldType} {rr : Option FieldType} {wc' : List Addr} (A : List Value) (wt : Nat) {pc : Nat} (pc' : Nat) {L : Array Slot} {st : List Value} (hd : decode code pc = .ok (.invokestatic i, 3)) (wl : (Jvm.Cond.methodLink y.cls i yc).before a0 Z = true) (wst : (Jvm.Cond.static yc).before a0 Z = true) (wz : (Jvm.Cond.initialized yc.cls).before a0 Z = true) (wc : (Jvm.Cond.code yc bytes maxL rt).before a0 Z = true) (hy : yc.cls ≠ "java/lang/invoke/MethodHandle" ∧ yc.cls ≠ "java/lang/invoke/VarHandle") (hM : own_M l Z [] yc bytes maxL rt rm wc' A.toArray h Q) (hws : ∀ b ∈ wc', b ∈ ws ∨ s.heap.size ≤ b) (hL : L.size = ml) (hds : parseMethodDescriptor yc.desc = some ⟨ps, rr⟩) (hA : A.length = ps.length) (hwt : (st.map fun v => v.category).sum ≤ wt) (hf : rm.frames + 1 ≤ R.frames) (hlo : wt + (maxL + 11) + rm.locals ≤ R.locals) (hc : cells + rm.cells ≤ R.cells) (hs : slots + rm.slots ≤ R.slots) (hp : pc + 3 = pc') (k : ∀ T' h' v, own_W p l e R s m args below meth c Z y ret code ml ws T' h' (cells + rm.cells) (slots + rm.slots) → Keep h h' wc' → (rm.cells = 0 → wc' = [] → h' = h) → Q v h' → own_Go p e below C T' (mkF m pc' L (v.toList ++ st))) : own_Go p e below C T (mkF m pc L (A.reverse ++ st)) := by
  have hsz := own_le W
  obtain ⟨⟨hx, hby, hml, hown, hnm, hrt, hlk, hZ⟩, locs, X, eT, N⟩ := W
  subst hp
  obtain ⟨_, _, ⟨T', L', k', n'⟩, -, X', ⟨Lc', hQ', l', y', z'⟩, st'⟩ := Jvm.LawKit.callS X hx (y := yc) hown (mvT hZ wl) (mvT hZ wst) (mvT hZ wz) (mvT hZ wc) hy (backOf (W := wt) hM hZ wc wz hf hlo) (g := mkF m pc L (A.reverse ++ st)) rfl (by rw [hml]; exact hL) (argsL := A) (rest := st) (lenOf hds hA) rfl (by show 2 * 0 + _ ≤ _; omega) (hb hby hd) (fun _ _ => ⟨rfl, eT, hc, hs⟩)
  dsimp only [Pt.U, Pt.locs, Pt.cells, Pt.slots] at X' l' y' z' st' hQ'
  subst l' y' z'
  exact own_st st' (k T' _ _ ⟨⟨hx, hby, hml, hown, hnm, hrt, hlk, hZ⟩, _, X', rfl, own_Fw_app N hQ'.1 hws hsz⟩ hQ'.2.1 hQ'.2.2.1 hQ'.2.2.2)
theorem own_callN (W : own_W p l e R s m args below meth c Z y ret code ml ws T h cells slots) {i : Nat} {yc : MethodName} {bytes : ByteArray} {maxL : Nat} {rm : Room} {Q : Option Value → Heap → Prop} {ps : List FieldType} {rr : Option FieldType} {a : Addr} {wc' : List Addr} (A : List Value) (wt : Nat) {pc : Nat} (pc' : Nat) {L : Array Slot} {st : List Value} (hd : decode code pc = .ok (.invokespecial i, 3)) (hi : yc.name = "<init>") (wl : (Jvm.Cond.methodLink y.cls i yc).before a0 Z = true) (wst : (Jvm.Cond.instanceMethod yc).before a0 Z = true) (wz : (Jvm.Cond.initialized yc.cls).before a0 Z = true) (wc : (Jvm.Cond.code yc bytes maxL none).before a0 Z = true) (hy : yc.cls ≠ "java/lang/invoke/MethodHandle" ∧ yc.cls ≠ "java/lang/invoke/VarHandle") (hM : own_M l Z [] yc bytes maxL none rm wc' (.ref a :: A).toArray h Q) (hws : ∀ b ∈ wc', b ∈ ws ∨ s.heap.size ≤ b) (hL : L.size = ml) (hds : parseMethodDescriptor yc.desc = some ⟨ps, rr⟩) (hA : A.length = ps.length) (hwt : (st.map fun v => v.category).sum ≤ wt) (hf : rm.frames + 1 ≤ R.frames) (hlo : wt + (maxL + 11) + rm.locals ≤ R.locals) (hc : cells + rm.cells ≤ R.cells) (hs : slots + rm.slots ≤ R.slots) (hp : pc + 3 = pc') (k : ∀ T' h' v, own_W p l e R s m args below meth c Z y ret code ml ws T' h' (cells + rm.cells) (slots + rm.slots) → Keep h h' wc' → (rm.cells = 0 → wc' = [] → h' = h) → Q v h' → own_Go p e below C T' (mkF m pc' L (v.toList ++ st))) : own_Go p e below C T (mkF m pc L (A.reverse ++ .ref a :: st)) := by
  have hsz := own_le W
  obtain ⟨⟨hx, hby, hml, hown, hnm, hrt, hlk, hZ⟩, locs, X, eT, N⟩ := W
  subst hp
  obtain ⟨_, _, ⟨T', L', k', n'⟩, -, X', ⟨Lc', hQ', l', y', z'⟩, st'⟩ := X.specialBack hx (y := yc) hi hown (mvT hZ wl) (mvT hZ wst) (mvT hZ wc) hy (backOf (W := wt) hM hZ wc wz hf hlo) (g := mkF m pc L (A.reverse ++ .ref a :: st)) rfl (by rw [hml]; exact hL) (Steps.refl _) (a := a) (argsL := A) (rest := st) (lenOf hds hA) rfl (by show 2 * 0 + _ ≤ _; omega) (hb hby hd) (fun _ _ => ⟨rfl, eT, hc, hs⟩)
  dsimp only [Pt.U, Pt.locs, Pt.cells, Pt.slots] at X' l' y' z' st' hQ'
  subst l' y' z'
  exact own_tr st' (k T' _ _ ⟨⟨hx, hby, hml, hown, hnm, hrt, hlk, hZ⟩, _, X', rfl, own_Fw_app N hQ'.1 hws hsz⟩ hQ'.2.1 hQ'.2.2.1 hQ'.2.2.2)
theorem own_callV (W : own_W p l e R s m args below meth c Z y ret code ml ws T h cells slots) {C0 : String} {i : Nat} {yc zc : MethodName} {bytes : ByteArray} {maxL : Nat} {rt : Option FieldType} {rm : Room} {Q : Option Value → Heap → Prop} {ps : List FieldType} {rr : Option FieldType} {a : Addr} {wc' : List Addr} (A : List Value) (wt : Nat) {pc : Nat} (pc' : Nat) {L : Array Slot} {st : List Value} (hd : decode code pc = .ok (.invokevirtual i, 3)) (wl : (Jvm.Cond.methodLink y.cls i yc).before a0 Z = true) (wd : (Jvm.Cond.declares yc).before a0 Z = true) (nf : NotFace s yc) (wse : (Jvm.Cond.selects C0 yc zc).before a0 Z = true) (wst : (Jvm.Cond.instanceMethod zc).before a0 Z = true) (wz : (Jvm.Cond.initialized zc.cls).before a0 Z = true) (wc : (Jvm.Cond.code zc bytes maxL rt).before a0 Z = true) (hy : yc.cls ≠ "java/lang/invoke/MethodHandle" ∧ yc.cls ≠ "java/lang/invoke/VarHandle") (E : Exa Z h a C0) (hM : own_M l Z [] zc bytes maxL rt rm wc' (.ref a :: A).toArray h Q) (hws : ∀ b ∈ wc', b ∈ ws ∨ s.heap.size ≤ b) (hL : L.size = ml) (hds : parseMethodDescriptor yc.desc = some ⟨ps, rr⟩) (hA : A.length = ps.length) (hwt : (st.map fun v => v.category).sum ≤ wt) (hf : rm.frames + 1 ≤ R.frames) (hlo : wt + (maxL + 11) + rm.locals ≤ R.locals) (hc : cells + rm.cells ≤ R.cells) (hs : slots + rm.slots ≤ R.slots) (hp : pc + 3 = pc') (k : ∀ T' h' v, own_W p l e R s m args below meth c Z y ret code ml ws T' h' (cells + rm.cells) (slots + rm.slots) → Keep h h' wc' → (rm.cells = 0 → wc' = [] → h' = h) → Q v h' → own_Go p e below C T' (mkF m pc' L (v.toList ++ st))) : own_Go p e below C T (mkF m pc L (A.reverse ++ .ref a :: st)) := by
  have hsz := own_le W
  obtain ⟨⟨hx, hby, hml, hown, hnm, hrt, hlk, hZ⟩, locs, X, eT, N⟩ := W
  subst hp
  obtain ⟨cq, kq, qa, qb, qc⟩ := isOf hZ eT E
  obtain ⟨_, _, ⟨T', L', k', n'⟩, -, X', ⟨Lc', hQ', l', y', z'⟩, st'⟩ := X.virtualBack hx (y := yc) (z := zc) hown (mvT hZ wl) (mvT hZ wd) nf (mvT hZ wse) (mvT hZ wst) hy (backOf (W := wt) hM hZ wc wz hf hlo) qa qc (g := mkF m pc L (A.reverse ++ .ref a :: st)) rfl (by rw [hml]; exact hL) (Steps.refl _) (argsL := A) (rest := st) (lenOf hds hA) rfl (by show 2 * 0 + _ ≤ _; omega) (hb hby hd) (fun _ _ => ⟨rfl, eT, hc, hs⟩)
  dsimp only [Pt.U, Pt.locs, Pt.cells, Pt.slots] at X' l' y' z' st' hQ'
  subst l' y' z'
  exact own_tr st' (k T' _ _ ⟨⟨hx, hby, hml, hown, hnm, hrt, hlk, hZ⟩, _, X', rfl, own_Fw_app N hQ'.1 hws hsz⟩ hQ'.2.1 hQ'.2.2.1 hQ'.2.2.2)
theorem own_nf (W : own_W p l e R s m args below meth c Z y ret code ml ws T h cells slots) {C0 : String} {yc : MethodName} (wse : (Jvm.Cond.selects C0 yc yc).before a0 Z = true) : NotFace s yc := by
  have hsz := own_le W
  obtain ⟨⟨hx, hby, hml, hown, hnm, hrt, hlk, hZ⟩, locs, X, eT, N⟩ := W
  exact notFace_of_selects (args := #[]) (mvT hZ wse)
theorem own_initO (W : own_W p l e R s m args below meth c Z y ret code ml ws T h cells slots) {i : Nat} {a : Addr} (wt : Nat) {pc : Nat} (pc' : Nat) {L : Array Slot} {st : List Value} (hd : decode code pc = .ok (.invokespecial i, 3)) (w1 : (Jvm.Cond.methodLink y.cls i Lib.objectInit).before a0 Z = true) (w2 : (Jvm.Cond.instanceMethod Lib.objectInit).before a0 Z = true) (w3 : (Jvm.Cond.code Lib.objectInit ⟨#[0xb1]⟩ 1 none).before a0 Z = true) (hL : L.size = ml) (hwt : (st.map fun v => v.category).sum ≤ wt) (hf : 1 ≤ R.frames) (hlo : wt + 12 ≤ R.locals) (hp : pc + 3 = pc') (k : ∀ T', own_W p l e R s m args below meth c Z y ret code ml ws T' h cells slots → own_Go p e below C T' (mkF m pc' L st)) : own_Go p e below C T (mkF m pc L (.ref a :: st)) := by
  have hsz := own_le W
  obtain ⟨⟨hx, hby, hml, hown, hnm, hrt, hlk, hZ⟩, locs, X, eT, N⟩ := W
  subst hp
  obtain ⟨T', X', e', st'⟩ := initO X hx hZ hown w1 w2 w3 eT (g := mkF m pc L (.ref a :: st)) rfl (by rw [hml]; exact hL) rfl (hb hby hd) hf (W := wt) (by show 2 * 0 + _ ≤ _; omega) hlo
  exact own_st st' (k T' ⟨⟨hx, hby, hml, hown, hnm, hrt, hlk, hZ⟩, locs, X', e', N⟩)
theorem own_b1 {P : Prop} [Decidable P] (q : P) : ¬ (if P then (1 : Int32) else 0) = 0 := by rw [if_pos q]; decide
theorem own_b0 {P : Prop} [Decidable P] (q : ¬ P) : (if P then (1 : Int32) else 0) = 0 := if_neg q
theorem own_bz {P : Prop} [Decidable P] : (if P then (1 : Int32) else 0) &&& 1 = if P then (1 : Int32) else 0 := by split <;> rfl
end OwnKit

theorem wd0 {a0 : Array Value} {Z : State} (hw : ∀ d ∈ tables_1, d.before a0 Z = true) : (Jvm.Cond.constant "com/example/queueloom/queueloom/engine/ArrivalsAddPinLaw" (7 : Nat) (268435455 : Int32)).before a0 Z = true := hw _ (List.mem_of_getElem? (i := 0) rfl)
theorem wd1 {a0 : Array Value} {Z : State} (hw : ∀ d ∈ tables_1, d.before a0 Z = true) : (Jvm.Cond.methodLink "com/example/queueloom/queueloom/engine/ArrivalsAddPinLaw" (8 : Nat) ({ cls := "com/example/queueloom/queueloom/engine/ArrivalsAddPinLaw", name := "cb", desc := "(JIJI)I" } : Jvm.MethodName)).before a0 Z = true := hw _ (List.mem_of_getElem? (i := 1) rfl)
theorem wd2 {a0 : Array Value} {Z : State} (hw : ∀ d ∈ tables_1, d.before a0 Z = true) : (Jvm.Cond.static ({ cls := "com/example/queueloom/queueloom/engine/ArrivalsAddPinLaw", name := "cb", desc := "(JIJI)I" } : Jvm.MethodName)).before a0 Z = true := hw _ (List.mem_of_getElem? (i := 2) rfl)
theorem wd3 {a0 : Array Value} {Z : State} (hw : ∀ d ∈ tables_1, d.before a0 Z = true) : (Jvm.Cond.initialized "com/example/queueloom/queueloom/engine/ArrivalsAddPinLaw").before a0 Z = true := hw _ (List.mem_of_getElem? (i := 3) rfl)
theorem wd4 {a0 : Array Value} {Z : State} (hw : ∀ d ∈ tables_1, d.before a0 Z = true) : (Jvm.Cond.code ({ cls := "com/example/queueloom/queueloom/engine/ArrivalsAddPinLaw", name := "cb", desc := "(JIJI)I" } : Jvm.MethodName) method_2_code (6 : Nat) (Option.some Jvm.ClassFile.FieldType.int)).before a0 Z = true := hw _ (List.mem_of_getElem? (i := 4) rfl)
theorem wd5 {a0 : Array Value} {Z : State} (hw : ∀ d ∈ tables_1, d.before a0 Z = true) : (Jvm.Cond.arrayClass Jvm.ClassFile.FieldType.int).before a0 Z = true := hw _ (List.mem_of_getElem? (i := 5) rfl)
theorem wd6 {a0 : Array Value} {Z : State} (hw : ∀ d ∈ tables_1, d.before a0 Z = true) : (Jvm.Cond.arrayClass Jvm.ClassFile.FieldType.long).before a0 Z = true := hw _ (List.mem_of_getElem? (i := 6) rfl)
theorem wd7 {a0 : Array Value} {Z : State} (hw : ∀ d ∈ tables_1, d.before a0 Z = true) : (Jvm.Cond.classLink "com/example/queueloom/queueloom/engine/ArrivalsAddPinLaw" (14 : Nat) "com/example/queueloom/queueloom/engine/Arrivals").before a0 Z = true := hw _ (List.mem_of_getElem? (i := 7) rfl)
theorem wd8 {a0 : Array Value} {Z : State} (hw : ∀ d ∈ tables_1, d.before a0 Z = true) : (Jvm.Cond.instantiable "com/example/queueloom/queueloom/engine/Arrivals" (6 : Nat)).before a0 Z = true := hw _ (List.mem_of_getElem? (i := 8) rfl)
theorem wd9 {a0 : Array Value} {Z : State} (hw : ∀ d ∈ tables_1, d.before a0 Z = true) : (Jvm.Cond.initialized "com/example/queueloom/queueloom/engine/Arrivals").before a0 Z = true := hw _ (List.mem_of_getElem? (i := 9) rfl)
theorem wd10 {a0 : Array Value} {Z : State} (hw : ∀ d ∈ tables_1, d.before a0 Z = true) : (Jvm.Cond.methodLink "com/example/queueloom/queueloom/engine/ArrivalsAddPinLaw" (16 : Nat) ({ cls := "com/example/queueloom/queueloom/engine/Arrivals", name := "<init>", desc := "(I)V" } : Jvm.MethodName)).before a0 Z = true := hw _ (List.mem_of_getElem? (i := 10) rfl)
theorem wd11 {a0 : Array Value} {Z : State} (hw : ∀ d ∈ tables_1, d.before a0 Z = true) : (Jvm.Cond.instanceMethod ({ cls := "com/example/queueloom/queueloom/engine/Arrivals", name := "<init>", desc := "(I)V" } : Jvm.MethodName)).before a0 Z = true := hw _ (List.mem_of_getElem? (i := 11) rfl)
theorem wd12 {a0 : Array Value} {Z : State} (hw : ∀ d ∈ tables_1, d.before a0 Z = true) : (Jvm.Cond.code ({ cls := "com/example/queueloom/queueloom/engine/Arrivals", name := "<init>", desc := "(I)V" } : Jvm.MethodName) prog_53_method_1_code (2 : Nat) (Option.none : Option Jvm.ClassFile.FieldType)).before a0 Z = true := hw _ (List.mem_of_getElem? (i := 12) rfl)
theorem wd13 {a0 : Array Value} {Z : State} (hw : ∀ d ∈ tables_1, d.before a0 Z = true) : (Jvm.Cond.methodLink "com/example/queueloom/queueloom/engine/Arrivals" (1 : Nat) ({ cls := "java/lang/Object", name := "<init>", desc := "()V" } : Jvm.MethodName)).before a0 Z = true := hw _ (List.mem_of_getElem? (i := 13) rfl)
theorem wd14 {a0 : Array Value} {Z : State} (hw : ∀ d ∈ tables_1, d.before a0 Z = true) : (Jvm.Cond.instanceMethod ({ cls := "java/lang/Object", name := "<init>", desc := "()V" } : Jvm.MethodName)).before a0 Z = true := hw _ (List.mem_of_getElem? (i := 14) rfl)
theorem wd15 {a0 : Array Value} {Z : State} (hw : ∀ d ∈ tables_1, d.before a0 Z = true) : (Jvm.Cond.code ({ cls := "java/lang/Object", name := "<init>", desc := "()V" } : Jvm.MethodName) object_method_1_code (1 : Nat) (Option.none : Option Jvm.ClassFile.FieldType)).before a0 Z = true := hw _ (List.mem_of_getElem? (i := 15) rfl)
theorem wd16 {a0 : Array Value} {Z : State} (hw : ∀ d ∈ tables_1, d.before a0 Z = true) : (Jvm.Cond.fieldLink "com/example/queueloom/queueloom/engine/Arrivals" (7 : Nat) "com/example/queueloom/queueloom/engine/Arrivals" "inOrder" "Z").before a0 Z = true := hw _ (List.mem_of_getElem? (i := 16) rfl)
theorem wd17 {a0 : Array Value} {Z : State} (hw : ∀ d ∈ tables_1, d.before a0 Z = true) : (Jvm.Cond.lays "com/example/queueloom/queueloom/engine/Arrivals" "com/example/queueloom/queueloom/engine/Arrivals" "inOrder" "Z").before a0 Z = true := hw _ (List.mem_of_getElem? (i := 17) rfl)
theorem wd18 {a0 : Array Value} {Z : State} (hw : ∀ d ∈ tables_1, d.before a0 Z = true) : (Jvm.Cond.fieldLink "com/example/queueloom/queueloom/engine/Arrivals" (13 : Nat) "com/example/queueloom/queueloom/engine/Arrivals" "times" "[J").before a0 Z = true := hw _ (List.mem_of_getElem? (i := 18) rfl)
theorem wd19 {a0 : Array Value} {Z : State} (hw : ∀ d ∈ tables_1, d.before a0 Z = true) : (Jvm.Cond.lays "com/example/queueloom/queueloom/engine/Arrivals" "com/example/queueloom/queueloom/engine/Arrivals" "times" "[J").before a0 Z = true := hw _ (List.mem_of_getElem? (i := 19) rfl)
theorem wd20 {a0 : Array Value} {Z : State} (hw : ∀ d ∈ tables_1, d.before a0 Z = true) : (Jvm.Cond.fieldLink "com/example/queueloom/queueloom/engine/Arrivals" (17 : Nat) "com/example/queueloom/queueloom/engine/Arrivals" "indices" "[I").before a0 Z = true := hw _ (List.mem_of_getElem? (i := 20) rfl)
theorem wd21 {a0 : Array Value} {Z : State} (hw : ∀ d ∈ tables_1, d.before a0 Z = true) : (Jvm.Cond.lays "com/example/queueloom/queueloom/engine/Arrivals" "com/example/queueloom/queueloom/engine/Arrivals" "indices" "[I").before a0 Z = true := hw _ (List.mem_of_getElem? (i := 21) rfl)
theorem wd22 {a0 : Array Value} {Z : State} (hw : ∀ d ∈ tables_1, d.before a0 Z = true) : (Jvm.Cond.methodLink "com/example/queueloom/queueloom/engine/ArrivalsAddPinLaw" (19 : Nat) ({ cls := "com/example/queueloom/queueloom/engine/Arrivals", name := "add", desc := "(JI)V" } : Jvm.MethodName)).before a0 Z = true := hw _ (List.mem_of_getElem? (i := 22) rfl)
theorem wd23 {a0 : Array Value} {Z : State} (hw : ∀ d ∈ tables_1, d.before a0 Z = true) : (Jvm.Cond.declares ({ cls := "com/example/queueloom/queueloom/engine/Arrivals", name := "add", desc := "(JI)V" } : Jvm.MethodName)).before a0 Z = true := hw _ (List.mem_of_getElem? (i := 23) rfl)
theorem wd24 {a0 : Array Value} {Z : State} (hw : ∀ d ∈ tables_1, d.before a0 Z = true) : (Jvm.Cond.instanceMethod ({ cls := "com/example/queueloom/queueloom/engine/Arrivals", name := "add", desc := "(JI)V" } : Jvm.MethodName)).before a0 Z = true := hw _ (List.mem_of_getElem? (i := 24) rfl)
theorem wd25 {a0 : Array Value} {Z : State} (hw : ∀ d ∈ tables_1, d.before a0 Z = true) : (Jvm.Cond.selects "com/example/queueloom/queueloom/engine/Arrivals" ({ cls := "com/example/queueloom/queueloom/engine/Arrivals", name := "add", desc := "(JI)V" } : Jvm.MethodName) ({ cls := "com/example/queueloom/queueloom/engine/Arrivals", name := "add", desc := "(JI)V" } : Jvm.MethodName)).before a0 Z = true := hw _ (List.mem_of_getElem? (i := 25) rfl)
theorem wd26 {a0 : Array Value} {Z : State} (hw : ∀ d ∈ tables_1, d.before a0 Z = true) : (Jvm.Cond.code ({ cls := "com/example/queueloom/queueloom/engine/Arrivals", name := "add", desc := "(JI)V" } : Jvm.MethodName) prog_53_method_2_code (4 : Nat) (Option.none : Option Jvm.ClassFile.FieldType)).before a0 Z = true := hw _ (List.mem_of_getElem? (i := 26) rfl)
theorem wd27 {a0 : Array Value} {Z : State} (hw : ∀ d ∈ tables_1, d.before a0 Z = true) : (Jvm.Cond.fieldLink "com/example/queueloom/queueloom/engine/Arrivals" (21 : Nat) "com/example/queueloom/queueloom/engine/Arrivals" "count" "I").before a0 Z = true := hw _ (List.mem_of_getElem? (i := 27) rfl)
theorem wd28 {a0 : Array Value} {Z : State} (hw : ∀ d ∈ tables_1, d.before a0 Z = true) : (Jvm.Cond.lays "com/example/queueloom/queueloom/engine/Arrivals" "com/example/queueloom/queueloom/engine/Arrivals" "count" "I").before a0 Z = true := hw _ (List.mem_of_getElem? (i := 28) rfl)
theorem wd29 {a0 : Array Value} {Z : State} (hw : ∀ d ∈ tables_1, d.before a0 Z = true) : (Jvm.Cond.methodLink "com/example/queueloom/queueloom/engine/ArrivalsAddPinLaw" (23 : Nat) ({ cls := "com/example/queueloom/queueloom/engine/Arrivals", name := "order", desc := "()[I" } : Jvm.MethodName)).before a0 Z = true := hw _ (List.mem_of_getElem? (i := 29) rfl)
theorem wd30 {a0 : Array Value} {Z : State} (hw : ∀ d ∈ tables_1, d.before a0 Z = true) : (Jvm.Cond.declares ({ cls := "com/example/queueloom/queueloom/engine/Arrivals", name := "order", desc := "()[I" } : Jvm.MethodName)).before a0 Z = true := hw _ (List.mem_of_getElem? (i := 30) rfl)
theorem wd31 {a0 : Array Value} {Z : State} (hw : ∀ d ∈ tables_1, d.before a0 Z = true) : (Jvm.Cond.instanceMethod ({ cls := "com/example/queueloom/queueloom/engine/Arrivals", name := "order", desc := "()[I" } : Jvm.MethodName)).before a0 Z = true := hw _ (List.mem_of_getElem? (i := 31) rfl)
theorem wd32 {a0 : Array Value} {Z : State} (hw : ∀ d ∈ tables_1, d.before a0 Z = true) : (Jvm.Cond.selects "com/example/queueloom/queueloom/engine/Arrivals" ({ cls := "com/example/queueloom/queueloom/engine/Arrivals", name := "order", desc := "()[I" } : Jvm.MethodName) ({ cls := "com/example/queueloom/queueloom/engine/Arrivals", name := "order", desc := "()[I" } : Jvm.MethodName)).before a0 Z = true := hw _ (List.mem_of_getElem? (i := 32) rfl)
theorem wd33 {a0 : Array Value} {Z : State} (hw : ∀ d ∈ tables_1, d.before a0 Z = true) : (Jvm.Cond.code ({ cls := "com/example/queueloom/queueloom/engine/Arrivals", name := "order", desc := "()[I" } : Jvm.MethodName) prog_53_method_5_code (1 : Nat) (Option.some (Jvm.ClassFile.FieldType.array Jvm.ClassFile.FieldType.int))).before a0 Z = true := hw _ (List.mem_of_getElem? (i := 33) rfl)
theorem wd34 {a0 : Array Value} {Z : State} (hw : ∀ d ∈ tables_1, d.before a0 Z = true) : (Jvm.Cond.fieldLink "com/example/queueloom/queueloom/engine/Arrivals" (25 : Nat) "com/example/queueloom/queueloom/engine/Arrivals" "first" "I").before a0 Z = true := hw _ (List.mem_of_getElem? (i := 34) rfl)
theorem wd35 {a0 : Array Value} {Z : State} (hw : ∀ d ∈ tables_1, d.before a0 Z = true) : (Jvm.Cond.lays "com/example/queueloom/queueloom/engine/Arrivals" "com/example/queueloom/queueloom/engine/Arrivals" "first" "I").before a0 Z = true := hw _ (List.mem_of_getElem? (i := 35) rfl)
theorem wd36 {a0 : Array Value} {Z : State} (hw : ∀ d ∈ tables_1, d.before a0 Z = true) : (Jvm.Cond.methodLink "com/example/queueloom/queueloom/engine/Arrivals" (63 : Nat) ({ cls := "java/util/Arrays", name := "copyOfRange", desc := "([III)[I" } : Jvm.MethodName)).before a0 Z = true := hw _ (List.mem_of_getElem? (i := 36) rfl)
theorem wd37 {a0 : Array Value} {Z : State} (hw : ∀ d ∈ tables_1, d.before a0 Z = true) : (Jvm.Cond.static ({ cls := "java/util/Arrays", name := "copyOfRange", desc := "([III)[I" } : Jvm.MethodName)).before a0 Z = true := hw _ (List.mem_of_getElem? (i := 37) rfl)
theorem wd38 {a0 : Array Value} {Z : State} (hw : ∀ d ∈ tables_1, d.before a0 Z = true) : (Jvm.Cond.initialized "java/util/Arrays").before a0 Z = true := hw _ (List.mem_of_getElem? (i := 38) rfl)
theorem wd39 {a0 : Array Value} {Z : State} (hw : ∀ d ∈ tables_1, d.before a0 Z = true) : (Jvm.Cond.code ({ cls := "java/util/Arrays", name := "copyOfRange", desc := "([III)[I" } : Jvm.MethodName) jdk_65_method_136_code (3 : Nat) (Option.some (Jvm.ClassFile.FieldType.array Jvm.ClassFile.FieldType.int))).before a0 Z = true := hw _ (List.mem_of_getElem? (i := 39) rfl)
theorem wd40 {a0 : Array Value} {Z : State} (hw : ∀ d ∈ tables_1, d.before a0 Z = true) : (Jvm.Cond.methodLink "java/util/Arrays" (316 : Nat) ({ cls := "[I", name := "clone", desc := "()Ljava/lang/Object;" } : Jvm.MethodName)).before a0 Z = true := hw _ (List.mem_of_getElem? (i := 40) rfl)
theorem wd41 {a0 : Array Value} {Z : State} (hw : ∀ d ∈ tables_1, d.before a0 Z = true) : (Jvm.Cond.sameMethod "[I" "java/lang/Object" "clone" "()Ljava/lang/Object;").before a0 Z = true := hw _ (List.mem_of_getElem? (i := 41) rfl)
theorem wd43 {a0 : Array Value} {Z : State} (hw : ∀ d ∈ tables_1, d.before a0 Z = true) : (Jvm.Cond.instanceMethod ({ cls := "java/lang/Object", name := "clone", desc := "()Ljava/lang/Object;" } : Jvm.MethodName)).before a0 Z = true := hw _ (List.mem_of_getElem? (i := 43) rfl)
theorem wd44 {a0 : Array Value} {Z : State} (hw : ∀ d ∈ tables_1, d.before a0 Z = true) : (Jvm.Cond.selects "[I" ({ cls := "[I", name := "clone", desc := "()Ljava/lang/Object;" } : Jvm.MethodName) ({ cls := "java/lang/Object", name := "clone", desc := "()Ljava/lang/Object;" } : Jvm.MethodName)).before a0 Z = true := hw _ (List.mem_of_getElem? (i := 44) rfl)
theorem wd45 {a0 : Array Value} {Z : State} (hw : ∀ d ∈ tables_1, d.before a0 Z = true) : (Jvm.Cond.native ({ cls := "java/lang/Object", name := "clone", desc := "()Ljava/lang/Object;" } : Jvm.MethodName)).before a0 Z = true := hw _ (List.mem_of_getElem? (i := 45) rfl)
theorem wd46 {a0 : Array Value} {Z : State} (hw : ∀ d ∈ tables_1, d.before a0 Z = true) : (Jvm.Cond.castable "[I" "java/lang/Cloneable").before a0 Z = true := hw _ (List.mem_of_getElem? (i := 46) rfl)
theorem wd47 {a0 : Array Value} {Z : State} (hw : ∀ d ∈ tables_1, d.before a0 Z = true) : (Jvm.Cond.classLink "java/util/Arrays" (317 : Nat) "[I").before a0 Z = true := hw _ (List.mem_of_getElem? (i := 47) rfl)
theorem wd49 {a0 : Array Value} {Z : State} (hw : ∀ d ∈ tables_1, d.before a0 Z = true) : (Jvm.Cond.methodLink "com/example/queueloom/queueloom/engine/ArrivalsAddPinLaw" (27 : Nat) ({ cls := "com/example/queueloom/queueloom/engine/Arrivals", name := "settle", desc := "()V" } : Jvm.MethodName)).before a0 Z = true := hw _ (List.mem_of_getElem? (i := 49) rfl)
theorem wd50 {a0 : Array Value} {Z : State} (hw : ∀ d ∈ tables_1, d.before a0 Z = true) : (Jvm.Cond.declares ({ cls := "com/example/queueloom/queueloom/engine/Arrivals", name := "settle", desc := "()V" } : Jvm.MethodName)).before a0 Z = true := hw _ (List.mem_of_getElem? (i := 50) rfl)
theorem wd51 {a0 : Array Value} {Z : State} (hw : ∀ d ∈ tables_1, d.before a0 Z = true) : (Jvm.Cond.instanceMethod ({ cls := "com/example/queueloom/queueloom/engine/Arrivals", name := "settle", desc := "()V" } : Jvm.MethodName)).before a0 Z = true := hw _ (List.mem_of_getElem? (i := 51) rfl)
theorem wd52 {a0 : Array Value} {Z : State} (hw : ∀ d ∈ tables_1, d.before a0 Z = true) : (Jvm.Cond.selects "com/example/queueloom/queueloom/engine/Arrivals" ({ cls := "com/example/queueloom/queueloom/engine/Arrivals", name := "settle", desc := "()V" } : Jvm.MethodName) ({ cls := "com/example/queueloom/queueloom/engine/Arrivals", name := "settle", desc := "()V" } : Jvm.MethodName)).before a0 Z = true := hw _ (List.mem_of_getElem? (i := 52) rfl)
theorem wd53 {a0 : Array Value} {Z : State} (hw : ∀ d ∈ tables_1, d.before a0 Z = true) : (Jvm.Cond.code ({ cls := "com/example/queueloom/queueloom/engine/Arrivals", name := "settle", desc := "()V" } : Jvm.MethodName) prog_53_method_4_code (3 : Nat) (Option.none : Option Jvm.ClassFile.FieldType)).before a0 Z = true := hw _ (List.mem_of_getElem? (i := 53) rfl)
theorem wd54 {a0 : Array Value} {Z : State} (hw : ∀ d ∈ tables_1, d.before a0 Z = true) : (Jvm.Cond.classLink "com/example/queueloom/queueloom/engine/Arrivals" (44 : Nat) "com/example/queueloom/queueloom/engine/LongPairHeap").before a0 Z = true := hw _ (List.mem_of_getElem? (i := 54) rfl)
theorem wd55 {a0 : Array Value} {Z : State} (hw : ∀ d ∈ tables_1, d.before a0 Z = true) : (Jvm.Cond.instantiable "com/example/queueloom/queueloom/engine/LongPairHeap" (3 : Nat)).before a0 Z = true := hw _ (List.mem_of_getElem? (i := 55) rfl)
theorem wd56 {a0 : Array Value} {Z : State} (hw : ∀ d ∈ tables_1, d.before a0 Z = true) : (Jvm.Cond.initialized "com/example/queueloom/queueloom/engine/LongPairHeap").before a0 Z = true := hw _ (List.mem_of_getElem? (i := 56) rfl)
theorem wd57 {a0 : Array Value} {Z : State} (hw : ∀ d ∈ tables_1, d.before a0 Z = true) : (Jvm.Cond.methodLink "com/example/queueloom/queueloom/engine/Arrivals" (46 : Nat) ({ cls := "com/example/queueloom/queueloom/engine/LongPairHeap", name := "<init>", desc := "(I)V" } : Jvm.MethodName)).before a0 Z = true := hw _ (List.mem_of_getElem? (i := 57) rfl)
theorem wd58 {a0 : Array Value} {Z : State} (hw : ∀ d ∈ tables_1, d.before a0 Z = true) : (Jvm.Cond.instanceMethod ({ cls := "com/example/queueloom/queueloom/engine/LongPairHeap", name := "<init>", desc := "(I)V" } : Jvm.MethodName)).before a0 Z = true := hw _ (List.mem_of_getElem? (i := 58) rfl)
theorem wd59 {a0 : Array Value} {Z : State} (hw : ∀ d ∈ tables_1, d.before a0 Z = true) : (Jvm.Cond.code ({ cls := "com/example/queueloom/queueloom/engine/LongPairHeap", name := "<init>", desc := "(I)V" } : Jvm.MethodName) prog_61_method_1_code (2 : Nat) (Option.none : Option Jvm.ClassFile.FieldType)).before a0 Z = true := hw _ (List.mem_of_getElem? (i := 59) rfl)
theorem wd60 {a0 : Array Value} {Z : State} (hw : ∀ d ∈ tables_1, d.before a0 Z = true) : (Jvm.Cond.methodLink "com/example/queueloom/queueloom/engine/LongPairHeap" (1 : Nat) ({ cls := "java/lang/Object", name := "<init>", desc := "()V" } : Jvm.MethodName)).before a0 Z = true := hw _ (List.mem_of_getElem? (i := 60) rfl)
theorem wd61 {a0 : Array Value} {Z : State} (hw : ∀ d ∈ tables_1, d.before a0 Z = true) : (Jvm.Cond.fieldLink "com/example/queueloom/queueloom/engine/LongPairHeap" (20 : Nat) "com/example/queueloom/queueloom/engine/LongPairHeap" "keys" "[J").before a0 Z = true := hw _ (List.mem_of_getElem? (i := 61) rfl)
theorem wd62 {a0 : Array Value} {Z : State} (hw : ∀ d ∈ tables_1, d.before a0 Z = true) : (Jvm.Cond.lays "com/example/queueloom/queueloom/engine/LongPairHeap" "com/example/queueloom/queueloom/engine/LongPairHeap" "keys" "[J").before a0 Z = true := hw _ (List.mem_of_getElem? (i := 62) rfl)
theorem wd63 {a0 : Array Value} {Z : State} (hw : ∀ d ∈ tables_1, d.before a0 Z = true) : (Jvm.Cond.fieldLink "com/example/queueloom/queueloom/engine/LongPairHeap" (23 : Nat) "com/example/queueloom/queueloom/engine/LongPairHeap" "values" "[J").before a0 Z = true := hw _ (List.mem_of_getElem? (i := 63) rfl)
theorem wd64 {a0 : Array Value} {Z : State} (hw : ∀ d ∈ tables_1, d.before a0 Z = true) : (Jvm.Cond.lays "com/example/queueloom/queueloom/engine/LongPairHeap" "com/example/queueloom/queueloom/engine/LongPairHeap" "values" "[J").before a0 Z = true := hw _ (List.mem_of_getElem? (i := 64) rfl)
theorem wd65 {a0 : Array Value} {Z : State} (hw : ∀ d ∈ tables_1, d.before a0 Z = true) : (Jvm.Cond.methodLink "com/example/queueloom/queueloom/engine/Arrivals" (49 : Nat) ({ cls := "com/example/queueloom/queueloom/engine/LongPairHeap", name := "add", desc := "(JJ)V" } : Jvm.MethodName)).before a0 Z = true := hw _ (List.mem_of_getElem? (i := 65) rfl)
theorem wd66 {a0 : Array Value} {Z : State} (hw : ∀ d ∈ tables_1, d.before a0 Z = true) : (Jvm.Cond.declares ({ cls := "com/example/queueloom/queueloom/engine/LongPairHeap", name := "add", desc := "(JJ)V" } : Jvm.MethodName)).before a0 Z = true := hw _ (List.mem_of_getElem? (i := 66) rfl)
theorem wd67 {a0 : Array Value} {Z : State} (hw : ∀ d ∈ tables_1, d.before a0 Z = true) : (Jvm.Cond.instanceMethod ({ cls := "com/example/queueloom/queueloom/engine/LongPairHeap", name := "add", desc := "(JJ)V" } : Jvm.MethodName)).before a0 Z = true := hw _ (List.mem_of_getElem? (i := 67) rfl)
theorem wd68 {a0 : Array Value} {Z : State} (hw : ∀ d ∈ tables_1, d.before a0 Z = true) : (Jvm.Cond.selects "com/example/queueloom/queueloom/engine/LongPairHeap" ({ cls := "com/example/queueloom/queueloom/engine/LongPairHeap", name := "add", desc := "(JJ)V" } : Jvm.MethodName) ({ cls := "com/example/queueloom/queueloom/engine/LongPairHeap", name := "add", desc := "(JJ)V" } : Jvm.MethodName)).before a0 Z = true := hw _ (List.mem_of_getElem? (i := 68) rfl)
theorem wd69 {a0 : Array Value} {Z : State} (hw : ∀ d ∈ tables_1, d.before a0 Z = true) : (Jvm.Cond.code ({ cls := "com/example/queueloom/queueloom/engine/LongPairHeap", name := "add", desc := "(JJ)V" } : Jvm.MethodName) prog_61_method_6_code (11 : Nat) (Option.none : Option Jvm.ClassFile.FieldType)).before a0 Z = true := hw _ (List.mem_of_getElem? (i := 69) rfl)
theorem wd70 {a0 : Array Value} {Z : State} (hw : ∀ d ∈ tables_1, d.before a0 Z = true) : (Jvm.Cond.fieldLink "com/example/queueloom/queueloom/engine/LongPairHeap" (26 : Nat) "com/example/queueloom/queueloom/engine/LongPairHeap" "size" "I").before a0 Z = true := hw _ (List.mem_of_getElem? (i := 70) rfl)
theorem wd71 {a0 : Array Value} {Z : State} (hw : ∀ d ∈ tables_1, d.before a0 Z = true) : (Jvm.Cond.lays "com/example/queueloom/queueloom/engine/LongPairHeap" "com/example/queueloom/queueloom/engine/LongPairHeap" "size" "I").before a0 Z = true := hw _ (List.mem_of_getElem? (i := 71) rfl)
theorem wd72 {a0 : Array Value} {Z : State} (hw : ∀ d ∈ tables_1, d.before a0 Z = true) : (Jvm.Cond.methodLink "com/example/queueloom/queueloom/engine/Arrivals" (53 : Nat) ({ cls := "com/example/queueloom/queueloom/engine/LongPairHeap", name := "firstKey", desc := "()J" } : Jvm.MethodName)).before a0 Z = true := hw _ (List.mem_of_getElem? (i := 72) rfl)
theorem wd73 {a0 : Array Value} {Z : State} (hw : ∀ d ∈ tables_1, d.before a0 Z = true) : (Jvm.Cond.declares ({ cls := "com/example/queueloom/queueloom/engine/LongPairHeap", name := "firstKey", desc := "()J" } : Jvm.MethodName)).before a0 Z = true := hw _ (List.mem_of_getElem? (i := 73) rfl)
theorem wd74 {a0 : Array Value} {Z : State} (hw : ∀ d ∈ tables_1, d.before a0 Z = true) : (Jvm.Cond.instanceMethod ({ cls := "com/example/queueloom/queueloom/engine/LongPairHeap", name := "firstKey", desc := "()J" } : Jvm.MethodName)).before a0 Z = true := hw _ (List.mem_of_getElem? (i := 74) rfl)
theorem wd75 {a0 : Array Value} {Z : State} (hw : ∀ d ∈ tables_1, d.before a0 Z = true) : (Jvm.Cond.selects "com/example/queueloom/queueloom/engine/LongPairHeap" ({ cls := "com/example/queueloom/queueloom/engine/LongPairHeap", name := "firstKey", desc := "()J" } : Jvm.MethodName) ({ cls := "com/example/queueloom/queueloom/engine/LongPairHeap", name := "firstKey", desc := "()J" } : Jvm.MethodName)).before a0 Z = true := hw _ (List.mem_of_getElem? (i := 75) rfl)
theorem wd76 {a0 : Array Value} {Z : State} (hw : ∀ d ∈ tables_1, d.before a0 Z = true) : (Jvm.Cond.code ({ cls := "com/example/queueloom/queueloom/engine/LongPairHeap", name := "firstKey", desc := "()J" } : Jvm.MethodName) prog_61_method_4_code (1 : Nat) (Option.some Jvm.ClassFile.FieldType.long)).before a0 Z = true := hw _ (List.mem_of_getElem? (i := 76) rfl)
theorem wd77 {a0 : Array Value} {Z : State} (hw : ∀ d ∈ tables_1, d.before a0 Z = true) : (Jvm.Cond.methodLink "com/example/queueloom/queueloom/engine/Arrivals" (57 : Nat) ({ cls := "com/example/queueloom/queueloom/engine/LongPairHeap", name := "firstValue", desc := "()J" } : Jvm.MethodName)).before a0 Z = true := hw _ (List.mem_of_getElem? (i := 77) rfl)
theorem wd78 {a0 : Array Value} {Z : State} (hw : ∀ d ∈ tables_1, d.before a0 Z = true) : (Jvm.Cond.declares ({ cls := "com/example/queueloom/queueloom/engine/LongPairHeap", name := "firstValue", desc := "()J" } : Jvm.MethodName)).before a0 Z = true := hw _ (List.mem_of_getElem? (i := 78) rfl)
theorem wd79 {a0 : Array Value} {Z : State} (hw : ∀ d ∈ tables_1, d.before a0 Z = true) : (Jvm.Cond.instanceMethod ({ cls := "com/example/queueloom/queueloom/engine/LongPairHeap", name := "firstValue", desc := "()J" } : Jvm.MethodName)).before a0 Z = true := hw _ (List.mem_of_getElem? (i := 79) rfl)
theorem wd80 {a0 : Array Value} {Z : State} (hw : ∀ d ∈ tables_1, d.before a0 Z = true) : (Jvm.Cond.selects "com/example/queueloom/queueloom/engine/LongPairHeap" ({ cls := "com/example/queueloom/queueloom/engine/LongPairHeap", name := "firstValue", desc := "()J" } : Jvm.MethodName) ({ cls := "com/example/queueloom/queueloom/engine/LongPairHeap", name := "firstValue", desc := "()J" } : Jvm.MethodName)).before a0 Z = true := hw _ (List.mem_of_getElem? (i := 80) rfl)
theorem wd81 {a0 : Array Value} {Z : State} (hw : ∀ d ∈ tables_1, d.before a0 Z = true) : (Jvm.Cond.code ({ cls := "com/example/queueloom/queueloom/engine/LongPairHeap", name := "firstValue", desc := "()J" } : Jvm.MethodName) prog_61_method_5_code (1 : Nat) (Option.some Jvm.ClassFile.FieldType.long)).before a0 Z = true := hw _ (List.mem_of_getElem? (i := 81) rfl)
theorem wd82 {a0 : Array Value} {Z : State} (hw : ∀ d ∈ tables_1, d.before a0 Z = true) : (Jvm.Cond.methodLink "com/example/queueloom/queueloom/engine/Arrivals" (60 : Nat) ({ cls := "com/example/queueloom/queueloom/engine/LongPairHeap", name := "removeFirst", desc := "()V" } : Jvm.MethodName)).before a0 Z = true := hw _ (List.mem_of_getElem? (i := 82) rfl)
theorem wd83 {a0 : Array Value} {Z : State} (hw : ∀ d ∈ tables_1, d.before a0 Z = true) : (Jvm.Cond.declares ({ cls := "com/example/queueloom/queueloom/engine/LongPairHeap", name := "removeFirst", desc := "()V" } : Jvm.MethodName)).before a0 Z = true := hw _ (List.mem_of_getElem? (i := 83) rfl)
theorem wd84 {a0 : Array Value} {Z : State} (hw : ∀ d ∈ tables_1, d.before a0 Z = true) : (Jvm.Cond.instanceMethod ({ cls := "com/example/queueloom/queueloom/engine/LongPairHeap", name := "removeFirst", desc := "()V" } : Jvm.MethodName)).before a0 Z = true := hw _ (List.mem_of_getElem? (i := 84) rfl)
theorem wd85 {a0 : Array Value} {Z : State} (hw : ∀ d ∈ tables_1, d.before a0 Z = true) : (Jvm.Cond.selects "com/example/queueloom/queueloom/engine/LongPairHeap" ({ cls := "com/example/queueloom/queueloom/engine/LongPairHeap", name := "removeFirst", desc := "()V" } : Jvm.MethodName) ({ cls := "com/example/queueloom/queueloom/engine/LongPairHeap", name := "removeFirst", desc := "()V" } : Jvm.MethodName)).before a0 Z = true := hw _ (List.mem_of_getElem? (i := 85) rfl)
theorem wd86 {a0 : Array Value} {Z : State} (hw : ∀ d ∈ tables_1, d.before a0 Z = true) : (Jvm.Cond.code ({ cls := "com/example/queueloom/queueloom/engine/LongPairHeap", name := "removeFirst", desc := "()V" } : Jvm.MethodName) prog_61_method_8_code (2 : Nat) (Option.none : Option Jvm.ClassFile.FieldType)).before a0 Z = true := hw _ (List.mem_of_getElem? (i := 86) rfl)
theorem wd87 {a0 : Array Value} {Z : State} (hw : ∀ d ∈ tables_1, d.before a0 Z = true) : (Jvm.Cond.methodLink "com/example/queueloom/queueloom/engine/LongPairHeap" (46 : Nat) ({ cls := "com/example/queueloom/queueloom/engine/LongPairHeap", name := "siftDown", desc := "([J[JII)V" } : Jvm.MethodName)).before a0 Z = true := hw _ (List.mem_of_getElem? (i := 87) rfl)
theorem wd88 {a0 : Array Value} {Z : State} (hw : ∀ d ∈ tables_1, d.before a0 Z = true) : (Jvm.Cond.static ({ cls := "com/example/queueloom/queueloom/engine/LongPairHeap", name := "siftDown", desc := "([J[JII)V" } : Jvm.MethodName)).before a0 Z = true := hw _ (List.mem_of_getElem? (i := 88) rfl)
theorem wd89 {a0 : Array Value} {Z : State} (hw : ∀ d ∈ tables_1, d.before a0 Z = true) : (Jvm.Cond.code ({ cls := "com/example/queueloom/queueloom/engine/LongPairHeap", name := "siftDown", desc := "([J[JII)V" } : Jvm.MethodName) prog_61_method_9_code (14 : Nat) (Option.none : Option Jvm.ClassFile.FieldType)).before a0 Z = true := hw _ (List.mem_of_getElem? (i := 89) rfl)
theorem wd90 {a0 : Array Value} {Z : State} (hw : ∀ d ∈ tables_1, d.before a0 Z = true) : (Jvm.Cond.methodLink "com/example/queueloom/queueloom/engine/ArrivalsAddPinLaw" (30 : Nat) ({ cls := "com/example/queueloom/queueloom/engine/Arrivals", name := "firstTime", desc := "()J" } : Jvm.MethodName)).before a0 Z = true := hw _ (List.mem_of_getElem? (i := 90) rfl)
theorem wd91 {a0 : Array Value} {Z : State} (hw : ∀ d ∈ tables_1, d.before a0 Z = true) : (Jvm.Cond.declares ({ cls := "com/example/queueloom/queueloom/engine/Arrivals", name := "firstTime", desc := "()J" } : Jvm.MethodName)).before a0 Z = true := hw _ (List.mem_of_getElem? (i := 91) rfl)
theorem wd92 {a0 : Array Value} {Z : State} (hw : ∀ d ∈ tables_1, d.before a0 Z = true) : (Jvm.Cond.instanceMethod ({ cls := "com/example/queueloom/queueloom/engine/Arrivals", name := "firstTime", desc := "()J" } : Jvm.MethodName)).before a0 Z = true := hw _ (List.mem_of_getElem? (i := 92) rfl)
theorem wd93 {a0 : Array Value} {Z : State} (hw : ∀ d ∈ tables_1, d.before a0 Z = true) : (Jvm.Cond.selects "com/example/queueloom/queueloom/engine/Arrivals" ({ cls := "com/example/queueloom/queueloom/engine/Arrivals", name := "firstTime", desc := "()J" } : Jvm.MethodName) ({ cls := "com/example/queueloom/queueloom/engine/Arrivals", name := "firstTime", desc := "()J" } : Jvm.MethodName)).before a0 Z = true := hw _ (List.mem_of_getElem? (i := 93) rfl)
theorem wd94 {a0 : Array Value} {Z : State} (hw : ∀ d ∈ tables_1, d.before a0 Z = true) : (Jvm.Cond.code ({ cls := "com/example/queueloom/queueloom/engine/Arrivals", name := "firstTime", desc := "()J" } : Jvm.MethodName) prog_53_method_9_code (1 : Nat) (Option.some Jvm.ClassFile.FieldType.long)).before a0 Z = true := hw _ (List.mem_of_getElem? (i := 94) rfl)
theorem wd95 {a0 : Array Value} {Z : State} (hw : ∀ d ∈ tables_1, d.before a0 Z = true) : (Jvm.Cond.methodLink "com/example/queueloom/queueloom/engine/Arrivals" (83 : Nat) ({ cls := "com/example/queueloom/queueloom/engine/Arrivals", name := "nextIsLater", desc := "()Z" } : Jvm.MethodName)).before a0 Z = true := hw _ (List.mem_of_getElem? (i := 95) rfl)
theorem wd96 {a0 : Array Value} {Z : State} (hw : ∀ d ∈ tables_1, d.before a0 Z = true) : (Jvm.Cond.instanceMethod ({ cls := "com/example/queueloom/queueloom/engine/Arrivals", name := "nextIsLater", desc := "()Z" } : Jvm.MethodName)).before a0 Z = true := hw _ (List.mem_of_getElem? (i := 96) rfl)
theorem wd97 {a0 : Array Value} {Z : State} (hw : ∀ d ∈ tables_1, d.before a0 Z = true) : (Jvm.Cond.privateMethod ({ cls := "com/example/queueloom/queueloom/engine/Arrivals", name := "nextIsLater", desc := "()Z" } : Jvm.MethodName)).before a0 Z = true := hw _ (List.mem_of_getElem? (i := 97) rfl)
theorem wd98 {a0 : Array Value} {Z : State} (hw : ∀ d ∈ tables_1, d.before a0 Z = true) : (Jvm.Cond.code ({ cls := "com/example/queueloom/queueloom/engine/Arrivals", name := "nextIsLater", desc := "()Z" } : Jvm.MethodName) prog_53_method_12_code (3 : Nat) (Option.some Jvm.ClassFile.FieldType.boolean)).before a0 Z = true := hw _ (List.mem_of_getElem? (i := 98) rfl)
theorem wd99 {a0 : Array Value} {Z : State} (hw : ∀ d ∈ tables_1, d.before a0 Z = true) : (Jvm.Cond.fieldLink "com/example/queueloom/queueloom/engine/Arrivals" (75 : Nat) "com/example/queueloom/queueloom/engine/Arrivals" "later" "Lcom/example/queueloom/queueloom/engine/LongPairHeap;").before a0 Z = true := hw _ (List.mem_of_getElem? (i := 99) rfl)
theorem wd100 {a0 : Array Value} {Z : State} (hw : ∀ d ∈ tables_1, d.before a0 Z = true) : (Jvm.Cond.lays "com/example/queueloom/queueloom/engine/Arrivals" "com/example/queueloom/queueloom/engine/Arrivals" "later" "Lcom/example/queueloom/queueloom/engine/LongPairHeap;").before a0 Z = true := hw _ (List.mem_of_getElem? (i := 100) rfl)
theorem wd101 {a0 : Array Value} {Z : State} (hw : ∀ d ∈ tables_1, d.before a0 Z = true) : (Jvm.Cond.methodLink "com/example/queueloom/queueloom/engine/ArrivalsAddPinLaw" (34 : Nat) ({ cls := "com/example/queueloom/queueloom/engine/Arrivals", name := "firstIndex", desc := "()I" } : Jvm.MethodName)).before a0 Z = true := hw _ (List.mem_of_getElem? (i := 101) rfl)
theorem wd102 {a0 : Array Value} {Z : State} (hw : ∀ d ∈ tables_1, d.before a0 Z = true) : (Jvm.Cond.declares ({ cls := "com/example/queueloom/queueloom/engine/Arrivals", name := "firstIndex", desc := "()I" } : Jvm.MethodName)).before a0 Z = true := hw _ (List.mem_of_getElem? (i := 102) rfl)
theorem wd103 {a0 : Array Value} {Z : State} (hw : ∀ d ∈ tables_1, d.before a0 Z = true) : (Jvm.Cond.instanceMethod ({ cls := "com/example/queueloom/queueloom/engine/Arrivals", name := "firstIndex", desc := "()I" } : Jvm.MethodName)).before a0 Z = true := hw _ (List.mem_of_getElem? (i := 103) rfl)
theorem wd104 {a0 : Array Value} {Z : State} (hw : ∀ d ∈ tables_1, d.before a0 Z = true) : (Jvm.Cond.selects "com/example/queueloom/queueloom/engine/Arrivals" ({ cls := "com/example/queueloom/queueloom/engine/Arrivals", name := "firstIndex", desc := "()I" } : Jvm.MethodName) ({ cls := "com/example/queueloom/queueloom/engine/Arrivals", name := "firstIndex", desc := "()I" } : Jvm.MethodName)).before a0 Z = true := hw _ (List.mem_of_getElem? (i := 104) rfl)
theorem wd105 {a0 : Array Value} {Z : State} (hw : ∀ d ∈ tables_1, d.before a0 Z = true) : (Jvm.Cond.code ({ cls := "com/example/queueloom/queueloom/engine/Arrivals", name := "firstIndex", desc := "()I" } : Jvm.MethodName) prog_53_method_10_code (1 : Nat) (Option.some Jvm.ClassFile.FieldType.int)).before a0 Z = true := hw _ (List.mem_of_getElem? (i := 105) rfl)
theorem d1_0 : decode method_2_code 0 = .ok (.lload_n 0, 1) := by decide +kernel
theorem d1_1 : decode method_2_code 1 = .ok (.lload_n 3, 1) := by decide +kernel
theorem d1_2 : decode method_2_code 2 = .ok (.lcmp, 1) := by decide +kernel
theorem d1_3 : decode method_2_code 3 = .ok (.ifCond .lt 15, 3) := by decide +kernel
theorem d1_18 : decode method_2_code 18 = .ok (.iconst 1, 1) := by decide +kernel
theorem d1_19 : decode method_2_code 19 = .ok (.goto 4, 3) := by decide +kernel
theorem d1_6 : decode method_2_code 6 = .ok (.lload_n 0, 1) := by decide +kernel
theorem d1_7 : decode method_2_code 7 = .ok (.lload_n 3, 1) := by decide +kernel
theorem d1_8 : decode method_2_code 8 = .ok (.lcmp, 1) := by decide +kernel
theorem d1_9 : decode method_2_code 9 = .ok (.ifCond .ne 13, 3) := by decide +kernel
theorem d1_12 : decode method_2_code 12 = .ok (.iload_n 2, 1) := by decide +kernel
theorem d1_13 : decode method_2_code 13 = .ok (.iload 5, 2) := by decide +kernel
theorem d1_15 : decode method_2_code 15 = .ok (.if_icmp .ge 7, 3) := by decide +kernel
theorem d1_22 : decode method_2_code 22 = .ok (.iconst 0, 1) := by decide +kernel
theorem d1_23 : decode method_2_code 23 = .ok (.ireturn, 1) := by decide +kernel
theorem pn_1 : plainName "com/example/queueloom/queueloom/engine/ArrivalsAddPinLaw" = true := by first | (simp [plainName, overriddenIn]; done) | decide +kernel
theorem d2_0 : decode prog_53_method_1_code 0 = .ok (.aload_n 0, 1) := by decide +kernel
theorem d2_1 : decode prog_53_method_1_code 1 = .ok (.invokespecial 1, 3) := by decide +kernel
theorem d2_4 : decode prog_53_method_1_code 4 = .ok (.aload_n 0, 1) := by decide +kernel
theorem d2_5 : decode prog_53_method_1_code 5 = .ok (.iconst 1, 1) := by decide +kernel
theorem d2_6 : decode prog_53_method_1_code 6 = .ok (.putfield 7, 3) := by decide +kernel
theorem d2_9 : decode prog_53_method_1_code 9 = .ok (.aload_n 0, 1) := by decide +kernel
theorem d2_10 : decode prog_53_method_1_code 10 = .ok (.iload_n 1, 1) := by decide +kernel
theorem d2_11 : decode prog_53_method_1_code 11 = .ok (.newarray .long, 2) := by decide +kernel
theorem d2_13 : decode prog_53_method_1_code 13 = .ok (.putfield 13, 3) := by decide +kernel
theorem d2_16 : decode prog_53_method_1_code 16 = .ok (.aload_n 0, 1) := by decide +kernel
theorem d2_17 : decode prog_53_method_1_code 17 = .ok (.iload_n 1, 1) := by decide +kernel
theorem d2_18 : decode prog_53_method_1_code 18 = .ok (.newarray .int, 2) := by decide +kernel
theorem d2_20 : decode prog_53_method_1_code 20 = .ok (.putfield 17, 3) := by decide +kernel
theorem d2_23 : decode prog_53_method_1_code 23 = .ok (.return_, 1) := by decide +kernel
theorem pn_2 : plainName "com/example/queueloom/queueloom/engine/Arrivals" = true := by first | (simp [plainName, overriddenIn]; done) | decide +kernel
theorem d4_0 : decode prog_53_method_2_code 0 = .ok (.aload_n 0, 1) := by decide +kernel
theorem d4_1 : decode prog_53_method_2_code 1 = .ok (.dup, 1) := by decide +kernel
theorem d4_2 : decode prog_53_method_2_code 2 = .ok (.getfield 7, 3) := by decide +kernel
theorem d4_5 : decode prog_53_method_2_code 5 = .ok (.aload_n 0, 1) := by decide +kernel
theorem d4_6 : decode prog_53_method_2_code 6 = .ok (.getfield 21, 3) := by decide +kernel
theorem d4_33 : decode prog_53_method_2_code 33 = .ok (.iand, 1) := by decide +kernel
theorem d4_34 : decode prog_53_method_2_code 34 = .ok (.putfield 7, 3) := by decide +kernel
theorem d4_37 : decode prog_53_method_2_code 37 = .ok (.aload_n 0, 1) := by decide +kernel
theorem d4_38 : decode prog_53_method_2_code 38 = .ok (.getfield 13, 3) := by decide +kernel
theorem d4_41 : decode prog_53_method_2_code 41 = .ok (.aload_n 0, 1) := by decide +kernel
theorem d4_42 : decode prog_53_method_2_code 42 = .ok (.getfield 21, 3) := by decide +kernel
theorem d4_45 : decode prog_53_method_2_code 45 = .ok (.lload_n 1, 1) := by decide +kernel
theorem d4_46 : decode prog_53_method_2_code 46 = .ok (.lastore, 1) := by decide +kernel
theorem d4_47 : decode prog_53_method_2_code 47 = .ok (.aload_n 0, 1) := by decide +kernel
theorem d4_48 : decode prog_53_method_2_code 48 = .ok (.getfield 17, 3) := by decide +kernel
theorem d4_51 : decode prog_53_method_2_code 51 = .ok (.aload_n 0, 1) := by decide +kernel
theorem d4_52 : decode prog_53_method_2_code 52 = .ok (.getfield 21, 3) := by decide +kernel
theorem d4_55 : decode prog_53_method_2_code 55 = .ok (.iload_n 3, 1) := by decide +kernel
theorem d4_56 : decode prog_53_method_2_code 56 = .ok (.iastore, 1) := by decide +kernel
theorem d4_57 : decode prog_53_method_2_code 57 = .ok (.aload_n 0, 1) := by decide +kernel
theorem d4_58 : decode prog_53_method_2_code 58 = .ok (.dup, 1) := by decide +kernel
theorem d4_59 : decode prog_53_method_2_code 59 = .ok (.getfield 21, 3) := by decide +kernel
theorem d4_62 : decode prog_53_method_2_code 62 = .ok (.iconst 1, 1) := by decide +kernel
theorem d4_63 : decode prog_53_method_2_code 63 = .ok (.iadd, 1) := by decide +kernel
theorem d4_64 : decode prog_53_method_2_code 64 = .ok (.putfield 21, 3) := by decide +kernel
theorem d4_67 : decode prog_53_method_2_code 67 = .ok (.return_, 1) := by decide +kernel
theorem d4_9 : decode prog_53_method_2_code 9 = .ok (.ifCond .eq 19, 3) := by decide +kernel
theorem d4_28 : decode prog_53_method_2_code 28 = .ok (.iconst 1, 1) := by decide +kernel
theorem d4_29 : decode prog_53_method_2_code 29 = .ok (.goto 4, 3) := by decide +kernel
theorem d4_12 : decode prog_53_method_2_code 12 = .ok (.aload_n 0, 1) := by decide +kernel
theorem d4_13 : decode prog_53_method_2_code 13 = .ok (.getfield 13, 3) := by decide +kernel
theorem d4_16 : decode prog_53_method_2_code 16 = .ok (.aload_n 0, 1) := by decide +kernel
theorem d4_17 : decode prog_53_method_2_code 17 = .ok (.getfield 21, 3) := by decide +kernel
theorem d4_20 : decode prog_53_method_2_code 20 = .ok (.iconst 1, 1) := by decide +kernel
theorem d4_21 : decode prog_53_method_2_code 21 = .ok (.isub, 1) := by decide +kernel
theorem d4_22 : decode prog_53_method_2_code 22 = .ok (.laload, 1) := by decide +kernel
theorem d4_23 : decode prog_53_method_2_code 23 = .ok (.lload_n 1, 1) := by decide +kernel
theorem d4_24 : decode prog_53_method_2_code 24 = .ok (.lcmp, 1) := by decide +kernel
theorem d4_25 : decode prog_53_method_2_code 25 = .ok (.ifCond .gt 7, 3) := by decide +kernel
theorem d4_32 : decode prog_53_method_2_code 32 = .ok (.iconst 0, 1) := by decide +kernel
theorem pn_4 : plainName "com/example/queueloom/queueloom/engine/Arrivals" = true := by first | (simp [plainName, overriddenIn]; done) | decide +kernel
theorem d6_0 : decode jdk_65_method_136_code 0 = .ok (.iload_n 1, 1) := by decide +kernel
theorem d6_1 : decode jdk_65_method_136_code 1 = .ok (.ifCond .ne 9, 3) := by decide +kernel
theorem d6_4 : decode jdk_65_method_136_code 4 = .ok (.iload_n 2, 1) := by decide +kernel
theorem d6_5 : decode jdk_65_method_136_code 5 = .ok (.aload_n 0, 1) := by decide +kernel
theorem d6_6 : decode jdk_65_method_136_code 6 = .ok (.arraylength, 1) := by decide +kernel
theorem d6_7 : decode jdk_65_method_136_code 7 = .ok (.if_icmp .eq 10, 3) := by decide +kernel
theorem d6_17 : decode jdk_65_method_136_code 17 = .ok (.aload_n 0, 1) := by decide +kernel
theorem d6_18 : decode jdk_65_method_136_code 18 = .ok (.invokevirtual 316, 3) := by decide +kernel
theorem d6_21 : decode jdk_65_method_136_code 21 = .ok (.checkcast 317, 3) := by decide +kernel
theorem d6_24 : decode jdk_65_method_136_code 24 = .ok (.areturn, 1) := by decide +kernel
theorem pn_6 : plainName "java/util/Arrays" = true := by first | (simp [plainName, overriddenIn]; done) | decide +kernel
theorem d5_0 : decode prog_53_method_5_code 0 = .ok (.aload_n 0, 1) := by decide +kernel
theorem d5_1 : decode prog_53_method_5_code 1 = .ok (.getfield 17, 3) := by decide +kernel
theorem d5_4 : decode prog_53_method_5_code 4 = .ok (.aload_n 0, 1) := by decide +kernel
theorem d5_5 : decode prog_53_method_5_code 5 = .ok (.getfield 25, 3) := by decide +kernel
theorem d5_8 : decode prog_53_method_5_code 8 = .ok (.aload_n 0, 1) := by decide +kernel
theorem d5_9 : decode prog_53_method_5_code 9 = .ok (.getfield 21, 3) := by decide +kernel
theorem pd_0 : parseMethodDescriptor "([III)[I" = some ⟨[(.array .int), .int, .int], some (.array .int)⟩ := by decide +kernel
theorem d5_12 : decode prog_53_method_5_code 12 = .ok (.invokestatic 63, 3) := by decide +kernel
theorem d5_15 : decode prog_53_method_5_code 15 = .ok (.areturn, 1) := by decide +kernel
theorem pn_5 : plainName "com/example/queueloom/queueloom/engine/Arrivals" = true := by first | (simp [plainName, overriddenIn]; done) | decide +kernel
theorem d8_0 : decode prog_61_method_1_code 0 = .ok (.aload_n 0, 1) := by decide +kernel
theorem d8_1 : decode prog_61_method_1_code 1 = .ok (.invokespecial 1, 3) := by decide +kernel
theorem d8_4 : decode prog_61_method_1_code 4 = .ok (.iload_n 1, 1) := by decide +kernel
theorem d8_5 : decode prog_61_method_1_code 5 = .ok (.ifCond .ge 13, 3) := by decide +kernel
theorem d8_18 : decode prog_61_method_1_code 18 = .ok (.aload_n 0, 1) := by decide +kernel
theorem d8_19 : decode prog_61_method_1_code 19 = .ok (.iload_n 1, 1) := by decide +kernel
theorem d8_20 : decode prog_61_method_1_code 20 = .ok (.ifCond .ne 9, 3) := by decide +kernel
theorem d8_29 : decode prog_61_method_1_code 29 = .ok (.iload_n 1, 1) := by decide +kernel
theorem d8_30 : decode prog_61_method_1_code 30 = .ok (.newarray .long, 2) := by decide +kernel
theorem d8_32 : decode prog_61_method_1_code 32 = .ok (.putfield 20, 3) := by decide +kernel
theorem d8_35 : decode prog_61_method_1_code 35 = .ok (.aload_n 0, 1) := by decide +kernel
theorem d8_36 : decode prog_61_method_1_code 36 = .ok (.iload_n 1, 1) := by decide +kernel
theorem d8_37 : decode prog_61_method_1_code 37 = .ok (.ifCond .ne 9, 3) := by decide +kernel
theorem d8_46 : decode prog_61_method_1_code 46 = .ok (.iload_n 1, 1) := by decide +kernel
theorem d8_47 : decode prog_61_method_1_code 47 = .ok (.newarray .long, 2) := by decide +kernel
theorem d8_49 : decode prog_61_method_1_code 49 = .ok (.putfield 23, 3) := by decide +kernel
theorem d8_52 : decode prog_61_method_1_code 52 = .ok (.return_, 1) := by decide +kernel
theorem pn_8 : plainName "com/example/queueloom/queueloom/engine/LongPairHeap" = true := by first | (simp [plainName, overriddenIn]; done) | decide +kernel
theorem d9_0 : decode prog_61_method_6_code 0 = .ok (.aload_n 0, 1) := by decide +kernel
theorem d9_1 : decode prog_61_method_6_code 1 = .ok (.getfield 26, 3) := by decide +kernel
theorem d9_4 : decode prog_61_method_6_code 4 = .ok (.aload_n 0, 1) := by decide +kernel
theorem d9_5 : decode prog_61_method_6_code 5 = .ok (.getfield 20, 3) := by decide +kernel
theorem d9_8 : decode prog_61_method_6_code 8 = .ok (.arraylength, 1) := by decide +kernel
theorem d9_9 : decode prog_61_method_6_code 9 = .ok (.if_icmp .ne 40, 3) := by decide +kernel
theorem d9_49 : decode prog_61_method_6_code 49 = .ok (.aload_n 0, 1) := by decide +kernel
theorem d9_50 : decode prog_61_method_6_code 50 = .ok (.getfield 20, 3) := by decide +kernel
theorem d9_53 : decode prog_61_method_6_code 53 = .ok (.astore 5, 2) := by decide +kernel
theorem d9_55 : decode prog_61_method_6_code 55 = .ok (.aload_n 0, 1) := by decide +kernel
theorem d9_56 : decode prog_61_method_6_code 56 = .ok (.getfield 23, 3) := by decide +kernel
theorem d9_59 : decode prog_61_method_6_code 59 = .ok (.astore 6, 2) := by decide +kernel
theorem d9_61 : decode prog_61_method_6_code 61 = .ok (.aload_n 0, 1) := by decide +kernel
theorem d9_62 : decode prog_61_method_6_code 62 = .ok (.dup, 1) := by decide +kernel
theorem d9_63 : decode prog_61_method_6_code 63 = .ok (.getfield 26, 3) := by decide +kernel
theorem d9_66 : decode prog_61_method_6_code 66 = .ok (.dup_x1, 1) := by decide +kernel
theorem d9_67 : decode prog_61_method_6_code 67 = .ok (.iconst 1, 1) := by decide +kernel
theorem d9_68 : decode prog_61_method_6_code 68 = .ok (.iadd, 1) := by decide +kernel
theorem d9_69 : decode prog_61_method_6_code 69 = .ok (.putfield 26, 3) := by decide +kernel
theorem d9_72 : decode prog_61_method_6_code 72 = .ok (.istore 7, 2) := by decide +kernel
theorem d9_145 : decode prog_61_method_6_code 145 = .ok (.aload 5, 2) := by decide +kernel
theorem d9_147 : decode prog_61_method_6_code 147 = .ok (.iload 7, 2) := by decide +kernel
theorem d9_149 : decode prog_61_method_6_code 149 = .ok (.lload_n 1, 1) := by decide +kernel
theorem d9_150 : decode prog_61_method_6_code 150 = .ok (.lastore, 1) := by decide +kernel
theorem d9_151 : decode prog_61_method_6_code 151 = .ok (.aload 6, 2) := by decide +kernel
theorem d9_153 : decode prog_61_method_6_code 153 = .ok (.iload 7, 2) := by decide +kernel
theorem d9_155 : decode prog_61_method_6_code 155 = .ok (.lload_n 3, 1) := by decide +kernel
theorem d9_156 : decode prog_61_method_6_code 156 = .ok (.lastore, 1) := by decide +kernel
theorem d9_157 : decode prog_61_method_6_code 157 = .ok (.return_, 1) := by decide +kernel
theorem d9_74 : decode prog_61_method_6_code 74 = .ok (.iload 7, 2) := by decide +kernel
theorem d9_76 : decode prog_61_method_6_code 76 = .ok (.ifCond .le 69, 3) := by decide +kernel
theorem d9_79 : decode prog_61_method_6_code 79 = .ok (.iload 7, 2) := by decide +kernel
theorem d9_81 : decode prog_61_method_6_code 81 = .ok (.iconst 1, 1) := by decide +kernel
theorem d9_82 : decode prog_61_method_6_code 82 = .ok (.isub, 1) := by decide +kernel
theorem d9_83 : decode prog_61_method_6_code 83 = .ok (.iconst 1, 1) := by decide +kernel
theorem d9_84 : decode prog_61_method_6_code 84 = .ok (.iushr, 1) := by decide +kernel
theorem d9_85 : decode prog_61_method_6_code 85 = .ok (.istore 8, 2) := by decide +kernel
theorem d9_87 : decode prog_61_method_6_code 87 = .ok (.aload 5, 2) := by decide +kernel
theorem d9_89 : decode prog_61_method_6_code 89 = .ok (.iload 8, 2) := by decide +kernel
theorem d9_91 : decode prog_61_method_6_code 91 = .ok (.laload, 1) := by decide +kernel
theorem d9_92 : decode prog_61_method_6_code 92 = .ok (.lstore 9, 2) := by decide +kernel
theorem d9_121 : decode prog_61_method_6_code 121 = .ok (.aload 5, 2) := by decide +kernel
theorem d9_123 : decode prog_61_method_6_code 123 = .ok (.iload 7, 2) := by decide +kernel
theorem d9_125 : decode prog_61_method_6_code 125 = .ok (.lload 9, 2) := by decide +kernel
theorem d9_127 : decode prog_61_method_6_code 127 = .ok (.lastore, 1) := by decide +kernel
theorem d9_128 : decode prog_61_method_6_code 128 = .ok (.aload 6, 2) := by decide +kernel
theorem d9_130 : decode prog_61_method_6_code 130 = .ok (.iload 7, 2) := by decide +kernel
theorem d9_132 : decode prog_61_method_6_code 132 = .ok (.aload 6, 2) := by decide +kernel
theorem d9_134 : decode prog_61_method_6_code 134 = .ok (.iload 8, 2) := by decide +kernel
theorem d9_136 : decode prog_61_method_6_code 136 = .ok (.laload, 1) := by decide +kernel
theorem d9_137 : decode prog_61_method_6_code 137 = .ok (.lastore, 1) := by decide +kernel
theorem d9_138 : decode prog_61_method_6_code 138 = .ok (.iload 8, 2) := by decide +kernel
theorem d9_140 : decode prog_61_method_6_code 140 = .ok (.istore 7, 2) := by decide +kernel
theorem d9_142 : decode prog_61_method_6_code 142 = .ok (.goto (-68), 3) := by decide +kernel
theorem d9_94 : decode prog_61_method_6_code 94 = .ok (.lload 9, 2) := by decide +kernel
theorem d9_96 : decode prog_61_method_6_code 96 = .ok (.lload_n 1, 1) := by decide +kernel
theorem d9_97 : decode prog_61_method_6_code 97 = .ok (.lcmp, 1) := by decide +kernel
theorem d9_98 : decode prog_61_method_6_code 98 = .ok (.ifCond .lt 47, 3) := by decide +kernel
theorem d9_101 : decode prog_61_method_6_code 101 = .ok (.lload 9, 2) := by decide +kernel
theorem d9_103 : decode prog_61_method_6_code 103 = .ok (.lload_n 1, 1) := by decide +kernel
theorem d9_104 : decode prog_61_method_6_code 104 = .ok (.lcmp, 1) := by decide +kernel
theorem d9_105 : decode prog_61_method_6_code 105 = .ok (.ifCond .ne 16, 3) := by decide +kernel
theorem d9_108 : decode prog_61_method_6_code 108 = .ok (.aload 6, 2) := by decide +kernel
theorem d9_110 : decode prog_61_method_6_code 110 = .ok (.iload 8, 2) := by decide +kernel
theorem d9_112 : decode prog_61_method_6_code 112 = .ok (.laload, 1) := by decide +kernel
theorem d9_113 : decode prog_61_method_6_code 113 = .ok (.lload_n 3, 1) := by decide +kernel
theorem d9_114 : decode prog_61_method_6_code 114 = .ok (.lcmp, 1) := by decide +kernel
theorem d9_115 : decode prog_61_method_6_code 115 = .ok (.ifCond .gt 6, 3) := by decide +kernel
theorem d9_118 : decode prog_61_method_6_code 118 = .ok (.goto 27, 3) := by decide +kernel
theorem pn_9 : plainName "com/example/queueloom/queueloom/engine/LongPairHeap" = true := by first | (simp [plainName, overriddenIn]; done) | decide +kernel
theorem d10_0 : decode prog_61_method_4_code 0 = .ok (.aload_n 0, 1) := by decide +kernel
theorem d10_1 : decode prog_61_method_4_code 1 = .ok (.getfield 20, 3) := by decide +kernel
theorem d10_4 : decode prog_61_method_4_code 4 = .ok (.iconst 0, 1) := by decide +kernel
theorem d10_5 : decode prog_61_method_4_code 5 = .ok (.laload, 1) := by decide +kernel
theorem d10_6 : decode prog_61_method_4_code 6 = .ok (.lreturn, 1) := by decide +kernel
theorem pn_10 : plainName "com/example/queueloom/queueloom/engine/LongPairHeap" = true := by first | (simp [plainName, overriddenIn]; done) | decide +kernel
theorem d11_0 : decode prog_61_method_5_code 0 = .ok (.aload_n 0, 1) := by decide +kernel
theorem d11_1 : decode prog_61_method_5_code 1 = .ok (.getfield 23, 3) := by decide +kernel
theorem d11_4 : decode prog_61_method_5_code 4 = .ok (.iconst 0, 1) := by decide +kernel
theorem d11_5 : decode prog_61_method_5_code 5 = .ok (.laload, 1) := by decide +kernel
theorem d11_6 : decode prog_61_method_5_code 6 = .ok (.lreturn, 1) := by decide +kernel
theorem pn_11 : plainName "com/example/queueloom/queueloom/engine/LongPairHeap" = true := by first | (simp [plainName, overriddenIn]; done) | decide +kernel
theorem d13_0 : decode prog_61_method_9_code 0 = .ok (.aload_n 0, 1) := by decide +kernel
theorem d13_1 : decode prog_61_method_9_code 1 = .ok (.iload_n 3, 1) := by decide +kernel
theorem d13_2 : decode prog_61_method_9_code 2 = .ok (.laload, 1) := by decide +kernel
theorem d13_3 : decode prog_61_method_9_code 3 = .ok (.lstore 4, 2) := by decide +kernel
theorem d13_5 : decode prog_61_method_9_code 5 = .ok (.aload_n 1, 1) := by decide +kernel
theorem d13_6 : decode prog_61_method_9_code 6 = .ok (.iload_n 3, 1) := by decide +kernel
theorem d13_7 : decode prog_61_method_9_code 7 = .ok (.laload, 1) := by decide +kernel
theorem d13_8 : decode prog_61_method_9_code 8 = .ok (.lstore 6, 2) := by decide +kernel
theorem d13_10 : decode prog_61_method_9_code 10 = .ok (.iload_n 3, 1) := by decide +kernel
theorem d13_11 : decode prog_61_method_9_code 11 = .ok (.istore 8, 2) := by decide +kernel
theorem d13_13 : decode prog_61_method_9_code 13 = .ok (.iconst 2, 1) := by decide +kernel
theorem d13_14 : decode prog_61_method_9_code 14 = .ok (.iload 8, 2) := by decide +kernel
theorem d13_16 : decode prog_61_method_9_code 16 = .ok (.imul, 1) := by decide +kernel
theorem d13_17 : decode prog_61_method_9_code 17 = .ok (.iconst 1, 1) := by decide +kernel
theorem d13_18 : decode prog_61_method_9_code 18 = .ok (.iadd, 1) := by decide +kernel
theorem d13_19 : decode prog_61_method_9_code 19 = .ok (.istore 9, 2) := by decide +kernel
theorem d13_144 : decode prog_61_method_9_code 144 = .ok (.aload_n 0, 1) := by decide +kernel
theorem d13_145 : decode prog_61_method_9_code 145 = .ok (.iload 8, 2) := by decide +kernel
theorem d13_147 : decode prog_61_method_9_code 147 = .ok (.lload 4, 2) := by decide +kernel
theorem d13_149 : decode prog_61_method_9_code 149 = .ok (.lastore, 1) := by decide +kernel
theorem d13_150 : decode prog_61_method_9_code 150 = .ok (.aload_n 1, 1) := by decide +kernel
theorem d13_151 : decode prog_61_method_9_code 151 = .ok (.iload 8, 2) := by decide +kernel
theorem d13_153 : decode prog_61_method_9_code 153 = .ok (.lload 6, 2) := by decide +kernel
theorem d13_155 : decode prog_61_method_9_code 155 = .ok (.lastore, 1) := by decide +kernel
theorem d13_156 : decode prog_61_method_9_code 156 = .ok (.return_, 1) := by decide +kernel
theorem d13_21 : decode prog_61_method_9_code 21 = .ok (.iload 9, 2) := by decide +kernel
theorem d13_23 : decode prog_61_method_9_code 23 = .ok (.iload_n 2, 1) := by decide +kernel
theorem d13_24 : decode prog_61_method_9_code 24 = .ok (.if_icmp .ge 120, 3) := by decide +kernel
theorem d13_115 : decode prog_61_method_9_code 115 = .ok (.aload_n 0, 1) := by decide +kernel
theorem d13_116 : decode prog_61_method_9_code 116 = .ok (.iload 8, 2) := by decide +kernel
theorem d13_118 : decode prog_61_method_9_code 118 = .ok (.lload 10, 2) := by decide +kernel
theorem d13_120 : decode prog_61_method_9_code 120 = .ok (.lastore, 1) := by decide +kernel
theorem d13_121 : decode prog_61_method_9_code 121 = .ok (.aload_n 1, 1) := by decide +kernel
theorem d13_122 : decode prog_61_method_9_code 122 = .ok (.iload 8, 2) := by decide +kernel
theorem d13_124 : decode prog_61_method_9_code 124 = .ok (.aload_n 1, 1) := by decide +kernel
theorem d13_125 : decode prog_61_method_9_code 125 = .ok (.iload 9, 2) := by decide +kernel
theorem d13_127 : decode prog_61_method_9_code 127 = .ok (.laload, 1) := by decide +kernel
theorem d13_128 : decode prog_61_method_9_code 128 = .ok (.lastore, 1) := by decide +kernel
theorem d13_129 : decode prog_61_method_9_code 129 = .ok (.iload 9, 2) := by decide +kernel
theorem d13_131 : decode prog_61_method_9_code 131 = .ok (.istore 8, 2) := by decide +kernel
theorem d13_133 : decode prog_61_method_9_code 133 = .ok (.iconst 2, 1) := by decide +kernel
theorem d13_134 : decode prog_61_method_9_code 134 = .ok (.iload 8, 2) := by decide +kernel
theorem d13_136 : decode prog_61_method_9_code 136 = .ok (.imul, 1) := by decide +kernel
theorem d13_137 : decode prog_61_method_9_code 137 = .ok (.iconst 1, 1) := by decide +kernel
theorem d13_138 : decode prog_61_method_9_code 138 = .ok (.iadd, 1) := by decide +kernel
theorem d13_139 : decode prog_61_method_9_code 139 = .ok (.istore 9, 2) := by decide +kernel
theorem d13_141 : decode prog_61_method_9_code 141 = .ok (.goto (-120), 3) := by decide +kernel
theorem d13_86 : decode prog_61_method_9_code 86 = .ok (.lload 10, 2) := by decide +kernel
theorem d13_88 : decode prog_61_method_9_code 88 = .ok (.lload 4, 2) := by decide +kernel
theorem d13_90 : decode prog_61_method_9_code 90 = .ok (.lcmp, 1) := by decide +kernel
theorem d13_91 : decode prog_61_method_9_code 91 = .ok (.ifCond .gt 53, 3) := by decide +kernel
theorem d13_94 : decode prog_61_method_9_code 94 = .ok (.lload 10, 2) := by decide +kernel
theorem d13_96 : decode prog_61_method_9_code 96 = .ok (.lload 4, 2) := by decide +kernel
theorem d13_98 : decode prog_61_method_9_code 98 = .ok (.lcmp, 1) := by decide +kernel
theorem d13_99 : decode prog_61_method_9_code 99 = .ok (.ifCond .ne 16, 3) := by decide +kernel
theorem d13_102 : decode prog_61_method_9_code 102 = .ok (.aload_n 1, 1) := by decide +kernel
theorem d13_103 : decode prog_61_method_9_code 103 = .ok (.iload 9, 2) := by decide +kernel
theorem d13_105 : decode prog_61_method_9_code 105 = .ok (.laload, 1) := by decide +kernel
theorem d13_106 : decode prog_61_method_9_code 106 = .ok (.lload 6, 2) := by decide +kernel
theorem d13_108 : decode prog_61_method_9_code 108 = .ok (.lcmp, 1) := by decide +kernel
theorem d13_109 : decode prog_61_method_9_code 109 = .ok (.ifCond .lt 6, 3) := by decide +kernel
theorem d13_112 : decode prog_61_method_9_code 112 = .ok (.goto 32, 3) := by decide +kernel
theorem d13_27 : decode prog_61_method_9_code 27 = .ok (.aload_n 0, 1) := by decide +kernel
theorem d13_28 : decode prog_61_method_9_code 28 = .ok (.iload 9, 2) := by decide +kernel
theorem d13_30 : decode prog_61_method_9_code 30 = .ok (.laload, 1) := by decide +kernel
theorem d13_31 : decode prog_61_method_9_code 31 = .ok (.lstore 10, 2) := by decide +kernel
theorem d13_33 : decode prog_61_method_9_code 33 = .ok (.iload 9, 2) := by decide +kernel
theorem d13_35 : decode prog_61_method_9_code 35 = .ok (.iconst 1, 1) := by decide +kernel
theorem d13_36 : decode prog_61_method_9_code 36 = .ok (.iadd, 1) := by decide +kernel
theorem d13_37 : decode prog_61_method_9_code 37 = .ok (.iload_n 2, 1) := by decide +kernel
theorem d13_38 : decode prog_61_method_9_code 38 = .ok (.if_icmp .ge 48, 3) := by decide +kernel
theorem d13_41 : decode prog_61_method_9_code 41 = .ok (.aload_n 0, 1) := by decide +kernel
theorem d13_42 : decode prog_61_method_9_code 42 = .ok (.iload 9, 2) := by decide +kernel
theorem d13_44 : decode prog_61_method_9_code 44 = .ok (.iconst 1, 1) := by decide +kernel
theorem d13_45 : decode prog_61_method_9_code 45 = .ok (.iadd, 1) := by decide +kernel
theorem d13_46 : decode prog_61_method_9_code 46 = .ok (.laload, 1) := by decide +kernel
theorem d13_47 : decode prog_61_method_9_code 47 = .ok (.lstore 12, 2) := by decide +kernel
theorem d13_49 : decode prog_61_method_9_code 49 = .ok (.lload 12, 2) := by decide +kernel
theorem d13_51 : decode prog_61_method_9_code 51 = .ok (.lload 10, 2) := by decide +kernel
theorem d13_53 : decode prog_61_method_9_code 53 = .ok (.lcmp, 1) := by decide +kernel
theorem d13_54 : decode prog_61_method_9_code 54 = .ok (.ifCond .lt 25, 3) := by decide +kernel
theorem d13_79 : decode prog_61_method_9_code 79 = .ok (.iinc 9 1, 3) := by decide +kernel
theorem d13_82 : decode prog_61_method_9_code 82 = .ok (.lload 12, 2) := by decide +kernel
theorem d13_84 : decode prog_61_method_9_code 84 = .ok (.lstore 10, 2) := by decide +kernel
theorem d13_57 : decode prog_61_method_9_code 57 = .ok (.lload 12, 2) := by decide +kernel
theorem d13_59 : decode prog_61_method_9_code 59 = .ok (.lload 10, 2) := by decide +kernel
theorem d13_61 : decode prog_61_method_9_code 61 = .ok (.lcmp, 1) := by decide +kernel
theorem d13_62 : decode prog_61_method_9_code 62 = .ok (.ifCond .ne 24, 3) := by decide +kernel
theorem d13_65 : decode prog_61_method_9_code 65 = .ok (.aload_n 1, 1) := by decide +kernel
theorem d13_66 : decode prog_61_method_9_code 66 = .ok (.iload 9, 2) := by decide +kernel
theorem d13_68 : decode prog_61_method_9_code 68 = .ok (.iconst 1, 1) := by decide +kernel
theorem d13_69 : decode prog_61_method_9_code 69 = .ok (.iadd, 1) := by decide +kernel
theorem d13_70 : decode prog_61_method_9_code 70 = .ok (.laload, 1) := by decide +kernel
theorem d13_71 : decode prog_61_method_9_code 71 = .ok (.aload_n 1, 1) := by decide +kernel
theorem d13_72 : decode prog_61_method_9_code 72 = .ok (.iload 9, 2) := by decide +kernel
theorem d13_74 : decode prog_61_method_9_code 74 = .ok (.laload, 1) := by decide +kernel
theorem d13_75 : decode prog_61_method_9_code 75 = .ok (.lcmp, 1) := by decide +kernel
theorem d13_76 : decode prog_61_method_9_code 76 = .ok (.ifCond .ge 10, 3) := by decide +kernel
theorem pn_13 : plainName "com/example/queueloom/queueloom/engine/LongPairHeap" = true := by first | (simp [plainName, overriddenIn]; done) | decide +kernel
theorem d12_0 : decode prog_61_method_8_code 0 = .ok (.aload_n 0, 1) := by decide +kernel
theorem d12_1 : decode prog_61_method_8_code 1 = .ok (.getfield 26, 3) := by decide +kernel
theorem d12_4 : decode prog_61_method_8_code 4 = .ok (.iconst 1, 1) := by decide +kernel
theorem d12_5 : decode prog_61_method_8_code 5 = .ok (.isub, 1) := by decide +kernel
theorem d12_6 : decode prog_61_method_8_code 6 = .ok (.istore_n 1, 1) := by decide +kernel
theorem d12_7 : decode prog_61_method_8_code 7 = .ok (.aload_n 0, 1) := by decide +kernel
theorem d12_8 : decode prog_61_method_8_code 8 = .ok (.getfield 20, 3) := by decide +kernel
theorem d12_11 : decode prog_61_method_8_code 11 = .ok (.iconst 0, 1) := by decide +kernel
theorem d12_12 : decode prog_61_method_8_code 12 = .ok (.aload_n 0, 1) := by decide +kernel
theorem d12_13 : decode prog_61_method_8_code 13 = .ok (.getfield 20, 3) := by decide +kernel
theorem d12_16 : decode prog_61_method_8_code 16 = .ok (.iload_n 1, 1) := by decide +kernel
theorem d12_17 : decode prog_61_method_8_code 17 = .ok (.laload, 1) := by decide +kernel
theorem d12_18 : decode prog_61_method_8_code 18 = .ok (.lastore, 1) := by decide +kernel
theorem d12_19 : decode prog_61_method_8_code 19 = .ok (.aload_n 0, 1) := by decide +kernel
theorem d12_20 : decode prog_61_method_8_code 20 = .ok (.getfield 23, 3) := by decide +kernel
theorem d12_23 : decode prog_61_method_8_code 23 = .ok (.iconst 0, 1) := by decide +kernel
theorem d12_24 : decode prog_61_method_8_code 24 = .ok (.aload_n 0, 1) := by decide +kernel
theorem d12_25 : decode prog_61_method_8_code 25 = .ok (.getfield 23, 3) := by decide +kernel
theorem d12_28 : decode prog_61_method_8_code 28 = .ok (.iload_n 1, 1) := by decide +kernel
theorem d12_29 : decode prog_61_method_8_code 29 = .ok (.laload, 1) := by decide +kernel
theorem d12_30 : decode prog_61_method_8_code 30 = .ok (.lastore, 1) := by decide +kernel
theorem d12_31 : decode prog_61_method_8_code 31 = .ok (.aload_n 0, 1) := by decide +kernel
theorem d12_32 : decode prog_61_method_8_code 32 = .ok (.iload_n 1, 1) := by decide +kernel
theorem d12_33 : decode prog_61_method_8_code 33 = .ok (.putfield 26, 3) := by decide +kernel
theorem d12_36 : decode prog_61_method_8_code 36 = .ok (.aload_n 0, 1) := by decide +kernel
theorem d12_37 : decode prog_61_method_8_code 37 = .ok (.getfield 20, 3) := by decide +kernel
theorem d12_40 : decode prog_61_method_8_code 40 = .ok (.aload_n 0, 1) := by decide +kernel
theorem d12_41 : decode prog_61_method_8_code 41 = .ok (.getfield 23, 3) := by decide +kernel
theorem d12_44 : decode prog_61_method_8_code 44 = .ok (.iload_n 1, 1) := by decide +kernel
theorem d12_45 : decode prog_61_method_8_code 45 = .ok (.iconst 0, 1) := by decide +kernel
theorem pd_1 : parseMethodDescriptor "([J[JII)V" = some ⟨[(.array .long), (.array .long), .int, .int], none⟩ := by decide +kernel
theorem d12_46 : decode prog_61_method_8_code 46 = .ok (.invokestatic 46, 3) := by decide +kernel
theorem d12_49 : decode prog_61_method_8_code 49 = .ok (.return_, 1) := by decide +kernel
theorem pn_12 : plainName "com/example/queueloom/queueloom/engine/LongPairHeap" = true := by first | (simp [plainName, overriddenIn]; done) | decide +kernel
theorem d7_0 : decode prog_53_method_4_code 0 = .ok (.aload_n 0, 1) := by decide +kernel
theorem d7_1 : decode prog_53_method_4_code 1 = .ok (.getfield 7, 3) := by decide +kernel
theorem d7_4 : decode prog_53_method_4_code 4 = .ok (.ifCond .eq 4, 3) := by decide +kernel
theorem d7_7 : decode prog_53_method_4_code 7 = .ok (.return_, 1) := by decide +kernel
theorem pn_7 : plainName "com/example/queueloom/queueloom/engine/Arrivals" = true := by first | (simp [plainName, overriddenIn]; done) | decide +kernel
theorem d7_8 : decode prog_53_method_4_code 8 = .ok (.new 44, 3) := by decide +kernel
theorem d7_11 : decode prog_53_method_4_code 11 = .ok (.dup, 1) := by decide +kernel
theorem d7_12 : decode prog_53_method_4_code 12 = .ok (.aload_n 0, 1) := by decide +kernel
theorem d7_13 : decode prog_53_method_4_code 13 = .ok (.getfield 21, 3) := by decide +kernel
theorem pd_2 : parseMethodDescriptor "(I)V" = some ⟨[.int], none⟩ := by decide +kernel
theorem d7_16 : decode prog_53_method_4_code 16 = .ok (.invokespecial 46, 3) := by decide +kernel
theorem d7_19 : decode prog_53_method_4_code 19 = .ok (.astore_n 1, 1) := by decide +kernel
theorem d7_20 : decode prog_53_method_4_code 20 = .ok (.iconst 0, 1) := by decide +kernel
theorem d7_21 : decode prog_53_method_4_code 21 = .ok (.istore_n 2, 1) := by decide +kernel
theorem d7_22 : decode prog_53_method_4_code 22 = .ok (.iload_n 2, 1) := by decide +kernel
theorem d7_23 : decode prog_53_method_4_code 23 = .ok (.aload_n 0, 1) := by decide +kernel
theorem d7_24 : decode prog_53_method_4_code 24 = .ok (.getfield 21, 3) := by decide +kernel
theorem d7_27 : decode prog_53_method_4_code 27 = .ok (.if_icmp .ge 26, 3) := by decide +kernel
theorem d7_30 : decode prog_53_method_4_code 30 = .ok (.aload_n 1, 1) := by decide +kernel
theorem d7_31 : decode prog_53_method_4_code 31 = .ok (.aload_n 0, 1) := by decide +kernel
theorem d7_32 : decode prog_53_method_4_code 32 = .ok (.getfield 13, 3) := by decide +kernel
theorem d7_35 : decode prog_53_method_4_code 35 = .ok (.iload_n 2, 1) := by decide +kernel
theorem d7_36 : decode prog_53_method_4_code 36 = .ok (.laload, 1) := by decide +kernel
theorem d7_37 : decode prog_53_method_4_code 37 = .ok (.aload_n 0, 1) := by decide +kernel
theorem d7_38 : decode prog_53_method_4_code 38 = .ok (.getfield 17, 3) := by decide +kernel
theorem d7_41 : decode prog_53_method_4_code 41 = .ok (.iload_n 2, 1) := by decide +kernel
theorem d7_42 : decode prog_53_method_4_code 42 = .ok (.iaload, 1) := by decide +kernel
theorem d7_43 : decode prog_53_method_4_code 43 = .ok (.i2l, 1) := by decide +kernel
theorem pd_3 : parseMethodDescriptor "(JJ)V" = some ⟨[.long, .long], none⟩ := by decide +kernel
theorem d7_44 : decode prog_53_method_4_code 44 = .ok (.invokevirtual 49, 3) := by decide +kernel
theorem d7_47 : decode prog_53_method_4_code 47 = .ok (.iinc 2 1, 3) := by decide +kernel
theorem d7_50 : decode prog_53_method_4_code 50 = .ok (.goto (-28), 3) := by decide +kernel
theorem d7_53 : decode prog_53_method_4_code 53 = .ok (.iconst 0, 1) := by decide +kernel
theorem d7_54 : decode prog_53_method_4_code 54 = .ok (.istore_n 2, 1) := by decide +kernel
theorem d7_55 : decode prog_53_method_4_code 55 = .ok (.iload_n 2, 1) := by decide +kernel
theorem d7_56 : decode prog_53_method_4_code 56 = .ok (.aload_n 0, 1) := by decide +kernel
theorem d7_57 : decode prog_53_method_4_code 57 = .ok (.getfield 21, 3) := by decide +kernel
theorem d7_60 : decode prog_53_method_4_code 60 = .ok (.if_icmp .ge 34, 3) := by decide +kernel
theorem d7_63 : decode prog_53_method_4_code 63 = .ok (.aload_n 0, 1) := by decide +kernel
theorem d7_64 : decode prog_53_method_4_code 64 = .ok (.getfield 13, 3) := by decide +kernel
theorem d7_67 : decode prog_53_method_4_code 67 = .ok (.iload_n 2, 1) := by decide +kernel
theorem d7_68 : decode prog_53_method_4_code 68 = .ok (.aload_n 1, 1) := by decide +kernel
theorem pd_4 : parseMethodDescriptor "()J" = some ⟨[], some .long⟩ := by decide +kernel
theorem d7_69 : decode prog_53_method_4_code 69 = .ok (.invokevirtual 53, 3) := by decide +kernel
theorem d7_72 : decode prog_53_method_4_code 72 = .ok (.lastore, 1) := by decide +kernel
theorem d7_73 : decode prog_53_method_4_code 73 = .ok (.aload_n 0, 1) := by decide +kernel
theorem d7_74 : decode prog_53_method_4_code 74 = .ok (.getfield 17, 3) := by decide +kernel
theorem d7_77 : decode prog_53_method_4_code 77 = .ok (.iload_n 2, 1) := by decide +kernel
theorem d7_78 : decode prog_53_method_4_code 78 = .ok (.aload_n 1, 1) := by decide +kernel
theorem d7_79 : decode prog_53_method_4_code 79 = .ok (.invokevirtual 57, 3) := by decide +kernel
theorem d7_82 : decode prog_53_method_4_code 82 = .ok (.l2i, 1) := by decide +kernel
theorem d7_83 : decode prog_53_method_4_code 83 = .ok (.iastore, 1) := by decide +kernel
theorem d7_84 : decode prog_53_method_4_code 84 = .ok (.aload_n 1, 1) := by decide +kernel
theorem pd_5 : parseMethodDescriptor "()V" = some ⟨[], none⟩ := by decide +kernel
theorem d7_85 : decode prog_53_method_4_code 85 = .ok (.invokevirtual 60, 3) := by decide +kernel
theorem d7_88 : decode prog_53_method_4_code 88 = .ok (.iinc 2 1, 3) := by decide +kernel
theorem d7_91 : decode prog_53_method_4_code 91 = .ok (.goto (-36), 3) := by decide +kernel
theorem d7_94 : decode prog_53_method_4_code 94 = .ok (.aload_n 0, 1) := by decide +kernel
theorem d7_95 : decode prog_53_method_4_code 95 = .ok (.iconst 1, 1) := by decide +kernel
theorem d7_96 : decode prog_53_method_4_code 96 = .ok (.putfield 7, 3) := by decide +kernel
theorem d7_99 : decode prog_53_method_4_code 99 = .ok (.return_, 1) := by decide +kernel
theorem d15_0 : decode prog_53_method_12_code 0 = .ok (.aload_n 0, 1) := by decide +kernel
theorem d15_1 : decode prog_53_method_12_code 1 = .ok (.getfield 75, 3) := by decide +kernel
theorem d15_4 : decode prog_53_method_12_code 4 = .ok (.ifnull 13, 3) := by decide +kernel
theorem d15_17 : decode prog_53_method_12_code 17 = .ok (.iconst 0, 1) := by decide +kernel
theorem d15_18 : decode prog_53_method_12_code 18 = .ok (.ireturn, 1) := by decide +kernel
theorem pn_15 : plainName "com/example/queueloom/queueloom/engine/Arrivals" = true := by first | (simp [plainName, overriddenIn]; done) | decide +kernel
theorem d14_0 : decode prog_53_method_9_code 0 = .ok (.aload_n 0, 1) := by decide +kernel
theorem pd_6 : parseMethodDescriptor "()Z" = some ⟨[], some .boolean⟩ := by decide +kernel
theorem d14_1 : decode prog_53_method_9_code 1 = .ok (.invokevirtual 83, 3) := by decide +kernel
theorem d14_4 : decode prog_53_method_9_code 4 = .ok (.ifCond .eq 13, 3) := by decide +kernel
theorem d14_17 : decode prog_53_method_9_code 17 = .ok (.aload_n 0, 1) := by decide +kernel
theorem d14_18 : decode prog_53_method_9_code 18 = .ok (.getfield 13, 3) := by decide +kernel
theorem d14_21 : decode prog_53_method_9_code 21 = .ok (.aload_n 0, 1) := by decide +kernel
theorem d14_22 : decode prog_53_method_9_code 22 = .ok (.getfield 25, 3) := by decide +kernel
theorem d14_25 : decode prog_53_method_9_code 25 = .ok (.laload, 1) := by decide +kernel
theorem d14_26 : decode prog_53_method_9_code 26 = .ok (.lreturn, 1) := by decide +kernel
theorem pn_14 : plainName "com/example/queueloom/queueloom/engine/Arrivals" = true := by first | (simp [plainName, overriddenIn]; done) | decide +kernel
theorem d16_0 : decode prog_53_method_10_code 0 = .ok (.aload_n 0, 1) := by decide +kernel
theorem d16_1 : decode prog_53_method_10_code 1 = .ok (.invokevirtual 83, 3) := by decide +kernel
theorem d16_4 : decode prog_53_method_10_code 4 = .ok (.ifCond .eq 14, 3) := by decide +kernel
theorem d16_18 : decode prog_53_method_10_code 18 = .ok (.aload_n 0, 1) := by decide +kernel
theorem d16_19 : decode prog_53_method_10_code 19 = .ok (.getfield 17, 3) := by decide +kernel
theorem d16_22 : decode prog_53_method_10_code 22 = .ok (.aload_n 0, 1) := by decide +kernel
theorem d16_23 : decode prog_53_method_10_code 23 = .ok (.getfield 25, 3) := by decide +kernel
theorem d16_26 : decode prog_53_method_10_code 26 = .ok (.iaload, 1) := by decide +kernel
theorem d16_27 : decode prog_53_method_10_code 27 = .ok (.ireturn, 1) := by decide +kernel
theorem pn_16 : plainName "com/example/queueloom/queueloom/engine/Arrivals" = true := by first | (simp [plainName, overriddenIn]; done) | decide +kernel
theorem pd_7 : parseMethodDescriptor "(JIJI)I" = some ⟨[.long, .int, .long, .int], some .int⟩ := by decide +kernel
theorem pd_8 : parseMethodDescriptor "(JI)V" = some ⟨[.long, .int], none⟩ := by decide +kernel
theorem pd_9 : parseMethodDescriptor "()[I" = some ⟨[], some (.array .int)⟩ := by decide +kernel
theorem pd_10 : parseMethodDescriptor "()I" = some ⟨[], some .int⟩ := by decide +kernel
theorem pn_0 : plainName "com/example/queueloom/queueloom/engine/ArrivalsAddPinLaw" = true := by first | (simp [plainName, overriddenIn]; done) | decide +kernel
section OwnArr
variable {p : Program} {l : Launch} {e : Env} {R : Room} {s : State} {m : MethodId} {args : Array Value} {below : List Frame} {meth : Method} {c : Code} {Z : State} {y : MethodName} {ret : Option FieldType} {code : ByteArray} {ml : Nat} {ws : List Addr} {T : State} {h : Heap} {cells slots : Nat} {C : Outcome → State → Prop} {a0 : Array Value}
theorem own_newarrayE (W : own_W p l e R s m args below meth c Z y ret code ml ws T h cells slots) {aty : ArrayType} {z : Int32} (N cap : Nat) (ad : String) {pc : Nat} (pc' : Nat) {L : Array Slot} {st : List Value} (hd : decode code pc = .ok (.newarray aty, 2)) (w : (Jvm.Cond.arrayClass (newarray.typeOf aty)).before a0 Z = true) (hz : z.toInt = (N : Int)) (hcap : N ≤ cap) (hb8 : cap * 8 ≤ 536870912) (hc : cells + 1 ≤ R.cells) (hl : slots + cap ≤ R.slots) (had : "[" ++ (newarray.typeOf aty).toString = ad) (hp : pc + 2 = pc') (k : ∀ T' h' a, own_W p l e R s m args below meth c Z y ret code ml ws T' h' (cells + 1) (slots + cap) → Ext h h' → a = h.size → s.heap.size ≤ a → own_A Z h' a (newarray.typeOf aty) N (fun _ => defaultValue (newarray.typeOf aty)) → Exa Z h' a ad → own_Go p e below C T' (mkF m pc' L (.ref a :: st))) : own_Go p e below C T (mkF m pc L (.int z :: st)) := by
  have hsz := own_le W
  obtain ⟨⟨hx, hby, hml, hown, hnm, hrt, hlk, hZ⟩, locs, X, eT, Nf⟩ := W
  subst hp
  have hcl := own_cl hz
  obtain ⟨T', h', cA, X', e', E', A', Y', st'⟩ := newPE X hx hZ w eT (g := mkF m pc L (.int z :: st)) rfl (hb hby hd) rfl (own_nn hz) (cap := cap) (by rw [hcl]; exact hcap) hb8 hc hl had
  refine own_st st' (k T' h' h.size ⟨⟨hx, hby, hml, hown, hnm, hrt, hlk, hZ⟩, locs, X', e', Nf⟩ E' rfl hsz ⟨_, A', by rw [sz_new, hcl], fun j hj => ?_⟩ Y')
  simp [newA, hcl, hj]
theorem own_clone (W : own_W p l e R s m args below meth c Z y ret code ml ws T h cells slots) {ad : String} {i : Nat} {a : Addr} {ty : FieldType} {n : Nat} {f : Nat → Value} (cap wt : Nat) {pc : Nat} (pc' : Nat) {L : Array Slot} {st : List Value} (hd : decode code pc = .ok (.invokevirtual i, 3)) (w1 : (Jvm.Cond.methodLink y.cls i ⟨ad, "clone", "()Ljava/lang/Object;"⟩).before a0 Z = true) (w2 : (Jvm.Cond.sameMethod ad "java/lang/Object" "clone" "()Ljava/lang/Object;").before a0 Z = true) (w3 : (Jvm.Cond.native ⟨"java/lang/Object", "clone", "()Ljava/lang/Object;"⟩).before a0 Z = true) (w4 : (Jvm.Cond.instanceMethod ⟨"java/lang/Object", "clone", "()Ljava/lang/Object;"⟩).before a0 Z = true) (w5 : (Jvm.Cond.selects ad ⟨ad, "clone", "()Ljava/lang/Object;"⟩ ⟨"java/lang/Object", "clone", "()Ljava/lang/Object;"⟩).before a0 Z = true) (w6 : (Jvm.Cond.castable ad "java/lang/Cloneable").before a0 Z = true) (F : own_A Z h a ty n f) (E : Exa Z h a ad) (hfit : ∀ j, j < n → fits ty (f j) = true) (hL : L.size = ml) (hwt : (st.map fun v => v.category).sum ≤ wt) (hf : 1 ≤ R.frames) (hlo : wt + 14 ≤ R.locals) (hcap : n ≤ cap) (hc : cells + 1 ≤ R.cells) (hsl : slots + cap ≤ R.slots) (hp : pc + 3 = pc') (k : ∀ T' h' b, own_W p l e R s m args below meth c Z y ret code ml ws T' h' (cells + 1) (slots + cap) → Ext h h' → b = h.size → s.heap.size ≤ b → own_A Z h' b ty n f → Exa Z h' b ad → own_Go p e below C T' (mkF m pc' L (.ref b :: st))) : own_Go p e below C T (mkF m pc L (.ref a :: st)) := by
  have hsz := own_le W
  obtain ⟨⟨hx, hby, hml, hown, hnm, hrt, hlk, hZ⟩, locs, X, eT, N⟩ := W
  subst hp
  obtain ⟨cl, A, r1, r2⟩ := F
  have FC : FitC Z cl := fitC_of A (fun i hi v hv => by
    rw [r1] at hi
    rw [r2 i hi] at hv
    cases hv
    exact hfit i hi)
  obtain ⟨T', h', X', e', E', A', Y', st'⟩ := cloneA X hx hZ hown w1 w2 w3 w4 w5 w6 eT A E FC (g := mkF m pc L (.ref a :: st)) rfl (by rw [hml]; exact hL) rfl (hb hby hd) hf (W := wt) (cap := cap) (by show 2 * 0 + _ ≤ _; omega) hlo (by rw [r1]; exact hcap) hc hsl
  exact own_st st' (k T' h' h.size ⟨⟨hx, hby, hml, hown, hnm, hrt, hlk, hZ⟩, locs, X', e', N⟩ E' rfl hsz ⟨_, A', r1, r2⟩ Y')
theorem own_checkcast (W : own_W p l e R s m args below meth c Z y ret code ml ws T h cells slots) {K0 : String} {i : Nat} {a : Addr} {pc : Nat} (pc' : Nat) {L : Array Slot} {st : List Value} (hd : decode code pc = .ok (.checkcast i, 3)) (w : (Jvm.Cond.classLink y.cls i K0).before a0 Z = true) (I : Ins Z h a K0 true) (hp : pc + 3 = pc') (k : ∀ T', own_W p l e R s m args below meth c Z y ret code ml ws T' h cells slots → own_Go p e below C T' (mkF m pc' L (.ref a :: st))) : own_Go p e below C T (mkF m pc L (.ref a :: st)) := by
  have hsz := own_le W
  obtain ⟨⟨hx, hby, hml, hown, hnm, hrt, hlk, hZ⟩, locs, X, eT, N⟩ := W
  subst hp
  obtain ⟨T', X', e', st'⟩ := castY X hx hZ hown w eT I (g := mkF m pc L (.ref a :: st)) rfl rfl (hb hby hd)
  exact own_st st' (k T' ⟨⟨hx, hby, hml, hown, hnm, hrt, hlk, hZ⟩, locs, X', e', N⟩)
theorem own_callP (W : own_W p l e R s m args below meth c Z y ret code ml ws T h cells slots) {C0 : String} {i : Nat} {yc yd : MethodName} {bytes : ByteArray} {maxL : Nat} {rt : Option FieldType} {rm : Room} {Q : Option Value → Heap → Prop} {ps : List FieldType} {rr : Option FieldType} {a : Addr} {wc' : List Addr} (A : List Value) (wt : Nat) {pc : Nat} (pc' : Nat) {L : Array Slot} {st : List Value} (hd : decode code pc = .ok (.invokevirtual i, 3)) (wl : (Jvm.Cond.methodLink y.cls i yc).before a0 Z = true) (ws' : (Jvm.Cond.instanceMethod yc).before a0 Z = true) (wp : (Jvm.Cond.privateMethod yc).before a0 Z = true) (wse : (Jvm.Cond.selects C0 yd yd).before a0 Z = true) (hcl : yd.cls = yc.cls) (wz : (Jvm.Cond.initialized yc.cls).before a0 Z = true) (wc : (Jvm.Cond.code yc bytes maxL rt).before a0 Z = true) (hy : yc.cls ≠ "java/lang/invoke/MethodHandle" ∧ yc.cls ≠ "java/lang/invoke/VarHandle") (E : Exa Z h a C0) (hM : own_M l Z [] yc bytes maxL rt rm wc' (.ref a :: A).toArray h Q) (hws : ∀ b ∈ wc', b ∈ ws ∨ s.heap.size ≤ b) (hL : L.size = ml) (hds : parseMethodDescriptor yc.desc = some ⟨ps, rr⟩) (hA : A.length = ps.length) (hwt : (st.map fun v => v.category).sum ≤ wt) (hf : rm.frames + 1 ≤ R.frames) (hlo : wt + (maxL + 11) + rm.locals ≤ R.locals) (hc : cells + rm.cells ≤ R.cells) (hs : slots + rm.slots ≤ R.slots) (hp : pc + 3 = pc') (k : ∀ T' h' v, own_W p l e R s m args below meth c Z y ret code ml ws T' h' (cells + rm.cells) (slots + rm.slots) → Keep h h' wc' → (rm.cells = 0 → wc' = [] → h' = h) → Q v h' → own_Go p e below C T' (mkF m pc' L (v.toList ++ st))) : own_Go p e below C T (mkF m pc L (A.reverse ++ .ref a :: st)) := by
  have hsz := own_le W
  obtain ⟨⟨hx, hby, hml, hown, hnm, hrt, hlk, hZ⟩, locs, X, eT, N⟩ := W
  subst hp
  obtain ⟨cell, hcell, hobj⟩ := E.cell
  have hcell' : T.heap[a]? = some cell := by rw [eT]; exact hcell
  have h1 : (Jvm.Cond.instanceMethod yc).before args s = true := mvT hZ ws'
  have h2 : (Jvm.Cond.code yc bytes maxL rt).before args s = true := mvT hZ wc
  have h3 : (Jvm.Cond.selects C0 yd yd).before args s = true := mvT hZ wse
  have hpriv := Cond.privateMethod_at (mvP hZ wp (args := #[]))
  obtain ⟨mk, methM, hnamed, hmethM, hstM, habM⟩ := Cond.instanceMethod_spec h1
  obtain ⟨methM', cM, hmethM', -, -, -, -, -, -, hsigM⟩ := Cond.code_spec hnamed h2
  cases hmethM.symm.trans hmethM'
  obtain ⟨c2, r2, m2, -, -, q3, -, kP, hkP, hkPi⟩ := Cond.selects_spec h3
  have hcc : m2.cls = mk.cls := by
    have z1 := findClass_of_methodNamed q3
    have z2 := findClass_of_methodNamed hnamed
    rw [hcl, z2] at z1
    exact (Option.some.inj z1).symm
  rw [hcc] at hkP
  have hsel : selectMethod e.platform s.vm cell.cls mk = .method mk := selectMethod_private hmethM (hpriv mk methM hnamed hmethM)
  obtain ⟨vm₁, X₁, hstep₁⟩ := X.invokevirtual hx hown (mvT hZ wl) hnamed hmethM hstM hkP hkPi hy (a := a) (cell := cell) hcell' hobj hsel hmethM habM hkP hkPi (g := mkF m pc L (A.reverse ++ .ref a :: st)) rfl (argsL := A) (rest := st) (lenOf hds hA _ hsigM) rfl (hb hby hd)
  obtain ⟨v, ⟨T', L', k', n'⟩, X', ⟨Lc', hQ', l', y', z'⟩, hsteps⟩ := backOf (W := wt) hM hZ wc wz hf hlo m meth c ⟨T.setVm vm₁, locs, cells, slots⟩ { mkF m pc L (A.reverse ++ .ref a :: st) with stack := st } (.invokevirtual i) mk (.ref a :: A).toArray X₁ rfl (by rw [hml]; exact hL) (hb hby hd) (by show 2 * 0 + (st.map fun v => v.category).sum ≤ wt; omega) (X₁.named hnamed) ⟨rfl, eT, hc, hs⟩
  dsimp only [Pt.U, Pt.locs, Pt.cells, Pt.slots] at X' l' y' z' hsteps hQ'
  subst l' y' z'
  exact own_tr ((hstep₁ _ fun acts => by rw [doInvoke_state]; exact Steps.refl _).trans hsteps) (k T' _ _ ⟨⟨hx, hby, hml, hown, hnm, hrt, hlk, hZ⟩, _, X', rfl, own_Fw_app N hQ'.1 hws hsz⟩ hQ'.2.1 hQ'.2.2.1 hQ'.2.2.2)
end OwnArr
theorem own_off (u : Int32) : ∃ k : Nat, ((u &&& (2147483647 : Int32)) % (5 : Int32)).toInt = (k : Int) ∧ k < 5 := by
  have h1 := c_mask u 2147483647 31 (by decide) (by decide)
  have h2 := (c_irem (u &&& 2147483647) 5 5 rfl).1
  have h3 : 0 ≤ (u &&& 2147483647).toInt := by rw [h1]; omega
  have h4 := h2 h3
  exact ⟨((u &&& 2147483647) % 5).toInt.toNat, by omega, by omega⟩
theorem own_ofN {u : Int32} {k : Nat} (h : u.toInt = (k : Int)) (hk : k < 2147483648) : u = Int32.ofNat k := by
  have h1 := (back32 (own_nn h)).1
  rw [own_cl h] at h1
  exact h1.symm
theorem own_inc {u : Int32} {k : Nat} (h : u.toInt = (k : Int)) (hk : k < 2000000000) : (u + (1 : Int32)).toInt = ((k + 1 : Nat) : Int) := by
  have h1 := c_iadd u 1
  have h2 := rng32 (u + 1)
  have h3 : (1 : Int32).toInt = 1 := rfl
  omega
theorem own_ltN {u v : Int32} {i j : Nat} (hu : u.toInt = (i : Int)) (hv : v.toInt = (j : Int)) : u < v ↔ i < j := by
  rw [Int32.lt_iff_toInt_lt]; omega
theorem own_lt0 {u : Int32} : u < 0 ↔ u.toInt < 0 := by
  rw [Int32.lt_iff_toInt_lt]; have : (0 : Int32).toInt = 0 := rfl
  rw [this]
theorem own_lt5 {n : Nat} (h : n < 5) : n = 0 ∨ n = 1 ∨ n = 2 ∨ n = 3 ∨ n = 4 := by omega
theorem own_lt4 {n : Nat} (h : n < 4) : n = 0 ∨ n = 1 ∨ n = 2 ∨ n = 3 := by omega
def own_g (x0 x1 x2 x3 : Int32) (j : Nat) : Int32 := if j = 0 then x0 else if j = 1 then x1 else if j = 2 then x2 else x3
def own_upL (g : Nat → Int64) (k : Nat) (v : Int64) : Nat → Int64 := fun j => if j = k then v else g j
theorem own_upLe (g : Nat → Int64) (k : Nat) (v : Int64) (j : Nat) : own_upd (fun j => .long (g j)) k (.long v) j = .long (own_upL g k v j) := by
  unfold own_upd own_upL
  split <;> rfl
def own_Two (a b : Slot) : Prop := (a = .unset ∧ b = .unset) ∨ ∃ z, a = .val (.long z) ∧ b = .second
def own_sift : Nat → (Nat → Int64) → (Nat → Int64) → Nat → Nat → Int64 → Int64 → (Nat → Int64) × (Nat → Int64)
  | 0, K, V, _, i, key, val => (own_upL K i key, own_upL V i val)
  | f + 1, K, V, n, i, key, val =>
    if 2 * i + 1 < n then
      if 2 * i + 1 + 1 < n ∧ (K (2 * i + 1 + 1) < K (2 * i + 1) ∨ (K (2 * i + 1 + 1) = K (2 * i + 1) ∧ V (2 * i + 1 + 1) < V (2 * i + 1))) then
        if key < K (2 * i + 1 + 1) ∨ (K (2 * i + 1 + 1) = key ∧ ¬ V (2 * i + 1 + 1) < val) then (own_upL K i key, own_upL V i val)
        else own_sift f (own_upL K i (K (2 * i + 1 + 1))) (own_upL V i (V (2 * i + 1 + 1))) n (2 * i + 1 + 1) key val
      else
        if key < K (2 * i + 1) ∨ (K (2 * i + 1) = key ∧ ¬ V (2 * i + 1) < val) then (own_upL K i key, own_upL V i val)
        else own_sift f (own_upL K i (K (2 * i + 1))) (own_upL V i (V (2 * i + 1))) n (2 * i + 1) key val
    else (own_upL K i key, own_upL V i val)
theorem own_ch {u : Int32} {k : Nat} (h : u.toInt = (k : Int)) (hk : k < 1000) : (((2 : Int32) * u) + (1 : Int32)).toInt = ((2 * k + 1 : Nat) : Int) := by
  have h1 := c_imul 2 u
  have h2 := rng32 ((2 : Int32) * u)
  have h3 := c_iadd ((2 : Int32) * u) 1
  have h4 := rng32 ((2 : Int32) * u + 1)
  have h5 : (2 : Int32).toInt = 2 := rfl
  have h6 : (1 : Int32).toInt = 1 := rfl
  rw [h5, h] at h1
  omega
def own_upI (g : Nat → Int32) (k : Nat) (v : Int32) : Nat → Int32 := fun j => if j = k then v else g j
theorem own_upIe (g : Nat → Int32) (k : Nat) (v : Int32) (j : Nat) : own_upd (fun j => .int (g j)) k (.int v) j = .int (own_upI g k v j) := by
  unfold own_upd own_upI
  split <;> rfl
def own_io (ct : Int32) (t p : Int64) : Int32 := if ct = (0 : Int32) then (1 : Int32) else (if t < p then (0 : Int32) else (1 : Int32))
theorem own_dec {u : Int32} {k : Nat} (h : u.toInt = (k : Int)) (hk : 1 ≤ k) : (u - (1 : Int32)).toInt = ((k - 1 : Nat) : Int) := by
  have h1 := c_isub u 1
  have h2 := rng32 (u - 1)
  have h3 : (1 : Int32).toInt = 1 := rfl
  have h4 := rng32 u
  omega
theorem own_ne0 {u : Int32} {k : Nat} (h : u.toInt = (k : Int)) (q : ¬ u = (0 : Int32)) : 1 ≤ k := by
  rcases Nat.eq_zero_or_pos k with r | r
  · exact absurd (own_ofN (by rw [h, r]) (by decide)) q
  · exact r
def own_up : Nat → (Nat → Int64) → (Nat → Int64) → Nat → Int64 → Int64 → (Nat → Int64) × (Nat → Int64)
  | 0, K, V, i, key, val => (own_upL K i key, own_upL V i val)
  | f + 1, K, V, i, key, val =>
    if 0 < i then
      if K ((i - 1) / 2) < key ∨ (K ((i - 1) / 2) = key ∧ ¬ val < V ((i - 1) / 2)) then (own_upL K i key, own_upL V i val)
      else own_up f (own_upL K i (K ((i - 1) / 2))) (own_upL V i (V ((i - 1) / 2))) ((i - 1) / 2) key val
    else (own_upL K i key, own_upL V i val)
theorem own_par {u : Int32} {k : Nat} (h : u.toInt = (k : Int)) (hk : 1 ≤ k) : (((u - (1 : Int32)).toUInt32 >>> ((1 : Int32) &&& 31).toUInt32).toInt32).toInt = (((k - 1) / 2 : Nat) : Int) := by
  have h1 := own_dec h hk
  have h2 := c_iushr (u - (1 : Int32)) 1 1 (by decide) (by decide)
  have h3 := rng32 u
  simp only [Nat.reducePow] at h2
  omega
theorem ef_m1 (m : MethodId) (x0 : Int64) (x1 : Int32) (x2 : Int64) (x3 : Int32) : entryFrame m #[(.long x0), (.int x1), (.long x2), (.int x3)] 6 = mkF m 0 #[.val (.long x0), .second, .val (.int x1), .val (.long x2), .second, .val (.int x3)] [] := by first | (simp [entryFrame, mkF, argsToLocals, Value.category]; done) | rfl
set_option maxRecDepth 65536 in
set_option maxHeartbeats 40000000 in
theorem own_m1 (l : Launch) (Z : State) (a0 : Array Value) (hw : ∀ d ∈ tables_1, d.before a0 Z = true) (wo : List Jvm.Cond) (h0 : Heap) (q1 : Int64) (p2 : Int32) (q3 : Int64) (p4 : Int32) :
    own_M l Z wo (⟨"com/example/queueloom/queueloom/engine/ArrivalsAddPinLaw", "cb", "(JIJI)I"⟩ : MethodName) method_2_code 6 (some .int) ({ frames := 0, cells := 0, slots := 0, locals := 0 } : Room) [] #[(.long q1), (.int p2), (.long q3), (.int p4)] h0 (fun v h => v = some (.int (if q1 < q3 then (1 : Int32) else (if q1 = q3 then (if p2 < p4 then (1 : Int32) else (0 : Int32)) else (0 : Int32))))) := by
  refine own_body (plainFor_of_name pn_1) (fun m => ef_m1 m q1 p2 q3 p4) ?_
  intro p e s m below meth c C hC T0 W0
  refine own_lloadN W0 1 d1_0 rfl rfl ?_
  refine own_lloadN W0 2 d1_1 rfl rfl ?_
  refine own_lcmp W0 3 d1_2 rfl ?_
  suffices J1 : own_Go p e below C T0 (mkF m 23 #[.val (.long q1), .second, .val (.int p2), .val (.long q3), .second, .val (.int p4)] [(.int (if q1 < q3 then (1 : Int32) else (if q1 = q3 then (if p2 < p4 then (1 : Int32) else (0 : Int32)) else (0 : Int32))))]) by
    by_cases c2 : q1 < q3
    · refine own_ifY W0 18 d1_3 ((if0 _ _).trans (tlt ((lw_lt q1 q3).mpr c2)).1) (by decide) (by decide) ?_
      refine own_iconst W0 (1 : Int32) 19 d1_18 rfl rfl ?_
      refine own_goto W0 23 d1_19 (by decide) (by decide) ?_
      first | (simp only [if_pos c2] at J1; exact J1) | (simp only [if_pos c2] at J1 ⊢; exact J1)
    · refine own_ifN W0 6 d1_3 ((if0 _ _).trans (flt (mt (lw_lt q1 q3).mp c2)).1) rfl ?_
      refine own_lloadN W0 7 d1_6 rfl rfl ?_
      refine own_lloadN W0 8 d1_7 rfl rfl ?_
      refine own_lcmp W0 9 d1_8 rfl ?_
      by_cases c3 : q1 = q3
      · refine own_ifN W0 12 d1_9 ((if0 _ _).trans (teq ((lw_eq q1 q3).mpr c3)).2) rfl ?_
        refine own_iloadN W0 13 d1_12 rfl rfl ?_
        refine own_iload W0 15 d1_13 rfl rfl ?_
        by_cases c4 : p2 < p4
        · refine own_icmpN W0 18 d1_15 ((tlt c4).2.1) rfl ?_
          refine own_iconst W0 (1 : Int32) 19 d1_18 rfl rfl ?_
          refine own_goto W0 23 d1_19 (by decide) (by decide) ?_
          first | (simp only [if_neg c2, if_pos c3, if_pos c4] at J1; exact J1) | (simp only [if_neg c2, if_pos c3, if_pos c4] at J1 ⊢; exact J1)
        · refine own_icmpY W0 22 d1_15 ((flt c4).2.1) (by decide) (by decide) ?_
          refine own_iconst W0 (0 : Int32) 23 d1_22 rfl rfl ?_
          first | (simp only [if_neg c2, if_pos c3, if_neg c4] at J1; exact J1) | (simp only [if_neg c2, if_pos c3, if_neg c4] at J1 ⊢; exact J1)
      · refine own_ifY W0 22 d1_9 ((if0 _ _).trans (feq (mt (lw_eq q1 q3).mp c3)).2) (by decide) (by decide) ?_
        refine own_iconst W0 (0 : Int32) 23 d1_22 rfl rfl ?_
        first | (simp only [if_neg c2, if_neg c3] at J1; exact J1) | (simp only [if_neg c2, if_neg c3] at J1 ⊢; exact J1)
  refine own_retI (Q := fun v h => v = some (.int (if q1 < q3 then (1 : Int32) else (if q1 = q3 then (if p2 < p4 then (1 : Int32) else (0 : Int32)) else (0 : Int32))))) W0 hC (by decide) (by decide) d1_23 ?_
  exact rfl
theorem own_le_ {p : Program} {l : Launch} {e : Env} {R : Room} {s : State} {m : MethodId} {args : Array Value} {below : List Frame} {meth : Method} {c : Code} {Z : State} {y : MethodName} {ret : Option FieldType} {code : ByteArray} {ml : Nat} {ws : List Addr} {T : State} {h : Heap} (W : own_W p l e R s m args below meth c Z y ret code ml ws T h 0 0) {a : Addr} (q : s.heap.size ≤ a) : h.size ≤ a := by
  obtain ⟨-, locs, X, rfl, -⟩ := W
  have h1 := X.heapSize
  exact Nat.le_trans h1 q
theorem ef_m2 (m : MethodId) (x0 : Addr) (x1 : Int32) : entryFrame m #[(.ref x0), (.int x1)] 2 = mkF m 0 #[.val (.ref x0), .val (.int x1)] [] := by first | (simp [entryFrame, mkF, argsToLocals, Value.category]; done) | rfl
set_option maxRecDepth 65536 in
set_option maxHeartbeats 40000000 in
theorem own_m2 (l : Launch) (Z : State) (a0 : Array Value) (hw : ∀ d ∈ tables_1, d.before a0 Z = true) (wo : List Jvm.Cond) (h0 : Heap) (a1 : Addr) (X_a1 : Exa Z h0 a1 "com/example/queueloom/queueloom/engine/Arrivals") (F_times_a1 : Fld Z h0 a1 "com/example/queueloom/queueloom/engine/Arrivals" "times" "[J" .null) (F_indices_a1 : Fld Z h0 a1 "com/example/queueloom/queueloom/engine/Arrivals" "indices" "[I" .null) (F_count_a1 : Fld Z h0 a1 "com/example/queueloom/queueloom/engine/Arrivals" "count" "I" (.int (0 : Int32))) (F_first_a1 : Fld Z h0 a1 "com/example/queueloom/queueloom/engine/Arrivals" "first" "I" (.int (0 : Int32))) (F_inOrder_a1 : Fld Z h0 a1 "com/example/queueloom/queueloom/engine/Arrivals" "inOrder" "Z" (.int (0 : Int32))) (F_later_a1 : Fld Z h0 a1 "com/example/queueloom/queueloom/engine/Arrivals" "later" "Lcom/example/queueloom/queueloom/engine/LongPairHeap;" .null) :
    own_M l Z wo (⟨"com/example/queueloom/queueloom/engine/Arrivals", "<init>", "(I)V"⟩ : MethodName) prog_53_method_1_code 2 none ({ frames := 1, cells := 2, slots := 6, locals := 12 } : Room) [a1] #[(.ref a1), (.int (3 : Int32))] h0 (fun v h => v = none ∧ (∃ tt ii, h0.size ≤ tt ∧ h0.size ≤ ii ∧ tt ≠ ii ∧ Exa Z h ii "[I" ∧ Fld Z h a1 "com/example/queueloom/queueloom/engine/Arrivals" "times" "[J" (.ref tt) ∧ Fld Z h a1 "com/example/queueloom/queueloom/engine/Arrivals" "indices" "[I" (.ref ii) ∧ Fld Z h a1 "com/example/queueloom/queueloom/engine/Arrivals" "count" "I" (.int (0 : Int32)) ∧ Fld Z h a1 "com/example/queueloom/queueloom/engine/Arrivals" "first" "I" (.int (0 : Int32)) ∧ Fld Z h a1 "com/example/queueloom/queueloom/engine/Arrivals" "inOrder" "Z" (.int (1 : Int32)) ∧ Fld Z h a1 "com/example/queueloom/queueloom/engine/Arrivals" "later" "Lcom/example/queueloom/queueloom/engine/LongPairHeap;" .null ∧ own_A Z h tt .long 3 (fun j => .long ((fun _ => 0) j)) ∧ own_A Z h ii .int 3 (fun j => .int ((fun _ => 0) j)))) := by
  refine own_body (plainFor_of_name pn_2) (fun m => ef_m2 m a1 (3 : Int32)) ?_
  intro p e s m below meth c C hC T0 W0
  refine own_aloadN W0 1 d2_0 rfl rfl rfl ?_
  refine own_initO W0 0 4 d2_1 (wd13 hw) (wd14 hw) (wd15 hw) rfl (Nat.le_of_eq rfl) (by decide) (by decide) rfl ?_
  intro T1 W1
  show own_Go p e below C T1 (mkF m 4 #[.val (.ref a1), .val (.int (3 : Int32))] [])
  refine own_aloadN W1 5 d2_4 rfl rfl rfl ?_
  refine own_iconst W1 (1 : Int32) 6 d2_5 rfl rfl ?_
  refine own_putfield W1 (.int (1 : Int32)) 9 d2_6 (wd16 hw) F_inOrder_a1 X_a1 (Or.inl (wd17 hw)) (wd8 hw) (Or.inl (List.mem_of_getElem? (i := 0) rfl)) (ty := .boolean) (by decide) rfl rfl rfl ?_
  intro T2 h2 W2 Wr2 F_inOrder_a1
  have X_a1 := X_a1.wr Wr2
  have F_times_a1 := F_times_a1.other Wr2 (Or.inr (slot_ne (Or.inl (wd19 hw)) (Or.inl (wd17 hw)) (by decide) (t := (.array .long)) (t' := .boolean) (by decide) (by decide)))
  have F_indices_a1 := F_indices_a1.other Wr2 (Or.inr (slot_ne (Or.inl (wd21 hw)) (Or.inl (wd17 hw)) (by decide) (t := (.array .int)) (t' := .boolean) (by decide) (by decide)))
  have F_count_a1 := F_count_a1.other Wr2 (Or.inr (slot_ne (Or.inl (wd28 hw)) (Or.inl (wd17 hw)) (by decide) (t := .int) (t' := .boolean) (by decide) (by decide)))
  have F_first_a1 := F_first_a1.other Wr2 (Or.inr (slot_ne (Or.inl (wd35 hw)) (Or.inl (wd17 hw)) (by decide) (t := .int) (t' := .boolean) (by decide) (by decide)))
  have F_later_a1 := F_later_a1.other Wr2 (Or.inr (slot_ne (Or.inl (wd100 hw)) (Or.inl (wd17 hw)) (by decide) (t := (.object "com/example/queueloom/queueloom/engine/LongPairHeap")) (t' := .boolean) (by decide) (by decide)))
  show own_Go p e below C T2 (mkF m 9 #[.val (.ref a1), .val (.int (3 : Int32))] [])
  refine own_aloadN W2 10 d2_9 rfl rfl rfl ?_
  refine own_iloadN W2 11 d2_10 rfl rfl ?_
  refine own_newarray W2 3 3 13 d2_11 (wd6 hw) rfl (Nat.le_refl _) (by decide) (by decide) (by decide) rfl ?_
  intro T3 h3 tt W3 E3 g_tt o_tt V_tt
  have ne_a1_tt : a1 ≠ tt := by rw [g_tt]; exact Nat.ne_of_lt X_a1.lt
  have X_a1 := X_a1.ext E3
  have F_times_a1 := F_times_a1.ext E3
  have F_indices_a1 := F_indices_a1.ext E3
  have F_count_a1 := F_count_a1.ext E3
  have F_first_a1 := F_first_a1.ext E3
  have F_inOrder_a1 := F_inOrder_a1.ext E3
  have F_later_a1 := F_later_a1.ext E3
  show own_Go p e below C T3 (mkF m 13 #[.val (.ref a1), .val (.int (3 : Int32))] [(.ref tt), (.ref a1)])
  refine own_putfield W3 (.ref tt) 16 d2_13 (wd18 hw) F_times_a1 X_a1 (Or.inl (wd19 hw)) (wd8 hw) (Or.inl (List.mem_of_getElem? (i := 0) rfl)) (ty := (.array .long)) (by decide) rfl rfl rfl ?_
  intro T4 h4 W4 Wr4 F_times_a1
  have X_a1 := X_a1.wr Wr4
  have F_indices_a1 := F_indices_a1.other Wr4 (Or.inr (slot_ne (Or.inl (wd21 hw)) (Or.inl (wd19 hw)) (by decide) (t := (.array .int)) (t' := (.array .long)) (by decide) (by decide)))
  have F_count_a1 := F_count_a1.other Wr4 (Or.inr (slot_ne (Or.inl (wd28 hw)) (Or.inl (wd19 hw)) (by decide) (t := .int) (t' := (.array .long)) (by decide) (by decide)))
  have F_first_a1 := F_first_a1.other Wr4 (Or.inr (slot_ne (Or.inl (wd35 hw)) (Or.inl (wd19 hw)) (by decide) (t := .int) (t' := (.array .long)) (by decide) (by decide)))
  have F_inOrder_a1 := F_inOrder_a1.other Wr4 (Or.inr (slot_ne (Or.inl (wd17 hw)) (Or.inl (wd19 hw)) (by decide) (t := .boolean) (t' := (.array .long)) (by decide) (by decide)))
  have F_later_a1 := F_later_a1.other Wr4 (Or.inr (slot_ne (Or.inl (wd100 hw)) (Or.inl (wd19 hw)) (by decide) (t := (.object "com/example/queueloom/queueloom/engine/LongPairHeap")) (t' := (.array .long)) (by decide) (by decide)))
  have V_tt := V_tt.other Wr4 (Ne.symm ne_a1_tt)
  show own_Go p e below C T4 (mkF m 16 #[.val (.ref a1), .val (.int (3 : Int32))] [])
  refine own_aloadN W4 17 d2_16 rfl rfl rfl ?_
  refine own_iloadN W4 18 d2_17 rfl rfl ?_
  refine own_newarrayE W4 3 3 "[I" 20 d2_18 (wd5 hw) rfl (Nat.le_refl _) (by decide) (by decide) (by decide) (by decide) rfl ?_
  intro T5 h5 ii W5 E5 g_ii o_ii V_ii Y_ii
  have ne_a1_ii : a1 ≠ ii := by rw [g_ii]; exact Nat.ne_of_lt X_a1.lt
  have ne_tt_ii : tt ≠ ii := by rw [g_ii]; exact Nat.ne_of_lt V_tt.lt
  have X_a1 := X_a1.ext E5
  have F_times_a1 := F_times_a1.ext E5
  have F_indices_a1 := F_indices_a1.ext E5
  have F_count_a1 := F_count_a1.ext E5
  have F_first_a1 := F_first_a1.ext E5
  have F_inOrder_a1 := F_inOrder_a1.ext E5
  have F_later_a1 := F_later_a1.ext E5
  have V_tt := V_tt.ext E5
  show own_Go p e below C T5 (mkF m 20 #[.val (.ref a1), .val (.int (3 : Int32))] [(.ref ii), (.ref a1)])
  refine own_putfield W5 (.ref ii) 23 d2_20 (wd20 hw) F_indices_a1 X_a1 (Or.inl (wd21 hw)) (wd8 hw) (Or.inl (List.mem_of_getElem? (i := 0) rfl)) (ty := (.array .int)) (by decide) rfl rfl rfl ?_
  intro T6 h6 W6 Wr6 F_indices_a1
  have X_a1 := X_a1.wr Wr6
  have F_times_a1 := F_times_a1.other Wr6 (Or.inr (slot_ne (Or.inl (wd19 hw)) (Or.inl (wd21 hw)) (by decide) (t := (.array .long)) (t' := (.array .int)) (by decide) (by decide)))
  have F_count_a1 := F_count_a1.other Wr6 (Or.inr (slot_ne (Or.inl (wd28 hw)) (Or.inl (wd21 hw)) (by decide) (t := .int) (t' := (.array .int)) (by decide) (by decide)))
  have F_first_a1 := F_first_a1.other Wr6 (Or.inr (slot_ne (Or.inl (wd35 hw)) (Or.inl (wd21 hw)) (by decide) (t := .int) (t' := (.array .int)) (by decide) (by decide)))
  have F_inOrder_a1 := F_inOrder_a1.other Wr6 (Or.inr (slot_ne (Or.inl (wd17 hw)) (Or.inl (wd21 hw)) (by decide) (t := .boolean) (t' := (.array .int)) (by decide) (by decide)))
  have F_later_a1 := F_later_a1.other Wr6 (Or.inr (slot_ne (Or.inl (wd100 hw)) (Or.inl (wd21 hw)) (by decide) (t := (.object "com/example/queueloom/queueloom/engine/LongPairHeap")) (t' := (.array .int)) (by decide) (by decide)))
  have V_tt := V_tt.other Wr6 (Ne.symm ne_a1_tt)
  have V_ii := V_ii.other Wr6 (Ne.symm ne_a1_ii)
  have Y_ii := Y_ii.wr Wr6
  show own_Go p e below C T6 (mkF m 23 #[.val (.ref a1), .val (.int (3 : Int32))] [])
  refine own_retV (Q := fun v h => v = none ∧ (∃ tt ii, h0.size ≤ tt ∧ h0.size ≤ ii ∧ tt ≠ ii ∧ Exa Z h ii "[I" ∧ Fld Z h a1 "com/example/queueloom/queueloom/engine/Arrivals" "times" "[J" (.ref tt) ∧ Fld Z h a1 "com/example/queueloom/queueloom/engine/Arrivals" "indices" "[I" (.ref ii) ∧ Fld Z h a1 "com/example/queueloom/queueloom/engine/Arrivals" "count" "I" (.int (0 : Int32)) ∧ Fld Z h a1 "com/example/queueloom/queueloom/engine/Arrivals" "first" "I" (.int (0 : Int32)) ∧ Fld Z h a1 "com/example/queueloom/queueloom/engine/Arrivals" "inOrder" "Z" (.int (1 : Int32)) ∧ Fld Z h a1 "com/example/queueloom/queueloom/engine/Arrivals" "later" "Lcom/example/queueloom/queueloom/engine/LongPairHeap;" .null ∧ own_A Z h tt .long 3 (fun j => .long ((fun _ => 0) j)) ∧ own_A Z h ii .int 3 (fun j => .int ((fun _ => 0) j)))) W6 hC (by decide) (by decide) d2_23 ?_
  exact ⟨rfl, ⟨tt, ii, own_le_ W0 o_tt, own_le_ W0 o_ii, ne_tt_ii, Y_ii, F_times_a1, F_indices_a1, F_count_a1, F_first_a1, F_inOrder_a1, F_later_a1, V_tt, V_ii⟩⟩
theorem ef_m4 (m : MethodId) (x0 : Addr) (x1 : Int64) (x2 : Int32) : entryFrame m #[(.ref x0), (.long x1), (.int x2)] 4 = mkF m 0 #[.val (.ref x0), .val (.long x1), .second, .val (.int x2)] [] := by first | (simp [entryFrame, mkF, argsToLocals, Value.category]; done) | rfl
set_option maxRecDepth 65536 in
set_option maxHeartbeats 40000000 in
theorem own_m4 (l : Launch) (Z : State) (a0 : Array Value) (hw : ∀ d ∈ tables_1, d.before a0 Z = true) (wo : List Jvm.Cond) (h0 : Heap) (a1 : Addr) (q2 : Int64) (p3 : Int32) (tt : Addr) (ii : Addr) (tm : Nat → Int64) (ix : Nat → Int32) (n : Nat) (ct : Int32) (io : Int32) (X_a1 : Exa Z h0 a1 "com/example/queueloom/queueloom/engine/Arrivals") (F_times_a1 : Fld Z h0 a1 "com/example/queueloom/queueloom/engine/Arrivals" "times" "[J" (.ref tt)) (F_indices_a1 : Fld Z h0 a1 "com/example/queueloom/queueloom/engine/Arrivals" "indices" "[I" (.ref ii)) (F_count_a1 : Fld Z h0 a1 "com/example/queueloom/queueloom/engine/Arrivals" "count" "I" (.int ct)) (F_first_a1 : Fld Z h0 a1 "com/example/queueloom/queueloom/engine/Arrivals" "first" "I" (.int (0 : Int32))) (F_inOrder_a1 : Fld Z h0 a1 "com/example/queueloom/queueloom/engine/Arrivals" "inOrder" "Z" (.int io)) (F_later_a1 : Fld Z h0 a1 "com/example/queueloom/queueloom/engine/Arrivals" "later" "Lcom/example/queueloom/queueloom/engine/LongPairHeap;" .null) (V_tt : own_A Z h0 tt .long 3 (fun j => .long (tm j))) (V_ii : own_A Z h0 ii .int 3 (fun j => .int (ix j))) (ne_a_t : a1 ≠ tt) (ne_a_i : a1 ≠ ii) (ne_t_i : tt ≠ ii) (hct : ct.toInt = (n : Int)) (hn : n < 3) :
    own_M l Z wo (⟨"com/example/queueloom/queueloom/engine/Arrivals", "add", "(JI)V"⟩ : MethodName) prog_53_method_2_code 4 none ({ frames := 0, cells := 0, slots := 0, locals := 0 } : Room) [a1, tt, ii] #[(.ref a1), (.long q2), (.int p3)] h0 (fun v h => v = none ∧ (Fld Z h a1 "com/example/queueloom/queueloom/engine/Arrivals" "times" "[J" (.ref tt) ∧ Fld Z h a1 "com/example/queueloom/queueloom/engine/Arrivals" "indices" "[I" (.ref ii) ∧ Fld Z h a1 "com/example/queueloom/queueloom/engine/Arrivals" "count" "I" (.int (ct + (1 : Int32))) ∧ Fld Z h a1 "com/example/queueloom/queueloom/engine/Arrivals" "first" "I" (.int (0 : Int32)) ∧ Fld Z h a1 "com/example/queueloom/queueloom/engine/Arrivals" "inOrder" "Z" (.int ((io &&& own_io ct q2 (tm (n - 1))) &&& 1)) ∧ Fld Z h a1 "com/example/queueloom/queueloom/engine/Arrivals" "later" "Lcom/example/queueloom/queueloom/engine/LongPairHeap;" .null ∧ own_A Z h tt .long 3 (fun j => .long ((own_upL tm n q2) j)) ∧ own_A Z h ii .int 3 (fun j => .int ((own_upI ix n p3) j)))) := by
  refine own_body (plainFor_of_name pn_4) (fun m => ef_m4 m a1 q2 p3) ?_
  intro p e s m below meth c C hC T0 W0
  refine own_aloadN W0 1 d4_0 rfl rfl rfl ?_
  refine own_dup W0 2 d4_1 rfl rfl ?_
  refine own_getfield W0 5 d4_2 (wd16 hw) F_inOrder_a1 rfl ?_
  intro T1 W1
  show own_Go p e below C T1 (mkF m 5 #[.val (.ref a1), .val (.long q2), .second, .val (.int p3)] [(.int io), (.ref a1)])
  refine own_aloadN W1 6 d4_5 rfl rfl rfl ?_
  refine own_getfield W1 9 d4_6 (wd27 hw) F_count_a1 rfl ?_
  intro T2 W2
  show own_Go p e below C T2 (mkF m 9 #[.val (.ref a1), .val (.long q2), .second, .val (.int p3)] [(.int ct), (.int io), (.ref a1)])
  have J3 : ∀ (T3 : State) (bv : Int32), own_W p l e ({ frames := 0, cells := 0, slots := 0, locals := 0 } : Room) s m #[(.ref a1), (.long q2), (.int p3)] below meth c Z (⟨"com/example/queueloom/queueloom/engine/Arrivals", "add", "(JI)V"⟩ : MethodName) none prog_53_method_2_code 4 [a1, tt, ii] T3 h0 (0) (0) → bv = own_io ct q2 (tm (n - 1)) → own_Go p e below C T3 (mkF m 33 #[.val (.ref a1), .val (.long q2), .second, .val (.int p3)] [(.int bv), (.int io), (.ref a1)]) := by
    intro T3 bv W3 hbv
    refine own_iand W3 34 d4_33 rfl ?_
    refine own_putfield W3 (.int ((io &&& bv) &&& 1)) 37 d4_34 (wd16 hw) F_inOrder_a1 X_a1 (Or.inl (wd17 hw)) (wd8 hw) (Or.inl (List.mem_of_getElem? (i := 0) rfl)) (ty := .boolean) (by decide) rfl (fits_nar_bool _) rfl ?_
    intro T4 h4 W4 Wr4 F_inOrder_a1
    have X_a1 := X_a1.wr Wr4
    have F_times_a1 := F_times_a1.other Wr4 (Or.inr (slot_ne (Or.inl (wd19 hw)) (Or.inl (wd17 hw)) (by decide) (t := (.array .long)) (t' := .boolean) (by decide) (by decide)))
    have F_indices_a1 := F_indices_a1.other Wr4 (Or.inr (slot_ne (Or.inl (wd21 hw)) (Or.inl (wd17 hw)) (by decide) (t := (.array .int)) (t' := .boolean) (by decide) (by decide)))
    have F_count_a1 := F_count_a1.other Wr4 (Or.inr (slot_ne (Or.inl (wd28 hw)) (Or.inl (wd17 hw)) (by decide) (t := .int) (t' := .boolean) (by decide) (by decide)))
    have F_first_a1 := F_first_a1.other Wr4 (Or.inr (slot_ne (Or.inl (wd35 hw)) (Or.inl (wd17 hw)) (by decide) (t := .int) (t' := .boolean) (by decide) (by decide)))
    have F_later_a1 := F_later_a1.other Wr4 (Or.inr (slot_ne (Or.inl (wd100 hw)) (Or.inl (wd17 hw)) (by decide) (t := (.object "com/example/queueloom/queueloom/engine/LongPairHeap")) (t' := .boolean) (by decide) (by decide)))
    have V_tt := V_tt.other Wr4 (Ne.symm ne_a_t)
    have V_ii := V_ii.other Wr4 (Ne.symm ne_a_i)
    show own_Go p e below C T4 (mkF m 37 #[.val (.ref a1), .val (.long q2), .second, .val (.int p3)] [])
    refine own_aloadN W4 38 d4_37 rfl rfl rfl ?_
    refine own_getfield W4 41 d4_38 (wd18 hw) F_times_a1 rfl ?_
    intro T5 W5
    show own_Go p e below C T5 (mkF m 41 #[.val (.ref a1), .val (.long q2), .second, .val (.int p3)] [(.ref tt)])
    refine own_aloadN W5 42 d4_41 rfl rfl rfl ?_
    refine own_getfield W5 45 d4_42 (wd27 hw) F_count_a1 rfl ?_
    intro T6 W6
    show own_Go p e below C T6 (mkF m 45 #[.val (.ref a1), .val (.long q2), .second, .val (.int p3)] [(.int ct), (.ref tt)])
    refine own_lloadN W6 46 d4_45 rfl rfl ?_
    refine own_lastore W6 n 47 d4_46 V_tt (Or.inl (List.mem_of_getElem? (i := 1) rfl)) hct hn rfl ?_
    intro T7 h7 W7 Wr7 V_tt
    have X_a1 := X_a1.wr Wr7
    have F_times_a1 := F_times_a1.other Wr7 (Or.inl ne_a_t)
    have F_indices_a1 := F_indices_a1.other Wr7 (Or.inl ne_a_t)
    have F_count_a1 := F_count_a1.other Wr7 (Or.inl ne_a_t)
    have F_first_a1 := F_first_a1.other Wr7 (Or.inl ne_a_t)
    have F_inOrder_a1 := F_inOrder_a1.other Wr7 (Or.inl ne_a_t)
    have F_later_a1 := F_later_a1.other Wr7 (Or.inl ne_a_t)
    have V_ii := V_ii.other Wr7 (Ne.symm ne_t_i)
    show own_Go p e below C T7 (mkF m 47 #[.val (.ref a1), .val (.long q2), .second, .val (.int p3)] [])
    refine own_aloadN W7 48 d4_47 rfl rfl rfl ?_
    refine own_getfield W7 51 d4_48 (wd20 hw) F_indices_a1 rfl ?_
    intro T8 W8
    show own_Go p e below C T8 (mkF m 51 #[.val (.ref a1), .val (.long q2), .second, .val (.int p3)] [(.ref ii)])
    refine own_aloadN W8 52 d4_51 rfl rfl rfl ?_
    refine own_getfield W8 55 d4_52 (wd27 hw) F_count_a1 rfl ?_
    intro T9 W9
    show own_Go p e below C T9 (mkF m 55 #[.val (.ref a1), .val (.long q2), .second, .val (.int p3)] [(.int ct), (.ref ii)])
    refine own_iloadN W9 56 d4_55 rfl rfl ?_
    refine own_iastore W9 n 57 d4_56 V_ii (Or.inl (List.mem_of_getElem? (i := 2) rfl)) hct hn rfl ?_
    intro T10 h10 W10 Wr10 V_ii
    have X_a1 := X_a1.wr Wr10
    have F_times_a1 := F_times_a1.other Wr10 (Or.inl ne_a_i)
    have F_indices_a1 := F_indices_a1.other Wr10 (Or.inl ne_a_i)
    have F_count_a1 := F_count_a1.other Wr10 (Or.inl ne_a_i)
    have F_first_a1 := F_first_a1.other Wr10 (Or.inl ne_a_i)
    have F_inOrder_a1 := F_inOrder_a1.other Wr10 (Or.inl ne_a_i)
    have F_later_a1 := F_later_a1.other Wr10 (Or.inl ne_a_i)
    have V_tt := V_tt.other Wr10 ne_t_i
    show own_Go p e below C T10 (mkF m 57 #[.val (.ref a1), .val (.long q2), .second, .val (.int p3)] [])
    refine own_aloadN W10 58 d4_57 rfl rfl rfl ?_
    refine own_dup W10 59 d4_58 rfl rfl ?_
    refine own_getfield W10 62 d4_59 (wd27 hw) F_count_a1 rfl ?_
    intro T11 W11
    show own_Go p e below C T11 (mkF m 62 #[.val (.ref a1), .val (.long q2), .second, .val (.int p3)] [(.int ct), (.ref a1)])
    refine own_iconst W11 (1 : Int32) 63 d4_62 rfl rfl ?_
    refine own_iadd W11 64 d4_63 rfl ?_
    refine own_putfield W11 (.int (ct + (1 : Int32))) 67 d4_64 (wd27 hw) F_count_a1 X_a1 (Or.inl (wd28 hw)) (wd8 hw) (Or.inl (List.mem_of_getElem? (i := 0) rfl)) (ty := .int) (by decide) rfl rfl rfl ?_
    intro T12 h12 W12 Wr12 F_count_a1
    have X_a1 := X_a1.wr Wr12
    have F_times_a1 := F_times_a1.other Wr12 (Or.inr (slot_ne (Or.inl (wd19 hw)) (Or.inl (wd28 hw)) (by decide) (t := (.array .long)) (t' := .int) (by decide) (by decide)))
    have F_indices_a1 := F_indices_a1.other Wr12 (Or.inr (slot_ne (Or.inl (wd21 hw)) (Or.inl (wd28 hw)) (by decide) (t := (.array .int)) (t' := .int) (by decide) (by decide)))
    have F_first_a1 := F_first_a1.other Wr12 (Or.inr (slot_ne (Or.inl (wd35 hw)) (Or.inl (wd28 hw)) (by decide) (t := .int) (t' := .int) (by decide) (by decide)))
    have F_inOrder_a1 := F_inOrder_a1.other Wr12 (Or.inr (slot_ne (Or.inl (wd17 hw)) (Or.inl (wd28 hw)) (by decide) (t := .boolean) (t' := .int) (by decide) (by decide)))
    have F_later_a1 := F_later_a1.other Wr12 (Or.inr (slot_ne (Or.inl (wd100 hw)) (Or.inl (wd28 hw)) (by decide) (t := (.object "com/example/queueloom/queueloom/engine/LongPairHeap")) (t' := .int) (by decide) (by decide)))
    have V_tt := V_tt.other Wr12 (Ne.symm ne_a_t)
    have V_ii := V_ii.other Wr12 (Ne.symm ne_a_i)
    show own_Go p e below C T12 (mkF m 67 #[.val (.ref a1), .val (.long q2), .second, .val (.int p3)] [])
    refine own_retV (Q := fun v h => v = none ∧ (Fld Z h a1 "com/example/queueloom/queueloom/engine/Arrivals" "times" "[J" (.ref tt) ∧ Fld Z h a1 "com/example/queueloom/queueloom/engine/Arrivals" "indices" "[I" (.ref ii) ∧ Fld Z h a1 "com/example/queueloom/queueloom/engine/Arrivals" "count" "I" (.int (ct + (1 : Int32))) ∧ Fld Z h a1 "com/example/queueloom/queueloom/engine/Arrivals" "first" "I" (.int (0 : Int32)) ∧ Fld Z h a1 "com/example/queueloom/queueloom/engine/Arrivals" "inOrder" "Z" (.int ((io &&& own_io ct q2 (tm (n - 1))) &&& 1)) ∧ Fld Z h a1 "com/example/queueloom/queueloom/engine/Arrivals" "later" "Lcom/example/queueloom/queueloom/engine/LongPairHeap;" .null ∧ own_A Z h tt .long 3 (fun j => .long ((own_upL tm n q2) j)) ∧ own_A Z h ii .int 3 (fun j => .int ((own_upI ix n p3) j)))) W12 hC (by decide) (by decide) d4_67 ?_
    exact ⟨rfl, (by rw [← hbv]; exact ⟨F_times_a1, F_indices_a1, F_count_a1, F_first_a1, F_inOrder_a1, F_later_a1, V_tt.congr (fun j _ => own_upLe _ _ _ j), V_ii.congr (fun j _ => own_upIe _ _ _ j)⟩)⟩
  by_cases c13 : ct = (0 : Int32)
  · refine own_ifY W2 28 d4_9 ((if0 _ _).trans (teq c13).1) (by decide) (by decide) ?_
    refine own_iconst W2 (1 : Int32) 29 d4_28 rfl rfl ?_
    refine own_goto W2 33 d4_29 (by decide) (by decide) ?_
    exact J3 T2 _ W2 (by rw [own_io, if_pos c13])
  · refine own_ifN W2 12 d4_9 ((if0 _ _).trans (feq c13).1) rfl ?_
    have hn1 := own_ne0 hct c13
    refine own_aloadN W2 13 d4_12 rfl rfl rfl ?_
    refine own_getfield W2 16 d4_13 (wd18 hw) F_times_a1 rfl ?_
    intro T14 W14
    show own_Go p e below C T14 (mkF m 16 #[.val (.ref a1), .val (.long q2), .second, .val (.int p3)] [(.ref tt), (.int io), (.ref a1)])
    refine own_aloadN W14 17 d4_16 rfl rfl rfl ?_
    refine own_getfield W14 20 d4_17 (wd27 hw) F_count_a1 rfl ?_
    intro T15 W15
    show own_Go p e below C T15 (mkF m 20 #[.val (.ref a1), .val (.long q2), .second, .val (.int p3)] [(.int ct), (.ref tt), (.int io), (.ref a1)])
    refine own_iconst W15 (1 : Int32) 21 d4_20 rfl rfl ?_
    refine own_isub W15 22 d4_21 rfl ?_
    refine own_laload W15 (n - 1) (tm (n - 1)) 23 d4_22 V_tt (own_dec hct hn1) (by omega) rfl rfl ?_
    refine own_lloadN W15 24 d4_23 rfl rfl ?_
    refine own_lcmp W15 25 d4_24 rfl ?_
    by_cases c16 : q2 < (tm (n - 1))
    · refine own_ifY W15 32 d4_25 ((if0 _ _).trans (tlt ((lw_gt (tm (n - 1)) q2).mpr c16)).2.2.1) (by decide) (by decide) ?_
      refine own_iconst W15 (0 : Int32) 33 d4_32 rfl rfl ?_
      exact J3 T15 _ W15 (by rw [own_io, if_neg c13, if_pos c16])
    · refine own_ifN W15 28 d4_25 ((if0 _ _).trans (flt (mt (lw_gt (tm (n - 1)) q2).mp c16)).2.2.1) rfl ?_
      refine own_iconst W15 (1 : Int32) 29 d4_28 rfl rfl ?_
      refine own_goto W15 33 d4_29 (by decide) (by decide) ?_
      exact J3 T15 _ W15 (by rw [own_io, if_neg c13, if_neg c16])
theorem ef_m6 (m : MethodId) (x0 : Addr) (x1 : Int32) (x2 : Int32) : entryFrame m #[(.ref x0), (.int x1), (.int x2)] 3 = mkF m 0 #[.val (.ref x0), .val (.int x1), .val (.int x2)] [] := by first | (simp [entryFrame, mkF, argsToLocals, Value.category]; done) | rfl
set_option maxRecDepth 65536 in
set_option maxHeartbeats 40000000 in
theorem own_m6 (l : Launch) (Z : State) (a0 : Array Value) (hw : ∀ d ∈ tables_1, d.before a0 Z = true) (wo : List Jvm.Cond) (h0 : Heap) (a1 : Addr) (g : Nat → Int32) (V_a1 : own_A Z h0 a1 .int 3 (fun j => .int (g j))) (Y_a1 : Exa Z h0 a1 "[I") :
    own_M l Z wo (⟨"java/util/Arrays", "copyOfRange", "([III)[I"⟩ : MethodName) jdk_65_method_136_code 3 (some (.array .int)) ({ frames := 1, cells := 1, slots := 3, locals := 14 } : Room) [] #[(.ref a1), (.int (0 : Int32)), (.int (3 : Int32))] h0 (fun v h => ∃ b, v = some (.ref b) ∧ h0.size ≤ b ∧ own_A Z h b .int 3 (fun j => .int (g j))) := by
  refine own_body (plainFor_of_name pn_6) (fun m => ef_m6 m a1 (0 : Int32) (3 : Int32)) ?_
  intro p e s m below meth c C hC T0 W0
  refine own_iloadN W0 1 d6_0 rfl rfl ?_
  refine own_ifN W0 4 d6_1 ((if0 _ _).trans (teq (rfl : (0 : Int32) = (0 : Int32))).2) rfl ?_
  refine own_iloadN W0 5 d6_4 rfl rfl ?_
  refine own_aloadN W0 6 d6_5 rfl rfl rfl ?_
  refine own_arraylength W0 (3 : Int32) 7 d6_6 V_a1 rfl rfl ?_
  refine own_icmpY W0 17 d6_7 ((teq (rfl : (3 : Int32) = (3 : Int32))).1) (by decide) (by decide) ?_
  refine own_aloadN W0 18 d6_17 rfl rfl rfl ?_
  refine own_clone W0 (cap := 3) (wt := 0) (pc' := 21) d6_18 (wd40 hw) (wd41 hw) (wd45 hw) (wd43 hw) (wd44 hw) (wd46 hw) V_a1 Y_a1 (fun _ _ => rfl) rfl (Nat.le_of_eq rfl) (by decide) (by decide) (Nat.le_refl _) (by decide) (by decide) rfl ?_
  intro T1 h1 b W1 E1 g_b o_b V_b Y_b
  have ne_a1_b : a1 ≠ b := by rw [g_b]; exact Nat.ne_of_lt V_a1.lt
  have V_a1 := V_a1.ext E1
  have Y_a1 := Y_a1.ext E1
  show own_Go p e below C T1 (mkF m 21 #[.val (.ref a1), .val (.int (0 : Int32)), .val (.int (3 : Int32))] [(.ref b)])
  refine own_checkcast W1 24 d6_21 (wd47 hw) (Ins.self Y_b) rfl ?_
  intro T2 W2
  show own_Go p e below C T2 (mkF m 24 #[.val (.ref a1), .val (.int (0 : Int32)), .val (.int (3 : Int32))] [(.ref b)])
  refine own_retA (Q := fun v h => ∃ b, v = some (.ref b) ∧ h0.size ≤ b ∧ own_A Z h b .int 3 (fun j => .int (g j))) W2 hC (by decide) (by decide) rfl rfl d6_24 rfl ?_
  exact ⟨b, rfl, Nat.le_of_eq g_b.symm, V_b⟩
theorem ef_m5 (m : MethodId) (x0 : Addr) : entryFrame m #[(.ref x0)] 1 = mkF m 0 #[.val (.ref x0)] [] := by first | (simp [entryFrame, mkF, argsToLocals, Value.category]; done) | rfl
set_option maxRecDepth 65536 in
set_option maxHeartbeats 40000000 in
theorem own_m5 (l : Launch) (Z : State) (a0 : Array Value) (hw : ∀ d ∈ tables_1, d.before a0 Z = true) (wo : List Jvm.Cond) (h0 : Heap) (a1 : Addr) (tt : Addr) (ii : Addr) (tm : Nat → Int64) (ix : Nat → Int32) (io : Int32) (F_times_a1 : Fld Z h0 a1 "com/example/queueloom/queueloom/engine/Arrivals" "times" "[J" (.ref tt)) (F_indices_a1 : Fld Z h0 a1 "com/example/queueloom/queueloom/engine/Arrivals" "indices" "[I" (.ref ii)) (F_count_a1 : Fld Z h0 a1 "com/example/queueloom/queueloom/engine/Arrivals" "count" "I" (.int (3 : Int32))) (F_first_a1 : Fld Z h0 a1 "com/example/queueloom/queueloom/engine/Arrivals" "first" "I" (.int (0 : Int32))) (F_inOrder_a1 : Fld Z h0 a1 "com/example/queueloom/queueloom/engine/Arrivals" "inOrder" "Z" (.int io)) (F_later_a1 : Fld Z h0 a1 "com/example/queueloom/queueloom/engine/Arrivals" "later" "Lcom/example/queueloom/queueloom/engine/LongPairHeap;" .null) (V_tt : own_A Z h0 tt .long 3 (fun j => .long (tm j))) (V_ii : own_A Z h0 ii .int 3 (fun j => .int (ix j))) (Y_ii : Exa Z h0 ii "[I") :
    own_M l Z wo (⟨"com/example/queueloom/queueloom/engine/Arrivals", "order", "()[I"⟩ : MethodName) prog_53_method_5_code 1 (some (.array .int)) ({ frames := 2, cells := 1, slots := 3, locals := 28 } : Room) [] #[(.ref a1)] h0 (fun v h => ∃ b, v = some (.ref b) ∧ h0.size ≤ b ∧ own_A Z h b .int 3 (fun j => .int (ix j))) := by
  refine own_body (plainFor_of_name pn_5) (fun m => ef_m5 m a1) ?_
  intro p e s m below meth c C hC T0 W0
  refine own_aloadN W0 1 d5_0 rfl rfl rfl ?_
  refine own_getfield W0 4 d5_1 (wd20 hw) F_indices_a1 rfl ?_
  intro T1 W1
  show own_Go p e below C T1 (mkF m 4 #[.val (.ref a1)] [(.ref ii)])
  refine own_aloadN W1 5 d5_4 rfl rfl rfl ?_
  refine own_getfield W1 8 d5_5 (wd34 hw) F_first_a1 rfl ?_
  intro T2 W2
  show own_Go p e below C T2 (mkF m 8 #[.val (.ref a1)] [(.int (0 : Int32)), (.ref ii)])
  refine own_aloadN W2 9 d5_8 rfl rfl rfl ?_
  refine own_getfield W2 12 d5_9 (wd27 hw) F_count_a1 rfl ?_
  intro T3 W3
  show own_Go p e below C T3 (mkF m 12 #[.val (.ref a1)] [(.int (3 : Int32)), (.int (0 : Int32)), (.ref ii)])
  refine own_callS W3 (A := [(.ref ii), (.int (0 : Int32)), (.int (3 : Int32))]) (wt := 0) (pc' := 15) (st := []) d5_12 (wd36 hw) (wd37 hw) (wd38 hw) (wd39 hw) (by decide) (own_m6 l Z a0 hw [] h0 ii ix V_ii Y_ii) all0 rfl pd_0 rfl (Nat.le_of_eq rfl) (by decide) (by decide) (by decide) (by decide) rfl ?_
  rintro T4 h4 _ W4 K4 P4 ⟨b, rfl, o_b, V_b⟩
  have F_times_a1 := F_times_a1.keep K4 nin0
  have F_indices_a1 := F_indices_a1.keep K4 nin0
  have F_count_a1 := F_count_a1.keep K4 nin0
  have F_first_a1 := F_first_a1.keep K4 nin0
  have F_inOrder_a1 := F_inOrder_a1.keep K4 nin0
  have F_later_a1 := F_later_a1.keep K4 nin0
  have V_tt := V_tt.keep K4 nin0
  have V_ii := V_ii.keep K4 nin0
  have Y_ii := Y_ii.keep K4
  show own_Go p e below C T4 (mkF m 15 #[.val (.ref a1)] [(.ref b)])
  refine own_retA (Q := fun v h => ∃ b, v = some (.ref b) ∧ h0.size ≤ b ∧ own_A Z h b .int 3 (fun j => .int (ix j))) W4 hC (by decide) (by decide) rfl rfl d5_15 rfl ?_
  exact ⟨b, rfl, o_b, V_b⟩
theorem ef_m8 (m : MethodId) (x0 : Addr) (x1 : Int32) : entryFrame m #[(.ref x0), (.int x1)] 2 = mkF m 0 #[.val (.ref x0), .val (.int x1)] [] := by first | (simp [entryFrame, mkF, argsToLocals, Value.category]; done) | rfl
set_option maxRecDepth 65536 in
set_option maxHeartbeats 40000000 in
theorem own_m8 (l : Launch) (Z : State) (a0 : Array Value) (hw : ∀ d ∈ tables_1, d.before a0 Z = true) (wo : List Jvm.Cond) (h0 : Heap) (a1 : Addr) (X_a1 : Exa Z h0 a1 "com/example/queueloom/queueloom/engine/LongPairHeap") (F_keys_a1 : Fld Z h0 a1 "com/example/queueloom/queueloom/engine/LongPairHeap" "keys" "[J" .null) (F_values_a1 : Fld Z h0 a1 "com/example/queueloom/queueloom/engine/LongPairHeap" "values" "[J" .null) (F_size_a1 : Fld Z h0 a1 "com/example/queueloom/queueloom/engine/LongPairHeap" "size" "I" (.int (0 : Int32))) :
    own_M l Z wo (⟨"com/example/queueloom/queueloom/engine/LongPairHeap", "<init>", "(I)V"⟩ : MethodName) prog_61_method_1_code 2 none ({ frames := 1, cells := 2, slots := 6, locals := 12 } : Room) [a1] #[(.ref a1), (.int (3 : Int32))] h0 (fun v h => v = none ∧ (∃ kk vv, h0.size ≤ kk ∧ h0.size ≤ vv ∧ kk ≠ vv ∧ Fld Z h a1 "com/example/queueloom/queueloom/engine/LongPairHeap" "keys" "[J" (.ref kk) ∧ Fld Z h a1 "com/example/queueloom/queueloom/engine/LongPairHeap" "values" "[J" (.ref vv) ∧ Fld Z h a1 "com/example/queueloom/queueloom/engine/LongPairHeap" "size" "I" (.int (0 : Int32)) ∧ own_A Z h kk .long 3 (fun j => .long ((fun _ => 0) j)) ∧ own_A Z h vv .long 3 (fun j => .long ((fun _ => 0) j)))) := by
  refine own_body (plainFor_of_name pn_8) (fun m => ef_m8 m a1 (3 : Int32)) ?_
  intro p e s m below meth c C hC T0 W0
  refine own_aloadN W0 1 d8_0 rfl rfl rfl ?_
  refine own_initO W0 0 4 d8_1 (wd60 hw) (wd14 hw) (wd15 hw) rfl (Nat.le_of_eq rfl) (by decide) (by decide) rfl ?_
  intro T1 W1
  show own_Go p e below C T1 (mkF m 4 #[.val (.ref a1), .val (.int (3 : Int32))] [])
  refine own_iloadN W1 5 d8_4 rfl rfl ?_
  refine own_ifY W1 18 d8_5 ((if0 _ _).trans (flt (by decide : ¬ ((3 : Int32) < (0 : Int32)))).2.1) (by decide) (by decide) ?_
  refine own_aloadN W1 19 d8_18 rfl rfl rfl ?_
  refine own_iloadN W1 20 d8_19 rfl rfl ?_
  refine own_ifY W1 29 d8_20 ((if0 _ _).trans (feq (by decide : ¬ ((3 : Int32) = (0 : Int32)))).2) (by decide) (by decide) ?_
  refine own_iloadN W1 30 d8_29 rfl rfl ?_
  refine own_newarray W1 3 3 32 d8_30 (wd6 hw) rfl (Nat.le_refl _) (by decide) (by decide) (by decide) rfl ?_
  intro T2 h2 kk W2 E2 g_kk o_kk V_kk
  have ne_a1_kk : a1 ≠ kk := by rw [g_kk]; exact Nat.ne_of_lt X_a1.lt
  have X_a1 := X_a1.ext E2
  have F_keys_a1 := F_keys_a1.ext E2
  have F_values_a1 := F_values_a1.ext E2
  have F_size_a1 := F_size_a1.ext E2
  show own_Go p e below C T2 (mkF m 32 #[.val (.ref a1), .val (.int (3 : Int32))] [(.ref kk), (.ref a1)])
  refine own_putfield W2 (.ref kk) 35 d8_32 (wd61 hw) F_keys_a1 X_a1 (Or.inl (wd62 hw)) (wd55 hw) (Or.inl (List.mem_of_getElem? (i := 0) rfl)) (ty := (.array .long)) (by decide) rfl rfl rfl ?_
  intro T3 h3 W3 Wr3 F_keys_a1
  have X_a1 := X_a1.wr Wr3
  have F_values_a1 := F_values_a1.other Wr3 (Or.inr (slot_ne (Or.inl (wd64 hw)) (Or.inl (wd62 hw)) (by decide) (t := (.array .long)) (t' := (.array .long)) (by decide) (by decide)))
  have F_size_a1 := F_size_a1.other Wr3 (Or.inr (slot_ne (Or.inl (wd71 hw)) (Or.inl (wd62 hw)) (by decide) (t := .int) (t' := (.array .long)) (by decide) (by decide)))
  have V_kk := V_kk.other Wr3 (Ne.symm ne_a1_kk)
  show own_Go p e below C T3 (mkF m 35 #[.val (.ref a1), .val (.int (3 : Int32))] [])
  refine own_aloadN W3 36 d8_35 rfl rfl rfl ?_
  refine own_iloadN W3 37 d8_36 rfl rfl ?_
  refine own_ifY W3 46 d8_37 ((if0 _ _).trans (feq (by decide : ¬ ((3 : Int32) = (0 : Int32)))).2) (by decide) (by decide) ?_
  refine own_iloadN W3 47 d8_46 rfl rfl ?_
  refine own_newarray W3 3 3 49 d8_47 (wd6 hw) rfl (Nat.le_refl _) (by decide) (by decide) (by decide) rfl ?_
  intro T4 h4 vv W4 E4 g_vv o_vv V_vv
  have ne_a1_vv : a1 ≠ vv := by rw [g_vv]; exact Nat.ne_of_lt X_a1.lt
  have ne_kk_vv : kk ≠ vv := by rw [g_vv]; exact Nat.ne_of_lt V_kk.lt
  have X_a1 := X_a1.ext E4
  have F_keys_a1 := F_keys_a1.ext E4
  have F_values_a1 := F_values_a1.ext E4
  have F_size_a1 := F_size_a1.ext E4
  have V_kk := V_kk.ext E4
  show own_Go p e below C T4 (mkF m 49 #[.val (.ref a1), .val (.int (3 : Int32))] [(.ref vv), (.ref a1)])
  refine own_putfield W4 (.ref vv) 52 d8_49 (wd63 hw) F_values_a1 X_a1 (Or.inl (wd64 hw)) (wd55 hw) (Or.inl (List.mem_of_getElem? (i := 0) rfl)) (ty := (.array .long)) (by decide) rfl rfl rfl ?_
  intro T5 h5 W5 Wr5 F_values_a1
  have X_a1 := X_a1.wr Wr5
  have F_keys_a1 := F_keys_a1.other Wr5 (Or.inr (slot_ne (Or.inl (wd62 hw)) (Or.inl (wd64 hw)) (by decide) (t := (.array .long)) (t' := (.array .long)) (by decide) (by decide)))
  have F_size_a1 := F_size_a1.other Wr5 (Or.inr (slot_ne (Or.inl (wd71 hw)) (Or.inl (wd64 hw)) (by decide) (t := .int) (t' := (.array .long)) (by decide) (by decide)))
  have V_kk := V_kk.other Wr5 (Ne.symm ne_a1_kk)
  have V_vv := V_vv.other Wr5 (Ne.symm ne_a1_vv)
  show own_Go p e below C T5 (mkF m 52 #[.val (.ref a1), .val (.int (3 : Int32))] [])
  refine own_retV (Q := fun v h => v = none ∧ (∃ kk vv, h0.size ≤ kk ∧ h0.size ≤ vv ∧ kk ≠ vv ∧ Fld Z h a1 "com/example/queueloom/queueloom/engine/LongPairHeap" "keys" "[J" (.ref kk) ∧ Fld Z h a1 "com/example/queueloom/queueloom/engine/LongPairHeap" "values" "[J" (.ref vv) ∧ Fld Z h a1 "com/example/queueloom/queueloom/engine/LongPairHeap" "size" "I" (.int (0 : Int32)) ∧ own_A Z h kk .long 3 (fun j => .long ((fun _ => 0) j)) ∧ own_A Z h vv .long 3 (fun j => .long ((fun _ => 0) j)))) W5 hC (by decide) (by decide) d8_52 ?_
  exact ⟨rfl, ⟨kk, vv, own_le_ W0 o_kk, own_le_ W0 o_vv, ne_kk_vv, F_keys_a1, F_values_a1, F_size_a1, V_kk, V_vv⟩⟩
def own_One1 (a : Slot) : Prop := a = .unset ∨ ∃ z, a = .val (.int z)
theorem ef_m9 (m : MethodId) (x0 : Addr) (x1 : Int64) (x2 : Int64) : entryFrame m #[(.ref x0), (.long x1), (.long x2)] 11 = mkF m 0 #[.val (.ref x0), .val (.long x1), .second, .val (.long x2), .second, .unset, .unset, .unset, .unset, .unset, .unset] [] := by first | (simp [entryFrame, mkF, argsToLocals, Value.category]; done) | rfl
set_option maxRecDepth 65536 in
set_option maxHeartbeats 40000000 in
theorem own_m9 (l : Launch) (Z : State) (a0 : Array Value) (hw : ∀ d ∈ tables_1, d.before a0 Z = true) (wo : List Jvm.Cond) (h0 : Heap) (a1 : Addr) (q2 : Int64) (q3 : Int64) (kk : Addr) (vv : Addr) (K : Nat → Int64) (Vv : Nat → Int64) (n : Nat) (sz : Int32) (X_a1 : Exa Z h0 a1 "com/example/queueloom/queueloom/engine/LongPairHeap") (F_keys_a1 : Fld Z h0 a1 "com/example/queueloom/queueloom/engine/LongPairHeap" "keys" "[J" (.ref kk)) (F_values_a1 : Fld Z h0 a1 "com/example/queueloom/queueloom/engine/LongPairHeap" "values" "[J" (.ref vv)) (F_size_a1 : Fld Z h0 a1 "com/example/queueloom/queueloom/engine/LongPairHeap" "size" "I" (.int sz)) (V_kk : own_A Z h0 kk .long 3 (fun j => .long (K j))) (V_vv : own_A Z h0 vv .long 3 (fun j => .long (Vv j))) (ne_a_k : a1 ≠ kk) (ne_a_v : a1 ≠ vv) (ne_k_v : kk ≠ vv) (hsz : sz.toInt = (n : Int)) (hn : n < 3) :
    own_M l Z wo (⟨"com/example/queueloom/queueloom/engine/LongPairHeap", "add", "(JJ)V"⟩ : MethodName) prog_61_method_6_code 11 none ({ frames := 0, cells := 0, slots := 0, locals := 0 } : Room) [a1, kk, vv] #[(.ref a1), (.long q2), (.long q3)] h0 (fun v h => v = none ∧ (Fld Z h a1 "com/example/queueloom/queueloom/engine/LongPairHeap" "keys" "[J" (.ref kk) ∧ Fld Z h a1 "com/example/queueloom/queueloom/engine/LongPairHeap" "values" "[J" (.ref vv) ∧ Fld Z h a1 "com/example/queueloom/queueloom/engine/LongPairHeap" "size" "I" (.int (sz + (1 : Int32))) ∧ own_A Z h kk .long 3 (fun j => .long ((own_up 3 K Vv n q2 q3).1 j)) ∧ own_A Z h vv .long 3 (fun j => .long ((own_up 3 K Vv n q2 q3).2 j)))) := by
  refine own_body (plainFor_of_name pn_9) (fun m => ef_m9 m a1 q2 q3) ?_
  intro p e s m below meth c C hC T0 W0
  refine own_aloadN W0 1 d9_0 rfl rfl rfl ?_
  refine own_getfield W0 4 d9_1 (wd70 hw) F_size_a1 rfl ?_
  intro T1 W1
  show own_Go p e below C T1 (mkF m 4 #[.val (.ref a1), .val (.long q2), .second, .val (.long q3), .second, .unset, .unset, .unset, .unset, .unset, .unset] [(.int sz)])
  refine own_aloadN W1 5 d9_4 rfl rfl rfl ?_
  refine own_getfield W1 8 d9_5 (wd61 hw) F_keys_a1 rfl ?_
  intro T2 W2
  show own_Go p e below C T2 (mkF m 8 #[.val (.ref a1), .val (.long q2), .second, .val (.long q3), .second, .unset, .unset, .unset, .unset, .unset, .unset] [(.ref kk), (.int sz)])
  refine own_arraylength W2 (3 : Int32) 9 d9_8 V_kk rfl rfl ?_
  refine own_icmpY W2 49 d9_9 ((feq (fun q => by have h8 : (3 : Int32).toInt = 3 := rfl; rw [q] at hsz; omega : ¬ (sz = (3 : Int32)))).2) (by decide) (by decide) ?_
  refine own_aloadN W2 50 d9_49 rfl rfl rfl ?_
  refine own_getfield W2 53 d9_50 (wd61 hw) F_keys_a1 rfl ?_
  intro T3 W3
  show own_Go p e below C T3 (mkF m 53 #[.val (.ref a1), .val (.long q2), .second, .val (.long q3), .second, .unset, .unset, .unset, .unset, .unset, .unset] [(.ref kk)])
  refine own_astore W3 55 #[.val (.ref a1), .val (.long q2), .second, .val (.long q3), .second, .val (.ref kk), .unset, .unset, .unset, .unset, .unset] d9_53 rfl rfl rfl ?_
  refine own_aloadN W3 56 d9_55 rfl rfl rfl ?_
  refine own_getfield W3 59 d9_56 (wd63 hw) F_values_a1 rfl ?_
  intro T4 W4
  show own_Go p e below C T4 (mkF m 59 #[.val (.ref a1), .val (.long q2), .second, .val (.long q3), .second, .val (.ref kk), .unset, .unset, .unset, .unset, .unset] [(.ref vv)])
  refine own_astore W4 61 #[.val (.ref a1), .val (.long q2), .second, .val (.long q3), .second, .val (.ref kk), .val (.ref vv), .unset, .unset, .unset, .unset] d9_59 rfl rfl rfl ?_
  refine own_aloadN W4 62 d9_61 rfl rfl rfl ?_
  refine own_dup W4 63 d9_62 rfl rfl ?_
  refine own_getfield W4 66 d9_63 (wd70 hw) F_size_a1 rfl ?_
  intro T5 W5
  show own_Go p e below C T5 (mkF m 66 #[.val (.ref a1), .val (.long q2), .second, .val (.long q3), .second, .val (.ref kk), .val (.ref vv), .unset, .unset, .unset, .unset] [(.int sz), (.ref a1)])
  refine own_dup_x1 W5 67 d9_66 rfl rfl rfl ?_
  refine own_iconst W5 (1 : Int32) 68 d9_67 rfl rfl ?_
  refine own_iadd W5 69 d9_68 rfl ?_
  refine own_putfield W5 (.int (sz + (1 : Int32))) 72 d9_69 (wd70 hw) F_size_a1 X_a1 (Or.inl (wd71 hw)) (wd55 hw) (Or.inl (List.mem_of_getElem? (i := 0) rfl)) (ty := .int) (by decide) rfl rfl rfl ?_
  intro T6 h6 W6 Wr6 F_size_a1
  have X_a1 := X_a1.wr Wr6
  have F_keys_a1 := F_keys_a1.other Wr6 (Or.inr (slot_ne (Or.inl (wd62 hw)) (Or.inl (wd71 hw)) (by decide) (t := (.array .long)) (t' := .int) (by decide) (by decide)))
  have F_values_a1 := F_values_a1.other Wr6 (Or.inr (slot_ne (Or.inl (wd64 hw)) (Or.inl (wd71 hw)) (by decide) (t := (.array .long)) (t' := .int) (by decide) (by decide)))
  have V_kk := V_kk.other Wr6 (Ne.symm ne_a_k)
  have V_vv := V_vv.other Wr6 (Ne.symm ne_a_v)
  show own_Go p e below C T6 (mkF m 72 #[.val (.ref a1), .val (.long q2), .second, .val (.long q3), .second, .val (.ref kk), .val (.ref vv), .unset, .unset, .unset, .unset] [(.int sz)])
  refine own_istore W6 74 #[.val (.ref a1), .val (.long q2), .second, .val (.long q3), .second, .val (.ref kk), .val (.ref vv), .val (.int sz), .unset, .unset, .unset] d9_72 rfl rfl ?_
  obtain ⟨RS, hRS⟩ : ∃ z, z = own_up 3 K Vv n q2 q3 := ⟨_, rfl⟩
  have out : ∀ (i : Nat) (K1 V1 : Nat → Int64) (u7 : Int32) (T : State) (h : Heap) (s8 s9 s10 : Slot), own_W p l e ({ frames := 0, cells := 0, slots := 0, locals := 0 } : Room) s m #[(.ref a1), (.long q2), (.long q3)] below meth c Z (⟨"com/example/queueloom/queueloom/engine/LongPairHeap", "add", "(JJ)V"⟩ : MethodName) none prog_61_method_6_code 11 [a1, kk, vv] T h (0) (0) → Fld Z h a1 "com/example/queueloom/queueloom/engine/LongPairHeap" "keys" "[J" (.ref kk) → Fld Z h a1 "com/example/queueloom/queueloom/engine/LongPairHeap" "values" "[J" (.ref vv) → Fld Z h a1 "com/example/queueloom/queueloom/engine/LongPairHeap" "size" "I" (.int (sz + (1 : Int32))) → own_A Z h kk .long 3 (fun j => .long (K1 j)) → own_A Z h vv .long 3 (fun j => .long (V1 j)) → u7.toInt = (i : Int) → i < 3 → RS = (own_upL K1 i q2, own_upL V1 i q3) → own_Go p e below C T (mkF m 145 #[.val (.ref a1), .val (.long q2), .second, .val (.long q3), .second, .val (.ref kk), .val (.ref vv), .val (.int u7), s8, s9, s10] []) := by
    intro i K1 V1 u7 T h s8 s9 s10 W F_keys_a1 F_values_a1 F_size_a1 V_kk V_vv hi hiN hres
    refine own_aload W 147 d9_145 rfl rfl rfl ?_
    refine own_iload W 149 d9_147 rfl rfl ?_
    refine own_lloadN W 150 d9_149 rfl rfl ?_
    refine own_lastore W i 151 d9_150 V_kk (Or.inl (List.mem_of_getElem? (i := 1) rfl)) hi hiN rfl ?_
    intro T7 h7 W7 Wr7 V_kk
    have F_keys_a1 := F_keys_a1.other Wr7 (Or.inl ne_a_k)
    have F_values_a1 := F_values_a1.other Wr7 (Or.inl ne_a_k)
    have F_size_a1 := F_size_a1.other Wr7 (Or.inl ne_a_k)
    have V_vv := V_vv.other Wr7 (Ne.symm ne_k_v)
    show own_Go p e below C T7 (mkF m 151 #[.val (.ref a1), .val (.long q2), .second, .val (.long q3), .second, .val (.ref kk), .val (.ref vv), .val (.int u7), s8, s9, s10] [])
    refine own_aload W7 153 d9_151 rfl rfl rfl ?_
    refine own_iload W7 155 d9_153 rfl rfl ?_
    refine own_lloadN W7 156 d9_155 rfl rfl ?_
    refine own_lastore W7 i 157 d9_156 V_vv (Or.inl (List.mem_of_getElem? (i := 2) rfl)) hi hiN rfl ?_
    intro T8 h8 W8 Wr8 V_vv
    have F_keys_a1 := F_keys_a1.other Wr8 (Or.inl ne_a_v)
    have F_values_a1 := F_values_a1.other Wr8 (Or.inl ne_a_v)
    have F_size_a1 := F_size_a1.other Wr8 (Or.inl ne_a_v)
    have V_kk := V_kk.other Wr8 ne_k_v
    show own_Go p e below C T8 (mkF m 157 #[.val (.ref a1), .val (.long q2), .second, .val (.long q3), .second, .val (.ref kk), .val (.ref vv), .val (.int u7), s8, s9, s10] [])
    refine own_retV (Q := fun v h => v = none ∧ (Fld Z h a1 "com/example/queueloom/queueloom/engine/LongPairHeap" "keys" "[J" (.ref kk) ∧ Fld Z h a1 "com/example/queueloom/queueloom/engine/LongPairHeap" "values" "[J" (.ref vv) ∧ Fld Z h a1 "com/example/queueloom/queueloom/engine/LongPairHeap" "size" "I" (.int (sz + (1 : Int32))) ∧ own_A Z h kk .long 3 (fun j => .long ((own_up 3 K Vv n q2 q3).1 j)) ∧ own_A Z h vv .long 3 (fun j => .long ((own_up 3 K Vv n q2 q3).2 j)))) W8 hC (by decide) (by decide) d9_157 ?_
    exact ⟨rfl, (by rw [← hRS, hres]; exact ⟨F_keys_a1, F_values_a1, F_size_a1, V_kk.congr (fun j _ => own_upLe _ _ _ j), V_vv.congr (fun j _ => own_upLe _ _ _ j)⟩)⟩
  have loop : ∀ (f : Nat) (i : Nat) (K1 V1 : Nat → Int64) (u7 : Int32) (T : State) (h : Heap) (s8 s9 s10 : Slot), own_W p l e ({ frames := 0, cells := 0, slots := 0, locals := 0 } : Room) s m #[(.ref a1), (.long q2), (.long q3)] below meth c Z (⟨"com/example/queueloom/queueloom/engine/LongPairHeap", "add", "(JJ)V"⟩ : MethodName) none prog_61_method_6_code 11 [a1, kk, vv] T h (0) (0) → Fld Z h a1 "com/example/queueloom/queueloom/engine/LongPairHeap" "keys" "[J" (.ref kk) → Fld Z h a1 "com/example/queueloom/queueloom/engine/LongPairHeap" "values" "[J" (.ref vv) → Fld Z h a1 "com/example/queueloom/queueloom/engine/LongPairHeap" "size" "I" (.int (sz + (1 : Int32))) → own_A Z h kk .long 3 (fun j => .long (K1 j)) → own_A Z h vv .long 3 (fun j => .long (V1 j)) → u7.toInt = (i : Int) → i < 3 → i ≤ f → RS = own_up f K1 V1 i q2 q3 → own_One1 s8 → own_Two s9 s10 → own_Go p e below C T (mkF m 74 #[.val (.ref a1), .val (.long q2), .second, .val (.long q3), .second, .val (.ref kk), .val (.ref vv), .val (.int u7), s8, s9, s10] []) := by
    intro f
    induction f with
    | zero =>
      intro i K1 V1 u7 T h s8 s9 s10 W F_keys_a1 F_values_a1 F_size_a1 V_kk V_vv hi hiN hf hres t8 t9
      have hlt : ¬ ((0 : Int32) < u7) := by rw [own_ltN (i := 0) rfl hi]; omega
      refine own_iload W 76 d9_74 rfl rfl ?_
      refine own_ifY W 145 d9_76 ((if0 _ _).trans (flt (hlt : ¬ ((0 : Int32) < u7))).2.2.2) (by decide) (by decide) ?_
      exact out i K1 V1 u7 T h s8 s9 s10 W F_keys_a1 F_values_a1 F_size_a1 V_kk V_vv hi hiN hres
    | succ f ih =>
      intro i K1 V1 u7 T h s8 s9 s10 W F_keys_a1 F_values_a1 F_size_a1 V_kk V_vv hi hiN hf hres t8 t9
      refine own_iload W 76 d9_74 rfl rfl ?_
      by_cases c9 : (0 : Int32) < u7
      · refine own_ifN W 79 d9_76 ((if0 _ _).trans (tlt c9).2.2.2) rfl ?_
        have hip : 0 < i := by have h8 := c9; rw [own_ltN (i := 0) rfl hi] at h8; exact h8
        rw [own_up, if_pos hip] at hres
        have hpar := own_par hi hip
        refine own_iload W 81 d9_79 rfl rfl ?_
        refine own_iconst W (1 : Int32) 82 d9_81 rfl rfl ?_
        refine own_isub W 83 d9_82 rfl ?_
        refine own_iconst W (1 : Int32) 84 d9_83 rfl rfl ?_
        refine own_iushr W 85 d9_84 rfl ?_
        generalize h_u8 : ((u7 - (1 : Int32)).toUInt32 >>> ((1 : Int32) &&& 31).toUInt32).toInt32 = u8 at hpar ⊢
        show own_Go p e below C T (mkF m 85 #[.val (.ref a1), .val (.long q2), .second, .val (.long q3), .second, .val (.ref kk), .val (.ref vv), .val (.int u7), s8, s9, s10] [(.int (u8))])
        show own_Go p e below C T (mkF m 85 #[.val (.ref a1), .val (.long q2), .second, .val (.long q3), .second, .val (.ref kk), .val (.ref vv), .val (.int u7), s8, s9, s10] [(.int u8)])
        refine own_istore W 87 #[.val (.ref a1), .val (.long q2), .second, .val (.long q3), .second, .val (.ref kk), .val (.ref vv), .val (.int u7), .val (.int u8), s9, s10] d9_85 (by rcases t8 with rfl | ⟨_, rfl⟩ <;> rfl) rfl ?_
        obtain ⟨k, hk⟩ : ∃ k, k = (i - 1) / 2 := ⟨_, rfl⟩
        rw [← hk] at hpar hres
        have hki : k < i := by omega
        refine own_aload W 89 d9_87 rfl rfl rfl ?_
        refine own_iload W 91 d9_89 rfl rfl ?_
        refine own_laload W k (K1 k) 92 d9_91 V_kk hpar (by omega) rfl rfl ?_
        refine own_lstore W 94 #[.val (.ref a1), .val (.long q2), .second, .val (.long q3), .second, .val (.ref kk), .val (.ref vv), .val (.int u7), .val (.int u8), .val (.long (K1 k)), .second] d9_92 (by rcases t9 with ⟨rfl, rfl⟩ | ⟨_, rfl, rfl⟩ <;> rfl) rfl ?_
        have mv : ¬ (K1 k < q2 ∨ (K1 k = q2 ∧ ¬ q3 < V1 k)) → own_Go p e below C T (mkF m 121 #[.val (.ref a1), .val (.long q2), .second, .val (.long q3), .second, .val (.ref kk), .val (.ref vv), .val (.int u7), .val (.int u8), .val (.long (K1 k)), .second] []) := by
          intro hns
          rw [if_neg hns] at hres
          refine own_aload W 123 d9_121 rfl rfl rfl ?_
          refine own_iload W 125 d9_123 rfl rfl ?_
          refine own_lload W 127 d9_125 rfl rfl ?_
          refine own_lastore W i 128 d9_127 V_kk (Or.inl (List.mem_of_getElem? (i := 1) rfl)) hi hiN rfl ?_
          intro T10 h10 W10 Wr10 V_kk
          have F_keys_a1 := F_keys_a1.other Wr10 (Or.inl ne_a_k)
          have F_values_a1 := F_values_a1.other Wr10 (Or.inl ne_a_k)
          have F_size_a1 := F_size_a1.other Wr10 (Or.inl ne_a_k)
          have V_vv := V_vv.other Wr10 (Ne.symm ne_k_v)
          show own_Go p e below C T10 (mkF m 128 #[.val (.ref a1), .val (.long q2), .second, .val (.long q3), .second, .val (.ref kk), .val (.ref vv), .val (.int u7), .val (.int u8), .val (.long (K1 k)), .second] [])
          refine own_aload W10 130 d9_128 rfl rfl rfl ?_
          refine own_iload W10 132 d9_130 rfl rfl ?_
          refine own_aload W10 134 d9_132 rfl rfl rfl ?_
          refine own_iload W10 136 d9_134 rfl rfl ?_
          refine own_laload W10 k (V1 k) 137 d9_136 V_vv hpar (by omega) rfl rfl ?_
          refine own_lastore W10 i 138 d9_137 V_vv (Or.inl (List.mem_of_getElem? (i := 2) rfl)) hi hiN rfl ?_
          intro T11 h11 W11 Wr11 V_vv
          have F_keys_a1 := F_keys_a1.other Wr11 (Or.inl ne_a_v)
          have F_values_a1 := F_values_a1.other Wr11 (Or.inl ne_a_v)
          have F_size_a1 := F_size_a1.other Wr11 (Or.inl ne_a_v)
          have V_kk := V_kk.other Wr11 ne_k_v
          show own_Go p e below C T11 (mkF m 138 #[.val (.ref a1), .val (.long q2), .second, .val (.long q3), .second, .val (.ref kk), .val (.ref vv), .val (.int u7), .val (.int u8), .val (.long (K1 k)), .second] [])
          refine own_iload W11 140 d9_138 rfl rfl ?_
          refine own_istore W11 142 #[.val (.ref a1), .val (.long q2), .second, .val (.long q3), .second, .val (.ref kk), .val (.ref vv), .val (.int u8), .val (.int u8), .val (.long (K1 k)), .second] d9_140 rfl rfl ?_
          refine own_goto W11 74 d9_142 (by decide) (by decide) ?_
          exact ih k _ _ u8 T11 h11 _ _ _ W11 F_keys_a1 F_values_a1 F_size_a1 (V_kk.congr (fun q _ => own_upLe _ _ _ q)) (V_vv.congr (fun q _ => own_upLe _ _ _ q)) hpar (by omega) (by omega) hres (Or.inr ⟨_, rfl⟩) (Or.inr ⟨_, rfl, rfl⟩)
        refine own_lload W 96 d9_94 rfl rfl ?_
        refine own_lloadN W 97 d9_96 rfl rfl ?_
        refine own_lcmp W 98 d9_97 rfl ?_
        by_cases c12 : (K1 k) < q2
        · refine own_ifY W 145 d9_98 ((if0 _ _).trans (tlt ((lw_lt (K1 k) q2).mpr c12)).1) (by decide) (by decide) ?_
          exact out i K1 V1 u7 T h _ _ _ W F_keys_a1 F_values_a1 F_size_a1 V_kk V_vv hi hiN (by rw [hres, if_pos (Or.inl c12)])
        · refine own_ifN W 101 d9_98 ((if0 _ _).trans (flt (mt (lw_lt (K1 k) q2).mp c12)).1) rfl ?_
          refine own_lload W 103 d9_101 rfl rfl ?_
          refine own_lloadN W 104 d9_103 rfl rfl ?_
          refine own_lcmp W 105 d9_104 rfl ?_
          by_cases c13 : (K1 k) = q2
          · refine own_ifN W 108 d9_105 ((if0 _ _).trans (teq ((lw_eq (K1 k) q2).mpr c13)).2) rfl ?_
            refine own_aload W 110 d9_108 rfl rfl rfl ?_
            refine own_iload W 112 d9_110 rfl rfl ?_
            refine own_laload W k (V1 k) 113 d9_112 V_vv hpar (by omega) rfl rfl ?_
            refine own_lloadN W 114 d9_113 rfl rfl ?_
            refine own_lcmp W 115 d9_114 rfl ?_
            by_cases c14 : q3 < (V1 k)
            · refine own_ifY W 121 d9_115 ((if0 _ _).trans (tlt ((lw_gt (V1 k) q3).mpr c14)).2.2.1) (by decide) (by decide) ?_
              exact mv (fun r => r.elim c12 (fun r => r.2 c14))
            · refine own_ifN W 118 d9_115 ((if0 _ _).trans (flt (mt (lw_gt (V1 k) q3).mp c14)).2.2.1) rfl ?_
              refine own_goto W 145 d9_118 (by decide) (by decide) ?_
              exact out i K1 V1 u7 T h _ _ _ W F_keys_a1 F_values_a1 F_size_a1 V_kk V_vv hi hiN (by rw [hres, if_pos (Or.inr ⟨c13, c14⟩)])
          · refine own_ifY W 121 d9_105 ((if0 _ _).trans (feq (mt (lw_eq (K1 k) q2).mp c13)).2) (by decide) (by decide) ?_
            exact mv (fun r => r.elim c12 (fun r => c13 r.1))
      · refine own_ifY W 145 d9_76 ((if0 _ _).trans (flt c9).2.2.2) (by decide) (by decide) ?_
        exact out i K1 V1 u7 T h s8 s9 s10 W F_keys_a1 F_values_a1 F_size_a1 V_kk V_vv hi hiN (by rw [hres, own_up, if_neg (by have h8 := c9; rw [own_ltN (i := 0) rfl hi] at h8; exact h8)])
  exact loop 3 n K Vv sz T6 h6 .unset .unset .unset W6 F_keys_a1 F_values_a1 F_size_a1 V_kk V_vv hsz hn (by omega) hRS (Or.inl rfl) (Or.inl ⟨rfl, rfl⟩)
theorem ef_m10 (m : MethodId) (x0 : Addr) : entryFrame m #[(.ref x0)] 1 = mkF m 0 #[.val (.ref x0)] [] := by first | (simp [entryFrame, mkF, argsToLocals, Value.category]; done) | rfl
set_option maxRecDepth 65536 in
set_option maxHeartbeats 40000000 in
theorem own_m10 (l : Launch) (Z : State) (a0 : Array Value) (hw : ∀ d ∈ tables_1, d.before a0 Z = true) (wo : List Jvm.Cond) (h0 : Heap) (a1 : Addr) (kk : Addr) (vv : Addr) (K : Nat → Int64) (Vv : Nat → Int64) (sz : Int32) (F_keys_a1 : Fld Z h0 a1 "com/example/queueloom/queueloom/engine/LongPairHeap" "keys" "[J" (.ref kk)) (F_values_a1 : Fld Z h0 a1 "com/example/queueloom/queueloom/engine/LongPairHeap" "values" "[J" (.ref vv)) (F_size_a1 : Fld Z h0 a1 "com/example/queueloom/queueloom/engine/LongPairHeap" "size" "I" (.int sz)) (V_kk : own_A Z h0 kk .long 3 (fun j => .long (K j))) (V_vv : own_A Z h0 vv .long 3 (fun j => .long (Vv j))) :
    own_M l Z wo (⟨"com/example/queueloom/queueloom/engine/LongPairHeap", "firstKey", "()J"⟩ : MethodName) prog_61_method_4_code 1 (some .long) ({ frames := 0, cells := 0, slots := 0, locals := 0 } : Room) [] #[(.ref a1)] h0 (fun v h => v = some (.long (K 0))) := by
  refine own_body (plainFor_of_name pn_10) (fun m => ef_m10 m a1) ?_
  intro p e s m below meth c C hC T0 W0
  refine own_aloadN W0 1 d10_0 rfl rfl rfl ?_
  refine own_getfield W0 4 d10_1 (wd61 hw) F_keys_a1 rfl ?_
  intro T1 W1
  show own_Go p e below C T1 (mkF m 4 #[.val (.ref a1)] [(.ref kk)])
  refine own_iconst W1 (0 : Int32) 5 d10_4 rfl rfl ?_
  refine own_laload W1 0 (K 0) 6 d10_5 V_kk rfl (by decide) rfl rfl ?_
  refine own_retJ (Q := fun v h => v = some (.long (K 0))) W1 hC (by decide) (by decide) d10_6 ?_
  exact rfl
theorem ef_m11 (m : MethodId) (x0 : Addr) : entryFrame m #[(.ref x0)] 1 = mkF m 0 #[.val (.ref x0)] [] := by first | (simp [entryFrame, mkF, argsToLocals, Value.category]; done) | rfl
set_option maxRecDepth 65536 in
set_option maxHeartbeats 40000000 in
theorem own_m11 (l : Launch) (Z : State) (a0 : Array Value) (hw : ∀ d ∈ tables_1, d.before a0 Z = true) (wo : List Jvm.Cond) (h0 : Heap) (a1 : Addr) (kk : Addr) (vv : Addr) (K : Nat → Int64) (Vv : Nat → Int64) (sz : Int32) (F_keys_a1 : Fld Z h0 a1 "com/example/queueloom/queueloom/engine/LongPairHeap" "keys" "[J" (.ref kk)) (F_values_a1 : Fld Z h0 a1 "com/example/queueloom/queueloom/engine/LongPairHeap" "values" "[J" (.ref vv)) (F_size_a1 : Fld Z h0 a1 "com/example/queueloom/queueloom/engine/LongPairHeap" "size" "I" (.int sz)) (V_kk : own_A Z h0 kk .long 3 (fun j => .long (K j))) (V_vv : own_A Z h0 vv .long 3 (fun j => .long (Vv j))) :
    own_M l Z wo (⟨"com/example/queueloom/queueloom/engine/LongPairHeap", "firstValue", "()J"⟩ : MethodName) prog_61_method_5_code 1 (some .long) ({ frames := 0, cells := 0, slots := 0, locals := 0 } : Room) [] #[(.ref a1)] h0 (fun v h => v = some (.long (Vv 0))) := by
  refine own_body (plainFor_of_name pn_11) (fun m => ef_m11 m a1) ?_
  intro p e s m below meth c C hC T0 W0
  refine own_aloadN W0 1 d11_0 rfl rfl rfl ?_
  refine own_getfield W0 4 d11_1 (wd63 hw) F_values_a1 rfl ?_
  intro T1 W1
  show own_Go p e below C T1 (mkF m 4 #[.val (.ref a1)] [(.ref vv)])
  refine own_iconst W1 (0 : Int32) 5 d11_4 rfl rfl ?_
  refine own_laload W1 0 (Vv 0) 6 d11_5 V_vv rfl (by decide) rfl rfl ?_
  refine own_retJ (Q := fun v h => v = some (.long (Vv 0))) W1 hC (by decide) (by decide) d11_6 ?_
  exact rfl
theorem ef_m13 (m : MethodId) (x0 : Addr) (x1 : Addr) (x2 : Int32) (x3 : Int32) : entryFrame m #[(.ref x0), (.ref x1), (.int x2), (.int x3)] 14 = mkF m 0 #[.val (.ref x0), .val (.ref x1), .val (.int x2), .val (.int x3), .unset, .unset, .unset, .unset, .unset, .unset, .unset, .unset, .unset, .unset] [] := by first | (simp [entryFrame, mkF, argsToLocals, Value.category]; done) | rfl
set_option maxRecDepth 65536 in
set_option maxHeartbeats 40000000 in
theorem own_m13 (l : Launch) (Z : State) (a0 : Array Value) (hw : ∀ d ∈ tables_1, d.before a0 Z = true) (wo : List Jvm.Cond) (h0 : Heap) (a1 : Addr) (a2 : Addr) (p3 : Int32) (p4 : Int32) (N : Nat) (K : Nat → Int64) (Vv : Nat → Int64) (n : Nat) (hole : Nat) (fuel0 : Nat) (V_a1 : own_A Z h0 a1 .long N (fun j => .long (K j))) (V_a2 : own_A Z h0 a2 .long N (fun j => .long (Vv j))) (hne : a1 ≠ a2) (hn : p3.toInt = (n : Int)) (hh : p4.toInt = (hole : Int)) (hhN : hole < N) (hnN : n ≤ N) (hN : N < 100) (hfu : n ≤ hole + 1 + fuel0) :
    own_M l Z wo (⟨"com/example/queueloom/queueloom/engine/LongPairHeap", "siftDown", "([J[JII)V"⟩ : MethodName) prog_61_method_9_code 14 none ({ frames := 0, cells := 0, slots := 0, locals := 0 } : Room) [a1, a2] #[(.ref a1), (.ref a2), (.int p3), (.int p4)] h0 (fun v h => v = none ∧ (own_A Z h a1 .long N (fun j => .long ((own_sift fuel0 K Vv n hole (K hole) (Vv hole)).1 j)) ∧ own_A Z h a2 .long N (fun j => .long ((own_sift fuel0 K Vv n hole (K hole) (Vv hole)).2 j)))) := by
  refine own_body (plainFor_of_name pn_13) (fun m => ef_m13 m a1 a2 p3 p4) ?_
  intro p e s m below meth c C hC T0 W0
  refine own_aloadN W0 1 d13_0 rfl rfl rfl ?_
  refine own_iloadN W0 2 d13_1 rfl rfl ?_
  refine own_laload W0 hole (K hole) 3 d13_2 V_a1 hh hhN rfl rfl ?_
  refine own_lstore W0 5 #[.val (.ref a1), .val (.ref a2), .val (.int p3), .val (.int p4), .val (.long (K hole)), .second, .unset, .unset, .unset, .unset, .unset, .unset, .unset, .unset] d13_3 rfl rfl ?_
  refine own_aloadN W0 6 d13_5 rfl rfl rfl ?_
  refine own_iloadN W0 7 d13_6 rfl rfl ?_
  refine own_laload W0 hole (Vv hole) 8 d13_7 V_a2 hh hhN rfl rfl ?_
  refine own_lstore W0 10 #[.val (.ref a1), .val (.ref a2), .val (.int p3), .val (.int p4), .val (.long (K hole)), .second, .val (.long (Vv hole)), .second, .unset, .unset, .unset, .unset, .unset, .unset] d13_8 rfl rfl ?_
  refine own_iloadN W0 11 d13_10 rfl rfl ?_
  refine own_istore W0 13 #[.val (.ref a1), .val (.ref a2), .val (.int p3), .val (.int p4), .val (.long (K hole)), .second, .val (.long (Vv hole)), .second, .val (.int p4), .unset, .unset, .unset, .unset, .unset] d13_11 rfl rfl ?_
  refine own_iconst W0 (2 : Int32) 14 d13_13 rfl rfl ?_
  refine own_iload W0 16 d13_14 rfl rfl ?_
  refine own_imul W0 17 d13_16 rfl ?_
  refine own_iconst W0 (1 : Int32) 18 d13_17 rfl rfl ?_
  refine own_iadd W0 19 d13_18 rfl ?_
  refine own_istore W0 21 #[.val (.ref a1), .val (.ref a2), .val (.int p3), .val (.int p4), .val (.long (K hole)), .second, .val (.long (Vv hole)), .second, .val (.int p4), .val (.int (((2 : Int32) * p4) + (1 : Int32))), .unset, .unset, .unset, .unset] d13_19 rfl rfl ?_
  have out : ∀ (i : Nat) (K1 V1 : Nat → Int64) (u8 u9 : Int32) (T : State) (h : Heap) (s10 s11 s12 s13 : Slot), own_W p l e ({ frames := 0, cells := 0, slots := 0, locals := 0 } : Room) s m #[(.ref a1), (.ref a2), (.int p3), (.int p4)] below meth c Z (⟨"com/example/queueloom/queueloom/engine/LongPairHeap", "siftDown", "([J[JII)V"⟩ : MethodName) none prog_61_method_9_code 14 [a1, a2] T h (0) (0) → own_A Z h a1 .long N (fun j => .long (K1 j)) → own_A Z h a2 .long N (fun j => .long (V1 j)) → u8.toInt = (i : Int) → i < N → own_sift fuel0 K Vv n hole (K hole) (Vv hole) = (own_upL K1 i (K hole), own_upL V1 i (Vv hole)) → own_Go p e below C T (mkF m 144 #[.val (.ref a1), .val (.ref a2), .val (.int p3), .val (.int p4), .val (.long (K hole)), .second, .val (.long (Vv hole)), .second, .val (.int u8), .val (.int u9), s10, s11, s12, s13] []) := by
    intro i K1 V1 u8 u9 T h s10 s11 s12 s13 W V_a1 V_a2 hi hiN hres
    refine own_aloadN W 145 d13_144 rfl rfl rfl ?_
    refine own_iload W 147 d13_145 rfl rfl ?_
    refine own_lload W 149 d13_147 rfl rfl ?_
    refine own_lastore W i 150 d13_149 V_a1 (Or.inl (List.mem_of_getElem? (i := 0) rfl)) hi hiN rfl ?_
    intro T1 h1 W1 Wr1 V_a1
    have V_a2 := V_a2.other Wr1 (Ne.symm hne)
    show own_Go p e below C T1 (mkF m 150 #[.val (.ref a1), .val (.ref a2), .val (.int p3), .val (.int p4), .val (.long (K hole)), .second, .val (.long (Vv hole)), .second, .val (.int u8), .val (.int u9), s10, s11, s12, s13] [])
    refine own_aloadN W1 151 d13_150 rfl rfl rfl ?_
    refine own_iload W1 153 d13_151 rfl rfl ?_
    refine own_lload W1 155 d13_153 rfl rfl ?_
    refine own_lastore W1 i 156 d13_155 V_a2 (Or.inl (List.mem_of_getElem? (i := 1) rfl)) hi hiN rfl ?_
    intro T2 h2 W2 Wr2 V_a2
    have V_a1 := V_a1.other Wr2 hne
    show own_Go p e below C T2 (mkF m 156 #[.val (.ref a1), .val (.ref a2), .val (.int p3), .val (.int p4), .val (.long (K hole)), .second, .val (.long (Vv hole)), .second, .val (.int u8), .val (.int u9), s10, s11, s12, s13] [])
    refine own_retV (Q := fun v h => v = none ∧ (own_A Z h a1 .long N (fun j => .long ((own_sift fuel0 K Vv n hole (K hole) (Vv hole)).1 j)) ∧ own_A Z h a2 .long N (fun j => .long ((own_sift fuel0 K Vv n hole (K hole) (Vv hole)).2 j)))) W2 hC (by decide) (by decide) d13_156 ?_
    exact ⟨rfl, by rw [hres]; exact ⟨V_a1.congr (fun j _ => own_upLe _ _ _ j), V_a2.congr (fun j _ => own_upLe _ _ _ j)⟩⟩
  have loop : ∀ (f : Nat) (i : Nat) (K1 V1 : Nat → Int64) (u8 u9 : Int32) (T : State) (h : Heap) (s10 s11 s12 s13 : Slot), own_W p l e ({ frames := 0, cells := 0, slots := 0, locals := 0 } : Room) s m #[(.ref a1), (.ref a2), (.int p3), (.int p4)] below meth c Z (⟨"com/example/queueloom/queueloom/engine/LongPairHeap", "siftDown", "([J[JII)V"⟩ : MethodName) none prog_61_method_9_code 14 [a1, a2] T h (0) (0) → own_A Z h a1 .long N (fun j => .long (K1 j)) → own_A Z h a2 .long N (fun j => .long (V1 j)) → u8.toInt = (i : Int) → i < N → u9.toInt = ((2 * i + 1 : Nat) : Int) → n ≤ i + 1 + f → own_sift fuel0 K Vv n hole (K hole) (Vv hole) = own_sift f K1 V1 n i (K hole) (Vv hole) → own_Two s10 s11 → own_Two s12 s13 → own_Go p e below C T (mkF m 21 #[.val (.ref a1), .val (.ref a2), .val (.int p3), .val (.int p4), .val (.long (K hole)), .second, .val (.long (Vv hole)), .second, .val (.int u8), .val (.int u9), s10, s11, s12, s13] []) := by
    intro f
    induction f with
    | zero =>
      intro i K1 V1 u8 u9 T h s10 s11 s12 s13 W V_a1 V_a2 hi hiN hu hf hres t1 t2
      have hlt : ¬ (u9 < p3) := by rw [own_ltN hu hn]; omega
      refine own_iload W 23 d13_21 rfl rfl ?_
      refine own_iloadN W 24 d13_23 rfl rfl ?_
      refine own_icmpY W 144 d13_24 ((flt (hlt : ¬ (u9 < p3))).2.1) (by decide) (by decide) ?_
      exact out i K1 V1 u8 u9 T h s10 s11 s12 s13 W V_a1 V_a2 hi hiN (by rw [hres]; rfl)
    | succ f ih =>
      intro i K1 V1 u8 u9 T h s10 s11 s12 s13 W V_a1 V_a2 hi hiN hu hf hres t1 t2
      refine own_iload W 23 d13_21 rfl rfl ?_
      refine own_iloadN W 24 d13_23 rfl rfl ?_
      by_cases c3 : u9 < p3
      · refine own_icmpN W 27 d13_24 ((tlt c3).2.1) rfl ?_
        have hc1 : 2 * i + 1 < n := by have h8 := c3; rw [own_ltN hu hn] at h8; exact h8
        rw [own_sift, if_pos hc1] at hres
        have J86 : ∀ (j : Nat) (v9 : Int32) (t12 t13 : Slot), v9.toInt = (j : Int) → i < j → j < n → own_Two t12 t13 → own_sift fuel0 K Vv n hole (K hole) (Vv hole) = (if K hole < K1 j ∨ (K1 j = K hole ∧ ¬ V1 j < Vv hole) then (own_upL K1 i (K hole), own_upL V1 i (Vv hole)) else own_sift f (own_upL K1 i (K1 j)) (own_upL V1 i (V1 j)) n j (K hole) (Vv hole)) → own_Go p e below C T (mkF m 86 #[.val (.ref a1), .val (.ref a2), .val (.int p3), .val (.int p4), .val (.long (K hole)), .second, .val (.long (Vv hole)), .second, .val (.int u8), .val (.int v9), .val (.long (K1 j)), .second, t12, t13] []) := by
          intro j v9 t12 t13 hv9 hij hjn tt hr2
          have mv : ¬ (K hole < K1 j ∨ (K1 j = K hole ∧ ¬ V1 j < Vv hole)) → own_Go p e below C T (mkF m 115 #[.val (.ref a1), .val (.ref a2), .val (.int p3), .val (.int p4), .val (.long (K hole)), .second, .val (.long (Vv hole)), .second, .val (.int u8), .val (.int v9), .val (.long (K1 j)), .second, t12, t13] []) := by
            intro hns
            rw [if_neg hns] at hr2
            refine own_aloadN W 116 d13_115 rfl rfl rfl ?_
            refine own_iload W 118 d13_116 rfl rfl ?_
            refine own_lload W 120 d13_118 rfl rfl ?_
            refine own_lastore W i 121 d13_120 V_a1 (Or.inl (List.mem_of_getElem? (i := 0) rfl)) hi hiN rfl ?_
            intro T4 h4 W4 Wr4 V_a1
            have V_a2 := V_a2.other Wr4 (Ne.symm hne)
            show own_Go p e below C T4 (mkF m 121 #[.val (.ref a1), .val (.ref a2), .val (.int p3), .val (.int p4), .val (.long (K hole)), .second, .val (.long (Vv hole)), .second, .val (.int u8), .val (.int v9), .val (.long (K1 j)), .second, t12, t13] [])
            refine own_aloadN W4 122 d13_121 rfl rfl rfl ?_
            refine own_iload W4 124 d13_122 rfl rfl ?_
            refine own_aloadN W4 125 d13_124 rfl rfl rfl ?_
            refine own_iload W4 127 d13_125 rfl rfl ?_
            refine own_laload W4 j (V1 j) 128 d13_127 V_a2 hv9 (by omega) rfl rfl ?_
            refine own_lastore W4 i 129 d13_128 V_a2 (Or.inl (List.mem_of_getElem? (i := 1) rfl)) hi hiN rfl ?_
            intro T5 h5 W5 Wr5 V_a2
            have V_a1 := V_a1.other Wr5 hne
            show own_Go p e below C T5 (mkF m 129 #[.val (.ref a1), .val (.ref a2), .val (.int p3), .val (.int p4), .val (.long (K hole)), .second, .val (.long (Vv hole)), .second, .val (.int u8), .val (.int v9), .val (.long (K1 j)), .second, t12, t13] [])
            refine own_iload W5 131 d13_129 rfl rfl ?_
            refine own_istore W5 133 #[.val (.ref a1), .val (.ref a2), .val (.int p3), .val (.int p4), .val (.long (K hole)), .second, .val (.long (Vv hole)), .second, .val (.int v9), .val (.int v9), .val (.long (K1 j)), .second, t12, t13] d13_131 rfl rfl ?_
            refine own_iconst W5 (2 : Int32) 134 d13_133 rfl rfl ?_
            refine own_iload W5 136 d13_134 rfl rfl ?_
            refine own_imul W5 137 d13_136 rfl ?_
            refine own_iconst W5 (1 : Int32) 138 d13_137 rfl rfl ?_
            refine own_iadd W5 139 d13_138 rfl ?_
            refine own_istore W5 141 #[.val (.ref a1), .val (.ref a2), .val (.int p3), .val (.int p4), .val (.long (K hole)), .second, .val (.long (Vv hole)), .second, .val (.int v9), .val (.int (((2 : Int32) * v9) + (1 : Int32))), .val (.long (K1 j)), .second, t12, t13] d13_139 rfl rfl ?_
            refine own_goto W5 21 d13_141 (by decide) (by decide) ?_
            exact ih j _ _ v9 _ T5 h5 _ _ t12 t13 W5 (V_a1.congr (fun q _ => own_upLe _ _ _ q)) (V_a2.congr (fun q _ => own_upLe _ _ _ q)) hv9 (by omega) (own_ch hv9 (by omega)) (by omega) hr2 (Or.inr ⟨_, rfl, rfl⟩) tt
          refine own_lload W 88 d13_86 rfl rfl ?_
          refine own_lload W 90 d13_88 rfl rfl ?_
          refine own_lcmp W 91 d13_90 rfl ?_
          by_cases c6 : (K hole) < (K1 j)
          · refine own_ifY W 144 d13_91 ((if0 _ _).trans (tlt ((lw_gt (K1 j) (K hole)).mpr c6)).2.2.1) (by decide) (by decide) ?_
            exact out i K1 V1 u8 v9 T h _ _ t12 t13 W V_a1 V_a2 hi hiN (by rw [hr2, if_pos (Or.inl c6)])
          · refine own_ifN W 94 d13_91 ((if0 _ _).trans (flt (mt (lw_gt (K1 j) (K hole)).mp c6)).2.2.1) rfl ?_
            refine own_lload W 96 d13_94 rfl rfl ?_
            refine own_lload W 98 d13_96 rfl rfl ?_
            refine own_lcmp W 99 d13_98 rfl ?_
            by_cases c7 : (K1 j) = (K hole)
            · refine own_ifN W 102 d13_99 ((if0 _ _).trans (teq ((lw_eq (K1 j) (K hole)).mpr c7)).2) rfl ?_
              refine own_aloadN W 103 d13_102 rfl rfl rfl ?_
              refine own_iload W 105 d13_103 rfl rfl ?_
              refine own_laload W j (V1 j) 106 d13_105 V_a2 hv9 (by omega) rfl rfl ?_
              refine own_lload W 108 d13_106 rfl rfl ?_
              refine own_lcmp W 109 d13_108 rfl ?_
              by_cases c8 : (V1 j) < (Vv hole)
              · refine own_ifY W 115 d13_109 ((if0 _ _).trans (tlt ((lw_lt (V1 j) (Vv hole)).mpr c8)).1) (by decide) (by decide) ?_
                exact mv (fun r => r.elim c6 (fun r => r.2 c8))
              · refine own_ifN W 112 d13_109 ((if0 _ _).trans (flt (mt (lw_lt (V1 j) (Vv hole)).mp c8)).1) rfl ?_
                refine own_goto W 144 d13_112 (by decide) (by decide) ?_
                exact out i K1 V1 u8 v9 T h _ _ t12 t13 W V_a1 V_a2 hi hiN (by rw [hr2, if_pos (Or.inr ⟨c7, c8⟩)])
            · refine own_ifY W 115 d13_99 ((if0 _ _).trans (feq (mt (lw_eq (K1 j) (K hole)).mp c7)).2) (by decide) (by decide) ?_
              exact mv (fun r => r.elim c6 (fun r => c7 r.1))
        refine own_aloadN W 28 d13_27 rfl rfl rfl ?_
        refine own_iload W 30 d13_28 rfl rfl ?_
        refine own_laload W (2 * i + 1) (K1 (2 * i + 1)) 31 d13_30 V_a1 hu (by omega) rfl rfl ?_
        refine own_lstore W 33 #[.val (.ref a1), .val (.ref a2), .val (.int p3), .val (.int p4), .val (.long (K hole)), .second, .val (.long (Vv hole)), .second, .val (.int u8), .val (.int u9), .val (.long (K1 (2 * i + 1))), .second, s12, s13] d13_31 (by rcases t1 with ⟨rfl, rfl⟩ | ⟨_, rfl, rfl⟩ <;> rfl) rfl ?_
        refine own_iload W 35 d13_33 rfl rfl ?_
        refine own_iconst W (1 : Int32) 36 d13_35 rfl rfl ?_
        refine own_iadd W 37 d13_36 rfl ?_
        refine own_iloadN W 38 d13_37 rfl rfl ?_
        have hu1 := own_inc hu (by omega)
        by_cases c9 : (u9 + (1 : Int32)) < p3
        · refine own_icmpN W 41 d13_38 ((tlt c9).2.1) rfl ?_
          have hc2 : 2 * i + 1 + 1 < n := by have h8 := c9; rw [own_ltN hu1 hn] at h8; exact h8
          refine own_aloadN W 42 d13_41 rfl rfl rfl ?_
          refine own_iload W 44 d13_42 rfl rfl ?_
          refine own_iconst W (1 : Int32) 45 d13_44 rfl rfl ?_
          refine own_iadd W 46 d13_45 rfl ?_
          refine own_laload W (2 * i + 1 + 1) (K1 (2 * i + 1 + 1)) 47 d13_46 V_a1 hu1 (by omega) rfl rfl ?_
          refine own_lstore W 49 #[.val (.ref a1), .val (.ref a2), .val (.int p3), .val (.int p4), .val (.long (K hole)), .second, .val (.long (Vv hole)), .second, .val (.int u8), .val (.int u9), .val (.long (K1 (2 * i + 1))), .second, .val (.long (K1 (2 * i + 1 + 1))), .second] d13_47 (by rcases t2 with ⟨rfl, rfl⟩ | ⟨_, rfl, rfl⟩ <;> rfl) rfl ?_
          refine own_lload W 51 d13_49 rfl rfl ?_
          refine own_lload W 53 d13_51 rfl rfl ?_
          refine own_lcmp W 54 d13_53 rfl ?_
          by_cases c10 : (K1 (2 * i + 1 + 1)) < (K1 (2 * i + 1))
          · refine own_ifY W 79 d13_54 ((if0 _ _).trans (tlt ((lw_lt (K1 (2 * i + 1 + 1)) (K1 (2 * i + 1))).mpr c10)).1) (by decide) (by decide) ?_
            refine own_iinc W (u9 + (1 : Int32)) 82 #[.val (.ref a1), .val (.ref a2), .val (.int p3), .val (.int p4), .val (.long (K hole)), .second, .val (.long (Vv hole)), .second, .val (.int u8), .val (.int (u9 + (1 : Int32))), .val (.long (K1 (2 * i + 1))), .second, .val (.long (K1 (2 * i + 1 + 1))), .second] d13_79 rfl rfl rfl rfl ?_
            refine own_lload W 84 d13_82 rfl rfl ?_
            refine own_lstore W 86 #[.val (.ref a1), .val (.ref a2), .val (.int p3), .val (.int p4), .val (.long (K hole)), .second, .val (.long (Vv hole)), .second, .val (.int u8), .val (.int (u9 + (1 : Int32))), .val (.long (K1 (2 * i + 1 + 1))), .second, .val (.long (K1 (2 * i + 1 + 1))), .second] d13_84 rfl rfl ?_
            exact J86 (2 * i + 1 + 1) _ _ _ hu1 (by omega) hc2 (Or.inr ⟨_, rfl, rfl⟩) (by rw [hres, if_pos ⟨hc2, Or.inl c10⟩])
          · refine own_ifN W 57 d13_54 ((if0 _ _).trans (flt (mt (lw_lt (K1 (2 * i + 1 + 1)) (K1 (2 * i + 1))).mp c10)).1) rfl ?_
            refine own_lload W 59 d13_57 rfl rfl ?_
            refine own_lload W 61 d13_59 rfl rfl ?_
            refine own_lcmp W 62 d13_61 rfl ?_
            by_cases c11 : (K1 (2 * i + 1 + 1)) = (K1 (2 * i + 1))
            · refine own_ifN W 65 d13_62 ((if0 _ _).trans (teq ((lw_eq (K1 (2 * i + 1 + 1)) (K1 (2 * i + 1))).mpr c11)).2) rfl ?_
              refine own_aloadN W 66 d13_65 rfl rfl rfl ?_
              refine own_iload W 68 d13_66 rfl rfl ?_
              refine own_iconst W (1 : Int32) 69 d13_68 rfl rfl ?_
              refine own_iadd W 70 d13_69 rfl ?_
              refine own_laload W (2 * i + 1 + 1) (V1 (2 * i + 1 + 1)) 71 d13_70 V_a2 hu1 (by omega) rfl rfl ?_
              refine own_aloadN W 72 d13_71 rfl rfl rfl ?_
              refine own_iload W 74 d13_72 rfl rfl ?_
              refine own_laload W (2 * i + 1) (V1 (2 * i + 1)) 75 d13_74 V_a2 hu (by omega) rfl rfl ?_
              refine own_lcmp W 76 d13_75 rfl ?_
              by_cases c12 : (V1 (2 * i + 1 + 1)) < (V1 (2 * i + 1))
              · refine own_ifN W 79 d13_76 ((if0 _ _).trans (tlt ((lw_lt (V1 (2 * i + 1 + 1)) (V1 (2 * i + 1))).mpr c12)).2.1) rfl ?_
                refine own_iinc W (u9 + (1 : Int32)) 82 #[.val (.ref a1), .val (.ref a2), .val (.int p3), .val (.int p4), .val (.long (K hole)), .second, .val (.long (Vv hole)), .second, .val (.int u8), .val (.int (u9 + (1 : Int32))), .val (.long (K1 (2 * i + 1))), .second, .val (.long (K1 (2 * i + 1 + 1))), .second] d13_79 rfl rfl rfl rfl ?_
                refine own_lload W 84 d13_82 rfl rfl ?_
                refine own_lstore W 86 #[.val (.ref a1), .val (.ref a2), .val (.int p3), .val (.int p4), .val (.long (K hole)), .second, .val (.long (Vv hole)), .second, .val (.int u8), .val (.int (u9 + (1 : Int32))), .val (.long (K1 (2 * i + 1 + 1))), .second, .val (.long (K1 (2 * i + 1 + 1))), .second] d13_84 rfl rfl ?_
                exact J86 (2 * i + 1 + 1) _ _ _ hu1 (by omega) hc2 (Or.inr ⟨_, rfl, rfl⟩) (by rw [hres, if_pos ⟨hc2, Or.inr ⟨c11, c12⟩⟩])
              · refine own_ifY W 86 d13_76 ((if0 _ _).trans (flt (mt (lw_lt (V1 (2 * i + 1 + 1)) (V1 (2 * i + 1))).mp c12)).2.1) (by decide) (by decide) ?_
                exact J86 (2 * i + 1) u9 _ _ hu (by omega) hc1 (Or.inr ⟨_, rfl, rfl⟩) (by rw [hres, if_neg (fun r => r.2.elim c10 (fun r => c12 r.2))])
            · refine own_ifY W 86 d13_62 ((if0 _ _).trans (feq (mt (lw_eq (K1 (2 * i + 1 + 1)) (K1 (2 * i + 1))).mp c11)).2) (by decide) (by decide) ?_
              exact J86 (2 * i + 1) u9 _ _ hu (by omega) hc1 (Or.inr ⟨_, rfl, rfl⟩) (by rw [hres, if_neg (fun r => r.2.elim c10 (fun r => c11 r.1))])
        · refine own_icmpY W 86 d13_38 ((flt c9).2.1) (by decide) (by decide) ?_
          exact J86 (2 * i + 1) u9 s12 s13 hu (by omega) hc1 t2 (by rw [hres, if_neg (fun r => c9 (by rw [own_ltN hu1 hn]; exact r.1))])
      · refine own_icmpY W 144 d13_24 ((flt c3).2.1) (by decide) (by decide) ?_
        exact out i K1 V1 u8 u9 T h s10 s11 s12 s13 W V_a1 V_a2 hi hiN (by rw [hres, own_sift, if_neg (by have h8 := c3; rw [own_ltN hu hn] at h8; exact h8)])
  exact loop fuel0 hole K Vv p4 _ T0 h0 .unset .unset .unset .unset W0 V_a1 V_a2 hh hhN (own_ch hh (by omega)) (by omega) rfl (Or.inl ⟨rfl, rfl⟩) (Or.inl ⟨rfl, rfl⟩)
theorem ef_m12 (m : MethodId) (x0 : Addr) : entryFrame m #[(.ref x0)] 2 = mkF m 0 #[.val (.ref x0), .unset] [] := by first | (simp [entryFrame, mkF, argsToLocals, Value.category]; done) | rfl
set_option maxRecDepth 65536 in
set_option maxHeartbeats 40000000 in
theorem own_m12 (l : Launch) (Z : State) (a0 : Array Value) (hw : ∀ d ∈ tables_1, d.before a0 Z = true) (wo : List Jvm.Cond) (h0 : Heap) (a1 : Addr) (kk : Addr) (vv : Addr) (K : Nat → Int64) (Vv : Nat → Int64) (n : Nat) (sz : Int32) (X_a1 : Exa Z h0 a1 "com/example/queueloom/queueloom/engine/LongPairHeap") (F_keys_a1 : Fld Z h0 a1 "com/example/queueloom/queueloom/engine/LongPairHeap" "keys" "[J" (.ref kk)) (F_values_a1 : Fld Z h0 a1 "com/example/queueloom/queueloom/engine/LongPairHeap" "values" "[J" (.ref vv)) (F_size_a1 : Fld Z h0 a1 "com/example/queueloom/queueloom/engine/LongPairHeap" "size" "I" (.int sz)) (V_kk : own_A Z h0 kk .long 3 (fun j => .long (K j))) (V_vv : own_A Z h0 vv .long 3 (fun j => .long (Vv j))) (ne_a_k : a1 ≠ kk) (ne_a_v : a1 ≠ vv) (ne_k_v : kk ≠ vv) (hsz : sz.toInt = (n : Int)) (hn1 : 1 ≤ n) (hn : n ≤ 3) :
    own_M l Z wo (⟨"com/example/queueloom/queueloom/engine/LongPairHeap", "removeFirst", "()V"⟩ : MethodName) prog_61_method_8_code 2 none ({ frames := 1, cells := 0, slots := 0, locals := 25 } : Room) [a1, kk, vv] #[(.ref a1)] h0 (fun v h => v = none ∧ (Fld Z h a1 "com/example/queueloom/queueloom/engine/LongPairHeap" "keys" "[J" (.ref kk) ∧ Fld Z h a1 "com/example/queueloom/queueloom/engine/LongPairHeap" "values" "[J" (.ref vv) ∧ Fld Z h a1 "com/example/queueloom/queueloom/engine/LongPairHeap" "size" "I" (.int (sz - (1 : Int32))) ∧ own_A Z h kk .long 3 (fun j => .long ((own_sift 3 (own_upL K 0 (K (n - 1))) (own_upL Vv 0 (Vv (n - 1))) (n - 1) 0 ((own_upL K 0 (K (n - 1))) 0) ((own_upL Vv 0 (Vv (n - 1))) 0)).1 j)) ∧ own_A Z h vv .long 3 (fun j => .long ((own_sift 3 (own_upL K 0 (K (n - 1))) (own_upL Vv 0 (Vv (n - 1))) (n - 1) 0 ((own_upL K 0 (K (n - 1))) 0) ((own_upL Vv 0 (Vv (n - 1))) 0)).2 j)))) := by
  refine own_body (plainFor_of_name pn_12) (fun m => ef_m12 m a1) ?_
  intro p e s m below meth c C hC T0 W0
  have hla := own_dec hsz hn1
  refine own_aloadN W0 1 d12_0 rfl rfl rfl ?_
  refine own_getfield W0 4 d12_1 (wd70 hw) F_size_a1 rfl ?_
  intro T1 W1
  show own_Go p e below C T1 (mkF m 4 #[.val (.ref a1), .unset] [(.int sz)])
  refine own_iconst W1 (1 : Int32) 5 d12_4 rfl rfl ?_
  refine own_isub W1 6 d12_5 rfl ?_
  refine own_istoreN W1 7 #[.val (.ref a1), .val (.int (sz - (1 : Int32)))] d12_6 rfl rfl ?_
  refine own_aloadN W1 8 d12_7 rfl rfl rfl ?_
  refine own_getfield W1 11 d12_8 (wd61 hw) F_keys_a1 rfl ?_
  intro T2 W2
  show own_Go p e below C T2 (mkF m 11 #[.val (.ref a1), .val (.int (sz - (1 : Int32)))] [(.ref kk)])
  refine own_iconst W2 (0 : Int32) 12 d12_11 rfl rfl ?_
  refine own_aloadN W2 13 d12_12 rfl rfl rfl ?_
  refine own_getfield W2 16 d12_13 (wd61 hw) F_keys_a1 rfl ?_
  intro T3 W3
  show own_Go p e below C T3 (mkF m 16 #[.val (.ref a1), .val (.int (sz - (1 : Int32)))] [(.ref kk), (.int (0 : Int32)), (.ref kk)])
  refine own_iloadN W3 17 d12_16 rfl rfl ?_
  refine own_laload W3 (n - 1) (K (n - 1)) 18 d12_17 V_kk hla (by omega) rfl rfl ?_
  refine own_lastore W3 0 19 d12_18 V_kk (Or.inl (List.mem_of_getElem? (i := 1) rfl)) rfl (by decide) rfl ?_
  intro T4 h4 W4 Wr4 V_kk
  have X_a1 := X_a1.wr Wr4
  have F_keys_a1 := F_keys_a1.other Wr4 (Or.inl ne_a_k)
  have F_values_a1 := F_values_a1.other Wr4 (Or.inl ne_a_k)
  have F_size_a1 := F_size_a1.other Wr4 (Or.inl ne_a_k)
  have V_vv := V_vv.other Wr4 (Ne.symm ne_k_v)
  show own_Go p e below C T4 (mkF m 19 #[.val (.ref a1), .val (.int (sz - (1 : Int32)))] [])
  refine own_aloadN W4 20 d12_19 rfl rfl rfl ?_
  refine own_getfield W4 23 d12_20 (wd63 hw) F_values_a1 rfl ?_
  intro T5 W5
  show own_Go p e below C T5 (mkF m 23 #[.val (.ref a1), .val (.int (sz - (1 : Int32)))] [(.ref vv)])
  refine own_iconst W5 (0 : Int32) 24 d12_23 rfl rfl ?_
  refine own_aloadN W5 25 d12_24 rfl rfl rfl ?_
  refine own_getfield W5 28 d12_25 (wd63 hw) F_values_a1 rfl ?_
  intro T6 W6
  show own_Go p e below C T6 (mkF m 28 #[.val (.ref a1), .val (.int (sz - (1 : Int32)))] [(.ref vv), (.int (0 : Int32)), (.ref vv)])
  refine own_iloadN W6 29 d12_28 rfl rfl ?_
  refine own_laload W6 (n - 1) (Vv (n - 1)) 30 d12_29 V_vv hla (by omega) rfl rfl ?_
  refine own_lastore W6 0 31 d12_30 V_vv (Or.inl (List.mem_of_getElem? (i := 2) rfl)) rfl (by decide) rfl ?_
  intro T7 h7 W7 Wr7 V_vv
  have X_a1 := X_a1.wr Wr7
  have F_keys_a1 := F_keys_a1.other Wr7 (Or.inl ne_a_v)
  have F_values_a1 := F_values_a1.other Wr7 (Or.inl ne_a_v)
  have F_size_a1 := F_size_a1.other Wr7 (Or.inl ne_a_v)
  have V_kk := V_kk.other Wr7 ne_k_v
  show own_Go p e below C T7 (mkF m 31 #[.val (.ref a1), .val (.int (sz - (1 : Int32)))] [])
  refine own_aloadN W7 32 d12_31 rfl rfl rfl ?_
  refine own_iloadN W7 33 d12_32 rfl rfl ?_
  refine own_putfield W7 (.int (sz - (1 : Int32))) 36 d12_33 (wd70 hw) F_size_a1 X_a1 (Or.inl (wd71 hw)) (wd55 hw) (Or.inl (List.mem_of_getElem? (i := 0) rfl)) (ty := .int) (by decide) rfl rfl rfl ?_
  intro T8 h8 W8 Wr8 F_size_a1
  have X_a1 := X_a1.wr Wr8
  have F_keys_a1 := F_keys_a1.other Wr8 (Or.inr (slot_ne (Or.inl (wd62 hw)) (Or.inl (wd71 hw)) (by decide) (t := (.array .long)) (t' := .int) (by decide) (by decide)))
  have F_values_a1 := F_values_a1.other Wr8 (Or.inr (slot_ne (Or.inl (wd64 hw)) (Or.inl (wd71 hw)) (by decide) (t := (.array .long)) (t' := .int) (by decide) (by decide)))
  have V_kk := V_kk.other Wr8 (Ne.symm ne_a_k)
  have V_vv := V_vv.other Wr8 (Ne.symm ne_a_v)
  show own_Go p e below C T8 (mkF m 36 #[.val (.ref a1), .val (.int (sz - (1 : Int32)))] [])
  refine own_aloadN W8 37 d12_36 rfl rfl rfl ?_
  refine own_getfield W8 40 d12_37 (wd61 hw) F_keys_a1 rfl ?_
  intro T9 W9
  show own_Go p e below C T9 (mkF m 40 #[.val (.ref a1), .val (.int (sz - (1 : Int32)))] [(.ref kk)])
  refine own_aloadN W9 41 d12_40 rfl rfl rfl ?_
  refine own_getfield W9 44 d12_41 (wd63 hw) F_values_a1 rfl ?_
  intro T10 W10
  show own_Go p e below C T10 (mkF m 44 #[.val (.ref a1), .val (.int (sz - (1 : Int32)))] [(.ref vv), (.ref kk)])
  refine own_iloadN W10 45 d12_44 rfl rfl ?_
  refine own_iconst W10 (0 : Int32) 46 d12_45 rfl rfl ?_
  have V_kk : own_A Z h8 kk .long 3 (fun j => .long ((own_upL K 0 (K (n - 1))) j)) := V_kk.congr (fun j _ => own_upLe _ _ _ j)
  have V_vv : own_A Z h8 vv .long 3 (fun j => .long ((own_upL Vv 0 (Vv (n - 1))) j)) := V_vv.congr (fun j _ => own_upLe _ _ _ j)
  refine own_callS W10 (A := [(.ref kk), (.ref vv), (.int (sz - (1 : Int32))), (.int (0 : Int32))]) (wt := 0) (pc' := 49) (st := []) d12_46 (wd87 hw) (wd88 hw) (wd56 hw) (wd89 hw) (by decide) (own_m13 l Z a0 hw [] h8 kk vv (sz - (1 : Int32)) (0 : Int32) 3 (own_upL K 0 (K (n - 1))) (own_upL Vv 0 (Vv (n - 1))) (n - 1) 0 3 V_kk V_vv ne_k_v hla rfl (by decide) (by omega) (by decide) (by omega)) (allS (Or.inl (List.mem_of_getElem? (i := 1) rfl)) (allS (Or.inl (List.mem_of_getElem? (i := 2) rfl)) all0)) rfl pd_1 rfl (Nat.le_of_eq rfl) (by decide) (by decide) (by decide) (by decide) rfl ?_
  rintro T11 h11 _ W11 K11 P11 ⟨rfl, ⟨V_kk, V_vv⟩⟩
  have X_a1 := X_a1.keep K11
  have F_keys_a1 := F_keys_a1.keep K11 (ninS ne_a_k (ninS ne_a_v nin0))
  have F_values_a1 := F_values_a1.keep K11 (ninS ne_a_k (ninS ne_a_v nin0))
  have F_size_a1 := F_size_a1.keep K11 (ninS ne_a_k (ninS ne_a_v nin0))
  show own_Go p e below C T11 (mkF m 49 #[.val (.ref a1), .val (.int (sz - (1 : Int32)))] [])
  refine own_retV (Q := fun v h => v = none ∧ (Fld Z h a1 "com/example/queueloom/queueloom/engine/LongPairHeap" "keys" "[J" (.ref kk) ∧ Fld Z h a1 "com/example/queueloom/queueloom/engine/LongPairHeap" "values" "[J" (.ref vv) ∧ Fld Z h a1 "com/example/queueloom/queueloom/engine/LongPairHeap" "size" "I" (.int (sz - (1 : Int32))) ∧ own_A Z h kk .long 3 (fun j => .long ((own_sift 3 (own_upL K 0 (K (n - 1))) (own_upL Vv 0 (Vv (n - 1))) (n - 1) 0 ((own_upL K 0 (K (n - 1))) 0) ((own_upL Vv 0 (Vv (n - 1))) 0)).1 j)) ∧ own_A Z h vv .long 3 (fun j => .long ((own_sift 3 (own_upL K 0 (K (n - 1))) (own_upL Vv 0 (Vv (n - 1))) (n - 1) 0 ((own_upL K 0 (K (n - 1))) 0) ((own_upL Vv 0 (Vv (n - 1))) 0)).2 j)))) W11 hC (by decide) (by decide) d12_49 ?_
  exact ⟨rfl, ⟨F_keys_a1, F_values_a1, F_size_a1, V_kk, V_vv⟩⟩
theorem ef_m7a (m : MethodId) (x0 : Addr) : entryFrame m #[(.ref x0)] 3 = mkF m 0 #[.val (.ref x0), .unset, .unset] [] := by first | (simp [entryFrame, mkF, argsToLocals, Value.category]; done) | rfl
set_option maxRecDepth 65536 in
set_option maxHeartbeats 40000000 in
theorem own_m7a (l : Launch) (Z : State) (a0 : Array Value) (hw : ∀ d ∈ tables_1, d.before a0 Z = true) (wo : List Jvm.Cond) (h0 : Heap) (a1 : Addr) (tt : Addr) (ii : Addr) (tm : Nat → Int64) (ix : Nat → Int32) (ct : Int32) (io : Int32) (F_times_a1 : Fld Z h0 a1 "com/example/queueloom/queueloom/engine/Arrivals" "times" "[J" (.ref tt)) (F_indices_a1 : Fld Z h0 a1 "com/example/queueloom/queueloom/engine/Arrivals" "indices" "[I" (.ref ii)) (F_count_a1 : Fld Z h0 a1 "com/example/queueloom/queueloom/engine/Arrivals" "count" "I" (.int ct)) (F_first_a1 : Fld Z h0 a1 "com/example/queueloom/queueloom/engine/Arrivals" "first" "I" (.int (0 : Int32))) (F_inOrder_a1 : Fld Z h0 a1 "com/example/queueloom/queueloom/engine/Arrivals" "inOrder" "Z" (.int io)) (F_later_a1 : Fld Z h0 a1 "com/example/queueloom/queueloom/engine/Arrivals" "later" "Lcom/example/queueloom/queueloom/engine/LongPairHeap;" .null) (V_tt : own_A Z h0 tt .long 3 (fun j => .long (tm j))) (V_ii : own_A Z h0 ii .int 3 (fun j => .int (ix j))) (hio : ¬ (io = (0 : Int32))) :
    own_M l Z wo (⟨"com/example/queueloom/queueloom/engine/Arrivals", "settle", "()V"⟩ : MethodName) prog_53_method_4_code 3 none ({ frames := 0, cells := 0, slots := 0, locals := 0 } : Room) [] #[(.ref a1)] h0 (fun v h => v = none ∧ (True)) := by
  refine own_body (plainFor_of_name pn_7) (fun m => ef_m7a m a1) ?_
  intro p e s m below meth c C hC T0 W0
  refine own_aloadN W0 1 d7_0 rfl rfl rfl ?_
  refine own_getfield W0 4 d7_1 (wd16 hw) F_inOrder_a1 rfl ?_
  intro T1 W1
  show own_Go p e below C T1 (mkF m 4 #[.val (.ref a1), .unset, .unset] [(.int io)])
  refine own_ifN W1 7 d7_4 ((if0 _ _).trans (feq (hio : ¬ (io = (0 : Int32)))).1) rfl ?_
  refine own_retV (Q := fun v h => v = none ∧ (True)) W1 hC (by decide) (by decide) d7_7 ?_
  exact ⟨rfl, trivial⟩
def own_p1 (tm : Nat → Int64) (ix : Nat → Int32) := own_up 3 (fun _ => 0) (fun _ => 0) 0 (tm 0) (ix 0).toInt64
def own_p2 (tm : Nat → Int64) (ix : Nat → Int32) := own_up 3 (own_p1 tm ix).1 (own_p1 tm ix).2 1 (tm 1) (ix 1).toInt64
def own_p3 (tm : Nat → Int64) (ix : Nat → Int32) := own_up 3 (own_p2 tm ix).1 (own_p2 tm ix).2 2 (tm 2) (ix 2).toInt64
def own_rm (P : (Nat → Int64) × (Nat → Int64)) (n : Nat) := own_sift 3 (own_upL P.1 0 (P.1 (n - 1))) (own_upL P.2 0 (P.2 (n - 1))) (n - 1) 0 (own_upL P.1 0 (P.1 (n - 1)) 0) (own_upL P.2 0 (P.2 (n - 1)) 0)
def own_q1 (tm : Nat → Int64) (ix : Nat → Int32) := own_rm (own_p3 tm ix) 3
def own_q2 (tm : Nat → Int64) (ix : Nat → Int32) := own_rm (own_q1 tm ix) 2
theorem own_lt3 {n : Nat} (h : n < 3) : n = 0 ∨ n = 1 ∨ n = 2 := by omega
theorem ef_m7b (m : MethodId) (x0 : Addr) : entryFrame m #[(.ref x0)] 3 = mkF m 0 #[.val (.ref x0), .unset, .unset] [] := by first | (simp [entryFrame, mkF, argsToLocals, Value.category]; done) | rfl
set_option maxRecDepth 65536 in
set_option maxHeartbeats 40000000 in
theorem own_m7b (l : Launch) (Z : State) (a0 : Array Value) (hw : ∀ d ∈ tables_1, d.before a0 Z = true) (wo : List Jvm.Cond) (h0 : Heap) (a1 : Addr) (tt : Addr) (ii : Addr) (tm : Nat → Int64) (ix : Nat → Int32) (X_a1 : Exa Z h0 a1 "com/example/queueloom/queueloom/engine/Arrivals") (F_times_a1 : Fld Z h0 a1 "com/example/queueloom/queueloom/engine/Arrivals" "times" "[J" (.ref tt)) (F_indices_a1 : Fld Z h0 a1 "com/example/queueloom/queueloom/engine/Arrivals" "indices" "[I" (.ref ii)) (F_count_a1 : Fld Z h0 a1 "com/example/queueloom/queueloom/engine/Arrivals" "count" "I" (.int (3 : Int32))) (F_first_a1 : Fld Z h0 a1 "com/example/queueloom/queueloom/engine/Arrivals" "first" "I" (.int (0 : Int32))) (F_inOrder_a1 : Fld Z h0 a1 "com/example/queueloom/queueloom/engine/Arrivals" "inOrder" "Z" (.int (0 : Int32))) (F_later_a1 : Fld Z h0 a1 "com/example/queueloom/queueloom/engine/Arrivals" "later" "Lcom/example/queueloom/queueloom/engine/LongPairHeap;" .null) (V_tt : own_A Z h0 tt .long 3 (fun j => .long (tm j))) (V_ii : own_A Z h0 ii .int 3 (fun j => .int (ix j))) (ne_a_t : a1 ≠ tt) (ne_a_i : a1 ≠ ii) (ne_t_i : tt ≠ ii) :
    own_M l Z wo (⟨"com/example/queueloom/queueloom/engine/Arrivals", "settle", "()V"⟩ : MethodName) prog_53_method_4_code 3 none ({ frames := 2, cells := 3, slots := 9, locals := 38 } : Room) [a1, tt, ii] #[(.ref a1)] h0 (fun v h => v = none ∧ (Fld Z h a1 "com/example/queueloom/queueloom/engine/Arrivals" "times" "[J" (.ref tt) ∧ Fld Z h a1 "com/example/queueloom/queueloom/engine/Arrivals" "indices" "[I" (.ref ii) ∧ Fld Z h a1 "com/example/queueloom/queueloom/engine/Arrivals" "count" "I" (.int (3 : Int32)) ∧ Fld Z h a1 "com/example/queueloom/queueloom/engine/Arrivals" "first" "I" (.int (0 : Int32)) ∧ Fld Z h a1 "com/example/queueloom/queueloom/engine/Arrivals" "inOrder" "Z" (.int (1 : Int32)) ∧ Fld Z h a1 "com/example/queueloom/queueloom/engine/Arrivals" "later" "Lcom/example/queueloom/queueloom/engine/LongPairHeap;" .null ∧ own_A Z h tt .long 3 (fun j => .long ((own_upL (own_upL (own_upL tm 0 ((own_p3 tm ix).1 0)) 1 ((own_q1 tm ix).1 0)) 2 ((own_q2 tm ix).1 0)) j)) ∧ own_A Z h ii .int 3 (fun j => .int ((own_upI (own_upI (own_upI ix 0 ((own_p3 tm ix).2 0).toInt32) 1 ((own_q1 tm ix).2 0).toInt32) 2 ((own_q2 tm ix).2 0).toInt32) j)))) := by
  refine own_body (plainFor_of_name pn_7) (fun m => ef_m7b m a1) ?_
  intro p e s m below meth c C hC T0 W0
  refine own_aloadN W0 1 d7_0 rfl rfl rfl ?_
  refine own_getfield W0 4 d7_1 (wd16 hw) F_inOrder_a1 rfl ?_
  intro T1 W1
  show own_Go p e below C T1 (mkF m 4 #[.val (.ref a1), .unset, .unset] [(.int (0 : Int32))])
  refine own_ifY W1 8 d7_4 ((if0 _ _).trans (teq (rfl : (0 : Int32) = (0 : Int32))).1) (by decide) (by decide) ?_
  refine own_new W1 11 d7_8 (wd54 hw) (wd55 hw) (wd56 hw) (by decide) (by decide) rfl ?_
  intro T2 h2 o W2 E2 g_o o_o X_o D_o
  have ne_a1_o : a1 ≠ o := by rw [g_o]; exact Nat.ne_of_lt X_a1.lt
  have ne_tt_o : tt ≠ o := by rw [g_o]; exact Nat.ne_of_lt V_tt.lt
  have ne_ii_o : ii ≠ o := by rw [g_o]; exact Nat.ne_of_lt V_ii.lt
  have X_a1 := X_a1.ext E2
  have F_times_a1 := F_times_a1.ext E2
  have F_indices_a1 := F_indices_a1.ext E2
  have F_count_a1 := F_count_a1.ext E2
  have F_first_a1 := F_first_a1.ext E2
  have F_inOrder_a1 := F_inOrder_a1.ext E2
  have F_later_a1 := F_later_a1.ext E2
  have V_tt := V_tt.ext E2
  have V_ii := V_ii.ext E2
  have F_keys_o : Fld Z h2 o "com/example/queueloom/queueloom/engine/LongPairHeap" "keys" "[J" .null := D_o (Or.inl (wd62 hw)) (ty := (.array .long)) (by decide)
  have F_values_o : Fld Z h2 o "com/example/queueloom/queueloom/engine/LongPairHeap" "values" "[J" .null := D_o (Or.inl (wd64 hw)) (ty := (.array .long)) (by decide)
  have F_size_o : Fld Z h2 o "com/example/queueloom/queueloom/engine/LongPairHeap" "size" "I" (.int (0 : Int32)) := D_o (Or.inl (wd71 hw)) (ty := .int) (by decide)
  show own_Go p e below C T2 (mkF m 11 #[.val (.ref a1), .unset, .unset] [(.ref o)])
  refine own_dup W2 12 d7_11 rfl rfl ?_
  refine own_aloadN W2 13 d7_12 rfl rfl rfl ?_
  refine own_getfield W2 16 d7_13 (wd27 hw) F_count_a1 rfl ?_
  intro T3 W3
  show own_Go p e below C T3 (mkF m 16 #[.val (.ref a1), .unset, .unset] [(.int (3 : Int32)), (.ref o), (.ref o)])
  have hol := X_o.lt
  have htl := V_tt.lt
  have hil := V_ii.lt
  have hal := F_count_a1.lt
  refine own_callN W3 (A := [(.int (3 : Int32))]) (wt := 1) (pc' := 19) (st := [(.ref o)]) d7_16 rfl (wd57 hw) (wd58 hw) (wd56 hw) (wd59 hw) (by decide) (own_m8 l Z a0 hw [] h2 o X_o F_keys_o F_values_o F_size_o) (allS (Or.inr o_o) all0) rfl pd_2 rfl (Nat.le_of_eq rfl) (by decide) (by decide) (by decide) (by decide) rfl ?_
  rintro T4 h4 _ W4 K4 P4 ⟨rfl, ⟨kk, vv, o_kk, o_vv, ne_k_v, F_keys_o, F_values_o, F_size_o, V_kk, V_vv⟩⟩
  have X_a1 := X_a1.keep K4
  have F_times_a1 := F_times_a1.keep K4 (ninS ne_a1_o nin0)
  have F_indices_a1 := F_indices_a1.keep K4 (ninS ne_a1_o nin0)
  have F_count_a1 := F_count_a1.keep K4 (ninS ne_a1_o nin0)
  have F_first_a1 := F_first_a1.keep K4 (ninS ne_a1_o nin0)
  have F_inOrder_a1 := F_inOrder_a1.keep K4 (ninS ne_a1_o nin0)
  have F_later_a1 := F_later_a1.keep K4 (ninS ne_a1_o nin0)
  have V_tt := V_tt.keep K4 (ninS ne_tt_o nin0)
  have V_ii := V_ii.keep K4 (ninS ne_ii_o nin0)
  have X_o := X_o.keep K4
  show own_Go p e below C T4 (mkF m 19 #[.val (.ref a1), .unset, .unset] [(.ref o)])
  have ne_o_kk : o ≠ kk := Nat.ne_of_lt (Nat.lt_of_lt_of_le hol o_kk)
  have ne_o_vv : o ≠ vv := Nat.ne_of_lt (Nat.lt_of_lt_of_le hol o_vv)
  have ne_tt_kk : tt ≠ kk := Nat.ne_of_lt (Nat.lt_of_lt_of_le htl o_kk)
  have ne_tt_vv : tt ≠ vv := Nat.ne_of_lt (Nat.lt_of_lt_of_le htl o_vv)
  have ne_ii_kk : ii ≠ kk := Nat.ne_of_lt (Nat.lt_of_lt_of_le hil o_kk)
  have ne_ii_vv : ii ≠ vv := Nat.ne_of_lt (Nat.lt_of_lt_of_le hil o_vv)
  have ne_a1_kk : a1 ≠ kk := Nat.ne_of_lt (Nat.lt_of_lt_of_le hal o_kk)
  have ne_a1_vv : a1 ≠ vv := Nat.ne_of_lt (Nat.lt_of_lt_of_le hal o_vv)
  refine own_astoreN W4 20 #[.val (.ref a1), .val (.ref o), .unset] d7_19 rfl rfl rfl ?_
  refine own_iconst W4 (0 : Int32) 21 d7_20 rfl rfl ?_
  refine own_istoreN W4 22 #[.val (.ref a1), .val (.ref o), .val (.int (0 : Int32))] d7_21 rfl rfl ?_
  refine own_iloadN W4 23 d7_22 rfl rfl ?_
  refine own_aloadN W4 24 d7_23 rfl rfl rfl ?_
  refine own_getfield W4 27 d7_24 (wd27 hw) F_count_a1 rfl ?_
  intro T5 W5
  show own_Go p e below C T5 (mkF m 27 #[.val (.ref a1), .val (.ref o), .val (.int (0 : Int32))] [(.int (3 : Int32)), (.int (0 : Int32))])
  refine own_icmpN W5 30 d7_27 ((tlt (by decide : (0 : Int32) < (3 : Int32))).2.1) rfl ?_
  refine own_aloadN W5 31 d7_30 rfl rfl rfl ?_
  refine own_aloadN W5 32 d7_31 rfl rfl rfl ?_
  refine own_getfield W5 35 d7_32 (wd18 hw) F_times_a1 rfl ?_
  intro T6 W6
  show own_Go p e below C T6 (mkF m 35 #[.val (.ref a1), .val (.ref o), .val (.int (0 : Int32))] [(.ref tt), (.ref o)])
  refine own_iloadN W6 36 d7_35 rfl rfl ?_
  refine own_laload W6 0 (tm 0) 37 d7_36 V_tt rfl (by decide) rfl rfl ?_
  refine own_aloadN W6 38 d7_37 rfl rfl rfl ?_
  refine own_getfield W6 41 d7_38 (wd20 hw) F_indices_a1 rfl ?_
  intro T7 W7
  show own_Go p e below C T7 (mkF m 41 #[.val (.ref a1), .val (.ref o), .val (.int (0 : Int32))] [(.ref ii), (.long (tm 0)), (.ref o)])
  refine own_iloadN W7 42 d7_41 rfl rfl ?_
  refine own_iaload W7 0 (ix 0) 43 d7_42 V_ii rfl (by decide) rfl rfl ?_
  refine own_i2l W7 44 d7_43 rfl ?_
  refine own_callV W7 (A := [(.long (tm 0)), (.long (ix 0).toInt64)]) (wt := 0) (pc' := 47) (st := []) d7_44 (wd65 hw) (wd66 hw) (own_nf W7 (wd68 hw)) (wd68 hw) (wd67 hw) (wd56 hw) (wd69 hw) (by decide) X_o (own_m9 l Z a0 hw [] h4 o (tm 0) (ix 0).toInt64 kk vv (fun _ => 0) (fun _ => 0) 0 (0 : Int32) X_o F_keys_o F_values_o F_size_o V_kk V_vv ne_o_kk ne_o_vv ne_k_v rfl (by decide)) (allS (Or.inr o_o) (allS (Or.inr (Nat.le_trans (Nat.le_trans o_o (Nat.le_of_lt hol)) o_kk)) (allS (Or.inr (Nat.le_trans (Nat.le_trans o_o (Nat.le_of_lt hol)) o_vv)) all0))) rfl pd_3 rfl (Nat.le_of_eq rfl) (by decide) (by decide) (by decide) (by decide) rfl ?_
  rintro T8 h8 _ W8 K8 P8 ⟨rfl, ⟨F_keys_o, F_values_o, F_size_o, V_kk, V_vv⟩⟩
  have X_a1 := X_a1.keep K8
  have F_times_a1 := F_times_a1.keep K8 (ninS ne_a1_o (ninS ne_a1_kk (ninS ne_a1_vv nin0)))
  have F_indices_a1 := F_indices_a1.keep K8 (ninS ne_a1_o (ninS ne_a1_kk (ninS ne_a1_vv nin0)))
  have F_count_a1 := F_count_a1.keep K8 (ninS ne_a1_o (ninS ne_a1_kk (ninS ne_a1_vv nin0)))
  have F_first_a1 := F_first_a1.keep K8 (ninS ne_a1_o (ninS ne_a1_kk (ninS ne_a1_vv nin0)))
  have F_inOrder_a1 := F_inOrder_a1.keep K8 (ninS ne_a1_o (ninS ne_a1_kk (ninS ne_a1_vv nin0)))
  have F_later_a1 := F_later_a1.keep K8 (ninS ne_a1_o (ninS ne_a1_kk (ninS ne_a1_vv nin0)))
  have V_tt := V_tt.keep K8 (ninS ne_tt_o (ninS ne_tt_kk (ninS ne_tt_vv nin0)))
  have V_ii := V_ii.keep K8 (ninS ne_ii_o (ninS ne_ii_kk (ninS ne_ii_vv nin0)))
  have X_o := X_o.keep K8
  show own_Go p e below C T8 (mkF m 47 #[.val (.ref a1), .val (.ref o), .val (.int (0 : Int32))] [])
  have V_kk : own_A Z h8 kk .long 3 (fun j => .long ((own_p1 tm ix).1 j)) := V_kk
  have V_vv : own_A Z h8 vv .long 3 (fun j => .long ((own_p1 tm ix).2 j)) := V_vv
  have F_size_o : Fld Z h8 o "com/example/queueloom/queueloom/engine/LongPairHeap" "size" "I" (.int (1 : Int32)) := F_size_o
  refine own_iinc W8 (1 : Int32) 50 #[.val (.ref a1), .val (.ref o), .val (.int (1 : Int32))] d7_47 rfl rfl rfl rfl ?_
  refine own_goto W8 22 d7_50 (by decide) (by decide) ?_
  refine own_iloadN W8 23 d7_22 rfl rfl ?_
  refine own_aloadN W8 24 d7_23 rfl rfl rfl ?_
  refine own_getfield W8 27 d7_24 (wd27 hw) F_count_a1 rfl ?_
  intro T9 W9
  show own_Go p e below C T9 (mkF m 27 #[.val (.ref a1), .val (.ref o), .val (.int (1 : Int32))] [(.int (3 : Int32)), (.int (1 : Int32))])
  refine own_icmpN W9 30 d7_27 ((tlt (by decide : (1 : Int32) < (3 : Int32))).2.1) rfl ?_
  refine own_aloadN W9 31 d7_30 rfl rfl rfl ?_
  refine own_aloadN W9 32 d7_31 rfl rfl rfl ?_
  refine own_getfield W9 35 d7_32 (wd18 hw) F_times_a1 rfl ?_
  intro T10 W10
  show own_Go p e below C T10 (mkF m 35 #[.val (.ref a1), .val (.ref o), .val (.int (1 : Int32))] [(.ref tt), (.ref o)])
  refine own_iloadN W10 36 d7_35 rfl rfl ?_
  refine own_laload W10 1 (tm 1) 37 d7_36 V_tt rfl (by decide) rfl rfl ?_
  refine own_aloadN W10 38 d7_37 rfl rfl rfl ?_
  refine own_getfield W10 41 d7_38 (wd20 hw) F_indices_a1 rfl ?_
  intro T11 W11
  show own_Go p e below C T11 (mkF m 41 #[.val (.ref a1), .val (.ref o), .val (.int (1 : Int32))] [(.ref ii), (.long (tm 1)), (.ref o)])
  refine own_iloadN W11 42 d7_41 rfl rfl ?_
  refine own_iaload W11 1 (ix 1) 43 d7_42 V_ii rfl (by decide) rfl rfl ?_
  refine own_i2l W11 44 d7_43 rfl ?_
  refine own_callV W11 (A := [(.long (tm 1)), (.long (ix 1).toInt64)]) (wt := 0) (pc' := 47) (st := []) d7_44 (wd65 hw) (wd66 hw) (own_nf W11 (wd68 hw)) (wd68 hw) (wd67 hw) (wd56 hw) (wd69 hw) (by decide) X_o (own_m9 l Z a0 hw [] h8 o (tm 1) (ix 1).toInt64 kk vv (own_p1 tm ix).1 (own_p1 tm ix).2 1 (1 : Int32) X_o F_keys_o F_values_o F_size_o V_kk V_vv ne_o_kk ne_o_vv ne_k_v rfl (by decide)) (allS (Or.inr o_o) (allS (Or.inr (Nat.le_trans (Nat.le_trans o_o (Nat.le_of_lt hol)) o_kk)) (allS (Or.inr (Nat.le_trans (Nat.le_trans o_o (Nat.le_of_lt hol)) o_vv)) all0))) rfl pd_3 rfl (Nat.le_of_eq rfl) (by decide) (by decide) (by decide) (by decide) rfl ?_
  rintro T12 h12 _ W12 K12 P12 ⟨rfl, ⟨F_keys_o, F_values_o, F_size_o, V_kk, V_vv⟩⟩
  have X_a1 := X_a1.keep K12
  have F_times_a1 := F_times_a1.keep K12 (ninS ne_a1_o (ninS ne_a1_kk (ninS ne_a1_vv nin0)))
  have F_indices_a1 := F_indices_a1.keep K12 (ninS ne_a1_o (ninS ne_a1_kk (ninS ne_a1_vv nin0)))
  have F_count_a1 := F_count_a1.keep K12 (ninS ne_a1_o (ninS ne_a1_kk (ninS ne_a1_vv nin0)))
  have F_first_a1 := F_first_a1.keep K12 (ninS ne_a1_o (ninS ne_a1_kk (ninS ne_a1_vv nin0)))
  have F_inOrder_a1 := F_inOrder_a1.keep K12 (ninS ne_a1_o (ninS ne_a1_kk (ninS ne_a1_vv nin0)))
  have F_later_a1 := F_later_a1.keep K12 (ninS ne_a1_o (ninS ne_a1_kk (ninS ne_a1_vv nin0)))
  have V_tt := V_tt.keep K12 (ninS ne_tt_o (ninS ne_tt_kk (ninS ne_tt_vv nin0)))
  have V_ii := V_ii.keep K12 (ninS ne_ii_o (ninS ne_ii_kk (ninS ne_ii_vv nin0)))
  have X_o := X_o.keep K12
  show own_Go p e below C T12 (mkF m 47 #[.val (.ref a1), .val (.ref o), .val (.int (1 : Int32))] [])
  have V_kk : own_A Z h12 kk .long 3 (fun j => .long ((own_p2 tm ix).1 j)) := V_kk
  have V_vv : own_A Z h12 vv .long 3 (fun j => .long ((own_p2 tm ix).2 j)) := V_vv
  have F_size_o : Fld Z h12 o "com/example/queueloom/queueloom/engine/LongPairHeap" "size" "I" (.int (2 : Int32)) := F_size_o
  refine own_iinc W12 (2 : Int32) 50 #[.val (.ref a1), .val (.ref o), .val (.int (2 : Int32))] d7_47 rfl rfl rfl rfl ?_
  refine own_goto W12 22 d7_50 (by decide) (by decide) ?_
  refine own_iloadN W12 23 d7_22 rfl rfl ?_
  refine own_aloadN W12 24 d7_23 rfl rfl rfl ?_
  refine own_getfield W12 27 d7_24 (wd27 hw) F_count_a1 rfl ?_
  intro T13 W13
  show own_Go p e below C T13 (mkF m 27 #[.val (.ref a1), .val (.ref o), .val (.int (2 : Int32))] [(.int (3 : Int32)), (.int (2 : Int32))])
  refine own_icmpN W13 30 d7_27 ((tlt (by decide : (2 : Int32) < (3 : Int32))).2.1) rfl ?_
  refine own_aloadN W13 31 d7_30 rfl rfl rfl ?_
  refine own_aloadN W13 32 d7_31 rfl rfl rfl ?_
  refine own_getfield W13 35 d7_32 (wd18 hw) F_times_a1 rfl ?_
  intro T14 W14
  show own_Go p e below C T14 (mkF m 35 #[.val (.ref a1), .val (.ref o), .val (.int (2 : Int32))] [(.ref tt), (.ref o)])
  refine own_iloadN W14 36 d7_35 rfl rfl ?_
  refine own_laload W14 2 (tm 2) 37 d7_36 V_tt rfl (by decide) rfl rfl ?_
  refine own_aloadN W14 38 d7_37 rfl rfl rfl ?_
  refine own_getfield W14 41 d7_38 (wd20 hw) F_indices_a1 rfl ?_
  intro T15 W15
  show own_Go p e below C T15 (mkF m 41 #[.val (.ref a1), .val (.ref o), .val (.int (2 : Int32))] [(.ref ii), (.long (tm 2)), (.ref o)])
  refine own_iloadN W15 42 d7_41 rfl rfl ?_
  refine own_iaload W15 2 (ix 2) 43 d7_42 V_ii rfl (by decide) rfl rfl ?_
  refine own_i2l W15 44 d7_43 rfl ?_
  refine own_callV W15 (A := [(.long (tm 2)), (.long (ix 2).toInt64)]) (wt := 0) (pc' := 47) (st := []) d7_44 (wd65 hw) (wd66 hw) (own_nf W15 (wd68 hw)) (wd68 hw) (wd67 hw) (wd56 hw) (wd69 hw) (by decide) X_o (own_m9 l Z a0 hw [] h12 o (tm 2) (ix 2).toInt64 kk vv (own_p2 tm ix).1 (own_p2 tm ix).2 2 (2 : Int32) X_o F_keys_o F_values_o F_size_o V_kk V_vv ne_o_kk ne_o_vv ne_k_v rfl (by decide)) (allS (Or.inr o_o) (allS (Or.inr (Nat.le_trans (Nat.le_trans o_o (Nat.le_of_lt hol)) o_kk)) (allS (Or.inr (Nat.le_trans (Nat.le_trans o_o (Nat.le_of_lt hol)) o_vv)) all0))) rfl pd_3 rfl (Nat.le_of_eq rfl) (by decide) (by decide) (by decide) (by decide) rfl ?_
  rintro T16 h16 _ W16 K16 P16 ⟨rfl, ⟨F_keys_o, F_values_o, F_size_o, V_kk, V_vv⟩⟩
  have X_a1 := X_a1.keep K16
  have F_times_a1 := F_times_a1.keep K16 (ninS ne_a1_o (ninS ne_a1_kk (ninS ne_a1_vv nin0)))
  have F_indices_a1 := F_indices_a1.keep K16 (ninS ne_a1_o (ninS ne_a1_kk (ninS ne_a1_vv nin0)))
  have F_count_a1 := F_count_a1.keep K16 (ninS ne_a1_o (ninS ne_a1_kk (ninS ne_a1_vv nin0)))
  have F_first_a1 := F_first_a1.keep K16 (ninS ne_a1_o (ninS ne_a1_kk (ninS ne_a1_vv nin0)))
  have F_inOrder_a1 := F_inOrder_a1.keep K16 (ninS ne_a1_o (ninS ne_a1_kk (ninS ne_a1_vv nin0)))
  have F_later_a1 := F_later_a1.keep K16 (ninS ne_a1_o (ninS ne_a1_kk (ninS ne_a1_vv nin0)))
  have V_tt := V_tt.keep K16 (ninS ne_tt_o (ninS ne_tt_kk (ninS ne_tt_vv nin0)))
  have V_ii := V_ii.keep K16 (ninS ne_ii_o (ninS ne_ii_kk (ninS ne_ii_vv nin0)))
  have X_o := X_o.keep K16
  show own_Go p e below C T16 (mkF m 47 #[.val (.ref a1), .val (.ref o), .val (.int (2 : Int32))] [])
  have V_kk : own_A Z h16 kk .long 3 (fun j => .long ((own_p3 tm ix).1 j)) := V_kk
  have V_vv : own_A Z h16 vv .long 3 (fun j => .long ((own_p3 tm ix).2 j)) := V_vv
  have F_size_o : Fld Z h16 o "com/example/queueloom/queueloom/engine/LongPairHeap" "size" "I" (.int (3 : Int32)) := F_size_o
  refine own_iinc W16 (3 : Int32) 50 #[.val (.ref a1), .val (.ref o), .val (.int (3 : Int32))] d7_47 rfl rfl rfl rfl ?_
  refine own_goto W16 22 d7_50 (by decide) (by decide) ?_
  refine own_iloadN W16 23 d7_22 rfl rfl ?_
  refine own_aloadN W16 24 d7_23 rfl rfl rfl ?_
  refine own_getfield W16 27 d7_24 (wd27 hw) F_count_a1 rfl ?_
  intro T17 W17
  show own_Go p e below C T17 (mkF m 27 #[.val (.ref a1), .val (.ref o), .val (.int (3 : Int32))] [(.int (3 : Int32)), (.int (3 : Int32))])
  refine own_icmpY W17 53 d7_27 ((flt (by decide : ¬ ((3 : Int32) < (3 : Int32)))).2.1) (by decide) (by decide) ?_
  refine own_iconst W17 (0 : Int32) 54 d7_53 rfl rfl ?_
  refine own_istoreN W17 55 #[.val (.ref a1), .val (.ref o), .val (.int (0 : Int32))] d7_54 rfl rfl ?_
  refine own_iloadN W17 56 d7_55 rfl rfl ?_
  refine own_aloadN W17 57 d7_56 rfl rfl rfl ?_
  refine own_getfield W17 60 d7_57 (wd27 hw) F_count_a1 rfl ?_
  intro T18 W18
  show own_Go p e below C T18 (mkF m 60 #[.val (.ref a1), .val (.ref o), .val (.int (0 : Int32))] [(.int (3 : Int32)), (.int (0 : Int32))])
  refine own_icmpN W18 63 d7_60 ((tlt (by decide : (0 : Int32) < (3 : Int32))).2.1) rfl ?_
  refine own_aloadN W18 64 d7_63 rfl rfl rfl ?_
  refine own_getfield W18 67 d7_64 (wd18 hw) F_times_a1 rfl ?_
  intro T19 W19
  show own_Go p e below C T19 (mkF m 67 #[.val (.ref a1), .val (.ref o), .val (.int (0 : Int32))] [(.ref tt)])
  refine own_iloadN W19 68 d7_67 rfl rfl ?_
  refine own_aloadN W19 69 d7_68 rfl rfl rfl ?_
  refine own_callV W19 (A := []) (wt := 2) (pc' := 72) (st := [(.int (0 : Int32)), (.ref tt)]) d7_69 (wd72 hw) (wd73 hw) (own_nf W19 (wd75 hw)) (wd75 hw) (wd74 hw) (wd56 hw) (wd76 hw) (by decide) X_o (own_m10 l Z a0 hw [] h16 o kk vv (own_p3 tm ix).1 (own_p3 tm ix).2 (3 : Int32) F_keys_o F_values_o F_size_o V_kk V_vv) all0 rfl pd_4 rfl (Nat.le_of_eq rfl) (by decide) (by decide) (by decide) (by decide) rfl ?_
  rintro T20 h20 _ W20 K20 P20 rfl
  rw [P20 rfl rfl] at W20
  show own_Go p e below C T20 (mkF m 72 #[.val (.ref a1), .val (.ref o), .val (.int (0 : Int32))] [(.long ((own_p3 tm ix).1 0)), (.int (0 : Int32)), (.ref tt)])
  refine own_lastore W20 0 73 d7_72 V_tt (Or.inl (List.mem_of_getElem? (i := 1) rfl)) rfl (by decide) rfl ?_
  intro T21 h21 W21 Wr21 V_tt
  have X_a1 := X_a1.wr Wr21
  have F_times_a1 := F_times_a1.other Wr21 (Or.inl ne_a_t)
  have F_indices_a1 := F_indices_a1.other Wr21 (Or.inl ne_a_t)
  have F_count_a1 := F_count_a1.other Wr21 (Or.inl ne_a_t)
  have F_first_a1 := F_first_a1.other Wr21 (Or.inl ne_a_t)
  have F_inOrder_a1 := F_inOrder_a1.other Wr21 (Or.inl ne_a_t)
  have F_later_a1 := F_later_a1.other Wr21 (Or.inl ne_a_t)
  have V_ii := V_ii.other Wr21 (Ne.symm ne_t_i)
  have X_o := X_o.wr Wr21
  have F_keys_o := F_keys_o.other Wr21 (Or.inl (Ne.symm ne_tt_o))
  have F_values_o := F_values_o.other Wr21 (Or.inl (Ne.symm ne_tt_o))
  have F_size_o := F_size_o.other Wr21 (Or.inl (Ne.symm ne_tt_o))
  have V_kk := V_kk.other Wr21 (Ne.symm ne_tt_kk)
  have V_vv := V_vv.other Wr21 (Ne.symm ne_tt_vv)
  show own_Go p e below C T21 (mkF m 73 #[.val (.ref a1), .val (.ref o), .val (.int (0 : Int32))] [])
  refine own_aloadN W21 74 d7_73 rfl rfl rfl ?_
  refine own_getfield W21 77 d7_74 (wd20 hw) F_indices_a1 rfl ?_
  intro T22 W22
  show own_Go p e below C T22 (mkF m 77 #[.val (.ref a1), .val (.ref o), .val (.int (0 : Int32))] [(.ref ii)])
  refine own_iloadN W22 78 d7_77 rfl rfl ?_
  refine own_aloadN W22 79 d7_78 rfl rfl rfl ?_
  refine own_callV W22 (A := []) (wt := 2) (pc' := 82) (st := [(.int (0 : Int32)), (.ref ii)]) d7_79 (wd77 hw) (wd78 hw) (own_nf W22 (wd80 hw)) (wd80 hw) (wd79 hw) (wd56 hw) (wd81 hw) (by decide) X_o (own_m11 l Z a0 hw [] h21 o kk vv (own_p3 tm ix).1 (own_p3 tm ix).2 (3 : Int32) F_keys_o F_values_o F_size_o V_kk V_vv) all0 rfl pd_4 rfl (Nat.le_of_eq rfl) (by decide) (by decide) (by decide) (by decide) rfl ?_
  rintro T23 h23 _ W23 K23 P23 rfl
  rw [P23 rfl rfl] at W23
  show own_Go p e below C T23 (mkF m 82 #[.val (.ref a1), .val (.ref o), .val (.int (0 : Int32))] [(.long ((own_p3 tm ix).2 0)), (.int (0 : Int32)), (.ref ii)])
  refine own_l2i W23 83 d7_82 rfl ?_
  refine own_iastore W23 0 84 d7_83 V_ii (Or.inl (List.mem_of_getElem? (i := 2) rfl)) rfl (by decide) rfl ?_
  intro T24 h24 W24 Wr24 V_ii
  have X_a1 := X_a1.wr Wr24
  have F_times_a1 := F_times_a1.other Wr24 (Or.inl ne_a_i)
  have F_indices_a1 := F_indices_a1.other Wr24 (Or.inl ne_a_i)
  have F_count_a1 := F_count_a1.other Wr24 (Or.inl ne_a_i)
  have F_first_a1 := F_first_a1.other Wr24 (Or.inl ne_a_i)
  have F_inOrder_a1 := F_inOrder_a1.other Wr24 (Or.inl ne_a_i)
  have F_later_a1 := F_later_a1.other Wr24 (Or.inl ne_a_i)
  have V_tt := V_tt.other Wr24 ne_t_i
  have X_o := X_o.wr Wr24
  have F_keys_o := F_keys_o.other Wr24 (Or.inl (Ne.symm ne_ii_o))
  have F_values_o := F_values_o.other Wr24 (Or.inl (Ne.symm ne_ii_o))
  have F_size_o := F_size_o.other Wr24 (Or.inl (Ne.symm ne_ii_o))
  have V_kk := V_kk.other Wr24 (Ne.symm ne_ii_kk)
  have V_vv := V_vv.other Wr24 (Ne.symm ne_ii_vv)
  show own_Go p e below C T24 (mkF m 84 #[.val (.ref a1), .val (.ref o), .val (.int (0 : Int32))] [])
  refine own_aloadN W24 85 d7_84 rfl rfl rfl ?_
  refine own_callV W24 (A := []) (wt := 0) (pc' := 88) (st := []) d7_85 (wd82 hw) (wd83 hw) (own_nf W24 (wd85 hw)) (wd85 hw) (wd84 hw) (wd56 hw) (wd86 hw) (by decide) X_o (own_m12 l Z a0 hw [] h24 o kk vv (own_p3 tm ix).1 (own_p3 tm ix).2 3 (3 : Int32) X_o F_keys_o F_values_o F_size_o V_kk V_vv ne_o_kk ne_o_vv ne_k_v rfl (by decide) (by decide)) (allS (Or.inr o_o) (allS (Or.inr (Nat.le_trans (Nat.le_trans o_o (Nat.le_of_lt hol)) o_kk)) (allS (Or.inr (Nat.le_trans (Nat.le_trans o_o (Nat.le_of_lt hol)) o_vv)) all0))) rfl pd_5 rfl (Nat.le_of_eq rfl) (by decide) (by decide) (by decide) (by decide) rfl ?_
  rintro T25 h25 _ W25 K25 P25 ⟨rfl, ⟨F_keys_o, F_values_o, F_size_o, V_kk, V_vv⟩⟩
  have X_a1 := X_a1.keep K25
  have F_times_a1 := F_times_a1.keep K25 (ninS ne_a1_o (ninS ne_a1_kk (ninS ne_a1_vv nin0)))
  have F_indices_a1 := F_indices_a1.keep K25 (ninS ne_a1_o (ninS ne_a1_kk (ninS ne_a1_vv nin0)))
  have F_count_a1 := F_count_a1.keep K25 (ninS ne_a1_o (ninS ne_a1_kk (ninS ne_a1_vv nin0)))
  have F_first_a1 := F_first_a1.keep K25 (ninS ne_a1_o (ninS ne_a1_kk (ninS ne_a1_vv nin0)))
  have F_inOrder_a1 := F_inOrder_a1.keep K25 (ninS ne_a1_o (ninS ne_a1_kk (ninS ne_a1_vv nin0)))
  have F_later_a1 := F_later_a1.keep K25 (ninS ne_a1_o (ninS ne_a1_kk (ninS ne_a1_vv nin0)))
  have V_tt := V_tt.keep K25 (ninS ne_tt_o (ninS ne_tt_kk (ninS ne_tt_vv nin0)))
  have V_ii := V_ii.keep K25 (ninS ne_ii_o (ninS ne_ii_kk (ninS ne_ii_vv nin0)))
  have X_o := X_o.keep K25
  show own_Go p e below C T25 (mkF m 88 #[.val (.ref a1), .val (.ref o), .val (.int (0 : Int32))] [])
  have V_kk : own_A Z h25 kk .long 3 (fun j => .long ((own_rm (own_p3 tm ix) 3).1 j)) := V_kk
  have V_vv : own_A Z h25 vv .long 3 (fun j => .long ((own_rm (own_p3 tm ix) 3).2 j)) := V_vv
  have F_size_o : Fld Z h25 o "com/example/queueloom/queueloom/engine/LongPairHeap" "size" "I" (.int (2 : Int32)) := F_size_o
  refine own_iinc W25 (1 : Int32) 91 #[.val (.ref a1), .val (.ref o), .val (.int (1 : Int32))] d7_88 rfl rfl rfl rfl ?_
  refine own_goto W25 55 d7_91 (by decide) (by decide) ?_
  refine own_iloadN W25 56 d7_55 rfl rfl ?_
  refine own_aloadN W25 57 d7_56 rfl rfl rfl ?_
  refine own_getfield W25 60 d7_57 (wd27 hw) F_count_a1 rfl ?_
  intro T26 W26
  show own_Go p e below C T26 (mkF m 60 #[.val (.ref a1), .val (.ref o), .val (.int (1 : Int32))] [(.int (3 : Int32)), (.int (1 : Int32))])
  refine own_icmpN W26 63 d7_60 ((tlt (by decide : (1 : Int32) < (3 : Int32))).2.1) rfl ?_
  refine own_aloadN W26 64 d7_63 rfl rfl rfl ?_
  refine own_getfield W26 67 d7_64 (wd18 hw) F_times_a1 rfl ?_
  intro T27 W27
  show own_Go p e below C T27 (mkF m 67 #[.val (.ref a1), .val (.ref o), .val (.int (1 : Int32))] [(.ref tt)])
  refine own_iloadN W27 68 d7_67 rfl rfl ?_
  refine own_aloadN W27 69 d7_68 rfl rfl rfl ?_
  refine own_callV W27 (A := []) (wt := 2) (pc' := 72) (st := [(.int (1 : Int32)), (.ref tt)]) d7_69 (wd72 hw) (wd73 hw) (own_nf W27 (wd75 hw)) (wd75 hw) (wd74 hw) (wd56 hw) (wd76 hw) (by decide) X_o (own_m10 l Z a0 hw [] h25 o kk vv (own_q1 tm ix).1 (own_q1 tm ix).2 (2 : Int32) F_keys_o F_values_o F_size_o V_kk V_vv) all0 rfl pd_4 rfl (Nat.le_of_eq rfl) (by decide) (by decide) (by decide) (by decide) rfl ?_
  rintro T28 h28 _ W28 K28 P28 rfl
  rw [P28 rfl rfl] at W28
  show own_Go p e below C T28 (mkF m 72 #[.val (.ref a1), .val (.ref o), .val (.int (1 : Int32))] [(.long ((own_q1 tm ix).1 0)), (.int (1 : Int32)), (.ref tt)])
  refine own_lastore W28 1 73 d7_72 V_tt (Or.inl (List.mem_of_getElem? (i := 1) rfl)) rfl (by decide) rfl ?_
  intro T29 h29 W29 Wr29 V_tt
  have X_a1 := X_a1.wr Wr29
  have F_times_a1 := F_times_a1.other Wr29 (Or.inl ne_a_t)
  have F_indices_a1 := F_indices_a1.other Wr29 (Or.inl ne_a_t)
  have F_count_a1 := F_count_a1.other Wr29 (Or.inl ne_a_t)
  have F_first_a1 := F_first_a1.other Wr29 (Or.inl ne_a_t)
  have F_inOrder_a1 := F_inOrder_a1.other Wr29 (Or.inl ne_a_t)
  have F_later_a1 := F_later_a1.other Wr29 (Or.inl ne_a_t)
  have V_ii := V_ii.other Wr29 (Ne.symm ne_t_i)
  have X_o := X_o.wr Wr29
  have F_keys_o := F_keys_o.other Wr29 (Or.inl (Ne.symm ne_tt_o))
  have F_values_o := F_values_o.other Wr29 (Or.inl (Ne.symm ne_tt_o))
  have F_size_o := F_size_o.other Wr29 (Or.inl (Ne.symm ne_tt_o))
  have V_kk := V_kk.other Wr29 (Ne.symm ne_tt_kk)
  have V_vv := V_vv.other Wr29 (Ne.symm ne_tt_vv)
  show own_Go p e below C T29 (mkF m 73 #[.val (.ref a1), .val (.ref o), .val (.int (1 : Int32))] [])
  refine own_aloadN W29 74 d7_73 rfl rfl rfl ?_
  refine own_getfield W29 77 d7_74 (wd20 hw) F_indices_a1 rfl ?_
  intro T30 W30
  show own_Go p e below C T30 (mkF m 77 #[.val (.ref a1), .val (.ref o), .val (.int (1 : Int32))] [(.ref ii)])
  refine own_iloadN W30 78 d7_77 rfl rfl ?_
  refine own_aloadN W30 79 d7_78 rfl rfl rfl ?_
  refine own_callV W30 (A := []) (wt := 2) (pc' := 82) (st := [(.int (1 : Int32)), (.ref ii)]) d7_79 (wd77 hw) (wd78 hw) (own_nf W30 (wd80 hw)) (wd80 hw) (wd79 hw) (wd56 hw) (wd81 hw) (by decide) X_o (own_m11 l Z a0 hw [] h29 o kk vv (own_q1 tm ix).1 (own_q1 tm ix).2 (2 : Int32) F_keys_o F_values_o F_size_o V_kk V_vv) all0 rfl pd_4 rfl (Nat.le_of_eq rfl) (by decide) (by decide) (by decide) (by decide) rfl ?_
  rintro T31 h31 _ W31 K31 P31 rfl
  rw [P31 rfl rfl] at W31
  show own_Go p e below C T31 (mkF m 82 #[.val (.ref a1), .val (.ref o), .val (.int (1 : Int32))] [(.long ((own_q1 tm ix).2 0)), (.int (1 : Int32)), (.ref ii)])
  refine own_l2i W31 83 d7_82 rfl ?_
  refine own_iastore W31 1 84 d7_83 V_ii (Or.inl (List.mem_of_getElem? (i := 2) rfl)) rfl (by decide) rfl ?_
  intro T32 h32 W32 Wr32 V_ii
  have X_a1 := X_a1.wr Wr32
  have F_times_a1 := F_times_a1.other Wr32 (Or.inl ne_a_i)
  have F_indices_a1 := F_indices_a1.other Wr32 (Or.inl ne_a_i)
  have F_count_a1 := F_count_a1.other Wr32 (Or.inl ne_a_i)
  have F_first_a1 := F_first_a1.other Wr32 (Or.inl ne_a_i)
  have F_inOrder_a1 := F_inOrder_a1.other Wr32 (Or.inl ne_a_i)
  have F_later_a1 := F_later_a1.other Wr32 (Or.inl ne_a_i)
  have V_tt := V_tt.other Wr32 ne_t_i
  have X_o := X_o.wr Wr32
  have F_keys_o := F_keys_o.other Wr32 (Or.inl (Ne.symm ne_ii_o))
  have F_values_o := F_values_o.other Wr32 (Or.inl (Ne.symm ne_ii_o))
  have F_size_o := F_size_o.other Wr32 (Or.inl (Ne.symm ne_ii_o))
  have V_kk := V_kk.other Wr32 (Ne.symm ne_ii_kk)
  have V_vv := V_vv.other Wr32 (Ne.symm ne_ii_vv)
  show own_Go p e below C T32 (mkF m 84 #[.val (.ref a1), .val (.ref o), .val (.int (1 : Int32))] [])
  refine own_aloadN W32 85 d7_84 rfl rfl rfl ?_
  refine own_callV W32 (A := []) (wt := 0) (pc' := 88) (st := []) d7_85 (wd82 hw) (wd83 hw) (own_nf W32 (wd85 hw)) (wd85 hw) (wd84 hw) (wd56 hw) (wd86 hw) (by decide) X_o (own_m12 l Z a0 hw [] h32 o kk vv (own_q1 tm ix).1 (own_q1 tm ix).2 2 (2 : Int32) X_o F_keys_o F_values_o F_size_o V_kk V_vv ne_o_kk ne_o_vv ne_k_v rfl (by decide) (by decide)) (allS (Or.inr o_o) (allS (Or.inr (Nat.le_trans (Nat.le_trans o_o (Nat.le_of_lt hol)) o_kk)) (allS (Or.inr (Nat.le_trans (Nat.le_trans o_o (Nat.le_of_lt hol)) o_vv)) all0))) rfl pd_5 rfl (Nat.le_of_eq rfl) (by decide) (by decide) (by decide) (by decide) rfl ?_
  rintro T33 h33 _ W33 K33 P33 ⟨rfl, ⟨F_keys_o, F_values_o, F_size_o, V_kk, V_vv⟩⟩
  have X_a1 := X_a1.keep K33
  have F_times_a1 := F_times_a1.keep K33 (ninS ne_a1_o (ninS ne_a1_kk (ninS ne_a1_vv nin0)))
  have F_indices_a1 := F_indices_a1.keep K33 (ninS ne_a1_o (ninS ne_a1_kk (ninS ne_a1_vv nin0)))
  have F_count_a1 := F_count_a1.keep K33 (ninS ne_a1_o (ninS ne_a1_kk (ninS ne_a1_vv nin0)))
  have F_first_a1 := F_first_a1.keep K33 (ninS ne_a1_o (ninS ne_a1_kk (ninS ne_a1_vv nin0)))
  have F_inOrder_a1 := F_inOrder_a1.keep K33 (ninS ne_a1_o (ninS ne_a1_kk (ninS ne_a1_vv nin0)))
  have F_later_a1 := F_later_a1.keep K33 (ninS ne_a1_o (ninS ne_a1_kk (ninS ne_a1_vv nin0)))
  have V_tt := V_tt.keep K33 (ninS ne_tt_o (ninS ne_tt_kk (ninS ne_tt_vv nin0)))
  have V_ii := V_ii.keep K33 (ninS ne_ii_o (ninS ne_ii_kk (ninS ne_ii_vv nin0)))
  have X_o := X_o.keep K33
  show own_Go p e below C T33 (mkF m 88 #[.val (.ref a1), .val (.ref o), .val (.int (1 : Int32))] [])
  have V_kk : own_A Z h33 kk .long 3 (fun j => .long ((own_rm (own_q1 tm ix) 2).1 j)) := V_kk
  have V_vv : own_A Z h33 vv .long 3 (fun j => .long ((own_rm (own_q1 tm ix) 2).2 j)) := V_vv
  have F_size_o : Fld Z h33 o "com/example/queueloom/queueloom/engine/LongPairHeap" "size" "I" (.int (1 : Int32)) := F_size_o
  refine own_iinc W33 (2 : Int32) 91 #[.val (.ref a1), .val (.ref o), .val (.int (2 : Int32))] d7_88 rfl rfl rfl rfl ?_
  refine own_goto W33 55 d7_91 (by decide) (by decide) ?_
  refine own_iloadN W33 56 d7_55 rfl rfl ?_
  refine own_aloadN W33 57 d7_56 rfl rfl rfl ?_
  refine own_getfield W33 60 d7_57 (wd27 hw) F_count_a1 rfl ?_
  intro T34 W34
  show own_Go p e below C T34 (mkF m 60 #[.val (.ref a1), .val (.ref o), .val (.int (2 : Int32))] [(.int (3 : Int32)), (.int (2 : Int32))])
  refine own_icmpN W34 63 d7_60 ((tlt (by decide : (2 : Int32) < (3 : Int32))).2.1) rfl ?_
  refine own_aloadN W34 64 d7_63 rfl rfl rfl ?_
  refine own_getfield W34 67 d7_64 (wd18 hw) F_times_a1 rfl ?_
  intro T35 W35
  show own_Go p e below C T35 (mkF m 67 #[.val (.ref a1), .val (.ref o), .val (.int (2 : Int32))] [(.ref tt)])
  refine own_iloadN W35 68 d7_67 rfl rfl ?_
  refine own_aloadN W35 69 d7_68 rfl rfl rfl ?_
  refine own_callV W35 (A := []) (wt := 2) (pc' := 72) (st := [(.int (2 : Int32)), (.ref tt)]) d7_69 (wd72 hw) (wd73 hw) (own_nf W35 (wd75 hw)) (wd75 hw) (wd74 hw) (wd56 hw) (wd76 hw) (by decide) X_o (own_m10 l Z a0 hw [] h33 o kk vv (own_q2 tm ix).1 (own_q2 tm ix).2 (1 : Int32) F_keys_o F_values_o F_size_o V_kk V_vv) all0 rfl pd_4 rfl (Nat.le_of_eq rfl) (by decide) (by decide) (by decide) (by decide) rfl ?_
  rintro T36 h36 _ W36 K36 P36 rfl
  rw [P36 rfl rfl] at W36
  show own_Go p e below C T36 (mkF m 72 #[.val (.ref a1), .val (.ref o), .val (.int (2 : Int32))] [(.long ((own_q2 tm ix).1 0)), (.int (2 : Int32)), (.ref tt)])
  refine own_lastore W36 2 73 d7_72 V_tt (Or.inl (List.mem_of_getElem? (i := 1) rfl)) rfl (by decide) rfl ?_
  intro T37 h37 W37 Wr37 V_tt
  have X_a1 := X_a1.wr Wr37
  have F_times_a1 := F_times_a1.other Wr37 (Or.inl ne_a_t)
  have F_indices_a1 := F_indices_a1.other Wr37 (Or.inl ne_a_t)
  have F_count_a1 := F_count_a1.other Wr37 (Or.inl ne_a_t)
  have F_first_a1 := F_first_a1.other Wr37 (Or.inl ne_a_t)
  have F_inOrder_a1 := F_inOrder_a1.other Wr37 (Or.inl ne_a_t)
  have F_later_a1 := F_later_a1.other Wr37 (Or.inl ne_a_t)
  have V_ii := V_ii.other Wr37 (Ne.symm ne_t_i)
  have X_o := X_o.wr Wr37
  have F_keys_o := F_keys_o.other Wr37 (Or.inl (Ne.symm ne_tt_o))
  have F_values_o := F_values_o.other Wr37 (Or.inl (Ne.symm ne_tt_o))
  have F_size_o := F_size_o.other Wr37 (Or.inl (Ne.symm ne_tt_o))
  have V_kk := V_kk.other Wr37 (Ne.symm ne_tt_kk)
  have V_vv := V_vv.other Wr37 (Ne.symm ne_tt_vv)
  show own_Go p e below C T37 (mkF m 73 #[.val (.ref a1), .val (.ref o), .val (.int (2 : Int32))] [])
  refine own_aloadN W37 74 d7_73 rfl rfl rfl ?_
  refine own_getfield W37 77 d7_74 (wd20 hw) F_indices_a1 rfl ?_
  intro T38 W38
  show own_Go p e below C T38 (mkF m 77 #[.val (.ref a1), .val (.ref o), .val (.int (2 : Int32))] [(.ref ii)])
  refine own_iloadN W38 78 d7_77 rfl rfl ?_
  refine own_aloadN W38 79 d7_78 rfl rfl rfl ?_
  refine own_callV W38 (A := []) (wt := 2) (pc' := 82) (st := [(.int (2 : Int32)), (.ref ii)]) d7_79 (wd77 hw) (wd78 hw) (own_nf W38 (wd80 hw)) (wd80 hw) (wd79 hw) (wd56 hw) (wd81 hw) (by decide) X_o (own_m11 l Z a0 hw [] h37 o kk vv (own_q2 tm ix).1 (own_q2 tm ix).2 (1 : Int32) F_keys_o F_values_o F_size_o V_kk V_vv) all0 rfl pd_4 rfl (Nat.le_of_eq rfl) (by decide) (by decide) (by decide) (by decide) rfl ?_
  rintro T39 h39 _ W39 K39 P39 rfl
  rw [P39 rfl rfl] at W39
  show own_Go p e below C T39 (mkF m 82 #[.val (.ref a1), .val (.ref o), .val (.int (2 : Int32))] [(.long ((own_q2 tm ix).2 0)), (.int (2 : Int32)), (.ref ii)])
  refine own_l2i W39 83 d7_82 rfl ?_
  refine own_iastore W39 2 84 d7_83 V_ii (Or.inl (List.mem_of_getElem? (i := 2) rfl)) rfl (by decide) rfl ?_
  intro T40 h40 W40 Wr40 V_ii
  have X_a1 := X_a1.wr Wr40
  have F_times_a1 := F_times_a1.other Wr40 (Or.inl ne_a_i)
  have F_indices_a1 := F_indices_a1.other Wr40 (Or.inl ne_a_i)
  have F_count_a1 := F_count_a1.other Wr40 (Or.inl ne_a_i)
  have F_first_a1 := F_first_a1.other Wr40 (Or.inl ne_a_i)
  have F_inOrder_a1 := F_inOrder_a1.other Wr40 (Or.inl ne_a_i)
  have F_later_a1 := F_later_a1.other Wr40 (Or.inl ne_a_i)
  have V_tt := V_tt.other Wr40 ne_t_i
  have X_o := X_o.wr Wr40
  have F_keys_o := F_keys_o.other Wr40 (Or.inl (Ne.symm ne_ii_o))
  have F_values_o := F_values_o.other Wr40 (Or.inl (Ne.symm ne_ii_o))
  have F_size_o := F_size_o.other Wr40 (Or.inl (Ne.symm ne_ii_o))
  have V_kk := V_kk.other Wr40 (Ne.symm ne_ii_kk)
  have V_vv := V_vv.other Wr40 (Ne.symm ne_ii_vv)
  show own_Go p e below C T40 (mkF m 84 #[.val (.ref a1), .val (.ref o), .val (.int (2 : Int32))] [])
  refine own_aloadN W40 85 d7_84 rfl rfl rfl ?_
  refine own_callV W40 (A := []) (wt := 0) (pc' := 88) (st := []) d7_85 (wd82 hw) (wd83 hw) (own_nf W40 (wd85 hw)) (wd85 hw) (wd84 hw) (wd56 hw) (wd86 hw) (by decide) X_o (own_m12 l Z a0 hw [] h40 o kk vv (own_q2 tm ix).1 (own_q2 tm ix).2 1 (1 : Int32) X_o F_keys_o F_values_o F_size_o V_kk V_vv ne_o_kk ne_o_vv ne_k_v rfl (by decide) (by decide)) (allS (Or.inr o_o) (allS (Or.inr (Nat.le_trans (Nat.le_trans o_o (Nat.le_of_lt hol)) o_kk)) (allS (Or.inr (Nat.le_trans (Nat.le_trans o_o (Nat.le_of_lt hol)) o_vv)) all0))) rfl pd_5 rfl (Nat.le_of_eq rfl) (by decide) (by decide) (by decide) (by decide) rfl ?_
  rintro T41 h41 _ W41 K41 P41 ⟨rfl, ⟨F_keys_o, F_values_o, F_size_o, V_kk, V_vv⟩⟩
  have X_a1 := X_a1.keep K41
  have F_times_a1 := F_times_a1.keep K41 (ninS ne_a1_o (ninS ne_a1_kk (ninS ne_a1_vv nin0)))
  have F_indices_a1 := F_indices_a1.keep K41 (ninS ne_a1_o (ninS ne_a1_kk (ninS ne_a1_vv nin0)))
  have F_count_a1 := F_count_a1.keep K41 (ninS ne_a1_o (ninS ne_a1_kk (ninS ne_a1_vv nin0)))
  have F_first_a1 := F_first_a1.keep K41 (ninS ne_a1_o (ninS ne_a1_kk (ninS ne_a1_vv nin0)))
  have F_inOrder_a1 := F_inOrder_a1.keep K41 (ninS ne_a1_o (ninS ne_a1_kk (ninS ne_a1_vv nin0)))
  have F_later_a1 := F_later_a1.keep K41 (ninS ne_a1_o (ninS ne_a1_kk (ninS ne_a1_vv nin0)))
  have V_tt := V_tt.keep K41 (ninS ne_tt_o (ninS ne_tt_kk (ninS ne_tt_vv nin0)))
  have V_ii := V_ii.keep K41 (ninS ne_ii_o (ninS ne_ii_kk (ninS ne_ii_vv nin0)))
  have X_o := X_o.keep K41
  show own_Go p e below C T41 (mkF m 88 #[.val (.ref a1), .val (.ref o), .val (.int (2 : Int32))] [])
  have V_kk : own_A Z h41 kk .long 3 (fun j => .long ((own_rm (own_q2 tm ix) 1).1 j)) := V_kk
  have V_vv : own_A Z h41 vv .long 3 (fun j => .long ((own_rm (own_q2 tm ix) 1).2 j)) := V_vv
  have F_size_o : Fld Z h41 o "com/example/queueloom/queueloom/engine/LongPairHeap" "size" "I" (.int (0 : Int32)) := F_size_o
  refine own_iinc W41 (3 : Int32) 91 #[.val (.ref a1), .val (.ref o), .val (.int (3 : Int32))] d7_88 rfl rfl rfl rfl ?_
  refine own_goto W41 55 d7_91 (by decide) (by decide) ?_
  refine own_iloadN W41 56 d7_55 rfl rfl ?_
  refine own_aloadN W41 57 d7_56 rfl rfl rfl ?_
  refine own_getfield W41 60 d7_57 (wd27 hw) F_count_a1 rfl ?_
  intro T42 W42
  show own_Go p e below C T42 (mkF m 60 #[.val (.ref a1), .val (.ref o), .val (.int (3 : Int32))] [(.int (3 : Int32)), (.int (3 : Int32))])
  refine own_icmpY W42 94 d7_60 ((flt (by decide : ¬ ((3 : Int32) < (3 : Int32)))).2.1) (by decide) (by decide) ?_
  refine own_aloadN W42 95 d7_94 rfl rfl rfl ?_
  refine own_iconst W42 (1 : Int32) 96 d7_95 rfl rfl ?_
  refine own_putfield W42 (.int (1 : Int32)) 99 d7_96 (wd16 hw) F_inOrder_a1 X_a1 (Or.inl (wd17 hw)) (wd8 hw) (Or.inl (List.mem_of_getElem? (i := 0) rfl)) (ty := .boolean) (by decide) rfl rfl rfl ?_
  intro T43 h43 W43 Wr43 F_inOrder_a1
  have X_a1 := X_a1.wr Wr43
  have F_times_a1 := F_times_a1.other Wr43 (Or.inr (slot_ne (Or.inl (wd19 hw)) (Or.inl (wd17 hw)) (by decide) (t := (.array .long)) (t' := .boolean) (by decide) (by decide)))
  have F_indices_a1 := F_indices_a1.other Wr43 (Or.inr (slot_ne (Or.inl (wd21 hw)) (Or.inl (wd17 hw)) (by decide) (t := (.array .int)) (t' := .boolean) (by decide) (by decide)))
  have F_count_a1 := F_count_a1.other Wr43 (Or.inr (slot_ne (Or.inl (wd28 hw)) (Or.inl (wd17 hw)) (by decide) (t := .int) (t' := .boolean) (by decide) (by decide)))
  have F_first_a1 := F_first_a1.other Wr43 (Or.inr (slot_ne (Or.inl (wd35 hw)) (Or.inl (wd17 hw)) (by decide) (t := .int) (t' := .boolean) (by decide) (by decide)))
  have F_later_a1 := F_later_a1.other Wr43 (Or.inr (slot_ne (Or.inl (wd100 hw)) (Or.inl (wd17 hw)) (by decide) (t := (.object "com/example/queueloom/queueloom/engine/LongPairHeap")) (t' := .boolean) (by decide) (by decide)))
  have V_tt := V_tt.other Wr43 (Ne.symm ne_a_t)
  have V_ii := V_ii.other Wr43 (Ne.symm ne_a_i)
  have X_o := X_o.wr Wr43
  have F_keys_o := F_keys_o.other Wr43 (Or.inl (Ne.symm ne_a1_o))
  have F_values_o := F_values_o.other Wr43 (Or.inl (Ne.symm ne_a1_o))
  have F_size_o := F_size_o.other Wr43 (Or.inl (Ne.symm ne_a1_o))
  have V_kk := V_kk.other Wr43 (Ne.symm ne_a1_kk)
  have V_vv := V_vv.other Wr43 (Ne.symm ne_a1_vv)
  show own_Go p e below C T43 (mkF m 99 #[.val (.ref a1), .val (.ref o), .val (.int (3 : Int32))] [])
  refine own_retV (Q := fun v h => v = none ∧ (Fld Z h a1 "com/example/queueloom/queueloom/engine/Arrivals" "times" "[J" (.ref tt) ∧ Fld Z h a1 "com/example/queueloom/queueloom/engine/Arrivals" "indices" "[I" (.ref ii) ∧ Fld Z h a1 "com/example/queueloom/queueloom/engine/Arrivals" "count" "I" (.int (3 : Int32)) ∧ Fld Z h a1 "com/example/queueloom/queueloom/engine/Arrivals" "first" "I" (.int (0 : Int32)) ∧ Fld Z h a1 "com/example/queueloom/queueloom/engine/Arrivals" "inOrder" "Z" (.int (1 : Int32)) ∧ Fld Z h a1 "com/example/queueloom/queueloom/engine/Arrivals" "later" "Lcom/example/queueloom/queueloom/engine/LongPairHeap;" .null ∧ own_A Z h tt .long 3 (fun j => .long ((own_upL (own_upL (own_upL tm 0 ((own_p3 tm ix).1 0)) 1 ((own_q1 tm ix).1 0)) 2 ((own_q2 tm ix).1 0)) j)) ∧ own_A Z h ii .int 3 (fun j => .int ((own_upI (own_upI (own_upI ix 0 ((own_p3 tm ix).2 0).toInt32) 1 ((own_q1 tm ix).2 0).toInt32) 2 ((own_q2 tm ix).2 0).toInt32) j)))) W43 hC (by decide) (by decide) d7_99 ?_
  exact ⟨rfl, ⟨F_times_a1, F_indices_a1, F_count_a1, F_first_a1, F_inOrder_a1, F_later_a1, V_tt.congr (fun j hj => by rcases own_lt3 hj with rfl | rfl | rfl <;> rfl), V_ii.congr (fun j hj => by rcases own_lt3 hj with rfl | rfl | rfl <;> rfl)⟩⟩
theorem ef_m15 (m : MethodId) (x0 : Addr) : entryFrame m #[(.ref x0)] 3 = mkF m 0 #[.val (.ref x0), .unset, .unset] [] := by first | (simp [entryFrame, mkF, argsToLocals, Value.category]; done) | rfl
set_option maxRecDepth 65536 in
set_option maxHeartbeats 40000000 in
theorem own_m15 (l : Launch) (Z : State) (a0 : Array Value) (hw : ∀ d ∈ tables_1, d.before a0 Z = true) (wo : List Jvm.Cond) (h0 : Heap) (a1 : Addr) (tt : Addr) (ii : Addr) (tm : Nat → Int64) (ix : Nat → Int32) (ct : Int32) (io : Int32) (F_times_a1 : Fld Z h0 a1 "com/example/queueloom/queueloom/engine/Arrivals" "times" "[J" (.ref tt)) (F_indices_a1 : Fld Z h0 a1 "com/example/queueloom/queueloom/engine/Arrivals" "indices" "[I" (.ref ii)) (F_count_a1 : Fld Z h0 a1 "com/example/queueloom/queueloom/engine/Arrivals" "count" "I" (.int ct)) (F_first_a1 : Fld Z h0 a1 "com/example/queueloom/queueloom/engine/Arrivals" "first" "I" (.int (0 : Int32))) (F_inOrder_a1 : Fld Z h0 a1 "com/example/queueloom/queueloom/engine/Arrivals" "inOrder" "Z" (.int io)) (F_later_a1 : Fld Z h0 a1 "com/example/queueloom/queueloom/engine/Arrivals" "later" "Lcom/example/queueloom/queueloom/engine/LongPairHeap;" .null) (V_tt : own_A Z h0 tt .long 3 (fun j => .long (tm j))) (V_ii : own_A Z h0 ii .int 3 (fun j => .int (ix j))) :
    own_M l Z wo (⟨"com/example/queueloom/queueloom/engine/Arrivals", "nextIsLater", "()Z"⟩ : MethodName) prog_53_method_12_code 3 (some .boolean) ({ frames := 0, cells := 0, slots := 0, locals := 0 } : Room) [] #[(.ref a1)] h0 (fun v h => v = some (.int (0 : Int32))) := by
  refine own_body (plainFor_of_name pn_15) (fun m => ef_m15 m a1) ?_
  intro p e s m below meth c C hC T0 W0
  refine own_aloadN W0 1 d15_0 rfl rfl rfl ?_
  refine own_getfield W0 4 d15_1 (wd99 hw) F_later_a1 rfl ?_
  intro T1 W1
  show own_Go p e below C T1 (mkF m 4 #[.val (.ref a1), .unset, .unset] [.null])
  refine own_ifnullY W1 17 d15_4 (by decide) (by decide) ?_
  refine own_iconst W1 (0 : Int32) 18 d15_17 rfl rfl ?_
  refine own_retZ (Q := fun v h => v = some (.int (0 : Int32))) W1 hC (by decide) (by decide) d15_18 ?_
  exact rfl
theorem ef_m14 (m : MethodId) (x0 : Addr) : entryFrame m #[(.ref x0)] 1 = mkF m 0 #[.val (.ref x0)] [] := by first | (simp [entryFrame, mkF, argsToLocals, Value.category]; done) | rfl
set_option maxRecDepth 65536 in
set_option maxHeartbeats 40000000 in
theorem own_m14 (l : Launch) (Z : State) (a0 : Array Value) (hw : ∀ d ∈ tables_1, d.before a0 Z = true) (wo : List Jvm.Cond) (h0 : Heap) (a1 : Addr) (tt : Addr) (ii : Addr) (tm : Nat → Int64) (ix : Nat → Int32) (ct : Int32) (io : Int32) (X_a1 : Exa Z h0 a1 "com/example/queueloom/queueloom/engine/Arrivals") (F_times_a1 : Fld Z h0 a1 "com/example/queueloom/queueloom/engine/Arrivals" "times" "[J" (.ref tt)) (F_indices_a1 : Fld Z h0 a1 "com/example/queueloom/queueloom/engine/Arrivals" "indices" "[I" (.ref ii)) (F_count_a1 : Fld Z h0 a1 "com/example/queueloom/queueloom/engine/Arrivals" "count" "I" (.int ct)) (F_first_a1 : Fld Z h0 a1 "com/example/queueloom/queueloom/engine/Arrivals" "first" "I" (.int (0 : Int32))) (F_inOrder_a1 : Fld Z h0 a1 "com/example/queueloom/queueloom/engine/Arrivals" "inOrder" "Z" (.int io)) (F_later_a1 : Fld Z h0 a1 "com/example/queueloom/queueloom/engine/Arrivals" "later" "Lcom/example/queueloom/queueloom/engine/LongPairHeap;" .null) (V_tt : own_A Z h0 tt .long 3 (fun j => .long (tm j))) (V_ii : own_A Z h0 ii .int 3 (fun j => .int (ix j))) :
    own_M l Z wo (⟨"com/example/queueloom/queueloom/engine/Arrivals", "firstTime", "()J"⟩ : MethodName) prog_53_method_9_code 1 (some .long) ({ frames := 1, cells := 0, slots := 0, locals := 14 } : Room) [] #[(.ref a1)] h0 (fun v h => v = some (.long (tm 0))) := by
  refine own_body (plainFor_of_name pn_14) (fun m => ef_m14 m a1) ?_
  intro p e s m below meth c C hC T0 W0
  refine own_aloadN W0 1 d14_0 rfl rfl rfl ?_
  refine own_callP W0 (A := []) (wt := 0) (pc' := 4) (st := []) d14_1 (wd95 hw) (wd96 hw) (wd97 hw) (wd25 hw) rfl (wd9 hw) (wd98 hw) (by decide) X_a1 (own_m15 l Z a0 hw [] h0 a1 tt ii tm ix ct io F_times_a1 F_indices_a1 F_count_a1 F_first_a1 F_inOrder_a1 F_later_a1 V_tt V_ii) all0 rfl pd_6 rfl (Nat.le_of_eq rfl) (by decide) (by decide) (by decide) (by decide) rfl ?_
  rintro T1 h1 _ W1 K1 P1 rfl
  rw [P1 rfl rfl] at W1
  show own_Go p e below C T1 (mkF m 4 #[.val (.ref a1)] [(.int (0 : Int32))])
  refine own_ifY W1 17 d14_4 ((if0 _ _).trans (teq (rfl : (0 : Int32) = (0 : Int32))).1) (by decide) (by decide) ?_
  refine own_aloadN W1 18 d14_17 rfl rfl rfl ?_
  refine own_getfield W1 21 d14_18 (wd18 hw) F_times_a1 rfl ?_
  intro T2 W2
  show own_Go p e below C T2 (mkF m 21 #[.val (.ref a1)] [(.ref tt)])
  refine own_aloadN W2 22 d14_21 rfl rfl rfl ?_
  refine own_getfield W2 25 d14_22 (wd34 hw) F_first_a1 rfl ?_
  intro T3 W3
  show own_Go p e below C T3 (mkF m 25 #[.val (.ref a1)] [(.int (0 : Int32)), (.ref tt)])
  refine own_laload W3 0 (tm 0) 26 d14_25 V_tt rfl (by decide) rfl rfl ?_
  refine own_retJ (Q := fun v h => v = some (.long (tm 0))) W3 hC (by decide) (by decide) d14_26 ?_
  exact rfl
theorem ef_m16 (m : MethodId) (x0 : Addr) : entryFrame m #[(.ref x0)] 1 = mkF m 0 #[.val (.ref x0)] [] := by first | (simp [entryFrame, mkF, argsToLocals, Value.category]; done) | rfl
set_option maxRecDepth 65536 in
set_option maxHeartbeats 40000000 in
theorem own_m16 (l : Launch) (Z : State) (a0 : Array Value) (hw : ∀ d ∈ tables_1, d.before a0 Z = true) (wo : List Jvm.Cond) (h0 : Heap) (a1 : Addr) (tt : Addr) (ii : Addr) (tm : Nat → Int64) (ix : Nat → Int32) (ct : Int32) (io : Int32) (X_a1 : Exa Z h0 a1 "com/example/queueloom/queueloom/engine/Arrivals") (F_times_a1 : Fld Z h0 a1 "com/example/queueloom/queueloom/engine/Arrivals" "times" "[J" (.ref tt)) (F_indices_a1 : Fld Z h0 a1 "com/example/queueloom/queueloom/engine/Arrivals" "indices" "[I" (.ref ii)) (F_count_a1 : Fld Z h0 a1 "com/example/queueloom/queueloom/engine/Arrivals" "count" "I" (.int ct)) (F_first_a1 : Fld Z h0 a1 "com/example/queueloom/queueloom/engine/Arrivals" "first" "I" (.int (0 : Int32))) (F_inOrder_a1 : Fld Z h0 a1 "com/example/queueloom/queueloom/engine/Arrivals" "inOrder" "Z" (.int io)) (F_later_a1 : Fld Z h0 a1 "com/example/queueloom/queueloom/engine/Arrivals" "later" "Lcom/example/queueloom/queueloom/engine/LongPairHeap;" .null) (V_tt : own_A Z h0 tt .long 3 (fun j => .long (tm j))) (V_ii : own_A Z h0 ii .int 3 (fun j => .int (ix j))) :
    own_M l Z wo (⟨"com/example/queueloom/queueloom/engine/Arrivals", "firstIndex", "()I"⟩ : MethodName) prog_53_method_10_code 1 (some .int) ({ frames := 1, cells := 0, slots := 0, locals := 14 } : Room) [] #[(.ref a1)] h0 (fun v h => v = some (.int (ix 0))) := by
  refine own_body (plainFor_of_name pn_16) (fun m => ef_m16 m a1) ?_
  intro p e s m below meth c C hC T0 W0
  refine own_aloadN W0 1 d16_0 rfl rfl rfl ?_
  refine own_callP W0 (A := []) (wt := 0) (pc' := 4) (st := []) d16_1 (wd95 hw) (wd96 hw) (wd97 hw) (wd25 hw) rfl (wd9 hw) (wd98 hw) (by decide) X_a1 (own_m15 l Z a0 hw [] h0 a1 tt ii tm ix ct io F_times_a1 F_indices_a1 F_count_a1 F_first_a1 F_inOrder_a1 F_later_a1 V_tt V_ii) all0 rfl pd_6 rfl (Nat.le_of_eq rfl) (by decide) (by decide) (by decide) (by decide) rfl ?_
  rintro T1 h1 _ W1 K1 P1 rfl
  rw [P1 rfl rfl] at W1
  show own_Go p e below C T1 (mkF m 4 #[.val (.ref a1)] [(.int (0 : Int32))])
  refine own_ifY W1 18 d16_4 ((if0 _ _).trans (teq (rfl : (0 : Int32) = (0 : Int32))).1) (by decide) (by decide) ?_
  refine own_aloadN W1 19 d16_18 rfl rfl rfl ?_
  refine own_getfield W1 22 d16_19 (wd20 hw) F_indices_a1 rfl ?_
  intro T2 W2
  show own_Go p e below C T2 (mkF m 22 #[.val (.ref a1)] [(.ref ii)])
  refine own_aloadN W2 23 d16_22 rfl rfl rfl ?_
  refine own_getfield W2 26 d16_23 (wd34 hw) F_first_a1 rfl ?_
  intro T3 W3
  show own_Go p e below C T3 (mkF m 26 #[.val (.ref a1)] [(.int (0 : Int32)), (.ref ii)])
  refine own_iaload W3 0 (ix 0) 27 d16_26 V_ii rfl (by decide) rfl rfl ?_
  refine own_retI (Q := fun v h => v = some (.int (ix 0))) W3 hC (by decide) (by decide) d16_27 ?_
  exact rfl
def own_rk (k : Int64) (v : Int32) : Int := k.toInt * 18446744073709551616 + v.toInt
theorem own_c1 (k1 k2 : Int64) (v1 v2 : Int32) : (k1 < k2 ∨ k1 = k2 ∧ v1 ≤ v2) ↔ own_rk k1 v1 ≤ own_rk k2 v2 := by
  unfold own_rk
  have r1 := rng32 v1
  have r2 := rng32 v2
  rw [Int64.lt_iff_toInt_lt, Int32.le_iff_toInt_le, ← Int64.toInt_inj]
  constructor
  · rintro (q | ⟨q, r⟩)
    · omega
    · omega
  · intro q
    rcases Int.lt_trichotomy k1.toInt k2.toInt with w | w | w
    · exact Or.inl w
    · exact Or.inr ⟨w, by omega⟩
    · exfalso; omega
theorem own_c2 (k1 k2 : Int64) (v1 v2 : Int32) : (k1 < k2 ∨ k2 = k1 ∧ v1 ≤ v2) ↔ own_rk k1 v1 ≤ own_rk k2 v2 := by rw [← own_c1, eq_comm (a := k2)]
theorem own_c3 (k1 k2 : Int64) (v1 v2 : Int32) : (k1 < k2 ∨ k1 = k2 ∧ v1 < v2) ↔ own_rk k1 v1 < own_rk k2 v2 := by
  unfold own_rk
  have r1 := rng32 v1
  have r2 := rng32 v2
  rw [Int64.lt_iff_toInt_lt, Int32.lt_iff_toInt_lt, ← Int64.toInt_inj]
  constructor
  · rintro (q | ⟨q, r⟩)
    · omega
    · omega
  · intro q
    rcases Int.lt_trichotomy k1.toInt k2.toInt with w | w | w
    · exact Or.inl w
    · exact Or.inr ⟨w, by omega⟩
    · exfalso; omega
theorem own_c4 (k1 k2 : Int64) (v1 v2 : Int32) : (k1 < k2 ∨ k2 = k1 ∧ v1 < v2) ↔ own_rk k1 v1 < own_rk k2 v2 := by rw [← own_c3, eq_comm (a := k2)]
set_option maxHeartbeats 8000000 in
theorem own_s_ttt (q1 q2 q3 : Int64) (i0 i1 i2 : Int32) (o1 : own_rk q3 i2 < own_rk q2 i1) (o2 : own_rk q2 i1 < own_rk q1 i0) : (own_upL (own_upL (own_upL (own_upL (own_upL (own_upL (fun _ => 0) 0 q1) 1 q2) 2 q3) 0 ((own_p3 (own_upL (own_upL (own_upL (fun _ => 0) 0 q1) 1 q2) 2 q3) (own_upI (own_upI (own_upI (fun _ => 0) 0 i0) 1 i1) 2 i2)).1 0)) 1 ((own_q1 (own_upL (own_upL (own_upL (fun _ => 0) 0 q1) 1 q2) 2 q3) (own_upI (own_upI (own_upI (fun _ => 0) 0 i0) 1 i1) 2 i2)).1 0)) 2 ((own_q2 (own_upL (own_upL (own_upL (fun _ => 0) 0 q1) 1 q2) 2 q3) (own_upI (own_upI (own_upI (fun _ => 0) 0 i0) 1 i1) 2 i2)).1 0)) 0 = q3 ∧ (own_upL (own_upL (own_upL (own_upL (own_upL (own_upL (fun _ => 0) 0 q1) 1 q2) 2 q3) 0 ((own_p3 (own_upL (own_upL (own_upL (fun _ => 0) 0 q1) 1 q2) 2 q3) (own_upI (own_upI (own_upI (fun _ => 0) 0 i0) 1 i1) 2 i2)).1 0)) 1 ((own_q1 (own_upL (own_upL (own_upL (fun _ => 0) 0 q1) 1 q2) 2 q3) (own_upI (own_upI (own_upI (fun _ => 0) 0 i0) 1 i1) 2 i2)).1 0)) 2 ((own_q2 (own_upL (own_upL (own_upL (fun _ => 0) 0 q1) 1 q2) 2 q3) (own_upI (own_upI (own_upI (fun _ => 0) 0 i0) 1 i1) 2 i2)).1 0)) 1 = q2 ∧ (own_upL (own_upL (own_upL (own_upL (own_upL (own_upL (fun _ => 0) 0 q1) 1 q2) 2 q3) 0 ((own_p3 (own_upL (own_upL (own_upL (fun _ => 0) 0 q1) 1 q2) 2 q3) (own_upI (own_upI (own_upI (fun _ => 0) 0 i0) 1 i1) 2 i2)).1 0)) 1 ((own_q1 (own_upL (own_upL (own_upL (fun _ => 0) 0 q1) 1 q2) 2 q3) (own_upI (own_upI (own_upI (fun _ => 0) 0 i0) 1 i1) 2 i2)).1 0)) 2 ((own_q2 (own_upL (own_upL (own_upL (fun _ => 0) 0 q1) 1 q2) 2 q3) (own_upI (own_upI (own_upI (fun _ => 0) 0 i0) 1 i1) 2 i2)).1 0)) 2 = q1 ∧ (own_upI (own_upI (own_upI (own_upI (own_upI (own_upI (fun _ => 0) 0 i0) 1 i1) 2 i2) 0 ((own_p3 (own_upL (own_upL (own_upL (fun _ => 0) 0 q1) 1 q2) 2 q3) (own_upI (own_upI (own_upI (fun _ => 0) 0 i0) 1 i1) 2 i2)).2 0).toInt32) 1 ((own_q1 (own_upL (own_upL (own_upL (fun _ => 0) 0 q1) 1 q2) 2 q3) (own_upI (own_upI (own_upI (fun _ => 0) 0 i0) 1 i1) 2 i2)).2 0).toInt32) 2 ((own_q2 (own_upL (own_upL (own_upL (fun _ => 0) 0 q1) 1 q2) 2 q3) (own_upI (own_upI (own_upI (fun _ => 0) 0 i0) 1 i1) 2 i2)).2 0).toInt32) 0 = i2 ∧ (own_upI (own_upI (own_upI (own_upI (own_upI (own_upI (fun _ => 0) 0 i0) 1 i1) 2 i2) 0 ((own_p3 (own_upL (own_upL (own_upL (fun _ => 0) 0 q1) 1 q2) 2 q3) (own_upI (own_upI (own_upI (fun _ => 0) 0 i0) 1 i1) 2 i2)).2 0).toInt32) 1 ((own_q1 (own_upL (own_upL (own_upL (fun _ => 0) 0 q1) 1 q2) 2 q3) (own_upI (own_upI (own_upI (fun _ => 0) 0 i0) 1 i1) 2 i2)).2 0).toInt32) 2 ((own_q2 (own_upL (own_upL (own_upL (fun _ => 0) 0 q1) 1 q2) 2 q3) (own_upI (own_upI (own_upI (fun _ => 0) 0 i0) 1 i1) 2 i2)).2 0).toInt32) 1 = i1 ∧ (own_upI (own_upI (own_upI (own_upI (own_upI (own_upI (fun _ => 0) 0 i0) 1 i1) 2 i2) 0 ((own_p3 (own_upL (own_upL (own_upL (fun _ => 0) 0 q1) 1 q2) 2 q3) (own_upI (own_upI (own_upI (fun _ => 0) 0 i0) 1 i1) 2 i2)).2 0).toInt32) 1 ((own_q1 (own_upL (own_upL (own_upL (fun _ => 0) 0 q1) 1 q2) 2 q3) (own_upI (own_upI (own_upI (fun _ => 0) 0 i0) 1 i1) 2 i2)).2 0).toInt32) 2 ((own_q2 (own_upL (own_upL (own_upL (fun _ => 0) 0 q1) 1 q2) 2 q3) (own_upI (own_upI (own_upI (fun _ => 0) 0 i0) 1 i1) 2 i2)).2 0).toInt32) 2 = i0 := by
  have f010 : own_rk q3 i2 ≤ own_rk q2 i1 := by omega
  have f011 : ¬ own_rk q2 i1 ≤ own_rk q3 i2 := by omega
  have f012 : own_rk q3 i2 < own_rk q2 i1 := by omega
  have f013 : ¬ own_rk q2 i1 < own_rk q3 i2 := by omega
  have f120 : own_rk q2 i1 ≤ own_rk q1 i0 := by omega
  have f121 : ¬ own_rk q1 i0 ≤ own_rk q2 i1 := by omega
  have f122 : own_rk q2 i1 < own_rk q1 i0 := by omega
  have f123 : ¬ own_rk q1 i0 < own_rk q2 i1 := by omega
  have f020 : own_rk q3 i2 ≤ own_rk q1 i0 := by omega
  have f021 : ¬ own_rk q1 i0 ≤ own_rk q3 i2 := by omega
  have f022 : own_rk q3 i2 < own_rk q1 i0 := by omega
  have f023 : ¬ own_rk q1 i0 < own_rk q3 i2 := by omega
  refine ⟨?_, ?_, ?_, ?_, ?_, ?_⟩
  all_goals simp [own_q2, own_q1, own_rm, own_p3, own_p2, own_p1, own_up, own_sift, own_upL, own_upI, own_c1, own_c2, own_c3, own_c4, f010, f011, f012, f013, f120, f121, f122, f123, f020, f021, f022, f023]
set_option maxHeartbeats 8000000 in
theorem own_s_ttf (q1 q2 q3 : Int64) (i0 i1 i2 : Int32) (o1 : own_rk q2 i1 < own_rk q3 i2) (o2 : own_rk q3 i2 < own_rk q1 i0) : (own_upL (own_upL (own_upL (own_upL (own_upL (own_upL (fun _ => 0) 0 q1) 1 q2) 2 q3) 0 ((own_p3 (own_upL (own_upL (own_upL (fun _ => 0) 0 q1) 1 q2) 2 q3) (own_upI (own_upI (own_upI (fun _ => 0) 0 i0) 1 i1) 2 i2)).1 0)) 1 ((own_q1 (own_upL (own_upL (own_upL (fun _ => 0) 0 q1) 1 q2) 2 q3) (own_upI (own_upI (own_upI (fun _ => 0) 0 i0) 1 i1) 2 i2)).1 0)) 2 ((own_q2 (own_upL (own_upL (own_upL (fun _ => 0) 0 q1) 1 q2) 2 q3) (own_upI (own_upI (own_upI (fun _ => 0) 0 i0) 1 i1) 2 i2)).1 0)) 0 = q2 ∧ (own_upL (own_upL (own_upL (own_upL (own_upL (own_upL (fun _ => 0) 0 q1) 1 q2) 2 q3) 0 ((own_p3 (own_upL (own_upL (own_upL (fun _ => 0) 0 q1) 1 q2) 2 q3) (own_upI (own_upI (own_upI (fun _ => 0) 0 i0) 1 i1) 2 i2)).1 0)) 1 ((own_q1 (own_upL (own_upL (own_upL (fun _ => 0) 0 q1) 1 q2) 2 q3) (own_upI (own_upI (own_upI (fun _ => 0) 0 i0) 1 i1) 2 i2)).1 0)) 2 ((own_q2 (own_upL (own_upL (own_upL (fun _ => 0) 0 q1) 1 q2) 2 q3) (own_upI (own_upI (own_upI (fun _ => 0) 0 i0) 1 i1) 2 i2)).1 0)) 1 = q3 ∧ (own_upL (own_upL (own_upL (own_upL (own_upL (own_upL (fun _ => 0) 0 q1) 1 q2) 2 q3) 0 ((own_p3 (own_upL (own_upL (own_upL (fun _ => 0) 0 q1) 1 q2) 2 q3) (own_upI (own_upI (own_upI (fun _ => 0) 0 i0) 1 i1) 2 i2)).1 0)) 1 ((own_q1 (own_upL (own_upL (own_upL (fun _ => 0) 0 q1) 1 q2) 2 q3) (own_upI (own_upI (own_upI (fun _ => 0) 0 i0) 1 i1) 2 i2)).1 0)) 2 ((own_q2 (own_upL (own_upL (own_upL (fun _ => 0) 0 q1) 1 q2) 2 q3) (own_upI (own_upI (own_upI (fun _ => 0) 0 i0) 1 i1) 2 i2)).1 0)) 2 = q1 ∧ (own_upI (own_upI (own_upI (own_upI (own_upI (own_upI (fun _ => 0) 0 i0) 1 i1) 2 i2) 0 ((own_p3 (own_upL (own_upL (own_upL (fun _ => 0) 0 q1) 1 q2) 2 q3) (own_upI (own_upI (own_upI (fun _ => 0) 0 i0) 1 i1) 2 i2)).2 0).toInt32) 1 ((own_q1 (own_upL (own_upL (own_upL (fun _ => 0) 0 q1) 1 q2) 2 q3) (own_upI (own_upI (own_upI (fun _ => 0) 0 i0) 1 i1) 2 i2)).2 0).toInt32) 2 ((own_q2 (own_upL (own_upL (own_upL (fun _ => 0) 0 q1) 1 q2) 2 q3) (own_upI (own_upI (own_upI (fun _ => 0) 0 i0) 1 i1) 2 i2)).2 0).toInt32) 0 = i1 ∧ (own_upI (own_upI (own_upI (own_upI (own_upI (own_upI (fun _ => 0) 0 i0) 1 i1) 2 i2) 0 ((own_p3 (own_upL (own_upL (own_upL (fun _ => 0) 0 q1) 1 q2) 2 q3) (own_upI (own_upI (own_upI (fun _ => 0) 0 i0) 1 i1) 2 i2)).2 0).toInt32) 1 ((own_q1 (own_upL (own_upL (own_upL (fun _ => 0) 0 q1) 1 q2) 2 q3) (own_upI (own_upI (own_upI (fun _ => 0) 0 i0) 1 i1) 2 i2)).2 0).toInt32) 2 ((own_q2 (own_upL (own_upL (own_upL (fun _ => 0) 0 q1) 1 q2) 2 q3) (own_upI (own_upI (own_upI (fun _ => 0) 0 i0) 1 i1) 2 i2)).2 0).toInt32) 1 = i2 ∧ (own_upI (own_upI (own_upI (own_upI (own_upI (own_upI (fun _ => 0) 0 i0) 1 i1) 2 i2) 0 ((own_p3 (own_upL (own_upL (own_upL (fun _ => 0) 0 q1) 1 q2) 2 q3) (own_upI (own_upI (own_upI (fun _ => 0) 0 i0) 1 i1) 2 i2)).2 0).toInt32) 1 ((own_q1 (own_upL (own_upL (own_upL (fun _ => 0) 0 q1) 1 q2) 2 q3) (own_upI (own_upI (own_upI (fun _ => 0) 0 i0) 1 i1) 2 i2)).2 0).toInt32) 2 ((own_q2 (own_upL (own_upL (own_upL (fun _ => 0) 0 q1) 1 q2) 2 q3) (own_upI (own_upI (own_upI (fun _ => 0) 0 i0) 1 i1) 2 i2)).2 0).toInt32) 2 = i0 := by
  have f010 : own_rk q2 i1 ≤ own_rk q3 i2 := by omega
  have f011 : ¬ own_rk q3 i2 ≤ own_rk q2 i1 := by omega
  have f012 : own_rk q2 i1 < own_rk q3 i2 := by omega
  have f013 : ¬ own_rk q3 i2 < own_rk q2 i1 := by omega
  have f120 : own_rk q3 i2 ≤ own_rk q1 i0 := by omega
  have f121 : ¬ own_rk q1 i0 ≤ own_rk q3 i2 := by omega
  have f122 : own_rk q3 i2 < own_rk q1 i0 := by omega
  have f123 : ¬ own_rk q1 i0 < own_rk q3 i2 := by omega
  have f020 : own_rk q2 i1 ≤ own_rk q1 i0 := by omega
  have f021 : ¬ own_rk q1 i0 ≤ own_rk q2 i1 := by omega
  have f022 : own_rk q2 i1 < own_rk q1 i0 := by omega
  have f023 : ¬ own_rk q1 i0 < own_rk q2 i1 := by omega
  refine ⟨?_, ?_, ?_, ?_, ?_, ?_⟩
  all_goals simp [own_q2, own_q1, own_rm, own_p3, own_p2, own_p1, own_up, own_sift, own_upL, own_upI, own_c1, own_c2, own_c3, own_c4, f010, f011, f012, f013, f120, f121, f122, f123, f020, f021, f022, f023]
set_option maxHeartbeats 8000000 in
theorem own_s_tff (q1 q2 q3 : Int64) (i0 i1 i2 : Int32) (o1 : own_rk q2 i1 < own_rk q1 i0) (o2 : own_rk q1 i0 < own_rk q3 i2) : (own_upL (own_upL (own_upL (own_upL (own_upL (own_upL (fun _ => 0) 0 q1) 1 q2) 2 q3) 0 ((own_p3 (own_upL (own_upL (own_upL (fun _ => 0) 0 q1) 1 q2) 2 q3) (own_upI (own_upI (own_upI (fun _ => 0) 0 i0) 1 i1) 2 i2)).1 0)) 1 ((own_q1 (own_upL (own_upL (own_upL (fun _ => 0) 0 q1) 1 q2) 2 q3) (own_upI (own_upI (own_upI (fun _ => 0) 0 i0) 1 i1) 2 i2)).1 0)) 2 ((own_q2 (own_upL (own_upL (own_upL (fun _ => 0) 0 q1) 1 q2) 2 q3) (own_upI (own_upI (own_upI (fun _ => 0) 0 i0) 1 i1) 2 i2)).1 0)) 0 = q2 ∧ (own_upL (own_upL (own_upL (own_upL (own_upL (own_upL (fun _ => 0) 0 q1) 1 q2) 2 q3) 0 ((own_p3 (own_upL (own_upL (own_upL (fun _ => 0) 0 q1) 1 q2) 2 q3) (own_upI (own_upI (own_upI (fun _ => 0) 0 i0) 1 i1) 2 i2)).1 0)) 1 ((own_q1 (own_upL (own_upL (own_upL (fun _ => 0) 0 q1) 1 q2) 2 q3) (own_upI (own_upI (own_upI (fun _ => 0) 0 i0) 1 i1) 2 i2)).1 0)) 2 ((own_q2 (own_upL (own_upL (own_upL (fun _ => 0) 0 q1) 1 q2) 2 q3) (own_upI (own_upI (own_upI (fun _ => 0) 0 i0) 1 i1) 2 i2)).1 0)) 1 = q1 ∧ (own_upL (own_upL (own_upL (own_upL (own_upL (own_upL (fun _ => 0) 0 q1) 1 q2) 2 q3) 0 ((own_p3 (own_upL (own_upL (own_upL (fun _ => 0) 0 q1) 1 q2) 2 q3) (own_upI (own_upI (own_upI (fun _ => 0) 0 i0) 1 i1) 2 i2)).1 0)) 1 ((own_q1 (own_upL (own_upL (own_upL (fun _ => 0) 0 q1) 1 q2) 2 q3) (own_upI (own_upI (own_upI (fun _ => 0) 0 i0) 1 i1) 2 i2)).1 0)) 2 ((own_q2 (own_upL (own_upL (own_upL (fun _ => 0) 0 q1) 1 q2) 2 q3) (own_upI (own_upI (own_upI (fun _ => 0) 0 i0) 1 i1) 2 i2)).1 0)) 2 = q3 ∧ (own_upI (own_upI (own_upI (own_upI (own_upI (own_upI (fun _ => 0) 0 i0) 1 i1) 2 i2) 0 ((own_p3 (own_upL (own_upL (own_upL (fun _ => 0) 0 q1) 1 q2) 2 q3) (own_upI (own_upI (own_upI (fun _ => 0) 0 i0) 1 i1) 2 i2)).2 0).toInt32) 1 ((own_q1 (own_upL (own_upL (own_upL (fun _ => 0) 0 q1) 1 q2) 2 q3) (own_upI (own_upI (own_upI (fun _ => 0) 0 i0) 1 i1) 2 i2)).2 0).toInt32) 2 ((own_q2 (own_upL (own_upL (own_upL (fun _ => 0) 0 q1) 1 q2) 2 q3) (own_upI (own_upI (own_upI (fun _ => 0) 0 i0) 1 i1) 2 i2)).2 0).toInt32) 0 = i1 ∧ (own_upI (own_upI (own_upI (own_upI (own_upI (own_upI (fun _ => 0) 0 i0) 1 i1) 2 i2) 0 ((own_p3 (own_upL (own_upL (own_upL (fun _ => 0) 0 q1) 1 q2) 2 q3) (own_upI (own_upI (own_upI (fun _ => 0) 0 i0) 1 i1) 2 i2)).2 0).toInt32) 1 ((own_q1 (own_upL (own_upL (own_upL (fun _ => 0) 0 q1) 1 q2) 2 q3) (own_upI (own_upI (own_upI (fun _ => 0) 0 i0) 1 i1) 2 i2)).2 0).toInt32) 2 ((own_q2 (own_upL (own_upL (own_upL (fun _ => 0) 0 q1) 1 q2) 2 q3) (own_upI (own_upI (own_upI (fun _ => 0) 0 i0) 1 i1) 2 i2)).2 0).toInt32) 1 = i0 ∧ (own_upI (own_upI (own_upI (own_upI (own_upI (own_upI (fun _ => 0) 0 i0) 1 i1) 2 i2) 0 ((own_p3 (own_upL (own_upL (own_upL (fun _ => 0) 0 q1) 1 q2) 2 q3) (own_upI (own_upI (own_upI (fun _ => 0) 0 i0) 1 i1) 2 i2)).2 0).toInt32) 1 ((own_q1 (own_upL (own_upL (own_upL (fun _ => 0) 0 q1) 1 q2) 2 q3) (own_upI (own_upI (own_upI (fun _ => 0) 0 i0) 1 i1) 2 i2)).2 0).toInt32) 2 ((own_q2 (own_upL (own_upL (own_upL (fun _ => 0) 0 q1) 1 q2) 2 q3) (own_upI (own_upI (own_upI (fun _ => 0) 0 i0) 1 i1) 2 i2)).2 0).toInt32) 2 = i2 := by
  have f010 : own_rk q2 i1 ≤ own_rk q1 i0 := by omega
  have f011 : ¬ own_rk q1 i0 ≤ own_rk q2 i1 := by omega
  have f012 : own_rk q2 i1 < own_rk q1 i0 := by omega
  have f013 : ¬ own_rk q1 i0 < own_rk q2 i1 := by omega
  have f120 : own_rk q1 i0 ≤ own_rk q3 i2 := by omega
  have f121 : ¬ own_rk q3 i2 ≤ own_rk q1 i0 := by omega
  have f122 : own_rk q1 i0 < own_rk q3 i2 := by omega
  have f123 : ¬ own_rk q3 i2 < own_rk q1 i0 := by omega
  have f020 : own_rk q2 i1 ≤ own_rk q3 i2 := by omega
  have f021 : ¬ own_rk q3 i2 ≤ own_rk q2 i1 := by omega
  have f022 : own_rk q2 i1 < own_rk q3 i2 := by omega
  have f023 : ¬ own_rk q3 i2 < own_rk q2 i1 := by omega
  refine ⟨?_, ?_, ?_, ?_, ?_, ?_⟩
  all_goals simp [own_q2, own_q1, own_rm, own_p3, own_p2, own_p1, own_up, own_sift, own_upL, own_upI, own_c1, own_c2, own_c3, own_c4, f010, f011, f012, f013, f120, f121, f122, f123, f020, f021, f022, f023]
set_option maxHeartbeats 8000000 in
theorem own_s_ftt (q1 q2 q3 : Int64) (i0 i1 i2 : Int32) (o1 : own_rk q3 i2 < own_rk q1 i0) (o2 : own_rk q1 i0 < own_rk q2 i1) : (own_upL (own_upL (own_upL (own_upL (own_upL (own_upL (fun _ => 0) 0 q1) 1 q2) 2 q3) 0 ((own_p3 (own_upL (own_upL (own_upL (fun _ => 0) 0 q1) 1 q2) 2 q3) (own_upI (own_upI (own_upI (fun _ => 0) 0 i0) 1 i1) 2 i2)).1 0)) 1 ((own_q1 (own_upL (own_upL (own_upL (fun _ => 0) 0 q1) 1 q2) 2 q3) (own_upI (own_upI (own_upI (fun _ => 0) 0 i0) 1 i1) 2 i2)).1 0)) 2 ((own_q2 (own_upL (own_upL (own_upL (fun _ => 0) 0 q1) 1 q2) 2 q3) (own_upI (own_upI (own_upI (fun _ => 0) 0 i0) 1 i1) 2 i2)).1 0)) 0 = q3 ∧ (own_upL (own_upL (own_upL (own_upL (own_upL (own_upL (fun _ => 0) 0 q1) 1 q2) 2 q3) 0 ((own_p3 (own_upL (own_upL (own_upL (fun _ => 0) 0 q1) 1 q2) 2 q3) (own_upI (own_upI (own_upI (fun _ => 0) 0 i0) 1 i1) 2 i2)).1 0)) 1 ((own_q1 (own_upL (own_upL (own_upL (fun _ => 0) 0 q1) 1 q2) 2 q3) (own_upI (own_upI (own_upI (fun _ => 0) 0 i0) 1 i1) 2 i2)).1 0)) 2 ((own_q2 (own_upL (own_upL (own_upL (fun _ => 0) 0 q1) 1 q2) 2 q3) (own_upI (own_upI (own_upI (fun _ => 0) 0 i0) 1 i1) 2 i2)).1 0)) 1 = q1 ∧ (own_upL (own_upL (own_upL (own_upL (own_upL (own_upL (fun _ => 0) 0 q1) 1 q2) 2 q3) 0 ((own_p3 (own_upL (own_upL (own_upL (fun _ => 0) 0 q1) 1 q2) 2 q3) (own_upI (own_upI (own_upI (fun _ => 0) 0 i0) 1 i1) 2 i2)).1 0)) 1 ((own_q1 (own_upL (own_upL (own_upL (fun _ => 0) 0 q1) 1 q2) 2 q3) (own_upI (own_upI (own_upI (fun _ => 0) 0 i0) 1 i1) 2 i2)).1 0)) 2 ((own_q2 (own_upL (own_upL (own_upL (fun _ => 0) 0 q1) 1 q2) 2 q3) (own_upI (own_upI (own_upI (fun _ => 0) 0 i0) 1 i1) 2 i2)).1 0)) 2 = q2 ∧ (own_upI (own_upI (own_upI (own_upI (own_upI (own_upI (fun _ => 0) 0 i0) 1 i1) 2 i2) 0 ((own_p3 (own_upL (own_upL (own_upL (fun _ => 0) 0 q1) 1 q2) 2 q3) (own_upI (own_upI (own_upI (fun _ => 0) 0 i0) 1 i1) 2 i2)).2 0).toInt32) 1 ((own_q1 (own_upL (own_upL (own_upL (fun _ => 0) 0 q1) 1 q2) 2 q3) (own_upI (own_upI (own_upI (fun _ => 0) 0 i0) 1 i1) 2 i2)).2 0).toInt32) 2 ((own_q2 (own_upL (own_upL (own_upL (fun _ => 0) 0 q1) 1 q2) 2 q3) (own_upI (own_upI (own_upI (fun _ => 0) 0 i0) 1 i1) 2 i2)).2 0).toInt32) 0 = i2 ∧ (own_upI (own_upI (own_upI (own_upI (own_upI (own_upI (fun _ => 0) 0 i0) 1 i1) 2 i2) 0 ((own_p3 (own_upL (own_upL (own_upL (fun _ => 0) 0 q1) 1 q2) 2 q3) (own_upI (own_upI (own_upI (fun _ => 0) 0 i0) 1 i1) 2 i2)).2 0).toInt32) 1 ((own_q1 (own_upL (own_upL (own_upL (fun _ => 0) 0 q1) 1 q2) 2 q3) (own_upI (own_upI (own_upI (fun _ => 0) 0 i0) 1 i1) 2 i2)).2 0).toInt32) 2 ((own_q2 (own_upL (own_upL (own_upL (fun _ => 0) 0 q1) 1 q2) 2 q3) (own_upI (own_upI (own_upI (fun _ => 0) 0 i0) 1 i1) 2 i2)).2 0).toInt32) 1 = i0 ∧ (own_upI (own_upI (own_upI (own_upI (own_upI (own_upI (fun _ => 0) 0 i0) 1 i1) 2 i2) 0 ((own_p3 (own_upL (own_upL (own_upL (fun _ => 0) 0 q1) 1 q2) 2 q3) (own_upI (own_upI (own_upI (fun _ => 0) 0 i0) 1 i1) 2 i2)).2 0).toInt32) 1 ((own_q1 (own_upL (own_upL (own_upL (fun _ => 0) 0 q1) 1 q2) 2 q3) (own_upI (own_upI (own_upI (fun _ => 0) 0 i0) 1 i1) 2 i2)).2 0).toInt32) 2 ((own_q2 (own_upL (own_upL (own_upL (fun _ => 0) 0 q1) 1 q2) 2 q3) (own_upI (own_upI (own_upI (fun _ => 0) 0 i0) 1 i1) 2 i2)).2 0).toInt32) 2 = i1 := by
  have f010 : own_rk q3 i2 ≤ own_rk q1 i0 := by omega
  have f011 : ¬ own_rk q1 i0 ≤ own_rk q3 i2 := by omega
  have f012 : own_rk q3 i2 < own_rk q1 i0 := by omega
  have f013 : ¬ own_rk q1 i0 < own_rk q3 i2 := by omega
  have f120 : own_rk q1 i0 ≤ own_rk q2 i1 := by omega
  have f121 : ¬ own_rk q2 i1 ≤ own_rk q1 i0 := by omega
  have f122 : own_rk q1 i0 < own_rk q2 i1 := by omega
  have f123 : ¬ own_rk q2 i1 < own_rk q1 i0 := by omega
  have f020 : own_rk q3 i2 ≤ own_rk q2 i1 := by omega
  have f021 : ¬ own_rk q2 i1 ≤ own_rk q3 i2 := by omega
  have f022 : own_rk q3 i2 < own_rk q2 i1 := by omega
  have f023 : ¬ own_rk q2 i1 < own_rk q3 i2 := by omega
  refine ⟨?_, ?_, ?_, ?_, ?_, ?_⟩
  all_goals simp [own_q2, own_q1, own_rm, own_p3, own_p2, own_p1, own_up, own_sift, own_upL, own_upI, own_c1, own_c2, own_c3, own_c4, f010, f011, f012, f013, f120, f121, f122, f123, f020, f021, f022, f023]
set_option maxHeartbeats 8000000 in
theorem own_s_fft (q1 q2 q3 : Int64) (i0 i1 i2 : Int32) (o1 : own_rk q1 i0 < own_rk q3 i2) (o2 : own_rk q3 i2 < own_rk q2 i1) : (own_upL (own_upL (own_upL (own_upL (own_upL (own_upL (fun _ => 0) 0 q1) 1 q2) 2 q3) 0 ((own_p3 (own_upL (own_upL (own_upL (fun _ => 0) 0 q1) 1 q2) 2 q3) (own_upI (own_upI (own_upI (fun _ => 0) 0 i0) 1 i1) 2 i2)).1 0)) 1 ((own_q1 (own_upL (own_upL (own_upL (fun _ => 0) 0 q1) 1 q2) 2 q3) (own_upI (own_upI (own_upI (fun _ => 0) 0 i0) 1 i1) 2 i2)).1 0)) 2 ((own_q2 (own_upL (own_upL (own_upL (fun _ => 0) 0 q1) 1 q2) 2 q3) (own_upI (own_upI (own_upI (fun _ => 0) 0 i0) 1 i1) 2 i2)).1 0)) 0 = q1 ∧ (own_upL (own_upL (own_upL (own_upL (own_upL (own_upL (fun _ => 0) 0 q1) 1 q2) 2 q3) 0 ((own_p3 (own_upL (own_upL (own_upL (fun _ => 0) 0 q1) 1 q2) 2 q3) (own_upI (own_upI (own_upI (fun _ => 0) 0 i0) 1 i1) 2 i2)).1 0)) 1 ((own_q1 (own_upL (own_upL (own_upL (fun _ => 0) 0 q1) 1 q2) 2 q3) (own_upI (own_upI (own_upI (fun _ => 0) 0 i0) 1 i1) 2 i2)).1 0)) 2 ((own_q2 (own_upL (own_upL (own_upL (fun _ => 0) 0 q1) 1 q2) 2 q3) (own_upI (own_upI (own_upI (fun _ => 0) 0 i0) 1 i1) 2 i2)).1 0)) 1 = q3 ∧ (own_upL (own_upL (own_upL (own_upL (own_upL (own_upL (fun _ => 0) 0 q1) 1 q2) 2 q3) 0 ((own_p3 (own_upL (own_upL (own_upL (fun _ => 0) 0 q1) 1 q2) 2 q3) (own_upI (own_upI (own_upI (fun _ => 0) 0 i0) 1 i1) 2 i2)).1 0)) 1 ((own_q1 (own_upL (own_upL (own_upL (fun _ => 0) 0 q1) 1 q2) 2 q3) (own_upI (own_upI (own_upI (fun _ => 0) 0 i0) 1 i1) 2 i2)).1 0)) 2 ((own_q2 (own_upL (own_upL (own_upL (fun _ => 0) 0 q1) 1 q2) 2 q3) (own_upI (own_upI (own_upI (fun _ => 0) 0 i0) 1 i1) 2 i2)).1 0)) 2 = q2 ∧ (own_upI (own_upI (own_upI (own_upI (own_upI (own_upI (fun _ => 0) 0 i0) 1 i1) 2 i2) 0 ((own_p3 (own_upL (own_upL (own_upL (fun _ => 0) 0 q1) 1 q2) 2 q3) (own_upI (own_upI (own_upI (fun _ => 0) 0 i0) 1 i1) 2 i2)).2 0).toInt32) 1 ((own_q1 (own_upL (own_upL (own_upL (fun _ => 0) 0 q1) 1 q2) 2 q3) (own_upI (own_upI (own_upI (fun _ => 0) 0 i0) 1 i1) 2 i2)).2 0).toInt32) 2 ((own_q2 (own_upL (own_upL (own_upL (fun _ => 0) 0 q1) 1 q2) 2 q3) (own_upI (own_upI (own_upI (fun _ => 0) 0 i0) 1 i1) 2 i2)).2 0).toInt32) 0 = i0 ∧ (own_upI (own_upI (own_upI (own_upI (own_upI (own_upI (fun _ => 0) 0 i0) 1 i1) 2 i2) 0 ((own_p3 (own_upL (own_upL (own_upL (fun _ => 0) 0 q1) 1 q2) 2 q3) (own_upI (own_upI (own_upI (fun _ => 0) 0 i0) 1 i1) 2 i2)).2 0).toInt32) 1 ((own_q1 (own_upL (own_upL (own_upL (fun _ => 0) 0 q1) 1 q2) 2 q3) (own_upI (own_upI (own_upI (fun _ => 0) 0 i0) 1 i1) 2 i2)).2 0).toInt32) 2 ((own_q2 (own_upL (own_upL (own_upL (fun _ => 0) 0 q1) 1 q2) 2 q3) (own_upI (own_upI (own_upI (fun _ => 0) 0 i0) 1 i1) 2 i2)).2 0).toInt32) 1 = i2 ∧ (own_upI (own_upI (own_upI (own_upI (own_upI (own_upI (fun _ => 0) 0 i0) 1 i1) 2 i2) 0 ((own_p3 (own_upL (own_upL (own_upL (fun _ => 0) 0 q1) 1 q2) 2 q3) (own_upI (own_upI (own_upI (fun _ => 0) 0 i0) 1 i1) 2 i2)).2 0).toInt32) 1 ((own_q1 (own_upL (own_upL (own_upL (fun _ => 0) 0 q1) 1 q2) 2 q3) (own_upI (own_upI (own_upI (fun _ => 0) 0 i0) 1 i1) 2 i2)).2 0).toInt32) 2 ((own_q2 (own_upL (own_upL (own_upL (fun _ => 0) 0 q1) 1 q2) 2 q3) (own_upI (own_upI (own_upI (fun _ => 0) 0 i0) 1 i1) 2 i2)).2 0).toInt32) 2 = i1 := by
  have f010 : own_rk q1 i0 ≤ own_rk q3 i2 := by omega
  have f011 : ¬ own_rk q3 i2 ≤ own_rk q1 i0 := by omega
  have f012 : own_rk q1 i0 < own_rk q3 i2 := by omega
  have f013 : ¬ own_rk q3 i2 < own_rk q1 i0 := by omega
  have f120 : own_rk q3 i2 ≤ own_rk q2 i1 := by omega
  have f121 : ¬ own_rk q2 i1 ≤ own_rk q3 i2 := by omega
  have f122 : own_rk q3 i2 < own_rk q2 i1 := by omega
  have f123 : ¬ own_rk q2 i1 < own_rk q3 i2 := by omega
  have f020 : own_rk q1 i0 ≤ own_rk q2 i1 := by omega
  have f021 : ¬ own_rk q2 i1 ≤ own_rk q1 i0 := by omega
  have f022 : own_rk q1 i0 < own_rk q2 i1 := by omega
  have f023 : ¬ own_rk q2 i1 < own_rk q1 i0 := by omega
  refine ⟨?_, ?_, ?_, ?_, ?_, ?_⟩
  all_goals simp [own_q2, own_q1, own_rm, own_p3, own_p2, own_p1, own_up, own_sift, own_upL, own_upI, own_c1, own_c2, own_c3, own_c4, f010, f011, f012, f013, f120, f121, f122, f123, f020, f021, f022, f023]
theorem own_m28 (x : Int32) : (x &&& 268435455).toInt = x.toInt % 268435456 := c_mask x 268435455 28 (by decide) (by decide)
theorem own_ilt (i x : Int32) (h : 0 ≤ i.toInt ∧ i.toInt < 1000000000) : i < ((i + (1 : Int32)) + (x &&& (268435455 : Int32))) ∧ 0 ≤ ((i + (1 : Int32)) + (x &&& (268435455 : Int32))).toInt ∧ ((i + (1 : Int32)) + (x &&& (268435455 : Int32))).toInt < i.toInt + 268435457 := by
  have h1 := own_m28 x
  have h2 := c_iadd i 1
  have h3 := c_iadd (i + 1) (x &&& 268435455)
  have h4 := rng32 (i + 1)
  have h5 := rng32 (i + 1 + (x &&& 268435455))
  have h6 : (1 : Int32).toInt = 1 := rfl
  rw [Int32.lt_iff_toInt_lt]
  omega
theorem own_cb0 {x y : Int64} {k : Int32} (h : y < x) : (if x < y then (1 : Int32) else (if x = y then k else (0 : Int32))) = (0 : Int32) := by
  rw [Int64.lt_iff_toInt_lt] at h
  rw [if_neg (by rw [Int64.lt_iff_toInt_lt]; omega), if_neg (by intro q; rw [q] at h; omega)]
theorem own_cb1 {x y : Int64} {k : Int32} (h : ¬ y < x) (hk : k = (1 : Int32)) : (if x < y then (1 : Int32) else (if x = y then k else (0 : Int32))) = (1 : Int32) := by
  rw [Int64.lt_iff_toInt_lt] at h
  by_cases q : x < y
  · rw [if_pos q]
  · rw [if_neg q, if_pos (Int64.toInt_inj.mp (by rw [Int64.lt_iff_toInt_lt] at q; omega)), hk]
theorem own_cb2 {x y : Int64} {k : Int32} (h : ¬ x < y) (hk : k = (0 : Int32)) : (if x < y then (1 : Int32) else (if x = y then k else (0 : Int32))) = (0 : Int32) := by
  rw [if_neg h, hk]
  split <;> rfl
theorem own_rkL {k1 k2 : Int64} {v1 v2 : Int32} (h : k1 < k2) : own_rk k1 v1 < own_rk k2 v2 := (own_c3 k1 k2 v1 v2).mp (Or.inl h)
theorem own_rkN {k1 k2 : Int64} {v1 v2 : Int32} (h : ¬ k2 < k1) (hv : v1 < v2) : own_rk k1 v1 < own_rk k2 v2 := (own_c3 k1 k2 v1 v2).mp (by
  rw [Int64.lt_iff_toInt_lt] at h
  rcases Int.lt_trichotomy k1.toInt k2.toInt with w | w | w
  · exact Or.inl (Int64.lt_iff_toInt_lt.mpr w)
  · exact Or.inr ⟨Int64.toInt_inj.mp w, hv⟩
  · exact absurd w h)
theorem own_no1 {x y z : Int64} (h1 : y < x) (h2 : ¬ z < x) (h3 : z < y) : False := by
  rw [Int64.lt_iff_toInt_lt] at h1 h2 h3
  omega
theorem own_no2 {x y z : Int64} (h1 : ¬ y < x) (h2 : z < x) (h3 : ¬ z < y) : False := by
  rw [Int64.lt_iff_toInt_lt] at h1 h2 h3
  omega
theorem own_io0 (io : Int32) (t p : Int64) (h : io = (1 : Int32)) : ((io &&& own_io (0 : Int32) t p) &&& 1) = (1 : Int32) := by rw [own_io, if_pos rfl, h]; rfl
theorem own_ioP (io ct : Int32) (t p : Int64) (h : ¬ ct = (0 : Int32)) (q : t < p) (hi : io = (0 : Int32) ∨ io = (1 : Int32)) : ((io &&& own_io ct t p) &&& 1) = (0 : Int32) := by
  rw [own_io, if_neg h, if_pos q]
  rcases hi with rfl | rfl <;> rfl
theorem own_ioN (io ct : Int32) (t p : Int64) (h : ¬ ct = (0 : Int32)) (q : ¬ t < p) (hi : io = (0 : Int32) ∨ io = (1 : Int32)) : ((io &&& own_io ct t p) &&& 1) = io := by
  rw [own_io, if_neg h, if_neg q]
  rcases hi with rfl | rfl <;> rfl
theorem ef_m0 (m : MethodId) (x0 : Int64) (x1 : Int64) (x2 : Int64) (x3 : Int32) (x4 : Int32) (x5 : Int32) : entryFrame m #[(.long x0), (.long x1), (.long x2), (.int x3), (.int x4), (.int x5)] maxLocals = mkF m 0 #[.val (.long x0), .second, .val (.long x1), .second, .val (.long x2), .second, .val (.int x3), .val (.int x4), .val (.int x5), .unset, .unset, .unset, .unset, .unset, .unset, .unset, .unset, .unset, .unset, .unset, .unset] [] := by first | (simp [entryFrame, mkF, argsToLocals, Value.category, maxLocals]; done) | rfl
set_option maxRecDepth 65536 in
set_option maxHeartbeats 40000000 in
theorem own_m0_ttt (l : Launch) (Z : State) (a0 : Array Value) (hw : ∀ d ∈ tables_1, d.before a0 Z = true) (h0 : Heap) (q1 : Int64) (q2 : Int64) (q3 : Int64) (p4 : Int32) (p5 : Int32) (p6 : Int32) (p : Program) (e : Env) (s : State) (m : MethodId) (below : List Frame) (meth : Method) (c : Code) (C : Outcome → State → Prop) (hC : ∀ v L u, own_Fw s [] L → (v = some (.int (1 : Int32))) → FrameEnd s (.returned v) u L room_1.cells room_1.slots → C (.returned v) u) (T : State) (h : Heap) (i0 i1 i2 : Int32) (W : own_W p l e room_1 s m #[(.long q1), (.long q2), (.long q3), (.int p4), (.int p5), (.int p6)] below meth c Z x ret code maxLocals [] T h (0) (0)) (c01 : q2 < q1) (c02 : q3 < q1) (c12 : q3 < q2) (hr01 : i0 < i1) (hr12 : i1 < i2) (hr02 : i0 < i2) :
    own_Go p e below C T (mkF m 31 #[.val (.long q1), .second, .val (.long q2), .second, .val (.long q3), .second, .val (.int p4), .val (.int p5), .val (.int p6), .val (.int i0), .val (.int i1), .val (.int i2), .unset, .unset, .unset, .unset, .unset, .unset, .unset, .unset, .unset] []) := by
  refine own_lloadN W 32 at_31 rfl rfl ?_
  refine own_iconst W (1 : Int32) 33 at_32 rfl rfl ?_
  refine own_lloadN W 34 at_33 rfl rfl ?_
  refine own_iconst W (0 : Int32) 35 at_34 rfl rfl ?_
  refine own_callS W (A := [(.long q2), (.int (1 : Int32)), (.long q1), (.int (0 : Int32))]) (wt := 0) (pc' := 38) (st := []) at_35 (wd1 hw) (wd2 hw) (wd3 hw) (wd4 hw) (by decide) (own_m1 l Z a0 hw [] h q2 (1 : Int32) q1 (0 : Int32)) all0 rfl pd_7 rfl (Nat.le_of_eq rfl) (by decide) (by decide) (by decide) (by decide) rfl ?_
  rintro T1001 h1001 _ W1001 K1001 P1001 rfl
  rw [P1001 rfl rfl] at W1001
  show own_Go p e below C T1001 (mkF m 38 #[.val (.long q1), .second, .val (.long q2), .second, .val (.long q3), .second, .val (.int p4), .val (.int p5), .val (.int p6), .val (.int i0), .val (.int i1), .val (.int i2), .unset, .unset, .unset, .unset, .unset, .unset, .unset, .unset, .unset] [(.int (if q2 < q1 then (1 : Int32) else (if q2 = q1 then (if (1 : Int32) < (0 : Int32) then (1 : Int32) else (0 : Int32)) else (0 : Int32))))])
  rw [show (if q2 < q1 then (1 : Int32) else (if q2 = q1 then (if (1 : Int32) < (0 : Int32) then (1 : Int32) else (0 : Int32)) else (0 : Int32))) = (1 : Int32) from if_pos c01]
  refine own_lload W1001 40 at_38 rfl rfl ?_
  refine own_iconst W1001 (2 : Int32) 41 at_40 rfl rfl ?_
  refine own_lloadN W1001 42 at_41 rfl rfl ?_
  refine own_iconst W1001 (0 : Int32) 43 at_42 rfl rfl ?_
  refine own_callS W1001 (A := [(.long q3), (.int (2 : Int32)), (.long q1), (.int (0 : Int32))]) (wt := 1) (pc' := 46) (st := [(.int (1 : Int32))]) at_43 (wd1 hw) (wd2 hw) (wd3 hw) (wd4 hw) (by decide) (own_m1 l Z a0 hw [] h q3 (2 : Int32) q1 (0 : Int32)) all0 rfl pd_7 rfl (Nat.le_of_eq rfl) (by decide) (by decide) (by decide) (by decide) rfl ?_
  rintro T1002 h1002 _ W1002 K1002 P1002 rfl
  rw [P1002 rfl rfl] at W1002
  show own_Go p e below C T1002 (mkF m 46 #[.val (.long q1), .second, .val (.long q2), .second, .val (.long q3), .second, .val (.int p4), .val (.int p5), .val (.int p6), .val (.int i0), .val (.int i1), .val (.int i2), .unset, .unset, .unset, .unset, .unset, .unset, .unset, .unset, .unset] [(.int (if q3 < q1 then (1 : Int32) else (if q3 = q1 then (if (2 : Int32) < (0 : Int32) then (1 : Int32) else (0 : Int32)) else (0 : Int32)))), (.int (1 : Int32))])
  rw [show (if q3 < q1 then (1 : Int32) else (if q3 = q1 then (if (2 : Int32) < (0 : Int32) then (1 : Int32) else (0 : Int32)) else (0 : Int32))) = (1 : Int32) from if_pos c02]
  refine own_iadd W1002 47 at_46 rfl ?_
  rw [show ((1 : Int32) + (1 : Int32)) = (2 : Int32) from rfl]
  refine own_istore W1002 49 #[.val (.long q1), .second, .val (.long q2), .second, .val (.long q3), .second, .val (.int p4), .val (.int p5), .val (.int p6), .val (.int i0), .val (.int i1), .val (.int i2), .val (.int (2 : Int32)), .unset, .unset, .unset, .unset, .unset, .unset, .unset, .unset] at_47 rfl rfl ?_
  refine own_lloadN W1002 50 at_49 rfl rfl ?_
  refine own_iconst W1002 (0 : Int32) 51 at_50 rfl rfl ?_
  refine own_lloadN W1002 52 at_51 rfl rfl ?_
  refine own_iconst W1002 (1 : Int32) 53 at_52 rfl rfl ?_
  refine own_callS W1002 (A := [(.long q1), (.int (0 : Int32)), (.long q2), (.int (1 : Int32))]) (wt := 0) (pc' := 56) (st := []) at_53 (wd1 hw) (wd2 hw) (wd3 hw) (wd4 hw) (by decide) (own_m1 l Z a0 hw [] h q1 (0 : Int32) q2 (1 : Int32)) all0 rfl pd_7 rfl (Nat.le_of_eq rfl) (by decide) (by decide) (by decide) (by decide) rfl ?_
  rintro T1003 h1003 _ W1003 K1003 P1003 rfl
  rw [P1003 rfl rfl] at W1003
  show own_Go p e below C T1003 (mkF m 56 #[.val (.long q1), .second, .val (.long q2), .second, .val (.long q3), .second, .val (.int p4), .val (.int p5), .val (.int p6), .val (.int i0), .val (.int i1), .val (.int i2), .val (.int (2 : Int32)), .unset, .unset, .unset, .unset, .unset, .unset, .unset, .unset] [(.int (if q1 < q2 then (1 : Int32) else (if q1 = q2 then (if (0 : Int32) < (1 : Int32) then (1 : Int32) else (0 : Int32)) else (0 : Int32))))])
  rw [show (if q1 < q2 then (1 : Int32) else (if q1 = q2 then (if (0 : Int32) < (1 : Int32) then (1 : Int32) else (0 : Int32)) else (0 : Int32))) = (0 : Int32) from own_cb0 c01]
  refine own_lload W1003 58 at_56 rfl rfl ?_
  refine own_iconst W1003 (2 : Int32) 59 at_58 rfl rfl ?_
  refine own_lloadN W1003 60 at_59 rfl rfl ?_
  refine own_iconst W1003 (1 : Int32) 61 at_60 rfl rfl ?_
  refine own_callS W1003 (A := [(.long q3), (.int (2 : Int32)), (.long q2), (.int (1 : Int32))]) (wt := 1) (pc' := 64) (st := [(.int (0 : Int32))]) at_61 (wd1 hw) (wd2 hw) (wd3 hw) (wd4 hw) (by decide) (own_m1 l Z a0 hw [] h q3 (2 : Int32) q2 (1 : Int32)) all0 rfl pd_7 rfl (Nat.le_of_eq rfl) (by decide) (by decide) (by decide) (by decide) rfl ?_
  rintro T1004 h1004 _ W1004 K1004 P1004 rfl
  rw [P1004 rfl rfl] at W1004
  show own_Go p e below C T1004 (mkF m 64 #[.val (.long q1), .second, .val (.long q2), .second, .val (.long q3), .second, .val (.int p4), .val (.int p5), .val (.int p6), .val (.int i0), .val (.int i1), .val (.int i2), .val (.int (2 : Int32)), .unset, .unset, .unset, .unset, .unset, .unset, .unset, .unset] [(.int (if q3 < q2 then (1 : Int32) else (if q3 = q2 then (if (2 : Int32) < (1 : Int32) then (1 : Int32) else (0 : Int32)) else (0 : Int32)))), (.int (0 : Int32))])
  rw [show (if q3 < q2 then (1 : Int32) else (if q3 = q2 then (if (2 : Int32) < (1 : Int32) then (1 : Int32) else (0 : Int32)) else (0 : Int32))) = (1 : Int32) from if_pos c12]
  refine own_iadd W1004 65 at_64 rfl ?_
  rw [show ((0 : Int32) + (1 : Int32)) = (1 : Int32) from rfl]
  refine own_istore W1004 67 #[.val (.long q1), .second, .val (.long q2), .second, .val (.long q3), .second, .val (.int p4), .val (.int p5), .val (.int p6), .val (.int i0), .val (.int i1), .val (.int i2), .val (.int (2 : Int32)), .val (.int (1 : Int32)), .unset, .unset, .unset, .unset, .unset, .unset, .unset] at_65 rfl rfl ?_
  refine own_lloadN W1004 68 at_67 rfl rfl ?_
  refine own_iconst W1004 (0 : Int32) 69 at_68 rfl rfl ?_
  refine own_lload W1004 71 at_69 rfl rfl ?_
  refine own_iconst W1004 (2 : Int32) 72 at_71 rfl rfl ?_
  refine own_callS W1004 (A := [(.long q1), (.int (0 : Int32)), (.long q3), (.int (2 : Int32))]) (wt := 0) (pc' := 75) (st := []) at_72 (wd1 hw) (wd2 hw) (wd3 hw) (wd4 hw) (by decide) (own_m1 l Z a0 hw [] h q1 (0 : Int32) q3 (2 : Int32)) all0 rfl pd_7 rfl (Nat.le_of_eq rfl) (by decide) (by decide) (by decide) (by decide) rfl ?_
  rintro T1005 h1005 _ W1005 K1005 P1005 rfl
  rw [P1005 rfl rfl] at W1005
  show own_Go p e below C T1005 (mkF m 75 #[.val (.long q1), .second, .val (.long q2), .second, .val (.long q3), .second, .val (.int p4), .val (.int p5), .val (.int p6), .val (.int i0), .val (.int i1), .val (.int i2), .val (.int (2 : Int32)), .val (.int (1 : Int32)), .unset, .unset, .unset, .unset, .unset, .unset, .unset] [(.int (if q1 < q3 then (1 : Int32) else (if q1 = q3 then (if (0 : Int32) < (2 : Int32) then (1 : Int32) else (0 : Int32)) else (0 : Int32))))])
  rw [show (if q1 < q3 then (1 : Int32) else (if q1 = q3 then (if (0 : Int32) < (2 : Int32) then (1 : Int32) else (0 : Int32)) else (0 : Int32))) = (0 : Int32) from own_cb0 c02]
  refine own_lloadN W1005 76 at_75 rfl rfl ?_
  refine own_iconst W1005 (1 : Int32) 77 at_76 rfl rfl ?_
  refine own_lload W1005 79 at_77 rfl rfl ?_
  refine own_iconst W1005 (2 : Int32) 80 at_79 rfl rfl ?_
  refine own_callS W1005 (A := [(.long q2), (.int (1 : Int32)), (.long q3), (.int (2 : Int32))]) (wt := 1) (pc' := 83) (st := [(.int (0 : Int32))]) at_80 (wd1 hw) (wd2 hw) (wd3 hw) (wd4 hw) (by decide) (own_m1 l Z a0 hw [] h q2 (1 : Int32) q3 (2 : Int32)) all0 rfl pd_7 rfl (Nat.le_of_eq rfl) (by decide) (by decide) (by decide) (by decide) rfl ?_
  rintro T1006 h1006 _ W1006 K1006 P1006 rfl
  rw [P1006 rfl rfl] at W1006
  show own_Go p e below C T1006 (mkF m 83 #[.val (.long q1), .second, .val (.long q2), .second, .val (.long q3), .second, .val (.int p4), .val (.int p5), .val (.int p6), .val (.int i0), .val (.int i1), .val (.int i2), .val (.int (2 : Int32)), .val (.int (1 : Int32)), .unset, .unset, .unset, .unset, .unset, .unset, .unset] [(.int (if q2 < q3 then (1 : Int32) else (if q2 = q3 then (if (1 : Int32) < (2 : Int32) then (1 : Int32) else (0 : Int32)) else (0 : Int32)))), (.int (0 : Int32))])
  rw [show (if q2 < q3 then (1 : Int32) else (if q2 = q3 then (if (1 : Int32) < (2 : Int32) then (1 : Int32) else (0 : Int32)) else (0 : Int32))) = (0 : Int32) from own_cb0 c12]
  refine own_iadd W1006 84 at_83 rfl ?_
  rw [show ((0 : Int32) + (0 : Int32)) = (0 : Int32) from rfl]
  refine own_istore W1006 86 #[.val (.long q1), .second, .val (.long q2), .second, .val (.long q3), .second, .val (.int p4), .val (.int p5), .val (.int p6), .val (.int i0), .val (.int i1), .val (.int i2), .val (.int (2 : Int32)), .val (.int (1 : Int32)), .val (.int (0 : Int32)), .unset, .unset, .unset, .unset, .unset, .unset] at_84 rfl rfl ?_
  refine own_iconst W1006 (3 : Int32) 87 at_86 rfl rfl ?_
  refine own_newarray W1006 3 3 89 at_87 (wd5 hw) rfl (Nat.le_refl _) (by decide) (by decide) (by decide) rfl ?_
  intro T1007 h1007 ex W1007 E1007 g_ex o_ex V_ex
  show own_Go p e below C T1007 (mkF m 89 #[.val (.long q1), .second, .val (.long q2), .second, .val (.long q3), .second, .val (.int p4), .val (.int p5), .val (.int p6), .val (.int i0), .val (.int i1), .val (.int i2), .val (.int (2 : Int32)), .val (.int (1 : Int32)), .val (.int (0 : Int32)), .unset, .unset, .unset, .unset, .unset, .unset] [(.ref ex)])
  refine own_astore W1007 91 #[.val (.long q1), .second, .val (.long q2), .second, .val (.long q3), .second, .val (.int p4), .val (.int p5), .val (.int p6), .val (.int i0), .val (.int i1), .val (.int i2), .val (.int (2 : Int32)), .val (.int (1 : Int32)), .val (.int (0 : Int32)), .val (.ref ex), .unset, .unset, .unset, .unset, .unset] at_89 rfl rfl rfl ?_
  refine own_iconst W1007 (3 : Int32) 92 at_91 rfl rfl ?_
  refine own_newarray W1007 3 3 94 at_92 (wd6 hw) rfl (Nat.le_refl _) (by decide) (by decide) (by decide) rfl ?_
  intro T1008 h1008 et W1008 E1008 g_et o_et V_et
  have ne_ex_et : ex ≠ et := by rw [g_et]; exact Nat.ne_of_lt V_ex.lt
  have V_ex := V_ex.ext E1008
  show own_Go p e below C T1008 (mkF m 94 #[.val (.long q1), .second, .val (.long q2), .second, .val (.long q3), .second, .val (.int p4), .val (.int p5), .val (.int p6), .val (.int i0), .val (.int i1), .val (.int i2), .val (.int (2 : Int32)), .val (.int (1 : Int32)), .val (.int (0 : Int32)), .val (.ref ex), .unset, .unset, .unset, .unset, .unset] [(.ref et)])
  refine own_astore W1008 96 #[.val (.long q1), .second, .val (.long q2), .second, .val (.long q3), .second, .val (.int p4), .val (.int p5), .val (.int p6), .val (.int i0), .val (.int i1), .val (.int i2), .val (.int (2 : Int32)), .val (.int (1 : Int32)), .val (.int (0 : Int32)), .val (.ref ex), .val (.ref et), .unset, .unset, .unset, .unset] at_94 rfl rfl rfl ?_
  refine own_aload W1008 98 at_96 rfl rfl rfl ?_
  refine own_iload W1008 100 at_98 rfl rfl ?_
  refine own_iload W1008 102 at_100 rfl rfl ?_
  refine own_iastore W1008 2 103 at_102 V_ex (Or.inr o_ex) rfl (by decide) rfl ?_
  intro T1009 h1009 W1009 Wr1009 V_ex
  have V_et := V_et.other Wr1009 (Ne.symm ne_ex_et)
  show own_Go p e below C T1009 (mkF m 103 #[.val (.long q1), .second, .val (.long q2), .second, .val (.long q3), .second, .val (.int p4), .val (.int p5), .val (.int p6), .val (.int i0), .val (.int i1), .val (.int i2), .val (.int (2 : Int32)), .val (.int (1 : Int32)), .val (.int (0 : Int32)), .val (.ref ex), .val (.ref et), .unset, .unset, .unset, .unset] [])
  refine own_aload W1009 105 at_103 rfl rfl rfl ?_
  refine own_iload W1009 107 at_105 rfl rfl ?_
  refine own_lloadN W1009 108 at_107 rfl rfl ?_
  refine own_lastore W1009 2 109 at_108 V_et (Or.inr o_et) rfl (by decide) rfl ?_
  intro T1010 h1010 W1010 Wr1010 V_et
  have V_ex := V_ex.other Wr1010 ne_ex_et
  show own_Go p e below C T1010 (mkF m 109 #[.val (.long q1), .second, .val (.long q2), .second, .val (.long q3), .second, .val (.int p4), .val (.int p5), .val (.int p6), .val (.int i0), .val (.int i1), .val (.int i2), .val (.int (2 : Int32)), .val (.int (1 : Int32)), .val (.int (0 : Int32)), .val (.ref ex), .val (.ref et), .unset, .unset, .unset, .unset] [])
  refine own_aload W1010 111 at_109 rfl rfl rfl ?_
  refine own_iload W1010 113 at_111 rfl rfl ?_
  refine own_iload W1010 115 at_113 rfl rfl ?_
  refine own_iastore W1010 1 116 at_115 V_ex (Or.inr o_ex) rfl (by decide) rfl ?_
  intro T1011 h1011 W1011 Wr1011 V_ex
  have V_et := V_et.other Wr1011 (Ne.symm ne_ex_et)
  show own_Go p e below C T1011 (mkF m 116 #[.val (.long q1), .second, .val (.long q2), .second, .val (.long q3), .second, .val (.int p4), .val (.int p5), .val (.int p6), .val (.int i0), .val (.int i1), .val (.int i2), .val (.int (2 : Int32)), .val (.int (1 : Int32)), .val (.int (0 : Int32)), .val (.ref ex), .val (.ref et), .unset, .unset, .unset, .unset] [])
  refine own_aload W1011 118 at_116 rfl rfl rfl ?_
  refine own_iload W1011 120 at_118 rfl rfl ?_
  refine own_lloadN W1011 121 at_120 rfl rfl ?_
  refine own_lastore W1011 1 122 at_121 V_et (Or.inr o_et) rfl (by decide) rfl ?_
  intro T1012 h1012 W1012 Wr1012 V_et
  have V_ex := V_ex.other Wr1012 ne_ex_et
  show own_Go p e below C T1012 (mkF m 122 #[.val (.long q1), .second, .val (.long q2), .second, .val (.long q3), .second, .val (.int p4), .val (.int p5), .val (.int p6), .val (.int i0), .val (.int i1), .val (.int i2), .val (.int (2 : Int32)), .val (.int (1 : Int32)), .val (.int (0 : Int32)), .val (.ref ex), .val (.ref et), .unset, .unset, .unset, .unset] [])
  refine own_aload W1012 124 at_122 rfl rfl rfl ?_
  refine own_iload W1012 126 at_124 rfl rfl ?_
  refine own_iload W1012 128 at_126 rfl rfl ?_
  refine own_iastore W1012 0 129 at_128 V_ex (Or.inr o_ex) rfl (by decide) rfl ?_
  intro T1013 h1013 W1013 Wr1013 V_ex
  have V_et := V_et.other Wr1013 (Ne.symm ne_ex_et)
  show own_Go p e below C T1013 (mkF m 129 #[.val (.long q1), .second, .val (.long q2), .second, .val (.long q3), .second, .val (.int p4), .val (.int p5), .val (.int p6), .val (.int i0), .val (.int i1), .val (.int i2), .val (.int (2 : Int32)), .val (.int (1 : Int32)), .val (.int (0 : Int32)), .val (.ref ex), .val (.ref et), .unset, .unset, .unset, .unset] [])
  refine own_aload W1013 131 at_129 rfl rfl rfl ?_
  refine own_iload W1013 133 at_131 rfl rfl ?_
  refine own_lload W1013 135 at_133 rfl rfl ?_
  refine own_lastore W1013 0 136 at_135 V_et (Or.inr o_et) rfl (by decide) rfl ?_
  intro T1014 h1014 W1014 Wr1014 V_et
  have V_ex := V_ex.other Wr1014 ne_ex_et
  show own_Go p e below C T1014 (mkF m 136 #[.val (.long q1), .second, .val (.long q2), .second, .val (.long q3), .second, .val (.int p4), .val (.int p5), .val (.int p6), .val (.int i0), .val (.int i1), .val (.int i2), .val (.int (2 : Int32)), .val (.int (1 : Int32)), .val (.int (0 : Int32)), .val (.ref ex), .val (.ref et), .unset, .unset, .unset, .unset] [])
  refine own_new W1014 139 at_136 (wd7 hw) (wd8 hw) (wd9 hw) (by decide) (by decide) rfl ?_
  intro T1015 h1015 o W1015 E1015 g_o o_o X_o D_o
  have ne_ex_o : ex ≠ o := by rw [g_o]; exact Nat.ne_of_lt V_ex.lt
  have ne_et_o : et ≠ o := by rw [g_o]; exact Nat.ne_of_lt V_et.lt
  have V_ex := V_ex.ext E1015
  have V_et := V_et.ext E1015
  have F_inOrder_o : Fld Z h1015 o "com/example/queueloom/queueloom/engine/Arrivals" "inOrder" "Z" (.int (0 : Int32)) := D_o (Or.inl (wd17 hw)) (ty := .boolean) (by decide)
  have F_times_o : Fld Z h1015 o "com/example/queueloom/queueloom/engine/Arrivals" "times" "[J" .null := D_o (Or.inl (wd19 hw)) (ty := (.array .long)) (by decide)
  have F_indices_o : Fld Z h1015 o "com/example/queueloom/queueloom/engine/Arrivals" "indices" "[I" .null := D_o (Or.inl (wd21 hw)) (ty := (.array .int)) (by decide)
  have F_count_o : Fld Z h1015 o "com/example/queueloom/queueloom/engine/Arrivals" "count" "I" (.int (0 : Int32)) := D_o (Or.inl (wd28 hw)) (ty := .int) (by decide)
  have F_first_o : Fld Z h1015 o "com/example/queueloom/queueloom/engine/Arrivals" "first" "I" (.int (0 : Int32)) := D_o (Or.inl (wd35 hw)) (ty := .int) (by decide)
  have F_later_o : Fld Z h1015 o "com/example/queueloom/queueloom/engine/Arrivals" "later" "Lcom/example/queueloom/queueloom/engine/LongPairHeap;" .null := D_o (Or.inl (wd100 hw)) (ty := (.object "com/example/queueloom/queueloom/engine/LongPairHeap")) (by decide)
  show own_Go p e below C T1015 (mkF m 139 #[.val (.long q1), .second, .val (.long q2), .second, .val (.long q3), .second, .val (.int p4), .val (.int p5), .val (.int p6), .val (.int i0), .val (.int i1), .val (.int i2), .val (.int (2 : Int32)), .val (.int (1 : Int32)), .val (.int (0 : Int32)), .val (.ref ex), .val (.ref et), .unset, .unset, .unset, .unset] [(.ref o)])
  refine own_dup W1015 140 at_139 rfl rfl ?_
  refine own_iconst W1015 (3 : Int32) 141 at_140 rfl rfl ?_
  have hol := X_o.lt
  have hel := V_ex.lt
  have hdl := V_et.lt
  refine own_callN W1015 (A := [(.int (3 : Int32))]) (wt := 1) (pc' := 144) (st := [(.ref o)]) at_141 rfl (wd10 hw) (wd11 hw) (wd9 hw) (wd12 hw) (by decide) (own_m2 l Z a0 hw [] h1015 o X_o F_times_o F_indices_o F_count_o F_first_o F_inOrder_o F_later_o) (allS (Or.inr o_o) all0) rfl pd_2 rfl (Nat.le_of_eq rfl) (by decide) (by decide) (by decide) (by decide) rfl ?_
  rintro T1016 h1016 _ W1016 K1016 P1016 ⟨rfl, ⟨tt, ii, o_tt, o_ii, ne_t_i, Y_ii, F_times_o, F_indices_o, F_count_o, F_first_o, F_inOrder_o, F_later_o, V_tt, V_ii⟩⟩
  have V_ex := V_ex.keep K1016 (ninS ne_ex_o nin0)
  have V_et := V_et.keep K1016 (ninS ne_et_o nin0)
  have X_o := X_o.keep K1016
  show own_Go p e below C T1016 (mkF m 144 #[.val (.long q1), .second, .val (.long q2), .second, .val (.long q3), .second, .val (.int p4), .val (.int p5), .val (.int p6), .val (.int i0), .val (.int i1), .val (.int i2), .val (.int (2 : Int32)), .val (.int (1 : Int32)), .val (.int (0 : Int32)), .val (.ref ex), .val (.ref et), .unset, .unset, .unset, .unset] [(.ref o)])
  have ne_o_tt : o ≠ tt := Nat.ne_of_lt (Nat.lt_of_lt_of_le hol o_tt)
  have ne_o_ii : o ≠ ii := Nat.ne_of_lt (Nat.lt_of_lt_of_le hol o_ii)
  have ne_ex_tt : ex ≠ tt := Nat.ne_of_lt (Nat.lt_of_lt_of_le hel o_tt)
  have ne_ex_ii : ex ≠ ii := Nat.ne_of_lt (Nat.lt_of_lt_of_le hel o_ii)
  have ne_et_tt : et ≠ tt := Nat.ne_of_lt (Nat.lt_of_lt_of_le hdl o_tt)
  have ne_et_ii : et ≠ ii := Nat.ne_of_lt (Nat.lt_of_lt_of_le hdl o_ii)
  refine own_astore W1016 146 #[.val (.long q1), .second, .val (.long q2), .second, .val (.long q3), .second, .val (.int p4), .val (.int p5), .val (.int p6), .val (.int i0), .val (.int i1), .val (.int i2), .val (.int (2 : Int32)), .val (.int (1 : Int32)), .val (.int (0 : Int32)), .val (.ref ex), .val (.ref et), .val (.ref o), .unset, .unset, .unset] at_144 rfl rfl rfl ?_
  refine own_aload W1016 148 at_146 rfl rfl rfl ?_
  refine own_lloadN W1016 149 at_148 rfl rfl ?_
  refine own_iload W1016 151 at_149 rfl rfl ?_
  refine own_callV W1016 (A := [(.long q1), (.int i0)]) (wt := 0) (pc' := 154) (st := []) at_151 (wd22 hw) (wd23 hw) (own_nf W1016 (wd25 hw)) (wd25 hw) (wd24 hw) (wd9 hw) (wd26 hw) (by decide) X_o (own_m4 l Z a0 hw [] h1016 o q1 i0 tt ii (fun _ => 0) (fun _ => 0) 0 (0 : Int32) (1 : Int32) X_o F_times_o F_indices_o F_count_o F_first_o F_inOrder_o F_later_o V_tt V_ii ne_o_tt ne_o_ii ne_t_i rfl (by decide)) (allS (Or.inr o_o) (allS (Or.inr (Nat.le_trans (Nat.le_trans o_o (Nat.le_of_lt hol)) o_tt)) (allS (Or.inr (Nat.le_trans (Nat.le_trans o_o (Nat.le_of_lt hol)) o_ii)) all0))) rfl pd_8 rfl (Nat.le_of_eq rfl) (by decide) (by decide) (by decide) (by decide) rfl ?_
  rintro T1017 h1017 _ W1017 K1017 P1017 ⟨rfl, ⟨F_times_o, F_indices_o, F_count_o, F_first_o, F_inOrder_o, F_later_o, V_tt, V_ii⟩⟩
  have V_ex := V_ex.keep K1017 (ninS ne_ex_o (ninS ne_ex_tt (ninS ne_ex_ii nin0)))
  have V_et := V_et.keep K1017 (ninS ne_et_o (ninS ne_et_tt (ninS ne_et_ii nin0)))
  have X_o := X_o.keep K1017
  have Y_ii := Y_ii.keep K1017
  show own_Go p e below C T1017 (mkF m 154 #[.val (.long q1), .second, .val (.long q2), .second, .val (.long q3), .second, .val (.int p4), .val (.int p5), .val (.int p6), .val (.int i0), .val (.int i1), .val (.int i2), .val (.int (2 : Int32)), .val (.int (1 : Int32)), .val (.int (0 : Int32)), .val (.ref ex), .val (.ref et), .val (.ref o), .unset, .unset, .unset] [])
  have F_inOrder_o : Fld Z h1017 o "com/example/queueloom/queueloom/engine/Arrivals" "inOrder" "Z" (.int (((1 : Int32) &&& own_io (0 : Int32) q1 0) &&& 1)) := F_inOrder_o
  rw [own_io0 (1 : Int32) q1 0 rfl] at F_inOrder_o
  have F_count_o : Fld Z h1017 o "com/example/queueloom/queueloom/engine/Arrivals" "count" "I" (.int (1 : Int32)) := F_count_o
  refine own_aload W1017 156 at_154 rfl rfl rfl ?_
  refine own_lloadN W1017 157 at_156 rfl rfl ?_
  refine own_iload W1017 159 at_157 rfl rfl ?_
  refine own_callV W1017 (A := [(.long q2), (.int i1)]) (wt := 0) (pc' := 162) (st := []) at_159 (wd22 hw) (wd23 hw) (own_nf W1017 (wd25 hw)) (wd25 hw) (wd24 hw) (wd9 hw) (wd26 hw) (by decide) X_o (own_m4 l Z a0 hw [] h1017 o q2 i1 tt ii (own_upL (fun _ => 0) 0 q1) (own_upI (fun _ => 0) 0 i0) 1 (1 : Int32) (1 : Int32) X_o F_times_o F_indices_o F_count_o F_first_o F_inOrder_o F_later_o V_tt V_ii ne_o_tt ne_o_ii ne_t_i rfl (by decide)) (allS (Or.inr o_o) (allS (Or.inr (Nat.le_trans (Nat.le_trans o_o (Nat.le_of_lt hol)) o_tt)) (allS (Or.inr (Nat.le_trans (Nat.le_trans o_o (Nat.le_of_lt hol)) o_ii)) all0))) rfl pd_8 rfl (Nat.le_of_eq rfl) (by decide) (by decide) (by decide) (by decide) rfl ?_
  rintro T1018 h1018 _ W1018 K1018 P1018 ⟨rfl, ⟨F_times_o, F_indices_o, F_count_o, F_first_o, F_inOrder_o, F_later_o, V_tt, V_ii⟩⟩
  have V_ex := V_ex.keep K1018 (ninS ne_ex_o (ninS ne_ex_tt (ninS ne_ex_ii nin0)))
  have V_et := V_et.keep K1018 (ninS ne_et_o (ninS ne_et_tt (ninS ne_et_ii nin0)))
  have X_o := X_o.keep K1018
  have Y_ii := Y_ii.keep K1018
  show own_Go p e below C T1018 (mkF m 162 #[.val (.long q1), .second, .val (.long q2), .second, .val (.long q3), .second, .val (.int p4), .val (.int p5), .val (.int p6), .val (.int i0), .val (.int i1), .val (.int i2), .val (.int (2 : Int32)), .val (.int (1 : Int32)), .val (.int (0 : Int32)), .val (.ref ex), .val (.ref et), .val (.ref o), .unset, .unset, .unset] [])
  have F_inOrder_o : Fld Z h1018 o "com/example/queueloom/queueloom/engine/Arrivals" "inOrder" "Z" (.int (((1 : Int32) &&& own_io (1 : Int32) q2 q1) &&& 1)) := F_inOrder_o
  rw [own_ioP (1 : Int32) (1 : Int32) q2 q1 (by decide) c01 (by decide)] at F_inOrder_o
  have F_count_o : Fld Z h1018 o "com/example/queueloom/queueloom/engine/Arrivals" "count" "I" (.int (2 : Int32)) := F_count_o
  refine own_aload W1018 164 at_162 rfl rfl rfl ?_
  refine own_lload W1018 166 at_164 rfl rfl ?_
  refine own_iload W1018 168 at_166 rfl rfl ?_
  refine own_callV W1018 (A := [(.long q3), (.int i2)]) (wt := 0) (pc' := 171) (st := []) at_168 (wd22 hw) (wd23 hw) (own_nf W1018 (wd25 hw)) (wd25 hw) (wd24 hw) (wd9 hw) (wd26 hw) (by decide) X_o (own_m4 l Z a0 hw [] h1018 o q3 i2 tt ii (own_upL (own_upL (fun _ => 0) 0 q1) 1 q2) (own_upI (own_upI (fun _ => 0) 0 i0) 1 i1) 2 (2 : Int32) (0 : Int32) X_o F_times_o F_indices_o F_count_o F_first_o F_inOrder_o F_later_o V_tt V_ii ne_o_tt ne_o_ii ne_t_i rfl (by decide)) (allS (Or.inr o_o) (allS (Or.inr (Nat.le_trans (Nat.le_trans o_o (Nat.le_of_lt hol)) o_tt)) (allS (Or.inr (Nat.le_trans (Nat.le_trans o_o (Nat.le_of_lt hol)) o_ii)) all0))) rfl pd_8 rfl (Nat.le_of_eq rfl) (by decide) (by decide) (by decide) (by decide) rfl ?_
  rintro T1019 h1019 _ W1019 K1019 P1019 ⟨rfl, ⟨F_times_o, F_indices_o, F_count_o, F_first_o, F_inOrder_o, F_later_o, V_tt, V_ii⟩⟩
  have V_ex := V_ex.keep K1019 (ninS ne_ex_o (ninS ne_ex_tt (ninS ne_ex_ii nin0)))
  have V_et := V_et.keep K1019 (ninS ne_et_o (ninS ne_et_tt (ninS ne_et_ii nin0)))
  have X_o := X_o.keep K1019
  have Y_ii := Y_ii.keep K1019
  show own_Go p e below C T1019 (mkF m 171 #[.val (.long q1), .second, .val (.long q2), .second, .val (.long q3), .second, .val (.int p4), .val (.int p5), .val (.int p6), .val (.int i0), .val (.int i1), .val (.int i2), .val (.int (2 : Int32)), .val (.int (1 : Int32)), .val (.int (0 : Int32)), .val (.ref ex), .val (.ref et), .val (.ref o), .unset, .unset, .unset] [])
  have F_inOrder_o : Fld Z h1019 o "com/example/queueloom/queueloom/engine/Arrivals" "inOrder" "Z" (.int (((0 : Int32) &&& own_io (2 : Int32) q3 q2) &&& 1)) := F_inOrder_o
  rw [own_ioP (0 : Int32) (2 : Int32) q3 q2 (by decide) c12 (by decide)] at F_inOrder_o
  have F_count_o : Fld Z h1019 o "com/example/queueloom/queueloom/engine/Arrivals" "count" "I" (.int (3 : Int32)) := F_count_o
  refine own_aload W1019 173 at_171 rfl rfl rfl ?_
  refine own_callV W1019 (A := []) (wt := 0) (pc' := 176) (st := []) at_173 (wd29 hw) (wd30 hw) (own_nf W1019 (wd32 hw)) (wd32 hw) (wd31 hw) (wd9 hw) (wd33 hw) (by decide) X_o (own_m5 l Z a0 hw [] h1019 o tt ii (own_upL (own_upL (own_upL (fun _ => 0) 0 q1) 1 q2) 2 q3) (own_upI (own_upI (own_upI (fun _ => 0) 0 i0) 1 i1) 2 i2) (0 : Int32) F_times_o F_indices_o F_count_o F_first_o F_inOrder_o F_later_o V_tt V_ii Y_ii) all0 rfl pd_9 rfl (Nat.le_of_eq rfl) (by decide) (by decide) (by decide) (by decide) rfl ?_
  rintro T1020 h1020 _ W1020 K1020 P1020 ⟨bf, rfl, o_bf, V_bf⟩
  have V_ex := V_ex.keep K1020 nin0
  have V_et := V_et.keep K1020 nin0
  have X_o := X_o.keep K1020
  have Y_ii := Y_ii.keep K1020
  have F_times_o := F_times_o.keep K1020 nin0
  have F_indices_o := F_indices_o.keep K1020 nin0
  have F_count_o := F_count_o.keep K1020 nin0
  have F_first_o := F_first_o.keep K1020 nin0
  have F_inOrder_o := F_inOrder_o.keep K1020 nin0
  have F_later_o := F_later_o.keep K1020 nin0
  have V_tt := V_tt.keep K1020 nin0
  have V_ii := V_ii.keep K1020 nin0
  show own_Go p e below C T1020 (mkF m 176 #[.val (.long q1), .second, .val (.long q2), .second, .val (.long q3), .second, .val (.int p4), .val (.int p5), .val (.int p6), .val (.int i0), .val (.int i1), .val (.int i2), .val (.int (2 : Int32)), .val (.int (1 : Int32)), .val (.int (0 : Int32)), .val (.ref ex), .val (.ref et), .val (.ref o), .unset, .unset, .unset] [(.ref bf)])
  refine own_astore W1020 178 #[.val (.long q1), .second, .val (.long q2), .second, .val (.long q3), .second, .val (.int p4), .val (.int p5), .val (.int p6), .val (.int i0), .val (.int i1), .val (.int i2), .val (.int (2 : Int32)), .val (.int (1 : Int32)), .val (.int (0 : Int32)), .val (.ref ex), .val (.ref et), .val (.ref o), .val (.ref bf), .unset, .unset] at_176 rfl rfl rfl ?_
  refine own_aload W1020 180 at_178 rfl rfl rfl ?_
  refine own_arraylength W1020 (3 : Int32) 181 at_180 V_bf rfl rfl ?_
  refine own_iconst W1020 (3 : Int32) 182 at_181 rfl rfl ?_
  refine own_icmpN W1020 185 at_182 ((teq (rfl : (3 : Int32) = (3 : Int32))).2) rfl ?_
  refine own_aload W1020 187 at_185 rfl rfl rfl ?_
  refine own_iconst W1020 (0 : Int32) 188 at_187 rfl rfl ?_
  refine own_iaload W1020 0 i0 189 at_188 V_bf rfl (by decide) rfl rfl ?_
  refine own_iload W1020 191 at_189 rfl rfl ?_
  refine own_icmpN W1020 194 at_191 ((teq (rfl : i0 = i0)).2) rfl ?_
  refine own_aload W1020 196 at_194 rfl rfl rfl ?_
  refine own_iconst W1020 (1 : Int32) 197 at_196 rfl rfl ?_
  refine own_iaload W1020 1 i1 198 at_197 V_bf rfl (by decide) rfl rfl ?_
  refine own_iload W1020 200 at_198 rfl rfl ?_
  refine own_icmpN W1020 203 at_200 ((teq (rfl : i1 = i1)).2) rfl ?_
  refine own_aload W1020 205 at_203 rfl rfl rfl ?_
  refine own_iconst W1020 (2 : Int32) 206 at_205 rfl rfl ?_
  refine own_iaload W1020 2 i2 207 at_206 V_bf rfl (by decide) rfl rfl ?_
  refine own_iload W1020 209 at_207 rfl rfl ?_
  refine own_icmpN W1020 212 at_209 ((teq (rfl : i2 = i2)).2) rfl ?_
  refine own_iconst W1020 (1 : Int32) 213 at_212 rfl rfl ?_
  refine own_goto W1020 217 at_213 (by decide) (by decide) ?_
  refine own_istore W1020 219 #[.val (.long q1), .second, .val (.long q2), .second, .val (.long q3), .second, .val (.int p4), .val (.int p5), .val (.int p6), .val (.int i0), .val (.int i1), .val (.int i2), .val (.int (2 : Int32)), .val (.int (1 : Int32)), .val (.int (0 : Int32)), .val (.ref ex), .val (.ref et), .val (.ref o), .val (.ref bf), .val (.int (1 : Int32)), .unset] at_217 rfl rfl ?_
  refine own_aload W1020 221 at_219 rfl rfl rfl ?_
  refine own_callV W1020 (A := []) (wt := 0) (pc' := 224) (st := []) at_221 (wd49 hw) (wd50 hw) (own_nf W1020 (wd52 hw)) (wd52 hw) (wd51 hw) (wd9 hw) (wd53 hw) (by decide) X_o (own_m7b l Z a0 hw [] h1020 o tt ii (own_upL (own_upL (own_upL (fun _ => 0) 0 q1) 1 q2) 2 q3) (own_upI (own_upI (own_upI (fun _ => 0) 0 i0) 1 i1) 2 i2) X_o F_times_o F_indices_o F_count_o F_first_o F_inOrder_o F_later_o V_tt V_ii ne_o_tt ne_o_ii ne_t_i) (allS (Or.inr o_o) (allS (Or.inr (Nat.le_trans (Nat.le_trans o_o (Nat.le_of_lt hol)) o_tt)) (allS (Or.inr (Nat.le_trans (Nat.le_trans o_o (Nat.le_of_lt hol)) o_ii)) all0))) rfl pd_5 rfl (Nat.le_of_eq rfl) (by decide) (by decide) (by decide) (by decide) rfl ?_
  rintro T1021 h1021 _ W1021 K1021 P1021 ⟨rfl, ⟨F_times_o, F_indices_o, F_count_o, F_first_o, F_inOrder_o, F_later_o, V_tt, V_ii⟩⟩
  have V_ex := V_ex.keep K1021 (ninS ne_ex_o (ninS ne_ex_tt (ninS ne_ex_ii nin0)))
  have V_et := V_et.keep K1021 (ninS ne_et_o (ninS ne_et_tt (ninS ne_et_ii nin0)))
  have X_o := X_o.keep K1021
  have Y_ii := Y_ii.keep K1021
  show own_Go p e below C T1021 (mkF m 224 #[.val (.long q1), .second, .val (.long q2), .second, .val (.long q3), .second, .val (.int p4), .val (.int p5), .val (.int p6), .val (.int i0), .val (.int i1), .val (.int i2), .val (.int (2 : Int32)), .val (.int (1 : Int32)), .val (.int (0 : Int32)), .val (.ref ex), .val (.ref et), .val (.ref o), .val (.ref bf), .val (.int (1 : Int32)), .unset] [])
  have V_tt : own_A Z h1021 tt .long 3 (fun j => .long ((own_upL (own_upL (own_upL (own_upL (own_upL (own_upL (fun _ => 0) 0 q1) 1 q2) 2 q3) 0 ((own_p3 (own_upL (own_upL (own_upL (fun _ => 0) 0 q1) 1 q2) 2 q3) (own_upI (own_upI (own_upI (fun _ => 0) 0 i0) 1 i1) 2 i2)).1 0)) 1 ((own_q1 (own_upL (own_upL (own_upL (fun _ => 0) 0 q1) 1 q2) 2 q3) (own_upI (own_upI (own_upI (fun _ => 0) 0 i0) 1 i1) 2 i2)).1 0)) 2 ((own_q2 (own_upL (own_upL (own_upL (fun _ => 0) 0 q1) 1 q2) 2 q3) (own_upI (own_upI (own_upI (fun _ => 0) 0 i0) 1 i1) 2 i2)).1 0)) j)) := V_tt
  have V_ii : own_A Z h1021 ii .int 3 (fun j => .int ((own_upI (own_upI (own_upI (own_upI (own_upI (own_upI (fun _ => 0) 0 i0) 1 i1) 2 i2) 0 ((own_p3 (own_upL (own_upL (own_upL (fun _ => 0) 0 q1) 1 q2) 2 q3) (own_upI (own_upI (own_upI (fun _ => 0) 0 i0) 1 i1) 2 i2)).2 0).toInt32) 1 ((own_q1 (own_upL (own_upL (own_upL (fun _ => 0) 0 q1) 1 q2) 2 q3) (own_upI (own_upI (own_upI (fun _ => 0) 0 i0) 1 i1) 2 i2)).2 0).toInt32) 2 ((own_q2 (own_upL (own_upL (own_upL (fun _ => 0) 0 q1) 1 q2) 2 q3) (own_upI (own_upI (own_upI (fun _ => 0) 0 i0) 1 i1) 2 i2)).2 0).toInt32) j)) := V_ii
  obtain ⟨TA, IB, V_tt, V_ii, E0, E1, E2, G0, G1, G2⟩ : ∃ (TA : Nat → Int64) (IB : Nat → Int32), own_A Z h1021 tt .long 3 (fun j => .long (TA j)) ∧ own_A Z h1021 ii .int 3 (fun j => .int (IB j)) ∧ TA 0 = q3 ∧ TA 1 = q2 ∧ TA 2 = q1 ∧ IB 0 = i2 ∧ IB 1 = i1 ∧ IB 2 = i0 := ⟨_, _, V_tt, V_ii, own_s_ttt q1 q2 q3 i0 i1 i2 (own_rkL c12) (own_rkL c01)⟩
  refine own_aload W1021 226 at_224 rfl rfl rfl ?_
  refine own_callV W1021 (A := []) (wt := 0) (pc' := 229) (st := []) at_226 (wd29 hw) (wd30 hw) (own_nf W1021 (wd32 hw)) (wd32 hw) (wd31 hw) (wd9 hw) (wd33 hw) (by decide) X_o (own_m5 l Z a0 hw [] h1021 o tt ii TA IB (1 : Int32) F_times_o F_indices_o F_count_o F_first_o F_inOrder_o F_later_o V_tt V_ii Y_ii) all0 rfl pd_9 rfl (Nat.le_of_eq rfl) (by decide) (by decide) (by decide) (by decide) rfl ?_
  rintro T1022 h1022 _ W1022 K1022 P1022 ⟨af, rfl, o_af, V_af⟩
  have V_ex := V_ex.keep K1022 nin0
  have V_et := V_et.keep K1022 nin0
  have X_o := X_o.keep K1022
  have Y_ii := Y_ii.keep K1022
  have F_times_o := F_times_o.keep K1022 nin0
  have F_indices_o := F_indices_o.keep K1022 nin0
  have F_count_o := F_count_o.keep K1022 nin0
  have F_first_o := F_first_o.keep K1022 nin0
  have F_inOrder_o := F_inOrder_o.keep K1022 nin0
  have F_later_o := F_later_o.keep K1022 nin0
  have V_tt := V_tt.keep K1022 nin0
  have V_ii := V_ii.keep K1022 nin0
  show own_Go p e below C T1022 (mkF m 229 #[.val (.long q1), .second, .val (.long q2), .second, .val (.long q3), .second, .val (.int p4), .val (.int p5), .val (.int p6), .val (.int i0), .val (.int i1), .val (.int i2), .val (.int (2 : Int32)), .val (.int (1 : Int32)), .val (.int (0 : Int32)), .val (.ref ex), .val (.ref et), .val (.ref o), .val (.ref bf), .val (.int (1 : Int32)), .unset] [(.ref af)])
  refine own_astore W1022 231 #[.val (.long q1), .second, .val (.long q2), .second, .val (.long q3), .second, .val (.int p4), .val (.int p5), .val (.int p6), .val (.int i0), .val (.int i1), .val (.int i2), .val (.int (2 : Int32)), .val (.int (1 : Int32)), .val (.int (0 : Int32)), .val (.ref ex), .val (.ref et), .val (.ref o), .val (.ref bf), .val (.int (1 : Int32)), .val (.ref af)] at_229 rfl rfl rfl ?_
  refine own_iload W1022 233 at_231 rfl rfl ?_
  refine own_ifN W1022 236 at_233 ((if0 _ _).trans (feq (by decide : ¬ ((1 : Int32) = (0 : Int32)))).1) rfl ?_
  refine own_aload W1022 238 at_236 rfl rfl rfl ?_
  refine own_arraylength W1022 (3 : Int32) 239 at_238 V_af rfl rfl ?_
  refine own_iconst W1022 (3 : Int32) 240 at_239 rfl rfl ?_
  refine own_icmpN W1022 243 at_240 ((teq (rfl : (3 : Int32) = (3 : Int32))).2) rfl ?_
  refine own_aload W1022 245 at_243 rfl rfl rfl ?_
  refine own_iconst W1022 (0 : Int32) 246 at_245 rfl rfl ?_
  refine own_iaload W1022 0 i2 247 at_246 V_af rfl (by decide) (congrArg Value.int G0) rfl ?_
  refine own_aload W1022 249 at_247 rfl rfl rfl ?_
  refine own_iconst W1022 (0 : Int32) 250 at_249 rfl rfl ?_
  refine own_iaload W1022 0 i2 251 at_250 V_ex rfl (by decide) rfl rfl ?_
  refine own_icmpN W1022 254 at_251 ((teq (rfl : i2 = i2)).2) rfl ?_
  refine own_aload W1022 256 at_254 rfl rfl rfl ?_
  refine own_iconst W1022 (1 : Int32) 257 at_256 rfl rfl ?_
  refine own_iaload W1022 1 i1 258 at_257 V_af rfl (by decide) (congrArg Value.int G1) rfl ?_
  refine own_aload W1022 260 at_258 rfl rfl rfl ?_
  refine own_iconst W1022 (1 : Int32) 261 at_260 rfl rfl ?_
  refine own_iaload W1022 1 i1 262 at_261 V_ex rfl (by decide) rfl rfl ?_
  refine own_icmpN W1022 265 at_262 ((teq (rfl : i1 = i1)).2) rfl ?_
  refine own_aload W1022 267 at_265 rfl rfl rfl ?_
  refine own_iconst W1022 (2 : Int32) 268 at_267 rfl rfl ?_
  refine own_iaload W1022 2 i0 269 at_268 V_af rfl (by decide) (congrArg Value.int G2) rfl ?_
  refine own_aload W1022 271 at_269 rfl rfl rfl ?_
  refine own_iconst W1022 (2 : Int32) 272 at_271 rfl rfl ?_
  refine own_iaload W1022 2 i0 273 at_272 V_ex rfl (by decide) rfl rfl ?_
  refine own_icmpN W1022 276 at_273 ((teq (rfl : i0 = i0)).2) rfl ?_
  refine own_iconst W1022 (1 : Int32) 277 at_276 rfl rfl ?_
  refine own_goto W1022 281 at_277 (by decide) (by decide) ?_
  refine own_istore W1022 283 #[.val (.long q1), .second, .val (.long q2), .second, .val (.long q3), .second, .val (.int p4), .val (.int p5), .val (.int p6), .val (.int i0), .val (.int i1), .val (.int i2), .val (.int (2 : Int32)), .val (.int (1 : Int32)), .val (.int (0 : Int32)), .val (.ref ex), .val (.ref et), .val (.ref o), .val (.ref bf), .val (.int (1 : Int32)), .val (.ref af)] at_281 rfl rfl ?_
  refine own_iload W1022 285 at_283 rfl rfl ?_
  refine own_ifN W1022 288 at_285 ((if0 _ _).trans (feq (by decide : ¬ ((1 : Int32) = (0 : Int32)))).1) rfl ?_
  refine own_aload W1022 290 at_288 rfl rfl rfl ?_
  refine own_callV W1022 (A := []) (wt := 0) (pc' := 293) (st := []) at_290 (wd90 hw) (wd91 hw) (own_nf W1022 (wd93 hw)) (wd93 hw) (wd92 hw) (wd9 hw) (wd94 hw) (by decide) X_o (own_m14 l Z a0 hw [] h1022 o tt ii TA IB (3 : Int32) (1 : Int32) X_o F_times_o F_indices_o F_count_o F_first_o F_inOrder_o F_later_o V_tt V_ii) all0 rfl pd_4 rfl (Nat.le_of_eq rfl) (by decide) (by decide) (by decide) (by decide) rfl ?_
  rintro T1023 h1023 _ W1023 K1023 P1023 rfl
  rw [P1023 rfl rfl] at W1023
  show own_Go p e below C T1023 (mkF m 293 #[.val (.long q1), .second, .val (.long q2), .second, .val (.long q3), .second, .val (.int p4), .val (.int p5), .val (.int p6), .val (.int i0), .val (.int i1), .val (.int i2), .val (.int (2 : Int32)), .val (.int (1 : Int32)), .val (.int (0 : Int32)), .val (.ref ex), .val (.ref et), .val (.ref o), .val (.ref bf), .val (.int (1 : Int32)), .val (.ref af)] [(.long (TA 0))])
  rw [show (TA 0) = q3 from E0]
  refine own_aload W1023 295 at_293 rfl rfl rfl ?_
  refine own_iconst W1023 (0 : Int32) 296 at_295 rfl rfl ?_
  refine own_laload W1023 0 q3 297 at_296 V_et rfl (by decide) rfl rfl ?_
  refine own_lcmp W1023 298 at_297 rfl ?_
  refine own_ifN W1023 301 at_298 ((if0 _ _).trans (teq ((lw_eq q3 q3).mpr (rfl : q3 = q3))).2) rfl ?_
  refine own_aload W1023 303 at_301 rfl rfl rfl ?_
  refine own_callV W1023 (A := []) (wt := 0) (pc' := 306) (st := []) at_303 (wd101 hw) (wd102 hw) (own_nf W1023 (wd104 hw)) (wd104 hw) (wd103 hw) (wd9 hw) (wd105 hw) (by decide) X_o (own_m16 l Z a0 hw [] h1022 o tt ii TA IB (3 : Int32) (1 : Int32) X_o F_times_o F_indices_o F_count_o F_first_o F_inOrder_o F_later_o V_tt V_ii) all0 rfl pd_10 rfl (Nat.le_of_eq rfl) (by decide) (by decide) (by decide) (by decide) rfl ?_
  rintro T1024 h1024 _ W1024 K1024 P1024 rfl
  rw [P1024 rfl rfl] at W1024
  show own_Go p e below C T1024 (mkF m 306 #[.val (.long q1), .second, .val (.long q2), .second, .val (.long q3), .second, .val (.int p4), .val (.int p5), .val (.int p6), .val (.int i0), .val (.int i1), .val (.int i2), .val (.int (2 : Int32)), .val (.int (1 : Int32)), .val (.int (0 : Int32)), .val (.ref ex), .val (.ref et), .val (.ref o), .val (.ref bf), .val (.int (1 : Int32)), .val (.ref af)] [(.int (IB 0))])
  rw [show (IB 0) = i2 from G0]
  refine own_aload W1024 308 at_306 rfl rfl rfl ?_
  refine own_iconst W1024 (0 : Int32) 309 at_308 rfl rfl ?_
  refine own_iaload W1024 0 i2 310 at_309 V_ex rfl (by decide) rfl rfl ?_
  refine own_icmpN W1024 313 at_310 ((teq (rfl : i2 = i2)).2) rfl ?_
  refine own_iconst W1024 (1 : Int32) 314 at_313 rfl rfl ?_
  refine own_goto W1024 318 at_314 (by decide) (by decide) ?_
  refine own_istore W1024 320 #[.val (.long q1), .second, .val (.long q2), .second, .val (.long q3), .second, .val (.int p4), .val (.int p5), .val (.int p6), .val (.int i0), .val (.int i1), .val (.int i2), .val (.int (2 : Int32)), .val (.int (1 : Int32)), .val (.int (0 : Int32)), .val (.ref ex), .val (.ref et), .val (.ref o), .val (.ref bf), .val (.int (1 : Int32)), .val (.ref af)] at_318 rfl rfl ?_
  refine own_iload W1024 322 at_320 rfl rfl ?_
  refine own_retZ (Q := fun v h => v = some (.int (1 : Int32))) W1024 hC (by decide) (by decide) at_322 ?_
  exact rfl
set_option maxRecDepth 65536 in
set_option maxHeartbeats 40000000 in
theorem own_m0_ttf (l : Launch) (Z : State) (a0 : Array Value) (hw : ∀ d ∈ tables_1, d.before a0 Z = true) (h0 : Heap) (q1 : Int64) (q2 : Int64) (q3 : Int64) (p4 : Int32) (p5 : Int32) (p6 : Int32) (p : Program) (e : Env) (s : State) (m : MethodId) (below : List Frame) (meth : Method) (c : Code) (C : Outcome → State → Prop) (hC : ∀ v L u, own_Fw s [] L → (v = some (.int (1 : Int32))) → FrameEnd s (.returned v) u L room_1.cells room_1.slots → C (.returned v) u) (T : State) (h : Heap) (i0 i1 i2 : Int32) (W : own_W p l e room_1 s m #[(.long q1), (.long q2), (.long q3), (.int p4), (.int p5), (.int p6)] below meth c Z x ret code maxLocals [] T h (0) (0)) (c01 : q2 < q1) (c02 : q3 < q1) (c12 : ¬ q3 < q2) (hr01 : i0 < i1) (hr12 : i1 < i2) (hr02 : i0 < i2) :
    own_Go p e below C T (mkF m 31 #[.val (.long q1), .second, .val (.long q2), .second, .val (.long q3), .second, .val (.int p4), .val (.int p5), .val (.int p6), .val (.int i0), .val (.int i1), .val (.int i2), .unset, .unset, .unset, .unset, .unset, .unset, .unset, .unset, .unset] []) := by
  refine own_lloadN W 32 at_31 rfl rfl ?_
  refine own_iconst W (1 : Int32) 33 at_32 rfl rfl ?_
  refine own_lloadN W 34 at_33 rfl rfl ?_
  refine own_iconst W (0 : Int32) 35 at_34 rfl rfl ?_
  refine own_callS W (A := [(.long q2), (.int (1 : Int32)), (.long q1), (.int (0 : Int32))]) (wt := 0) (pc' := 38) (st := []) at_35 (wd1 hw) (wd2 hw) (wd3 hw) (wd4 hw) (by decide) (own_m1 l Z a0 hw [] h q2 (1 : Int32) q1 (0 : Int32)) all0 rfl pd_7 rfl (Nat.le_of_eq rfl) (by decide) (by decide) (by decide) (by decide) rfl ?_
  rintro T1001 h1001 _ W1001 K1001 P1001 rfl
  rw [P1001 rfl rfl] at W1001
  show own_Go p e below C T1001 (mkF m 38 #[.val (.long q1), .second, .val (.long q2), .second, .val (.long q3), .second, .val (.int p4), .val (.int p5), .val (.int p6), .val (.int i0), .val (.int i1), .val (.int i2), .unset, .unset, .unset, .unset, .unset, .unset, .unset, .unset, .unset] [(.int (if q2 < q1 then (1 : Int32) else (if q2 = q1 then (if (1 : Int32) < (0 : Int32) then (1 : Int32) else (0 : Int32)) else (0 : Int32))))])
  rw [show (if q2 < q1 then (1 : Int32) else (if q2 = q1 then (if (1 : Int32) < (0 : Int32) then (1 : Int32) else (0 : Int32)) else (0 : Int32))) = (1 : Int32) from if_pos c01]
  refine own_lload W1001 40 at_38 rfl rfl ?_
  refine own_iconst W1001 (2 : Int32) 41 at_40 rfl rfl ?_
  refine own_lloadN W1001 42 at_41 rfl rfl ?_
  refine own_iconst W1001 (0 : Int32) 43 at_42 rfl rfl ?_
  refine own_callS W1001 (A := [(.long q3), (.int (2 : Int32)), (.long q1), (.int (0 : Int32))]) (wt := 1) (pc' := 46) (st := [(.int (1 : Int32))]) at_43 (wd1 hw) (wd2 hw) (wd3 hw) (wd4 hw) (by decide) (own_m1 l Z a0 hw [] h q3 (2 : Int32) q1 (0 : Int32)) all0 rfl pd_7 rfl (Nat.le_of_eq rfl) (by decide) (by decide) (by decide) (by decide) rfl ?_
  rintro T1002 h1002 _ W1002 K1002 P1002 rfl
  rw [P1002 rfl rfl] at W1002
  show own_Go p e below C T1002 (mkF m 46 #[.val (.long q1), .second, .val (.long q2), .second, .val (.long q3), .second, .val (.int p4), .val (.int p5), .val (.int p6), .val (.int i0), .val (.int i1), .val (.int i2), .unset, .unset, .unset, .unset, .unset, .unset, .unset, .unset, .unset] [(.int (if q3 < q1 then (1 : Int32) else (if q3 = q1 then (if (2 : Int32) < (0 : Int32) then (1 : Int32) else (0 : Int32)) else (0 : Int32)))), (.int (1 : Int32))])
  rw [show (if q3 < q1 then (1 : Int32) else (if q3 = q1 then (if (2 : Int32) < (0 : Int32) then (1 : Int32) else (0 : Int32)) else (0 : Int32))) = (1 : Int32) from if_pos c02]
  refine own_iadd W1002 47 at_46 rfl ?_
  rw [show ((1 : Int32) + (1 : Int32)) = (2 : Int32) from rfl]
  refine own_istore W1002 49 #[.val (.long q1), .second, .val (.long q2), .second, .val (.long q3), .second, .val (.int p4), .val (.int p5), .val (.int p6), .val (.int i0), .val (.int i1), .val (.int i2), .val (.int (2 : Int32)), .unset, .unset, .unset, .unset, .unset, .unset, .unset, .unset] at_47 rfl rfl ?_
  refine own_lloadN W1002 50 at_49 rfl rfl ?_
  refine own_iconst W1002 (0 : Int32) 51 at_50 rfl rfl ?_
  refine own_lloadN W1002 52 at_51 rfl rfl ?_
  refine own_iconst W1002 (1 : Int32) 53 at_52 rfl rfl ?_
  refine own_callS W1002 (A := [(.long q1), (.int (0 : Int32)), (.long q2), (.int (1 : Int32))]) (wt := 0) (pc' := 56) (st := []) at_53 (wd1 hw) (wd2 hw) (wd3 hw) (wd4 hw) (by decide) (own_m1 l Z a0 hw [] h q1 (0 : Int32) q2 (1 : Int32)) all0 rfl pd_7 rfl (Nat.le_of_eq rfl) (by decide) (by decide) (by decide) (by decide) rfl ?_
  rintro T1003 h1003 _ W1003 K1003 P1003 rfl
  rw [P1003 rfl rfl] at W1003
  show own_Go p e below C T1003 (mkF m 56 #[.val (.long q1), .second, .val (.long q2), .second, .val (.long q3), .second, .val (.int p4), .val (.int p5), .val (.int p6), .val (.int i0), .val (.int i1), .val (.int i2), .val (.int (2 : Int32)), .unset, .unset, .unset, .unset, .unset, .unset, .unset, .unset] [(.int (if q1 < q2 then (1 : Int32) else (if q1 = q2 then (if (0 : Int32) < (1 : Int32) then (1 : Int32) else (0 : Int32)) else (0 : Int32))))])
  rw [show (if q1 < q2 then (1 : Int32) else (if q1 = q2 then (if (0 : Int32) < (1 : Int32) then (1 : Int32) else (0 : Int32)) else (0 : Int32))) = (0 : Int32) from own_cb0 c01]
  refine own_lload W1003 58 at_56 rfl rfl ?_
  refine own_iconst W1003 (2 : Int32) 59 at_58 rfl rfl ?_
  refine own_lloadN W1003 60 at_59 rfl rfl ?_
  refine own_iconst W1003 (1 : Int32) 61 at_60 rfl rfl ?_
  refine own_callS W1003 (A := [(.long q3), (.int (2 : Int32)), (.long q2), (.int (1 : Int32))]) (wt := 1) (pc' := 64) (st := [(.int (0 : Int32))]) at_61 (wd1 hw) (wd2 hw) (wd3 hw) (wd4 hw) (by decide) (own_m1 l Z a0 hw [] h q3 (2 : Int32) q2 (1 : Int32)) all0 rfl pd_7 rfl (Nat.le_of_eq rfl) (by decide) (by decide) (by decide) (by decide) rfl ?_
  rintro T1004 h1004 _ W1004 K1004 P1004 rfl
  rw [P1004 rfl rfl] at W1004
  show own_Go p e below C T1004 (mkF m 64 #[.val (.long q1), .second, .val (.long q2), .second, .val (.long q3), .second, .val (.int p4), .val (.int p5), .val (.int p6), .val (.int i0), .val (.int i1), .val (.int i2), .val (.int (2 : Int32)), .unset, .unset, .unset, .unset, .unset, .unset, .unset, .unset] [(.int (if q3 < q2 then (1 : Int32) else (if q3 = q2 then (if (2 : Int32) < (1 : Int32) then (1 : Int32) else (0 : Int32)) else (0 : Int32)))), (.int (0 : Int32))])
  rw [show (if q3 < q2 then (1 : Int32) else (if q3 = q2 then (if (2 : Int32) < (1 : Int32) then (1 : Int32) else (0 : Int32)) else (0 : Int32))) = (0 : Int32) from own_cb2 c12 rfl]
  refine own_iadd W1004 65 at_64 rfl ?_
  rw [show ((0 : Int32) + (0 : Int32)) = (0 : Int32) from rfl]
  refine own_istore W1004 67 #[.val (.long q1), .second, .val (.long q2), .second, .val (.long q3), .second, .val (.int p4), .val (.int p5), .val (.int p6), .val (.int i0), .val (.int i1), .val (.int i2), .val (.int (2 : Int32)), .val (.int (0 : Int32)), .unset, .unset, .unset, .unset, .unset, .unset, .unset] at_65 rfl rfl ?_
  refine own_lloadN W1004 68 at_67 rfl rfl ?_
  refine own_iconst W1004 (0 : Int32) 69 at_68 rfl rfl ?_
  refine own_lload W1004 71 at_69 rfl rfl ?_
  refine own_iconst W1004 (2 : Int32) 72 at_71 rfl rfl ?_
  refine own_callS W1004 (A := [(.long q1), (.int (0 : Int32)), (.long q3), (.int (2 : Int32))]) (wt := 0) (pc' := 75) (st := []) at_72 (wd1 hw) (wd2 hw) (wd3 hw) (wd4 hw) (by decide) (own_m1 l Z a0 hw [] h q1 (0 : Int32) q3 (2 : Int32)) all0 rfl pd_7 rfl (Nat.le_of_eq rfl) (by decide) (by decide) (by decide) (by decide) rfl ?_
  rintro T1005 h1005 _ W1005 K1005 P1005 rfl
  rw [P1005 rfl rfl] at W1005
  show own_Go p e below C T1005 (mkF m 75 #[.val (.long q1), .second, .val (.long q2), .second, .val (.long q3), .second, .val (.int p4), .val (.int p5), .val (.int p6), .val (.int i0), .val (.int i1), .val (.int i2), .val (.int (2 : Int32)), .val (.int (0 : Int32)), .unset, .unset, .unset, .unset, .unset, .unset, .unset] [(.int (if q1 < q3 then (1 : Int32) else (if q1 = q3 then (if (0 : Int32) < (2 : Int32) then (1 : Int32) else (0 : Int32)) else (0 : Int32))))])
  rw [show (if q1 < q3 then (1 : Int32) else (if q1 = q3 then (if (0 : Int32) < (2 : Int32) then (1 : Int32) else (0 : Int32)) else (0 : Int32))) = (0 : Int32) from own_cb0 c02]
  refine own_lloadN W1005 76 at_75 rfl rfl ?_
  refine own_iconst W1005 (1 : Int32) 77 at_76 rfl rfl ?_
  refine own_lload W1005 79 at_77 rfl rfl ?_
  refine own_iconst W1005 (2 : Int32) 80 at_79 rfl rfl ?_
  refine own_callS W1005 (A := [(.long q2), (.int (1 : Int32)), (.long q3), (.int (2 : Int32))]) (wt := 1) (pc' := 83) (st := [(.int (0 : Int32))]) at_80 (wd1 hw) (wd2 hw) (wd3 hw) (wd4 hw) (by decide) (own_m1 l Z a0 hw [] h q2 (1 : Int32) q3 (2 : Int32)) all0 rfl pd_7 rfl (Nat.le_of_eq rfl) (by decide) (by decide) (by decide) (by decide) rfl ?_
  rintro T1006 h1006 _ W1006 K1006 P1006 rfl
  rw [P1006 rfl rfl] at W1006
  show own_Go p e below C T1006 (mkF m 83 #[.val (.long q1), .second, .val (.long q2), .second, .val (.long q3), .second, .val (.int p4), .val (.int p5), .val (.int p6), .val (.int i0), .val (.int i1), .val (.int i2), .val (.int (2 : Int32)), .val (.int (0 : Int32)), .unset, .unset, .unset, .unset, .unset, .unset, .unset] [(.int (if q2 < q3 then (1 : Int32) else (if q2 = q3 then (if (1 : Int32) < (2 : Int32) then (1 : Int32) else (0 : Int32)) else (0 : Int32)))), (.int (0 : Int32))])
  rw [show (if q2 < q3 then (1 : Int32) else (if q2 = q3 then (if (1 : Int32) < (2 : Int32) then (1 : Int32) else (0 : Int32)) else (0 : Int32))) = (1 : Int32) from own_cb1 c12 rfl]
  refine own_iadd W1006 84 at_83 rfl ?_
  rw [show ((0 : Int32) + (1 : Int32)) = (1 : Int32) from rfl]
  refine own_istore W1006 86 #[.val (.long q1), .second, .val (.long q2), .second, .val (.long q3), .second, .val (.int p4), .val (.int p5), .val (.int p6), .val (.int i0), .val (.int i1), .val (.int i2), .val (.int (2 : Int32)), .val (.int (0 : Int32)), .val (.int (1 : Int32)), .unset, .unset, .unset, .unset, .unset, .unset] at_84 rfl rfl ?_
  refine own_iconst W1006 (3 : Int32) 87 at_86 rfl rfl ?_
  refine own_newarray W1006 3 3 89 at_87 (wd5 hw) rfl (Nat.le_refl _) (by decide) (by decide) (by decide) rfl ?_
  intro T1007 h1007 ex W1007 E1007 g_ex o_ex V_ex
  show own_Go p e below C T1007 (mkF m 89 #[.val (.long q1), .second, .val (.long q2), .second, .val (.long q3), .second, .val (.int p4), .val (.int p5), .val (.int p6), .val (.int i0), .val (.int i1), .val (.int i2), .val (.int (2 : Int32)), .val (.int (0 : Int32)), .val (.int (1 : Int32)), .unset, .unset, .unset, .unset, .unset, .unset] [(.ref ex)])
  refine own_astore W1007 91 #[.val (.long q1), .second, .val (.long q2), .second, .val (.long q3), .second, .val (.int p4), .val (.int p5), .val (.int p6), .val (.int i0), .val (.int i1), .val (.int i2), .val (.int (2 : Int32)), .val (.int (0 : Int32)), .val (.int (1 : Int32)), .val (.ref ex), .unset, .unset, .unset, .unset, .unset] at_89 rfl rfl rfl ?_
  refine own_iconst W1007 (3 : Int32) 92 at_91 rfl rfl ?_
  refine own_newarray W1007 3 3 94 at_92 (wd6 hw) rfl (Nat.le_refl _) (by decide) (by decide) (by decide) rfl ?_
  intro T1008 h1008 et W1008 E1008 g_et o_et V_et
  have ne_ex_et : ex ≠ et := by rw [g_et]; exact Nat.ne_of_lt V_ex.lt
  have V_ex := V_ex.ext E1008
  show own_Go p e below C T1008 (mkF m 94 #[.val (.long q1), .second, .val (.long q2), .second, .val (.long q3), .second, .val (.int p4), .val (.int p5), .val (.int p6), .val (.int i0), .val (.int i1), .val (.int i2), .val (.int (2 : Int32)), .val (.int (0 : Int32)), .val (.int (1 : Int32)), .val (.ref ex), .unset, .unset, .unset, .unset, .unset] [(.ref et)])
  refine own_astore W1008 96 #[.val (.long q1), .second, .val (.long q2), .second, .val (.long q3), .second, .val (.int p4), .val (.int p5), .val (.int p6), .val (.int i0), .val (.int i1), .val (.int i2), .val (.int (2 : Int32)), .val (.int (0 : Int32)), .val (.int (1 : Int32)), .val (.ref ex), .val (.ref et), .unset, .unset, .unset, .unset] at_94 rfl rfl rfl ?_
  refine own_aload W1008 98 at_96 rfl rfl rfl ?_
  refine own_iload W1008 100 at_98 rfl rfl ?_
  refine own_iload W1008 102 at_100 rfl rfl ?_
  refine own_iastore W1008 2 103 at_102 V_ex (Or.inr o_ex) rfl (by decide) rfl ?_
  intro T1009 h1009 W1009 Wr1009 V_ex
  have V_et := V_et.other Wr1009 (Ne.symm ne_ex_et)
  show own_Go p e below C T1009 (mkF m 103 #[.val (.long q1), .second, .val (.long q2), .second, .val (.long q3), .second, .val (.int p4), .val (.int p5), .val (.int p6), .val (.int i0), .val (.int i1), .val (.int i2), .val (.int (2 : Int32)), .val (.int (0 : Int32)), .val (.int (1 : Int32)), .val (.ref ex), .val (.ref et), .unset, .unset, .unset, .unset] [])
  refine own_aload W1009 105 at_103 rfl rfl rfl ?_
  refine own_iload W1009 107 at_105 rfl rfl ?_
  refine own_lloadN W1009 108 at_107 rfl rfl ?_
  refine own_lastore W1009 2 109 at_108 V_et (Or.inr o_et) rfl (by decide) rfl ?_
  intro T1010 h1010 W1010 Wr1010 V_et
  have V_ex := V_ex.other Wr1010 ne_ex_et
  show own_Go p e below C T1010 (mkF m 109 #[.val (.long q1), .second, .val (.long q2), .second, .val (.long q3), .second, .val (.int p4), .val (.int p5), .val (.int p6), .val (.int i0), .val (.int i1), .val (.int i2), .val (.int (2 : Int32)), .val (.int (0 : Int32)), .val (.int (1 : Int32)), .val (.ref ex), .val (.ref et), .unset, .unset, .unset, .unset] [])
  refine own_aload W1010 111 at_109 rfl rfl rfl ?_
  refine own_iload W1010 113 at_111 rfl rfl ?_
  refine own_iload W1010 115 at_113 rfl rfl ?_
  refine own_iastore W1010 0 116 at_115 V_ex (Or.inr o_ex) rfl (by decide) rfl ?_
  intro T1011 h1011 W1011 Wr1011 V_ex
  have V_et := V_et.other Wr1011 (Ne.symm ne_ex_et)
  show own_Go p e below C T1011 (mkF m 116 #[.val (.long q1), .second, .val (.long q2), .second, .val (.long q3), .second, .val (.int p4), .val (.int p5), .val (.int p6), .val (.int i0), .val (.int i1), .val (.int i2), .val (.int (2 : Int32)), .val (.int (0 : Int32)), .val (.int (1 : Int32)), .val (.ref ex), .val (.ref et), .unset, .unset, .unset, .unset] [])
  refine own_aload W1011 118 at_116 rfl rfl rfl ?_
  refine own_iload W1011 120 at_118 rfl rfl ?_
  refine own_lloadN W1011 121 at_120 rfl rfl ?_
  refine own_lastore W1011 0 122 at_121 V_et (Or.inr o_et) rfl (by decide) rfl ?_
  intro T1012 h1012 W1012 Wr1012 V_et
  have V_ex := V_ex.other Wr1012 ne_ex_et
  show own_Go p e below C T1012 (mkF m 122 #[.val (.long q1), .second, .val (.long q2), .second, .val (.long q3), .second, .val (.int p4), .val (.int p5), .val (.int p6), .val (.int i0), .val (.int i1), .val (.int i2), .val (.int (2 : Int32)), .val (.int (0 : Int32)), .val (.int (1 : Int32)), .val (.ref ex), .val (.ref et), .unset, .unset, .unset, .unset] [])
  refine own_aload W1012 124 at_122 rfl rfl rfl ?_
  refine own_iload W1012 126 at_124 rfl rfl ?_
  refine own_iload W1012 128 at_126 rfl rfl ?_
  refine own_iastore W1012 1 129 at_128 V_ex (Or.inr o_ex) rfl (by decide) rfl ?_
  intro T1013 h1013 W1013 Wr1013 V_ex
  have V_et := V_et.other Wr1013 (Ne.symm ne_ex_et)
  show own_Go p e below C T1013 (mkF m 129 #[.val (.long q1), .second, .val (.long q2), .second, .val (.long q3), .second, .val (.int p4), .val (.int p5), .val (.int p6), .val (.int i0), .val (.int i1), .val (.int i2), .val (.int (2 : Int32)), .val (.int (0 : Int32)), .val (.int (1 : Int32)), .val (.ref ex), .val (.ref et), .unset, .unset, .unset, .unset] [])
  refine own_aload W1013 131 at_129 rfl rfl rfl ?_
  refine own_iload W1013 133 at_131 rfl rfl ?_
  refine own_lload W1013 135 at_133 rfl rfl ?_
  refine own_lastore W1013 1 136 at_135 V_et (Or.inr o_et) rfl (by decide) rfl ?_
  intro T1014 h1014 W1014 Wr1014 V_et
  have V_ex := V_ex.other Wr1014 ne_ex_et
  show own_Go p e below C T1014 (mkF m 136 #[.val (.long q1), .second, .val (.long q2), .second, .val (.long q3), .second, .val (.int p4), .val (.int p5), .val (.int p6), .val (.int i0), .val (.int i1), .val (.int i2), .val (.int (2 : Int32)), .val (.int (0 : Int32)), .val (.int (1 : Int32)), .val (.ref ex), .val (.ref et), .unset, .unset, .unset, .unset] [])
  refine own_new W1014 139 at_136 (wd7 hw) (wd8 hw) (wd9 hw) (by decide) (by decide) rfl ?_
  intro T1015 h1015 o W1015 E1015 g_o o_o X_o D_o
  have ne_ex_o : ex ≠ o := by rw [g_o]; exact Nat.ne_of_lt V_ex.lt
  have ne_et_o : et ≠ o := by rw [g_o]; exact Nat.ne_of_lt V_et.lt
  have V_ex := V_ex.ext E1015
  have V_et := V_et.ext E1015
  have F_inOrder_o : Fld Z h1015 o "com/example/queueloom/queueloom/engine/Arrivals" "inOrder" "Z" (.int (0 : Int32)) := D_o (Or.inl (wd17 hw)) (ty := .boolean) (by decide)
  have F_times_o : Fld Z h1015 o "com/example/queueloom/queueloom/engine/Arrivals" "times" "[J" .null := D_o (Or.inl (wd19 hw)) (ty := (.array .long)) (by decide)
  have F_indices_o : Fld Z h1015 o "com/example/queueloom/queueloom/engine/Arrivals" "indices" "[I" .null := D_o (Or.inl (wd21 hw)) (ty := (.array .int)) (by decide)
  have F_count_o : Fld Z h1015 o "com/example/queueloom/queueloom/engine/Arrivals" "count" "I" (.int (0 : Int32)) := D_o (Or.inl (wd28 hw)) (ty := .int) (by decide)
  have F_first_o : Fld Z h1015 o "com/example/queueloom/queueloom/engine/Arrivals" "first" "I" (.int (0 : Int32)) := D_o (Or.inl (wd35 hw)) (ty := .int) (by decide)
  have F_later_o : Fld Z h1015 o "com/example/queueloom/queueloom/engine/Arrivals" "later" "Lcom/example/queueloom/queueloom/engine/LongPairHeap;" .null := D_o (Or.inl (wd100 hw)) (ty := (.object "com/example/queueloom/queueloom/engine/LongPairHeap")) (by decide)
  show own_Go p e below C T1015 (mkF m 139 #[.val (.long q1), .second, .val (.long q2), .second, .val (.long q3), .second, .val (.int p4), .val (.int p5), .val (.int p6), .val (.int i0), .val (.int i1), .val (.int i2), .val (.int (2 : Int32)), .val (.int (0 : Int32)), .val (.int (1 : Int32)), .val (.ref ex), .val (.ref et), .unset, .unset, .unset, .unset] [(.ref o)])
  refine own_dup W1015 140 at_139 rfl rfl ?_
  refine own_iconst W1015 (3 : Int32) 141 at_140 rfl rfl ?_
  have hol := X_o.lt
  have hel := V_ex.lt
  have hdl := V_et.lt
  refine own_callN W1015 (A := [(.int (3 : Int32))]) (wt := 1) (pc' := 144) (st := [(.ref o)]) at_141 rfl (wd10 hw) (wd11 hw) (wd9 hw) (wd12 hw) (by decide) (own_m2 l Z a0 hw [] h1015 o X_o F_times_o F_indices_o F_count_o F_first_o F_inOrder_o F_later_o) (allS (Or.inr o_o) all0) rfl pd_2 rfl (Nat.le_of_eq rfl) (by decide) (by decide) (by decide) (by decide) rfl ?_
  rintro T1016 h1016 _ W1016 K1016 P1016 ⟨rfl, ⟨tt, ii, o_tt, o_ii, ne_t_i, Y_ii, F_times_o, F_indices_o, F_count_o, F_first_o, F_inOrder_o, F_later_o, V_tt, V_ii⟩⟩
  have V_ex := V_ex.keep K1016 (ninS ne_ex_o nin0)
  have V_et := V_et.keep K1016 (ninS ne_et_o nin0)
  have X_o := X_o.keep K1016
  show own_Go p e below C T1016 (mkF m 144 #[.val (.long q1), .second, .val (.long q2), .second, .val (.long q3), .second, .val (.int p4), .val (.int p5), .val (.int p6), .val (.int i0), .val (.int i1), .val (.int i2), .val (.int (2 : Int32)), .val (.int (0 : Int32)), .val (.int (1 : Int32)), .val (.ref ex), .val (.ref et), .unset, .unset, .unset, .unset] [(.ref o)])
  have ne_o_tt : o ≠ tt := Nat.ne_of_lt (Nat.lt_of_lt_of_le hol o_tt)
  have ne_o_ii : o ≠ ii := Nat.ne_of_lt (Nat.lt_of_lt_of_le hol o_ii)
  have ne_ex_tt : ex ≠ tt := Nat.ne_of_lt (Nat.lt_of_lt_of_le hel o_tt)
  have ne_ex_ii : ex ≠ ii := Nat.ne_of_lt (Nat.lt_of_lt_of_le hel o_ii)
  have ne_et_tt : et ≠ tt := Nat.ne_of_lt (Nat.lt_of_lt_of_le hdl o_tt)
  have ne_et_ii : et ≠ ii := Nat.ne_of_lt (Nat.lt_of_lt_of_le hdl o_ii)
  refine own_astore W1016 146 #[.val (.long q1), .second, .val (.long q2), .second, .val (.long q3), .second, .val (.int p4), .val (.int p5), .val (.int p6), .val (.int i0), .val (.int i1), .val (.int i2), .val (.int (2 : Int32)), .val (.int (0 : Int32)), .val (.int (1 : Int32)), .val (.ref ex), .val (.ref et), .val (.ref o), .unset, .unset, .unset] at_144 rfl rfl rfl ?_
  refine own_aload W1016 148 at_146 rfl rfl rfl ?_
  refine own_lloadN W1016 149 at_148 rfl rfl ?_
  refine own_iload W1016 151 at_149 rfl rfl ?_
  refine own_callV W1016 (A := [(.long q1), (.int i0)]) (wt := 0) (pc' := 154) (st := []) at_151 (wd22 hw) (wd23 hw) (own_nf W1016 (wd25 hw)) (wd25 hw) (wd24 hw) (wd9 hw) (wd26 hw) (by decide) X_o (own_m4 l Z a0 hw [] h1016 o q1 i0 tt ii (fun _ => 0) (fun _ => 0) 0 (0 : Int32) (1 : Int32) X_o F_times_o F_indices_o F_count_o F_first_o F_inOrder_o F_later_o V_tt V_ii ne_o_tt ne_o_ii ne_t_i rfl (by decide)) (allS (Or.inr o_o) (allS (Or.inr (Nat.le_trans (Nat.le_trans o_o (Nat.le_of_lt hol)) o_tt)) (allS (Or.inr (Nat.le_trans (Nat.le_trans o_o (Nat.le_of_lt hol)) o_ii)) all0))) rfl pd_8 rfl (Nat.le_of_eq rfl) (by decide) (by decide) (by decide) (by decide) rfl ?_
  rintro T1017 h1017 _ W1017 K1017 P1017 ⟨rfl, ⟨F_times_o, F_indices_o, F_count_o, F_first_o, F_inOrder_o, F_later_o, V_tt, V_ii⟩⟩
  have V_ex := V_ex.keep K1017 (ninS ne_ex_o (ninS ne_ex_tt (ninS ne_ex_ii nin0)))
  have V_et := V_et.keep K1017 (ninS ne_et_o (ninS ne_et_tt (ninS ne_et_ii nin0)))
  have X_o := X_o.keep K1017
  have Y_ii := Y_ii.keep K1017
  show own_Go p e below C T1017 (mkF m 154 #[.val (.long q1), .second, .val (.long q2), .second, .val (.long q3), .second, .val (.int p4), .val (.int p5), .val (.int p6), .val (.int i0), .val (.int i1), .val (.int i2), .val (.int (2 : Int32)), .val (.int (0 : Int32)), .val (.int (1 : Int32)), .val (.ref ex), .val (.ref et), .val (.ref o), .unset, .unset, .unset] [])
  have F_inOrder_o : Fld Z h1017 o "com/example/queueloom/queueloom/engine/Arrivals" "inOrder" "Z" (.int (((1 : Int32) &&& own_io (0 : Int32) q1 0) &&& 1)) := F_inOrder_o
  rw [own_io0 (1 : Int32) q1 0 rfl] at F_inOrder_o
  have F_count_o : Fld Z h1017 o "com/example/queueloom/queueloom/engine/Arrivals" "count" "I" (.int (1 : Int32)) := F_count_o
  refine own_aload W1017 156 at_154 rfl rfl rfl ?_
  refine own_lloadN W1017 157 at_156 rfl rfl ?_
  refine own_iload W1017 159 at_157 rfl rfl ?_
  refine own_callV W1017 (A := [(.long q2), (.int i1)]) (wt := 0) (pc' := 162) (st := []) at_159 (wd22 hw) (wd23 hw) (own_nf W1017 (wd25 hw)) (wd25 hw) (wd24 hw) (wd9 hw) (wd26 hw) (by decide) X_o (own_m4 l Z a0 hw [] h1017 o q2 i1 tt ii (own_upL (fun _ => 0) 0 q1) (own_upI (fun _ => 0) 0 i0) 1 (1 : Int32) (1 : Int32) X_o F_times_o F_indices_o F_count_o F_first_o F_inOrder_o F_later_o V_tt V_ii ne_o_tt ne_o_ii ne_t_i rfl (by decide)) (allS (Or.inr o_o) (allS (Or.inr (Nat.le_trans (Nat.le_trans o_o (Nat.le_of_lt hol)) o_tt)) (allS (Or.inr (Nat.le_trans (Nat.le_trans o_o (Nat.le_of_lt hol)) o_ii)) all0))) rfl pd_8 rfl (Nat.le_of_eq rfl) (by decide) (by decide) (by decide) (by decide) rfl ?_
  rintro T1018 h1018 _ W1018 K1018 P1018 ⟨rfl, ⟨F_times_o, F_indices_o, F_count_o, F_first_o, F_inOrder_o, F_later_o, V_tt, V_ii⟩⟩
  have V_ex := V_ex.keep K1018 (ninS ne_ex_o (ninS ne_ex_tt (ninS ne_ex_ii nin0)))
  have V_et := V_et.keep K1018 (ninS ne_et_o (ninS ne_et_tt (ninS ne_et_ii nin0)))
  have X_o := X_o.keep K1018
  have Y_ii := Y_ii.keep K1018
  show own_Go p e below C T1018 (mkF m 162 #[.val (.long q1), .second, .val (.long q2), .second, .val (.long q3), .second, .val (.int p4), .val (.int p5), .val (.int p6), .val (.int i0), .val (.int i1), .val (.int i2), .val (.int (2 : Int32)), .val (.int (0 : Int32)), .val (.int (1 : Int32)), .val (.ref ex), .val (.ref et), .val (.ref o), .unset, .unset, .unset] [])
  have F_inOrder_o : Fld Z h1018 o "com/example/queueloom/queueloom/engine/Arrivals" "inOrder" "Z" (.int (((1 : Int32) &&& own_io (1 : Int32) q2 q1) &&& 1)) := F_inOrder_o
  rw [own_ioP (1 : Int32) (1 : Int32) q2 q1 (by decide) c01 (by decide)] at F_inOrder_o
  have F_count_o : Fld Z h1018 o "com/example/queueloom/queueloom/engine/Arrivals" "count" "I" (.int (2 : Int32)) := F_count_o
  refine own_aload W1018 164 at_162 rfl rfl rfl ?_
  refine own_lload W1018 166 at_164 rfl rfl ?_
  refine own_iload W1018 168 at_166 rfl rfl ?_
  refine own_callV W1018 (A := [(.long q3), (.int i2)]) (wt := 0) (pc' := 171) (st := []) at_168 (wd22 hw) (wd23 hw) (own_nf W1018 (wd25 hw)) (wd25 hw) (wd24 hw) (wd9 hw) (wd26 hw) (by decide) X_o (own_m4 l Z a0 hw [] h1018 o q3 i2 tt ii (own_upL (own_upL (fun _ => 0) 0 q1) 1 q2) (own_upI (own_upI (fun _ => 0) 0 i0) 1 i1) 2 (2 : Int32) (0 : Int32) X_o F_times_o F_indices_o F_count_o F_first_o F_inOrder_o F_later_o V_tt V_ii ne_o_tt ne_o_ii ne_t_i rfl (by decide)) (allS (Or.inr o_o) (allS (Or.inr (Nat.le_trans (Nat.le_trans o_o (Nat.le_of_lt hol)) o_tt)) (allS (Or.inr (Nat.le_trans (Nat.le_trans o_o (Nat.le_of_lt hol)) o_ii)) all0))) rfl pd_8 rfl (Nat.le_of_eq rfl) (by decide) (by decide) (by decide) (by decide) rfl ?_
  rintro T1019 h1019 _ W1019 K1019 P1019 ⟨rfl, ⟨F_times_o, F_indices_o, F_count_o, F_first_o, F_inOrder_o, F_later_o, V_tt, V_ii⟩⟩
  have V_ex := V_ex.keep K1019 (ninS ne_ex_o (ninS ne_ex_tt (ninS ne_ex_ii nin0)))
  have V_et := V_et.keep K1019 (ninS ne_et_o (ninS ne_et_tt (ninS ne_et_ii nin0)))
  have X_o := X_o.keep K1019
  have Y_ii := Y_ii.keep K1019
  show own_Go p e below C T1019 (mkF m 171 #[.val (.long q1), .second, .val (.long q2), .second, .val (.long q3), .second, .val (.int p4), .val (.int p5), .val (.int p6), .val (.int i0), .val (.int i1), .val (.int i2), .val (.int (2 : Int32)), .val (.int (0 : Int32)), .val (.int (1 : Int32)), .val (.ref ex), .val (.ref et), .val (.ref o), .unset, .unset, .unset] [])
  have F_inOrder_o : Fld Z h1019 o "com/example/queueloom/queueloom/engine/Arrivals" "inOrder" "Z" (.int (((0 : Int32) &&& own_io (2 : Int32) q3 q2) &&& 1)) := F_inOrder_o
  rw [own_ioN (0 : Int32) (2 : Int32) q3 q2 (by decide) c12 (by decide)] at F_inOrder_o
  have F_count_o : Fld Z h1019 o "com/example/queueloom/queueloom/engine/Arrivals" "count" "I" (.int (3 : Int32)) := F_count_o
  refine own_aload W1019 173 at_171 rfl rfl rfl ?_
  refine own_callV W1019 (A := []) (wt := 0) (pc' := 176) (st := []) at_173 (wd29 hw) (wd30 hw) (own_nf W1019 (wd32 hw)) (wd32 hw) (wd31 hw) (wd9 hw) (wd33 hw) (by decide) X_o (own_m5 l Z a0 hw [] h1019 o tt ii (own_upL (own_upL (own_upL (fun _ => 0) 0 q1) 1 q2) 2 q3) (own_upI (own_upI (own_upI (fun _ => 0) 0 i0) 1 i1) 2 i2) (0 : Int32) F_times_o F_indices_o F_count_o F_first_o F_inOrder_o F_later_o V_tt V_ii Y_ii) all0 rfl pd_9 rfl (Nat.le_of_eq rfl) (by decide) (by decide) (by decide) (by decide) rfl ?_
  rintro T1020 h1020 _ W1020 K1020 P1020 ⟨bf, rfl, o_bf, V_bf⟩
  have V_ex := V_ex.keep K1020 nin0
  have V_et := V_et.keep K1020 nin0
  have X_o := X_o.keep K1020
  have Y_ii := Y_ii.keep K1020
  have F_times_o := F_times_o.keep K1020 nin0
  have F_indices_o := F_indices_o.keep K1020 nin0
  have F_count_o := F_count_o.keep K1020 nin0
  have F_first_o := F_first_o.keep K1020 nin0
  have F_inOrder_o := F_inOrder_o.keep K1020 nin0
  have F_later_o := F_later_o.keep K1020 nin0
  have V_tt := V_tt.keep K1020 nin0
  have V_ii := V_ii.keep K1020 nin0
  show own_Go p e below C T1020 (mkF m 176 #[.val (.long q1), .second, .val (.long q2), .second, .val (.long q3), .second, .val (.int p4), .val (.int p5), .val (.int p6), .val (.int i0), .val (.int i1), .val (.int i2), .val (.int (2 : Int32)), .val (.int (0 : Int32)), .val (.int (1 : Int32)), .val (.ref ex), .val (.ref et), .val (.ref o), .unset, .unset, .unset] [(.ref bf)])
  refine own_astore W1020 178 #[.val (.long q1), .second, .val (.long q2), .second, .val (.long q3), .second, .val (.int p4), .val (.int p5), .val (.int p6), .val (.int i0), .val (.int i1), .val (.int i2), .val (.int (2 : Int32)), .val (.int (0 : Int32)), .val (.int (1 : Int32)), .val (.ref ex), .val (.ref et), .val (.ref o), .val (.ref bf), .unset, .unset] at_176 rfl rfl rfl ?_
  refine own_aload W1020 180 at_178 rfl rfl rfl ?_
  refine own_arraylength W1020 (3 : Int32) 181 at_180 V_bf rfl rfl ?_
  refine own_iconst W1020 (3 : Int32) 182 at_181 rfl rfl ?_
  refine own_icmpN W1020 185 at_182 ((teq (rfl : (3 : Int32) = (3 : Int32))).2) rfl ?_
  refine own_aload W1020 187 at_185 rfl rfl rfl ?_
  refine own_iconst W1020 (0 : Int32) 188 at_187 rfl rfl ?_
  refine own_iaload W1020 0 i0 189 at_188 V_bf rfl (by decide) rfl rfl ?_
  refine own_iload W1020 191 at_189 rfl rfl ?_
  refine own_icmpN W1020 194 at_191 ((teq (rfl : i0 = i0)).2) rfl ?_
  refine own_aload W1020 196 at_194 rfl rfl rfl ?_
  refine own_iconst W1020 (1 : Int32) 197 at_196 rfl rfl ?_
  refine own_iaload W1020 1 i1 198 at_197 V_bf rfl (by decide) rfl rfl ?_
  refine own_iload W1020 200 at_198 rfl rfl ?_
  refine own_icmpN W1020 203 at_200 ((teq (rfl : i1 = i1)).2) rfl ?_
  refine own_aload W1020 205 at_203 rfl rfl rfl ?_
  refine own_iconst W1020 (2 : Int32) 206 at_205 rfl rfl ?_
  refine own_iaload W1020 2 i2 207 at_206 V_bf rfl (by decide) rfl rfl ?_
  refine own_iload W1020 209 at_207 rfl rfl ?_
  refine own_icmpN W1020 212 at_209 ((teq (rfl : i2 = i2)).2) rfl ?_
  refine own_iconst W1020 (1 : Int32) 213 at_212 rfl rfl ?_
  refine own_goto W1020 217 at_213 (by decide) (by decide) ?_
  refine own_istore W1020 219 #[.val (.long q1), .second, .val (.long q2), .second, .val (.long q3), .second, .val (.int p4), .val (.int p5), .val (.int p6), .val (.int i0), .val (.int i1), .val (.int i2), .val (.int (2 : Int32)), .val (.int (0 : Int32)), .val (.int (1 : Int32)), .val (.ref ex), .val (.ref et), .val (.ref o), .val (.ref bf), .val (.int (1 : Int32)), .unset] at_217 rfl rfl ?_
  refine own_aload W1020 221 at_219 rfl rfl rfl ?_
  refine own_callV W1020 (A := []) (wt := 0) (pc' := 224) (st := []) at_221 (wd49 hw) (wd50 hw) (own_nf W1020 (wd52 hw)) (wd52 hw) (wd51 hw) (wd9 hw) (wd53 hw) (by decide) X_o (own_m7b l Z a0 hw [] h1020 o tt ii (own_upL (own_upL (own_upL (fun _ => 0) 0 q1) 1 q2) 2 q3) (own_upI (own_upI (own_upI (fun _ => 0) 0 i0) 1 i1) 2 i2) X_o F_times_o F_indices_o F_count_o F_first_o F_inOrder_o F_later_o V_tt V_ii ne_o_tt ne_o_ii ne_t_i) (allS (Or.inr o_o) (allS (Or.inr (Nat.le_trans (Nat.le_trans o_o (Nat.le_of_lt hol)) o_tt)) (allS (Or.inr (Nat.le_trans (Nat.le_trans o_o (Nat.le_of_lt hol)) o_ii)) all0))) rfl pd_5 rfl (Nat.le_of_eq rfl) (by decide) (by decide) (by decide) (by decide) rfl ?_
  rintro T1021 h1021 _ W1021 K1021 P1021 ⟨rfl, ⟨F_times_o, F_indices_o, F_count_o, F_first_o, F_inOrder_o, F_later_o, V_tt, V_ii⟩⟩
  have V_ex := V_ex.keep K1021 (ninS ne_ex_o (ninS ne_ex_tt (ninS ne_ex_ii nin0)))
  have V_et := V_et.keep K1021 (ninS ne_et_o (ninS ne_et_tt (ninS ne_et_ii nin0)))
  have X_o := X_o.keep K1021
  have Y_ii := Y_ii.keep K1021
  show own_Go p e below C T1021 (mkF m 224 #[.val (.long q1), .second, .val (.long q2), .second, .val (.long q3), .second, .val (.int p4), .val (.int p5), .val (.int p6), .val (.int i0), .val (.int i1), .val (.int i2), .val (.int (2 : Int32)), .val (.int (0 : Int32)), .val (.int (1 : Int32)), .val (.ref ex), .val (.ref et), .val (.ref o), .val (.ref bf), .val (.int (1 : Int32)), .unset] [])
  have V_tt : own_A Z h1021 tt .long 3 (fun j => .long ((own_upL (own_upL (own_upL (own_upL (own_upL (own_upL (fun _ => 0) 0 q1) 1 q2) 2 q3) 0 ((own_p3 (own_upL (own_upL (own_upL (fun _ => 0) 0 q1) 1 q2) 2 q3) (own_upI (own_upI (own_upI (fun _ => 0) 0 i0) 1 i1) 2 i2)).1 0)) 1 ((own_q1 (own_upL (own_upL (own_upL (fun _ => 0) 0 q1) 1 q2) 2 q3) (own_upI (own_upI (own_upI (fun _ => 0) 0 i0) 1 i1) 2 i2)).1 0)) 2 ((own_q2 (own_upL (own_upL (own_upL (fun _ => 0) 0 q1) 1 q2) 2 q3) (own_upI (own_upI (own_upI (fun _ => 0) 0 i0) 1 i1) 2 i2)).1 0)) j)) := V_tt
  have V_ii : own_A Z h1021 ii .int 3 (fun j => .int ((own_upI (own_upI (own_upI (own_upI (own_upI (own_upI (fun _ => 0) 0 i0) 1 i1) 2 i2) 0 ((own_p3 (own_upL (own_upL (own_upL (fun _ => 0) 0 q1) 1 q2) 2 q3) (own_upI (own_upI (own_upI (fun _ => 0) 0 i0) 1 i1) 2 i2)).2 0).toInt32) 1 ((own_q1 (own_upL (own_upL (own_upL (fun _ => 0) 0 q1) 1 q2) 2 q3) (own_upI (own_upI (own_upI (fun _ => 0) 0 i0) 1 i1) 2 i2)).2 0).toInt32) 2 ((own_q2 (own_upL (own_upL (own_upL (fun _ => 0) 0 q1) 1 q2) 2 q3) (own_upI (own_upI (own_upI (fun _ => 0) 0 i0) 1 i1) 2 i2)).2 0).toInt32) j)) := V_ii
  obtain ⟨TA, IB, V_tt, V_ii, E0, E1, E2, G0, G1, G2⟩ : ∃ (TA : Nat → Int64) (IB : Nat → Int32), own_A Z h1021 tt .long 3 (fun j => .long (TA j)) ∧ own_A Z h1021 ii .int 3 (fun j => .int (IB j)) ∧ TA 0 = q2 ∧ TA 1 = q3 ∧ TA 2 = q1 ∧ IB 0 = i1 ∧ IB 1 = i2 ∧ IB 2 = i0 := ⟨_, _, V_tt, V_ii, own_s_ttf q1 q2 q3 i0 i1 i2 (own_rkN c12 hr12) (own_rkL c02)⟩
  refine own_aload W1021 226 at_224 rfl rfl rfl ?_
  refine own_callV W1021 (A := []) (wt := 0) (pc' := 229) (st := []) at_226 (wd29 hw) (wd30 hw) (own_nf W1021 (wd32 hw)) (wd32 hw) (wd31 hw) (wd9 hw) (wd33 hw) (by decide) X_o (own_m5 l Z a0 hw [] h1021 o tt ii TA IB (1 : Int32) F_times_o F_indices_o F_count_o F_first_o F_inOrder_o F_later_o V_tt V_ii Y_ii) all0 rfl pd_9 rfl (Nat.le_of_eq rfl) (by decide) (by decide) (by decide) (by decide) rfl ?_
  rintro T1022 h1022 _ W1022 K1022 P1022 ⟨af, rfl, o_af, V_af⟩
  have V_ex := V_ex.keep K1022 nin0
  have V_et := V_et.keep K1022 nin0
  have X_o := X_o.keep K1022
  have Y_ii := Y_ii.keep K1022
  have F_times_o := F_times_o.keep K1022 nin0
  have F_indices_o := F_indices_o.keep K1022 nin0
  have F_count_o := F_count_o.keep K1022 nin0
  have F_first_o := F_first_o.keep K1022 nin0
  have F_inOrder_o := F_inOrder_o.keep K1022 nin0
  have F_later_o := F_later_o.keep K1022 nin0
  have V_tt := V_tt.keep K1022 nin0
  have V_ii := V_ii.keep K1022 nin0
  show own_Go p e below C T1022 (mkF m 229 #[.val (.long q1), .second, .val (.long q2), .second, .val (.long q3), .second, .val (.int p4), .val (.int p5), .val (.int p6), .val (.int i0), .val (.int i1), .val (.int i2), .val (.int (2 : Int32)), .val (.int (0 : Int32)), .val (.int (1 : Int32)), .val (.ref ex), .val (.ref et), .val (.ref o), .val (.ref bf), .val (.int (1 : Int32)), .unset] [(.ref af)])
  refine own_astore W1022 231 #[.val (.long q1), .second, .val (.long q2), .second, .val (.long q3), .second, .val (.int p4), .val (.int p5), .val (.int p6), .val (.int i0), .val (.int i1), .val (.int i2), .val (.int (2 : Int32)), .val (.int (0 : Int32)), .val (.int (1 : Int32)), .val (.ref ex), .val (.ref et), .val (.ref o), .val (.ref bf), .val (.int (1 : Int32)), .val (.ref af)] at_229 rfl rfl rfl ?_
  refine own_iload W1022 233 at_231 rfl rfl ?_
  refine own_ifN W1022 236 at_233 ((if0 _ _).trans (feq (by decide : ¬ ((1 : Int32) = (0 : Int32)))).1) rfl ?_
  refine own_aload W1022 238 at_236 rfl rfl rfl ?_
  refine own_arraylength W1022 (3 : Int32) 239 at_238 V_af rfl rfl ?_
  refine own_iconst W1022 (3 : Int32) 240 at_239 rfl rfl ?_
  refine own_icmpN W1022 243 at_240 ((teq (rfl : (3 : Int32) = (3 : Int32))).2) rfl ?_
  refine own_aload W1022 245 at_243 rfl rfl rfl ?_
  refine own_iconst W1022 (0 : Int32) 246 at_245 rfl rfl ?_
  refine own_iaload W1022 0 i1 247 at_246 V_af rfl (by decide) (congrArg Value.int G0) rfl ?_
  refine own_aload W1022 249 at_247 rfl rfl rfl ?_
  refine own_iconst W1022 (0 : Int32) 250 at_249 rfl rfl ?_
  refine own_iaload W1022 0 i1 251 at_250 V_ex rfl (by decide) rfl rfl ?_
  refine own_icmpN W1022 254 at_251 ((teq (rfl : i1 = i1)).2) rfl ?_
  refine own_aload W1022 256 at_254 rfl rfl rfl ?_
  refine own_iconst W1022 (1 : Int32) 257 at_256 rfl rfl ?_
  refine own_iaload W1022 1 i2 258 at_257 V_af rfl (by decide) (congrArg Value.int G1) rfl ?_
  refine own_aload W1022 260 at_258 rfl rfl rfl ?_
  refine own_iconst W1022 (1 : Int32) 261 at_260 rfl rfl ?_
  refine own_iaload W1022 1 i2 262 at_261 V_ex rfl (by decide) rfl rfl ?_
  refine own_icmpN W1022 265 at_262 ((teq (rfl : i2 = i2)).2) rfl ?_
  refine own_aload W1022 267 at_265 rfl rfl rfl ?_
  refine own_iconst W1022 (2 : Int32) 268 at_267 rfl rfl ?_
  refine own_iaload W1022 2 i0 269 at_268 V_af rfl (by decide) (congrArg Value.int G2) rfl ?_
  refine own_aload W1022 271 at_269 rfl rfl rfl ?_
  refine own_iconst W1022 (2 : Int32) 272 at_271 rfl rfl ?_
  refine own_iaload W1022 2 i0 273 at_272 V_ex rfl (by decide) rfl rfl ?_
  refine own_icmpN W1022 276 at_273 ((teq (rfl : i0 = i0)).2) rfl ?_
  refine own_iconst W1022 (1 : Int32) 277 at_276 rfl rfl ?_
  refine own_goto W1022 281 at_277 (by decide) (by decide) ?_
  refine own_istore W1022 283 #[.val (.long q1), .second, .val (.long q2), .second, .val (.long q3), .second, .val (.int p4), .val (.int p5), .val (.int p6), .val (.int i0), .val (.int i1), .val (.int i2), .val (.int (2 : Int32)), .val (.int (0 : Int32)), .val (.int (1 : Int32)), .val (.ref ex), .val (.ref et), .val (.ref o), .val (.ref bf), .val (.int (1 : Int32)), .val (.ref af)] at_281 rfl rfl ?_
  refine own_iload W1022 285 at_283 rfl rfl ?_
  refine own_ifN W1022 288 at_285 ((if0 _ _).trans (feq (by decide : ¬ ((1 : Int32) = (0 : Int32)))).1) rfl ?_
  refine own_aload W1022 290 at_288 rfl rfl rfl ?_
  refine own_callV W1022 (A := []) (wt := 0) (pc' := 293) (st := []) at_290 (wd90 hw) (wd91 hw) (own_nf W1022 (wd93 hw)) (wd93 hw) (wd92 hw) (wd9 hw) (wd94 hw) (by decide) X_o (own_m14 l Z a0 hw [] h1022 o tt ii TA IB (3 : Int32) (1 : Int32) X_o F_times_o F_indices_o F_count_o F_first_o F_inOrder_o F_later_o V_tt V_ii) all0 rfl pd_4 rfl (Nat.le_of_eq rfl) (by decide) (by decide) (by decide) (by decide) rfl ?_
  rintro T1023 h1023 _ W1023 K1023 P1023 rfl
  rw [P1023 rfl rfl] at W1023
  show own_Go p e below C T1023 (mkF m 293 #[.val (.long q1), .second, .val (.long q2), .second, .val (.long q3), .second, .val (.int p4), .val (.int p5), .val (.int p6), .val (.int i0), .val (.int i1), .val (.int i2), .val (.int (2 : Int32)), .val (.int (0 : Int32)), .val (.int (1 : Int32)), .val (.ref ex), .val (.ref et), .val (.ref o), .val (.ref bf), .val (.int (1 : Int32)), .val (.ref af)] [(.long (TA 0))])
  rw [show (TA 0) = q2 from E0]
  refine own_aload W1023 295 at_293 rfl rfl rfl ?_
  refine own_iconst W1023 (0 : Int32) 296 at_295 rfl rfl ?_
  refine own_laload W1023 0 q2 297 at_296 V_et rfl (by decide) rfl rfl ?_
  refine own_lcmp W1023 298 at_297 rfl ?_
  refine own_ifN W1023 301 at_298 ((if0 _ _).trans (teq ((lw_eq q2 q2).mpr (rfl : q2 = q2))).2) rfl ?_
  refine own_aload W1023 303 at_301 rfl rfl rfl ?_
  refine own_callV W1023 (A := []) (wt := 0) (pc' := 306) (st := []) at_303 (wd101 hw) (wd102 hw) (own_nf W1023 (wd104 hw)) (wd104 hw) (wd103 hw) (wd9 hw) (wd105 hw) (by decide) X_o (own_m16 l Z a0 hw [] h1022 o tt ii TA IB (3 : Int32) (1 : Int32) X_o F_times_o F_indices_o F_count_o F_first_o F_inOrder_o F_later_o V_tt V_ii) all0 rfl pd_10 rfl (Nat.le_of_eq rfl) (by decide) (by decide) (by decide) (by decide) rfl ?_
  rintro T1024 h1024 _ W1024 K1024 P1024 rfl
  rw [P1024 rfl rfl] at W1024
  show own_Go p e below C T1024 (mkF m 306 #[.val (.long q1), .second, .val (.long q2), .second, .val (.long q3), .second, .val (.int p4), .val (.int p5), .val (.int p6), .val (.int i0), .val (.int i1), .val (.int i2), .val (.int (2 : Int32)), .val (.int (0 : Int32)), .val (.int (1 : Int32)), .val (.ref ex), .val (.ref et), .val (.ref o), .val (.ref bf), .val (.int (1 : Int32)), .val (.ref af)] [(.int (IB 0))])
  rw [show (IB 0) = i1 from G0]
  refine own_aload W1024 308 at_306 rfl rfl rfl ?_
  refine own_iconst W1024 (0 : Int32) 309 at_308 rfl rfl ?_
  refine own_iaload W1024 0 i1 310 at_309 V_ex rfl (by decide) rfl rfl ?_
  refine own_icmpN W1024 313 at_310 ((teq (rfl : i1 = i1)).2) rfl ?_
  refine own_iconst W1024 (1 : Int32) 314 at_313 rfl rfl ?_
  refine own_goto W1024 318 at_314 (by decide) (by decide) ?_
  refine own_istore W1024 320 #[.val (.long q1), .second, .val (.long q2), .second, .val (.long q3), .second, .val (.int p4), .val (.int p5), .val (.int p6), .val (.int i0), .val (.int i1), .val (.int i2), .val (.int (2 : Int32)), .val (.int (0 : Int32)), .val (.int (1 : Int32)), .val (.ref ex), .val (.ref et), .val (.ref o), .val (.ref bf), .val (.int (1 : Int32)), .val (.ref af)] at_318 rfl rfl ?_
  refine own_iload W1024 322 at_320 rfl rfl ?_
  refine own_retZ (Q := fun v h => v = some (.int (1 : Int32))) W1024 hC (by decide) (by decide) at_322 ?_
  exact rfl
set_option maxRecDepth 65536 in
set_option maxHeartbeats 40000000 in
theorem own_m0_tff (l : Launch) (Z : State) (a0 : Array Value) (hw : ∀ d ∈ tables_1, d.before a0 Z = true) (h0 : Heap) (q1 : Int64) (q2 : Int64) (q3 : Int64) (p4 : Int32) (p5 : Int32) (p6 : Int32) (p : Program) (e : Env) (s : State) (m : MethodId) (below : List Frame) (meth : Method) (c : Code) (C : Outcome → State → Prop) (hC : ∀ v L u, own_Fw s [] L → (v = some (.int (1 : Int32))) → FrameEnd s (.returned v) u L room_1.cells room_1.slots → C (.returned v) u) (T : State) (h : Heap) (i0 i1 i2 : Int32) (W : own_W p l e room_1 s m #[(.long q1), (.long q2), (.long q3), (.int p4), (.int p5), (.int p6)] below meth c Z x ret code maxLocals [] T h (0) (0)) (c01 : q2 < q1) (c02 : ¬ q3 < q1) (c12 : ¬ q3 < q2) (hr01 : i0 < i1) (hr12 : i1 < i2) (hr02 : i0 < i2) :
    own_Go p e below C T (mkF m 31 #[.val (.long q1), .second, .val (.long q2), .second, .val (.long q3), .second, .val (.int p4), .val (.int p5), .val (.int p6), .val (.int i0), .val (.int i1), .val (.int i2), .unset, .unset, .unset, .unset, .unset, .unset, .unset, .unset, .unset] []) := by
  refine own_lloadN W 32 at_31 rfl rfl ?_
  refine own_iconst W (1 : Int32) 33 at_32 rfl rfl ?_
  refine own_lloadN W 34 at_33 rfl rfl ?_
  refine own_iconst W (0 : Int32) 35 at_34 rfl rfl ?_
  refine own_callS W (A := [(.long q2), (.int (1 : Int32)), (.long q1), (.int (0 : Int32))]) (wt := 0) (pc' := 38) (st := []) at_35 (wd1 hw) (wd2 hw) (wd3 hw) (wd4 hw) (by decide) (own_m1 l Z a0 hw [] h q2 (1 : Int32) q1 (0 : Int32)) all0 rfl pd_7 rfl (Nat.le_of_eq rfl) (by decide) (by decide) (by decide) (by decide) rfl ?_
  rintro T1001 h1001 _ W1001 K1001 P1001 rfl
  rw [P1001 rfl rfl] at W1001
  show own_Go p e below C T1001 (mkF m 38 #[.val (.long q1), .second, .val (.long q2), .second, .val (.long q3), .second, .val (.int p4), .val (.int p5), .val (.int p6), .val (.int i0), .val (.int i1), .val (.int i2), .unset, .unset, .unset, .unset, .unset, .unset, .unset, .unset, .unset] [(.int (if q2 < q1 then (1 : Int32) else (if q2 = q1 then (if (1 : Int32) < (0 : Int32) then (1 : Int32) else (0 : Int32)) else (0 : Int32))))])
  rw [show (if q2 < q1 then (1 : Int32) else (if q2 = q1 then (if (1 : Int32) < (0 : Int32) then (1 : Int32) else (0 : Int32)) else (0 : Int32))) = (1 : Int32) from if_pos c01]
  refine own_lload W1001 40 at_38 rfl rfl ?_
  refine own_iconst W1001 (2 : Int32) 41 at_40 rfl rfl ?_
  refine own_lloadN W1001 42 at_41 rfl rfl ?_
  refine own_iconst W1001 (0 : Int32) 43 at_42 rfl rfl ?_
  refine own_callS W1001 (A := [(.long q3), (.int (2 : Int32)), (.long q1), (.int (0 : Int32))]) (wt := 1) (pc' := 46) (st := [(.int (1 : Int32))]) at_43 (wd1 hw) (wd2 hw) (wd3 hw) (wd4 hw) (by decide) (own_m1 l Z a0 hw [] h q3 (2 : Int32) q1 (0 : Int32)) all0 rfl pd_7 rfl (Nat.le_of_eq rfl) (by decide) (by decide) (by decide) (by decide) rfl ?_
  rintro T1002 h1002 _ W1002 K1002 P1002 rfl
  rw [P1002 rfl rfl] at W1002
  show own_Go p e below C T1002 (mkF m 46 #[.val (.long q1), .second, .val (.long q2), .second, .val (.long q3), .second, .val (.int p4), .val (.int p5), .val (.int p6), .val (.int i0), .val (.int i1), .val (.int i2), .unset, .unset, .unset, .unset, .unset, .unset, .unset, .unset, .unset] [(.int (if q3 < q1 then (1 : Int32) else (if q3 = q1 then (if (2 : Int32) < (0 : Int32) then (1 : Int32) else (0 : Int32)) else (0 : Int32)))), (.int (1 : Int32))])
  rw [show (if q3 < q1 then (1 : Int32) else (if q3 = q1 then (if (2 : Int32) < (0 : Int32) then (1 : Int32) else (0 : Int32)) else (0 : Int32))) = (0 : Int32) from own_cb2 c02 rfl]
  refine own_iadd W1002 47 at_46 rfl ?_
  rw [show ((1 : Int32) + (0 : Int32)) = (1 : Int32) from rfl]
  refine own_istore W1002 49 #[.val (.long q1), .second, .val (.long q2), .second, .val (.long q3), .second, .val (.int p4), .val (.int p5), .val (.int p6), .val (.int i0), .val (.int i1), .val (.int i2), .val (.int (1 : Int32)), .unset, .unset, .unset, .unset, .unset, .unset, .unset, .unset] at_47 rfl rfl ?_
  refine own_lloadN W1002 50 at_49 rfl rfl ?_
  refine own_iconst W1002 (0 : Int32) 51 at_50 rfl rfl ?_
  refine own_lloadN W1002 52 at_51 rfl rfl ?_
  refine own_iconst W1002 (1 : Int32) 53 at_52 rfl rfl ?_
  refine own_callS W1002 (A := [(.long q1), (.int (0 : Int32)), (.long q2), (.int (1 : Int32))]) (wt := 0) (pc' := 56) (st := []) at_53 (wd1 hw) (wd2 hw) (wd3 hw) (wd4 hw) (by decide) (own_m1 l Z a0 hw [] h q1 (0 : Int32) q2 (1 : Int32)) all0 rfl pd_7 rfl (Nat.le_of_eq rfl) (by decide) (by decide) (by decide) (by decide) rfl ?_
  rintro T1003 h1003 _ W1003 K1003 P1003 rfl
  rw [P1003 rfl rfl] at W1003
  show own_Go p e below C T1003 (mkF m 56 #[.val (.long q1), .second, .val (.long q2), .second, .val (.long q3), .second, .val (.int p4), .val (.int p5), .val (.int p6), .val (.int i0), .val (.int i1), .val (.int i2), .val (.int (1 : Int32)), .unset, .unset, .unset, .unset, .unset, .unset, .unset, .unset] [(.int (if q1 < q2 then (1 : Int32) else (if q1 = q2 then (if (0 : Int32) < (1 : Int32) then (1 : Int32) else (0 : Int32)) else (0 : Int32))))])
  rw [show (if q1 < q2 then (1 : Int32) else (if q1 = q2 then (if (0 : Int32) < (1 : Int32) then (1 : Int32) else (0 : Int32)) else (0 : Int32))) = (0 : Int32) from own_cb0 c01]
  refine own_lload W1003 58 at_56 rfl rfl ?_
  refine own_iconst W1003 (2 : Int32) 59 at_58 rfl rfl ?_
  refine own_lloadN W1003 60 at_59 rfl rfl ?_
  refine own_iconst W1003 (1 : Int32) 61 at_60 rfl rfl ?_
  refine own_callS W1003 (A := [(.long q3), (.int (2 : Int32)), (.long q2), (.int (1 : Int32))]) (wt := 1) (pc' := 64) (st := [(.int (0 : Int32))]) at_61 (wd1 hw) (wd2 hw) (wd3 hw) (wd4 hw) (by decide) (own_m1 l Z a0 hw [] h q3 (2 : Int32) q2 (1 : Int32)) all0 rfl pd_7 rfl (Nat.le_of_eq rfl) (by decide) (by decide) (by decide) (by decide) rfl ?_
  rintro T1004 h1004 _ W1004 K1004 P1004 rfl
  rw [P1004 rfl rfl] at W1004
  show own_Go p e below C T1004 (mkF m 64 #[.val (.long q1), .second, .val (.long q2), .second, .val (.long q3), .second, .val (.int p4), .val (.int p5), .val (.int p6), .val (.int i0), .val (.int i1), .val (.int i2), .val (.int (1 : Int32)), .unset, .unset, .unset, .unset, .unset, .unset, .unset, .unset] [(.int (if q3 < q2 then (1 : Int32) else (if q3 = q2 then (if (2 : Int32) < (1 : Int32) then (1 : Int32) else (0 : Int32)) else (0 : Int32)))), (.int (0 : Int32))])
  rw [show (if q3 < q2 then (1 : Int32) else (if q3 = q2 then (if (2 : Int32) < (1 : Int32) then (1 : Int32) else (0 : Int32)) else (0 : Int32))) = (0 : Int32) from own_cb2 c12 rfl]
  refine own_iadd W1004 65 at_64 rfl ?_
  rw [show ((0 : Int32) + (0 : Int32)) = (0 : Int32) from rfl]
  refine own_istore W1004 67 #[.val (.long q1), .second, .val (.long q2), .second, .val (.long q3), .second, .val (.int p4), .val (.int p5), .val (.int p6), .val (.int i0), .val (.int i1), .val (.int i2), .val (.int (1 : Int32)), .val (.int (0 : Int32)), .unset, .unset, .unset, .unset, .unset, .unset, .unset] at_65 rfl rfl ?_
  refine own_lloadN W1004 68 at_67 rfl rfl ?_
  refine own_iconst W1004 (0 : Int32) 69 at_68 rfl rfl ?_
  refine own_lload W1004 71 at_69 rfl rfl ?_
  refine own_iconst W1004 (2 : Int32) 72 at_71 rfl rfl ?_
  refine own_callS W1004 (A := [(.long q1), (.int (0 : Int32)), (.long q3), (.int (2 : Int32))]) (wt := 0) (pc' := 75) (st := []) at_72 (wd1 hw) (wd2 hw) (wd3 hw) (wd4 hw) (by decide) (own_m1 l Z a0 hw [] h q1 (0 : Int32) q3 (2 : Int32)) all0 rfl pd_7 rfl (Nat.le_of_eq rfl) (by decide) (by decide) (by decide) (by decide) rfl ?_
  rintro T1005 h1005 _ W1005 K1005 P1005 rfl
  rw [P1005 rfl rfl] at W1005
  show own_Go p e below C T1005 (mkF m 75 #[.val (.long q1), .second, .val (.long q2), .second, .val (.long q3), .second, .val (.int p4), .val (.int p5), .val (.int p6), .val (.int i0), .val (.int i1), .val (.int i2), .val (.int (1 : Int32)), .val (.int (0 : Int32)), .unset, .unset, .unset, .unset, .unset, .unset, .unset] [(.int (if q1 < q3 then (1 : Int32) else (if q1 = q3 then (if (0 : Int32) < (2 : Int32) then (1 : Int32) else (0 : Int32)) else (0 : Int32))))])
  rw [show (if q1 < q3 then (1 : Int32) else (if q1 = q3 then (if (0 : Int32) < (2 : Int32) then (1 : Int32) else (0 : Int32)) else (0 : Int32))) = (1 : Int32) from own_cb1 c02 rfl]
  refine own_lloadN W1005 76 at_75 rfl rfl ?_
  refine own_iconst W1005 (1 : Int32) 77 at_76 rfl rfl ?_
  refine own_lload W1005 79 at_77 rfl rfl ?_
  refine own_iconst W1005 (2 : Int32) 80 at_79 rfl rfl ?_
  refine own_callS W1005 (A := [(.long q2), (.int (1 : Int32)), (.long q3), (.int (2 : Int32))]) (wt := 1) (pc' := 83) (st := [(.int (1 : Int32))]) at_80 (wd1 hw) (wd2 hw) (wd3 hw) (wd4 hw) (by decide) (own_m1 l Z a0 hw [] h q2 (1 : Int32) q3 (2 : Int32)) all0 rfl pd_7 rfl (Nat.le_of_eq rfl) (by decide) (by decide) (by decide) (by decide) rfl ?_
  rintro T1006 h1006 _ W1006 K1006 P1006 rfl
  rw [P1006 rfl rfl] at W1006
  show own_Go p e below C T1006 (mkF m 83 #[.val (.long q1), .second, .val (.long q2), .second, .val (.long q3), .second, .val (.int p4), .val (.int p5), .val (.int p6), .val (.int i0), .val (.int i1), .val (.int i2), .val (.int (1 : Int32)), .val (.int (0 : Int32)), .unset, .unset, .unset, .unset, .unset, .unset, .unset] [(.int (if q2 < q3 then (1 : Int32) else (if q2 = q3 then (if (1 : Int32) < (2 : Int32) then (1 : Int32) else (0 : Int32)) else (0 : Int32)))), (.int (1 : Int32))])
  rw [show (if q2 < q3 then (1 : Int32) else (if q2 = q3 then (if (1 : Int32) < (2 : Int32) then (1 : Int32) else (0 : Int32)) else (0 : Int32))) = (1 : Int32) from own_cb1 c12 rfl]
  refine own_iadd W1006 84 at_83 rfl ?_
  rw [show ((1 : Int32) + (1 : Int32)) = (2 : Int32) from rfl]
  refine own_istore W1006 86 #[.val (.long q1), .second, .val (.long q2), .second, .val (.long q3), .second, .val (.int p4), .val (.int p5), .val (.int p6), .val (.int i0), .val (.int i1), .val (.int i2), .val (.int (1 : Int32)), .val (.int (0 : Int32)), .val (.int (2 : Int32)), .unset, .unset, .unset, .unset, .unset, .unset] at_84 rfl rfl ?_
  refine own_iconst W1006 (3 : Int32) 87 at_86 rfl rfl ?_
  refine own_newarray W1006 3 3 89 at_87 (wd5 hw) rfl (Nat.le_refl _) (by decide) (by decide) (by decide) rfl ?_
  intro T1007 h1007 ex W1007 E1007 g_ex o_ex V_ex
  show own_Go p e below C T1007 (mkF m 89 #[.val (.long q1), .second, .val (.long q2), .second, .val (.long q3), .second, .val (.int p4), .val (.int p5), .val (.int p6), .val (.int i0), .val (.int i1), .val (.int i2), .val (.int (1 : Int32)), .val (.int (0 : Int32)), .val (.int (2 : Int32)), .unset, .unset, .unset, .unset, .unset, .unset] [(.ref ex)])
  refine own_astore W1007 91 #[.val (.long q1), .second, .val (.long q2), .second, .val (.long q3), .second, .val (.int p4), .val (.int p5), .val (.int p6), .val (.int i0), .val (.int i1), .val (.int i2), .val (.int (1 : Int32)), .val (.int (0 : Int32)), .val (.int (2 : Int32)), .val (.ref ex), .unset, .unset, .unset, .unset, .unset] at_89 rfl rfl rfl ?_
  refine own_iconst W1007 (3 : Int32) 92 at_91 rfl rfl ?_
  refine own_newarray W1007 3 3 94 at_92 (wd6 hw) rfl (Nat.le_refl _) (by decide) (by decide) (by decide) rfl ?_
  intro T1008 h1008 et W1008 E1008 g_et o_et V_et
  have ne_ex_et : ex ≠ et := by rw [g_et]; exact Nat.ne_of_lt V_ex.lt
  have V_ex := V_ex.ext E1008
  show own_Go p e below C T1008 (mkF m 94 #[.val (.long q1), .second, .val (.long q2), .second, .val (.long q3), .second, .val (.int p4), .val (.int p5), .val (.int p6), .val (.int i0), .val (.int i1), .val (.int i2), .val (.int (1 : Int32)), .val (.int (0 : Int32)), .val (.int (2 : Int32)), .val (.ref ex), .unset, .unset, .unset, .unset, .unset] [(.ref et)])
  refine own_astore W1008 96 #[.val (.long q1), .second, .val (.long q2), .second, .val (.long q3), .second, .val (.int p4), .val (.int p5), .val (.int p6), .val (.int i0), .val (.int i1), .val (.int i2), .val (.int (1 : Int32)), .val (.int (0 : Int32)), .val (.int (2 : Int32)), .val (.ref ex), .val (.ref et), .unset, .unset, .unset, .unset] at_94 rfl rfl rfl ?_
  refine own_aload W1008 98 at_96 rfl rfl rfl ?_
  refine own_iload W1008 100 at_98 rfl rfl ?_
  refine own_iload W1008 102 at_100 rfl rfl ?_
  refine own_iastore W1008 1 103 at_102 V_ex (Or.inr o_ex) rfl (by decide) rfl ?_
  intro T1009 h1009 W1009 Wr1009 V_ex
  have V_et := V_et.other Wr1009 (Ne.symm ne_ex_et)
  show own_Go p e below C T1009 (mkF m 103 #[.val (.long q1), .second, .val (.long q2), .second, .val (.long q3), .second, .val (.int p4), .val (.int p5), .val (.int p6), .val (.int i0), .val (.int i1), .val (.int i2), .val (.int (1 : Int32)), .val (.int (0 : Int32)), .val (.int (2 : Int32)), .val (.ref ex), .val (.ref et), .unset, .unset, .unset, .unset] [])
  refine own_aload W1009 105 at_103 rfl rfl rfl ?_
  refine own_iload W1009 107 at_105 rfl rfl ?_
  refine own_lloadN W1009 108 at_107 rfl rfl ?_
  refine own_lastore W1009 1 109 at_108 V_et (Or.inr o_et) rfl (by decide) rfl ?_
  intro T1010 h1010 W1010 Wr1010 V_et
  have V_ex := V_ex.other Wr1010 ne_ex_et
  show own_Go p e below C T1010 (mkF m 109 #[.val (.long q1), .second, .val (.long q2), .second, .val (.long q3), .second, .val (.int p4), .val (.int p5), .val (.int p6), .val (.int i0), .val (.int i1), .val (.int i2), .val (.int (1 : Int32)), .val (.int (0 : Int32)), .val (.int (2 : Int32)), .val (.ref ex), .val (.ref et), .unset, .unset, .unset, .unset] [])
  refine own_aload W1010 111 at_109 rfl rfl rfl ?_
  refine own_iload W1010 113 at_111 rfl rfl ?_
  refine own_iload W1010 115 at_113 rfl rfl ?_
  refine own_iastore W1010 0 116 at_115 V_ex (Or.inr o_ex) rfl (by decide) rfl ?_
  intro T1011 h1011 W1011 Wr1011 V_ex
  have V_et := V_et.other Wr1011 (Ne.symm ne_ex_et)
  show own_Go p e below C T1011 (mkF m 116 #[.val (.long q1), .second, .val (.long q2), .second, .val (.long q3), .second, .val (.int p4), .val (.int p5), .val (.int p6), .val (.int i0), .val (.int i1), .val (.int i2), .val (.int (1 : Int32)), .val (.int (0 : Int32)), .val (.int (2 : Int32)), .val (.ref ex), .val (.ref et), .unset, .unset, .unset, .unset] [])
  refine own_aload W1011 118 at_116 rfl rfl rfl ?_
  refine own_iload W1011 120 at_118 rfl rfl ?_
  refine own_lloadN W1011 121 at_120 rfl rfl ?_
  refine own_lastore W1011 0 122 at_121 V_et (Or.inr o_et) rfl (by decide) rfl ?_
  intro T1012 h1012 W1012 Wr1012 V_et
  have V_ex := V_ex.other Wr1012 ne_ex_et
  show own_Go p e below C T1012 (mkF m 122 #[.val (.long q1), .second, .val (.long q2), .second, .val (.long q3), .second, .val (.int p4), .val (.int p5), .val (.int p6), .val (.int i0), .val (.int i1), .val (.int i2), .val (.int (1 : Int32)), .val (.int (0 : Int32)), .val (.int (2 : Int32)), .val (.ref ex), .val (.ref et), .unset, .unset, .unset, .unset] [])
  refine own_aload W1012 124 at_122 rfl rfl rfl ?_
  refine own_iload W1012 126 at_124 rfl rfl ?_
  refine own_iload W1012 128 at_126 rfl rfl ?_
  refine own_iastore W1012 2 129 at_128 V_ex (Or.inr o_ex) rfl (by decide) rfl ?_
  intro T1013 h1013 W1013 Wr1013 V_ex
  have V_et := V_et.other Wr1013 (Ne.symm ne_ex_et)
  show own_Go p e below C T1013 (mkF m 129 #[.val (.long q1), .second, .val (.long q2), .second, .val (.long q3), .second, .val (.int p4), .val (.int p5), .val (.int p6), .val (.int i0), .val (.int i1), .val (.int i2), .val (.int (1 : Int32)), .val (.int (0 : Int32)), .val (.int (2 : Int32)), .val (.ref ex), .val (.ref et), .unset, .unset, .unset, .unset] [])
  refine own_aload W1013 131 at_129 rfl rfl rfl ?_
  refine own_iload W1013 133 at_131 rfl rfl ?_
  refine own_lload W1013 135 at_133 rfl rfl ?_
  refine own_lastore W1013 2 136 at_135 V_et (Or.inr o_et) rfl (by decide) rfl ?_
  intro T1014 h1014 W1014 Wr1014 V_et
  have V_ex := V_ex.other Wr1014 ne_ex_et
  show own_Go p e below C T1014 (mkF m 136 #[.val (.long q1), .second, .val (.long q2), .second, .val (.long q3), .second, .val (.int p4), .val (.int p5), .val (.int p6), .val (.int i0), .val (.int i1), .val (.int i2), .val (.int (1 : Int32)), .val (.int (0 : Int32)), .val (.int (2 : Int32)), .val (.ref ex), .val (.ref et), .unset, .unset, .unset, .unset] [])
  refine own_new W1014 139 at_136 (wd7 hw) (wd8 hw) (wd9 hw) (by decide) (by decide) rfl ?_
  intro T1015 h1015 o W1015 E1015 g_o o_o X_o D_o
  have ne_ex_o : ex ≠ o := by rw [g_o]; exact Nat.ne_of_lt V_ex.lt
  have ne_et_o : et ≠ o := by rw [g_o]; exact Nat.ne_of_lt V_et.lt
  have V_ex := V_ex.ext E1015
  have V_et := V_et.ext E1015
  have F_inOrder_o : Fld Z h1015 o "com/example/queueloom/queueloom/engine/Arrivals" "inOrder" "Z" (.int (0 : Int32)) := D_o (Or.inl (wd17 hw)) (ty := .boolean) (by decide)
  have F_times_o : Fld Z h1015 o "com/example/queueloom/queueloom/engine/Arrivals" "times" "[J" .null := D_o (Or.inl (wd19 hw)) (ty := (.array .long)) (by decide)
  have F_indices_o : Fld Z h1015 o "com/example/queueloom/queueloom/engine/Arrivals" "indices" "[I" .null := D_o (Or.inl (wd21 hw)) (ty := (.array .int)) (by decide)
  have F_count_o : Fld Z h1015 o "com/example/queueloom/queueloom/engine/Arrivals" "count" "I" (.int (0 : Int32)) := D_o (Or.inl (wd28 hw)) (ty := .int) (by decide)
  have F_first_o : Fld Z h1015 o "com/example/queueloom/queueloom/engine/Arrivals" "first" "I" (.int (0 : Int32)) := D_o (Or.inl (wd35 hw)) (ty := .int) (by decide)
  have F_later_o : Fld Z h1015 o "com/example/queueloom/queueloom/engine/Arrivals" "later" "Lcom/example/queueloom/queueloom/engine/LongPairHeap;" .null := D_o (Or.inl (wd100 hw)) (ty := (.object "com/example/queueloom/queueloom/engine/LongPairHeap")) (by decide)
  show own_Go p e below C T1015 (mkF m 139 #[.val (.long q1), .second, .val (.long q2), .second, .val (.long q3), .second, .val (.int p4), .val (.int p5), .val (.int p6), .val (.int i0), .val (.int i1), .val (.int i2), .val (.int (1 : Int32)), .val (.int (0 : Int32)), .val (.int (2 : Int32)), .val (.ref ex), .val (.ref et), .unset, .unset, .unset, .unset] [(.ref o)])
  refine own_dup W1015 140 at_139 rfl rfl ?_
  refine own_iconst W1015 (3 : Int32) 141 at_140 rfl rfl ?_
  have hol := X_o.lt
  have hel := V_ex.lt
  have hdl := V_et.lt
  refine own_callN W1015 (A := [(.int (3 : Int32))]) (wt := 1) (pc' := 144) (st := [(.ref o)]) at_141 rfl (wd10 hw) (wd11 hw) (wd9 hw) (wd12 hw) (by decide) (own_m2 l Z a0 hw [] h1015 o X_o F_times_o F_indices_o F_count_o F_first_o F_inOrder_o F_later_o) (allS (Or.inr o_o) all0) rfl pd_2 rfl (Nat.le_of_eq rfl) (by decide) (by decide) (by decide) (by decide) rfl ?_
  rintro T1016 h1016 _ W1016 K1016 P1016 ⟨rfl, ⟨tt, ii, o_tt, o_ii, ne_t_i, Y_ii, F_times_o, F_indices_o, F_count_o, F_first_o, F_inOrder_o, F_later_o, V_tt, V_ii⟩⟩
  have V_ex := V_ex.keep K1016 (ninS ne_ex_o nin0)
  have V_et := V_et.keep K1016 (ninS ne_et_o nin0)
  have X_o := X_o.keep K1016
  show own_Go p e below C T1016 (mkF m 144 #[.val (.long q1), .second, .val (.long q2), .second, .val (.long q3), .second, .val (.int p4), .val (.int p5), .val (.int p6), .val (.int i0), .val (.int i1), .val (.int i2), .val (.int (1 : Int32)), .val (.int (0 : Int32)), .val (.int (2 : Int32)), .val (.ref ex), .val (.ref et), .unset, .unset, .unset, .unset] [(.ref o)])
  have ne_o_tt : o ≠ tt := Nat.ne_of_lt (Nat.lt_of_lt_of_le hol o_tt)
  have ne_o_ii : o ≠ ii := Nat.ne_of_lt (Nat.lt_of_lt_of_le hol o_ii)
  have ne_ex_tt : ex ≠ tt := Nat.ne_of_lt (Nat.lt_of_lt_of_le hel o_tt)
  have ne_ex_ii : ex ≠ ii := Nat.ne_of_lt (Nat.lt_of_lt_of_le hel o_ii)
  have ne_et_tt : et ≠ tt := Nat.ne_of_lt (Nat.lt_of_lt_of_le hdl o_tt)
  have ne_et_ii : et ≠ ii := Nat.ne_of_lt (Nat.lt_of_lt_of_le hdl o_ii)
  refine own_astore W1016 146 #[.val (.long q1), .second, .val (.long q2), .second, .val (.long q3), .second, .val (.int p4), .val (.int p5), .val (.int p6), .val (.int i0), .val (.int i1), .val (.int i2), .val (.int (1 : Int32)), .val (.int (0 : Int32)), .val (.int (2 : Int32)), .val (.ref ex), .val (.ref et), .val (.ref o), .unset, .unset, .unset] at_144 rfl rfl rfl ?_
  refine own_aload W1016 148 at_146 rfl rfl rfl ?_
  refine own_lloadN W1016 149 at_148 rfl rfl ?_
  refine own_iload W1016 151 at_149 rfl rfl ?_
  refine own_callV W1016 (A := [(.long q1), (.int i0)]) (wt := 0) (pc' := 154) (st := []) at_151 (wd22 hw) (wd23 hw) (own_nf W1016 (wd25 hw)) (wd25 hw) (wd24 hw) (wd9 hw) (wd26 hw) (by decide) X_o (own_m4 l Z a0 hw [] h1016 o q1 i0 tt ii (fun _ => 0) (fun _ => 0) 0 (0 : Int32) (1 : Int32) X_o F_times_o F_indices_o F_count_o F_first_o F_inOrder_o F_later_o V_tt V_ii ne_o_tt ne_o_ii ne_t_i rfl (by decide)) (allS (Or.inr o_o) (allS (Or.inr (Nat.le_trans (Nat.le_trans o_o (Nat.le_of_lt hol)) o_tt)) (allS (Or.inr (Nat.le_trans (Nat.le_trans o_o (Nat.le_of_lt hol)) o_ii)) all0))) rfl pd_8 rfl (Nat.le_of_eq rfl) (by decide) (by decide) (by decide) (by decide) rfl ?_
  rintro T1017 h1017 _ W1017 K1017 P1017 ⟨rfl, ⟨F_times_o, F_indices_o, F_count_o, F_first_o, F_inOrder_o, F_later_o, V_tt, V_ii⟩⟩
  have V_ex := V_ex.keep K1017 (ninS ne_ex_o (ninS ne_ex_tt (ninS ne_ex_ii nin0)))
  have V_et := V_et.keep K1017 (ninS ne_et_o (ninS ne_et_tt (ninS ne_et_ii nin0)))
  have X_o := X_o.keep K1017
  have Y_ii := Y_ii.keep K1017
  show own_Go p e below C T1017 (mkF m 154 #[.val (.long q1), .second, .val (.long q2), .second, .val (.long q3), .second, .val (.int p4), .val (.int p5), .val (.int p6), .val (.int i0), .val (.int i1), .val (.int i2), .val (.int (1 : Int32)), .val (.int (0 : Int32)), .val (.int (2 : Int32)), .val (.ref ex), .val (.ref et), .val (.ref o), .unset, .unset, .unset] [])
  have F_inOrder_o : Fld Z h1017 o "com/example/queueloom/queueloom/engine/Arrivals" "inOrder" "Z" (.int (((1 : Int32) &&& own_io (0 : Int32) q1 0) &&& 1)) := F_inOrder_o
  rw [own_io0 (1 : Int32) q1 0 rfl] at F_inOrder_o
  have F_count_o : Fld Z h1017 o "com/example/queueloom/queueloom/engine/Arrivals" "count" "I" (.int (1 : Int32)) := F_count_o
  refine own_aload W1017 156 at_154 rfl rfl rfl ?_
  refine own_lloadN W1017 157 at_156 rfl rfl ?_
  refine own_iload W1017 159 at_157 rfl rfl ?_
  refine own_callV W1017 (A := [(.long q2), (.int i1)]) (wt := 0) (pc' := 162) (st := []) at_159 (wd22 hw) (wd23 hw) (own_nf W1017 (wd25 hw)) (wd25 hw) (wd24 hw) (wd9 hw) (wd26 hw) (by decide) X_o (own_m4 l Z a0 hw [] h1017 o q2 i1 tt ii (own_upL (fun _ => 0) 0 q1) (own_upI (fun _ => 0) 0 i0) 1 (1 : Int32) (1 : Int32) X_o F_times_o F_indices_o F_count_o F_first_o F_inOrder_o F_later_o V_tt V_ii ne_o_tt ne_o_ii ne_t_i rfl (by decide)) (allS (Or.inr o_o) (allS (Or.inr (Nat.le_trans (Nat.le_trans o_o (Nat.le_of_lt hol)) o_tt)) (allS (Or.inr (Nat.le_trans (Nat.le_trans o_o (Nat.le_of_lt hol)) o_ii)) all0))) rfl pd_8 rfl (Nat.le_of_eq rfl) (by decide) (by decide) (by decide) (by decide) rfl ?_
  rintro T1018 h1018 _ W1018 K1018 P1018 ⟨rfl, ⟨F_times_o, F_indices_o, F_count_o, F_first_o, F_inOrder_o, F_later_o, V_tt, V_ii⟩⟩
  have V_ex := V_ex.keep K1018 (ninS ne_ex_o (ninS ne_ex_tt (ninS ne_ex_ii nin0)))
  have V_et := V_et.keep K1018 (ninS ne_et_o (ninS ne_et_tt (ninS ne_et_ii nin0)))
  have X_o := X_o.keep K1018
  have Y_ii := Y_ii.keep K1018
  show own_Go p e below C T1018 (mkF m 162 #[.val (.long q1), .second, .val (.long q2), .second, .val (.long q3), .second, .val (.int p4), .val (.int p5), .val (.int p6), .val (.int i0), .val (.int i1), .val (.int i2), .val (.int (1 : Int32)), .val (.int (0 : Int32)), .val (.int (2 : Int32)), .val (.ref ex), .val (.ref et), .val (.ref o), .unset, .unset, .unset] [])
  have F_inOrder_o : Fld Z h1018 o "com/example/queueloom/queueloom/engine/Arrivals" "inOrder" "Z" (.int (((1 : Int32) &&& own_io (1 : Int32) q2 q1) &&& 1)) := F_inOrder_o
  rw [own_ioP (1 : Int32) (1 : Int32) q2 q1 (by decide) c01 (by decide)] at F_inOrder_o
  have F_count_o : Fld Z h1018 o "com/example/queueloom/queueloom/engine/Arrivals" "count" "I" (.int (2 : Int32)) := F_count_o
  refine own_aload W1018 164 at_162 rfl rfl rfl ?_
  refine own_lload W1018 166 at_164 rfl rfl ?_
  refine own_iload W1018 168 at_166 rfl rfl ?_
  refine own_callV W1018 (A := [(.long q3), (.int i2)]) (wt := 0) (pc' := 171) (st := []) at_168 (wd22 hw) (wd23 hw) (own_nf W1018 (wd25 hw)) (wd25 hw) (wd24 hw) (wd9 hw) (wd26 hw) (by decide) X_o (own_m4 l Z a0 hw [] h1018 o q3 i2 tt ii (own_upL (own_upL (fun _ => 0) 0 q1) 1 q2) (own_upI (own_upI (fun _ => 0) 0 i0) 1 i1) 2 (2 : Int32) (0 : Int32) X_o F_times_o F_indices_o F_count_o F_first_o F_inOrder_o F_later_o V_tt V_ii ne_o_tt ne_o_ii ne_t_i rfl (by decide)) (allS (Or.inr o_o) (allS (Or.inr (Nat.le_trans (Nat.le_trans o_o (Nat.le_of_lt hol)) o_tt)) (allS (Or.inr (Nat.le_trans (Nat.le_trans o_o (Nat.le_of_lt hol)) o_ii)) all0))) rfl pd_8 rfl (Nat.le_of_eq rfl) (by decide) (by decide) (by decide) (by decide) rfl ?_
  rintro T1019 h1019 _ W1019 K1019 P1019 ⟨rfl, ⟨F_times_o, F_indices_o, F_count_o, F_first_o, F_inOrder_o, F_later_o, V_tt, V_ii⟩⟩
  have V_ex := V_ex.keep K1019 (ninS ne_ex_o (ninS ne_ex_tt (ninS ne_ex_ii nin0)))
  have V_et := V_et.keep K1019 (ninS ne_et_o (ninS ne_et_tt (ninS ne_et_ii nin0)))
  have X_o := X_o.keep K1019
  have Y_ii := Y_ii.keep K1019
  show own_Go p e below C T1019 (mkF m 171 #[.val (.long q1), .second, .val (.long q2), .second, .val (.long q3), .second, .val (.int p4), .val (.int p5), .val (.int p6), .val (.int i0), .val (.int i1), .val (.int i2), .val (.int (1 : Int32)), .val (.int (0 : Int32)), .val (.int (2 : Int32)), .val (.ref ex), .val (.ref et), .val (.ref o), .unset, .unset, .unset] [])
  have F_inOrder_o : Fld Z h1019 o "com/example/queueloom/queueloom/engine/Arrivals" "inOrder" "Z" (.int (((0 : Int32) &&& own_io (2 : Int32) q3 q2) &&& 1)) := F_inOrder_o
  rw [own_ioN (0 : Int32) (2 : Int32) q3 q2 (by decide) c12 (by decide)] at F_inOrder_o
  have F_count_o : Fld Z h1019 o "com/example/queueloom/queueloom/engine/Arrivals" "count" "I" (.int (3 : Int32)) := F_count_o
  refine own_aload W1019 173 at_171 rfl rfl rfl ?_
  refine own_callV W1019 (A := []) (wt := 0) (pc' := 176) (st := []) at_173 (wd29 hw) (wd30 hw) (own_nf W1019 (wd32 hw)) (wd32 hw) (wd31 hw) (wd9 hw) (wd33 hw) (by decide) X_o (own_m5 l Z a0 hw [] h1019 o tt ii (own_upL (own_upL (own_upL (fun _ => 0) 0 q1) 1 q2) 2 q3) (own_upI (own_upI (own_upI (fun _ => 0) 0 i0) 1 i1) 2 i2) (0 : Int32) F_times_o F_indices_o F_count_o F_first_o F_inOrder_o F_later_o V_tt V_ii Y_ii) all0 rfl pd_9 rfl (Nat.le_of_eq rfl) (by decide) (by decide) (by decide) (by decide) rfl ?_
  rintro T1020 h1020 _ W1020 K1020 P1020 ⟨bf, rfl, o_bf, V_bf⟩
  have V_ex := V_ex.keep K1020 nin0
  have V_et := V_et.keep K1020 nin0
  have X_o := X_o.keep K1020
  have Y_ii := Y_ii.keep K1020
  have F_times_o := F_times_o.keep K1020 nin0
  have F_indices_o := F_indices_o.keep K1020 nin0
  have F_count_o := F_count_o.keep K1020 nin0
  have F_first_o := F_first_o.keep K1020 nin0
  have F_inOrder_o := F_inOrder_o.keep K1020 nin0
  have F_later_o := F_later_o.keep K1020 nin0
  have V_tt := V_tt.keep K1020 nin0
  have V_ii := V_ii.keep K1020 nin0
  show own_Go p e below C T1020 (mkF m 176 #[.val (.long q1), .second, .val (.long q2), .second, .val (.long q3), .second, .val (.int p4), .val (.int p5), .val (.int p6), .val (.int i0), .val (.int i1), .val (.int i2), .val (.int (1 : Int32)), .val (.int (0 : Int32)), .val (.int (2 : Int32)), .val (.ref ex), .val (.ref et), .val (.ref o), .unset, .unset, .unset] [(.ref bf)])
  refine own_astore W1020 178 #[.val (.long q1), .second, .val (.long q2), .second, .val (.long q3), .second, .val (.int p4), .val (.int p5), .val (.int p6), .val (.int i0), .val (.int i1), .val (.int i2), .val (.int (1 : Int32)), .val (.int (0 : Int32)), .val (.int (2 : Int32)), .val (.ref ex), .val (.ref et), .val (.ref o), .val (.ref bf), .unset, .unset] at_176 rfl rfl rfl ?_
  refine own_aload W1020 180 at_178 rfl rfl rfl ?_
  refine own_arraylength W1020 (3 : Int32) 181 at_180 V_bf rfl rfl ?_
  refine own_iconst W1020 (3 : Int32) 182 at_181 rfl rfl ?_
  refine own_icmpN W1020 185 at_182 ((teq (rfl : (3 : Int32) = (3 : Int32))).2) rfl ?_
  refine own_aload W1020 187 at_185 rfl rfl rfl ?_
  refine own_iconst W1020 (0 : Int32) 188 at_187 rfl rfl ?_
  refine own_iaload W1020 0 i0 189 at_188 V_bf rfl (by decide) rfl rfl ?_
  refine own_iload W1020 191 at_189 rfl rfl ?_
  refine own_icmpN W1020 194 at_191 ((teq (rfl : i0 = i0)).2) rfl ?_
  refine own_aload W1020 196 at_194 rfl rfl rfl ?_
  refine own_iconst W1020 (1 : Int32) 197 at_196 rfl rfl ?_
  refine own_iaload W1020 1 i1 198 at_197 V_bf rfl (by decide) rfl rfl ?_
  refine own_iload W1020 200 at_198 rfl rfl ?_
  refine own_icmpN W1020 203 at_200 ((teq (rfl : i1 = i1)).2) rfl ?_
  refine own_aload W1020 205 at_203 rfl rfl rfl ?_
  refine own_iconst W1020 (2 : Int32) 206 at_205 rfl rfl ?_
  refine own_iaload W1020 2 i2 207 at_206 V_bf rfl (by decide) rfl rfl ?_
  refine own_iload W1020 209 at_207 rfl rfl ?_
  refine own_icmpN W1020 212 at_209 ((teq (rfl : i2 = i2)).2) rfl ?_
  refine own_iconst W1020 (1 : Int32) 213 at_212 rfl rfl ?_
  refine own_goto W1020 217 at_213 (by decide) (by decide) ?_
  refine own_istore W1020 219 #[.val (.long q1), .second, .val (.long q2), .second, .val (.long q3), .second, .val (.int p4), .val (.int p5), .val (.int p6), .val (.int i0), .val (.int i1), .val (.int i2), .val (.int (1 : Int32)), .val (.int (0 : Int32)), .val (.int (2 : Int32)), .val (.ref ex), .val (.ref et), .val (.ref o), .val (.ref bf), .val (.int (1 : Int32)), .unset] at_217 rfl rfl ?_
  refine own_aload W1020 221 at_219 rfl rfl rfl ?_
  refine own_callV W1020 (A := []) (wt := 0) (pc' := 224) (st := []) at_221 (wd49 hw) (wd50 hw) (own_nf W1020 (wd52 hw)) (wd52 hw) (wd51 hw) (wd9 hw) (wd53 hw) (by decide) X_o (own_m7b l Z a0 hw [] h1020 o tt ii (own_upL (own_upL (own_upL (fun _ => 0) 0 q1) 1 q2) 2 q3) (own_upI (own_upI (own_upI (fun _ => 0) 0 i0) 1 i1) 2 i2) X_o F_times_o F_indices_o F_count_o F_first_o F_inOrder_o F_later_o V_tt V_ii ne_o_tt ne_o_ii ne_t_i) (allS (Or.inr o_o) (allS (Or.inr (Nat.le_trans (Nat.le_trans o_o (Nat.le_of_lt hol)) o_tt)) (allS (Or.inr (Nat.le_trans (Nat.le_trans o_o (Nat.le_of_lt hol)) o_ii)) all0))) rfl pd_5 rfl (Nat.le_of_eq rfl) (by decide) (by decide) (by decide) (by decide) rfl ?_
  rintro T1021 h1021 _ W1021 K1021 P1021 ⟨rfl, ⟨F_times_o, F_indices_o, F_count_o, F_first_o, F_inOrder_o, F_later_o, V_tt, V_ii⟩⟩
  have V_ex := V_ex.keep K1021 (ninS ne_ex_o (ninS ne_ex_tt (ninS ne_ex_ii nin0)))
  have V_et := V_et.keep K1021 (ninS ne_et_o (ninS ne_et_tt (ninS ne_et_ii nin0)))
  have X_o := X_o.keep K1021
  have Y_ii := Y_ii.keep K1021
  show own_Go p e below C T1021 (mkF m 224 #[.val (.long q1), .second, .val (.long q2), .second, .val (.long q3), .second, .val (.int p4), .val (.int p5), .val (.int p6), .val (.int i0), .val (.int i1), .val (.int i2), .val (.int (1 : Int32)), .val (.int (0 : Int32)), .val (.int (2 : Int32)), .val (.ref ex), .val (.ref et), .val (.ref o), .val (.ref bf), .val (.int (1 : Int32)), .unset] [])
  have V_tt : own_A Z h1021 tt .long 3 (fun j => .long ((own_upL (own_upL (own_upL (own_upL (own_upL (own_upL (fun _ => 0) 0 q1) 1 q2) 2 q3) 0 ((own_p3 (own_upL (own_upL (own_upL (fun _ => 0) 0 q1) 1 q2) 2 q3) (own_upI (own_upI (own_upI (fun _ => 0) 0 i0) 1 i1) 2 i2)).1 0)) 1 ((own_q1 (own_upL (own_upL (own_upL (fun _ => 0) 0 q1) 1 q2) 2 q3) (own_upI (own_upI (own_upI (fun _ => 0) 0 i0) 1 i1) 2 i2)).1 0)) 2 ((own_q2 (own_upL (own_upL (own_upL (fun _ => 0) 0 q1) 1 q2) 2 q3) (own_upI (own_upI (own_upI (fun _ => 0) 0 i0) 1 i1) 2 i2)).1 0)) j)) := V_tt
  have V_ii : own_A Z h1021 ii .int 3 (fun j => .int ((own_upI (own_upI (own_upI (own_upI (own_upI (own_upI (fun _ => 0) 0 i0) 1 i1) 2 i2) 0 ((own_p3 (own_upL (own_upL (own_upL (fun _ => 0) 0 q1) 1 q2) 2 q3) (own_upI (own_upI (own_upI (fun _ => 0) 0 i0) 1 i1) 2 i2)).2 0).toInt32) 1 ((own_q1 (own_upL (own_upL (own_upL (fun _ => 0) 0 q1) 1 q2) 2 q3) (own_upI (own_upI (own_upI (fun _ => 0) 0 i0) 1 i1) 2 i2)).2 0).toInt32) 2 ((own_q2 (own_upL (own_upL (own_upL (fun _ => 0) 0 q1) 1 q2) 2 q3) (own_upI (own_upI (own_upI (fun _ => 0) 0 i0) 1 i1) 2 i2)).2 0).toInt32) j)) := V_ii
  obtain ⟨TA, IB, V_tt, V_ii, E0, E1, E2, G0, G1, G2⟩ : ∃ (TA : Nat → Int64) (IB : Nat → Int32), own_A Z h1021 tt .long 3 (fun j => .long (TA j)) ∧ own_A Z h1021 ii .int 3 (fun j => .int (IB j)) ∧ TA 0 = q2 ∧ TA 1 = q1 ∧ TA 2 = q3 ∧ IB 0 = i1 ∧ IB 1 = i0 ∧ IB 2 = i2 := ⟨_, _, V_tt, V_ii, own_s_tff q1 q2 q3 i0 i1 i2 (own_rkL c01) (own_rkN c02 hr02)⟩
  refine own_aload W1021 226 at_224 rfl rfl rfl ?_
  refine own_callV W1021 (A := []) (wt := 0) (pc' := 229) (st := []) at_226 (wd29 hw) (wd30 hw) (own_nf W1021 (wd32 hw)) (wd32 hw) (wd31 hw) (wd9 hw) (wd33 hw) (by decide) X_o (own_m5 l Z a0 hw [] h1021 o tt ii TA IB (1 : Int32) F_times_o F_indices_o F_count_o F_first_o F_inOrder_o F_later_o V_tt V_ii Y_ii) all0 rfl pd_9 rfl (Nat.le_of_eq rfl) (by decide) (by decide) (by decide) (by decide) rfl ?_
  rintro T1022 h1022 _ W1022 K1022 P1022 ⟨af, rfl, o_af, V_af⟩
  have V_ex := V_ex.keep K1022 nin0
  have V_et := V_et.keep K1022 nin0
  have X_o := X_o.keep K1022
  have Y_ii := Y_ii.keep K1022
  have F_times_o := F_times_o.keep K1022 nin0
  have F_indices_o := F_indices_o.keep K1022 nin0
  have F_count_o := F_count_o.keep K1022 nin0
  have F_first_o := F_first_o.keep K1022 nin0
  have F_inOrder_o := F_inOrder_o.keep K1022 nin0
  have F_later_o := F_later_o.keep K1022 nin0
  have V_tt := V_tt.keep K1022 nin0
  have V_ii := V_ii.keep K1022 nin0
  show own_Go p e below C T1022 (mkF m 229 #[.val (.long q1), .second, .val (.long q2), .second, .val (.long q3), .second, .val (.int p4), .val (.int p5), .val (.int p6), .val (.int i0), .val (.int i1), .val (.int i2), .val (.int (1 : Int32)), .val (.int (0 : Int32)), .val (.int (2 : Int32)), .val (.ref ex), .val (.ref et), .val (.ref o), .val (.ref bf), .val (.int (1 : Int32)), .unset] [(.ref af)])
  refine own_astore W1022 231 #[.val (.long q1), .second, .val (.long q2), .second, .val (.long q3), .second, .val (.int p4), .val (.int p5), .val (.int p6), .val (.int i0), .val (.int i1), .val (.int i2), .val (.int (1 : Int32)), .val (.int (0 : Int32)), .val (.int (2 : Int32)), .val (.ref ex), .val (.ref et), .val (.ref o), .val (.ref bf), .val (.int (1 : Int32)), .val (.ref af)] at_229 rfl rfl rfl ?_
  refine own_iload W1022 233 at_231 rfl rfl ?_
  refine own_ifN W1022 236 at_233 ((if0 _ _).trans (feq (by decide : ¬ ((1 : Int32) = (0 : Int32)))).1) rfl ?_
  refine own_aload W1022 238 at_236 rfl rfl rfl ?_
  refine own_arraylength W1022 (3 : Int32) 239 at_238 V_af rfl rfl ?_
  refine own_iconst W1022 (3 : Int32) 240 at_239 rfl rfl ?_
  refine own_icmpN W1022 243 at_240 ((teq (rfl : (3 : Int32) = (3 : Int32))).2) rfl ?_
  refine own_aload W1022 245 at_243 rfl rfl rfl ?_
  refine own_iconst W1022 (0 : Int32) 246 at_245 rfl rfl ?_
  refine own_iaload W1022 0 i1 247 at_246 V_af rfl (by decide) (congrArg Value.int G0) rfl ?_
  refine own_aload W1022 249 at_247 rfl rfl rfl ?_
  refine own_iconst W1022 (0 : Int32) 250 at_249 rfl rfl ?_
  refine own_iaload W1022 0 i1 251 at_250 V_ex rfl (by decide) rfl rfl ?_
  refine own_icmpN W1022 254 at_251 ((teq (rfl : i1 = i1)).2) rfl ?_
  refine own_aload W1022 256 at_254 rfl rfl rfl ?_
  refine own_iconst W1022 (1 : Int32) 257 at_256 rfl rfl ?_
  refine own_iaload W1022 1 i0 258 at_257 V_af rfl (by decide) (congrArg Value.int G1) rfl ?_
  refine own_aload W1022 260 at_258 rfl rfl rfl ?_
  refine own_iconst W1022 (1 : Int32) 261 at_260 rfl rfl ?_
  refine own_iaload W1022 1 i0 262 at_261 V_ex rfl (by decide) rfl rfl ?_
  refine own_icmpN W1022 265 at_262 ((teq (rfl : i0 = i0)).2) rfl ?_
  refine own_aload W1022 267 at_265 rfl rfl rfl ?_
  refine own_iconst W1022 (2 : Int32) 268 at_267 rfl rfl ?_
  refine own_iaload W1022 2 i2 269 at_268 V_af rfl (by decide) (congrArg Value.int G2) rfl ?_
  refine own_aload W1022 271 at_269 rfl rfl rfl ?_
  refine own_iconst W1022 (2 : Int32) 272 at_271 rfl rfl ?_
  refine own_iaload W1022 2 i2 273 at_272 V_ex rfl (by decide) rfl rfl ?_
  refine own_icmpN W1022 276 at_273 ((teq (rfl : i2 = i2)).2) rfl ?_
  refine own_iconst W1022 (1 : Int32) 277 at_276 rfl rfl ?_
  refine own_goto W1022 281 at_277 (by decide) (by decide) ?_
  refine own_istore W1022 283 #[.val (.long q1), .second, .val (.long q2), .second, .val (.long q3), .second, .val (.int p4), .val (.int p5), .val (.int p6), .val (.int i0), .val (.int i1), .val (.int i2), .val (.int (1 : Int32)), .val (.int (0 : Int32)), .val (.int (2 : Int32)), .val (.ref ex), .val (.ref et), .val (.ref o), .val (.ref bf), .val (.int (1 : Int32)), .val (.ref af)] at_281 rfl rfl ?_
  refine own_iload W1022 285 at_283 rfl rfl ?_
  refine own_ifN W1022 288 at_285 ((if0 _ _).trans (feq (by decide : ¬ ((1 : Int32) = (0 : Int32)))).1) rfl ?_
  refine own_aload W1022 290 at_288 rfl rfl rfl ?_
  refine own_callV W1022 (A := []) (wt := 0) (pc' := 293) (st := []) at_290 (wd90 hw) (wd91 hw) (own_nf W1022 (wd93 hw)) (wd93 hw) (wd92 hw) (wd9 hw) (wd94 hw) (by decide) X_o (own_m14 l Z a0 hw [] h1022 o tt ii TA IB (3 : Int32) (1 : Int32) X_o F_times_o F_indices_o F_count_o F_first_o F_inOrder_o F_later_o V_tt V_ii) all0 rfl pd_4 rfl (Nat.le_of_eq rfl) (by decide) (by decide) (by decide) (by decide) rfl ?_
  rintro T1023 h1023 _ W1023 K1023 P1023 rfl
  rw [P1023 rfl rfl] at W1023
  show own_Go p e below C T1023 (mkF m 293 #[.val (.long q1), .second, .val (.long q2), .second, .val (.long q3), .second, .val (.int p4), .val (.int p5), .val (.int p6), .val (.int i0), .val (.int i1), .val (.int i2), .val (.int (1 : Int32)), .val (.int (0 : Int32)), .val (.int (2 : Int32)), .val (.ref ex), .val (.ref et), .val (.ref o), .val (.ref bf), .val (.int (1 : Int32)), .val (.ref af)] [(.long (TA 0))])
  rw [show (TA 0) = q2 from E0]
  refine own_aload W1023 295 at_293 rfl rfl rfl ?_
  refine own_iconst W1023 (0 : Int32) 296 at_295 rfl rfl ?_
  refine own_laload W1023 0 q2 297 at_296 V_et rfl (by decide) rfl rfl ?_
  refine own_lcmp W1023 298 at_297 rfl ?_
  refine own_ifN W1023 301 at_298 ((if0 _ _).trans (teq ((lw_eq q2 q2).mpr (rfl : q2 = q2))).2) rfl ?_
  refine own_aload W1023 303 at_301 rfl rfl rfl ?_
  refine own_callV W1023 (A := []) (wt := 0) (pc' := 306) (st := []) at_303 (wd101 hw) (wd102 hw) (own_nf W1023 (wd104 hw)) (wd104 hw) (wd103 hw) (wd9 hw) (wd105 hw) (by decide) X_o (own_m16 l Z a0 hw [] h1022 o tt ii TA IB (3 : Int32) (1 : Int32) X_o F_times_o F_indices_o F_count_o F_first_o F_inOrder_o F_later_o V_tt V_ii) all0 rfl pd_10 rfl (Nat.le_of_eq rfl) (by decide) (by decide) (by decide) (by decide) rfl ?_
  rintro T1024 h1024 _ W1024 K1024 P1024 rfl
  rw [P1024 rfl rfl] at W1024
  show own_Go p e below C T1024 (mkF m 306 #[.val (.long q1), .second, .val (.long q2), .second, .val (.long q3), .second, .val (.int p4), .val (.int p5), .val (.int p6), .val (.int i0), .val (.int i1), .val (.int i2), .val (.int (1 : Int32)), .val (.int (0 : Int32)), .val (.int (2 : Int32)), .val (.ref ex), .val (.ref et), .val (.ref o), .val (.ref bf), .val (.int (1 : Int32)), .val (.ref af)] [(.int (IB 0))])
  rw [show (IB 0) = i1 from G0]
  refine own_aload W1024 308 at_306 rfl rfl rfl ?_
  refine own_iconst W1024 (0 : Int32) 309 at_308 rfl rfl ?_
  refine own_iaload W1024 0 i1 310 at_309 V_ex rfl (by decide) rfl rfl ?_
  refine own_icmpN W1024 313 at_310 ((teq (rfl : i1 = i1)).2) rfl ?_
  refine own_iconst W1024 (1 : Int32) 314 at_313 rfl rfl ?_
  refine own_goto W1024 318 at_314 (by decide) (by decide) ?_
  refine own_istore W1024 320 #[.val (.long q1), .second, .val (.long q2), .second, .val (.long q3), .second, .val (.int p4), .val (.int p5), .val (.int p6), .val (.int i0), .val (.int i1), .val (.int i2), .val (.int (1 : Int32)), .val (.int (0 : Int32)), .val (.int (2 : Int32)), .val (.ref ex), .val (.ref et), .val (.ref o), .val (.ref bf), .val (.int (1 : Int32)), .val (.ref af)] at_318 rfl rfl ?_
  refine own_iload W1024 322 at_320 rfl rfl ?_
  refine own_retZ (Q := fun v h => v = some (.int (1 : Int32))) W1024 hC (by decide) (by decide) at_322 ?_
  exact rfl
set_option maxRecDepth 65536 in
set_option maxHeartbeats 40000000 in
theorem own_m0_ftt (l : Launch) (Z : State) (a0 : Array Value) (hw : ∀ d ∈ tables_1, d.before a0 Z = true) (h0 : Heap) (q1 : Int64) (q2 : Int64) (q3 : Int64) (p4 : Int32) (p5 : Int32) (p6 : Int32) (p : Program) (e : Env) (s : State) (m : MethodId) (below : List Frame) (meth : Method) (c : Code) (C : Outcome → State → Prop) (hC : ∀ v L u, own_Fw s [] L → (v = some (.int (1 : Int32))) → FrameEnd s (.returned v) u L room_1.cells room_1.slots → C (.returned v) u) (T : State) (h : Heap) (i0 i1 i2 : Int32) (W : own_W p l e room_1 s m #[(.long q1), (.long q2), (.long q3), (.int p4), (.int p5), (.int p6)] below meth c Z x ret code maxLocals [] T h (0) (0)) (c01 : ¬ q2 < q1) (c02 : q3 < q1) (c12 : q3 < q2) (hr01 : i0 < i1) (hr12 : i1 < i2) (hr02 : i0 < i2) :
    own_Go p e below C T (mkF m 31 #[.val (.long q1), .second, .val (.long q2), .second, .val (.long q3), .second, .val (.int p4), .val (.int p5), .val (.int p6), .val (.int i0), .val (.int i1), .val (.int i2), .unset, .unset, .unset, .unset, .unset, .unset, .unset, .unset, .unset] []) := by
  refine own_lloadN W 32 at_31 rfl rfl ?_
  refine own_iconst W (1 : Int32) 33 at_32 rfl rfl ?_
  refine own_lloadN W 34 at_33 rfl rfl ?_
  refine own_iconst W (0 : Int32) 35 at_34 rfl rfl ?_
  refine own_callS W (A := [(.long q2), (.int (1 : Int32)), (.long q1), (.int (0 : Int32))]) (wt := 0) (pc' := 38) (st := []) at_35 (wd1 hw) (wd2 hw) (wd3 hw) (wd4 hw) (by decide) (own_m1 l Z a0 hw [] h q2 (1 : Int32) q1 (0 : Int32)) all0 rfl pd_7 rfl (Nat.le_of_eq rfl) (by decide) (by decide) (by decide) (by decide) rfl ?_
  rintro T1001 h1001 _ W1001 K1001 P1001 rfl
  rw [P1001 rfl rfl] at W1001
  show own_Go p e below C T1001 (mkF m 38 #[.val (.long q1), .second, .val (.long q2), .second, .val (.long q3), .second, .val (.int p4), .val (.int p5), .val (.int p6), .val (.int i0), .val (.int i1), .val (.int i2), .unset, .unset, .unset, .unset, .unset, .unset, .unset, .unset, .unset] [(.int (if q2 < q1 then (1 : Int32) else (if q2 = q1 then (if (1 : Int32) < (0 : Int32) then (1 : Int32) else (0 : Int32)) else (0 : Int32))))])
  rw [show (if q2 < q1 then (1 : Int32) else (if q2 = q1 then (if (1 : Int32) < (0 : Int32) then (1 : Int32) else (0 : Int32)) else (0 : Int32))) = (0 : Int32) from own_cb2 c01 rfl]
  refine own_lload W1001 40 at_38 rfl rfl ?_
  refine own_iconst W1001 (2 : Int32) 41 at_40 rfl rfl ?_
  refine own_lloadN W1001 42 at_41 rfl rfl ?_
  refine own_iconst W1001 (0 : Int32) 43 at_42 rfl rfl ?_
  refine own_callS W1001 (A := [(.long q3), (.int (2 : Int32)), (.long q1), (.int (0 : Int32))]) (wt := 1) (pc' := 46) (st := [(.int (0 : Int32))]) at_43 (wd1 hw) (wd2 hw) (wd3 hw) (wd4 hw) (by decide) (own_m1 l Z a0 hw [] h q3 (2 : Int32) q1 (0 : Int32)) all0 rfl pd_7 rfl (Nat.le_of_eq rfl) (by decide) (by decide) (by decide) (by decide) rfl ?_
  rintro T1002 h1002 _ W1002 K1002 P1002 rfl
  rw [P1002 rfl rfl] at W1002
  show own_Go p e below C T1002 (mkF m 46 #[.val (.long q1), .second, .val (.long q2), .second, .val (.long q3), .second, .val (.int p4), .val (.int p5), .val (.int p6), .val (.int i0), .val (.int i1), .val (.int i2), .unset, .unset, .unset, .unset, .unset, .unset, .unset, .unset, .unset] [(.int (if q3 < q1 then (1 : Int32) else (if q3 = q1 then (if (2 : Int32) < (0 : Int32) then (1 : Int32) else (0 : Int32)) else (0 : Int32)))), (.int (0 : Int32))])
  rw [show (if q3 < q1 then (1 : Int32) else (if q3 = q1 then (if (2 : Int32) < (0 : Int32) then (1 : Int32) else (0 : Int32)) else (0 : Int32))) = (1 : Int32) from if_pos c02]
  refine own_iadd W1002 47 at_46 rfl ?_
  rw [show ((0 : Int32) + (1 : Int32)) = (1 : Int32) from rfl]
  refine own_istore W1002 49 #[.val (.long q1), .second, .val (.long q2), .second, .val (.long q3), .second, .val (.int p4), .val (.int p5), .val (.int p6), .val (.int i0), .val (.int i1), .val (.int i2), .val (.int (1 : Int32)), .unset, .unset, .unset, .unset, .unset, .unset, .unset, .unset] at_47 rfl rfl ?_
  refine own_lloadN W1002 50 at_49 rfl rfl ?_
  refine own_iconst W1002 (0 : Int32) 51 at_50 rfl rfl ?_
  refine own_lloadN W1002 52 at_51 rfl rfl ?_
  refine own_iconst W1002 (1 : Int32) 53 at_52 rfl rfl ?_
  refine own_callS W1002 (A := [(.long q1), (.int (0 : Int32)), (.long q2), (.int (1 : Int32))]) (wt := 0) (pc' := 56) (st := []) at_53 (wd1 hw) (wd2 hw) (wd3 hw) (wd4 hw) (by decide) (own_m1 l Z a0 hw [] h q1 (0 : Int32) q2 (1 : Int32)) all0 rfl pd_7 rfl (Nat.le_of_eq rfl) (by decide) (by decide) (by decide) (by decide) rfl ?_
  rintro T1003 h1003 _ W1003 K1003 P1003 rfl
  rw [P1003 rfl rfl] at W1003
  show own_Go p e below C T1003 (mkF m 56 #[.val (.long q1), .second, .val (.long q2), .second, .val (.long q3), .second, .val (.int p4), .val (.int p5), .val (.int p6), .val (.int i0), .val (.int i1), .val (.int i2), .val (.int (1 : Int32)), .unset, .unset, .unset, .unset, .unset, .unset, .unset, .unset] [(.int (if q1 < q2 then (1 : Int32) else (if q1 = q2 then (if (0 : Int32) < (1 : Int32) then (1 : Int32) else (0 : Int32)) else (0 : Int32))))])
  rw [show (if q1 < q2 then (1 : Int32) else (if q1 = q2 then (if (0 : Int32) < (1 : Int32) then (1 : Int32) else (0 : Int32)) else (0 : Int32))) = (1 : Int32) from own_cb1 c01 rfl]
  refine own_lload W1003 58 at_56 rfl rfl ?_
  refine own_iconst W1003 (2 : Int32) 59 at_58 rfl rfl ?_
  refine own_lloadN W1003 60 at_59 rfl rfl ?_
  refine own_iconst W1003 (1 : Int32) 61 at_60 rfl rfl ?_
  refine own_callS W1003 (A := [(.long q3), (.int (2 : Int32)), (.long q2), (.int (1 : Int32))]) (wt := 1) (pc' := 64) (st := [(.int (1 : Int32))]) at_61 (wd1 hw) (wd2 hw) (wd3 hw) (wd4 hw) (by decide) (own_m1 l Z a0 hw [] h q3 (2 : Int32) q2 (1 : Int32)) all0 rfl pd_7 rfl (Nat.le_of_eq rfl) (by decide) (by decide) (by decide) (by decide) rfl ?_
  rintro T1004 h1004 _ W1004 K1004 P1004 rfl
  rw [P1004 rfl rfl] at W1004
  show own_Go p e below C T1004 (mkF m 64 #[.val (.long q1), .second, .val (.long q2), .second, .val (.long q3), .second, .val (.int p4), .val (.int p5), .val (.int p6), .val (.int i0), .val (.int i1), .val (.int i2), .val (.int (1 : Int32)), .unset, .unset, .unset, .unset, .unset, .unset, .unset, .unset] [(.int (if q3 < q2 then (1 : Int32) else (if q3 = q2 then (if (2 : Int32) < (1 : Int32) then (1 : Int32) else (0 : Int32)) else (0 : Int32)))), (.int (1 : Int32))])
  rw [show (if q3 < q2 then (1 : Int32) else (if q3 = q2 then (if (2 : Int32) < (1 : Int32) then (1 : Int32) else (0 : Int32)) else (0 : Int32))) = (1 : Int32) from if_pos c12]
  refine own_iadd W1004 65 at_64 rfl ?_
  rw [show ((1 : Int32) + (1 : Int32)) = (2 : Int32) from rfl]
  refine own_istore W1004 67 #[.val (.long q1), .second, .val (.long q2), .second, .val (.long q3), .second, .val (.int p4), .val (.int p5), .val (.int p6), .val (.int i0), .val (.int i1), .val (.int i2), .val (.int (1 : Int32)), .val (.int (2 : Int32)), .unset, .unset, .unset, .unset, .unset, .unset, .unset] at_65 rfl rfl ?_
  refine own_lloadN W1004 68 at_67 rfl rfl ?_
  refine own_iconst W1004 (0 : Int32) 69 at_68 rfl rfl ?_
  refine own_lload W1004 71 at_69 rfl rfl ?_
  refine own_iconst W1004 (2 : Int32) 72 at_71 rfl rfl ?_
  refine own_callS W1004 (A := [(.long q1), (.int (0 : Int32)), (.long q3), (.int (2 : Int32))]) (wt := 0) (pc' := 75) (st := []) at_72 (wd1 hw) (wd2 hw) (wd3 hw) (wd4 hw) (by decide) (own_m1 l Z a0 hw [] h q1 (0 : Int32) q3 (2 : Int32)) all0 rfl pd_7 rfl (Nat.le_of_eq rfl) (by decide) (by decide) (by decide) (by decide) rfl ?_
  rintro T1005 h1005 _ W1005 K1005 P1005 rfl
  rw [P1005 rfl rfl] at W1005
  show own_Go p e below C T1005 (mkF m 75 #[.val (.long q1), .second, .val (.long q2), .second, .val (.long q3), .second, .val (.int p4), .val (.int p5), .val (.int p6), .val (.int i0), .val (.int i1), .val (.int i2), .val (.int (1 : Int32)), .val (.int (2 : Int32)), .unset, .unset, .unset, .unset, .unset, .unset, .unset] [(.int (if q1 < q3 then (1 : Int32) else (if q1 = q3 then (if (0 : Int32) < (2 : Int32) then (1 : Int32) else (0 : Int32)) else (0 : Int32))))])
  rw [show (if q1 < q3 then (1 : Int32) else (if q1 = q3 then (if (0 : Int32) < (2 : Int32) then (1 : Int32) else (0 : Int32)) else (0 : Int32))) = (0 : Int32) from own_cb0 c02]
  refine own_lloadN W1005 76 at_75 rfl rfl ?_
  refine own_iconst W1005 (1 : Int32) 77 at_76 rfl rfl ?_
  refine own_lload W1005 79 at_77 rfl rfl ?_
  refine own_iconst W1005 (2 : Int32) 80 at_79 rfl rfl ?_
  refine own_callS W1005 (A := [(.long q2), (.int (1 : Int32)), (.long q3), (.int (2 : Int32))]) (wt := 1) (pc' := 83) (st := [(.int (0 : Int32))]) at_80 (wd1 hw) (wd2 hw) (wd3 hw) (wd4 hw) (by decide) (own_m1 l Z a0 hw [] h q2 (1 : Int32) q3 (2 : Int32)) all0 rfl pd_7 rfl (Nat.le_of_eq rfl) (by decide) (by decide) (by decide) (by decide) rfl ?_
  rintro T1006 h1006 _ W1006 K1006 P1006 rfl
  rw [P1006 rfl rfl] at W1006
  show own_Go p e below C T1006 (mkF m 83 #[.val (.long q1), .second, .val (.long q2), .second, .val (.long q3), .second, .val (.int p4), .val (.int p5), .val (.int p6), .val (.int i0), .val (.int i1), .val (.int i2), .val (.int (1 : Int32)), .val (.int (2 : Int32)), .unset, .unset, .unset, .unset, .unset, .unset, .unset] [(.int (if q2 < q3 then (1 : Int32) else (if q2 = q3 then (if (1 : Int32) < (2 : Int32) then (1 : Int32) else (0 : Int32)) else (0 : Int32)))), (.int (0 : Int32))])
  rw [show (if q2 < q3 then (1 : Int32) else (if q2 = q3 then (if (1 : Int32) < (2 : Int32) then (1 : Int32) else (0 : Int32)) else (0 : Int32))) = (0 : Int32) from own_cb0 c12]
  refine own_iadd W1006 84 at_83 rfl ?_
  rw [show ((0 : Int32) + (0 : Int32)) = (0 : Int32) from rfl]
  refine own_istore W1006 86 #[.val (.long q1), .second, .val (.long q2), .second, .val (.long q3), .second, .val (.int p4), .val (.int p5), .val (.int p6), .val (.int i0), .val (.int i1), .val (.int i2), .val (.int (1 : Int32)), .val (.int (2 : Int32)), .val (.int (0 : Int32)), .unset, .unset, .unset, .unset, .unset, .unset] at_84 rfl rfl ?_
  refine own_iconst W1006 (3 : Int32) 87 at_86 rfl rfl ?_
  refine own_newarray W1006 3 3 89 at_87 (wd5 hw) rfl (Nat.le_refl _) (by decide) (by decide) (by decide) rfl ?_
  intro T1007 h1007 ex W1007 E1007 g_ex o_ex V_ex
  show own_Go p e below C T1007 (mkF m 89 #[.val (.long q1), .second, .val (.long q2), .second, .val (.long q3), .second, .val (.int p4), .val (.int p5), .val (.int p6), .val (.int i0), .val (.int i1), .val (.int i2), .val (.int (1 : Int32)), .val (.int (2 : Int32)), .val (.int (0 : Int32)), .unset, .unset, .unset, .unset, .unset, .unset] [(.ref ex)])
  refine own_astore W1007 91 #[.val (.long q1), .second, .val (.long q2), .second, .val (.long q3), .second, .val (.int p4), .val (.int p5), .val (.int p6), .val (.int i0), .val (.int i1), .val (.int i2), .val (.int (1 : Int32)), .val (.int (2 : Int32)), .val (.int (0 : Int32)), .val (.ref ex), .unset, .unset, .unset, .unset, .unset] at_89 rfl rfl rfl ?_
  refine own_iconst W1007 (3 : Int32) 92 at_91 rfl rfl ?_
  refine own_newarray W1007 3 3 94 at_92 (wd6 hw) rfl (Nat.le_refl _) (by decide) (by decide) (by decide) rfl ?_
  intro T1008 h1008 et W1008 E1008 g_et o_et V_et
  have ne_ex_et : ex ≠ et := by rw [g_et]; exact Nat.ne_of_lt V_ex.lt
  have V_ex := V_ex.ext E1008
  show own_Go p e below C T1008 (mkF m 94 #[.val (.long q1), .second, .val (.long q2), .second, .val (.long q3), .second, .val (.int p4), .val (.int p5), .val (.int p6), .val (.int i0), .val (.int i1), .val (.int i2), .val (.int (1 : Int32)), .val (.int (2 : Int32)), .val (.int (0 : Int32)), .val (.ref ex), .unset, .unset, .unset, .unset, .unset] [(.ref et)])
  refine own_astore W1008 96 #[.val (.long q1), .second, .val (.long q2), .second, .val (.long q3), .second, .val (.int p4), .val (.int p5), .val (.int p6), .val (.int i0), .val (.int i1), .val (.int i2), .val (.int (1 : Int32)), .val (.int (2 : Int32)), .val (.int (0 : Int32)), .val (.ref ex), .val (.ref et), .unset, .unset, .unset, .unset] at_94 rfl rfl rfl ?_
  refine own_aload W1008 98 at_96 rfl rfl rfl ?_
  refine own_iload W1008 100 at_98 rfl rfl ?_
  refine own_iload W1008 102 at_100 rfl rfl ?_
  refine own_iastore W1008 1 103 at_102 V_ex (Or.inr o_ex) rfl (by decide) rfl ?_
  intro T1009 h1009 W1009 Wr1009 V_ex
  have V_et := V_et.other Wr1009 (Ne.symm ne_ex_et)
  show own_Go p e below C T1009 (mkF m 103 #[.val (.long q1), .second, .val (.long q2), .second, .val (.long q3), .second, .val (.int p4), .val (.int p5), .val (.int p6), .val (.int i0), .val (.int i1), .val (.int i2), .val (.int (1 : Int32)), .val (.int (2 : Int32)), .val (.int (0 : Int32)), .val (.ref ex), .val (.ref et), .unset, .unset, .unset, .unset] [])
  refine own_aload W1009 105 at_103 rfl rfl rfl ?_
  refine own_iload W1009 107 at_105 rfl rfl ?_
  refine own_lloadN W1009 108 at_107 rfl rfl ?_
  refine own_lastore W1009 1 109 at_108 V_et (Or.inr o_et) rfl (by decide) rfl ?_
  intro T1010 h1010 W1010 Wr1010 V_et
  have V_ex := V_ex.other Wr1010 ne_ex_et
  show own_Go p e below C T1010 (mkF m 109 #[.val (.long q1), .second, .val (.long q2), .second, .val (.long q3), .second, .val (.int p4), .val (.int p5), .val (.int p6), .val (.int i0), .val (.int i1), .val (.int i2), .val (.int (1 : Int32)), .val (.int (2 : Int32)), .val (.int (0 : Int32)), .val (.ref ex), .val (.ref et), .unset, .unset, .unset, .unset] [])
  refine own_aload W1010 111 at_109 rfl rfl rfl ?_
  refine own_iload W1010 113 at_111 rfl rfl ?_
  refine own_iload W1010 115 at_113 rfl rfl ?_
  refine own_iastore W1010 2 116 at_115 V_ex (Or.inr o_ex) rfl (by decide) rfl ?_
  intro T1011 h1011 W1011 Wr1011 V_ex
  have V_et := V_et.other Wr1011 (Ne.symm ne_ex_et)
  show own_Go p e below C T1011 (mkF m 116 #[.val (.long q1), .second, .val (.long q2), .second, .val (.long q3), .second, .val (.int p4), .val (.int p5), .val (.int p6), .val (.int i0), .val (.int i1), .val (.int i2), .val (.int (1 : Int32)), .val (.int (2 : Int32)), .val (.int (0 : Int32)), .val (.ref ex), .val (.ref et), .unset, .unset, .unset, .unset] [])
  refine own_aload W1011 118 at_116 rfl rfl rfl ?_
  refine own_iload W1011 120 at_118 rfl rfl ?_
  refine own_lloadN W1011 121 at_120 rfl rfl ?_
  refine own_lastore W1011 2 122 at_121 V_et (Or.inr o_et) rfl (by decide) rfl ?_
  intro T1012 h1012 W1012 Wr1012 V_et
  have V_ex := V_ex.other Wr1012 ne_ex_et
  show own_Go p e below C T1012 (mkF m 122 #[.val (.long q1), .second, .val (.long q2), .second, .val (.long q3), .second, .val (.int p4), .val (.int p5), .val (.int p6), .val (.int i0), .val (.int i1), .val (.int i2), .val (.int (1 : Int32)), .val (.int (2 : Int32)), .val (.int (0 : Int32)), .val (.ref ex), .val (.ref et), .unset, .unset, .unset, .unset] [])
  refine own_aload W1012 124 at_122 rfl rfl rfl ?_
  refine own_iload W1012 126 at_124 rfl rfl ?_
  refine own_iload W1012 128 at_126 rfl rfl ?_
  refine own_iastore W1012 0 129 at_128 V_ex (Or.inr o_ex) rfl (by decide) rfl ?_
  intro T1013 h1013 W1013 Wr1013 V_ex
  have V_et := V_et.other Wr1013 (Ne.symm ne_ex_et)
  show own_Go p e below C T1013 (mkF m 129 #[.val (.long q1), .second, .val (.long q2), .second, .val (.long q3), .second, .val (.int p4), .val (.int p5), .val (.int p6), .val (.int i0), .val (.int i1), .val (.int i2), .val (.int (1 : Int32)), .val (.int (2 : Int32)), .val (.int (0 : Int32)), .val (.ref ex), .val (.ref et), .unset, .unset, .unset, .unset] [])
  refine own_aload W1013 131 at_129 rfl rfl rfl ?_
  refine own_iload W1013 133 at_131 rfl rfl ?_
  refine own_lload W1013 135 at_133 rfl rfl ?_
  refine own_lastore W1013 0 136 at_135 V_et (Or.inr o_et) rfl (by decide) rfl ?_
  intro T1014 h1014 W1014 Wr1014 V_et
  have V_ex := V_ex.other Wr1014 ne_ex_et
  show own_Go p e below C T1014 (mkF m 136 #[.val (.long q1), .second, .val (.long q2), .second, .val (.long q3), .second, .val (.int p4), .val (.int p5), .val (.int p6), .val (.int i0), .val (.int i1), .val (.int i2), .val (.int (1 : Int32)), .val (.int (2 : Int32)), .val (.int (0 : Int32)), .val (.ref ex), .val (.ref et), .unset, .unset, .unset, .unset] [])
  refine own_new W1014 139 at_136 (wd7 hw) (wd8 hw) (wd9 hw) (by decide) (by decide) rfl ?_
  intro T1015 h1015 o W1015 E1015 g_o o_o X_o D_o
  have ne_ex_o : ex ≠ o := by rw [g_o]; exact Nat.ne_of_lt V_ex.lt
  have ne_et_o : et ≠ o := by rw [g_o]; exact Nat.ne_of_lt V_et.lt
  have V_ex := V_ex.ext E1015
  have V_et := V_et.ext E1015
  have F_inOrder_o : Fld Z h1015 o "com/example/queueloom/queueloom/engine/Arrivals" "inOrder" "Z" (.int (0 : Int32)) := D_o (Or.inl (wd17 hw)) (ty := .boolean) (by decide)
  have F_times_o : Fld Z h1015 o "com/example/queueloom/queueloom/engine/Arrivals" "times" "[J" .null := D_o (Or.inl (wd19 hw)) (ty := (.array .long)) (by decide)
  have F_indices_o : Fld Z h1015 o "com/example/queueloom/queueloom/engine/Arrivals" "indices" "[I" .null := D_o (Or.inl (wd21 hw)) (ty := (.array .int)) (by decide)
  have F_count_o : Fld Z h1015 o "com/example/queueloom/queueloom/engine/Arrivals" "count" "I" (.int (0 : Int32)) := D_o (Or.inl (wd28 hw)) (ty := .int) (by decide)
  have F_first_o : Fld Z h1015 o "com/example/queueloom/queueloom/engine/Arrivals" "first" "I" (.int (0 : Int32)) := D_o (Or.inl (wd35 hw)) (ty := .int) (by decide)
  have F_later_o : Fld Z h1015 o "com/example/queueloom/queueloom/engine/Arrivals" "later" "Lcom/example/queueloom/queueloom/engine/LongPairHeap;" .null := D_o (Or.inl (wd100 hw)) (ty := (.object "com/example/queueloom/queueloom/engine/LongPairHeap")) (by decide)
  show own_Go p e below C T1015 (mkF m 139 #[.val (.long q1), .second, .val (.long q2), .second, .val (.long q3), .second, .val (.int p4), .val (.int p5), .val (.int p6), .val (.int i0), .val (.int i1), .val (.int i2), .val (.int (1 : Int32)), .val (.int (2 : Int32)), .val (.int (0 : Int32)), .val (.ref ex), .val (.ref et), .unset, .unset, .unset, .unset] [(.ref o)])
  refine own_dup W1015 140 at_139 rfl rfl ?_
  refine own_iconst W1015 (3 : Int32) 141 at_140 rfl rfl ?_
  have hol := X_o.lt
  have hel := V_ex.lt
  have hdl := V_et.lt
  refine own_callN W1015 (A := [(.int (3 : Int32))]) (wt := 1) (pc' := 144) (st := [(.ref o)]) at_141 rfl (wd10 hw) (wd11 hw) (wd9 hw) (wd12 hw) (by decide) (own_m2 l Z a0 hw [] h1015 o X_o F_times_o F_indices_o F_count_o F_first_o F_inOrder_o F_later_o) (allS (Or.inr o_o) all0) rfl pd_2 rfl (Nat.le_of_eq rfl) (by decide) (by decide) (by decide) (by decide) rfl ?_
  rintro T1016 h1016 _ W1016 K1016 P1016 ⟨rfl, ⟨tt, ii, o_tt, o_ii, ne_t_i, Y_ii, F_times_o, F_indices_o, F_count_o, F_first_o, F_inOrder_o, F_later_o, V_tt, V_ii⟩⟩
  have V_ex := V_ex.keep K1016 (ninS ne_ex_o nin0)
  have V_et := V_et.keep K1016 (ninS ne_et_o nin0)
  have X_o := X_o.keep K1016
  show own_Go p e below C T1016 (mkF m 144 #[.val (.long q1), .second, .val (.long q2), .second, .val (.long q3), .second, .val (.int p4), .val (.int p5), .val (.int p6), .val (.int i0), .val (.int i1), .val (.int i2), .val (.int (1 : Int32)), .val (.int (2 : Int32)), .val (.int (0 : Int32)), .val (.ref ex), .val (.ref et), .unset, .unset, .unset, .unset] [(.ref o)])
  have ne_o_tt : o ≠ tt := Nat.ne_of_lt (Nat.lt_of_lt_of_le hol o_tt)
  have ne_o_ii : o ≠ ii := Nat.ne_of_lt (Nat.lt_of_lt_of_le hol o_ii)
  have ne_ex_tt : ex ≠ tt := Nat.ne_of_lt (Nat.lt_of_lt_of_le hel o_tt)
  have ne_ex_ii : ex ≠ ii := Nat.ne_of_lt (Nat.lt_of_lt_of_le hel o_ii)
  have ne_et_tt : et ≠ tt := Nat.ne_of_lt (Nat.lt_of_lt_of_le hdl o_tt)
  have ne_et_ii : et ≠ ii := Nat.ne_of_lt (Nat.lt_of_lt_of_le hdl o_ii)
  refine own_astore W1016 146 #[.val (.long q1), .second, .val (.long q2), .second, .val (.long q3), .second, .val (.int p4), .val (.int p5), .val (.int p6), .val (.int i0), .val (.int i1), .val (.int i2), .val (.int (1 : Int32)), .val (.int (2 : Int32)), .val (.int (0 : Int32)), .val (.ref ex), .val (.ref et), .val (.ref o), .unset, .unset, .unset] at_144 rfl rfl rfl ?_
  refine own_aload W1016 148 at_146 rfl rfl rfl ?_
  refine own_lloadN W1016 149 at_148 rfl rfl ?_
  refine own_iload W1016 151 at_149 rfl rfl ?_
  refine own_callV W1016 (A := [(.long q1), (.int i0)]) (wt := 0) (pc' := 154) (st := []) at_151 (wd22 hw) (wd23 hw) (own_nf W1016 (wd25 hw)) (wd25 hw) (wd24 hw) (wd9 hw) (wd26 hw) (by decide) X_o (own_m4 l Z a0 hw [] h1016 o q1 i0 tt ii (fun _ => 0) (fun _ => 0) 0 (0 : Int32) (1 : Int32) X_o F_times_o F_indices_o F_count_o F_first_o F_inOrder_o F_later_o V_tt V_ii ne_o_tt ne_o_ii ne_t_i rfl (by decide)) (allS (Or.inr o_o) (allS (Or.inr (Nat.le_trans (Nat.le_trans o_o (Nat.le_of_lt hol)) o_tt)) (allS (Or.inr (Nat.le_trans (Nat.le_trans o_o (Nat.le_of_lt hol)) o_ii)) all0))) rfl pd_8 rfl (Nat.le_of_eq rfl) (by decide) (by decide) (by decide) (by decide) rfl ?_
  rintro T1017 h1017 _ W1017 K1017 P1017 ⟨rfl, ⟨F_times_o, F_indices_o, F_count_o, F_first_o, F_inOrder_o, F_later_o, V_tt, V_ii⟩⟩
  have V_ex := V_ex.keep K1017 (ninS ne_ex_o (ninS ne_ex_tt (ninS ne_ex_ii nin0)))
  have V_et := V_et.keep K1017 (ninS ne_et_o (ninS ne_et_tt (ninS ne_et_ii nin0)))
  have X_o := X_o.keep K1017
  have Y_ii := Y_ii.keep K1017
  show own_Go p e below C T1017 (mkF m 154 #[.val (.long q1), .second, .val (.long q2), .second, .val (.long q3), .second, .val (.int p4), .val (.int p5), .val (.int p6), .val (.int i0), .val (.int i1), .val (.int i2), .val (.int (1 : Int32)), .val (.int (2 : Int32)), .val (.int (0 : Int32)), .val (.ref ex), .val (.ref et), .val (.ref o), .unset, .unset, .unset] [])
  have F_inOrder_o : Fld Z h1017 o "com/example/queueloom/queueloom/engine/Arrivals" "inOrder" "Z" (.int (((1 : Int32) &&& own_io (0 : Int32) q1 0) &&& 1)) := F_inOrder_o
  rw [own_io0 (1 : Int32) q1 0 rfl] at F_inOrder_o
  have F_count_o : Fld Z h1017 o "com/example/queueloom/queueloom/engine/Arrivals" "count" "I" (.int (1 : Int32)) := F_count_o
  refine own_aload W1017 156 at_154 rfl rfl rfl ?_
  refine own_lloadN W1017 157 at_156 rfl rfl ?_
  refine own_iload W1017 159 at_157 rfl rfl ?_
  refine own_callV W1017 (A := [(.long q2), (.int i1)]) (wt := 0) (pc' := 162) (st := []) at_159 (wd22 hw) (wd23 hw) (own_nf W1017 (wd25 hw)) (wd25 hw) (wd24 hw) (wd9 hw) (wd26 hw) (by decide) X_o (own_m4 l Z a0 hw [] h1017 o q2 i1 tt ii (own_upL (fun _ => 0) 0 q1) (own_upI (fun _ => 0) 0 i0) 1 (1 : Int32) (1 : Int32) X_o F_times_o F_indices_o F_count_o F_first_o F_inOrder_o F_later_o V_tt V_ii ne_o_tt ne_o_ii ne_t_i rfl (by decide)) (allS (Or.inr o_o) (allS (Or.inr (Nat.le_trans (Nat.le_trans o_o (Nat.le_of_lt hol)) o_tt)) (allS (Or.inr (Nat.le_trans (Nat.le_trans o_o (Nat.le_of_lt hol)) o_ii)) all0))) rfl pd_8 rfl (Nat.le_of_eq rfl) (by decide) (by decide) (by decide) (by decide) rfl ?_
  rintro T1018 h1018 _ W1018 K1018 P1018 ⟨rfl, ⟨F_times_o, F_indices_o, F_count_o, F_first_o, F_inOrder_o, F_later_o, V_tt, V_ii⟩⟩
  have V_ex := V_ex.keep K1018 (ninS ne_ex_o (ninS ne_ex_tt (ninS ne_ex_ii nin0)))
  have V_et := V_et.keep K1018 (ninS ne_et_o (ninS ne_et_tt (ninS ne_et_ii nin0)))
  have X_o := X_o.keep K1018
  have Y_ii := Y_ii.keep K1018
  show own_Go p e below C T1018 (mkF m 162 #[.val (.long q1), .second, .val (.long q2), .second, .val (.long q3), .second, .val (.int p4), .val (.int p5), .val (.int p6), .val (.int i0), .val (.int i1), .val (.int i2), .val (.int (1 : Int32)), .val (.int (2 : Int32)), .val (.int (0 : Int32)), .val (.ref ex), .val (.ref et), .val (.ref o), .unset, .unset, .unset] [])
  have F_inOrder_o : Fld Z h1018 o "com/example/queueloom/queueloom/engine/Arrivals" "inOrder" "Z" (.int (((1 : Int32) &&& own_io (1 : Int32) q2 q1) &&& 1)) := F_inOrder_o
  rw [own_ioN (1 : Int32) (1 : Int32) q2 q1 (by decide) c01 (by decide)] at F_inOrder_o
  have F_count_o : Fld Z h1018 o "com/example/queueloom/queueloom/engine/Arrivals" "count" "I" (.int (2 : Int32)) := F_count_o
  refine own_aload W1018 164 at_162 rfl rfl rfl ?_
  refine own_lload W1018 166 at_164 rfl rfl ?_
  refine own_iload W1018 168 at_166 rfl rfl ?_
  refine own_callV W1018 (A := [(.long q3), (.int i2)]) (wt := 0) (pc' := 171) (st := []) at_168 (wd22 hw) (wd23 hw) (own_nf W1018 (wd25 hw)) (wd25 hw) (wd24 hw) (wd9 hw) (wd26 hw) (by decide) X_o (own_m4 l Z a0 hw [] h1018 o q3 i2 tt ii (own_upL (own_upL (fun _ => 0) 0 q1) 1 q2) (own_upI (own_upI (fun _ => 0) 0 i0) 1 i1) 2 (2 : Int32) (1 : Int32) X_o F_times_o F_indices_o F_count_o F_first_o F_inOrder_o F_later_o V_tt V_ii ne_o_tt ne_o_ii ne_t_i rfl (by decide)) (allS (Or.inr o_o) (allS (Or.inr (Nat.le_trans (Nat.le_trans o_o (Nat.le_of_lt hol)) o_tt)) (allS (Or.inr (Nat.le_trans (Nat.le_trans o_o (Nat.le_of_lt hol)) o_ii)) all0))) rfl pd_8 rfl (Nat.le_of_eq rfl) (by decide) (by decide) (by decide) (by decide) rfl ?_
  rintro T1019 h1019 _ W1019 K1019 P1019 ⟨rfl, ⟨F_times_o, F_indices_o, F_count_o, F_first_o, F_inOrder_o, F_later_o, V_tt, V_ii⟩⟩
  have V_ex := V_ex.keep K1019 (ninS ne_ex_o (ninS ne_ex_tt (ninS ne_ex_ii nin0)))
  have V_et := V_et.keep K1019 (ninS ne_et_o (ninS ne_et_tt (ninS ne_et_ii nin0)))
  have X_o := X_o.keep K1019
  have Y_ii := Y_ii.keep K1019
  show own_Go p e below C T1019 (mkF m 171 #[.val (.long q1), .second, .val (.long q2), .second, .val (.long q3), .second, .val (.int p4), .val (.int p5), .val (.int p6), .val (.int i0), .val (.int i1), .val (.int i2), .val (.int (1 : Int32)), .val (.int (2 : Int32)), .val (.int (0 : Int32)), .val (.ref ex), .val (.ref et), .val (.ref o), .unset, .unset, .unset] [])
  have F_inOrder_o : Fld Z h1019 o "com/example/queueloom/queueloom/engine/Arrivals" "inOrder" "Z" (.int (((1 : Int32) &&& own_io (2 : Int32) q3 q2) &&& 1)) := F_inOrder_o
  rw [own_ioP (1 : Int32) (2 : Int32) q3 q2 (by decide) c12 (by decide)] at F_inOrder_o
  have F_count_o : Fld Z h1019 o "com/example/queueloom/queueloom/engine/Arrivals" "count" "I" (.int (3 : Int32)) := F_count_o
  refine own_aload W1019 173 at_171 rfl rfl rfl ?_
  refine own_callV W1019 (A := []) (wt := 0) (pc' := 176) (st := []) at_173 (wd29 hw) (wd30 hw) (own_nf W1019 (wd32 hw)) (wd32 hw) (wd31 hw) (wd9 hw) (wd33 hw) (by decide) X_o (own_m5 l Z a0 hw [] h1019 o tt ii (own_upL (own_upL (own_upL (fun _ => 0) 0 q1) 1 q2) 2 q3) (own_upI (own_upI (own_upI (fun _ => 0) 0 i0) 1 i1) 2 i2) (0 : Int32) F_times_o F_indices_o F_count_o F_first_o F_inOrder_o F_later_o V_tt V_ii Y_ii) all0 rfl pd_9 rfl (Nat.le_of_eq rfl) (by decide) (by decide) (by decide) (by decide) rfl ?_
  rintro T1020 h1020 _ W1020 K1020 P1020 ⟨bf, rfl, o_bf, V_bf⟩
  have V_ex := V_ex.keep K1020 nin0
  have V_et := V_et.keep K1020 nin0
  have X_o := X_o.keep K1020
  have Y_ii := Y_ii.keep K1020
  have F_times_o := F_times_o.keep K1020 nin0
  have F_indices_o := F_indices_o.keep K1020 nin0
  have F_count_o := F_count_o.keep K1020 nin0
  have F_first_o := F_first_o.keep K1020 nin0
  have F_inOrder_o := F_inOrder_o.keep K1020 nin0
  have F_later_o := F_later_o.keep K1020 nin0
  have V_tt := V_tt.keep K1020 nin0
  have V_ii := V_ii.keep K1020 nin0
  show own_Go p e below C T1020 (mkF m 176 #[.val (.long q1), .second, .val (.long q2), .second, .val (.long q3), .second, .val (.int p4), .val (.int p5), .val (.int p6), .val (.int i0), .val (.int i1), .val (.int i2), .val (.int (1 : Int32)), .val (.int (2 : Int32)), .val (.int (0 : Int32)), .val (.ref ex), .val (.ref et), .val (.ref o), .unset, .unset, .unset] [(.ref bf)])
  refine own_astore W1020 178 #[.val (.long q1), .second, .val (.long q2), .second, .val (.long q3), .second, .val (.int p4), .val (.int p5), .val (.int p6), .val (.int i0), .val (.int i1), .val (.int i2), .val (.int (1 : Int32)), .val (.int (2 : Int32)), .val (.int (0 : Int32)), .val (.ref ex), .val (.ref et), .val (.ref o), .val (.ref bf), .unset, .unset] at_176 rfl rfl rfl ?_
  refine own_aload W1020 180 at_178 rfl rfl rfl ?_
  refine own_arraylength W1020 (3 : Int32) 181 at_180 V_bf rfl rfl ?_
  refine own_iconst W1020 (3 : Int32) 182 at_181 rfl rfl ?_
  refine own_icmpN W1020 185 at_182 ((teq (rfl : (3 : Int32) = (3 : Int32))).2) rfl ?_
  refine own_aload W1020 187 at_185 rfl rfl rfl ?_
  refine own_iconst W1020 (0 : Int32) 188 at_187 rfl rfl ?_
  refine own_iaload W1020 0 i0 189 at_188 V_bf rfl (by decide) rfl rfl ?_
  refine own_iload W1020 191 at_189 rfl rfl ?_
  refine own_icmpN W1020 194 at_191 ((teq (rfl : i0 = i0)).2) rfl ?_
  refine own_aload W1020 196 at_194 rfl rfl rfl ?_
  refine own_iconst W1020 (1 : Int32) 197 at_196 rfl rfl ?_
  refine own_iaload W1020 1 i1 198 at_197 V_bf rfl (by decide) rfl rfl ?_
  refine own_iload W1020 200 at_198 rfl rfl ?_
  refine own_icmpN W1020 203 at_200 ((teq (rfl : i1 = i1)).2) rfl ?_
  refine own_aload W1020 205 at_203 rfl rfl rfl ?_
  refine own_iconst W1020 (2 : Int32) 206 at_205 rfl rfl ?_
  refine own_iaload W1020 2 i2 207 at_206 V_bf rfl (by decide) rfl rfl ?_
  refine own_iload W1020 209 at_207 rfl rfl ?_
  refine own_icmpN W1020 212 at_209 ((teq (rfl : i2 = i2)).2) rfl ?_
  refine own_iconst W1020 (1 : Int32) 213 at_212 rfl rfl ?_
  refine own_goto W1020 217 at_213 (by decide) (by decide) ?_
  refine own_istore W1020 219 #[.val (.long q1), .second, .val (.long q2), .second, .val (.long q3), .second, .val (.int p4), .val (.int p5), .val (.int p6), .val (.int i0), .val (.int i1), .val (.int i2), .val (.int (1 : Int32)), .val (.int (2 : Int32)), .val (.int (0 : Int32)), .val (.ref ex), .val (.ref et), .val (.ref o), .val (.ref bf), .val (.int (1 : Int32)), .unset] at_217 rfl rfl ?_
  refine own_aload W1020 221 at_219 rfl rfl rfl ?_
  refine own_callV W1020 (A := []) (wt := 0) (pc' := 224) (st := []) at_221 (wd49 hw) (wd50 hw) (own_nf W1020 (wd52 hw)) (wd52 hw) (wd51 hw) (wd9 hw) (wd53 hw) (by decide) X_o (own_m7b l Z a0 hw [] h1020 o tt ii (own_upL (own_upL (own_upL (fun _ => 0) 0 q1) 1 q2) 2 q3) (own_upI (own_upI (own_upI (fun _ => 0) 0 i0) 1 i1) 2 i2) X_o F_times_o F_indices_o F_count_o F_first_o F_inOrder_o F_later_o V_tt V_ii ne_o_tt ne_o_ii ne_t_i) (allS (Or.inr o_o) (allS (Or.inr (Nat.le_trans (Nat.le_trans o_o (Nat.le_of_lt hol)) o_tt)) (allS (Or.inr (Nat.le_trans (Nat.le_trans o_o (Nat.le_of_lt hol)) o_ii)) all0))) rfl pd_5 rfl (Nat.le_of_eq rfl) (by decide) (by decide) (by decide) (by decide) rfl ?_
  rintro T1021 h1021 _ W1021 K1021 P1021 ⟨rfl, ⟨F_times_o, F_indices_o, F_count_o, F_first_o, F_inOrder_o, F_later_o, V_tt, V_ii⟩⟩
  have V_ex := V_ex.keep K1021 (ninS ne_ex_o (ninS ne_ex_tt (ninS ne_ex_ii nin0)))
  have V_et := V_et.keep K1021 (ninS ne_et_o (ninS ne_et_tt (ninS ne_et_ii nin0)))
  have X_o := X_o.keep K1021
  have Y_ii := Y_ii.keep K1021
  show own_Go p e below C T1021 (mkF m 224 #[.val (.long q1), .second, .val (.long q2), .second, .val (.long q3), .second, .val (.int p4), .val (.int p5), .val (.int p6), .val (.int i0), .val (.int i1), .val (.int i2), .val (.int (1 : Int32)), .val (.int (2 : Int32)), .val (.int (0 : Int32)), .val (.ref ex), .val (.ref et), .val (.ref o), .val (.ref bf), .val (.int (1 : Int32)), .unset] [])
  have V_tt : own_A Z h1021 tt .long 3 (fun j => .long ((own_upL (own_upL (own_upL (own_upL (own_upL (own_upL (fun _ => 0) 0 q1) 1 q2) 2 q3) 0 ((own_p3 (own_upL (own_upL (own_upL (fun _ => 0) 0 q1) 1 q2) 2 q3) (own_upI (own_upI (own_upI (fun _ => 0) 0 i0) 1 i1) 2 i2)).1 0)) 1 ((own_q1 (own_upL (own_upL (own_upL (fun _ => 0) 0 q1) 1 q2) 2 q3) (own_upI (own_upI (own_upI (fun _ => 0) 0 i0) 1 i1) 2 i2)).1 0)) 2 ((own_q2 (own_upL (own_upL (own_upL (fun _ => 0) 0 q1) 1 q2) 2 q3) (own_upI (own_upI (own_upI (fun _ => 0) 0 i0) 1 i1) 2 i2)).1 0)) j)) := V_tt
  have V_ii : own_A Z h1021 ii .int 3 (fun j => .int ((own_upI (own_upI (own_upI (own_upI (own_upI (own_upI (fun _ => 0) 0 i0) 1 i1) 2 i2) 0 ((own_p3 (own_upL (own_upL (own_upL (fun _ => 0) 0 q1) 1 q2) 2 q3) (own_upI (own_upI (own_upI (fun _ => 0) 0 i0) 1 i1) 2 i2)).2 0).toInt32) 1 ((own_q1 (own_upL (own_upL (own_upL (fun _ => 0) 0 q1) 1 q2) 2 q3) (own_upI (own_upI (own_upI (fun _ => 0) 0 i0) 1 i1) 2 i2)).2 0).toInt32) 2 ((own_q2 (own_upL (own_upL (own_upL (fun _ => 0) 0 q1) 1 q2) 2 q3) (own_upI (own_upI (own_upI (fun _ => 0) 0 i0) 1 i1) 2 i2)).2 0).toInt32) j)) := V_ii
  obtain ⟨TA, IB, V_tt, V_ii, E0, E1, E2, G0, G1, G2⟩ : ∃ (TA : Nat → Int64) (IB : Nat → Int32), own_A Z h1021 tt .long 3 (fun j => .long (TA j)) ∧ own_A Z h1021 ii .int 3 (fun j => .int (IB j)) ∧ TA 0 = q3 ∧ TA 1 = q1 ∧ TA 2 = q2 ∧ IB 0 = i2 ∧ IB 1 = i0 ∧ IB 2 = i1 := ⟨_, _, V_tt, V_ii, own_s_ftt q1 q2 q3 i0 i1 i2 (own_rkL c02) (own_rkN c01 hr01)⟩
  refine own_aload W1021 226 at_224 rfl rfl rfl ?_
  refine own_callV W1021 (A := []) (wt := 0) (pc' := 229) (st := []) at_226 (wd29 hw) (wd30 hw) (own_nf W1021 (wd32 hw)) (wd32 hw) (wd31 hw) (wd9 hw) (wd33 hw) (by decide) X_o (own_m5 l Z a0 hw [] h1021 o tt ii TA IB (1 : Int32) F_times_o F_indices_o F_count_o F_first_o F_inOrder_o F_later_o V_tt V_ii Y_ii) all0 rfl pd_9 rfl (Nat.le_of_eq rfl) (by decide) (by decide) (by decide) (by decide) rfl ?_
  rintro T1022 h1022 _ W1022 K1022 P1022 ⟨af, rfl, o_af, V_af⟩
  have V_ex := V_ex.keep K1022 nin0
  have V_et := V_et.keep K1022 nin0
  have X_o := X_o.keep K1022
  have Y_ii := Y_ii.keep K1022
  have F_times_o := F_times_o.keep K1022 nin0
  have F_indices_o := F_indices_o.keep K1022 nin0
  have F_count_o := F_count_o.keep K1022 nin0
  have F_first_o := F_first_o.keep K1022 nin0
  have F_inOrder_o := F_inOrder_o.keep K1022 nin0
  have F_later_o := F_later_o.keep K1022 nin0
  have V_tt := V_tt.keep K1022 nin0
  have V_ii := V_ii.keep K1022 nin0
  show own_Go p e below C T1022 (mkF m 229 #[.val (.long q1), .second, .val (.long q2), .second, .val (.long q3), .second, .val (.int p4), .val (.int p5), .val (.int p6), .val (.int i0), .val (.int i1), .val (.int i2), .val (.int (1 : Int32)), .val (.int (2 : Int32)), .val (.int (0 : Int32)), .val (.ref ex), .val (.ref et), .val (.ref o), .val (.ref bf), .val (.int (1 : Int32)), .unset] [(.ref af)])
  refine own_astore W1022 231 #[.val (.long q1), .second, .val (.long q2), .second, .val (.long q3), .second, .val (.int p4), .val (.int p5), .val (.int p6), .val (.int i0), .val (.int i1), .val (.int i2), .val (.int (1 : Int32)), .val (.int (2 : Int32)), .val (.int (0 : Int32)), .val (.ref ex), .val (.ref et), .val (.ref o), .val (.ref bf), .val (.int (1 : Int32)), .val (.ref af)] at_229 rfl rfl rfl ?_
  refine own_iload W1022 233 at_231 rfl rfl ?_
  refine own_ifN W1022 236 at_233 ((if0 _ _).trans (feq (by decide : ¬ ((1 : Int32) = (0 : Int32)))).1) rfl ?_
  refine own_aload W1022 238 at_236 rfl rfl rfl ?_
  refine own_arraylength W1022 (3 : Int32) 239 at_238 V_af rfl rfl ?_
  refine own_iconst W1022 (3 : Int32) 240 at_239 rfl rfl ?_
  refine own_icmpN W1022 243 at_240 ((teq (rfl : (3 : Int32) = (3 : Int32))).2) rfl ?_
  refine own_aload W1022 245 at_243 rfl rfl rfl ?_
  refine own_iconst W1022 (0 : Int32) 246 at_245 rfl rfl ?_
  refine own_iaload W1022 0 i2 247 at_246 V_af rfl (by decide) (congrArg Value.int G0) rfl ?_
  refine own_aload W1022 249 at_247 rfl rfl rfl ?_
  refine own_iconst W1022 (0 : Int32) 250 at_249 rfl rfl ?_
  refine own_iaload W1022 0 i2 251 at_250 V_ex rfl (by decide) rfl rfl ?_
  refine own_icmpN W1022 254 at_251 ((teq (rfl : i2 = i2)).2) rfl ?_
  refine own_aload W1022 256 at_254 rfl rfl rfl ?_
  refine own_iconst W1022 (1 : Int32) 257 at_256 rfl rfl ?_
  refine own_iaload W1022 1 i0 258 at_257 V_af rfl (by decide) (congrArg Value.int G1) rfl ?_
  refine own_aload W1022 260 at_258 rfl rfl rfl ?_
  refine own_iconst W1022 (1 : Int32) 261 at_260 rfl rfl ?_
  refine own_iaload W1022 1 i0 262 at_261 V_ex rfl (by decide) rfl rfl ?_
  refine own_icmpN W1022 265 at_262 ((teq (rfl : i0 = i0)).2) rfl ?_
  refine own_aload W1022 267 at_265 rfl rfl rfl ?_
  refine own_iconst W1022 (2 : Int32) 268 at_267 rfl rfl ?_
  refine own_iaload W1022 2 i1 269 at_268 V_af rfl (by decide) (congrArg Value.int G2) rfl ?_
  refine own_aload W1022 271 at_269 rfl rfl rfl ?_
  refine own_iconst W1022 (2 : Int32) 272 at_271 rfl rfl ?_
  refine own_iaload W1022 2 i1 273 at_272 V_ex rfl (by decide) rfl rfl ?_
  refine own_icmpN W1022 276 at_273 ((teq (rfl : i1 = i1)).2) rfl ?_
  refine own_iconst W1022 (1 : Int32) 277 at_276 rfl rfl ?_
  refine own_goto W1022 281 at_277 (by decide) (by decide) ?_
  refine own_istore W1022 283 #[.val (.long q1), .second, .val (.long q2), .second, .val (.long q3), .second, .val (.int p4), .val (.int p5), .val (.int p6), .val (.int i0), .val (.int i1), .val (.int i2), .val (.int (1 : Int32)), .val (.int (2 : Int32)), .val (.int (0 : Int32)), .val (.ref ex), .val (.ref et), .val (.ref o), .val (.ref bf), .val (.int (1 : Int32)), .val (.ref af)] at_281 rfl rfl ?_
  refine own_iload W1022 285 at_283 rfl rfl ?_
  refine own_ifN W1022 288 at_285 ((if0 _ _).trans (feq (by decide : ¬ ((1 : Int32) = (0 : Int32)))).1) rfl ?_
  refine own_aload W1022 290 at_288 rfl rfl rfl ?_
  refine own_callV W1022 (A := []) (wt := 0) (pc' := 293) (st := []) at_290 (wd90 hw) (wd91 hw) (own_nf W1022 (wd93 hw)) (wd93 hw) (wd92 hw) (wd9 hw) (wd94 hw) (by decide) X_o (own_m14 l Z a0 hw [] h1022 o tt ii TA IB (3 : Int32) (1 : Int32) X_o F_times_o F_indices_o F_count_o F_first_o F_inOrder_o F_later_o V_tt V_ii) all0 rfl pd_4 rfl (Nat.le_of_eq rfl) (by decide) (by decide) (by decide) (by decide) rfl ?_
  rintro T1023 h1023 _ W1023 K1023 P1023 rfl
  rw [P1023 rfl rfl] at W1023
  show own_Go p e below C T1023 (mkF m 293 #[.val (.long q1), .second, .val (.long q2), .second, .val (.long q3), .second, .val (.int p4), .val (.int p5), .val (.int p6), .val (.int i0), .val (.int i1), .val (.int i2), .val (.int (1 : Int32)), .val (.int (2 : Int32)), .val (.int (0 : Int32)), .val (.ref ex), .val (.ref et), .val (.ref o), .val (.ref bf), .val (.int (1 : Int32)), .val (.ref af)] [(.long (TA 0))])
  rw [show (TA 0) = q3 from E0]
  refine own_aload W1023 295 at_293 rfl rfl rfl ?_
  refine own_iconst W1023 (0 : Int32) 296 at_295 rfl rfl ?_
  refine own_laload W1023 0 q3 297 at_296 V_et rfl (by decide) rfl rfl ?_
  refine own_lcmp W1023 298 at_297 rfl ?_
  refine own_ifN W1023 301 at_298 ((if0 _ _).trans (teq ((lw_eq q3 q3).mpr (rfl : q3 = q3))).2) rfl ?_
  refine own_aload W1023 303 at_301 rfl rfl rfl ?_
  refine own_callV W1023 (A := []) (wt := 0) (pc' := 306) (st := []) at_303 (wd101 hw) (wd102 hw) (own_nf W1023 (wd104 hw)) (wd104 hw) (wd103 hw) (wd9 hw) (wd105 hw) (by decide) X_o (own_m16 l Z a0 hw [] h1022 o tt ii TA IB (3 : Int32) (1 : Int32) X_o F_times_o F_indices_o F_count_o F_first_o F_inOrder_o F_later_o V_tt V_ii) all0 rfl pd_10 rfl (Nat.le_of_eq rfl) (by decide) (by decide) (by decide) (by decide) rfl ?_
  rintro T1024 h1024 _ W1024 K1024 P1024 rfl
  rw [P1024 rfl rfl] at W1024
  show own_Go p e below C T1024 (mkF m 306 #[.val (.long q1), .second, .val (.long q2), .second, .val (.long q3), .second, .val (.int p4), .val (.int p5), .val (.int p6), .val (.int i0), .val (.int i1), .val (.int i2), .val (.int (1 : Int32)), .val (.int (2 : Int32)), .val (.int (0 : Int32)), .val (.ref ex), .val (.ref et), .val (.ref o), .val (.ref bf), .val (.int (1 : Int32)), .val (.ref af)] [(.int (IB 0))])
  rw [show (IB 0) = i2 from G0]
  refine own_aload W1024 308 at_306 rfl rfl rfl ?_
  refine own_iconst W1024 (0 : Int32) 309 at_308 rfl rfl ?_
  refine own_iaload W1024 0 i2 310 at_309 V_ex rfl (by decide) rfl rfl ?_
  refine own_icmpN W1024 313 at_310 ((teq (rfl : i2 = i2)).2) rfl ?_
  refine own_iconst W1024 (1 : Int32) 314 at_313 rfl rfl ?_
  refine own_goto W1024 318 at_314 (by decide) (by decide) ?_
  refine own_istore W1024 320 #[.val (.long q1), .second, .val (.long q2), .second, .val (.long q3), .second, .val (.int p4), .val (.int p5), .val (.int p6), .val (.int i0), .val (.int i1), .val (.int i2), .val (.int (1 : Int32)), .val (.int (2 : Int32)), .val (.int (0 : Int32)), .val (.ref ex), .val (.ref et), .val (.ref o), .val (.ref bf), .val (.int (1 : Int32)), .val (.ref af)] at_318 rfl rfl ?_
  refine own_iload W1024 322 at_320 rfl rfl ?_
  refine own_retZ (Q := fun v h => v = some (.int (1 : Int32))) W1024 hC (by decide) (by decide) at_322 ?_
  exact rfl
set_option maxRecDepth 65536 in
set_option maxHeartbeats 40000000 in
theorem own_m0_fft (l : Launch) (Z : State) (a0 : Array Value) (hw : ∀ d ∈ tables_1, d.before a0 Z = true) (h0 : Heap) (q1 : Int64) (q2 : Int64) (q3 : Int64) (p4 : Int32) (p5 : Int32) (p6 : Int32) (p : Program) (e : Env) (s : State) (m : MethodId) (below : List Frame) (meth : Method) (c : Code) (C : Outcome → State → Prop) (hC : ∀ v L u, own_Fw s [] L → (v = some (.int (1 : Int32))) → FrameEnd s (.returned v) u L room_1.cells room_1.slots → C (.returned v) u) (T : State) (h : Heap) (i0 i1 i2 : Int32) (W : own_W p l e room_1 s m #[(.long q1), (.long q2), (.long q3), (.int p4), (.int p5), (.int p6)] below meth c Z x ret code maxLocals [] T h (0) (0)) (c01 : ¬ q2 < q1) (c02 : ¬ q3 < q1) (c12 : q3 < q2) (hr01 : i0 < i1) (hr12 : i1 < i2) (hr02 : i0 < i2) :
    own_Go p e below C T (mkF m 31 #[.val (.long q1), .second, .val (.long q2), .second, .val (.long q3), .second, .val (.int p4), .val (.int p5), .val (.int p6), .val (.int i0), .val (.int i1), .val (.int i2), .unset, .unset, .unset, .unset, .unset, .unset, .unset, .unset, .unset] []) := by
  refine own_lloadN W 32 at_31 rfl rfl ?_
  refine own_iconst W (1 : Int32) 33 at_32 rfl rfl ?_
  refine own_lloadN W 34 at_33 rfl rfl ?_
  refine own_iconst W (0 : Int32) 35 at_34 rfl rfl ?_
  refine own_callS W (A := [(.long q2), (.int (1 : Int32)), (.long q1), (.int (0 : Int32))]) (wt := 0) (pc' := 38) (st := []) at_35 (wd1 hw) (wd2 hw) (wd3 hw) (wd4 hw) (by decide) (own_m1 l Z a0 hw [] h q2 (1 : Int32) q1 (0 : Int32)) all0 rfl pd_7 rfl (Nat.le_of_eq rfl) (by decide) (by decide) (by decide) (by decide) rfl ?_
  rintro T1001 h1001 _ W1001 K1001 P1001 rfl
  rw [P1001 rfl rfl] at W1001
  show own_Go p e below C T1001 (mkF m 38 #[.val (.long q1), .second, .val (.long q2), .second, .val (.long q3), .second, .val (.int p4), .val (.int p5), .val (.int p6), .val (.int i0), .val (.int i1), .val (.int i2), .unset, .unset, .unset, .unset, .unset, .unset, .unset, .unset, .unset] [(.int (if q2 < q1 then (1 : Int32) else (if q2 = q1 then (if (1 : Int32) < (0 : Int32) then (1 : Int32) else (0 : Int32)) else (0 : Int32))))])
  rw [show (if q2 < q1 then (1 : Int32) else (if q2 = q1 then (if (1 : Int32) < (0 : Int32) then (1 : Int32) else (0 : Int32)) else (0 : Int32))) = (0 : Int32) from own_cb2 c01 rfl]
  refine own_lload W1001 40 at_38 rfl rfl ?_
  refine own_iconst W1001 (2 : Int32) 41 at_40 rfl rfl ?_
  refine own_lloadN W1001 42 at_41 rfl rfl ?_
  refine own_iconst W1001 (0 : Int32) 43 at_42 rfl rfl ?_
  refine own_callS W1001 (A := [(.long q3), (.int (2 : Int32)), (.long q1), (.int (0 : Int32))]) (wt := 1) (pc' := 46) (st := [(.int (0 : Int32))]) at_43 (wd1 hw) (wd2 hw) (wd3 hw) (wd4 hw) (by decide) (own_m1 l Z a0 hw [] h q3 (2 : Int32) q1 (0 : Int32)) all0 rfl pd_7 rfl (Nat.le_of_eq rfl) (by decide) (by decide) (by decide) (by decide) rfl ?_
  rintro T1002 h1002 _ W1002 K1002 P1002 rfl
  rw [P1002 rfl rfl] at W1002
  show own_Go p e below C T1002 (mkF m 46 #[.val (.long q1), .second, .val (.long q2), .second, .val (.long q3), .second, .val (.int p4), .val (.int p5), .val (.int p6), .val (.int i0), .val (.int i1), .val (.int i2), .unset, .unset, .unset, .unset, .unset, .unset, .unset, .unset, .unset] [(.int (if q3 < q1 then (1 : Int32) else (if q3 = q1 then (if (2 : Int32) < (0 : Int32) then (1 : Int32) else (0 : Int32)) else (0 : Int32)))), (.int (0 : Int32))])
  rw [show (if q3 < q1 then (1 : Int32) else (if q3 = q1 then (if (2 : Int32) < (0 : Int32) then (1 : Int32) else (0 : Int32)) else (0 : Int32))) = (0 : Int32) from own_cb2 c02 rfl]
  refine own_iadd W1002 47 at_46 rfl ?_
  rw [show ((0 : Int32) + (0 : Int32)) = (0 : Int32) from rfl]
  refine own_istore W1002 49 #[.val (.long q1), .second, .val (.long q2), .second, .val (.long q3), .second, .val (.int p4), .val (.int p5), .val (.int p6), .val (.int i0), .val (.int i1), .val (.int i2), .val (.int (0 : Int32)), .unset, .unset, .unset, .unset, .unset, .unset, .unset, .unset] at_47 rfl rfl ?_
  refine own_lloadN W1002 50 at_49 rfl rfl ?_
  refine own_iconst W1002 (0 : Int32) 51 at_50 rfl rfl ?_
  refine own_lloadN W1002 52 at_51 rfl rfl ?_
  refine own_iconst W1002 (1 : Int32) 53 at_52 rfl rfl ?_
  refine own_callS W1002 (A := [(.long q1), (.int (0 : Int32)), (.long q2), (.int (1 : Int32))]) (wt := 0) (pc' := 56) (st := []) at_53 (wd1 hw) (wd2 hw) (wd3 hw) (wd4 hw) (by decide) (own_m1 l Z a0 hw [] h q1 (0 : Int32) q2 (1 : Int32)) all0 rfl pd_7 rfl (Nat.le_of_eq rfl) (by decide) (by decide) (by decide) (by decide) rfl ?_
  rintro T1003 h1003 _ W1003 K1003 P1003 rfl
  rw [P1003 rfl rfl] at W1003
  show own_Go p e below C T1003 (mkF m 56 #[.val (.long q1), .second, .val (.long q2), .second, .val (.long q3), .second, .val (.int p4), .val (.int p5), .val (.int p6), .val (.int i0), .val (.int i1), .val (.int i2), .val (.int (0 : Int32)), .unset, .unset, .unset, .unset, .unset, .unset, .unset, .unset] [(.int (if q1 < q2 then (1 : Int32) else (if q1 = q2 then (if (0 : Int32) < (1 : Int32) then (1 : Int32) else (0 : Int32)) else (0 : Int32))))])
  rw [show (if q1 < q2 then (1 : Int32) else (if q1 = q2 then (if (0 : Int32) < (1 : Int32) then (1 : Int32) else (0 : Int32)) else (0 : Int32))) = (1 : Int32) from own_cb1 c01 rfl]
  refine own_lload W1003 58 at_56 rfl rfl ?_
  refine own_iconst W1003 (2 : Int32) 59 at_58 rfl rfl ?_
  refine own_lloadN W1003 60 at_59 rfl rfl ?_
  refine own_iconst W1003 (1 : Int32) 61 at_60 rfl rfl ?_
  refine own_callS W1003 (A := [(.long q3), (.int (2 : Int32)), (.long q2), (.int (1 : Int32))]) (wt := 1) (pc' := 64) (st := [(.int (1 : Int32))]) at_61 (wd1 hw) (wd2 hw) (wd3 hw) (wd4 hw) (by decide) (own_m1 l Z a0 hw [] h q3 (2 : Int32) q2 (1 : Int32)) all0 rfl pd_7 rfl (Nat.le_of_eq rfl) (by decide) (by decide) (by decide) (by decide) rfl ?_
  rintro T1004 h1004 _ W1004 K1004 P1004 rfl
  rw [P1004 rfl rfl] at W1004
  show own_Go p e below C T1004 (mkF m 64 #[.val (.long q1), .second, .val (.long q2), .second, .val (.long q3), .second, .val (.int p4), .val (.int p5), .val (.int p6), .val (.int i0), .val (.int i1), .val (.int i2), .val (.int (0 : Int32)), .unset, .unset, .unset, .unset, .unset, .unset, .unset, .unset] [(.int (if q3 < q2 then (1 : Int32) else (if q3 = q2 then (if (2 : Int32) < (1 : Int32) then (1 : Int32) else (0 : Int32)) else (0 : Int32)))), (.int (1 : Int32))])
  rw [show (if q3 < q2 then (1 : Int32) else (if q3 = q2 then (if (2 : Int32) < (1 : Int32) then (1 : Int32) else (0 : Int32)) else (0 : Int32))) = (1 : Int32) from if_pos c12]
  refine own_iadd W1004 65 at_64 rfl ?_
  rw [show ((1 : Int32) + (1 : Int32)) = (2 : Int32) from rfl]
  refine own_istore W1004 67 #[.val (.long q1), .second, .val (.long q2), .second, .val (.long q3), .second, .val (.int p4), .val (.int p5), .val (.int p6), .val (.int i0), .val (.int i1), .val (.int i2), .val (.int (0 : Int32)), .val (.int (2 : Int32)), .unset, .unset, .unset, .unset, .unset, .unset, .unset] at_65 rfl rfl ?_
  refine own_lloadN W1004 68 at_67 rfl rfl ?_
  refine own_iconst W1004 (0 : Int32) 69 at_68 rfl rfl ?_
  refine own_lload W1004 71 at_69 rfl rfl ?_
  refine own_iconst W1004 (2 : Int32) 72 at_71 rfl rfl ?_
  refine own_callS W1004 (A := [(.long q1), (.int (0 : Int32)), (.long q3), (.int (2 : Int32))]) (wt := 0) (pc' := 75) (st := []) at_72 (wd1 hw) (wd2 hw) (wd3 hw) (wd4 hw) (by decide) (own_m1 l Z a0 hw [] h q1 (0 : Int32) q3 (2 : Int32)) all0 rfl pd_7 rfl (Nat.le_of_eq rfl) (by decide) (by decide) (by decide) (by decide) rfl ?_
  rintro T1005 h1005 _ W1005 K1005 P1005 rfl
  rw [P1005 rfl rfl] at W1005
  show own_Go p e below C T1005 (mkF m 75 #[.val (.long q1), .second, .val (.long q2), .second, .val (.long q3), .second, .val (.int p4), .val (.int p5), .val (.int p6), .val (.int i0), .val (.int i1), .val (.int i2), .val (.int (0 : Int32)), .val (.int (2 : Int32)), .unset, .unset, .unset, .unset, .unset, .unset, .unset] [(.int (if q1 < q3 then (1 : Int32) else (if q1 = q3 then (if (0 : Int32) < (2 : Int32) then (1 : Int32) else (0 : Int32)) else (0 : Int32))))])
  rw [show (if q1 < q3 then (1 : Int32) else (if q1 = q3 then (if (0 : Int32) < (2 : Int32) then (1 : Int32) else (0 : Int32)) else (0 : Int32))) = (1 : Int32) from own_cb1 c02 rfl]
  refine own_lloadN W1005 76 at_75 rfl rfl ?_
  refine own_iconst W1005 (1 : Int32) 77 at_76 rfl rfl ?_
  refine own_lload W1005 79 at_77 rfl rfl ?_
  refine own_iconst W1005 (2 : Int32) 80 at_79 rfl rfl ?_
  refine own_callS W1005 (A := [(.long q2), (.int (1 : Int32)), (.long q3), (.int (2 : Int32))]) (wt := 1) (pc' := 83) (st := [(.int (1 : Int32))]) at_80 (wd1 hw) (wd2 hw) (wd3 hw) (wd4 hw) (by decide) (own_m1 l Z a0 hw [] h q2 (1 : Int32) q3 (2 : Int32)) all0 rfl pd_7 rfl (Nat.le_of_eq rfl) (by decide) (by decide) (by decide) (by decide) rfl ?_
  rintro T1006 h1006 _ W1006 K1006 P1006 rfl
  rw [P1006 rfl rfl] at W1006
  show own_Go p e below C T1006 (mkF m 83 #[.val (.long q1), .second, .val (.long q2), .second, .val (.long q3), .second, .val (.int p4), .val (.int p5), .val (.int p6), .val (.int i0), .val (.int i1), .val (.int i2), .val (.int (0 : Int32)), .val (.int (2 : Int32)), .unset, .unset, .unset, .unset, .unset, .unset, .unset] [(.int (if q2 < q3 then (1 : Int32) else (if q2 = q3 then (if (1 : Int32) < (2 : Int32) then (1 : Int32) else (0 : Int32)) else (0 : Int32)))), (.int (1 : Int32))])
  rw [show (if q2 < q3 then (1 : Int32) else (if q2 = q3 then (if (1 : Int32) < (2 : Int32) then (1 : Int32) else (0 : Int32)) else (0 : Int32))) = (0 : Int32) from own_cb0 c12]
  refine own_iadd W1006 84 at_83 rfl ?_
  rw [show ((1 : Int32) + (0 : Int32)) = (1 : Int32) from rfl]
  refine own_istore W1006 86 #[.val (.long q1), .second, .val (.long q2), .second, .val (.long q3), .second, .val (.int p4), .val (.int p5), .val (.int p6), .val (.int i0), .val (.int i1), .val (.int i2), .val (.int (0 : Int32)), .val (.int (2 : Int32)), .val (.int (1 : Int32)), .unset, .unset, .unset, .unset, .unset, .unset] at_84 rfl rfl ?_
  refine own_iconst W1006 (3 : Int32) 87 at_86 rfl rfl ?_
  refine own_newarray W1006 3 3 89 at_87 (wd5 hw) rfl (Nat.le_refl _) (by decide) (by decide) (by decide) rfl ?_
  intro T1007 h1007 ex W1007 E1007 g_ex o_ex V_ex
  show own_Go p e below C T1007 (mkF m 89 #[.val (.long q1), .second, .val (.long q2), .second, .val (.long q3), .second, .val (.int p4), .val (.int p5), .val (.int p6), .val (.int i0), .val (.int i1), .val (.int i2), .val (.int (0 : Int32)), .val (.int (2 : Int32)), .val (.int (1 : Int32)), .unset, .unset, .unset, .unset, .unset, .unset] [(.ref ex)])
  refine own_astore W1007 91 #[.val (.long q1), .second, .val (.long q2), .second, .val (.long q3), .second, .val (.int p4), .val (.int p5), .val (.int p6), .val (.int i0), .val (.int i1), .val (.int i2), .val (.int (0 : Int32)), .val (.int (2 : Int32)), .val (.int (1 : Int32)), .val (.ref ex), .unset, .unset, .unset, .unset, .unset] at_89 rfl rfl rfl ?_
  refine own_iconst W1007 (3 : Int32) 92 at_91 rfl rfl ?_
  refine own_newarray W1007 3 3 94 at_92 (wd6 hw) rfl (Nat.le_refl _) (by decide) (by decide) (by decide) rfl ?_
  intro T1008 h1008 et W1008 E1008 g_et o_et V_et
  have ne_ex_et : ex ≠ et := by rw [g_et]; exact Nat.ne_of_lt V_ex.lt
  have V_ex := V_ex.ext E1008
  show own_Go p e below C T1008 (mkF m 94 #[.val (.long q1), .second, .val (.long q2), .second, .val (.long q3), .second, .val (.int p4), .val (.int p5), .val (.int p6), .val (.int i0), .val (.int i1), .val (.int i2), .val (.int (0 : Int32)), .val (.int (2 : Int32)), .val (.int (1 : Int32)), .val (.ref ex), .unset, .unset, .unset, .unset, .unset] [(.ref et)])
  refine own_astore W1008 96 #[.val (.long q1), .second, .val (.long q2), .second, .val (.long q3), .second, .val (.int p4), .val (.int p5), .val (.int p6), .val (.int i0), .val (.int i1), .val (.int i2), .val (.int (0 : Int32)), .val (.int (2 : Int32)), .val (.int (1 : Int32)), .val (.ref ex), .val (.ref et), .unset, .unset, .unset, .unset] at_94 rfl rfl rfl ?_
  refine own_aload W1008 98 at_96 rfl rfl rfl ?_
  refine own_iload W1008 100 at_98 rfl rfl ?_
  refine own_iload W1008 102 at_100 rfl rfl ?_
  refine own_iastore W1008 0 103 at_102 V_ex (Or.inr o_ex) rfl (by decide) rfl ?_
  intro T1009 h1009 W1009 Wr1009 V_ex
  have V_et := V_et.other Wr1009 (Ne.symm ne_ex_et)
  show own_Go p e below C T1009 (mkF m 103 #[.val (.long q1), .second, .val (.long q2), .second, .val (.long q3), .second, .val (.int p4), .val (.int p5), .val (.int p6), .val (.int i0), .val (.int i1), .val (.int i2), .val (.int (0 : Int32)), .val (.int (2 : Int32)), .val (.int (1 : Int32)), .val (.ref ex), .val (.ref et), .unset, .unset, .unset, .unset] [])
  refine own_aload W1009 105 at_103 rfl rfl rfl ?_
  refine own_iload W1009 107 at_105 rfl rfl ?_
  refine own_lloadN W1009 108 at_107 rfl rfl ?_
  refine own_lastore W1009 0 109 at_108 V_et (Or.inr o_et) rfl (by decide) rfl ?_
  intro T1010 h1010 W1010 Wr1010 V_et
  have V_ex := V_ex.other Wr1010 ne_ex_et
  show own_Go p e below C T1010 (mkF m 109 #[.val (.long q1), .second, .val (.long q2), .second, .val (.long q3), .second, .val (.int p4), .val (.int p5), .val (.int p6), .val (.int i0), .val (.int i1), .val (.int i2), .val (.int (0 : Int32)), .val (.int (2 : Int32)), .val (.int (1 : Int32)), .val (.ref ex), .val (.ref et), .unset, .unset, .unset, .unset] [])
  refine own_aload W1010 111 at_109 rfl rfl rfl ?_
  refine own_iload W1010 113 at_111 rfl rfl ?_
  refine own_iload W1010 115 at_113 rfl rfl ?_
  refine own_iastore W1010 2 116 at_115 V_ex (Or.inr o_ex) rfl (by decide) rfl ?_
  intro T1011 h1011 W1011 Wr1011 V_ex
  have V_et := V_et.other Wr1011 (Ne.symm ne_ex_et)
  show own_Go p e below C T1011 (mkF m 116 #[.val (.long q1), .second, .val (.long q2), .second, .val (.long q3), .second, .val (.int p4), .val (.int p5), .val (.int p6), .val (.int i0), .val (.int i1), .val (.int i2), .val (.int (0 : Int32)), .val (.int (2 : Int32)), .val (.int (1 : Int32)), .val (.ref ex), .val (.ref et), .unset, .unset, .unset, .unset] [])
  refine own_aload W1011 118 at_116 rfl rfl rfl ?_
  refine own_iload W1011 120 at_118 rfl rfl ?_
  refine own_lloadN W1011 121 at_120 rfl rfl ?_
  refine own_lastore W1011 2 122 at_121 V_et (Or.inr o_et) rfl (by decide) rfl ?_
  intro T1012 h1012 W1012 Wr1012 V_et
  have V_ex := V_ex.other Wr1012 ne_ex_et
  show own_Go p e below C T1012 (mkF m 122 #[.val (.long q1), .second, .val (.long q2), .second, .val (.long q3), .second, .val (.int p4), .val (.int p5), .val (.int p6), .val (.int i0), .val (.int i1), .val (.int i2), .val (.int (0 : Int32)), .val (.int (2 : Int32)), .val (.int (1 : Int32)), .val (.ref ex), .val (.ref et), .unset, .unset, .unset, .unset] [])
  refine own_aload W1012 124 at_122 rfl rfl rfl ?_
  refine own_iload W1012 126 at_124 rfl rfl ?_
  refine own_iload W1012 128 at_126 rfl rfl ?_
  refine own_iastore W1012 1 129 at_128 V_ex (Or.inr o_ex) rfl (by decide) rfl ?_
  intro T1013 h1013 W1013 Wr1013 V_ex
  have V_et := V_et.other Wr1013 (Ne.symm ne_ex_et)
  show own_Go p e below C T1013 (mkF m 129 #[.val (.long q1), .second, .val (.long q2), .second, .val (.long q3), .second, .val (.int p4), .val (.int p5), .val (.int p6), .val (.int i0), .val (.int i1), .val (.int i2), .val (.int (0 : Int32)), .val (.int (2 : Int32)), .val (.int (1 : Int32)), .val (.ref ex), .val (.ref et), .unset, .unset, .unset, .unset] [])
  refine own_aload W1013 131 at_129 rfl rfl rfl ?_
  refine own_iload W1013 133 at_131 rfl rfl ?_
  refine own_lload W1013 135 at_133 rfl rfl ?_
  refine own_lastore W1013 1 136 at_135 V_et (Or.inr o_et) rfl (by decide) rfl ?_
  intro T1014 h1014 W1014 Wr1014 V_et
  have V_ex := V_ex.other Wr1014 ne_ex_et
  show own_Go p e below C T1014 (mkF m 136 #[.val (.long q1), .second, .val (.long q2), .second, .val (.long q3), .second, .val (.int p4), .val (.int p5), .val (.int p6), .val (.int i0), .val (.int i1), .val (.int i2), .val (.int (0 : Int32)), .val (.int (2 : Int32)), .val (.int (1 : Int32)), .val (.ref ex), .val (.ref et), .unset, .unset, .unset, .unset] [])
  refine own_new W1014 139 at_136 (wd7 hw) (wd8 hw) (wd9 hw) (by decide) (by decide) rfl ?_
  intro T1015 h1015 o W1015 E1015 g_o o_o X_o D_o
  have ne_ex_o : ex ≠ o := by rw [g_o]; exact Nat.ne_of_lt V_ex.lt
  have ne_et_o : et ≠ o := by rw [g_o]; exact Nat.ne_of_lt V_et.lt
  have V_ex := V_ex.ext E1015
  have V_et := V_et.ext E1015
  have F_inOrder_o : Fld Z h1015 o "com/example/queueloom/queueloom/engine/Arrivals" "inOrder" "Z" (.int (0 : Int32)) := D_o (Or.inl (wd17 hw)) (ty := .boolean) (by decide)
  have F_times_o : Fld Z h1015 o "com/example/queueloom/queueloom/engine/Arrivals" "times" "[J" .null := D_o (Or.inl (wd19 hw)) (ty := (.array .long)) (by decide)
  have F_indices_o : Fld Z h1015 o "com/example/queueloom/queueloom/engine/Arrivals" "indices" "[I" .null := D_o (Or.inl (wd21 hw)) (ty := (.array .int)) (by decide)
  have F_count_o : Fld Z h1015 o "com/example/queueloom/queueloom/engine/Arrivals" "count" "I" (.int (0 : Int32)) := D_o (Or.inl (wd28 hw)) (ty := .int) (by decide)
  have F_first_o : Fld Z h1015 o "com/example/queueloom/queueloom/engine/Arrivals" "first" "I" (.int (0 : Int32)) := D_o (Or.inl (wd35 hw)) (ty := .int) (by decide)
  have F_later_o : Fld Z h1015 o "com/example/queueloom/queueloom/engine/Arrivals" "later" "Lcom/example/queueloom/queueloom/engine/LongPairHeap;" .null := D_o (Or.inl (wd100 hw)) (ty := (.object "com/example/queueloom/queueloom/engine/LongPairHeap")) (by decide)
  show own_Go p e below C T1015 (mkF m 139 #[.val (.long q1), .second, .val (.long q2), .second, .val (.long q3), .second, .val (.int p4), .val (.int p5), .val (.int p6), .val (.int i0), .val (.int i1), .val (.int i2), .val (.int (0 : Int32)), .val (.int (2 : Int32)), .val (.int (1 : Int32)), .val (.ref ex), .val (.ref et), .unset, .unset, .unset, .unset] [(.ref o)])
  refine own_dup W1015 140 at_139 rfl rfl ?_
  refine own_iconst W1015 (3 : Int32) 141 at_140 rfl rfl ?_
  have hol := X_o.lt
  have hel := V_ex.lt
  have hdl := V_et.lt
  refine own_callN W1015 (A := [(.int (3 : Int32))]) (wt := 1) (pc' := 144) (st := [(.ref o)]) at_141 rfl (wd10 hw) (wd11 hw) (wd9 hw) (wd12 hw) (by decide) (own_m2 l Z a0 hw [] h1015 o X_o F_times_o F_indices_o F_count_o F_first_o F_inOrder_o F_later_o) (allS (Or.inr o_o) all0) rfl pd_2 rfl (Nat.le_of_eq rfl) (by decide) (by decide) (by decide) (by decide) rfl ?_
  rintro T1016 h1016 _ W1016 K1016 P1016 ⟨rfl, ⟨tt, ii, o_tt, o_ii, ne_t_i, Y_ii, F_times_o, F_indices_o, F_count_o, F_first_o, F_inOrder_o, F_later_o, V_tt, V_ii⟩⟩
  have V_ex := V_ex.keep K1016 (ninS ne_ex_o nin0)
  have V_et := V_et.keep K1016 (ninS ne_et_o nin0)
  have X_o := X_o.keep K1016
  show own_Go p e below C T1016 (mkF m 144 #[.val (.long q1), .second, .val (.long q2), .second, .val (.long q3), .second, .val (.int p4), .val (.int p5), .val (.int p6), .val (.int i0), .val (.int i1), .val (.int i2), .val (.int (0 : Int32)), .val (.int (2 : Int32)), .val (.int (1 : Int32)), .val (.ref ex), .val (.ref et), .unset, .unset, .unset, .unset] [(.ref o)])
  have ne_o_tt : o ≠ tt := Nat.ne_of_lt (Nat.lt_of_lt_of_le hol o_tt)
  have ne_o_ii : o ≠ ii := Nat.ne_of_lt (Nat.lt_of_lt_of_le hol o_ii)
  have ne_ex_tt : ex ≠ tt := Nat.ne_of_lt (Nat.lt_of_lt_of_le hel o_tt)
  have ne_ex_ii : ex ≠ ii := Nat.ne_of_lt (Nat.lt_of_lt_of_le hel o_ii)
  have ne_et_tt : et ≠ tt := Nat.ne_of_lt (Nat.lt_of_lt_of_le hdl o_tt)
  have ne_et_ii : et ≠ ii := Nat.ne_of_lt (Nat.lt_of_lt_of_le hdl o_ii)
  refine own_astore W1016 146 #[.val (.long q1), .second, .val (.long q2), .second, .val (.long q3), .second, .val (.int p4), .val (.int p5), .val (.int p6), .val (.int i0), .val (.int i1), .val (.int i2), .val (.int (0 : Int32)), .val (.int (2 : Int32)), .val (.int (1 : Int32)), .val (.ref ex), .val (.ref et), .val (.ref o), .unset, .unset, .unset] at_144 rfl rfl rfl ?_
  refine own_aload W1016 148 at_146 rfl rfl rfl ?_
  refine own_lloadN W1016 149 at_148 rfl rfl ?_
  refine own_iload W1016 151 at_149 rfl rfl ?_
  refine own_callV W1016 (A := [(.long q1), (.int i0)]) (wt := 0) (pc' := 154) (st := []) at_151 (wd22 hw) (wd23 hw) (own_nf W1016 (wd25 hw)) (wd25 hw) (wd24 hw) (wd9 hw) (wd26 hw) (by decide) X_o (own_m4 l Z a0 hw [] h1016 o q1 i0 tt ii (fun _ => 0) (fun _ => 0) 0 (0 : Int32) (1 : Int32) X_o F_times_o F_indices_o F_count_o F_first_o F_inOrder_o F_later_o V_tt V_ii ne_o_tt ne_o_ii ne_t_i rfl (by decide)) (allS (Or.inr o_o) (allS (Or.inr (Nat.le_trans (Nat.le_trans o_o (Nat.le_of_lt hol)) o_tt)) (allS (Or.inr (Nat.le_trans (Nat.le_trans o_o (Nat.le_of_lt hol)) o_ii)) all0))) rfl pd_8 rfl (Nat.le_of_eq rfl) (by decide) (by decide) (by decide) (by decide) rfl ?_
  rintro T1017 h1017 _ W1017 K1017 P1017 ⟨rfl, ⟨F_times_o, F_indices_o, F_count_o, F_first_o, F_inOrder_o, F_later_o, V_tt, V_ii⟩⟩
  have V_ex := V_ex.keep K1017 (ninS ne_ex_o (ninS ne_ex_tt (ninS ne_ex_ii nin0)))
  have V_et := V_et.keep K1017 (ninS ne_et_o (ninS ne_et_tt (ninS ne_et_ii nin0)))
  have X_o := X_o.keep K1017
  have Y_ii := Y_ii.keep K1017
  show own_Go p e below C T1017 (mkF m 154 #[.val (.long q1), .second, .val (.long q2), .second, .val (.long q3), .second, .val (.int p4), .val (.int p5), .val (.int p6), .val (.int i0), .val (.int i1), .val (.int i2), .val (.int (0 : Int32)), .val (.int (2 : Int32)), .val (.int (1 : Int32)), .val (.ref ex), .val (.ref et), .val (.ref o), .unset, .unset, .unset] [])
  have F_inOrder_o : Fld Z h1017 o "com/example/queueloom/queueloom/engine/Arrivals" "inOrder" "Z" (.int (((1 : Int32) &&& own_io (0 : Int32) q1 0) &&& 1)) := F_inOrder_o
  rw [own_io0 (1 : Int32) q1 0 rfl] at F_inOrder_o
  have F_count_o : Fld Z h1017 o "com/example/queueloom/queueloom/engine/Arrivals" "count" "I" (.int (1 : Int32)) := F_count_o
  refine own_aload W1017 156 at_154 rfl rfl rfl ?_
  refine own_lloadN W1017 157 at_156 rfl rfl ?_
  refine own_iload W1017 159 at_157 rfl rfl ?_
  refine own_callV W1017 (A := [(.long q2), (.int i1)]) (wt := 0) (pc' := 162) (st := []) at_159 (wd22 hw) (wd23 hw) (own_nf W1017 (wd25 hw)) (wd25 hw) (wd24 hw) (wd9 hw) (wd26 hw) (by decide) X_o (own_m4 l Z a0 hw [] h1017 o q2 i1 tt ii (own_upL (fun _ => 0) 0 q1) (own_upI (fun _ => 0) 0 i0) 1 (1 : Int32) (1 : Int32) X_o F_times_o F_indices_o F_count_o F_first_o F_inOrder_o F_later_o V_tt V_ii ne_o_tt ne_o_ii ne_t_i rfl (by decide)) (allS (Or.inr o_o) (allS (Or.inr (Nat.le_trans (Nat.le_trans o_o (Nat.le_of_lt hol)) o_tt)) (allS (Or.inr (Nat.le_trans (Nat.le_trans o_o (Nat.le_of_lt hol)) o_ii)) all0))) rfl pd_8 rfl (Nat.le_of_eq rfl) (by decide) (by decide) (by decide) (by decide) rfl ?_
  rintro T1018 h1018 _ W1018 K1018 P1018 ⟨rfl, ⟨F_times_o, F_indices_o, F_count_o, F_first_o, F_inOrder_o, F_later_o, V_tt, V_ii⟩⟩
  have V_ex := V_ex.keep K1018 (ninS ne_ex_o (ninS ne_ex_tt (ninS ne_ex_ii nin0)))
  have V_et := V_et.keep K1018 (ninS ne_et_o (ninS ne_et_tt (ninS ne_et_ii nin0)))
  have X_o := X_o.keep K1018
  have Y_ii := Y_ii.keep K1018
  show own_Go p e below C T1018 (mkF m 162 #[.val (.long q1), .second, .val (.long q2), .second, .val (.long q3), .second, .val (.int p4), .val (.int p5), .val (.int p6), .val (.int i0), .val (.int i1), .val (.int i2), .val (.int (0 : Int32)), .val (.int (2 : Int32)), .val (.int (1 : Int32)), .val (.ref ex), .val (.ref et), .val (.ref o), .unset, .unset, .unset] [])
  have F_inOrder_o : Fld Z h1018 o "com/example/queueloom/queueloom/engine/Arrivals" "inOrder" "Z" (.int (((1 : Int32) &&& own_io (1 : Int32) q2 q1) &&& 1)) := F_inOrder_o
  rw [own_ioN (1 : Int32) (1 : Int32) q2 q1 (by decide) c01 (by decide)] at F_inOrder_o
  have F_count_o : Fld Z h1018 o "com/example/queueloom/queueloom/engine/Arrivals" "count" "I" (.int (2 : Int32)) := F_count_o
  refine own_aload W1018 164 at_162 rfl rfl rfl ?_
  refine own_lload W1018 166 at_164 rfl rfl ?_
  refine own_iload W1018 168 at_166 rfl rfl ?_
  refine own_callV W1018 (A := [(.long q3), (.int i2)]) (wt := 0) (pc' := 171) (st := []) at_168 (wd22 hw) (wd23 hw) (own_nf W1018 (wd25 hw)) (wd25 hw) (wd24 hw) (wd9 hw) (wd26 hw) (by decide) X_o (own_m4 l Z a0 hw [] h1018 o q3 i2 tt ii (own_upL (own_upL (fun _ => 0) 0 q1) 1 q2) (own_upI (own_upI (fun _ => 0) 0 i0) 1 i1) 2 (2 : Int32) (1 : Int32) X_o F_times_o F_indices_o F_count_o F_first_o F_inOrder_o F_later_o V_tt V_ii ne_o_tt ne_o_ii ne_t_i rfl (by decide)) (allS (Or.inr o_o) (allS (Or.inr (Nat.le_trans (Nat.le_trans o_o (Nat.le_of_lt hol)) o_tt)) (allS (Or.inr (Nat.le_trans (Nat.le_trans o_o (Nat.le_of_lt hol)) o_ii)) all0))) rfl pd_8 rfl (Nat.le_of_eq rfl) (by decide) (by decide) (by decide) (by decide) rfl ?_
  rintro T1019 h1019 _ W1019 K1019 P1019 ⟨rfl, ⟨F_times_o, F_indices_o, F_count_o, F_first_o, F_inOrder_o, F_later_o, V_tt, V_ii⟩⟩
  have V_ex := V_ex.keep K1019 (ninS ne_ex_o (ninS ne_ex_tt (ninS ne_ex_ii nin0)))
  have V_et := V_et.keep K1019 (ninS ne_et_o (ninS ne_et_tt (ninS ne_et_ii nin0)))
  have X_o := X_o.keep K1019
  have Y_ii := Y_ii.keep K1019
  show own_Go p e below C T1019 (mkF m 171 #[.val (.long q1), .second, .val (.long q2), .second, .val (.long q3), .second, .val (.int p4), .val (.int p5), .val (.int p6), .val (.int i0), .val (.int i1), .val (.int i2), .val (.int (0 : Int32)), .val (.int (2 : Int32)), .val (.int (1 : Int32)), .val (.ref ex), .val (.ref et), .val (.ref o), .unset, .unset, .unset] [])
  have F_inOrder_o : Fld Z h1019 o "com/example/queueloom/queueloom/engine/Arrivals" "inOrder" "Z" (.int (((1 : Int32) &&& own_io (2 : Int32) q3 q2) &&& 1)) := F_inOrder_o
  rw [own_ioP (1 : Int32) (2 : Int32) q3 q2 (by decide) c12 (by decide)] at F_inOrder_o
  have F_count_o : Fld Z h1019 o "com/example/queueloom/queueloom/engine/Arrivals" "count" "I" (.int (3 : Int32)) := F_count_o
  refine own_aload W1019 173 at_171 rfl rfl rfl ?_
  refine own_callV W1019 (A := []) (wt := 0) (pc' := 176) (st := []) at_173 (wd29 hw) (wd30 hw) (own_nf W1019 (wd32 hw)) (wd32 hw) (wd31 hw) (wd9 hw) (wd33 hw) (by decide) X_o (own_m5 l Z a0 hw [] h1019 o tt ii (own_upL (own_upL (own_upL (fun _ => 0) 0 q1) 1 q2) 2 q3) (own_upI (own_upI (own_upI (fun _ => 0) 0 i0) 1 i1) 2 i2) (0 : Int32) F_times_o F_indices_o F_count_o F_first_o F_inOrder_o F_later_o V_tt V_ii Y_ii) all0 rfl pd_9 rfl (Nat.le_of_eq rfl) (by decide) (by decide) (by decide) (by decide) rfl ?_
  rintro T1020 h1020 _ W1020 K1020 P1020 ⟨bf, rfl, o_bf, V_bf⟩
  have V_ex := V_ex.keep K1020 nin0
  have V_et := V_et.keep K1020 nin0
  have X_o := X_o.keep K1020
  have Y_ii := Y_ii.keep K1020
  have F_times_o := F_times_o.keep K1020 nin0
  have F_indices_o := F_indices_o.keep K1020 nin0
  have F_count_o := F_count_o.keep K1020 nin0
  have F_first_o := F_first_o.keep K1020 nin0
  have F_inOrder_o := F_inOrder_o.keep K1020 nin0
  have F_later_o := F_later_o.keep K1020 nin0
  have V_tt := V_tt.keep K1020 nin0
  have V_ii := V_ii.keep K1020 nin0
  show own_Go p e below C T1020 (mkF m 176 #[.val (.long q1), .second, .val (.long q2), .second, .val (.long q3), .second, .val (.int p4), .val (.int p5), .val (.int p6), .val (.int i0), .val (.int i1), .val (.int i2), .val (.int (0 : Int32)), .val (.int (2 : Int32)), .val (.int (1 : Int32)), .val (.ref ex), .val (.ref et), .val (.ref o), .unset, .unset, .unset] [(.ref bf)])
  refine own_astore W1020 178 #[.val (.long q1), .second, .val (.long q2), .second, .val (.long q3), .second, .val (.int p4), .val (.int p5), .val (.int p6), .val (.int i0), .val (.int i1), .val (.int i2), .val (.int (0 : Int32)), .val (.int (2 : Int32)), .val (.int (1 : Int32)), .val (.ref ex), .val (.ref et), .val (.ref o), .val (.ref bf), .unset, .unset] at_176 rfl rfl rfl ?_
  refine own_aload W1020 180 at_178 rfl rfl rfl ?_
  refine own_arraylength W1020 (3 : Int32) 181 at_180 V_bf rfl rfl ?_
  refine own_iconst W1020 (3 : Int32) 182 at_181 rfl rfl ?_
  refine own_icmpN W1020 185 at_182 ((teq (rfl : (3 : Int32) = (3 : Int32))).2) rfl ?_
  refine own_aload W1020 187 at_185 rfl rfl rfl ?_
  refine own_iconst W1020 (0 : Int32) 188 at_187 rfl rfl ?_
  refine own_iaload W1020 0 i0 189 at_188 V_bf rfl (by decide) rfl rfl ?_
  refine own_iload W1020 191 at_189 rfl rfl ?_
  refine own_icmpN W1020 194 at_191 ((teq (rfl : i0 = i0)).2) rfl ?_
  refine own_aload W1020 196 at_194 rfl rfl rfl ?_
  refine own_iconst W1020 (1 : Int32) 197 at_196 rfl rfl ?_
  refine own_iaload W1020 1 i1 198 at_197 V_bf rfl (by decide) rfl rfl ?_
  refine own_iload W1020 200 at_198 rfl rfl ?_
  refine own_icmpN W1020 203 at_200 ((teq (rfl : i1 = i1)).2) rfl ?_
  refine own_aload W1020 205 at_203 rfl rfl rfl ?_
  refine own_iconst W1020 (2 : Int32) 206 at_205 rfl rfl ?_
  refine own_iaload W1020 2 i2 207 at_206 V_bf rfl (by decide) rfl rfl ?_
  refine own_iload W1020 209 at_207 rfl rfl ?_
  refine own_icmpN W1020 212 at_209 ((teq (rfl : i2 = i2)).2) rfl ?_
  refine own_iconst W1020 (1 : Int32) 213 at_212 rfl rfl ?_
  refine own_goto W1020 217 at_213 (by decide) (by decide) ?_
  refine own_istore W1020 219 #[.val (.long q1), .second, .val (.long q2), .second, .val (.long q3), .second, .val (.int p4), .val (.int p5), .val (.int p6), .val (.int i0), .val (.int i1), .val (.int i2), .val (.int (0 : Int32)), .val (.int (2 : Int32)), .val (.int (1 : Int32)), .val (.ref ex), .val (.ref et), .val (.ref o), .val (.ref bf), .val (.int (1 : Int32)), .unset] at_217 rfl rfl ?_
  refine own_aload W1020 221 at_219 rfl rfl rfl ?_
  refine own_callV W1020 (A := []) (wt := 0) (pc' := 224) (st := []) at_221 (wd49 hw) (wd50 hw) (own_nf W1020 (wd52 hw)) (wd52 hw) (wd51 hw) (wd9 hw) (wd53 hw) (by decide) X_o (own_m7b l Z a0 hw [] h1020 o tt ii (own_upL (own_upL (own_upL (fun _ => 0) 0 q1) 1 q2) 2 q3) (own_upI (own_upI (own_upI (fun _ => 0) 0 i0) 1 i1) 2 i2) X_o F_times_o F_indices_o F_count_o F_first_o F_inOrder_o F_later_o V_tt V_ii ne_o_tt ne_o_ii ne_t_i) (allS (Or.inr o_o) (allS (Or.inr (Nat.le_trans (Nat.le_trans o_o (Nat.le_of_lt hol)) o_tt)) (allS (Or.inr (Nat.le_trans (Nat.le_trans o_o (Nat.le_of_lt hol)) o_ii)) all0))) rfl pd_5 rfl (Nat.le_of_eq rfl) (by decide) (by decide) (by decide) (by decide) rfl ?_
  rintro T1021 h1021 _ W1021 K1021 P1021 ⟨rfl, ⟨F_times_o, F_indices_o, F_count_o, F_first_o, F_inOrder_o, F_later_o, V_tt, V_ii⟩⟩
  have V_ex := V_ex.keep K1021 (ninS ne_ex_o (ninS ne_ex_tt (ninS ne_ex_ii nin0)))
  have V_et := V_et.keep K1021 (ninS ne_et_o (ninS ne_et_tt (ninS ne_et_ii nin0)))
  have X_o := X_o.keep K1021
  have Y_ii := Y_ii.keep K1021
  show own_Go p e below C T1021 (mkF m 224 #[.val (.long q1), .second, .val (.long q2), .second, .val (.long q3), .second, .val (.int p4), .val (.int p5), .val (.int p6), .val (.int i0), .val (.int i1), .val (.int i2), .val (.int (0 : Int32)), .val (.int (2 : Int32)), .val (.int (1 : Int32)), .val (.ref ex), .val (.ref et), .val (.ref o), .val (.ref bf), .val (.int (1 : Int32)), .unset] [])
  have V_tt : own_A Z h1021 tt .long 3 (fun j => .long ((own_upL (own_upL (own_upL (own_upL (own_upL (own_upL (fun _ => 0) 0 q1) 1 q2) 2 q3) 0 ((own_p3 (own_upL (own_upL (own_upL (fun _ => 0) 0 q1) 1 q2) 2 q3) (own_upI (own_upI (own_upI (fun _ => 0) 0 i0) 1 i1) 2 i2)).1 0)) 1 ((own_q1 (own_upL (own_upL (own_upL (fun _ => 0) 0 q1) 1 q2) 2 q3) (own_upI (own_upI (own_upI (fun _ => 0) 0 i0) 1 i1) 2 i2)).1 0)) 2 ((own_q2 (own_upL (own_upL (own_upL (fun _ => 0) 0 q1) 1 q2) 2 q3) (own_upI (own_upI (own_upI (fun _ => 0) 0 i0) 1 i1) 2 i2)).1 0)) j)) := V_tt
  have V_ii : own_A Z h1021 ii .int 3 (fun j => .int ((own_upI (own_upI (own_upI (own_upI (own_upI (own_upI (fun _ => 0) 0 i0) 1 i1) 2 i2) 0 ((own_p3 (own_upL (own_upL (own_upL (fun _ => 0) 0 q1) 1 q2) 2 q3) (own_upI (own_upI (own_upI (fun _ => 0) 0 i0) 1 i1) 2 i2)).2 0).toInt32) 1 ((own_q1 (own_upL (own_upL (own_upL (fun _ => 0) 0 q1) 1 q2) 2 q3) (own_upI (own_upI (own_upI (fun _ => 0) 0 i0) 1 i1) 2 i2)).2 0).toInt32) 2 ((own_q2 (own_upL (own_upL (own_upL (fun _ => 0) 0 q1) 1 q2) 2 q3) (own_upI (own_upI (own_upI (fun _ => 0) 0 i0) 1 i1) 2 i2)).2 0).toInt32) j)) := V_ii
  obtain ⟨TA, IB, V_tt, V_ii, E0, E1, E2, G0, G1, G2⟩ : ∃ (TA : Nat → Int64) (IB : Nat → Int32), own_A Z h1021 tt .long 3 (fun j => .long (TA j)) ∧ own_A Z h1021 ii .int 3 (fun j => .int (IB j)) ∧ TA 0 = q1 ∧ TA 1 = q3 ∧ TA 2 = q2 ∧ IB 0 = i0 ∧ IB 1 = i2 ∧ IB 2 = i1 := ⟨_, _, V_tt, V_ii, own_s_fft q1 q2 q3 i0 i1 i2 (own_rkN c02 hr02) (own_rkL c12)⟩
  refine own_aload W1021 226 at_224 rfl rfl rfl ?_
  refine own_callV W1021 (A := []) (wt := 0) (pc' := 229) (st := []) at_226 (wd29 hw) (wd30 hw) (own_nf W1021 (wd32 hw)) (wd32 hw) (wd31 hw) (wd9 hw) (wd33 hw) (by decide) X_o (own_m5 l Z a0 hw [] h1021 o tt ii TA IB (1 : Int32) F_times_o F_indices_o F_count_o F_first_o F_inOrder_o F_later_o V_tt V_ii Y_ii) all0 rfl pd_9 rfl (Nat.le_of_eq rfl) (by decide) (by decide) (by decide) (by decide) rfl ?_
  rintro T1022 h1022 _ W1022 K1022 P1022 ⟨af, rfl, o_af, V_af⟩
  have V_ex := V_ex.keep K1022 nin0
  have V_et := V_et.keep K1022 nin0
  have X_o := X_o.keep K1022
  have Y_ii := Y_ii.keep K1022
  have F_times_o := F_times_o.keep K1022 nin0
  have F_indices_o := F_indices_o.keep K1022 nin0
  have F_count_o := F_count_o.keep K1022 nin0
  have F_first_o := F_first_o.keep K1022 nin0
  have F_inOrder_o := F_inOrder_o.keep K1022 nin0
  have F_later_o := F_later_o.keep K1022 nin0
  have V_tt := V_tt.keep K1022 nin0
  have V_ii := V_ii.keep K1022 nin0
  show own_Go p e below C T1022 (mkF m 229 #[.val (.long q1), .second, .val (.long q2), .second, .val (.long q3), .second, .val (.int p4), .val (.int p5), .val (.int p6), .val (.int i0), .val (.int i1), .val (.int i2), .val (.int (0 : Int32)), .val (.int (2 : Int32)), .val (.int (1 : Int32)), .val (.ref ex), .val (.ref et), .val (.ref o), .val (.ref bf), .val (.int (1 : Int32)), .unset] [(.ref af)])
  refine own_astore W1022 231 #[.val (.long q1), .second, .val (.long q2), .second, .val (.long q3), .second, .val (.int p4), .val (.int p5), .val (.int p6), .val (.int i0), .val (.int i1), .val (.int i2), .val (.int (0 : Int32)), .val (.int (2 : Int32)), .val (.int (1 : Int32)), .val (.ref ex), .val (.ref et), .val (.ref o), .val (.ref bf), .val (.int (1 : Int32)), .val (.ref af)] at_229 rfl rfl rfl ?_
  refine own_iload W1022 233 at_231 rfl rfl ?_
  refine own_ifN W1022 236 at_233 ((if0 _ _).trans (feq (by decide : ¬ ((1 : Int32) = (0 : Int32)))).1) rfl ?_
  refine own_aload W1022 238 at_236 rfl rfl rfl ?_
  refine own_arraylength W1022 (3 : Int32) 239 at_238 V_af rfl rfl ?_
  refine own_iconst W1022 (3 : Int32) 240 at_239 rfl rfl ?_
  refine own_icmpN W1022 243 at_240 ((teq (rfl : (3 : Int32) = (3 : Int32))).2) rfl ?_
  refine own_aload W1022 245 at_243 rfl rfl rfl ?_
  refine own_iconst W1022 (0 : Int32) 246 at_245 rfl rfl ?_
  refine own_iaload W1022 0 i0 247 at_246 V_af rfl (by decide) (congrArg Value.int G0) rfl ?_
  refine own_aload W1022 249 at_247 rfl rfl rfl ?_
  refine own_iconst W1022 (0 : Int32) 250 at_249 rfl rfl ?_
  refine own_iaload W1022 0 i0 251 at_250 V_ex rfl (by decide) rfl rfl ?_
  refine own_icmpN W1022 254 at_251 ((teq (rfl : i0 = i0)).2) rfl ?_
  refine own_aload W1022 256 at_254 rfl rfl rfl ?_
  refine own_iconst W1022 (1 : Int32) 257 at_256 rfl rfl ?_
  refine own_iaload W1022 1 i2 258 at_257 V_af rfl (by decide) (congrArg Value.int G1) rfl ?_
  refine own_aload W1022 260 at_258 rfl rfl rfl ?_
  refine own_iconst W1022 (1 : Int32) 261 at_260 rfl rfl ?_
  refine own_iaload W1022 1 i2 262 at_261 V_ex rfl (by decide) rfl rfl ?_
  refine own_icmpN W1022 265 at_262 ((teq (rfl : i2 = i2)).2) rfl ?_
  refine own_aload W1022 267 at_265 rfl rfl rfl ?_
  refine own_iconst W1022 (2 : Int32) 268 at_267 rfl rfl ?_
  refine own_iaload W1022 2 i1 269 at_268 V_af rfl (by decide) (congrArg Value.int G2) rfl ?_
  refine own_aload W1022 271 at_269 rfl rfl rfl ?_
  refine own_iconst W1022 (2 : Int32) 272 at_271 rfl rfl ?_
  refine own_iaload W1022 2 i1 273 at_272 V_ex rfl (by decide) rfl rfl ?_
  refine own_icmpN W1022 276 at_273 ((teq (rfl : i1 = i1)).2) rfl ?_
  refine own_iconst W1022 (1 : Int32) 277 at_276 rfl rfl ?_
  refine own_goto W1022 281 at_277 (by decide) (by decide) ?_
  refine own_istore W1022 283 #[.val (.long q1), .second, .val (.long q2), .second, .val (.long q3), .second, .val (.int p4), .val (.int p5), .val (.int p6), .val (.int i0), .val (.int i1), .val (.int i2), .val (.int (0 : Int32)), .val (.int (2 : Int32)), .val (.int (1 : Int32)), .val (.ref ex), .val (.ref et), .val (.ref o), .val (.ref bf), .val (.int (1 : Int32)), .val (.ref af)] at_281 rfl rfl ?_
  refine own_iload W1022 285 at_283 rfl rfl ?_
  refine own_ifN W1022 288 at_285 ((if0 _ _).trans (feq (by decide : ¬ ((1 : Int32) = (0 : Int32)))).1) rfl ?_
  refine own_aload W1022 290 at_288 rfl rfl rfl ?_
  refine own_callV W1022 (A := []) (wt := 0) (pc' := 293) (st := []) at_290 (wd90 hw) (wd91 hw) (own_nf W1022 (wd93 hw)) (wd93 hw) (wd92 hw) (wd9 hw) (wd94 hw) (by decide) X_o (own_m14 l Z a0 hw [] h1022 o tt ii TA IB (3 : Int32) (1 : Int32) X_o F_times_o F_indices_o F_count_o F_first_o F_inOrder_o F_later_o V_tt V_ii) all0 rfl pd_4 rfl (Nat.le_of_eq rfl) (by decide) (by decide) (by decide) (by decide) rfl ?_
  rintro T1023 h1023 _ W1023 K1023 P1023 rfl
  rw [P1023 rfl rfl] at W1023
  show own_Go p e below C T1023 (mkF m 293 #[.val (.long q1), .second, .val (.long q2), .second, .val (.long q3), .second, .val (.int p4), .val (.int p5), .val (.int p6), .val (.int i0), .val (.int i1), .val (.int i2), .val (.int (0 : Int32)), .val (.int (2 : Int32)), .val (.int (1 : Int32)), .val (.ref ex), .val (.ref et), .val (.ref o), .val (.ref bf), .val (.int (1 : Int32)), .val (.ref af)] [(.long (TA 0))])
  rw [show (TA 0) = q1 from E0]
  refine own_aload W1023 295 at_293 rfl rfl rfl ?_
  refine own_iconst W1023 (0 : Int32) 296 at_295 rfl rfl ?_
  refine own_laload W1023 0 q1 297 at_296 V_et rfl (by decide) rfl rfl ?_
  refine own_lcmp W1023 298 at_297 rfl ?_
  refine own_ifN W1023 301 at_298 ((if0 _ _).trans (teq ((lw_eq q1 q1).mpr (rfl : q1 = q1))).2) rfl ?_
  refine own_aload W1023 303 at_301 rfl rfl rfl ?_
  refine own_callV W1023 (A := []) (wt := 0) (pc' := 306) (st := []) at_303 (wd101 hw) (wd102 hw) (own_nf W1023 (wd104 hw)) (wd104 hw) (wd103 hw) (wd9 hw) (wd105 hw) (by decide) X_o (own_m16 l Z a0 hw [] h1022 o tt ii TA IB (3 : Int32) (1 : Int32) X_o F_times_o F_indices_o F_count_o F_first_o F_inOrder_o F_later_o V_tt V_ii) all0 rfl pd_10 rfl (Nat.le_of_eq rfl) (by decide) (by decide) (by decide) (by decide) rfl ?_
  rintro T1024 h1024 _ W1024 K1024 P1024 rfl
  rw [P1024 rfl rfl] at W1024
  show own_Go p e below C T1024 (mkF m 306 #[.val (.long q1), .second, .val (.long q2), .second, .val (.long q3), .second, .val (.int p4), .val (.int p5), .val (.int p6), .val (.int i0), .val (.int i1), .val (.int i2), .val (.int (0 : Int32)), .val (.int (2 : Int32)), .val (.int (1 : Int32)), .val (.ref ex), .val (.ref et), .val (.ref o), .val (.ref bf), .val (.int (1 : Int32)), .val (.ref af)] [(.int (IB 0))])
  rw [show (IB 0) = i0 from G0]
  refine own_aload W1024 308 at_306 rfl rfl rfl ?_
  refine own_iconst W1024 (0 : Int32) 309 at_308 rfl rfl ?_
  refine own_iaload W1024 0 i0 310 at_309 V_ex rfl (by decide) rfl rfl ?_
  refine own_icmpN W1024 313 at_310 ((teq (rfl : i0 = i0)).2) rfl ?_
  refine own_iconst W1024 (1 : Int32) 314 at_313 rfl rfl ?_
  refine own_goto W1024 318 at_314 (by decide) (by decide) ?_
  refine own_istore W1024 320 #[.val (.long q1), .second, .val (.long q2), .second, .val (.long q3), .second, .val (.int p4), .val (.int p5), .val (.int p6), .val (.int i0), .val (.int i1), .val (.int i2), .val (.int (0 : Int32)), .val (.int (2 : Int32)), .val (.int (1 : Int32)), .val (.ref ex), .val (.ref et), .val (.ref o), .val (.ref bf), .val (.int (1 : Int32)), .val (.ref af)] at_318 rfl rfl ?_
  refine own_iload W1024 322 at_320 rfl rfl ?_
  refine own_retZ (Q := fun v h => v = some (.int (1 : Int32))) W1024 hC (by decide) (by decide) at_322 ?_
  exact rfl
set_option maxRecDepth 65536 in
set_option maxHeartbeats 40000000 in
theorem own_m0_fff (l : Launch) (Z : State) (a0 : Array Value) (hw : ∀ d ∈ tables_1, d.before a0 Z = true) (h0 : Heap) (q1 : Int64) (q2 : Int64) (q3 : Int64) (p4 : Int32) (p5 : Int32) (p6 : Int32) (p : Program) (e : Env) (s : State) (m : MethodId) (below : List Frame) (meth : Method) (c : Code) (C : Outcome → State → Prop) (hC : ∀ v L u, own_Fw s [] L → (v = some (.int (1 : Int32))) → FrameEnd s (.returned v) u L room_1.cells room_1.slots → C (.returned v) u) (T : State) (h : Heap) (i0 i1 i2 : Int32) (W : own_W p l e room_1 s m #[(.long q1), (.long q2), (.long q3), (.int p4), (.int p5), (.int p6)] below meth c Z x ret code maxLocals [] T h (0) (0)) (c01 : ¬ q2 < q1) (c02 : ¬ q3 < q1) (c12 : ¬ q3 < q2) (hr01 : i0 < i1) (hr12 : i1 < i2) (hr02 : i0 < i2) :
    own_Go p e below C T (mkF m 31 #[.val (.long q1), .second, .val (.long q2), .second, .val (.long q3), .second, .val (.int p4), .val (.int p5), .val (.int p6), .val (.int i0), .val (.int i1), .val (.int i2), .unset, .unset, .unset, .unset, .unset, .unset, .unset, .unset, .unset] []) := by
  refine own_lloadN W 32 at_31 rfl rfl ?_
  refine own_iconst W (1 : Int32) 33 at_32 rfl rfl ?_
  refine own_lloadN W 34 at_33 rfl rfl ?_
  refine own_iconst W (0 : Int32) 35 at_34 rfl rfl ?_
  refine own_callS W (A := [(.long q2), (.int (1 : Int32)), (.long q1), (.int (0 : Int32))]) (wt := 0) (pc' := 38) (st := []) at_35 (wd1 hw) (wd2 hw) (wd3 hw) (wd4 hw) (by decide) (own_m1 l Z a0 hw [] h q2 (1 : Int32) q1 (0 : Int32)) all0 rfl pd_7 rfl (Nat.le_of_eq rfl) (by decide) (by decide) (by decide) (by decide) rfl ?_
  rintro T1001 h1001 _ W1001 K1001 P1001 rfl
  rw [P1001 rfl rfl] at W1001
  show own_Go p e below C T1001 (mkF m 38 #[.val (.long q1), .second, .val (.long q2), .second, .val (.long q3), .second, .val (.int p4), .val (.int p5), .val (.int p6), .val (.int i0), .val (.int i1), .val (.int i2), .unset, .unset, .unset, .unset, .unset, .unset, .unset, .unset, .unset] [(.int (if q2 < q1 then (1 : Int32) else (if q2 = q1 then (if (1 : Int32) < (0 : Int32) then (1 : Int32) else (0 : Int32)) else (0 : Int32))))])
  rw [show (if q2 < q1 then (1 : Int32) else (if q2 = q1 then (if (1 : Int32) < (0 : Int32) then (1 : Int32) else (0 : Int32)) else (0 : Int32))) = (0 : Int32) from own_cb2 c01 rfl]
  refine own_lload W1001 40 at_38 rfl rfl ?_
  refine own_iconst W1001 (2 : Int32) 41 at_40 rfl rfl ?_
  refine own_lloadN W1001 42 at_41 rfl rfl ?_
  refine own_iconst W1001 (0 : Int32) 43 at_42 rfl rfl ?_
  refine own_callS W1001 (A := [(.long q3), (.int (2 : Int32)), (.long q1), (.int (0 : Int32))]) (wt := 1) (pc' := 46) (st := [(.int (0 : Int32))]) at_43 (wd1 hw) (wd2 hw) (wd3 hw) (wd4 hw) (by decide) (own_m1 l Z a0 hw [] h q3 (2 : Int32) q1 (0 : Int32)) all0 rfl pd_7 rfl (Nat.le_of_eq rfl) (by decide) (by decide) (by decide) (by decide) rfl ?_
  rintro T1002 h1002 _ W1002 K1002 P1002 rfl
  rw [P1002 rfl rfl] at W1002
  show own_Go p e below C T1002 (mkF m 46 #[.val (.long q1), .second, .val (.long q2), .second, .val (.long q3), .second, .val (.int p4), .val (.int p5), .val (.int p6), .val (.int i0), .val (.int i1), .val (.int i2), .unset, .unset, .unset, .unset, .unset, .unset, .unset, .unset, .unset] [(.int (if q3 < q1 then (1 : Int32) else (if q3 = q1 then (if (2 : Int32) < (0 : Int32) then (1 : Int32) else (0 : Int32)) else (0 : Int32)))), (.int (0 : Int32))])
  rw [show (if q3 < q1 then (1 : Int32) else (if q3 = q1 then (if (2 : Int32) < (0 : Int32) then (1 : Int32) else (0 : Int32)) else (0 : Int32))) = (0 : Int32) from own_cb2 c02 rfl]
  refine own_iadd W1002 47 at_46 rfl ?_
  rw [show ((0 : Int32) + (0 : Int32)) = (0 : Int32) from rfl]
  refine own_istore W1002 49 #[.val (.long q1), .second, .val (.long q2), .second, .val (.long q3), .second, .val (.int p4), .val (.int p5), .val (.int p6), .val (.int i0), .val (.int i1), .val (.int i2), .val (.int (0 : Int32)), .unset, .unset, .unset, .unset, .unset, .unset, .unset, .unset] at_47 rfl rfl ?_
  refine own_lloadN W1002 50 at_49 rfl rfl ?_
  refine own_iconst W1002 (0 : Int32) 51 at_50 rfl rfl ?_
  refine own_lloadN W1002 52 at_51 rfl rfl ?_
  refine own_iconst W1002 (1 : Int32) 53 at_52 rfl rfl ?_
  refine own_callS W1002 (A := [(.long q1), (.int (0 : Int32)), (.long q2), (.int (1 : Int32))]) (wt := 0) (pc' := 56) (st := []) at_53 (wd1 hw) (wd2 hw) (wd3 hw) (wd4 hw) (by decide) (own_m1 l Z a0 hw [] h q1 (0 : Int32) q2 (1 : Int32)) all0 rfl pd_7 rfl (Nat.le_of_eq rfl) (by decide) (by decide) (by decide) (by decide) rfl ?_
  rintro T1003 h1003 _ W1003 K1003 P1003 rfl
  rw [P1003 rfl rfl] at W1003
  show own_Go p e below C T1003 (mkF m 56 #[.val (.long q1), .second, .val (.long q2), .second, .val (.long q3), .second, .val (.int p4), .val (.int p5), .val (.int p6), .val (.int i0), .val (.int i1), .val (.int i2), .val (.int (0 : Int32)), .unset, .unset, .unset, .unset, .unset, .unset, .unset, .unset] [(.int (if q1 < q2 then (1 : Int32) else (if q1 = q2 then (if (0 : Int32) < (1 : Int32) then (1 : Int32) else (0 : Int32)) else (0 : Int32))))])
  rw [show (if q1 < q2 then (1 : Int32) else (if q1 = q2 then (if (0 : Int32) < (1 : Int32) then (1 : Int32) else (0 : Int32)) else (0 : Int32))) = (1 : Int32) from own_cb1 c01 rfl]
  refine own_lload W1003 58 at_56 rfl rfl ?_
  refine own_iconst W1003 (2 : Int32) 59 at_58 rfl rfl ?_
  refine own_lloadN W1003 60 at_59 rfl rfl ?_
  refine own_iconst W1003 (1 : Int32) 61 at_60 rfl rfl ?_
  refine own_callS W1003 (A := [(.long q3), (.int (2 : Int32)), (.long q2), (.int (1 : Int32))]) (wt := 1) (pc' := 64) (st := [(.int (1 : Int32))]) at_61 (wd1 hw) (wd2 hw) (wd3 hw) (wd4 hw) (by decide) (own_m1 l Z a0 hw [] h q3 (2 : Int32) q2 (1 : Int32)) all0 rfl pd_7 rfl (Nat.le_of_eq rfl) (by decide) (by decide) (by decide) (by decide) rfl ?_
  rintro T1004 h1004 _ W1004 K1004 P1004 rfl
  rw [P1004 rfl rfl] at W1004
  show own_Go p e below C T1004 (mkF m 64 #[.val (.long q1), .second, .val (.long q2), .second, .val (.long q3), .second, .val (.int p4), .val (.int p5), .val (.int p6), .val (.int i0), .val (.int i1), .val (.int i2), .val (.int (0 : Int32)), .unset, .unset, .unset, .unset, .unset, .unset, .unset, .unset] [(.int (if q3 < q2 then (1 : Int32) else (if q3 = q2 then (if (2 : Int32) < (1 : Int32) then (1 : Int32) else (0 : Int32)) else (0 : Int32)))), (.int (1 : Int32))])
  rw [show (if q3 < q2 then (1 : Int32) else (if q3 = q2 then (if (2 : Int32) < (1 : Int32) then (1 : Int32) else (0 : Int32)) else (0 : Int32))) = (0 : Int32) from own_cb2 c12 rfl]
  refine own_iadd W1004 65 at_64 rfl ?_
  rw [show ((1 : Int32) + (0 : Int32)) = (1 : Int32) from rfl]
  refine own_istore W1004 67 #[.val (.long q1), .second, .val (.long q2), .second, .val (.long q3), .second, .val (.int p4), .val (.int p5), .val (.int p6), .val (.int i0), .val (.int i1), .val (.int i2), .val (.int (0 : Int32)), .val (.int (1 : Int32)), .unset, .unset, .unset, .unset, .unset, .unset, .unset] at_65 rfl rfl ?_
  refine own_lloadN W1004 68 at_67 rfl rfl ?_
  refine own_iconst W1004 (0 : Int32) 69 at_68 rfl rfl ?_
  refine own_lload W1004 71 at_69 rfl rfl ?_
  refine own_iconst W1004 (2 : Int32) 72 at_71 rfl rfl ?_
  refine own_callS W1004 (A := [(.long q1), (.int (0 : Int32)), (.long q3), (.int (2 : Int32))]) (wt := 0) (pc' := 75) (st := []) at_72 (wd1 hw) (wd2 hw) (wd3 hw) (wd4 hw) (by decide) (own_m1 l Z a0 hw [] h q1 (0 : Int32) q3 (2 : Int32)) all0 rfl pd_7 rfl (Nat.le_of_eq rfl) (by decide) (by decide) (by decide) (by decide) rfl ?_
  rintro T1005 h1005 _ W1005 K1005 P1005 rfl
  rw [P1005 rfl rfl] at W1005
  show own_Go p e below C T1005 (mkF m 75 #[.val (.long q1), .second, .val (.long q2), .second, .val (.long q3), .second, .val (.int p4), .val (.int p5), .val (.int p6), .val (.int i0), .val (.int i1), .val (.int i2), .val (.int (0 : Int32)), .val (.int (1 : Int32)), .unset, .unset, .unset, .unset, .unset, .unset, .unset] [(.int (if q1 < q3 then (1 : Int32) else (if q1 = q3 then (if (0 : Int32) < (2 : Int32) then (1 : Int32) else (0 : Int32)) else (0 : Int32))))])
  rw [show (if q1 < q3 then (1 : Int32) else (if q1 = q3 then (if (0 : Int32) < (2 : Int32) then (1 : Int32) else (0 : Int32)) else (0 : Int32))) = (1 : Int32) from own_cb1 c02 rfl]
  refine own_lloadN W1005 76 at_75 rfl rfl ?_
  refine own_iconst W1005 (1 : Int32) 77 at_76 rfl rfl ?_
  refine own_lload W1005 79 at_77 rfl rfl ?_
  refine own_iconst W1005 (2 : Int32) 80 at_79 rfl rfl ?_
  refine own_callS W1005 (A := [(.long q2), (.int (1 : Int32)), (.long q3), (.int (2 : Int32))]) (wt := 1) (pc' := 83) (st := [(.int (1 : Int32))]) at_80 (wd1 hw) (wd2 hw) (wd3 hw) (wd4 hw) (by decide) (own_m1 l Z a0 hw [] h q2 (1 : Int32) q3 (2 : Int32)) all0 rfl pd_7 rfl (Nat.le_of_eq rfl) (by decide) (by decide) (by decide) (by decide) rfl ?_
  rintro T1006 h1006 _ W1006 K1006 P1006 rfl
  rw [P1006 rfl rfl] at W1006
  show own_Go p e below C T1006 (mkF m 83 #[.val (.long q1), .second, .val (.long q2), .second, .val (.long q3), .second, .val (.int p4), .val (.int p5), .val (.int p6), .val (.int i0), .val (.int i1), .val (.int i2), .val (.int (0 : Int32)), .val (.int (1 : Int32)), .unset, .unset, .unset, .unset, .unset, .unset, .unset] [(.int (if q2 < q3 then (1 : Int32) else (if q2 = q3 then (if (1 : Int32) < (2 : Int32) then (1 : Int32) else (0 : Int32)) else (0 : Int32)))), (.int (1 : Int32))])
  rw [show (if q2 < q3 then (1 : Int32) else (if q2 = q3 then (if (1 : Int32) < (2 : Int32) then (1 : Int32) else (0 : Int32)) else (0 : Int32))) = (1 : Int32) from own_cb1 c12 rfl]
  refine own_iadd W1006 84 at_83 rfl ?_
  rw [show ((1 : Int32) + (1 : Int32)) = (2 : Int32) from rfl]
  refine own_istore W1006 86 #[.val (.long q1), .second, .val (.long q2), .second, .val (.long q3), .second, .val (.int p4), .val (.int p5), .val (.int p6), .val (.int i0), .val (.int i1), .val (.int i2), .val (.int (0 : Int32)), .val (.int (1 : Int32)), .val (.int (2 : Int32)), .unset, .unset, .unset, .unset, .unset, .unset] at_84 rfl rfl ?_
  refine own_iconst W1006 (3 : Int32) 87 at_86 rfl rfl ?_
  refine own_newarray W1006 3 3 89 at_87 (wd5 hw) rfl (Nat.le_refl _) (by decide) (by decide) (by decide) rfl ?_
  intro T1007 h1007 ex W1007 E1007 g_ex o_ex V_ex
  show own_Go p e below C T1007 (mkF m 89 #[.val (.long q1), .second, .val (.long q2), .second, .val (.long q3), .second, .val (.int p4), .val (.int p5), .val (.int p6), .val (.int i0), .val (.int i1), .val (.int i2), .val (.int (0 : Int32)), .val (.int (1 : Int32)), .val (.int (2 : Int32)), .unset, .unset, .unset, .unset, .unset, .unset] [(.ref ex)])
  refine own_astore W1007 91 #[.val (.long q1), .second, .val (.long q2), .second, .val (.long q3), .second, .val (.int p4), .val (.int p5), .val (.int p6), .val (.int i0), .val (.int i1), .val (.int i2), .val (.int (0 : Int32)), .val (.int (1 : Int32)), .val (.int (2 : Int32)), .val (.ref ex), .unset, .unset, .unset, .unset, .unset] at_89 rfl rfl rfl ?_
  refine own_iconst W1007 (3 : Int32) 92 at_91 rfl rfl ?_
  refine own_newarray W1007 3 3 94 at_92 (wd6 hw) rfl (Nat.le_refl _) (by decide) (by decide) (by decide) rfl ?_
  intro T1008 h1008 et W1008 E1008 g_et o_et V_et
  have ne_ex_et : ex ≠ et := by rw [g_et]; exact Nat.ne_of_lt V_ex.lt
  have V_ex := V_ex.ext E1008
  show own_Go p e below C T1008 (mkF m 94 #[.val (.long q1), .second, .val (.long q2), .second, .val (.long q3), .second, .val (.int p4), .val (.int p5), .val (.int p6), .val (.int i0), .val (.int i1), .val (.int i2), .val (.int (0 : Int32)), .val (.int (1 : Int32)), .val (.int (2 : Int32)), .val (.ref ex), .unset, .unset, .unset, .unset, .unset] [(.ref et)])
  refine own_astore W1008 96 #[.val (.long q1), .second, .val (.long q2), .second, .val (.long q3), .second, .val (.int p4), .val (.int p5), .val (.int p6), .val (.int i0), .val (.int i1), .val (.int i2), .val (.int (0 : Int32)), .val (.int (1 : Int32)), .val (.int (2 : Int32)), .val (.ref ex), .val (.ref et), .unset, .unset, .unset, .unset] at_94 rfl rfl rfl ?_
  refine own_aload W1008 98 at_96 rfl rfl rfl ?_
  refine own_iload W1008 100 at_98 rfl rfl ?_
  refine own_iload W1008 102 at_100 rfl rfl ?_
  refine own_iastore W1008 0 103 at_102 V_ex (Or.inr o_ex) rfl (by decide) rfl ?_
  intro T1009 h1009 W1009 Wr1009 V_ex
  have V_et := V_et.other Wr1009 (Ne.symm ne_ex_et)
  show own_Go p e below C T1009 (mkF m 103 #[.val (.long q1), .second, .val (.long q2), .second, .val (.long q3), .second, .val (.int p4), .val (.int p5), .val (.int p6), .val (.int i0), .val (.int i1), .val (.int i2), .val (.int (0 : Int32)), .val (.int (1 : Int32)), .val (.int (2 : Int32)), .val (.ref ex), .val (.ref et), .unset, .unset, .unset, .unset] [])
  refine own_aload W1009 105 at_103 rfl rfl rfl ?_
  refine own_iload W1009 107 at_105 rfl rfl ?_
  refine own_lloadN W1009 108 at_107 rfl rfl ?_
  refine own_lastore W1009 0 109 at_108 V_et (Or.inr o_et) rfl (by decide) rfl ?_
  intro T1010 h1010 W1010 Wr1010 V_et
  have V_ex := V_ex.other Wr1010 ne_ex_et
  show own_Go p e below C T1010 (mkF m 109 #[.val (.long q1), .second, .val (.long q2), .second, .val (.long q3), .second, .val (.int p4), .val (.int p5), .val (.int p6), .val (.int i0), .val (.int i1), .val (.int i2), .val (.int (0 : Int32)), .val (.int (1 : Int32)), .val (.int (2 : Int32)), .val (.ref ex), .val (.ref et), .unset, .unset, .unset, .unset] [])
  refine own_aload W1010 111 at_109 rfl rfl rfl ?_
  refine own_iload W1010 113 at_111 rfl rfl ?_
  refine own_iload W1010 115 at_113 rfl rfl ?_
  refine own_iastore W1010 1 116 at_115 V_ex (Or.inr o_ex) rfl (by decide) rfl ?_
  intro T1011 h1011 W1011 Wr1011 V_ex
  have V_et := V_et.other Wr1011 (Ne.symm ne_ex_et)
  show own_Go p e below C T1011 (mkF m 116 #[.val (.long q1), .second, .val (.long q2), .second, .val (.long q3), .second, .val (.int p4), .val (.int p5), .val (.int p6), .val (.int i0), .val (.int i1), .val (.int i2), .val (.int (0 : Int32)), .val (.int (1 : Int32)), .val (.int (2 : Int32)), .val (.ref ex), .val (.ref et), .unset, .unset, .unset, .unset] [])
  refine own_aload W1011 118 at_116 rfl rfl rfl ?_
  refine own_iload W1011 120 at_118 rfl rfl ?_
  refine own_lloadN W1011 121 at_120 rfl rfl ?_
  refine own_lastore W1011 1 122 at_121 V_et (Or.inr o_et) rfl (by decide) rfl ?_
  intro T1012 h1012 W1012 Wr1012 V_et
  have V_ex := V_ex.other Wr1012 ne_ex_et
  show own_Go p e below C T1012 (mkF m 122 #[.val (.long q1), .second, .val (.long q2), .second, .val (.long q3), .second, .val (.int p4), .val (.int p5), .val (.int p6), .val (.int i0), .val (.int i1), .val (.int i2), .val (.int (0 : Int32)), .val (.int (1 : Int32)), .val (.int (2 : Int32)), .val (.ref ex), .val (.ref et), .unset, .unset, .unset, .unset] [])
  refine own_aload W1012 124 at_122 rfl rfl rfl ?_
  refine own_iload W1012 126 at_124 rfl rfl ?_
  refine own_iload W1012 128 at_126 rfl rfl ?_
  refine own_iastore W1012 2 129 at_128 V_ex (Or.inr o_ex) rfl (by decide) rfl ?_
  intro T1013 h1013 W1013 Wr1013 V_ex
  have V_et := V_et.other Wr1013 (Ne.symm ne_ex_et)
  show own_Go p e below C T1013 (mkF m 129 #[.val (.long q1), .second, .val (.long q2), .second, .val (.long q3), .second, .val (.int p4), .val (.int p5), .val (.int p6), .val (.int i0), .val (.int i1), .val (.int i2), .val (.int (0 : Int32)), .val (.int (1 : Int32)), .val (.int (2 : Int32)), .val (.ref ex), .val (.ref et), .unset, .unset, .unset, .unset] [])
  refine own_aload W1013 131 at_129 rfl rfl rfl ?_
  refine own_iload W1013 133 at_131 rfl rfl ?_
  refine own_lload W1013 135 at_133 rfl rfl ?_
  refine own_lastore W1013 2 136 at_135 V_et (Or.inr o_et) rfl (by decide) rfl ?_
  intro T1014 h1014 W1014 Wr1014 V_et
  have V_ex := V_ex.other Wr1014 ne_ex_et
  show own_Go p e below C T1014 (mkF m 136 #[.val (.long q1), .second, .val (.long q2), .second, .val (.long q3), .second, .val (.int p4), .val (.int p5), .val (.int p6), .val (.int i0), .val (.int i1), .val (.int i2), .val (.int (0 : Int32)), .val (.int (1 : Int32)), .val (.int (2 : Int32)), .val (.ref ex), .val (.ref et), .unset, .unset, .unset, .unset] [])
  refine own_new W1014 139 at_136 (wd7 hw) (wd8 hw) (wd9 hw) (by decide) (by decide) rfl ?_
  intro T1015 h1015 o W1015 E1015 g_o o_o X_o D_o
  have ne_ex_o : ex ≠ o := by rw [g_o]; exact Nat.ne_of_lt V_ex.lt
  have ne_et_o : et ≠ o := by rw [g_o]; exact Nat.ne_of_lt V_et.lt
  have V_ex := V_ex.ext E1015
  have V_et := V_et.ext E1015
  have F_inOrder_o : Fld Z h1015 o "com/example/queueloom/queueloom/engine/Arrivals" "inOrder" "Z" (.int (0 : Int32)) := D_o (Or.inl (wd17 hw)) (ty := .boolean) (by decide)
  have F_times_o : Fld Z h1015 o "com/example/queueloom/queueloom/engine/Arrivals" "times" "[J" .null := D_o (Or.inl (wd19 hw)) (ty := (.array .long)) (by decide)
  have F_indices_o : Fld Z h1015 o "com/example/queueloom/queueloom/engine/Arrivals" "indices" "[I" .null := D_o (Or.inl (wd21 hw)) (ty := (.array .int)) (by decide)
  have F_count_o : Fld Z h1015 o "com/example/queueloom/queueloom/engine/Arrivals" "count" "I" (.int (0 : Int32)) := D_o (Or.inl (wd28 hw)) (ty := .int) (by decide)
  have F_first_o : Fld Z h1015 o "com/example/queueloom/queueloom/engine/Arrivals" "first" "I" (.int (0 : Int32)) := D_o (Or.inl (wd35 hw)) (ty := .int) (by decide)
  have F_later_o : Fld Z h1015 o "com/example/queueloom/queueloom/engine/Arrivals" "later" "Lcom/example/queueloom/queueloom/engine/LongPairHeap;" .null := D_o (Or.inl (wd100 hw)) (ty := (.object "com/example/queueloom/queueloom/engine/LongPairHeap")) (by decide)
  show own_Go p e below C T1015 (mkF m 139 #[.val (.long q1), .second, .val (.long q2), .second, .val (.long q3), .second, .val (.int p4), .val (.int p5), .val (.int p6), .val (.int i0), .val (.int i1), .val (.int i2), .val (.int (0 : Int32)), .val (.int (1 : Int32)), .val (.int (2 : Int32)), .val (.ref ex), .val (.ref et), .unset, .unset, .unset, .unset] [(.ref o)])
  refine own_dup W1015 140 at_139 rfl rfl ?_
  refine own_iconst W1015 (3 : Int32) 141 at_140 rfl rfl ?_
  have hol := X_o.lt
  have hel := V_ex.lt
  have hdl := V_et.lt
  refine own_callN W1015 (A := [(.int (3 : Int32))]) (wt := 1) (pc' := 144) (st := [(.ref o)]) at_141 rfl (wd10 hw) (wd11 hw) (wd9 hw) (wd12 hw) (by decide) (own_m2 l Z a0 hw [] h1015 o X_o F_times_o F_indices_o F_count_o F_first_o F_inOrder_o F_later_o) (allS (Or.inr o_o) all0) rfl pd_2 rfl (Nat.le_of_eq rfl) (by decide) (by decide) (by decide) (by decide) rfl ?_
  rintro T1016 h1016 _ W1016 K1016 P1016 ⟨rfl, ⟨tt, ii, o_tt, o_ii, ne_t_i, Y_ii, F_times_o, F_indices_o, F_count_o, F_first_o, F_inOrder_o, F_later_o, V_tt, V_ii⟩⟩
  have V_ex := V_ex.keep K1016 (ninS ne_ex_o nin0)
  have V_et := V_et.keep K1016 (ninS ne_et_o nin0)
  have X_o := X_o.keep K1016
  show own_Go p e below C T1016 (mkF m 144 #[.val (.long q1), .second, .val (.long q2), .second, .val (.long q3), .second, .val (.int p4), .val (.int p5), .val (.int p6), .val (.int i0), .val (.int i1), .val (.int i2), .val (.int (0 : Int32)), .val (.int (1 : Int32)), .val (.int (2 : Int32)), .val (.ref ex), .val (.ref et), .unset, .unset, .unset, .unset] [(.ref o)])
  have ne_o_tt : o ≠ tt := Nat.ne_of_lt (Nat.lt_of_lt_of_le hol o_tt)
  have ne_o_ii : o ≠ ii := Nat.ne_of_lt (Nat.lt_of_lt_of_le hol o_ii)
  have ne_ex_tt : ex ≠ tt := Nat.ne_of_lt (Nat.lt_of_lt_of_le hel o_tt)
  have ne_ex_ii : ex ≠ ii := Nat.ne_of_lt (Nat.lt_of_lt_of_le hel o_ii)
  have ne_et_tt : et ≠ tt := Nat.ne_of_lt (Nat.lt_of_lt_of_le hdl o_tt)
  have ne_et_ii : et ≠ ii := Nat.ne_of_lt (Nat.lt_of_lt_of_le hdl o_ii)
  refine own_astore W1016 146 #[.val (.long q1), .second, .val (.long q2), .second, .val (.long q3), .second, .val (.int p4), .val (.int p5), .val (.int p6), .val (.int i0), .val (.int i1), .val (.int i2), .val (.int (0 : Int32)), .val (.int (1 : Int32)), .val (.int (2 : Int32)), .val (.ref ex), .val (.ref et), .val (.ref o), .unset, .unset, .unset] at_144 rfl rfl rfl ?_
  refine own_aload W1016 148 at_146 rfl rfl rfl ?_
  refine own_lloadN W1016 149 at_148 rfl rfl ?_
  refine own_iload W1016 151 at_149 rfl rfl ?_
  refine own_callV W1016 (A := [(.long q1), (.int i0)]) (wt := 0) (pc' := 154) (st := []) at_151 (wd22 hw) (wd23 hw) (own_nf W1016 (wd25 hw)) (wd25 hw) (wd24 hw) (wd9 hw) (wd26 hw) (by decide) X_o (own_m4 l Z a0 hw [] h1016 o q1 i0 tt ii (fun _ => 0) (fun _ => 0) 0 (0 : Int32) (1 : Int32) X_o F_times_o F_indices_o F_count_o F_first_o F_inOrder_o F_later_o V_tt V_ii ne_o_tt ne_o_ii ne_t_i rfl (by decide)) (allS (Or.inr o_o) (allS (Or.inr (Nat.le_trans (Nat.le_trans o_o (Nat.le_of_lt hol)) o_tt)) (allS (Or.inr (Nat.le_trans (Nat.le_trans o_o (Nat.le_of_lt hol)) o_ii)) all0))) rfl pd_8 rfl (Nat.le_of_eq rfl) (by decide) (by decide) (by decide) (by decide) rfl ?_
  rintro T1017 h1017 _ W1017 K1017 P1017 ⟨rfl, ⟨F_times_o, F_indices_o, F_count_o, F_first_o, F_inOrder_o, F_later_o, V_tt, V_ii⟩⟩
  have V_ex := V_ex.keep K1017 (ninS ne_ex_o (ninS ne_ex_tt (ninS ne_ex_ii nin0)))
  have V_et := V_et.keep K1017 (ninS ne_et_o (ninS ne_et_tt (ninS ne_et_ii nin0)))
  have X_o := X_o.keep K1017
  have Y_ii := Y_ii.keep K1017
  show own_Go p e below C T1017 (mkF m 154 #[.val (.long q1), .second, .val (.long q2), .second, .val (.long q3), .second, .val (.int p4), .val (.int p5), .val (.int p6), .val (.int i0), .val (.int i1), .val (.int i2), .val (.int (0 : Int32)), .val (.int (1 : Int32)), .val (.int (2 : Int32)), .val (.ref ex), .val (.ref et), .val (.ref o), .unset, .unset, .unset] [])
  have F_inOrder_o : Fld Z h1017 o "com/example/queueloom/queueloom/engine/Arrivals" "inOrder" "Z" (.int (((1 : Int32) &&& own_io (0 : Int32) q1 0) &&& 1)) := F_inOrder_o
  rw [own_io0 (1 : Int32) q1 0 rfl] at F_inOrder_o
  have F_count_o : Fld Z h1017 o "com/example/queueloom/queueloom/engine/Arrivals" "count" "I" (.int (1 : Int32)) := F_count_o
  refine own_aload W1017 156 at_154 rfl rfl rfl ?_
  refine own_lloadN W1017 157 at_156 rfl rfl ?_
  refine own_iload W1017 159 at_157 rfl rfl ?_
  refine own_callV W1017 (A := [(.long q2), (.int i1)]) (wt := 0) (pc' := 162) (st := []) at_159 (wd22 hw) (wd23 hw) (own_nf W1017 (wd25 hw)) (wd25 hw) (wd24 hw) (wd9 hw) (wd26 hw) (by decide) X_o (own_m4 l Z a0 hw [] h1017 o q2 i1 tt ii (own_upL (fun _ => 0) 0 q1) (own_upI (fun _ => 0) 0 i0) 1 (1 : Int32) (1 : Int32) X_o F_times_o F_indices_o F_count_o F_first_o F_inOrder_o F_later_o V_tt V_ii ne_o_tt ne_o_ii ne_t_i rfl (by decide)) (allS (Or.inr o_o) (allS (Or.inr (Nat.le_trans (Nat.le_trans o_o (Nat.le_of_lt hol)) o_tt)) (allS (Or.inr (Nat.le_trans (Nat.le_trans o_o (Nat.le_of_lt hol)) o_ii)) all0))) rfl pd_8 rfl (Nat.le_of_eq rfl) (by decide) (by decide) (by decide) (by decide) rfl ?_
  rintro T1018 h1018 _ W1018 K1018 P1018 ⟨rfl, ⟨F_times_o, F_indices_o, F_count_o, F_first_o, F_inOrder_o, F_later_o, V_tt, V_ii⟩⟩
  have V_ex := V_ex.keep K1018 (ninS ne_ex_o (ninS ne_ex_tt (ninS ne_ex_ii nin0)))
  have V_et := V_et.keep K1018 (ninS ne_et_o (ninS ne_et_tt (ninS ne_et_ii nin0)))
  have X_o := X_o.keep K1018
  have Y_ii := Y_ii.keep K1018
  show own_Go p e below C T1018 (mkF m 162 #[.val (.long q1), .second, .val (.long q2), .second, .val (.long q3), .second, .val (.int p4), .val (.int p5), .val (.int p6), .val (.int i0), .val (.int i1), .val (.int i2), .val (.int (0 : Int32)), .val (.int (1 : Int32)), .val (.int (2 : Int32)), .val (.ref ex), .val (.ref et), .val (.ref o), .unset, .unset, .unset] [])
  have F_inOrder_o : Fld Z h1018 o "com/example/queueloom/queueloom/engine/Arrivals" "inOrder" "Z" (.int (((1 : Int32) &&& own_io (1 : Int32) q2 q1) &&& 1)) := F_inOrder_o
  rw [own_ioN (1 : Int32) (1 : Int32) q2 q1 (by decide) c01 (by decide)] at F_inOrder_o
  have F_count_o : Fld Z h1018 o "com/example/queueloom/queueloom/engine/Arrivals" "count" "I" (.int (2 : Int32)) := F_count_o
  refine own_aload W1018 164 at_162 rfl rfl rfl ?_
  refine own_lload W1018 166 at_164 rfl rfl ?_
  refine own_iload W1018 168 at_166 rfl rfl ?_
  refine own_callV W1018 (A := [(.long q3), (.int i2)]) (wt := 0) (pc' := 171) (st := []) at_168 (wd22 hw) (wd23 hw) (own_nf W1018 (wd25 hw)) (wd25 hw) (wd24 hw) (wd9 hw) (wd26 hw) (by decide) X_o (own_m4 l Z a0 hw [] h1018 o q3 i2 tt ii (own_upL (own_upL (fun _ => 0) 0 q1) 1 q2) (own_upI (own_upI (fun _ => 0) 0 i0) 1 i1) 2 (2 : Int32) (1 : Int32) X_o F_times_o F_indices_o F_count_o F_first_o F_inOrder_o F_later_o V_tt V_ii ne_o_tt ne_o_ii ne_t_i rfl (by decide)) (allS (Or.inr o_o) (allS (Or.inr (Nat.le_trans (Nat.le_trans o_o (Nat.le_of_lt hol)) o_tt)) (allS (Or.inr (Nat.le_trans (Nat.le_trans o_o (Nat.le_of_lt hol)) o_ii)) all0))) rfl pd_8 rfl (Nat.le_of_eq rfl) (by decide) (by decide) (by decide) (by decide) rfl ?_
  rintro T1019 h1019 _ W1019 K1019 P1019 ⟨rfl, ⟨F_times_o, F_indices_o, F_count_o, F_first_o, F_inOrder_o, F_later_o, V_tt, V_ii⟩⟩
  have V_ex := V_ex.keep K1019 (ninS ne_ex_o (ninS ne_ex_tt (ninS ne_ex_ii nin0)))
  have V_et := V_et.keep K1019 (ninS ne_et_o (ninS ne_et_tt (ninS ne_et_ii nin0)))
  have X_o := X_o.keep K1019
  have Y_ii := Y_ii.keep K1019
  show own_Go p e below C T1019 (mkF m 171 #[.val (.long q1), .second, .val (.long q2), .second, .val (.long q3), .second, .val (.int p4), .val (.int p5), .val (.int p6), .val (.int i0), .val (.int i1), .val (.int i2), .val (.int (0 : Int32)), .val (.int (1 : Int32)), .val (.int (2 : Int32)), .val (.ref ex), .val (.ref et), .val (.ref o), .unset, .unset, .unset] [])
  have F_inOrder_o : Fld Z h1019 o "com/example/queueloom/queueloom/engine/Arrivals" "inOrder" "Z" (.int (((1 : Int32) &&& own_io (2 : Int32) q3 q2) &&& 1)) := F_inOrder_o
  rw [own_ioN (1 : Int32) (2 : Int32) q3 q2 (by decide) c12 (by decide)] at F_inOrder_o
  have F_count_o : Fld Z h1019 o "com/example/queueloom/queueloom/engine/Arrivals" "count" "I" (.int (3 : Int32)) := F_count_o
  refine own_aload W1019 173 at_171 rfl rfl rfl ?_
  refine own_callV W1019 (A := []) (wt := 0) (pc' := 176) (st := []) at_173 (wd29 hw) (wd30 hw) (own_nf W1019 (wd32 hw)) (wd32 hw) (wd31 hw) (wd9 hw) (wd33 hw) (by decide) X_o (own_m5 l Z a0 hw [] h1019 o tt ii (own_upL (own_upL (own_upL (fun _ => 0) 0 q1) 1 q2) 2 q3) (own_upI (own_upI (own_upI (fun _ => 0) 0 i0) 1 i1) 2 i2) (1 : Int32) F_times_o F_indices_o F_count_o F_first_o F_inOrder_o F_later_o V_tt V_ii Y_ii) all0 rfl pd_9 rfl (Nat.le_of_eq rfl) (by decide) (by decide) (by decide) (by decide) rfl ?_
  rintro T1020 h1020 _ W1020 K1020 P1020 ⟨bf, rfl, o_bf, V_bf⟩
  have V_ex := V_ex.keep K1020 nin0
  have V_et := V_et.keep K1020 nin0
  have X_o := X_o.keep K1020
  have Y_ii := Y_ii.keep K1020
  have F_times_o := F_times_o.keep K1020 nin0
  have F_indices_o := F_indices_o.keep K1020 nin0
  have F_count_o := F_count_o.keep K1020 nin0
  have F_first_o := F_first_o.keep K1020 nin0
  have F_inOrder_o := F_inOrder_o.keep K1020 nin0
  have F_later_o := F_later_o.keep K1020 nin0
  have V_tt := V_tt.keep K1020 nin0
  have V_ii := V_ii.keep K1020 nin0
  show own_Go p e below C T1020 (mkF m 176 #[.val (.long q1), .second, .val (.long q2), .second, .val (.long q3), .second, .val (.int p4), .val (.int p5), .val (.int p6), .val (.int i0), .val (.int i1), .val (.int i2), .val (.int (0 : Int32)), .val (.int (1 : Int32)), .val (.int (2 : Int32)), .val (.ref ex), .val (.ref et), .val (.ref o), .unset, .unset, .unset] [(.ref bf)])
  refine own_astore W1020 178 #[.val (.long q1), .second, .val (.long q2), .second, .val (.long q3), .second, .val (.int p4), .val (.int p5), .val (.int p6), .val (.int i0), .val (.int i1), .val (.int i2), .val (.int (0 : Int32)), .val (.int (1 : Int32)), .val (.int (2 : Int32)), .val (.ref ex), .val (.ref et), .val (.ref o), .val (.ref bf), .unset, .unset] at_176 rfl rfl rfl ?_
  refine own_aload W1020 180 at_178 rfl rfl rfl ?_
  refine own_arraylength W1020 (3 : Int32) 181 at_180 V_bf rfl rfl ?_
  refine own_iconst W1020 (3 : Int32) 182 at_181 rfl rfl ?_
  refine own_icmpN W1020 185 at_182 ((teq (rfl : (3 : Int32) = (3 : Int32))).2) rfl ?_
  refine own_aload W1020 187 at_185 rfl rfl rfl ?_
  refine own_iconst W1020 (0 : Int32) 188 at_187 rfl rfl ?_
  refine own_iaload W1020 0 i0 189 at_188 V_bf rfl (by decide) rfl rfl ?_
  refine own_iload W1020 191 at_189 rfl rfl ?_
  refine own_icmpN W1020 194 at_191 ((teq (rfl : i0 = i0)).2) rfl ?_
  refine own_aload W1020 196 at_194 rfl rfl rfl ?_
  refine own_iconst W1020 (1 : Int32) 197 at_196 rfl rfl ?_
  refine own_iaload W1020 1 i1 198 at_197 V_bf rfl (by decide) rfl rfl ?_
  refine own_iload W1020 200 at_198 rfl rfl ?_
  refine own_icmpN W1020 203 at_200 ((teq (rfl : i1 = i1)).2) rfl ?_
  refine own_aload W1020 205 at_203 rfl rfl rfl ?_
  refine own_iconst W1020 (2 : Int32) 206 at_205 rfl rfl ?_
  refine own_iaload W1020 2 i2 207 at_206 V_bf rfl (by decide) rfl rfl ?_
  refine own_iload W1020 209 at_207 rfl rfl ?_
  refine own_icmpN W1020 212 at_209 ((teq (rfl : i2 = i2)).2) rfl ?_
  refine own_iconst W1020 (1 : Int32) 213 at_212 rfl rfl ?_
  refine own_goto W1020 217 at_213 (by decide) (by decide) ?_
  refine own_istore W1020 219 #[.val (.long q1), .second, .val (.long q2), .second, .val (.long q3), .second, .val (.int p4), .val (.int p5), .val (.int p6), .val (.int i0), .val (.int i1), .val (.int i2), .val (.int (0 : Int32)), .val (.int (1 : Int32)), .val (.int (2 : Int32)), .val (.ref ex), .val (.ref et), .val (.ref o), .val (.ref bf), .val (.int (1 : Int32)), .unset] at_217 rfl rfl ?_
  refine own_aload W1020 221 at_219 rfl rfl rfl ?_
  refine own_callV W1020 (A := []) (wt := 0) (pc' := 224) (st := []) at_221 (wd49 hw) (wd50 hw) (own_nf W1020 (wd52 hw)) (wd52 hw) (wd51 hw) (wd9 hw) (wd53 hw) (by decide) X_o (own_m7a l Z a0 hw [] h1020 o tt ii (own_upL (own_upL (own_upL (fun _ => 0) 0 q1) 1 q2) 2 q3) (own_upI (own_upI (own_upI (fun _ => 0) 0 i0) 1 i1) 2 i2) (3 : Int32) (1 : Int32) F_times_o F_indices_o F_count_o F_first_o F_inOrder_o F_later_o V_tt V_ii (by decide)) all0 rfl pd_5 rfl (Nat.le_of_eq rfl) (by decide) (by decide) (by decide) (by decide) rfl ?_
  rintro T1021 h1021 _ W1021 K1021 P1021 ⟨rfl, _⟩
  rw [P1021 rfl rfl] at W1021
  show own_Go p e below C T1021 (mkF m 224 #[.val (.long q1), .second, .val (.long q2), .second, .val (.long q3), .second, .val (.int p4), .val (.int p5), .val (.int p6), .val (.int i0), .val (.int i1), .val (.int i2), .val (.int (0 : Int32)), .val (.int (1 : Int32)), .val (.int (2 : Int32)), .val (.ref ex), .val (.ref et), .val (.ref o), .val (.ref bf), .val (.int (1 : Int32)), .unset] [])
  have V_tt : own_A Z h1020 tt .long 3 (fun j => .long ((own_upL (own_upL (own_upL (fun _ => 0) 0 q1) 1 q2) 2 q3) j)) := V_tt
  have V_ii : own_A Z h1020 ii .int 3 (fun j => .int ((own_upI (own_upI (own_upI (fun _ => 0) 0 i0) 1 i1) 2 i2) j)) := V_ii
  obtain ⟨TA, IB, V_tt, V_ii, E0, E1, E2, G0, G1, G2⟩ : ∃ (TA : Nat → Int64) (IB : Nat → Int32), own_A Z h1020 tt .long 3 (fun j => .long (TA j)) ∧ own_A Z h1020 ii .int 3 (fun j => .int (IB j)) ∧ TA 0 = q1 ∧ TA 1 = q2 ∧ TA 2 = q3 ∧ IB 0 = i0 ∧ IB 1 = i1 ∧ IB 2 = i2 := ⟨_, _, V_tt, V_ii, ⟨rfl, rfl, rfl, rfl, rfl, rfl⟩⟩
  refine own_aload W1021 226 at_224 rfl rfl rfl ?_
  refine own_callV W1021 (A := []) (wt := 0) (pc' := 229) (st := []) at_226 (wd29 hw) (wd30 hw) (own_nf W1021 (wd32 hw)) (wd32 hw) (wd31 hw) (wd9 hw) (wd33 hw) (by decide) X_o (own_m5 l Z a0 hw [] h1020 o tt ii TA IB (1 : Int32) F_times_o F_indices_o F_count_o F_first_o F_inOrder_o F_later_o V_tt V_ii Y_ii) all0 rfl pd_9 rfl (Nat.le_of_eq rfl) (by decide) (by decide) (by decide) (by decide) rfl ?_
  rintro T1022 h1022 _ W1022 K1022 P1022 ⟨af, rfl, o_af, V_af⟩
  have V_ex := V_ex.keep K1022 nin0
  have V_et := V_et.keep K1022 nin0
  have X_o := X_o.keep K1022
  have Y_ii := Y_ii.keep K1022
  have F_times_o := F_times_o.keep K1022 nin0
  have F_indices_o := F_indices_o.keep K1022 nin0
  have F_count_o := F_count_o.keep K1022 nin0
  have F_first_o := F_first_o.keep K1022 nin0
  have F_inOrder_o := F_inOrder_o.keep K1022 nin0
  have F_later_o := F_later_o.keep K1022 nin0
  have V_tt := V_tt.keep K1022 nin0
  have V_ii := V_ii.keep K1022 nin0
  show own_Go p e below C T1022 (mkF m 229 #[.val (.long q1), .second, .val (.long q2), .second, .val (.long q3), .second, .val (.int p4), .val (.int p5), .val (.int p6), .val (.int i0), .val (.int i1), .val (.int i2), .val (.int (0 : Int32)), .val (.int (1 : Int32)), .val (.int (2 : Int32)), .val (.ref ex), .val (.ref et), .val (.ref o), .val (.ref bf), .val (.int (1 : Int32)), .unset] [(.ref af)])
  refine own_astore W1022 231 #[.val (.long q1), .second, .val (.long q2), .second, .val (.long q3), .second, .val (.int p4), .val (.int p5), .val (.int p6), .val (.int i0), .val (.int i1), .val (.int i2), .val (.int (0 : Int32)), .val (.int (1 : Int32)), .val (.int (2 : Int32)), .val (.ref ex), .val (.ref et), .val (.ref o), .val (.ref bf), .val (.int (1 : Int32)), .val (.ref af)] at_229 rfl rfl rfl ?_
  refine own_iload W1022 233 at_231 rfl rfl ?_
  refine own_ifN W1022 236 at_233 ((if0 _ _).trans (feq (by decide : ¬ ((1 : Int32) = (0 : Int32)))).1) rfl ?_
  refine own_aload W1022 238 at_236 rfl rfl rfl ?_
  refine own_arraylength W1022 (3 : Int32) 239 at_238 V_af rfl rfl ?_
  refine own_iconst W1022 (3 : Int32) 240 at_239 rfl rfl ?_
  refine own_icmpN W1022 243 at_240 ((teq (rfl : (3 : Int32) = (3 : Int32))).2) rfl ?_
  refine own_aload W1022 245 at_243 rfl rfl rfl ?_
  refine own_iconst W1022 (0 : Int32) 246 at_245 rfl rfl ?_
  refine own_iaload W1022 0 i0 247 at_246 V_af rfl (by decide) (congrArg Value.int G0) rfl ?_
  refine own_aload W1022 249 at_247 rfl rfl rfl ?_
  refine own_iconst W1022 (0 : Int32) 250 at_249 rfl rfl ?_
  refine own_iaload W1022 0 i0 251 at_250 V_ex rfl (by decide) rfl rfl ?_
  refine own_icmpN W1022 254 at_251 ((teq (rfl : i0 = i0)).2) rfl ?_
  refine own_aload W1022 256 at_254 rfl rfl rfl ?_
  refine own_iconst W1022 (1 : Int32) 257 at_256 rfl rfl ?_
  refine own_iaload W1022 1 i1 258 at_257 V_af rfl (by decide) (congrArg Value.int G1) rfl ?_
  refine own_aload W1022 260 at_258 rfl rfl rfl ?_
  refine own_iconst W1022 (1 : Int32) 261 at_260 rfl rfl ?_
  refine own_iaload W1022 1 i1 262 at_261 V_ex rfl (by decide) rfl rfl ?_
  refine own_icmpN W1022 265 at_262 ((teq (rfl : i1 = i1)).2) rfl ?_
  refine own_aload W1022 267 at_265 rfl rfl rfl ?_
  refine own_iconst W1022 (2 : Int32) 268 at_267 rfl rfl ?_
  refine own_iaload W1022 2 i2 269 at_268 V_af rfl (by decide) (congrArg Value.int G2) rfl ?_
  refine own_aload W1022 271 at_269 rfl rfl rfl ?_
  refine own_iconst W1022 (2 : Int32) 272 at_271 rfl rfl ?_
  refine own_iaload W1022 2 i2 273 at_272 V_ex rfl (by decide) rfl rfl ?_
  refine own_icmpN W1022 276 at_273 ((teq (rfl : i2 = i2)).2) rfl ?_
  refine own_iconst W1022 (1 : Int32) 277 at_276 rfl rfl ?_
  refine own_goto W1022 281 at_277 (by decide) (by decide) ?_
  refine own_istore W1022 283 #[.val (.long q1), .second, .val (.long q2), .second, .val (.long q3), .second, .val (.int p4), .val (.int p5), .val (.int p6), .val (.int i0), .val (.int i1), .val (.int i2), .val (.int (0 : Int32)), .val (.int (1 : Int32)), .val (.int (2 : Int32)), .val (.ref ex), .val (.ref et), .val (.ref o), .val (.ref bf), .val (.int (1 : Int32)), .val (.ref af)] at_281 rfl rfl ?_
  refine own_iload W1022 285 at_283 rfl rfl ?_
  refine own_ifN W1022 288 at_285 ((if0 _ _).trans (feq (by decide : ¬ ((1 : Int32) = (0 : Int32)))).1) rfl ?_
  refine own_aload W1022 290 at_288 rfl rfl rfl ?_
  refine own_callV W1022 (A := []) (wt := 0) (pc' := 293) (st := []) at_290 (wd90 hw) (wd91 hw) (own_nf W1022 (wd93 hw)) (wd93 hw) (wd92 hw) (wd9 hw) (wd94 hw) (by decide) X_o (own_m14 l Z a0 hw [] h1022 o tt ii TA IB (3 : Int32) (1 : Int32) X_o F_times_o F_indices_o F_count_o F_first_o F_inOrder_o F_later_o V_tt V_ii) all0 rfl pd_4 rfl (Nat.le_of_eq rfl) (by decide) (by decide) (by decide) (by decide) rfl ?_
  rintro T1023 h1023 _ W1023 K1023 P1023 rfl
  rw [P1023 rfl rfl] at W1023
  show own_Go p e below C T1023 (mkF m 293 #[.val (.long q1), .second, .val (.long q2), .second, .val (.long q3), .second, .val (.int p4), .val (.int p5), .val (.int p6), .val (.int i0), .val (.int i1), .val (.int i2), .val (.int (0 : Int32)), .val (.int (1 : Int32)), .val (.int (2 : Int32)), .val (.ref ex), .val (.ref et), .val (.ref o), .val (.ref bf), .val (.int (1 : Int32)), .val (.ref af)] [(.long (TA 0))])
  rw [show (TA 0) = q1 from E0]
  refine own_aload W1023 295 at_293 rfl rfl rfl ?_
  refine own_iconst W1023 (0 : Int32) 296 at_295 rfl rfl ?_
  refine own_laload W1023 0 q1 297 at_296 V_et rfl (by decide) rfl rfl ?_
  refine own_lcmp W1023 298 at_297 rfl ?_
  refine own_ifN W1023 301 at_298 ((if0 _ _).trans (teq ((lw_eq q1 q1).mpr (rfl : q1 = q1))).2) rfl ?_
  refine own_aload W1023 303 at_301 rfl rfl rfl ?_
  refine own_callV W1023 (A := []) (wt := 0) (pc' := 306) (st := []) at_303 (wd101 hw) (wd102 hw) (own_nf W1023 (wd104 hw)) (wd104 hw) (wd103 hw) (wd9 hw) (wd105 hw) (by decide) X_o (own_m16 l Z a0 hw [] h1022 o tt ii TA IB (3 : Int32) (1 : Int32) X_o F_times_o F_indices_o F_count_o F_first_o F_inOrder_o F_later_o V_tt V_ii) all0 rfl pd_10 rfl (Nat.le_of_eq rfl) (by decide) (by decide) (by decide) (by decide) rfl ?_
  rintro T1024 h1024 _ W1024 K1024 P1024 rfl
  rw [P1024 rfl rfl] at W1024
  show own_Go p e below C T1024 (mkF m 306 #[.val (.long q1), .second, .val (.long q2), .second, .val (.long q3), .second, .val (.int p4), .val (.int p5), .val (.int p6), .val (.int i0), .val (.int i1), .val (.int i2), .val (.int (0 : Int32)), .val (.int (1 : Int32)), .val (.int (2 : Int32)), .val (.ref ex), .val (.ref et), .val (.ref o), .val (.ref bf), .val (.int (1 : Int32)), .val (.ref af)] [(.int (IB 0))])
  rw [show (IB 0) = i0 from G0]
  refine own_aload W1024 308 at_306 rfl rfl rfl ?_
  refine own_iconst W1024 (0 : Int32) 309 at_308 rfl rfl ?_
  refine own_iaload W1024 0 i0 310 at_309 V_ex rfl (by decide) rfl rfl ?_
  refine own_icmpN W1024 313 at_310 ((teq (rfl : i0 = i0)).2) rfl ?_
  refine own_iconst W1024 (1 : Int32) 314 at_313 rfl rfl ?_
  refine own_goto W1024 318 at_314 (by decide) (by decide) ?_
  refine own_istore W1024 320 #[.val (.long q1), .second, .val (.long q2), .second, .val (.long q3), .second, .val (.int p4), .val (.int p5), .val (.int p6), .val (.int i0), .val (.int i1), .val (.int i2), .val (.int (0 : Int32)), .val (.int (1 : Int32)), .val (.int (2 : Int32)), .val (.ref ex), .val (.ref et), .val (.ref o), .val (.ref bf), .val (.int (1 : Int32)), .val (.ref af)] at_318 rfl rfl ?_
  refine own_iload W1024 322 at_320 rfl rfl ?_
  refine own_retZ (Q := fun v h => v = some (.int (1 : Int32))) W1024 hC (by decide) (by decide) at_322 ?_
  exact rfl
set_option maxRecDepth 65536 in
set_option maxHeartbeats 40000000 in
theorem own_m0 (l : Launch) (Z : State) (a0 : Array Value) (hw : ∀ d ∈ tables_1, d.before a0 Z = true) (wo : List Jvm.Cond) (h0 : Heap) (q1 : Int64) (q2 : Int64) (q3 : Int64) (p4 : Int32) (p5 : Int32) (p6 : Int32) :
    own_M l Z wo x code maxLocals ret room_1 [] #[(.long q1), (.long q2), (.long q3), (.int p4), (.int p5), (.int p6)] h0 (fun v h => v = some (.int (1 : Int32))) := by
  refine own_body (plainFor_of_name pn_0) (fun m => ef_m0 m q1 q2 q3 p4 p5 p6) ?_
  intro p e s m below meth c C hC T0 W0
  refine own_iload W0 2 at_0 rfl rfl ?_
  refine own_ldcInt W0 4 at_2 (wd0 hw) rfl ?_
  refine own_iand W0 5 at_4 rfl ?_
  refine own_istore W0 7 #[.val (.long q1), .second, .val (.long q2), .second, .val (.long q3), .second, .val (.int p4), .val (.int p5), .val (.int p6), .val (.int (p4 &&& (268435455 : Int32))), .unset, .unset, .unset, .unset, .unset, .unset, .unset, .unset, .unset, .unset, .unset] at_5 rfl rfl ?_
  have hr0 : 0 ≤ (p4 &&& (268435455 : Int32)).toInt ∧ (p4 &&& (268435455 : Int32)).toInt < 268435456 := by have h8 := own_m28 p4; omega
  generalize h_i0 : (p4 &&& (268435455 : Int32)) = i0 at hr0 ⊢
  show own_Go p e below C T0 (mkF m 7 #[.val (.long q1), .second, .val (.long q2), .second, .val (.long q3), .second, .val (.int p4), .val (.int p5), .val (.int p6), .val (.int i0), .unset, .unset, .unset, .unset, .unset, .unset, .unset, .unset, .unset, .unset, .unset] [])
  refine own_iload W0 9 at_7 rfl rfl ?_
  refine own_iconst W0 (1 : Int32) 10 at_9 rfl rfl ?_
  refine own_iadd W0 11 at_10 rfl ?_
  refine own_iload W0 13 at_11 rfl rfl ?_
  refine own_ldcInt W0 15 at_13 (wd0 hw) rfl ?_
  refine own_iand W0 16 at_15 rfl ?_
  refine own_iadd W0 17 at_16 rfl ?_
  refine own_istore W0 19 #[.val (.long q1), .second, .val (.long q2), .second, .val (.long q3), .second, .val (.int p4), .val (.int p5), .val (.int p6), .val (.int i0), .val (.int ((i0 + (1 : Int32)) + (p5 &&& (268435455 : Int32)))), .unset, .unset, .unset, .unset, .unset, .unset, .unset, .unset, .unset, .unset] at_17 rfl rfl ?_
  have hr1 := own_ilt i0 p5 (by omega)
  generalize h_i1 : ((i0 + (1 : Int32)) + (p5 &&& (268435455 : Int32))) = i1 at hr1 ⊢
  show own_Go p e below C T0 (mkF m 19 #[.val (.long q1), .second, .val (.long q2), .second, .val (.long q3), .second, .val (.int p4), .val (.int p5), .val (.int p6), .val (.int i0), .val (.int i1), .unset, .unset, .unset, .unset, .unset, .unset, .unset, .unset, .unset, .unset] [])
  refine own_iload W0 21 at_19 rfl rfl ?_
  refine own_iconst W0 (1 : Int32) 22 at_21 rfl rfl ?_
  refine own_iadd W0 23 at_22 rfl ?_
  refine own_iload W0 25 at_23 rfl rfl ?_
  refine own_ldcInt W0 27 at_25 (wd0 hw) rfl ?_
  refine own_iand W0 28 at_27 rfl ?_
  refine own_iadd W0 29 at_28 rfl ?_
  refine own_istore W0 31 #[.val (.long q1), .second, .val (.long q2), .second, .val (.long q3), .second, .val (.int p4), .val (.int p5), .val (.int p6), .val (.int i0), .val (.int i1), .val (.int ((i1 + (1 : Int32)) + (p6 &&& (268435455 : Int32)))), .unset, .unset, .unset, .unset, .unset, .unset, .unset, .unset, .unset] at_29 rfl rfl ?_
  have hr2 := own_ilt i1 p6 (by omega)
  generalize h_i2 : ((i1 + (1 : Int32)) + (p6 &&& (268435455 : Int32))) = i2 at hr2 ⊢
  show own_Go p e below C T0 (mkF m 31 #[.val (.long q1), .second, .val (.long q2), .second, .val (.long q3), .second, .val (.int p4), .val (.int p5), .val (.int p6), .val (.int i0), .val (.int i1), .val (.int i2), .unset, .unset, .unset, .unset, .unset, .unset, .unset, .unset, .unset] [])
  have hr01 : i0 < i1 := hr1.1
  have hr12 : i1 < i2 := hr2.1
  have hr02 : i0 < i2 := by rw [Int32.lt_iff_toInt_lt] at hr01 hr12 ⊢; omega
  by_cases c01 : q2 < q1
  · by_cases c02 : q3 < q1
    · by_cases c12 : q3 < q2
      · exact own_m0_ttt l Z a0 hw h0 q1 q2 q3 p4 p5 p6 p e s m below meth c C hC T0 h0 i0 i1 i2 W0 c01 c02 c12 hr01 hr12 hr02
      · exact own_m0_ttf l Z a0 hw h0 q1 q2 q3 p4 p5 p6 p e s m below meth c C hC T0 h0 i0 i1 i2 W0 c01 c02 c12 hr01 hr12 hr02
    · by_cases c12 : q3 < q2
      · exact (own_no1 c01 c02 c12).elim
      · exact own_m0_tff l Z a0 hw h0 q1 q2 q3 p4 p5 p6 p e s m below meth c C hC T0 h0 i0 i1 i2 W0 c01 c02 c12 hr01 hr12 hr02
  · by_cases c02 : q3 < q1
    · by_cases c12 : q3 < q2
      · exact own_m0_ftt l Z a0 hw h0 q1 q2 q3 p4 p5 p6 p e s m below meth c C hC T0 h0 i0 i1 i2 W0 c01 c02 c12 hr01 hr12 hr02
      · exact (own_no2 c01 c02 c12).elim
    · by_cases c12 : q3 < q2
      · exact own_m0_fft l Z a0 hw h0 q1 q2 q3 p4 p5 p6 p e s m below meth c C hC T0 h0 i0 i1 i2 W0 c01 c02 c12 hr01 hr12 hr02
      · exact own_m0_fff l Z a0 hw h0 q1 q2 q3 p4 p5 p6 p e s m below meth c C hC T0 h0 i0 i1 i2 W0 c01 c02 c12 hr01 hr12 hr02
set_option maxRecDepth 65536 in
set_option maxHeartbeats 40000000 in
theorem comes_1 {Post : Tables → Env → Array Value → State → Outcome → State → Prop} (hpost : ∀ tb e args s v u, (limb_1_1.after args s (.returned v) u = true ∧ limb_1_2.after args s (.returned v) u = true ∧ True) → FrameEnd s (.returned v) u (Jvm.fieldLocs frame_1_writes args s ++ Jvm.arrayLocs frame_1_arrays args s ++ Jvm.staticLocs frame_1_statics s) 32 192 → Post tb e args s (.returned v) u) :
    ArmFor flags0 classFile x code maxLocals ret World_1 tables_1 room_1 Calls_1 rest_1 Pre_1 Post := by
  intro l hfl _ _ p e ha hc hk s m args below hf hA hF happ hP
  obtain ⟨hcalls, hrest, hpre⟩ := hP
  obtain ⟨-, -, -, hnamed, -, -, -, hat⟩ := (Spec.applies_iff hf).mp happ
  obtain ⟨hg, hn⟩ := and_e (Cond.before_iff.mp (show (Jvm.Cond.and given_1 narrow_1).before args s = true from hpre))
  obtain ⟨g1, g2⟩ := and_e hg
  obtain ⟨g3, g4⟩ := and_e g2
  obtain ⟨g5, g6⟩ := and_e g4
  obtain ⟨g7, g8⟩ := and_e g6
  obtain ⟨g9, g10⟩ := and_e g8
  obtain ⟨g11, g12⟩ := and_e g10
  obtain ⟨w0, w1, w2, w3, w4, w5, rfl⟩ : ∃ w0 w1 w2 w3 w4 w5 : Value, args = #[w0, w1, w2, w3, w4, w5] := by
    have hs : args.size = 6 := by simpa [Cond.value, given_1] using g1
    obtain ⟨L⟩ := args
    match L, hs with
    | [w0, w1, w2, w3, w4, w5], _ => exact ⟨w0, w1, w2, w3, w4, w5, rfl⟩
  have hw := fun d (hd : d ∈ tables_1) => atoms_spec (ws := Jvm.Cond.code x code maxLocals ret :: tables_1) hat d (List.mem_cons_of_mem _ hd)
  have hfit : Fit s := fun {y c} hc i hi => by
    obtain ⟨ha, rfl⟩ := Array.getElem?_eq_some_iff.mp hc
    have q := List.all_eq_true.mp ((Array.all_eq_true_iff_forall_mem.mp hF) _ (Array.getElem_mem ha)) i (List.mem_range.mpr hi)
    simpa [Array.getElem?_eq_getElem hi] using q
  obtain ⟨i0, ei0⟩ := isL_v g3
  obtain rfl : w0 = (.long i0) := Option.some.inj ei0
  obtain ⟨i1, ei1⟩ := isL_v g5
  obtain rfl : w1 = (.long i1) := Option.some.inj ei1
  obtain ⟨i2, ei2⟩ := isL_v g7
  obtain rfl : w2 = (.long i2) := Option.some.inj ei2
  obtain ⟨i3, ei3⟩ := is_v g9
  obtain rfl : w3 = (.int i3) := Option.some.inj ei3
  obtain ⟨i4, ei4⟩ := is_v g11
  obtain rfl : w4 = (.int i4) := Option.some.inj ei4
  obtain ⟨i5, ei5⟩ := is_v g12
  obtain rfl : w5 = (.int i5) := Option.some.inj ei5
  obtain ⟨n, o, h1, h2, h3, _, L, rfl, ⟨N, -, -, rfl⟩, hq⟩ := own_m0 l s _ hw tables_1 s.heap i0 i1 i2 i3 i4 i5  p e ha hc hk s m _ below hf ((Spec.applies_iff_loose hf).mp happ).1 ⟨rfl, State.Warmed39.refl s, rfl⟩ trivial
  refine ⟨n, _, h1, h2, h3, hpost _ _ _ _ _ _ ⟨Cond.after_iff.mpr rfl, Cond.after_iff.mpr (eq_i res_at (Term.int_eval (1)) rfl), trivial⟩ ⟨hq.1, hq.2.1, (hq.2.2.sift fun y hy => Or.inr ((N y hy).resolve_left (fun q => nomatch q))).mono (by decide) (by decide)⟩⟩
theorem main_1_1 : Claimed_1_1 := comes_1 fun _ _ _ _ _ _ h hF => ⟨h.1, hF⟩
theorem main_1_2 : Claimed_1_2 := comes_1 fun _ _ _ _ _ _ h hF => ⟨h.2.1, hF⟩
end Jvm.Pilot.@@N@@
namespace Jvm.Pilot.@@N@@
open Jvm Jvm.ClassFile Sem Op Lib Jvm.Free Jvm.Stand Jvm.Pilot.@@N@@.Jvm.D
/-! MADE BY PROGRAM (witnessworld.py) out of the Statement's table words and the real class files: 13 classes; the members and pool entries that the words name. The judged class is class 1, her method 2. -/
namespace start1
open Jvm.ClassFile
def u (s : String) : CpInfo := .utf8 (stringToUtf16 s)
/-- a pool by its gaps: so many unusable entries, then the entry; so many at the end -/
def gap : Nat → List CpInfo → List CpInfo
  | 0, r => r
  | n + 1, r => .unusable :: gap n r
def poolList (es : List (Nat × CpInfo)) (last : Nat) : List CpInfo := es.foldr (fun e r => gap e.1 (e.2 :: r)) (gap last [])
def pool (es : List (Nat × CpInfo)) (last : Nat) : Array CpInfo := ⟨poolList es last⟩
def fileOf (pool : Array CpInfo) (this : Nat) (attrs : Array Attribute := #[]) (ms : Array MethodInfo := #[]) (fl : Nat := 33) (sup : Nat := 0) (ifs : Array Nat := #[]) (fds : Array FieldInfo := #[]) : ClassFile where
  minorVersion := 0
  majorVersion := 65
  constantPool := pool
  accessFlags := fl
  thisClass := this
  superClass := sup
  interfaces := ifs
  fields := fds
  methods := ms
  attributes := attrs
def plain (name : String) (sup : Option ClassId) : Class where
  name := name
  kind := .ordinary
  loader := none
  accessFlags := 33
  super := sup
  interfaces := #[]
  cf := none
  fields := #[]
  methods := #[]
  instanceTypes := #[]
  staticTypes := #[]
  resolved := #[]
  callSites := []
  init := .initialized
  statics := none
  mirror := none

def pool0 : Array CpInfo := pool [(5, u "<init>"), (0, u "()V"), (1, .class_ 10), (1, u "java/lang/Object"), (85, u "clone"), (0, u "()Ljava/lang/Object;")] 26

def k0c0 : Code := { maxStack := 0, maxLocals := 1, code := object_method_1_code, exceptionTable := #[], attributes := #[] }
def k0m0 : Method := { name := "<init>", desc := "()V", sig := { parameters := [], returnType := none }, accessFlags := 1, code := some k0c0 }
def k0m1 : Method := { name := "clone", desc := "()Ljava/lang/Object;", sig := { parameters := [], returnType := some (.object "java/lang/Object") }, accessFlags := 260, code := none }
/-- java/lang/Object -/
def k0 : Class := { plain "java/lang/Object" none with
  accessFlags := 33
  interfaces := #[]
  cf := some (fileOf pool0 8 #[] #[{ accessFlags := 1, nameIndex := 5, descriptorIndex := 6, attributes := #[] }, { accessFlags := 260, nameIndex := 96, descriptorIndex := 97, attributes := #[] }] 33 0 #[] #[])
  fields := #[]
  methods := #[k0m0, k0m1]
  instanceTypes := #[]
  staticTypes := #[]
  resolved := Array.replicate 124 none
  statics := none }

def pool1 : Array CpInfo := pool [(2, .class_ 4), (1, u "java/lang/Object"), (0, u "<init>"), (0, u "()V"), (0, .integer 268435455), (0, .methodref 9 10), (0, .class_ 11), (0, .nameAndType 12 13), (0, u "com/example/queueloom/queueloom/engine/ArrivalsAddPinLaw"), (0, u "cb"), (0, u "(JIJI)I"), (0, .class_ 15), (0, u "com/example/queueloom/queueloom/engine/Arrivals"), (0, .methodref 14 17), (0, .nameAndType 5 18), (0, u "(I)V"), (0, .methodref 14 20), (0, .nameAndType 21 22), (0, u "add"), (0, u "(JI)V"), (0, .methodref 14 24), (0, .nameAndType 25 26), (0, u "order"), (0, u "()[I"), (0, .methodref 14 28), (0, .nameAndType 29 6), (0, u "settle"), (0, .methodref 14 31), (0, .nameAndType 32 33), (0, u "firstTime"), (0, u "()J"), (0, .methodref 14 35), (0, .nameAndType 36 37), (0, u "firstIndex"), (0, u "()I"), (3, u "law"), (0, u "(JJJIII)Z")] 6

def k1m0 : Method := { name := "<init>", desc := "()V", sig := { parameters := [], returnType := none }, accessFlags := 1, code := none }
def k1c1 : Code := { maxStack := 4, maxLocals := 6, code := method_2_code, exceptionTable := #[], attributes := #[] }
def k1m1 : Method := { name := "cb", desc := "(JIJI)I", sig := { parameters := [.long, .int, .long, .int], returnType := some .int }, accessFlags := 10, code := some k1c1 }
def k1c2 : Code := { maxStack := 7, maxLocals := 21, code := code, exceptionTable := #[], attributes := #[] }
def k1m2 : Method := { name := "law", desc := "(JJJIII)Z", sig := { parameters := [.long, .long, .long, .int, .int, .int], returnType := some .boolean }, accessFlags := 9, code := some k1c2 }
/-- com/example/queueloom/queueloom/engine/ArrivalsAddPinLaw -/
def k1 : Class := { plain "com/example/queueloom/queueloom/engine/ArrivalsAddPinLaw" (some 0) with
  accessFlags := 49
  interfaces := #[]
  cf := some (fileOf pool1 9 #[] #[{ accessFlags := 1, nameIndex := 5, descriptorIndex := 6, attributes := #[] }, { accessFlags := 10, nameIndex := 12, descriptorIndex := 13, attributes := #[] }, { accessFlags := 9, nameIndex := 41, descriptorIndex := 42, attributes := #[] }] 49 2 #[] #[])
  fields := #[]
  methods := #[k1m0, k1m1, k1m2]
  instanceTypes := #[]
  staticTypes := #[]
  resolved := Array.replicate 49 none
  statics := none }

def pool2 : Array CpInfo := pool [(1, .methodref 2 3), (0, .class_ 4), (0, .nameAndType 5 6), (0, u "java/lang/Object"), (0, u "<init>"), (0, u "()V"), (0, .fieldref 8 9), (0, .class_ 10), (0, .nameAndType 11 12), (0, u "com/example/queueloom/queueloom/engine/Arrivals"), (0, u "inOrder"), (0, u "Z"), (0, .fieldref 8 14), (0, .nameAndType 15 16), (0, u "times"), (0, u "[J"), (0, .fieldref 8 18), (0, .nameAndType 19 20), (0, u "indices"), (0, u "[I"), (0, .fieldref 8 22), (0, .nameAndType 23 24), (0, u "count"), (0, u "I"), (0, .fieldref 8 26), (0, .nameAndType 27 24), (0, u "first"), (3, u "(JI)V"), (12, .class_ 45), (0, u "com/example/queueloom/queueloom/engine/LongPairHeap"), (0, .methodref 44 47), (0, .nameAndType 5 48), (0, u "(I)V"), (0, .methodref 44 50), (0, .nameAndType 51 52), (0, u "add"), (0, u "(JJ)V"), (0, .methodref 44 54), (0, .nameAndType 55 56), (0, u "firstKey"), (0, u "()J"), (0, .methodref 44 58), (0, .nameAndType 59 56), (0, u "firstValue"), (0, .methodref 44 61), (0, .nameAndType 62 6), (0, u "removeFirst"), (0, .methodref 64 65), (0, .class_ 66), (0, .nameAndType 67 68), (0, u "java/util/Arrays"), (0, u "copyOfRange"), (0, u "([III)[I"), (6, .fieldref 8 76), (0, .nameAndType 77 78), (0, u "later"), (0, u "Lcom/example/queueloom/queueloom/engine/LongPairHeap;"), (3, u "()Z"), (0, .methodref 8 84), (0, .nameAndType 85 82), (0, u "nextIsLater"), (6, u "settle"), (0, u "order"), (0, u "()[I"), (2, u "firstTime"), (0, u "firstIndex"), (0, u "()I")] 2

def k2c0 : Code := { maxStack := 2, maxLocals := 2, code := prog_53_method_1_code, exceptionTable := #[], attributes := #[] }
def k2m0 : Method := { name := "<init>", desc := "(I)V", sig := { parameters := [.int], returnType := none }, accessFlags := 0, code := some k2c0 }
def k2c1 : Code := { maxStack := 6, maxLocals := 4, code := prog_53_method_2_code, exceptionTable := #[], attributes := #[] }
def k2m1 : Method := { name := "add", desc := "(JI)V", sig := { parameters := [.long, .int], returnType := none }, accessFlags := 0, code := some k2c1 }
def k2c2 : Code := { maxStack := 5, maxLocals := 3, code := prog_53_method_4_code, exceptionTable := #[], attributes := #[] }
def k2m2 : Method := { name := "settle", desc := "()V", sig := { parameters := [], returnType := none }, accessFlags := 0, code := some k2c2 }
def k2c3 : Code := { maxStack := 3, maxLocals := 1, code := prog_53_method_5_code, exceptionTable := #[], attributes := #[] }
def k2m3 : Method := { name := "order", desc := "()[I", sig := { parameters := [], returnType := some (.array .int) }, accessFlags := 0, code := some k2c3 }
def k2c4 : Code := { maxStack := 2, maxLocals := 1, code := prog_53_method_9_code, exceptionTable := #[], attributes := #[] }
def k2m4 : Method := { name := "firstTime", desc := "()J", sig := { parameters := [], returnType := some .long }, accessFlags := 0, code := some k2c4 }
def k2c5 : Code := { maxStack := 2, maxLocals := 1, code := prog_53_method_10_code, exceptionTable := #[], attributes := #[] }
def k2m5 : Method := { name := "firstIndex", desc := "()I", sig := { parameters := [], returnType := some .int }, accessFlags := 0, code := some k2c5 }
def k2c6 : Code := { maxStack := 4, maxLocals := 3, code := prog_53_method_12_code, exceptionTable := #[], attributes := #[] }
def k2m6 : Method := { name := "nextIsLater", desc := "()Z", sig := { parameters := [], returnType := some .boolean }, accessFlags := 2, code := some k2c6 }
/-- com/example/queueloom/queueloom/engine/Arrivals -/
def k2 : Class := { plain "com/example/queueloom/queueloom/engine/Arrivals" (some 0) with
  accessFlags := 48
  interfaces := #[]
  cf := some (fileOf pool2 8 #[] #[{ accessFlags := 0, nameIndex := 5, descriptorIndex := 48, attributes := #[] }, { accessFlags := 0, nameIndex := 51, descriptorIndex := 31, attributes := #[] }, { accessFlags := 0, nameIndex := 92, descriptorIndex := 6, attributes := #[] }, { accessFlags := 0, nameIndex := 93, descriptorIndex := 94, attributes := #[] }, { accessFlags := 0, nameIndex := 97, descriptorIndex := 56, attributes := #[] }, { accessFlags := 0, nameIndex := 98, descriptorIndex := 99, attributes := #[] }, { accessFlags := 2, nameIndex := 85, descriptorIndex := 82, attributes := #[] }] 48 2 #[] #[{ accessFlags := 2, nameIndex := 15, descriptorIndex := 16, attributes := #[] }, { accessFlags := 2, nameIndex := 19, descriptorIndex := 20, attributes := #[] }, { accessFlags := 2, nameIndex := 23, descriptorIndex := 24, attributes := #[] }, { accessFlags := 2, nameIndex := 27, descriptorIndex := 24, attributes := #[] }, { accessFlags := 2, nameIndex := 11, descriptorIndex := 12, attributes := #[] }, { accessFlags := 2, nameIndex := 77, descriptorIndex := 78, attributes := #[] }])
  fields := #[{ name := "times", type := (.array .long), accessFlags := 2, slot := 0, constantValue := 0 }, { name := "indices", type := (.array .int), accessFlags := 2, slot := 1, constantValue := 0 }, { name := "count", type := .int, accessFlags := 2, slot := 2, constantValue := 0 }, { name := "first", type := .int, accessFlags := 2, slot := 3, constantValue := 0 }, { name := "inOrder", type := .boolean, accessFlags := 2, slot := 4, constantValue := 0 }, { name := "later", type := (.object "com/example/queueloom/queueloom/engine/LongPairHeap"), accessFlags := 2, slot := 5, constantValue := 0 }]
  methods := #[k2m0, k2m1, k2m2, k2m3, k2m4, k2m5, k2m6]
  instanceTypes := #[(.array .long), (.array .int), .int, .int, .boolean, (.object "com/example/queueloom/queueloom/engine/LongPairHeap")]
  staticTypes := #[]
  resolved := Array.replicate 102 none
  statics := none }

def pool3 : Array CpInfo := pool [(2, .class_ 4), (1, u "java/lang/Object"), (0, u "<init>"), (0, u "()V"), (7, .class_ 16), (1, u "java/util/Arrays"), (57, .class_ 76), (1, u "java/util/Arrays$NaturalOrder"), (32, u "()Ljava/lang/Object;"), (3, .class_ 115), (1, u "java/util/Arrays$LegacyMergeSort"), (1, u "Z"), (10, .nameAndType 129 109), (0, u "clone"), (9, u "copyOfRange"), (176, .methodref 317 128), (0, .class_ 318), (0, u "[I"), (35, u "([III)[I"), (20, .class_ 376), (0, u "java/util/Arrays$ArrayList"), (68, u "$assertionsDisabled"), (269, u "MIN_ARRAY_SORT_GRAN"), (0, u "I"), (2, u "INSERTIONSORT_THRESHOLD"), (255, .class_ 976), (0, u "java/util/Arrays$ArrayItr")] 52

def k3m0 : Method := { name := "<init>", desc := "()V", sig := { parameters := [], returnType := none }, accessFlags := 2, code := none }
def k3c1 : Code := { maxStack := 3, maxLocals := 3, code := jdk_65_method_136_code, exceptionTable := #[], attributes := #[] }
def k3m1 : Method := { name := "copyOfRange", desc := "([III)[I", sig := { parameters := [(.array .int), .int, .int], returnType := some (.array .int) }, accessFlags := 9, code := some k3c1 }
/-- java/util/Arrays -/
def k3 : Class := { plain "java/util/Arrays" (some 0) with
  accessFlags := 49
  interfaces := #[]
  cf := some (fileOf pool3 14 #[.nestMembers #[975, 375, 113, 74]] #[{ accessFlags := 2, nameIndex := 5, descriptorIndex := 6, attributes := #[] }, { accessFlags := 9, nameIndex := 139, descriptorIndex := 354, attributes := #[] }] 49 2 #[] #[{ accessFlags := 26, nameIndex := 715, descriptorIndex := 716, attributes := #[] }, { accessFlags := 26, nameIndex := 719, descriptorIndex := 716, attributes := #[] }, { accessFlags := 4120, nameIndex := 445, descriptorIndex := 117, attributes := #[] }])
  fields := #[{ name := "MIN_ARRAY_SORT_GRAN", type := .int, accessFlags := 26, slot := 0, constantValue := 0 }, { name := "INSERTIONSORT_THRESHOLD", type := .int, accessFlags := 26, slot := 1, constantValue := 0 }, { name := "$assertionsDisabled", type := .boolean, accessFlags := 4120, slot := 2, constantValue := 0 }]
  methods := #[k3m0, k3m1]
  instanceTypes := #[]
  staticTypes := #[.int, .int, .boolean]
  resolved := Array.replicate 1029 none
  statics := none }

def pool4 : Array CpInfo := pool [(1, .class_ 2), (0, u "java/lang/Cloneable"), (0, .class_ 4), (0, u "java/lang/Object")] 2

/-- java/lang/Cloneable -/
def k4 : Class := { plain "java/lang/Cloneable" (some 0) with
  accessFlags := 1537
  interfaces := #[]
  cf := some (fileOf pool4 1 #[] #[] 1537 3 #[] #[])
  fields := #[]
  methods := #[]
  instanceTypes := #[]
  staticTypes := #[]
  resolved := Array.replicate 7 none
  statics := none }

def pool5 : Array CpInfo := pool [(1, .methodref 2 3), (0, .class_ 4), (0, .nameAndType 5 6), (0, u "java/lang/Object"), (0, u "<init>"), (0, u "()V"), (8, .class_ 17), (1, u "com/example/queueloom/queueloom/engine/LongPairHeap"), (0, u "NO_ROOM"), (0, u "[J"), (0, .fieldref 15 21), (0, .nameAndType 22 19), (0, u "keys"), (0, .fieldref 15 24), (0, .nameAndType 25 19), (0, u "values"), (0, .fieldref 15 27), (0, .nameAndType 28 29), (0, u "size"), (0, u "I"), (14, u "add"), (0, u "(JJ)V"), (0, .methodref 15 47), (0, .nameAndType 48 49), (0, u "siftDown"), (0, u "([J[JII)V"), (0, u "(I)V"), (7, u "firstKey"), (0, u "()J"), (0, u "firstValue"), (1, u "removeFirst")] 3

def k5c0 : Code := { maxStack := 3, maxLocals := 2, code := prog_61_method_1_code, exceptionTable := #[], attributes := #[] }
def k5m0 : Method := { name := "<init>", desc := "(I)V", sig := { parameters := [.int], returnType := none }, accessFlags := 1, code := some k5c0 }
def k5c1 : Code := { maxStack := 2, maxLocals := 1, code := prog_61_method_4_code, exceptionTable := #[], attributes := #[] }
def k5m1 : Method := { name := "firstKey", desc := "()J", sig := { parameters := [], returnType := some .long }, accessFlags := 1, code := some k5c1 }
def k5c2 : Code := { maxStack := 2, maxLocals := 1, code := prog_61_method_5_code, exceptionTable := #[], attributes := #[] }
def k5m2 : Method := { name := "firstValue", desc := "()J", sig := { parameters := [], returnType := some .long }, accessFlags := 1, code := some k5c2 }
def k5c3 : Code := { maxStack := 5, maxLocals := 11, code := prog_61_method_6_code, exceptionTable := #[], attributes := #[] }
def k5m3 : Method := { name := "add", desc := "(JJ)V", sig := { parameters := [.long, .long], returnType := none }, accessFlags := 1, code := some k5c3 }
def k5c4 : Code := { maxStack := 4, maxLocals := 2, code := prog_61_method_8_code, exceptionTable := #[], attributes := #[] }
def k5m4 : Method := { name := "removeFirst", desc := "()V", sig := { parameters := [], returnType := none }, accessFlags := 1, code := some k5c4 }
def k5c5 : Code := { maxStack := 4, maxLocals := 14, code := prog_61_method_9_code, exceptionTable := #[], attributes := #[] }
def k5m5 : Method := { name := "siftDown", desc := "([J[JII)V", sig := { parameters := [(.array .long), (.array .long), .int, .int], returnType := none }, accessFlags := 9, code := some k5c5 }
/-- com/example/queueloom/queueloom/engine/LongPairHeap -/
def k5 : Class := { plain "com/example/queueloom/queueloom/engine/LongPairHeap" (some 0) with
  accessFlags := 49
  interfaces := #[]
  cf := some (fileOf pool5 15 #[] #[{ accessFlags := 1, nameIndex := 5, descriptorIndex := 50, attributes := #[] }, { accessFlags := 1, nameIndex := 58, descriptorIndex := 59, attributes := #[] }, { accessFlags := 1, nameIndex := 60, descriptorIndex := 59, attributes := #[] }, { accessFlags := 1, nameIndex := 44, descriptorIndex := 45, attributes := #[] }, { accessFlags := 1, nameIndex := 62, descriptorIndex := 6, attributes := #[] }, { accessFlags := 9, nameIndex := 48, descriptorIndex := 49, attributes := #[] }] 49 2 #[] #[{ accessFlags := 26, nameIndex := 18, descriptorIndex := 19, attributes := #[] }, { accessFlags := 2, nameIndex := 22, descriptorIndex := 19, attributes := #[] }, { accessFlags := 2, nameIndex := 25, descriptorIndex := 19, attributes := #[] }, { accessFlags := 2, nameIndex := 28, descriptorIndex := 29, attributes := #[] }])
  fields := #[{ name := "NO_ROOM", type := (.array .long), accessFlags := 26, slot := 0, constantValue := 0 }, { name := "keys", type := (.array .long), accessFlags := 2, slot := 0, constantValue := 0 }, { name := "values", type := (.array .long), accessFlags := 2, slot := 1, constantValue := 0 }, { name := "size", type := .int, accessFlags := 2, slot := 2, constantValue := 0 }]
  methods := #[k5m0, k5m1, k5m2, k5m3, k5m4, k5m5]
  instanceTypes := #[(.array .long), (.array .long), .int]
  staticTypes := #[(.array .long)]
  resolved := Array.replicate 66 none
  statics := none }

def pool6 : Array CpInfo := pool [(1, u "java/io/Serializable"), (0, .class_ 1), (0, u "java/lang/Object"), (0, .class_ 3)] 3

/-- java/io/Serializable -/
def k6 : Class := { plain "java/io/Serializable" (some 0) with
  accessFlags := 1537
  interfaces := #[]
  cf := some (fileOf pool6 2 #[] #[] 1537 4 #[] #[])
  fields := #[]
  methods := #[]
  instanceTypes := #[]
  staticTypes := #[]
  resolved := Array.replicate 8 none
  statics := none }

/-- the primitive byte -/
def k7 : Class := { plain "byte" none with kind := .primitive 'B', accessFlags := 0x411 }
/-- [B -/
def k8 : Class := { plain "[B" (some 0) with kind := .array 7 .byte, interfaces := #[4, 6], accessFlags := 1041 }

/-- the primitive int -/
def k9 : Class := { plain "int" none with kind := .primitive 'I', accessFlags := 0x411 }
/-- [I -/
def k10 : Class := { plain "[I" (some 0) with kind := .array 9 .int, interfaces := #[4, 6], accessFlags := 1041 }

/-- the primitive long -/
def k11 : Class := { plain "long" none with kind := .primitive 'J', accessFlags := 0x411 }
/-- [J -/
def k12 : Class := { plain "[J" (some 0) with kind := .array 11 .long, interfaces := #[4, 6], accessFlags := 1041 }

def heap : Heap := #[]
def classes : Array Class := #[k0, k1, k2, k3, k4, k5, k6, k7, k8, k9, k10, k11, k12]
def interned : List (Array UInt16 × Addr) := []
def slotsUsed : Nat := 0
def theMethod : MethodId := ⟨1, 2⟩
def args0 : Array Value := #[.long 5, .long 3, .long 4, .int 1, .int 2, .int 3]
def aboutOver (below : List Frame) : State where
  vm := { classes := classes, interned := interned.toArray }
  heap := heap
  slotsUsed := slotsUsed
  threads := #[{ frames := .invoking theMethod args0 :: below }]
def below0 : List Frame := [.native { method := ⟨0, 0⟩, args := #[] }]
def about1 : State := aboutOver below0
def p0 : Program := .bare "" "" ""
def e0 : Env := launch0.env 0 0 0
theorem w_frames : about1.frames = Frame.invoking theMethod args0 :: below0 := rfl
set_option maxRecDepth 65536 in
theorem w_args : argsFit about1.vm theMethod args0 = true := by decide +kernel
set_option maxRecDepth 65536 in
theorem w_heap : heapFits about1 = true := by decide +kernel
set_option maxRecDepth 65536 in
theorem w_runnable : about1.curStatus? = some .runnable := by decide +kernel
set_option maxRecDepth 65536 in
theorem w_alone : about1.alone = true := by decide +kernel
set_option maxRecDepth 65536 in
theorem w_named : about1.methodNamed? x = some theMethod := by decide +kernel
set_option maxRecDepth 65536 in
theorem w_hears : about1.hears theMethod below0 = true := by decide +kernel
set_option maxRecDepth 65536 in
theorem w_ripe : about1.ripe theMethod args0 below0 = true := by decide +kernel
theorem w_running : about1.status = .running := rfl
set_option maxRecDepth 65536 in
theorem w_room : about1.hasRoom e0.platform room_1 = true :=
  launch0.hasRoom_least _ room_1 (by decide +kernel) (by decide +kernel) (by decide +kernel) (by decide +kernel) (by decide +kernel) (by decide +kernel)
theorem allAtoms_all (ts : List Jvm.Cond) (a : Array Jvm.Value) (st : Jvm.State) : (allAtoms ts).before a st = ts.all (fun c => c.before a st) := by
  induction ts with
  | nil => rfl
  | cons c t ih =>
    show (Jvm.Cond.and c (allAtoms t)).before a st = _
    rw [Jvm.Cond.before_and, ih, List.all_cons]
def words1 : List Jvm.Cond := Jvm.Cond.code x code maxLocals ret :: tables_1
/-- a 'code' word, met by the world's own term for the bytes: nothing is compared byte by byte -/
theorem code_word {y : MethodName} {bytes : ByteArray} {mx : Nat} {rt : Option FieldType} {a : Array Value} {s : State} {m : MethodId} {meth : Method} {c : Code} (h1 : s.methodNamed? y = some m) (h2 : s.vm.method? m = some meth) (h3 : meth.code = some c) (h4 : c.code = bytes)
    (h5 : (c.maxLocals == mx && c.exceptionTable.isEmpty && decide (c.maxStack ≤ mostOperands) && decide (meth.sig.returnType = rt) && !meth.locks && decide (parseMethodDescriptor y.desc = some meth.sig)) = true) : (Jvm.Cond.code y bytes mx rt).before a s = true := by
  simp only [Bool.and_eq_true, beq_iff_eq, Bool.not_eq_true', decide_eq_true_eq] at h5
  obtain ⟨⟨⟨⟨⟨g1, g2⟩, g3⟩, g4⟩, g5⟩, g6⟩ := h5
  simp [Cond.before, Cond.holds, Cond.value, h1, h2, h3, h4, g1, g2, g3, g4, g5, g6]
def isCode : Jvm.Cond → Bool
  | .code _ _ _ _ => true
  | _ => false
theorem all_split {L : List Jvm.Cond} {P : Jvm.Cond → Bool} (h1 : L.all (fun c => isCode c || P c) = true) (h2 : ∀ c ∈ L.filter isCode, P c = true) : L.all P = true := by
  refine List.all_eq_true.mpr fun c hc => ?_
  have h := List.all_eq_true.mp h1 c hc
  rcases Bool.eq_false_or_eq_true (isCode c) with hi | hi
  · exact h2 c (List.mem_filter.mpr ⟨hc, hi⟩)
  · simpa [hi] using h
set_option maxRecDepth 65536 in
theorem w_c0 : (Jvm.Cond.code x code maxLocals ret).before args0 about1 = true := code_word (m := ⟨1, 2⟩) (meth := k1m2) (c := k1c2) (by decide +kernel) rfl rfl rfl (by decide +kernel)
set_option maxRecDepth 65536 in
theorem w_c1 : (Jvm.Cond.code ({ cls := "com/example/queueloom/queueloom/engine/ArrivalsAddPinLaw", name := "cb", desc := "(JIJI)I" } : Jvm.MethodName) method_2_code (6 : Nat) (Option.some Jvm.ClassFile.FieldType.int)).before args0 about1 = true := code_word (m := ⟨1, 1⟩) (meth := k1m1) (c := k1c1) (by decide +kernel) rfl rfl rfl (by decide +kernel)
set_option maxRecDepth 65536 in
theorem w_c2 : (Jvm.Cond.code ({ cls := "com/example/queueloom/queueloom/engine/Arrivals", name := "<init>", desc := "(I)V" } : Jvm.MethodName) prog_53_method_1_code (2 : Nat) (Option.none : Option Jvm.ClassFile.FieldType)).before args0 about1 = true := code_word (m := ⟨2, 0⟩) (meth := k2m0) (c := k2c0) (by decide +kernel) rfl rfl rfl (by decide +kernel)
set_option maxRecDepth 65536 in
theorem w_c3 : (Jvm.Cond.code ({ cls := "java/lang/Object", name := "<init>", desc := "()V" } : Jvm.MethodName) object_method_1_code (1 : Nat) (Option.none : Option Jvm.ClassFile.FieldType)).before args0 about1 = true := code_word (m := ⟨0, 0⟩) (meth := k0m0) (c := k0c0) (by decide +kernel) rfl rfl rfl (by decide +kernel)
set_option maxRecDepth 65536 in
theorem w_c4 : (Jvm.Cond.code ({ cls := "com/example/queueloom/queueloom/engine/Arrivals", name := "add", desc := "(JI)V" } : Jvm.MethodName) prog_53_method_2_code (4 : Nat) (Option.none : Option Jvm.ClassFile.FieldType)).before args0 about1 = true := code_word (m := ⟨2, 1⟩) (meth := k2m1) (c := k2c1) (by decide +kernel) rfl rfl rfl (by decide +kernel)
set_option maxRecDepth 65536 in
theorem w_c5 : (Jvm.Cond.code ({ cls := "com/example/queueloom/queueloom/engine/Arrivals", name := "order", desc := "()[I" } : Jvm.MethodName) prog_53_method_5_code (1 : Nat) (Option.some (Jvm.ClassFile.FieldType.array Jvm.ClassFile.FieldType.int))).before args0 about1 = true := code_word (m := ⟨2, 3⟩) (meth := k2m3) (c := k2c3) (by decide +kernel) rfl rfl rfl (by decide +kernel)
set_option maxRecDepth 65536 in
theorem w_c6 : (Jvm.Cond.code ({ cls := "java/util/Arrays", name := "copyOfRange", desc := "([III)[I" } : Jvm.MethodName) jdk_65_method_136_code (3 : Nat) (Option.some (Jvm.ClassFile.FieldType.array Jvm.ClassFile.FieldType.int))).before args0 about1 = true := code_word (m := ⟨3, 1⟩) (meth := k3m1) (c := k3c1) (by decide +kernel) rfl rfl rfl (by decide +kernel)
set_option maxRecDepth 65536 in
theorem w_c7 : (Jvm.Cond.code ({ cls := "com/example/queueloom/queueloom/engine/Arrivals", name := "settle", desc := "()V" } : Jvm.MethodName) prog_53_method_4_code (3 : Nat) (Option.none : Option Jvm.ClassFile.FieldType)).before args0 about1 = true := code_word (m := ⟨2, 2⟩) (meth := k2m2) (c := k2c2) (by decide +kernel) rfl rfl rfl (by decide +kernel)
set_option maxRecDepth 65536 in
theorem w_c8 : (Jvm.Cond.code ({ cls := "com/example/queueloom/queueloom/engine/LongPairHeap", name := "<init>", desc := "(I)V" } : Jvm.MethodName) prog_61_method_1_code (2 : Nat) (Option.none : Option Jvm.ClassFile.FieldType)).before args0 about1 = true := code_word (m := ⟨5, 0⟩) (meth := k5m0) (c := k5c0) (by decide +kernel) rfl rfl rfl (by decide +kernel)
set_option maxRecDepth 65536 in
theorem w_c9 : (Jvm.Cond.code ({ cls := "com/example/queueloom/queueloom/engine/LongPairHeap", name := "add", desc := "(JJ)V" } : Jvm.MethodName) prog_61_method_6_code (11 : Nat) (Option.none : Option Jvm.ClassFile.FieldType)).before args0 about1 = true := code_word (m := ⟨5, 3⟩) (meth := k5m3) (c := k5c3) (by decide +kernel) rfl rfl rfl (by decide +kernel)
set_option maxRecDepth 65536 in
theorem w_c10 : (Jvm.Cond.code ({ cls := "com/example/queueloom/queueloom/engine/LongPairHeap", name := "firstKey", desc := "()J" } : Jvm.MethodName) prog_61_method_4_code (1 : Nat) (Option.some Jvm.ClassFile.FieldType.long)).before args0 about1 = true := code_word (m := ⟨5, 1⟩) (meth := k5m1) (c := k5c1) (by decide +kernel) rfl rfl rfl (by decide +kernel)
set_option maxRecDepth 65536 in
theorem w_c11 : (Jvm.Cond.code ({ cls := "com/example/queueloom/queueloom/engine/LongPairHeap", name := "firstValue", desc := "()J" } : Jvm.MethodName) prog_61_method_5_code (1 : Nat) (Option.some Jvm.ClassFile.FieldType.long)).before args0 about1 = true := code_word (m := ⟨5, 2⟩) (meth := k5m2) (c := k5c2) (by decide +kernel) rfl rfl rfl (by decide +kernel)
set_option maxRecDepth 65536 in
theorem w_c12 : (Jvm.Cond.code ({ cls := "com/example/queueloom/queueloom/engine/LongPairHeap", name := "removeFirst", desc := "()V" } : Jvm.MethodName) prog_61_method_8_code (2 : Nat) (Option.none : Option Jvm.ClassFile.FieldType)).before args0 about1 = true := code_word (m := ⟨5, 4⟩) (meth := k5m4) (c := k5c4) (by decide +kernel) rfl rfl rfl (by decide +kernel)
set_option maxRecDepth 65536 in
theorem w_c13 : (Jvm.Cond.code ({ cls := "com/example/queueloom/queueloom/engine/LongPairHeap", name := "siftDown", desc := "([J[JII)V" } : Jvm.MethodName) prog_61_method_9_code (14 : Nat) (Option.none : Option Jvm.ClassFile.FieldType)).before args0 about1 = true := code_word (m := ⟨5, 5⟩) (meth := k5m5) (c := k5c5) (by decide +kernel) rfl rfl rfl (by decide +kernel)
set_option maxRecDepth 65536 in
theorem w_c14 : (Jvm.Cond.code ({ cls := "com/example/queueloom/queueloom/engine/Arrivals", name := "firstTime", desc := "()J" } : Jvm.MethodName) prog_53_method_9_code (1 : Nat) (Option.some Jvm.ClassFile.FieldType.long)).before args0 about1 = true := code_word (m := ⟨2, 4⟩) (meth := k2m4) (c := k2c4) (by decide +kernel) rfl rfl rfl (by decide +kernel)
set_option maxRecDepth 65536 in
theorem w_c15 : (Jvm.Cond.code ({ cls := "com/example/queueloom/queueloom/engine/Arrivals", name := "nextIsLater", desc := "()Z" } : Jvm.MethodName) prog_53_method_12_code (3 : Nat) (Option.some Jvm.ClassFile.FieldType.boolean)).before args0 about1 = true := code_word (m := ⟨2, 6⟩) (meth := k2m6) (c := k2c6) (by decide +kernel) rfl rfl rfl (by decide +kernel)
set_option maxRecDepth 65536 in
theorem w_c16 : (Jvm.Cond.code ({ cls := "com/example/queueloom/queueloom/engine/Arrivals", name := "firstIndex", desc := "()I" } : Jvm.MethodName) prog_53_method_10_code (1 : Nat) (Option.some Jvm.ClassFile.FieldType.int)).before args0 about1 = true := code_word (m := ⟨2, 5⟩) (meth := k2m5) (c := k2c5) (by decide +kernel) rfl rfl rfl (by decide +kernel)
def codes1 : List Jvm.Cond := [Jvm.Cond.code x code maxLocals ret, Jvm.Cond.code ({ cls := "com/example/queueloom/queueloom/engine/ArrivalsAddPinLaw", name := "cb", desc := "(JIJI)I" } : Jvm.MethodName) method_2_code (6 : Nat) (Option.some Jvm.ClassFile.FieldType.int), Jvm.Cond.code ({ cls := "com/example/queueloom/queueloom/engine/Arrivals", name := "<init>", desc := "(I)V" } : Jvm.MethodName) prog_53_method_1_code (2 : Nat) (Option.none : Option Jvm.ClassFile.FieldType), Jvm.Cond.code ({ cls := "java/lang/Object", name := "<init>", desc := "()V" } : Jvm.MethodName) object_method_1_code (1 : Nat) (Option.none : Option Jvm.ClassFile.FieldType), Jvm.Cond.code ({ cls := "com/example/queueloom/queueloom/engine/Arrivals", name := "add", desc := "(JI)V" } : Jvm.MethodName) prog_53_method_2_code (4 : Nat) (Option.none : Option Jvm.ClassFile.FieldType), Jvm.Cond.code ({ cls := "com/example/queueloom/queueloom/engine/Arrivals", name := "order", desc := "()[I" } : Jvm.MethodName) prog_53_method_5_code (1 : Nat) (Option.some (Jvm.ClassFile.FieldType.array Jvm.ClassFile.FieldType.int)), Jvm.Cond.code ({ cls := "java/util/Arrays", name := "copyOfRange", desc := "([III)[I" } : Jvm.MethodName) jdk_65_method_136_code (3 : Nat) (Option.some (Jvm.ClassFile.FieldType.array Jvm.ClassFile.FieldType.int)), Jvm.Cond.code ({ cls := "com/example/queueloom/queueloom/engine/Arrivals", name := "settle", desc := "()V" } : Jvm.MethodName) prog_53_method_4_code (3 : Nat) (Option.none : Option Jvm.ClassFile.FieldType), Jvm.Cond.code ({ cls := "com/example/queueloom/queueloom/engine/LongPairHeap", name := "<init>", desc := "(I)V" } : Jvm.MethodName) prog_61_method_1_code (2 : Nat) (Option.none : Option Jvm.ClassFile.FieldType), Jvm.Cond.code ({ cls := "com/example/queueloom/queueloom/engine/LongPairHeap", name := "add", desc := "(JJ)V" } : Jvm.MethodName) prog_61_method_6_code (11 : Nat) (Option.none : Option Jvm.ClassFile.FieldType), Jvm.Cond.code ({ cls := "com/example/queueloom/queueloom/engine/LongPairHeap", name := "firstKey", desc := "()J" } : Jvm.MethodName) prog_61_method_4_code (1 : Nat) (Option.some Jvm.ClassFile.FieldType.long), Jvm.Cond.code ({ cls := "com/example/queueloom/queueloom/engine/LongPairHeap", name := "firstValue", desc := "()J" } : Jvm.MethodName) prog_61_method_5_code (1 : Nat) (Option.some Jvm.ClassFile.FieldType.long), Jvm.Cond.code ({ cls := "com/example/queueloom/queueloom/engine/LongPairHeap", name := "removeFirst", desc := "()V" } : Jvm.MethodName) prog_61_method_8_code (2 : Nat) (Option.none : Option Jvm.ClassFile.FieldType), Jvm.Cond.code ({ cls := "com/example/queueloom/queueloom/engine/LongPairHeap", name := "siftDown", desc := "([J[JII)V" } : Jvm.MethodName) prog_61_method_9_code (14 : Nat) (Option.none : Option Jvm.ClassFile.FieldType), Jvm.Cond.code ({ cls := "com/example/queueloom/queueloom/engine/Arrivals", name := "firstTime", desc := "()J" } : Jvm.MethodName) prog_53_method_9_code (1 : Nat) (Option.some Jvm.ClassFile.FieldType.long), Jvm.Cond.code ({ cls := "com/example/queueloom/queueloom/engine/Arrivals", name := "nextIsLater", desc := "()Z" } : Jvm.MethodName) prog_53_method_12_code (3 : Nat) (Option.some Jvm.ClassFile.FieldType.boolean), Jvm.Cond.code ({ cls := "com/example/queueloom/queueloom/engine/Arrivals", name := "firstIndex", desc := "()I" } : Jvm.MethodName) prog_53_method_10_code (1 : Nat) (Option.some Jvm.ClassFile.FieldType.int)]
set_option maxRecDepth 65536 in
theorem codes_eq : words1.filter isCode = codes1 := rfl
theorem w_codes : ∀ c ∈ words1.filter isCode, c.before args0 about1 = true := by
  rw [codes_eq]
  intro c hc
  simp only [codes1, List.mem_cons, List.not_mem_nil, or_false] at hc
  rcases hc with rfl | rfl | rfl | rfl | rfl | rfl | rfl | rfl | rfl | rfl | rfl | rfl | rfl | rfl | rfl | rfl | rfl
  · exact w_c0
  · exact w_c1
  · exact w_c2
  · exact w_c3
  · exact w_c4
  · exact w_c5
  · exact w_c6
  · exact w_c7
  · exact w_c8
  · exact w_c9
  · exact w_c10
  · exact w_c11
  · exact w_c12
  · exact w_c13
  · exact w_c14
  · exact w_c15
  · exact w_c16
set_option maxRecDepth 65536 in
theorem w_t1 : (words1.take 24).all (fun c => isCode c || c.before args0 about1) = true := by decide +kernel
set_option maxRecDepth 65536 in
theorem w_t2 : ((words1.drop 24).take 24).all (fun c => isCode c || c.before args0 about1) = true := by decide +kernel
set_option maxRecDepth 65536 in
theorem w_t3 : (((words1.drop 24).drop 24).take 24).all (fun c => isCode c || c.before args0 about1) = true := by decide +kernel
set_option maxRecDepth 65536 in
theorem w_t4 : ((((words1.drop 24).drop 24).drop 24).take 24).all (fun c => isCode c || c.before args0 about1) = true := by decide +kernel
set_option maxRecDepth 65536 in
theorem w_t5 : ((((words1.drop 24).drop 24).drop 24).drop 24).all (fun c => isCode c || c.before args0 about1) = true := by decide +kernel
theorem w_tables : (allAtoms (Jvm.Cond.code x code maxLocals ret :: tables_1)).before args0 about1 = true := by
  rw [allAtoms_all]
  show words1.all (fun c => c.before args0 about1) = true
  refine all_split ?_ w_codes
  rw [← List.take_append_drop 24 words1, List.all_append, w_t1, ← List.take_append_drop 24 (words1.drop 24), List.all_append, w_t2, ← List.take_append_drop 24 ((words1.drop 24).drop 24), List.all_append, w_t3, ← List.take_append_drop 24 (((words1.drop 24).drop 24).drop 24), List.all_append, w_t4, w_t5]
  rfl
set_option maxRecDepth 65536 in
theorem w_case : (Jvm.Cond.and given_1 narrow_1).before args0 about1 = true := by decide +kernel
theorem w_applies : (headSpec (Jvm.Cond.code x code maxLocals ret :: tables_1) room_1).applies x e0.platform about1 = true :=
  (Spec.applies_iff w_frames).mpr ⟨w_running, w_runnable, w_alone, w_named, w_hears, w_ripe, w_room, w_tables⟩
theorem atStart : AtStart classFile x code maxLocals ret World_1 tables_1 room_1 Calls_1 rest_1 Pre_1 launch0 p0 e0 about1 theMethod args0 below0 :=
  ⟨lists_1, trivial, launch0.admits_env _ _ _, launch0.least_env, fairChoices_fair.cas, fairChoices_fair.clock, w_frames, w_args, w_heap, w_applies, trivial, trivial, w_case⟩
end start1
theorem witness_1 : WitnessClaimed_1 := ⟨start1.p0, start1.e0, start1.about1, start1.theMethod, start1.args0, start1.below0, start1.atStart⟩
end Jvm.Pilot.@@N@@
