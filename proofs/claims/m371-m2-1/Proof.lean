import JvmDerived
import JvmDerived.Pilot.@@N@@Statement
import JvmDerived.Pilot.@@N@@Code
set_option linter.unusedVariables false
set_option linter.unusedSimpArgs false
namespace Jvm.Pilot.@@N@@
open Jvm Jvm.ClassFile Sem Op Lib Jvm.Free Jvm.Stand Jvm.LawKit Jvm.RoadKit Bundle Jvm.Pilot.@@N@@.Jvm.D
section OwnKit
variable {p : Program} {l : Launch} {e : Env} {R : Room} {s : State} {m : MethodId} {args : Array Value} {below : List Frame} {meth : Method} {c : Code} {Z : State} {y : MethodName} {ret : Option FieldType} {code : ByteArray} {ml : Nat} {ws : List Addr} {T : State} {h : Heap} {cells slots : Nat} {C : Outcome → State → Prop} {a0 : Array Value}
/-- the run goes on from this frame to an end that C allows -/
def own_Go (p : Program) (e : Env) (below : List Frame) (C : Outcome → State → Prop) (T : State) (g : JFrame) : Prop :=
  ∃ u o, Steps p.tables e below (T.setTop g) u ∧ u.status = .running ∧ Ended u below o ∧ C o u
/-- what was written lies at one of ws, or is new since s -/
def own_Fw (s : State) (ws : List Addr) (L : List Loc) : Prop := ∀ y ∈ L, y.base ∈ ws ∨ s.heap.size ≤ y.base
/-- where the walk stands: what is fixed of this body; the heap h; nothing old written but at ws -/
def own_W (p : Program) (l : Launch) (e : Env) (R : Room) (s : State) (m : MethodId) (args : Array Value) (below : List Frame) (meth : Method) (c : Code) (Z : State) (y : MethodName) (ret : Option FieldType) (code : ByteArray) (ml : Nat) (ws : List Addr) (T : State) (h : Heap) (cells slots : Nat) : Prop :=
  (p.tables.exec = Jvm.exec ∧ c.code = code ∧ c.maxLocals = ml ∧ s.vm.findClass y.cls = some m.cls ∧ meth.name = y.name ∧ meth.sig.returnType = ret ∧ meth.locks = false ∧ Z.Warmed39 s.vm) ∧ ∃ locs, Stand p l e R s m args below meth c T locs cells slots ∧ T.heap = h ∧ own_Fw s ws locs
/-- what a call leaves: written at ws or new alone; all else kept; where nothing is made or written the heap itself; and Q -/
def own_Q (ws : List Addr) (rm : Room) (h0 : Heap) (Q : Option Value → Heap → Prop) (v : Option Value) (h : Heap) (L : List Loc) : Prop := (∀ y ∈ L, y.base ∈ ws ∨ h0.size ≤ y.base) ∧ Keep h0 h ws ∧ (rm.cells = 0 → ws = [] → h = h0) ∧ Q v h
/-- a body's contract: called with A at the heap h0 it returns, Q holds of what it returns and of the heap, nothing old is written but at ws -/
def own_M (l : Launch) (Z : State) (wo : List Jvm.Cond) (y : MethodName) (bytes : ByteArray) (maxL : Nat) (ret : Option FieldType) (rm : Room) (ws : List Addr) (A : Array Value) (h0 : Heap) (Q : Option Value → Heap → Prop) : Prop :=
  MetFree l y (head1 (Jvm.Cond.code y bytes maxL ret :: wo) rm) (fun a U => a = A ∧ Z.Warmed39 U.vm ∧ U.heap = h0) (fun _ _ _ _ _ => True) (fun _ U o U' => ∃ v L, o = .returned v ∧ own_Q ws rm h0 Q v U'.heap L ∧ FrameEnd U o U' L rm.cells rm.slots)
theorem own_keep {u : State} {L : List Loc} {k n : Nat} (q : s.sameButNew ({ u with vm := s.vm } : State) L k n) (F : own_Fw s ws L) : Keep s.heap u.heap ws := by
  obtain ⟨-, q2, -, -, -, q6⟩ := q
  refine ⟨q2, fun x c hx hn => ?_, fun x c hx => ?_⟩
  · obtain ⟨c', h1, h2, h3, h4⟩ := q6 x c hx
    have h5 : c'.slots = c.slots := by
      apply Array.ext_getElem?
      intro i
      refine h4 i fun hm => ?_
      rcases F _ hm with w | w
      · exact hn w
      · exact absurd (Array.getElem?_eq_some_iff.mp hx).1 (Nat.not_lt.mpr w)
    rw [h5] at h2
    rw [h2] at h1
    exact h1
  · obtain ⟨c', h1, h2, h3, h4⟩ := q6 x c hx
    exact ⟨c', h1, by rw [h2], by rw [h2], h3⟩
theorem own_same0 {u : State} {L : List Loc} {n : Nat} (q : s.sameButNew ({ u with vm := s.vm } : State) L 0 n) (K : Keep s.heap u.heap []) : u.heap = s.heap := by
  obtain ⟨-, q2, q3, -⟩ := q
  apply Array.ext_getElem?
  intro i
  rcases Nat.lt_or_ge i s.heap.size with hi | hi
  · have hs : s.heap[i]? = some s.heap[i] := Array.getElem?_eq_getElem hi
    rw [hs]
    exact K.2.1 i _ hs nin0
  · have h1 : u.heap.size ≤ i := Nat.le_trans q3 hi
    rw [Array.getElem?_eq_none hi, Array.getElem?_eq_none h1]
theorem own_st {T' : State} {g g' : JFrame} (q : ∀ t, Steps p.tables e below (T'.setTop g') t → Steps p.tables e below (T.setTop g) t) (k : own_Go p e below C T' g') : own_Go p e below C T g := by
  obtain ⟨u, o, h1, h2⟩ := k
  exact ⟨u, o, q _ h1, h2⟩
theorem own_tr {T' : State} {g g' : JFrame} (q : Steps p.tables e below (T.setTop g) (T'.setTop g')) (k : own_Go p e below C T' g') : own_Go p e below C T g := by
  obtain ⟨u, o, h1, h2⟩ := k
  exact ⟨u, o, q.trans h1, h2⟩
theorem own_body {wo : List Jvm.Cond} {maxL : Nat} {rm : Room} {A : Array Value} {h0 : Heap} {Q : Option Value → Heap → Prop} {L0 : Array Slot} (hpl : plainFor y = true) (hef : ∀ m, entryFrame m A maxL = mkF m 0 L0 [])
    (body : ∀ p e s m below meth c (C : Outcome → State → Prop) (_ : ∀ v L u, own_Fw s ws L → Q v u.heap → FrameEnd s (.returned v) u L rm.cells rm.slots → C (.returned v) u) T0,
      own_W p l e rm s m A below meth c Z y ret code maxL ws T0 h0 0 0 → own_Go p e below C T0 (mkF m 0 L0 [])) :
    own_M l Z wo y code maxL ret rm ws A h0 Q := by
  refine MetFree.of_bodySF hpl hisR ?_
  intro p e s m args below meth c s₁ Bd hml0 hP hK
  obtain ⟨rfl, hZ, rfl⟩ := hP
  have X0 : Stand p l e rm s m _ below meth c s₁ [] 0 0 := Stand.of_body Bd
  have e0 : s₁.heap = s.heap := by rw [Bd.state]; rfl
  have hlk : meth.locks = false := BodyLoose.notSynchronized Bd
  have k := body p e s m below meth c (fun o U' => ∃ v L, o = .returned v ∧ own_Q ws rm s.heap Q v U'.heap L ∧ FrameEnd s o U' L rm.cells rm.slots)
    (fun v L u h1 h2 h3 => by
      have K := own_keep h3.2.2 h1
      refine ⟨v, L, rfl, ⟨h1, K, fun hc hw => ?_, h2⟩, h3⟩
      subst hw
      have h4 := h3.2.2
      rw [hc] at h4
      exact own_same0 h4 K) s₁
    ⟨⟨Bd.exec, Bd.bytes, hml0, findClass_of_methodNamed Bd.named, (name_of_methodNamed Bd.named Bd.method).1, Bd.returns, hlk, hZ⟩, [], X0, e0, fun _ hy => nomatch hy⟩
  obtain ⟨u, o, h1, h2⟩ := k
  exact ⟨u, o, castTop (hef m) h1, h2⟩
theorem own_Fw_snoc {L : List Loc} {a : Addr} {sl : Nat} (N : own_Fw s ws L) (q : a ∈ ws ∨ s.heap.size ≤ a) : own_Fw s ws (L ++ [⟨a, sl⟩]) := fun y hy => by
  rcases List.mem_append.mp hy with w | w
  · exact N y w
  · cases List.mem_singleton.mp w; exact q
theorem own_Fw_app {L L' : List Loc} {wc' : List Addr} (N : own_Fw s ws L) (q : ∀ y ∈ L', y.base ∈ wc' ∨ h.size ≤ y.base) (r : ∀ b ∈ wc', b ∈ ws ∨ s.heap.size ≤ b) (z : s.heap.size ≤ h.size) : own_Fw s ws (L ++ L') := fun y hy => by
  rcases List.mem_append.mp hy with w | w
  · exact N y w
  · rcases q y w with u | u
    · exact r _ u
    · exact Or.inr (Nat.le_trans z u)
theorem own_le (W : own_W p l e R s m args below meth c Z y ret code ml ws T h cells slots) : s.heap.size ≤ h.size := by
  obtain ⟨-, locs, X, rfl, -⟩ := W
  exact X.same.2.1
theorem own_iadd (W : own_W p l e R s m args below meth c Z y ret code ml ws T h cells slots) {u v : Int32} {pc : Nat} (pc' : Nat) {L : Array Slot} {st : List Value} (hd : decode code pc = .ok (.iadd, 1))  (hp : pc + 1 = pc') (k : own_Go p e below C T (mkF m pc' L (.int (u + v) :: st))) : own_Go p e below C T (mkF m pc L (.int v :: .int u :: st)) := by
  have hsz := own_le W
  obtain ⟨⟨hx, hby, hml, hown, hnm, hrt, hlk, hZ⟩, locs, X, eT, N⟩ := W
  subst hp
  exact own_st (fun _ k => XS.iadd X.here hx rfl (hb hby hd) rfl k) k
theorem own_ladd (W : own_W p l e R s m args below meth c Z y ret code ml ws T h cells slots) {u v : Int64} {pc : Nat} (pc' : Nat) {L : Array Slot} {st : List Value} (hd : decode code pc = .ok (.ladd, 1))  (hp : pc + 1 = pc') (k : own_Go p e below C T (mkF m pc' L (.long (u + v) :: st))) : own_Go p e below C T (mkF m pc L (.long v :: .long u :: st)) := by
  have hsz := own_le W
  obtain ⟨⟨hx, hby, hml, hown, hnm, hrt, hlk, hZ⟩, locs, X, eT, N⟩ := W
  subst hp
  exact own_st (fun _ k => XS.ladd X.here hx rfl (hb hby hd) rfl k) k
theorem own_isub (W : own_W p l e R s m args below meth c Z y ret code ml ws T h cells slots) {u v : Int32} {pc : Nat} (pc' : Nat) {L : Array Slot} {st : List Value} (hd : decode code pc = .ok (.isub, 1))  (hp : pc + 1 = pc') (k : own_Go p e below C T (mkF m pc' L (.int (u - v) :: st))) : own_Go p e below C T (mkF m pc L (.int v :: .int u :: st)) := by
  have hsz := own_le W
  obtain ⟨⟨hx, hby, hml, hown, hnm, hrt, hlk, hZ⟩, locs, X, eT, N⟩ := W
  subst hp
  exact own_st (fun _ k => XS.isub X.here hx rfl (hb hby hd) rfl k) k
theorem own_lsub (W : own_W p l e R s m args below meth c Z y ret code ml ws T h cells slots) {u v : Int64} {pc : Nat} (pc' : Nat) {L : Array Slot} {st : List Value} (hd : decode code pc = .ok (.lsub, 1))  (hp : pc + 1 = pc') (k : own_Go p e below C T (mkF m pc' L (.long (u - v) :: st))) : own_Go p e below C T (mkF m pc L (.long v :: .long u :: st)) := by
  have hsz := own_le W
  obtain ⟨⟨hx, hby, hml, hown, hnm, hrt, hlk, hZ⟩, locs, X, eT, N⟩ := W
  subst hp
  exact own_st (fun _ k => XS.lsub X.here hx rfl (hb hby hd) rfl k) k
theorem own_imul (W : own_W p l e R s m args below meth c Z y ret code ml ws T h cells slots) {u v : Int32} {pc : Nat} (pc' : Nat) {L : Array Slot} {st : List Value} (hd : decode code pc = .ok (.imul, 1))  (hp : pc + 1 = pc') (k : own_Go p e below C T (mkF m pc' L (.int (u * v) :: st))) : own_Go p e below C T (mkF m pc L (.int v :: .int u :: st)) := by
  have hsz := own_le W
  obtain ⟨⟨hx, hby, hml, hown, hnm, hrt, hlk, hZ⟩, locs, X, eT, N⟩ := W
  subst hp
  exact own_st (fun _ k => XS.imul X.here hx rfl (hb hby hd) rfl k) k
theorem own_lmul (W : own_W p l e R s m args below meth c Z y ret code ml ws T h cells slots) {u v : Int64} {pc : Nat} (pc' : Nat) {L : Array Slot} {st : List Value} (hd : decode code pc = .ok (.lmul, 1))  (hp : pc + 1 = pc') (k : own_Go p e below C T (mkF m pc' L (.long (u * v) :: st))) : own_Go p e below C T (mkF m pc L (.long v :: .long u :: st)) := by
  have hsz := own_le W
  obtain ⟨⟨hx, hby, hml, hown, hnm, hrt, hlk, hZ⟩, locs, X, eT, N⟩ := W
  subst hp
  exact own_st (fun _ k => XS.lmul X.here hx rfl (hb hby hd) rfl k) k
theorem own_iand (W : own_W p l e R s m args below meth c Z y ret code ml ws T h cells slots) {u v : Int32} {pc : Nat} (pc' : Nat) {L : Array Slot} {st : List Value} (hd : decode code pc = .ok (.iand, 1))  (hp : pc + 1 = pc') (k : own_Go p e below C T (mkF m pc' L (.int (u &&& v) :: st))) : own_Go p e below C T (mkF m pc L (.int v :: .int u :: st)) := by
  have hsz := own_le W
  obtain ⟨⟨hx, hby, hml, hown, hnm, hrt, hlk, hZ⟩, locs, X, eT, N⟩ := W
  subst hp
  exact own_st (fun _ k => XS.iand X.here hx rfl (hb hby hd) rfl k) k
theorem own_land (W : own_W p l e R s m args below meth c Z y ret code ml ws T h cells slots) {u v : Int64} {pc : Nat} (pc' : Nat) {L : Array Slot} {st : List Value} (hd : decode code pc = .ok (.land, 1))  (hp : pc + 1 = pc') (k : own_Go p e below C T (mkF m pc' L (.long (u &&& v) :: st))) : own_Go p e below C T (mkF m pc L (.long v :: .long u :: st)) := by
  have hsz := own_le W
  obtain ⟨⟨hx, hby, hml, hown, hnm, hrt, hlk, hZ⟩, locs, X, eT, N⟩ := W
  subst hp
  exact own_st (fun _ k => XS.land X.here hx rfl (hb hby hd) rfl k) k
theorem own_ior (W : own_W p l e R s m args below meth c Z y ret code ml ws T h cells slots) {u v : Int32} {pc : Nat} (pc' : Nat) {L : Array Slot} {st : List Value} (hd : decode code pc = .ok (.ior, 1))  (hp : pc + 1 = pc') (k : own_Go p e below C T (mkF m pc' L (.int (u ||| v) :: st))) : own_Go p e below C T (mkF m pc L (.int v :: .int u :: st)) := by
  have hsz := own_le W
  obtain ⟨⟨hx, hby, hml, hown, hnm, hrt, hlk, hZ⟩, locs, X, eT, N⟩ := W
  subst hp
  exact own_st (fun _ k => XS.ior X.here hx rfl (hb hby hd) rfl k) k
theorem own_lor (W : own_W p l e R s m args below meth c Z y ret code ml ws T h cells slots) {u v : Int64} {pc : Nat} (pc' : Nat) {L : Array Slot} {st : List Value} (hd : decode code pc = .ok (.lor, 1))  (hp : pc + 1 = pc') (k : own_Go p e below C T (mkF m pc' L (.long (u ||| v) :: st))) : own_Go p e below C T (mkF m pc L (.long v :: .long u :: st)) := by
  have hsz := own_le W
  obtain ⟨⟨hx, hby, hml, hown, hnm, hrt, hlk, hZ⟩, locs, X, eT, N⟩ := W
  subst hp
  exact own_st (fun _ k => XS.lor X.here hx rfl (hb hby hd) rfl k) k
theorem own_ixor (W : own_W p l e R s m args below meth c Z y ret code ml ws T h cells slots) {u v : Int32} {pc : Nat} (pc' : Nat) {L : Array Slot} {st : List Value} (hd : decode code pc = .ok (.ixor, 1))  (hp : pc + 1 = pc') (k : own_Go p e below C T (mkF m pc' L (.int (u ^^^ v) :: st))) : own_Go p e below C T (mkF m pc L (.int v :: .int u :: st)) := by
  have hsz := own_le W
  obtain ⟨⟨hx, hby, hml, hown, hnm, hrt, hlk, hZ⟩, locs, X, eT, N⟩ := W
  subst hp
  exact own_st (fun _ k => XS.ixor X.here hx rfl (hb hby hd) rfl k) k
theorem own_lxor (W : own_W p l e R s m args below meth c Z y ret code ml ws T h cells slots) {u v : Int64} {pc : Nat} (pc' : Nat) {L : Array Slot} {st : List Value} (hd : decode code pc = .ok (.lxor, 1))  (hp : pc + 1 = pc') (k : own_Go p e below C T (mkF m pc' L (.long (u ^^^ v) :: st))) : own_Go p e below C T (mkF m pc L (.long v :: .long u :: st)) := by
  have hsz := own_le W
  obtain ⟨⟨hx, hby, hml, hown, hnm, hrt, hlk, hZ⟩, locs, X, eT, N⟩ := W
  subst hp
  exact own_st (fun _ k => XS.lxor X.here hx rfl (hb hby hd) rfl k) k
theorem own_ishl (W : own_W p l e R s m args below meth c Z y ret code ml ws T h cells slots) {u v : Int32} {pc : Nat} (pc' : Nat) {L : Array Slot} {st : List Value} (hd : decode code pc = .ok (.ishl, 1))  (hp : pc + 1 = pc') (k : own_Go p e below C T (mkF m pc' L (.int (u <<< (v &&& 31)) :: st))) : own_Go p e below C T (mkF m pc L (.int v :: .int u :: st)) := by
  have hsz := own_le W
  obtain ⟨⟨hx, hby, hml, hown, hnm, hrt, hlk, hZ⟩, locs, X, eT, N⟩ := W
  subst hp
  exact own_st (fun _ k => XS.ishl X.here hx rfl (hb hby hd) rfl k) k
theorem own_ishr (W : own_W p l e R s m args below meth c Z y ret code ml ws T h cells slots) {u v : Int32} {pc : Nat} (pc' : Nat) {L : Array Slot} {st : List Value} (hd : decode code pc = .ok (.ishr, 1))  (hp : pc + 1 = pc') (k : own_Go p e below C T (mkF m pc' L (.int (u >>> (v &&& 31)) :: st))) : own_Go p e below C T (mkF m pc L (.int v :: .int u :: st)) := by
  have hsz := own_le W
  obtain ⟨⟨hx, hby, hml, hown, hnm, hrt, hlk, hZ⟩, locs, X, eT, N⟩ := W
  subst hp
  exact own_st (fun _ k => XS.ishr X.here hx rfl (hb hby hd) rfl k) k
theorem own_iushr (W : own_W p l e R s m args below meth c Z y ret code ml ws T h cells slots) {u v : Int32} {pc : Nat} (pc' : Nat) {L : Array Slot} {st : List Value} (hd : decode code pc = .ok (.iushr, 1))  (hp : pc + 1 = pc') (k : own_Go p e below C T (mkF m pc' L (.int ((u.toUInt32 >>> (v &&& 31).toUInt32).toInt32) :: st))) : own_Go p e below C T (mkF m pc L (.int v :: .int u :: st)) := by
  have hsz := own_le W
  obtain ⟨⟨hx, hby, hml, hown, hnm, hrt, hlk, hZ⟩, locs, X, eT, N⟩ := W
  subst hp
  exact own_st (fun _ k => XS.iushr X.here hx rfl (hb hby hd) rfl k) k
theorem own_lshl (W : own_W p l e R s m args below meth c Z y ret code ml ws T h cells slots) {u : Int64} {v : Int32} {pc : Nat} (pc' : Nat) {L : Array Slot} {st : List Value} (hd : decode code pc = .ok (.lshl, 1))  (hp : pc + 1 = pc') (k : own_Go p e below C T (mkF m pc' L (.long (u <<< (v &&& 0x3f).toInt64) :: st))) : own_Go p e below C T (mkF m pc L (.int v :: .long u :: st)) := by
  have hsz := own_le W
  obtain ⟨⟨hx, hby, hml, hown, hnm, hrt, hlk, hZ⟩, locs, X, eT, N⟩ := W
  subst hp
  exact own_st (fun _ k => XS.lshl X.here hx rfl (hb hby hd) rfl k) k
theorem own_lshr (W : own_W p l e R s m args below meth c Z y ret code ml ws T h cells slots) {u : Int64} {v : Int32} {pc : Nat} (pc' : Nat) {L : Array Slot} {st : List Value} (hd : decode code pc = .ok (.lshr, 1))  (hp : pc + 1 = pc') (k : own_Go p e below C T (mkF m pc' L (.long (u >>> (v &&& 0x3f).toInt64) :: st))) : own_Go p e below C T (mkF m pc L (.int v :: .long u :: st)) := by
  have hsz := own_le W
  obtain ⟨⟨hx, hby, hml, hown, hnm, hrt, hlk, hZ⟩, locs, X, eT, N⟩ := W
  subst hp
  exact own_st (fun _ k => XS.lshr X.here hx rfl (hb hby hd) rfl k) k
theorem own_lushr (W : own_W p l e R s m args below meth c Z y ret code ml ws T h cells slots) {u : Int64} {v : Int32} {pc : Nat} (pc' : Nat) {L : Array Slot} {st : List Value} (hd : decode code pc = .ok (.lushr, 1))  (hp : pc + 1 = pc') (k : own_Go p e below C T (mkF m pc' L (.long ((u.toUInt64 >>> (v &&& 0x3f).toInt64.toUInt64).toInt64) :: st))) : own_Go p e below C T (mkF m pc L (.int v :: .long u :: st)) := by
  have hsz := own_le W
  obtain ⟨⟨hx, hby, hml, hown, hnm, hrt, hlk, hZ⟩, locs, X, eT, N⟩ := W
  subst hp
  exact own_st (fun _ k => XS.lushr X.here hx rfl (hb hby hd) rfl k) k
theorem own_ineg (W : own_W p l e R s m args below meth c Z y ret code ml ws T h cells slots) {u : Int32} {pc : Nat} (pc' : Nat) {L : Array Slot} {st : List Value} (hd : decode code pc = .ok (.ineg, 1))  (hp : pc + 1 = pc') (k : own_Go p e below C T (mkF m pc' L (.int (-u) :: st))) : own_Go p e below C T (mkF m pc L (.int u :: st)) := by
  have hsz := own_le W
  obtain ⟨⟨hx, hby, hml, hown, hnm, hrt, hlk, hZ⟩, locs, X, eT, N⟩ := W
  subst hp
  exact own_st (fun _ k => XS.ineg X.here hx rfl (hb hby hd) rfl k) k
theorem own_lneg (W : own_W p l e R s m args below meth c Z y ret code ml ws T h cells slots) {u : Int64} {pc : Nat} (pc' : Nat) {L : Array Slot} {st : List Value} (hd : decode code pc = .ok (.lneg, 1))  (hp : pc + 1 = pc') (k : own_Go p e below C T (mkF m pc' L (.long (-u) :: st))) : own_Go p e below C T (mkF m pc L (.long u :: st)) := by
  have hsz := own_le W
  obtain ⟨⟨hx, hby, hml, hown, hnm, hrt, hlk, hZ⟩, locs, X, eT, N⟩ := W
  subst hp
  exact own_st (fun _ k => XS.lneg X.here hx rfl (hb hby hd) rfl k) k
theorem own_i2l (W : own_W p l e R s m args below meth c Z y ret code ml ws T h cells slots) {u : Int32} {pc : Nat} (pc' : Nat) {L : Array Slot} {st : List Value} (hd : decode code pc = .ok (.i2l, 1))  (hp : pc + 1 = pc') (k : own_Go p e below C T (mkF m pc' L (.long u.toInt64 :: st))) : own_Go p e below C T (mkF m pc L (.int u :: st)) := by
  have hsz := own_le W
  obtain ⟨⟨hx, hby, hml, hown, hnm, hrt, hlk, hZ⟩, locs, X, eT, N⟩ := W
  subst hp
  exact own_st (fun _ k => XS.i2l X.here hx rfl (hb hby hd) rfl k) k
theorem own_l2i (W : own_W p l e R s m args below meth c Z y ret code ml ws T h cells slots) {u : Int64} {pc : Nat} (pc' : Nat) {L : Array Slot} {st : List Value} (hd : decode code pc = .ok (.l2i, 1))  (hp : pc + 1 = pc') (k : own_Go p e below C T (mkF m pc' L (.int u.toInt32 :: st))) : own_Go p e below C T (mkF m pc L (.long u :: st)) := by
  have hsz := own_le W
  obtain ⟨⟨hx, hby, hml, hown, hnm, hrt, hlk, hZ⟩, locs, X, eT, N⟩ := W
  subst hp
  exact own_st (fun _ k => XS.l2i X.here hx rfl (hb hby hd) rfl k) k
theorem own_i2b (W : own_W p l e R s m args below meth c Z y ret code ml ws T h cells slots) {u : Int32} {pc : Nat} (pc' : Nat) {L : Array Slot} {st : List Value} (hd : decode code pc = .ok (.i2b, 1))  (hp : pc + 1 = pc') (k : own_Go p e below C T (mkF m pc' L (.int u.toInt8.toInt32 :: st))) : own_Go p e below C T (mkF m pc L (.int u :: st)) := by
  have hsz := own_le W
  obtain ⟨⟨hx, hby, hml, hown, hnm, hrt, hlk, hZ⟩, locs, X, eT, N⟩ := W
  subst hp
  exact own_st (fun _ k => XS.i2b X.here hx rfl (hb hby hd) rfl k) k
theorem own_i2c (W : own_W p l e R s m args below meth c Z y ret code ml ws T h cells slots) {u : Int32} {pc : Nat} (pc' : Nat) {L : Array Slot} {st : List Value} (hd : decode code pc = .ok (.i2c, 1))  (hp : pc + 1 = pc') (k : own_Go p e below C T (mkF m pc' L (.int u.toUInt32.toUInt16.toUInt32.toInt32 :: st))) : own_Go p e below C T (mkF m pc L (.int u :: st)) := by
  have hsz := own_le W
  obtain ⟨⟨hx, hby, hml, hown, hnm, hrt, hlk, hZ⟩, locs, X, eT, N⟩ := W
  subst hp
  exact own_st (fun _ k => XS.i2c X.here hx rfl (hb hby hd) rfl k) k
theorem own_lcmp (W : own_W p l e R s m args below meth c Z y ret code ml ws T h cells slots) {u v : Int64} {pc : Nat} (pc' : Nat) {L : Array Slot} {st : List Value} (hd : decode code pc = .ok (.lcmp, 1))  (hp : pc + 1 = pc') (k : own_Go p e below C T (mkF m pc' L (.int (lcmpW u v) :: st))) : own_Go p e below C T (mkF m pc L (.long v :: .long u :: st)) := by
  have hsz := own_le W
  obtain ⟨⟨hx, hby, hml, hown, hnm, hrt, hlk, hZ⟩, locs, X, eT, N⟩ := W
  subst hp
  exact own_st (fun _ k => XS.lcmp X.here hx rfl (hb hby hd) rfl k) k
theorem own_idiv (W : own_W p l e R s m args below meth c Z y ret code ml ws T h cells slots) {u v : Int32} {pc : Nat} (pc' : Nat) {L : Array Slot} {st : List Value} (hd : decode code pc = .ok (.idiv, 1)) (hv : v ≠ 0) (hp : pc + 1 = pc') (k : own_Go p e below C T (mkF m pc' L (.int (u / v) :: st))) : own_Go p e below C T (mkF m pc L (.int v :: .int u :: st)) := by
  have hsz := own_le W
  obtain ⟨⟨hx, hby, hml, hown, hnm, hrt, hlk, hZ⟩, locs, X, eT, N⟩ := W
  subst hp
  exact own_st (fun _ k => XS.idiv X.here hx rfl (hb hby hd) rfl hv k) k
theorem own_ldiv (W : own_W p l e R s m args below meth c Z y ret code ml ws T h cells slots) {u v : Int64} {pc : Nat} (pc' : Nat) {L : Array Slot} {st : List Value} (hd : decode code pc = .ok (.ldiv, 1)) (hv : v ≠ 0) (hp : pc + 1 = pc') (k : own_Go p e below C T (mkF m pc' L (.long (u / v) :: st))) : own_Go p e below C T (mkF m pc L (.long v :: .long u :: st)) := by
  have hsz := own_le W
  obtain ⟨⟨hx, hby, hml, hown, hnm, hrt, hlk, hZ⟩, locs, X, eT, N⟩ := W
  subst hp
  exact own_st (fun _ k => XS.ldiv X.here hx rfl (hb hby hd) rfl hv k) k
theorem own_lrem (W : own_W p l e R s m args below meth c Z y ret code ml ws T h cells slots) {u v : Int64} {pc : Nat} (pc' : Nat) {L : Array Slot} {st : List Value} (hd : decode code pc = .ok (.lrem, 1)) (hv : v ≠ 0) (hp : pc + 1 = pc') (k : own_Go p e below C T (mkF m pc' L (.long (u - (u / v) * v) :: st))) : own_Go p e below C T (mkF m pc L (.long v :: .long u :: st)) := by
  have hsz := own_le W
  obtain ⟨⟨hx, hby, hml, hown, hnm, hrt, hlk, hZ⟩, locs, X, eT, N⟩ := W
  subst hp
  exact own_st (fun _ k => XS.lrem X.here hx rfl (hb hby hd) rfl hv k) k
theorem own_irem (W : own_W p l e R s m args below meth c Z y ret code ml ws T h cells slots) {u v : Int32} {pc : Nat} (pc' : Nat) {L : Array Slot} {st : List Value} (hd : decode code pc = .ok (.irem, 1)) (hv : v ≠ 0) (hp : pc + 1 = pc') (k : own_Go p e below C T (mkF m pc' L (.int (u % v) :: st))) : own_Go p e below C T (mkF m pc L (.int v :: .int u :: st)) := by
  have hsz := own_le W
  obtain ⟨⟨hx, hby, hml, hown, hnm, hrt, hlk, hZ⟩, locs, X, eT, N⟩ := W
  subst hp
  exact own_st (fun _ k => iremM X hx rfl (hb hby hd) rfl hv k) k
theorem own_iconst (W : own_W p l e R s m args below meth c Z y ret code ml ws T h cells slots) {i : Int} (v : Int32) {pc : Nat} (pc' : Nat) {L : Array Slot} {st : List Value} (hd : decode code pc = .ok (.iconst i, 1)) (hv : Int32.ofInt i = v) (hp : pc + 1 = pc') (k : own_Go p e below C T (mkF m pc' L (.int v :: st))) : own_Go p e below C T (mkF m pc L st) := by
  have hsz := own_le W
  obtain ⟨⟨hx, hby, hml, hown, hnm, hrt, hlk, hZ⟩, locs, X, eT, N⟩ := W
  subst hp hv
  exact own_st (fun _ k => XS.iconst X.here hx rfl (hb hby hd) k) k
theorem own_bipush (W : own_W p l e R s m args below meth c Z y ret code ml ws T h cells slots) {i : Int} (v : Int32) {pc : Nat} (pc' : Nat) {L : Array Slot} {st : List Value} (hd : decode code pc = .ok (.bipush i, 2)) (hv : (Int8.ofInt i).toInt32 = v) (hp : pc + 2 = pc') (k : own_Go p e below C T (mkF m pc' L (.int v :: st))) : own_Go p e below C T (mkF m pc L st) := by
  have hsz := own_le W
  obtain ⟨⟨hx, hby, hml, hown, hnm, hrt, hlk, hZ⟩, locs, X, eT, N⟩ := W
  subst hp hv
  exact own_st (fun _ k => XS.bipush X.here hx rfl (hb hby hd) k) k
theorem own_sipush (W : own_W p l e R s m args below meth c Z y ret code ml ws T h cells slots) {i : Int} (v : Int32) {pc : Nat} (pc' : Nat) {L : Array Slot} {st : List Value} (hd : decode code pc = .ok (.sipush i, 3)) (hv : (Int16.ofInt i).toInt32 = v) (hp : pc + 3 = pc') (k : own_Go p e below C T (mkF m pc' L (.int v :: st))) : own_Go p e below C T (mkF m pc L st) := by
  have hsz := own_le W
  obtain ⟨⟨hx, hby, hml, hown, hnm, hrt, hlk, hZ⟩, locs, X, eT, N⟩ := W
  subst hp hv
  exact own_st (fun _ k => XS.sipush X.here hx rfl (hb hby hd) k) k
theorem own_lconst (W : own_W p l e R s m args below meth c Z y ret code ml ws T h cells slots) {i : Fin 2} (v : Int64) {pc : Nat} (pc' : Nat) {L : Array Slot} {st : List Value} (hd : decode code pc = .ok (.lconst i, 1)) (hv : Int64.ofNat i.val = v) (hp : pc + 1 = pc') (k : own_Go p e below C T (mkF m pc' L (.long v :: st))) : own_Go p e below C T (mkF m pc L st) := by
  have hsz := own_le W
  obtain ⟨⟨hx, hby, hml, hown, hnm, hrt, hlk, hZ⟩, locs, X, eT, N⟩ := W
  subst hp hv
  exact own_st (fun _ k => XS.lconst X.here hx rfl (hb hby hd) k) k
theorem own_aconst_null (W : own_W p l e R s m args below meth c Z y ret code ml ws T h cells slots) {pc : Nat} (pc' : Nat) {L : Array Slot} {st : List Value} (hd : decode code pc = .ok (.aconst_null, 1)) (hp : pc + 1 = pc') (k : own_Go p e below C T (mkF m pc' L (.null :: st))) : own_Go p e below C T (mkF m pc L st) := by
  have hsz := own_le W
  obtain ⟨⟨hx, hby, hml, hown, hnm, hrt, hlk, hZ⟩, locs, X, eT, N⟩ := W
  subst hp
  exact own_st (fun _ k => XS.aconstNull X.here hx rfl (hb hby hd) k) k
theorem own_ldcInt (W : own_W p l e R s m args below meth c Z y ret code ml ws T h cells slots) {i : Nat} {v : Int32} {pc : Nat} (pc' : Nat) {L : Array Slot} {st : List Value} (hd : decode code pc = .ok (.ldc i, 2)) (w : (Jvm.Cond.constant y.cls i v).before a0 Z = true) (hp : pc + 2 = pc') (k : own_Go p e below C T (mkF m pc' L (.int v :: st))) : own_Go p e below C T (mkF m pc L st) := by
  have hsz := own_le W
  obtain ⟨⟨hx, hby, hml, hown, hnm, hrt, hlk, hZ⟩, locs, X, eT, N⟩ := W
  subst hp
  exact own_st (fun _ k => X.ldcInt hx hown (mvT hZ w) (g := mkF m pc L st) rfl (hb hby hd) _ k) k
theorem own_ldc2Long (W : own_W p l e R s m args below meth c Z y ret code ml ws T h cells slots) {i : Nat} {v : Int64} {pc : Nat} (pc' : Nat) {L : Array Slot} {st : List Value} (hd : decode code pc = .ok (.ldc2_w i, 3)) (w : (Jvm.Cond.constantLong y.cls i v).before a0 Z = true) (hp : pc + 3 = pc') (k : own_Go p e below C T (mkF m pc' L (.long v :: st))) : own_Go p e below C T (mkF m pc L st) := by
  have hsz := own_le W
  obtain ⟨⟨hx, hby, hml, hown, hnm, hrt, hlk, hZ⟩, locs, X, eT, N⟩ := W
  subst hp
  exact own_st (fun _ k => X.ldc2Long hx hown (mvT hZ w) (g := mkF m pc L st) rfl (hb hby hd) _ k) k
theorem own_iloadN (W : own_W p l e R s m args below meth c Z y ret code ml ws T h cells slots) {i : Fin 4} {v : Int32} {pc : Nat} (pc' : Nat) {L : Array Slot} {st : List Value} (hd : decode code pc = .ok (.iload_n i, 1)) (hl : L[i.val]? = some (.val (.int v))) (hp : pc + 1 = pc') (k : own_Go p e below C T (mkF m pc' L (.int v :: st))) : own_Go p e below C T (mkF m pc L st) := by
  have hsz := own_le W
  obtain ⟨⟨hx, hby, hml, hown, hnm, hrt, hlk, hZ⟩, locs, X, eT, N⟩ := W
  subst hp
  exact own_st (fun _ k => XS.iloadN X.here hx rfl (hb hby hd) hl k) k
theorem own_iload (W : own_W p l e R s m args below meth c Z y ret code ml ws T h cells slots) {i : Nat} {v : Int32} {pc : Nat} (pc' : Nat) {L : Array Slot} {st : List Value} (hd : decode code pc = .ok (.iload i, 2)) (hl : L[i]? = some (.val (.int v))) (hp : pc + 2 = pc') (k : own_Go p e below C T (mkF m pc' L (.int v :: st))) : own_Go p e below C T (mkF m pc L st) := by
  have hsz := own_le W
  obtain ⟨⟨hx, hby, hml, hown, hnm, hrt, hlk, hZ⟩, locs, X, eT, N⟩ := W
  subst hp
  exact own_st (fun _ k => XS.iload X.here hx rfl (hb hby hd) hl k) k
theorem own_lloadN (W : own_W p l e R s m args below meth c Z y ret code ml ws T h cells slots) {i : Fin 4} {v : Int64} {pc : Nat} (pc' : Nat) {L : Array Slot} {st : List Value} (hd : decode code pc = .ok (.lload_n i, 1)) (hl : L[i.val]? = some (.val (.long v))) (hp : pc + 1 = pc') (k : own_Go p e below C T (mkF m pc' L (.long v :: st))) : own_Go p e below C T (mkF m pc L st) := by
  have hsz := own_le W
  obtain ⟨⟨hx, hby, hml, hown, hnm, hrt, hlk, hZ⟩, locs, X, eT, N⟩ := W
  subst hp
  exact own_st (fun _ k => XS.lloadN X.here hx rfl (hb hby hd) hl k) k
theorem own_lload (W : own_W p l e R s m args below meth c Z y ret code ml ws T h cells slots) {i : Nat} {v : Int64} {pc : Nat} (pc' : Nat) {L : Array Slot} {st : List Value} (hd : decode code pc = .ok (.lload i, 2)) (hl : L[i]? = some (.val (.long v))) (hp : pc + 2 = pc') (k : own_Go p e below C T (mkF m pc' L (.long v :: st))) : own_Go p e below C T (mkF m pc L st) := by
  have hsz := own_le W
  obtain ⟨⟨hx, hby, hml, hown, hnm, hrt, hlk, hZ⟩, locs, X, eT, N⟩ := W
  subst hp
  exact own_st (fun _ k => XS.lload X.here hx rfl (hb hby hd) hl k) k
theorem own_aloadN (W : own_W p l e R s m args below meth c Z y ret code ml ws T h cells slots) {i : Fin 4} {v : Value} {pc : Nat} (pc' : Nat) {L : Array Slot} {st : List Value} (hd : decode code pc = .ok (.aload_n i, 1)) (hl : L[i.val]? = some (.val v)) (hv : v.isRef = true) (hp : pc + 1 = pc') (k : own_Go p e below C T (mkF m pc' L (v :: st))) : own_Go p e below C T (mkF m pc L st) := by
  have hsz := own_le W
  obtain ⟨⟨hx, hby, hml, hown, hnm, hrt, hlk, hZ⟩, locs, X, eT, N⟩ := W
  subst hp
  exact own_st (fun _ k => XS.aloadN X.here hx rfl (hb hby hd) hl hv k) k
theorem own_aload (W : own_W p l e R s m args below meth c Z y ret code ml ws T h cells slots) {i : Nat} {v : Value} {pc : Nat} (pc' : Nat) {L : Array Slot} {st : List Value} (hd : decode code pc = .ok (.aload i, 2)) (hl : L[i]? = some (.val v)) (hv : v.isRef = true) (hp : pc + 2 = pc') (k : own_Go p e below C T (mkF m pc' L (v :: st))) : own_Go p e below C T (mkF m pc L st) := by
  have hsz := own_le W
  obtain ⟨⟨hx, hby, hml, hown, hnm, hrt, hlk, hZ⟩, locs, X, eT, N⟩ := W
  subst hp
  exact own_st (fun _ k => XS.aload X.here hx rfl (hb hby hd) hl hv k) k
theorem own_istoreN (W : own_W p l e R s m args below meth c Z y ret code ml ws T h cells slots) {i : Fin 4} {v : Int32} {pc : Nat} (pc' : Nat) {L : Array Slot} (L' : Array Slot) {st : List Value} (hd : decode code pc = .ok (.istore_n i, 1)) (hl : storeLocals L i.val (.int v) = some L') (hp : pc + 1 = pc') (k : own_Go p e below C T (mkF m pc' L' st)) : own_Go p e below C T (mkF m pc L (.int v :: st)) := by
  have hsz := own_le W
  obtain ⟨⟨hx, hby, hml, hown, hnm, hrt, hlk, hZ⟩, locs, X, eT, N⟩ := W
  subst hp
  exact own_st (fun _ k => XS.istoreN X.here hx rfl (hb hby hd) rfl hl k) k
theorem own_istore (W : own_W p l e R s m args below meth c Z y ret code ml ws T h cells slots) {i : Nat} {v : Int32} {pc : Nat} (pc' : Nat) {L : Array Slot} (L' : Array Slot) {st : List Value} (hd : decode code pc = .ok (.istore i, 2)) (hl : storeLocals L i (.int v) = some L') (hp : pc + 2 = pc') (k : own_Go p e below C T (mkF m pc' L' st)) : own_Go p e below C T (mkF m pc L (.int v :: st)) := by
  have hsz := own_le W
  obtain ⟨⟨hx, hby, hml, hown, hnm, hrt, hlk, hZ⟩, locs, X, eT, N⟩ := W
  subst hp
  exact own_st (fun _ k => XS.istore X.here hx rfl (hb hby hd) rfl hl k) k
theorem own_lstoreN (W : own_W p l e R s m args below meth c Z y ret code ml ws T h cells slots) {i : Fin 4} {v : Int64} {pc : Nat} (pc' : Nat) {L : Array Slot} (L' : Array Slot) {st : List Value} (hd : decode code pc = .ok (.lstore_n i, 1)) (hl : storeLocals L i.val (.long v) = some L') (hp : pc + 1 = pc') (k : own_Go p e below C T (mkF m pc' L' st)) : own_Go p e below C T (mkF m pc L (.long v :: st)) := by
  have hsz := own_le W
  obtain ⟨⟨hx, hby, hml, hown, hnm, hrt, hlk, hZ⟩, locs, X, eT, N⟩ := W
  subst hp
  exact own_st (fun _ k => XS.lstoreN X.here hx rfl (hb hby hd) rfl hl k) k
theorem own_lstore (W : own_W p l e R s m args below meth c Z y ret code ml ws T h cells slots) {i : Nat} {v : Int64} {pc : Nat} (pc' : Nat) {L : Array Slot} (L' : Array Slot) {st : List Value} (hd : decode code pc = .ok (.lstore i, 2)) (hl : storeLocals L i (.long v) = some L') (hp : pc + 2 = pc') (k : own_Go p e below C T (mkF m pc' L' st)) : own_Go p e below C T (mkF m pc L (.long v :: st)) := by
  have hsz := own_le W
  obtain ⟨⟨hx, hby, hml, hown, hnm, hrt, hlk, hZ⟩, locs, X, eT, N⟩ := W
  subst hp
  exact own_st (fun _ k => XS.lstore X.here hx rfl (hb hby hd) rfl hl k) k
theorem own_astoreN (W : own_W p l e R s m args below meth c Z y ret code ml ws T h cells slots) {i : Fin 4} {v : Value} {pc : Nat} (pc' : Nat) {L : Array Slot} (L' : Array Slot) {st : List Value} (hd : decode code pc = .ok (.astore_n i, 1)) (hv : v.isRef = true) (hl : storeLocals L i.val v = some L') (hp : pc + 1 = pc') (k : own_Go p e below C T (mkF m pc' L' st)) : own_Go p e below C T (mkF m pc L (v :: st)) := by
  have hsz := own_le W
  obtain ⟨⟨hx, hby, hml, hown, hnm, hrt, hlk, hZ⟩, locs, X, eT, N⟩ := W
  subst hp
  exact own_st (fun _ k => XS.astoreN X.here hx rfl (hb hby hd) rfl hv hl k) k
theorem own_astore (W : own_W p l e R s m args below meth c Z y ret code ml ws T h cells slots) {i : Nat} {v : Value} {pc : Nat} (pc' : Nat) {L : Array Slot} (L' : Array Slot) {st : List Value} (hd : decode code pc = .ok (.astore i, 2)) (hv : v.isRef = true) (hl : storeLocals L i v = some L') (hp : pc + 2 = pc') (k : own_Go p e below C T (mkF m pc' L' st)) : own_Go p e below C T (mkF m pc L (v :: st)) := by
  have hsz := own_le W
  obtain ⟨⟨hx, hby, hml, hown, hnm, hrt, hlk, hZ⟩, locs, X, eT, N⟩ := W
  subst hp
  exact own_st (fun _ k => XS.astore X.here hx rfl (hb hby hd) rfl hv hl k) k
theorem own_iinc (W : own_W p l e R s m args below meth c Z y ret code ml ws T h cells slots) {i : Nat} {cst : Int} {v : Int32} (v' : Int32) {pc : Nat} (pc' : Nat) {L : Array Slot} (L' : Array Slot) {st : List Value} (hd : decode code pc = .ok (.iinc i cst, 3)) (hv : L[i]? = some (.val (.int v))) (hv' : v + Int32.ofInt cst = v') (hl : storeLocals L i (.int v') = some L') (hp : pc + 3 = pc') (k : own_Go p e below C T (mkF m pc' L' st)) : own_Go p e below C T (mkF m pc L st) := by
  have hsz := own_le W
  obtain ⟨⟨hx, hby, hml, hown, hnm, hrt, hlk, hZ⟩, locs, X, eT, N⟩ := W
  subst hp hv'
  exact own_st (fun _ k => XS.iinc X.here hx rfl (hb hby hd) hv hl k) k
theorem own_dup (W : own_W p l e R s m args below meth c Z y ret code ml ws T h cells slots) {v : Value} {pc : Nat} (pc' : Nat) {L : Array Slot} {st : List Value} (hd : decode code pc = .ok (.dup, 1)) (hc : v.category = 1) (hp : pc + 1 = pc') (k : own_Go p e below C T (mkF m pc' L (v :: v :: st))) : own_Go p e below C T (mkF m pc L (v :: st)) := by
  have hsz := own_le W
  obtain ⟨⟨hx, hby, hml, hown, hnm, hrt, hlk, hZ⟩, locs, X, eT, N⟩ := W
  subst hp
  exact own_st (fun _ k => XS.dup X.here hx rfl (hb hby hd) rfl hc k) k
theorem own_pop (W : own_W p l e R s m args below meth c Z y ret code ml ws T h cells slots) {v : Value} {pc : Nat} (pc' : Nat) {L : Array Slot} {st : List Value} (hd : decode code pc = .ok (.pop, 1)) (hc : v.category = 1) (hp : pc + 1 = pc') (k : own_Go p e below C T (mkF m pc' L st)) : own_Go p e below C T (mkF m pc L (v :: st)) := by
  have hsz := own_le W
  obtain ⟨⟨hx, hby, hml, hown, hnm, hrt, hlk, hZ⟩, locs, X, eT, N⟩ := W
  subst hp
  exact own_st (fun _ k => XS.pop X.here hx rfl (hb hby hd) rfl hc k) k
theorem own_dup_x1 (W : own_W p l e R s m args below meth c Z y ret code ml ws T h cells slots) {u v : Value} {pc : Nat} (pc' : Nat) {L : Array Slot} {st : List Value} (hd : decode code pc = .ok (.dup_x1, 1)) (hc : v.category = 1) (hc' : u.category = 1) (hp : pc + 1 = pc') (k : own_Go p e below C T (mkF m pc' L (v :: u :: v :: st))) : own_Go p e below C T (mkF m pc L (v :: u :: st)) := by
  have hsz := own_le W
  obtain ⟨⟨hx, hby, hml, hown, hnm, hrt, hlk, hZ⟩, locs, X, eT, N⟩ := W
  subst hp
  exact own_st (fun _ k => XS.dupX1 X.here hx rfl (hb hby hd) rfl hc hc' k) k
theorem own_goto (W : own_W p l e R s m args below meth c Z y ret code ml ws T h cells slots) {o : Int} {pc : Nat} (pc' : Nat) {L : Array Slot} {st : List Value} (hd : decode code pc = .ok (.goto o, 3)) (ho : 0 ≤ (pc : Int) + o) (hp : ((pc : Int) + o).toNat = pc') (k : own_Go p e below C T (mkF m pc' L st)) : own_Go p e below C T (mkF m pc L st) := by
  have hsz := own_le W
  obtain ⟨⟨hx, hby, hml, hown, hnm, hrt, hlk, hZ⟩, locs, X, eT, N⟩ := W
  exact own_st (fun _ k => XS.goto X.here hx rfl rfl (hb hby hd) ho hp k) k
theorem own_ifY (W : own_W p l e R s m args below meth c Z y ret code ml ws T h cells slots) {cd : ClassFile.Cond} {o : Int} {u : Int32} {pc : Nat} (pc' : Nat) {L : Array Slot} {st : List Value} (hd : decode code pc = .ok (.ifCond cd o, 3)) (hc : ifCond.holds cd u = true) (ho : 0 ≤ (pc : Int) + o) (hp : ((pc : Int) + o).toNat = pc') (k : own_Go p e below C T (mkF m pc' L st)) : own_Go p e below C T (mkF m pc L (.int u :: st)) := by
  have hsz := own_le W
  obtain ⟨⟨hx, hby, hml, hown, hnm, hrt, hlk, hZ⟩, locs, X, eT, N⟩ := W
  exact own_st (fun _ k => XS.ifYes X.here hx rfl rfl (hb hby hd) rfl hc ho hp k) k
theorem own_ifN (W : own_W p l e R s m args below meth c Z y ret code ml ws T h cells slots) {cd : ClassFile.Cond} {o : Int} {u : Int32} {pc : Nat} (pc' : Nat) {L : Array Slot} {st : List Value} (hd : decode code pc = .ok (.ifCond cd o, 3)) (hc : ifCond.holds cd u = false) (hp : pc + 3 = pc') (k : own_Go p e below C T (mkF m pc' L st)) : own_Go p e below C T (mkF m pc L (.int u :: st)) := by
  have hsz := own_le W
  obtain ⟨⟨hx, hby, hml, hown, hnm, hrt, hlk, hZ⟩, locs, X, eT, N⟩ := W
  subst hp
  exact own_st (fun _ k => XS.ifNo X.here hx rfl (hb hby hd) rfl hc k) k
theorem own_icmpY (W : own_W p l e R s m args below meth c Z y ret code ml ws T h cells slots) {cd : ClassFile.Cond} {o : Int} {u v : Int32} {pc : Nat} (pc' : Nat) {L : Array Slot} {st : List Value} (hd : decode code pc = .ok (.if_icmp cd o, 3)) (hc : if_icmp.holds cd u v = true) (ho : 0 ≤ (pc : Int) + o) (hp : ((pc : Int) + o).toNat = pc') (k : own_Go p e below C T (mkF m pc' L st)) : own_Go p e below C T (mkF m pc L (.int v :: .int u :: st)) := by
  have hsz := own_le W
  obtain ⟨⟨hx, hby, hml, hown, hnm, hrt, hlk, hZ⟩, locs, X, eT, N⟩ := W
  exact own_st (fun _ k => XS.icmpYes X.here hx rfl rfl (hb hby hd) rfl hc ho hp k) k
theorem own_icmpN (W : own_W p l e R s m args below meth c Z y ret code ml ws T h cells slots) {cd : ClassFile.Cond} {o : Int} {u v : Int32} {pc : Nat} (pc' : Nat) {L : Array Slot} {st : List Value} (hd : decode code pc = .ok (.if_icmp cd o, 3)) (hc : if_icmp.holds cd u v = false) (hp : pc + 3 = pc') (k : own_Go p e below C T (mkF m pc' L st)) : own_Go p e below C T (mkF m pc L (.int v :: .int u :: st)) := by
  have hsz := own_le W
  obtain ⟨⟨hx, hby, hml, hown, hnm, hrt, hlk, hZ⟩, locs, X, eT, N⟩ := W
  subst hp
  exact own_st (fun _ k => XS.icmpNo X.here hx rfl (hb hby hd) rfl hc k) k
theorem own_ifnullY (W : own_W p l e R s m args below meth c Z y ret code ml ws T h cells slots) {o : Int} {b : Addr} {pc : Nat} (pc' : Nat) {L : Array Slot} {st : List Value} (hd : decode code pc = .ok (.ifnull o, 3)) (ho : 0 ≤ (pc : Int) + o) (hp : ((pc : Int) + o).toNat = pc') (k : own_Go p e below C T (mkF m pc' L st)) : own_Go p e below C T (mkF m pc L (.null :: st)) := by
  have hsz := own_le W
  obtain ⟨⟨hx, hby, hml, hown, hnm, hrt, hlk, hZ⟩, locs, X, eT, N⟩ := W
  exact own_st (fun _ k => XS.ifnullYes X.here hx rfl rfl (hb hby hd) rfl ho hp k) k
theorem own_ifnullN (W : own_W p l e R s m args below meth c Z y ret code ml ws T h cells slots) {o : Int} {b : Addr} {pc : Nat} (pc' : Nat) {L : Array Slot} {st : List Value} (hd : decode code pc = .ok (.ifnull o, 3)) (hp : pc + 3 = pc') (k : own_Go p e below C T (mkF m pc' L st)) : own_Go p e below C T (mkF m pc L (.ref b :: st)) := by
  have hsz := own_le W
  obtain ⟨⟨hx, hby, hml, hown, hnm, hrt, hlk, hZ⟩, locs, X, eT, N⟩ := W
  subst hp
  exact own_st (fun _ k => XS.ifnullNo X.here hx rfl (hb hby hd) rfl k) k
theorem own_ifnonnullY (W : own_W p l e R s m args below meth c Z y ret code ml ws T h cells slots) {o : Int} {b : Addr} {pc : Nat} (pc' : Nat) {L : Array Slot} {st : List Value} (hd : decode code pc = .ok (.ifnonnull o, 3)) (ho : 0 ≤ (pc : Int) + o) (hp : ((pc : Int) + o).toNat = pc') (k : own_Go p e below C T (mkF m pc' L st)) : own_Go p e below C T (mkF m pc L (.ref b :: st)) := by
  have hsz := own_le W
  obtain ⟨⟨hx, hby, hml, hown, hnm, hrt, hlk, hZ⟩, locs, X, eT, N⟩ := W
  exact own_st (fun _ k => XS.ifnonnullYes X.here hx rfl rfl (hb hby hd) rfl ho hp k) k
theorem own_ifnonnullN (W : own_W p l e R s m args below meth c Z y ret code ml ws T h cells slots) {o : Int} {b : Addr} {pc : Nat} (pc' : Nat) {L : Array Slot} {st : List Value} (hd : decode code pc = .ok (.ifnonnull o, 3)) (hp : pc + 3 = pc') (k : own_Go p e below C T (mkF m pc' L st)) : own_Go p e below C T (mkF m pc L (.null :: st)) := by
  have hsz := own_le W
  obtain ⟨⟨hx, hby, hml, hown, hnm, hrt, hlk, hZ⟩, locs, X, eT, N⟩ := W
  subst hp
  exact own_st (fun _ k => XS.ifnonnullNo X.here hx rfl (hb hby hd) rfl k) k
theorem own_acmp (W : own_W p l e R s m args below meth c Z y ret code ml ws T h cells slots) {cd : ACond} {o : Int} {u v : Value} {same : Bool} {pc : Nat} (pc' : Nat) {L : Array Slot} {st : List Value} (hd : decode code pc = .ok (.if_acmp cd o, 3)) (h1 : u.isRef = true) (h2 : v.isRef = true) (hq : decide (u = v) = same) (ho : 0 ≤ (pc : Int) + o) (hp : pc' = if acV cd same = true then ((pc : Int) + o).toNat else pc + 3) (k : own_Go p e below C T (mkF m pc' L st)) : own_Go p e below C T (mkF m pc L (v :: u :: st)) := by
  have hsz := own_le W
  obtain ⟨⟨hx, hby, hml, hown, hnm, hrt, hlk, hZ⟩, locs, X, eT, N⟩ := W
  exact own_st (fun _ k => Jvm.RoadKit.acmp X hx rfl h1 h2 rfl (hb hby hd) rfl hq ho hp k) k
theorem own_retI {Q : Option Value → Heap → Prop} {kc ks : Nat} {z : Int32}  (W : own_W p l e R s m args below meth c Z y (some .int) code ml ws T h cells slots) (hC : ∀ v L u, own_Fw s ws L → Q v u.heap → FrameEnd s (.returned v) u L kc ks → C (.returned v) u) (hcl : cells ≤ kc) (hsl : slots ≤ ks) {pc : Nat} {L : Array Slot} {st : List Value} (hd : decode code pc = .ok (.ireturn, 1)) (hq : Q (some (.int z)) h) : own_Go p e below C T (mkF m pc L (.int z :: st)) := by
  have hsz := own_le W
  obtain ⟨⟨hx, hby, hml, hown, hnm, hrt, hlk, hZ⟩, locs, X, eT, N⟩ := W
  subst eT
  obtain ⟨fs, hr, hrun, hended, hW, hsame⟩ := X.leave (v := (some (.int z))) (fun h => by rw [hrt] at h; cases h) hlk
  refine ⟨_, _, ?_, hrun, hended, hC _ _ _ N hq ⟨⟨_, rfl⟩, hW, hsame.mono hcl hsl⟩⟩
  have hn : narrow .int (.int z) = .int z := rfl
  show Steps p.tables e below (T.setTop { method := m, pc := pc, locals := L, stack := _ :: st, locked := none }) _
  have hm' := X.method'
  jvm_step X.here [X.here.top, hx, (hb hby hd), hm', hrt, hn]
  first | (intro acts; rw [hr _ acts rfl rfl rfl]) | rw [hr _ _ rfl rfl rfl]
  exact Steps.refl _
theorem own_retZ {Q : Option Value → Heap → Prop} {kc ks : Nat} {z : Int32}  (W : own_W p l e R s m args below meth c Z y (some .boolean) code ml ws T h cells slots) (hC : ∀ v L u, own_Fw s ws L → Q v u.heap → FrameEnd s (.returned v) u L kc ks → C (.returned v) u) (hcl : cells ≤ kc) (hsl : slots ≤ ks) {pc : Nat} {L : Array Slot} {st : List Value} (hd : decode code pc = .ok (.ireturn, 1)) (hq : Q (some (.int (z &&& 1))) h) : own_Go p e below C T (mkF m pc L (.int z :: st)) := by
  have hsz := own_le W
  obtain ⟨⟨hx, hby, hml, hown, hnm, hrt, hlk, hZ⟩, locs, X, eT, N⟩ := W
  subst eT
  obtain ⟨fs, hr, hrun, hended, hW, hsame⟩ := X.leave (v := (some (.int (z &&& 1)))) (fun h => by rw [hrt] at h; cases h) hlk
  refine ⟨_, _, ?_, hrun, hended, hC _ _ _ N hq ⟨⟨_, rfl⟩, hW, hsame.mono hcl hsl⟩⟩
  exact retN X hx (t := .boolean) hrt (by simp) (hb hby hd) hr
theorem own_retB {Q : Option Value → Heap → Prop} {kc ks : Nat} {z : Int32}  (W : own_W p l e R s m args below meth c Z y (some .byte) code ml ws T h cells slots) (hC : ∀ v L u, own_Fw s ws L → Q v u.heap → FrameEnd s (.returned v) u L kc ks → C (.returned v) u) (hcl : cells ≤ kc) (hsl : slots ≤ ks) {pc : Nat} {L : Array Slot} {st : List Value} (hd : decode code pc = .ok (.ireturn, 1)) (hq : Q (some (.int z.toInt8.toInt32)) h) : own_Go p e below C T (mkF m pc L (.int z :: st)) := by
  have hsz := own_le W
  obtain ⟨⟨hx, hby, hml, hown, hnm, hrt, hlk, hZ⟩, locs, X, eT, N⟩ := W
  subst eT
  obtain ⟨fs, hr, hrun, hended, hW, hsame⟩ := X.leave (v := (some (.int z.toInt8.toInt32))) (fun h => by rw [hrt] at h; cases h) hlk
  refine ⟨_, _, ?_, hrun, hended, hC _ _ _ N hq ⟨⟨_, rfl⟩, hW, hsame.mono hcl hsl⟩⟩
  exact retN X hx (t := .byte) hrt (by simp) (hb hby hd) hr
theorem own_retC {Q : Option Value → Heap → Prop} {kc ks : Nat} {z : Int32}  (W : own_W p l e R s m args below meth c Z y (some .char) code ml ws T h cells slots) (hC : ∀ v L u, own_Fw s ws L → Q v u.heap → FrameEnd s (.returned v) u L kc ks → C (.returned v) u) (hcl : cells ≤ kc) (hsl : slots ≤ ks) {pc : Nat} {L : Array Slot} {st : List Value} (hd : decode code pc = .ok (.ireturn, 1)) (hq : Q (some (.int z.toUInt32.toUInt16.toUInt32.toInt32)) h) : own_Go p e below C T (mkF m pc L (.int z :: st)) := by
  have hsz := own_le W
  obtain ⟨⟨hx, hby, hml, hown, hnm, hrt, hlk, hZ⟩, locs, X, eT, N⟩ := W
  subst eT
  obtain ⟨fs, hr, hrun, hended, hW, hsame⟩ := X.leave (v := (some (.int z.toUInt32.toUInt16.toUInt32.toInt32))) (fun h => by rw [hrt] at h; cases h) hlk
  refine ⟨_, _, ?_, hrun, hended, hC _ _ _ N hq ⟨⟨_, rfl⟩, hW, hsame.mono hcl hsl⟩⟩
  exact retN X hx (t := .char) hrt (by simp) (hb hby hd) hr
theorem own_retJ {Q : Option Value → Heap → Prop} {kc ks : Nat} {z : Int64}  (W : own_W p l e R s m args below meth c Z y (some .long) code ml ws T h cells slots) (hC : ∀ v L u, own_Fw s ws L → Q v u.heap → FrameEnd s (.returned v) u L kc ks → C (.returned v) u) (hcl : cells ≤ kc) (hsl : slots ≤ ks) {pc : Nat} {L : Array Slot} {st : List Value} (hd : decode code pc = .ok (.lreturn, 1)) (hq : Q (some (.long z)) h) : own_Go p e below C T (mkF m pc L (.long z :: st)) := by
  have hsz := own_le W
  obtain ⟨⟨hx, hby, hml, hown, hnm, hrt, hlk, hZ⟩, locs, X, eT, N⟩ := W
  subst eT
  obtain ⟨fs, hr, hrun, hended, hW, hsame⟩ := X.leave (v := (some (.long z))) (fun h => by rw [hrt] at h; cases h) hlk
  refine ⟨_, _, ?_, hrun, hended, hC _ _ _ N hq ⟨⟨_, rfl⟩, hW, hsame.mono hcl hsl⟩⟩
  have hn : narrow .long (.long z) = .long z := rfl
  show Steps p.tables e below (T.setTop { method := m, pc := pc, locals := L, stack := _ :: st, locked := none }) _
  have hm' := X.method'
  jvm_step X.here [X.here.top, hx, (hb hby hd), hm', hrt, hn]
  first | (intro acts; rw [hr _ acts rfl rfl rfl]) | rw [hr _ _ rfl rfl rfl]
  exact Steps.refl _
theorem own_retV {Q : Option Value → Heap → Prop} {kc ks : Nat}  (W : own_W p l e R s m args below meth c Z y none code ml ws T h cells slots) (hC : ∀ v L u, own_Fw s ws L → Q v u.heap → FrameEnd s (.returned v) u L kc ks → C (.returned v) u) (hcl : cells ≤ kc) (hsl : slots ≤ ks) {pc : Nat} {L : Array Slot} (hd : decode code pc = .ok (.return_, 1)) (hq : Q none h) : own_Go p e below C T (mkF m pc L []) := by
  have hsz := own_le W
  obtain ⟨⟨hx, hby, hml, hown, hnm, hrt, hlk, hZ⟩, locs, X, eT, N⟩ := W
  subst eT
  obtain ⟨fs, hr, hrun, hended, hW, hsame⟩ := X.leave (v := none) (fun _ => rfl) hlk
  refine ⟨_, _, ?_, hrun, hended, hC _ _ _ N hq ⟨⟨_, rfl⟩, hW, hsame.mono hcl hsl⟩⟩
  exact X.returnOut hx hrt (hb hby hd) hr
theorem own_retA {Q : Option Value → Heap → Prop} {kc ks : Nat} {rt : FieldType} {z : Value} (W : own_W p l e R s m args below meth c Z y (some rt) code ml ws T h cells slots) (hC : ∀ v L u, own_Fw s ws L → Q v u.heap → FrameEnd s (.returned v) u L kc ks → C (.returned v) u) (hcl : cells ≤ kc) (hsl : slots ≤ ks) (hrr : rt.isReference = true) (hzr : z.isRef = true) {pc : Nat} {L : Array Slot} {st : List Value} (hd : decode code pc = .ok (.areturn, 1)) (hn : narrow rt z = z) (hq : Q (some z) h) : own_Go p e below C T (mkF m pc L (z :: st)) := by
  have hsz := own_le W
  obtain ⟨⟨hx, hby, hml, hown, hnm, hrt, hlk, hZ⟩, locs, X, eT, N⟩ := W
  subst eT
  obtain ⟨fs, hr, hrun, hended, hW, hsame⟩ := X.leave (v := some z) (fun h => by rw [hrt] at h; cases h) hlk
  refine ⟨_, _, ?_, hrun, hended, hC _ _ _ N hq ⟨⟨_, rfl⟩, hW, hsame.mono hcl hsl⟩⟩
  exact retOut X hx hrt hn (Or.inr (Or.inr (Or.inr (Or.inr ⟨rfl, hrr, hzr⟩)))) (hb hby hd) hr
/-- an array by its places: n of them, place j holds f j -/
def own_A (Z : State) (h : Heap) (a : Addr) (ty : FieldType) (n : Nat) (f : Nat → Value) : Prop := ∃ cl : Cell, Arr Z h a cl ty ∧ cl.slots.size = n ∧ ∀ j, j < n → cl.slots[j]? = some (f j)
def own_upd (f : Nat → Value) (k : Nat) (v : Value) : Nat → Value := fun j => if j = k then v else f j
theorem own_A.lt {a : Addr} {ty : FieldType} {n : Nat} {f : Nat → Value} (F : own_A Z h a ty n f) : a < h.size := by obtain ⟨cl, A, -⟩ := F; exact A.lt
theorem own_A.ext {h' : Heap} {a : Addr} {ty : FieldType} {n : Nat} {f : Nat → Value} (F : own_A Z h a ty n f) (E : Ext h h') : own_A Z h' a ty n f := by obtain ⟨cl, A, r⟩ := F; exact ⟨cl, A.ext E, r⟩
theorem own_A.other {h' : Heap} {a b : Addr} {sl : Nat} {v : Value} {ty : FieldType} {n : Nat} {f : Nat → Value} (F : own_A Z h b ty n f) (q : Wr h h' a sl v) (ne : b ≠ a) : own_A Z h' b ty n f := by obtain ⟨cl, A, r⟩ := F; exact ⟨cl, A.other q ne, r⟩
theorem own_A.keep {h' : Heap} {ws : List Addr} {a : Addr} {ty : FieldType} {n : Nat} {f : Nat → Value} (F : own_A Z h a ty n f) (K : Keep h h' ws) (q : a ∉ ws) : own_A Z h' a ty n f := by obtain ⟨cl, A, r⟩ := F; exact ⟨cl, ⟨K.2.1 a cl A.1 q, A.2⟩, r⟩
theorem own_A.congr {a : Addr} {ty : FieldType} {n : Nat} {f g : Nat → Value} (F : own_A Z h a ty n f) (q : ∀ j, j < n → f j = g j) : own_A Z h a ty n g := by obtain ⟨cl, A, r1, r2⟩ := F; exact ⟨cl, A, r1, fun j hj => by rw [r2 j hj, q j hj]⟩
theorem own_nn {z : Int32} {k : Nat} (hz : z.toInt = (k : Int)) : ¬ z < 0 := by rw [Int32.lt_iff_toInt_lt]; have : (0 : Int32).toInt = 0 := rfl; omega
theorem own_cl {z : Int32} {k : Nat} (hz : z.toInt = (k : Int)) : z.toNatClampNeg = k := by
  have h := nat_of (own_nn hz)
  omega
theorem own_in {z : Int32} {k n : Nat} {cl : Cell} (hz : z.toInt = (k : Int)) (hs : cl.slots.size = n) (hk : k < n) : ¬ (z < 0 ∨ cl.slots.size ≤ z.toNatClampNeg) := by
  rintro (q | q)
  · exact own_nn hz q
  · rw [own_cl hz] at q; omega
theorem own_A.set {h' : Heap} {a : Addr} {ty : FieldType} {n k : Nat} {f : Nat → Value} {v : Value} (F : own_A Z h a ty n f) (q : Wr h h' a k v) (hk : k < n) : own_A Z h' a ty n (own_upd f k v) := by
  obtain ⟨cl, A, r1, r2⟩ := F
  refine ⟨cl.setSlot k v, Arr.same q A, by rw [sz_set]; exact r1, fun j hj => ?_⟩
  by_cases e : j = k
  · subst e; simp [own_upd, Cell.setSlot, r1, hj]
  · simp only [own_upd, if_neg e, Cell.setSlot]
    rw [Array.getElem?_setIfInBounds_ne (Ne.symm e)]; exact r2 j hj
theorem own_newarray (W : own_W p l e R s m args below meth c Z y ret code ml ws T h cells slots) {aty : ArrayType} {z : Int32} (N cap : Nat) {pc : Nat} (pc' : Nat) {L : Array Slot} {st : List Value} (hd : decode code pc = .ok (.newarray aty, 2)) (w : (Jvm.Cond.arrayClass (newarray.typeOf aty)).before a0 Z = true) (hz : z.toInt = (N : Int)) (hcap : N ≤ cap) (hb8 : cap * 8 ≤ 536870912) (hc : cells + 1 ≤ R.cells) (hl : slots + cap ≤ R.slots) (hp : pc + 2 = pc') (k : ∀ T' h' a, own_W p l e R s m args below meth c Z y ret code ml ws T' h' (cells + 1) (slots + cap) → Ext h h' → a = h.size → s.heap.size ≤ a → own_A Z h' a (newarray.typeOf aty) N (fun _ => defaultValue (newarray.typeOf aty)) → own_Go p e below C T' (mkF m pc' L (.ref a :: st))) : own_Go p e below C T (mkF m pc L (.int z :: st)) := by
  have hsz := own_le W
  obtain ⟨⟨hx, hby, hml, hown, hnm, hrt, hlk, hZ⟩, locs, X, eT, Nf⟩ := W
  subst hp
  have hcl := own_cl hz
  obtain ⟨T', h', cA, X', e', E', A', st'⟩ := newP X hx hZ w eT (g := mkF m pc L (.int z :: st)) rfl (hb hby hd) rfl (own_nn hz) (cap := cap) (by rw [hcl]; exact hcap) hb8 hc hl
  refine own_st st' (k T' h' h.size ⟨⟨hx, hby, hml, hown, hnm, hrt, hlk, hZ⟩, locs, X', e', Nf⟩ E' rfl hsz ⟨_, A', by rw [sz_new, hcl], fun j hj => ?_⟩)
  simp [newA, hcl, hj]
theorem own_baload (W : own_W p l e R s m args below meth c Z y ret code ml ws T h cells slots) {a : Addr} {z : Int32} {n : Nat} {f : Nat → Value} (k : Nat) (v : Int32) {pc : Nat} (pc' : Nat) {L : Array Slot} {st : List Value} (hd : decode code pc = .ok (.baload, 1)) (F : own_A Z h a .byte n f) (hz : z.toInt = (k : Int)) (hk : k < n) (hv : f k = (.int v)) (hp : pc + 1 = pc') (kk : own_Go p e below C T (mkF m pc' L ((.int v) :: st))) : own_Go p e below C T (mkF m pc L (.int z :: .ref a :: st)) := by
  have hsz := own_le W
  obtain ⟨⟨hx, hby, hml, hown, hnm, hrt, hlk, hZ⟩, locs, X, eT, N⟩ := W
  subst hp eT
  obtain ⟨cl, A, hs, hf⟩ := F
  have hat : cl.slots[z.toNatClampNeg]? = some (.int v) := by rw [own_cl hz, hf k hk, hv]
  exact own_st (fun t q => X.baloadBytes hx A.1 (State.isArrayOf_alike hZ.alike A.2.1) A.2.2 (own_in hz hs hk) hat (g := mkF m pc L (.int z :: .ref a :: st)) rfl rfl (hb hby hd) t q) kk
theorem own_iaload (W : own_W p l e R s m args below meth c Z y ret code ml ws T h cells slots) {a : Addr} {z : Int32} {n : Nat} {f : Nat → Value} (k : Nat) (v : Int32) {pc : Nat} (pc' : Nat) {L : Array Slot} {st : List Value} (hd : decode code pc = .ok (.iaload, 1)) (F : own_A Z h a .int n f) (hz : z.toInt = (k : Int)) (hk : k < n) (hv : f k = (.int v)) (hp : pc + 1 = pc') (kk : own_Go p e below C T (mkF m pc' L ((.int v) :: st))) : own_Go p e below C T (mkF m pc L (.int z :: .ref a :: st)) := by
  have hsz := own_le W
  obtain ⟨⟨hx, hby, hml, hown, hnm, hrt, hlk, hZ⟩, locs, X, eT, N⟩ := W
  subst hp eT
  obtain ⟨cl, A, hs, hf⟩ := F
  have hat : cl.slots[z.toNatClampNeg]? = some (.int v) := by rw [own_cl hz, hf k hk, hv]
  exact own_st (fun t q => X.iaload hx A.1 (State.isArrayOf_alike hZ.alike A.2.1) A.2.2 (own_in hz hs hk) hat (g := mkF m pc L (.int z :: .ref a :: st)) rfl rfl (hb hby hd) t q) kk
theorem own_laload (W : own_W p l e R s m args below meth c Z y ret code ml ws T h cells slots) {a : Addr} {z : Int32} {n : Nat} {f : Nat → Value} (k : Nat) (v : Int64) {pc : Nat} (pc' : Nat) {L : Array Slot} {st : List Value} (hd : decode code pc = .ok (.laload, 1)) (F : own_A Z h a .long n f) (hz : z.toInt = (k : Int)) (hk : k < n) (hv : f k = (.long v)) (hp : pc + 1 = pc') (kk : own_Go p e below C T (mkF m pc' L ((.long v) :: st))) : own_Go p e below C T (mkF m pc L (.int z :: .ref a :: st)) := by
  have hsz := own_le W
  obtain ⟨⟨hx, hby, hml, hown, hnm, hrt, hlk, hZ⟩, locs, X, eT, N⟩ := W
  subst hp eT
  obtain ⟨cl, A, hs, hf⟩ := F
  have hat : cl.slots[z.toNatClampNeg]? = some (.long v) := by rw [own_cl hz, hf k hk, hv]
  exact own_st (fun t q => X.laload hx A.1 (State.isArrayOf_alike hZ.alike A.2.1) A.2.2 (own_in hz hs hk) hat (g := mkF m pc L (.int z :: .ref a :: st)) rfl rfl (hb hby hd) t q) kk
theorem own_caload (W : own_W p l e R s m args below meth c Z y ret code ml ws T h cells slots) {a : Addr} {z : Int32} {n : Nat} {f : Nat → Value} (k : Nat) (v : Int32) {pc : Nat} (pc' : Nat) {L : Array Slot} {st : List Value} (hd : decode code pc = .ok (.caload, 1)) (F : own_A Z h a .char n f) (hz : z.toInt = (k : Int)) (hk : k < n) (hv : f k = (.int v)) (hp : pc + 1 = pc') (kk : own_Go p e below C T (mkF m pc' L ((.int v) :: st))) : own_Go p e below C T (mkF m pc L (.int z :: .ref a :: st)) := by
  have hsz := own_le W
  obtain ⟨⟨hx, hby, hml, hown, hnm, hrt, hlk, hZ⟩, locs, X, eT, N⟩ := W
  subst hp eT
  obtain ⟨cl, A, hs, hf⟩ := F
  have hat : cl.slots[z.toNatClampNeg]? = some (.int v) := by rw [own_cl hz, hf k hk, hv]
  exact own_st (fun t q => X.caload hx A.1 (State.isArrayOf_alike hZ.alike A.2.1) A.2.2 (own_in hz hs hk) hat (g := mkF m pc L (.int z :: .ref a :: st)) rfl rfl (hb hby hd) t q) kk
theorem own_bastore (W : own_W p l e R s m args below meth c Z y ret code ml ws T h cells slots) {a : Addr} {z : Int32} {n : Nat} {f : Nat → Value} {xx : Int32} (k : Nat) {pc : Nat} (pc' : Nat) {L : Array Slot} {st : List Value} (hd : decode code pc = .ok (.bastore, 1)) (F : own_A Z h a .byte n f) (ha : a ∈ ws ∨ s.heap.size ≤ a) (hz : z.toInt = (k : Int)) (hk : k < n) (hp : pc + 1 = pc') (kk : ∀ T' h', own_W p l e R s m args below meth c Z y ret code ml ws T' h' cells slots → Wr h h' a k (.int xx.toInt8.toInt32) → own_A Z h' a .byte n (own_upd f k (.int xx.toInt8.toInt32)) → own_Go p e below C T' (mkF m pc' L st)) : own_Go p e below C T (mkF m pc L (.int xx :: .int z :: .ref a :: st)) := by
  have hsz := own_le W
  obtain ⟨⟨hx, hby, hml, hown, hnm, hrt, hlk, hZ⟩, locs, X, eT, N⟩ := W
  subst hp
  have F' := F
  obtain ⟨cl, A, hs, hf⟩ := F
  obtain ⟨T', h', X', e', W', st'⟩ := stB X hx hZ eT A (j := z) (own_in hz hs hk) (g := mkF m pc L (.int xx :: .int z :: .ref a :: st)) rfl rfl (hb hby hd)
  rw [own_cl hz] at W'
  exact own_st st' (kk T' h' ⟨⟨hx, hby, hml, hown, hnm, hrt, hlk, hZ⟩, _, X', e', own_Fw_snoc N ha⟩ W' (F'.set W' hk))
theorem own_iastore (W : own_W p l e R s m args below meth c Z y ret code ml ws T h cells slots) {a : Addr} {z : Int32} {n : Nat} {f : Nat → Value} {xx : Int32} (k : Nat) {pc : Nat} (pc' : Nat) {L : Array Slot} {st : List Value} (hd : decode code pc = .ok (.iastore, 1)) (F : own_A Z h a .int n f) (ha : a ∈ ws ∨ s.heap.size ≤ a) (hz : z.toInt = (k : Int)) (hk : k < n) (hp : pc + 1 = pc') (kk : ∀ T' h', own_W p l e R s m args below meth c Z y ret code ml ws T' h' cells slots → Wr h h' a k (.int xx) → own_A Z h' a .int n (own_upd f k (.int xx)) → own_Go p e below C T' (mkF m pc' L st)) : own_Go p e below C T (mkF m pc L (.int xx :: .int z :: .ref a :: st)) := by
  have hsz := own_le W
  obtain ⟨⟨hx, hby, hml, hown, hnm, hrt, hlk, hZ⟩, locs, X, eT, N⟩ := W
  subst hp
  have F' := F
  obtain ⟨cl, A, hs, hf⟩ := F
  obtain ⟨T', h', X', e', W', st'⟩ := stI X hx hZ eT A (j := z) (own_in hz hs hk) (g := mkF m pc L (.int xx :: .int z :: .ref a :: st)) rfl rfl (hb hby hd)
  rw [own_cl hz] at W'
  exact own_st st' (kk T' h' ⟨⟨hx, hby, hml, hown, hnm, hrt, hlk, hZ⟩, _, X', e', own_Fw_snoc N ha⟩ W' (F'.set W' hk))
theorem own_lastore (W : own_W p l e R s m args below meth c Z y ret code ml ws T h cells slots) {a : Addr} {z : Int32} {n : Nat} {f : Nat → Value} {xx : Int64} (k : Nat) {pc : Nat} (pc' : Nat) {L : Array Slot} {st : List Value} (hd : decode code pc = .ok (.lastore, 1)) (F : own_A Z h a .long n f) (ha : a ∈ ws ∨ s.heap.size ≤ a) (hz : z.toInt = (k : Int)) (hk : k < n) (hp : pc + 1 = pc') (kk : ∀ T' h', own_W p l e R s m args below meth c Z y ret code ml ws T' h' cells slots → Wr h h' a k (.long xx) → own_A Z h' a .long n (own_upd f k (.long xx)) → own_Go p e below C T' (mkF m pc' L st)) : own_Go p e below C T (mkF m pc L (.long xx :: .int z :: .ref a :: st)) := by
  have hsz := own_le W
  obtain ⟨⟨hx, hby, hml, hown, hnm, hrt, hlk, hZ⟩, locs, X, eT, N⟩ := W
  subst hp
  have F' := F
  obtain ⟨cl, A, hs, hf⟩ := F
  obtain ⟨T', h', X', e', W', st'⟩ := stJ X hx hZ eT A (j := z) (own_in hz hs hk) (g := mkF m pc L (.long xx :: .int z :: .ref a :: st)) rfl rfl (hb hby hd)
  rw [own_cl hz] at W'
  exact own_st st' (kk T' h' ⟨⟨hx, hby, hml, hown, hnm, hrt, hlk, hZ⟩, _, X', e', own_Fw_snoc N ha⟩ W' (F'.set W' hk))
theorem own_castore (W : own_W p l e R s m args below meth c Z y ret code ml ws T h cells slots) {a : Addr} {z : Int32} {n : Nat} {f : Nat → Value} {xx : Int32} (k : Nat) {pc : Nat} (pc' : Nat) {L : Array Slot} {st : List Value} (hd : decode code pc = .ok (.castore, 1)) (F : own_A Z h a .char n f) (ha : a ∈ ws ∨ s.heap.size ≤ a) (hz : z.toInt = (k : Int)) (hk : k < n) (hp : pc + 1 = pc') (kk : ∀ T' h', own_W p l e R s m args below meth c Z y ret code ml ws T' h' cells slots → Wr h h' a k (.int xx.toUInt32.toUInt16.toUInt32.toInt32) → own_A Z h' a .char n (own_upd f k (.int xx.toUInt32.toUInt16.toUInt32.toInt32)) → own_Go p e below C T' (mkF m pc' L st)) : own_Go p e below C T (mkF m pc L (.int xx :: .int z :: .ref a :: st)) := by
  have hsz := own_le W
  obtain ⟨⟨hx, hby, hml, hown, hnm, hrt, hlk, hZ⟩, locs, X, eT, N⟩ := W
  subst hp
  have F' := F
  obtain ⟨cl, A, hs, hf⟩ := F
  obtain ⟨T', h', X', e', W', st'⟩ := stC X hx hZ eT A (j := z) (own_in hz hs hk) (g := mkF m pc L (.int xx :: .int z :: .ref a :: st)) rfl rfl (hb hby hd)
  rw [own_cl hz] at W'
  exact own_st st' (kk T' h' ⟨⟨hx, hby, hml, hown, hnm, hrt, hlk, hZ⟩, _, X', e', own_Fw_snoc N ha⟩ W' (F'.set W' hk))
theorem own_arraylength (W : own_W p l e R s m args below meth c Z y ret code ml ws T h cells slots) {a : Addr} {ty : FieldType} {n : Nat} {f : Nat → Value} (z : Int32) {pc : Nat} (pc' : Nat) {L : Array Slot} {st : List Value} (hd : decode code pc = .ok (.arraylength, 1)) (F : own_A Z h a ty n f) (hz : n.toInt32 = z) (hp : pc + 1 = pc') (k : own_Go p e below C T (mkF m pc' L (.int z :: st))) : own_Go p e below C T (mkF m pc L (.ref a :: st)) := by
  have hsz := own_le W
  obtain ⟨⟨hx, hby, hml, hown, hnm, hrt, hlk, hZ⟩, locs, X, eT, N⟩ := W
  subst hp eT
  obtain ⟨cl, A, hs, hf⟩ := F
  subst hs hz
  exact own_st (fun t q => X.arraylength hx A.1 (State.isArrayOf_alike hZ.alike A.2.1) (g := mkF m pc L (.ref a :: st)) rfl rfl (hb hby hd) t q) k
/-- an array of references to objects of C (and of what may be stored there) -/
def own_R (Z : State) (h : Heap) (a : Addr) (C0 : String) (n : Nat) (f : Nat → Value) : Prop := ∃ cl : Cell, Arr Z h a cl (.object C0) ∧ Ovr Z cl.cls C0 ∧ cl.slots.size = n ∧ ∀ j, j < n → cl.slots[j]? = some (f j)
theorem own_R.lt {a : Addr} {C0 : String} {n : Nat} {f : Nat → Value} (F : own_R Z h a C0 n f) : a < h.size := by obtain ⟨cl, A, -⟩ := F; exact A.lt
theorem own_R.ext {h' : Heap} {a : Addr} {C0 : String} {n : Nat} {f : Nat → Value} (F : own_R Z h a C0 n f) (E : Ext h h') : own_R Z h' a C0 n f := by obtain ⟨cl, A, r⟩ := F; exact ⟨cl, A.ext E, r⟩
theorem own_R.other {h' : Heap} {a b : Addr} {sl : Nat} {v : Value} {C0 : String} {n : Nat} {f : Nat → Value} (F : own_R Z h b C0 n f) (q : Wr h h' a sl v) (ne : b ≠ a) : own_R Z h' b C0 n f := by obtain ⟨cl, A, r⟩ := F; exact ⟨cl, A.other q ne, r⟩
theorem own_R.keep {h' : Heap} {ws : List Addr} {a : Addr} {C0 : String} {n : Nat} {f : Nat → Value} (F : own_R Z h a C0 n f) (K : Keep h h' ws) (q : a ∉ ws) : own_R Z h' a C0 n f := by obtain ⟨cl, A, r⟩ := F; exact ⟨cl, ⟨K.2.1 a cl A.1 q, A.2⟩, r⟩
theorem own_R.set {h' : Heap} {a : Addr} {C0 : String} {n k : Nat} {f : Nat → Value} {v : Value} (F : own_R Z h a C0 n f) (q : Wr h h' a k v) (hk : k < n) : own_R Z h' a C0 n (own_upd f k v) := by
  obtain ⟨cl, A, O, r1, r2⟩ := F
  refine ⟨cl.setSlot k v, Arr.same q A, O, by rw [sz_set]; exact r1, fun j hj => ?_⟩
  by_cases e : j = k
  · subst e; simp [own_upd, Cell.setSlot, r1, hj]
  · simp only [own_upd, if_neg e, Cell.setSlot]
    rw [Array.getElem?_setIfInBounds_ne (Ne.symm e)]; exact r2 j hj
theorem own_anewarray (W : own_W p l e R s m args below meth c Z y ret code ml ws T h cells slots) {C0 : String} {i : Nat} {z : Int32} (N cap : Nat) {pc : Nat} (pc' : Nat) {L : Array Slot} {st : List Value} (hd : decode code pc = .ok (.anewarray i, 3)) (w1 : (Jvm.Cond.classLink y.cls i C0).before a0 Z = true) (w2 : (Jvm.Cond.arrayOver (.object C0)).before a0 Z = true) (hz : z.toInt = (N : Int)) (hcap : N ≤ cap) (hb8 : cap * 8 ≤ 536870912) (hc : cells + 1 ≤ R.cells) (hl : slots + cap ≤ R.slots) (hp : pc + 3 = pc') (k : ∀ T' h' a, own_W p l e R s m args below meth c Z y ret code ml ws T' h' (cells + 1) (slots + cap) → Ext h h' → a = h.size → s.heap.size ≤ a → own_R Z h' a C0 N (fun _ => .null) → own_Go p e below C T' (mkF m pc' L (.ref a :: st))) : own_Go p e below C T (mkF m pc L (.int z :: st)) := by
  have hsz := own_le W
  obtain ⟨⟨hx, hby, hml, hown, hnm, hrt, hlk, hZ⟩, locs, X, eT, Nf⟩ := W
  subst hp
  have hcl := own_cl hz
  obtain ⟨T', h', cA, X', e', E', A', O', st'⟩ := newR X hx hZ hown w1 w2 eT (g := mkF m pc L (.int z :: st)) rfl (hb hby hd) rfl (own_nn hz) (cap := cap) (by rw [hcl]; exact hcap) hb8 hc hl
  refine own_st st' (k T' h' h.size ⟨⟨hx, hby, hml, hown, hnm, hrt, hlk, hZ⟩, locs, X', e', Nf⟩ E' rfl hsz ⟨_, A', O', by rw [sz_new, hcl], fun j hj => ?_⟩)
  simp [newA, hcl, hj, defaultValue]
theorem own_aastore (W : own_W p l e R s m args below meth c Z y ret code ml ws T h cells slots) {a b : Addr} {C0 : String} {z : Int32} {n : Nat} {f : Nat → Value} (k : Nat) {pc : Nat} (pc' : Nat) {L : Array Slot} {st : List Value} (hd : decode code pc = .ok (.aastore, 1)) (F : own_R Z h a C0 n f) (I : Ins Z h b C0 true) (ha : a ∈ ws ∨ s.heap.size ≤ a) (hz : z.toInt = (k : Int)) (hk : k < n) (hp : pc + 1 = pc') (kk : ∀ T' h', own_W p l e R s m args below meth c Z y ret code ml ws T' h' cells slots → Wr h h' a k (.ref b) → own_R Z h' a C0 n (own_upd f k (.ref b)) → own_Go p e below C T' (mkF m pc' L st)) : own_Go p e below C T (mkF m pc L (.ref b :: .int z :: .ref a :: st)) := by
  have hsz := own_le W
  obtain ⟨⟨hx, hby, hml, hown, hnm, hrt, hlk, hZ⟩, locs, X, eT, N⟩ := W
  subst hp
  have F' := F
  obtain ⟨cl, A, O, hs, hf⟩ := F
  obtain ⟨T', h', X', e', W', st'⟩ := stR X hx hZ eT A (j := z) (own_in hz hs hk) rfl (Sto.of A O I) (g := mkF m pc L (.ref b :: .int z :: .ref a :: st)) rfl rfl (hb hby hd)
  rw [own_cl hz] at W'
  exact own_st st' (kk T' h' ⟨⟨hx, hby, hml, hown, hnm, hrt, hlk, hZ⟩, _, X', e', own_Fw_snoc N ha⟩ W' (F'.set W' hk))
theorem own_aaload (W : own_W p l e R s m args below meth c Z y ret code ml ws T h cells slots) {a : Addr} {C0 : String} {z : Int32} {n : Nat} {f : Nat → Value} (k : Nat) (v : Value) {pc : Nat} (pc' : Nat) {L : Array Slot} {st : List Value} (hd : decode code pc = .ok (.aaload, 1)) (F : own_R Z h a C0 n f) (hz : z.toInt = (k : Int)) (hk : k < n) (hv : f k = v) (hp : pc + 1 = pc') (kk : own_Go p e below C T (mkF m pc' L (v :: st))) : own_Go p e below C T (mkF m pc L (.int z :: .ref a :: st)) := by
  have hsz := own_le W
  obtain ⟨⟨hx, hby, hml, hown, hnm, hrt, hlk, hZ⟩, locs, X, eT, N⟩ := W
  subst hp eT
  obtain ⟨cl, A, O, hs, hf⟩ := F
  have hat : cl.slots[z.toNatClampNeg]? = some v := by rw [own_cl hz, hf k hk, hv]
  exact own_st (fun t q => X.aaload hx A.1 (State.isArrayOf_alike hZ.alike A.2.1) rfl A.2.2 (own_in hz hs hk) hat (g := mkF m pc L (.int z :: .ref a :: st)) rfl rfl (hb hby hd) t q) kk
theorem own_dup2 (W : own_W p l e R s m args below meth c Z y ret code ml ws T h cells slots) {a : Addr} {z : Int32} {pc : Nat} (pc' : Nat) {L : Array Slot} {st : List Value} (hd : decode code pc = .ok (.dup2, 1)) (hp : pc + 1 = pc') (k : own_Go p e below C T (mkF m pc' L (.int z :: .ref a :: .int z :: .ref a :: st))) : own_Go p e below C T (mkF m pc L (.int z :: .ref a :: st)) := by
  have hsz := own_le W
  obtain ⟨⟨hx, hby, hml, hown, hnm, hrt, hlk, hZ⟩, locs, X, eT, N⟩ := W
  subst hp
  refine own_st (fun t q => ?_) k
  show Steps p.tables e below (T.setTop { method := m, pc := pc, locals := L, stack := .int z :: .ref a :: st, locked := none }) _
  jvm_step X.here [X.here.top, hx, (hb hby hd), Value.category]
  exact q
theorem own_gd {n k : Nat} {f : Nat → Value} {d : Value} (hk : k < n) : ((List.range n).map f).getD k d = f k := by simp [List.getD, hk]
theorem own_A.arv {a : Addr} {ty : FieldType} {n : Nat} {f : Nat → Value} (F : own_A Z h a ty n f) (hn : n < 2147483648) (hf : ∀ j, j < n → fits ty (f j) = true) (d : Value) : ∃ k, Arv Z h a k ty n.toInt32 ((List.range n).map f) d := by
  obtain ⟨cl, A, r1, r2⟩ := F
  have hz : n.toInt32.toInt = (n : Int) := len_toInt hn
  refine ⟨cl.cls, cl, A, rfl, by rw [r1, own_cl hz], own_nn hz, fun k hk => ?_, fun i hi => ?_⟩
  · rw [r1] at hk
    rw [r2 k hk, own_gd hk]
  · rw [r1] at hi
    rw [own_gd hi]; exact hf i hi
theorem own_A.of_arv {a : Addr} {k : ClassId} {ty : FieldType} {z : Int32} {n : Nat} {vs : List Value} {d : Value} (F : Arv Z h a k ty z vs d) (hz : z.toInt = (n : Int)) : own_A Z h a ty n (fun j => vs.getD j d) := by
  obtain ⟨cl, A, -, r2, -, H, -⟩ := F
  rw [own_cl hz] at r2
  exact ⟨cl, A, r2, fun j hj => H j (by rw [r2]; exact hj)⟩
theorem own_cpl (f f' : Nat → Value) (n n' i j k : Nat) (d : Value) (h4 : i + k ≤ n) (h5 : j + k ≤ n') (q : Nat) (hq : q < n') :
    (((List.range n').map f').take j ++ (List.range k).map (fun t => ((List.range n).map f).getD (i + t) d) ++ ((List.range n').map f').drop (j + k)).getD q d = if j ≤ q ∧ q < j + k then f (i + (q - j)) else f' q := by
  have hl : (((List.range n').map f').take j).length = j := by simp; omega
  have hm : ((List.range k).map (fun t => ((List.range n).map f).getD (i + t) d)).length = k := by simp
  rw [List.getD_eq_getElem?_getD, List.append_assoc]
  rcases Nat.lt_or_ge q j with h1 | h1
  · rw [List.getElem?_append_left (by omega), if_neg (by omega)]
    simp [List.getElem?_take, h1, hq]
  · rw [List.getElem?_append_right (by omega), hl]
    rcases Nat.lt_or_ge q (j + k) with h2 | h2
    · rw [List.getElem?_append_left (by omega), if_pos ⟨h1, h2⟩, List.getElem?_map, List.getElem?_range (by omega)]
      simp only [Option.map_some, Option.getD_some]
      rw [own_gd (by omega)]
    · rw [List.getElem?_append_right (by omega), hm, if_neg (by omega), List.getElem?_drop]
      rw [show j + k + (q - j - k) = q by omega]
      simp [hq]
theorem own_arraycopy (W : own_W p l e R s m args below meth c Z y ret code ml [] T h cells slots) {i : Nat} {a b : Addr} {ty : FieldType} {n n' : Nat} {f f' : Nat → Value} {sp dp nn : Int32} (i1 j1 k1 wt : Nat) {pc : Nat} (pc' : Nat) {L : Array Slot} {st : List Value} (hd : decode code pc = .ok (.invokestatic i, 3)) (w1 : (Jvm.Cond.methodLink y.cls i Jvm.Stand.acN).before a0 Z = true) (w2 : (Jvm.Cond.native Jvm.Stand.acN).before a0 Z = true) (w3 : (Jvm.Cond.static Jvm.Stand.acN).before a0 Z = true) (w4 : (Jvm.Cond.initialized "java/lang/System").before a0 Z = true) (F : own_A Z h a ty n f) (G : own_A Z h b ty n' f') (hff : ∀ j, j < n → fits ty (f j) = true) (hfg : ∀ j, j < n' → fits ty (f' j) = true) (hn : n < 2147483648) (hn' : n' < 2147483648) (hrk : refKind ty = false) (hsp : sp.toInt = (i1 : Int)) (hdp : dp.toInt = (j1 : Int)) (hnn : nn.toInt = (k1 : Int)) (h4 : i1 + k1 ≤ n) (h5 : j1 + k1 ≤ n') (hob : s.heap.size ≤ b) (hL : L.size = ml) (hwt : (st.map fun v => v.category).sum ≤ wt) (hf : 1 ≤ R.frames) (hlo : wt + (nativeFrameWords "java/lang/System" "arraycopy" 5 + 11) ≤ R.locals) (hp : pc + 3 = pc') (k : ∀ T' h', own_W p l e R s m args below meth c Z y ret code ml [] T' h' cells slots → Keep h h' [b] → own_A Z h' b ty n' (fun q => if j1 ≤ q ∧ q < j1 + k1 then f (i1 + (q - j1)) else f' q) → own_Go p e below C T' (mkF m pc' L st)) : own_Go p e below C T (mkF m pc L (.int nn :: .int dp :: .ref b :: .int sp :: .ref a :: st)) := by
  have hsz := own_le W
  obtain ⟨⟨hx, hby, hml, hown, hnm, hrt, hlk, hZ⟩, locs, X, eT, N⟩ := W
  subst hp
  have NF : Fr s.heap.size locs := fun y hy => (N y hy).resolve_left (fun q => nomatch q)
  obtain ⟨ka, A⟩ := F.arv hn hff (.int 0)
  obtain ⟨kb, B⟩ := G.arv hn' hfg (.int 0)
  have ez : n.toInt32.toNatClampNeg = n := own_cl (len_toInt hn)
  have ez' : n'.toInt32.toNatClampNeg = n' := own_cl (len_toInt hn')
  obtain ⟨T', h', L', X', e', N', K', B', st'⟩ := cpA X hx hZ hown w1 w2 w3 w4 eT A B (Or.inl ⟨rfl, hrk⟩) (own_nn hsp) (own_nn hdp) (own_nn hnn) (by rw [own_cl hsp, own_cl hnn, ez]; exact h4) (by rw [own_cl hdp, own_cl hnn, ez']; exact h5) rfl (by rw [own_cl hdp, own_cl hnn]; simpa using h5) NF hob (g := mkF m pc L (.int nn :: .int dp :: .ref b :: .int sp :: .ref a :: st)) rfl (by rw [hml]; exact hL) rfl (hb hby hd) hf (W := wt) (by show 2 * 0 + _ ≤ _; omega) hlo
  refine own_st st' (k T' h' ⟨⟨hx, hby, hml, hown, hnm, hrt, hlk, hZ⟩, L', X', e', fun y hy => Or.inr (N' y hy)⟩ K' ((own_A.of_arv B' (len_toInt hn')).congr fun q hq => ?_))
  rw [own_cl hsp, own_cl hdp, own_cl hnn]
  exact own_cpl f f' n n' i1 j1 k1 _ h4 h5 q hq
theorem own_new (W : own_W p l e R s m args below meth c Z y ret code ml ws T h cells slots) {C0 : String} {i nn : Nat} {pc : Nat} (pc' : Nat) {L : Array Slot} {st : List Value} (hd : decode code pc = .ok (.new i, 3)) (w : (Jvm.Cond.classLink y.cls i C0).before a0 Z = true) (wi : (Jvm.Cond.instantiable C0 nn).before a0 Z = true) (wz : (Jvm.Cond.initialized C0).before a0 Z = true) (hc : cells + 1 ≤ R.cells) (hl : slots + nn ≤ R.slots) (hp : pc + 3 = pc') (k : ∀ T' h' a, own_W p l e R s m args below meth c Z y ret code ml ws T' h' (cells + 1) (slots + nn) → Ext h h' → a = h.size → s.heap.size ≤ a → Exa Z h' a C0 → (∀ {O nm d : String} {ty : FieldType}, Laid Z a0 C0 O nm d → parseFieldDescriptor d = some ty → Fld Z h' a O nm d (defaultValue ty)) → own_Go p e below C T' (mkF m pc' L (.ref a :: st))) : own_Go p e below C T (mkF m pc L st) := by
  have hsz := own_le W
  obtain ⟨⟨hx, hby, hml, hown, hnm, hrt, hlk, hZ⟩, locs, X, eT, N⟩ := W
  subst hp
  obtain ⟨T', h', X', e', E', A', D', -, st'⟩ := newO X hx hZ hown w wi wz eT (g := mkF m pc L st) rfl (hb hby hd) hc hl
  exact own_st st' (k T' h' h.size ⟨⟨hx, hby, hml, hown, hnm, hrt, hlk, hZ⟩, locs, X', e', N⟩ E' rfl hsz A' D')
theorem own_getfield (W : own_W p l e R s m args below meth c Z y ret code ml ws T h cells slots) {O n d : String} {i : Nat} {a : Addr} {v : Value} {pc : Nat} (pc' : Nat) {L : Array Slot} {st : List Value} (hd : decode code pc = .ok (.getfield i, 3)) (w : (Jvm.Cond.fieldLink y.cls i O n d).before a0 Z = true) (F : Fld Z h a O n d v) (hp : pc + 3 = pc') (k : ∀ T', own_W p l e R s m args below meth c Z y ret code ml ws T' h cells slots → own_Go p e below C T' (mkF m pc' L (v :: st))) : own_Go p e below C T (mkF m pc L (.ref a :: st)) := by
  have hsz := own_le W
  obtain ⟨⟨hx, hby, hml, hown, hnm, hrt, hlk, hZ⟩, locs, X, eT, N⟩ := W
  subst hp
  obtain ⟨T', X', e', st'⟩ := getF X hx hZ hown (host := "") (Or.inl w) Via.refl eT F (g := mkF m pc L (.ref a :: st)) rfl rfl (hb hby hd)
  exact own_st st' (k T' ⟨⟨hx, hby, hml, hown, hnm, hrt, hlk, hZ⟩, locs, X', e', N⟩)
theorem own_getfieldN (W : own_W p l e R s m args below meth c Z y ret code ml ws T h cells slots) {O n d host : String} {i : Nat} {a : Addr} {v : Value} {pc : Nat} (pc' : Nat) {L : Array Slot} {st : List Value} (hd : decode code pc = .ok (.getfield i, 3)) (w : (Jvm.Cond.fieldLinkNest y.cls i O n d host).before a0 Z = true) (F : Fld Z h a O n d v) (hp : pc + 3 = pc') (k : ∀ T', own_W p l e R s m args below meth c Z y ret code ml ws T' h cells slots → own_Go p e below C T' (mkF m pc' L (v :: st))) : own_Go p e below C T (mkF m pc L (.ref a :: st)) := by
  have hsz := own_le W
  obtain ⟨⟨hx, hby, hml, hown, hnm, hrt, hlk, hZ⟩, locs, X, eT, N⟩ := W
  subst hp
  obtain ⟨T', X', e', st'⟩ := getF X hx hZ hown (host := host) (Or.inr w) Via.refl eT F (g := mkF m pc L (.ref a :: st)) rfl rfl (hb hby hd)
  exact own_st st' (k T' ⟨⟨hx, hby, hml, hown, hnm, hrt, hlk, hZ⟩, locs, X', e', N⟩)
theorem own_getstatic (W : own_W p l e R s m args below meth c Z y ret code ml ws T h cells slots) {O n d : String} {i : Nat} {v : Value} {pc : Nat} (pc' : Nat) {L : Array Slot} {st : List Value} (hd : decode code pc = .ok (.getstatic i, 3)) (w : (Jvm.Cond.fieldLink y.cls i O n d).before a0 Z = true) (F : Sta Z h O n d v) (hp : pc + 3 = pc') (k : ∀ T', own_W p l e R s m args below meth c Z y ret code ml ws T' h cells slots → own_Go p e below C T' (mkF m pc' L (v :: st))) : own_Go p e below C T (mkF m pc L st) := by
  have hsz := own_le W
  obtain ⟨⟨hx, hby, hml, hown, hnm, hrt, hlk, hZ⟩, locs, X, eT, N⟩ := W
  subst hp
  obtain ⟨T', X', e', st'⟩ := getS X hx hZ hown (host := "") w Via.refl eT F (g := mkF m pc L st) rfl (hb hby hd)
  exact own_st st' (k T' ⟨⟨hx, hby, hml, hown, hnm, hrt, hlk, hZ⟩, locs, X', e', N⟩)
theorem own_putfield (W : own_W p l e R s m args below meth c Z y ret code ml ws T h cells slots) {O n d C0 : String} {i kk : Nat} {ty : FieldType} {a : Addr} {v old : Value} (v' : Value) {pc : Nat} (pc' : Nat) {L : Array Slot} {st : List Value} (hd : decode code pc = .ok (.putfield i, 3)) (w : (Jvm.Cond.fieldLink y.cls i O n d).before a0 Z = true) (F : Fld Z h a O n d old) (E : Exa Z h a C0) (La : (Jvm.Cond.lays C0 O n d).before a0 Z = true ∨ ((Jvm.Cond.laysFinal C0 O n d).before a0 Z = true ∧ y.cls = O ∧ y.name = "<init>")) (wi : (Jvm.Cond.instantiable C0 kk).before a0 Z = true) (ha : a ∈ ws ∨ s.heap.size ≤ a) (hty : parseFieldDescriptor d = some ty) (hn : narrow ty v = v') (hf : fits ty v' = true) (hp : pc + 3 = pc') (k : ∀ T' h', own_W p l e R s m args below meth c Z y ret code ml ws T' h' cells slots → Wr h h' a (Jvm.RoadKit.slotOf Z O n d) v' → Fld Z h' a O n d v' → own_Go p e below C T' (mkF m pc' L st)) : own_Go p e below C T (mkF m pc L (v :: .ref a :: st)) := by
  have hsz := own_le W
  obtain ⟨⟨hx, hby, hml, hown, hnm, hrt, hlk, hZ⟩, locs, X, eT, N⟩ := W
  subst hp
  obtain ⟨T', h', X', e', W', st'⟩ := putFN X hx hZ hown w Via.refl eT F E (by rw [hnm]; exact La) wi hty hn hf (g := mkF m pc L (v :: .ref a :: st)) rfl rfl (hb hby hd)
  exact own_st st' (k T' h' ⟨⟨hx, hby, hml, hown, hnm, hrt, hlk, hZ⟩, _, X', e', own_Fw_snoc N ha⟩ W' (F.same W'))
theorem own_callS (W : own_W p l e R s m args below meth c Z y ret code ml ws T h cells slots) {i : Nat} {yc : MethodName} {bytes : ByteArray} {maxL : Nat} {rt : Option FieldType} {rm : Room} {Q : Option Value → Heap → Prop} {ps : List FieldType} {rr : Option FieldType} {wc' : List Addr} (A : List Value) (wt : Nat) {pc : Nat} (pc' : Nat) {L : Array Slot} {st : List Value} (hd : decode code pc = .ok (.invokestatic i, 3)) (wl : (Jvm.Cond.methodLink y.cls i yc).before a0 Z = true) (wst : (Jvm.Cond.static yc).before a0 Z = true) (wz : (Jvm.Cond.initialized yc.cls).before a0 Z = true) (wc : (Jvm.Cond.code yc bytes maxL rt).before a0 Z = true) (hy : yc.cls ≠ "java/lang/invoke/MethodHandle" ∧ yc.cls ≠ "java/lang/invoke/VarHandle") (hM : own_M l Z [] yc bytes maxL rt rm wc' A.toArray h Q) (hws : ∀ b ∈ wc', b ∈ ws ∨ s.heap.size ≤ b) (hL : L.size = ml) (hds : parseMethodDescriptor yc.desc = some ⟨ps, rr⟩) (hA : A.length = ps.length) (hwt : (st.map fun v => v.category).sum ≤ wt) (hf : rm.frames + 1 ≤ R.frames) (hlo : wt + (maxL + 11) + rm.locals ≤ R.locals) (hc : cells + rm.cells ≤ R.cells) (hs : slots + rm.slots ≤ R.slots) (hp : pc + 3 = pc') (k : ∀ T' h' v, own_W p l e R s m args below meth c Z y ret code ml ws T' h' (cells + rm.cells) (slots + rm.slots) → Keep h h' wc' → (rm.cells = 0 → wc' = [] → h' = h) → Q v h' → own_Go p e below C T' (mkF m pc' L (v.toList ++ st))) : own_Go p e below C T (mkF m pc L (A.reverse ++ st)) := by
  have hsz := own_le W
  obtain ⟨⟨hx, hby, hml, hown, hnm, hrt, hlk, hZ⟩, locs, X, eT, N⟩ := W
  subst hp
  obtain ⟨_, _, ⟨T', L', k', n'⟩, -, X', ⟨Lc', hQ', l', y', z'⟩, st'⟩ := Jvm.LawKit.callS X hx (y := yc) hown (mvT hZ wl) (mvT hZ wst) (mvT hZ wz) (mvT hZ wc) hy (backOf (W := wt) hM hZ wc wz hf hlo) (g := mkF m pc L (A.reverse ++ st)) rfl (by rw [hml]; exact hL) (argsL := A) (rest := st) (lenOf hds hA) rfl (by show 2 * 0 + _ ≤ _; omega) (hb hby hd) (fun _ _ => ⟨rfl, eT, hc, hs⟩)
  dsimp only [Pt.U, Pt.locs, Pt.cells, Pt.slots] at X' l' y' z' st' hQ'
  subst l' y' z'
  exact own_st st' (k T' _ _ ⟨⟨hx, hby, hml, hown, hnm, hrt, hlk, hZ⟩, _, X', rfl, own_Fw_app N hQ'.1 hws hsz⟩ hQ'.2.1 hQ'.2.2.1 hQ'.2.2.2)
theorem own_callN (W : own_W p l e R s m args below meth c Z y ret code ml ws T h cells slots) {i : Nat} {yc : MethodName} {bytes : ByteArray} {maxL : Nat} {rm : Room} {Q : Option Value → Heap → Prop} {ps : List FieldType} {rr : Option FieldType} {a : Addr} {wc' : List Addr} (A : List Value) (wt : Nat) {pc : Nat} (pc' : Nat) {L : Array Slot} {st : List Value} (hd : decode code pc = .ok (.invokespecial i, 3)) (hi : yc.name = "<init>") (wl : (Jvm.Cond.methodLink y.cls i yc).before a0 Z = true) (wst : (Jvm.Cond.instanceMethod yc).before a0 Z = true) (wz : (Jvm.Cond.initialized yc.cls).before a0 Z = true) (wc : (Jvm.Cond.code yc bytes maxL none).before a0 Z = true) (hy : yc.cls ≠ "java/lang/invoke/MethodHandle" ∧ yc.cls ≠ "java/lang/invoke/VarHandle") (hM : own_M l Z [] yc bytes maxL none rm wc' (.ref a :: A).toArray h Q) (hws : ∀ b ∈ wc', b ∈ ws ∨ s.heap.size ≤ b) (hL : L.size = ml) (hds : parseMethodDescriptor yc.desc = some ⟨ps, rr⟩) (hA : A.length = ps.length) (hwt : (st.map fun v => v.category).sum ≤ wt) (hf : rm.frames + 1 ≤ R.frames) (hlo : wt + (maxL + 11) + rm.locals ≤ R.locals) (hc : cells + rm.cells ≤ R.cells) (hs : slots + rm.slots ≤ R.slots) (hp : pc + 3 = pc') (k : ∀ T' h' v, own_W p l e R s m args below meth c Z y ret code ml ws T' h' (cells + rm.cells) (slots + rm.slots) → Keep h h' wc' → (rm.cells = 0 → wc' = [] → h' = h) → Q v h' → own_Go p e below C T' (mkF m pc' L (v.toList ++ st))) : own_Go p e below C T (mkF m pc L (A.reverse ++ .ref a :: st)) := by
  have hsz := own_le W
  obtain ⟨⟨hx, hby, hml, hown, hnm, hrt, hlk, hZ⟩, locs, X, eT, N⟩ := W
  subst hp
  obtain ⟨_, _, ⟨T', L', k', n'⟩, -, X', ⟨Lc', hQ', l', y', z'⟩, st'⟩ := X.specialBack hx (y := yc) hi hown (mvT hZ wl) (mvT hZ wst) (mvT hZ wc) hy (backOf (W := wt) hM hZ wc wz hf hlo) (g := mkF m pc L (A.reverse ++ .ref a :: st)) rfl (by rw [hml]; exact hL) (Steps.refl _) (a := a) (argsL := A) (rest := st) (lenOf hds hA) rfl (by show 2 * 0 + _ ≤ _; omega) (hb hby hd) (fun _ _ => ⟨rfl, eT, hc, hs⟩)
  dsimp only [Pt.U, Pt.locs, Pt.cells, Pt.slots] at X' l' y' z' st' hQ'
  subst l' y' z'
  exact own_tr st' (k T' _ _ ⟨⟨hx, hby, hml, hown, hnm, hrt, hlk, hZ⟩, _, X', rfl, own_Fw_app N hQ'.1 hws hsz⟩ hQ'.2.1 hQ'.2.2.1 hQ'.2.2.2)
theorem own_callV (W : own_W p l e R s m args below meth c Z y ret code ml ws T h cells slots) {C0 : String} {i : Nat} {yc zc : MethodName} {bytes : ByteArray} {maxL : Nat} {rt : Option FieldType} {rm : Room} {Q : Option Value → Heap → Prop} {ps : List FieldType} {rr : Option FieldType} {a : Addr} {wc' : List Addr} (A : List Value) (wt : Nat) {pc : Nat} (pc' : Nat) {L : Array Slot} {st : List Value} (hd : decode code pc = .ok (.invokevirtual i, 3)) (wl : (Jvm.Cond.methodLink y.cls i yc).before a0 Z = true) (wd : (Jvm.Cond.declares yc).before a0 Z = true) (nf : NotFace s yc) (wse : (Jvm.Cond.selects C0 yc zc).before a0 Z = true) (wst : (Jvm.Cond.instanceMethod zc).before a0 Z = true) (wz : (Jvm.Cond.initialized zc.cls).before a0 Z = true) (wc : (Jvm.Cond.code zc bytes maxL rt).before a0 Z = true) (hy : yc.cls ≠ "java/lang/invoke/MethodHandle" ∧ yc.cls ≠ "java/lang/invoke/VarHandle") (E : Exa Z h a C0) (hM : own_M l Z [] zc bytes maxL rt rm wc' (.ref a :: A).toArray h Q) (hws : ∀ b ∈ wc', b ∈ ws ∨ s.heap.size ≤ b) (hL : L.size = ml) (hds : parseMethodDescriptor yc.desc = some ⟨ps, rr⟩) (hA : A.length = ps.length) (hwt : (st.map fun v => v.category).sum ≤ wt) (hf : rm.frames + 1 ≤ R.frames) (hlo : wt + (maxL + 11) + rm.locals ≤ R.locals) (hc : cells + rm.cells ≤ R.cells) (hs : slots + rm.slots ≤ R.slots) (hp : pc + 3 = pc') (k : ∀ T' h' v, own_W p l e R s m args below meth c Z y ret code ml ws T' h' (cells + rm.cells) (slots + rm.slots) → Keep h h' wc' → (rm.cells = 0 → wc' = [] → h' = h) → Q v h' → own_Go p e below C T' (mkF m pc' L (v.toList ++ st))) : own_Go p e below C T (mkF m pc L (A.reverse ++ .ref a :: st)) := by
  have hsz := own_le W
  obtain ⟨⟨hx, hby, hml, hown, hnm, hrt, hlk, hZ⟩, locs, X, eT, N⟩ := W
  subst hp
  obtain ⟨cq, kq, qa, qb, qc⟩ := isOf hZ eT E
  obtain ⟨_, _, ⟨T', L', k', n'⟩, -, X', ⟨Lc', hQ', l', y', z'⟩, st'⟩ := X.virtualBack hx (y := yc) (z := zc) hown (mvT hZ wl) (mvT hZ wd) nf (mvT hZ wse) (mvT hZ wst) hy (backOf (W := wt) hM hZ wc wz hf hlo) qa qc (g := mkF m pc L (A.reverse ++ .ref a :: st)) rfl (by rw [hml]; exact hL) (Steps.refl _) (argsL := A) (rest := st) (lenOf hds hA) rfl (by show 2 * 0 + _ ≤ _; omega) (hb hby hd) (fun _ _ => ⟨rfl, eT, hc, hs⟩)
  dsimp only [Pt.U, Pt.locs, Pt.cells, Pt.slots] at X' l' y' z' st' hQ'
  subst l' y' z'
  exact own_tr st' (k T' _ _ ⟨⟨hx, hby, hml, hown, hnm, hrt, hlk, hZ⟩, _, X', rfl, own_Fw_app N hQ'.1 hws hsz⟩ hQ'.2.1 hQ'.2.2.1 hQ'.2.2.2)
theorem own_nf (W : own_W p l e R s m args below meth c Z y ret code ml ws T h cells slots) {C0 : String} {yc : MethodName} (wse : (Jvm.Cond.selects C0 yc yc).before a0 Z = true) : NotFace s yc := by
  have hsz := own_le W
  obtain ⟨⟨hx, hby, hml, hown, hnm, hrt, hlk, hZ⟩, locs, X, eT, N⟩ := W
  exact notFace_of_selects (args := #[]) (mvT hZ wse)
theorem own_initO (W : own_W p l e R s m args below meth c Z y ret code ml ws T h cells slots) {i : Nat} {a : Addr} (wt : Nat) {pc : Nat} (pc' : Nat) {L : Array Slot} {st : List Value} (hd : decode code pc = .ok (.invokespecial i, 3)) (w1 : (Jvm.Cond.methodLink y.cls i Lib.objectInit).before a0 Z = true) (w2 : (Jvm.Cond.instanceMethod Lib.objectInit).before a0 Z = true) (w3 : (Jvm.Cond.code Lib.objectInit ⟨#[0xb1]⟩ 1 none).before a0 Z = true) (hL : L.size = ml) (hwt : (st.map fun v => v.category).sum ≤ wt) (hf : 1 ≤ R.frames) (hlo : wt + 12 ≤ R.locals) (hp : pc + 3 = pc') (k : ∀ T', own_W p l e R s m args below meth c Z y ret code ml ws T' h cells slots → own_Go p e below C T' (mkF m pc' L st)) : own_Go p e below C T (mkF m pc L (.ref a :: st)) := by
  have hsz := own_le W
  obtain ⟨⟨hx, hby, hml, hown, hnm, hrt, hlk, hZ⟩, locs, X, eT, N⟩ := W
  subst hp
  obtain ⟨T', X', e', st'⟩ := initO X hx hZ hown w1 w2 w3 eT (g := mkF m pc L (.ref a :: st)) rfl (by rw [hml]; exact hL) rfl (hb hby hd) hf (W := wt) (by show 2 * 0 + _ ≤ _; omega) hlo
  exact own_st st' (k T' ⟨⟨hx, hby, hml, hown, hnm, hrt, hlk, hZ⟩, locs, X', e', N⟩)
theorem own_b1 {P : Prop} [Decidable P] (q : P) : ¬ (if P then (1 : Int32) else 0) = 0 := by rw [if_pos q]; decide
theorem own_b0 {P : Prop} [Decidable P] (q : ¬ P) : (if P then (1 : Int32) else 0) = 0 := if_neg q
theorem own_bz {P : Prop} [Decidable P] : (if P then (1 : Int32) else 0) &&& 1 = if P then (1 : Int32) else 0 := by split <;> rfl
end OwnKit

theorem wd0 {a0 : Array Value} {Z : State} (hw : ∀ d ∈ tables_1, d.before a0 Z = true) : (Jvm.Cond.classLink "com/example/nodemata/nodemata/PackedBitsReadPinLaw" (9 : Nat) "com/example/nodemata/nodemata/PackedBits").before a0 Z = true := hw _ (List.mem_of_getElem? (i := 0) rfl)
theorem wd1 {a0 : Array Value} {Z : State} (hw : ∀ d ∈ tables_1, d.before a0 Z = true) : (Jvm.Cond.instantiable "com/example/nodemata/nodemata/PackedBits" (1 : Nat)).before a0 Z = true := hw _ (List.mem_of_getElem? (i := 1) rfl)
theorem wd2 {a0 : Array Value} {Z : State} (hw : ∀ d ∈ tables_1, d.before a0 Z = true) : (Jvm.Cond.initialized "com/example/nodemata/nodemata/PackedBits").before a0 Z = true := hw _ (List.mem_of_getElem? (i := 2) rfl)
theorem wd3 {a0 : Array Value} {Z : State} (hw : ∀ d ∈ tables_1, d.before a0 Z = true) : (Jvm.Cond.constantLong "com/example/nodemata/nodemata/PackedBitsReadPinLaw" (11 : Nat) (256 : Int64)).before a0 Z = true := hw _ (List.mem_of_getElem? (i := 3) rfl)
theorem wd4 {a0 : Array Value} {Z : State} (hw : ∀ d ∈ tables_1, d.before a0 Z = true) : (Jvm.Cond.methodLink "com/example/nodemata/nodemata/PackedBitsReadPinLaw" (13 : Nat) ({ cls := "com/example/nodemata/nodemata/PackedBits", name := "<init>", desc := "(J)V" } : Jvm.MethodName)).before a0 Z = true := hw _ (List.mem_of_getElem? (i := 4) rfl)
theorem wd5 {a0 : Array Value} {Z : State} (hw : ∀ d ∈ tables_1, d.before a0 Z = true) : (Jvm.Cond.instanceMethod ({ cls := "com/example/nodemata/nodemata/PackedBits", name := "<init>", desc := "(J)V" } : Jvm.MethodName)).before a0 Z = true := hw _ (List.mem_of_getElem? (i := 5) rfl)
theorem wd6 {a0 : Array Value} {Z : State} (hw : ∀ d ∈ tables_1, d.before a0 Z = true) : (Jvm.Cond.code ({ cls := "com/example/nodemata/nodemata/PackedBits", name := "<init>", desc := "(J)V" } : Jvm.MethodName) prog_73_method_1_code (3 : Nat) (Option.none : Option Jvm.ClassFile.FieldType)).before a0 Z = true := hw _ (List.mem_of_getElem? (i := 6) rfl)
theorem wd7 {a0 : Array Value} {Z : State} (hw : ∀ d ∈ tables_1, d.before a0 Z = true) : (Jvm.Cond.methodLink "com/example/nodemata/nodemata/PackedBits" (5 : Nat) ({ cls := "java/lang/Object", name := "<init>", desc := "()V" } : Jvm.MethodName)).before a0 Z = true := hw _ (List.mem_of_getElem? (i := 7) rfl)
theorem wd8 {a0 : Array Value} {Z : State} (hw : ∀ d ∈ tables_1, d.before a0 Z = true) : (Jvm.Cond.instanceMethod ({ cls := "java/lang/Object", name := "<init>", desc := "()V" } : Jvm.MethodName)).before a0 Z = true := hw _ (List.mem_of_getElem? (i := 8) rfl)
theorem wd9 {a0 : Array Value} {Z : State} (hw : ∀ d ∈ tables_1, d.before a0 Z = true) : (Jvm.Cond.code ({ cls := "java/lang/Object", name := "<init>", desc := "()V" } : Jvm.MethodName) object_method_1_code (1 : Nat) (Option.none : Option Jvm.ClassFile.FieldType)).before a0 Z = true := hw _ (List.mem_of_getElem? (i := 9) rfl)
theorem wd10 {a0 : Array Value} {Z : State} (hw : ∀ d ∈ tables_1, d.before a0 Z = true) : (Jvm.Cond.constantLong "com/example/nodemata/nodemata/PackedBits" (13 : Nat) (137438952832 : Int64)).before a0 Z = true := hw _ (List.mem_of_getElem? (i := 10) rfl)
theorem wd11 {a0 : Array Value} {Z : State} (hw : ∀ d ∈ tables_1, d.before a0 Z = true) : (Jvm.Cond.constantLong "com/example/nodemata/nodemata/PackedBits" (24 : Nat) (64 : Int64)).before a0 Z = true := hw _ (List.mem_of_getElem? (i := 11) rfl)
theorem wd12 {a0 : Array Value} {Z : State} (hw : ∀ d ∈ tables_1, d.before a0 Z = true) : (Jvm.Cond.arrayClass Jvm.ClassFile.FieldType.long).before a0 Z = true := hw _ (List.mem_of_getElem? (i := 12) rfl)
theorem wd13 {a0 : Array Value} {Z : State} (hw : ∀ d ∈ tables_1, d.before a0 Z = true) : (Jvm.Cond.fieldLink "com/example/nodemata/nodemata/PackedBits" (26 : Nat) "com/example/nodemata/nodemata/PackedBits" "words" "[J").before a0 Z = true := hw _ (List.mem_of_getElem? (i := 13) rfl)
theorem wd14 {a0 : Array Value} {Z : State} (hw : ∀ d ∈ tables_1, d.before a0 Z = true) : (Jvm.Cond.laysFinal "com/example/nodemata/nodemata/PackedBits" "com/example/nodemata/nodemata/PackedBits" "words" "[J").before a0 Z = true := hw _ (List.mem_of_getElem? (i := 14) rfl)
theorem wd15 {a0 : Array Value} {Z : State} (hw : ∀ d ∈ tables_1, d.before a0 Z = true) : (Jvm.Cond.methodLink "com/example/nodemata/nodemata/PackedBitsReadPinLaw" (16 : Nat) ({ cls := "com/example/nodemata/nodemata/PackedBits", name := "write", desc := "(JIJ)V" } : Jvm.MethodName)).before a0 Z = true := hw _ (List.mem_of_getElem? (i := 15) rfl)
theorem wd16 {a0 : Array Value} {Z : State} (hw : ∀ d ∈ tables_1, d.before a0 Z = true) : (Jvm.Cond.declares ({ cls := "com/example/nodemata/nodemata/PackedBits", name := "write", desc := "(JIJ)V" } : Jvm.MethodName)).before a0 Z = true := hw _ (List.mem_of_getElem? (i := 16) rfl)
theorem wd17 {a0 : Array Value} {Z : State} (hw : ∀ d ∈ tables_1, d.before a0 Z = true) : (Jvm.Cond.instanceMethod ({ cls := "com/example/nodemata/nodemata/PackedBits", name := "write", desc := "(JIJ)V" } : Jvm.MethodName)).before a0 Z = true := hw _ (List.mem_of_getElem? (i := 17) rfl)
theorem wd18 {a0 : Array Value} {Z : State} (hw : ∀ d ∈ tables_1, d.before a0 Z = true) : (Jvm.Cond.selects "com/example/nodemata/nodemata/PackedBits" ({ cls := "com/example/nodemata/nodemata/PackedBits", name := "write", desc := "(JIJ)V" } : Jvm.MethodName) ({ cls := "com/example/nodemata/nodemata/PackedBits", name := "write", desc := "(JIJ)V" } : Jvm.MethodName)).before a0 Z = true := hw _ (List.mem_of_getElem? (i := 18) rfl)
theorem wd19 {a0 : Array Value} {Z : State} (hw : ∀ d ∈ tables_1, d.before a0 Z = true) : (Jvm.Cond.code ({ cls := "com/example/nodemata/nodemata/PackedBits", name := "write", desc := "(JIJ)V" } : Jvm.MethodName) prog_73_method_3_code (10 : Nat) (Option.none : Option Jvm.ClassFile.FieldType)).before a0 Z = true := hw _ (List.mem_of_getElem? (i := 19) rfl)
theorem wd20 {a0 : Array Value} {Z : State} (hw : ∀ d ∈ tables_1, d.before a0 Z = true) : (Jvm.Cond.constantLong "com/example/nodemata/nodemata/PackedBits" (30 : Nat) (-1 : Int64)).before a0 Z = true := hw _ (List.mem_of_getElem? (i := 20) rfl)
theorem wd21 {a0 : Array Value} {Z : State} (hw : ∀ d ∈ tables_1, d.before a0 Z = true) : (Jvm.Cond.methodLink "com/example/nodemata/nodemata/PackedBitsReadPinLaw" (20 : Nat) ({ cls := "com/example/nodemata/nodemata/PackedBitsReadPinLaw", name := "mask", desc := "(I)J" } : Jvm.MethodName)).before a0 Z = true := hw _ (List.mem_of_getElem? (i := 21) rfl)
theorem wd22 {a0 : Array Value} {Z : State} (hw : ∀ d ∈ tables_1, d.before a0 Z = true) : (Jvm.Cond.static ({ cls := "com/example/nodemata/nodemata/PackedBitsReadPinLaw", name := "mask", desc := "(I)J" } : Jvm.MethodName)).before a0 Z = true := hw _ (List.mem_of_getElem? (i := 22) rfl)
theorem wd23 {a0 : Array Value} {Z : State} (hw : ∀ d ∈ tables_1, d.before a0 Z = true) : (Jvm.Cond.initialized "com/example/nodemata/nodemata/PackedBitsReadPinLaw").before a0 Z = true := hw _ (List.mem_of_getElem? (i := 23) rfl)
theorem wd24 {a0 : Array Value} {Z : State} (hw : ∀ d ∈ tables_1, d.before a0 Z = true) : (Jvm.Cond.code ({ cls := "com/example/nodemata/nodemata/PackedBitsReadPinLaw", name := "mask", desc := "(I)J" } : Jvm.MethodName) method_2_code (1 : Nat) (Option.some Jvm.ClassFile.FieldType.long)).before a0 Z = true := hw _ (List.mem_of_getElem? (i := 24) rfl)
theorem wd25 {a0 : Array Value} {Z : State} (hw : ∀ d ∈ tables_1, d.before a0 Z = true) : (Jvm.Cond.methodLink "com/example/nodemata/nodemata/PackedBitsReadPinLaw" (26 : Nat) ({ cls := "com/example/nodemata/nodemata/PackedBits", name := "read", desc := "(JI)J" } : Jvm.MethodName)).before a0 Z = true := hw _ (List.mem_of_getElem? (i := 25) rfl)
theorem wd26 {a0 : Array Value} {Z : State} (hw : ∀ d ∈ tables_1, d.before a0 Z = true) : (Jvm.Cond.declares ({ cls := "com/example/nodemata/nodemata/PackedBits", name := "read", desc := "(JI)J" } : Jvm.MethodName)).before a0 Z = true := hw _ (List.mem_of_getElem? (i := 26) rfl)
theorem wd27 {a0 : Array Value} {Z : State} (hw : ∀ d ∈ tables_1, d.before a0 Z = true) : (Jvm.Cond.instanceMethod ({ cls := "com/example/nodemata/nodemata/PackedBits", name := "read", desc := "(JI)J" } : Jvm.MethodName)).before a0 Z = true := hw _ (List.mem_of_getElem? (i := 27) rfl)
theorem wd28 {a0 : Array Value} {Z : State} (hw : ∀ d ∈ tables_1, d.before a0 Z = true) : (Jvm.Cond.selects "com/example/nodemata/nodemata/PackedBits" ({ cls := "com/example/nodemata/nodemata/PackedBits", name := "read", desc := "(JI)J" } : Jvm.MethodName) ({ cls := "com/example/nodemata/nodemata/PackedBits", name := "read", desc := "(JI)J" } : Jvm.MethodName)).before a0 Z = true := hw _ (List.mem_of_getElem? (i := 28) rfl)
theorem wd29 {a0 : Array Value} {Z : State} (hw : ∀ d ∈ tables_1, d.before a0 Z = true) : (Jvm.Cond.code ({ cls := "com/example/nodemata/nodemata/PackedBits", name := "read", desc := "(JI)J" } : Jvm.MethodName) prog_73_method_2_code (8 : Nat) (Option.some Jvm.ClassFile.FieldType.long)).before a0 Z = true := hw _ (List.mem_of_getElem? (i := 29) rfl)
theorem wd30 {a0 : Array Value} {Z : State} (hw : ∀ d ∈ tables_1, d.before a0 Z = true) : (Jvm.Cond.methodLink "com/example/nodemata/nodemata/PackedBitsReadPinLaw" (30 : Nat) ({ cls := "java/lang/Math", name := "min", desc := "(II)I" } : Jvm.MethodName)).before a0 Z = true := hw _ (List.mem_of_getElem? (i := 30) rfl)
theorem wd31 {a0 : Array Value} {Z : State} (hw : ∀ d ∈ tables_1, d.before a0 Z = true) : (Jvm.Cond.static ({ cls := "java/lang/Math", name := "min", desc := "(II)I" } : Jvm.MethodName)).before a0 Z = true := hw _ (List.mem_of_getElem? (i := 31) rfl)
theorem wd32 {a0 : Array Value} {Z : State} (hw : ∀ d ∈ tables_1, d.before a0 Z = true) : (Jvm.Cond.initialized "java/lang/Math").before a0 Z = true := hw _ (List.mem_of_getElem? (i := 32) rfl)
theorem wd33 {a0 : Array Value} {Z : State} (hw : ∀ d ∈ tables_1, d.before a0 Z = true) : (Jvm.Cond.code ({ cls := "java/lang/Math", name := "min", desc := "(II)I" } : Jvm.MethodName) jdk_29_method_69_code (2 : Nat) (Option.some Jvm.ClassFile.FieldType.int)).before a0 Z = true := hw _ (List.mem_of_getElem? (i := 33) rfl)
theorem wd34 {a0 : Array Value} {Z : State} (hw : ∀ d ∈ tables_1, d.before a0 Z = true) : (Jvm.Cond.constantLong "com/example/nodemata/nodemata/PackedBitsReadPinLaw" (7 : Nat) (-1 : Int64)).before a0 Z = true := hw _ (List.mem_of_getElem? (i := 34) rfl)
theorem d1_0 : decode prog_73_method_1_code 0 = .ok (.aload_n 0, 1) := by decide +kernel
theorem d1_1 : decode prog_73_method_1_code 1 = .ok (.invokespecial 5, 3) := by decide +kernel
theorem d1_4 : decode prog_73_method_1_code 4 = .ok (.lload_n 1, 1) := by decide +kernel
theorem d1_5 : decode prog_73_method_1_code 5 = .ok (.lconst 0, 1) := by decide +kernel
theorem d1_6 : decode prog_73_method_1_code 6 = .ok (.lcmp, 1) := by decide +kernel
theorem d1_7 : decode prog_73_method_1_code 7 = .ok (.ifCond .lt 11, 3) := by decide +kernel
theorem d1_10 : decode prog_73_method_1_code 10 = .ok (.lload_n 1, 1) := by decide +kernel
theorem d1_11 : decode prog_73_method_1_code 11 = .ok (.ldc2_w 13, 3) := by decide +kernel
theorem d1_14 : decode prog_73_method_1_code 14 = .ok (.lcmp, 1) := by decide +kernel
theorem d1_15 : decode prog_73_method_1_code 15 = .ok (.ifCond .le 17, 3) := by decide +kernel
theorem d1_32 : decode prog_73_method_1_code 32 = .ok (.aload_n 0, 1) := by decide +kernel
theorem d1_33 : decode prog_73_method_1_code 33 = .ok (.lload_n 1, 1) := by decide +kernel
theorem d1_34 : decode prog_73_method_1_code 34 = .ok (.ldc2_w 24, 3) := by decide +kernel
theorem d1_37 : decode prog_73_method_1_code 37 = .ok (.ladd, 1) := by decide +kernel
theorem d1_38 : decode prog_73_method_1_code 38 = .ok (.lconst 1, 1) := by decide +kernel
theorem d1_39 : decode prog_73_method_1_code 39 = .ok (.lsub, 1) := by decide +kernel
theorem d1_40 : decode prog_73_method_1_code 40 = .ok (.ldc2_w 24, 3) := by decide +kernel
theorem d1_43 : decode prog_73_method_1_code 43 = .ok (.ldiv, 1) := by decide +kernel
theorem d1_44 : decode prog_73_method_1_code 44 = .ok (.l2i, 1) := by decide +kernel
theorem d1_45 : decode prog_73_method_1_code 45 = .ok (.iconst 1, 1) := by decide +kernel
theorem d1_46 : decode prog_73_method_1_code 46 = .ok (.iadd, 1) := by decide +kernel
theorem d1_47 : decode prog_73_method_1_code 47 = .ok (.newarray .long, 2) := by decide +kernel
theorem d1_49 : decode prog_73_method_1_code 49 = .ok (.putfield 26, 3) := by decide +kernel
theorem d1_52 : decode prog_73_method_1_code 52 = .ok (.return_, 1) := by decide +kernel
theorem pn_1 : plainName "com/example/nodemata/nodemata/PackedBits" = true := by first | (simp [plainName, overriddenIn]; done) | decide +kernel
theorem d3_0 : decode prog_73_method_3_code 0 = .ok (.lload_n 1, 1) := by decide +kernel
theorem d3_1 : decode prog_73_method_3_code 1 = .ok (.bipush 6, 2) := by decide +kernel
theorem d3_3 : decode prog_73_method_3_code 3 = .ok (.lushr, 1) := by decide +kernel
theorem d3_4 : decode prog_73_method_3_code 4 = .ok (.l2i, 1) := by decide +kernel
theorem d3_5 : decode prog_73_method_3_code 5 = .ok (.istore 6, 2) := by decide +kernel
theorem d3_7 : decode prog_73_method_3_code 7 = .ok (.lload_n 1, 1) := by decide +kernel
theorem d3_8 : decode prog_73_method_3_code 8 = .ok (.l2i, 1) := by decide +kernel
theorem d3_9 : decode prog_73_method_3_code 9 = .ok (.bipush 63, 2) := by decide +kernel
theorem d3_11 : decode prog_73_method_3_code 11 = .ok (.iand, 1) := by decide +kernel
theorem d3_12 : decode prog_73_method_3_code 12 = .ok (.istore 7, 2) := by decide +kernel
theorem d3_14 : decode prog_73_method_3_code 14 = .ok (.lload 4, 2) := by decide +kernel
theorem d3_16 : decode prog_73_method_3_code 16 = .ok (.ldc2_w 30, 3) := by decide +kernel
theorem d3_19 : decode prog_73_method_3_code 19 = .ok (.bipush 64, 2) := by decide +kernel
theorem d3_21 : decode prog_73_method_3_code 21 = .ok (.iload_n 3, 1) := by decide +kernel
theorem d3_22 : decode prog_73_method_3_code 22 = .ok (.isub, 1) := by decide +kernel
theorem d3_23 : decode prog_73_method_3_code 23 = .ok (.lushr, 1) := by decide +kernel
theorem d3_24 : decode prog_73_method_3_code 24 = .ok (.land, 1) := by decide +kernel
theorem d3_25 : decode prog_73_method_3_code 25 = .ok (.lstore 8, 2) := by decide +kernel
theorem d3_27 : decode prog_73_method_3_code 27 = .ok (.aload_n 0, 1) := by decide +kernel
theorem d3_28 : decode prog_73_method_3_code 28 = .ok (.getfield 26, 3) := by decide +kernel
theorem d3_31 : decode prog_73_method_3_code 31 = .ok (.iload 6, 2) := by decide +kernel
theorem d3_33 : decode prog_73_method_3_code 33 = .ok (.dup2, 1) := by decide +kernel
theorem d3_34 : decode prog_73_method_3_code 34 = .ok (.laload, 1) := by decide +kernel
theorem d3_35 : decode prog_73_method_3_code 35 = .ok (.lload 8, 2) := by decide +kernel
theorem d3_37 : decode prog_73_method_3_code 37 = .ok (.iload 7, 2) := by decide +kernel
theorem d3_39 : decode prog_73_method_3_code 39 = .ok (.lshl, 1) := by decide +kernel
theorem d3_40 : decode prog_73_method_3_code 40 = .ok (.lor, 1) := by decide +kernel
theorem d3_41 : decode prog_73_method_3_code 41 = .ok (.lastore, 1) := by decide +kernel
theorem d3_42 : decode prog_73_method_3_code 42 = .ok (.iload 7, 2) := by decide +kernel
theorem d3_44 : decode prog_73_method_3_code 44 = .ok (.iload_n 3, 1) := by decide +kernel
theorem d3_45 : decode prog_73_method_3_code 45 = .ok (.iadd, 1) := by decide +kernel
theorem d3_46 : decode prog_73_method_3_code 46 = .ok (.bipush 64, 2) := by decide +kernel
theorem d3_48 : decode prog_73_method_3_code 48 = .ok (.if_icmp .le 23, 3) := by decide +kernel
theorem d3_51 : decode prog_73_method_3_code 51 = .ok (.aload_n 0, 1) := by decide +kernel
theorem d3_52 : decode prog_73_method_3_code 52 = .ok (.getfield 26, 3) := by decide +kernel
theorem d3_55 : decode prog_73_method_3_code 55 = .ok (.iload 6, 2) := by decide +kernel
theorem d3_57 : decode prog_73_method_3_code 57 = .ok (.iconst 1, 1) := by decide +kernel
theorem d3_58 : decode prog_73_method_3_code 58 = .ok (.iadd, 1) := by decide +kernel
theorem d3_59 : decode prog_73_method_3_code 59 = .ok (.dup2, 1) := by decide +kernel
theorem d3_60 : decode prog_73_method_3_code 60 = .ok (.laload, 1) := by decide +kernel
theorem d3_61 : decode prog_73_method_3_code 61 = .ok (.lload 8, 2) := by decide +kernel
theorem d3_63 : decode prog_73_method_3_code 63 = .ok (.bipush 64, 2) := by decide +kernel
theorem d3_65 : decode prog_73_method_3_code 65 = .ok (.iload 7, 2) := by decide +kernel
theorem d3_67 : decode prog_73_method_3_code 67 = .ok (.isub, 1) := by decide +kernel
theorem d3_68 : decode prog_73_method_3_code 68 = .ok (.lushr, 1) := by decide +kernel
theorem d3_69 : decode prog_73_method_3_code 69 = .ok (.lor, 1) := by decide +kernel
theorem d3_70 : decode prog_73_method_3_code 70 = .ok (.lastore, 1) := by decide +kernel
theorem d3_71 : decode prog_73_method_3_code 71 = .ok (.return_, 1) := by decide +kernel
theorem pn_3 : plainName "com/example/nodemata/nodemata/PackedBits" = true := by first | (simp [plainName, overriddenIn]; done) | decide +kernel
theorem d5_0 : decode prog_73_method_2_code 0 = .ok (.lload_n 1, 1) := by decide +kernel
theorem d5_1 : decode prog_73_method_2_code 1 = .ok (.bipush 6, 2) := by decide +kernel
theorem d5_3 : decode prog_73_method_2_code 3 = .ok (.lushr, 1) := by decide +kernel
theorem d5_4 : decode prog_73_method_2_code 4 = .ok (.l2i, 1) := by decide +kernel
theorem d5_5 : decode prog_73_method_2_code 5 = .ok (.istore 4, 2) := by decide +kernel
theorem d5_7 : decode prog_73_method_2_code 7 = .ok (.lload_n 1, 1) := by decide +kernel
theorem d5_8 : decode prog_73_method_2_code 8 = .ok (.l2i, 1) := by decide +kernel
theorem d5_9 : decode prog_73_method_2_code 9 = .ok (.bipush 63, 2) := by decide +kernel
theorem d5_11 : decode prog_73_method_2_code 11 = .ok (.iand, 1) := by decide +kernel
theorem d5_12 : decode prog_73_method_2_code 12 = .ok (.istore 5, 2) := by decide +kernel
theorem d5_14 : decode prog_73_method_2_code 14 = .ok (.aload_n 0, 1) := by decide +kernel
theorem d5_15 : decode prog_73_method_2_code 15 = .ok (.getfield 26, 3) := by decide +kernel
theorem d5_18 : decode prog_73_method_2_code 18 = .ok (.iload 4, 2) := by decide +kernel
theorem d5_20 : decode prog_73_method_2_code 20 = .ok (.laload, 1) := by decide +kernel
theorem d5_21 : decode prog_73_method_2_code 21 = .ok (.iload 5, 2) := by decide +kernel
theorem d5_23 : decode prog_73_method_2_code 23 = .ok (.lushr, 1) := by decide +kernel
theorem d5_24 : decode prog_73_method_2_code 24 = .ok (.aload_n 0, 1) := by decide +kernel
theorem d5_25 : decode prog_73_method_2_code 25 = .ok (.getfield 26, 3) := by decide +kernel
theorem d5_28 : decode prog_73_method_2_code 28 = .ok (.iload 4, 2) := by decide +kernel
theorem d5_30 : decode prog_73_method_2_code 30 = .ok (.iconst 1, 1) := by decide +kernel
theorem d5_31 : decode prog_73_method_2_code 31 = .ok (.iadd, 1) := by decide +kernel
theorem d5_32 : decode prog_73_method_2_code 32 = .ok (.laload, 1) := by decide +kernel
theorem d5_33 : decode prog_73_method_2_code 33 = .ok (.iconst 1, 1) := by decide +kernel
theorem d5_34 : decode prog_73_method_2_code 34 = .ok (.lshl, 1) := by decide +kernel
theorem d5_35 : decode prog_73_method_2_code 35 = .ok (.bipush 63, 2) := by decide +kernel
theorem d5_37 : decode prog_73_method_2_code 37 = .ok (.iload 5, 2) := by decide +kernel
theorem d5_39 : decode prog_73_method_2_code 39 = .ok (.isub, 1) := by decide +kernel
theorem d5_40 : decode prog_73_method_2_code 40 = .ok (.lshl, 1) := by decide +kernel
theorem d5_41 : decode prog_73_method_2_code 41 = .ok (.lor, 1) := by decide +kernel
theorem d5_42 : decode prog_73_method_2_code 42 = .ok (.lstore 6, 2) := by decide +kernel
theorem d5_44 : decode prog_73_method_2_code 44 = .ok (.lload 6, 2) := by decide +kernel
theorem d5_46 : decode prog_73_method_2_code 46 = .ok (.ldc2_w 30, 3) := by decide +kernel
theorem d5_49 : decode prog_73_method_2_code 49 = .ok (.bipush 64, 2) := by decide +kernel
theorem d5_51 : decode prog_73_method_2_code 51 = .ok (.iload_n 3, 1) := by decide +kernel
theorem d5_52 : decode prog_73_method_2_code 52 = .ok (.isub, 1) := by decide +kernel
theorem d5_53 : decode prog_73_method_2_code 53 = .ok (.lushr, 1) := by decide +kernel
theorem d5_54 : decode prog_73_method_2_code 54 = .ok (.land, 1) := by decide +kernel
theorem d5_55 : decode prog_73_method_2_code 55 = .ok (.lreturn, 1) := by decide +kernel
theorem pn_5 : plainName "com/example/nodemata/nodemata/PackedBits" = true := by first | (simp [plainName, overriddenIn]; done) | decide +kernel
theorem d4_0 : decode method_2_code 0 = .ok (.iload_n 0, 1) := by decide +kernel
theorem d4_1 : decode method_2_code 1 = .ok (.bipush 64, 2) := by decide +kernel
theorem d4_3 : decode method_2_code 3 = .ok (.if_icmp .lt 7, 3) := by decide +kernel
theorem d4_10 : decode method_2_code 10 = .ok (.lconst 1, 1) := by decide +kernel
theorem d4_11 : decode method_2_code 11 = .ok (.iload_n 0, 1) := by decide +kernel
theorem d4_12 : decode method_2_code 12 = .ok (.lshl, 1) := by decide +kernel
theorem d4_13 : decode method_2_code 13 = .ok (.lconst 1, 1) := by decide +kernel
theorem d4_14 : decode method_2_code 14 = .ok (.lsub, 1) := by decide +kernel
theorem d4_15 : decode method_2_code 15 = .ok (.lreturn, 1) := by decide +kernel
theorem d4_6 : decode method_2_code 6 = .ok (.ldc2_w 7, 3) := by decide +kernel
theorem d4_9 : decode method_2_code 9 = .ok (.lreturn, 1) := by decide +kernel
theorem pn_4 : plainName "com/example/nodemata/nodemata/PackedBitsReadPinLaw" = true := by first | (simp [plainName, overriddenIn]; done) | decide +kernel
theorem d6_0 : decode jdk_29_method_69_code 0 = .ok (.iload_n 0, 1) := by decide +kernel
theorem d6_1 : decode jdk_29_method_69_code 1 = .ok (.iload_n 1, 1) := by decide +kernel
theorem d6_2 : decode jdk_29_method_69_code 2 = .ok (.if_icmp .gt 7, 3) := by decide +kernel
theorem d6_9 : decode jdk_29_method_69_code 9 = .ok (.iload_n 1, 1) := by decide +kernel
theorem d6_5 : decode jdk_29_method_69_code 5 = .ok (.iload_n 0, 1) := by decide +kernel
theorem d6_6 : decode jdk_29_method_69_code 6 = .ok (.goto 4, 3) := by decide +kernel
theorem d6_10 : decode jdk_29_method_69_code 10 = .ok (.ireturn, 1) := by decide +kernel
theorem pd_0 : parseMethodDescriptor "(J)V" = some ⟨[.long], none⟩ := by decide +kernel
theorem pd_1 : parseMethodDescriptor "(JIJ)V" = some ⟨[.long, .int, .long], none⟩ := by decide +kernel
theorem pd_2 : parseMethodDescriptor "(I)J" = some ⟨[.int], some .long⟩ := by decide +kernel
theorem pd_3 : parseMethodDescriptor "(JI)J" = some ⟨[.long, .int], some .long⟩ := by decide +kernel
theorem pd_4 : parseMethodDescriptor "(II)I" = some ⟨[.int, .int], some .int⟩ := by decide +kernel
theorem pn_0 : plainName "com/example/nodemata/nodemata/PackedBitsReadPinLaw" = true := by first | (simp [plainName, overriddenIn]; done) | decide +kernel
theorem own_off (u : Int32) : ∃ k : Nat, ((u &&& (2147483647 : Int32)) % (5 : Int32)).toInt = (k : Int) ∧ k < 5 := by
  have h1 := c_mask u 2147483647 31 (by decide) (by decide)
  have h2 := (c_irem (u &&& 2147483647) 5 5 rfl).1
  have h3 : 0 ≤ (u &&& 2147483647).toInt := by rw [h1]; omega
  have h4 := h2 h3
  exact ⟨((u &&& 2147483647) % 5).toInt.toNat, by omega, by omega⟩
theorem own_ofN {u : Int32} {k : Nat} (h : u.toInt = (k : Int)) (hk : k < 2147483648) : u = Int32.ofNat k := by
  have h1 := (back32 (own_nn h)).1
  rw [own_cl h] at h1
  exact h1.symm
theorem own_inc {u : Int32} {k : Nat} (h : u.toInt = (k : Int)) (hk : k < 2000000000) : (u + (1 : Int32)).toInt = ((k + 1 : Nat) : Int) := by
  have h1 := c_iadd u 1
  have h2 := rng32 (u + 1)
  have h3 : (1 : Int32).toInt = 1 := rfl
  omega
theorem own_ltN {u v : Int32} {i j : Nat} (hu : u.toInt = (i : Int)) (hv : v.toInt = (j : Int)) : u < v ↔ i < j := by
  rw [Int32.lt_iff_toInt_lt]; omega
theorem own_lt0 {u : Int32} : u < 0 ↔ u.toInt < 0 := by
  rw [Int32.lt_iff_toInt_lt]; have : (0 : Int32).toInt = 0 := rfl
  rw [this]
theorem own_lt5 {n : Nat} (h : n < 5) : n = 0 ∨ n = 1 ∨ n = 2 ∨ n = 3 ∨ n = 4 := by omega
theorem own_lt4 {n : Nat} (h : n < 4) : n = 0 ∨ n = 1 ∨ n = 2 ∨ n = 3 := by omega
def own_g (x0 x1 x2 x3 : Int32) (j : Nat) : Int32 := if j = 0 then x0 else if j = 1 then x1 else if j = 2 then x2 else x3
def own_bit (g : Nat → Int64) (q : Nat) : Bool := (g (q / 64)).toBitVec.getLsbD (q % 64)
def own_or1 (g : Nat → Int64) (W : Nat) (B : Int64) : Nat → Int64 := fun j => if j = W then g W ||| B else g j
theorem own_tn {u : Int32} {k : Nat} (h : u.toInt = (k : Int)) : u.toBitVec.toNat = k := by
  have h1 : u.toBitVec.toInt = (k : Int) := h
  rw [BitVec.toInt_eq_toNat_cond] at h1
  have := u.toBitVec.isLt
  split at h1 <;> omega
theorem own_shl (u : Int64) (v : Int32) (k : Nat) (hk : v.toBitVec.toNat % 64 = k) (i : Nat) : (u <<< (v &&& 0x3f).toInt64).toBitVec.getLsbD i = (decide (i < 64) && (!decide (i < k) && u.toBitVec.getLsbD (i - k))) := by
  show (u.toBitVec <<< ((v &&& 0x3f).toInt64.toBitVec.smod 64)).getLsbD i = _
  rw [BitVec.shiftLeft_eq', (sm64 v k hk).1, smod64 k (sm64 v k hk).2, BitVec.getLsbD_shiftLeft, Bool.and_assoc]
theorem own_shr (u : Int64) (v : Int32) (k : Nat) (hk : v.toBitVec.toNat % 64 = k) (i : Nat) : ((u.toUInt64 >>> (v &&& 0x3f).toInt64.toUInt64).toInt64).toBitVec.getLsbD i = u.toBitVec.getLsbD (k + i) := by
  have h5 := (sm64 v k hk).2
  show (u.toBitVec >>> ((v &&& 0x3f).toInt64.toBitVec % 64)).getLsbD i = _
  rw [BitVec.ushiftRight_eq', BitVec.toNat_umod, (sm64 v k hk).1, BitVec.toNat_ofNat, BitVec.getLsbD_ushiftRight]
  show u.toBitVec.getLsbD (k % 2 ^ 64 % 64 + i) = _
  rw [show k % 2 ^ 64 % 64 = k by omega]
theorem own_ori (u v : Int64) (i : Nat) : (u ||| v).toBitVec.getLsbD i = (u.toBitVec.getLsbD i || v.toBitVec.getLsbD i) := by
  show (u.toBitVec ||| v.toBitVec).getLsbD i = _
  exact BitVec.getLsbD_or
theorem own_andi (u v : Int64) (i : Nat) : (u &&& v).toBitVec.getLsbD i = (u.toBitVec.getLsbD i && v.toBitVec.getLsbD i) := by
  show (u.toBitVec &&& v.toBitVec).getLsbD i = _
  exact BitVec.getLsbD_and
theorem own_ext64 {u v : Int64} (h : ∀ i, i < 64 → u.toBitVec.getLsbD i = v.toBitVec.getLsbD i) : u = v := Int64.toBitVec_inj.mp (BitVec.eq_of_getLsbD_eq h)
theorem own_zb (i : Nat) : (0 : Int64).toBitVec.getLsbD i = false := by
  show (0#64).getLsbD i = false
  simp
theorem own_mb (i : Nat) : (-1 : Int64).toBitVec.getLsbD i = decide (i < 64) := by
  have h : (-1 : Int64).toBitVec = BitVec.allOnes 64 := by decide
  rw [h, BitVec.getLsbD_allOnes]
theorem own_s64 {u : Int32} {n : Nat} (h : u.toInt = (n : Int)) (q : n ≤ 64) : ((64 : Int32) - u).toInt = ((64 - n : Nat) : Int) := by
  have h1 := c_isub 64 u
  have h2 := rng32 ((64 : Int32) - u)
  have h3 : (64 : Int32).toInt = 64 := rfl
  omega
theorem own_s63 {u : Int32} {n : Nat} (h : u.toInt = (n : Int)) (q : n ≤ 63) : ((63 : Int32) - u).toInt = ((63 - n : Nat) : Int) := by
  have h1 := c_isub 63 u
  have h2 := rng32 ((63 : Int32) - u)
  have h3 : (63 : Int32).toInt = 63 := rfl
  omega
theorem own_mk {w : Int32} {n : Nat} (hw : w.toInt = (n : Int)) (h1 : 1 ≤ n) (h64 : n ≤ 64) (i : Nat) : (((-1 : Int64).toUInt64 >>> (((64 : Int32) - w) &&& 0x3f).toInt64.toUInt64).toInt64).toBitVec.getLsbD i = decide (i < n) := by
  rw [own_shr _ _ (64 - n) (by rw [own_tn (own_s64 hw h64)]; omega), own_mb]
  congr 1
  exact propext ⟨fun q => by omega, fun q => by omega⟩
theorem own_word {q : Int64} {a : Nat} (h : q.toInt = (a : Int)) (ha : a < 1000000) : ((q.toUInt64 >>> ((6 : Int32) &&& 0x3f).toInt64.toUInt64).toInt64).toInt32.toInt = ((a / 64 : Nat) : Int) := by
  have h1 := c_lushr q 6 6 (by decide) (by decide)
  have h2 := c_l2i ((q.toUInt64 >>> ((6 : Int32) &&& 0x3f).toInt64.toUInt64).toInt64)
  have h3 := rng32 ((q.toUInt64 >>> ((6 : Int32) &&& 0x3f).toInt64.toUInt64).toInt64).toInt32
  simp only [Nat.reducePow] at h1
  omega
theorem own_shift {q : Int64} {a : Nat} (h : q.toInt = (a : Int)) (ha : a < 1000000) : (q.toInt32 &&& (63 : Int32)).toInt = ((a % 64 : Nat) : Int) := by
  have h1 := c_mask q.toInt32 63 6 (by decide) (by decide)
  have h2 := c_l2i q
  simp only [Nat.reducePow] at h1
  omega
theorem own_wr1 (g : Nat → Int64) (a wd : Nat) (v B1 : Int64) (hB1 : ∀ i, B1.toBitVec.getLsbD i = (decide (i < 64) && (!decide (i < a % 64) && (decide (i - a % 64 < wd) && v.toBitVec.getLsbD (i - a % 64))))) (hsp : a % 64 + wd ≤ 64) (q : Nat) :
    own_bit (own_or1 g (a / 64) B1) q = (own_bit g q || (decide (a ≤ q ∧ q < a + wd) && v.toBitVec.getLsbD (q - a))) := by
  unfold own_bit own_or1
  by_cases hq : q / 64 = a / 64
  · rw [if_pos hq, own_ori, hB1, hq, decide_eq_true (show q % 64 < 64 by omega), Bool.true_and]
    by_cases h1 : q % 64 < a % 64
    · rw [decide_eq_true h1, decide_eq_false (show ¬ (a ≤ q ∧ q < a + wd) by omega)]; rfl
    · rw [decide_eq_false h1, show q % 64 - a % 64 = q - a by omega]
      by_cases h2 : q - a < wd
      · rw [decide_eq_true h2, decide_eq_true (show a ≤ q ∧ q < a + wd by omega)]; rfl
      · rw [decide_eq_false h2, decide_eq_false (show ¬ (a ≤ q ∧ q < a + wd) by omega)]; rfl
  · rw [if_neg hq, decide_eq_false (show ¬ (a ≤ q ∧ q < a + wd) by omega), Bool.false_and, Bool.or_false]
theorem own_wr2 (g : Nat → Int64) (a wd : Nat) (v B1 B2 : Int64) (hB1 : ∀ i, B1.toBitVec.getLsbD i = (decide (i < 64) && (!decide (i < a % 64) && (decide (i - a % 64 < wd) && v.toBitVec.getLsbD (i - a % 64)))))
    (hB2 : ∀ i, B2.toBitVec.getLsbD i = (decide (64 - a % 64 + i < wd) && v.toBitVec.getLsbD (64 - a % 64 + i))) (hsp : 64 < a % 64 + wd) (hwd : wd ≤ 64) (q : Nat) :
    own_bit (own_or1 (own_or1 g (a / 64) B1) (a / 64 + 1) B2) q = (own_bit g q || (decide (a ≤ q ∧ q < a + wd) && v.toBitVec.getLsbD (q - a))) := by
  unfold own_bit
  by_cases hq1 : q / 64 = a / 64 + 1
  · have e1 : own_or1 (own_or1 g (a / 64) B1) (a / 64 + 1) B2 (q / 64) = g (q / 64) ||| B2 := by
      unfold own_or1
      rw [if_pos hq1, if_neg (by omega), hq1]
    rw [e1, own_ori, hB2, show 64 - a % 64 + q % 64 = q - a by omega]
    by_cases h2 : q - a < wd
    · rw [decide_eq_true h2, decide_eq_true (show a ≤ q ∧ q < a + wd by omega)]
    · rw [decide_eq_false h2, decide_eq_false (show ¬ (a ≤ q ∧ q < a + wd) by omega)]
  · have e1 : own_or1 (own_or1 g (a / 64) B1) (a / 64 + 1) B2 (q / 64) = own_or1 g (a / 64) B1 (q / 64) := by
      rw [own_or1, if_neg hq1]
    rw [e1]
    by_cases hq : q / 64 = a / 64
    · rw [own_or1, if_pos hq, own_ori, hB1, hq, decide_eq_true (show q % 64 < 64 by omega), Bool.true_and]
      by_cases h1 : q % 64 < a % 64
      · rw [decide_eq_true h1, decide_eq_false (show ¬ (a ≤ q ∧ q < a + wd) by omega)]; rfl
      · rw [decide_eq_false h1, show q % 64 - a % 64 = q - a by omega]
        by_cases h2 : q - a < wd
        · rw [decide_eq_true h2, decide_eq_true (show a ≤ q ∧ q < a + wd by omega)]; rfl
        · rw [decide_eq_false h2, decide_eq_false (show ¬ (a ≤ q ∧ q < a + wd) by omega)]; rfl
    · rw [own_or1, if_neg hq, decide_eq_false (show ¬ (a ≤ q ∧ q < a + wd) by omega), Bool.false_and, Bool.or_false]
theorem own_rd (g : Nat → Int64) (a wd : Nat) (sh w3 : Int32) (hsh : sh.toInt = ((a % 64 : Nat) : Int)) (hw : w3.toInt = (wd : Int)) (h1 : 1 ≤ wd) (h64 : wd ≤ 64) (i : Nat) (hi : i < 64) :
    (((((g (a / 64)).toUInt64 >>> (sh &&& 0x3f).toInt64.toUInt64).toInt64) ||| ((g (a / 64 + 1) <<< ((1 : Int32) &&& 0x3f).toInt64) <<< (((63 : Int32) - sh) &&& 0x3f).toInt64)) &&& (((-1 : Int64).toUInt64 >>> (((64 : Int32) - w3) &&& 0x3f).toInt64.toUInt64).toInt64)).toBitVec.getLsbD i
      = (decide (i < wd) && own_bit g (a + i)) := by
  rw [own_andi, own_mk hw h1 h64, own_ori, own_shr _ sh (a % 64) (by rw [own_tn hsh]; omega), own_shl _ _ (63 - a % 64) (by rw [own_tn (own_s63 hsh (by omega))]; omega), own_shl _ 1 1 (by decide), Bool.and_comm]
  congr 1
  unfold own_bit
  rw [decide_eq_true hi, Bool.true_and]
  by_cases hs : a % 64 + i < 64
  · rw [show (a + i) / 64 = a / 64 by omega, show (a + i) % 64 = a % 64 + i by omega]
    by_cases h3 : i < 63 - a % 64
    · rw [decide_eq_true h3]; simp
    · rw [decide_eq_true (show i - (63 - a % 64) < 1 by omega)]; simp
  · rw [show (a + i) / 64 = a / 64 + 1 by omega, show (a + i) % 64 = i - (63 - a % 64) - 1 by omega, BitVec.getLsbD_of_ge _ _ (by omega), decide_eq_false (show ¬ i < 63 - a % 64 by omega), decide_eq_false (show ¬ i - (63 - a % 64) < 1 by omega), decide_eq_true (show i - (63 - a % 64) < 64 by omega)]
    simp
theorem own_1w (p : Int32) : ∃ n : Nat, ((1 : Int32) + (p &&& (63 : Int32))).toInt = (n : Int) ∧ 1 ≤ n ∧ n ≤ 64 := by
  have h1 := c_mask p 63 6 (by decide) (by decide)
  have h2 := c_iadd 1 (p &&& 63)
  have h3 := rng32 ((1 : Int32) + (p &&& 63))
  have h4 : (1 : Int32).toInt = 1 := rfl
  simp only [Nat.reducePow] at h1
  exact ⟨((1 : Int32) + (p &&& 63)).toInt.toNat, by omega, by omega, by omega⟩
theorem own_pow (w : Int32) (n : Nat) (hw : w.toInt = (n : Int)) (h : n < 64) (i : Nat) : (((1 : Int64) <<< (w &&& 0x3f).toInt64) - (1 : Int64)).toBitVec.getLsbD i = decide (i < n) := by
  have h5 := sm64 w n (by rw [own_tn hw]; omega)
  have e : (((1 : Int64) <<< (w &&& 0x3f).toInt64) - (1 : Int64)).toBitVec = BitVec.ofNat 64 (2 ^ n - 1) := by
    show ((1#64) <<< ((w &&& 0x3f).toInt64.toBitVec.smod 64)) - 1#64 = _
    rw [BitVec.shiftLeft_eq', h5.1, smod64 n h5.2]
    apply BitVec.eq_of_toNat_eq
    have hp : 2 ^ n < 2 ^ 64 := Nat.pow_lt_pow_right (by decide) h
    have hp1 : 1 ≤ 2 ^ n := Nat.one_le_two_pow
    rw [BitVec.toNat_sub, BitVec.toNat_shiftLeft, BitVec.toNat_ofNat, BitVec.toNat_ofNat, Nat.shiftLeft_eq]
    rw [show (1 % 2 ^ 64 : Nat) = 1 from rfl, Nat.one_mul, Nat.mod_eq_of_lt hp]
    omega
  rw [e, BitVec.getLsbD_ofNat, Nat.testBit_two_pow_sub_one]
  by_cases hi : i < n
  · rw [decide_eq_true hi, decide_eq_true (show i < 64 by omega)]; rfl
  · rw [decide_eq_false hi, Bool.and_false]
theorem own_sum {u v : Int32} {i j : Nat} (hu : u.toInt = (i : Int)) (hv : v.toInt = (j : Int)) (q : i + j < 2147483648) : (u + v).toInt = ((i + j : Nat) : Int) := by
  have h1 := c_iadd u v
  have h2 := rng32 (u + v)
  omega
theorem own_up1 (g : Nat → Int64) (W : Nat) (B : Int64) (j : Nat) : own_upd (fun j => .long (g j)) W (.long (g W ||| B)) j = .long (own_or1 g W B j) := by
  unfold own_upd own_or1
  split <;> rfl
theorem own_up2 (g : Nat → Int64) (W W2 : Nat) (B B2 : Int64) (j : Nat) (h : ¬ W2 = W) : own_upd (own_upd (fun j => .long (g j)) W (.long (g W ||| B))) W2 (.long (g W2 ||| B2)) j = .long (own_or1 (own_or1 g W B) W2 B2 j) := by
  unfold own_upd own_or1
  by_cases h1 : j = W2
  · rw [if_pos h1, if_pos h1, if_neg h]
  · rw [if_neg h1, if_neg h1]
    split <;> rfl
theorem ef_m1 (m : MethodId) (x0 : Addr) (x1 : Int64) : entryFrame m #[(.ref x0), (.long x1)] 3 = mkF m 0 #[.val (.ref x0), .val (.long x1), .second] [] := by first | (simp [entryFrame, mkF, argsToLocals, Value.category]; done) | rfl
set_option maxRecDepth 65536 in
set_option maxHeartbeats 40000000 in
theorem own_m1 (l : Launch) (Z : State) (a0 : Array Value) (hw : ∀ d ∈ tables_1, d.before a0 Z = true) (wo : List Jvm.Cond) (h0 : Heap) (a1 : Addr) (X_a1 : Exa Z h0 a1 "com/example/nodemata/nodemata/PackedBits") (F_words_a1 : Fld Z h0 a1 "com/example/nodemata/nodemata/PackedBits" "words" "[J" .null) :
    own_M l Z wo (⟨"com/example/nodemata/nodemata/PackedBits", "<init>", "(J)V"⟩ : MethodName) prog_73_method_1_code 3 none ({ frames := 1, cells := 1, slots := 5, locals := 12 } : Room) [a1] #[(.ref a1), (.long (256 : Int64))] h0 (fun v h => v = none ∧ (∃ t, h0.size ≤ t ∧ Fld Z h a1 "com/example/nodemata/nodemata/PackedBits" "words" "[J" (.ref t) ∧ own_A Z h t .long 5 (fun _ => .long 0))) := by
  refine own_body (plainFor_of_name pn_1) (fun m => ef_m1 m a1 (256 : Int64)) ?_
  intro p e s m below meth c C hC T0 W0
  refine own_aloadN W0 1 d1_0 rfl rfl rfl ?_
  refine own_initO W0 0 4 d1_1 (wd7 hw) (wd8 hw) (wd9 hw) rfl (Nat.le_of_eq rfl) (by decide) (by decide) rfl ?_
  intro T1 W1
  show own_Go p e below C T1 (mkF m 4 #[.val (.ref a1), .val (.long (256 : Int64)), .second] [])
  refine own_lloadN W1 5 d1_4 rfl rfl ?_
  refine own_lconst W1 (0 : Int64) 6 d1_5 rfl rfl ?_
  refine own_lcmp W1 7 d1_6 rfl ?_
  refine own_ifN W1 10 d1_7 ((if0 _ _).trans (flt (mt (lw_lt (256 : Int64) (0 : Int64)).mp (by decide : ¬ ((256 : Int64) < (0 : Int64))))).1) rfl ?_
  refine own_lloadN W1 11 d1_10 rfl rfl ?_
  refine own_ldc2Long W1 14 d1_11 (wd10 hw) rfl ?_
  refine own_lcmp W1 15 d1_14 rfl ?_
  refine own_ifY W1 32 d1_15 ((if0 _ _).trans (flt (mt (lw_gt (256 : Int64) (137438952832 : Int64)).mp (by decide : ¬ ((137438952832 : Int64) < (256 : Int64))))).2.2.2) (by decide) (by decide) ?_
  refine own_aloadN W1 33 d1_32 rfl rfl rfl ?_
  refine own_lloadN W1 34 d1_33 rfl rfl ?_
  refine own_ldc2Long W1 37 d1_34 (wd11 hw) rfl ?_
  refine own_ladd W1 38 d1_37 rfl ?_
  refine own_lconst W1 (1 : Int64) 39 d1_38 rfl rfl ?_
  refine own_lsub W1 40 d1_39 rfl ?_
  refine own_ldc2Long W1 43 d1_40 (wd11 hw) rfl ?_
  refine own_ldiv W1 44 d1_43 (by decide) rfl ?_
  refine own_l2i W1 45 d1_44 rfl ?_
  refine own_iconst W1 (1 : Int32) 46 d1_45 rfl rfl ?_
  refine own_iadd W1 47 d1_46 rfl ?_
  refine own_newarray W1 5 5 49 d1_47 (wd12 hw) (by decide +kernel) (Nat.le_refl _) (by decide) (by decide) (by decide) rfl ?_
  intro T2 h2 t W2 E2 g_t o_t V_t
  have ne_a1_t : a1 ≠ t := by rw [g_t]; exact Nat.ne_of_lt X_a1.lt
  have X_a1 := X_a1.ext E2
  have F_words_a1 := F_words_a1.ext E2
  show own_Go p e below C T2 (mkF m 49 #[.val (.ref a1), .val (.long (256 : Int64)), .second] [(.ref t), (.ref a1)])
  refine own_putfield W2 (.ref t) 52 d1_49 (wd13 hw) F_words_a1 X_a1 (Or.inr ⟨(wd14 hw), rfl, rfl⟩) (wd1 hw) (Or.inl (List.mem_of_getElem? (i := 0) rfl)) (ty := (.array .long)) (by decide) rfl rfl rfl ?_
  intro T3 h3 W3 Wr3 F_words_a1
  have X_a1 := X_a1.wr Wr3
  have V_t := V_t.other Wr3 (Ne.symm ne_a1_t)
  show own_Go p e below C T3 (mkF m 52 #[.val (.ref a1), .val (.long (256 : Int64)), .second] [])
  refine own_retV (Q := fun v h => v = none ∧ (∃ t, h0.size ≤ t ∧ Fld Z h a1 "com/example/nodemata/nodemata/PackedBits" "words" "[J" (.ref t) ∧ own_A Z h t .long 5 (fun _ => .long 0))) W3 hC (by decide) (by decide) d1_52 ?_
  exact ⟨rfl, ⟨t, by rw [g_t]; exact Nat.le_refl _, F_words_a1, V_t⟩⟩
theorem ef_m3 (m : MethodId) (x0 : Addr) (x1 : Int64) (x2 : Int32) (x3 : Int64) : entryFrame m #[(.ref x0), (.long x1), (.int x2), (.long x3)] 10 = mkF m 0 #[.val (.ref x0), .val (.long x1), .second, .val (.int x2), .val (.long x3), .second, .unset, .unset, .unset, .unset] [] := by first | (simp [entryFrame, mkF, argsToLocals, Value.category]; done) | rfl
set_option maxRecDepth 65536 in
set_option maxHeartbeats 40000000 in
theorem own_m3 (l : Launch) (Z : State) (a0 : Array Value) (hw : ∀ d ∈ tables_1, d.before a0 Z = true) (wo : List Jvm.Cond) (h0 : Heap) (a1 : Addr) (q2 : Int64) (p3 : Int32) (q4 : Int64) (t : Addr) (N : Nat) (g : Nat → Int64) (a : Nat) (wd : Nat) (F_words_a1 : Fld Z h0 a1 "com/example/nodemata/nodemata/PackedBits" "words" "[J" (.ref t)) (V_t : own_A Z h0 t .long N (fun j => .long (g j))) (nat : a1 ≠ t) (hat : q2.toInt = (a : Int)) (hwd : p3.toInt = (wd : Int)) (h1 : 1 ≤ wd) (h64 : wd ≤ 64) (hN : a / 64 + 1 < N) (hlt : a < 1000000) :
    own_M l Z wo (⟨"com/example/nodemata/nodemata/PackedBits", "write", "(JIJ)V"⟩ : MethodName) prog_73_method_3_code 10 none ({ frames := 0, cells := 0, slots := 0, locals := 0 } : Room) [t] #[(.ref a1), (.long q2), (.int p3), (.long q4)] h0 (fun v h => v = none ∧ (∃ g', own_A Z h t .long N (fun j => .long (g' j)) ∧ ∀ q, own_bit g' q = (own_bit g q || (decide (a ≤ q ∧ q < a + wd) && q4.toBitVec.getLsbD (q - a))))) := by
  refine own_body (plainFor_of_name pn_3) (fun m => ef_m3 m a1 q2 p3 q4) ?_
  intro p e s m below meth c C hC T0 W0
  refine own_lloadN W0 1 d3_0 rfl rfl ?_
  refine own_bipush W0 (6 : Int32) 3 d3_1 rfl rfl ?_
  refine own_lushr W0 4 d3_3 rfl ?_
  refine own_l2i W0 5 d3_4 rfl ?_
  refine own_istore W0 7 #[.val (.ref a1), .val (.long q2), .second, .val (.int p3), .val (.long q4), .second, .val (.int ((q2.toUInt64 >>> ((6 : Int32) &&& 0x3f).toInt64.toUInt64).toInt64).toInt32), .unset, .unset, .unset] d3_5 rfl rfl ?_
  have hwo := own_word hat hlt
  generalize h_wo : ((q2.toUInt64 >>> ((6 : Int32) &&& 0x3f).toInt64.toUInt64).toInt64).toInt32 = wo at hwo ⊢
  show own_Go p e below C T0 (mkF m 7 #[.val (.ref a1), .val (.long q2), .second, .val (.int p3), .val (.long q4), .second, .val (.int wo), .unset, .unset, .unset] [])
  refine own_lloadN W0 8 d3_7 rfl rfl ?_
  refine own_l2i W0 9 d3_8 rfl ?_
  refine own_bipush W0 (63 : Int32) 11 d3_9 rfl rfl ?_
  refine own_iand W0 12 d3_11 rfl ?_
  refine own_istore W0 14 #[.val (.ref a1), .val (.long q2), .second, .val (.int p3), .val (.long q4), .second, .val (.int wo), .val (.int (q2.toInt32 &&& (63 : Int32))), .unset, .unset] d3_12 rfl rfl ?_
  have hsh := own_shift hat hlt
  generalize h_sh : (q2.toInt32 &&& (63 : Int32)) = sh at hsh ⊢
  show own_Go p e below C T0 (mkF m 14 #[.val (.ref a1), .val (.long q2), .second, .val (.int p3), .val (.long q4), .second, .val (.int wo), .val (.int sh), .unset, .unset] [])
  refine own_lload W0 16 d3_14 rfl rfl ?_
  refine own_ldc2Long W0 19 d3_16 (wd20 hw) rfl ?_
  refine own_bipush W0 (64 : Int32) 21 d3_19 rfl rfl ?_
  refine own_iloadN W0 22 d3_21 rfl rfl ?_
  refine own_isub W0 23 d3_22 rfl ?_
  refine own_lushr W0 24 d3_23 rfl ?_
  refine own_land W0 25 d3_24 rfl ?_
  refine own_lstore W0 27 #[.val (.ref a1), .val (.long q2), .second, .val (.int p3), .val (.long q4), .second, .val (.int wo), .val (.int sh), .val (.long (q4 &&& (((-1 : Int64).toUInt64 >>> (((64 : Int32) - p3) &&& 0x3f).toInt64.toUInt64).toInt64))), .second] d3_25 rfl rfl ?_
  have hbs : ∀ i, (q4 &&& (((-1 : Int64).toUInt64 >>> (((64 : Int32) - p3) &&& 0x3f).toInt64.toUInt64).toInt64)).toBitVec.getLsbD i = (decide (i < wd) && q4.toBitVec.getLsbD i) := fun i => by rw [own_andi, own_mk hwd h1 h64, Bool.and_comm]
  generalize h_bs : (q4 &&& (((-1 : Int64).toUInt64 >>> (((64 : Int32) - p3) &&& 0x3f).toInt64.toUInt64).toInt64)) = bs at hbs ⊢
  show own_Go p e below C T0 (mkF m 27 #[.val (.ref a1), .val (.long q2), .second, .val (.int p3), .val (.long q4), .second, .val (.int wo), .val (.int sh), .val (.long bs), .second] [])
  have hB1 : ∀ i, (bs <<< (sh &&& 0x3f).toInt64).toBitVec.getLsbD i = (decide (i < 64) && (!decide (i < a % 64) && (decide (i - a % 64 < wd) && q4.toBitVec.getLsbD (i - a % 64)))) := fun i => by rw [own_shl _ _ (a % 64) (by rw [own_tn hsh]; omega), hbs]
  refine own_aloadN W0 28 d3_27 rfl rfl rfl ?_
  refine own_getfield W0 31 d3_28 (wd13 hw) F_words_a1 rfl ?_
  intro T1 W1
  show own_Go p e below C T1 (mkF m 31 #[.val (.ref a1), .val (.long q2), .second, .val (.int p3), .val (.long q4), .second, .val (.int wo), .val (.int sh), .val (.long bs), .second] [(.ref t)])
  refine own_iload W1 33 d3_31 rfl rfl ?_
  refine own_dup2 W1 34 d3_33 rfl ?_
  refine own_laload W1 (a / 64) (g (a / 64)) 35 d3_34 V_t hwo (by omega) rfl rfl ?_
  refine own_lload W1 37 d3_35 rfl rfl ?_
  refine own_iload W1 39 d3_37 rfl rfl ?_
  refine own_lshl W1 40 d3_39 rfl ?_
  refine own_lor W1 41 d3_40 rfl ?_
  refine own_lastore W1 (a / 64) 42 d3_41 V_t (Or.inl (List.mem_of_getElem? (i := 0) rfl)) hwo (by omega) rfl ?_
  intro T2 h2 W2 Wr2 V_t
  have F_words_a1 := F_words_a1.other Wr2 (Or.inl nat)
  show own_Go p e below C T2 (mkF m 42 #[.val (.ref a1), .val (.long q2), .second, .val (.int p3), .val (.long q4), .second, .val (.int wo), .val (.int sh), .val (.long bs), .second] [])
  refine own_iload W2 44 d3_42 rfl rfl ?_
  refine own_iloadN W2 45 d3_44 rfl rfl ?_
  refine own_iadd W2 46 d3_45 rfl ?_
  refine own_bipush W2 (64 : Int32) 48 d3_46 rfl rfl ?_
  have hss := own_sum hsh hwd (by omega)
  by_cases c3 : (64 : Int32) < (sh + p3)
  · refine own_icmpN W2 51 d3_48 ((tlt c3).2.2.2) rfl ?_
    have hgt : 64 < a % 64 + wd := by have h8 := c3; rw [own_ltN (i := 64) rfl hss] at h8; exact h8
    have hB2 : ∀ i, ((bs.toUInt64 >>> (((64 : Int32) - sh) &&& 0x3f).toInt64.toUInt64).toInt64).toBitVec.getLsbD i = (decide (64 - a % 64 + i < wd) && q4.toBitVec.getLsbD (64 - a % 64 + i)) := fun i => by rw [own_shr _ _ (64 - a % 64) (by rw [own_tn (own_s64 hsh (by omega))]; omega), hbs]
    refine own_aloadN W2 52 d3_51 rfl rfl rfl ?_
    refine own_getfield W2 55 d3_52 (wd13 hw) F_words_a1 rfl ?_
    intro T4 W4
    show own_Go p e below C T4 (mkF m 55 #[.val (.ref a1), .val (.long q2), .second, .val (.int p3), .val (.long q4), .second, .val (.int wo), .val (.int sh), .val (.long bs), .second] [(.ref t)])
    refine own_iload W4 57 d3_55 rfl rfl ?_
    refine own_iconst W4 (1 : Int32) 58 d3_57 rfl rfl ?_
    refine own_iadd W4 59 d3_58 rfl ?_
    refine own_dup2 W4 60 d3_59 rfl ?_
    refine own_laload W4 (a / 64 + 1) (g (a / 64 + 1)) 61 d3_60 V_t (own_inc hwo (by omega)) (by omega) (if_neg (by omega)) rfl ?_
    refine own_lload W4 63 d3_61 rfl rfl ?_
    refine own_bipush W4 (64 : Int32) 65 d3_63 rfl rfl ?_
    refine own_iload W4 67 d3_65 rfl rfl ?_
    refine own_isub W4 68 d3_67 rfl ?_
    refine own_lushr W4 69 d3_68 rfl ?_
    refine own_lor W4 70 d3_69 rfl ?_
    refine own_lastore W4 (a / 64 + 1) 71 d3_70 V_t (Or.inl (List.mem_of_getElem? (i := 0) rfl)) (own_inc hwo (by omega)) (by omega) rfl ?_
    intro T5 h5 W5 Wr5 V_t
    have F_words_a1 := F_words_a1.other Wr5 (Or.inl nat)
    show own_Go p e below C T5 (mkF m 71 #[.val (.ref a1), .val (.long q2), .second, .val (.int p3), .val (.long q4), .second, .val (.int wo), .val (.int sh), .val (.long bs), .second] [])
    refine own_retV (Q := fun v h => v = none ∧ (∃ g', own_A Z h t .long N (fun j => .long (g' j)) ∧ ∀ q, own_bit g' q = (own_bit g q || (decide (a ≤ q ∧ q < a + wd) && q4.toBitVec.getLsbD (q - a))))) W5 hC (by decide) (by decide) d3_71 ?_
    exact ⟨rfl, ⟨own_or1 (own_or1 g (a / 64) (bs <<< (sh &&& 0x3f).toInt64)) (a / 64 + 1) ((bs.toUInt64 >>> (((64 : Int32) - sh) &&& 0x3f).toInt64.toUInt64).toInt64), V_t.congr (fun j _ => own_up2 g _ _ _ _ j (by omega)), own_wr2 g a wd q4 _ _ hB1 hB2 hgt h64⟩⟩
  · refine own_icmpY W2 71 d3_48 ((flt c3).2.2.2) (by decide) (by decide) ?_
    have hle : a % 64 + wd ≤ 64 := by have h8 := c3; rw [own_ltN (i := 64) rfl hss] at h8; omega
    refine own_retV (Q := fun v h => v = none ∧ (∃ g', own_A Z h t .long N (fun j => .long (g' j)) ∧ ∀ q, own_bit g' q = (own_bit g q || (decide (a ≤ q ∧ q < a + wd) && q4.toBitVec.getLsbD (q - a))))) W2 hC (by decide) (by decide) d3_71 ?_
    exact ⟨rfl, ⟨own_or1 g (a / 64) (bs <<< (sh &&& 0x3f).toInt64), V_t.congr (fun j _ => own_up1 g _ _ j), own_wr1 g a wd q4 _ hB1 hle⟩⟩
theorem ef_m5 (m : MethodId) (x0 : Addr) (x1 : Int64) (x2 : Int32) : entryFrame m #[(.ref x0), (.long x1), (.int x2)] 8 = mkF m 0 #[.val (.ref x0), .val (.long x1), .second, .val (.int x2), .unset, .unset, .unset, .unset] [] := by first | (simp [entryFrame, mkF, argsToLocals, Value.category]; done) | rfl
set_option maxRecDepth 65536 in
set_option maxHeartbeats 40000000 in
theorem own_m5 (l : Launch) (Z : State) (a0 : Array Value) (hw : ∀ d ∈ tables_1, d.before a0 Z = true) (wo : List Jvm.Cond) (h0 : Heap) (a1 : Addr) (q2 : Int64) (p3 : Int32) (t : Addr) (N : Nat) (g : Nat → Int64) (a : Nat) (wd : Nat) (F_words_a1 : Fld Z h0 a1 "com/example/nodemata/nodemata/PackedBits" "words" "[J" (.ref t)) (V_t : own_A Z h0 t .long N (fun j => .long (g j))) (hat : q2.toInt = (a : Int)) (hwd : p3.toInt = (wd : Int)) (h1 : 1 ≤ wd) (h64 : wd ≤ 64) (hN : a / 64 + 1 < N) (hlt : a < 1000000) :
    own_M l Z wo (⟨"com/example/nodemata/nodemata/PackedBits", "read", "(JI)J"⟩ : MethodName) prog_73_method_2_code 8 (some .long) ({ frames := 0, cells := 0, slots := 0, locals := 0 } : Room) [] #[(.ref a1), (.long q2), (.int p3)] h0 (fun v h => ∃ r, v = some (.long r) ∧ ∀ i, i < 64 → r.toBitVec.getLsbD i = (decide (i < wd) && own_bit g (a + i))) := by
  refine own_body (plainFor_of_name pn_5) (fun m => ef_m5 m a1 q2 p3) ?_
  intro p e s m below meth c C hC T0 W0
  refine own_lloadN W0 1 d5_0 rfl rfl ?_
  refine own_bipush W0 (6 : Int32) 3 d5_1 rfl rfl ?_
  refine own_lushr W0 4 d5_3 rfl ?_
  refine own_l2i W0 5 d5_4 rfl ?_
  refine own_istore W0 7 #[.val (.ref a1), .val (.long q2), .second, .val (.int p3), .val (.int ((q2.toUInt64 >>> ((6 : Int32) &&& 0x3f).toInt64.toUInt64).toInt64).toInt32), .unset, .unset, .unset] d5_5 rfl rfl ?_
  have hwo := own_word hat hlt
  generalize h_wo : ((q2.toUInt64 >>> ((6 : Int32) &&& 0x3f).toInt64.toUInt64).toInt64).toInt32 = wo at hwo ⊢
  show own_Go p e below C T0 (mkF m 7 #[.val (.ref a1), .val (.long q2), .second, .val (.int p3), .val (.int wo), .unset, .unset, .unset] [])
  refine own_lloadN W0 8 d5_7 rfl rfl ?_
  refine own_l2i W0 9 d5_8 rfl ?_
  refine own_bipush W0 (63 : Int32) 11 d5_9 rfl rfl ?_
  refine own_iand W0 12 d5_11 rfl ?_
  refine own_istore W0 14 #[.val (.ref a1), .val (.long q2), .second, .val (.int p3), .val (.int wo), .val (.int (q2.toInt32 &&& (63 : Int32))), .unset, .unset] d5_12 rfl rfl ?_
  have hsh := own_shift hat hlt
  generalize h_sh : (q2.toInt32 &&& (63 : Int32)) = sh at hsh ⊢
  show own_Go p e below C T0 (mkF m 14 #[.val (.ref a1), .val (.long q2), .second, .val (.int p3), .val (.int wo), .val (.int sh), .unset, .unset] [])
  refine own_aloadN W0 15 d5_14 rfl rfl rfl ?_
  refine own_getfield W0 18 d5_15 (wd13 hw) F_words_a1 rfl ?_
  intro T1 W1
  show own_Go p e below C T1 (mkF m 18 #[.val (.ref a1), .val (.long q2), .second, .val (.int p3), .val (.int wo), .val (.int sh), .unset, .unset] [(.ref t)])
  refine own_iload W1 20 d5_18 rfl rfl ?_
  refine own_laload W1 (a / 64) (g (a / 64)) 21 d5_20 V_t hwo (by omega) rfl rfl ?_
  refine own_iload W1 23 d5_21 rfl rfl ?_
  refine own_lushr W1 24 d5_23 rfl ?_
  refine own_aloadN W1 25 d5_24 rfl rfl rfl ?_
  refine own_getfield W1 28 d5_25 (wd13 hw) F_words_a1 rfl ?_
  intro T2 W2
  show own_Go p e below C T2 (mkF m 28 #[.val (.ref a1), .val (.long q2), .second, .val (.int p3), .val (.int wo), .val (.int sh), .unset, .unset] [(.ref t), (.long (((g (a / 64)).toUInt64 >>> (sh &&& 0x3f).toInt64.toUInt64).toInt64))])
  refine own_iload W2 30 d5_28 rfl rfl ?_
  refine own_iconst W2 (1 : Int32) 31 d5_30 rfl rfl ?_
  refine own_iadd W2 32 d5_31 rfl ?_
  refine own_laload W2 (a / 64 + 1) (g (a / 64 + 1)) 33 d5_32 V_t (own_inc hwo (by omega)) (by omega) rfl rfl ?_
  refine own_iconst W2 (1 : Int32) 34 d5_33 rfl rfl ?_
  refine own_lshl W2 35 d5_34 rfl ?_
  refine own_bipush W2 (63 : Int32) 37 d5_35 rfl rfl ?_
  refine own_iload W2 39 d5_37 rfl rfl ?_
  refine own_isub W2 40 d5_39 rfl ?_
  refine own_lshl W2 41 d5_40 rfl ?_
  refine own_lor W2 42 d5_41 rfl ?_
  refine own_lstore W2 44 #[.val (.ref a1), .val (.long q2), .second, .val (.int p3), .val (.int wo), .val (.int sh), .val (.long ((((g (a / 64)).toUInt64 >>> (sh &&& 0x3f).toInt64.toUInt64).toInt64) ||| (((g (a / 64 + 1)) <<< ((1 : Int32) &&& 0x3f).toInt64) <<< (((63 : Int32) - sh) &&& 0x3f).toInt64))), .second] d5_42 rfl rfl ?_
  refine own_lload W2 46 d5_44 rfl rfl ?_
  refine own_ldc2Long W2 49 d5_46 (wd20 hw) rfl ?_
  refine own_bipush W2 (64 : Int32) 51 d5_49 rfl rfl ?_
  refine own_iloadN W2 52 d5_51 rfl rfl ?_
  refine own_isub W2 53 d5_52 rfl ?_
  refine own_lushr W2 54 d5_53 rfl ?_
  refine own_land W2 55 d5_54 rfl ?_
  refine own_retJ (Q := fun v h => ∃ r, v = some (.long r) ∧ ∀ i, i < 64 → r.toBitVec.getLsbD i = (decide (i < wd) && own_bit g (a + i))) W2 hC (by decide) (by decide) d5_55 ?_
  exact ⟨_, rfl, own_rd g a wd sh p3 hsh hwd h1 h64⟩
theorem ef_m4 (m : MethodId) (x0 : Int32) : entryFrame m #[(.int x0)] 1 = mkF m 0 #[.val (.int x0)] [] := by first | (simp [entryFrame, mkF, argsToLocals, Value.category]; done) | rfl
set_option maxRecDepth 65536 in
set_option maxHeartbeats 40000000 in
theorem own_m4 (l : Launch) (Z : State) (a0 : Array Value) (hw : ∀ d ∈ tables_1, d.before a0 Z = true) (wo : List Jvm.Cond) (h0 : Heap) (p1 : Int32) (wd : Nat) (hwd : p1.toInt = (wd : Int)) (h1 : 1 ≤ wd) (h64 : wd ≤ 64) :
    own_M l Z wo (⟨"com/example/nodemata/nodemata/PackedBitsReadPinLaw", "mask", "(I)J"⟩ : MethodName) method_2_code 1 (some .long) ({ frames := 0, cells := 0, slots := 0, locals := 0 } : Room) [] #[(.int p1)] h0 (fun v h => ∃ r, v = some (.long r) ∧ ∀ i, i < 64 → r.toBitVec.getLsbD i = decide (i < wd)) := by
  refine own_body (plainFor_of_name pn_4) (fun m => ef_m4 m p1) ?_
  intro p e s m below meth c C hC T0 W0
  refine own_iloadN W0 1 d4_0 rfl rfl ?_
  refine own_bipush W0 (64 : Int32) 3 d4_1 rfl rfl ?_
  by_cases c1 : p1 < (64 : Int32)
  · refine own_icmpY W0 10 d4_3 ((tlt c1).1) (by decide) (by decide) ?_
    refine own_lconst W0 (1 : Int64) 11 d4_10 rfl rfl ?_
    refine own_iloadN W0 12 d4_11 rfl rfl ?_
    refine own_lshl W0 13 d4_12 rfl ?_
    refine own_lconst W0 (1 : Int64) 14 d4_13 rfl rfl ?_
    refine own_lsub W0 15 d4_14 rfl ?_
    refine own_retJ (Q := fun v h => ∃ r, v = some (.long r) ∧ ∀ i, i < 64 → r.toBitVec.getLsbD i = decide (i < wd)) W0 hC (by decide) (by decide) d4_15 ?_
    exact ⟨_, rfl, fun i hi => own_pow p1 wd hwd (by have h8 := c1; rw [own_ltN (j := 64) hwd rfl] at h8; exact h8) i⟩
  · refine own_icmpN W0 6 d4_3 ((flt c1).1) rfl ?_
    refine own_ldc2Long W0 9 d4_6 (wd34 hw) rfl ?_
    refine own_retJ (Q := fun v h => ∃ r, v = some (.long r) ∧ ∀ i, i < 64 → r.toBitVec.getLsbD i = decide (i < wd)) W0 hC (by decide) (by decide) d4_9 ?_
    exact ⟨_, rfl, fun i hi => by
        have h7 := c1
        rw [own_ltN (j := 64) hwd rfl] at h7
        rw [own_mb, decide_eq_true hi, decide_eq_true (show i < wd by omega)]⟩
theorem ef_m6 (m : MethodId) (x0 : Int32) (x1 : Int32) : entryFrame m #[(.int x0), (.int x1)] 2 = mkF m 0 #[.val (.int x0), .val (.int x1)] [] := by first | (simp [entryFrame, mkF, argsToLocals, Value.category]; done) | rfl
set_option maxRecDepth 65536 in
set_option maxHeartbeats 40000000 in
theorem own_m6 (l : Launch) (Z : State) (a0 : Array Value) (hw : ∀ d ∈ tables_1, d.before a0 Z = true) (wo : List Jvm.Cond) (h0 : Heap) (p1 : Int32) (p2 : Int32) :
    own_M l Z wo (⟨"java/lang/Math", "min", "(II)I"⟩ : MethodName) jdk_29_method_69_code 2 (some .int) ({ frames := 0, cells := 0, slots := 0, locals := 0 } : Room) [] #[(.int p1), (.int p2)] h0 (fun v h => v = some (.int (if p2 < p1 then p2 else p1))) := by
  refine own_body (Jvm.Free.JP.mathPlain rfl (by decide +kernel)) (fun m => ef_m6 m p1 p2) ?_
  intro p e s m below meth c C hC T0 W0
  refine own_iloadN W0 1 d6_0 rfl rfl ?_
  refine own_iloadN W0 2 d6_1 rfl rfl ?_
  suffices J1 : own_Go p e below C T0 (mkF m 10 #[.val (.int p1), .val (.int p2)] [(.int (if p2 < p1 then p2 else p1))]) by
    by_cases c2 : p2 < p1
    · refine own_icmpY W0 9 d6_2 ((tlt c2).2.2.1) (by decide) (by decide) ?_
      refine own_iloadN W0 10 d6_9 rfl rfl ?_
      first | (simp only [if_pos c2] at J1; exact J1) | (simp only [if_pos c2] at J1 ⊢; exact J1)
    · refine own_icmpN W0 5 d6_2 ((flt c2).2.2.1) rfl ?_
      refine own_iloadN W0 6 d6_5 rfl rfl ?_
      refine own_goto W0 10 d6_6 (by decide) (by decide) ?_
      first | (simp only [if_neg c2] at J1; exact J1) | (simp only [if_neg c2] at J1 ⊢; exact J1)
  refine own_retI (Q := fun v h => v = some (.int (if p2 < p1 then p2 else p1))) W0 hC (by decide) (by decide) d6_10 ?_
  exact rfl
theorem own_la (q : Int32) : ∃ n : Nat, (q &&& (127 : Int32)).toInt = (n : Int) ∧ n < 128 := by
  have h1 := c_mask q 127 7 (by decide) (by decide)
  simp only [Nat.reducePow] at h1
  exact ⟨(q &&& 127).toInt.toNat, by omega, by omega⟩
theorem own_L {u : Int32} {i : Nat} (h : u.toInt = (i : Int)) : u.toInt64.toInt = (i : Int) := by rw [c_i2l]; exact h
theorem own_cw {u : Int32} {n : Nat} (h : u.toInt = (n : Int)) (h1 : 1 ≤ n) : ∃ k : Nat, (if (64 : Int32) < u then (64 : Int32) else u).toInt = (k : Int) ∧ k = min n 64 := by
  by_cases q : (64 : Int32) < u
  · rw [if_pos q]
    rw [own_ltN (i := 64) rfl h] at q
    exact ⟨64, rfl, by omega⟩
  · rw [if_neg q]
    rw [own_ltN (i := 64) rfl h] at q
    exact ⟨n, h, by omega⟩
theorem own_fA (A n1 n2 i : Nat) (u v : BitVec 64) : (decide (i < n1) && ((decide (A ≤ A + i ∧ A + i < A + n1) && u.getLsbD (A + i - A)) || (decide (A + n1 ≤ A + i ∧ A + i < A + n1 + n2) && v.getLsbD (A + i - (A + n1))))) = (u.getLsbD i && decide (i < n1)) := by
  by_cases h : i < n1
  · rw [decide_eq_true h, decide_eq_true (show A ≤ A + i ∧ A + i < A + n1 by omega), decide_eq_false (show ¬ (A + n1 ≤ A + i ∧ A + i < A + n1 + n2) by omega), show A + i - A = i by omega]; simp
  · rw [decide_eq_false h, Bool.false_and, Bool.and_false]
theorem own_fB (A n1 n2 i : Nat) (u v : BitVec 64) : (decide (i < n2) && ((decide (A ≤ A + n1 + i ∧ A + n1 + i < A + n1) && u.getLsbD (A + n1 + i - A)) || (decide (A + n1 ≤ A + n1 + i ∧ A + n1 + i < A + n1 + n2) && v.getLsbD (A + n1 + i - (A + n1))))) = (v.getLsbD i && decide (i < n2)) := by
  by_cases h : i < n2
  · rw [decide_eq_true h, decide_eq_false (show ¬ (A ≤ A + n1 + i ∧ A + n1 + i < A + n1) by omega), decide_eq_true (show A + n1 ≤ A + n1 + i ∧ A + n1 + i < A + n1 + n2 by omega), show A + n1 + i - (A + n1) = i by omega]; simp
  · rw [decide_eq_false h, Bool.false_and, Bool.and_false]
theorem own_fZ (A n1 n2 w i : Nat) (u v : BitVec 64) : (decide (i < w) && ((decide (A ≤ A + n1 + n2 + i ∧ A + n1 + n2 + i < A + n1) && u.getLsbD (A + n1 + n2 + i - A)) || (decide (A + n1 ≤ A + n1 + n2 + i ∧ A + n1 + n2 + i < A + n1 + n2) && v.getLsbD (A + n1 + n2 + i - (A + n1))))) = false := by
  rw [decide_eq_false (show ¬ (A ≤ A + n1 + n2 + i ∧ A + n1 + n2 + i < A + n1) by omega), decide_eq_false (show ¬ (A + n1 ≤ A + n1 + n2 + i ∧ A + n1 + n2 + i < A + n1 + n2) by omega)]; simp
theorem own_fC (A n1 n2 k i : Nat) (u v : BitVec 64) (hi : i < 64) (hk : k = min (n1 + n2) 64) : (decide (i < k) && ((decide (A ≤ A + i ∧ A + i < A + n1) && u.getLsbD (A + i - A)) || (decide (A + n1 ≤ A + i ∧ A + i < A + n1 + n2) && v.getLsbD (A + i - (A + n1))))) = (((u.getLsbD i && decide (i < n1)) || (decide (i < 64) && (!decide (i < n1) && (v.getLsbD (i - n1) && decide (i - n1 < n2))))) && decide (i < k)) := by
  rw [decide_eq_true hi, show A + i - A = i by omega, show A + i - (A + n1) = i - n1 by omega]
  by_cases h : i < n1
  · rw [decide_eq_true h, decide_eq_true (show A ≤ A + i ∧ A + i < A + n1 by omega), decide_eq_false (show ¬ (A + n1 ≤ A + i ∧ A + i < A + n1 + n2) by omega), decide_eq_true (show i < k by omega)]; simp
  · rw [decide_eq_false h, decide_eq_false (show ¬ (A ≤ A + i ∧ A + i < A + n1) by omega)]
    by_cases h2 : i - n1 < n2
    · rw [decide_eq_true h2, decide_eq_true (show A + n1 ≤ A + i ∧ A + i < A + n1 + n2 by omega), decide_eq_true (show i < k by omega)]; simp
    · rw [decide_eq_false h2, decide_eq_false (show ¬ (A + n1 ≤ A + i ∧ A + i < A + n1 + n2) by omega)]; simp
theorem own_hb {eb q5 : Int64} {n2 : Nat} (heb : ∀ i, i < 64 → eb.toBitVec.getLsbD i = (q5.toBitVec.getLsbD i && decide (i < n2))) (i n1 : Nat) (hi : i < 64) : eb.toBitVec.getLsbD (i - n1) = (q5.toBitVec.getLsbD (i - n1) && decide (i - n1 < n2)) := heb _ (by omega)
theorem ef_m0 (m : MethodId) (x0 : Int32) (x1 : Int32) (x2 : Int32) (x3 : Int64) (x4 : Int64) : entryFrame m #[(.int x0), (.int x1), (.int x2), (.long x3), (.long x4)] maxLocals = mkF m 0 #[.val (.int x0), .val (.int x1), .val (.int x2), .val (.long x3), .second, .val (.long x4), .second, .unset, .unset, .unset, .unset, .unset, .unset, .unset, .unset, .unset, .unset, .unset, .unset, .unset, .unset, .unset] [] := by first | (simp [entryFrame, mkF, argsToLocals, Value.category, maxLocals]; done) | rfl
set_option maxRecDepth 65536 in
set_option maxHeartbeats 40000000 in
theorem own_m0 (l : Launch) (Z : State) (a0 : Array Value) (hw : ∀ d ∈ tables_1, d.before a0 Z = true) (wo : List Jvm.Cond) (h0 : Heap) (p1 : Int32) (p2 : Int32) (p3 : Int32) (q4 : Int64) (q5 : Int64) :
    own_M l Z wo x code maxLocals ret room_1 [] #[(.int p1), (.int p2), (.int p3), (.long q4), (.long q5)] h0 (fun v h => v = some (.int (1 : Int32))) := by
  refine own_body (plainFor_of_name pn_0) (fun m => ef_m0 m p1 p2 p3 q4 q5) ?_
  intro p e s m below meth c C hC T0 W0
  refine own_iloadN W0 1 at_0 rfl rfl ?_
  refine own_bipush W0 (127 : Int32) 3 at_1 rfl rfl ?_
  refine own_iand W0 4 at_3 rfl ?_
  refine own_istore W0 6 #[.val (.int p1), .val (.int p2), .val (.int p3), .val (.long q4), .second, .val (.long q5), .second, .val (.int (p1 &&& (127 : Int32))), .unset, .unset, .unset, .unset, .unset, .unset, .unset, .unset, .unset, .unset, .unset, .unset, .unset, .unset] at_4 rfl rfl ?_
  obtain ⟨A, hA, hA2⟩ := own_la p1
  generalize h_pp : (p1 &&& (127 : Int32)) = pp at hA ⊢
  show own_Go p e below C T0 (mkF m 6 #[.val (.int p1), .val (.int p2), .val (.int p3), .val (.long q4), .second, .val (.long q5), .second, .val (.int pp), .unset, .unset, .unset, .unset, .unset, .unset, .unset, .unset, .unset, .unset, .unset, .unset, .unset, .unset] [])
  refine own_iconst W0 (1 : Int32) 7 at_6 rfl rfl ?_
  refine own_iloadN W0 8 at_7 rfl rfl ?_
  refine own_bipush W0 (63 : Int32) 10 at_8 rfl rfl ?_
  refine own_iand W0 11 at_10 rfl ?_
  refine own_iadd W0 12 at_11 rfl ?_
  refine own_istore W0 14 #[.val (.int p1), .val (.int p2), .val (.int p3), .val (.long q4), .second, .val (.long q5), .second, .val (.int pp), .val (.int ((1 : Int32) + (p2 &&& (63 : Int32)))), .unset, .unset, .unset, .unset, .unset, .unset, .unset, .unset, .unset, .unset, .unset, .unset, .unset] at_12 rfl rfl ?_
  obtain ⟨n1, hn1, hn1a, hn1b⟩ := own_1w p2
  generalize h_wa : ((1 : Int32) + (p2 &&& (63 : Int32))) = wa at hn1 ⊢
  show own_Go p e below C T0 (mkF m 14 #[.val (.int p1), .val (.int p2), .val (.int p3), .val (.long q4), .second, .val (.long q5), .second, .val (.int pp), .val (.int wa), .unset, .unset, .unset, .unset, .unset, .unset, .unset, .unset, .unset, .unset, .unset, .unset, .unset] [])
  refine own_iconst W0 (1 : Int32) 15 at_14 rfl rfl ?_
  refine own_iloadN W0 16 at_15 rfl rfl ?_
  refine own_bipush W0 (63 : Int32) 18 at_16 rfl rfl ?_
  refine own_iand W0 19 at_18 rfl ?_
  refine own_iadd W0 20 at_19 rfl ?_
  refine own_istore W0 22 #[.val (.int p1), .val (.int p2), .val (.int p3), .val (.long q4), .second, .val (.long q5), .second, .val (.int pp), .val (.int wa), .val (.int ((1 : Int32) + (p3 &&& (63 : Int32)))), .unset, .unset, .unset, .unset, .unset, .unset, .unset, .unset, .unset, .unset, .unset, .unset] at_20 rfl rfl ?_
  obtain ⟨n2, hn2, hn2a, hn2b⟩ := own_1w p3
  generalize h_wb : ((1 : Int32) + (p3 &&& (63 : Int32))) = wb at hn2 ⊢
  show own_Go p e below C T0 (mkF m 22 #[.val (.int p1), .val (.int p2), .val (.int p3), .val (.long q4), .second, .val (.long q5), .second, .val (.int pp), .val (.int wa), .val (.int wb), .unset, .unset, .unset, .unset, .unset, .unset, .unset, .unset, .unset, .unset, .unset, .unset] [])
  have hB := own_sum hA hn1 (by omega)
  have hE := own_sum hB hn2 (by omega)
  have hS := own_sum hn1 hn2 (by omega)
  refine own_new W0 25 at_22 (wd0 hw) (wd1 hw) (wd2 hw) (by decide) (by decide) rfl ?_
  intro T1 h1 o W1 E1 g_o o_o X_o D_o
  have F_words_o : Fld Z h1 o "com/example/nodemata/nodemata/PackedBits" "words" "[J" .null := D_o (Or.inr (wd14 hw)) (ty := (.array .long)) (by decide)
  show own_Go p e below C T1 (mkF m 25 #[.val (.int p1), .val (.int p2), .val (.int p3), .val (.long q4), .second, .val (.long q5), .second, .val (.int pp), .val (.int wa), .val (.int wb), .unset, .unset, .unset, .unset, .unset, .unset, .unset, .unset, .unset, .unset, .unset, .unset] [(.ref o)])
  refine own_dup W1 26 at_25 rfl rfl ?_
  refine own_ldc2Long W1 29 at_26 (wd3 hw) rfl ?_
  have hol := X_o.lt
  refine own_callN W1 (A := [(.long (256 : Int64))]) (wt := 1) (pc' := 32) (st := [(.ref o)]) at_29 rfl (wd4 hw) (wd5 hw) (wd2 hw) (wd6 hw) (by decide) (own_m1 l Z a0 hw [] h1 o X_o F_words_o) (allS (Or.inr o_o) all0) rfl pd_0 rfl (Nat.le_of_eq rfl) (by decide) (by decide) (by decide) (by decide) rfl ?_
  rintro T2 h2 _ W2 K2 P2 ⟨rfl, ⟨t, o_t, F_words_o, V_t⟩⟩
  have X_o := X_o.keep K2
  show own_Go p e below C T2 (mkF m 32 #[.val (.int p1), .val (.int p2), .val (.int p3), .val (.long q4), .second, .val (.long q5), .second, .val (.int pp), .val (.int wa), .val (.int wb), .unset, .unset, .unset, .unset, .unset, .unset, .unset, .unset, .unset, .unset, .unset, .unset] [(.ref o)])
  have not_ : o ≠ t := Nat.ne_of_lt (Nat.lt_of_lt_of_le hol o_t)
  refine own_astore W2 34 #[.val (.int p1), .val (.int p2), .val (.int p3), .val (.long q4), .second, .val (.long q5), .second, .val (.int pp), .val (.int wa), .val (.int wb), .val (.ref o), .unset, .unset, .unset, .unset, .unset, .unset, .unset, .unset, .unset, .unset, .unset] at_32 rfl rfl rfl ?_
  refine own_aload W2 36 at_34 rfl rfl rfl ?_
  refine own_iload W2 38 at_36 rfl rfl ?_
  refine own_i2l W2 39 at_38 rfl ?_
  refine own_iload W2 41 at_39 rfl rfl ?_
  refine own_lloadN W2 42 at_41 rfl rfl ?_
  refine own_callV W2 (A := [(.long pp.toInt64), (.int wa), (.long q4)]) (wt := 0) (pc' := 45) (st := []) at_42 (wd15 hw) (wd16 hw) (own_nf W2 (wd18 hw)) (wd18 hw) (wd17 hw) (wd2 hw) (wd19 hw) (by decide) X_o (own_m3 l Z a0 hw [] h2 o pp.toInt64 wa q4 t 5 (fun _ => 0) A n1 F_words_o V_t not_ (own_L hA) hn1 hn1a hn1b (by omega) (by omega)) (allS (Or.inr (Nat.le_trans (Nat.le_trans o_o (Nat.le_of_lt hol)) o_t)) all0) rfl pd_1 rfl (Nat.le_of_eq rfl) (by decide) (by decide) (by decide) (by decide) rfl ?_
  rintro T3 h3 _ W3 K3 P3 ⟨rfl, ⟨g1, V_t, hg1⟩⟩
  have X_o := X_o.keep K3
  have F_words_o := F_words_o.keep K3 (ninS not_ nin0)
  show own_Go p e below C T3 (mkF m 45 #[.val (.int p1), .val (.int p2), .val (.int p3), .val (.long q4), .second, .val (.long q5), .second, .val (.int pp), .val (.int wa), .val (.int wb), .val (.ref o), .unset, .unset, .unset, .unset, .unset, .unset, .unset, .unset, .unset, .unset, .unset] [])
  refine own_aload W3 47 at_45 rfl rfl rfl ?_
  refine own_iload W3 49 at_47 rfl rfl ?_
  refine own_iload W3 51 at_49 rfl rfl ?_
  refine own_iadd W3 52 at_51 rfl ?_
  refine own_i2l W3 53 at_52 rfl ?_
  refine own_iload W3 55 at_53 rfl rfl ?_
  refine own_lload W3 57 at_55 rfl rfl ?_
  refine own_callV W3 (A := [(.long (pp + wa).toInt64), (.int wb), (.long q5)]) (wt := 0) (pc' := 60) (st := []) at_57 (wd15 hw) (wd16 hw) (own_nf W3 (wd18 hw)) (wd18 hw) (wd17 hw) (wd2 hw) (wd19 hw) (by decide) X_o (own_m3 l Z a0 hw [] h3 o (pp + wa).toInt64 wb q5 t 5 g1 (A + n1) n2 F_words_o V_t not_ (own_L hB) hn2 hn2a hn2b (by omega) (by omega)) (allS (Or.inr (Nat.le_trans (Nat.le_trans o_o (Nat.le_of_lt hol)) o_t)) all0) rfl pd_1 rfl (Nat.le_of_eq rfl) (by decide) (by decide) (by decide) (by decide) rfl ?_
  rintro T4 h4 _ W4 K4 P4 ⟨rfl, ⟨g2, V_t, hg2⟩⟩
  have X_o := X_o.keep K4
  have F_words_o := F_words_o.keep K4 (ninS not_ nin0)
  show own_Go p e below C T4 (mkF m 60 #[.val (.int p1), .val (.int p2), .val (.int p3), .val (.long q4), .second, .val (.long q5), .second, .val (.int pp), .val (.int wa), .val (.int wb), .val (.ref o), .unset, .unset, .unset, .unset, .unset, .unset, .unset, .unset, .unset, .unset, .unset] [])
  have hbit : ∀ q, own_bit g2 q = ((decide (A ≤ q ∧ q < A + n1) && q4.toBitVec.getLsbD (q - A)) || (decide (A + n1 ≤ q ∧ q < A + n1 + n2) && q5.toBitVec.getLsbD (q - (A + n1)))) := fun q => by rw [hg2, hg1, show own_bit (fun _ => (0 : Int64)) q = false from own_zb _, Bool.false_or]
  refine own_lloadN W4 61 at_60 rfl rfl ?_
  refine own_iload W4 63 at_61 rfl rfl ?_
  refine own_callS W4 (A := [(.int wa)]) (wt := 2) (pc' := 66) (st := [(.long q4)]) at_63 (wd21 hw) (wd22 hw) (wd23 hw) (wd24 hw) (by decide) (own_m4 l Z a0 hw [] h4 wa n1 hn1 hn1a hn1b) all0 rfl pd_2 rfl (Nat.le_of_eq rfl) (by decide) (by decide) (by decide) (by decide) rfl ?_
  rintro T5 h5 _ W5 K5 P5 ⟨k1, rfl, hk1⟩
  rw [P5 rfl rfl] at W5
  show own_Go p e below C T5 (mkF m 66 #[.val (.int p1), .val (.int p2), .val (.int p3), .val (.long q4), .second, .val (.long q5), .second, .val (.int pp), .val (.int wa), .val (.int wb), .val (.ref o), .unset, .unset, .unset, .unset, .unset, .unset, .unset, .unset, .unset, .unset, .unset] [(.long k1), (.long q4)])
  refine own_land W5 67 at_66 rfl ?_
  refine own_lstore W5 69 #[.val (.int p1), .val (.int p2), .val (.int p3), .val (.long q4), .second, .val (.long q5), .second, .val (.int pp), .val (.int wa), .val (.int wb), .val (.ref o), .val (.long (q4 &&& k1)), .second, .unset, .unset, .unset, .unset, .unset, .unset, .unset, .unset, .unset] at_67 rfl rfl ?_
  have hea : ∀ i, i < 64 → (q4 &&& k1).toBitVec.getLsbD i = (q4.toBitVec.getLsbD i && decide (i < n1)) := fun i hi => by rw [own_andi, hk1 i hi]
  generalize h_ea : (q4 &&& k1) = ea at hea ⊢
  show own_Go p e below C T5 (mkF m 69 #[.val (.int p1), .val (.int p2), .val (.int p3), .val (.long q4), .second, .val (.long q5), .second, .val (.int pp), .val (.int wa), .val (.int wb), .val (.ref o), .val (.long ea), .second, .unset, .unset, .unset, .unset, .unset, .unset, .unset, .unset, .unset] [])
  refine own_lload W5 71 at_69 rfl rfl ?_
  refine own_iload W5 73 at_71 rfl rfl ?_
  refine own_callS W5 (A := [(.int wb)]) (wt := 2) (pc' := 76) (st := [(.long q5)]) at_73 (wd21 hw) (wd22 hw) (wd23 hw) (wd24 hw) (by decide) (own_m4 l Z a0 hw [] h4 wb n2 hn2 hn2a hn2b) all0 rfl pd_2 rfl (Nat.le_of_eq rfl) (by decide) (by decide) (by decide) (by decide) rfl ?_
  rintro T6 h6 _ W6 K6 P6 ⟨k2, rfl, hk2⟩
  rw [P6 rfl rfl] at W6
  show own_Go p e below C T6 (mkF m 76 #[.val (.int p1), .val (.int p2), .val (.int p3), .val (.long q4), .second, .val (.long q5), .second, .val (.int pp), .val (.int wa), .val (.int wb), .val (.ref o), .val (.long ea), .second, .unset, .unset, .unset, .unset, .unset, .unset, .unset, .unset, .unset] [(.long k2), (.long q5)])
  refine own_land W6 77 at_76 rfl ?_
  refine own_lstore W6 79 #[.val (.int p1), .val (.int p2), .val (.int p3), .val (.long q4), .second, .val (.long q5), .second, .val (.int pp), .val (.int wa), .val (.int wb), .val (.ref o), .val (.long ea), .second, .val (.long (q5 &&& k2)), .second, .unset, .unset, .unset, .unset, .unset, .unset, .unset] at_77 rfl rfl ?_
  have heb : ∀ i, i < 64 → (q5 &&& k2).toBitVec.getLsbD i = (q5.toBitVec.getLsbD i && decide (i < n2)) := fun i hi => by rw [own_andi, hk2 i hi]
  generalize h_eb : (q5 &&& k2) = eb at heb ⊢
  show own_Go p e below C T6 (mkF m 79 #[.val (.int p1), .val (.int p2), .val (.int p3), .val (.long q4), .second, .val (.long q5), .second, .val (.int pp), .val (.int wa), .val (.int wb), .val (.ref o), .val (.long ea), .second, .val (.long eb), .second, .unset, .unset, .unset, .unset, .unset, .unset, .unset] [])
  refine own_aload W6 81 at_79 rfl rfl rfl ?_
  refine own_iload W6 83 at_81 rfl rfl ?_
  refine own_i2l W6 84 at_83 rfl ?_
  refine own_iload W6 86 at_84 rfl rfl ?_
  refine own_callV W6 (A := [(.long pp.toInt64), (.int wa)]) (wt := 0) (pc' := 89) (st := []) at_86 (wd25 hw) (wd26 hw) (own_nf W6 (wd28 hw)) (wd28 hw) (wd27 hw) (wd2 hw) (wd29 hw) (by decide) X_o (own_m5 l Z a0 hw [] h4 o pp.toInt64 wa t 5 g2 A n1 F_words_o V_t (own_L hA) hn1 hn1a hn1b (by omega) (by omega)) all0 rfl pd_3 rfl (Nat.le_of_eq rfl) (by decide) (by decide) (by decide) (by decide) rfl ?_
  rintro T7 h7 _ W7 K7 P7 ⟨r1, rfl, hr1⟩
  rw [P7 rfl rfl] at W7
  show own_Go p e below C T7 (mkF m 89 #[.val (.int p1), .val (.int p2), .val (.int p3), .val (.long q4), .second, .val (.long q5), .second, .val (.int pp), .val (.int wa), .val (.int wb), .val (.ref o), .val (.long ea), .second, .val (.long eb), .second, .unset, .unset, .unset, .unset, .unset, .unset, .unset] [(.long r1)])
  refine own_lload W7 91 at_89 rfl rfl ?_
  refine own_lcmp W7 92 at_91 rfl ?_
  refine own_ifN W7 95 at_92 ((if0 _ _).trans (teq ((lw_eq r1 ea).mpr (own_ext64 fun i hi => by rw [hr1 i hi, hea i hi, hbit]; exact own_fA A n1 n2 i _ _ : r1 = ea))).2) rfl ?_
  refine own_iconst W7 (1 : Int32) 96 at_95 rfl rfl ?_
  refine own_goto W7 100 at_96 (by decide) (by decide) ?_
  refine own_istore W7 102 #[.val (.int p1), .val (.int p2), .val (.int p3), .val (.long q4), .second, .val (.long q5), .second, .val (.int pp), .val (.int wa), .val (.int wb), .val (.ref o), .val (.long ea), .second, .val (.long eb), .second, .val (.int (1 : Int32)), .unset, .unset, .unset, .unset, .unset, .unset] at_100 rfl rfl ?_
  refine own_aload W7 104 at_102 rfl rfl rfl ?_
  refine own_iload W7 106 at_104 rfl rfl ?_
  refine own_iload W7 108 at_106 rfl rfl ?_
  refine own_iadd W7 109 at_108 rfl ?_
  refine own_i2l W7 110 at_109 rfl ?_
  refine own_iload W7 112 at_110 rfl rfl ?_
  refine own_callV W7 (A := [(.long (pp + wa).toInt64), (.int wb)]) (wt := 0) (pc' := 115) (st := []) at_112 (wd25 hw) (wd26 hw) (own_nf W7 (wd28 hw)) (wd28 hw) (wd27 hw) (wd2 hw) (wd29 hw) (by decide) X_o (own_m5 l Z a0 hw [] h4 o (pp + wa).toInt64 wb t 5 g2 (A + n1) n2 F_words_o V_t (own_L hB) hn2 hn2a hn2b (by omega) (by omega)) all0 rfl pd_3 rfl (Nat.le_of_eq rfl) (by decide) (by decide) (by decide) (by decide) rfl ?_
  rintro T8 h8 _ W8 K8 P8 ⟨r2, rfl, hr2⟩
  rw [P8 rfl rfl] at W8
  show own_Go p e below C T8 (mkF m 115 #[.val (.int p1), .val (.int p2), .val (.int p3), .val (.long q4), .second, .val (.long q5), .second, .val (.int pp), .val (.int wa), .val (.int wb), .val (.ref o), .val (.long ea), .second, .val (.long eb), .second, .val (.int (1 : Int32)), .unset, .unset, .unset, .unset, .unset, .unset] [(.long r2)])
  refine own_lload W8 117 at_115 rfl rfl ?_
  refine own_lcmp W8 118 at_117 rfl ?_
  refine own_ifN W8 121 at_118 ((if0 _ _).trans (teq ((lw_eq r2 eb).mpr (own_ext64 fun i hi => by rw [hr2 i hi, heb i hi, hbit]; exact own_fB A n1 n2 i _ _ : r2 = eb))).2) rfl ?_
  refine own_iconst W8 (1 : Int32) 122 at_121 rfl rfl ?_
  refine own_goto W8 126 at_122 (by decide) (by decide) ?_
  refine own_istore W8 128 #[.val (.int p1), .val (.int p2), .val (.int p3), .val (.long q4), .second, .val (.long q5), .second, .val (.int pp), .val (.int wa), .val (.int wb), .val (.ref o), .val (.long ea), .second, .val (.long eb), .second, .val (.int (1 : Int32)), .val (.int (1 : Int32)), .unset, .unset, .unset, .unset, .unset] at_126 rfl rfl ?_
  refine own_iload W8 130 at_128 rfl rfl ?_
  refine own_iload W8 132 at_130 rfl rfl ?_
  refine own_iadd W8 133 at_132 rfl ?_
  refine own_bipush W8 (64 : Int32) 135 at_133 rfl rfl ?_
  refine own_callS W8 (A := [(.int (wa + wb)), (.int (64 : Int32))]) (wt := 0) (pc' := 138) (st := []) at_135 (wd30 hw) (wd31 hw) (wd32 hw) (wd33 hw) (by decide) (own_m6 l Z a0 hw [] h4 (wa + wb) (64 : Int32)) all0 rfl pd_4 rfl (Nat.le_of_eq rfl) (by decide) (by decide) (by decide) (by decide) rfl ?_
  rintro T9 h9 _ W9 K9 P9 rfl
  rw [P9 rfl rfl] at W9
  show own_Go p e below C T9 (mkF m 138 #[.val (.int p1), .val (.int p2), .val (.int p3), .val (.long q4), .second, .val (.long q5), .second, .val (.int pp), .val (.int wa), .val (.int wb), .val (.ref o), .val (.long ea), .second, .val (.long eb), .second, .val (.int (1 : Int32)), .val (.int (1 : Int32)), .unset, .unset, .unset, .unset, .unset] [(.int (if (64 : Int32) < (wa + wb) then (64 : Int32) else (wa + wb)))])
  obtain ⟨k, hk, hkm⟩ := own_cw hS (by omega)
  generalize h_cw : (if (64 : Int32) < (wa + wb) then (64 : Int32) else (wa + wb)) = cw at hk ⊢
  show own_Go p e below C T9 (mkF m 138 #[.val (.int p1), .val (.int p2), .val (.int p3), .val (.long q4), .second, .val (.long q5), .second, .val (.int pp), .val (.int wa), .val (.int wb), .val (.ref o), .val (.long ea), .second, .val (.long eb), .second, .val (.int (1 : Int32)), .val (.int (1 : Int32)), .unset, .unset, .unset, .unset, .unset] [(.int cw)])
  refine own_istore W9 140 #[.val (.int p1), .val (.int p2), .val (.int p3), .val (.long q4), .second, .val (.long q5), .second, .val (.int pp), .val (.int wa), .val (.int wb), .val (.ref o), .val (.long ea), .second, .val (.long eb), .second, .val (.int (1 : Int32)), .val (.int (1 : Int32)), .val (.int cw), .unset, .unset, .unset, .unset] at_138 rfl rfl ?_
  refine own_iload W9 142 at_140 rfl rfl ?_
  refine own_bipush W9 (64 : Int32) 144 at_142 rfl rfl ?_
  by_cases c10 : wa = (64 : Int32)
  · refine own_icmpN W9 147 at_144 ((teq c10).2) rfl ?_
    have e64 : n1 = 64 := by
      have h8 := c10
      rw [h8] at hn1
      have h9 : (64 : Int32).toInt = 64 := rfl
      omega
    have ek : k = n1 := by omega
    refine own_lload W9 149 at_147 rfl rfl ?_
    refine own_lstore W9 151 #[.val (.int p1), .val (.int p2), .val (.int p3), .val (.long q4), .second, .val (.long q5), .second, .val (.int pp), .val (.int wa), .val (.int wb), .val (.ref o), .val (.long ea), .second, .val (.long eb), .second, .val (.int (1 : Int32)), .val (.int (1 : Int32)), .val (.int cw), .val (.long ea), .second, .unset, .unset] at_149 rfl rfl ?_
    refine own_goto W9 170 at_151 (by decide) (by decide) ?_
    refine own_aload W9 172 at_170 rfl rfl rfl ?_
    refine own_iload W9 174 at_172 rfl rfl ?_
    refine own_i2l W9 175 at_174 rfl ?_
    refine own_iload W9 177 at_175 rfl rfl ?_
    refine own_callV W9 (A := [(.long pp.toInt64), (.int cw)]) (wt := 0) (pc' := 180) (st := []) at_177 (wd25 hw) (wd26 hw) (own_nf W9 (wd28 hw)) (wd28 hw) (wd27 hw) (wd2 hw) (wd29 hw) (by decide) X_o (own_m5 l Z a0 hw [] h4 o pp.toInt64 cw t 5 g2 A k F_words_o V_t (own_L hA) hk (by omega) (by omega) (by omega) (by omega)) all0 rfl pd_3 rfl (Nat.le_of_eq rfl) (by decide) (by decide) (by decide) (by decide) rfl ?_
    rintro T11 h11 _ W11 K11 P11 ⟨r3, rfl, hr3⟩
    rw [P11 rfl rfl] at W11
    show own_Go p e below C T11 (mkF m 180 #[.val (.int p1), .val (.int p2), .val (.int p3), .val (.long q4), .second, .val (.long q5), .second, .val (.int pp), .val (.int wa), .val (.int wb), .val (.ref o), .val (.long ea), .second, .val (.long eb), .second, .val (.int (1 : Int32)), .val (.int (1 : Int32)), .val (.int cw), .val (.long ea), .second, .unset, .unset] [(.long r3)])
    refine own_lload W11 182 at_180 rfl rfl ?_
    refine own_lcmp W11 183 at_182 rfl ?_
    refine own_ifN W11 186 at_183 ((if0 _ _).trans (teq ((lw_eq r3 ea).mpr (own_ext64 fun i hi => by rw [hr3 i hi, hea i hi, hbit, ek]; exact own_fA A n1 n2 i _ _ : r3 = ea))).2) rfl ?_
    refine own_iconst W11 (1 : Int32) 187 at_186 rfl rfl ?_
    refine own_goto W11 191 at_187 (by decide) (by decide) ?_
    refine own_istore W11 193 #[.val (.int p1), .val (.int p2), .val (.int p3), .val (.long q4), .second, .val (.long q5), .second, .val (.int pp), .val (.int wa), .val (.int wb), .val (.ref o), .val (.long ea), .second, .val (.long eb), .second, .val (.int (1 : Int32)), .val (.int (1 : Int32)), .val (.int cw), .val (.long ea), .second, .val (.int (1 : Int32)), .unset] at_191 rfl rfl ?_
    refine own_aload W11 195 at_193 rfl rfl rfl ?_
    refine own_iload W11 197 at_195 rfl rfl ?_
    refine own_iload W11 199 at_197 rfl rfl ?_
    refine own_iadd W11 200 at_199 rfl ?_
    refine own_iload W11 202 at_200 rfl rfl ?_
    refine own_iadd W11 203 at_202 rfl ?_
    refine own_i2l W11 204 at_203 rfl ?_
    refine own_iload W11 206 at_204 rfl rfl ?_
    refine own_callV W11 (A := [(.long ((pp + wa) + wb).toInt64), (.int wb)]) (wt := 0) (pc' := 209) (st := []) at_206 (wd25 hw) (wd26 hw) (own_nf W11 (wd28 hw)) (wd28 hw) (wd27 hw) (wd2 hw) (wd29 hw) (by decide) X_o (own_m5 l Z a0 hw [] h4 o ((pp + wa) + wb).toInt64 wb t 5 g2 (A + n1 + n2) n2 F_words_o V_t (own_L hE) hn2 hn2a hn2b (by omega) (by omega)) all0 rfl pd_3 rfl (Nat.le_of_eq rfl) (by decide) (by decide) (by decide) (by decide) rfl ?_
    rintro T12 h12 _ W12 K12 P12 ⟨r4, rfl, hr4⟩
    rw [P12 rfl rfl] at W12
    show own_Go p e below C T12 (mkF m 209 #[.val (.int p1), .val (.int p2), .val (.int p3), .val (.long q4), .second, .val (.long q5), .second, .val (.int pp), .val (.int wa), .val (.int wb), .val (.ref o), .val (.long ea), .second, .val (.long eb), .second, .val (.int (1 : Int32)), .val (.int (1 : Int32)), .val (.int cw), .val (.long ea), .second, .val (.int (1 : Int32)), .unset] [(.long r4)])
    refine own_lconst W12 (0 : Int64) 210 at_209 rfl rfl ?_
    refine own_lcmp W12 211 at_210 rfl ?_
    refine own_ifN W12 214 at_211 ((if0 _ _).trans (teq ((lw_eq r4 (0 : Int64)).mpr (own_ext64 fun i hi => by rw [hr4 i hi, hbit, own_zb]; exact own_fZ A n1 n2 _ i _ _ : r4 = (0 : Int64)))).2) rfl ?_
    refine own_iconst W12 (1 : Int32) 215 at_214 rfl rfl ?_
    refine own_goto W12 219 at_215 (by decide) (by decide) ?_
    refine own_istore W12 221 #[.val (.int p1), .val (.int p2), .val (.int p3), .val (.long q4), .second, .val (.long q5), .second, .val (.int pp), .val (.int wa), .val (.int wb), .val (.ref o), .val (.long ea), .second, .val (.long eb), .second, .val (.int (1 : Int32)), .val (.int (1 : Int32)), .val (.int cw), .val (.long ea), .second, .val (.int (1 : Int32)), .val (.int (1 : Int32))] at_219 rfl rfl ?_
    refine own_iload W12 223 at_221 rfl rfl ?_
    refine own_ifN W12 226 at_223 ((if0 _ _).trans (feq (by decide : ¬ ((1 : Int32) = (0 : Int32)))).1) rfl ?_
    refine own_iload W12 228 at_226 rfl rfl ?_
    refine own_ifN W12 231 at_228 ((if0 _ _).trans (feq (by decide : ¬ ((1 : Int32) = (0 : Int32)))).1) rfl ?_
    refine own_iload W12 233 at_231 rfl rfl ?_
    refine own_ifN W12 236 at_233 ((if0 _ _).trans (feq (by decide : ¬ ((1 : Int32) = (0 : Int32)))).1) rfl ?_
    refine own_iload W12 238 at_236 rfl rfl ?_
    refine own_ifN W12 241 at_238 ((if0 _ _).trans (feq (by decide : ¬ ((1 : Int32) = (0 : Int32)))).1) rfl ?_
    refine own_iconst W12 (1 : Int32) 242 at_241 rfl rfl ?_
    refine own_goto W12 246 at_242 (by decide) (by decide) ?_
    refine own_retZ (Q := fun v h => v = some (.int (1 : Int32))) W12 hC (by decide) (by decide) at_246 ?_
    exact rfl
  · refine own_icmpY W9 154 at_144 ((feq c10).2) (by decide) (by decide) ?_
    refine own_lload W9 156 at_154 rfl rfl ?_
    refine own_lload W9 158 at_156 rfl rfl ?_
    refine own_iload W9 160 at_158 rfl rfl ?_
    refine own_lshl W9 161 at_160 rfl ?_
    refine own_lor W9 162 at_161 rfl ?_
    refine own_iload W9 164 at_162 rfl rfl ?_
    refine own_callS W9 (A := [(.int cw)]) (wt := 2) (pc' := 167) (st := [(.long (ea ||| (eb <<< (wa &&& 0x3f).toInt64)))]) at_164 (wd21 hw) (wd22 hw) (wd23 hw) (wd24 hw) (by decide) (own_m4 l Z a0 hw [] h4 cw k hk (by omega) (by omega)) all0 rfl pd_2 rfl (Nat.le_of_eq rfl) (by decide) (by decide) (by decide) (by decide) rfl ?_
    rintro T13 h13 _ W13 K13 P13 ⟨k3, rfl, hk3⟩
    rw [P13 rfl rfl] at W13
    show own_Go p e below C T13 (mkF m 167 #[.val (.int p1), .val (.int p2), .val (.int p3), .val (.long q4), .second, .val (.long q5), .second, .val (.int pp), .val (.int wa), .val (.int wb), .val (.ref o), .val (.long ea), .second, .val (.long eb), .second, .val (.int (1 : Int32)), .val (.int (1 : Int32)), .val (.int cw), .unset, .unset, .unset, .unset] [(.long k3), (.long (ea ||| (eb <<< (wa &&& 0x3f).toInt64)))])
    have hlt : n1 < 64 := by have h9 : ¬ n1 = 64 := fun q => c10 (own_ofN (by rw [hn1, q]) (by decide)); omega
    refine own_land W13 168 at_167 rfl ?_
    refine own_lstore W13 170 #[.val (.int p1), .val (.int p2), .val (.int p3), .val (.long q4), .second, .val (.long q5), .second, .val (.int pp), .val (.int wa), .val (.int wb), .val (.ref o), .val (.long ea), .second, .val (.long eb), .second, .val (.int (1 : Int32)), .val (.int (1 : Int32)), .val (.int cw), .val (.long ((ea ||| (eb <<< (wa &&& 0x3f).toInt64)) &&& k3)), .second, .unset, .unset] at_168 rfl rfl ?_
    refine own_aload W13 172 at_170 rfl rfl rfl ?_
    refine own_iload W13 174 at_172 rfl rfl ?_
    refine own_i2l W13 175 at_174 rfl ?_
    refine own_iload W13 177 at_175 rfl rfl ?_
    refine own_callV W13 (A := [(.long pp.toInt64), (.int cw)]) (wt := 0) (pc' := 180) (st := []) at_177 (wd25 hw) (wd26 hw) (own_nf W13 (wd28 hw)) (wd28 hw) (wd27 hw) (wd2 hw) (wd29 hw) (by decide) X_o (own_m5 l Z a0 hw [] h4 o pp.toInt64 cw t 5 g2 A k F_words_o V_t (own_L hA) hk (by omega) (by omega) (by omega) (by omega)) all0 rfl pd_3 rfl (Nat.le_of_eq rfl) (by decide) (by decide) (by decide) (by decide) rfl ?_
    rintro T14 h14 _ W14 K14 P14 ⟨r3, rfl, hr3⟩
    rw [P14 rfl rfl] at W14
    show own_Go p e below C T14 (mkF m 180 #[.val (.int p1), .val (.int p2), .val (.int p3), .val (.long q4), .second, .val (.long q5), .second, .val (.int pp), .val (.int wa), .val (.int wb), .val (.ref o), .val (.long ea), .second, .val (.long eb), .second, .val (.int (1 : Int32)), .val (.int (1 : Int32)), .val (.int cw), .val (.long ((ea ||| (eb <<< (wa &&& 0x3f).toInt64)) &&& k3)), .second, .unset, .unset] [(.long r3)])
    refine own_lload W14 182 at_180 rfl rfl ?_
    refine own_lcmp W14 183 at_182 rfl ?_
    refine own_ifN W14 186 at_183 ((if0 _ _).trans (teq ((lw_eq r3 ((ea ||| (eb <<< (wa &&& 0x3f).toInt64)) &&& k3)).mpr (own_ext64 fun i hi => by rw [hr3 i hi, hbit, own_andi, own_ori, hk3 i hi, hea i hi, own_shl _ _ n1 (by rw [own_tn hn1]; omega), own_hb heb i n1 hi]; exact own_fC A n1 n2 k i _ _ hi hkm : r3 = ((ea ||| (eb <<< (wa &&& 0x3f).toInt64)) &&& k3)))).2) rfl ?_
    refine own_iconst W14 (1 : Int32) 187 at_186 rfl rfl ?_
    refine own_goto W14 191 at_187 (by decide) (by decide) ?_
    refine own_istore W14 193 #[.val (.int p1), .val (.int p2), .val (.int p3), .val (.long q4), .second, .val (.long q5), .second, .val (.int pp), .val (.int wa), .val (.int wb), .val (.ref o), .val (.long ea), .second, .val (.long eb), .second, .val (.int (1 : Int32)), .val (.int (1 : Int32)), .val (.int cw), .val (.long ((ea ||| (eb <<< (wa &&& 0x3f).toInt64)) &&& k3)), .second, .val (.int (1 : Int32)), .unset] at_191 rfl rfl ?_
    refine own_aload W14 195 at_193 rfl rfl rfl ?_
    refine own_iload W14 197 at_195 rfl rfl ?_
    refine own_iload W14 199 at_197 rfl rfl ?_
    refine own_iadd W14 200 at_199 rfl ?_
    refine own_iload W14 202 at_200 rfl rfl ?_
    refine own_iadd W14 203 at_202 rfl ?_
    refine own_i2l W14 204 at_203 rfl ?_
    refine own_iload W14 206 at_204 rfl rfl ?_
    refine own_callV W14 (A := [(.long ((pp + wa) + wb).toInt64), (.int wb)]) (wt := 0) (pc' := 209) (st := []) at_206 (wd25 hw) (wd26 hw) (own_nf W14 (wd28 hw)) (wd28 hw) (wd27 hw) (wd2 hw) (wd29 hw) (by decide) X_o (own_m5 l Z a0 hw [] h4 o ((pp + wa) + wb).toInt64 wb t 5 g2 (A + n1 + n2) n2 F_words_o V_t (own_L hE) hn2 hn2a hn2b (by omega) (by omega)) all0 rfl pd_3 rfl (Nat.le_of_eq rfl) (by decide) (by decide) (by decide) (by decide) rfl ?_
    rintro T15 h15 _ W15 K15 P15 ⟨r4, rfl, hr4⟩
    rw [P15 rfl rfl] at W15
    show own_Go p e below C T15 (mkF m 209 #[.val (.int p1), .val (.int p2), .val (.int p3), .val (.long q4), .second, .val (.long q5), .second, .val (.int pp), .val (.int wa), .val (.int wb), .val (.ref o), .val (.long ea), .second, .val (.long eb), .second, .val (.int (1 : Int32)), .val (.int (1 : Int32)), .val (.int cw), .val (.long ((ea ||| (eb <<< (wa &&& 0x3f).toInt64)) &&& k3)), .second, .val (.int (1 : Int32)), .unset] [(.long r4)])
    refine own_lconst W15 (0 : Int64) 210 at_209 rfl rfl ?_
    refine own_lcmp W15 211 at_210 rfl ?_
    refine own_ifN W15 214 at_211 ((if0 _ _).trans (teq ((lw_eq r4 (0 : Int64)).mpr (own_ext64 fun i hi => by rw [hr4 i hi, hbit, own_zb]; exact own_fZ A n1 n2 _ i _ _ : r4 = (0 : Int64)))).2) rfl ?_
    refine own_iconst W15 (1 : Int32) 215 at_214 rfl rfl ?_
    refine own_goto W15 219 at_215 (by decide) (by decide) ?_
    refine own_istore W15 221 #[.val (.int p1), .val (.int p2), .val (.int p3), .val (.long q4), .second, .val (.long q5), .second, .val (.int pp), .val (.int wa), .val (.int wb), .val (.ref o), .val (.long ea), .second, .val (.long eb), .second, .val (.int (1 : Int32)), .val (.int (1 : Int32)), .val (.int cw), .val (.long ((ea ||| (eb <<< (wa &&& 0x3f).toInt64)) &&& k3)), .second, .val (.int (1 : Int32)), .val (.int (1 : Int32))] at_219 rfl rfl ?_
    refine own_iload W15 223 at_221 rfl rfl ?_
    refine own_ifN W15 226 at_223 ((if0 _ _).trans (feq (by decide : ¬ ((1 : Int32) = (0 : Int32)))).1) rfl ?_
    refine own_iload W15 228 at_226 rfl rfl ?_
    refine own_ifN W15 231 at_228 ((if0 _ _).trans (feq (by decide : ¬ ((1 : Int32) = (0 : Int32)))).1) rfl ?_
    refine own_iload W15 233 at_231 rfl rfl ?_
    refine own_ifN W15 236 at_233 ((if0 _ _).trans (feq (by decide : ¬ ((1 : Int32) = (0 : Int32)))).1) rfl ?_
    refine own_iload W15 238 at_236 rfl rfl ?_
    refine own_ifN W15 241 at_238 ((if0 _ _).trans (feq (by decide : ¬ ((1 : Int32) = (0 : Int32)))).1) rfl ?_
    refine own_iconst W15 (1 : Int32) 242 at_241 rfl rfl ?_
    refine own_goto W15 246 at_242 (by decide) (by decide) ?_
    refine own_retZ (Q := fun v h => v = some (.int (1 : Int32))) W15 hC (by decide) (by decide) at_246 ?_
    exact rfl
set_option maxRecDepth 65536 in
set_option maxHeartbeats 40000000 in
theorem comes_1 {Post : Tables → Env → Array Value → State → Outcome → State → Prop} (hpost : ∀ tb e args s v u, (limb_1_1.after args s (.returned v) u = true ∧ limb_1_2.after args s (.returned v) u = true ∧ True) → FrameEnd s (.returned v) u (Jvm.fieldLocs frame_1_writes args s ++ Jvm.arrayLocs frame_1_arrays args s ++ Jvm.staticLocs frame_1_statics s) 16 128 → Post tb e args s (.returned v) u) :
    ArmFor flags0 classFile x code maxLocals ret World_1 tables_1 room_1 Calls_1 rest_1 Pre_1 Post := by
  intro l hfl _ _ p e ha hc hk s m args below hf hA hF happ hP
  obtain ⟨hcalls, hrest, hpre⟩ := hP
  obtain ⟨-, -, -, hnamed, -, -, -, hat⟩ := (Spec.applies_iff hf).mp happ
  obtain ⟨hg, hn⟩ := and_e (Cond.before_iff.mp (show (Jvm.Cond.and given_1 narrow_1).before args s = true from hpre))
  obtain ⟨g1, g2⟩ := and_e hg
  obtain ⟨g3, g4⟩ := and_e g2
  obtain ⟨g5, g6⟩ := and_e g4
  obtain ⟨g7, g8⟩ := and_e g6
  obtain ⟨g9, g10⟩ := and_e g8
  obtain ⟨w0, w1, w2, w3, w4, rfl⟩ : ∃ w0 w1 w2 w3 w4 : Value, args = #[w0, w1, w2, w3, w4] := by
    have hs : args.size = 5 := by simpa [Cond.value, given_1] using g1
    obtain ⟨L⟩ := args
    match L, hs with
    | [w0, w1, w2, w3, w4], _ => exact ⟨w0, w1, w2, w3, w4, rfl⟩
  have hw := fun d (hd : d ∈ tables_1) => atoms_spec (ws := Jvm.Cond.code x code maxLocals ret :: tables_1) hat d (List.mem_cons_of_mem _ hd)
  have hfit : Fit s := fun {y c} hc i hi => by
    obtain ⟨ha, rfl⟩ := Array.getElem?_eq_some_iff.mp hc
    have q := List.all_eq_true.mp ((Array.all_eq_true_iff_forall_mem.mp hF) _ (Array.getElem_mem ha)) i (List.mem_range.mpr hi)
    simpa [Array.getElem?_eq_getElem hi] using q
  obtain ⟨i0, ei0⟩ := is_v g3
  obtain rfl : w0 = (.int i0) := Option.some.inj ei0
  obtain ⟨i1, ei1⟩ := is_v g5
  obtain rfl : w1 = (.int i1) := Option.some.inj ei1
  obtain ⟨i2, ei2⟩ := is_v g7
  obtain rfl : w2 = (.int i2) := Option.some.inj ei2
  obtain ⟨i3, ei3⟩ := isL_v g9
  obtain rfl : w3 = (.long i3) := Option.some.inj ei3
  obtain ⟨i4, ei4⟩ := isL_v g10
  obtain rfl : w4 = (.long i4) := Option.some.inj ei4
  obtain ⟨n, o, h1, h2, h3, _, L, rfl, ⟨N, -, -, rfl⟩, hq⟩ := own_m0 l s _ hw tables_1 s.heap i0 i1 i2 i3 i4  p e ha hc hk s m _ below hf ((Spec.applies_iff_loose hf).mp happ).1 ⟨rfl, State.Warmed39.refl s, rfl⟩ trivial
  refine ⟨n, _, h1, h2, h3, hpost _ _ _ _ _ _ ⟨Cond.after_iff.mpr rfl, Cond.after_iff.mpr (eq_i res_at (Term.int_eval (1)) rfl), trivial⟩ ⟨hq.1, hq.2.1, (hq.2.2.sift fun y hy => Or.inr ((N y hy).resolve_left (fun q => nomatch q))).mono (by decide) (by decide)⟩⟩
theorem main_1_1 : Claimed_1_1 := comes_1 fun _ _ _ _ _ _ h hF => ⟨h.1, hF⟩
theorem main_1_2 : Claimed_1_2 := comes_1 fun _ _ _ _ _ _ h hF => ⟨h.2.1, hF⟩
end Jvm.Pilot.@@N@@
namespace Jvm.Pilot.@@N@@
open Jvm Jvm.ClassFile Sem Op Lib Jvm.Free Jvm.Stand Jvm.Pilot.@@N@@.Jvm.D
/-! MADE BY PROGRAM (witnessworld.py) out of the Statement's table words and the real class files: 13 classes; the members and pool entries that the words name. The judged class is class 1, her method 2. -/
namespace start1
open Jvm.ClassFile
def u (s : String) : CpInfo := .utf8 (stringToUtf16 s)
/-- a pool by its gaps: so many unusable entries, then the entry; so many at the end -/
def gap : Nat → List CpInfo → List CpInfo
  | 0, r => r
  | n + 1, r => .unusable :: gap n r
def poolList (es : List (Nat × CpInfo)) (last : Nat) : List CpInfo := es.foldr (fun e r => gap e.1 (e.2 :: r)) (gap last [])
def pool (es : List (Nat × CpInfo)) (last : Nat) : Array CpInfo := ⟨poolList es last⟩
def fileOf (pool : Array CpInfo) (this : Nat) (attrs : Array Attribute := #[]) (ms : Array MethodInfo := #[]) (fl : Nat := 33) (sup : Nat := 0) (ifs : Array Nat := #[]) (fds : Array FieldInfo := #[]) : ClassFile where
  minorVersion := 0
  majorVersion := 65
  constantPool := pool
  accessFlags := fl
  thisClass := this
  superClass := sup
  interfaces := ifs
  fields := fds
  methods := ms
  attributes := attrs
def plain (name : String) (sup : Option ClassId) : Class where
  name := name
  kind := .ordinary
  loader := none
  accessFlags := 33
  super := sup
  interfaces := #[]
  cf := none
  fields := #[]
  methods := #[]
  instanceTypes := #[]
  staticTypes := #[]
  resolved := #[]
  callSites := []
  init := .initialized
  statics := none
  mirror := none

def pool0 : Array CpInfo := pool [(5, u "<init>"), (0, u "()V"), (1, .class_ 10), (1, u "java/lang/Object")] 113

def k0c0 : Code := { maxStack := 0, maxLocals := 1, code := object_method_1_code, exceptionTable := #[], attributes := #[] }
def k0m0 : Method := { name := "<init>", desc := "()V", sig := { parameters := [], returnType := none }, accessFlags := 1, code := some k0c0 }
/-- java/lang/Object -/
def k0 : Class := { plain "java/lang/Object" none with
  accessFlags := 33
  interfaces := #[]
  cf := some (fileOf pool0 8 #[] #[{ accessFlags := 1, nameIndex := 5, descriptorIndex := 6, attributes := #[] }] 33 0 #[] #[])
  fields := #[]
  methods := #[k0m0]
  instanceTypes := #[]
  staticTypes := #[]
  resolved := Array.replicate 124 none
  statics := none }

def pool1 : Array CpInfo := pool [(2, .class_ 4), (1, u "java/lang/Object"), (0, u "<init>"), (0, u "()V"), (0, .long 18446744073709551615), (1, .class_ 10), (0, u "com/example/nodemata/nodemata/PackedBits"), (0, .long 256), (1, .methodref 9 14), (0, .nameAndType 5 15), (0, u "(J)V"), (0, .methodref 9 17), (0, .nameAndType 18 19), (0, u "write"), (0, u "(JIJ)V"), (0, .methodref 21 22), (0, .class_ 23), (0, .nameAndType 24 25), (0, u "com/example/nodemata/nodemata/PackedBitsReadPinLaw"), (0, u "mask"), (0, u "(I)J"), (0, .methodref 9 27), (0, .nameAndType 28 29), (0, u "read"), (0, u "(JI)J"), (0, .methodref 31 32), (0, .class_ 33), (0, .nameAndType 34 35), (0, u "java/lang/Math"), (0, u "min"), (0, u "(II)I"), (3, u "law"), (0, u "(IIIJJ)Z")] 2

def k1m0 : Method := { name := "<init>", desc := "()V", sig := { parameters := [], returnType := none }, accessFlags := 2, code := none }
def k1c1 : Code := { maxStack := 4, maxLocals := 1, code := method_2_code, exceptionTable := #[], attributes := #[] }
def k1m1 : Method := { name := "mask", desc := "(I)J", sig := { parameters := [.int], returnType := some .long }, accessFlags := 10, code := some k1c1 }
def k1c2 : Code := { maxStack := 6, maxLocals := 22, code := code, exceptionTable := #[], attributes := #[] }
def k1m2 : Method := { name := "law", desc := "(IIIJJ)Z", sig := { parameters := [.int, .int, .int, .long, .long], returnType := some .boolean }, accessFlags := 9, code := some k1c2 }
/-- com/example/nodemata/nodemata/PackedBitsReadPinLaw -/
def k1 : Class := { plain "com/example/nodemata/nodemata/PackedBitsReadPinLaw" (some 0) with
  accessFlags := 49
  interfaces := #[]
  cf := some (fileOf pool1 21 #[] #[{ accessFlags := 2, nameIndex := 5, descriptorIndex := 6, attributes := #[] }, { accessFlags := 10, nameIndex := 24, descriptorIndex := 25, attributes := #[] }, { accessFlags := 9, nameIndex := 39, descriptorIndex := 40, attributes := #[] }] 49 2 #[] #[])
  fields := #[]
  methods := #[k1m0, k1m1, k1m2]
  instanceTypes := #[]
  staticTypes := #[]
  resolved := Array.replicate 43 none
  statics := none }

def pool2 : Array CpInfo := pool [(1, .class_ 2), (0, u "com/example/nodemata/nodemata/Bits"), (0, .class_ 4), (0, u "java/lang/Object")] 4

/-- com/example/nodemata/nodemata/Bits -/
def k2 : Class := { plain "com/example/nodemata/nodemata/Bits" (some 0) with
  accessFlags := 1536
  interfaces := #[]
  cf := some (fileOf pool2 1 #[] #[] 1536 3 #[] #[])
  fields := #[]
  methods := #[]
  instanceTypes := #[]
  staticTypes := #[]
  resolved := Array.replicate 9 none
  statics := none }

def pool3 : Array CpInfo := pool [(5, .methodref 6 7), (0, .class_ 8), (0, .nameAndType 9 10), (0, u "java/lang/Object"), (0, u "<init>"), (0, u "()V"), (0, .class_ 12), (0, u "com/example/nodemata/nodemata/PackedBits"), (0, .long 137438952832), (10, .long 64), (1, .fieldref 11 27), (0, .nameAndType 28 29), (0, u "words"), (0, u "[J"), (0, .long 18446744073709551615), (11, .class_ 43), (0, u "com/example/nodemata/nodemata/Bits"), (0, u "MAX_BITS"), (0, u "J"), (1, u "(J)V"), (3, u "read"), (0, u "(JI)J"), (0, u "write"), (0, u "(JIJ)V")] 18

def k3c0 : Code := { maxStack := 5, maxLocals := 3, code := prog_73_method_1_code, exceptionTable := #[], attributes := #[] }
def k3m0 : Method := { name := "<init>", desc := "(J)V", sig := { parameters := [.long], returnType := none }, accessFlags := 0, code := some k3c0 }
def k3c1 : Code := { maxStack := 6, maxLocals := 8, code := prog_73_method_2_code, exceptionTable := #[], attributes := #[] }
def k3m1 : Method := { name := "read", desc := "(JI)J", sig := { parameters := [.long, .int], returnType := some .long }, accessFlags := 1, code := some k3c1 }
def k3c2 : Code := { maxStack := 8, maxLocals := 10, code := prog_73_method_3_code, exceptionTable := #[], attributes := #[] }
def k3m2 : Method := { name := "write", desc := "(JIJ)V", sig := { parameters := [.long, .int, .long], returnType := none }, accessFlags := 0, code := some k3c2 }
/-- com/example/nodemata/nodemata/PackedBits -/
def k3 : Class := { plain "com/example/nodemata/nodemata/PackedBits" (some 0) with
  accessFlags := 48
  interfaces := #[2]
  cf := some (fileOf pool3 11 #[] #[{ accessFlags := 0, nameIndex := 9, descriptorIndex := 47, attributes := #[] }, { accessFlags := 1, nameIndex := 51, descriptorIndex := 52, attributes := #[] }, { accessFlags := 0, nameIndex := 53, descriptorIndex := 54, attributes := #[] }] 48 6 #[42] #[{ accessFlags := 24, nameIndex := 44, descriptorIndex := 45, attributes := #[] }, { accessFlags := 18, nameIndex := 28, descriptorIndex := 29, attributes := #[] }])
  fields := #[{ name := "MAX_BITS", type := .long, accessFlags := 24, slot := 0, constantValue := 0 }, { name := "words", type := (.array .long), accessFlags := 18, slot := 0, constantValue := 0 }]
  methods := #[k3m0, k3m1, k3m2]
  instanceTypes := #[(.array .long)]
  staticTypes := #[.long]
  resolved := Array.replicate 73 none
  statics := none }

def pool4 : Array CpInfo := pool [(1, .class_ 2), (0, u "java/lang/Math"), (1, .class_ 6), (1, u "java/lang/Object"), (0, u "<init>"), (0, u "()V"), (89, .class_ 100), (1, u "java/lang/Math$RandomNumberGeneratorHolder"), (71, u "negativeZeroFloatBits"), (0, u "J"), (2, u "negativeZeroDoubleBits"), (24, u "min"), (43, u "$assertionsDisabled"), (0, u "Z"), (88, u "(II)I"), (2, u "twoToTheDoubleScaleDown"), (0, u "D"), (4, u "twoToTheDoubleScaleUp"), (9, u "E"), (3, u "PI"), (2, u "TAU"), (2, u "DEGREES_TO_RADIANS"), (0, u "RADIANS_TO_DEGREES")] 94

def k4m0 : Method := { name := "<init>", desc := "()V", sig := { parameters := [], returnType := none }, accessFlags := 2, code := none }
def k4c1 : Code := { maxStack := 2, maxLocals := 2, code := jdk_29_method_69_code, exceptionTable := #[], attributes := #[] }
def k4m1 : Method := { name := "min", desc := "(II)I", sig := { parameters := [.int, .int], returnType := some .int }, accessFlags := 9, code := some k4c1 }
/-- java/lang/Math -/
def k4 : Class := { plain "java/lang/Math" (some 0) with
  accessFlags := 49
  interfaces := #[]
  cf := some (fileOf pool4 1 #[.nestMembers #[98]] #[{ accessFlags := 2, nameIndex := 7, descriptorIndex := 8, attributes := #[] }, { accessFlags := 9, nameIndex := 201, descriptorIndex := 335, attributes := #[] }] 49 4 #[] #[{ accessFlags := 25, nameIndex := 354, descriptorIndex := 339, attributes := #[] }, { accessFlags := 25, nameIndex := 358, descriptorIndex := 339, attributes := #[] }, { accessFlags := 25, nameIndex := 361, descriptorIndex := 339, attributes := #[] }, { accessFlags := 26, nameIndex := 364, descriptorIndex := 339, attributes := #[] }, { accessFlags := 26, nameIndex := 365, descriptorIndex := 339, attributes := #[] }, { accessFlags := 26, nameIndex := 172, descriptorIndex := 173, attributes := #[] }, { accessFlags := 26, nameIndex := 176, descriptorIndex := 173, attributes := #[] }, { accessFlags := 8, nameIndex := 344, descriptorIndex := 339, attributes := #[] }, { accessFlags := 8, nameIndex := 338, descriptorIndex := 339, attributes := #[] }, { accessFlags := 4120, nameIndex := 245, descriptorIndex := 246, attributes := #[] }])
  fields := #[{ name := "E", type := .double, accessFlags := 25, slot := 0, constantValue := 0 }, { name := "PI", type := .double, accessFlags := 25, slot := 1, constantValue := 0 }, { name := "TAU", type := .double, accessFlags := 25, slot := 2, constantValue := 0 }, { name := "DEGREES_TO_RADIANS", type := .double, accessFlags := 26, slot := 3, constantValue := 0 }, { name := "RADIANS_TO_DEGREES", type := .double, accessFlags := 26, slot := 4, constantValue := 0 }, { name := "negativeZeroFloatBits", type := .long, accessFlags := 26, slot := 5, constantValue := 0 }, { name := "negativeZeroDoubleBits", type := .long, accessFlags := 26, slot := 6, constantValue := 0 }, { name := "twoToTheDoubleScaleUp", type := .double, accessFlags := 8, slot := 7, constantValue := 0 }, { name := "twoToTheDoubleScaleDown", type := .double, accessFlags := 8, slot := 8, constantValue := 0 }, { name := "$assertionsDisabled", type := .boolean, accessFlags := 4120, slot := 9, constantValue := 0 }]
  methods := #[k4m0, k4m1]
  instanceTypes := #[]
  staticTypes := #[.double, .double, .double, .double, .double, .long, .long, .double, .double, .boolean]
  resolved := Array.replicate 460 none
  statics := none }

def pool5 : Array CpInfo := pool [(1, u "java/lang/Cloneable"), (0, .class_ 1), (0, u "java/lang/Object"), (0, .class_ 3)] 3

/-- java/lang/Cloneable -/
def k5 : Class := { plain "java/lang/Cloneable" (some 0) with
  accessFlags := 1537
  interfaces := #[]
  cf := some (fileOf pool5 2 #[] #[] 1537 4 #[] #[])
  fields := #[]
  methods := #[]
  instanceTypes := #[]
  staticTypes := #[]
  resolved := Array.replicate 8 none
  statics := none }

def pool6 : Array CpInfo := pool [(1, u "java/io/Serializable"), (0, .class_ 1), (0, u "java/lang/Object"), (0, .class_ 3)] 3

/-- java/io/Serializable -/
def k6 : Class := { plain "java/io/Serializable" (some 0) with
  accessFlags := 1537
  interfaces := #[]
  cf := some (fileOf pool6 2 #[] #[] 1537 4 #[] #[])
  fields := #[]
  methods := #[]
  instanceTypes := #[]
  staticTypes := #[]
  resolved := Array.replicate 8 none
  statics := none }

/-- the primitive byte -/
def k7 : Class := { plain "byte" none with kind := .primitive 'B', accessFlags := 0x411 }
/-- [B -/
def k8 : Class := { plain "[B" (some 0) with kind := .array 7 .byte, interfaces := #[5, 6], accessFlags := 1041 }

/-- the primitive int -/
def k9 : Class := { plain "int" none with kind := .primitive 'I', accessFlags := 0x411 }
/-- [I -/
def k10 : Class := { plain "[I" (some 0) with kind := .array 9 .int, interfaces := #[5, 6], accessFlags := 1041 }

/-- the primitive long -/
def k11 : Class := { plain "long" none with kind := .primitive 'J', accessFlags := 0x411 }
/-- [J -/
def k12 : Class := { plain "[J" (some 0) with kind := .array 11 .long, interfaces := #[5, 6], accessFlags := 1041 }

def heap : Heap := #[]
def classes : Array Class := #[k0, k1, k2, k3, k4, k5, k6, k7, k8, k9, k10, k11, k12]
def interned : List (Array UInt16 × Addr) := []
def slotsUsed : Nat := 0
def theMethod : MethodId := ⟨1, 2⟩
def args0 : Array Value := #[.int 5, .int 7, .int 3, .long 1, .long 3]
def aboutOver (below : List Frame) : State where
  vm := { classes := classes, interned := interned.toArray }
  heap := heap
  slotsUsed := slotsUsed
  threads := #[{ frames := .invoking theMethod args0 :: below }]
def below0 : List Frame := [.native { method := ⟨0, 0⟩, args := #[] }]
def about1 : State := aboutOver below0
def p0 : Program := .bare "" "" ""
def e0 : Env := launch0.env 0 0 0
theorem w_frames : about1.frames = Frame.invoking theMethod args0 :: below0 := rfl
set_option maxRecDepth 65536 in
theorem w_args : argsFit about1.vm theMethod args0 = true := by decide +kernel
set_option maxRecDepth 65536 in
theorem w_heap : heapFits about1 = true := by decide +kernel
set_option maxRecDepth 65536 in
theorem w_runnable : about1.curStatus? = some .runnable := by decide +kernel
set_option maxRecDepth 65536 in
theorem w_alone : about1.alone = true := by decide +kernel
set_option maxRecDepth 65536 in
theorem w_named : about1.methodNamed? x = some theMethod := by decide +kernel
set_option maxRecDepth 65536 in
theorem w_hears : about1.hears theMethod below0 = true := by decide +kernel
set_option maxRecDepth 65536 in
theorem w_ripe : about1.ripe theMethod args0 below0 = true := by decide +kernel
theorem w_running : about1.status = .running := rfl
set_option maxRecDepth 65536 in
theorem w_room : about1.hasRoom e0.platform room_1 = true :=
  launch0.hasRoom_least _ room_1 (by decide +kernel) (by decide +kernel) (by decide +kernel) (by decide +kernel) (by decide +kernel) (by decide +kernel)
theorem allAtoms_all (ts : List Jvm.Cond) (a : Array Jvm.Value) (st : Jvm.State) : (allAtoms ts).before a st = ts.all (fun c => c.before a st) := by
  induction ts with
  | nil => rfl
  | cons c t ih =>
    show (Jvm.Cond.and c (allAtoms t)).before a st = _
    rw [Jvm.Cond.before_and, ih, List.all_cons]
def words1 : List Jvm.Cond := Jvm.Cond.code x code maxLocals ret :: tables_1
/-- a 'code' word, met by the world's own term for the bytes: nothing is compared byte by byte -/
theorem code_word {y : MethodName} {bytes : ByteArray} {mx : Nat} {rt : Option FieldType} {a : Array Value} {s : State} {m : MethodId} {meth : Method} {c : Code} (h1 : s.methodNamed? y = some m) (h2 : s.vm.method? m = some meth) (h3 : meth.code = some c) (h4 : c.code = bytes)
    (h5 : (c.maxLocals == mx && c.exceptionTable.isEmpty && decide (c.maxStack ≤ mostOperands) && decide (meth.sig.returnType = rt) && !meth.locks && decide (parseMethodDescriptor y.desc = some meth.sig)) = true) : (Jvm.Cond.code y bytes mx rt).before a s = true := by
  simp only [Bool.and_eq_true, beq_iff_eq, Bool.not_eq_true', decide_eq_true_eq] at h5
  obtain ⟨⟨⟨⟨⟨g1, g2⟩, g3⟩, g4⟩, g5⟩, g6⟩ := h5
  simp [Cond.before, Cond.holds, Cond.value, h1, h2, h3, h4, g1, g2, g3, g4, g5, g6]
def isCode : Jvm.Cond → Bool
  | .code _ _ _ _ => true
  | _ => false
theorem all_split {L : List Jvm.Cond} {P : Jvm.Cond → Bool} (h1 : L.all (fun c => isCode c || P c) = true) (h2 : ∀ c ∈ L.filter isCode, P c = true) : L.all P = true := by
  refine List.all_eq_true.mpr fun c hc => ?_
  have h := List.all_eq_true.mp h1 c hc
  rcases Bool.eq_false_or_eq_true (isCode c) with hi | hi
  · exact h2 c (List.mem_filter.mpr ⟨hc, hi⟩)
  · simpa [hi] using h
set_option maxRecDepth 65536 in
theorem w_c0 : (Jvm.Cond.code x code maxLocals ret).before args0 about1 = true := code_word (m := ⟨1, 2⟩) (meth := k1m2) (c := k1c2) (by decide +kernel) rfl rfl rfl (by decide +kernel)
set_option maxRecDepth 65536 in
theorem w_c1 : (Jvm.Cond.code ({ cls := "com/example/nodemata/nodemata/PackedBits", name := "<init>", desc := "(J)V" } : Jvm.MethodName) prog_73_method_1_code (3 : Nat) (Option.none : Option Jvm.ClassFile.FieldType)).before args0 about1 = true := code_word (m := ⟨3, 0⟩) (meth := k3m0) (c := k3c0) (by decide +kernel) rfl rfl rfl (by decide +kernel)
set_option maxRecDepth 65536 in
theorem w_c2 : (Jvm.Cond.code ({ cls := "java/lang/Object", name := "<init>", desc := "()V" } : Jvm.MethodName) object_method_1_code (1 : Nat) (Option.none : Option Jvm.ClassFile.FieldType)).before args0 about1 = true := code_word (m := ⟨0, 0⟩) (meth := k0m0) (c := k0c0) (by decide +kernel) rfl rfl rfl (by decide +kernel)
set_option maxRecDepth 65536 in
theorem w_c3 : (Jvm.Cond.code ({ cls := "com/example/nodemata/nodemata/PackedBits", name := "write", desc := "(JIJ)V" } : Jvm.MethodName) prog_73_method_3_code (10 : Nat) (Option.none : Option Jvm.ClassFile.FieldType)).before args0 about1 = true := code_word (m := ⟨3, 2⟩) (meth := k3m2) (c := k3c2) (by decide +kernel) rfl rfl rfl (by decide +kernel)
set_option maxRecDepth 65536 in
theorem w_c4 : (Jvm.Cond.code ({ cls := "com/example/nodemata/nodemata/PackedBitsReadPinLaw", name := "mask", desc := "(I)J" } : Jvm.MethodName) method_2_code (1 : Nat) (Option.some Jvm.ClassFile.FieldType.long)).before args0 about1 = true := code_word (m := ⟨1, 1⟩) (meth := k1m1) (c := k1c1) (by decide +kernel) rfl rfl rfl (by decide +kernel)
set_option maxRecDepth 65536 in
theorem w_c5 : (Jvm.Cond.code ({ cls := "com/example/nodemata/nodemata/PackedBits", name := "read", desc := "(JI)J" } : Jvm.MethodName) prog_73_method_2_code (8 : Nat) (Option.some Jvm.ClassFile.FieldType.long)).before args0 about1 = true := code_word (m := ⟨3, 1⟩) (meth := k3m1) (c := k3c1) (by decide +kernel) rfl rfl rfl (by decide +kernel)
set_option maxRecDepth 65536 in
theorem w_c6 : (Jvm.Cond.code ({ cls := "java/lang/Math", name := "min", desc := "(II)I" } : Jvm.MethodName) jdk_29_method_69_code (2 : Nat) (Option.some Jvm.ClassFile.FieldType.int)).before args0 about1 = true := code_word (m := ⟨4, 1⟩) (meth := k4m1) (c := k4c1) (by decide +kernel) rfl rfl rfl (by decide +kernel)
def codes1 : List Jvm.Cond := [Jvm.Cond.code x code maxLocals ret, Jvm.Cond.code ({ cls := "com/example/nodemata/nodemata/PackedBits", name := "<init>", desc := "(J)V" } : Jvm.MethodName) prog_73_method_1_code (3 : Nat) (Option.none : Option Jvm.ClassFile.FieldType), Jvm.Cond.code ({ cls := "java/lang/Object", name := "<init>", desc := "()V" } : Jvm.MethodName) object_method_1_code (1 : Nat) (Option.none : Option Jvm.ClassFile.FieldType), Jvm.Cond.code ({ cls := "com/example/nodemata/nodemata/PackedBits", name := "write", desc := "(JIJ)V" } : Jvm.MethodName) prog_73_method_3_code (10 : Nat) (Option.none : Option Jvm.ClassFile.FieldType), Jvm.Cond.code ({ cls := "com/example/nodemata/nodemata/PackedBitsReadPinLaw", name := "mask", desc := "(I)J" } : Jvm.MethodName) method_2_code (1 : Nat) (Option.some Jvm.ClassFile.FieldType.long), Jvm.Cond.code ({ cls := "com/example/nodemata/nodemata/PackedBits", name := "read", desc := "(JI)J" } : Jvm.MethodName) prog_73_method_2_code (8 : Nat) (Option.some Jvm.ClassFile.FieldType.long), Jvm.Cond.code ({ cls := "java/lang/Math", name := "min", desc := "(II)I" } : Jvm.MethodName) jdk_29_method_69_code (2 : Nat) (Option.some Jvm.ClassFile.FieldType.int)]
set_option maxRecDepth 65536 in
theorem codes_eq : words1.filter isCode = codes1 := rfl
theorem w_codes : ∀ c ∈ words1.filter isCode, c.before args0 about1 = true := by
  rw [codes_eq]
  intro c hc
  simp only [codes1, List.mem_cons, List.not_mem_nil, or_false] at hc
  rcases hc with rfl | rfl | rfl | rfl | rfl | rfl | rfl
  · exact w_c0
  · exact w_c1
  · exact w_c2
  · exact w_c3
  · exact w_c4
  · exact w_c5
  · exact w_c6
set_option maxRecDepth 65536 in
theorem w_t1 : (words1.take 24).all (fun c => isCode c || c.before args0 about1) = true := by decide +kernel
set_option maxRecDepth 65536 in
theorem w_t2 : (words1.drop 24).all (fun c => isCode c || c.before args0 about1) = true := by decide +kernel
theorem w_tables : (allAtoms (Jvm.Cond.code x code maxLocals ret :: tables_1)).before args0 about1 = true := by
  rw [allAtoms_all]
  show words1.all (fun c => c.before args0 about1) = true
  refine all_split ?_ w_codes
  rw [← List.take_append_drop 24 words1, List.all_append, w_t1, w_t2]
  rfl
set_option maxRecDepth 65536 in
theorem w_case : (Jvm.Cond.and given_1 narrow_1).before args0 about1 = true := by decide +kernel
theorem w_applies : (headSpec (Jvm.Cond.code x code maxLocals ret :: tables_1) room_1).applies x e0.platform about1 = true :=
  (Spec.applies_iff w_frames).mpr ⟨w_running, w_runnable, w_alone, w_named, w_hears, w_ripe, w_room, w_tables⟩
theorem atStart : AtStart classFile x code maxLocals ret World_1 tables_1 room_1 Calls_1 rest_1 Pre_1 launch0 p0 e0 about1 theMethod args0 below0 :=
  ⟨lists_1, trivial, launch0.admits_env _ _ _, launch0.least_env, fairChoices_fair.cas, fairChoices_fair.clock, w_frames, w_args, w_heap, w_applies, trivial, trivial, w_case⟩
end start1
theorem witness_1 : WitnessClaimed_1 := ⟨start1.p0, start1.e0, start1.about1, start1.theMethod, start1.args0, start1.below0, start1.atStart⟩
end Jvm.Pilot.@@N@@
