import JvmDerived
import JvmDerived.Pilot.@@N@@Statement
import JvmDerived.Pilot.@@N@@Code
set_option linter.unusedVariables false
set_option linter.unusedSimpArgs false
namespace Jvm.Pilot.@@N@@
open Jvm Jvm.ClassFile Sem Op Lib Jvm.Free Jvm.Stand Jvm.LawKit Jvm.RoadKit Bundle Jvm.Pilot.@@N@@.Jvm.D
/-! own_1: the walk as a goal. The heap is a list F of owned cells and a list G of cells that are only read; Go says: from here the body ends well. -/
abbrev Ent : Type := Addr × (Cell → Prop)
def Hp (Z : State) (EL : List (String × Nat)) (vm : Vm) (h : Heap) (F G : List Ent) : Prop :=
  Ext Z.heap h ∧ (∀ q ∈ F, ∃ c : Cell, h[q.1]? = some c ∧ q.2 c) ∧ (∀ q ∈ G, ∃ c : Cell, h[q.1]? = some c ∧ q.2 c) ∧ (F.map (·.1)).Nodup ∧
    ∀ q ∈ F, Z.heap.size ≤ q.1 ∧ Safe Z EL vm h q.1 ∧ ∀ r ∈ G, r.1 ≠ q.1
/-- what is fixed for a whole proof: the launch, the law's start, the law's arguments, the constants -/
abbrev Ax : Type := Launch × State × Array Value × List (String × Nat) × Bool
abbrev Ax.l (A : Ax) : Launch := A.1
abbrev Ax.Z (A : Ax) : State := A.2.1
abbrev Ax.a0 (A : Ax) : Array Value := A.2.2.1
abbrev Ax.EL (A : Ax) : List (String × Nat) := A.2.2.2.1
/-- may a literal be interned? -/
abbrev Ax.wm (A : Ax) : Bool := A.2.2.2.2
/-- a method: its name, bytes, locals, return type, and the room that its contract asks -/
abbrev Bx : Type := MethodName × ByteArray × Nat × Option FieldType × Room
abbrev Bx.y (B : Bx) : MethodName := B.1
abbrev Bx.bytes (B : Bx) : ByteArray := B.2.1
abbrev Bx.maxL (B : Bx) : Nat := B.2.2.1
abbrev Bx.ret (B : Bx) : Option FieldType := B.2.2.2.1
abbrev Bx.rm (B : Bx) : Room := B.2.2.2.2
/-- one invocation -/
abbrev Dx : Type := Program × Env × State × MethodId × Array Value × List Frame × Method × Code
abbrev Dx.p (D : Dx) : Program := D.1
abbrev Dx.e (D : Dx) : Env := D.2.1
abbrev Dx.s (D : Dx) : State := D.2.2.1
abbrev Dx.m (D : Dx) : MethodId := D.2.2.2.1
abbrev Dx.args (D : Dx) : Array Value := D.2.2.2.2.1
abbrev Dx.below (D : Dx) : List Frame := D.2.2.2.2.2.1
abbrev Dx.meth (D : Dx) : Method := D.2.2.2.2.2.2.1
abbrev Dx.c (D : Dx) : Code := D.2.2.2.2.2.2.2
def St (A : Ax) (B : Bx) (D : Dx) (T : State) (F G : List Ent) (cells slots : Nat) : Prop :=
  ∃ (vm0 : Vm) (k0 : Nat) (locs : List Loc), Stand D.p A.l D.e B.rm (D.s.setVm vm0) D.m D.args D.below D.meth D.c T locs cells slots ∧ A.Z.Warmed39 vm0 ∧ vm0.findClass B.y.cls = some D.m.cls ∧
    D.s.Since vm0 k0 ∧ k0 ≤ T.heap.size ∧ (Fr A.Z.heap.size locs ∧ (A.wm = false → D.s.WarmedH vm0)) ∧ CHr A.Z A.EL D.s.vm D.s.heap vm0 T.heap ∧ Hp A.Z A.EL vm0 T.heap F G
def Bdy (A : Ax) (B : Bx) (D : Dx) : Prop :=
  D.p.tables.exec = Jvm.exec ∧ D.c.code = B.bytes ∧ D.c.maxLocals = B.maxL ∧ D.meth.sig.returnType = B.ret ∧ D.meth.name = B.y.name ∧ D.meth.locks = false ∧ EW A.Z A.a0 A.EL
abbrev Pst : Type := Option Value → List Ent → List Ent → Prop
def Fin (A : Ax) (rm : Room) (below : List Frame) (s : State) (Q : Pst) (o : Outcome) (s₂ : State) : Prop :=
  ∃ (v : Option Value) (L : List Loc) (F' G' : List Ent), o = .returned v ∧ Q v F' G' ∧ Hp A.Z A.EL s₂.vm s₂.heap F' G' ∧ (Fr A.Z.heap.size L ∧ (A.wm = false → s.WarmedH s₂.vm)) ∧ CHr A.Z A.EL s.vm s.heap s₂.vm s₂.heap ∧ ReturnedEndW s o s₂ L rm.cells rm.slots
def Go (A : Ax) (B : Bx) (D : Dx) (Q : Pst) (pc : Nat) (L : List Slot) (S : List Value) (F G : List Ent) (cells slots : Nat) : Prop :=
  Bdy A B D → ∀ T, St A B D T F G cells slots → ∃ s₂ o, Steps D.p.tables D.e D.below (T.setTop (mkF D.m pc L.toArray S)) s₂ ∧ s₂.status = .running ∧ Ended s₂ D.below o ∧ Fin A B.rm D.below D.s Q o s₂
def MetW (ws : List Cond) (A : Ax) (B : Bx) (as' : Array Value) (F G : List Ent) (Q : Pst) : Prop :=
  MetFree A.l B.y (head1 (Cond.code B.y B.bytes B.maxL B.ret :: ws) B.rm) (fun a U => a = as' ∧ A.Z.Warmed39 U.vm ∧ CHv A.Z A.EL U.vm U.heap ∧ Hp A.Z A.EL U.vm U.heap F G) (fun _ _ _ _ _ => True) (fun _ U o U' => Fin A B.rm [] U Q o U')
abbrev Met (A : Ax) (B : Bx) (as' : Array Value) (F G : List Ent) (Q : Pst) : Prop := MetW [] A B as' F G Q
section Own
variable {A : Ax} {B : Bx} {D : Dx} {Q : Pst} {pc pc' : Nat} {L L' : List Slot} {S S' rest : List Value} {F F' G G' : List Ent} {cells slots : Nat}
theorem own_ext_refl (h : Heap) : Ext h h := ⟨Nat.le_refl _, fun _ _ q => q⟩
theorem own_ext_trans {h1 h2 h3 : Heap} (a : Ext h1 h2) (b : Ext h2 h3) : Ext h1 h3 := ⟨Nat.le_trans a.1 b.1, fun x c q => b.2 x c (a.2 x c q)⟩
theorem Hp.lt {Z : State} {EL : List (String × Nat)} {vm : Vm} {h : Heap} (H : Hp Z EL vm h F G) {q : Ent} (m : q ∈ F) : q.1 < h.size := by
  obtain ⟨c, e, -⟩ := H.2.1 q m
  exact (Array.getElem?_eq_some_iff.mp e).1
/-- the tables go on -/
theorem Hp.later {Z : State} {EL : List (String × Nat)} {vm vm1 : Vm} {h h' : Heap} (H : Hp Z EL vm h F G) (C : CHr Z EL vm h vm1 h') (E : Ext h h') : Hp Z EL vm1 h' F G :=
  ⟨own_ext_trans H.1 E, fun q m => by obtain ⟨c, e, p⟩ := H.2.1 q m; exact ⟨c, E.2 _ _ e, p⟩, fun q m => by obtain ⟨c, e, p⟩ := H.2.2.1 q m; exact ⟨c, E.2 _ _ e, p⟩, H.2.2.2.1,
    fun q m => ⟨(H.2.2.2.2 q m).1, C.safe (H.lt m) (H.2.2.2.2 q m).2.1, (H.2.2.2.2 q m).2.2⟩⟩
theorem Hp.perm {Z : State} {EL : List (String × Nat)} {vm : Vm} {h : Heap} (H : Hp Z EL vm h F G) (P : F.Perm F') : Hp Z EL vm h F' G :=
  ⟨H.1, fun q m => H.2.1 q (P.mem_iff.mpr m), H.2.2.1, (P.map _).nodup_iff.mp H.2.2.2.1, fun q m => H.2.2.2.2 q (P.mem_iff.mpr m)⟩
theorem Hp.gsub {Z : State} {EL : List (String × Nat)} {vm : Vm} {h : Heap} (H : Hp Z EL vm h F G) (P : ∀ q ∈ G', q ∈ G) : Hp Z EL vm h F G' :=
  ⟨H.1, H.2.1, fun q m => H.2.2.1 q (P q m), H.2.2.2.1, fun q m => ⟨(H.2.2.2.2 q m).1, (H.2.2.2.2 q m).2.1, fun r k => (H.2.2.2.2 q m).2.2 r (P r k)⟩⟩
/-- an owned cell is only read from here on -/
theorem Hp.freeze {Z : State} {EL : List (String × Nat)} {vm : Vm} {h : Heap} {q : Ent} (H : Hp Z EL vm h (q :: F) G) : Hp Z EL vm h F (q :: G) := by
  obtain ⟨h1, h2, h3, h4, h5⟩ := H
  have hn := List.nodup_cons.mp h4
  refine ⟨h1, fun r m => h2 r (List.mem_cons_of_mem _ m), fun r m => ?_, hn.2, fun r m => ⟨(h5 r (List.mem_cons_of_mem _ m)).1, (h5 r (List.mem_cons_of_mem _ m)).2.1, fun t k => ?_⟩⟩
  · rcases List.mem_cons.mp m with rfl | m
    · exact h2 _ (List.mem_cons_self ..)
    · exact h3 r m
  · rcases List.mem_cons.mp k with rfl | k
    · exact fun z => hn.1 (List.mem_map.mpr ⟨r, m, z.symm⟩)
    · exact (h5 r (List.mem_cons_of_mem _ m)).2.2 t k
theorem Hp.drop {Z : State} {EL : List (String × Nat)} {vm : Vm} {h : Heap} {q : Ent} (H : Hp Z EL vm h (q :: F) G) : Hp Z EL vm h F G := H.freeze.gsub fun _ m => List.mem_cons_of_mem _ m
/-- a new cell -/
theorem Hp.new {Z : State} {EL : List (String × Nat)} {vm : Vm} {h h' : Heap} {P : Cell → Prop} {c : Cell} (H : Hp Z EL vm h F G) (hC : CHv Z EL vm h) (E : Ext h h') (hc : h'[h.size]? = some c) (hp : P c) : Hp Z EL vm h' ((h.size, P) :: F) G := by
  obtain ⟨h1, h2, h3, h4, h5⟩ := H
  have hlt : h.size < h'.size := (Array.getElem?_eq_some_iff.mp hc).1
  have gl : ∀ r ∈ G, r.1 < h.size := fun r m => by obtain ⟨c, e, -⟩ := h3 r m; exact (Array.getElem?_eq_some_iff.mp e).1
  have fl : ∀ r ∈ F, r.1 < h.size := fun r m => by obtain ⟨c, e, -⟩ := h2 r m; exact (Array.getElem?_eq_some_iff.mp e).1
  refine ⟨own_ext_trans h1 E, fun q m => ?_, fun q m => by obtain ⟨c, e, p⟩ := h3 q m; exact ⟨c, E.2 _ _ e, p⟩, ?_, fun q m => ?_⟩
  · rcases List.mem_cons.mp m with rfl | m
    · exact ⟨c, hc, hp⟩
    · obtain ⟨c, e, p⟩ := h2 q m; exact ⟨c, E.2 _ _ e, p⟩
  · refine List.nodup_cons.mpr ⟨fun z => ?_, h4⟩
    obtain ⟨r, m, e⟩ := List.mem_map.mp z
    exact absurd e (Nat.ne_of_lt (fl r m))
  · rcases List.mem_cons.mp m with rfl | m
    · exact ⟨h1.1, Safe.ext E hC (Safe.new (Nat.le_refl _)), fun r k => Nat.ne_of_lt (gl r k)⟩
    · exact ⟨(h5 q m).1, Safe.ext E hC (h5 q m).2.1, (h5 q m).2.2⟩
/-- one owned cell is written -/
theorem Hp.wr {Z : State} {EL : List (String × Nat)} {vm : Vm} {h h' : Heap} {a : Addr} {sl : Nat} {v : Value} {P P' : Cell → Prop} (H : Hp Z EL vm h ((a, P) :: F) G) (hC : CHv Z EL vm h) (W : Wr h h' a sl v) (hp : ∀ c, P c → P' (c.setSlot sl v)) : Hp Z EL vm h' ((a, P') :: F) G := by
  obtain ⟨h1, h2, h3, h4, h5⟩ := H
  have hn := List.nodup_cons.mp h4
  have sa := h5 _ (List.mem_cons_self ..)
  have oth : ∀ (b : Addr) (c : Cell), b ≠ a → h[b]? = some c → h'[b]? = some c := fun b c ne e => by
    obtain ⟨c', e1, -, -, -, e5, -⟩ := wr_at W e
    rw [← e5 ne]; exact e1
  refine ⟨⟨by rw [W.size]; exact h1.1, fun b c e => ?_⟩, fun q m => ?_, fun q m => ?_, h4, fun q m => ?_⟩
  · exact oth b c (Nat.ne_of_lt (Nat.lt_of_lt_of_le (Array.getElem?_eq_some_iff.mp e).1 sa.1)) (h1.2 b c e)
  · rcases List.mem_cons.mp m with rfl | m
    · obtain ⟨c, e, p⟩ := h2 _ (List.mem_cons_self ..)
      obtain ⟨c', e1, -, -, -, -, -, e7⟩ := wr_at W e
      exact ⟨c', e1, by rw [(e7 rfl).1]; exact hp c p⟩
    · obtain ⟨c, e, p⟩ := h2 q (List.mem_cons_of_mem _ m)
      refine ⟨c, oth _ _ (fun z => hn.1 (List.mem_map.mpr ⟨q, m, z⟩)) e, p⟩
  · obtain ⟨c, e, p⟩ := h3 q m
    exact ⟨c, oth _ _ (sa.2.2 q m) e, p⟩
  · have key : ∀ r : Ent, r ∈ (a, P) :: F → Z.heap.size ≤ r.1 ∧ Safe Z EL vm h' r.1 ∧ ∀ t ∈ G, t.1 ≠ r.1 := fun r m => ⟨(h5 r m).1, Safe.wr W sa.2.1 hC (h5 r m).2.1, (h5 r m).2.2⟩
    rcases List.mem_cons.mp m with rfl | m
    · exact key (a, P) (List.mem_cons_self ..)
    · exact key q (List.mem_cons_of_mem _ m)
/-- a cell may be forgotten, or known less well -/
theorem Hp.weak {Z : State} {EL : List (String × Nat)} {vm : Vm} {h : Heap} {a : Addr} {P P' : Cell → Prop} (H : Hp Z EL vm h ((a, P) :: F) G) (hp : ∀ c, P c → P' c) : Hp Z EL vm h ((a, P') :: F) G := by
  obtain ⟨h1, h2, h3, h4, h5⟩ := H
  refine ⟨h1, fun q m => ?_, h3, h4, fun q m => ?_⟩
  · rcases List.mem_cons.mp m with rfl | m
    · obtain ⟨c, e, p⟩ := h2 _ (List.mem_cons_self ..); exact ⟨c, e, hp c p⟩
    · exact h2 q (List.mem_cons_of_mem _ m)
  · rcases List.mem_cons.mp m with rfl | m
    · exact h5 (a, P) (List.mem_cons_self ..)
    · exact h5 q (List.mem_cons_of_mem _ m)
theorem Hp.at {Z : State} {EL : List (String × Nat)} {vm : Vm} {h : Heap} {a : Addr} {P : Cell → Prop} (H : Hp Z EL vm h F G) (m : (a, P) ∈ F ∨ (a, P) ∈ G) : ∃ c : Cell, h[a]? = some c ∧ P c := by
  rcases m with m | m
  · exact H.2.1 _ m
  · exact H.2.2.1 _ m
/-! the laws of Go -/
theorem Go.step (h : Bdy A B D → ∀ (T : State) (target : State), At T D.m D.c D.below → Steps D.p.tables D.e D.below (T.setTop (mkF D.m pc' L'.toArray S')) target → Steps D.p.tables D.e D.below (T.setTop (mkF D.m pc L.toArray S)) target)
    (k : Go A B D Q pc' L' S' F G cells slots) : Go A B D Q pc L S F G cells slots := fun hb T hT => by
  obtain ⟨s₂, o, st, r⟩ := k hb T hT
  obtain ⟨vm0, k0, locs, X, -⟩ := hT
  exact ⟨s₂, o, h hb T s₂ X.here st, r⟩
/-- a step that leaves the heap alone -/
theorem Go.stay (h : Bdy A B D → ∀ (T : State) (vm0 : Vm) (locs : List Loc), Stand D.p A.l D.e B.rm (D.s.setVm vm0) D.m D.args D.below D.meth D.c T locs cells slots → A.Z.Warmed39 vm0 → vm0.findClass B.y.cls = some D.m.cls → Hp A.Z A.EL vm0 T.heap F G →
      ∃ T', Stand D.p A.l D.e B.rm (D.s.setVm vm0) D.m D.args D.below D.meth D.c T' locs cells slots ∧ T'.heap = T.heap ∧ ∀ target, Steps D.p.tables D.e D.below (T'.setTop (mkF D.m pc' L'.toArray S')) target → Steps D.p.tables D.e D.below (T.setTop (mkF D.m pc L.toArray S)) target)
    (k : Go A B D Q pc' L' S' F G cells slots) : Go A B D Q pc L S F G cells slots := fun hb T hT => by
  obtain ⟨vm0, k0, locs, X, hZ, hown, hS, hk, N, C, H⟩ := hT
  obtain ⟨T', X', e, st⟩ := h hb T vm0 locs X hZ hown H
  obtain ⟨s₂, o, st', r⟩ := k hb T' ⟨vm0, k0, locs, X', hZ, hown, hS, e ▸ hk, N, by rw [e]; exact C, by rw [e]; exact H⟩
  exact ⟨s₂, o, st _ st', r⟩
theorem Go.mono {cells' slots' : Nat} (h1 : cells ≤ cells') (h2 : slots ≤ slots') (k : Go A B D Q pc L S F G cells' slots') : Go A B D Q pc L S F G cells slots := fun hb T hT => by
  obtain ⟨vm0, k0, locs, X, r⟩ := hT
  exact k hb T ⟨vm0, k0, locs, X.more h1 h2, r⟩
theorem Go.perm (P : F.Perm F') (k : Go A B D Q pc L S F' G cells slots) : Go A B D Q pc L S F G cells slots := fun hb T hT => by
  obtain ⟨vm0, k0, locs, X, hZ, hown, hS, hk, N, C, H⟩ := hT
  exact k hb T ⟨vm0, k0, locs, X, hZ, hown, hS, hk, N, C, H.perm P⟩
theorem own_front : ∀ (F : List Ent) (i : Nat) (q : Ent), F[i]? = some q → F.Perm (q :: F.eraseIdx i)
  | [], i, q, h => by simp at h
  | a :: r, 0, q, h => by
    have e : a = q := by simpa using h
    rw [e]; exact List.Perm.refl _
  | a :: r, i + 1, q, h => by
    have := own_front r i q (by simpa using h)
    exact (this.cons a).trans (List.Perm.swap q a _)
theorem Go.front (i : Nat) {q : Ent} (h : F[i]? = some q) (h' : q :: F.eraseIdx i = F') (k : Go A B D Q pc L S F' G cells slots) : Go A B D Q pc L S F G cells slots := Go.perm (h' ▸ own_front F i q h) k
theorem Go.freeze {q : Ent} (k : Go A B D Q pc L S F (q :: G) cells slots) : Go A B D Q pc L S (q :: F) G cells slots := fun hb T hT => by
  obtain ⟨vm0, k0, locs, X, hZ, hown, hS, hk, N, C, H⟩ := hT
  exact k hb T ⟨vm0, k0, locs, X, hZ, hown, hS, hk, N, C, H.freeze⟩
theorem Go.drop {q : Ent} (k : Go A B D Q pc L S F G cells slots) : Go A B D Q pc L S (q :: F) G cells slots := fun hb T hT => by
  obtain ⟨vm0, k0, locs, X, hZ, hown, hS, hk, N, C, H⟩ := hT
  exact k hb T ⟨vm0, k0, locs, X, hZ, hown, hS, hk, N, C, H.drop⟩
theorem Go.gsub (P : ∀ q ∈ G', q ∈ G) (k : Go A B D Q pc L S F G' cells slots) : Go A B D Q pc L S F G cells slots := fun hb T hT => by
  obtain ⟨vm0, k0, locs, X, hZ, hown, hS, hk, N, C, H⟩ := hT
  exact k hb T ⟨vm0, k0, locs, X, hZ, hown, hS, hk, N, C, H.gsub P⟩
theorem Go.weak {a : Addr} {P P' : Cell → Prop} (hp : ∀ c, P c → P' c) (k : Go A B D Q pc L S ((a, P') :: F) G cells slots) : Go A B D Q pc L S ((a, P) :: F) G cells slots := fun hb T hT => by
  obtain ⟨vm0, k0, locs, X, hZ, hown, hS, hk, N, C, H⟩ := hT
  exact k hb T ⟨vm0, k0, locs, X, hZ, hown, hS, hk, N, C, H.weak hp⟩
theorem Go.post {Q' : Pst} (h : ∀ v F G, Q' v F G → Q v F G) (k : Go A B D Q' pc L S F G cells slots) : Go A B D Q pc L S F G cells slots := fun hb T hT => by
  obtain ⟨s₂, o, st, r1, r2, v, L, F', G', e, q, r⟩ := k hb T hT
  exact ⟨s₂, o, st, r1, r2, v, L, F', G', e, h _ _ _ q, r⟩
/-- what is known of an owned or read cell, as a fact in Lean -/
theorem Go.know {a : Addr} {P : Cell → Prop} {R : Prop} (m : (a, P) ∈ F ∨ (a, P) ∈ G) (hr : ∀ c, P c → R) (k : R → Go A B D Q pc L S F G cells slots) : Go A B D Q pc L S F G cells slots := fun hb T hT => by
  obtain ⟨vm0, k0, locs, X, hZ, hown, hS, hk, N, C, H⟩ := hT
  obtain ⟨c, -, p⟩ := H.at m
  exact k (hr c p) hb T ⟨vm0, k0, locs, X, hZ, hown, hS, hk, N, C, H⟩
/-- two owned cells are not one; an owned one and a read one are not one -/
theorem Go.apart {a b : Addr} {P P' : Cell → Prop} (m : (a, P) ∈ F) (m' : (b, P') ∈ G) (k : b ≠ a → Go A B D Q pc L S F G cells slots) : Go A B D Q pc L S F G cells slots := fun hb T hT => by
  obtain ⟨vm0, k0, locs, X, hZ, hown, hS, hk, N, C, H⟩ := hT
  exact k ((H.2.2.2.2 _ m).2.2 _ m') hb T ⟨vm0, k0, locs, X, hZ, hown, hS, hk, N, C, H⟩
theorem Go.apartF {a b : Addr} {P P' : Cell → Prop} (m : (b, P') ∈ F) (k : b ≠ a → Go A B D Q pc L S ((a, P) :: F) G cells slots) : Go A B D Q pc L S ((a, P) :: F) G cells slots := fun hb T hT => by
  obtain ⟨vm0, k0, locs, X, hZ, hown, hS, hk, N, C, H⟩ := hT
  exact k (fun z => (List.nodup_cons.mp H.2.2.2.1).1 (List.mem_map.mpr ⟨_, m, z⟩)) hb T ⟨vm0, k0, locs, X, hZ, hown, hS, hk, N, C, H⟩
/-- entering a method -/
theorem MetW.of_go {ws : List Cond} {as' : Array Value} (hpl : plainFor B.y = true) (hEL : EW A.Z A.a0 A.EL) (hef : ∀ m, entryFrame m as' B.maxL = mkF m 0 L.toArray []) (h : ∀ D : Dx, D.args = as' → Go A B D Q 0 L [] F G 0 0) : MetW ws A B as' F G Q := by
  refine MetFree.of_bodySF hpl hisR ?_
  intro p e s m args below meth c s₁ Bd hml hP hK
  obtain ⟨rfl, hZ, hC, H⟩ := hP
  have X0 : Stand p A.l e B.rm s m args below meth c s₁ [] 0 0 := Stand.of_body Bd
  have e0 : s₁.heap = s.heap := by rw [Bd.state]; rfl
  obtain ⟨s₂, o, st, r1, r2, v, L', F', G', eo, q, H', N', C', W'⟩ := h (p, e, s, m, args, below, meth, c) rfl ⟨Bd.exec, Bd.bytes, hml, Bd.returns, (name_of_methodNamed Bd.named Bd.method).1, Bd.notSynchronized, hEL⟩ s₁
    ⟨s.vm, s.heap.size, [], X0, hZ, findClass_of_methodNamed Bd.named, State.WarmedH.since (State.WarmedH.refl s) _, by rw [e0]; exact Nat.le_refl _, ⟨Fr.nil _, fun _ => State.WarmedH.refl s⟩, by rw [e0]; exact CHr.refl hC, by rw [e0]; exact H⟩
  exact ⟨s₂, o, castTop (hef m) st, r1, r2, v, L', F', G', eo, q, H', N', C', W'⟩
end Own
/-! own_2: a run of plain steps, by one evaluation -/
/-- what i2c and i2b keep -/
def chr16 (x : Int32) : Int32 := x.toUInt32.toUInt16.toUInt32.toInt32
def byt8 (x : Int32) : Int32 := x.toInt8.toInt32
abbrev In1 : Type := Nat × Instr × Nat
abbrev Pl : Type := Nat × List Slot × List Value
def setL (L : List Slot) (i : Nat) (x : Slot) : Option (List Slot) := if i < L.length then some (L.set i x) else none
def stoSelf (L : List Slot) (i : Nat) (v : Value) : Option (List Slot) :=
  (setL L i (.val v)).bind fun L1 => if v.category = 2 then L1[i + 1]?.bind fun o => match o with
    | .val old => if old.category = 2 then (setL L1 (i + 2) .unset).bind fun L2 => setL L2 (i + 1) .second else setL L1 (i + 1) .second
    | _ => setL L1 (i + 1) .second
  else some L1
def sto (L : List Slot) (i : Nat) (v : Value) : Option (List Slot) :=
  L[i]?.bind fun o => match o with
    | .second => (setL L (i - 1) .unset).bind fun L1 => stoSelf L1 i v
    | .val old => if old.category = 2 then (setL L (i + 1) .unset).bind fun L1 => stoSelf L1 i v else stoSelf L i v
    | .unset => stoSelf L i v
theorem own_setL (L : List Slot) (i : Nat) (x : Slot) : Jvm.setAt L.toArray i x = (setL L i x).map List.toArray := by
  unfold Jvm.setAt setL; by_cases h : i < L.length <;> simp [h]
theorem own_stoSelf (L : List Slot) (i : Nat) (v : Value) : storeSelf L.toArray i v = (stoSelf L i v).map List.toArray := by
  unfold storeSelf stoSelf
  rw [own_setL]
  cases h1 : setL L i (.val v) with
  | none => rfl
  | some L1 =>
    simp only [Option.map_some, Option.bind_eq_bind, Option.bind_some]
    by_cases hv : v.category = 2
    · simp only [hv, if_true, List.getElem?_toArray]
      cases h2 : L1[i + 1]? with
      | none => rfl
      | some o =>
        simp only [Option.bind_some]
        cases o with
        | unset => exact own_setL ..
        | second => exact own_setL ..
        | val old =>
          by_cases hc : old.category = 2
          · simp only [hc, if_true]
            rw [own_setL]
            cases h3 : setL L1 (i + 2) .unset with
            | none => rfl
            | some L2 => exact own_setL ..
          · simp only [hc, if_false]; exact own_setL ..
    · simp only [hv, if_false, Option.map_some]
theorem own_sto (L : List Slot) (i : Nat) (v : Value) : storeLocals L.toArray i v = (sto L i v).map List.toArray := by
  unfold storeLocals sto
  simp only [List.getElem?_toArray, Option.bind_eq_bind]
  cases h2 : L[i]? with
  | none => rfl
  | some o =>
    simp only [Option.bind_some]
    cases o with
    | unset => exact own_stoSelf ..
    | second =>
      rw [own_setL]
      cases h3 : setL L (i - 1) .unset with
      | none => rfl
      | some L2 => exact own_stoSelf ..
    | val old =>
      by_cases hc : old.category = 2
      · simp only [hc, if_true]
        rw [own_setL]
        cases h3 : setL L (i + 1) .unset with
        | none => rfl
        | some L2 => exact own_stoSelf ..
      · simp only [hc, if_false]; exact own_stoSelf ..
theorem own_sto' {L L' : List Slot} {i : Nat} {v : Value} (h : sto L i v = some L') : storeLocals L.toArray i v = some L'.toArray := by rw [own_sto, h]; rfl
def ld (L : List Slot) (k : Nat) : Option Value := match L[k]? with
  | some (.val v) => some v
  | _ => none
theorem own_ld {L : List Slot} {k : Nat} {v : Value} (h : ld L k = some v) : L.toArray[k]? = some (.val v) := by
  unfold ld at h
  rw [List.getElem?_toArray]
  split at h <;> simp_all
def ldI (L : List Slot) (k : Nat) : Option Int32 := match ld L k with
  | some (.int v) => some v
  | _ => none
def ldJ (L : List Slot) (k : Nat) : Option Int64 := match ld L k with
  | some (.long v) => some v
  | _ => none
def ldA (L : List Slot) (k : Nat) : Option Value := match ld L k with
  | some (.ref a) => some (.ref a)
  | some .null => some .null
  | _ => none
theorem own_ldI {L : List Slot} {k : Nat} {v : Int32} (h : ldI L k = some v) : L.toArray[k]? = some (.val (.int v)) := by
  unfold ldI at h; split at h
  · rename_i e; cases h; exact own_ld e
  · cases h
theorem own_ldJ {L : List Slot} {k : Nat} {v : Int64} (h : ldJ L k = some v) : L.toArray[k]? = some (.val (.long v)) := by
  unfold ldJ at h; split at h
  · rename_i e; cases h; exact own_ld e
  · cases h
theorem own_ldA {L : List Slot} {k : Nat} {v : Value} (h : ldA L k = some v) : L.toArray[k]? = some (.val v) ∧ v.isRef = true := by
  unfold ldA at h; split at h
  · rename_i e; cases h; exact ⟨own_ld e, rfl⟩
  · rename_i e; cases h; exact ⟨own_ld e, rfl⟩
  · cases h
def bin (S : List Value) (f : Int32 → Int32 → Int32) : Option (List Value) := match S with
  | .int y :: .int x :: r => some (.int (f x y) :: r)
  | _ => none
def binL (S : List Value) (f : Int64 → Int64 → Value) : Option (List Value) := match S with
  | .long y :: .long x :: r => some (f x y :: r)
  | _ => none
def shfL (S : List Value) (f : Int64 → Int32 → Int64) : Option (List Value) := match S with
  | .int y :: .long x :: r => some (.long (f x y) :: r)
  | _ => none
def un (S : List Value) (f : Int32 → Value) : Option (List Value) := match S with
  | .int x :: r => some (f x :: r)
  | _ => none
def unL (S : List Value) (f : Int64 → Value) : Option (List Value) := match S with
  | .long x :: r => some (f x :: r)
  | _ => none
def stI1 (L : List Slot) (S : List Value) (k : Nat) : Option (List Slot × List Value) := match S with
  | .int x :: r => (sto L k (.int x)).map fun L' => (L', r)
  | _ => none
def stJ1 (L : List Slot) (S : List Value) (k : Nat) : Option (List Slot × List Value) := match S with
  | .long x :: r => (sto L k (.long x)).map fun L' => (L', r)
  | _ => none
def stA1 (L : List Slot) (S : List Value) (k : Nat) : Option (List Slot × List Value) := match S with
  | .ref x :: r => (sto L k (.ref x)).map fun L' => (L', r)
  | .null :: r => (sto L k .null).map fun L' => (L', r)
  | _ => none
def dupV (S : List Value) : Option (List Value) := match S with
  | x :: r => if x.category = 1 then some (x :: x :: r) else none
  | _ => none
def dup1V (S : List Value) : Option (List Value) := match S with
  | x :: y :: r => if x.category = 1 ∧ y.category = 1 then some (x :: y :: x :: r) else none
  | _ => none
def dup2V (S : List Value) : Option (List Value) := match S with
  | x :: y :: r => if x.category = 1 ∧ y.category = 1 then some (x :: y :: x :: y :: r) else none
  | _ => none
def popV (S : List Value) : Option (List Value) := match S with
  | x :: r => if x.category = 1 then some r else none
  | _ => none
def step1 (q : In1) (t : Pl) : Option Pl := match q.2.1, q.2.2 with
  | .iload k, 2 => (ldI t.2.1 k).map fun v => (t.1 + 2, t.2.1, .int v :: t.2.2)
  | .iload_n k, 1 => (ldI t.2.1 k.val).map fun v => (t.1 + 1, t.2.1, .int v :: t.2.2)
  | .lload k, 2 => (ldJ t.2.1 k).map fun v => (t.1 + 2, t.2.1, .long v :: t.2.2)
  | .lload_n k, 1 => (ldJ t.2.1 k.val).map fun v => (t.1 + 1, t.2.1, .long v :: t.2.2)
  | .aload k, 2 => (ldA t.2.1 k).map fun v => (t.1 + 2, t.2.1, v :: t.2.2)
  | .aload_n k, 1 => (ldA t.2.1 k.val).map fun v => (t.1 + 1, t.2.1, v :: t.2.2)
  | .istore k, 2 => (stI1 t.2.1 t.2.2 k).map fun r => (t.1 + 2, r)
  | .istore_n k, 1 => (stI1 t.2.1 t.2.2 k.val).map fun r => (t.1 + 1, r)
  | .lstore k, 2 => (stJ1 t.2.1 t.2.2 k).map fun r => (t.1 + 2, r)
  | .lstore_n k, 1 => (stJ1 t.2.1 t.2.2 k.val).map fun r => (t.1 + 1, r)
  | .astore k, 2 => (stA1 t.2.1 t.2.2 k).map fun r => (t.1 + 2, r)
  | .astore_n k, 1 => (stA1 t.2.1 t.2.2 k.val).map fun r => (t.1 + 1, r)
  | .iconst i, 1 => some (t.1 + 1, t.2.1, .int (Int32.ofInt i) :: t.2.2)
  | .bipush i, 2 => some (t.1 + 2, t.2.1, .int (Int8.ofInt i).toInt32 :: t.2.2)
  | .sipush i, 3 => some (t.1 + 3, t.2.1, .int (Int16.ofInt i).toInt32 :: t.2.2)
  | .lconst k, 1 => some (t.1 + 1, t.2.1, .long (Int64.ofNat k) :: t.2.2)
  | .aconst_null, 1 => some (t.1 + 1, t.2.1, .null :: t.2.2)
  | .iadd, 1 => (bin t.2.2 (· + ·)).map fun r => (t.1 + 1, t.2.1, r)
  | .isub, 1 => (bin t.2.2 (· - ·)).map fun r => (t.1 + 1, t.2.1, r)
  | .imul, 1 => (bin t.2.2 (· * ·)).map fun r => (t.1 + 1, t.2.1, r)
  | .iand, 1 => (bin t.2.2 (· &&& ·)).map fun r => (t.1 + 1, t.2.1, r)
  | .ior, 1 => (bin t.2.2 (· ||| ·)).map fun r => (t.1 + 1, t.2.1, r)
  | .ixor, 1 => (bin t.2.2 (· ^^^ ·)).map fun r => (t.1 + 1, t.2.1, r)
  | .ishl, 1 => (bin t.2.2 fun x y => x <<< (y &&& 31)).map fun r => (t.1 + 1, t.2.1, r)
  | .ishr, 1 => (bin t.2.2 fun x y => x >>> (y &&& 31)).map fun r => (t.1 + 1, t.2.1, r)
  | .iushr, 1 => (bin t.2.2 Jvm.Free.XT.ushr).map fun r => (t.1 + 1, t.2.1, r)
  | .ineg, 1 => (un t.2.2 fun x => .int (-x)).map fun r => (t.1 + 1, t.2.1, r)
  | .ladd, 1 => (binL t.2.2 fun x y => .long (x + y)).map fun r => (t.1 + 1, t.2.1, r)
  | .lsub, 1 => (binL t.2.2 fun x y => .long (x - y)).map fun r => (t.1 + 1, t.2.1, r)
  | .land, 1 => (binL t.2.2 fun x y => .long (x &&& y)).map fun r => (t.1 + 1, t.2.1, r)
  | .lor, 1 => (binL t.2.2 fun x y => .long (x ||| y)).map fun r => (t.1 + 1, t.2.1, r)
  | .lxor, 1 => (binL t.2.2 fun x y => .long (x ^^^ y)).map fun r => (t.1 + 1, t.2.1, r)
  | .lcmp, 1 => (binL t.2.2 fun x y => .int (Jvm.Free.XT.cmpL x y)).map fun r => (t.1 + 1, t.2.1, r)
  | .lshl, 1 => (shfL t.2.2 fun x y => x <<< (y.toInt64 &&& 63)).map fun r => (t.1 + 1, t.2.1, r)
  | .lshr, 1 => (shfL t.2.2 fun x y => x >>> (y.toInt64 &&& 63)).map fun r => (t.1 + 1, t.2.1, r)
  | .lushr, 1 => (shfL t.2.2 Jvm.Free.XT.ushrL).map fun r => (t.1 + 1, t.2.1, r)
  | .i2l, 1 => (un t.2.2 fun x => .long x.toInt64).map fun r => (t.1 + 1, t.2.1, r)
  | .l2i, 1 => (unL t.2.2 fun x => .int x.toInt32).map fun r => (t.1 + 1, t.2.1, r)
  | .i2b, 1 => (un t.2.2 fun x => .int (byt8 x)).map fun r => (t.1 + 1, t.2.1, r)
  | .i2c, 1 => (un t.2.2 fun x => .int (chr16 x)).map fun r => (t.1 + 1, t.2.1, r)
  | .i2s, 1 => (un t.2.2 fun x => .int x.toInt16.toInt32).map fun r => (t.1 + 1, t.2.1, r)
  | .iinc k c, 3 => (ldI t.2.1 k).bind fun v => (sto t.2.1 k (.int (v + Int32.ofInt c))).map fun L' => (t.1 + 3, L', t.2.2)
  | .dup, 1 => (dupV t.2.2).map fun r => (t.1 + 1, t.2.1, r)
  | .dup_x1, 1 => (dup1V t.2.2).map fun r => (t.1 + 1, t.2.1, r)
  | .dup2, 1 => (dup2V t.2.2).map fun r => (t.1 + 1, t.2.1, r)
  | .pop, 1 => (popV t.2.2).map fun r => (t.1 + 1, t.2.1, r)
  | .goto o, 3 => if 0 ≤ (t.1 : Int) + o then some (((t.1 : Int) + o).toNat, t.2.1, t.2.2) else none
  | _, _ => none
def runL : List In1 → Pl → Option Pl
  | [], t => some t
  | q :: r, t => if q.1 = t.1 then (step1 q t).bind (runL r) else none
section Own
variable {A : Ax} {B : Bx} {D : Dx} {Q : Pst} {pc pc' : Nat} {L L' : List Slot} {S S' rest : List Value} {F F' G G' : List Ent} {cells slots : Nat}
set_option maxHeartbeats 4000000 in
theorem own_step1 {q : In1} {t t' : Pl} (hpc : q.1 = t.1) (h : step1 q t = some t') (hd : decode D.c.code q.1 = .ok q.2) (hx : D.p.tables.exec = Jvm.exec) (T target : State) (X : At T D.m D.c D.below)
    (k : Steps D.p.tables D.e D.below (T.setTop (mkF D.m t'.1 t'.2.1.toArray t'.2.2)) target) : Steps D.p.tables D.e D.below (T.setTop (mkF D.m t.1 t.2.1.toArray t.2.2)) target := by
  obtain ⟨qpc, qi, ql⟩ := q
  obtain ⟨pc, L, S⟩ := t
  obtain ⟨pc', L', S'⟩ := t'
  simp only at hpc hd k ⊢
  subst hpc
  unfold step1 at h
  simp only at h
  split at h
  · obtain ⟨v, hv, e⟩ := Option.map_eq_some_iff.mp h; cases e; exact XS.iload X hx rfl hd (own_ldI hv) k
  · obtain ⟨v, hv, e⟩ := Option.map_eq_some_iff.mp h; cases e; exact XS.iloadN X hx rfl hd (own_ldI hv) k
  · obtain ⟨v, hv, e⟩ := Option.map_eq_some_iff.mp h; cases e; exact XT.lload X hx rfl hd (own_ldJ hv) k
  · obtain ⟨v, hv, e⟩ := Option.map_eq_some_iff.mp h; cases e; exact XT.lloadN X hx rfl hd (own_ldJ hv) k
  · obtain ⟨v, hv, e⟩ := Option.map_eq_some_iff.mp h; cases e; exact XS.aload X hx rfl hd (own_ldA hv).1 (own_ldA hv).2 k
  · obtain ⟨v, hv, e⟩ := Option.map_eq_some_iff.mp h; cases e; exact XS.aloadN X hx rfl hd (own_ldA hv).1 (own_ldA hv).2 k
  · obtain ⟨⟨L1, S1⟩, hv, e⟩ := Option.map_eq_some_iff.mp h; cases e; unfold stI1 at hv; split at hv
    · obtain ⟨L2, h2, e⟩ := Option.map_eq_some_iff.mp hv; cases e; exact XS.istore X hx rfl hd rfl (own_sto' h2) k
    · cases hv
  · obtain ⟨⟨L1, S1⟩, hv, e⟩ := Option.map_eq_some_iff.mp h; cases e; unfold stI1 at hv; split at hv
    · obtain ⟨L2, h2, e⟩ := Option.map_eq_some_iff.mp hv; cases e; exact XS.istoreN X hx rfl hd rfl (own_sto' h2) k
    · cases hv
  · obtain ⟨⟨L1, S1⟩, hv, e⟩ := Option.map_eq_some_iff.mp h; cases e; unfold stJ1 at hv; split at hv
    · obtain ⟨L2, h2, e⟩ := Option.map_eq_some_iff.mp hv; cases e; exact XT.lstore X hx rfl hd rfl (own_sto' h2) k
    · cases hv
  · obtain ⟨⟨L1, S1⟩, hv, e⟩ := Option.map_eq_some_iff.mp h; cases e; unfold stJ1 at hv; split at hv
    · obtain ⟨L2, h2, e⟩ := Option.map_eq_some_iff.mp hv; cases e; exact XT.lstoreN X hx rfl hd rfl (own_sto' h2) k
    · cases hv
  · obtain ⟨⟨L1, S1⟩, hv, e⟩ := Option.map_eq_some_iff.mp h; cases e; unfold stA1 at hv; split at hv
    · obtain ⟨L2, h2, e⟩ := Option.map_eq_some_iff.mp hv; cases e; exact XS.astore X hx rfl hd rfl rfl (own_sto' h2) k
    · obtain ⟨L2, h2, e⟩ := Option.map_eq_some_iff.mp hv; cases e; exact XS.astore X hx rfl hd rfl rfl (own_sto' h2) k
    · cases hv
  · obtain ⟨⟨L1, S1⟩, hv, e⟩ := Option.map_eq_some_iff.mp h; cases e; unfold stA1 at hv; split at hv
    · obtain ⟨L2, h2, e⟩ := Option.map_eq_some_iff.mp hv; cases e; exact XS.astoreN X hx rfl hd rfl rfl (own_sto' h2) k
    · obtain ⟨L2, h2, e⟩ := Option.map_eq_some_iff.mp hv; cases e; exact XS.astoreN X hx rfl hd rfl rfl (own_sto' h2) k
    · cases hv
  · cases h; exact XS.iconst X hx rfl hd k
  · cases h; exact XS.bipush X hx rfl hd k
  · cases h; exact XS.sipush X hx rfl hd k
  · cases h; exact XT.lconst X hx rfl hd k
  · cases h; exact XS.aconstNull X hx rfl hd k
  · obtain ⟨S1, hv, e⟩ := Option.map_eq_some_iff.mp h; cases e; unfold bin at hv; split at hv
    · cases hv; exact XS.iadd X hx rfl hd rfl k
    · cases hv
  · obtain ⟨S1, hv, e⟩ := Option.map_eq_some_iff.mp h; cases e; unfold bin at hv; split at hv
    · cases hv; exact XS.isub X hx rfl hd rfl k
    · cases hv
  · obtain ⟨S1, hv, e⟩ := Option.map_eq_some_iff.mp h; cases e; unfold bin at hv; split at hv
    · cases hv; exact XS.imul X hx rfl hd rfl k
    · cases hv
  · obtain ⟨S1, hv, e⟩ := Option.map_eq_some_iff.mp h; cases e; unfold bin at hv; split at hv
    · cases hv; exact XS.iand X hx rfl hd rfl k
    · cases hv
  · obtain ⟨S1, hv, e⟩ := Option.map_eq_some_iff.mp h; cases e; unfold bin at hv; split at hv
    · cases hv; exact XT.ior X hx rfl hd rfl k
    · cases hv
  · obtain ⟨S1, hv, e⟩ := Option.map_eq_some_iff.mp h; cases e; unfold bin at hv; split at hv
    · cases hv; exact XT.ixor X hx rfl hd rfl k
    · cases hv
  · obtain ⟨S1, hv, e⟩ := Option.map_eq_some_iff.mp h; cases e; unfold bin at hv; split at hv
    · cases hv; exact XT.ishl X hx rfl hd rfl k
    · cases hv
  · obtain ⟨S1, hv, e⟩ := Option.map_eq_some_iff.mp h; cases e; unfold bin at hv; split at hv
    · cases hv; exact XT.ishr X hx rfl hd rfl k
    · cases hv
  · obtain ⟨S1, hv, e⟩ := Option.map_eq_some_iff.mp h; cases e; unfold bin at hv; split at hv
    · cases hv; exact XT.iushr X hx rfl hd rfl k
    · cases hv
  · obtain ⟨S1, hv, e⟩ := Option.map_eq_some_iff.mp h; cases e; unfold un at hv; split at hv
    · cases hv; exact XS.ineg X hx rfl hd rfl k
    · cases hv
  · obtain ⟨S1, hv, e⟩ := Option.map_eq_some_iff.mp h; cases e; unfold binL at hv; split at hv
    · cases hv; exact XT.ladd X hx rfl hd rfl k
    · cases hv
  · obtain ⟨S1, hv, e⟩ := Option.map_eq_some_iff.mp h; cases e; unfold binL at hv; split at hv
    · cases hv; exact XT.lsub X hx rfl hd rfl k
    · cases hv
  · obtain ⟨S1, hv, e⟩ := Option.map_eq_some_iff.mp h; cases e; unfold binL at hv; split at hv
    · cases hv; exact XT.land X hx rfl hd rfl k
    · cases hv
  · obtain ⟨S1, hv, e⟩ := Option.map_eq_some_iff.mp h; cases e; unfold binL at hv; split at hv
    · cases hv; exact XT.lor X hx rfl hd rfl k
    · cases hv
  · obtain ⟨S1, hv, e⟩ := Option.map_eq_some_iff.mp h; cases e; unfold binL at hv; split at hv
    · cases hv; exact XT.lxor X hx rfl hd rfl k
    · cases hv
  · obtain ⟨S1, hv, e⟩ := Option.map_eq_some_iff.mp h; cases e; unfold binL at hv; split at hv
    · cases hv; exact XT.lcmp X hx rfl hd rfl k
    · cases hv
  · obtain ⟨S1, hv, e⟩ := Option.map_eq_some_iff.mp h; cases e; unfold shfL at hv; split at hv
    · cases hv; exact XT.lshl X hx rfl hd rfl k
    · cases hv
  · obtain ⟨S1, hv, e⟩ := Option.map_eq_some_iff.mp h; cases e; unfold shfL at hv; split at hv
    · cases hv; exact XT.lshr X hx rfl hd rfl k
    · cases hv
  · obtain ⟨S1, hv, e⟩ := Option.map_eq_some_iff.mp h; cases e; unfold shfL at hv; split at hv
    · cases hv; exact XT.lushr X hx rfl hd rfl k
    · cases hv
  · obtain ⟨S1, hv, e⟩ := Option.map_eq_some_iff.mp h; cases e; unfold un at hv; split at hv
    · cases hv; exact XT.i2l X hx rfl hd rfl k
    · cases hv
  · obtain ⟨S1, hv, e⟩ := Option.map_eq_some_iff.mp h; cases e; unfold unL at hv; split at hv
    · cases hv; exact XT.l2i X hx rfl hd rfl k
    · cases hv
  · obtain ⟨S1, hv, e⟩ := Option.map_eq_some_iff.mp h; cases e; unfold un at hv; split at hv
    · cases hv; exact XT.i2b X hx rfl hd rfl k
    · cases hv
  · obtain ⟨S1, hv, e⟩ := Option.map_eq_some_iff.mp h; cases e; unfold un at hv; split at hv
    · cases hv; exact XT.i2c X hx rfl hd rfl k
    · cases hv
  · obtain ⟨S1, hv, e⟩ := Option.map_eq_some_iff.mp h; cases e; unfold un at hv; split at hv
    · cases hv; exact XT.i2s X hx rfl hd rfl k
    · cases hv
  · obtain ⟨v, hv, e⟩ := Option.bind_eq_some_iff.mp h; obtain ⟨L2, h2, e⟩ := Option.map_eq_some_iff.mp e; cases e; exact XS.iinc X hx rfl hd (own_ldI hv) (own_sto' h2) k
  · obtain ⟨S1, hv, e⟩ := Option.map_eq_some_iff.mp h; cases e; unfold dupV at hv; split at hv
    · split at hv
      · cases hv; exact XS.dup X hx rfl hd rfl (by assumption) k
      · cases hv
    · cases hv
  · obtain ⟨S1, hv, e⟩ := Option.map_eq_some_iff.mp h; cases e; unfold dup1V at hv; split at hv
    · split at hv
      · rename_i hc; cases hv; exact XT.dupX1 X hx rfl hd rfl hc.1 hc.2 k
      · cases hv
    · cases hv
  · obtain ⟨S1, hv, e⟩ := Option.map_eq_some_iff.mp h; cases e; unfold dup2V at hv; split at hv
    · split at hv
      · rename_i hc; cases hv; exact XT.dup2 X hx rfl hd rfl hc.1 hc.2 k
      · cases hv
    · cases hv
  · obtain ⟨S1, hv, e⟩ := Option.map_eq_some_iff.mp h; cases e; unfold popV at hv; split at hv
    · split at hv
      · cases hv; exact XT.pop X hx rfl hd rfl (by assumption) k
      · cases hv
    · cases hv
  · split at h
    · rename_i ho; cases h; exact XS.goto X hx rfl rfl hd ho rfl k
    · cases h
  · cases h
theorem own_runL : ∀ (is : List In1) {t t' : Pl}, runL is t = some t' → (∀ q ∈ is, decode D.c.code q.1 = .ok q.2) → D.p.tables.exec = Jvm.exec → ∀ (T target : State), At T D.m D.c D.below →
    Steps D.p.tables D.e D.below (T.setTop (mkF D.m t'.1 t'.2.1.toArray t'.2.2)) target → Steps D.p.tables D.e D.below (T.setTop (mkF D.m t.1 t.2.1.toArray t.2.2)) target
  | [], t, t', h, _, _, T, target, X, k => by cases h; exact k
  | q :: r, t, t', h, hd, hx, T, target, X, k => by
    simp only [runL] at h
    split at h
    · rename_i hpc
      obtain ⟨t1, h1, h2⟩ := Option.bind_eq_some_iff.mp h
      exact own_step1 hpc h1 (hd q (List.mem_cons_self ..)) hx T target X (own_runL r h2 (fun z m => hd z (List.mem_cons_of_mem _ m)) hx T target X k)
    · cases h
/-- the decode table of a body -/
def Dec (bytes : ByteArray) (tb : List In1) : Prop := ∀ q ∈ tb, decode bytes q.1 = .ok q.2
theorem Go.run {tb : List In1} (hd : Dec B.bytes tb) (i n : Nat) (h : runL ((tb.drop i).take n) (pc, L, S) = some (pc', L', S')) (k : Go A B D Q pc' L' S' F G cells slots) : Go A B D Q pc L S F G cells slots :=
  Go.step (fun hb T target X st => own_runL _ h (fun q m => hb.2.1 ▸ hd q (List.mem_of_mem_drop (List.mem_of_mem_take m))) hb.1 T target X st) k
theorem Dec.at {bytes : ByteArray} {tb : List In1} (hd : Dec bytes tb) (hb : Bdy A B D) (e : B.bytes = bytes) {i : Nat} {q : In1} (h : tb[i]? = some q) : decode D.c.code q.1 = .ok q.2 := by
  rw [hb.2.1, e]; exact hd q (List.mem_of_getElem? h)
end Own
/-! own_3: branches, reads and writes -/
/-- what a condition says -/
def cnd : ClassFile.Cond → Int32 → Int32 → Prop
  | .eq, a, b => a = b
  | .ne, a, b => a ≠ b
  | .lt, a, b => a < b
  | .ge, a, b => b ≤ a
  | .gt, a, b => b < a
  | .le, a, b => a ≤ b
theorem own_cnd (cd : ClassFile.Cond) (a b : Int32) : if_icmp.holds cd a b = true ↔ cnd cd a b := by cases cd <;> simp [if_icmp.holds, cnd]
/-- an object: its class is C; these fields hold these values -/
def FdP (Z : State) (a0 : Array Value) (C : String) (c : Cell) (q : String × String × String × Value) : Prop :=
  Laid Z a0 C q.1 q.2.1 q.2.2.1 ∧ (∃ t, parseFieldDescriptor q.2.2.1 = some t) ∧ c.slots[Jvm.RoadKit.slotOf Z q.1 q.2.1 q.2.2.1]? = some q.2.2.2
def ClP (Z : State) (C : String) (c : Cell) : Prop := ∃ k : Class, Z.vm.findClass C = some c.cls ∧ Z.vm.classes[c.cls]? = some k ∧ c.vm.isStatics = false ∧ c.vm ≠ .unknown ∧ (k.kind = .ordinary → c.slots.size = k.instanceTypes.size)
def ObjP (A : Ax) (C : String) (fs : List (String × String × String × Value)) (c : Cell) : Prop := ClP A.Z C c ∧ ∀ q ∈ fs, FdP A.Z A.a0 C c q
/-- an array: its component type, and its components -/
def ArrP (A : Ax) (ty : FieldType) (vs : List Value) (c : Cell) : Prop := A.Z.isArrayOf c ty ∧ c.vm ≠ .unknown ∧ c.slots.toList = vs
theorem ClP.exa {Z : State} {C : String} {c : Cell} {h : Heap} {a : Addr} (P : ClP Z C c) (e : h[a]? = some c) : Exa Z h a C := by
  obtain ⟨k, h1, h2, h3, -, h5⟩ := P; exact ⟨c, k, e, h1, h2, h3, h5⟩
theorem FdP.fld {Z : State} {a0 : Array Value} {C O n d : String} {v : Value} {c : Cell} {h : Heap} {a : Addr} (P : ClP Z C c) (F : FdP Z a0 C c (O, n, d, v)) (e : h[a]? = some c) : Fld Z h a O n d v := by
  obtain ⟨k, h1, h2, h3, h4, h5⟩ := P
  obtain ⟨L, -, hv⟩ := F
  obtain ⟨c1, k1, cf, kf, i, f, a1, a2, a3, a4, a5, a6, -⟩ := L.spec
  cases h1.symm.trans a1
  have es : Jvm.RoadKit.slotOf Z O n d = f.slot := by simp [Jvm.RoadKit.slotOf, a3]
  exact ⟨c, cf, kf, i, f, e, a3, a4, h4, h3, a5, by rw [← es]; exact hv⟩
theorem ClP.set {Z : State} {C : String} {c : Cell} (P : ClP Z C c) (sl : Nat) (v : Value) : ClP Z C (c.setSlot sl v) := by
  obtain ⟨k, h1, h2, h3, h4, h5⟩ := P; exact ⟨k, h1, h2, h3, h4, fun q => by rw [sz_set]; exact h5 q⟩
theorem ArrP.set {A : Ax} {ty : FieldType} {vs : List Value} {c : Cell} (P : ArrP A ty vs c) (i : Nat) (v : Value) : ArrP A ty (vs.set i v) (c.setSlot i v) := by
  obtain ⟨h1, h2, h3⟩ := P
  refine ⟨h1, h2, ?_⟩
  show (c.slots.setIfInBounds i v).toList = _
  rw [Array.toList_setIfInBounds, h3]
theorem ArrP.size {A : Ax} {ty : FieldType} {vs : List Value} {c : Cell} (P : ArrP A ty vs c) : c.slots.size = vs.length := by rw [← P.2.2]; simp
theorem ArrP.get {A : Ax} {ty : FieldType} {vs : List Value} {c : Cell} (P : ArrP A ty vs c) (i : Nat) : c.slots[i]? = vs[i]? := by rw [← P.2.2]; simp
theorem ObjP.set {A : Ax} {C O n d : String} {v w : Value} {c : Cell} {fs fs' : List (String × String × String × Value)} (P : ObjP A C fs c) (hm : (O, n, d, w) ∈ fs)
    (hf : ∀ q ∈ fs', q = (O, n, d, v) ∨ (q ∈ fs ∧ q.2.1 ≠ n)) : ObjP A C fs' (c.setSlot (Jvm.RoadKit.slotOf A.Z O n d) v) := by
  obtain ⟨hc, hq⟩ := P
  refine ⟨hc.set _ _, fun q m => ?_⟩
  obtain ⟨L, ⟨t, ht⟩, hv⟩ := hq _ hm
  rcases hf q m with rfl | ⟨m', hn⟩
  · refine ⟨L, ⟨t, ht⟩, ?_⟩
    have hlt := (Array.getElem?_eq_some_iff.mp hv).1
    simp only at hlt
    simp [Cell.setSlot, hlt]
  · obtain ⟨L', ⟨t', ht'⟩, hv'⟩ := hq _ m'
    refine ⟨L', ⟨t', ht'⟩, ?_⟩
    have ne := slot_ne L' L hn ht' ht
    show (c.slots.setIfInBounds _ _)[_]? = _
    rw [Array.getElem?_setIfInBounds_ne (Ne.symm ne)]; exact hv'
theorem ObjP.less {A : Ax} {C : String} {c : Cell} {fs fs' : List (String × String × String × Value)} (P : ObjP A C fs c) (h : ∀ q ∈ fs', q ∈ fs) : ObjP A C fs' c := ⟨P.1, fun q m => P.2 q (h q m)⟩
theorem own_setmem {α : Type} : ∀ (fs : List α) (k : Nat) (p q : α), q ∈ fs.set k p → q = p ∨ q ∈ fs.eraseIdx k
  | [], _, _, _, h => by simp at h
  | a :: r, 0, p, q, h => by simpa using h
  | a :: r, k + 1, p, q, h => by
    simp only [List.set_cons_succ, List.mem_cons] at h
    simp only [List.eraseIdx_cons_succ, List.mem_cons]
    rcases h with h | h
    · exact Or.inr (Or.inl h)
    · exact (own_setmem r k p q h).imp id Or.inr
theorem own_fs {O n d : String} {v : Value} {fs fs' : List (String × String × String × Value)} (k : Nat) {ns : List String} (hns : (fs.eraseIdx k).map (·.2.1) = ns) (hd : ∀ x ∈ ns, x ≠ n) (h : fs.set k (O, n, d, v) = fs') : ∀ q ∈ fs', q = (O, n, d, v) ∨ (q ∈ fs ∧ q.2.1 ≠ n) := fun q m => by
  subst h
  refine (own_setmem _ _ _ _ m).imp id fun z => ⟨List.mem_of_mem_eraseIdx z, hd _ ?_⟩
  rw [← hns]; exact List.mem_map_of_mem z
theorem own_lay0 {A : Ax} {C : String} : ∀ q ∈ ([] : List (String × String × String × Value)), Laid A.Z A.a0 C q.1 q.2.1 q.2.2.1 ∧ ∃ t, parseFieldDescriptor q.2.2.1 = some t ∧ q.2.2.2 = defaultValue t := fun _ m => nomatch m
theorem own_layS {A : Ax} {C O n d : String} {v : Value} {t : FieldType} {fs : List (String × String × String × Value)} (h : Laid A.Z A.a0 C O n d) (ht : parseFieldDescriptor d = some t) (hv : v = defaultValue t) (r : ∀ q ∈ fs, Laid A.Z A.a0 C q.1 q.2.1 q.2.2.1 ∧ ∃ t, parseFieldDescriptor q.2.2.1 = some t ∧ q.2.2.2 = defaultValue t) :
    ∀ q ∈ (O, n, d, v) :: fs, Laid A.Z A.a0 C q.1 q.2.1 q.2.2.1 ∧ ∃ t, parseFieldDescriptor q.2.2.1 = some t ∧ q.2.2.2 = defaultValue t := fun q m => by
  rcases List.mem_cons.mp m with rfl | m
  · exact ⟨h, t, ht, hv⟩
  · exact r q m
def InB (j : Int32) (n : Nat) : Prop := 0 ≤ j.toInt ∧ j.toInt < n
theorem InB.in {j : Int32} {n : Nat} (h : InB j n) : ¬ (j < 0 ∨ n ≤ j.toNatClampNeg) := by
  obtain ⟨h1, h2⟩ := h
  simp only [Int32.lt_iff_toInt_lt, Int32.toNatClampNeg]
  have : (0 : Int32).toInt = 0 := rfl
  omega
section Own
variable {A : Ax} {B : Bx} {D : Dx} {Q : Pst} {pc pc' : Nat} {L L' : List Slot} {S S' rest : List Value} {F F' G G' : List Ent} {cells slots : Nat} {tb : List In1}
theorem own_dec (hd : Dec B.bytes tb) (hb : Bdy A B D) {i p : Nat} {r : Instr × Nat} (h : tb[i]? = some (p, r)) : decode D.c.code p = .ok r := by
  rw [hb.2.1]; exact hd (p, r) (List.mem_of_getElem? h)
theorem Go.icmp (hd : Dec B.bytes tb) (i : Nat) {cd : ClassFile.Cond} {o : Int} {x y : Int32} (hi : tb[i]? = some (pc, .if_icmp cd o, 3)) (ho : 0 ≤ (pc : Int) + o) (hp : ((pc : Int) + o).toNat = pc')
    (k1 : cnd cd x y → Go A B D Q pc' L rest F G cells slots) (k2 : ¬ cnd cd x y → Go A B D Q (pc + 3) L rest F G cells slots) : Go A B D Q pc L (.int y :: .int x :: rest) F G cells slots := by
  cases hc : if_icmp.holds cd x y with
  | true => exact Go.step (fun hb T target X st => XS.icmpYes X hb.1 rfl rfl (own_dec hd hb hi) rfl hc ho hp st) (k1 ((own_cnd ..).mp hc))
  | false => exact Go.step (fun hb T target X st => XS.icmpNo X hb.1 rfl (own_dec hd hb hi) rfl hc st) (k2 fun z => by rw [(own_cnd ..).mpr z] at hc; cases hc)
theorem Go.if0 (hd : Dec B.bytes tb) (i : Nat) {cd : ClassFile.Cond} {o : Int} {x : Int32} (hi : tb[i]? = some (pc, .ifCond cd o, 3)) (ho : 0 ≤ (pc : Int) + o) (hp : ((pc : Int) + o).toNat = pc')
    (k1 : cnd cd x 0 → Go A B D Q pc' L rest F G cells slots) (k2 : ¬ cnd cd x 0 → Go A B D Q (pc + 3) L rest F G cells slots) : Go A B D Q pc L (.int x :: rest) F G cells slots := by
  cases hc : ifCond.holds cd x with
  | true => exact Go.step (fun hb T target X st => XS.ifYes X hb.1 rfl rfl (own_dec hd hb hi) rfl hc ho hp st) (k1 ((own_cnd ..).mp (by rw [← Jvm.RoadKit.if0]; exact hc)))
  | false => exact Go.step (fun hb T target X st => XS.ifNo X hb.1 rfl (own_dec hd hb hi) rfl hc st) (k2 fun z => by rw [Jvm.RoadKit.if0, (own_cnd ..).mpr z] at hc; cases hc)
theorem Go.nullYes (hd : Dec B.bytes tb) (i : Nat) {o : Int} (hi : tb[i]? = some (pc, .ifnull o, 3)) (ho : 0 ≤ (pc : Int) + o) (hp : ((pc : Int) + o).toNat = pc') (k : Go A B D Q pc' L rest F G cells slots) : Go A B D Q pc L (.null :: rest) F G cells slots :=
  Go.step (fun hb T target X st => XS.ifnullYes X hb.1 rfl rfl (own_dec hd hb hi) rfl ho hp st) k
theorem Go.nullNo (hd : Dec B.bytes tb) (i : Nat) {o : Int} {a : Addr} (hi : tb[i]? = some (pc, .ifnull o, 3)) (k : Go A B D Q (pc + 3) L rest F G cells slots) : Go A B D Q pc L (.ref a :: rest) F G cells slots :=
  Go.step (fun hb T target X st => XS.ifnullNo X hb.1 rfl (own_dec hd hb hi) rfl st) k
theorem Go.nonnullYes (hd : Dec B.bytes tb) (i : Nat) {o : Int} {a : Addr} (hi : tb[i]? = some (pc, .ifnonnull o, 3)) (ho : 0 ≤ (pc : Int) + o) (hp : ((pc : Int) + o).toNat = pc') (k : Go A B D Q pc' L rest F G cells slots) : Go A B D Q pc L (.ref a :: rest) F G cells slots :=
  Go.step (fun hb T target X st => XT.ifnonnullYes X hb.1 rfl rfl (own_dec hd hb hi) rfl ho hp st) k
theorem Go.nonnullNo (hd : Dec B.bytes tb) (i : Nat) {o : Int} (hi : tb[i]? = some (pc, .ifnonnull o, 3)) (k : Go A B D Q (pc + 3) L rest F G cells slots) : Go A B D Q pc L (.null :: rest) F G cells slots :=
  Go.step (fun hb T target X st => XT.ifnonnullNo X hb.1 rfl (own_dec hd hb hi) rfl st) k
theorem Go.acmp (hd : Dec B.bytes tb) (i : Nat) {cd : ACond} {o : Int} {x y : Value} (hi : tb[i]? = some (pc, .if_acmp cd o, 3)) (hx' : x.isRef = true) (hy' : y.isRef = true) (ho : 0 ≤ (pc : Int) + o) (hp : ((pc : Int) + o).toNat = pc')
    (k1 : XT.acmp cd x y = true → Go A B D Q pc' L rest F G cells slots) (k2 : XT.acmp cd x y = false → Go A B D Q (pc + 3) L rest F G cells slots) : Go A B D Q pc L (y :: x :: rest) F G cells slots := by
  cases hc : XT.acmp cd x y with
  | true => exact Go.step (fun hb T target X st => XT.acmpYes X hb.1 rfl rfl (own_dec hd hb hi) rfl hx' hy' hc ho hp st) (k1 hc)
  | false => exact Go.step (fun hb T target X st => XT.acmpNo X hb.1 rfl (own_dec hd hb hi) rfl hx' hy' hc st) (k2 hc)
theorem Go.irem (hd : Dec B.bytes tb) (i : Nat) {x y : Int32} (hi : tb[i]? = some (pc, .irem, 1)) (hy : y ≠ 0) (k : Go A B D Q (pc + 1) L (.int (x % y) :: rest) F G cells slots) : Go A B D Q pc L (.int y :: .int x :: rest) F G cells slots :=
  Go.step (fun hb T target X st => XS.irem X hb.1 rfl (own_dec hd hb hi) rfl hy (by rw [irem_eq_mod]; exact st)) k
theorem Go.idiv (hd : Dec B.bytes tb) (i : Nat) {x y : Int32} (hi : tb[i]? = some (pc, .idiv, 1)) (hy : y ≠ 0) (k : Go A B D Q (pc + 1) L (.int (x / y) :: rest) F G cells slots) : Go A B D Q pc L (.int y :: .int x :: rest) F G cells slots :=
  Go.step (fun hb T target X st => XS.idiv X hb.1 rfl (own_dec hd hb hi) rfl hy st) k
theorem Go.tswIn (hd : Dec B.bytes tb) (i : Nat) {dflt low high o : Int} {offs : Array Int} {len : Nat} {x : Int32} (hi : tb[i]? = some (pc, .tableswitch dflt low high offs, len)) (hin : ¬ (x.toInt < low ∨ x.toInt > high)) (hoff : offs[(x.toInt - low).toNat]? = some o)
    (ho : 0 ≤ (pc : Int) + o) (hp : ((pc : Int) + o).toNat = pc') (k : Go A B D Q pc' L rest F G cells slots) : Go A B D Q pc L (.int x :: rest) F G cells slots :=
  Go.step (fun hb T target X st => XS.tswIn X hb.1 rfl rfl (own_dec hd hb hi) rfl hin hoff ho hp st) k
theorem Go.tswOut (hd : Dec B.bytes tb) (i : Nat) {dflt low high : Int} {offs : Array Int} {len : Nat} {x : Int32} (hi : tb[i]? = some (pc, .tableswitch dflt low high offs, len)) (hout : x.toInt < low ∨ x.toInt > high)
    (ho : 0 ≤ (pc : Int) + dflt) (hp : ((pc : Int) + dflt).toNat = pc') (k : Go A B D Q pc' L rest F G cells slots) : Go A B D Q pc L (.int x :: rest) F G cells slots :=
  Go.step (fun hb T target X st => XS.tswOut X hb.1 rfl rfl (own_dec hd hb hi) rfl hout ho hp st) k
/-! constants of the pool -/
theorem Go.ldcI (hd : Dec B.bytes tb) (i : Nat) {ix : Nat} {v : Int32} (hi : tb[i]? = some (pc, .ldc ix, 2)) (w : (Cond.constant B.y.cls ix v).before A.a0 A.Z = true) (k : Go A B D Q (pc + 2) L (.int v :: S) F G cells slots) : Go A B D Q pc L S F G cells slots :=
  Go.stay (fun hb T vm0 locs X hZ hown H => ⟨T, X, rfl, fun target st => X.ldcI hb.1 hown (mv (s := D.s.setVm vm0) hZ w) rfl (own_dec hd hb hi) st⟩) k
theorem Go.ldc2J (hd : Dec B.bytes tb) (i : Nat) {ix : Nat} {v : Int64} (hi : tb[i]? = some (pc, .ldc2_w ix, 3)) (w : (Cond.constantLong B.y.cls ix v).before A.a0 A.Z = true) (k : Go A B D Q (pc + 3) L (.long v :: S) F G cells slots) : Go A B D Q pc L S F G cells slots :=
  Go.stay (fun hb T vm0 locs X hZ hown H => ⟨T, X, rfl, fun target st => X.ldc2J hb.1 hown (mv (s := D.s.setVm vm0) hZ w) rfl (own_dec hd hb hi) st⟩) k
/-! fields -/
theorem Go.getfield (hd : Dec B.bytes tb) (i : Nat) {ix : Nat} {a : Addr} {C O n d : String} {v : Value} {fs : List (String × String × String × Value)} (hi : tb[i]? = some (pc, .getfield ix, 3)) (w : (Cond.fieldLink B.y.cls ix O n d).before A.a0 A.Z = true)
    (m : (a, ObjP A C fs) ∈ F ∨ (a, ObjP A C fs) ∈ G) (hf : (O, n, d, v) ∈ fs) (k : Go A B D Q (pc + 3) L (v :: rest) F G cells slots) : Go A B D Q pc L (.ref a :: rest) F G cells slots :=
  Go.stay (fun hb T vm0 locs X hZ hown H => by
    obtain ⟨c, e, P⟩ := H.at m
    obtain ⟨T', X', e', st⟩ := getF X hb.1 hZ hown (host := "") (Or.inl w) Via.refl rfl ((P.2 _ hf).fld P.1 e) (g := mkF D.m pc L.toArray (.ref a :: rest)) rfl rfl (own_dec hd hb hi)
    exact ⟨T', X', e', st⟩) k
theorem Go.getfieldVia (hd : Dec B.bytes tb) (i : Nat) {ix : Nat} {a : Addr} {C O R0 n d : String} {v : Value} {fs : List (String × String × String × Value)} (hi : tb[i]? = some (pc, .getfield ix, 3)) (w : (Cond.fieldLink B.y.cls ix R0 n d).before A.a0 A.Z = true) (via : Via A.Z R0 O n d)
    (m : (a, ObjP A C fs) ∈ F ∨ (a, ObjP A C fs) ∈ G) (hf : (O, n, d, v) ∈ fs) (k : Go A B D Q (pc + 3) L (v :: rest) F G cells slots) : Go A B D Q pc L (.ref a :: rest) F G cells slots :=
  Go.stay (fun hb T vm0 locs X hZ hown H => by
    obtain ⟨c, e, P⟩ := H.at m
    obtain ⟨T', X', e', st⟩ := getF X hb.1 hZ hown (host := "") (Or.inl w) via rfl ((P.2 _ hf).fld P.1 e) (g := mkF D.m pc L.toArray (.ref a :: rest)) rfl rfl (own_dec hd hb hi)
    exact ⟨T', X', e', st⟩) k
theorem Go.getstatic (hd : Dec B.bytes tb) (i : Nat) {ix : Nat} {O n d : String} {v : Value} (hi : tb[i]? = some (pc, .getstatic ix, 3)) (w : (Cond.fieldLink B.y.cls ix O n d).before A.a0 A.Z = true) (s : Sta A.Z A.Z.heap O n d v)
    (k : Go A B D Q (pc + 3) L (v :: S) F G cells slots) : Go A B D Q pc L S F G cells slots :=
  Go.stay (fun hb T vm0 locs X hZ hown H => by
    obtain ⟨T', X', e', st⟩ := getS X hb.1 hZ (host := "") hown w Via.refl rfl (s.ext H.1) (g := mkF D.m pc L.toArray S) rfl (own_dec hd hb hi)
    exact ⟨T', X', e', st⟩) k
/-- a step that writes one slot of the first owned cell -/
theorem Go.wrote {a : Addr} {P P' : Cell → Prop} {sl : Nat} {v : Value}
    (h : Bdy A B D → ∀ (T : State) (vm0 : Vm) (locs : List Loc) (c : Cell), Stand D.p A.l D.e B.rm (D.s.setVm vm0) D.m D.args D.below D.meth D.c T locs cells slots → A.Z.Warmed39 vm0 → vm0.findClass B.y.cls = some D.m.cls → T.heap[a]? = some c → P c →
      ∃ T' h', Stand D.p A.l D.e B.rm (D.s.setVm vm0) D.m D.args D.below D.meth D.c T' (locs ++ [⟨a, sl⟩]) cells slots ∧ T'.heap = h' ∧ Wr T.heap h' a sl v ∧ ∀ target, Steps D.p.tables D.e D.below (T'.setTop (mkF D.m pc' L'.toArray S')) target → Steps D.p.tables D.e D.below (T.setTop (mkF D.m pc L.toArray S)) target)
    (hp : ∀ c, P c → P' (c.setSlot sl v)) (k : Go A B D Q pc' L' S' ((a, P') :: F) G cells slots) : Go A B D Q pc L S ((a, P) :: F) G cells slots := fun hb T hT => by
  obtain ⟨vm0, k0, locs, X, hZ, hown, hS, hk, N, C, H⟩ := hT
  obtain ⟨c, e, p⟩ := H.at (a := a) (P := P) (Or.inl (List.mem_cons_self ..))
  obtain ⟨T', h', X', e', W, st⟩ := h hb T vm0 locs c X hZ hown e p
  have sa := H.2.2.2.2 _ (List.mem_cons_self ..)
  obtain ⟨s₂, o, st', r⟩ := k hb T' ⟨vm0, k0, _, X', hZ, hown, hS, by rw [e', W.size]; exact hk, ⟨Fr.snoc X' N.1 sa.1, N.2⟩, by rw [e']; exact C.trans (CHr.wr W sa.2.1 C.1), by rw [e']; exact H.wr C.1 W hp⟩
  exact ⟨s₂, o, st _ st', r⟩
theorem Go.putfield (hd : Dec B.bytes tb) (i : Nat) {ix kk : Nat} {a : Addr} {C O n d : String} {v w0 : Value} {fs fs' : List (String × String × String × Value)} {ty : FieldType} (hi : tb[i]? = some (pc, .putfield ix, 3)) (w : (Cond.fieldLink B.y.cls ix O n d).before A.a0 A.Z = true)
    (hl : (Cond.lays C O n d).before A.a0 A.Z = true ∨ ((Cond.laysFinal C O n d).before A.a0 A.Z = true ∧ B.y.cls = O ∧ B.y.name = "<init>")) (wi : (Cond.instantiable C kk).before A.a0 A.Z = true) (hty : parseFieldDescriptor d = some ty) (hn : narrow ty v = v) (hfi : fits ty v = true)
    (hm : (O, n, d, w0) ∈ fs) (hf : ∀ q ∈ fs', q = (O, n, d, v) ∨ (q ∈ fs ∧ q.2.1 ≠ n)) (k : Go A B D Q (pc + 3) L rest ((a, ObjP A C fs') :: F) G cells slots) : Go A B D Q pc L (v :: .ref a :: rest) ((a, ObjP A C fs) :: F) G cells slots :=
  Go.wrote (fun hb T vm0 locs c X hZ hown e P => by
    obtain ⟨T', h', X', e', W, st⟩ := putF X hb.1 hZ hown (host := "") (Or.inl w) Via.refl rfl ((P.2 _ hm).fld P.1 e) (P.1.exa e) (hl.imp id fun q => ⟨q.1, q.2.1, hb.2.2.2.2.1.trans q.2.2⟩) wi hty hn hfi (g := mkF D.m pc L.toArray (v :: .ref a :: rest)) rfl rfl (own_dec hd hb hi)
    exact ⟨T', h', X', e', W, st⟩) (fun c P => P.set hm hf) k
/-! arrays -/
theorem own_len {n : Nat} {z : Int32} (h : (n : Int) = z.toInt) : n.toInt32 = z := by
  rw [← Int32.toInt_inj]
  have h1 := z.toInt_lt
  rw [Int32.toInt_ofNat_small (by omega)]; exact h
theorem Go.arraylength (hd : Dec B.bytes tb) (i : Nat) {a : Addr} {ty : FieldType} {vs : List Value} {z : Int32} (hi : tb[i]? = some (pc, .arraylength, 1)) (m : (a, ArrP A ty vs) ∈ F ∨ (a, ArrP A ty vs) ∈ G) (hz : (vs.length : Int) = z.toInt)
    (k : Go A B D Q (pc + 1) L (.int z :: rest) F G cells slots) : Go A B D Q pc L (.ref a :: rest) F G cells slots :=
  Go.stay (fun hb T vm0 locs X hZ hown H => by
    obtain ⟨c, e, P⟩ := H.at m
    refine ⟨T, X, rfl, fun target st => X.arraylength hb.1 e (State.isArrayOf_alike (T := D.s.setVm vm0) hZ.alike P.1) (g := mkF D.m pc L.toArray (.ref a :: rest)) rfl rfl (own_dec hd hb hi) target ?_⟩
    rw [P.size, own_len hz]; exact st) k
theorem own_get {A : Ax} {ty : FieldType} {vs : List Value} {c : Cell} {j : Int32} {v : Value} (P : ArrP A ty vs c) (h : InB j vs.length) (hv : vs[j.toInt.toNat]? = some v) : ¬ (j < 0 ∨ c.slots.size ≤ j.toNatClampNeg) ∧ c.slots[j.toNatClampNeg]? = some v :=
  ⟨by rw [P.size]; exact h.in, by rw [P.get]; exact hv⟩
theorem Go.caload (hd : Dec B.bytes tb) (i : Nat) {a : Addr} {vs : List Value} {j : Int32} {v : Value} (hi : tb[i]? = some (pc, .caload, 1)) (m : (a, ArrP A .char vs) ∈ F ∨ (a, ArrP A .char vs) ∈ G) (h : InB j vs.length) (hv : vs[j.toInt.toNat]? = some v)
    (k : Go A B D Q (pc + 1) L (v :: rest) F G cells slots) : Go A B D Q pc L (.int j :: .ref a :: rest) F G cells slots :=
  Go.stay (fun hb T vm0 locs X hZ hown H => by
    obtain ⟨c, e, P⟩ := H.at m
    exact ⟨T, X, rfl, fun target st => X.caload hb.1 e (State.isArrayOf_alike (T := D.s.setVm vm0) hZ.alike P.1) P.2.1 (own_get P h hv).1 (own_get P h hv).2 (g := mkF D.m pc L.toArray (.int j :: .ref a :: rest)) rfl rfl (own_dec hd hb hi) target st⟩) k
theorem Go.iaload (hd : Dec B.bytes tb) (i : Nat) {a : Addr} {vs : List Value} {j : Int32} {v : Value} (hi : tb[i]? = some (pc, .iaload, 1)) (m : (a, ArrP A .int vs) ∈ F ∨ (a, ArrP A .int vs) ∈ G) (h : InB j vs.length) (hv : vs[j.toInt.toNat]? = some v)
    (k : Go A B D Q (pc + 1) L (v :: rest) F G cells slots) : Go A B D Q pc L (.int j :: .ref a :: rest) F G cells slots :=
  Go.stay (fun hb T vm0 locs X hZ hown H => by
    obtain ⟨c, e, P⟩ := H.at m
    exact ⟨T, X, rfl, fun target st => X.iaload hb.1 e (State.isArrayOf_alike (T := D.s.setVm vm0) hZ.alike P.1) P.2.1 (own_get P h hv).1 (own_get P h hv).2 (g := mkF D.m pc L.toArray (.int j :: .ref a :: rest)) rfl rfl (own_dec hd hb hi) target st⟩) k
theorem Go.laload (hd : Dec B.bytes tb) (i : Nat) {a : Addr} {vs : List Value} {j : Int32} {v : Value} (hi : tb[i]? = some (pc, .laload, 1)) (m : (a, ArrP A .long vs) ∈ F ∨ (a, ArrP A .long vs) ∈ G) (h : InB j vs.length) (hv : vs[j.toInt.toNat]? = some v)
    (k : Go A B D Q (pc + 1) L (v :: rest) F G cells slots) : Go A B D Q pc L (.int j :: .ref a :: rest) F G cells slots :=
  Go.stay (fun hb T vm0 locs X hZ hown H => by
    obtain ⟨c, e, P⟩ := H.at m
    exact ⟨T, X, rfl, fun target st => X.laload hb.1 e (State.isArrayOf_alike (T := D.s.setVm vm0) hZ.alike P.1) P.2.1 (own_get P h hv).1 (own_get P h hv).2 (g := mkF D.m pc L.toArray (.int j :: .ref a :: rest)) rfl rfl (own_dec hd hb hi) target st⟩) k
theorem Go.baload (hd : Dec B.bytes tb) (i : Nat) {a : Addr} {vs : List Value} {j : Int32} {v : Value} (hi : tb[i]? = some (pc, .baload, 1)) (m : (a, ArrP A .byte vs) ∈ F ∨ (a, ArrP A .byte vs) ∈ G) (h : InB j vs.length) (hv : vs[j.toInt.toNat]? = some v)
    (k : Go A B D Q (pc + 1) L (v :: rest) F G cells slots) : Go A B D Q pc L (.int j :: .ref a :: rest) F G cells slots :=
  Go.stay (fun hb T vm0 locs X hZ hown H => by
    obtain ⟨c, e, P⟩ := H.at m
    exact ⟨T, X, rfl, fun target st => X.baloadBytes hb.1 e (State.isArrayOf_alike (T := D.s.setVm vm0) hZ.alike P.1) P.2.1 (own_get P h hv).1 (own_get P h hv).2 (g := mkF D.m pc L.toArray (.int j :: .ref a :: rest)) rfl rfl (own_dec hd hb hi) target st⟩) k
theorem Go.zaload (hd : Dec B.bytes tb) (i : Nat) {a : Addr} {vs : List Value} {j : Int32} {v : Value} (hi : tb[i]? = some (pc, .baload, 1)) (m : (a, ArrP A .boolean vs) ∈ F ∨ (a, ArrP A .boolean vs) ∈ G) (h : InB j vs.length) (hv : vs[j.toInt.toNat]? = some v)
    (k : Go A B D Q (pc + 1) L (v :: rest) F G cells slots) : Go A B D Q pc L (.int j :: .ref a :: rest) F G cells slots :=
  Go.stay (fun hb T vm0 locs X hZ hown H => by
    obtain ⟨c, e, P⟩ := H.at m
    exact ⟨T, X, rfl, fun target st => X.baloadBooleans hb.1 e (State.isArrayOf_alike (T := D.s.setVm vm0) hZ.alike P.1) P.2.1 (own_get P h hv).1 (own_get P h hv).2 (g := mkF D.m pc L.toArray (.int j :: .ref a :: rest)) rfl rfl (own_dec hd hb hi) target st⟩) k
theorem Go.aaload (hd : Dec B.bytes tb) (i : Nat) {a : Addr} {ty : FieldType} {vs : List Value} {j : Int32} {v : Value} (hi : tb[i]? = some (pc, .aaload, 1)) (ht : ty.isReference = true) (m : (a, ArrP A ty vs) ∈ F ∨ (a, ArrP A ty vs) ∈ G) (h : InB j vs.length) (hv : vs[j.toInt.toNat]? = some v)
    (k : Go A B D Q (pc + 1) L (v :: rest) F G cells slots) : Go A B D Q pc L (.int j :: .ref a :: rest) F G cells slots :=
  Go.stay (fun hb T vm0 locs X hZ hown H => by
    obtain ⟨c, e, P⟩ := H.at m
    exact ⟨T, X, rfl, fun target st => X.aaload hb.1 e (State.isArrayOf_alike (T := D.s.setVm vm0) hZ.alike P.1) ht P.2.1 (own_get P h hv).1 (own_get P h hv).2 (g := mkF D.m pc L.toArray (.int j :: .ref a :: rest)) rfl rfl (own_dec hd hb hi) target st⟩) k
theorem Go.castore (hd : Dec B.bytes tb) (i : Nat) {a : Addr} {vs vs' : List Value} {j x : Int32} (hi : tb[i]? = some (pc, .castore, 1)) (h : InB j vs.length) (hv : vs.set j.toInt.toNat (.int (chr16 x)) = vs')
    (k : Go A B D Q (pc + 1) L rest ((a, ArrP A .char vs') :: F) G cells slots) : Go A B D Q pc L (.int x :: .int j :: .ref a :: rest) ((a, ArrP A .char vs) :: F) G cells slots :=
  Go.wrote (fun hb T vm0 locs c X hZ hown e P => by
    obtain ⟨T', h', X', e', W, st⟩ := stC X hb.1 hZ rfl (cl := c) ⟨e, P.1, P.2.1⟩ (by rw [P.size]; exact h.in) (g := mkF D.m pc L.toArray (.int x :: .int j :: .ref a :: rest)) rfl rfl (own_dec hd hb hi)
    exact ⟨T', h', X', e', W, st⟩) (fun c P => by rw [← hv]; exact P.set _ _) k
theorem Go.bastore (hd : Dec B.bytes tb) (i : Nat) {a : Addr} {vs vs' : List Value} {j x : Int32} (hi : tb[i]? = some (pc, .bastore, 1)) (h : InB j vs.length) (hv : vs.set j.toInt.toNat (.int (byt8 x)) = vs')
    (k : Go A B D Q (pc + 1) L rest ((a, ArrP A .byte vs') :: F) G cells slots) : Go A B D Q pc L (.int x :: .int j :: .ref a :: rest) ((a, ArrP A .byte vs) :: F) G cells slots :=
  Go.wrote (fun hb T vm0 locs c X hZ hown e P => by
    obtain ⟨T', h', X', e', W, st⟩ := stB X hb.1 hZ rfl (cl := c) ⟨e, P.1, P.2.1⟩ (by rw [P.size]; exact h.in) (g := mkF D.m pc L.toArray (.int x :: .int j :: .ref a :: rest)) rfl rfl (own_dec hd hb hi)
    exact ⟨T', h', X', e', W, st⟩) (fun c P => by rw [← hv]; exact P.set _ _) k
theorem Go.zastore (hd : Dec B.bytes tb) (i : Nat) {a : Addr} {vs vs' : List Value} {j x : Int32} (hi : tb[i]? = some (pc, .bastore, 1)) (h : InB j vs.length) (hv : vs.set j.toInt.toNat (.int (x &&& 1)) = vs')
    (k : Go A B D Q (pc + 1) L rest ((a, ArrP A .boolean vs') :: F) G cells slots) : Go A B D Q pc L (.int x :: .int j :: .ref a :: rest) ((a, ArrP A .boolean vs) :: F) G cells slots :=
  Go.wrote (fun hb T vm0 locs c X hZ hown e P => by
    obtain ⟨T', h', X', e', W, st⟩ := stZ X hb.1 hZ rfl (cl := c) ⟨e, P.1, P.2.1⟩ (by rw [P.size]; exact h.in) (g := mkF D.m pc L.toArray (.int x :: .int j :: .ref a :: rest)) rfl rfl (own_dec hd hb hi)
    exact ⟨T', h', X', e', W, st⟩) (fun c P => by rw [← hv]; exact P.set _ _) k
theorem Go.iastore (hd : Dec B.bytes tb) (i : Nat) {a : Addr} {vs vs' : List Value} {j x : Int32} (hi : tb[i]? = some (pc, .iastore, 1)) (h : InB j vs.length) (hv : vs.set j.toInt.toNat (.int x) = vs')
    (k : Go A B D Q (pc + 1) L rest ((a, ArrP A .int vs') :: F) G cells slots) : Go A B D Q pc L (.int x :: .int j :: .ref a :: rest) ((a, ArrP A .int vs) :: F) G cells slots :=
  Go.wrote (fun hb T vm0 locs c X hZ hown e P => by
    obtain ⟨T', h', X', e', W, st⟩ := stI X hb.1 hZ rfl (cl := c) ⟨e, P.1, P.2.1⟩ (by rw [P.size]; exact h.in) (g := mkF D.m pc L.toArray (.int x :: .int j :: .ref a :: rest)) rfl rfl (own_dec hd hb hi)
    exact ⟨T', h', X', e', W, st⟩) (fun c P => by rw [← hv]; exact P.set _ _) k
theorem Go.lastore (hd : Dec B.bytes tb) (i : Nat) {a : Addr} {vs vs' : List Value} {j : Int32} {x : Int64} (hi : tb[i]? = some (pc, .lastore, 1)) (h : InB j vs.length) (hv : vs.set j.toInt.toNat (.long x) = vs')
    (k : Go A B D Q (pc + 1) L rest ((a, ArrP A .long vs') :: F) G cells slots) : Go A B D Q pc L (.long x :: .int j :: .ref a :: rest) ((a, ArrP A .long vs) :: F) G cells slots :=
  Go.wrote (fun hb T vm0 locs c X hZ hown e P => by
    obtain ⟨T', h', X', e', W, st⟩ := stJ X hb.1 hZ rfl (cl := c) ⟨e, P.1, P.2.1⟩ (by rw [P.size]; exact h.in) (g := mkF D.m pc L.toArray (.long x :: .int j :: .ref a :: rest)) rfl rfl (own_dec hd hb hi)
    exact ⟨T', h', X', e', W, st⟩) (fun c P => by rw [← hv]; exact P.set _ _) k
end Own
/-! own_4: making cells, constants, calls, returns -/
section Own
variable {A : Ax} {B : Bx} {D : Dx} {Q : Pst} {pc pc' : Nat} {L L' : List Slot} {S S' rest : List Value} {F F' G G' : List Ent} {cells slots : Nat} {tb : List In1}
theorem Go.new (hd : Dec B.bytes tb) (i : Nat) {ix n : Nat} {C : String} {fs : List (String × String × String × Value)} (hi : tb[i]? = some (pc, .new ix, 3)) (w : (Cond.classLink B.y.cls ix C).before A.a0 A.Z = true) (wi : (Cond.instantiable C n).before A.a0 A.Z = true) (wz : (Cond.initialized C).before A.a0 A.Z = true)
    (hf : ∀ q ∈ fs, Laid A.Z A.a0 C q.1 q.2.1 q.2.2.1 ∧ ∃ t, parseFieldDescriptor q.2.2.1 = some t ∧ q.2.2.2 = defaultValue t) (hc : cells + 1 ≤ B.rm.cells) (hl : slots + n ≤ B.rm.slots)
    (k : ∀ a : Addr, Go A B D Q (pc + 3) L (.ref a :: S) ((a, ObjP A C fs) :: F) G (cells + 1) (slots + n)) : Go A B D Q pc L S F G cells slots := fun hb T hT => by
  obtain ⟨vm0, k0, locs, X, hZ, hown, hS, hk, N, Ch, H⟩ := hT
  obtain ⟨T', h', X', e', E, Ex, Df, ⟨cl, hcl, hv, -⟩, st⟩ := newO X hb.1 hZ hown w wi wz rfl (g := mkF D.m pc L.toArray S) rfl (own_dec hd hb hi) hc hl
  have hP : ObjP A C fs cl := by
    obtain ⟨c1, k1, q1, q2, q3, q4, q5⟩ := Ex
    cases hcl.symm.trans q1
    refine ⟨⟨k1, q2, q3, q4, by rw [hv]; simp, q5⟩, fun q m => ?_⟩
    obtain ⟨La, t, ht, hd⟩ := hf q m
    refine ⟨La, ⟨t, ht⟩, ?_⟩
    obtain ⟨c2, cf, kk, ii, f, g1, g2, -, -, -, -, g7⟩ := Df La ht
    cases hcl.symm.trans g1
    rw [hd, show Jvm.RoadKit.slotOf A.Z q.1 q.2.1 q.2.2.1 = f.slot by simp [Jvm.RoadKit.slotOf, g2]]; exact g7
  obtain ⟨s₂, o, st', r⟩ := k T.heap.size hb T' ⟨vm0, k0, _, X', hZ, hown, hS, by rw [e']; exact Nat.le_trans hk E.1, N, by rw [e']; exact Ch.trans (CHr.ext E Ch.1), by rw [e']; exact H.new Ch.1 E hcl hP⟩
  exact ⟨s₂, o, st _ st', r⟩
theorem Go.newarray (hd : Dec B.bytes tb) (i : Nat) {aty : ArrayType} {ty : FieldType} {n : Int32} {cap : Nat} {vs : List Value} (hi : tb[i]? = some (pc, .newarray aty, 2)) (ht : newarray.typeOf aty = ty) (w : (Cond.arrayClass ty).before A.a0 A.Z = true) (hn : 0 ≤ n.toInt) (hcap : n.toInt.toNat ≤ cap) (hb8 : cap * 8 ≤ 536870912)
    (hc : cells + 1 ≤ B.rm.cells) (hl : slots + cap ≤ B.rm.slots) (hv : List.replicate n.toInt.toNat (defaultValue ty) = vs)
    (k : ∀ a : Addr, Go A B D Q (pc + 2) L (.ref a :: rest) ((a, ArrP A ty vs) :: F) G (cells + 1) (slots + cap)) : Go A B D Q pc L (.int n :: rest) F G cells slots := fun hb T hT => by
  subst ht
  obtain ⟨vm0, k0, locs, X, hZ, hown, hS, hk, N, Ch, H⟩ := hT
  obtain ⟨T', h', cA, X', e', E, Ar, st⟩ := newP X hb.1 hZ w rfl (g := mkF D.m pc L.toArray (.int n :: rest)) rfl (own_dec hd hb hi) rfl (by rw [Int32.lt_iff_toInt_lt]; have : (0 : Int32).toInt = 0 := rfl; omega) (cap := cap) hcap hb8 hc hl
  have hP : ArrP A (newarray.typeOf aty) vs (newA cA (newarray.typeOf aty) n) := ⟨Ar.2.1, Ar.2.2, by rw [← hv]; simp [newA]⟩
  obtain ⟨s₂, o, st', r⟩ := k T.heap.size hb T' ⟨vm0, k0, _, X', hZ, hown, hS, by rw [e']; exact Nat.le_trans hk E.1, N, by rw [e']; exact Ch.trans (CHr.ext E Ch.1), by rw [e']; exact H.new Ch.1 E Ar.1 hP⟩
  exact ⟨s₂, o, st _ st', r⟩
/-- a String's cell, and its bytes' -/
abbrev StrE (A : Ax) (a b : Addr) (cd : Int32) : Ent := (a, ObjP A "java/lang/String" [("java/lang/String", "value", "[B", .ref b), ("java/lang/String", "coder", "B", .int cd)])
abbrev BytE (A : Ax) (b : Addr) (vs : List Value) : Ent := (b, ArrP A .byte vs)
theorem Go.ldcS (hd : Dec B.bytes tb) (i : Nat) {ix n : Nat} {text : String} {vs : List Value} (hi : tb[i]? = some (pc, .ldc ix, 2)) (w : (Cond.stringLink B.y.cls ix text).before A.a0 A.Z = true) (wS : ∀ a ∈ Bundle.stringAtoms, a.before A.a0 A.Z = true) (hm : (B.y.cls, ix) ∈ A.EL) (hwm : A.wm = true)
    (ht : (∀ c ∈ text.toList, c.toNat < 256) ∧ text.toList.map (fun c => Value.int (Jvm.Lit.byteI c.toNat.toUInt16)) = vs) (hlen : vs.length < 2 ^ 31) (hn : 4 * text.toList.length ≤ n) (hbig : n ≤ 536870912) (hc : cells + 2 ≤ B.rm.cells) (hl : slots + (n + 4) ≤ B.rm.slots)
    (k : ∀ a b : Addr, Go A B D Q (pc + 2) L (.ref a :: S) F (StrE A a b 0 :: BytE A b vs :: G) (cells + 2) (slots + (n + 4))) : Go A B D Q pc L S F G cells slots := fun hb T hT => by
  obtain ⟨vm0, k0, locs, X, hZ, hown, hS, hk, N, Ch, H⟩ := hT
  obtain ⟨a, T', h', k1, b, kb, X', e', E, hS', hk', hZ', hown', Ex, Fc, Fv, Av, -, -, C', -, ne, st⟩ := ldcCH X hb.1 hZ hown w wS rfl hS hk hb.2.2.2.2.2.2 hm Ch.1 (z := vs.length.toInt32) ht
    (by rw [Int32.lt_iff_toInt_lt, len_toInt hlen]; have : (0 : Int32).toInt = 0 := rfl; omega) (by simp only [Int32.toNatClampNeg, len_toInt hlen]; rfl) (g := mkF D.m pc L.toArray S) rfl (own_dec hd hb hi) hn hbig hc hl
  subst e'
  have C1 : CHr A.Z A.EL D.s.vm D.s.heap T'.vm T'.heap := Ch.trans C'
  have H1 := H.later C' E
  have lay : ∀ nm dd, (Cond.laysFinal "java/lang/String" "java/lang/String" nm dd) ∈ Bundle.stringAtoms → Laid A.Z A.a0 "java/lang/String" "java/lang/String" nm dd := fun nm dd q => Or.inr (wS _ q)
  have hv := lay "value" "[B" (by simp [Bundle.stringAtoms, Bundle.sN])
  have hcd := lay "coder" "B" (by simp [Bundle.stringAtoms, Bundle.sN])
  have H2 : Hp A.Z A.EL T'.vm T'.heap F (StrE A a b 0 :: BytE A b vs :: G) := by
    obtain ⟨h1, h2, h3, h4, h5⟩ := H1
    refine ⟨h1, h2, fun q m => ?_, h4, fun q m => ⟨(h5 q m).1, (h5 q m).2.1, fun r kk => ?_⟩⟩
    · rcases List.mem_cons.mp m with rfl | m
      · obtain ⟨c, e1, r⟩ := (show ∃ c : Cell, T'.heap[a]? = some c ∧ ∃ kk : Class, A.Z.vm.findClass "java/lang/String" = some c.cls ∧ A.Z.vm.classes[c.cls]? = some kk ∧ c.vm.isStatics = false ∧ (kk.kind = .ordinary → c.slots.size = kk.instanceTypes.size) by
          obtain ⟨c, kk, q1, q2, q3, q4, q5⟩ := Ex; exact ⟨c, q1, kk, q2, q3, q4, q5⟩)
        obtain ⟨kk, r1, r2, r3, r4⟩ := r
        obtain ⟨c2, cf, k2, i2, f2, g1, g2, g3, g4, g5, g6, g7⟩ := Fc
        obtain ⟨c3, cf3, k3, i3, f3, j1, j2, j3, j4, j5, j6, j7⟩ := Fv
        cases e1.symm.trans g1
        cases e1.symm.trans j1
        refine ⟨c, e1, ⟨kk, r1, r2, r3, g4, r4⟩, fun q mq => ?_⟩
        rcases List.mem_cons.mp mq with rfl | mq
        · exact ⟨hv, ⟨.array .byte, (by decide +kernel : parseFieldDescriptor "[B" = some (.array .byte))⟩, by rw [show Jvm.RoadKit.slotOf A.Z "java/lang/String" "value" "[B" = f3.slot by simp [Jvm.RoadKit.slotOf, j2]]; exact j7⟩
        · rcases List.mem_cons.mp mq with rfl | mq
          · exact ⟨hcd, ⟨.byte, (by decide +kernel : parseFieldDescriptor "B" = some .byte)⟩, by rw [show Jvm.RoadKit.slotOf A.Z "java/lang/String" "coder" "B" = f2.slot by simp [Jvm.RoadKit.slotOf, g2]]; exact g7⟩
          · cases mq
      · rcases List.mem_cons.mp m with rfl | m
        · obtain ⟨c, Ac, -, sz, -, hh, -⟩ := Av
          refine ⟨c, Ac.1, Ac.2.1, Ac.2.2, List.ext_getElem? fun j => ?_⟩
          have sz' : c.slots.size = vs.length := by rw [sz]; simp only [Int32.toNatClampNeg, len_toInt hlen]; rfl
          by_cases hj : j < c.slots.size
          · rw [Array.getElem?_toList, hh j hj, List.getD_eq_getElem?_getD, List.getElem?_eq_getElem (by omega)]; rfl
          · rw [Array.getElem?_toList, Array.getElem?_eq_none (by omega), List.getElem?_eq_none (by omega)]
        · exact h3 q m
    · have := ne q.1 (h5 q m).2.1
      rcases List.mem_cons.mp kk with rfl | kk
      · exact Ne.symm this.1
      · rcases List.mem_cons.mp kk with rfl | kk
        · exact Ne.symm this.2
        · exact (h5 q m).2.2 r kk
  obtain ⟨s₂, o, st', r⟩ := k a b hb T' ⟨T'.vm, k1, locs, X', hZ', hown', hS', hk', ⟨N.1, fun z => by rw [hwm] at z; cases z⟩, C1, H2⟩
  exact ⟨s₂, o, st _ st', r⟩
theorem own_subS {q : Ent} {G0 G1 : List Ent} (h : q ∈ G1) (r : ∀ x ∈ G0, x ∈ G1) : ∀ x ∈ q :: G0, x ∈ G1 := fun x m => by
  rcases List.mem_cons.mp m with rfl | m
  · exact h
  · exact r x m
/-! calls -/
theorem own_back {B' : Bx} {as' : Array Value} {Qc : Pst} {len W : Nat} {vm0 : Vm} {h : Heap} (hM : Met A B' as' F G Qc) (hEL : EW A.Z A.a0 A.EL) (hZ : A.Z.Warmed39 vm0) (C : CHv A.Z A.EL vm0 h) (H : Hp A.Z A.EL vm0 h F G) (wc : (Cond.code B'.y B'.bytes B'.maxL B'.ret).before A.a0 A.Z = true) (wz : (Cond.initialized B'.y.cls).before A.a0 A.Z = true)
    (hf : B'.rm.frames + 1 ≤ B.rm.frames) (hl : W + (B'.maxL + 11) + B'.rm.locals ≤ B.rm.locals) :
    BackS A.l B.rm D.p D.e D.below (D.s.setVm vm0) D.args B'.y len W (fun X a => a = as' ∧ X.U.heap = h ∧ X.cells + B'.rm.cells ≤ B.rm.cells ∧ X.slots + B'.rm.slots ≤ B.rm.slots)
      (fun X _ v Y => ∃ L F' G', Qc v F' G' ∧ Hp A.Z A.EL Y.U.vm Y.U.heap F' G' ∧ (Fr A.Z.heap.size L ∧ (A.wm = false → X.U.WarmedH Y.U.vm)) ∧ Y.locs = X.locs ++ L ∧ Y.cells = X.cells + B'.rm.cells ∧ Y.slots = X.slots + B'.rm.slots ∧ CHr A.Z A.EL vm0 h Y.U.vm Y.U.heap) :=
  BackS.of_freeW (bytes := B'.bytes) (maxL := B'.maxL) (ret := B'.ret)
    (E := fun _ first o t L kc ks => kc = B'.rm.cells ∧ ks = B'.rm.slots ∧ (∃ v F' G', o = .returned v ∧ Qc v F' G' ∧ Hp A.Z A.EL t.vm t.heap F' G') ∧ (Fr A.Z.heap.size L ∧ (A.wm = false → first.WarmedH t.vm)) ∧ CHr A.Z A.EL first.vm first.heap t.vm t.heap) hM hf hl
    (fun m meth c X a Y hp => have hU : A.Z.Warmed39 X.U.vm := wtrans (s := D.s.setVm vm0) hZ Y.warmed
      ⟨by show (Cond.and _ .tt).before a X.U = true; rw [Cond.before_and, mv hU wc]; rfl, mv hU wc, mv hU wz, hp.2.2.1, hp.2.2.2⟩)
    (fun m meth c X a g mk Y hp => have Q1 := CHv.at Y hZ hEL C
      ⟨hp.1, wtrans (s := D.s.setVm vm0) hZ Y.warmed, by show CHv A.Z A.EL X.U.vm X.U.heap; rw [hp.2.1]; exact Q1.1, by show Hp A.Z A.EL X.U.vm X.U.heap F G; rw [hp.2.1]; exact H.later Q1 (own_ext_refl _)⟩)
    (fun _ _ _ _ _ _ _ _ _ => trivial)
    (fun _ _ _ _ ⟨v, L, F', G', h1, h2, h3, h4, h5, h6⟩ => ⟨L, _, _, h6, rfl, rfl, ⟨v, F', G', h1, h2, h3⟩, h4, h5⟩)
    (fun m meth c X a g mk v t L kc ks Y hp _ _ ⟨e1, e2, ⟨v', F', G', e3, e4, e5⟩, e6, e7⟩ => by
      cases e3; subst e1 e2
      refine ⟨L, F', G', e4, e5, e6, rfl, rfl, rfl, (CHv.at Y hZ hEL C).trans ?_⟩
      rw [← hp.2.1]; exact e7)
/-- behind a call -/
theorem own_after {B' : Bx} {Qc : Pst} {U0 : State} {pc1 : Nat} {vm0 : Vm} {k0 : Nat} {locs : List Loc} {T : State} {v : Option Value} {P : Pt} (k : ∀ v F' G', Qc v F' G' → Go A B D Q pc1 L (v.toList ++ rest) F' G' (cells + B'.rm.cells) (slots + B'.rm.slots)) (hb : Bdy A B D) (hZ : A.Z.Warmed39 vm0) (hown : vm0.findClass B.y.cls = some D.m.cls) (hS : D.s.Since vm0 k0) (hk : k0 ≤ T.heap.size) (N : Fr A.Z.heap.size locs ∧ (A.wm = false → D.s.WarmedH vm0)) (hU0 : (D.s.setVm vm0).WarmedH U0.vm) (C : CHr A.Z A.EL D.s.vm D.s.heap vm0 T.heap)
    (X' : Stand D.p A.l D.e B.rm ((D.s.setVm vm0).setVm P.U.vm) D.m D.args D.below D.meth D.c P.U P.locs P.cells P.slots) (hS2 : (D.s.setVm vm0).Since P.U.vm P.U.heap.size) (hg : T.heap.size ≤ P.U.heap.size)
    (hp : ∃ L F' G', Qc v F' G' ∧ Hp A.Z A.EL P.U.vm P.U.heap F' G' ∧ (Fr A.Z.heap.size L ∧ (A.wm = false → U0.WarmedH P.U.vm)) ∧ P.locs = locs ++ L ∧ P.cells = cells + B'.rm.cells ∧ P.slots = slots + B'.rm.slots ∧ CHr A.Z A.EL vm0 T.heap P.U.vm P.U.heap)
    (hsteps : Steps D.p.tables D.e D.below (T.setTop (mkF D.m pc L.toArray S)) (P.U.setTop (mkF D.m pc1 L.toArray (v.toList ++ rest)))) :
    ∃ s₂ o, Steps D.p.tables D.e D.below (T.setTop (mkF D.m pc L.toArray S)) s₂ ∧ s₂.status = .running ∧ Ended s₂ D.below o ∧ Fin A B.rm D.below D.s Q o s₂ := by
  obtain ⟨L1, F', G', hq, H', N1, e1, e2, e3, C1⟩ := hp
  obtain ⟨U, Ls, cc, ss⟩ := P
  dsimp only [Pt.U, Pt.locs, Pt.cells, Pt.slots] at *
  subst e1 e2 e3
  obtain ⟨s₂, o, st', r⟩ := k v F' G' hq hb U ⟨U.vm, U.heap.size, _, X', State.Warmed39.trans (t := D.s.setVm vm0) hZ hS2.1, by rw [hS2.1.alike.findClass]; exact hown, hS.trans hS2 (Nat.le_trans hk hg), Nat.le_refl _, ⟨N.1.app N1.1, fun z => State.WarmedH.trans (t := D.s.setVm vm0) (N.2 z) (State.WarmedH.trans hU0 (N1.2 z))⟩, C.trans C1, H'⟩
  exact ⟨s₂, o, hsteps.trans st', r⟩
theorem Go.callS (hd : Dec B.bytes tb) (i : Nat) {ix W : Nat} {B' : Bx} {argsL : List Value} {as' : Array Value} {Qc : Pst} {ps : List FieldType} {rt : Option FieldType} (hi : tb[i]? = some (pc, .invokestatic ix, 3)) (hM : Met A B' as' F G Qc) (w1 : (Cond.methodLink B.y.cls ix B'.y).before A.a0 A.Z = true) (w2 : (Cond.static B'.y).before A.a0 A.Z = true) (wz : (Cond.initialized B'.y.cls).before A.a0 A.Z = true) (wc : (Cond.code B'.y B'.bytes B'.maxL B'.ret).before A.a0 A.Z = true)
    (hy : B'.y.cls ≠ "java/lang/invoke/MethodHandle" ∧ B'.y.cls ≠ "java/lang/invoke/VarHandle") (hds : parseMethodDescriptor B'.y.desc = some ⟨ps, rt⟩) (has : argsL.toArray = as') (hlen : argsL.length = ps.length) (hstk : S = argsL.reverse ++ rest) (hL : L.length = B.maxL) (hW : (rest.map fun v => v.category).sum ≤ W)
    (hf : B'.rm.frames + 1 ≤ B.rm.frames) (hl : W + (B'.maxL + 11) + B'.rm.locals ≤ B.rm.locals) (hc : cells + B'.rm.cells ≤ B.rm.cells) (hs : slots + B'.rm.slots ≤ B.rm.slots)
    (k : ∀ v F' G', Qc v F' G' → Go A B D Q (pc + 3) L (v.toList ++ rest) F' G' (cells + B'.rm.cells) (slots + B'.rm.slots)) : Go A B D Q pc L S F G cells slots := fun hb T hT => by
  subst hstk
  obtain ⟨vm0, k0, locs, X, hZ, hown, hS, hk, N, Ch, H⟩ := hT
  obtain ⟨v, vm1, P, hU0, X', hS2, hg, hp, hsteps⟩ := callSS X hb.1 hown (mv (s := D.s.setVm vm0) hZ w1) (mv (s := D.s.setVm vm0) hZ w2) (mv (s := D.s.setVm vm0) hZ wz) (mv (s := D.s.setVm vm0) hZ wc) hy (own_back (W := W) hM hb.2.2.2.2.2.2 hZ Ch.1 H wc wz hf hl) (g := mkF D.m pc L.toArray (argsL.reverse ++ rest)) rfl (by rw [hb.2.2.1, ← hL]; simp)
    (lenOf hds hlen) rfl (by show 2 * 0 + _ ≤ _; omega) (own_dec hd hb hi) (fun _ _ => ⟨has, rfl, hc, hs⟩)
  exact own_after (U0 := T.setVm vm1) k hb hZ hown hS hk N hU0 Ch X' hS2 hg hp hsteps
theorem Go.callN (hd : Dec B.bytes tb) (i : Nat) {ix W : Nat} {B' : Bx} {a : Addr} {argsL : List Value} {as' : Array Value} {Qc : Pst} {ps : List FieldType} {rt : Option FieldType} (hi : tb[i]? = some (pc, .invokespecial ix, 3)) (hM : Met A B' as' F G Qc) (hy1 : B'.y.name = "<init>") (hr : B'.ret = none) (w1 : (Cond.methodLink B.y.cls ix B'.y).before A.a0 A.Z = true) (w2 : (Cond.instanceMethod B'.y).before A.a0 A.Z = true) (wz : (Cond.initialized B'.y.cls).before A.a0 A.Z = true) (wc : (Cond.code B'.y B'.bytes B'.maxL B'.ret).before A.a0 A.Z = true)
    (hy : B'.y.cls ≠ "java/lang/invoke/MethodHandle" ∧ B'.y.cls ≠ "java/lang/invoke/VarHandle") (hds : parseMethodDescriptor B'.y.desc = some ⟨ps, rt⟩) (has : (Value.ref a :: argsL).toArray = as') (hlen : argsL.length = ps.length) (hstk : S = argsL.reverse ++ .ref a :: rest) (hL : L.length = B.maxL) (hW : (rest.map fun v => v.category).sum ≤ W)
    (hf : B'.rm.frames + 1 ≤ B.rm.frames) (hl : W + (B'.maxL + 11) + B'.rm.locals ≤ B.rm.locals) (hc : cells + B'.rm.cells ≤ B.rm.cells) (hs : slots + B'.rm.slots ≤ B.rm.slots)
    (k : ∀ v F' G', Qc v F' G' → Go A B D Q (pc + 3) L (v.toList ++ rest) F' G' (cells + B'.rm.cells) (slots + B'.rm.slots)) : Go A B D Q pc L S F G cells slots := fun hb T hT => by
  subst hstk
  obtain ⟨vm0, k0, locs, X, hZ, hown, hS, hk, N, Ch, H⟩ := hT
  obtain ⟨v, vm1, P, hU0, X', hS2, hg, hp, hsteps⟩ := X.specialBackS hb.1 hy1 hown (mv (s := D.s.setVm vm0) hZ w1) (mv (s := D.s.setVm vm0) hZ w2) (bytes := B'.bytes) (maxL := B'.maxL) (by rw [← hr]; exact mv (s := D.s.setVm vm0) hZ wc) hy (own_back (W := W) hM hb.2.2.2.2.2.2 hZ Ch.1 H wc wz hf hl) (g := mkF D.m pc L.toArray (argsL.reverse ++ .ref a :: rest)) rfl (by rw [hb.2.2.1, ← hL]; simp) (Steps.refl _)
    (lenOf hds hlen) rfl (by show 2 * 0 + _ ≤ _; omega) (own_dec hd hb hi) (fun _ _ => ⟨has, rfl, hc, hs⟩)
  exact own_after (U0 := T.setVm vm1) k hb hZ hown hS hk N hU0 Ch X' hS2 hg hp hsteps
theorem ClP.isOf {vm0 : Vm} {T : State} {c : Cell} {a : Addr} {C : String} (hZ : A.Z.Warmed39 vm0) (P : ClP A.Z C c) (e : T.heap[a]? = some c) : ∃ cB kB, (D.s.setVm vm0).vm.findClass C = some cB ∧ (D.s.setVm vm0).vm.classes[cB]? = some kB ∧ IsOf cB T a := Jvm.RoadKit.isOf (s := D.s.setVm vm0) hZ rfl (P.exa e)
theorem Go.callV (hd : Dec B.bytes tb) (i : Nat) {ix W : Nat} {B' : Bx} {y : MethodName} {C : String} {a : Addr} {argsL : List Value} {as' : Array Value} {Qc : Pst} {P : Cell → Prop} {ps : List FieldType} {rt : Option FieldType} (hi : tb[i]? = some (pc, .invokevirtual ix, 3)) (hM : Met A B' as' F G Qc) (m : (a, P) ∈ F ∨ (a, P) ∈ G) (hP : ∀ c, P c → ClP A.Z C c)
    (w1 : (Cond.methodLink B.y.cls ix y).before A.a0 A.Z = true) (w2 : (Cond.declares y).before A.a0 A.Z = true) (w3 : (Cond.instanceMethod B'.y).before A.a0 A.Z = true) (w4 : (Cond.selects C y B'.y).before A.a0 A.Z = true) (w5 : (Cond.selects C y y).before A.a0 A.Z = true) (wz : (Cond.initialized B'.y.cls).before A.a0 A.Z = true) (wc : (Cond.code B'.y B'.bytes B'.maxL B'.ret).before A.a0 A.Z = true)
    (hy : y.cls ≠ "java/lang/invoke/MethodHandle" ∧ y.cls ≠ "java/lang/invoke/VarHandle") (hds : parseMethodDescriptor y.desc = some ⟨ps, rt⟩) (has : (Value.ref a :: argsL).toArray = as') (hlen : argsL.length = ps.length) (hstk : S = argsL.reverse ++ .ref a :: rest) (hL : L.length = B.maxL) (hW : (rest.map fun v => v.category).sum ≤ W)
    (hf : B'.rm.frames + 1 ≤ B.rm.frames) (hl : W + (B'.maxL + 11) + B'.rm.locals ≤ B.rm.locals) (hc : cells + B'.rm.cells ≤ B.rm.cells) (hs : slots + B'.rm.slots ≤ B.rm.slots)
    (k : ∀ v F' G', Qc v F' G' → Go A B D Q (pc + 3) L (v.toList ++ rest) F' G' (cells + B'.rm.cells) (slots + B'.rm.slots)) : Go A B D Q pc L S F G cells slots := fun hb T hT => by
  subst hstk
  obtain ⟨vm0, k0, locs, X, hZ, hown, hS, hk, N, Ch, H⟩ := hT
  obtain ⟨c, e, hp0⟩ := H.at m
  obtain ⟨cB, kB, q1, q2, q3⟩ := (hP c hp0).isOf (A := A) (D := D) hZ e
  obtain ⟨v, vm1, P, hU0, X', hS2, hg, hp, hsteps⟩ := X.virtualBackS hb.1 hown (mv (s := D.s.setVm vm0) hZ w1) (mv (s := D.s.setVm vm0) hZ w2) (notFace_of_selects (args := #[]) (mv (s := D.s.setVm vm0) hZ w5)) (mv (s := D.s.setVm vm0) hZ w4) (mv (s := D.s.setVm vm0) hZ w3) hy (own_back (W := W) hM hb.2.2.2.2.2.2 hZ Ch.1 H wc wz hf hl) q1 q3 (g := mkF D.m pc L.toArray (argsL.reverse ++ .ref a :: rest)) rfl (by rw [hb.2.2.1, ← hL]; simp) (Steps.refl _)
    (lenOf hds hlen) rfl (by show 2 * 0 + _ ≤ _; omega) (own_dec hd hb hi) (fun _ _ => ⟨has, rfl, hc, hs⟩)
  exact own_after (U0 := T.setVm vm1) k hb hZ hown hS hk N hU0 Ch X' hS2 hg hp hsteps
theorem Go.initObject (hd : Dec B.bytes tb) (i : Nat) {ix W : Nat} {a : Addr} (hi : tb[i]? = some (pc, .invokespecial ix, 3)) (w1 : (Cond.methodLink B.y.cls ix Lib.objectInit).before A.a0 A.Z = true) (w2 : (Cond.instanceMethod Lib.objectInit).before A.a0 A.Z = true) (w3 : (Cond.code Lib.objectInit ⟨#[0xb1]⟩ 1 none).before A.a0 A.Z = true)
    (hL : L.length = B.maxL) (hf : 1 ≤ B.rm.frames) (hW : (rest.map fun v => v.category).sum ≤ W) (hl : W + 12 ≤ B.rm.locals) (k : Go A B D Q (pc + 3) L rest F G cells slots) : Go A B D Q pc L (.ref a :: rest) F G cells slots :=
  Go.stay (fun hb T vm0 locs X hZ hown H => by
    obtain ⟨T', X', e', st⟩ := initO X hb.1 hZ hown w1 w2 w3 rfl (g := mkF D.m pc L.toArray (.ref a :: rest)) rfl (by rw [hb.2.2.1, ← hL]; simp) rfl (own_dec hd hb hi) hf (W := W) (by show 2 * 0 + _ ≤ _; omega) hl
    exact ⟨T', X', e', st⟩) k
/-! the end -/
theorem own_leave {T : State} {v : Option Value} (hb : Bdy A B D) (hT : St A B D T F G cells slots) (hv : B.ret = none → v = none) (hq : Q v F G) (hc : cells ≤ B.rm.cells) (hs : slots ≤ B.rm.slots)
    (h : ∀ (vm0 : Vm) (locs : List Loc) (fs : List Frame), Stand D.p A.l D.e B.rm (D.s.setVm vm0) D.m D.args D.below D.meth D.c T locs cells slots → (∀ (f : JFrame) (acts : List Action), f.method = D.m → f.locked = none → f.entered = [] → (doReturn D.e (T.setTop f) acts v).1 = T.setFrames fs) → Steps D.p.tables D.e D.below (T.setTop (mkF D.m pc L.toArray S)) (T.setFrames fs)) :
    ∃ s₂ o, Steps D.p.tables D.e D.below (T.setTop (mkF D.m pc L.toArray S)) s₂ ∧ s₂.status = .running ∧ Ended s₂ D.below o ∧ Fin A B.rm D.below D.s Q o s₂ := by
  obtain ⟨vm0, k0, locs, X, hZ, hown, hS, hk, N, Ch, H⟩ := hT
  have hlk : D.meth.locks = false := hb.2.2.2.2.2.1
  obtain ⟨fs, h1, h2, h3, h4⟩ := (X.more hc hs).leaveW hS hk (v := v) (fun z => hv (hb.2.2.2.1 ▸ z)) hlk
  have C2 := CHv.at X hZ hb.2.2.2.2.2.2 Ch.1
  exact ⟨_, _, h vm0 locs fs X h1, h2, h3, v, locs, F, G, rfl, hq, H.later C2 (own_ext_refl _), ⟨N.1, fun z => State.WarmedH.trans (t := D.s.setVm vm0) (N.2 z) X.warmed⟩, Ch.trans C2, h4⟩
theorem Go.ret (hd : Dec B.bytes tb) (i : Nat) {ins : Instr} {w : Value} {t : FieldType} (hi : tb[i]? = some (pc, ins, 1)) (hr : B.ret = some t) (hn : narrow t w = w)
    (hk : (ins = .ireturn ∧ (t = .int ∨ t = .boolean ∨ t = .byte ∨ t = .char ∨ t = .short) ∧ ∃ z, w = .int z) ∨ (ins = .lreturn ∧ t = .long ∧ ∃ z, w = .long z) ∨ (ins = .dreturn ∧ t = .double ∧ ∃ z, w = .double z) ∨ (ins = .freturn ∧ t = .float ∧ ∃ z, w = .float z) ∨ (ins = .areturn ∧ t.isReference = true ∧ w.isRef = true))
    (hq : Q (some w) F G) (hc : cells ≤ B.rm.cells) (hs : slots ≤ B.rm.slots) : Go A B D Q pc L (w :: rest) F G cells slots := fun hb T hT =>
  own_leave hb hT (fun z => by rw [hr] at z; cases z) hq hc hs fun vm0 locs fs X hl => retOut X hb.1 (hb.2.2.2.1.trans hr) hn hk (own_dec hd hb hi) hl
theorem Go.retI (hd : Dec B.bytes tb) (i : Nat) {z : Int32} (hi : tb[i]? = some (pc, .ireturn, 1)) (hr : B.ret = some .int) (hq : Q (some (.int z)) F G) (hc : cells ≤ B.rm.cells) (hs : slots ≤ B.rm.slots) : Go A B D Q pc L (.int z :: rest) F G cells slots :=
  Go.ret hd i hi hr rfl (Or.inl ⟨rfl, Or.inl rfl, z, rfl⟩) hq hc hs
theorem Go.retZ (hd : Dec B.bytes tb) (i : Nat) {z : Int32} (hi : tb[i]? = some (pc, .ireturn, 1)) (hr : B.ret = some .boolean) (hz : z &&& 1 = z) (hq : Q (some (.int z)) F G) (hc : cells ≤ B.rm.cells) (hs : slots ≤ B.rm.slots) : Go A B D Q pc L (.int z :: rest) F G cells slots :=
  Go.ret hd i hi hr (by show Value.int (z &&& 1) = _; rw [hz]) (Or.inl ⟨rfl, Or.inr (Or.inl rfl), z, rfl⟩) hq hc hs
theorem Go.retC (hd : Dec B.bytes tb) (i : Nat) {z : Int32} (hi : tb[i]? = some (pc, .ireturn, 1)) (hr : B.ret = some .char) (hz : chr16 z = z) (hq : Q (some (.int z)) F G) (hc : cells ≤ B.rm.cells) (hs : slots ≤ B.rm.slots) : Go A B D Q pc L (.int z :: rest) F G cells slots :=
  Go.ret hd i hi hr (by show Value.int (chr16 z) = _; rw [hz]) (Or.inl ⟨rfl, Or.inr (Or.inr (Or.inr (Or.inl rfl))), z, rfl⟩) hq hc hs
theorem Go.retB (hd : Dec B.bytes tb) (i : Nat) {z : Int32} (hi : tb[i]? = some (pc, .ireturn, 1)) (hr : B.ret = some .byte) (hz : byt8 z = z) (hq : Q (some (.int z)) F G) (hc : cells ≤ B.rm.cells) (hs : slots ≤ B.rm.slots) : Go A B D Q pc L (.int z :: rest) F G cells slots :=
  Go.ret hd i hi hr (by show Value.int (byt8 z) = _; rw [hz]) (Or.inl ⟨rfl, Or.inr (Or.inr (Or.inl rfl)), z, rfl⟩) hq hc hs
theorem Go.retJ (hd : Dec B.bytes tb) (i : Nat) {z : Int64} (hi : tb[i]? = some (pc, .lreturn, 1)) (hr : B.ret = some .long) (hq : Q (some (.long z)) F G) (hc : cells ≤ B.rm.cells) (hs : slots ≤ B.rm.slots) : Go A B D Q pc L (.long z :: rest) F G cells slots :=
  Go.ret hd i hi hr rfl (Or.inr (Or.inl ⟨rfl, rfl, z, rfl⟩)) hq hc hs
theorem Go.retA (hd : Dec B.bytes tb) (i : Nat) {w : Value} {t : FieldType} (hi : tb[i]? = some (pc, .areturn, 1)) (hr : B.ret = some t) (ht : t.isReference = true) (hw : w.isRef = true) (hq : Q (some w) F G) (hc : cells ≤ B.rm.cells) (hs : slots ≤ B.rm.slots) : Go A B D Q pc L (w :: rest) F G cells slots :=
  Go.ret hd i hi hr (by cases w <;> cases t <;> first | rfl | (cases hw; done) | (cases ht; done)) (Or.inr (Or.inr (Or.inr (Or.inr ⟨rfl, ht, hw⟩)))) hq hc hs
theorem Go.retV (hd : Dec B.bytes tb) (i : Nat) (hi : tb[i]? = some (pc, .return_, 1)) (hr : B.ret = none) (hq : Q none F G) (hc : cells ≤ B.rm.cells) (hs : slots ≤ B.rm.slots) : Go A B D Q pc L [] F G cells slots := fun hb T hT =>
  own_leave hb hT (fun _ => rfl) hq hc hs fun vm0 locs fs X hl => X.returnOut hb.1 (hb.2.2.2.1.trans hr) (own_dec hd hb hi) hl
end Own
/-- a static whose value the sheet tells -/
theorem own_sta_eq {a0 : Array Value} {s : State} {C n d : String} {k : Int32} (h : (Cond.eq (Term.static C n d) (.int k)).before a0 s = true) (hi : (Cond.initializedFor C n d).before a0 s = true) : Sta s s.heap C n d (.int k) := by
  obtain ⟨x, y, h1, h2, h3, h4⟩ := cmp_v (Or.inl (Cond.before_iff.mp h))
  have e2 : y = .int k := Option.some.inj (h2.symm.trans (Term.int_eval k))
  subst e2
  obtain ⟨z, rfl⟩ := h4
  have := gotT (Cond.eq_ints h1 h2) (Cond.before_iff.mp h)
  subst this
  exact Sta.start h1 (Or.inl hi)
/-! own_5: plain facts on ints, bytes and chars -/
abbrev nI (n : Nat) : Int32 := n.toInt32
theorem nI_toInt {n : Nat} (h : n < 2 ^ 31) : (nI n).toInt = n := len_toInt h
theorem nI_succ (n : Nat) : nI (n + 1) = nI n + 1 := by
  show Int32.ofNat (n + 1) = Int32.ofNat n + 1
  rw [Int32.ofNat_add]; rfl
theorem nI_inB {n m : Nat} (h : n < m) (hm : m < 2 ^ 31) : InB (nI n) m := by
  have := nI_toInt (n := n) (by omega)
  exact ⟨by omega, by omega⟩
theorem nI_nat {n : Nat} (h : n < 2 ^ 31) : (nI n).toInt.toNat = n := by rw [nI_toInt h]; rfl
theorem chr16_toInt (x : Int32) : (chr16 x).toInt = x.toInt % 65536 := by
  have h := c_i2c x
  show x.toUInt32.toUInt16.toUInt32.toInt32.toInt = _
  omega
theorem chr16_id {x : Int32} (h : 0 ≤ x.toInt ∧ x.toInt < 65536) : chr16 x = x := by
  rw [← Int32.toInt_inj, chr16_toInt]; omega
theorem chr16_chr16 (x : Int32) : chr16 (chr16 x) = chr16 x := chr16_id (by rw [chr16_toInt]; omega)
theorem byt8_toInt (x : Int32) : ((byt8 x).toInt - x.toInt) % 256 = 0 ∧ -128 ≤ (byt8 x).toInt ∧ (byt8 x).toInt < 128 := c_i2b x
theorem byt8_id {x : Int32} (h : -128 ≤ x.toInt ∧ x.toInt < 128) : byt8 x = x := by
  have := byt8_toInt x
  rw [← Int32.toInt_inj]; omega
theorem byt8_byt8 (x : Int32) : byt8 (byt8 x) = byt8 x := byt8_id (byt8_toInt x).2
theorem and255_toInt (x : Int32) : (x &&& 255).toInt = x.toInt % 256 := c_mask x 255 8 (by decide) (by decide)
theorem byt8_and {c : Int32} (h : 0 ≤ c.toInt ∧ c.toInt < 256) : byt8 c &&& 255 = c := by
  have := byt8_toInt c
  rw [← Int32.toInt_inj, and255_toInt]; omega
/-- the bytes of a Latin-1 text -/
def latB (cs : List Int32) : List Value := cs.map fun c => Value.int (byt8 c)
def zrs (cs : List Int32) : List Value := cs.map fun _ => Value.int 0
def Lat (cs : List Int32) : Prop := ∀ c ∈ cs, 0 ≤ c.toInt ∧ c.toInt < 256
def Chrs (cs : List Int32) : Prop := ∀ c ∈ cs, 0 ≤ c.toInt ∧ c.toInt < 65536
abbrev chV (cs : List Int32) : List Value := cs.map Value.int
theorem latB_len (cs : List Int32) : (latB cs).length = cs.length := by simp [latB]
theorem zrs_len (cs : List Int32) : (zrs cs).length = cs.length := by simp [zrs]
theorem zrs_rep (cs : List Int32) : List.replicate cs.length (Value.int 0) = zrs cs := by simp [zrs, List.map_const']
theorem own_len_snoc (pre : List Int32) (c : Int32) : nI (pre ++ [c]).length = nI pre.length + 1 := by rw [List.length_append]; exact nI_succ _
theorem own_mid {α : Type} (xs : List α) (y z : α) (zs : List α) (n : Nat) (h : n = xs.length) : (xs ++ y :: zs).set n z = xs ++ z :: zs := by subst h; simp
theorem own_midget {α : Type} (xs : List α) (y : α) (zs : List α) (n : Nat) (h : n = xs.length) : (xs ++ y :: zs)[n]? = some y := by subst h; simp
theorem own_lat_set (pre suf : List Int32) (c : Int32) (h : (pre ++ c :: suf).length < 2 ^ 31) : (latB pre ++ zrs (c :: suf)).set (nI pre.length).toInt.toNat (.int (byt8 (byt8 c))) = latB (pre ++ [c]) ++ zrs suf := by
  have h1 : pre.length < 2 ^ 31 := by simp at h; omega
  rw [nI_nat h1, byt8_byt8]
  show (latB pre ++ .int 0 :: zrs suf).set _ _ = _
  rw [own_mid _ _ _ _ _ (latB_len pre).symm]
  simp [latB]
theorem own_chr_get (pre suf : List Int32) (c : Int32) (h : (pre ++ c :: suf).length < 2 ^ 31) : (chV (pre ++ c :: suf))[(nI pre.length).toInt.toNat]? = some (.int c) := by
  have h1 : pre.length < 2 ^ 31 := by simp at h; omega
  rw [nI_nat h1]
  show (List.map Value.int (pre ++ c :: suf))[_]? = _
  rw [List.map_append, List.map_cons]
  exact own_midget _ _ _ _ (by simp)
theorem own_chr_in (pre suf : List Int32) (c : Int32) (h : (pre ++ c :: suf).length < 2 ^ 31) : InB (nI pre.length) (chV (pre ++ c :: suf)).length := nI_inB (by simp) (by simpa using h)
theorem own_lat_in (pre suf : List Int32) (c : Int32) (h : (pre ++ c :: suf).length < 2 ^ 31) : InB (nI pre.length) (latB pre ++ zrs (c :: suf)).length := by
  refine nI_inB ?_ ?_ <;> simp [latB, zrs] at h ⊢ <;> omega
theorem nI_lt {n m : Nat} (hn : n < 2 ^ 31) (hm : m < 2 ^ 31) : nI n < nI m ↔ n < m := by rw [Int32.lt_iff_toInt_lt, nI_toInt hn, nI_toInt hm]; omega
theorem nI_le {n m : Nat} (hn : n < 2 ^ 31) (hm : m < 2 ^ 31) : nI n ≤ nI m ↔ n ≤ m := by rw [Int32.le_iff_toInt_le, nI_toInt hn, nI_toInt hm]; omega
theorem shr0 (x : Int32) : x >>> ((0 : Int32) &&& 31) = x := by
  rw [← Int32.toInt_inj, c_ishr x 0 0 (by decide)]; simp
theorem i32_lt {x y : Int32} : x < y ↔ x.toInt < y.toInt := Int32.lt_iff_toInt_lt
theorem i32_le {x y : Int32} : x ≤ y ↔ x.toInt ≤ y.toInt := Int32.le_iff_toInt_le
theorem i32_eq {x y : Int32} : x = y ↔ x.toInt = y.toInt := Int32.toInt_inj.symm
theorem own_inB {vs : List Value} {j : Int32} (n : Nat) (hl : vs.length = n) (h : 0 ≤ j.toInt ∧ j.toInt < n) : InB j vs.length := by rw [hl]; exact h
theorem own_le {n m : Nat} (h : Nat.ble n m = true) : n ≤ m := Nat.le_of_ble_eq_true h
/-! own_6: two bytes a char -/
def u2 (c : Int32) : Int32 := byt8 (c >>> ((8 : Int32) &&& 31))
def utfB : List Int32 → List Value
  | [] => []
  | c :: r => .int (byt8 c) :: .int (u2 c) :: utfB r
def zrs2 : List Int32 → List Value
  | [] => []
  | _ :: r => .int 0 :: .int 0 :: zrs2 r
theorem utfB_len : ∀ cs : List Int32, (utfB cs).length = 2 * cs.length
  | [] => rfl
  | c :: r => by simp only [utfB, List.length_cons, utfB_len r]; omega
theorem zrs2_len : ∀ cs : List Int32, (zrs2 cs).length = 2 * cs.length
  | [] => rfl
  | c :: r => by simp only [zrs2, List.length_cons, zrs2_len r]; omega
theorem zrs2_rep : ∀ cs : List Int32, List.replicate (2 * cs.length) (Value.int 0) = zrs2 cs
  | [] => rfl
  | c :: r => by
    rw [show 2 * (c :: r).length = 2 * r.length + 1 + 1 by simp only [List.length_cons]; omega, List.replicate_succ, List.replicate_succ, zrs2_rep r]; rfl
theorem utfB_app : ∀ xs ys : List Int32, utfB (xs ++ ys) = utfB xs ++ utfB ys
  | [], ys => rfl
  | c :: r, ys => by simp only [List.cons_append, utfB, utfB_app r ys]
theorem shl1 {n : Nat} (h : 2 * n < 2 ^ 31) : nI n <<< ((1 : Int32) &&& 31) = nI (2 * n) := by
  have h1 := c_ishl (nI n) 1 1 (by decide)
  rw [i32_eq, nI_toInt h]
  rw [nI_toInt (by omega)] at h1
  have h2 := rng32 (nI n <<< ((1 : Int32) &&& 31))
  omega
theorem shr1 {n : Nat} (h : 2 * n < 2 ^ 31) : nI (2 * n) >>> ((1 : Int32) &&& 31) = nI n := by
  rw [i32_eq, c_ishr (nI (2 * n)) 1 1 (by decide), nI_toInt h, nI_toInt (by omega)]; omega
theorem shl0 (x : Int32) : x <<< ((0 : Int32) &&& 31) = x := by
  have h1 := c_ishl x 0 0 (by decide)
  have h2 := rng32 (x <<< ((0 : Int32) &&& 31))
  have h3 := rng32 x
  rw [i32_eq]; omega
/-- the two bytes make the char again -/
theorem utf_join {c : Int32} (h : 0 ≤ c.toInt ∧ c.toInt < 65536) : chr16 ((byt8 c &&& 255) <<< ((0 : Int32) &&& 31) ||| (u2 c &&& 255) <<< ((8 : Int32) &&& 31)) = c := by
  have e8 := c_ishr c 8 8 (by decide)
  have a1 : (byt8 c &&& 255).toInt = c.toInt % 256 := by
    have := byt8_toInt c
    rw [and255_toInt]; omega
  have a2 : (u2 c &&& 255).toInt = c.toInt / 256 := by
    have := byt8_toInt (c >>> ((8 : Int32) &&& 31))
    rw [and255_toInt]; unfold u2; omega
  have b2 : ((u2 c &&& 255) <<< ((8 : Int32) &&& 31)).toInt = c.toInt / 256 * 256 := by
    have h1 := c_ishl (u2 c &&& 255) 8 8 (by decide)
    have h2 := rng32 ((u2 c &&& 255) <<< ((8 : Int32) &&& 31))
    rw [a2] at h1
    omega
  rw [shl0]
  have o := c_or' (byt8 c &&& 255) ((u2 c &&& 255) <<< ((8 : Int32) &&& 31)) 8 (by decide) 256 (by decide) (by rw [b2]; omega) (by rw [a1]; omega) (by rw [a1]; omega)
  rw [a1, b2] at o
  have r := rng32 ((byt8 c &&& 255) ||| (u2 c &&& 255) <<< ((8 : Int32) &&& 31))
  have q : ((byt8 c &&& 255) ||| (u2 c &&& 255) <<< ((8 : Int32) &&& 31)) = c := by rw [i32_eq]; omega
  rw [q]; exact chr16_id h
theorem lat_split : ∀ {cs : List Int32}, Chrs cs → ¬ Lat cs → ∃ pre c suf, cs = pre ++ c :: suf ∧ Lat pre ∧ 256 ≤ c.toInt
  | [], _, h => absurd (show Lat [] from fun _ m => by cases m) h
  | c :: r, hc, h => by
    by_cases h1 : c.toInt < 256
    · have hn : ¬ Lat r := fun z => h fun x m => by
        rcases List.mem_cons.mp m with rfl | m
        · exact ⟨(hc x (List.mem_cons_self ..)).1, h1⟩
        · exact z x m
      obtain ⟨pre, d, suf, e, hl, hd⟩ := lat_split (fun x m => hc x (List.mem_cons_of_mem _ m)) hn
      refine ⟨c :: pre, d, suf, by rw [e]; rfl, fun x m => ?_, hd⟩
      rcases List.mem_cons.mp m with rfl | m
      · exact ⟨(hc x (List.mem_cons_self ..)).1, h1⟩
      · exact hl x m
    · exact ⟨[], c, r, rfl, (fun _ m => by cases m), by omega⟩
instance (cs : List Int32) : Decidable (Lat cs) := inferInstanceAs (Decidable (∀ c ∈ cs, 0 ≤ c.toInt ∧ c.toInt < 256))
theorem Lat.chrs {cs : List Int32} (h : Lat cs) : Chrs cs := fun c m => ⟨(h c m).1, by have := (h c m).2; omega⟩
theorem own_two {α : Type} (xs : List α) (x y z w : α) (zs : List α) (n : Nat) (h : n = xs.length) : ((xs ++ x :: y :: zs).set n z).set (n + 1) w = xs ++ z :: w :: zs := by
  subst h
  induction xs with
  | nil => rfl
  | cons a r ih => simp only [List.cons_append, List.length_cons, List.set_cons_succ]; rw [ih]
theorem own_two1 {α : Type} (xs : List α) (x y : α) (zs : List α) (n : Nat) (h : n = xs.length) : (xs ++ x :: y :: zs)[n]? = some x ∧ (xs ++ x :: y :: zs)[n + 1]? = some y := by
  subst h
  constructor
  · simp
  · simp
theorem own_cfa {n : Nat} (h0 : 0 < n) (h : 2 * n < 2 ^ 31) : byt8 (Jvm.Free.XT.ushr (nI n - nI (2 * n)) 31) = 1 := by
  have h1 := c_isub (nI n) (nI (2 * n))
  rw [nI_toInt h, nI_toInt (by omega)] at h1
  have h2 := rng32 (nI n - nI (2 * n))
  have h3 := c_iushr (nI n - nI (2 * n)) 31 31 (by decide) (by decide)
  have h4 : (Jvm.Free.XT.ushr (nI n - nI (2 * n)) 31).toInt = 1 := by
    show ((nI n - nI (2 * n)).toUInt32 >>> ((31 : Int32) &&& 31).toUInt32).toInt32.toInt = 1
    rw [h3]; omega
  have h5 : Jvm.Free.XT.ushr (nI n - nI (2 * n)) 31 = 1 := by rw [i32_eq, h4]; rfl
  rw [h5]; rfl
/-! own_7: instanceof, checkcast, one cell known twice -/
section Own
variable {A : Ax} {B : Bx} {D : Dx} {Q : Pst} {pc pc' : Nat} {L L' : List Slot} {S S' rest : List Value} {F F' G G' : List Ent} {cells slots : Nat} {tb : List In1}
theorem Go.instY (hd : Dec B.bytes tb) (i : Nat) {ix : Nat} {a : Addr} {C : String} {P : Cell → Prop} (hi : tb[i]? = some (pc, .instanceof ix, 3)) (w : (Cond.classLink B.y.cls ix C).before A.a0 A.Z = true) (m : (a, P) ∈ F ∨ (a, P) ∈ G) (hP : ∀ c, P c → ClP A.Z C c)
    (k : Go A B D Q (pc + 3) L (.int 1 :: rest) F G cells slots) : Go A B D Q pc L (.ref a :: rest) F G cells slots :=
  Go.stay (fun hb T vm0 locs X hZ hown H => by
    obtain ⟨c, e, p⟩ := H.at m
    obtain ⟨T', X', e', st⟩ := Jvm.RoadKit.instY X hb.1 hZ hown w rfl (Ins.self ((hP c p).exa e)) (g := mkF D.m pc L.toArray (.ref a :: rest)) rfl rfl (own_dec hd hb hi)
    exact ⟨T', X', e', st⟩) k
theorem Go.castY (hd : Dec B.bytes tb) (i : Nat) {ix : Nat} {a : Addr} {C : String} {P : Cell → Prop} (hi : tb[i]? = some (pc, .checkcast ix, 3)) (w : (Cond.classLink B.y.cls ix C).before A.a0 A.Z = true) (m : (a, P) ∈ F ∨ (a, P) ∈ G) (hP : ∀ c, P c → ClP A.Z C c)
    (k : Go A B D Q (pc + 3) L (.ref a :: rest) F G cells slots) : Go A B D Q pc L (.ref a :: rest) F G cells slots :=
  Go.stay (fun hb T vm0 locs X hZ hown H => by
    obtain ⟨c, e, p⟩ := H.at m
    obtain ⟨T', X', e', st⟩ := Jvm.RoadKit.castY X hb.1 hZ hown w rfl (Ins.self ((hP c p).exa e)) (g := mkF D.m pc L.toArray (.ref a :: rest)) rfl rfl (own_dec hd hb hi)
    exact ⟨T', X', e', st⟩) k
/-- one cell known twice -/
theorem Go.both {a : Addr} {P P' : Cell → Prop} {R : Prop} (m : (a, P) ∈ F ∨ (a, P) ∈ G) (m' : (a, P') ∈ F ∨ (a, P') ∈ G) (hr : ∀ c, P c → P' c → R) (k : R → Go A B D Q pc L S F G cells slots) : Go A B D Q pc L S F G cells slots := fun hb T hT => by
  obtain ⟨vm0, k0, locs, X, hZ, hown, hS, hk, N, C, H⟩ := hT
  obtain ⟨c, e, p⟩ := H.at m
  obtain ⟨c', e', p'⟩ := H.at m'
  cases e.symm.trans e'
  exact k (hr c p p') hb T ⟨vm0, k0, locs, X, hZ, hown, hS, hk, N, C, H⟩
theorem str_same {a b b' : Addr} {cd cd' : Int32} {c : Cell} (h : (StrE A a b cd).2 c) (h' : (StrE A a b' cd').2 c) : b = b' ∧ cd = cd' := by
  have v1 := (h.2 _ (List.mem_cons_self ..)).2.2
  have v2 := (h'.2 _ (List.mem_cons_self ..)).2.2
  have w1 := (h.2 _ (List.mem_cons_of_mem _ (List.mem_cons_self ..))).2.2
  have w2 := (h'.2 _ (List.mem_cons_of_mem _ (List.mem_cons_self ..))).2.2
  have e1 := v1.symm.trans v2
  have e2 := w1.symm.trans w2
  simp only [Option.some.injEq, Value.ref.injEq] at e1
  simp only [Option.some.injEq, Value.int.injEq] at e2
  exact ⟨e1, e2⟩
theorem arr_same {b : Addr} {ty ty' : FieldType} {vs vs' : List Value} {c : Cell} (h : ArrP A ty vs c) (h' : ArrP A ty' vs' c) : vs = vs' := h.2.2.symm.trans h'.2.2
end Own
/-! bytes tell the text -/
theorem latB_chV (cs : List Int32) : latB cs = chV (cs.map byt8) := by simp [latB]
theorem chV_inj {xs ys : List Int32} (h : chV xs = chV ys) : xs = ys := by
  induction xs generalizing ys with
  | nil => cases ys with
    | nil => rfl
    | cons y r => cases h
  | cons x r ih => cases ys with
    | nil => cases h
    | cons y s =>
      simp only [List.map_cons, List.cons.injEq, Value.int.injEq] at h
      rw [h.1, ih h.2]
theorem byt8_inj {x y : Int32} (hx : 0 ≤ x.toInt ∧ x.toInt < 256) (hy : 0 ≤ y.toInt ∧ y.toInt < 256) (h : byt8 x = byt8 y) : x = y := by
  rw [← byt8_and hx, ← byt8_and hy, h]
theorem lat_inj : ∀ {xs ys : List Int32}, Lat xs → Lat ys → xs.map byt8 = ys.map byt8 → xs = ys
  | [], [], _, _, _ => rfl
  | [], y :: s, _, _, h => by cases h
  | x :: r, [], _, _, h => by cases h
  | x :: r, y :: s, hx, hy, h => by
    simp only [List.map_cons, List.cons.injEq] at h
    rw [byt8_inj (hx x (List.mem_cons_self ..)) (hy y (List.mem_cons_self ..)) h.1, lat_inj (fun z m => hx z (List.mem_cons_of_mem _ m)) (fun z m => hy z (List.mem_cons_of_mem _ m)) h.2]
/-- the bytes of a text in two bytes a char, as ints -/
def utfI : List Int32 → List Int32
  | [] => []
  | c :: r => byt8 c :: u2 c :: utfI r
theorem utfB_chV : ∀ cs : List Int32, utfB cs = chV (utfI cs)
  | [] => rfl
  | c :: r => by simp only [utfB, utfI, List.map_cons, utfB_chV r]
theorem utf_inj : ∀ {xs ys : List Int32}, Chrs xs → Chrs ys → utfI xs = utfI ys → xs = ys
  | [], [], _, _, _ => rfl
  | [], y :: s, _, _, h => by cases h
  | x :: r, [], _, _, h => by cases h
  | x :: r, y :: s, hx, hy, h => by
    simp only [utfI, List.cons.injEq] at h
    have e : x = y := by rw [← utf_join (hx x (List.mem_cons_self ..)), ← utf_join (hy y (List.mem_cons_self ..)), h.1, h.2.1]
    rw [e, utf_inj (fun z m => hx z (List.mem_cons_of_mem _ m)) (fun z m => hy z (List.mem_cons_of_mem _ m)) h.2.2]
theorem utfI_len : ∀ cs : List Int32, (utfI cs).length = 2 * cs.length
  | [] => rfl
  | c :: r => by simp only [utfI, List.length_cons, utfI_len r]; omega
/-! own_8: System.arraycopy between arrays of one primitive type -/
def FitsL (ty : FieldType) (vs : List Value) : Prop := ∀ v ∈ vs, fits ty v = true
theorem own_us {vs : List Value} {sp n : Nat} {dv : Value} (h : sp + n ≤ vs.length) : (List.range n).map (fun i => vs.getD (sp + i) dv) = (vs.drop sp).take n := by
  apply List.ext_getElem?
  intro i
  by_cases hi : i < n
  · rw [List.getElem?_map, List.getElem?_range hi, List.getElem?_take_of_lt hi, List.getElem?_drop, Option.map_some, List.getD_eq_getElem?_getD, List.getElem?_eq_getElem (by omega)]; rfl
  · rw [List.getElem?_eq_none (by simp; omega), List.getElem?_eq_none (by simp; omega)]
section Own
variable {A : Ax} {B : Bx} {D : Dx} {Q : Pst} {pc pc' : Nat} {L L' : List Slot} {S S' rest : List Value} {F F' G G' : List Ent} {cells slots : Nat} {tb : List In1}
theorem ArrP.arv {ty : FieldType} {vs : List Value} {c : Cell} {h : Heap} {a : Addr} {dv : Value} (P : ArrP A ty vs c) (e : h[a]? = some c) (hl : vs.length < 2 ^ 31) (hf : FitsL ty vs) : Arv A.Z h a c.cls ty (nI vs.length) vs dv := by
  have en : (nI vs.length).toNatClampNeg = vs.length := nI_nat hl
  refine ⟨c, ⟨e, P.1, P.2.1⟩, rfl, by rw [P.size, en], ?_, fun j hj => ?_, fun j hj => ?_⟩
  · rw [i32_lt, nI_toInt hl]; have : (0 : Int32).toInt = 0 := rfl; omega
  · rw [P.size] at hj
    rw [P.get, List.getD_eq_getElem?_getD, List.getElem?_eq_getElem hj]; rfl
  · rw [P.size] at hj
    rw [List.getD_eq_getElem?_getD, List.getElem?_eq_getElem hj]; exact hf _ (List.getElem_mem hj)
theorem ArrP.of_arv {ty : FieldType} {vs : List Value} {h : Heap} {a : Addr} {k : ClassId} {n : Nat} {dv : Value} (hn : n < 2 ^ 31) (hl : vs.length = n) (P : Arv A.Z h a k ty (nI n) vs dv) : ∃ c : Cell, h[a]? = some c ∧ ArrP A ty vs c := by
  obtain ⟨c, ⟨e, h1, h2⟩, -, sz, -, hh, -⟩ := P
  have en : (nI n).toNatClampNeg = n := nI_nat hn
  rw [en] at sz
  refine ⟨c, e, h1, h2, List.ext_getElem? fun j => ?_⟩
  by_cases hj : j < c.slots.size
  · rw [Array.getElem?_toList, hh j hj, List.getD_eq_getElem?_getD, List.getElem?_eq_getElem (by omega)]; rfl
  · rw [Array.getElem?_toList, Array.getElem?_eq_none (by omega), List.getElem?_eq_none (by omega)]
theorem Hp.keep1 {Z : State} {EL : List (String × Nat)} {vm : Vm} {h h' : Heap} {b : Addr} {P P' : Cell → Prop} (H : Hp Z EL vm h ((b, P) :: F) G) (hC : CHv Z EL vm h) (K : Keep h h' [b]) (hp : ∃ c : Cell, h'[b]? = some c ∧ P' c) : Hp Z EL vm h' ((b, P') :: F) G := by
  obtain ⟨h1, h2, h3, h4, h5⟩ := H
  have hn := List.nodup_cons.mp h4
  have sa := h5 _ (List.mem_cons_self ..)
  have sk : ∀ x ∈ [b], Safe Z EL vm h x := fun x hx => by cases List.mem_singleton.mp hx; exact sa.2.1
  have oth : ∀ (x : Addr) (c : Cell), x ≠ b → h[x]? = some c → h'[x]? = some c := fun x c ne e => K.2.1 x c e (by simpa using ne)
  refine ⟨⟨Nat.le_trans h1.1 K.1, fun x c e => oth x c (Nat.ne_of_lt (Nat.lt_of_lt_of_le (Array.getElem?_eq_some_iff.mp e).1 sa.1)) (h1.2 x c e)⟩, fun q m => ?_, fun q m => ?_, h4, fun q m => ?_⟩
  · rcases List.mem_cons.mp m with rfl | m
    · exact hp
    · obtain ⟨c, e, p⟩ := h2 q (List.mem_cons_of_mem _ m)
      exact ⟨c, oth _ _ (fun z => hn.1 (List.mem_map.mpr ⟨q, m, z⟩)) e, p⟩
  · obtain ⟨c, e, p⟩ := h3 q m
    exact ⟨c, oth _ _ (sa.2.2 q m) e, p⟩
  · have key : ∀ r : Ent, r ∈ (b, P) :: F → Z.heap.size ≤ r.1 ∧ Safe Z EL vm h' r.1 ∧ ∀ t ∈ G, t.1 ≠ r.1 := fun r m => ⟨(h5 r m).1, Safe.keep K sk hC (h5 r m).2.1, (h5 r m).2.2⟩
    rcases List.mem_cons.mp m with rfl | m
    · exact key (b, P) (List.mem_cons_self ..)
    · exact key q (List.mem_cons_of_mem _ m)
theorem Go.copy (hd : Dec B.bytes tb) (i : Nat) {ix W : Nat} {a b : Addr} {ty : FieldType} {vs vd vd' : List Value} {sp dp n : Int32} (hi : tb[i]? = some (pc, .invokestatic ix, 3)) (hpr : refKind ty = false)
    (w1 : (Cond.methodLink B.y.cls ix Jvm.Stand.acN).before A.a0 A.Z = true) (w2 : (Cond.native Jvm.Stand.acN).before A.a0 A.Z = true) (w3 : (Cond.static Jvm.Stand.acN).before A.a0 A.Z = true) (w4 : (Cond.initialized "java/lang/System").before A.a0 A.Z = true)
    (m : (a, ArrP A ty vs) ∈ (b, ArrP A ty vd) :: F ∨ (a, ArrP A ty vs) ∈ G) (ls : vs.length < 2 ^ 31) (ld : vd.length < 2 ^ 31) (fs : FitsL ty vs) (fd : FitsL ty vd)
    (h1 : 0 ≤ sp.toInt) (h2 : 0 ≤ dp.toInt) (h3 : 0 ≤ n.toInt) (h4 : sp.toInt + n.toInt ≤ vs.length) (h5 : dp.toInt + n.toInt ≤ vd.length)
    (hv : vd.take dp.toInt.toNat ++ (vs.drop sp.toInt.toNat).take n.toInt.toNat ++ vd.drop (dp.toInt.toNat + n.toInt.toNat) = vd')
    (hL : L.length = B.maxL) (hW : (rest.map fun v => v.category).sum ≤ W) (hf : 1 ≤ B.rm.frames) (hl : W + (nativeFrameWords "java/lang/System" "arraycopy" 5 + 11) ≤ B.rm.locals)
    (k : Go A B D Q (pc + 3) L rest ((b, ArrP A ty vd') :: F) G cells slots) : Go A B D Q pc L (.int n :: .int dp :: .ref b :: .int sp :: .ref a :: rest) ((b, ArrP A ty vd) :: F) G cells slots := fun hb T hT => by
  obtain ⟨vm0, k0, locs, X, hZ, hown, hS, hk, N, Ch, H⟩ := hT
  obtain ⟨c1, e1, P1⟩ := H.at m
  obtain ⟨c2, e2, P2⟩ := H.at (Or.inl (List.mem_cons_self ..))
  have sa := H.2.2.2.2 _ (List.mem_cons_self ..)
  have z0 : (0 : Int32).toInt = 0 := rfl
  have en : ∀ {x : Int32}, x.toNatClampNeg = x.toInt.toNat := rfl
  obtain ⟨T', h', L1, X', e', N', K, Av, st⟩ := cpA X hb.1 hZ hown w1 w2 w3 w4 rfl (P1.arv (dv := .null) e1 ls fs) (P2.arv (dv := .null) e2 ld fd) (us := (vs.drop sp.toInt.toNat).take n.toInt.toNat) (Or.inl ⟨rfl, hpr⟩)
    (by rw [i32_lt]; omega) (by rw [i32_lt]; omega) (by rw [i32_lt]; omega) (by simp only [en]; rw [nI_nat ls]; omega) (by simp only [en]; rw [nI_nat ld]; omega) (by simp only [en]; exact (own_us (by omega)).symm) (by simp only [en]; omega) N.1 sa.1
    (g := mkF D.m pc L.toArray (.int n :: .int dp :: .ref b :: .int sp :: .ref a :: rest)) rfl (by rw [hb.2.2.1, ← hL]; simp) rfl (own_dec hd hb hi) hf (W := W) (by show 2 * 0 + _ ≤ _; omega) hl
  subst e'
  have hp : ∃ c : Cell, T'.heap[b]? = some c ∧ ArrP A ty vd' c := by
    refine ArrP.of_arv ld ?_ (hv ▸ Av)
    rw [← hv]; simp only [List.length_append, List.length_take, List.length_drop]; omega
  obtain ⟨s₂, o, st', r⟩ := k hb T' ⟨vm0, k0, L1, X', hZ, hown, hS, Nat.le_trans hk K.1, ⟨N', N.2⟩, Ch.trans (CHr.keep K (fun x hx => by cases List.mem_singleton.mp hx; exact sa.2.1) Ch.1), H.keep1 Ch.1 K hp⟩
  exact ⟨s₂, o, st _ st', r⟩
end Own
section Own
variable {A : Ax} {B : Bx} {D : Dx} {Q : Pst} {pc pc' : Nat} {L L' : List Slot} {S S' rest : List Value} {F F' G G' : List Ent} {cells slots : Nat} {tb : List In1}
/-- invokevirtual of a private method; her class is told no interface by the word 'instantiable' -/
theorem Go.callP (hd : Dec B.bytes tb) (i : Nat) {ix W kk : Nat} {B' : Bx} {a : Addr} {argsL : List Value} {as' : Array Value} {Qc : Pst} {P : Cell → Prop} {ps : List FieldType} {rt : Option FieldType} (hi : tb[i]? = some (pc, .invokevirtual ix, 3)) (hM : Met A B' as' F G Qc) (m : (a, P) ∈ F ∨ (a, P) ∈ G) {C : String} (hP : ∀ c, P c → ClP A.Z C c)
    (w1 : (Cond.methodLink B.y.cls ix B'.y).before A.a0 A.Z = true) (w3 : (Cond.instanceMethod B'.y).before A.a0 A.Z = true) (w4 : (Cond.privateMethod B'.y).before A.a0 A.Z = true) (wi : (Cond.instantiable B'.y.cls kk).before A.a0 A.Z = true) (wz : (Cond.initialized B'.y.cls).before A.a0 A.Z = true) (wc : (Cond.code B'.y B'.bytes B'.maxL B'.ret).before A.a0 A.Z = true)
    (hy : B'.y.cls ≠ "java/lang/invoke/MethodHandle" ∧ B'.y.cls ≠ "java/lang/invoke/VarHandle") (hds : parseMethodDescriptor B'.y.desc = some ⟨ps, rt⟩) (has : (Value.ref a :: argsL).toArray = as') (hlen : argsL.length = ps.length) (hstk : S = argsL.reverse ++ .ref a :: rest) (hL : L.length = B.maxL) (hW : (rest.map fun v => v.category).sum ≤ W)
    (hf : B'.rm.frames + 1 ≤ B.rm.frames) (hl : W + (B'.maxL + 11) + B'.rm.locals ≤ B.rm.locals) (hc : cells + B'.rm.cells ≤ B.rm.cells) (hs : slots + B'.rm.slots ≤ B.rm.slots)
    (k : ∀ v F' G', Qc v F' G' → Go A B D Q (pc + 3) L (v.toList ++ rest) F' G' (cells + B'.rm.cells) (slots + B'.rm.slots)) : Go A B D Q pc L S F G cells slots := fun hb T hT => by
  subst hstk
  obtain ⟨vm0, k0, locs, X, hZ, hown, hS, hk, N, Ch, H⟩ := hT
  obtain ⟨c, e, hp0⟩ := H.at m
  obtain ⟨k9, -, -, hst, -, -⟩ := hP c hp0
  have hB := own_back (B := B) (D := D) (len := 3) (W := W) hM hb.2.2.2.2.2.2 hZ Ch.1 H wc wz hf hl
  obtain ⟨mk, methM, hnamed, hmethM, hstM, habM⟩ := Cond.instanceMethod_spec (mv (s := D.s.setVm vm0) (args := #[]) hZ w3)
  obtain ⟨methM', cM, hmethM', -, -, -, -, -, -, hsigM⟩ := Cond.code_spec hnamed (mv (s := D.s.setVm vm0) (args := #[]) hZ wc)
  cases hmethM.symm.trans hmethM'
  obtain ⟨c7, k7, i1, i2, -, i4, -⟩ := Cond.instantiable_spec (mv (s := D.s.setVm vm0) (args := #[]) hZ wi)
  have hcn := findClass_of_methodNamed hnamed
  cases i1.symm.trans hcn
  have hni : k7.isInterface = false := by
    cases hq : k7.isInterface
    · rfl
    · rw [hq] at i4; simp at i4
  have hpriv := Cond.privateMethod_at (mvP (s := D.s.setVm vm0) (args := #[]) hZ w4)
  have hselP : selectMethod D.e.platform (D.s.setVm vm0).vm c.cls mk = .method mk := selectMethod_private hmethM (hpriv mk methM hnamed hmethM)
  obtain ⟨vm₁, X₁, hstep₁⟩ := X.invokevirtual hb.1 hown (mv (s := D.s.setVm vm0) hZ w1) hnamed hmethM hstM i2 hni hy (a := a) (cell := c) e (fun q z => by rw [z] at hst; cases hst) hselP hmethM habM i2 hni (g := mkF D.m pc L.toArray (argsL.reverse ++ .ref a :: rest)) rfl (argsL := argsL) (rest := rest) (lenOf hds hlen _ hsigM) rfl (own_dec hd hb hi)
  have hW₁ : (D.s.setVm vm0).WarmedH vm₁ := X₁.warmed
  obtain ⟨v, P2, X', hS2, hg, hp, hsteps⟩ := hB D.m D.meth D.c ⟨T.setVm vm₁, locs, cells, slots⟩ (mkF D.m pc L.toArray rest) (.invokevirtual ix) mk as' X₁ rfl (by show L.toArray.size = _; rw [hb.2.2.1, ← hL]; simp) (own_dec hd hb hi) (by show 2 * 0 + (rest.map fun v => v.category).sum ≤ W; omega) (X₁.named hnamed) ⟨rfl, rfl, hc, hs⟩
  exact own_after (U0 := T.setVm vm₁) k hb hZ hown hS hk N hW₁ Ch X' hS2 hg hp ((hstep₁ _ fun acts => by rw [doInvoke_state, has]; exact Steps.refl _).trans hsteps)
end Own
/-! own_9: reference arrays; checkcast of a subclass and of null; more calls -/
/-- an array whose class's name is known -/
def ArkP (A : Ax) (ty : FieldType) (ad : String) (vs : List Value) (c : Cell) : Prop := ArrP A ty vs c ∧ ClP A.Z ad c
/-- an array of references that may be written -/
def RarP (A : Ax) (C ad : String) (vs : List Value) (c : Cell) : Prop := ArkP A (.object C) ad vs c ∧ Ovr A.Z c.cls C
theorem own_notface {s : State} {C : String} {y y2 : MethodName} (w : (Cond.selects C y2 y2).before #[] s = true) (hc : y2.cls = y.cls) : NotFace s y := fun r0 h0 => by
  obtain ⟨c2, r2, m2, q1, q2, q3, q4, kP, hkP, hkPi⟩ := Cond.selects_spec w
  have e1 := findClass_of_methodNamed q3
  have e2 := findClass_of_methodNamed h0
  rw [hc] at e1
  have e3 : m2.cls = r0.cls := Option.some.inj (e1.symm.trans e2)
  exact ⟨kP, e3 ▸ hkP, hkPi⟩
theorem own_sel0 {a0 : Array Value} {Z : State} {C : String} {y z : MethodName} (w : (Cond.selects C y z).before a0 Z = true) : (Cond.selects C y z).before #[] Z = true := w
section Own
variable {A : Ax} {B : Bx} {D : Dx} {Q : Pst} {pc pc' : Nat} {L L' : List Slot} {S S' rest : List Value} {F F' G G' : List Ent} {cells slots : Nat} {tb : List In1}
theorem RarP.set {C ad : String} {vs : List Value} {c : Cell} (P : RarP A C ad vs c) (i : Nat) (v : Value) : RarP A C ad (vs.set i v) (c.setSlot i v) := ⟨⟨P.1.1.set i v, P.1.2.set i v⟩, P.2⟩
theorem Go.arraylengthP (hd : Dec B.bytes tb) (i : Nat) {a : Addr} {ty : FieldType} {vs : List Value} {z : Int32} {P : Cell → Prop} (hi : tb[i]? = some (pc, .arraylength, 1)) (m : (a, P) ∈ F ∨ (a, P) ∈ G) (hP : ∀ c, P c → ArrP A ty vs c) (hz : (vs.length : Int) = z.toInt)
    (k : Go A B D Q (pc + 1) L (.int z :: rest) F G cells slots) : Go A B D Q pc L (.ref a :: rest) F G cells slots :=
  Go.stay (fun hb T vm0 locs X hZ hown H => by
    obtain ⟨c, e, P0⟩ := H.at m
    have P := hP c P0
    refine ⟨T, X, rfl, fun target st => X.arraylength hb.1 e (State.isArrayOf_alike (T := D.s.setVm vm0) hZ.alike P.1) (g := mkF D.m pc L.toArray (.ref a :: rest)) rfl rfl (own_dec hd hb hi) target ?_⟩
    rw [P.size, own_len hz]; exact st) k
theorem Go.aaloadP (hd : Dec B.bytes tb) (i : Nat) {a : Addr} {ty : FieldType} {vs : List Value} {j : Int32} {v : Value} {P : Cell → Prop} (hi : tb[i]? = some (pc, .aaload, 1)) (ht : ty.isReference = true) (m : (a, P) ∈ F ∨ (a, P) ∈ G) (hP : ∀ c, P c → ArrP A ty vs c) (h : InB j vs.length) (hv : vs[j.toInt.toNat]? = some v)
    (k : Go A B D Q (pc + 1) L (v :: rest) F G cells slots) : Go A B D Q pc L (.int j :: .ref a :: rest) F G cells slots :=
  Go.stay (fun hb T vm0 locs X hZ hown H => by
    obtain ⟨c, e, P0⟩ := H.at m
    have P := hP c P0
    exact ⟨T, X, rfl, fun target st => X.aaload hb.1 e (State.isArrayOf_alike (T := D.s.setVm vm0) hZ.alike P.1) ht P.2.1 (own_get P h hv).1 (own_get P h hv).2 (g := mkF D.m pc L.toArray (.int j :: .ref a :: rest)) rfl rfl (own_dec hd hb hi) target st⟩) k
theorem Go.anewarray (hd : Dec B.bytes tb) (i : Nat) {ix : Nat} {C ad : String} {n : Int32} {cap : Nat} {vs : List Value} (hi : tb[i]? = some (pc, .anewarray ix, 3)) (w1 : (Cond.classLink B.y.cls ix C).before A.a0 A.Z = true) (w2 : (Cond.arrayOver (.object C)).before A.a0 A.Z = true) (had : "[" ++ (FieldType.object C).toString = ad) (hn : 0 ≤ n.toInt) (hcap : n.toInt.toNat ≤ cap) (hb8 : cap * 8 ≤ 536870912)
    (hc : cells + 1 ≤ B.rm.cells) (hl : slots + cap ≤ B.rm.slots) (hv : List.replicate n.toInt.toNat Value.null = vs)
    (k : ∀ a : Addr, Go A B D Q (pc + 3) L (.ref a :: rest) ((a, RarP A C ad vs) :: F) G (cells + 1) (slots + cap)) : Go A B D Q pc L (.int n :: rest) F G cells slots := fun hb T hT => by
  obtain ⟨vm0, k0, locs, X, hZ, hown, hS, hk, N, Ch, H⟩ := hT
  obtain ⟨T', h', cA, X', e', E, Ar, Ex, Ov, st⟩ := newRE X hb.1 hZ hown w1 w2 rfl (g := mkF D.m pc L.toArray (.int n :: rest)) rfl (own_dec hd hb hi) rfl (by rw [Int32.lt_iff_toInt_lt]; have : (0 : Int32).toInt = 0 := rfl; omega) (cap := cap) hcap hb8 hc hl had
  have hP : RarP A C ad vs (newA cA (.object C) n) := by
    obtain ⟨c1, k1, q1, q2, q3, q4, q5⟩ := Ex
    cases Ar.1.symm.trans q1
    exact ⟨⟨⟨Ar.2.1, Ar.2.2, by rw [← hv]; simp [newA, defaultValue]⟩, k1, q2, q3, q4, Ar.2.2, q5⟩, Ov⟩
  obtain ⟨s₂, o, st', r⟩ := k T.heap.size hb T' ⟨vm0, k0, _, X', hZ, hown, hS, by rw [e']; exact Nat.le_trans hk E.1, N, by rw [e']; exact Ch.trans (CHr.ext E Ch.1), by rw [e']; exact H.new Ch.1 E Ar.1 hP⟩
  exact ⟨s₂, o, st _ st', r⟩
theorem Go.aastore (hd : Dec B.bytes tb) (i : Nat) {a y : Addr} {C ad K : String} {vs vs' : List Value} {j : Int32} {P : Cell → Prop} (hi : tb[i]? = some (pc, .aastore, 1)) (h : InB j vs.length) (m : (y, P) ∈ (a, RarP A C ad vs) :: F ∨ (y, P) ∈ G) (hP : ∀ c, P c → ClP A.Z K c) (wc : (Cond.castable K C).before A.a0 A.Z = true) (hv : vs.set j.toInt.toNat (.ref y) = vs')
    (k : Go A B D Q (pc + 1) L rest ((a, RarP A C ad vs') :: F) G cells slots) : Go A B D Q pc L (.ref y :: .int j :: .ref a :: rest) ((a, RarP A C ad vs) :: F) G cells slots := fun hb T hT => by
  obtain ⟨vm0, k0, locs, X, hZ, hown, hS, hk, N, Ch, H⟩ := hT
  obtain ⟨c, e, p⟩ := H.at (a := a) (P := RarP A C ad vs) (Or.inl (List.mem_cons_self ..))
  obtain ⟨cy, ey, py⟩ := H.at m
  obtain ⟨T', h', X', e', W, st⟩ := stR X hb.1 hZ rfl (cl := c) (ty := .object C) ⟨e, p.1.1.1, p.1.1.2.1⟩ (j := j) (by rw [p.1.1.size]; exact h.in) rfl (Sto.of ⟨e, p.1.1.1, p.1.1.2.1⟩ p.2 (Ins.of_exa ((hP cy py).exa ey) wc)) (g := mkF D.m pc L.toArray (.ref y :: .int j :: .ref a :: rest)) rfl rfl (own_dec hd hb hi)
  have sa := H.2.2.2.2 _ (List.mem_cons_self ..)
  obtain ⟨s₂, o, st', r⟩ := k hb T' ⟨vm0, k0, _, X', hZ, hown, hS, by rw [e', W.size]; exact hk, ⟨Fr.snoc X' N.1 sa.1, N.2⟩, by rw [e']; exact Ch.trans (CHr.wr W sa.2.1 Ch.1), by rw [e']; exact H.wr Ch.1 W (fun c P => by rw [← hv]; exact P.set _ _)⟩
  exact ⟨s₂, o, st _ st', r⟩
theorem Go.clone (hd : Dec B.bytes tb) (i : Nat) {ix W cap : Nat} {a : Addr} {ty : FieldType} {ad : String} {vs : List Value} {P : Cell → Prop} (hi : tb[i]? = some (pc, .invokevirtual ix, 3))
    (w1 : (Cond.methodLink B.y.cls ix ⟨ad, "clone", "()Ljava/lang/Object;"⟩).before A.a0 A.Z = true) (w2 : (Cond.sameMethod ad "java/lang/Object" "clone" "()Ljava/lang/Object;").before A.a0 A.Z = true) (w3 : (Cond.native ⟨"java/lang/Object", "clone", "()Ljava/lang/Object;"⟩).before A.a0 A.Z = true)
    (w4 : (Cond.instanceMethod ⟨"java/lang/Object", "clone", "()Ljava/lang/Object;"⟩).before A.a0 A.Z = true) (w5 : (Cond.selects ad ⟨ad, "clone", "()Ljava/lang/Object;"⟩ ⟨"java/lang/Object", "clone", "()Ljava/lang/Object;"⟩).before A.a0 A.Z = true) (w6 : (Cond.castable ad "java/lang/Cloneable").before A.a0 A.Z = true)
    (m : (a, P) ∈ F ∨ (a, P) ∈ G) (hP : ∀ c, P c → ArkP A ty ad vs c) (hfl : FitsL ty vs) (hL : L.length = B.maxL) (hW : (rest.map fun v => v.category).sum ≤ W) (hf : 1 ≤ B.rm.frames) (hl : W + 14 ≤ B.rm.locals) (hcap : vs.length ≤ cap) (hc : cells + 1 ≤ B.rm.cells) (hs : slots + cap ≤ B.rm.slots)
    (k : ∀ b : Addr, Go A B D Q (pc + 3) L (.ref b :: rest) ((b, ArkP A ty ad vs) :: F) G (cells + 1) (slots + cap)) : Go A B D Q pc L (.ref a :: rest) F G cells slots := fun hb T hT => by
  obtain ⟨vm0, k0, locs, X, hZ, hown, hS, hk, N, Ch, H⟩ := hT
  obtain ⟨c, e, p0⟩ := H.at m
  have p := hP c p0
  have Ar : Arr A.Z T.heap a c ty := ⟨e, p.1.1, p.1.2.1⟩
  obtain ⟨T', h', X', e', E, Ar', Ex, st⟩ := cloneA X hb.1 hZ hown w1 w2 w3 w4 w5 w6 rfl Ar (p.2.exa e) (fitC_of Ar fun i hi v hv => hfl v (by rw [← p.1.2.2]; exact List.mem_of_getElem? (by rw [Array.getElem?_toList]; exact hv))) (g := mkF D.m pc L.toArray (.ref a :: rest)) rfl (by rw [hb.2.2.1, ← hL]; simp) rfl (own_dec hd hb hi) hf (W := W) (by show 2 * 0 + _ ≤ _; omega) hl (by rw [p.1.size]; exact hcap) hc hs
  have hP : ArkP A ty ad vs (cloneOf c) := by
    obtain ⟨c1, k1, q1, q2, q3, q4, q5⟩ := Ex
    cases Ar'.1.symm.trans q1
    exact ⟨⟨Ar'.2.1, Ar'.2.2, p.1.2.2⟩, k1, q2, q3, q4, Ar'.2.2, q5⟩
  obtain ⟨s₂, o, st', r⟩ := k T.heap.size hb T' ⟨vm0, k0, _, X', hZ, hown, hS, by rw [e']; exact Nat.le_trans hk E.1, N, by rw [e']; exact Ch.trans (CHr.ext E Ch.1), by rw [e']; exact H.new Ch.1 E Ar'.1 hP⟩
  exact ⟨s₂, o, st _ st', r⟩
theorem Go.castUp (hd : Dec B.bytes tb) (i : Nat) {ix : Nat} {a : Addr} {C K : String} {P : Cell → Prop} (hi : tb[i]? = some (pc, .checkcast ix, 3)) (w : (Cond.classLink B.y.cls ix K).before A.a0 A.Z = true) (m : (a, P) ∈ F ∨ (a, P) ∈ G) (hP : ∀ c, P c → ClP A.Z C c) (wc : (Cond.castable C K).before A.a0 A.Z = true)
    (k : Go A B D Q (pc + 3) L (.ref a :: rest) F G cells slots) : Go A B D Q pc L (.ref a :: rest) F G cells slots :=
  Go.stay (fun hb T vm0 locs X hZ hown H => by
    obtain ⟨c, e, p⟩ := H.at m
    obtain ⟨T', X', e', st⟩ := Jvm.RoadKit.castY X hb.1 hZ hown w rfl (Ins.of_exa ((hP c p).exa e) wc) (g := mkF D.m pc L.toArray (.ref a :: rest)) rfl rfl (own_dec hd hb hi)
    exact ⟨T', X', e', st⟩) k
theorem Go.castN (hd : Dec B.bytes tb) (i : Nat) {ix : Nat} (hi : tb[i]? = some (pc, .checkcast ix, 3)) (k : Go A B D Q (pc + 3) L (.null :: rest) F G cells slots) : Go A B D Q pc L (.null :: rest) F G cells slots :=
  Go.stay (fun hb T vm0 locs X hZ hown H => ⟨T, X, rfl, fun target st => Jvm.Stand.checkcastNull X hb.1 (g := mkF D.m pc L.toArray (.null :: rest)) rfl rfl (own_dec hd hb hi) target st⟩) k
theorem Go.getfieldNest (hd : Dec B.bytes tb) (i : Nat) {ix : Nat} {a : Addr} {C O n d host : String} {v : Value} {fs : List (String × String × String × Value)} (hi : tb[i]? = some (pc, .getfield ix, 3)) (w : (Cond.fieldLinkNest B.y.cls ix O n d host).before A.a0 A.Z = true)
    (m : (a, ObjP A C fs) ∈ F ∨ (a, ObjP A C fs) ∈ G) (hf : (O, n, d, v) ∈ fs) (k : Go A B D Q (pc + 3) L (v :: rest) F G cells slots) : Go A B D Q pc L (.ref a :: rest) F G cells slots :=
  Go.stay (fun hb T vm0 locs X hZ hown H => by
    obtain ⟨c, e, P⟩ := H.at m
    obtain ⟨T', X', e', st⟩ := getF X hb.1 hZ hown (host := host) (Or.inr w) Via.refl rfl ((P.2 _ hf).fld P.1 e) (g := mkF D.m pc L.toArray (.ref a :: rest)) rfl rfl (own_dec hd hb hi)
    exact ⟨T', X', e', st⟩) k
theorem Go.putfieldVia (hd : Dec B.bytes tb) (i : Nat) {ix kk : Nat} {a : Addr} {C O R0 n d : String} {v w0 : Value} {fs fs' : List (String × String × String × Value)} {ty : FieldType} (hi : tb[i]? = some (pc, .putfield ix, 3)) (w : (Cond.fieldLink B.y.cls ix R0 n d).before A.a0 A.Z = true) (via : Via A.Z R0 O n d)
    (hl : (Cond.lays C O n d).before A.a0 A.Z = true) (wi : (Cond.instantiable C kk).before A.a0 A.Z = true) (hty : parseFieldDescriptor d = some ty) (hn : narrow ty v = v) (hfi : fits ty v = true)
    (hm : (O, n, d, w0) ∈ fs) (hf : ∀ q ∈ fs', q = (O, n, d, v) ∨ (q ∈ fs ∧ q.2.1 ≠ n)) (k : Go A B D Q (pc + 3) L rest ((a, ObjP A C fs') :: F) G cells slots) : Go A B D Q pc L (v :: .ref a :: rest) ((a, ObjP A C fs) :: F) G cells slots :=
  Go.wrote (fun hb T vm0 locs c X hZ hown e P => by
    obtain ⟨T', h', X', e', W, st⟩ := putF X hb.1 hZ hown (host := "") (Or.inl w) via rfl ((P.2 _ hm).fld P.1 e) (P.1.exa e) (Or.inl hl) wi hty hn hfi (g := mkF D.m pc L.toArray (v :: .ref a :: rest)) rfl rfl (own_dec hd hb hi)
    exact ⟨T', h', X', e', W, st⟩) (fun c P => P.set hm hf) k
theorem Go.callI (hd : Dec B.bytes tb) (i : Nat) {ix W cnt : Nat} {B' : Bx} {xi : MethodName} {C : String} {a : Addr} {argsL : List Value} {as' : Array Value} {Qc : Pst} {P : Cell → Prop} {ps : List FieldType} {rt : Option FieldType} (hi : tb[i]? = some (pc, .invokeinterface ix cnt, 5)) (hM : Met A B' as' F G Qc) (m : (a, P) ∈ F ∨ (a, P) ∈ G) (hP : ∀ c, P c → ClP A.Z C c)
    (w1 : (Cond.methodLink B.y.cls ix xi).before A.a0 A.Z = true) (w2 : (Cond.declares xi).before A.a0 A.Z = true) (wf : (Cond.interfaceMethod xi.cls xi.cls xi.name xi.desc).before A.a0 A.Z = true) (w4 : (Cond.selects C xi B'.y).before A.a0 A.Z = true) (w3 : (Cond.instanceMethod B'.y).before A.a0 A.Z = true) (wp : (Cond.publicMethod B'.y).before A.a0 A.Z = true) (wu : (Cond.unhidden C xi.name xi.desc).before A.a0 A.Z = true) (wk : (Cond.castable C xi.cls).before A.a0 A.Z = true) (wz : (Cond.initialized B'.y.cls).before A.a0 A.Z = true) (wc : (Cond.code B'.y B'.bytes B'.maxL B'.ret).before A.a0 A.Z = true)
    (hy : xi.cls ≠ "java/lang/invoke/MethodHandle" ∧ xi.cls ≠ "java/lang/invoke/VarHandle") (hds : parseMethodDescriptor xi.desc = some ⟨ps, rt⟩) (has : (Value.ref a :: argsL).toArray = as') (hlen : argsL.length = ps.length) (hstk : S = argsL.reverse ++ .ref a :: rest) (hL : L.length = B.maxL) (hW : (rest.map fun v => v.category).sum ≤ W)
    (hf : B'.rm.frames + 1 ≤ B.rm.frames) (hl : W + (B'.maxL + 11) + B'.rm.locals ≤ B.rm.locals) (hc : cells + B'.rm.cells ≤ B.rm.cells) (hs : slots + B'.rm.slots ≤ B.rm.slots)
    (k : ∀ v F' G', Qc v F' G' → Go A B D Q (pc + 5) L (v.toList ++ rest) F' G' (cells + B'.rm.cells) (slots + B'.rm.slots)) : Go A B D Q pc L S F G cells slots := fun hb T hT => by
  subst hstk
  obtain ⟨vm0, k0, locs, X, hZ, hown, hS, hk, N, Ch, H⟩ := hT
  obtain ⟨c, e, hp0⟩ := H.at m
  obtain ⟨cB, kB, q1, q2, q3⟩ := (hP c hp0).isOf (A := A) (D := D) hZ e
  obtain ⟨v, vm1, P, hU0, X', hS2, hg, hp, hsteps⟩ := X.interfaceBackS hb.1 hown (mv (s := D.s.setVm vm0) hZ w1) (mv (s := D.s.setVm vm0) hZ w2) (mv (s := D.s.setVm vm0) hZ wf (by simp [Cond.onTables, Cond.keepsFace, Cond.keeps, Cond.steady, Cond.faceAtom]; exact hy)) (mv (s := D.s.setVm vm0) hZ w4) (mv (s := D.s.setVm vm0) hZ w3) (mv (s := D.s.setVm vm0) hZ wp) (mv (s := D.s.setVm vm0) hZ wu) (mv (s := D.s.setVm vm0) hZ wk) hy (own_back (W := W) hM hb.2.2.2.2.2.2 hZ Ch.1 H wc wz hf hl) q1 q2 q3 (g := mkF D.m pc L.toArray (argsL.reverse ++ .ref a :: rest)) rfl (by rw [hb.2.2.1, ← hL]; simp) (Steps.refl _)
    (lenOf hds hlen) rfl (by show 2 * 0 + _ ≤ _; omega) (own_dec hd hb hi) (fun _ _ => ⟨has, rfl, hc, hs⟩)
  exact own_after (U0 := T.setVm vm1) k hb hZ hown hS hk N hU0 Ch X' hS2 hg hp hsteps
/-- invokevirtual of y, which selects z -/
theorem Go.callVZ (hd : Dec B.bytes tb) (i : Nat) {ix W : Nat} {B' : Bx} {y y2 : MethodName} {C : String} {a : Addr} {argsL : List Value} {as' : Array Value} {Qc : Pst} {P : Cell → Prop} {ps : List FieldType} {rt : Option FieldType} (hi : tb[i]? = some (pc, .invokevirtual ix, 3)) (hM : Met A B' as' F G Qc) (m : (a, P) ∈ F ∨ (a, P) ∈ G) (hP : ∀ c, P c → ClP A.Z C c)
    (w1 : (Cond.methodLink B.y.cls ix y).before A.a0 A.Z = true) (w2 : (Cond.declares y).before A.a0 A.Z = true) (w3 : (Cond.instanceMethod B'.y).before A.a0 A.Z = true) (w4 : (Cond.selects C y B'.y).before A.a0 A.Z = true) (w5 : (Cond.selects C y2 y2).before A.a0 A.Z = true) (h5 : y2.cls = y.cls) (wz : (Cond.initialized B'.y.cls).before A.a0 A.Z = true) (wc : (Cond.code B'.y B'.bytes B'.maxL B'.ret).before A.a0 A.Z = true)
    (hy : y.cls ≠ "java/lang/invoke/MethodHandle" ∧ y.cls ≠ "java/lang/invoke/VarHandle") (hds : parseMethodDescriptor y.desc = some ⟨ps, rt⟩) (has : (Value.ref a :: argsL).toArray = as') (hlen : argsL.length = ps.length) (hstk : S = argsL.reverse ++ .ref a :: rest) (hL : L.length = B.maxL) (hW : (rest.map fun v => v.category).sum ≤ W)
    (hf : B'.rm.frames + 1 ≤ B.rm.frames) (hl : W + (B'.maxL + 11) + B'.rm.locals ≤ B.rm.locals) (hc : cells + B'.rm.cells ≤ B.rm.cells) (hs : slots + B'.rm.slots ≤ B.rm.slots)
    (k : ∀ v F' G', Qc v F' G' → Go A B D Q (pc + 3) L (v.toList ++ rest) F' G' (cells + B'.rm.cells) (slots + B'.rm.slots)) : Go A B D Q pc L S F G cells slots := fun hb T hT => by
  subst hstk
  obtain ⟨vm0, k0, locs, X, hZ, hown, hS, hk, N, Ch, H⟩ := hT
  obtain ⟨c, e, hp0⟩ := H.at m
  obtain ⟨cB, kB, q1, q2, q3⟩ := (hP c hp0).isOf (A := A) (D := D) hZ e
  obtain ⟨v, vm1, P, hU0, X', hS2, hg, hp, hsteps⟩ := X.virtualBackS hb.1 hown (mv (s := D.s.setVm vm0) hZ w1) (mv (s := D.s.setVm vm0) hZ w2) (own_notface (mv (s := D.s.setVm vm0) (args := #[]) hZ w5) h5) (mv (s := D.s.setVm vm0) hZ w4) (mv (s := D.s.setVm vm0) hZ w3) hy (own_back (W := W) hM hb.2.2.2.2.2.2 hZ Ch.1 H wc wz hf hl) q1 q3 (g := mkF D.m pc L.toArray (argsL.reverse ++ .ref a :: rest)) rfl (by rw [hb.2.2.1, ← hL]; simp) (Steps.refl _)
    (lenOf hds hlen) rfl (by show 2 * 0 + _ ≤ _; omega) (own_dec hd hb hi) (fun _ _ => ⟨has, rfl, hc, hs⟩)
  exact own_after (U0 := T.setVm vm1) k hb hZ hown hS hk N hU0 Ch X' hS2 hg hp hsteps
/-- invokespecial of the superclass's method -/
theorem own_same {a0 : Array Value} {Z : State} {C : String} {y y2 : MethodName} (w3 : (Cond.instanceMethod y).before a0 Z = true) (w5 : (Cond.selects C y2 y2).before #[] Z = true) (h5 : y2.cls = y.cls) (hy : y.cls ≠ "java/lang/invoke/MethodHandle" ∧ y.cls ≠ "java/lang/invoke/VarHandle") : (Cond.sameMethod y.cls y.cls y.name y.desc).before a0 Z = true := by
  obtain ⟨mk, methM, hnamed, hmethM, hstM, habM⟩ := Cond.instanceMethod_spec w3
  obtain ⟨kr, h1, h2⟩ := own_notface (y := y) w5 h5 mk hnamed
  have hc := findClass_of_methodNamed hnamed
  have hf := State.methodFound?_of_named hnamed hy
  have hn : Z.methodNamed? ⟨y.cls, y.name, y.desc⟩ = some mk := hnamed
  simp [Cond.before, Cond.holds, Cond.value, hc, hf, hn, h1, h2]
theorem Go.callSup (hd : Dec B.bytes tb) (i : Nat) {ix W : Nat} {B' : Bx} {K C : String} {y2 : MethodName} {a : Addr} {argsL : List Value} {as' : Array Value} {Qc : Pst} {P : Cell → Prop} {ps : List FieldType} {rt : Option FieldType} (hi : tb[i]? = some (pc, .invokespecial ix, 3)) (hM : Met A B' as' F G Qc) (m : (a, P) ∈ F ∨ (a, P) ∈ G) (hP : ∀ c, P c → ClP A.Z C c)
    (w1 : (Cond.methodLink B.y.cls ix B'.y).before A.a0 A.Z = true) (w3 : (Cond.instanceMethod B'.y).before A.a0 A.Z = true) (w4 : (Cond.superclass B.y.cls B'.y.cls).before A.a0 A.Z = true) (w5 : (Cond.selects K y2 y2).before #[] A.Z = true) (h5 : y2.cls = B'.y.cls) (hn : B'.y.name ≠ "<init>") (wz : (Cond.initialized B'.y.cls).before A.a0 A.Z = true) (wc : (Cond.code B'.y B'.bytes B'.maxL B'.ret).before A.a0 A.Z = true)
    (hy : B'.y.cls ≠ "java/lang/invoke/MethodHandle" ∧ B'.y.cls ≠ "java/lang/invoke/VarHandle") (hds : parseMethodDescriptor B'.y.desc = some ⟨ps, rt⟩) (has : (Value.ref a :: argsL).toArray = as') (hlen : argsL.length = ps.length) (hstk : S = argsL.reverse ++ .ref a :: rest) (hL : L.length = B.maxL) (hW : (rest.map fun v => v.category).sum ≤ W)
    (hf : B'.rm.frames + 1 ≤ B.rm.frames) (hl : W + (B'.maxL + 11) + B'.rm.locals ≤ B.rm.locals) (hc : cells + B'.rm.cells ≤ B.rm.cells) (hs : slots + B'.rm.slots ≤ B.rm.slots)
    (k : ∀ v F' G', Qc v F' G' → Go A B D Q (pc + 3) L (v.toList ++ rest) F' G' (cells + B'.rm.cells) (slots + B'.rm.slots)) : Go A B D Q pc L S F G cells slots := fun hb T hT => by
  subst hstk
  obtain ⟨vm0, k0, locs, X, hZ, hown, hS, hk, N, Ch, H⟩ := hT
  obtain ⟨c, e, hp0⟩ := H.at m
  obtain ⟨v, vm1, P, hU0, X', hS2, hg, hp, hsteps⟩ := superBackS X hb.1 hZ hown w1 (own_same w3 w5 h5 hy) w3 w4 hn (own_back (W := W) hM hb.2.2.2.2.2.2 hZ Ch.1 H wc wz hf hl) rfl (Ins.self ((hP c hp0).exa e)) (g := mkF D.m pc L.toArray (argsL.reverse ++ .ref a :: rest)) rfl (by rw [hb.2.2.1, ← hL]; simp) wc
    (lenOf hds hlen) rfl (by show 2 * 0 + _ ≤ _; omega) (own_dec hd hb hi) (fun _ _ => ⟨has, rfl, hc, hs⟩)
  exact own_after (U0 := T.setVm vm1) k hb hZ hown hS hk N hU0 Ch X' hS2 hg hp hsteps
/-- invokevirtual of a private method; her class is told no interface by a word 'selects' -/
theorem Go.callPS (hd : Dec B.bytes tb) (i : Nat) {ix W : Nat} {y2 : MethodName} {K2 : String} {B' : Bx} {a : Addr} {argsL : List Value} {as' : Array Value} {Qc : Pst} {P : Cell → Prop} {ps : List FieldType} {rt : Option FieldType} (hi : tb[i]? = some (pc, .invokevirtual ix, 3)) (hM : Met A B' as' F G Qc) (m : (a, P) ∈ F ∨ (a, P) ∈ G) {C : String} (hP : ∀ c, P c → ClP A.Z C c)
    (w1 : (Cond.methodLink B.y.cls ix B'.y).before A.a0 A.Z = true) (w3 : (Cond.instanceMethod B'.y).before A.a0 A.Z = true) (w4 : (Cond.privateMethod B'.y).before A.a0 A.Z = true) (w5 : (Cond.selects K2 y2 y2).before A.a0 A.Z = true) (h5 : y2.cls = B'.y.cls) (wz : (Cond.initialized B'.y.cls).before A.a0 A.Z = true) (wc : (Cond.code B'.y B'.bytes B'.maxL B'.ret).before A.a0 A.Z = true)
    (hy : B'.y.cls ≠ "java/lang/invoke/MethodHandle" ∧ B'.y.cls ≠ "java/lang/invoke/VarHandle") (hds : parseMethodDescriptor B'.y.desc = some ⟨ps, rt⟩) (has : (Value.ref a :: argsL).toArray = as') (hlen : argsL.length = ps.length) (hstk : S = argsL.reverse ++ .ref a :: rest) (hL : L.length = B.maxL) (hW : (rest.map fun v => v.category).sum ≤ W)
    (hf : B'.rm.frames + 1 ≤ B.rm.frames) (hl : W + (B'.maxL + 11) + B'.rm.locals ≤ B.rm.locals) (hc : cells + B'.rm.cells ≤ B.rm.cells) (hs : slots + B'.rm.slots ≤ B.rm.slots)
    (k : ∀ v F' G', Qc v F' G' → Go A B D Q (pc + 3) L (v.toList ++ rest) F' G' (cells + B'.rm.cells) (slots + B'.rm.slots)) : Go A B D Q pc L S F G cells slots := fun hb T hT => by
  subst hstk
  obtain ⟨vm0, k0, locs, X, hZ, hown, hS, hk, N, Ch, H⟩ := hT
  obtain ⟨c, e, hp0⟩ := H.at m
  obtain ⟨k9, -, -, hst, -, -⟩ := hP c hp0
  have hB := own_back (B := B) (D := D) (len := 3) (W := W) hM hb.2.2.2.2.2.2 hZ Ch.1 H wc wz hf hl
  obtain ⟨mk, methM, hnamed, hmethM, hstM, habM⟩ := Cond.instanceMethod_spec (mv (s := D.s.setVm vm0) (args := #[]) hZ w3)
  obtain ⟨methM', cM, hmethM', -, -, -, -, -, -, hsigM⟩ := Cond.code_spec hnamed (mv (s := D.s.setVm vm0) (args := #[]) hZ wc)
  cases hmethM.symm.trans hmethM'
  obtain ⟨k7, i2, hni⟩ := own_notface (mv (s := D.s.setVm vm0) (args := #[]) hZ w5) h5 mk hnamed
  have hpriv := Cond.privateMethod_at (mvP (s := D.s.setVm vm0) (args := #[]) hZ w4)
  have hselP : selectMethod D.e.platform (D.s.setVm vm0).vm c.cls mk = .method mk := selectMethod_private hmethM (hpriv mk methM hnamed hmethM)
  obtain ⟨vm₁, X₁, hstep₁⟩ := X.invokevirtual hb.1 hown (mv (s := D.s.setVm vm0) hZ w1) hnamed hmethM hstM i2 hni hy (a := a) (cell := c) e (fun q z => by rw [z] at hst; cases hst) hselP hmethM habM i2 hni (g := mkF D.m pc L.toArray (argsL.reverse ++ .ref a :: rest)) rfl (argsL := argsL) (rest := rest) (lenOf hds hlen _ hsigM) rfl (own_dec hd hb hi)
  have hW₁ : (D.s.setVm vm0).WarmedH vm₁ := X₁.warmed
  obtain ⟨v, P2, X', hS2, hg, hp, hsteps⟩ := hB D.m D.meth D.c ⟨T.setVm vm₁, locs, cells, slots⟩ (mkF D.m pc L.toArray rest) (.invokevirtual ix) mk as' X₁ rfl (by show L.toArray.size = _; rw [hb.2.2.1, ← hL]; simp) (own_dec hd hb hi) (by show 2 * 0 + (rest.map fun v => v.category).sum ≤ W; omega) (X₁.named hnamed) ⟨rfl, rfl, hc, hs⟩
  exact own_after (U0 := T.setVm vm₁) k hb hZ hown hS hk N hW₁ Ch X' hS2 hg hp ((hstep₁ _ fun acts => by rw [doInvoke_state, has]; exact Steps.refl _).trans hsteps)
end Own
/-! own_10: what the sheet tells of the heap at the start -/
def ElemsAt (A : Ax) (t : Term) : Nat → List Value → Prop
  | _, [] => True
  | i, v :: r => (Term.elem t (.int (nI i))).eval A.a0 A.Z none [] A.Z = some v ∧ ElemsAt A t (i + 1) r
theorem ElemsAt.get {A : Ax} {t : Term} {a : Addr} {c : Cell} (ev : t.eval A.a0 A.Z none [] A.Z = some (.ref a)) (hc : A.Z.heap[a]? = some c) : ∀ (vs : List Value) (i : Nat), i + vs.length < 2 ^ 31 → ElemsAt A t i vs → ∀ j, j < vs.length → c.slots[i + j]? = vs[j]?
  | [], _, _, _, _, q => by simp at q
  | v :: r, i, hl, h, 0, _ => by
    have q := (elem_in h.1 ev (Term.int_eval _) hc).2
    have e : (nI i).toNatClampNeg = i := nI_nat (by simp only [List.length_cons] at hl; omega)
    rw [e] at q; simpa using q
  | v :: r, i, hl, h, j + 1, q => by
    have := ElemsAt.get ev hc r (i + 1) (by simp only [List.length_cons] at hl; omega) h.2 j (by simpa using q)
    rw [show i + (j + 1) = i + 1 + j by omega, this]; simp
theorem st_eq {args : Array Value} {s : State} {a b : Term} {y : Value} (h : (Cond.eq a b).value args s none s [] = some true) (hb : b.eval args s none [] s = some y) : a.eval args s none [] s = some y := by
  obtain ⟨z, h1, h2⟩ := Cond.eq_one (Cond.before_iff.mpr h)
  rw [h1]; exact h2.symm.trans hb
theorem arr_start {A : Ax} {t : Term} {a : Addr} {ty : FieldType} {n : Int32} {vs : List Value} (ev : t.eval A.a0 A.Z none [] A.Z = some (.ref a)) (hA : (Cond.arrayOf t ty).value A.a0 A.Z none A.Z [] = some true) (hl : (Cond.eq (.length t) (.int n)).value A.a0 A.Z none A.Z [] = some true) (hn : n = nI vs.length) (hv : vs.length < 2 ^ 31) (H : ElemsAt A t 0 vs) : ∃ c : Cell, A.Z.heap[a]? = some c ∧ ArrP A ty vs c := by
  obtain ⟨c, Ar⟩ := Arr.start ev hA
  have hl' := st_eq hl (Term.int_eval n)
  have ha := Arr.fin (Vm.Alike.refl _) Ar
  have hs : c.slots.size = vs.length := by
    by_cases hb : c.slots.size < 2 ^ 31
    · have := (len_f ev ha hb).symm.trans hl'
      simp only [Option.some.injEq, Value.int.injEq] at this
      have h1 := len_toInt hb
      rw [this, hn, nI_toInt hv] at h1; omega
    · simp [Term.eval, ev, ha, hb] at hl'
  refine ⟨c, Ar.1, Ar.2.1, Ar.2.2, List.ext_getElem? fun j => ?_⟩
  rw [Array.getElem?_toList]
  by_cases hj : j < vs.length
  · have := ElemsAt.get ev Ar.1 vs 0 (by omega) H j hj
    rw [Nat.zero_add] at this; exact this
  · rw [Array.getElem?_eq_none (by omega), List.getElem?_eq_none (by omega)]
theorem obj_start {A : Ax} {a : Addr} {C : String} {q0 : String × String × String × Value} {fs : List (String × String × String × Value)} (E : Exa A.Z A.Z.heap a C) (hf : ∀ q ∈ q0 :: fs, Laid A.Z A.a0 C q.1 q.2.1 q.2.2.1 ∧ (∃ t, parseFieldDescriptor q.2.2.1 = some t) ∧ Fld A.Z A.Z.heap a q.1 q.2.1 q.2.2.1 q.2.2.2) : ∃ c : Cell, A.Z.heap[a]? = some c ∧ ObjP A C (q0 :: fs) c := by
  obtain ⟨c, k, e1, e2, e3, e4, e5⟩ := E
  obtain ⟨c1, cf1, k1, i1, f1, g1, -, -, gu, -⟩ := (hf q0 (List.mem_cons_self ..)).2.2
  cases e1.symm.trans g1
  refine ⟨c, e1, ⟨k, e2, e3, e4, gu, e5⟩, fun q m => ?_⟩
  obtain ⟨La, Pa, c2, cf, kk, i, f, h1, h2, -, -, -, -, h7⟩ := hf q m
  cases e1.symm.trans h1
  exact ⟨La, Pa, by rw [show Jvm.RoadKit.slotOf A.Z q.1 q.2.1 q.2.2.1 = f.slot by simp [Jvm.RoadKit.slotOf, h2]]; exact h7⟩
theorem ark_start {A : Ax} {a : Addr} {ty : FieldType} {ad : String} {vs : List Value} (E : Exa A.Z A.Z.heap a ad) (h : ∃ c : Cell, A.Z.heap[a]? = some c ∧ ArrP A ty vs c) : ∃ c : Cell, A.Z.heap[a]? = some c ∧ ArkP A ty ad vs c := by
  obtain ⟨c, e, p⟩ := h
  obtain ⟨c1, k, e1, e2, e3, e4, e5⟩ := E
  cases e.symm.trans e1
  exact ⟨c, e, p, k, e2, e3, e4, p.2.1, e5⟩
theorem allG_cons {h : Heap} {q : Ent} {G : List Ent} (h1 : ∃ c : Cell, h[q.1]? = some c ∧ q.2 c) (h2 : ∀ r ∈ G, ∃ c : Cell, h[r.1]? = some c ∧ r.2 c) : ∀ r ∈ q :: G, ∃ c : Cell, h[r.1]? = some c ∧ r.2 c := fun r m => by
  rcases List.mem_cons.mp m with rfl | m
  · exact h1
  · exact h2 r m
theorem allG_nil {h : Heap} : ∀ r ∈ ([] : List Ent), ∃ c : Cell, h[r.1]? = some c ∧ r.2 c := fun _ m => nomatch m
theorem fs_cons {P : String × String × String × Value → Prop} {q : String × String × String × Value} {fs : List (String × String × String × Value)} (h1 : P q) (h2 : ∀ r ∈ fs, P r) : ∀ r ∈ q :: fs, P r := fun r m => by
  rcases List.mem_cons.mp m with rfl | m
  · exact h1
  · exact h2 r m
theorem fs_nil {P : String × String × String × Value → Prop} : ∀ r ∈ ([] : List (String × String × String × Value)), P r := fun _ m => nomatch m
/-! own_11: a literal that is not read; instanceof that says no -/
theorem own_no {Z : State} {a0 : Array Value} {C S K : String} {n : Nat} (w : (Cond.superclass C S).before a0 Z = true) (w0 : (Cond.noSuperclass S).before a0 Z = true) (wk : (Cond.instantiable K n).before a0 Z = true) (n1 : C ≠ K) (n2 : S ≠ K) : ∃ c t, Z.vm.findClass C = some c ∧ Z.vm.findClass K = some t ∧ Z.vm.assignable c t = false := by
  obtain ⟨cs, ks, a1, a2, a3, -, -⟩ := Cond.noSuperclass_spec w0
  obtain ⟨t, kt, b1, b2, b3, b4, -⟩ := Cond.instantiable_spec wk
  obtain ⟨c, hc⟩ := found_sup w
  obtain ⟨p, k, kp, h1, h2, h3, h4, h5, -, h7⟩ := Cond.superclass_spec hc w
  cases a1.symm.trans h1
  have hni : kt.isInterface = false := by
    cases hq : kt.isInterface
    · rfl
    · rw [hq] at b4; simp at b4
  have ne := ids_ne hc b1 n1
  have ne2 := ids_ne a1 b1 n2
  have sub : ∀ f, Z.vm.isSubclassAux f c t = false := fun f => by
    cases f with
    | zero => rfl
    | succ f =>
      cases f with
      | zero => simp [Vm.isSubclassAux, ne, h2, h4]
      | succ f => simp [Vm.isSubclassAux, ne, ne2, h2, h4, a2, a3]
  refine ⟨c, t, hc, b1, ?_⟩
  show Z.vm.assignableAux (255 + 1) c t = false
  simp [Vm.assignableAux, ne, h2, b2, h5, b3, hni, Vm.isSubclass, sub]
section Own
variable {A : Ax} {B : Bx} {D : Dx} {Q : Pst} {pc pc' : Nat} {L L' : List Slot} {S S' rest : List Value} {F F' G G' : List Ent} {cells slots : Nat} {tb : List In1}
theorem Go.ldcO (hd : Dec B.bytes tb) (i : Nat) {ix n : Nat} {text : String} (hi : tb[i]? = some (pc, .ldc ix, 2)) (w : (Cond.stringLink B.y.cls ix text).before A.a0 A.Z = true) (wS : ∀ a ∈ Bundle.stringAtoms, a.before A.a0 A.Z = true) (hwm : A.wm = true)
    (hn : 4 * text.toList.length ≤ n) (hbig : n ≤ 536870912) (hc : cells + 2 ≤ B.rm.cells) (hl : slots + (n + 4) ≤ B.rm.slots)
    (k : ∀ a : Addr, Go A B D Q (pc + 2) L (.ref a :: S) F G (cells + 2) (slots + (n + 4))) : Go A B D Q pc L S F G cells slots := fun hb T hT => by
  obtain ⟨vm0, k0, locs, X, hZ, hown, hS, hk, N, Ch, H⟩ := hT
  obtain ⟨a, T', h', k1, X', e', E, hS', hk', hZ', hown', C', -, st⟩ := ldcOH X hb.1 hZ hown w wS rfl hS hk hb.2.2.2.2.2.2 Ch.1 (g := mkF D.m pc L.toArray S) rfl (own_dec hd hb hi) hn hbig hc hl
  subst e'
  obtain ⟨s₂, o, st', r⟩ := k a hb T' ⟨T'.vm, k1, locs, X', hZ', hown', hS', hk', ⟨N.1, fun z => by rw [hwm] at z; cases z⟩, Ch.trans C', H.later C' E⟩
  exact ⟨s₂, o, st _ st', r⟩
theorem Go.instNull (hd : Dec B.bytes tb) (i : Nat) {ix : Nat} (hi : tb[i]? = some (pc, .instanceof ix, 3)) (k : Go A B D Q (pc + 3) L (.int 0 :: rest) F G cells slots) : Go A B D Q pc L (.null :: rest) F G cells slots :=
  Go.stay (fun hb T vm0 locs X hZ hown H => ⟨T, X, rfl, fun target st => Jvm.Stand.instanceofNull X hb.1 (g := mkF D.m pc L.toArray (.null :: rest)) rfl rfl (own_dec hd hb hi) target st⟩) k
theorem Go.instNo (hd : Dec B.bytes tb) (i : Nat) {ix : Nat} {a : Addr} {C K : String} {P : Cell → Prop} (hi : tb[i]? = some (pc, .instanceof ix, 3)) (w : (Cond.classLink B.y.cls ix K).before A.a0 A.Z = true) (m : (a, P) ∈ F ∨ (a, P) ∈ G) (hP : ∀ c, P c → ClP A.Z C c) (hno : ∃ c t, A.Z.vm.findClass C = some c ∧ A.Z.vm.findClass K = some t ∧ A.Z.vm.assignable c t = false)
    (k : Go A B D Q (pc + 3) L (.int 0 :: rest) F G cells slots) : Go A B D Q pc L (.ref a :: rest) F G cells slots :=
  Go.stay (fun hb T vm0 locs X hZ hown H => by
    obtain ⟨c, e, p⟩ := H.at m
    obtain ⟨T', X', e', st⟩ := Jvm.RoadKit.instNo X hb.1 hZ hown w rfl ((hP c p).exa e) hno (g := mkF D.m pc L.toArray (.ref a :: rest)) rfl rfl (own_dec hd hb hi)
    exact ⟨T', X', e', st⟩) k
end Own
/-- a String of these chars, by either way of storing them -/
def StrR (A : Ax) (G : List Ent) (a : Addr) (cs : List Int32) : Prop := ∃ b, (Lat cs ∧ StrE A a b 0 ∈ G ∧ BytE A b (latB cs) ∈ G) ∨ ((Chrs cs ∧ ¬ Lat cs) ∧ StrE A a b 1 ∈ G ∧ BytE A b (utfB cs) ∈ G)
theorem StrR.sub {A : Ax} {G G' : List Ent} {a : Addr} {cs : List Int32} (h : StrR A G a cs) (s : ∀ q ∈ G, q ∈ G') : StrR A G' a cs := by
  obtain ⟨b, ⟨h1, h2, h3⟩ | ⟨h1, h2, h3⟩⟩ := h
  · exact ⟨b, Or.inl ⟨h1, s _ h2, s _ h3⟩⟩
  · exact ⟨b, Or.inr ⟨h1, s _ h2, s _ h3⟩⟩
theorem StrR.cons {A : Ax} {G : List Ent} {a : Addr} {cs : List Int32} {q : Ent} (h : StrR A G a cs) : StrR A (q :: G) a cs := h.sub fun _ m => List.mem_cons_of_mem _ m
theorem StrR.obj {A : Ax} {G : List Ent} {a : Addr} {cs : List Int32} (h : StrR A G a cs) : ∃ b cd, StrE A a b cd ∈ G := by
  obtain ⟨b, ⟨-, h2, -⟩ | ⟨-, h2, -⟩⟩ := h
  · exact ⟨b, 0, h2⟩
  · exact ⟨b, 1, h2⟩
theorem StrR.chrs {A : Ax} {G : List Ent} {a : Addr} {cs : List Int32} (h : StrR A G a cs) : Chrs cs := by
  obtain ⟨b, ⟨h1, -⟩ | ⟨h1, -⟩⟩ := h
  · exact h1.chrs
  · exact h1.1
theorem MetW.weak {ws : List Cond} {A : Ax} {B : Bx} {as' : Array Value} {F G : List Ent} {Q Q' : Pst} (h : MetW ws A B as' F G Q) (hq : ∀ v F' G', Q v F' G' → Q' v F' G') : MetW ws A B as' F G Q' := fun p e a b c s m args below hf hap hP hK => by
  obtain ⟨n, o, h1, h2, h3, v, L, F', G', r1, r2, r⟩ := h p e a b c s m args below hf hap hP hK
  exact ⟨n, o, h1, h2, h3, v, L, F', G', r1, hq _ _ _ r2, r⟩

--CUT
def Wd (A : Ax) : Prop := (∀ d ∈ tables_1, d.before A.a0 A.Z = true) ∧ (EW A.Z A.a0 A.EL) ∧ (A.EL = consts_1) ∧ (A.wm = true) ∧ (∃ z : Int32, z ≠ 0 ∧ Sta A.Z A.Z.heap "java/lang/String" "COMPACT_STRINGS" "Z" (.int z)) ∧ (∃ v : Value, v.isRef = true ∧ Sta A.Z A.Z.heap "jdk/internal/util/Preconditions" "SIOOBE_FORMATTER" "Ljava/util/function/BiFunction;" v)
theorem Wd.tab {A : Ax} (K : Wd A) : ∀ d ∈ tables_1, d.before A.a0 A.Z = true := K.1
theorem Wd.ew {A : Ax} (K : Wd A) : EW A.Z A.a0 A.EL := K.2.1
theorem Wd.el {A : Ax} (K : Wd A) : A.EL = consts_1 := K.2.2.1
theorem Wd.wm {A : Ax} (K : Wd A) : A.wm = true := K.2.2.2.1
theorem Wd.cmpt {A : Ax} (K : Wd A) : ∃ z : Int32, z ≠ 0 ∧ Sta A.Z A.Z.heap "java/lang/String" "COMPACT_STRINGS" "Z" (.int z) := K.2.2.2.2.1
theorem Wd.sio {A : Ax} (K : Wd A) : ∃ v : Value, v.isRef = true ∧ Sta A.Z A.Z.heap "jdk/internal/util/Preconditions" "SIOOBE_FORMATTER" "Ljava/util/function/BiFunction;" v := K.2.2.2.2.2
theorem w_0 {A : Ax} (K : Wd A) : (Jvm.Cond.methodLink "com/example/callweave/callweave/model/MethodRefEqualsPinLaw" (15 : Nat) ({ cls := "com/example/callweave/callweave/model/MethodRefEqualsPinLaw", name := "ownerChar", desc := "(I)C" } : Jvm.MethodName)).before A.a0 A.Z = true   := K.tab _ (List.mem_of_getElem? (i := 0) rfl)
theorem w_1 {A : Ax} (K : Wd A) : (Jvm.Cond.static ({ cls := "com/example/callweave/callweave/model/MethodRefEqualsPinLaw", name := "ownerChar", desc := "(I)C" } : Jvm.MethodName)).before A.a0 A.Z = true   := K.tab _ (List.mem_of_getElem? (i := 1) rfl)
theorem w_2 {A : Ax} (K : Wd A) : (Jvm.Cond.initialized "com/example/callweave/callweave/model/MethodRefEqualsPinLaw").before A.a0 A.Z = true   := K.tab _ (List.mem_of_getElem? (i := 2) rfl)
theorem w_3 {A : Ax} (K : Wd A) : (Jvm.Cond.code ({ cls := "com/example/callweave/callweave/model/MethodRefEqualsPinLaw", name := "ownerChar", desc := "(I)C" } : Jvm.MethodName) method_2_code (2 : Nat) (Option.some Jvm.ClassFile.FieldType.char)).before A.a0 A.Z = true   := K.tab _ (List.mem_of_getElem? (i := 3) rfl)
theorem w_4 {A : Ax} (K : Wd A) : (Jvm.Cond.methodLink "com/example/callweave/callweave/model/MethodRefEqualsPinLaw" (20 : Nat) ({ cls := "com/example/callweave/callweave/model/MethodRefEqualsPinLaw", name := "nameChar", desc := "(I)C" } : Jvm.MethodName)).before A.a0 A.Z = true   := K.tab _ (List.mem_of_getElem? (i := 4) rfl)
theorem w_5 {A : Ax} (K : Wd A) : (Jvm.Cond.static ({ cls := "com/example/callweave/callweave/model/MethodRefEqualsPinLaw", name := "nameChar", desc := "(I)C" } : Jvm.MethodName)).before A.a0 A.Z = true   := K.tab _ (List.mem_of_getElem? (i := 5) rfl)
theorem w_6 {A : Ax} (K : Wd A) : (Jvm.Cond.code ({ cls := "com/example/callweave/callweave/model/MethodRefEqualsPinLaw", name := "nameChar", desc := "(I)C" } : Jvm.MethodName) method_3_code (2 : Nat) (Option.some Jvm.ClassFile.FieldType.char)).before A.a0 A.Z = true   := K.tab _ (List.mem_of_getElem? (i := 6) rfl)
theorem w_7 {A : Ax} (K : Wd A) : (Jvm.Cond.methodLink "com/example/callweave/callweave/model/MethodRefEqualsPinLaw" (23 : Nat) ({ cls := "com/example/callweave/callweave/model/MethodRefEqualsPinLaw", name := "prim", desc := "(I)C" } : Jvm.MethodName)).before A.a0 A.Z = true   := K.tab _ (List.mem_of_getElem? (i := 7) rfl)
theorem w_8 {A : Ax} (K : Wd A) : (Jvm.Cond.static ({ cls := "com/example/callweave/callweave/model/MethodRefEqualsPinLaw", name := "prim", desc := "(I)C" } : Jvm.MethodName)).before A.a0 A.Z = true   := K.tab _ (List.mem_of_getElem? (i := 8) rfl)
theorem w_9 {A : Ax} (K : Wd A) : (Jvm.Cond.code ({ cls := "com/example/callweave/callweave/model/MethodRefEqualsPinLaw", name := "prim", desc := "(I)C" } : Jvm.MethodName) method_4_code (1 : Nat) (Option.some Jvm.ClassFile.FieldType.char)).before A.a0 A.Z = true   := K.tab _ (List.mem_of_getElem? (i := 9) rfl)
theorem w_10 {A : Ax} (K : Wd A) : (Jvm.Cond.stringLink "com/example/callweave/callweave/model/MethodRefEqualsPinLaw" (7 : Nat) "BCDFIJSZ").before A.a0 A.Z = true   := K.tab _ (List.mem_of_getElem? (i := 10) rfl)
theorem w_11 {A : Ax} (K : Wd A) : (Jvm.Cond.initialized "java/lang/String").before A.a0 A.Z = true   := K.tab _ (List.mem_of_getElem? (i := 11) rfl)
theorem w_12 {A : Ax} (K : Wd A) : (Jvm.Cond.instantiable "java/lang/String" (4 : Nat)).before A.a0 A.Z = true   := K.tab _ (List.mem_of_getElem? (i := 12) rfl)
theorem w_13 {A : Ax} (K : Wd A) : (Jvm.Cond.arrayClass Jvm.ClassFile.FieldType.byte).before A.a0 A.Z = true   := K.tab _ (List.mem_of_getElem? (i := 13) rfl)
theorem w_14 {A : Ax} (K : Wd A) : (Jvm.Cond.laysFinal "java/lang/String" "java/lang/String" "value" "[B").before A.a0 A.Z = true   := K.tab _ (List.mem_of_getElem? (i := 14) rfl)
theorem w_15 {A : Ax} (K : Wd A) : (Jvm.Cond.laysFinal "java/lang/String" "java/lang/String" "coder" "B").before A.a0 A.Z = true   := K.tab _ (List.mem_of_getElem? (i := 15) rfl)
theorem w_16 {A : Ax} (K : Wd A) : (Jvm.Cond.soleField "java/lang/String" "value").before A.a0 A.Z = true   := K.tab _ (List.mem_of_getElem? (i := 16) rfl)
theorem w_17 {A : Ax} (K : Wd A) : (Jvm.Cond.soleField "java/lang/String" "coder").before A.a0 A.Z = true   := K.tab _ (List.mem_of_getElem? (i := 17) rfl)
theorem w_18 {A : Ax} (K : Wd A) : (Jvm.Cond.methodLink "com/example/callweave/callweave/model/MethodRefEqualsPinLaw" (9 : Nat) ({ cls := "java/lang/String", name := "charAt", desc := "(I)C" } : Jvm.MethodName)).before A.a0 A.Z = true   := K.tab _ (List.mem_of_getElem? (i := 18) rfl)
theorem w_19 {A : Ax} (K : Wd A) : (Jvm.Cond.declares ({ cls := "java/lang/String", name := "charAt", desc := "(I)C" } : Jvm.MethodName)).before A.a0 A.Z = true   := K.tab _ (List.mem_of_getElem? (i := 19) rfl)
theorem w_20 {A : Ax} (K : Wd A) : (Jvm.Cond.instanceMethod ({ cls := "java/lang/String", name := "charAt", desc := "(I)C" } : Jvm.MethodName)).before A.a0 A.Z = true   := K.tab _ (List.mem_of_getElem? (i := 20) rfl)
theorem w_21 {A : Ax} (K : Wd A) : (Jvm.Cond.selects "java/lang/String" ({ cls := "java/lang/String", name := "charAt", desc := "(I)C" } : Jvm.MethodName) ({ cls := "java/lang/String", name := "charAt", desc := "(I)C" } : Jvm.MethodName)).before A.a0 A.Z = true   := K.tab _ (List.mem_of_getElem? (i := 21) rfl)
theorem w_22 {A : Ax} (K : Wd A) : (Jvm.Cond.code ({ cls := "java/lang/String", name := "charAt", desc := "(I)C" } : Jvm.MethodName) jdk_42_method_56_code (2 : Nat) (Option.some Jvm.ClassFile.FieldType.char)).before A.a0 A.Z = true   := K.tab _ (List.mem_of_getElem? (i := 22) rfl)
theorem w_23 {A : Ax} (K : Wd A) : (Jvm.Cond.methodLink "java/lang/String" (492 : Nat) ({ cls := "java/lang/String", name := "isLatin1", desc := "()Z" } : Jvm.MethodName)).before A.a0 A.Z = true   := K.tab _ (List.mem_of_getElem? (i := 23) rfl)
theorem w_24 {A : Ax} (K : Wd A) : (Jvm.Cond.declares ({ cls := "java/lang/String", name := "isLatin1", desc := "()Z" } : Jvm.MethodName)).before A.a0 A.Z = true   := K.tab _ (List.mem_of_getElem? (i := 24) rfl)
theorem w_25 {A : Ax} (K : Wd A) : (Jvm.Cond.instanceMethod ({ cls := "java/lang/String", name := "isLatin1", desc := "()Z" } : Jvm.MethodName)).before A.a0 A.Z = true   := K.tab _ (List.mem_of_getElem? (i := 25) rfl)
theorem w_26 {A : Ax} (K : Wd A) : (Jvm.Cond.selects "java/lang/String" ({ cls := "java/lang/String", name := "isLatin1", desc := "()Z" } : Jvm.MethodName) ({ cls := "java/lang/String", name := "isLatin1", desc := "()Z" } : Jvm.MethodName)).before A.a0 A.Z = true   := K.tab _ (List.mem_of_getElem? (i := 26) rfl)
theorem w_27 {A : Ax} (K : Wd A) : (Jvm.Cond.code ({ cls := "java/lang/String", name := "isLatin1", desc := "()Z" } : Jvm.MethodName) jdk_42_method_154_code (1 : Nat) (Option.some Jvm.ClassFile.FieldType.boolean)).before A.a0 A.Z = true   := K.tab _ (List.mem_of_getElem? (i := 27) rfl)
theorem w_28 {A : Ax} (K : Wd A) : (Jvm.Cond.fieldLink "java/lang/String" (38 : Nat) "java/lang/String" "COMPACT_STRINGS" "Z").before A.a0 A.Z = true   := K.tab _ (List.mem_of_getElem? (i := 28) rfl)
theorem w_29 {A : Ax} (K : Wd A) : (Jvm.Cond.fieldLink "java/lang/String" (15 : Nat) "java/lang/String" "coder" "B").before A.a0 A.Z = true   := K.tab _ (List.mem_of_getElem? (i := 29) rfl)
theorem w_30 {A : Ax} (K : Wd A) : (Jvm.Cond.fieldLink "java/lang/String" (9 : Nat) "java/lang/String" "value" "[B").before A.a0 A.Z = true   := K.tab _ (List.mem_of_getElem? (i := 30) rfl)
theorem w_31 {A : Ax} (K : Wd A) : (Jvm.Cond.methodLink "java/lang/String" (495 : Nat) ({ cls := "java/lang/StringLatin1", name := "charAt", desc := "([BI)C" } : Jvm.MethodName)).before A.a0 A.Z = true   := K.tab _ (List.mem_of_getElem? (i := 31) rfl)
theorem w_32 {A : Ax} (K : Wd A) : (Jvm.Cond.static ({ cls := "java/lang/StringLatin1", name := "charAt", desc := "([BI)C" } : Jvm.MethodName)).before A.a0 A.Z = true   := K.tab _ (List.mem_of_getElem? (i := 32) rfl)
theorem w_33 {A : Ax} (K : Wd A) : (Jvm.Cond.initialized "java/lang/StringLatin1").before A.a0 A.Z = true   := K.tab _ (List.mem_of_getElem? (i := 33) rfl)
theorem w_34 {A : Ax} (K : Wd A) : (Jvm.Cond.code ({ cls := "java/lang/StringLatin1", name := "charAt", desc := "([BI)C" } : Jvm.MethodName) jdk_43_method_2_code (2 : Nat) (Option.some Jvm.ClassFile.FieldType.char)).before A.a0 A.Z = true   := K.tab _ (List.mem_of_getElem? (i := 34) rfl)
theorem w_35 {A : Ax} (K : Wd A) : (Jvm.Cond.methodLink "java/lang/StringLatin1" (9 : Nat) ({ cls := "java/lang/String", name := "checkIndex", desc := "(II)V" } : Jvm.MethodName)).before A.a0 A.Z = true   := K.tab _ (List.mem_of_getElem? (i := 35) rfl)
theorem w_36 {A : Ax} (K : Wd A) : (Jvm.Cond.static ({ cls := "java/lang/String", name := "checkIndex", desc := "(II)V" } : Jvm.MethodName)).before A.a0 A.Z = true   := K.tab _ (List.mem_of_getElem? (i := 36) rfl)
theorem w_37 {A : Ax} (K : Wd A) : (Jvm.Cond.code ({ cls := "java/lang/String", name := "checkIndex", desc := "(II)V" } : Jvm.MethodName) jdk_42_method_155_code (2 : Nat) (Option.none : Option Jvm.ClassFile.FieldType)).before A.a0 A.Z = true   := K.tab _ (List.mem_of_getElem? (i := 37) rfl)
theorem w_38 {A : Ax} (K : Wd A) : (Jvm.Cond.fieldLink "java/lang/String" (1053 : Nat) "jdk/internal/util/Preconditions" "SIOOBE_FORMATTER" "Ljava/util/function/BiFunction;").before A.a0 A.Z = true   := K.tab _ (List.mem_of_getElem? (i := 38) rfl)
theorem w_39 {A : Ax} (K : Wd A) : (Jvm.Cond.initialized "jdk/internal/util/Preconditions").before A.a0 A.Z = true   := K.tab _ (List.mem_of_getElem? (i := 39) rfl)
theorem w_40 {A : Ax} (K : Wd A) : (Jvm.Cond.methodLink "java/lang/String" (1059 : Nat) ({ cls := "jdk/internal/util/Preconditions", name := "checkIndex", desc := "(IILjava/util/function/BiFunction;)I" } : Jvm.MethodName)).before A.a0 A.Z = true   := K.tab _ (List.mem_of_getElem? (i := 40) rfl)
theorem w_41 {A : Ax} (K : Wd A) : (Jvm.Cond.static ({ cls := "jdk/internal/util/Preconditions", name := "checkIndex", desc := "(IILjava/util/function/BiFunction;)I" } : Jvm.MethodName)).before A.a0 A.Z = true   := K.tab _ (List.mem_of_getElem? (i := 41) rfl)
theorem w_42 {A : Ax} (K : Wd A) : (Jvm.Cond.code ({ cls := "jdk/internal/util/Preconditions", name := "checkIndex", desc := "(IILjava/util/function/BiFunction;)I" } : Jvm.MethodName) jdk_41_method_11_code (3 : Nat) (Option.some Jvm.ClassFile.FieldType.int)).before A.a0 A.Z = true   := K.tab _ (List.mem_of_getElem? (i := 42) rfl)
theorem w_43 {A : Ax} (K : Wd A) : (Jvm.Cond.classLink "com/example/callweave/callweave/model/MethodRefEqualsPinLaw" (26 : Nat) "com/example/callweave/callweave/model/MethodRef").before A.a0 A.Z = true   := K.tab _ (List.mem_of_getElem? (i := 43) rfl)
theorem w_44 {A : Ax} (K : Wd A) : (Jvm.Cond.instantiable "com/example/callweave/callweave/model/MethodRef" (4 : Nat)).before A.a0 A.Z = true   := K.tab _ (List.mem_of_getElem? (i := 44) rfl)
theorem w_45 {A : Ax} (K : Wd A) : (Jvm.Cond.initialized "com/example/callweave/callweave/model/MethodRef").before A.a0 A.Z = true   := K.tab _ (List.mem_of_getElem? (i := 45) rfl)
theorem w_46 {A : Ax} (K : Wd A) : (Jvm.Cond.classLink "com/example/callweave/callweave/model/MethodRefEqualsPinLaw" (10 : Nat) "java/lang/String").before A.a0 A.Z = true   := K.tab _ (List.mem_of_getElem? (i := 46) rfl)
theorem w_47 {A : Ax} (K : Wd A) : (Jvm.Cond.arrayClass Jvm.ClassFile.FieldType.char).before A.a0 A.Z = true   := K.tab _ (List.mem_of_getElem? (i := 47) rfl)
theorem w_48 {A : Ax} (K : Wd A) : (Jvm.Cond.methodLink "com/example/callweave/callweave/model/MethodRefEqualsPinLaw" (28 : Nat) ({ cls := "java/lang/String", name := "<init>", desc := "([C)V" } : Jvm.MethodName)).before A.a0 A.Z = true   := K.tab _ (List.mem_of_getElem? (i := 48) rfl)
theorem w_49 {A : Ax} (K : Wd A) : (Jvm.Cond.instanceMethod ({ cls := "java/lang/String", name := "<init>", desc := "([C)V" } : Jvm.MethodName)).before A.a0 A.Z = true   := K.tab _ (List.mem_of_getElem? (i := 49) rfl)
theorem w_50 {A : Ax} (K : Wd A) : (Jvm.Cond.code ({ cls := "java/lang/String", name := "<init>", desc := "([C)V" } : Jvm.MethodName) jdk_42_method_3_code (2 : Nat) (Option.none : Option Jvm.ClassFile.FieldType)).before A.a0 A.Z = true   := K.tab _ (List.mem_of_getElem? (i := 50) rfl)
theorem w_51 {A : Ax} (K : Wd A) : (Jvm.Cond.methodLink "java/lang/String" (27 : Nat) ({ cls := "java/lang/String", name := "<init>", desc := "([CIILjava/lang/Void;)V" } : Jvm.MethodName)).before A.a0 A.Z = true   := K.tab _ (List.mem_of_getElem? (i := 51) rfl)
theorem w_52 {A : Ax} (K : Wd A) : (Jvm.Cond.instanceMethod ({ cls := "java/lang/String", name := "<init>", desc := "([CIILjava/lang/Void;)V" } : Jvm.MethodName)).before A.a0 A.Z = true   := K.tab _ (List.mem_of_getElem? (i := 52) rfl)
theorem w_54 {A : Ax} (K : Wd A) : (Jvm.Cond.code ({ cls := "java/lang/String", name := "<init>", desc := "([CIILjava/lang/Void;)V" } : Jvm.MethodName) jdk_42_method_149_code (6 : Nat) (Option.none : Option Jvm.ClassFile.FieldType)).before A.a0 A.Z = true   := K.tab _ (List.mem_of_getElem? (i := 54) rfl)
theorem w_55 {A : Ax} (K : Wd A) : (Jvm.Cond.methodLink "java/lang/String" (1 : Nat) ({ cls := "java/lang/Object", name := "<init>", desc := "()V" } : Jvm.MethodName)).before A.a0 A.Z = true   := K.tab _ (List.mem_of_getElem? (i := 55) rfl)
theorem w_56 {A : Ax} (K : Wd A) : (Jvm.Cond.instanceMethod ({ cls := "java/lang/Object", name := "<init>", desc := "()V" } : Jvm.MethodName)).before A.a0 A.Z = true   := K.tab _ (List.mem_of_getElem? (i := 56) rfl)
theorem w_57 {A : Ax} (K : Wd A) : (Jvm.Cond.code ({ cls := "java/lang/Object", name := "<init>", desc := "()V" } : Jvm.MethodName) object_method_1_code (1 : Nat) (Option.none : Option Jvm.ClassFile.FieldType)).before A.a0 A.Z = true   := K.tab _ (List.mem_of_getElem? (i := 57) rfl)
theorem w_58 {A : Ax} (K : Wd A) : (Jvm.Cond.methodLink "java/lang/String" (177 : Nat) ({ cls := "java/lang/StringUTF16", name := "compress", desc := "([CII)[B" } : Jvm.MethodName)).before A.a0 A.Z = true   := K.tab _ (List.mem_of_getElem? (i := 58) rfl)
theorem w_59 {A : Ax} (K : Wd A) : (Jvm.Cond.static ({ cls := "java/lang/StringUTF16", name := "compress", desc := "([CII)[B" } : Jvm.MethodName)).before A.a0 A.Z = true   := K.tab _ (List.mem_of_getElem? (i := 59) rfl)
theorem w_60 {A : Ax} (K : Wd A) : (Jvm.Cond.initialized "java/lang/StringUTF16").before A.a0 A.Z = true   := K.tab _ (List.mem_of_getElem? (i := 60) rfl)
theorem w_61 {A : Ax} (K : Wd A) : (Jvm.Cond.code ({ cls := "java/lang/StringUTF16", name := "compress", desc := "([CII)[B" } : Jvm.MethodName) jdk_52_method_16_code (6 : Nat) (Option.some (Jvm.ClassFile.FieldType.array Jvm.ClassFile.FieldType.byte))).before A.a0 A.Z = true   := K.tab _ (List.mem_of_getElem? (i := 61) rfl)
theorem w_62 {A : Ax} (K : Wd A) : (Jvm.Cond.methodLink "java/lang/StringUTF16" (115 : Nat) ({ cls := "java/lang/StringUTF16", name := "compress", desc := "([CI[BII)I" } : Jvm.MethodName)).before A.a0 A.Z = true   := K.tab _ (List.mem_of_getElem? (i := 62) rfl)
theorem w_63 {A : Ax} (K : Wd A) : (Jvm.Cond.static ({ cls := "java/lang/StringUTF16", name := "compress", desc := "([CI[BII)I" } : Jvm.MethodName)).before A.a0 A.Z = true   := K.tab _ (List.mem_of_getElem? (i := 63) rfl)
theorem w_64 {A : Ax} (K : Wd A) : (Jvm.Cond.code ({ cls := "java/lang/StringUTF16", name := "compress", desc := "([CI[BII)I" } : Jvm.MethodName) jdk_52_method_21_code (7 : Nat) (Option.some Jvm.ClassFile.FieldType.int)).before A.a0 A.Z = true   := K.tab _ (List.mem_of_getElem? (i := 64) rfl)
theorem w_65 {A : Ax} (K : Wd A) : (Jvm.Cond.methodLink "java/lang/String" (47 : Nat) ({ cls := "java/lang/StringUTF16", name := "coderFromArrayLen", desc := "([BI)B" } : Jvm.MethodName)).before A.a0 A.Z = true   := K.tab _ (List.mem_of_getElem? (i := 65) rfl)
theorem w_66 {A : Ax} (K : Wd A) : (Jvm.Cond.static ({ cls := "java/lang/StringUTF16", name := "coderFromArrayLen", desc := "([BI)B" } : Jvm.MethodName)).before A.a0 A.Z = true   := K.tab _ (List.mem_of_getElem? (i := 66) rfl)
theorem w_67 {A : Ax} (K : Wd A) : (Jvm.Cond.code ({ cls := "java/lang/StringUTF16", name := "coderFromArrayLen", desc := "([BI)B" } : Jvm.MethodName) jdk_52_method_15_code (2 : Nat) (Option.some Jvm.ClassFile.FieldType.byte)).before A.a0 A.Z = true   := K.tab _ (List.mem_of_getElem? (i := 67) rfl)
theorem w_68 {A : Ax} (K : Wd A) : (Jvm.Cond.methodLink "com/example/callweave/callweave/model/MethodRefEqualsPinLaw" (31 : Nat) ({ cls := "com/example/callweave/callweave/model/MethodRef", name := "<init>", desc := "(Ljava/lang/String;Ljava/lang/String;Ljava/lang/String;)V" } : Jvm.MethodName)).before A.a0 A.Z = true   := K.tab _ (List.mem_of_getElem? (i := 68) rfl)
theorem w_69 {A : Ax} (K : Wd A) : (Jvm.Cond.instanceMethod ({ cls := "com/example/callweave/callweave/model/MethodRef", name := "<init>", desc := "(Ljava/lang/String;Ljava/lang/String;Ljava/lang/String;)V" } : Jvm.MethodName)).before A.a0 A.Z = true   := K.tab _ (List.mem_of_getElem? (i := 69) rfl)
theorem w_70 {A : Ax} (K : Wd A) : (Jvm.Cond.code ({ cls := "com/example/callweave/callweave/model/MethodRef", name := "<init>", desc := "(Ljava/lang/String;Ljava/lang/String;Ljava/lang/String;)V" } : Jvm.MethodName) prog_21_method_1_code (4 : Nat) (Option.none : Option Jvm.ClassFile.FieldType)).before A.a0 A.Z = true   := K.tab _ (List.mem_of_getElem? (i := 70) rfl)
theorem w_71 {A : Ax} (K : Wd A) : (Jvm.Cond.methodLink "com/example/callweave/callweave/model/MethodRef" (1 : Nat) ({ cls := "com/example/callweave/callweave/model/MethodRef", name := "<init>", desc := "(Ljava/lang/String;Ljava/lang/String;Ljava/lang/String;Z)V" } : Jvm.MethodName)).before A.a0 A.Z = true   := K.tab _ (List.mem_of_getElem? (i := 71) rfl)
theorem w_72 {A : Ax} (K : Wd A) : (Jvm.Cond.instanceMethod ({ cls := "com/example/callweave/callweave/model/MethodRef", name := "<init>", desc := "(Ljava/lang/String;Ljava/lang/String;Ljava/lang/String;Z)V" } : Jvm.MethodName)).before A.a0 A.Z = true   := K.tab _ (List.mem_of_getElem? (i := 72) rfl)
theorem w_73 {A : Ax} (K : Wd A) : (Jvm.Cond.code ({ cls := "com/example/callweave/callweave/model/MethodRef", name := "<init>", desc := "(Ljava/lang/String;Ljava/lang/String;Ljava/lang/String;Z)V" } : Jvm.MethodName) prog_21_method_2_code (5 : Nat) (Option.none : Option Jvm.ClassFile.FieldType)).before A.a0 A.Z = true   := K.tab _ (List.mem_of_getElem? (i := 73) rfl)
theorem w_74 {A : Ax} (K : Wd A) : (Jvm.Cond.methodLink "com/example/callweave/callweave/model/MethodRef" (7 : Nat) ({ cls := "java/lang/Object", name := "<init>", desc := "()V" } : Jvm.MethodName)).before A.a0 A.Z = true   := K.tab _ (List.mem_of_getElem? (i := 74) rfl)
theorem w_75 {A : Ax} (K : Wd A) : (Jvm.Cond.stringLink "com/example/callweave/callweave/model/MethodRef" (12 : Nat) "owner").before A.a0 A.Z = true   := K.tab _ (List.mem_of_getElem? (i := 75) rfl)
theorem w_76 {A : Ax} (K : Wd A) : (Jvm.Cond.methodLink "com/example/callweave/callweave/model/MethodRef" (14 : Nat) ({ cls := "java/util/Objects", name := "requireNonNull", desc := "(Ljava/lang/Object;Ljava/lang/String;)Ljava/lang/Object;" } : Jvm.MethodName)).before A.a0 A.Z = true   := K.tab _ (List.mem_of_getElem? (i := 76) rfl)
theorem w_77 {A : Ax} (K : Wd A) : (Jvm.Cond.static ({ cls := "java/util/Objects", name := "requireNonNull", desc := "(Ljava/lang/Object;Ljava/lang/String;)Ljava/lang/Object;" } : Jvm.MethodName)).before A.a0 A.Z = true   := K.tab _ (List.mem_of_getElem? (i := 77) rfl)
theorem w_78 {A : Ax} (K : Wd A) : (Jvm.Cond.initialized "java/util/Objects").before A.a0 A.Z = true   := K.tab _ (List.mem_of_getElem? (i := 78) rfl)
theorem w_79 {A : Ax} (K : Wd A) : (Jvm.Cond.code ({ cls := "java/util/Objects", name := "requireNonNull", desc := "(Ljava/lang/Object;Ljava/lang/String;)Ljava/lang/Object;" } : Jvm.MethodName) jdk_31_method_11_code (2 : Nat) (Option.some (Jvm.ClassFile.FieldType.object "java/lang/Object"))).before A.a0 A.Z = true   := K.tab _ (List.mem_of_getElem? (i := 79) rfl)
theorem w_80 {A : Ax} (K : Wd A) : (Jvm.Cond.stringLink "com/example/callweave/callweave/model/MethodRef" (20 : Nat) "name").before A.a0 A.Z = true   := K.tab _ (List.mem_of_getElem? (i := 80) rfl)
theorem w_81 {A : Ax} (K : Wd A) : (Jvm.Cond.stringLink "com/example/callweave/callweave/model/MethodRef" (22 : Nat) "descriptor").before A.a0 A.Z = true   := K.tab _ (List.mem_of_getElem? (i := 81) rfl)
theorem w_82 {A : Ax} (K : Wd A) : (Jvm.Cond.methodLink "com/example/callweave/callweave/model/MethodRef" (24 : Nat) ({ cls := "com/example/callweave/callweave/model/JvmNames", name := "requireClassName", desc := "(Ljava/lang/String;)Ljava/lang/String;" } : Jvm.MethodName)).before A.a0 A.Z = true   := K.tab _ (List.mem_of_getElem? (i := 82) rfl)
theorem w_83 {A : Ax} (K : Wd A) : (Jvm.Cond.static ({ cls := "com/example/callweave/callweave/model/JvmNames", name := "requireClassName", desc := "(Ljava/lang/String;)Ljava/lang/String;" } : Jvm.MethodName)).before A.a0 A.Z = true   := K.tab _ (List.mem_of_getElem? (i := 83) rfl)
theorem w_84 {A : Ax} (K : Wd A) : (Jvm.Cond.initialized "com/example/callweave/callweave/model/JvmNames").before A.a0 A.Z = true   := K.tab _ (List.mem_of_getElem? (i := 84) rfl)
theorem w_85 {A : Ax} (K : Wd A) : (Jvm.Cond.code ({ cls := "com/example/callweave/callweave/model/JvmNames", name := "requireClassName", desc := "(Ljava/lang/String;)Ljava/lang/String;" } : Jvm.MethodName) prog_19_method_2_code (1 : Nat) (Option.some (Jvm.ClassFile.FieldType.object "java/lang/String"))).before A.a0 A.Z = true   := K.tab _ (List.mem_of_getElem? (i := 85) rfl)
theorem w_86 {A : Ax} (K : Wd A) : (Jvm.Cond.methodLink "com/example/callweave/callweave/model/JvmNames" (7 : Nat) ({ cls := "com/example/callweave/callweave/model/JvmNames", name := "isClassName", desc := "(Ljava/lang/String;)Z" } : Jvm.MethodName)).before A.a0 A.Z = true   := K.tab _ (List.mem_of_getElem? (i := 86) rfl)
theorem w_87 {A : Ax} (K : Wd A) : (Jvm.Cond.static ({ cls := "com/example/callweave/callweave/model/JvmNames", name := "isClassName", desc := "(Ljava/lang/String;)Z" } : Jvm.MethodName)).before A.a0 A.Z = true   := K.tab _ (List.mem_of_getElem? (i := 87) rfl)
theorem w_88 {A : Ax} (K : Wd A) : (Jvm.Cond.code ({ cls := "com/example/callweave/callweave/model/JvmNames", name := "isClassName", desc := "(Ljava/lang/String;)Z" } : Jvm.MethodName) prog_19_method_9_code (1 : Nat) (Option.some Jvm.ClassFile.FieldType.boolean)).before A.a0 A.Z = true   := K.tab _ (List.mem_of_getElem? (i := 88) rfl)
theorem w_89 {A : Ax} (K : Wd A) : (Jvm.Cond.methodLink "com/example/callweave/callweave/model/JvmNames" (53 : Nat) ({ cls := "java/lang/String", name := "length", desc := "()I" } : Jvm.MethodName)).before A.a0 A.Z = true   := K.tab _ (List.mem_of_getElem? (i := 89) rfl)
theorem w_90 {A : Ax} (K : Wd A) : (Jvm.Cond.declares ({ cls := "java/lang/String", name := "length", desc := "()I" } : Jvm.MethodName)).before A.a0 A.Z = true   := K.tab _ (List.mem_of_getElem? (i := 90) rfl)
theorem w_91 {A : Ax} (K : Wd A) : (Jvm.Cond.instanceMethod ({ cls := "java/lang/String", name := "length", desc := "()I" } : Jvm.MethodName)).before A.a0 A.Z = true   := K.tab _ (List.mem_of_getElem? (i := 91) rfl)
theorem w_92 {A : Ax} (K : Wd A) : (Jvm.Cond.selects "java/lang/String" ({ cls := "java/lang/String", name := "length", desc := "()I" } : Jvm.MethodName) ({ cls := "java/lang/String", name := "length", desc := "()I" } : Jvm.MethodName)).before A.a0 A.Z = true   := K.tab _ (List.mem_of_getElem? (i := 92) rfl)
theorem w_93 {A : Ax} (K : Wd A) : (Jvm.Cond.code ({ cls := "java/lang/String", name := "length", desc := "()I" } : Jvm.MethodName) jdk_42_method_54_code (1 : Nat) (Option.some Jvm.ClassFile.FieldType.int)).before A.a0 A.Z = true   := K.tab _ (List.mem_of_getElem? (i := 93) rfl)
theorem w_94 {A : Ax} (K : Wd A) : (Jvm.Cond.methodLink "java/lang/String" (335 : Nat) ({ cls := "java/lang/String", name := "coder", desc := "()B" } : Jvm.MethodName)).before A.a0 A.Z = true   := K.tab _ (List.mem_of_getElem? (i := 94) rfl)
theorem w_95 {A : Ax} (K : Wd A) : (Jvm.Cond.declares ({ cls := "java/lang/String", name := "coder", desc := "()B" } : Jvm.MethodName)).before A.a0 A.Z = true   := K.tab _ (List.mem_of_getElem? (i := 95) rfl)
theorem w_96 {A : Ax} (K : Wd A) : (Jvm.Cond.instanceMethod ({ cls := "java/lang/String", name := "coder", desc := "()B" } : Jvm.MethodName)).before A.a0 A.Z = true   := K.tab _ (List.mem_of_getElem? (i := 96) rfl)
theorem w_97 {A : Ax} (K : Wd A) : (Jvm.Cond.selects "java/lang/String" ({ cls := "java/lang/String", name := "coder", desc := "()B" } : Jvm.MethodName) ({ cls := "java/lang/String", name := "coder", desc := "()B" } : Jvm.MethodName)).before A.a0 A.Z = true   := K.tab _ (List.mem_of_getElem? (i := 97) rfl)
theorem w_98 {A : Ax} (K : Wd A) : (Jvm.Cond.code ({ cls := "java/lang/String", name := "coder", desc := "()B" } : Jvm.MethodName) jdk_42_method_152_code (1 : Nat) (Option.some Jvm.ClassFile.FieldType.byte)).before A.a0 A.Z = true   := K.tab _ (List.mem_of_getElem? (i := 98) rfl)
theorem w_99 {A : Ax} (K : Wd A) : (Jvm.Cond.methodLink "com/example/callweave/callweave/model/JvmNames" (59 : Nat) ({ cls := "com/example/callweave/callweave/model/JvmNames", name := "isClassName", desc := "(Ljava/lang/String;II)Z" } : Jvm.MethodName)).before A.a0 A.Z = true   := K.tab _ (List.mem_of_getElem? (i := 99) rfl)
theorem w_100 {A : Ax} (K : Wd A) : (Jvm.Cond.static ({ cls := "com/example/callweave/callweave/model/JvmNames", name := "isClassName", desc := "(Ljava/lang/String;II)Z" } : Jvm.MethodName)).before A.a0 A.Z = true   := K.tab _ (List.mem_of_getElem? (i := 100) rfl)
theorem w_101 {A : Ax} (K : Wd A) : (Jvm.Cond.code ({ cls := "com/example/callweave/callweave/model/JvmNames", name := "isClassName", desc := "(Ljava/lang/String;II)Z" } : Jvm.MethodName) prog_19_method_17_code (6 : Nat) (Option.some Jvm.ClassFile.FieldType.boolean)).before A.a0 A.Z = true   := K.tab _ (List.mem_of_getElem? (i := 101) rfl)
theorem w_102 {A : Ax} (K : Wd A) : (Jvm.Cond.methodLink "com/example/callweave/callweave/model/JvmNames" (78 : Nat) ({ cls := "java/lang/String", name := "charAt", desc := "(I)C" } : Jvm.MethodName)).before A.a0 A.Z = true   := K.tab _ (List.mem_of_getElem? (i := 102) rfl)
theorem w_103 {A : Ax} (K : Wd A) : (Jvm.Cond.stringLink "com/example/callweave/callweave/model/JvmNames" (13 : Nat) "a class name in internal form").before A.a0 A.Z = true   := K.tab _ (List.mem_of_getElem? (i := 103) rfl)
theorem w_104 {A : Ax} (K : Wd A) : (Jvm.Cond.methodLink "com/example/callweave/callweave/model/JvmNames" (15 : Nat) ({ cls := "com/example/callweave/callweave/model/JvmNames", name := "require", desc := "(ZLjava/lang/String;Ljava/lang/String;)Ljava/lang/String;" } : Jvm.MethodName)).before A.a0 A.Z = true   := K.tab _ (List.mem_of_getElem? (i := 104) rfl)
theorem w_105 {A : Ax} (K : Wd A) : (Jvm.Cond.static ({ cls := "com/example/callweave/callweave/model/JvmNames", name := "require", desc := "(ZLjava/lang/String;Ljava/lang/String;)Ljava/lang/String;" } : Jvm.MethodName)).before A.a0 A.Z = true   := K.tab _ (List.mem_of_getElem? (i := 105) rfl)
theorem w_106 {A : Ax} (K : Wd A) : (Jvm.Cond.code ({ cls := "com/example/callweave/callweave/model/JvmNames", name := "require", desc := "(ZLjava/lang/String;Ljava/lang/String;)Ljava/lang/String;" } : Jvm.MethodName) prog_19_method_8_code (3 : Nat) (Option.some (Jvm.ClassFile.FieldType.object "java/lang/String"))).before A.a0 A.Z = true   := K.tab _ (List.mem_of_getElem? (i := 106) rfl)
theorem w_107 {A : Ax} (K : Wd A) : (Jvm.Cond.methodLink "com/example/callweave/callweave/model/MethodRef" (30 : Nat) ({ cls := "com/example/callweave/callweave/model/JvmNames", name := "requireMethodName", desc := "(Ljava/lang/String;)Ljava/lang/String;" } : Jvm.MethodName)).before A.a0 A.Z = true   := K.tab _ (List.mem_of_getElem? (i := 107) rfl)
theorem w_108 {A : Ax} (K : Wd A) : (Jvm.Cond.static ({ cls := "com/example/callweave/callweave/model/JvmNames", name := "requireMethodName", desc := "(Ljava/lang/String;)Ljava/lang/String;" } : Jvm.MethodName)).before A.a0 A.Z = true   := K.tab _ (List.mem_of_getElem? (i := 108) rfl)
theorem w_109 {A : Ax} (K : Wd A) : (Jvm.Cond.code ({ cls := "com/example/callweave/callweave/model/JvmNames", name := "requireMethodName", desc := "(Ljava/lang/String;)Ljava/lang/String;" } : Jvm.MethodName) prog_19_method_6_code (1 : Nat) (Option.some (Jvm.ClassFile.FieldType.object "java/lang/String"))).before A.a0 A.Z = true   := K.tab _ (List.mem_of_getElem? (i := 109) rfl)
theorem w_110 {A : Ax} (K : Wd A) : (Jvm.Cond.methodLink "com/example/callweave/callweave/model/JvmNames" (34 : Nat) ({ cls := "com/example/callweave/callweave/model/JvmNames", name := "isMethodName", desc := "(Ljava/lang/String;)Z" } : Jvm.MethodName)).before A.a0 A.Z = true   := K.tab _ (List.mem_of_getElem? (i := 110) rfl)
theorem w_111 {A : Ax} (K : Wd A) : (Jvm.Cond.static ({ cls := "com/example/callweave/callweave/model/JvmNames", name := "isMethodName", desc := "(Ljava/lang/String;)Z" } : Jvm.MethodName)).before A.a0 A.Z = true   := K.tab _ (List.mem_of_getElem? (i := 111) rfl)
theorem w_112 {A : Ax} (K : Wd A) : (Jvm.Cond.code ({ cls := "com/example/callweave/callweave/model/JvmNames", name := "isMethodName", desc := "(Ljava/lang/String;)Z" } : Jvm.MethodName) prog_19_method_12_code (1 : Nat) (Option.some Jvm.ClassFile.FieldType.boolean)).before A.a0 A.Z = true   := K.tab _ (List.mem_of_getElem? (i := 112) rfl)
theorem w_113 {A : Ax} (K : Wd A) : (Jvm.Cond.stringLink "com/example/callweave/callweave/model/JvmNames" (71 : Nat) "<init>").before A.a0 A.Z = true   := K.tab _ (List.mem_of_getElem? (i := 113) rfl)
theorem w_114 {A : Ax} (K : Wd A) : (Jvm.Cond.methodLink "com/example/callweave/callweave/model/JvmNames" (72 : Nat) ({ cls := "java/lang/String", name := "equals", desc := "(Ljava/lang/Object;)Z" } : Jvm.MethodName)).before A.a0 A.Z = true   := K.tab _ (List.mem_of_getElem? (i := 114) rfl)
theorem w_115 {A : Ax} (K : Wd A) : (Jvm.Cond.declares ({ cls := "java/lang/String", name := "equals", desc := "(Ljava/lang/Object;)Z" } : Jvm.MethodName)).before A.a0 A.Z = true   := K.tab _ (List.mem_of_getElem? (i := 115) rfl)
theorem w_116 {A : Ax} (K : Wd A) : (Jvm.Cond.instanceMethod ({ cls := "java/lang/String", name := "equals", desc := "(Ljava/lang/Object;)Z" } : Jvm.MethodName)).before A.a0 A.Z = true   := K.tab _ (List.mem_of_getElem? (i := 116) rfl)
theorem w_117 {A : Ax} (K : Wd A) : (Jvm.Cond.selects "java/lang/String" ({ cls := "java/lang/String", name := "equals", desc := "(Ljava/lang/Object;)Z" } : Jvm.MethodName) ({ cls := "java/lang/String", name := "equals", desc := "(Ljava/lang/Object;)Z" } : Jvm.MethodName)).before A.a0 A.Z = true   := K.tab _ (List.mem_of_getElem? (i := 117) rfl)
theorem w_118 {A : Ax} (K : Wd A) : (Jvm.Cond.code ({ cls := "java/lang/String", name := "equals", desc := "(Ljava/lang/Object;)Z" } : Jvm.MethodName) jdk_42_method_66_code (3 : Nat) (Option.some Jvm.ClassFile.FieldType.boolean)).before A.a0 A.Z = true   := K.tab _ (List.mem_of_getElem? (i := 118) rfl)
theorem w_119 {A : Ax} (K : Wd A) : (Jvm.Cond.classLink "java/lang/String" (10 : Nat) "java/lang/String").before A.a0 A.Z = true   := K.tab _ (List.mem_of_getElem? (i := 119) rfl)
theorem w_120 {A : Ax} (K : Wd A) : (Jvm.Cond.methodLink "java/lang/String" (541 : Nat) ({ cls := "java/lang/StringLatin1", name := "equals", desc := "([B[B)Z" } : Jvm.MethodName)).before A.a0 A.Z = true   := K.tab _ (List.mem_of_getElem? (i := 120) rfl)
theorem w_121 {A : Ax} (K : Wd A) : (Jvm.Cond.static ({ cls := "java/lang/StringLatin1", name := "equals", desc := "([B[B)Z" } : Jvm.MethodName)).before A.a0 A.Z = true   := K.tab _ (List.mem_of_getElem? (i := 121) rfl)
theorem w_122 {A : Ax} (K : Wd A) : (Jvm.Cond.code ({ cls := "java/lang/StringLatin1", name := "equals", desc := "([B[B)Z" } : Jvm.MethodName) jdk_43_method_13_code (3 : Nat) (Option.some Jvm.ClassFile.FieldType.boolean)).before A.a0 A.Z = true   := K.tab _ (List.mem_of_getElem? (i := 122) rfl)
theorem w_123 {A : Ax} (K : Wd A) : (Jvm.Cond.stringLink "com/example/callweave/callweave/model/JvmNames" (76 : Nat) "<clinit>").before A.a0 A.Z = true   := K.tab _ (List.mem_of_getElem? (i := 123) rfl)
theorem w_124 {A : Ax} (K : Wd A) : (Jvm.Cond.methodLink "com/example/callweave/callweave/model/JvmNames" (67 : Nat) ({ cls := "com/example/callweave/callweave/model/JvmNames", name := "isUnqualifiedName", desc := "(Ljava/lang/String;Z)Z" } : Jvm.MethodName)).before A.a0 A.Z = true   := K.tab _ (List.mem_of_getElem? (i := 124) rfl)
theorem w_125 {A : Ax} (K : Wd A) : (Jvm.Cond.static ({ cls := "com/example/callweave/callweave/model/JvmNames", name := "isUnqualifiedName", desc := "(Ljava/lang/String;Z)Z" } : Jvm.MethodName)).before A.a0 A.Z = true   := K.tab _ (List.mem_of_getElem? (i := 125) rfl)
theorem w_126 {A : Ax} (K : Wd A) : (Jvm.Cond.code ({ cls := "com/example/callweave/callweave/model/JvmNames", name := "isUnqualifiedName", desc := "(Ljava/lang/String;Z)Z" } : Jvm.MethodName) prog_19_method_13_code (4 : Nat) (Option.some Jvm.ClassFile.FieldType.boolean)).before A.a0 A.Z = true   := K.tab _ (List.mem_of_getElem? (i := 126) rfl)
theorem w_127 {A : Ax} (K : Wd A) : (Jvm.Cond.methodLink "com/example/callweave/callweave/model/JvmNames" (82 : Nat) ({ cls := "java/lang/String", name := "isEmpty", desc := "()Z" } : Jvm.MethodName)).before A.a0 A.Z = true   := K.tab _ (List.mem_of_getElem? (i := 127) rfl)
theorem w_128 {A : Ax} (K : Wd A) : (Jvm.Cond.declares ({ cls := "java/lang/String", name := "isEmpty", desc := "()Z" } : Jvm.MethodName)).before A.a0 A.Z = true   := K.tab _ (List.mem_of_getElem? (i := 128) rfl)
theorem w_129 {A : Ax} (K : Wd A) : (Jvm.Cond.instanceMethod ({ cls := "java/lang/String", name := "isEmpty", desc := "()Z" } : Jvm.MethodName)).before A.a0 A.Z = true   := K.tab _ (List.mem_of_getElem? (i := 129) rfl)
theorem w_130 {A : Ax} (K : Wd A) : (Jvm.Cond.selects "java/lang/String" ({ cls := "java/lang/String", name := "isEmpty", desc := "()Z" } : Jvm.MethodName) ({ cls := "java/lang/String", name := "isEmpty", desc := "()Z" } : Jvm.MethodName)).before A.a0 A.Z = true   := K.tab _ (List.mem_of_getElem? (i := 130) rfl)
theorem w_131 {A : Ax} (K : Wd A) : (Jvm.Cond.code ({ cls := "java/lang/String", name := "isEmpty", desc := "()Z" } : Jvm.MethodName) jdk_42_method_55_code (1 : Nat) (Option.some Jvm.ClassFile.FieldType.boolean)).before A.a0 A.Z = true   := K.tab _ (List.mem_of_getElem? (i := 131) rfl)
theorem w_132 {A : Ax} (K : Wd A) : (Jvm.Cond.stringLink "com/example/callweave/callweave/model/JvmNames" (37 : Nat) "a method name").before A.a0 A.Z = true   := K.tab _ (List.mem_of_getElem? (i := 132) rfl)
theorem w_133 {A : Ax} (K : Wd A) : (Jvm.Cond.methodLink "com/example/callweave/callweave/model/MethodRef" (33 : Nat) ({ cls := "com/example/callweave/callweave/model/JvmNames", name := "requireMethodDescriptor", desc := "(Ljava/lang/String;)Ljava/lang/String;" } : Jvm.MethodName)).before A.a0 A.Z = true   := K.tab _ (List.mem_of_getElem? (i := 133) rfl)
theorem w_134 {A : Ax} (K : Wd A) : (Jvm.Cond.static ({ cls := "com/example/callweave/callweave/model/JvmNames", name := "requireMethodDescriptor", desc := "(Ljava/lang/String;)Ljava/lang/String;" } : Jvm.MethodName)).before A.a0 A.Z = true   := K.tab _ (List.mem_of_getElem? (i := 134) rfl)
theorem w_135 {A : Ax} (K : Wd A) : (Jvm.Cond.code ({ cls := "com/example/callweave/callweave/model/JvmNames", name := "requireMethodDescriptor", desc := "(Ljava/lang/String;)Ljava/lang/String;" } : Jvm.MethodName) prog_19_method_7_code (1 : Nat) (Option.some (Jvm.ClassFile.FieldType.object "java/lang/String"))).before A.a0 A.Z = true   := K.tab _ (List.mem_of_getElem? (i := 135) rfl)
theorem w_136 {A : Ax} (K : Wd A) : (Jvm.Cond.methodLink "com/example/callweave/callweave/model/JvmNames" (39 : Nat) ({ cls := "com/example/callweave/callweave/model/JvmNames", name := "isMethodDescriptor", desc := "(Ljava/lang/String;)Z" } : Jvm.MethodName)).before A.a0 A.Z = true   := K.tab _ (List.mem_of_getElem? (i := 136) rfl)
theorem w_137 {A : Ax} (K : Wd A) : (Jvm.Cond.static ({ cls := "com/example/callweave/callweave/model/JvmNames", name := "isMethodDescriptor", desc := "(Ljava/lang/String;)Z" } : Jvm.MethodName)).before A.a0 A.Z = true   := K.tab _ (List.mem_of_getElem? (i := 137) rfl)
theorem w_138 {A : Ax} (K : Wd A) : (Jvm.Cond.code ({ cls := "com/example/callweave/callweave/model/JvmNames", name := "isMethodDescriptor", desc := "(Ljava/lang/String;)Z" } : Jvm.MethodName) prog_19_method_15_code (4 : Nat) (Option.some Jvm.ClassFile.FieldType.boolean)).before A.a0 A.Z = true   := K.tab _ (List.mem_of_getElem? (i := 138) rfl)
theorem w_139 {A : Ax} (K : Wd A) : (Jvm.Cond.stringLink "com/example/callweave/callweave/model/JvmNames" (90 : Nat) "(").before A.a0 A.Z = true   := K.tab _ (List.mem_of_getElem? (i := 139) rfl)
theorem w_140 {A : Ax} (K : Wd A) : (Jvm.Cond.methodLink "com/example/callweave/callweave/model/JvmNames" (64 : Nat) ({ cls := "java/lang/String", name := "startsWith", desc := "(Ljava/lang/String;)Z" } : Jvm.MethodName)).before A.a0 A.Z = true   := K.tab _ (List.mem_of_getElem? (i := 140) rfl)
theorem w_141 {A : Ax} (K : Wd A) : (Jvm.Cond.declares ({ cls := "java/lang/String", name := "startsWith", desc := "(Ljava/lang/String;)Z" } : Jvm.MethodName)).before A.a0 A.Z = true   := K.tab _ (List.mem_of_getElem? (i := 141) rfl)
theorem w_142 {A : Ax} (K : Wd A) : (Jvm.Cond.instanceMethod ({ cls := "java/lang/String", name := "startsWith", desc := "(Ljava/lang/String;)Z" } : Jvm.MethodName)).before A.a0 A.Z = true   := K.tab _ (List.mem_of_getElem? (i := 142) rfl)
theorem w_143 {A : Ax} (K : Wd A) : (Jvm.Cond.selects "java/lang/String" ({ cls := "java/lang/String", name := "startsWith", desc := "(Ljava/lang/String;)Z" } : Jvm.MethodName) ({ cls := "java/lang/String", name := "startsWith", desc := "(Ljava/lang/String;)Z" } : Jvm.MethodName)).before A.a0 A.Z = true   := K.tab _ (List.mem_of_getElem? (i := 143) rfl)
theorem w_144 {A : Ax} (K : Wd A) : (Jvm.Cond.code ({ cls := "java/lang/String", name := "startsWith", desc := "(Ljava/lang/String;)Z" } : Jvm.MethodName) jdk_42_method_76_code (2 : Nat) (Option.some Jvm.ClassFile.FieldType.boolean)).before A.a0 A.Z = true   := K.tab _ (List.mem_of_getElem? (i := 144) rfl)
theorem w_145 {A : Ax} (K : Wd A) : (Jvm.Cond.methodLink "java/lang/String" (624 : Nat) ({ cls := "java/lang/String", name := "startsWith", desc := "(Ljava/lang/String;I)Z" } : Jvm.MethodName)).before A.a0 A.Z = true   := K.tab _ (List.mem_of_getElem? (i := 145) rfl)
theorem w_146 {A : Ax} (K : Wd A) : (Jvm.Cond.declares ({ cls := "java/lang/String", name := "startsWith", desc := "(Ljava/lang/String;I)Z" } : Jvm.MethodName)).before A.a0 A.Z = true   := K.tab _ (List.mem_of_getElem? (i := 146) rfl)
theorem w_147 {A : Ax} (K : Wd A) : (Jvm.Cond.instanceMethod ({ cls := "java/lang/String", name := "startsWith", desc := "(Ljava/lang/String;I)Z" } : Jvm.MethodName)).before A.a0 A.Z = true   := K.tab _ (List.mem_of_getElem? (i := 147) rfl)
theorem w_148 {A : Ax} (K : Wd A) : (Jvm.Cond.selects "java/lang/String" ({ cls := "java/lang/String", name := "startsWith", desc := "(Ljava/lang/String;I)Z" } : Jvm.MethodName) ({ cls := "java/lang/String", name := "startsWith", desc := "(Ljava/lang/String;I)Z" } : Jvm.MethodName)).before A.a0 A.Z = true   := K.tab _ (List.mem_of_getElem? (i := 148) rfl)
theorem w_149 {A : Ax} (K : Wd A) : (Jvm.Cond.code ({ cls := "java/lang/String", name := "startsWith", desc := "(Ljava/lang/String;I)Z" } : Jvm.MethodName) jdk_42_method_75_code (8 : Nat) (Option.some Jvm.ClassFile.FieldType.boolean)).before A.a0 A.Z = true   := K.tab _ (List.mem_of_getElem? (i := 149) rfl)
theorem w_150 {A : Ax} (K : Wd A) : (Jvm.Cond.methodLink "java/lang/String" (505 : Nat) ({ cls := "java/lang/String", name := "length", desc := "()I" } : Jvm.MethodName)).before A.a0 A.Z = true   := K.tab _ (List.mem_of_getElem? (i := 150) rfl)
theorem w_151 {A : Ax} (K : Wd A) : (Jvm.Cond.methodLink "java/lang/String" (607 : Nat) ({ cls := "jdk/internal/util/ArraysSupport", name := "mismatch", desc := "([BI[BII)I" } : Jvm.MethodName)).before A.a0 A.Z = true   := K.tab _ (List.mem_of_getElem? (i := 151) rfl)
theorem w_152 {A : Ax} (K : Wd A) : (Jvm.Cond.static ({ cls := "jdk/internal/util/ArraysSupport", name := "mismatch", desc := "([BI[BII)I" } : Jvm.MethodName)).before A.a0 A.Z = true   := K.tab _ (List.mem_of_getElem? (i := 152) rfl)
theorem w_153 {A : Ax} (K : Wd A) : (Jvm.Cond.initialized "jdk/internal/util/ArraysSupport").before A.a0 A.Z = true   := K.tab _ (List.mem_of_getElem? (i := 153) rfl)
theorem w_154 {A : Ax} (K : Wd A) : (Jvm.Cond.code ({ cls := "jdk/internal/util/ArraysSupport", name := "mismatch", desc := "([BI[BII)I" } : Jvm.MethodName) jdk_48_method_14_code (8 : Nat) (Option.some Jvm.ClassFile.FieldType.int)).before A.a0 A.Z = true   := K.tab _ (List.mem_of_getElem? (i := 154) rfl)
theorem w_155 {A : Ax} (K : Wd A) : (Jvm.Cond.methodLink "com/example/callweave/callweave/model/JvmNames" (86 : Nat) ({ cls := "com/example/callweave/callweave/model/JvmNames", name := "endOfFieldType", desc := "(Ljava/lang/String;I)I" } : Jvm.MethodName)).before A.a0 A.Z = true   := K.tab _ (List.mem_of_getElem? (i := 155) rfl)
theorem w_156 {A : Ax} (K : Wd A) : (Jvm.Cond.static ({ cls := "com/example/callweave/callweave/model/JvmNames", name := "endOfFieldType", desc := "(Ljava/lang/String;I)I" } : Jvm.MethodName)).before A.a0 A.Z = true   := K.tab _ (List.mem_of_getElem? (i := 156) rfl)
theorem w_157 {A : Ax} (K : Wd A) : (Jvm.Cond.code ({ cls := "com/example/callweave/callweave/model/JvmNames", name := "endOfFieldType", desc := "(Ljava/lang/String;I)I" } : Jvm.MethodName) prog_19_method_16_code (4 : Nat) (Option.some Jvm.ClassFile.FieldType.int)).before A.a0 A.Z = true   := K.tab _ (List.mem_of_getElem? (i := 157) rfl)
theorem w_158 {A : Ax} (K : Wd A) : (Jvm.Cond.stringLink "com/example/callweave/callweave/model/JvmNames" (42 : Nat) "a method descriptor").before A.a0 A.Z = true   := K.tab _ (List.mem_of_getElem? (i := 158) rfl)
theorem w_159 {A : Ax} (K : Wd A) : (Jvm.Cond.fieldLink "com/example/callweave/callweave/model/MethodRef" (36 : Nat) "com/example/callweave/callweave/model/MethodRef" "owner" "Ljava/lang/String;").before A.a0 A.Z = true   := K.tab _ (List.mem_of_getElem? (i := 159) rfl)
theorem w_160 {A : Ax} (K : Wd A) : (Jvm.Cond.laysFinal "com/example/callweave/callweave/model/MethodRef" "com/example/callweave/callweave/model/MethodRef" "owner" "Ljava/lang/String;").before A.a0 A.Z = true   := K.tab _ (List.mem_of_getElem? (i := 160) rfl)
theorem w_161 {A : Ax} (K : Wd A) : (Jvm.Cond.fieldLink "com/example/callweave/callweave/model/MethodRef" (39 : Nat) "com/example/callweave/callweave/model/MethodRef" "name" "Ljava/lang/String;").before A.a0 A.Z = true   := K.tab _ (List.mem_of_getElem? (i := 161) rfl)
theorem w_162 {A : Ax} (K : Wd A) : (Jvm.Cond.laysFinal "com/example/callweave/callweave/model/MethodRef" "com/example/callweave/callweave/model/MethodRef" "name" "Ljava/lang/String;").before A.a0 A.Z = true   := K.tab _ (List.mem_of_getElem? (i := 162) rfl)
theorem w_163 {A : Ax} (K : Wd A) : (Jvm.Cond.fieldLink "com/example/callweave/callweave/model/MethodRef" (41 : Nat) "com/example/callweave/callweave/model/MethodRef" "descriptor" "Ljava/lang/String;").before A.a0 A.Z = true   := K.tab _ (List.mem_of_getElem? (i := 163) rfl)
theorem w_164 {A : Ax} (K : Wd A) : (Jvm.Cond.laysFinal "com/example/callweave/callweave/model/MethodRef" "com/example/callweave/callweave/model/MethodRef" "descriptor" "Ljava/lang/String;").before A.a0 A.Z = true   := K.tab _ (List.mem_of_getElem? (i := 164) rfl)
theorem w_165 {A : Ax} (K : Wd A) : (Jvm.Cond.classLink "com/example/callweave/callweave/model/MethodRefEqualsPinLaw" (34 : Nat) "com/example/callweave/callweave/model/FieldRef").before A.a0 A.Z = true   := K.tab _ (List.mem_of_getElem? (i := 165) rfl)
theorem w_166 {A : Ax} (K : Wd A) : (Jvm.Cond.instantiable "com/example/callweave/callweave/model/FieldRef" (4 : Nat)).before A.a0 A.Z = true   := K.tab _ (List.mem_of_getElem? (i := 166) rfl)
theorem w_167 {A : Ax} (K : Wd A) : (Jvm.Cond.initialized "com/example/callweave/callweave/model/FieldRef").before A.a0 A.Z = true   := K.tab _ (List.mem_of_getElem? (i := 167) rfl)
theorem w_168 {A : Ax} (K : Wd A) : (Jvm.Cond.methodLink "com/example/callweave/callweave/model/MethodRefEqualsPinLaw" (36 : Nat) ({ cls := "java/lang/String", name := "valueOf", desc := "(C)Ljava/lang/String;" } : Jvm.MethodName)).before A.a0 A.Z = true   := K.tab _ (List.mem_of_getElem? (i := 168) rfl)
theorem w_169 {A : Ax} (K : Wd A) : (Jvm.Cond.static ({ cls := "java/lang/String", name := "valueOf", desc := "(C)Ljava/lang/String;" } : Jvm.MethodName)).before A.a0 A.Z = true   := K.tab _ (List.mem_of_getElem? (i := 169) rfl)
theorem w_170 {A : Ax} (K : Wd A) : (Jvm.Cond.code ({ cls := "java/lang/String", name := "valueOf", desc := "(C)Ljava/lang/String;" } : Jvm.MethodName) jdk_42_method_139_code (1 : Nat) (Option.some (Jvm.ClassFile.FieldType.object "java/lang/String"))).before A.a0 A.Z = true   := K.tab _ (List.mem_of_getElem? (i := 170) rfl)
theorem w_171 {A : Ax} (K : Wd A) : (Jvm.Cond.methodLink "java/lang/String" (1015 : Nat) ({ cls := "java/lang/StringLatin1", name := "canEncode", desc := "(C)Z" } : Jvm.MethodName)).before A.a0 A.Z = true   := K.tab _ (List.mem_of_getElem? (i := 171) rfl)
theorem w_172 {A : Ax} (K : Wd A) : (Jvm.Cond.static ({ cls := "java/lang/StringLatin1", name := "canEncode", desc := "(C)Z" } : Jvm.MethodName)).before A.a0 A.Z = true   := K.tab _ (List.mem_of_getElem? (i := 172) rfl)
theorem w_173 {A : Ax} (K : Wd A) : (Jvm.Cond.code ({ cls := "java/lang/StringLatin1", name := "canEncode", desc := "(C)Z" } : Jvm.MethodName) jdk_43_method_3_code (1 : Nat) (Option.some Jvm.ClassFile.FieldType.boolean)).before A.a0 A.Z = true   := K.tab _ (List.mem_of_getElem? (i := 173) rfl)
theorem w_174 {A : Ax} (K : Wd A) : (Jvm.Cond.methodLink "java/lang/String" (1018 : Nat) ({ cls := "java/lang/StringLatin1", name := "toBytes", desc := "(C)[B" } : Jvm.MethodName)).before A.a0 A.Z = true   := K.tab _ (List.mem_of_getElem? (i := 174) rfl)
theorem w_175 {A : Ax} (K : Wd A) : (Jvm.Cond.static ({ cls := "java/lang/StringLatin1", name := "toBytes", desc := "(C)[B" } : Jvm.MethodName)).before A.a0 A.Z = true   := K.tab _ (List.mem_of_getElem? (i := 175) rfl)
theorem w_176 {A : Ax} (K : Wd A) : (Jvm.Cond.code ({ cls := "java/lang/StringLatin1", name := "toBytes", desc := "(C)[B" } : Jvm.MethodName) jdk_43_method_46_code (1 : Nat) (Option.some (Jvm.ClassFile.FieldType.array Jvm.ClassFile.FieldType.byte))).before A.a0 A.Z = true   := K.tab _ (List.mem_of_getElem? (i := 176) rfl)
theorem w_177 {A : Ax} (K : Wd A) : (Jvm.Cond.methodLink "java/lang/String" (209 : Nat) ({ cls := "java/lang/String", name := "<init>", desc := "([BB)V" } : Jvm.MethodName)).before A.a0 A.Z = true   := K.tab _ (List.mem_of_getElem? (i := 177) rfl)
theorem w_178 {A : Ax} (K : Wd A) : (Jvm.Cond.instanceMethod ({ cls := "java/lang/String", name := "<init>", desc := "([BB)V" } : Jvm.MethodName)).before A.a0 A.Z = true   := K.tab _ (List.mem_of_getElem? (i := 178) rfl)
theorem w_179 {A : Ax} (K : Wd A) : (Jvm.Cond.code ({ cls := "java/lang/String", name := "<init>", desc := "([BB)V" } : Jvm.MethodName) jdk_42_method_151_code (3 : Nat) (Option.none : Option Jvm.ClassFile.FieldType)).before A.a0 A.Z = true   := K.tab _ (List.mem_of_getElem? (i := 179) rfl)
theorem w_180 {A : Ax} (K : Wd A) : (Jvm.Cond.methodLink "com/example/callweave/callweave/model/MethodRefEqualsPinLaw" (40 : Nat) ({ cls := "com/example/callweave/callweave/model/FieldRef", name := "<init>", desc := "(Ljava/lang/String;Ljava/lang/String;Ljava/lang/String;)V" } : Jvm.MethodName)).before A.a0 A.Z = true   := K.tab _ (List.mem_of_getElem? (i := 180) rfl)
theorem w_181 {A : Ax} (K : Wd A) : (Jvm.Cond.instanceMethod ({ cls := "com/example/callweave/callweave/model/FieldRef", name := "<init>", desc := "(Ljava/lang/String;Ljava/lang/String;Ljava/lang/String;)V" } : Jvm.MethodName)).before A.a0 A.Z = true   := K.tab _ (List.mem_of_getElem? (i := 181) rfl)
theorem w_182 {A : Ax} (K : Wd A) : (Jvm.Cond.code ({ cls := "com/example/callweave/callweave/model/FieldRef", name := "<init>", desc := "(Ljava/lang/String;Ljava/lang/String;Ljava/lang/String;)V" } : Jvm.MethodName) prog_13_method_1_code (4 : Nat) (Option.none : Option Jvm.ClassFile.FieldType)).before A.a0 A.Z = true   := K.tab _ (List.mem_of_getElem? (i := 182) rfl)
theorem w_183 {A : Ax} (K : Wd A) : (Jvm.Cond.methodLink "com/example/callweave/callweave/model/FieldRef" (1 : Nat) ({ cls := "com/example/callweave/callweave/model/FieldRef", name := "<init>", desc := "(Ljava/lang/String;Ljava/lang/String;Ljava/lang/String;Z)V" } : Jvm.MethodName)).before A.a0 A.Z = true   := K.tab _ (List.mem_of_getElem? (i := 183) rfl)
theorem w_184 {A : Ax} (K : Wd A) : (Jvm.Cond.instanceMethod ({ cls := "com/example/callweave/callweave/model/FieldRef", name := "<init>", desc := "(Ljava/lang/String;Ljava/lang/String;Ljava/lang/String;Z)V" } : Jvm.MethodName)).before A.a0 A.Z = true   := K.tab _ (List.mem_of_getElem? (i := 184) rfl)
theorem w_185 {A : Ax} (K : Wd A) : (Jvm.Cond.code ({ cls := "com/example/callweave/callweave/model/FieldRef", name := "<init>", desc := "(Ljava/lang/String;Ljava/lang/String;Ljava/lang/String;Z)V" } : Jvm.MethodName) prog_13_method_2_code (5 : Nat) (Option.none : Option Jvm.ClassFile.FieldType)).before A.a0 A.Z = true   := K.tab _ (List.mem_of_getElem? (i := 185) rfl)
theorem w_186 {A : Ax} (K : Wd A) : (Jvm.Cond.methodLink "com/example/callweave/callweave/model/FieldRef" (7 : Nat) ({ cls := "java/lang/Object", name := "<init>", desc := "()V" } : Jvm.MethodName)).before A.a0 A.Z = true   := K.tab _ (List.mem_of_getElem? (i := 186) rfl)
theorem w_187 {A : Ax} (K : Wd A) : (Jvm.Cond.stringLink "com/example/callweave/callweave/model/FieldRef" (12 : Nat) "owner").before A.a0 A.Z = true   := K.tab _ (List.mem_of_getElem? (i := 187) rfl)
theorem w_188 {A : Ax} (K : Wd A) : (Jvm.Cond.methodLink "com/example/callweave/callweave/model/FieldRef" (14 : Nat) ({ cls := "java/util/Objects", name := "requireNonNull", desc := "(Ljava/lang/Object;Ljava/lang/String;)Ljava/lang/Object;" } : Jvm.MethodName)).before A.a0 A.Z = true   := K.tab _ (List.mem_of_getElem? (i := 188) rfl)
theorem w_189 {A : Ax} (K : Wd A) : (Jvm.Cond.stringLink "com/example/callweave/callweave/model/FieldRef" (20 : Nat) "name").before A.a0 A.Z = true   := K.tab _ (List.mem_of_getElem? (i := 189) rfl)
theorem w_190 {A : Ax} (K : Wd A) : (Jvm.Cond.stringLink "com/example/callweave/callweave/model/FieldRef" (22 : Nat) "descriptor").before A.a0 A.Z = true   := K.tab _ (List.mem_of_getElem? (i := 190) rfl)
theorem w_191 {A : Ax} (K : Wd A) : (Jvm.Cond.methodLink "com/example/callweave/callweave/model/FieldRef" (24 : Nat) ({ cls := "com/example/callweave/callweave/model/JvmNames", name := "requireClassName", desc := "(Ljava/lang/String;)Ljava/lang/String;" } : Jvm.MethodName)).before A.a0 A.Z = true   := K.tab _ (List.mem_of_getElem? (i := 191) rfl)
theorem w_192 {A : Ax} (K : Wd A) : (Jvm.Cond.methodLink "com/example/callweave/callweave/model/FieldRef" (30 : Nat) ({ cls := "com/example/callweave/callweave/model/JvmNames", name := "requireFieldName", desc := "(Ljava/lang/String;)Ljava/lang/String;" } : Jvm.MethodName)).before A.a0 A.Z = true   := K.tab _ (List.mem_of_getElem? (i := 192) rfl)
theorem w_193 {A : Ax} (K : Wd A) : (Jvm.Cond.static ({ cls := "com/example/callweave/callweave/model/JvmNames", name := "requireFieldName", desc := "(Ljava/lang/String;)Ljava/lang/String;" } : Jvm.MethodName)).before A.a0 A.Z = true   := K.tab _ (List.mem_of_getElem? (i := 193) rfl)
theorem w_194 {A : Ax} (K : Wd A) : (Jvm.Cond.code ({ cls := "com/example/callweave/callweave/model/JvmNames", name := "requireFieldName", desc := "(Ljava/lang/String;)Ljava/lang/String;" } : Jvm.MethodName) prog_19_method_4_code (1 : Nat) (Option.some (Jvm.ClassFile.FieldType.object "java/lang/String"))).before A.a0 A.Z = true   := K.tab _ (List.mem_of_getElem? (i := 194) rfl)
theorem w_195 {A : Ax} (K : Wd A) : (Jvm.Cond.methodLink "com/example/callweave/callweave/model/JvmNames" (24 : Nat) ({ cls := "com/example/callweave/callweave/model/JvmNames", name := "isFieldName", desc := "(Ljava/lang/String;)Z" } : Jvm.MethodName)).before A.a0 A.Z = true   := K.tab _ (List.mem_of_getElem? (i := 195) rfl)
theorem w_196 {A : Ax} (K : Wd A) : (Jvm.Cond.static ({ cls := "com/example/callweave/callweave/model/JvmNames", name := "isFieldName", desc := "(Ljava/lang/String;)Z" } : Jvm.MethodName)).before A.a0 A.Z = true   := K.tab _ (List.mem_of_getElem? (i := 196) rfl)
theorem w_197 {A : Ax} (K : Wd A) : (Jvm.Cond.code ({ cls := "com/example/callweave/callweave/model/JvmNames", name := "isFieldName", desc := "(Ljava/lang/String;)Z" } : Jvm.MethodName) prog_19_method_11_code (1 : Nat) (Option.some Jvm.ClassFile.FieldType.boolean)).before A.a0 A.Z = true   := K.tab _ (List.mem_of_getElem? (i := 197) rfl)
theorem w_198 {A : Ax} (K : Wd A) : (Jvm.Cond.stringLink "com/example/callweave/callweave/model/JvmNames" (27 : Nat) "a field name").before A.a0 A.Z = true   := K.tab _ (List.mem_of_getElem? (i := 198) rfl)
theorem w_199 {A : Ax} (K : Wd A) : (Jvm.Cond.methodLink "com/example/callweave/callweave/model/FieldRef" (33 : Nat) ({ cls := "com/example/callweave/callweave/model/JvmNames", name := "requireFieldDescriptor", desc := "(Ljava/lang/String;)Ljava/lang/String;" } : Jvm.MethodName)).before A.a0 A.Z = true   := K.tab _ (List.mem_of_getElem? (i := 199) rfl)
theorem w_200 {A : Ax} (K : Wd A) : (Jvm.Cond.static ({ cls := "com/example/callweave/callweave/model/JvmNames", name := "requireFieldDescriptor", desc := "(Ljava/lang/String;)Ljava/lang/String;" } : Jvm.MethodName)).before A.a0 A.Z = true   := K.tab _ (List.mem_of_getElem? (i := 200) rfl)
theorem w_201 {A : Ax} (K : Wd A) : (Jvm.Cond.code ({ cls := "com/example/callweave/callweave/model/JvmNames", name := "requireFieldDescriptor", desc := "(Ljava/lang/String;)Ljava/lang/String;" } : Jvm.MethodName) prog_19_method_5_code (1 : Nat) (Option.some (Jvm.ClassFile.FieldType.object "java/lang/String"))).before A.a0 A.Z = true   := K.tab _ (List.mem_of_getElem? (i := 201) rfl)
theorem w_202 {A : Ax} (K : Wd A) : (Jvm.Cond.methodLink "com/example/callweave/callweave/model/JvmNames" (29 : Nat) ({ cls := "com/example/callweave/callweave/model/JvmNames", name := "isFieldDescriptor", desc := "(Ljava/lang/String;)Z" } : Jvm.MethodName)).before A.a0 A.Z = true   := K.tab _ (List.mem_of_getElem? (i := 202) rfl)
theorem w_203 {A : Ax} (K : Wd A) : (Jvm.Cond.static ({ cls := "com/example/callweave/callweave/model/JvmNames", name := "isFieldDescriptor", desc := "(Ljava/lang/String;)Z" } : Jvm.MethodName)).before A.a0 A.Z = true   := K.tab _ (List.mem_of_getElem? (i := 203) rfl)
theorem w_204 {A : Ax} (K : Wd A) : (Jvm.Cond.code ({ cls := "com/example/callweave/callweave/model/JvmNames", name := "isFieldDescriptor", desc := "(Ljava/lang/String;)Z" } : Jvm.MethodName) prog_19_method_14_code (1 : Nat) (Option.some Jvm.ClassFile.FieldType.boolean)).before A.a0 A.Z = true   := K.tab _ (List.mem_of_getElem? (i := 204) rfl)
theorem w_205 {A : Ax} (K : Wd A) : (Jvm.Cond.stringLink "com/example/callweave/callweave/model/JvmNames" (32 : Nat) "a field descriptor").before A.a0 A.Z = true   := K.tab _ (List.mem_of_getElem? (i := 205) rfl)
theorem w_206 {A : Ax} (K : Wd A) : (Jvm.Cond.fieldLink "com/example/callweave/callweave/model/FieldRef" (36 : Nat) "com/example/callweave/callweave/model/FieldRef" "owner" "Ljava/lang/String;").before A.a0 A.Z = true   := K.tab _ (List.mem_of_getElem? (i := 206) rfl)
theorem w_207 {A : Ax} (K : Wd A) : (Jvm.Cond.laysFinal "com/example/callweave/callweave/model/FieldRef" "com/example/callweave/callweave/model/FieldRef" "owner" "Ljava/lang/String;").before A.a0 A.Z = true   := K.tab _ (List.mem_of_getElem? (i := 207) rfl)
theorem w_208 {A : Ax} (K : Wd A) : (Jvm.Cond.fieldLink "com/example/callweave/callweave/model/FieldRef" (39 : Nat) "com/example/callweave/callweave/model/FieldRef" "name" "Ljava/lang/String;").before A.a0 A.Z = true   := K.tab _ (List.mem_of_getElem? (i := 208) rfl)
theorem w_209 {A : Ax} (K : Wd A) : (Jvm.Cond.laysFinal "com/example/callweave/callweave/model/FieldRef" "com/example/callweave/callweave/model/FieldRef" "name" "Ljava/lang/String;").before A.a0 A.Z = true   := K.tab _ (List.mem_of_getElem? (i := 209) rfl)
theorem w_210 {A : Ax} (K : Wd A) : (Jvm.Cond.fieldLink "com/example/callweave/callweave/model/FieldRef" (41 : Nat) "com/example/callweave/callweave/model/FieldRef" "descriptor" "Ljava/lang/String;").before A.a0 A.Z = true   := K.tab _ (List.mem_of_getElem? (i := 210) rfl)
theorem w_211 {A : Ax} (K : Wd A) : (Jvm.Cond.laysFinal "com/example/callweave/callweave/model/FieldRef" "com/example/callweave/callweave/model/FieldRef" "descriptor" "Ljava/lang/String;").before A.a0 A.Z = true   := K.tab _ (List.mem_of_getElem? (i := 211) rfl)
theorem w_212 {A : Ax} (K : Wd A) : (Jvm.Cond.methodLink "com/example/callweave/callweave/model/MethodRefEqualsPinLaw" (41 : Nat) ({ cls := "com/example/callweave/callweave/model/MethodRef", name := "equals", desc := "(Ljava/lang/Object;)Z" } : Jvm.MethodName)).before A.a0 A.Z = true   := K.tab _ (List.mem_of_getElem? (i := 212) rfl)
theorem w_213 {A : Ax} (K : Wd A) : (Jvm.Cond.declares ({ cls := "com/example/callweave/callweave/model/MethodRef", name := "equals", desc := "(Ljava/lang/Object;)Z" } : Jvm.MethodName)).before A.a0 A.Z = true   := K.tab _ (List.mem_of_getElem? (i := 213) rfl)
theorem w_214 {A : Ax} (K : Wd A) : (Jvm.Cond.instanceMethod ({ cls := "com/example/callweave/callweave/model/MethodRef", name := "equals", desc := "(Ljava/lang/Object;)Z" } : Jvm.MethodName)).before A.a0 A.Z = true   := K.tab _ (List.mem_of_getElem? (i := 214) rfl)
theorem w_215 {A : Ax} (K : Wd A) : (Jvm.Cond.selects "com/example/callweave/callweave/model/MethodRef" ({ cls := "com/example/callweave/callweave/model/MethodRef", name := "equals", desc := "(Ljava/lang/Object;)Z" } : Jvm.MethodName) ({ cls := "com/example/callweave/callweave/model/MethodRef", name := "equals", desc := "(Ljava/lang/Object;)Z" } : Jvm.MethodName)).before A.a0 A.Z = true   := K.tab _ (List.mem_of_getElem? (i := 215) rfl)
theorem w_216 {A : Ax} (K : Wd A) : (Jvm.Cond.code ({ cls := "com/example/callweave/callweave/model/MethodRef", name := "equals", desc := "(Ljava/lang/Object;)Z" } : Jvm.MethodName) prog_21_method_8_code (3 : Nat) (Option.some Jvm.ClassFile.FieldType.boolean)).before A.a0 A.Z = true   := K.tab _ (List.mem_of_getElem? (i := 216) rfl)
theorem w_217 {A : Ax} (K : Wd A) : (Jvm.Cond.classLink "com/example/callweave/callweave/model/MethodRef" (2 : Nat) "com/example/callweave/callweave/model/MethodRef").before A.a0 A.Z = true   := K.tab _ (List.mem_of_getElem? (i := 217) rfl)
theorem w_219 {A : Ax} (K : Wd A) : (Jvm.Cond.methodLink "com/example/callweave/callweave/model/MethodRef" (82 : Nat) ({ cls := "java/lang/String", name := "equals", desc := "(Ljava/lang/Object;)Z" } : Jvm.MethodName)).before A.a0 A.Z = true   := K.tab _ (List.mem_of_getElem? (i := 219) rfl)
theorem w_220 {A : Ax} (K : Wd A) : (Jvm.Cond.superclass "com/example/callweave/callweave/model/FieldRef" "java/lang/Object").before A.a0 A.Z = true   := K.tab _ (List.mem_of_getElem? (i := 220) rfl)
theorem w_221 {A : Ax} (K : Wd A) : (Jvm.Cond.noSuperclass "java/lang/Object").before A.a0 A.Z = true   := K.tab _ (List.mem_of_getElem? (i := 221) rfl)
theorem strAtoms {A : Ax} (K : Wd A) : ∀ a ∈ Bundle.stringAtoms, a.before A.a0 A.Z = true := fun a h => by
  simp only [Bundle.stringAtoms, Bundle.sN, List.mem_cons, List.not_mem_nil, or_false] at h
  rcases h with rfl | rfl | rfl | rfl | rfl | rfl | rfl
  · exact (w_11 K)
  · exact (w_12 K)
  · exact (w_13 K)
  · exact (w_14 K)
  · exact (w_15 K)
  · exact (w_16 K)
  · exact (w_17 K)
def tb_cdr : List In1 := [(0, .getstatic 38, 3), (3, .ifCond .eq 10, 3), (6, .aload_n 0, 1), (7, .getfield 15, 3), (10, .goto 4, 3), (13, .iconst 1, 1), (14, .ireturn, 1)]
set_option maxRecDepth 65536 in
theorem td_cdr : Dec jdk_42_method_152_code tb_cdr := by unfold Dec; decide +kernel
theorem pd_cdr : parseMethodDescriptor "()B" = some ⟨[], (some .byte)⟩ := by decide +kernel
theorem pn_cdr : plainFor (⟨"java/lang/String", "coder", "()B"⟩ : MethodName) = true := by decide +kernel
abbrev B_cdr : Bx := ((⟨"java/lang/String", "coder", "()B"⟩ : MethodName), jdk_42_method_152_code, 1, (Option.some Jvm.ClassFile.FieldType.byte), ({ frames := 0, cells := 0, slots := 0, locals := 0 } : Room))
set_option maxRecDepth 65536 in
set_option maxHeartbeats 4000000 in
theorem cdr_met {A : Ax} (K : Wd A) {a b : Addr} {cd : Int32} (hcd : byt8 cd = cd) {F G : List Ent} (m : StrE A a b cd ∈ F ∨ StrE A a b cd ∈ G) : Met A B_cdr #[.ref a] F G (fun v F' G' => v = some (.int cd) ∧ F = F' ∧ G = G') := by
  refine MetW.of_go pn_cdr K.ew (L := [.val (.ref a)]) (fun m => rfl) ?_
  intro D _
  obtain ⟨z, nz, hz⟩ := K.cmpt
  refine Go.getstatic (B := B_cdr) td_cdr 0 rfl (w_28 K) hz ?_
  refine Go.if0 (B := B_cdr) td_cdr 1 (pc' := 13) rfl (by decide) rfl ?_ ?_
  · intro (h : z = 0)
    exact absurd h nz
  · intro (h : ¬ (z = 0))
    refine Go.run (B := B_cdr) td_cdr 2 1 (pc' := 7) (L' := [.val (.ref a)]) (S' := [.ref a]) rfl ?_
    refine Go.getfield (B := B_cdr) td_cdr 3 rfl (w_29 K) m (List.mem_of_getElem? (i := 1) rfl) ?_
    refine Go.run (B := B_cdr) td_cdr 4 1 (pc' := 14) (L' := [.val (.ref a)]) (S' := [.int cd]) rfl ?_
    exact Go.retB (B := B_cdr) td_cdr 6 rfl rfl hcd ⟨rfl, rfl, rfl⟩ (by decide) (by decide)
def tb_len : List In1 := [(0, .aload_n 0, 1), (1, .getfield 9, 3), (4, .arraylength, 1), (5, .aload_n 0, 1), (6, .invokevirtual 335, 3), (9, .ishr, 1), (10, .ireturn, 1)]
set_option maxRecDepth 65536 in
theorem td_len : Dec jdk_42_method_54_code tb_len := by unfold Dec; decide +kernel
theorem pd_len : parseMethodDescriptor "()I" = some ⟨[], (some .int)⟩ := by decide +kernel
theorem pn_len : plainFor (⟨"java/lang/String", "length", "()I"⟩ : MethodName) = true := by decide +kernel
abbrev B_len : Bx := ((⟨"java/lang/String", "length", "()I"⟩ : MethodName), jdk_42_method_54_code, 1, (Option.some Jvm.ClassFile.FieldType.int), ({ frames := 1, cells := 0, slots := 0, locals := 13 } : Room))
set_option maxRecDepth 65536 in
set_option maxHeartbeats 4000000 in
theorem len_met {A : Ax} (K : Wd A) {a b : Addr} {cd z r : Int32} {vs : List Value} (hcd : byt8 cd = cd) (hz : (vs.length : Int) = z.toInt) (hr : z >>> (cd &&& 31) = r) {F G : List Ent} (m : StrE A a b cd ∈ F ∨ StrE A a b cd ∈ G) (m' : BytE A b vs ∈ F ∨ BytE A b vs ∈ G) : Met A B_len #[.ref a] F G (fun v F' G' => v = some (.int r) ∧ F = F' ∧ G = G') := by
  refine MetW.of_go pn_len K.ew (L := [.val (.ref a)]) (fun m => rfl) ?_
  intro D _
  refine Go.run (B := B_len) td_len 0 1 (pc' := 1) (L' := [.val (.ref a)]) (S' := [.ref a]) rfl ?_
  refine Go.getfield (B := B_len) td_len 1 rfl (w_30 K) m (List.mem_of_getElem? (i := 0) rfl) ?_
  refine Go.arraylength (B := B_len) td_len 2 (z := z) rfl m' hz ?_
  refine Go.run (B := B_len) td_len 3 1 (pc' := 6) (L' := [.val (.ref a)]) (S' := [.ref a, .int z]) rfl ?_
  refine Go.callV (B := B_len) td_len 4 (B' := B_cdr) (C := "java/lang/String") (a := a) (argsL := []) (rest := [.int z]) (W := 1) rfl (cdr_met K hcd m) m (fun c P => P.1) (w_94 K) (w_95 K) (w_96 K) (w_97 K) (w_97 K) (w_11 K) (w_98 K) (by decide) pd_cdr rfl rfl rfl rfl (Nat.le_of_eq rfl) (by decide) (by decide) (by decide) (by decide) ?_
  rintro _ _ _ ⟨rfl, rfl, rfl⟩
  show Go A B_len D _ 9 [.val (.ref a)] [.int cd, .int z] F G 0 0
  refine Go.run (B := B_len) td_len 5 1 (pc' := 10) (L' := [.val (.ref a)]) (S' := [.int (z >>> (cd &&& 31))]) rfl ?_
  rw [hr]
  exact Go.retI (B := B_len) td_len 6 rfl rfl ⟨rfl, rfl, rfl⟩ (by decide) (by decide)
def tb_isl : List In1 := [(0, .getstatic 38, 3), (3, .ifCond .eq 14, 3), (6, .aload_n 0, 1), (7, .getfield 15, 3), (10, .ifCond .ne 7, 3), (13, .iconst 1, 1), (14, .goto 4, 3), (17, .iconst 0, 1), (18, .ireturn, 1)]
set_option maxRecDepth 65536 in
theorem td_isl : Dec jdk_42_method_154_code tb_isl := by unfold Dec; decide +kernel
theorem pd_isl : parseMethodDescriptor "()Z" = some ⟨[], (some .boolean)⟩ := by decide +kernel
theorem pn_isl : plainFor (⟨"java/lang/String", "isLatin1", "()Z"⟩ : MethodName) = true := by decide +kernel
abbrev B_isl : Bx := ((⟨"java/lang/String", "isLatin1", "()Z"⟩ : MethodName), jdk_42_method_154_code, 1, (Option.some Jvm.ClassFile.FieldType.boolean), ({ frames := 0, cells := 0, slots := 0, locals := 0 } : Room))
set_option maxRecDepth 65536 in
set_option maxHeartbeats 4000000 in
theorem isl_met {A : Ax} (K : Wd A) {a b : Addr} {F G : List Ent} (m : StrE A a b 0 ∈ F ∨ StrE A a b 0 ∈ G) : Met A B_isl #[.ref a] F G (fun v F' G' => v = some (.int 1) ∧ F = F' ∧ G = G') := by
  refine MetW.of_go pn_isl K.ew (L := [.val (.ref a)]) (fun m => rfl) ?_
  intro D _
  obtain ⟨z, nz, hz⟩ := K.cmpt
  refine Go.getstatic (B := B_isl) td_isl 0 rfl (w_28 K) hz ?_
  refine Go.if0 (B := B_isl) td_isl 1 (pc' := 17) rfl (by decide) rfl ?_ ?_
  · intro (h : z = 0)
    exact absurd h nz
  · intro (h : ¬ (z = 0))
    refine Go.run (B := B_isl) td_isl 2 1 (pc' := 7) (L' := [.val (.ref a)]) (S' := [.ref a]) rfl ?_
    refine Go.getfield (B := B_isl) td_isl 3 rfl (w_29 K) m (List.mem_of_getElem? (i := 1) rfl) ?_
    refine Go.if0 (B := B_isl) td_isl 4 (pc' := 17) rfl (by decide) rfl ?_ ?_
    · intro (h2 : (0 : Int32) ≠ 0)
      exact absurd rfl h2
    · intro (h2 : ¬ ((0 : Int32) ≠ 0))
      refine Go.run (B := B_isl) td_isl 5 2 (pc' := 18) (L' := [.val (.ref a)]) (S' := [.int (1 : Int32)]) rfl ?_
      exact Go.retZ (B := B_isl) td_isl 8 rfl rfl rfl ⟨rfl, rfl, rfl⟩ (by decide) (by decide)
def tb_pck : List In1 := [(0, .iload_n 0, 1), (1, .ifCond .lt 8, 3), (4, .iload_n 0, 1), (5, .iload_n 1, 1), (6, .if_icmp .lt 10, 3), (9, .aload_n 2, 1), (10, .iload_n 0, 1), (11, .iload_n 1, 1), (12, .invokestatic 95, 3), (15, .athrow, 1), (16, .iload_n 0, 1), (17, .ireturn, 1)]
set_option maxRecDepth 65536 in
theorem td_pck : Dec jdk_41_method_11_code tb_pck := by unfold Dec; decide +kernel
theorem pd_pck : parseMethodDescriptor "(IILjava/util/function/BiFunction;)I" = some ⟨[.int, .int, (.object "java/util/function/BiFunction")], (some .int)⟩ := by decide +kernel
theorem pn_pck : plainFor (⟨"jdk/internal/util/Preconditions", "checkIndex", "(IILjava/util/function/BiFunction;)I"⟩ : MethodName) = true := by decide +kernel
abbrev B_pck : Bx := ((⟨"jdk/internal/util/Preconditions", "checkIndex", "(IILjava/util/function/BiFunction;)I"⟩ : MethodName), jdk_41_method_11_code, 3, (Option.some Jvm.ClassFile.FieldType.int), ({ frames := 0, cells := 0, slots := 0, locals := 0 } : Room))
set_option maxRecDepth 65536 in
set_option maxHeartbeats 4000000 in
theorem pckN_met {A : Ax} (K : Wd A) {i n : Int32} (hi : 0 ≤ i.toInt ∧ i.toInt < n.toInt) {F G : List Ent} : Met A B_pck #[.int i, .int n, .null] F G (fun v F' G' => v = some (.int i) ∧ F = F' ∧ G = G') := by
  refine MetW.of_go pn_pck K.ew (L := [.val (.int i), .val (.int n), .val (.null)]) (fun m => rfl) ?_
  intro D _
  refine Go.run (B := B_pck) td_pck 0 1 (pc' := 1) (L' := [.val (.int i), .val (.int n), .val (.null)]) (S' := [.int i]) rfl ?_
  refine Go.if0 (B := B_pck) td_pck 1 (pc' := 9) rfl (by decide) rfl ?_ ?_
  · intro (h : i < 0)
    exact absurd (i32_lt.mp h) (Int.not_lt.mpr hi.1)
  · intro (h : ¬ (i < 0))
    refine Go.run (B := B_pck) td_pck 2 2 (pc' := 6) (L' := [.val (.int i), .val (.int n), .val (.null)]) (S' := [.int n, .int i]) rfl ?_
    refine Go.icmp (B := B_pck) td_pck 4 (pc' := 16) rfl (by decide) rfl ?_ ?_
    · intro (h2 : i < n)
      refine Go.run (B := B_pck) td_pck 10 1 (pc' := 17) (L' := [.val (.int i), .val (.int n), .val (.null)]) (S' := [.int i]) rfl ?_
      exact Go.retI (B := B_pck) td_pck 11 rfl rfl ⟨rfl, rfl, rfl⟩ (by decide) (by decide)
    · intro (h2 : ¬ (i < n))
      exact absurd (i32_lt.mpr hi.2) h2
set_option maxRecDepth 65536 in
set_option maxHeartbeats 4000000 in
theorem pckR_met {A : Ax} (K : Wd A) {r : Addr} {i n : Int32} (hi : 0 ≤ i.toInt ∧ i.toInt < n.toInt) {F G : List Ent} : Met A B_pck #[.int i, .int n, .ref r] F G (fun v F' G' => v = some (.int i) ∧ F = F' ∧ G = G') := by
  refine MetW.of_go pn_pck K.ew (L := [.val (.int i), .val (.int n), .val (.ref r)]) (fun m => rfl) ?_
  intro D _
  refine Go.run (B := B_pck) td_pck 0 1 (pc' := 1) (L' := [.val (.int i), .val (.int n), .val (.ref r)]) (S' := [.int i]) rfl ?_
  refine Go.if0 (B := B_pck) td_pck 1 (pc' := 9) rfl (by decide) rfl ?_ ?_
  · intro (h : i < 0)
    exact absurd (i32_lt.mp h) (Int.not_lt.mpr hi.1)
  · intro (h : ¬ (i < 0))
    refine Go.run (B := B_pck) td_pck 2 2 (pc' := 6) (L' := [.val (.int i), .val (.int n), .val (.ref r)]) (S' := [.int n, .int i]) rfl ?_
    refine Go.icmp (B := B_pck) td_pck 4 (pc' := 16) rfl (by decide) rfl ?_ ?_
    · intro (h2 : i < n)
      refine Go.run (B := B_pck) td_pck 10 1 (pc' := 17) (L' := [.val (.int i), .val (.int n), .val (.ref r)]) (S' := [.int i]) rfl ?_
      exact Go.retI (B := B_pck) td_pck 11 rfl rfl ⟨rfl, rfl, rfl⟩ (by decide) (by decide)
    · intro (h2 : ¬ (i < n))
      exact absurd (i32_lt.mpr hi.2) h2
def tb_sck : List In1 := [(0, .iload_n 0, 1), (1, .iload_n 1, 1), (2, .getstatic 1053, 3), (5, .invokestatic 1059, 3), (8, .pop, 1), (9, .return_, 1)]
set_option maxRecDepth 65536 in
theorem td_sck : Dec jdk_42_method_155_code tb_sck := by unfold Dec; decide +kernel
theorem pd_sck : parseMethodDescriptor "(II)V" = some ⟨[.int, .int], none⟩ := by decide +kernel
theorem pn_sck : plainFor (⟨"java/lang/String", "checkIndex", "(II)V"⟩ : MethodName) = true := by decide +kernel
abbrev B_sck : Bx := ((⟨"java/lang/String", "checkIndex", "(II)V"⟩ : MethodName), jdk_42_method_155_code, 2, (Option.none : Option Jvm.ClassFile.FieldType), ({ frames := 1, cells := 0, slots := 0, locals := 14 } : Room))
set_option maxRecDepth 65536 in
set_option maxHeartbeats 4000000 in
theorem sck_met {A : Ax} (K : Wd A) {i n : Int32} (hi : 0 ≤ i.toInt ∧ i.toInt < n.toInt) {F G : List Ent} : Met A B_sck #[.int i, .int n] F G (fun v F' G' => v = none ∧ F = F' ∧ G = G') := by
  refine MetW.of_go pn_sck K.ew (L := [.val (.int i), .val (.int n)]) (fun m => rfl) ?_
  intro D _
  obtain ⟨v, hv, hs⟩ := K.sio
  rcases ref_cases hv with rfl | ⟨r, rfl⟩
  · refine Go.run (B := B_sck) td_sck 0 2 (pc' := 2) (L' := [.val (.int i), .val (.int n)]) (S' := [.int n, .int i]) rfl ?_
    refine Go.getstatic (B := B_sck) td_sck 2 rfl (w_38 K) hs ?_
    refine Go.callS (B := B_sck) td_sck 3 (B' := B_pck) (argsL := [.int i, .int n, .null]) (rest := []) (W := 0) rfl (pckN_met K hi) (w_40 K) (w_41 K) (w_39 K) (w_42 K) (by decide) pd_pck rfl rfl rfl rfl (Nat.le_of_eq rfl) (by decide) (by decide) (by decide) (by decide) ?_
    rintro _ _ _ ⟨rfl, rfl, rfl⟩
    show Go A B_sck D _ 8 [.val (.int i), .val (.int n)] [.int i] F G 0 0
    refine Go.run (B := B_sck) td_sck 4 1 (pc' := 9) (L' := [.val (.int i), .val (.int n)]) (S' := []) rfl ?_
    exact Go.retV (B := B_sck) td_sck 5 rfl rfl ⟨rfl, rfl, rfl⟩ (by decide) (by decide)
  · refine Go.run (B := B_sck) td_sck 0 2 (pc' := 2) (L' := [.val (.int i), .val (.int n)]) (S' := [.int n, .int i]) rfl ?_
    refine Go.getstatic (B := B_sck) td_sck 2 rfl (w_38 K) hs ?_
    refine Go.callS (B := B_sck) td_sck 3 (B' := B_pck) (argsL := [.int i, .int n, .ref r]) (rest := []) (W := 0) rfl (pckR_met K hi) (w_40 K) (w_41 K) (w_39 K) (w_42 K) (by decide) pd_pck rfl rfl rfl rfl (Nat.le_of_eq rfl) (by decide) (by decide) (by decide) (by decide) ?_
    rintro _ _ _ ⟨rfl, rfl, rfl⟩
    show Go A B_sck D _ 8 [.val (.int i), .val (.int n)] [.int i] F G 0 0
    refine Go.run (B := B_sck) td_sck 4 1 (pc' := 9) (L' := [.val (.int i), .val (.int n)]) (S' := []) rfl ?_
    exact Go.retV (B := B_sck) td_sck 5 rfl rfl ⟨rfl, rfl, rfl⟩ (by decide) (by decide)
def tb_lca : List In1 := [(0, .iload_n 1, 1), (1, .aload_n 0, 1), (2, .arraylength, 1), (3, .invokestatic 9, 3), (6, .aload_n 0, 1), (7, .iload_n 1, 1), (8, .baload, 1), (9, .sipush 255, 3), (12, .iand, 1), (13, .i2c, 1), (14, .ireturn, 1)]
set_option maxRecDepth 65536 in
theorem td_lca : Dec jdk_43_method_2_code tb_lca := by unfold Dec; decide +kernel
theorem pd_lca : parseMethodDescriptor "([BI)C" = some ⟨[(.array .byte), .int], (some .char)⟩ := by decide +kernel
theorem pn_lca : plainFor (⟨"java/lang/StringLatin1", "charAt", "([BI)C"⟩ : MethodName) = true := by decide +kernel
abbrev B_lca : Bx := ((⟨"java/lang/StringLatin1", "charAt", "([BI)C"⟩ : MethodName), jdk_43_method_2_code, 2, (Option.some Jvm.ClassFile.FieldType.char), ({ frames := 2, cells := 0, slots := 0, locals := 27 } : Room))
set_option maxRecDepth 65536 in
set_option maxHeartbeats 4000000 in
theorem lca_met {A : Ax} (K : Wd A) {b : Addr} {j z x r : Int32} {vs : List Value} (hz : (vs.length : Int) = z.toInt) (hi : InB j vs.length) (hv : vs[j.toInt.toNat]? = some (.int x)) (hr : chr16 (x &&& 255) = r) (hr2 : chr16 r = r) {F G : List Ent} (m' : BytE A b vs ∈ F ∨ BytE A b vs ∈ G) : Met A B_lca #[.ref b, .int j] F G (fun v F' G' => v = some (.int r) ∧ F = F' ∧ G = G') := by
  refine MetW.of_go pn_lca K.ew (L := [.val (.ref b), .val (.int j)]) (fun m => rfl) ?_
  intro D _
  refine Go.run (B := B_lca) td_lca 0 2 (pc' := 2) (L' := [.val (.ref b), .val (.int j)]) (S' := [.ref b, .int j]) rfl ?_
  refine Go.arraylength (B := B_lca) td_lca 2 (z := z) rfl m' hz ?_
  refine Go.callS (B := B_lca) td_lca 3 (B' := B_sck) (argsL := [.int j, .int z]) (rest := []) (W := 0) rfl (sck_met K ⟨hi.1, by have := hi.2; omega⟩) (w_35 K) (w_36 K) (w_11 K) (w_37 K) (by decide) pd_sck rfl rfl rfl rfl (Nat.le_of_eq rfl) (by decide) (by decide) (by decide) (by decide) ?_
  rintro _ _ _ ⟨rfl, rfl, rfl⟩
  show Go A B_lca D _ 6 [.val (.ref b), .val (.int j)] [] F G 0 0
  refine Go.run (B := B_lca) td_lca 4 2 (pc' := 8) (L' := [.val (.ref b), .val (.int j)]) (S' := [.int j, .ref b]) rfl ?_
  refine Go.baload (B := B_lca) td_lca 6 (v := .int x) rfl m' hi hv ?_
  refine Go.run (B := B_lca) td_lca 7 3 (pc' := 14) (L' := [.val (.ref b), .val (.int j)]) (S' := [.int (chr16 (x &&& (255 : Int32)))]) rfl ?_
  rw [hr]
  exact Go.retC (B := B_lca) td_lca 10 rfl rfl hr2 ⟨rfl, rfl, rfl⟩ (by decide) (by decide)
def tb_cha : List In1 := [(0, .aload_n 0, 1), (1, .invokevirtual 492, 3), (4, .ifCond .eq 12, 3), (7, .aload_n 0, 1), (8, .getfield 9, 3), (11, .iload_n 1, 1), (12, .invokestatic 495, 3), (15, .ireturn, 1), (16, .aload_n 0, 1), (17, .getfield 9, 3), (20, .iload_n 1, 1), (21, .invokestatic 498, 3), (24, .ireturn, 1)]
set_option maxRecDepth 65536 in
theorem td_cha : Dec jdk_42_method_56_code tb_cha := by unfold Dec; decide +kernel
theorem pd_cha : parseMethodDescriptor "(I)C" = some ⟨[.int], (some .char)⟩ := by decide +kernel
theorem pn_cha : plainFor (⟨"java/lang/String", "charAt", "(I)C"⟩ : MethodName) = true := by decide +kernel
abbrev B_cha : Bx := ((⟨"java/lang/String", "charAt", "(I)C"⟩ : MethodName), jdk_42_method_56_code, 2, (Option.some Jvm.ClassFile.FieldType.char), ({ frames := 3, cells := 0, slots := 0, locals := 40 } : Room))
set_option maxRecDepth 65536 in
set_option maxHeartbeats 4000000 in
theorem cha_met {A : Ax} (K : Wd A) {a b : Addr} {j z x r : Int32} {vs : List Value} (hz : (vs.length : Int) = z.toInt) (hi : InB j vs.length) (hv : vs[j.toInt.toNat]? = some (.int x)) (hr : chr16 (x &&& 255) = r) (hr2 : chr16 r = r) {F G : List Ent} (m : StrE A a b 0 ∈ F ∨ StrE A a b 0 ∈ G) (m' : BytE A b vs ∈ F ∨ BytE A b vs ∈ G) : Met A B_cha #[.ref a, .int j] F G (fun v F' G' => v = some (.int r) ∧ F = F' ∧ G = G') := by
  refine MetW.of_go pn_cha K.ew (L := [.val (.ref a), .val (.int j)]) (fun m => rfl) ?_
  intro D _
  refine Go.run (B := B_cha) td_cha 0 1 (pc' := 1) (L' := [.val (.ref a), .val (.int j)]) (S' := [.ref a]) rfl ?_
  refine Go.callV (B := B_cha) td_cha 1 (B' := B_isl) (C := "java/lang/String") (a := a) (argsL := []) (rest := []) (W := 0) rfl (isl_met K m) m (fun c P => P.1) (w_23 K) (w_24 K) (w_25 K) (w_26 K) (w_26 K) (w_11 K) (w_27 K) (by decide) pd_isl rfl rfl rfl rfl (Nat.le_of_eq rfl) (by decide) (by decide) (by decide) (by decide) ?_
  rintro _ _ _ ⟨rfl, rfl, rfl⟩
  show Go A B_cha D _ 4 [.val (.ref a), .val (.int j)] [.int (1 : Int32)] F G 0 0
  refine Go.if0 (B := B_cha) td_cha 2 (pc' := 16) rfl (by decide) rfl ?_ ?_
  · intro (h : (1 : Int32) = 0)
    exact absurd h (by decide)
  · intro (h : ¬ ((1 : Int32) = 0))
    refine Go.run (B := B_cha) td_cha 3 1 (pc' := 8) (L' := [.val (.ref a), .val (.int j)]) (S' := [.ref a]) rfl ?_
    refine Go.getfield (B := B_cha) td_cha 4 rfl (w_30 K) m (List.mem_of_getElem? (i := 0) rfl) ?_
    refine Go.run (B := B_cha) td_cha 5 1 (pc' := 12) (L' := [.val (.ref a), .val (.int j)]) (S' := [.int j, .ref b]) rfl ?_
    refine Go.callS (B := B_cha) td_cha 6 (B' := B_lca) (argsL := [.ref b, .int j]) (rest := []) (W := 0) rfl (lca_met K hz hi hv hr hr2 m') (w_31 K) (w_32 K) (w_33 K) (w_34 K) (by decide) pd_lca rfl rfl rfl rfl (Nat.le_of_eq rfl) (by decide) (by decide) (by decide) (by decide) ?_
    rintro _ _ _ ⟨rfl, rfl, rfl⟩
    show Go A B_cha D _ 15 [.val (.ref a), .val (.int j)] [.int r] F G 0 0
    exact Go.retC (B := B_cha) td_cha 7 rfl rfl hr2 ⟨rfl, rfl, rfl⟩ (by decide) (by decide)
def tb_cmp : List In1 := [(0, .iconst 0, 1), (1, .istore 5, 2), (3, .iload 5, 2), (5, .iload 4, 2), (7, .if_icmp .ge 37, 3), (10, .aload_n 0, 1), (11, .iload_n 1, 1), (12, .caload, 1), (13, .istore 6, 2), (15, .iload 6, 2), (17, .sipush 255, 3), (20, .if_icmp .le 6, 3), (23, .iload 5, 2), (25, .ireturn, 1), (26, .aload_n 2, 1), (27, .iload_n 3, 1), (28, .iload 6, 2), (30, .i2b, 1), (31, .bastore, 1), (32, .iinc 1 1, 3), (35, .iinc 3 1, 3), (38, .iinc 5 1, 3), (41, .goto (-38), 3), (44, .iload 4, 2), (46, .ireturn, 1)]
set_option maxRecDepth 65536 in
theorem td_cmp : Dec jdk_52_method_21_code tb_cmp := by unfold Dec; decide +kernel
theorem pd_cmp : parseMethodDescriptor "([CI[BII)I" = some ⟨[(.array .char), .int, (.array .byte), .int, .int], (some .int)⟩ := by decide +kernel
theorem pn_cmp : plainFor (⟨"java/lang/StringUTF16", "compress", "([CI[BII)I"⟩ : MethodName) = true := by decide +kernel
abbrev B_cmp : Bx := ((⟨"java/lang/StringUTF16", "compress", "([CI[BII)I"⟩ : MethodName), jdk_52_method_21_code, 7, (Option.some Jvm.ClassFile.FieldType.int), ({ frames := 0, cells := 0, slots := 0, locals := 0 } : Room))
set_option maxRecDepth 65536 in
set_option maxHeartbeats 4000000 in
theorem cmp_met {A : Ax} (K : Wd A) {a b : Addr} {cs : List Int32} (hlat : Lat cs) (hlen : cs.length < 2 ^ 31) {F G : List Ent} (m : (a, ArrP A .char (chV cs)) ∈ F ∨ (a, ArrP A .char (chV cs)) ∈ G) : Met A B_cmp #[.ref a, .int 0, .ref b, .int 0, .int (nI cs.length)] ((b, ArrP A .byte (List.replicate cs.length (.int 0))) :: F) G (fun v F' G' => v = some (.int (nI cs.length)) ∧ (b, ArrP A .byte (latB cs)) :: F = F' ∧ G = G') := by
  refine MetW.of_go pn_cmp K.ew (L := [.val (.ref a), .val (.int 0), .val (.ref b), .val (.int 0), .val (.int (nI cs.length)), .unset, .unset]) (fun m => rfl) ?_
  intro D _
  have loop : ∀ (suf pre : List Int32) (o : Slot), cs = pre ++ suf → (o = .unset ∨ ∃ x, o = .val (.int x)) → Go A B_cmp D (fun v F' G' => v = some (.int (nI cs.length)) ∧ (b, ArrP A .byte (latB cs)) :: F = F' ∧ G = G') 3 [.val (.ref a), .val (.int (nI pre.length)), .val (.ref b), .val (.int (nI pre.length)), .val (.int (nI cs.length)), .val (.int (nI pre.length)), o] [] ((b, ArrP A .byte (latB pre ++ zrs suf)) :: F) G 0 0 := by
    intro suf
    induction suf with
    | nil =>
      intro pre o hc ho
      have e : cs = pre := by simpa using hc
      rcases ho with rfl | ⟨x6, rfl⟩
      · refine Go.run (B := B_cmp) td_cmp 2 2 (pc' := 7) (L' := [.val (.ref a), .val (.int (nI pre.length)), .val (.ref b), .val (.int (nI pre.length)), .val (.int (nI cs.length)), .val (.int (nI pre.length)), .unset]) (S' := [.int (nI cs.length), .int (nI pre.length)]) rfl ?_
        refine Go.icmp (B := B_cmp) td_cmp 4 (pc' := 44) rfl (by decide) rfl ?_ ?_
        · intro (h : (nI pre.length) ≥ (nI cs.length))
          refine Go.run (B := B_cmp) td_cmp 23 1 (pc' := 46) (L' := [.val (.ref a), .val (.int (nI pre.length)), .val (.ref b), .val (.int (nI pre.length)), .val (.int (nI cs.length)), .val (.int (nI pre.length)), .unset]) (S' := [.int (nI cs.length)]) rfl ?_
          exact Go.retI (B := B_cmp) td_cmp 24 rfl rfl ⟨rfl, by rw [e]; simp [zrs], rfl⟩ (by decide) (by decide)
        · intro (h : ¬ ((nI pre.length) ≥ (nI cs.length)))
          exact absurd (by rw [e]; exact Int32.le_refl _) h
      · refine Go.run (B := B_cmp) td_cmp 2 2 (pc' := 7) (L' := [.val (.ref a), .val (.int (nI pre.length)), .val (.ref b), .val (.int (nI pre.length)), .val (.int (nI cs.length)), .val (.int (nI pre.length)), .val (.int x6)]) (S' := [.int (nI cs.length), .int (nI pre.length)]) rfl ?_
        refine Go.icmp (B := B_cmp) td_cmp 4 (pc' := 44) rfl (by decide) rfl ?_ ?_
        · intro (h : (nI pre.length) ≥ (nI cs.length))
          refine Go.run (B := B_cmp) td_cmp 23 1 (pc' := 46) (L' := [.val (.ref a), .val (.int (nI pre.length)), .val (.ref b), .val (.int (nI pre.length)), .val (.int (nI cs.length)), .val (.int (nI pre.length)), .val (.int x6)]) (S' := [.int (nI cs.length)]) rfl ?_
          exact Go.retI (B := B_cmp) td_cmp 24 rfl rfl ⟨rfl, by rw [e]; simp [zrs], rfl⟩ (by decide) (by decide)
        · intro (h : ¬ ((nI pre.length) ≥ (nI cs.length)))
          exact absurd (by rw [e]; exact Int32.le_refl _) h
    | cons c suf ih =>
      intro pre o hc ho
      have hc1 := hlat c (by rw [hc]; simp)
      have hl1 : (pre ++ c :: suf).length < 2 ^ 31 := by rw [← hc]; exact hlen
      have ml : pre.length < cs.length := by rw [hc]; simp
      have m2 : (a, ArrP A .char (chV (pre ++ c :: suf))) ∈ F ∨ (a, ArrP A .char (chV (pre ++ c :: suf))) ∈ G := by rw [← hc]; exact m
      have hih := ih (pre ++ [c]) (.val (.int c)) (by simp [hc]) (Or.inr ⟨c, rfl⟩)
      rw [own_len_snoc] at hih
      rcases ho with rfl | ⟨x6, rfl⟩
      · refine Go.run (B := B_cmp) td_cmp 2 2 (pc' := 7) (L' := [.val (.ref a), .val (.int (nI pre.length)), .val (.ref b), .val (.int (nI pre.length)), .val (.int (nI cs.length)), .val (.int (nI pre.length)), .unset]) (S' := [.int (nI cs.length), .int (nI pre.length)]) rfl ?_
        refine Go.icmp (B := B_cmp) td_cmp 4 (pc' := 44) rfl (by decide) rfl ?_ ?_
        · intro (h : (nI pre.length) ≥ (nI cs.length))
          exact absurd ((nI_lt (by omega) hlen).mpr ml) (Int32.not_lt.mpr h)
        · intro (h : ¬ ((nI pre.length) ≥ (nI cs.length)))
          refine Go.run (B := B_cmp) td_cmp 5 2 (pc' := 12) (L' := [.val (.ref a), .val (.int (nI pre.length)), .val (.ref b), .val (.int (nI pre.length)), .val (.int (nI cs.length)), .val (.int (nI pre.length)), .unset]) (S' := [.int (nI pre.length), .ref a]) rfl ?_
          refine Go.caload (B := B_cmp) td_cmp 7 (v := .int c) rfl (m2.imp (List.mem_cons_of_mem _) id) (own_chr_in _ _ _ hl1) (own_chr_get _ _ _ hl1) ?_
          refine Go.run (B := B_cmp) td_cmp 8 3 (pc' := 20) (L' := [.val (.ref a), .val (.int (nI pre.length)), .val (.ref b), .val (.int (nI pre.length)), .val (.int (nI cs.length)), .val (.int (nI pre.length)), .val (.int c)]) (S' := [.int (255 : Int32), .int c]) rfl ?_
          refine Go.icmp (B := B_cmp) td_cmp 11 (pc' := 26) rfl (by decide) rfl ?_ ?_
          · intro (h2 : c ≤ (255 : Int32))
            refine Go.run (B := B_cmp) td_cmp 14 4 (pc' := 31) (L' := [.val (.ref a), .val (.int (nI pre.length)), .val (.ref b), .val (.int (nI pre.length)), .val (.int (nI cs.length)), .val (.int (nI pre.length)), .val (.int c)]) (S' := [.int (byt8 c), .int (nI pre.length), .ref b]) rfl ?_
            refine Go.bastore (B := B_cmp) td_cmp 18 (vs' := (latB (pre ++ [c]) ++ zrs suf)) rfl (own_lat_in _ _ _ hl1) (own_lat_set _ _ _ hl1) ?_
            refine Go.run (B := B_cmp) td_cmp 19 4 (pc' := 3) (L' := [.val (.ref a), .val (.int ((nI pre.length) + (1 : Int32))), .val (.ref b), .val (.int ((nI pre.length) + (1 : Int32))), .val (.int (nI cs.length)), .val (.int ((nI pre.length) + (1 : Int32))), .val (.int c)]) (S' := []) rfl ?_
            exact hih
          · intro (h2 : ¬ (c ≤ (255 : Int32)))
            exact absurd (i32_le.mpr (Int.le_of_lt_add_one hc1.2)) h2
      · refine Go.run (B := B_cmp) td_cmp 2 2 (pc' := 7) (L' := [.val (.ref a), .val (.int (nI pre.length)), .val (.ref b), .val (.int (nI pre.length)), .val (.int (nI cs.length)), .val (.int (nI pre.length)), .val (.int x6)]) (S' := [.int (nI cs.length), .int (nI pre.length)]) rfl ?_
        refine Go.icmp (B := B_cmp) td_cmp 4 (pc' := 44) rfl (by decide) rfl ?_ ?_
        · intro (h : (nI pre.length) ≥ (nI cs.length))
          exact absurd ((nI_lt (by omega) hlen).mpr ml) (Int32.not_lt.mpr h)
        · intro (h : ¬ ((nI pre.length) ≥ (nI cs.length)))
          refine Go.run (B := B_cmp) td_cmp 5 2 (pc' := 12) (L' := [.val (.ref a), .val (.int (nI pre.length)), .val (.ref b), .val (.int (nI pre.length)), .val (.int (nI cs.length)), .val (.int (nI pre.length)), .val (.int x6)]) (S' := [.int (nI pre.length), .ref a]) rfl ?_
          refine Go.caload (B := B_cmp) td_cmp 7 (v := .int c) rfl (m2.imp (List.mem_cons_of_mem _) id) (own_chr_in _ _ _ hl1) (own_chr_get _ _ _ hl1) ?_
          refine Go.run (B := B_cmp) td_cmp 8 3 (pc' := 20) (L' := [.val (.ref a), .val (.int (nI pre.length)), .val (.ref b), .val (.int (nI pre.length)), .val (.int (nI cs.length)), .val (.int (nI pre.length)), .val (.int c)]) (S' := [.int (255 : Int32), .int c]) rfl ?_
          refine Go.icmp (B := B_cmp) td_cmp 11 (pc' := 26) rfl (by decide) rfl ?_ ?_
          · intro (h2 : c ≤ (255 : Int32))
            refine Go.run (B := B_cmp) td_cmp 14 4 (pc' := 31) (L' := [.val (.ref a), .val (.int (nI pre.length)), .val (.ref b), .val (.int (nI pre.length)), .val (.int (nI cs.length)), .val (.int (nI pre.length)), .val (.int c)]) (S' := [.int (byt8 c), .int (nI pre.length), .ref b]) rfl ?_
            refine Go.bastore (B := B_cmp) td_cmp 18 (vs' := (latB (pre ++ [c]) ++ zrs suf)) rfl (own_lat_in _ _ _ hl1) (own_lat_set _ _ _ hl1) ?_
            refine Go.run (B := B_cmp) td_cmp 19 4 (pc' := 3) (L' := [.val (.ref a), .val (.int ((nI pre.length) + (1 : Int32))), .val (.ref b), .val (.int ((nI pre.length) + (1 : Int32))), .val (.int (nI cs.length)), .val (.int ((nI pre.length) + (1 : Int32))), .val (.int c)]) (S' := []) rfl ?_
            exact hih
          · intro (h2 : ¬ (c ≤ (255 : Int32)))
            exact absurd (i32_le.mpr (Int.le_of_lt_add_one hc1.2)) h2
  refine Go.run (B := B_cmp) td_cmp 0 2 (pc' := 3) (L' := [.val (.ref a), .val (.int 0), .val (.ref b), .val (.int 0), .val (.int (nI cs.length)), .val (.int (0 : Int32)), .unset]) (S' := []) rfl ?_
  rw [zrs_rep]
  exact loop cs [] .unset rfl (Or.inl rfl)
def tb_cmb : List In1 := [(0, .iload_n 2, 1), (1, .newarray .byte, 2), (3, .astore_n 3, 1), (4, .aload_n 0, 1), (5, .iload_n 1, 1), (6, .aload_n 3, 1), (7, .iconst 0, 1), (8, .iload_n 2, 1), (9, .invokestatic 115, 3), (12, .istore 4, 2), (14, .iload 4, 2), (16, .iload_n 2, 1), (17, .if_icmp .eq 40, 3), (20, .aload_n 0, 1), (21, .iload_n 1, 1), (22, .iload_n 2, 1), (23, .invokestatic 119, 3), (26, .astore 5, 2), (28, .aload 5, 2), (30, .iload 4, 2), (32, .invokestatic 71, 3), (35, .sipush 255, 3), (38, .if_icmp .gt 16, 3), (41, .aload 5, 2), (43, .iconst 0, 1), (44, .aload_n 3, 1), (45, .iconst 0, 1), (46, .iload_n 2, 1), (47, .invokestatic 123, 3), (50, .iload_n 2, 1), (51, .if_icmp .eq 6, 3), (54, .aload 5, 2), (56, .areturn, 1), (57, .aload_n 3, 1), (58, .areturn, 1)]
set_option maxRecDepth 65536 in
theorem td_cmb : Dec jdk_52_method_16_code tb_cmb := by unfold Dec; decide +kernel
theorem pd_cmb : parseMethodDescriptor "([CII)[B" = some ⟨[(.array .char), .int, .int], (some (.array .byte))⟩ := by decide +kernel
theorem pn_cmb : plainFor (⟨"java/lang/StringUTF16", "compress", "([CII)[B"⟩ : MethodName) = true := by decide +kernel
abbrev B_cmb : Bx := ((⟨"java/lang/StringUTF16", "compress", "([CII)[B"⟩ : MethodName), jdk_52_method_16_code, 6, (Option.some (Jvm.ClassFile.FieldType.array Jvm.ClassFile.FieldType.byte)), ({ frames := 1, cells := 1, slots := 4, locals := 18 } : Room))
set_option maxRecDepth 65536 in
set_option maxHeartbeats 4000000 in
theorem cmb_met {A : Ax} (K : Wd A) {a : Addr} {cs : List Int32} (hlat : Lat cs) (hcap : cs.length ≤ 4) {F G : List Ent} (m : (a, ArrP A .char (chV cs)) ∈ F ∨ (a, ArrP A .char (chV cs)) ∈ G) : Met A B_cmb #[.ref a, .int 0, .int (nI cs.length)] F G (fun v F' G' => ∃ b, v = some (.ref b) ∧ (b, ArrP A .byte (latB cs)) :: F = F' ∧ G = G') := by
  refine MetW.of_go pn_cmb K.ew (L := [.val (.ref a), .val (.int 0), .val (.int (nI cs.length)), .unset, .unset, .unset]) (fun m => rfl) ?_
  intro D _
  refine Go.run (B := B_cmb) td_cmb 0 1 (pc' := 1) (L' := [.val (.ref a), .val (.int 0), .val (.int (nI cs.length)), .unset, .unset, .unset]) (S' := [.int (nI cs.length)]) rfl ?_
  refine Go.newarray (B := B_cmb) td_cmb 1 (ty := .byte) (cap := 4) (vs := (List.replicate cs.length (.int 0))) rfl rfl (w_13 K) (by rw [nI_toInt (by omega)]; omega) (by rw [nI_nat (by omega)]; exact hcap) (by decide) (by decide) (by decide) (by rw [nI_nat (by omega)]; rfl) ?_
  intro b
  show Go A B_cmb D _ 3 [.val (.ref a), .val (.int 0), .val (.int (nI cs.length)), .unset, .unset, .unset] [.ref b] ((b, ArrP A .byte (List.replicate cs.length (.int 0))) :: F) G 1 4
  refine Go.run (B := B_cmb) td_cmb 2 6 (pc' := 9) (L' := [.val (.ref a), .val (.int 0), .val (.int (nI cs.length)), .val (.ref b), .unset, .unset]) (S' := [.int (nI cs.length), .int (0 : Int32), .ref b, .int 0, .ref a]) rfl ?_
  refine Go.callS (B := B_cmb) td_cmb 8 (B' := B_cmp) (argsL := [.ref a, .int 0, .ref b, .int (0 : Int32), .int (nI cs.length)]) (rest := []) (W := 0) rfl (cmp_met K hlat (by omega) m) (w_62 K) (w_63 K) (w_60 K) (w_64 K) (by decide) pd_cmp rfl rfl rfl rfl (Nat.le_of_eq rfl) (by decide) (by decide) (by decide) (by decide) ?_
  rintro _ _ _ ⟨rfl, rfl, rfl⟩
  show Go A B_cmb D _ 12 [.val (.ref a), .val (.int 0), .val (.int (nI cs.length)), .val (.ref b), .unset, .unset] [.int (nI cs.length)] ((b, ArrP A .byte (latB cs)) :: F) G 1 4
  refine Go.run (B := B_cmb) td_cmb 9 3 (pc' := 17) (L' := [.val (.ref a), .val (.int 0), .val (.int (nI cs.length)), .val (.ref b), .val (.int (nI cs.length)), .unset]) (S' := [.int (nI cs.length), .int (nI cs.length)]) rfl ?_
  refine Go.icmp (B := B_cmb) td_cmb 12 (pc' := 57) rfl (by decide) rfl ?_ ?_
  · intro (h : (nI cs.length) = (nI cs.length))
    refine Go.run (B := B_cmb) td_cmb 33 1 (pc' := 58) (L' := [.val (.ref a), .val (.int 0), .val (.int (nI cs.length)), .val (.ref b), .val (.int (nI cs.length)), .unset]) (S' := [.ref b]) rfl ?_
    exact Go.retA (B := B_cmb) td_cmb 34 rfl rfl rfl rfl ⟨b, rfl, rfl, rfl⟩ (by decide) (by decide)
  · intro (h : ¬ ((nI cs.length) = (nI cs.length)))
    exact absurd rfl h
def tb_cfa : List In1 := [(0, .iload_n 1, 1), (1, .aload_n 0, 1), (2, .arraylength, 1), (3, .isub, 1), (4, .bipush 31, 2), (6, .iushr, 1), (7, .i2b, 1), (8, .ireturn, 1)]
set_option maxRecDepth 65536 in
theorem td_cfa : Dec jdk_52_method_15_code tb_cfa := by unfold Dec; decide +kernel
theorem pd_cfa : parseMethodDescriptor "([BI)B" = some ⟨[(.array .byte), .int], (some .byte)⟩ := by decide +kernel
theorem pn_cfa : plainFor (⟨"java/lang/StringUTF16", "coderFromArrayLen", "([BI)B"⟩ : MethodName) = true := by decide +kernel
abbrev B_cfa : Bx := ((⟨"java/lang/StringUTF16", "coderFromArrayLen", "([BI)B"⟩ : MethodName), jdk_52_method_15_code, 2, (Option.some Jvm.ClassFile.FieldType.byte), ({ frames := 0, cells := 0, slots := 0, locals := 0 } : Room))
set_option maxRecDepth 65536 in
set_option maxHeartbeats 4000000 in
theorem cfa_met {A : Ax} (K : Wd A) {b : Addr} {n z r : Int32} {vs : List Value} (hz : (vs.length : Int) = z.toInt) (hr : byt8 (Jvm.Free.XT.ushr (n - z) 31) = r) (hr2 : byt8 r = r) {F G : List Ent} (m' : BytE A b vs ∈ F ∨ BytE A b vs ∈ G) : Met A B_cfa #[.ref b, .int n] F G (fun v F' G' => v = some (.int r) ∧ F = F' ∧ G = G') := by
  refine MetW.of_go pn_cfa K.ew (L := [.val (.ref b), .val (.int n)]) (fun m => rfl) ?_
  intro D _
  refine Go.run (B := B_cfa) td_cfa 0 2 (pc' := 2) (L' := [.val (.ref b), .val (.int n)]) (S' := [.ref b, .int n]) rfl ?_
  refine Go.arraylength (B := B_cfa) td_cfa 2 (z := z) rfl m' hz ?_
  refine Go.run (B := B_cfa) td_cfa 3 4 (pc' := 8) (L' := [.val (.ref b), .val (.int n)]) (S' := [.int (byt8 (Jvm.Free.XT.ushr (n - z) (31 : Int32)))]) rfl ?_
  rw [hr]
  exact Go.retB (B := B_cfa) td_cfa 7 rfl rfl hr2 ⟨rfl, rfl, rfl⟩ (by decide) (by decide)
def tb_sin4 : List In1 := [(0, .aload_n 0, 1), (1, .invokespecial 1, 3), (4, .iload_n 3, 1), (5, .ifCond .ne 22, 3), (8, .aload_n 0, 1), (9, .ldc 7, 2), (11, .getfield 9, 3), (14, .putfield 9, 3), (17, .aload_n 0, 1), (18, .ldc 7, 2), (20, .getfield 15, 3), (23, .putfield 15, 3), (26, .return_, 1), (27, .getstatic 38, 3), (30, .ifCond .eq 28, 3), (33, .aload_n 1, 1), (34, .iload_n 2, 1), (35, .iload_n 3, 1), (36, .invokestatic 177, 3), (39, .astore 5, 2), (41, .aload_n 0, 1), (42, .aload 5, 2), (44, .iload_n 3, 1), (45, .invokestatic 47, 3), (48, .putfield 15, 3), (51, .aload_n 0, 1), (52, .aload 5, 2), (54, .putfield 9, 3), (57, .return_, 1), (58, .aload_n 0, 1), (59, .iconst 1, 1), (60, .putfield 15, 3), (63, .aload_n 0, 1), (64, .aload_n 1, 1), (65, .iload_n 2, 1), (66, .iload_n 3, 1), (67, .invokestatic 180, 3), (70, .putfield 9, 3), (73, .return_, 1)]
set_option maxRecDepth 65536 in
theorem td_sin4 : Dec jdk_42_method_149_code tb_sin4 := by unfold Dec; decide +kernel
theorem pd_sin4 : parseMethodDescriptor "([CIILjava/lang/Void;)V" = some ⟨[(.array .char), .int, .int, (.object "java/lang/Void")], none⟩ := by decide +kernel
theorem pn_sin4 : plainFor (⟨"java/lang/String", "<init>", "([CIILjava/lang/Void;)V"⟩ : MethodName) = true := by decide +kernel
abbrev B_sin4 : Bx := ((⟨"java/lang/String", "<init>", "([CIILjava/lang/Void;)V"⟩ : MethodName), jdk_42_method_149_code, 6, (Option.none : Option Jvm.ClassFile.FieldType), ({ frames := 2, cells := 1, slots := 4, locals := 35 } : Room))
set_option maxRecDepth 65536 in
set_option maxHeartbeats 4000000 in
theorem sin4_met {A : Ax} (K : Wd A) {s a : Addr} {cs : List Int32} (hlat : Lat cs) (hcap : cs.length ≤ 4) (hne : ¬ nI cs.length = 0) {F G : List Ent} (m : (a, ArrP A .char (chV cs)) ∈ F ∨ (a, ArrP A .char (chV cs)) ∈ G) : Met A B_sin4 #[.ref s, .ref a, .int 0, .int (nI cs.length), .null] ((s, ObjP A "java/lang/String" [("java/lang/String", "value", "[B", .null), ("java/lang/String", "coder", "B", .int (0 : Int32))]) :: F) G (fun v F' G' => v = none ∧ F = F' ∧ ∃ b, StrE A s b 0 :: BytE A b (latB cs) :: G = G') := by
  refine MetW.of_go pn_sin4 K.ew (L := [.val (.ref s), .val (.ref a), .val (.int 0), .val (.int (nI cs.length)), .val (.null), .unset]) (fun m => rfl) ?_
  intro D _
  refine Go.run (B := B_sin4) td_sin4 0 1 (pc' := 1) (L' := [.val (.ref s), .val (.ref a), .val (.int 0), .val (.int (nI cs.length)), .val (.null), .unset]) (S' := [.ref s]) rfl ?_
  refine Go.initObject (B := B_sin4) td_sin4 1 (W := 0) rfl (w_55 K) (w_56 K) (w_57 K) rfl (by decide) (Nat.le_of_eq rfl) (by decide) ?_
  refine Go.run (B := B_sin4) td_sin4 2 1 (pc' := 5) (L' := [.val (.ref s), .val (.ref a), .val (.int 0), .val (.int (nI cs.length)), .val (.null), .unset]) (S' := [.int (nI cs.length)]) rfl ?_
  refine Go.if0 (B := B_sin4) td_sin4 3 (pc' := 27) rfl (by decide) rfl ?_ ?_
  · intro (h0 : (nI cs.length) ≠ 0)
    obtain ⟨z, nz, hz⟩ := K.cmpt
    refine Go.getstatic (B := B_sin4) td_sin4 13 rfl (w_28 K) hz ?_
    refine Go.if0 (B := B_sin4) td_sin4 14 (pc' := 58) rfl (by decide) rfl ?_ ?_
    · intro (h : z = 0)
      exact absurd h nz
    · intro (h : ¬ (z = 0))
      refine Go.run (B := B_sin4) td_sin4 15 3 (pc' := 36) (L' := [.val (.ref s), .val (.ref a), .val (.int 0), .val (.int (nI cs.length)), .val (.null), .unset]) (S' := [.int (nI cs.length), .int 0, .ref a]) rfl ?_
      refine Go.callS (B := B_sin4) td_sin4 18 (B' := B_cmb) (argsL := [.ref a, .int 0, .int (nI cs.length)]) (rest := []) (W := 0) rfl (cmb_met K hlat hcap (m.imp (List.mem_cons_of_mem _) id)) (w_58 K) (w_59 K) (w_60 K) (w_61 K) (by decide) pd_cmb rfl rfl rfl rfl (Nat.le_of_eq rfl) (by decide) (by decide) (by decide) (by decide) ?_
      rintro _ _ _ ⟨b, rfl, rfl, rfl⟩
      show Go A B_sin4 D _ 39 [.val (.ref s), .val (.ref a), .val (.int 0), .val (.int (nI cs.length)), .val (.null), .unset] [.ref b] ((b, ArrP A .byte (latB cs)) :: (s, ObjP A "java/lang/String" [("java/lang/String", "value", "[B", .null), ("java/lang/String", "coder", "B", .int (0 : Int32))]) :: F) G 1 4
      refine Go.run (B := B_sin4) td_sin4 19 4 (pc' := 45) (L' := [.val (.ref s), .val (.ref a), .val (.int 0), .val (.int (nI cs.length)), .val (.null), .val (.ref b)]) (S' := [.int (nI cs.length), .ref b, .ref s]) rfl ?_
      refine Go.callS (B := B_sin4) td_sin4 23 (B' := B_cfa) (argsL := [.ref b, .int (nI cs.length)]) (rest := [.ref s]) (W := 1) rfl (cfa_met K (z := nI cs.length) (r := 0) (by rw [latB_len, nI_toInt (by omega)]) (by rw [Int32.sub_self]; decide) rfl (Or.inl (List.mem_of_getElem? (i := 0) rfl))) (w_65 K) (w_66 K) (w_60 K) (w_67 K) (by decide) pd_cfa rfl rfl rfl rfl (Nat.le_of_eq rfl) (by decide) (by decide) (by decide) (by decide) ?_
      rintro _ _ _ ⟨rfl, rfl, rfl⟩
      show Go A B_sin4 D _ 48 [.val (.ref s), .val (.ref a), .val (.int 0), .val (.int (nI cs.length)), .val (.null), .val (.ref b)] [.int (0 : Int32), .ref s] ((b, ArrP A .byte (latB cs)) :: (s, ObjP A "java/lang/String" [("java/lang/String", "value", "[B", .null), ("java/lang/String", "coder", "B", .int (0 : Int32))]) :: F) G 1 4
      refine Go.front 1 (F' := ((s, ObjP A "java/lang/String" [("java/lang/String", "value", "[B", .null), ("java/lang/String", "coder", "B", .int (0 : Int32))]) :: (b, ArrP A .byte (latB cs)) :: F)) rfl rfl ?_
      refine Go.putfield (B := B_sin4) td_sin4 24 (fs' := [("java/lang/String", "value", "[B", .null), ("java/lang/String", "coder", "B", .int (0 : Int32))]) rfl (w_29 K) (Or.inr ⟨(w_15 K), rfl, rfl⟩) (w_12 K) rfl rfl rfl (List.mem_of_getElem? (i := 1) rfl) (own_fs 1 (ns := ["value"]) rfl (by decide) rfl) ?_
      refine Go.run (B := B_sin4) td_sin4 25 2 (pc' := 54) (L' := [.val (.ref s), .val (.ref a), .val (.int 0), .val (.int (nI cs.length)), .val (.null), .val (.ref b)]) (S' := [.ref b, .ref s]) rfl ?_
      refine Go.putfield (B := B_sin4) td_sin4 27 (fs' := [("java/lang/String", "value", "[B", .ref b), ("java/lang/String", "coder", "B", .int (0 : Int32))]) rfl (w_30 K) (Or.inr ⟨(w_14 K), rfl, rfl⟩) (w_12 K) rfl rfl rfl (List.mem_of_getElem? (i := 0) rfl) (own_fs 0 (ns := ["coder"]) rfl (by decide) rfl) ?_
      refine Go.front 1 (F' := ((b, ArrP A .byte (latB cs)) :: (s, ObjP A "java/lang/String" [("java/lang/String", "value", "[B", .ref b), ("java/lang/String", "coder", "B", .int (0 : Int32))]) :: F)) rfl rfl ?_
      refine Go.freeze ?_
      refine Go.freeze ?_
      exact Go.retV (B := B_sin4) td_sin4 28 rfl rfl ⟨rfl, rfl, b, rfl⟩ (by decide) (by decide)
  · intro (h0 : ¬ ((nI cs.length) ≠ 0))
    exact absurd (by simpa using h0) hne
def tb_sin : List In1 := [(0, .aload_n 0, 1), (1, .aload_n 1, 1), (2, .iconst 0, 1), (3, .aload_n 1, 1), (4, .arraylength, 1), (5, .aconst_null, 1), (6, .invokespecial 27, 3), (9, .return_, 1)]
set_option maxRecDepth 65536 in
theorem td_sin : Dec jdk_42_method_3_code tb_sin := by unfold Dec; decide +kernel
theorem pd_sin : parseMethodDescriptor "([C)V" = some ⟨[(.array .char)], none⟩ := by decide +kernel
theorem pn_sin : plainFor (⟨"java/lang/String", "<init>", "([C)V"⟩ : MethodName) = true := by decide +kernel
abbrev B_sin : Bx := ((⟨"java/lang/String", "<init>", "([C)V"⟩ : MethodName), jdk_42_method_3_code, 2, (Option.none : Option Jvm.ClassFile.FieldType), ({ frames := 3, cells := 1, slots := 4, locals := 52 } : Room))
set_option maxRecDepth 65536 in
set_option maxHeartbeats 4000000 in
theorem sin_met {A : Ax} (K : Wd A) {s a : Addr} {cs : List Int32} (hlat : Lat cs) (hcap : cs.length ≤ 4) (hne : ¬ nI cs.length = 0) {F G : List Ent} (m : (a, ArrP A .char (chV cs)) ∈ F ∨ (a, ArrP A .char (chV cs)) ∈ G) : Met A B_sin #[.ref s, .ref a] ((s, ObjP A "java/lang/String" [("java/lang/String", "value", "[B", .null), ("java/lang/String", "coder", "B", .int (0 : Int32))]) :: F) G (fun v F' G' => v = none ∧ F = F' ∧ ∃ b, StrE A s b 0 :: BytE A b (latB cs) :: G = G') := by
  refine MetW.of_go pn_sin K.ew (L := [.val (.ref s), .val (.ref a)]) (fun m => rfl) ?_
  intro D _
  refine Go.run (B := B_sin) td_sin 0 4 (pc' := 4) (L' := [.val (.ref s), .val (.ref a)]) (S' := [.ref a, .int (0 : Int32), .ref a, .ref s]) rfl ?_
  refine Go.arraylength (B := B_sin) td_sin 4 (z := (nI cs.length)) rfl (m.imp (List.mem_cons_of_mem _) id) (by rw [List.length_map, nI_toInt (by omega)]) ?_
  refine Go.run (B := B_sin) td_sin 5 1 (pc' := 6) (L' := [.val (.ref s), .val (.ref a)]) (S' := [.null, .int (nI cs.length), .int (0 : Int32), .ref a, .ref s]) rfl ?_
  refine Go.callN (B := B_sin) td_sin 6 (B' := B_sin4) (a := s) (argsL := [.ref a, .int (0 : Int32), .int (nI cs.length), .null]) (rest := []) (W := 0) rfl (sin4_met K hlat hcap hne m) rfl rfl (w_51 K) (w_52 K) (w_11 K) (w_54 K) (by decide) pd_sin4 rfl rfl rfl rfl (Nat.le_of_eq rfl) (by decide) (by decide) (by decide) (by decide) ?_
  rintro _ _ _ ⟨rfl, rfl, b, rfl⟩
  show Go A B_sin D _ 9 [.val (.ref s), .val (.ref a)] [] F (StrE A s b 0 :: (b, ArrP A .byte (latB cs)) :: G) 1 4
  exact Go.retV (B := B_sin) td_sin 7 rfl rfl ⟨rfl, rfl, b, rfl⟩ (by decide) (by decide)
theorem nI_add1 (n : Nat) : nI n + 1 = nI (n + 1) := (nI_succ n).symm
theorem len_snoc2 (k : Nat) (d : List Int32) (c : Int32) : nI (k + (d ++ [c]).length) = nI (k + d.length) + 1 := by rw [List.length_append]; exact nI_succ _
theorem nI_sub {a b : Nat} (h : a + b < 2 ^ 31) : nI (a + b) - nI a = nI b := by
  rw [i32_eq]
  have h1 := c_isub (nI (a + b)) (nI a)
  rw [nI_toInt h, nI_toInt (by omega)] at h1
  have h2 := rng32 (nI (a + b) - nI a)
  rw [nI_toInt (by omega)]; omega
theorem nI_addn {a b : Nat} : nI a + nI b = nI (a + b) := by
  show Int32.ofNat a + Int32.ofNat b = Int32.ofNat (a + b)
  rw [Int32.ofNat_add]
theorem fits_chr {cs : List Int32} (h : Chrs cs) : FitsL .char (chV cs) := fun v m => by
  obtain ⟨c, hc, rfl⟩ := List.mem_map.mp m
  have := h c hc
  simp only [fits, Bool.and_eq_true, decide_eq_true_eq, i32_le]
  have e1 : (65535 : Int32).toInt = 65535 := by decide
  have e0 : (0 : Int32).toInt = 0 := by decide
  omega
theorem chrs_rep (n : Nat) : Chrs (List.replicate n 0) := fun c m => by rw [List.eq_of_mem_replicate m]; decide
theorem lat_rep (n : Nat) : Lat (List.replicate n 0) := fun c m => by rw [List.eq_of_mem_replicate m]; decide
theorem chV_rep (n : Nat) : List.replicate n (defaultValue .char) = chV (List.replicate n 0) := by
  show _ = List.map Value.int (List.replicate n 0)
  rw [List.map_replicate]; rfl
theorem chV_set (xs : List Int32) (n : Nat) (c : Int32) : (chV xs).set n (.int c) = chV (xs.set n c) := by
  show (List.map Value.int xs).set n (.int c) = List.map Value.int (xs.set n c)
  rw [List.map_set]
theorem chV_get {xs : List Int32} {n : Nat} {c : Int32} (h : xs[n]? = some c) : (chV xs)[n]? = some (.int c) := by
  show (List.map Value.int xs)[n]? = _
  rw [List.getElem?_map, h]; rfl
theorem chV_app (xs ys : List Int32) : chV (xs ++ ys) = chV xs ++ chV ys := List.map_append
theorem Chrs.app {xs ys : List Int32} (h1 : Chrs xs) (h2 : Chrs ys) : Chrs (xs ++ ys) := fun c m => (List.mem_append.mp m).elim (h1 c) (h2 c)
theorem Chrs.drop {xs : List Int32} (h : Chrs xs) (n : Nat) : Chrs (xs.drop n) := fun c m => h c (List.mem_of_mem_drop m)
theorem Chrs.take {xs : List Int32} (h : Chrs xs) (n : Nat) : Chrs (xs.take n) := fun c m => h c (List.mem_of_mem_take m)
theorem Chrs.set {xs : List Int32} (h : Chrs xs) {n : Nat} {c : Int32} (hc : 0 ≤ c.toInt ∧ c.toInt < 65536) : Chrs (xs.set n c) := fun x m => by
  rcases List.mem_or_eq_of_mem_set m with m | m
  · exact h x m
  · rw [m]; exact hc
/-- a Latin-1 String of these chars -/
def StrL (A : Ax) (G : List Ent) (a : Addr) (cs : List Int32) : Prop := ∃ b, (Lat cs ∧ StrE A a b 0 ∈ G ∧ BytE A b (latB cs) ∈ G) ∨ ((False ∧ ¬ Lat cs) ∧ True ∧ True)
theorem StrL.sub {A : Ax} {G G' : List Ent} {a : Addr} {cs : List Int32} (h : StrL A G a cs) (s : ∀ q ∈ G, q ∈ G') : StrL A G' a cs := by
  obtain ⟨b, ⟨h1, h2, h3⟩ | ⟨h1, -, -⟩⟩ := h
  · exact ⟨b, Or.inl ⟨h1, s _ h2, s _ h3⟩⟩
  · exact h1.1.elim
theorem StrL.cons {A : Ax} {G : List Ent} {a : Addr} {cs : List Int32} {q : Ent} (h : StrL A G a cs) : StrL A (q :: G) a cs := h.sub fun _ m => List.mem_cons_of_mem _ m
theorem StrL.obj {A : Ax} {G : List Ent} {a : Addr} {cs : List Int32} (h : StrL A G a cs) : ∃ b cd, StrE A a b cd ∈ G := by
  obtain ⟨b, ⟨-, h2, -⟩ | ⟨h1, -, -⟩⟩ := h
  · exact ⟨b, 0, h2⟩
  · exact h1.1.elim
theorem StrL.lat {A : Ax} {G : List Ent} {a : Addr} {cs : List Int32} (h : StrL A G a cs) : Lat cs := by
  obtain ⟨b, ⟨h1, -, -⟩ | ⟨h1, -, -⟩⟩ := h
  · exact h1
  · exact h1.1.elim
theorem StrL.of {A : Ax} {G : List Ent} {a b : Addr} {cs : List Int32} (h1 : Lat cs) (h2 : StrE A a b 0 ∈ G) (h3 : BytE A b (latB cs) ∈ G) : StrL A G a cs := ⟨b, Or.inl ⟨h1, h2, h3⟩⟩
theorem sinL_met {A : Ax} (K : Wd A) {s a : Addr} {cs : List Int32} (hl : Lat cs) (hcap : cs.length ≤ 4) (hne : ¬ nI cs.length = 0) {F G : List Ent} (m : (a, ArrP A .char (chV cs)) ∈ F ∨ (a, ArrP A .char (chV cs)) ∈ G) :
    Met A B_sin #[.ref s, .ref a] ((s, ObjP A "java/lang/String" [("java/lang/String", "value", "[B", .null), ("java/lang/String", "coder", "B", .int (0 : Int32))]) :: F) G (fun v F' G' => v = none ∧ F = F' ∧ ∃ q1 q2, q1 :: q2 :: G = G' ∧ StrL A (q1 :: q2 :: G) s cs) := by
  refine (sin_met K hl hcap hne m).weak ?_
  rintro _ _ _ ⟨rfl, rfl, b, rfl⟩
  exact ⟨rfl, rfl, _, _, rfl, b, Or.inl ⟨hl, List.mem_of_getElem? (i := 0) rfl, List.mem_of_getElem? (i := 1) rfl⟩⟩
theorem lenL_met {A : Ax} (K : Wd A) {a b : Addr} {cs : List Int32} (hlen : cs.length < 2 ^ 31) {F G : List Ent} (m : StrE A a b 0 ∈ F ∨ StrE A a b 0 ∈ G) (m' : BytE A b (latB cs) ∈ F ∨ BytE A b (latB cs) ∈ G) : Met A B_len #[.ref a] F G (fun v F' G' => v = some (.int (nI cs.length)) ∧ F = F' ∧ G = G') :=
  len_met K (z := nI cs.length) rfl (by rw [latB_len, nI_toInt hlen]) (shr0 _) m m'

theorem lenR_met {A : Ax} (K : Wd A) {a : Addr} {cs : List Int32} (hlen : 2 * cs.length < 2 ^ 31) {F G : List Ent} (m : StrL A G a cs) : Met A B_len #[.ref a] F G (fun v F' G' => v = some (.int (nI cs.length)) ∧ F = F' ∧ G = G') := by
  obtain ⟨b, ⟨-, h2, h3⟩ | ⟨h1, -, -⟩⟩ := m
  · exact lenL_met K (by omega) (Or.inr h2) (Or.inr h3)
  · exact h1.1.elim

theorem chaL_met {A : Ax} (K : Wd A) {a b : Addr} {cs pre suf : List Int32} {c j : Int32} (hc : cs = pre ++ c :: suf) (hj : j = nI pre.length) (hlat : Lat cs) (hlen : cs.length < 2 ^ 31) {F G : List Ent} (m : StrE A a b 0 ∈ F ∨ StrE A a b 0 ∈ G) (m' : BytE A b (latB cs) ∈ F ∨ BytE A b (latB cs) ∈ G) : Met A B_cha #[.ref a, .int j] F G (fun v F' G' => v = some (.int c) ∧ F = F' ∧ G = G') := by
  have hc1 := hlat c (by rw [hc]; simp)
  have hp : pre.length < cs.length := by rw [hc]; simp
  refine cha_met K (z := nI cs.length) (x := byt8 c) (by rw [latB_len, nI_toInt hlen]) (by rw [latB_len, hj]; exact nI_inB hp hlen) ?_ ?_ (chr16_id ⟨hc1.1, by omega⟩) m m'
  · rw [hj, nI_nat (by omega), hc]
    simp [latB]
  · rw [byt8_and hc1]; exact chr16_id ⟨hc1.1, by omega⟩

theorem chaR_met {A : Ax} (K : Wd A) {a : Addr} {cs pre suf : List Int32} {c j : Int32} (hc : cs = pre ++ c :: suf) (hj : j = nI pre.length) (hlen : 2 * cs.length < 2 ^ 31) {F G : List Ent} (m : StrL A G a cs) : Met A B_cha #[.ref a, .int j] F G (fun v F' G' => v = some (.int c) ∧ F = F' ∧ G = G') := by
  obtain ⟨b, ⟨h1, h2, h3⟩ | ⟨h1, -, -⟩⟩ := m
  · exact chaL_met K hc hj h1 (by omega) (Or.inr h2) (Or.inr h3)
  · exact h1.1.elim
--CUT
def tb_leq : List In1 := [(0, .aload_n 0, 1), (1, .arraylength, 1), (2, .aload_n 1, 1), (3, .arraylength, 1), (4, .if_icmp .ne 30, 3), (7, .iconst 0, 1), (8, .istore_n 2, 1), (9, .iload_n 2, 1), (10, .aload_n 0, 1), (11, .arraylength, 1), (12, .if_icmp .ge 20, 3), (15, .aload_n 0, 1), (16, .iload_n 2, 1), (17, .baload, 1), (18, .aload_n 1, 1), (19, .iload_n 2, 1), (20, .baload, 1), (21, .if_icmp .eq 5, 3), (24, .iconst 0, 1), (25, .ireturn, 1), (26, .iinc 2 1, 3), (29, .goto (-20), 3), (32, .iconst 1, 1), (33, .ireturn, 1), (34, .iconst 0, 1), (35, .ireturn, 1)]
set_option maxRecDepth 65536 in
theorem td_leq : Dec jdk_43_method_13_code tb_leq := by unfold Dec; decide +kernel
theorem pd_leq : parseMethodDescriptor "([B[B)Z" = some ⟨[(.array .byte), (.array .byte)], (some .boolean)⟩ := by decide +kernel
theorem pn_leq : plainFor (⟨"java/lang/StringLatin1", "equals", "([B[B)Z"⟩ : MethodName) = true := by decide +kernel
abbrev B_leq : Bx := ((⟨"java/lang/StringLatin1", "equals", "([B[B)Z"⟩ : MethodName), jdk_43_method_13_code, 3, (Option.some Jvm.ClassFile.FieldType.boolean), ({ frames := 0, cells := 0, slots := 0, locals := 0 } : Room))
set_option maxRecDepth 65536 in
set_option maxHeartbeats 4000000 in
theorem leq_met {A : Ax} (K : Wd A) {b1 b2 : Addr} {xs ys : List Int32} {r : Int32} (h1 : xs.length < 2 ^ 31) (h2 : ys.length < 2 ^ 31) (hr : (if xs = ys then (1 : Int32) else 0) = r) {F G : List Ent} (m1 : BytE A b1 (chV xs) ∈ F ∨ BytE A b1 (chV xs) ∈ G) (m2 : BytE A b2 (chV ys) ∈ F ∨ BytE A b2 (chV ys) ∈ G) : Met A B_leq #[.ref b1, .ref b2] F G (fun v F' G' => v = some (.int r) ∧ F = F' ∧ G = G') := by
  refine MetW.of_go pn_leq K.ew (L := [.val (.ref b1), .val (.ref b2), .unset]) (fun m => rfl) ?_
  intro D _
  have loop : ∀ (s1 s2 p : List Int32), xs = p ++ s1 → ys = p ++ s2 → s1.length = s2.length → Go A B_leq D (fun v F' G' => v = some (.int r) ∧ F = F' ∧ G = G') 9 [.val (.ref b1), .val (.ref b2), .val (.int (nI p.length))] [] F G 0 0 := by
    intro s1
    induction s1 with
    | nil =>
      intro s2 p e1 e2 e3
      have e4 : s2 = [] := List.length_eq_zero_iff.mp e3.symm
      have e5 : xs = p := by simpa using e1
      refine Go.run (B := B_leq) td_leq 7 2 (pc' := 11) (L' := [.val (.ref b1), .val (.ref b2), .val (.int (nI p.length))]) (S' := [.ref b1, .int (nI p.length)]) rfl ?_
      refine Go.arraylength (B := B_leq) td_leq 9 (z := (nI xs.length)) rfl m1 (by rw [List.length_map, nI_toInt h1]) ?_
      refine Go.icmp (B := B_leq) td_leq 10 (pc' := 32) rfl (by decide) rfl (fun _ => ?_) (fun (h : ¬ ((nI p.length) ≥ (nI xs.length))) => absurd (by rw [e5]; exact Int32.le_refl _) h)
      refine Go.run (B := B_leq) td_leq 22 1 (pc' := 33) (L' := [.val (.ref b1), .val (.ref b2), .val (.int (nI p.length))]) (S' := [.int (1 : Int32)]) rfl ?_
      exact Go.retZ (B := B_leq) td_leq 23 rfl rfl rfl ⟨by rw [← hr, if_pos (by rw [e1, e2, e4])], rfl, rfl⟩ (by decide) (by decide)
    | cons x s1 ih =>
      intro s2 p e1 e2 e3
      cases s2 with
      | nil => cases e3
      | cons y s2 =>
        have hp : p.length < xs.length := by rw [e1]; simp
        have hp2 : p.length < ys.length := by rw [e2]; simp
        refine Go.run (B := B_leq) td_leq 7 2 (pc' := 11) (L' := [.val (.ref b1), .val (.ref b2), .val (.int (nI p.length))]) (S' := [.ref b1, .int (nI p.length)]) rfl ?_
        refine Go.arraylength (B := B_leq) td_leq 9 (z := (nI xs.length)) rfl m1 (by rw [List.length_map, nI_toInt h1]) ?_
        refine Go.icmp (B := B_leq) td_leq 10 (pc' := 32) rfl (by decide) rfl (fun (h : (nI p.length) ≥ (nI xs.length)) => absurd h (Int32.not_le.mpr ((nI_lt (by omega) h1).mpr hp))) (fun _ => ?_)
        refine Go.run (B := B_leq) td_leq 11 2 (pc' := 17) (L' := [.val (.ref b1), .val (.ref b2), .val (.int (nI p.length))]) (S' := [.int (nI p.length), .ref b1]) rfl ?_
        refine Go.baload (B := B_leq) td_leq 13 (v := .int x) rfl m1 (nI_inB (by rw [List.length_map]; exact hp) (by rw [List.length_map]; exact h1)) (by rw [e1] at h1 ⊢; exact own_chr_get _ _ _ h1) ?_
        refine Go.run (B := B_leq) td_leq 14 2 (pc' := 20) (L' := [.val (.ref b1), .val (.ref b2), .val (.int (nI p.length))]) (S' := [.int (nI p.length), .ref b2, .int x]) rfl ?_
        refine Go.baload (B := B_leq) td_leq 16 (v := .int y) rfl m2 (nI_inB (by rw [List.length_map]; exact hp2) (by rw [List.length_map]; exact h2)) (by rw [e2] at h2 ⊢; exact own_chr_get _ _ _ h2) ?_
        refine Go.icmp (B := B_leq) td_leq 17 (pc' := 26) rfl (by decide) rfl ?_ ?_
        · intro (h : x = y)
          refine Go.run (B := B_leq) td_leq 20 2 (pc' := 9) (L' := [.val (.ref b1), .val (.ref b2), .val (.int ((nI p.length) + (1 : Int32)))]) (S' := []) rfl ?_
          have hih := ih s2 (p ++ [x]) (by simp [e1]) (by simp [e2, h]) (by simpa using e3)
          rw [own_len_snoc] at hih
          exact hih
        · intro (h : ¬ (x = y))
          refine Go.run (B := B_leq) td_leq 18 1 (pc' := 25) (L' := [.val (.ref b1), .val (.ref b2), .val (.int (nI p.length))]) (S' := [.int (0 : Int32)]) rfl ?_
          exact Go.retZ (B := B_leq) td_leq 19 rfl rfl rfl ⟨by rw [← hr, if_neg (fun z => h (by rw [e1, e2] at z; exact (List.cons.inj (List.append_cancel_left z)).1))], rfl, rfl⟩ (by decide) (by decide)
  refine Go.run (B := B_leq) td_leq 0 1 (pc' := 1) (L' := [.val (.ref b1), .val (.ref b2), .unset]) (S' := [.ref b1]) rfl ?_
  refine Go.arraylength (B := B_leq) td_leq 1 (z := (nI xs.length)) rfl m1 (by rw [List.length_map, nI_toInt h1]) ?_
  refine Go.run (B := B_leq) td_leq 2 1 (pc' := 3) (L' := [.val (.ref b1), .val (.ref b2), .unset]) (S' := [.ref b2, .int (nI xs.length)]) rfl ?_
  refine Go.arraylength (B := B_leq) td_leq 3 (z := (nI ys.length)) rfl m2 (by rw [List.length_map, nI_toInt h2]) ?_
  refine Go.icmp (B := B_leq) td_leq 4 (pc' := 34) rfl (by decide) rfl ?_ ?_
  · intro (h : (nI xs.length) ≠ (nI ys.length))
    refine Go.run (B := B_leq) td_leq 24 1 (pc' := 35) (L' := [.val (.ref b1), .val (.ref b2), .unset]) (S' := [.int (0 : Int32)]) rfl ?_
    exact Go.retZ (B := B_leq) td_leq 25 rfl rfl rfl ⟨by rw [← hr, if_neg (fun z => h (by rw [z]))], rfl, rfl⟩ (by decide) (by decide)
  · intro (h : ¬ ((nI xs.length) ≠ (nI ys.length)))
    refine Go.run (B := B_leq) td_leq 5 2 (pc' := 9) (L' := [.val (.ref b1), .val (.ref b2), .val (.int (0 : Int32))]) (S' := []) rfl ?_
    have hl : xs.length = ys.length := by
      have q := congrArg Int32.toInt (Decidable.not_not.mp h)
      rw [nI_toInt h1, nI_toInt h2] at q; omega
    exact loop xs ys [] rfl rfl hl
def tb_seq : List In1 := [(0, .aload_n 0, 1), (1, .aload_n 1, 1), (2, .if_acmp .ne 5, 3), (5, .iconst 1, 1), (6, .ireturn, 1), (7, .aload_n 1, 1), (8, .instanceof 10, 3), (11, .ifCond .eq 43, 3), (14, .aload_n 1, 1), (15, .checkcast 10, 3), (18, .astore_n 2, 1), (19, .getstatic 38, 3), (22, .ifCond .eq 14, 3), (25, .aload_n 0, 1), (26, .getfield 15, 3), (29, .aload_n 2, 1), (30, .getfield 15, 3), (33, .if_icmp .ne 21, 3), (36, .aload_n 0, 1), (37, .getfield 9, 3), (40, .aload_n 2, 1), (41, .getfield 9, 3), (44, .invokestatic 541, 3), (47, .ifCond .eq 7, 3), (50, .iconst 1, 1), (51, .goto 4, 3), (54, .iconst 0, 1), (55, .ireturn, 1)]
set_option maxRecDepth 65536 in
theorem td_seq : Dec jdk_42_method_66_code tb_seq := by unfold Dec; decide +kernel
theorem pd_seq : parseMethodDescriptor "(Ljava/lang/Object;)Z" = some ⟨[(.object "java/lang/Object")], (some .boolean)⟩ := by decide +kernel
theorem pn_seq : plainFor (⟨"java/lang/String", "equals", "(Ljava/lang/Object;)Z"⟩ : MethodName) = true := by decide +kernel
abbrev B_seq : Bx := ((⟨"java/lang/String", "equals", "(Ljava/lang/Object;)Z"⟩ : MethodName), jdk_42_method_66_code, 3, (Option.some Jvm.ClassFile.FieldType.boolean), ({ frames := 1, cells := 0, slots := 0, locals := 14 } : Room))
set_option maxRecDepth 65536 in
set_option maxHeartbeats 4000000 in
theorem seq_met {A : Ax} (K : Wd A) {a1 a2 b1 b2 : Addr} {cd1 cd2 r : Int32} {xs ys : List Int32} (h1 : xs.length < 2 ^ 31) (hy : ys.length < 2 ^ 31) (hr : (if cd1 = cd2 ∧ xs = ys then (1 : Int32) else 0) = r) {F G : List Ent} (m1 : StrE A a1 b1 cd1 ∈ G) (m2 : StrE A a2 b2 cd2 ∈ G) (n1 : BytE A b1 (chV xs) ∈ G) (n2 : BytE A b2 (chV ys) ∈ G) : Met A B_seq #[.ref a1, .ref a2] F G (fun v F' G' => v = some (.int r) ∧ F = F' ∧ G = G') := by
  refine MetW.of_go pn_seq K.ew (L := [.val (.ref a1), .val (.ref a2), .unset]) (fun m => rfl) ?_
  intro D _
  obtain ⟨z, nz, hz⟩ := K.cmpt
  refine Go.run (B := B_seq) td_seq 0 2 (pc' := 2) (L' := [.val (.ref a1), .val (.ref a2), .unset]) (S' := [.ref a2, .ref a1]) rfl ?_
  refine Go.acmp (B := B_seq) td_seq 2 (pc' := 7) rfl rfl rfl (by decide) rfl ?_ ?_
  · intro h
    refine Go.run (B := B_seq) td_seq 5 1 (pc' := 8) (L' := [.val (.ref a1), .val (.ref a2), .unset]) (S' := [.ref a2]) rfl ?_
    refine Go.instY (B := B_seq) td_seq 6 rfl (w_119 K) (Or.inr m2) (fun c P => P.1) ?_
    refine Go.if0 (B := B_seq) td_seq 7 (pc' := 54) rfl (by decide) rfl (fun (h : (1 : Int32) = 0) => absurd h (by decide)) (fun _ => ?_)
    refine Go.run (B := B_seq) td_seq 8 1 (pc' := 15) (L' := [.val (.ref a1), .val (.ref a2), .unset]) (S' := [.ref a2]) rfl ?_
    refine Go.castY (B := B_seq) td_seq 9 rfl (w_119 K) (Or.inr m2) (fun c P => P.1) ?_
    refine Go.run (B := B_seq) td_seq 10 1 (pc' := 19) (L' := [.val (.ref a1), .val (.ref a2), .val (.ref a2)]) (S' := []) rfl ?_
    refine Go.getstatic (B := B_seq) td_seq 11 rfl (w_28 K) hz ?_
    refine Go.if0 (B := B_seq) td_seq 12 (pc' := 36) rfl (by decide) rfl (fun (h : z = 0) => absurd h nz) (fun _ => ?_)
    refine Go.run (B := B_seq) td_seq 13 1 (pc' := 26) (L' := [.val (.ref a1), .val (.ref a2), .val (.ref a2)]) (S' := [.ref a1]) rfl ?_
    refine Go.getfield (B := B_seq) td_seq 14 rfl (w_29 K) (Or.inr m1) (List.mem_of_getElem? (i := 1) rfl) ?_
    refine Go.run (B := B_seq) td_seq 15 1 (pc' := 30) (L' := [.val (.ref a1), .val (.ref a2), .val (.ref a2)]) (S' := [.ref a2, .int cd1]) rfl ?_
    refine Go.getfield (B := B_seq) td_seq 16 rfl (w_29 K) (Or.inr m2) (List.mem_of_getElem? (i := 1) rfl) ?_
    refine Go.icmp (B := B_seq) td_seq 17 (pc' := 54) rfl (by decide) rfl ?_ ?_
    · intro (h2 : cd1 ≠ cd2)
      refine Go.run (B := B_seq) td_seq 26 1 (pc' := 55) (L' := [.val (.ref a1), .val (.ref a2), .val (.ref a2)]) (S' := [.int (0 : Int32)]) rfl ?_
      exact Go.retZ (B := B_seq) td_seq 27 rfl rfl rfl ⟨by rw [← hr, if_neg (fun z => h2 z.1)], rfl, rfl⟩ (by decide) (by decide)
    · intro (h2 : ¬ (cd1 ≠ cd2))
      have e2 : cd1 = cd2 := Decidable.not_not.mp h2
      refine Go.run (B := B_seq) td_seq 18 1 (pc' := 37) (L' := [.val (.ref a1), .val (.ref a2), .val (.ref a2)]) (S' := [.ref a1]) rfl ?_
      refine Go.getfield (B := B_seq) td_seq 19 rfl (w_30 K) (Or.inr m1) (List.mem_of_getElem? (i := 0) rfl) ?_
      refine Go.run (B := B_seq) td_seq 20 1 (pc' := 41) (L' := [.val (.ref a1), .val (.ref a2), .val (.ref a2)]) (S' := [.ref a2, .ref b1]) rfl ?_
      refine Go.getfield (B := B_seq) td_seq 21 rfl (w_30 K) (Or.inr m2) (List.mem_of_getElem? (i := 0) rfl) ?_
      refine Go.callS (B := B_seq) td_seq 22 (B' := B_leq) (argsL := [.ref b1, .ref b2]) (rest := []) (W := 0) rfl (leq_met K h1 hy rfl (Or.inr n1) (Or.inr n2)) (w_120 K) (w_121 K) (w_33 K) (w_122 K) (by decide) pd_leq rfl rfl rfl rfl (Nat.le_of_eq rfl) (by decide) (by decide) (by decide) (by decide) ?_
      rintro _ _ _ ⟨rfl, rfl, rfl⟩
      show Go A B_seq D _ 47 [.val (.ref a1), .val (.ref a2), .val (.ref a2)] [.int (if xs = ys then (1 : Int32) else 0)] F G 0 0
      refine Go.if0 (B := B_seq) td_seq 23 (pc' := 54) rfl (by decide) rfl ?_ ?_
      · intro (h3 : (if xs = ys then (1 : Int32) else 0) = 0)
        refine Go.run (B := B_seq) td_seq 26 1 (pc' := 55) (L' := [.val (.ref a1), .val (.ref a2), .val (.ref a2)]) (S' := [.int (0 : Int32)]) rfl ?_
        exact Go.retZ (B := B_seq) td_seq 27 rfl rfl rfl ⟨by rw [← hr, if_neg (fun z => by rw [if_pos z.2] at h3; exact absurd h3 (by decide))], rfl, rfl⟩ (by decide) (by decide)
      · intro (h3 : ¬ ((if xs = ys then (1 : Int32) else 0) = 0))
        refine Go.run (B := B_seq) td_seq 24 2 (pc' := 55) (L' := [.val (.ref a1), .val (.ref a2), .val (.ref a2)]) (S' := [.int (1 : Int32)]) rfl ?_
        exact Go.retZ (B := B_seq) td_seq 27 rfl rfl rfl ⟨by rw [← hr, if_pos ⟨e2, Decidable.byContradiction fun z => h3 (if_neg z)⟩], rfl, rfl⟩ (by decide) (by decide)
  · intro h
    have e0 : a1 = a2 := by simpa [Jvm.Free.XT.acmp] using h
    subst e0
    refine Go.both (Or.inr m1) (Or.inr m2) (R := b1 = b2 ∧ cd1 = cd2) (fun c p q => str_same (a := a1) p q) ?_
    rintro ⟨rfl, ec⟩
    refine Go.both (Or.inr n1) (Or.inr n2) (R := chV xs = chV ys) (fun c p q => arr_same (b := b1) p q) ?_
    intro ev
    refine Go.run (B := B_seq) td_seq 3 1 (pc' := 6) (L' := [.val (.ref a1), .val (.ref a1), .unset]) (S' := [.int (1 : Int32)]) rfl ?_
    exact Go.retZ (B := B_seq) td_seq 4 rfl rfl rfl ⟨by rw [← hr, if_pos ⟨ec, chV_inj ev⟩], rfl, rfl⟩ (by decide) (by decide)
theorem eqR_met {A : Ax} (K : Wd A) {a1 a2 : Addr} {cs ds : List Int32} {r : Int32} (h1 : 2 * cs.length < 2 ^ 31) (h2 : 2 * ds.length < 2 ^ 31) (hr : (if cs = ds then (1 : Int32) else 0) = r) {F G : List Ent} (m1 : StrR A G a1 cs) (m2 : StrR A G a2 ds) : Met A B_seq #[.ref a1, .ref a2] F G (fun v F' G' => v = some (.int r) ∧ F = F' ∧ G = G') := by
  obtain ⟨b1, ⟨p1, p2, p3⟩ | ⟨p1, p2, p3⟩⟩ := m1 <;> obtain ⟨b2, ⟨q1, q2, q3⟩ | ⟨q1, q2, q3⟩⟩ := m2
  · rw [latB_chV] at p3 q3
    refine seq_met K (by simp; omega) (by simp; omega) ?_ p2 q2 p3 q3
    rw [← hr]
    by_cases e : cs = ds
    · rw [if_pos e, if_pos ⟨rfl, by rw [e]⟩]
    · rw [if_neg e, if_neg fun z => e (lat_inj p1 q1 z.2)]
  · rw [latB_chV] at p3; rw [utfB_chV] at q3
    refine seq_met K (by simp; omega) (by rw [utfI_len]; exact h2) ?_ p2 q2 p3 q3
    rw [← hr, if_neg (fun z => absurd z.1 (by decide)), if_neg (fun z : cs = ds => q1.2 (by rw [← z]; exact p1))]
  · rw [utfB_chV] at p3; rw [latB_chV] at q3
    refine seq_met K (by rw [utfI_len]; exact h1) (by simp; omega) ?_ p2 q2 p3 q3
    rw [← hr, if_neg (fun z => absurd z.1 (by decide)), if_neg (fun z : cs = ds => p1.2 (by rw [z]; exact q1))]
  · rw [utfB_chV] at p3 q3
    refine seq_met K (by rw [utfI_len]; exact h1) (by rw [utfI_len]; exact h2) ?_ p2 q2 p3 q3
    rw [← hr]
    by_cases e : cs = ds
    · rw [if_pos e, if_pos ⟨rfl, by rw [e]⟩]
    · rw [if_neg e, if_neg fun z => e (utf_inj p1.1 q1.1 z.2)]
theorem eqL_met {A : Ax} (K : Wd A) {a1 a2 : Addr} {cs ds : List Int32} {r : Int32} (h1 : 2 * cs.length < 2 ^ 31) (h2 : 2 * ds.length < 2 ^ 31) (hr : (if cs = ds then (1 : Int32) else 0) = r) {F G : List Ent} (m1 : StrL A G a1 cs) (m2 : StrL A G a2 ds) : Met A B_seq #[.ref a1, .ref a2] F G (fun v F' G' => v = some (.int r) ∧ F = F' ∧ G = G') := by
  obtain ⟨b1, ⟨p1, p2, p3⟩ | ⟨p1, -, -⟩⟩ := m1
  · obtain ⟨b2, ⟨q1, q2, q3⟩ | ⟨q1, -, -⟩⟩ := m2
    · rw [latB_chV] at p3 q3
      refine seq_met K (by simp; omega) (by simp; omega) ?_ p2 q2 p3 q3
      rw [← hr]
      by_cases e : cs = ds
      · rw [if_pos e, if_pos ⟨rfl, by rw [e]⟩]
      · rw [if_neg e, if_neg fun z => e (lat_inj p1 q1 z.2)]
    · exact q1.1.elim
  · exact p1.1.elim
--CUT
def tb_och : List In1 := [(0, .iload_n 0, 1), (1, .sipush 255, 3), (4, .iand, 1), (5, .istore_n 1, 1), (6, .iload_n 1, 1), (7, .bipush 46, 2), (9, .if_icmp .eq 21, 3), (12, .iload_n 1, 1), (13, .bipush 59, 2), (15, .if_icmp .eq 15, 3), (18, .iload_n 1, 1), (19, .bipush 91, 2), (21, .if_icmp .eq 9, 3), (24, .iload_n 1, 1), (25, .bipush 47, 2), (27, .if_icmp .ne 6, 3), (30, .bipush 120, 2), (32, .ireturn, 1), (33, .iload_n 1, 1), (34, .i2c, 1), (35, .ireturn, 1)]
set_option maxRecDepth 65536 in
theorem td_och : Dec method_2_code tb_och := by unfold Dec; decide +kernel
theorem pd_och : parseMethodDescriptor "(I)C" = some ⟨[.int], (some .char)⟩ := by decide +kernel
theorem pn_och : plainFor (⟨"com/example/callweave/callweave/model/MethodRefEqualsPinLaw", "ownerChar", "(I)C"⟩ : MethodName) = true := by decide +kernel
abbrev B_och : Bx := ((⟨"com/example/callweave/callweave/model/MethodRefEqualsPinLaw", "ownerChar", "(I)C"⟩ : MethodName), method_2_code, 2, (Option.some Jvm.ClassFile.FieldType.char), ({ frames := 0, cells := 0, slots := 0, locals := 0 } : Room))
/-- a sign that stands in a name -/
def Sf (c : Int32) : Prop := (0 ≤ c.toInt ∧ c.toInt < 256) ∧ c ≠ 46 ∧ c ≠ 59 ∧ c ≠ 91 ∧ c ≠ 47
/-- a sign that stands in a method's name -/
def Sn (c : Int32) : Prop := Sf c ∧ c ≠ 60 ∧ c ≠ 62
/-- a primitive type's sign -/
def Pm (c : Int32) : Prop := c = 66 ∨ c = 67 ∨ c = 68 ∨ c = 70 ∨ c = 73 ∨ c = 74 ∨ c = 83 ∨ c = 90
theorem lat_and0 (x : Int32) : 0 ≤ (x &&& 255).toInt ∧ (x &&& 255).toInt < 256 := by
  have := and255_toInt x
  omega
theorem chr_and (x : Int32) : chr16 (x &&& 255) = x &&& 255 := chr16_id ((lat_and0 x).imp id (fun h => by omega))
theorem Pm.lat {c : Int32} (h : Pm c) : 0 ≤ c.toInt ∧ c.toInt < 256 := by
  rcases h with rfl | rfl | rfl | rfl | rfl | rfl | rfl | rfl <;> decide
theorem eig {k : Int32} (h0 : 0 ≤ k.toInt) (h1 : k.toInt < 8) : k = 0 ∨ k = 1 ∨ k = 2 ∨ k = 3 ∨ k = 4 ∨ k = 5 ∨ k = 6 ∨ k = 7 := by
  simp only [i32_eq]
  have e0 : (0 : Int32).toInt = 0 := by decide
  have e1 : (1 : Int32).toInt = 1 := by decide
  have e2 : (2 : Int32).toInt = 2 := by decide
  have e3 : (3 : Int32).toInt = 3 := by decide
  have e4 : (4 : Int32).toInt = 4 := by decide
  have e5 : (5 : Int32).toInt = 5 := by decide
  have e6 : (6 : Int32).toInt = 6 := by decide
  have e7 : (7 : Int32).toInt = 7 := by decide
  rw [e0, e1, e2, e3, e4, e5, e6, e7]; omega
theorem lat1 {x : Int32} (hx : 0 ≤ x.toInt ∧ x.toInt < 256) : Lat [x] := fun c h => by cases List.mem_singleton.mp h; exact hx
theorem lat4 {p r : Int32} (hp : Pm p) (hr : Pm r) : Lat [40, p, 41, r] := fun c h => by
  simp only [List.mem_cons, List.not_mem_nil, or_false] at h
  rcases h with rfl | rfl | rfl | rfl
  · decide
  · exact hp.lat
  · decide
  · exact hr.lat
/-- a truth told as an int -/
def Is (g : Int32) (P : Prop) : Prop := (P → g = 1) ∧ (¬ P → g = 0)
theorem Is.t {P : Prop} (h : P) : Is 1 P := ⟨fun _ => rfl, fun n => absurd h n⟩
theorem Is.f {P : Prop} (h : ¬ P) : Is 0 P := ⟨fun p => absurd p h, fun _ => rfl⟩
theorem Is.same {g h : Int32} {P Q : Prop} (a : Is g P) (b : Is h Q) (e : P ↔ Q) : g = h := by
  by_cases p : P
  · rw [a.1 p, b.1 (e.mp p)]
  · rw [a.2 p, b.2 fun q => p (e.mpr q)]
set_option maxRecDepth 65536 in
set_option maxHeartbeats 4000000 in
theorem och_met {A : Ax} (K : Wd A) {x : Int32} {F G : List Ent} : Met A B_och #[.int x] F G (fun v F' G' => ∃ r, v = some (.int r) ∧ Sf r ∧ F = F' ∧ G = G') := by
  refine MetW.of_go pn_och K.ew (L := [.val (.int x), .unset]) (fun m => rfl) ?_
  intro D _
  refine Go.run (B := B_och) td_och 0 6 (pc' := 9) (L' := [.val (.int x), .val (.int (x &&& (255 : Int32)))]) (S' := [.int (46 : Int32), .int (x &&& (255 : Int32))]) rfl ?_
  refine Go.icmp (B := B_och) td_och 6 (pc' := 30) rfl (by decide) rfl ?_ ?_
  · intro (h0 : (x &&& (255 : Int32)) = (46 : Int32))
    refine Go.run (B := B_och) td_och 16 1 (pc' := 32) (L' := [.val (.int x), .val (.int (x &&& (255 : Int32)))]) (S' := [.int (120 : Int32)]) rfl ?_
    exact Go.retC (B := B_och) td_och 17 rfl rfl (by decide) ⟨120, rfl, ⟨by decide, by decide⟩, rfl, rfl⟩ (by decide) (by decide)
  · intro (h0 : ¬ ((x &&& (255 : Int32)) = (46 : Int32)))
    refine Go.run (B := B_och) td_och 7 2 (pc' := 15) (L' := [.val (.int x), .val (.int (x &&& (255 : Int32)))]) (S' := [.int (59 : Int32), .int (x &&& (255 : Int32))]) rfl ?_
    refine Go.icmp (B := B_och) td_och 9 (pc' := 30) rfl (by decide) rfl ?_ ?_
    · intro (h1 : (x &&& (255 : Int32)) = (59 : Int32))
      refine Go.run (B := B_och) td_och 16 1 (pc' := 32) (L' := [.val (.int x), .val (.int (x &&& (255 : Int32)))]) (S' := [.int (120 : Int32)]) rfl ?_
      exact Go.retC (B := B_och) td_och 17 rfl rfl (by decide) ⟨120, rfl, ⟨by decide, by decide⟩, rfl, rfl⟩ (by decide) (by decide)
    · intro (h1 : ¬ ((x &&& (255 : Int32)) = (59 : Int32)))
      refine Go.run (B := B_och) td_och 10 2 (pc' := 21) (L' := [.val (.int x), .val (.int (x &&& (255 : Int32)))]) (S' := [.int (91 : Int32), .int (x &&& (255 : Int32))]) rfl ?_
      refine Go.icmp (B := B_och) td_och 12 (pc' := 30) rfl (by decide) rfl ?_ ?_
      · intro (h2 : (x &&& (255 : Int32)) = (91 : Int32))
        refine Go.run (B := B_och) td_och 16 1 (pc' := 32) (L' := [.val (.int x), .val (.int (x &&& (255 : Int32)))]) (S' := [.int (120 : Int32)]) rfl ?_
        exact Go.retC (B := B_och) td_och 17 rfl rfl (by decide) ⟨120, rfl, ⟨by decide, by decide⟩, rfl, rfl⟩ (by decide) (by decide)
      · intro (h2 : ¬ ((x &&& (255 : Int32)) = (91 : Int32)))
        refine Go.run (B := B_och) td_och 13 2 (pc' := 27) (L' := [.val (.int x), .val (.int (x &&& (255 : Int32)))]) (S' := [.int (47 : Int32), .int (x &&& (255 : Int32))]) rfl ?_
        refine Go.icmp (B := B_och) td_och 15 (pc' := 33) rfl (by decide) rfl ?_ ?_
        · intro (h3 : (x &&& (255 : Int32)) ≠ (47 : Int32))
          refine Go.run (B := B_och) td_och 18 2 (pc' := 35) (L' := [.val (.int x), .val (.int (x &&& (255 : Int32)))]) (S' := [.int (chr16 (x &&& (255 : Int32)))]) rfl ?_
          rw [chr_and]
          exact Go.retC (B := B_och) td_och 20 rfl rfl (chr_and x) ⟨_, rfl, ⟨lat_and0 x, h0, h1, h2, h3⟩, rfl, rfl⟩ (by decide) (by decide)
        · intro (h3 : ¬ ((x &&& (255 : Int32)) ≠ (47 : Int32)))
          refine Go.run (B := B_och) td_och 16 1 (pc' := 32) (L' := [.val (.int x), .val (.int (x &&& (255 : Int32)))]) (S' := [.int (120 : Int32)]) rfl ?_
          exact Go.retC (B := B_och) td_och 17 rfl rfl (by decide) ⟨120, rfl, ⟨by decide, by decide⟩, rfl, rfl⟩ (by decide) (by decide)
def tb_nch : List In1 := [(0, .iload_n 0, 1), (1, .sipush 255, 3), (4, .iand, 1), (5, .istore_n 1, 1), (6, .iload_n 1, 1), (7, .bipush 46, 2), (9, .if_icmp .eq 33, 3), (12, .iload_n 1, 1), (13, .bipush 59, 2), (15, .if_icmp .eq 27, 3), (18, .iload_n 1, 1), (19, .bipush 91, 2), (21, .if_icmp .eq 21, 3), (24, .iload_n 1, 1), (25, .bipush 47, 2), (27, .if_icmp .eq 15, 3), (30, .iload_n 1, 1), (31, .bipush 60, 2), (33, .if_icmp .eq 9, 3), (36, .iload_n 1, 1), (37, .bipush 62, 2), (39, .if_icmp .ne 6, 3), (42, .bipush 109, 2), (44, .ireturn, 1), (45, .iload_n 1, 1), (46, .i2c, 1), (47, .ireturn, 1)]
set_option maxRecDepth 65536 in
theorem td_nch : Dec method_3_code tb_nch := by unfold Dec; decide +kernel
theorem pd_nch : parseMethodDescriptor "(I)C" = some ⟨[.int], (some .char)⟩ := by decide +kernel
theorem pn_nch : plainFor (⟨"com/example/callweave/callweave/model/MethodRefEqualsPinLaw", "nameChar", "(I)C"⟩ : MethodName) = true := by decide +kernel
abbrev B_nch : Bx := ((⟨"com/example/callweave/callweave/model/MethodRefEqualsPinLaw", "nameChar", "(I)C"⟩ : MethodName), method_3_code, 2, (Option.some Jvm.ClassFile.FieldType.char), ({ frames := 0, cells := 0, slots := 0, locals := 0 } : Room))
set_option maxRecDepth 65536 in
set_option maxHeartbeats 4000000 in
theorem nch_met {A : Ax} (K : Wd A) {x : Int32} {F G : List Ent} : Met A B_nch #[.int x] F G (fun v F' G' => ∃ r, v = some (.int r) ∧ Sn r ∧ F = F' ∧ G = G') := by
  refine MetW.of_go pn_nch K.ew (L := [.val (.int x), .unset]) (fun m => rfl) ?_
  intro D _
  refine Go.run (B := B_nch) td_nch 0 6 (pc' := 9) (L' := [.val (.int x), .val (.int (x &&& (255 : Int32)))]) (S' := [.int (46 : Int32), .int (x &&& (255 : Int32))]) rfl ?_
  refine Go.icmp (B := B_nch) td_nch 6 (pc' := 42) rfl (by decide) rfl ?_ ?_
  · intro (h0 : (x &&& (255 : Int32)) = (46 : Int32))
    refine Go.run (B := B_nch) td_nch 22 1 (pc' := 44) (L' := [.val (.int x), .val (.int (x &&& (255 : Int32)))]) (S' := [.int (109 : Int32)]) rfl ?_
    exact Go.retC (B := B_nch) td_nch 23 rfl rfl (by decide) ⟨109, rfl, ⟨⟨by decide, by decide⟩, by decide⟩, rfl, rfl⟩ (by decide) (by decide)
  · intro (h0 : ¬ ((x &&& (255 : Int32)) = (46 : Int32)))
    refine Go.run (B := B_nch) td_nch 7 2 (pc' := 15) (L' := [.val (.int x), .val (.int (x &&& (255 : Int32)))]) (S' := [.int (59 : Int32), .int (x &&& (255 : Int32))]) rfl ?_
    refine Go.icmp (B := B_nch) td_nch 9 (pc' := 42) rfl (by decide) rfl ?_ ?_
    · intro (h1 : (x &&& (255 : Int32)) = (59 : Int32))
      refine Go.run (B := B_nch) td_nch 22 1 (pc' := 44) (L' := [.val (.int x), .val (.int (x &&& (255 : Int32)))]) (S' := [.int (109 : Int32)]) rfl ?_
      exact Go.retC (B := B_nch) td_nch 23 rfl rfl (by decide) ⟨109, rfl, ⟨⟨by decide, by decide⟩, by decide⟩, rfl, rfl⟩ (by decide) (by decide)
    · intro (h1 : ¬ ((x &&& (255 : Int32)) = (59 : Int32)))
      refine Go.run (B := B_nch) td_nch 10 2 (pc' := 21) (L' := [.val (.int x), .val (.int (x &&& (255 : Int32)))]) (S' := [.int (91 : Int32), .int (x &&& (255 : Int32))]) rfl ?_
      refine Go.icmp (B := B_nch) td_nch 12 (pc' := 42) rfl (by decide) rfl ?_ ?_
      · intro (h2 : (x &&& (255 : Int32)) = (91 : Int32))
        refine Go.run (B := B_nch) td_nch 22 1 (pc' := 44) (L' := [.val (.int x), .val (.int (x &&& (255 : Int32)))]) (S' := [.int (109 : Int32)]) rfl ?_
        exact Go.retC (B := B_nch) td_nch 23 rfl rfl (by decide) ⟨109, rfl, ⟨⟨by decide, by decide⟩, by decide⟩, rfl, rfl⟩ (by decide) (by decide)
      · intro (h2 : ¬ ((x &&& (255 : Int32)) = (91 : Int32)))
        refine Go.run (B := B_nch) td_nch 13 2 (pc' := 27) (L' := [.val (.int x), .val (.int (x &&& (255 : Int32)))]) (S' := [.int (47 : Int32), .int (x &&& (255 : Int32))]) rfl ?_
        refine Go.icmp (B := B_nch) td_nch 15 (pc' := 42) rfl (by decide) rfl ?_ ?_
        · intro (h3 : (x &&& (255 : Int32)) = (47 : Int32))
          refine Go.run (B := B_nch) td_nch 22 1 (pc' := 44) (L' := [.val (.int x), .val (.int (x &&& (255 : Int32)))]) (S' := [.int (109 : Int32)]) rfl ?_
          exact Go.retC (B := B_nch) td_nch 23 rfl rfl (by decide) ⟨109, rfl, ⟨⟨by decide, by decide⟩, by decide⟩, rfl, rfl⟩ (by decide) (by decide)
        · intro (h3 : ¬ ((x &&& (255 : Int32)) = (47 : Int32)))
          refine Go.run (B := B_nch) td_nch 16 2 (pc' := 33) (L' := [.val (.int x), .val (.int (x &&& (255 : Int32)))]) (S' := [.int (60 : Int32), .int (x &&& (255 : Int32))]) rfl ?_
          refine Go.icmp (B := B_nch) td_nch 18 (pc' := 42) rfl (by decide) rfl ?_ ?_
          · intro (h4 : (x &&& (255 : Int32)) = (60 : Int32))
            refine Go.run (B := B_nch) td_nch 22 1 (pc' := 44) (L' := [.val (.int x), .val (.int (x &&& (255 : Int32)))]) (S' := [.int (109 : Int32)]) rfl ?_
            exact Go.retC (B := B_nch) td_nch 23 rfl rfl (by decide) ⟨109, rfl, ⟨⟨by decide, by decide⟩, by decide⟩, rfl, rfl⟩ (by decide) (by decide)
          · intro (h4 : ¬ ((x &&& (255 : Int32)) = (60 : Int32)))
            refine Go.run (B := B_nch) td_nch 19 2 (pc' := 39) (L' := [.val (.int x), .val (.int (x &&& (255 : Int32)))]) (S' := [.int (62 : Int32), .int (x &&& (255 : Int32))]) rfl ?_
            refine Go.icmp (B := B_nch) td_nch 21 (pc' := 45) rfl (by decide) rfl ?_ ?_
            · intro (h5 : (x &&& (255 : Int32)) ≠ (62 : Int32))
              refine Go.run (B := B_nch) td_nch 24 2 (pc' := 47) (L' := [.val (.int x), .val (.int (x &&& (255 : Int32)))]) (S' := [.int (chr16 (x &&& (255 : Int32)))]) rfl ?_
              rw [chr_and]
              exact Go.retC (B := B_nch) td_nch 26 rfl rfl (chr_and x) ⟨_, rfl, ⟨⟨lat_and0 x, h0, h1, h2, h3⟩, h4, h5⟩, rfl, rfl⟩ (by decide) (by decide)
            · intro (h5 : ¬ ((x &&& (255 : Int32)) ≠ (62 : Int32)))
              refine Go.run (B := B_nch) td_nch 22 1 (pc' := 44) (L' := [.val (.int x), .val (.int (x &&& (255 : Int32)))]) (S' := [.int (109 : Int32)]) rfl ?_
              exact Go.retC (B := B_nch) td_nch 23 rfl rfl (by decide) ⟨109, rfl, ⟨⟨by decide, by decide⟩, by decide⟩, rfl, rfl⟩ (by decide) (by decide)
def tb_prm : List In1 := [(0, .ldc 7, 2), (2, .iload_n 0, 1), (3, .bipush 7, 2), (5, .iand, 1), (6, .invokevirtual 9, 3), (9, .ireturn, 1)]
set_option maxRecDepth 65536 in
theorem td_prm : Dec method_4_code tb_prm := by unfold Dec; decide +kernel
theorem pd_prm : parseMethodDescriptor "(I)C" = some ⟨[.int], (some .char)⟩ := by decide +kernel
theorem pn_prm : plainFor (⟨"com/example/callweave/callweave/model/MethodRefEqualsPinLaw", "prim", "(I)C"⟩ : MethodName) = true := by decide +kernel
abbrev B_prm : Bx := ((⟨"com/example/callweave/callweave/model/MethodRefEqualsPinLaw", "prim", "(I)C"⟩ : MethodName), method_4_code, 1, (Option.some Jvm.ClassFile.FieldType.char), ({ frames := 4, cells := 2, slots := 36, locals := 53 } : Room))
set_option maxRecDepth 65536 in
set_option maxHeartbeats 4000000 in
theorem prm_met {A : Ax} (K : Wd A) {x : Int32} {F G : List Ent} : Met A B_prm #[.int x] F G (fun v F' G' => ∃ r, v = some (.int r) ∧ Pm r ∧ F = F' ∧ G = G') := by
  refine MetW.of_go pn_prm K.ew (L := [.val (.int x)]) (fun m => rfl) ?_
  intro D _
  refine Go.ldcS (B := B_prm) td_prm 0 (n := 32) (vs := (latB [66, 67, 68, 70, 73, 74, 83, 90])) rfl (w_10 K) (strAtoms K) (by rw [show A.EL = consts_1 from K.el]; decide) K.wm (by decide +kernel) (by decide) (by decide) (by decide) (by decide) (by decide) ?_
  intro a b
  show Go A B_prm D _ 2 [.val (.int x)] [.ref a] F (StrE A a b 0 :: (b, ArrP A .byte (latB [66, 67, 68, 70, 73, 74, 83, 90])) :: G) 2 36
  refine Go.run (B := B_prm) td_prm 1 3 (pc' := 6) (L' := [.val (.int x)]) (S' := [.int (x &&& (7 : Int32)), .ref a]) rfl ?_
  have hk := c_and x (7 : Int32) (by decide)
  have h7 : (7 : Int32).toInt = 7 := by decide
  have hL : StrL A (StrE A a b 0 :: (b, ArrP A .byte (latB [66, 67, 68, 70, 73, 74, 83, 90])) :: G) a [66, 67, 68, 70, 73, 74, 83, 90] := StrL.of (by decide) (List.mem_of_getElem? (i := 0) rfl) (List.mem_of_getElem? (i := 1) rfl)
  generalize x &&& (7 : Int32) = k at hk ⊢
  rcases eig (k := k) hk.1 (by omega) with rfl | rfl | rfl | rfl | rfl | rfl | rfl | rfl
  · show Go A B_prm D _ 6 [.val (.int x)] [.int (0 : Int32), .ref a] F (StrE A a b 0 :: (b, ArrP A .byte (latB [66, 67, 68, 70, 73, 74, 83, 90])) :: G) 2 36
    refine Go.callV (B := B_prm) td_prm 4 (B' := B_cha) (C := "java/lang/String") (a := a) (argsL := [.int (0 : Int32)]) (rest := []) (W := 0) rfl (chaR_met K (pre := []) (suf := [67, 68, 70, 73, 74, 83, 90]) (c := 66) rfl rfl (by decide) hL) (Or.inr (List.mem_of_getElem? (i := 0) rfl)) (fun c P => P.1) (w_18 K) (w_19 K) (w_20 K) (w_21 K) (w_21 K) (w_11 K) (w_22 K) (by decide) pd_cha rfl rfl rfl rfl (Nat.le_of_eq rfl) (by decide) (by decide) (by decide) (by decide) ?_
    rintro _ _ _ ⟨rfl, rfl, rfl⟩
    show Go A B_prm D _ 9 [.val (.int x)] [.int (66 : Int32)] F (StrE A a b 0 :: (b, ArrP A .byte (latB [66, 67, 68, 70, 73, 74, 83, 90])) :: G) 2 36
    refine Go.gsub (G' := G) (fun q h => .tail _ (.tail _ h)) ?_
    exact Go.retC (B := B_prm) td_prm 5 rfl rfl (by decide) ⟨66, rfl, (by decide : (66 : Int32) = 66 ∨ (66 : Int32) = 67 ∨ (66 : Int32) = 68 ∨ (66 : Int32) = 70 ∨ (66 : Int32) = 73 ∨ (66 : Int32) = 74 ∨ (66 : Int32) = 83 ∨ (66 : Int32) = 90), rfl, rfl⟩ (by decide) (by decide)
  · show Go A B_prm D _ 6 [.val (.int x)] [.int (1 : Int32), .ref a] F (StrE A a b 0 :: (b, ArrP A .byte (latB [66, 67, 68, 70, 73, 74, 83, 90])) :: G) 2 36
    refine Go.callV (B := B_prm) td_prm 4 (B' := B_cha) (C := "java/lang/String") (a := a) (argsL := [.int (1 : Int32)]) (rest := []) (W := 0) rfl (chaR_met K (pre := [66]) (suf := [68, 70, 73, 74, 83, 90]) (c := 67) rfl rfl (by decide) hL) (Or.inr (List.mem_of_getElem? (i := 0) rfl)) (fun c P => P.1) (w_18 K) (w_19 K) (w_20 K) (w_21 K) (w_21 K) (w_11 K) (w_22 K) (by decide) pd_cha rfl rfl rfl rfl (Nat.le_of_eq rfl) (by decide) (by decide) (by decide) (by decide) ?_
    rintro _ _ _ ⟨rfl, rfl, rfl⟩
    show Go A B_prm D _ 9 [.val (.int x)] [.int (67 : Int32)] F (StrE A a b 0 :: (b, ArrP A .byte (latB [66, 67, 68, 70, 73, 74, 83, 90])) :: G) 2 36
    refine Go.gsub (G' := G) (fun q h => .tail _ (.tail _ h)) ?_
    exact Go.retC (B := B_prm) td_prm 5 rfl rfl (by decide) ⟨67, rfl, (by decide : (67 : Int32) = 66 ∨ (67 : Int32) = 67 ∨ (67 : Int32) = 68 ∨ (67 : Int32) = 70 ∨ (67 : Int32) = 73 ∨ (67 : Int32) = 74 ∨ (67 : Int32) = 83 ∨ (67 : Int32) = 90), rfl, rfl⟩ (by decide) (by decide)
  · show Go A B_prm D _ 6 [.val (.int x)] [.int (2 : Int32), .ref a] F (StrE A a b 0 :: (b, ArrP A .byte (latB [66, 67, 68, 70, 73, 74, 83, 90])) :: G) 2 36
    refine Go.callV (B := B_prm) td_prm 4 (B' := B_cha) (C := "java/lang/String") (a := a) (argsL := [.int (2 : Int32)]) (rest := []) (W := 0) rfl (chaR_met K (pre := [66, 67]) (suf := [70, 73, 74, 83, 90]) (c := 68) rfl rfl (by decide) hL) (Or.inr (List.mem_of_getElem? (i := 0) rfl)) (fun c P => P.1) (w_18 K) (w_19 K) (w_20 K) (w_21 K) (w_21 K) (w_11 K) (w_22 K) (by decide) pd_cha rfl rfl rfl rfl (Nat.le_of_eq rfl) (by decide) (by decide) (by decide) (by decide) ?_
    rintro _ _ _ ⟨rfl, rfl, rfl⟩
    show Go A B_prm D _ 9 [.val (.int x)] [.int (68 : Int32)] F (StrE A a b 0 :: (b, ArrP A .byte (latB [66, 67, 68, 70, 73, 74, 83, 90])) :: G) 2 36
    refine Go.gsub (G' := G) (fun q h => .tail _ (.tail _ h)) ?_
    exact Go.retC (B := B_prm) td_prm 5 rfl rfl (by decide) ⟨68, rfl, (by decide : (68 : Int32) = 66 ∨ (68 : Int32) = 67 ∨ (68 : Int32) = 68 ∨ (68 : Int32) = 70 ∨ (68 : Int32) = 73 ∨ (68 : Int32) = 74 ∨ (68 : Int32) = 83 ∨ (68 : Int32) = 90), rfl, rfl⟩ (by decide) (by decide)
  · show Go A B_prm D _ 6 [.val (.int x)] [.int (3 : Int32), .ref a] F (StrE A a b 0 :: (b, ArrP A .byte (latB [66, 67, 68, 70, 73, 74, 83, 90])) :: G) 2 36
    refine Go.callV (B := B_prm) td_prm 4 (B' := B_cha) (C := "java/lang/String") (a := a) (argsL := [.int (3 : Int32)]) (rest := []) (W := 0) rfl (chaR_met K (pre := [66, 67, 68]) (suf := [73, 74, 83, 90]) (c := 70) rfl rfl (by decide) hL) (Or.inr (List.mem_of_getElem? (i := 0) rfl)) (fun c P => P.1) (w_18 K) (w_19 K) (w_20 K) (w_21 K) (w_21 K) (w_11 K) (w_22 K) (by decide) pd_cha rfl rfl rfl rfl (Nat.le_of_eq rfl) (by decide) (by decide) (by decide) (by decide) ?_
    rintro _ _ _ ⟨rfl, rfl, rfl⟩
    show Go A B_prm D _ 9 [.val (.int x)] [.int (70 : Int32)] F (StrE A a b 0 :: (b, ArrP A .byte (latB [66, 67, 68, 70, 73, 74, 83, 90])) :: G) 2 36
    refine Go.gsub (G' := G) (fun q h => .tail _ (.tail _ h)) ?_
    exact Go.retC (B := B_prm) td_prm 5 rfl rfl (by decide) ⟨70, rfl, (by decide : (70 : Int32) = 66 ∨ (70 : Int32) = 67 ∨ (70 : Int32) = 68 ∨ (70 : Int32) = 70 ∨ (70 : Int32) = 73 ∨ (70 : Int32) = 74 ∨ (70 : Int32) = 83 ∨ (70 : Int32) = 90), rfl, rfl⟩ (by decide) (by decide)
  · show Go A B_prm D _ 6 [.val (.int x)] [.int (4 : Int32), .ref a] F (StrE A a b 0 :: (b, ArrP A .byte (latB [66, 67, 68, 70, 73, 74, 83, 90])) :: G) 2 36
    refine Go.callV (B := B_prm) td_prm 4 (B' := B_cha) (C := "java/lang/String") (a := a) (argsL := [.int (4 : Int32)]) (rest := []) (W := 0) rfl (chaR_met K (pre := [66, 67, 68, 70]) (suf := [74, 83, 90]) (c := 73) rfl rfl (by decide) hL) (Or.inr (List.mem_of_getElem? (i := 0) rfl)) (fun c P => P.1) (w_18 K) (w_19 K) (w_20 K) (w_21 K) (w_21 K) (w_11 K) (w_22 K) (by decide) pd_cha rfl rfl rfl rfl (Nat.le_of_eq rfl) (by decide) (by decide) (by decide) (by decide) ?_
    rintro _ _ _ ⟨rfl, rfl, rfl⟩
    show Go A B_prm D _ 9 [.val (.int x)] [.int (73 : Int32)] F (StrE A a b 0 :: (b, ArrP A .byte (latB [66, 67, 68, 70, 73, 74, 83, 90])) :: G) 2 36
    refine Go.gsub (G' := G) (fun q h => .tail _ (.tail _ h)) ?_
    exact Go.retC (B := B_prm) td_prm 5 rfl rfl (by decide) ⟨73, rfl, (by decide : (73 : Int32) = 66 ∨ (73 : Int32) = 67 ∨ (73 : Int32) = 68 ∨ (73 : Int32) = 70 ∨ (73 : Int32) = 73 ∨ (73 : Int32) = 74 ∨ (73 : Int32) = 83 ∨ (73 : Int32) = 90), rfl, rfl⟩ (by decide) (by decide)
  · show Go A B_prm D _ 6 [.val (.int x)] [.int (5 : Int32), .ref a] F (StrE A a b 0 :: (b, ArrP A .byte (latB [66, 67, 68, 70, 73, 74, 83, 90])) :: G) 2 36
    refine Go.callV (B := B_prm) td_prm 4 (B' := B_cha) (C := "java/lang/String") (a := a) (argsL := [.int (5 : Int32)]) (rest := []) (W := 0) rfl (chaR_met K (pre := [66, 67, 68, 70, 73]) (suf := [83, 90]) (c := 74) rfl rfl (by decide) hL) (Or.inr (List.mem_of_getElem? (i := 0) rfl)) (fun c P => P.1) (w_18 K) (w_19 K) (w_20 K) (w_21 K) (w_21 K) (w_11 K) (w_22 K) (by decide) pd_cha rfl rfl rfl rfl (Nat.le_of_eq rfl) (by decide) (by decide) (by decide) (by decide) ?_
    rintro _ _ _ ⟨rfl, rfl, rfl⟩
    show Go A B_prm D _ 9 [.val (.int x)] [.int (74 : Int32)] F (StrE A a b 0 :: (b, ArrP A .byte (latB [66, 67, 68, 70, 73, 74, 83, 90])) :: G) 2 36
    refine Go.gsub (G' := G) (fun q h => .tail _ (.tail _ h)) ?_
    exact Go.retC (B := B_prm) td_prm 5 rfl rfl (by decide) ⟨74, rfl, (by decide : (74 : Int32) = 66 ∨ (74 : Int32) = 67 ∨ (74 : Int32) = 68 ∨ (74 : Int32) = 70 ∨ (74 : Int32) = 73 ∨ (74 : Int32) = 74 ∨ (74 : Int32) = 83 ∨ (74 : Int32) = 90), rfl, rfl⟩ (by decide) (by decide)
  · show Go A B_prm D _ 6 [.val (.int x)] [.int (6 : Int32), .ref a] F (StrE A a b 0 :: (b, ArrP A .byte (latB [66, 67, 68, 70, 73, 74, 83, 90])) :: G) 2 36
    refine Go.callV (B := B_prm) td_prm 4 (B' := B_cha) (C := "java/lang/String") (a := a) (argsL := [.int (6 : Int32)]) (rest := []) (W := 0) rfl (chaR_met K (pre := [66, 67, 68, 70, 73, 74]) (suf := [90]) (c := 83) rfl rfl (by decide) hL) (Or.inr (List.mem_of_getElem? (i := 0) rfl)) (fun c P => P.1) (w_18 K) (w_19 K) (w_20 K) (w_21 K) (w_21 K) (w_11 K) (w_22 K) (by decide) pd_cha rfl rfl rfl rfl (Nat.le_of_eq rfl) (by decide) (by decide) (by decide) (by decide) ?_
    rintro _ _ _ ⟨rfl, rfl, rfl⟩
    show Go A B_prm D _ 9 [.val (.int x)] [.int (83 : Int32)] F (StrE A a b 0 :: (b, ArrP A .byte (latB [66, 67, 68, 70, 73, 74, 83, 90])) :: G) 2 36
    refine Go.gsub (G' := G) (fun q h => .tail _ (.tail _ h)) ?_
    exact Go.retC (B := B_prm) td_prm 5 rfl rfl (by decide) ⟨83, rfl, (by decide : (83 : Int32) = 66 ∨ (83 : Int32) = 67 ∨ (83 : Int32) = 68 ∨ (83 : Int32) = 70 ∨ (83 : Int32) = 73 ∨ (83 : Int32) = 74 ∨ (83 : Int32) = 83 ∨ (83 : Int32) = 90), rfl, rfl⟩ (by decide) (by decide)
  · show Go A B_prm D _ 6 [.val (.int x)] [.int (7 : Int32), .ref a] F (StrE A a b 0 :: (b, ArrP A .byte (latB [66, 67, 68, 70, 73, 74, 83, 90])) :: G) 2 36
    refine Go.callV (B := B_prm) td_prm 4 (B' := B_cha) (C := "java/lang/String") (a := a) (argsL := [.int (7 : Int32)]) (rest := []) (W := 0) rfl (chaR_met K (pre := [66, 67, 68, 70, 73, 74, 83]) (suf := []) (c := 90) rfl rfl (by decide) hL) (Or.inr (List.mem_of_getElem? (i := 0) rfl)) (fun c P => P.1) (w_18 K) (w_19 K) (w_20 K) (w_21 K) (w_21 K) (w_11 K) (w_22 K) (by decide) pd_cha rfl rfl rfl rfl (Nat.le_of_eq rfl) (by decide) (by decide) (by decide) (by decide) ?_
    rintro _ _ _ ⟨rfl, rfl, rfl⟩
    show Go A B_prm D _ 9 [.val (.int x)] [.int (90 : Int32)] F (StrE A a b 0 :: (b, ArrP A .byte (latB [66, 67, 68, 70, 73, 74, 83, 90])) :: G) 2 36
    refine Go.gsub (G' := G) (fun q h => .tail _ (.tail _ h)) ?_
    exact Go.retC (B := B_prm) td_prm 5 rfl rfl (by decide) ⟨90, rfl, (by decide : (90 : Int32) = 66 ∨ (90 : Int32) = 67 ∨ (90 : Int32) = 68 ∨ (90 : Int32) = 70 ∨ (90 : Int32) = 73 ∨ (90 : Int32) = 74 ∨ (90 : Int32) = 83 ∨ (90 : Int32) = 90), rfl, rfl⟩ (by decide) (by decide)
def tb_cnc : List In1 := [(0, .iload_n 0, 1), (1, .sipush 255, 3), (4, .if_icmp .gt 7, 3), (7, .iconst 1, 1), (8, .goto 4, 3), (11, .iconst 0, 1), (12, .ireturn, 1)]
set_option maxRecDepth 65536 in
theorem td_cnc : Dec jdk_43_method_3_code tb_cnc := by unfold Dec; decide +kernel
theorem pd_cnc : parseMethodDescriptor "(C)Z" = some ⟨[.char], (some .boolean)⟩ := by decide +kernel
theorem pn_cnc : plainFor (⟨"java/lang/StringLatin1", "canEncode", "(C)Z"⟩ : MethodName) = true := by decide +kernel
abbrev B_cnc : Bx := ((⟨"java/lang/StringLatin1", "canEncode", "(C)Z"⟩ : MethodName), jdk_43_method_3_code, 1, (Option.some Jvm.ClassFile.FieldType.boolean), ({ frames := 0, cells := 0, slots := 0, locals := 0 } : Room))
set_option maxRecDepth 65536 in
set_option maxHeartbeats 4000000 in
theorem cnc_met {A : Ax} (K : Wd A) {c : Int32} (hc : c.toInt < 256) {F G : List Ent} : Met A B_cnc #[.int c] F G (fun v F' G' => v = some (.int 1) ∧ F = F' ∧ G = G') := by
  refine MetW.of_go pn_cnc K.ew (L := [.val (.int c)]) (fun m => rfl) ?_
  intro D _
  refine Go.run (B := B_cnc) td_cnc 0 2 (pc' := 4) (L' := [.val (.int c)]) (S' := [.int (255 : Int32), .int c]) rfl ?_
  refine Go.icmp (B := B_cnc) td_cnc 2 (pc' := 11) rfl (by decide) rfl (fun (h : c > (255 : Int32)) => absurd h (fun z => absurd (i32_lt.mp z) (by have : (255 : Int32).toInt = 255 := rfl; omega))) (fun _ => ?_)
  refine Go.run (B := B_cnc) td_cnc 3 2 (pc' := 12) (L' := [.val (.int c)]) (S' := [.int (1 : Int32)]) rfl ?_
  exact Go.retZ (B := B_cnc) td_cnc 6 rfl rfl rfl ⟨rfl, rfl, rfl⟩ (by decide) (by decide)
def tb_ltb : List In1 := [(0, .iconst 1, 1), (1, .newarray .byte, 2), (3, .dup, 1), (4, .iconst 0, 1), (5, .iload_n 0, 1), (6, .i2b, 1), (7, .bastore, 1), (8, .areturn, 1)]
set_option maxRecDepth 65536 in
theorem td_ltb : Dec jdk_43_method_46_code tb_ltb := by unfold Dec; decide +kernel
theorem pd_ltb : parseMethodDescriptor "(C)[B" = some ⟨[.char], (some (.array .byte))⟩ := by decide +kernel
theorem pn_ltb : plainFor (⟨"java/lang/StringLatin1", "toBytes", "(C)[B"⟩ : MethodName) = true := by decide +kernel
abbrev B_ltb : Bx := ((⟨"java/lang/StringLatin1", "toBytes", "(C)[B"⟩ : MethodName), jdk_43_method_46_code, 1, (Option.some (Jvm.ClassFile.FieldType.array Jvm.ClassFile.FieldType.byte)), ({ frames := 0, cells := 1, slots := 1, locals := 0 } : Room))
set_option maxRecDepth 65536 in
set_option maxHeartbeats 4000000 in
theorem ltb_met {A : Ax} (K : Wd A) {c : Int32} {F G : List Ent} : Met A B_ltb #[.int c] F G (fun v F' G' => ∃ b, v = some (.ref b) ∧ (b, ArrP A .byte (latB [c])) :: F = F' ∧ G = G') := by
  refine MetW.of_go pn_ltb K.ew (L := [.val (.int c)]) (fun m => rfl) ?_
  intro D _
  refine Go.run (B := B_ltb) td_ltb 0 1 (pc' := 1) (L' := [.val (.int c)]) (S' := [.int (1 : Int32)]) rfl ?_
  refine Go.newarray (B := B_ltb) td_ltb 1 (ty := .byte) (cap := 1) (vs := [.int 0]) rfl rfl (w_13 K) (by decide) (by decide) (by decide) (by decide) (by decide) rfl ?_
  intro b
  show Go A B_ltb D _ 3 [.val (.int c)] [.ref b] ((b, ArrP A .byte [.int 0]) :: F) G 1 1
  refine Go.run (B := B_ltb) td_ltb 2 4 (pc' := 7) (L' := [.val (.int c)]) (S' := [.int (byt8 c), .int (0 : Int32), .ref b, .ref b]) rfl ?_
  refine Go.bastore (B := B_ltb) td_ltb 6 (vs' := (latB [c])) rfl (own_inB 1 rfl (by decide)) (by rw [byt8_byt8]; rfl) ?_
  exact Go.retA (B := B_ltb) td_ltb 7 rfl rfl rfl rfl ⟨b, rfl, rfl, rfl⟩ (by decide) (by decide)
def tb_sib : List In1 := [(0, .aload_n 0, 1), (1, .invokespecial 1, 3), (4, .aload_n 0, 1), (5, .aload_n 1, 1), (6, .putfield 9, 3), (9, .aload_n 0, 1), (10, .iload_n 2, 1), (11, .putfield 15, 3), (14, .return_, 1)]
set_option maxRecDepth 65536 in
theorem td_sib : Dec jdk_42_method_151_code tb_sib := by unfold Dec; decide +kernel
theorem pd_sib : parseMethodDescriptor "([BB)V" = some ⟨[(.array .byte), .byte], none⟩ := by decide +kernel
theorem pn_sib : plainFor (⟨"java/lang/String", "<init>", "([BB)V"⟩ : MethodName) = true := by decide +kernel
abbrev B_sib : Bx := ((⟨"java/lang/String", "<init>", "([BB)V"⟩ : MethodName), jdk_42_method_151_code, 3, (Option.none : Option Jvm.ClassFile.FieldType), ({ frames := 1, cells := 0, slots := 0, locals := 12 } : Room))
set_option maxRecDepth 65536 in
set_option maxHeartbeats 4000000 in
theorem sib_met {A : Ax} (K : Wd A) {s b : Addr} {F G : List Ent} : Met A B_sib #[.ref s, .ref b, .int (0 : Int32)] ((s, ObjP A "java/lang/String" [("java/lang/String", "value", "[B", .null), ("java/lang/String", "coder", "B", .int (0 : Int32))]) :: F) G (fun v F' G' => v = none ∧ StrE A s b 0 :: F = F' ∧ G = G') := by
  refine MetW.of_go pn_sib K.ew (L := [.val (.ref s), .val (.ref b), .val (.int (0 : Int32))]) (fun m => rfl) ?_
  intro D _
  refine Go.run (B := B_sib) td_sib 0 1 (pc' := 1) (L' := [.val (.ref s), .val (.ref b), .val (.int (0 : Int32))]) (S' := [.ref s]) rfl ?_
  refine Go.initObject (B := B_sib) td_sib 1 (W := 0) rfl (w_55 K) (w_56 K) (w_57 K) rfl (by decide) (Nat.le_of_eq rfl) (by decide) ?_
  refine Go.run (B := B_sib) td_sib 2 2 (pc' := 6) (L' := [.val (.ref s), .val (.ref b), .val (.int (0 : Int32))]) (S' := [.ref b, .ref s]) rfl ?_
  refine Go.putfield (B := B_sib) td_sib 4 (fs' := [("java/lang/String", "value", "[B", .ref b), ("java/lang/String", "coder", "B", .int (0 : Int32))]) rfl (w_30 K) (Or.inr ⟨(w_14 K), rfl, rfl⟩) (w_12 K) rfl rfl rfl (List.mem_of_getElem? (i := 0) rfl) (own_fs 0 (ns := ["coder"]) rfl (by decide) rfl) ?_
  refine Go.run (B := B_sib) td_sib 5 2 (pc' := 11) (L' := [.val (.ref s), .val (.ref b), .val (.int (0 : Int32))]) (S' := [.int (0 : Int32), .ref s]) rfl ?_
  refine Go.putfield (B := B_sib) td_sib 7 (fs' := [("java/lang/String", "value", "[B", .ref b), ("java/lang/String", "coder", "B", .int (0 : Int32))]) rfl (w_29 K) (Or.inr ⟨(w_15 K), rfl, rfl⟩) (w_12 K) rfl rfl rfl (List.mem_of_getElem? (i := 1) rfl) (own_fs 1 (ns := ["value"]) rfl (by decide) rfl) ?_
  exact Go.retV (B := B_sib) td_sib 8 rfl rfl ⟨rfl, rfl, rfl⟩ (by decide) (by decide)
def tb_vof : List In1 := [(0, .getstatic 38, 3), (3, .ifCond .eq 23, 3), (6, .iload_n 0, 1), (7, .invokestatic 1015, 3), (10, .ifCond .eq 16, 3), (13, .new 10, 3), (16, .dup, 1), (17, .iload_n 0, 1), (18, .invokestatic 1018, 3), (21, .iconst 0, 1), (22, .invokespecial 209, 3), (25, .areturn, 1), (26, .new 10, 3), (29, .dup, 1), (30, .iload_n 0, 1), (31, .invokestatic 1021, 3), (34, .iconst 1, 1), (35, .invokespecial 209, 3), (38, .areturn, 1)]
set_option maxRecDepth 65536 in
theorem td_vof : Dec jdk_42_method_139_code tb_vof := by unfold Dec; decide +kernel
theorem pd_vof : parseMethodDescriptor "(C)Ljava/lang/String;" = some ⟨[.char], (some (.object "java/lang/String"))⟩ := by decide +kernel
theorem pn_vof : plainFor (⟨"java/lang/String", "valueOf", "(C)Ljava/lang/String;"⟩ : MethodName) = true := by decide +kernel
abbrev B_vof : Bx := ((⟨"java/lang/String", "valueOf", "(C)Ljava/lang/String;"⟩ : MethodName), jdk_42_method_139_code, 1, (Option.some (Jvm.ClassFile.FieldType.object "java/lang/String")), ({ frames := 2, cells := 2, slots := 5, locals := 27 } : Room))
set_option maxRecDepth 65536 in
set_option maxHeartbeats 4000000 in
theorem vof_met {A : Ax} (K : Wd A) {c : Int32} (hc : 0 ≤ c.toInt ∧ c.toInt < 256) {F G : List Ent} : Met A B_vof #[.int c] F G (fun v F' G' => ∃ s q1 q2, v = some (.ref s) ∧ F = F' ∧ q1 :: q2 :: G = G' ∧ StrL A (q1 :: q2 :: G) s [c]) := by
  refine MetW.of_go pn_vof K.ew (L := [.val (.int c)]) (fun m => rfl) ?_
  intro D _
  obtain ⟨z, nz, hz⟩ := K.cmpt
  refine Go.getstatic (B := B_vof) td_vof 0 rfl (w_28 K) hz ?_
  refine Go.if0 (B := B_vof) td_vof 1 (pc' := 26) rfl (by decide) rfl (fun (h : z = 0) => absurd h nz) (fun _ => ?_)
  refine Go.run (B := B_vof) td_vof 2 1 (pc' := 7) (L' := [.val (.int c)]) (S' := [.int c]) rfl ?_
  refine Go.callS (B := B_vof) td_vof 3 (B' := B_cnc) (argsL := [.int c]) (rest := []) (W := 0) rfl (cnc_met K hc.2) (w_171 K) (w_172 K) (w_33 K) (w_173 K) (by decide) pd_cnc rfl rfl rfl rfl (Nat.le_of_eq rfl) (by decide) (by decide) (by decide) (by decide) ?_
  rintro _ _ _ ⟨rfl, rfl, rfl⟩
  show Go A B_vof D _ 10 [.val (.int c)] [.int (1 : Int32)] F G 0 0
  refine Go.if0 (B := B_vof) td_vof 4 (pc' := 26) rfl (by decide) rfl (fun (h : (1 : Int32) = 0) => absurd h (by decide)) (fun _ => ?_)
  refine Go.new (B := B_vof) td_vof 5 (fs := [("java/lang/String", "value", "[B", .null), ("java/lang/String", "coder", "B", .int (0 : Int32))]) rfl (w_119 K) (w_12 K) (w_11 K) (own_layS (Or.inr (w_14 K)) rfl rfl (own_layS (Or.inr (w_15 K)) rfl rfl own_lay0)) (by decide) (by decide) ?_
  intro s
  show Go A B_vof D _ 16 [.val (.int c)] [.ref s] ((s, ObjP A "java/lang/String" [("java/lang/String", "value", "[B", .null), ("java/lang/String", "coder", "B", .int (0 : Int32))]) :: F) G 1 4
  refine Go.run (B := B_vof) td_vof 6 2 (pc' := 18) (L' := [.val (.int c)]) (S' := [.int c, .ref s, .ref s]) rfl ?_
  refine Go.callS (B := B_vof) td_vof 8 (B' := B_ltb) (argsL := [.int c]) (rest := [.ref s, .ref s]) (W := 2) rfl (ltb_met K) (w_174 K) (w_175 K) (w_33 K) (w_176 K) (by decide) pd_ltb rfl rfl rfl rfl (Nat.le_of_eq rfl) (by decide) (by decide) (by decide) (by decide) ?_
  rintro _ _ _ ⟨b, rfl, rfl, rfl⟩
  show Go A B_vof D _ 21 [.val (.int c)] [.ref b, .ref s, .ref s] ((b, ArrP A .byte (latB [c])) :: (s, ObjP A "java/lang/String" [("java/lang/String", "value", "[B", .null), ("java/lang/String", "coder", "B", .int (0 : Int32))]) :: F) G 2 5
  refine Go.run (B := B_vof) td_vof 9 1 (pc' := 22) (L' := [.val (.int c)]) (S' := [.int (0 : Int32), .ref b, .ref s, .ref s]) rfl ?_
  refine Go.front 1 (F' := ((s, ObjP A "java/lang/String" [("java/lang/String", "value", "[B", .null), ("java/lang/String", "coder", "B", .int (0 : Int32))]) :: (b, ArrP A .byte (latB [c])) :: F)) rfl rfl ?_
  refine Go.callN (B := B_vof) td_vof 10 (B' := B_sib) (a := s) (argsL := [.ref b, .int (0 : Int32)]) (rest := [.ref s]) (W := 1) rfl (sib_met K) rfl rfl (w_177 K) (w_178 K) (w_11 K) (w_179 K) (by decide) pd_sib rfl rfl rfl rfl (Nat.le_of_eq rfl) (by decide) (by decide) (by decide) (by decide) ?_
  rintro _ _ _ ⟨rfl, rfl, rfl⟩
  show Go A B_vof D _ 25 [.val (.int c)] [.ref s] (StrE A s b 0 :: (b, ArrP A .byte (latB [c])) :: F) G 2 5
  refine Go.front 1 (F' := ((b, ArrP A .byte (latB [c])) :: StrE A s b 0 :: F)) rfl rfl ?_
  refine Go.freeze ?_
  refine Go.freeze ?_
  exact Go.retA (B := B_vof) td_vof 11 rfl rfl rfl rfl ⟨s, _, _, rfl, rfl, rfl, StrL.of (lat1 hc) (List.mem_of_getElem? (i := 0) rfl) (List.mem_of_getElem? (i := 1) rfl)⟩ (by decide) (by decide)
--CUT
def tb_icn : List In1 := [(0, .iload_n 1, 1), (1, .istore_n 3, 1), (2, .iload_n 1, 1), (3, .istore 4, 2), (5, .iload 4, 2), (7, .iload_n 2, 1), (8, .if_icmp .ge 63, 3), (11, .aload_n 0, 1), (12, .iload 4, 2), (14, .invokevirtual 78, 3), (17, .istore 5, 2), (19, .iload 5, 2), (21, .bipush 47, 2), (23, .if_icmp .ne 19, 3), (26, .iload 4, 2), (28, .iload_n 3, 1), (29, .if_icmp .ne 5, 3), (32, .iconst 0, 1), (33, .ireturn, 1), (34, .iload 4, 2), (36, .iconst 1, 1), (37, .iadd, 1), (38, .istore_n 3, 1), (39, .goto 26, 3), (42, .iload 5, 2), (44, .bipush 46, 2), (46, .if_icmp .eq 17, 3), (49, .iload 5, 2), (51, .bipush 59, 2), (53, .if_icmp .eq 10, 3), (56, .iload 5, 2), (58, .bipush 91, 2), (60, .if_icmp .ne 5, 3), (63, .iconst 0, 1), (64, .ireturn, 1), (65, .iinc 4 1, 3), (68, .goto (-63), 3), (71, .iload_n 2, 1), (72, .iload_n 3, 1), (73, .if_icmp .le 7, 3), (76, .iconst 1, 1), (77, .goto 4, 3), (80, .iconst 0, 1), (81, .ireturn, 1)]
set_option maxRecDepth 65536 in
theorem td_icn : Dec prog_19_method_17_code tb_icn := by unfold Dec; decide +kernel
theorem pd_icn : parseMethodDescriptor "(Ljava/lang/String;II)Z" = some ⟨[(.object "java/lang/String"), .int, .int], (some .boolean)⟩ := by decide +kernel
theorem pn_icn : plainFor (⟨"com/example/callweave/callweave/model/JvmNames", "isClassName", "(Ljava/lang/String;II)Z"⟩ : MethodName) = true := by decide +kernel
abbrev B_icn : Bx := ((⟨"com/example/callweave/callweave/model/JvmNames", "isClassName", "(Ljava/lang/String;II)Z"⟩ : MethodName), prog_19_method_17_code, 6, (Option.some Jvm.ClassFile.FieldType.boolean), ({ frames := 4, cells := 0, slots := 0, locals := 53 } : Room))
set_option maxRecDepth 65536 in
set_option maxHeartbeats 4000000 in
theorem icn_met {A : Ax} (K : Wd A) {s : Addr} {x : Int32} (hx : Sf x) {F G : List Ent} (m : StrL A G s [x]) : Met A B_icn #[.ref s, .int (0 : Int32), .int (1 : Int32)] F G (fun v F' G' => v = some (.int 1) ∧ F = F' ∧ G = G') := by
  refine MetW.of_go pn_icn K.ew (L := [.val (.ref s), .val (.int (0 : Int32)), .val (.int (1 : Int32)), .unset, .unset, .unset]) (fun m => rfl) ?_
  intro D _
  obtain ⟨bS, cdS, hm⟩ := m.obj
  refine Go.run (B := B_icn) td_icn 0 6 (pc' := 8) (L' := [.val (.ref s), .val (.int (0 : Int32)), .val (.int (1 : Int32)), .val (.int (0 : Int32)), .val (.int (0 : Int32)), .unset]) (S' := [.int (1 : Int32), .int (0 : Int32)]) rfl ?_
  refine Go.icmp (B := B_icn) td_icn 6 (pc' := 71) rfl (by decide) rfl (fun (h : (0 : Int32) ≥ (1 : Int32)) => absurd h (by decide)) (fun _ => ?_)
  refine Go.run (B := B_icn) td_icn 7 2 (pc' := 14) (L' := [.val (.ref s), .val (.int (0 : Int32)), .val (.int (1 : Int32)), .val (.int (0 : Int32)), .val (.int (0 : Int32)), .unset]) (S' := [.int (0 : Int32), .ref s]) rfl ?_
  refine Go.callV (B := B_icn) td_icn 9 (B' := B_cha) (C := "java/lang/String") (a := s) (argsL := [.int (0 : Int32)]) (rest := []) (W := 0) rfl (chaR_met K (pre := []) (suf := []) (c := x) rfl rfl (by exact own_le rfl) m) (Or.inr hm) (fun c P => P.1) (w_102 K) (w_19 K) (w_20 K) (w_21 K) (w_21 K) (w_11 K) (w_22 K) (by decide) pd_cha rfl rfl rfl rfl (Nat.le_of_eq rfl) (by decide) (by decide) (by decide) (by decide) ?_
  rintro _ _ _ ⟨rfl, rfl, rfl⟩
  show Go A B_icn D _ 17 [.val (.ref s), .val (.int (0 : Int32)), .val (.int (1 : Int32)), .val (.int (0 : Int32)), .val (.int (0 : Int32)), .unset] [.int x] F G 0 0
  refine Go.run (B := B_icn) td_icn 10 3 (pc' := 23) (L' := [.val (.ref s), .val (.int (0 : Int32)), .val (.int (1 : Int32)), .val (.int (0 : Int32)), .val (.int (0 : Int32)), .val (.int x)]) (S' := [.int (47 : Int32), .int x]) rfl ?_
  refine Go.icmp (B := B_icn) td_icn 13 (pc' := 42) rfl (by decide) rfl (fun _ => ?_) (fun (h : ¬ (x ≠ (47 : Int32))) => absurd hx.2.2.2.2 h)
  refine Go.run (B := B_icn) td_icn 24 2 (pc' := 46) (L' := [.val (.ref s), .val (.int (0 : Int32)), .val (.int (1 : Int32)), .val (.int (0 : Int32)), .val (.int (0 : Int32)), .val (.int x)]) (S' := [.int (46 : Int32), .int x]) rfl ?_
  refine Go.icmp (B := B_icn) td_icn 26 (pc' := 63) rfl (by decide) rfl (fun (h : x = (46 : Int32)) => absurd h hx.2.1) (fun _ => ?_)
  refine Go.run (B := B_icn) td_icn 27 2 (pc' := 53) (L' := [.val (.ref s), .val (.int (0 : Int32)), .val (.int (1 : Int32)), .val (.int (0 : Int32)), .val (.int (0 : Int32)), .val (.int x)]) (S' := [.int (59 : Int32), .int x]) rfl ?_
  refine Go.icmp (B := B_icn) td_icn 29 (pc' := 63) rfl (by decide) rfl (fun (h : x = (59 : Int32)) => absurd h hx.2.2.1) (fun _ => ?_)
  refine Go.run (B := B_icn) td_icn 30 2 (pc' := 60) (L' := [.val (.ref s), .val (.int (0 : Int32)), .val (.int (1 : Int32)), .val (.int (0 : Int32)), .val (.int (0 : Int32)), .val (.int x)]) (S' := [.int (91 : Int32), .int x]) rfl ?_
  refine Go.icmp (B := B_icn) td_icn 32 (pc' := 65) rfl (by decide) rfl (fun _ => ?_) (fun (h : ¬ (x ≠ (91 : Int32))) => absurd hx.2.2.2.1 h)
  refine Go.run (B := B_icn) td_icn 35 2 (pc' := 5) (L' := [.val (.ref s), .val (.int (0 : Int32)), .val (.int (1 : Int32)), .val (.int (0 : Int32)), .val (.int ((0 : Int32) + (1 : Int32))), .val (.int x)]) (S' := []) rfl ?_
  refine Go.run (B := B_icn) td_icn 4 2 (pc' := 8) (L' := [.val (.ref s), .val (.int (0 : Int32)), .val (.int (1 : Int32)), .val (.int (0 : Int32)), .val (.int ((0 : Int32) + (1 : Int32))), .val (.int x)]) (S' := [.int (1 : Int32), .int ((0 : Int32) + (1 : Int32))]) rfl ?_
  refine Go.icmp (B := B_icn) td_icn 6 (pc' := 71) rfl (by decide) rfl (fun _ => ?_) (fun (h : ¬ (((0 : Int32) + (1 : Int32)) ≥ (1 : Int32))) => absurd (by decide) h)
  refine Go.run (B := B_icn) td_icn 37 2 (pc' := 73) (L' := [.val (.ref s), .val (.int (0 : Int32)), .val (.int (1 : Int32)), .val (.int (0 : Int32)), .val (.int ((0 : Int32) + (1 : Int32))), .val (.int x)]) (S' := [.int (0 : Int32), .int (1 : Int32)]) rfl ?_
  refine Go.icmp (B := B_icn) td_icn 39 (pc' := 80) rfl (by decide) rfl (fun (h : (1 : Int32) ≤ (0 : Int32)) => absurd h (by decide)) (fun _ => ?_)
  refine Go.run (B := B_icn) td_icn 40 2 (pc' := 81) (L' := [.val (.ref s), .val (.int (0 : Int32)), .val (.int (1 : Int32)), .val (.int (0 : Int32)), .val (.int ((0 : Int32) + (1 : Int32))), .val (.int x)]) (S' := [.int (1 : Int32)]) rfl ?_
  exact Go.retZ (B := B_icn) td_icn 43 rfl rfl rfl ⟨rfl, rfl, rfl⟩ (by decide) (by decide)
def tb_icn1 : List In1 := [(0, .aload_n 0, 1), (1, .iconst 0, 1), (2, .aload_n 0, 1), (3, .invokevirtual 53, 3), (6, .invokestatic 59, 3), (9, .ireturn, 1)]
set_option maxRecDepth 65536 in
theorem td_icn1 : Dec prog_19_method_9_code tb_icn1 := by unfold Dec; decide +kernel
theorem pd_icn1 : parseMethodDescriptor "(Ljava/lang/String;)Z" = some ⟨[(.object "java/lang/String")], (some .boolean)⟩ := by decide +kernel
theorem pn_icn1 : plainFor (⟨"com/example/callweave/callweave/model/JvmNames", "isClassName", "(Ljava/lang/String;)Z"⟩ : MethodName) = true := by decide +kernel
abbrev B_icn1 : Bx := ((⟨"com/example/callweave/callweave/model/JvmNames", "isClassName", "(Ljava/lang/String;)Z"⟩ : MethodName), prog_19_method_9_code, 1, (Option.some Jvm.ClassFile.FieldType.boolean), ({ frames := 5, cells := 0, slots := 0, locals := 70 } : Room))
set_option maxRecDepth 65536 in
set_option maxHeartbeats 4000000 in
theorem icn1_met {A : Ax} (K : Wd A) {s : Addr} {x : Int32} (hx : Sf x) {F G : List Ent} (m : StrL A G s [x]) : Met A B_icn1 #[.ref s] F G (fun v F' G' => v = some (.int 1) ∧ F = F' ∧ G = G') := by
  refine MetW.of_go pn_icn1 K.ew (L := [.val (.ref s)]) (fun m => rfl) ?_
  intro D _
  obtain ⟨bS, cdS, hm⟩ := m.obj
  refine Go.run (B := B_icn1) td_icn1 0 3 (pc' := 3) (L' := [.val (.ref s)]) (S' := [.ref s, .int (0 : Int32), .ref s]) rfl ?_
  refine Go.callV (B := B_icn1) td_icn1 3 (B' := B_len) (C := "java/lang/String") (a := s) (argsL := []) (rest := [.int (0 : Int32), .ref s]) (W := 2) rfl (lenR_met K (by exact own_le rfl) m) (Or.inr hm) (fun c P => P.1) (w_89 K) (w_90 K) (w_91 K) (w_92 K) (w_92 K) (w_11 K) (w_93 K) (by decide) pd_len rfl rfl rfl rfl (Nat.le_of_eq rfl) (by decide) (by decide) (by decide) (by decide) ?_
  rintro _ _ _ ⟨rfl, rfl, rfl⟩
  show Go A B_icn1 D _ 6 [.val (.ref s)] [.int (1 : Int32), .int (0 : Int32), .ref s] F G 0 0
  refine Go.callS (B := B_icn1) td_icn1 4 (B' := B_icn) (argsL := [.ref s, .int (0 : Int32), .int (1 : Int32)]) (rest := []) (W := 0) rfl (icn_met K hx m) (w_99 K) (w_100 K) (w_84 K) (w_101 K) (by decide) pd_icn rfl rfl rfl rfl (Nat.le_of_eq rfl) (by decide) (by decide) (by decide) (by decide) ?_
  rintro _ _ _ ⟨rfl, rfl, rfl⟩
  show Go A B_icn1 D _ 9 [.val (.ref s)] [.int (1 : Int32)] F G 0 0
  exact Go.retZ (B := B_icn1) td_icn1 5 rfl rfl rfl ⟨rfl, rfl, rfl⟩ (by decide) (by decide)
def tb_rqr : List In1 := [(0, .iload_n 0, 1), (1, .ifCond .ne 18, 3), (4, .new 44, 3), (7, .dup, 1), (8, .aload_n 1, 1), (9, .aload_n 2, 1), (10, .invokedynamic 46, 5), (15, .invokespecial 50, 3), (18, .athrow, 1), (19, .aload_n 2, 1), (20, .areturn, 1)]
set_option maxRecDepth 65536 in
theorem td_rqr : Dec prog_19_method_8_code tb_rqr := by unfold Dec; decide +kernel
theorem pd_rqr : parseMethodDescriptor "(ZLjava/lang/String;Ljava/lang/String;)Ljava/lang/String;" = some ⟨[.boolean, (.object "java/lang/String"), (.object "java/lang/String")], (some (.object "java/lang/String"))⟩ := by decide +kernel
theorem pn_rqr : plainFor (⟨"com/example/callweave/callweave/model/JvmNames", "require", "(ZLjava/lang/String;Ljava/lang/String;)Ljava/lang/String;"⟩ : MethodName) = true := by decide +kernel
abbrev B_rqr : Bx := ((⟨"com/example/callweave/callweave/model/JvmNames", "require", "(ZLjava/lang/String;Ljava/lang/String;)Ljava/lang/String;"⟩ : MethodName), prog_19_method_8_code, 3, (Option.some (Jvm.ClassFile.FieldType.object "java/lang/String")), ({ frames := 0, cells := 0, slots := 0, locals := 0 } : Room))
set_option maxRecDepth 65536 in
set_option maxHeartbeats 4000000 in
theorem rqr_met {A : Ax} (K : Wd A) {a s : Addr} {F G : List Ent} : Met A B_rqr #[.int (1 : Int32), .ref a, .ref s] F G (fun v F' G' => v = some (.ref s) ∧ F = F' ∧ G = G') := by
  refine MetW.of_go pn_rqr K.ew (L := [.val (.int (1 : Int32)), .val (.ref a), .val (.ref s)]) (fun m => rfl) ?_
  intro D _
  refine Go.run (B := B_rqr) td_rqr 0 1 (pc' := 1) (L' := [.val (.int (1 : Int32)), .val (.ref a), .val (.ref s)]) (S' := [.int (1 : Int32)]) rfl ?_
  refine Go.if0 (B := B_rqr) td_rqr 1 (pc' := 19) rfl (by decide) rfl (fun _ => ?_) (fun (h : ¬ ((1 : Int32) ≠ 0)) => absurd (by decide) h)
  refine Go.run (B := B_rqr) td_rqr 9 1 (pc' := 20) (L' := [.val (.int (1 : Int32)), .val (.ref a), .val (.ref s)]) (S' := [.ref s]) rfl ?_
  exact Go.retA (B := B_rqr) td_rqr 10 rfl rfl rfl rfl ⟨rfl, rfl, rfl⟩ (by decide) (by decide)
def tb_rqc : List In1 := [(0, .aload_n 0, 1), (1, .invokestatic 7, 3), (4, .ldc 13, 2), (6, .aload_n 0, 1), (7, .invokestatic 15, 3), (10, .areturn, 1)]
set_option maxRecDepth 65536 in
theorem td_rqc : Dec prog_19_method_2_code tb_rqc := by unfold Dec; decide +kernel
theorem pd_rqc : parseMethodDescriptor "(Ljava/lang/String;)Ljava/lang/String;" = some ⟨[(.object "java/lang/String")], (some (.object "java/lang/String"))⟩ := by decide +kernel
theorem pn_rqc : plainFor (⟨"com/example/callweave/callweave/model/JvmNames", "requireClassName", "(Ljava/lang/String;)Ljava/lang/String;"⟩ : MethodName) = true := by decide +kernel
abbrev B_rqc : Bx := ((⟨"com/example/callweave/callweave/model/JvmNames", "requireClassName", "(Ljava/lang/String;)Ljava/lang/String;"⟩ : MethodName), prog_19_method_2_code, 1, (Option.some (Jvm.ClassFile.FieldType.object "java/lang/String")), ({ frames := 6, cells := 2, slots := 120, locals := 82 } : Room))
set_option maxRecDepth 65536 in
set_option maxHeartbeats 4000000 in
theorem rqc_met {A : Ax} (K : Wd A) {s : Addr} {x : Int32} (hx : Sf x) {F G : List Ent} (m : StrL A G s [x]) : Met A B_rqc #[.ref s] F G (fun v F' G' => v = some (.ref s) ∧ F = F' ∧ G = G') := by
  refine MetW.of_go pn_rqc K.ew (L := [.val (.ref s)]) (fun m => rfl) ?_
  intro D _
  refine Go.run (B := B_rqc) td_rqc 0 1 (pc' := 1) (L' := [.val (.ref s)]) (S' := [.ref s]) rfl ?_
  refine Go.callS (B := B_rqc) td_rqc 1 (B' := B_icn1) (argsL := [.ref s]) (rest := []) (W := 0) rfl (icn1_met K hx m) (w_86 K) (w_87 K) (w_84 K) (w_88 K) (by decide) pd_icn1 rfl rfl rfl rfl (Nat.le_of_eq rfl) (by decide) (by decide) (by decide) (by decide) ?_
  rintro _ _ _ ⟨rfl, rfl, rfl⟩
  show Go A B_rqc D _ 4 [.val (.ref s)] [.int (1 : Int32)] F G 0 0
  refine Go.ldcO (B := B_rqc) td_rqc 2 (n := 116) rfl (w_103 K) (strAtoms K) K.wm (by decide) (by decide) (by decide) (by decide) ?_
  intro a
  show Go A B_rqc D _ 6 [.val (.ref s)] [.ref a, .int (1 : Int32)] F G 2 120
  refine Go.run (B := B_rqc) td_rqc 3 1 (pc' := 7) (L' := [.val (.ref s)]) (S' := [.ref s, .ref a, .int (1 : Int32)]) rfl ?_
  refine Go.callS (B := B_rqc) td_rqc 4 (B' := B_rqr) (argsL := [.int (1 : Int32), .ref a, .ref s]) (rest := []) (W := 0) rfl (rqr_met K) (w_104 K) (w_105 K) (w_84 K) (w_106 K) (by decide) pd_rqr rfl rfl rfl rfl (Nat.le_of_eq rfl) (by decide) (by decide) (by decide) (by decide) ?_
  rintro _ _ _ ⟨rfl, rfl, rfl⟩
  show Go A B_rqc D _ 10 [.val (.ref s)] [.ref s] F G 2 120
  exact Go.retA (B := B_rqc) td_rqc 5 rfl rfl rfl rfl ⟨rfl, rfl, rfl⟩ (by decide) (by decide)
def tb_ise : List In1 := [(0, .aload_n 0, 1), (1, .getfield 9, 3), (4, .arraylength, 1), (5, .ifCond .ne 7, 3), (8, .iconst 1, 1), (9, .goto 4, 3), (12, .iconst 0, 1), (13, .ireturn, 1)]
set_option maxRecDepth 65536 in
theorem td_ise : Dec jdk_42_method_55_code tb_ise := by unfold Dec; decide +kernel
theorem pd_ise : parseMethodDescriptor "()Z" = some ⟨[], (some .boolean)⟩ := by decide +kernel
theorem pn_ise : plainFor (⟨"java/lang/String", "isEmpty", "()Z"⟩ : MethodName) = true := by decide +kernel
abbrev B_ise : Bx := ((⟨"java/lang/String", "isEmpty", "()Z"⟩ : MethodName), jdk_42_method_55_code, 1, (Option.some Jvm.ClassFile.FieldType.boolean), ({ frames := 0, cells := 0, slots := 0, locals := 0 } : Room))
set_option maxRecDepth 65536 in
set_option maxHeartbeats 4000000 in
theorem ise_met {A : Ax} (K : Wd A) {s : Addr} {x : Int32} {F G : List Ent} (m : StrL A G s [x]) : Met A B_ise #[.ref s] F G (fun v F' G' => v = some (.int 0) ∧ F = F' ∧ G = G') := by
  refine MetW.of_go pn_ise K.ew (L := [.val (.ref s)]) (fun m => rfl) ?_
  intro D _
  obtain ⟨b, ⟨h1, h2, h3⟩ | ⟨h1, -, -⟩⟩ := m
  · refine Go.run (B := B_ise) td_ise 0 1 (pc' := 1) (L' := [.val (.ref s)]) (S' := [.ref s]) rfl ?_
    refine Go.getfield (B := B_ise) td_ise 1 rfl (w_30 K) (Or.inr h2) (List.mem_of_getElem? (i := 0) rfl) ?_
    refine Go.arraylength (B := B_ise) td_ise 2 (z := (1 : Int32)) rfl (Or.inr h3) rfl ?_
    refine Go.if0 (B := B_ise) td_ise 3 (pc' := 12) rfl (by decide) rfl (fun _ => ?_) (fun (h : ¬ ((1 : Int32) ≠ 0)) => absurd (by decide) h)
    refine Go.run (B := B_ise) td_ise 6 1 (pc' := 13) (L' := [.val (.ref s)]) (S' := [.int (0 : Int32)]) rfl ?_
    exact Go.retZ (B := B_ise) td_ise 7 rfl rfl rfl ⟨rfl, rfl, rfl⟩ (by decide) (by decide)
  · exact h1.1.elim
def tb_iun : List In1 := [(0, .iconst 0, 1), (1, .istore_n 2, 1), (2, .iload_n 2, 1), (3, .aload_n 0, 1), (4, .invokevirtual 53, 3), (7, .if_icmp .ge 57, 3), (10, .aload_n 0, 1), (11, .iload_n 2, 1), (12, .invokevirtual 78, 3), (15, .istore_n 3, 1), (16, .iload_n 3, 1), (17, .bipush 46, 2), (19, .if_icmp .eq 37, 3), (22, .iload_n 3, 1), (23, .bipush 59, 2), (25, .if_icmp .eq 31, 3), (28, .iload_n 3, 1), (29, .bipush 91, 2), (31, .if_icmp .eq 25, 3), (34, .iload_n 3, 1), (35, .bipush 47, 2), (37, .if_icmp .eq 19, 3), (40, .iload_n 1, 1), (41, .ifCond .eq 17, 3), (44, .iload_n 3, 1), (45, .bipush 60, 2), (47, .if_icmp .eq 9, 3), (50, .iload_n 3, 1), (51, .bipush 62, 2), (53, .if_icmp .ne 5, 3), (56, .iconst 0, 1), (57, .ireturn, 1), (58, .iinc 2 1, 3), (61, .goto (-59), 3), (64, .aload_n 0, 1), (65, .invokevirtual 82, 3), (68, .ifCond .ne 7, 3), (71, .iconst 1, 1), (72, .goto 4, 3), (75, .iconst 0, 1), (76, .ireturn, 1)]
set_option maxRecDepth 65536 in
theorem td_iun : Dec prog_19_method_13_code tb_iun := by unfold Dec; decide +kernel
theorem pd_iun : parseMethodDescriptor "(Ljava/lang/String;Z)Z" = some ⟨[(.object "java/lang/String"), .boolean], (some .boolean)⟩ := by decide +kernel
theorem pn_iun : plainFor (⟨"com/example/callweave/callweave/model/JvmNames", "isUnqualifiedName", "(Ljava/lang/String;Z)Z"⟩ : MethodName) = true := by decide +kernel
abbrev B_iun : Bx := ((⟨"com/example/callweave/callweave/model/JvmNames", "isUnqualifiedName", "(Ljava/lang/String;Z)Z"⟩ : MethodName), prog_19_method_13_code, 4, (Option.some Jvm.ClassFile.FieldType.boolean), ({ frames := 4, cells := 0, slots := 0, locals := 53 } : Room))
set_option maxRecDepth 65536 in
set_option maxHeartbeats 4000000 in
theorem iunF_met {A : Ax} (K : Wd A) {s : Addr} {x : Int32} (hx : Sf x) {F G : List Ent} (m : StrL A G s [x]) : Met A B_iun #[.ref s, .int (0 : Int32)] F G (fun v F' G' => v = some (.int 1) ∧ F = F' ∧ G = G') := by
  refine MetW.of_go pn_iun K.ew (L := [.val (.ref s), .val (.int (0 : Int32)), .unset, .unset]) (fun m => rfl) ?_
  intro D _
  obtain ⟨bS, cdS, hm⟩ := m.obj
  refine Go.run (B := B_iun) td_iun 0 4 (pc' := 4) (L' := [.val (.ref s), .val (.int (0 : Int32)), .val (.int (0 : Int32)), .unset]) (S' := [.ref s, .int (0 : Int32)]) rfl ?_
  refine Go.callV (B := B_iun) td_iun 4 (B' := B_len) (C := "java/lang/String") (a := s) (argsL := []) (rest := [.int (0 : Int32)]) (W := 1) rfl (lenR_met K (by exact own_le rfl) m) (Or.inr hm) (fun c P => P.1) (w_89 K) (w_90 K) (w_91 K) (w_92 K) (w_92 K) (w_11 K) (w_93 K) (by decide) pd_len rfl rfl rfl rfl (Nat.le_of_eq rfl) (by decide) (by decide) (by decide) (by decide) ?_
  rintro _ _ _ ⟨rfl, rfl, rfl⟩
  show Go A B_iun D _ 7 [.val (.ref s), .val (.int (0 : Int32)), .val (.int (0 : Int32)), .unset] [.int (1 : Int32), .int (0 : Int32)] F G 0 0
  refine Go.icmp (B := B_iun) td_iun 5 (pc' := 64) rfl (by decide) rfl (fun (h : (0 : Int32) ≥ (1 : Int32)) => absurd h (by decide)) (fun _ => ?_)
  refine Go.run (B := B_iun) td_iun 6 2 (pc' := 12) (L' := [.val (.ref s), .val (.int (0 : Int32)), .val (.int (0 : Int32)), .unset]) (S' := [.int (0 : Int32), .ref s]) rfl ?_
  refine Go.callV (B := B_iun) td_iun 8 (B' := B_cha) (C := "java/lang/String") (a := s) (argsL := [.int (0 : Int32)]) (rest := []) (W := 0) rfl (chaR_met K (pre := []) (suf := []) (c := x) rfl rfl (by exact own_le rfl) m) (Or.inr hm) (fun c P => P.1) (w_102 K) (w_19 K) (w_20 K) (w_21 K) (w_21 K) (w_11 K) (w_22 K) (by decide) pd_cha rfl rfl rfl rfl (Nat.le_of_eq rfl) (by decide) (by decide) (by decide) (by decide) ?_
  rintro _ _ _ ⟨rfl, rfl, rfl⟩
  show Go A B_iun D _ 15 [.val (.ref s), .val (.int (0 : Int32)), .val (.int (0 : Int32)), .unset] [.int x] F G 0 0
  refine Go.run (B := B_iun) td_iun 9 3 (pc' := 19) (L' := [.val (.ref s), .val (.int (0 : Int32)), .val (.int (0 : Int32)), .val (.int x)]) (S' := [.int (46 : Int32), .int x]) rfl ?_
  refine Go.icmp (B := B_iun) td_iun 12 (pc' := 56) rfl (by decide) rfl (fun (h : x = (46 : Int32)) => absurd h hx.2.1) (fun _ => ?_)
  refine Go.run (B := B_iun) td_iun 13 2 (pc' := 25) (L' := [.val (.ref s), .val (.int (0 : Int32)), .val (.int (0 : Int32)), .val (.int x)]) (S' := [.int (59 : Int32), .int x]) rfl ?_
  refine Go.icmp (B := B_iun) td_iun 15 (pc' := 56) rfl (by decide) rfl (fun (h : x = (59 : Int32)) => absurd h hx.2.2.1) (fun _ => ?_)
  refine Go.run (B := B_iun) td_iun 16 2 (pc' := 31) (L' := [.val (.ref s), .val (.int (0 : Int32)), .val (.int (0 : Int32)), .val (.int x)]) (S' := [.int (91 : Int32), .int x]) rfl ?_
  refine Go.icmp (B := B_iun) td_iun 18 (pc' := 56) rfl (by decide) rfl (fun (h : x = (91 : Int32)) => absurd h hx.2.2.2.1) (fun _ => ?_)
  refine Go.run (B := B_iun) td_iun 19 2 (pc' := 37) (L' := [.val (.ref s), .val (.int (0 : Int32)), .val (.int (0 : Int32)), .val (.int x)]) (S' := [.int (47 : Int32), .int x]) rfl ?_
  refine Go.icmp (B := B_iun) td_iun 21 (pc' := 56) rfl (by decide) rfl (fun (h : x = (47 : Int32)) => absurd h hx.2.2.2.2) (fun _ => ?_)
  refine Go.run (B := B_iun) td_iun 22 1 (pc' := 41) (L' := [.val (.ref s), .val (.int (0 : Int32)), .val (.int (0 : Int32)), .val (.int x)]) (S' := [.int (0 : Int32)]) rfl ?_
  refine Go.if0 (B := B_iun) td_iun 23 (pc' := 58) rfl (by decide) rfl (fun _ => ?_) (fun (h : ¬ ((0 : Int32) = 0)) => absurd rfl h)
  refine Go.run (B := B_iun) td_iun 32 2 (pc' := 2) (L' := [.val (.ref s), .val (.int (0 : Int32)), .val (.int ((0 : Int32) + (1 : Int32))), .val (.int x)]) (S' := []) rfl ?_
  refine Go.run (B := B_iun) td_iun 2 2 (pc' := 4) (L' := [.val (.ref s), .val (.int (0 : Int32)), .val (.int ((0 : Int32) + (1 : Int32))), .val (.int x)]) (S' := [.ref s, .int ((0 : Int32) + (1 : Int32))]) rfl ?_
  refine Go.callV (B := B_iun) td_iun 4 (B' := B_len) (C := "java/lang/String") (a := s) (argsL := []) (rest := [.int ((0 : Int32) + (1 : Int32))]) (W := 1) rfl (lenR_met K (by exact own_le rfl) m) (Or.inr hm) (fun c P => P.1) (w_89 K) (w_90 K) (w_91 K) (w_92 K) (w_92 K) (w_11 K) (w_93 K) (by decide) pd_len rfl rfl rfl rfl (Nat.le_of_eq rfl) (by decide) (by decide) (by decide) (by decide) ?_
  rintro _ _ _ ⟨rfl, rfl, rfl⟩
  show Go A B_iun D _ 7 [.val (.ref s), .val (.int (0 : Int32)), .val (.int ((0 : Int32) + (1 : Int32))), .val (.int x)] [.int (1 : Int32), .int ((0 : Int32) + (1 : Int32))] F G 0 0
  refine Go.icmp (B := B_iun) td_iun 5 (pc' := 64) rfl (by decide) rfl (fun _ => ?_) (fun (h : ¬ (((0 : Int32) + (1 : Int32)) ≥ (1 : Int32))) => absurd (by decide) h)
  refine Go.run (B := B_iun) td_iun 34 1 (pc' := 65) (L' := [.val (.ref s), .val (.int (0 : Int32)), .val (.int ((0 : Int32) + (1 : Int32))), .val (.int x)]) (S' := [.ref s]) rfl ?_
  refine Go.callV (B := B_iun) td_iun 35 (B' := B_ise) (C := "java/lang/String") (a := s) (argsL := []) (rest := []) (W := 0) rfl (ise_met K m) (Or.inr hm) (fun c P => P.1) (w_127 K) (w_128 K) (w_129 K) (w_130 K) (w_130 K) (w_11 K) (w_131 K) (by decide) pd_ise rfl rfl rfl rfl (Nat.le_of_eq rfl) (by decide) (by decide) (by decide) (by decide) ?_
  rintro _ _ _ ⟨rfl, rfl, rfl⟩
  show Go A B_iun D _ 68 [.val (.ref s), .val (.int (0 : Int32)), .val (.int ((0 : Int32) + (1 : Int32))), .val (.int x)] [.int (0 : Int32)] F G 0 0
  refine Go.if0 (B := B_iun) td_iun 36 (pc' := 75) rfl (by decide) rfl (fun (h : (0 : Int32) ≠ 0) => absurd h (by decide)) (fun _ => ?_)
  refine Go.run (B := B_iun) td_iun 37 2 (pc' := 76) (L' := [.val (.ref s), .val (.int (0 : Int32)), .val (.int ((0 : Int32) + (1 : Int32))), .val (.int x)]) (S' := [.int (1 : Int32)]) rfl ?_
  exact Go.retZ (B := B_iun) td_iun 40 rfl rfl rfl ⟨rfl, rfl, rfl⟩ (by decide) (by decide)
set_option maxRecDepth 65536 in
set_option maxHeartbeats 4000000 in
theorem iunM_met {A : Ax} (K : Wd A) {s : Addr} {x : Int32} (hn : Sn x) {F G : List Ent} (m : StrL A G s [x]) : Met A B_iun #[.ref s, .int (1 : Int32)] F G (fun v F' G' => v = some (.int 1) ∧ F = F' ∧ G = G') := by
  refine MetW.of_go pn_iun K.ew (L := [.val (.ref s), .val (.int (1 : Int32)), .unset, .unset]) (fun m => rfl) ?_
  intro D _
  have hx := hn.1
  obtain ⟨bS, cdS, hm⟩ := m.obj
  refine Go.run (B := B_iun) td_iun 0 4 (pc' := 4) (L' := [.val (.ref s), .val (.int (1 : Int32)), .val (.int (0 : Int32)), .unset]) (S' := [.ref s, .int (0 : Int32)]) rfl ?_
  refine Go.callV (B := B_iun) td_iun 4 (B' := B_len) (C := "java/lang/String") (a := s) (argsL := []) (rest := [.int (0 : Int32)]) (W := 1) rfl (lenR_met K (by exact own_le rfl) m) (Or.inr hm) (fun c P => P.1) (w_89 K) (w_90 K) (w_91 K) (w_92 K) (w_92 K) (w_11 K) (w_93 K) (by decide) pd_len rfl rfl rfl rfl (Nat.le_of_eq rfl) (by decide) (by decide) (by decide) (by decide) ?_
  rintro _ _ _ ⟨rfl, rfl, rfl⟩
  show Go A B_iun D _ 7 [.val (.ref s), .val (.int (1 : Int32)), .val (.int (0 : Int32)), .unset] [.int (1 : Int32), .int (0 : Int32)] F G 0 0
  refine Go.icmp (B := B_iun) td_iun 5 (pc' := 64) rfl (by decide) rfl (fun (h : (0 : Int32) ≥ (1 : Int32)) => absurd h (by decide)) (fun _ => ?_)
  refine Go.run (B := B_iun) td_iun 6 2 (pc' := 12) (L' := [.val (.ref s), .val (.int (1 : Int32)), .val (.int (0 : Int32)), .unset]) (S' := [.int (0 : Int32), .ref s]) rfl ?_
  refine Go.callV (B := B_iun) td_iun 8 (B' := B_cha) (C := "java/lang/String") (a := s) (argsL := [.int (0 : Int32)]) (rest := []) (W := 0) rfl (chaR_met K (pre := []) (suf := []) (c := x) rfl rfl (by exact own_le rfl) m) (Or.inr hm) (fun c P => P.1) (w_102 K) (w_19 K) (w_20 K) (w_21 K) (w_21 K) (w_11 K) (w_22 K) (by decide) pd_cha rfl rfl rfl rfl (Nat.le_of_eq rfl) (by decide) (by decide) (by decide) (by decide) ?_
  rintro _ _ _ ⟨rfl, rfl, rfl⟩
  show Go A B_iun D _ 15 [.val (.ref s), .val (.int (1 : Int32)), .val (.int (0 : Int32)), .unset] [.int x] F G 0 0
  refine Go.run (B := B_iun) td_iun 9 3 (pc' := 19) (L' := [.val (.ref s), .val (.int (1 : Int32)), .val (.int (0 : Int32)), .val (.int x)]) (S' := [.int (46 : Int32), .int x]) rfl ?_
  refine Go.icmp (B := B_iun) td_iun 12 (pc' := 56) rfl (by decide) rfl (fun (h : x = (46 : Int32)) => absurd h hx.2.1) (fun _ => ?_)
  refine Go.run (B := B_iun) td_iun 13 2 (pc' := 25) (L' := [.val (.ref s), .val (.int (1 : Int32)), .val (.int (0 : Int32)), .val (.int x)]) (S' := [.int (59 : Int32), .int x]) rfl ?_
  refine Go.icmp (B := B_iun) td_iun 15 (pc' := 56) rfl (by decide) rfl (fun (h : x = (59 : Int32)) => absurd h hx.2.2.1) (fun _ => ?_)
  refine Go.run (B := B_iun) td_iun 16 2 (pc' := 31) (L' := [.val (.ref s), .val (.int (1 : Int32)), .val (.int (0 : Int32)), .val (.int x)]) (S' := [.int (91 : Int32), .int x]) rfl ?_
  refine Go.icmp (B := B_iun) td_iun 18 (pc' := 56) rfl (by decide) rfl (fun (h : x = (91 : Int32)) => absurd h hx.2.2.2.1) (fun _ => ?_)
  refine Go.run (B := B_iun) td_iun 19 2 (pc' := 37) (L' := [.val (.ref s), .val (.int (1 : Int32)), .val (.int (0 : Int32)), .val (.int x)]) (S' := [.int (47 : Int32), .int x]) rfl ?_
  refine Go.icmp (B := B_iun) td_iun 21 (pc' := 56) rfl (by decide) rfl (fun (h : x = (47 : Int32)) => absurd h hx.2.2.2.2) (fun _ => ?_)
  refine Go.run (B := B_iun) td_iun 22 1 (pc' := 41) (L' := [.val (.ref s), .val (.int (1 : Int32)), .val (.int (0 : Int32)), .val (.int x)]) (S' := [.int (1 : Int32)]) rfl ?_
  refine Go.if0 (B := B_iun) td_iun 23 (pc' := 58) rfl (by decide) rfl (fun (h : (1 : Int32) = 0) => absurd h (by decide)) (fun _ => ?_)
  refine Go.run (B := B_iun) td_iun 24 2 (pc' := 47) (L' := [.val (.ref s), .val (.int (1 : Int32)), .val (.int (0 : Int32)), .val (.int x)]) (S' := [.int (60 : Int32), .int x]) rfl ?_
  refine Go.icmp (B := B_iun) td_iun 26 (pc' := 56) rfl (by decide) rfl (fun (h : x = (60 : Int32)) => absurd h hn.2.1) (fun _ => ?_)
  refine Go.run (B := B_iun) td_iun 27 2 (pc' := 53) (L' := [.val (.ref s), .val (.int (1 : Int32)), .val (.int (0 : Int32)), .val (.int x)]) (S' := [.int (62 : Int32), .int x]) rfl ?_
  refine Go.icmp (B := B_iun) td_iun 29 (pc' := 58) rfl (by decide) rfl (fun _ => ?_) (fun (h : ¬ (x ≠ (62 : Int32))) => absurd hn.2.2 h)
  refine Go.run (B := B_iun) td_iun 32 2 (pc' := 2) (L' := [.val (.ref s), .val (.int (1 : Int32)), .val (.int ((0 : Int32) + (1 : Int32))), .val (.int x)]) (S' := []) rfl ?_
  refine Go.run (B := B_iun) td_iun 2 2 (pc' := 4) (L' := [.val (.ref s), .val (.int (1 : Int32)), .val (.int ((0 : Int32) + (1 : Int32))), .val (.int x)]) (S' := [.ref s, .int ((0 : Int32) + (1 : Int32))]) rfl ?_
  refine Go.callV (B := B_iun) td_iun 4 (B' := B_len) (C := "java/lang/String") (a := s) (argsL := []) (rest := [.int ((0 : Int32) + (1 : Int32))]) (W := 1) rfl (lenR_met K (by exact own_le rfl) m) (Or.inr hm) (fun c P => P.1) (w_89 K) (w_90 K) (w_91 K) (w_92 K) (w_92 K) (w_11 K) (w_93 K) (by decide) pd_len rfl rfl rfl rfl (Nat.le_of_eq rfl) (by decide) (by decide) (by decide) (by decide) ?_
  rintro _ _ _ ⟨rfl, rfl, rfl⟩
  show Go A B_iun D _ 7 [.val (.ref s), .val (.int (1 : Int32)), .val (.int ((0 : Int32) + (1 : Int32))), .val (.int x)] [.int (1 : Int32), .int ((0 : Int32) + (1 : Int32))] F G 0 0
  refine Go.icmp (B := B_iun) td_iun 5 (pc' := 64) rfl (by decide) rfl (fun _ => ?_) (fun (h : ¬ (((0 : Int32) + (1 : Int32)) ≥ (1 : Int32))) => absurd (by decide) h)
  refine Go.run (B := B_iun) td_iun 34 1 (pc' := 65) (L' := [.val (.ref s), .val (.int (1 : Int32)), .val (.int ((0 : Int32) + (1 : Int32))), .val (.int x)]) (S' := [.ref s]) rfl ?_
  refine Go.callV (B := B_iun) td_iun 35 (B' := B_ise) (C := "java/lang/String") (a := s) (argsL := []) (rest := []) (W := 0) rfl (ise_met K m) (Or.inr hm) (fun c P => P.1) (w_127 K) (w_128 K) (w_129 K) (w_130 K) (w_130 K) (w_11 K) (w_131 K) (by decide) pd_ise rfl rfl rfl rfl (Nat.le_of_eq rfl) (by decide) (by decide) (by decide) (by decide) ?_
  rintro _ _ _ ⟨rfl, rfl, rfl⟩
  show Go A B_iun D _ 68 [.val (.ref s), .val (.int (1 : Int32)), .val (.int ((0 : Int32) + (1 : Int32))), .val (.int x)] [.int (0 : Int32)] F G 0 0
  refine Go.if0 (B := B_iun) td_iun 36 (pc' := 75) rfl (by decide) rfl (fun (h : (0 : Int32) ≠ 0) => absurd h (by decide)) (fun _ => ?_)
  refine Go.run (B := B_iun) td_iun 37 2 (pc' := 76) (L' := [.val (.ref s), .val (.int (1 : Int32)), .val (.int ((0 : Int32) + (1 : Int32))), .val (.int x)]) (S' := [.int (1 : Int32)]) rfl ?_
  exact Go.retZ (B := B_iun) td_iun 40 rfl rfl rfl ⟨rfl, rfl, rfl⟩ (by decide) (by decide)
def tb_ifn : List In1 := [(0, .aload_n 0, 1), (1, .iconst 0, 1), (2, .invokestatic 67, 3), (5, .ireturn, 1)]
set_option maxRecDepth 65536 in
theorem td_ifn : Dec prog_19_method_11_code tb_ifn := by unfold Dec; decide +kernel
theorem pd_ifn : parseMethodDescriptor "(Ljava/lang/String;)Z" = some ⟨[(.object "java/lang/String")], (some .boolean)⟩ := by decide +kernel
theorem pn_ifn : plainFor (⟨"com/example/callweave/callweave/model/JvmNames", "isFieldName", "(Ljava/lang/String;)Z"⟩ : MethodName) = true := by decide +kernel
abbrev B_ifn : Bx := ((⟨"com/example/callweave/callweave/model/JvmNames", "isFieldName", "(Ljava/lang/String;)Z"⟩ : MethodName), prog_19_method_11_code, 1, (Option.some Jvm.ClassFile.FieldType.boolean), ({ frames := 5, cells := 0, slots := 0, locals := 68 } : Room))
set_option maxRecDepth 65536 in
set_option maxHeartbeats 4000000 in
theorem ifn_met {A : Ax} (K : Wd A) {s : Addr} {x : Int32} (hx : Sf x) {F G : List Ent} (m : StrL A G s [x]) : Met A B_ifn #[.ref s] F G (fun v F' G' => v = some (.int 1) ∧ F = F' ∧ G = G') := by
  refine MetW.of_go pn_ifn K.ew (L := [.val (.ref s)]) (fun m => rfl) ?_
  intro D _
  refine Go.run (B := B_ifn) td_ifn 0 2 (pc' := 2) (L' := [.val (.ref s)]) (S' := [.int (0 : Int32), .ref s]) rfl ?_
  refine Go.callS (B := B_ifn) td_ifn 2 (B' := B_iun) (argsL := [.ref s, .int (0 : Int32)]) (rest := []) (W := 0) rfl (iunF_met K hx m) (w_124 K) (w_125 K) (w_84 K) (w_126 K) (by decide) pd_iun rfl rfl rfl rfl (Nat.le_of_eq rfl) (by decide) (by decide) (by decide) (by decide) ?_
  rintro _ _ _ ⟨rfl, rfl, rfl⟩
  show Go A B_ifn D _ 5 [.val (.ref s)] [.int (1 : Int32)] F G 0 0
  exact Go.retZ (B := B_ifn) td_ifn 3 rfl rfl rfl ⟨rfl, rfl, rfl⟩ (by decide) (by decide)
def tb_rqf : List In1 := [(0, .aload_n 0, 1), (1, .invokestatic 24, 3), (4, .ldc 27, 2), (6, .aload_n 0, 1), (7, .invokestatic 15, 3), (10, .areturn, 1)]
set_option maxRecDepth 65536 in
theorem td_rqf : Dec prog_19_method_4_code tb_rqf := by unfold Dec; decide +kernel
theorem pd_rqf : parseMethodDescriptor "(Ljava/lang/String;)Ljava/lang/String;" = some ⟨[(.object "java/lang/String")], (some (.object "java/lang/String"))⟩ := by decide +kernel
theorem pn_rqf : plainFor (⟨"com/example/callweave/callweave/model/JvmNames", "requireFieldName", "(Ljava/lang/String;)Ljava/lang/String;"⟩ : MethodName) = true := by decide +kernel
abbrev B_rqf : Bx := ((⟨"com/example/callweave/callweave/model/JvmNames", "requireFieldName", "(Ljava/lang/String;)Ljava/lang/String;"⟩ : MethodName), prog_19_method_4_code, 1, (Option.some (Jvm.ClassFile.FieldType.object "java/lang/String")), ({ frames := 6, cells := 2, slots := 52, locals := 80 } : Room))
set_option maxRecDepth 65536 in
set_option maxHeartbeats 4000000 in
theorem rqf_met {A : Ax} (K : Wd A) {s : Addr} {x : Int32} (hx : Sf x) {F G : List Ent} (m : StrL A G s [x]) : Met A B_rqf #[.ref s] F G (fun v F' G' => v = some (.ref s) ∧ F = F' ∧ G = G') := by
  refine MetW.of_go pn_rqf K.ew (L := [.val (.ref s)]) (fun m => rfl) ?_
  intro D _
  refine Go.run (B := B_rqf) td_rqf 0 1 (pc' := 1) (L' := [.val (.ref s)]) (S' := [.ref s]) rfl ?_
  refine Go.callS (B := B_rqf) td_rqf 1 (B' := B_ifn) (argsL := [.ref s]) (rest := []) (W := 0) rfl (ifn_met K hx m) (w_195 K) (w_196 K) (w_84 K) (w_197 K) (by decide) pd_ifn rfl rfl rfl rfl (Nat.le_of_eq rfl) (by decide) (by decide) (by decide) (by decide) ?_
  rintro _ _ _ ⟨rfl, rfl, rfl⟩
  show Go A B_rqf D _ 4 [.val (.ref s)] [.int (1 : Int32)] F G 0 0
  refine Go.ldcO (B := B_rqf) td_rqf 2 (n := 48) rfl (w_198 K) (strAtoms K) K.wm (by decide) (by decide) (by decide) (by decide) ?_
  intro a
  show Go A B_rqf D _ 6 [.val (.ref s)] [.ref a, .int (1 : Int32)] F G 2 52
  refine Go.run (B := B_rqf) td_rqf 3 1 (pc' := 7) (L' := [.val (.ref s)]) (S' := [.ref s, .ref a, .int (1 : Int32)]) rfl ?_
  refine Go.callS (B := B_rqf) td_rqf 4 (B' := B_rqr) (argsL := [.int (1 : Int32), .ref a, .ref s]) (rest := []) (W := 0) rfl (rqr_met K) (w_104 K) (w_105 K) (w_84 K) (w_106 K) (by decide) pd_rqr rfl rfl rfl rfl (Nat.le_of_eq rfl) (by decide) (by decide) (by decide) (by decide) ?_
  rintro _ _ _ ⟨rfl, rfl, rfl⟩
  show Go A B_rqf D _ 10 [.val (.ref s)] [.ref s] F G 2 52
  exact Go.retA (B := B_rqf) td_rqf 5 rfl rfl rfl rfl ⟨rfl, rfl, rfl⟩ (by decide) (by decide)
def tb_imn : List In1 := [(0, .aload_n 0, 1), (1, .ldc 71, 2), (3, .invokevirtual 72, 3), (6, .ifCond .ne 20, 3), (9, .aload_n 0, 1), (10, .ldc 76, 2), (12, .invokevirtual 72, 3), (15, .ifCond .ne 11, 3), (18, .aload_n 0, 1), (19, .iconst 1, 1), (20, .invokestatic 67, 3), (23, .ifCond .eq 7, 3), (26, .iconst 1, 1), (27, .goto 4, 3), (30, .iconst 0, 1), (31, .ireturn, 1)]
set_option maxRecDepth 65536 in
theorem td_imn : Dec prog_19_method_12_code tb_imn := by unfold Dec; decide +kernel
theorem pd_imn : parseMethodDescriptor "(Ljava/lang/String;)Z" = some ⟨[(.object "java/lang/String")], (some .boolean)⟩ := by decide +kernel
theorem pn_imn : plainFor (⟨"com/example/callweave/callweave/model/JvmNames", "isMethodName", "(Ljava/lang/String;)Z"⟩ : MethodName) = true := by decide +kernel
abbrev B_imn : Bx := ((⟨"com/example/callweave/callweave/model/JvmNames", "isMethodName", "(Ljava/lang/String;)Z"⟩ : MethodName), prog_19_method_12_code, 1, (Option.some Jvm.ClassFile.FieldType.boolean), ({ frames := 5, cells := 4, slots := 64, locals := 68 } : Room))
set_option maxRecDepth 65536 in
set_option maxHeartbeats 4000000 in
theorem imn_met {A : Ax} (K : Wd A) {s : Addr} {x : Int32} (hn : Sn x) {F G : List Ent} (m : StrL A G s [x]) : Met A B_imn #[.ref s] F G (fun v F' G' => v = some (.int 1) ∧ F = F' ∧ G = G') := by
  refine MetW.of_go pn_imn K.ew (L := [.val (.ref s)]) (fun m => rfl) ?_
  intro D _
  obtain ⟨bS, cdS, hm⟩ := m.obj
  refine Go.run (B := B_imn) td_imn 0 1 (pc' := 1) (L' := [.val (.ref s)]) (S' := [.ref s]) rfl ?_
  refine Go.ldcS (B := B_imn) td_imn 1 (n := 24) (vs := (latB [60, 105, 110, 105, 116, 62])) rfl (w_113 K) (strAtoms K) (by rw [show A.EL = consts_1 from K.el]; decide) K.wm (by decide +kernel) (by decide) (by decide) (by decide) (by decide) (by decide) ?_
  intro a0 b0
  show Go A B_imn D _ 3 [.val (.ref s)] [.ref a0, .ref s] F (StrE A a0 b0 0 :: (b0, ArrP A .byte (latB [60, 105, 110, 105, 116, 62])) :: G) 2 28
  refine Go.callV (B := B_imn) td_imn 2 (B' := B_seq) (C := "java/lang/String") (a := s) (argsL := [.ref a0]) (rest := []) (W := 0) rfl (eqL_met K (by exact own_le rfl) (by decide) rfl m.cons.cons (StrL.of (by decide) (List.mem_of_getElem? (i := 0) rfl) (List.mem_of_getElem? (i := 1) rfl))) (Or.inr (.tail _ (.tail _ (hm)))) (fun c P => P.1) (w_114 K) (w_115 K) (w_116 K) (w_117 K) (w_117 K) (w_11 K) (w_118 K) (by decide) pd_seq rfl rfl rfl rfl (Nat.le_of_eq rfl) (by decide) (by decide) (by decide) (by decide) ?_
  rintro _ _ _ ⟨rfl, rfl, rfl⟩
  show Go A B_imn D _ 6 [.val (.ref s)] [.int (if [x] = [60, 105, 110, 105, 116, 62] then (1 : Int32) else 0)] F (StrE A a0 b0 0 :: (b0, ArrP A .byte (latB [60, 105, 110, 105, 116, 62])) :: G) 2 28
  refine Go.if0 (B := B_imn) td_imn 3 (pc' := 26) rfl (by decide) rfl (fun (h : (if [x] = [60, 105, 110, 105, 116, 62] then (1 : Int32) else 0) ≠ 0) => absurd h (fun z => z (if_neg (by simp)))) (fun _ => ?_)
  refine Go.run (B := B_imn) td_imn 4 1 (pc' := 10) (L' := [.val (.ref s)]) (S' := [.ref s]) rfl ?_
  refine Go.ldcS (B := B_imn) td_imn 5 (n := 32) (vs := (latB [60, 99, 108, 105, 110, 105, 116, 62])) rfl (w_123 K) (strAtoms K) (by rw [show A.EL = consts_1 from K.el]; decide) K.wm (by decide +kernel) (by decide) (by decide) (by decide) (by decide) (by decide) ?_
  intro a1 b1
  show Go A B_imn D _ 12 [.val (.ref s)] [.ref a1, .ref s] F (StrE A a1 b1 0 :: (b1, ArrP A .byte (latB [60, 99, 108, 105, 110, 105, 116, 62])) :: StrE A a0 b0 0 :: (b0, ArrP A .byte (latB [60, 105, 110, 105, 116, 62])) :: G) 4 64
  refine Go.callV (B := B_imn) td_imn 6 (B' := B_seq) (C := "java/lang/String") (a := s) (argsL := [.ref a1]) (rest := []) (W := 0) rfl (eqL_met K (by exact own_le rfl) (by decide) rfl m.cons.cons.cons.cons (StrL.of (by decide) (List.mem_of_getElem? (i := 0) rfl) (List.mem_of_getElem? (i := 1) rfl))) (Or.inr (.tail _ (.tail _ (.tail _ (.tail _ (hm)))))) (fun c P => P.1) (w_114 K) (w_115 K) (w_116 K) (w_117 K) (w_117 K) (w_11 K) (w_118 K) (by decide) pd_seq rfl rfl rfl rfl (Nat.le_of_eq rfl) (by decide) (by decide) (by decide) (by decide) ?_
  rintro _ _ _ ⟨rfl, rfl, rfl⟩
  show Go A B_imn D _ 15 [.val (.ref s)] [.int (if [x] = [60, 99, 108, 105, 110, 105, 116, 62] then (1 : Int32) else 0)] F (StrE A a1 b1 0 :: (b1, ArrP A .byte (latB [60, 99, 108, 105, 110, 105, 116, 62])) :: StrE A a0 b0 0 :: (b0, ArrP A .byte (latB [60, 105, 110, 105, 116, 62])) :: G) 4 64
  refine Go.if0 (B := B_imn) td_imn 7 (pc' := 26) rfl (by decide) rfl (fun (h : (if [x] = [60, 99, 108, 105, 110, 105, 116, 62] then (1 : Int32) else 0) ≠ 0) => absurd h (fun z => z (if_neg (by simp)))) (fun _ => ?_)
  refine Go.run (B := B_imn) td_imn 8 2 (pc' := 20) (L' := [.val (.ref s)]) (S' := [.int (1 : Int32), .ref s]) rfl ?_
  refine Go.gsub (G' := G) (fun q h => .tail _ (.tail _ (.tail _ (.tail _ h)))) ?_
  refine Go.callS (B := B_imn) td_imn 10 (B' := B_iun) (argsL := [.ref s, .int (1 : Int32)]) (rest := []) (W := 0) rfl (iunM_met K hn m) (w_124 K) (w_125 K) (w_84 K) (w_126 K) (by decide) pd_iun rfl rfl rfl rfl (Nat.le_of_eq rfl) (by decide) (by decide) (by decide) (by decide) ?_
  rintro _ _ _ ⟨rfl, rfl, rfl⟩
  show Go A B_imn D _ 23 [.val (.ref s)] [.int (1 : Int32)] F G 4 64
  refine Go.if0 (B := B_imn) td_imn 11 (pc' := 30) rfl (by decide) rfl (fun (h : (1 : Int32) = 0) => absurd h (by decide)) (fun _ => ?_)
  refine Go.run (B := B_imn) td_imn 12 2 (pc' := 31) (L' := [.val (.ref s)]) (S' := [.int (1 : Int32)]) rfl ?_
  exact Go.retZ (B := B_imn) td_imn 15 rfl rfl rfl ⟨rfl, rfl, rfl⟩ (by decide) (by decide)
def tb_rqm : List In1 := [(0, .aload_n 0, 1), (1, .invokestatic 34, 3), (4, .ldc 37, 2), (6, .aload_n 0, 1), (7, .invokestatic 15, 3), (10, .areturn, 1)]
set_option maxRecDepth 65536 in
theorem td_rqm : Dec prog_19_method_6_code tb_rqm := by unfold Dec; decide +kernel
theorem pd_rqm : parseMethodDescriptor "(Ljava/lang/String;)Ljava/lang/String;" = some ⟨[(.object "java/lang/String")], (some (.object "java/lang/String"))⟩ := by decide +kernel
theorem pn_rqm : plainFor (⟨"com/example/callweave/callweave/model/JvmNames", "requireMethodName", "(Ljava/lang/String;)Ljava/lang/String;"⟩ : MethodName) = true := by decide +kernel
abbrev B_rqm : Bx := ((⟨"com/example/callweave/callweave/model/JvmNames", "requireMethodName", "(Ljava/lang/String;)Ljava/lang/String;"⟩ : MethodName), prog_19_method_6_code, 1, (Option.some (Jvm.ClassFile.FieldType.object "java/lang/String")), ({ frames := 6, cells := 6, slots := 120, locals := 80 } : Room))
set_option maxRecDepth 65536 in
set_option maxHeartbeats 4000000 in
theorem rqm_met {A : Ax} (K : Wd A) {s : Addr} {x : Int32} (hn : Sn x) {F G : List Ent} (m : StrL A G s [x]) : Met A B_rqm #[.ref s] F G (fun v F' G' => v = some (.ref s) ∧ F = F' ∧ G = G') := by
  refine MetW.of_go pn_rqm K.ew (L := [.val (.ref s)]) (fun m => rfl) ?_
  intro D _
  refine Go.run (B := B_rqm) td_rqm 0 1 (pc' := 1) (L' := [.val (.ref s)]) (S' := [.ref s]) rfl ?_
  refine Go.callS (B := B_rqm) td_rqm 1 (B' := B_imn) (argsL := [.ref s]) (rest := []) (W := 0) rfl (imn_met K hn m) (w_110 K) (w_111 K) (w_84 K) (w_112 K) (by decide) pd_imn rfl rfl rfl rfl (Nat.le_of_eq rfl) (by decide) (by decide) (by decide) (by decide) ?_
  rintro _ _ _ ⟨rfl, rfl, rfl⟩
  show Go A B_rqm D _ 4 [.val (.ref s)] [.int (1 : Int32)] F G 4 64
  refine Go.ldcO (B := B_rqm) td_rqm 2 (n := 52) rfl (w_132 K) (strAtoms K) K.wm (by decide) (by decide) (by decide) (by decide) ?_
  intro a
  show Go A B_rqm D _ 6 [.val (.ref s)] [.ref a, .int (1 : Int32)] F G 6 120
  refine Go.run (B := B_rqm) td_rqm 3 1 (pc' := 7) (L' := [.val (.ref s)]) (S' := [.ref s, .ref a, .int (1 : Int32)]) rfl ?_
  refine Go.callS (B := B_rqm) td_rqm 4 (B' := B_rqr) (argsL := [.int (1 : Int32), .ref a, .ref s]) (rest := []) (W := 0) rfl (rqr_met K) (w_104 K) (w_105 K) (w_84 K) (w_106 K) (by decide) pd_rqr rfl rfl rfl rfl (Nat.le_of_eq rfl) (by decide) (by decide) (by decide) (by decide) ?_
  rintro _ _ _ ⟨rfl, rfl, rfl⟩
  show Go A B_rqm D _ 10 [.val (.ref s)] [.ref s] F G 6 120
  exact Go.retA (B := B_rqm) td_rqm 5 rfl rfl rfl rfl ⟨rfl, rfl, rfl⟩ (by decide) (by decide)
def tb_eft : List In1 := [(0, .iload_n 1, 1), (1, .istore_n 2, 1), (2, .iload_n 2, 1), (3, .aload_n 0, 1), (4, .invokevirtual 53, 3), (7, .if_icmp .ge 19, 3), (10, .aload_n 0, 1), (11, .iload_n 2, 1), (12, .invokevirtual 78, 3), (15, .bipush 91, 2), (17, .if_icmp .ne 9, 3), (20, .iinc 2 1, 3), (23, .goto (-21), 3), (26, .iload_n 2, 1), (27, .iload_n 1, 1), (28, .isub, 1), (29, .sipush 255, 3), (32, .if_icmp .gt 11, 3), (35, .iload_n 2, 1), (36, .aload_n 0, 1), (37, .invokevirtual 53, 3), (40, .if_icmp .ne 5, 3), (43, .iconst (-1), 1), (44, .ireturn, 1), (45, .aload_n 0, 1), (46, .iload_n 2, 1), (47, .invokevirtual 78, 3), (50, .tableswitch 153 66 90 #[114, 114, 114, 153, 114, 153, 153, 114, 114, 153, 120, 153, 153, 153, 153, 153, 153, 114, 153, 153, 153, 153, 153, 153, 114], 114), (164, .iload_n 2, 1), (165, .iconst 1, 1), (166, .iadd, 1), (167, .goto 37, 3), (170, .aload_n 0, 1), (171, .bipush 59, 2), (173, .iload_n 2, 1), (174, .invokevirtual 92, 3), (177, .istore_n 3, 1), (178, .iload_n 3, 1), (179, .ifCond .lt 20, 3), (182, .aload_n 0, 1), (183, .iload_n 2, 1), (184, .iconst 1, 1), (185, .iadd, 1), (186, .iload_n 3, 1), (187, .invokestatic 59, 3), (190, .ifCond .eq 9, 3), (193, .iload_n 3, 1), (194, .iconst 1, 1), (195, .iadd, 1), (196, .goto 8, 3), (199, .iconst (-1), 1), (200, .goto 4, 3), (203, .iconst (-1), 1), (204, .ireturn, 1)]
set_option maxRecDepth 65536 in
theorem td_eft : Dec prog_19_method_16_code tb_eft := by unfold Dec; decide +kernel
theorem pd_eft : parseMethodDescriptor "(Ljava/lang/String;I)I" = some ⟨[(.object "java/lang/String"), .int], (some .int)⟩ := by decide +kernel
theorem pn_eft : plainFor (⟨"com/example/callweave/callweave/model/JvmNames", "endOfFieldType", "(Ljava/lang/String;I)I"⟩ : MethodName) = true := by decide +kernel
abbrev B_eft : Bx := ((⟨"com/example/callweave/callweave/model/JvmNames", "endOfFieldType", "(Ljava/lang/String;I)I"⟩ : MethodName), prog_19_method_16_code, 4, (Option.some Jvm.ClassFile.FieldType.int), ({ frames := 4, cells := 0, slots := 0, locals := 53 } : Room))
set_option maxRecDepth 65536 in
set_option maxHeartbeats 4000000 in
theorem eft0_met {A : Ax} (K : Wd A) {s : Addr} {p : Int32} (hp : Pm p) {F G : List Ent} (m : StrL A G s [p]) : Met A B_eft #[.ref s, .int (0 : Int32)] F G (fun v F' G' => v = some (.int 1) ∧ F = F' ∧ G = G') := by
  refine MetW.of_go pn_eft K.ew (L := [.val (.ref s), .val (.int (0 : Int32)), .unset, .unset]) (fun m => rfl) ?_
  intro D _
  obtain ⟨bS, cdS, hm⟩ := m.obj
  rcases hp with rfl | rfl | rfl | rfl | rfl | rfl | rfl | rfl
  · refine Go.run (B := B_eft) td_eft 0 4 (pc' := 4) (L' := [.val (.ref s), .val (.int (0 : Int32)), .val (.int (0 : Int32)), .unset]) (S' := [.ref s, .int (0 : Int32)]) rfl ?_
    refine Go.callV (B := B_eft) td_eft 4 (B' := B_len) (C := "java/lang/String") (a := s) (argsL := []) (rest := [.int (0 : Int32)]) (W := 1) rfl (lenR_met K (by exact own_le rfl) m) (Or.inr hm) (fun c P => P.1) (w_89 K) (w_90 K) (w_91 K) (w_92 K) (w_92 K) (w_11 K) (w_93 K) (by decide) pd_len rfl rfl rfl rfl (Nat.le_of_eq rfl) (by decide) (by decide) (by decide) (by decide) ?_
    rintro _ _ _ ⟨rfl, rfl, rfl⟩
    show Go A B_eft D _ 7 [.val (.ref s), .val (.int (0 : Int32)), .val (.int (0 : Int32)), .unset] [.int (1 : Int32), .int (0 : Int32)] F G 0 0
    refine Go.icmp (B := B_eft) td_eft 5 (pc' := 26) rfl (by decide) rfl (fun (h : (0 : Int32) ≥ (1 : Int32)) => absurd h (by decide)) (fun _ => ?_)
    refine Go.run (B := B_eft) td_eft 6 2 (pc' := 12) (L' := [.val (.ref s), .val (.int (0 : Int32)), .val (.int (0 : Int32)), .unset]) (S' := [.int (0 : Int32), .ref s]) rfl ?_
    refine Go.callV (B := B_eft) td_eft 8 (B' := B_cha) (C := "java/lang/String") (a := s) (argsL := [.int (0 : Int32)]) (rest := []) (W := 0) rfl (chaR_met K (pre := []) (suf := []) (c := 66) rfl rfl (by exact own_le rfl) m) (Or.inr hm) (fun c P => P.1) (w_102 K) (w_19 K) (w_20 K) (w_21 K) (w_21 K) (w_11 K) (w_22 K) (by decide) pd_cha rfl rfl rfl rfl (Nat.le_of_eq rfl) (by decide) (by decide) (by decide) (by decide) ?_
    rintro _ _ _ ⟨rfl, rfl, rfl⟩
    show Go A B_eft D _ 15 [.val (.ref s), .val (.int (0 : Int32)), .val (.int (0 : Int32)), .unset] [.int (66 : Int32)] F G 0 0
    refine Go.run (B := B_eft) td_eft 9 1 (pc' := 17) (L' := [.val (.ref s), .val (.int (0 : Int32)), .val (.int (0 : Int32)), .unset]) (S' := [.int (91 : Int32), .int (66 : Int32)]) rfl ?_
    refine Go.icmp (B := B_eft) td_eft 10 (pc' := 26) rfl (by decide) rfl (fun _ => ?_) (fun (h : ¬ ((66 : Int32) ≠ (91 : Int32))) => absurd (by decide) h)
    refine Go.run (B := B_eft) td_eft 13 4 (pc' := 32) (L' := [.val (.ref s), .val (.int (0 : Int32)), .val (.int (0 : Int32)), .unset]) (S' := [.int (255 : Int32), .int ((0 : Int32) - (0 : Int32))]) rfl ?_
    refine Go.icmp (B := B_eft) td_eft 17 (pc' := 43) rfl (by decide) rfl (fun (h : ((0 : Int32) - (0 : Int32)) > (255 : Int32)) => absurd h (by decide)) (fun _ => ?_)
    refine Go.run (B := B_eft) td_eft 18 2 (pc' := 37) (L' := [.val (.ref s), .val (.int (0 : Int32)), .val (.int (0 : Int32)), .unset]) (S' := [.ref s, .int (0 : Int32)]) rfl ?_
    refine Go.callV (B := B_eft) td_eft 20 (B' := B_len) (C := "java/lang/String") (a := s) (argsL := []) (rest := [.int (0 : Int32)]) (W := 1) rfl (lenR_met K (by exact own_le rfl) m) (Or.inr hm) (fun c P => P.1) (w_89 K) (w_90 K) (w_91 K) (w_92 K) (w_92 K) (w_11 K) (w_93 K) (by decide) pd_len rfl rfl rfl rfl (Nat.le_of_eq rfl) (by decide) (by decide) (by decide) (by decide) ?_
    rintro _ _ _ ⟨rfl, rfl, rfl⟩
    show Go A B_eft D _ 40 [.val (.ref s), .val (.int (0 : Int32)), .val (.int (0 : Int32)), .unset] [.int (1 : Int32), .int (0 : Int32)] F G 0 0
    refine Go.icmp (B := B_eft) td_eft 21 (pc' := 45) rfl (by decide) rfl (fun _ => ?_) (fun (h : ¬ ((0 : Int32) ≠ (1 : Int32))) => absurd (by decide) h)
    refine Go.run (B := B_eft) td_eft 24 2 (pc' := 47) (L' := [.val (.ref s), .val (.int (0 : Int32)), .val (.int (0 : Int32)), .unset]) (S' := [.int (0 : Int32), .ref s]) rfl ?_
    refine Go.callV (B := B_eft) td_eft 26 (B' := B_cha) (C := "java/lang/String") (a := s) (argsL := [.int (0 : Int32)]) (rest := []) (W := 0) rfl (chaR_met K (pre := []) (suf := []) (c := 66) rfl rfl (by exact own_le rfl) m) (Or.inr hm) (fun c P => P.1) (w_102 K) (w_19 K) (w_20 K) (w_21 K) (w_21 K) (w_11 K) (w_22 K) (by decide) pd_cha rfl rfl rfl rfl (Nat.le_of_eq rfl) (by decide) (by decide) (by decide) (by decide) ?_
    rintro _ _ _ ⟨rfl, rfl, rfl⟩
    show Go A B_eft D _ 50 [.val (.ref s), .val (.int (0 : Int32)), .val (.int (0 : Int32)), .unset] [.int (66 : Int32)] F G 0 0
    refine Go.tswIn (B := B_eft) td_eft 27 (o := 114) (pc' := 164) rfl (by decide) rfl (by decide) rfl ?_
    refine Go.run (B := B_eft) td_eft 28 4 (pc' := 204) (L' := [.val (.ref s), .val (.int (0 : Int32)), .val (.int (0 : Int32)), .unset]) (S' := [.int ((0 : Int32) + (1 : Int32))]) rfl ?_
    exact Go.retI (B := B_eft) td_eft 53 rfl rfl ⟨rfl, rfl, rfl⟩ (by decide) (by decide)
  · refine Go.run (B := B_eft) td_eft 0 4 (pc' := 4) (L' := [.val (.ref s), .val (.int (0 : Int32)), .val (.int (0 : Int32)), .unset]) (S' := [.ref s, .int (0 : Int32)]) rfl ?_
    refine Go.callV (B := B_eft) td_eft 4 (B' := B_len) (C := "java/lang/String") (a := s) (argsL := []) (rest := [.int (0 : Int32)]) (W := 1) rfl (lenR_met K (by exact own_le rfl) m) (Or.inr hm) (fun c P => P.1) (w_89 K) (w_90 K) (w_91 K) (w_92 K) (w_92 K) (w_11 K) (w_93 K) (by decide) pd_len rfl rfl rfl rfl (Nat.le_of_eq rfl) (by decide) (by decide) (by decide) (by decide) ?_
    rintro _ _ _ ⟨rfl, rfl, rfl⟩
    show Go A B_eft D _ 7 [.val (.ref s), .val (.int (0 : Int32)), .val (.int (0 : Int32)), .unset] [.int (1 : Int32), .int (0 : Int32)] F G 0 0
    refine Go.icmp (B := B_eft) td_eft 5 (pc' := 26) rfl (by decide) rfl (fun (h : (0 : Int32) ≥ (1 : Int32)) => absurd h (by decide)) (fun _ => ?_)
    refine Go.run (B := B_eft) td_eft 6 2 (pc' := 12) (L' := [.val (.ref s), .val (.int (0 : Int32)), .val (.int (0 : Int32)), .unset]) (S' := [.int (0 : Int32), .ref s]) rfl ?_
    refine Go.callV (B := B_eft) td_eft 8 (B' := B_cha) (C := "java/lang/String") (a := s) (argsL := [.int (0 : Int32)]) (rest := []) (W := 0) rfl (chaR_met K (pre := []) (suf := []) (c := 67) rfl rfl (by exact own_le rfl) m) (Or.inr hm) (fun c P => P.1) (w_102 K) (w_19 K) (w_20 K) (w_21 K) (w_21 K) (w_11 K) (w_22 K) (by decide) pd_cha rfl rfl rfl rfl (Nat.le_of_eq rfl) (by decide) (by decide) (by decide) (by decide) ?_
    rintro _ _ _ ⟨rfl, rfl, rfl⟩
    show Go A B_eft D _ 15 [.val (.ref s), .val (.int (0 : Int32)), .val (.int (0 : Int32)), .unset] [.int (67 : Int32)] F G 0 0
    refine Go.run (B := B_eft) td_eft 9 1 (pc' := 17) (L' := [.val (.ref s), .val (.int (0 : Int32)), .val (.int (0 : Int32)), .unset]) (S' := [.int (91 : Int32), .int (67 : Int32)]) rfl ?_
    refine Go.icmp (B := B_eft) td_eft 10 (pc' := 26) rfl (by decide) rfl (fun _ => ?_) (fun (h : ¬ ((67 : Int32) ≠ (91 : Int32))) => absurd (by decide) h)
    refine Go.run (B := B_eft) td_eft 13 4 (pc' := 32) (L' := [.val (.ref s), .val (.int (0 : Int32)), .val (.int (0 : Int32)), .unset]) (S' := [.int (255 : Int32), .int ((0 : Int32) - (0 : Int32))]) rfl ?_
    refine Go.icmp (B := B_eft) td_eft 17 (pc' := 43) rfl (by decide) rfl (fun (h : ((0 : Int32) - (0 : Int32)) > (255 : Int32)) => absurd h (by decide)) (fun _ => ?_)
    refine Go.run (B := B_eft) td_eft 18 2 (pc' := 37) (L' := [.val (.ref s), .val (.int (0 : Int32)), .val (.int (0 : Int32)), .unset]) (S' := [.ref s, .int (0 : Int32)]) rfl ?_
    refine Go.callV (B := B_eft) td_eft 20 (B' := B_len) (C := "java/lang/String") (a := s) (argsL := []) (rest := [.int (0 : Int32)]) (W := 1) rfl (lenR_met K (by exact own_le rfl) m) (Or.inr hm) (fun c P => P.1) (w_89 K) (w_90 K) (w_91 K) (w_92 K) (w_92 K) (w_11 K) (w_93 K) (by decide) pd_len rfl rfl rfl rfl (Nat.le_of_eq rfl) (by decide) (by decide) (by decide) (by decide) ?_
    rintro _ _ _ ⟨rfl, rfl, rfl⟩
    show Go A B_eft D _ 40 [.val (.ref s), .val (.int (0 : Int32)), .val (.int (0 : Int32)), .unset] [.int (1 : Int32), .int (0 : Int32)] F G 0 0
    refine Go.icmp (B := B_eft) td_eft 21 (pc' := 45) rfl (by decide) rfl (fun _ => ?_) (fun (h : ¬ ((0 : Int32) ≠ (1 : Int32))) => absurd (by decide) h)
    refine Go.run (B := B_eft) td_eft 24 2 (pc' := 47) (L' := [.val (.ref s), .val (.int (0 : Int32)), .val (.int (0 : Int32)), .unset]) (S' := [.int (0 : Int32), .ref s]) rfl ?_
    refine Go.callV (B := B_eft) td_eft 26 (B' := B_cha) (C := "java/lang/String") (a := s) (argsL := [.int (0 : Int32)]) (rest := []) (W := 0) rfl (chaR_met K (pre := []) (suf := []) (c := 67) rfl rfl (by exact own_le rfl) m) (Or.inr hm) (fun c P => P.1) (w_102 K) (w_19 K) (w_20 K) (w_21 K) (w_21 K) (w_11 K) (w_22 K) (by decide) pd_cha rfl rfl rfl rfl (Nat.le_of_eq rfl) (by decide) (by decide) (by decide) (by decide) ?_
    rintro _ _ _ ⟨rfl, rfl, rfl⟩
    show Go A B_eft D _ 50 [.val (.ref s), .val (.int (0 : Int32)), .val (.int (0 : Int32)), .unset] [.int (67 : Int32)] F G 0 0
    refine Go.tswIn (B := B_eft) td_eft 27 (o := 114) (pc' := 164) rfl (by decide) rfl (by decide) rfl ?_
    refine Go.run (B := B_eft) td_eft 28 4 (pc' := 204) (L' := [.val (.ref s), .val (.int (0 : Int32)), .val (.int (0 : Int32)), .unset]) (S' := [.int ((0 : Int32) + (1 : Int32))]) rfl ?_
    exact Go.retI (B := B_eft) td_eft 53 rfl rfl ⟨rfl, rfl, rfl⟩ (by decide) (by decide)
  · refine Go.run (B := B_eft) td_eft 0 4 (pc' := 4) (L' := [.val (.ref s), .val (.int (0 : Int32)), .val (.int (0 : Int32)), .unset]) (S' := [.ref s, .int (0 : Int32)]) rfl ?_
    refine Go.callV (B := B_eft) td_eft 4 (B' := B_len) (C := "java/lang/String") (a := s) (argsL := []) (rest := [.int (0 : Int32)]) (W := 1) rfl (lenR_met K (by exact own_le rfl) m) (Or.inr hm) (fun c P => P.1) (w_89 K) (w_90 K) (w_91 K) (w_92 K) (w_92 K) (w_11 K) (w_93 K) (by decide) pd_len rfl rfl rfl rfl (Nat.le_of_eq rfl) (by decide) (by decide) (by decide) (by decide) ?_
    rintro _ _ _ ⟨rfl, rfl, rfl⟩
    show Go A B_eft D _ 7 [.val (.ref s), .val (.int (0 : Int32)), .val (.int (0 : Int32)), .unset] [.int (1 : Int32), .int (0 : Int32)] F G 0 0
    refine Go.icmp (B := B_eft) td_eft 5 (pc' := 26) rfl (by decide) rfl (fun (h : (0 : Int32) ≥ (1 : Int32)) => absurd h (by decide)) (fun _ => ?_)
    refine Go.run (B := B_eft) td_eft 6 2 (pc' := 12) (L' := [.val (.ref s), .val (.int (0 : Int32)), .val (.int (0 : Int32)), .unset]) (S' := [.int (0 : Int32), .ref s]) rfl ?_
    refine Go.callV (B := B_eft) td_eft 8 (B' := B_cha) (C := "java/lang/String") (a := s) (argsL := [.int (0 : Int32)]) (rest := []) (W := 0) rfl (chaR_met K (pre := []) (suf := []) (c := 68) rfl rfl (by exact own_le rfl) m) (Or.inr hm) (fun c P => P.1) (w_102 K) (w_19 K) (w_20 K) (w_21 K) (w_21 K) (w_11 K) (w_22 K) (by decide) pd_cha rfl rfl rfl rfl (Nat.le_of_eq rfl) (by decide) (by decide) (by decide) (by decide) ?_
    rintro _ _ _ ⟨rfl, rfl, rfl⟩
    show Go A B_eft D _ 15 [.val (.ref s), .val (.int (0 : Int32)), .val (.int (0 : Int32)), .unset] [.int (68 : Int32)] F G 0 0
    refine Go.run (B := B_eft) td_eft 9 1 (pc' := 17) (L' := [.val (.ref s), .val (.int (0 : Int32)), .val (.int (0 : Int32)), .unset]) (S' := [.int (91 : Int32), .int (68 : Int32)]) rfl ?_
    refine Go.icmp (B := B_eft) td_eft 10 (pc' := 26) rfl (by decide) rfl (fun _ => ?_) (fun (h : ¬ ((68 : Int32) ≠ (91 : Int32))) => absurd (by decide) h)
    refine Go.run (B := B_eft) td_eft 13 4 (pc' := 32) (L' := [.val (.ref s), .val (.int (0 : Int32)), .val (.int (0 : Int32)), .unset]) (S' := [.int (255 : Int32), .int ((0 : Int32) - (0 : Int32))]) rfl ?_
    refine Go.icmp (B := B_eft) td_eft 17 (pc' := 43) rfl (by decide) rfl (fun (h : ((0 : Int32) - (0 : Int32)) > (255 : Int32)) => absurd h (by decide)) (fun _ => ?_)
    refine Go.run (B := B_eft) td_eft 18 2 (pc' := 37) (L' := [.val (.ref s), .val (.int (0 : Int32)), .val (.int (0 : Int32)), .unset]) (S' := [.ref s, .int (0 : Int32)]) rfl ?_
    refine Go.callV (B := B_eft) td_eft 20 (B' := B_len) (C := "java/lang/String") (a := s) (argsL := []) (rest := [.int (0 : Int32)]) (W := 1) rfl (lenR_met K (by exact own_le rfl) m) (Or.inr hm) (fun c P => P.1) (w_89 K) (w_90 K) (w_91 K) (w_92 K) (w_92 K) (w_11 K) (w_93 K) (by decide) pd_len rfl rfl rfl rfl (Nat.le_of_eq rfl) (by decide) (by decide) (by decide) (by decide) ?_
    rintro _ _ _ ⟨rfl, rfl, rfl⟩
    show Go A B_eft D _ 40 [.val (.ref s), .val (.int (0 : Int32)), .val (.int (0 : Int32)), .unset] [.int (1 : Int32), .int (0 : Int32)] F G 0 0
    refine Go.icmp (B := B_eft) td_eft 21 (pc' := 45) rfl (by decide) rfl (fun _ => ?_) (fun (h : ¬ ((0 : Int32) ≠ (1 : Int32))) => absurd (by decide) h)
    refine Go.run (B := B_eft) td_eft 24 2 (pc' := 47) (L' := [.val (.ref s), .val (.int (0 : Int32)), .val (.int (0 : Int32)), .unset]) (S' := [.int (0 : Int32), .ref s]) rfl ?_
    refine Go.callV (B := B_eft) td_eft 26 (B' := B_cha) (C := "java/lang/String") (a := s) (argsL := [.int (0 : Int32)]) (rest := []) (W := 0) rfl (chaR_met K (pre := []) (suf := []) (c := 68) rfl rfl (by exact own_le rfl) m) (Or.inr hm) (fun c P => P.1) (w_102 K) (w_19 K) (w_20 K) (w_21 K) (w_21 K) (w_11 K) (w_22 K) (by decide) pd_cha rfl rfl rfl rfl (Nat.le_of_eq rfl) (by decide) (by decide) (by decide) (by decide) ?_
    rintro _ _ _ ⟨rfl, rfl, rfl⟩
    show Go A B_eft D _ 50 [.val (.ref s), .val (.int (0 : Int32)), .val (.int (0 : Int32)), .unset] [.int (68 : Int32)] F G 0 0
    refine Go.tswIn (B := B_eft) td_eft 27 (o := 114) (pc' := 164) rfl (by decide) rfl (by decide) rfl ?_
    refine Go.run (B := B_eft) td_eft 28 4 (pc' := 204) (L' := [.val (.ref s), .val (.int (0 : Int32)), .val (.int (0 : Int32)), .unset]) (S' := [.int ((0 : Int32) + (1 : Int32))]) rfl ?_
    exact Go.retI (B := B_eft) td_eft 53 rfl rfl ⟨rfl, rfl, rfl⟩ (by decide) (by decide)
  · refine Go.run (B := B_eft) td_eft 0 4 (pc' := 4) (L' := [.val (.ref s), .val (.int (0 : Int32)), .val (.int (0 : Int32)), .unset]) (S' := [.ref s, .int (0 : Int32)]) rfl ?_
    refine Go.callV (B := B_eft) td_eft 4 (B' := B_len) (C := "java/lang/String") (a := s) (argsL := []) (rest := [.int (0 : Int32)]) (W := 1) rfl (lenR_met K (by exact own_le rfl) m) (Or.inr hm) (fun c P => P.1) (w_89 K) (w_90 K) (w_91 K) (w_92 K) (w_92 K) (w_11 K) (w_93 K) (by decide) pd_len rfl rfl rfl rfl (Nat.le_of_eq rfl) (by decide) (by decide) (by decide) (by decide) ?_
    rintro _ _ _ ⟨rfl, rfl, rfl⟩
    show Go A B_eft D _ 7 [.val (.ref s), .val (.int (0 : Int32)), .val (.int (0 : Int32)), .unset] [.int (1 : Int32), .int (0 : Int32)] F G 0 0
    refine Go.icmp (B := B_eft) td_eft 5 (pc' := 26) rfl (by decide) rfl (fun (h : (0 : Int32) ≥ (1 : Int32)) => absurd h (by decide)) (fun _ => ?_)
    refine Go.run (B := B_eft) td_eft 6 2 (pc' := 12) (L' := [.val (.ref s), .val (.int (0 : Int32)), .val (.int (0 : Int32)), .unset]) (S' := [.int (0 : Int32), .ref s]) rfl ?_
    refine Go.callV (B := B_eft) td_eft 8 (B' := B_cha) (C := "java/lang/String") (a := s) (argsL := [.int (0 : Int32)]) (rest := []) (W := 0) rfl (chaR_met K (pre := []) (suf := []) (c := 70) rfl rfl (by exact own_le rfl) m) (Or.inr hm) (fun c P => P.1) (w_102 K) (w_19 K) (w_20 K) (w_21 K) (w_21 K) (w_11 K) (w_22 K) (by decide) pd_cha rfl rfl rfl rfl (Nat.le_of_eq rfl) (by decide) (by decide) (by decide) (by decide) ?_
    rintro _ _ _ ⟨rfl, rfl, rfl⟩
    show Go A B_eft D _ 15 [.val (.ref s), .val (.int (0 : Int32)), .val (.int (0 : Int32)), .unset] [.int (70 : Int32)] F G 0 0
    refine Go.run (B := B_eft) td_eft 9 1 (pc' := 17) (L' := [.val (.ref s), .val (.int (0 : Int32)), .val (.int (0 : Int32)), .unset]) (S' := [.int (91 : Int32), .int (70 : Int32)]) rfl ?_
    refine Go.icmp (B := B_eft) td_eft 10 (pc' := 26) rfl (by decide) rfl (fun _ => ?_) (fun (h : ¬ ((70 : Int32) ≠ (91 : Int32))) => absurd (by decide) h)
    refine Go.run (B := B_eft) td_eft 13 4 (pc' := 32) (L' := [.val (.ref s), .val (.int (0 : Int32)), .val (.int (0 : Int32)), .unset]) (S' := [.int (255 : Int32), .int ((0 : Int32) - (0 : Int32))]) rfl ?_
    refine Go.icmp (B := B_eft) td_eft 17 (pc' := 43) rfl (by decide) rfl (fun (h : ((0 : Int32) - (0 : Int32)) > (255 : Int32)) => absurd h (by decide)) (fun _ => ?_)
    refine Go.run (B := B_eft) td_eft 18 2 (pc' := 37) (L' := [.val (.ref s), .val (.int (0 : Int32)), .val (.int (0 : Int32)), .unset]) (S' := [.ref s, .int (0 : Int32)]) rfl ?_
    refine Go.callV (B := B_eft) td_eft 20 (B' := B_len) (C := "java/lang/String") (a := s) (argsL := []) (rest := [.int (0 : Int32)]) (W := 1) rfl (lenR_met K (by exact own_le rfl) m) (Or.inr hm) (fun c P => P.1) (w_89 K) (w_90 K) (w_91 K) (w_92 K) (w_92 K) (w_11 K) (w_93 K) (by decide) pd_len rfl rfl rfl rfl (Nat.le_of_eq rfl) (by decide) (by decide) (by decide) (by decide) ?_
    rintro _ _ _ ⟨rfl, rfl, rfl⟩
    show Go A B_eft D _ 40 [.val (.ref s), .val (.int (0 : Int32)), .val (.int (0 : Int32)), .unset] [.int (1 : Int32), .int (0 : Int32)] F G 0 0
    refine Go.icmp (B := B_eft) td_eft 21 (pc' := 45) rfl (by decide) rfl (fun _ => ?_) (fun (h : ¬ ((0 : Int32) ≠ (1 : Int32))) => absurd (by decide) h)
    refine Go.run (B := B_eft) td_eft 24 2 (pc' := 47) (L' := [.val (.ref s), .val (.int (0 : Int32)), .val (.int (0 : Int32)), .unset]) (S' := [.int (0 : Int32), .ref s]) rfl ?_
    refine Go.callV (B := B_eft) td_eft 26 (B' := B_cha) (C := "java/lang/String") (a := s) (argsL := [.int (0 : Int32)]) (rest := []) (W := 0) rfl (chaR_met K (pre := []) (suf := []) (c := 70) rfl rfl (by exact own_le rfl) m) (Or.inr hm) (fun c P => P.1) (w_102 K) (w_19 K) (w_20 K) (w_21 K) (w_21 K) (w_11 K) (w_22 K) (by decide) pd_cha rfl rfl rfl rfl (Nat.le_of_eq rfl) (by decide) (by decide) (by decide) (by decide) ?_
    rintro _ _ _ ⟨rfl, rfl, rfl⟩
    show Go A B_eft D _ 50 [.val (.ref s), .val (.int (0 : Int32)), .val (.int (0 : Int32)), .unset] [.int (70 : Int32)] F G 0 0
    refine Go.tswIn (B := B_eft) td_eft 27 (o := 114) (pc' := 164) rfl (by decide) rfl (by decide) rfl ?_
    refine Go.run (B := B_eft) td_eft 28 4 (pc' := 204) (L' := [.val (.ref s), .val (.int (0 : Int32)), .val (.int (0 : Int32)), .unset]) (S' := [.int ((0 : Int32) + (1 : Int32))]) rfl ?_
    exact Go.retI (B := B_eft) td_eft 53 rfl rfl ⟨rfl, rfl, rfl⟩ (by decide) (by decide)
  · refine Go.run (B := B_eft) td_eft 0 4 (pc' := 4) (L' := [.val (.ref s), .val (.int (0 : Int32)), .val (.int (0 : Int32)), .unset]) (S' := [.ref s, .int (0 : Int32)]) rfl ?_
    refine Go.callV (B := B_eft) td_eft 4 (B' := B_len) (C := "java/lang/String") (a := s) (argsL := []) (rest := [.int (0 : Int32)]) (W := 1) rfl (lenR_met K (by exact own_le rfl) m) (Or.inr hm) (fun c P => P.1) (w_89 K) (w_90 K) (w_91 K) (w_92 K) (w_92 K) (w_11 K) (w_93 K) (by decide) pd_len rfl rfl rfl rfl (Nat.le_of_eq rfl) (by decide) (by decide) (by decide) (by decide) ?_
    rintro _ _ _ ⟨rfl, rfl, rfl⟩
    show Go A B_eft D _ 7 [.val (.ref s), .val (.int (0 : Int32)), .val (.int (0 : Int32)), .unset] [.int (1 : Int32), .int (0 : Int32)] F G 0 0
    refine Go.icmp (B := B_eft) td_eft 5 (pc' := 26) rfl (by decide) rfl (fun (h : (0 : Int32) ≥ (1 : Int32)) => absurd h (by decide)) (fun _ => ?_)
    refine Go.run (B := B_eft) td_eft 6 2 (pc' := 12) (L' := [.val (.ref s), .val (.int (0 : Int32)), .val (.int (0 : Int32)), .unset]) (S' := [.int (0 : Int32), .ref s]) rfl ?_
    refine Go.callV (B := B_eft) td_eft 8 (B' := B_cha) (C := "java/lang/String") (a := s) (argsL := [.int (0 : Int32)]) (rest := []) (W := 0) rfl (chaR_met K (pre := []) (suf := []) (c := 73) rfl rfl (by exact own_le rfl) m) (Or.inr hm) (fun c P => P.1) (w_102 K) (w_19 K) (w_20 K) (w_21 K) (w_21 K) (w_11 K) (w_22 K) (by decide) pd_cha rfl rfl rfl rfl (Nat.le_of_eq rfl) (by decide) (by decide) (by decide) (by decide) ?_
    rintro _ _ _ ⟨rfl, rfl, rfl⟩
    show Go A B_eft D _ 15 [.val (.ref s), .val (.int (0 : Int32)), .val (.int (0 : Int32)), .unset] [.int (73 : Int32)] F G 0 0
    refine Go.run (B := B_eft) td_eft 9 1 (pc' := 17) (L' := [.val (.ref s), .val (.int (0 : Int32)), .val (.int (0 : Int32)), .unset]) (S' := [.int (91 : Int32), .int (73 : Int32)]) rfl ?_
    refine Go.icmp (B := B_eft) td_eft 10 (pc' := 26) rfl (by decide) rfl (fun _ => ?_) (fun (h : ¬ ((73 : Int32) ≠ (91 : Int32))) => absurd (by decide) h)
    refine Go.run (B := B_eft) td_eft 13 4 (pc' := 32) (L' := [.val (.ref s), .val (.int (0 : Int32)), .val (.int (0 : Int32)), .unset]) (S' := [.int (255 : Int32), .int ((0 : Int32) - (0 : Int32))]) rfl ?_
    refine Go.icmp (B := B_eft) td_eft 17 (pc' := 43) rfl (by decide) rfl (fun (h : ((0 : Int32) - (0 : Int32)) > (255 : Int32)) => absurd h (by decide)) (fun _ => ?_)
    refine Go.run (B := B_eft) td_eft 18 2 (pc' := 37) (L' := [.val (.ref s), .val (.int (0 : Int32)), .val (.int (0 : Int32)), .unset]) (S' := [.ref s, .int (0 : Int32)]) rfl ?_
    refine Go.callV (B := B_eft) td_eft 20 (B' := B_len) (C := "java/lang/String") (a := s) (argsL := []) (rest := [.int (0 : Int32)]) (W := 1) rfl (lenR_met K (by exact own_le rfl) m) (Or.inr hm) (fun c P => P.1) (w_89 K) (w_90 K) (w_91 K) (w_92 K) (w_92 K) (w_11 K) (w_93 K) (by decide) pd_len rfl rfl rfl rfl (Nat.le_of_eq rfl) (by decide) (by decide) (by decide) (by decide) ?_
    rintro _ _ _ ⟨rfl, rfl, rfl⟩
    show Go A B_eft D _ 40 [.val (.ref s), .val (.int (0 : Int32)), .val (.int (0 : Int32)), .unset] [.int (1 : Int32), .int (0 : Int32)] F G 0 0
    refine Go.icmp (B := B_eft) td_eft 21 (pc' := 45) rfl (by decide) rfl (fun _ => ?_) (fun (h : ¬ ((0 : Int32) ≠ (1 : Int32))) => absurd (by decide) h)
    refine Go.run (B := B_eft) td_eft 24 2 (pc' := 47) (L' := [.val (.ref s), .val (.int (0 : Int32)), .val (.int (0 : Int32)), .unset]) (S' := [.int (0 : Int32), .ref s]) rfl ?_
    refine Go.callV (B := B_eft) td_eft 26 (B' := B_cha) (C := "java/lang/String") (a := s) (argsL := [.int (0 : Int32)]) (rest := []) (W := 0) rfl (chaR_met K (pre := []) (suf := []) (c := 73) rfl rfl (by exact own_le rfl) m) (Or.inr hm) (fun c P => P.1) (w_102 K) (w_19 K) (w_20 K) (w_21 K) (w_21 K) (w_11 K) (w_22 K) (by decide) pd_cha rfl rfl rfl rfl (Nat.le_of_eq rfl) (by decide) (by decide) (by decide) (by decide) ?_
    rintro _ _ _ ⟨rfl, rfl, rfl⟩
    show Go A B_eft D _ 50 [.val (.ref s), .val (.int (0 : Int32)), .val (.int (0 : Int32)), .unset] [.int (73 : Int32)] F G 0 0
    refine Go.tswIn (B := B_eft) td_eft 27 (o := 114) (pc' := 164) rfl (by decide) rfl (by decide) rfl ?_
    refine Go.run (B := B_eft) td_eft 28 4 (pc' := 204) (L' := [.val (.ref s), .val (.int (0 : Int32)), .val (.int (0 : Int32)), .unset]) (S' := [.int ((0 : Int32) + (1 : Int32))]) rfl ?_
    exact Go.retI (B := B_eft) td_eft 53 rfl rfl ⟨rfl, rfl, rfl⟩ (by decide) (by decide)
  · refine Go.run (B := B_eft) td_eft 0 4 (pc' := 4) (L' := [.val (.ref s), .val (.int (0 : Int32)), .val (.int (0 : Int32)), .unset]) (S' := [.ref s, .int (0 : Int32)]) rfl ?_
    refine Go.callV (B := B_eft) td_eft 4 (B' := B_len) (C := "java/lang/String") (a := s) (argsL := []) (rest := [.int (0 : Int32)]) (W := 1) rfl (lenR_met K (by exact own_le rfl) m) (Or.inr hm) (fun c P => P.1) (w_89 K) (w_90 K) (w_91 K) (w_92 K) (w_92 K) (w_11 K) (w_93 K) (by decide) pd_len rfl rfl rfl rfl (Nat.le_of_eq rfl) (by decide) (by decide) (by decide) (by decide) ?_
    rintro _ _ _ ⟨rfl, rfl, rfl⟩
    show Go A B_eft D _ 7 [.val (.ref s), .val (.int (0 : Int32)), .val (.int (0 : Int32)), .unset] [.int (1 : Int32), .int (0 : Int32)] F G 0 0
    refine Go.icmp (B := B_eft) td_eft 5 (pc' := 26) rfl (by decide) rfl (fun (h : (0 : Int32) ≥ (1 : Int32)) => absurd h (by decide)) (fun _ => ?_)
    refine Go.run (B := B_eft) td_eft 6 2 (pc' := 12) (L' := [.val (.ref s), .val (.int (0 : Int32)), .val (.int (0 : Int32)), .unset]) (S' := [.int (0 : Int32), .ref s]) rfl ?_
    refine Go.callV (B := B_eft) td_eft 8 (B' := B_cha) (C := "java/lang/String") (a := s) (argsL := [.int (0 : Int32)]) (rest := []) (W := 0) rfl (chaR_met K (pre := []) (suf := []) (c := 74) rfl rfl (by exact own_le rfl) m) (Or.inr hm) (fun c P => P.1) (w_102 K) (w_19 K) (w_20 K) (w_21 K) (w_21 K) (w_11 K) (w_22 K) (by decide) pd_cha rfl rfl rfl rfl (Nat.le_of_eq rfl) (by decide) (by decide) (by decide) (by decide) ?_
    rintro _ _ _ ⟨rfl, rfl, rfl⟩
    show Go A B_eft D _ 15 [.val (.ref s), .val (.int (0 : Int32)), .val (.int (0 : Int32)), .unset] [.int (74 : Int32)] F G 0 0
    refine Go.run (B := B_eft) td_eft 9 1 (pc' := 17) (L' := [.val (.ref s), .val (.int (0 : Int32)), .val (.int (0 : Int32)), .unset]) (S' := [.int (91 : Int32), .int (74 : Int32)]) rfl ?_
    refine Go.icmp (B := B_eft) td_eft 10 (pc' := 26) rfl (by decide) rfl (fun _ => ?_) (fun (h : ¬ ((74 : Int32) ≠ (91 : Int32))) => absurd (by decide) h)
    refine Go.run (B := B_eft) td_eft 13 4 (pc' := 32) (L' := [.val (.ref s), .val (.int (0 : Int32)), .val (.int (0 : Int32)), .unset]) (S' := [.int (255 : Int32), .int ((0 : Int32) - (0 : Int32))]) rfl ?_
    refine Go.icmp (B := B_eft) td_eft 17 (pc' := 43) rfl (by decide) rfl (fun (h : ((0 : Int32) - (0 : Int32)) > (255 : Int32)) => absurd h (by decide)) (fun _ => ?_)
    refine Go.run (B := B_eft) td_eft 18 2 (pc' := 37) (L' := [.val (.ref s), .val (.int (0 : Int32)), .val (.int (0 : Int32)), .unset]) (S' := [.ref s, .int (0 : Int32)]) rfl ?_
    refine Go.callV (B := B_eft) td_eft 20 (B' := B_len) (C := "java/lang/String") (a := s) (argsL := []) (rest := [.int (0 : Int32)]) (W := 1) rfl (lenR_met K (by exact own_le rfl) m) (Or.inr hm) (fun c P => P.1) (w_89 K) (w_90 K) (w_91 K) (w_92 K) (w_92 K) (w_11 K) (w_93 K) (by decide) pd_len rfl rfl rfl rfl (Nat.le_of_eq rfl) (by decide) (by decide) (by decide) (by decide) ?_
    rintro _ _ _ ⟨rfl, rfl, rfl⟩
    show Go A B_eft D _ 40 [.val (.ref s), .val (.int (0 : Int32)), .val (.int (0 : Int32)), .unset] [.int (1 : Int32), .int (0 : Int32)] F G 0 0
    refine Go.icmp (B := B_eft) td_eft 21 (pc' := 45) rfl (by decide) rfl (fun _ => ?_) (fun (h : ¬ ((0 : Int32) ≠ (1 : Int32))) => absurd (by decide) h)
    refine Go.run (B := B_eft) td_eft 24 2 (pc' := 47) (L' := [.val (.ref s), .val (.int (0 : Int32)), .val (.int (0 : Int32)), .unset]) (S' := [.int (0 : Int32), .ref s]) rfl ?_
    refine Go.callV (B := B_eft) td_eft 26 (B' := B_cha) (C := "java/lang/String") (a := s) (argsL := [.int (0 : Int32)]) (rest := []) (W := 0) rfl (chaR_met K (pre := []) (suf := []) (c := 74) rfl rfl (by exact own_le rfl) m) (Or.inr hm) (fun c P => P.1) (w_102 K) (w_19 K) (w_20 K) (w_21 K) (w_21 K) (w_11 K) (w_22 K) (by decide) pd_cha rfl rfl rfl rfl (Nat.le_of_eq rfl) (by decide) (by decide) (by decide) (by decide) ?_
    rintro _ _ _ ⟨rfl, rfl, rfl⟩
    show Go A B_eft D _ 50 [.val (.ref s), .val (.int (0 : Int32)), .val (.int (0 : Int32)), .unset] [.int (74 : Int32)] F G 0 0
    refine Go.tswIn (B := B_eft) td_eft 27 (o := 114) (pc' := 164) rfl (by decide) rfl (by decide) rfl ?_
    refine Go.run (B := B_eft) td_eft 28 4 (pc' := 204) (L' := [.val (.ref s), .val (.int (0 : Int32)), .val (.int (0 : Int32)), .unset]) (S' := [.int ((0 : Int32) + (1 : Int32))]) rfl ?_
    exact Go.retI (B := B_eft) td_eft 53 rfl rfl ⟨rfl, rfl, rfl⟩ (by decide) (by decide)
  · refine Go.run (B := B_eft) td_eft 0 4 (pc' := 4) (L' := [.val (.ref s), .val (.int (0 : Int32)), .val (.int (0 : Int32)), .unset]) (S' := [.ref s, .int (0 : Int32)]) rfl ?_
    refine Go.callV (B := B_eft) td_eft 4 (B' := B_len) (C := "java/lang/String") (a := s) (argsL := []) (rest := [.int (0 : Int32)]) (W := 1) rfl (lenR_met K (by exact own_le rfl) m) (Or.inr hm) (fun c P => P.1) (w_89 K) (w_90 K) (w_91 K) (w_92 K) (w_92 K) (w_11 K) (w_93 K) (by decide) pd_len rfl rfl rfl rfl (Nat.le_of_eq rfl) (by decide) (by decide) (by decide) (by decide) ?_
    rintro _ _ _ ⟨rfl, rfl, rfl⟩
    show Go A B_eft D _ 7 [.val (.ref s), .val (.int (0 : Int32)), .val (.int (0 : Int32)), .unset] [.int (1 : Int32), .int (0 : Int32)] F G 0 0
    refine Go.icmp (B := B_eft) td_eft 5 (pc' := 26) rfl (by decide) rfl (fun (h : (0 : Int32) ≥ (1 : Int32)) => absurd h (by decide)) (fun _ => ?_)
    refine Go.run (B := B_eft) td_eft 6 2 (pc' := 12) (L' := [.val (.ref s), .val (.int (0 : Int32)), .val (.int (0 : Int32)), .unset]) (S' := [.int (0 : Int32), .ref s]) rfl ?_
    refine Go.callV (B := B_eft) td_eft 8 (B' := B_cha) (C := "java/lang/String") (a := s) (argsL := [.int (0 : Int32)]) (rest := []) (W := 0) rfl (chaR_met K (pre := []) (suf := []) (c := 83) rfl rfl (by exact own_le rfl) m) (Or.inr hm) (fun c P => P.1) (w_102 K) (w_19 K) (w_20 K) (w_21 K) (w_21 K) (w_11 K) (w_22 K) (by decide) pd_cha rfl rfl rfl rfl (Nat.le_of_eq rfl) (by decide) (by decide) (by decide) (by decide) ?_
    rintro _ _ _ ⟨rfl, rfl, rfl⟩
    show Go A B_eft D _ 15 [.val (.ref s), .val (.int (0 : Int32)), .val (.int (0 : Int32)), .unset] [.int (83 : Int32)] F G 0 0
    refine Go.run (B := B_eft) td_eft 9 1 (pc' := 17) (L' := [.val (.ref s), .val (.int (0 : Int32)), .val (.int (0 : Int32)), .unset]) (S' := [.int (91 : Int32), .int (83 : Int32)]) rfl ?_
    refine Go.icmp (B := B_eft) td_eft 10 (pc' := 26) rfl (by decide) rfl (fun _ => ?_) (fun (h : ¬ ((83 : Int32) ≠ (91 : Int32))) => absurd (by decide) h)
    refine Go.run (B := B_eft) td_eft 13 4 (pc' := 32) (L' := [.val (.ref s), .val (.int (0 : Int32)), .val (.int (0 : Int32)), .unset]) (S' := [.int (255 : Int32), .int ((0 : Int32) - (0 : Int32))]) rfl ?_
    refine Go.icmp (B := B_eft) td_eft 17 (pc' := 43) rfl (by decide) rfl (fun (h : ((0 : Int32) - (0 : Int32)) > (255 : Int32)) => absurd h (by decide)) (fun _ => ?_)
    refine Go.run (B := B_eft) td_eft 18 2 (pc' := 37) (L' := [.val (.ref s), .val (.int (0 : Int32)), .val (.int (0 : Int32)), .unset]) (S' := [.ref s, .int (0 : Int32)]) rfl ?_
    refine Go.callV (B := B_eft) td_eft 20 (B' := B_len) (C := "java/lang/String") (a := s) (argsL := []) (rest := [.int (0 : Int32)]) (W := 1) rfl (lenR_met K (by exact own_le rfl) m) (Or.inr hm) (fun c P => P.1) (w_89 K) (w_90 K) (w_91 K) (w_92 K) (w_92 K) (w_11 K) (w_93 K) (by decide) pd_len rfl rfl rfl rfl (Nat.le_of_eq rfl) (by decide) (by decide) (by decide) (by decide) ?_
    rintro _ _ _ ⟨rfl, rfl, rfl⟩
    show Go A B_eft D _ 40 [.val (.ref s), .val (.int (0 : Int32)), .val (.int (0 : Int32)), .unset] [.int (1 : Int32), .int (0 : Int32)] F G 0 0
    refine Go.icmp (B := B_eft) td_eft 21 (pc' := 45) rfl (by decide) rfl (fun _ => ?_) (fun (h : ¬ ((0 : Int32) ≠ (1 : Int32))) => absurd (by decide) h)
    refine Go.run (B := B_eft) td_eft 24 2 (pc' := 47) (L' := [.val (.ref s), .val (.int (0 : Int32)), .val (.int (0 : Int32)), .unset]) (S' := [.int (0 : Int32), .ref s]) rfl ?_
    refine Go.callV (B := B_eft) td_eft 26 (B' := B_cha) (C := "java/lang/String") (a := s) (argsL := [.int (0 : Int32)]) (rest := []) (W := 0) rfl (chaR_met K (pre := []) (suf := []) (c := 83) rfl rfl (by exact own_le rfl) m) (Or.inr hm) (fun c P => P.1) (w_102 K) (w_19 K) (w_20 K) (w_21 K) (w_21 K) (w_11 K) (w_22 K) (by decide) pd_cha rfl rfl rfl rfl (Nat.le_of_eq rfl) (by decide) (by decide) (by decide) (by decide) ?_
    rintro _ _ _ ⟨rfl, rfl, rfl⟩
    show Go A B_eft D _ 50 [.val (.ref s), .val (.int (0 : Int32)), .val (.int (0 : Int32)), .unset] [.int (83 : Int32)] F G 0 0
    refine Go.tswIn (B := B_eft) td_eft 27 (o := 114) (pc' := 164) rfl (by decide) rfl (by decide) rfl ?_
    refine Go.run (B := B_eft) td_eft 28 4 (pc' := 204) (L' := [.val (.ref s), .val (.int (0 : Int32)), .val (.int (0 : Int32)), .unset]) (S' := [.int ((0 : Int32) + (1 : Int32))]) rfl ?_
    exact Go.retI (B := B_eft) td_eft 53 rfl rfl ⟨rfl, rfl, rfl⟩ (by decide) (by decide)
  · refine Go.run (B := B_eft) td_eft 0 4 (pc' := 4) (L' := [.val (.ref s), .val (.int (0 : Int32)), .val (.int (0 : Int32)), .unset]) (S' := [.ref s, .int (0 : Int32)]) rfl ?_
    refine Go.callV (B := B_eft) td_eft 4 (B' := B_len) (C := "java/lang/String") (a := s) (argsL := []) (rest := [.int (0 : Int32)]) (W := 1) rfl (lenR_met K (by exact own_le rfl) m) (Or.inr hm) (fun c P => P.1) (w_89 K) (w_90 K) (w_91 K) (w_92 K) (w_92 K) (w_11 K) (w_93 K) (by decide) pd_len rfl rfl rfl rfl (Nat.le_of_eq rfl) (by decide) (by decide) (by decide) (by decide) ?_
    rintro _ _ _ ⟨rfl, rfl, rfl⟩
    show Go A B_eft D _ 7 [.val (.ref s), .val (.int (0 : Int32)), .val (.int (0 : Int32)), .unset] [.int (1 : Int32), .int (0 : Int32)] F G 0 0
    refine Go.icmp (B := B_eft) td_eft 5 (pc' := 26) rfl (by decide) rfl (fun (h : (0 : Int32) ≥ (1 : Int32)) => absurd h (by decide)) (fun _ => ?_)
    refine Go.run (B := B_eft) td_eft 6 2 (pc' := 12) (L' := [.val (.ref s), .val (.int (0 : Int32)), .val (.int (0 : Int32)), .unset]) (S' := [.int (0 : Int32), .ref s]) rfl ?_
    refine Go.callV (B := B_eft) td_eft 8 (B' := B_cha) (C := "java/lang/String") (a := s) (argsL := [.int (0 : Int32)]) (rest := []) (W := 0) rfl (chaR_met K (pre := []) (suf := []) (c := 90) rfl rfl (by exact own_le rfl) m) (Or.inr hm) (fun c P => P.1) (w_102 K) (w_19 K) (w_20 K) (w_21 K) (w_21 K) (w_11 K) (w_22 K) (by decide) pd_cha rfl rfl rfl rfl (Nat.le_of_eq rfl) (by decide) (by decide) (by decide) (by decide) ?_
    rintro _ _ _ ⟨rfl, rfl, rfl⟩
    show Go A B_eft D _ 15 [.val (.ref s), .val (.int (0 : Int32)), .val (.int (0 : Int32)), .unset] [.int (90 : Int32)] F G 0 0
    refine Go.run (B := B_eft) td_eft 9 1 (pc' := 17) (L' := [.val (.ref s), .val (.int (0 : Int32)), .val (.int (0 : Int32)), .unset]) (S' := [.int (91 : Int32), .int (90 : Int32)]) rfl ?_
    refine Go.icmp (B := B_eft) td_eft 10 (pc' := 26) rfl (by decide) rfl (fun _ => ?_) (fun (h : ¬ ((90 : Int32) ≠ (91 : Int32))) => absurd (by decide) h)
    refine Go.run (B := B_eft) td_eft 13 4 (pc' := 32) (L' := [.val (.ref s), .val (.int (0 : Int32)), .val (.int (0 : Int32)), .unset]) (S' := [.int (255 : Int32), .int ((0 : Int32) - (0 : Int32))]) rfl ?_
    refine Go.icmp (B := B_eft) td_eft 17 (pc' := 43) rfl (by decide) rfl (fun (h : ((0 : Int32) - (0 : Int32)) > (255 : Int32)) => absurd h (by decide)) (fun _ => ?_)
    refine Go.run (B := B_eft) td_eft 18 2 (pc' := 37) (L' := [.val (.ref s), .val (.int (0 : Int32)), .val (.int (0 : Int32)), .unset]) (S' := [.ref s, .int (0 : Int32)]) rfl ?_
    refine Go.callV (B := B_eft) td_eft 20 (B' := B_len) (C := "java/lang/String") (a := s) (argsL := []) (rest := [.int (0 : Int32)]) (W := 1) rfl (lenR_met K (by exact own_le rfl) m) (Or.inr hm) (fun c P => P.1) (w_89 K) (w_90 K) (w_91 K) (w_92 K) (w_92 K) (w_11 K) (w_93 K) (by decide) pd_len rfl rfl rfl rfl (Nat.le_of_eq rfl) (by decide) (by decide) (by decide) (by decide) ?_
    rintro _ _ _ ⟨rfl, rfl, rfl⟩
    show Go A B_eft D _ 40 [.val (.ref s), .val (.int (0 : Int32)), .val (.int (0 : Int32)), .unset] [.int (1 : Int32), .int (0 : Int32)] F G 0 0
    refine Go.icmp (B := B_eft) td_eft 21 (pc' := 45) rfl (by decide) rfl (fun _ => ?_) (fun (h : ¬ ((0 : Int32) ≠ (1 : Int32))) => absurd (by decide) h)
    refine Go.run (B := B_eft) td_eft 24 2 (pc' := 47) (L' := [.val (.ref s), .val (.int (0 : Int32)), .val (.int (0 : Int32)), .unset]) (S' := [.int (0 : Int32), .ref s]) rfl ?_
    refine Go.callV (B := B_eft) td_eft 26 (B' := B_cha) (C := "java/lang/String") (a := s) (argsL := [.int (0 : Int32)]) (rest := []) (W := 0) rfl (chaR_met K (pre := []) (suf := []) (c := 90) rfl rfl (by exact own_le rfl) m) (Or.inr hm) (fun c P => P.1) (w_102 K) (w_19 K) (w_20 K) (w_21 K) (w_21 K) (w_11 K) (w_22 K) (by decide) pd_cha rfl rfl rfl rfl (Nat.le_of_eq rfl) (by decide) (by decide) (by decide) (by decide) ?_
    rintro _ _ _ ⟨rfl, rfl, rfl⟩
    show Go A B_eft D _ 50 [.val (.ref s), .val (.int (0 : Int32)), .val (.int (0 : Int32)), .unset] [.int (90 : Int32)] F G 0 0
    refine Go.tswIn (B := B_eft) td_eft 27 (o := 114) (pc' := 164) rfl (by decide) rfl (by decide) rfl ?_
    refine Go.run (B := B_eft) td_eft 28 4 (pc' := 204) (L' := [.val (.ref s), .val (.int (0 : Int32)), .val (.int (0 : Int32)), .unset]) (S' := [.int ((0 : Int32) + (1 : Int32))]) rfl ?_
    exact Go.retI (B := B_eft) td_eft 53 rfl rfl ⟨rfl, rfl, rfl⟩ (by decide) (by decide)
set_option maxRecDepth 65536 in
set_option maxHeartbeats 4000000 in
theorem eft1_met {A : Ax} (K : Wd A) {s : Addr} {p r : Int32} (hp : Pm p) {F G : List Ent} (m : StrL A G s [40, p, 41, r]) : Met A B_eft #[.ref s, .int (1 : Int32)] F G (fun v F' G' => v = some (.int 2) ∧ F = F' ∧ G = G') := by
  refine MetW.of_go pn_eft K.ew (L := [.val (.ref s), .val (.int (1 : Int32)), .unset, .unset]) (fun m => rfl) ?_
  intro D _
  obtain ⟨bS, cdS, hm⟩ := m.obj
  rcases hp with rfl | rfl | rfl | rfl | rfl | rfl | rfl | rfl
  · refine Go.run (B := B_eft) td_eft 0 4 (pc' := 4) (L' := [.val (.ref s), .val (.int (1 : Int32)), .val (.int (1 : Int32)), .unset]) (S' := [.ref s, .int (1 : Int32)]) rfl ?_
    refine Go.callV (B := B_eft) td_eft 4 (B' := B_len) (C := "java/lang/String") (a := s) (argsL := []) (rest := [.int (1 : Int32)]) (W := 1) rfl (lenR_met K (by exact own_le rfl) m) (Or.inr hm) (fun c P => P.1) (w_89 K) (w_90 K) (w_91 K) (w_92 K) (w_92 K) (w_11 K) (w_93 K) (by decide) pd_len rfl rfl rfl rfl (Nat.le_of_eq rfl) (by decide) (by decide) (by decide) (by decide) ?_
    rintro _ _ _ ⟨rfl, rfl, rfl⟩
    show Go A B_eft D _ 7 [.val (.ref s), .val (.int (1 : Int32)), .val (.int (1 : Int32)), .unset] [.int (4 : Int32), .int (1 : Int32)] F G 0 0
    refine Go.icmp (B := B_eft) td_eft 5 (pc' := 26) rfl (by decide) rfl (fun (h : (1 : Int32) ≥ (4 : Int32)) => absurd h (by decide)) (fun _ => ?_)
    refine Go.run (B := B_eft) td_eft 6 2 (pc' := 12) (L' := [.val (.ref s), .val (.int (1 : Int32)), .val (.int (1 : Int32)), .unset]) (S' := [.int (1 : Int32), .ref s]) rfl ?_
    refine Go.callV (B := B_eft) td_eft 8 (B' := B_cha) (C := "java/lang/String") (a := s) (argsL := [.int (1 : Int32)]) (rest := []) (W := 0) rfl (chaR_met K (pre := [40]) (suf := [41, r]) (c := 66) rfl rfl (by exact own_le rfl) m) (Or.inr hm) (fun c P => P.1) (w_102 K) (w_19 K) (w_20 K) (w_21 K) (w_21 K) (w_11 K) (w_22 K) (by decide) pd_cha rfl rfl rfl rfl (Nat.le_of_eq rfl) (by decide) (by decide) (by decide) (by decide) ?_
    rintro _ _ _ ⟨rfl, rfl, rfl⟩
    show Go A B_eft D _ 15 [.val (.ref s), .val (.int (1 : Int32)), .val (.int (1 : Int32)), .unset] [.int (66 : Int32)] F G 0 0
    refine Go.run (B := B_eft) td_eft 9 1 (pc' := 17) (L' := [.val (.ref s), .val (.int (1 : Int32)), .val (.int (1 : Int32)), .unset]) (S' := [.int (91 : Int32), .int (66 : Int32)]) rfl ?_
    refine Go.icmp (B := B_eft) td_eft 10 (pc' := 26) rfl (by decide) rfl (fun _ => ?_) (fun (h : ¬ ((66 : Int32) ≠ (91 : Int32))) => absurd (by decide) h)
    refine Go.run (B := B_eft) td_eft 13 4 (pc' := 32) (L' := [.val (.ref s), .val (.int (1 : Int32)), .val (.int (1 : Int32)), .unset]) (S' := [.int (255 : Int32), .int ((1 : Int32) - (1 : Int32))]) rfl ?_
    refine Go.icmp (B := B_eft) td_eft 17 (pc' := 43) rfl (by decide) rfl (fun (h : ((1 : Int32) - (1 : Int32)) > (255 : Int32)) => absurd h (by decide)) (fun _ => ?_)
    refine Go.run (B := B_eft) td_eft 18 2 (pc' := 37) (L' := [.val (.ref s), .val (.int (1 : Int32)), .val (.int (1 : Int32)), .unset]) (S' := [.ref s, .int (1 : Int32)]) rfl ?_
    refine Go.callV (B := B_eft) td_eft 20 (B' := B_len) (C := "java/lang/String") (a := s) (argsL := []) (rest := [.int (1 : Int32)]) (W := 1) rfl (lenR_met K (by exact own_le rfl) m) (Or.inr hm) (fun c P => P.1) (w_89 K) (w_90 K) (w_91 K) (w_92 K) (w_92 K) (w_11 K) (w_93 K) (by decide) pd_len rfl rfl rfl rfl (Nat.le_of_eq rfl) (by decide) (by decide) (by decide) (by decide) ?_
    rintro _ _ _ ⟨rfl, rfl, rfl⟩
    show Go A B_eft D _ 40 [.val (.ref s), .val (.int (1 : Int32)), .val (.int (1 : Int32)), .unset] [.int (4 : Int32), .int (1 : Int32)] F G 0 0
    refine Go.icmp (B := B_eft) td_eft 21 (pc' := 45) rfl (by decide) rfl (fun _ => ?_) (fun (h : ¬ ((1 : Int32) ≠ (4 : Int32))) => absurd (by decide) h)
    refine Go.run (B := B_eft) td_eft 24 2 (pc' := 47) (L' := [.val (.ref s), .val (.int (1 : Int32)), .val (.int (1 : Int32)), .unset]) (S' := [.int (1 : Int32), .ref s]) rfl ?_
    refine Go.callV (B := B_eft) td_eft 26 (B' := B_cha) (C := "java/lang/String") (a := s) (argsL := [.int (1 : Int32)]) (rest := []) (W := 0) rfl (chaR_met K (pre := [40]) (suf := [41, r]) (c := 66) rfl rfl (by exact own_le rfl) m) (Or.inr hm) (fun c P => P.1) (w_102 K) (w_19 K) (w_20 K) (w_21 K) (w_21 K) (w_11 K) (w_22 K) (by decide) pd_cha rfl rfl rfl rfl (Nat.le_of_eq rfl) (by decide) (by decide) (by decide) (by decide) ?_
    rintro _ _ _ ⟨rfl, rfl, rfl⟩
    show Go A B_eft D _ 50 [.val (.ref s), .val (.int (1 : Int32)), .val (.int (1 : Int32)), .unset] [.int (66 : Int32)] F G 0 0
    refine Go.tswIn (B := B_eft) td_eft 27 (o := 114) (pc' := 164) rfl (by decide) rfl (by decide) rfl ?_
    refine Go.run (B := B_eft) td_eft 28 4 (pc' := 204) (L' := [.val (.ref s), .val (.int (1 : Int32)), .val (.int (1 : Int32)), .unset]) (S' := [.int ((1 : Int32) + (1 : Int32))]) rfl ?_
    rw [show ((1 : Int32) + (1 : Int32)) = (2 : Int32) by decide]
    exact Go.retI (B := B_eft) td_eft 53 rfl rfl ⟨rfl, rfl, rfl⟩ (by decide) (by decide)
  · refine Go.run (B := B_eft) td_eft 0 4 (pc' := 4) (L' := [.val (.ref s), .val (.int (1 : Int32)), .val (.int (1 : Int32)), .unset]) (S' := [.ref s, .int (1 : Int32)]) rfl ?_
    refine Go.callV (B := B_eft) td_eft 4 (B' := B_len) (C := "java/lang/String") (a := s) (argsL := []) (rest := [.int (1 : Int32)]) (W := 1) rfl (lenR_met K (by exact own_le rfl) m) (Or.inr hm) (fun c P => P.1) (w_89 K) (w_90 K) (w_91 K) (w_92 K) (w_92 K) (w_11 K) (w_93 K) (by decide) pd_len rfl rfl rfl rfl (Nat.le_of_eq rfl) (by decide) (by decide) (by decide) (by decide) ?_
    rintro _ _ _ ⟨rfl, rfl, rfl⟩
    show Go A B_eft D _ 7 [.val (.ref s), .val (.int (1 : Int32)), .val (.int (1 : Int32)), .unset] [.int (4 : Int32), .int (1 : Int32)] F G 0 0
    refine Go.icmp (B := B_eft) td_eft 5 (pc' := 26) rfl (by decide) rfl (fun (h : (1 : Int32) ≥ (4 : Int32)) => absurd h (by decide)) (fun _ => ?_)
    refine Go.run (B := B_eft) td_eft 6 2 (pc' := 12) (L' := [.val (.ref s), .val (.int (1 : Int32)), .val (.int (1 : Int32)), .unset]) (S' := [.int (1 : Int32), .ref s]) rfl ?_
    refine Go.callV (B := B_eft) td_eft 8 (B' := B_cha) (C := "java/lang/String") (a := s) (argsL := [.int (1 : Int32)]) (rest := []) (W := 0) rfl (chaR_met K (pre := [40]) (suf := [41, r]) (c := 67) rfl rfl (by exact own_le rfl) m) (Or.inr hm) (fun c P => P.1) (w_102 K) (w_19 K) (w_20 K) (w_21 K) (w_21 K) (w_11 K) (w_22 K) (by decide) pd_cha rfl rfl rfl rfl (Nat.le_of_eq rfl) (by decide) (by decide) (by decide) (by decide) ?_
    rintro _ _ _ ⟨rfl, rfl, rfl⟩
    show Go A B_eft D _ 15 [.val (.ref s), .val (.int (1 : Int32)), .val (.int (1 : Int32)), .unset] [.int (67 : Int32)] F G 0 0
    refine Go.run (B := B_eft) td_eft 9 1 (pc' := 17) (L' := [.val (.ref s), .val (.int (1 : Int32)), .val (.int (1 : Int32)), .unset]) (S' := [.int (91 : Int32), .int (67 : Int32)]) rfl ?_
    refine Go.icmp (B := B_eft) td_eft 10 (pc' := 26) rfl (by decide) rfl (fun _ => ?_) (fun (h : ¬ ((67 : Int32) ≠ (91 : Int32))) => absurd (by decide) h)
    refine Go.run (B := B_eft) td_eft 13 4 (pc' := 32) (L' := [.val (.ref s), .val (.int (1 : Int32)), .val (.int (1 : Int32)), .unset]) (S' := [.int (255 : Int32), .int ((1 : Int32) - (1 : Int32))]) rfl ?_
    refine Go.icmp (B := B_eft) td_eft 17 (pc' := 43) rfl (by decide) rfl (fun (h : ((1 : Int32) - (1 : Int32)) > (255 : Int32)) => absurd h (by decide)) (fun _ => ?_)
    refine Go.run (B := B_eft) td_eft 18 2 (pc' := 37) (L' := [.val (.ref s), .val (.int (1 : Int32)), .val (.int (1 : Int32)), .unset]) (S' := [.ref s, .int (1 : Int32)]) rfl ?_
    refine Go.callV (B := B_eft) td_eft 20 (B' := B_len) (C := "java/lang/String") (a := s) (argsL := []) (rest := [.int (1 : Int32)]) (W := 1) rfl (lenR_met K (by exact own_le rfl) m) (Or.inr hm) (fun c P => P.1) (w_89 K) (w_90 K) (w_91 K) (w_92 K) (w_92 K) (w_11 K) (w_93 K) (by decide) pd_len rfl rfl rfl rfl (Nat.le_of_eq rfl) (by decide) (by decide) (by decide) (by decide) ?_
    rintro _ _ _ ⟨rfl, rfl, rfl⟩
    show Go A B_eft D _ 40 [.val (.ref s), .val (.int (1 : Int32)), .val (.int (1 : Int32)), .unset] [.int (4 : Int32), .int (1 : Int32)] F G 0 0
    refine Go.icmp (B := B_eft) td_eft 21 (pc' := 45) rfl (by decide) rfl (fun _ => ?_) (fun (h : ¬ ((1 : Int32) ≠ (4 : Int32))) => absurd (by decide) h)
    refine Go.run (B := B_eft) td_eft 24 2 (pc' := 47) (L' := [.val (.ref s), .val (.int (1 : Int32)), .val (.int (1 : Int32)), .unset]) (S' := [.int (1 : Int32), .ref s]) rfl ?_
    refine Go.callV (B := B_eft) td_eft 26 (B' := B_cha) (C := "java/lang/String") (a := s) (argsL := [.int (1 : Int32)]) (rest := []) (W := 0) rfl (chaR_met K (pre := [40]) (suf := [41, r]) (c := 67) rfl rfl (by exact own_le rfl) m) (Or.inr hm) (fun c P => P.1) (w_102 K) (w_19 K) (w_20 K) (w_21 K) (w_21 K) (w_11 K) (w_22 K) (by decide) pd_cha rfl rfl rfl rfl (Nat.le_of_eq rfl) (by decide) (by decide) (by decide) (by decide) ?_
    rintro _ _ _ ⟨rfl, rfl, rfl⟩
    show Go A B_eft D _ 50 [.val (.ref s), .val (.int (1 : Int32)), .val (.int (1 : Int32)), .unset] [.int (67 : Int32)] F G 0 0
    refine Go.tswIn (B := B_eft) td_eft 27 (o := 114) (pc' := 164) rfl (by decide) rfl (by decide) rfl ?_
    refine Go.run (B := B_eft) td_eft 28 4 (pc' := 204) (L' := [.val (.ref s), .val (.int (1 : Int32)), .val (.int (1 : Int32)), .unset]) (S' := [.int ((1 : Int32) + (1 : Int32))]) rfl ?_
    rw [show ((1 : Int32) + (1 : Int32)) = (2 : Int32) by decide]
    exact Go.retI (B := B_eft) td_eft 53 rfl rfl ⟨rfl, rfl, rfl⟩ (by decide) (by decide)
  · refine Go.run (B := B_eft) td_eft 0 4 (pc' := 4) (L' := [.val (.ref s), .val (.int (1 : Int32)), .val (.int (1 : Int32)), .unset]) (S' := [.ref s, .int (1 : Int32)]) rfl ?_
    refine Go.callV (B := B_eft) td_eft 4 (B' := B_len) (C := "java/lang/String") (a := s) (argsL := []) (rest := [.int (1 : Int32)]) (W := 1) rfl (lenR_met K (by exact own_le rfl) m) (Or.inr hm) (fun c P => P.1) (w_89 K) (w_90 K) (w_91 K) (w_92 K) (w_92 K) (w_11 K) (w_93 K) (by decide) pd_len rfl rfl rfl rfl (Nat.le_of_eq rfl) (by decide) (by decide) (by decide) (by decide) ?_
    rintro _ _ _ ⟨rfl, rfl, rfl⟩
    show Go A B_eft D _ 7 [.val (.ref s), .val (.int (1 : Int32)), .val (.int (1 : Int32)), .unset] [.int (4 : Int32), .int (1 : Int32)] F G 0 0
    refine Go.icmp (B := B_eft) td_eft 5 (pc' := 26) rfl (by decide) rfl (fun (h : (1 : Int32) ≥ (4 : Int32)) => absurd h (by decide)) (fun _ => ?_)
    refine Go.run (B := B_eft) td_eft 6 2 (pc' := 12) (L' := [.val (.ref s), .val (.int (1 : Int32)), .val (.int (1 : Int32)), .unset]) (S' := [.int (1 : Int32), .ref s]) rfl ?_
    refine Go.callV (B := B_eft) td_eft 8 (B' := B_cha) (C := "java/lang/String") (a := s) (argsL := [.int (1 : Int32)]) (rest := []) (W := 0) rfl (chaR_met K (pre := [40]) (suf := [41, r]) (c := 68) rfl rfl (by exact own_le rfl) m) (Or.inr hm) (fun c P => P.1) (w_102 K) (w_19 K) (w_20 K) (w_21 K) (w_21 K) (w_11 K) (w_22 K) (by decide) pd_cha rfl rfl rfl rfl (Nat.le_of_eq rfl) (by decide) (by decide) (by decide) (by decide) ?_
    rintro _ _ _ ⟨rfl, rfl, rfl⟩
    show Go A B_eft D _ 15 [.val (.ref s), .val (.int (1 : Int32)), .val (.int (1 : Int32)), .unset] [.int (68 : Int32)] F G 0 0
    refine Go.run (B := B_eft) td_eft 9 1 (pc' := 17) (L' := [.val (.ref s), .val (.int (1 : Int32)), .val (.int (1 : Int32)), .unset]) (S' := [.int (91 : Int32), .int (68 : Int32)]) rfl ?_
    refine Go.icmp (B := B_eft) td_eft 10 (pc' := 26) rfl (by decide) rfl (fun _ => ?_) (fun (h : ¬ ((68 : Int32) ≠ (91 : Int32))) => absurd (by decide) h)
    refine Go.run (B := B_eft) td_eft 13 4 (pc' := 32) (L' := [.val (.ref s), .val (.int (1 : Int32)), .val (.int (1 : Int32)), .unset]) (S' := [.int (255 : Int32), .int ((1 : Int32) - (1 : Int32))]) rfl ?_
    refine Go.icmp (B := B_eft) td_eft 17 (pc' := 43) rfl (by decide) rfl (fun (h : ((1 : Int32) - (1 : Int32)) > (255 : Int32)) => absurd h (by decide)) (fun _ => ?_)
    refine Go.run (B := B_eft) td_eft 18 2 (pc' := 37) (L' := [.val (.ref s), .val (.int (1 : Int32)), .val (.int (1 : Int32)), .unset]) (S' := [.ref s, .int (1 : Int32)]) rfl ?_
    refine Go.callV (B := B_eft) td_eft 20 (B' := B_len) (C := "java/lang/String") (a := s) (argsL := []) (rest := [.int (1 : Int32)]) (W := 1) rfl (lenR_met K (by exact own_le rfl) m) (Or.inr hm) (fun c P => P.1) (w_89 K) (w_90 K) (w_91 K) (w_92 K) (w_92 K) (w_11 K) (w_93 K) (by decide) pd_len rfl rfl rfl rfl (Nat.le_of_eq rfl) (by decide) (by decide) (by decide) (by decide) ?_
    rintro _ _ _ ⟨rfl, rfl, rfl⟩
    show Go A B_eft D _ 40 [.val (.ref s), .val (.int (1 : Int32)), .val (.int (1 : Int32)), .unset] [.int (4 : Int32), .int (1 : Int32)] F G 0 0
    refine Go.icmp (B := B_eft) td_eft 21 (pc' := 45) rfl (by decide) rfl (fun _ => ?_) (fun (h : ¬ ((1 : Int32) ≠ (4 : Int32))) => absurd (by decide) h)
    refine Go.run (B := B_eft) td_eft 24 2 (pc' := 47) (L' := [.val (.ref s), .val (.int (1 : Int32)), .val (.int (1 : Int32)), .unset]) (S' := [.int (1 : Int32), .ref s]) rfl ?_
    refine Go.callV (B := B_eft) td_eft 26 (B' := B_cha) (C := "java/lang/String") (a := s) (argsL := [.int (1 : Int32)]) (rest := []) (W := 0) rfl (chaR_met K (pre := [40]) (suf := [41, r]) (c := 68) rfl rfl (by exact own_le rfl) m) (Or.inr hm) (fun c P => P.1) (w_102 K) (w_19 K) (w_20 K) (w_21 K) (w_21 K) (w_11 K) (w_22 K) (by decide) pd_cha rfl rfl rfl rfl (Nat.le_of_eq rfl) (by decide) (by decide) (by decide) (by decide) ?_
    rintro _ _ _ ⟨rfl, rfl, rfl⟩
    show Go A B_eft D _ 50 [.val (.ref s), .val (.int (1 : Int32)), .val (.int (1 : Int32)), .unset] [.int (68 : Int32)] F G 0 0
    refine Go.tswIn (B := B_eft) td_eft 27 (o := 114) (pc' := 164) rfl (by decide) rfl (by decide) rfl ?_
    refine Go.run (B := B_eft) td_eft 28 4 (pc' := 204) (L' := [.val (.ref s), .val (.int (1 : Int32)), .val (.int (1 : Int32)), .unset]) (S' := [.int ((1 : Int32) + (1 : Int32))]) rfl ?_
    rw [show ((1 : Int32) + (1 : Int32)) = (2 : Int32) by decide]
    exact Go.retI (B := B_eft) td_eft 53 rfl rfl ⟨rfl, rfl, rfl⟩ (by decide) (by decide)
  · refine Go.run (B := B_eft) td_eft 0 4 (pc' := 4) (L' := [.val (.ref s), .val (.int (1 : Int32)), .val (.int (1 : Int32)), .unset]) (S' := [.ref s, .int (1 : Int32)]) rfl ?_
    refine Go.callV (B := B_eft) td_eft 4 (B' := B_len) (C := "java/lang/String") (a := s) (argsL := []) (rest := [.int (1 : Int32)]) (W := 1) rfl (lenR_met K (by exact own_le rfl) m) (Or.inr hm) (fun c P => P.1) (w_89 K) (w_90 K) (w_91 K) (w_92 K) (w_92 K) (w_11 K) (w_93 K) (by decide) pd_len rfl rfl rfl rfl (Nat.le_of_eq rfl) (by decide) (by decide) (by decide) (by decide) ?_
    rintro _ _ _ ⟨rfl, rfl, rfl⟩
    show Go A B_eft D _ 7 [.val (.ref s), .val (.int (1 : Int32)), .val (.int (1 : Int32)), .unset] [.int (4 : Int32), .int (1 : Int32)] F G 0 0
    refine Go.icmp (B := B_eft) td_eft 5 (pc' := 26) rfl (by decide) rfl (fun (h : (1 : Int32) ≥ (4 : Int32)) => absurd h (by decide)) (fun _ => ?_)
    refine Go.run (B := B_eft) td_eft 6 2 (pc' := 12) (L' := [.val (.ref s), .val (.int (1 : Int32)), .val (.int (1 : Int32)), .unset]) (S' := [.int (1 : Int32), .ref s]) rfl ?_
    refine Go.callV (B := B_eft) td_eft 8 (B' := B_cha) (C := "java/lang/String") (a := s) (argsL := [.int (1 : Int32)]) (rest := []) (W := 0) rfl (chaR_met K (pre := [40]) (suf := [41, r]) (c := 70) rfl rfl (by exact own_le rfl) m) (Or.inr hm) (fun c P => P.1) (w_102 K) (w_19 K) (w_20 K) (w_21 K) (w_21 K) (w_11 K) (w_22 K) (by decide) pd_cha rfl rfl rfl rfl (Nat.le_of_eq rfl) (by decide) (by decide) (by decide) (by decide) ?_
    rintro _ _ _ ⟨rfl, rfl, rfl⟩
    show Go A B_eft D _ 15 [.val (.ref s), .val (.int (1 : Int32)), .val (.int (1 : Int32)), .unset] [.int (70 : Int32)] F G 0 0
    refine Go.run (B := B_eft) td_eft 9 1 (pc' := 17) (L' := [.val (.ref s), .val (.int (1 : Int32)), .val (.int (1 : Int32)), .unset]) (S' := [.int (91 : Int32), .int (70 : Int32)]) rfl ?_
    refine Go.icmp (B := B_eft) td_eft 10 (pc' := 26) rfl (by decide) rfl (fun _ => ?_) (fun (h : ¬ ((70 : Int32) ≠ (91 : Int32))) => absurd (by decide) h)
    refine Go.run (B := B_eft) td_eft 13 4 (pc' := 32) (L' := [.val (.ref s), .val (.int (1 : Int32)), .val (.int (1 : Int32)), .unset]) (S' := [.int (255 : Int32), .int ((1 : Int32) - (1 : Int32))]) rfl ?_
    refine Go.icmp (B := B_eft) td_eft 17 (pc' := 43) rfl (by decide) rfl (fun (h : ((1 : Int32) - (1 : Int32)) > (255 : Int32)) => absurd h (by decide)) (fun _ => ?_)
    refine Go.run (B := B_eft) td_eft 18 2 (pc' := 37) (L' := [.val (.ref s), .val (.int (1 : Int32)), .val (.int (1 : Int32)), .unset]) (S' := [.ref s, .int (1 : Int32)]) rfl ?_
    refine Go.callV (B := B_eft) td_eft 20 (B' := B_len) (C := "java/lang/String") (a := s) (argsL := []) (rest := [.int (1 : Int32)]) (W := 1) rfl (lenR_met K (by exact own_le rfl) m) (Or.inr hm) (fun c P => P.1) (w_89 K) (w_90 K) (w_91 K) (w_92 K) (w_92 K) (w_11 K) (w_93 K) (by decide) pd_len rfl rfl rfl rfl (Nat.le_of_eq rfl) (by decide) (by decide) (by decide) (by decide) ?_
    rintro _ _ _ ⟨rfl, rfl, rfl⟩
    show Go A B_eft D _ 40 [.val (.ref s), .val (.int (1 : Int32)), .val (.int (1 : Int32)), .unset] [.int (4 : Int32), .int (1 : Int32)] F G 0 0
    refine Go.icmp (B := B_eft) td_eft 21 (pc' := 45) rfl (by decide) rfl (fun _ => ?_) (fun (h : ¬ ((1 : Int32) ≠ (4 : Int32))) => absurd (by decide) h)
    refine Go.run (B := B_eft) td_eft 24 2 (pc' := 47) (L' := [.val (.ref s), .val (.int (1 : Int32)), .val (.int (1 : Int32)), .unset]) (S' := [.int (1 : Int32), .ref s]) rfl ?_
    refine Go.callV (B := B_eft) td_eft 26 (B' := B_cha) (C := "java/lang/String") (a := s) (argsL := [.int (1 : Int32)]) (rest := []) (W := 0) rfl (chaR_met K (pre := [40]) (suf := [41, r]) (c := 70) rfl rfl (by exact own_le rfl) m) (Or.inr hm) (fun c P => P.1) (w_102 K) (w_19 K) (w_20 K) (w_21 K) (w_21 K) (w_11 K) (w_22 K) (by decide) pd_cha rfl rfl rfl rfl (Nat.le_of_eq rfl) (by decide) (by decide) (by decide) (by decide) ?_
    rintro _ _ _ ⟨rfl, rfl, rfl⟩
    show Go A B_eft D _ 50 [.val (.ref s), .val (.int (1 : Int32)), .val (.int (1 : Int32)), .unset] [.int (70 : Int32)] F G 0 0
    refine Go.tswIn (B := B_eft) td_eft 27 (o := 114) (pc' := 164) rfl (by decide) rfl (by decide) rfl ?_
    refine Go.run (B := B_eft) td_eft 28 4 (pc' := 204) (L' := [.val (.ref s), .val (.int (1 : Int32)), .val (.int (1 : Int32)), .unset]) (S' := [.int ((1 : Int32) + (1 : Int32))]) rfl ?_
    rw [show ((1 : Int32) + (1 : Int32)) = (2 : Int32) by decide]
    exact Go.retI (B := B_eft) td_eft 53 rfl rfl ⟨rfl, rfl, rfl⟩ (by decide) (by decide)
  · refine Go.run (B := B_eft) td_eft 0 4 (pc' := 4) (L' := [.val (.ref s), .val (.int (1 : Int32)), .val (.int (1 : Int32)), .unset]) (S' := [.ref s, .int (1 : Int32)]) rfl ?_
    refine Go.callV (B := B_eft) td_eft 4 (B' := B_len) (C := "java/lang/String") (a := s) (argsL := []) (rest := [.int (1 : Int32)]) (W := 1) rfl (lenR_met K (by exact own_le rfl) m) (Or.inr hm) (fun c P => P.1) (w_89 K) (w_90 K) (w_91 K) (w_92 K) (w_92 K) (w_11 K) (w_93 K) (by decide) pd_len rfl rfl rfl rfl (Nat.le_of_eq rfl) (by decide) (by decide) (by decide) (by decide) ?_
    rintro _ _ _ ⟨rfl, rfl, rfl⟩
    show Go A B_eft D _ 7 [.val (.ref s), .val (.int (1 : Int32)), .val (.int (1 : Int32)), .unset] [.int (4 : Int32), .int (1 : Int32)] F G 0 0
    refine Go.icmp (B := B_eft) td_eft 5 (pc' := 26) rfl (by decide) rfl (fun (h : (1 : Int32) ≥ (4 : Int32)) => absurd h (by decide)) (fun _ => ?_)
    refine Go.run (B := B_eft) td_eft 6 2 (pc' := 12) (L' := [.val (.ref s), .val (.int (1 : Int32)), .val (.int (1 : Int32)), .unset]) (S' := [.int (1 : Int32), .ref s]) rfl ?_
    refine Go.callV (B := B_eft) td_eft 8 (B' := B_cha) (C := "java/lang/String") (a := s) (argsL := [.int (1 : Int32)]) (rest := []) (W := 0) rfl (chaR_met K (pre := [40]) (suf := [41, r]) (c := 73) rfl rfl (by exact own_le rfl) m) (Or.inr hm) (fun c P => P.1) (w_102 K) (w_19 K) (w_20 K) (w_21 K) (w_21 K) (w_11 K) (w_22 K) (by decide) pd_cha rfl rfl rfl rfl (Nat.le_of_eq rfl) (by decide) (by decide) (by decide) (by decide) ?_
    rintro _ _ _ ⟨rfl, rfl, rfl⟩
    show Go A B_eft D _ 15 [.val (.ref s), .val (.int (1 : Int32)), .val (.int (1 : Int32)), .unset] [.int (73 : Int32)] F G 0 0
    refine Go.run (B := B_eft) td_eft 9 1 (pc' := 17) (L' := [.val (.ref s), .val (.int (1 : Int32)), .val (.int (1 : Int32)), .unset]) (S' := [.int (91 : Int32), .int (73 : Int32)]) rfl ?_
    refine Go.icmp (B := B_eft) td_eft 10 (pc' := 26) rfl (by decide) rfl (fun _ => ?_) (fun (h : ¬ ((73 : Int32) ≠ (91 : Int32))) => absurd (by decide) h)
    refine Go.run (B := B_eft) td_eft 13 4 (pc' := 32) (L' := [.val (.ref s), .val (.int (1 : Int32)), .val (.int (1 : Int32)), .unset]) (S' := [.int (255 : Int32), .int ((1 : Int32) - (1 : Int32))]) rfl ?_
    refine Go.icmp (B := B_eft) td_eft 17 (pc' := 43) rfl (by decide) rfl (fun (h : ((1 : Int32) - (1 : Int32)) > (255 : Int32)) => absurd h (by decide)) (fun _ => ?_)
    refine Go.run (B := B_eft) td_eft 18 2 (pc' := 37) (L' := [.val (.ref s), .val (.int (1 : Int32)), .val (.int (1 : Int32)), .unset]) (S' := [.ref s, .int (1 : Int32)]) rfl ?_
    refine Go.callV (B := B_eft) td_eft 20 (B' := B_len) (C := "java/lang/String") (a := s) (argsL := []) (rest := [.int (1 : Int32)]) (W := 1) rfl (lenR_met K (by exact own_le rfl) m) (Or.inr hm) (fun c P => P.1) (w_89 K) (w_90 K) (w_91 K) (w_92 K) (w_92 K) (w_11 K) (w_93 K) (by decide) pd_len rfl rfl rfl rfl (Nat.le_of_eq rfl) (by decide) (by decide) (by decide) (by decide) ?_
    rintro _ _ _ ⟨rfl, rfl, rfl⟩
    show Go A B_eft D _ 40 [.val (.ref s), .val (.int (1 : Int32)), .val (.int (1 : Int32)), .unset] [.int (4 : Int32), .int (1 : Int32)] F G 0 0
    refine Go.icmp (B := B_eft) td_eft 21 (pc' := 45) rfl (by decide) rfl (fun _ => ?_) (fun (h : ¬ ((1 : Int32) ≠ (4 : Int32))) => absurd (by decide) h)
    refine Go.run (B := B_eft) td_eft 24 2 (pc' := 47) (L' := [.val (.ref s), .val (.int (1 : Int32)), .val (.int (1 : Int32)), .unset]) (S' := [.int (1 : Int32), .ref s]) rfl ?_
    refine Go.callV (B := B_eft) td_eft 26 (B' := B_cha) (C := "java/lang/String") (a := s) (argsL := [.int (1 : Int32)]) (rest := []) (W := 0) rfl (chaR_met K (pre := [40]) (suf := [41, r]) (c := 73) rfl rfl (by exact own_le rfl) m) (Or.inr hm) (fun c P => P.1) (w_102 K) (w_19 K) (w_20 K) (w_21 K) (w_21 K) (w_11 K) (w_22 K) (by decide) pd_cha rfl rfl rfl rfl (Nat.le_of_eq rfl) (by decide) (by decide) (by decide) (by decide) ?_
    rintro _ _ _ ⟨rfl, rfl, rfl⟩
    show Go A B_eft D _ 50 [.val (.ref s), .val (.int (1 : Int32)), .val (.int (1 : Int32)), .unset] [.int (73 : Int32)] F G 0 0
    refine Go.tswIn (B := B_eft) td_eft 27 (o := 114) (pc' := 164) rfl (by decide) rfl (by decide) rfl ?_
    refine Go.run (B := B_eft) td_eft 28 4 (pc' := 204) (L' := [.val (.ref s), .val (.int (1 : Int32)), .val (.int (1 : Int32)), .unset]) (S' := [.int ((1 : Int32) + (1 : Int32))]) rfl ?_
    rw [show ((1 : Int32) + (1 : Int32)) = (2 : Int32) by decide]
    exact Go.retI (B := B_eft) td_eft 53 rfl rfl ⟨rfl, rfl, rfl⟩ (by decide) (by decide)
  · refine Go.run (B := B_eft) td_eft 0 4 (pc' := 4) (L' := [.val (.ref s), .val (.int (1 : Int32)), .val (.int (1 : Int32)), .unset]) (S' := [.ref s, .int (1 : Int32)]) rfl ?_
    refine Go.callV (B := B_eft) td_eft 4 (B' := B_len) (C := "java/lang/String") (a := s) (argsL := []) (rest := [.int (1 : Int32)]) (W := 1) rfl (lenR_met K (by exact own_le rfl) m) (Or.inr hm) (fun c P => P.1) (w_89 K) (w_90 K) (w_91 K) (w_92 K) (w_92 K) (w_11 K) (w_93 K) (by decide) pd_len rfl rfl rfl rfl (Nat.le_of_eq rfl) (by decide) (by decide) (by decide) (by decide) ?_
    rintro _ _ _ ⟨rfl, rfl, rfl⟩
    show Go A B_eft D _ 7 [.val (.ref s), .val (.int (1 : Int32)), .val (.int (1 : Int32)), .unset] [.int (4 : Int32), .int (1 : Int32)] F G 0 0
    refine Go.icmp (B := B_eft) td_eft 5 (pc' := 26) rfl (by decide) rfl (fun (h : (1 : Int32) ≥ (4 : Int32)) => absurd h (by decide)) (fun _ => ?_)
    refine Go.run (B := B_eft) td_eft 6 2 (pc' := 12) (L' := [.val (.ref s), .val (.int (1 : Int32)), .val (.int (1 : Int32)), .unset]) (S' := [.int (1 : Int32), .ref s]) rfl ?_
    refine Go.callV (B := B_eft) td_eft 8 (B' := B_cha) (C := "java/lang/String") (a := s) (argsL := [.int (1 : Int32)]) (rest := []) (W := 0) rfl (chaR_met K (pre := [40]) (suf := [41, r]) (c := 74) rfl rfl (by exact own_le rfl) m) (Or.inr hm) (fun c P => P.1) (w_102 K) (w_19 K) (w_20 K) (w_21 K) (w_21 K) (w_11 K) (w_22 K) (by decide) pd_cha rfl rfl rfl rfl (Nat.le_of_eq rfl) (by decide) (by decide) (by decide) (by decide) ?_
    rintro _ _ _ ⟨rfl, rfl, rfl⟩
    show Go A B_eft D _ 15 [.val (.ref s), .val (.int (1 : Int32)), .val (.int (1 : Int32)), .unset] [.int (74 : Int32)] F G 0 0
    refine Go.run (B := B_eft) td_eft 9 1 (pc' := 17) (L' := [.val (.ref s), .val (.int (1 : Int32)), .val (.int (1 : Int32)), .unset]) (S' := [.int (91 : Int32), .int (74 : Int32)]) rfl ?_
    refine Go.icmp (B := B_eft) td_eft 10 (pc' := 26) rfl (by decide) rfl (fun _ => ?_) (fun (h : ¬ ((74 : Int32) ≠ (91 : Int32))) => absurd (by decide) h)
    refine Go.run (B := B_eft) td_eft 13 4 (pc' := 32) (L' := [.val (.ref s), .val (.int (1 : Int32)), .val (.int (1 : Int32)), .unset]) (S' := [.int (255 : Int32), .int ((1 : Int32) - (1 : Int32))]) rfl ?_
    refine Go.icmp (B := B_eft) td_eft 17 (pc' := 43) rfl (by decide) rfl (fun (h : ((1 : Int32) - (1 : Int32)) > (255 : Int32)) => absurd h (by decide)) (fun _ => ?_)
    refine Go.run (B := B_eft) td_eft 18 2 (pc' := 37) (L' := [.val (.ref s), .val (.int (1 : Int32)), .val (.int (1 : Int32)), .unset]) (S' := [.ref s, .int (1 : Int32)]) rfl ?_
    refine Go.callV (B := B_eft) td_eft 20 (B' := B_len) (C := "java/lang/String") (a := s) (argsL := []) (rest := [.int (1 : Int32)]) (W := 1) rfl (lenR_met K (by exact own_le rfl) m) (Or.inr hm) (fun c P => P.1) (w_89 K) (w_90 K) (w_91 K) (w_92 K) (w_92 K) (w_11 K) (w_93 K) (by decide) pd_len rfl rfl rfl rfl (Nat.le_of_eq rfl) (by decide) (by decide) (by decide) (by decide) ?_
    rintro _ _ _ ⟨rfl, rfl, rfl⟩
    show Go A B_eft D _ 40 [.val (.ref s), .val (.int (1 : Int32)), .val (.int (1 : Int32)), .unset] [.int (4 : Int32), .int (1 : Int32)] F G 0 0
    refine Go.icmp (B := B_eft) td_eft 21 (pc' := 45) rfl (by decide) rfl (fun _ => ?_) (fun (h : ¬ ((1 : Int32) ≠ (4 : Int32))) => absurd (by decide) h)
    refine Go.run (B := B_eft) td_eft 24 2 (pc' := 47) (L' := [.val (.ref s), .val (.int (1 : Int32)), .val (.int (1 : Int32)), .unset]) (S' := [.int (1 : Int32), .ref s]) rfl ?_
    refine Go.callV (B := B_eft) td_eft 26 (B' := B_cha) (C := "java/lang/String") (a := s) (argsL := [.int (1 : Int32)]) (rest := []) (W := 0) rfl (chaR_met K (pre := [40]) (suf := [41, r]) (c := 74) rfl rfl (by exact own_le rfl) m) (Or.inr hm) (fun c P => P.1) (w_102 K) (w_19 K) (w_20 K) (w_21 K) (w_21 K) (w_11 K) (w_22 K) (by decide) pd_cha rfl rfl rfl rfl (Nat.le_of_eq rfl) (by decide) (by decide) (by decide) (by decide) ?_
    rintro _ _ _ ⟨rfl, rfl, rfl⟩
    show Go A B_eft D _ 50 [.val (.ref s), .val (.int (1 : Int32)), .val (.int (1 : Int32)), .unset] [.int (74 : Int32)] F G 0 0
    refine Go.tswIn (B := B_eft) td_eft 27 (o := 114) (pc' := 164) rfl (by decide) rfl (by decide) rfl ?_
    refine Go.run (B := B_eft) td_eft 28 4 (pc' := 204) (L' := [.val (.ref s), .val (.int (1 : Int32)), .val (.int (1 : Int32)), .unset]) (S' := [.int ((1 : Int32) + (1 : Int32))]) rfl ?_
    rw [show ((1 : Int32) + (1 : Int32)) = (2 : Int32) by decide]
    exact Go.retI (B := B_eft) td_eft 53 rfl rfl ⟨rfl, rfl, rfl⟩ (by decide) (by decide)
  · refine Go.run (B := B_eft) td_eft 0 4 (pc' := 4) (L' := [.val (.ref s), .val (.int (1 : Int32)), .val (.int (1 : Int32)), .unset]) (S' := [.ref s, .int (1 : Int32)]) rfl ?_
    refine Go.callV (B := B_eft) td_eft 4 (B' := B_len) (C := "java/lang/String") (a := s) (argsL := []) (rest := [.int (1 : Int32)]) (W := 1) rfl (lenR_met K (by exact own_le rfl) m) (Or.inr hm) (fun c P => P.1) (w_89 K) (w_90 K) (w_91 K) (w_92 K) (w_92 K) (w_11 K) (w_93 K) (by decide) pd_len rfl rfl rfl rfl (Nat.le_of_eq rfl) (by decide) (by decide) (by decide) (by decide) ?_
    rintro _ _ _ ⟨rfl, rfl, rfl⟩
    show Go A B_eft D _ 7 [.val (.ref s), .val (.int (1 : Int32)), .val (.int (1 : Int32)), .unset] [.int (4 : Int32), .int (1 : Int32)] F G 0 0
    refine Go.icmp (B := B_eft) td_eft 5 (pc' := 26) rfl (by decide) rfl (fun (h : (1 : Int32) ≥ (4 : Int32)) => absurd h (by decide)) (fun _ => ?_)
    refine Go.run (B := B_eft) td_eft 6 2 (pc' := 12) (L' := [.val (.ref s), .val (.int (1 : Int32)), .val (.int (1 : Int32)), .unset]) (S' := [.int (1 : Int32), .ref s]) rfl ?_
    refine Go.callV (B := B_eft) td_eft 8 (B' := B_cha) (C := "java/lang/String") (a := s) (argsL := [.int (1 : Int32)]) (rest := []) (W := 0) rfl (chaR_met K (pre := [40]) (suf := [41, r]) (c := 83) rfl rfl (by exact own_le rfl) m) (Or.inr hm) (fun c P => P.1) (w_102 K) (w_19 K) (w_20 K) (w_21 K) (w_21 K) (w_11 K) (w_22 K) (by decide) pd_cha rfl rfl rfl rfl (Nat.le_of_eq rfl) (by decide) (by decide) (by decide) (by decide) ?_
    rintro _ _ _ ⟨rfl, rfl, rfl⟩
    show Go A B_eft D _ 15 [.val (.ref s), .val (.int (1 : Int32)), .val (.int (1 : Int32)), .unset] [.int (83 : Int32)] F G 0 0
    refine Go.run (B := B_eft) td_eft 9 1 (pc' := 17) (L' := [.val (.ref s), .val (.int (1 : Int32)), .val (.int (1 : Int32)), .unset]) (S' := [.int (91 : Int32), .int (83 : Int32)]) rfl ?_
    refine Go.icmp (B := B_eft) td_eft 10 (pc' := 26) rfl (by decide) rfl (fun _ => ?_) (fun (h : ¬ ((83 : Int32) ≠ (91 : Int32))) => absurd (by decide) h)
    refine Go.run (B := B_eft) td_eft 13 4 (pc' := 32) (L' := [.val (.ref s), .val (.int (1 : Int32)), .val (.int (1 : Int32)), .unset]) (S' := [.int (255 : Int32), .int ((1 : Int32) - (1 : Int32))]) rfl ?_
    refine Go.icmp (B := B_eft) td_eft 17 (pc' := 43) rfl (by decide) rfl (fun (h : ((1 : Int32) - (1 : Int32)) > (255 : Int32)) => absurd h (by decide)) (fun _ => ?_)
    refine Go.run (B := B_eft) td_eft 18 2 (pc' := 37) (L' := [.val (.ref s), .val (.int (1 : Int32)), .val (.int (1 : Int32)), .unset]) (S' := [.ref s, .int (1 : Int32)]) rfl ?_
    refine Go.callV (B := B_eft) td_eft 20 (B' := B_len) (C := "java/lang/String") (a := s) (argsL := []) (rest := [.int (1 : Int32)]) (W := 1) rfl (lenR_met K (by exact own_le rfl) m) (Or.inr hm) (fun c P => P.1) (w_89 K) (w_90 K) (w_91 K) (w_92 K) (w_92 K) (w_11 K) (w_93 K) (by decide) pd_len rfl rfl rfl rfl (Nat.le_of_eq rfl) (by decide) (by decide) (by decide) (by decide) ?_
    rintro _ _ _ ⟨rfl, rfl, rfl⟩
    show Go A B_eft D _ 40 [.val (.ref s), .val (.int (1 : Int32)), .val (.int (1 : Int32)), .unset] [.int (4 : Int32), .int (1 : Int32)] F G 0 0
    refine Go.icmp (B := B_eft) td_eft 21 (pc' := 45) rfl (by decide) rfl (fun _ => ?_) (fun (h : ¬ ((1 : Int32) ≠ (4 : Int32))) => absurd (by decide) h)
    refine Go.run (B := B_eft) td_eft 24 2 (pc' := 47) (L' := [.val (.ref s), .val (.int (1 : Int32)), .val (.int (1 : Int32)), .unset]) (S' := [.int (1 : Int32), .ref s]) rfl ?_
    refine Go.callV (B := B_eft) td_eft 26 (B' := B_cha) (C := "java/lang/String") (a := s) (argsL := [.int (1 : Int32)]) (rest := []) (W := 0) rfl (chaR_met K (pre := [40]) (suf := [41, r]) (c := 83) rfl rfl (by exact own_le rfl) m) (Or.inr hm) (fun c P => P.1) (w_102 K) (w_19 K) (w_20 K) (w_21 K) (w_21 K) (w_11 K) (w_22 K) (by decide) pd_cha rfl rfl rfl rfl (Nat.le_of_eq rfl) (by decide) (by decide) (by decide) (by decide) ?_
    rintro _ _ _ ⟨rfl, rfl, rfl⟩
    show Go A B_eft D _ 50 [.val (.ref s), .val (.int (1 : Int32)), .val (.int (1 : Int32)), .unset] [.int (83 : Int32)] F G 0 0
    refine Go.tswIn (B := B_eft) td_eft 27 (o := 114) (pc' := 164) rfl (by decide) rfl (by decide) rfl ?_
    refine Go.run (B := B_eft) td_eft 28 4 (pc' := 204) (L' := [.val (.ref s), .val (.int (1 : Int32)), .val (.int (1 : Int32)), .unset]) (S' := [.int ((1 : Int32) + (1 : Int32))]) rfl ?_
    rw [show ((1 : Int32) + (1 : Int32)) = (2 : Int32) by decide]
    exact Go.retI (B := B_eft) td_eft 53 rfl rfl ⟨rfl, rfl, rfl⟩ (by decide) (by decide)
  · refine Go.run (B := B_eft) td_eft 0 4 (pc' := 4) (L' := [.val (.ref s), .val (.int (1 : Int32)), .val (.int (1 : Int32)), .unset]) (S' := [.ref s, .int (1 : Int32)]) rfl ?_
    refine Go.callV (B := B_eft) td_eft 4 (B' := B_len) (C := "java/lang/String") (a := s) (argsL := []) (rest := [.int (1 : Int32)]) (W := 1) rfl (lenR_met K (by exact own_le rfl) m) (Or.inr hm) (fun c P => P.1) (w_89 K) (w_90 K) (w_91 K) (w_92 K) (w_92 K) (w_11 K) (w_93 K) (by decide) pd_len rfl rfl rfl rfl (Nat.le_of_eq rfl) (by decide) (by decide) (by decide) (by decide) ?_
    rintro _ _ _ ⟨rfl, rfl, rfl⟩
    show Go A B_eft D _ 7 [.val (.ref s), .val (.int (1 : Int32)), .val (.int (1 : Int32)), .unset] [.int (4 : Int32), .int (1 : Int32)] F G 0 0
    refine Go.icmp (B := B_eft) td_eft 5 (pc' := 26) rfl (by decide) rfl (fun (h : (1 : Int32) ≥ (4 : Int32)) => absurd h (by decide)) (fun _ => ?_)
    refine Go.run (B := B_eft) td_eft 6 2 (pc' := 12) (L' := [.val (.ref s), .val (.int (1 : Int32)), .val (.int (1 : Int32)), .unset]) (S' := [.int (1 : Int32), .ref s]) rfl ?_
    refine Go.callV (B := B_eft) td_eft 8 (B' := B_cha) (C := "java/lang/String") (a := s) (argsL := [.int (1 : Int32)]) (rest := []) (W := 0) rfl (chaR_met K (pre := [40]) (suf := [41, r]) (c := 90) rfl rfl (by exact own_le rfl) m) (Or.inr hm) (fun c P => P.1) (w_102 K) (w_19 K) (w_20 K) (w_21 K) (w_21 K) (w_11 K) (w_22 K) (by decide) pd_cha rfl rfl rfl rfl (Nat.le_of_eq rfl) (by decide) (by decide) (by decide) (by decide) ?_
    rintro _ _ _ ⟨rfl, rfl, rfl⟩
    show Go A B_eft D _ 15 [.val (.ref s), .val (.int (1 : Int32)), .val (.int (1 : Int32)), .unset] [.int (90 : Int32)] F G 0 0
    refine Go.run (B := B_eft) td_eft 9 1 (pc' := 17) (L' := [.val (.ref s), .val (.int (1 : Int32)), .val (.int (1 : Int32)), .unset]) (S' := [.int (91 : Int32), .int (90 : Int32)]) rfl ?_
    refine Go.icmp (B := B_eft) td_eft 10 (pc' := 26) rfl (by decide) rfl (fun _ => ?_) (fun (h : ¬ ((90 : Int32) ≠ (91 : Int32))) => absurd (by decide) h)
    refine Go.run (B := B_eft) td_eft 13 4 (pc' := 32) (L' := [.val (.ref s), .val (.int (1 : Int32)), .val (.int (1 : Int32)), .unset]) (S' := [.int (255 : Int32), .int ((1 : Int32) - (1 : Int32))]) rfl ?_
    refine Go.icmp (B := B_eft) td_eft 17 (pc' := 43) rfl (by decide) rfl (fun (h : ((1 : Int32) - (1 : Int32)) > (255 : Int32)) => absurd h (by decide)) (fun _ => ?_)
    refine Go.run (B := B_eft) td_eft 18 2 (pc' := 37) (L' := [.val (.ref s), .val (.int (1 : Int32)), .val (.int (1 : Int32)), .unset]) (S' := [.ref s, .int (1 : Int32)]) rfl ?_
    refine Go.callV (B := B_eft) td_eft 20 (B' := B_len) (C := "java/lang/String") (a := s) (argsL := []) (rest := [.int (1 : Int32)]) (W := 1) rfl (lenR_met K (by exact own_le rfl) m) (Or.inr hm) (fun c P => P.1) (w_89 K) (w_90 K) (w_91 K) (w_92 K) (w_92 K) (w_11 K) (w_93 K) (by decide) pd_len rfl rfl rfl rfl (Nat.le_of_eq rfl) (by decide) (by decide) (by decide) (by decide) ?_
    rintro _ _ _ ⟨rfl, rfl, rfl⟩
    show Go A B_eft D _ 40 [.val (.ref s), .val (.int (1 : Int32)), .val (.int (1 : Int32)), .unset] [.int (4 : Int32), .int (1 : Int32)] F G 0 0
    refine Go.icmp (B := B_eft) td_eft 21 (pc' := 45) rfl (by decide) rfl (fun _ => ?_) (fun (h : ¬ ((1 : Int32) ≠ (4 : Int32))) => absurd (by decide) h)
    refine Go.run (B := B_eft) td_eft 24 2 (pc' := 47) (L' := [.val (.ref s), .val (.int (1 : Int32)), .val (.int (1 : Int32)), .unset]) (S' := [.int (1 : Int32), .ref s]) rfl ?_
    refine Go.callV (B := B_eft) td_eft 26 (B' := B_cha) (C := "java/lang/String") (a := s) (argsL := [.int (1 : Int32)]) (rest := []) (W := 0) rfl (chaR_met K (pre := [40]) (suf := [41, r]) (c := 90) rfl rfl (by exact own_le rfl) m) (Or.inr hm) (fun c P => P.1) (w_102 K) (w_19 K) (w_20 K) (w_21 K) (w_21 K) (w_11 K) (w_22 K) (by decide) pd_cha rfl rfl rfl rfl (Nat.le_of_eq rfl) (by decide) (by decide) (by decide) (by decide) ?_
    rintro _ _ _ ⟨rfl, rfl, rfl⟩
    show Go A B_eft D _ 50 [.val (.ref s), .val (.int (1 : Int32)), .val (.int (1 : Int32)), .unset] [.int (90 : Int32)] F G 0 0
    refine Go.tswIn (B := B_eft) td_eft 27 (o := 114) (pc' := 164) rfl (by decide) rfl (by decide) rfl ?_
    refine Go.run (B := B_eft) td_eft 28 4 (pc' := 204) (L' := [.val (.ref s), .val (.int (1 : Int32)), .val (.int (1 : Int32)), .unset]) (S' := [.int ((1 : Int32) + (1 : Int32))]) rfl ?_
    rw [show ((1 : Int32) + (1 : Int32)) = (2 : Int32) by decide]
    exact Go.retI (B := B_eft) td_eft 53 rfl rfl ⟨rfl, rfl, rfl⟩ (by decide) (by decide)
set_option maxRecDepth 65536 in
set_option maxHeartbeats 4000000 in
theorem eft3_met {A : Ax} (K : Wd A) {s : Addr} {p r : Int32} (hr : Pm r) {F G : List Ent} (m : StrL A G s [40, p, 41, r]) : Met A B_eft #[.ref s, .int (3 : Int32)] F G (fun v F' G' => v = some (.int 4) ∧ F = F' ∧ G = G') := by
  refine MetW.of_go pn_eft K.ew (L := [.val (.ref s), .val (.int (3 : Int32)), .unset, .unset]) (fun m => rfl) ?_
  intro D _
  obtain ⟨bS, cdS, hm⟩ := m.obj
  rcases hr with rfl | rfl | rfl | rfl | rfl | rfl | rfl | rfl
  · refine Go.run (B := B_eft) td_eft 0 4 (pc' := 4) (L' := [.val (.ref s), .val (.int (3 : Int32)), .val (.int (3 : Int32)), .unset]) (S' := [.ref s, .int (3 : Int32)]) rfl ?_
    refine Go.callV (B := B_eft) td_eft 4 (B' := B_len) (C := "java/lang/String") (a := s) (argsL := []) (rest := [.int (3 : Int32)]) (W := 1) rfl (lenR_met K (by exact own_le rfl) m) (Or.inr hm) (fun c P => P.1) (w_89 K) (w_90 K) (w_91 K) (w_92 K) (w_92 K) (w_11 K) (w_93 K) (by decide) pd_len rfl rfl rfl rfl (Nat.le_of_eq rfl) (by decide) (by decide) (by decide) (by decide) ?_
    rintro _ _ _ ⟨rfl, rfl, rfl⟩
    show Go A B_eft D _ 7 [.val (.ref s), .val (.int (3 : Int32)), .val (.int (3 : Int32)), .unset] [.int (4 : Int32), .int (3 : Int32)] F G 0 0
    refine Go.icmp (B := B_eft) td_eft 5 (pc' := 26) rfl (by decide) rfl (fun (h : (3 : Int32) ≥ (4 : Int32)) => absurd h (by decide)) (fun _ => ?_)
    refine Go.run (B := B_eft) td_eft 6 2 (pc' := 12) (L' := [.val (.ref s), .val (.int (3 : Int32)), .val (.int (3 : Int32)), .unset]) (S' := [.int (3 : Int32), .ref s]) rfl ?_
    refine Go.callV (B := B_eft) td_eft 8 (B' := B_cha) (C := "java/lang/String") (a := s) (argsL := [.int (3 : Int32)]) (rest := []) (W := 0) rfl (chaR_met K (pre := [40, p, 41]) (suf := []) (c := 66) rfl rfl (by exact own_le rfl) m) (Or.inr hm) (fun c P => P.1) (w_102 K) (w_19 K) (w_20 K) (w_21 K) (w_21 K) (w_11 K) (w_22 K) (by decide) pd_cha rfl rfl rfl rfl (Nat.le_of_eq rfl) (by decide) (by decide) (by decide) (by decide) ?_
    rintro _ _ _ ⟨rfl, rfl, rfl⟩
    show Go A B_eft D _ 15 [.val (.ref s), .val (.int (3 : Int32)), .val (.int (3 : Int32)), .unset] [.int (66 : Int32)] F G 0 0
    refine Go.run (B := B_eft) td_eft 9 1 (pc' := 17) (L' := [.val (.ref s), .val (.int (3 : Int32)), .val (.int (3 : Int32)), .unset]) (S' := [.int (91 : Int32), .int (66 : Int32)]) rfl ?_
    refine Go.icmp (B := B_eft) td_eft 10 (pc' := 26) rfl (by decide) rfl (fun _ => ?_) (fun (h : ¬ ((66 : Int32) ≠ (91 : Int32))) => absurd (by decide) h)
    refine Go.run (B := B_eft) td_eft 13 4 (pc' := 32) (L' := [.val (.ref s), .val (.int (3 : Int32)), .val (.int (3 : Int32)), .unset]) (S' := [.int (255 : Int32), .int ((3 : Int32) - (3 : Int32))]) rfl ?_
    refine Go.icmp (B := B_eft) td_eft 17 (pc' := 43) rfl (by decide) rfl (fun (h : ((3 : Int32) - (3 : Int32)) > (255 : Int32)) => absurd h (by decide)) (fun _ => ?_)
    refine Go.run (B := B_eft) td_eft 18 2 (pc' := 37) (L' := [.val (.ref s), .val (.int (3 : Int32)), .val (.int (3 : Int32)), .unset]) (S' := [.ref s, .int (3 : Int32)]) rfl ?_
    refine Go.callV (B := B_eft) td_eft 20 (B' := B_len) (C := "java/lang/String") (a := s) (argsL := []) (rest := [.int (3 : Int32)]) (W := 1) rfl (lenR_met K (by exact own_le rfl) m) (Or.inr hm) (fun c P => P.1) (w_89 K) (w_90 K) (w_91 K) (w_92 K) (w_92 K) (w_11 K) (w_93 K) (by decide) pd_len rfl rfl rfl rfl (Nat.le_of_eq rfl) (by decide) (by decide) (by decide) (by decide) ?_
    rintro _ _ _ ⟨rfl, rfl, rfl⟩
    show Go A B_eft D _ 40 [.val (.ref s), .val (.int (3 : Int32)), .val (.int (3 : Int32)), .unset] [.int (4 : Int32), .int (3 : Int32)] F G 0 0
    refine Go.icmp (B := B_eft) td_eft 21 (pc' := 45) rfl (by decide) rfl (fun _ => ?_) (fun (h : ¬ ((3 : Int32) ≠ (4 : Int32))) => absurd (by decide) h)
    refine Go.run (B := B_eft) td_eft 24 2 (pc' := 47) (L' := [.val (.ref s), .val (.int (3 : Int32)), .val (.int (3 : Int32)), .unset]) (S' := [.int (3 : Int32), .ref s]) rfl ?_
    refine Go.callV (B := B_eft) td_eft 26 (B' := B_cha) (C := "java/lang/String") (a := s) (argsL := [.int (3 : Int32)]) (rest := []) (W := 0) rfl (chaR_met K (pre := [40, p, 41]) (suf := []) (c := 66) rfl rfl (by exact own_le rfl) m) (Or.inr hm) (fun c P => P.1) (w_102 K) (w_19 K) (w_20 K) (w_21 K) (w_21 K) (w_11 K) (w_22 K) (by decide) pd_cha rfl rfl rfl rfl (Nat.le_of_eq rfl) (by decide) (by decide) (by decide) (by decide) ?_
    rintro _ _ _ ⟨rfl, rfl, rfl⟩
    show Go A B_eft D _ 50 [.val (.ref s), .val (.int (3 : Int32)), .val (.int (3 : Int32)), .unset] [.int (66 : Int32)] F G 0 0
    refine Go.tswIn (B := B_eft) td_eft 27 (o := 114) (pc' := 164) rfl (by decide) rfl (by decide) rfl ?_
    refine Go.run (B := B_eft) td_eft 28 4 (pc' := 204) (L' := [.val (.ref s), .val (.int (3 : Int32)), .val (.int (3 : Int32)), .unset]) (S' := [.int ((3 : Int32) + (1 : Int32))]) rfl ?_
    rw [show ((3 : Int32) + (1 : Int32)) = (4 : Int32) by decide]
    exact Go.retI (B := B_eft) td_eft 53 rfl rfl ⟨rfl, rfl, rfl⟩ (by decide) (by decide)
  · refine Go.run (B := B_eft) td_eft 0 4 (pc' := 4) (L' := [.val (.ref s), .val (.int (3 : Int32)), .val (.int (3 : Int32)), .unset]) (S' := [.ref s, .int (3 : Int32)]) rfl ?_
    refine Go.callV (B := B_eft) td_eft 4 (B' := B_len) (C := "java/lang/String") (a := s) (argsL := []) (rest := [.int (3 : Int32)]) (W := 1) rfl (lenR_met K (by exact own_le rfl) m) (Or.inr hm) (fun c P => P.1) (w_89 K) (w_90 K) (w_91 K) (w_92 K) (w_92 K) (w_11 K) (w_93 K) (by decide) pd_len rfl rfl rfl rfl (Nat.le_of_eq rfl) (by decide) (by decide) (by decide) (by decide) ?_
    rintro _ _ _ ⟨rfl, rfl, rfl⟩
    show Go A B_eft D _ 7 [.val (.ref s), .val (.int (3 : Int32)), .val (.int (3 : Int32)), .unset] [.int (4 : Int32), .int (3 : Int32)] F G 0 0
    refine Go.icmp (B := B_eft) td_eft 5 (pc' := 26) rfl (by decide) rfl (fun (h : (3 : Int32) ≥ (4 : Int32)) => absurd h (by decide)) (fun _ => ?_)
    refine Go.run (B := B_eft) td_eft 6 2 (pc' := 12) (L' := [.val (.ref s), .val (.int (3 : Int32)), .val (.int (3 : Int32)), .unset]) (S' := [.int (3 : Int32), .ref s]) rfl ?_
    refine Go.callV (B := B_eft) td_eft 8 (B' := B_cha) (C := "java/lang/String") (a := s) (argsL := [.int (3 : Int32)]) (rest := []) (W := 0) rfl (chaR_met K (pre := [40, p, 41]) (suf := []) (c := 67) rfl rfl (by exact own_le rfl) m) (Or.inr hm) (fun c P => P.1) (w_102 K) (w_19 K) (w_20 K) (w_21 K) (w_21 K) (w_11 K) (w_22 K) (by decide) pd_cha rfl rfl rfl rfl (Nat.le_of_eq rfl) (by decide) (by decide) (by decide) (by decide) ?_
    rintro _ _ _ ⟨rfl, rfl, rfl⟩
    show Go A B_eft D _ 15 [.val (.ref s), .val (.int (3 : Int32)), .val (.int (3 : Int32)), .unset] [.int (67 : Int32)] F G 0 0
    refine Go.run (B := B_eft) td_eft 9 1 (pc' := 17) (L' := [.val (.ref s), .val (.int (3 : Int32)), .val (.int (3 : Int32)), .unset]) (S' := [.int (91 : Int32), .int (67 : Int32)]) rfl ?_
    refine Go.icmp (B := B_eft) td_eft 10 (pc' := 26) rfl (by decide) rfl (fun _ => ?_) (fun (h : ¬ ((67 : Int32) ≠ (91 : Int32))) => absurd (by decide) h)
    refine Go.run (B := B_eft) td_eft 13 4 (pc' := 32) (L' := [.val (.ref s), .val (.int (3 : Int32)), .val (.int (3 : Int32)), .unset]) (S' := [.int (255 : Int32), .int ((3 : Int32) - (3 : Int32))]) rfl ?_
    refine Go.icmp (B := B_eft) td_eft 17 (pc' := 43) rfl (by decide) rfl (fun (h : ((3 : Int32) - (3 : Int32)) > (255 : Int32)) => absurd h (by decide)) (fun _ => ?_)
    refine Go.run (B := B_eft) td_eft 18 2 (pc' := 37) (L' := [.val (.ref s), .val (.int (3 : Int32)), .val (.int (3 : Int32)), .unset]) (S' := [.ref s, .int (3 : Int32)]) rfl ?_
    refine Go.callV (B := B_eft) td_eft 20 (B' := B_len) (C := "java/lang/String") (a := s) (argsL := []) (rest := [.int (3 : Int32)]) (W := 1) rfl (lenR_met K (by exact own_le rfl) m) (Or.inr hm) (fun c P => P.1) (w_89 K) (w_90 K) (w_91 K) (w_92 K) (w_92 K) (w_11 K) (w_93 K) (by decide) pd_len rfl rfl rfl rfl (Nat.le_of_eq rfl) (by decide) (by decide) (by decide) (by decide) ?_
    rintro _ _ _ ⟨rfl, rfl, rfl⟩
    show Go A B_eft D _ 40 [.val (.ref s), .val (.int (3 : Int32)), .val (.int (3 : Int32)), .unset] [.int (4 : Int32), .int (3 : Int32)] F G 0 0
    refine Go.icmp (B := B_eft) td_eft 21 (pc' := 45) rfl (by decide) rfl (fun _ => ?_) (fun (h : ¬ ((3 : Int32) ≠ (4 : Int32))) => absurd (by decide) h)
    refine Go.run (B := B_eft) td_eft 24 2 (pc' := 47) (L' := [.val (.ref s), .val (.int (3 : Int32)), .val (.int (3 : Int32)), .unset]) (S' := [.int (3 : Int32), .ref s]) rfl ?_
    refine Go.callV (B := B_eft) td_eft 26 (B' := B_cha) (C := "java/lang/String") (a := s) (argsL := [.int (3 : Int32)]) (rest := []) (W := 0) rfl (chaR_met K (pre := [40, p, 41]) (suf := []) (c := 67) rfl rfl (by exact own_le rfl) m) (Or.inr hm) (fun c P => P.1) (w_102 K) (w_19 K) (w_20 K) (w_21 K) (w_21 K) (w_11 K) (w_22 K) (by decide) pd_cha rfl rfl rfl rfl (Nat.le_of_eq rfl) (by decide) (by decide) (by decide) (by decide) ?_
    rintro _ _ _ ⟨rfl, rfl, rfl⟩
    show Go A B_eft D _ 50 [.val (.ref s), .val (.int (3 : Int32)), .val (.int (3 : Int32)), .unset] [.int (67 : Int32)] F G 0 0
    refine Go.tswIn (B := B_eft) td_eft 27 (o := 114) (pc' := 164) rfl (by decide) rfl (by decide) rfl ?_
    refine Go.run (B := B_eft) td_eft 28 4 (pc' := 204) (L' := [.val (.ref s), .val (.int (3 : Int32)), .val (.int (3 : Int32)), .unset]) (S' := [.int ((3 : Int32) + (1 : Int32))]) rfl ?_
    rw [show ((3 : Int32) + (1 : Int32)) = (4 : Int32) by decide]
    exact Go.retI (B := B_eft) td_eft 53 rfl rfl ⟨rfl, rfl, rfl⟩ (by decide) (by decide)
  · refine Go.run (B := B_eft) td_eft 0 4 (pc' := 4) (L' := [.val (.ref s), .val (.int (3 : Int32)), .val (.int (3 : Int32)), .unset]) (S' := [.ref s, .int (3 : Int32)]) rfl ?_
    refine Go.callV (B := B_eft) td_eft 4 (B' := B_len) (C := "java/lang/String") (a := s) (argsL := []) (rest := [.int (3 : Int32)]) (W := 1) rfl (lenR_met K (by exact own_le rfl) m) (Or.inr hm) (fun c P => P.1) (w_89 K) (w_90 K) (w_91 K) (w_92 K) (w_92 K) (w_11 K) (w_93 K) (by decide) pd_len rfl rfl rfl rfl (Nat.le_of_eq rfl) (by decide) (by decide) (by decide) (by decide) ?_
    rintro _ _ _ ⟨rfl, rfl, rfl⟩
    show Go A B_eft D _ 7 [.val (.ref s), .val (.int (3 : Int32)), .val (.int (3 : Int32)), .unset] [.int (4 : Int32), .int (3 : Int32)] F G 0 0
    refine Go.icmp (B := B_eft) td_eft 5 (pc' := 26) rfl (by decide) rfl (fun (h : (3 : Int32) ≥ (4 : Int32)) => absurd h (by decide)) (fun _ => ?_)
    refine Go.run (B := B_eft) td_eft 6 2 (pc' := 12) (L' := [.val (.ref s), .val (.int (3 : Int32)), .val (.int (3 : Int32)), .unset]) (S' := [.int (3 : Int32), .ref s]) rfl ?_
    refine Go.callV (B := B_eft) td_eft 8 (B' := B_cha) (C := "java/lang/String") (a := s) (argsL := [.int (3 : Int32)]) (rest := []) (W := 0) rfl (chaR_met K (pre := [40, p, 41]) (suf := []) (c := 68) rfl rfl (by exact own_le rfl) m) (Or.inr hm) (fun c P => P.1) (w_102 K) (w_19 K) (w_20 K) (w_21 K) (w_21 K) (w_11 K) (w_22 K) (by decide) pd_cha rfl rfl rfl rfl (Nat.le_of_eq rfl) (by decide) (by decide) (by decide) (by decide) ?_
    rintro _ _ _ ⟨rfl, rfl, rfl⟩
    show Go A B_eft D _ 15 [.val (.ref s), .val (.int (3 : Int32)), .val (.int (3 : Int32)), .unset] [.int (68 : Int32)] F G 0 0
    refine Go.run (B := B_eft) td_eft 9 1 (pc' := 17) (L' := [.val (.ref s), .val (.int (3 : Int32)), .val (.int (3 : Int32)), .unset]) (S' := [.int (91 : Int32), .int (68 : Int32)]) rfl ?_
    refine Go.icmp (B := B_eft) td_eft 10 (pc' := 26) rfl (by decide) rfl (fun _ => ?_) (fun (h : ¬ ((68 : Int32) ≠ (91 : Int32))) => absurd (by decide) h)
    refine Go.run (B := B_eft) td_eft 13 4 (pc' := 32) (L' := [.val (.ref s), .val (.int (3 : Int32)), .val (.int (3 : Int32)), .unset]) (S' := [.int (255 : Int32), .int ((3 : Int32) - (3 : Int32))]) rfl ?_
    refine Go.icmp (B := B_eft) td_eft 17 (pc' := 43) rfl (by decide) rfl (fun (h : ((3 : Int32) - (3 : Int32)) > (255 : Int32)) => absurd h (by decide)) (fun _ => ?_)
    refine Go.run (B := B_eft) td_eft 18 2 (pc' := 37) (L' := [.val (.ref s), .val (.int (3 : Int32)), .val (.int (3 : Int32)), .unset]) (S' := [.ref s, .int (3 : Int32)]) rfl ?_
    refine Go.callV (B := B_eft) td_eft 20 (B' := B_len) (C := "java/lang/String") (a := s) (argsL := []) (rest := [.int (3 : Int32)]) (W := 1) rfl (lenR_met K (by exact own_le rfl) m) (Or.inr hm) (fun c P => P.1) (w_89 K) (w_90 K) (w_91 K) (w_92 K) (w_92 K) (w_11 K) (w_93 K) (by decide) pd_len rfl rfl rfl rfl (Nat.le_of_eq rfl) (by decide) (by decide) (by decide) (by decide) ?_
    rintro _ _ _ ⟨rfl, rfl, rfl⟩
    show Go A B_eft D _ 40 [.val (.ref s), .val (.int (3 : Int32)), .val (.int (3 : Int32)), .unset] [.int (4 : Int32), .int (3 : Int32)] F G 0 0
    refine Go.icmp (B := B_eft) td_eft 21 (pc' := 45) rfl (by decide) rfl (fun _ => ?_) (fun (h : ¬ ((3 : Int32) ≠ (4 : Int32))) => absurd (by decide) h)
    refine Go.run (B := B_eft) td_eft 24 2 (pc' := 47) (L' := [.val (.ref s), .val (.int (3 : Int32)), .val (.int (3 : Int32)), .unset]) (S' := [.int (3 : Int32), .ref s]) rfl ?_
    refine Go.callV (B := B_eft) td_eft 26 (B' := B_cha) (C := "java/lang/String") (a := s) (argsL := [.int (3 : Int32)]) (rest := []) (W := 0) rfl (chaR_met K (pre := [40, p, 41]) (suf := []) (c := 68) rfl rfl (by exact own_le rfl) m) (Or.inr hm) (fun c P => P.1) (w_102 K) (w_19 K) (w_20 K) (w_21 K) (w_21 K) (w_11 K) (w_22 K) (by decide) pd_cha rfl rfl rfl rfl (Nat.le_of_eq rfl) (by decide) (by decide) (by decide) (by decide) ?_
    rintro _ _ _ ⟨rfl, rfl, rfl⟩
    show Go A B_eft D _ 50 [.val (.ref s), .val (.int (3 : Int32)), .val (.int (3 : Int32)), .unset] [.int (68 : Int32)] F G 0 0
    refine Go.tswIn (B := B_eft) td_eft 27 (o := 114) (pc' := 164) rfl (by decide) rfl (by decide) rfl ?_
    refine Go.run (B := B_eft) td_eft 28 4 (pc' := 204) (L' := [.val (.ref s), .val (.int (3 : Int32)), .val (.int (3 : Int32)), .unset]) (S' := [.int ((3 : Int32) + (1 : Int32))]) rfl ?_
    rw [show ((3 : Int32) + (1 : Int32)) = (4 : Int32) by decide]
    exact Go.retI (B := B_eft) td_eft 53 rfl rfl ⟨rfl, rfl, rfl⟩ (by decide) (by decide)
  · refine Go.run (B := B_eft) td_eft 0 4 (pc' := 4) (L' := [.val (.ref s), .val (.int (3 : Int32)), .val (.int (3 : Int32)), .unset]) (S' := [.ref s, .int (3 : Int32)]) rfl ?_
    refine Go.callV (B := B_eft) td_eft 4 (B' := B_len) (C := "java/lang/String") (a := s) (argsL := []) (rest := [.int (3 : Int32)]) (W := 1) rfl (lenR_met K (by exact own_le rfl) m) (Or.inr hm) (fun c P => P.1) (w_89 K) (w_90 K) (w_91 K) (w_92 K) (w_92 K) (w_11 K) (w_93 K) (by decide) pd_len rfl rfl rfl rfl (Nat.le_of_eq rfl) (by decide) (by decide) (by decide) (by decide) ?_
    rintro _ _ _ ⟨rfl, rfl, rfl⟩
    show Go A B_eft D _ 7 [.val (.ref s), .val (.int (3 : Int32)), .val (.int (3 : Int32)), .unset] [.int (4 : Int32), .int (3 : Int32)] F G 0 0
    refine Go.icmp (B := B_eft) td_eft 5 (pc' := 26) rfl (by decide) rfl (fun (h : (3 : Int32) ≥ (4 : Int32)) => absurd h (by decide)) (fun _ => ?_)
    refine Go.run (B := B_eft) td_eft 6 2 (pc' := 12) (L' := [.val (.ref s), .val (.int (3 : Int32)), .val (.int (3 : Int32)), .unset]) (S' := [.int (3 : Int32), .ref s]) rfl ?_
    refine Go.callV (B := B_eft) td_eft 8 (B' := B_cha) (C := "java/lang/String") (a := s) (argsL := [.int (3 : Int32)]) (rest := []) (W := 0) rfl (chaR_met K (pre := [40, p, 41]) (suf := []) (c := 70) rfl rfl (by exact own_le rfl) m) (Or.inr hm) (fun c P => P.1) (w_102 K) (w_19 K) (w_20 K) (w_21 K) (w_21 K) (w_11 K) (w_22 K) (by decide) pd_cha rfl rfl rfl rfl (Nat.le_of_eq rfl) (by decide) (by decide) (by decide) (by decide) ?_
    rintro _ _ _ ⟨rfl, rfl, rfl⟩
    show Go A B_eft D _ 15 [.val (.ref s), .val (.int (3 : Int32)), .val (.int (3 : Int32)), .unset] [.int (70 : Int32)] F G 0 0
    refine Go.run (B := B_eft) td_eft 9 1 (pc' := 17) (L' := [.val (.ref s), .val (.int (3 : Int32)), .val (.int (3 : Int32)), .unset]) (S' := [.int (91 : Int32), .int (70 : Int32)]) rfl ?_
    refine Go.icmp (B := B_eft) td_eft 10 (pc' := 26) rfl (by decide) rfl (fun _ => ?_) (fun (h : ¬ ((70 : Int32) ≠ (91 : Int32))) => absurd (by decide) h)
    refine Go.run (B := B_eft) td_eft 13 4 (pc' := 32) (L' := [.val (.ref s), .val (.int (3 : Int32)), .val (.int (3 : Int32)), .unset]) (S' := [.int (255 : Int32), .int ((3 : Int32) - (3 : Int32))]) rfl ?_
    refine Go.icmp (B := B_eft) td_eft 17 (pc' := 43) rfl (by decide) rfl (fun (h : ((3 : Int32) - (3 : Int32)) > (255 : Int32)) => absurd h (by decide)) (fun _ => ?_)
    refine Go.run (B := B_eft) td_eft 18 2 (pc' := 37) (L' := [.val (.ref s), .val (.int (3 : Int32)), .val (.int (3 : Int32)), .unset]) (S' := [.ref s, .int (3 : Int32)]) rfl ?_
    refine Go.callV (B := B_eft) td_eft 20 (B' := B_len) (C := "java/lang/String") (a := s) (argsL := []) (rest := [.int (3 : Int32)]) (W := 1) rfl (lenR_met K (by exact own_le rfl) m) (Or.inr hm) (fun c P => P.1) (w_89 K) (w_90 K) (w_91 K) (w_92 K) (w_92 K) (w_11 K) (w_93 K) (by decide) pd_len rfl rfl rfl rfl (Nat.le_of_eq rfl) (by decide) (by decide) (by decide) (by decide) ?_
    rintro _ _ _ ⟨rfl, rfl, rfl⟩
    show Go A B_eft D _ 40 [.val (.ref s), .val (.int (3 : Int32)), .val (.int (3 : Int32)), .unset] [.int (4 : Int32), .int (3 : Int32)] F G 0 0
    refine Go.icmp (B := B_eft) td_eft 21 (pc' := 45) rfl (by decide) rfl (fun _ => ?_) (fun (h : ¬ ((3 : Int32) ≠ (4 : Int32))) => absurd (by decide) h)
    refine Go.run (B := B_eft) td_eft 24 2 (pc' := 47) (L' := [.val (.ref s), .val (.int (3 : Int32)), .val (.int (3 : Int32)), .unset]) (S' := [.int (3 : Int32), .ref s]) rfl ?_
    refine Go.callV (B := B_eft) td_eft 26 (B' := B_cha) (C := "java/lang/String") (a := s) (argsL := [.int (3 : Int32)]) (rest := []) (W := 0) rfl (chaR_met K (pre := [40, p, 41]) (suf := []) (c := 70) rfl rfl (by exact own_le rfl) m) (Or.inr hm) (fun c P => P.1) (w_102 K) (w_19 K) (w_20 K) (w_21 K) (w_21 K) (w_11 K) (w_22 K) (by decide) pd_cha rfl rfl rfl rfl (Nat.le_of_eq rfl) (by decide) (by decide) (by decide) (by decide) ?_
    rintro _ _ _ ⟨rfl, rfl, rfl⟩
    show Go A B_eft D _ 50 [.val (.ref s), .val (.int (3 : Int32)), .val (.int (3 : Int32)), .unset] [.int (70 : Int32)] F G 0 0
    refine Go.tswIn (B := B_eft) td_eft 27 (o := 114) (pc' := 164) rfl (by decide) rfl (by decide) rfl ?_
    refine Go.run (B := B_eft) td_eft 28 4 (pc' := 204) (L' := [.val (.ref s), .val (.int (3 : Int32)), .val (.int (3 : Int32)), .unset]) (S' := [.int ((3 : Int32) + (1 : Int32))]) rfl ?_
    rw [show ((3 : Int32) + (1 : Int32)) = (4 : Int32) by decide]
    exact Go.retI (B := B_eft) td_eft 53 rfl rfl ⟨rfl, rfl, rfl⟩ (by decide) (by decide)
  · refine Go.run (B := B_eft) td_eft 0 4 (pc' := 4) (L' := [.val (.ref s), .val (.int (3 : Int32)), .val (.int (3 : Int32)), .unset]) (S' := [.ref s, .int (3 : Int32)]) rfl ?_
    refine Go.callV (B := B_eft) td_eft 4 (B' := B_len) (C := "java/lang/String") (a := s) (argsL := []) (rest := [.int (3 : Int32)]) (W := 1) rfl (lenR_met K (by exact own_le rfl) m) (Or.inr hm) (fun c P => P.1) (w_89 K) (w_90 K) (w_91 K) (w_92 K) (w_92 K) (w_11 K) (w_93 K) (by decide) pd_len rfl rfl rfl rfl (Nat.le_of_eq rfl) (by decide) (by decide) (by decide) (by decide) ?_
    rintro _ _ _ ⟨rfl, rfl, rfl⟩
    show Go A B_eft D _ 7 [.val (.ref s), .val (.int (3 : Int32)), .val (.int (3 : Int32)), .unset] [.int (4 : Int32), .int (3 : Int32)] F G 0 0
    refine Go.icmp (B := B_eft) td_eft 5 (pc' := 26) rfl (by decide) rfl (fun (h : (3 : Int32) ≥ (4 : Int32)) => absurd h (by decide)) (fun _ => ?_)
    refine Go.run (B := B_eft) td_eft 6 2 (pc' := 12) (L' := [.val (.ref s), .val (.int (3 : Int32)), .val (.int (3 : Int32)), .unset]) (S' := [.int (3 : Int32), .ref s]) rfl ?_
    refine Go.callV (B := B_eft) td_eft 8 (B' := B_cha) (C := "java/lang/String") (a := s) (argsL := [.int (3 : Int32)]) (rest := []) (W := 0) rfl (chaR_met K (pre := [40, p, 41]) (suf := []) (c := 73) rfl rfl (by exact own_le rfl) m) (Or.inr hm) (fun c P => P.1) (w_102 K) (w_19 K) (w_20 K) (w_21 K) (w_21 K) (w_11 K) (w_22 K) (by decide) pd_cha rfl rfl rfl rfl (Nat.le_of_eq rfl) (by decide) (by decide) (by decide) (by decide) ?_
    rintro _ _ _ ⟨rfl, rfl, rfl⟩
    show Go A B_eft D _ 15 [.val (.ref s), .val (.int (3 : Int32)), .val (.int (3 : Int32)), .unset] [.int (73 : Int32)] F G 0 0
    refine Go.run (B := B_eft) td_eft 9 1 (pc' := 17) (L' := [.val (.ref s), .val (.int (3 : Int32)), .val (.int (3 : Int32)), .unset]) (S' := [.int (91 : Int32), .int (73 : Int32)]) rfl ?_
    refine Go.icmp (B := B_eft) td_eft 10 (pc' := 26) rfl (by decide) rfl (fun _ => ?_) (fun (h : ¬ ((73 : Int32) ≠ (91 : Int32))) => absurd (by decide) h)
    refine Go.run (B := B_eft) td_eft 13 4 (pc' := 32) (L' := [.val (.ref s), .val (.int (3 : Int32)), .val (.int (3 : Int32)), .unset]) (S' := [.int (255 : Int32), .int ((3 : Int32) - (3 : Int32))]) rfl ?_
    refine Go.icmp (B := B_eft) td_eft 17 (pc' := 43) rfl (by decide) rfl (fun (h : ((3 : Int32) - (3 : Int32)) > (255 : Int32)) => absurd h (by decide)) (fun _ => ?_)
    refine Go.run (B := B_eft) td_eft 18 2 (pc' := 37) (L' := [.val (.ref s), .val (.int (3 : Int32)), .val (.int (3 : Int32)), .unset]) (S' := [.ref s, .int (3 : Int32)]) rfl ?_
    refine Go.callV (B := B_eft) td_eft 20 (B' := B_len) (C := "java/lang/String") (a := s) (argsL := []) (rest := [.int (3 : Int32)]) (W := 1) rfl (lenR_met K (by exact own_le rfl) m) (Or.inr hm) (fun c P => P.1) (w_89 K) (w_90 K) (w_91 K) (w_92 K) (w_92 K) (w_11 K) (w_93 K) (by decide) pd_len rfl rfl rfl rfl (Nat.le_of_eq rfl) (by decide) (by decide) (by decide) (by decide) ?_
    rintro _ _ _ ⟨rfl, rfl, rfl⟩
    show Go A B_eft D _ 40 [.val (.ref s), .val (.int (3 : Int32)), .val (.int (3 : Int32)), .unset] [.int (4 : Int32), .int (3 : Int32)] F G 0 0
    refine Go.icmp (B := B_eft) td_eft 21 (pc' := 45) rfl (by decide) rfl (fun _ => ?_) (fun (h : ¬ ((3 : Int32) ≠ (4 : Int32))) => absurd (by decide) h)
    refine Go.run (B := B_eft) td_eft 24 2 (pc' := 47) (L' := [.val (.ref s), .val (.int (3 : Int32)), .val (.int (3 : Int32)), .unset]) (S' := [.int (3 : Int32), .ref s]) rfl ?_
    refine Go.callV (B := B_eft) td_eft 26 (B' := B_cha) (C := "java/lang/String") (a := s) (argsL := [.int (3 : Int32)]) (rest := []) (W := 0) rfl (chaR_met K (pre := [40, p, 41]) (suf := []) (c := 73) rfl rfl (by exact own_le rfl) m) (Or.inr hm) (fun c P => P.1) (w_102 K) (w_19 K) (w_20 K) (w_21 K) (w_21 K) (w_11 K) (w_22 K) (by decide) pd_cha rfl rfl rfl rfl (Nat.le_of_eq rfl) (by decide) (by decide) (by decide) (by decide) ?_
    rintro _ _ _ ⟨rfl, rfl, rfl⟩
    show Go A B_eft D _ 50 [.val (.ref s), .val (.int (3 : Int32)), .val (.int (3 : Int32)), .unset] [.int (73 : Int32)] F G 0 0
    refine Go.tswIn (B := B_eft) td_eft 27 (o := 114) (pc' := 164) rfl (by decide) rfl (by decide) rfl ?_
    refine Go.run (B := B_eft) td_eft 28 4 (pc' := 204) (L' := [.val (.ref s), .val (.int (3 : Int32)), .val (.int (3 : Int32)), .unset]) (S' := [.int ((3 : Int32) + (1 : Int32))]) rfl ?_
    rw [show ((3 : Int32) + (1 : Int32)) = (4 : Int32) by decide]
    exact Go.retI (B := B_eft) td_eft 53 rfl rfl ⟨rfl, rfl, rfl⟩ (by decide) (by decide)
  · refine Go.run (B := B_eft) td_eft 0 4 (pc' := 4) (L' := [.val (.ref s), .val (.int (3 : Int32)), .val (.int (3 : Int32)), .unset]) (S' := [.ref s, .int (3 : Int32)]) rfl ?_
    refine Go.callV (B := B_eft) td_eft 4 (B' := B_len) (C := "java/lang/String") (a := s) (argsL := []) (rest := [.int (3 : Int32)]) (W := 1) rfl (lenR_met K (by exact own_le rfl) m) (Or.inr hm) (fun c P => P.1) (w_89 K) (w_90 K) (w_91 K) (w_92 K) (w_92 K) (w_11 K) (w_93 K) (by decide) pd_len rfl rfl rfl rfl (Nat.le_of_eq rfl) (by decide) (by decide) (by decide) (by decide) ?_
    rintro _ _ _ ⟨rfl, rfl, rfl⟩
    show Go A B_eft D _ 7 [.val (.ref s), .val (.int (3 : Int32)), .val (.int (3 : Int32)), .unset] [.int (4 : Int32), .int (3 : Int32)] F G 0 0
    refine Go.icmp (B := B_eft) td_eft 5 (pc' := 26) rfl (by decide) rfl (fun (h : (3 : Int32) ≥ (4 : Int32)) => absurd h (by decide)) (fun _ => ?_)
    refine Go.run (B := B_eft) td_eft 6 2 (pc' := 12) (L' := [.val (.ref s), .val (.int (3 : Int32)), .val (.int (3 : Int32)), .unset]) (S' := [.int (3 : Int32), .ref s]) rfl ?_
    refine Go.callV (B := B_eft) td_eft 8 (B' := B_cha) (C := "java/lang/String") (a := s) (argsL := [.int (3 : Int32)]) (rest := []) (W := 0) rfl (chaR_met K (pre := [40, p, 41]) (suf := []) (c := 74) rfl rfl (by exact own_le rfl) m) (Or.inr hm) (fun c P => P.1) (w_102 K) (w_19 K) (w_20 K) (w_21 K) (w_21 K) (w_11 K) (w_22 K) (by decide) pd_cha rfl rfl rfl rfl (Nat.le_of_eq rfl) (by decide) (by decide) (by decide) (by decide) ?_
    rintro _ _ _ ⟨rfl, rfl, rfl⟩
    show Go A B_eft D _ 15 [.val (.ref s), .val (.int (3 : Int32)), .val (.int (3 : Int32)), .unset] [.int (74 : Int32)] F G 0 0
    refine Go.run (B := B_eft) td_eft 9 1 (pc' := 17) (L' := [.val (.ref s), .val (.int (3 : Int32)), .val (.int (3 : Int32)), .unset]) (S' := [.int (91 : Int32), .int (74 : Int32)]) rfl ?_
    refine Go.icmp (B := B_eft) td_eft 10 (pc' := 26) rfl (by decide) rfl (fun _ => ?_) (fun (h : ¬ ((74 : Int32) ≠ (91 : Int32))) => absurd (by decide) h)
    refine Go.run (B := B_eft) td_eft 13 4 (pc' := 32) (L' := [.val (.ref s), .val (.int (3 : Int32)), .val (.int (3 : Int32)), .unset]) (S' := [.int (255 : Int32), .int ((3 : Int32) - (3 : Int32))]) rfl ?_
    refine Go.icmp (B := B_eft) td_eft 17 (pc' := 43) rfl (by decide) rfl (fun (h : ((3 : Int32) - (3 : Int32)) > (255 : Int32)) => absurd h (by decide)) (fun _ => ?_)
    refine Go.run (B := B_eft) td_eft 18 2 (pc' := 37) (L' := [.val (.ref s), .val (.int (3 : Int32)), .val (.int (3 : Int32)), .unset]) (S' := [.ref s, .int (3 : Int32)]) rfl ?_
    refine Go.callV (B := B_eft) td_eft 20 (B' := B_len) (C := "java/lang/String") (a := s) (argsL := []) (rest := [.int (3 : Int32)]) (W := 1) rfl (lenR_met K (by exact own_le rfl) m) (Or.inr hm) (fun c P => P.1) (w_89 K) (w_90 K) (w_91 K) (w_92 K) (w_92 K) (w_11 K) (w_93 K) (by decide) pd_len rfl rfl rfl rfl (Nat.le_of_eq rfl) (by decide) (by decide) (by decide) (by decide) ?_
    rintro _ _ _ ⟨rfl, rfl, rfl⟩
    show Go A B_eft D _ 40 [.val (.ref s), .val (.int (3 : Int32)), .val (.int (3 : Int32)), .unset] [.int (4 : Int32), .int (3 : Int32)] F G 0 0
    refine Go.icmp (B := B_eft) td_eft 21 (pc' := 45) rfl (by decide) rfl (fun _ => ?_) (fun (h : ¬ ((3 : Int32) ≠ (4 : Int32))) => absurd (by decide) h)
    refine Go.run (B := B_eft) td_eft 24 2 (pc' := 47) (L' := [.val (.ref s), .val (.int (3 : Int32)), .val (.int (3 : Int32)), .unset]) (S' := [.int (3 : Int32), .ref s]) rfl ?_
    refine Go.callV (B := B_eft) td_eft 26 (B' := B_cha) (C := "java/lang/String") (a := s) (argsL := [.int (3 : Int32)]) (rest := []) (W := 0) rfl (chaR_met K (pre := [40, p, 41]) (suf := []) (c := 74) rfl rfl (by exact own_le rfl) m) (Or.inr hm) (fun c P => P.1) (w_102 K) (w_19 K) (w_20 K) (w_21 K) (w_21 K) (w_11 K) (w_22 K) (by decide) pd_cha rfl rfl rfl rfl (Nat.le_of_eq rfl) (by decide) (by decide) (by decide) (by decide) ?_
    rintro _ _ _ ⟨rfl, rfl, rfl⟩
    show Go A B_eft D _ 50 [.val (.ref s), .val (.int (3 : Int32)), .val (.int (3 : Int32)), .unset] [.int (74 : Int32)] F G 0 0
    refine Go.tswIn (B := B_eft) td_eft 27 (o := 114) (pc' := 164) rfl (by decide) rfl (by decide) rfl ?_
    refine Go.run (B := B_eft) td_eft 28 4 (pc' := 204) (L' := [.val (.ref s), .val (.int (3 : Int32)), .val (.int (3 : Int32)), .unset]) (S' := [.int ((3 : Int32) + (1 : Int32))]) rfl ?_
    rw [show ((3 : Int32) + (1 : Int32)) = (4 : Int32) by decide]
    exact Go.retI (B := B_eft) td_eft 53 rfl rfl ⟨rfl, rfl, rfl⟩ (by decide) (by decide)
  · refine Go.run (B := B_eft) td_eft 0 4 (pc' := 4) (L' := [.val (.ref s), .val (.int (3 : Int32)), .val (.int (3 : Int32)), .unset]) (S' := [.ref s, .int (3 : Int32)]) rfl ?_
    refine Go.callV (B := B_eft) td_eft 4 (B' := B_len) (C := "java/lang/String") (a := s) (argsL := []) (rest := [.int (3 : Int32)]) (W := 1) rfl (lenR_met K (by exact own_le rfl) m) (Or.inr hm) (fun c P => P.1) (w_89 K) (w_90 K) (w_91 K) (w_92 K) (w_92 K) (w_11 K) (w_93 K) (by decide) pd_len rfl rfl rfl rfl (Nat.le_of_eq rfl) (by decide) (by decide) (by decide) (by decide) ?_
    rintro _ _ _ ⟨rfl, rfl, rfl⟩
    show Go A B_eft D _ 7 [.val (.ref s), .val (.int (3 : Int32)), .val (.int (3 : Int32)), .unset] [.int (4 : Int32), .int (3 : Int32)] F G 0 0
    refine Go.icmp (B := B_eft) td_eft 5 (pc' := 26) rfl (by decide) rfl (fun (h : (3 : Int32) ≥ (4 : Int32)) => absurd h (by decide)) (fun _ => ?_)
    refine Go.run (B := B_eft) td_eft 6 2 (pc' := 12) (L' := [.val (.ref s), .val (.int (3 : Int32)), .val (.int (3 : Int32)), .unset]) (S' := [.int (3 : Int32), .ref s]) rfl ?_
    refine Go.callV (B := B_eft) td_eft 8 (B' := B_cha) (C := "java/lang/String") (a := s) (argsL := [.int (3 : Int32)]) (rest := []) (W := 0) rfl (chaR_met K (pre := [40, p, 41]) (suf := []) (c := 83) rfl rfl (by exact own_le rfl) m) (Or.inr hm) (fun c P => P.1) (w_102 K) (w_19 K) (w_20 K) (w_21 K) (w_21 K) (w_11 K) (w_22 K) (by decide) pd_cha rfl rfl rfl rfl (Nat.le_of_eq rfl) (by decide) (by decide) (by decide) (by decide) ?_
    rintro _ _ _ ⟨rfl, rfl, rfl⟩
    show Go A B_eft D _ 15 [.val (.ref s), .val (.int (3 : Int32)), .val (.int (3 : Int32)), .unset] [.int (83 : Int32)] F G 0 0
    refine Go.run (B := B_eft) td_eft 9 1 (pc' := 17) (L' := [.val (.ref s), .val (.int (3 : Int32)), .val (.int (3 : Int32)), .unset]) (S' := [.int (91 : Int32), .int (83 : Int32)]) rfl ?_
    refine Go.icmp (B := B_eft) td_eft 10 (pc' := 26) rfl (by decide) rfl (fun _ => ?_) (fun (h : ¬ ((83 : Int32) ≠ (91 : Int32))) => absurd (by decide) h)
    refine Go.run (B := B_eft) td_eft 13 4 (pc' := 32) (L' := [.val (.ref s), .val (.int (3 : Int32)), .val (.int (3 : Int32)), .unset]) (S' := [.int (255 : Int32), .int ((3 : Int32) - (3 : Int32))]) rfl ?_
    refine Go.icmp (B := B_eft) td_eft 17 (pc' := 43) rfl (by decide) rfl (fun (h : ((3 : Int32) - (3 : Int32)) > (255 : Int32)) => absurd h (by decide)) (fun _ => ?_)
    refine Go.run (B := B_eft) td_eft 18 2 (pc' := 37) (L' := [.val (.ref s), .val (.int (3 : Int32)), .val (.int (3 : Int32)), .unset]) (S' := [.ref s, .int (3 : Int32)]) rfl ?_
    refine Go.callV (B := B_eft) td_eft 20 (B' := B_len) (C := "java/lang/String") (a := s) (argsL := []) (rest := [.int (3 : Int32)]) (W := 1) rfl (lenR_met K (by exact own_le rfl) m) (Or.inr hm) (fun c P => P.1) (w_89 K) (w_90 K) (w_91 K) (w_92 K) (w_92 K) (w_11 K) (w_93 K) (by decide) pd_len rfl rfl rfl rfl (Nat.le_of_eq rfl) (by decide) (by decide) (by decide) (by decide) ?_
    rintro _ _ _ ⟨rfl, rfl, rfl⟩
    show Go A B_eft D _ 40 [.val (.ref s), .val (.int (3 : Int32)), .val (.int (3 : Int32)), .unset] [.int (4 : Int32), .int (3 : Int32)] F G 0 0
    refine Go.icmp (B := B_eft) td_eft 21 (pc' := 45) rfl (by decide) rfl (fun _ => ?_) (fun (h : ¬ ((3 : Int32) ≠ (4 : Int32))) => absurd (by decide) h)
    refine Go.run (B := B_eft) td_eft 24 2 (pc' := 47) (L' := [.val (.ref s), .val (.int (3 : Int32)), .val (.int (3 : Int32)), .unset]) (S' := [.int (3 : Int32), .ref s]) rfl ?_
    refine Go.callV (B := B_eft) td_eft 26 (B' := B_cha) (C := "java/lang/String") (a := s) (argsL := [.int (3 : Int32)]) (rest := []) (W := 0) rfl (chaR_met K (pre := [40, p, 41]) (suf := []) (c := 83) rfl rfl (by exact own_le rfl) m) (Or.inr hm) (fun c P => P.1) (w_102 K) (w_19 K) (w_20 K) (w_21 K) (w_21 K) (w_11 K) (w_22 K) (by decide) pd_cha rfl rfl rfl rfl (Nat.le_of_eq rfl) (by decide) (by decide) (by decide) (by decide) ?_
    rintro _ _ _ ⟨rfl, rfl, rfl⟩
    show Go A B_eft D _ 50 [.val (.ref s), .val (.int (3 : Int32)), .val (.int (3 : Int32)), .unset] [.int (83 : Int32)] F G 0 0
    refine Go.tswIn (B := B_eft) td_eft 27 (o := 114) (pc' := 164) rfl (by decide) rfl (by decide) rfl ?_
    refine Go.run (B := B_eft) td_eft 28 4 (pc' := 204) (L' := [.val (.ref s), .val (.int (3 : Int32)), .val (.int (3 : Int32)), .unset]) (S' := [.int ((3 : Int32) + (1 : Int32))]) rfl ?_
    rw [show ((3 : Int32) + (1 : Int32)) = (4 : Int32) by decide]
    exact Go.retI (B := B_eft) td_eft 53 rfl rfl ⟨rfl, rfl, rfl⟩ (by decide) (by decide)
  · refine Go.run (B := B_eft) td_eft 0 4 (pc' := 4) (L' := [.val (.ref s), .val (.int (3 : Int32)), .val (.int (3 : Int32)), .unset]) (S' := [.ref s, .int (3 : Int32)]) rfl ?_
    refine Go.callV (B := B_eft) td_eft 4 (B' := B_len) (C := "java/lang/String") (a := s) (argsL := []) (rest := [.int (3 : Int32)]) (W := 1) rfl (lenR_met K (by exact own_le rfl) m) (Or.inr hm) (fun c P => P.1) (w_89 K) (w_90 K) (w_91 K) (w_92 K) (w_92 K) (w_11 K) (w_93 K) (by decide) pd_len rfl rfl rfl rfl (Nat.le_of_eq rfl) (by decide) (by decide) (by decide) (by decide) ?_
    rintro _ _ _ ⟨rfl, rfl, rfl⟩
    show Go A B_eft D _ 7 [.val (.ref s), .val (.int (3 : Int32)), .val (.int (3 : Int32)), .unset] [.int (4 : Int32), .int (3 : Int32)] F G 0 0
    refine Go.icmp (B := B_eft) td_eft 5 (pc' := 26) rfl (by decide) rfl (fun (h : (3 : Int32) ≥ (4 : Int32)) => absurd h (by decide)) (fun _ => ?_)
    refine Go.run (B := B_eft) td_eft 6 2 (pc' := 12) (L' := [.val (.ref s), .val (.int (3 : Int32)), .val (.int (3 : Int32)), .unset]) (S' := [.int (3 : Int32), .ref s]) rfl ?_
    refine Go.callV (B := B_eft) td_eft 8 (B' := B_cha) (C := "java/lang/String") (a := s) (argsL := [.int (3 : Int32)]) (rest := []) (W := 0) rfl (chaR_met K (pre := [40, p, 41]) (suf := []) (c := 90) rfl rfl (by exact own_le rfl) m) (Or.inr hm) (fun c P => P.1) (w_102 K) (w_19 K) (w_20 K) (w_21 K) (w_21 K) (w_11 K) (w_22 K) (by decide) pd_cha rfl rfl rfl rfl (Nat.le_of_eq rfl) (by decide) (by decide) (by decide) (by decide) ?_
    rintro _ _ _ ⟨rfl, rfl, rfl⟩
    show Go A B_eft D _ 15 [.val (.ref s), .val (.int (3 : Int32)), .val (.int (3 : Int32)), .unset] [.int (90 : Int32)] F G 0 0
    refine Go.run (B := B_eft) td_eft 9 1 (pc' := 17) (L' := [.val (.ref s), .val (.int (3 : Int32)), .val (.int (3 : Int32)), .unset]) (S' := [.int (91 : Int32), .int (90 : Int32)]) rfl ?_
    refine Go.icmp (B := B_eft) td_eft 10 (pc' := 26) rfl (by decide) rfl (fun _ => ?_) (fun (h : ¬ ((90 : Int32) ≠ (91 : Int32))) => absurd (by decide) h)
    refine Go.run (B := B_eft) td_eft 13 4 (pc' := 32) (L' := [.val (.ref s), .val (.int (3 : Int32)), .val (.int (3 : Int32)), .unset]) (S' := [.int (255 : Int32), .int ((3 : Int32) - (3 : Int32))]) rfl ?_
    refine Go.icmp (B := B_eft) td_eft 17 (pc' := 43) rfl (by decide) rfl (fun (h : ((3 : Int32) - (3 : Int32)) > (255 : Int32)) => absurd h (by decide)) (fun _ => ?_)
    refine Go.run (B := B_eft) td_eft 18 2 (pc' := 37) (L' := [.val (.ref s), .val (.int (3 : Int32)), .val (.int (3 : Int32)), .unset]) (S' := [.ref s, .int (3 : Int32)]) rfl ?_
    refine Go.callV (B := B_eft) td_eft 20 (B' := B_len) (C := "java/lang/String") (a := s) (argsL := []) (rest := [.int (3 : Int32)]) (W := 1) rfl (lenR_met K (by exact own_le rfl) m) (Or.inr hm) (fun c P => P.1) (w_89 K) (w_90 K) (w_91 K) (w_92 K) (w_92 K) (w_11 K) (w_93 K) (by decide) pd_len rfl rfl rfl rfl (Nat.le_of_eq rfl) (by decide) (by decide) (by decide) (by decide) ?_
    rintro _ _ _ ⟨rfl, rfl, rfl⟩
    show Go A B_eft D _ 40 [.val (.ref s), .val (.int (3 : Int32)), .val (.int (3 : Int32)), .unset] [.int (4 : Int32), .int (3 : Int32)] F G 0 0
    refine Go.icmp (B := B_eft) td_eft 21 (pc' := 45) rfl (by decide) rfl (fun _ => ?_) (fun (h : ¬ ((3 : Int32) ≠ (4 : Int32))) => absurd (by decide) h)
    refine Go.run (B := B_eft) td_eft 24 2 (pc' := 47) (L' := [.val (.ref s), .val (.int (3 : Int32)), .val (.int (3 : Int32)), .unset]) (S' := [.int (3 : Int32), .ref s]) rfl ?_
    refine Go.callV (B := B_eft) td_eft 26 (B' := B_cha) (C := "java/lang/String") (a := s) (argsL := [.int (3 : Int32)]) (rest := []) (W := 0) rfl (chaR_met K (pre := [40, p, 41]) (suf := []) (c := 90) rfl rfl (by exact own_le rfl) m) (Or.inr hm) (fun c P => P.1) (w_102 K) (w_19 K) (w_20 K) (w_21 K) (w_21 K) (w_11 K) (w_22 K) (by decide) pd_cha rfl rfl rfl rfl (Nat.le_of_eq rfl) (by decide) (by decide) (by decide) (by decide) ?_
    rintro _ _ _ ⟨rfl, rfl, rfl⟩
    show Go A B_eft D _ 50 [.val (.ref s), .val (.int (3 : Int32)), .val (.int (3 : Int32)), .unset] [.int (90 : Int32)] F G 0 0
    refine Go.tswIn (B := B_eft) td_eft 27 (o := 114) (pc' := 164) rfl (by decide) rfl (by decide) rfl ?_
    refine Go.run (B := B_eft) td_eft 28 4 (pc' := 204) (L' := [.val (.ref s), .val (.int (3 : Int32)), .val (.int (3 : Int32)), .unset]) (S' := [.int ((3 : Int32) + (1 : Int32))]) rfl ?_
    rw [show ((3 : Int32) + (1 : Int32)) = (4 : Int32) by decide]
    exact Go.retI (B := B_eft) td_eft 53 rfl rfl ⟨rfl, rfl, rfl⟩ (by decide) (by decide)
def tb_ifd : List In1 := [(0, .aload_n 0, 1), (1, .iconst 0, 1), (2, .invokestatic 86, 3), (5, .aload_n 0, 1), (6, .invokevirtual 53, 3), (9, .if_icmp .ne 7, 3), (12, .iconst 1, 1), (13, .goto 4, 3), (16, .iconst 0, 1), (17, .ireturn, 1)]
set_option maxRecDepth 65536 in
theorem td_ifd : Dec prog_19_method_14_code tb_ifd := by unfold Dec; decide +kernel
theorem pd_ifd : parseMethodDescriptor "(Ljava/lang/String;)Z" = some ⟨[(.object "java/lang/String")], (some .boolean)⟩ := by decide +kernel
theorem pn_ifd : plainFor (⟨"com/example/callweave/callweave/model/JvmNames", "isFieldDescriptor", "(Ljava/lang/String;)Z"⟩ : MethodName) = true := by decide +kernel
abbrev B_ifd : Bx := ((⟨"com/example/callweave/callweave/model/JvmNames", "isFieldDescriptor", "(Ljava/lang/String;)Z"⟩ : MethodName), prog_19_method_14_code, 1, (Option.some Jvm.ClassFile.FieldType.boolean), ({ frames := 5, cells := 0, slots := 0, locals := 68 } : Room))
set_option maxRecDepth 65536 in
set_option maxHeartbeats 4000000 in
theorem ifd_met {A : Ax} (K : Wd A) {s : Addr} {p : Int32} (hp : Pm p) {F G : List Ent} (m : StrL A G s [p]) : Met A B_ifd #[.ref s] F G (fun v F' G' => v = some (.int 1) ∧ F = F' ∧ G = G') := by
  refine MetW.of_go pn_ifd K.ew (L := [.val (.ref s)]) (fun m => rfl) ?_
  intro D _
  obtain ⟨bS, cdS, hm⟩ := m.obj
  refine Go.run (B := B_ifd) td_ifd 0 2 (pc' := 2) (L' := [.val (.ref s)]) (S' := [.int (0 : Int32), .ref s]) rfl ?_
  refine Go.callS (B := B_ifd) td_ifd 2 (B' := B_eft) (argsL := [.ref s, .int (0 : Int32)]) (rest := []) (W := 0) rfl (eft0_met K hp m) (w_155 K) (w_156 K) (w_84 K) (w_157 K) (by decide) pd_eft rfl rfl rfl rfl (Nat.le_of_eq rfl) (by decide) (by decide) (by decide) (by decide) ?_
  rintro _ _ _ ⟨rfl, rfl, rfl⟩
  show Go A B_ifd D _ 5 [.val (.ref s)] [.int (1 : Int32)] F G 0 0
  refine Go.run (B := B_ifd) td_ifd 3 1 (pc' := 6) (L' := [.val (.ref s)]) (S' := [.ref s, .int (1 : Int32)]) rfl ?_
  refine Go.callV (B := B_ifd) td_ifd 4 (B' := B_len) (C := "java/lang/String") (a := s) (argsL := []) (rest := [.int (1 : Int32)]) (W := 1) rfl (lenR_met K (by exact own_le rfl) m) (Or.inr hm) (fun c P => P.1) (w_89 K) (w_90 K) (w_91 K) (w_92 K) (w_92 K) (w_11 K) (w_93 K) (by decide) pd_len rfl rfl rfl rfl (Nat.le_of_eq rfl) (by decide) (by decide) (by decide) (by decide) ?_
  rintro _ _ _ ⟨rfl, rfl, rfl⟩
  show Go A B_ifd D _ 9 [.val (.ref s)] [.int (1 : Int32), .int (1 : Int32)] F G 0 0
  refine Go.icmp (B := B_ifd) td_ifd 5 (pc' := 16) rfl (by decide) rfl (fun (h : (1 : Int32) ≠ (1 : Int32)) => absurd h (by decide)) (fun _ => ?_)
  refine Go.run (B := B_ifd) td_ifd 6 2 (pc' := 17) (L' := [.val (.ref s)]) (S' := [.int (1 : Int32)]) rfl ?_
  exact Go.retZ (B := B_ifd) td_ifd 9 rfl rfl rfl ⟨rfl, rfl, rfl⟩ (by decide) (by decide)
def tb_rqd : List In1 := [(0, .aload_n 0, 1), (1, .invokestatic 29, 3), (4, .ldc 32, 2), (6, .aload_n 0, 1), (7, .invokestatic 15, 3), (10, .areturn, 1)]
set_option maxRecDepth 65536 in
theorem td_rqd : Dec prog_19_method_5_code tb_rqd := by unfold Dec; decide +kernel
theorem pd_rqd : parseMethodDescriptor "(Ljava/lang/String;)Ljava/lang/String;" = some ⟨[(.object "java/lang/String")], (some (.object "java/lang/String"))⟩ := by decide +kernel
theorem pn_rqd : plainFor (⟨"com/example/callweave/callweave/model/JvmNames", "requireFieldDescriptor", "(Ljava/lang/String;)Ljava/lang/String;"⟩ : MethodName) = true := by decide +kernel
abbrev B_rqd : Bx := ((⟨"com/example/callweave/callweave/model/JvmNames", "requireFieldDescriptor", "(Ljava/lang/String;)Ljava/lang/String;"⟩ : MethodName), prog_19_method_5_code, 1, (Option.some (Jvm.ClassFile.FieldType.object "java/lang/String")), ({ frames := 6, cells := 2, slots := 76, locals := 80 } : Room))
set_option maxRecDepth 65536 in
set_option maxHeartbeats 4000000 in
theorem rqd_met {A : Ax} (K : Wd A) {s : Addr} {p : Int32} (hp : Pm p) {F G : List Ent} (m : StrL A G s [p]) : Met A B_rqd #[.ref s] F G (fun v F' G' => v = some (.ref s) ∧ F = F' ∧ G = G') := by
  refine MetW.of_go pn_rqd K.ew (L := [.val (.ref s)]) (fun m => rfl) ?_
  intro D _
  refine Go.run (B := B_rqd) td_rqd 0 1 (pc' := 1) (L' := [.val (.ref s)]) (S' := [.ref s]) rfl ?_
  refine Go.callS (B := B_rqd) td_rqd 1 (B' := B_ifd) (argsL := [.ref s]) (rest := []) (W := 0) rfl (ifd_met K hp m) (w_202 K) (w_203 K) (w_84 K) (w_204 K) (by decide) pd_ifd rfl rfl rfl rfl (Nat.le_of_eq rfl) (by decide) (by decide) (by decide) (by decide) ?_
  rintro _ _ _ ⟨rfl, rfl, rfl⟩
  show Go A B_rqd D _ 4 [.val (.ref s)] [.int (1 : Int32)] F G 0 0
  refine Go.ldcO (B := B_rqd) td_rqd 2 (n := 72) rfl (w_205 K) (strAtoms K) K.wm (by decide) (by decide) (by decide) (by decide) ?_
  intro a
  show Go A B_rqd D _ 6 [.val (.ref s)] [.ref a, .int (1 : Int32)] F G 2 76
  refine Go.run (B := B_rqd) td_rqd 3 1 (pc' := 7) (L' := [.val (.ref s)]) (S' := [.ref s, .ref a, .int (1 : Int32)]) rfl ?_
  refine Go.callS (B := B_rqd) td_rqd 4 (B' := B_rqr) (argsL := [.int (1 : Int32), .ref a, .ref s]) (rest := []) (W := 0) rfl (rqr_met K) (w_104 K) (w_105 K) (w_84 K) (w_106 K) (by decide) pd_rqr rfl rfl rfl rfl (Nat.le_of_eq rfl) (by decide) (by decide) (by decide) (by decide) ?_
  rintro _ _ _ ⟨rfl, rfl, rfl⟩
  show Go A B_rqd D _ 10 [.val (.ref s)] [.ref s] F G 2 76
  exact Go.retA (B := B_rqd) td_rqd 5 rfl rfl rfl rfl ⟨rfl, rfl, rfl⟩ (by decide) (by decide)
def tb_mis : List In1 := [(0, .iconst 0, 1), (1, .istore 5, 2), (3, .iload 4, 2), (5, .bipush 7, 2), (7, .if_icmp .le 63, 3), (10, .aload_n 0, 1), (11, .iload_n 1, 1), (12, .baload, 1), (13, .aload_n 2, 1), (14, .iload_n 3, 1), (15, .baload, 1), (16, .if_icmp .eq 5, 3), (19, .iconst 0, 1), (20, .ireturn, 1), (21, .getstatic 126, 3), (24, .iload_n 1, 1), (25, .iadd, 1), (26, .istore 6, 2), (28, .getstatic 126, 3), (31, .iload_n 3, 1), (32, .iadd, 1), (33, .istore 7, 2), (35, .aload_n 0, 1), (36, .iload 6, 2), (38, .i2l, 1), (39, .aload_n 2, 1), (40, .iload 7, 2), (42, .i2l, 1), (43, .iload 4, 2), (45, .getstatic 129, 3), (48, .invokestatic 122, 3), (51, .istore 5, 2), (53, .iload 5, 2), (55, .ifCond .lt 6, 3), (58, .iload 5, 2), (60, .ireturn, 1), (61, .iload 4, 2), (63, .iload 5, 2), (65, .iconst (-1), 1), (66, .ixor, 1), (67, .isub, 1), (68, .istore 5, 2), (70, .iload 5, 2), (72, .iload 4, 2), (74, .if_icmp .ge 27, 3), (77, .aload_n 0, 1), (78, .iload_n 1, 1), (79, .iload 5, 2), (81, .iadd, 1), (82, .baload, 1), (83, .aload_n 2, 1), (84, .iload_n 3, 1), (85, .iload 5, 2), (87, .iadd, 1), (88, .baload, 1), (89, .if_icmp .eq 6, 3), (92, .iload 5, 2), (94, .ireturn, 1), (95, .iinc 5 1, 3), (98, .goto (-28), 3), (101, .iconst (-1), 1), (102, .ireturn, 1)]
set_option maxRecDepth 65536 in
theorem td_mis : Dec jdk_48_method_14_code tb_mis := by unfold Dec; decide +kernel
theorem pd_mis : parseMethodDescriptor "([BI[BII)I" = some ⟨[(.array .byte), .int, (.array .byte), .int, .int], (some .int)⟩ := by decide +kernel
theorem pn_mis : plainFor (⟨"jdk/internal/util/ArraysSupport", "mismatch", "([BI[BII)I"⟩ : MethodName) = true := by decide +kernel
abbrev B_mis : Bx := ((⟨"jdk/internal/util/ArraysSupport", "mismatch", "([BI[BII)I"⟩ : MethodName), jdk_48_method_14_code, 8, (Option.some Jvm.ClassFile.FieldType.int), ({ frames := 0, cells := 0, slots := 0, locals := 0 } : Room))
set_option maxRecDepth 65536 in
set_option maxHeartbeats 4000000 in
theorem mis_met {A : Ax} (K : Wd A) {a b : Addr} {p r : Int32} {F G : List Ent} (ma : BytE A a (latB [40, p, 41, r]) ∈ G) (mb : BytE A b (latB [40]) ∈ G) : Met A B_mis #[.ref a, .int (0 : Int32), .ref b, .int (0 : Int32), .int (1 : Int32)] F G (fun v F' G' => v = some (.int (-1)) ∧ F = F' ∧ G = G') := by
  refine MetW.of_go pn_mis K.ew (L := [.val (.ref a), .val (.int (0 : Int32)), .val (.ref b), .val (.int (0 : Int32)), .val (.int (1 : Int32)), .unset, .unset, .unset]) (fun m => rfl) ?_
  intro D _
  refine Go.run (B := B_mis) td_mis 0 4 (pc' := 7) (L' := [.val (.ref a), .val (.int (0 : Int32)), .val (.ref b), .val (.int (0 : Int32)), .val (.int (1 : Int32)), .val (.int (0 : Int32)), .unset, .unset]) (S' := [.int (7 : Int32), .int (1 : Int32)]) rfl ?_
  refine Go.icmp (B := B_mis) td_mis 4 (pc' := 70) rfl (by decide) rfl (fun _ => ?_) (fun (h : ¬ ((1 : Int32) ≤ (7 : Int32))) => absurd (by decide) h)
  refine Go.run (B := B_mis) td_mis 42 2 (pc' := 74) (L' := [.val (.ref a), .val (.int (0 : Int32)), .val (.ref b), .val (.int (0 : Int32)), .val (.int (1 : Int32)), .val (.int (0 : Int32)), .unset, .unset]) (S' := [.int (1 : Int32), .int (0 : Int32)]) rfl ?_
  refine Go.icmp (B := B_mis) td_mis 44 (pc' := 101) rfl (by decide) rfl (fun (h : (0 : Int32) ≥ (1 : Int32)) => absurd h (by decide)) (fun _ => ?_)
  refine Go.run (B := B_mis) td_mis 45 4 (pc' := 82) (L' := [.val (.ref a), .val (.int (0 : Int32)), .val (.ref b), .val (.int (0 : Int32)), .val (.int (1 : Int32)), .val (.int (0 : Int32)), .unset, .unset]) (S' := [.int ((0 : Int32) + (0 : Int32)), .ref a]) rfl ?_
  refine Go.baload (B := B_mis) td_mis 49 (v := .int (byt8 40)) rfl (Or.inr ma) (own_inB 4 rfl (by decide)) rfl ?_
  refine Go.run (B := B_mis) td_mis 50 4 (pc' := 88) (L' := [.val (.ref a), .val (.int (0 : Int32)), .val (.ref b), .val (.int (0 : Int32)), .val (.int (1 : Int32)), .val (.int (0 : Int32)), .unset, .unset]) (S' := [.int ((0 : Int32) + (0 : Int32)), .ref b, .int (byt8 40)]) rfl ?_
  refine Go.baload (B := B_mis) td_mis 54 (v := .int (byt8 40)) rfl (Or.inr mb) (own_inB 1 rfl (by decide)) rfl ?_
  refine Go.icmp (B := B_mis) td_mis 55 (pc' := 95) rfl (by decide) rfl (fun _ => ?_) (fun (h : ¬ ((byt8 40) = (byt8 40))) => absurd rfl h)
  refine Go.run (B := B_mis) td_mis 58 2 (pc' := 70) (L' := [.val (.ref a), .val (.int (0 : Int32)), .val (.ref b), .val (.int (0 : Int32)), .val (.int (1 : Int32)), .val (.int ((0 : Int32) + (1 : Int32))), .unset, .unset]) (S' := []) rfl ?_
  refine Go.run (B := B_mis) td_mis 42 2 (pc' := 74) (L' := [.val (.ref a), .val (.int (0 : Int32)), .val (.ref b), .val (.int (0 : Int32)), .val (.int (1 : Int32)), .val (.int ((0 : Int32) + (1 : Int32))), .unset, .unset]) (S' := [.int (1 : Int32), .int ((0 : Int32) + (1 : Int32))]) rfl ?_
  refine Go.icmp (B := B_mis) td_mis 44 (pc' := 101) rfl (by decide) rfl (fun _ => ?_) (fun (h : ¬ (((0 : Int32) + (1 : Int32)) ≥ (1 : Int32))) => absurd (by decide) h)
  refine Go.run (B := B_mis) td_mis 60 1 (pc' := 102) (L' := [.val (.ref a), .val (.int (0 : Int32)), .val (.ref b), .val (.int (0 : Int32)), .val (.int (1 : Int32)), .val (.int ((0 : Int32) + (1 : Int32))), .unset, .unset]) (S' := [.int (-1 : Int32)]) rfl ?_
  exact Go.retI (B := B_mis) td_mis 61 rfl rfl ⟨rfl, rfl, rfl⟩ (by decide) (by decide)
def tb_sw2 : List In1 := [(0, .iload_n 2, 1), (1, .ifCond .lt 16, 3), (4, .iload_n 2, 1), (5, .aload_n 0, 1), (6, .invokevirtual 505, 3), (9, .aload_n 1, 1), (10, .invokevirtual 505, 3), (13, .isub, 1), (14, .if_icmp .le 5, 3), (17, .iconst 0, 1), (18, .ireturn, 1), (19, .aload_n 0, 1), (20, .getfield 9, 3), (23, .astore_n 3, 1), (24, .aload_n 1, 1), (25, .getfield 9, 3), (28, .astore 4, 2), (30, .iconst 0, 1), (31, .istore 5, 2), (33, .aload 4, 2), (35, .arraylength, 1), (36, .istore 6, 2), (38, .aload_n 0, 1), (39, .invokevirtual 335, 3), (42, .istore 7, 2), (44, .iload 7, 2), (46, .aload_n 1, 1), (47, .invokevirtual 335, 3), (50, .if_icmp .ne 32, 3), (53, .iload 7, 2), (55, .iconst 1, 1), (56, .if_icmp .ne 7, 3), (59, .iload_n 2, 1), (60, .iconst 1, 1), (61, .ishl, 1), (62, .istore_n 2, 1), (63, .aload_n 3, 1), (64, .iload_n 2, 1), (65, .aload 4, 2), (67, .iconst 0, 1), (68, .iload 6, 2), (70, .invokestatic 607, 3), (73, .ifCond .ge 7, 3), (76, .iconst 1, 1), (77, .goto 4, 3), (80, .iconst 0, 1), (81, .ireturn, 1), (82, .iload 7, 2), (84, .ifCond .ne 5, 3), (87, .iconst 0, 1), (88, .ireturn, 1), (89, .iload 5, 2), (91, .iload 6, 2), (93, .if_icmp .ge 28, 3), (96, .aload_n 3, 1), (97, .iload_n 2, 1), (98, .iinc 2 1, 3), (101, .invokestatic 360, 3), (104, .aload 4, 2), (106, .iload 5, 2), (108, .iinc 5 1, 3), (111, .baload, 1), (112, .sipush 255, 3), (115, .iand, 1), (116, .if_icmp .eq (-27), 3), (119, .iconst 0, 1), (120, .ireturn, 1), (121, .iconst 1, 1), (122, .ireturn, 1)]
set_option maxRecDepth 65536 in
theorem td_sw2 : Dec jdk_42_method_75_code tb_sw2 := by unfold Dec; decide +kernel
theorem pd_sw2 : parseMethodDescriptor "(Ljava/lang/String;I)Z" = some ⟨[(.object "java/lang/String"), .int], (some .boolean)⟩ := by decide +kernel
theorem pn_sw2 : plainFor (⟨"java/lang/String", "startsWith", "(Ljava/lang/String;I)Z"⟩ : MethodName) = true := by decide +kernel
abbrev B_sw2 : Bx := ((⟨"java/lang/String", "startsWith", "(Ljava/lang/String;I)Z"⟩ : MethodName), jdk_42_method_75_code, 8, (Option.some Jvm.ClassFile.FieldType.boolean), ({ frames := 2, cells := 0, slots := 0, locals := 27 } : Room))
set_option maxRecDepth 65536 in
set_option maxHeartbeats 4000000 in
theorem sw2_met {A : Ax} (K : Wd A) {s t a b : Addr} {p r : Int32} {F G : List Ent} (ms : StrE A s a 0 ∈ G) (ma : BytE A a (latB [40, p, 41, r]) ∈ G) (mt : StrE A t b 0 ∈ G) (mb : BytE A b (latB [40]) ∈ G) : Met A B_sw2 #[.ref s, .ref t, .int (0 : Int32)] F G (fun v F' G' => v = some (.int 1) ∧ F = F' ∧ G = G') := by
  refine MetW.of_go pn_sw2 K.ew (L := [.val (.ref s), .val (.ref t), .val (.int (0 : Int32)), .unset, .unset, .unset, .unset, .unset]) (fun m => rfl) ?_
  intro D _
  refine Go.run (B := B_sw2) td_sw2 0 1 (pc' := 1) (L' := [.val (.ref s), .val (.ref t), .val (.int (0 : Int32)), .unset, .unset, .unset, .unset, .unset]) (S' := [.int (0 : Int32)]) rfl ?_
  refine Go.if0 (B := B_sw2) td_sw2 1 (pc' := 17) rfl (by decide) rfl (fun (h : (0 : Int32) < 0) => absurd h (by decide)) (fun _ => ?_)
  refine Go.run (B := B_sw2) td_sw2 2 2 (pc' := 6) (L' := [.val (.ref s), .val (.ref t), .val (.int (0 : Int32)), .unset, .unset, .unset, .unset, .unset]) (S' := [.ref s, .int (0 : Int32)]) rfl ?_
  refine Go.callV (B := B_sw2) td_sw2 4 (B' := B_len) (C := "java/lang/String") (a := s) (argsL := []) (rest := [.int (0 : Int32)]) (W := 1) rfl (lenL_met K (cs := [40, p, 41, r]) (own_le rfl) (Or.inr ms) (Or.inr ma)) (Or.inr ms) (fun c P => P.1) (w_150 K) (w_90 K) (w_91 K) (w_92 K) (w_92 K) (w_11 K) (w_93 K) (by decide) pd_len rfl rfl rfl rfl (Nat.le_of_eq rfl) (by decide) (by decide) (by decide) (by decide) ?_
  rintro _ _ _ ⟨rfl, rfl, rfl⟩
  show Go A B_sw2 D _ 9 [.val (.ref s), .val (.ref t), .val (.int (0 : Int32)), .unset, .unset, .unset, .unset, .unset] [.int (4 : Int32), .int (0 : Int32)] F G 0 0
  refine Go.run (B := B_sw2) td_sw2 5 1 (pc' := 10) (L' := [.val (.ref s), .val (.ref t), .val (.int (0 : Int32)), .unset, .unset, .unset, .unset, .unset]) (S' := [.ref t, .int (4 : Int32), .int (0 : Int32)]) rfl ?_
  refine Go.callV (B := B_sw2) td_sw2 6 (B' := B_len) (C := "java/lang/String") (a := t) (argsL := []) (rest := [.int (4 : Int32), .int (0 : Int32)]) (W := 2) rfl (lenL_met K (cs := [40]) (own_le rfl) (Or.inr mt) (Or.inr mb)) (Or.inr mt) (fun c P => P.1) (w_150 K) (w_90 K) (w_91 K) (w_92 K) (w_92 K) (w_11 K) (w_93 K) (by decide) pd_len rfl rfl rfl rfl (Nat.le_of_eq rfl) (by decide) (by decide) (by decide) (by decide) ?_
  rintro _ _ _ ⟨rfl, rfl, rfl⟩
  show Go A B_sw2 D _ 13 [.val (.ref s), .val (.ref t), .val (.int (0 : Int32)), .unset, .unset, .unset, .unset, .unset] [.int (1 : Int32), .int (4 : Int32), .int (0 : Int32)] F G 0 0
  refine Go.run (B := B_sw2) td_sw2 7 1 (pc' := 14) (L' := [.val (.ref s), .val (.ref t), .val (.int (0 : Int32)), .unset, .unset, .unset, .unset, .unset]) (S' := [.int ((4 : Int32) - (1 : Int32)), .int (0 : Int32)]) rfl ?_
  refine Go.icmp (B := B_sw2) td_sw2 8 (pc' := 19) rfl (by decide) rfl (fun _ => ?_) (fun (h : ¬ ((0 : Int32) ≤ ((4 : Int32) - (1 : Int32)))) => absurd (by decide) h)
  refine Go.run (B := B_sw2) td_sw2 11 1 (pc' := 20) (L' := [.val (.ref s), .val (.ref t), .val (.int (0 : Int32)), .unset, .unset, .unset, .unset, .unset]) (S' := [.ref s]) rfl ?_
  refine Go.getfield (B := B_sw2) td_sw2 12 rfl (w_30 K) (Or.inr ms) (List.mem_of_getElem? (i := 0) rfl) ?_
  refine Go.run (B := B_sw2) td_sw2 13 2 (pc' := 25) (L' := [.val (.ref s), .val (.ref t), .val (.int (0 : Int32)), .val (.ref a), .unset, .unset, .unset, .unset]) (S' := [.ref t]) rfl ?_
  refine Go.getfield (B := B_sw2) td_sw2 15 rfl (w_30 K) (Or.inr mt) (List.mem_of_getElem? (i := 0) rfl) ?_
  refine Go.run (B := B_sw2) td_sw2 16 4 (pc' := 35) (L' := [.val (.ref s), .val (.ref t), .val (.int (0 : Int32)), .val (.ref a), .val (.ref b), .val (.int (0 : Int32)), .unset, .unset]) (S' := [.ref b]) rfl ?_
  refine Go.arraylength (B := B_sw2) td_sw2 20 (z := (1 : Int32)) rfl (Or.inr mb) rfl ?_
  refine Go.run (B := B_sw2) td_sw2 21 2 (pc' := 39) (L' := [.val (.ref s), .val (.ref t), .val (.int (0 : Int32)), .val (.ref a), .val (.ref b), .val (.int (0 : Int32)), .val (.int (1 : Int32)), .unset]) (S' := [.ref s]) rfl ?_
  refine Go.callV (B := B_sw2) td_sw2 23 (B' := B_cdr) (C := "java/lang/String") (a := s) (argsL := []) (rest := []) (W := 0) rfl (cdr_met K (cd := 0) rfl (Or.inr ms)) (Or.inr ms) (fun c P => P.1) (w_94 K) (w_95 K) (w_96 K) (w_97 K) (w_97 K) (w_11 K) (w_98 K) (by decide) pd_cdr rfl rfl rfl rfl (Nat.le_of_eq rfl) (by decide) (by decide) (by decide) (by decide) ?_
  rintro _ _ _ ⟨rfl, rfl, rfl⟩
  show Go A B_sw2 D _ 42 [.val (.ref s), .val (.ref t), .val (.int (0 : Int32)), .val (.ref a), .val (.ref b), .val (.int (0 : Int32)), .val (.int (1 : Int32)), .unset] [.int (0 : Int32)] F G 0 0
  refine Go.run (B := B_sw2) td_sw2 24 3 (pc' := 47) (L' := [.val (.ref s), .val (.ref t), .val (.int (0 : Int32)), .val (.ref a), .val (.ref b), .val (.int (0 : Int32)), .val (.int (1 : Int32)), .val (.int (0 : Int32))]) (S' := [.ref t, .int (0 : Int32)]) rfl ?_
  refine Go.callV (B := B_sw2) td_sw2 27 (B' := B_cdr) (C := "java/lang/String") (a := t) (argsL := []) (rest := [.int (0 : Int32)]) (W := 1) rfl (cdr_met K (cd := 0) rfl (Or.inr mt)) (Or.inr mt) (fun c P => P.1) (w_94 K) (w_95 K) (w_96 K) (w_97 K) (w_97 K) (w_11 K) (w_98 K) (by decide) pd_cdr rfl rfl rfl rfl (Nat.le_of_eq rfl) (by decide) (by decide) (by decide) (by decide) ?_
  rintro _ _ _ ⟨rfl, rfl, rfl⟩
  show Go A B_sw2 D _ 50 [.val (.ref s), .val (.ref t), .val (.int (0 : Int32)), .val (.ref a), .val (.ref b), .val (.int (0 : Int32)), .val (.int (1 : Int32)), .val (.int (0 : Int32))] [.int (0 : Int32), .int (0 : Int32)] F G 0 0
  refine Go.icmp (B := B_sw2) td_sw2 28 (pc' := 82) rfl (by decide) rfl (fun (h : (0 : Int32) ≠ (0 : Int32)) => absurd h (fun z => z rfl)) (fun _ => ?_)
  refine Go.run (B := B_sw2) td_sw2 29 2 (pc' := 56) (L' := [.val (.ref s), .val (.ref t), .val (.int (0 : Int32)), .val (.ref a), .val (.ref b), .val (.int (0 : Int32)), .val (.int (1 : Int32)), .val (.int (0 : Int32))]) (S' := [.int (1 : Int32), .int (0 : Int32)]) rfl ?_
  refine Go.icmp (B := B_sw2) td_sw2 31 (pc' := 63) rfl (by decide) rfl (fun _ => ?_) (fun (h : ¬ ((0 : Int32) ≠ (1 : Int32))) => absurd (by decide) h)
  refine Go.run (B := B_sw2) td_sw2 36 5 (pc' := 70) (L' := [.val (.ref s), .val (.ref t), .val (.int (0 : Int32)), .val (.ref a), .val (.ref b), .val (.int (0 : Int32)), .val (.int (1 : Int32)), .val (.int (0 : Int32))]) (S' := [.int (1 : Int32), .int (0 : Int32), .ref b, .int (0 : Int32), .ref a]) rfl ?_
  refine Go.callS (B := B_sw2) td_sw2 41 (B' := B_mis) (argsL := [.ref a, .int (0 : Int32), .ref b, .int (0 : Int32), .int (1 : Int32)]) (rest := []) (W := 0) rfl (mis_met K ma mb) (w_151 K) (w_152 K) (w_153 K) (w_154 K) (by decide) pd_mis rfl rfl rfl rfl (Nat.le_of_eq rfl) (by decide) (by decide) (by decide) (by decide) ?_
  rintro _ _ _ ⟨rfl, rfl, rfl⟩
  show Go A B_sw2 D _ 73 [.val (.ref s), .val (.ref t), .val (.int (0 : Int32)), .val (.ref a), .val (.ref b), .val (.int (0 : Int32)), .val (.int (1 : Int32)), .val (.int (0 : Int32))] [.int (-1 : Int32)] F G 0 0
  refine Go.if0 (B := B_sw2) td_sw2 42 (pc' := 80) rfl (by decide) rfl (fun (h : (-1 : Int32) ≥ 0) => absurd h (by decide)) (fun _ => ?_)
  refine Go.run (B := B_sw2) td_sw2 43 2 (pc' := 81) (L' := [.val (.ref s), .val (.ref t), .val (.int (0 : Int32)), .val (.ref a), .val (.ref b), .val (.int (0 : Int32)), .val (.int (1 : Int32)), .val (.int (0 : Int32))]) (S' := [.int (1 : Int32)]) rfl ?_
  exact Go.retZ (B := B_sw2) td_sw2 46 rfl rfl rfl ⟨rfl, rfl, rfl⟩ (by decide) (by decide)
def tb_sw1 : List In1 := [(0, .aload_n 0, 1), (1, .aload_n 1, 1), (2, .iconst 0, 1), (3, .invokevirtual 624, 3), (6, .ireturn, 1)]
set_option maxRecDepth 65536 in
theorem td_sw1 : Dec jdk_42_method_76_code tb_sw1 := by unfold Dec; decide +kernel
theorem pd_sw1 : parseMethodDescriptor "(Ljava/lang/String;)Z" = some ⟨[(.object "java/lang/String")], (some .boolean)⟩ := by decide +kernel
theorem pn_sw1 : plainFor (⟨"java/lang/String", "startsWith", "(Ljava/lang/String;)Z"⟩ : MethodName) = true := by decide +kernel
abbrev B_sw1 : Bx := ((⟨"java/lang/String", "startsWith", "(Ljava/lang/String;)Z"⟩ : MethodName), jdk_42_method_76_code, 2, (Option.some Jvm.ClassFile.FieldType.boolean), ({ frames := 3, cells := 0, slots := 0, locals := 46 } : Room))
set_option maxRecDepth 65536 in
set_option maxHeartbeats 4000000 in
theorem sw1_met {A : Ax} (K : Wd A) {s t a b : Addr} {p r : Int32} {F G : List Ent} (ms : StrE A s a 0 ∈ G) (ma : BytE A a (latB [40, p, 41, r]) ∈ G) (mt : StrE A t b 0 ∈ G) (mb : BytE A b (latB [40]) ∈ G) : Met A B_sw1 #[.ref s, .ref t] F G (fun v F' G' => v = some (.int 1) ∧ F = F' ∧ G = G') := by
  refine MetW.of_go pn_sw1 K.ew (L := [.val (.ref s), .val (.ref t)]) (fun m => rfl) ?_
  intro D _
  refine Go.run (B := B_sw1) td_sw1 0 3 (pc' := 3) (L' := [.val (.ref s), .val (.ref t)]) (S' := [.int (0 : Int32), .ref t, .ref s]) rfl ?_
  refine Go.callV (B := B_sw1) td_sw1 3 (B' := B_sw2) (C := "java/lang/String") (a := s) (argsL := [.ref t, .int (0 : Int32)]) (rest := []) (W := 0) rfl (sw2_met K ms ma mt mb) (Or.inr ms) (fun c P => P.1) (w_145 K) (w_146 K) (w_147 K) (w_148 K) (w_148 K) (w_11 K) (w_149 K) (by decide) pd_sw2 rfl rfl rfl rfl (Nat.le_of_eq rfl) (by decide) (by decide) (by decide) (by decide) ?_
  rintro _ _ _ ⟨rfl, rfl, rfl⟩
  show Go A B_sw1 D _ 6 [.val (.ref s), .val (.ref t)] [.int (1 : Int32)] F G 0 0
  exact Go.retZ (B := B_sw1) td_sw1 4 rfl rfl rfl ⟨rfl, rfl, rfl⟩ (by decide) (by decide)
def tb_imd : List In1 := [(0, .aload_n 0, 1), (1, .ldc 90, 2), (3, .invokevirtual 64, 3), (6, .ifCond .ne 5, 3), (9, .iconst 0, 1), (10, .ireturn, 1), (11, .iconst 1, 1), (12, .istore_n 1, 1), (13, .iload_n 1, 1), (14, .aload_n 0, 1), (15, .invokevirtual 53, 3), (18, .if_icmp .ge 25, 3), (21, .aload_n 0, 1), (22, .iload_n 1, 1), (23, .invokevirtual 78, 3), (26, .bipush 41, 2), (28, .if_icmp .eq 15, 3), (31, .aload_n 0, 1), (32, .iload_n 1, 1), (33, .invokestatic 86, 3), (36, .istore_n 1, 1), (37, .iload_n 1, 1), (38, .ifCond .ge (-25), 3), (41, .iconst 0, 1), (42, .ireturn, 1), (43, .iload_n 1, 1), (44, .aload_n 0, 1), (45, .invokevirtual 53, 3), (48, .if_icmp .ne 5, 3), (51, .iconst 0, 1), (52, .ireturn, 1), (53, .iload_n 1, 1), (54, .iconst 1, 1), (55, .iadd, 1), (56, .istore_n 2, 1), (57, .aload_n 0, 1), (58, .invokevirtual 53, 3), (61, .iload_n 2, 1), (62, .iconst 1, 1), (63, .iadd, 1), (64, .if_icmp .ne 17, 3), (67, .aload_n 0, 1), (68, .iload_n 2, 1), (69, .invokevirtual 78, 3), (72, .bipush 86, 2), (74, .if_icmp .ne 7, 3), (77, .iconst 1, 1), (78, .goto 4, 3), (81, .iconst 0, 1), (82, .istore_n 3, 1), (83, .iload_n 3, 1), (84, .ifCond .ne 15, 3), (87, .aload_n 0, 1), (88, .iload_n 2, 1), (89, .invokestatic 86, 3), (92, .aload_n 0, 1), (93, .invokevirtual 53, 3), (96, .if_icmp .ne 7, 3), (99, .iconst 1, 1), (100, .goto 4, 3), (103, .iconst 0, 1), (104, .ireturn, 1)]
set_option maxRecDepth 65536 in
theorem td_imd : Dec prog_19_method_15_code tb_imd := by unfold Dec; decide +kernel
theorem pd_imd : parseMethodDescriptor "(Ljava/lang/String;)Z" = some ⟨[(.object "java/lang/String")], (some .boolean)⟩ := by decide +kernel
theorem pn_imd : plainFor (⟨"com/example/callweave/callweave/model/JvmNames", "isMethodDescriptor", "(Ljava/lang/String;)Z"⟩ : MethodName) = true := by decide +kernel
abbrev B_imd : Bx := ((⟨"com/example/callweave/callweave/model/JvmNames", "isMethodDescriptor", "(Ljava/lang/String;)Z"⟩ : MethodName), prog_19_method_15_code, 4, (Option.some Jvm.ClassFile.FieldType.boolean), ({ frames := 5, cells := 2, slots := 8, locals := 68 } : Room))
theorem Pm.ne41 {p : Int32} (h : Pm p) : ¬ p = 41 := by rcases h with rfl | rfl | rfl | rfl | rfl | rfl | rfl | rfl <;> decide
theorem Pm.ne86 {p : Int32} (h : Pm p) : p ≠ 86 := by rcases h with rfl | rfl | rfl | rfl | rfl | rfl | rfl | rfl <;> decide
set_option maxRecDepth 65536 in
set_option maxHeartbeats 4000000 in
theorem imd_met {A : Ax} (K : Wd A) {s : Addr} {p r : Int32} (hp : Pm p) (hr : Pm r) {F G : List Ent} (m : StrL A G s [40, p, 41, r]) : Met A B_imd #[.ref s] F G (fun v F' G' => v = some (.int 1) ∧ F = F' ∧ G = G') := by
  refine MetW.of_go pn_imd K.ew (L := [.val (.ref s), .unset, .unset, .unset]) (fun m => rfl) ?_
  intro D _
  have m0 := m
  obtain ⟨b, ⟨h1, h2, h3⟩ | ⟨h1, -, -⟩⟩ := m0
  · refine Go.run (B := B_imd) td_imd 0 1 (pc' := 1) (L' := [.val (.ref s), .unset, .unset, .unset]) (S' := [.ref s]) rfl ?_
    refine Go.ldcS (B := B_imd) td_imd 1 (n := 4) (vs := (latB [40])) rfl (w_139 K) (strAtoms K) (by rw [show A.EL = consts_1 from K.el]; decide) K.wm (by decide +kernel) (by decide) (by decide) (by decide) (by decide) (by decide) ?_
    intro l k
    show Go A B_imd D _ 3 [.val (.ref s), .unset, .unset, .unset] [.ref l, .ref s] F (StrE A l k 0 :: (k, ArrP A .byte (latB [40])) :: G) 2 8
    refine Go.callV (B := B_imd) td_imd 2 (B' := B_sw1) (C := "java/lang/String") (a := s) (argsL := [.ref l]) (rest := []) (W := 0) rfl (sw1_met K (.tail _ (.tail _ h2)) (.tail _ (.tail _ h3)) (List.mem_of_getElem? (i := 0) rfl) (List.mem_of_getElem? (i := 1) rfl)) (Or.inr (.tail _ (.tail _ h2))) (fun c P => P.1) (w_140 K) (w_141 K) (w_142 K) (w_143 K) (w_143 K) (w_11 K) (w_144 K) (by decide) pd_sw1 rfl rfl rfl rfl (Nat.le_of_eq rfl) (by decide) (by decide) (by decide) (by decide) ?_
    rintro _ _ _ ⟨rfl, rfl, rfl⟩
    show Go A B_imd D _ 6 [.val (.ref s), .unset, .unset, .unset] [.int (1 : Int32)] F (StrE A l k 0 :: (k, ArrP A .byte (latB [40])) :: G) 2 8
    refine Go.gsub (G' := G) (fun q h => .tail _ (.tail _ h)) ?_
    refine Go.if0 (B := B_imd) td_imd 3 (pc' := 11) rfl (by decide) rfl (fun _ => ?_) (fun (h : ¬ ((1 : Int32) ≠ 0)) => absurd (by decide) h)
    refine Go.run (B := B_imd) td_imd 6 4 (pc' := 15) (L' := [.val (.ref s), .val (.int (1 : Int32)), .unset, .unset]) (S' := [.ref s, .int (1 : Int32)]) rfl ?_
    refine Go.callV (B := B_imd) td_imd 10 (B' := B_len) (C := "java/lang/String") (a := s) (argsL := []) (rest := [.int (1 : Int32)]) (W := 1) rfl (lenR_met K (by exact own_le rfl) m) (Or.inr h2) (fun c P => P.1) (w_89 K) (w_90 K) (w_91 K) (w_92 K) (w_92 K) (w_11 K) (w_93 K) (by decide) pd_len rfl rfl rfl rfl (Nat.le_of_eq rfl) (by decide) (by decide) (by decide) (by decide) ?_
    rintro _ _ _ ⟨rfl, rfl, rfl⟩
    show Go A B_imd D _ 18 [.val (.ref s), .val (.int (1 : Int32)), .unset, .unset] [.int (4 : Int32), .int (1 : Int32)] F G 2 8
    refine Go.icmp (B := B_imd) td_imd 11 (pc' := 43) rfl (by decide) rfl (fun (h : (1 : Int32) ≥ (4 : Int32)) => absurd h (by decide)) (fun _ => ?_)
    refine Go.run (B := B_imd) td_imd 12 2 (pc' := 23) (L' := [.val (.ref s), .val (.int (1 : Int32)), .unset, .unset]) (S' := [.int (1 : Int32), .ref s]) rfl ?_
    refine Go.callV (B := B_imd) td_imd 14 (B' := B_cha) (C := "java/lang/String") (a := s) (argsL := [.int (1 : Int32)]) (rest := []) (W := 0) rfl (chaR_met K (pre := [40]) (suf := [41, r]) (c := p) rfl rfl (by exact own_le rfl) m) (Or.inr h2) (fun c P => P.1) (w_102 K) (w_19 K) (w_20 K) (w_21 K) (w_21 K) (w_11 K) (w_22 K) (by decide) pd_cha rfl rfl rfl rfl (Nat.le_of_eq rfl) (by decide) (by decide) (by decide) (by decide) ?_
    rintro _ _ _ ⟨rfl, rfl, rfl⟩
    show Go A B_imd D _ 26 [.val (.ref s), .val (.int (1 : Int32)), .unset, .unset] [.int p] F G 2 8
    refine Go.run (B := B_imd) td_imd 15 1 (pc' := 28) (L' := [.val (.ref s), .val (.int (1 : Int32)), .unset, .unset]) (S' := [.int (41 : Int32), .int p]) rfl ?_
    refine Go.icmp (B := B_imd) td_imd 16 (pc' := 43) rfl (by decide) rfl (fun (h : p = (41 : Int32)) => absurd h (Pm.ne41 hp)) (fun _ => ?_)
    refine Go.run (B := B_imd) td_imd 17 2 (pc' := 33) (L' := [.val (.ref s), .val (.int (1 : Int32)), .unset, .unset]) (S' := [.int (1 : Int32), .ref s]) rfl ?_
    refine Go.callS (B := B_imd) td_imd 19 (B' := B_eft) (argsL := [.ref s, .int (1 : Int32)]) (rest := []) (W := 0) rfl (eft1_met K hp m) (w_155 K) (w_156 K) (w_84 K) (w_157 K) (by decide) pd_eft rfl rfl rfl rfl (Nat.le_of_eq rfl) (by decide) (by decide) (by decide) (by decide) ?_
    rintro _ _ _ ⟨rfl, rfl, rfl⟩
    show Go A B_imd D _ 36 [.val (.ref s), .val (.int (1 : Int32)), .unset, .unset] [.int (2 : Int32)] F G 2 8
    refine Go.run (B := B_imd) td_imd 20 2 (pc' := 38) (L' := [.val (.ref s), .val (.int (2 : Int32)), .unset, .unset]) (S' := [.int (2 : Int32)]) rfl ?_
    refine Go.if0 (B := B_imd) td_imd 22 (pc' := 13) rfl (by decide) rfl (fun _ => ?_) (fun (h : ¬ ((2 : Int32) ≥ 0)) => absurd (by decide) h)
    refine Go.run (B := B_imd) td_imd 8 2 (pc' := 15) (L' := [.val (.ref s), .val (.int (2 : Int32)), .unset, .unset]) (S' := [.ref s, .int (2 : Int32)]) rfl ?_
    refine Go.callV (B := B_imd) td_imd 10 (B' := B_len) (C := "java/lang/String") (a := s) (argsL := []) (rest := [.int (2 : Int32)]) (W := 1) rfl (lenR_met K (by exact own_le rfl) m) (Or.inr h2) (fun c P => P.1) (w_89 K) (w_90 K) (w_91 K) (w_92 K) (w_92 K) (w_11 K) (w_93 K) (by decide) pd_len rfl rfl rfl rfl (Nat.le_of_eq rfl) (by decide) (by decide) (by decide) (by decide) ?_
    rintro _ _ _ ⟨rfl, rfl, rfl⟩
    show Go A B_imd D _ 18 [.val (.ref s), .val (.int (2 : Int32)), .unset, .unset] [.int (4 : Int32), .int (2 : Int32)] F G 2 8
    refine Go.icmp (B := B_imd) td_imd 11 (pc' := 43) rfl (by decide) rfl (fun (h : (2 : Int32) ≥ (4 : Int32)) => absurd h (by decide)) (fun _ => ?_)
    refine Go.run (B := B_imd) td_imd 12 2 (pc' := 23) (L' := [.val (.ref s), .val (.int (2 : Int32)), .unset, .unset]) (S' := [.int (2 : Int32), .ref s]) rfl ?_
    refine Go.callV (B := B_imd) td_imd 14 (B' := B_cha) (C := "java/lang/String") (a := s) (argsL := [.int (2 : Int32)]) (rest := []) (W := 0) rfl (chaR_met K (pre := [40, p]) (suf := [r]) (c := 41) rfl rfl (by exact own_le rfl) m) (Or.inr h2) (fun c P => P.1) (w_102 K) (w_19 K) (w_20 K) (w_21 K) (w_21 K) (w_11 K) (w_22 K) (by decide) pd_cha rfl rfl rfl rfl (Nat.le_of_eq rfl) (by decide) (by decide) (by decide) (by decide) ?_
    rintro _ _ _ ⟨rfl, rfl, rfl⟩
    show Go A B_imd D _ 26 [.val (.ref s), .val (.int (2 : Int32)), .unset, .unset] [.int (41 : Int32)] F G 2 8
    refine Go.run (B := B_imd) td_imd 15 1 (pc' := 28) (L' := [.val (.ref s), .val (.int (2 : Int32)), .unset, .unset]) (S' := [.int (41 : Int32), .int (41 : Int32)]) rfl ?_
    refine Go.icmp (B := B_imd) td_imd 16 (pc' := 43) rfl (by decide) rfl (fun _ => ?_) (fun (h : ¬ ((41 : Int32) = (41 : Int32))) => absurd (by decide) h)
    refine Go.run (B := B_imd) td_imd 25 2 (pc' := 45) (L' := [.val (.ref s), .val (.int (2 : Int32)), .unset, .unset]) (S' := [.ref s, .int (2 : Int32)]) rfl ?_
    refine Go.callV (B := B_imd) td_imd 27 (B' := B_len) (C := "java/lang/String") (a := s) (argsL := []) (rest := [.int (2 : Int32)]) (W := 1) rfl (lenR_met K (by exact own_le rfl) m) (Or.inr h2) (fun c P => P.1) (w_89 K) (w_90 K) (w_91 K) (w_92 K) (w_92 K) (w_11 K) (w_93 K) (by decide) pd_len rfl rfl rfl rfl (Nat.le_of_eq rfl) (by decide) (by decide) (by decide) (by decide) ?_
    rintro _ _ _ ⟨rfl, rfl, rfl⟩
    show Go A B_imd D _ 48 [.val (.ref s), .val (.int (2 : Int32)), .unset, .unset] [.int (4 : Int32), .int (2 : Int32)] F G 2 8
    refine Go.icmp (B := B_imd) td_imd 28 (pc' := 53) rfl (by decide) rfl (fun _ => ?_) (fun (h : ¬ ((2 : Int32) ≠ (4 : Int32))) => absurd (by decide) h)
    refine Go.run (B := B_imd) td_imd 31 5 (pc' := 58) (L' := [.val (.ref s), .val (.int (2 : Int32)), .val (.int ((2 : Int32) + (1 : Int32))), .unset]) (S' := [.ref s]) rfl ?_
    refine Go.callV (B := B_imd) td_imd 36 (B' := B_len) (C := "java/lang/String") (a := s) (argsL := []) (rest := []) (W := 0) rfl (lenR_met K (by exact own_le rfl) m) (Or.inr h2) (fun c P => P.1) (w_89 K) (w_90 K) (w_91 K) (w_92 K) (w_92 K) (w_11 K) (w_93 K) (by decide) pd_len rfl rfl rfl rfl (Nat.le_of_eq rfl) (by decide) (by decide) (by decide) (by decide) ?_
    rintro _ _ _ ⟨rfl, rfl, rfl⟩
    show Go A B_imd D _ 61 [.val (.ref s), .val (.int (2 : Int32)), .val (.int ((2 : Int32) + (1 : Int32))), .unset] [.int (4 : Int32)] F G 2 8
    refine Go.run (B := B_imd) td_imd 37 3 (pc' := 64) (L' := [.val (.ref s), .val (.int (2 : Int32)), .val (.int ((2 : Int32) + (1 : Int32))), .unset]) (S' := [.int (((2 : Int32) + (1 : Int32)) + (1 : Int32)), .int (4 : Int32)]) rfl ?_
    refine Go.icmp (B := B_imd) td_imd 40 (pc' := 81) rfl (by decide) rfl (fun (h : (4 : Int32) ≠ (((2 : Int32) + (1 : Int32)) + (1 : Int32))) => absurd h (fun z => z (by decide))) (fun _ => ?_)
    refine Go.run (B := B_imd) td_imd 41 2 (pc' := 69) (L' := [.val (.ref s), .val (.int (2 : Int32)), .val (.int ((2 : Int32) + (1 : Int32))), .unset]) (S' := [.int ((2 : Int32) + (1 : Int32)), .ref s]) rfl ?_
    rw [show (2 : Int32) + (1 : Int32) = 3 by decide]
    show Go A B_imd D _ 69 [.val (.ref s), .val (.int (2 : Int32)), .val (.int (3 : Int32)), .unset] [.int (3 : Int32), .ref s] F G 2 8
    refine Go.callV (B := B_imd) td_imd 43 (B' := B_cha) (C := "java/lang/String") (a := s) (argsL := [.int (3 : Int32)]) (rest := []) (W := 0) rfl (chaR_met K (pre := [40, p, 41]) (suf := []) (c := r) rfl rfl (by exact own_le rfl) m) (Or.inr h2) (fun c P => P.1) (w_102 K) (w_19 K) (w_20 K) (w_21 K) (w_21 K) (w_11 K) (w_22 K) (by decide) pd_cha rfl rfl rfl rfl (Nat.le_of_eq rfl) (by decide) (by decide) (by decide) (by decide) ?_
    rintro _ _ _ ⟨rfl, rfl, rfl⟩
    show Go A B_imd D _ 72 [.val (.ref s), .val (.int (2 : Int32)), .val (.int (3 : Int32)), .unset] [.int r] F G 2 8
    refine Go.run (B := B_imd) td_imd 44 1 (pc' := 74) (L' := [.val (.ref s), .val (.int (2 : Int32)), .val (.int (3 : Int32)), .unset]) (S' := [.int (86 : Int32), .int r]) rfl ?_
    refine Go.icmp (B := B_imd) td_imd 45 (pc' := 81) rfl (by decide) rfl (fun _ => ?_) (fun (h : ¬ (r ≠ (86 : Int32))) => absurd (Pm.ne86 hr) h)
    refine Go.run (B := B_imd) td_imd 48 3 (pc' := 84) (L' := [.val (.ref s), .val (.int (2 : Int32)), .val (.int (3 : Int32)), .val (.int (0 : Int32))]) (S' := [.int (0 : Int32)]) rfl ?_
    refine Go.if0 (B := B_imd) td_imd 51 (pc' := 99) rfl (by decide) rfl (fun (h : (0 : Int32) ≠ 0) => absurd h (fun z => z rfl)) (fun _ => ?_)
    refine Go.run (B := B_imd) td_imd 52 2 (pc' := 89) (L' := [.val (.ref s), .val (.int (2 : Int32)), .val (.int (3 : Int32)), .val (.int (0 : Int32))]) (S' := [.int (3 : Int32), .ref s]) rfl ?_
    refine Go.callS (B := B_imd) td_imd 54 (B' := B_eft) (argsL := [.ref s, .int (3 : Int32)]) (rest := []) (W := 0) rfl (eft3_met K hr m) (w_155 K) (w_156 K) (w_84 K) (w_157 K) (by decide) pd_eft rfl rfl rfl rfl (Nat.le_of_eq rfl) (by decide) (by decide) (by decide) (by decide) ?_
    rintro _ _ _ ⟨rfl, rfl, rfl⟩
    show Go A B_imd D _ 92 [.val (.ref s), .val (.int (2 : Int32)), .val (.int (3 : Int32)), .val (.int (0 : Int32))] [.int (4 : Int32)] F G 2 8
    refine Go.run (B := B_imd) td_imd 55 1 (pc' := 93) (L' := [.val (.ref s), .val (.int (2 : Int32)), .val (.int (3 : Int32)), .val (.int (0 : Int32))]) (S' := [.ref s, .int (4 : Int32)]) rfl ?_
    refine Go.callV (B := B_imd) td_imd 56 (B' := B_len) (C := "java/lang/String") (a := s) (argsL := []) (rest := [.int (4 : Int32)]) (W := 1) rfl (lenR_met K (by exact own_le rfl) m) (Or.inr h2) (fun c P => P.1) (w_89 K) (w_90 K) (w_91 K) (w_92 K) (w_92 K) (w_11 K) (w_93 K) (by decide) pd_len rfl rfl rfl rfl (Nat.le_of_eq rfl) (by decide) (by decide) (by decide) (by decide) ?_
    rintro _ _ _ ⟨rfl, rfl, rfl⟩
    show Go A B_imd D _ 96 [.val (.ref s), .val (.int (2 : Int32)), .val (.int (3 : Int32)), .val (.int (0 : Int32))] [.int (4 : Int32), .int (4 : Int32)] F G 2 8
    refine Go.icmp (B := B_imd) td_imd 57 (pc' := 103) rfl (by decide) rfl (fun (h : (4 : Int32) ≠ (4 : Int32)) => absurd h (fun z => z rfl)) (fun _ => ?_)
    refine Go.run (B := B_imd) td_imd 58 2 (pc' := 104) (L' := [.val (.ref s), .val (.int (2 : Int32)), .val (.int (3 : Int32)), .val (.int (0 : Int32))]) (S' := [.int (1 : Int32)]) rfl ?_
    exact Go.retZ (B := B_imd) td_imd 61 rfl rfl rfl ⟨rfl, rfl, rfl⟩ (by decide) (by decide)
  · exact h1.1.elim
def tb_rqx : List In1 := [(0, .aload_n 0, 1), (1, .invokestatic 39, 3), (4, .ldc 42, 2), (6, .aload_n 0, 1), (7, .invokestatic 15, 3), (10, .areturn, 1)]
set_option maxRecDepth 65536 in
theorem td_rqx : Dec prog_19_method_7_code tb_rqx := by unfold Dec; decide +kernel
theorem pd_rqx : parseMethodDescriptor "(Ljava/lang/String;)Ljava/lang/String;" = some ⟨[(.object "java/lang/String")], (some (.object "java/lang/String"))⟩ := by decide +kernel
theorem pn_rqx : plainFor (⟨"com/example/callweave/callweave/model/JvmNames", "requireMethodDescriptor", "(Ljava/lang/String;)Ljava/lang/String;"⟩ : MethodName) = true := by decide +kernel
abbrev B_rqx : Bx := ((⟨"com/example/callweave/callweave/model/JvmNames", "requireMethodDescriptor", "(Ljava/lang/String;)Ljava/lang/String;"⟩ : MethodName), prog_19_method_7_code, 1, (Option.some (Jvm.ClassFile.FieldType.object "java/lang/String")), ({ frames := 6, cells := 4, slots := 88, locals := 83 } : Room))
set_option maxRecDepth 65536 in
set_option maxHeartbeats 4000000 in
theorem rqx_met {A : Ax} (K : Wd A) {s : Addr} {p r : Int32} (hp : Pm p) (hr : Pm r) {F G : List Ent} (m : StrL A G s [40, p, 41, r]) : Met A B_rqx #[.ref s] F G (fun v F' G' => v = some (.ref s) ∧ F = F' ∧ G = G') := by
  refine MetW.of_go pn_rqx K.ew (L := [.val (.ref s)]) (fun m => rfl) ?_
  intro D _
  refine Go.run (B := B_rqx) td_rqx 0 1 (pc' := 1) (L' := [.val (.ref s)]) (S' := [.ref s]) rfl ?_
  refine Go.callS (B := B_rqx) td_rqx 1 (B' := B_imd) (argsL := [.ref s]) (rest := []) (W := 0) rfl (imd_met K hp hr m) (w_136 K) (w_137 K) (w_84 K) (w_138 K) (by decide) pd_imd rfl rfl rfl rfl (Nat.le_of_eq rfl) (by decide) (by decide) (by decide) (by decide) ?_
  rintro _ _ _ ⟨rfl, rfl, rfl⟩
  show Go A B_rqx D _ 4 [.val (.ref s)] [.int (1 : Int32)] F G 2 8
  refine Go.ldcO (B := B_rqx) td_rqx 2 (n := 76) rfl (w_158 K) (strAtoms K) K.wm (by decide) (by decide) (by decide) (by decide) ?_
  intro a
  show Go A B_rqx D _ 6 [.val (.ref s)] [.ref a, .int (1 : Int32)] F G 4 88
  refine Go.run (B := B_rqx) td_rqx 3 1 (pc' := 7) (L' := [.val (.ref s)]) (S' := [.ref s, .ref a, .int (1 : Int32)]) rfl ?_
  refine Go.callS (B := B_rqx) td_rqx 4 (B' := B_rqr) (argsL := [.int (1 : Int32), .ref a, .ref s]) (rest := []) (W := 0) rfl (rqr_met K) (w_104 K) (w_105 K) (w_84 K) (w_106 K) (by decide) pd_rqr rfl rfl rfl rfl (Nat.le_of_eq rfl) (by decide) (by decide) (by decide) (by decide) ?_
  rintro _ _ _ ⟨rfl, rfl, rfl⟩
  show Go A B_rqx D _ 10 [.val (.ref s)] [.ref s] F G 4 88
  exact Go.retA (B := B_rqx) td_rqx 5 rfl rfl rfl rfl ⟨rfl, rfl, rfl⟩ (by decide) (by decide)
def tb_rnn : List In1 := [(0, .aload_n 0, 1), (1, .ifnonnull 12, 3), (4, .new 84, 3), (7, .dup, 1), (8, .aload_n 1, 1), (9, .invokespecial 87, 3), (12, .athrow, 1), (13, .aload_n 0, 1), (14, .areturn, 1)]
set_option maxRecDepth 65536 in
theorem td_rnn : Dec jdk_31_method_11_code tb_rnn := by unfold Dec; decide +kernel
theorem pd_rnn : parseMethodDescriptor "(Ljava/lang/Object;Ljava/lang/String;)Ljava/lang/Object;" = some ⟨[(.object "java/lang/Object"), (.object "java/lang/String")], (some (.object "java/lang/Object"))⟩ := by decide +kernel
theorem pn_rnn : plainFor (⟨"java/util/Objects", "requireNonNull", "(Ljava/lang/Object;Ljava/lang/String;)Ljava/lang/Object;"⟩ : MethodName) = true := by decide +kernel
abbrev B_rnn : Bx := ((⟨"java/util/Objects", "requireNonNull", "(Ljava/lang/Object;Ljava/lang/String;)Ljava/lang/Object;"⟩ : MethodName), jdk_31_method_11_code, 2, (Option.some (Jvm.ClassFile.FieldType.object "java/lang/Object")), ({ frames := 0, cells := 0, slots := 0, locals := 0 } : Room))
set_option maxRecDepth 65536 in
set_option maxHeartbeats 4000000 in
theorem rnn_met {A : Ax} (K : Wd A) {x a : Addr} {F G : List Ent} : Met A B_rnn #[.ref x, .ref a] F G (fun v F' G' => v = some (.ref x) ∧ F = F' ∧ G = G') := by
  refine MetW.of_go pn_rnn K.ew (L := [.val (.ref x), .val (.ref a)]) (fun m => rfl) ?_
  intro D _
  refine Go.run (B := B_rnn) td_rnn 0 1 (pc' := 1) (L' := [.val (.ref x), .val (.ref a)]) (S' := [.ref x]) rfl ?_
  refine Go.nonnullYes (B := B_rnn) td_rnn 1 (pc' := 13) rfl (by decide) rfl ?_
  refine Go.run (B := B_rnn) td_rnn 7 1 (pc' := 14) (L' := [.val (.ref x), .val (.ref a)]) (S' := [.ref x]) rfl ?_
  exact Go.retA (B := B_rnn) td_rnn 8 rfl rfl rfl rfl ⟨rfl, rfl, rfl⟩ (by decide) (by decide)
--CUT
def tb_mr4 : List In1 := [(0, .aload_n 0, 1), (1, .invokespecial 7, 3), (4, .iload 4, 2), (6, .ifCond .eq 39, 3), (9, .aload_n 1, 1), (10, .ldc 12, 2), (12, .invokestatic 14, 3), (15, .pop, 1), (16, .aload_n 2, 1), (17, .ldc 20, 2), (19, .invokestatic 14, 3), (22, .pop, 1), (23, .aload_n 3, 1), (24, .ldc 22, 2), (26, .invokestatic 14, 3), (29, .pop, 1), (30, .aload_n 1, 1), (31, .invokestatic 24, 3), (34, .pop, 1), (35, .aload_n 2, 1), (36, .invokestatic 30, 3), (39, .pop, 1), (40, .aload_n 3, 1), (41, .invokestatic 33, 3), (44, .pop, 1), (45, .aload_n 0, 1), (46, .aload_n 1, 1), (47, .putfield 36, 3), (50, .aload_n 0, 1), (51, .aload_n 2, 1), (52, .putfield 39, 3), (55, .aload_n 0, 1), (56, .aload_n 3, 1), (57, .putfield 41, 3), (60, .return_, 1)]
set_option maxRecDepth 65536 in
theorem td_mr4 : Dec prog_21_method_2_code tb_mr4 := by unfold Dec; decide +kernel
theorem pd_mr4 : parseMethodDescriptor "(Ljava/lang/String;Ljava/lang/String;Ljava/lang/String;Z)V" = some ⟨[(.object "java/lang/String"), (.object "java/lang/String"), (.object "java/lang/String"), .boolean], none⟩ := by decide +kernel
theorem pn_mr4 : plainFor (⟨"com/example/callweave/callweave/model/MethodRef", "<init>", "(Ljava/lang/String;Ljava/lang/String;Ljava/lang/String;Z)V"⟩ : MethodName) = true := by decide +kernel
abbrev B_mr4 : Bx := ((⟨"com/example/callweave/callweave/model/MethodRef", "<init>", "(Ljava/lang/String;Ljava/lang/String;Ljava/lang/String;Z)V"⟩ : MethodName), prog_21_method_2_code, 5, (Option.none : Option Jvm.ClassFile.FieldType), ({ frames := 7, cells := 18, slots := 416, locals := 95 } : Room))
set_option maxRecDepth 65536 in
set_option maxHeartbeats 4000000 in
theorem mr4_met {A : Ax} (K : Wd A) {r a1 a2 a3 : Addr} {x y p q : Int32} (hx : Sf x) (hy : Sn y) (hp : Pm p) (hq : Pm q) {F G : List Ent} (m1 : StrL A G a1 [x]) (m2 : StrL A G a2 [y]) (m3 : StrL A G a3 [40, p, 41, q]) : Met A B_mr4 #[.ref r, .ref a1, .ref a2, .ref a3, .int (1 : Int32)] ((r, ObjP A "com/example/callweave/callweave/model/MethodRef" [("com/example/callweave/callweave/model/MethodRef", "owner", "Ljava/lang/String;", .null), ("com/example/callweave/callweave/model/MethodRef", "name", "Ljava/lang/String;", .null), ("com/example/callweave/callweave/model/MethodRef", "descriptor", "Ljava/lang/String;", .null)]) :: F) G (fun v F' G' => v = none ∧ ((r, ObjP A "com/example/callweave/callweave/model/MethodRef" [("com/example/callweave/callweave/model/MethodRef", "owner", "Ljava/lang/String;", .ref a1), ("com/example/callweave/callweave/model/MethodRef", "name", "Ljava/lang/String;", .ref a2), ("com/example/callweave/callweave/model/MethodRef", "descriptor", "Ljava/lang/String;", .ref a3)]) :: F) = F' ∧ G = G') := by
  refine MetW.of_go pn_mr4 K.ew (L := [.val (.ref r), .val (.ref a1), .val (.ref a2), .val (.ref a3), .val (.int (1 : Int32))]) (fun m => rfl) ?_
  intro D _
  refine Go.run (B := B_mr4) td_mr4 0 1 (pc' := 1) (L' := [.val (.ref r), .val (.ref a1), .val (.ref a2), .val (.ref a3), .val (.int (1 : Int32))]) (S' := [.ref r]) rfl ?_
  refine Go.initObject (B := B_mr4) td_mr4 1 (W := 0) rfl (w_74 K) (w_56 K) (w_57 K) rfl (by decide) (Nat.le_of_eq rfl) (by decide) ?_
  refine Go.run (B := B_mr4) td_mr4 2 1 (pc' := 6) (L' := [.val (.ref r), .val (.ref a1), .val (.ref a2), .val (.ref a3), .val (.int (1 : Int32))]) (S' := [.int (1 : Int32)]) rfl ?_
  refine Go.if0 (B := B_mr4) td_mr4 3 (pc' := 45) rfl (by decide) rfl (fun (h : (1 : Int32) = 0) => absurd h (by decide)) (fun _ => ?_)
  refine Go.run (B := B_mr4) td_mr4 4 1 (pc' := 10) (L' := [.val (.ref r), .val (.ref a1), .val (.ref a2), .val (.ref a3), .val (.int (1 : Int32))]) (S' := [.ref a1]) rfl ?_
  refine Go.ldcO (B := B_mr4) td_mr4 5 (n := 20) rfl (w_75 K) (strAtoms K) K.wm (by decide) (by decide) (by decide) (by decide) ?_
  intro l1
  show Go A B_mr4 D _ 12 [.val (.ref r), .val (.ref a1), .val (.ref a2), .val (.ref a3), .val (.int (1 : Int32))] [.ref l1, .ref a1] ((r, ObjP A "com/example/callweave/callweave/model/MethodRef" [("com/example/callweave/callweave/model/MethodRef", "owner", "Ljava/lang/String;", .null), ("com/example/callweave/callweave/model/MethodRef", "name", "Ljava/lang/String;", .null), ("com/example/callweave/callweave/model/MethodRef", "descriptor", "Ljava/lang/String;", .null)]) :: F) G 2 24
  refine Go.callS (B := B_mr4) td_mr4 6 (B' := B_rnn) (argsL := [.ref a1, .ref l1]) (rest := []) (W := 0) rfl (rnn_met K) (w_76 K) (w_77 K) (w_78 K) (w_79 K) (by decide) pd_rnn rfl rfl rfl rfl (Nat.le_of_eq rfl) (by decide) (by decide) (by decide) (by decide) ?_
  rintro _ _ _ ⟨rfl, rfl, rfl⟩
  show Go A B_mr4 D _ 15 [.val (.ref r), .val (.ref a1), .val (.ref a2), .val (.ref a3), .val (.int (1 : Int32))] [.ref a1] ((r, ObjP A "com/example/callweave/callweave/model/MethodRef" [("com/example/callweave/callweave/model/MethodRef", "owner", "Ljava/lang/String;", .null), ("com/example/callweave/callweave/model/MethodRef", "name", "Ljava/lang/String;", .null), ("com/example/callweave/callweave/model/MethodRef", "descriptor", "Ljava/lang/String;", .null)]) :: F) G 2 24
  refine Go.run (B := B_mr4) td_mr4 7 2 (pc' := 17) (L' := [.val (.ref r), .val (.ref a1), .val (.ref a2), .val (.ref a3), .val (.int (1 : Int32))]) (S' := [.ref a2]) rfl ?_
  refine Go.ldcO (B := B_mr4) td_mr4 9 (n := 16) rfl (w_80 K) (strAtoms K) K.wm (by decide) (by decide) (by decide) (by decide) ?_
  intro l2
  show Go A B_mr4 D _ 19 [.val (.ref r), .val (.ref a1), .val (.ref a2), .val (.ref a3), .val (.int (1 : Int32))] [.ref l2, .ref a2] ((r, ObjP A "com/example/callweave/callweave/model/MethodRef" [("com/example/callweave/callweave/model/MethodRef", "owner", "Ljava/lang/String;", .null), ("com/example/callweave/callweave/model/MethodRef", "name", "Ljava/lang/String;", .null), ("com/example/callweave/callweave/model/MethodRef", "descriptor", "Ljava/lang/String;", .null)]) :: F) G 4 44
  refine Go.callS (B := B_mr4) td_mr4 10 (B' := B_rnn) (argsL := [.ref a2, .ref l2]) (rest := []) (W := 0) rfl (rnn_met K) (w_76 K) (w_77 K) (w_78 K) (w_79 K) (by decide) pd_rnn rfl rfl rfl rfl (Nat.le_of_eq rfl) (by decide) (by decide) (by decide) (by decide) ?_
  rintro _ _ _ ⟨rfl, rfl, rfl⟩
  show Go A B_mr4 D _ 22 [.val (.ref r), .val (.ref a1), .val (.ref a2), .val (.ref a3), .val (.int (1 : Int32))] [.ref a2] ((r, ObjP A "com/example/callweave/callweave/model/MethodRef" [("com/example/callweave/callweave/model/MethodRef", "owner", "Ljava/lang/String;", .null), ("com/example/callweave/callweave/model/MethodRef", "name", "Ljava/lang/String;", .null), ("com/example/callweave/callweave/model/MethodRef", "descriptor", "Ljava/lang/String;", .null)]) :: F) G 4 44
  refine Go.run (B := B_mr4) td_mr4 11 2 (pc' := 24) (L' := [.val (.ref r), .val (.ref a1), .val (.ref a2), .val (.ref a3), .val (.int (1 : Int32))]) (S' := [.ref a3]) rfl ?_
  refine Go.ldcO (B := B_mr4) td_mr4 13 (n := 40) rfl (w_81 K) (strAtoms K) K.wm (by decide) (by decide) (by decide) (by decide) ?_
  intro l3
  show Go A B_mr4 D _ 26 [.val (.ref r), .val (.ref a1), .val (.ref a2), .val (.ref a3), .val (.int (1 : Int32))] [.ref l3, .ref a3] ((r, ObjP A "com/example/callweave/callweave/model/MethodRef" [("com/example/callweave/callweave/model/MethodRef", "owner", "Ljava/lang/String;", .null), ("com/example/callweave/callweave/model/MethodRef", "name", "Ljava/lang/String;", .null), ("com/example/callweave/callweave/model/MethodRef", "descriptor", "Ljava/lang/String;", .null)]) :: F) G 6 88
  refine Go.callS (B := B_mr4) td_mr4 14 (B' := B_rnn) (argsL := [.ref a3, .ref l3]) (rest := []) (W := 0) rfl (rnn_met K) (w_76 K) (w_77 K) (w_78 K) (w_79 K) (by decide) pd_rnn rfl rfl rfl rfl (Nat.le_of_eq rfl) (by decide) (by decide) (by decide) (by decide) ?_
  rintro _ _ _ ⟨rfl, rfl, rfl⟩
  show Go A B_mr4 D _ 29 [.val (.ref r), .val (.ref a1), .val (.ref a2), .val (.ref a3), .val (.int (1 : Int32))] [.ref a3] ((r, ObjP A "com/example/callweave/callweave/model/MethodRef" [("com/example/callweave/callweave/model/MethodRef", "owner", "Ljava/lang/String;", .null), ("com/example/callweave/callweave/model/MethodRef", "name", "Ljava/lang/String;", .null), ("com/example/callweave/callweave/model/MethodRef", "descriptor", "Ljava/lang/String;", .null)]) :: F) G 6 88
  refine Go.run (B := B_mr4) td_mr4 15 2 (pc' := 31) (L' := [.val (.ref r), .val (.ref a1), .val (.ref a2), .val (.ref a3), .val (.int (1 : Int32))]) (S' := [.ref a1]) rfl ?_
  refine Go.callS (B := B_mr4) td_mr4 17 (B' := B_rqc) (argsL := [.ref a1]) (rest := []) (W := 0) rfl (rqc_met K hx m1) (w_82 K) (w_83 K) (w_84 K) (w_85 K) (by decide) pd_rqc rfl rfl rfl rfl (Nat.le_of_eq rfl) (by decide) (by decide) (by decide) (by decide) ?_
  rintro _ _ _ ⟨rfl, rfl, rfl⟩
  show Go A B_mr4 D _ 34 [.val (.ref r), .val (.ref a1), .val (.ref a2), .val (.ref a3), .val (.int (1 : Int32))] [.ref a1] ((r, ObjP A "com/example/callweave/callweave/model/MethodRef" [("com/example/callweave/callweave/model/MethodRef", "owner", "Ljava/lang/String;", .null), ("com/example/callweave/callweave/model/MethodRef", "name", "Ljava/lang/String;", .null), ("com/example/callweave/callweave/model/MethodRef", "descriptor", "Ljava/lang/String;", .null)]) :: F) G 8 208
  refine Go.run (B := B_mr4) td_mr4 18 2 (pc' := 36) (L' := [.val (.ref r), .val (.ref a1), .val (.ref a2), .val (.ref a3), .val (.int (1 : Int32))]) (S' := [.ref a2]) rfl ?_
  refine Go.callS (B := B_mr4) td_mr4 20 (B' := B_rqm) (argsL := [.ref a2]) (rest := []) (W := 0) rfl (rqm_met K hy m2) (w_107 K) (w_108 K) (w_84 K) (w_109 K) (by decide) pd_rqm rfl rfl rfl rfl (Nat.le_of_eq rfl) (by decide) (by decide) (by decide) (by decide) ?_
  rintro _ _ _ ⟨rfl, rfl, rfl⟩
  show Go A B_mr4 D _ 39 [.val (.ref r), .val (.ref a1), .val (.ref a2), .val (.ref a3), .val (.int (1 : Int32))] [.ref a2] ((r, ObjP A "com/example/callweave/callweave/model/MethodRef" [("com/example/callweave/callweave/model/MethodRef", "owner", "Ljava/lang/String;", .null), ("com/example/callweave/callweave/model/MethodRef", "name", "Ljava/lang/String;", .null), ("com/example/callweave/callweave/model/MethodRef", "descriptor", "Ljava/lang/String;", .null)]) :: F) G 14 328
  refine Go.run (B := B_mr4) td_mr4 21 2 (pc' := 41) (L' := [.val (.ref r), .val (.ref a1), .val (.ref a2), .val (.ref a3), .val (.int (1 : Int32))]) (S' := [.ref a3]) rfl ?_
  refine Go.callS (B := B_mr4) td_mr4 23 (B' := B_rqx) (argsL := [.ref a3]) (rest := []) (W := 0) rfl (rqx_met K hp hq m3) (w_133 K) (w_134 K) (w_84 K) (w_135 K) (by decide) pd_rqx rfl rfl rfl rfl (Nat.le_of_eq rfl) (by decide) (by decide) (by decide) (by decide) ?_
  rintro _ _ _ ⟨rfl, rfl, rfl⟩
  show Go A B_mr4 D _ 44 [.val (.ref r), .val (.ref a1), .val (.ref a2), .val (.ref a3), .val (.int (1 : Int32))] [.ref a3] ((r, ObjP A "com/example/callweave/callweave/model/MethodRef" [("com/example/callweave/callweave/model/MethodRef", "owner", "Ljava/lang/String;", .null), ("com/example/callweave/callweave/model/MethodRef", "name", "Ljava/lang/String;", .null), ("com/example/callweave/callweave/model/MethodRef", "descriptor", "Ljava/lang/String;", .null)]) :: F) G 18 416
  refine Go.run (B := B_mr4) td_mr4 24 3 (pc' := 47) (L' := [.val (.ref r), .val (.ref a1), .val (.ref a2), .val (.ref a3), .val (.int (1 : Int32))]) (S' := [.ref a1, .ref r]) rfl ?_
  refine Go.putfield (B := B_mr4) td_mr4 27 (fs' := [("com/example/callweave/callweave/model/MethodRef", "owner", "Ljava/lang/String;", .ref a1), ("com/example/callweave/callweave/model/MethodRef", "name", "Ljava/lang/String;", .null), ("com/example/callweave/callweave/model/MethodRef", "descriptor", "Ljava/lang/String;", .null)]) rfl (w_159 K) (Or.inr ⟨(w_160 K), rfl, rfl⟩) (w_44 K) rfl rfl rfl (List.mem_of_getElem? (i := 0) rfl) (own_fs 0 (ns := ["name", "descriptor"]) rfl (by decide) rfl) ?_
  refine Go.run (B := B_mr4) td_mr4 28 2 (pc' := 52) (L' := [.val (.ref r), .val (.ref a1), .val (.ref a2), .val (.ref a3), .val (.int (1 : Int32))]) (S' := [.ref a2, .ref r]) rfl ?_
  refine Go.putfield (B := B_mr4) td_mr4 30 (fs' := [("com/example/callweave/callweave/model/MethodRef", "owner", "Ljava/lang/String;", .ref a1), ("com/example/callweave/callweave/model/MethodRef", "name", "Ljava/lang/String;", .ref a2), ("com/example/callweave/callweave/model/MethodRef", "descriptor", "Ljava/lang/String;", .null)]) rfl (w_161 K) (Or.inr ⟨(w_162 K), rfl, rfl⟩) (w_44 K) rfl rfl rfl (List.mem_of_getElem? (i := 1) rfl) (own_fs 1 (ns := ["owner", "descriptor"]) rfl (by decide) rfl) ?_
  refine Go.run (B := B_mr4) td_mr4 31 2 (pc' := 57) (L' := [.val (.ref r), .val (.ref a1), .val (.ref a2), .val (.ref a3), .val (.int (1 : Int32))]) (S' := [.ref a3, .ref r]) rfl ?_
  refine Go.putfield (B := B_mr4) td_mr4 33 (fs' := [("com/example/callweave/callweave/model/MethodRef", "owner", "Ljava/lang/String;", .ref a1), ("com/example/callweave/callweave/model/MethodRef", "name", "Ljava/lang/String;", .ref a2), ("com/example/callweave/callweave/model/MethodRef", "descriptor", "Ljava/lang/String;", .ref a3)]) rfl (w_163 K) (Or.inr ⟨(w_164 K), rfl, rfl⟩) (w_44 K) rfl rfl rfl (List.mem_of_getElem? (i := 2) rfl) (own_fs 2 (ns := ["owner", "name"]) rfl (by decide) rfl) ?_
  exact Go.retV (B := B_mr4) td_mr4 34 rfl rfl ⟨rfl, rfl, rfl⟩ (by decide) (by decide)
def tb_mr3 : List In1 := [(0, .aload_n 0, 1), (1, .aload_n 1, 1), (2, .aload_n 2, 1), (3, .aload_n 3, 1), (4, .iconst 1, 1), (5, .invokespecial 1, 3), (8, .return_, 1)]
set_option maxRecDepth 65536 in
theorem td_mr3 : Dec prog_21_method_1_code tb_mr3 := by unfold Dec; decide +kernel
theorem pd_mr3 : parseMethodDescriptor "(Ljava/lang/String;Ljava/lang/String;Ljava/lang/String;)V" = some ⟨[(.object "java/lang/String"), (.object "java/lang/String"), (.object "java/lang/String")], none⟩ := by decide +kernel
theorem pn_mr3 : plainFor (⟨"com/example/callweave/callweave/model/MethodRef", "<init>", "(Ljava/lang/String;Ljava/lang/String;Ljava/lang/String;)V"⟩ : MethodName) = true := by decide +kernel
abbrev B_mr3 : Bx := ((⟨"com/example/callweave/callweave/model/MethodRef", "<init>", "(Ljava/lang/String;Ljava/lang/String;Ljava/lang/String;)V"⟩ : MethodName), prog_21_method_1_code, 4, (Option.none : Option Jvm.ClassFile.FieldType), ({ frames := 8, cells := 18, slots := 416, locals := 111 } : Room))
set_option maxRecDepth 65536 in
set_option maxHeartbeats 4000000 in
theorem mr3_met {A : Ax} (K : Wd A) {r a1 a2 a3 : Addr} {x y p q : Int32} (hx : Sf x) (hy : Sn y) (hp : Pm p) (hq : Pm q) {F G : List Ent} (m1 : StrL A G a1 [x]) (m2 : StrL A G a2 [y]) (m3 : StrL A G a3 [40, p, 41, q]) : Met A B_mr3 #[.ref r, .ref a1, .ref a2, .ref a3] ((r, ObjP A "com/example/callweave/callweave/model/MethodRef" [("com/example/callweave/callweave/model/MethodRef", "owner", "Ljava/lang/String;", .null), ("com/example/callweave/callweave/model/MethodRef", "name", "Ljava/lang/String;", .null), ("com/example/callweave/callweave/model/MethodRef", "descriptor", "Ljava/lang/String;", .null)]) :: F) G (fun v F' G' => v = none ∧ ((r, ObjP A "com/example/callweave/callweave/model/MethodRef" [("com/example/callweave/callweave/model/MethodRef", "owner", "Ljava/lang/String;", .ref a1), ("com/example/callweave/callweave/model/MethodRef", "name", "Ljava/lang/String;", .ref a2), ("com/example/callweave/callweave/model/MethodRef", "descriptor", "Ljava/lang/String;", .ref a3)]) :: F) = F' ∧ G = G') := by
  refine MetW.of_go pn_mr3 K.ew (L := [.val (.ref r), .val (.ref a1), .val (.ref a2), .val (.ref a3)]) (fun m => rfl) ?_
  intro D _
  refine Go.run (B := B_mr3) td_mr3 0 5 (pc' := 5) (L' := [.val (.ref r), .val (.ref a1), .val (.ref a2), .val (.ref a3)]) (S' := [.int (1 : Int32), .ref a3, .ref a2, .ref a1, .ref r]) rfl ?_
  refine Go.callN (B := B_mr3) td_mr3 5 (B' := B_mr4) (a := r) (argsL := [.ref a1, .ref a2, .ref a3, .int (1 : Int32)]) (rest := []) (W := 0) rfl (mr4_met K hx hy hp hq m1 m2 m3) rfl rfl (w_71 K) (w_72 K) (w_45 K) (w_73 K) (by decide) pd_mr4 rfl rfl rfl rfl (Nat.le_of_eq rfl) (by decide) (by decide) (by decide) (by decide) ?_
  rintro _ _ _ ⟨rfl, rfl, rfl⟩
  show Go A B_mr3 D _ 8 [.val (.ref r), .val (.ref a1), .val (.ref a2), .val (.ref a3)] [] ((r, ObjP A "com/example/callweave/callweave/model/MethodRef" [("com/example/callweave/callweave/model/MethodRef", "owner", "Ljava/lang/String;", .ref a1), ("com/example/callweave/callweave/model/MethodRef", "name", "Ljava/lang/String;", .ref a2), ("com/example/callweave/callweave/model/MethodRef", "descriptor", "Ljava/lang/String;", .ref a3)]) :: F) G 18 416
  exact Go.retV (B := B_mr3) td_mr3 6 rfl rfl ⟨rfl, rfl, rfl⟩ (by decide) (by decide)
def tb_fr4 : List In1 := [(0, .aload_n 0, 1), (1, .invokespecial 7, 3), (4, .iload 4, 2), (6, .ifCond .eq 39, 3), (9, .aload_n 1, 1), (10, .ldc 12, 2), (12, .invokestatic 14, 3), (15, .pop, 1), (16, .aload_n 2, 1), (17, .ldc 20, 2), (19, .invokestatic 14, 3), (22, .pop, 1), (23, .aload_n 3, 1), (24, .ldc 22, 2), (26, .invokestatic 14, 3), (29, .pop, 1), (30, .aload_n 1, 1), (31, .invokestatic 24, 3), (34, .pop, 1), (35, .aload_n 2, 1), (36, .invokestatic 30, 3), (39, .pop, 1), (40, .aload_n 3, 1), (41, .invokestatic 33, 3), (44, .pop, 1), (45, .aload_n 0, 1), (46, .aload_n 1, 1), (47, .putfield 36, 3), (50, .aload_n 0, 1), (51, .aload_n 2, 1), (52, .putfield 39, 3), (55, .aload_n 0, 1), (56, .aload_n 3, 1), (57, .putfield 41, 3), (60, .return_, 1)]
set_option maxRecDepth 65536 in
theorem td_fr4 : Dec prog_13_method_2_code tb_fr4 := by unfold Dec; decide +kernel
theorem pd_fr4 : parseMethodDescriptor "(Ljava/lang/String;Ljava/lang/String;Ljava/lang/String;Z)V" = some ⟨[(.object "java/lang/String"), (.object "java/lang/String"), (.object "java/lang/String"), .boolean], none⟩ := by decide +kernel
theorem pn_fr4 : plainFor (⟨"com/example/callweave/callweave/model/FieldRef", "<init>", "(Ljava/lang/String;Ljava/lang/String;Ljava/lang/String;Z)V"⟩ : MethodName) = true := by decide +kernel
abbrev B_fr4 : Bx := ((⟨"com/example/callweave/callweave/model/FieldRef", "<init>", "(Ljava/lang/String;Ljava/lang/String;Ljava/lang/String;Z)V"⟩ : MethodName), prog_13_method_2_code, 5, (Option.none : Option Jvm.ClassFile.FieldType), ({ frames := 7, cells := 12, slots := 336, locals := 94 } : Room))
set_option maxRecDepth 65536 in
set_option maxHeartbeats 4000000 in
theorem fr4_met {A : Ax} (K : Wd A) {r a1 a2 a3 : Addr} {x y p : Int32} (hx : Sf x) (hy : Sf y) (hp : Pm p) {F G : List Ent} (m1 : StrL A G a1 [x]) (m2 : StrL A G a2 [y]) (m3 : StrL A G a3 [p]) : Met A B_fr4 #[.ref r, .ref a1, .ref a2, .ref a3, .int (1 : Int32)] ((r, ObjP A "com/example/callweave/callweave/model/FieldRef" [("com/example/callweave/callweave/model/FieldRef", "owner", "Ljava/lang/String;", .null), ("com/example/callweave/callweave/model/FieldRef", "name", "Ljava/lang/String;", .null), ("com/example/callweave/callweave/model/FieldRef", "descriptor", "Ljava/lang/String;", .null)]) :: F) G (fun v F' G' => v = none ∧ ((r, ObjP A "com/example/callweave/callweave/model/FieldRef" [("com/example/callweave/callweave/model/FieldRef", "owner", "Ljava/lang/String;", .ref a1), ("com/example/callweave/callweave/model/FieldRef", "name", "Ljava/lang/String;", .ref a2), ("com/example/callweave/callweave/model/FieldRef", "descriptor", "Ljava/lang/String;", .ref a3)]) :: F) = F' ∧ G = G') := by
  refine MetW.of_go pn_fr4 K.ew (L := [.val (.ref r), .val (.ref a1), .val (.ref a2), .val (.ref a3), .val (.int (1 : Int32))]) (fun m => rfl) ?_
  intro D _
  refine Go.run (B := B_fr4) td_fr4 0 1 (pc' := 1) (L' := [.val (.ref r), .val (.ref a1), .val (.ref a2), .val (.ref a3), .val (.int (1 : Int32))]) (S' := [.ref r]) rfl ?_
  refine Go.initObject (B := B_fr4) td_fr4 1 (W := 0) rfl (w_186 K) (w_56 K) (w_57 K) rfl (by decide) (Nat.le_of_eq rfl) (by decide) ?_
  refine Go.run (B := B_fr4) td_fr4 2 1 (pc' := 6) (L' := [.val (.ref r), .val (.ref a1), .val (.ref a2), .val (.ref a3), .val (.int (1 : Int32))]) (S' := [.int (1 : Int32)]) rfl ?_
  refine Go.if0 (B := B_fr4) td_fr4 3 (pc' := 45) rfl (by decide) rfl (fun (h : (1 : Int32) = 0) => absurd h (by decide)) (fun _ => ?_)
  refine Go.run (B := B_fr4) td_fr4 4 1 (pc' := 10) (L' := [.val (.ref r), .val (.ref a1), .val (.ref a2), .val (.ref a3), .val (.int (1 : Int32))]) (S' := [.ref a1]) rfl ?_
  refine Go.ldcO (B := B_fr4) td_fr4 5 (n := 20) rfl (w_187 K) (strAtoms K) K.wm (by decide) (by decide) (by decide) (by decide) ?_
  intro l1
  show Go A B_fr4 D _ 12 [.val (.ref r), .val (.ref a1), .val (.ref a2), .val (.ref a3), .val (.int (1 : Int32))] [.ref l1, .ref a1] ((r, ObjP A "com/example/callweave/callweave/model/FieldRef" [("com/example/callweave/callweave/model/FieldRef", "owner", "Ljava/lang/String;", .null), ("com/example/callweave/callweave/model/FieldRef", "name", "Ljava/lang/String;", .null), ("com/example/callweave/callweave/model/FieldRef", "descriptor", "Ljava/lang/String;", .null)]) :: F) G 2 24
  refine Go.callS (B := B_fr4) td_fr4 6 (B' := B_rnn) (argsL := [.ref a1, .ref l1]) (rest := []) (W := 0) rfl (rnn_met K) (w_188 K) (w_77 K) (w_78 K) (w_79 K) (by decide) pd_rnn rfl rfl rfl rfl (Nat.le_of_eq rfl) (by decide) (by decide) (by decide) (by decide) ?_
  rintro _ _ _ ⟨rfl, rfl, rfl⟩
  show Go A B_fr4 D _ 15 [.val (.ref r), .val (.ref a1), .val (.ref a2), .val (.ref a3), .val (.int (1 : Int32))] [.ref a1] ((r, ObjP A "com/example/callweave/callweave/model/FieldRef" [("com/example/callweave/callweave/model/FieldRef", "owner", "Ljava/lang/String;", .null), ("com/example/callweave/callweave/model/FieldRef", "name", "Ljava/lang/String;", .null), ("com/example/callweave/callweave/model/FieldRef", "descriptor", "Ljava/lang/String;", .null)]) :: F) G 2 24
  refine Go.run (B := B_fr4) td_fr4 7 2 (pc' := 17) (L' := [.val (.ref r), .val (.ref a1), .val (.ref a2), .val (.ref a3), .val (.int (1 : Int32))]) (S' := [.ref a2]) rfl ?_
  refine Go.ldcO (B := B_fr4) td_fr4 9 (n := 16) rfl (w_189 K) (strAtoms K) K.wm (by decide) (by decide) (by decide) (by decide) ?_
  intro l2
  show Go A B_fr4 D _ 19 [.val (.ref r), .val (.ref a1), .val (.ref a2), .val (.ref a3), .val (.int (1 : Int32))] [.ref l2, .ref a2] ((r, ObjP A "com/example/callweave/callweave/model/FieldRef" [("com/example/callweave/callweave/model/FieldRef", "owner", "Ljava/lang/String;", .null), ("com/example/callweave/callweave/model/FieldRef", "name", "Ljava/lang/String;", .null), ("com/example/callweave/callweave/model/FieldRef", "descriptor", "Ljava/lang/String;", .null)]) :: F) G 4 44
  refine Go.callS (B := B_fr4) td_fr4 10 (B' := B_rnn) (argsL := [.ref a2, .ref l2]) (rest := []) (W := 0) rfl (rnn_met K) (w_188 K) (w_77 K) (w_78 K) (w_79 K) (by decide) pd_rnn rfl rfl rfl rfl (Nat.le_of_eq rfl) (by decide) (by decide) (by decide) (by decide) ?_
  rintro _ _ _ ⟨rfl, rfl, rfl⟩
  show Go A B_fr4 D _ 22 [.val (.ref r), .val (.ref a1), .val (.ref a2), .val (.ref a3), .val (.int (1 : Int32))] [.ref a2] ((r, ObjP A "com/example/callweave/callweave/model/FieldRef" [("com/example/callweave/callweave/model/FieldRef", "owner", "Ljava/lang/String;", .null), ("com/example/callweave/callweave/model/FieldRef", "name", "Ljava/lang/String;", .null), ("com/example/callweave/callweave/model/FieldRef", "descriptor", "Ljava/lang/String;", .null)]) :: F) G 4 44
  refine Go.run (B := B_fr4) td_fr4 11 2 (pc' := 24) (L' := [.val (.ref r), .val (.ref a1), .val (.ref a2), .val (.ref a3), .val (.int (1 : Int32))]) (S' := [.ref a3]) rfl ?_
  refine Go.ldcO (B := B_fr4) td_fr4 13 (n := 40) rfl (w_190 K) (strAtoms K) K.wm (by decide) (by decide) (by decide) (by decide) ?_
  intro l3
  show Go A B_fr4 D _ 26 [.val (.ref r), .val (.ref a1), .val (.ref a2), .val (.ref a3), .val (.int (1 : Int32))] [.ref l3, .ref a3] ((r, ObjP A "com/example/callweave/callweave/model/FieldRef" [("com/example/callweave/callweave/model/FieldRef", "owner", "Ljava/lang/String;", .null), ("com/example/callweave/callweave/model/FieldRef", "name", "Ljava/lang/String;", .null), ("com/example/callweave/callweave/model/FieldRef", "descriptor", "Ljava/lang/String;", .null)]) :: F) G 6 88
  refine Go.callS (B := B_fr4) td_fr4 14 (B' := B_rnn) (argsL := [.ref a3, .ref l3]) (rest := []) (W := 0) rfl (rnn_met K) (w_188 K) (w_77 K) (w_78 K) (w_79 K) (by decide) pd_rnn rfl rfl rfl rfl (Nat.le_of_eq rfl) (by decide) (by decide) (by decide) (by decide) ?_
  rintro _ _ _ ⟨rfl, rfl, rfl⟩
  show Go A B_fr4 D _ 29 [.val (.ref r), .val (.ref a1), .val (.ref a2), .val (.ref a3), .val (.int (1 : Int32))] [.ref a3] ((r, ObjP A "com/example/callweave/callweave/model/FieldRef" [("com/example/callweave/callweave/model/FieldRef", "owner", "Ljava/lang/String;", .null), ("com/example/callweave/callweave/model/FieldRef", "name", "Ljava/lang/String;", .null), ("com/example/callweave/callweave/model/FieldRef", "descriptor", "Ljava/lang/String;", .null)]) :: F) G 6 88
  refine Go.run (B := B_fr4) td_fr4 15 2 (pc' := 31) (L' := [.val (.ref r), .val (.ref a1), .val (.ref a2), .val (.ref a3), .val (.int (1 : Int32))]) (S' := [.ref a1]) rfl ?_
  refine Go.callS (B := B_fr4) td_fr4 17 (B' := B_rqc) (argsL := [.ref a1]) (rest := []) (W := 0) rfl (rqc_met K hx m1) (w_191 K) (w_83 K) (w_84 K) (w_85 K) (by decide) pd_rqc rfl rfl rfl rfl (Nat.le_of_eq rfl) (by decide) (by decide) (by decide) (by decide) ?_
  rintro _ _ _ ⟨rfl, rfl, rfl⟩
  show Go A B_fr4 D _ 34 [.val (.ref r), .val (.ref a1), .val (.ref a2), .val (.ref a3), .val (.int (1 : Int32))] [.ref a1] ((r, ObjP A "com/example/callweave/callweave/model/FieldRef" [("com/example/callweave/callweave/model/FieldRef", "owner", "Ljava/lang/String;", .null), ("com/example/callweave/callweave/model/FieldRef", "name", "Ljava/lang/String;", .null), ("com/example/callweave/callweave/model/FieldRef", "descriptor", "Ljava/lang/String;", .null)]) :: F) G 8 208
  refine Go.run (B := B_fr4) td_fr4 18 2 (pc' := 36) (L' := [.val (.ref r), .val (.ref a1), .val (.ref a2), .val (.ref a3), .val (.int (1 : Int32))]) (S' := [.ref a2]) rfl ?_
  refine Go.callS (B := B_fr4) td_fr4 20 (B' := B_rqf) (argsL := [.ref a2]) (rest := []) (W := 0) rfl (rqf_met K hy m2) (w_192 K) (w_193 K) (w_84 K) (w_194 K) (by decide) pd_rqf rfl rfl rfl rfl (Nat.le_of_eq rfl) (by decide) (by decide) (by decide) (by decide) ?_
  rintro _ _ _ ⟨rfl, rfl, rfl⟩
  show Go A B_fr4 D _ 39 [.val (.ref r), .val (.ref a1), .val (.ref a2), .val (.ref a3), .val (.int (1 : Int32))] [.ref a2] ((r, ObjP A "com/example/callweave/callweave/model/FieldRef" [("com/example/callweave/callweave/model/FieldRef", "owner", "Ljava/lang/String;", .null), ("com/example/callweave/callweave/model/FieldRef", "name", "Ljava/lang/String;", .null), ("com/example/callweave/callweave/model/FieldRef", "descriptor", "Ljava/lang/String;", .null)]) :: F) G 10 260
  refine Go.run (B := B_fr4) td_fr4 21 2 (pc' := 41) (L' := [.val (.ref r), .val (.ref a1), .val (.ref a2), .val (.ref a3), .val (.int (1 : Int32))]) (S' := [.ref a3]) rfl ?_
  refine Go.callS (B := B_fr4) td_fr4 23 (B' := B_rqd) (argsL := [.ref a3]) (rest := []) (W := 0) rfl (rqd_met K hp m3) (w_199 K) (w_200 K) (w_84 K) (w_201 K) (by decide) pd_rqd rfl rfl rfl rfl (Nat.le_of_eq rfl) (by decide) (by decide) (by decide) (by decide) ?_
  rintro _ _ _ ⟨rfl, rfl, rfl⟩
  show Go A B_fr4 D _ 44 [.val (.ref r), .val (.ref a1), .val (.ref a2), .val (.ref a3), .val (.int (1 : Int32))] [.ref a3] ((r, ObjP A "com/example/callweave/callweave/model/FieldRef" [("com/example/callweave/callweave/model/FieldRef", "owner", "Ljava/lang/String;", .null), ("com/example/callweave/callweave/model/FieldRef", "name", "Ljava/lang/String;", .null), ("com/example/callweave/callweave/model/FieldRef", "descriptor", "Ljava/lang/String;", .null)]) :: F) G 12 336
  refine Go.run (B := B_fr4) td_fr4 24 3 (pc' := 47) (L' := [.val (.ref r), .val (.ref a1), .val (.ref a2), .val (.ref a3), .val (.int (1 : Int32))]) (S' := [.ref a1, .ref r]) rfl ?_
  refine Go.putfield (B := B_fr4) td_fr4 27 (fs' := [("com/example/callweave/callweave/model/FieldRef", "owner", "Ljava/lang/String;", .ref a1), ("com/example/callweave/callweave/model/FieldRef", "name", "Ljava/lang/String;", .null), ("com/example/callweave/callweave/model/FieldRef", "descriptor", "Ljava/lang/String;", .null)]) rfl (w_206 K) (Or.inr ⟨(w_207 K), rfl, rfl⟩) (w_166 K) rfl rfl rfl (List.mem_of_getElem? (i := 0) rfl) (own_fs 0 (ns := ["name", "descriptor"]) rfl (by decide) rfl) ?_
  refine Go.run (B := B_fr4) td_fr4 28 2 (pc' := 52) (L' := [.val (.ref r), .val (.ref a1), .val (.ref a2), .val (.ref a3), .val (.int (1 : Int32))]) (S' := [.ref a2, .ref r]) rfl ?_
  refine Go.putfield (B := B_fr4) td_fr4 30 (fs' := [("com/example/callweave/callweave/model/FieldRef", "owner", "Ljava/lang/String;", .ref a1), ("com/example/callweave/callweave/model/FieldRef", "name", "Ljava/lang/String;", .ref a2), ("com/example/callweave/callweave/model/FieldRef", "descriptor", "Ljava/lang/String;", .null)]) rfl (w_208 K) (Or.inr ⟨(w_209 K), rfl, rfl⟩) (w_166 K) rfl rfl rfl (List.mem_of_getElem? (i := 1) rfl) (own_fs 1 (ns := ["owner", "descriptor"]) rfl (by decide) rfl) ?_
  refine Go.run (B := B_fr4) td_fr4 31 2 (pc' := 57) (L' := [.val (.ref r), .val (.ref a1), .val (.ref a2), .val (.ref a3), .val (.int (1 : Int32))]) (S' := [.ref a3, .ref r]) rfl ?_
  refine Go.putfield (B := B_fr4) td_fr4 33 (fs' := [("com/example/callweave/callweave/model/FieldRef", "owner", "Ljava/lang/String;", .ref a1), ("com/example/callweave/callweave/model/FieldRef", "name", "Ljava/lang/String;", .ref a2), ("com/example/callweave/callweave/model/FieldRef", "descriptor", "Ljava/lang/String;", .ref a3)]) rfl (w_210 K) (Or.inr ⟨(w_211 K), rfl, rfl⟩) (w_166 K) rfl rfl rfl (List.mem_of_getElem? (i := 2) rfl) (own_fs 2 (ns := ["owner", "name"]) rfl (by decide) rfl) ?_
  exact Go.retV (B := B_fr4) td_fr4 34 rfl rfl ⟨rfl, rfl, rfl⟩ (by decide) (by decide)
def tb_fr3 : List In1 := [(0, .aload_n 0, 1), (1, .aload_n 1, 1), (2, .aload_n 2, 1), (3, .aload_n 3, 1), (4, .iconst 1, 1), (5, .invokespecial 1, 3), (8, .return_, 1)]
set_option maxRecDepth 65536 in
theorem td_fr3 : Dec prog_13_method_1_code tb_fr3 := by unfold Dec; decide +kernel
theorem pd_fr3 : parseMethodDescriptor "(Ljava/lang/String;Ljava/lang/String;Ljava/lang/String;)V" = some ⟨[(.object "java/lang/String"), (.object "java/lang/String"), (.object "java/lang/String")], none⟩ := by decide +kernel
theorem pn_fr3 : plainFor (⟨"com/example/callweave/callweave/model/FieldRef", "<init>", "(Ljava/lang/String;Ljava/lang/String;Ljava/lang/String;)V"⟩ : MethodName) = true := by decide +kernel
abbrev B_fr3 : Bx := ((⟨"com/example/callweave/callweave/model/FieldRef", "<init>", "(Ljava/lang/String;Ljava/lang/String;Ljava/lang/String;)V"⟩ : MethodName), prog_13_method_1_code, 4, (Option.none : Option Jvm.ClassFile.FieldType), ({ frames := 8, cells := 12, slots := 336, locals := 110 } : Room))
set_option maxRecDepth 65536 in
set_option maxHeartbeats 4000000 in
theorem fr3_met {A : Ax} (K : Wd A) {r a1 a2 a3 : Addr} {x y p : Int32} (hx : Sf x) (hy : Sf y) (hp : Pm p) {F G : List Ent} (m1 : StrL A G a1 [x]) (m2 : StrL A G a2 [y]) (m3 : StrL A G a3 [p]) : Met A B_fr3 #[.ref r, .ref a1, .ref a2, .ref a3] ((r, ObjP A "com/example/callweave/callweave/model/FieldRef" [("com/example/callweave/callweave/model/FieldRef", "owner", "Ljava/lang/String;", .null), ("com/example/callweave/callweave/model/FieldRef", "name", "Ljava/lang/String;", .null), ("com/example/callweave/callweave/model/FieldRef", "descriptor", "Ljava/lang/String;", .null)]) :: F) G (fun v F' G' => v = none ∧ ((r, ObjP A "com/example/callweave/callweave/model/FieldRef" [("com/example/callweave/callweave/model/FieldRef", "owner", "Ljava/lang/String;", .ref a1), ("com/example/callweave/callweave/model/FieldRef", "name", "Ljava/lang/String;", .ref a2), ("com/example/callweave/callweave/model/FieldRef", "descriptor", "Ljava/lang/String;", .ref a3)]) :: F) = F' ∧ G = G') := by
  refine MetW.of_go pn_fr3 K.ew (L := [.val (.ref r), .val (.ref a1), .val (.ref a2), .val (.ref a3)]) (fun m => rfl) ?_
  intro D _
  refine Go.run (B := B_fr3) td_fr3 0 5 (pc' := 5) (L' := [.val (.ref r), .val (.ref a1), .val (.ref a2), .val (.ref a3)]) (S' := [.int (1 : Int32), .ref a3, .ref a2, .ref a1, .ref r]) rfl ?_
  refine Go.callN (B := B_fr3) td_fr3 5 (B' := B_fr4) (a := r) (argsL := [.ref a1, .ref a2, .ref a3, .int (1 : Int32)]) (rest := []) (W := 0) rfl (fr4_met K hx hy hp m1 m2 m3) rfl rfl (w_183 K) (w_184 K) (w_167 K) (w_185 K) (by decide) pd_fr4 rfl rfl rfl rfl (Nat.le_of_eq rfl) (by decide) (by decide) (by decide) (by decide) ?_
  rintro _ _ _ ⟨rfl, rfl, rfl⟩
  show Go A B_fr3 D _ 8 [.val (.ref r), .val (.ref a1), .val (.ref a2), .val (.ref a3)] [] ((r, ObjP A "com/example/callweave/callweave/model/FieldRef" [("com/example/callweave/callweave/model/FieldRef", "owner", "Ljava/lang/String;", .ref a1), ("com/example/callweave/callweave/model/FieldRef", "name", "Ljava/lang/String;", .ref a2), ("com/example/callweave/callweave/model/FieldRef", "descriptor", "Ljava/lang/String;", .ref a3)]) :: F) G 12 336
  exact Go.retV (B := B_fr3) td_fr3 6 rfl rfl ⟨rfl, rfl, rfl⟩ (by decide) (by decide)
def tb_feq : List In1 := [(0, .aload_n 1, 1), (1, .instanceof 2, 3), (4, .ifCond .eq 54, 3), (7, .aload_n 1, 1), (8, .checkcast 2, 3), (11, .astore_n 2, 1), (12, .aload_n 0, 1), (13, .getfield 36, 3), (16, .aload_n 2, 1), (17, .getfield 36, 3), (20, .invokevirtual 82, 3), (23, .ifCond .eq 35, 3), (26, .aload_n 0, 1), (27, .getfield 39, 3), (30, .aload_n 2, 1), (31, .getfield 39, 3), (34, .invokevirtual 82, 3), (37, .ifCond .eq 21, 3), (40, .aload_n 0, 1), (41, .getfield 41, 3), (44, .aload_n 2, 1), (45, .getfield 41, 3), (48, .invokevirtual 82, 3), (51, .ifCond .eq 7, 3), (54, .iconst 1, 1), (55, .goto 4, 3), (58, .iconst 0, 1), (59, .ireturn, 1)]
set_option maxRecDepth 65536 in
theorem td_feq : Dec prog_21_method_8_code tb_feq := by unfold Dec; decide +kernel
theorem pd_feq : parseMethodDescriptor "(Ljava/lang/Object;)Z" = some ⟨[(.object "java/lang/Object")], (some .boolean)⟩ := by decide +kernel
theorem pn_feq : plainFor (⟨"com/example/callweave/callweave/model/MethodRef", "equals", "(Ljava/lang/Object;)Z"⟩ : MethodName) = true := by decide +kernel
abbrev B_feq : Bx := ((⟨"com/example/callweave/callweave/model/MethodRef", "equals", "(Ljava/lang/Object;)Z"⟩ : MethodName), prog_21_method_8_code, 3, (Option.some Jvm.ClassFile.FieldType.boolean), ({ frames := 2, cells := 0, slots := 0, locals := 28 } : Room))
set_option maxRecDepth 65536 in
set_option maxHeartbeats 4000000 in
theorem feq_met {A : Ax} (K : Wd A) {r s a1 a2 a3 b1 b2 b3 : Addr} {u1 v1 u2 v2 u3 v3 : List Int32} (l1 : 2 * u1.length < 2 ^ 31) (l1b : 2 * v1.length < 2 ^ 31) (l2 : 2 * u2.length < 2 ^ 31) (l2b : 2 * v2.length < 2 ^ 31) (l3 : 2 * u3.length < 2 ^ 31) (l3b : 2 * v3.length < 2 ^ 31) {F G : List Ent} (mr : (r, ObjP A "com/example/callweave/callweave/model/MethodRef" [("com/example/callweave/callweave/model/MethodRef", "owner", "Ljava/lang/String;", .ref a1), ("com/example/callweave/callweave/model/MethodRef", "name", "Ljava/lang/String;", .ref a2), ("com/example/callweave/callweave/model/MethodRef", "descriptor", "Ljava/lang/String;", .ref a3)]) ∈ G) (ms : (s, ObjP A "com/example/callweave/callweave/model/MethodRef" [("com/example/callweave/callweave/model/MethodRef", "owner", "Ljava/lang/String;", .ref b1), ("com/example/callweave/callweave/model/MethodRef", "name", "Ljava/lang/String;", .ref b2), ("com/example/callweave/callweave/model/MethodRef", "descriptor", "Ljava/lang/String;", .ref b3)]) ∈ G) (n1 : StrL A G a1 u1) (o1 : StrL A G b1 v1) (n2 : StrL A G a2 u2) (o2 : StrL A G b2 v2) (n3 : StrL A G a3 u3) (o3 : StrL A G b3 v3) : Met A B_feq #[.ref r, .ref s] F G (fun v F' G' => ∃ g, v = some (.int g) ∧ Is g (u1 = v1 ∧ u2 = v2 ∧ u3 = v3) ∧ F = F' ∧ G = G') := by
  refine MetW.of_go pn_feq K.ew (L := [.val (.ref r), .val (.ref s), .unset]) (fun m => rfl) ?_
  intro D _
  obtain ⟨e1, f1, p1⟩ := n1.obj
  obtain ⟨e2, f2, p2⟩ := n2.obj
  obtain ⟨e3, f3, p3⟩ := n3.obj
  refine Go.run (B := B_feq) td_feq 0 1 (pc' := 1) (L' := [.val (.ref r), .val (.ref s), .unset]) (S' := [.ref s]) rfl ?_
  refine Go.instY (B := B_feq) td_feq 1 rfl (w_217 K) (Or.inr ms) (fun c P => P.1) ?_
  refine Go.if0 (B := B_feq) td_feq 2 (pc' := 58) rfl (by decide) rfl (fun (h : (1 : Int32) = 0) => absurd h (by decide)) (fun _ => ?_)
  refine Go.run (B := B_feq) td_feq 3 1 (pc' := 8) (L' := [.val (.ref r), .val (.ref s), .unset]) (S' := [.ref s]) rfl ?_
  refine Go.castY (B := B_feq) td_feq 4 rfl (w_217 K) (Or.inr ms) (fun c P => P.1) ?_
  refine Go.run (B := B_feq) td_feq 5 2 (pc' := 13) (L' := [.val (.ref r), .val (.ref s), .val (.ref s)]) (S' := [.ref r]) rfl ?_
  refine Go.getfield (B := B_feq) td_feq 7 rfl (w_159 K) (Or.inr mr) (List.mem_of_getElem? (i := 0) rfl) ?_
  refine Go.run (B := B_feq) td_feq 8 1 (pc' := 17) (L' := [.val (.ref r), .val (.ref s), .val (.ref s)]) (S' := [.ref s, .ref a1]) rfl ?_
  refine Go.getfield (B := B_feq) td_feq 9 rfl (w_159 K) (Or.inr ms) (List.mem_of_getElem? (i := 0) rfl) ?_
  refine Go.callV (B := B_feq) td_feq 10 (B' := B_seq) (C := "java/lang/String") (a := a1) (argsL := [.ref b1]) (rest := []) (W := 0) rfl (eqL_met K l1 l1b rfl n1 o1) (Or.inr p1) (fun c P => P.1) (w_219 K) (w_115 K) (w_116 K) (w_117 K) (w_117 K) (w_11 K) (w_118 K) (by decide) pd_seq rfl rfl rfl rfl (Nat.le_of_eq rfl) (by decide) (by decide) (by decide) (by decide) ?_
  rintro _ _ _ ⟨rfl, rfl, rfl⟩
  show Go A B_feq D _ 23 [.val (.ref r), .val (.ref s), .val (.ref s)] [.int (if u1 = v1 then (1 : Int32) else 0)] F G 0 0
  refine Go.if0 (B := B_feq) td_feq 11 (pc' := 58) rfl (by decide) rfl ?_ ?_
  · intro (h1 : (if u1 = v1 then (1 : Int32) else 0) = 0)
    refine Go.run (B := B_feq) td_feq 26 1 (pc' := 59) (L' := [.val (.ref r), .val (.ref s), .val (.ref s)]) (S' := [.int (0 : Int32)]) rfl ?_
    exact Go.retZ (B := B_feq) td_feq 27 rfl rfl rfl ⟨0, rfl, Is.f (fun z => by rw [if_pos z.1] at h1; exact absurd h1 (by decide)), rfl, rfl⟩ (by decide) (by decide)
  · intro (h1 : ¬ ((if u1 = v1 then (1 : Int32) else 0) = 0))
    have q1 : u1 = v1 := Decidable.byContradiction fun z => h1 (if_neg z)
    refine Go.run (B := B_feq) td_feq 12 1 (pc' := 27) (L' := [.val (.ref r), .val (.ref s), .val (.ref s)]) (S' := [.ref r]) rfl ?_
    refine Go.getfield (B := B_feq) td_feq 13 rfl (w_161 K) (Or.inr mr) (List.mem_of_getElem? (i := 1) rfl) ?_
    refine Go.run (B := B_feq) td_feq 14 1 (pc' := 31) (L' := [.val (.ref r), .val (.ref s), .val (.ref s)]) (S' := [.ref s, .ref a2]) rfl ?_
    refine Go.getfield (B := B_feq) td_feq 15 rfl (w_161 K) (Or.inr ms) (List.mem_of_getElem? (i := 1) rfl) ?_
    refine Go.callV (B := B_feq) td_feq 16 (B' := B_seq) (C := "java/lang/String") (a := a2) (argsL := [.ref b2]) (rest := []) (W := 0) rfl (eqL_met K l2 l2b rfl n2 o2) (Or.inr p2) (fun c P => P.1) (w_219 K) (w_115 K) (w_116 K) (w_117 K) (w_117 K) (w_11 K) (w_118 K) (by decide) pd_seq rfl rfl rfl rfl (Nat.le_of_eq rfl) (by decide) (by decide) (by decide) (by decide) ?_
    rintro _ _ _ ⟨rfl, rfl, rfl⟩
    show Go A B_feq D _ 37 [.val (.ref r), .val (.ref s), .val (.ref s)] [.int (if u2 = v2 then (1 : Int32) else 0)] F G 0 0
    refine Go.if0 (B := B_feq) td_feq 17 (pc' := 58) rfl (by decide) rfl ?_ ?_
    · intro (h2 : (if u2 = v2 then (1 : Int32) else 0) = 0)
      refine Go.run (B := B_feq) td_feq 26 1 (pc' := 59) (L' := [.val (.ref r), .val (.ref s), .val (.ref s)]) (S' := [.int (0 : Int32)]) rfl ?_
      exact Go.retZ (B := B_feq) td_feq 27 rfl rfl rfl ⟨0, rfl, Is.f (fun z => by rw [if_pos z.2.1] at h2; exact absurd h2 (by decide)), rfl, rfl⟩ (by decide) (by decide)
    · intro (h2 : ¬ ((if u2 = v2 then (1 : Int32) else 0) = 0))
      have q2 : u2 = v2 := Decidable.byContradiction fun z => h2 (if_neg z)
      refine Go.run (B := B_feq) td_feq 18 1 (pc' := 41) (L' := [.val (.ref r), .val (.ref s), .val (.ref s)]) (S' := [.ref r]) rfl ?_
      refine Go.getfield (B := B_feq) td_feq 19 rfl (w_163 K) (Or.inr mr) (List.mem_of_getElem? (i := 2) rfl) ?_
      refine Go.run (B := B_feq) td_feq 20 1 (pc' := 45) (L' := [.val (.ref r), .val (.ref s), .val (.ref s)]) (S' := [.ref s, .ref a3]) rfl ?_
      refine Go.getfield (B := B_feq) td_feq 21 rfl (w_163 K) (Or.inr ms) (List.mem_of_getElem? (i := 2) rfl) ?_
      refine Go.callV (B := B_feq) td_feq 22 (B' := B_seq) (C := "java/lang/String") (a := a3) (argsL := [.ref b3]) (rest := []) (W := 0) rfl (eqL_met K l3 l3b rfl n3 o3) (Or.inr p3) (fun c P => P.1) (w_219 K) (w_115 K) (w_116 K) (w_117 K) (w_117 K) (w_11 K) (w_118 K) (by decide) pd_seq rfl rfl rfl rfl (Nat.le_of_eq rfl) (by decide) (by decide) (by decide) (by decide) ?_
      rintro _ _ _ ⟨rfl, rfl, rfl⟩
      show Go A B_feq D _ 51 [.val (.ref r), .val (.ref s), .val (.ref s)] [.int (if u3 = v3 then (1 : Int32) else 0)] F G 0 0
      refine Go.if0 (B := B_feq) td_feq 23 (pc' := 58) rfl (by decide) rfl ?_ ?_
      · intro (h3 : (if u3 = v3 then (1 : Int32) else 0) = 0)
        refine Go.run (B := B_feq) td_feq 26 1 (pc' := 59) (L' := [.val (.ref r), .val (.ref s), .val (.ref s)]) (S' := [.int (0 : Int32)]) rfl ?_
        exact Go.retZ (B := B_feq) td_feq 27 rfl rfl rfl ⟨0, rfl, Is.f (fun z => by rw [if_pos z.2.2] at h3; exact absurd h3 (by decide)), rfl, rfl⟩ (by decide) (by decide)
      · intro (h3 : ¬ ((if u3 = v3 then (1 : Int32) else 0) = 0))
        have q3 : u3 = v3 := Decidable.byContradiction fun z => h3 (if_neg z)
        refine Go.run (B := B_feq) td_feq 24 2 (pc' := 59) (L' := [.val (.ref r), .val (.ref s), .val (.ref s)]) (S' := [.int (1 : Int32)]) rfl ?_
        exact Go.retZ (B := B_feq) td_feq 27 rfl rfl rfl ⟨1, rfl, Is.t ⟨q1, q2, q3⟩, rfl, rfl⟩ (by decide) (by decide)
set_option maxRecDepth 65536 in
set_option maxHeartbeats 4000000 in
theorem feqN_met {A : Ax} (K : Wd A) {r : Addr} {F G : List Ent} : Met A B_feq #[.ref r, .null] F G (fun v F' G' => v = some (.int 0) ∧ F = F' ∧ G = G') := by
  refine MetW.of_go pn_feq K.ew (L := [.val (.ref r), .val (.null), .unset]) (fun m => rfl) ?_
  intro D _
  refine Go.run (B := B_feq) td_feq 0 1 (pc' := 1) (L' := [.val (.ref r), .val (.null), .unset]) (S' := [.null]) rfl ?_
  refine Go.instNull (B := B_feq) td_feq 1 rfl ?_
  refine Go.if0 (B := B_feq) td_feq 2 (pc' := 58) rfl (by decide) rfl (fun _ => ?_) (fun (h : ¬ ((0 : Int32) = 0)) => absurd (by decide) h)
  refine Go.run (B := B_feq) td_feq 26 1 (pc' := 59) (L' := [.val (.ref r), .val (.null), .unset]) (S' := [.int (0 : Int32)]) rfl ?_
  exact Go.retZ (B := B_feq) td_feq 27 rfl rfl rfl ⟨rfl, rfl, rfl⟩ (by decide) (by decide)
set_option maxRecDepth 65536 in
set_option maxHeartbeats 4000000 in
theorem feqF_met {A : Ax} (K : Wd A) {r s c1 c2 c3 : Addr} {F G : List Ent} (m : (s, ObjP A "com/example/callweave/callweave/model/FieldRef" [("com/example/callweave/callweave/model/FieldRef", "owner", "Ljava/lang/String;", .ref c1), ("com/example/callweave/callweave/model/FieldRef", "name", "Ljava/lang/String;", .ref c2), ("com/example/callweave/callweave/model/FieldRef", "descriptor", "Ljava/lang/String;", .ref c3)]) ∈ G) : Met A B_feq #[.ref r, .ref s] F G (fun v F' G' => v = some (.int 0) ∧ F = F' ∧ G = G') := by
  refine MetW.of_go pn_feq K.ew (L := [.val (.ref r), .val (.ref s), .unset]) (fun m => rfl) ?_
  intro D _
  refine Go.run (B := B_feq) td_feq 0 1 (pc' := 1) (L' := [.val (.ref r), .val (.ref s), .unset]) (S' := [.ref s]) rfl ?_
  refine Go.instNo (B := B_feq) td_feq 1 rfl (w_217 K) (Or.inr m) (fun c P => P.1) (own_no (w_220 K) (w_221 K) (w_44 K) (by decide) (by decide)) ?_
  refine Go.if0 (B := B_feq) td_feq 2 (pc' := 58) rfl (by decide) rfl (fun _ => ?_) (fun (h : ¬ ((0 : Int32) = 0)) => absurd (by decide) h)
  refine Go.run (B := B_feq) td_feq 26 1 (pc' := 59) (L' := [.val (.ref r), .val (.ref s), .unset]) (S' := [.int (0 : Int32)]) rfl ?_
  exact Go.retZ (B := B_feq) td_feq 27 rfl rfl rfl ⟨rfl, rfl, rfl⟩ (by decide) (by decide)
--CUT
def tb_law : List In1 := [(0, .iload_n 0, 1), (1, .invokestatic 15, 3), (4, .istore_n 3, 1), (5, .iload_n 0, 1), (6, .bipush 8, 2), (8, .iushr, 1), (9, .invokestatic 20, 3), (12, .istore 4, 2), (14, .iload_n 0, 1), (15, .bipush 16, 2), (17, .iushr, 1), (18, .invokestatic 23, 3), (21, .istore 5, 2), (23, .iload_n 0, 1), (24, .bipush 19, 2), (26, .iushr, 1), (27, .invokestatic 23, 3), (30, .istore 6, 2), (32, .iload_n 2, 1), (33, .iconst 1, 1), (34, .iand, 1), (35, .ifCond .eq 7, 3), (38, .iload_n 3, 1), (39, .goto 7, 3), (42, .iload_n 1, 1), (43, .invokestatic 15, 3), (46, .istore 7, 2), (48, .iload_n 2, 1), (49, .iconst 2, 1), (50, .iand, 1), (51, .ifCond .eq 8, 3), (54, .iload 4, 2), (56, .goto 10, 3), (59, .iload_n 1, 1), (60, .bipush 8, 2), (62, .iushr, 1), (63, .invokestatic 20, 3), (66, .istore 8, 2), (68, .iload_n 2, 1), (69, .iconst 4, 1), (70, .iand, 1), (71, .ifCond .eq 8, 3), (74, .iload 5, 2), (76, .goto 10, 3), (79, .iload_n 1, 1), (80, .bipush 16, 2), (82, .iushr, 1), (83, .invokestatic 23, 3), (86, .istore 9, 2), (88, .iload_n 2, 1), (89, .bipush 8, 2), (91, .iand, 1), (92, .ifCond .eq 8, 3), (95, .iload 6, 2), (97, .goto 10, 3), (100, .iload_n 1, 1), (101, .bipush 19, 2), (103, .iushr, 1), (104, .invokestatic 23, 3), (107, .istore 10, 2), (109, .new 26, 3), (112, .dup, 1), (113, .new 10, 3), (116, .dup, 1), (117, .iconst 1, 1), (118, .newarray .char, 2), (120, .dup, 1), (121, .iconst 0, 1), (122, .iload_n 3, 1), (123, .castore, 1), (124, .invokespecial 28, 3), (127, .new 10, 3), (130, .dup, 1), (131, .iconst 1, 1), (132, .newarray .char, 2), (134, .dup, 1), (135, .iconst 0, 1), (136, .iload 4, 2), (138, .castore, 1), (139, .invokespecial 28, 3), (142, .new 10, 3), (145, .dup, 1), (146, .iconst 4, 1), (147, .newarray .char, 2), (149, .dup, 1), (150, .iconst 0, 1), (151, .bipush 40, 2), (153, .castore, 1), (154, .dup, 1), (155, .iconst 1, 1), (156, .iload 5, 2), (158, .castore, 1), (159, .dup, 1), (160, .iconst 2, 1), (161, .bipush 41, 2), (163, .castore, 1), (164, .dup, 1), (165, .iconst 3, 1), (166, .iload 6, 2), (168, .castore, 1), (169, .invokespecial 28, 3), (172, .invokespecial 31, 3), (175, .astore 11, 2), (177, .new 26, 3), (180, .dup, 1), (181, .new 10, 3), (184, .dup, 1), (185, .iconst 1, 1), (186, .newarray .char, 2), (188, .dup, 1), (189, .iconst 0, 1), (190, .iload 7, 2), (192, .castore, 1), (193, .invokespecial 28, 3), (196, .new 10, 3), (199, .dup, 1), (200, .iconst 1, 1), (201, .newarray .char, 2), (203, .dup, 1), (204, .iconst 0, 1), (205, .iload 8, 2), (207, .castore, 1), (208, .invokespecial 28, 3), (211, .new 10, 3), (214, .dup, 1), (215, .iconst 4, 1), (216, .newarray .char, 2), (218, .dup, 1), (219, .iconst 0, 1), (220, .bipush 40, 2), (222, .castore, 1), (223, .dup, 1), (224, .iconst 1, 1), (225, .iload 9, 2), (227, .castore, 1), (228, .dup, 1), (229, .iconst 2, 1), (230, .bipush 41, 2), (232, .castore, 1), (233, .dup, 1), (234, .iconst 3, 1), (235, .iload 10, 2), (237, .castore, 1), (238, .invokespecial 28, 3), (241, .invokespecial 31, 3), (244, .astore 12, 2), (246, .new 34, 3), (249, .dup, 1), (250, .new 10, 3), (253, .dup, 1), (254, .iconst 1, 1), (255, .newarray .char, 2), (257, .dup, 1), (258, .iconst 0, 1), (259, .iload_n 3, 1), (260, .castore, 1), (261, .invokespecial 28, 3), (264, .new 10, 3), (267, .dup, 1), (268, .iconst 1, 1), (269, .newarray .char, 2), (271, .dup, 1), (272, .iconst 0, 1), (273, .iload 4, 2), (275, .castore, 1), (276, .invokespecial 28, 3), (279, .iload 5, 2), (281, .invokestatic 36, 3), (284, .invokespecial 40, 3), (287, .astore 13, 2), (289, .iload_n 3, 1), (290, .iload 7, 2), (292, .if_icmp .ne 28, 3), (295, .iload 4, 2), (297, .iload 8, 2), (299, .if_icmp .ne 21, 3), (302, .iload 5, 2), (304, .iload 9, 2), (306, .if_icmp .ne 14, 3), (309, .iload 6, 2), (311, .iload 10, 2), (313, .if_icmp .ne 7, 3), (316, .iconst 1, 1), (317, .goto 4, 3), (320, .iconst 0, 1), (321, .istore 14, 2), (323, .aload 11, 2), (325, .aload 12, 2), (327, .invokevirtual 41, 3), (330, .iload 14, 2), (332, .if_icmp .ne 48, 3), (335, .aload 12, 2), (337, .aload 11, 2), (339, .invokevirtual 41, 3), (342, .iload 14, 2), (344, .if_icmp .ne 36, 3), (347, .aload 11, 2), (349, .aload 11, 2), (351, .invokevirtual 41, 3), (354, .ifCond .eq 26, 3), (357, .aload 11, 2), (359, .aconst_null, 1), (360, .invokevirtual 41, 3), (363, .ifCond .ne 17, 3), (366, .aload 11, 2), (368, .aload 13, 2), (370, .invokevirtual 41, 3), (373, .ifCond .ne 7, 3), (376, .iconst 1, 1), (377, .goto 4, 3), (380, .iconst 0, 1), (381, .ireturn, 1)]
set_option maxRecDepth 65536 in
theorem td_law : Dec code tb_law := by unfold Dec; decide +kernel
theorem pd_law : parseMethodDescriptor "(III)Z" = some ⟨[.int, .int, .int], (some .boolean)⟩ := by decide +kernel
theorem pn_law : plainFor (⟨"com/example/callweave/callweave/model/MethodRefEqualsPinLaw", "law", "(III)Z"⟩ : MethodName) = true := by decide +kernel
abbrev B_law : Bx := (x, code, maxLocals, ret, room_1)
set_option maxRecDepth 65536 in
set_option maxHeartbeats 4000000 in
theorem t323 {A : Ax} (K : Wd A) {D : Dx} {v_a v_b v_m v_o1 v_n1 v_p1 v_r1 v_o2 v_n2 v_p2 v_r2 : Int32} (h_o1 : Sf v_o1) (h_n1 : Sn v_n1) (h_p1 : Pm v_p1) (h_r1 : Pm v_r1) (h_o2 : Sf v_o2) (h_n2 : Sn v_n2) (h_p2 : Pm v_p2) (h_r2 : Pm v_r2) {v_ex : Int32} {ra rb rf a1 a2 a3 b1 b2 b3 c1 c2 c3 : Addr} {GG : List Ent} (mra : (ra, ObjP A "com/example/callweave/callweave/model/MethodRef" [("com/example/callweave/callweave/model/MethodRef", "owner", "Ljava/lang/String;", .ref a1), ("com/example/callweave/callweave/model/MethodRef", "name", "Ljava/lang/String;", .ref a2), ("com/example/callweave/callweave/model/MethodRef", "descriptor", "Ljava/lang/String;", .ref a3)]) ∈ GG) (mrb : (rb, ObjP A "com/example/callweave/callweave/model/MethodRef" [("com/example/callweave/callweave/model/MethodRef", "owner", "Ljava/lang/String;", .ref b1), ("com/example/callweave/callweave/model/MethodRef", "name", "Ljava/lang/String;", .ref b2), ("com/example/callweave/callweave/model/MethodRef", "descriptor", "Ljava/lang/String;", .ref b3)]) ∈ GG) (mrf : (rf, ObjP A "com/example/callweave/callweave/model/FieldRef" [("com/example/callweave/callweave/model/FieldRef", "owner", "Ljava/lang/String;", .ref c1), ("com/example/callweave/callweave/model/FieldRef", "name", "Ljava/lang/String;", .ref c2), ("com/example/callweave/callweave/model/FieldRef", "descriptor", "Ljava/lang/String;", .ref c3)]) ∈ GG) (Sa1 : StrL A GG a1 [v_o1]) (Sa2 : StrL A GG a2 [v_n1]) (Sa3 : StrL A GG a3 [40, v_p1, 41, v_r1]) (Sb1 : StrL A GG b1 [v_o2]) (Sb2 : StrL A GG b2 [v_n2]) (Sb3 : StrL A GG b3 [40, v_p2, 41, v_r2]) (hE : Is v_ex (v_o1 = v_o2 ∧ v_n1 = v_n2 ∧ v_p1 = v_p2 ∧ v_r1 = v_r2)) : Go A B_law D (fun v _ _ => v = some (.int 1)) 323 [.val (.int v_a), .val (.int v_b), .val (.int v_m), .val (.int v_o1), .val (.int v_n1), .val (.int v_p1), .val (.int v_r1), .val (.int v_o2), .val (.int v_n2), .val (.int v_p2), .val (.int v_r2), .val (.ref ra), .val (.ref rb), .val (.ref rf), .val (.int v_ex)] [] [] GG 85 1407 := by
  refine Go.run (B := B_law) td_law 186 2 (pc' := 327) (L' := [.val (.int v_a), .val (.int v_b), .val (.int v_m), .val (.int v_o1), .val (.int v_n1), .val (.int v_p1), .val (.int v_r1), .val (.int v_o2), .val (.int v_n2), .val (.int v_p2), .val (.int v_r2), .val (.ref ra), .val (.ref rb), .val (.ref rf), .val (.int v_ex)]) (S' := [.ref rb, .ref ra]) rfl ?_
  refine Go.callV (B := B_law) td_law 188 (B' := B_feq) (C := "com/example/callweave/callweave/model/MethodRef") (a := ra) (argsL := [.ref rb]) (rest := []) (W := 0) rfl (feq_met K (by exact own_le rfl) (by exact own_le rfl) (by exact own_le rfl) (by exact own_le rfl) (by exact own_le rfl) (by exact own_le rfl) mra mrb Sa1 Sb1 Sa2 Sb2 Sa3 Sb3) (Or.inr mra) (fun c P => P.1) (w_212 K) (w_213 K) (w_214 K) (w_215 K) (w_215 K) (w_45 K) (w_216 K) (by decide) pd_feq rfl rfl rfl rfl (Nat.le_of_eq rfl) (by decide) (by decide) (by decide) (by decide) ?_
  rintro _ _ _ ⟨g1, rfl, I1, rfl, rfl⟩
  show Go A B_law D _ 330 [.val (.int v_a), .val (.int v_b), .val (.int v_m), .val (.int v_o1), .val (.int v_n1), .val (.int v_p1), .val (.int v_r1), .val (.int v_o2), .val (.int v_n2), .val (.int v_p2), .val (.int v_r2), .val (.ref ra), .val (.ref rb), .val (.ref rf), .val (.int v_ex)] [.int g1] [] GG 85 1407
  refine Go.run (B := B_law) td_law 189 1 (pc' := 332) (L' := [.val (.int v_a), .val (.int v_b), .val (.int v_m), .val (.int v_o1), .val (.int v_n1), .val (.int v_p1), .val (.int v_r1), .val (.int v_o2), .val (.int v_n2), .val (.int v_p2), .val (.int v_r2), .val (.ref ra), .val (.ref rb), .val (.ref rf), .val (.int v_ex)]) (S' := [.int v_ex, .int g1]) rfl ?_
  refine Go.icmp (B := B_law) td_law 190 (pc' := 380) rfl (by decide) rfl (fun (h : g1 ≠ v_ex) => absurd h (fun z => z (I1.same hE (by simp only [List.cons.injEq, and_true, true_and])))) (fun _ => ?_)
  refine Go.run (B := B_law) td_law 191 2 (pc' := 339) (L' := [.val (.int v_a), .val (.int v_b), .val (.int v_m), .val (.int v_o1), .val (.int v_n1), .val (.int v_p1), .val (.int v_r1), .val (.int v_o2), .val (.int v_n2), .val (.int v_p2), .val (.int v_r2), .val (.ref ra), .val (.ref rb), .val (.ref rf), .val (.int v_ex)]) (S' := [.ref ra, .ref rb]) rfl ?_
  refine Go.callV (B := B_law) td_law 193 (B' := B_feq) (C := "com/example/callweave/callweave/model/MethodRef") (a := rb) (argsL := [.ref ra]) (rest := []) (W := 0) rfl (feq_met K (by exact own_le rfl) (by exact own_le rfl) (by exact own_le rfl) (by exact own_le rfl) (by exact own_le rfl) (by exact own_le rfl) mrb mra Sb1 Sa1 Sb2 Sa2 Sb3 Sa3) (Or.inr mrb) (fun c P => P.1) (w_212 K) (w_213 K) (w_214 K) (w_215 K) (w_215 K) (w_45 K) (w_216 K) (by decide) pd_feq rfl rfl rfl rfl (Nat.le_of_eq rfl) (by decide) (by decide) (by decide) (by decide) ?_
  rintro _ _ _ ⟨g2, rfl, I2, rfl, rfl⟩
  show Go A B_law D _ 342 [.val (.int v_a), .val (.int v_b), .val (.int v_m), .val (.int v_o1), .val (.int v_n1), .val (.int v_p1), .val (.int v_r1), .val (.int v_o2), .val (.int v_n2), .val (.int v_p2), .val (.int v_r2), .val (.ref ra), .val (.ref rb), .val (.ref rf), .val (.int v_ex)] [.int g2] [] GG 85 1407
  refine Go.run (B := B_law) td_law 194 1 (pc' := 344) (L' := [.val (.int v_a), .val (.int v_b), .val (.int v_m), .val (.int v_o1), .val (.int v_n1), .val (.int v_p1), .val (.int v_r1), .val (.int v_o2), .val (.int v_n2), .val (.int v_p2), .val (.int v_r2), .val (.ref ra), .val (.ref rb), .val (.ref rf), .val (.int v_ex)]) (S' := [.int v_ex, .int g2]) rfl ?_
  refine Go.icmp (B := B_law) td_law 195 (pc' := 380) rfl (by decide) rfl (fun (h : g2 ≠ v_ex) => absurd h (fun z => z (I2.same hE (by simp only [List.cons.injEq, and_true, true_and]; exact ⟨fun h => ⟨h.1.symm, h.2.1.symm, h.2.2.1.symm, h.2.2.2.symm⟩, fun h => ⟨h.1.symm, h.2.1.symm, h.2.2.1.symm, h.2.2.2.symm⟩⟩)))) (fun _ => ?_)
  refine Go.run (B := B_law) td_law 196 2 (pc' := 351) (L' := [.val (.int v_a), .val (.int v_b), .val (.int v_m), .val (.int v_o1), .val (.int v_n1), .val (.int v_p1), .val (.int v_r1), .val (.int v_o2), .val (.int v_n2), .val (.int v_p2), .val (.int v_r2), .val (.ref ra), .val (.ref rb), .val (.ref rf), .val (.int v_ex)]) (S' := [.ref ra, .ref ra]) rfl ?_
  refine Go.callV (B := B_law) td_law 198 (B' := B_feq) (C := "com/example/callweave/callweave/model/MethodRef") (a := ra) (argsL := [.ref ra]) (rest := []) (W := 0) rfl (feq_met K (by exact own_le rfl) (by exact own_le rfl) (by exact own_le rfl) (by exact own_le rfl) (by exact own_le rfl) (by exact own_le rfl) mra mra Sa1 Sa1 Sa2 Sa2 Sa3 Sa3) (Or.inr mra) (fun c P => P.1) (w_212 K) (w_213 K) (w_214 K) (w_215 K) (w_215 K) (w_45 K) (w_216 K) (by decide) pd_feq rfl rfl rfl rfl (Nat.le_of_eq rfl) (by decide) (by decide) (by decide) (by decide) ?_
  rintro _ _ _ ⟨g3, rfl, I3, rfl, rfl⟩
  show Go A B_law D _ 354 [.val (.int v_a), .val (.int v_b), .val (.int v_m), .val (.int v_o1), .val (.int v_n1), .val (.int v_p1), .val (.int v_r1), .val (.int v_o2), .val (.int v_n2), .val (.int v_p2), .val (.int v_r2), .val (.ref ra), .val (.ref rb), .val (.ref rf), .val (.int v_ex)] [.int g3] [] GG 85 1407
  refine Go.if0 (B := B_law) td_law 199 (pc' := 380) rfl (by decide) rfl (fun (h : g3 = 0) => absurd h (fun z => by rw [I3.1 ⟨rfl, rfl, rfl⟩] at z; exact absurd z (by decide))) (fun _ => ?_)
  refine Go.run (B := B_law) td_law 200 2 (pc' := 360) (L' := [.val (.int v_a), .val (.int v_b), .val (.int v_m), .val (.int v_o1), .val (.int v_n1), .val (.int v_p1), .val (.int v_r1), .val (.int v_o2), .val (.int v_n2), .val (.int v_p2), .val (.int v_r2), .val (.ref ra), .val (.ref rb), .val (.ref rf), .val (.int v_ex)]) (S' := [.null, .ref ra]) rfl ?_
  refine Go.callV (B := B_law) td_law 202 (B' := B_feq) (C := "com/example/callweave/callweave/model/MethodRef") (a := ra) (argsL := [.null]) (rest := []) (W := 0) rfl (feqN_met K) (Or.inr mra) (fun c P => P.1) (w_212 K) (w_213 K) (w_214 K) (w_215 K) (w_215 K) (w_45 K) (w_216 K) (by decide) pd_feq rfl rfl rfl rfl (Nat.le_of_eq rfl) (by decide) (by decide) (by decide) (by decide) ?_
  rintro _ _ _ ⟨rfl, rfl, rfl⟩
  show Go A B_law D _ 363 [.val (.int v_a), .val (.int v_b), .val (.int v_m), .val (.int v_o1), .val (.int v_n1), .val (.int v_p1), .val (.int v_r1), .val (.int v_o2), .val (.int v_n2), .val (.int v_p2), .val (.int v_r2), .val (.ref ra), .val (.ref rb), .val (.ref rf), .val (.int v_ex)] [.int (0 : Int32)] [] GG 85 1407
  refine Go.if0 (B := B_law) td_law 203 (pc' := 380) rfl (by decide) rfl (fun (h : (0 : Int32) ≠ 0) => absurd h (fun z => z rfl)) (fun _ => ?_)
  refine Go.run (B := B_law) td_law 204 2 (pc' := 370) (L' := [.val (.int v_a), .val (.int v_b), .val (.int v_m), .val (.int v_o1), .val (.int v_n1), .val (.int v_p1), .val (.int v_r1), .val (.int v_o2), .val (.int v_n2), .val (.int v_p2), .val (.int v_r2), .val (.ref ra), .val (.ref rb), .val (.ref rf), .val (.int v_ex)]) (S' := [.ref rf, .ref ra]) rfl ?_
  refine Go.callV (B := B_law) td_law 206 (B' := B_feq) (C := "com/example/callweave/callweave/model/MethodRef") (a := ra) (argsL := [.ref rf]) (rest := []) (W := 0) rfl (feqF_met K mrf) (Or.inr mra) (fun c P => P.1) (w_212 K) (w_213 K) (w_214 K) (w_215 K) (w_215 K) (w_45 K) (w_216 K) (by decide) pd_feq rfl rfl rfl rfl (Nat.le_of_eq rfl) (by decide) (by decide) (by decide) (by decide) ?_
  rintro _ _ _ ⟨rfl, rfl, rfl⟩
  show Go A B_law D _ 373 [.val (.int v_a), .val (.int v_b), .val (.int v_m), .val (.int v_o1), .val (.int v_n1), .val (.int v_p1), .val (.int v_r1), .val (.int v_o2), .val (.int v_n2), .val (.int v_p2), .val (.int v_r2), .val (.ref ra), .val (.ref rb), .val (.ref rf), .val (.int v_ex)] [.int (0 : Int32)] [] GG 85 1407
  refine Go.if0 (B := B_law) td_law 207 (pc' := 380) rfl (by decide) rfl (fun (h : (0 : Int32) ≠ 0) => absurd h (fun z => z rfl)) (fun _ => ?_)
  refine Go.run (B := B_law) td_law 208 2 (pc' := 381) (L' := [.val (.int v_a), .val (.int v_b), .val (.int v_m), .val (.int v_o1), .val (.int v_n1), .val (.int v_p1), .val (.int v_r1), .val (.int v_o2), .val (.int v_n2), .val (.int v_p2), .val (.int v_r2), .val (.ref ra), .val (.ref rb), .val (.ref rf), .val (.int v_ex)]) (S' := [.int (1 : Int32)]) rfl ?_
  exact Go.retZ (B := B_law) td_law 211 rfl rfl rfl rfl (by decide) (by decide)
set_option maxRecDepth 65536 in
set_option maxHeartbeats 4000000 in
theorem t_same {A : Ax} (K : Wd A) {D : Dx} {v_a v_b v_m v_o1 v_n1 v_p1 v_r1 v_o2 v_n2 v_p2 v_r2 : Int32} (h_o1 : Sf v_o1) (h_n1 : Sn v_n1) (h_p1 : Pm v_p1) (h_r1 : Pm v_r1) (h_o2 : Sf v_o2) (h_n2 : Sn v_n2) (h_p2 : Pm v_p2) (h_r2 : Pm v_r2) {ra rb rf a1 a2 a3 b1 b2 b3 c1 c2 c3 : Addr} {GG : List Ent} (mra : (ra, ObjP A "com/example/callweave/callweave/model/MethodRef" [("com/example/callweave/callweave/model/MethodRef", "owner", "Ljava/lang/String;", .ref a1), ("com/example/callweave/callweave/model/MethodRef", "name", "Ljava/lang/String;", .ref a2), ("com/example/callweave/callweave/model/MethodRef", "descriptor", "Ljava/lang/String;", .ref a3)]) ∈ GG) (mrb : (rb, ObjP A "com/example/callweave/callweave/model/MethodRef" [("com/example/callweave/callweave/model/MethodRef", "owner", "Ljava/lang/String;", .ref b1), ("com/example/callweave/callweave/model/MethodRef", "name", "Ljava/lang/String;", .ref b2), ("com/example/callweave/callweave/model/MethodRef", "descriptor", "Ljava/lang/String;", .ref b3)]) ∈ GG) (mrf : (rf, ObjP A "com/example/callweave/callweave/model/FieldRef" [("com/example/callweave/callweave/model/FieldRef", "owner", "Ljava/lang/String;", .ref c1), ("com/example/callweave/callweave/model/FieldRef", "name", "Ljava/lang/String;", .ref c2), ("com/example/callweave/callweave/model/FieldRef", "descriptor", "Ljava/lang/String;", .ref c3)]) ∈ GG) (Sa1 : StrL A GG a1 [v_o1]) (Sa2 : StrL A GG a2 [v_n1]) (Sa3 : StrL A GG a3 [40, v_p1, 41, v_r1]) (Sb1 : StrL A GG b1 [v_o2]) (Sb2 : StrL A GG b2 [v_n2]) (Sb3 : StrL A GG b3 [40, v_p2, 41, v_r2]) : Go A B_law D (fun v _ _ => v = some (.int 1)) 289 [.val (.int v_a), .val (.int v_b), .val (.int v_m), .val (.int v_o1), .val (.int v_n1), .val (.int v_p1), .val (.int v_r1), .val (.int v_o2), .val (.int v_n2), .val (.int v_p2), .val (.int v_r2), .val (.ref ra), .val (.ref rb), .val (.ref rf), .unset] [] [] GG 85 1407 := by
  refine Go.run (B := B_law) td_law 170 2 (pc' := 292) (L' := [.val (.int v_a), .val (.int v_b), .val (.int v_m), .val (.int v_o1), .val (.int v_n1), .val (.int v_p1), .val (.int v_r1), .val (.int v_o2), .val (.int v_n2), .val (.int v_p2), .val (.int v_r2), .val (.ref ra), .val (.ref rb), .val (.ref rf), .unset]) (S' := [.int v_o2, .int v_o1]) rfl ?_
  refine Go.icmp (B := B_law) td_law 172 (pc' := 320) rfl (by decide) rfl ?_ ?_
  · intro (h0 : v_o1 ≠ v_o2)
    refine Go.run (B := B_law) td_law 184 2 (pc' := 323) (L' := [.val (.int v_a), .val (.int v_b), .val (.int v_m), .val (.int v_o1), .val (.int v_n1), .val (.int v_p1), .val (.int v_r1), .val (.int v_o2), .val (.int v_n2), .val (.int v_p2), .val (.int v_r2), .val (.ref ra), .val (.ref rb), .val (.ref rf), .val (.int (0 : Int32))]) (S' := []) rfl ?_
    exact t323 K h_o1 h_n1 h_p1 h_r1 h_o2 h_n2 h_p2 h_r2 mra mrb mrf Sa1 Sa2 Sa3 Sb1 Sb2 Sb3 (Is.f (fun z => h0 z.1))
  · intro (h0 : ¬ (v_o1 ≠ v_o2))
    have q0 := Decidable.not_not.mp h0
    refine Go.run (B := B_law) td_law 173 2 (pc' := 299) (L' := [.val (.int v_a), .val (.int v_b), .val (.int v_m), .val (.int v_o1), .val (.int v_n1), .val (.int v_p1), .val (.int v_r1), .val (.int v_o2), .val (.int v_n2), .val (.int v_p2), .val (.int v_r2), .val (.ref ra), .val (.ref rb), .val (.ref rf), .unset]) (S' := [.int v_n2, .int v_n1]) rfl ?_
    refine Go.icmp (B := B_law) td_law 175 (pc' := 320) rfl (by decide) rfl ?_ ?_
    · intro (h1 : v_n1 ≠ v_n2)
      refine Go.run (B := B_law) td_law 184 2 (pc' := 323) (L' := [.val (.int v_a), .val (.int v_b), .val (.int v_m), .val (.int v_o1), .val (.int v_n1), .val (.int v_p1), .val (.int v_r1), .val (.int v_o2), .val (.int v_n2), .val (.int v_p2), .val (.int v_r2), .val (.ref ra), .val (.ref rb), .val (.ref rf), .val (.int (0 : Int32))]) (S' := []) rfl ?_
      exact t323 K h_o1 h_n1 h_p1 h_r1 h_o2 h_n2 h_p2 h_r2 mra mrb mrf Sa1 Sa2 Sa3 Sb1 Sb2 Sb3 (Is.f (fun z => h1 z.2.1))
    · intro (h1 : ¬ (v_n1 ≠ v_n2))
      have q1 := Decidable.not_not.mp h1
      refine Go.run (B := B_law) td_law 176 2 (pc' := 306) (L' := [.val (.int v_a), .val (.int v_b), .val (.int v_m), .val (.int v_o1), .val (.int v_n1), .val (.int v_p1), .val (.int v_r1), .val (.int v_o2), .val (.int v_n2), .val (.int v_p2), .val (.int v_r2), .val (.ref ra), .val (.ref rb), .val (.ref rf), .unset]) (S' := [.int v_p2, .int v_p1]) rfl ?_
      refine Go.icmp (B := B_law) td_law 178 (pc' := 320) rfl (by decide) rfl ?_ ?_
      · intro (h2 : v_p1 ≠ v_p2)
        refine Go.run (B := B_law) td_law 184 2 (pc' := 323) (L' := [.val (.int v_a), .val (.int v_b), .val (.int v_m), .val (.int v_o1), .val (.int v_n1), .val (.int v_p1), .val (.int v_r1), .val (.int v_o2), .val (.int v_n2), .val (.int v_p2), .val (.int v_r2), .val (.ref ra), .val (.ref rb), .val (.ref rf), .val (.int (0 : Int32))]) (S' := []) rfl ?_
        exact t323 K h_o1 h_n1 h_p1 h_r1 h_o2 h_n2 h_p2 h_r2 mra mrb mrf Sa1 Sa2 Sa3 Sb1 Sb2 Sb3 (Is.f (fun z => h2 z.2.2.1))
      · intro (h2 : ¬ (v_p1 ≠ v_p2))
        have q2 := Decidable.not_not.mp h2
        refine Go.run (B := B_law) td_law 179 2 (pc' := 313) (L' := [.val (.int v_a), .val (.int v_b), .val (.int v_m), .val (.int v_o1), .val (.int v_n1), .val (.int v_p1), .val (.int v_r1), .val (.int v_o2), .val (.int v_n2), .val (.int v_p2), .val (.int v_r2), .val (.ref ra), .val (.ref rb), .val (.ref rf), .unset]) (S' := [.int v_r2, .int v_r1]) rfl ?_
        refine Go.icmp (B := B_law) td_law 181 (pc' := 320) rfl (by decide) rfl ?_ ?_
        · intro (h3 : v_r1 ≠ v_r2)
          refine Go.run (B := B_law) td_law 184 2 (pc' := 323) (L' := [.val (.int v_a), .val (.int v_b), .val (.int v_m), .val (.int v_o1), .val (.int v_n1), .val (.int v_p1), .val (.int v_r1), .val (.int v_o2), .val (.int v_n2), .val (.int v_p2), .val (.int v_r2), .val (.ref ra), .val (.ref rb), .val (.ref rf), .val (.int (0 : Int32))]) (S' := []) rfl ?_
          exact t323 K h_o1 h_n1 h_p1 h_r1 h_o2 h_n2 h_p2 h_r2 mra mrb mrf Sa1 Sa2 Sa3 Sb1 Sb2 Sb3 (Is.f (fun z => h3 z.2.2.2))
        · intro (h3 : ¬ (v_r1 ≠ v_r2))
          have q3 := Decidable.not_not.mp h3
          refine Go.run (B := B_law) td_law 182 2 (pc' := 321) (L' := [.val (.int v_a), .val (.int v_b), .val (.int v_m), .val (.int v_o1), .val (.int v_n1), .val (.int v_p1), .val (.int v_r1), .val (.int v_o2), .val (.int v_n2), .val (.int v_p2), .val (.int v_r2), .val (.ref ra), .val (.ref rb), .val (.ref rf), .unset]) (S' := [.int (1 : Int32)]) rfl ?_
          refine Go.run (B := B_law) td_law 185 1 (pc' := 323) (L' := [.val (.int v_a), .val (.int v_b), .val (.int v_m), .val (.int v_o1), .val (.int v_n1), .val (.int v_p1), .val (.int v_r1), .val (.int v_o2), .val (.int v_n2), .val (.int v_p2), .val (.int v_r2), .val (.ref ra), .val (.ref rb), .val (.ref rf), .val (.int (1 : Int32))]) (S' := []) rfl ?_
          exact t323 K h_o1 h_n1 h_p1 h_r1 h_o2 h_n2 h_p2 h_r2 mra mrb mrf Sa1 Sa2 Sa3 Sb1 Sb2 Sb3 (Is.t ⟨q0, q1, q2, q3⟩)
set_option maxRecDepth 65536 in
set_option maxHeartbeats 4000000 in
theorem t109 {A : Ax} (K : Wd A) {D : Dx} {v_a v_b v_m v_o1 v_n1 v_p1 v_r1 v_o2 v_n2 v_p2 v_r2 : Int32} (h_o1 : Sf v_o1) (h_n1 : Sn v_n1) (h_p1 : Pm v_p1) (h_r1 : Pm v_r1) (h_o2 : Sf v_o2) (h_n2 : Sn v_n2) (h_p2 : Pm v_p2) (h_r2 : Pm v_r2) : Go A B_law D (fun v _ _ => v = some (.int 1)) 109 [.val (.int v_a), .val (.int v_b), .val (.int v_m), .val (.int v_o1), .val (.int v_n1), .val (.int v_p1), .val (.int v_r1), .val (.int v_o2), .val (.int v_n2), .val (.int v_p2), .val (.int v_r2), .unset, .unset, .unset, .unset] [] [] [] 8 144 := by
  refine Go.new (B := B_law) td_law 60 (fs := [("com/example/callweave/callweave/model/MethodRef", "owner", "Ljava/lang/String;", .null), ("com/example/callweave/callweave/model/MethodRef", "name", "Ljava/lang/String;", .null), ("com/example/callweave/callweave/model/MethodRef", "descriptor", "Ljava/lang/String;", .null)]) rfl (w_43 K) (w_44 K) (w_45 K) (own_layS (Or.inr (w_160 K)) rfl rfl (own_layS (Or.inr (w_162 K)) rfl rfl (own_layS (Or.inr (w_164 K)) rfl rfl own_lay0))) (by decide) (by decide) ?_
  intro ra
  show Go A B_law D _ 112 [.val (.int v_a), .val (.int v_b), .val (.int v_m), .val (.int v_o1), .val (.int v_n1), .val (.int v_p1), .val (.int v_r1), .val (.int v_o2), .val (.int v_n2), .val (.int v_p2), .val (.int v_r2), .unset, .unset, .unset, .unset] [.ref ra] [(ra, ObjP A "com/example/callweave/callweave/model/MethodRef" [("com/example/callweave/callweave/model/MethodRef", "owner", "Ljava/lang/String;", .null), ("com/example/callweave/callweave/model/MethodRef", "name", "Ljava/lang/String;", .null), ("com/example/callweave/callweave/model/MethodRef", "descriptor", "Ljava/lang/String;", .null)])] [] 9 148
  refine Go.run (B := B_law) td_law 61 1 (pc' := 113) (L' := [.val (.int v_a), .val (.int v_b), .val (.int v_m), .val (.int v_o1), .val (.int v_n1), .val (.int v_p1), .val (.int v_r1), .val (.int v_o2), .val (.int v_n2), .val (.int v_p2), .val (.int v_r2), .unset, .unset, .unset, .unset]) (S' := [.ref ra, .ref ra]) rfl ?_
  refine Go.new (B := B_law) td_law 62 (fs := [("java/lang/String", "value", "[B", .null), ("java/lang/String", "coder", "B", .int (0 : Int32))]) rfl (w_46 K) (w_12 K) (w_11 K) (own_layS (Or.inr (w_14 K)) rfl rfl (own_layS (Or.inr (w_15 K)) rfl rfl own_lay0)) (by decide) (by decide) ?_
  intro a1
  show Go A B_law D _ 116 [.val (.int v_a), .val (.int v_b), .val (.int v_m), .val (.int v_o1), .val (.int v_n1), .val (.int v_p1), .val (.int v_r1), .val (.int v_o2), .val (.int v_n2), .val (.int v_p2), .val (.int v_r2), .unset, .unset, .unset, .unset] [.ref a1, .ref ra, .ref ra] [(a1, ObjP A "java/lang/String" [("java/lang/String", "value", "[B", .null), ("java/lang/String", "coder", "B", .int (0 : Int32))]), (ra, ObjP A "com/example/callweave/callweave/model/MethodRef" [("com/example/callweave/callweave/model/MethodRef", "owner", "Ljava/lang/String;", .null), ("com/example/callweave/callweave/model/MethodRef", "name", "Ljava/lang/String;", .null), ("com/example/callweave/callweave/model/MethodRef", "descriptor", "Ljava/lang/String;", .null)])] [] 10 152
  refine Go.run (B := B_law) td_law 63 2 (pc' := 118) (L' := [.val (.int v_a), .val (.int v_b), .val (.int v_m), .val (.int v_o1), .val (.int v_n1), .val (.int v_p1), .val (.int v_r1), .val (.int v_o2), .val (.int v_n2), .val (.int v_p2), .val (.int v_r2), .unset, .unset, .unset, .unset]) (S' := [.int (1 : Int32), .ref a1, .ref a1, .ref ra, .ref ra]) rfl ?_
  refine Go.newarray (B := B_law) td_law 65 (ty := .char) (cap := 1) (vs := (chV [0])) rfl rfl (w_47 K) (by decide) (by decide) (by decide) (by decide) (by decide) rfl ?_
  intro ya1
  show Go A B_law D _ 120 [.val (.int v_a), .val (.int v_b), .val (.int v_m), .val (.int v_o1), .val (.int v_n1), .val (.int v_p1), .val (.int v_r1), .val (.int v_o2), .val (.int v_n2), .val (.int v_p2), .val (.int v_r2), .unset, .unset, .unset, .unset] [.ref ya1, .ref a1, .ref a1, .ref ra, .ref ra] [(ya1, ArrP A .char (chV [0])), (a1, ObjP A "java/lang/String" [("java/lang/String", "value", "[B", .null), ("java/lang/String", "coder", "B", .int (0 : Int32))]), (ra, ObjP A "com/example/callweave/callweave/model/MethodRef" [("com/example/callweave/callweave/model/MethodRef", "owner", "Ljava/lang/String;", .null), ("com/example/callweave/callweave/model/MethodRef", "name", "Ljava/lang/String;", .null), ("com/example/callweave/callweave/model/MethodRef", "descriptor", "Ljava/lang/String;", .null)])] [] 11 153
  refine Go.run (B := B_law) td_law 66 3 (pc' := 123) (L' := [.val (.int v_a), .val (.int v_b), .val (.int v_m), .val (.int v_o1), .val (.int v_n1), .val (.int v_p1), .val (.int v_r1), .val (.int v_o2), .val (.int v_n2), .val (.int v_p2), .val (.int v_r2), .unset, .unset, .unset, .unset]) (S' := [.int v_o1, .int (0 : Int32), .ref ya1, .ref ya1, .ref a1, .ref a1, .ref ra, .ref ra]) rfl ?_
  refine Go.castore (B := B_law) td_law 69 (vs' := (chV [v_o1])) rfl (own_inB 1 rfl (by decide)) (by rw [chr16_id ((h_o1.1).imp id (fun h => by omega))]; rfl) ?_
  refine Go.front 1 (F' := [(a1, ObjP A "java/lang/String" [("java/lang/String", "value", "[B", .null), ("java/lang/String", "coder", "B", .int (0 : Int32))]), (ya1, ArrP A .char (chV [v_o1])), (ra, ObjP A "com/example/callweave/callweave/model/MethodRef" [("com/example/callweave/callweave/model/MethodRef", "owner", "Ljava/lang/String;", .null), ("com/example/callweave/callweave/model/MethodRef", "name", "Ljava/lang/String;", .null), ("com/example/callweave/callweave/model/MethodRef", "descriptor", "Ljava/lang/String;", .null)])]) rfl rfl ?_
  refine Go.callN (B := B_law) td_law 70 (B' := B_sin) (a := a1) (argsL := [.ref ya1]) (rest := [.ref a1, .ref ra, .ref ra]) (W := 3) rfl (sinL_met K (cs := [v_o1]) (lat1 h_o1.1) (own_le rfl) (show ¬ nI 1 = 0 by decide) (Or.inl (List.mem_of_getElem? (i := 0) rfl))) rfl rfl (w_48 K) (w_49 K) (w_11 K) (w_50 K) (by decide) pd_sin rfl rfl rfl rfl (Nat.le_of_eq rfl) (by decide) (by decide) (by decide) (by decide) ?_
  rintro _ _ _ ⟨rfl, rfl, ga1, ka1, rfl, Sa1⟩
  show Go A B_law D _ 127 [.val (.int v_a), .val (.int v_b), .val (.int v_m), .val (.int v_o1), .val (.int v_n1), .val (.int v_p1), .val (.int v_r1), .val (.int v_o2), .val (.int v_n2), .val (.int v_p2), .val (.int v_r2), .unset, .unset, .unset, .unset] [.ref a1, .ref ra, .ref ra] [(ya1, ArrP A .char (chV [v_o1])), (ra, ObjP A "com/example/callweave/callweave/model/MethodRef" [("com/example/callweave/callweave/model/MethodRef", "owner", "Ljava/lang/String;", .null), ("com/example/callweave/callweave/model/MethodRef", "name", "Ljava/lang/String;", .null), ("com/example/callweave/callweave/model/MethodRef", "descriptor", "Ljava/lang/String;", .null)])] [ga1, ka1] 12 157
  refine Go.drop ?_
  show Go A B_law D _ 127 [.val (.int v_a), .val (.int v_b), .val (.int v_m), .val (.int v_o1), .val (.int v_n1), .val (.int v_p1), .val (.int v_r1), .val (.int v_o2), .val (.int v_n2), .val (.int v_p2), .val (.int v_r2), .unset, .unset, .unset, .unset] [.ref a1, .ref ra, .ref ra] [(ra, ObjP A "com/example/callweave/callweave/model/MethodRef" [("com/example/callweave/callweave/model/MethodRef", "owner", "Ljava/lang/String;", .null), ("com/example/callweave/callweave/model/MethodRef", "name", "Ljava/lang/String;", .null), ("com/example/callweave/callweave/model/MethodRef", "descriptor", "Ljava/lang/String;", .null)])] [ga1, ka1] 12 157
  refine Go.new (B := B_law) td_law 71 (fs := [("java/lang/String", "value", "[B", .null), ("java/lang/String", "coder", "B", .int (0 : Int32))]) rfl (w_46 K) (w_12 K) (w_11 K) (own_layS (Or.inr (w_14 K)) rfl rfl (own_layS (Or.inr (w_15 K)) rfl rfl own_lay0)) (by decide) (by decide) ?_
  intro a2
  show Go A B_law D _ 130 [.val (.int v_a), .val (.int v_b), .val (.int v_m), .val (.int v_o1), .val (.int v_n1), .val (.int v_p1), .val (.int v_r1), .val (.int v_o2), .val (.int v_n2), .val (.int v_p2), .val (.int v_r2), .unset, .unset, .unset, .unset] [.ref a2, .ref a1, .ref ra, .ref ra] [(a2, ObjP A "java/lang/String" [("java/lang/String", "value", "[B", .null), ("java/lang/String", "coder", "B", .int (0 : Int32))]), (ra, ObjP A "com/example/callweave/callweave/model/MethodRef" [("com/example/callweave/callweave/model/MethodRef", "owner", "Ljava/lang/String;", .null), ("com/example/callweave/callweave/model/MethodRef", "name", "Ljava/lang/String;", .null), ("com/example/callweave/callweave/model/MethodRef", "descriptor", "Ljava/lang/String;", .null)])] [ga1, ka1] 13 161
  refine Go.run (B := B_law) td_law 72 2 (pc' := 132) (L' := [.val (.int v_a), .val (.int v_b), .val (.int v_m), .val (.int v_o1), .val (.int v_n1), .val (.int v_p1), .val (.int v_r1), .val (.int v_o2), .val (.int v_n2), .val (.int v_p2), .val (.int v_r2), .unset, .unset, .unset, .unset]) (S' := [.int (1 : Int32), .ref a2, .ref a2, .ref a1, .ref ra, .ref ra]) rfl ?_
  refine Go.newarray (B := B_law) td_law 74 (ty := .char) (cap := 1) (vs := (chV [0])) rfl rfl (w_47 K) (by decide) (by decide) (by decide) (by decide) (by decide) rfl ?_
  intro ya2
  show Go A B_law D _ 134 [.val (.int v_a), .val (.int v_b), .val (.int v_m), .val (.int v_o1), .val (.int v_n1), .val (.int v_p1), .val (.int v_r1), .val (.int v_o2), .val (.int v_n2), .val (.int v_p2), .val (.int v_r2), .unset, .unset, .unset, .unset] [.ref ya2, .ref a2, .ref a2, .ref a1, .ref ra, .ref ra] [(ya2, ArrP A .char (chV [0])), (a2, ObjP A "java/lang/String" [("java/lang/String", "value", "[B", .null), ("java/lang/String", "coder", "B", .int (0 : Int32))]), (ra, ObjP A "com/example/callweave/callweave/model/MethodRef" [("com/example/callweave/callweave/model/MethodRef", "owner", "Ljava/lang/String;", .null), ("com/example/callweave/callweave/model/MethodRef", "name", "Ljava/lang/String;", .null), ("com/example/callweave/callweave/model/MethodRef", "descriptor", "Ljava/lang/String;", .null)])] [ga1, ka1] 14 162
  refine Go.run (B := B_law) td_law 75 3 (pc' := 138) (L' := [.val (.int v_a), .val (.int v_b), .val (.int v_m), .val (.int v_o1), .val (.int v_n1), .val (.int v_p1), .val (.int v_r1), .val (.int v_o2), .val (.int v_n2), .val (.int v_p2), .val (.int v_r2), .unset, .unset, .unset, .unset]) (S' := [.int v_n1, .int (0 : Int32), .ref ya2, .ref ya2, .ref a2, .ref a2, .ref a1, .ref ra, .ref ra]) rfl ?_
  refine Go.castore (B := B_law) td_law 78 (vs' := (chV [v_n1])) rfl (own_inB 1 rfl (by decide)) (by rw [chr16_id ((h_n1.1.1).imp id (fun h => by omega))]; rfl) ?_
  refine Go.front 1 (F' := [(a2, ObjP A "java/lang/String" [("java/lang/String", "value", "[B", .null), ("java/lang/String", "coder", "B", .int (0 : Int32))]), (ya2, ArrP A .char (chV [v_n1])), (ra, ObjP A "com/example/callweave/callweave/model/MethodRef" [("com/example/callweave/callweave/model/MethodRef", "owner", "Ljava/lang/String;", .null), ("com/example/callweave/callweave/model/MethodRef", "name", "Ljava/lang/String;", .null), ("com/example/callweave/callweave/model/MethodRef", "descriptor", "Ljava/lang/String;", .null)])]) rfl rfl ?_
  refine Go.callN (B := B_law) td_law 79 (B' := B_sin) (a := a2) (argsL := [.ref ya2]) (rest := [.ref a2, .ref a1, .ref ra, .ref ra]) (W := 4) rfl (sinL_met K (cs := [v_n1]) (lat1 h_n1.1.1) (own_le rfl) (show ¬ nI 1 = 0 by decide) (Or.inl (List.mem_of_getElem? (i := 0) rfl))) rfl rfl (w_48 K) (w_49 K) (w_11 K) (w_50 K) (by decide) pd_sin rfl rfl rfl rfl (Nat.le_of_eq rfl) (by decide) (by decide) (by decide) (by decide) ?_
  rintro _ _ _ ⟨rfl, rfl, ga2, ka2, rfl, Sa2⟩
  show Go A B_law D _ 142 [.val (.int v_a), .val (.int v_b), .val (.int v_m), .val (.int v_o1), .val (.int v_n1), .val (.int v_p1), .val (.int v_r1), .val (.int v_o2), .val (.int v_n2), .val (.int v_p2), .val (.int v_r2), .unset, .unset, .unset, .unset] [.ref a2, .ref a1, .ref ra, .ref ra] [(ya2, ArrP A .char (chV [v_n1])), (ra, ObjP A "com/example/callweave/callweave/model/MethodRef" [("com/example/callweave/callweave/model/MethodRef", "owner", "Ljava/lang/String;", .null), ("com/example/callweave/callweave/model/MethodRef", "name", "Ljava/lang/String;", .null), ("com/example/callweave/callweave/model/MethodRef", "descriptor", "Ljava/lang/String;", .null)])] [ga2, ka2, ga1, ka1] 15 166
  refine Go.drop ?_
  show Go A B_law D _ 142 [.val (.int v_a), .val (.int v_b), .val (.int v_m), .val (.int v_o1), .val (.int v_n1), .val (.int v_p1), .val (.int v_r1), .val (.int v_o2), .val (.int v_n2), .val (.int v_p2), .val (.int v_r2), .unset, .unset, .unset, .unset] [.ref a2, .ref a1, .ref ra, .ref ra] [(ra, ObjP A "com/example/callweave/callweave/model/MethodRef" [("com/example/callweave/callweave/model/MethodRef", "owner", "Ljava/lang/String;", .null), ("com/example/callweave/callweave/model/MethodRef", "name", "Ljava/lang/String;", .null), ("com/example/callweave/callweave/model/MethodRef", "descriptor", "Ljava/lang/String;", .null)])] [ga2, ka2, ga1, ka1] 15 166
  replace Sa1 : StrL A [ga2, ka2, ga1, ka1] a1 [v_o1] := Sa1.cons.cons
  refine Go.new (B := B_law) td_law 80 (fs := [("java/lang/String", "value", "[B", .null), ("java/lang/String", "coder", "B", .int (0 : Int32))]) rfl (w_46 K) (w_12 K) (w_11 K) (own_layS (Or.inr (w_14 K)) rfl rfl (own_layS (Or.inr (w_15 K)) rfl rfl own_lay0)) (by decide) (by decide) ?_
  intro a3
  show Go A B_law D _ 145 [.val (.int v_a), .val (.int v_b), .val (.int v_m), .val (.int v_o1), .val (.int v_n1), .val (.int v_p1), .val (.int v_r1), .val (.int v_o2), .val (.int v_n2), .val (.int v_p2), .val (.int v_r2), .unset, .unset, .unset, .unset] [.ref a3, .ref a2, .ref a1, .ref ra, .ref ra] [(a3, ObjP A "java/lang/String" [("java/lang/String", "value", "[B", .null), ("java/lang/String", "coder", "B", .int (0 : Int32))]), (ra, ObjP A "com/example/callweave/callweave/model/MethodRef" [("com/example/callweave/callweave/model/MethodRef", "owner", "Ljava/lang/String;", .null), ("com/example/callweave/callweave/model/MethodRef", "name", "Ljava/lang/String;", .null), ("com/example/callweave/callweave/model/MethodRef", "descriptor", "Ljava/lang/String;", .null)])] [ga2, ka2, ga1, ka1] 16 170
  refine Go.run (B := B_law) td_law 81 2 (pc' := 147) (L' := [.val (.int v_a), .val (.int v_b), .val (.int v_m), .val (.int v_o1), .val (.int v_n1), .val (.int v_p1), .val (.int v_r1), .val (.int v_o2), .val (.int v_n2), .val (.int v_p2), .val (.int v_r2), .unset, .unset, .unset, .unset]) (S' := [.int (4 : Int32), .ref a3, .ref a3, .ref a2, .ref a1, .ref ra, .ref ra]) rfl ?_
  refine Go.newarray (B := B_law) td_law 83 (ty := .char) (cap := 4) (vs := (chV [0, 0, 0, 0])) rfl rfl (w_47 K) (by decide) (by decide) (by decide) (by decide) (by decide) rfl ?_
  intro ya3
  show Go A B_law D _ 149 [.val (.int v_a), .val (.int v_b), .val (.int v_m), .val (.int v_o1), .val (.int v_n1), .val (.int v_p1), .val (.int v_r1), .val (.int v_o2), .val (.int v_n2), .val (.int v_p2), .val (.int v_r2), .unset, .unset, .unset, .unset] [.ref ya3, .ref a3, .ref a3, .ref a2, .ref a1, .ref ra, .ref ra] [(ya3, ArrP A .char (chV [0, 0, 0, 0])), (a3, ObjP A "java/lang/String" [("java/lang/String", "value", "[B", .null), ("java/lang/String", "coder", "B", .int (0 : Int32))]), (ra, ObjP A "com/example/callweave/callweave/model/MethodRef" [("com/example/callweave/callweave/model/MethodRef", "owner", "Ljava/lang/String;", .null), ("com/example/callweave/callweave/model/MethodRef", "name", "Ljava/lang/String;", .null), ("com/example/callweave/callweave/model/MethodRef", "descriptor", "Ljava/lang/String;", .null)])] [ga2, ka2, ga1, ka1] 17 174
  refine Go.run (B := B_law) td_law 84 3 (pc' := 153) (L' := [.val (.int v_a), .val (.int v_b), .val (.int v_m), .val (.int v_o1), .val (.int v_n1), .val (.int v_p1), .val (.int v_r1), .val (.int v_o2), .val (.int v_n2), .val (.int v_p2), .val (.int v_r2), .unset, .unset, .unset, .unset]) (S' := [.int (40 : Int32), .int (0 : Int32), .ref ya3, .ref ya3, .ref a3, .ref a3, .ref a2, .ref a1, .ref ra, .ref ra]) rfl ?_
  refine Go.castore (B := B_law) td_law 87 (vs' := (chV [40, 0, 0, 0])) rfl (own_inB 4 rfl (by decide)) (by rw [show chr16 (40 : Int32) = 40 by decide]; rfl) ?_
  refine Go.run (B := B_law) td_law 88 3 (pc' := 158) (L' := [.val (.int v_a), .val (.int v_b), .val (.int v_m), .val (.int v_o1), .val (.int v_n1), .val (.int v_p1), .val (.int v_r1), .val (.int v_o2), .val (.int v_n2), .val (.int v_p2), .val (.int v_r2), .unset, .unset, .unset, .unset]) (S' := [.int v_p1, .int (1 : Int32), .ref ya3, .ref ya3, .ref a3, .ref a3, .ref a2, .ref a1, .ref ra, .ref ra]) rfl ?_
  refine Go.castore (B := B_law) td_law 91 (vs' := (chV [40, v_p1, 0, 0])) rfl (own_inB 4 rfl (by decide)) (by rw [chr16_id ((h_p1.lat).imp id (fun h => by omega))]; rfl) ?_
  refine Go.run (B := B_law) td_law 92 3 (pc' := 163) (L' := [.val (.int v_a), .val (.int v_b), .val (.int v_m), .val (.int v_o1), .val (.int v_n1), .val (.int v_p1), .val (.int v_r1), .val (.int v_o2), .val (.int v_n2), .val (.int v_p2), .val (.int v_r2), .unset, .unset, .unset, .unset]) (S' := [.int (41 : Int32), .int (2 : Int32), .ref ya3, .ref ya3, .ref a3, .ref a3, .ref a2, .ref a1, .ref ra, .ref ra]) rfl ?_
  refine Go.castore (B := B_law) td_law 95 (vs' := (chV [40, v_p1, 41, 0])) rfl (own_inB 4 rfl (by decide)) (by rw [show chr16 (41 : Int32) = 41 by decide]; rfl) ?_
  refine Go.run (B := B_law) td_law 96 3 (pc' := 168) (L' := [.val (.int v_a), .val (.int v_b), .val (.int v_m), .val (.int v_o1), .val (.int v_n1), .val (.int v_p1), .val (.int v_r1), .val (.int v_o2), .val (.int v_n2), .val (.int v_p2), .val (.int v_r2), .unset, .unset, .unset, .unset]) (S' := [.int v_r1, .int (3 : Int32), .ref ya3, .ref ya3, .ref a3, .ref a3, .ref a2, .ref a1, .ref ra, .ref ra]) rfl ?_
  refine Go.castore (B := B_law) td_law 99 (vs' := (chV [40, v_p1, 41, v_r1])) rfl (own_inB 4 rfl (by decide)) (by rw [chr16_id ((h_r1.lat).imp id (fun h => by omega))]; rfl) ?_
  refine Go.front 1 (F' := [(a3, ObjP A "java/lang/String" [("java/lang/String", "value", "[B", .null), ("java/lang/String", "coder", "B", .int (0 : Int32))]), (ya3, ArrP A .char (chV [40, v_p1, 41, v_r1])), (ra, ObjP A "com/example/callweave/callweave/model/MethodRef" [("com/example/callweave/callweave/model/MethodRef", "owner", "Ljava/lang/String;", .null), ("com/example/callweave/callweave/model/MethodRef", "name", "Ljava/lang/String;", .null), ("com/example/callweave/callweave/model/MethodRef", "descriptor", "Ljava/lang/String;", .null)])]) rfl rfl ?_
  refine Go.callN (B := B_law) td_law 100 (B' := B_sin) (a := a3) (argsL := [.ref ya3]) (rest := [.ref a3, .ref a2, .ref a1, .ref ra, .ref ra]) (W := 5) rfl (sinL_met K (cs := [40, v_p1, 41, v_r1]) (lat4 h_p1 h_r1) (own_le rfl) (show ¬ nI 4 = 0 by decide) (Or.inl (List.mem_of_getElem? (i := 0) rfl))) rfl rfl (w_48 K) (w_49 K) (w_11 K) (w_50 K) (by decide) pd_sin rfl rfl rfl rfl (Nat.le_of_eq rfl) (by decide) (by decide) (by decide) (by decide) ?_
  rintro _ _ _ ⟨rfl, rfl, ga3, ka3, rfl, Sa3⟩
  show Go A B_law D _ 172 [.val (.int v_a), .val (.int v_b), .val (.int v_m), .val (.int v_o1), .val (.int v_n1), .val (.int v_p1), .val (.int v_r1), .val (.int v_o2), .val (.int v_n2), .val (.int v_p2), .val (.int v_r2), .unset, .unset, .unset, .unset] [.ref a3, .ref a2, .ref a1, .ref ra, .ref ra] [(ya3, ArrP A .char (chV [40, v_p1, 41, v_r1])), (ra, ObjP A "com/example/callweave/callweave/model/MethodRef" [("com/example/callweave/callweave/model/MethodRef", "owner", "Ljava/lang/String;", .null), ("com/example/callweave/callweave/model/MethodRef", "name", "Ljava/lang/String;", .null), ("com/example/callweave/callweave/model/MethodRef", "descriptor", "Ljava/lang/String;", .null)])] [ga3, ka3, ga2, ka2, ga1, ka1] 18 178
  refine Go.drop ?_
  show Go A B_law D _ 172 [.val (.int v_a), .val (.int v_b), .val (.int v_m), .val (.int v_o1), .val (.int v_n1), .val (.int v_p1), .val (.int v_r1), .val (.int v_o2), .val (.int v_n2), .val (.int v_p2), .val (.int v_r2), .unset, .unset, .unset, .unset] [.ref a3, .ref a2, .ref a1, .ref ra, .ref ra] [(ra, ObjP A "com/example/callweave/callweave/model/MethodRef" [("com/example/callweave/callweave/model/MethodRef", "owner", "Ljava/lang/String;", .null), ("com/example/callweave/callweave/model/MethodRef", "name", "Ljava/lang/String;", .null), ("com/example/callweave/callweave/model/MethodRef", "descriptor", "Ljava/lang/String;", .null)])] [ga3, ka3, ga2, ka2, ga1, ka1] 18 178
  replace Sa1 : StrL A [ga3, ka3, ga2, ka2, ga1, ka1] a1 [v_o1] := Sa1.cons.cons
  replace Sa2 : StrL A [ga3, ka3, ga2, ka2, ga1, ka1] a2 [v_n1] := Sa2.cons.cons
  refine Go.callN (B := B_law) td_law 101 (B' := B_mr3) (a := ra) (argsL := [.ref a1, .ref a2, .ref a3]) (rest := [.ref ra]) (W := 1) rfl (mr3_met K h_o1 h_n1 h_p1 h_r1 Sa1 Sa2 Sa3) rfl rfl (w_68 K) (w_69 K) (w_45 K) (w_70 K) (by decide) pd_mr3 rfl rfl rfl rfl (Nat.le_of_eq rfl) (by decide) (by decide) (by decide) (by decide) ?_
  rintro _ _ _ ⟨rfl, rfl, rfl⟩
  show Go A B_law D _ 175 [.val (.int v_a), .val (.int v_b), .val (.int v_m), .val (.int v_o1), .val (.int v_n1), .val (.int v_p1), .val (.int v_r1), .val (.int v_o2), .val (.int v_n2), .val (.int v_p2), .val (.int v_r2), .unset, .unset, .unset, .unset] [.ref ra] [(ra, ObjP A "com/example/callweave/callweave/model/MethodRef" [("com/example/callweave/callweave/model/MethodRef", "owner", "Ljava/lang/String;", .ref a1), ("com/example/callweave/callweave/model/MethodRef", "name", "Ljava/lang/String;", .ref a2), ("com/example/callweave/callweave/model/MethodRef", "descriptor", "Ljava/lang/String;", .ref a3)])] [ga3, ka3, ga2, ka2, ga1, ka1] 36 594
  refine Go.run (B := B_law) td_law 102 1 (pc' := 177) (L' := [.val (.int v_a), .val (.int v_b), .val (.int v_m), .val (.int v_o1), .val (.int v_n1), .val (.int v_p1), .val (.int v_r1), .val (.int v_o2), .val (.int v_n2), .val (.int v_p2), .val (.int v_r2), .val (.ref ra), .unset, .unset, .unset]) (S' := []) rfl ?_
  refine Go.freeze ?_
  replace Sa1 : StrL A [(ra, ObjP A "com/example/callweave/callweave/model/MethodRef" [("com/example/callweave/callweave/model/MethodRef", "owner", "Ljava/lang/String;", .ref a1), ("com/example/callweave/callweave/model/MethodRef", "name", "Ljava/lang/String;", .ref a2), ("com/example/callweave/callweave/model/MethodRef", "descriptor", "Ljava/lang/String;", .ref a3)]), ga3, ka3, ga2, ka2, ga1, ka1] a1 [v_o1] := Sa1.cons
  replace Sa2 : StrL A [(ra, ObjP A "com/example/callweave/callweave/model/MethodRef" [("com/example/callweave/callweave/model/MethodRef", "owner", "Ljava/lang/String;", .ref a1), ("com/example/callweave/callweave/model/MethodRef", "name", "Ljava/lang/String;", .ref a2), ("com/example/callweave/callweave/model/MethodRef", "descriptor", "Ljava/lang/String;", .ref a3)]), ga3, ka3, ga2, ka2, ga1, ka1] a2 [v_n1] := Sa2.cons
  replace Sa3 : StrL A [(ra, ObjP A "com/example/callweave/callweave/model/MethodRef" [("com/example/callweave/callweave/model/MethodRef", "owner", "Ljava/lang/String;", .ref a1), ("com/example/callweave/callweave/model/MethodRef", "name", "Ljava/lang/String;", .ref a2), ("com/example/callweave/callweave/model/MethodRef", "descriptor", "Ljava/lang/String;", .ref a3)]), ga3, ka3, ga2, ka2, ga1, ka1] a3 [40, v_p1, 41, v_r1] := Sa3.cons
  refine Go.new (B := B_law) td_law 103 (fs := [("com/example/callweave/callweave/model/MethodRef", "owner", "Ljava/lang/String;", .null), ("com/example/callweave/callweave/model/MethodRef", "name", "Ljava/lang/String;", .null), ("com/example/callweave/callweave/model/MethodRef", "descriptor", "Ljava/lang/String;", .null)]) rfl (w_43 K) (w_44 K) (w_45 K) (own_layS (Or.inr (w_160 K)) rfl rfl (own_layS (Or.inr (w_162 K)) rfl rfl (own_layS (Or.inr (w_164 K)) rfl rfl own_lay0))) (by decide) (by decide) ?_
  intro rb
  show Go A B_law D _ 180 [.val (.int v_a), .val (.int v_b), .val (.int v_m), .val (.int v_o1), .val (.int v_n1), .val (.int v_p1), .val (.int v_r1), .val (.int v_o2), .val (.int v_n2), .val (.int v_p2), .val (.int v_r2), .val (.ref ra), .unset, .unset, .unset] [.ref rb] [(rb, ObjP A "com/example/callweave/callweave/model/MethodRef" [("com/example/callweave/callweave/model/MethodRef", "owner", "Ljava/lang/String;", .null), ("com/example/callweave/callweave/model/MethodRef", "name", "Ljava/lang/String;", .null), ("com/example/callweave/callweave/model/MethodRef", "descriptor", "Ljava/lang/String;", .null)])] [(ra, ObjP A "com/example/callweave/callweave/model/MethodRef" [("com/example/callweave/callweave/model/MethodRef", "owner", "Ljava/lang/String;", .ref a1), ("com/example/callweave/callweave/model/MethodRef", "name", "Ljava/lang/String;", .ref a2), ("com/example/callweave/callweave/model/MethodRef", "descriptor", "Ljava/lang/String;", .ref a3)]), ga3, ka3, ga2, ka2, ga1, ka1] 37 598
  refine Go.run (B := B_law) td_law 104 1 (pc' := 181) (L' := [.val (.int v_a), .val (.int v_b), .val (.int v_m), .val (.int v_o1), .val (.int v_n1), .val (.int v_p1), .val (.int v_r1), .val (.int v_o2), .val (.int v_n2), .val (.int v_p2), .val (.int v_r2), .val (.ref ra), .unset, .unset, .unset]) (S' := [.ref rb, .ref rb]) rfl ?_
  refine Go.new (B := B_law) td_law 105 (fs := [("java/lang/String", "value", "[B", .null), ("java/lang/String", "coder", "B", .int (0 : Int32))]) rfl (w_46 K) (w_12 K) (w_11 K) (own_layS (Or.inr (w_14 K)) rfl rfl (own_layS (Or.inr (w_15 K)) rfl rfl own_lay0)) (by decide) (by decide) ?_
  intro b1
  show Go A B_law D _ 184 [.val (.int v_a), .val (.int v_b), .val (.int v_m), .val (.int v_o1), .val (.int v_n1), .val (.int v_p1), .val (.int v_r1), .val (.int v_o2), .val (.int v_n2), .val (.int v_p2), .val (.int v_r2), .val (.ref ra), .unset, .unset, .unset] [.ref b1, .ref rb, .ref rb] [(b1, ObjP A "java/lang/String" [("java/lang/String", "value", "[B", .null), ("java/lang/String", "coder", "B", .int (0 : Int32))]), (rb, ObjP A "com/example/callweave/callweave/model/MethodRef" [("com/example/callweave/callweave/model/MethodRef", "owner", "Ljava/lang/String;", .null), ("com/example/callweave/callweave/model/MethodRef", "name", "Ljava/lang/String;", .null), ("com/example/callweave/callweave/model/MethodRef", "descriptor", "Ljava/lang/String;", .null)])] [(ra, ObjP A "com/example/callweave/callweave/model/MethodRef" [("com/example/callweave/callweave/model/MethodRef", "owner", "Ljava/lang/String;", .ref a1), ("com/example/callweave/callweave/model/MethodRef", "name", "Ljava/lang/String;", .ref a2), ("com/example/callweave/callweave/model/MethodRef", "descriptor", "Ljava/lang/String;", .ref a3)]), ga3, ka3, ga2, ka2, ga1, ka1] 38 602
  refine Go.run (B := B_law) td_law 106 2 (pc' := 186) (L' := [.val (.int v_a), .val (.int v_b), .val (.int v_m), .val (.int v_o1), .val (.int v_n1), .val (.int v_p1), .val (.int v_r1), .val (.int v_o2), .val (.int v_n2), .val (.int v_p2), .val (.int v_r2), .val (.ref ra), .unset, .unset, .unset]) (S' := [.int (1 : Int32), .ref b1, .ref b1, .ref rb, .ref rb]) rfl ?_
  refine Go.newarray (B := B_law) td_law 108 (ty := .char) (cap := 1) (vs := (chV [0])) rfl rfl (w_47 K) (by decide) (by decide) (by decide) (by decide) (by decide) rfl ?_
  intro yb1
  show Go A B_law D _ 188 [.val (.int v_a), .val (.int v_b), .val (.int v_m), .val (.int v_o1), .val (.int v_n1), .val (.int v_p1), .val (.int v_r1), .val (.int v_o2), .val (.int v_n2), .val (.int v_p2), .val (.int v_r2), .val (.ref ra), .unset, .unset, .unset] [.ref yb1, .ref b1, .ref b1, .ref rb, .ref rb] [(yb1, ArrP A .char (chV [0])), (b1, ObjP A "java/lang/String" [("java/lang/String", "value", "[B", .null), ("java/lang/String", "coder", "B", .int (0 : Int32))]), (rb, ObjP A "com/example/callweave/callweave/model/MethodRef" [("com/example/callweave/callweave/model/MethodRef", "owner", "Ljava/lang/String;", .null), ("com/example/callweave/callweave/model/MethodRef", "name", "Ljava/lang/String;", .null), ("com/example/callweave/callweave/model/MethodRef", "descriptor", "Ljava/lang/String;", .null)])] [(ra, ObjP A "com/example/callweave/callweave/model/MethodRef" [("com/example/callweave/callweave/model/MethodRef", "owner", "Ljava/lang/String;", .ref a1), ("com/example/callweave/callweave/model/MethodRef", "name", "Ljava/lang/String;", .ref a2), ("com/example/callweave/callweave/model/MethodRef", "descriptor", "Ljava/lang/String;", .ref a3)]), ga3, ka3, ga2, ka2, ga1, ka1] 39 603
  refine Go.run (B := B_law) td_law 109 3 (pc' := 192) (L' := [.val (.int v_a), .val (.int v_b), .val (.int v_m), .val (.int v_o1), .val (.int v_n1), .val (.int v_p1), .val (.int v_r1), .val (.int v_o2), .val (.int v_n2), .val (.int v_p2), .val (.int v_r2), .val (.ref ra), .unset, .unset, .unset]) (S' := [.int v_o2, .int (0 : Int32), .ref yb1, .ref yb1, .ref b1, .ref b1, .ref rb, .ref rb]) rfl ?_
  refine Go.castore (B := B_law) td_law 112 (vs' := (chV [v_o2])) rfl (own_inB 1 rfl (by decide)) (by rw [chr16_id ((h_o2.1).imp id (fun h => by omega))]; rfl) ?_
  refine Go.front 1 (F' := [(b1, ObjP A "java/lang/String" [("java/lang/String", "value", "[B", .null), ("java/lang/String", "coder", "B", .int (0 : Int32))]), (yb1, ArrP A .char (chV [v_o2])), (rb, ObjP A "com/example/callweave/callweave/model/MethodRef" [("com/example/callweave/callweave/model/MethodRef", "owner", "Ljava/lang/String;", .null), ("com/example/callweave/callweave/model/MethodRef", "name", "Ljava/lang/String;", .null), ("com/example/callweave/callweave/model/MethodRef", "descriptor", "Ljava/lang/String;", .null)])]) rfl rfl ?_
  refine Go.callN (B := B_law) td_law 113 (B' := B_sin) (a := b1) (argsL := [.ref yb1]) (rest := [.ref b1, .ref rb, .ref rb]) (W := 3) rfl (sinL_met K (cs := [v_o2]) (lat1 h_o2.1) (own_le rfl) (show ¬ nI 1 = 0 by decide) (Or.inl (List.mem_of_getElem? (i := 0) rfl))) rfl rfl (w_48 K) (w_49 K) (w_11 K) (w_50 K) (by decide) pd_sin rfl rfl rfl rfl (Nat.le_of_eq rfl) (by decide) (by decide) (by decide) (by decide) ?_
  rintro _ _ _ ⟨rfl, rfl, gb1, kb1, rfl, Sb1⟩
  show Go A B_law D _ 196 [.val (.int v_a), .val (.int v_b), .val (.int v_m), .val (.int v_o1), .val (.int v_n1), .val (.int v_p1), .val (.int v_r1), .val (.int v_o2), .val (.int v_n2), .val (.int v_p2), .val (.int v_r2), .val (.ref ra), .unset, .unset, .unset] [.ref b1, .ref rb, .ref rb] [(yb1, ArrP A .char (chV [v_o2])), (rb, ObjP A "com/example/callweave/callweave/model/MethodRef" [("com/example/callweave/callweave/model/MethodRef", "owner", "Ljava/lang/String;", .null), ("com/example/callweave/callweave/model/MethodRef", "name", "Ljava/lang/String;", .null), ("com/example/callweave/callweave/model/MethodRef", "descriptor", "Ljava/lang/String;", .null)])] [gb1, kb1, (ra, ObjP A "com/example/callweave/callweave/model/MethodRef" [("com/example/callweave/callweave/model/MethodRef", "owner", "Ljava/lang/String;", .ref a1), ("com/example/callweave/callweave/model/MethodRef", "name", "Ljava/lang/String;", .ref a2), ("com/example/callweave/callweave/model/MethodRef", "descriptor", "Ljava/lang/String;", .ref a3)]), ga3, ka3, ga2, ka2, ga1, ka1] 40 607
  refine Go.drop ?_
  show Go A B_law D _ 196 [.val (.int v_a), .val (.int v_b), .val (.int v_m), .val (.int v_o1), .val (.int v_n1), .val (.int v_p1), .val (.int v_r1), .val (.int v_o2), .val (.int v_n2), .val (.int v_p2), .val (.int v_r2), .val (.ref ra), .unset, .unset, .unset] [.ref b1, .ref rb, .ref rb] [(rb, ObjP A "com/example/callweave/callweave/model/MethodRef" [("com/example/callweave/callweave/model/MethodRef", "owner", "Ljava/lang/String;", .null), ("com/example/callweave/callweave/model/MethodRef", "name", "Ljava/lang/String;", .null), ("com/example/callweave/callweave/model/MethodRef", "descriptor", "Ljava/lang/String;", .null)])] [gb1, kb1, (ra, ObjP A "com/example/callweave/callweave/model/MethodRef" [("com/example/callweave/callweave/model/MethodRef", "owner", "Ljava/lang/String;", .ref a1), ("com/example/callweave/callweave/model/MethodRef", "name", "Ljava/lang/String;", .ref a2), ("com/example/callweave/callweave/model/MethodRef", "descriptor", "Ljava/lang/String;", .ref a3)]), ga3, ka3, ga2, ka2, ga1, ka1] 40 607
  replace Sa1 : StrL A [gb1, kb1, (ra, ObjP A "com/example/callweave/callweave/model/MethodRef" [("com/example/callweave/callweave/model/MethodRef", "owner", "Ljava/lang/String;", .ref a1), ("com/example/callweave/callweave/model/MethodRef", "name", "Ljava/lang/String;", .ref a2), ("com/example/callweave/callweave/model/MethodRef", "descriptor", "Ljava/lang/String;", .ref a3)]), ga3, ka3, ga2, ka2, ga1, ka1] a1 [v_o1] := Sa1.cons.cons
  replace Sa2 : StrL A [gb1, kb1, (ra, ObjP A "com/example/callweave/callweave/model/MethodRef" [("com/example/callweave/callweave/model/MethodRef", "owner", "Ljava/lang/String;", .ref a1), ("com/example/callweave/callweave/model/MethodRef", "name", "Ljava/lang/String;", .ref a2), ("com/example/callweave/callweave/model/MethodRef", "descriptor", "Ljava/lang/String;", .ref a3)]), ga3, ka3, ga2, ka2, ga1, ka1] a2 [v_n1] := Sa2.cons.cons
  replace Sa3 : StrL A [gb1, kb1, (ra, ObjP A "com/example/callweave/callweave/model/MethodRef" [("com/example/callweave/callweave/model/MethodRef", "owner", "Ljava/lang/String;", .ref a1), ("com/example/callweave/callweave/model/MethodRef", "name", "Ljava/lang/String;", .ref a2), ("com/example/callweave/callweave/model/MethodRef", "descriptor", "Ljava/lang/String;", .ref a3)]), ga3, ka3, ga2, ka2, ga1, ka1] a3 [40, v_p1, 41, v_r1] := Sa3.cons.cons
  refine Go.new (B := B_law) td_law 114 (fs := [("java/lang/String", "value", "[B", .null), ("java/lang/String", "coder", "B", .int (0 : Int32))]) rfl (w_46 K) (w_12 K) (w_11 K) (own_layS (Or.inr (w_14 K)) rfl rfl (own_layS (Or.inr (w_15 K)) rfl rfl own_lay0)) (by decide) (by decide) ?_
  intro b2
  show Go A B_law D _ 199 [.val (.int v_a), .val (.int v_b), .val (.int v_m), .val (.int v_o1), .val (.int v_n1), .val (.int v_p1), .val (.int v_r1), .val (.int v_o2), .val (.int v_n2), .val (.int v_p2), .val (.int v_r2), .val (.ref ra), .unset, .unset, .unset] [.ref b2, .ref b1, .ref rb, .ref rb] [(b2, ObjP A "java/lang/String" [("java/lang/String", "value", "[B", .null), ("java/lang/String", "coder", "B", .int (0 : Int32))]), (rb, ObjP A "com/example/callweave/callweave/model/MethodRef" [("com/example/callweave/callweave/model/MethodRef", "owner", "Ljava/lang/String;", .null), ("com/example/callweave/callweave/model/MethodRef", "name", "Ljava/lang/String;", .null), ("com/example/callweave/callweave/model/MethodRef", "descriptor", "Ljava/lang/String;", .null)])] [gb1, kb1, (ra, ObjP A "com/example/callweave/callweave/model/MethodRef" [("com/example/callweave/callweave/model/MethodRef", "owner", "Ljava/lang/String;", .ref a1), ("com/example/callweave/callweave/model/MethodRef", "name", "Ljava/lang/String;", .ref a2), ("com/example/callweave/callweave/model/MethodRef", "descriptor", "Ljava/lang/String;", .ref a3)]), ga3, ka3, ga2, ka2, ga1, ka1] 41 611
  refine Go.run (B := B_law) td_law 115 2 (pc' := 201) (L' := [.val (.int v_a), .val (.int v_b), .val (.int v_m), .val (.int v_o1), .val (.int v_n1), .val (.int v_p1), .val (.int v_r1), .val (.int v_o2), .val (.int v_n2), .val (.int v_p2), .val (.int v_r2), .val (.ref ra), .unset, .unset, .unset]) (S' := [.int (1 : Int32), .ref b2, .ref b2, .ref b1, .ref rb, .ref rb]) rfl ?_
  refine Go.newarray (B := B_law) td_law 117 (ty := .char) (cap := 1) (vs := (chV [0])) rfl rfl (w_47 K) (by decide) (by decide) (by decide) (by decide) (by decide) rfl ?_
  intro yb2
  show Go A B_law D _ 203 [.val (.int v_a), .val (.int v_b), .val (.int v_m), .val (.int v_o1), .val (.int v_n1), .val (.int v_p1), .val (.int v_r1), .val (.int v_o2), .val (.int v_n2), .val (.int v_p2), .val (.int v_r2), .val (.ref ra), .unset, .unset, .unset] [.ref yb2, .ref b2, .ref b2, .ref b1, .ref rb, .ref rb] [(yb2, ArrP A .char (chV [0])), (b2, ObjP A "java/lang/String" [("java/lang/String", "value", "[B", .null), ("java/lang/String", "coder", "B", .int (0 : Int32))]), (rb, ObjP A "com/example/callweave/callweave/model/MethodRef" [("com/example/callweave/callweave/model/MethodRef", "owner", "Ljava/lang/String;", .null), ("com/example/callweave/callweave/model/MethodRef", "name", "Ljava/lang/String;", .null), ("com/example/callweave/callweave/model/MethodRef", "descriptor", "Ljava/lang/String;", .null)])] [gb1, kb1, (ra, ObjP A "com/example/callweave/callweave/model/MethodRef" [("com/example/callweave/callweave/model/MethodRef", "owner", "Ljava/lang/String;", .ref a1), ("com/example/callweave/callweave/model/MethodRef", "name", "Ljava/lang/String;", .ref a2), ("com/example/callweave/callweave/model/MethodRef", "descriptor", "Ljava/lang/String;", .ref a3)]), ga3, ka3, ga2, ka2, ga1, ka1] 42 612
  refine Go.run (B := B_law) td_law 118 3 (pc' := 207) (L' := [.val (.int v_a), .val (.int v_b), .val (.int v_m), .val (.int v_o1), .val (.int v_n1), .val (.int v_p1), .val (.int v_r1), .val (.int v_o2), .val (.int v_n2), .val (.int v_p2), .val (.int v_r2), .val (.ref ra), .unset, .unset, .unset]) (S' := [.int v_n2, .int (0 : Int32), .ref yb2, .ref yb2, .ref b2, .ref b2, .ref b1, .ref rb, .ref rb]) rfl ?_
  refine Go.castore (B := B_law) td_law 121 (vs' := (chV [v_n2])) rfl (own_inB 1 rfl (by decide)) (by rw [chr16_id ((h_n2.1.1).imp id (fun h => by omega))]; rfl) ?_
  refine Go.front 1 (F' := [(b2, ObjP A "java/lang/String" [("java/lang/String", "value", "[B", .null), ("java/lang/String", "coder", "B", .int (0 : Int32))]), (yb2, ArrP A .char (chV [v_n2])), (rb, ObjP A "com/example/callweave/callweave/model/MethodRef" [("com/example/callweave/callweave/model/MethodRef", "owner", "Ljava/lang/String;", .null), ("com/example/callweave/callweave/model/MethodRef", "name", "Ljava/lang/String;", .null), ("com/example/callweave/callweave/model/MethodRef", "descriptor", "Ljava/lang/String;", .null)])]) rfl rfl ?_
  refine Go.callN (B := B_law) td_law 122 (B' := B_sin) (a := b2) (argsL := [.ref yb2]) (rest := [.ref b2, .ref b1, .ref rb, .ref rb]) (W := 4) rfl (sinL_met K (cs := [v_n2]) (lat1 h_n2.1.1) (own_le rfl) (show ¬ nI 1 = 0 by decide) (Or.inl (List.mem_of_getElem? (i := 0) rfl))) rfl rfl (w_48 K) (w_49 K) (w_11 K) (w_50 K) (by decide) pd_sin rfl rfl rfl rfl (Nat.le_of_eq rfl) (by decide) (by decide) (by decide) (by decide) ?_
  rintro _ _ _ ⟨rfl, rfl, gb2, kb2, rfl, Sb2⟩
  show Go A B_law D _ 211 [.val (.int v_a), .val (.int v_b), .val (.int v_m), .val (.int v_o1), .val (.int v_n1), .val (.int v_p1), .val (.int v_r1), .val (.int v_o2), .val (.int v_n2), .val (.int v_p2), .val (.int v_r2), .val (.ref ra), .unset, .unset, .unset] [.ref b2, .ref b1, .ref rb, .ref rb] [(yb2, ArrP A .char (chV [v_n2])), (rb, ObjP A "com/example/callweave/callweave/model/MethodRef" [("com/example/callweave/callweave/model/MethodRef", "owner", "Ljava/lang/String;", .null), ("com/example/callweave/callweave/model/MethodRef", "name", "Ljava/lang/String;", .null), ("com/example/callweave/callweave/model/MethodRef", "descriptor", "Ljava/lang/String;", .null)])] [gb2, kb2, gb1, kb1, (ra, ObjP A "com/example/callweave/callweave/model/MethodRef" [("com/example/callweave/callweave/model/MethodRef", "owner", "Ljava/lang/String;", .ref a1), ("com/example/callweave/callweave/model/MethodRef", "name", "Ljava/lang/String;", .ref a2), ("com/example/callweave/callweave/model/MethodRef", "descriptor", "Ljava/lang/String;", .ref a3)]), ga3, ka3, ga2, ka2, ga1, ka1] 43 616
  refine Go.drop ?_
  show Go A B_law D _ 211 [.val (.int v_a), .val (.int v_b), .val (.int v_m), .val (.int v_o1), .val (.int v_n1), .val (.int v_p1), .val (.int v_r1), .val (.int v_o2), .val (.int v_n2), .val (.int v_p2), .val (.int v_r2), .val (.ref ra), .unset, .unset, .unset] [.ref b2, .ref b1, .ref rb, .ref rb] [(rb, ObjP A "com/example/callweave/callweave/model/MethodRef" [("com/example/callweave/callweave/model/MethodRef", "owner", "Ljava/lang/String;", .null), ("com/example/callweave/callweave/model/MethodRef", "name", "Ljava/lang/String;", .null), ("com/example/callweave/callweave/model/MethodRef", "descriptor", "Ljava/lang/String;", .null)])] [gb2, kb2, gb1, kb1, (ra, ObjP A "com/example/callweave/callweave/model/MethodRef" [("com/example/callweave/callweave/model/MethodRef", "owner", "Ljava/lang/String;", .ref a1), ("com/example/callweave/callweave/model/MethodRef", "name", "Ljava/lang/String;", .ref a2), ("com/example/callweave/callweave/model/MethodRef", "descriptor", "Ljava/lang/String;", .ref a3)]), ga3, ka3, ga2, ka2, ga1, ka1] 43 616
  replace Sa1 : StrL A [gb2, kb2, gb1, kb1, (ra, ObjP A "com/example/callweave/callweave/model/MethodRef" [("com/example/callweave/callweave/model/MethodRef", "owner", "Ljava/lang/String;", .ref a1), ("com/example/callweave/callweave/model/MethodRef", "name", "Ljava/lang/String;", .ref a2), ("com/example/callweave/callweave/model/MethodRef", "descriptor", "Ljava/lang/String;", .ref a3)]), ga3, ka3, ga2, ka2, ga1, ka1] a1 [v_o1] := Sa1.cons.cons
  replace Sa2 : StrL A [gb2, kb2, gb1, kb1, (ra, ObjP A "com/example/callweave/callweave/model/MethodRef" [("com/example/callweave/callweave/model/MethodRef", "owner", "Ljava/lang/String;", .ref a1), ("com/example/callweave/callweave/model/MethodRef", "name", "Ljava/lang/String;", .ref a2), ("com/example/callweave/callweave/model/MethodRef", "descriptor", "Ljava/lang/String;", .ref a3)]), ga3, ka3, ga2, ka2, ga1, ka1] a2 [v_n1] := Sa2.cons.cons
  replace Sa3 : StrL A [gb2, kb2, gb1, kb1, (ra, ObjP A "com/example/callweave/callweave/model/MethodRef" [("com/example/callweave/callweave/model/MethodRef", "owner", "Ljava/lang/String;", .ref a1), ("com/example/callweave/callweave/model/MethodRef", "name", "Ljava/lang/String;", .ref a2), ("com/example/callweave/callweave/model/MethodRef", "descriptor", "Ljava/lang/String;", .ref a3)]), ga3, ka3, ga2, ka2, ga1, ka1] a3 [40, v_p1, 41, v_r1] := Sa3.cons.cons
  replace Sb1 : StrL A [gb2, kb2, gb1, kb1, (ra, ObjP A "com/example/callweave/callweave/model/MethodRef" [("com/example/callweave/callweave/model/MethodRef", "owner", "Ljava/lang/String;", .ref a1), ("com/example/callweave/callweave/model/MethodRef", "name", "Ljava/lang/String;", .ref a2), ("com/example/callweave/callweave/model/MethodRef", "descriptor", "Ljava/lang/String;", .ref a3)]), ga3, ka3, ga2, ka2, ga1, ka1] b1 [v_o2] := Sb1.cons.cons
  refine Go.new (B := B_law) td_law 123 (fs := [("java/lang/String", "value", "[B", .null), ("java/lang/String", "coder", "B", .int (0 : Int32))]) rfl (w_46 K) (w_12 K) (w_11 K) (own_layS (Or.inr (w_14 K)) rfl rfl (own_layS (Or.inr (w_15 K)) rfl rfl own_lay0)) (by decide) (by decide) ?_
  intro b3
  show Go A B_law D _ 214 [.val (.int v_a), .val (.int v_b), .val (.int v_m), .val (.int v_o1), .val (.int v_n1), .val (.int v_p1), .val (.int v_r1), .val (.int v_o2), .val (.int v_n2), .val (.int v_p2), .val (.int v_r2), .val (.ref ra), .unset, .unset, .unset] [.ref b3, .ref b2, .ref b1, .ref rb, .ref rb] [(b3, ObjP A "java/lang/String" [("java/lang/String", "value", "[B", .null), ("java/lang/String", "coder", "B", .int (0 : Int32))]), (rb, ObjP A "com/example/callweave/callweave/model/MethodRef" [("com/example/callweave/callweave/model/MethodRef", "owner", "Ljava/lang/String;", .null), ("com/example/callweave/callweave/model/MethodRef", "name", "Ljava/lang/String;", .null), ("com/example/callweave/callweave/model/MethodRef", "descriptor", "Ljava/lang/String;", .null)])] [gb2, kb2, gb1, kb1, (ra, ObjP A "com/example/callweave/callweave/model/MethodRef" [("com/example/callweave/callweave/model/MethodRef", "owner", "Ljava/lang/String;", .ref a1), ("com/example/callweave/callweave/model/MethodRef", "name", "Ljava/lang/String;", .ref a2), ("com/example/callweave/callweave/model/MethodRef", "descriptor", "Ljava/lang/String;", .ref a3)]), ga3, ka3, ga2, ka2, ga1, ka1] 44 620
  refine Go.run (B := B_law) td_law 124 2 (pc' := 216) (L' := [.val (.int v_a), .val (.int v_b), .val (.int v_m), .val (.int v_o1), .val (.int v_n1), .val (.int v_p1), .val (.int v_r1), .val (.int v_o2), .val (.int v_n2), .val (.int v_p2), .val (.int v_r2), .val (.ref ra), .unset, .unset, .unset]) (S' := [.int (4 : Int32), .ref b3, .ref b3, .ref b2, .ref b1, .ref rb, .ref rb]) rfl ?_
  refine Go.newarray (B := B_law) td_law 126 (ty := .char) (cap := 4) (vs := (chV [0, 0, 0, 0])) rfl rfl (w_47 K) (by decide) (by decide) (by decide) (by decide) (by decide) rfl ?_
  intro yb3
  show Go A B_law D _ 218 [.val (.int v_a), .val (.int v_b), .val (.int v_m), .val (.int v_o1), .val (.int v_n1), .val (.int v_p1), .val (.int v_r1), .val (.int v_o2), .val (.int v_n2), .val (.int v_p2), .val (.int v_r2), .val (.ref ra), .unset, .unset, .unset] [.ref yb3, .ref b3, .ref b3, .ref b2, .ref b1, .ref rb, .ref rb] [(yb3, ArrP A .char (chV [0, 0, 0, 0])), (b3, ObjP A "java/lang/String" [("java/lang/String", "value", "[B", .null), ("java/lang/String", "coder", "B", .int (0 : Int32))]), (rb, ObjP A "com/example/callweave/callweave/model/MethodRef" [("com/example/callweave/callweave/model/MethodRef", "owner", "Ljava/lang/String;", .null), ("com/example/callweave/callweave/model/MethodRef", "name", "Ljava/lang/String;", .null), ("com/example/callweave/callweave/model/MethodRef", "descriptor", "Ljava/lang/String;", .null)])] [gb2, kb2, gb1, kb1, (ra, ObjP A "com/example/callweave/callweave/model/MethodRef" [("com/example/callweave/callweave/model/MethodRef", "owner", "Ljava/lang/String;", .ref a1), ("com/example/callweave/callweave/model/MethodRef", "name", "Ljava/lang/String;", .ref a2), ("com/example/callweave/callweave/model/MethodRef", "descriptor", "Ljava/lang/String;", .ref a3)]), ga3, ka3, ga2, ka2, ga1, ka1] 45 624
  refine Go.run (B := B_law) td_law 127 3 (pc' := 222) (L' := [.val (.int v_a), .val (.int v_b), .val (.int v_m), .val (.int v_o1), .val (.int v_n1), .val (.int v_p1), .val (.int v_r1), .val (.int v_o2), .val (.int v_n2), .val (.int v_p2), .val (.int v_r2), .val (.ref ra), .unset, .unset, .unset]) (S' := [.int (40 : Int32), .int (0 : Int32), .ref yb3, .ref yb3, .ref b3, .ref b3, .ref b2, .ref b1, .ref rb, .ref rb]) rfl ?_
  refine Go.castore (B := B_law) td_law 130 (vs' := (chV [40, 0, 0, 0])) rfl (own_inB 4 rfl (by decide)) (by rw [show chr16 (40 : Int32) = 40 by decide]; rfl) ?_
  refine Go.run (B := B_law) td_law 131 3 (pc' := 227) (L' := [.val (.int v_a), .val (.int v_b), .val (.int v_m), .val (.int v_o1), .val (.int v_n1), .val (.int v_p1), .val (.int v_r1), .val (.int v_o2), .val (.int v_n2), .val (.int v_p2), .val (.int v_r2), .val (.ref ra), .unset, .unset, .unset]) (S' := [.int v_p2, .int (1 : Int32), .ref yb3, .ref yb3, .ref b3, .ref b3, .ref b2, .ref b1, .ref rb, .ref rb]) rfl ?_
  refine Go.castore (B := B_law) td_law 134 (vs' := (chV [40, v_p2, 0, 0])) rfl (own_inB 4 rfl (by decide)) (by rw [chr16_id ((h_p2.lat).imp id (fun h => by omega))]; rfl) ?_
  refine Go.run (B := B_law) td_law 135 3 (pc' := 232) (L' := [.val (.int v_a), .val (.int v_b), .val (.int v_m), .val (.int v_o1), .val (.int v_n1), .val (.int v_p1), .val (.int v_r1), .val (.int v_o2), .val (.int v_n2), .val (.int v_p2), .val (.int v_r2), .val (.ref ra), .unset, .unset, .unset]) (S' := [.int (41 : Int32), .int (2 : Int32), .ref yb3, .ref yb3, .ref b3, .ref b3, .ref b2, .ref b1, .ref rb, .ref rb]) rfl ?_
  refine Go.castore (B := B_law) td_law 138 (vs' := (chV [40, v_p2, 41, 0])) rfl (own_inB 4 rfl (by decide)) (by rw [show chr16 (41 : Int32) = 41 by decide]; rfl) ?_
  refine Go.run (B := B_law) td_law 139 3 (pc' := 237) (L' := [.val (.int v_a), .val (.int v_b), .val (.int v_m), .val (.int v_o1), .val (.int v_n1), .val (.int v_p1), .val (.int v_r1), .val (.int v_o2), .val (.int v_n2), .val (.int v_p2), .val (.int v_r2), .val (.ref ra), .unset, .unset, .unset]) (S' := [.int v_r2, .int (3 : Int32), .ref yb3, .ref yb3, .ref b3, .ref b3, .ref b2, .ref b1, .ref rb, .ref rb]) rfl ?_
  refine Go.castore (B := B_law) td_law 142 (vs' := (chV [40, v_p2, 41, v_r2])) rfl (own_inB 4 rfl (by decide)) (by rw [chr16_id ((h_r2.lat).imp id (fun h => by omega))]; rfl) ?_
  refine Go.front 1 (F' := [(b3, ObjP A "java/lang/String" [("java/lang/String", "value", "[B", .null), ("java/lang/String", "coder", "B", .int (0 : Int32))]), (yb3, ArrP A .char (chV [40, v_p2, 41, v_r2])), (rb, ObjP A "com/example/callweave/callweave/model/MethodRef" [("com/example/callweave/callweave/model/MethodRef", "owner", "Ljava/lang/String;", .null), ("com/example/callweave/callweave/model/MethodRef", "name", "Ljava/lang/String;", .null), ("com/example/callweave/callweave/model/MethodRef", "descriptor", "Ljava/lang/String;", .null)])]) rfl rfl ?_
  refine Go.callN (B := B_law) td_law 143 (B' := B_sin) (a := b3) (argsL := [.ref yb3]) (rest := [.ref b3, .ref b2, .ref b1, .ref rb, .ref rb]) (W := 5) rfl (sinL_met K (cs := [40, v_p2, 41, v_r2]) (lat4 h_p2 h_r2) (own_le rfl) (show ¬ nI 4 = 0 by decide) (Or.inl (List.mem_of_getElem? (i := 0) rfl))) rfl rfl (w_48 K) (w_49 K) (w_11 K) (w_50 K) (by decide) pd_sin rfl rfl rfl rfl (Nat.le_of_eq rfl) (by decide) (by decide) (by decide) (by decide) ?_
  rintro _ _ _ ⟨rfl, rfl, gb3, kb3, rfl, Sb3⟩
  show Go A B_law D _ 241 [.val (.int v_a), .val (.int v_b), .val (.int v_m), .val (.int v_o1), .val (.int v_n1), .val (.int v_p1), .val (.int v_r1), .val (.int v_o2), .val (.int v_n2), .val (.int v_p2), .val (.int v_r2), .val (.ref ra), .unset, .unset, .unset] [.ref b3, .ref b2, .ref b1, .ref rb, .ref rb] [(yb3, ArrP A .char (chV [40, v_p2, 41, v_r2])), (rb, ObjP A "com/example/callweave/callweave/model/MethodRef" [("com/example/callweave/callweave/model/MethodRef", "owner", "Ljava/lang/String;", .null), ("com/example/callweave/callweave/model/MethodRef", "name", "Ljava/lang/String;", .null), ("com/example/callweave/callweave/model/MethodRef", "descriptor", "Ljava/lang/String;", .null)])] [gb3, kb3, gb2, kb2, gb1, kb1, (ra, ObjP A "com/example/callweave/callweave/model/MethodRef" [("com/example/callweave/callweave/model/MethodRef", "owner", "Ljava/lang/String;", .ref a1), ("com/example/callweave/callweave/model/MethodRef", "name", "Ljava/lang/String;", .ref a2), ("com/example/callweave/callweave/model/MethodRef", "descriptor", "Ljava/lang/String;", .ref a3)]), ga3, ka3, ga2, ka2, ga1, ka1] 46 628
  refine Go.drop ?_
  show Go A B_law D _ 241 [.val (.int v_a), .val (.int v_b), .val (.int v_m), .val (.int v_o1), .val (.int v_n1), .val (.int v_p1), .val (.int v_r1), .val (.int v_o2), .val (.int v_n2), .val (.int v_p2), .val (.int v_r2), .val (.ref ra), .unset, .unset, .unset] [.ref b3, .ref b2, .ref b1, .ref rb, .ref rb] [(rb, ObjP A "com/example/callweave/callweave/model/MethodRef" [("com/example/callweave/callweave/model/MethodRef", "owner", "Ljava/lang/String;", .null), ("com/example/callweave/callweave/model/MethodRef", "name", "Ljava/lang/String;", .null), ("com/example/callweave/callweave/model/MethodRef", "descriptor", "Ljava/lang/String;", .null)])] [gb3, kb3, gb2, kb2, gb1, kb1, (ra, ObjP A "com/example/callweave/callweave/model/MethodRef" [("com/example/callweave/callweave/model/MethodRef", "owner", "Ljava/lang/String;", .ref a1), ("com/example/callweave/callweave/model/MethodRef", "name", "Ljava/lang/String;", .ref a2), ("com/example/callweave/callweave/model/MethodRef", "descriptor", "Ljava/lang/String;", .ref a3)]), ga3, ka3, ga2, ka2, ga1, ka1] 46 628
  replace Sa1 : StrL A [gb3, kb3, gb2, kb2, gb1, kb1, (ra, ObjP A "com/example/callweave/callweave/model/MethodRef" [("com/example/callweave/callweave/model/MethodRef", "owner", "Ljava/lang/String;", .ref a1), ("com/example/callweave/callweave/model/MethodRef", "name", "Ljava/lang/String;", .ref a2), ("com/example/callweave/callweave/model/MethodRef", "descriptor", "Ljava/lang/String;", .ref a3)]), ga3, ka3, ga2, ka2, ga1, ka1] a1 [v_o1] := Sa1.cons.cons
  replace Sa2 : StrL A [gb3, kb3, gb2, kb2, gb1, kb1, (ra, ObjP A "com/example/callweave/callweave/model/MethodRef" [("com/example/callweave/callweave/model/MethodRef", "owner", "Ljava/lang/String;", .ref a1), ("com/example/callweave/callweave/model/MethodRef", "name", "Ljava/lang/String;", .ref a2), ("com/example/callweave/callweave/model/MethodRef", "descriptor", "Ljava/lang/String;", .ref a3)]), ga3, ka3, ga2, ka2, ga1, ka1] a2 [v_n1] := Sa2.cons.cons
  replace Sa3 : StrL A [gb3, kb3, gb2, kb2, gb1, kb1, (ra, ObjP A "com/example/callweave/callweave/model/MethodRef" [("com/example/callweave/callweave/model/MethodRef", "owner", "Ljava/lang/String;", .ref a1), ("com/example/callweave/callweave/model/MethodRef", "name", "Ljava/lang/String;", .ref a2), ("com/example/callweave/callweave/model/MethodRef", "descriptor", "Ljava/lang/String;", .ref a3)]), ga3, ka3, ga2, ka2, ga1, ka1] a3 [40, v_p1, 41, v_r1] := Sa3.cons.cons
  replace Sb1 : StrL A [gb3, kb3, gb2, kb2, gb1, kb1, (ra, ObjP A "com/example/callweave/callweave/model/MethodRef" [("com/example/callweave/callweave/model/MethodRef", "owner", "Ljava/lang/String;", .ref a1), ("com/example/callweave/callweave/model/MethodRef", "name", "Ljava/lang/String;", .ref a2), ("com/example/callweave/callweave/model/MethodRef", "descriptor", "Ljava/lang/String;", .ref a3)]), ga3, ka3, ga2, ka2, ga1, ka1] b1 [v_o2] := Sb1.cons.cons
  replace Sb2 : StrL A [gb3, kb3, gb2, kb2, gb1, kb1, (ra, ObjP A "com/example/callweave/callweave/model/MethodRef" [("com/example/callweave/callweave/model/MethodRef", "owner", "Ljava/lang/String;", .ref a1), ("com/example/callweave/callweave/model/MethodRef", "name", "Ljava/lang/String;", .ref a2), ("com/example/callweave/callweave/model/MethodRef", "descriptor", "Ljava/lang/String;", .ref a3)]), ga3, ka3, ga2, ka2, ga1, ka1] b2 [v_n2] := Sb2.cons.cons
  refine Go.callN (B := B_law) td_law 144 (B' := B_mr3) (a := rb) (argsL := [.ref b1, .ref b2, .ref b3]) (rest := [.ref rb]) (W := 1) rfl (mr3_met K h_o2 h_n2 h_p2 h_r2 Sb1 Sb2 Sb3) rfl rfl (w_68 K) (w_69 K) (w_45 K) (w_70 K) (by decide) pd_mr3 rfl rfl rfl rfl (Nat.le_of_eq rfl) (by decide) (by decide) (by decide) (by decide) ?_
  rintro _ _ _ ⟨rfl, rfl, rfl⟩
  show Go A B_law D _ 244 [.val (.int v_a), .val (.int v_b), .val (.int v_m), .val (.int v_o1), .val (.int v_n1), .val (.int v_p1), .val (.int v_r1), .val (.int v_o2), .val (.int v_n2), .val (.int v_p2), .val (.int v_r2), .val (.ref ra), .unset, .unset, .unset] [.ref rb] [(rb, ObjP A "com/example/callweave/callweave/model/MethodRef" [("com/example/callweave/callweave/model/MethodRef", "owner", "Ljava/lang/String;", .ref b1), ("com/example/callweave/callweave/model/MethodRef", "name", "Ljava/lang/String;", .ref b2), ("com/example/callweave/callweave/model/MethodRef", "descriptor", "Ljava/lang/String;", .ref b3)])] [gb3, kb3, gb2, kb2, gb1, kb1, (ra, ObjP A "com/example/callweave/callweave/model/MethodRef" [("com/example/callweave/callweave/model/MethodRef", "owner", "Ljava/lang/String;", .ref a1), ("com/example/callweave/callweave/model/MethodRef", "name", "Ljava/lang/String;", .ref a2), ("com/example/callweave/callweave/model/MethodRef", "descriptor", "Ljava/lang/String;", .ref a3)]), ga3, ka3, ga2, ka2, ga1, ka1] 64 1044
  refine Go.run (B := B_law) td_law 145 1 (pc' := 246) (L' := [.val (.int v_a), .val (.int v_b), .val (.int v_m), .val (.int v_o1), .val (.int v_n1), .val (.int v_p1), .val (.int v_r1), .val (.int v_o2), .val (.int v_n2), .val (.int v_p2), .val (.int v_r2), .val (.ref ra), .val (.ref rb), .unset, .unset]) (S' := []) rfl ?_
  refine Go.freeze ?_
  replace Sa1 : StrL A [(rb, ObjP A "com/example/callweave/callweave/model/MethodRef" [("com/example/callweave/callweave/model/MethodRef", "owner", "Ljava/lang/String;", .ref b1), ("com/example/callweave/callweave/model/MethodRef", "name", "Ljava/lang/String;", .ref b2), ("com/example/callweave/callweave/model/MethodRef", "descriptor", "Ljava/lang/String;", .ref b3)]), gb3, kb3, gb2, kb2, gb1, kb1, (ra, ObjP A "com/example/callweave/callweave/model/MethodRef" [("com/example/callweave/callweave/model/MethodRef", "owner", "Ljava/lang/String;", .ref a1), ("com/example/callweave/callweave/model/MethodRef", "name", "Ljava/lang/String;", .ref a2), ("com/example/callweave/callweave/model/MethodRef", "descriptor", "Ljava/lang/String;", .ref a3)]), ga3, ka3, ga2, ka2, ga1, ka1] a1 [v_o1] := Sa1.cons
  replace Sa2 : StrL A [(rb, ObjP A "com/example/callweave/callweave/model/MethodRef" [("com/example/callweave/callweave/model/MethodRef", "owner", "Ljava/lang/String;", .ref b1), ("com/example/callweave/callweave/model/MethodRef", "name", "Ljava/lang/String;", .ref b2), ("com/example/callweave/callweave/model/MethodRef", "descriptor", "Ljava/lang/String;", .ref b3)]), gb3, kb3, gb2, kb2, gb1, kb1, (ra, ObjP A "com/example/callweave/callweave/model/MethodRef" [("com/example/callweave/callweave/model/MethodRef", "owner", "Ljava/lang/String;", .ref a1), ("com/example/callweave/callweave/model/MethodRef", "name", "Ljava/lang/String;", .ref a2), ("com/example/callweave/callweave/model/MethodRef", "descriptor", "Ljava/lang/String;", .ref a3)]), ga3, ka3, ga2, ka2, ga1, ka1] a2 [v_n1] := Sa2.cons
  replace Sa3 : StrL A [(rb, ObjP A "com/example/callweave/callweave/model/MethodRef" [("com/example/callweave/callweave/model/MethodRef", "owner", "Ljava/lang/String;", .ref b1), ("com/example/callweave/callweave/model/MethodRef", "name", "Ljava/lang/String;", .ref b2), ("com/example/callweave/callweave/model/MethodRef", "descriptor", "Ljava/lang/String;", .ref b3)]), gb3, kb3, gb2, kb2, gb1, kb1, (ra, ObjP A "com/example/callweave/callweave/model/MethodRef" [("com/example/callweave/callweave/model/MethodRef", "owner", "Ljava/lang/String;", .ref a1), ("com/example/callweave/callweave/model/MethodRef", "name", "Ljava/lang/String;", .ref a2), ("com/example/callweave/callweave/model/MethodRef", "descriptor", "Ljava/lang/String;", .ref a3)]), ga3, ka3, ga2, ka2, ga1, ka1] a3 [40, v_p1, 41, v_r1] := Sa3.cons
  replace Sb1 : StrL A [(rb, ObjP A "com/example/callweave/callweave/model/MethodRef" [("com/example/callweave/callweave/model/MethodRef", "owner", "Ljava/lang/String;", .ref b1), ("com/example/callweave/callweave/model/MethodRef", "name", "Ljava/lang/String;", .ref b2), ("com/example/callweave/callweave/model/MethodRef", "descriptor", "Ljava/lang/String;", .ref b3)]), gb3, kb3, gb2, kb2, gb1, kb1, (ra, ObjP A "com/example/callweave/callweave/model/MethodRef" [("com/example/callweave/callweave/model/MethodRef", "owner", "Ljava/lang/String;", .ref a1), ("com/example/callweave/callweave/model/MethodRef", "name", "Ljava/lang/String;", .ref a2), ("com/example/callweave/callweave/model/MethodRef", "descriptor", "Ljava/lang/String;", .ref a3)]), ga3, ka3, ga2, ka2, ga1, ka1] b1 [v_o2] := Sb1.cons
  replace Sb2 : StrL A [(rb, ObjP A "com/example/callweave/callweave/model/MethodRef" [("com/example/callweave/callweave/model/MethodRef", "owner", "Ljava/lang/String;", .ref b1), ("com/example/callweave/callweave/model/MethodRef", "name", "Ljava/lang/String;", .ref b2), ("com/example/callweave/callweave/model/MethodRef", "descriptor", "Ljava/lang/String;", .ref b3)]), gb3, kb3, gb2, kb2, gb1, kb1, (ra, ObjP A "com/example/callweave/callweave/model/MethodRef" [("com/example/callweave/callweave/model/MethodRef", "owner", "Ljava/lang/String;", .ref a1), ("com/example/callweave/callweave/model/MethodRef", "name", "Ljava/lang/String;", .ref a2), ("com/example/callweave/callweave/model/MethodRef", "descriptor", "Ljava/lang/String;", .ref a3)]), ga3, ka3, ga2, ka2, ga1, ka1] b2 [v_n2] := Sb2.cons
  replace Sb3 : StrL A [(rb, ObjP A "com/example/callweave/callweave/model/MethodRef" [("com/example/callweave/callweave/model/MethodRef", "owner", "Ljava/lang/String;", .ref b1), ("com/example/callweave/callweave/model/MethodRef", "name", "Ljava/lang/String;", .ref b2), ("com/example/callweave/callweave/model/MethodRef", "descriptor", "Ljava/lang/String;", .ref b3)]), gb3, kb3, gb2, kb2, gb1, kb1, (ra, ObjP A "com/example/callweave/callweave/model/MethodRef" [("com/example/callweave/callweave/model/MethodRef", "owner", "Ljava/lang/String;", .ref a1), ("com/example/callweave/callweave/model/MethodRef", "name", "Ljava/lang/String;", .ref a2), ("com/example/callweave/callweave/model/MethodRef", "descriptor", "Ljava/lang/String;", .ref a3)]), ga3, ka3, ga2, ka2, ga1, ka1] b3 [40, v_p2, 41, v_r2] := Sb3.cons
  refine Go.new (B := B_law) td_law 146 (fs := [("com/example/callweave/callweave/model/FieldRef", "owner", "Ljava/lang/String;", .null), ("com/example/callweave/callweave/model/FieldRef", "name", "Ljava/lang/String;", .null), ("com/example/callweave/callweave/model/FieldRef", "descriptor", "Ljava/lang/String;", .null)]) rfl (w_165 K) (w_166 K) (w_167 K) (own_layS (Or.inr (w_207 K)) rfl rfl (own_layS (Or.inr (w_209 K)) rfl rfl (own_layS (Or.inr (w_211 K)) rfl rfl own_lay0))) (by decide) (by decide) ?_
  intro rf
  show Go A B_law D _ 249 [.val (.int v_a), .val (.int v_b), .val (.int v_m), .val (.int v_o1), .val (.int v_n1), .val (.int v_p1), .val (.int v_r1), .val (.int v_o2), .val (.int v_n2), .val (.int v_p2), .val (.int v_r2), .val (.ref ra), .val (.ref rb), .unset, .unset] [.ref rf] [(rf, ObjP A "com/example/callweave/callweave/model/FieldRef" [("com/example/callweave/callweave/model/FieldRef", "owner", "Ljava/lang/String;", .null), ("com/example/callweave/callweave/model/FieldRef", "name", "Ljava/lang/String;", .null), ("com/example/callweave/callweave/model/FieldRef", "descriptor", "Ljava/lang/String;", .null)])] [(rb, ObjP A "com/example/callweave/callweave/model/MethodRef" [("com/example/callweave/callweave/model/MethodRef", "owner", "Ljava/lang/String;", .ref b1), ("com/example/callweave/callweave/model/MethodRef", "name", "Ljava/lang/String;", .ref b2), ("com/example/callweave/callweave/model/MethodRef", "descriptor", "Ljava/lang/String;", .ref b3)]), gb3, kb3, gb2, kb2, gb1, kb1, (ra, ObjP A "com/example/callweave/callweave/model/MethodRef" [("com/example/callweave/callweave/model/MethodRef", "owner", "Ljava/lang/String;", .ref a1), ("com/example/callweave/callweave/model/MethodRef", "name", "Ljava/lang/String;", .ref a2), ("com/example/callweave/callweave/model/MethodRef", "descriptor", "Ljava/lang/String;", .ref a3)]), ga3, ka3, ga2, ka2, ga1, ka1] 65 1048
  refine Go.run (B := B_law) td_law 147 1 (pc' := 250) (L' := [.val (.int v_a), .val (.int v_b), .val (.int v_m), .val (.int v_o1), .val (.int v_n1), .val (.int v_p1), .val (.int v_r1), .val (.int v_o2), .val (.int v_n2), .val (.int v_p2), .val (.int v_r2), .val (.ref ra), .val (.ref rb), .unset, .unset]) (S' := [.ref rf, .ref rf]) rfl ?_
  refine Go.new (B := B_law) td_law 148 (fs := [("java/lang/String", "value", "[B", .null), ("java/lang/String", "coder", "B", .int (0 : Int32))]) rfl (w_46 K) (w_12 K) (w_11 K) (own_layS (Or.inr (w_14 K)) rfl rfl (own_layS (Or.inr (w_15 K)) rfl rfl own_lay0)) (by decide) (by decide) ?_
  intro c1
  show Go A B_law D _ 253 [.val (.int v_a), .val (.int v_b), .val (.int v_m), .val (.int v_o1), .val (.int v_n1), .val (.int v_p1), .val (.int v_r1), .val (.int v_o2), .val (.int v_n2), .val (.int v_p2), .val (.int v_r2), .val (.ref ra), .val (.ref rb), .unset, .unset] [.ref c1, .ref rf, .ref rf] [(c1, ObjP A "java/lang/String" [("java/lang/String", "value", "[B", .null), ("java/lang/String", "coder", "B", .int (0 : Int32))]), (rf, ObjP A "com/example/callweave/callweave/model/FieldRef" [("com/example/callweave/callweave/model/FieldRef", "owner", "Ljava/lang/String;", .null), ("com/example/callweave/callweave/model/FieldRef", "name", "Ljava/lang/String;", .null), ("com/example/callweave/callweave/model/FieldRef", "descriptor", "Ljava/lang/String;", .null)])] [(rb, ObjP A "com/example/callweave/callweave/model/MethodRef" [("com/example/callweave/callweave/model/MethodRef", "owner", "Ljava/lang/String;", .ref b1), ("com/example/callweave/callweave/model/MethodRef", "name", "Ljava/lang/String;", .ref b2), ("com/example/callweave/callweave/model/MethodRef", "descriptor", "Ljava/lang/String;", .ref b3)]), gb3, kb3, gb2, kb2, gb1, kb1, (ra, ObjP A "com/example/callweave/callweave/model/MethodRef" [("com/example/callweave/callweave/model/MethodRef", "owner", "Ljava/lang/String;", .ref a1), ("com/example/callweave/callweave/model/MethodRef", "name", "Ljava/lang/String;", .ref a2), ("com/example/callweave/callweave/model/MethodRef", "descriptor", "Ljava/lang/String;", .ref a3)]), ga3, ka3, ga2, ka2, ga1, ka1] 66 1052
  refine Go.run (B := B_law) td_law 149 2 (pc' := 255) (L' := [.val (.int v_a), .val (.int v_b), .val (.int v_m), .val (.int v_o1), .val (.int v_n1), .val (.int v_p1), .val (.int v_r1), .val (.int v_o2), .val (.int v_n2), .val (.int v_p2), .val (.int v_r2), .val (.ref ra), .val (.ref rb), .unset, .unset]) (S' := [.int (1 : Int32), .ref c1, .ref c1, .ref rf, .ref rf]) rfl ?_
  refine Go.newarray (B := B_law) td_law 151 (ty := .char) (cap := 1) (vs := (chV [0])) rfl rfl (w_47 K) (by decide) (by decide) (by decide) (by decide) (by decide) rfl ?_
  intro yc1
  show Go A B_law D _ 257 [.val (.int v_a), .val (.int v_b), .val (.int v_m), .val (.int v_o1), .val (.int v_n1), .val (.int v_p1), .val (.int v_r1), .val (.int v_o2), .val (.int v_n2), .val (.int v_p2), .val (.int v_r2), .val (.ref ra), .val (.ref rb), .unset, .unset] [.ref yc1, .ref c1, .ref c1, .ref rf, .ref rf] [(yc1, ArrP A .char (chV [0])), (c1, ObjP A "java/lang/String" [("java/lang/String", "value", "[B", .null), ("java/lang/String", "coder", "B", .int (0 : Int32))]), (rf, ObjP A "com/example/callweave/callweave/model/FieldRef" [("com/example/callweave/callweave/model/FieldRef", "owner", "Ljava/lang/String;", .null), ("com/example/callweave/callweave/model/FieldRef", "name", "Ljava/lang/String;", .null), ("com/example/callweave/callweave/model/FieldRef", "descriptor", "Ljava/lang/String;", .null)])] [(rb, ObjP A "com/example/callweave/callweave/model/MethodRef" [("com/example/callweave/callweave/model/MethodRef", "owner", "Ljava/lang/String;", .ref b1), ("com/example/callweave/callweave/model/MethodRef", "name", "Ljava/lang/String;", .ref b2), ("com/example/callweave/callweave/model/MethodRef", "descriptor", "Ljava/lang/String;", .ref b3)]), gb3, kb3, gb2, kb2, gb1, kb1, (ra, ObjP A "com/example/callweave/callweave/model/MethodRef" [("com/example/callweave/callweave/model/MethodRef", "owner", "Ljava/lang/String;", .ref a1), ("com/example/callweave/callweave/model/MethodRef", "name", "Ljava/lang/String;", .ref a2), ("com/example/callweave/callweave/model/MethodRef", "descriptor", "Ljava/lang/String;", .ref a3)]), ga3, ka3, ga2, ka2, ga1, ka1] 67 1053
  refine Go.run (B := B_law) td_law 152 3 (pc' := 260) (L' := [.val (.int v_a), .val (.int v_b), .val (.int v_m), .val (.int v_o1), .val (.int v_n1), .val (.int v_p1), .val (.int v_r1), .val (.int v_o2), .val (.int v_n2), .val (.int v_p2), .val (.int v_r2), .val (.ref ra), .val (.ref rb), .unset, .unset]) (S' := [.int v_o1, .int (0 : Int32), .ref yc1, .ref yc1, .ref c1, .ref c1, .ref rf, .ref rf]) rfl ?_
  refine Go.castore (B := B_law) td_law 155 (vs' := (chV [v_o1])) rfl (own_inB 1 rfl (by decide)) (by rw [chr16_id ((h_o1.1).imp id (fun h => by omega))]; rfl) ?_
  refine Go.front 1 (F' := [(c1, ObjP A "java/lang/String" [("java/lang/String", "value", "[B", .null), ("java/lang/String", "coder", "B", .int (0 : Int32))]), (yc1, ArrP A .char (chV [v_o1])), (rf, ObjP A "com/example/callweave/callweave/model/FieldRef" [("com/example/callweave/callweave/model/FieldRef", "owner", "Ljava/lang/String;", .null), ("com/example/callweave/callweave/model/FieldRef", "name", "Ljava/lang/String;", .null), ("com/example/callweave/callweave/model/FieldRef", "descriptor", "Ljava/lang/String;", .null)])]) rfl rfl ?_
  refine Go.callN (B := B_law) td_law 156 (B' := B_sin) (a := c1) (argsL := [.ref yc1]) (rest := [.ref c1, .ref rf, .ref rf]) (W := 3) rfl (sinL_met K (cs := [v_o1]) (lat1 h_o1.1) (own_le rfl) (show ¬ nI 1 = 0 by decide) (Or.inl (List.mem_of_getElem? (i := 0) rfl))) rfl rfl (w_48 K) (w_49 K) (w_11 K) (w_50 K) (by decide) pd_sin rfl rfl rfl rfl (Nat.le_of_eq rfl) (by decide) (by decide) (by decide) (by decide) ?_
  rintro _ _ _ ⟨rfl, rfl, gc1, kc1, rfl, Sc1⟩
  show Go A B_law D _ 264 [.val (.int v_a), .val (.int v_b), .val (.int v_m), .val (.int v_o1), .val (.int v_n1), .val (.int v_p1), .val (.int v_r1), .val (.int v_o2), .val (.int v_n2), .val (.int v_p2), .val (.int v_r2), .val (.ref ra), .val (.ref rb), .unset, .unset] [.ref c1, .ref rf, .ref rf] [(yc1, ArrP A .char (chV [v_o1])), (rf, ObjP A "com/example/callweave/callweave/model/FieldRef" [("com/example/callweave/callweave/model/FieldRef", "owner", "Ljava/lang/String;", .null), ("com/example/callweave/callweave/model/FieldRef", "name", "Ljava/lang/String;", .null), ("com/example/callweave/callweave/model/FieldRef", "descriptor", "Ljava/lang/String;", .null)])] [gc1, kc1, (rb, ObjP A "com/example/callweave/callweave/model/MethodRef" [("com/example/callweave/callweave/model/MethodRef", "owner", "Ljava/lang/String;", .ref b1), ("com/example/callweave/callweave/model/MethodRef", "name", "Ljava/lang/String;", .ref b2), ("com/example/callweave/callweave/model/MethodRef", "descriptor", "Ljava/lang/String;", .ref b3)]), gb3, kb3, gb2, kb2, gb1, kb1, (ra, ObjP A "com/example/callweave/callweave/model/MethodRef" [("com/example/callweave/callweave/model/MethodRef", "owner", "Ljava/lang/String;", .ref a1), ("com/example/callweave/callweave/model/MethodRef", "name", "Ljava/lang/String;", .ref a2), ("com/example/callweave/callweave/model/MethodRef", "descriptor", "Ljava/lang/String;", .ref a3)]), ga3, ka3, ga2, ka2, ga1, ka1] 68 1057
  refine Go.drop ?_
  show Go A B_law D _ 264 [.val (.int v_a), .val (.int v_b), .val (.int v_m), .val (.int v_o1), .val (.int v_n1), .val (.int v_p1), .val (.int v_r1), .val (.int v_o2), .val (.int v_n2), .val (.int v_p2), .val (.int v_r2), .val (.ref ra), .val (.ref rb), .unset, .unset] [.ref c1, .ref rf, .ref rf] [(rf, ObjP A "com/example/callweave/callweave/model/FieldRef" [("com/example/callweave/callweave/model/FieldRef", "owner", "Ljava/lang/String;", .null), ("com/example/callweave/callweave/model/FieldRef", "name", "Ljava/lang/String;", .null), ("com/example/callweave/callweave/model/FieldRef", "descriptor", "Ljava/lang/String;", .null)])] [gc1, kc1, (rb, ObjP A "com/example/callweave/callweave/model/MethodRef" [("com/example/callweave/callweave/model/MethodRef", "owner", "Ljava/lang/String;", .ref b1), ("com/example/callweave/callweave/model/MethodRef", "name", "Ljava/lang/String;", .ref b2), ("com/example/callweave/callweave/model/MethodRef", "descriptor", "Ljava/lang/String;", .ref b3)]), gb3, kb3, gb2, kb2, gb1, kb1, (ra, ObjP A "com/example/callweave/callweave/model/MethodRef" [("com/example/callweave/callweave/model/MethodRef", "owner", "Ljava/lang/String;", .ref a1), ("com/example/callweave/callweave/model/MethodRef", "name", "Ljava/lang/String;", .ref a2), ("com/example/callweave/callweave/model/MethodRef", "descriptor", "Ljava/lang/String;", .ref a3)]), ga3, ka3, ga2, ka2, ga1, ka1] 68 1057
  replace Sa1 : StrL A [gc1, kc1, (rb, ObjP A "com/example/callweave/callweave/model/MethodRef" [("com/example/callweave/callweave/model/MethodRef", "owner", "Ljava/lang/String;", .ref b1), ("com/example/callweave/callweave/model/MethodRef", "name", "Ljava/lang/String;", .ref b2), ("com/example/callweave/callweave/model/MethodRef", "descriptor", "Ljava/lang/String;", .ref b3)]), gb3, kb3, gb2, kb2, gb1, kb1, (ra, ObjP A "com/example/callweave/callweave/model/MethodRef" [("com/example/callweave/callweave/model/MethodRef", "owner", "Ljava/lang/String;", .ref a1), ("com/example/callweave/callweave/model/MethodRef", "name", "Ljava/lang/String;", .ref a2), ("com/example/callweave/callweave/model/MethodRef", "descriptor", "Ljava/lang/String;", .ref a3)]), ga3, ka3, ga2, ka2, ga1, ka1] a1 [v_o1] := Sa1.cons.cons
  replace Sa2 : StrL A [gc1, kc1, (rb, ObjP A "com/example/callweave/callweave/model/MethodRef" [("com/example/callweave/callweave/model/MethodRef", "owner", "Ljava/lang/String;", .ref b1), ("com/example/callweave/callweave/model/MethodRef", "name", "Ljava/lang/String;", .ref b2), ("com/example/callweave/callweave/model/MethodRef", "descriptor", "Ljava/lang/String;", .ref b3)]), gb3, kb3, gb2, kb2, gb1, kb1, (ra, ObjP A "com/example/callweave/callweave/model/MethodRef" [("com/example/callweave/callweave/model/MethodRef", "owner", "Ljava/lang/String;", .ref a1), ("com/example/callweave/callweave/model/MethodRef", "name", "Ljava/lang/String;", .ref a2), ("com/example/callweave/callweave/model/MethodRef", "descriptor", "Ljava/lang/String;", .ref a3)]), ga3, ka3, ga2, ka2, ga1, ka1] a2 [v_n1] := Sa2.cons.cons
  replace Sa3 : StrL A [gc1, kc1, (rb, ObjP A "com/example/callweave/callweave/model/MethodRef" [("com/example/callweave/callweave/model/MethodRef", "owner", "Ljava/lang/String;", .ref b1), ("com/example/callweave/callweave/model/MethodRef", "name", "Ljava/lang/String;", .ref b2), ("com/example/callweave/callweave/model/MethodRef", "descriptor", "Ljava/lang/String;", .ref b3)]), gb3, kb3, gb2, kb2, gb1, kb1, (ra, ObjP A "com/example/callweave/callweave/model/MethodRef" [("com/example/callweave/callweave/model/MethodRef", "owner", "Ljava/lang/String;", .ref a1), ("com/example/callweave/callweave/model/MethodRef", "name", "Ljava/lang/String;", .ref a2), ("com/example/callweave/callweave/model/MethodRef", "descriptor", "Ljava/lang/String;", .ref a3)]), ga3, ka3, ga2, ka2, ga1, ka1] a3 [40, v_p1, 41, v_r1] := Sa3.cons.cons
  replace Sb1 : StrL A [gc1, kc1, (rb, ObjP A "com/example/callweave/callweave/model/MethodRef" [("com/example/callweave/callweave/model/MethodRef", "owner", "Ljava/lang/String;", .ref b1), ("com/example/callweave/callweave/model/MethodRef", "name", "Ljava/lang/String;", .ref b2), ("com/example/callweave/callweave/model/MethodRef", "descriptor", "Ljava/lang/String;", .ref b3)]), gb3, kb3, gb2, kb2, gb1, kb1, (ra, ObjP A "com/example/callweave/callweave/model/MethodRef" [("com/example/callweave/callweave/model/MethodRef", "owner", "Ljava/lang/String;", .ref a1), ("com/example/callweave/callweave/model/MethodRef", "name", "Ljava/lang/String;", .ref a2), ("com/example/callweave/callweave/model/MethodRef", "descriptor", "Ljava/lang/String;", .ref a3)]), ga3, ka3, ga2, ka2, ga1, ka1] b1 [v_o2] := Sb1.cons.cons
  replace Sb2 : StrL A [gc1, kc1, (rb, ObjP A "com/example/callweave/callweave/model/MethodRef" [("com/example/callweave/callweave/model/MethodRef", "owner", "Ljava/lang/String;", .ref b1), ("com/example/callweave/callweave/model/MethodRef", "name", "Ljava/lang/String;", .ref b2), ("com/example/callweave/callweave/model/MethodRef", "descriptor", "Ljava/lang/String;", .ref b3)]), gb3, kb3, gb2, kb2, gb1, kb1, (ra, ObjP A "com/example/callweave/callweave/model/MethodRef" [("com/example/callweave/callweave/model/MethodRef", "owner", "Ljava/lang/String;", .ref a1), ("com/example/callweave/callweave/model/MethodRef", "name", "Ljava/lang/String;", .ref a2), ("com/example/callweave/callweave/model/MethodRef", "descriptor", "Ljava/lang/String;", .ref a3)]), ga3, ka3, ga2, ka2, ga1, ka1] b2 [v_n2] := Sb2.cons.cons
  replace Sb3 : StrL A [gc1, kc1, (rb, ObjP A "com/example/callweave/callweave/model/MethodRef" [("com/example/callweave/callweave/model/MethodRef", "owner", "Ljava/lang/String;", .ref b1), ("com/example/callweave/callweave/model/MethodRef", "name", "Ljava/lang/String;", .ref b2), ("com/example/callweave/callweave/model/MethodRef", "descriptor", "Ljava/lang/String;", .ref b3)]), gb3, kb3, gb2, kb2, gb1, kb1, (ra, ObjP A "com/example/callweave/callweave/model/MethodRef" [("com/example/callweave/callweave/model/MethodRef", "owner", "Ljava/lang/String;", .ref a1), ("com/example/callweave/callweave/model/MethodRef", "name", "Ljava/lang/String;", .ref a2), ("com/example/callweave/callweave/model/MethodRef", "descriptor", "Ljava/lang/String;", .ref a3)]), ga3, ka3, ga2, ka2, ga1, ka1] b3 [40, v_p2, 41, v_r2] := Sb3.cons.cons
  refine Go.new (B := B_law) td_law 157 (fs := [("java/lang/String", "value", "[B", .null), ("java/lang/String", "coder", "B", .int (0 : Int32))]) rfl (w_46 K) (w_12 K) (w_11 K) (own_layS (Or.inr (w_14 K)) rfl rfl (own_layS (Or.inr (w_15 K)) rfl rfl own_lay0)) (by decide) (by decide) ?_
  intro c2
  show Go A B_law D _ 267 [.val (.int v_a), .val (.int v_b), .val (.int v_m), .val (.int v_o1), .val (.int v_n1), .val (.int v_p1), .val (.int v_r1), .val (.int v_o2), .val (.int v_n2), .val (.int v_p2), .val (.int v_r2), .val (.ref ra), .val (.ref rb), .unset, .unset] [.ref c2, .ref c1, .ref rf, .ref rf] [(c2, ObjP A "java/lang/String" [("java/lang/String", "value", "[B", .null), ("java/lang/String", "coder", "B", .int (0 : Int32))]), (rf, ObjP A "com/example/callweave/callweave/model/FieldRef" [("com/example/callweave/callweave/model/FieldRef", "owner", "Ljava/lang/String;", .null), ("com/example/callweave/callweave/model/FieldRef", "name", "Ljava/lang/String;", .null), ("com/example/callweave/callweave/model/FieldRef", "descriptor", "Ljava/lang/String;", .null)])] [gc1, kc1, (rb, ObjP A "com/example/callweave/callweave/model/MethodRef" [("com/example/callweave/callweave/model/MethodRef", "owner", "Ljava/lang/String;", .ref b1), ("com/example/callweave/callweave/model/MethodRef", "name", "Ljava/lang/String;", .ref b2), ("com/example/callweave/callweave/model/MethodRef", "descriptor", "Ljava/lang/String;", .ref b3)]), gb3, kb3, gb2, kb2, gb1, kb1, (ra, ObjP A "com/example/callweave/callweave/model/MethodRef" [("com/example/callweave/callweave/model/MethodRef", "owner", "Ljava/lang/String;", .ref a1), ("com/example/callweave/callweave/model/MethodRef", "name", "Ljava/lang/String;", .ref a2), ("com/example/callweave/callweave/model/MethodRef", "descriptor", "Ljava/lang/String;", .ref a3)]), ga3, ka3, ga2, ka2, ga1, ka1] 69 1061
  refine Go.run (B := B_law) td_law 158 2 (pc' := 269) (L' := [.val (.int v_a), .val (.int v_b), .val (.int v_m), .val (.int v_o1), .val (.int v_n1), .val (.int v_p1), .val (.int v_r1), .val (.int v_o2), .val (.int v_n2), .val (.int v_p2), .val (.int v_r2), .val (.ref ra), .val (.ref rb), .unset, .unset]) (S' := [.int (1 : Int32), .ref c2, .ref c2, .ref c1, .ref rf, .ref rf]) rfl ?_
  refine Go.newarray (B := B_law) td_law 160 (ty := .char) (cap := 1) (vs := (chV [0])) rfl rfl (w_47 K) (by decide) (by decide) (by decide) (by decide) (by decide) rfl ?_
  intro yc2
  show Go A B_law D _ 271 [.val (.int v_a), .val (.int v_b), .val (.int v_m), .val (.int v_o1), .val (.int v_n1), .val (.int v_p1), .val (.int v_r1), .val (.int v_o2), .val (.int v_n2), .val (.int v_p2), .val (.int v_r2), .val (.ref ra), .val (.ref rb), .unset, .unset] [.ref yc2, .ref c2, .ref c2, .ref c1, .ref rf, .ref rf] [(yc2, ArrP A .char (chV [0])), (c2, ObjP A "java/lang/String" [("java/lang/String", "value", "[B", .null), ("java/lang/String", "coder", "B", .int (0 : Int32))]), (rf, ObjP A "com/example/callweave/callweave/model/FieldRef" [("com/example/callweave/callweave/model/FieldRef", "owner", "Ljava/lang/String;", .null), ("com/example/callweave/callweave/model/FieldRef", "name", "Ljava/lang/String;", .null), ("com/example/callweave/callweave/model/FieldRef", "descriptor", "Ljava/lang/String;", .null)])] [gc1, kc1, (rb, ObjP A "com/example/callweave/callweave/model/MethodRef" [("com/example/callweave/callweave/model/MethodRef", "owner", "Ljava/lang/String;", .ref b1), ("com/example/callweave/callweave/model/MethodRef", "name", "Ljava/lang/String;", .ref b2), ("com/example/callweave/callweave/model/MethodRef", "descriptor", "Ljava/lang/String;", .ref b3)]), gb3, kb3, gb2, kb2, gb1, kb1, (ra, ObjP A "com/example/callweave/callweave/model/MethodRef" [("com/example/callweave/callweave/model/MethodRef", "owner", "Ljava/lang/String;", .ref a1), ("com/example/callweave/callweave/model/MethodRef", "name", "Ljava/lang/String;", .ref a2), ("com/example/callweave/callweave/model/MethodRef", "descriptor", "Ljava/lang/String;", .ref a3)]), ga3, ka3, ga2, ka2, ga1, ka1] 70 1062
  refine Go.run (B := B_law) td_law 161 3 (pc' := 275) (L' := [.val (.int v_a), .val (.int v_b), .val (.int v_m), .val (.int v_o1), .val (.int v_n1), .val (.int v_p1), .val (.int v_r1), .val (.int v_o2), .val (.int v_n2), .val (.int v_p2), .val (.int v_r2), .val (.ref ra), .val (.ref rb), .unset, .unset]) (S' := [.int v_n1, .int (0 : Int32), .ref yc2, .ref yc2, .ref c2, .ref c2, .ref c1, .ref rf, .ref rf]) rfl ?_
  refine Go.castore (B := B_law) td_law 164 (vs' := (chV [v_n1])) rfl (own_inB 1 rfl (by decide)) (by rw [chr16_id ((h_n1.1.1).imp id (fun h => by omega))]; rfl) ?_
  refine Go.front 1 (F' := [(c2, ObjP A "java/lang/String" [("java/lang/String", "value", "[B", .null), ("java/lang/String", "coder", "B", .int (0 : Int32))]), (yc2, ArrP A .char (chV [v_n1])), (rf, ObjP A "com/example/callweave/callweave/model/FieldRef" [("com/example/callweave/callweave/model/FieldRef", "owner", "Ljava/lang/String;", .null), ("com/example/callweave/callweave/model/FieldRef", "name", "Ljava/lang/String;", .null), ("com/example/callweave/callweave/model/FieldRef", "descriptor", "Ljava/lang/String;", .null)])]) rfl rfl ?_
  refine Go.callN (B := B_law) td_law 165 (B' := B_sin) (a := c2) (argsL := [.ref yc2]) (rest := [.ref c2, .ref c1, .ref rf, .ref rf]) (W := 4) rfl (sinL_met K (cs := [v_n1]) (lat1 h_n1.1.1) (own_le rfl) (show ¬ nI 1 = 0 by decide) (Or.inl (List.mem_of_getElem? (i := 0) rfl))) rfl rfl (w_48 K) (w_49 K) (w_11 K) (w_50 K) (by decide) pd_sin rfl rfl rfl rfl (Nat.le_of_eq rfl) (by decide) (by decide) (by decide) (by decide) ?_
  rintro _ _ _ ⟨rfl, rfl, gc2, kc2, rfl, Sc2⟩
  show Go A B_law D _ 279 [.val (.int v_a), .val (.int v_b), .val (.int v_m), .val (.int v_o1), .val (.int v_n1), .val (.int v_p1), .val (.int v_r1), .val (.int v_o2), .val (.int v_n2), .val (.int v_p2), .val (.int v_r2), .val (.ref ra), .val (.ref rb), .unset, .unset] [.ref c2, .ref c1, .ref rf, .ref rf] [(yc2, ArrP A .char (chV [v_n1])), (rf, ObjP A "com/example/callweave/callweave/model/FieldRef" [("com/example/callweave/callweave/model/FieldRef", "owner", "Ljava/lang/String;", .null), ("com/example/callweave/callweave/model/FieldRef", "name", "Ljava/lang/String;", .null), ("com/example/callweave/callweave/model/FieldRef", "descriptor", "Ljava/lang/String;", .null)])] [gc2, kc2, gc1, kc1, (rb, ObjP A "com/example/callweave/callweave/model/MethodRef" [("com/example/callweave/callweave/model/MethodRef", "owner", "Ljava/lang/String;", .ref b1), ("com/example/callweave/callweave/model/MethodRef", "name", "Ljava/lang/String;", .ref b2), ("com/example/callweave/callweave/model/MethodRef", "descriptor", "Ljava/lang/String;", .ref b3)]), gb3, kb3, gb2, kb2, gb1, kb1, (ra, ObjP A "com/example/callweave/callweave/model/MethodRef" [("com/example/callweave/callweave/model/MethodRef", "owner", "Ljava/lang/String;", .ref a1), ("com/example/callweave/callweave/model/MethodRef", "name", "Ljava/lang/String;", .ref a2), ("com/example/callweave/callweave/model/MethodRef", "descriptor", "Ljava/lang/String;", .ref a3)]), ga3, ka3, ga2, ka2, ga1, ka1] 71 1066
  refine Go.drop ?_
  show Go A B_law D _ 279 [.val (.int v_a), .val (.int v_b), .val (.int v_m), .val (.int v_o1), .val (.int v_n1), .val (.int v_p1), .val (.int v_r1), .val (.int v_o2), .val (.int v_n2), .val (.int v_p2), .val (.int v_r2), .val (.ref ra), .val (.ref rb), .unset, .unset] [.ref c2, .ref c1, .ref rf, .ref rf] [(rf, ObjP A "com/example/callweave/callweave/model/FieldRef" [("com/example/callweave/callweave/model/FieldRef", "owner", "Ljava/lang/String;", .null), ("com/example/callweave/callweave/model/FieldRef", "name", "Ljava/lang/String;", .null), ("com/example/callweave/callweave/model/FieldRef", "descriptor", "Ljava/lang/String;", .null)])] [gc2, kc2, gc1, kc1, (rb, ObjP A "com/example/callweave/callweave/model/MethodRef" [("com/example/callweave/callweave/model/MethodRef", "owner", "Ljava/lang/String;", .ref b1), ("com/example/callweave/callweave/model/MethodRef", "name", "Ljava/lang/String;", .ref b2), ("com/example/callweave/callweave/model/MethodRef", "descriptor", "Ljava/lang/String;", .ref b3)]), gb3, kb3, gb2, kb2, gb1, kb1, (ra, ObjP A "com/example/callweave/callweave/model/MethodRef" [("com/example/callweave/callweave/model/MethodRef", "owner", "Ljava/lang/String;", .ref a1), ("com/example/callweave/callweave/model/MethodRef", "name", "Ljava/lang/String;", .ref a2), ("com/example/callweave/callweave/model/MethodRef", "descriptor", "Ljava/lang/String;", .ref a3)]), ga3, ka3, ga2, ka2, ga1, ka1] 71 1066
  replace Sa1 : StrL A [gc2, kc2, gc1, kc1, (rb, ObjP A "com/example/callweave/callweave/model/MethodRef" [("com/example/callweave/callweave/model/MethodRef", "owner", "Ljava/lang/String;", .ref b1), ("com/example/callweave/callweave/model/MethodRef", "name", "Ljava/lang/String;", .ref b2), ("com/example/callweave/callweave/model/MethodRef", "descriptor", "Ljava/lang/String;", .ref b3)]), gb3, kb3, gb2, kb2, gb1, kb1, (ra, ObjP A "com/example/callweave/callweave/model/MethodRef" [("com/example/callweave/callweave/model/MethodRef", "owner", "Ljava/lang/String;", .ref a1), ("com/example/callweave/callweave/model/MethodRef", "name", "Ljava/lang/String;", .ref a2), ("com/example/callweave/callweave/model/MethodRef", "descriptor", "Ljava/lang/String;", .ref a3)]), ga3, ka3, ga2, ka2, ga1, ka1] a1 [v_o1] := Sa1.cons.cons
  replace Sa2 : StrL A [gc2, kc2, gc1, kc1, (rb, ObjP A "com/example/callweave/callweave/model/MethodRef" [("com/example/callweave/callweave/model/MethodRef", "owner", "Ljava/lang/String;", .ref b1), ("com/example/callweave/callweave/model/MethodRef", "name", "Ljava/lang/String;", .ref b2), ("com/example/callweave/callweave/model/MethodRef", "descriptor", "Ljava/lang/String;", .ref b3)]), gb3, kb3, gb2, kb2, gb1, kb1, (ra, ObjP A "com/example/callweave/callweave/model/MethodRef" [("com/example/callweave/callweave/model/MethodRef", "owner", "Ljava/lang/String;", .ref a1), ("com/example/callweave/callweave/model/MethodRef", "name", "Ljava/lang/String;", .ref a2), ("com/example/callweave/callweave/model/MethodRef", "descriptor", "Ljava/lang/String;", .ref a3)]), ga3, ka3, ga2, ka2, ga1, ka1] a2 [v_n1] := Sa2.cons.cons
  replace Sa3 : StrL A [gc2, kc2, gc1, kc1, (rb, ObjP A "com/example/callweave/callweave/model/MethodRef" [("com/example/callweave/callweave/model/MethodRef", "owner", "Ljava/lang/String;", .ref b1), ("com/example/callweave/callweave/model/MethodRef", "name", "Ljava/lang/String;", .ref b2), ("com/example/callweave/callweave/model/MethodRef", "descriptor", "Ljava/lang/String;", .ref b3)]), gb3, kb3, gb2, kb2, gb1, kb1, (ra, ObjP A "com/example/callweave/callweave/model/MethodRef" [("com/example/callweave/callweave/model/MethodRef", "owner", "Ljava/lang/String;", .ref a1), ("com/example/callweave/callweave/model/MethodRef", "name", "Ljava/lang/String;", .ref a2), ("com/example/callweave/callweave/model/MethodRef", "descriptor", "Ljava/lang/String;", .ref a3)]), ga3, ka3, ga2, ka2, ga1, ka1] a3 [40, v_p1, 41, v_r1] := Sa3.cons.cons
  replace Sb1 : StrL A [gc2, kc2, gc1, kc1, (rb, ObjP A "com/example/callweave/callweave/model/MethodRef" [("com/example/callweave/callweave/model/MethodRef", "owner", "Ljava/lang/String;", .ref b1), ("com/example/callweave/callweave/model/MethodRef", "name", "Ljava/lang/String;", .ref b2), ("com/example/callweave/callweave/model/MethodRef", "descriptor", "Ljava/lang/String;", .ref b3)]), gb3, kb3, gb2, kb2, gb1, kb1, (ra, ObjP A "com/example/callweave/callweave/model/MethodRef" [("com/example/callweave/callweave/model/MethodRef", "owner", "Ljava/lang/String;", .ref a1), ("com/example/callweave/callweave/model/MethodRef", "name", "Ljava/lang/String;", .ref a2), ("com/example/callweave/callweave/model/MethodRef", "descriptor", "Ljava/lang/String;", .ref a3)]), ga3, ka3, ga2, ka2, ga1, ka1] b1 [v_o2] := Sb1.cons.cons
  replace Sb2 : StrL A [gc2, kc2, gc1, kc1, (rb, ObjP A "com/example/callweave/callweave/model/MethodRef" [("com/example/callweave/callweave/model/MethodRef", "owner", "Ljava/lang/String;", .ref b1), ("com/example/callweave/callweave/model/MethodRef", "name", "Ljava/lang/String;", .ref b2), ("com/example/callweave/callweave/model/MethodRef", "descriptor", "Ljava/lang/String;", .ref b3)]), gb3, kb3, gb2, kb2, gb1, kb1, (ra, ObjP A "com/example/callweave/callweave/model/MethodRef" [("com/example/callweave/callweave/model/MethodRef", "owner", "Ljava/lang/String;", .ref a1), ("com/example/callweave/callweave/model/MethodRef", "name", "Ljava/lang/String;", .ref a2), ("com/example/callweave/callweave/model/MethodRef", "descriptor", "Ljava/lang/String;", .ref a3)]), ga3, ka3, ga2, ka2, ga1, ka1] b2 [v_n2] := Sb2.cons.cons
  replace Sb3 : StrL A [gc2, kc2, gc1, kc1, (rb, ObjP A "com/example/callweave/callweave/model/MethodRef" [("com/example/callweave/callweave/model/MethodRef", "owner", "Ljava/lang/String;", .ref b1), ("com/example/callweave/callweave/model/MethodRef", "name", "Ljava/lang/String;", .ref b2), ("com/example/callweave/callweave/model/MethodRef", "descriptor", "Ljava/lang/String;", .ref b3)]), gb3, kb3, gb2, kb2, gb1, kb1, (ra, ObjP A "com/example/callweave/callweave/model/MethodRef" [("com/example/callweave/callweave/model/MethodRef", "owner", "Ljava/lang/String;", .ref a1), ("com/example/callweave/callweave/model/MethodRef", "name", "Ljava/lang/String;", .ref a2), ("com/example/callweave/callweave/model/MethodRef", "descriptor", "Ljava/lang/String;", .ref a3)]), ga3, ka3, ga2, ka2, ga1, ka1] b3 [40, v_p2, 41, v_r2] := Sb3.cons.cons
  replace Sc1 : StrL A [gc2, kc2, gc1, kc1, (rb, ObjP A "com/example/callweave/callweave/model/MethodRef" [("com/example/callweave/callweave/model/MethodRef", "owner", "Ljava/lang/String;", .ref b1), ("com/example/callweave/callweave/model/MethodRef", "name", "Ljava/lang/String;", .ref b2), ("com/example/callweave/callweave/model/MethodRef", "descriptor", "Ljava/lang/String;", .ref b3)]), gb3, kb3, gb2, kb2, gb1, kb1, (ra, ObjP A "com/example/callweave/callweave/model/MethodRef" [("com/example/callweave/callweave/model/MethodRef", "owner", "Ljava/lang/String;", .ref a1), ("com/example/callweave/callweave/model/MethodRef", "name", "Ljava/lang/String;", .ref a2), ("com/example/callweave/callweave/model/MethodRef", "descriptor", "Ljava/lang/String;", .ref a3)]), ga3, ka3, ga2, ka2, ga1, ka1] c1 [v_o1] := Sc1.cons.cons
  refine Go.run (B := B_law) td_law 166 1 (pc' := 281) (L' := [.val (.int v_a), .val (.int v_b), .val (.int v_m), .val (.int v_o1), .val (.int v_n1), .val (.int v_p1), .val (.int v_r1), .val (.int v_o2), .val (.int v_n2), .val (.int v_p2), .val (.int v_r2), .val (.ref ra), .val (.ref rb), .unset, .unset]) (S' := [.int v_p1, .ref c2, .ref c1, .ref rf, .ref rf]) rfl ?_
  refine Go.callS (B := B_law) td_law 167 (B' := B_vof) (argsL := [.int v_p1]) (rest := [.ref c2, .ref c1, .ref rf, .ref rf]) (W := 4) rfl (vof_met K h_p1.lat) (w_168 K) (w_169 K) (w_11 K) (w_170 K) (by decide) pd_vof rfl rfl rfl rfl (Nat.le_of_eq rfl) (by decide) (by decide) (by decide) (by decide) ?_
  rintro _ _ _ ⟨c3, gc3, kc3, rfl, rfl, rfl, Sc3⟩
  show Go A B_law D _ 284 [.val (.int v_a), .val (.int v_b), .val (.int v_m), .val (.int v_o1), .val (.int v_n1), .val (.int v_p1), .val (.int v_r1), .val (.int v_o2), .val (.int v_n2), .val (.int v_p2), .val (.int v_r2), .val (.ref ra), .val (.ref rb), .unset, .unset] [.ref c3, .ref c2, .ref c1, .ref rf, .ref rf] [(rf, ObjP A "com/example/callweave/callweave/model/FieldRef" [("com/example/callweave/callweave/model/FieldRef", "owner", "Ljava/lang/String;", .null), ("com/example/callweave/callweave/model/FieldRef", "name", "Ljava/lang/String;", .null), ("com/example/callweave/callweave/model/FieldRef", "descriptor", "Ljava/lang/String;", .null)])] [gc3, kc3, gc2, kc2, gc1, kc1, (rb, ObjP A "com/example/callweave/callweave/model/MethodRef" [("com/example/callweave/callweave/model/MethodRef", "owner", "Ljava/lang/String;", .ref b1), ("com/example/callweave/callweave/model/MethodRef", "name", "Ljava/lang/String;", .ref b2), ("com/example/callweave/callweave/model/MethodRef", "descriptor", "Ljava/lang/String;", .ref b3)]), gb3, kb3, gb2, kb2, gb1, kb1, (ra, ObjP A "com/example/callweave/callweave/model/MethodRef" [("com/example/callweave/callweave/model/MethodRef", "owner", "Ljava/lang/String;", .ref a1), ("com/example/callweave/callweave/model/MethodRef", "name", "Ljava/lang/String;", .ref a2), ("com/example/callweave/callweave/model/MethodRef", "descriptor", "Ljava/lang/String;", .ref a3)]), ga3, ka3, ga2, ka2, ga1, ka1] 73 1071
  replace Sa1 : StrL A [gc3, kc3, gc2, kc2, gc1, kc1, (rb, ObjP A "com/example/callweave/callweave/model/MethodRef" [("com/example/callweave/callweave/model/MethodRef", "owner", "Ljava/lang/String;", .ref b1), ("com/example/callweave/callweave/model/MethodRef", "name", "Ljava/lang/String;", .ref b2), ("com/example/callweave/callweave/model/MethodRef", "descriptor", "Ljava/lang/String;", .ref b3)]), gb3, kb3, gb2, kb2, gb1, kb1, (ra, ObjP A "com/example/callweave/callweave/model/MethodRef" [("com/example/callweave/callweave/model/MethodRef", "owner", "Ljava/lang/String;", .ref a1), ("com/example/callweave/callweave/model/MethodRef", "name", "Ljava/lang/String;", .ref a2), ("com/example/callweave/callweave/model/MethodRef", "descriptor", "Ljava/lang/String;", .ref a3)]), ga3, ka3, ga2, ka2, ga1, ka1] a1 [v_o1] := Sa1.cons.cons
  replace Sa2 : StrL A [gc3, kc3, gc2, kc2, gc1, kc1, (rb, ObjP A "com/example/callweave/callweave/model/MethodRef" [("com/example/callweave/callweave/model/MethodRef", "owner", "Ljava/lang/String;", .ref b1), ("com/example/callweave/callweave/model/MethodRef", "name", "Ljava/lang/String;", .ref b2), ("com/example/callweave/callweave/model/MethodRef", "descriptor", "Ljava/lang/String;", .ref b3)]), gb3, kb3, gb2, kb2, gb1, kb1, (ra, ObjP A "com/example/callweave/callweave/model/MethodRef" [("com/example/callweave/callweave/model/MethodRef", "owner", "Ljava/lang/String;", .ref a1), ("com/example/callweave/callweave/model/MethodRef", "name", "Ljava/lang/String;", .ref a2), ("com/example/callweave/callweave/model/MethodRef", "descriptor", "Ljava/lang/String;", .ref a3)]), ga3, ka3, ga2, ka2, ga1, ka1] a2 [v_n1] := Sa2.cons.cons
  replace Sa3 : StrL A [gc3, kc3, gc2, kc2, gc1, kc1, (rb, ObjP A "com/example/callweave/callweave/model/MethodRef" [("com/example/callweave/callweave/model/MethodRef", "owner", "Ljava/lang/String;", .ref b1), ("com/example/callweave/callweave/model/MethodRef", "name", "Ljava/lang/String;", .ref b2), ("com/example/callweave/callweave/model/MethodRef", "descriptor", "Ljava/lang/String;", .ref b3)]), gb3, kb3, gb2, kb2, gb1, kb1, (ra, ObjP A "com/example/callweave/callweave/model/MethodRef" [("com/example/callweave/callweave/model/MethodRef", "owner", "Ljava/lang/String;", .ref a1), ("com/example/callweave/callweave/model/MethodRef", "name", "Ljava/lang/String;", .ref a2), ("com/example/callweave/callweave/model/MethodRef", "descriptor", "Ljava/lang/String;", .ref a3)]), ga3, ka3, ga2, ka2, ga1, ka1] a3 [40, v_p1, 41, v_r1] := Sa3.cons.cons
  replace Sb1 : StrL A [gc3, kc3, gc2, kc2, gc1, kc1, (rb, ObjP A "com/example/callweave/callweave/model/MethodRef" [("com/example/callweave/callweave/model/MethodRef", "owner", "Ljava/lang/String;", .ref b1), ("com/example/callweave/callweave/model/MethodRef", "name", "Ljava/lang/String;", .ref b2), ("com/example/callweave/callweave/model/MethodRef", "descriptor", "Ljava/lang/String;", .ref b3)]), gb3, kb3, gb2, kb2, gb1, kb1, (ra, ObjP A "com/example/callweave/callweave/model/MethodRef" [("com/example/callweave/callweave/model/MethodRef", "owner", "Ljava/lang/String;", .ref a1), ("com/example/callweave/callweave/model/MethodRef", "name", "Ljava/lang/String;", .ref a2), ("com/example/callweave/callweave/model/MethodRef", "descriptor", "Ljava/lang/String;", .ref a3)]), ga3, ka3, ga2, ka2, ga1, ka1] b1 [v_o2] := Sb1.cons.cons
  replace Sb2 : StrL A [gc3, kc3, gc2, kc2, gc1, kc1, (rb, ObjP A "com/example/callweave/callweave/model/MethodRef" [("com/example/callweave/callweave/model/MethodRef", "owner", "Ljava/lang/String;", .ref b1), ("com/example/callweave/callweave/model/MethodRef", "name", "Ljava/lang/String;", .ref b2), ("com/example/callweave/callweave/model/MethodRef", "descriptor", "Ljava/lang/String;", .ref b3)]), gb3, kb3, gb2, kb2, gb1, kb1, (ra, ObjP A "com/example/callweave/callweave/model/MethodRef" [("com/example/callweave/callweave/model/MethodRef", "owner", "Ljava/lang/String;", .ref a1), ("com/example/callweave/callweave/model/MethodRef", "name", "Ljava/lang/String;", .ref a2), ("com/example/callweave/callweave/model/MethodRef", "descriptor", "Ljava/lang/String;", .ref a3)]), ga3, ka3, ga2, ka2, ga1, ka1] b2 [v_n2] := Sb2.cons.cons
  replace Sb3 : StrL A [gc3, kc3, gc2, kc2, gc1, kc1, (rb, ObjP A "com/example/callweave/callweave/model/MethodRef" [("com/example/callweave/callweave/model/MethodRef", "owner", "Ljava/lang/String;", .ref b1), ("com/example/callweave/callweave/model/MethodRef", "name", "Ljava/lang/String;", .ref b2), ("com/example/callweave/callweave/model/MethodRef", "descriptor", "Ljava/lang/String;", .ref b3)]), gb3, kb3, gb2, kb2, gb1, kb1, (ra, ObjP A "com/example/callweave/callweave/model/MethodRef" [("com/example/callweave/callweave/model/MethodRef", "owner", "Ljava/lang/String;", .ref a1), ("com/example/callweave/callweave/model/MethodRef", "name", "Ljava/lang/String;", .ref a2), ("com/example/callweave/callweave/model/MethodRef", "descriptor", "Ljava/lang/String;", .ref a3)]), ga3, ka3, ga2, ka2, ga1, ka1] b3 [40, v_p2, 41, v_r2] := Sb3.cons.cons
  replace Sc1 : StrL A [gc3, kc3, gc2, kc2, gc1, kc1, (rb, ObjP A "com/example/callweave/callweave/model/MethodRef" [("com/example/callweave/callweave/model/MethodRef", "owner", "Ljava/lang/String;", .ref b1), ("com/example/callweave/callweave/model/MethodRef", "name", "Ljava/lang/String;", .ref b2), ("com/example/callweave/callweave/model/MethodRef", "descriptor", "Ljava/lang/String;", .ref b3)]), gb3, kb3, gb2, kb2, gb1, kb1, (ra, ObjP A "com/example/callweave/callweave/model/MethodRef" [("com/example/callweave/callweave/model/MethodRef", "owner", "Ljava/lang/String;", .ref a1), ("com/example/callweave/callweave/model/MethodRef", "name", "Ljava/lang/String;", .ref a2), ("com/example/callweave/callweave/model/MethodRef", "descriptor", "Ljava/lang/String;", .ref a3)]), ga3, ka3, ga2, ka2, ga1, ka1] c1 [v_o1] := Sc1.cons.cons
  replace Sc2 : StrL A [gc3, kc3, gc2, kc2, gc1, kc1, (rb, ObjP A "com/example/callweave/callweave/model/MethodRef" [("com/example/callweave/callweave/model/MethodRef", "owner", "Ljava/lang/String;", .ref b1), ("com/example/callweave/callweave/model/MethodRef", "name", "Ljava/lang/String;", .ref b2), ("com/example/callweave/callweave/model/MethodRef", "descriptor", "Ljava/lang/String;", .ref b3)]), gb3, kb3, gb2, kb2, gb1, kb1, (ra, ObjP A "com/example/callweave/callweave/model/MethodRef" [("com/example/callweave/callweave/model/MethodRef", "owner", "Ljava/lang/String;", .ref a1), ("com/example/callweave/callweave/model/MethodRef", "name", "Ljava/lang/String;", .ref a2), ("com/example/callweave/callweave/model/MethodRef", "descriptor", "Ljava/lang/String;", .ref a3)]), ga3, ka3, ga2, ka2, ga1, ka1] c2 [v_n1] := Sc2.cons.cons
  refine Go.callN (B := B_law) td_law 168 (B' := B_fr3) (a := rf) (argsL := [.ref c1, .ref c2, .ref c3]) (rest := [.ref rf]) (W := 1) rfl (fr3_met K h_o1 h_n1.1 h_p1 Sc1 Sc2 Sc3) rfl rfl (w_180 K) (w_181 K) (w_167 K) (w_182 K) (by decide) pd_fr3 rfl rfl rfl rfl (Nat.le_of_eq rfl) (by decide) (by decide) (by decide) (by decide) ?_
  rintro _ _ _ ⟨rfl, rfl, rfl⟩
  show Go A B_law D _ 287 [.val (.int v_a), .val (.int v_b), .val (.int v_m), .val (.int v_o1), .val (.int v_n1), .val (.int v_p1), .val (.int v_r1), .val (.int v_o2), .val (.int v_n2), .val (.int v_p2), .val (.int v_r2), .val (.ref ra), .val (.ref rb), .unset, .unset] [.ref rf] [(rf, ObjP A "com/example/callweave/callweave/model/FieldRef" [("com/example/callweave/callweave/model/FieldRef", "owner", "Ljava/lang/String;", .ref c1), ("com/example/callweave/callweave/model/FieldRef", "name", "Ljava/lang/String;", .ref c2), ("com/example/callweave/callweave/model/FieldRef", "descriptor", "Ljava/lang/String;", .ref c3)])] [gc3, kc3, gc2, kc2, gc1, kc1, (rb, ObjP A "com/example/callweave/callweave/model/MethodRef" [("com/example/callweave/callweave/model/MethodRef", "owner", "Ljava/lang/String;", .ref b1), ("com/example/callweave/callweave/model/MethodRef", "name", "Ljava/lang/String;", .ref b2), ("com/example/callweave/callweave/model/MethodRef", "descriptor", "Ljava/lang/String;", .ref b3)]), gb3, kb3, gb2, kb2, gb1, kb1, (ra, ObjP A "com/example/callweave/callweave/model/MethodRef" [("com/example/callweave/callweave/model/MethodRef", "owner", "Ljava/lang/String;", .ref a1), ("com/example/callweave/callweave/model/MethodRef", "name", "Ljava/lang/String;", .ref a2), ("com/example/callweave/callweave/model/MethodRef", "descriptor", "Ljava/lang/String;", .ref a3)]), ga3, ka3, ga2, ka2, ga1, ka1] 85 1407
  refine Go.run (B := B_law) td_law 169 1 (pc' := 289) (L' := [.val (.int v_a), .val (.int v_b), .val (.int v_m), .val (.int v_o1), .val (.int v_n1), .val (.int v_p1), .val (.int v_r1), .val (.int v_o2), .val (.int v_n2), .val (.int v_p2), .val (.int v_r2), .val (.ref ra), .val (.ref rb), .val (.ref rf), .unset]) (S' := []) rfl ?_
  refine Go.freeze ?_
  replace Sa1 : StrL A [(rf, ObjP A "com/example/callweave/callweave/model/FieldRef" [("com/example/callweave/callweave/model/FieldRef", "owner", "Ljava/lang/String;", .ref c1), ("com/example/callweave/callweave/model/FieldRef", "name", "Ljava/lang/String;", .ref c2), ("com/example/callweave/callweave/model/FieldRef", "descriptor", "Ljava/lang/String;", .ref c3)]), gc3, kc3, gc2, kc2, gc1, kc1, (rb, ObjP A "com/example/callweave/callweave/model/MethodRef" [("com/example/callweave/callweave/model/MethodRef", "owner", "Ljava/lang/String;", .ref b1), ("com/example/callweave/callweave/model/MethodRef", "name", "Ljava/lang/String;", .ref b2), ("com/example/callweave/callweave/model/MethodRef", "descriptor", "Ljava/lang/String;", .ref b3)]), gb3, kb3, gb2, kb2, gb1, kb1, (ra, ObjP A "com/example/callweave/callweave/model/MethodRef" [("com/example/callweave/callweave/model/MethodRef", "owner", "Ljava/lang/String;", .ref a1), ("com/example/callweave/callweave/model/MethodRef", "name", "Ljava/lang/String;", .ref a2), ("com/example/callweave/callweave/model/MethodRef", "descriptor", "Ljava/lang/String;", .ref a3)]), ga3, ka3, ga2, ka2, ga1, ka1] a1 [v_o1] := Sa1.cons
  replace Sa2 : StrL A [(rf, ObjP A "com/example/callweave/callweave/model/FieldRef" [("com/example/callweave/callweave/model/FieldRef", "owner", "Ljava/lang/String;", .ref c1), ("com/example/callweave/callweave/model/FieldRef", "name", "Ljava/lang/String;", .ref c2), ("com/example/callweave/callweave/model/FieldRef", "descriptor", "Ljava/lang/String;", .ref c3)]), gc3, kc3, gc2, kc2, gc1, kc1, (rb, ObjP A "com/example/callweave/callweave/model/MethodRef" [("com/example/callweave/callweave/model/MethodRef", "owner", "Ljava/lang/String;", .ref b1), ("com/example/callweave/callweave/model/MethodRef", "name", "Ljava/lang/String;", .ref b2), ("com/example/callweave/callweave/model/MethodRef", "descriptor", "Ljava/lang/String;", .ref b3)]), gb3, kb3, gb2, kb2, gb1, kb1, (ra, ObjP A "com/example/callweave/callweave/model/MethodRef" [("com/example/callweave/callweave/model/MethodRef", "owner", "Ljava/lang/String;", .ref a1), ("com/example/callweave/callweave/model/MethodRef", "name", "Ljava/lang/String;", .ref a2), ("com/example/callweave/callweave/model/MethodRef", "descriptor", "Ljava/lang/String;", .ref a3)]), ga3, ka3, ga2, ka2, ga1, ka1] a2 [v_n1] := Sa2.cons
  replace Sa3 : StrL A [(rf, ObjP A "com/example/callweave/callweave/model/FieldRef" [("com/example/callweave/callweave/model/FieldRef", "owner", "Ljava/lang/String;", .ref c1), ("com/example/callweave/callweave/model/FieldRef", "name", "Ljava/lang/String;", .ref c2), ("com/example/callweave/callweave/model/FieldRef", "descriptor", "Ljava/lang/String;", .ref c3)]), gc3, kc3, gc2, kc2, gc1, kc1, (rb, ObjP A "com/example/callweave/callweave/model/MethodRef" [("com/example/callweave/callweave/model/MethodRef", "owner", "Ljava/lang/String;", .ref b1), ("com/example/callweave/callweave/model/MethodRef", "name", "Ljava/lang/String;", .ref b2), ("com/example/callweave/callweave/model/MethodRef", "descriptor", "Ljava/lang/String;", .ref b3)]), gb3, kb3, gb2, kb2, gb1, kb1, (ra, ObjP A "com/example/callweave/callweave/model/MethodRef" [("com/example/callweave/callweave/model/MethodRef", "owner", "Ljava/lang/String;", .ref a1), ("com/example/callweave/callweave/model/MethodRef", "name", "Ljava/lang/String;", .ref a2), ("com/example/callweave/callweave/model/MethodRef", "descriptor", "Ljava/lang/String;", .ref a3)]), ga3, ka3, ga2, ka2, ga1, ka1] a3 [40, v_p1, 41, v_r1] := Sa3.cons
  replace Sb1 : StrL A [(rf, ObjP A "com/example/callweave/callweave/model/FieldRef" [("com/example/callweave/callweave/model/FieldRef", "owner", "Ljava/lang/String;", .ref c1), ("com/example/callweave/callweave/model/FieldRef", "name", "Ljava/lang/String;", .ref c2), ("com/example/callweave/callweave/model/FieldRef", "descriptor", "Ljava/lang/String;", .ref c3)]), gc3, kc3, gc2, kc2, gc1, kc1, (rb, ObjP A "com/example/callweave/callweave/model/MethodRef" [("com/example/callweave/callweave/model/MethodRef", "owner", "Ljava/lang/String;", .ref b1), ("com/example/callweave/callweave/model/MethodRef", "name", "Ljava/lang/String;", .ref b2), ("com/example/callweave/callweave/model/MethodRef", "descriptor", "Ljava/lang/String;", .ref b3)]), gb3, kb3, gb2, kb2, gb1, kb1, (ra, ObjP A "com/example/callweave/callweave/model/MethodRef" [("com/example/callweave/callweave/model/MethodRef", "owner", "Ljava/lang/String;", .ref a1), ("com/example/callweave/callweave/model/MethodRef", "name", "Ljava/lang/String;", .ref a2), ("com/example/callweave/callweave/model/MethodRef", "descriptor", "Ljava/lang/String;", .ref a3)]), ga3, ka3, ga2, ka2, ga1, ka1] b1 [v_o2] := Sb1.cons
  replace Sb2 : StrL A [(rf, ObjP A "com/example/callweave/callweave/model/FieldRef" [("com/example/callweave/callweave/model/FieldRef", "owner", "Ljava/lang/String;", .ref c1), ("com/example/callweave/callweave/model/FieldRef", "name", "Ljava/lang/String;", .ref c2), ("com/example/callweave/callweave/model/FieldRef", "descriptor", "Ljava/lang/String;", .ref c3)]), gc3, kc3, gc2, kc2, gc1, kc1, (rb, ObjP A "com/example/callweave/callweave/model/MethodRef" [("com/example/callweave/callweave/model/MethodRef", "owner", "Ljava/lang/String;", .ref b1), ("com/example/callweave/callweave/model/MethodRef", "name", "Ljava/lang/String;", .ref b2), ("com/example/callweave/callweave/model/MethodRef", "descriptor", "Ljava/lang/String;", .ref b3)]), gb3, kb3, gb2, kb2, gb1, kb1, (ra, ObjP A "com/example/callweave/callweave/model/MethodRef" [("com/example/callweave/callweave/model/MethodRef", "owner", "Ljava/lang/String;", .ref a1), ("com/example/callweave/callweave/model/MethodRef", "name", "Ljava/lang/String;", .ref a2), ("com/example/callweave/callweave/model/MethodRef", "descriptor", "Ljava/lang/String;", .ref a3)]), ga3, ka3, ga2, ka2, ga1, ka1] b2 [v_n2] := Sb2.cons
  replace Sb3 : StrL A [(rf, ObjP A "com/example/callweave/callweave/model/FieldRef" [("com/example/callweave/callweave/model/FieldRef", "owner", "Ljava/lang/String;", .ref c1), ("com/example/callweave/callweave/model/FieldRef", "name", "Ljava/lang/String;", .ref c2), ("com/example/callweave/callweave/model/FieldRef", "descriptor", "Ljava/lang/String;", .ref c3)]), gc3, kc3, gc2, kc2, gc1, kc1, (rb, ObjP A "com/example/callweave/callweave/model/MethodRef" [("com/example/callweave/callweave/model/MethodRef", "owner", "Ljava/lang/String;", .ref b1), ("com/example/callweave/callweave/model/MethodRef", "name", "Ljava/lang/String;", .ref b2), ("com/example/callweave/callweave/model/MethodRef", "descriptor", "Ljava/lang/String;", .ref b3)]), gb3, kb3, gb2, kb2, gb1, kb1, (ra, ObjP A "com/example/callweave/callweave/model/MethodRef" [("com/example/callweave/callweave/model/MethodRef", "owner", "Ljava/lang/String;", .ref a1), ("com/example/callweave/callweave/model/MethodRef", "name", "Ljava/lang/String;", .ref a2), ("com/example/callweave/callweave/model/MethodRef", "descriptor", "Ljava/lang/String;", .ref a3)]), ga3, ka3, ga2, ka2, ga1, ka1] b3 [40, v_p2, 41, v_r2] := Sb3.cons
  replace Sc1 : StrL A [(rf, ObjP A "com/example/callweave/callweave/model/FieldRef" [("com/example/callweave/callweave/model/FieldRef", "owner", "Ljava/lang/String;", .ref c1), ("com/example/callweave/callweave/model/FieldRef", "name", "Ljava/lang/String;", .ref c2), ("com/example/callweave/callweave/model/FieldRef", "descriptor", "Ljava/lang/String;", .ref c3)]), gc3, kc3, gc2, kc2, gc1, kc1, (rb, ObjP A "com/example/callweave/callweave/model/MethodRef" [("com/example/callweave/callweave/model/MethodRef", "owner", "Ljava/lang/String;", .ref b1), ("com/example/callweave/callweave/model/MethodRef", "name", "Ljava/lang/String;", .ref b2), ("com/example/callweave/callweave/model/MethodRef", "descriptor", "Ljava/lang/String;", .ref b3)]), gb3, kb3, gb2, kb2, gb1, kb1, (ra, ObjP A "com/example/callweave/callweave/model/MethodRef" [("com/example/callweave/callweave/model/MethodRef", "owner", "Ljava/lang/String;", .ref a1), ("com/example/callweave/callweave/model/MethodRef", "name", "Ljava/lang/String;", .ref a2), ("com/example/callweave/callweave/model/MethodRef", "descriptor", "Ljava/lang/String;", .ref a3)]), ga3, ka3, ga2, ka2, ga1, ka1] c1 [v_o1] := Sc1.cons
  replace Sc2 : StrL A [(rf, ObjP A "com/example/callweave/callweave/model/FieldRef" [("com/example/callweave/callweave/model/FieldRef", "owner", "Ljava/lang/String;", .ref c1), ("com/example/callweave/callweave/model/FieldRef", "name", "Ljava/lang/String;", .ref c2), ("com/example/callweave/callweave/model/FieldRef", "descriptor", "Ljava/lang/String;", .ref c3)]), gc3, kc3, gc2, kc2, gc1, kc1, (rb, ObjP A "com/example/callweave/callweave/model/MethodRef" [("com/example/callweave/callweave/model/MethodRef", "owner", "Ljava/lang/String;", .ref b1), ("com/example/callweave/callweave/model/MethodRef", "name", "Ljava/lang/String;", .ref b2), ("com/example/callweave/callweave/model/MethodRef", "descriptor", "Ljava/lang/String;", .ref b3)]), gb3, kb3, gb2, kb2, gb1, kb1, (ra, ObjP A "com/example/callweave/callweave/model/MethodRef" [("com/example/callweave/callweave/model/MethodRef", "owner", "Ljava/lang/String;", .ref a1), ("com/example/callweave/callweave/model/MethodRef", "name", "Ljava/lang/String;", .ref a2), ("com/example/callweave/callweave/model/MethodRef", "descriptor", "Ljava/lang/String;", .ref a3)]), ga3, ka3, ga2, ka2, ga1, ka1] c2 [v_n1] := Sc2.cons
  replace Sc3 : StrL A [(rf, ObjP A "com/example/callweave/callweave/model/FieldRef" [("com/example/callweave/callweave/model/FieldRef", "owner", "Ljava/lang/String;", .ref c1), ("com/example/callweave/callweave/model/FieldRef", "name", "Ljava/lang/String;", .ref c2), ("com/example/callweave/callweave/model/FieldRef", "descriptor", "Ljava/lang/String;", .ref c3)]), gc3, kc3, gc2, kc2, gc1, kc1, (rb, ObjP A "com/example/callweave/callweave/model/MethodRef" [("com/example/callweave/callweave/model/MethodRef", "owner", "Ljava/lang/String;", .ref b1), ("com/example/callweave/callweave/model/MethodRef", "name", "Ljava/lang/String;", .ref b2), ("com/example/callweave/callweave/model/MethodRef", "descriptor", "Ljava/lang/String;", .ref b3)]), gb3, kb3, gb2, kb2, gb1, kb1, (ra, ObjP A "com/example/callweave/callweave/model/MethodRef" [("com/example/callweave/callweave/model/MethodRef", "owner", "Ljava/lang/String;", .ref a1), ("com/example/callweave/callweave/model/MethodRef", "name", "Ljava/lang/String;", .ref a2), ("com/example/callweave/callweave/model/MethodRef", "descriptor", "Ljava/lang/String;", .ref a3)]), ga3, ka3, ga2, ka2, ga1, ka1] c3 [v_p1] := Sc3.cons
  have mra : (ra, ObjP A "com/example/callweave/callweave/model/MethodRef" [("com/example/callweave/callweave/model/MethodRef", "owner", "Ljava/lang/String;", .ref a1), ("com/example/callweave/callweave/model/MethodRef", "name", "Ljava/lang/String;", .ref a2), ("com/example/callweave/callweave/model/MethodRef", "descriptor", "Ljava/lang/String;", .ref a3)]) ∈ [(rf, ObjP A "com/example/callweave/callweave/model/FieldRef" [("com/example/callweave/callweave/model/FieldRef", "owner", "Ljava/lang/String;", .ref c1), ("com/example/callweave/callweave/model/FieldRef", "name", "Ljava/lang/String;", .ref c2), ("com/example/callweave/callweave/model/FieldRef", "descriptor", "Ljava/lang/String;", .ref c3)]), gc3, kc3, gc2, kc2, gc1, kc1, (rb, ObjP A "com/example/callweave/callweave/model/MethodRef" [("com/example/callweave/callweave/model/MethodRef", "owner", "Ljava/lang/String;", .ref b1), ("com/example/callweave/callweave/model/MethodRef", "name", "Ljava/lang/String;", .ref b2), ("com/example/callweave/callweave/model/MethodRef", "descriptor", "Ljava/lang/String;", .ref b3)]), gb3, kb3, gb2, kb2, gb1, kb1, (ra, ObjP A "com/example/callweave/callweave/model/MethodRef" [("com/example/callweave/callweave/model/MethodRef", "owner", "Ljava/lang/String;", .ref a1), ("com/example/callweave/callweave/model/MethodRef", "name", "Ljava/lang/String;", .ref a2), ("com/example/callweave/callweave/model/MethodRef", "descriptor", "Ljava/lang/String;", .ref a3)]), ga3, ka3, ga2, ka2, ga1, ka1] := List.mem_of_getElem? (i := 14) rfl
  have mrb : (rb, ObjP A "com/example/callweave/callweave/model/MethodRef" [("com/example/callweave/callweave/model/MethodRef", "owner", "Ljava/lang/String;", .ref b1), ("com/example/callweave/callweave/model/MethodRef", "name", "Ljava/lang/String;", .ref b2), ("com/example/callweave/callweave/model/MethodRef", "descriptor", "Ljava/lang/String;", .ref b3)]) ∈ [(rf, ObjP A "com/example/callweave/callweave/model/FieldRef" [("com/example/callweave/callweave/model/FieldRef", "owner", "Ljava/lang/String;", .ref c1), ("com/example/callweave/callweave/model/FieldRef", "name", "Ljava/lang/String;", .ref c2), ("com/example/callweave/callweave/model/FieldRef", "descriptor", "Ljava/lang/String;", .ref c3)]), gc3, kc3, gc2, kc2, gc1, kc1, (rb, ObjP A "com/example/callweave/callweave/model/MethodRef" [("com/example/callweave/callweave/model/MethodRef", "owner", "Ljava/lang/String;", .ref b1), ("com/example/callweave/callweave/model/MethodRef", "name", "Ljava/lang/String;", .ref b2), ("com/example/callweave/callweave/model/MethodRef", "descriptor", "Ljava/lang/String;", .ref b3)]), gb3, kb3, gb2, kb2, gb1, kb1, (ra, ObjP A "com/example/callweave/callweave/model/MethodRef" [("com/example/callweave/callweave/model/MethodRef", "owner", "Ljava/lang/String;", .ref a1), ("com/example/callweave/callweave/model/MethodRef", "name", "Ljava/lang/String;", .ref a2), ("com/example/callweave/callweave/model/MethodRef", "descriptor", "Ljava/lang/String;", .ref a3)]), ga3, ka3, ga2, ka2, ga1, ka1] := List.mem_of_getElem? (i := 7) rfl
  have mrf : (rf, ObjP A "com/example/callweave/callweave/model/FieldRef" [("com/example/callweave/callweave/model/FieldRef", "owner", "Ljava/lang/String;", .ref c1), ("com/example/callweave/callweave/model/FieldRef", "name", "Ljava/lang/String;", .ref c2), ("com/example/callweave/callweave/model/FieldRef", "descriptor", "Ljava/lang/String;", .ref c3)]) ∈ [(rf, ObjP A "com/example/callweave/callweave/model/FieldRef" [("com/example/callweave/callweave/model/FieldRef", "owner", "Ljava/lang/String;", .ref c1), ("com/example/callweave/callweave/model/FieldRef", "name", "Ljava/lang/String;", .ref c2), ("com/example/callweave/callweave/model/FieldRef", "descriptor", "Ljava/lang/String;", .ref c3)]), gc3, kc3, gc2, kc2, gc1, kc1, (rb, ObjP A "com/example/callweave/callweave/model/MethodRef" [("com/example/callweave/callweave/model/MethodRef", "owner", "Ljava/lang/String;", .ref b1), ("com/example/callweave/callweave/model/MethodRef", "name", "Ljava/lang/String;", .ref b2), ("com/example/callweave/callweave/model/MethodRef", "descriptor", "Ljava/lang/String;", .ref b3)]), gb3, kb3, gb2, kb2, gb1, kb1, (ra, ObjP A "com/example/callweave/callweave/model/MethodRef" [("com/example/callweave/callweave/model/MethodRef", "owner", "Ljava/lang/String;", .ref a1), ("com/example/callweave/callweave/model/MethodRef", "name", "Ljava/lang/String;", .ref a2), ("com/example/callweave/callweave/model/MethodRef", "descriptor", "Ljava/lang/String;", .ref a3)]), ga3, ka3, ga2, ka2, ga1, ka1] := List.mem_of_getElem? (i := 0) rfl
  generalize hGG : [(rf, ObjP A "com/example/callweave/callweave/model/FieldRef" [("com/example/callweave/callweave/model/FieldRef", "owner", "Ljava/lang/String;", .ref c1), ("com/example/callweave/callweave/model/FieldRef", "name", "Ljava/lang/String;", .ref c2), ("com/example/callweave/callweave/model/FieldRef", "descriptor", "Ljava/lang/String;", .ref c3)]), gc3, kc3, gc2, kc2, gc1, kc1, (rb, ObjP A "com/example/callweave/callweave/model/MethodRef" [("com/example/callweave/callweave/model/MethodRef", "owner", "Ljava/lang/String;", .ref b1), ("com/example/callweave/callweave/model/MethodRef", "name", "Ljava/lang/String;", .ref b2), ("com/example/callweave/callweave/model/MethodRef", "descriptor", "Ljava/lang/String;", .ref b3)]), gb3, kb3, gb2, kb2, gb1, kb1, (ra, ObjP A "com/example/callweave/callweave/model/MethodRef" [("com/example/callweave/callweave/model/MethodRef", "owner", "Ljava/lang/String;", .ref a1), ("com/example/callweave/callweave/model/MethodRef", "name", "Ljava/lang/String;", .ref a2), ("com/example/callweave/callweave/model/MethodRef", "descriptor", "Ljava/lang/String;", .ref a3)]), ga3, ka3, ga2, ka2, ga1, ka1] = GG at *
  exact t_same K h_o1 h_n1 h_p1 h_r1 h_o2 h_n2 h_p2 h_r2 mra mrb mrf Sa1 Sa2 Sa3 Sb1 Sb2 Sb3
set_option maxRecDepth 65536 in
set_option maxHeartbeats 4000000 in
theorem t88 {A : Ax} (K : Wd A) {D : Dx} {v_a v_b v_m v_o1 v_n1 v_p1 v_r1 v_o2 v_n2 v_p2 : Int32} (h_o1 : Sf v_o1) (h_n1 : Sn v_n1) (h_p1 : Pm v_p1) (h_r1 : Pm v_r1) (h_o2 : Sf v_o2) (h_n2 : Sn v_n2) (h_p2 : Pm v_p2) : Go A B_law D (fun v _ _ => v = some (.int 1)) 88 [.val (.int v_a), .val (.int v_b), .val (.int v_m), .val (.int v_o1), .val (.int v_n1), .val (.int v_p1), .val (.int v_r1), .val (.int v_o2), .val (.int v_n2), .val (.int v_p2), .unset, .unset, .unset, .unset, .unset] [] [] [] 6 108 := by
  refine Go.run (B := B_law) td_law 49 3 (pc' := 92) (L' := [.val (.int v_a), .val (.int v_b), .val (.int v_m), .val (.int v_o1), .val (.int v_n1), .val (.int v_p1), .val (.int v_r1), .val (.int v_o2), .val (.int v_n2), .val (.int v_p2), .unset, .unset, .unset, .unset, .unset]) (S' := [.int (v_m &&& (8 : Int32))]) rfl ?_
  refine Go.if0 (B := B_law) td_law 52 (pc' := 100) rfl (by decide) rfl ?_ ?_
  · intro (hc : (v_m &&& (8 : Int32)) = 0)
    refine Go.run (B := B_law) td_law 55 3 (pc' := 104) (L' := [.val (.int v_a), .val (.int v_b), .val (.int v_m), .val (.int v_o1), .val (.int v_n1), .val (.int v_p1), .val (.int v_r1), .val (.int v_o2), .val (.int v_n2), .val (.int v_p2), .unset, .unset, .unset, .unset, .unset]) (S' := [.int (Jvm.Free.XT.ushr v_b (19 : Int32))]) rfl ?_
    refine Go.callS (B := B_law) td_law 58 (B' := B_prm) (argsL := [.int (Jvm.Free.XT.ushr v_b (19 : Int32))]) (rest := []) (W := 0) rfl (prm_met K) (w_7 K) (w_8 K) (w_2 K) (w_9 K) (by decide) pd_prm rfl rfl rfl rfl (Nat.le_of_eq rfl) (by decide) (by decide) (by decide) (by decide) ?_
    rintro _ _ _ ⟨r, rfl, hr, rfl, rfl⟩
    show Go A B_law D _ 107 [.val (.int v_a), .val (.int v_b), .val (.int v_m), .val (.int v_o1), .val (.int v_n1), .val (.int v_p1), .val (.int v_r1), .val (.int v_o2), .val (.int v_n2), .val (.int v_p2), .unset, .unset, .unset, .unset, .unset] [.int r] [] [] 8 144
    refine Go.run (B := B_law) td_law 59 1 (pc' := 109) (L' := [.val (.int v_a), .val (.int v_b), .val (.int v_m), .val (.int v_o1), .val (.int v_n1), .val (.int v_p1), .val (.int v_r1), .val (.int v_o2), .val (.int v_n2), .val (.int v_p2), .val (.int r), .unset, .unset, .unset, .unset]) (S' := []) rfl ?_
    exact t109 K h_o1 h_n1 h_p1 h_r1 h_o2 h_n2 h_p2 hr
  · intro (hc : ¬ ((v_m &&& (8 : Int32)) = 0))
    refine Go.run (B := B_law) td_law 53 2 (pc' := 107) (L' := [.val (.int v_a), .val (.int v_b), .val (.int v_m), .val (.int v_o1), .val (.int v_n1), .val (.int v_p1), .val (.int v_r1), .val (.int v_o2), .val (.int v_n2), .val (.int v_p2), .unset, .unset, .unset, .unset, .unset]) (S' := [.int v_r1]) rfl ?_
    refine Go.run (B := B_law) td_law 59 1 (pc' := 109) (L' := [.val (.int v_a), .val (.int v_b), .val (.int v_m), .val (.int v_o1), .val (.int v_n1), .val (.int v_p1), .val (.int v_r1), .val (.int v_o2), .val (.int v_n2), .val (.int v_p2), .val (.int v_r1), .unset, .unset, .unset, .unset]) (S' := []) rfl ?_
    exact Go.mono (by decide) (by decide) (t109 K h_o1 h_n1 h_p1 h_r1 h_o2 h_n2 h_p2 h_r1)
set_option maxRecDepth 65536 in
set_option maxHeartbeats 4000000 in
theorem t68 {A : Ax} (K : Wd A) {D : Dx} {v_a v_b v_m v_o1 v_n1 v_p1 v_r1 v_o2 v_n2 : Int32} (h_o1 : Sf v_o1) (h_n1 : Sn v_n1) (h_p1 : Pm v_p1) (h_r1 : Pm v_r1) (h_o2 : Sf v_o2) (h_n2 : Sn v_n2) : Go A B_law D (fun v _ _ => v = some (.int 1)) 68 [.val (.int v_a), .val (.int v_b), .val (.int v_m), .val (.int v_o1), .val (.int v_n1), .val (.int v_p1), .val (.int v_r1), .val (.int v_o2), .val (.int v_n2), .unset, .unset, .unset, .unset, .unset, .unset] [] [] [] 4 72 := by
  refine Go.run (B := B_law) td_law 38 3 (pc' := 71) (L' := [.val (.int v_a), .val (.int v_b), .val (.int v_m), .val (.int v_o1), .val (.int v_n1), .val (.int v_p1), .val (.int v_r1), .val (.int v_o2), .val (.int v_n2), .unset, .unset, .unset, .unset, .unset, .unset]) (S' := [.int (v_m &&& (4 : Int32))]) rfl ?_
  refine Go.if0 (B := B_law) td_law 41 (pc' := 79) rfl (by decide) rfl ?_ ?_
  · intro (hc : (v_m &&& (4 : Int32)) = 0)
    refine Go.run (B := B_law) td_law 44 3 (pc' := 83) (L' := [.val (.int v_a), .val (.int v_b), .val (.int v_m), .val (.int v_o1), .val (.int v_n1), .val (.int v_p1), .val (.int v_r1), .val (.int v_o2), .val (.int v_n2), .unset, .unset, .unset, .unset, .unset, .unset]) (S' := [.int (Jvm.Free.XT.ushr v_b (16 : Int32))]) rfl ?_
    refine Go.callS (B := B_law) td_law 47 (B' := B_prm) (argsL := [.int (Jvm.Free.XT.ushr v_b (16 : Int32))]) (rest := []) (W := 0) rfl (prm_met K) (w_7 K) (w_8 K) (w_2 K) (w_9 K) (by decide) pd_prm rfl rfl rfl rfl (Nat.le_of_eq rfl) (by decide) (by decide) (by decide) (by decide) ?_
    rintro _ _ _ ⟨r, rfl, hr, rfl, rfl⟩
    show Go A B_law D _ 86 [.val (.int v_a), .val (.int v_b), .val (.int v_m), .val (.int v_o1), .val (.int v_n1), .val (.int v_p1), .val (.int v_r1), .val (.int v_o2), .val (.int v_n2), .unset, .unset, .unset, .unset, .unset, .unset] [.int r] [] [] 6 108
    refine Go.run (B := B_law) td_law 48 1 (pc' := 88) (L' := [.val (.int v_a), .val (.int v_b), .val (.int v_m), .val (.int v_o1), .val (.int v_n1), .val (.int v_p1), .val (.int v_r1), .val (.int v_o2), .val (.int v_n2), .val (.int r), .unset, .unset, .unset, .unset, .unset]) (S' := []) rfl ?_
    exact t88 K h_o1 h_n1 h_p1 h_r1 h_o2 h_n2 hr
  · intro (hc : ¬ ((v_m &&& (4 : Int32)) = 0))
    refine Go.run (B := B_law) td_law 42 2 (pc' := 86) (L' := [.val (.int v_a), .val (.int v_b), .val (.int v_m), .val (.int v_o1), .val (.int v_n1), .val (.int v_p1), .val (.int v_r1), .val (.int v_o2), .val (.int v_n2), .unset, .unset, .unset, .unset, .unset, .unset]) (S' := [.int v_p1]) rfl ?_
    refine Go.run (B := B_law) td_law 48 1 (pc' := 88) (L' := [.val (.int v_a), .val (.int v_b), .val (.int v_m), .val (.int v_o1), .val (.int v_n1), .val (.int v_p1), .val (.int v_r1), .val (.int v_o2), .val (.int v_n2), .val (.int v_p1), .unset, .unset, .unset, .unset, .unset]) (S' := []) rfl ?_
    exact Go.mono (by decide) (by decide) (t88 K h_o1 h_n1 h_p1 h_r1 h_o2 h_n2 h_p1)
set_option maxRecDepth 65536 in
set_option maxHeartbeats 4000000 in
theorem t48 {A : Ax} (K : Wd A) {D : Dx} {v_a v_b v_m v_o1 v_n1 v_p1 v_r1 v_o2 : Int32} (h_o1 : Sf v_o1) (h_n1 : Sn v_n1) (h_p1 : Pm v_p1) (h_r1 : Pm v_r1) (h_o2 : Sf v_o2) : Go A B_law D (fun v _ _ => v = some (.int 1)) 48 [.val (.int v_a), .val (.int v_b), .val (.int v_m), .val (.int v_o1), .val (.int v_n1), .val (.int v_p1), .val (.int v_r1), .val (.int v_o2), .unset, .unset, .unset, .unset, .unset, .unset, .unset] [] [] [] 4 72 := by
  refine Go.run (B := B_law) td_law 27 3 (pc' := 51) (L' := [.val (.int v_a), .val (.int v_b), .val (.int v_m), .val (.int v_o1), .val (.int v_n1), .val (.int v_p1), .val (.int v_r1), .val (.int v_o2), .unset, .unset, .unset, .unset, .unset, .unset, .unset]) (S' := [.int (v_m &&& (2 : Int32))]) rfl ?_
  refine Go.if0 (B := B_law) td_law 30 (pc' := 59) rfl (by decide) rfl ?_ ?_
  · intro (hc : (v_m &&& (2 : Int32)) = 0)
    refine Go.run (B := B_law) td_law 33 3 (pc' := 63) (L' := [.val (.int v_a), .val (.int v_b), .val (.int v_m), .val (.int v_o1), .val (.int v_n1), .val (.int v_p1), .val (.int v_r1), .val (.int v_o2), .unset, .unset, .unset, .unset, .unset, .unset, .unset]) (S' := [.int (Jvm.Free.XT.ushr v_b (8 : Int32))]) rfl ?_
    refine Go.callS (B := B_law) td_law 36 (B' := B_nch) (argsL := [.int (Jvm.Free.XT.ushr v_b (8 : Int32))]) (rest := []) (W := 0) rfl (nch_met K) (w_4 K) (w_5 K) (w_2 K) (w_6 K) (by decide) pd_nch rfl rfl rfl rfl (Nat.le_of_eq rfl) (by decide) (by decide) (by decide) (by decide) ?_
    rintro _ _ _ ⟨r, rfl, hr, rfl, rfl⟩
    show Go A B_law D _ 66 [.val (.int v_a), .val (.int v_b), .val (.int v_m), .val (.int v_o1), .val (.int v_n1), .val (.int v_p1), .val (.int v_r1), .val (.int v_o2), .unset, .unset, .unset, .unset, .unset, .unset, .unset] [.int r] [] [] 4 72
    refine Go.run (B := B_law) td_law 37 1 (pc' := 68) (L' := [.val (.int v_a), .val (.int v_b), .val (.int v_m), .val (.int v_o1), .val (.int v_n1), .val (.int v_p1), .val (.int v_r1), .val (.int v_o2), .val (.int r), .unset, .unset, .unset, .unset, .unset, .unset]) (S' := []) rfl ?_
    exact t68 K h_o1 h_n1 h_p1 h_r1 h_o2 hr
  · intro (hc : ¬ ((v_m &&& (2 : Int32)) = 0))
    refine Go.run (B := B_law) td_law 31 2 (pc' := 66) (L' := [.val (.int v_a), .val (.int v_b), .val (.int v_m), .val (.int v_o1), .val (.int v_n1), .val (.int v_p1), .val (.int v_r1), .val (.int v_o2), .unset, .unset, .unset, .unset, .unset, .unset, .unset]) (S' := [.int v_n1]) rfl ?_
    refine Go.run (B := B_law) td_law 37 1 (pc' := 68) (L' := [.val (.int v_a), .val (.int v_b), .val (.int v_m), .val (.int v_o1), .val (.int v_n1), .val (.int v_p1), .val (.int v_r1), .val (.int v_o2), .val (.int v_n1), .unset, .unset, .unset, .unset, .unset, .unset]) (S' := []) rfl ?_
    exact t68 K h_o1 h_n1 h_p1 h_r1 h_o2 h_n1
set_option maxRecDepth 65536 in
set_option maxHeartbeats 4000000 in
theorem t32 {A : Ax} (K : Wd A) {D : Dx} {v_a v_b v_m v_o1 v_n1 v_p1 v_r1 : Int32} (h_o1 : Sf v_o1) (h_n1 : Sn v_n1) (h_p1 : Pm v_p1) (h_r1 : Pm v_r1) : Go A B_law D (fun v _ _ => v = some (.int 1)) 32 [.val (.int v_a), .val (.int v_b), .val (.int v_m), .val (.int v_o1), .val (.int v_n1), .val (.int v_p1), .val (.int v_r1), .unset, .unset, .unset, .unset, .unset, .unset, .unset, .unset] [] [] [] 4 72 := by
  refine Go.run (B := B_law) td_law 18 3 (pc' := 35) (L' := [.val (.int v_a), .val (.int v_b), .val (.int v_m), .val (.int v_o1), .val (.int v_n1), .val (.int v_p1), .val (.int v_r1), .unset, .unset, .unset, .unset, .unset, .unset, .unset, .unset]) (S' := [.int (v_m &&& (1 : Int32))]) rfl ?_
  refine Go.if0 (B := B_law) td_law 21 (pc' := 42) rfl (by decide) rfl ?_ ?_
  · intro (hc : (v_m &&& (1 : Int32)) = 0)
    refine Go.run (B := B_law) td_law 24 1 (pc' := 43) (L' := [.val (.int v_a), .val (.int v_b), .val (.int v_m), .val (.int v_o1), .val (.int v_n1), .val (.int v_p1), .val (.int v_r1), .unset, .unset, .unset, .unset, .unset, .unset, .unset, .unset]) (S' := [.int v_b]) rfl ?_
    refine Go.callS (B := B_law) td_law 25 (B' := B_och) (argsL := [.int v_b]) (rest := []) (W := 0) rfl (och_met K) (w_0 K) (w_1 K) (w_2 K) (w_3 K) (by decide) pd_och rfl rfl rfl rfl (Nat.le_of_eq rfl) (by decide) (by decide) (by decide) (by decide) ?_
    rintro _ _ _ ⟨r, rfl, hr, rfl, rfl⟩
    show Go A B_law D _ 46 [.val (.int v_a), .val (.int v_b), .val (.int v_m), .val (.int v_o1), .val (.int v_n1), .val (.int v_p1), .val (.int v_r1), .unset, .unset, .unset, .unset, .unset, .unset, .unset, .unset] [.int r] [] [] 4 72
    refine Go.run (B := B_law) td_law 26 1 (pc' := 48) (L' := [.val (.int v_a), .val (.int v_b), .val (.int v_m), .val (.int v_o1), .val (.int v_n1), .val (.int v_p1), .val (.int v_r1), .val (.int r), .unset, .unset, .unset, .unset, .unset, .unset, .unset]) (S' := []) rfl ?_
    exact t48 K h_o1 h_n1 h_p1 h_r1 hr
  · intro (hc : ¬ ((v_m &&& (1 : Int32)) = 0))
    refine Go.run (B := B_law) td_law 22 2 (pc' := 46) (L' := [.val (.int v_a), .val (.int v_b), .val (.int v_m), .val (.int v_o1), .val (.int v_n1), .val (.int v_p1), .val (.int v_r1), .unset, .unset, .unset, .unset, .unset, .unset, .unset, .unset]) (S' := [.int v_o1]) rfl ?_
    refine Go.run (B := B_law) td_law 26 1 (pc' := 48) (L' := [.val (.int v_a), .val (.int v_b), .val (.int v_m), .val (.int v_o1), .val (.int v_n1), .val (.int v_p1), .val (.int v_r1), .val (.int v_o1), .unset, .unset, .unset, .unset, .unset, .unset, .unset]) (S' := []) rfl ?_
    exact t48 K h_o1 h_n1 h_p1 h_r1 h_o1
--CUT
theorem own_entry {as' : Array Value} {n : Nat} {L : List Slot} (h : Jvm.Sym.laidSlots as'.toList ++ List.replicate (n - (Jvm.Sym.laidSlots as'.toList).length) .unset = L) (m : MethodId) : entryFrame m as' n = mkF m 0 L.toArray [] := by
  have e : argsToLocals as' n = L.toArray := Array.ext' (by rw [Jvm.Sym.argsToLocals_toList, h])
  show ({ method := m, pc := 0, locals := argsToLocals as' n, stack := [], locked := none } : JFrame) = _
  rw [e]
set_option maxRecDepth 65536 in
set_option maxHeartbeats 4000000 in
theorem law_met {A : Ax} (K : Wd A) (v_a v_b v_m : Int32) : MetW tables_1 A B_law #[.int v_a, .int v_b, .int v_m] [] [] (fun v _ _ => v = some (.int 1)) := by
  refine MetW.of_go pn_law K.ew (L := [.val (.int v_a), .val (.int v_b), .val (.int v_m), .unset, .unset, .unset, .unset, .unset, .unset, .unset, .unset, .unset, .unset, .unset, .unset]) (own_entry rfl) ?_
  intro D _
  refine Go.run (B := B_law) td_law 0 1 (pc' := 1) (L' := [.val (.int v_a), .val (.int v_b), .val (.int v_m), .unset, .unset, .unset, .unset, .unset, .unset, .unset, .unset, .unset, .unset, .unset, .unset]) (S' := [.int v_a]) rfl ?_
  refine Go.callS (B := B_law) td_law 1 (B' := B_och) (argsL := [.int v_a]) (rest := []) (W := 0) rfl (och_met K) (w_0 K) (w_1 K) (w_2 K) (w_3 K) (by decide) pd_och rfl rfl rfl rfl (Nat.le_of_eq rfl) (by decide) (by decide) (by decide) (by decide) ?_
  rintro _ _ _ ⟨u1, rfl, h1, rfl, rfl⟩
  show Go A B_law D _ 4 [.val (.int v_a), .val (.int v_b), .val (.int v_m), .unset, .unset, .unset, .unset, .unset, .unset, .unset, .unset, .unset, .unset, .unset, .unset] [.int u1] [] [] 0 0
  refine Go.run (B := B_law) td_law 2 4 (pc' := 9) (L' := [.val (.int v_a), .val (.int v_b), .val (.int v_m), .val (.int u1), .unset, .unset, .unset, .unset, .unset, .unset, .unset, .unset, .unset, .unset, .unset]) (S' := [.int (Jvm.Free.XT.ushr v_a (8 : Int32))]) rfl ?_
  refine Go.callS (B := B_law) td_law 6 (B' := B_nch) (argsL := [.int (Jvm.Free.XT.ushr v_a (8 : Int32))]) (rest := []) (W := 0) rfl (nch_met K) (w_4 K) (w_5 K) (w_2 K) (w_6 K) (by decide) pd_nch rfl rfl rfl rfl (Nat.le_of_eq rfl) (by decide) (by decide) (by decide) (by decide) ?_
  rintro _ _ _ ⟨u2, rfl, h2, rfl, rfl⟩
  show Go A B_law D _ 12 [.val (.int v_a), .val (.int v_b), .val (.int v_m), .val (.int u1), .unset, .unset, .unset, .unset, .unset, .unset, .unset, .unset, .unset, .unset, .unset] [.int u2] [] [] 0 0
  refine Go.run (B := B_law) td_law 7 4 (pc' := 18) (L' := [.val (.int v_a), .val (.int v_b), .val (.int v_m), .val (.int u1), .val (.int u2), .unset, .unset, .unset, .unset, .unset, .unset, .unset, .unset, .unset, .unset]) (S' := [.int (Jvm.Free.XT.ushr v_a (16 : Int32))]) rfl ?_
  refine Go.callS (B := B_law) td_law 11 (B' := B_prm) (argsL := [.int (Jvm.Free.XT.ushr v_a (16 : Int32))]) (rest := []) (W := 0) rfl (prm_met K) (w_7 K) (w_8 K) (w_2 K) (w_9 K) (by decide) pd_prm rfl rfl rfl rfl (Nat.le_of_eq rfl) (by decide) (by decide) (by decide) (by decide) ?_
  rintro _ _ _ ⟨u3, rfl, h3, rfl, rfl⟩
  show Go A B_law D _ 21 [.val (.int v_a), .val (.int v_b), .val (.int v_m), .val (.int u1), .val (.int u2), .unset, .unset, .unset, .unset, .unset, .unset, .unset, .unset, .unset, .unset] [.int u3] [] [] 2 36
  refine Go.run (B := B_law) td_law 12 4 (pc' := 27) (L' := [.val (.int v_a), .val (.int v_b), .val (.int v_m), .val (.int u1), .val (.int u2), .val (.int u3), .unset, .unset, .unset, .unset, .unset, .unset, .unset, .unset, .unset]) (S' := [.int (Jvm.Free.XT.ushr v_a (19 : Int32))]) rfl ?_
  refine Go.callS (B := B_law) td_law 16 (B' := B_prm) (argsL := [.int (Jvm.Free.XT.ushr v_a (19 : Int32))]) (rest := []) (W := 0) rfl (prm_met K) (w_7 K) (w_8 K) (w_2 K) (w_9 K) (by decide) pd_prm rfl rfl rfl rfl (Nat.le_of_eq rfl) (by decide) (by decide) (by decide) (by decide) ?_
  rintro _ _ _ ⟨u4, rfl, h4, rfl, rfl⟩
  show Go A B_law D _ 30 [.val (.int v_a), .val (.int v_b), .val (.int v_m), .val (.int u1), .val (.int u2), .val (.int u3), .unset, .unset, .unset, .unset, .unset, .unset, .unset, .unset, .unset] [.int u4] [] [] 4 72
  refine Go.run (B := B_law) td_law 17 1 (pc' := 32) (L' := [.val (.int v_a), .val (.int v_b), .val (.int v_m), .val (.int u1), .val (.int u2), .val (.int u3), .val (.int u4), .unset, .unset, .unset, .unset, .unset, .unset, .unset, .unset]) (S' := []) rfl ?_
  exact t32 K h1 h2 h3 h4
--CUT
set_option maxRecDepth 65536 in
set_option maxHeartbeats 4000000 in
theorem comes_1 {Post : Tables → Env → Array Value → State → Outcome → State → Prop} (hpost : ∀ tb e args s v u, (limb_1_1.after args s (.returned v) u = true ∧ limb_1_2.after args s (.returned v) u = true ∧ True) → FramedW s (.returned v) u (Jvm.fieldLocs frame_1_writes args s ++ Jvm.arrayLocs frame_1_arrays args s ++ Jvm.staticLocs frame_1_statics s) 96 15680 → Post tb e args s (.returned v) u) :
    ArmFor flags0 classFile x code maxLocals ret World_1 tables_1 room_1 Calls_1 rest_1 Pre_1 Post := by
  intro l hfl _ _ p e ha hc hk s m args below hf hA hF happ hP
  obtain ⟨hcalls, hrest, hpre⟩ := hP
  obtain ⟨-, -, -, hnamed, -, -, -, hat⟩ := (Spec.applies_iff hf).mp happ
  obtain ⟨hg, hn⟩ := and_e (Cond.before_iff.mp (show (Jvm.Cond.and given_1 narrow_1).before args s = true from hpre))
  obtain ⟨h1, g0⟩ := and_e hg
  obtain ⟨q0, g1⟩ := and_e g0
  obtain ⟨q1, g2⟩ := and_e g1
  have q2 := g2
  obtain ⟨w0, w1, w2, rfl⟩ : ∃ w0 w1 w2 : Value, args = #[w0, w1, w2] := by
    have hs : args.size = 3 := by simpa [Cond.value, given_1] using h1
    obtain ⟨L⟩ := args
    match L, hs with
    | [w0, w1, w2], _ => exact ⟨w0, w1, w2, rfl⟩
  have hw := fun d (hd : d ∈ tables_1) => atoms_spec (ws := Jvm.Cond.code x code maxLocals ret :: tables_1) hat d (List.mem_cons_of_mem _ hd)
  obtain ⟨i0, e0⟩ := is_v q0
  obtain rfl : w0 = (.int i0) := Option.some.inj e0
  obtain ⟨i1, e1⟩ := is_v q1
  obtain rfl : w1 = (.int i1) := Option.some.inj e1
  obtain ⟨i2, e2⟩ := is_v q2
  obtain rfl : w2 = (.int i2) := Option.some.inj e2
  let A : Ax := (l, s, #[.int i0, .int i1, .int i2], consts_1, true)
  obtain ⟨hsets, hown0⟩ := atoms_of _ (rest_1_c_eq ▸ (show rest_1_c.before _ s = true from hrest))
  have n5 := not_v (Cond.before_iff.mp (hsets _ (List.mem_of_getElem? (i := 2) rfl)))
  obtain ⟨zc, ec⟩ := is_v (Cond.before_iff.mp (hsets _ (List.mem_of_getElem? (i := 1) rfl)))
  have Sc : Sta s s.heap "java/lang/String" "COMPACT_STRINGS" "Z" (.int zc) := Sta.start ec (Or.inl (hsets _ (List.mem_of_getElem? (i := 0) rfl)))
  have nc : ¬ (zc = (0 : Int32)) := gotF (Cond.eq_ints ec (Term.int_eval (0))) n5
  obtain ⟨vf, ef, rf⟩ := isR_v (Cond.before_iff.mp (hsets _ (List.mem_of_getElem? (i := 8) rfl)))
  have Sf : Sta s s.heap "jdk/internal/util/Preconditions" "SIOOBE_FORMATTER" "Ljava/util/function/BiFunction;" vf := Sta.start ef (Or.inl (hsets _ (List.mem_of_getElem? (i := 7) rfl)))
  have hEW : EW s A.a0 consts_1 := (EW.cons (hw _ (List.mem_of_getElem? (i := 187) rfl)) (by decide) (EW.cons (hw _ (List.mem_of_getElem? (i := 189) rfl)) (by decide) (EW.cons (hw _ (List.mem_of_getElem? (i := 190) rfl)) (by decide) (EW.cons (hw _ (List.mem_of_getElem? (i := 103) rfl)) (by decide) (EW.cons (hw _ (List.mem_of_getElem? (i := 198) rfl)) (by decide) (EW.cons (hw _ (List.mem_of_getElem? (i := 205) rfl)) (by decide) (EW.cons (hw _ (List.mem_of_getElem? (i := 132) rfl)) (by decide) (EW.cons (hw _ (List.mem_of_getElem? (i := 158) rfl)) (by decide) (EW.cons (hw _ (List.mem_of_getElem? (i := 113) rfl)) (by decide) (EW.cons (hw _ (List.mem_of_getElem? (i := 123) rfl)) (by decide) (EW.cons (hw _ (List.mem_of_getElem? (i := 139) rfl)) (by decide) (EW.cons (hw _ (List.mem_of_getElem? (i := 75) rfl)) (by decide) (EW.cons (hw _ (List.mem_of_getElem? (i := 80) rfl)) (by decide) (EW.cons (hw _ (List.mem_of_getElem? (i := 81) rfl)) (by decide) (EW.cons (hw _ (List.mem_of_getElem? (i := 10) rfl)) (by decide) EW.nil)))))))))))))))
  have K : Wd A := ⟨hw, hEW, rfl, rfl, ⟨zc, nc, Sc⟩, ⟨vf, rf, Sf⟩⟩
  have hC : CHv s consts_1 s.vm s.heap := CHv.start hEW hcalls.1 (hsets _ (List.mem_of_getElem? (i := 2) rfl)) (hw _ (List.mem_of_getElem? (i := 13) rfl)) (hw _ (List.mem_of_getElem? (i := 12) rfl))
  have H : Hp s consts_1 s.vm s.heap [] [] := ⟨own_ext_refl _, fun _ q => (nomatch q), fun _ q => (nomatch q), List.nodup_nil, fun _ q => (nomatch q)⟩
  obtain ⟨n, o, h1, h2, h3, v, L, F', G', rfl, rfl, -, hN, -, hq⟩ := law_met K i0 i1 i2 p e ha hc hk s m _ below hf ((Spec.applies_iff_loose hf).mp happ).1 ⟨rfl, State.Warmed39.refl s, hC, H⟩ trivial
  refine ⟨n, _, h1, h2, h3, hpost _ _ _ _ _ _ ⟨Cond.after_iff.mpr rfl, Cond.after_iff.mpr (eq_i res_at (Term.int_eval (1)) rfl), trivial⟩ ⟨hq.1, hq.2.1, hq.2.2.1, (hq.2.2.2.sift fun y hy => Or.inr (hN.1 y hy)).mono (by decide) (by decide)⟩⟩
theorem main_1_1 : Claimed_1_1 := comes_1 fun _ _ _ _ _ _ h hF => ⟨h.1, hF⟩
theorem main_1_2 : Claimed_1_2 := comes_1 fun _ _ _ _ _ _ h hF => ⟨h.2.1, hF⟩
end Jvm.Pilot.@@N@@
namespace Jvm.Pilot.@@N@@
open Jvm Jvm.ClassFile Sem Op Lib Jvm.Free Jvm.Stand Jvm.Pilot.@@N@@.Jvm.D
/-! MADE BY PROGRAM (witnessworld.py) out of the Statement's table words and the real class files: 24 classes; the members and pool entries that the words name. The judged class is class 1, her method 4. -/
namespace start1
open Jvm.ClassFile
def u (s : String) : CpInfo := .utf8 (stringToUtf16 s)
/-- a pool by its gaps: so many unusable entries, then the entry; so many at the end -/
def gap : Nat → List CpInfo → List CpInfo
  | 0, r => r
  | n + 1, r => .unusable :: gap n r
def poolList (es : List (Nat × CpInfo)) (last : Nat) : List CpInfo := es.foldr (fun e r => gap e.1 (e.2 :: r)) (gap last [])
def pool (es : List (Nat × CpInfo)) (last : Nat) : Array CpInfo := ⟨poolList es last⟩
def fileOf (pool : Array CpInfo) (this : Nat) (attrs : Array Attribute := #[]) (ms : Array MethodInfo := #[]) (fl : Nat := 33) (sup : Nat := 0) (ifs : Array Nat := #[]) (fds : Array FieldInfo := #[]) : ClassFile where
  minorVersion := 0
  majorVersion := 65
  constantPool := pool
  accessFlags := fl
  thisClass := this
  superClass := sup
  interfaces := ifs
  fields := fds
  methods := ms
  attributes := attrs
def plain (name : String) (sup : Option ClassId) : Class where
  name := name
  kind := .ordinary
  loader := none
  accessFlags := 33
  super := sup
  interfaces := #[]
  cf := none
  fields := #[]
  methods := #[]
  instanceTypes := #[]
  staticTypes := #[]
  resolved := #[]
  callSites := []
  init := .initialized
  statics := none
  mirror := none

def pool0 : Array CpInfo := pool [(5, u "<init>"), (0, u "()V"), (1, .class_ 10), (1, u "java/lang/Object")] 113

def k0c0 : Code := { maxStack := 0, maxLocals := 1, code := object_method_1_code, exceptionTable := #[], attributes := #[] }
def k0m0 : Method := { name := "<init>", desc := "()V", sig := { parameters := [], returnType := none }, accessFlags := 1, code := some k0c0 }
/-- java/lang/Object -/
def k0 : Class := { plain "java/lang/Object" none with
  accessFlags := 33
  interfaces := #[]
  cf := some (fileOf pool0 8 #[] #[{ accessFlags := 1, nameIndex := 5, descriptorIndex := 6, attributes := #[] }] 33 0 #[] #[])
  fields := #[]
  methods := #[k0m0]
  instanceTypes := #[]
  staticTypes := #[]
  resolved := Array.replicate 124 none
  statics := none }

def pool1 : Array CpInfo := pool [(2, .class_ 4), (1, u "java/lang/Object"), (0, u "<init>"), (0, u "()V"), (0, .string 8), (0, u "BCDFIJSZ"), (0, .methodref 10 11), (0, .class_ 12), (0, .nameAndType 13 14), (0, u "java/lang/String"), (0, u "charAt"), (0, u "(I)C"), (0, .methodref 16 17), (0, .class_ 18), (0, .nameAndType 19 14), (0, u "com/example/callweave/callweave/model/MethodRefEqualsPinLaw"), (0, u "ownerChar"), (0, .methodref 16 21), (0, .nameAndType 22 14), (0, u "nameChar"), (0, .methodref 16 24), (0, .nameAndType 25 14), (0, u "prim"), (0, .class_ 27), (0, u "com/example/callweave/callweave/model/MethodRef"), (0, .methodref 10 29), (0, .nameAndType 5 30), (0, u "([C)V"), (0, .methodref 26 32), (0, .nameAndType 5 33), (0, u "(Ljava/lang/String;Ljava/lang/String;Ljava/lang/String;)V"), (0, .class_ 35), (0, u "com/example/callweave/callweave/model/FieldRef"), (0, .methodref 10 37), (0, .nameAndType 38 39), (0, u "valueOf"), (0, u "(C)Ljava/lang/String;"), (0, .methodref 34 32), (0, .methodref 26 42), (0, .nameAndType 43 44), (0, u "equals"), (0, u "(Ljava/lang/Object;)Z"), (3, u "law"), (0, u "(III)Z")] 2

def k1m0 : Method := { name := "<init>", desc := "()V", sig := { parameters := [], returnType := none }, accessFlags := 2, code := none }
def k1c1 : Code := { maxStack := 2, maxLocals := 2, code := method_2_code, exceptionTable := #[], attributes := #[] }
def k1m1 : Method := { name := "ownerChar", desc := "(I)C", sig := { parameters := [.int], returnType := some .char }, accessFlags := 10, code := some k1c1 }
def k1c2 : Code := { maxStack := 2, maxLocals := 2, code := method_3_code, exceptionTable := #[], attributes := #[] }
def k1m2 : Method := { name := "nameChar", desc := "(I)C", sig := { parameters := [.int], returnType := some .char }, accessFlags := 10, code := some k1c2 }
def k1c3 : Code := { maxStack := 3, maxLocals := 1, code := method_4_code, exceptionTable := #[], attributes := #[] }
def k1m3 : Method := { name := "prim", desc := "(I)C", sig := { parameters := [.int], returnType := some .char }, accessFlags := 10, code := some k1c3 }
def k1c4 : Code := { maxStack := 10, maxLocals := 15, code := code, exceptionTable := #[], attributes := #[] }
def k1m4 : Method := { name := "law", desc := "(III)Z", sig := { parameters := [.int, .int, .int], returnType := some .boolean }, accessFlags := 9, code := some k1c4 }
/-- com/example/callweave/callweave/model/MethodRefEqualsPinLaw -/
def k1 : Class := { plain "com/example/callweave/callweave/model/MethodRefEqualsPinLaw" (some 0) with
  accessFlags := 49
  interfaces := #[]
  cf := some (fileOf pool1 16 #[] #[{ accessFlags := 2, nameIndex := 5, descriptorIndex := 6, attributes := #[] }, { accessFlags := 10, nameIndex := 19, descriptorIndex := 14, attributes := #[] }, { accessFlags := 10, nameIndex := 22, descriptorIndex := 14, attributes := #[] }, { accessFlags := 10, nameIndex := 25, descriptorIndex := 14, attributes := #[] }, { accessFlags := 9, nameIndex := 48, descriptorIndex := 49, attributes := #[] }] 49 2 #[] #[])
  fields := #[]
  methods := #[k1m0, k1m1, k1m2, k1m3, k1m4]
  instanceTypes := #[]
  staticTypes := #[]
  resolved := Array.replicate 52 none
  statics := none }

def pool2 : Array CpInfo := pool [(1, .class_ 2), (0, u "java/io/Serializable"), (0, .class_ 4), (0, u "java/lang/Object")] 2

/-- java/io/Serializable -/
def k2 : Class := { plain "java/io/Serializable" (some 0) with
  accessFlags := 1537
  interfaces := #[]
  cf := some (fileOf pool2 1 #[] #[] 1537 3 #[] #[])
  fields := #[]
  methods := #[]
  instanceTypes := #[]
  staticTypes := #[]
  resolved := Array.replicate 7 none
  statics := none }

def pool3 : Array CpInfo := pool [(1, .class_ 2), (0, u "java/lang/Comparable"), (0, .class_ 4), (0, u "java/lang/Object")] 7

/-- java/lang/Comparable -/
def k3 : Class := { plain "java/lang/Comparable" (some 0) with
  accessFlags := 1537
  interfaces := #[]
  cf := some (fileOf pool3 1 #[] #[] 1537 3 #[] #[])
  fields := #[]
  methods := #[]
  instanceTypes := #[]
  staticTypes := #[]
  resolved := Array.replicate 12 none
  statics := none }

def pool4 : Array CpInfo := pool [(2, .class_ 4), (1, u "java/lang/CharSequence"), (42, .class_ 48), (0, u "java/lang/CharSequence$1CodePointIterator"), (10, .class_ 60), (0, u "java/lang/CharSequence$1CharIterator"), (5, .class_ 67), (0, u "java/lang/Object")] 63

/-- java/lang/CharSequence -/
def k4 : Class := { plain "java/lang/CharSequence" (some 0) with
  accessFlags := 1537
  interfaces := #[]
  cf := some (fileOf pool4 2 #[.nestMembers #[47, 59]] #[] 1537 66 #[] #[])
  fields := #[]
  methods := #[]
  instanceTypes := #[]
  staticTypes := #[]
  resolved := Array.replicate 131 none
  statics := none }

def pool5 : Array CpInfo := pool [(1, .class_ 2), (0, u "java/lang/constant/Constable"), (0, .class_ 4), (0, u "java/lang/Object")] 6

/-- java/lang/constant/Constable -/
def k5 : Class := { plain "java/lang/constant/Constable" (some 0) with
  accessFlags := 1537
  interfaces := #[]
  cf := some (fileOf pool5 1 #[] #[] 1537 3 #[] #[])
  fields := #[]
  methods := #[]
  instanceTypes := #[]
  staticTypes := #[]
  resolved := Array.replicate 11 none
  statics := none }

def pool6 : Array CpInfo := pool [(1, .class_ 2), (0, u "java/lang/constant/ConstantDesc"), (0, .class_ 4), (0, u "java/lang/Object")] 32

/-- java/lang/constant/ConstantDesc -/
def k6 : Class := { plain "java/lang/constant/ConstantDesc" (some 0) with
  accessFlags := 1537
  interfaces := #[]
  cf := some (fileOf pool6 1 #[] #[] 1537 3 #[] #[])
  fields := #[]
  methods := #[]
  instanceTypes := #[]
  staticTypes := #[]
  resolved := Array.replicate 37 none
  statics := none }

def pool7 : Array CpInfo := pool [(1, .methodref 2 3), (0, .class_ 4), (0, .nameAndType 5 6), (0, u "java/lang/Object"), (0, u "<init>"), (0, u "()V"), (2, .fieldref 10 11), (0, .class_ 12), (0, .nameAndType 13 14), (0, u "java/lang/String"), (0, u "value"), (0, u "[B"), (0, .fieldref 10 16), (0, .nameAndType 17 18), (0, u "coder"), (0, u "B"), (2, u "hash"), (0, u "I"), (2, u "hashIsZero"), (0, u "Z"), (0, .methodref 10 28), (0, .nameAndType 5 29), (0, u "([CIILjava/lang/Void;)V"), (8, .fieldref 10 39), (0, .nameAndType 40 26), (0, u "COMPACT_STRINGS"), (1, .class_ 44), (1, u "java/lang/StringUTF16"), (0, u "compress"), (1, .methodref 42 48), (0, .nameAndType 49 50), (0, u "coderFromArrayLen"), (0, u "([BI)B"), (2, u "toBytes"), (53, .class_ 109), (1, u "java/lang/StringLatin1"), (32, u "()Z"), (34, .methodref 42 178), (0, .nameAndType 45 179), (0, u "([CII)[B"), (29, .methodref 10 210), (0, .nameAndType 5 211), (0, u "([BB)V"), (122, u "()I"), (0, .methodref 10 336), (0, .nameAndType 17 337), (0, u "()B"), (25, u "([BI)C"), (5, u "(C)Z"), (6, u "([BI[BII)I"), (14, u "(II)V"), (35, u "(I)C"), (64, .methodref 10 493), (0, .nameAndType 494 142), (0, u "isLatin1"), (0, .methodref 107 496), (0, .nameAndType 497 363), (0, u "charAt"), (3, u "checkIndex"), (3, .methodref 10 506), (0, .nameAndType 507 334), (0, u "length"), (33, .methodref 107 542), (0, .nameAndType 543 544), (0, u "equals"), (0, u "([B[B)Z"), (14, .class_ 561), (1, u "jdk/internal/util/ArraysSupport"), (0, u "mismatch"), (10, u "(Ljava/lang/Object;)Z"), (1, .class_ 576), (0, u "java/lang/CharSequence"), (22, u "CASE_INSENSITIVE_ORDER"), (0, u "Ljava/util/Comparator;"), (6, .methodref 559 608), (0, .nameAndType 562 376), (15, .methodref 10 625), (0, .nameAndType 626 627), (0, u "startsWith"), (0, u "(Ljava/lang/String;I)Z"), (64, u "isEmpty"), (89, u "valueOf"), (0, u "(C)Ljava/lang/String;"), (226, u "([C)V"), (4, .methodref 107 1016), (0, .nameAndType 1017 369), (0, u "canEncode"), (0, .methodref 107 1019), (0, .nameAndType 53 1020), (0, u "(C)[B"), (32, .fieldref 1054 1055), (0, .class_ 1056), (0, .nameAndType 1057 1058), (0, u "jdk/internal/util/Preconditions"), (0, u "SIOOBE_FORMATTER"), (0, u "Ljava/util/function/BiFunction;"), (0, .methodref 1054 1060), (0, .nameAndType 501 1061), (0, u "(IILjava/util/function/BiFunction;)I"), (39, u "serialPersistentFields"), (0, u "[Ljava/io/ObjectStreamField;"), (0, .class_ 1104), (0, u "java/lang/String$CaseInsensitiveComparator"), (1, .class_ 1107), (0, u "java/io/Serializable"), (0, .class_ 1109), (0, u "java/lang/Comparable"), (0, .class_ 1111), (0, u "java/lang/constant/Constable"), (0, .class_ 1113), (0, u "java/lang/constant/ConstantDesc"), (2, u "serialVersionUID"), (0, u "J"), (3, u "REPL"), (0, u "C"), (2, u "LATIN1"), (1, u "UTF16"), (129, u "(Ljava/lang/String;)Z")] 193

def k7m0 : Method := { name := "<init>", desc := "()V", sig := { parameters := [], returnType := none }, accessFlags := 1, code := none }
def k7c1 : Code := { maxStack := 5, maxLocals := 2, code := jdk_42_method_3_code, exceptionTable := #[], attributes := #[] }
def k7m1 : Method := { name := "<init>", desc := "([C)V", sig := { parameters := [(.array .char)], returnType := none }, accessFlags := 1, code := some k7c1 }
def k7c2 : Code := { maxStack := 2, maxLocals := 1, code := jdk_42_method_54_code, exceptionTable := #[], attributes := #[] }
def k7m2 : Method := { name := "length", desc := "()I", sig := { parameters := [], returnType := some .int }, accessFlags := 1, code := some k7c2 }
def k7c3 : Code := { maxStack := 1, maxLocals := 1, code := jdk_42_method_55_code, exceptionTable := #[], attributes := #[] }
def k7m3 : Method := { name := "isEmpty", desc := "()Z", sig := { parameters := [], returnType := some .boolean }, accessFlags := 1, code := some k7c3 }
def k7c4 : Code := { maxStack := 2, maxLocals := 2, code := jdk_42_method_56_code, exceptionTable := #[], attributes := #[] }
def k7m4 : Method := { name := "charAt", desc := "(I)C", sig := { parameters := [.int], returnType := some .char }, accessFlags := 1, code := some k7c4 }
def k7c5 : Code := { maxStack := 2, maxLocals := 3, code := jdk_42_method_66_code, exceptionTable := #[], attributes := #[] }
def k7m5 : Method := { name := "equals", desc := "(Ljava/lang/Object;)Z", sig := { parameters := [(.object "java/lang/Object")], returnType := some .boolean }, accessFlags := 1, code := some k7c5 }
def k7c6 : Code := { maxStack := 5, maxLocals := 8, code := jdk_42_method_75_code, exceptionTable := #[], attributes := #[] }
def k7m6 : Method := { name := "startsWith", desc := "(Ljava/lang/String;I)Z", sig := { parameters := [(.object "java/lang/String"), .int], returnType := some .boolean }, accessFlags := 1, code := some k7c6 }
def k7c7 : Code := { maxStack := 3, maxLocals := 2, code := jdk_42_method_76_code, exceptionTable := #[], attributes := #[] }
def k7m7 : Method := { name := "startsWith", desc := "(Ljava/lang/String;)Z", sig := { parameters := [(.object "java/lang/String")], returnType := some .boolean }, accessFlags := 1, code := some k7c7 }
def k7c8 : Code := { maxStack := 4, maxLocals := 1, code := jdk_42_method_139_code, exceptionTable := #[], attributes := #[] }
def k7m8 : Method := { name := "valueOf", desc := "(C)Ljava/lang/String;", sig := { parameters := [.char], returnType := some (.object "java/lang/String") }, accessFlags := 9, code := some k7c8 }
def k7c9 : Code := { maxStack := 4, maxLocals := 6, code := jdk_42_method_149_code, exceptionTable := #[], attributes := #[] }
def k7m9 : Method := { name := "<init>", desc := "([CIILjava/lang/Void;)V", sig := { parameters := [(.array .char), .int, .int, (.object "java/lang/Void")], returnType := none }, accessFlags := 2, code := some k7c9 }
def k7c10 : Code := { maxStack := 2, maxLocals := 3, code := jdk_42_method_151_code, exceptionTable := #[], attributes := #[] }
def k7m10 : Method := { name := "<init>", desc := "([BB)V", sig := { parameters := [(.array .byte), .byte], returnType := none }, accessFlags := 0, code := some k7c10 }
def k7c11 : Code := { maxStack := 1, maxLocals := 1, code := jdk_42_method_152_code, exceptionTable := #[], attributes := #[] }
def k7m11 : Method := { name := "coder", desc := "()B", sig := { parameters := [], returnType := some .byte }, accessFlags := 0, code := some k7c11 }
def k7c12 : Code := { maxStack := 1, maxLocals := 1, code := jdk_42_method_154_code, exceptionTable := #[], attributes := #[] }
def k7m12 : Method := { name := "isLatin1", desc := "()Z", sig := { parameters := [], returnType := some .boolean }, accessFlags := 0, code := some k7c12 }
def k7c13 : Code := { maxStack := 3, maxLocals := 2, code := jdk_42_method_155_code, exceptionTable := #[], attributes := #[] }
def k7m13 : Method := { name := "checkIndex", desc := "(II)V", sig := { parameters := [.int, .int], returnType := none }, accessFlags := 8, code := some k7c13 }
/-- java/lang/String -/
def k7 : Class := { plain "java/lang/String" (some 0) with
  accessFlags := 49
  interfaces := #[2, 3, 4, 5, 6]
  cf := some (fileOf pool7 10 #[.nestMembers #[1103]] #[{ accessFlags := 1, nameIndex := 5, descriptorIndex := 6, attributes := #[] }, { accessFlags := 1, nameIndex := 5, descriptorIndex := 1010, attributes := #[] }, { accessFlags := 1, nameIndex := 507, descriptorIndex := 334, attributes := #[] }, { accessFlags := 1, nameIndex := 692, descriptorIndex := 142, attributes := #[] }, { accessFlags := 1, nameIndex := 497, descriptorIndex := 427, attributes := #[] }, { accessFlags := 1, nameIndex := 543, descriptorIndex := 573, attributes := #[] }, { accessFlags := 1, nameIndex := 626, descriptorIndex := 627, attributes := #[] }, { accessFlags := 1, nameIndex := 626, descriptorIndex := 1257, attributes := #[] }, { accessFlags := 9, nameIndex := 782, descriptorIndex := 783, attributes := #[] }, { accessFlags := 2, nameIndex := 5, descriptorIndex := 29, attributes := #[] }, { accessFlags := 0, nameIndex := 5, descriptorIndex := 211, attributes := #[] }, { accessFlags := 0, nameIndex := 17, descriptorIndex := 337, attributes := #[] }, { accessFlags := 0, nameIndex := 494, descriptorIndex := 142, attributes := #[] }, { accessFlags := 8, nameIndex := 501, descriptorIndex := 391, attributes := #[] }] 49 2 #[1106, 1108, 575, 1110, 1112] #[{ accessFlags := 18, nameIndex := 13, descriptorIndex := 14, attributes := #[] }, { accessFlags := 18, nameIndex := 17, descriptorIndex := 18, attributes := #[] }, { accessFlags := 2, nameIndex := 21, descriptorIndex := 22, attributes := #[] }, { accessFlags := 2, nameIndex := 25, descriptorIndex := 26, attributes := #[] }, { accessFlags := 26, nameIndex := 1116, descriptorIndex := 1117, attributes := #[] }, { accessFlags := 24, nameIndex := 40, descriptorIndex := 26, attributes := #[] }, { accessFlags := 26, nameIndex := 1101, descriptorIndex := 1102, attributes := #[] }, { accessFlags := 26, nameIndex := 1121, descriptorIndex := 1122, attributes := #[] }, { accessFlags := 25, nameIndex := 599, descriptorIndex := 600, attributes := #[] }, { accessFlags := 24, nameIndex := 1125, descriptorIndex := 18, attributes := #[] }, { accessFlags := 24, nameIndex := 1127, descriptorIndex := 18, attributes := #[] }])
  fields := #[{ name := "value", type := (.array .byte), accessFlags := 18, slot := 0, constantValue := 0 }, { name := "coder", type := .byte, accessFlags := 18, slot := 1, constantValue := 0 }, { name := "hash", type := .int, accessFlags := 2, slot := 2, constantValue := 0 }, { name := "hashIsZero", type := .boolean, accessFlags := 2, slot := 3, constantValue := 0 }, { name := "serialVersionUID", type := .long, accessFlags := 26, slot := 0, constantValue := 0 }, { name := "COMPACT_STRINGS", type := .boolean, accessFlags := 24, slot := 1, constantValue := 0 }, { name := "serialPersistentFields", type := (.array (.object "java/io/ObjectStreamField")), accessFlags := 26, slot := 2, constantValue := 0 }, { name := "REPL", type := .char, accessFlags := 26, slot := 3, constantValue := 0 }, { name := "CASE_INSENSITIVE_ORDER", type := (.object "java/util/Comparator"), accessFlags := 25, slot := 4, constantValue := 0 }, { name := "LATIN1", type := .byte, accessFlags := 24, slot := 5, constantValue := 0 }, { name := "UTF16", type := .byte, accessFlags := 24, slot := 6, constantValue := 0 }]
  methods := #[k7m0, k7m1, k7m2, k7m3, k7m4, k7m5, k7m6, k7m7, k7m8, k7m9, k7m10, k7m11, k7m12, k7m13]
  instanceTypes := #[(.array .byte), .byte, .int, .boolean]
  staticTypes := #[.long, .boolean, (.array (.object "java/io/ObjectStreamField")), .char, (.object "java/util/Comparator"), .byte, .byte]
  resolved := Array.replicate 1451 none
  statics := some 0 }

def pool8 : Array CpInfo := pool [(1, .class_ 2), (0, u "java/lang/String"), (1, .class_ 6), (1, u "java/lang/Object"), (0, u "<init>"), (0, u "()V"), (0, .methodref 1 10), (0, .nameAndType 11 12), (0, u "checkIndex"), (0, u "(II)V"), (1, .class_ 16), (1, u "java/lang/StringLatin1"), (36, u "([BI)C"), (36, u "canEncode"), (14, u "(C)Z"), (15, u "$assertionsDisabled"), (0, u "Z"), (98, .class_ 223), (1, u "java/lang/StringLatin1$LinesSpliterator"), (28, u "charAt"), (28, u "equals"), (0, u "([B[B)Z"), (97, u "toBytes"), (1, u "(C)[B"), (7, .class_ 391), (0, u "java/lang/StringLatin1$CharsSpliterator")] 3

def k8m0 : Method := { name := "<init>", desc := "()V", sig := { parameters := [], returnType := none }, accessFlags := 0, code := none }
def k8c1 : Code := { maxStack := 2, maxLocals := 2, code := jdk_43_method_2_code, exceptionTable := #[], attributes := #[] }
def k8m1 : Method := { name := "charAt", desc := "([BI)C", sig := { parameters := [(.array .byte), .int], returnType := some .char }, accessFlags := 9, code := some k8c1 }
def k8c2 : Code := { maxStack := 2, maxLocals := 1, code := jdk_43_method_3_code, exceptionTable := #[], attributes := #[] }
def k8m2 : Method := { name := "canEncode", desc := "(C)Z", sig := { parameters := [.char], returnType := some .boolean }, accessFlags := 9, code := some k8c2 }
def k8c3 : Code := { maxStack := 3, maxLocals := 3, code := jdk_43_method_13_code, exceptionTable := #[], attributes := #[] }
def k8m3 : Method := { name := "equals", desc := "([B[B)Z", sig := { parameters := [(.array .byte), (.array .byte)], returnType := some .boolean }, accessFlags := 9, code := some k8c3 }
def k8c4 : Code := { maxStack := 4, maxLocals := 1, code := jdk_43_method_46_code, exceptionTable := #[], attributes := #[] }
def k8m4 : Method := { name := "toBytes", desc := "(C)[B", sig := { parameters := [.char], returnType := some (.array .byte) }, accessFlags := 9, code := some k8c4 }
/-- java/lang/StringLatin1 -/
def k8 : Class := { plain "java/lang/StringLatin1" (some 0) with
  accessFlags := 48
  interfaces := #[]
  cf := some (fileOf pool8 14 #[.nestMembers #[390, 221]] #[{ accessFlags := 0, nameIndex := 7, descriptorIndex := 8, attributes := #[] }, { accessFlags := 9, nameIndex := 252, descriptorIndex := 53, attributes := #[] }, { accessFlags := 9, nameIndex := 90, descriptorIndex := 105, attributes := #[] }, { accessFlags := 9, nameIndex := 281, descriptorIndex := 282, attributes := #[] }, { accessFlags := 9, nameIndex := 380, descriptorIndex := 382, attributes := #[] }] 48 4 #[] #[{ accessFlags := 4120, nameIndex := 121, descriptorIndex := 122, attributes := #[] }])
  fields := #[{ name := "$assertionsDisabled", type := .boolean, accessFlags := 4120, slot := 0, constantValue := 0 }]
  methods := #[k8m0, k8m1, k8m2, k8m3, k8m4]
  instanceTypes := #[]
  staticTypes := #[.boolean]
  resolved := Array.replicate 395 none
  statics := none }

def pool9 : Array CpInfo := pool [(2, .class_ 4), (1, u "java/lang/Object"), (0, u "<init>"), (0, u "()V"), (17, .class_ 26), (1, u "jdk/internal/util/Preconditions"), (6, u "checkIndex"), (21, .class_ 56), (0, u "jdk/internal/util/Preconditions$4"), (57, .class_ 115), (0, u "jdk/internal/util/Preconditions$1"), (7, u "SIOOBE_FORMATTER"), (0, u "Ljava/util/function/BiFunction;"), (0, .class_ 126), (0, u "jdk/internal/util/Preconditions$2"), (3, u "AIOOBE_FORMATTER"), (0, .class_ 132), (0, u "jdk/internal/util/Preconditions$3"), (3, u "IOOBE_FORMATTER"), (41, u "(IILjava/util/function/BiFunction;)I")] 15

def k9m0 : Method := { name := "<init>", desc := "()V", sig := { parameters := [], returnType := none }, accessFlags := 1, code := none }
def k9c1 : Code := { maxStack := 3, maxLocals := 3, code := jdk_41_method_11_code, exceptionTable := #[], attributes := #[] }
def k9m1 : Method := { name := "checkIndex", desc := "(IILjava/util/function/BiFunction;)I", sig := { parameters := [.int, .int, (.object "java/util/function/BiFunction")], returnType := some .int }, accessFlags := 9, code := some k9c1 }
/-- jdk/internal/util/Preconditions -/
def k9 : Class := { plain "jdk/internal/util/Preconditions" (some 0) with
  accessFlags := 33
  interfaces := #[]
  cf := some (fileOf pool9 24 #[.nestMembers #[55, 131, 125, 114]] #[{ accessFlags := 1, nameIndex := 5, descriptorIndex := 6, attributes := #[] }, { accessFlags := 9, nameIndex := 33, descriptorIndex := 178, attributes := #[] }] 33 2 #[] #[{ accessFlags := 25, nameIndex := 123, descriptorIndex := 124, attributes := #[] }, { accessFlags := 25, nameIndex := 130, descriptorIndex := 124, attributes := #[] }, { accessFlags := 25, nameIndex := 136, descriptorIndex := 124, attributes := #[] }])
  fields := #[{ name := "SIOOBE_FORMATTER", type := (.object "java/util/function/BiFunction"), accessFlags := 25, slot := 0, constantValue := 0 }, { name := "AIOOBE_FORMATTER", type := (.object "java/util/function/BiFunction"), accessFlags := 25, slot := 1, constantValue := 0 }, { name := "IOOBE_FORMATTER", type := (.object "java/util/function/BiFunction"), accessFlags := 25, slot := 2, constantValue := 0 }]
  methods := #[k9m0, k9m1]
  instanceTypes := #[]
  staticTypes := #[(.object "java/util/function/BiFunction"), (.object "java/util/function/BiFunction"), (.object "java/util/function/BiFunction")]
  resolved := Array.replicate 194 none
  statics := some 1 }

def pool10 : Array CpInfo := pool [(1, .class_ 2), (0, u "com/example/callweave/callweave/model/MemberRef"), (0, .class_ 4), (0, u "java/lang/Object")] 11

/-- com/example/callweave/callweave/model/MemberRef -/
def k10 : Class := { plain "com/example/callweave/callweave/model/MemberRef" (some 0) with
  accessFlags := 1537
  interfaces := #[]
  cf := some (fileOf pool10 1 #[] #[] 1537 3 #[] #[])
  fields := #[]
  methods := #[]
  instanceTypes := #[]
  staticTypes := #[]
  resolved := Array.replicate 16 none
  statics := none }

def pool11 : Array CpInfo := pool [(1, .methodref 2 3), (0, .class_ 4), (0, .nameAndType 5 6), (0, u "com/example/callweave/callweave/model/MethodRef"), (0, u "<init>"), (0, u "(Ljava/lang/String;Ljava/lang/String;Ljava/lang/String;Z)V"), (0, .methodref 8 9), (0, .class_ 10), (0, .nameAndType 5 11), (0, u "java/lang/Object"), (0, u "()V"), (0, .string 13), (0, u "owner"), (0, .methodref 15 16), (0, .class_ 17), (0, .nameAndType 18 19), (0, u "java/util/Objects"), (0, u "requireNonNull"), (0, u "(Ljava/lang/Object;Ljava/lang/String;)Ljava/lang/Object;"), (0, .string 21), (0, u "name"), (0, .string 23), (0, u "descriptor"), (0, .methodref 25 26), (0, .class_ 27), (0, .nameAndType 28 29), (0, u "com/example/callweave/callweave/model/JvmNames"), (0, u "requireClassName"), (0, u "(Ljava/lang/String;)Ljava/lang/String;"), (0, .methodref 25 31), (0, .nameAndType 32 29), (0, u "requireMethodName"), (0, .methodref 25 34), (0, .nameAndType 35 29), (0, u "requireMethodDescriptor"), (0, .fieldref 2 37), (0, .nameAndType 13 38), (0, u "Ljava/lang/String;"), (0, .fieldref 2 40), (0, .nameAndType 21 38), (0, .fieldref 2 42), (0, .nameAndType 23 38), (1, .class_ 46), (1, u "java/lang/String"), (26, u "(Ljava/lang/String;Ljava/lang/String;Ljava/lang/String;)V"), (8, .methodref 44 83), (0, .nameAndType 84 85), (0, u "equals"), (0, u "(Ljava/lang/Object;)Z"), (2, u "hash"), (0, u "I"), (23, .class_ 114), (0, u "com/example/callweave/callweave/model/MemberRef")] 24

def k11c0 : Code := { maxStack := 5, maxLocals := 4, code := prog_21_method_1_code, exceptionTable := #[], attributes := #[] }
def k11m0 : Method := { name := "<init>", desc := "(Ljava/lang/String;Ljava/lang/String;Ljava/lang/String;)V", sig := { parameters := [(.object "java/lang/String"), (.object "java/lang/String"), (.object "java/lang/String")], returnType := none }, accessFlags := 1, code := some k11c0 }
def k11c1 : Code := { maxStack := 2, maxLocals := 5, code := prog_21_method_2_code, exceptionTable := #[], attributes := #[] }
def k11m1 : Method := { name := "<init>", desc := "(Ljava/lang/String;Ljava/lang/String;Ljava/lang/String;Z)V", sig := { parameters := [(.object "java/lang/String"), (.object "java/lang/String"), (.object "java/lang/String"), .boolean], returnType := none }, accessFlags := 2, code := some k11c1 }
def k11c2 : Code := { maxStack := 2, maxLocals := 3, code := prog_21_method_8_code, exceptionTable := #[], attributes := #[] }
def k11m2 : Method := { name := "equals", desc := "(Ljava/lang/Object;)Z", sig := { parameters := [(.object "java/lang/Object")], returnType := some .boolean }, accessFlags := 1, code := some k11c2 }
/-- com/example/callweave/callweave/model/MethodRef -/
def k11 : Class := { plain "com/example/callweave/callweave/model/MethodRef" (some 0) with
  accessFlags := 49
  interfaces := #[10]
  cf := some (fileOf pool11 2 #[] #[{ accessFlags := 1, nameIndex := 5, descriptorIndex := 73, attributes := #[] }, { accessFlags := 2, nameIndex := 5, descriptorIndex := 6, attributes := #[] }, { accessFlags := 1, nameIndex := 84, descriptorIndex := 85, attributes := #[] }] 49 8 #[113] #[{ accessFlags := 18, nameIndex := 13, descriptorIndex := 38, attributes := #[] }, { accessFlags := 18, nameIndex := 21, descriptorIndex := 38, attributes := #[] }, { accessFlags := 18, nameIndex := 23, descriptorIndex := 38, attributes := #[] }, { accessFlags := 2, nameIndex := 88, descriptorIndex := 89, attributes := #[] }])
  fields := #[{ name := "owner", type := (.object "java/lang/String"), accessFlags := 18, slot := 0, constantValue := 0 }, { name := "name", type := (.object "java/lang/String"), accessFlags := 18, slot := 1, constantValue := 0 }, { name := "descriptor", type := (.object "java/lang/String"), accessFlags := 18, slot := 2, constantValue := 0 }, { name := "hash", type := .int, accessFlags := 2, slot := 3, constantValue := 0 }]
  methods := #[k11m0, k11m1, k11m2]
  instanceTypes := #[(.object "java/lang/String"), (.object "java/lang/String"), (.object "java/lang/String"), .int]
  staticTypes := #[]
  resolved := Array.replicate 139 none
  statics := none }

def pool12 : Array CpInfo := pool [(6, .class_ 8), (1, u "java/lang/Object"), (0, u "<init>"), (0, u "()V"), (1, .class_ 14), (1, u "java/lang/StringUTF16"), (31, u "$assertionsDisabled"), (0, u "Z"), (13, u "HI_BYTE_SHIFT"), (0, u "I"), (2, u "LO_BYTE_SHIFT"), (49, .methodref 12 116), (0, .nameAndType 117 118), (0, u "compress"), (0, u "([CI[BII)I"), (3, u "([CII)[B"), (138, u "coderFromArrayLen"), (0, u "([BI)B"), (106, .class_ 371), (1, u "java/lang/StringUTF16$LinesSpliterator"), (58, u "MAX_LENGTH"), (196, .class_ 628), (0, u "java/lang/StringUTF16$CodePointsSpliterator"), (0, .class_ 630), (0, u "java/lang/StringUTF16$CharsSpliterator")] 4

def k12m0 : Method := { name := "<init>", desc := "()V", sig := { parameters := [], returnType := none }, accessFlags := 0, code := none }
def k12c1 : Code := { maxStack := 2, maxLocals := 2, code := jdk_52_method_15_code, exceptionTable := #[], attributes := #[] }
def k12m1 : Method := { name := "coderFromArrayLen", desc := "([BI)B", sig := { parameters := [(.array .byte), .int], returnType := some .byte }, accessFlags := 8, code := some k12c1 }
def k12c2 : Code := { maxStack := 5, maxLocals := 6, code := jdk_52_method_16_code, exceptionTable := #[], attributes := #[] }
def k12m2 : Method := { name := "compress", desc := "([CII)[B", sig := { parameters := [(.array .char), .int, .int], returnType := some (.array .byte) }, accessFlags := 9, code := some k12c2 }
def k12c3 : Code := { maxStack := 3, maxLocals := 7, code := jdk_52_method_21_code, exceptionTable := #[], attributes := #[] }
def k12m3 : Method := { name := "compress", desc := "([CI[BII)I", sig := { parameters := [(.array .char), .int, (.array .byte), .int, .int], returnType := some .int }, accessFlags := 9, code := some k12c3 }
/-- java/lang/StringUTF16 -/
def k12 : Class := { plain "java/lang/StringUTF16" (some 0) with
  accessFlags := 48
  interfaces := #[]
  cf := some (fileOf pool12 12 #[.nestMembers #[627, 629, 369]] #[{ accessFlags := 0, nameIndex := 9, descriptorIndex := 10, attributes := #[] }, { accessFlags := 8, nameIndex := 261, descriptorIndex := 262, attributes := #[] }, { accessFlags := 9, nameIndex := 117, descriptorIndex := 122, attributes := #[] }, { accessFlags := 9, nameIndex := 117, descriptorIndex := 118, attributes := #[] }] 48 6 #[] #[{ accessFlags := 26, nameIndex := 61, descriptorIndex := 62, attributes := #[] }, { accessFlags := 26, nameIndex := 65, descriptorIndex := 62, attributes := #[] }, { accessFlags := 24, nameIndex := 430, descriptorIndex := 62, attributes := #[] }, { accessFlags := 4120, nameIndex := 46, descriptorIndex := 47, attributes := #[] }])
  fields := #[{ name := "HI_BYTE_SHIFT", type := .int, accessFlags := 26, slot := 0, constantValue := 0 }, { name := "LO_BYTE_SHIFT", type := .int, accessFlags := 26, slot := 1, constantValue := 0 }, { name := "MAX_LENGTH", type := .int, accessFlags := 24, slot := 2, constantValue := 0 }, { name := "$assertionsDisabled", type := .boolean, accessFlags := 4120, slot := 3, constantValue := 0 }]
  methods := #[k12m0, k12m1, k12m2, k12m3]
  instanceTypes := #[]
  staticTypes := #[.int, .int, .int, .boolean]
  resolved := Array.replicate 635 none
  statics := none }

def pool13 : Array CpInfo := pool [(2, .class_ 4), (1, u "java/lang/Object"), (0, u "<init>"), (0, u "()V"), (35, .class_ 44), (1, u "java/util/Objects"), (0, u "requireNonNull"), (48, u "(Ljava/lang/Object;Ljava/lang/String;)Ljava/lang/Object;")] 89

def k13m0 : Method := { name := "<init>", desc := "()V", sig := { parameters := [], returnType := none }, accessFlags := 2, code := none }
def k13c1 : Code := { maxStack := 3, maxLocals := 2, code := jdk_31_method_11_code, exceptionTable := #[], attributes := #[] }
def k13m1 : Method := { name := "requireNonNull", desc := "(Ljava/lang/Object;Ljava/lang/String;)Ljava/lang/Object;", sig := { parameters := [(.object "java/lang/Object"), (.object "java/lang/String")], returnType := some (.object "java/lang/Object") }, accessFlags := 9, code := some k13c1 }
/-- java/util/Objects -/
def k13 : Class := { plain "java/util/Objects" (some 0) with
  accessFlags := 49
  interfaces := #[]
  cf := some (fileOf pool13 42 #[] #[{ accessFlags := 2, nameIndex := 5, descriptorIndex := 6, attributes := #[] }, { accessFlags := 9, nameIndex := 45, descriptorIndex := 94, attributes := #[] }] 49 2 #[] #[])
  fields := #[]
  methods := #[k13m0, k13m1]
  instanceTypes := #[]
  staticTypes := #[]
  resolved := Array.replicate 184 none
  statics := none }

def pool14 : Array CpInfo := pool [(2, .class_ 4), (1, u "java/lang/Object"), (0, u "<init>"), (0, u "()V"), (0, .methodref 8 9), (0, .class_ 10), (0, .nameAndType 11 12), (0, u "com/example/callweave/callweave/model/JvmNames"), (0, u "isClassName"), (0, u "(Ljava/lang/String;)Z"), (0, .string 14), (0, u "a class name in internal form"), (0, .methodref 8 16), (0, .nameAndType 17 18), (0, u "require"), (0, u "(ZLjava/lang/String;Ljava/lang/String;)Ljava/lang/String;"), (5, .methodref 8 25), (0, .nameAndType 26 12), (0, u "isFieldName"), (0, .string 28), (0, u "a field name"), (0, .methodref 8 30), (0, .nameAndType 31 12), (0, u "isFieldDescriptor"), (0, .string 33), (0, u "a field descriptor"), (0, .methodref 8 35), (0, .nameAndType 36 12), (0, u "isMethodName"), (0, .string 38), (0, u "a method name"), (0, .methodref 8 40), (0, .nameAndType 41 12), (0, u "isMethodDescriptor"), (0, .string 43), (0, u "a method descriptor"), (9, .methodref 54 55), (0, .class_ 56), (0, .nameAndType 57 58), (0, u "java/lang/String"), (0, u "length"), (0, u "()I"), (0, .methodref 8 60), (0, .nameAndType 11 61), (0, u "(Ljava/lang/String;II)Z"), (2, .methodref 54 65), (0, .nameAndType 66 12), (0, u "startsWith"), (0, .methodref 8 68), (0, .nameAndType 69 70), (0, u "isUnqualifiedName"), (0, u "(Ljava/lang/String;Z)Z"), (0, .string 5), (0, .methodref 54 73), (0, .nameAndType 74 75), (0, u "equals"), (0, u "(Ljava/lang/Object;)Z"), (0, .string 77), (0, u "<clinit>"), (0, .methodref 54 79), (0, .nameAndType 80 81), (0, u "charAt"), (0, u "(I)C"), (0, .methodref 54 83), (0, .nameAndType 84 85), (0, u "isEmpty"), (0, u "()Z"), (0, .methodref 8 87), (0, .nameAndType 88 89), (0, u "endOfFieldType"), (0, u "(Ljava/lang/String;I)I"), (0, .string 91), (0, u "("), (4, u "OBJECT"), (0, u "Ljava/lang/String;"), (2, u "CONSTRUCTOR"), (0, u "INITIALISER"), (0, u "MAX_ARRAY_DIMENSIONS"), (0, u "I"), (3, u "requireClassName"), (0, u "(Ljava/lang/String;)Ljava/lang/String;"), (2, u "requireFieldName"), (0, u "requireFieldDescriptor"), (0, u "requireMethodName"), (0, u "requireMethodDescriptor")] 17

def k14m0 : Method := { name := "<init>", desc := "()V", sig := { parameters := [], returnType := none }, accessFlags := 2, code := none }
def k14c1 : Code := { maxStack := 3, maxLocals := 1, code := prog_19_method_2_code, exceptionTable := #[], attributes := #[] }
def k14m1 : Method := { name := "requireClassName", desc := "(Ljava/lang/String;)Ljava/lang/String;", sig := { parameters := [(.object "java/lang/String")], returnType := some (.object "java/lang/String") }, accessFlags := 8, code := some k14c1 }
def k14c2 : Code := { maxStack := 3, maxLocals := 1, code := prog_19_method_4_code, exceptionTable := #[], attributes := #[] }
def k14m2 : Method := { name := "requireFieldName", desc := "(Ljava/lang/String;)Ljava/lang/String;", sig := { parameters := [(.object "java/lang/String")], returnType := some (.object "java/lang/String") }, accessFlags := 8, code := some k14c2 }
def k14c3 : Code := { maxStack := 3, maxLocals := 1, code := prog_19_method_5_code, exceptionTable := #[], attributes := #[] }
def k14m3 : Method := { name := "requireFieldDescriptor", desc := "(Ljava/lang/String;)Ljava/lang/String;", sig := { parameters := [(.object "java/lang/String")], returnType := some (.object "java/lang/String") }, accessFlags := 8, code := some k14c3 }
def k14c4 : Code := { maxStack := 3, maxLocals := 1, code := prog_19_method_6_code, exceptionTable := #[], attributes := #[] }
def k14m4 : Method := { name := "requireMethodName", desc := "(Ljava/lang/String;)Ljava/lang/String;", sig := { parameters := [(.object "java/lang/String")], returnType := some (.object "java/lang/String") }, accessFlags := 8, code := some k14c4 }
def k14c5 : Code := { maxStack := 3, maxLocals := 1, code := prog_19_method_7_code, exceptionTable := #[], attributes := #[] }
def k14m5 : Method := { name := "requireMethodDescriptor", desc := "(Ljava/lang/String;)Ljava/lang/String;", sig := { parameters := [(.object "java/lang/String")], returnType := some (.object "java/lang/String") }, accessFlags := 8, code := some k14c5 }
def k14c6 : Code := { maxStack := 4, maxLocals := 3, code := prog_19_method_8_code, exceptionTable := #[], attributes := #[] }
def k14m6 : Method := { name := "require", desc := "(ZLjava/lang/String;Ljava/lang/String;)Ljava/lang/String;", sig := { parameters := [.boolean, (.object "java/lang/String"), (.object "java/lang/String")], returnType := some (.object "java/lang/String") }, accessFlags := 10, code := some k14c6 }
def k14c7 : Code := { maxStack := 3, maxLocals := 1, code := prog_19_method_9_code, exceptionTable := #[], attributes := #[] }
def k14m7 : Method := { name := "isClassName", desc := "(Ljava/lang/String;)Z", sig := { parameters := [(.object "java/lang/String")], returnType := some .boolean }, accessFlags := 8, code := some k14c7 }
def k14c8 : Code := { maxStack := 2, maxLocals := 1, code := prog_19_method_11_code, exceptionTable := #[], attributes := #[] }
def k14m8 : Method := { name := "isFieldName", desc := "(Ljava/lang/String;)Z", sig := { parameters := [(.object "java/lang/String")], returnType := some .boolean }, accessFlags := 8, code := some k14c8 }
def k14c9 : Code := { maxStack := 2, maxLocals := 1, code := prog_19_method_12_code, exceptionTable := #[], attributes := #[] }
def k14m9 : Method := { name := "isMethodName", desc := "(Ljava/lang/String;)Z", sig := { parameters := [(.object "java/lang/String")], returnType := some .boolean }, accessFlags := 8, code := some k14c9 }
def k14c10 : Code := { maxStack := 2, maxLocals := 4, code := prog_19_method_13_code, exceptionTable := #[], attributes := #[] }
def k14m10 : Method := { name := "isUnqualifiedName", desc := "(Ljava/lang/String;Z)Z", sig := { parameters := [(.object "java/lang/String"), .boolean], returnType := some .boolean }, accessFlags := 10, code := some k14c10 }
def k14c11 : Code := { maxStack := 2, maxLocals := 1, code := prog_19_method_14_code, exceptionTable := #[], attributes := #[] }
def k14m11 : Method := { name := "isFieldDescriptor", desc := "(Ljava/lang/String;)Z", sig := { parameters := [(.object "java/lang/String")], returnType := some .boolean }, accessFlags := 8, code := some k14c11 }
def k14c12 : Code := { maxStack := 3, maxLocals := 4, code := prog_19_method_15_code, exceptionTable := #[], attributes := #[] }
def k14m12 : Method := { name := "isMethodDescriptor", desc := "(Ljava/lang/String;)Z", sig := { parameters := [(.object "java/lang/String")], returnType := some .boolean }, accessFlags := 8, code := some k14c12 }
def k14c13 : Code := { maxStack := 3, maxLocals := 4, code := prog_19_method_16_code, exceptionTable := #[], attributes := #[] }
def k14m13 : Method := { name := "endOfFieldType", desc := "(Ljava/lang/String;I)I", sig := { parameters := [(.object "java/lang/String"), .int], returnType := some .int }, accessFlags := 8, code := some k14c13 }
def k14c14 : Code := { maxStack := 2, maxLocals := 6, code := prog_19_method_17_code, exceptionTable := #[], attributes := #[] }
def k14m14 : Method := { name := "isClassName", desc := "(Ljava/lang/String;II)Z", sig := { parameters := [(.object "java/lang/String"), .int, .int], returnType := some .boolean }, accessFlags := 10, code := some k14c14 }
/-- com/example/callweave/callweave/model/JvmNames -/
def k14 : Class := { plain "com/example/callweave/callweave/model/JvmNames" (some 0) with
  accessFlags := 48
  interfaces := #[]
  cf := some (fileOf pool14 8 #[] #[{ accessFlags := 2, nameIndex := 5, descriptorIndex := 6, attributes := #[] }, { accessFlags := 8, nameIndex := 107, descriptorIndex := 108, attributes := #[] }, { accessFlags := 8, nameIndex := 111, descriptorIndex := 108, attributes := #[] }, { accessFlags := 8, nameIndex := 112, descriptorIndex := 108, attributes := #[] }, { accessFlags := 8, nameIndex := 113, descriptorIndex := 108, attributes := #[] }, { accessFlags := 8, nameIndex := 114, descriptorIndex := 108, attributes := #[] }, { accessFlags := 10, nameIndex := 17, descriptorIndex := 18, attributes := #[] }, { accessFlags := 8, nameIndex := 11, descriptorIndex := 12, attributes := #[] }, { accessFlags := 8, nameIndex := 26, descriptorIndex := 12, attributes := #[] }, { accessFlags := 8, nameIndex := 36, descriptorIndex := 12, attributes := #[] }, { accessFlags := 10, nameIndex := 69, descriptorIndex := 70, attributes := #[] }, { accessFlags := 8, nameIndex := 31, descriptorIndex := 12, attributes := #[] }, { accessFlags := 8, nameIndex := 41, descriptorIndex := 12, attributes := #[] }, { accessFlags := 8, nameIndex := 88, descriptorIndex := 89, attributes := #[] }, { accessFlags := 10, nameIndex := 11, descriptorIndex := 61, attributes := #[] }] 48 2 #[] #[{ accessFlags := 24, nameIndex := 96, descriptorIndex := 97, attributes := #[] }, { accessFlags := 24, nameIndex := 100, descriptorIndex := 97, attributes := #[] }, { accessFlags := 24, nameIndex := 101, descriptorIndex := 97, attributes := #[] }, { accessFlags := 26, nameIndex := 102, descriptorIndex := 103, attributes := #[] }])
  fields := #[{ name := "OBJECT", type := (.object "java/lang/String"), accessFlags := 24, slot := 0, constantValue := 0 }, { name := "CONSTRUCTOR", type := (.object "java/lang/String"), accessFlags := 24, slot := 1, constantValue := 0 }, { name := "INITIALISER", type := (.object "java/lang/String"), accessFlags := 24, slot := 2, constantValue := 0 }, { name := "MAX_ARRAY_DIMENSIONS", type := .int, accessFlags := 26, slot := 3, constantValue := 0 }]
  methods := #[k14m0, k14m1, k14m2, k14m3, k14m4, k14m5, k14m6, k14m7, k14m8, k14m9, k14m10, k14m11, k14m12, k14m13, k14m14]
  instanceTypes := #[]
  staticTypes := #[(.object "java/lang/String"), (.object "java/lang/String"), (.object "java/lang/String"), .int]
  resolved := Array.replicate 132 none
  statics := none }

def pool15 : Array CpInfo := pool [(9, u "<init>"), (6, .class_ 18), (1, u "java/lang/Object"), (0, u "()V"), (1, .class_ 23), (1, u "jdk/internal/util/ArraysSupport"), (0, u "LOG2_ARRAY_LONG_INDEX_SCALE"), (0, u "I"), (2, u "U"), (0, u "Ljdk/internal/misc/Unsafe;"), (8, u "BIG_ENDIAN"), (0, u "Z"), (8, u "LOG2_BYTE_BIT_SIZE"), (4, u "LOG2_ARRAY_INT_INDEX_SCALE"), (54, u "JLA"), (0, u "Ljdk/internal/access/JavaLangAccess;"), (11, u "LOG2_ARRAY_BOOLEAN_INDEX_SCALE"), (9, u "LOG2_ARRAY_BYTE_INDEX_SCALE"), (5, u "LOG2_ARRAY_CHAR_INDEX_SCALE"), (5, u "LOG2_ARRAY_SHORT_INDEX_SCALE"), (5, u "mismatch"), (12, u "LOG2_ARRAY_FLOAT_INDEX_SCALE"), (24, u "LOG2_ARRAY_DOUBLE_INDEX_SCALE"), (89, u "T_BOOLEAN"), (2, u "T_CHAR"), (1, u "T_FLOAT"), (1, u "T_DOUBLE"), (1, u "T_BYTE"), (1, u "T_SHORT"), (1, u "T_INT"), (1, u "T_LONG"), (1, u "SOFT_MAX_ARRAY_LENGTH"), (42, u "([BI[BII)I")] 40

def k15m0 : Method := { name := "<init>", desc := "()V", sig := { parameters := [], returnType := none }, accessFlags := 2, code := none }
def k15c1 : Code := { maxStack := 8, maxLocals := 8, code := jdk_48_method_14_code, exceptionTable := #[], attributes := #[] }
def k15m1 : Method := { name := "mismatch", desc := "([BI[BII)I", sig := { parameters := [(.array .byte), .int, (.array .byte), .int, .int], returnType := some .int }, accessFlags := 9, code := some k15c1 }
/-- jdk/internal/util/ArraysSupport -/
def k15 : Class := { plain "jdk/internal/util/ArraysSupport" (some 0) with
  accessFlags := 33
  interfaces := #[]
  cf := some (fileOf pool15 21 #[] #[{ accessFlags := 2, nameIndex := 9, descriptorIndex := 19, attributes := #[] }, { accessFlags := 9, nameIndex := 149, descriptorIndex := 337, attributes := #[] }] 33 16 #[] #[{ accessFlags := 24, nameIndex := 28, descriptorIndex := 29, attributes := #[] }, { accessFlags := 26, nameIndex := 38, descriptorIndex := 39, attributes := #[] }, { accessFlags := 25, nameIndex := 121, descriptorIndex := 25, attributes := #[] }, { accessFlags := 25, nameIndex := 131, descriptorIndex := 25, attributes := #[] }, { accessFlags := 25, nameIndex := 137, descriptorIndex := 25, attributes := #[] }, { accessFlags := 25, nameIndex := 143, descriptorIndex := 25, attributes := #[] }, { accessFlags := 25, nameIndex := 53, descriptorIndex := 25, attributes := #[] }, { accessFlags := 25, nameIndex := 24, descriptorIndex := 25, attributes := #[] }, { accessFlags := 25, nameIndex := 162, descriptorIndex := 25, attributes := #[] }, { accessFlags := 25, nameIndex := 187, descriptorIndex := 25, attributes := #[] }, { accessFlags := 26, nameIndex := 48, descriptorIndex := 25, attributes := #[] }, { accessFlags := 25, nameIndex := 277, descriptorIndex := 25, attributes := #[] }, { accessFlags := 25, nameIndex := 280, descriptorIndex := 25, attributes := #[] }, { accessFlags := 25, nameIndex := 282, descriptorIndex := 25, attributes := #[] }, { accessFlags := 25, nameIndex := 284, descriptorIndex := 25, attributes := #[] }, { accessFlags := 25, nameIndex := 286, descriptorIndex := 25, attributes := #[] }, { accessFlags := 25, nameIndex := 288, descriptorIndex := 25, attributes := #[] }, { accessFlags := 25, nameIndex := 290, descriptorIndex := 25, attributes := #[] }, { accessFlags := 25, nameIndex := 292, descriptorIndex := 25, attributes := #[] }, { accessFlags := 26, nameIndex := 108, descriptorIndex := 109, attributes := #[] }, { accessFlags := 25, nameIndex := 294, descriptorIndex := 25, attributes := #[] }])
  fields := #[{ name := "U", type := (.object "jdk/internal/misc/Unsafe"), accessFlags := 24, slot := 0, constantValue := 0 }, { name := "BIG_ENDIAN", type := .boolean, accessFlags := 26, slot := 1, constantValue := 0 }, { name := "LOG2_ARRAY_BOOLEAN_INDEX_SCALE", type := .int, accessFlags := 25, slot := 2, constantValue := 0 }, { name := "LOG2_ARRAY_BYTE_INDEX_SCALE", type := .int, accessFlags := 25, slot := 3, constantValue := 0 }, { name := "LOG2_ARRAY_CHAR_INDEX_SCALE", type := .int, accessFlags := 25, slot := 4, constantValue := 0 }, { name := "LOG2_ARRAY_SHORT_INDEX_SCALE", type := .int, accessFlags := 25, slot := 5, constantValue := 0 }, { name := "LOG2_ARRAY_INT_INDEX_SCALE", type := .int, accessFlags := 25, slot := 6, constantValue := 0 }, { name := "LOG2_ARRAY_LONG_INDEX_SCALE", type := .int, accessFlags := 25, slot := 7, constantValue := 0 }, { name := "LOG2_ARRAY_FLOAT_INDEX_SCALE", type := .int, accessFlags := 25, slot := 8, constantValue := 0 }, { name := "LOG2_ARRAY_DOUBLE_INDEX_SCALE", type := .int, accessFlags := 25, slot := 9, constantValue := 0 }, { name := "LOG2_BYTE_BIT_SIZE", type := .int, accessFlags := 26, slot := 10, constantValue := 0 }, { name := "T_BOOLEAN", type := .int, accessFlags := 25, slot := 11, constantValue := 0 }, { name := "T_CHAR", type := .int, accessFlags := 25, slot := 12, constantValue := 0 }, { name := "T_FLOAT", type := .int, accessFlags := 25, slot := 13, constantValue := 0 }, { name := "T_DOUBLE", type := .int, accessFlags := 25, slot := 14, constantValue := 0 }, { name := "T_BYTE", type := .int, accessFlags := 25, slot := 15, constantValue := 0 }, { name := "T_SHORT", type := .int, accessFlags := 25, slot := 16, constantValue := 0 }, { name := "T_INT", type := .int, accessFlags := 25, slot := 17, constantValue := 0 }, { name := "T_LONG", type := .int, accessFlags := 25, slot := 18, constantValue := 0 }, { name := "JLA", type := (.object "jdk/internal/access/JavaLangAccess"), accessFlags := 26, slot := 19, constantValue := 0 }, { name := "SOFT_MAX_ARRAY_LENGTH", type := .int, accessFlags := 25, slot := 20, constantValue := 0 }]
  methods := #[k15m0, k15m1]
  instanceTypes := #[]
  staticTypes := #[(.object "jdk/internal/misc/Unsafe"), .boolean, .int, .int, .int, .int, .int, .int, .int, .int, .int, .int, .int, .int, .int, .int, .int, .int, .int, (.object "jdk/internal/access/JavaLangAccess"), .int]
  resolved := Array.replicate 378 none
  statics := none }

def pool16 : Array CpInfo := pool [(1, .methodref 2 3), (0, .class_ 4), (0, .nameAndType 5 6), (0, u "com/example/callweave/callweave/model/FieldRef"), (0, u "<init>"), (0, u "(Ljava/lang/String;Ljava/lang/String;Ljava/lang/String;Z)V"), (0, .methodref 8 9), (0, .class_ 10), (0, .nameAndType 5 11), (0, u "java/lang/Object"), (0, u "()V"), (0, .string 13), (0, u "owner"), (0, .methodref 15 16), (0, .class_ 17), (0, .nameAndType 18 19), (0, u "java/util/Objects"), (0, u "requireNonNull"), (0, u "(Ljava/lang/Object;Ljava/lang/String;)Ljava/lang/Object;"), (0, .string 21), (0, u "name"), (0, .string 23), (0, u "descriptor"), (0, .methodref 25 26), (0, .class_ 27), (0, .nameAndType 28 29), (0, u "com/example/callweave/callweave/model/JvmNames"), (0, u "requireClassName"), (0, u "(Ljava/lang/String;)Ljava/lang/String;"), (0, .methodref 25 31), (0, .nameAndType 32 29), (0, u "requireFieldName"), (0, .methodref 25 34), (0, .nameAndType 35 29), (0, u "requireFieldDescriptor"), (0, .fieldref 2 37), (0, .nameAndType 13 38), (0, u "Ljava/lang/String;"), (0, .fieldref 2 40), (0, .nameAndType 21 38), (0, .fieldref 2 42), (0, .nameAndType 23 38), (30, u "(Ljava/lang/String;Ljava/lang/String;Ljava/lang/String;)V"), (14, u "hash"), (0, u "I"), (7, .class_ 98), (0, u "com/example/callweave/callweave/model/MemberRef"), (0, u "NOT_JVM_FORM")] 31

def k16c0 : Code := { maxStack := 5, maxLocals := 4, code := prog_13_method_1_code, exceptionTable := #[], attributes := #[] }
def k16m0 : Method := { name := "<init>", desc := "(Ljava/lang/String;Ljava/lang/String;Ljava/lang/String;)V", sig := { parameters := [(.object "java/lang/String"), (.object "java/lang/String"), (.object "java/lang/String")], returnType := none }, accessFlags := 1, code := some k16c0 }
def k16c1 : Code := { maxStack := 2, maxLocals := 5, code := prog_13_method_2_code, exceptionTable := #[], attributes := #[] }
def k16m1 : Method := { name := "<init>", desc := "(Ljava/lang/String;Ljava/lang/String;Ljava/lang/String;Z)V", sig := { parameters := [(.object "java/lang/String"), (.object "java/lang/String"), (.object "java/lang/String"), .boolean], returnType := none }, accessFlags := 2, code := some k16c1 }
/-- com/example/callweave/callweave/model/FieldRef -/
def k16 : Class := { plain "com/example/callweave/callweave/model/FieldRef" (some 0) with
  accessFlags := 49
  interfaces := #[10]
  cf := some (fileOf pool16 2 #[] #[{ accessFlags := 1, nameIndex := 5, descriptorIndex := 73, attributes := #[] }, { accessFlags := 2, nameIndex := 5, descriptorIndex := 6, attributes := #[] }] 49 8 #[97] #[{ accessFlags := 25, nameIndex := 99, descriptorIndex := 38, attributes := #[] }, { accessFlags := 18, nameIndex := 13, descriptorIndex := 38, attributes := #[] }, { accessFlags := 18, nameIndex := 21, descriptorIndex := 38, attributes := #[] }, { accessFlags := 18, nameIndex := 23, descriptorIndex := 38, attributes := #[] }, { accessFlags := 2, nameIndex := 88, descriptorIndex := 89, attributes := #[] }])
  fields := #[{ name := "NOT_JVM_FORM", type := (.object "java/lang/String"), accessFlags := 25, slot := 0, constantValue := 0 }, { name := "owner", type := (.object "java/lang/String"), accessFlags := 18, slot := 0, constantValue := 0 }, { name := "name", type := (.object "java/lang/String"), accessFlags := 18, slot := 1, constantValue := 0 }, { name := "descriptor", type := (.object "java/lang/String"), accessFlags := 18, slot := 2, constantValue := 0 }, { name := "hash", type := .int, accessFlags := 2, slot := 3, constantValue := 0 }]
  methods := #[k16m0, k16m1]
  instanceTypes := #[(.object "java/lang/String"), (.object "java/lang/String"), (.object "java/lang/String"), .int]
  staticTypes := #[(.object "java/lang/String")]
  resolved := Array.replicate 131 none
  statics := none }

def pool17 : Array CpInfo := pool [(1, u "java/lang/Cloneable"), (0, .class_ 1), (0, u "java/lang/Object"), (0, .class_ 3)] 3

/-- java/lang/Cloneable -/
def k17 : Class := { plain "java/lang/Cloneable" (some 0) with
  accessFlags := 1537
  interfaces := #[]
  cf := some (fileOf pool17 2 #[] #[] 1537 4 #[] #[])
  fields := #[]
  methods := #[]
  instanceTypes := #[]
  staticTypes := #[]
  resolved := Array.replicate 8 none
  statics := none }

/-- the primitive byte -/
def k18 : Class := { plain "byte" none with kind := .primitive 'B', accessFlags := 0x411 }
/-- [B -/
def k19 : Class := { plain "[B" (some 0) with kind := .array 18 .byte, interfaces := #[17, 2], accessFlags := 1041 }

/-- the primitive char -/
def k20 : Class := { plain "char" none with kind := .primitive 'C', accessFlags := 0x411 }
/-- [C -/
def k21 : Class := { plain "[C" (some 0) with kind := .array 20 .char, interfaces := #[17, 2], accessFlags := 1041 }

/-- the primitive int -/
def k22 : Class := { plain "int" none with kind := .primitive 'I', accessFlags := 0x411 }
/-- [I -/
def k23 : Class := { plain "[I" (some 0) with kind := .array 22 .int, interfaces := #[17, 2], accessFlags := 1041 }

def heap : Heap := #[{ cls := 7, slots := #[.long 0, .int 1, .null, .int 0, .null, .int 0, .int 0], vm := .statics 7 },
  { cls := 9, slots := #[.null, .null, .null], vm := .statics 9 }]
def classes : Array Class := #[k0, k1, k2, k3, k4, k5, k6, k7, k8, k9, k10, k11, k12, k13, k14, k15, k16, k17, k18, k19, k20, k21, k22, k23]
def interned : List (Array UInt16 × Addr) := []
def slotsUsed : Nat := 10
def theMethod : MethodId := ⟨1, 4⟩
def args0 : Array Value := #[.int 5, .int 9, .int 1]
def aboutOver (below : List Frame) : State where
  vm := { classes := classes, interned := interned.toArray }
  heap := heap
  slotsUsed := slotsUsed
  threads := #[{ frames := .invoking theMethod args0 :: below }]
def below0 : List Frame := [.native { method := ⟨0, 0⟩, args := #[] }]
def about1 : State := aboutOver below0
def p0 : Program := .bare "" "" ""
def e0 : Env := launch0.env 0 0 0
theorem w_frames : about1.frames = Frame.invoking theMethod args0 :: below0 := rfl
set_option maxRecDepth 65536 in
theorem w_args : argsFit about1.vm theMethod args0 = true := by decide +kernel
set_option maxRecDepth 65536 in
theorem w_heap : heapFits about1 = true := by decide +kernel
set_option maxRecDepth 65536 in
theorem w_runnable : about1.curStatus? = some .runnable := by decide +kernel
set_option maxRecDepth 65536 in
theorem w_alone : about1.alone = true := by decide +kernel
set_option maxRecDepth 65536 in
theorem w_named : about1.methodNamed? x = some theMethod := by decide +kernel
set_option maxRecDepth 65536 in
theorem w_hears : about1.hears theMethod below0 = true := by decide +kernel
set_option maxRecDepth 65536 in
theorem w_ripe : about1.ripe theMethod args0 below0 = true := by decide +kernel
theorem w_running : about1.status = .running := rfl
set_option maxRecDepth 65536 in
theorem w_room : about1.hasRoom e0.platform room_1 = true :=
  launch0.hasRoom_least _ room_1 (by decide +kernel) (by decide +kernel) (by decide +kernel) (by decide +kernel) (by decide +kernel) (by decide +kernel)
theorem allAtoms_all (ts : List Jvm.Cond) (a : Array Jvm.Value) (st : Jvm.State) : (allAtoms ts).before a st = ts.all (fun c => c.before a st) := by
  induction ts with
  | nil => rfl
  | cons c t ih =>
    show (Jvm.Cond.and c (allAtoms t)).before a st = _
    rw [Jvm.Cond.before_and, ih, List.all_cons]
def words1 : List Jvm.Cond := Jvm.Cond.code x code maxLocals ret :: tables_1
/-- a 'code' word, met by the world's own term for the bytes: nothing is compared byte by byte -/
theorem code_word {y : MethodName} {bytes : ByteArray} {mx : Nat} {rt : Option FieldType} {a : Array Value} {s : State} {m : MethodId} {meth : Method} {c : Code} (h1 : s.methodNamed? y = some m) (h2 : s.vm.method? m = some meth) (h3 : meth.code = some c) (h4 : c.code = bytes)
    (h5 : (c.maxLocals == mx && c.exceptionTable.isEmpty && decide (c.maxStack ≤ mostOperands) && decide (meth.sig.returnType = rt) && !meth.locks && decide (parseMethodDescriptor y.desc = some meth.sig)) = true) : (Jvm.Cond.code y bytes mx rt).before a s = true := by
  simp only [Bool.and_eq_true, beq_iff_eq, Bool.not_eq_true', decide_eq_true_eq] at h5
  obtain ⟨⟨⟨⟨⟨g1, g2⟩, g3⟩, g4⟩, g5⟩, g6⟩ := h5
  simp [Cond.before, Cond.holds, Cond.value, h1, h2, h3, h4, g1, g2, g3, g4, g5, g6]
def isCode : Jvm.Cond → Bool
  | .code _ _ _ _ => true
  | _ => false
theorem all_split {L : List Jvm.Cond} {P : Jvm.Cond → Bool} (h1 : L.all (fun c => isCode c || P c) = true) (h2 : ∀ c ∈ L.filter isCode, P c = true) : L.all P = true := by
  refine List.all_eq_true.mpr fun c hc => ?_
  have h := List.all_eq_true.mp h1 c hc
  rcases Bool.eq_false_or_eq_true (isCode c) with hi | hi
  · exact h2 c (List.mem_filter.mpr ⟨hc, hi⟩)
  · simpa [hi] using h
set_option maxRecDepth 65536 in
theorem w_c0 : (Jvm.Cond.code x code maxLocals ret).before args0 about1 = true := code_word (m := ⟨1, 4⟩) (meth := k1m4) (c := k1c4) (by decide +kernel) rfl rfl rfl (by decide +kernel)
set_option maxRecDepth 65536 in
theorem w_c1 : (Jvm.Cond.code ({ cls := "com/example/callweave/callweave/model/MethodRefEqualsPinLaw", name := "ownerChar", desc := "(I)C" } : Jvm.MethodName) method_2_code (2 : Nat) (Option.some Jvm.ClassFile.FieldType.char)).before args0 about1 = true := code_word (m := ⟨1, 1⟩) (meth := k1m1) (c := k1c1) (by decide +kernel) rfl rfl rfl (by decide +kernel)
set_option maxRecDepth 65536 in
theorem w_c2 : (Jvm.Cond.code ({ cls := "com/example/callweave/callweave/model/MethodRefEqualsPinLaw", name := "nameChar", desc := "(I)C" } : Jvm.MethodName) method_3_code (2 : Nat) (Option.some Jvm.ClassFile.FieldType.char)).before args0 about1 = true := code_word (m := ⟨1, 2⟩) (meth := k1m2) (c := k1c2) (by decide +kernel) rfl rfl rfl (by decide +kernel)
set_option maxRecDepth 65536 in
theorem w_c3 : (Jvm.Cond.code ({ cls := "com/example/callweave/callweave/model/MethodRefEqualsPinLaw", name := "prim", desc := "(I)C" } : Jvm.MethodName) method_4_code (1 : Nat) (Option.some Jvm.ClassFile.FieldType.char)).before args0 about1 = true := code_word (m := ⟨1, 3⟩) (meth := k1m3) (c := k1c3) (by decide +kernel) rfl rfl rfl (by decide +kernel)
set_option maxRecDepth 65536 in
theorem w_c4 : (Jvm.Cond.code ({ cls := "java/lang/String", name := "charAt", desc := "(I)C" } : Jvm.MethodName) jdk_42_method_56_code (2 : Nat) (Option.some Jvm.ClassFile.FieldType.char)).before args0 about1 = true := code_word (m := ⟨7, 4⟩) (meth := k7m4) (c := k7c4) (by decide +kernel) rfl rfl rfl (by decide +kernel)
set_option maxRecDepth 65536 in
theorem w_c5 : (Jvm.Cond.code ({ cls := "java/lang/String", name := "isLatin1", desc := "()Z" } : Jvm.MethodName) jdk_42_method_154_code (1 : Nat) (Option.some Jvm.ClassFile.FieldType.boolean)).before args0 about1 = true := code_word (m := ⟨7, 12⟩) (meth := k7m12) (c := k7c12) (by decide +kernel) rfl rfl rfl (by decide +kernel)
set_option maxRecDepth 65536 in
theorem w_c6 : (Jvm.Cond.code ({ cls := "java/lang/StringLatin1", name := "charAt", desc := "([BI)C" } : Jvm.MethodName) jdk_43_method_2_code (2 : Nat) (Option.some Jvm.ClassFile.FieldType.char)).before args0 about1 = true := code_word (m := ⟨8, 1⟩) (meth := k8m1) (c := k8c1) (by decide +kernel) rfl rfl rfl (by decide +kernel)
set_option maxRecDepth 65536 in
theorem w_c7 : (Jvm.Cond.code ({ cls := "java/lang/String", name := "checkIndex", desc := "(II)V" } : Jvm.MethodName) jdk_42_method_155_code (2 : Nat) (Option.none : Option Jvm.ClassFile.FieldType)).before args0 about1 = true := code_word (m := ⟨7, 13⟩) (meth := k7m13) (c := k7c13) (by decide +kernel) rfl rfl rfl (by decide +kernel)
set_option maxRecDepth 65536 in
theorem w_c8 : (Jvm.Cond.code ({ cls := "jdk/internal/util/Preconditions", name := "checkIndex", desc := "(IILjava/util/function/BiFunction;)I" } : Jvm.MethodName) jdk_41_method_11_code (3 : Nat) (Option.some Jvm.ClassFile.FieldType.int)).before args0 about1 = true := code_word (m := ⟨9, 1⟩) (meth := k9m1) (c := k9c1) (by decide +kernel) rfl rfl rfl (by decide +kernel)
set_option maxRecDepth 65536 in
theorem w_c9 : (Jvm.Cond.code ({ cls := "java/lang/String", name := "<init>", desc := "([C)V" } : Jvm.MethodName) jdk_42_method_3_code (2 : Nat) (Option.none : Option Jvm.ClassFile.FieldType)).before args0 about1 = true := code_word (m := ⟨7, 1⟩) (meth := k7m1) (c := k7c1) (by decide +kernel) rfl rfl rfl (by decide +kernel)
set_option maxRecDepth 65536 in
theorem w_c10 : (Jvm.Cond.code ({ cls := "java/lang/String", name := "<init>", desc := "([CIILjava/lang/Void;)V" } : Jvm.MethodName) jdk_42_method_149_code (6 : Nat) (Option.none : Option Jvm.ClassFile.FieldType)).before args0 about1 = true := code_word (m := ⟨7, 9⟩) (meth := k7m9) (c := k7c9) (by decide +kernel) rfl rfl rfl (by decide +kernel)
set_option maxRecDepth 65536 in
theorem w_c11 : (Jvm.Cond.code ({ cls := "java/lang/Object", name := "<init>", desc := "()V" } : Jvm.MethodName) object_method_1_code (1 : Nat) (Option.none : Option Jvm.ClassFile.FieldType)).before args0 about1 = true := code_word (m := ⟨0, 0⟩) (meth := k0m0) (c := k0c0) (by decide +kernel) rfl rfl rfl (by decide +kernel)
set_option maxRecDepth 65536 in
theorem w_c12 : (Jvm.Cond.code ({ cls := "java/lang/StringUTF16", name := "compress", desc := "([CII)[B" } : Jvm.MethodName) jdk_52_method_16_code (6 : Nat) (Option.some (Jvm.ClassFile.FieldType.array Jvm.ClassFile.FieldType.byte))).before args0 about1 = true := code_word (m := ⟨12, 2⟩) (meth := k12m2) (c := k12c2) (by decide +kernel) rfl rfl rfl (by decide +kernel)
set_option maxRecDepth 65536 in
theorem w_c13 : (Jvm.Cond.code ({ cls := "java/lang/StringUTF16", name := "compress", desc := "([CI[BII)I" } : Jvm.MethodName) jdk_52_method_21_code (7 : Nat) (Option.some Jvm.ClassFile.FieldType.int)).before args0 about1 = true := code_word (m := ⟨12, 3⟩) (meth := k12m3) (c := k12c3) (by decide +kernel) rfl rfl rfl (by decide +kernel)
set_option maxRecDepth 65536 in
theorem w_c14 : (Jvm.Cond.code ({ cls := "java/lang/StringUTF16", name := "coderFromArrayLen", desc := "([BI)B" } : Jvm.MethodName) jdk_52_method_15_code (2 : Nat) (Option.some Jvm.ClassFile.FieldType.byte)).before args0 about1 = true := code_word (m := ⟨12, 1⟩) (meth := k12m1) (c := k12c1) (by decide +kernel) rfl rfl rfl (by decide +kernel)
set_option maxRecDepth 65536 in
theorem w_c15 : (Jvm.Cond.code ({ cls := "com/example/callweave/callweave/model/MethodRef", name := "<init>", desc := "(Ljava/lang/String;Ljava/lang/String;Ljava/lang/String;)V" } : Jvm.MethodName) prog_21_method_1_code (4 : Nat) (Option.none : Option Jvm.ClassFile.FieldType)).before args0 about1 = true := code_word (m := ⟨11, 0⟩) (meth := k11m0) (c := k11c0) (by decide +kernel) rfl rfl rfl (by decide +kernel)
set_option maxRecDepth 65536 in
theorem w_c16 : (Jvm.Cond.code ({ cls := "com/example/callweave/callweave/model/MethodRef", name := "<init>", desc := "(Ljava/lang/String;Ljava/lang/String;Ljava/lang/String;Z)V" } : Jvm.MethodName) prog_21_method_2_code (5 : Nat) (Option.none : Option Jvm.ClassFile.FieldType)).before args0 about1 = true := code_word (m := ⟨11, 1⟩) (meth := k11m1) (c := k11c1) (by decide +kernel) rfl rfl rfl (by decide +kernel)
set_option maxRecDepth 65536 in
theorem w_c17 : (Jvm.Cond.code ({ cls := "java/util/Objects", name := "requireNonNull", desc := "(Ljava/lang/Object;Ljava/lang/String;)Ljava/lang/Object;" } : Jvm.MethodName) jdk_31_method_11_code (2 : Nat) (Option.some (Jvm.ClassFile.FieldType.object "java/lang/Object"))).before args0 about1 = true := code_word (m := ⟨13, 1⟩) (meth := k13m1) (c := k13c1) (by decide +kernel) rfl rfl rfl (by decide +kernel)
set_option maxRecDepth 65536 in
theorem w_c18 : (Jvm.Cond.code ({ cls := "com/example/callweave/callweave/model/JvmNames", name := "requireClassName", desc := "(Ljava/lang/String;)Ljava/lang/String;" } : Jvm.MethodName) prog_19_method_2_code (1 : Nat) (Option.some (Jvm.ClassFile.FieldType.object "java/lang/String"))).before args0 about1 = true := code_word (m := ⟨14, 1⟩) (meth := k14m1) (c := k14c1) (by decide +kernel) rfl rfl rfl (by decide +kernel)
set_option maxRecDepth 65536 in
theorem w_c19 : (Jvm.Cond.code ({ cls := "com/example/callweave/callweave/model/JvmNames", name := "isClassName", desc := "(Ljava/lang/String;)Z" } : Jvm.MethodName) prog_19_method_9_code (1 : Nat) (Option.some Jvm.ClassFile.FieldType.boolean)).before args0 about1 = true := code_word (m := ⟨14, 7⟩) (meth := k14m7) (c := k14c7) (by decide +kernel) rfl rfl rfl (by decide +kernel)
set_option maxRecDepth 65536 in
theorem w_c20 : (Jvm.Cond.code ({ cls := "java/lang/String", name := "length", desc := "()I" } : Jvm.MethodName) jdk_42_method_54_code (1 : Nat) (Option.some Jvm.ClassFile.FieldType.int)).before args0 about1 = true := code_word (m := ⟨7, 2⟩) (meth := k7m2) (c := k7c2) (by decide +kernel) rfl rfl rfl (by decide +kernel)
set_option maxRecDepth 65536 in
theorem w_c21 : (Jvm.Cond.code ({ cls := "java/lang/String", name := "coder", desc := "()B" } : Jvm.MethodName) jdk_42_method_152_code (1 : Nat) (Option.some Jvm.ClassFile.FieldType.byte)).before args0 about1 = true := code_word (m := ⟨7, 11⟩) (meth := k7m11) (c := k7c11) (by decide +kernel) rfl rfl rfl (by decide +kernel)
set_option maxRecDepth 65536 in
theorem w_c22 : (Jvm.Cond.code ({ cls := "com/example/callweave/callweave/model/JvmNames", name := "isClassName", desc := "(Ljava/lang/String;II)Z" } : Jvm.MethodName) prog_19_method_17_code (6 : Nat) (Option.some Jvm.ClassFile.FieldType.boolean)).before args0 about1 = true := code_word (m := ⟨14, 14⟩) (meth := k14m14) (c := k14c14) (by decide +kernel) rfl rfl rfl (by decide +kernel)
set_option maxRecDepth 65536 in
theorem w_c23 : (Jvm.Cond.code ({ cls := "com/example/callweave/callweave/model/JvmNames", name := "require", desc := "(ZLjava/lang/String;Ljava/lang/String;)Ljava/lang/String;" } : Jvm.MethodName) prog_19_method_8_code (3 : Nat) (Option.some (Jvm.ClassFile.FieldType.object "java/lang/String"))).before args0 about1 = true := code_word (m := ⟨14, 6⟩) (meth := k14m6) (c := k14c6) (by decide +kernel) rfl rfl rfl (by decide +kernel)
set_option maxRecDepth 65536 in
theorem w_c24 : (Jvm.Cond.code ({ cls := "com/example/callweave/callweave/model/JvmNames", name := "requireMethodName", desc := "(Ljava/lang/String;)Ljava/lang/String;" } : Jvm.MethodName) prog_19_method_6_code (1 : Nat) (Option.some (Jvm.ClassFile.FieldType.object "java/lang/String"))).before args0 about1 = true := code_word (m := ⟨14, 4⟩) (meth := k14m4) (c := k14c4) (by decide +kernel) rfl rfl rfl (by decide +kernel)
set_option maxRecDepth 65536 in
theorem w_c25 : (Jvm.Cond.code ({ cls := "com/example/callweave/callweave/model/JvmNames", name := "isMethodName", desc := "(Ljava/lang/String;)Z" } : Jvm.MethodName) prog_19_method_12_code (1 : Nat) (Option.some Jvm.ClassFile.FieldType.boolean)).before args0 about1 = true := code_word (m := ⟨14, 9⟩) (meth := k14m9) (c := k14c9) (by decide +kernel) rfl rfl rfl (by decide +kernel)
set_option maxRecDepth 65536 in
theorem w_c26 : (Jvm.Cond.code ({ cls := "java/lang/String", name := "equals", desc := "(Ljava/lang/Object;)Z" } : Jvm.MethodName) jdk_42_method_66_code (3 : Nat) (Option.some Jvm.ClassFile.FieldType.boolean)).before args0 about1 = true := code_word (m := ⟨7, 5⟩) (meth := k7m5) (c := k7c5) (by decide +kernel) rfl rfl rfl (by decide +kernel)
set_option maxRecDepth 65536 in
theorem w_c27 : (Jvm.Cond.code ({ cls := "java/lang/StringLatin1", name := "equals", desc := "([B[B)Z" } : Jvm.MethodName) jdk_43_method_13_code (3 : Nat) (Option.some Jvm.ClassFile.FieldType.boolean)).before args0 about1 = true := code_word (m := ⟨8, 3⟩) (meth := k8m3) (c := k8c3) (by decide +kernel) rfl rfl rfl (by decide +kernel)
set_option maxRecDepth 65536 in
theorem w_c28 : (Jvm.Cond.code ({ cls := "com/example/callweave/callweave/model/JvmNames", name := "isUnqualifiedName", desc := "(Ljava/lang/String;Z)Z" } : Jvm.MethodName) prog_19_method_13_code (4 : Nat) (Option.some Jvm.ClassFile.FieldType.boolean)).before args0 about1 = true := code_word (m := ⟨14, 10⟩) (meth := k14m10) (c := k14c10) (by decide +kernel) rfl rfl rfl (by decide +kernel)
set_option maxRecDepth 65536 in
theorem w_c29 : (Jvm.Cond.code ({ cls := "java/lang/String", name := "isEmpty", desc := "()Z" } : Jvm.MethodName) jdk_42_method_55_code (1 : Nat) (Option.some Jvm.ClassFile.FieldType.boolean)).before args0 about1 = true := code_word (m := ⟨7, 3⟩) (meth := k7m3) (c := k7c3) (by decide +kernel) rfl rfl rfl (by decide +kernel)
set_option maxRecDepth 65536 in
theorem w_c30 : (Jvm.Cond.code ({ cls := "com/example/callweave/callweave/model/JvmNames", name := "requireMethodDescriptor", desc := "(Ljava/lang/String;)Ljava/lang/String;" } : Jvm.MethodName) prog_19_method_7_code (1 : Nat) (Option.some (Jvm.ClassFile.FieldType.object "java/lang/String"))).before args0 about1 = true := code_word (m := ⟨14, 5⟩) (meth := k14m5) (c := k14c5) (by decide +kernel) rfl rfl rfl (by decide +kernel)
set_option maxRecDepth 65536 in
theorem w_c31 : (Jvm.Cond.code ({ cls := "com/example/callweave/callweave/model/JvmNames", name := "isMethodDescriptor", desc := "(Ljava/lang/String;)Z" } : Jvm.MethodName) prog_19_method_15_code (4 : Nat) (Option.some Jvm.ClassFile.FieldType.boolean)).before args0 about1 = true := code_word (m := ⟨14, 12⟩) (meth := k14m12) (c := k14c12) (by decide +kernel) rfl rfl rfl (by decide +kernel)
set_option maxRecDepth 65536 in
theorem w_c32 : (Jvm.Cond.code ({ cls := "java/lang/String", name := "startsWith", desc := "(Ljava/lang/String;)Z" } : Jvm.MethodName) jdk_42_method_76_code (2 : Nat) (Option.some Jvm.ClassFile.FieldType.boolean)).before args0 about1 = true := code_word (m := ⟨7, 7⟩) (meth := k7m7) (c := k7c7) (by decide +kernel) rfl rfl rfl (by decide +kernel)
set_option maxRecDepth 65536 in
theorem w_c33 : (Jvm.Cond.code ({ cls := "java/lang/String", name := "startsWith", desc := "(Ljava/lang/String;I)Z" } : Jvm.MethodName) jdk_42_method_75_code (8 : Nat) (Option.some Jvm.ClassFile.FieldType.boolean)).before args0 about1 = true := code_word (m := ⟨7, 6⟩) (meth := k7m6) (c := k7c6) (by decide +kernel) rfl rfl rfl (by decide +kernel)
set_option maxRecDepth 65536 in
theorem w_c34 : (Jvm.Cond.code ({ cls := "jdk/internal/util/ArraysSupport", name := "mismatch", desc := "([BI[BII)I" } : Jvm.MethodName) jdk_48_method_14_code (8 : Nat) (Option.some Jvm.ClassFile.FieldType.int)).before args0 about1 = true := code_word (m := ⟨15, 1⟩) (meth := k15m1) (c := k15c1) (by decide +kernel) rfl rfl rfl (by decide +kernel)
set_option maxRecDepth 65536 in
theorem w_c35 : (Jvm.Cond.code ({ cls := "com/example/callweave/callweave/model/JvmNames", name := "endOfFieldType", desc := "(Ljava/lang/String;I)I" } : Jvm.MethodName) prog_19_method_16_code (4 : Nat) (Option.some Jvm.ClassFile.FieldType.int)).before args0 about1 = true := code_word (m := ⟨14, 13⟩) (meth := k14m13) (c := k14c13) (by decide +kernel) rfl rfl rfl (by decide +kernel)
set_option maxRecDepth 65536 in
theorem w_c36 : (Jvm.Cond.code ({ cls := "java/lang/String", name := "valueOf", desc := "(C)Ljava/lang/String;" } : Jvm.MethodName) jdk_42_method_139_code (1 : Nat) (Option.some (Jvm.ClassFile.FieldType.object "java/lang/String"))).before args0 about1 = true := code_word (m := ⟨7, 8⟩) (meth := k7m8) (c := k7c8) (by decide +kernel) rfl rfl rfl (by decide +kernel)
set_option maxRecDepth 65536 in
theorem w_c37 : (Jvm.Cond.code ({ cls := "java/lang/StringLatin1", name := "canEncode", desc := "(C)Z" } : Jvm.MethodName) jdk_43_method_3_code (1 : Nat) (Option.some Jvm.ClassFile.FieldType.boolean)).before args0 about1 = true := code_word (m := ⟨8, 2⟩) (meth := k8m2) (c := k8c2) (by decide +kernel) rfl rfl rfl (by decide +kernel)
set_option maxRecDepth 65536 in
theorem w_c38 : (Jvm.Cond.code ({ cls := "java/lang/StringLatin1", name := "toBytes", desc := "(C)[B" } : Jvm.MethodName) jdk_43_method_46_code (1 : Nat) (Option.some (Jvm.ClassFile.FieldType.array Jvm.ClassFile.FieldType.byte))).before args0 about1 = true := code_word (m := ⟨8, 4⟩) (meth := k8m4) (c := k8c4) (by decide +kernel) rfl rfl rfl (by decide +kernel)
set_option maxRecDepth 65536 in
theorem w_c39 : (Jvm.Cond.code ({ cls := "java/lang/String", name := "<init>", desc := "([BB)V" } : Jvm.MethodName) jdk_42_method_151_code (3 : Nat) (Option.none : Option Jvm.ClassFile.FieldType)).before args0 about1 = true := code_word (m := ⟨7, 10⟩) (meth := k7m10) (c := k7c10) (by decide +kernel) rfl rfl rfl (by decide +kernel)
set_option maxRecDepth 65536 in
theorem w_c40 : (Jvm.Cond.code ({ cls := "com/example/callweave/callweave/model/FieldRef", name := "<init>", desc := "(Ljava/lang/String;Ljava/lang/String;Ljava/lang/String;)V" } : Jvm.MethodName) prog_13_method_1_code (4 : Nat) (Option.none : Option Jvm.ClassFile.FieldType)).before args0 about1 = true := code_word (m := ⟨16, 0⟩) (meth := k16m0) (c := k16c0) (by decide +kernel) rfl rfl rfl (by decide +kernel)
set_option maxRecDepth 65536 in
theorem w_c41 : (Jvm.Cond.code ({ cls := "com/example/callweave/callweave/model/FieldRef", name := "<init>", desc := "(Ljava/lang/String;Ljava/lang/String;Ljava/lang/String;Z)V" } : Jvm.MethodName) prog_13_method_2_code (5 : Nat) (Option.none : Option Jvm.ClassFile.FieldType)).before args0 about1 = true := code_word (m := ⟨16, 1⟩) (meth := k16m1) (c := k16c1) (by decide +kernel) rfl rfl rfl (by decide +kernel)
set_option maxRecDepth 65536 in
theorem w_c42 : (Jvm.Cond.code ({ cls := "com/example/callweave/callweave/model/JvmNames", name := "requireFieldName", desc := "(Ljava/lang/String;)Ljava/lang/String;" } : Jvm.MethodName) prog_19_method_4_code (1 : Nat) (Option.some (Jvm.ClassFile.FieldType.object "java/lang/String"))).before args0 about1 = true := code_word (m := ⟨14, 2⟩) (meth := k14m2) (c := k14c2) (by decide +kernel) rfl rfl rfl (by decide +kernel)
set_option maxRecDepth 65536 in
theorem w_c43 : (Jvm.Cond.code ({ cls := "com/example/callweave/callweave/model/JvmNames", name := "isFieldName", desc := "(Ljava/lang/String;)Z" } : Jvm.MethodName) prog_19_method_11_code (1 : Nat) (Option.some Jvm.ClassFile.FieldType.boolean)).before args0 about1 = true := code_word (m := ⟨14, 8⟩) (meth := k14m8) (c := k14c8) (by decide +kernel) rfl rfl rfl (by decide +kernel)
set_option maxRecDepth 65536 in
theorem w_c44 : (Jvm.Cond.code ({ cls := "com/example/callweave/callweave/model/JvmNames", name := "requireFieldDescriptor", desc := "(Ljava/lang/String;)Ljava/lang/String;" } : Jvm.MethodName) prog_19_method_5_code (1 : Nat) (Option.some (Jvm.ClassFile.FieldType.object "java/lang/String"))).before args0 about1 = true := code_word (m := ⟨14, 3⟩) (meth := k14m3) (c := k14c3) (by decide +kernel) rfl rfl rfl (by decide +kernel)
set_option maxRecDepth 65536 in
theorem w_c45 : (Jvm.Cond.code ({ cls := "com/example/callweave/callweave/model/JvmNames", name := "isFieldDescriptor", desc := "(Ljava/lang/String;)Z" } : Jvm.MethodName) prog_19_method_14_code (1 : Nat) (Option.some Jvm.ClassFile.FieldType.boolean)).before args0 about1 = true := code_word (m := ⟨14, 11⟩) (meth := k14m11) (c := k14c11) (by decide +kernel) rfl rfl rfl (by decide +kernel)
set_option maxRecDepth 65536 in
theorem w_c46 : (Jvm.Cond.code ({ cls := "com/example/callweave/callweave/model/MethodRef", name := "equals", desc := "(Ljava/lang/Object;)Z" } : Jvm.MethodName) prog_21_method_8_code (3 : Nat) (Option.some Jvm.ClassFile.FieldType.boolean)).before args0 about1 = true := code_word (m := ⟨11, 2⟩) (meth := k11m2) (c := k11c2) (by decide +kernel) rfl rfl rfl (by decide +kernel)
def codes1 : List Jvm.Cond := [Jvm.Cond.code x code maxLocals ret, Jvm.Cond.code ({ cls := "com/example/callweave/callweave/model/MethodRefEqualsPinLaw", name := "ownerChar", desc := "(I)C" } : Jvm.MethodName) method_2_code (2 : Nat) (Option.some Jvm.ClassFile.FieldType.char), Jvm.Cond.code ({ cls := "com/example/callweave/callweave/model/MethodRefEqualsPinLaw", name := "nameChar", desc := "(I)C" } : Jvm.MethodName) method_3_code (2 : Nat) (Option.some Jvm.ClassFile.FieldType.char), Jvm.Cond.code ({ cls := "com/example/callweave/callweave/model/MethodRefEqualsPinLaw", name := "prim", desc := "(I)C" } : Jvm.MethodName) method_4_code (1 : Nat) (Option.some Jvm.ClassFile.FieldType.char), Jvm.Cond.code ({ cls := "java/lang/String", name := "charAt", desc := "(I)C" } : Jvm.MethodName) jdk_42_method_56_code (2 : Nat) (Option.some Jvm.ClassFile.FieldType.char), Jvm.Cond.code ({ cls := "java/lang/String", name := "isLatin1", desc := "()Z" } : Jvm.MethodName) jdk_42_method_154_code (1 : Nat) (Option.some Jvm.ClassFile.FieldType.boolean), Jvm.Cond.code ({ cls := "java/lang/StringLatin1", name := "charAt", desc := "([BI)C" } : Jvm.MethodName) jdk_43_method_2_code (2 : Nat) (Option.some Jvm.ClassFile.FieldType.char), Jvm.Cond.code ({ cls := "java/lang/String", name := "checkIndex", desc := "(II)V" } : Jvm.MethodName) jdk_42_method_155_code (2 : Nat) (Option.none : Option Jvm.ClassFile.FieldType), Jvm.Cond.code ({ cls := "jdk/internal/util/Preconditions", name := "checkIndex", desc := "(IILjava/util/function/BiFunction;)I" } : Jvm.MethodName) jdk_41_method_11_code (3 : Nat) (Option.some Jvm.ClassFile.FieldType.int), Jvm.Cond.code ({ cls := "java/lang/String", name := "<init>", desc := "([C)V" } : Jvm.MethodName) jdk_42_method_3_code (2 : Nat) (Option.none : Option Jvm.ClassFile.FieldType), Jvm.Cond.code ({ cls := "java/lang/String", name := "<init>", desc := "([CIILjava/lang/Void;)V" } : Jvm.MethodName) jdk_42_method_149_code (6 : Nat) (Option.none : Option Jvm.ClassFile.FieldType), Jvm.Cond.code ({ cls := "java/lang/Object", name := "<init>", desc := "()V" } : Jvm.MethodName) object_method_1_code (1 : Nat) (Option.none : Option Jvm.ClassFile.FieldType), Jvm.Cond.code ({ cls := "java/lang/StringUTF16", name := "compress", desc := "([CII)[B" } : Jvm.MethodName) jdk_52_method_16_code (6 : Nat) (Option.some (Jvm.ClassFile.FieldType.array Jvm.ClassFile.FieldType.byte)), Jvm.Cond.code ({ cls := "java/lang/StringUTF16", name := "compress", desc := "([CI[BII)I" } : Jvm.MethodName) jdk_52_method_21_code (7 : Nat) (Option.some Jvm.ClassFile.FieldType.int), Jvm.Cond.code ({ cls := "java/lang/StringUTF16", name := "coderFromArrayLen", desc := "([BI)B" } : Jvm.MethodName) jdk_52_method_15_code (2 : Nat) (Option.some Jvm.ClassFile.FieldType.byte), Jvm.Cond.code ({ cls := "com/example/callweave/callweave/model/MethodRef", name := "<init>", desc := "(Ljava/lang/String;Ljava/lang/String;Ljava/lang/String;)V" } : Jvm.MethodName) prog_21_method_1_code (4 : Nat) (Option.none : Option Jvm.ClassFile.FieldType), Jvm.Cond.code ({ cls := "com/example/callweave/callweave/model/MethodRef", name := "<init>", desc := "(Ljava/lang/String;Ljava/lang/String;Ljava/lang/String;Z)V" } : Jvm.MethodName) prog_21_method_2_code (5 : Nat) (Option.none : Option Jvm.ClassFile.FieldType), Jvm.Cond.code ({ cls := "java/util/Objects", name := "requireNonNull", desc := "(Ljava/lang/Object;Ljava/lang/String;)Ljava/lang/Object;" } : Jvm.MethodName) jdk_31_method_11_code (2 : Nat) (Option.some (Jvm.ClassFile.FieldType.object "java/lang/Object")), Jvm.Cond.code ({ cls := "com/example/callweave/callweave/model/JvmNames", name := "requireClassName", desc := "(Ljava/lang/String;)Ljava/lang/String;" } : Jvm.MethodName) prog_19_method_2_code (1 : Nat) (Option.some (Jvm.ClassFile.FieldType.object "java/lang/String")), Jvm.Cond.code ({ cls := "com/example/callweave/callweave/model/JvmNames", name := "isClassName", desc := "(Ljava/lang/String;)Z" } : Jvm.MethodName) prog_19_method_9_code (1 : Nat) (Option.some Jvm.ClassFile.FieldType.boolean), Jvm.Cond.code ({ cls := "java/lang/String", name := "length", desc := "()I" } : Jvm.MethodName) jdk_42_method_54_code (1 : Nat) (Option.some Jvm.ClassFile.FieldType.int), Jvm.Cond.code ({ cls := "java/lang/String", name := "coder", desc := "()B" } : Jvm.MethodName) jdk_42_method_152_code (1 : Nat) (Option.some Jvm.ClassFile.FieldType.byte), Jvm.Cond.code ({ cls := "com/example/callweave/callweave/model/JvmNames", name := "isClassName", desc := "(Ljava/lang/String;II)Z" } : Jvm.MethodName) prog_19_method_17_code (6 : Nat) (Option.some Jvm.ClassFile.FieldType.boolean), Jvm.Cond.code ({ cls := "com/example/callweave/callweave/model/JvmNames", name := "require", desc := "(ZLjava/lang/String;Ljava/lang/String;)Ljava/lang/String;" } : Jvm.MethodName) prog_19_method_8_code (3 : Nat) (Option.some (Jvm.ClassFile.FieldType.object "java/lang/String")), Jvm.Cond.code ({ cls := "com/example/callweave/callweave/model/JvmNames", name := "requireMethodName", desc := "(Ljava/lang/String;)Ljava/lang/String;" } : Jvm.MethodName) prog_19_method_6_code (1 : Nat) (Option.some (Jvm.ClassFile.FieldType.object "java/lang/String")), Jvm.Cond.code ({ cls := "com/example/callweave/callweave/model/JvmNames", name := "isMethodName", desc := "(Ljava/lang/String;)Z" } : Jvm.MethodName) prog_19_method_12_code (1 : Nat) (Option.some Jvm.ClassFile.FieldType.boolean), Jvm.Cond.code ({ cls := "java/lang/String", name := "equals", desc := "(Ljava/lang/Object;)Z" } : Jvm.MethodName) jdk_42_method_66_code (3 : Nat) (Option.some Jvm.ClassFile.FieldType.boolean), Jvm.Cond.code ({ cls := "java/lang/StringLatin1", name := "equals", desc := "([B[B)Z" } : Jvm.MethodName) jdk_43_method_13_code (3 : Nat) (Option.some Jvm.ClassFile.FieldType.boolean), Jvm.Cond.code ({ cls := "com/example/callweave/callweave/model/JvmNames", name := "isUnqualifiedName", desc := "(Ljava/lang/String;Z)Z" } : Jvm.MethodName) prog_19_method_13_code (4 : Nat) (Option.some Jvm.ClassFile.FieldType.boolean), Jvm.Cond.code ({ cls := "java/lang/String", name := "isEmpty", desc := "()Z" } : Jvm.MethodName) jdk_42_method_55_code (1 : Nat) (Option.some Jvm.ClassFile.FieldType.boolean), Jvm.Cond.code ({ cls := "com/example/callweave/callweave/model/JvmNames", name := "requireMethodDescriptor", desc := "(Ljava/lang/String;)Ljava/lang/String;" } : Jvm.MethodName) prog_19_method_7_code (1 : Nat) (Option.some (Jvm.ClassFile.FieldType.object "java/lang/String")), Jvm.Cond.code ({ cls := "com/example/callweave/callweave/model/JvmNames", name := "isMethodDescriptor", desc := "(Ljava/lang/String;)Z" } : Jvm.MethodName) prog_19_method_15_code (4 : Nat) (Option.some Jvm.ClassFile.FieldType.boolean), Jvm.Cond.code ({ cls := "java/lang/String", name := "startsWith", desc := "(Ljava/lang/String;)Z" } : Jvm.MethodName) jdk_42_method_76_code (2 : Nat) (Option.some Jvm.ClassFile.FieldType.boolean), Jvm.Cond.code ({ cls := "java/lang/String", name := "startsWith", desc := "(Ljava/lang/String;I)Z" } : Jvm.MethodName) jdk_42_method_75_code (8 : Nat) (Option.some Jvm.ClassFile.FieldType.boolean), Jvm.Cond.code ({ cls := "jdk/internal/util/ArraysSupport", name := "mismatch", desc := "([BI[BII)I" } : Jvm.MethodName) jdk_48_method_14_code (8 : Nat) (Option.some Jvm.ClassFile.FieldType.int), Jvm.Cond.code ({ cls := "com/example/callweave/callweave/model/JvmNames", name := "endOfFieldType", desc := "(Ljava/lang/String;I)I" } : Jvm.MethodName) prog_19_method_16_code (4 : Nat) (Option.some Jvm.ClassFile.FieldType.int), Jvm.Cond.code ({ cls := "java/lang/String", name := "valueOf", desc := "(C)Ljava/lang/String;" } : Jvm.MethodName) jdk_42_method_139_code (1 : Nat) (Option.some (Jvm.ClassFile.FieldType.object "java/lang/String")), Jvm.Cond.code ({ cls := "java/lang/StringLatin1", name := "canEncode", desc := "(C)Z" } : Jvm.MethodName) jdk_43_method_3_code (1 : Nat) (Option.some Jvm.ClassFile.FieldType.boolean), Jvm.Cond.code ({ cls := "java/lang/StringLatin1", name := "toBytes", desc := "(C)[B" } : Jvm.MethodName) jdk_43_method_46_code (1 : Nat) (Option.some (Jvm.ClassFile.FieldType.array Jvm.ClassFile.FieldType.byte)), Jvm.Cond.code ({ cls := "java/lang/String", name := "<init>", desc := "([BB)V" } : Jvm.MethodName) jdk_42_method_151_code (3 : Nat) (Option.none : Option Jvm.ClassFile.FieldType), Jvm.Cond.code ({ cls := "com/example/callweave/callweave/model/FieldRef", name := "<init>", desc := "(Ljava/lang/String;Ljava/lang/String;Ljava/lang/String;)V" } : Jvm.MethodName) prog_13_method_1_code (4 : Nat) (Option.none : Option Jvm.ClassFile.FieldType), Jvm.Cond.code ({ cls := "com/example/callweave/callweave/model/FieldRef", name := "<init>", desc := "(Ljava/lang/String;Ljava/lang/String;Ljava/lang/String;Z)V" } : Jvm.MethodName) prog_13_method_2_code (5 : Nat) (Option.none : Option Jvm.ClassFile.FieldType), Jvm.Cond.code ({ cls := "com/example/callweave/callweave/model/JvmNames", name := "requireFieldName", desc := "(Ljava/lang/String;)Ljava/lang/String;" } : Jvm.MethodName) prog_19_method_4_code (1 : Nat) (Option.some (Jvm.ClassFile.FieldType.object "java/lang/String")), Jvm.Cond.code ({ cls := "com/example/callweave/callweave/model/JvmNames", name := "isFieldName", desc := "(Ljava/lang/String;)Z" } : Jvm.MethodName) prog_19_method_11_code (1 : Nat) (Option.some Jvm.ClassFile.FieldType.boolean), Jvm.Cond.code ({ cls := "com/example/callweave/callweave/model/JvmNames", name := "requireFieldDescriptor", desc := "(Ljava/lang/String;)Ljava/lang/String;" } : Jvm.MethodName) prog_19_method_5_code (1 : Nat) (Option.some (Jvm.ClassFile.FieldType.object "java/lang/String")), Jvm.Cond.code ({ cls := "com/example/callweave/callweave/model/JvmNames", name := "isFieldDescriptor", desc := "(Ljava/lang/String;)Z" } : Jvm.MethodName) prog_19_method_14_code (1 : Nat) (Option.some Jvm.ClassFile.FieldType.boolean), Jvm.Cond.code ({ cls := "com/example/callweave/callweave/model/MethodRef", name := "equals", desc := "(Ljava/lang/Object;)Z" } : Jvm.MethodName) prog_21_method_8_code (3 : Nat) (Option.some Jvm.ClassFile.FieldType.boolean)]
set_option maxRecDepth 65536 in
theorem codes_eq : words1.filter isCode = codes1 := rfl
theorem w_codes : ∀ c ∈ words1.filter isCode, c.before args0 about1 = true := by
  rw [codes_eq]
  intro c hc
  simp only [codes1, List.mem_cons, List.not_mem_nil, or_false] at hc
  rcases hc with rfl | rfl | rfl | rfl | rfl | rfl | rfl | rfl | rfl | rfl | rfl | rfl | rfl | rfl | rfl | rfl | rfl | rfl | rfl | rfl | rfl | rfl | rfl | rfl | rfl | rfl | rfl | rfl | rfl | rfl | rfl | rfl | rfl | rfl | rfl | rfl | rfl | rfl | rfl | rfl | rfl | rfl | rfl | rfl | rfl | rfl | rfl
  · exact w_c0
  · exact w_c1
  · exact w_c2
  · exact w_c3
  · exact w_c4
  · exact w_c5
  · exact w_c6
  · exact w_c7
  · exact w_c8
  · exact w_c9
  · exact w_c10
  · exact w_c11
  · exact w_c12
  · exact w_c13
  · exact w_c14
  · exact w_c15
  · exact w_c16
  · exact w_c17
  · exact w_c18
  · exact w_c19
  · exact w_c20
  · exact w_c21
  · exact w_c22
  · exact w_c23
  · exact w_c24
  · exact w_c25
  · exact w_c26
  · exact w_c27
  · exact w_c28
  · exact w_c29
  · exact w_c30
  · exact w_c31
  · exact w_c32
  · exact w_c33
  · exact w_c34
  · exact w_c35
  · exact w_c36
  · exact w_c37
  · exact w_c38
  · exact w_c39
  · exact w_c40
  · exact w_c41
  · exact w_c42
  · exact w_c43
  · exact w_c44
  · exact w_c45
  · exact w_c46
set_option maxRecDepth 65536 in
theorem w_t1 : (words1.take 24).all (fun c => isCode c || c.before args0 about1) = true := by decide +kernel
set_option maxRecDepth 65536 in
theorem w_t2 : ((words1.drop 24).take 24).all (fun c => isCode c || c.before args0 about1) = true := by decide +kernel
set_option maxRecDepth 65536 in
theorem w_t3 : (((words1.drop 24).drop 24).take 24).all (fun c => isCode c || c.before args0 about1) = true := by decide +kernel
set_option maxRecDepth 65536 in
theorem w_t4 : ((((words1.drop 24).drop 24).drop 24).take 24).all (fun c => isCode c || c.before args0 about1) = true := by decide +kernel
set_option maxRecDepth 65536 in
theorem w_t5 : (((((words1.drop 24).drop 24).drop 24).drop 24).take 24).all (fun c => isCode c || c.before args0 about1) = true := by decide +kernel
set_option maxRecDepth 65536 in
theorem w_t6 : ((((((words1.drop 24).drop 24).drop 24).drop 24).drop 24).take 24).all (fun c => isCode c || c.before args0 about1) = true := by decide +kernel
set_option maxRecDepth 65536 in
theorem w_t7 : (((((((words1.drop 24).drop 24).drop 24).drop 24).drop 24).drop 24).take 24).all (fun c => isCode c || c.before args0 about1) = true := by decide +kernel
set_option maxRecDepth 65536 in
theorem w_t8 : ((((((((words1.drop 24).drop 24).drop 24).drop 24).drop 24).drop 24).drop 24).take 24).all (fun c => isCode c || c.before args0 about1) = true := by decide +kernel
set_option maxRecDepth 65536 in
theorem w_t9 : (((((((((words1.drop 24).drop 24).drop 24).drop 24).drop 24).drop 24).drop 24).drop 24).take 24).all (fun c => isCode c || c.before args0 about1) = true := by decide +kernel
set_option maxRecDepth 65536 in
theorem w_t10 : (((((((((words1.drop 24).drop 24).drop 24).drop 24).drop 24).drop 24).drop 24).drop 24).drop 24).all (fun c => isCode c || c.before args0 about1) = true := by decide +kernel
theorem w_tables : (allAtoms (Jvm.Cond.code x code maxLocals ret :: tables_1)).before args0 about1 = true := by
  rw [allAtoms_all]
  show words1.all (fun c => c.before args0 about1) = true
  refine all_split ?_ w_codes
  rw [← List.take_append_drop 24 words1, List.all_append, w_t1, ← List.take_append_drop 24 (words1.drop 24), List.all_append, w_t2, ← List.take_append_drop 24 ((words1.drop 24).drop 24), List.all_append, w_t3, ← List.take_append_drop 24 (((words1.drop 24).drop 24).drop 24), List.all_append, w_t4, ← List.take_append_drop 24 ((((words1.drop 24).drop 24).drop 24).drop 24), List.all_append, w_t5, ← List.take_append_drop 24 (((((words1.drop 24).drop 24).drop 24).drop 24).drop 24), List.all_append, w_t6, ← List.take_append_drop 24 ((((((words1.drop 24).drop 24).drop 24).drop 24).drop 24).drop 24), List.all_append, w_t7, ← List.take_append_drop 24 (((((((words1.drop 24).drop 24).drop 24).drop 24).drop 24).drop 24).drop 24), List.all_append, w_t8, ← List.take_append_drop 24 ((((((((words1.drop 24).drop 24).drop 24).drop 24).drop 24).drop 24).drop 24).drop 24), List.all_append, w_t9, w_t10]
  rfl
set_option maxRecDepth 65536 in
theorem w_rest : rest_1_c.before args0 about1 = true := by decide +kernel
set_option maxRecDepth 65536 in
theorem w_case : (Jvm.Cond.and given_1 narrow_1).before args0 about1 = true := by decide +kernel
set_option maxRecDepth 65536 in
theorem w_consts : constsHeld consts_1 about1 := Jvm.Lit.constsHeldB_iff.mp (by decide +kernel)
theorem w_applies : (headSpec (Jvm.Cond.code x code maxLocals ret :: tables_1) room_1).applies x e0.platform about1 = true :=
  (Spec.applies_iff w_frames).mpr ⟨w_running, w_runnable, w_alone, w_named, w_hears, w_ripe, w_room, w_tables⟩
theorem atStart : AtStart classFile x code maxLocals ret World_1 tables_1 room_1 Calls_1 rest_1 Pre_1 launch0 p0 e0 about1 theMethod args0 below0 :=
  ⟨lists_1, trivial, launch0.admits_env _ _ _, launch0.least_env, fairChoices_fair.cas, fairChoices_fair.clock, w_frames, w_args, w_heap, w_applies, ⟨w_consts, trivial⟩, w_rest, w_case⟩
end start1
theorem witness_1 : WitnessClaimed_1 := ⟨start1.p0, start1.e0, start1.about1, start1.theMethod, start1.args0, start1.below0, start1.atStart⟩
end Jvm.Pilot.@@N@@
