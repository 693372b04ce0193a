import JvmDerived
import JvmDerived.Pilot.@@N@@Statement
import JvmDerived.Pilot.@@N@@Code
set_option linter.unusedVariables false
set_option linter.unusedSimpArgs false
namespace Jvm.Pilot.@@N@@
open Jvm Jvm.ClassFile Sem Op Lib Jvm.Free Jvm.Stand Jvm.LawKit Jvm.RoadKit Bundle Jvm.Pilot.@@N@@.Jvm.D
/-! own_1: the walk as a goal. The heap is a list F of owned cells and a list G of cells that are only read; Go says: from here the body ends well. -/
abbrev Ent : Type := Addr × (Cell → Prop)
def Hp (Z : State) (EL : List (String × Nat)) (vm : Vm) (h : Heap) (F G : List Ent) : Prop :=
  Ext Z.heap h ∧ (∀ q ∈ F, ∃ c : Cell, h[q.1]? = some c ∧ q.2 c) ∧ (∀ q ∈ G, ∃ c : Cell, h[q.1]? = some c ∧ q.2 c) ∧ (F.map (·.1)).Nodup ∧
    ∀ q ∈ F, Z.heap.size ≤ q.1 ∧ Safe Z EL vm h q.1 ∧ ∀ r ∈ G, r.1 ≠ q.1
/-- what is fixed for a whole proof: the launch, the law's start, the law's arguments, the constants -/
abbrev Ax : Type := Launch × State × Array Value × List (String × Nat) × Bool
abbrev Ax.l (A : Ax) : Launch := A.1
abbrev Ax.Z (A : Ax) : State := A.2.1
abbrev Ax.a0 (A : Ax) : Array Value := A.2.2.1
abbrev Ax.EL (A : Ax) : List (String × Nat) := A.2.2.2.1
/-- may a literal be interned? -/
abbrev Ax.wm (A : Ax) : Bool := A.2.2.2.2
/-- a method: its name, bytes, locals, return type, and the room that its contract asks -/
abbrev Bx : Type := MethodName × ByteArray × Nat × Option FieldType × Room
abbrev Bx.y (B : Bx) : MethodName := B.1
abbrev Bx.bytes (B : Bx) : ByteArray := B.2.1
abbrev Bx.maxL (B : Bx) : Nat := B.2.2.1
abbrev Bx.ret (B : Bx) : Option FieldType := B.2.2.2.1
abbrev Bx.rm (B : Bx) : Room := B.2.2.2.2
/-- one invocation -/
abbrev Dx : Type := Program × Env × State × MethodId × Array Value × List Frame × Method × Code
abbrev Dx.p (D : Dx) : Program := D.1
abbrev Dx.e (D : Dx) : Env := D.2.1
abbrev Dx.s (D : Dx) : State := D.2.2.1
abbrev Dx.m (D : Dx) : MethodId := D.2.2.2.1
abbrev Dx.args (D : Dx) : Array Value := D.2.2.2.2.1
abbrev Dx.below (D : Dx) : List Frame := D.2.2.2.2.2.1
abbrev Dx.meth (D : Dx) : Method := D.2.2.2.2.2.2.1
abbrev Dx.c (D : Dx) : Code := D.2.2.2.2.2.2.2
def St (A : Ax) (B : Bx) (D : Dx) (T : State) (F G : List Ent) (cells slots : Nat) : Prop :=
  ∃ (vm0 : Vm) (k0 : Nat) (locs : List Loc), Stand D.p A.l D.e B.rm (D.s.setVm vm0) D.m D.args D.below D.meth D.c T locs cells slots ∧ A.Z.Warmed39 vm0 ∧ vm0.findClass B.y.cls = some D.m.cls ∧
    D.s.Since vm0 k0 ∧ k0 ≤ T.heap.size ∧ (Fr A.Z.heap.size locs ∧ (A.wm = false → D.s.WarmedH vm0)) ∧ CHr A.Z A.EL D.s.vm D.s.heap vm0 T.heap ∧ Hp A.Z A.EL vm0 T.heap F G
def Bdy (A : Ax) (B : Bx) (D : Dx) : Prop :=
  D.p.tables.exec = Jvm.exec ∧ D.c.code = B.bytes ∧ D.c.maxLocals = B.maxL ∧ D.meth.sig.returnType = B.ret ∧ D.meth.name = B.y.name ∧ D.meth.locks = false ∧ EW A.Z A.a0 A.EL
abbrev Pst : Type := Option Value → List Ent → List Ent → Prop
def Fin (A : Ax) (rm : Room) (below : List Frame) (s : State) (Q : Pst) (o : Outcome) (s₂ : State) : Prop :=
  ∃ (v : Option Value) (L : List Loc) (F' G' : List Ent), o = .returned v ∧ Q v F' G' ∧ Hp A.Z A.EL s₂.vm s₂.heap F' G' ∧ (Fr A.Z.heap.size L ∧ (A.wm = false → s.WarmedH s₂.vm)) ∧ CHr A.Z A.EL s.vm s.heap s₂.vm s₂.heap ∧ ReturnedEndW s o s₂ L rm.cells rm.slots
def Go (A : Ax) (B : Bx) (D : Dx) (Q : Pst) (pc : Nat) (L : List Slot) (S : List Value) (F G : List Ent) (cells slots : Nat) : Prop :=
  Bdy A B D → ∀ T, St A B D T F G cells slots → ∃ s₂ o, Steps D.p.tables D.e D.below (T.setTop (mkF D.m pc L.toArray S)) s₂ ∧ s₂.status = .running ∧ Ended s₂ D.below o ∧ Fin A B.rm D.below D.s Q o s₂
def MetW (ws : List Cond) (A : Ax) (B : Bx) (as' : Array Value) (F G : List Ent) (Q : Pst) : Prop :=
  MetFree A.l B.y (head1 (Cond.code B.y B.bytes B.maxL B.ret :: ws) B.rm) (fun a U => a = as' ∧ A.Z.Warmed39 U.vm ∧ CHv A.Z A.EL U.vm U.heap ∧ Hp A.Z A.EL U.vm U.heap F G) (fun _ _ _ _ _ => True) (fun _ U o U' => Fin A B.rm [] U Q o U')
abbrev Met (A : Ax) (B : Bx) (as' : Array Value) (F G : List Ent) (Q : Pst) : Prop := MetW [] A B as' F G Q
section Own
variable {A : Ax} {B : Bx} {D : Dx} {Q : Pst} {pc pc' : Nat} {L L' : List Slot} {S S' rest : List Value} {F F' G G' : List Ent} {cells slots : Nat}
theorem own_ext_refl (h : Heap) : Ext h h := ⟨Nat.le_refl _, fun _ _ q => q⟩
theorem own_ext_trans {h1 h2 h3 : Heap} (a : Ext h1 h2) (b : Ext h2 h3) : Ext h1 h3 := ⟨Nat.le_trans a.1 b.1, fun x c q => b.2 x c (a.2 x c q)⟩
theorem Hp.lt {Z : State} {EL : List (String × Nat)} {vm : Vm} {h : Heap} (H : Hp Z EL vm h F G) {q : Ent} (m : q ∈ F) : q.1 < h.size := by
  obtain ⟨c, e, -⟩ := H.2.1 q m
  exact (Array.getElem?_eq_some_iff.mp e).1
/-- the tables go on -/
theorem Hp.later {Z : State} {EL : List (String × Nat)} {vm vm1 : Vm} {h h' : Heap} (H : Hp Z EL vm h F G) (C : CHr Z EL vm h vm1 h') (E : Ext h h') : Hp Z EL vm1 h' F G :=
  ⟨own_ext_trans H.1 E, fun q m => by obtain ⟨c, e, p⟩ := H.2.1 q m; exact ⟨c, E.2 _ _ e, p⟩, fun q m => by obtain ⟨c, e, p⟩ := H.2.2.1 q m; exact ⟨c, E.2 _ _ e, p⟩, H.2.2.2.1,
    fun q m => ⟨(H.2.2.2.2 q m).1, C.safe (H.lt m) (H.2.2.2.2 q m).2.1, (H.2.2.2.2 q m).2.2⟩⟩
theorem Hp.perm {Z : State} {EL : List (String × Nat)} {vm : Vm} {h : Heap} (H : Hp Z EL vm h F G) (P : F.Perm F') : Hp Z EL vm h F' G :=
  ⟨H.1, fun q m => H.2.1 q (P.mem_iff.mpr m), H.2.2.1, (P.map _).nodup_iff.mp H.2.2.2.1, fun q m => H.2.2.2.2 q (P.mem_iff.mpr m)⟩
theorem Hp.gsub {Z : State} {EL : List (String × Nat)} {vm : Vm} {h : Heap} (H : Hp Z EL vm h F G) (P : ∀ q ∈ G', q ∈ G) : Hp Z EL vm h F G' :=
  ⟨H.1, H.2.1, fun q m => H.2.2.1 q (P q m), H.2.2.2.1, fun q m => ⟨(H.2.2.2.2 q m).1, (H.2.2.2.2 q m).2.1, fun r k => (H.2.2.2.2 q m).2.2 r (P r k)⟩⟩
/-- an owned cell is only read from here on -/
theorem Hp.freeze {Z : State} {EL : List (String × Nat)} {vm : Vm} {h : Heap} {q : Ent} (H : Hp Z EL vm h (q :: F) G) : Hp Z EL vm h F (q :: G) := by
  obtain ⟨h1, h2, h3, h4, h5⟩ := H
  have hn := List.nodup_cons.mp h4
  refine ⟨h1, fun r m => h2 r (List.mem_cons_of_mem _ m), fun r m => ?_, hn.2, fun r m => ⟨(h5 r (List.mem_cons_of_mem _ m)).1, (h5 r (List.mem_cons_of_mem _ m)).2.1, fun t k => ?_⟩⟩
  · rcases List.mem_cons.mp m with rfl | m
    · exact h2 _ (List.mem_cons_self ..)
    · exact h3 r m
  · rcases List.mem_cons.mp k with rfl | k
    · exact fun z => hn.1 (List.mem_map.mpr ⟨r, m, z.symm⟩)
    · exact (h5 r (List.mem_cons_of_mem _ m)).2.2 t k
theorem Hp.drop {Z : State} {EL : List (String × Nat)} {vm : Vm} {h : Heap} {q : Ent} (H : Hp Z EL vm h (q :: F) G) : Hp Z EL vm h F G := H.freeze.gsub fun _ m => List.mem_cons_of_mem _ m
/-- a new cell -/
theorem Hp.new {Z : State} {EL : List (String × Nat)} {vm : Vm} {h h' : Heap} {P : Cell → Prop} {c : Cell} (H : Hp Z EL vm h F G) (hC : CHv Z EL vm h) (E : Ext h h') (hc : h'[h.size]? = some c) (hp : P c) : Hp Z EL vm h' ((h.size, P) :: F) G := by
  obtain ⟨h1, h2, h3, h4, h5⟩ := H
  have hlt : h.size < h'.size := (Array.getElem?_eq_some_iff.mp hc).1
  have gl : ∀ r ∈ G, r.1 < h.size := fun r m => by obtain ⟨c, e, -⟩ := h3 r m; exact (Array.getElem?_eq_some_iff.mp e).1
  have fl : ∀ r ∈ F, r.1 < h.size := fun r m => by obtain ⟨c, e, -⟩ := h2 r m; exact (Array.getElem?_eq_some_iff.mp e).1
  refine ⟨own_ext_trans h1 E, fun q m => ?_, fun q m => by obtain ⟨c, e, p⟩ := h3 q m; exact ⟨c, E.2 _ _ e, p⟩, ?_, fun q m => ?_⟩
  · rcases List.mem_cons.mp m with rfl | m
    · exact ⟨c, hc, hp⟩
    · obtain ⟨c, e, p⟩ := h2 q m; exact ⟨c, E.2 _ _ e, p⟩
  · refine List.nodup_cons.mpr ⟨fun z => ?_, h4⟩
    obtain ⟨r, m, e⟩ := List.mem_map.mp z
    exact absurd e (Nat.ne_of_lt (fl r m))
  · rcases List.mem_cons.mp m with rfl | m
    · exact ⟨h1.1, Safe.ext E hC (Safe.new (Nat.le_refl _)), fun r k => Nat.ne_of_lt (gl r k)⟩
    · exact ⟨(h5 q m).1, Safe.ext E hC (h5 q m).2.1, (h5 q m).2.2⟩
/-- one owned cell is written -/
theorem Hp.wr {Z : State} {EL : List (String × Nat)} {vm : Vm} {h h' : Heap} {a : Addr} {sl : Nat} {v : Value} {P P' : Cell → Prop} (H : Hp Z EL vm h ((a, P) :: F) G) (hC : CHv Z EL vm h) (W : Wr h h' a sl v) (hp : ∀ c, P c → P' (c.setSlot sl v)) : Hp Z EL vm h' ((a, P') :: F) G := by
  obtain ⟨h1, h2, h3, h4, h5⟩ := H
  have hn := List.nodup_cons.mp h4
  have sa := h5 _ (List.mem_cons_self ..)
  have oth : ∀ (b : Addr) (c : Cell), b ≠ a → h[b]? = some c → h'[b]? = some c := fun b c ne e => by
    obtain ⟨c', e1, -, -, -, e5, -⟩ := wr_at W e
    rw [← e5 ne]; exact e1
  refine ⟨⟨by rw [W.size]; exact h1.1, fun b c e => ?_⟩, fun q m => ?_, fun q m => ?_, h4, fun q m => ?_⟩
  · exact oth b c (Nat.ne_of_lt (Nat.lt_of_lt_of_le (Array.getElem?_eq_some_iff.mp e).1 sa.1)) (h1.2 b c e)
  · rcases List.mem_cons.mp m with rfl | m
    · obtain ⟨c, e, p⟩ := h2 _ (List.mem_cons_self ..)
      obtain ⟨c', e1, -, -, -, -, -, e7⟩ := wr_at W e
      exact ⟨c', e1, by rw [(e7 rfl).1]; exact hp c p⟩
    · obtain ⟨c, e, p⟩ := h2 q (List.mem_cons_of_mem _ m)
      refine ⟨c, oth _ _ (fun z => hn.1 (List.mem_map.mpr ⟨q, m, z⟩)) e, p⟩
  · obtain ⟨c, e, p⟩ := h3 q m
    exact ⟨c, oth _ _ (sa.2.2 q m) e, p⟩
  · have key : ∀ r : Ent, r ∈ (a, P) :: F → Z.heap.size ≤ r.1 ∧ Safe Z EL vm h' r.1 ∧ ∀ t ∈ G, t.1 ≠ r.1 := fun r m => ⟨(h5 r m).1, Safe.wr W sa.2.1 hC (h5 r m).2.1, (h5 r m).2.2⟩
    rcases List.mem_cons.mp m with rfl | m
    · exact key (a, P) (List.mem_cons_self ..)
    · exact key q (List.mem_cons_of_mem _ m)
/-- a cell may be forgotten, or known less well -/
theorem Hp.weak {Z : State} {EL : List (String × Nat)} {vm : Vm} {h : Heap} {a : Addr} {P P' : Cell → Prop} (H : Hp Z EL vm h ((a, P) :: F) G) (hp : ∀ c, P c → P' c) : Hp Z EL vm h ((a, P') :: F) G := by
  obtain ⟨h1, h2, h3, h4, h5⟩ := H
  refine ⟨h1, fun q m => ?_, h3, h4, fun q m => ?_⟩
  · rcases List.mem_cons.mp m with rfl | m
    · obtain ⟨c, e, p⟩ := h2 _ (List.mem_cons_self ..); exact ⟨c, e, hp c p⟩
    · exact h2 q (List.mem_cons_of_mem _ m)
  · rcases List.mem_cons.mp m with rfl | m
    · exact h5 (a, P) (List.mem_cons_self ..)
    · exact h5 q (List.mem_cons_of_mem _ m)
theorem Hp.at {Z : State} {EL : List (String × Nat)} {vm : Vm} {h : Heap} {a : Addr} {P : Cell → Prop} (H : Hp Z EL vm h F G) (m : (a, P) ∈ F ∨ (a, P) ∈ G) : ∃ c : Cell, h[a]? = some c ∧ P c := by
  rcases m with m | m
  · exact H.2.1 _ m
  · exact H.2.2.1 _ m
/-! the laws of Go -/
theorem Go.step (h : Bdy A B D → ∀ (T : State) (target : State), At T D.m D.c D.below → Steps D.p.tables D.e D.below (T.setTop (mkF D.m pc' L'.toArray S')) target → Steps D.p.tables D.e D.below (T.setTop (mkF D.m pc L.toArray S)) target)
    (k : Go A B D Q pc' L' S' F G cells slots) : Go A B D Q pc L S F G cells slots := fun hb T hT => by
  obtain ⟨s₂, o, st, r⟩ := k hb T hT
  obtain ⟨vm0, k0, locs, X, -⟩ := hT
  exact ⟨s₂, o, h hb T s₂ X.here st, r⟩
/-- a step that leaves the heap alone -/
theorem Go.stay (h : Bdy A B D → ∀ (T : State) (vm0 : Vm) (locs : List Loc), Stand D.p A.l D.e B.rm (D.s.setVm vm0) D.m D.args D.below D.meth D.c T locs cells slots → A.Z.Warmed39 vm0 → vm0.findClass B.y.cls = some D.m.cls → Hp A.Z A.EL vm0 T.heap F G →
      ∃ T', Stand D.p A.l D.e B.rm (D.s.setVm vm0) D.m D.args D.below D.meth D.c T' locs cells slots ∧ T'.heap = T.heap ∧ ∀ target, Steps D.p.tables D.e D.below (T'.setTop (mkF D.m pc' L'.toArray S')) target → Steps D.p.tables D.e D.below (T.setTop (mkF D.m pc L.toArray S)) target)
    (k : Go A B D Q pc' L' S' F G cells slots) : Go A B D Q pc L S F G cells slots := fun hb T hT => by
  obtain ⟨vm0, k0, locs, X, hZ, hown, hS, hk, N, C, H⟩ := hT
  obtain ⟨T', X', e, st⟩ := h hb T vm0 locs X hZ hown H
  obtain ⟨s₂, o, st', r⟩ := k hb T' ⟨vm0, k0, locs, X', hZ, hown, hS, e ▸ hk, N, by rw [e]; exact C, by rw [e]; exact H⟩
  exact ⟨s₂, o, st _ st', r⟩
theorem Go.mono {cells' slots' : Nat} (h1 : cells ≤ cells') (h2 : slots ≤ slots') (k : Go A B D Q pc L S F G cells' slots') : Go A B D Q pc L S F G cells slots := fun hb T hT => by
  obtain ⟨vm0, k0, locs, X, r⟩ := hT
  exact k hb T ⟨vm0, k0, locs, X.more h1 h2, r⟩
theorem Go.perm (P : F.Perm F') (k : Go A B D Q pc L S F' G cells slots) : Go A B D Q pc L S F G cells slots := fun hb T hT => by
  obtain ⟨vm0, k0, locs, X, hZ, hown, hS, hk, N, C, H⟩ := hT
  exact k hb T ⟨vm0, k0, locs, X, hZ, hown, hS, hk, N, C, H.perm P⟩
theorem own_front : ∀ (F : List Ent) (i : Nat) (q : Ent), F[i]? = some q → F.Perm (q :: F.eraseIdx i)
  | [], i, q, h => by simp at h
  | a :: r, 0, q, h => by
    have e : a = q := by simpa using h
    rw [e]; exact List.Perm.refl _
  | a :: r, i + 1, q, h => by
    have := own_front r i q (by simpa using h)
    exact (this.cons a).trans (List.Perm.swap q a _)
theorem Go.front (i : Nat) {q : Ent} (h : F[i]? = some q) (h' : q :: F.eraseIdx i = F') (k : Go A B D Q pc L S F' G cells slots) : Go A B D Q pc L S F G cells slots := Go.perm (h' ▸ own_front F i q h) k
theorem Go.freeze {q : Ent} (k : Go A B D Q pc L S F (q :: G) cells slots) : Go A B D Q pc L S (q :: F) G cells slots := fun hb T hT => by
  obtain ⟨vm0, k0, locs, X, hZ, hown, hS, hk, N, C, H⟩ := hT
  exact k hb T ⟨vm0, k0, locs, X, hZ, hown, hS, hk, N, C, H.freeze⟩
theorem Go.drop {q : Ent} (k : Go A B D Q pc L S F G cells slots) : Go A B D Q pc L S (q :: F) G cells slots := fun hb T hT => by
  obtain ⟨vm0, k0, locs, X, hZ, hown, hS, hk, N, C, H⟩ := hT
  exact k hb T ⟨vm0, k0, locs, X, hZ, hown, hS, hk, N, C, H.drop⟩
theorem Go.gsub (P : ∀ q ∈ G', q ∈ G) (k : Go A B D Q pc L S F G' cells slots) : Go A B D Q pc L S F G cells slots := fun hb T hT => by
  obtain ⟨vm0, k0, locs, X, hZ, hown, hS, hk, N, C, H⟩ := hT
  exact k hb T ⟨vm0, k0, locs, X, hZ, hown, hS, hk, N, C, H.gsub P⟩
theorem Go.weak {a : Addr} {P P' : Cell → Prop} (hp : ∀ c, P c → P' c) (k : Go A B D Q pc L S ((a, P') :: F) G cells slots) : Go A B D Q pc L S ((a, P) :: F) G cells slots := fun hb T hT => by
  obtain ⟨vm0, k0, locs, X, hZ, hown, hS, hk, N, C, H⟩ := hT
  exact k hb T ⟨vm0, k0, locs, X, hZ, hown, hS, hk, N, C, H.weak hp⟩
theorem Go.post {Q' : Pst} (h : ∀ v F G, Q' v F G → Q v F G) (k : Go A B D Q' pc L S F G cells slots) : Go A B D Q pc L S F G cells slots := fun hb T hT => by
  obtain ⟨s₂, o, st, r1, r2, v, L, F', G', e, q, r⟩ := k hb T hT
  exact ⟨s₂, o, st, r1, r2, v, L, F', G', e, h _ _ _ q, r⟩
/-- what is known of an owned or read cell, as a fact in Lean -/
theorem Go.know {a : Addr} {P : Cell → Prop} {R : Prop} (m : (a, P) ∈ F ∨ (a, P) ∈ G) (hr : ∀ c, P c → R) (k : R → Go A B D Q pc L S F G cells slots) : Go A B D Q pc L S F G cells slots := fun hb T hT => by
  obtain ⟨vm0, k0, locs, X, hZ, hown, hS, hk, N, C, H⟩ := hT
  obtain ⟨c, -, p⟩ := H.at m
  exact k (hr c p) hb T ⟨vm0, k0, locs, X, hZ, hown, hS, hk, N, C, H⟩
/-- two owned cells are not one; an owned one and a read one are not one -/
theorem Go.apart {a b : Addr} {P P' : Cell → Prop} (m : (a, P) ∈ F) (m' : (b, P') ∈ G) (k : b ≠ a → Go A B D Q pc L S F G cells slots) : Go A B D Q pc L S F G cells slots := fun hb T hT => by
  obtain ⟨vm0, k0, locs, X, hZ, hown, hS, hk, N, C, H⟩ := hT
  exact k ((H.2.2.2.2 _ m).2.2 _ m') hb T ⟨vm0, k0, locs, X, hZ, hown, hS, hk, N, C, H⟩
theorem Go.apartF {a b : Addr} {P P' : Cell → Prop} (m : (b, P') ∈ F) (k : b ≠ a → Go A B D Q pc L S ((a, P) :: F) G cells slots) : Go A B D Q pc L S ((a, P) :: F) G cells slots := fun hb T hT => by
  obtain ⟨vm0, k0, locs, X, hZ, hown, hS, hk, N, C, H⟩ := hT
  exact k (fun z => (List.nodup_cons.mp H.2.2.2.1).1 (List.mem_map.mpr ⟨_, m, z⟩)) hb T ⟨vm0, k0, locs, X, hZ, hown, hS, hk, N, C, H⟩
/-- entering a method -/
theorem MetW.of_go {ws : List Cond} {as' : Array Value} (hpl : plainFor B.y = true) (hEL : EW A.Z A.a0 A.EL) (hef : ∀ m, entryFrame m as' B.maxL = mkF m 0 L.toArray []) (h : ∀ D : Dx, D.args = as' → Go A B D Q 0 L [] F G 0 0) : MetW ws A B as' F G Q := by
  refine MetFree.of_bodySF hpl hisR ?_
  intro p e s m args below meth c s₁ Bd hml hP hK
  obtain ⟨rfl, hZ, hC, H⟩ := hP
  have X0 : Stand p A.l e B.rm s m args below meth c s₁ [] 0 0 := Stand.of_body Bd
  have e0 : s₁.heap = s.heap := by rw [Bd.state]; rfl
  obtain ⟨s₂, o, st, r1, r2, v, L', F', G', eo, q, H', N', C', W'⟩ := h (p, e, s, m, args, below, meth, c) rfl ⟨Bd.exec, Bd.bytes, hml, Bd.returns, (name_of_methodNamed Bd.named Bd.method).1, Bd.notSynchronized, hEL⟩ s₁
    ⟨s.vm, s.heap.size, [], X0, hZ, findClass_of_methodNamed Bd.named, State.WarmedH.since (State.WarmedH.refl s) _, by rw [e0]; exact Nat.le_refl _, ⟨Fr.nil _, fun _ => State.WarmedH.refl s⟩, by rw [e0]; exact CHr.refl hC, by rw [e0]; exact H⟩
  exact ⟨s₂, o, castTop (hef m) st, r1, r2, v, L', F', G', eo, q, H', N', C', W'⟩
end Own
/-! own_2: a run of plain steps, by one evaluation -/
/-- what i2c and i2b keep -/
def chr16 (x : Int32) : Int32 := x.toUInt32.toUInt16.toUInt32.toInt32
def byt8 (x : Int32) : Int32 := x.toInt8.toInt32
abbrev In1 : Type := Nat × Instr × Nat
abbrev Pl : Type := Nat × List Slot × List Value
def setL (L : List Slot) (i : Nat) (x : Slot) : Option (List Slot) := if i < L.length then some (L.set i x) else none
def stoSelf (L : List Slot) (i : Nat) (v : Value) : Option (List Slot) :=
  (setL L i (.val v)).bind fun L1 => if v.category = 2 then L1[i + 1]?.bind fun o => match o with
    | .val old => if old.category = 2 then (setL L1 (i + 2) .unset).bind fun L2 => setL L2 (i + 1) .second else setL L1 (i + 1) .second
    | _ => setL L1 (i + 1) .second
  else some L1
def sto (L : List Slot) (i : Nat) (v : Value) : Option (List Slot) :=
  L[i]?.bind fun o => match o with
    | .second => (setL L (i - 1) .unset).bind fun L1 => stoSelf L1 i v
    | .val old => if old.category = 2 then (setL L (i + 1) .unset).bind fun L1 => stoSelf L1 i v else stoSelf L i v
    | .unset => stoSelf L i v
theorem own_setL (L : List Slot) (i : Nat) (x : Slot) : Jvm.setAt L.toArray i x = (setL L i x).map List.toArray := by
  unfold Jvm.setAt setL; by_cases h : i < L.length <;> simp [h]
theorem own_stoSelf (L : List Slot) (i : Nat) (v : Value) : storeSelf L.toArray i v = (stoSelf L i v).map List.toArray := by
  unfold storeSelf stoSelf
  rw [own_setL]
  cases h1 : setL L i (.val v) with
  | none => rfl
  | some L1 =>
    simp only [Option.map_some, Option.bind_eq_bind, Option.bind_some]
    by_cases hv : v.category = 2
    · simp only [hv, if_true, List.getElem?_toArray]
      cases h2 : L1[i + 1]? with
      | none => rfl
      | some o =>
        simp only [Option.bind_some]
        cases o with
        | unset => exact own_setL ..
        | second => exact own_setL ..
        | val old =>
          by_cases hc : old.category = 2
          · simp only [hc, if_true]
            rw [own_setL]
            cases h3 : setL L1 (i + 2) .unset with
            | none => rfl
            | some L2 => exact own_setL ..
          · simp only [hc, if_false]; exact own_setL ..
    · simp only [hv, if_false, Option.map_some]
theorem own_sto (L : List Slot) (i : Nat) (v : Value) : storeLocals L.toArray i v = (sto L i v).map List.toArray := by
  unfold storeLocals sto
  simp only [List.getElem?_toArray, Option.bind_eq_bind]
  cases h2 : L[i]? with
  | none => rfl
  | some o =>
    simp only [Option.bind_some]
    cases o with
    | unset => exact own_stoSelf ..
    | second =>
      rw [own_setL]
      cases h3 : setL L (i - 1) .unset with
      | none => rfl
      | some L2 => exact own_stoSelf ..
    | val old =>
      by_cases hc : old.category = 2
      · simp only [hc, if_true]
        rw [own_setL]
        cases h3 : setL L (i + 1) .unset with
        | none => rfl
        | some L2 => exact own_stoSelf ..
      · simp only [hc, if_false]; exact own_stoSelf ..
theorem own_sto' {L L' : List Slot} {i : Nat} {v : Value} (h : sto L i v = some L') : storeLocals L.toArray i v = some L'.toArray := by rw [own_sto, h]; rfl
def ld (L : List Slot) (k : Nat) : Option Value := match L[k]? with
  | some (.val v) => some v
  | _ => none
theorem own_ld {L : List Slot} {k : Nat} {v : Value} (h : ld L k = some v) : L.toArray[k]? = some (.val v) := by
  unfold ld at h
  rw [List.getElem?_toArray]
  split at h <;> simp_all
def ldI (L : List Slot) (k : Nat) : Option Int32 := match ld L k with
  | some (.int v) => some v
  | _ => none
def ldJ (L : List Slot) (k : Nat) : Option Int64 := match ld L k with
  | some (.long v) => some v
  | _ => none
def ldA (L : List Slot) (k : Nat) : Option Value := match ld L k with
  | some (.ref a) => some (.ref a)
  | some .null => some .null
  | _ => none
theorem own_ldI {L : List Slot} {k : Nat} {v : Int32} (h : ldI L k = some v) : L.toArray[k]? = some (.val (.int v)) := by
  unfold ldI at h; split at h
  · rename_i e; cases h; exact own_ld e
  · cases h
theorem own_ldJ {L : List Slot} {k : Nat} {v : Int64} (h : ldJ L k = some v) : L.toArray[k]? = some (.val (.long v)) := by
  unfold ldJ at h; split at h
  · rename_i e; cases h; exact own_ld e
  · cases h
theorem own_ldA {L : List Slot} {k : Nat} {v : Value} (h : ldA L k = some v) : L.toArray[k]? = some (.val v) ∧ v.isRef = true := by
  unfold ldA at h; split at h
  · rename_i e; cases h; exact ⟨own_ld e, rfl⟩
  · rename_i e; cases h; exact ⟨own_ld e, rfl⟩
  · cases h
def bin (S : List Value) (f : Int32 → Int32 → Int32) : Option (List Value) := match S with
  | .int y :: .int x :: r => some (.int (f x y) :: r)
  | _ => none
def binL (S : List Value) (f : Int64 → Int64 → Value) : Option (List Value) := match S with
  | .long y :: .long x :: r => some (f x y :: r)
  | _ => none
def shfL (S : List Value) (f : Int64 → Int32 → Int64) : Option (List Value) := match S with
  | .int y :: .long x :: r => some (.long (f x y) :: r)
  | _ => none
def un (S : List Value) (f : Int32 → Value) : Option (List Value) := match S with
  | .int x :: r => some (f x :: r)
  | _ => none
def unL (S : List Value) (f : Int64 → Value) : Option (List Value) := match S with
  | .long x :: r => some (f x :: r)
  | _ => none
def stI1 (L : List Slot) (S : List Value) (k : Nat) : Option (List Slot × List Value) := match S with
  | .int x :: r => (sto L k (.int x)).map fun L' => (L', r)
  | _ => none
def stJ1 (L : List Slot) (S : List Value) (k : Nat) : Option (List Slot × List Value) := match S with
  | .long x :: r => (sto L k (.long x)).map fun L' => (L', r)
  | _ => none
def stA1 (L : List Slot) (S : List Value) (k : Nat) : Option (List Slot × List Value) := match S with
  | .ref x :: r => (sto L k (.ref x)).map fun L' => (L', r)
  | .null :: r => (sto L k .null).map fun L' => (L', r)
  | _ => none
def dupV (S : List Value) : Option (List Value) := match S with
  | x :: r => if x.category = 1 then some (x :: x :: r) else none
  | _ => none
def dup1V (S : List Value) : Option (List Value) := match S with
  | x :: y :: r => if x.category = 1 ∧ y.category = 1 then some (x :: y :: x :: r) else none
  | _ => none
def dup2V (S : List Value) : Option (List Value) := match S with
  | x :: y :: r => if x.category = 1 ∧ y.category = 1 then some (x :: y :: x :: y :: r) else none
  | _ => none
def popV (S : List Value) : Option (List Value) := match S with
  | x :: r => if x.category = 1 then some r else none
  | _ => none
def step1 (q : In1) (t : Pl) : Option Pl := match q.2.1, q.2.2 with
  | .iload k, 2 => (ldI t.2.1 k).map fun v => (t.1 + 2, t.2.1, .int v :: t.2.2)
  | .iload_n k, 1 => (ldI t.2.1 k.val).map fun v => (t.1 + 1, t.2.1, .int v :: t.2.2)
  | .lload k, 2 => (ldJ t.2.1 k).map fun v => (t.1 + 2, t.2.1, .long v :: t.2.2)
  | .lload_n k, 1 => (ldJ t.2.1 k.val).map fun v => (t.1 + 1, t.2.1, .long v :: t.2.2)
  | .aload k, 2 => (ldA t.2.1 k).map fun v => (t.1 + 2, t.2.1, v :: t.2.2)
  | .aload_n k, 1 => (ldA t.2.1 k.val).map fun v => (t.1 + 1, t.2.1, v :: t.2.2)
  | .istore k, 2 => (stI1 t.2.1 t.2.2 k).map fun r => (t.1 + 2, r)
  | .istore_n k, 1 => (stI1 t.2.1 t.2.2 k.val).map fun r => (t.1 + 1, r)
  | .lstore k, 2 => (stJ1 t.2.1 t.2.2 k).map fun r => (t.1 + 2, r)
  | .lstore_n k, 1 => (stJ1 t.2.1 t.2.2 k.val).map fun r => (t.1 + 1, r)
  | .astore k, 2 => (stA1 t.2.1 t.2.2 k).map fun r => (t.1 + 2, r)
  | .astore_n k, 1 => (stA1 t.2.1 t.2.2 k.val).map fun r => (t.1 + 1, r)
  | .iconst i, 1 => some (t.1 + 1, t.2.1, .int (Int32.ofInt i) :: t.2.2)
  | .bipush i, 2 => some (t.1 + 2, t.2.1, .int (Int8.ofInt i).toInt32 :: t.2.2)
  | .sipush i, 3 => some (t.1 + 3, t.2.1, .int (Int16.ofInt i).toInt32 :: t.2.2)
  | .lconst k, 1 => some (t.1 + 1, t.2.1, .long (Int64.ofNat k) :: t.2.2)
  | .aconst_null, 1 => some (t.1 + 1, t.2.1, .null :: t.2.2)
  | .iadd, 1 => (bin t.2.2 (· + ·)).map fun r => (t.1 + 1, t.2.1, r)
  | .isub, 1 => (bin t.2.2 (· - ·)).map fun r => (t.1 + 1, t.2.1, r)
  | .imul, 1 => (bin t.2.2 (· * ·)).map fun r => (t.1 + 1, t.2.1, r)
  | .iand, 1 => (bin t.2.2 (· &&& ·)).map fun r => (t.1 + 1, t.2.1, r)
  | .ior, 1 => (bin t.2.2 (· ||| ·)).map fun r => (t.1 + 1, t.2.1, r)
  | .ixor, 1 => (bin t.2.2 (· ^^^ ·)).map fun r => (t.1 + 1, t.2.1, r)
  | .ishl, 1 => (bin t.2.2 fun x y => x <<< (y &&& 31)).map fun r => (t.1 + 1, t.2.1, r)
  | .ishr, 1 => (bin t.2.2 fun x y => x >>> (y &&& 31)).map fun r => (t.1 + 1, t.2.1, r)
  | .iushr, 1 => (bin t.2.2 Jvm.Free.XT.ushr).map fun r => (t.1 + 1, t.2.1, r)
  | .ineg, 1 => (un t.2.2 fun x => .int (-x)).map fun r => (t.1 + 1, t.2.1, r)
  | .ladd, 1 => (binL t.2.2 fun x y => .long (x + y)).map fun r => (t.1 + 1, t.2.1, r)
  | .lsub, 1 => (binL t.2.2 fun x y => .long (x - y)).map fun r => (t.1 + 1, t.2.1, r)
  | .land, 1 => (binL t.2.2 fun x y => .long (x &&& y)).map fun r => (t.1 + 1, t.2.1, r)
  | .lor, 1 => (binL t.2.2 fun x y => .long (x ||| y)).map fun r => (t.1 + 1, t.2.1, r)
  | .lxor, 1 => (binL t.2.2 fun x y => .long (x ^^^ y)).map fun r => (t.1 + 1, t.2.1, r)
  | .lcmp, 1 => (binL t.2.2 fun x y => .int (Jvm.Free.XT.cmpL x y)).map fun r => (t.1 + 1, t.2.1, r)
  | .lshl, 1 => (shfL t.2.2 fun x y => x <<< (y.toInt64 &&& 63)).map fun r => (t.1 + 1, t.2.1, r)
  | .lshr, 1 => (shfL t.2.2 fun x y => x >>> (y.toInt64 &&& 63)).map fun r => (t.1 + 1, t.2.1, r)
  | .lushr, 1 => (shfL t.2.2 Jvm.Free.XT.ushrL).map fun r => (t.1 + 1, t.2.1, r)
  | .i2l, 1 => (un t.2.2 fun x => .long x.toInt64).map fun r => (t.1 + 1, t.2.1, r)
  | .l2i, 1 => (unL t.2.2 fun x => .int x.toInt32).map fun r => (t.1 + 1, t.2.1, r)
  | .i2b, 1 => (un t.2.2 fun x => .int (byt8 x)).map fun r => (t.1 + 1, t.2.1, r)
  | .i2c, 1 => (un t.2.2 fun x => .int (chr16 x)).map fun r => (t.1 + 1, t.2.1, r)
  | .i2s, 1 => (un t.2.2 fun x => .int x.toInt16.toInt32).map fun r => (t.1 + 1, t.2.1, r)
  | .iinc k c, 3 => (ldI t.2.1 k).bind fun v => (sto t.2.1 k (.int (v + Int32.ofInt c))).map fun L' => (t.1 + 3, L', t.2.2)
  | .dup, 1 => (dupV t.2.2).map fun r => (t.1 + 1, t.2.1, r)
  | .dup_x1, 1 => (dup1V t.2.2).map fun r => (t.1 + 1, t.2.1, r)
  | .dup2, 1 => (dup2V t.2.2).map fun r => (t.1 + 1, t.2.1, r)
  | .pop, 1 => (popV t.2.2).map fun r => (t.1 + 1, t.2.1, r)
  | .goto o, 3 => if 0 ≤ (t.1 : Int) + o then some (((t.1 : Int) + o).toNat, t.2.1, t.2.2) else none
  | _, _ => none
def runL : List In1 → Pl → Option Pl
  | [], t => some t
  | q :: r, t => if q.1 = t.1 then (step1 q t).bind (runL r) else none
section Own
variable {A : Ax} {B : Bx} {D : Dx} {Q : Pst} {pc pc' : Nat} {L L' : List Slot} {S S' rest : List Value} {F F' G G' : List Ent} {cells slots : Nat}
set_option maxHeartbeats 4000000 in
theorem own_step1 {q : In1} {t t' : Pl} (hpc : q.1 = t.1) (h : step1 q t = some t') (hd : decode D.c.code q.1 = .ok q.2) (hx : D.p.tables.exec = Jvm.exec) (T target : State) (X : At T D.m D.c D.below)
    (k : Steps D.p.tables D.e D.below (T.setTop (mkF D.m t'.1 t'.2.1.toArray t'.2.2)) target) : Steps D.p.tables D.e D.below (T.setTop (mkF D.m t.1 t.2.1.toArray t.2.2)) target := by
  obtain ⟨qpc, qi, ql⟩ := q
  obtain ⟨pc, L, S⟩ := t
  obtain ⟨pc', L', S'⟩ := t'
  simp only at hpc hd k ⊢
  subst hpc
  unfold step1 at h
  simp only at h
  split at h
  · obtain ⟨v, hv, e⟩ := Option.map_eq_some_iff.mp h; cases e; exact XS.iload X hx rfl hd (own_ldI hv) k
  · obtain ⟨v, hv, e⟩ := Option.map_eq_some_iff.mp h; cases e; exact XS.iloadN X hx rfl hd (own_ldI hv) k
  · obtain ⟨v, hv, e⟩ := Option.map_eq_some_iff.mp h; cases e; exact XT.lload X hx rfl hd (own_ldJ hv) k
  · obtain ⟨v, hv, e⟩ := Option.map_eq_some_iff.mp h; cases e; exact XT.lloadN X hx rfl hd (own_ldJ hv) k
  · obtain ⟨v, hv, e⟩ := Option.map_eq_some_iff.mp h; cases e; exact XS.aload X hx rfl hd (own_ldA hv).1 (own_ldA hv).2 k
  · obtain ⟨v, hv, e⟩ := Option.map_eq_some_iff.mp h; cases e; exact XS.aloadN X hx rfl hd (own_ldA hv).1 (own_ldA hv).2 k
  · obtain ⟨⟨L1, S1⟩, hv, e⟩ := Option.map_eq_some_iff.mp h; cases e; unfold stI1 at hv; split at hv
    · obtain ⟨L2, h2, e⟩ := Option.map_eq_some_iff.mp hv; cases e; exact XS.istore X hx rfl hd rfl (own_sto' h2) k
    · cases hv
  · obtain ⟨⟨L1, S1⟩, hv, e⟩ := Option.map_eq_some_iff.mp h; cases e; unfold stI1 at hv; split at hv
    · obtain ⟨L2, h2, e⟩ := Option.map_eq_some_iff.mp hv; cases e; exact XS.istoreN X hx rfl hd rfl (own_sto' h2) k
    · cases hv
  · obtain ⟨⟨L1, S1⟩, hv, e⟩ := Option.map_eq_some_iff.mp h; cases e; unfold stJ1 at hv; split at hv
    · obtain ⟨L2, h2, e⟩ := Option.map_eq_some_iff.mp hv; cases e; exact XT.lstore X hx rfl hd rfl (own_sto' h2) k
    · cases hv
  · obtain ⟨⟨L1, S1⟩, hv, e⟩ := Option.map_eq_some_iff.mp h; cases e; unfold stJ1 at hv; split at hv
    · obtain ⟨L2, h2, e⟩ := Option.map_eq_some_iff.mp hv; cases e; exact XT.lstoreN X hx rfl hd rfl (own_sto' h2) k
    · cases hv
  · obtain ⟨⟨L1, S1⟩, hv, e⟩ := Option.map_eq_some_iff.mp h; cases e; unfold stA1 at hv; split at hv
    · obtain ⟨L2, h2, e⟩ := Option.map_eq_some_iff.mp hv; cases e; exact XS.astore X hx rfl hd rfl rfl (own_sto' h2) k
    · obtain ⟨L2, h2, e⟩ := Option.map_eq_some_iff.mp hv; cases e; exact XS.astore X hx rfl hd rfl rfl (own_sto' h2) k
    · cases hv
  · obtain ⟨⟨L1, S1⟩, hv, e⟩ := Option.map_eq_some_iff.mp h; cases e; unfold stA1 at hv; split at hv
    · obtain ⟨L2, h2, e⟩ := Option.map_eq_some_iff.mp hv; cases e; exact XS.astoreN X hx rfl hd rfl rfl (own_sto' h2) k
    · obtain ⟨L2, h2, e⟩ := Option.map_eq_some_iff.mp hv; cases e; exact XS.astoreN X hx rfl hd rfl rfl (own_sto' h2) k
    · cases hv
  · cases h; exact XS.iconst X hx rfl hd k
  · cases h; exact XS.bipush X hx rfl hd k
  · cases h; exact XS.sipush X hx rfl hd k
  · cases h; exact XT.lconst X hx rfl hd k
  · cases h; exact XS.aconstNull X hx rfl hd k
  · obtain ⟨S1, hv, e⟩ := Option.map_eq_some_iff.mp h; cases e; unfold bin at hv; split at hv
    · cases hv; exact XS.iadd X hx rfl hd rfl k
    · cases hv
  · obtain ⟨S1, hv, e⟩ := Option.map_eq_some_iff.mp h; cases e; unfold bin at hv; split at hv
    · cases hv; exact XS.isub X hx rfl hd rfl k
    · cases hv
  · obtain ⟨S1, hv, e⟩ := Option.map_eq_some_iff.mp h; cases e; unfold bin at hv; split at hv
    · cases hv; exact XS.imul X hx rfl hd rfl k
    · cases hv
  · obtain ⟨S1, hv, e⟩ := Option.map_eq_some_iff.mp h; cases e; unfold bin at hv; split at hv
    · cases hv; exact XS.iand X hx rfl hd rfl k
    · cases hv
  · obtain ⟨S1, hv, e⟩ := Option.map_eq_some_iff.mp h; cases e; unfold bin at hv; split at hv
    · cases hv; exact XT.ior X hx rfl hd rfl k
    · cases hv
  · obtain ⟨S1, hv, e⟩ := Option.map_eq_some_iff.mp h; cases e; unfold bin at hv; split at hv
    · cases hv; exact XT.ixor X hx rfl hd rfl k
    · cases hv
  · obtain ⟨S1, hv, e⟩ := Option.map_eq_some_iff.mp h; cases e; unfold bin at hv; split at hv
    · cases hv; exact XT.ishl X hx rfl hd rfl k
    · cases hv
  · obtain ⟨S1, hv, e⟩ := Option.map_eq_some_iff.mp h; cases e; unfold bin at hv; split at hv
    · cases hv; exact XT.ishr X hx rfl hd rfl k
    · cases hv
  · obtain ⟨S1, hv, e⟩ := Option.map_eq_some_iff.mp h; cases e; unfold bin at hv; split at hv
    · cases hv; exact XT.iushr X hx rfl hd rfl k
    · cases hv
  · obtain ⟨S1, hv, e⟩ := Option.map_eq_some_iff.mp h; cases e; unfold un at hv; split at hv
    · cases hv; exact XS.ineg X hx rfl hd rfl k
    · cases hv
  · obtain ⟨S1, hv, e⟩ := Option.map_eq_some_iff.mp h; cases e; unfold binL at hv; split at hv
    · cases hv; exact XT.ladd X hx rfl hd rfl k
    · cases hv
  · obtain ⟨S1, hv, e⟩ := Option.map_eq_some_iff.mp h; cases e; unfold binL at hv; split at hv
    · cases hv; exact XT.lsub X hx rfl hd rfl k
    · cases hv
  · obtain ⟨S1, hv, e⟩ := Option.map_eq_some_iff.mp h; cases e; unfold binL at hv; split at hv
    · cases hv; exact XT.land X hx rfl hd rfl k
    · cases hv
  · obtain ⟨S1, hv, e⟩ := Option.map_eq_some_iff.mp h; cases e; unfold binL at hv; split at hv
    · cases hv; exact XT.lor X hx rfl hd rfl k
    · cases hv
  · obtain ⟨S1, hv, e⟩ := Option.map_eq_some_iff.mp h; cases e; unfold binL at hv; split at hv
    · cases hv; exact XT.lxor X hx rfl hd rfl k
    · cases hv
  · obtain ⟨S1, hv, e⟩ := Option.map_eq_some_iff.mp h; cases e; unfold binL at hv; split at hv
    · cases hv; exact XT.lcmp X hx rfl hd rfl k
    · cases hv
  · obtain ⟨S1, hv, e⟩ := Option.map_eq_some_iff.mp h; cases e; unfold shfL at hv; split at hv
    · cases hv; exact XT.lshl X hx rfl hd rfl k
    · cases hv
  · obtain ⟨S1, hv, e⟩ := Option.map_eq_some_iff.mp h; cases e; unfold shfL at hv; split at hv
    · cases hv; exact XT.lshr X hx rfl hd rfl k
    · cases hv
  · obtain ⟨S1, hv, e⟩ := Option.map_eq_some_iff.mp h; cases e; unfold shfL at hv; split at hv
    · cases hv; exact XT.lushr X hx rfl hd rfl k
    · cases hv
  · obtain ⟨S1, hv, e⟩ := Option.map_eq_some_iff.mp h; cases e; unfold un at hv; split at hv
    · cases hv; exact XT.i2l X hx rfl hd rfl k
    · cases hv
  · obtain ⟨S1, hv, e⟩ := Option.map_eq_some_iff.mp h; cases e; unfold unL at hv; split at hv
    · cases hv; exact XT.l2i X hx rfl hd rfl k
    · cases hv
  · obtain ⟨S1, hv, e⟩ := Option.map_eq_some_iff.mp h; cases e; unfold un at hv; split at hv
    · cases hv; exact XT.i2b X hx rfl hd rfl k
    · cases hv
  · obtain ⟨S1, hv, e⟩ := Option.map_eq_some_iff.mp h; cases e; unfold un at hv; split at hv
    · cases hv; exact XT.i2c X hx rfl hd rfl k
    · cases hv
  · obtain ⟨S1, hv, e⟩ := Option.map_eq_some_iff.mp h; cases e; unfold un at hv; split at hv
    · cases hv; exact XT.i2s X hx rfl hd rfl k
    · cases hv
  · obtain ⟨v, hv, e⟩ := Option.bind_eq_some_iff.mp h; obtain ⟨L2, h2, e⟩ := Option.map_eq_some_iff.mp e; cases e; exact XS.iinc X hx rfl hd (own_ldI hv) (own_sto' h2) k
  · obtain ⟨S1, hv, e⟩ := Option.map_eq_some_iff.mp h; cases e; unfold dupV at hv; split at hv
    · split at hv
      · cases hv; exact XS.dup X hx rfl hd rfl (by assumption) k
      · cases hv
    · cases hv
  · obtain ⟨S1, hv, e⟩ := Option.map_eq_some_iff.mp h; cases e; unfold dup1V at hv; split at hv
    · split at hv
      · rename_i hc; cases hv; exact XT.dupX1 X hx rfl hd rfl hc.1 hc.2 k
      · cases hv
    · cases hv
  · obtain ⟨S1, hv, e⟩ := Option.map_eq_some_iff.mp h; cases e; unfold dup2V at hv; split at hv
    · split at hv
      · rename_i hc; cases hv; exact XT.dup2 X hx rfl hd rfl hc.1 hc.2 k
      · cases hv
    · cases hv
  · obtain ⟨S1, hv, e⟩ := Option.map_eq_some_iff.mp h; cases e; unfold popV at hv; split at hv
    · split at hv
      · cases hv; exact XT.pop X hx rfl hd rfl (by assumption) k
      · cases hv
    · cases hv
  · split at h
    · rename_i ho; cases h; exact XS.goto X hx rfl rfl hd ho rfl k
    · cases h
  · cases h
theorem own_runL : ∀ (is : List In1) {t t' : Pl}, runL is t = some t' → (∀ q ∈ is, decode D.c.code q.1 = .ok q.2) → D.p.tables.exec = Jvm.exec → ∀ (T target : State), At T D.m D.c D.below →
    Steps D.p.tables D.e D.below (T.setTop (mkF D.m t'.1 t'.2.1.toArray t'.2.2)) target → Steps D.p.tables D.e D.below (T.setTop (mkF D.m t.1 t.2.1.toArray t.2.2)) target
  | [], t, t', h, _, _, T, target, X, k => by cases h; exact k
  | q :: r, t, t', h, hd, hx, T, target, X, k => by
    simp only [runL] at h
    split at h
    · rename_i hpc
      obtain ⟨t1, h1, h2⟩ := Option.bind_eq_some_iff.mp h
      exact own_step1 hpc h1 (hd q (List.mem_cons_self ..)) hx T target X (own_runL r h2 (fun z m => hd z (List.mem_cons_of_mem _ m)) hx T target X k)
    · cases h
/-- the decode table of a body -/
def Dec (bytes : ByteArray) (tb : List In1) : Prop := ∀ q ∈ tb, decode bytes q.1 = .ok q.2
theorem Go.run {tb : List In1} (hd : Dec B.bytes tb) (i n : Nat) (h : runL ((tb.drop i).take n) (pc, L, S) = some (pc', L', S')) (k : Go A B D Q pc' L' S' F G cells slots) : Go A B D Q pc L S F G cells slots :=
  Go.step (fun hb T target X st => own_runL _ h (fun q m => hb.2.1 ▸ hd q (List.mem_of_mem_drop (List.mem_of_mem_take m))) hb.1 T target X st) k
theorem Dec.at {bytes : ByteArray} {tb : List In1} (hd : Dec bytes tb) (hb : Bdy A B D) (e : B.bytes = bytes) {i : Nat} {q : In1} (h : tb[i]? = some q) : decode D.c.code q.1 = .ok q.2 := by
  rw [hb.2.1, e]; exact hd q (List.mem_of_getElem? h)
end Own
/-! own_3: branches, reads and writes -/
/-- what a condition says -/
def cnd : ClassFile.Cond → Int32 → Int32 → Prop
  | .eq, a, b => a = b
  | .ne, a, b => a ≠ b
  | .lt, a, b => a < b
  | .ge, a, b => b ≤ a
  | .gt, a, b => b < a
  | .le, a, b => a ≤ b
theorem own_cnd (cd : ClassFile.Cond) (a b : Int32) : if_icmp.holds cd a b = true ↔ cnd cd a b := by cases cd <;> simp [if_icmp.holds, cnd]
/-- an object: its class is C; these fields hold these values -/
def FdP (Z : State) (a0 : Array Value) (C : String) (c : Cell) (q : String × String × String × Value) : Prop :=
  Laid Z a0 C q.1 q.2.1 q.2.2.1 ∧ (∃ t, parseFieldDescriptor q.2.2.1 = some t) ∧ c.slots[Jvm.RoadKit.slotOf Z q.1 q.2.1 q.2.2.1]? = some q.2.2.2
def ClP (Z : State) (C : String) (c : Cell) : Prop := ∃ k : Class, Z.vm.findClass C = some c.cls ∧ Z.vm.classes[c.cls]? = some k ∧ c.vm.isStatics = false ∧ c.vm ≠ .unknown ∧ (k.kind = .ordinary → c.slots.size = k.instanceTypes.size)
def ObjP (A : Ax) (C : String) (fs : List (String × String × String × Value)) (c : Cell) : Prop := ClP A.Z C c ∧ ∀ q ∈ fs, FdP A.Z A.a0 C c q
/-- an array: its component type, and its components -/
def ArrP (A : Ax) (ty : FieldType) (vs : List Value) (c : Cell) : Prop := A.Z.isArrayOf c ty ∧ c.vm ≠ .unknown ∧ c.slots.toList = vs
theorem ClP.exa {Z : State} {C : String} {c : Cell} {h : Heap} {a : Addr} (P : ClP Z C c) (e : h[a]? = some c) : Exa Z h a C := by
  obtain ⟨k, h1, h2, h3, -, h5⟩ := P; exact ⟨c, k, e, h1, h2, h3, h5⟩
theorem FdP.fld {Z : State} {a0 : Array Value} {C O n d : String} {v : Value} {c : Cell} {h : Heap} {a : Addr} (P : ClP Z C c) (F : FdP Z a0 C c (O, n, d, v)) (e : h[a]? = some c) : Fld Z h a O n d v := by
  obtain ⟨k, h1, h2, h3, h4, h5⟩ := P
  obtain ⟨L, -, hv⟩ := F
  obtain ⟨c1, k1, cf, kf, i, f, a1, a2, a3, a4, a5, a6, -⟩ := L.spec
  cases h1.symm.trans a1
  have es : Jvm.RoadKit.slotOf Z O n d = f.slot := by simp [Jvm.RoadKit.slotOf, a3]
  exact ⟨c, cf, kf, i, f, e, a3, a4, h4, h3, a5, by rw [← es]; exact hv⟩
theorem ClP.set {Z : State} {C : String} {c : Cell} (P : ClP Z C c) (sl : Nat) (v : Value) : ClP Z C (c.setSlot sl v) := by
  obtain ⟨k, h1, h2, h3, h4, h5⟩ := P; exact ⟨k, h1, h2, h3, h4, fun q => by rw [sz_set]; exact h5 q⟩
theorem ArrP.set {A : Ax} {ty : FieldType} {vs : List Value} {c : Cell} (P : ArrP A ty vs c) (i : Nat) (v : Value) : ArrP A ty (vs.set i v) (c.setSlot i v) := by
  obtain ⟨h1, h2, h3⟩ := P
  refine ⟨h1, h2, ?_⟩
  show (c.slots.setIfInBounds i v).toList = _
  rw [Array.toList_setIfInBounds, h3]
theorem ArrP.size {A : Ax} {ty : FieldType} {vs : List Value} {c : Cell} (P : ArrP A ty vs c) : c.slots.size = vs.length := by rw [← P.2.2]; simp
theorem ArrP.get {A : Ax} {ty : FieldType} {vs : List Value} {c : Cell} (P : ArrP A ty vs c) (i : Nat) : c.slots[i]? = vs[i]? := by rw [← P.2.2]; simp
theorem ObjP.set {A : Ax} {C O n d : String} {v w : Value} {c : Cell} {fs fs' : List (String × String × String × Value)} (P : ObjP A C fs c) (hm : (O, n, d, w) ∈ fs)
    (hf : ∀ q ∈ fs', q = (O, n, d, v) ∨ (q ∈ fs ∧ q.2.1 ≠ n)) : ObjP A C fs' (c.setSlot (Jvm.RoadKit.slotOf A.Z O n d) v) := by
  obtain ⟨hc, hq⟩ := P
  refine ⟨hc.set _ _, fun q m => ?_⟩
  obtain ⟨L, ⟨t, ht⟩, hv⟩ := hq _ hm
  rcases hf q m with rfl | ⟨m', hn⟩
  · refine ⟨L, ⟨t, ht⟩, ?_⟩
    have hlt := (Array.getElem?_eq_some_iff.mp hv).1
    simp only at hlt
    simp [Cell.setSlot, hlt]
  · obtain ⟨L', ⟨t', ht'⟩, hv'⟩ := hq _ m'
    refine ⟨L', ⟨t', ht'⟩, ?_⟩
    have ne := slot_ne L' L hn ht' ht
    show (c.slots.setIfInBounds _ _)[_]? = _
    rw [Array.getElem?_setIfInBounds_ne (Ne.symm ne)]; exact hv'
theorem ObjP.less {A : Ax} {C : String} {c : Cell} {fs fs' : List (String × String × String × Value)} (P : ObjP A C fs c) (h : ∀ q ∈ fs', q ∈ fs) : ObjP A C fs' c := ⟨P.1, fun q m => P.2 q (h q m)⟩
theorem own_setmem {α : Type} : ∀ (fs : List α) (k : Nat) (p q : α), q ∈ fs.set k p → q = p ∨ q ∈ fs.eraseIdx k
  | [], _, _, _, h => by simp at h
  | a :: r, 0, p, q, h => by simpa using h
  | a :: r, k + 1, p, q, h => by
    simp only [List.set_cons_succ, List.mem_cons] at h
    simp only [List.eraseIdx_cons_succ, List.mem_cons]
    rcases h with h | h
    · exact Or.inr (Or.inl h)
    · exact (own_setmem r k p q h).imp id Or.inr
theorem own_fs {O n d : String} {v : Value} {fs fs' : List (String × String × String × Value)} (k : Nat) {ns : List String} (hns : (fs.eraseIdx k).map (·.2.1) = ns) (hd : ∀ x ∈ ns, x ≠ n) (h : fs.set k (O, n, d, v) = fs') : ∀ q ∈ fs', q = (O, n, d, v) ∨ (q ∈ fs ∧ q.2.1 ≠ n) := fun q m => by
  subst h
  refine (own_setmem _ _ _ _ m).imp id fun z => ⟨List.mem_of_mem_eraseIdx z, hd _ ?_⟩
  rw [← hns]; exact List.mem_map_of_mem z
theorem own_lay0 {A : Ax} {C : String} : ∀ q ∈ ([] : List (String × String × String × Value)), Laid A.Z A.a0 C q.1 q.2.1 q.2.2.1 ∧ ∃ t, parseFieldDescriptor q.2.2.1 = some t ∧ q.2.2.2 = defaultValue t := fun _ m => nomatch m
theorem own_layS {A : Ax} {C O n d : String} {v : Value} {t : FieldType} {fs : List (String × String × String × Value)} (h : Laid A.Z A.a0 C O n d) (ht : parseFieldDescriptor d = some t) (hv : v = defaultValue t) (r : ∀ q ∈ fs, Laid A.Z A.a0 C q.1 q.2.1 q.2.2.1 ∧ ∃ t, parseFieldDescriptor q.2.2.1 = some t ∧ q.2.2.2 = defaultValue t) :
    ∀ q ∈ (O, n, d, v) :: fs, Laid A.Z A.a0 C q.1 q.2.1 q.2.2.1 ∧ ∃ t, parseFieldDescriptor q.2.2.1 = some t ∧ q.2.2.2 = defaultValue t := fun q m => by
  rcases List.mem_cons.mp m with rfl | m
  · exact ⟨h, t, ht, hv⟩
  · exact r q m
def InB (j : Int32) (n : Nat) : Prop := 0 ≤ j.toInt ∧ j.toInt < n
theorem InB.in {j : Int32} {n : Nat} (h : InB j n) : ¬ (j < 0 ∨ n ≤ j.toNatClampNeg) := by
  obtain ⟨h1, h2⟩ := h
  simp only [Int32.lt_iff_toInt_lt, Int32.toNatClampNeg]
  have : (0 : Int32).toInt = 0 := rfl
  omega
section Own
variable {A : Ax} {B : Bx} {D : Dx} {Q : Pst} {pc pc' : Nat} {L L' : List Slot} {S S' rest : List Value} {F F' G G' : List Ent} {cells slots : Nat} {tb : List In1}
theorem own_dec (hd : Dec B.bytes tb) (hb : Bdy A B D) {i p : Nat} {r : Instr × Nat} (h : tb[i]? = some (p, r)) : decode D.c.code p = .ok r := by
  rw [hb.2.1]; exact hd (p, r) (List.mem_of_getElem? h)
theorem Go.icmp (hd : Dec B.bytes tb) (i : Nat) {cd : ClassFile.Cond} {o : Int} {x y : Int32} (hi : tb[i]? = some (pc, .if_icmp cd o, 3)) (ho : 0 ≤ (pc : Int) + o) (hp : ((pc : Int) + o).toNat = pc')
    (k1 : cnd cd x y → Go A B D Q pc' L rest F G cells slots) (k2 : ¬ cnd cd x y → Go A B D Q (pc + 3) L rest F G cells slots) : Go A B D Q pc L (.int y :: .int x :: rest) F G cells slots := by
  cases hc : if_icmp.holds cd x y with
  | true => exact Go.step (fun hb T target X st => XS.icmpYes X hb.1 rfl rfl (own_dec hd hb hi) rfl hc ho hp st) (k1 ((own_cnd ..).mp hc))
  | false => exact Go.step (fun hb T target X st => XS.icmpNo X hb.1 rfl (own_dec hd hb hi) rfl hc st) (k2 fun z => by rw [(own_cnd ..).mpr z] at hc; cases hc)
theorem Go.if0 (hd : Dec B.bytes tb) (i : Nat) {cd : ClassFile.Cond} {o : Int} {x : Int32} (hi : tb[i]? = some (pc, .ifCond cd o, 3)) (ho : 0 ≤ (pc : Int) + o) (hp : ((pc : Int) + o).toNat = pc')
    (k1 : cnd cd x 0 → Go A B D Q pc' L rest F G cells slots) (k2 : ¬ cnd cd x 0 → Go A B D Q (pc + 3) L rest F G cells slots) : Go A B D Q pc L (.int x :: rest) F G cells slots := by
  cases hc : ifCond.holds cd x with
  | true => exact Go.step (fun hb T target X st => XS.ifYes X hb.1 rfl rfl (own_dec hd hb hi) rfl hc ho hp st) (k1 ((own_cnd ..).mp (by rw [← Jvm.RoadKit.if0]; exact hc)))
  | false => exact Go.step (fun hb T target X st => XS.ifNo X hb.1 rfl (own_dec hd hb hi) rfl hc st) (k2 fun z => by rw [Jvm.RoadKit.if0, (own_cnd ..).mpr z] at hc; cases hc)
theorem Go.nullYes (hd : Dec B.bytes tb) (i : Nat) {o : Int} (hi : tb[i]? = some (pc, .ifnull o, 3)) (ho : 0 ≤ (pc : Int) + o) (hp : ((pc : Int) + o).toNat = pc') (k : Go A B D Q pc' L rest F G cells slots) : Go A B D Q pc L (.null :: rest) F G cells slots :=
  Go.step (fun hb T target X st => XS.ifnullYes X hb.1 rfl rfl (own_dec hd hb hi) rfl ho hp st) k
theorem Go.nullNo (hd : Dec B.bytes tb) (i : Nat) {o : Int} {a : Addr} (hi : tb[i]? = some (pc, .ifnull o, 3)) (k : Go A B D Q (pc + 3) L rest F G cells slots) : Go A B D Q pc L (.ref a :: rest) F G cells slots :=
  Go.step (fun hb T target X st => XS.ifnullNo X hb.1 rfl (own_dec hd hb hi) rfl st) k
theorem Go.nonnullYes (hd : Dec B.bytes tb) (i : Nat) {o : Int} {a : Addr} (hi : tb[i]? = some (pc, .ifnonnull o, 3)) (ho : 0 ≤ (pc : Int) + o) (hp : ((pc : Int) + o).toNat = pc') (k : Go A B D Q pc' L rest F G cells slots) : Go A B D Q pc L (.ref a :: rest) F G cells slots :=
  Go.step (fun hb T target X st => XT.ifnonnullYes X hb.1 rfl rfl (own_dec hd hb hi) rfl ho hp st) k
theorem Go.nonnullNo (hd : Dec B.bytes tb) (i : Nat) {o : Int} (hi : tb[i]? = some (pc, .ifnonnull o, 3)) (k : Go A B D Q (pc + 3) L rest F G cells slots) : Go A B D Q pc L (.null :: rest) F G cells slots :=
  Go.step (fun hb T target X st => XT.ifnonnullNo X hb.1 rfl (own_dec hd hb hi) rfl st) k
theorem Go.acmp (hd : Dec B.bytes tb) (i : Nat) {cd : ACond} {o : Int} {x y : Value} (hi : tb[i]? = some (pc, .if_acmp cd o, 3)) (hx' : x.isRef = true) (hy' : y.isRef = true) (ho : 0 ≤ (pc : Int) + o) (hp : ((pc : Int) + o).toNat = pc')
    (k1 : XT.acmp cd x y = true → Go A B D Q pc' L rest F G cells slots) (k2 : XT.acmp cd x y = false → Go A B D Q (pc + 3) L rest F G cells slots) : Go A B D Q pc L (y :: x :: rest) F G cells slots := by
  cases hc : XT.acmp cd x y with
  | true => exact Go.step (fun hb T target X st => XT.acmpYes X hb.1 rfl rfl (own_dec hd hb hi) rfl hx' hy' hc ho hp st) (k1 hc)
  | false => exact Go.step (fun hb T target X st => XT.acmpNo X hb.1 rfl (own_dec hd hb hi) rfl hx' hy' hc st) (k2 hc)
theorem Go.irem (hd : Dec B.bytes tb) (i : Nat) {x y : Int32} (hi : tb[i]? = some (pc, .irem, 1)) (hy : y ≠ 0) (k : Go A B D Q (pc + 1) L (.int (x % y) :: rest) F G cells slots) : Go A B D Q pc L (.int y :: .int x :: rest) F G cells slots :=
  Go.step (fun hb T target X st => XS.irem X hb.1 rfl (own_dec hd hb hi) rfl hy (by rw [irem_eq_mod]; exact st)) k
theorem Go.idiv (hd : Dec B.bytes tb) (i : Nat) {x y : Int32} (hi : tb[i]? = some (pc, .idiv, 1)) (hy : y ≠ 0) (k : Go A B D Q (pc + 1) L (.int (x / y) :: rest) F G cells slots) : Go A B D Q pc L (.int y :: .int x :: rest) F G cells slots :=
  Go.step (fun hb T target X st => XS.idiv X hb.1 rfl (own_dec hd hb hi) rfl hy st) k
theorem Go.tswIn (hd : Dec B.bytes tb) (i : Nat) {dflt low high o : Int} {offs : Array Int} {len : Nat} {x : Int32} (hi : tb[i]? = some (pc, .tableswitch dflt low high offs, len)) (hin : ¬ (x.toInt < low ∨ x.toInt > high)) (hoff : offs[(x.toInt - low).toNat]? = some o)
    (ho : 0 ≤ (pc : Int) + o) (hp : ((pc : Int) + o).toNat = pc') (k : Go A B D Q pc' L rest F G cells slots) : Go A B D Q pc L (.int x :: rest) F G cells slots :=
  Go.step (fun hb T target X st => XS.tswIn X hb.1 rfl rfl (own_dec hd hb hi) rfl hin hoff ho hp st) k
theorem Go.tswOut (hd : Dec B.bytes tb) (i : Nat) {dflt low high : Int} {offs : Array Int} {len : Nat} {x : Int32} (hi : tb[i]? = some (pc, .tableswitch dflt low high offs, len)) (hout : x.toInt < low ∨ x.toInt > high)
    (ho : 0 ≤ (pc : Int) + dflt) (hp : ((pc : Int) + dflt).toNat = pc') (k : Go A B D Q pc' L rest F G cells slots) : Go A B D Q pc L (.int x :: rest) F G cells slots :=
  Go.step (fun hb T target X st => XS.tswOut X hb.1 rfl rfl (own_dec hd hb hi) rfl hout ho hp st) k
/-! constants of the pool -/
theorem Go.ldcI (hd : Dec B.bytes tb) (i : Nat) {ix : Nat} {v : Int32} (hi : tb[i]? = some (pc, .ldc ix, 2)) (w : (Cond.constant B.y.cls ix v).before A.a0 A.Z = true) (k : Go A B D Q (pc + 2) L (.int v :: S) F G cells slots) : Go A B D Q pc L S F G cells slots :=
  Go.stay (fun hb T vm0 locs X hZ hown H => ⟨T, X, rfl, fun target st => X.ldcI hb.1 hown (mv (s := D.s.setVm vm0) hZ w) rfl (own_dec hd hb hi) st⟩) k
theorem Go.ldc2J (hd : Dec B.bytes tb) (i : Nat) {ix : Nat} {v : Int64} (hi : tb[i]? = some (pc, .ldc2_w ix, 3)) (w : (Cond.constantLong B.y.cls ix v).before A.a0 A.Z = true) (k : Go A B D Q (pc + 3) L (.long v :: S) F G cells slots) : Go A B D Q pc L S F G cells slots :=
  Go.stay (fun hb T vm0 locs X hZ hown H => ⟨T, X, rfl, fun target st => X.ldc2J hb.1 hown (mv (s := D.s.setVm vm0) hZ w) rfl (own_dec hd hb hi) st⟩) k
/-! fields -/
theorem Go.getfield (hd : Dec B.bytes tb) (i : Nat) {ix : Nat} {a : Addr} {C O n d : String} {v : Value} {fs : List (String × String × String × Value)} (hi : tb[i]? = some (pc, .getfield ix, 3)) (w : (Cond.fieldLink B.y.cls ix O n d).before A.a0 A.Z = true)
    (m : (a, ObjP A C fs) ∈ F ∨ (a, ObjP A C fs) ∈ G) (hf : (O, n, d, v) ∈ fs) (k : Go A B D Q (pc + 3) L (v :: rest) F G cells slots) : Go A B D Q pc L (.ref a :: rest) F G cells slots :=
  Go.stay (fun hb T vm0 locs X hZ hown H => by
    obtain ⟨c, e, P⟩ := H.at m
    obtain ⟨T', X', e', st⟩ := getF X hb.1 hZ hown (host := "") (Or.inl w) Via.refl rfl ((P.2 _ hf).fld P.1 e) (g := mkF D.m pc L.toArray (.ref a :: rest)) rfl rfl (own_dec hd hb hi)
    exact ⟨T', X', e', st⟩) k
theorem Go.getfieldVia (hd : Dec B.bytes tb) (i : Nat) {ix : Nat} {a : Addr} {C O R0 n d : String} {v : Value} {fs : List (String × String × String × Value)} (hi : tb[i]? = some (pc, .getfield ix, 3)) (w : (Cond.fieldLink B.y.cls ix R0 n d).before A.a0 A.Z = true) (via : Via A.Z R0 O n d)
    (m : (a, ObjP A C fs) ∈ F ∨ (a, ObjP A C fs) ∈ G) (hf : (O, n, d, v) ∈ fs) (k : Go A B D Q (pc + 3) L (v :: rest) F G cells slots) : Go A B D Q pc L (.ref a :: rest) F G cells slots :=
  Go.stay (fun hb T vm0 locs X hZ hown H => by
    obtain ⟨c, e, P⟩ := H.at m
    obtain ⟨T', X', e', st⟩ := getF X hb.1 hZ hown (host := "") (Or.inl w) via rfl ((P.2 _ hf).fld P.1 e) (g := mkF D.m pc L.toArray (.ref a :: rest)) rfl rfl (own_dec hd hb hi)
    exact ⟨T', X', e', st⟩) k
theorem Go.getstatic (hd : Dec B.bytes tb) (i : Nat) {ix : Nat} {O n d : String} {v : Value} (hi : tb[i]? = some (pc, .getstatic ix, 3)) (w : (Cond.fieldLink B.y.cls ix O n d).before A.a0 A.Z = true) (s : Sta A.Z A.Z.heap O n d v)
    (k : Go A B D Q (pc + 3) L (v :: S) F G cells slots) : Go A B D Q pc L S F G cells slots :=
  Go.stay (fun hb T vm0 locs X hZ hown H => by
    obtain ⟨T', X', e', st⟩ := getS X hb.1 hZ (host := "") hown w Via.refl rfl (s.ext H.1) (g := mkF D.m pc L.toArray S) rfl (own_dec hd hb hi)
    exact ⟨T', X', e', st⟩) k
/-- a step that writes one slot of the first owned cell -/
theorem Go.wrote {a : Addr} {P P' : Cell → Prop} {sl : Nat} {v : Value}
    (h : Bdy A B D → ∀ (T : State) (vm0 : Vm) (locs : List Loc) (c : Cell), Stand D.p A.l D.e B.rm (D.s.setVm vm0) D.m D.args D.below D.meth D.c T locs cells slots → A.Z.Warmed39 vm0 → vm0.findClass B.y.cls = some D.m.cls → T.heap[a]? = some c → P c →
      ∃ T' h', Stand D.p A.l D.e B.rm (D.s.setVm vm0) D.m D.args D.below D.meth D.c T' (locs ++ [⟨a, sl⟩]) cells slots ∧ T'.heap = h' ∧ Wr T.heap h' a sl v ∧ ∀ target, Steps D.p.tables D.e D.below (T'.setTop (mkF D.m pc' L'.toArray S')) target → Steps D.p.tables D.e D.below (T.setTop (mkF D.m pc L.toArray S)) target)
    (hp : ∀ c, P c → P' (c.setSlot sl v)) (k : Go A B D Q pc' L' S' ((a, P') :: F) G cells slots) : Go A B D Q pc L S ((a, P) :: F) G cells slots := fun hb T hT => by
  obtain ⟨vm0, k0, locs, X, hZ, hown, hS, hk, N, C, H⟩ := hT
  obtain ⟨c, e, p⟩ := H.at (a := a) (P := P) (Or.inl (List.mem_cons_self ..))
  obtain ⟨T', h', X', e', W, st⟩ := h hb T vm0 locs c X hZ hown e p
  have sa := H.2.2.2.2 _ (List.mem_cons_self ..)
  obtain ⟨s₂, o, st', r⟩ := k hb T' ⟨vm0, k0, _, X', hZ, hown, hS, by rw [e', W.size]; exact hk, ⟨Fr.snoc X' N.1 sa.1, N.2⟩, by rw [e']; exact C.trans (CHr.wr W sa.2.1 C.1), by rw [e']; exact H.wr C.1 W hp⟩
  exact ⟨s₂, o, st _ st', r⟩
theorem Go.putfield (hd : Dec B.bytes tb) (i : Nat) {ix kk : Nat} {a : Addr} {C O n d : String} {v w0 : Value} {fs fs' : List (String × String × String × Value)} {ty : FieldType} (hi : tb[i]? = some (pc, .putfield ix, 3)) (w : (Cond.fieldLink B.y.cls ix O n d).before A.a0 A.Z = true)
    (hl : (Cond.lays C O n d).before A.a0 A.Z = true ∨ ((Cond.laysFinal C O n d).before A.a0 A.Z = true ∧ B.y.cls = O ∧ B.y.name = "<init>")) (wi : (Cond.instantiable C kk).before A.a0 A.Z = true) (hty : parseFieldDescriptor d = some ty) (hn : narrow ty v = v) (hfi : fits ty v = true)
    (hm : (O, n, d, w0) ∈ fs) (hf : ∀ q ∈ fs', q = (O, n, d, v) ∨ (q ∈ fs ∧ q.2.1 ≠ n)) (k : Go A B D Q (pc + 3) L rest ((a, ObjP A C fs') :: F) G cells slots) : Go A B D Q pc L (v :: .ref a :: rest) ((a, ObjP A C fs) :: F) G cells slots :=
  Go.wrote (fun hb T vm0 locs c X hZ hown e P => by
    obtain ⟨T', h', X', e', W, st⟩ := putF X hb.1 hZ hown (host := "") (Or.inl w) Via.refl rfl ((P.2 _ hm).fld P.1 e) (P.1.exa e) (hl.imp id fun q => ⟨q.1, q.2.1, hb.2.2.2.2.1.trans q.2.2⟩) wi hty hn hfi (g := mkF D.m pc L.toArray (v :: .ref a :: rest)) rfl rfl (own_dec hd hb hi)
    exact ⟨T', h', X', e', W, st⟩) (fun c P => P.set hm hf) k
/-! arrays -/
theorem own_len {n : Nat} {z : Int32} (h : (n : Int) = z.toInt) : n.toInt32 = z := by
  rw [← Int32.toInt_inj]
  have h1 := z.toInt_lt
  rw [Int32.toInt_ofNat_small (by omega)]; exact h
theorem Go.arraylength (hd : Dec B.bytes tb) (i : Nat) {a : Addr} {ty : FieldType} {vs : List Value} {z : Int32} (hi : tb[i]? = some (pc, .arraylength, 1)) (m : (a, ArrP A ty vs) ∈ F ∨ (a, ArrP A ty vs) ∈ G) (hz : (vs.length : Int) = z.toInt)
    (k : Go A B D Q (pc + 1) L (.int z :: rest) F G cells slots) : Go A B D Q pc L (.ref a :: rest) F G cells slots :=
  Go.stay (fun hb T vm0 locs X hZ hown H => by
    obtain ⟨c, e, P⟩ := H.at m
    refine ⟨T, X, rfl, fun target st => X.arraylength hb.1 e (State.isArrayOf_alike (T := D.s.setVm vm0) hZ.alike P.1) (g := mkF D.m pc L.toArray (.ref a :: rest)) rfl rfl (own_dec hd hb hi) target ?_⟩
    rw [P.size, own_len hz]; exact st) k
theorem own_get {A : Ax} {ty : FieldType} {vs : List Value} {c : Cell} {j : Int32} {v : Value} (P : ArrP A ty vs c) (h : InB j vs.length) (hv : vs[j.toInt.toNat]? = some v) : ¬ (j < 0 ∨ c.slots.size ≤ j.toNatClampNeg) ∧ c.slots[j.toNatClampNeg]? = some v :=
  ⟨by rw [P.size]; exact h.in, by rw [P.get]; exact hv⟩
theorem Go.caload (hd : Dec B.bytes tb) (i : Nat) {a : Addr} {vs : List Value} {j : Int32} {v : Value} (hi : tb[i]? = some (pc, .caload, 1)) (m : (a, ArrP A .char vs) ∈ F ∨ (a, ArrP A .char vs) ∈ G) (h : InB j vs.length) (hv : vs[j.toInt.toNat]? = some v)
    (k : Go A B D Q (pc + 1) L (v :: rest) F G cells slots) : Go A B D Q pc L (.int j :: .ref a :: rest) F G cells slots :=
  Go.stay (fun hb T vm0 locs X hZ hown H => by
    obtain ⟨c, e, P⟩ := H.at m
    exact ⟨T, X, rfl, fun target st => X.caload hb.1 e (State.isArrayOf_alike (T := D.s.setVm vm0) hZ.alike P.1) P.2.1 (own_get P h hv).1 (own_get P h hv).2 (g := mkF D.m pc L.toArray (.int j :: .ref a :: rest)) rfl rfl (own_dec hd hb hi) target st⟩) k
theorem Go.iaload (hd : Dec B.bytes tb) (i : Nat) {a : Addr} {vs : List Value} {j : Int32} {v : Value} (hi : tb[i]? = some (pc, .iaload, 1)) (m : (a, ArrP A .int vs) ∈ F ∨ (a, ArrP A .int vs) ∈ G) (h : InB j vs.length) (hv : vs[j.toInt.toNat]? = some v)
    (k : Go A B D Q (pc + 1) L (v :: rest) F G cells slots) : Go A B D Q pc L (.int j :: .ref a :: rest) F G cells slots :=
  Go.stay (fun hb T vm0 locs X hZ hown H => by
    obtain ⟨c, e, P⟩ := H.at m
    exact ⟨T, X, rfl, fun target st => X.iaload hb.1 e (State.isArrayOf_alike (T := D.s.setVm vm0) hZ.alike P.1) P.2.1 (own_get P h hv).1 (own_get P h hv).2 (g := mkF D.m pc L.toArray (.int j :: .ref a :: rest)) rfl rfl (own_dec hd hb hi) target st⟩) k
theorem Go.laload (hd : Dec B.bytes tb) (i : Nat) {a : Addr} {vs : List Value} {j : Int32} {v : Value} (hi : tb[i]? = some (pc, .laload, 1)) (m : (a, ArrP A .long vs) ∈ F ∨ (a, ArrP A .long vs) ∈ G) (h : InB j vs.length) (hv : vs[j.toInt.toNat]? = some v)
    (k : Go A B D Q (pc + 1) L (v :: rest) F G cells slots) : Go A B D Q pc L (.int j :: .ref a :: rest) F G cells slots :=
  Go.stay (fun hb T vm0 locs X hZ hown H => by
    obtain ⟨c, e, P⟩ := H.at m
    exact ⟨T, X, rfl, fun target st => X.laload hb.1 e (State.isArrayOf_alike (T := D.s.setVm vm0) hZ.alike P.1) P.2.1 (own_get P h hv).1 (own_get P h hv).2 (g := mkF D.m pc L.toArray (.int j :: .ref a :: rest)) rfl rfl (own_dec hd hb hi) target st⟩) k
theorem Go.baload (hd : Dec B.bytes tb) (i : Nat) {a : Addr} {vs : List Value} {j : Int32} {v : Value} (hi : tb[i]? = some (pc, .baload, 1)) (m : (a, ArrP A .byte vs) ∈ F ∨ (a, ArrP A .byte vs) ∈ G) (h : InB j vs.length) (hv : vs[j.toInt.toNat]? = some v)
    (k : Go A B D Q (pc + 1) L (v :: rest) F G cells slots) : Go A B D Q pc L (.int j :: .ref a :: rest) F G cells slots :=
  Go.stay (fun hb T vm0 locs X hZ hown H => by
    obtain ⟨c, e, P⟩ := H.at m
    exact ⟨T, X, rfl, fun target st => X.baloadBytes hb.1 e (State.isArrayOf_alike (T := D.s.setVm vm0) hZ.alike P.1) P.2.1 (own_get P h hv).1 (own_get P h hv).2 (g := mkF D.m pc L.toArray (.int j :: .ref a :: rest)) rfl rfl (own_dec hd hb hi) target st⟩) k
theorem Go.zaload (hd : Dec B.bytes tb) (i : Nat) {a : Addr} {vs : List Value} {j : Int32} {v : Value} (hi : tb[i]? = some (pc, .baload, 1)) (m : (a, ArrP A .boolean vs) ∈ F ∨ (a, ArrP A .boolean vs) ∈ G) (h : InB j vs.length) (hv : vs[j.toInt.toNat]? = some v)
    (k : Go A B D Q (pc + 1) L (v :: rest) F G cells slots) : Go A B D Q pc L (.int j :: .ref a :: rest) F G cells slots :=
  Go.stay (fun hb T vm0 locs X hZ hown H => by
    obtain ⟨c, e, P⟩ := H.at m
    exact ⟨T, X, rfl, fun target st => X.baloadBooleans hb.1 e (State.isArrayOf_alike (T := D.s.setVm vm0) hZ.alike P.1) P.2.1 (own_get P h hv).1 (own_get P h hv).2 (g := mkF D.m pc L.toArray (.int j :: .ref a :: rest)) rfl rfl (own_dec hd hb hi) target st⟩) k
theorem Go.aaload (hd : Dec B.bytes tb) (i : Nat) {a : Addr} {ty : FieldType} {vs : List Value} {j : Int32} {v : Value} (hi : tb[i]? = some (pc, .aaload, 1)) (ht : ty.isReference = true) (m : (a, ArrP A ty vs) ∈ F ∨ (a, ArrP A ty vs) ∈ G) (h : InB j vs.length) (hv : vs[j.toInt.toNat]? = some v)
    (k : Go A B D Q (pc + 1) L (v :: rest) F G cells slots) : Go A B D Q pc L (.int j :: .ref a :: rest) F G cells slots :=
  Go.stay (fun hb T vm0 locs X hZ hown H => by
    obtain ⟨c, e, P⟩ := H.at m
    exact ⟨T, X, rfl, fun target st => X.aaload hb.1 e (State.isArrayOf_alike (T := D.s.setVm vm0) hZ.alike P.1) ht P.2.1 (own_get P h hv).1 (own_get P h hv).2 (g := mkF D.m pc L.toArray (.int j :: .ref a :: rest)) rfl rfl (own_dec hd hb hi) target st⟩) k
theorem Go.castore (hd : Dec B.bytes tb) (i : Nat) {a : Addr} {vs vs' : List Value} {j x : Int32} (hi : tb[i]? = some (pc, .castore, 1)) (h : InB j vs.length) (hv : vs.set j.toInt.toNat (.int (chr16 x)) = vs')
    (k : Go A B D Q (pc + 1) L rest ((a, ArrP A .char vs') :: F) G cells slots) : Go A B D Q pc L (.int x :: .int j :: .ref a :: rest) ((a, ArrP A .char vs) :: F) G cells slots :=
  Go.wrote (fun hb T vm0 locs c X hZ hown e P => by
    obtain ⟨T', h', X', e', W, st⟩ := stC X hb.1 hZ rfl (cl := c) ⟨e, P.1, P.2.1⟩ (by rw [P.size]; exact h.in) (g := mkF D.m pc L.toArray (.int x :: .int j :: .ref a :: rest)) rfl rfl (own_dec hd hb hi)
    exact ⟨T', h', X', e', W, st⟩) (fun c P => by rw [← hv]; exact P.set _ _) k
theorem Go.bastore (hd : Dec B.bytes tb) (i : Nat) {a : Addr} {vs vs' : List Value} {j x : Int32} (hi : tb[i]? = some (pc, .bastore, 1)) (h : InB j vs.length) (hv : vs.set j.toInt.toNat (.int (byt8 x)) = vs')
    (k : Go A B D Q (pc + 1) L rest ((a, ArrP A .byte vs') :: F) G cells slots) : Go A B D Q pc L (.int x :: .int j :: .ref a :: rest) ((a, ArrP A .byte vs) :: F) G cells slots :=
  Go.wrote (fun hb T vm0 locs c X hZ hown e P => by
    obtain ⟨T', h', X', e', W, st⟩ := stB X hb.1 hZ rfl (cl := c) ⟨e, P.1, P.2.1⟩ (by rw [P.size]; exact h.in) (g := mkF D.m pc L.toArray (.int x :: .int j :: .ref a :: rest)) rfl rfl (own_dec hd hb hi)
    exact ⟨T', h', X', e', W, st⟩) (fun c P => by rw [← hv]; exact P.set _ _) k
theorem Go.zastore (hd : Dec B.bytes tb) (i : Nat) {a : Addr} {vs vs' : List Value} {j x : Int32} (hi : tb[i]? = some (pc, .bastore, 1)) (h : InB j vs.length) (hv : vs.set j.toInt.toNat (.int (x &&& 1)) = vs')
    (k : Go A B D Q (pc + 1) L rest ((a, ArrP A .boolean vs') :: F) G cells slots) : Go A B D Q pc L (.int x :: .int j :: .ref a :: rest) ((a, ArrP A .boolean vs) :: F) G cells slots :=
  Go.wrote (fun hb T vm0 locs c X hZ hown e P => by
    obtain ⟨T', h', X', e', W, st⟩ := stZ X hb.1 hZ rfl (cl := c) ⟨e, P.1, P.2.1⟩ (by rw [P.size]; exact h.in) (g := mkF D.m pc L.toArray (.int x :: .int j :: .ref a :: rest)) rfl rfl (own_dec hd hb hi)
    exact ⟨T', h', X', e', W, st⟩) (fun c P => by rw [← hv]; exact P.set _ _) k
theorem Go.iastore (hd : Dec B.bytes tb) (i : Nat) {a : Addr} {vs vs' : List Value} {j x : Int32} (hi : tb[i]? = some (pc, .iastore, 1)) (h : InB j vs.length) (hv : vs.set j.toInt.toNat (.int x) = vs')
    (k : Go A B D Q (pc + 1) L rest ((a, ArrP A .int vs') :: F) G cells slots) : Go A B D Q pc L (.int x :: .int j :: .ref a :: rest) ((a, ArrP A .int vs) :: F) G cells slots :=
  Go.wrote (fun hb T vm0 locs c X hZ hown e P => by
    obtain ⟨T', h', X', e', W, st⟩ := stI X hb.1 hZ rfl (cl := c) ⟨e, P.1, P.2.1⟩ (by rw [P.size]; exact h.in) (g := mkF D.m pc L.toArray (.int x :: .int j :: .ref a :: rest)) rfl rfl (own_dec hd hb hi)
    exact ⟨T', h', X', e', W, st⟩) (fun c P => by rw [← hv]; exact P.set _ _) k
theorem Go.lastore (hd : Dec B.bytes tb) (i : Nat) {a : Addr} {vs vs' : List Value} {j : Int32} {x : Int64} (hi : tb[i]? = some (pc, .lastore, 1)) (h : InB j vs.length) (hv : vs.set j.toInt.toNat (.long x) = vs')
    (k : Go A B D Q (pc + 1) L rest ((a, ArrP A .long vs') :: F) G cells slots) : Go A B D Q pc L (.long x :: .int j :: .ref a :: rest) ((a, ArrP A .long vs) :: F) G cells slots :=
  Go.wrote (fun hb T vm0 locs c X hZ hown e P => by
    obtain ⟨T', h', X', e', W, st⟩ := stJ X hb.1 hZ rfl (cl := c) ⟨e, P.1, P.2.1⟩ (by rw [P.size]; exact h.in) (g := mkF D.m pc L.toArray (.long x :: .int j :: .ref a :: rest)) rfl rfl (own_dec hd hb hi)
    exact ⟨T', h', X', e', W, st⟩) (fun c P => by rw [← hv]; exact P.set _ _) k
end Own
/-! own_4: making cells, constants, calls, returns -/
section Own
variable {A : Ax} {B : Bx} {D : Dx} {Q : Pst} {pc pc' : Nat} {L L' : List Slot} {S S' rest : List Value} {F F' G G' : List Ent} {cells slots : Nat} {tb : List In1}
theorem Go.new (hd : Dec B.bytes tb) (i : Nat) {ix n : Nat} {C : String} {fs : List (String × String × String × Value)} (hi : tb[i]? = some (pc, .new ix, 3)) (w : (Cond.classLink B.y.cls ix C).before A.a0 A.Z = true) (wi : (Cond.instantiable C n).before A.a0 A.Z = true) (wz : (Cond.initialized C).before A.a0 A.Z = true)
    (hf : ∀ q ∈ fs, Laid A.Z A.a0 C q.1 q.2.1 q.2.2.1 ∧ ∃ t, parseFieldDescriptor q.2.2.1 = some t ∧ q.2.2.2 = defaultValue t) (hc : cells + 1 ≤ B.rm.cells) (hl : slots + n ≤ B.rm.slots)
    (k : ∀ a : Addr, Go A B D Q (pc + 3) L (.ref a :: S) ((a, ObjP A C fs) :: F) G (cells + 1) (slots + n)) : Go A B D Q pc L S F G cells slots := fun hb T hT => by
  obtain ⟨vm0, k0, locs, X, hZ, hown, hS, hk, N, Ch, H⟩ := hT
  obtain ⟨T', h', X', e', E, Ex, Df, ⟨cl, hcl, hv, -⟩, st⟩ := newO X hb.1 hZ hown w wi wz rfl (g := mkF D.m pc L.toArray S) rfl (own_dec hd hb hi) hc hl
  have hP : ObjP A C fs cl := by
    obtain ⟨c1, k1, q1, q2, q3, q4, q5⟩ := Ex
    cases hcl.symm.trans q1
    refine ⟨⟨k1, q2, q3, q4, by rw [hv]; simp, q5⟩, fun q m => ?_⟩
    obtain ⟨La, t, ht, hd⟩ := hf q m
    refine ⟨La, ⟨t, ht⟩, ?_⟩
    obtain ⟨c2, cf, kk, ii, f, g1, g2, -, -, -, -, g7⟩ := Df La ht
    cases hcl.symm.trans g1
    rw [hd, show Jvm.RoadKit.slotOf A.Z q.1 q.2.1 q.2.2.1 = f.slot by simp [Jvm.RoadKit.slotOf, g2]]; exact g7
  obtain ⟨s₂, o, st', r⟩ := k T.heap.size hb T' ⟨vm0, k0, _, X', hZ, hown, hS, by rw [e']; exact Nat.le_trans hk E.1, N, by rw [e']; exact Ch.trans (CHr.ext E Ch.1), by rw [e']; exact H.new Ch.1 E hcl hP⟩
  exact ⟨s₂, o, st _ st', r⟩
theorem Go.newarray (hd : Dec B.bytes tb) (i : Nat) {aty : ArrayType} {ty : FieldType} {n : Int32} {cap : Nat} {vs : List Value} (hi : tb[i]? = some (pc, .newarray aty, 2)) (ht : newarray.typeOf aty = ty) (w : (Cond.arrayClass ty).before A.a0 A.Z = true) (hn : 0 ≤ n.toInt) (hcap : n.toInt.toNat ≤ cap) (hb8 : cap * 8 ≤ 536870912)
    (hc : cells + 1 ≤ B.rm.cells) (hl : slots + cap ≤ B.rm.slots) (hv : List.replicate n.toInt.toNat (defaultValue ty) = vs)
    (k : ∀ a : Addr, Go A B D Q (pc + 2) L (.ref a :: rest) ((a, ArrP A ty vs) :: F) G (cells + 1) (slots + cap)) : Go A B D Q pc L (.int n :: rest) F G cells slots := fun hb T hT => by
  subst ht
  obtain ⟨vm0, k0, locs, X, hZ, hown, hS, hk, N, Ch, H⟩ := hT
  obtain ⟨T', h', cA, X', e', E, Ar, st⟩ := newP X hb.1 hZ w rfl (g := mkF D.m pc L.toArray (.int n :: rest)) rfl (own_dec hd hb hi) rfl (by rw [Int32.lt_iff_toInt_lt]; have : (0 : Int32).toInt = 0 := rfl; omega) (cap := cap) hcap hb8 hc hl
  have hP : ArrP A (newarray.typeOf aty) vs (newA cA (newarray.typeOf aty) n) := ⟨Ar.2.1, Ar.2.2, by rw [← hv]; simp [newA]⟩
  obtain ⟨s₂, o, st', r⟩ := k T.heap.size hb T' ⟨vm0, k0, _, X', hZ, hown, hS, by rw [e']; exact Nat.le_trans hk E.1, N, by rw [e']; exact Ch.trans (CHr.ext E Ch.1), by rw [e']; exact H.new Ch.1 E Ar.1 hP⟩
  exact ⟨s₂, o, st _ st', r⟩
/-- a String's cell, and its bytes' -/
abbrev StrE (A : Ax) (a b : Addr) (cd : Int32) : Ent := (a, ObjP A "java/lang/String" [("java/lang/String", "value", "[B", .ref b), ("java/lang/String", "coder", "B", .int cd)])
abbrev BytE (A : Ax) (b : Addr) (vs : List Value) : Ent := (b, ArrP A .byte vs)
theorem Go.ldcS (hd : Dec B.bytes tb) (i : Nat) {ix n : Nat} {text : String} {vs : List Value} (hi : tb[i]? = some (pc, .ldc ix, 2)) (w : (Cond.stringLink B.y.cls ix text).before A.a0 A.Z = true) (wS : ∀ a ∈ Bundle.stringAtoms, a.before A.a0 A.Z = true) (hm : (B.y.cls, ix) ∈ A.EL) (hwm : A.wm = true)
    (ht : (∀ c ∈ text.toList, c.toNat < 256) ∧ text.toList.map (fun c => Value.int (Jvm.Lit.byteI c.toNat.toUInt16)) = vs) (hlen : vs.length < 2 ^ 31) (hn : 4 * text.toList.length ≤ n) (hbig : n ≤ 536870912) (hc : cells + 2 ≤ B.rm.cells) (hl : slots + (n + 4) ≤ B.rm.slots)
    (k : ∀ a b : Addr, Go A B D Q (pc + 2) L (.ref a :: S) F (StrE A a b 0 :: BytE A b vs :: G) (cells + 2) (slots + (n + 4))) : Go A B D Q pc L S F G cells slots := fun hb T hT => by
  obtain ⟨vm0, k0, locs, X, hZ, hown, hS, hk, N, Ch, H⟩ := hT
  obtain ⟨a, T', h', k1, b, kb, X', e', E, hS', hk', hZ', hown', Ex, Fc, Fv, Av, -, -, C', -, ne, st⟩ := ldcCH X hb.1 hZ hown w wS rfl hS hk hb.2.2.2.2.2.2 hm Ch.1 (z := vs.length.toInt32) ht
    (by rw [Int32.lt_iff_toInt_lt, len_toInt hlen]; have : (0 : Int32).toInt = 0 := rfl; omega) (by simp only [Int32.toNatClampNeg, len_toInt hlen]; rfl) (g := mkF D.m pc L.toArray S) rfl (own_dec hd hb hi) hn hbig hc hl
  subst e'
  have C1 : CHr A.Z A.EL D.s.vm D.s.heap T'.vm T'.heap := Ch.trans C'
  have H1 := H.later C' E
  have lay : ∀ nm dd, (Cond.laysFinal "java/lang/String" "java/lang/String" nm dd) ∈ Bundle.stringAtoms → Laid A.Z A.a0 "java/lang/String" "java/lang/String" nm dd := fun nm dd q => Or.inr (wS _ q)
  have hv := lay "value" "[B" (by simp [Bundle.stringAtoms, Bundle.sN])
  have hcd := lay "coder" "B" (by simp [Bundle.stringAtoms, Bundle.sN])
  have H2 : Hp A.Z A.EL T'.vm T'.heap F (StrE A a b 0 :: BytE A b vs :: G) := by
    obtain ⟨h1, h2, h3, h4, h5⟩ := H1
    refine ⟨h1, h2, fun q m => ?_, h4, fun q m => ⟨(h5 q m).1, (h5 q m).2.1, fun r kk => ?_⟩⟩
    · rcases List.mem_cons.mp m with rfl | m
      · obtain ⟨c, e1, r⟩ := (show ∃ c : Cell, T'.heap[a]? = some c ∧ ∃ kk : Class, A.Z.vm.findClass "java/lang/String" = some c.cls ∧ A.Z.vm.classes[c.cls]? = some kk ∧ c.vm.isStatics = false ∧ (kk.kind = .ordinary → c.slots.size = kk.instanceTypes.size) by
          obtain ⟨c, kk, q1, q2, q3, q4, q5⟩ := Ex; exact ⟨c, q1, kk, q2, q3, q4, q5⟩)
        obtain ⟨kk, r1, r2, r3, r4⟩ := r
        obtain ⟨c2, cf, k2, i2, f2, g1, g2, g3, g4, g5, g6, g7⟩ := Fc
        obtain ⟨c3, cf3, k3, i3, f3, j1, j2, j3, j4, j5, j6, j7⟩ := Fv
        cases e1.symm.trans g1
        cases e1.symm.trans j1
        refine ⟨c, e1, ⟨kk, r1, r2, r3, g4, r4⟩, fun q mq => ?_⟩
        rcases List.mem_cons.mp mq with rfl | mq
        · exact ⟨hv, ⟨.array .byte, (by decide +kernel : parseFieldDescriptor "[B" = some (.array .byte))⟩, by rw [show Jvm.RoadKit.slotOf A.Z "java/lang/String" "value" "[B" = f3.slot by simp [Jvm.RoadKit.slotOf, j2]]; exact j7⟩
        · rcases List.mem_cons.mp mq with rfl | mq
          · exact ⟨hcd, ⟨.byte, (by decide +kernel : parseFieldDescriptor "B" = some .byte)⟩, by rw [show Jvm.RoadKit.slotOf A.Z "java/lang/String" "coder" "B" = f2.slot by simp [Jvm.RoadKit.slotOf, g2]]; exact g7⟩
          · cases mq
      · rcases List.mem_cons.mp m with rfl | m
        · obtain ⟨c, Ac, -, sz, -, hh, -⟩ := Av
          refine ⟨c, Ac.1, Ac.2.1, Ac.2.2, List.ext_getElem? fun j => ?_⟩
          have sz' : c.slots.size = vs.length := by rw [sz]; simp only [Int32.toNatClampNeg, len_toInt hlen]; rfl
          by_cases hj : j < c.slots.size
          · rw [Array.getElem?_toList, hh j hj, List.getD_eq_getElem?_getD, List.getElem?_eq_getElem (by omega)]; rfl
          · rw [Array.getElem?_toList, Array.getElem?_eq_none (by omega), List.getElem?_eq_none (by omega)]
        · exact h3 q m
    · have := ne q.1 (h5 q m).2.1
      rcases List.mem_cons.mp kk with rfl | kk
      · exact Ne.symm this.1
      · rcases List.mem_cons.mp kk with rfl | kk
        · exact Ne.symm this.2
        · exact (h5 q m).2.2 r kk
  obtain ⟨s₂, o, st', r⟩ := k a b hb T' ⟨T'.vm, k1, locs, X', hZ', hown', hS', hk', ⟨N.1, fun z => by rw [hwm] at z; cases z⟩, C1, H2⟩
  exact ⟨s₂, o, st _ st', r⟩
theorem own_subS {q : Ent} {G0 G1 : List Ent} (h : q ∈ G1) (r : ∀ x ∈ G0, x ∈ G1) : ∀ x ∈ q :: G0, x ∈ G1 := fun x m => by
  rcases List.mem_cons.mp m with rfl | m
  · exact h
  · exact r x m
/-! calls -/
theorem own_back {B' : Bx} {as' : Array Value} {Qc : Pst} {len W : Nat} {vm0 : Vm} {h : Heap} (hM : Met A B' as' F G Qc) (hEL : EW A.Z A.a0 A.EL) (hZ : A.Z.Warmed39 vm0) (C : CHv A.Z A.EL vm0 h) (H : Hp A.Z A.EL vm0 h F G) (wc : (Cond.code B'.y B'.bytes B'.maxL B'.ret).before A.a0 A.Z = true) (wz : (Cond.initialized B'.y.cls).before A.a0 A.Z = true)
    (hf : B'.rm.frames + 1 ≤ B.rm.frames) (hl : W + (B'.maxL + 11) + B'.rm.locals ≤ B.rm.locals) :
    BackS A.l B.rm D.p D.e D.below (D.s.setVm vm0) D.args B'.y len W (fun X a => a = as' ∧ X.U.heap = h ∧ X.cells + B'.rm.cells ≤ B.rm.cells ∧ X.slots + B'.rm.slots ≤ B.rm.slots)
      (fun X _ v Y => ∃ L F' G', Qc v F' G' ∧ Hp A.Z A.EL Y.U.vm Y.U.heap F' G' ∧ (Fr A.Z.heap.size L ∧ (A.wm = false → X.U.WarmedH Y.U.vm)) ∧ Y.locs = X.locs ++ L ∧ Y.cells = X.cells + B'.rm.cells ∧ Y.slots = X.slots + B'.rm.slots ∧ CHr A.Z A.EL vm0 h Y.U.vm Y.U.heap) :=
  BackS.of_freeW (bytes := B'.bytes) (maxL := B'.maxL) (ret := B'.ret)
    (E := fun _ first o t L kc ks => kc = B'.rm.cells ∧ ks = B'.rm.slots ∧ (∃ v F' G', o = .returned v ∧ Qc v F' G' ∧ Hp A.Z A.EL t.vm t.heap F' G') ∧ (Fr A.Z.heap.size L ∧ (A.wm = false → first.WarmedH t.vm)) ∧ CHr A.Z A.EL first.vm first.heap t.vm t.heap) hM hf hl
    (fun m meth c X a Y hp => have hU : A.Z.Warmed39 X.U.vm := wtrans (s := D.s.setVm vm0) hZ Y.warmed
      ⟨by show (Cond.and _ .tt).before a X.U = true; rw [Cond.before_and, mv hU wc]; rfl, mv hU wc, mv hU wz, hp.2.2.1, hp.2.2.2⟩)
    (fun m meth c X a g mk Y hp => have Q1 := CHv.at Y hZ hEL C
      ⟨hp.1, wtrans (s := D.s.setVm vm0) hZ Y.warmed, by show CHv A.Z A.EL X.U.vm X.U.heap; rw [hp.2.1]; exact Q1.1, by show Hp A.Z A.EL X.U.vm X.U.heap F G; rw [hp.2.1]; exact H.later Q1 (own_ext_refl _)⟩)
    (fun _ _ _ _ _ _ _ _ _ => trivial)
    (fun _ _ _ _ ⟨v, L, F', G', h1, h2, h3, h4, h5, h6⟩ => ⟨L, _, _, h6, rfl, rfl, ⟨v, F', G', h1, h2, h3⟩, h4, h5⟩)
    (fun m meth c X a g mk v t L kc ks Y hp _ _ ⟨e1, e2, ⟨v', F', G', e3, e4, e5⟩, e6, e7⟩ => by
      cases e3; subst e1 e2
      refine ⟨L, F', G', e4, e5, e6, rfl, rfl, rfl, (CHv.at Y hZ hEL C).trans ?_⟩
      rw [← hp.2.1]; exact e7)
/-- behind a call -/
theorem own_after {B' : Bx} {Qc : Pst} {U0 : State} {pc1 : Nat} {vm0 : Vm} {k0 : Nat} {locs : List Loc} {T : State} {v : Option Value} {P : Pt} (k : ∀ v F' G', Qc v F' G' → Go A B D Q pc1 L (v.toList ++ rest) F' G' (cells + B'.rm.cells) (slots + B'.rm.slots)) (hb : Bdy A B D) (hZ : A.Z.Warmed39 vm0) (hown : vm0.findClass B.y.cls = some D.m.cls) (hS : D.s.Since vm0 k0) (hk : k0 ≤ T.heap.size) (N : Fr A.Z.heap.size locs ∧ (A.wm = false → D.s.WarmedH vm0)) (hU0 : (D.s.setVm vm0).WarmedH U0.vm) (C : CHr A.Z A.EL D.s.vm D.s.heap vm0 T.heap)
    (X' : Stand D.p A.l D.e B.rm ((D.s.setVm vm0).setVm P.U.vm) D.m D.args D.below D.meth D.c P.U P.locs P.cells P.slots) (hS2 : (D.s.setVm vm0).Since P.U.vm P.U.heap.size) (hg : T.heap.size ≤ P.U.heap.size)
    (hp : ∃ L F' G', Qc v F' G' ∧ Hp A.Z A.EL P.U.vm P.U.heap F' G' ∧ (Fr A.Z.heap.size L ∧ (A.wm = false → U0.WarmedH P.U.vm)) ∧ P.locs = locs ++ L ∧ P.cells = cells + B'.rm.cells ∧ P.slots = slots + B'.rm.slots ∧ CHr A.Z A.EL vm0 T.heap P.U.vm P.U.heap)
    (hsteps : Steps D.p.tables D.e D.below (T.setTop (mkF D.m pc L.toArray S)) (P.U.setTop (mkF D.m pc1 L.toArray (v.toList ++ rest)))) :
    ∃ s₂ o, Steps D.p.tables D.e D.below (T.setTop (mkF D.m pc L.toArray S)) s₂ ∧ s₂.status = .running ∧ Ended s₂ D.below o ∧ Fin A B.rm D.below D.s Q o s₂ := by
  obtain ⟨L1, F', G', hq, H', N1, e1, e2, e3, C1⟩ := hp
  obtain ⟨U, Ls, cc, ss⟩ := P
  dsimp only [Pt.U, Pt.locs, Pt.cells, Pt.slots] at *
  subst e1 e2 e3
  obtain ⟨s₂, o, st', r⟩ := k v F' G' hq hb U ⟨U.vm, U.heap.size, _, X', State.Warmed39.trans (t := D.s.setVm vm0) hZ hS2.1, by rw [hS2.1.alike.findClass]; exact hown, hS.trans hS2 (Nat.le_trans hk hg), Nat.le_refl _, ⟨N.1.app N1.1, fun z => State.WarmedH.trans (t := D.s.setVm vm0) (N.2 z) (State.WarmedH.trans hU0 (N1.2 z))⟩, C.trans C1, H'⟩
  exact ⟨s₂, o, hsteps.trans st', r⟩
theorem Go.callS (hd : Dec B.bytes tb) (i : Nat) {ix W : Nat} {B' : Bx} {argsL : List Value} {as' : Array Value} {Qc : Pst} {ps : List FieldType} {rt : Option FieldType} (hi : tb[i]? = some (pc, .invokestatic ix, 3)) (hM : Met A B' as' F G Qc) (w1 : (Cond.methodLink B.y.cls ix B'.y).before A.a0 A.Z = true) (w2 : (Cond.static B'.y).before A.a0 A.Z = true) (wz : (Cond.initialized B'.y.cls).before A.a0 A.Z = true) (wc : (Cond.code B'.y B'.bytes B'.maxL B'.ret).before A.a0 A.Z = true)
    (hy : B'.y.cls ≠ "java/lang/invoke/MethodHandle" ∧ B'.y.cls ≠ "java/lang/invoke/VarHandle") (hds : parseMethodDescriptor B'.y.desc = some ⟨ps, rt⟩) (has : argsL.toArray = as') (hlen : argsL.length = ps.length) (hstk : S = argsL.reverse ++ rest) (hL : L.length = B.maxL) (hW : (rest.map fun v => v.category).sum ≤ W)
    (hf : B'.rm.frames + 1 ≤ B.rm.frames) (hl : W + (B'.maxL + 11) + B'.rm.locals ≤ B.rm.locals) (hc : cells + B'.rm.cells ≤ B.rm.cells) (hs : slots + B'.rm.slots ≤ B.rm.slots)
    (k : ∀ v F' G', Qc v F' G' → Go A B D Q (pc + 3) L (v.toList ++ rest) F' G' (cells + B'.rm.cells) (slots + B'.rm.slots)) : Go A B D Q pc L S F G cells slots := fun hb T hT => by
  subst hstk
  obtain ⟨vm0, k0, locs, X, hZ, hown, hS, hk, N, Ch, H⟩ := hT
  obtain ⟨v, vm1, P, hU0, X', hS2, hg, hp, hsteps⟩ := callSS X hb.1 hown (mv (s := D.s.setVm vm0) hZ w1) (mv (s := D.s.setVm vm0) hZ w2) (mv (s := D.s.setVm vm0) hZ wz) (mv (s := D.s.setVm vm0) hZ wc) hy (own_back (W := W) hM hb.2.2.2.2.2.2 hZ Ch.1 H wc wz hf hl) (g := mkF D.m pc L.toArray (argsL.reverse ++ rest)) rfl (by rw [hb.2.2.1, ← hL]; simp)
    (lenOf hds hlen) rfl (by show 2 * 0 + _ ≤ _; omega) (own_dec hd hb hi) (fun _ _ => ⟨has, rfl, hc, hs⟩)
  exact own_after (U0 := T.setVm vm1) k hb hZ hown hS hk N hU0 Ch X' hS2 hg hp hsteps
theorem Go.callN (hd : Dec B.bytes tb) (i : Nat) {ix W : Nat} {B' : Bx} {a : Addr} {argsL : List Value} {as' : Array Value} {Qc : Pst} {ps : List FieldType} {rt : Option FieldType} (hi : tb[i]? = some (pc, .invokespecial ix, 3)) (hM : Met A B' as' F G Qc) (hy1 : B'.y.name = "<init>") (hr : B'.ret = none) (w1 : (Cond.methodLink B.y.cls ix B'.y).before A.a0 A.Z = true) (w2 : (Cond.instanceMethod B'.y).before A.a0 A.Z = true) (wz : (Cond.initialized B'.y.cls).before A.a0 A.Z = true) (wc : (Cond.code B'.y B'.bytes B'.maxL B'.ret).before A.a0 A.Z = true)
    (hy : B'.y.cls ≠ "java/lang/invoke/MethodHandle" ∧ B'.y.cls ≠ "java/lang/invoke/VarHandle") (hds : parseMethodDescriptor B'.y.desc = some ⟨ps, rt⟩) (has : (Value.ref a :: argsL).toArray = as') (hlen : argsL.length = ps.length) (hstk : S = argsL.reverse ++ .ref a :: rest) (hL : L.length = B.maxL) (hW : (rest.map fun v => v.category).sum ≤ W)
    (hf : B'.rm.frames + 1 ≤ B.rm.frames) (hl : W + (B'.maxL + 11) + B'.rm.locals ≤ B.rm.locals) (hc : cells + B'.rm.cells ≤ B.rm.cells) (hs : slots + B'.rm.slots ≤ B.rm.slots)
    (k : ∀ v F' G', Qc v F' G' → Go A B D Q (pc + 3) L (v.toList ++ rest) F' G' (cells + B'.rm.cells) (slots + B'.rm.slots)) : Go A B D Q pc L S F G cells slots := fun hb T hT => by
  subst hstk
  obtain ⟨vm0, k0, locs, X, hZ, hown, hS, hk, N, Ch, H⟩ := hT
  obtain ⟨v, vm1, P, hU0, X', hS2, hg, hp, hsteps⟩ := X.specialBackS hb.1 hy1 hown (mv (s := D.s.setVm vm0) hZ w1) (mv (s := D.s.setVm vm0) hZ w2) (bytes := B'.bytes) (maxL := B'.maxL) (by rw [← hr]; exact mv (s := D.s.setVm vm0) hZ wc) hy (own_back (W := W) hM hb.2.2.2.2.2.2 hZ Ch.1 H wc wz hf hl) (g := mkF D.m pc L.toArray (argsL.reverse ++ .ref a :: rest)) rfl (by rw [hb.2.2.1, ← hL]; simp) (Steps.refl _)
    (lenOf hds hlen) rfl (by show 2 * 0 + _ ≤ _; omega) (own_dec hd hb hi) (fun _ _ => ⟨has, rfl, hc, hs⟩)
  exact own_after (U0 := T.setVm vm1) k hb hZ hown hS hk N hU0 Ch X' hS2 hg hp hsteps
theorem ClP.isOf {vm0 : Vm} {T : State} {c : Cell} {a : Addr} {C : String} (hZ : A.Z.Warmed39 vm0) (P : ClP A.Z C c) (e : T.heap[a]? = some c) : ∃ cB kB, (D.s.setVm vm0).vm.findClass C = some cB ∧ (D.s.setVm vm0).vm.classes[cB]? = some kB ∧ IsOf cB T a := Jvm.RoadKit.isOf (s := D.s.setVm vm0) hZ rfl (P.exa e)
theorem Go.callV (hd : Dec B.bytes tb) (i : Nat) {ix W : Nat} {B' : Bx} {y : MethodName} {C : String} {a : Addr} {argsL : List Value} {as' : Array Value} {Qc : Pst} {P : Cell → Prop} {ps : List FieldType} {rt : Option FieldType} (hi : tb[i]? = some (pc, .invokevirtual ix, 3)) (hM : Met A B' as' F G Qc) (m : (a, P) ∈ F ∨ (a, P) ∈ G) (hP : ∀ c, P c → ClP A.Z C c)
    (w1 : (Cond.methodLink B.y.cls ix y).before A.a0 A.Z = true) (w2 : (Cond.declares y).before A.a0 A.Z = true) (w3 : (Cond.instanceMethod B'.y).before A.a0 A.Z = true) (w4 : (Cond.selects C y B'.y).before A.a0 A.Z = true) (w5 : (Cond.selects C y y).before A.a0 A.Z = true) (wz : (Cond.initialized B'.y.cls).before A.a0 A.Z = true) (wc : (Cond.code B'.y B'.bytes B'.maxL B'.ret).before A.a0 A.Z = true)
    (hy : y.cls ≠ "java/lang/invoke/MethodHandle" ∧ y.cls ≠ "java/lang/invoke/VarHandle") (hds : parseMethodDescriptor y.desc = some ⟨ps, rt⟩) (has : (Value.ref a :: argsL).toArray = as') (hlen : argsL.length = ps.length) (hstk : S = argsL.reverse ++ .ref a :: rest) (hL : L.length = B.maxL) (hW : (rest.map fun v => v.category).sum ≤ W)
    (hf : B'.rm.frames + 1 ≤ B.rm.frames) (hl : W + (B'.maxL + 11) + B'.rm.locals ≤ B.rm.locals) (hc : cells + B'.rm.cells ≤ B.rm.cells) (hs : slots + B'.rm.slots ≤ B.rm.slots)
    (k : ∀ v F' G', Qc v F' G' → Go A B D Q (pc + 3) L (v.toList ++ rest) F' G' (cells + B'.rm.cells) (slots + B'.rm.slots)) : Go A B D Q pc L S F G cells slots := fun hb T hT => by
  subst hstk
  obtain ⟨vm0, k0, locs, X, hZ, hown, hS, hk, N, Ch, H⟩ := hT
  obtain ⟨c, e, hp0⟩ := H.at m
  obtain ⟨cB, kB, q1, q2, q3⟩ := (hP c hp0).isOf (A := A) (D := D) hZ e
  obtain ⟨v, vm1, P, hU0, X', hS2, hg, hp, hsteps⟩ := X.virtualBackS hb.1 hown (mv (s := D.s.setVm vm0) hZ w1) (mv (s := D.s.setVm vm0) hZ w2) (notFace_of_selects (args := #[]) (mv (s := D.s.setVm vm0) hZ w5)) (mv (s := D.s.setVm vm0) hZ w4) (mv (s := D.s.setVm vm0) hZ w3) hy (own_back (W := W) hM hb.2.2.2.2.2.2 hZ Ch.1 H wc wz hf hl) q1 q3 (g := mkF D.m pc L.toArray (argsL.reverse ++ .ref a :: rest)) rfl (by rw [hb.2.2.1, ← hL]; simp) (Steps.refl _)
    (lenOf hds hlen) rfl (by show 2 * 0 + _ ≤ _; omega) (own_dec hd hb hi) (fun _ _ => ⟨has, rfl, hc, hs⟩)
  exact own_after (U0 := T.setVm vm1) k hb hZ hown hS hk N hU0 Ch X' hS2 hg hp hsteps
theorem Go.initObject (hd : Dec B.bytes tb) (i : Nat) {ix W : Nat} {a : Addr} (hi : tb[i]? = some (pc, .invokespecial ix, 3)) (w1 : (Cond.methodLink B.y.cls ix Lib.objectInit).before A.a0 A.Z = true) (w2 : (Cond.instanceMethod Lib.objectInit).before A.a0 A.Z = true) (w3 : (Cond.code Lib.objectInit ⟨#[0xb1]⟩ 1 none).before A.a0 A.Z = true)
    (hL : L.length = B.maxL) (hf : 1 ≤ B.rm.frames) (hW : (rest.map fun v => v.category).sum ≤ W) (hl : W + 12 ≤ B.rm.locals) (k : Go A B D Q (pc + 3) L rest F G cells slots) : Go A B D Q pc L (.ref a :: rest) F G cells slots :=
  Go.stay (fun hb T vm0 locs X hZ hown H => by
    obtain ⟨T', X', e', st⟩ := initO X hb.1 hZ hown w1 w2 w3 rfl (g := mkF D.m pc L.toArray (.ref a :: rest)) rfl (by rw [hb.2.2.1, ← hL]; simp) rfl (own_dec hd hb hi) hf (W := W) (by show 2 * 0 + _ ≤ _; omega) hl
    exact ⟨T', X', e', st⟩) k
/-! the end -/
theorem own_leave {T : State} {v : Option Value} (hb : Bdy A B D) (hT : St A B D T F G cells slots) (hv : B.ret = none → v = none) (hq : Q v F G) (hc : cells ≤ B.rm.cells) (hs : slots ≤ B.rm.slots)
    (h : ∀ (vm0 : Vm) (locs : List Loc) (fs : List Frame), Stand D.p A.l D.e B.rm (D.s.setVm vm0) D.m D.args D.below D.meth D.c T locs cells slots → (∀ (f : JFrame) (acts : List Action), f.method = D.m → f.locked = none → f.entered = [] → (doReturn D.e (T.setTop f) acts v).1 = T.setFrames fs) → Steps D.p.tables D.e D.below (T.setTop (mkF D.m pc L.toArray S)) (T.setFrames fs)) :
    ∃ s₂ o, Steps D.p.tables D.e D.below (T.setTop (mkF D.m pc L.toArray S)) s₂ ∧ s₂.status = .running ∧ Ended s₂ D.below o ∧ Fin A B.rm D.below D.s Q o s₂ := by
  obtain ⟨vm0, k0, locs, X, hZ, hown, hS, hk, N, Ch, H⟩ := hT
  have hlk : D.meth.locks = false := hb.2.2.2.2.2.1
  obtain ⟨fs, h1, h2, h3, h4⟩ := (X.more hc hs).leaveW hS hk (v := v) (fun z => hv (hb.2.2.2.1 ▸ z)) hlk
  have C2 := CHv.at X hZ hb.2.2.2.2.2.2 Ch.1
  exact ⟨_, _, h vm0 locs fs X h1, h2, h3, v, locs, F, G, rfl, hq, H.later C2 (own_ext_refl _), ⟨N.1, fun z => State.WarmedH.trans (t := D.s.setVm vm0) (N.2 z) X.warmed⟩, Ch.trans C2, h4⟩
theorem Go.ret (hd : Dec B.bytes tb) (i : Nat) {ins : Instr} {w : Value} {t : FieldType} (hi : tb[i]? = some (pc, ins, 1)) (hr : B.ret = some t) (hn : narrow t w = w)
    (hk : (ins = .ireturn ∧ (t = .int ∨ t = .boolean ∨ t = .byte ∨ t = .char ∨ t = .short) ∧ ∃ z, w = .int z) ∨ (ins = .lreturn ∧ t = .long ∧ ∃ z, w = .long z) ∨ (ins = .dreturn ∧ t = .double ∧ ∃ z, w = .double z) ∨ (ins = .freturn ∧ t = .float ∧ ∃ z, w = .float z) ∨ (ins = .areturn ∧ t.isReference = true ∧ w.isRef = true))
    (hq : Q (some w) F G) (hc : cells ≤ B.rm.cells) (hs : slots ≤ B.rm.slots) : Go A B D Q pc L (w :: rest) F G cells slots := fun hb T hT =>
  own_leave hb hT (fun z => by rw [hr] at z; cases z) hq hc hs fun vm0 locs fs X hl => retOut X hb.1 (hb.2.2.2.1.trans hr) hn hk (own_dec hd hb hi) hl
theorem Go.retI (hd : Dec B.bytes tb) (i : Nat) {z : Int32} (hi : tb[i]? = some (pc, .ireturn, 1)) (hr : B.ret = some .int) (hq : Q (some (.int z)) F G) (hc : cells ≤ B.rm.cells) (hs : slots ≤ B.rm.slots) : Go A B D Q pc L (.int z :: rest) F G cells slots :=
  Go.ret hd i hi hr rfl (Or.inl ⟨rfl, Or.inl rfl, z, rfl⟩) hq hc hs
theorem Go.retZ (hd : Dec B.bytes tb) (i : Nat) {z : Int32} (hi : tb[i]? = some (pc, .ireturn, 1)) (hr : B.ret = some .boolean) (hz : z &&& 1 = z) (hq : Q (some (.int z)) F G) (hc : cells ≤ B.rm.cells) (hs : slots ≤ B.rm.slots) : Go A B D Q pc L (.int z :: rest) F G cells slots :=
  Go.ret hd i hi hr (by show Value.int (z &&& 1) = _; rw [hz]) (Or.inl ⟨rfl, Or.inr (Or.inl rfl), z, rfl⟩) hq hc hs
theorem Go.retC (hd : Dec B.bytes tb) (i : Nat) {z : Int32} (hi : tb[i]? = some (pc, .ireturn, 1)) (hr : B.ret = some .char) (hz : chr16 z = z) (hq : Q (some (.int z)) F G) (hc : cells ≤ B.rm.cells) (hs : slots ≤ B.rm.slots) : Go A B D Q pc L (.int z :: rest) F G cells slots :=
  Go.ret hd i hi hr (by show Value.int (chr16 z) = _; rw [hz]) (Or.inl ⟨rfl, Or.inr (Or.inr (Or.inr (Or.inl rfl))), z, rfl⟩) hq hc hs
theorem Go.retB (hd : Dec B.bytes tb) (i : Nat) {z : Int32} (hi : tb[i]? = some (pc, .ireturn, 1)) (hr : B.ret = some .byte) (hz : byt8 z = z) (hq : Q (some (.int z)) F G) (hc : cells ≤ B.rm.cells) (hs : slots ≤ B.rm.slots) : Go A B D Q pc L (.int z :: rest) F G cells slots :=
  Go.ret hd i hi hr (by show Value.int (byt8 z) = _; rw [hz]) (Or.inl ⟨rfl, Or.inr (Or.inr (Or.inl rfl)), z, rfl⟩) hq hc hs
theorem Go.retJ (hd : Dec B.bytes tb) (i : Nat) {z : Int64} (hi : tb[i]? = some (pc, .lreturn, 1)) (hr : B.ret = some .long) (hq : Q (some (.long z)) F G) (hc : cells ≤ B.rm.cells) (hs : slots ≤ B.rm.slots) : Go A B D Q pc L (.long z :: rest) F G cells slots :=
  Go.ret hd i hi hr rfl (Or.inr (Or.inl ⟨rfl, rfl, z, rfl⟩)) hq hc hs
theorem Go.retA (hd : Dec B.bytes tb) (i : Nat) {w : Value} {t : FieldType} (hi : tb[i]? = some (pc, .areturn, 1)) (hr : B.ret = some t) (ht : t.isReference = true) (hw : w.isRef = true) (hq : Q (some w) F G) (hc : cells ≤ B.rm.cells) (hs : slots ≤ B.rm.slots) : Go A B D Q pc L (w :: rest) F G cells slots :=
  Go.ret hd i hi hr (by cases w <;> cases t <;> first | rfl | (cases hw; done) | (cases ht; done)) (Or.inr (Or.inr (Or.inr (Or.inr ⟨rfl, ht, hw⟩)))) hq hc hs
theorem Go.retV (hd : Dec B.bytes tb) (i : Nat) (hi : tb[i]? = some (pc, .return_, 1)) (hr : B.ret = none) (hq : Q none F G) (hc : cells ≤ B.rm.cells) (hs : slots ≤ B.rm.slots) : Go A B D Q pc L [] F G cells slots := fun hb T hT =>
  own_leave hb hT (fun _ => rfl) hq hc hs fun vm0 locs fs X hl => X.returnOut hb.1 (hb.2.2.2.1.trans hr) (own_dec hd hb hi) hl
end Own
/-- a static whose value the sheet tells -/
theorem own_sta_eq {a0 : Array Value} {s : State} {C n d : String} {k : Int32} (h : (Cond.eq (Term.static C n d) (.int k)).before a0 s = true) (hi : (Cond.initializedFor C n d).before a0 s = true) : Sta s s.heap C n d (.int k) := by
  obtain ⟨x, y, h1, h2, h3, h4⟩ := cmp_v (Or.inl (Cond.before_iff.mp h))
  have e2 : y = .int k := Option.some.inj (h2.symm.trans (Term.int_eval k))
  subst e2
  obtain ⟨z, rfl⟩ := h4
  have := gotT (Cond.eq_ints h1 h2) (Cond.before_iff.mp h)
  subst this
  exact Sta.start h1 (Or.inl hi)
/-! own_5: plain facts on ints, bytes and chars -/
abbrev nI (n : Nat) : Int32 := n.toInt32
theorem nI_toInt {n : Nat} (h : n < 2 ^ 31) : (nI n).toInt = n := len_toInt h
theorem nI_succ (n : Nat) : nI (n + 1) = nI n + 1 := by
  show Int32.ofNat (n + 1) = Int32.ofNat n + 1
  rw [Int32.ofNat_add]; rfl
theorem nI_inB {n m : Nat} (h : n < m) (hm : m < 2 ^ 31) : InB (nI n) m := by
  have := nI_toInt (n := n) (by omega)
  exact ⟨by omega, by omega⟩
theorem nI_nat {n : Nat} (h : n < 2 ^ 31) : (nI n).toInt.toNat = n := by rw [nI_toInt h]; rfl
theorem chr16_toInt (x : Int32) : (chr16 x).toInt = x.toInt % 65536 := by
  have h := c_i2c x
  show x.toUInt32.toUInt16.toUInt32.toInt32.toInt = _
  omega
theorem chr16_id {x : Int32} (h : 0 ≤ x.toInt ∧ x.toInt < 65536) : chr16 x = x := by
  rw [← Int32.toInt_inj, chr16_toInt]; omega
theorem chr16_chr16 (x : Int32) : chr16 (chr16 x) = chr16 x := chr16_id (by rw [chr16_toInt]; omega)
theorem byt8_toInt (x : Int32) : ((byt8 x).toInt - x.toInt) % 256 = 0 ∧ -128 ≤ (byt8 x).toInt ∧ (byt8 x).toInt < 128 := c_i2b x
theorem byt8_id {x : Int32} (h : -128 ≤ x.toInt ∧ x.toInt < 128) : byt8 x = x := by
  have := byt8_toInt x
  rw [← Int32.toInt_inj]; omega
theorem byt8_byt8 (x : Int32) : byt8 (byt8 x) = byt8 x := byt8_id (byt8_toInt x).2
theorem and255_toInt (x : Int32) : (x &&& 255).toInt = x.toInt % 256 := c_mask x 255 8 (by decide) (by decide)
theorem byt8_and {c : Int32} (h : 0 ≤ c.toInt ∧ c.toInt < 256) : byt8 c &&& 255 = c := by
  have := byt8_toInt c
  rw [← Int32.toInt_inj, and255_toInt]; omega
/-- the bytes of a Latin-1 text -/
def latB (cs : List Int32) : List Value := cs.map fun c => Value.int (byt8 c)
def zrs (cs : List Int32) : List Value := cs.map fun _ => Value.int 0
def Lat (cs : List Int32) : Prop := ∀ c ∈ cs, 0 ≤ c.toInt ∧ c.toInt < 256
def Chrs (cs : List Int32) : Prop := ∀ c ∈ cs, 0 ≤ c.toInt ∧ c.toInt < 65536
abbrev chV (cs : List Int32) : List Value := cs.map Value.int
theorem latB_len (cs : List Int32) : (latB cs).length = cs.length := by simp [latB]
theorem zrs_len (cs : List Int32) : (zrs cs).length = cs.length := by simp [zrs]
theorem zrs_rep (cs : List Int32) : List.replicate cs.length (Value.int 0) = zrs cs := by simp [zrs, List.map_const']
theorem own_len_snoc (pre : List Int32) (c : Int32) : nI (pre ++ [c]).length = nI pre.length + 1 := by rw [List.length_append]; exact nI_succ _
theorem own_mid {α : Type} (xs : List α) (y z : α) (zs : List α) (n : Nat) (h : n = xs.length) : (xs ++ y :: zs).set n z = xs ++ z :: zs := by subst h; simp
theorem own_midget {α : Type} (xs : List α) (y : α) (zs : List α) (n : Nat) (h : n = xs.length) : (xs ++ y :: zs)[n]? = some y := by subst h; simp
theorem own_lat_set (pre suf : List Int32) (c : Int32) (h : (pre ++ c :: suf).length < 2 ^ 31) : (latB pre ++ zrs (c :: suf)).set (nI pre.length).toInt.toNat (.int (byt8 (byt8 c))) = latB (pre ++ [c]) ++ zrs suf := by
  have h1 : pre.length < 2 ^ 31 := by simp at h; omega
  rw [nI_nat h1, byt8_byt8]
  show (latB pre ++ .int 0 :: zrs suf).set _ _ = _
  rw [own_mid _ _ _ _ _ (latB_len pre).symm]
  simp [latB]
theorem own_chr_get (pre suf : List Int32) (c : Int32) (h : (pre ++ c :: suf).length < 2 ^ 31) : (chV (pre ++ c :: suf))[(nI pre.length).toInt.toNat]? = some (.int c) := by
  have h1 : pre.length < 2 ^ 31 := by simp at h; omega
  rw [nI_nat h1]
  show (List.map Value.int (pre ++ c :: suf))[_]? = _
  rw [List.map_append, List.map_cons]
  exact own_midget _ _ _ _ (by simp)
theorem own_chr_in (pre suf : List Int32) (c : Int32) (h : (pre ++ c :: suf).length < 2 ^ 31) : InB (nI pre.length) (chV (pre ++ c :: suf)).length := nI_inB (by simp) (by simpa using h)
theorem own_lat_in (pre suf : List Int32) (c : Int32) (h : (pre ++ c :: suf).length < 2 ^ 31) : InB (nI pre.length) (latB pre ++ zrs (c :: suf)).length := by
  refine nI_inB ?_ ?_ <;> simp [latB, zrs] at h ⊢ <;> omega
theorem nI_lt {n m : Nat} (hn : n < 2 ^ 31) (hm : m < 2 ^ 31) : nI n < nI m ↔ n < m := by rw [Int32.lt_iff_toInt_lt, nI_toInt hn, nI_toInt hm]; omega
theorem nI_le {n m : Nat} (hn : n < 2 ^ 31) (hm : m < 2 ^ 31) : nI n ≤ nI m ↔ n ≤ m := by rw [Int32.le_iff_toInt_le, nI_toInt hn, nI_toInt hm]; omega
theorem shr0 (x : Int32) : x >>> ((0 : Int32) &&& 31) = x := by
  rw [← Int32.toInt_inj, c_ishr x 0 0 (by decide)]; simp
theorem i32_lt {x y : Int32} : x < y ↔ x.toInt < y.toInt := Int32.lt_iff_toInt_lt
theorem i32_le {x y : Int32} : x ≤ y ↔ x.toInt ≤ y.toInt := Int32.le_iff_toInt_le
theorem i32_eq {x y : Int32} : x = y ↔ x.toInt = y.toInt := Int32.toInt_inj.symm
theorem own_inB {vs : List Value} {j : Int32} (n : Nat) (hl : vs.length = n) (h : 0 ≤ j.toInt ∧ j.toInt < n) : InB j vs.length := by rw [hl]; exact h
theorem own_le {n m : Nat} (h : Nat.ble n m = true) : n ≤ m := Nat.le_of_ble_eq_true h
/-! own_6: two bytes a char -/
def u2 (c : Int32) : Int32 := byt8 (c >>> ((8 : Int32) &&& 31))
def utfB : List Int32 → List Value
  | [] => []
  | c :: r => .int (byt8 c) :: .int (u2 c) :: utfB r
def zrs2 : List Int32 → List Value
  | [] => []
  | _ :: r => .int 0 :: .int 0 :: zrs2 r
theorem utfB_len : ∀ cs : List Int32, (utfB cs).length = 2 * cs.length
  | [] => rfl
  | c :: r => by simp only [utfB, List.length_cons, utfB_len r]; omega
theorem zrs2_len : ∀ cs : List Int32, (zrs2 cs).length = 2 * cs.length
  | [] => rfl
  | c :: r => by simp only [zrs2, List.length_cons, zrs2_len r]; omega
theorem zrs2_rep : ∀ cs : List Int32, List.replicate (2 * cs.length) (Value.int 0) = zrs2 cs
  | [] => rfl
  | c :: r => by
    rw [show 2 * (c :: r).length = 2 * r.length + 1 + 1 by simp only [List.length_cons]; omega, List.replicate_succ, List.replicate_succ, zrs2_rep r]; rfl
theorem utfB_app : ∀ xs ys : List Int32, utfB (xs ++ ys) = utfB xs ++ utfB ys
  | [], ys => rfl
  | c :: r, ys => by simp only [List.cons_append, utfB, utfB_app r ys]
theorem shl1 {n : Nat} (h : 2 * n < 2 ^ 31) : nI n <<< ((1 : Int32) &&& 31) = nI (2 * n) := by
  have h1 := c_ishl (nI n) 1 1 (by decide)
  rw [i32_eq, nI_toInt h]
  rw [nI_toInt (by omega)] at h1
  have h2 := rng32 (nI n <<< ((1 : Int32) &&& 31))
  omega
theorem shr1 {n : Nat} (h : 2 * n < 2 ^ 31) : nI (2 * n) >>> ((1 : Int32) &&& 31) = nI n := by
  rw [i32_eq, c_ishr (nI (2 * n)) 1 1 (by decide), nI_toInt h, nI_toInt (by omega)]; omega
theorem shl0 (x : Int32) : x <<< ((0 : Int32) &&& 31) = x := by
  have h1 := c_ishl x 0 0 (by decide)
  have h2 := rng32 (x <<< ((0 : Int32) &&& 31))
  have h3 := rng32 x
  rw [i32_eq]; omega
/-- the two bytes make the char again -/
theorem utf_join {c : Int32} (h : 0 ≤ c.toInt ∧ c.toInt < 65536) : chr16 ((byt8 c &&& 255) <<< ((0 : Int32) &&& 31) ||| (u2 c &&& 255) <<< ((8 : Int32) &&& 31)) = c := by
  have e8 := c_ishr c 8 8 (by decide)
  have a1 : (byt8 c &&& 255).toInt = c.toInt % 256 := by
    have := byt8_toInt c
    rw [and255_toInt]; omega
  have a2 : (u2 c &&& 255).toInt = c.toInt / 256 := by
    have := byt8_toInt (c >>> ((8 : Int32) &&& 31))
    rw [and255_toInt]; unfold u2; omega
  have b2 : ((u2 c &&& 255) <<< ((8 : Int32) &&& 31)).toInt = c.toInt / 256 * 256 := by
    have h1 := c_ishl (u2 c &&& 255) 8 8 (by decide)
    have h2 := rng32 ((u2 c &&& 255) <<< ((8 : Int32) &&& 31))
    rw [a2] at h1
    omega
  rw [shl0]
  have o := c_or' (byt8 c &&& 255) ((u2 c &&& 255) <<< ((8 : Int32) &&& 31)) 8 (by decide) 256 (by decide) (by rw [b2]; omega) (by rw [a1]; omega) (by rw [a1]; omega)
  rw [a1, b2] at o
  have r := rng32 ((byt8 c &&& 255) ||| (u2 c &&& 255) <<< ((8 : Int32) &&& 31))
  have q : ((byt8 c &&& 255) ||| (u2 c &&& 255) <<< ((8 : Int32) &&& 31)) = c := by rw [i32_eq]; omega
  rw [q]; exact chr16_id h
theorem lat_split : ∀ {cs : List Int32}, Chrs cs → ¬ Lat cs → ∃ pre c suf, cs = pre ++ c :: suf ∧ Lat pre ∧ 256 ≤ c.toInt
  | [], _, h => absurd (show Lat [] from fun _ m => by cases m) h
  | c :: r, hc, h => by
    by_cases h1 : c.toInt < 256
    · have hn : ¬ Lat r := fun z => h fun x m => by
        rcases List.mem_cons.mp m with rfl | m
        · exact ⟨(hc x (List.mem_cons_self ..)).1, h1⟩
        · exact z x m
      obtain ⟨pre, d, suf, e, hl, hd⟩ := lat_split (fun x m => hc x (List.mem_cons_of_mem _ m)) hn
      refine ⟨c :: pre, d, suf, by rw [e]; rfl, fun x m => ?_, hd⟩
      rcases List.mem_cons.mp m with rfl | m
      · exact ⟨(hc x (List.mem_cons_self ..)).1, h1⟩
      · exact hl x m
    · exact ⟨[], c, r, rfl, (fun _ m => by cases m), by omega⟩
instance (cs : List Int32) : Decidable (Lat cs) := inferInstanceAs (Decidable (∀ c ∈ cs, 0 ≤ c.toInt ∧ c.toInt < 256))
theorem Lat.chrs {cs : List Int32} (h : Lat cs) : Chrs cs := fun c m => ⟨(h c m).1, by have := (h c m).2; omega⟩
theorem own_two {α : Type} (xs : List α) (x y z w : α) (zs : List α) (n : Nat) (h : n = xs.length) : ((xs ++ x :: y :: zs).set n z).set (n + 1) w = xs ++ z :: w :: zs := by
  subst h
  induction xs with
  | nil => rfl
  | cons a r ih => simp only [List.cons_append, List.length_cons, List.set_cons_succ]; rw [ih]
theorem own_two1 {α : Type} (xs : List α) (x y : α) (zs : List α) (n : Nat) (h : n = xs.length) : (xs ++ x :: y :: zs)[n]? = some x ∧ (xs ++ x :: y :: zs)[n + 1]? = some y := by
  subst h
  constructor
  · simp
  · simp
theorem own_cfa {n : Nat} (h0 : 0 < n) (h : 2 * n < 2 ^ 31) : byt8 (Jvm.Free.XT.ushr (nI n - nI (2 * n)) 31) = 1 := by
  have h1 := c_isub (nI n) (nI (2 * n))
  rw [nI_toInt h, nI_toInt (by omega)] at h1
  have h2 := rng32 (nI n - nI (2 * n))
  have h3 := c_iushr (nI n - nI (2 * n)) 31 31 (by decide) (by decide)
  have h4 : (Jvm.Free.XT.ushr (nI n - nI (2 * n)) 31).toInt = 1 := by
    show ((nI n - nI (2 * n)).toUInt32 >>> ((31 : Int32) &&& 31).toUInt32).toInt32.toInt = 1
    rw [h3]; omega
  have h5 : Jvm.Free.XT.ushr (nI n - nI (2 * n)) 31 = 1 := by rw [i32_eq, h4]; rfl
  rw [h5]; rfl
/-! own_7: instanceof, checkcast, one cell known twice -/
section Own
variable {A : Ax} {B : Bx} {D : Dx} {Q : Pst} {pc pc' : Nat} {L L' : List Slot} {S S' rest : List Value} {F F' G G' : List Ent} {cells slots : Nat} {tb : List In1}
theorem Go.instY (hd : Dec B.bytes tb) (i : Nat) {ix : Nat} {a : Addr} {C : String} {P : Cell → Prop} (hi : tb[i]? = some (pc, .instanceof ix, 3)) (w : (Cond.classLink B.y.cls ix C).before A.a0 A.Z = true) (m : (a, P) ∈ F ∨ (a, P) ∈ G) (hP : ∀ c, P c → ClP A.Z C c)
    (k : Go A B D Q (pc + 3) L (.int 1 :: rest) F G cells slots) : Go A B D Q pc L (.ref a :: rest) F G cells slots :=
  Go.stay (fun hb T vm0 locs X hZ hown H => by
    obtain ⟨c, e, p⟩ := H.at m
    obtain ⟨T', X', e', st⟩ := Jvm.RoadKit.instY X hb.1 hZ hown w rfl (Ins.self ((hP c p).exa e)) (g := mkF D.m pc L.toArray (.ref a :: rest)) rfl rfl (own_dec hd hb hi)
    exact ⟨T', X', e', st⟩) k
theorem Go.castY (hd : Dec B.bytes tb) (i : Nat) {ix : Nat} {a : Addr} {C : String} {P : Cell → Prop} (hi : tb[i]? = some (pc, .checkcast ix, 3)) (w : (Cond.classLink B.y.cls ix C).before A.a0 A.Z = true) (m : (a, P) ∈ F ∨ (a, P) ∈ G) (hP : ∀ c, P c → ClP A.Z C c)
    (k : Go A B D Q (pc + 3) L (.ref a :: rest) F G cells slots) : Go A B D Q pc L (.ref a :: rest) F G cells slots :=
  Go.stay (fun hb T vm0 locs X hZ hown H => by
    obtain ⟨c, e, p⟩ := H.at m
    obtain ⟨T', X', e', st⟩ := Jvm.RoadKit.castY X hb.1 hZ hown w rfl (Ins.self ((hP c p).exa e)) (g := mkF D.m pc L.toArray (.ref a :: rest)) rfl rfl (own_dec hd hb hi)
    exact ⟨T', X', e', st⟩) k
/-- one cell known twice -/
theorem Go.both {a : Addr} {P P' : Cell → Prop} {R : Prop} (m : (a, P) ∈ F ∨ (a, P) ∈ G) (m' : (a, P') ∈ F ∨ (a, P') ∈ G) (hr : ∀ c, P c → P' c → R) (k : R → Go A B D Q pc L S F G cells slots) : Go A B D Q pc L S F G cells slots := fun hb T hT => by
  obtain ⟨vm0, k0, locs, X, hZ, hown, hS, hk, N, C, H⟩ := hT
  obtain ⟨c, e, p⟩ := H.at m
  obtain ⟨c', e', p'⟩ := H.at m'
  cases e.symm.trans e'
  exact k (hr c p p') hb T ⟨vm0, k0, locs, X, hZ, hown, hS, hk, N, C, H⟩
theorem str_same {a b b' : Addr} {cd cd' : Int32} {c : Cell} (h : (StrE A a b cd).2 c) (h' : (StrE A a b' cd').2 c) : b = b' ∧ cd = cd' := by
  have v1 := (h.2 _ (List.mem_cons_self ..)).2.2
  have v2 := (h'.2 _ (List.mem_cons_self ..)).2.2
  have w1 := (h.2 _ (List.mem_cons_of_mem _ (List.mem_cons_self ..))).2.2
  have w2 := (h'.2 _ (List.mem_cons_of_mem _ (List.mem_cons_self ..))).2.2
  have e1 := v1.symm.trans v2
  have e2 := w1.symm.trans w2
  simp only [Option.some.injEq, Value.ref.injEq] at e1
  simp only [Option.some.injEq, Value.int.injEq] at e2
  exact ⟨e1, e2⟩
theorem arr_same {b : Addr} {ty ty' : FieldType} {vs vs' : List Value} {c : Cell} (h : ArrP A ty vs c) (h' : ArrP A ty' vs' c) : vs = vs' := h.2.2.symm.trans h'.2.2
end Own
/-! bytes tell the text -/
theorem latB_chV (cs : List Int32) : latB cs = chV (cs.map byt8) := by simp [latB]
theorem chV_inj {xs ys : List Int32} (h : chV xs = chV ys) : xs = ys := by
  induction xs generalizing ys with
  | nil => cases ys with
    | nil => rfl
    | cons y r => cases h
  | cons x r ih => cases ys with
    | nil => cases h
    | cons y s =>
      simp only [List.map_cons, List.cons.injEq, Value.int.injEq] at h
      rw [h.1, ih h.2]
theorem byt8_inj {x y : Int32} (hx : 0 ≤ x.toInt ∧ x.toInt < 256) (hy : 0 ≤ y.toInt ∧ y.toInt < 256) (h : byt8 x = byt8 y) : x = y := by
  rw [← byt8_and hx, ← byt8_and hy, h]
theorem lat_inj : ∀ {xs ys : List Int32}, Lat xs → Lat ys → xs.map byt8 = ys.map byt8 → xs = ys
  | [], [], _, _, _ => rfl
  | [], y :: s, _, _, h => by cases h
  | x :: r, [], _, _, h => by cases h
  | x :: r, y :: s, hx, hy, h => by
    simp only [List.map_cons, List.cons.injEq] at h
    rw [byt8_inj (hx x (List.mem_cons_self ..)) (hy y (List.mem_cons_self ..)) h.1, lat_inj (fun z m => hx z (List.mem_cons_of_mem _ m)) (fun z m => hy z (List.mem_cons_of_mem _ m)) h.2]
/-- the bytes of a text in two bytes a char, as ints -/
def utfI : List Int32 → List Int32
  | [] => []
  | c :: r => byt8 c :: u2 c :: utfI r
theorem utfB_chV : ∀ cs : List Int32, utfB cs = chV (utfI cs)
  | [] => rfl
  | c :: r => by simp only [utfB, utfI, List.map_cons, utfB_chV r]
theorem utf_inj : ∀ {xs ys : List Int32}, Chrs xs → Chrs ys → utfI xs = utfI ys → xs = ys
  | [], [], _, _, _ => rfl
  | [], y :: s, _, _, h => by cases h
  | x :: r, [], _, _, h => by cases h
  | x :: r, y :: s, hx, hy, h => by
    simp only [utfI, List.cons.injEq] at h
    have e : x = y := by rw [← utf_join (hx x (List.mem_cons_self ..)), ← utf_join (hy y (List.mem_cons_self ..)), h.1, h.2.1]
    rw [e, utf_inj (fun z m => hx z (List.mem_cons_of_mem _ m)) (fun z m => hy z (List.mem_cons_of_mem _ m)) h.2.2]
theorem utfI_len : ∀ cs : List Int32, (utfI cs).length = 2 * cs.length
  | [] => rfl
  | c :: r => by simp only [utfI, List.length_cons, utfI_len r]; omega
/-! own_8: System.arraycopy between arrays of one primitive type -/
def FitsL (ty : FieldType) (vs : List Value) : Prop := ∀ v ∈ vs, fits ty v = true
theorem own_us {vs : List Value} {sp n : Nat} {dv : Value} (h : sp + n ≤ vs.length) : (List.range n).map (fun i => vs.getD (sp + i) dv) = (vs.drop sp).take n := by
  apply List.ext_getElem?
  intro i
  by_cases hi : i < n
  · rw [List.getElem?_map, List.getElem?_range hi, List.getElem?_take_of_lt hi, List.getElem?_drop, Option.map_some, List.getD_eq_getElem?_getD, List.getElem?_eq_getElem (by omega)]; rfl
  · rw [List.getElem?_eq_none (by simp; omega), List.getElem?_eq_none (by simp; omega)]
section Own
variable {A : Ax} {B : Bx} {D : Dx} {Q : Pst} {pc pc' : Nat} {L L' : List Slot} {S S' rest : List Value} {F F' G G' : List Ent} {cells slots : Nat} {tb : List In1}
theorem ArrP.arv {ty : FieldType} {vs : List Value} {c : Cell} {h : Heap} {a : Addr} {dv : Value} (P : ArrP A ty vs c) (e : h[a]? = some c) (hl : vs.length < 2 ^ 31) (hf : FitsL ty vs) : Arv A.Z h a c.cls ty (nI vs.length) vs dv := by
  have en : (nI vs.length).toNatClampNeg = vs.length := nI_nat hl
  refine ⟨c, ⟨e, P.1, P.2.1⟩, rfl, by rw [P.size, en], ?_, fun j hj => ?_, fun j hj => ?_⟩
  · rw [i32_lt, nI_toInt hl]; have : (0 : Int32).toInt = 0 := rfl; omega
  · rw [P.size] at hj
    rw [P.get, List.getD_eq_getElem?_getD, List.getElem?_eq_getElem hj]; rfl
  · rw [P.size] at hj
    rw [List.getD_eq_getElem?_getD, List.getElem?_eq_getElem hj]; exact hf _ (List.getElem_mem hj)
theorem ArrP.of_arv {ty : FieldType} {vs : List Value} {h : Heap} {a : Addr} {k : ClassId} {n : Nat} {dv : Value} (hn : n < 2 ^ 31) (hl : vs.length = n) (P : Arv A.Z h a k ty (nI n) vs dv) : ∃ c : Cell, h[a]? = some c ∧ ArrP A ty vs c := by
  obtain ⟨c, ⟨e, h1, h2⟩, -, sz, -, hh, -⟩ := P
  have en : (nI n).toNatClampNeg = n := nI_nat hn
  rw [en] at sz
  refine ⟨c, e, h1, h2, List.ext_getElem? fun j => ?_⟩
  by_cases hj : j < c.slots.size
  · rw [Array.getElem?_toList, hh j hj, List.getD_eq_getElem?_getD, List.getElem?_eq_getElem (by omega)]; rfl
  · rw [Array.getElem?_toList, Array.getElem?_eq_none (by omega), List.getElem?_eq_none (by omega)]
theorem Hp.keep1 {Z : State} {EL : List (String × Nat)} {vm : Vm} {h h' : Heap} {b : Addr} {P P' : Cell → Prop} (H : Hp Z EL vm h ((b, P) :: F) G) (hC : CHv Z EL vm h) (K : Keep h h' [b]) (hp : ∃ c : Cell, h'[b]? = some c ∧ P' c) : Hp Z EL vm h' ((b, P') :: F) G := by
  obtain ⟨h1, h2, h3, h4, h5⟩ := H
  have hn := List.nodup_cons.mp h4
  have sa := h5 _ (List.mem_cons_self ..)
  have sk : ∀ x ∈ [b], Safe Z EL vm h x := fun x hx => by cases List.mem_singleton.mp hx; exact sa.2.1
  have oth : ∀ (x : Addr) (c : Cell), x ≠ b → h[x]? = some c → h'[x]? = some c := fun x c ne e => K.2.1 x c e (by simpa using ne)
  refine ⟨⟨Nat.le_trans h1.1 K.1, fun x c e => oth x c (Nat.ne_of_lt (Nat.lt_of_lt_of_le (Array.getElem?_eq_some_iff.mp e).1 sa.1)) (h1.2 x c e)⟩, fun q m => ?_, fun q m => ?_, h4, fun q m => ?_⟩
  · rcases List.mem_cons.mp m with rfl | m
    · exact hp
    · obtain ⟨c, e, p⟩ := h2 q (List.mem_cons_of_mem _ m)
      exact ⟨c, oth _ _ (fun z => hn.1 (List.mem_map.mpr ⟨q, m, z⟩)) e, p⟩
  · obtain ⟨c, e, p⟩ := h3 q m
    exact ⟨c, oth _ _ (sa.2.2 q m) e, p⟩
  · have key : ∀ r : Ent, r ∈ (b, P) :: F → Z.heap.size ≤ r.1 ∧ Safe Z EL vm h' r.1 ∧ ∀ t ∈ G, t.1 ≠ r.1 := fun r m => ⟨(h5 r m).1, Safe.keep K sk hC (h5 r m).2.1, (h5 r m).2.2⟩
    rcases List.mem_cons.mp m with rfl | m
    · exact key (b, P) (List.mem_cons_self ..)
    · exact key q (List.mem_cons_of_mem _ m)
theorem Go.copy (hd : Dec B.bytes tb) (i : Nat) {ix W : Nat} {a b : Addr} {ty : FieldType} {vs vd vd' : List Value} {sp dp n : Int32} (hi : tb[i]? = some (pc, .invokestatic ix, 3)) (hpr : refKind ty = false)
    (w1 : (Cond.methodLink B.y.cls ix Jvm.Stand.acN).before A.a0 A.Z = true) (w2 : (Cond.native Jvm.Stand.acN).before A.a0 A.Z = true) (w3 : (Cond.static Jvm.Stand.acN).before A.a0 A.Z = true) (w4 : (Cond.initialized "java/lang/System").before A.a0 A.Z = true)
    (m : (a, ArrP A ty vs) ∈ (b, ArrP A ty vd) :: F ∨ (a, ArrP A ty vs) ∈ G) (ls : vs.length < 2 ^ 31) (ld : vd.length < 2 ^ 31) (fs : FitsL ty vs) (fd : FitsL ty vd)
    (h1 : 0 ≤ sp.toInt) (h2 : 0 ≤ dp.toInt) (h3 : 0 ≤ n.toInt) (h4 : sp.toInt + n.toInt ≤ vs.length) (h5 : dp.toInt + n.toInt ≤ vd.length)
    (hv : vd.take dp.toInt.toNat ++ (vs.drop sp.toInt.toNat).take n.toInt.toNat ++ vd.drop (dp.toInt.toNat + n.toInt.toNat) = vd')
    (hL : L.length = B.maxL) (hW : (rest.map fun v => v.category).sum ≤ W) (hf : 1 ≤ B.rm.frames) (hl : W + (nativeFrameWords "java/lang/System" "arraycopy" 5 + 11) ≤ B.rm.locals)
    (k : Go A B D Q (pc + 3) L rest ((b, ArrP A ty vd') :: F) G cells slots) : Go A B D Q pc L (.int n :: .int dp :: .ref b :: .int sp :: .ref a :: rest) ((b, ArrP A ty vd) :: F) G cells slots := fun hb T hT => by
  obtain ⟨vm0, k0, locs, X, hZ, hown, hS, hk, N, Ch, H⟩ := hT
  obtain ⟨c1, e1, P1⟩ := H.at m
  obtain ⟨c2, e2, P2⟩ := H.at (Or.inl (List.mem_cons_self ..))
  have sa := H.2.2.2.2 _ (List.mem_cons_self ..)
  have z0 : (0 : Int32).toInt = 0 := rfl
  have en : ∀ {x : Int32}, x.toNatClampNeg = x.toInt.toNat := rfl
  obtain ⟨T', h', L1, X', e', N', K, Av, st⟩ := cpA X hb.1 hZ hown w1 w2 w3 w4 rfl (P1.arv (dv := .null) e1 ls fs) (P2.arv (dv := .null) e2 ld fd) (us := (vs.drop sp.toInt.toNat).take n.toInt.toNat) (Or.inl ⟨rfl, hpr⟩)
    (by rw [i32_lt]; omega) (by rw [i32_lt]; omega) (by rw [i32_lt]; omega) (by simp only [en]; rw [nI_nat ls]; omega) (by simp only [en]; rw [nI_nat ld]; omega) (by simp only [en]; exact (own_us (by omega)).symm) (by simp only [en]; omega) N.1 sa.1
    (g := mkF D.m pc L.toArray (.int n :: .int dp :: .ref b :: .int sp :: .ref a :: rest)) rfl (by rw [hb.2.2.1, ← hL]; simp) rfl (own_dec hd hb hi) hf (W := W) (by show 2 * 0 + _ ≤ _; omega) hl
  subst e'
  have hp : ∃ c : Cell, T'.heap[b]? = some c ∧ ArrP A ty vd' c := by
    refine ArrP.of_arv ld ?_ (hv ▸ Av)
    rw [← hv]; simp only [List.length_append, List.length_take, List.length_drop]; omega
  obtain ⟨s₂, o, st', r⟩ := k hb T' ⟨vm0, k0, L1, X', hZ, hown, hS, Nat.le_trans hk K.1, ⟨N', N.2⟩, Ch.trans (CHr.keep K (fun x hx => by cases List.mem_singleton.mp hx; exact sa.2.1) Ch.1), H.keep1 Ch.1 K hp⟩
  exact ⟨s₂, o, st _ st', r⟩
end Own
section Own
variable {A : Ax} {B : Bx} {D : Dx} {Q : Pst} {pc pc' : Nat} {L L' : List Slot} {S S' rest : List Value} {F F' G G' : List Ent} {cells slots : Nat} {tb : List In1}
/-- invokevirtual of a private method; her class is told no interface by the word 'instantiable' -/
theorem Go.callP (hd : Dec B.bytes tb) (i : Nat) {ix W kk : Nat} {B' : Bx} {a : Addr} {argsL : List Value} {as' : Array Value} {Qc : Pst} {P : Cell → Prop} {ps : List FieldType} {rt : Option FieldType} (hi : tb[i]? = some (pc, .invokevirtual ix, 3)) (hM : Met A B' as' F G Qc) (m : (a, P) ∈ F ∨ (a, P) ∈ G) {C : String} (hP : ∀ c, P c → ClP A.Z C c)
    (w1 : (Cond.methodLink B.y.cls ix B'.y).before A.a0 A.Z = true) (w3 : (Cond.instanceMethod B'.y).before A.a0 A.Z = true) (w4 : (Cond.privateMethod B'.y).before A.a0 A.Z = true) (wi : (Cond.instantiable B'.y.cls kk).before A.a0 A.Z = true) (wz : (Cond.initialized B'.y.cls).before A.a0 A.Z = true) (wc : (Cond.code B'.y B'.bytes B'.maxL B'.ret).before A.a0 A.Z = true)
    (hy : B'.y.cls ≠ "java/lang/invoke/MethodHandle" ∧ B'.y.cls ≠ "java/lang/invoke/VarHandle") (hds : parseMethodDescriptor B'.y.desc = some ⟨ps, rt⟩) (has : (Value.ref a :: argsL).toArray = as') (hlen : argsL.length = ps.length) (hstk : S = argsL.reverse ++ .ref a :: rest) (hL : L.length = B.maxL) (hW : (rest.map fun v => v.category).sum ≤ W)
    (hf : B'.rm.frames + 1 ≤ B.rm.frames) (hl : W + (B'.maxL + 11) + B'.rm.locals ≤ B.rm.locals) (hc : cells + B'.rm.cells ≤ B.rm.cells) (hs : slots + B'.rm.slots ≤ B.rm.slots)
    (k : ∀ v F' G', Qc v F' G' → Go A B D Q (pc + 3) L (v.toList ++ rest) F' G' (cells + B'.rm.cells) (slots + B'.rm.slots)) : Go A B D Q pc L S F G cells slots := fun hb T hT => by
  subst hstk
  obtain ⟨vm0, k0, locs, X, hZ, hown, hS, hk, N, Ch, H⟩ := hT
  obtain ⟨c, e, hp0⟩ := H.at m
  obtain ⟨k9, -, -, hst, -, -⟩ := hP c hp0
  have hB := own_back (B := B) (D := D) (len := 3) (W := W) hM hb.2.2.2.2.2.2 hZ Ch.1 H wc wz hf hl
  obtain ⟨mk, methM, hnamed, hmethM, hstM, habM⟩ := Cond.instanceMethod_spec (mv (s := D.s.setVm vm0) (args := #[]) hZ w3)
  obtain ⟨methM', cM, hmethM', -, -, -, -, -, -, hsigM⟩ := Cond.code_spec hnamed (mv (s := D.s.setVm vm0) (args := #[]) hZ wc)
  cases hmethM.symm.trans hmethM'
  obtain ⟨c7, k7, i1, i2, -, i4, -⟩ := Cond.instantiable_spec (mv (s := D.s.setVm vm0) (args := #[]) hZ wi)
  have hcn := findClass_of_methodNamed hnamed
  cases i1.symm.trans hcn
  have hni : k7.isInterface = false := by
    cases hq : k7.isInterface
    · rfl
    · rw [hq] at i4; simp at i4
  have hpriv := Cond.privateMethod_at (mvP (s := D.s.setVm vm0) (args := #[]) hZ w4)
  have hselP : selectMethod D.e.platform (D.s.setVm vm0).vm c.cls mk = .method mk := selectMethod_private hmethM (hpriv mk methM hnamed hmethM)
  obtain ⟨vm₁, X₁, hstep₁⟩ := X.invokevirtual hb.1 hown (mv (s := D.s.setVm vm0) hZ w1) hnamed hmethM hstM i2 hni hy (a := a) (cell := c) e (fun q z => by rw [z] at hst; cases hst) hselP hmethM habM i2 hni (g := mkF D.m pc L.toArray (argsL.reverse ++ .ref a :: rest)) rfl (argsL := argsL) (rest := rest) (lenOf hds hlen _ hsigM) rfl (own_dec hd hb hi)
  have hW₁ : (D.s.setVm vm0).WarmedH vm₁ := X₁.warmed
  obtain ⟨v, P2, X', hS2, hg, hp, hsteps⟩ := hB D.m D.meth D.c ⟨T.setVm vm₁, locs, cells, slots⟩ (mkF D.m pc L.toArray rest) (.invokevirtual ix) mk as' X₁ rfl (by show L.toArray.size = _; rw [hb.2.2.1, ← hL]; simp) (own_dec hd hb hi) (by show 2 * 0 + (rest.map fun v => v.category).sum ≤ W; omega) (X₁.named hnamed) ⟨rfl, rfl, hc, hs⟩
  exact own_after (U0 := T.setVm vm₁) k hb hZ hown hS hk N hW₁ Ch X' hS2 hg hp ((hstep₁ _ fun acts => by rw [doInvoke_state, has]; exact Steps.refl _).trans hsteps)
end Own
/-! own_9: reference arrays; checkcast of a subclass and of null; more calls -/
/-- an array whose class's name is known -/
def ArkP (A : Ax) (ty : FieldType) (ad : String) (vs : List Value) (c : Cell) : Prop := ArrP A ty vs c ∧ ClP A.Z ad c
/-- an array of references that may be written -/
def RarP (A : Ax) (C ad : String) (vs : List Value) (c : Cell) : Prop := ArkP A (.object C) ad vs c ∧ Ovr A.Z c.cls C
theorem own_notface {s : State} {C : String} {y y2 : MethodName} (w : (Cond.selects C y2 y2).before #[] s = true) (hc : y2.cls = y.cls) : NotFace s y := fun r0 h0 => by
  obtain ⟨c2, r2, m2, q1, q2, q3, q4, kP, hkP, hkPi⟩ := Cond.selects_spec w
  have e1 := findClass_of_methodNamed q3
  have e2 := findClass_of_methodNamed h0
  rw [hc] at e1
  have e3 : m2.cls = r0.cls := Option.some.inj (e1.symm.trans e2)
  exact ⟨kP, e3 ▸ hkP, hkPi⟩
theorem own_sel0 {a0 : Array Value} {Z : State} {C : String} {y z : MethodName} (w : (Cond.selects C y z).before a0 Z = true) : (Cond.selects C y z).before #[] Z = true := w
section Own
variable {A : Ax} {B : Bx} {D : Dx} {Q : Pst} {pc pc' : Nat} {L L' : List Slot} {S S' rest : List Value} {F F' G G' : List Ent} {cells slots : Nat} {tb : List In1}
theorem RarP.set {C ad : String} {vs : List Value} {c : Cell} (P : RarP A C ad vs c) (i : Nat) (v : Value) : RarP A C ad (vs.set i v) (c.setSlot i v) := ⟨⟨P.1.1.set i v, P.1.2.set i v⟩, P.2⟩
theorem Go.arraylengthP (hd : Dec B.bytes tb) (i : Nat) {a : Addr} {ty : FieldType} {vs : List Value} {z : Int32} {P : Cell → Prop} (hi : tb[i]? = some (pc, .arraylength, 1)) (m : (a, P) ∈ F ∨ (a, P) ∈ G) (hP : ∀ c, P c → ArrP A ty vs c) (hz : (vs.length : Int) = z.toInt)
    (k : Go A B D Q (pc + 1) L (.int z :: rest) F G cells slots) : Go A B D Q pc L (.ref a :: rest) F G cells slots :=
  Go.stay (fun hb T vm0 locs X hZ hown H => by
    obtain ⟨c, e, P0⟩ := H.at m
    have P := hP c P0
    refine ⟨T, X, rfl, fun target st => X.arraylength hb.1 e (State.isArrayOf_alike (T := D.s.setVm vm0) hZ.alike P.1) (g := mkF D.m pc L.toArray (.ref a :: rest)) rfl rfl (own_dec hd hb hi) target ?_⟩
    rw [P.size, own_len hz]; exact st) k
theorem Go.aaloadP (hd : Dec B.bytes tb) (i : Nat) {a : Addr} {ty : FieldType} {vs : List Value} {j : Int32} {v : Value} {P : Cell → Prop} (hi : tb[i]? = some (pc, .aaload, 1)) (ht : ty.isReference = true) (m : (a, P) ∈ F ∨ (a, P) ∈ G) (hP : ∀ c, P c → ArrP A ty vs c) (h : InB j vs.length) (hv : vs[j.toInt.toNat]? = some v)
    (k : Go A B D Q (pc + 1) L (v :: rest) F G cells slots) : Go A B D Q pc L (.int j :: .ref a :: rest) F G cells slots :=
  Go.stay (fun hb T vm0 locs X hZ hown H => by
    obtain ⟨c, e, P0⟩ := H.at m
    have P := hP c P0
    exact ⟨T, X, rfl, fun target st => X.aaload hb.1 e (State.isArrayOf_alike (T := D.s.setVm vm0) hZ.alike P.1) ht P.2.1 (own_get P h hv).1 (own_get P h hv).2 (g := mkF D.m pc L.toArray (.int j :: .ref a :: rest)) rfl rfl (own_dec hd hb hi) target st⟩) k
theorem Go.anewarray (hd : Dec B.bytes tb) (i : Nat) {ix : Nat} {C ad : String} {n : Int32} {cap : Nat} {vs : List Value} (hi : tb[i]? = some (pc, .anewarray ix, 3)) (w1 : (Cond.classLink B.y.cls ix C).before A.a0 A.Z = true) (w2 : (Cond.arrayOver (.object C)).before A.a0 A.Z = true) (had : "[" ++ (FieldType.object C).toString = ad) (hn : 0 ≤ n.toInt) (hcap : n.toInt.toNat ≤ cap) (hb8 : cap * 8 ≤ 536870912)
    (hc : cells + 1 ≤ B.rm.cells) (hl : slots + cap ≤ B.rm.slots) (hv : List.replicate n.toInt.toNat Value.null = vs)
    (k : ∀ a : Addr, Go A B D Q (pc + 3) L (.ref a :: rest) ((a, RarP A C ad vs) :: F) G (cells + 1) (slots + cap)) : Go A B D Q pc L (.int n :: rest) F G cells slots := fun hb T hT => by
  obtain ⟨vm0, k0, locs, X, hZ, hown, hS, hk, N, Ch, H⟩ := hT
  obtain ⟨T', h', cA, X', e', E, Ar, Ex, Ov, st⟩ := newRE X hb.1 hZ hown w1 w2 rfl (g := mkF D.m pc L.toArray (.int n :: rest)) rfl (own_dec hd hb hi) rfl (by rw [Int32.lt_iff_toInt_lt]; have : (0 : Int32).toInt = 0 := rfl; omega) (cap := cap) hcap hb8 hc hl had
  have hP : RarP A C ad vs (newA cA (.object C) n) := by
    obtain ⟨c1, k1, q1, q2, q3, q4, q5⟩ := Ex
    cases Ar.1.symm.trans q1
    exact ⟨⟨⟨Ar.2.1, Ar.2.2, by rw [← hv]; simp [newA, defaultValue]⟩, k1, q2, q3, q4, Ar.2.2, q5⟩, Ov⟩
  obtain ⟨s₂, o, st', r⟩ := k T.heap.size hb T' ⟨vm0, k0, _, X', hZ, hown, hS, by rw [e']; exact Nat.le_trans hk E.1, N, by rw [e']; exact Ch.trans (CHr.ext E Ch.1), by rw [e']; exact H.new Ch.1 E Ar.1 hP⟩
  exact ⟨s₂, o, st _ st', r⟩
theorem Go.aastore (hd : Dec B.bytes tb) (i : Nat) {a y : Addr} {C ad K : String} {vs vs' : List Value} {j : Int32} {P : Cell → Prop} (hi : tb[i]? = some (pc, .aastore, 1)) (h : InB j vs.length) (m : (y, P) ∈ (a, RarP A C ad vs) :: F ∨ (y, P) ∈ G) (hP : ∀ c, P c → ClP A.Z K c) (wc : (Cond.castable K C).before A.a0 A.Z = true) (hv : vs.set j.toInt.toNat (.ref y) = vs')
    (k : Go A B D Q (pc + 1) L rest ((a, RarP A C ad vs') :: F) G cells slots) : Go A B D Q pc L (.ref y :: .int j :: .ref a :: rest) ((a, RarP A C ad vs) :: F) G cells slots := fun hb T hT => by
  obtain ⟨vm0, k0, locs, X, hZ, hown, hS, hk, N, Ch, H⟩ := hT
  obtain ⟨c, e, p⟩ := H.at (a := a) (P := RarP A C ad vs) (Or.inl (List.mem_cons_self ..))
  obtain ⟨cy, ey, py⟩ := H.at m
  obtain ⟨T', h', X', e', W, st⟩ := stR X hb.1 hZ rfl (cl := c) (ty := .object C) ⟨e, p.1.1.1, p.1.1.2.1⟩ (j := j) (by rw [p.1.1.size]; exact h.in) rfl (Sto.of ⟨e, p.1.1.1, p.1.1.2.1⟩ p.2 (Ins.of_exa ((hP cy py).exa ey) wc)) (g := mkF D.m pc L.toArray (.ref y :: .int j :: .ref a :: rest)) rfl rfl (own_dec hd hb hi)
  have sa := H.2.2.2.2 _ (List.mem_cons_self ..)
  obtain ⟨s₂, o, st', r⟩ := k hb T' ⟨vm0, k0, _, X', hZ, hown, hS, by rw [e', W.size]; exact hk, ⟨Fr.snoc X' N.1 sa.1, N.2⟩, by rw [e']; exact Ch.trans (CHr.wr W sa.2.1 Ch.1), by rw [e']; exact H.wr Ch.1 W (fun c P => by rw [← hv]; exact P.set _ _)⟩
  exact ⟨s₂, o, st _ st', r⟩
theorem Go.clone (hd : Dec B.bytes tb) (i : Nat) {ix W cap : Nat} {a : Addr} {ty : FieldType} {ad : String} {vs : List Value} {P : Cell → Prop} (hi : tb[i]? = some (pc, .invokevirtual ix, 3))
    (w1 : (Cond.methodLink B.y.cls ix ⟨ad, "clone", "()Ljava/lang/Object;"⟩).before A.a0 A.Z = true) (w2 : (Cond.sameMethod ad "java/lang/Object" "clone" "()Ljava/lang/Object;").before A.a0 A.Z = true) (w3 : (Cond.native ⟨"java/lang/Object", "clone", "()Ljava/lang/Object;"⟩).before A.a0 A.Z = true)
    (w4 : (Cond.instanceMethod ⟨"java/lang/Object", "clone", "()Ljava/lang/Object;"⟩).before A.a0 A.Z = true) (w5 : (Cond.selects ad ⟨ad, "clone", "()Ljava/lang/Object;"⟩ ⟨"java/lang/Object", "clone", "()Ljava/lang/Object;"⟩).before A.a0 A.Z = true) (w6 : (Cond.castable ad "java/lang/Cloneable").before A.a0 A.Z = true)
    (m : (a, P) ∈ F ∨ (a, P) ∈ G) (hP : ∀ c, P c → ArkP A ty ad vs c) (hfl : FitsL ty vs) (hL : L.length = B.maxL) (hW : (rest.map fun v => v.category).sum ≤ W) (hf : 1 ≤ B.rm.frames) (hl : W + 14 ≤ B.rm.locals) (hcap : vs.length ≤ cap) (hc : cells + 1 ≤ B.rm.cells) (hs : slots + cap ≤ B.rm.slots)
    (k : ∀ b : Addr, Go A B D Q (pc + 3) L (.ref b :: rest) ((b, ArkP A ty ad vs) :: F) G (cells + 1) (slots + cap)) : Go A B D Q pc L (.ref a :: rest) F G cells slots := fun hb T hT => by
  obtain ⟨vm0, k0, locs, X, hZ, hown, hS, hk, N, Ch, H⟩ := hT
  obtain ⟨c, e, p0⟩ := H.at m
  have p := hP c p0
  have Ar : Arr A.Z T.heap a c ty := ⟨e, p.1.1, p.1.2.1⟩
  obtain ⟨T', h', X', e', E, Ar', Ex, st⟩ := cloneA X hb.1 hZ hown w1 w2 w3 w4 w5 w6 rfl Ar (p.2.exa e) (fitC_of Ar fun i hi v hv => hfl v (by rw [← p.1.2.2]; exact List.mem_of_getElem? (by rw [Array.getElem?_toList]; exact hv))) (g := mkF D.m pc L.toArray (.ref a :: rest)) rfl (by rw [hb.2.2.1, ← hL]; simp) rfl (own_dec hd hb hi) hf (W := W) (by show 2 * 0 + _ ≤ _; omega) hl (by rw [p.1.size]; exact hcap) hc hs
  have hP : ArkP A ty ad vs (cloneOf c) := by
    obtain ⟨c1, k1, q1, q2, q3, q4, q5⟩ := Ex
    cases Ar'.1.symm.trans q1
    exact ⟨⟨Ar'.2.1, Ar'.2.2, p.1.2.2⟩, k1, q2, q3, q4, Ar'.2.2, q5⟩
  obtain ⟨s₂, o, st', r⟩ := k T.heap.size hb T' ⟨vm0, k0, _, X', hZ, hown, hS, by rw [e']; exact Nat.le_trans hk E.1, N, by rw [e']; exact Ch.trans (CHr.ext E Ch.1), by rw [e']; exact H.new Ch.1 E Ar'.1 hP⟩
  exact ⟨s₂, o, st _ st', r⟩
theorem Go.castUp (hd : Dec B.bytes tb) (i : Nat) {ix : Nat} {a : Addr} {C K : String} {P : Cell → Prop} (hi : tb[i]? = some (pc, .checkcast ix, 3)) (w : (Cond.classLink B.y.cls ix K).before A.a0 A.Z = true) (m : (a, P) ∈ F ∨ (a, P) ∈ G) (hP : ∀ c, P c → ClP A.Z C c) (wc : (Cond.castable C K).before A.a0 A.Z = true)
    (k : Go A B D Q (pc + 3) L (.ref a :: rest) F G cells slots) : Go A B D Q pc L (.ref a :: rest) F G cells slots :=
  Go.stay (fun hb T vm0 locs X hZ hown H => by
    obtain ⟨c, e, p⟩ := H.at m
    obtain ⟨T', X', e', st⟩ := Jvm.RoadKit.castY X hb.1 hZ hown w rfl (Ins.of_exa ((hP c p).exa e) wc) (g := mkF D.m pc L.toArray (.ref a :: rest)) rfl rfl (own_dec hd hb hi)
    exact ⟨T', X', e', st⟩) k
theorem Go.castN (hd : Dec B.bytes tb) (i : Nat) {ix : Nat} (hi : tb[i]? = some (pc, .checkcast ix, 3)) (k : Go A B D Q (pc + 3) L (.null :: rest) F G cells slots) : Go A B D Q pc L (.null :: rest) F G cells slots :=
  Go.stay (fun hb T vm0 locs X hZ hown H => ⟨T, X, rfl, fun target st => Jvm.Stand.checkcastNull X hb.1 (g := mkF D.m pc L.toArray (.null :: rest)) rfl rfl (own_dec hd hb hi) target st⟩) k
theorem Go.getfieldNest (hd : Dec B.bytes tb) (i : Nat) {ix : Nat} {a : Addr} {C O n d host : String} {v : Value} {fs : List (String × String × String × Value)} (hi : tb[i]? = some (pc, .getfield ix, 3)) (w : (Cond.fieldLinkNest B.y.cls ix O n d host).before A.a0 A.Z = true)
    (m : (a, ObjP A C fs) ∈ F ∨ (a, ObjP A C fs) ∈ G) (hf : (O, n, d, v) ∈ fs) (k : Go A B D Q (pc + 3) L (v :: rest) F G cells slots) : Go A B D Q pc L (.ref a :: rest) F G cells slots :=
  Go.stay (fun hb T vm0 locs X hZ hown H => by
    obtain ⟨c, e, P⟩ := H.at m
    obtain ⟨T', X', e', st⟩ := getF X hb.1 hZ hown (host := host) (Or.inr w) Via.refl rfl ((P.2 _ hf).fld P.1 e) (g := mkF D.m pc L.toArray (.ref a :: rest)) rfl rfl (own_dec hd hb hi)
    exact ⟨T', X', e', st⟩) k
theorem Go.putfieldVia (hd : Dec B.bytes tb) (i : Nat) {ix kk : Nat} {a : Addr} {C O R0 n d : String} {v w0 : Value} {fs fs' : List (String × String × String × Value)} {ty : FieldType} (hi : tb[i]? = some (pc, .putfield ix, 3)) (w : (Cond.fieldLink B.y.cls ix R0 n d).before A.a0 A.Z = true) (via : Via A.Z R0 O n d)
    (hl : (Cond.lays C O n d).before A.a0 A.Z = true) (wi : (Cond.instantiable C kk).before A.a0 A.Z = true) (hty : parseFieldDescriptor d = some ty) (hn : narrow ty v = v) (hfi : fits ty v = true)
    (hm : (O, n, d, w0) ∈ fs) (hf : ∀ q ∈ fs', q = (O, n, d, v) ∨ (q ∈ fs ∧ q.2.1 ≠ n)) (k : Go A B D Q (pc + 3) L rest ((a, ObjP A C fs') :: F) G cells slots) : Go A B D Q pc L (v :: .ref a :: rest) ((a, ObjP A C fs) :: F) G cells slots :=
  Go.wrote (fun hb T vm0 locs c X hZ hown e P => by
    obtain ⟨T', h', X', e', W, st⟩ := putF X hb.1 hZ hown (host := "") (Or.inl w) via rfl ((P.2 _ hm).fld P.1 e) (P.1.exa e) (Or.inl hl) wi hty hn hfi (g := mkF D.m pc L.toArray (v :: .ref a :: rest)) rfl rfl (own_dec hd hb hi)
    exact ⟨T', h', X', e', W, st⟩) (fun c P => P.set hm hf) k
theorem Go.callI (hd : Dec B.bytes tb) (i : Nat) {ix W cnt : Nat} {B' : Bx} {xi : MethodName} {C : String} {a : Addr} {argsL : List Value} {as' : Array Value} {Qc : Pst} {P : Cell → Prop} {ps : List FieldType} {rt : Option FieldType} (hi : tb[i]? = some (pc, .invokeinterface ix cnt, 5)) (hM : Met A B' as' F G Qc) (m : (a, P) ∈ F ∨ (a, P) ∈ G) (hP : ∀ c, P c → ClP A.Z C c)
    (w1 : (Cond.methodLink B.y.cls ix xi).before A.a0 A.Z = true) (w2 : (Cond.declares xi).before A.a0 A.Z = true) (wf : (Cond.interfaceMethod xi.cls xi.cls xi.name xi.desc).before A.a0 A.Z = true) (w4 : (Cond.selects C xi B'.y).before A.a0 A.Z = true) (w3 : (Cond.instanceMethod B'.y).before A.a0 A.Z = true) (wp : (Cond.publicMethod B'.y).before A.a0 A.Z = true) (wu : (Cond.unhidden C xi.name xi.desc).before A.a0 A.Z = true) (wk : (Cond.castable C xi.cls).before A.a0 A.Z = true) (wz : (Cond.initialized B'.y.cls).before A.a0 A.Z = true) (wc : (Cond.code B'.y B'.bytes B'.maxL B'.ret).before A.a0 A.Z = true)
    (hy : xi.cls ≠ "java/lang/invoke/MethodHandle" ∧ xi.cls ≠ "java/lang/invoke/VarHandle") (hds : parseMethodDescriptor xi.desc = some ⟨ps, rt⟩) (has : (Value.ref a :: argsL).toArray = as') (hlen : argsL.length = ps.length) (hstk : S = argsL.reverse ++ .ref a :: rest) (hL : L.length = B.maxL) (hW : (rest.map fun v => v.category).sum ≤ W)
    (hf : B'.rm.frames + 1 ≤ B.rm.frames) (hl : W + (B'.maxL + 11) + B'.rm.locals ≤ B.rm.locals) (hc : cells + B'.rm.cells ≤ B.rm.cells) (hs : slots + B'.rm.slots ≤ B.rm.slots)
    (k : ∀ v F' G', Qc v F' G' → Go A B D Q (pc + 5) L (v.toList ++ rest) F' G' (cells + B'.rm.cells) (slots + B'.rm.slots)) : Go A B D Q pc L S F G cells slots := fun hb T hT => by
  subst hstk
  obtain ⟨vm0, k0, locs, X, hZ, hown, hS, hk, N, Ch, H⟩ := hT
  obtain ⟨c, e, hp0⟩ := H.at m
  obtain ⟨cB, kB, q1, q2, q3⟩ := (hP c hp0).isOf (A := A) (D := D) hZ e
  obtain ⟨v, vm1, P, hU0, X', hS2, hg, hp, hsteps⟩ := X.interfaceBackS hb.1 hown (mv (s := D.s.setVm vm0) hZ w1) (mv (s := D.s.setVm vm0) hZ w2) (mv (s := D.s.setVm vm0) hZ wf (by simp [Cond.onTables, Cond.keepsFace, Cond.keeps, Cond.steady, Cond.faceAtom]; exact hy)) (mv (s := D.s.setVm vm0) hZ w4) (mv (s := D.s.setVm vm0) hZ w3) (mv (s := D.s.setVm vm0) hZ wp) (mv (s := D.s.setVm vm0) hZ wu) (mv (s := D.s.setVm vm0) hZ wk) hy (own_back (W := W) hM hb.2.2.2.2.2.2 hZ Ch.1 H wc wz hf hl) q1 q2 q3 (g := mkF D.m pc L.toArray (argsL.reverse ++ .ref a :: rest)) rfl (by rw [hb.2.2.1, ← hL]; simp) (Steps.refl _)
    (lenOf hds hlen) rfl (by show 2 * 0 + _ ≤ _; omega) (own_dec hd hb hi) (fun _ _ => ⟨has, rfl, hc, hs⟩)
  exact own_after (U0 := T.setVm vm1) k hb hZ hown hS hk N hU0 Ch X' hS2 hg hp hsteps
/-- invokevirtual of y, which selects z -/
theorem Go.callVZ (hd : Dec B.bytes tb) (i : Nat) {ix W : Nat} {B' : Bx} {y y2 : MethodName} {C : String} {a : Addr} {argsL : List Value} {as' : Array Value} {Qc : Pst} {P : Cell → Prop} {ps : List FieldType} {rt : Option FieldType} (hi : tb[i]? = some (pc, .invokevirtual ix, 3)) (hM : Met A B' as' F G Qc) (m : (a, P) ∈ F ∨ (a, P) ∈ G) (hP : ∀ c, P c → ClP A.Z C c)
    (w1 : (Cond.methodLink B.y.cls ix y).before A.a0 A.Z = true) (w2 : (Cond.declares y).before A.a0 A.Z = true) (w3 : (Cond.instanceMethod B'.y).before A.a0 A.Z = true) (w4 : (Cond.selects C y B'.y).before A.a0 A.Z = true) (w5 : (Cond.selects C y2 y2).before A.a0 A.Z = true) (h5 : y2.cls = y.cls) (wz : (Cond.initialized B'.y.cls).before A.a0 A.Z = true) (wc : (Cond.code B'.y B'.bytes B'.maxL B'.ret).before A.a0 A.Z = true)
    (hy : y.cls ≠ "java/lang/invoke/MethodHandle" ∧ y.cls ≠ "java/lang/invoke/VarHandle") (hds : parseMethodDescriptor y.desc = some ⟨ps, rt⟩) (has : (Value.ref a :: argsL).toArray = as') (hlen : argsL.length = ps.length) (hstk : S = argsL.reverse ++ .ref a :: rest) (hL : L.length = B.maxL) (hW : (rest.map fun v => v.category).sum ≤ W)
    (hf : B'.rm.frames + 1 ≤ B.rm.frames) (hl : W + (B'.maxL + 11) + B'.rm.locals ≤ B.rm.locals) (hc : cells + B'.rm.cells ≤ B.rm.cells) (hs : slots + B'.rm.slots ≤ B.rm.slots)
    (k : ∀ v F' G', Qc v F' G' → Go A B D Q (pc + 3) L (v.toList ++ rest) F' G' (cells + B'.rm.cells) (slots + B'.rm.slots)) : Go A B D Q pc L S F G cells slots := fun hb T hT => by
  subst hstk
  obtain ⟨vm0, k0, locs, X, hZ, hown, hS, hk, N, Ch, H⟩ := hT
  obtain ⟨c, e, hp0⟩ := H.at m
  obtain ⟨cB, kB, q1, q2, q3⟩ := (hP c hp0).isOf (A := A) (D := D) hZ e
  obtain ⟨v, vm1, P, hU0, X', hS2, hg, hp, hsteps⟩ := X.virtualBackS hb.1 hown (mv (s := D.s.setVm vm0) hZ w1) (mv (s := D.s.setVm vm0) hZ w2) (own_notface (mv (s := D.s.setVm vm0) (args := #[]) hZ w5) h5) (mv (s := D.s.setVm vm0) hZ w4) (mv (s := D.s.setVm vm0) hZ w3) hy (own_back (W := W) hM hb.2.2.2.2.2.2 hZ Ch.1 H wc wz hf hl) q1 q3 (g := mkF D.m pc L.toArray (argsL.reverse ++ .ref a :: rest)) rfl (by rw [hb.2.2.1, ← hL]; simp) (Steps.refl _)
    (lenOf hds hlen) rfl (by show 2 * 0 + _ ≤ _; omega) (own_dec hd hb hi) (fun _ _ => ⟨has, rfl, hc, hs⟩)
  exact own_after (U0 := T.setVm vm1) k hb hZ hown hS hk N hU0 Ch X' hS2 hg hp hsteps
/-- invokespecial of the superclass's method -/
theorem own_same {a0 : Array Value} {Z : State} {C : String} {y y2 : MethodName} (w3 : (Cond.instanceMethod y).before a0 Z = true) (w5 : (Cond.selects C y2 y2).before #[] Z = true) (h5 : y2.cls = y.cls) (hy : y.cls ≠ "java/lang/invoke/MethodHandle" ∧ y.cls ≠ "java/lang/invoke/VarHandle") : (Cond.sameMethod y.cls y.cls y.name y.desc).before a0 Z = true := by
  obtain ⟨mk, methM, hnamed, hmethM, hstM, habM⟩ := Cond.instanceMethod_spec w3
  obtain ⟨kr, h1, h2⟩ := own_notface (y := y) w5 h5 mk hnamed
  have hc := findClass_of_methodNamed hnamed
  have hf := State.methodFound?_of_named hnamed hy
  have hn : Z.methodNamed? ⟨y.cls, y.name, y.desc⟩ = some mk := hnamed
  simp [Cond.before, Cond.holds, Cond.value, hc, hf, hn, h1, h2]
theorem Go.callSup (hd : Dec B.bytes tb) (i : Nat) {ix W : Nat} {B' : Bx} {K C : String} {y2 : MethodName} {a : Addr} {argsL : List Value} {as' : Array Value} {Qc : Pst} {P : Cell → Prop} {ps : List FieldType} {rt : Option FieldType} (hi : tb[i]? = some (pc, .invokespecial ix, 3)) (hM : Met A B' as' F G Qc) (m : (a, P) ∈ F ∨ (a, P) ∈ G) (hP : ∀ c, P c → ClP A.Z C c)
    (w1 : (Cond.methodLink B.y.cls ix B'.y).before A.a0 A.Z = true) (w3 : (Cond.instanceMethod B'.y).before A.a0 A.Z = true) (w4 : (Cond.superclass B.y.cls B'.y.cls).before A.a0 A.Z = true) (w5 : (Cond.selects K y2 y2).before #[] A.Z = true) (h5 : y2.cls = B'.y.cls) (hn : B'.y.name ≠ "<init>") (wz : (Cond.initialized B'.y.cls).before A.a0 A.Z = true) (wc : (Cond.code B'.y B'.bytes B'.maxL B'.ret).before A.a0 A.Z = true)
    (hy : B'.y.cls ≠ "java/lang/invoke/MethodHandle" ∧ B'.y.cls ≠ "java/lang/invoke/VarHandle") (hds : parseMethodDescriptor B'.y.desc = some ⟨ps, rt⟩) (has : (Value.ref a :: argsL).toArray = as') (hlen : argsL.length = ps.length) (hstk : S = argsL.reverse ++ .ref a :: rest) (hL : L.length = B.maxL) (hW : (rest.map fun v => v.category).sum ≤ W)
    (hf : B'.rm.frames + 1 ≤ B.rm.frames) (hl : W + (B'.maxL + 11) + B'.rm.locals ≤ B.rm.locals) (hc : cells + B'.rm.cells ≤ B.rm.cells) (hs : slots + B'.rm.slots ≤ B.rm.slots)
    (k : ∀ v F' G', Qc v F' G' → Go A B D Q (pc + 3) L (v.toList ++ rest) F' G' (cells + B'.rm.cells) (slots + B'.rm.slots)) : Go A B D Q pc L S F G cells slots := fun hb T hT => by
  subst hstk
  obtain ⟨vm0, k0, locs, X, hZ, hown, hS, hk, N, Ch, H⟩ := hT
  obtain ⟨c, e, hp0⟩ := H.at m
  obtain ⟨v, vm1, P, hU0, X', hS2, hg, hp, hsteps⟩ := superBackS X hb.1 hZ hown w1 (own_same w3 w5 h5 hy) w3 w4 hn (own_back (W := W) hM hb.2.2.2.2.2.2 hZ Ch.1 H wc wz hf hl) rfl (Ins.self ((hP c hp0).exa e)) (g := mkF D.m pc L.toArray (argsL.reverse ++ .ref a :: rest)) rfl (by rw [hb.2.2.1, ← hL]; simp) wc
    (lenOf hds hlen) rfl (by show 2 * 0 + _ ≤ _; omega) (own_dec hd hb hi) (fun _ _ => ⟨has, rfl, hc, hs⟩)
  exact own_after (U0 := T.setVm vm1) k hb hZ hown hS hk N hU0 Ch X' hS2 hg hp hsteps
/-- invokevirtual of a private method; her class is told no interface by a word 'selects' -/
theorem Go.callPS (hd : Dec B.bytes tb) (i : Nat) {ix W : Nat} {y2 : MethodName} {K2 : String} {B' : Bx} {a : Addr} {argsL : List Value} {as' : Array Value} {Qc : Pst} {P : Cell → Prop} {ps : List FieldType} {rt : Option FieldType} (hi : tb[i]? = some (pc, .invokevirtual ix, 3)) (hM : Met A B' as' F G Qc) (m : (a, P) ∈ F ∨ (a, P) ∈ G) {C : String} (hP : ∀ c, P c → ClP A.Z C c)
    (w1 : (Cond.methodLink B.y.cls ix B'.y).before A.a0 A.Z = true) (w3 : (Cond.instanceMethod B'.y).before A.a0 A.Z = true) (w4 : (Cond.privateMethod B'.y).before A.a0 A.Z = true) (w5 : (Cond.selects K2 y2 y2).before A.a0 A.Z = true) (h5 : y2.cls = B'.y.cls) (wz : (Cond.initialized B'.y.cls).before A.a0 A.Z = true) (wc : (Cond.code B'.y B'.bytes B'.maxL B'.ret).before A.a0 A.Z = true)
    (hy : B'.y.cls ≠ "java/lang/invoke/MethodHandle" ∧ B'.y.cls ≠ "java/lang/invoke/VarHandle") (hds : parseMethodDescriptor B'.y.desc = some ⟨ps, rt⟩) (has : (Value.ref a :: argsL).toArray = as') (hlen : argsL.length = ps.length) (hstk : S = argsL.reverse ++ .ref a :: rest) (hL : L.length = B.maxL) (hW : (rest.map fun v => v.category).sum ≤ W)
    (hf : B'.rm.frames + 1 ≤ B.rm.frames) (hl : W + (B'.maxL + 11) + B'.rm.locals ≤ B.rm.locals) (hc : cells + B'.rm.cells ≤ B.rm.cells) (hs : slots + B'.rm.slots ≤ B.rm.slots)
    (k : ∀ v F' G', Qc v F' G' → Go A B D Q (pc + 3) L (v.toList ++ rest) F' G' (cells + B'.rm.cells) (slots + B'.rm.slots)) : Go A B D Q pc L S F G cells slots := fun hb T hT => by
  subst hstk
  obtain ⟨vm0, k0, locs, X, hZ, hown, hS, hk, N, Ch, H⟩ := hT
  obtain ⟨c, e, hp0⟩ := H.at m
  obtain ⟨k9, -, -, hst, -, -⟩ := hP c hp0
  have hB := own_back (B := B) (D := D) (len := 3) (W := W) hM hb.2.2.2.2.2.2 hZ Ch.1 H wc wz hf hl
  obtain ⟨mk, methM, hnamed, hmethM, hstM, habM⟩ := Cond.instanceMethod_spec (mv (s := D.s.setVm vm0) (args := #[]) hZ w3)
  obtain ⟨methM', cM, hmethM', -, -, -, -, -, -, hsigM⟩ := Cond.code_spec hnamed (mv (s := D.s.setVm vm0) (args := #[]) hZ wc)
  cases hmethM.symm.trans hmethM'
  obtain ⟨k7, i2, hni⟩ := own_notface (mv (s := D.s.setVm vm0) (args := #[]) hZ w5) h5 mk hnamed
  have hpriv := Cond.privateMethod_at (mvP (s := D.s.setVm vm0) (args := #[]) hZ w4)
  have hselP : selectMethod D.e.platform (D.s.setVm vm0).vm c.cls mk = .method mk := selectMethod_private hmethM (hpriv mk methM hnamed hmethM)
  obtain ⟨vm₁, X₁, hstep₁⟩ := X.invokevirtual hb.1 hown (mv (s := D.s.setVm vm0) hZ w1) hnamed hmethM hstM i2 hni hy (a := a) (cell := c) e (fun q z => by rw [z] at hst; cases hst) hselP hmethM habM i2 hni (g := mkF D.m pc L.toArray (argsL.reverse ++ .ref a :: rest)) rfl (argsL := argsL) (rest := rest) (lenOf hds hlen _ hsigM) rfl (own_dec hd hb hi)
  have hW₁ : (D.s.setVm vm0).WarmedH vm₁ := X₁.warmed
  obtain ⟨v, P2, X', hS2, hg, hp, hsteps⟩ := hB D.m D.meth D.c ⟨T.setVm vm₁, locs, cells, slots⟩ (mkF D.m pc L.toArray rest) (.invokevirtual ix) mk as' X₁ rfl (by show L.toArray.size = _; rw [hb.2.2.1, ← hL]; simp) (own_dec hd hb hi) (by show 2 * 0 + (rest.map fun v => v.category).sum ≤ W; omega) (X₁.named hnamed) ⟨rfl, rfl, hc, hs⟩
  exact own_after (U0 := T.setVm vm₁) k hb hZ hown hS hk N hW₁ Ch X' hS2 hg hp ((hstep₁ _ fun acts => by rw [doInvoke_state, has]; exact Steps.refl _).trans hsteps)
end Own
/-! own_10: what the sheet tells of the heap at the start -/
def ElemsAt (A : Ax) (t : Term) : Nat → List Value → Prop
  | _, [] => True
  | i, v :: r => (Term.elem t (.int (nI i))).eval A.a0 A.Z none [] A.Z = some v ∧ ElemsAt A t (i + 1) r
theorem ElemsAt.get {A : Ax} {t : Term} {a : Addr} {c : Cell} (ev : t.eval A.a0 A.Z none [] A.Z = some (.ref a)) (hc : A.Z.heap[a]? = some c) : ∀ (vs : List Value) (i : Nat), i + vs.length < 2 ^ 31 → ElemsAt A t i vs → ∀ j, j < vs.length → c.slots[i + j]? = vs[j]?
  | [], _, _, _, _, q => by simp at q
  | v :: r, i, hl, h, 0, _ => by
    have q := (elem_in h.1 ev (Term.int_eval _) hc).2
    have e : (nI i).toNatClampNeg = i := nI_nat (by simp only [List.length_cons] at hl; omega)
    rw [e] at q; simpa using q
  | v :: r, i, hl, h, j + 1, q => by
    have := ElemsAt.get ev hc r (i + 1) (by simp only [List.length_cons] at hl; omega) h.2 j (by simpa using q)
    rw [show i + (j + 1) = i + 1 + j by omega, this]; simp
theorem st_eq {args : Array Value} {s : State} {a b : Term} {y : Value} (h : (Cond.eq a b).value args s none s [] = some true) (hb : b.eval args s none [] s = some y) : a.eval args s none [] s = some y := by
  obtain ⟨z, h1, h2⟩ := Cond.eq_one (Cond.before_iff.mpr h)
  rw [h1]; exact h2.symm.trans hb
theorem arr_start {A : Ax} {t : Term} {a : Addr} {ty : FieldType} {n : Int32} {vs : List Value} (ev : t.eval A.a0 A.Z none [] A.Z = some (.ref a)) (hA : (Cond.arrayOf t ty).value A.a0 A.Z none A.Z [] = some true) (hl : (Cond.eq (.length t) (.int n)).value A.a0 A.Z none A.Z [] = some true) (hn : n = nI vs.length) (hv : vs.length < 2 ^ 31) (H : ElemsAt A t 0 vs) : ∃ c : Cell, A.Z.heap[a]? = some c ∧ ArrP A ty vs c := by
  obtain ⟨c, Ar⟩ := Arr.start ev hA
  have hl' := st_eq hl (Term.int_eval n)
  have ha := Arr.fin (Vm.Alike.refl _) Ar
  have hs : c.slots.size = vs.length := by
    by_cases hb : c.slots.size < 2 ^ 31
    · have := (len_f ev ha hb).symm.trans hl'
      simp only [Option.some.injEq, Value.int.injEq] at this
      have h1 := len_toInt hb
      rw [this, hn, nI_toInt hv] at h1; omega
    · simp [Term.eval, ev, ha, hb] at hl'
  refine ⟨c, Ar.1, Ar.2.1, Ar.2.2, List.ext_getElem? fun j => ?_⟩
  rw [Array.getElem?_toList]
  by_cases hj : j < vs.length
  · have := ElemsAt.get ev Ar.1 vs 0 (by omega) H j hj
    rw [Nat.zero_add] at this; exact this
  · rw [Array.getElem?_eq_none (by omega), List.getElem?_eq_none (by omega)]
theorem obj_start {A : Ax} {a : Addr} {C : String} {q0 : String × String × String × Value} {fs : List (String × String × String × Value)} (E : Exa A.Z A.Z.heap a C) (hf : ∀ q ∈ q0 :: fs, Laid A.Z A.a0 C q.1 q.2.1 q.2.2.1 ∧ (∃ t, parseFieldDescriptor q.2.2.1 = some t) ∧ Fld A.Z A.Z.heap a q.1 q.2.1 q.2.2.1 q.2.2.2) : ∃ c : Cell, A.Z.heap[a]? = some c ∧ ObjP A C (q0 :: fs) c := by
  obtain ⟨c, k, e1, e2, e3, e4, e5⟩ := E
  obtain ⟨c1, cf1, k1, i1, f1, g1, -, -, gu, -⟩ := (hf q0 (List.mem_cons_self ..)).2.2
  cases e1.symm.trans g1
  refine ⟨c, e1, ⟨k, e2, e3, e4, gu, e5⟩, fun q m => ?_⟩
  obtain ⟨La, Pa, c2, cf, kk, i, f, h1, h2, -, -, -, -, h7⟩ := hf q m
  cases e1.symm.trans h1
  exact ⟨La, Pa, by rw [show Jvm.RoadKit.slotOf A.Z q.1 q.2.1 q.2.2.1 = f.slot by simp [Jvm.RoadKit.slotOf, h2]]; exact h7⟩
theorem ark_start {A : Ax} {a : Addr} {ty : FieldType} {ad : String} {vs : List Value} (E : Exa A.Z A.Z.heap a ad) (h : ∃ c : Cell, A.Z.heap[a]? = some c ∧ ArrP A ty vs c) : ∃ c : Cell, A.Z.heap[a]? = some c ∧ ArkP A ty ad vs c := by
  obtain ⟨c, e, p⟩ := h
  obtain ⟨c1, k, e1, e2, e3, e4, e5⟩ := E
  cases e.symm.trans e1
  exact ⟨c, e, p, k, e2, e3, e4, p.2.1, e5⟩
theorem allG_cons {h : Heap} {q : Ent} {G : List Ent} (h1 : ∃ c : Cell, h[q.1]? = some c ∧ q.2 c) (h2 : ∀ r ∈ G, ∃ c : Cell, h[r.1]? = some c ∧ r.2 c) : ∀ r ∈ q :: G, ∃ c : Cell, h[r.1]? = some c ∧ r.2 c := fun r m => by
  rcases List.mem_cons.mp m with rfl | m
  · exact h1
  · exact h2 r m
theorem allG_nil {h : Heap} : ∀ r ∈ ([] : List Ent), ∃ c : Cell, h[r.1]? = some c ∧ r.2 c := fun _ m => nomatch m
theorem fs_cons {P : String × String × String × Value → Prop} {q : String × String × String × Value} {fs : List (String × String × String × Value)} (h1 : P q) (h2 : ∀ r ∈ fs, P r) : ∀ r ∈ q :: fs, P r := fun r m => by
  rcases List.mem_cons.mp m with rfl | m
  · exact h1
  · exact h2 r m
theorem fs_nil {P : String × String × String × Value → Prop} : ∀ r ∈ ([] : List (String × String × String × Value)), P r := fun _ m => nomatch m
/-! own_11: a literal that is not read; instanceof that says no -/
theorem own_no {Z : State} {a0 : Array Value} {C S K : String} {n : Nat} (w : (Cond.superclass C S).before a0 Z = true) (w0 : (Cond.noSuperclass S).before a0 Z = true) (wk : (Cond.instantiable K n).before a0 Z = true) (n1 : C ≠ K) (n2 : S ≠ K) : ∃ c t, Z.vm.findClass C = some c ∧ Z.vm.findClass K = some t ∧ Z.vm.assignable c t = false := by
  obtain ⟨cs, ks, a1, a2, a3, -, -⟩ := Cond.noSuperclass_spec w0
  obtain ⟨t, kt, b1, b2, b3, b4, -⟩ := Cond.instantiable_spec wk
  obtain ⟨c, hc⟩ := found_sup w
  obtain ⟨p, k, kp, h1, h2, h3, h4, h5, -, h7⟩ := Cond.superclass_spec hc w
  cases a1.symm.trans h1
  have hni : kt.isInterface = false := by
    cases hq : kt.isInterface
    · rfl
    · rw [hq] at b4; simp at b4
  have ne := ids_ne hc b1 n1
  have ne2 := ids_ne a1 b1 n2
  have sub : ∀ f, Z.vm.isSubclassAux f c t = false := fun f => by
    cases f with
    | zero => rfl
    | succ f =>
      cases f with
      | zero => simp [Vm.isSubclassAux, ne, h2, h4]
      | succ f => simp [Vm.isSubclassAux, ne, ne2, h2, h4, a2, a3]
  refine ⟨c, t, hc, b1, ?_⟩
  show Z.vm.assignableAux (255 + 1) c t = false
  simp [Vm.assignableAux, ne, h2, b2, h5, b3, hni, Vm.isSubclass, sub]
section Own
variable {A : Ax} {B : Bx} {D : Dx} {Q : Pst} {pc pc' : Nat} {L L' : List Slot} {S S' rest : List Value} {F F' G G' : List Ent} {cells slots : Nat} {tb : List In1}
theorem Go.ldcO (hd : Dec B.bytes tb) (i : Nat) {ix n : Nat} {text : String} (hi : tb[i]? = some (pc, .ldc ix, 2)) (w : (Cond.stringLink B.y.cls ix text).before A.a0 A.Z = true) (wS : ∀ a ∈ Bundle.stringAtoms, a.before A.a0 A.Z = true) (hwm : A.wm = true)
    (hn : 4 * text.toList.length ≤ n) (hbig : n ≤ 536870912) (hc : cells + 2 ≤ B.rm.cells) (hl : slots + (n + 4) ≤ B.rm.slots)
    (k : ∀ a : Addr, Go A B D Q (pc + 2) L (.ref a :: S) F G (cells + 2) (slots + (n + 4))) : Go A B D Q pc L S F G cells slots := fun hb T hT => by
  obtain ⟨vm0, k0, locs, X, hZ, hown, hS, hk, N, Ch, H⟩ := hT
  obtain ⟨a, T', h', k1, X', e', E, hS', hk', hZ', hown', C', -, st⟩ := ldcOH X hb.1 hZ hown w wS rfl hS hk hb.2.2.2.2.2.2 Ch.1 (g := mkF D.m pc L.toArray S) rfl (own_dec hd hb hi) hn hbig hc hl
  subst e'
  obtain ⟨s₂, o, st', r⟩ := k a hb T' ⟨T'.vm, k1, locs, X', hZ', hown', hS', hk', ⟨N.1, fun z => by rw [hwm] at z; cases z⟩, Ch.trans C', H.later C' E⟩
  exact ⟨s₂, o, st _ st', r⟩
theorem Go.instNull (hd : Dec B.bytes tb) (i : Nat) {ix : Nat} (hi : tb[i]? = some (pc, .instanceof ix, 3)) (k : Go A B D Q (pc + 3) L (.int 0 :: rest) F G cells slots) : Go A B D Q pc L (.null :: rest) F G cells slots :=
  Go.stay (fun hb T vm0 locs X hZ hown H => ⟨T, X, rfl, fun target st => Jvm.Stand.instanceofNull X hb.1 (g := mkF D.m pc L.toArray (.null :: rest)) rfl rfl (own_dec hd hb hi) target st⟩) k
theorem Go.instNo (hd : Dec B.bytes tb) (i : Nat) {ix : Nat} {a : Addr} {C K : String} {P : Cell → Prop} (hi : tb[i]? = some (pc, .instanceof ix, 3)) (w : (Cond.classLink B.y.cls ix K).before A.a0 A.Z = true) (m : (a, P) ∈ F ∨ (a, P) ∈ G) (hP : ∀ c, P c → ClP A.Z C c) (hno : ∃ c t, A.Z.vm.findClass C = some c ∧ A.Z.vm.findClass K = some t ∧ A.Z.vm.assignable c t = false)
    (k : Go A B D Q (pc + 3) L (.int 0 :: rest) F G cells slots) : Go A B D Q pc L (.ref a :: rest) F G cells slots :=
  Go.stay (fun hb T vm0 locs X hZ hown H => by
    obtain ⟨c, e, p⟩ := H.at m
    obtain ⟨T', X', e', st⟩ := Jvm.RoadKit.instNo X hb.1 hZ hown w rfl ((hP c p).exa e) hno (g := mkF D.m pc L.toArray (.ref a :: rest)) rfl rfl (own_dec hd hb hi)
    exact ⟨T', X', e', st⟩) k
end Own
/-- a String of these chars, by either way of storing them -/
def StrR (A : Ax) (G : List Ent) (a : Addr) (cs : List Int32) : Prop := ∃ b, (Lat cs ∧ StrE A a b 0 ∈ G ∧ BytE A b (latB cs) ∈ G) ∨ ((Chrs cs ∧ ¬ Lat cs) ∧ StrE A a b 1 ∈ G ∧ BytE A b (utfB cs) ∈ G)
theorem StrR.sub {A : Ax} {G G' : List Ent} {a : Addr} {cs : List Int32} (h : StrR A G a cs) (s : ∀ q ∈ G, q ∈ G') : StrR A G' a cs := by
  obtain ⟨b, ⟨h1, h2, h3⟩ | ⟨h1, h2, h3⟩⟩ := h
  · exact ⟨b, Or.inl ⟨h1, s _ h2, s _ h3⟩⟩
  · exact ⟨b, Or.inr ⟨h1, s _ h2, s _ h3⟩⟩
theorem StrR.cons {A : Ax} {G : List Ent} {a : Addr} {cs : List Int32} {q : Ent} (h : StrR A G a cs) : StrR A (q :: G) a cs := h.sub fun _ m => List.mem_cons_of_mem _ m
theorem StrR.obj {A : Ax} {G : List Ent} {a : Addr} {cs : List Int32} (h : StrR A G a cs) : ∃ b cd, StrE A a b cd ∈ G := by
  obtain ⟨b, ⟨-, h2, -⟩ | ⟨-, h2, -⟩⟩ := h
  · exact ⟨b, 0, h2⟩
  · exact ⟨b, 1, h2⟩
theorem StrR.chrs {A : Ax} {G : List Ent} {a : Addr} {cs : List Int32} (h : StrR A G a cs) : Chrs cs := by
  obtain ⟨b, ⟨h1, -⟩ | ⟨h1, -⟩⟩ := h
  · exact h1.chrs
  · exact h1.1
theorem MetW.weak {ws : List Cond} {A : Ax} {B : Bx} {as' : Array Value} {F G : List Ent} {Q Q' : Pst} (h : MetW ws A B as' F G Q) (hq : ∀ v F' G', Q v F' G' → Q' v F' G') : MetW ws A B as' F G Q' := fun p e a b c s m args below hf hap hP hK => by
  obtain ⟨n, o, h1, h2, h3, v, L, F', G', r1, r2, r⟩ := h p e a b c s m args below hf hap hP hK
  exact ⟨n, o, h1, h2, h3, v, L, F', G', r1, hq _ _ _ r2, r⟩

--CUT
def Wd (A : Ax) : Prop := (∀ d ∈ tables_1, d.before A.a0 A.Z = true) ∧ (EW A.Z A.a0 A.EL) ∧ (A.EL = []) ∧ (A.wm = false)
theorem Wd.tab {A : Ax} (K : Wd A) : ∀ d ∈ tables_1, d.before A.a0 A.Z = true := K.1
theorem Wd.ew {A : Ax} (K : Wd A) : EW A.Z A.a0 A.EL := K.2.1
theorem Wd.el {A : Ax} (K : Wd A) : A.EL = [] := K.2.2.1
theorem Wd.wm {A : Ax} (K : Wd A) : A.wm = false := K.2.2.2
theorem w_0 {A : Ax} (K : Wd A) : (Jvm.Cond.classLink "com/example/callweave/callweave/analysis/SparseBitsCardinalityPinLaw" (7 : Nat) "com/example/callweave/callweave/analysis/SparseBits").before A.a0 A.Z = true   := K.tab _ (List.mem_of_getElem? (i := 0) rfl)
theorem w_1 {A : Ax} (K : Wd A) : (Jvm.Cond.instantiable "com/example/callweave/callweave/analysis/SparseBits" (3 : Nat)).before A.a0 A.Z = true   := K.tab _ (List.mem_of_getElem? (i := 1) rfl)
theorem w_2 {A : Ax} (K : Wd A) : (Jvm.Cond.initialized "com/example/callweave/callweave/analysis/SparseBits").before A.a0 A.Z = true   := K.tab _ (List.mem_of_getElem? (i := 2) rfl)
theorem w_3 {A : Ax} (K : Wd A) : (Jvm.Cond.methodLink "com/example/callweave/callweave/analysis/SparseBitsCardinalityPinLaw" (9 : Nat) ({ cls := "com/example/callweave/callweave/analysis/SparseBits", name := "<init>", desc := "()V" } : Jvm.MethodName)).before A.a0 A.Z = true   := K.tab _ (List.mem_of_getElem? (i := 3) rfl)
theorem w_4 {A : Ax} (K : Wd A) : (Jvm.Cond.instanceMethod ({ cls := "com/example/callweave/callweave/analysis/SparseBits", name := "<init>", desc := "()V" } : Jvm.MethodName)).before A.a0 A.Z = true   := K.tab _ (List.mem_of_getElem? (i := 4) rfl)
theorem w_5 {A : Ax} (K : Wd A) : (Jvm.Cond.code ({ cls := "com/example/callweave/callweave/analysis/SparseBits", name := "<init>", desc := "()V" } : Jvm.MethodName) prog_1_method_1_code (1 : Nat) (Option.none : Option Jvm.ClassFile.FieldType)).before A.a0 A.Z = true   := K.tab _ (List.mem_of_getElem? (i := 5) rfl)
theorem w_6 {A : Ax} (K : Wd A) : (Jvm.Cond.methodLink "com/example/callweave/callweave/analysis/SparseBits" (1 : Nat) ({ cls := "java/lang/Object", name := "<init>", desc := "()V" } : Jvm.MethodName)).before A.a0 A.Z = true   := K.tab _ (List.mem_of_getElem? (i := 6) rfl)
theorem w_7 {A : Ax} (K : Wd A) : (Jvm.Cond.instanceMethod ({ cls := "java/lang/Object", name := "<init>", desc := "()V" } : Jvm.MethodName)).before A.a0 A.Z = true   := K.tab _ (List.mem_of_getElem? (i := 7) rfl)
theorem w_8 {A : Ax} (K : Wd A) : (Jvm.Cond.code ({ cls := "java/lang/Object", name := "<init>", desc := "()V" } : Jvm.MethodName) object_method_1_code (1 : Nat) (Option.none : Option Jvm.ClassFile.FieldType)).before A.a0 A.Z = true   := K.tab _ (List.mem_of_getElem? (i := 8) rfl)
theorem w_9 {A : Ax} (K : Wd A) : (Jvm.Cond.arrayClass Jvm.ClassFile.FieldType.int).before A.a0 A.Z = true   := K.tab _ (List.mem_of_getElem? (i := 9) rfl)
theorem w_10 {A : Ax} (K : Wd A) : (Jvm.Cond.fieldLink "com/example/callweave/callweave/analysis/SparseBits" (7 : Nat) "com/example/callweave/callweave/analysis/SparseBits" "indexes" "[I").before A.a0 A.Z = true   := K.tab _ (List.mem_of_getElem? (i := 10) rfl)
theorem w_11 {A : Ax} (K : Wd A) : (Jvm.Cond.lays "com/example/callweave/callweave/analysis/SparseBits" "com/example/callweave/callweave/analysis/SparseBits" "indexes" "[I").before A.a0 A.Z = true   := K.tab _ (List.mem_of_getElem? (i := 11) rfl)
theorem w_12 {A : Ax} (K : Wd A) : (Jvm.Cond.arrayClass Jvm.ClassFile.FieldType.long).before A.a0 A.Z = true   := K.tab _ (List.mem_of_getElem? (i := 12) rfl)
theorem w_13 {A : Ax} (K : Wd A) : (Jvm.Cond.fieldLink "com/example/callweave/callweave/analysis/SparseBits" (13 : Nat) "com/example/callweave/callweave/analysis/SparseBits" "words" "[J").before A.a0 A.Z = true   := K.tab _ (List.mem_of_getElem? (i := 13) rfl)
theorem w_14 {A : Ax} (K : Wd A) : (Jvm.Cond.lays "com/example/callweave/callweave/analysis/SparseBits" "com/example/callweave/callweave/analysis/SparseBits" "words" "[J").before A.a0 A.Z = true   := K.tab _ (List.mem_of_getElem? (i := 14) rfl)
theorem w_15 {A : Ax} (K : Wd A) : (Jvm.Cond.methodLink "com/example/callweave/callweave/analysis/SparseBitsCardinalityPinLaw" (10 : Nat) ({ cls := "com/example/callweave/callweave/analysis/SparseBits", name := "cardinality", desc := "()I" } : Jvm.MethodName)).before A.a0 A.Z = true   := K.tab _ (List.mem_of_getElem? (i := 15) rfl)
theorem w_16 {A : Ax} (K : Wd A) : (Jvm.Cond.declares ({ cls := "com/example/callweave/callweave/analysis/SparseBits", name := "cardinality", desc := "()I" } : Jvm.MethodName)).before A.a0 A.Z = true   := K.tab _ (List.mem_of_getElem? (i := 16) rfl)
theorem w_17 {A : Ax} (K : Wd A) : (Jvm.Cond.instanceMethod ({ cls := "com/example/callweave/callweave/analysis/SparseBits", name := "cardinality", desc := "()I" } : Jvm.MethodName)).before A.a0 A.Z = true   := K.tab _ (List.mem_of_getElem? (i := 17) rfl)
theorem w_18 {A : Ax} (K : Wd A) : (Jvm.Cond.selects "com/example/callweave/callweave/analysis/SparseBits" ({ cls := "com/example/callweave/callweave/analysis/SparseBits", name := "cardinality", desc := "()I" } : Jvm.MethodName) ({ cls := "com/example/callweave/callweave/analysis/SparseBits", name := "cardinality", desc := "()I" } : Jvm.MethodName)).before A.a0 A.Z = true   := K.tab _ (List.mem_of_getElem? (i := 18) rfl)
theorem w_19 {A : Ax} (K : Wd A) : (Jvm.Cond.code ({ cls := "com/example/callweave/callweave/analysis/SparseBits", name := "cardinality", desc := "()I" } : Jvm.MethodName) prog_1_method_10_code (3 : Nat) (Option.some Jvm.ClassFile.FieldType.int)).before A.a0 A.Z = true   := K.tab _ (List.mem_of_getElem? (i := 19) rfl)
theorem w_20 {A : Ax} (K : Wd A) : (Jvm.Cond.fieldLink "com/example/callweave/callweave/analysis/SparseBits" (22 : Nat) "com/example/callweave/callweave/analysis/SparseBits" "count" "I").before A.a0 A.Z = true   := K.tab _ (List.mem_of_getElem? (i := 20) rfl)
theorem w_21 {A : Ax} (K : Wd A) : (Jvm.Cond.lays "com/example/callweave/callweave/analysis/SparseBits" "com/example/callweave/callweave/analysis/SparseBits" "count" "I").before A.a0 A.Z = true   := K.tab _ (List.mem_of_getElem? (i := 21) rfl)
theorem w_22 {A : Ax} (K : Wd A) : (Jvm.Cond.methodLink "com/example/callweave/callweave/analysis/SparseBitsCardinalityPinLaw" (14 : Nat) ({ cls := "com/example/callweave/callweave/analysis/SparseBits", name := "add", desc := "(I)Z" } : Jvm.MethodName)).before A.a0 A.Z = true   := K.tab _ (List.mem_of_getElem? (i := 22) rfl)
theorem w_23 {A : Ax} (K : Wd A) : (Jvm.Cond.declares ({ cls := "com/example/callweave/callweave/analysis/SparseBits", name := "add", desc := "(I)Z" } : Jvm.MethodName)).before A.a0 A.Z = true   := K.tab _ (List.mem_of_getElem? (i := 23) rfl)
theorem w_24 {A : Ax} (K : Wd A) : (Jvm.Cond.instanceMethod ({ cls := "com/example/callweave/callweave/analysis/SparseBits", name := "add", desc := "(I)Z" } : Jvm.MethodName)).before A.a0 A.Z = true   := K.tab _ (List.mem_of_getElem? (i := 24) rfl)
theorem w_25 {A : Ax} (K : Wd A) : (Jvm.Cond.selects "com/example/callweave/callweave/analysis/SparseBits" ({ cls := "com/example/callweave/callweave/analysis/SparseBits", name := "add", desc := "(I)Z" } : Jvm.MethodName) ({ cls := "com/example/callweave/callweave/analysis/SparseBits", name := "add", desc := "(I)Z" } : Jvm.MethodName)).before A.a0 A.Z = true   := K.tab _ (List.mem_of_getElem? (i := 25) rfl)
theorem w_26 {A : Ax} (K : Wd A) : (Jvm.Cond.code ({ cls := "com/example/callweave/callweave/analysis/SparseBits", name := "add", desc := "(I)Z" } : Jvm.MethodName) prog_1_method_6_code (2 : Nat) (Option.some Jvm.ClassFile.FieldType.boolean)).before A.a0 A.Z = true   := K.tab _ (List.mem_of_getElem? (i := 26) rfl)
theorem w_27 {A : Ax} (K : Wd A) : (Jvm.Cond.methodLink "com/example/callweave/callweave/analysis/SparseBits" (26 : Nat) ({ cls := "com/example/callweave/callweave/analysis/SparseBits", name := "or", desc := "(IJ)J" } : Jvm.MethodName)).before A.a0 A.Z = true   := K.tab _ (List.mem_of_getElem? (i := 27) rfl)
theorem w_28 {A : Ax} (K : Wd A) : (Jvm.Cond.declares ({ cls := "com/example/callweave/callweave/analysis/SparseBits", name := "or", desc := "(IJ)J" } : Jvm.MethodName)).before A.a0 A.Z = true   := K.tab _ (List.mem_of_getElem? (i := 28) rfl)
theorem w_29 {A : Ax} (K : Wd A) : (Jvm.Cond.instanceMethod ({ cls := "com/example/callweave/callweave/analysis/SparseBits", name := "or", desc := "(IJ)J" } : Jvm.MethodName)).before A.a0 A.Z = true   := K.tab _ (List.mem_of_getElem? (i := 29) rfl)
theorem w_30 {A : Ax} (K : Wd A) : (Jvm.Cond.selects "com/example/callweave/callweave/analysis/SparseBits" ({ cls := "com/example/callweave/callweave/analysis/SparseBits", name := "or", desc := "(IJ)J" } : Jvm.MethodName) ({ cls := "com/example/callweave/callweave/analysis/SparseBits", name := "or", desc := "(IJ)J" } : Jvm.MethodName)).before A.a0 A.Z = true   := K.tab _ (List.mem_of_getElem? (i := 30) rfl)
theorem w_31 {A : Ax} (K : Wd A) : (Jvm.Cond.code ({ cls := "com/example/callweave/callweave/analysis/SparseBits", name := "or", desc := "(IJ)J" } : Jvm.MethodName) prog_1_method_7_code (5 : Nat) (Option.some Jvm.ClassFile.FieldType.long)).before A.a0 A.Z = true   := K.tab _ (List.mem_of_getElem? (i := 31) rfl)
theorem w_32 {A : Ax} (K : Wd A) : (Jvm.Cond.methodLink "com/example/callweave/callweave/analysis/SparseBits" (30 : Nat) ({ cls := "com/example/callweave/callweave/analysis/SparseBits", name := "seek", desc := "(II)I" } : Jvm.MethodName)).before A.a0 A.Z = true   := K.tab _ (List.mem_of_getElem? (i := 32) rfl)
theorem w_33 {A : Ax} (K : Wd A) : (Jvm.Cond.declares ({ cls := "com/example/callweave/callweave/analysis/SparseBits", name := "seek", desc := "(II)I" } : Jvm.MethodName)).before A.a0 A.Z = true   := K.tab _ (List.mem_of_getElem? (i := 33) rfl)
theorem w_34 {A : Ax} (K : Wd A) : (Jvm.Cond.instanceMethod ({ cls := "com/example/callweave/callweave/analysis/SparseBits", name := "seek", desc := "(II)I" } : Jvm.MethodName)).before A.a0 A.Z = true   := K.tab _ (List.mem_of_getElem? (i := 34) rfl)
theorem w_35 {A : Ax} (K : Wd A) : (Jvm.Cond.selects "com/example/callweave/callweave/analysis/SparseBits" ({ cls := "com/example/callweave/callweave/analysis/SparseBits", name := "seek", desc := "(II)I" } : Jvm.MethodName) ({ cls := "com/example/callweave/callweave/analysis/SparseBits", name := "seek", desc := "(II)I" } : Jvm.MethodName)).before A.a0 A.Z = true   := K.tab _ (List.mem_of_getElem? (i := 35) rfl)
theorem w_36 {A : Ax} (K : Wd A) : (Jvm.Cond.code ({ cls := "com/example/callweave/callweave/analysis/SparseBits", name := "seek", desc := "(II)I" } : Jvm.MethodName) prog_1_method_8_code (7 : Nat) (Option.some Jvm.ClassFile.FieldType.int)).before A.a0 A.Z = true   := K.tab _ (List.mem_of_getElem? (i := 36) rfl)
theorem w_37 {A : Ax} (K : Wd A) : (Jvm.Cond.methodLink "com/example/callweave/callweave/analysis/SparseBits" (38 : Nat) ({ cls := "java/lang/Math", name := "min", desc := "(II)I" } : Jvm.MethodName)).before A.a0 A.Z = true   := K.tab _ (List.mem_of_getElem? (i := 37) rfl)
theorem w_38 {A : Ax} (K : Wd A) : (Jvm.Cond.static ({ cls := "java/lang/Math", name := "min", desc := "(II)I" } : Jvm.MethodName)).before A.a0 A.Z = true   := K.tab _ (List.mem_of_getElem? (i := 38) rfl)
theorem w_39 {A : Ax} (K : Wd A) : (Jvm.Cond.initialized "java/lang/Math").before A.a0 A.Z = true   := K.tab _ (List.mem_of_getElem? (i := 39) rfl)
theorem w_40 {A : Ax} (K : Wd A) : (Jvm.Cond.code ({ cls := "java/lang/Math", name := "min", desc := "(II)I" } : Jvm.MethodName) jdk_29_method_69_code (2 : Nat) (Option.some Jvm.ClassFile.FieldType.int)).before A.a0 A.Z = true   := K.tab _ (List.mem_of_getElem? (i := 40) rfl)
theorem w_41 {A : Ax} (K : Wd A) : (Jvm.Cond.methodLink "com/example/callweave/callweave/analysis/SparseBits" (43 : Nat) ({ cls := "java/util/Arrays", name := "binarySearch", desc := "([IIII)I" } : Jvm.MethodName)).before A.a0 A.Z = true   := K.tab _ (List.mem_of_getElem? (i := 41) rfl)
theorem w_42 {A : Ax} (K : Wd A) : (Jvm.Cond.static ({ cls := "java/util/Arrays", name := "binarySearch", desc := "([IIII)I" } : Jvm.MethodName)).before A.a0 A.Z = true   := K.tab _ (List.mem_of_getElem? (i := 42) rfl)
theorem w_43 {A : Ax} (K : Wd A) : (Jvm.Cond.initialized "java/util/Arrays").before A.a0 A.Z = true   := K.tab _ (List.mem_of_getElem? (i := 43) rfl)
theorem w_44 {A : Ax} (K : Wd A) : (Jvm.Cond.code ({ cls := "java/util/Arrays", name := "binarySearch", desc := "([IIII)I" } : Jvm.MethodName) jdk_65_method_58_code (4 : Nat) (Option.some Jvm.ClassFile.FieldType.int)).before A.a0 A.Z = true   := K.tab _ (List.mem_of_getElem? (i := 44) rfl)
theorem w_45 {A : Ax} (K : Wd A) : (Jvm.Cond.methodLink "java/util/Arrays" (13 : Nat) ({ cls := "java/util/Arrays", name := "rangeCheck", desc := "(III)V" } : Jvm.MethodName)).before A.a0 A.Z = true   := K.tab _ (List.mem_of_getElem? (i := 45) rfl)
theorem w_46 {A : Ax} (K : Wd A) : (Jvm.Cond.static ({ cls := "java/util/Arrays", name := "rangeCheck", desc := "(III)V" } : Jvm.MethodName)).before A.a0 A.Z = true   := K.tab _ (List.mem_of_getElem? (i := 46) rfl)
theorem w_47 {A : Ax} (K : Wd A) : (Jvm.Cond.code ({ cls := "java/util/Arrays", name := "rangeCheck", desc := "(III)V" } : Jvm.MethodName) jdk_65_method_30_code (3 : Nat) (Option.none : Option Jvm.ClassFile.FieldType)).before A.a0 A.Z = true   := K.tab _ (List.mem_of_getElem? (i := 47) rfl)
theorem w_48 {A : Ax} (K : Wd A) : (Jvm.Cond.methodLink "java/util/Arrays" (209 : Nat) ({ cls := "java/util/Arrays", name := "binarySearch0", desc := "([IIII)I" } : Jvm.MethodName)).before A.a0 A.Z = true   := K.tab _ (List.mem_of_getElem? (i := 48) rfl)
theorem w_49 {A : Ax} (K : Wd A) : (Jvm.Cond.static ({ cls := "java/util/Arrays", name := "binarySearch0", desc := "([IIII)I" } : Jvm.MethodName)).before A.a0 A.Z = true   := K.tab _ (List.mem_of_getElem? (i := 49) rfl)
theorem w_50 {A : Ax} (K : Wd A) : (Jvm.Cond.code ({ cls := "java/util/Arrays", name := "binarySearch0", desc := "([IIII)I" } : Jvm.MethodName) jdk_65_method_59_code (8 : Nat) (Option.some Jvm.ClassFile.FieldType.int)).before A.a0 A.Z = true   := K.tab _ (List.mem_of_getElem? (i := 50) rfl)
theorem w_51 {A : Ax} (K : Wd A) : (Jvm.Cond.methodLink "com/example/callweave/callweave/analysis/SparseBits" (34 : Nat) ({ cls := "com/example/callweave/callweave/analysis/SparseBits", name := "orAt", desc := "(IIJ)J" } : Jvm.MethodName)).before A.a0 A.Z = true   := K.tab _ (List.mem_of_getElem? (i := 51) rfl)
theorem w_52 {A : Ax} (K : Wd A) : (Jvm.Cond.declares ({ cls := "com/example/callweave/callweave/analysis/SparseBits", name := "orAt", desc := "(IIJ)J" } : Jvm.MethodName)).before A.a0 A.Z = true   := K.tab _ (List.mem_of_getElem? (i := 52) rfl)
theorem w_53 {A : Ax} (K : Wd A) : (Jvm.Cond.instanceMethod ({ cls := "com/example/callweave/callweave/analysis/SparseBits", name := "orAt", desc := "(IIJ)J" } : Jvm.MethodName)).before A.a0 A.Z = true   := K.tab _ (List.mem_of_getElem? (i := 53) rfl)
theorem w_54 {A : Ax} (K : Wd A) : (Jvm.Cond.selects "com/example/callweave/callweave/analysis/SparseBits" ({ cls := "com/example/callweave/callweave/analysis/SparseBits", name := "orAt", desc := "(IIJ)J" } : Jvm.MethodName) ({ cls := "com/example/callweave/callweave/analysis/SparseBits", name := "orAt", desc := "(IIJ)J" } : Jvm.MethodName)).before A.a0 A.Z = true   := K.tab _ (List.mem_of_getElem? (i := 54) rfl)
theorem w_55 {A : Ax} (K : Wd A) : (Jvm.Cond.code ({ cls := "com/example/callweave/callweave/analysis/SparseBits", name := "orAt", desc := "(IIJ)J" } : Jvm.MethodName) prog_1_method_9_code (7 : Nat) (Option.some Jvm.ClassFile.FieldType.long)).before A.a0 A.Z = true   := K.tab _ (List.mem_of_getElem? (i := 55) rfl)
theorem w_56 {A : Ax} (K : Wd A) : (Jvm.Cond.methodLink "com/example/callweave/callweave/analysis/SparseBits" (56 : Nat) ({ cls := "java/lang/System", name := "arraycopy", desc := "(Ljava/lang/Object;ILjava/lang/Object;II)V" } : Jvm.MethodName)).before A.a0 A.Z = true   := K.tab _ (List.mem_of_getElem? (i := 56) rfl)
theorem w_57 {A : Ax} (K : Wd A) : (Jvm.Cond.static ({ cls := "java/lang/System", name := "arraycopy", desc := "(Ljava/lang/Object;ILjava/lang/Object;II)V" } : Jvm.MethodName)).before A.a0 A.Z = true   := K.tab _ (List.mem_of_getElem? (i := 57) rfl)
theorem w_58 {A : Ax} (K : Wd A) : (Jvm.Cond.initialized "java/lang/System").before A.a0 A.Z = true   := K.tab _ (List.mem_of_getElem? (i := 58) rfl)
theorem w_59 {A : Ax} (K : Wd A) : (Jvm.Cond.native ({ cls := "java/lang/System", name := "arraycopy", desc := "(Ljava/lang/Object;ILjava/lang/Object;II)V" } : Jvm.MethodName)).before A.a0 A.Z = true   := K.tab _ (List.mem_of_getElem? (i := 59) rfl)
theorem w_60 {A : Ax} (K : Wd A) : (Jvm.Cond.constantLong "com/example/callweave/callweave/analysis/SparseBits" (62 : Nat) (-1 : Int64)).before A.a0 A.Z = true   := K.tab _ (List.mem_of_getElem? (i := 60) rfl)
theorem w_61 {A : Ax} (K : Wd A) : (Jvm.Cond.methodLink "com/example/callweave/callweave/analysis/SparseBits" (64 : Nat) ({ cls := "java/lang/Long", name := "bitCount", desc := "(J)I" } : Jvm.MethodName)).before A.a0 A.Z = true   := K.tab _ (List.mem_of_getElem? (i := 61) rfl)
theorem w_62 {A : Ax} (K : Wd A) : (Jvm.Cond.static ({ cls := "java/lang/Long", name := "bitCount", desc := "(J)I" } : Jvm.MethodName)).before A.a0 A.Z = true   := K.tab _ (List.mem_of_getElem? (i := 62) rfl)
theorem w_63 {A : Ax} (K : Wd A) : (Jvm.Cond.initialized "java/lang/Long").before A.a0 A.Z = true   := K.tab _ (List.mem_of_getElem? (i := 63) rfl)
theorem w_64 {A : Ax} (K : Wd A) : (Jvm.Cond.code ({ cls := "java/lang/Long", name := "bitCount", desc := "(J)I" } : Jvm.MethodName) jdk_35_method_50_code (2 : Nat) (Option.some Jvm.ClassFile.FieldType.int)).before A.a0 A.Z = true   := K.tab _ (List.mem_of_getElem? (i := 64) rfl)
theorem w_65 {A : Ax} (K : Wd A) : (Jvm.Cond.constantLong "java/lang/Long" (314 : Nat) (6148914691236517205 : Int64)).before A.a0 A.Z = true   := K.tab _ (List.mem_of_getElem? (i := 65) rfl)
theorem w_66 {A : Ax} (K : Wd A) : (Jvm.Cond.constantLong "java/lang/Long" (316 : Nat) (3689348814741910323 : Int64)).before A.a0 A.Z = true   := K.tab _ (List.mem_of_getElem? (i := 66) rfl)
theorem w_67 {A : Ax} (K : Wd A) : (Jvm.Cond.constantLong "java/lang/Long" (318 : Nat) (1085102592571150095 : Int64)).before A.a0 A.Z = true   := K.tab _ (List.mem_of_getElem? (i := 67) rfl)
theorem w_68 {A : Ax} (K : Wd A) : (Jvm.Cond.methodLink "com/example/callweave/callweave/analysis/SparseBits" (49 : Nat) ({ cls := "java/util/Arrays", name := "copyOf", desc := "([II)[I" } : Jvm.MethodName)).before A.a0 A.Z = true   := K.tab _ (List.mem_of_getElem? (i := 68) rfl)
theorem w_69 {A : Ax} (K : Wd A) : (Jvm.Cond.static ({ cls := "java/util/Arrays", name := "copyOf", desc := "([II)[I" } : Jvm.MethodName)).before A.a0 A.Z = true   := K.tab _ (List.mem_of_getElem? (i := 69) rfl)
theorem w_70 {A : Ax} (K : Wd A) : (Jvm.Cond.code ({ cls := "java/util/Arrays", name := "copyOf", desc := "([II)[I" } : Jvm.MethodName) jdk_65_method_123_code (3 : Nat) (Option.some (Jvm.ClassFile.FieldType.array Jvm.ClassFile.FieldType.int))).before A.a0 A.Z = true   := K.tab _ (List.mem_of_getElem? (i := 70) rfl)
theorem w_71 {A : Ax} (K : Wd A) : (Jvm.Cond.methodLink "java/util/Arrays" (304 : Nat) ({ cls := "java/lang/Math", name := "min", desc := "(II)I" } : Jvm.MethodName)).before A.a0 A.Z = true   := K.tab _ (List.mem_of_getElem? (i := 71) rfl)
theorem w_72 {A : Ax} (K : Wd A) : (Jvm.Cond.methodLink "java/util/Arrays" (150 : Nat) ({ cls := "java/lang/System", name := "arraycopy", desc := "(Ljava/lang/Object;ILjava/lang/Object;II)V" } : Jvm.MethodName)).before A.a0 A.Z = true   := K.tab _ (List.mem_of_getElem? (i := 72) rfl)
theorem w_73 {A : Ax} (K : Wd A) : (Jvm.Cond.methodLink "com/example/callweave/callweave/analysis/SparseBits" (53 : Nat) ({ cls := "java/util/Arrays", name := "copyOf", desc := "([JI)[J" } : Jvm.MethodName)).before A.a0 A.Z = true   := K.tab _ (List.mem_of_getElem? (i := 73) rfl)
theorem w_74 {A : Ax} (K : Wd A) : (Jvm.Cond.static ({ cls := "java/util/Arrays", name := "copyOf", desc := "([JI)[J" } : Jvm.MethodName)).before A.a0 A.Z = true   := K.tab _ (List.mem_of_getElem? (i := 74) rfl)
theorem w_75 {A : Ax} (K : Wd A) : (Jvm.Cond.code ({ cls := "java/util/Arrays", name := "copyOf", desc := "([JI)[J" } : Jvm.MethodName) jdk_65_method_124_code (3 : Nat) (Option.some (Jvm.ClassFile.FieldType.array Jvm.ClassFile.FieldType.long))).before A.a0 A.Z = true   := K.tab _ (List.mem_of_getElem? (i := 75) rfl)
theorem nI_add1 (n : Nat) : nI n + 1 = nI (n + 1) := (nI_succ n).symm
theorem len_snoc2 (k : Nat) (d : List Int32) (c : Int32) : nI (k + (d ++ [c]).length) = nI (k + d.length) + 1 := by rw [List.length_append]; exact nI_succ _
theorem nI_sub {a b : Nat} (h : a + b < 2 ^ 31) : nI (a + b) - nI a = nI b := by
  rw [i32_eq]
  have h1 := c_isub (nI (a + b)) (nI a)
  rw [nI_toInt h, nI_toInt (by omega)] at h1
  have h2 := rng32 (nI (a + b) - nI a)
  rw [nI_toInt (by omega)]; omega
theorem nI_addn {a b : Nat} : nI a + nI b = nI (a + b) := by
  show Int32.ofNat a + Int32.ofNat b = Int32.ofNat (a + b)
  rw [Int32.ofNat_add]
theorem fits_chr {cs : List Int32} (h : Chrs cs) : FitsL .char (chV cs) := fun v m => by
  obtain ⟨c, hc, rfl⟩ := List.mem_map.mp m
  have := h c hc
  simp only [fits, Bool.and_eq_true, decide_eq_true_eq, i32_le]
  have e1 : (65535 : Int32).toInt = 65535 := by decide
  have e0 : (0 : Int32).toInt = 0 := by decide
  omega
theorem chrs_rep (n : Nat) : Chrs (List.replicate n 0) := fun c m => by rw [List.eq_of_mem_replicate m]; decide
theorem lat_rep (n : Nat) : Lat (List.replicate n 0) := fun c m => by rw [List.eq_of_mem_replicate m]; decide
theorem chV_rep (n : Nat) : List.replicate n (defaultValue .char) = chV (List.replicate n 0) := by
  show _ = List.map Value.int (List.replicate n 0)
  rw [List.map_replicate]; rfl
theorem chV_set (xs : List Int32) (n : Nat) (c : Int32) : (chV xs).set n (.int c) = chV (xs.set n c) := by
  show (List.map Value.int xs).set n (.int c) = List.map Value.int (xs.set n c)
  rw [List.map_set]
theorem chV_get {xs : List Int32} {n : Nat} {c : Int32} (h : xs[n]? = some c) : (chV xs)[n]? = some (.int c) := by
  show (List.map Value.int xs)[n]? = _
  rw [List.getElem?_map, h]; rfl
theorem chV_app (xs ys : List Int32) : chV (xs ++ ys) = chV xs ++ chV ys := List.map_append
theorem Chrs.app {xs ys : List Int32} (h1 : Chrs xs) (h2 : Chrs ys) : Chrs (xs ++ ys) := fun c m => (List.mem_append.mp m).elim (h1 c) (h2 c)
theorem Chrs.drop {xs : List Int32} (h : Chrs xs) (n : Nat) : Chrs (xs.drop n) := fun c m => h c (List.mem_of_mem_drop m)
theorem Chrs.take {xs : List Int32} (h : Chrs xs) (n : Nat) : Chrs (xs.take n) := fun c m => h c (List.mem_of_mem_take m)
theorem Chrs.set {xs : List Int32} (h : Chrs xs) {n : Nat} {c : Int32} (hc : 0 ≤ c.toInt ∧ c.toInt < 65536) : Chrs (xs.set n c) := fun x m => by
  rcases List.mem_or_eq_of_mem_set m with m | m
  · exact h x m
  · rw [m]; exact hc
/-! plain: Long.bitCount counts bits -/
def Dm (f : Nat → Nat) : Nat → Nat → Nat
  | 0, _ => 0
  | k + 1, X => f (X % 256) + 256 * Dm f k (X / 256)
def Mk (m : Nat) : Nat → Nat
  | 0 => 0
  | k + 1 => m + 256 * Mk m k
theorem and_split (x y : Nat) : x &&& y = ((x % 256) &&& (y % 256)) + 256 * ((x / 256) &&& (y / 256)) := by
  have h1 := Nat.and_mod_two_pow (a := x) (b := y) (n := 8)
  have h2 := Nat.and_div_two_pow (a := x) (b := y) (n := 8)
  have e : (2 : Nat) ^ 8 = 256 := rfl
  rw [e] at h1 h2
  rw [← h1, ← h2]; omega
def s1 (b : Nat) : Nat := b - ((b / 2) &&& 0x55)
def s2 (b : Nat) : Nat := (b &&& 0x33) + ((b / 4) &&& 0x33)
def s3 (b : Nat) : Nat := (b + b / 16) &&& 0x0f
set_option maxRecDepth 100000 in
theorem and_hi55 : ∀ b, b < 256 → ((b &&& 0x55) = ((b % 128) &&& 0x55)) := by decide +kernel
set_option maxRecDepth 100000 in
theorem and_hi33 : ∀ b, b < 256 → ((b &&& 0x33) = ((b % 64) &&& 0x33)) := by decide +kernel
theorem le55 (b : Nat) : b &&& 0x55 ≤ b := Nat.and_le_left
theorem Mk_mod {m : Nat} (hm : m < 256) (k : Nat) : Mk m (k + 1) % 256 = m ∧ Mk m (k + 1) / 256 = Mk m k := by
  show (m + 256 * Mk m k) % 256 = m ∧ (m + 256 * Mk m k) / 256 = Mk m k
  omega
theorem stage1 : ∀ (k X : Nat), X < 256 ^ k → X - ((X / 2) &&& Mk 0x55 k) = Dm s1 k X
  | 0, X, h => by
    have : X = 0 := by simpa using h
    subst this; rfl
  | k + 1, X, h => by
    have ih := stage1 k (X / 256) (by rw [Nat.pow_succ] at h; omega)
    have e := and_split (X / 2) (Mk 0x55 (k + 1))
    rw [(Mk_mod (by decide) k).1, (Mk_mod (by decide) k).2] at e
    have h1 : (X / 2) / 256 = (X / 256) / 2 := by omega
    have h2 := and_hi55 (X / 2 % 256) (by omega)
    have h3 := and_hi55 (X % 256 / 2) (by omega)
    have h4 : X / 2 % 256 % 128 = X % 256 / 2 % 128 := by omega
    rw [h1, h2, h4, ← h3] at e
    have l1 : (X % 256 / 2) &&& 0x55 ≤ X % 256 / 2 := Nat.and_le_left
    have l2 : (X / 256 / 2) &&& Mk 0x55 k ≤ X / 256 / 2 := Nat.and_le_left
    show _ = s1 (X % 256) + 256 * Dm s1 k (X / 256)
    rw [← ih, s1, e]
    omega
theorem stage2 : ∀ (k X : Nat), X < 256 ^ k → (X &&& Mk 0x33 k) + ((X / 4) &&& Mk 0x33 k) = Dm s2 k X
  | 0, X, h => by
    have : X = 0 := by simpa using h
    subst this; rfl
  | k + 1, X, h => by
    have ih := stage2 k (X / 256) (by rw [Nat.pow_succ] at h; omega)
    have e := and_split (X / 4) (Mk 0x33 (k + 1))
    have e' := and_split X (Mk 0x33 (k + 1))
    rw [(Mk_mod (by decide) k).1, (Mk_mod (by decide) k).2] at e e'
    have h1 : (X / 4) / 256 = (X / 256) / 4 := by omega
    have h2 := and_hi33 (X / 4 % 256) (by omega)
    have h3 := and_hi33 (X % 256 / 4) (by omega)
    have h4 : X / 4 % 256 % 64 = X % 256 / 4 % 64 := by omega
    rw [h1, h2, h4, ← h3] at e
    show _ = s2 (X % 256) + 256 * Dm s2 k (X / 256)
    rw [← ih, s2, e, e']
    omega
/-- every byte's two halves are at most 4 -/
def Sm : Nat → Nat → Prop
  | 0, _ => True
  | k + 1, X => X % 16 ≤ 4 ∧ X / 16 % 16 ≤ 4 ∧ Sm k (X / 256)
theorem and15 (b : Nat) : b &&& 15 = b % 16 := Nat.and_two_pow_sub_one_eq_mod b 4
theorem stage3 : ∀ (k X : Nat), X < 256 ^ k → Sm k X → (X + X / 16) &&& Mk 0x0f k = Dm s3 k X
  | 0, X, h, _ => by
    have : X = 0 := by simpa using h
    subst this; rfl
  | k + 1, X, h, hs => by
    have hlt : X / 256 < 256 ^ k := by rw [Nat.pow_succ] at h; omega
    have ih := stage3 k (X / 256) hlt hs.2.2
    have e := and_split (X + X / 16) (Mk 0x0f (k + 1))
    rw [(Mk_mod (by decide) k).1, (Mk_mod (by decide) k).2, and15] at e
    have s0 := hs.1; have s1' := hs.2.1
    have s2' : X / 256 % 16 ≤ 4 := by
      cases k with
      | zero => have : X / 256 = 0 := by simpa using hlt
                rw [this]; decide
      | succ k => exact hs.2.2.1
    have a1 : X / 16 = 16 * (X / 256) + X / 16 % 16 := by omega
    have a2 : X = 256 * (X / 256) + 16 * (X / 16 % 16) + X % 16 := by omega
    have a3 : X / 256 = 16 * (X / 256 / 16) + X / 256 % 16 := by omega
    have a4 : X + X / 16 = 256 * (X / 256 + X / 256 / 16) + (16 * (X / 16 % 16) + X % 16 + X / 16 % 16 + 16 * (X / 256 % 16)) := by omega
    have h1 : (X + X / 16) / 256 = X / 256 + X / 256 / 16 := by rw [a4]; omega
    have h2 : (X + X / 16) % 256 % 16 = (X % 256 + X % 256 / 16) % 16 := by omega
    show _ = s3 (X % 256) + 256 * Dm s3 k (X / 256)
    rw [← ih, s3, and15, e, h1, h2]
theorem Dm_lt {f : Nat → Nat} (hf : ∀ b, b < 256 → f b < 256) : ∀ (k X : Nat), Dm f k X < 256 ^ k
  | 0, _ => by simp [Dm]
  | k + 1, X => by
    have h1 := Dm_lt hf k (X / 256)
    have h2 := hf (X % 256) (by omega)
    show f (X % 256) + 256 * Dm f k (X / 256) < 256 ^ (k + 1)
    rw [Nat.pow_succ]; omega
theorem Dm_comp {f g : Nat → Nat} (hf : ∀ b, b < 256 → f b < 256) : ∀ (k X : Nat), Dm g k (Dm f k X) = Dm (fun b => g (f b)) k X
  | 0, _ => rfl
  | k + 1, X => by
    have h2 := hf (X % 256) (by omega)
    show g ((f (X % 256) + 256 * Dm f k (X / 256)) % 256) + 256 * Dm g k ((f (X % 256) + 256 * Dm f k (X / 256)) / 256) = g (f (X % 256)) + 256 * Dm (fun b => g (f b)) k (X / 256)
    rw [← Dm_comp hf k, show (f (X % 256) + 256 * Dm f k (X / 256)) % 256 = f (X % 256) by omega, show (f (X % 256) + 256 * Dm f k (X / 256)) / 256 = Dm f k (X / 256) by omega]
set_option maxRecDepth 100000 in
theorem s1_lt : ∀ b, b < 256 → s1 b < 256 := by decide +kernel
set_option maxRecDepth 100000 in
theorem s2s1_lt : ∀ b, b < 256 → s2 (s1 b) < 256 := by decide +kernel
set_option maxRecDepth 100000 in
theorem s2s1_sm : ∀ b, b < 256 → s2 (s1 b) % 16 ≤ 4 ∧ s2 (s1 b) / 16 ≤ 4 := by decide +kernel
theorem Sm_of {f : Nat → Nat} (hf : ∀ b, b < 256 → f b < 256) (hs : ∀ b, b < 256 → f b % 16 ≤ 4 ∧ f b / 16 ≤ 4) : ∀ (k X : Nat), Sm k (Dm f k X)
  | 0, _ => trivial
  | k + 1, X => by
    have h2 := hf (X % 256) (by omega)
    have h3 := hs (X % 256) (by omega)
    have ih := Sm_of hf hs k (X / 256)
    show (f (X % 256) + 256 * Dm f k (X / 256)) % 16 ≤ 4 ∧ (f (X % 256) + 256 * Dm f k (X / 256)) / 16 % 16 ≤ 4 ∧ Sm k ((f (X % 256) + 256 * Dm f k (X / 256)) / 256)
    rw [show (f (X % 256) + 256 * Dm f k (X / 256)) / 256 = Dm f k (X / 256) by omega]
    exact ⟨by omega, by omega, ih⟩
def popc : Nat → Nat → Nat
  | 0, _ => 0
  | k + 1, X => X % 2 + popc k (X / 2)
set_option maxRecDepth 100000 in
theorem pcb : ∀ b, b < 256 → s3 (s2 (s1 b)) = popc 8 b := by decide +kernel
theorem popc_le : ∀ k X, popc k X ≤ k
  | 0, _ => Nat.le_refl _
  | k + 1, X => by have := popc_le k (X / 2); show X % 2 + popc k (X / 2) ≤ k + 1; omega
theorem popc8 (X : Nat) : popc 8 X = popc 8 (X % 256) := by
  simp only [popc]; omega
theorem popc_add (X : Nat) : ∀ a b Y, Y = X → popc (a + b) Y = popc a Y + popc b (Y / 2 ^ a) := by
  intro a
  induction a generalizing X with
  | zero => intro b Y _; simp [popc]
  | succ a ih =>
    intro b Y h
    rw [show a + 1 + b = (a + b) + 1 by omega]
    show Y % 2 + popc (a + b) (Y / 2) = (Y % 2 + popc a (Y / 2)) + popc b (Y / 2 ^ (a + 1))
    rw [ih (Y / 2) b (Y / 2) rfl, Nat.div_div_eq_div_mul, ← Nat.pow_succ', Nat.add_assoc]
def bcN (X : Nat) : Nat :=
  let n1 := X - ((X / 2) &&& Mk 0x55 8)
  let n2 := (n1 &&& Mk 0x33 8) + ((n1 / 4) &&& Mk 0x33 8)
  (n2 + n2 / 16) &&& Mk 0x0f 8
theorem bcN_eq {X : Nat} (h : X < 2 ^ 64) : bcN X = Dm (popc 8) 8 X := by
  have h0 : X < 256 ^ 8 := h
  show ((_ : Nat) &&& _) = _
  rw [stage1 8 X h0, stage2 8 _ (Dm_lt s1_lt 8 X), Dm_comp s1_lt, stage3 8 _ (Dm_lt s2s1_lt 8 X) (Sm_of s2s1_lt s2s1_sm 8 X), Dm_comp s2s1_lt]
  have cong : ∀ (k Y : Nat), Dm (fun b => s3 (s2 (s1 b))) k Y = Dm (popc 8) k Y := by
    intro k
    induction k with
    | zero => intro Y; rfl
    | succ k ih => intro Y; show s3 (s2 (s1 (Y % 256))) + 256 * _ = popc 8 (Y % 256) + 256 * _; rw [ih, pcb _ (by omega)]
  exact cong 8 X
def fold3 (v : Nat) : Nat := (v + v / 256 + (v + v / 256) / 65536 + (v + v / 256 + (v + v / 256) / 65536) / 4294967296) % 128
theorem d2 {a x y q : Nat} (ha : a = x + 256 * (y + 256 * q)) (l0 : x ≤ 16) (l1 : y ≤ 16) : a / 65536 = q := by omega
theorem d3 {a x y z w q : Nat} (ha : a = x + 256 * (y + 256 * (z + 256 * (w + 256 * q)))) (l0 : x ≤ 32) (l1 : y ≤ 32) (l2 : z ≤ 32) (l3 : w ≤ 32) : a / 4294967296 = q := by omega
theorem fold_v {v p0 p1 p2 p3 p4 p5 p6 p7 V1 V2 V3 V4 V5 V6 : Nat} (h0 : v = p0 + 256 * V1) (h1 : V1 = p1 + 256 * V2) (h2 : V2 = p2 + 256 * V3) (h3 : V3 = p3 + 256 * V4) (h4 : V4 = p4 + 256 * V5) (h5 : V5 = p5 + 256 * V6) (h6 : V6 = p6 + 256 * p7) (l0 : p0 ≤ 8) (l1 : p1 ≤ 8) (l2 : p2 ≤ 8) (l3 : p3 ≤ 8) (l4 : p4 ≤ 8) (l5 : p5 ≤ 8) (l6 : p6 ≤ 8) (l7 : p7 ≤ 8) : (v + v / 256 + (v + v / 256) / 65536 + (v + v / 256 + (v + v / 256) / 65536) / 4294967296) % 128 = p0 + (p1 + (p2 + (p3 + (p4 + (p5 + (p6 + p7)))))) := by
  have e1 : v / 256 = V1 := by clear h1 h2 h3 h4 h5 h6; omega
  have e2 : (v + V1) / 65536 = V2 + V3 := d2 (x := p0 + p1) (y := p1 + p2) (by clear h3 h4 h5 h6 l0 l1 l2 l3 l4 l5 l6 l7 e1; omega) (by omega) (by omega)
  have e3 : (v + V1 + (V2 + V3)) / 4294967296 = V4 + V5 + (V6 + p7) := d3 (x := p0 + p1 + p2 + p3) (y := p1 + p2 + p3 + p4) (z := p2 + p3 + p4 + p5) (w := p3 + p4 + p5 + p6) (by clear l0 l1 l2 l3 l4 l5 l6 l7 e1 e2; omega) (by omega) (by omega) (by omega) (by omega)
  rw [e1, e2, e3]
  clear e1 e2 e3
  have e4 : v + V1 + (V2 + V3) + (V4 + V5 + (V6 + p7)) = (p0 + (p1 + (p2 + (p3 + (p4 + (p5 + (p6 + p7))))))) + 256 * (V1 + V2 + V3 + V4 + V5 + V6 + p7) := by clear l0 l1 l2 l3 l4 l5 l6 l7; omega
  rw [e4]
  generalize V1 + V2 + V3 + V4 + V5 + V6 + p7 = R
  clear h0 h1 h2 h3 h4 h5 h6 e4
  omega
theorem popc64 (X : Nat) : popc 64 X = popc 8 X + (popc 8 (X / 256) + (popc 8 (X / 256 / 256) + (popc 8 (X / 256 / 256 / 256) + (popc 8 (X / 256 / 256 / 256 / 256) + (popc 8 (X / 256 / 256 / 256 / 256 / 256) + (popc 8 (X / 256 / 256 / 256 / 256 / 256 / 256) + popc 8 (X / 256 / 256 / 256 / 256 / 256 / 256 / 256))))))) := by
  have e := fun Y a b => popc_add Y a b Y rfl
  rw [e X 8 56, e _ 8 48, e _ 8 40, e _ 8 32, e _ 8 24, e _ 8 16, e _ 8 8]
theorem Dm_succ (f : Nat → Nat) (k X : Nat) : Dm f (k + 1) X = f (X % 256) + 256 * Dm f k (X / 256) := rfl
theorem fold_eq {X : Nat} (h : X < 2 ^ 64) : fold3 (bcN X) = popc 64 X := by
  rw [bcN_eq h, popc64]
  rw [popc8 X, popc8 (X / 256), popc8 (X / 256 / 256), popc8 (X / 256 / 256 / 256), popc8 (X / 256 / 256 / 256 / 256), popc8 (X / 256 / 256 / 256 / 256 / 256), popc8 (X / 256 / 256 / 256 / 256 / 256 / 256), popc8 (X / 256 / 256 / 256 / 256 / 256 / 256 / 256)]
  have l := fun Y => popc_le 8 Y
  exact fold_v (Dm_succ _ 7 _) (Dm_succ _ 6 _) (Dm_succ _ 5 _) (Dm_succ _ 4 _) (Dm_succ _ 3 _) (Dm_succ _ 2 _) (Dm_succ _ 1 _) (l _) (l _) (l _) (l _) (l _) (l _) (l _) (l _)
theorem popc_or : ∀ (n k X : Nat), k < n → popc n (X ||| 2 ^ k) = popc n X + (if X.testBit k then 0 else 1)
  | 0, k, _, h => by omega
  | n + 1, 0, X, _ => by
    show (X ||| 1) % 2 + popc n ((X ||| 1) / 2) = X % 2 + popc n (X / 2) + _
    have e1 : (X ||| 1) / 2 = X / 2 := by
      have := Nat.or_div_two_pow (a := X) (b := 1) (n := 1)
      simpa using this
    have e2 : (X ||| 1) % 2 = 1 := by
      have := Nat.or_mod_two_pow (a := X) (b := 1) (n := 1)
      rw [show (2 : Nat) ^ 1 = 2 from rfl] at this
      rw [this]
      have h2 : X % 2 = 0 ∨ X % 2 = 1 := by omega
      rcases h2 with h | h <;> rw [h] <;> rfl
    rw [e1, e2, Nat.testBit_zero]
    have h2 : X % 2 = 0 ∨ X % 2 = 1 := by omega
    rcases h2 with h | h <;> simp [h] <;> omega
  | n + 1, k + 1, X, h => by
    show (X ||| 2 ^ (k + 1)) % 2 + popc n ((X ||| 2 ^ (k + 1)) / 2) = X % 2 + popc n (X / 2) + _
    have e1 : (X ||| 2 ^ (k + 1)) / 2 = X / 2 ||| 2 ^ k := by
      have := Nat.or_div_two_pow (a := X) (b := 2 ^ (k + 1)) (n := 1)
      rw [show (2 : Nat) ^ 1 = 2 from rfl] at this
      rw [this, Nat.pow_succ, Nat.mul_div_cancel _ (by decide)]
    have e2 : (X ||| 2 ^ (k + 1)) % 2 = X % 2 := by
      have := Nat.or_mod_two_pow (a := X) (b := 2 ^ (k + 1)) (n := 1)
      rw [show (2 : Nat) ^ 1 = 2 from rfl] at this
      rw [this, Nat.pow_succ, Nat.mul_mod_left, Nat.or_zero]
    rw [e1, e2, popc_or n k (X / 2) (by omega), Nat.testBit_succ]; omega
def tn (x : Int64) : Nat := x.toBitVec.toNat
theorem tn_lt (x : Int64) : tn x < 2 ^ 64 := x.toBitVec.isLt
theorem tn_and (x y : Int64) : tn (x &&& y) = tn x &&& tn y := by simp [tn]
theorem tn_or (x y : Int64) : tn (x ||| y) = tn x ||| tn y := by simp [tn]
theorem tn_add (x y : Int64) : tn (x + y) = (tn x + tn y) % 2 ^ 64 := by simp [tn]
theorem tn_sub (x y : Int64) : tn (x - y) = (2 ^ 64 - tn y + tn x) % 2 ^ 64 := by simp [tn, BitVec.toNat_sub]
theorem tn_ushr (x : Int64) (y : Int32) (k : Nat) (h : (y.toInt64.toUInt64 &&& Int64.toUInt64 63).toNat = k) (hk : k < 64) : tn (Jvm.Free.XT.ushrL x y) = tn x / 2 ^ k := by
  show (x.toUInt64 >>> (y.toInt64.toUInt64 &&& Int64.toUInt64 63)).toInt64.toBitVec.toNat = _
  have : (x.toUInt64 >>> (y.toInt64.toUInt64 &&& Int64.toUInt64 63)).toInt64.toBitVec.toNat = (x.toUInt64 >>> (y.toInt64.toUInt64 &&& Int64.toUInt64 63)).toNat := rfl
  rw [this, UInt64.toNat_shiftRight, h, Nat.mod_eq_of_lt hk, Nat.shiftRight_eq_div_pow]; rfl
theorem shl_one (n : Int64) (h : n.toBitVec.toNat < 64) : ((1 : Int64) <<< n).toBitVec.toNat = 2 ^ n.toBitVec.toNat := by
  rw [Int64.toBitVec_shiftLeft]
  have e : n.toBitVec.smod 64 = n.toBitVec := by
    rw [BitVec.smod_eq]
    have m1 : n.toBitVec.msb = false := by rw [BitVec.msb_eq_decide]; simp; omega
    have m2 : (64 : BitVec 64).msb = false := by decide
    rw [m1, m2]
    apply BitVec.eq_of_toNat_eq
    show (n.toBitVec % 64#64).toNat = _
    rw [BitVec.toNat_umod]; exact Nat.mod_eq_of_lt h
  rw [e]
  show (BitVec.shiftLeft _ _).toNat = _
  rw [BitVec.shiftLeft_eq, BitVec.toNat_shiftLeft]
  have : (Int64.toBitVec 1).toNat = 1 := rfl
  rw [this, Nat.shiftLeft_eq, Nat.one_mul, Nat.mod_eq_of_lt]
  exact Nat.pow_lt_pow_right (by decide) h
theorem tn_shl1 (n : Int32) : tn ((1 : Int64) <<< (n.toInt64 &&& 63)) = 2 ^ (n.toBitVec.toNat % 64) := by
  have e : (n.toInt64 &&& 63).toBitVec.toNat = n.toBitVec.toNat % 64 := by
    have h1 : (n.toInt64 &&& 63).toBitVec.toNat = n.toInt64.toBitVec.toNat % 64 := by
      rw [Int64.toBitVec_and, BitVec.toNat_and]
      exact Nat.and_two_pow_sub_one_eq_mod _ 6
    rw [h1]
    have h2 : n.toInt64.toBitVec = n.toBitVec.signExtend 64 := rfl
    rw [h2, BitVec.toNat_signExtend]
    simp
    split <;> omega
  unfold tn
  rw [shl_one _ (by rw [e]; omega), e]

theorem Dm_bd {f : Nat → Nat} {c m : Nat} (hm : m * c ≤ 255) (hf : ∀ b, b < 256 → f b ≤ c) : ∀ (k X : Nat), m * Dm f k X + 1 ≤ 256 ^ k
  | 0, _ => by simp [Dm]
  | k + 1, X => by
    have ih := Dm_bd hm hf k (X / 256)
    have h2 := hf (X % 256) (by omega)
    have h3 : m * f (X % 256) ≤ 255 := Nat.le_trans (Nat.mul_le_mul_left m h2) hm
    show m * (f (X % 256) + 256 * Dm f k (X / 256)) + 1 ≤ 256 ^ (k + 1)
    rw [Nat.mul_add, Nat.pow_succ, show m * (256 * Dm f k (X / 256)) = 256 * (m * Dm f k (X / 256)) by rw [Nat.mul_left_comm]]
    omega
set_option maxRecDepth 100000 in
theorem s2_lt : ∀ b, b < 256 → s2 b < 256 := by decide +kernel
set_option maxRecDepth 100000 in
theorem s2s1_le : ∀ b, b < 256 → s2 (s1 b) ≤ 68 := by decide +kernel
theorem bc_all {x x1 x2 x3 x4 x5 x6 : Int64} (h1 : x - (Jvm.Free.XT.ushrL x 1 &&& 6148914691236517205) = x1) (h2 : (x1 &&& 3689348814741910323) + (Jvm.Free.XT.ushrL x1 2 &&& 3689348814741910323) = x2) (h3 : (x2 + Jvm.Free.XT.ushrL x2 4) &&& 1085102592571150095 = x3) (h4 : x3 + Jvm.Free.XT.ushrL x3 8 = x4) (h5 : x4 + Jvm.Free.XT.ushrL x4 16 = x5) (h6 : x5 + Jvm.Free.XT.ushrL x5 32 = x6) : x6.toInt32 &&& 127 = (popc 64 (tn x)).toInt32 := by
  have hX := tn_lt x
  have m1 : tn 6148914691236517205 = Mk 0x55 8 := by decide +kernel
  have m2 : tn 3689348814741910323 = Mk 0x33 8 := by decide +kernel
  have m3 : tn 1085102592571150095 = Mk 0x0f 8 := by decide +kernel
  have e1 : tn x1 = tn x - ((tn x / 2) &&& Mk 0x55 8) := by
    rw [← h1, tn_sub, tn_and, tn_ushr x 1 1 (by decide) (by decide), m1]
    have : (tn x / 2 ^ 1) &&& Mk 0x55 8 ≤ tn x / 2 ^ 1 := Nat.and_le_left
    rw [show (2 : Nat) ^ 1 = 2 from rfl] at *
    omega
  have f1 := stage1 8 (tn x) hX
  rw [← e1] at f1
  have e2 : tn x2 = (tn x1 &&& Mk 0x33 8) + ((tn x1 / 4) &&& Mk 0x33 8) := by
    rw [← h2, tn_add, tn_and, tn_and, tn_ushr x1 2 2 (by decide) (by decide), m2]
    apply Nat.mod_eq_of_lt
    rw [show (2 : Nat) ^ 2 = 4 from rfl, stage2 8 _ (tn_lt x1)]
    exact Dm_lt s2_lt 8 _
  have f2 := stage2 8 (tn x1) (tn_lt x1)
  rw [← e2, f1, Dm_comp s1_lt] at f2
  have b2 : 3 * tn x2 + 1 ≤ 256 ^ 8 := by rw [f2]; exact Dm_bd (c := 68) (by decide) s2s1_le 8 _
  have q64 : (256 : Nat) ^ 8 = 18446744073709551616 := by decide
  have p64 : (2 : Nat) ^ 64 = 18446744073709551616 := by decide
  rw [q64] at b2
  have e3 : tn x3 = (tn x2 + tn x2 / 16) &&& Mk 0x0f 8 := by
    rw [← h3, tn_and, tn_add, tn_ushr x2 4 4 (by decide) (by decide), m3, show (2 : Nat) ^ 4 = 16 from rfl, Nat.mod_eq_of_lt (by rw [p64]; omega)]
  have e3' : tn x3 = bcN (tn x) := by rw [e3, e2, e1]; rfl
  have fo := fold_eq hX
  rw [← e3'] at fo
  have b3 : 31 * tn x3 + 1 ≤ 256 ^ 8 := by
    rw [e3', bcN_eq hX]
    exact Dm_bd (c := 8) (by decide) (fun b _ => popc_le 8 b) 8 _
  rw [q64] at b3
  have e4 : tn x4 = tn x3 + tn x3 / 256 := by
    rw [← h4, tn_add, tn_ushr x3 8 8 (by decide) (by decide), show (2 : Nat) ^ 8 = 256 from rfl, Nat.mod_eq_of_lt (by rw [p64]; omega)]
  have e5 : tn x5 = tn x4 + tn x4 / 65536 := by
    rw [← h5, tn_add, tn_ushr x4 16 16 (by decide) (by decide), show (2 : Nat) ^ 16 = 65536 from rfl, Nat.mod_eq_of_lt (by rw [p64]; omega)]
  have e6 : tn x6 = tn x5 + tn x5 / 4294967296 := by
    rw [← h6, tn_add, tn_ushr x5 32 32 (by decide) (by decide), show (2 : Nat) ^ 32 = 4294967296 from rfl, Nat.mod_eq_of_lt (by rw [p64]; omega)]
  have fin : tn x6 % 128 = popc 64 (tn x) := by
    rw [← fo, fold3, e6, e5, e4]
  apply Int32.toBitVec_inj.mp
  apply BitVec.eq_of_toNat_eq
  rw [Int32.toBitVec_and, BitVec.toNat_and]
  have g1 : (Int64.toInt32 x6).toBitVec.toNat = tn x6 % 4294967296 := by
    show (x6.toBitVec.signExtend 32).toNat = _
    rw [BitVec.signExtend_eq_setWidth_of_le _ (by decide), BitVec.toNat_setWidth]; rfl
  have g2 : (Int32.toBitVec 127).toNat = 127 := rfl
  have g3 : (popc 64 (tn x)).toInt32.toBitVec.toNat = popc 64 (tn x) % 4294967296 := by
    show (BitVec.ofNat 32 (popc 64 (tn x))).toNat = _
    rw [BitVec.toNat_ofNat]
  rw [g1, g2, g3, show (127 : Nat) = 2 ^ 7 - 1 from rfl, Nat.and_two_pow_sub_one_eq_mod]
  have := popc_le 64 (tn x)
  show tn x6 % 4294967296 % 128 = _
  omega

def insN : List (Nat × Nat) → Nat → Nat → List (Nat × Nat)
  | [], k, j => [(k, 0 ||| 2 ^ j)]
  | (k0, w) :: r, k, j => if k0 < k then (k0, w) :: insN r k j else if k0 = k then (k0, w ||| 2 ^ j) :: r else (k, 0 ||| 2 ^ j) :: (k0, w) :: r
def cardN : List (Nat × Nat) → Nat
  | [] => 0
  | q :: r => popc 64 q.2 + cardN r
def memN : List (Nat × Nat) → Nat → Nat → Prop
  | [], _, _ => False
  | q :: r, k, j => (q.1 = k ∧ q.2.testBit j = true) ∨ memN r k j
instance memN_dec : ∀ (ps : List (Nat × Nat)) (k j : Nat), Decidable (memN ps k j)
  | [], _, _ => inferInstanceAs (Decidable False)
  | _ :: r, k, j => @instDecidableOr _ _ inferInstance (memN_dec r k j)
/-- every key is above this one; each above the one before it -/
def SrtN : Nat → List (Nat × Nat) → Prop
  | _, [] => True
  | b, q :: r => b ≤ q.1 ∧ SrtN (q.1 + 1) r
theorem SrtN.mono : ∀ {ps : List (Nat × Nat)} {a b : Nat}, a ≤ b → SrtN b ps → SrtN a ps
  | [], _, _, _, _ => trivial
  | _ :: _, _, _, h, s => ⟨Nat.le_trans h s.1, s.2⟩
theorem not_mem_of {k j : Nat} : ∀ {ps : List (Nat × Nat)} {b : Nat}, k < b → SrtN b ps → ¬ memN ps k j
  | [], _, _, _ => fun h => h
  | q :: r, b, h, s => fun m => by
    rcases m with m | m
    · have := s.1; omega
    · exact not_mem_of (by have := s.1; omega) s.2 m
theorem srt_ins {k j : Nat} : ∀ {ps : List (Nat × Nat)} {b : Nat}, b ≤ k → SrtN b ps → SrtN b (insN ps k j)
  | [], _, h, _ => ⟨h, trivial⟩
  | (k0, w) :: r, b, h, s => by
    unfold insN
    split
    · exact ⟨s.1, srt_ins (by omega) s.2⟩
    · split
      · exact ⟨s.1, s.2⟩
      · exact ⟨h, by show k + 1 ≤ k0; omega, s.2⟩
theorem popc0 : ∀ n, popc n 0 = 0
  | 0 => rfl
  | n + 1 => by show 0 % 2 + popc n (0 / 2) = 0; rw [Nat.zero_div, popc0 n]
theorem popc_one {j : Nat} (hj : j < 64) : popc 64 (0 ||| 2 ^ j) = 1 := by
  rw [popc_or 64 j 0 hj, popc0]; simp
theorem card_ins {k j : Nat} (hj : j < 64) : ∀ {ps : List (Nat × Nat)} {b : Nat}, SrtN b ps → cardN (insN ps k j) = cardN ps + (if memN ps k j then 0 else 1)
  | [], _, _ => by
    show popc 64 (0 ||| 2 ^ j) + 0 = 0 + _
    rw [popc_one hj]; rfl
  | (k0, w) :: r, b, s => by
    unfold insN
    split
    · rename_i h
      show popc 64 w + cardN (insN r k j) = popc 64 w + cardN r + _
      rw [card_ins hj s.2]
      have : memN ((k0, w) :: r) k j ↔ memN r k j := ⟨fun m => m.elim (fun z => by have := z.1; have z1 : k0 = k := z.1; omega) id, Or.inr⟩
      simp only [this]; omega
    · split
      · rename_i h1 h
        show popc 64 (w ||| 2 ^ j) + cardN r = popc 64 w + cardN r + _
        rw [popc_or 64 j w hj]
        have hn : ¬ memN r k j := not_mem_of (by omega) s.2
        have : memN ((k0, w) :: r) k j ↔ w.testBit j = true := ⟨fun m => m.elim (fun z => z.2) (fun z => absurd z hn), fun z => Or.inl ⟨h, z⟩⟩
        simp only [this]; omega
      · rename_i h1 h2
        show popc 64 (0 ||| 2 ^ j) + (popc 64 w + cardN r) = popc 64 w + cardN r + _
        have hn : ¬ memN ((k0, w) :: r) k j := not_mem_of (b := k0) (by omega) ⟨Nat.le_refl _, s.2⟩
        rw [popc_one hj, if_neg hn]; omega
theorem tb_or {w i j : Nat} : (w ||| 2 ^ j).testBit i = true ↔ (w.testBit i = true ∨ i = j) := by
  rw [Nat.testBit_or, Nat.testBit_two_pow, Bool.or_eq_true, decide_eq_true_eq]
  exact or_congr Iff.rfl eq_comm
theorem tb_one {i j : Nat} : (0 ||| 2 ^ j).testBit i = true ↔ i = j := by
  rw [tb_or]; simp
theorem mem_ins {k j k' j' : Nat} : ∀ {ps : List (Nat × Nat)} {b : Nat}, SrtN b ps → (memN (insN ps k j) k' j' ↔ memN ps k' j' ∨ (k' = k ∧ j' = j))
  | [], _, _ => by
    show ((k = k' ∧ (0 ||| 2 ^ j).testBit j' = true) ∨ False) ↔ _
    rw [tb_one]
    show _ ↔ False ∨ _
    exact ⟨fun h => h.elim (fun z => Or.inr ⟨z.1.symm, z.2⟩) False.elim, fun h => h.elim False.elim fun z => Or.inl ⟨z.1.symm, z.2⟩⟩
  | (k0, w) :: r, b, s => by
    unfold insN
    split
    · show ((k0 = k' ∧ w.testBit j' = true) ∨ memN (insN r k j) k' j') ↔ ((k0 = k' ∧ w.testBit j' = true) ∨ memN r k' j') ∨ _
      rw [mem_ins s.2, or_assoc]
    · split
      · rename_i h1 h
        show ((k0 = k' ∧ (w ||| 2 ^ j).testBit j' = true) ∨ memN r k' j') ↔ ((k0 = k' ∧ w.testBit j' = true) ∨ memN r k' j') ∨ _
        rw [tb_or]
        constructor
        · rintro (⟨a, b | b⟩ | c)
          · exact Or.inl (Or.inl ⟨a, b⟩)
          · exact Or.inr ⟨by omega, b⟩
          · exact Or.inl (Or.inr c)
        · rintro ((⟨a, b⟩ | c) | ⟨a, b⟩)
          · exact Or.inl ⟨a, Or.inl b⟩
          · exact Or.inr c
          · exact Or.inl ⟨by omega, Or.inr b⟩
      · show ((k = k' ∧ (0 ||| 2 ^ j).testBit j' = true) ∨ memN ((k0, w) :: r) k' j') ↔ memN ((k0, w) :: r) k' j' ∨ _
        rw [tb_one]
        exact ⟨fun h => h.elim (fun z => Or.inr ⟨z.1.symm, z.2⟩) Or.inl, fun h => h.elim Or.inr fun z => Or.inl ⟨z.1.symm, z.2⟩⟩
/-- the set's size after five numbers, each a key and a bit -/
abbrev Two : Type := Nat × Nat
def addN (ps : List (Nat × Nat)) (a : Two) : List (Nat × Nat) := insN ps a.1 a.2
theorem card3 {a b c : Two} (ha : a.2 < 64) (hb : b.2 < 64) (hc : c.2 < 64) : cardN (addN (addN (addN [] a) b) c) = 1 + (if b ≠ a then 1 else 0) + (if c ≠ a ∧ c ≠ b then 1 else 0) := by
  have s0 : SrtN 0 [] := trivial
  have s1 := srt_ins (k := a.1) (j := a.2) (Nat.zero_le _) s0
  have s2 := srt_ins (k := b.1) (j := b.2) (Nat.zero_le _) s1
  unfold addN
  rw [card_ins hc s2, card_ins hb s1, card_ins ha s0]
  have m1 : memN (insN [] a.1 a.2) b.1 b.2 ↔ b = a := by
    rw [mem_ins s0]; exact ⟨fun h => h.elim False.elim fun z => Prod.ext z.1 z.2, fun h => Or.inr ⟨by rw [h], by rw [h]⟩⟩
  have m2 : memN (insN (insN [] a.1 a.2) b.1 b.2) c.1 c.2 ↔ (c = a ∨ c = b) := by
    rw [mem_ins s1, mem_ins s0]
    exact ⟨fun h => h.elim (fun h => h.elim False.elim fun z => Or.inl (Prod.ext z.1 z.2)) fun z => Or.inr (Prod.ext z.1 z.2), fun h => h.elim (fun h => Or.inl (Or.inr ⟨by rw [h], by rw [h]⟩)) fun h => Or.inr ⟨by rw [h], by rw [h]⟩⟩
  simp only [m1, m2]
  show 0 + 1 + _ + _ = _
  by_cases h1 : b = a <;> by_cases h2 : c = a <;> by_cases h3 : c = b <;> simp [h1, h2, h3]
theorem card5 {a b c d e : Two} (ha : a.2 < 64) (hb : b.2 < 64) (hc : c.2 < 64) (hd : d.2 < 64) (he : e.2 < 64) : cardN (addN (addN (addN (addN (addN [] a) b) c) d) e) = cardN (addN (addN (addN [] a) b) c) + (if d ≠ a ∧ d ≠ b ∧ d ≠ c then 1 else 0) + (if e ≠ a ∧ e ≠ b ∧ e ≠ c ∧ e ≠ d then 1 else 0) := by
  have s0 : SrtN 0 [] := trivial
  have s1 := srt_ins (k := a.1) (j := a.2) (Nat.zero_le _) s0
  have s2 := srt_ins (k := b.1) (j := b.2) (Nat.zero_le _) s1
  have s3 := srt_ins (k := c.1) (j := c.2) (Nat.zero_le _) s2
  have s4 := srt_ins (k := d.1) (j := d.2) (Nat.zero_le _) s3
  have pe : ∀ {x y : Two}, (x.1 = y.1 ∧ x.2 = y.2) ↔ x = y := ⟨fun z => Prod.ext z.1 z.2, fun h => ⟨by rw [h], by rw [h]⟩⟩
  unfold addN
  rw [card_ins he s4, card_ins hd s3]
  have m3 : memN (insN (insN (insN [] a.1 a.2) b.1 b.2) c.1 c.2) d.1 d.2 ↔ (((False ∨ d = a) ∨ d = b) ∨ d = c) := by
    rw [mem_ins s2, mem_ins s1, mem_ins s0, pe, pe, pe]; rfl
  have m4 : memN (insN (insN (insN (insN [] a.1 a.2) b.1 b.2) c.1 c.2) d.1 d.2) e.1 e.2 ↔ ((((False ∨ e = a) ∨ e = b) ∨ e = c) ∨ e = d) := by
    rw [mem_ins s3, mem_ins s2, mem_ins s1, mem_ins s0, pe, pe, pe, pe]; rfl
  simp only [m3, m4]
  by_cases h1 : d = a ∨ d = b ∨ d = c <;> by_cases h2 : e = a ∨ e = b ∨ e = c ∨ e = d
  all_goals
    have q1 : (((False ∨ d = a) ∨ d = b) ∨ d = c) ↔ (d = a ∨ d = b ∨ d = c) := by simp [or_assoc]
    have q2 : ((((False ∨ e = a) ∨ e = b) ∨ e = c) ∨ e = d) ↔ (e = a ∨ e = b ∨ e = c ∨ e = d) := by simp [or_assoc]
    have q3 : (d ≠ a ∧ d ≠ b ∧ d ≠ c) ↔ ¬ (d = a ∨ d = b ∨ d = c) := by simp [not_or]
    have q4 : (e ≠ a ∧ e ≠ b ∧ e ≠ c ∧ e ≠ d) ↔ ¬ (e = a ∨ e = b ∨ e = c ∨ e = d) := by simp [not_or]
    simp only [q1, q2, q3, q4, h1, h2, not_true, not_false_iff, if_true, if_false]

theorem key_nat (n : Int32) : (Jvm.Free.XT.ushr n 6).toInt = (n.toBitVec.toNat / 64 : Nat) := by
  have h0 : n.toBitVec.toNat < 2 ^ 32 := n.toBitVec.isLt
  have e : (n.toUInt32 >>> ((6 : Int32) &&& 31).toUInt32).toNat = n.toBitVec.toNat / 64 := by
    rw [UInt32.toNat_shiftRight, show (((6 : Int32) &&& 31).toUInt32).toNat % 32 = 6 by decide, Nat.shiftRight_eq_div_pow]; rfl
  show (n.toUInt32 >>> ((6 : Int32) &&& 31).toUInt32).toInt32.toBitVec.toInt = _
  have g : (n.toUInt32 >>> ((6 : Int32) &&& 31).toUInt32).toInt32.toBitVec.toNat = n.toBitVec.toNat / 64 := e
  rw [BitVec.toInt_eq_toNat_of_lt (by rw [g]; omega), g]
def tw_ (n : Int32) : Nat × Nat := (n.toBitVec.toNat / 64, n.toBitVec.toNat % 64)
theorem tw_inj {n m : Int32} : tw_ n = tw_ m ↔ n = m := by
  constructor
  · intro h
    have h1 := congrArg Prod.fst h
    have h2 := congrArg Prod.snd h
    simp only [tw_] at h1 h2
    apply Int32.toBitVec_inj.mp
    apply BitVec.eq_of_toNat_eq
    omega
  · intro h; rw [h]
theorem tw_lt (n : Int32) : (tw_ n).2 < 64 := by simp only [tw_]; omega
theorem shift_l {α : Type} (P S Z : List α) (z : α) : ∃ y, (P ++ (S ++ z :: Z)).take (P.length + 1) ++ ((P ++ (S ++ z :: Z)).drop P.length).take S.length ++ (P ++ (S ++ z :: Z)).drop (P.length + 1 + S.length) = P ++ (y :: (S ++ Z)) := by
  have e1 : (P ++ (S ++ z :: Z)).drop P.length = S ++ z :: Z := List.drop_left
  have e2 : (S ++ z :: Z).take S.length = S := List.take_left
  have e3 : (P ++ (S ++ z :: Z)).drop (P.length + 1 + S.length) = Z := by
    rw [show P.length + 1 + S.length = P.length + (S.length + 1) by omega, ← List.drop_drop, e1, ← List.drop_drop, List.drop_left]; rfl
  have e4 : ∃ y, (P ++ (S ++ z :: Z)).take (P.length + 1) = P ++ [y] := by
    rw [List.take_append, List.take_of_length_le (by omega), show P.length + 1 - P.length = 1 by omega]
    cases S with
    | nil => exact ⟨z, rfl⟩
    | cons a r => exact ⟨a, rfl⟩
  obtain ⟨y, e4⟩ := e4
  refine ⟨y, ?_⟩
  rw [e1, e2, e3, e4]; simp

abbrev lV (ws : List Int64) : List Value := ws.map Value.long
theorem lV_get {xs : List Int64} {n : Nat} {x : Int64} (h : xs[n]? = some x) : (lV xs)[n]? = some (.long x) := by
  show (List.map Value.long xs)[n]? = _
  rw [List.getElem?_map, h]; rfl
theorem lV_set (xs : List Int64) (n : Nat) (x : Int64) : (lV xs).set n (.long x) = lV (xs.set n x) := by
  show (List.map Value.long xs).set n (.long x) = List.map Value.long (xs.set n x)
  rw [List.map_set]
theorem fits_int (xs : List Int32) : FitsL .int (chV xs) := fun v m => by obtain ⟨c, -, rfl⟩ := List.mem_map.mp m; rfl
theorem fits_long (xs : List Int64) : FitsL .long (lV xs) := fun v m => by obtain ⟨c, -, rfl⟩ := List.mem_map.mp m; rfl
theorem mid_eq {lo h : Nat} (hlt : lo < h) (hb : h < 2 ^ 30) : Jvm.Free.XT.ushr (nI lo + (nI h - 1)) 1 = nI ((lo + h - 1) / 2) := by
  have h1 : nI lo + (nI h - 1) = nI (lo + h - 1) := by
    obtain ⟨g, rfl⟩ : ∃ g, h = 1 + g := ⟨h - 1, by omega⟩
    rw [show (1 : Int32) = nI 1 from rfl, nI_sub (by omega), nI_addn]; congr 1; omega
  rw [h1, i32_eq, nI_toInt (by omega)]
  have h2 := c_iushr (nI (lo + h - 1)) 1 1 (by decide) (by decide)
  show ((nI (lo + h - 1)).toUInt32 >>> ((1 : Int32) &&& 31).toUInt32).toInt32.toInt = _
  rw [h2, nI_toInt (by omega)]; omega
theorem pred_toInt {h : Nat} (hb : h < 2 ^ 30) : (nI h - 1).toInt = (h : Int) - 1 := by
  have h1 := c_isub (nI h) 1
  have h2 := rng32 (nI h - 1)
  have h3 : (1 : Int32).toInt = 1 := by decide
  rw [nI_toInt (by omega), h3] at h1; omega
/-- the keys before the c-th rise -/
def Srt (xs : List Int32) (c : Nat) : Prop := ∀ i j, i < j → j < c → (xs.getD i 0).toInt < (xs.getD j 0).toInt
theorem getD_get {xs : List Int32} {i : Nat} (h : i < xs.length) : xs[i]? = some (xs.getD i 0) := by
  rw [List.getD_eq_getElem?_getD, List.getElem?_eq_getElem h]; rfl
--CUT
def tb_mn : List In1 := [(0, .iload_n 0, 1), (1, .iload_n 1, 1), (2, .if_icmp .gt 7, 3), (5, .iload_n 0, 1), (6, .goto 4, 3), (9, .iload_n 1, 1), (10, .ireturn, 1)]
set_option maxRecDepth 65536 in
theorem td_mn : Dec jdk_29_method_69_code tb_mn := by unfold Dec; decide +kernel
theorem pd_mn : parseMethodDescriptor "(II)I" = some ⟨[.int, .int], (some .int)⟩ := by decide +kernel
theorem pn_mn : plainFor (⟨"java/lang/Math", "min", "(II)I"⟩ : MethodName) = true := by decide +kernel
abbrev B_mn : Bx := ((⟨"java/lang/Math", "min", "(II)I"⟩ : MethodName), jdk_29_method_69_code, 2, (Option.some Jvm.ClassFile.FieldType.int), ({ frames := 0, cells := 0, slots := 0, locals := 0 } : Room))
set_option maxRecDepth 65536 in
set_option maxHeartbeats 4000000 in
theorem mn_met {A : Ax} (K : Wd A) {a b r : Int32} (hr : (if a > b then b else a) = r) {F G : List Ent} : Met A B_mn #[.int a, .int b] F G (fun v F' G' => v = some (.int r) ∧ F = F' ∧ G = G') := by
  refine MetW.of_go pn_mn K.ew (L := [.val (.int a), .val (.int b)]) (fun m => rfl) ?_
  intro D _
  refine Go.run (B := B_mn) td_mn 0 2 (pc' := 2) (L' := [.val (.int a), .val (.int b)]) (S' := [.int b, .int a]) rfl ?_
  refine Go.icmp (B := B_mn) td_mn 2 (pc' := 9) rfl (by decide) rfl ?_ ?_
  · intro (h : a > b)
    refine Go.run (B := B_mn) td_mn 5 1 (pc' := 10) (L' := [.val (.int a), .val (.int b)]) (S' := [.int b]) rfl ?_
    exact Go.retI (B := B_mn) td_mn 6 rfl rfl ⟨by rw [← hr, if_pos h], rfl, rfl⟩ (by decide) (by decide)
  · intro (h : ¬ (a > b))
    refine Go.run (B := B_mn) td_mn 3 2 (pc' := 10) (L' := [.val (.int a), .val (.int b)]) (S' := [.int a]) rfl ?_
    exact Go.retI (B := B_mn) td_mn 6 rfl rfl ⟨by rw [← hr, if_neg h], rfl, rfl⟩ (by decide) (by decide)
def tb_bct : List In1 := [(0, .lload_n 0, 1), (1, .lload_n 0, 1), (2, .iconst 1, 1), (3, .lushr, 1), (4, .ldc2_w 314, 3), (7, .land, 1), (8, .lsub, 1), (9, .lstore_n 0, 1), (10, .lload_n 0, 1), (11, .ldc2_w 316, 3), (14, .land, 1), (15, .lload_n 0, 1), (16, .iconst 2, 1), (17, .lushr, 1), (18, .ldc2_w 316, 3), (21, .land, 1), (22, .ladd, 1), (23, .lstore_n 0, 1), (24, .lload_n 0, 1), (25, .lload_n 0, 1), (26, .iconst 4, 1), (27, .lushr, 1), (28, .ladd, 1), (29, .ldc2_w 318, 3), (32, .land, 1), (33, .lstore_n 0, 1), (34, .lload_n 0, 1), (35, .lload_n 0, 1), (36, .bipush 8, 2), (38, .lushr, 1), (39, .ladd, 1), (40, .lstore_n 0, 1), (41, .lload_n 0, 1), (42, .lload_n 0, 1), (43, .bipush 16, 2), (45, .lushr, 1), (46, .ladd, 1), (47, .lstore_n 0, 1), (48, .lload_n 0, 1), (49, .lload_n 0, 1), (50, .bipush 32, 2), (52, .lushr, 1), (53, .ladd, 1), (54, .lstore_n 0, 1), (55, .lload_n 0, 1), (56, .l2i, 1), (57, .bipush 127, 2), (59, .iand, 1), (60, .ireturn, 1)]
set_option maxRecDepth 65536 in
theorem td_bct : Dec jdk_35_method_50_code tb_bct := by unfold Dec; decide +kernel
theorem pd_bct : parseMethodDescriptor "(J)I" = some ⟨[.long], (some .int)⟩ := by decide +kernel
theorem pn_bct : plainFor (⟨"java/lang/Long", "bitCount", "(J)I"⟩ : MethodName) = true := by decide +kernel
abbrev B_bct : Bx := ((⟨"java/lang/Long", "bitCount", "(J)I"⟩ : MethodName), jdk_35_method_50_code, 2, (Option.some Jvm.ClassFile.FieldType.int), ({ frames := 0, cells := 0, slots := 0, locals := 0 } : Room))
set_option maxRecDepth 65536 in
set_option maxHeartbeats 4000000 in
theorem bct_met {A : Ax} (K : Wd A) {x : Int64} {F G : List Ent} : Met A B_bct #[.long x] F G (fun v F' G' => v = some (.int (nI (popc 64 (tn x)))) ∧ F = F' ∧ G = G') := by
  refine MetW.of_go pn_bct K.ew (L := [.val (.long x), .second]) (fun m => rfl) ?_
  intro D _
  refine Go.run (B := B_bct) td_bct 0 4 (pc' := 4) (L' := [.val (.long x), .second]) (S' := [.long (Jvm.Free.XT.ushrL x (1 : Int32)), .long x]) rfl ?_
  refine Go.ldc2J (B := B_bct) td_bct 4 rfl (w_65 K) ?_
  refine Go.run (B := B_bct) td_bct 5 3 (pc' := 10) (L' := [.val (.long (x - ((Jvm.Free.XT.ushrL x (1 : Int32)) &&& (6148914691236517205 : Int64)))), .second]) (S' := []) rfl ?_
  generalize hx1 : (x - ((Jvm.Free.XT.ushrL x (1 : Int32)) &&& (6148914691236517205 : Int64))) = x1
  show Go A B_bct D _ 10 [.val (.long x1), .second] [] F G 0 0
  refine Go.run (B := B_bct) td_bct 8 1 (pc' := 11) (L' := [.val (.long x1), .second]) (S' := [.long x1]) rfl ?_
  refine Go.ldc2J (B := B_bct) td_bct 9 rfl (w_66 K) ?_
  refine Go.run (B := B_bct) td_bct 10 4 (pc' := 18) (L' := [.val (.long x1), .second]) (S' := [.long (Jvm.Free.XT.ushrL x1 (2 : Int32)), .long (x1 &&& (3689348814741910323 : Int64))]) rfl ?_
  refine Go.ldc2J (B := B_bct) td_bct 14 rfl (w_66 K) ?_
  refine Go.run (B := B_bct) td_bct 15 3 (pc' := 24) (L' := [.val (.long ((x1 &&& (3689348814741910323 : Int64)) + ((Jvm.Free.XT.ushrL x1 (2 : Int32)) &&& (3689348814741910323 : Int64)))), .second]) (S' := []) rfl ?_
  generalize hx2 : ((x1 &&& (3689348814741910323 : Int64)) + ((Jvm.Free.XT.ushrL x1 (2 : Int32)) &&& (3689348814741910323 : Int64))) = x2
  show Go A B_bct D _ 24 [.val (.long x2), .second] [] F G 0 0
  refine Go.run (B := B_bct) td_bct 18 5 (pc' := 29) (L' := [.val (.long x2), .second]) (S' := [.long (x2 + (Jvm.Free.XT.ushrL x2 (4 : Int32)))]) rfl ?_
  refine Go.ldc2J (B := B_bct) td_bct 23 rfl (w_67 K) ?_
  refine Go.run (B := B_bct) td_bct 24 2 (pc' := 34) (L' := [.val (.long ((x2 + (Jvm.Free.XT.ushrL x2 (4 : Int32))) &&& (1085102592571150095 : Int64))), .second]) (S' := []) rfl ?_
  generalize hx3 : ((x2 + (Jvm.Free.XT.ushrL x2 (4 : Int32))) &&& (1085102592571150095 : Int64)) = x3
  show Go A B_bct D _ 34 [.val (.long x3), .second] [] F G 0 0
  refine Go.run (B := B_bct) td_bct 26 6 (pc' := 41) (L' := [.val (.long (x3 + (Jvm.Free.XT.ushrL x3 (8 : Int32)))), .second]) (S' := []) rfl ?_
  generalize hx4 : (x3 + (Jvm.Free.XT.ushrL x3 (8 : Int32))) = x4
  show Go A B_bct D _ 41 [.val (.long x4), .second] [] F G 0 0
  refine Go.run (B := B_bct) td_bct 32 6 (pc' := 48) (L' := [.val (.long (x4 + (Jvm.Free.XT.ushrL x4 (16 : Int32)))), .second]) (S' := []) rfl ?_
  generalize hx5 : (x4 + (Jvm.Free.XT.ushrL x4 (16 : Int32))) = x5
  show Go A B_bct D _ 48 [.val (.long x5), .second] [] F G 0 0
  refine Go.run (B := B_bct) td_bct 38 6 (pc' := 55) (L' := [.val (.long (x5 + (Jvm.Free.XT.ushrL x5 (32 : Int32)))), .second]) (S' := []) rfl ?_
  generalize hx6 : (x5 + (Jvm.Free.XT.ushrL x5 (32 : Int32))) = x6
  show Go A B_bct D _ 55 [.val (.long x6), .second] [] F G 0 0
  refine Go.run (B := B_bct) td_bct 44 4 (pc' := 60) (L' := [.val (.long x6), .second]) (S' := [.int ((x6.toInt32) &&& (127 : Int32))]) rfl ?_
  rw [bc_all hx1 hx2 hx3 hx4 hx5 hx6]
  exact Go.retI (B := B_bct) td_bct 48 rfl rfl ⟨rfl, rfl, rfl⟩ (by decide) (by decide)
def tb_spi : List In1 := [(0, .aload_n 0, 1), (1, .invokespecial 1, 3), (4, .aload_n 0, 1), (5, .iconst 4, 1), (6, .newarray .int, 2), (8, .putfield 7, 3), (11, .aload_n 0, 1), (12, .iconst 4, 1), (13, .newarray .long, 2), (15, .putfield 13, 3), (18, .return_, 1)]
set_option maxRecDepth 65536 in
theorem td_spi : Dec prog_1_method_1_code tb_spi := by unfold Dec; decide +kernel
theorem pd_spi : parseMethodDescriptor "()V" = some ⟨[], none⟩ := by decide +kernel
theorem pn_spi : plainFor (⟨"com/example/callweave/callweave/analysis/SparseBits", "<init>", "()V"⟩ : MethodName) = true := by decide +kernel
abbrev B_spi : Bx := ((⟨"com/example/callweave/callweave/analysis/SparseBits", "<init>", "()V"⟩ : MethodName), prog_1_method_1_code, 1, (Option.none : Option Jvm.ClassFile.FieldType), ({ frames := 1, cells := 2, slots := 8, locals := 12 } : Room))
set_option maxRecDepth 65536 in
set_option maxHeartbeats 4000000 in
theorem spi_met {A : Ax} (K : Wd A) {o : Addr} {F G : List Ent} : Met A B_spi #[.ref o] ((o, ObjP A "com/example/callweave/callweave/analysis/SparseBits" [("com/example/callweave/callweave/analysis/SparseBits", "indexes", "[I", .null), ("com/example/callweave/callweave/analysis/SparseBits", "words", "[J", .null), ("com/example/callweave/callweave/analysis/SparseBits", "count", "I", .int (0 : Int32))]) :: F) G (fun v F' G' => v = none ∧ (∃ ti tw, ((o, ObjP A "com/example/callweave/callweave/analysis/SparseBits" [("com/example/callweave/callweave/analysis/SparseBits", "indexes", "[I", .ref ti), ("com/example/callweave/callweave/analysis/SparseBits", "words", "[J", .ref tw), ("com/example/callweave/callweave/analysis/SparseBits", "count", "I", .int (0 : Int32))]) :: (ti, ArrP A .int (chV [0, 0, 0, 0])) :: (tw, ArrP A .long (lV [0, 0, 0, 0])) :: F) = F') ∧ G = G') := by
  refine MetW.of_go pn_spi K.ew (L := [.val (.ref o)]) (fun m => rfl) ?_
  intro D _
  refine Go.run (B := B_spi) td_spi 0 1 (pc' := 1) (L' := [.val (.ref o)]) (S' := [.ref o]) rfl ?_
  refine Go.initObject (B := B_spi) td_spi 1 (W := 0) rfl (w_6 K) (w_7 K) (w_8 K) rfl (by decide) (Nat.le_of_eq rfl) (by decide) ?_
  refine Go.run (B := B_spi) td_spi 2 2 (pc' := 6) (L' := [.val (.ref o)]) (S' := [.int (4 : Int32), .ref o]) rfl ?_
  refine Go.newarray (B := B_spi) td_spi 4 (ty := .int) (cap := 4) (vs := (chV [0, 0, 0, 0])) rfl rfl (w_9 K) (by decide) (by decide) (by decide) (by decide) (by decide) rfl ?_
  intro ti
  show Go A B_spi D _ 8 [.val (.ref o)] [.ref ti, .ref o] ((ti, ArrP A .int (chV [0, 0, 0, 0])) :: (o, ObjP A "com/example/callweave/callweave/analysis/SparseBits" [("com/example/callweave/callweave/analysis/SparseBits", "indexes", "[I", .null), ("com/example/callweave/callweave/analysis/SparseBits", "words", "[J", .null), ("com/example/callweave/callweave/analysis/SparseBits", "count", "I", .int (0 : Int32))]) :: F) G 1 4
  refine Go.front 1 (F' := ((o, ObjP A "com/example/callweave/callweave/analysis/SparseBits" [("com/example/callweave/callweave/analysis/SparseBits", "indexes", "[I", .null), ("com/example/callweave/callweave/analysis/SparseBits", "words", "[J", .null), ("com/example/callweave/callweave/analysis/SparseBits", "count", "I", .int (0 : Int32))]) :: (ti, ArrP A .int (chV [0, 0, 0, 0])) :: F)) rfl rfl ?_
  refine Go.putfield (B := B_spi) td_spi 5 (fs' := [("com/example/callweave/callweave/analysis/SparseBits", "indexes", "[I", .ref ti), ("com/example/callweave/callweave/analysis/SparseBits", "words", "[J", .null), ("com/example/callweave/callweave/analysis/SparseBits", "count", "I", .int (0 : Int32))]) rfl (w_10 K) (Or.inl (w_11 K)) (w_1 K) rfl rfl rfl (List.mem_of_getElem? (i := 0) rfl) (own_fs 0 (ns := ["words", "count"]) rfl (by decide) rfl) ?_
  refine Go.run (B := B_spi) td_spi 6 2 (pc' := 13) (L' := [.val (.ref o)]) (S' := [.int (4 : Int32), .ref o]) rfl ?_
  refine Go.newarray (B := B_spi) td_spi 8 (ty := .long) (cap := 4) (vs := (lV [0, 0, 0, 0])) rfl rfl (w_12 K) (by decide) (by decide) (by decide) (by decide) (by decide) rfl ?_
  intro tw
  show Go A B_spi D _ 15 [.val (.ref o)] [.ref tw, .ref o] ((tw, ArrP A .long (lV [0, 0, 0, 0])) :: (o, ObjP A "com/example/callweave/callweave/analysis/SparseBits" [("com/example/callweave/callweave/analysis/SparseBits", "indexes", "[I", .ref ti), ("com/example/callweave/callweave/analysis/SparseBits", "words", "[J", .null), ("com/example/callweave/callweave/analysis/SparseBits", "count", "I", .int (0 : Int32))]) :: (ti, ArrP A .int (chV [0, 0, 0, 0])) :: F) G 2 8
  refine Go.front 1 (F' := ((o, ObjP A "com/example/callweave/callweave/analysis/SparseBits" [("com/example/callweave/callweave/analysis/SparseBits", "indexes", "[I", .ref ti), ("com/example/callweave/callweave/analysis/SparseBits", "words", "[J", .null), ("com/example/callweave/callweave/analysis/SparseBits", "count", "I", .int (0 : Int32))]) :: (tw, ArrP A .long (lV [0, 0, 0, 0])) :: (ti, ArrP A .int (chV [0, 0, 0, 0])) :: F)) rfl rfl ?_
  refine Go.putfield (B := B_spi) td_spi 9 (fs' := [("com/example/callweave/callweave/analysis/SparseBits", "indexes", "[I", .ref ti), ("com/example/callweave/callweave/analysis/SparseBits", "words", "[J", .ref tw), ("com/example/callweave/callweave/analysis/SparseBits", "count", "I", .int (0 : Int32))]) rfl (w_13 K) (Or.inl (w_14 K)) (w_1 K) rfl rfl rfl (List.mem_of_getElem? (i := 1) rfl) (own_fs 1 (ns := ["indexes", "count"]) rfl (by decide) rfl) ?_
  refine Go.perm (F' := ((o, ObjP A "com/example/callweave/callweave/analysis/SparseBits" [("com/example/callweave/callweave/analysis/SparseBits", "indexes", "[I", .ref ti), ("com/example/callweave/callweave/analysis/SparseBits", "words", "[J", .ref tw), ("com/example/callweave/callweave/analysis/SparseBits", "count", "I", .int (0 : Int32))]) :: (ti, ArrP A .int (chV [0, 0, 0, 0])) :: (tw, ArrP A .long (lV [0, 0, 0, 0])) :: F)) (List.Perm.cons _ (List.Perm.swap _ _ _)) ?_
  exact Go.retV (B := B_spi) td_spi 10 rfl rfl ⟨rfl, ⟨ti, tw, rfl⟩, rfl⟩ (by decide) (by decide)
def tb_crd : List In1 := [(0, .iconst 0, 1), (1, .istore_n 1, 1), (2, .iconst 0, 1), (3, .istore_n 2, 1), (4, .iload_n 2, 1), (5, .aload_n 0, 1), (6, .getfield 22, 3), (9, .if_icmp .ge 21, 3), (12, .iload_n 1, 1), (13, .aload_n 0, 1), (14, .getfield 13, 3), (17, .iload_n 2, 1), (18, .laload, 1), (19, .invokestatic 64, 3), (22, .iadd, 1), (23, .istore_n 1, 1), (24, .iinc 2 1, 3), (27, .goto (-23), 3), (30, .iload_n 1, 1), (31, .ireturn, 1)]
set_option maxRecDepth 65536 in
theorem td_crd : Dec prog_1_method_10_code tb_crd := by unfold Dec; decide +kernel
theorem pd_crd : parseMethodDescriptor "()I" = some ⟨[], (some .int)⟩ := by decide +kernel
theorem pn_crd : plainFor (⟨"com/example/callweave/callweave/analysis/SparseBits", "cardinality", "()I"⟩ : MethodName) = true := by decide +kernel
abbrev B_crd : Bx := ((⟨"com/example/callweave/callweave/analysis/SparseBits", "cardinality", "()I"⟩ : MethodName), prog_1_method_10_code, 3, (Option.some Jvm.ClassFile.FieldType.int), ({ frames := 1, cells := 0, slots := 0, locals := 14 } : Room))
def cardW : List Int64 → Nat
  | [] => 0
  | x :: r => popc 64 (tn x) + cardW r
theorem cardW_snoc : ∀ (p : List Int64) (x : Int64), cardW (p ++ [x]) = cardW p + popc 64 (tn x)
  | [], x => by show popc 64 (tn x) + 0 = 0 + _; omega
  | y :: r, x => by show popc 64 (tn y) + cardW (r ++ [x]) = popc 64 (tn y) + cardW r + _; rw [cardW_snoc r x]; omega
set_option maxRecDepth 65536 in
set_option maxHeartbeats 4000000 in
theorem crd_met {A : Ax} (K : Wd A) {o ti tw : Addr} {ws zl : List Int64} (hl : ws.length + zl.length < 2 ^ 30) {F G : List Ent} (mo : (o, ObjP A "com/example/callweave/callweave/analysis/SparseBits" [("com/example/callweave/callweave/analysis/SparseBits", "indexes", "[I", .ref ti), ("com/example/callweave/callweave/analysis/SparseBits", "words", "[J", .ref tw), ("com/example/callweave/callweave/analysis/SparseBits", "count", "I", .int (nI ws.length))]) ∈ F ∨ (o, ObjP A "com/example/callweave/callweave/analysis/SparseBits" [("com/example/callweave/callweave/analysis/SparseBits", "indexes", "[I", .ref ti), ("com/example/callweave/callweave/analysis/SparseBits", "words", "[J", .ref tw), ("com/example/callweave/callweave/analysis/SparseBits", "count", "I", .int (nI ws.length))]) ∈ G) (mw : (tw, ArrP A .long (lV (ws ++ zl))) ∈ F ∨ (tw, ArrP A .long (lV (ws ++ zl))) ∈ G) : Met A B_crd #[.ref o] F G (fun v F' G' => v = some (.int (nI (cardW ws))) ∧ F = F' ∧ G = G') := by
  refine MetW.of_go pn_crd K.ew (L := [.val (.ref o), .unset, .unset]) (fun m => rfl) ?_
  intro D _
  have loop : ∀ (s p : List Int64), ws = p ++ s → Go A B_crd D (fun v F' G' => v = some (.int (nI (cardW ws))) ∧ F = F' ∧ G = G') 4 [.val (.ref o), .val (.int (nI (cardW p))), .val (.int (nI p.length))] [] F G 0 0 := by
    intro s
    induction s with
    | nil =>
      intro p hp
      have e : ws = p := by simpa using hp
      refine Go.run (B := B_crd) td_crd 4 2 (pc' := 6) (L' := [.val (.ref o), .val (.int (nI (cardW p))), .val (.int (nI p.length))]) (S' := [.ref o, .int (nI p.length)]) rfl ?_
      refine Go.getfield (B := B_crd) td_crd 6 rfl (w_20 K) mo (List.mem_of_getElem? (i := 2) rfl) ?_
      refine Go.icmp (B := B_crd) td_crd 7 (pc' := 30) rfl (by decide) rfl (fun _ => ?_) (fun (h : ¬ ((nI p.length) ≥ (nI ws.length))) => absurd (by rw [e]; exact Int32.le_refl _) h)
      refine Go.run (B := B_crd) td_crd 18 1 (pc' := 31) (L' := [.val (.ref o), .val (.int (nI (cardW p))), .val (.int (nI p.length))]) (S' := [.int (nI (cardW p))]) rfl ?_
      exact Go.retI (B := B_crd) td_crd 19 rfl rfl ⟨by rw [e], rfl, rfl⟩ (by decide) (by decide)
    | cons y s ih =>
      intro p hp
      have ml : p.length < ws.length := by rw [hp]; simp
      have hih := ih (p ++ [y]) (by simp [hp])
      rw [cardW_snoc, ← nI_addn, List.length_append, List.length_singleton, nI_succ] at hih
      refine Go.run (B := B_crd) td_crd 4 2 (pc' := 6) (L' := [.val (.ref o), .val (.int (nI (cardW p))), .val (.int (nI p.length))]) (S' := [.ref o, .int (nI p.length)]) rfl ?_
      refine Go.getfield (B := B_crd) td_crd 6 rfl (w_20 K) mo (List.mem_of_getElem? (i := 2) rfl) ?_
      refine Go.icmp (B := B_crd) td_crd 7 (pc' := 30) rfl (by decide) rfl (fun (h : (nI p.length) ≥ (nI ws.length)) => absurd h (Int32.not_le.mpr ((nI_lt (by omega) (by omega)).mpr ml))) (fun _ => ?_)
      refine Go.run (B := B_crd) td_crd 8 2 (pc' := 14) (L' := [.val (.ref o), .val (.int (nI (cardW p))), .val (.int (nI p.length))]) (S' := [.ref o, .int (nI (cardW p))]) rfl ?_
      refine Go.getfield (B := B_crd) td_crd 10 rfl (w_13 K) mo (List.mem_of_getElem? (i := 1) rfl) ?_
      refine Go.run (B := B_crd) td_crd 11 1 (pc' := 18) (L' := [.val (.ref o), .val (.int (nI (cardW p))), .val (.int (nI p.length))]) (S' := [.int (nI p.length), .ref tw, .int (nI (cardW p))]) rfl ?_
      refine Go.laload (B := B_crd) td_crd 12 (v := .long y) rfl mw (nI_inB (by rw [List.length_map, List.length_append]; omega) (by rw [List.length_map, List.length_append]; omega)) (by rw [nI_nat (by omega)]; exact lV_get (by rw [hp]; simp)) ?_
      refine Go.callS (B := B_crd) td_crd 13 (B' := B_bct) (argsL := [.long y]) (rest := [.int (nI (cardW p))]) (W := 1) rfl (bct_met K) (w_61 K) (w_62 K) (w_63 K) (w_64 K) (by decide) pd_bct rfl rfl rfl rfl (Nat.le_of_eq rfl) (by decide) (by decide) (by decide) (by decide) ?_
      rintro _ _ _ ⟨rfl, rfl, rfl⟩
      show Go A B_crd D _ 22 [.val (.ref o), .val (.int (nI (cardW p))), .val (.int (nI p.length))] [.int (nI (popc 64 (tn y))), .int (nI (cardW p))] F G 0 0
      refine Go.run (B := B_crd) td_crd 14 4 (pc' := 4) (L' := [.val (.ref o), .val (.int ((nI (cardW p)) + (nI (popc 64 (tn y))))), .val (.int ((nI p.length) + (1 : Int32)))]) (S' := []) rfl ?_
      exact hih
  refine Go.run (B := B_crd) td_crd 0 4 (pc' := 4) (L' := [.val (.ref o), .val (.int (0 : Int32)), .val (.int (0 : Int32))]) (S' := []) rfl ?_
  exact loop ws [] rfl
--CUT
def tb_rck : List In1 := [(0, .iload_n 1, 1), (1, .iload_n 2, 1), (2, .if_icmp .le 44, 3), (5, .new 43, 3), (8, .dup, 1), (9, .new 45, 3), (12, .dup, 1), (13, .invokespecial 47, 3), (16, .ldc 48, 2), (18, .invokevirtual 50, 3), (21, .iload_n 1, 1), (22, .invokevirtual 54, 3), (25, .ldc 57, 2), (27, .invokevirtual 50, 3), (30, .iload_n 2, 1), (31, .invokevirtual 54, 3), (34, .ldc 59, 2), (36, .invokevirtual 50, 3), (39, .invokevirtual 61, 3), (42, .invokespecial 65, 3), (45, .athrow, 1), (46, .iload_n 1, 1), (47, .ifCond .ge 12, 3), (50, .new 68, 3), (53, .dup, 1), (54, .iload_n 1, 1), (55, .invokespecial 70, 3), (58, .athrow, 1), (59, .iload_n 2, 1), (60, .iload_n 0, 1), (61, .if_icmp .le 12, 3), (64, .new 68, 3), (67, .dup, 1), (68, .iload_n 2, 1), (69, .invokespecial 70, 3), (72, .athrow, 1), (73, .return_, 1)]
set_option maxRecDepth 65536 in
theorem td_rck : Dec jdk_65_method_30_code tb_rck := by unfold Dec; decide +kernel
theorem pd_rck : parseMethodDescriptor "(III)V" = some ⟨[.int, .int, .int], none⟩ := by decide +kernel
theorem pn_rck : plainFor (⟨"java/util/Arrays", "rangeCheck", "(III)V"⟩ : MethodName) = true := by decide +kernel
abbrev B_rck : Bx := ((⟨"java/util/Arrays", "rangeCheck", "(III)V"⟩ : MethodName), jdk_65_method_30_code, 3, (Option.none : Option Jvm.ClassFile.FieldType), ({ frames := 0, cells := 0, slots := 0, locals := 0 } : Room))
set_option maxRecDepth 65536 in
set_option maxHeartbeats 4000000 in
theorem rck_met {A : Ax} (K : Wd A) {n i j : Int32} (hi : 0 ≤ i.toInt ∧ i.toInt ≤ j.toInt ∧ j.toInt ≤ n.toInt) {F G : List Ent} : Met A B_rck #[.int n, .int i, .int j] F G (fun v F' G' => v = none ∧ F = F' ∧ G = G') := by
  refine MetW.of_go pn_rck K.ew (L := [.val (.int n), .val (.int i), .val (.int j)]) (fun m => rfl) ?_
  intro D _
  refine Go.run (B := B_rck) td_rck 0 2 (pc' := 2) (L' := [.val (.int n), .val (.int i), .val (.int j)]) (S' := [.int j, .int i]) rfl ?_
  refine Go.icmp (B := B_rck) td_rck 2 (pc' := 46) rfl (by decide) rfl (fun _ => ?_) (fun (h : ¬ (i ≤ j)) => absurd (i32_le.mpr hi.2.1) h)
  refine Go.run (B := B_rck) td_rck 21 1 (pc' := 47) (L' := [.val (.int n), .val (.int i), .val (.int j)]) (S' := [.int i]) rfl ?_
  refine Go.if0 (B := B_rck) td_rck 22 (pc' := 59) rfl (by decide) rfl (fun _ => ?_) (fun (h : ¬ (i ≥ 0)) => absurd (i32_le.mpr (by have : (0 : Int32).toInt = 0 := rfl; omega)) h)
  refine Go.run (B := B_rck) td_rck 28 2 (pc' := 61) (L' := [.val (.int n), .val (.int i), .val (.int j)]) (S' := [.int n, .int j]) rfl ?_
  refine Go.icmp (B := B_rck) td_rck 30 (pc' := 73) rfl (by decide) rfl (fun _ => ?_) (fun (h : ¬ (j ≤ n)) => absurd (i32_le.mpr hi.2.2) h)
  exact Go.retV (B := B_rck) td_rck 36 rfl rfl ⟨rfl, rfl, rfl⟩ (by decide) (by decide)
def tb_bs0 : List In1 := [(0, .iload_n 1, 1), (1, .istore 4, 2), (3, .iload_n 2, 1), (4, .iconst 1, 1), (5, .isub, 1), (6, .istore 5, 2), (8, .iload 4, 2), (10, .iload 5, 2), (12, .if_icmp .gt 54, 3), (15, .iload 4, 2), (17, .iload 5, 2), (19, .iadd, 1), (20, .iconst 1, 1), (21, .iushr, 1), (22, .istore 6, 2), (24, .aload_n 0, 1), (25, .iload 6, 2), (27, .iaload, 1), (28, .istore 7, 2), (30, .iload 7, 2), (32, .iload_n 3, 1), (33, .if_icmp .ge 12, 3), (36, .iload 6, 2), (38, .iconst 1, 1), (39, .iadd, 1), (40, .istore 4, 2), (42, .goto 21, 3), (45, .iload 7, 2), (47, .iload_n 3, 1), (48, .if_icmp .le 12, 3), (51, .iload 6, 2), (53, .iconst 1, 1), (54, .isub, 1), (55, .istore 5, 2), (57, .goto 6, 3), (60, .iload 6, 2), (62, .ireturn, 1), (63, .goto (-55), 3), (66, .iload 4, 2), (68, .iconst 1, 1), (69, .iadd, 1), (70, .ineg, 1), (71, .ireturn, 1)]
set_option maxRecDepth 65536 in
theorem td_bs0 : Dec jdk_65_method_59_code tb_bs0 := by unfold Dec; decide +kernel
theorem pd_bs0 : parseMethodDescriptor "([IIII)I" = some ⟨[(.array .int), .int, .int, .int], (some .int)⟩ := by decide +kernel
theorem pn_bs0 : plainFor (⟨"java/util/Arrays", "binarySearch0", "([IIII)I"⟩ : MethodName) = true := by decide +kernel
abbrev B_bs0 : Bx := ((⟨"java/util/Arrays", "binarySearch0", "([IIII)I"⟩ : MethodName), jdk_65_method_59_code, 8, (Option.some Jvm.ClassFile.FieldType.int), ({ frames := 0, cells := 0, slots := 0, locals := 0 } : Room))
/-- what binarySearch answers -/
def Fnd (xs : List Int32) (k r : Int32) (a b : Nat) : Prop := ∃ m, a ≤ m ∧ m ≤ b ∧ (∀ i, a ≤ i → i < m → (xs.getD i 0).toInt < k.toInt) ∧ ((r = nI m ∧ m < b ∧ xs.getD m 0 = k) ∨ (r = -(nI m + 1) ∧ ∀ i, m ≤ i → i < b → k.toInt < (xs.getD i 0).toInt))
set_option maxRecDepth 65536 in
set_option maxHeartbeats 4000000 in
theorem bs0_met {A : Ax} (K : Wd A) {t : Addr} {xs : List Int32} {k : Int32} {a b : Nat} (hab : a ≤ b) (hbl : b ≤ xs.length) (hxl : xs.length < 2 ^ 30) (hs : Srt xs b) {F G : List Ent} (m : (t, ArrP A .int (chV xs)) ∈ F ∨ (t, ArrP A .int (chV xs)) ∈ G) : Met A B_bs0 #[.ref t, .int (nI a), .int (nI b), .int k] F G (fun v F' G' => ∃ r, v = some (.int r) ∧ Fnd xs k r a b ∧ F = F' ∧ G = G') := by
  refine MetW.of_go pn_bs0 K.ew (L := [.val (.ref t), .val (.int (nI a)), .val (.int (nI b)), .val (.int k), .unset, .unset, .unset, .unset]) (fun m => rfl) ?_
  intro D _
  have loop : ∀ (d lo h : Nat) (o6 o7 : Slot), h - lo ≤ d → a ≤ lo → lo ≤ h → h ≤ b → (∀ i, a ≤ i → i < lo → (xs.getD i 0).toInt < k.toInt) → (∀ i, h ≤ i → i < b → k.toInt < (xs.getD i 0).toInt) → ((o6 = .unset ∧ o7 = .unset) ∨ ∃ y z, o6 = .val (.int y) ∧ o7 = .val (.int z)) → Go A B_bs0 D (fun v F' G' => ∃ r, v = some (.int r) ∧ Fnd xs k r a b ∧ F = F' ∧ G = G') 8 [.val (.ref t), .val (.int (nI a)), .val (.int (nI b)), .val (.int k), .val (.int (nI lo)), .val (.int (nI h - (1 : Int32))), o6, o7] [] F G 0 0 := by
    intro d
    induction d with
    | zero =>
      intro lo h o6 o7 hd hlo hlh hhb hA hB ho
      have hge : ¬ lo < h := by omega
      rcases ho with ⟨rfl, rfl⟩ | ⟨y6, y7, rfl, rfl⟩
      · refine Go.run (B := B_bs0) td_bs0 6 2 (pc' := 12) (L' := [.val (.ref t), .val (.int (nI a)), .val (.int (nI b)), .val (.int k), .val (.int (nI lo)), .val (.int (nI h - (1 : Int32))), .unset, .unset]) (S' := [.int (nI h - (1 : Int32)), .int (nI lo)]) rfl ?_
        refine Go.icmp (B := B_bs0) td_bs0 8 (pc' := 66) rfl (by decide) rfl (fun _ => ?_) (fun (h : ¬ ((nI lo) > (nI h - (1 : Int32)))) => absurd (i32_lt.mpr (by rw [pred_toInt (by omega), nI_toInt (by omega)]; omega)) h)
        refine Go.run (B := B_bs0) td_bs0 38 4 (pc' := 71) (L' := [.val (.ref t), .val (.int (nI a)), .val (.int (nI b)), .val (.int k), .val (.int (nI lo)), .val (.int (nI h - (1 : Int32))), .unset, .unset]) (S' := [.int (-((nI lo) + (1 : Int32)))]) rfl ?_
        exact Go.retI (B := B_bs0) td_bs0 42 rfl rfl ⟨_, rfl, ⟨lo, hlo, by omega, hA, Or.inr ⟨rfl, fun i h1 h2 => hB i (by omega) h2⟩⟩, rfl, rfl⟩ (by decide) (by decide)
      · refine Go.run (B := B_bs0) td_bs0 6 2 (pc' := 12) (L' := [.val (.ref t), .val (.int (nI a)), .val (.int (nI b)), .val (.int k), .val (.int (nI lo)), .val (.int (nI h - (1 : Int32))), .val (.int y6), .val (.int y7)]) (S' := [.int (nI h - (1 : Int32)), .int (nI lo)]) rfl ?_
        refine Go.icmp (B := B_bs0) td_bs0 8 (pc' := 66) rfl (by decide) rfl (fun _ => ?_) (fun (h : ¬ ((nI lo) > (nI h - (1 : Int32)))) => absurd (i32_lt.mpr (by rw [pred_toInt (by omega), nI_toInt (by omega)]; omega)) h)
        refine Go.run (B := B_bs0) td_bs0 38 4 (pc' := 71) (L' := [.val (.ref t), .val (.int (nI a)), .val (.int (nI b)), .val (.int k), .val (.int (nI lo)), .val (.int (nI h - (1 : Int32))), .val (.int y6), .val (.int y7)]) (S' := [.int (-((nI lo) + (1 : Int32)))]) rfl ?_
        exact Go.retI (B := B_bs0) td_bs0 42 rfl rfl ⟨_, rfl, ⟨lo, hlo, by omega, hA, Or.inr ⟨rfl, fun i h1 h2 => hB i (by omega) h2⟩⟩, rfl, rfl⟩ (by decide) (by decide)
    | succ d ih =>
      intro lo h o6 o7 hd hlo hlh hhb hA hB ho
      by_cases hge : ¬ lo < h
      · rcases ho with ⟨rfl, rfl⟩ | ⟨y6, y7, rfl, rfl⟩
        · refine Go.run (B := B_bs0) td_bs0 6 2 (pc' := 12) (L' := [.val (.ref t), .val (.int (nI a)), .val (.int (nI b)), .val (.int k), .val (.int (nI lo)), .val (.int (nI h - (1 : Int32))), .unset, .unset]) (S' := [.int (nI h - (1 : Int32)), .int (nI lo)]) rfl ?_
          refine Go.icmp (B := B_bs0) td_bs0 8 (pc' := 66) rfl (by decide) rfl (fun _ => ?_) (fun (h : ¬ ((nI lo) > (nI h - (1 : Int32)))) => absurd (i32_lt.mpr (by rw [pred_toInt (by omega), nI_toInt (by omega)]; omega)) h)
          refine Go.run (B := B_bs0) td_bs0 38 4 (pc' := 71) (L' := [.val (.ref t), .val (.int (nI a)), .val (.int (nI b)), .val (.int k), .val (.int (nI lo)), .val (.int (nI h - (1 : Int32))), .unset, .unset]) (S' := [.int (-((nI lo) + (1 : Int32)))]) rfl ?_
          exact Go.retI (B := B_bs0) td_bs0 42 rfl rfl ⟨_, rfl, ⟨lo, hlo, by omega, hA, Or.inr ⟨rfl, fun i h1 h2 => hB i (by omega) h2⟩⟩, rfl, rfl⟩ (by decide) (by decide)
        · refine Go.run (B := B_bs0) td_bs0 6 2 (pc' := 12) (L' := [.val (.ref t), .val (.int (nI a)), .val (.int (nI b)), .val (.int k), .val (.int (nI lo)), .val (.int (nI h - (1 : Int32))), .val (.int y6), .val (.int y7)]) (S' := [.int (nI h - (1 : Int32)), .int (nI lo)]) rfl ?_
          refine Go.icmp (B := B_bs0) td_bs0 8 (pc' := 66) rfl (by decide) rfl (fun _ => ?_) (fun (h : ¬ ((nI lo) > (nI h - (1 : Int32)))) => absurd (i32_lt.mpr (by rw [pred_toInt (by omega), nI_toInt (by omega)]; omega)) h)
          refine Go.run (B := B_bs0) td_bs0 38 4 (pc' := 71) (L' := [.val (.ref t), .val (.int (nI a)), .val (.int (nI b)), .val (.int k), .val (.int (nI lo)), .val (.int (nI h - (1 : Int32))), .val (.int y6), .val (.int y7)]) (S' := [.int (-((nI lo) + (1 : Int32)))]) rfl ?_
          exact Go.retI (B := B_bs0) td_bs0 42 rfl rfl ⟨_, rfl, ⟨lo, hlo, by omega, hA, Or.inr ⟨rfl, fun i h1 h2 => hB i (by omega) h2⟩⟩, rfl, rfl⟩ (by decide) (by decide)
      · have hlt : lo < h := Decidable.not_not.mp hge
        have hmid : lo ≤ (lo + h - 1) / 2 ∧ (lo + h - 1) / 2 < h := by omega
        obtain ⟨mi, hmi⟩ : ∃ mi, mi = (lo + h - 1) / 2 := ⟨_, rfl⟩
        rw [← hmi] at hmid
        have hme := mid_eq hlt (by omega)
        rw [← hmi] at hme
        have up : (xs.getD mi 0).toInt < k.toInt → ∀ i, a ≤ i → i < mi + 1 → (xs.getD i 0).toInt < k.toInt := fun z i h1 h2 => by
          by_cases q : i = mi
          · rw [q]; exact z
          · have := hs i mi (by omega) (by omega); omega
        have dn : k.toInt < (xs.getD mi 0).toInt → ∀ i, mi ≤ i → i < b → k.toInt < (xs.getD i 0).toInt := fun z i h1 h2 => by
          by_cases q : i = mi
          · rw [q]; exact z
          · have := hs mi i (by omega) (by omega); omega
        rcases ho with ⟨rfl, rfl⟩ | ⟨y6, y7, rfl, rfl⟩
        · refine Go.run (B := B_bs0) td_bs0 6 2 (pc' := 12) (L' := [.val (.ref t), .val (.int (nI a)), .val (.int (nI b)), .val (.int k), .val (.int (nI lo)), .val (.int (nI h - (1 : Int32))), .unset, .unset]) (S' := [.int (nI h - (1 : Int32)), .int (nI lo)]) rfl ?_
          refine Go.icmp (B := B_bs0) td_bs0 8 (pc' := 66) rfl (by decide) rfl (fun (h : (nI lo) > (nI h - (1 : Int32))) => absurd h (fun z => absurd (i32_lt.mp z) (by rw [pred_toInt (by omega), nI_toInt (by omega)]; omega))) (fun _ => ?_)
          refine Go.run (B := B_bs0) td_bs0 9 5 (pc' := 22) (L' := [.val (.ref t), .val (.int (nI a)), .val (.int (nI b)), .val (.int k), .val (.int (nI lo)), .val (.int (nI h - (1 : Int32))), .unset, .unset]) (S' := [.int (Jvm.Free.XT.ushr ((nI lo) + (nI h - (1 : Int32))) (1 : Int32))]) rfl ?_
          rw [hme]
          show Go A B_bs0 D _ 22 [.val (.ref t), .val (.int (nI a)), .val (.int (nI b)), .val (.int k), .val (.int (nI lo)), .val (.int (nI h - (1 : Int32))), .unset, .unset] [.int (nI mi)] F G 0 0
          refine Go.run (B := B_bs0) td_bs0 14 3 (pc' := 27) (L' := [.val (.ref t), .val (.int (nI a)), .val (.int (nI b)), .val (.int k), .val (.int (nI lo)), .val (.int (nI h - (1 : Int32))), .val (.int (nI mi)), .unset]) (S' := [.int (nI mi), .ref t]) rfl ?_
          refine Go.iaload (B := B_bs0) td_bs0 17 (v := .int (xs.getD mi 0)) rfl m (by rw [List.length_map]; exact nI_inB (by omega) (by omega)) (by rw [nI_nat (by omega)]; exact chV_get (getD_get (by omega))) ?_
          refine Go.run (B := B_bs0) td_bs0 18 3 (pc' := 33) (L' := [.val (.ref t), .val (.int (nI a)), .val (.int (nI b)), .val (.int k), .val (.int (nI lo)), .val (.int (nI h - (1 : Int32))), .val (.int (nI mi)), .val (.int (xs.getD mi 0))]) (S' := [.int k, .int (xs.getD mi 0)]) rfl ?_
          refine Go.icmp (B := B_bs0) td_bs0 21 (pc' := 45) rfl (by decide) rfl ?_ ?_
          · intro (g1 : (xs.getD mi 0) ≥ k)
            refine Go.run (B := B_bs0) td_bs0 27 2 (pc' := 48) (L' := [.val (.ref t), .val (.int (nI a)), .val (.int (nI b)), .val (.int k), .val (.int (nI lo)), .val (.int (nI h - (1 : Int32))), .val (.int (nI mi)), .val (.int (xs.getD mi 0))]) (S' := [.int k, .int (xs.getD mi 0)]) rfl ?_
            refine Go.icmp (B := B_bs0) td_bs0 29 (pc' := 60) rfl (by decide) rfl ?_ ?_
            · intro (g2 : (xs.getD mi 0) ≤ k)
              refine Go.run (B := B_bs0) td_bs0 35 1 (pc' := 62) (L' := [.val (.ref t), .val (.int (nI a)), .val (.int (nI b)), .val (.int k), .val (.int (nI lo)), .val (.int (nI h - (1 : Int32))), .val (.int (nI mi)), .val (.int (xs.getD mi 0))]) (S' := [.int (nI mi)]) rfl ?_
              exact Go.retI (B := B_bs0) td_bs0 36 rfl rfl ⟨_, rfl, ⟨mi, by omega, by omega, fun i q1 q2 => by have := hs i mi q2 (by omega); have h2 := i32_le.mp g2; omega, Or.inl ⟨rfl, by omega, by rw [i32_eq]; have h1 := i32_le.mp g1; have h2 := i32_le.mp g2; omega⟩⟩, rfl, rfl⟩ (by decide) (by decide)
            · intro (g2 : ¬ ((xs.getD mi 0) ≤ k))
              refine Go.run (B := B_bs0) td_bs0 30 5 (pc' := 63) (L' := [.val (.ref t), .val (.int (nI a)), .val (.int (nI b)), .val (.int k), .val (.int (nI lo)), .val (.int ((nI mi) - (1 : Int32))), .val (.int (nI mi)), .val (.int (xs.getD mi 0))]) (S' := []) rfl ?_
              refine Go.run (B := B_bs0) td_bs0 37 1 (pc' := 8) (L' := [.val (.ref t), .val (.int (nI a)), .val (.int (nI b)), .val (.int k), .val (.int (nI lo)), .val (.int ((nI mi) - (1 : Int32))), .val (.int (nI mi)), .val (.int (xs.getD mi 0))]) (S' := []) rfl ?_
              have hlt2 : k.toInt < (xs.getD mi 0).toInt := by have h2 := i32_lt.mp (Int32.not_le.mp g2); exact h2
              exact ih lo mi _ _ (by omega) hlo (by omega) (by omega) hA (dn hlt2) (Or.inr ⟨_, _, rfl, rfl⟩)
          · intro (g1 : ¬ ((xs.getD mi 0) ≥ k))
            refine Go.run (B := B_bs0) td_bs0 22 5 (pc' := 63) (L' := [.val (.ref t), .val (.int (nI a)), .val (.int (nI b)), .val (.int k), .val (.int ((nI mi) + (1 : Int32))), .val (.int (nI h - (1 : Int32))), .val (.int (nI mi)), .val (.int (xs.getD mi 0))]) (S' := []) rfl ?_
            refine Go.run (B := B_bs0) td_bs0 37 1 (pc' := 8) (L' := [.val (.ref t), .val (.int (nI a)), .val (.int (nI b)), .val (.int k), .val (.int ((nI mi) + (1 : Int32))), .val (.int (nI h - (1 : Int32))), .val (.int (nI mi)), .val (.int (xs.getD mi 0))]) (S' := []) rfl ?_
            have hlt2 : (xs.getD mi 0).toInt < k.toInt := i32_lt.mp (Int32.not_le.mp g1)
            have q := ih (mi + 1) h (.val (.int (nI mi))) (.val (.int (xs.getD mi 0))) (by omega) (by omega) (by omega) hhb (up hlt2) hB (Or.inr ⟨_, _, rfl, rfl⟩)
            rw [nI_succ] at q
            exact q
        · refine Go.run (B := B_bs0) td_bs0 6 2 (pc' := 12) (L' := [.val (.ref t), .val (.int (nI a)), .val (.int (nI b)), .val (.int k), .val (.int (nI lo)), .val (.int (nI h - (1 : Int32))), .val (.int y6), .val (.int y7)]) (S' := [.int (nI h - (1 : Int32)), .int (nI lo)]) rfl ?_
          refine Go.icmp (B := B_bs0) td_bs0 8 (pc' := 66) rfl (by decide) rfl (fun (h : (nI lo) > (nI h - (1 : Int32))) => absurd h (fun z => absurd (i32_lt.mp z) (by rw [pred_toInt (by omega), nI_toInt (by omega)]; omega))) (fun _ => ?_)
          refine Go.run (B := B_bs0) td_bs0 9 5 (pc' := 22) (L' := [.val (.ref t), .val (.int (nI a)), .val (.int (nI b)), .val (.int k), .val (.int (nI lo)), .val (.int (nI h - (1 : Int32))), .val (.int y6), .val (.int y7)]) (S' := [.int (Jvm.Free.XT.ushr ((nI lo) + (nI h - (1 : Int32))) (1 : Int32))]) rfl ?_
          rw [hme]
          show Go A B_bs0 D _ 22 [.val (.ref t), .val (.int (nI a)), .val (.int (nI b)), .val (.int k), .val (.int (nI lo)), .val (.int (nI h - (1 : Int32))), .val (.int y6), .val (.int y7)] [.int (nI mi)] F G 0 0
          refine Go.run (B := B_bs0) td_bs0 14 3 (pc' := 27) (L' := [.val (.ref t), .val (.int (nI a)), .val (.int (nI b)), .val (.int k), .val (.int (nI lo)), .val (.int (nI h - (1 : Int32))), .val (.int (nI mi)), .val (.int y7)]) (S' := [.int (nI mi), .ref t]) rfl ?_
          refine Go.iaload (B := B_bs0) td_bs0 17 (v := .int (xs.getD mi 0)) rfl m (by rw [List.length_map]; exact nI_inB (by omega) (by omega)) (by rw [nI_nat (by omega)]; exact chV_get (getD_get (by omega))) ?_
          refine Go.run (B := B_bs0) td_bs0 18 3 (pc' := 33) (L' := [.val (.ref t), .val (.int (nI a)), .val (.int (nI b)), .val (.int k), .val (.int (nI lo)), .val (.int (nI h - (1 : Int32))), .val (.int (nI mi)), .val (.int (xs.getD mi 0))]) (S' := [.int k, .int (xs.getD mi 0)]) rfl ?_
          refine Go.icmp (B := B_bs0) td_bs0 21 (pc' := 45) rfl (by decide) rfl ?_ ?_
          · intro (g1 : (xs.getD mi 0) ≥ k)
            refine Go.run (B := B_bs0) td_bs0 27 2 (pc' := 48) (L' := [.val (.ref t), .val (.int (nI a)), .val (.int (nI b)), .val (.int k), .val (.int (nI lo)), .val (.int (nI h - (1 : Int32))), .val (.int (nI mi)), .val (.int (xs.getD mi 0))]) (S' := [.int k, .int (xs.getD mi 0)]) rfl ?_
            refine Go.icmp (B := B_bs0) td_bs0 29 (pc' := 60) rfl (by decide) rfl ?_ ?_
            · intro (g2 : (xs.getD mi 0) ≤ k)
              refine Go.run (B := B_bs0) td_bs0 35 1 (pc' := 62) (L' := [.val (.ref t), .val (.int (nI a)), .val (.int (nI b)), .val (.int k), .val (.int (nI lo)), .val (.int (nI h - (1 : Int32))), .val (.int (nI mi)), .val (.int (xs.getD mi 0))]) (S' := [.int (nI mi)]) rfl ?_
              exact Go.retI (B := B_bs0) td_bs0 36 rfl rfl ⟨_, rfl, ⟨mi, by omega, by omega, fun i q1 q2 => by have := hs i mi q2 (by omega); have h2 := i32_le.mp g2; omega, Or.inl ⟨rfl, by omega, by rw [i32_eq]; have h1 := i32_le.mp g1; have h2 := i32_le.mp g2; omega⟩⟩, rfl, rfl⟩ (by decide) (by decide)
            · intro (g2 : ¬ ((xs.getD mi 0) ≤ k))
              refine Go.run (B := B_bs0) td_bs0 30 5 (pc' := 63) (L' := [.val (.ref t), .val (.int (nI a)), .val (.int (nI b)), .val (.int k), .val (.int (nI lo)), .val (.int ((nI mi) - (1 : Int32))), .val (.int (nI mi)), .val (.int (xs.getD mi 0))]) (S' := []) rfl ?_
              refine Go.run (B := B_bs0) td_bs0 37 1 (pc' := 8) (L' := [.val (.ref t), .val (.int (nI a)), .val (.int (nI b)), .val (.int k), .val (.int (nI lo)), .val (.int ((nI mi) - (1 : Int32))), .val (.int (nI mi)), .val (.int (xs.getD mi 0))]) (S' := []) rfl ?_
              have hlt2 : k.toInt < (xs.getD mi 0).toInt := by have h2 := i32_lt.mp (Int32.not_le.mp g2); exact h2
              exact ih lo mi _ _ (by omega) hlo (by omega) (by omega) hA (dn hlt2) (Or.inr ⟨_, _, rfl, rfl⟩)
          · intro (g1 : ¬ ((xs.getD mi 0) ≥ k))
            refine Go.run (B := B_bs0) td_bs0 22 5 (pc' := 63) (L' := [.val (.ref t), .val (.int (nI a)), .val (.int (nI b)), .val (.int k), .val (.int ((nI mi) + (1 : Int32))), .val (.int (nI h - (1 : Int32))), .val (.int (nI mi)), .val (.int (xs.getD mi 0))]) (S' := []) rfl ?_
            refine Go.run (B := B_bs0) td_bs0 37 1 (pc' := 8) (L' := [.val (.ref t), .val (.int (nI a)), .val (.int (nI b)), .val (.int k), .val (.int ((nI mi) + (1 : Int32))), .val (.int (nI h - (1 : Int32))), .val (.int (nI mi)), .val (.int (xs.getD mi 0))]) (S' := []) rfl ?_
            have hlt2 : (xs.getD mi 0).toInt < k.toInt := i32_lt.mp (Int32.not_le.mp g1)
            have q := ih (mi + 1) h (.val (.int (nI mi))) (.val (.int (xs.getD mi 0))) (by omega) (by omega) (by omega) hhb (up hlt2) hB (Or.inr ⟨_, _, rfl, rfl⟩)
            rw [nI_succ] at q
            exact q
  refine Go.run (B := B_bs0) td_bs0 0 6 (pc' := 8) (L' := [.val (.ref t), .val (.int (nI a)), .val (.int (nI b)), .val (.int k), .val (.int (nI a)), .val (.int ((nI b) - (1 : Int32))), .unset, .unset]) (S' := []) rfl ?_
  exact loop (b - a) a b .unset .unset (by omega) (Nat.le_refl _) hab (Nat.le_refl _) (fun i h1 h2 => by omega) (fun i h1 h2 => by omega) (Or.inl ⟨rfl, rfl⟩)
def tb_bsr : List In1 := [(0, .aload_n 0, 1), (1, .arraylength, 1), (2, .iload_n 1, 1), (3, .iload_n 2, 1), (4, .invokestatic 13, 3), (7, .aload_n 0, 1), (8, .iload_n 1, 1), (9, .iload_n 2, 1), (10, .iload_n 3, 1), (11, .invokestatic 209, 3), (14, .ireturn, 1)]
set_option maxRecDepth 65536 in
theorem td_bsr : Dec jdk_65_method_58_code tb_bsr := by unfold Dec; decide +kernel
theorem pd_bsr : parseMethodDescriptor "([IIII)I" = some ⟨[(.array .int), .int, .int, .int], (some .int)⟩ := by decide +kernel
theorem pn_bsr : plainFor (⟨"java/util/Arrays", "binarySearch", "([IIII)I"⟩ : MethodName) = true := by decide +kernel
abbrev B_bsr : Bx := ((⟨"java/util/Arrays", "binarySearch", "([IIII)I"⟩ : MethodName), jdk_65_method_58_code, 4, (Option.some Jvm.ClassFile.FieldType.int), ({ frames := 1, cells := 0, slots := 0, locals := 19 } : Room))
set_option maxRecDepth 65536 in
set_option maxHeartbeats 4000000 in
theorem bsr_met {A : Ax} (K : Wd A) {t : Addr} {xs : List Int32} {k : Int32} {a b : Nat} (hab : a ≤ b) (hbl : b ≤ xs.length) (hxl : xs.length < 2 ^ 30) (hs : Srt xs b) {F G : List Ent} (m : (t, ArrP A .int (chV xs)) ∈ F ∨ (t, ArrP A .int (chV xs)) ∈ G) : Met A B_bsr #[.ref t, .int (nI a), .int (nI b), .int k] F G (fun v F' G' => ∃ r, v = some (.int r) ∧ Fnd xs k r a b ∧ F = F' ∧ G = G') := by
  refine MetW.of_go pn_bsr K.ew (L := [.val (.ref t), .val (.int (nI a)), .val (.int (nI b)), .val (.int k)]) (fun m => rfl) ?_
  intro D _
  refine Go.run (B := B_bsr) td_bsr 0 1 (pc' := 1) (L' := [.val (.ref t), .val (.int (nI a)), .val (.int (nI b)), .val (.int k)]) (S' := [.ref t]) rfl ?_
  refine Go.arraylength (B := B_bsr) td_bsr 1 (z := (nI xs.length)) rfl m (by rw [List.length_map, nI_toInt (by omega)]) ?_
  refine Go.run (B := B_bsr) td_bsr 2 2 (pc' := 4) (L' := [.val (.ref t), .val (.int (nI a)), .val (.int (nI b)), .val (.int k)]) (S' := [.int (nI b), .int (nI a), .int (nI xs.length)]) rfl ?_
  refine Go.callS (B := B_bsr) td_bsr 4 (B' := B_rck) (argsL := [.int (nI xs.length), .int (nI a), .int (nI b)]) (rest := []) (W := 0) rfl (rck_met K ⟨by rw [nI_toInt (by omega)]; omega, by rw [nI_toInt (by omega), nI_toInt (by omega)]; omega, by rw [nI_toInt (by omega), nI_toInt (by omega)]; omega⟩) (w_45 K) (w_46 K) (w_43 K) (w_47 K) (by decide) pd_rck rfl rfl rfl rfl (Nat.le_of_eq rfl) (by decide) (by decide) (by decide) (by decide) ?_
  rintro _ _ _ ⟨rfl, rfl, rfl⟩
  show Go A B_bsr D _ 7 [.val (.ref t), .val (.int (nI a)), .val (.int (nI b)), .val (.int k)] [] F G 0 0
  refine Go.run (B := B_bsr) td_bsr 5 4 (pc' := 11) (L' := [.val (.ref t), .val (.int (nI a)), .val (.int (nI b)), .val (.int k)]) (S' := [.int k, .int (nI b), .int (nI a), .ref t]) rfl ?_
  refine Go.callS (B := B_bsr) td_bsr 9 (B' := B_bs0) (argsL := [.ref t, .int (nI a), .int (nI b), .int k]) (rest := []) (W := 0) rfl (bs0_met K hab hbl hxl hs m) (w_48 K) (w_49 K) (w_43 K) (w_50 K) (by decide) pd_bs0 rfl rfl rfl rfl (Nat.le_of_eq rfl) (by decide) (by decide) (by decide) (by decide) ?_
  rintro _ _ _ ⟨r, rfl, hr, rfl, rfl⟩
  show Go A B_bsr D _ 14 [.val (.ref t), .val (.int (nI a)), .val (.int (nI b)), .val (.int k)] [.int r] F G 0 0
  exact Go.retI (B := B_bsr) td_bsr 10 rfl rfl ⟨r, rfl, hr, rfl, rfl⟩ (by decide) (by decide)
--CUT
def tb_sek : List In1 := [(0, .iload_n 2, 1), (1, .istore_n 3, 1), (2, .iload_n 2, 1), (3, .istore 4, 2), (5, .iconst 1, 1), (6, .istore 5, 2), (8, .iload 4, 2), (10, .aload_n 0, 1), (11, .getfield 22, 3), (14, .if_icmp .ge 35, 3), (17, .aload_n 0, 1), (18, .getfield 7, 3), (21, .iload 4, 2), (23, .iaload, 1), (24, .iload_n 1, 1), (25, .if_icmp .ge 24, 3), (28, .iload 4, 2), (30, .iconst 1, 1), (31, .iadd, 1), (32, .istore_n 3, 1), (33, .iload 4, 2), (35, .iload 5, 2), (37, .iadd, 1), (38, .istore 4, 2), (40, .iload 5, 2), (42, .iconst 1, 1), (43, .ishl, 1), (44, .istore 5, 2), (46, .goto (-38), 3), (49, .aload_n 0, 1), (50, .getfield 7, 3), (53, .iload_n 3, 1), (54, .iload 4, 2), (56, .aload_n 0, 1), (57, .getfield 22, 3), (60, .invokestatic 38, 3), (63, .iload_n 1, 1), (64, .invokestatic 43, 3), (67, .istore 6, 2), (69, .iload 6, 2), (71, .ifCond .lt 8, 3), (74, .iload 6, 2), (76, .goto 8, 3), (79, .iload 6, 2), (81, .ineg, 1), (82, .iconst 1, 1), (83, .isub, 1), (84, .ireturn, 1)]
set_option maxRecDepth 65536 in
theorem td_sek : Dec prog_1_method_8_code tb_sek := by unfold Dec; decide +kernel
theorem pd_sek : parseMethodDescriptor "(II)I" = some ⟨[.int, .int], (some .int)⟩ := by decide +kernel
theorem pn_sek : plainFor (⟨"com/example/callweave/callweave/analysis/SparseBits", "seek", "(II)I"⟩ : MethodName) = true := by decide +kernel
abbrev B_sek : Bx := ((⟨"com/example/callweave/callweave/analysis/SparseBits", "seek", "(II)I"⟩ : MethodName), prog_1_method_8_code, 7, (Option.some Jvm.ClassFile.FieldType.int), ({ frames := 2, cells := 0, slots := 0, locals := 34 } : Room))
/-- m is where k belongs among the first c -/
def Lb (xs : List Int32) (k : Int32) (m c : Nat) : Prop := m ≤ c ∧ (∀ i, i < m → (xs.getD i 0).toInt < k.toInt) ∧ (∀ i, m ≤ i → i < c → k.toInt ≤ (xs.getD i 0).toInt)
theorem lb_fnd {xs : List Int32} {k r : Int32} {lo h c m : Nat} (hs : Srt xs c) (hlo : ∀ i, i < lo → (xs.getD i 0).toInt < k.toInt) (hx : h < c → k.toInt ≤ (xs.getD h 0).toInt) (_ : Fnd xs k r lo (min h c)) (h1 : lo ≤ m) (h2 : m ≤ min h c) (h3 : ∀ i, lo ≤ i → i < m → (xs.getD i 0).toInt < k.toInt) (h4 : (r = nI m ∧ m < min h c ∧ xs.getD m 0 = k) ∨ (r = -(nI m + 1) ∧ ∀ i, m ≤ i → i < min h c → k.toInt < (xs.getD i 0).toInt)) : Lb xs k m c := by
  refine ⟨by omega, fun i q => ?_, fun i q1 q2 => ?_⟩
  · by_cases z : i < lo
    · exact hlo i z
    · exact h3 i (by omega) q
  · rcases h4 with ⟨-, z1, z2⟩ | ⟨-, z⟩
    · by_cases e : i = m
      · rw [e, z2]; omega
      · have := hs m i (by omega) q2; rw [z2] at this; omega
    · by_cases e : i < min h c
      · have := z i q1 e; omega
      · have e1 : h < c := by omega
        have := hx e1
        by_cases e2 : i = h
        · rw [e2]; exact this
        · have := hs h i (by omega) q2; omega
set_option maxRecDepth 65536 in
set_option maxHeartbeats 4000000 in
theorem sek_met {A : Ax} (K : Wd A) {o ti tw : Addr} {xs : List Int32} {k : Int32} {c : Nat} (hcl : c ≤ xs.length) (hxl : xs.length < 2 ^ 20) (hs : Srt xs c) {F G : List Ent} (mo : (o, ObjP A "com/example/callweave/callweave/analysis/SparseBits" [("com/example/callweave/callweave/analysis/SparseBits", "indexes", "[I", .ref ti), ("com/example/callweave/callweave/analysis/SparseBits", "words", "[J", .ref tw), ("com/example/callweave/callweave/analysis/SparseBits", "count", "I", .int (nI c))]) ∈ F ∨ (o, ObjP A "com/example/callweave/callweave/analysis/SparseBits" [("com/example/callweave/callweave/analysis/SparseBits", "indexes", "[I", .ref ti), ("com/example/callweave/callweave/analysis/SparseBits", "words", "[J", .ref tw), ("com/example/callweave/callweave/analysis/SparseBits", "count", "I", .int (nI c))]) ∈ G) (mi : (ti, ArrP A .int (chV xs)) ∈ F ∨ (ti, ArrP A .int (chV xs)) ∈ G) : Met A B_sek #[.ref o, .int k, .int (nI 0)] F G (fun v F' G' => ∃ m, v = some (.int (nI m)) ∧ Lb xs k m c ∧ F = F' ∧ G = G') := by
  refine MetW.of_go pn_sek K.ew (L := [.val (.ref o), .val (.int k), .val (.int (nI 0)), .unset, .unset, .unset, .unset]) (fun m => rfl) ?_
  intro D _
  have loop : ∀ (d lo h : Nat), c - h ≤ d → lo ≤ h → lo ≤ c → h < 2 ^ 28 → (∀ i, i < lo → (xs.getD i 0).toInt < k.toInt) → Go A B_sek D (fun v F' G' => ∃ m, v = some (.int (nI m)) ∧ Lb xs k m c ∧ F = F' ∧ G = G') 8 [.val (.ref o), .val (.int k), .val (.int (nI 0)), .val (.int (nI lo)), .val (.int (nI h)), .val (.int (nI (h + 1))), .unset] [] F G 0 0 := by
    intro d
    induction d with
    | zero =>
      intro lo h hd hlh hlc hh hA
      have hx : h < c → k.toInt ≤ (xs.getD h 0).toInt := fun z => by omega
      refine Go.run (B := B_sek) td_sek 6 2 (pc' := 11) (L' := [.val (.ref o), .val (.int k), .val (.int (nI 0)), .val (.int (nI lo)), .val (.int (nI h)), .val (.int (nI (h + 1))), .unset]) (S' := [.ref o, .int (nI h)]) rfl ?_
      refine Go.getfield (B := B_sek) td_sek 8 rfl (w_20 K) mo (List.mem_of_getElem? (i := 2) rfl) ?_
      refine Go.icmp (B := B_sek) td_sek 9 (pc' := 49) rfl (by decide) rfl (fun _ => ?_) (fun (h : ¬ ((nI h) ≥ (nI c))) => absurd ((nI_le (by omega) (by omega)).mpr (by omega)) h)
      refine Go.run (B := B_sek) td_sek 29 1 (pc' := 50) (L' := [.val (.ref o), .val (.int k), .val (.int (nI 0)), .val (.int (nI lo)), .val (.int (nI h)), .val (.int (nI (h + 1))), .unset]) (S' := [.ref o]) rfl ?_
      refine Go.getfield (B := B_sek) td_sek 30 rfl (w_10 K) mo (List.mem_of_getElem? (i := 0) rfl) ?_
      refine Go.run (B := B_sek) td_sek 31 3 (pc' := 57) (L' := [.val (.ref o), .val (.int k), .val (.int (nI 0)), .val (.int (nI lo)), .val (.int (nI h)), .val (.int (nI (h + 1))), .unset]) (S' := [.ref o, .int (nI h), .int (nI lo), .ref ti]) rfl ?_
      refine Go.getfield (B := B_sek) td_sek 34 rfl (w_20 K) mo (List.mem_of_getElem? (i := 2) rfl) ?_
      refine Go.callS (B := B_sek) td_sek 35 (B' := B_mn) (argsL := [.int (nI h), .int (nI c)]) (rest := [.int (nI lo), .ref ti]) (W := 2) rfl (mn_met K (r := nI (min h c)) (by split; rename_i z; rw [gt_iff_lt, nI_lt (by omega) (by omega)] at z; rw [Nat.min_eq_right (by omega)]; rename_i z; rw [gt_iff_lt, nI_lt (by omega) (by omega)] at z; rw [Nat.min_eq_left (by omega)])) (w_37 K) (w_38 K) (w_39 K) (w_40 K) (by decide) pd_mn rfl rfl rfl rfl (Nat.le_of_eq rfl) (by decide) (by decide) (by decide) (by decide) ?_
      rintro _ _ _ ⟨rfl, rfl, rfl⟩
      show Go A B_sek D _ 63 [.val (.ref o), .val (.int k), .val (.int (nI 0)), .val (.int (nI lo)), .val (.int (nI h)), .val (.int (nI (h + 1))), .unset] [.int (nI (min h c)), .int (nI lo), .ref ti] F G 0 0
      refine Go.run (B := B_sek) td_sek 36 1 (pc' := 64) (L' := [.val (.ref o), .val (.int k), .val (.int (nI 0)), .val (.int (nI lo)), .val (.int (nI h)), .val (.int (nI (h + 1))), .unset]) (S' := [.int k, .int (nI (min h c)), .int (nI lo), .ref ti]) rfl ?_
      refine Go.callS (B := B_sek) td_sek 37 (B' := B_bsr) (argsL := [.ref ti, .int (nI lo), .int (nI (min h c)), .int k]) (rest := []) (W := 0) rfl (bsr_met K (by omega) (by omega) (by omega) (fun i j h1 h2 => hs i j h1 (by omega)) mi) (w_41 K) (w_42 K) (w_43 K) (w_44 K) (by decide) pd_bsr rfl rfl rfl rfl (Nat.le_of_eq rfl) (by decide) (by decide) (by decide) (by decide) ?_
      rintro _ _ _ ⟨r, rfl, hr, rfl, rfl⟩
      show Go A B_sek D _ 67 [.val (.ref o), .val (.int k), .val (.int (nI 0)), .val (.int (nI lo)), .val (.int (nI h)), .val (.int (nI (h + 1))), .unset] [.int r] F G 0 0
      refine Go.run (B := B_sek) td_sek 38 2 (pc' := 71) (L' := [.val (.ref o), .val (.int k), .val (.int (nI 0)), .val (.int (nI lo)), .val (.int (nI h)), .val (.int (nI (h + 1))), .val (.int r)]) (S' := [.int r]) rfl ?_
      obtain ⟨m, h1, h2, h3, h4⟩ := hr
      have hlb : Lb xs k m c := (lb_fnd hs hA hx ⟨m, h1, h2, h3, h4⟩ h1 h2 h3 h4)
      rcases h4 with ⟨rfl, -, -⟩ | ⟨rfl, -⟩
      · show Go A B_sek D _ 71 [.val (.ref o), .val (.int k), .val (.int (nI 0)), .val (.int (nI lo)), .val (.int (nI h)), .val (.int (nI (h + 1))), .val (.int (nI m))] [.int (nI m)] F G 0 0
        refine Go.if0 (B := B_sek) td_sek 40 (pc' := 79) rfl (by decide) rfl (fun (h : (nI m) < 0) => absurd h (fun z => absurd (i32_lt.mp z) (by rw [nI_toInt (by omega)]; have : (0 : Int32).toInt = 0 := rfl; omega))) (fun _ => ?_)
        refine Go.run (B := B_sek) td_sek 41 2 (pc' := 84) (L' := [.val (.ref o), .val (.int k), .val (.int (nI 0)), .val (.int (nI lo)), .val (.int (nI h)), .val (.int (nI (h + 1))), .val (.int (nI m))]) (S' := [.int (nI m)]) rfl ?_
        exact Go.retI (B := B_sek) td_sek 47 rfl rfl ⟨m, rfl, hlb, rfl, rfl⟩ (by decide) (by decide)
      · show Go A B_sek D _ 71 [.val (.ref o), .val (.int k), .val (.int (nI 0)), .val (.int (nI lo)), .val (.int (nI h)), .val (.int (nI (h + 1))), .val (.int (-(nI m + 1)))] [.int (-(nI m + 1))] F G 0 0
        have hneg : (-(nI m + 1)).toInt = -((m : Int) + 1) := by rw [← nI_succ]; have q1 := c_ineg (nI (m + 1)); have q2 := rng32 (-(nI (m + 1))); rw [nI_toInt (by omega)] at q1; omega
        refine Go.if0 (B := B_sek) td_sek 40 (pc' := 79) rfl (by decide) rfl (fun _ => ?_) (fun (h : ¬ ((-(nI m + 1)) < 0)) => absurd (i32_lt.mpr (by rw [hneg]; have : (0 : Int32).toInt = 0 := rfl; omega)) h)
        refine Go.run (B := B_sek) td_sek 43 4 (pc' := 84) (L' := [.val (.ref o), .val (.int k), .val (.int (nI 0)), .val (.int (nI lo)), .val (.int (nI h)), .val (.int (nI (h + 1))), .val (.int (-(nI m + 1)))]) (S' := [.int ((-(-(nI m + 1))) - (1 : Int32))]) rfl ?_
        rw [show - -(nI m + 1) - (1 : Int32) = nI m by rw [Int32.neg_neg, Int32.add_sub_cancel]]
        exact Go.retI (B := B_sek) td_sek 47 rfl rfl ⟨m, rfl, hlb, rfl, rfl⟩ (by decide) (by decide)
    | succ d ih =>
      intro lo h hd hlh hlc hh hA
      by_cases hc0 : c ≤ h
      · have hx : h < c → k.toInt ≤ (xs.getD h 0).toInt := fun z => by omega
        refine Go.run (B := B_sek) td_sek 6 2 (pc' := 11) (L' := [.val (.ref o), .val (.int k), .val (.int (nI 0)), .val (.int (nI lo)), .val (.int (nI h)), .val (.int (nI (h + 1))), .unset]) (S' := [.ref o, .int (nI h)]) rfl ?_
        refine Go.getfield (B := B_sek) td_sek 8 rfl (w_20 K) mo (List.mem_of_getElem? (i := 2) rfl) ?_
        refine Go.icmp (B := B_sek) td_sek 9 (pc' := 49) rfl (by decide) rfl (fun _ => ?_) (fun (h : ¬ ((nI h) ≥ (nI c))) => absurd ((nI_le (by omega) (by omega)).mpr hc0) h)
        refine Go.run (B := B_sek) td_sek 29 1 (pc' := 50) (L' := [.val (.ref o), .val (.int k), .val (.int (nI 0)), .val (.int (nI lo)), .val (.int (nI h)), .val (.int (nI (h + 1))), .unset]) (S' := [.ref o]) rfl ?_
        refine Go.getfield (B := B_sek) td_sek 30 rfl (w_10 K) mo (List.mem_of_getElem? (i := 0) rfl) ?_
        refine Go.run (B := B_sek) td_sek 31 3 (pc' := 57) (L' := [.val (.ref o), .val (.int k), .val (.int (nI 0)), .val (.int (nI lo)), .val (.int (nI h)), .val (.int (nI (h + 1))), .unset]) (S' := [.ref o, .int (nI h), .int (nI lo), .ref ti]) rfl ?_
        refine Go.getfield (B := B_sek) td_sek 34 rfl (w_20 K) mo (List.mem_of_getElem? (i := 2) rfl) ?_
        refine Go.callS (B := B_sek) td_sek 35 (B' := B_mn) (argsL := [.int (nI h), .int (nI c)]) (rest := [.int (nI lo), .ref ti]) (W := 2) rfl (mn_met K (r := nI (min h c)) (by split; rename_i z; rw [gt_iff_lt, nI_lt (by omega) (by omega)] at z; rw [Nat.min_eq_right (by omega)]; rename_i z; rw [gt_iff_lt, nI_lt (by omega) (by omega)] at z; rw [Nat.min_eq_left (by omega)])) (w_37 K) (w_38 K) (w_39 K) (w_40 K) (by decide) pd_mn rfl rfl rfl rfl (Nat.le_of_eq rfl) (by decide) (by decide) (by decide) (by decide) ?_
        rintro _ _ _ ⟨rfl, rfl, rfl⟩
        show Go A B_sek D _ 63 [.val (.ref o), .val (.int k), .val (.int (nI 0)), .val (.int (nI lo)), .val (.int (nI h)), .val (.int (nI (h + 1))), .unset] [.int (nI (min h c)), .int (nI lo), .ref ti] F G 0 0
        refine Go.run (B := B_sek) td_sek 36 1 (pc' := 64) (L' := [.val (.ref o), .val (.int k), .val (.int (nI 0)), .val (.int (nI lo)), .val (.int (nI h)), .val (.int (nI (h + 1))), .unset]) (S' := [.int k, .int (nI (min h c)), .int (nI lo), .ref ti]) rfl ?_
        refine Go.callS (B := B_sek) td_sek 37 (B' := B_bsr) (argsL := [.ref ti, .int (nI lo), .int (nI (min h c)), .int k]) (rest := []) (W := 0) rfl (bsr_met K (by omega) (by omega) (by omega) (fun i j h1 h2 => hs i j h1 (by omega)) mi) (w_41 K) (w_42 K) (w_43 K) (w_44 K) (by decide) pd_bsr rfl rfl rfl rfl (Nat.le_of_eq rfl) (by decide) (by decide) (by decide) (by decide) ?_
        rintro _ _ _ ⟨r, rfl, hr, rfl, rfl⟩
        show Go A B_sek D _ 67 [.val (.ref o), .val (.int k), .val (.int (nI 0)), .val (.int (nI lo)), .val (.int (nI h)), .val (.int (nI (h + 1))), .unset] [.int r] F G 0 0
        refine Go.run (B := B_sek) td_sek 38 2 (pc' := 71) (L' := [.val (.ref o), .val (.int k), .val (.int (nI 0)), .val (.int (nI lo)), .val (.int (nI h)), .val (.int (nI (h + 1))), .val (.int r)]) (S' := [.int r]) rfl ?_
        obtain ⟨m, h1, h2, h3, h4⟩ := hr
        have hlb : Lb xs k m c := (lb_fnd hs hA hx ⟨m, h1, h2, h3, h4⟩ h1 h2 h3 h4)
        rcases h4 with ⟨rfl, -, -⟩ | ⟨rfl, -⟩
        · show Go A B_sek D _ 71 [.val (.ref o), .val (.int k), .val (.int (nI 0)), .val (.int (nI lo)), .val (.int (nI h)), .val (.int (nI (h + 1))), .val (.int (nI m))] [.int (nI m)] F G 0 0
          refine Go.if0 (B := B_sek) td_sek 40 (pc' := 79) rfl (by decide) rfl (fun (h : (nI m) < 0) => absurd h (fun z => absurd (i32_lt.mp z) (by rw [nI_toInt (by omega)]; have : (0 : Int32).toInt = 0 := rfl; omega))) (fun _ => ?_)
          refine Go.run (B := B_sek) td_sek 41 2 (pc' := 84) (L' := [.val (.ref o), .val (.int k), .val (.int (nI 0)), .val (.int (nI lo)), .val (.int (nI h)), .val (.int (nI (h + 1))), .val (.int (nI m))]) (S' := [.int (nI m)]) rfl ?_
          exact Go.retI (B := B_sek) td_sek 47 rfl rfl ⟨m, rfl, hlb, rfl, rfl⟩ (by decide) (by decide)
        · show Go A B_sek D _ 71 [.val (.ref o), .val (.int k), .val (.int (nI 0)), .val (.int (nI lo)), .val (.int (nI h)), .val (.int (nI (h + 1))), .val (.int (-(nI m + 1)))] [.int (-(nI m + 1))] F G 0 0
          have hneg : (-(nI m + 1)).toInt = -((m : Int) + 1) := by rw [← nI_succ]; have q1 := c_ineg (nI (m + 1)); have q2 := rng32 (-(nI (m + 1))); rw [nI_toInt (by omega)] at q1; omega
          refine Go.if0 (B := B_sek) td_sek 40 (pc' := 79) rfl (by decide) rfl (fun _ => ?_) (fun (h : ¬ ((-(nI m + 1)) < 0)) => absurd (i32_lt.mpr (by rw [hneg]; have : (0 : Int32).toInt = 0 := rfl; omega)) h)
          refine Go.run (B := B_sek) td_sek 43 4 (pc' := 84) (L' := [.val (.ref o), .val (.int k), .val (.int (nI 0)), .val (.int (nI lo)), .val (.int (nI h)), .val (.int (nI (h + 1))), .val (.int (-(nI m + 1)))]) (S' := [.int ((-(-(nI m + 1))) - (1 : Int32))]) rfl ?_
          rw [show - -(nI m + 1) - (1 : Int32) = nI m by rw [Int32.neg_neg, Int32.add_sub_cancel]]
          exact Go.retI (B := B_sek) td_sek 47 rfl rfl ⟨m, rfl, hlb, rfl, rfl⟩ (by decide) (by decide)
      refine Go.run (B := B_sek) td_sek 6 2 (pc' := 11) (L' := [.val (.ref o), .val (.int k), .val (.int (nI 0)), .val (.int (nI lo)), .val (.int (nI h)), .val (.int (nI (h + 1))), .unset]) (S' := [.ref o, .int (nI h)]) rfl ?_
      refine Go.getfield (B := B_sek) td_sek 8 rfl (w_20 K) mo (List.mem_of_getElem? (i := 2) rfl) ?_
      refine Go.icmp (B := B_sek) td_sek 9 (pc' := 49) rfl (by decide) rfl (fun (h : (nI h) ≥ (nI c)) => absurd h (Int32.not_le.mpr ((nI_lt (by omega) (by omega)).mpr (by omega)))) (fun _ => ?_)
      refine Go.run (B := B_sek) td_sek 10 1 (pc' := 18) (L' := [.val (.ref o), .val (.int k), .val (.int (nI 0)), .val (.int (nI lo)), .val (.int (nI h)), .val (.int (nI (h + 1))), .unset]) (S' := [.ref o]) rfl ?_
      refine Go.getfield (B := B_sek) td_sek 11 rfl (w_10 K) mo (List.mem_of_getElem? (i := 0) rfl) ?_
      refine Go.run (B := B_sek) td_sek 12 1 (pc' := 23) (L' := [.val (.ref o), .val (.int k), .val (.int (nI 0)), .val (.int (nI lo)), .val (.int (nI h)), .val (.int (nI (h + 1))), .unset]) (S' := [.int (nI h), .ref ti]) rfl ?_
      refine Go.iaload (B := B_sek) td_sek 13 (v := .int (xs.getD h 0)) rfl mi (by rw [List.length_map]; exact nI_inB (by omega) (by omega)) (by rw [nI_nat (by omega)]; exact chV_get (getD_get (by omega))) ?_
      refine Go.run (B := B_sek) td_sek 14 1 (pc' := 25) (L' := [.val (.ref o), .val (.int k), .val (.int (nI 0)), .val (.int (nI lo)), .val (.int (nI h)), .val (.int (nI (h + 1))), .unset]) (S' := [.int k, .int (xs.getD h 0)]) rfl ?_
      refine Go.icmp (B := B_sek) td_sek 15 (pc' := 49) rfl (by decide) rfl ?_ ?_
      · intro (g1 : (xs.getD h 0) ≥ k)
        have hx : h < c → k.toInt ≤ (xs.getD h 0).toInt := fun _ => i32_le.mp g1
        refine Go.run (B := B_sek) td_sek 29 1 (pc' := 50) (L' := [.val (.ref o), .val (.int k), .val (.int (nI 0)), .val (.int (nI lo)), .val (.int (nI h)), .val (.int (nI (h + 1))), .unset]) (S' := [.ref o]) rfl ?_
        refine Go.getfield (B := B_sek) td_sek 30 rfl (w_10 K) mo (List.mem_of_getElem? (i := 0) rfl) ?_
        refine Go.run (B := B_sek) td_sek 31 3 (pc' := 57) (L' := [.val (.ref o), .val (.int k), .val (.int (nI 0)), .val (.int (nI lo)), .val (.int (nI h)), .val (.int (nI (h + 1))), .unset]) (S' := [.ref o, .int (nI h), .int (nI lo), .ref ti]) rfl ?_
        refine Go.getfield (B := B_sek) td_sek 34 rfl (w_20 K) mo (List.mem_of_getElem? (i := 2) rfl) ?_
        refine Go.callS (B := B_sek) td_sek 35 (B' := B_mn) (argsL := [.int (nI h), .int (nI c)]) (rest := [.int (nI lo), .ref ti]) (W := 2) rfl (mn_met K (r := nI (min h c)) (by split; rename_i z; rw [gt_iff_lt, nI_lt (by omega) (by omega)] at z; rw [Nat.min_eq_right (by omega)]; rename_i z; rw [gt_iff_lt, nI_lt (by omega) (by omega)] at z; rw [Nat.min_eq_left (by omega)])) (w_37 K) (w_38 K) (w_39 K) (w_40 K) (by decide) pd_mn rfl rfl rfl rfl (Nat.le_of_eq rfl) (by decide) (by decide) (by decide) (by decide) ?_
        rintro _ _ _ ⟨rfl, rfl, rfl⟩
        show Go A B_sek D _ 63 [.val (.ref o), .val (.int k), .val (.int (nI 0)), .val (.int (nI lo)), .val (.int (nI h)), .val (.int (nI (h + 1))), .unset] [.int (nI (min h c)), .int (nI lo), .ref ti] F G 0 0
        refine Go.run (B := B_sek) td_sek 36 1 (pc' := 64) (L' := [.val (.ref o), .val (.int k), .val (.int (nI 0)), .val (.int (nI lo)), .val (.int (nI h)), .val (.int (nI (h + 1))), .unset]) (S' := [.int k, .int (nI (min h c)), .int (nI lo), .ref ti]) rfl ?_
        refine Go.callS (B := B_sek) td_sek 37 (B' := B_bsr) (argsL := [.ref ti, .int (nI lo), .int (nI (min h c)), .int k]) (rest := []) (W := 0) rfl (bsr_met K (by omega) (by omega) (by omega) (fun i j h1 h2 => hs i j h1 (by omega)) mi) (w_41 K) (w_42 K) (w_43 K) (w_44 K) (by decide) pd_bsr rfl rfl rfl rfl (Nat.le_of_eq rfl) (by decide) (by decide) (by decide) (by decide) ?_
        rintro _ _ _ ⟨r, rfl, hr, rfl, rfl⟩
        show Go A B_sek D _ 67 [.val (.ref o), .val (.int k), .val (.int (nI 0)), .val (.int (nI lo)), .val (.int (nI h)), .val (.int (nI (h + 1))), .unset] [.int r] F G 0 0
        refine Go.run (B := B_sek) td_sek 38 2 (pc' := 71) (L' := [.val (.ref o), .val (.int k), .val (.int (nI 0)), .val (.int (nI lo)), .val (.int (nI h)), .val (.int (nI (h + 1))), .val (.int r)]) (S' := [.int r]) rfl ?_
        obtain ⟨m, h1, h2, h3, h4⟩ := hr
        have hlb : Lb xs k m c := (lb_fnd hs hA hx ⟨m, h1, h2, h3, h4⟩ h1 h2 h3 h4)
        rcases h4 with ⟨rfl, -, -⟩ | ⟨rfl, -⟩
        · show Go A B_sek D _ 71 [.val (.ref o), .val (.int k), .val (.int (nI 0)), .val (.int (nI lo)), .val (.int (nI h)), .val (.int (nI (h + 1))), .val (.int (nI m))] [.int (nI m)] F G 0 0
          refine Go.if0 (B := B_sek) td_sek 40 (pc' := 79) rfl (by decide) rfl (fun (h : (nI m) < 0) => absurd h (fun z => absurd (i32_lt.mp z) (by rw [nI_toInt (by omega)]; have : (0 : Int32).toInt = 0 := rfl; omega))) (fun _ => ?_)
          refine Go.run (B := B_sek) td_sek 41 2 (pc' := 84) (L' := [.val (.ref o), .val (.int k), .val (.int (nI 0)), .val (.int (nI lo)), .val (.int (nI h)), .val (.int (nI (h + 1))), .val (.int (nI m))]) (S' := [.int (nI m)]) rfl ?_
          exact Go.retI (B := B_sek) td_sek 47 rfl rfl ⟨m, rfl, hlb, rfl, rfl⟩ (by decide) (by decide)
        · show Go A B_sek D _ 71 [.val (.ref o), .val (.int k), .val (.int (nI 0)), .val (.int (nI lo)), .val (.int (nI h)), .val (.int (nI (h + 1))), .val (.int (-(nI m + 1)))] [.int (-(nI m + 1))] F G 0 0
          have hneg : (-(nI m + 1)).toInt = -((m : Int) + 1) := by rw [← nI_succ]; have q1 := c_ineg (nI (m + 1)); have q2 := rng32 (-(nI (m + 1))); rw [nI_toInt (by omega)] at q1; omega
          refine Go.if0 (B := B_sek) td_sek 40 (pc' := 79) rfl (by decide) rfl (fun _ => ?_) (fun (h : ¬ ((-(nI m + 1)) < 0)) => absurd (i32_lt.mpr (by rw [hneg]; have : (0 : Int32).toInt = 0 := rfl; omega)) h)
          refine Go.run (B := B_sek) td_sek 43 4 (pc' := 84) (L' := [.val (.ref o), .val (.int k), .val (.int (nI 0)), .val (.int (nI lo)), .val (.int (nI h)), .val (.int (nI (h + 1))), .val (.int (-(nI m + 1)))]) (S' := [.int ((-(-(nI m + 1))) - (1 : Int32))]) rfl ?_
          rw [show - -(nI m + 1) - (1 : Int32) = nI m by rw [Int32.neg_neg, Int32.add_sub_cancel]]
          exact Go.retI (B := B_sek) td_sek 47 rfl rfl ⟨m, rfl, hlb, rfl, rfl⟩ (by decide) (by decide)
      · intro (g1 : ¬ ((xs.getD h 0) ≥ k))
        refine Go.run (B := B_sek) td_sek 16 13 (pc' := 8) (L' := [.val (.ref o), .val (.int k), .val (.int (nI 0)), .val (.int ((nI h) + (1 : Int32))), .val (.int ((nI h) + (nI (h + 1)))), .val (.int ((nI (h + 1)) <<< ((1 : Int32) &&& 31))), .unset]) (S' := []) rfl ?_
        have hlt2 : (xs.getD h 0).toInt < k.toInt := i32_lt.mp (Int32.not_le.mp g1)
        have q := ih (h + 1) (h + (h + 1)) (by omega) (by omega) (by omega) (by omega) (fun i q => by by_cases e : i = h; rw [e]; exact hlt2; have := hs i h (by omega) (by omega); omega)
        rw [nI_succ h, ← nI_addn (a := h), show h + (h + 1) + 1 = 2 * (h + 1) by omega, ← shl1 (by omega)] at q
        exact q
  refine Go.run (B := B_sek) td_sek 0 6 (pc' := 8) (L' := [.val (.ref o), .val (.int k), .val (.int (nI 0)), .val (.int (nI 0)), .val (.int (nI 0)), .val (.int (1 : Int32)), .unset]) (S' := []) rfl ?_
  exact loop c 0 0 (by omega) (Nat.le_refl _) (Nat.zero_le _) (by omega) (fun i q => by omega)
--CUT
def tb_cpi : List In1 := [(0, .iload_n 1, 1), (1, .aload_n 0, 1), (2, .arraylength, 1), (3, .if_icmp .ne 11, 3), (6, .aload_n 0, 1), (7, .invokevirtual 316, 3), (10, .checkcast 317, 3), (13, .areturn, 1), (14, .iload_n 1, 1), (15, .newarray .int, 2), (17, .astore_n 2, 1), (18, .aload_n 0, 1), (19, .iconst 0, 1), (20, .aload_n 2, 1), (21, .iconst 0, 1), (22, .aload_n 0, 1), (23, .arraylength, 1), (24, .iload_n 1, 1), (25, .invokestatic 304, 3), (28, .invokestatic 150, 3), (31, .aload_n 2, 1), (32, .areturn, 1)]
set_option maxRecDepth 65536 in
theorem td_cpi : Dec jdk_65_method_123_code tb_cpi := by unfold Dec; decide +kernel
theorem pd_cpi : parseMethodDescriptor "([II)[I" = some ⟨[(.array .int), .int], (some (.array .int))⟩ := by decide +kernel
theorem pn_cpi : plainFor (⟨"java/util/Arrays", "copyOf", "([II)[I"⟩ : MethodName) = true := by decide +kernel
abbrev B_cpi : Bx := ((⟨"java/util/Arrays", "copyOf", "([II)[I"⟩ : MethodName), jdk_65_method_123_code, 3, (Option.some (Jvm.ClassFile.FieldType.array Jvm.ClassFile.FieldType.int)), ({ frames := 1, cells := 1, slots := 7, locals := 32 } : Room))
theorem cp7 {xs : List Int32} (hx : xs.length = 4) : (chV [0, 0, 0, 0, 0, 0, 0]).take (0 : Int32).toInt.toNat ++ ((chV xs).drop (0 : Int32).toInt.toNat).take (4 : Int32).toInt.toNat ++ (chV [0, 0, 0, 0, 0, 0, 0]).drop ((0 : Int32).toInt.toNat + (4 : Int32).toInt.toNat) = chV (xs ++ [0, 0, 0]) := by
  match xs, hx with
  | [a, b, c, d], _ => rfl
set_option maxRecDepth 65536 in
set_option maxHeartbeats 4000000 in
theorem cpi_met {A : Ax} (K : Wd A) {t : Addr} {xs : List Int32} (hx : xs.length = 4) {F G : List Ent} (m : (t, ArrP A .int (chV xs)) ∈ F ∨ (t, ArrP A .int (chV xs)) ∈ G) : Met A B_cpi #[.ref t, .int (7 : Int32)] F G (fun v F' G' => ∃ t2, v = some (.ref t2) ∧ ((t2, ArrP A .int (chV (xs ++ [0, 0, 0]))) :: F) = F' ∧ G = G') := by
  refine MetW.of_go pn_cpi K.ew (L := [.val (.ref t), .val (.int (7 : Int32)), .unset]) (fun m => rfl) ?_
  intro D _
  refine Go.run (B := B_cpi) td_cpi 0 2 (pc' := 2) (L' := [.val (.ref t), .val (.int (7 : Int32)), .unset]) (S' := [.ref t, .int (7 : Int32)]) rfl ?_
  refine Go.arraylength (B := B_cpi) td_cpi 2 (z := (4 : Int32)) rfl m (by rw [List.length_map, hx]; rfl) ?_
  refine Go.icmp (B := B_cpi) td_cpi 3 (pc' := 14) rfl (by decide) rfl (fun _ => ?_) (fun (h : ¬ ((7 : Int32) ≠ (4 : Int32))) => absurd (by decide) h)
  refine Go.run (B := B_cpi) td_cpi 8 1 (pc' := 15) (L' := [.val (.ref t), .val (.int (7 : Int32)), .unset]) (S' := [.int (7 : Int32)]) rfl ?_
  refine Go.newarray (B := B_cpi) td_cpi 9 (ty := .int) (cap := 7) (vs := (chV [0, 0, 0, 0, 0, 0, 0])) rfl rfl (w_9 K) (by decide) (by decide) (by decide) (by decide) (by decide) rfl ?_
  intro t2
  show Go A B_cpi D _ 17 [.val (.ref t), .val (.int (7 : Int32)), .unset] [.ref t2] ((t2, ArrP A .int (chV [0, 0, 0, 0, 0, 0, 0])) :: F) G 1 7
  refine Go.run (B := B_cpi) td_cpi 10 6 (pc' := 23) (L' := [.val (.ref t), .val (.int (7 : Int32)), .val (.ref t2)]) (S' := [.ref t, .int (0 : Int32), .ref t2, .int (0 : Int32), .ref t]) rfl ?_
  refine Go.arraylength (B := B_cpi) td_cpi 16 (z := (4 : Int32)) rfl (m.imp (List.mem_cons_of_mem _) id) (by rw [List.length_map, hx]; rfl) ?_
  refine Go.run (B := B_cpi) td_cpi 17 1 (pc' := 25) (L' := [.val (.ref t), .val (.int (7 : Int32)), .val (.ref t2)]) (S' := [.int (7 : Int32), .int (4 : Int32), .int (0 : Int32), .ref t2, .int (0 : Int32), .ref t]) rfl ?_
  refine Go.callS (B := B_cpi) td_cpi 18 (B' := B_mn) (argsL := [.int (4 : Int32), .int (7 : Int32)]) (rest := [.int (0 : Int32), .ref t2, .int (0 : Int32), .ref t]) (W := 4) rfl (mn_met K (r := 4) (by decide)) (w_71 K) (w_38 K) (w_39 K) (w_40 K) (by decide) pd_mn rfl rfl rfl rfl (Nat.le_of_eq rfl) (by decide) (by decide) (by decide) (by decide) ?_
  rintro _ _ _ ⟨rfl, rfl, rfl⟩
  show Go A B_cpi D _ 28 [.val (.ref t), .val (.int (7 : Int32)), .val (.ref t2)] [.int (4 : Int32), .int (0 : Int32), .ref t2, .int (0 : Int32), .ref t] ((t2, ArrP A .int (chV [0, 0, 0, 0, 0, 0, 0])) :: F) G 1 7
  refine Go.copy (B := B_cpi) td_cpi 19 (vd' := (chV (xs ++ [0, 0, 0]))) (W := 0) rfl rfl (w_72 K) (w_59 K) (w_57 K) (w_58 K) (m.imp (List.mem_cons_of_mem _) id) (by rw [List.length_map]; omega) (by simp) (fits_int _) (fits_int _) (by decide) (by decide) (by decide) (by rw [List.length_map, hx]; decide) (by decide) (cp7 hx) rfl (Nat.le_of_eq rfl) (by decide) (by decide) ?_
  refine Go.run (B := B_cpi) td_cpi 20 1 (pc' := 32) (L' := [.val (.ref t), .val (.int (7 : Int32)), .val (.ref t2)]) (S' := [.ref t2]) rfl ?_
  exact Go.retA (B := B_cpi) td_cpi 21 rfl rfl rfl rfl ⟨t2, rfl, rfl, rfl⟩ (by decide) (by decide)
def tb_cpj : List In1 := [(0, .iload_n 1, 1), (1, .aload_n 0, 1), (2, .arraylength, 1), (3, .if_icmp .ne 11, 3), (6, .aload_n 0, 1), (7, .invokevirtual 319, 3), (10, .checkcast 320, 3), (13, .areturn, 1), (14, .iload_n 1, 1), (15, .newarray .long, 2), (17, .astore_n 2, 1), (18, .aload_n 0, 1), (19, .iconst 0, 1), (20, .aload_n 2, 1), (21, .iconst 0, 1), (22, .aload_n 0, 1), (23, .arraylength, 1), (24, .iload_n 1, 1), (25, .invokestatic 304, 3), (28, .invokestatic 150, 3), (31, .aload_n 2, 1), (32, .areturn, 1)]
set_option maxRecDepth 65536 in
theorem td_cpj : Dec jdk_65_method_124_code tb_cpj := by unfold Dec; decide +kernel
theorem pd_cpj : parseMethodDescriptor "([JI)[J" = some ⟨[(.array .long), .int], (some (.array .long))⟩ := by decide +kernel
theorem pn_cpj : plainFor (⟨"java/util/Arrays", "copyOf", "([JI)[J"⟩ : MethodName) = true := by decide +kernel
abbrev B_cpj : Bx := ((⟨"java/util/Arrays", "copyOf", "([JI)[J"⟩ : MethodName), jdk_65_method_124_code, 3, (Option.some (Jvm.ClassFile.FieldType.array Jvm.ClassFile.FieldType.long)), ({ frames := 1, cells := 1, slots := 7, locals := 32 } : Room))
theorem cp7j {xs : List Int64} (hx : xs.length = 4) : (lV [0, 0, 0, 0, 0, 0, 0]).take (0 : Int32).toInt.toNat ++ ((lV xs).drop (0 : Int32).toInt.toNat).take (4 : Int32).toInt.toNat ++ (lV [0, 0, 0, 0, 0, 0, 0]).drop ((0 : Int32).toInt.toNat + (4 : Int32).toInt.toNat) = lV (xs ++ [0, 0, 0]) := by
  match xs, hx with
  | [a, b, c, d], _ => rfl
set_option maxRecDepth 65536 in
set_option maxHeartbeats 4000000 in
theorem cpj_met {A : Ax} (K : Wd A) {t : Addr} {xs : List Int64} (hx : xs.length = 4) {F G : List Ent} (m : (t, ArrP A .long (lV xs)) ∈ F ∨ (t, ArrP A .long (lV xs)) ∈ G) : Met A B_cpj #[.ref t, .int (7 : Int32)] F G (fun v F' G' => ∃ t2, v = some (.ref t2) ∧ ((t2, ArrP A .long (lV (xs ++ [0, 0, 0]))) :: F) = F' ∧ G = G') := by
  refine MetW.of_go pn_cpj K.ew (L := [.val (.ref t), .val (.int (7 : Int32)), .unset]) (fun m => rfl) ?_
  intro D _
  refine Go.run (B := B_cpj) td_cpj 0 2 (pc' := 2) (L' := [.val (.ref t), .val (.int (7 : Int32)), .unset]) (S' := [.ref t, .int (7 : Int32)]) rfl ?_
  refine Go.arraylength (B := B_cpj) td_cpj 2 (z := (4 : Int32)) rfl m (by rw [List.length_map, hx]; rfl) ?_
  refine Go.icmp (B := B_cpj) td_cpj 3 (pc' := 14) rfl (by decide) rfl (fun _ => ?_) (fun (h : ¬ ((7 : Int32) ≠ (4 : Int32))) => absurd (by decide) h)
  refine Go.run (B := B_cpj) td_cpj 8 1 (pc' := 15) (L' := [.val (.ref t), .val (.int (7 : Int32)), .unset]) (S' := [.int (7 : Int32)]) rfl ?_
  refine Go.newarray (B := B_cpj) td_cpj 9 (ty := .long) (cap := 7) (vs := (lV [0, 0, 0, 0, 0, 0, 0])) rfl rfl (w_12 K) (by decide) (by decide) (by decide) (by decide) (by decide) rfl ?_
  intro t2
  show Go A B_cpj D _ 17 [.val (.ref t), .val (.int (7 : Int32)), .unset] [.ref t2] ((t2, ArrP A .long (lV [0, 0, 0, 0, 0, 0, 0])) :: F) G 1 7
  refine Go.run (B := B_cpj) td_cpj 10 6 (pc' := 23) (L' := [.val (.ref t), .val (.int (7 : Int32)), .val (.ref t2)]) (S' := [.ref t, .int (0 : Int32), .ref t2, .int (0 : Int32), .ref t]) rfl ?_
  refine Go.arraylength (B := B_cpj) td_cpj 16 (z := (4 : Int32)) rfl (m.imp (List.mem_cons_of_mem _) id) (by rw [List.length_map, hx]; rfl) ?_
  refine Go.run (B := B_cpj) td_cpj 17 1 (pc' := 25) (L' := [.val (.ref t), .val (.int (7 : Int32)), .val (.ref t2)]) (S' := [.int (7 : Int32), .int (4 : Int32), .int (0 : Int32), .ref t2, .int (0 : Int32), .ref t]) rfl ?_
  refine Go.callS (B := B_cpj) td_cpj 18 (B' := B_mn) (argsL := [.int (4 : Int32), .int (7 : Int32)]) (rest := [.int (0 : Int32), .ref t2, .int (0 : Int32), .ref t]) (W := 4) rfl (mn_met K (r := 4) (by decide)) (w_71 K) (w_38 K) (w_39 K) (w_40 K) (by decide) pd_mn rfl rfl rfl rfl (Nat.le_of_eq rfl) (by decide) (by decide) (by decide) (by decide) ?_
  rintro _ _ _ ⟨rfl, rfl, rfl⟩
  show Go A B_cpj D _ 28 [.val (.ref t), .val (.int (7 : Int32)), .val (.ref t2)] [.int (4 : Int32), .int (0 : Int32), .ref t2, .int (0 : Int32), .ref t] ((t2, ArrP A .long (lV [0, 0, 0, 0, 0, 0, 0])) :: F) G 1 7
  refine Go.copy (B := B_cpj) td_cpj 19 (vd' := (lV (xs ++ [0, 0, 0]))) (W := 0) rfl rfl (w_72 K) (w_59 K) (w_57 K) (w_58 K) (m.imp (List.mem_cons_of_mem _) id) (by rw [List.length_map]; omega) (by simp) (fits_long _) (fits_long _) (by decide) (by decide) (by decide) (by rw [List.length_map, hx]; decide) (by decide) (cp7j hx) rfl (Nat.le_of_eq rfl) (by decide) (by decide) ?_
  refine Go.run (B := B_cpj) td_cpj 20 1 (pc' := 32) (L' := [.val (.ref t), .val (.int (7 : Int32)), .val (.ref t2)]) (S' := [.ref t2]) rfl ?_
  exact Go.retA (B := B_cpj) td_cpj 21 rfl rfl rfl rfl ⟨t2, rfl, rfl, rfl⟩ (by decide) (by decide)
def tb_ora : List In1 := [(0, .iload_n 1, 1), (1, .aload_n 0, 1), (2, .getfield 22, 3), (5, .if_icmp .eq 13, 3), (8, .aload_n 0, 1), (9, .getfield 7, 3), (12, .iload_n 1, 1), (13, .iaload, 1), (14, .iload_n 2, 1), (15, .if_icmp .eq 122, 3), (18, .aload_n 0, 1), (19, .getfield 22, 3), (22, .aload_n 0, 1), (23, .getfield 7, 3), (26, .arraylength, 1), (27, .if_icmp .ne 44, 3), (30, .aload_n 0, 1), (31, .getfield 22, 3), (34, .aload_n 0, 1), (35, .getfield 22, 3), (38, .iconst 1, 1), (39, .ishr, 1), (40, .iadd, 1), (41, .iconst 1, 1), (42, .iadd, 1), (43, .istore 5, 2), (45, .aload_n 0, 1), (46, .aload_n 0, 1), (47, .getfield 7, 3), (50, .iload 5, 2), (52, .invokestatic 49, 3), (55, .putfield 7, 3), (58, .aload_n 0, 1), (59, .aload_n 0, 1), (60, .getfield 13, 3), (63, .iload 5, 2), (65, .invokestatic 53, 3), (68, .putfield 13, 3), (71, .aload_n 0, 1), (72, .getfield 7, 3), (75, .iload_n 1, 1), (76, .aload_n 0, 1), (77, .getfield 7, 3), (80, .iload_n 1, 1), (81, .iconst 1, 1), (82, .iadd, 1), (83, .aload_n 0, 1), (84, .getfield 22, 3), (87, .iload_n 1, 1), (88, .isub, 1), (89, .invokestatic 56, 3), (92, .aload_n 0, 1), (93, .getfield 13, 3), (96, .iload_n 1, 1), (97, .aload_n 0, 1), (98, .getfield 13, 3), (101, .iload_n 1, 1), (102, .iconst 1, 1), (103, .iadd, 1), (104, .aload_n 0, 1), (105, .getfield 22, 3), (108, .iload_n 1, 1), (109, .isub, 1), (110, .invokestatic 56, 3), (113, .aload_n 0, 1), (114, .getfield 7, 3), (117, .iload_n 1, 1), (118, .iload_n 2, 1), (119, .iastore, 1), (120, .aload_n 0, 1), (121, .getfield 13, 3), (124, .iload_n 1, 1), (125, .lconst 0, 1), (126, .lastore, 1), (127, .aload_n 0, 1), (128, .dup, 1), (129, .getfield 22, 3), (132, .iconst 1, 1), (133, .iadd, 1), (134, .putfield 22, 3), (137, .lload_n 3, 1), (138, .aload_n 0, 1), (139, .getfield 13, 3), (142, .iload_n 1, 1), (143, .laload, 1), (144, .ldc2_w 62, 3), (147, .lxor, 1), (148, .land, 1), (149, .lstore 5, 2), (151, .aload_n 0, 1), (152, .getfield 13, 3), (155, .iload_n 1, 1), (156, .dup2, 1), (157, .laload, 1), (158, .lload_n 3, 1), (159, .lor, 1), (160, .lastore, 1), (161, .lload 5, 2), (163, .lreturn, 1)]
set_option maxRecDepth 65536 in
theorem td_ora : Dec prog_1_method_9_code tb_ora := by unfold Dec; decide +kernel
theorem pd_ora : parseMethodDescriptor "(IIJ)J" = some ⟨[.int, .int, .long], (some .long)⟩ := by decide +kernel
theorem pn_ora : plainFor (⟨"com/example/callweave/callweave/analysis/SparseBits", "orAt", "(IIJ)J"⟩ : MethodName) = true := by decide +kernel
abbrev B_ora : Bx := ((⟨"com/example/callweave/callweave/analysis/SparseBits", "orAt", "(IIJ)J"⟩ : MethodName), prog_1_method_9_code, 7, (Option.some Jvm.ClassFile.FieldType.long), ({ frames := 2, cells := 2, slots := 14, locals := 47 } : Room))
set_option maxRecDepth 65536 in
set_option maxHeartbeats 4000000 in
theorem ora137u {A : Ax} (K : Wd A) {D : Dx} {o ti tw : Addr} {P S : List (Int32 × Int64)} {k : Int32} {b : Int64} {zs : List Int32} {zl : List Int64} {w : Int64} {y : Int32} (hz : zs.length = zl.length) (hlen : (P ++ (k, w) :: S).length + zl.length < 2 ^ 20) (hcap : (P ++ (k, w) :: S).length + zs.length = 4 ∨ ((P ++ (k, w) :: S).length = 5 ∧ zs.length = 2)) {F G : List Ent} : Go A B_ora D (fun v F' G' => (∃ z, v = some (.long z)) ∧ (∃ ti2 tw2 zs2 zl2, zs2.length = zl2.length ∧ ((P ++ (k, w ||| b) :: S).length + zs2.length = 4 ∨ ((P ++ (k, w ||| b) :: S).length = 5 ∧ zs2.length = 2)) ∧ ((o, ObjP A "com/example/callweave/callweave/analysis/SparseBits" [("com/example/callweave/callweave/analysis/SparseBits", "indexes", "[I", .ref ti2), ("com/example/callweave/callweave/analysis/SparseBits", "words", "[J", .ref tw2), ("com/example/callweave/callweave/analysis/SparseBits", "count", "I", .int (nI (P ++ (k, w ||| b) :: S).length))]) :: (ti2, ArrP A .int (chV ((P ++ (k, w ||| b) :: S).map Prod.fst ++ zs2))) :: (tw2, ArrP A .long (lV ((P ++ (k, w ||| b) :: S).map Prod.snd ++ zl2))) :: F) = F') ∧ G = G') 137 [.val (.ref o), .val (.int (nI P.length)), .val (.int k), .val (.long b), .second, .unset, .unset] [] ((o, ObjP A "com/example/callweave/callweave/analysis/SparseBits" [("com/example/callweave/callweave/analysis/SparseBits", "indexes", "[I", .ref ti), ("com/example/callweave/callweave/analysis/SparseBits", "words", "[J", .ref tw), ("com/example/callweave/callweave/analysis/SparseBits", "count", "I", .int (nI (P ++ (k, w) :: S).length))]) :: (ti, ArrP A .int (chV ((P ++ (k, w) :: S).map Prod.fst ++ zs))) :: (tw, ArrP A .long (lV ((P ++ (k, w) :: S).map Prod.snd ++ zl))) :: F) G 2 14 := by
  have hPl : P.length < 2 ^ 20 := by simp at hlen; omega
  have hwl : ((P ++ (k, w) :: S).map Prod.snd ++ zl).length < 2 ^ 21 := by simp at hlen ⊢; omega
  have hget : ((P ++ (k, w) :: S).map Prod.snd ++ zl)[P.length]? = some w := by simp
  have hset : ((P ++ (k, w) :: S).map Prod.snd ++ zl).set P.length (w ||| b) = (P ++ (k, w ||| b) :: S).map Prod.snd ++ zl := by simp
  have hki : (P ++ (k, w) :: S).map Prod.fst = (P ++ (k, w ||| b) :: S).map Prod.fst := by simp
  have hkl : (P ++ (k, w) :: S).length = (P ++ (k, w ||| b) :: S).length := by simp
  refine Go.run (B := B_ora) td_ora 80 2 (pc' := 139) (L' := [.val (.ref o), .val (.int (nI P.length)), .val (.int k), .val (.long b), .second, .unset, .unset]) (S' := [.ref o, .long b]) rfl ?_
  refine Go.getfield (B := B_ora) td_ora 82 rfl (w_13 K) (Or.inl (List.mem_of_getElem? (i := 0) rfl)) (List.mem_of_getElem? (i := 1) rfl) ?_
  refine Go.run (B := B_ora) td_ora 83 1 (pc' := 143) (L' := [.val (.ref o), .val (.int (nI P.length)), .val (.int k), .val (.long b), .second, .unset, .unset]) (S' := [.int (nI P.length), .ref tw, .long b]) rfl ?_
  refine Go.laload (B := B_ora) td_ora 84 (v := .long w) rfl (Or.inl (List.mem_of_getElem? (i := 2) rfl)) (by rw [List.length_map]; exact nI_inB (by simp <;> omega) (by omega)) (by rw [nI_nat (by omega)]; exact lV_get hget) ?_
  refine Go.ldc2J (B := B_ora) td_ora 85 rfl (w_60 K) ?_
  refine Go.run (B := B_ora) td_ora 86 4 (pc' := 152) (L' := [.val (.ref o), .val (.int (nI P.length)), .val (.int k), .val (.long b), .second, .val (.long (b &&& (w ^^^ (-1 : Int64)))), .second]) (S' := [.ref o]) rfl ?_
  refine Go.getfield (B := B_ora) td_ora 90 rfl (w_13 K) (Or.inl (List.mem_of_getElem? (i := 0) rfl)) (List.mem_of_getElem? (i := 1) rfl) ?_
  refine Go.run (B := B_ora) td_ora 91 2 (pc' := 157) (L' := [.val (.ref o), .val (.int (nI P.length)), .val (.int k), .val (.long b), .second, .val (.long (b &&& (w ^^^ (-1 : Int64)))), .second]) (S' := [.int (nI P.length), .ref tw, .int (nI P.length), .ref tw]) rfl ?_
  refine Go.laload (B := B_ora) td_ora 93 (v := .long w) rfl (Or.inl (List.mem_of_getElem? (i := 2) rfl)) (by rw [List.length_map]; exact nI_inB (by simp <;> omega) (by omega)) (by rw [nI_nat (by omega)]; exact lV_get hget) ?_
  refine Go.run (B := B_ora) td_ora 94 2 (pc' := 160) (L' := [.val (.ref o), .val (.int (nI P.length)), .val (.int k), .val (.long b), .second, .val (.long (b &&& (w ^^^ (-1 : Int64)))), .second]) (S' := [.long (w ||| b), .int (nI P.length), .ref tw]) rfl ?_
  refine Go.front 2 (F' := ((tw, ArrP A .long (lV ((P ++ (k, w) :: S).map Prod.snd ++ zl))) :: (o, ObjP A "com/example/callweave/callweave/analysis/SparseBits" [("com/example/callweave/callweave/analysis/SparseBits", "indexes", "[I", .ref ti), ("com/example/callweave/callweave/analysis/SparseBits", "words", "[J", .ref tw), ("com/example/callweave/callweave/analysis/SparseBits", "count", "I", .int (nI (P ++ (k, w) :: S).length))]) :: (ti, ArrP A .int (chV ((P ++ (k, w) :: S).map Prod.fst ++ zs))) :: F)) rfl rfl ?_
  refine Go.lastore (B := B_ora) td_ora 96 (vs' := (lV ((P ++ (k, w ||| b) :: S).map Prod.snd ++ zl))) rfl (by rw [List.length_map]; exact nI_inB (by simp <;> omega) (by omega)) (by rw [nI_nat (by omega), lV_set, hset]) ?_
  refine Go.run (B := B_ora) td_ora 97 1 (pc' := 163) (L' := [.val (.ref o), .val (.int (nI P.length)), .val (.int k), .val (.long b), .second, .val (.long (b &&& (w ^^^ (-1 : Int64)))), .second]) (S' := [.long (b &&& (w ^^^ (-1 : Int64)))]) rfl ?_
  refine Go.front 2 (F' := ((ti, ArrP A .int (chV ((P ++ (k, w) :: S).map Prod.fst ++ zs))) :: (tw, ArrP A .long (lV ((P ++ (k, w ||| b) :: S).map Prod.snd ++ zl))) :: (o, ObjP A "com/example/callweave/callweave/analysis/SparseBits" [("com/example/callweave/callweave/analysis/SparseBits", "indexes", "[I", .ref ti), ("com/example/callweave/callweave/analysis/SparseBits", "words", "[J", .ref tw), ("com/example/callweave/callweave/analysis/SparseBits", "count", "I", .int (nI (P ++ (k, w) :: S).length))]) :: F)) rfl rfl ?_
  refine Go.front 2 (F' := ((o, ObjP A "com/example/callweave/callweave/analysis/SparseBits" [("com/example/callweave/callweave/analysis/SparseBits", "indexes", "[I", .ref ti), ("com/example/callweave/callweave/analysis/SparseBits", "words", "[J", .ref tw), ("com/example/callweave/callweave/analysis/SparseBits", "count", "I", .int (nI (P ++ (k, w) :: S).length))]) :: (ti, ArrP A .int (chV ((P ++ (k, w) :: S).map Prod.fst ++ zs))) :: (tw, ArrP A .long (lV ((P ++ (k, w ||| b) :: S).map Prod.snd ++ zl))) :: F)) rfl rfl ?_
  exact Go.retJ (B := B_ora) td_ora 98 rfl rfl ⟨⟨_, rfl⟩, ⟨ti, tw, zs, zl, hz, by rw [← hkl]; exact hcap, by rw [← hkl, ← hki]⟩, rfl⟩ (by decide) (by decide)
set_option maxRecDepth 65536 in
set_option maxHeartbeats 4000000 in
theorem ora137i {A : Ax} (K : Wd A) {D : Dx} {o ti tw : Addr} {P S : List (Int32 × Int64)} {k : Int32} {b : Int64} {zs : List Int32} {zl : List Int64} {w : Int64} {y : Int32} (hz : zs.length = zl.length) (hlen : (P ++ (k, w) :: S).length + zl.length < 2 ^ 20) (hcap : (P ++ (k, w) :: S).length + zs.length = 4 ∨ ((P ++ (k, w) :: S).length = 5 ∧ zs.length = 2)) {F G : List Ent} : Go A B_ora D (fun v F' G' => (∃ z, v = some (.long z)) ∧ (∃ ti2 tw2 zs2 zl2, zs2.length = zl2.length ∧ ((P ++ (k, w ||| b) :: S).length + zs2.length = 4 ∨ ((P ++ (k, w ||| b) :: S).length = 5 ∧ zs2.length = 2)) ∧ ((o, ObjP A "com/example/callweave/callweave/analysis/SparseBits" [("com/example/callweave/callweave/analysis/SparseBits", "indexes", "[I", .ref ti2), ("com/example/callweave/callweave/analysis/SparseBits", "words", "[J", .ref tw2), ("com/example/callweave/callweave/analysis/SparseBits", "count", "I", .int (nI (P ++ (k, w ||| b) :: S).length))]) :: (ti2, ArrP A .int (chV ((P ++ (k, w ||| b) :: S).map Prod.fst ++ zs2))) :: (tw2, ArrP A .long (lV ((P ++ (k, w ||| b) :: S).map Prod.snd ++ zl2))) :: F) = F') ∧ G = G') 137 [.val (.ref o), .val (.int (nI P.length)), .val (.int k), .val (.long b), .second, .val (.int y), .unset] [] ((o, ObjP A "com/example/callweave/callweave/analysis/SparseBits" [("com/example/callweave/callweave/analysis/SparseBits", "indexes", "[I", .ref ti), ("com/example/callweave/callweave/analysis/SparseBits", "words", "[J", .ref tw), ("com/example/callweave/callweave/analysis/SparseBits", "count", "I", .int (nI (P ++ (k, w) :: S).length))]) :: (ti, ArrP A .int (chV ((P ++ (k, w) :: S).map Prod.fst ++ zs))) :: (tw, ArrP A .long (lV ((P ++ (k, w) :: S).map Prod.snd ++ zl))) :: F) G 2 14 := by
  have hPl : P.length < 2 ^ 20 := by simp at hlen; omega
  have hwl : ((P ++ (k, w) :: S).map Prod.snd ++ zl).length < 2 ^ 21 := by simp at hlen ⊢; omega
  have hget : ((P ++ (k, w) :: S).map Prod.snd ++ zl)[P.length]? = some w := by simp
  have hset : ((P ++ (k, w) :: S).map Prod.snd ++ zl).set P.length (w ||| b) = (P ++ (k, w ||| b) :: S).map Prod.snd ++ zl := by simp
  have hki : (P ++ (k, w) :: S).map Prod.fst = (P ++ (k, w ||| b) :: S).map Prod.fst := by simp
  have hkl : (P ++ (k, w) :: S).length = (P ++ (k, w ||| b) :: S).length := by simp
  refine Go.run (B := B_ora) td_ora 80 2 (pc' := 139) (L' := [.val (.ref o), .val (.int (nI P.length)), .val (.int k), .val (.long b), .second, .val (.int y), .unset]) (S' := [.ref o, .long b]) rfl ?_
  refine Go.getfield (B := B_ora) td_ora 82 rfl (w_13 K) (Or.inl (List.mem_of_getElem? (i := 0) rfl)) (List.mem_of_getElem? (i := 1) rfl) ?_
  refine Go.run (B := B_ora) td_ora 83 1 (pc' := 143) (L' := [.val (.ref o), .val (.int (nI P.length)), .val (.int k), .val (.long b), .second, .val (.int y), .unset]) (S' := [.int (nI P.length), .ref tw, .long b]) rfl ?_
  refine Go.laload (B := B_ora) td_ora 84 (v := .long w) rfl (Or.inl (List.mem_of_getElem? (i := 2) rfl)) (by rw [List.length_map]; exact nI_inB (by simp <;> omega) (by omega)) (by rw [nI_nat (by omega)]; exact lV_get hget) ?_
  refine Go.ldc2J (B := B_ora) td_ora 85 rfl (w_60 K) ?_
  refine Go.run (B := B_ora) td_ora 86 4 (pc' := 152) (L' := [.val (.ref o), .val (.int (nI P.length)), .val (.int k), .val (.long b), .second, .val (.long (b &&& (w ^^^ (-1 : Int64)))), .second]) (S' := [.ref o]) rfl ?_
  refine Go.getfield (B := B_ora) td_ora 90 rfl (w_13 K) (Or.inl (List.mem_of_getElem? (i := 0) rfl)) (List.mem_of_getElem? (i := 1) rfl) ?_
  refine Go.run (B := B_ora) td_ora 91 2 (pc' := 157) (L' := [.val (.ref o), .val (.int (nI P.length)), .val (.int k), .val (.long b), .second, .val (.long (b &&& (w ^^^ (-1 : Int64)))), .second]) (S' := [.int (nI P.length), .ref tw, .int (nI P.length), .ref tw]) rfl ?_
  refine Go.laload (B := B_ora) td_ora 93 (v := .long w) rfl (Or.inl (List.mem_of_getElem? (i := 2) rfl)) (by rw [List.length_map]; exact nI_inB (by simp <;> omega) (by omega)) (by rw [nI_nat (by omega)]; exact lV_get hget) ?_
  refine Go.run (B := B_ora) td_ora 94 2 (pc' := 160) (L' := [.val (.ref o), .val (.int (nI P.length)), .val (.int k), .val (.long b), .second, .val (.long (b &&& (w ^^^ (-1 : Int64)))), .second]) (S' := [.long (w ||| b), .int (nI P.length), .ref tw]) rfl ?_
  refine Go.front 2 (F' := ((tw, ArrP A .long (lV ((P ++ (k, w) :: S).map Prod.snd ++ zl))) :: (o, ObjP A "com/example/callweave/callweave/analysis/SparseBits" [("com/example/callweave/callweave/analysis/SparseBits", "indexes", "[I", .ref ti), ("com/example/callweave/callweave/analysis/SparseBits", "words", "[J", .ref tw), ("com/example/callweave/callweave/analysis/SparseBits", "count", "I", .int (nI (P ++ (k, w) :: S).length))]) :: (ti, ArrP A .int (chV ((P ++ (k, w) :: S).map Prod.fst ++ zs))) :: F)) rfl rfl ?_
  refine Go.lastore (B := B_ora) td_ora 96 (vs' := (lV ((P ++ (k, w ||| b) :: S).map Prod.snd ++ zl))) rfl (by rw [List.length_map]; exact nI_inB (by simp <;> omega) (by omega)) (by rw [nI_nat (by omega), lV_set, hset]) ?_
  refine Go.run (B := B_ora) td_ora 97 1 (pc' := 163) (L' := [.val (.ref o), .val (.int (nI P.length)), .val (.int k), .val (.long b), .second, .val (.long (b &&& (w ^^^ (-1 : Int64)))), .second]) (S' := [.long (b &&& (w ^^^ (-1 : Int64)))]) rfl ?_
  refine Go.front 2 (F' := ((ti, ArrP A .int (chV ((P ++ (k, w) :: S).map Prod.fst ++ zs))) :: (tw, ArrP A .long (lV ((P ++ (k, w ||| b) :: S).map Prod.snd ++ zl))) :: (o, ObjP A "com/example/callweave/callweave/analysis/SparseBits" [("com/example/callweave/callweave/analysis/SparseBits", "indexes", "[I", .ref ti), ("com/example/callweave/callweave/analysis/SparseBits", "words", "[J", .ref tw), ("com/example/callweave/callweave/analysis/SparseBits", "count", "I", .int (nI (P ++ (k, w) :: S).length))]) :: F)) rfl rfl ?_
  refine Go.front 2 (F' := ((o, ObjP A "com/example/callweave/callweave/analysis/SparseBits" [("com/example/callweave/callweave/analysis/SparseBits", "indexes", "[I", .ref ti), ("com/example/callweave/callweave/analysis/SparseBits", "words", "[J", .ref tw), ("com/example/callweave/callweave/analysis/SparseBits", "count", "I", .int (nI (P ++ (k, w) :: S).length))]) :: (ti, ArrP A .int (chV ((P ++ (k, w) :: S).map Prod.fst ++ zs))) :: (tw, ArrP A .long (lV ((P ++ (k, w ||| b) :: S).map Prod.snd ++ zl))) :: F)) rfl rfl ?_
  exact Go.retJ (B := B_ora) td_ora 98 rfl rfl ⟨⟨_, rfl⟩, ⟨ti, tw, zs, zl, hz, by rw [← hkl]; exact hcap, by rw [← hkl, ← hki]⟩, rfl⟩ (by decide) (by decide)
set_option maxRecDepth 65536 in
set_option maxHeartbeats 4000000 in
theorem ora71u {A : Ax} (K : Wd A) {D : Dx} {o ti tw : Addr} {P S : List (Int32 × Int64)} {k : Int32} {b : Int64} {z0 : Int32} {y0 : Int64} {Z : List Int32} {Zl : List Int64} {y : Int32} (hz : Z.length = Zl.length) (hlen : (P ++ S).length + Zl.length < 2 ^ 19) (hcap : (P ++ S).length + (Z.length + 1) = 4 ∨ ((P ++ S).length = 4 ∧ Z.length = 2)) {F G : List Ent} : Go A B_ora D (fun v F' G' => (∃ z, v = some (.long z)) ∧ (∃ ti2 tw2 zs2 zl2, zs2.length = zl2.length ∧ ((P ++ (k, (0 : Int64) ||| b) :: S).length + zs2.length = 4 ∨ ((P ++ (k, (0 : Int64) ||| b) :: S).length = 5 ∧ zs2.length = 2)) ∧ ((o, ObjP A "com/example/callweave/callweave/analysis/SparseBits" [("com/example/callweave/callweave/analysis/SparseBits", "indexes", "[I", .ref ti2), ("com/example/callweave/callweave/analysis/SparseBits", "words", "[J", .ref tw2), ("com/example/callweave/callweave/analysis/SparseBits", "count", "I", .int (nI (P ++ (k, (0 : Int64) ||| b) :: S).length))]) :: (ti2, ArrP A .int (chV ((P ++ (k, (0 : Int64) ||| b) :: S).map Prod.fst ++ zs2))) :: (tw2, ArrP A .long (lV ((P ++ (k, (0 : Int64) ||| b) :: S).map Prod.snd ++ zl2))) :: F) = F') ∧ G = G') 71 [.val (.ref o), .val (.int (nI P.length)), .val (.int k), .val (.long b), .second, .unset, .unset] [] ((o, ObjP A "com/example/callweave/callweave/analysis/SparseBits" [("com/example/callweave/callweave/analysis/SparseBits", "indexes", "[I", .ref ti), ("com/example/callweave/callweave/analysis/SparseBits", "words", "[J", .ref tw), ("com/example/callweave/callweave/analysis/SparseBits", "count", "I", .int (nI (P ++ S).length))]) :: (ti, ArrP A .int (chV ((P ++ S).map Prod.fst ++ (z0 :: Z)))) :: (tw, ArrP A .long (lV ((P ++ S).map Prod.snd ++ (y0 :: Zl)))) :: F) G 2 14 := by
  have hPl : P.length + S.length + 1 + Z.length = ((P ++ S).map Prod.fst ++ z0 :: Z).length := by simp; omega
  have hll : (P ++ S).length = P.length + S.length := by simp
  have hQl : P.length + S.length + 1 + Zl.length = ((P ++ S).map Prod.snd ++ y0 :: Zl).length := by simp; omega
  have i1 : ((P ++ S).map Prod.fst ++ z0 :: Z) = P.map Prod.fst ++ (S.map Prod.fst ++ z0 :: Z) := by simp
  have i2 : ((P ++ S).map Prod.snd ++ y0 :: Zl) = P.map Prod.snd ++ (S.map Prod.snd ++ y0 :: Zl) := by simp
  obtain ⟨g1, s1⟩ := shift_l (P.map Prod.fst) (S.map Prod.fst) Z z0
  obtain ⟨g2, s2⟩ := shift_l (P.map Prod.snd) (S.map Prod.snd) Zl y0
  rw [← i1] at s1
  rw [← i2] at s2
  simp only [List.length_map] at s1 s2
  have eN : (nI P.length).toInt = P.length := nI_toInt (by omega)
  have eM : (nI (P.length + 1)).toInt = (P.length + 1 : Nat) := nI_toInt (by omega)
  have eS : (nI S.length).toInt = S.length := nI_toInt (by omega)
  have sub : nI (P ++ S).length - nI P.length = nI S.length := by rw [hll]; exact nI_sub (by omega)
  refine Go.run (B := B_ora) td_ora 38 1 (pc' := 72) (L' := [.val (.ref o), .val (.int (nI P.length)), .val (.int k), .val (.long b), .second, .unset, .unset]) (S' := [.ref o]) rfl ?_
  refine Go.getfield (B := B_ora) td_ora 39 rfl (w_10 K) (Or.inl (List.mem_of_getElem? (i := 0) rfl)) (List.mem_of_getElem? (i := 0) rfl) ?_
  refine Go.run (B := B_ora) td_ora 40 2 (pc' := 77) (L' := [.val (.ref o), .val (.int (nI P.length)), .val (.int k), .val (.long b), .second, .unset, .unset]) (S' := [.ref o, .int (nI P.length), .ref ti]) rfl ?_
  refine Go.getfield (B := B_ora) td_ora 42 rfl (w_10 K) (Or.inl (List.mem_of_getElem? (i := 0) rfl)) (List.mem_of_getElem? (i := 0) rfl) ?_
  refine Go.run (B := B_ora) td_ora 43 4 (pc' := 84) (L' := [.val (.ref o), .val (.int (nI P.length)), .val (.int k), .val (.long b), .second, .unset, .unset]) (S' := [.ref o, .int ((nI P.length) + (1 : Int32)), .ref ti, .int (nI P.length), .ref ti]) rfl ?_
  refine Go.getfield (B := B_ora) td_ora 47 rfl (w_20 K) (Or.inl (List.mem_of_getElem? (i := 0) rfl)) (List.mem_of_getElem? (i := 2) rfl) ?_
  refine Go.run (B := B_ora) td_ora 48 2 (pc' := 89) (L' := [.val (.ref o), .val (.int (nI P.length)), .val (.int k), .val (.long b), .second, .unset, .unset]) (S' := [.int ((nI (P ++ S).length) - (nI P.length)), .int ((nI P.length) + (1 : Int32)), .ref ti, .int (nI P.length), .ref ti]) rfl ?_
  rw [sub, nI_add1]
  show Go A B_ora D _ 89 [.val (.ref o), .val (.int (nI P.length)), .val (.int k), .val (.long b), .second, .unset, .unset] [.int (nI S.length), .int (nI (P.length + 1)), .ref ti, .int (nI P.length), .ref ti] ((o, ObjP A "com/example/callweave/callweave/analysis/SparseBits" [("com/example/callweave/callweave/analysis/SparseBits", "indexes", "[I", .ref ti), ("com/example/callweave/callweave/analysis/SparseBits", "words", "[J", .ref tw), ("com/example/callweave/callweave/analysis/SparseBits", "count", "I", .int (nI (P ++ S).length))]) :: (ti, ArrP A .int (chV ((P ++ S).map Prod.fst ++ (z0 :: Z)))) :: (tw, ArrP A .long (lV ((P ++ S).map Prod.snd ++ (y0 :: Zl)))) :: F) G 2 14
  refine Go.front 1 (F' := ((ti, ArrP A .int (chV ((P ++ S).map Prod.fst ++ (z0 :: Z)))) :: (o, ObjP A "com/example/callweave/callweave/analysis/SparseBits" [("com/example/callweave/callweave/analysis/SparseBits", "indexes", "[I", .ref ti), ("com/example/callweave/callweave/analysis/SparseBits", "words", "[J", .ref tw), ("com/example/callweave/callweave/analysis/SparseBits", "count", "I", .int (nI (P ++ S).length))]) :: (tw, ArrP A .long (lV ((P ++ S).map Prod.snd ++ (y0 :: Zl)))) :: F)) rfl rfl ?_
  refine Go.copy (B := B_ora) td_ora 50 (vd' := (chV (P.map Prod.fst ++ (g1 :: (S.map Prod.fst ++ Z))))) (W := 0) rfl rfl (w_56 K) (w_59 K) (w_57 K) (w_58 K) (Or.inl (List.mem_of_getElem? (i := 0) rfl)) (by rw [List.length_map]; omega) (by rw [List.length_map]; omega) (fits_int _) (fits_int _) (by omega) (by omega) (by omega) (by rw [eN, eS, List.length_map]; omega) (by rw [eM, eS, List.length_map]; omega) (by rw [eN, eM, eS, Int.toNat_natCast, Int.toNat_natCast, Int.toNat_natCast, ← List.map_take, ← List.map_drop, ← List.map_take, ← List.map_drop, ← List.map_append, ← List.map_append, s1]) rfl (Nat.le_of_eq rfl) (by decide) (by decide) ?_
  refine Go.run (B := B_ora) td_ora 51 1 (pc' := 93) (L' := [.val (.ref o), .val (.int (nI P.length)), .val (.int k), .val (.long b), .second, .unset, .unset]) (S' := [.ref o]) rfl ?_
  refine Go.getfield (B := B_ora) td_ora 52 rfl (w_13 K) (Or.inl (List.mem_of_getElem? (i := 1) rfl)) (List.mem_of_getElem? (i := 1) rfl) ?_
  refine Go.run (B := B_ora) td_ora 53 2 (pc' := 98) (L' := [.val (.ref o), .val (.int (nI P.length)), .val (.int k), .val (.long b), .second, .unset, .unset]) (S' := [.ref o, .int (nI P.length), .ref tw]) rfl ?_
  refine Go.getfield (B := B_ora) td_ora 55 rfl (w_13 K) (Or.inl (List.mem_of_getElem? (i := 1) rfl)) (List.mem_of_getElem? (i := 1) rfl) ?_
  refine Go.run (B := B_ora) td_ora 56 4 (pc' := 105) (L' := [.val (.ref o), .val (.int (nI P.length)), .val (.int k), .val (.long b), .second, .unset, .unset]) (S' := [.ref o, .int ((nI P.length) + (1 : Int32)), .ref tw, .int (nI P.length), .ref tw]) rfl ?_
  refine Go.getfield (B := B_ora) td_ora 60 rfl (w_20 K) (Or.inl (List.mem_of_getElem? (i := 1) rfl)) (List.mem_of_getElem? (i := 2) rfl) ?_
  refine Go.run (B := B_ora) td_ora 61 2 (pc' := 110) (L' := [.val (.ref o), .val (.int (nI P.length)), .val (.int k), .val (.long b), .second, .unset, .unset]) (S' := [.int ((nI (P ++ S).length) - (nI P.length)), .int ((nI P.length) + (1 : Int32)), .ref tw, .int (nI P.length), .ref tw]) rfl ?_
  rw [sub, nI_add1]
  show Go A B_ora D _ 110 [.val (.ref o), .val (.int (nI P.length)), .val (.int k), .val (.long b), .second, .unset, .unset] [.int (nI S.length), .int (nI (P.length + 1)), .ref tw, .int (nI P.length), .ref tw] ((ti, ArrP A .int (chV (P.map Prod.fst ++ (g1 :: (S.map Prod.fst ++ Z))))) :: (o, ObjP A "com/example/callweave/callweave/analysis/SparseBits" [("com/example/callweave/callweave/analysis/SparseBits", "indexes", "[I", .ref ti), ("com/example/callweave/callweave/analysis/SparseBits", "words", "[J", .ref tw), ("com/example/callweave/callweave/analysis/SparseBits", "count", "I", .int (nI (P ++ S).length))]) :: (tw, ArrP A .long (lV ((P ++ S).map Prod.snd ++ (y0 :: Zl)))) :: F) G 2 14
  refine Go.front 2 (F' := ((tw, ArrP A .long (lV ((P ++ S).map Prod.snd ++ (y0 :: Zl)))) :: (ti, ArrP A .int (chV (P.map Prod.fst ++ (g1 :: (S.map Prod.fst ++ Z))))) :: (o, ObjP A "com/example/callweave/callweave/analysis/SparseBits" [("com/example/callweave/callweave/analysis/SparseBits", "indexes", "[I", .ref ti), ("com/example/callweave/callweave/analysis/SparseBits", "words", "[J", .ref tw), ("com/example/callweave/callweave/analysis/SparseBits", "count", "I", .int (nI (P ++ S).length))]) :: F)) rfl rfl ?_
  refine Go.copy (B := B_ora) td_ora 63 (vd' := (lV (P.map Prod.snd ++ (g2 :: (S.map Prod.snd ++ Zl))))) (W := 0) rfl rfl (w_56 K) (w_59 K) (w_57 K) (w_58 K) (Or.inl (List.mem_of_getElem? (i := 0) rfl)) (by rw [List.length_map]; omega) (by rw [List.length_map]; omega) (fits_long _) (fits_long _) (by omega) (by omega) (by omega) (by rw [eN, eS, List.length_map]; omega) (by rw [eM, eS, List.length_map]; omega) (by rw [eN, eM, eS, Int.toNat_natCast, Int.toNat_natCast, Int.toNat_natCast, ← List.map_take, ← List.map_drop, ← List.map_take, ← List.map_drop, ← List.map_append, ← List.map_append, s2]) rfl (Nat.le_of_eq rfl) (by decide) (by decide) ?_
  refine Go.run (B := B_ora) td_ora 64 1 (pc' := 114) (L' := [.val (.ref o), .val (.int (nI P.length)), .val (.int k), .val (.long b), .second, .unset, .unset]) (S' := [.ref o]) rfl ?_
  refine Go.getfield (B := B_ora) td_ora 65 rfl (w_10 K) (Or.inl (List.mem_of_getElem? (i := 2) rfl)) (List.mem_of_getElem? (i := 0) rfl) ?_
  refine Go.run (B := B_ora) td_ora 66 2 (pc' := 119) (L' := [.val (.ref o), .val (.int (nI P.length)), .val (.int k), .val (.long b), .second, .unset, .unset]) (S' := [.int k, .int (nI P.length), .ref ti]) rfl ?_
  refine Go.front 1 (F' := ((ti, ArrP A .int (chV (P.map Prod.fst ++ (g1 :: (S.map Prod.fst ++ Z))))) :: (tw, ArrP A .long (lV (P.map Prod.snd ++ (g2 :: (S.map Prod.snd ++ Zl))))) :: (o, ObjP A "com/example/callweave/callweave/analysis/SparseBits" [("com/example/callweave/callweave/analysis/SparseBits", "indexes", "[I", .ref ti), ("com/example/callweave/callweave/analysis/SparseBits", "words", "[J", .ref tw), ("com/example/callweave/callweave/analysis/SparseBits", "count", "I", .int (nI (P ++ S).length))]) :: F)) rfl rfl ?_
  refine Go.iastore (B := B_ora) td_ora 68 (vs' := (chV (P.map Prod.fst ++ (k :: (S.map Prod.fst ++ Z))))) rfl (by rw [List.length_map]; exact nI_inB (by simp) (by simp <;> omega)) (by rw [nI_nat (by omega), chV_set, own_mid _ _ _ _ _ (by simp)]) ?_
  refine Go.run (B := B_ora) td_ora 69 1 (pc' := 121) (L' := [.val (.ref o), .val (.int (nI P.length)), .val (.int k), .val (.long b), .second, .unset, .unset]) (S' := [.ref o]) rfl ?_
  refine Go.getfield (B := B_ora) td_ora 70 rfl (w_13 K) (Or.inl (List.mem_of_getElem? (i := 2) rfl)) (List.mem_of_getElem? (i := 1) rfl) ?_
  refine Go.run (B := B_ora) td_ora 71 2 (pc' := 126) (L' := [.val (.ref o), .val (.int (nI P.length)), .val (.int k), .val (.long b), .second, .unset, .unset]) (S' := [.long (0 : Int64), .int (nI P.length), .ref tw]) rfl ?_
  refine Go.front 1 (F' := ((tw, ArrP A .long (lV (P.map Prod.snd ++ (g2 :: (S.map Prod.snd ++ Zl))))) :: (ti, ArrP A .int (chV (P.map Prod.fst ++ (k :: (S.map Prod.fst ++ Z))))) :: (o, ObjP A "com/example/callweave/callweave/analysis/SparseBits" [("com/example/callweave/callweave/analysis/SparseBits", "indexes", "[I", .ref ti), ("com/example/callweave/callweave/analysis/SparseBits", "words", "[J", .ref tw), ("com/example/callweave/callweave/analysis/SparseBits", "count", "I", .int (nI (P ++ S).length))]) :: F)) rfl rfl ?_
  refine Go.lastore (B := B_ora) td_ora 73 (vs' := (lV (P.map Prod.snd ++ ((0 : Int64) :: (S.map Prod.snd ++ Zl))))) rfl (by rw [List.length_map]; exact nI_inB (by simp) (by simp <;> omega)) (by rw [nI_nat (by omega), lV_set, own_mid _ _ _ _ _ (by simp)]) ?_
  refine Go.run (B := B_ora) td_ora 74 2 (pc' := 129) (L' := [.val (.ref o), .val (.int (nI P.length)), .val (.int k), .val (.long b), .second, .unset, .unset]) (S' := [.ref o, .ref o]) rfl ?_
  refine Go.getfield (B := B_ora) td_ora 76 rfl (w_20 K) (Or.inl (List.mem_of_getElem? (i := 2) rfl)) (List.mem_of_getElem? (i := 2) rfl) ?_
  refine Go.run (B := B_ora) td_ora 77 2 (pc' := 134) (L' := [.val (.ref o), .val (.int (nI P.length)), .val (.int k), .val (.long b), .second, .unset, .unset]) (S' := [.int ((nI (P ++ S).length) + (1 : Int32)), .ref o]) rfl ?_
  rw [nI_add1]
  show Go A B_ora D _ 134 [.val (.ref o), .val (.int (nI P.length)), .val (.int k), .val (.long b), .second, .unset, .unset] [.int (nI ((P ++ S).length + 1)), .ref o] ((tw, ArrP A .long (lV (P.map Prod.snd ++ ((0 : Int64) :: (S.map Prod.snd ++ Zl))))) :: (ti, ArrP A .int (chV (P.map Prod.fst ++ (k :: (S.map Prod.fst ++ Z))))) :: (o, ObjP A "com/example/callweave/callweave/analysis/SparseBits" [("com/example/callweave/callweave/analysis/SparseBits", "indexes", "[I", .ref ti), ("com/example/callweave/callweave/analysis/SparseBits", "words", "[J", .ref tw), ("com/example/callweave/callweave/analysis/SparseBits", "count", "I", .int (nI (P ++ S).length))]) :: F) G 2 14
  refine Go.front 2 (F' := ((o, ObjP A "com/example/callweave/callweave/analysis/SparseBits" [("com/example/callweave/callweave/analysis/SparseBits", "indexes", "[I", .ref ti), ("com/example/callweave/callweave/analysis/SparseBits", "words", "[J", .ref tw), ("com/example/callweave/callweave/analysis/SparseBits", "count", "I", .int (nI (P ++ S).length))]) :: (tw, ArrP A .long (lV (P.map Prod.snd ++ ((0 : Int64) :: (S.map Prod.snd ++ Zl))))) :: (ti, ArrP A .int (chV (P.map Prod.fst ++ (k :: (S.map Prod.fst ++ Z))))) :: F)) rfl rfl ?_
  refine Go.putfield (B := B_ora) td_ora 79 (fs' := [("com/example/callweave/callweave/analysis/SparseBits", "indexes", "[I", .ref ti), ("com/example/callweave/callweave/analysis/SparseBits", "words", "[J", .ref tw), ("com/example/callweave/callweave/analysis/SparseBits", "count", "I", .int (nI ((P ++ S).length + 1)))]) rfl (w_20 K) (Or.inl (w_21 K)) (w_1 K) rfl rfl rfl (List.mem_of_getElem? (i := 2) rfl) (own_fs 2 (ns := ["indexes", "words"]) rfl (by decide) rfl) ?_
  refine Go.front 1 (F' := ((tw, ArrP A .long (lV (P.map Prod.snd ++ ((0 : Int64) :: (S.map Prod.snd ++ Zl))))) :: (o, ObjP A "com/example/callweave/callweave/analysis/SparseBits" [("com/example/callweave/callweave/analysis/SparseBits", "indexes", "[I", .ref ti), ("com/example/callweave/callweave/analysis/SparseBits", "words", "[J", .ref tw), ("com/example/callweave/callweave/analysis/SparseBits", "count", "I", .int (nI ((P ++ S).length + 1)))]) :: (ti, ArrP A .int (chV (P.map Prod.fst ++ (k :: (S.map Prod.fst ++ Z))))) :: F)) rfl rfl ?_
  refine Go.front 2 (F' := ((ti, ArrP A .int (chV (P.map Prod.fst ++ (k :: (S.map Prod.fst ++ Z))))) :: (tw, ArrP A .long (lV (P.map Prod.snd ++ ((0 : Int64) :: (S.map Prod.snd ++ Zl))))) :: (o, ObjP A "com/example/callweave/callweave/analysis/SparseBits" [("com/example/callweave/callweave/analysis/SparseBits", "indexes", "[I", .ref ti), ("com/example/callweave/callweave/analysis/SparseBits", "words", "[J", .ref tw), ("com/example/callweave/callweave/analysis/SparseBits", "count", "I", .int (nI ((P ++ S).length + 1)))]) :: F)) rfl rfl ?_
  refine Go.front 2 (F' := ((o, ObjP A "com/example/callweave/callweave/analysis/SparseBits" [("com/example/callweave/callweave/analysis/SparseBits", "indexes", "[I", .ref ti), ("com/example/callweave/callweave/analysis/SparseBits", "words", "[J", .ref tw), ("com/example/callweave/callweave/analysis/SparseBits", "count", "I", .int (nI ((P ++ S).length + 1)))]) :: (ti, ArrP A .int (chV (P.map Prod.fst ++ (k :: (S.map Prod.fst ++ Z))))) :: (tw, ArrP A .long (lV (P.map Prod.snd ++ ((0 : Int64) :: (S.map Prod.snd ++ Zl))))) :: F)) rfl rfl ?_
  have q := ora137u K (P := P) (S := S) (k := k) (b := b) (w := 0) (o := o) (ti := ti) (tw := tw) (zs := Z) (zl := Zl) (F := F) (G := G) (D := D) (y := 0) (by omega) (by simp <;> omega) (by simp <;> omega)
  simp only [List.map_append, List.map_cons, List.append_assoc, List.cons_append, List.length_append, List.length_cons] at q ⊢
  exact q
set_option maxRecDepth 65536 in
set_option maxHeartbeats 4000000 in
theorem ora71i {A : Ax} (K : Wd A) {D : Dx} {o ti tw : Addr} {P S : List (Int32 × Int64)} {k : Int32} {b : Int64} {z0 : Int32} {y0 : Int64} {Z : List Int32} {Zl : List Int64} {y : Int32} (hz : Z.length = Zl.length) (hlen : (P ++ S).length + Zl.length < 2 ^ 19) (hcap : (P ++ S).length + (Z.length + 1) = 4 ∨ ((P ++ S).length = 4 ∧ Z.length = 2)) {F G : List Ent} : Go A B_ora D (fun v F' G' => (∃ z, v = some (.long z)) ∧ (∃ ti2 tw2 zs2 zl2, zs2.length = zl2.length ∧ ((P ++ (k, (0 : Int64) ||| b) :: S).length + zs2.length = 4 ∨ ((P ++ (k, (0 : Int64) ||| b) :: S).length = 5 ∧ zs2.length = 2)) ∧ ((o, ObjP A "com/example/callweave/callweave/analysis/SparseBits" [("com/example/callweave/callweave/analysis/SparseBits", "indexes", "[I", .ref ti2), ("com/example/callweave/callweave/analysis/SparseBits", "words", "[J", .ref tw2), ("com/example/callweave/callweave/analysis/SparseBits", "count", "I", .int (nI (P ++ (k, (0 : Int64) ||| b) :: S).length))]) :: (ti2, ArrP A .int (chV ((P ++ (k, (0 : Int64) ||| b) :: S).map Prod.fst ++ zs2))) :: (tw2, ArrP A .long (lV ((P ++ (k, (0 : Int64) ||| b) :: S).map Prod.snd ++ zl2))) :: F) = F') ∧ G = G') 71 [.val (.ref o), .val (.int (nI P.length)), .val (.int k), .val (.long b), .second, .val (.int y), .unset] [] ((o, ObjP A "com/example/callweave/callweave/analysis/SparseBits" [("com/example/callweave/callweave/analysis/SparseBits", "indexes", "[I", .ref ti), ("com/example/callweave/callweave/analysis/SparseBits", "words", "[J", .ref tw), ("com/example/callweave/callweave/analysis/SparseBits", "count", "I", .int (nI (P ++ S).length))]) :: (ti, ArrP A .int (chV ((P ++ S).map Prod.fst ++ (z0 :: Z)))) :: (tw, ArrP A .long (lV ((P ++ S).map Prod.snd ++ (y0 :: Zl)))) :: F) G 2 14 := by
  have hPl : P.length + S.length + 1 + Z.length = ((P ++ S).map Prod.fst ++ z0 :: Z).length := by simp; omega
  have hll : (P ++ S).length = P.length + S.length := by simp
  have hQl : P.length + S.length + 1 + Zl.length = ((P ++ S).map Prod.snd ++ y0 :: Zl).length := by simp; omega
  have i1 : ((P ++ S).map Prod.fst ++ z0 :: Z) = P.map Prod.fst ++ (S.map Prod.fst ++ z0 :: Z) := by simp
  have i2 : ((P ++ S).map Prod.snd ++ y0 :: Zl) = P.map Prod.snd ++ (S.map Prod.snd ++ y0 :: Zl) := by simp
  obtain ⟨g1, s1⟩ := shift_l (P.map Prod.fst) (S.map Prod.fst) Z z0
  obtain ⟨g2, s2⟩ := shift_l (P.map Prod.snd) (S.map Prod.snd) Zl y0
  rw [← i1] at s1
  rw [← i2] at s2
  simp only [List.length_map] at s1 s2
  have eN : (nI P.length).toInt = P.length := nI_toInt (by omega)
  have eM : (nI (P.length + 1)).toInt = (P.length + 1 : Nat) := nI_toInt (by omega)
  have eS : (nI S.length).toInt = S.length := nI_toInt (by omega)
  have sub : nI (P ++ S).length - nI P.length = nI S.length := by rw [hll]; exact nI_sub (by omega)
  refine Go.run (B := B_ora) td_ora 38 1 (pc' := 72) (L' := [.val (.ref o), .val (.int (nI P.length)), .val (.int k), .val (.long b), .second, .val (.int y), .unset]) (S' := [.ref o]) rfl ?_
  refine Go.getfield (B := B_ora) td_ora 39 rfl (w_10 K) (Or.inl (List.mem_of_getElem? (i := 0) rfl)) (List.mem_of_getElem? (i := 0) rfl) ?_
  refine Go.run (B := B_ora) td_ora 40 2 (pc' := 77) (L' := [.val (.ref o), .val (.int (nI P.length)), .val (.int k), .val (.long b), .second, .val (.int y), .unset]) (S' := [.ref o, .int (nI P.length), .ref ti]) rfl ?_
  refine Go.getfield (B := B_ora) td_ora 42 rfl (w_10 K) (Or.inl (List.mem_of_getElem? (i := 0) rfl)) (List.mem_of_getElem? (i := 0) rfl) ?_
  refine Go.run (B := B_ora) td_ora 43 4 (pc' := 84) (L' := [.val (.ref o), .val (.int (nI P.length)), .val (.int k), .val (.long b), .second, .val (.int y), .unset]) (S' := [.ref o, .int ((nI P.length) + (1 : Int32)), .ref ti, .int (nI P.length), .ref ti]) rfl ?_
  refine Go.getfield (B := B_ora) td_ora 47 rfl (w_20 K) (Or.inl (List.mem_of_getElem? (i := 0) rfl)) (List.mem_of_getElem? (i := 2) rfl) ?_
  refine Go.run (B := B_ora) td_ora 48 2 (pc' := 89) (L' := [.val (.ref o), .val (.int (nI P.length)), .val (.int k), .val (.long b), .second, .val (.int y), .unset]) (S' := [.int ((nI (P ++ S).length) - (nI P.length)), .int ((nI P.length) + (1 : Int32)), .ref ti, .int (nI P.length), .ref ti]) rfl ?_
  rw [sub, nI_add1]
  show Go A B_ora D _ 89 [.val (.ref o), .val (.int (nI P.length)), .val (.int k), .val (.long b), .second, .val (.int y), .unset] [.int (nI S.length), .int (nI (P.length + 1)), .ref ti, .int (nI P.length), .ref ti] ((o, ObjP A "com/example/callweave/callweave/analysis/SparseBits" [("com/example/callweave/callweave/analysis/SparseBits", "indexes", "[I", .ref ti), ("com/example/callweave/callweave/analysis/SparseBits", "words", "[J", .ref tw), ("com/example/callweave/callweave/analysis/SparseBits", "count", "I", .int (nI (P ++ S).length))]) :: (ti, ArrP A .int (chV ((P ++ S).map Prod.fst ++ (z0 :: Z)))) :: (tw, ArrP A .long (lV ((P ++ S).map Prod.snd ++ (y0 :: Zl)))) :: F) G 2 14
  refine Go.front 1 (F' := ((ti, ArrP A .int (chV ((P ++ S).map Prod.fst ++ (z0 :: Z)))) :: (o, ObjP A "com/example/callweave/callweave/analysis/SparseBits" [("com/example/callweave/callweave/analysis/SparseBits", "indexes", "[I", .ref ti), ("com/example/callweave/callweave/analysis/SparseBits", "words", "[J", .ref tw), ("com/example/callweave/callweave/analysis/SparseBits", "count", "I", .int (nI (P ++ S).length))]) :: (tw, ArrP A .long (lV ((P ++ S).map Prod.snd ++ (y0 :: Zl)))) :: F)) rfl rfl ?_
  refine Go.copy (B := B_ora) td_ora 50 (vd' := (chV (P.map Prod.fst ++ (g1 :: (S.map Prod.fst ++ Z))))) (W := 0) rfl rfl (w_56 K) (w_59 K) (w_57 K) (w_58 K) (Or.inl (List.mem_of_getElem? (i := 0) rfl)) (by rw [List.length_map]; omega) (by rw [List.length_map]; omega) (fits_int _) (fits_int _) (by omega) (by omega) (by omega) (by rw [eN, eS, List.length_map]; omega) (by rw [eM, eS, List.length_map]; omega) (by rw [eN, eM, eS, Int.toNat_natCast, Int.toNat_natCast, Int.toNat_natCast, ← List.map_take, ← List.map_drop, ← List.map_take, ← List.map_drop, ← List.map_append, ← List.map_append, s1]) rfl (Nat.le_of_eq rfl) (by decide) (by decide) ?_
  refine Go.run (B := B_ora) td_ora 51 1 (pc' := 93) (L' := [.val (.ref o), .val (.int (nI P.length)), .val (.int k), .val (.long b), .second, .val (.int y), .unset]) (S' := [.ref o]) rfl ?_
  refine Go.getfield (B := B_ora) td_ora 52 rfl (w_13 K) (Or.inl (List.mem_of_getElem? (i := 1) rfl)) (List.mem_of_getElem? (i := 1) rfl) ?_
  refine Go.run (B := B_ora) td_ora 53 2 (pc' := 98) (L' := [.val (.ref o), .val (.int (nI P.length)), .val (.int k), .val (.long b), .second, .val (.int y), .unset]) (S' := [.ref o, .int (nI P.length), .ref tw]) rfl ?_
  refine Go.getfield (B := B_ora) td_ora 55 rfl (w_13 K) (Or.inl (List.mem_of_getElem? (i := 1) rfl)) (List.mem_of_getElem? (i := 1) rfl) ?_
  refine Go.run (B := B_ora) td_ora 56 4 (pc' := 105) (L' := [.val (.ref o), .val (.int (nI P.length)), .val (.int k), .val (.long b), .second, .val (.int y), .unset]) (S' := [.ref o, .int ((nI P.length) + (1 : Int32)), .ref tw, .int (nI P.length), .ref tw]) rfl ?_
  refine Go.getfield (B := B_ora) td_ora 60 rfl (w_20 K) (Or.inl (List.mem_of_getElem? (i := 1) rfl)) (List.mem_of_getElem? (i := 2) rfl) ?_
  refine Go.run (B := B_ora) td_ora 61 2 (pc' := 110) (L' := [.val (.ref o), .val (.int (nI P.length)), .val (.int k), .val (.long b), .second, .val (.int y), .unset]) (S' := [.int ((nI (P ++ S).length) - (nI P.length)), .int ((nI P.length) + (1 : Int32)), .ref tw, .int (nI P.length), .ref tw]) rfl ?_
  rw [sub, nI_add1]
  show Go A B_ora D _ 110 [.val (.ref o), .val (.int (nI P.length)), .val (.int k), .val (.long b), .second, .val (.int y), .unset] [.int (nI S.length), .int (nI (P.length + 1)), .ref tw, .int (nI P.length), .ref tw] ((ti, ArrP A .int (chV (P.map Prod.fst ++ (g1 :: (S.map Prod.fst ++ Z))))) :: (o, ObjP A "com/example/callweave/callweave/analysis/SparseBits" [("com/example/callweave/callweave/analysis/SparseBits", "indexes", "[I", .ref ti), ("com/example/callweave/callweave/analysis/SparseBits", "words", "[J", .ref tw), ("com/example/callweave/callweave/analysis/SparseBits", "count", "I", .int (nI (P ++ S).length))]) :: (tw, ArrP A .long (lV ((P ++ S).map Prod.snd ++ (y0 :: Zl)))) :: F) G 2 14
  refine Go.front 2 (F' := ((tw, ArrP A .long (lV ((P ++ S).map Prod.snd ++ (y0 :: Zl)))) :: (ti, ArrP A .int (chV (P.map Prod.fst ++ (g1 :: (S.map Prod.fst ++ Z))))) :: (o, ObjP A "com/example/callweave/callweave/analysis/SparseBits" [("com/example/callweave/callweave/analysis/SparseBits", "indexes", "[I", .ref ti), ("com/example/callweave/callweave/analysis/SparseBits", "words", "[J", .ref tw), ("com/example/callweave/callweave/analysis/SparseBits", "count", "I", .int (nI (P ++ S).length))]) :: F)) rfl rfl ?_
  refine Go.copy (B := B_ora) td_ora 63 (vd' := (lV (P.map Prod.snd ++ (g2 :: (S.map Prod.snd ++ Zl))))) (W := 0) rfl rfl (w_56 K) (w_59 K) (w_57 K) (w_58 K) (Or.inl (List.mem_of_getElem? (i := 0) rfl)) (by rw [List.length_map]; omega) (by rw [List.length_map]; omega) (fits_long _) (fits_long _) (by omega) (by omega) (by omega) (by rw [eN, eS, List.length_map]; omega) (by rw [eM, eS, List.length_map]; omega) (by rw [eN, eM, eS, Int.toNat_natCast, Int.toNat_natCast, Int.toNat_natCast, ← List.map_take, ← List.map_drop, ← List.map_take, ← List.map_drop, ← List.map_append, ← List.map_append, s2]) rfl (Nat.le_of_eq rfl) (by decide) (by decide) ?_
  refine Go.run (B := B_ora) td_ora 64 1 (pc' := 114) (L' := [.val (.ref o), .val (.int (nI P.length)), .val (.int k), .val (.long b), .second, .val (.int y), .unset]) (S' := [.ref o]) rfl ?_
  refine Go.getfield (B := B_ora) td_ora 65 rfl (w_10 K) (Or.inl (List.mem_of_getElem? (i := 2) rfl)) (List.mem_of_getElem? (i := 0) rfl) ?_
  refine Go.run (B := B_ora) td_ora 66 2 (pc' := 119) (L' := [.val (.ref o), .val (.int (nI P.length)), .val (.int k), .val (.long b), .second, .val (.int y), .unset]) (S' := [.int k, .int (nI P.length), .ref ti]) rfl ?_
  refine Go.front 1 (F' := ((ti, ArrP A .int (chV (P.map Prod.fst ++ (g1 :: (S.map Prod.fst ++ Z))))) :: (tw, ArrP A .long (lV (P.map Prod.snd ++ (g2 :: (S.map Prod.snd ++ Zl))))) :: (o, ObjP A "com/example/callweave/callweave/analysis/SparseBits" [("com/example/callweave/callweave/analysis/SparseBits", "indexes", "[I", .ref ti), ("com/example/callweave/callweave/analysis/SparseBits", "words", "[J", .ref tw), ("com/example/callweave/callweave/analysis/SparseBits", "count", "I", .int (nI (P ++ S).length))]) :: F)) rfl rfl ?_
  refine Go.iastore (B := B_ora) td_ora 68 (vs' := (chV (P.map Prod.fst ++ (k :: (S.map Prod.fst ++ Z))))) rfl (by rw [List.length_map]; exact nI_inB (by simp) (by simp <;> omega)) (by rw [nI_nat (by omega), chV_set, own_mid _ _ _ _ _ (by simp)]) ?_
  refine Go.run (B := B_ora) td_ora 69 1 (pc' := 121) (L' := [.val (.ref o), .val (.int (nI P.length)), .val (.int k), .val (.long b), .second, .val (.int y), .unset]) (S' := [.ref o]) rfl ?_
  refine Go.getfield (B := B_ora) td_ora 70 rfl (w_13 K) (Or.inl (List.mem_of_getElem? (i := 2) rfl)) (List.mem_of_getElem? (i := 1) rfl) ?_
  refine Go.run (B := B_ora) td_ora 71 2 (pc' := 126) (L' := [.val (.ref o), .val (.int (nI P.length)), .val (.int k), .val (.long b), .second, .val (.int y), .unset]) (S' := [.long (0 : Int64), .int (nI P.length), .ref tw]) rfl ?_
  refine Go.front 1 (F' := ((tw, ArrP A .long (lV (P.map Prod.snd ++ (g2 :: (S.map Prod.snd ++ Zl))))) :: (ti, ArrP A .int (chV (P.map Prod.fst ++ (k :: (S.map Prod.fst ++ Z))))) :: (o, ObjP A "com/example/callweave/callweave/analysis/SparseBits" [("com/example/callweave/callweave/analysis/SparseBits", "indexes", "[I", .ref ti), ("com/example/callweave/callweave/analysis/SparseBits", "words", "[J", .ref tw), ("com/example/callweave/callweave/analysis/SparseBits", "count", "I", .int (nI (P ++ S).length))]) :: F)) rfl rfl ?_
  refine Go.lastore (B := B_ora) td_ora 73 (vs' := (lV (P.map Prod.snd ++ ((0 : Int64) :: (S.map Prod.snd ++ Zl))))) rfl (by rw [List.length_map]; exact nI_inB (by simp) (by simp <;> omega)) (by rw [nI_nat (by omega), lV_set, own_mid _ _ _ _ _ (by simp)]) ?_
  refine Go.run (B := B_ora) td_ora 74 2 (pc' := 129) (L' := [.val (.ref o), .val (.int (nI P.length)), .val (.int k), .val (.long b), .second, .val (.int y), .unset]) (S' := [.ref o, .ref o]) rfl ?_
  refine Go.getfield (B := B_ora) td_ora 76 rfl (w_20 K) (Or.inl (List.mem_of_getElem? (i := 2) rfl)) (List.mem_of_getElem? (i := 2) rfl) ?_
  refine Go.run (B := B_ora) td_ora 77 2 (pc' := 134) (L' := [.val (.ref o), .val (.int (nI P.length)), .val (.int k), .val (.long b), .second, .val (.int y), .unset]) (S' := [.int ((nI (P ++ S).length) + (1 : Int32)), .ref o]) rfl ?_
  rw [nI_add1]
  show Go A B_ora D _ 134 [.val (.ref o), .val (.int (nI P.length)), .val (.int k), .val (.long b), .second, .val (.int y), .unset] [.int (nI ((P ++ S).length + 1)), .ref o] ((tw, ArrP A .long (lV (P.map Prod.snd ++ ((0 : Int64) :: (S.map Prod.snd ++ Zl))))) :: (ti, ArrP A .int (chV (P.map Prod.fst ++ (k :: (S.map Prod.fst ++ Z))))) :: (o, ObjP A "com/example/callweave/callweave/analysis/SparseBits" [("com/example/callweave/callweave/analysis/SparseBits", "indexes", "[I", .ref ti), ("com/example/callweave/callweave/analysis/SparseBits", "words", "[J", .ref tw), ("com/example/callweave/callweave/analysis/SparseBits", "count", "I", .int (nI (P ++ S).length))]) :: F) G 2 14
  refine Go.front 2 (F' := ((o, ObjP A "com/example/callweave/callweave/analysis/SparseBits" [("com/example/callweave/callweave/analysis/SparseBits", "indexes", "[I", .ref ti), ("com/example/callweave/callweave/analysis/SparseBits", "words", "[J", .ref tw), ("com/example/callweave/callweave/analysis/SparseBits", "count", "I", .int (nI (P ++ S).length))]) :: (tw, ArrP A .long (lV (P.map Prod.snd ++ ((0 : Int64) :: (S.map Prod.snd ++ Zl))))) :: (ti, ArrP A .int (chV (P.map Prod.fst ++ (k :: (S.map Prod.fst ++ Z))))) :: F)) rfl rfl ?_
  refine Go.putfield (B := B_ora) td_ora 79 (fs' := [("com/example/callweave/callweave/analysis/SparseBits", "indexes", "[I", .ref ti), ("com/example/callweave/callweave/analysis/SparseBits", "words", "[J", .ref tw), ("com/example/callweave/callweave/analysis/SparseBits", "count", "I", .int (nI ((P ++ S).length + 1)))]) rfl (w_20 K) (Or.inl (w_21 K)) (w_1 K) rfl rfl rfl (List.mem_of_getElem? (i := 2) rfl) (own_fs 2 (ns := ["indexes", "words"]) rfl (by decide) rfl) ?_
  refine Go.front 1 (F' := ((tw, ArrP A .long (lV (P.map Prod.snd ++ ((0 : Int64) :: (S.map Prod.snd ++ Zl))))) :: (o, ObjP A "com/example/callweave/callweave/analysis/SparseBits" [("com/example/callweave/callweave/analysis/SparseBits", "indexes", "[I", .ref ti), ("com/example/callweave/callweave/analysis/SparseBits", "words", "[J", .ref tw), ("com/example/callweave/callweave/analysis/SparseBits", "count", "I", .int (nI ((P ++ S).length + 1)))]) :: (ti, ArrP A .int (chV (P.map Prod.fst ++ (k :: (S.map Prod.fst ++ Z))))) :: F)) rfl rfl ?_
  refine Go.front 2 (F' := ((ti, ArrP A .int (chV (P.map Prod.fst ++ (k :: (S.map Prod.fst ++ Z))))) :: (tw, ArrP A .long (lV (P.map Prod.snd ++ ((0 : Int64) :: (S.map Prod.snd ++ Zl))))) :: (o, ObjP A "com/example/callweave/callweave/analysis/SparseBits" [("com/example/callweave/callweave/analysis/SparseBits", "indexes", "[I", .ref ti), ("com/example/callweave/callweave/analysis/SparseBits", "words", "[J", .ref tw), ("com/example/callweave/callweave/analysis/SparseBits", "count", "I", .int (nI ((P ++ S).length + 1)))]) :: F)) rfl rfl ?_
  refine Go.front 2 (F' := ((o, ObjP A "com/example/callweave/callweave/analysis/SparseBits" [("com/example/callweave/callweave/analysis/SparseBits", "indexes", "[I", .ref ti), ("com/example/callweave/callweave/analysis/SparseBits", "words", "[J", .ref tw), ("com/example/callweave/callweave/analysis/SparseBits", "count", "I", .int (nI ((P ++ S).length + 1)))]) :: (ti, ArrP A .int (chV (P.map Prod.fst ++ (k :: (S.map Prod.fst ++ Z))))) :: (tw, ArrP A .long (lV (P.map Prod.snd ++ ((0 : Int64) :: (S.map Prod.snd ++ Zl))))) :: F)) rfl rfl ?_
  have q := ora137i K (P := P) (S := S) (k := k) (b := b) (w := 0) (o := o) (ti := ti) (tw := tw) (zs := Z) (zl := Zl) (F := F) (G := G) (D := D) (y := y) (by omega) (by simp <;> omega) (by simp <;> omega)
  simp only [List.map_append, List.map_cons, List.append_assoc, List.cons_append, List.length_append, List.length_cons] at q ⊢
  exact q
set_option maxRecDepth 65536 in
set_option maxHeartbeats 4000000 in
theorem ora18 {A : Ax} (K : Wd A) {D : Dx} {o ti tw : Addr} {P S : List (Int32 × Int64)} {k : Int32} {b : Int64} {zs : List Int32} {zl : List Int64} (hz : zs.length = zl.length) (hcap : (P ++ S).length + zs.length = 4) {F G : List Ent} : Go A B_ora D (fun v F' G' => (∃ z, v = some (.long z)) ∧ (∃ ti2 tw2 zs2 zl2, zs2.length = zl2.length ∧ ((P ++ (k, (0 : Int64) ||| b) :: S).length + zs2.length = 4 ∨ ((P ++ (k, (0 : Int64) ||| b) :: S).length = 5 ∧ zs2.length = 2)) ∧ ((o, ObjP A "com/example/callweave/callweave/analysis/SparseBits" [("com/example/callweave/callweave/analysis/SparseBits", "indexes", "[I", .ref ti2), ("com/example/callweave/callweave/analysis/SparseBits", "words", "[J", .ref tw2), ("com/example/callweave/callweave/analysis/SparseBits", "count", "I", .int (nI (P ++ (k, (0 : Int64) ||| b) :: S).length))]) :: (ti2, ArrP A .int (chV ((P ++ (k, (0 : Int64) ||| b) :: S).map Prod.fst ++ zs2))) :: (tw2, ArrP A .long (lV ((P ++ (k, (0 : Int64) ||| b) :: S).map Prod.snd ++ zl2))) :: F) = F') ∧ G = G') 18 [.val (.ref o), .val (.int (nI P.length)), .val (.int k), .val (.long b), .second, .unset, .unset] [] ((o, ObjP A "com/example/callweave/callweave/analysis/SparseBits" [("com/example/callweave/callweave/analysis/SparseBits", "indexes", "[I", .ref ti), ("com/example/callweave/callweave/analysis/SparseBits", "words", "[J", .ref tw), ("com/example/callweave/callweave/analysis/SparseBits", "count", "I", .int (nI (P ++ S).length))]) :: (ti, ArrP A .int (chV ((P ++ S).map Prod.fst ++ zs))) :: (tw, ArrP A .long (lV ((P ++ S).map Prod.snd ++ zl))) :: F) G 0 0 := by
  have hcl : ((P ++ S).map Prod.fst ++ zs).length = 4 := by rw [List.length_append, List.length_map]; exact hcap
  refine Go.run (B := B_ora) td_ora 10 1 (pc' := 19) (L' := [.val (.ref o), .val (.int (nI P.length)), .val (.int k), .val (.long b), .second, .unset, .unset]) (S' := [.ref o]) rfl ?_
  refine Go.getfield (B := B_ora) td_ora 11 rfl (w_20 K) (Or.inl (List.mem_of_getElem? (i := 0) rfl)) (List.mem_of_getElem? (i := 2) rfl) ?_
  refine Go.run (B := B_ora) td_ora 12 1 (pc' := 23) (L' := [.val (.ref o), .val (.int (nI P.length)), .val (.int k), .val (.long b), .second, .unset, .unset]) (S' := [.ref o, .int (nI (P ++ S).length)]) rfl ?_
  refine Go.getfield (B := B_ora) td_ora 13 rfl (w_10 K) (Or.inl (List.mem_of_getElem? (i := 0) rfl)) (List.mem_of_getElem? (i := 0) rfl) ?_
  refine Go.arraylength (B := B_ora) td_ora 14 (z := (4 : Int32)) rfl (Or.inl (List.mem_of_getElem? (i := 1) rfl)) (by rw [List.length_map, hcl]; rfl) ?_
  clear hcl
  cases zs with
  | nil =>
    have hz0 : zl = [] := List.length_eq_zero_iff.mp (by simpa using hz.symm)
    subst hz0
    have h4 : (P ++ S).length = 4 := by simpa using hcap
    refine Go.icmp (B := B_ora) td_ora 15 (pc' := 71) rfl (by decide) rfl (fun (h : (nI (P ++ S).length) ≠ (4 : Int32)) => absurd h (fun z => z (by rw [h4]; rfl))) (fun _ => ?_)
    refine Go.run (B := B_ora) td_ora 16 1 (pc' := 31) (L' := [.val (.ref o), .val (.int (nI P.length)), .val (.int k), .val (.long b), .second, .unset, .unset]) (S' := [.ref o]) rfl ?_
    refine Go.getfield (B := B_ora) td_ora 17 rfl (w_20 K) (Or.inl (List.mem_of_getElem? (i := 0) rfl)) (List.mem_of_getElem? (i := 2) rfl) ?_
    refine Go.run (B := B_ora) td_ora 18 1 (pc' := 35) (L' := [.val (.ref o), .val (.int (nI P.length)), .val (.int k), .val (.long b), .second, .unset, .unset]) (S' := [.ref o, .int (nI (P ++ S).length)]) rfl ?_
    refine Go.getfield (B := B_ora) td_ora 19 rfl (w_20 K) (Or.inl (List.mem_of_getElem? (i := 0) rfl)) (List.mem_of_getElem? (i := 2) rfl) ?_
    refine Go.run (B := B_ora) td_ora 20 8 (pc' := 47) (L' := [.val (.ref o), .val (.int (nI P.length)), .val (.int k), .val (.long b), .second, .val (.int (((nI (P ++ S).length) + ((nI (P ++ S).length) >>> ((1 : Int32) &&& 31))) + (1 : Int32))), .unset]) (S' := [.ref o, .ref o]) rfl ?_
    rw [show nI (P ++ S).length + nI (P ++ S).length >>> ((1 : Int32) &&& 31) + (1 : Int32) = 7 by rw [h4]; decide]
    show Go A B_ora D _ 47 [.val (.ref o), .val (.int (nI P.length)), .val (.int k), .val (.long b), .second, .val (.int (7 : Int32)), .unset] [.ref o, .ref o] ((o, ObjP A "com/example/callweave/callweave/analysis/SparseBits" [("com/example/callweave/callweave/analysis/SparseBits", "indexes", "[I", .ref ti), ("com/example/callweave/callweave/analysis/SparseBits", "words", "[J", .ref tw), ("com/example/callweave/callweave/analysis/SparseBits", "count", "I", .int (nI (P ++ S).length))]) :: (ti, ArrP A .int (chV ((P ++ S).map Prod.fst ++ []))) :: (tw, ArrP A .long (lV ((P ++ S).map Prod.snd ++ []))) :: F) G 0 0
    refine Go.getfield (B := B_ora) td_ora 28 rfl (w_10 K) (Or.inl (List.mem_of_getElem? (i := 0) rfl)) (List.mem_of_getElem? (i := 0) rfl) ?_
    refine Go.run (B := B_ora) td_ora 29 1 (pc' := 52) (L' := [.val (.ref o), .val (.int (nI P.length)), .val (.int k), .val (.long b), .second, .val (.int (7 : Int32)), .unset]) (S' := [.int (7 : Int32), .ref ti, .ref o]) rfl ?_
    refine Go.callS (B := B_ora) td_ora 30 (B' := B_cpi) (argsL := [.ref ti, .int (7 : Int32)]) (rest := [.ref o]) (W := 1) rfl (cpi_met K (by simp at h4 ⊢; omega) (Or.inl (List.mem_of_getElem? (i := 1) rfl))) (w_68 K) (w_69 K) (w_43 K) (w_70 K) (by decide) pd_cpi rfl rfl rfl rfl (Nat.le_of_eq rfl) (by decide) (by decide) (by decide) (by decide) ?_
    rintro _ _ _ ⟨t2, rfl, rfl, rfl⟩
    show Go A B_ora D _ 55 [.val (.ref o), .val (.int (nI P.length)), .val (.int k), .val (.long b), .second, .val (.int (7 : Int32)), .unset] [.ref t2, .ref o] ((t2, ArrP A .int (chV ((P ++ S).map Prod.fst ++ [] ++ [0, 0, 0]))) :: (o, ObjP A "com/example/callweave/callweave/analysis/SparseBits" [("com/example/callweave/callweave/analysis/SparseBits", "indexes", "[I", .ref ti), ("com/example/callweave/callweave/analysis/SparseBits", "words", "[J", .ref tw), ("com/example/callweave/callweave/analysis/SparseBits", "count", "I", .int (nI (P ++ S).length))]) :: (ti, ArrP A .int (chV ((P ++ S).map Prod.fst ++ []))) :: (tw, ArrP A .long (lV ((P ++ S).map Prod.snd ++ []))) :: F) G 1 7
    refine Go.front 1 (F' := ((o, ObjP A "com/example/callweave/callweave/analysis/SparseBits" [("com/example/callweave/callweave/analysis/SparseBits", "indexes", "[I", .ref ti), ("com/example/callweave/callweave/analysis/SparseBits", "words", "[J", .ref tw), ("com/example/callweave/callweave/analysis/SparseBits", "count", "I", .int (nI (P ++ S).length))]) :: (t2, ArrP A .int (chV ((P ++ S).map Prod.fst ++ [] ++ [0, 0, 0]))) :: (ti, ArrP A .int (chV ((P ++ S).map Prod.fst ++ []))) :: (tw, ArrP A .long (lV ((P ++ S).map Prod.snd ++ []))) :: F)) rfl rfl ?_
    refine Go.putfield (B := B_ora) td_ora 31 (fs' := [("com/example/callweave/callweave/analysis/SparseBits", "indexes", "[I", .ref t2), ("com/example/callweave/callweave/analysis/SparseBits", "words", "[J", .ref tw), ("com/example/callweave/callweave/analysis/SparseBits", "count", "I", .int (nI (P ++ S).length))]) rfl (w_10 K) (Or.inl (w_11 K)) (w_1 K) rfl rfl rfl (List.mem_of_getElem? (i := 0) rfl) (own_fs 0 (ns := ["words", "count"]) rfl (by decide) rfl) ?_
    refine Go.run (B := B_ora) td_ora 32 2 (pc' := 60) (L' := [.val (.ref o), .val (.int (nI P.length)), .val (.int k), .val (.long b), .second, .val (.int (7 : Int32)), .unset]) (S' := [.ref o, .ref o]) rfl ?_
    refine Go.getfield (B := B_ora) td_ora 34 rfl (w_13 K) (Or.inl (List.mem_of_getElem? (i := 0) rfl)) (List.mem_of_getElem? (i := 1) rfl) ?_
    refine Go.run (B := B_ora) td_ora 35 1 (pc' := 65) (L' := [.val (.ref o), .val (.int (nI P.length)), .val (.int k), .val (.long b), .second, .val (.int (7 : Int32)), .unset]) (S' := [.int (7 : Int32), .ref tw, .ref o]) rfl ?_
    refine Go.callS (B := B_ora) td_ora 36 (B' := B_cpj) (argsL := [.ref tw, .int (7 : Int32)]) (rest := [.ref o]) (W := 1) rfl (cpj_met K (by simp at h4 ⊢; omega) (Or.inl (List.mem_of_getElem? (i := 3) rfl))) (w_73 K) (w_74 K) (w_43 K) (w_75 K) (by decide) pd_cpj rfl rfl rfl rfl (Nat.le_of_eq rfl) (by decide) (by decide) (by decide) (by decide) ?_
    rintro _ _ _ ⟨t3, rfl, rfl, rfl⟩
    show Go A B_ora D _ 68 [.val (.ref o), .val (.int (nI P.length)), .val (.int k), .val (.long b), .second, .val (.int (7 : Int32)), .unset] [.ref t3, .ref o] ((t3, ArrP A .long (lV ((P ++ S).map Prod.snd ++ [] ++ [0, 0, 0]))) :: (o, ObjP A "com/example/callweave/callweave/analysis/SparseBits" [("com/example/callweave/callweave/analysis/SparseBits", "indexes", "[I", .ref t2), ("com/example/callweave/callweave/analysis/SparseBits", "words", "[J", .ref tw), ("com/example/callweave/callweave/analysis/SparseBits", "count", "I", .int (nI (P ++ S).length))]) :: (t2, ArrP A .int (chV ((P ++ S).map Prod.fst ++ [] ++ [0, 0, 0]))) :: (ti, ArrP A .int (chV ((P ++ S).map Prod.fst ++ []))) :: (tw, ArrP A .long (lV ((P ++ S).map Prod.snd ++ []))) :: F) G 2 14
    refine Go.front 1 (F' := ((o, ObjP A "com/example/callweave/callweave/analysis/SparseBits" [("com/example/callweave/callweave/analysis/SparseBits", "indexes", "[I", .ref t2), ("com/example/callweave/callweave/analysis/SparseBits", "words", "[J", .ref tw), ("com/example/callweave/callweave/analysis/SparseBits", "count", "I", .int (nI (P ++ S).length))]) :: (t3, ArrP A .long (lV ((P ++ S).map Prod.snd ++ [] ++ [0, 0, 0]))) :: (t2, ArrP A .int (chV ((P ++ S).map Prod.fst ++ [] ++ [0, 0, 0]))) :: (ti, ArrP A .int (chV ((P ++ S).map Prod.fst ++ []))) :: (tw, ArrP A .long (lV ((P ++ S).map Prod.snd ++ []))) :: F)) rfl rfl ?_
    refine Go.putfield (B := B_ora) td_ora 37 (fs' := [("com/example/callweave/callweave/analysis/SparseBits", "indexes", "[I", .ref t2), ("com/example/callweave/callweave/analysis/SparseBits", "words", "[J", .ref t3), ("com/example/callweave/callweave/analysis/SparseBits", "count", "I", .int (nI (P ++ S).length))]) rfl (w_13 K) (Or.inl (w_14 K)) (w_1 K) rfl rfl rfl (List.mem_of_getElem? (i := 1) rfl) (own_fs 1 (ns := ["indexes", "count"]) rfl (by decide) rfl) ?_
    refine Go.front 4 (F' := ((tw, ArrP A .long (lV ((P ++ S).map Prod.snd ++ []))) :: (o, ObjP A "com/example/callweave/callweave/analysis/SparseBits" [("com/example/callweave/callweave/analysis/SparseBits", "indexes", "[I", .ref t2), ("com/example/callweave/callweave/analysis/SparseBits", "words", "[J", .ref t3), ("com/example/callweave/callweave/analysis/SparseBits", "count", "I", .int (nI (P ++ S).length))]) :: (t3, ArrP A .long (lV ((P ++ S).map Prod.snd ++ [] ++ [0, 0, 0]))) :: (t2, ArrP A .int (chV ((P ++ S).map Prod.fst ++ [] ++ [0, 0, 0]))) :: (ti, ArrP A .int (chV ((P ++ S).map Prod.fst ++ []))) :: F)) rfl rfl ?_
    refine Go.drop ?_
    refine Go.front 3 (F' := ((ti, ArrP A .int (chV ((P ++ S).map Prod.fst ++ []))) :: (o, ObjP A "com/example/callweave/callweave/analysis/SparseBits" [("com/example/callweave/callweave/analysis/SparseBits", "indexes", "[I", .ref t2), ("com/example/callweave/callweave/analysis/SparseBits", "words", "[J", .ref t3), ("com/example/callweave/callweave/analysis/SparseBits", "count", "I", .int (nI (P ++ S).length))]) :: (t3, ArrP A .long (lV ((P ++ S).map Prod.snd ++ [] ++ [0, 0, 0]))) :: (t2, ArrP A .int (chV ((P ++ S).map Prod.fst ++ [] ++ [0, 0, 0]))) :: F)) rfl rfl ?_
    refine Go.drop ?_
    refine Go.front 1 (F' := ((t3, ArrP A .long (lV ((P ++ S).map Prod.snd ++ [] ++ [0, 0, 0]))) :: (o, ObjP A "com/example/callweave/callweave/analysis/SparseBits" [("com/example/callweave/callweave/analysis/SparseBits", "indexes", "[I", .ref t2), ("com/example/callweave/callweave/analysis/SparseBits", "words", "[J", .ref t3), ("com/example/callweave/callweave/analysis/SparseBits", "count", "I", .int (nI (P ++ S).length))]) :: (t2, ArrP A .int (chV ((P ++ S).map Prod.fst ++ [] ++ [0, 0, 0]))) :: F)) rfl rfl ?_
    refine Go.front 2 (F' := ((t2, ArrP A .int (chV ((P ++ S).map Prod.fst ++ [] ++ [0, 0, 0]))) :: (t3, ArrP A .long (lV ((P ++ S).map Prod.snd ++ [] ++ [0, 0, 0]))) :: (o, ObjP A "com/example/callweave/callweave/analysis/SparseBits" [("com/example/callweave/callweave/analysis/SparseBits", "indexes", "[I", .ref t2), ("com/example/callweave/callweave/analysis/SparseBits", "words", "[J", .ref t3), ("com/example/callweave/callweave/analysis/SparseBits", "count", "I", .int (nI (P ++ S).length))]) :: F)) rfl rfl ?_
    refine Go.front 2 (F' := ((o, ObjP A "com/example/callweave/callweave/analysis/SparseBits" [("com/example/callweave/callweave/analysis/SparseBits", "indexes", "[I", .ref t2), ("com/example/callweave/callweave/analysis/SparseBits", "words", "[J", .ref t3), ("com/example/callweave/callweave/analysis/SparseBits", "count", "I", .int (nI (P ++ S).length))]) :: (t2, ArrP A .int (chV ((P ++ S).map Prod.fst ++ [] ++ [0, 0, 0]))) :: (t3, ArrP A .long (lV ((P ++ S).map Prod.snd ++ [] ++ [0, 0, 0]))) :: F)) rfl rfl ?_
    have q := ora71i K (P := P) (S := S) (k := k) (b := b) (o := o) (ti := t2) (tw := t3) (z0 := 0) (y0 := 0) (Z := [0, 0]) (Zl := [0, 0]) (y := 7) (F := F) (G := G) (D := D) rfl (by simp at h4 ⊢; omega) (Or.inr ⟨h4, rfl⟩)
    simp only [List.append_nil] at q ⊢
    exact q
  | cons z0 Z =>
    cases zl with
    | nil => simp at hz
    | cons y0 Zl =>
      refine Go.icmp (B := B_ora) td_ora 15 (pc' := 71) rfl (by decide) rfl (fun _ => ?_) (fun (h : ¬ ((nI (P ++ S).length) ≠ (4 : Int32))) => absurd (fun z => by have q := congrArg Int32.toInt z; simp only [List.length_cons] at hcap; rw [nI_toInt (by omega), show (4 : Int32).toInt = 4 by decide] at q; omega) h)
      exact Go.mono (by omega) (by omega) (ora71u K (y := 0) (by simpa using hz) (by simp at hcap hz ⊢; omega) (by simp at hcap ⊢; omega))
set_option maxRecDepth 65536 in
set_option maxHeartbeats 4000000 in
theorem oraF_met {A : Ax} (K : Wd A) {o ti tw : Addr} {P S : List (Int32 × Int64)} {k : Int32} {b : Int64} {zs : List Int32} {zl : List Int64} {w : Int64} (hz : zs.length = zl.length) (hcap : (P ++ (k, w) :: S).length + zs.length = 4) {F G : List Ent} : Met A B_ora #[.ref o, .int (nI P.length), .int k, .long b] ((o, ObjP A "com/example/callweave/callweave/analysis/SparseBits" [("com/example/callweave/callweave/analysis/SparseBits", "indexes", "[I", .ref ti), ("com/example/callweave/callweave/analysis/SparseBits", "words", "[J", .ref tw), ("com/example/callweave/callweave/analysis/SparseBits", "count", "I", .int (nI (P ++ (k, w) :: S).length))]) :: (ti, ArrP A .int (chV ((P ++ (k, w) :: S).map Prod.fst ++ zs))) :: (tw, ArrP A .long (lV ((P ++ (k, w) :: S).map Prod.snd ++ zl))) :: F) G (fun v F' G' => (∃ z, v = some (.long z)) ∧ (∃ ti2 tw2 zs2 zl2, zs2.length = zl2.length ∧ ((P ++ (k, w ||| b) :: S).length + zs2.length = 4 ∨ ((P ++ (k, w ||| b) :: S).length = 5 ∧ zs2.length = 2)) ∧ ((o, ObjP A "com/example/callweave/callweave/analysis/SparseBits" [("com/example/callweave/callweave/analysis/SparseBits", "indexes", "[I", .ref ti2), ("com/example/callweave/callweave/analysis/SparseBits", "words", "[J", .ref tw2), ("com/example/callweave/callweave/analysis/SparseBits", "count", "I", .int (nI (P ++ (k, w ||| b) :: S).length))]) :: (ti2, ArrP A .int (chV ((P ++ (k, w ||| b) :: S).map Prod.fst ++ zs2))) :: (tw2, ArrP A .long (lV ((P ++ (k, w ||| b) :: S).map Prod.snd ++ zl2))) :: F) = F') ∧ G = G') := by
  refine MetW.of_go pn_ora K.ew (L := [.val (.ref o), .val (.int (nI P.length)), .val (.int k), .val (.long b), .second, .unset, .unset]) (fun m => rfl) ?_
  intro D _
  have hll : (P ++ (k, w) :: S).length = P.length + (S.length + 1) := by simp
  refine Go.run (B := B_ora) td_ora 0 2 (pc' := 2) (L' := [.val (.ref o), .val (.int (nI P.length)), .val (.int k), .val (.long b), .second, .unset, .unset]) (S' := [.ref o, .int (nI P.length)]) rfl ?_
  refine Go.getfield (B := B_ora) td_ora 2 rfl (w_20 K) (Or.inl (List.mem_of_getElem? (i := 0) rfl)) (List.mem_of_getElem? (i := 2) rfl) ?_
  refine Go.icmp (B := B_ora) td_ora 3 (pc' := 18) rfl (by decide) rfl (fun (h : (nI P.length) = (nI (P ++ (k, w) :: S).length)) => absurd h (fun z => by have q := congrArg Int32.toInt z; rw [nI_toInt (by omega), nI_toInt (by omega)] at q; omega)) (fun _ => ?_)
  refine Go.run (B := B_ora) td_ora 4 1 (pc' := 9) (L' := [.val (.ref o), .val (.int (nI P.length)), .val (.int k), .val (.long b), .second, .unset, .unset]) (S' := [.ref o]) rfl ?_
  refine Go.getfield (B := B_ora) td_ora 5 rfl (w_10 K) (Or.inl (List.mem_of_getElem? (i := 0) rfl)) (List.mem_of_getElem? (i := 0) rfl) ?_
  refine Go.run (B := B_ora) td_ora 6 1 (pc' := 13) (L' := [.val (.ref o), .val (.int (nI P.length)), .val (.int k), .val (.long b), .second, .unset, .unset]) (S' := [.int (nI P.length), .ref ti]) rfl ?_
  refine Go.iaload (B := B_ora) td_ora 7 (v := .int k) rfl (Or.inl (List.mem_of_getElem? (i := 1) rfl)) (by rw [List.length_map]; exact nI_inB (by simp <;> omega) (by simp <;> omega)) (by rw [nI_nat (by omega)]; exact chV_get (by simp)) ?_
  refine Go.run (B := B_ora) td_ora 8 1 (pc' := 15) (L' := [.val (.ref o), .val (.int (nI P.length)), .val (.int k), .val (.long b), .second, .unset, .unset]) (S' := [.int k, .int k]) rfl ?_
  refine Go.icmp (B := B_ora) td_ora 9 (pc' := 137) rfl (by decide) rfl (fun _ => ?_) (fun (h : ¬ (k = k)) => absurd rfl h)
  exact Go.mono (by omega) (by omega) (ora137u K (y := 0) hz (by omega) (Or.inl hcap))
set_option maxRecDepth 65536 in
set_option maxHeartbeats 4000000 in
theorem oraI_met {A : Ax} (K : Wd A) {o ti tw : Addr} {P S : List (Int32 × Int64)} {k : Int32} {b : Int64} {zs : List Int32} {zl : List Int64} (hz : zs.length = zl.length) (hcap : (P ++ S).length + zs.length = 4) (hne : ∀ q, S.head? = some q → ¬ q.1 = k) {F G : List Ent} : Met A B_ora #[.ref o, .int (nI P.length), .int k, .long b] ((o, ObjP A "com/example/callweave/callweave/analysis/SparseBits" [("com/example/callweave/callweave/analysis/SparseBits", "indexes", "[I", .ref ti), ("com/example/callweave/callweave/analysis/SparseBits", "words", "[J", .ref tw), ("com/example/callweave/callweave/analysis/SparseBits", "count", "I", .int (nI (P ++ S).length))]) :: (ti, ArrP A .int (chV ((P ++ S).map Prod.fst ++ zs))) :: (tw, ArrP A .long (lV ((P ++ S).map Prod.snd ++ zl))) :: F) G (fun v F' G' => (∃ z, v = some (.long z)) ∧ (∃ ti2 tw2 zs2 zl2, zs2.length = zl2.length ∧ ((P ++ (k, (0 : Int64) ||| b) :: S).length + zs2.length = 4 ∨ ((P ++ (k, (0 : Int64) ||| b) :: S).length = 5 ∧ zs2.length = 2)) ∧ ((o, ObjP A "com/example/callweave/callweave/analysis/SparseBits" [("com/example/callweave/callweave/analysis/SparseBits", "indexes", "[I", .ref ti2), ("com/example/callweave/callweave/analysis/SparseBits", "words", "[J", .ref tw2), ("com/example/callweave/callweave/analysis/SparseBits", "count", "I", .int (nI (P ++ (k, (0 : Int64) ||| b) :: S).length))]) :: (ti2, ArrP A .int (chV ((P ++ (k, (0 : Int64) ||| b) :: S).map Prod.fst ++ zs2))) :: (tw2, ArrP A .long (lV ((P ++ (k, (0 : Int64) ||| b) :: S).map Prod.snd ++ zl2))) :: F) = F') ∧ G = G') := by
  refine MetW.of_go pn_ora K.ew (L := [.val (.ref o), .val (.int (nI P.length)), .val (.int k), .val (.long b), .second, .unset, .unset]) (fun m => rfl) ?_
  intro D _
  cases S with
  | nil =>
    refine Go.run (B := B_ora) td_ora 0 2 (pc' := 2) (L' := [.val (.ref o), .val (.int (nI P.length)), .val (.int k), .val (.long b), .second, .unset, .unset]) (S' := [.ref o, .int (nI P.length)]) rfl ?_
    refine Go.getfield (B := B_ora) td_ora 2 rfl (w_20 K) (Or.inl (List.mem_of_getElem? (i := 0) rfl)) (List.mem_of_getElem? (i := 2) rfl) ?_
    refine Go.icmp (B := B_ora) td_ora 3 (pc' := 18) rfl (by decide) rfl (fun _ => ?_) (fun (h : ¬ ((nI P.length) = (nI (P ++ ([] : List (Int32 × Int64))).length))) => absurd (by rw [List.append_nil]) h)
    exact ora18 K hz hcap
  | cons q S =>
    obtain ⟨k2, w2⟩ := q
    have hll : (P ++ (k2, w2) :: S).length = P.length + (S.length + 1) := by simp
    refine Go.run (B := B_ora) td_ora 0 2 (pc' := 2) (L' := [.val (.ref o), .val (.int (nI P.length)), .val (.int k), .val (.long b), .second, .unset, .unset]) (S' := [.ref o, .int (nI P.length)]) rfl ?_
    refine Go.getfield (B := B_ora) td_ora 2 rfl (w_20 K) (Or.inl (List.mem_of_getElem? (i := 0) rfl)) (List.mem_of_getElem? (i := 2) rfl) ?_
    refine Go.icmp (B := B_ora) td_ora 3 (pc' := 18) rfl (by decide) rfl (fun (h : (nI P.length) = (nI (P ++ (k2, w2) :: S).length)) => absurd h (fun z => by have q := congrArg Int32.toInt z; rw [nI_toInt (by omega), nI_toInt (by omega)] at q; omega)) (fun _ => ?_)
    refine Go.run (B := B_ora) td_ora 4 1 (pc' := 9) (L' := [.val (.ref o), .val (.int (nI P.length)), .val (.int k), .val (.long b), .second, .unset, .unset]) (S' := [.ref o]) rfl ?_
    refine Go.getfield (B := B_ora) td_ora 5 rfl (w_10 K) (Or.inl (List.mem_of_getElem? (i := 0) rfl)) (List.mem_of_getElem? (i := 0) rfl) ?_
    refine Go.run (B := B_ora) td_ora 6 1 (pc' := 13) (L' := [.val (.ref o), .val (.int (nI P.length)), .val (.int k), .val (.long b), .second, .unset, .unset]) (S' := [.int (nI P.length), .ref ti]) rfl ?_
    refine Go.iaload (B := B_ora) td_ora 7 (v := .int k2) rfl (Or.inl (List.mem_of_getElem? (i := 1) rfl)) (by rw [List.length_map, List.length_append, List.length_map]; exact nI_inB (by omega) (by omega)) (by rw [nI_nat (by omega)]; exact chV_get (by simp)) ?_
    refine Go.run (B := B_ora) td_ora 8 1 (pc' := 15) (L' := [.val (.ref o), .val (.int (nI P.length)), .val (.int k), .val (.long b), .second, .unset, .unset]) (S' := [.int k, .int k2]) rfl ?_
    refine Go.icmp (B := B_ora) td_ora 9 (pc' := 137) rfl (by decide) rfl (fun (h : k2 = k) => absurd h (hne _ rfl)) (fun _ => ?_)
    exact ora18 K hz hcap
--CUT
def absP (ps : List (Int32 × Int64)) : List (Nat × Nat) := ps.map fun q => (q.1.toInt.toNat, tn q.2)
theorem insN_app {k j : Nat} : ∀ {P S : List (Nat × Nat)}, (∀ q ∈ P, q.1 < k) → insN (P ++ S) k j = P ++ insN S k j
  | [], _, _ => rfl
  | (k0, w) :: r, S, h => by
    have h1 : k0 < k := h (k0, w) (List.mem_cons_self ..)
    show (if k0 < k then (k0, w) :: insN (r ++ S) k j else _) = _
    rw [if_pos h1, insN_app fun q m => h q (List.mem_cons_of_mem _ m)]; rfl
/-- the keys rise and none is negative -/
def Asc (ps : List (Int32 × Int64)) : Prop := ps.Pairwise (fun a b => a.1.toInt < b.1.toInt) ∧ ∀ q ∈ ps, 0 ≤ q.1.toInt
theorem getD_fst {ps : List (Int32 × Int64)} {zs : List Int32} {i : Nat} (h : i < ps.length) : (ps.map Prod.fst ++ zs).getD i 0 = (ps[i]).1 := by
  rw [List.getD_eq_getElem?_getD, List.getElem?_append_left (by simpa using h), List.getElem?_map, List.getElem?_eq_getElem h]; rfl
theorem Asc.srt {ps : List (Int32 × Int64)} {zs : List Int32} (h : Asc ps) : Srt (ps.map Prod.fst ++ zs) ps.length := fun i j h1 h2 => by
  rw [getD_fst (by omega), getD_fst h2]
  exact List.pairwise_iff_getElem.mp h.1 i j (by omega) h2 h1
theorem srt_abs : ∀ {ps : List (Int32 × Int64)} {b : Nat}, Asc ps → (∀ q ∈ ps, (b : Int) ≤ q.1.toInt) → SrtN b (absP ps)
  | [], _, _, _ => trivial
  | q :: r, b, h, hb => by
    have h0 := h.2 q (List.mem_cons_self ..)
    have hq := hb q (List.mem_cons_self ..)
    have hp := List.pairwise_cons.mp h.1
    refine ⟨by show b ≤ q.1.toInt.toNat; omega, srt_abs ⟨hp.2, fun x m => h.2 x (List.mem_cons_of_mem _ m)⟩ fun x hx => ?_⟩
    have := hp.1 x hx
    show ((q.1.toInt.toNat + 1 : Nat) : Int) ≤ _
    omega
theorem split_lb {ps : List (Int32 × Int64)} {zs : List Int32} {k : Int32} {m : Nat} (ha : Asc ps) (h : Lb (ps.map Prod.fst ++ zs) k m ps.length) :
    (∃ P w S, ps = P ++ (k, w) :: S ∧ m = P.length ∧ (∀ q ∈ P, q.1.toInt < k.toInt) ∧ ∀ q ∈ S, k.toInt < q.1.toInt) ∨ (∃ P S, ps = P ++ S ∧ m = P.length ∧ (∀ q ∈ P, q.1.toInt < k.toInt) ∧ ∀ q ∈ S, k.toInt < q.1.toInt) := by
  obtain ⟨h1, h2, h3⟩ := h
  have eP : ∀ q ∈ ps.take m, q.1.toInt < k.toInt := fun q hq => by
    obtain ⟨i, hi, e⟩ := List.getElem_of_mem hq
    have hi' : i < m := by simp at hi; omega
    have := h2 i hi'
    rw [getD_fst (by omega)] at this
    rw [← e, List.getElem_take]; exact this
  have lP : m = (ps.take m).length := by simp; omega
  cases hS : ps.drop m with
  | nil => exact Or.inr ⟨ps.take m, [], by rw [← hS, List.take_append_drop], lP, eP, fun q hq => by cases hq⟩
  | cons y S =>
    have e0 : ps = ps.take m ++ y :: S := by rw [← hS, List.take_append_drop]
    have hmc : m < ps.length := by
      have := congrArg List.length hS
      simp at this; omega
    have hy : ps[m] = y := by
      have this : ps[m]? = (ps.take m ++ y :: S)[m]? := congrArg (fun l : List (Int32 × Int64) => l[m]?) e0
      rw [List.getElem?_eq_getElem hmc, List.getElem?_append_right (by omega), show m - (ps.take m).length = 0 by omega] at this
      simpa using this
    have hk := h3 m (Nat.le_refl _) hmc
    rw [getD_fst hmc, hy] at hk
    have pw := ha.1
    rw [e0] at pw
    have pS := (List.pairwise_cons.mp (List.pairwise_append.mp pw).2.1).1
    by_cases e : y.1 = k
    · refine Or.inl ⟨ps.take m, y.2, S, ?_, lP, eP, fun q hq => ?_⟩
      · rw [← e]; exact e0
      · rw [← e]; exact pS q hq
    · refine Or.inr ⟨ps.take m, y :: S, e0, lP, eP, fun q hq => ?_⟩
      have hlt : k.toInt < y.1.toInt := by
        have : y.1.toInt ≠ k.toInt := fun z => e (i32_eq.mpr z)
        omega
      rcases List.mem_cons.mp hq with rfl | hq
      · exact hlt
      · have := pS q hq; omega
theorem asc_put {P S : List (Int32 × Int64)} {k : Int32} {w w' : Int64} (h : Asc (P ++ (k, w) :: S)) : Asc (P ++ (k, w') :: S) := by
  obtain ⟨h1, h2⟩ := h
  obtain ⟨a1, a2, a3⟩ := List.pairwise_append.mp h1
  refine ⟨List.pairwise_append.mpr ⟨a1, List.pairwise_cons.mpr ⟨(List.pairwise_cons.mp a2).1, (List.pairwise_cons.mp a2).2⟩, fun x hx y hy => ?_⟩, fun q hq => ?_⟩
  · rcases List.mem_cons.mp hy with rfl | hy
    · exact a3 x hx (k, w) (List.mem_cons_self ..)
    · exact a3 x hx y (List.mem_cons_of_mem _ hy)
  · rcases List.mem_append.mp hq with hq | hq
    · exact h2 q (List.mem_append_left _ hq)
    · rcases List.mem_cons.mp hq with rfl | hq
      · exact h2 (k, w) (List.mem_append_right _ (List.mem_cons_self ..))
      · exact h2 q (List.mem_append_right _ (List.mem_cons_of_mem _ hq))
theorem asc_new {P S : List (Int32 × Int64)} {k : Int32} {w : Int64} (h : Asc (P ++ S)) (hk : 0 ≤ k.toInt) (hP : ∀ q ∈ P, q.1.toInt < k.toInt) (hS : ∀ q ∈ S, k.toInt < q.1.toInt) : Asc (P ++ (k, w) :: S) := by
  obtain ⟨h1, h2⟩ := h
  obtain ⟨a1, a2, a3⟩ := List.pairwise_append.mp h1
  refine ⟨List.pairwise_append.mpr ⟨a1, List.pairwise_cons.mpr ⟨hS, a2⟩, fun x hx y hy => ?_⟩, fun q hq => ?_⟩
  · rcases List.mem_cons.mp hy with rfl | hy
    · exact hP x hx
    · exact a3 x hx y hy
  · rcases List.mem_append.mp hq with hq | hq
    · exact h2 q (List.mem_append_left _ hq)
    · rcases List.mem_cons.mp hq with rfl | hq
      · exact hk
      · exact h2 q (List.mem_append_right _ hq)
theorem abs_app (P S : List (Int32 × Int64)) : absP (P ++ S) = absP P ++ absP S := List.map_append
theorem abs_lt {P : List (Int32 × Int64)} {k : Int32} (h2 : ∀ q ∈ P, 0 ≤ q.1.toInt) (hP : ∀ q ∈ P, q.1.toInt < k.toInt) : ∀ q ∈ absP P, q.1 < k.toInt.toNat := fun q hq => by
  obtain ⟨x, hx, rfl⟩ := List.mem_map.mp hq
  have a := h2 x hx; have b := hP x hx
  show x.1.toInt.toNat < _
  omega
theorem abs_put {P S : List (Int32 × Int64)} {k : Int32} {w b : Int64} {j : Nat} (h : Asc (P ++ (k, w) :: S)) (hP : ∀ q ∈ P, q.1.toInt < k.toInt) (hb : tn b = 2 ^ j) : absP (P ++ (k, w ||| b) :: S) = insN (absP (P ++ (k, w) :: S)) k.toInt.toNat j := by
  rw [abs_app, abs_app, insN_app (abs_lt (fun q hq => h.2 q (List.mem_append_left _ hq)) hP)]
  congr 1
  show (k.toInt.toNat, tn (w ||| b)) :: absP S = insN ((k.toInt.toNat, tn w) :: absP S) _ _
  rw [insN, if_neg (Nat.lt_irrefl _), if_pos rfl, tn_or, hb]
theorem abs_new {P S : List (Int32 × Int64)} {k : Int32} {b : Int64} {j : Nat} (h : Asc (P ++ S)) (hk : 0 ≤ k.toInt) (hP : ∀ q ∈ P, q.1.toInt < k.toInt) (hS : ∀ q ∈ S, k.toInt < q.1.toInt) (hb : tn b = 2 ^ j) : absP (P ++ (k, (0 : Int64) ||| b) :: S) = insN (absP (P ++ S)) k.toInt.toNat j := by
  rw [abs_app, abs_app, insN_app (abs_lt (fun q hq => h.2 q (List.mem_append_left _ hq)) hP)]
  congr 1
  have e : tn ((0 : Int64) ||| b) = 0 ||| 2 ^ j := by rw [tn_or, hb]; rfl
  cases S with
  | nil =>
    show [(k.toInt.toNat, tn ((0 : Int64) ||| b))] = insN [] _ _
    rw [e]; rfl
  | cons q S =>
    have hq := hS q (List.mem_cons_self ..)
    show (k.toInt.toNat, tn ((0 : Int64) ||| b)) :: (q.1.toInt.toNat, tn q.2) :: absP S = insN ((q.1.toInt.toNat, tn q.2) :: absP S) _ _
    rw [insN, if_neg (by omega), if_neg (by omega), e]

def tb_orr : List In1 := [(0, .aload_n 0, 1), (1, .getfield 22, 3), (4, .ifCond .le 25, 3), (7, .aload_n 0, 1), (8, .getfield 7, 3), (11, .aload_n 0, 1), (12, .getfield 22, 3), (15, .iconst 1, 1), (16, .isub, 1), (17, .iaload, 1), (18, .iload_n 1, 1), (19, .if_icmp .ge 10, 3), (22, .aload_n 0, 1), (23, .getfield 22, 3), (26, .goto 9, 3), (29, .aload_n 0, 1), (30, .iload_n 1, 1), (31, .iconst 0, 1), (32, .invokevirtual 30, 3), (35, .istore 4, 2), (37, .aload_n 0, 1), (38, .iload 4, 2), (40, .iload_n 1, 1), (41, .lload_n 2, 1), (42, .invokevirtual 34, 3), (45, .lreturn, 1)]
set_option maxRecDepth 65536 in
theorem td_orr : Dec prog_1_method_7_code tb_orr := by unfold Dec; decide +kernel
theorem pd_orr : parseMethodDescriptor "(IJ)J" = some ⟨[.int, .long], (some .long)⟩ := by decide +kernel
theorem pn_orr : plainFor (⟨"com/example/callweave/callweave/analysis/SparseBits", "or", "(IJ)J"⟩ : MethodName) = true := by decide +kernel
abbrev B_orr : Bx := ((⟨"com/example/callweave/callweave/analysis/SparseBits", "or", "(IJ)J"⟩ : MethodName), prog_1_method_7_code, 5, (Option.some Jvm.ClassFile.FieldType.long), ({ frames := 3, cells := 2, slots := 14, locals := 65 } : Room))
set_option maxRecDepth 65536 in
set_option maxHeartbeats 4000000 in
theorem orr_met {A : Ax} (K : Wd A) {o ti tw : Addr} {ps : List (Int32 × Int64)} {k : Int32} {b : Int64} {j : Nat} {zs : List Int32} {zl : List Int64} (ha : Asc ps) (hk : 0 ≤ k.toInt) (hb : tn b = 2 ^ j) (hz : zs.length = zl.length) (hcap : ps.length + zs.length = 4) {F G : List Ent} : Met A B_orr #[.ref o, .int k, .long b] ((o, ObjP A "com/example/callweave/callweave/analysis/SparseBits" [("com/example/callweave/callweave/analysis/SparseBits", "indexes", "[I", .ref ti), ("com/example/callweave/callweave/analysis/SparseBits", "words", "[J", .ref tw), ("com/example/callweave/callweave/analysis/SparseBits", "count", "I", .int (nI ps.length))]) :: (ti, ArrP A .int (chV (ps.map Prod.fst ++ zs))) :: (tw, ArrP A .long (lV (ps.map Prod.snd ++ zl))) :: F) G (fun v F' G' => (∃ z, v = some (.long z)) ∧ (∃ ps2 ti2 tw2 zs2 zl2, Asc ps2 ∧ absP ps2 = insN (absP ps) k.toInt.toNat j ∧ zs2.length = zl2.length ∧ (ps2.length + zs2.length = 4 ∨ (ps2.length = 5 ∧ zs2.length = 2)) ∧ ps2.length ≤ ps.length + 1 ∧ ((o, ObjP A "com/example/callweave/callweave/analysis/SparseBits" [("com/example/callweave/callweave/analysis/SparseBits", "indexes", "[I", .ref ti2), ("com/example/callweave/callweave/analysis/SparseBits", "words", "[J", .ref tw2), ("com/example/callweave/callweave/analysis/SparseBits", "count", "I", .int (nI ps2.length))]) :: (ti2, ArrP A .int (chV (ps2.map Prod.fst ++ zs2))) :: (tw2, ArrP A .long (lV (ps2.map Prod.snd ++ zl2))) :: F) = F') ∧ G = G') := by
  refine MetW.of_go pn_orr K.ew (L := [.val (.ref o), .val (.int k), .val (.long b), .second, .unset]) (fun m => rfl) ?_
  intro D _
  have hcl : (ps.map Prod.fst ++ zs).length = 4 := by simp; omega
  have h35 : ∀ m, Lb (ps.map Prod.fst ++ zs) k m ps.length → Go A B_orr D (fun v F' G' => (∃ z, v = some (.long z)) ∧ (∃ ps2 ti2 tw2 zs2 zl2, Asc ps2 ∧ absP ps2 = insN (absP ps) k.toInt.toNat j ∧ zs2.length = zl2.length ∧ (ps2.length + zs2.length = 4 ∨ (ps2.length = 5 ∧ zs2.length = 2)) ∧ ps2.length ≤ ps.length + 1 ∧ ((o, ObjP A "com/example/callweave/callweave/analysis/SparseBits" [("com/example/callweave/callweave/analysis/SparseBits", "indexes", "[I", .ref ti2), ("com/example/callweave/callweave/analysis/SparseBits", "words", "[J", .ref tw2), ("com/example/callweave/callweave/analysis/SparseBits", "count", "I", .int (nI ps2.length))]) :: (ti2, ArrP A .int (chV (ps2.map Prod.fst ++ zs2))) :: (tw2, ArrP A .long (lV (ps2.map Prod.snd ++ zl2))) :: F) = F') ∧ G = G') 35 [.val (.ref o), .val (.int k), .val (.long b), .second, .unset] [.int (nI m)] ((o, ObjP A "com/example/callweave/callweave/analysis/SparseBits" [("com/example/callweave/callweave/analysis/SparseBits", "indexes", "[I", .ref ti), ("com/example/callweave/callweave/analysis/SparseBits", "words", "[J", .ref tw), ("com/example/callweave/callweave/analysis/SparseBits", "count", "I", .int (nI ps.length))]) :: (ti, ArrP A .int (chV (ps.map Prod.fst ++ zs))) :: (tw, ArrP A .long (lV (ps.map Prod.snd ++ zl))) :: F) G 0 0 := by
    intro m hm
    rcases split_lb ha hm with ⟨P, w, S, rfl, rfl, hP, hS⟩ | ⟨P, S, rfl, rfl, hP, hS⟩
    · refine Go.run (B := B_orr) td_orr 19 5 (pc' := 42) (L' := [.val (.ref o), .val (.int k), .val (.long b), .second, .val (.int (nI P.length))]) (S' := [.long b, .int k, .int (nI P.length), .ref o]) rfl ?_
      refine Go.callV (B := B_orr) td_orr 24 (B' := B_ora) (C := "com/example/callweave/callweave/analysis/SparseBits") (a := o) (argsL := [.int (nI P.length), .int k, .long b]) (rest := []) (W := 0) rfl (oraF_met K hz hcap) (Or.inl (List.mem_of_getElem? (i := 0) rfl)) (fun c P => P.1) (w_51 K) (w_52 K) (w_53 K) (w_54 K) (w_54 K) (w_2 K) (w_55 K) (by decide) pd_ora rfl rfl rfl rfl (Nat.le_of_eq rfl) (by decide) (by decide) (by decide) (by decide) ?_
      rintro _ _ _ ⟨⟨z, rfl⟩, ⟨ti2, tw2, zs2, zl2, q1, q2, rfl⟩, rfl⟩
      show Go A B_orr D _ 45 [.val (.ref o), .val (.int k), .val (.long b), .second, .val (.int (nI P.length))] [.long z] ((o, ObjP A "com/example/callweave/callweave/analysis/SparseBits" [("com/example/callweave/callweave/analysis/SparseBits", "indexes", "[I", .ref ti2), ("com/example/callweave/callweave/analysis/SparseBits", "words", "[J", .ref tw2), ("com/example/callweave/callweave/analysis/SparseBits", "count", "I", .int (nI (P ++ (k, w ||| b) :: S).length))]) :: (ti2, ArrP A .int (chV ((P ++ (k, w ||| b) :: S).map Prod.fst ++ zs2))) :: (tw2, ArrP A .long (lV ((P ++ (k, w ||| b) :: S).map Prod.snd ++ zl2))) :: F) G 2 14
      exact Go.retJ (B := B_orr) td_orr 25 rfl rfl ⟨⟨z, rfl⟩, ⟨_, ti2, tw2, zs2, zl2, asc_put ha, abs_put ha hP hb, q1, q2, by simp, rfl⟩, rfl⟩ (by decide) (by decide)
    · refine Go.run (B := B_orr) td_orr 19 5 (pc' := 42) (L' := [.val (.ref o), .val (.int k), .val (.long b), .second, .val (.int (nI P.length))]) (S' := [.long b, .int k, .int (nI P.length), .ref o]) rfl ?_
      refine Go.callV (B := B_orr) td_orr 24 (B' := B_ora) (C := "com/example/callweave/callweave/analysis/SparseBits") (a := o) (argsL := [.int (nI P.length), .int k, .long b]) (rest := []) (W := 0) rfl (oraI_met K hz hcap (fun q hq => by have := hS q (by cases S with | nil => cases hq | cons y r => cases hq; exact List.mem_cons_self ..); exact fun z => by rw [z] at this; omega)) (Or.inl (List.mem_of_getElem? (i := 0) rfl)) (fun c P => P.1) (w_51 K) (w_52 K) (w_53 K) (w_54 K) (w_54 K) (w_2 K) (w_55 K) (by decide) pd_ora rfl rfl rfl rfl (Nat.le_of_eq rfl) (by decide) (by decide) (by decide) (by decide) ?_
      rintro _ _ _ ⟨⟨z, rfl⟩, ⟨ti2, tw2, zs2, zl2, q1, q2, rfl⟩, rfl⟩
      show Go A B_orr D _ 45 [.val (.ref o), .val (.int k), .val (.long b), .second, .val (.int (nI P.length))] [.long z] ((o, ObjP A "com/example/callweave/callweave/analysis/SparseBits" [("com/example/callweave/callweave/analysis/SparseBits", "indexes", "[I", .ref ti2), ("com/example/callweave/callweave/analysis/SparseBits", "words", "[J", .ref tw2), ("com/example/callweave/callweave/analysis/SparseBits", "count", "I", .int (nI (P ++ (k, (0 : Int64) ||| b) :: S).length))]) :: (ti2, ArrP A .int (chV ((P ++ (k, (0 : Int64) ||| b) :: S).map Prod.fst ++ zs2))) :: (tw2, ArrP A .long (lV ((P ++ (k, (0 : Int64) ||| b) :: S).map Prod.snd ++ zl2))) :: F) G 2 14
      exact Go.retJ (B := B_orr) td_orr 25 rfl rfl ⟨⟨z, rfl⟩, ⟨_, ti2, tw2, zs2, zl2, asc_new ha hk hP hS, abs_new ha hk hP hS hb, q1, q2, by simp; omega, rfl⟩, rfl⟩ (by decide) (by decide)
  have hsk := fun (Fx Gx : List Ent) => sek_met (A := A) (o := o) (ti := ti) (tw := tw) (xs := ps.map Prod.fst ++ zs) (k := k) (c := ps.length) (F := Fx) (G := Gx) K (by omega) (by omega) ha.srt
  refine Go.run (B := B_orr) td_orr 0 1 (pc' := 1) (L' := [.val (.ref o), .val (.int k), .val (.long b), .second, .unset]) (S' := [.ref o]) rfl ?_
  refine Go.getfield (B := B_orr) td_orr 1 rfl (w_20 K) (Or.inl (List.mem_of_getElem? (i := 0) rfl)) (List.mem_of_getElem? (i := 2) rfl) ?_
  refine Go.if0 (B := B_orr) td_orr 2 (pc' := 29) rfl (by decide) rfl ?_ ?_
  · intro (hc0 : (nI ps.length) ≤ 0)
    refine Go.run (B := B_orr) td_orr 15 3 (pc' := 32) (L' := [.val (.ref o), .val (.int k), .val (.long b), .second, .unset]) (S' := [.int (0 : Int32), .int k, .ref o]) rfl ?_
    refine Go.callV (B := B_orr) td_orr 18 (B' := B_sek) (C := "com/example/callweave/callweave/analysis/SparseBits") (a := o) (argsL := [.int k, .int (0 : Int32)]) (rest := []) (W := 0) rfl (hsk _ _ (Or.inl (List.mem_of_getElem? (i := 0) rfl)) (Or.inl (List.mem_of_getElem? (i := 1) rfl))) (Or.inl (List.mem_of_getElem? (i := 0) rfl)) (fun c P => P.1) (w_32 K) (w_33 K) (w_34 K) (w_35 K) (w_35 K) (w_2 K) (w_36 K) (by decide) pd_sek rfl rfl rfl rfl (Nat.le_of_eq rfl) (by decide) (by decide) (by decide) (by decide) ?_
    rintro _ _ _ ⟨m, rfl, hm, rfl, rfl⟩
    show Go A B_orr D _ 35 [.val (.ref o), .val (.int k), .val (.long b), .second, .unset] [.int (nI m)] ((o, ObjP A "com/example/callweave/callweave/analysis/SparseBits" [("com/example/callweave/callweave/analysis/SparseBits", "indexes", "[I", .ref ti), ("com/example/callweave/callweave/analysis/SparseBits", "words", "[J", .ref tw), ("com/example/callweave/callweave/analysis/SparseBits", "count", "I", .int (nI ps.length))]) :: (ti, ArrP A .int (chV (ps.map Prod.fst ++ zs))) :: (tw, ArrP A .long (lV (ps.map Prod.snd ++ zl))) :: F) G 0 0
    exact h35 m hm
  · intro (hc0 : ¬ ((nI ps.length) ≤ 0))
    have hpos : 0 < ps.length := by have q := i32_lt.mp (Int32.not_le.mp hc0); rw [nI_toInt (by omega)] at q; have : (0 : Int32).toInt = 0 := rfl; omega
    refine Go.run (B := B_orr) td_orr 3 1 (pc' := 8) (L' := [.val (.ref o), .val (.int k), .val (.long b), .second, .unset]) (S' := [.ref o]) rfl ?_
    refine Go.getfield (B := B_orr) td_orr 4 rfl (w_10 K) (Or.inl (List.mem_of_getElem? (i := 0) rfl)) (List.mem_of_getElem? (i := 0) rfl) ?_
    refine Go.run (B := B_orr) td_orr 5 1 (pc' := 12) (L' := [.val (.ref o), .val (.int k), .val (.long b), .second, .unset]) (S' := [.ref o, .ref ti]) rfl ?_
    refine Go.getfield (B := B_orr) td_orr 6 rfl (w_20 K) (Or.inl (List.mem_of_getElem? (i := 0) rfl)) (List.mem_of_getElem? (i := 2) rfl) ?_
    refine Go.run (B := B_orr) td_orr 7 2 (pc' := 17) (L' := [.val (.ref o), .val (.int k), .val (.long b), .second, .unset]) (S' := [.int ((nI ps.length) - (1 : Int32)), .ref ti]) rfl ?_
    obtain ⟨c1, hc1⟩ : ∃ c1, ps.length = 1 + c1 := ⟨ps.length - 1, by omega⟩
    have hsub : nI ps.length - (1 : Int32) = nI c1 := by rw [hc1]; exact nI_sub (by omega)
    rw [hsub]
    show Go A B_orr D _ 17 [.val (.ref o), .val (.int k), .val (.long b), .second, .unset] [.int (nI c1), .ref ti] ((o, ObjP A "com/example/callweave/callweave/analysis/SparseBits" [("com/example/callweave/callweave/analysis/SparseBits", "indexes", "[I", .ref ti), ("com/example/callweave/callweave/analysis/SparseBits", "words", "[J", .ref tw), ("com/example/callweave/callweave/analysis/SparseBits", "count", "I", .int (nI ps.length))]) :: (ti, ArrP A .int (chV (ps.map Prod.fst ++ zs))) :: (tw, ArrP A .long (lV (ps.map Prod.snd ++ zl))) :: F) G 0 0
    refine Go.iaload (B := B_orr) td_orr 9 (v := .int ((ps.map Prod.fst ++ zs).getD c1 0)) rfl (Or.inl (List.mem_of_getElem? (i := 1) rfl)) (by rw [List.length_map]; exact nI_inB (by omega) (by omega)) (by rw [nI_nat (by omega)]; exact chV_get (getD_get (by omega))) ?_
    refine Go.run (B := B_orr) td_orr 10 1 (pc' := 19) (L' := [.val (.ref o), .val (.int k), .val (.long b), .second, .unset]) (S' := [.int k, .int ((ps.map Prod.fst ++ zs).getD c1 0)]) rfl ?_
    refine Go.icmp (B := B_orr) td_orr 11 (pc' := 29) rfl (by decide) rfl ?_ ?_
    · intro (g1 : ((ps.map Prod.fst ++ zs).getD c1 0) ≥ k)
      refine Go.run (B := B_orr) td_orr 15 3 (pc' := 32) (L' := [.val (.ref o), .val (.int k), .val (.long b), .second, .unset]) (S' := [.int (0 : Int32), .int k, .ref o]) rfl ?_
      refine Go.callV (B := B_orr) td_orr 18 (B' := B_sek) (C := "com/example/callweave/callweave/analysis/SparseBits") (a := o) (argsL := [.int k, .int (0 : Int32)]) (rest := []) (W := 0) rfl (hsk _ _ (Or.inl (List.mem_of_getElem? (i := 0) rfl)) (Or.inl (List.mem_of_getElem? (i := 1) rfl))) (Or.inl (List.mem_of_getElem? (i := 0) rfl)) (fun c P => P.1) (w_32 K) (w_33 K) (w_34 K) (w_35 K) (w_35 K) (w_2 K) (w_36 K) (by decide) pd_sek rfl rfl rfl rfl (Nat.le_of_eq rfl) (by decide) (by decide) (by decide) (by decide) ?_
      rintro _ _ _ ⟨m, rfl, hm, rfl, rfl⟩
      show Go A B_orr D _ 35 [.val (.ref o), .val (.int k), .val (.long b), .second, .unset] [.int (nI m)] ((o, ObjP A "com/example/callweave/callweave/analysis/SparseBits" [("com/example/callweave/callweave/analysis/SparseBits", "indexes", "[I", .ref ti), ("com/example/callweave/callweave/analysis/SparseBits", "words", "[J", .ref tw), ("com/example/callweave/callweave/analysis/SparseBits", "count", "I", .int (nI ps.length))]) :: (ti, ArrP A .int (chV (ps.map Prod.fst ++ zs))) :: (tw, ArrP A .long (lV (ps.map Prod.snd ++ zl))) :: F) G 0 0
      exact h35 m hm
    · intro (g1 : ¬ (((ps.map Prod.fst ++ zs).getD c1 0) ≥ k))
      have hl : ((ps.map Prod.fst ++ zs).getD c1 0).toInt < k.toInt := i32_lt.mp (Int32.not_le.mp g1)
      refine Go.run (B := B_orr) td_orr 12 1 (pc' := 23) (L' := [.val (.ref o), .val (.int k), .val (.long b), .second, .unset]) (S' := [.ref o]) rfl ?_
      refine Go.getfield (B := B_orr) td_orr 13 rfl (w_20 K) (Or.inl (List.mem_of_getElem? (i := 0) rfl)) (List.mem_of_getElem? (i := 2) rfl) ?_
      refine Go.run (B := B_orr) td_orr 14 1 (pc' := 35) (L' := [.val (.ref o), .val (.int k), .val (.long b), .second, .unset]) (S' := [.int (nI ps.length)]) rfl ?_
      exact h35 ps.length ⟨Nat.le_refl _, fun i q => by by_cases e : i = c1; rw [e]; exact hl; have := ha.srt (zs := zs) i c1 (by omega) (by omega); omega, fun i q1 q2 => by omega⟩
def tb_add : List In1 := [(0, .aload_n 0, 1), (1, .iload_n 1, 1), (2, .bipush 6, 2), (4, .iushr, 1), (5, .lconst 1, 1), (6, .iload_n 1, 1), (7, .lshl, 1), (8, .invokevirtual 26, 3), (11, .lconst 0, 1), (12, .lcmp, 1), (13, .ifCond .eq 7, 3), (16, .iconst 1, 1), (17, .goto 4, 3), (20, .iconst 0, 1), (21, .ireturn, 1)]
set_option maxRecDepth 65536 in
theorem td_add : Dec prog_1_method_6_code tb_add := by unfold Dec; decide +kernel
theorem pd_add : parseMethodDescriptor "(I)Z" = some ⟨[.int], (some .boolean)⟩ := by decide +kernel
theorem pn_add : plainFor (⟨"com/example/callweave/callweave/analysis/SparseBits", "add", "(I)Z"⟩ : MethodName) = true := by decide +kernel
abbrev B_add : Bx := ((⟨"com/example/callweave/callweave/analysis/SparseBits", "add", "(I)Z"⟩ : MethodName), prog_1_method_6_code, 2, (Option.some Jvm.ClassFile.FieldType.boolean), ({ frames := 4, cells := 2, slots := 14, locals := 81 } : Room))
set_option maxRecDepth 65536 in
set_option maxHeartbeats 4000000 in
theorem add_met {A : Ax} (K : Wd A) {o ti tw : Addr} {ps : List (Int32 × Int64)} {n : Int32} {zs : List Int32} {zl : List Int64} (ha : Asc ps) (hz : zs.length = zl.length) (hcap : ps.length + zs.length = 4) {F G : List Ent} : Met A B_add #[.ref o, .int n] ((o, ObjP A "com/example/callweave/callweave/analysis/SparseBits" [("com/example/callweave/callweave/analysis/SparseBits", "indexes", "[I", .ref ti), ("com/example/callweave/callweave/analysis/SparseBits", "words", "[J", .ref tw), ("com/example/callweave/callweave/analysis/SparseBits", "count", "I", .int (nI ps.length))]) :: (ti, ArrP A .int (chV (ps.map Prod.fst ++ zs))) :: (tw, ArrP A .long (lV (ps.map Prod.snd ++ zl))) :: F) G (fun v F' G' => (∃ z, v = some (.int z)) ∧ (∃ ps2 ti2 tw2 zs2 zl2, Asc ps2 ∧ absP ps2 = addN (absP ps) (tw_ n) ∧ zs2.length = zl2.length ∧ (ps2.length + zs2.length = 4 ∨ (ps2.length = 5 ∧ zs2.length = 2)) ∧ ps2.length ≤ ps.length + 1 ∧ ((o, ObjP A "com/example/callweave/callweave/analysis/SparseBits" [("com/example/callweave/callweave/analysis/SparseBits", "indexes", "[I", .ref ti2), ("com/example/callweave/callweave/analysis/SparseBits", "words", "[J", .ref tw2), ("com/example/callweave/callweave/analysis/SparseBits", "count", "I", .int (nI ps2.length))]) :: (ti2, ArrP A .int (chV (ps2.map Prod.fst ++ zs2))) :: (tw2, ArrP A .long (lV (ps2.map Prod.snd ++ zl2))) :: F) = F') ∧ G = G') := by
  refine MetW.of_go pn_add K.ew (L := [.val (.ref o), .val (.int n)]) (fun m => rfl) ?_
  intro D _
  have hk : 0 ≤ (Jvm.Free.XT.ushr n 6).toInt := by rw [key_nat]; omega
  have hkk : (Jvm.Free.XT.ushr n 6).toInt.toNat = (tw_ n).1 := by rw [key_nat]; rfl
  refine Go.run (B := B_add) td_add 0 7 (pc' := 8) (L' := [.val (.ref o), .val (.int n)]) (S' := [.long ((1 : Int64) <<< (n.toInt64 &&& 63)), .int (Jvm.Free.XT.ushr n (6 : Int32)), .ref o]) rfl ?_
  refine Go.callV (B := B_add) td_add 7 (B' := B_orr) (C := "com/example/callweave/callweave/analysis/SparseBits") (a := o) (argsL := [.int (Jvm.Free.XT.ushr n (6 : Int32)), .long ((1 : Int64) <<< (n.toInt64 &&& 63))]) (rest := []) (W := 0) rfl (orr_met K (k := Jvm.Free.XT.ushr n 6) (j := (tw_ n).2) ha hk (tn_shl1 n) hz hcap) (Or.inl (List.mem_of_getElem? (i := 0) rfl)) (fun c P => P.1) (w_27 K) (w_28 K) (w_29 K) (w_30 K) (w_30 K) (w_2 K) (w_31 K) (by decide) pd_orr rfl rfl rfl rfl (Nat.le_of_eq rfl) (by decide) (by decide) (by decide) (by decide) ?_
  rintro _ _ _ ⟨⟨z, rfl⟩, ⟨ps2, ti2, tw2, zs2, zl2, a1, a2, a3, a4, a5, rfl⟩, rfl⟩
  show Go A B_add D _ 11 [.val (.ref o), .val (.int n)] [.long z] ((o, ObjP A "com/example/callweave/callweave/analysis/SparseBits" [("com/example/callweave/callweave/analysis/SparseBits", "indexes", "[I", .ref ti2), ("com/example/callweave/callweave/analysis/SparseBits", "words", "[J", .ref tw2), ("com/example/callweave/callweave/analysis/SparseBits", "count", "I", .int (nI ps2.length))]) :: (ti2, ArrP A .int (chV (ps2.map Prod.fst ++ zs2))) :: (tw2, ArrP A .long (lV (ps2.map Prod.snd ++ zl2))) :: F) G 2 14
  rw [hkk] at a2
  refine Go.run (B := B_add) td_add 8 2 (pc' := 13) (L' := [.val (.ref o), .val (.int n)]) (S' := [.int (Jvm.Free.XT.cmpL z (0 : Int64))]) rfl ?_
  refine Go.if0 (B := B_add) td_add 10 (pc' := 20) rfl (by decide) rfl ?_ ?_
  · intro (hq : (Jvm.Free.XT.cmpL z (0 : Int64)) = 0)
    refine Go.run (B := B_add) td_add 13 1 (pc' := 21) (L' := [.val (.ref o), .val (.int n)]) (S' := [.int (0 : Int32)]) rfl ?_
    exact Go.retZ (B := B_add) td_add 14 rfl rfl rfl ⟨⟨_, rfl⟩, ⟨ps2, ti2, tw2, zs2, zl2, a1, a2, a3, a4, a5, rfl⟩, rfl⟩ (by decide) (by decide)
  · intro (hq : ¬ ((Jvm.Free.XT.cmpL z (0 : Int64)) = 0))
    refine Go.run (B := B_add) td_add 11 2 (pc' := 21) (L' := [.val (.ref o), .val (.int n)]) (S' := [.int (1 : Int32)]) rfl ?_
    exact Go.retZ (B := B_add) td_add 14 rfl rfl rfl ⟨⟨_, rfl⟩, ⟨ps2, ti2, tw2, zs2, zl2, a1, a2, a3, a4, a5, rfl⟩, rfl⟩ (by decide) (by decide)
theorem card_abs : ∀ ps : List (Int32 × Int64), cardW (ps.map Prod.snd) = cardN (absP ps)
  | [] => rfl
  | q :: r => by show popc 64 (tn q.2) + cardW (r.map Prod.snd) = popc 64 (tn q.2) + cardN (absP r); rw [card_abs r]
theorem crdP_met {A : Ax} (K : Wd A) {o ti tw : Addr} {ps : List (Int32 × Int64)} {zl : List Int64} (hl : ps.length + zl.length < 2 ^ 30) {F G : List Ent} (mo : (o, ObjP A "com/example/callweave/callweave/analysis/SparseBits" [("com/example/callweave/callweave/analysis/SparseBits", "indexes", "[I", .ref ti), ("com/example/callweave/callweave/analysis/SparseBits", "words", "[J", .ref tw), ("com/example/callweave/callweave/analysis/SparseBits", "count", "I", .int (nI ps.length))]) ∈ F ∨ (o, ObjP A "com/example/callweave/callweave/analysis/SparseBits" [("com/example/callweave/callweave/analysis/SparseBits", "indexes", "[I", .ref ti), ("com/example/callweave/callweave/analysis/SparseBits", "words", "[J", .ref tw), ("com/example/callweave/callweave/analysis/SparseBits", "count", "I", .int (nI ps.length))]) ∈ G) (mw : (tw, ArrP A .long (lV (ps.map Prod.snd ++ zl))) ∈ F ∨ (tw, ArrP A .long (lV (ps.map Prod.snd ++ zl))) ∈ G) : Met A B_crd #[.ref o] F G (fun v F' G' => v = some (.int (nI (cardN (absP ps)))) ∧ F = F' ∧ G = G') := by
  have h := crd_met K (o := o) (ti := ti) (tw := tw) (ws := ps.map Prod.snd) (zl := zl) (F := F) (G := G) (by simpa using hl) (by rw [List.length_map]; exact mo) mw
  rw [card_abs] at h; exact h
--CUT
def tb_law : List In1 := [(0, .iload_n 0, 1), (1, .istore 6, 2), (3, .iload 5, 2), (5, .iconst 1, 1), (6, .iand, 1), (7, .ifCond .eq 13, 3), (10, .iload 6, 2), (12, .iload_n 1, 1), (13, .bipush 63, 2), (15, .iand, 1), (16, .ixor, 1), (17, .goto 4, 3), (20, .iload_n 1, 1), (21, .istore 7, 2), (23, .iload 5, 2), (25, .iconst 2, 1), (26, .iand, 1), (27, .ifCond .eq 13, 3), (30, .iload 7, 2), (32, .iload_n 2, 1), (33, .bipush 63, 2), (35, .iand, 1), (36, .ixor, 1), (37, .goto 4, 3), (40, .iload_n 2, 1), (41, .istore 8, 2), (43, .iload 5, 2), (45, .iconst 4, 1), (46, .iand, 1), (47, .ifCond .eq 13, 3), (50, .iload 6, 2), (52, .iload_n 3, 1), (53, .bipush 63, 2), (55, .iand, 1), (56, .ixor, 1), (57, .goto 4, 3), (60, .iload_n 3, 1), (61, .istore 9, 2), (63, .iload 5, 2), (65, .bipush 8, 2), (67, .iand, 1), (68, .ifCond .eq 14, 3), (71, .iload 8, 2), (73, .iload 4, 2), (75, .bipush 63, 2), (77, .iand, 1), (78, .ixor, 1), (79, .goto 5, 3), (82, .iload 4, 2), (84, .istore 10, 2), (86, .new 7, 3), (89, .dup, 1), (90, .invokespecial 9, 3), (93, .astore 11, 2), (95, .aload 11, 2), (97, .invokevirtual 10, 3), (100, .ifCond .eq 5, 3), (103, .iconst 0, 1), (104, .ireturn, 1), (105, .aload 11, 2), (107, .iload 6, 2), (109, .invokevirtual 14, 3), (112, .pop, 1), (113, .aload 11, 2), (115, .iload 7, 2), (117, .invokevirtual 14, 3), (120, .pop, 1), (121, .aload 11, 2), (123, .iload 8, 2), (125, .invokevirtual 14, 3), (128, .pop, 1), (129, .iconst 1, 1), (130, .iload 7, 2), (132, .iload 6, 2), (134, .if_icmp .eq 7, 3), (137, .iconst 1, 1), (138, .goto 4, 3), (141, .iconst 0, 1), (142, .iadd, 1), (143, .iload 8, 2), (145, .iload 6, 2), (147, .if_icmp .eq 14, 3), (150, .iload 8, 2), (152, .iload 7, 2), (154, .if_icmp .eq 7, 3), (157, .iconst 1, 1), (158, .goto 4, 3), (161, .iconst 0, 1), (162, .iadd, 1), (163, .istore 12, 2), (165, .aload 11, 2), (167, .invokevirtual 10, 3), (170, .iload 12, 2), (172, .if_icmp .eq 5, 3), (175, .iconst 0, 1), (176, .ireturn, 1), (177, .aload 11, 2), (179, .iload 9, 2), (181, .invokevirtual 14, 3), (184, .pop, 1), (185, .aload 11, 2), (187, .iload 10, 2), (189, .invokevirtual 14, 3), (192, .pop, 1), (193, .iload 12, 2), (195, .iload 9, 2), (197, .iload 6, 2), (199, .if_icmp .eq 21, 3), (202, .iload 9, 2), (204, .iload 7, 2), (206, .if_icmp .eq 14, 3), (209, .iload 9, 2), (211, .iload 8, 2), (213, .if_icmp .eq 7, 3), (216, .iconst 1, 1), (217, .goto 4, 3), (220, .iconst 0, 1), (221, .iadd, 1), (222, .iload 10, 2), (224, .iload 6, 2), (226, .if_icmp .eq 28, 3), (229, .iload 10, 2), (231, .iload 7, 2), (233, .if_icmp .eq 21, 3), (236, .iload 10, 2), (238, .iload 8, 2), (240, .if_icmp .eq 14, 3), (243, .iload 10, 2), (245, .iload 9, 2), (247, .if_icmp .eq 7, 3), (250, .iconst 1, 1), (251, .goto 4, 3), (254, .iconst 0, 1), (255, .iadd, 1), (256, .istore 13, 2), (258, .aload 11, 2), (260, .invokevirtual 10, 3), (263, .iload 13, 2), (265, .if_icmp .ne 7, 3), (268, .iconst 1, 1), (269, .goto 4, 3), (272, .iconst 0, 1), (273, .ireturn, 1)]
set_option maxRecDepth 65536 in
theorem td_law : Dec code tb_law := by unfold Dec; decide +kernel
theorem pd_law : parseMethodDescriptor "(IIIIII)Z" = some ⟨[.int, .int, .int, .int, .int, .int], (some .boolean)⟩ := by decide +kernel
theorem pn_law : plainFor (⟨"com/example/callweave/callweave/analysis/SparseBitsCardinalityPinLaw", "law", "(IIIIII)Z"⟩ : MethodName) = true := by decide +kernel
abbrev B_law : Bx := (x, code, maxLocals, ret, room_1)
set_option maxRecDepth 65536 in
set_option maxHeartbeats 4000000 in
theorem t258 {A : Ax} (K : Wd A) {D : Dx} {xa xb xc xd xe xm n1 n2 n3 n4 n5 : Int32} {o : Addr} {k3 k : Int32} {ps5 : List (Int32 × Int64)} {ti5 tw5 : Addr} {zs5 : List Int32} {zl5 : List Int64} (hl : ps5.length + zl5.length < 100) (k5 : nI (cardN (absP ps5)) = k) : Go A B_law D (fun v _ _ => v = some (.int 1)) 258 [.val (.int xa), .val (.int xb), .val (.int xc), .val (.int xd), .val (.int xe), .val (.int xm), .val (.int n1), .val (.int n2), .val (.int n3), .val (.int n4), .val (.int n5), .val (.ref o), .val (.int k3), .val (.int k)] [] [(o, ObjP A "com/example/callweave/callweave/analysis/SparseBits" [("com/example/callweave/callweave/analysis/SparseBits", "indexes", "[I", .ref ti5), ("com/example/callweave/callweave/analysis/SparseBits", "words", "[J", .ref tw5), ("com/example/callweave/callweave/analysis/SparseBits", "count", "I", .int (nI ps5.length))]), (ti5, ArrP A .int (chV (ps5.map Prod.fst ++ zs5))), (tw5, ArrP A .long (lV (ps5.map Prod.snd ++ zl5)))] [] 13 81 := by
  refine Go.run (B := B_law) td_law 135 1 (pc' := 260) (L' := [.val (.int xa), .val (.int xb), .val (.int xc), .val (.int xd), .val (.int xe), .val (.int xm), .val (.int n1), .val (.int n2), .val (.int n3), .val (.int n4), .val (.int n5), .val (.ref o), .val (.int k3), .val (.int k)]) (S' := [.ref o]) rfl ?_
  refine Go.callV (B := B_law) td_law 136 (B' := B_crd) (C := "com/example/callweave/callweave/analysis/SparseBits") (a := o) (argsL := []) (rest := []) (W := 0) rfl (crdP_met K (ps := ps5) (zl := zl5) (by omega) (Or.inl (List.mem_of_getElem? (i := 0) rfl)) (Or.inl (List.mem_of_getElem? (i := 2) rfl))) (Or.inl (List.mem_of_getElem? (i := 0) rfl)) (fun c P => P.1) (w_15 K) (w_16 K) (w_17 K) (w_18 K) (w_18 K) (w_2 K) (w_19 K) (by decide) pd_crd rfl rfl rfl rfl (Nat.le_of_eq rfl) (by decide) (by decide) (by decide) (by decide) ?_
  rintro _ _ _ ⟨rfl, rfl, rfl⟩
  show Go A B_law D _ 263 [.val (.int xa), .val (.int xb), .val (.int xc), .val (.int xd), .val (.int xe), .val (.int xm), .val (.int n1), .val (.int n2), .val (.int n3), .val (.int n4), .val (.int n5), .val (.ref o), .val (.int k3), .val (.int k)] [.int (nI (cardN (absP ps5)))] [(o, ObjP A "com/example/callweave/callweave/analysis/SparseBits" [("com/example/callweave/callweave/analysis/SparseBits", "indexes", "[I", .ref ti5), ("com/example/callweave/callweave/analysis/SparseBits", "words", "[J", .ref tw5), ("com/example/callweave/callweave/analysis/SparseBits", "count", "I", .int (nI ps5.length))]), (ti5, ArrP A .int (chV (ps5.map Prod.fst ++ zs5))), (tw5, ArrP A .long (lV (ps5.map Prod.snd ++ zl5)))] [] 13 81
  refine Go.run (B := B_law) td_law 137 1 (pc' := 265) (L' := [.val (.int xa), .val (.int xb), .val (.int xc), .val (.int xd), .val (.int xe), .val (.int xm), .val (.int n1), .val (.int n2), .val (.int n3), .val (.int n4), .val (.int n5), .val (.ref o), .val (.int k3), .val (.int k)]) (S' := [.int k, .int (nI (cardN (absP ps5)))]) rfl ?_
  refine Go.icmp (B := B_law) td_law 138 (pc' := 272) rfl (by decide) rfl (fun (h : (nI (cardN (absP ps5))) ≠ k) => absurd h (fun z => z (by rw [k5]))) (fun _ => ?_)
  refine Go.run (B := B_law) td_law 139 2 (pc' := 273) (L' := [.val (.int xa), .val (.int xb), .val (.int xc), .val (.int xd), .val (.int xe), .val (.int xm), .val (.int n1), .val (.int n2), .val (.int n3), .val (.int n4), .val (.int n5), .val (.ref o), .val (.int k3), .val (.int k)]) (S' := [.int (1 : Int32)]) rfl ?_
  exact Go.retZ (B := B_law) td_law 142 rfl rfl rfl rfl (by decide) (by decide)
set_option maxRecDepth 65536 in
set_option maxHeartbeats 4000000 in
theorem t193 {A : Ax} (K : Wd A) {D : Dx} {xa xb xc xd xe xm n1 n2 n3 n4 n5 : Int32} {o : Addr} {k3 : Int32} {ps3 ps5 : List (Int32 × Int64)} {ti5 tw5 : Addr} {zs5 : List Int32} {zl5 : List Int64} (hl : ps5.length + zl5.length < 100) (hk3 : nI (cardN (absP ps3)) = k3) (k5f : cardN (absP ps5) = cardN (absP ps3) + (if n4 ≠ n1 ∧ n4 ≠ n2 ∧ n4 ≠ n3 then 1 else 0) + (if n5 ≠ n1 ∧ n5 ≠ n2 ∧ n5 ≠ n3 ∧ n5 ≠ n4 then 1 else 0)) : Go A B_law D (fun v _ _ => v = some (.int 1)) 193 [.val (.int xa), .val (.int xb), .val (.int xc), .val (.int xd), .val (.int xe), .val (.int xm), .val (.int n1), .val (.int n2), .val (.int n3), .val (.int n4), .val (.int n5), .val (.ref o), .val (.int k3), .unset] [] [(o, ObjP A "com/example/callweave/callweave/analysis/SparseBits" [("com/example/callweave/callweave/analysis/SparseBits", "indexes", "[I", .ref ti5), ("com/example/callweave/callweave/analysis/SparseBits", "words", "[J", .ref tw5), ("com/example/callweave/callweave/analysis/SparseBits", "count", "I", .int (nI ps5.length))]), (ti5, ArrP A .int (chV (ps5.map Prod.fst ++ zs5))), (tw5, ArrP A .long (lV (ps5.map Prod.snd ++ zl5)))] [] 13 81 := by
  refine Go.run (B := B_law) td_law 104 3 (pc' := 199) (L' := [.val (.int xa), .val (.int xb), .val (.int xc), .val (.int xd), .val (.int xe), .val (.int xm), .val (.int n1), .val (.int n2), .val (.int n3), .val (.int n4), .val (.int n5), .val (.ref o), .val (.int k3), .unset]) (S' := [.int n1, .int n4, .int k3]) rfl ?_
  refine Go.icmp (B := B_law) td_law 107 (pc' := 220) rfl (by decide) rfl ?_ ?_
  · intro (h4_0 : n4 = n1)
    refine Go.run (B := B_law) td_law 116 2 (pc' := 222) (L' := [.val (.int xa), .val (.int xb), .val (.int xc), .val (.int xd), .val (.int xe), .val (.int xm), .val (.int n1), .val (.int n2), .val (.int n3), .val (.int n4), .val (.int n5), .val (.ref o), .val (.int k3), .unset]) (S' := [.int (k3 + (0 : Int32))]) rfl ?_
    refine Go.run (B := B_law) td_law 118 2 (pc' := 226) (L' := [.val (.int xa), .val (.int xb), .val (.int xc), .val (.int xd), .val (.int xe), .val (.int xm), .val (.int n1), .val (.int n2), .val (.int n3), .val (.int n4), .val (.int n5), .val (.ref o), .val (.int k3), .unset]) (S' := [.int n1, .int n5, .int (k3 + (0 : Int32))]) rfl ?_
    refine Go.icmp (B := B_law) td_law 120 (pc' := 254) rfl (by decide) rfl ?_ ?_
    · intro (h5_0 : n5 = n1)
      refine Go.run (B := B_law) td_law 132 3 (pc' := 258) (L' := [.val (.int xa), .val (.int xb), .val (.int xc), .val (.int xd), .val (.int xe), .val (.int xm), .val (.int n1), .val (.int n2), .val (.int n3), .val (.int n4), .val (.int n5), .val (.ref o), .val (.int k3), .val (.int ((k3 + (0 : Int32)) + (0 : Int32)))]) (S' := []) rfl ?_
      refine t258 K (zs5 := zs5) (zl5 := zl5) (by omega) ?_
      rw [k5f]
      rw [show (if n4 ≠ n1 ∧ n4 ≠ n2 ∧ n4 ≠ n3 then 1 else 0) = 0 by exact if_neg (fun z => z.1 h4_0), show (if n5 ≠ n1 ∧ n5 ≠ n2 ∧ n5 ≠ n3 ∧ n5 ≠ n4 then 1 else 0) = 0 by exact if_neg (fun z => z.1 h5_0), ← nI_addn, ← nI_addn, hk3]
      rfl
    · intro (h5_0 : ¬ (n5 = n1))
      refine Go.run (B := B_law) td_law 121 2 (pc' := 233) (L' := [.val (.int xa), .val (.int xb), .val (.int xc), .val (.int xd), .val (.int xe), .val (.int xm), .val (.int n1), .val (.int n2), .val (.int n3), .val (.int n4), .val (.int n5), .val (.ref o), .val (.int k3), .unset]) (S' := [.int n2, .int n5, .int (k3 + (0 : Int32))]) rfl ?_
      refine Go.icmp (B := B_law) td_law 123 (pc' := 254) rfl (by decide) rfl ?_ ?_
      · intro (h5_1 : n5 = n2)
        refine Go.run (B := B_law) td_law 132 3 (pc' := 258) (L' := [.val (.int xa), .val (.int xb), .val (.int xc), .val (.int xd), .val (.int xe), .val (.int xm), .val (.int n1), .val (.int n2), .val (.int n3), .val (.int n4), .val (.int n5), .val (.ref o), .val (.int k3), .val (.int ((k3 + (0 : Int32)) + (0 : Int32)))]) (S' := []) rfl ?_
        refine t258 K (zs5 := zs5) (zl5 := zl5) (by omega) ?_
        rw [k5f]
        rw [show (if n4 ≠ n1 ∧ n4 ≠ n2 ∧ n4 ≠ n3 then 1 else 0) = 0 by exact if_neg (fun z => z.1 h4_0), show (if n5 ≠ n1 ∧ n5 ≠ n2 ∧ n5 ≠ n3 ∧ n5 ≠ n4 then 1 else 0) = 0 by exact if_neg (fun z => z.2.1 h5_1), ← nI_addn, ← nI_addn, hk3]
        rfl
      · intro (h5_1 : ¬ (n5 = n2))
        refine Go.run (B := B_law) td_law 124 2 (pc' := 240) (L' := [.val (.int xa), .val (.int xb), .val (.int xc), .val (.int xd), .val (.int xe), .val (.int xm), .val (.int n1), .val (.int n2), .val (.int n3), .val (.int n4), .val (.int n5), .val (.ref o), .val (.int k3), .unset]) (S' := [.int n3, .int n5, .int (k3 + (0 : Int32))]) rfl ?_
        refine Go.icmp (B := B_law) td_law 126 (pc' := 254) rfl (by decide) rfl ?_ ?_
        · intro (h5_2 : n5 = n3)
          refine Go.run (B := B_law) td_law 132 3 (pc' := 258) (L' := [.val (.int xa), .val (.int xb), .val (.int xc), .val (.int xd), .val (.int xe), .val (.int xm), .val (.int n1), .val (.int n2), .val (.int n3), .val (.int n4), .val (.int n5), .val (.ref o), .val (.int k3), .val (.int ((k3 + (0 : Int32)) + (0 : Int32)))]) (S' := []) rfl ?_
          refine t258 K (zs5 := zs5) (zl5 := zl5) (by omega) ?_
          rw [k5f]
          rw [show (if n4 ≠ n1 ∧ n4 ≠ n2 ∧ n4 ≠ n3 then 1 else 0) = 0 by exact if_neg (fun z => z.1 h4_0), show (if n5 ≠ n1 ∧ n5 ≠ n2 ∧ n5 ≠ n3 ∧ n5 ≠ n4 then 1 else 0) = 0 by exact if_neg (fun z => z.2.2.1 h5_2), ← nI_addn, ← nI_addn, hk3]
          rfl
        · intro (h5_2 : ¬ (n5 = n3))
          refine Go.run (B := B_law) td_law 127 2 (pc' := 247) (L' := [.val (.int xa), .val (.int xb), .val (.int xc), .val (.int xd), .val (.int xe), .val (.int xm), .val (.int n1), .val (.int n2), .val (.int n3), .val (.int n4), .val (.int n5), .val (.ref o), .val (.int k3), .unset]) (S' := [.int n4, .int n5, .int (k3 + (0 : Int32))]) rfl ?_
          refine Go.icmp (B := B_law) td_law 129 (pc' := 254) rfl (by decide) rfl ?_ ?_
          · intro (h5_3 : n5 = n4)
            refine Go.run (B := B_law) td_law 132 3 (pc' := 258) (L' := [.val (.int xa), .val (.int xb), .val (.int xc), .val (.int xd), .val (.int xe), .val (.int xm), .val (.int n1), .val (.int n2), .val (.int n3), .val (.int n4), .val (.int n5), .val (.ref o), .val (.int k3), .val (.int ((k3 + (0 : Int32)) + (0 : Int32)))]) (S' := []) rfl ?_
            refine t258 K (zs5 := zs5) (zl5 := zl5) (by omega) ?_
            rw [k5f]
            rw [show (if n4 ≠ n1 ∧ n4 ≠ n2 ∧ n4 ≠ n3 then 1 else 0) = 0 by exact if_neg (fun z => z.1 h4_0), show (if n5 ≠ n1 ∧ n5 ≠ n2 ∧ n5 ≠ n3 ∧ n5 ≠ n4 then 1 else 0) = 0 by exact if_neg (fun z => z.2.2.2 h5_3), ← nI_addn, ← nI_addn, hk3]
            rfl
          · intro (h5_3 : ¬ (n5 = n4))
            refine Go.run (B := B_law) td_law 130 2 (pc' := 255) (L' := [.val (.int xa), .val (.int xb), .val (.int xc), .val (.int xd), .val (.int xe), .val (.int xm), .val (.int n1), .val (.int n2), .val (.int n3), .val (.int n4), .val (.int n5), .val (.ref o), .val (.int k3), .unset]) (S' := [.int (1 : Int32), .int (k3 + (0 : Int32))]) rfl ?_
            refine Go.run (B := B_law) td_law 133 2 (pc' := 258) (L' := [.val (.int xa), .val (.int xb), .val (.int xc), .val (.int xd), .val (.int xe), .val (.int xm), .val (.int n1), .val (.int n2), .val (.int n3), .val (.int n4), .val (.int n5), .val (.ref o), .val (.int k3), .val (.int ((k3 + (0 : Int32)) + (1 : Int32)))]) (S' := []) rfl ?_
            refine t258 K (zs5 := zs5) (zl5 := zl5) (by omega) ?_
            rw [k5f]
            rw [show (if n4 ≠ n1 ∧ n4 ≠ n2 ∧ n4 ≠ n3 then 1 else 0) = 0 by exact if_neg (fun z => z.1 h4_0), show (if n5 ≠ n1 ∧ n5 ≠ n2 ∧ n5 ≠ n3 ∧ n5 ≠ n4 then 1 else 0) = 1 by exact if_pos ⟨h5_0, h5_1, h5_2, h5_3⟩, ← nI_addn, ← nI_addn, hk3]
            rfl
  · intro (h4_0 : ¬ (n4 = n1))
    refine Go.run (B := B_law) td_law 108 2 (pc' := 206) (L' := [.val (.int xa), .val (.int xb), .val (.int xc), .val (.int xd), .val (.int xe), .val (.int xm), .val (.int n1), .val (.int n2), .val (.int n3), .val (.int n4), .val (.int n5), .val (.ref o), .val (.int k3), .unset]) (S' := [.int n2, .int n4, .int k3]) rfl ?_
    refine Go.icmp (B := B_law) td_law 110 (pc' := 220) rfl (by decide) rfl ?_ ?_
    · intro (h4_1 : n4 = n2)
      refine Go.run (B := B_law) td_law 116 2 (pc' := 222) (L' := [.val (.int xa), .val (.int xb), .val (.int xc), .val (.int xd), .val (.int xe), .val (.int xm), .val (.int n1), .val (.int n2), .val (.int n3), .val (.int n4), .val (.int n5), .val (.ref o), .val (.int k3), .unset]) (S' := [.int (k3 + (0 : Int32))]) rfl ?_
      refine Go.run (B := B_law) td_law 118 2 (pc' := 226) (L' := [.val (.int xa), .val (.int xb), .val (.int xc), .val (.int xd), .val (.int xe), .val (.int xm), .val (.int n1), .val (.int n2), .val (.int n3), .val (.int n4), .val (.int n5), .val (.ref o), .val (.int k3), .unset]) (S' := [.int n1, .int n5, .int (k3 + (0 : Int32))]) rfl ?_
      refine Go.icmp (B := B_law) td_law 120 (pc' := 254) rfl (by decide) rfl ?_ ?_
      · intro (h5_0 : n5 = n1)
        refine Go.run (B := B_law) td_law 132 3 (pc' := 258) (L' := [.val (.int xa), .val (.int xb), .val (.int xc), .val (.int xd), .val (.int xe), .val (.int xm), .val (.int n1), .val (.int n2), .val (.int n3), .val (.int n4), .val (.int n5), .val (.ref o), .val (.int k3), .val (.int ((k3 + (0 : Int32)) + (0 : Int32)))]) (S' := []) rfl ?_
        refine t258 K (zs5 := zs5) (zl5 := zl5) (by omega) ?_
        rw [k5f]
        rw [show (if n4 ≠ n1 ∧ n4 ≠ n2 ∧ n4 ≠ n3 then 1 else 0) = 0 by exact if_neg (fun z => z.2.1 h4_1), show (if n5 ≠ n1 ∧ n5 ≠ n2 ∧ n5 ≠ n3 ∧ n5 ≠ n4 then 1 else 0) = 0 by exact if_neg (fun z => z.1 h5_0), ← nI_addn, ← nI_addn, hk3]
        rfl
      · intro (h5_0 : ¬ (n5 = n1))
        refine Go.run (B := B_law) td_law 121 2 (pc' := 233) (L' := [.val (.int xa), .val (.int xb), .val (.int xc), .val (.int xd), .val (.int xe), .val (.int xm), .val (.int n1), .val (.int n2), .val (.int n3), .val (.int n4), .val (.int n5), .val (.ref o), .val (.int k3), .unset]) (S' := [.int n2, .int n5, .int (k3 + (0 : Int32))]) rfl ?_
        refine Go.icmp (B := B_law) td_law 123 (pc' := 254) rfl (by decide) rfl ?_ ?_
        · intro (h5_1 : n5 = n2)
          refine Go.run (B := B_law) td_law 132 3 (pc' := 258) (L' := [.val (.int xa), .val (.int xb), .val (.int xc), .val (.int xd), .val (.int xe), .val (.int xm), .val (.int n1), .val (.int n2), .val (.int n3), .val (.int n4), .val (.int n5), .val (.ref o), .val (.int k3), .val (.int ((k3 + (0 : Int32)) + (0 : Int32)))]) (S' := []) rfl ?_
          refine t258 K (zs5 := zs5) (zl5 := zl5) (by omega) ?_
          rw [k5f]
          rw [show (if n4 ≠ n1 ∧ n4 ≠ n2 ∧ n4 ≠ n3 then 1 else 0) = 0 by exact if_neg (fun z => z.2.1 h4_1), show (if n5 ≠ n1 ∧ n5 ≠ n2 ∧ n5 ≠ n3 ∧ n5 ≠ n4 then 1 else 0) = 0 by exact if_neg (fun z => z.2.1 h5_1), ← nI_addn, ← nI_addn, hk3]
          rfl
        · intro (h5_1 : ¬ (n5 = n2))
          refine Go.run (B := B_law) td_law 124 2 (pc' := 240) (L' := [.val (.int xa), .val (.int xb), .val (.int xc), .val (.int xd), .val (.int xe), .val (.int xm), .val (.int n1), .val (.int n2), .val (.int n3), .val (.int n4), .val (.int n5), .val (.ref o), .val (.int k3), .unset]) (S' := [.int n3, .int n5, .int (k3 + (0 : Int32))]) rfl ?_
          refine Go.icmp (B := B_law) td_law 126 (pc' := 254) rfl (by decide) rfl ?_ ?_
          · intro (h5_2 : n5 = n3)
            refine Go.run (B := B_law) td_law 132 3 (pc' := 258) (L' := [.val (.int xa), .val (.int xb), .val (.int xc), .val (.int xd), .val (.int xe), .val (.int xm), .val (.int n1), .val (.int n2), .val (.int n3), .val (.int n4), .val (.int n5), .val (.ref o), .val (.int k3), .val (.int ((k3 + (0 : Int32)) + (0 : Int32)))]) (S' := []) rfl ?_
            refine t258 K (zs5 := zs5) (zl5 := zl5) (by omega) ?_
            rw [k5f]
            rw [show (if n4 ≠ n1 ∧ n4 ≠ n2 ∧ n4 ≠ n3 then 1 else 0) = 0 by exact if_neg (fun z => z.2.1 h4_1), show (if n5 ≠ n1 ∧ n5 ≠ n2 ∧ n5 ≠ n3 ∧ n5 ≠ n4 then 1 else 0) = 0 by exact if_neg (fun z => z.2.2.1 h5_2), ← nI_addn, ← nI_addn, hk3]
            rfl
          · intro (h5_2 : ¬ (n5 = n3))
            refine Go.run (B := B_law) td_law 127 2 (pc' := 247) (L' := [.val (.int xa), .val (.int xb), .val (.int xc), .val (.int xd), .val (.int xe), .val (.int xm), .val (.int n1), .val (.int n2), .val (.int n3), .val (.int n4), .val (.int n5), .val (.ref o), .val (.int k3), .unset]) (S' := [.int n4, .int n5, .int (k3 + (0 : Int32))]) rfl ?_
            refine Go.icmp (B := B_law) td_law 129 (pc' := 254) rfl (by decide) rfl ?_ ?_
            · intro (h5_3 : n5 = n4)
              refine Go.run (B := B_law) td_law 132 3 (pc' := 258) (L' := [.val (.int xa), .val (.int xb), .val (.int xc), .val (.int xd), .val (.int xe), .val (.int xm), .val (.int n1), .val (.int n2), .val (.int n3), .val (.int n4), .val (.int n5), .val (.ref o), .val (.int k3), .val (.int ((k3 + (0 : Int32)) + (0 : Int32)))]) (S' := []) rfl ?_
              refine t258 K (zs5 := zs5) (zl5 := zl5) (by omega) ?_
              rw [k5f]
              rw [show (if n4 ≠ n1 ∧ n4 ≠ n2 ∧ n4 ≠ n3 then 1 else 0) = 0 by exact if_neg (fun z => z.2.1 h4_1), show (if n5 ≠ n1 ∧ n5 ≠ n2 ∧ n5 ≠ n3 ∧ n5 ≠ n4 then 1 else 0) = 0 by exact if_neg (fun z => z.2.2.2 h5_3), ← nI_addn, ← nI_addn, hk3]
              rfl
            · intro (h5_3 : ¬ (n5 = n4))
              refine Go.run (B := B_law) td_law 130 2 (pc' := 255) (L' := [.val (.int xa), .val (.int xb), .val (.int xc), .val (.int xd), .val (.int xe), .val (.int xm), .val (.int n1), .val (.int n2), .val (.int n3), .val (.int n4), .val (.int n5), .val (.ref o), .val (.int k3), .unset]) (S' := [.int (1 : Int32), .int (k3 + (0 : Int32))]) rfl ?_
              refine Go.run (B := B_law) td_law 133 2 (pc' := 258) (L' := [.val (.int xa), .val (.int xb), .val (.int xc), .val (.int xd), .val (.int xe), .val (.int xm), .val (.int n1), .val (.int n2), .val (.int n3), .val (.int n4), .val (.int n5), .val (.ref o), .val (.int k3), .val (.int ((k3 + (0 : Int32)) + (1 : Int32)))]) (S' := []) rfl ?_
              refine t258 K (zs5 := zs5) (zl5 := zl5) (by omega) ?_
              rw [k5f]
              rw [show (if n4 ≠ n1 ∧ n4 ≠ n2 ∧ n4 ≠ n3 then 1 else 0) = 0 by exact if_neg (fun z => z.2.1 h4_1), show (if n5 ≠ n1 ∧ n5 ≠ n2 ∧ n5 ≠ n3 ∧ n5 ≠ n4 then 1 else 0) = 1 by exact if_pos ⟨h5_0, h5_1, h5_2, h5_3⟩, ← nI_addn, ← nI_addn, hk3]
              rfl
    · intro (h4_1 : ¬ (n4 = n2))
      refine Go.run (B := B_law) td_law 111 2 (pc' := 213) (L' := [.val (.int xa), .val (.int xb), .val (.int xc), .val (.int xd), .val (.int xe), .val (.int xm), .val (.int n1), .val (.int n2), .val (.int n3), .val (.int n4), .val (.int n5), .val (.ref o), .val (.int k3), .unset]) (S' := [.int n3, .int n4, .int k3]) rfl ?_
      refine Go.icmp (B := B_law) td_law 113 (pc' := 220) rfl (by decide) rfl ?_ ?_
      · intro (h4_2 : n4 = n3)
        refine Go.run (B := B_law) td_law 116 2 (pc' := 222) (L' := [.val (.int xa), .val (.int xb), .val (.int xc), .val (.int xd), .val (.int xe), .val (.int xm), .val (.int n1), .val (.int n2), .val (.int n3), .val (.int n4), .val (.int n5), .val (.ref o), .val (.int k3), .unset]) (S' := [.int (k3 + (0 : Int32))]) rfl ?_
        refine Go.run (B := B_law) td_law 118 2 (pc' := 226) (L' := [.val (.int xa), .val (.int xb), .val (.int xc), .val (.int xd), .val (.int xe), .val (.int xm), .val (.int n1), .val (.int n2), .val (.int n3), .val (.int n4), .val (.int n5), .val (.ref o), .val (.int k3), .unset]) (S' := [.int n1, .int n5, .int (k3 + (0 : Int32))]) rfl ?_
        refine Go.icmp (B := B_law) td_law 120 (pc' := 254) rfl (by decide) rfl ?_ ?_
        · intro (h5_0 : n5 = n1)
          refine Go.run (B := B_law) td_law 132 3 (pc' := 258) (L' := [.val (.int xa), .val (.int xb), .val (.int xc), .val (.int xd), .val (.int xe), .val (.int xm), .val (.int n1), .val (.int n2), .val (.int n3), .val (.int n4), .val (.int n5), .val (.ref o), .val (.int k3), .val (.int ((k3 + (0 : Int32)) + (0 : Int32)))]) (S' := []) rfl ?_
          refine t258 K (zs5 := zs5) (zl5 := zl5) (by omega) ?_
          rw [k5f]
          rw [show (if n4 ≠ n1 ∧ n4 ≠ n2 ∧ n4 ≠ n3 then 1 else 0) = 0 by exact if_neg (fun z => z.2.2 h4_2), show (if n5 ≠ n1 ∧ n5 ≠ n2 ∧ n5 ≠ n3 ∧ n5 ≠ n4 then 1 else 0) = 0 by exact if_neg (fun z => z.1 h5_0), ← nI_addn, ← nI_addn, hk3]
          rfl
        · intro (h5_0 : ¬ (n5 = n1))
          refine Go.run (B := B_law) td_law 121 2 (pc' := 233) (L' := [.val (.int xa), .val (.int xb), .val (.int xc), .val (.int xd), .val (.int xe), .val (.int xm), .val (.int n1), .val (.int n2), .val (.int n3), .val (.int n4), .val (.int n5), .val (.ref o), .val (.int k3), .unset]) (S' := [.int n2, .int n5, .int (k3 + (0 : Int32))]) rfl ?_
          refine Go.icmp (B := B_law) td_law 123 (pc' := 254) rfl (by decide) rfl ?_ ?_
          · intro (h5_1 : n5 = n2)
            refine Go.run (B := B_law) td_law 132 3 (pc' := 258) (L' := [.val (.int xa), .val (.int xb), .val (.int xc), .val (.int xd), .val (.int xe), .val (.int xm), .val (.int n1), .val (.int n2), .val (.int n3), .val (.int n4), .val (.int n5), .val (.ref o), .val (.int k3), .val (.int ((k3 + (0 : Int32)) + (0 : Int32)))]) (S' := []) rfl ?_
            refine t258 K (zs5 := zs5) (zl5 := zl5) (by omega) ?_
            rw [k5f]
            rw [show (if n4 ≠ n1 ∧ n4 ≠ n2 ∧ n4 ≠ n3 then 1 else 0) = 0 by exact if_neg (fun z => z.2.2 h4_2), show (if n5 ≠ n1 ∧ n5 ≠ n2 ∧ n5 ≠ n3 ∧ n5 ≠ n4 then 1 else 0) = 0 by exact if_neg (fun z => z.2.1 h5_1), ← nI_addn, ← nI_addn, hk3]
            rfl
          · intro (h5_1 : ¬ (n5 = n2))
            refine Go.run (B := B_law) td_law 124 2 (pc' := 240) (L' := [.val (.int xa), .val (.int xb), .val (.int xc), .val (.int xd), .val (.int xe), .val (.int xm), .val (.int n1), .val (.int n2), .val (.int n3), .val (.int n4), .val (.int n5), .val (.ref o), .val (.int k3), .unset]) (S' := [.int n3, .int n5, .int (k3 + (0 : Int32))]) rfl ?_
            refine Go.icmp (B := B_law) td_law 126 (pc' := 254) rfl (by decide) rfl ?_ ?_
            · intro (h5_2 : n5 = n3)
              refine Go.run (B := B_law) td_law 132 3 (pc' := 258) (L' := [.val (.int xa), .val (.int xb), .val (.int xc), .val (.int xd), .val (.int xe), .val (.int xm), .val (.int n1), .val (.int n2), .val (.int n3), .val (.int n4), .val (.int n5), .val (.ref o), .val (.int k3), .val (.int ((k3 + (0 : Int32)) + (0 : Int32)))]) (S' := []) rfl ?_
              refine t258 K (zs5 := zs5) (zl5 := zl5) (by omega) ?_
              rw [k5f]
              rw [show (if n4 ≠ n1 ∧ n4 ≠ n2 ∧ n4 ≠ n3 then 1 else 0) = 0 by exact if_neg (fun z => z.2.2 h4_2), show (if n5 ≠ n1 ∧ n5 ≠ n2 ∧ n5 ≠ n3 ∧ n5 ≠ n4 then 1 else 0) = 0 by exact if_neg (fun z => z.2.2.1 h5_2), ← nI_addn, ← nI_addn, hk3]
              rfl
            · intro (h5_2 : ¬ (n5 = n3))
              refine Go.run (B := B_law) td_law 127 2 (pc' := 247) (L' := [.val (.int xa), .val (.int xb), .val (.int xc), .val (.int xd), .val (.int xe), .val (.int xm), .val (.int n1), .val (.int n2), .val (.int n3), .val (.int n4), .val (.int n5), .val (.ref o), .val (.int k3), .unset]) (S' := [.int n4, .int n5, .int (k3 + (0 : Int32))]) rfl ?_
              refine Go.icmp (B := B_law) td_law 129 (pc' := 254) rfl (by decide) rfl ?_ ?_
              · intro (h5_3 : n5 = n4)
                refine Go.run (B := B_law) td_law 132 3 (pc' := 258) (L' := [.val (.int xa), .val (.int xb), .val (.int xc), .val (.int xd), .val (.int xe), .val (.int xm), .val (.int n1), .val (.int n2), .val (.int n3), .val (.int n4), .val (.int n5), .val (.ref o), .val (.int k3), .val (.int ((k3 + (0 : Int32)) + (0 : Int32)))]) (S' := []) rfl ?_
                refine t258 K (zs5 := zs5) (zl5 := zl5) (by omega) ?_
                rw [k5f]
                rw [show (if n4 ≠ n1 ∧ n4 ≠ n2 ∧ n4 ≠ n3 then 1 else 0) = 0 by exact if_neg (fun z => z.2.2 h4_2), show (if n5 ≠ n1 ∧ n5 ≠ n2 ∧ n5 ≠ n3 ∧ n5 ≠ n4 then 1 else 0) = 0 by exact if_neg (fun z => z.2.2.2 h5_3), ← nI_addn, ← nI_addn, hk3]
                rfl
              · intro (h5_3 : ¬ (n5 = n4))
                refine Go.run (B := B_law) td_law 130 2 (pc' := 255) (L' := [.val (.int xa), .val (.int xb), .val (.int xc), .val (.int xd), .val (.int xe), .val (.int xm), .val (.int n1), .val (.int n2), .val (.int n3), .val (.int n4), .val (.int n5), .val (.ref o), .val (.int k3), .unset]) (S' := [.int (1 : Int32), .int (k3 + (0 : Int32))]) rfl ?_
                refine Go.run (B := B_law) td_law 133 2 (pc' := 258) (L' := [.val (.int xa), .val (.int xb), .val (.int xc), .val (.int xd), .val (.int xe), .val (.int xm), .val (.int n1), .val (.int n2), .val (.int n3), .val (.int n4), .val (.int n5), .val (.ref o), .val (.int k3), .val (.int ((k3 + (0 : Int32)) + (1 : Int32)))]) (S' := []) rfl ?_
                refine t258 K (zs5 := zs5) (zl5 := zl5) (by omega) ?_
                rw [k5f]
                rw [show (if n4 ≠ n1 ∧ n4 ≠ n2 ∧ n4 ≠ n3 then 1 else 0) = 0 by exact if_neg (fun z => z.2.2 h4_2), show (if n5 ≠ n1 ∧ n5 ≠ n2 ∧ n5 ≠ n3 ∧ n5 ≠ n4 then 1 else 0) = 1 by exact if_pos ⟨h5_0, h5_1, h5_2, h5_3⟩, ← nI_addn, ← nI_addn, hk3]
                rfl
      · intro (h4_2 : ¬ (n4 = n3))
        refine Go.run (B := B_law) td_law 114 2 (pc' := 221) (L' := [.val (.int xa), .val (.int xb), .val (.int xc), .val (.int xd), .val (.int xe), .val (.int xm), .val (.int n1), .val (.int n2), .val (.int n3), .val (.int n4), .val (.int n5), .val (.ref o), .val (.int k3), .unset]) (S' := [.int (1 : Int32), .int k3]) rfl ?_
        refine Go.run (B := B_law) td_law 117 1 (pc' := 222) (L' := [.val (.int xa), .val (.int xb), .val (.int xc), .val (.int xd), .val (.int xe), .val (.int xm), .val (.int n1), .val (.int n2), .val (.int n3), .val (.int n4), .val (.int n5), .val (.ref o), .val (.int k3), .unset]) (S' := [.int (k3 + (1 : Int32))]) rfl ?_
        refine Go.run (B := B_law) td_law 118 2 (pc' := 226) (L' := [.val (.int xa), .val (.int xb), .val (.int xc), .val (.int xd), .val (.int xe), .val (.int xm), .val (.int n1), .val (.int n2), .val (.int n3), .val (.int n4), .val (.int n5), .val (.ref o), .val (.int k3), .unset]) (S' := [.int n1, .int n5, .int (k3 + (1 : Int32))]) rfl ?_
        refine Go.icmp (B := B_law) td_law 120 (pc' := 254) rfl (by decide) rfl ?_ ?_
        · intro (h5_0 : n5 = n1)
          refine Go.run (B := B_law) td_law 132 3 (pc' := 258) (L' := [.val (.int xa), .val (.int xb), .val (.int xc), .val (.int xd), .val (.int xe), .val (.int xm), .val (.int n1), .val (.int n2), .val (.int n3), .val (.int n4), .val (.int n5), .val (.ref o), .val (.int k3), .val (.int ((k3 + (1 : Int32)) + (0 : Int32)))]) (S' := []) rfl ?_
          refine t258 K (zs5 := zs5) (zl5 := zl5) (by omega) ?_
          rw [k5f]
          rw [show (if n4 ≠ n1 ∧ n4 ≠ n2 ∧ n4 ≠ n3 then 1 else 0) = 1 by exact if_pos ⟨h4_0, h4_1, h4_2⟩, show (if n5 ≠ n1 ∧ n5 ≠ n2 ∧ n5 ≠ n3 ∧ n5 ≠ n4 then 1 else 0) = 0 by exact if_neg (fun z => z.1 h5_0), ← nI_addn, ← nI_addn, hk3]
          rfl
        · intro (h5_0 : ¬ (n5 = n1))
          refine Go.run (B := B_law) td_law 121 2 (pc' := 233) (L' := [.val (.int xa), .val (.int xb), .val (.int xc), .val (.int xd), .val (.int xe), .val (.int xm), .val (.int n1), .val (.int n2), .val (.int n3), .val (.int n4), .val (.int n5), .val (.ref o), .val (.int k3), .unset]) (S' := [.int n2, .int n5, .int (k3 + (1 : Int32))]) rfl ?_
          refine Go.icmp (B := B_law) td_law 123 (pc' := 254) rfl (by decide) rfl ?_ ?_
          · intro (h5_1 : n5 = n2)
            refine Go.run (B := B_law) td_law 132 3 (pc' := 258) (L' := [.val (.int xa), .val (.int xb), .val (.int xc), .val (.int xd), .val (.int xe), .val (.int xm), .val (.int n1), .val (.int n2), .val (.int n3), .val (.int n4), .val (.int n5), .val (.ref o), .val (.int k3), .val (.int ((k3 + (1 : Int32)) + (0 : Int32)))]) (S' := []) rfl ?_
            refine t258 K (zs5 := zs5) (zl5 := zl5) (by omega) ?_
            rw [k5f]
            rw [show (if n4 ≠ n1 ∧ n4 ≠ n2 ∧ n4 ≠ n3 then 1 else 0) = 1 by exact if_pos ⟨h4_0, h4_1, h4_2⟩, show (if n5 ≠ n1 ∧ n5 ≠ n2 ∧ n5 ≠ n3 ∧ n5 ≠ n4 then 1 else 0) = 0 by exact if_neg (fun z => z.2.1 h5_1), ← nI_addn, ← nI_addn, hk3]
            rfl
          · intro (h5_1 : ¬ (n5 = n2))
            refine Go.run (B := B_law) td_law 124 2 (pc' := 240) (L' := [.val (.int xa), .val (.int xb), .val (.int xc), .val (.int xd), .val (.int xe), .val (.int xm), .val (.int n1), .val (.int n2), .val (.int n3), .val (.int n4), .val (.int n5), .val (.ref o), .val (.int k3), .unset]) (S' := [.int n3, .int n5, .int (k3 + (1 : Int32))]) rfl ?_
            refine Go.icmp (B := B_law) td_law 126 (pc' := 254) rfl (by decide) rfl ?_ ?_
            · intro (h5_2 : n5 = n3)
              refine Go.run (B := B_law) td_law 132 3 (pc' := 258) (L' := [.val (.int xa), .val (.int xb), .val (.int xc), .val (.int xd), .val (.int xe), .val (.int xm), .val (.int n1), .val (.int n2), .val (.int n3), .val (.int n4), .val (.int n5), .val (.ref o), .val (.int k3), .val (.int ((k3 + (1 : Int32)) + (0 : Int32)))]) (S' := []) rfl ?_
              refine t258 K (zs5 := zs5) (zl5 := zl5) (by omega) ?_
              rw [k5f]
              rw [show (if n4 ≠ n1 ∧ n4 ≠ n2 ∧ n4 ≠ n3 then 1 else 0) = 1 by exact if_pos ⟨h4_0, h4_1, h4_2⟩, show (if n5 ≠ n1 ∧ n5 ≠ n2 ∧ n5 ≠ n3 ∧ n5 ≠ n4 then 1 else 0) = 0 by exact if_neg (fun z => z.2.2.1 h5_2), ← nI_addn, ← nI_addn, hk3]
              rfl
            · intro (h5_2 : ¬ (n5 = n3))
              refine Go.run (B := B_law) td_law 127 2 (pc' := 247) (L' := [.val (.int xa), .val (.int xb), .val (.int xc), .val (.int xd), .val (.int xe), .val (.int xm), .val (.int n1), .val (.int n2), .val (.int n3), .val (.int n4), .val (.int n5), .val (.ref o), .val (.int k3), .unset]) (S' := [.int n4, .int n5, .int (k3 + (1 : Int32))]) rfl ?_
              refine Go.icmp (B := B_law) td_law 129 (pc' := 254) rfl (by decide) rfl ?_ ?_
              · intro (h5_3 : n5 = n4)
                refine Go.run (B := B_law) td_law 132 3 (pc' := 258) (L' := [.val (.int xa), .val (.int xb), .val (.int xc), .val (.int xd), .val (.int xe), .val (.int xm), .val (.int n1), .val (.int n2), .val (.int n3), .val (.int n4), .val (.int n5), .val (.ref o), .val (.int k3), .val (.int ((k3 + (1 : Int32)) + (0 : Int32)))]) (S' := []) rfl ?_
                refine t258 K (zs5 := zs5) (zl5 := zl5) (by omega) ?_
                rw [k5f]
                rw [show (if n4 ≠ n1 ∧ n4 ≠ n2 ∧ n4 ≠ n3 then 1 else 0) = 1 by exact if_pos ⟨h4_0, h4_1, h4_2⟩, show (if n5 ≠ n1 ∧ n5 ≠ n2 ∧ n5 ≠ n3 ∧ n5 ≠ n4 then 1 else 0) = 0 by exact if_neg (fun z => z.2.2.2 h5_3), ← nI_addn, ← nI_addn, hk3]
                rfl
              · intro (h5_3 : ¬ (n5 = n4))
                refine Go.run (B := B_law) td_law 130 2 (pc' := 255) (L' := [.val (.int xa), .val (.int xb), .val (.int xc), .val (.int xd), .val (.int xe), .val (.int xm), .val (.int n1), .val (.int n2), .val (.int n3), .val (.int n4), .val (.int n5), .val (.ref o), .val (.int k3), .unset]) (S' := [.int (1 : Int32), .int (k3 + (1 : Int32))]) rfl ?_
                refine Go.run (B := B_law) td_law 133 2 (pc' := 258) (L' := [.val (.int xa), .val (.int xb), .val (.int xc), .val (.int xd), .val (.int xe), .val (.int xm), .val (.int n1), .val (.int n2), .val (.int n3), .val (.int n4), .val (.int n5), .val (.ref o), .val (.int k3), .val (.int ((k3 + (1 : Int32)) + (1 : Int32)))]) (S' := []) rfl ?_
                refine t258 K (zs5 := zs5) (zl5 := zl5) (by omega) ?_
                rw [k5f]
                rw [show (if n4 ≠ n1 ∧ n4 ≠ n2 ∧ n4 ≠ n3 then 1 else 0) = 1 by exact if_pos ⟨h4_0, h4_1, h4_2⟩, show (if n5 ≠ n1 ∧ n5 ≠ n2 ∧ n5 ≠ n3 ∧ n5 ≠ n4 then 1 else 0) = 1 by exact if_pos ⟨h5_0, h5_1, h5_2, h5_3⟩, ← nI_addn, ← nI_addn, hk3]
                rfl
set_option maxRecDepth 65536 in
set_option maxHeartbeats 4000000 in
theorem t163 {A : Ax} (K : Wd A) {D : Dx} {xa xb xc xd xe xm n1 n2 n3 n4 n5 : Int32} {o : Addr} {k3 : Int32} {ps0 ps1 ps2 ps3 : List (Int32 × Int64)} {ti3 tw3 : Addr} {zs3 : List Int32} {zl3 : List Int64} (a3 : Asc ps3) (z3 : zs3.length = zl3.length) (c3 : ps3.length + zs3.length = 4) (l3 : ps3.length ≤ 3) (m1 : absP ps1 = addN (absP ps0) (tw_ n1)) (m2 : absP ps2 = addN (absP ps1) (tw_ n2)) (m3 : absP ps3 = addN (absP ps2) (tw_ n3)) (hps0 : ps0 = []) (hk3 : nI (cardN (absP ps3)) = k3) : Go A B_law D (fun v _ _ => v = some (.int 1)) 163 [.val (.int xa), .val (.int xb), .val (.int xc), .val (.int xd), .val (.int xe), .val (.int xm), .val (.int n1), .val (.int n2), .val (.int n3), .val (.int n4), .val (.int n5), .val (.ref o), .unset, .unset] [.int k3] [(o, ObjP A "com/example/callweave/callweave/analysis/SparseBits" [("com/example/callweave/callweave/analysis/SparseBits", "indexes", "[I", .ref ti3), ("com/example/callweave/callweave/analysis/SparseBits", "words", "[J", .ref tw3), ("com/example/callweave/callweave/analysis/SparseBits", "count", "I", .int (nI ps3.length))]), (ti3, ArrP A .int (chV (ps3.map Prod.fst ++ zs3))), (tw3, ArrP A .long (lV (ps3.map Prod.snd ++ zl3)))] [] 9 53 := by
  refine Go.run (B := B_law) td_law 89 2 (pc' := 167) (L' := [.val (.int xa), .val (.int xb), .val (.int xc), .val (.int xd), .val (.int xe), .val (.int xm), .val (.int n1), .val (.int n2), .val (.int n3), .val (.int n4), .val (.int n5), .val (.ref o), .val (.int k3), .unset]) (S' := [.ref o]) rfl ?_
  refine Go.callV (B := B_law) td_law 91 (B' := B_crd) (C := "com/example/callweave/callweave/analysis/SparseBits") (a := o) (argsL := []) (rest := []) (W := 0) rfl (crdP_met K (ps := ps3) (zl := zl3) (by omega) (Or.inl (List.mem_of_getElem? (i := 0) rfl)) (Or.inl (List.mem_of_getElem? (i := 2) rfl))) (Or.inl (List.mem_of_getElem? (i := 0) rfl)) (fun c P => P.1) (w_15 K) (w_16 K) (w_17 K) (w_18 K) (w_18 K) (w_2 K) (w_19 K) (by decide) pd_crd rfl rfl rfl rfl (Nat.le_of_eq rfl) (by decide) (by decide) (by decide) (by decide) ?_
  rintro _ _ _ ⟨rfl, rfl, rfl⟩
  show Go A B_law D _ 170 [.val (.int xa), .val (.int xb), .val (.int xc), .val (.int xd), .val (.int xe), .val (.int xm), .val (.int n1), .val (.int n2), .val (.int n3), .val (.int n4), .val (.int n5), .val (.ref o), .val (.int k3), .unset] [.int (nI (cardN (absP ps3)))] [(o, ObjP A "com/example/callweave/callweave/analysis/SparseBits" [("com/example/callweave/callweave/analysis/SparseBits", "indexes", "[I", .ref ti3), ("com/example/callweave/callweave/analysis/SparseBits", "words", "[J", .ref tw3), ("com/example/callweave/callweave/analysis/SparseBits", "count", "I", .int (nI ps3.length))]), (ti3, ArrP A .int (chV (ps3.map Prod.fst ++ zs3))), (tw3, ArrP A .long (lV (ps3.map Prod.snd ++ zl3)))] [] 9 53
  refine Go.run (B := B_law) td_law 92 1 (pc' := 172) (L' := [.val (.int xa), .val (.int xb), .val (.int xc), .val (.int xd), .val (.int xe), .val (.int xm), .val (.int n1), .val (.int n2), .val (.int n3), .val (.int n4), .val (.int n5), .val (.ref o), .val (.int k3), .unset]) (S' := [.int k3, .int (nI (cardN (absP ps3)))]) rfl ?_
  refine Go.icmp (B := B_law) td_law 93 (pc' := 177) rfl (by decide) rfl (fun _ => ?_) (fun (h : ¬ ((nI (cardN (absP ps3))) = k3)) => absurd hk3 h)
  refine Go.run (B := B_law) td_law 96 2 (pc' := 181) (L' := [.val (.int xa), .val (.int xb), .val (.int xc), .val (.int xd), .val (.int xe), .val (.int xm), .val (.int n1), .val (.int n2), .val (.int n3), .val (.int n4), .val (.int n5), .val (.ref o), .val (.int k3), .unset]) (S' := [.int n4, .ref o]) rfl ?_
  refine Go.callV (B := B_law) td_law 98 (B' := B_add) (C := "com/example/callweave/callweave/analysis/SparseBits") (a := o) (argsL := [.int n4]) (rest := []) (W := 0) rfl (add_met K (ps := ps3) a3 z3 (by omega)) (Or.inl (List.mem_of_getElem? (i := 0) rfl)) (fun c P => P.1) (w_22 K) (w_23 K) (w_24 K) (w_25 K) (w_25 K) (w_2 K) (w_26 K) (by decide) pd_add rfl rfl rfl rfl (Nat.le_of_eq rfl) (by decide) (by decide) (by decide) (by decide) ?_
  rintro _ _ _ ⟨⟨r4, rfl⟩, ⟨ps4, ti4, tw4, zs4, zl4, a4, m4, z4, c4, l4, rfl⟩, rfl⟩
  show Go A B_law D _ 184 [.val (.int xa), .val (.int xb), .val (.int xc), .val (.int xd), .val (.int xe), .val (.int xm), .val (.int n1), .val (.int n2), .val (.int n3), .val (.int n4), .val (.int n5), .val (.ref o), .val (.int k3), .unset] [.int r4] [(o, ObjP A "com/example/callweave/callweave/analysis/SparseBits" [("com/example/callweave/callweave/analysis/SparseBits", "indexes", "[I", .ref ti4), ("com/example/callweave/callweave/analysis/SparseBits", "words", "[J", .ref tw4), ("com/example/callweave/callweave/analysis/SparseBits", "count", "I", .int (nI ps4.length))]), (ti4, ArrP A .int (chV (ps4.map Prod.fst ++ zs4))), (tw4, ArrP A .long (lV (ps4.map Prod.snd ++ zl4)))] [] 11 67
  refine Go.run (B := B_law) td_law 99 3 (pc' := 189) (L' := [.val (.int xa), .val (.int xb), .val (.int xc), .val (.int xd), .val (.int xe), .val (.int xm), .val (.int n1), .val (.int n2), .val (.int n3), .val (.int n4), .val (.int n5), .val (.ref o), .val (.int k3), .unset]) (S' := [.int n5, .ref o]) rfl ?_
  have c4 : ps4.length + zs4.length = 4 := by omega
  refine Go.callV (B := B_law) td_law 102 (B' := B_add) (C := "com/example/callweave/callweave/analysis/SparseBits") (a := o) (argsL := [.int n5]) (rest := []) (W := 0) rfl (add_met K (ps := ps4) a4 z4 (by omega)) (Or.inl (List.mem_of_getElem? (i := 0) rfl)) (fun c P => P.1) (w_22 K) (w_23 K) (w_24 K) (w_25 K) (w_25 K) (w_2 K) (w_26 K) (by decide) pd_add rfl rfl rfl rfl (Nat.le_of_eq rfl) (by decide) (by decide) (by decide) (by decide) ?_
  rintro _ _ _ ⟨⟨r5, rfl⟩, ⟨ps5, ti5, tw5, zs5, zl5, a5, m5, z5, c5, l5, rfl⟩, rfl⟩
  show Go A B_law D _ 192 [.val (.int xa), .val (.int xb), .val (.int xc), .val (.int xd), .val (.int xe), .val (.int xm), .val (.int n1), .val (.int n2), .val (.int n3), .val (.int n4), .val (.int n5), .val (.ref o), .val (.int k3), .unset] [.int r5] [(o, ObjP A "com/example/callweave/callweave/analysis/SparseBits" [("com/example/callweave/callweave/analysis/SparseBits", "indexes", "[I", .ref ti5), ("com/example/callweave/callweave/analysis/SparseBits", "words", "[J", .ref tw5), ("com/example/callweave/callweave/analysis/SparseBits", "count", "I", .int (nI ps5.length))]), (ti5, ArrP A .int (chV (ps5.map Prod.fst ++ zs5))), (tw5, ArrP A .long (lV (ps5.map Prod.snd ++ zl5)))] [] 13 81
  refine Go.run (B := B_law) td_law 103 1 (pc' := 193) (L' := [.val (.int xa), .val (.int xb), .val (.int xc), .val (.int xd), .val (.int xe), .val (.int xm), .val (.int n1), .val (.int n2), .val (.int n3), .val (.int n4), .val (.int n5), .val (.ref o), .val (.int k3), .unset]) (S' := []) rfl ?_
  have k5f : cardN (absP ps5) = cardN (absP ps3) + (if n4 ≠ n1 ∧ n4 ≠ n2 ∧ n4 ≠ n3 then 1 else 0) + (if n5 ≠ n1 ∧ n5 ≠ n2 ∧ n5 ≠ n3 ∧ n5 ≠ n4 then 1 else 0) := by
    rw [m5, m4, m3, m2, m1, hps0]
    have q := card5 (a := tw_ n1) (b := tw_ n2) (c := tw_ n3) (d := tw_ n4) (e := tw_ n5) (tw_lt _) (tw_lt _) (tw_lt _) (tw_lt _) (tw_lt _)
    simp only [ne_eq, tw_inj] at q
    exact q
  exact t193 K (zs5 := zs5) (zl5 := zl5) (by omega) hk3 k5f
set_option maxRecDepth 65536 in
set_option maxHeartbeats 4000000 in
theorem t129 {A : Ax} (K : Wd A) {D : Dx} {xa xb xc xd xe xm n1 n2 n3 n4 n5 : Int32} {o : Addr} {ps0 ps1 ps2 ps3 : List (Int32 × Int64)} {ti3 tw3 : Addr} {zs3 : List Int32} {zl3 : List Int64} (a3 : Asc ps3) (z3 : zs3.length = zl3.length) (c3 : ps3.length + zs3.length = 4) (l3 : ps3.length ≤ 3) (m1 : absP ps1 = addN (absP ps0) (tw_ n1)) (m2 : absP ps2 = addN (absP ps1) (tw_ n2)) (m3 : absP ps3 = addN (absP ps2) (tw_ n3)) (hps0 : ps0 = []) (k3 : cardN (absP ps3) = 1 + (if n2 ≠ n1 then 1 else 0) + (if n3 ≠ n1 ∧ n3 ≠ n2 then 1 else 0)) : Go A B_law D (fun v _ _ => v = some (.int 1)) 129 [.val (.int xa), .val (.int xb), .val (.int xc), .val (.int xd), .val (.int xe), .val (.int xm), .val (.int n1), .val (.int n2), .val (.int n3), .val (.int n4), .val (.int n5), .val (.ref o), .unset, .unset] [] [(o, ObjP A "com/example/callweave/callweave/analysis/SparseBits" [("com/example/callweave/callweave/analysis/SparseBits", "indexes", "[I", .ref ti3), ("com/example/callweave/callweave/analysis/SparseBits", "words", "[J", .ref tw3), ("com/example/callweave/callweave/analysis/SparseBits", "count", "I", .int (nI ps3.length))]), (ti3, ArrP A .int (chV (ps3.map Prod.fst ++ zs3))), (tw3, ArrP A .long (lV (ps3.map Prod.snd ++ zl3)))] [] 9 53 := by
  refine Go.run (B := B_law) td_law 71 3 (pc' := 134) (L' := [.val (.int xa), .val (.int xb), .val (.int xc), .val (.int xd), .val (.int xe), .val (.int xm), .val (.int n1), .val (.int n2), .val (.int n3), .val (.int n4), .val (.int n5), .val (.ref o), .unset, .unset]) (S' := [.int n1, .int n2, .int (1 : Int32)]) rfl ?_
  refine Go.icmp (B := B_law) td_law 74 (pc' := 141) rfl (by decide) rfl ?_ ?_
  · intro (g0 : n2 = n1)
    refine Go.run (B := B_law) td_law 77 4 (pc' := 147) (L' := [.val (.int xa), .val (.int xb), .val (.int xc), .val (.int xd), .val (.int xe), .val (.int xm), .val (.int n1), .val (.int n2), .val (.int n3), .val (.int n4), .val (.int n5), .val (.ref o), .unset, .unset]) (S' := [.int n1, .int n3, .int ((1 : Int32) + (0 : Int32))]) rfl ?_
    refine Go.icmp (B := B_law) td_law 81 (pc' := 161) rfl (by decide) rfl ?_ ?_
    · intro (g1 : n3 = n1)
      refine Go.run (B := B_law) td_law 87 2 (pc' := 163) (L' := [.val (.int xa), .val (.int xb), .val (.int xc), .val (.int xd), .val (.int xe), .val (.int xm), .val (.int n1), .val (.int n2), .val (.int n3), .val (.int n4), .val (.int n5), .val (.ref o), .unset, .unset]) (S' := [.int (((1 : Int32) + (0 : Int32)) + (0 : Int32))]) rfl ?_
      exact t163 K a3 z3 c3 l3 m1 m2 m3 hps0 (by rw [k3, show (if n2 ≠ n1 then 1 else 0) = 0 by exact if_neg (fun z => z g0), show (if n3 ≠ n1 ∧ n3 ≠ n2 then 1 else 0) = 0 by exact if_neg (fun z => z.1 g1)]; rfl)
    · intro (g1 : ¬ (n3 = n1))
      refine Go.run (B := B_law) td_law 82 2 (pc' := 154) (L' := [.val (.int xa), .val (.int xb), .val (.int xc), .val (.int xd), .val (.int xe), .val (.int xm), .val (.int n1), .val (.int n2), .val (.int n3), .val (.int n4), .val (.int n5), .val (.ref o), .unset, .unset]) (S' := [.int n2, .int n3, .int ((1 : Int32) + (0 : Int32))]) rfl ?_
      refine Go.icmp (B := B_law) td_law 84 (pc' := 161) rfl (by decide) rfl ?_ ?_
      · intro (g2 : n3 = n2)
        refine Go.run (B := B_law) td_law 87 2 (pc' := 163) (L' := [.val (.int xa), .val (.int xb), .val (.int xc), .val (.int xd), .val (.int xe), .val (.int xm), .val (.int n1), .val (.int n2), .val (.int n3), .val (.int n4), .val (.int n5), .val (.ref o), .unset, .unset]) (S' := [.int (((1 : Int32) + (0 : Int32)) + (0 : Int32))]) rfl ?_
        exact t163 K a3 z3 c3 l3 m1 m2 m3 hps0 (by rw [k3, show (if n2 ≠ n1 then 1 else 0) = 0 by exact if_neg (fun z => z g0), show (if n3 ≠ n1 ∧ n3 ≠ n2 then 1 else 0) = 0 by exact if_neg (fun z => z.2 g2)]; rfl)
      · intro (g2 : ¬ (n3 = n2))
        refine Go.run (B := B_law) td_law 85 2 (pc' := 162) (L' := [.val (.int xa), .val (.int xb), .val (.int xc), .val (.int xd), .val (.int xe), .val (.int xm), .val (.int n1), .val (.int n2), .val (.int n3), .val (.int n4), .val (.int n5), .val (.ref o), .unset, .unset]) (S' := [.int (1 : Int32), .int ((1 : Int32) + (0 : Int32))]) rfl ?_
        refine Go.run (B := B_law) td_law 88 1 (pc' := 163) (L' := [.val (.int xa), .val (.int xb), .val (.int xc), .val (.int xd), .val (.int xe), .val (.int xm), .val (.int n1), .val (.int n2), .val (.int n3), .val (.int n4), .val (.int n5), .val (.ref o), .unset, .unset]) (S' := [.int (((1 : Int32) + (0 : Int32)) + (1 : Int32))]) rfl ?_
        exact t163 K a3 z3 c3 l3 m1 m2 m3 hps0 (by rw [k3, show (if n2 ≠ n1 then 1 else 0) = 0 by exact if_neg (fun z => z g0), show (if n3 ≠ n1 ∧ n3 ≠ n2 then 1 else 0) = 1 by exact if_pos ⟨g1, g2⟩]; rfl)
  · intro (g0 : ¬ (n2 = n1))
    refine Go.run (B := B_law) td_law 75 2 (pc' := 142) (L' := [.val (.int xa), .val (.int xb), .val (.int xc), .val (.int xd), .val (.int xe), .val (.int xm), .val (.int n1), .val (.int n2), .val (.int n3), .val (.int n4), .val (.int n5), .val (.ref o), .unset, .unset]) (S' := [.int (1 : Int32), .int (1 : Int32)]) rfl ?_
    refine Go.run (B := B_law) td_law 78 3 (pc' := 147) (L' := [.val (.int xa), .val (.int xb), .val (.int xc), .val (.int xd), .val (.int xe), .val (.int xm), .val (.int n1), .val (.int n2), .val (.int n3), .val (.int n4), .val (.int n5), .val (.ref o), .unset, .unset]) (S' := [.int n1, .int n3, .int ((1 : Int32) + (1 : Int32))]) rfl ?_
    refine Go.icmp (B := B_law) td_law 81 (pc' := 161) rfl (by decide) rfl ?_ ?_
    · intro (g1 : n3 = n1)
      refine Go.run (B := B_law) td_law 87 2 (pc' := 163) (L' := [.val (.int xa), .val (.int xb), .val (.int xc), .val (.int xd), .val (.int xe), .val (.int xm), .val (.int n1), .val (.int n2), .val (.int n3), .val (.int n4), .val (.int n5), .val (.ref o), .unset, .unset]) (S' := [.int (((1 : Int32) + (1 : Int32)) + (0 : Int32))]) rfl ?_
      exact t163 K a3 z3 c3 l3 m1 m2 m3 hps0 (by rw [k3, show (if n2 ≠ n1 then 1 else 0) = 1 by exact if_pos g0, show (if n3 ≠ n1 ∧ n3 ≠ n2 then 1 else 0) = 0 by exact if_neg (fun z => z.1 g1)]; rfl)
    · intro (g1 : ¬ (n3 = n1))
      refine Go.run (B := B_law) td_law 82 2 (pc' := 154) (L' := [.val (.int xa), .val (.int xb), .val (.int xc), .val (.int xd), .val (.int xe), .val (.int xm), .val (.int n1), .val (.int n2), .val (.int n3), .val (.int n4), .val (.int n5), .val (.ref o), .unset, .unset]) (S' := [.int n2, .int n3, .int ((1 : Int32) + (1 : Int32))]) rfl ?_
      refine Go.icmp (B := B_law) td_law 84 (pc' := 161) rfl (by decide) rfl ?_ ?_
      · intro (g2 : n3 = n2)
        refine Go.run (B := B_law) td_law 87 2 (pc' := 163) (L' := [.val (.int xa), .val (.int xb), .val (.int xc), .val (.int xd), .val (.int xe), .val (.int xm), .val (.int n1), .val (.int n2), .val (.int n3), .val (.int n4), .val (.int n5), .val (.ref o), .unset, .unset]) (S' := [.int (((1 : Int32) + (1 : Int32)) + (0 : Int32))]) rfl ?_
        exact t163 K a3 z3 c3 l3 m1 m2 m3 hps0 (by rw [k3, show (if n2 ≠ n1 then 1 else 0) = 1 by exact if_pos g0, show (if n3 ≠ n1 ∧ n3 ≠ n2 then 1 else 0) = 0 by exact if_neg (fun z => z.2 g2)]; rfl)
      · intro (g2 : ¬ (n3 = n2))
        refine Go.run (B := B_law) td_law 85 2 (pc' := 162) (L' := [.val (.int xa), .val (.int xb), .val (.int xc), .val (.int xd), .val (.int xe), .val (.int xm), .val (.int n1), .val (.int n2), .val (.int n3), .val (.int n4), .val (.int n5), .val (.ref o), .unset, .unset]) (S' := [.int (1 : Int32), .int ((1 : Int32) + (1 : Int32))]) rfl ?_
        refine Go.run (B := B_law) td_law 88 1 (pc' := 163) (L' := [.val (.int xa), .val (.int xb), .val (.int xc), .val (.int xd), .val (.int xe), .val (.int xm), .val (.int n1), .val (.int n2), .val (.int n3), .val (.int n4), .val (.int n5), .val (.ref o), .unset, .unset]) (S' := [.int (((1 : Int32) + (1 : Int32)) + (1 : Int32))]) rfl ?_
        exact t163 K a3 z3 c3 l3 m1 m2 m3 hps0 (by rw [k3, show (if n2 ≠ n1 then 1 else 0) = 1 by exact if_pos g0, show (if n3 ≠ n1 ∧ n3 ≠ n2 then 1 else 0) = 1 by exact if_pos ⟨g1, g2⟩]; rfl)
set_option maxRecDepth 65536 in
set_option maxHeartbeats 4000000 in
theorem t86 {A : Ax} (K : Wd A) {D : Dx} {xa xb xc xd xe xm n1 n2 n3 n4 n5 : Int32}  : Go A B_law D (fun v _ _ => v = some (.int 1)) 86 [.val (.int xa), .val (.int xb), .val (.int xc), .val (.int xd), .val (.int xe), .val (.int xm), .val (.int n1), .val (.int n2), .val (.int n3), .val (.int n4), .val (.int n5), .unset, .unset, .unset] [] [] [] 0 0 := by
  refine Go.new (B := B_law) td_law 50 (fs := [("com/example/callweave/callweave/analysis/SparseBits", "indexes", "[I", .null), ("com/example/callweave/callweave/analysis/SparseBits", "words", "[J", .null), ("com/example/callweave/callweave/analysis/SparseBits", "count", "I", .int (0 : Int32))]) rfl (w_0 K) (w_1 K) (w_2 K) (own_layS (Or.inl (w_11 K)) rfl rfl (own_layS (Or.inl (w_14 K)) rfl rfl (own_layS (Or.inl (w_21 K)) rfl rfl own_lay0))) (by decide) (by decide) ?_
  intro o
  show Go A B_law D _ 89 [.val (.int xa), .val (.int xb), .val (.int xc), .val (.int xd), .val (.int xe), .val (.int xm), .val (.int n1), .val (.int n2), .val (.int n3), .val (.int n4), .val (.int n5), .unset, .unset, .unset] [.ref o] [(o, ObjP A "com/example/callweave/callweave/analysis/SparseBits" [("com/example/callweave/callweave/analysis/SparseBits", "indexes", "[I", .null), ("com/example/callweave/callweave/analysis/SparseBits", "words", "[J", .null), ("com/example/callweave/callweave/analysis/SparseBits", "count", "I", .int (0 : Int32))])] [] 1 3
  refine Go.run (B := B_law) td_law 51 1 (pc' := 90) (L' := [.val (.int xa), .val (.int xb), .val (.int xc), .val (.int xd), .val (.int xe), .val (.int xm), .val (.int n1), .val (.int n2), .val (.int n3), .val (.int n4), .val (.int n5), .unset, .unset, .unset]) (S' := [.ref o, .ref o]) rfl ?_
  refine Go.callN (B := B_law) td_law 52 (B' := B_spi) (a := o) (argsL := []) (rest := [.ref o]) (W := 1) rfl (spi_met K) rfl rfl (w_3 K) (w_4 K) (w_2 K) (w_5 K) (by decide) pd_spi rfl rfl rfl rfl (Nat.le_of_eq rfl) (by decide) (by decide) (by decide) (by decide) ?_
  rintro _ _ _ ⟨rfl, ⟨ti0, tw0, rfl⟩, rfl⟩
  show Go A B_law D _ 93 [.val (.int xa), .val (.int xb), .val (.int xc), .val (.int xd), .val (.int xe), .val (.int xm), .val (.int n1), .val (.int n2), .val (.int n3), .val (.int n4), .val (.int n5), .unset, .unset, .unset] [.ref o] [(o, ObjP A "com/example/callweave/callweave/analysis/SparseBits" [("com/example/callweave/callweave/analysis/SparseBits", "indexes", "[I", .ref ti0), ("com/example/callweave/callweave/analysis/SparseBits", "words", "[J", .ref tw0), ("com/example/callweave/callweave/analysis/SparseBits", "count", "I", .int (0 : Int32))]), (ti0, ArrP A .int (chV [0, 0, 0, 0])), (tw0, ArrP A .long (lV [0, 0, 0, 0]))] [] 3 11
  refine Go.run (B := B_law) td_law 53 2 (pc' := 97) (L' := [.val (.int xa), .val (.int xb), .val (.int xc), .val (.int xd), .val (.int xe), .val (.int xm), .val (.int n1), .val (.int n2), .val (.int n3), .val (.int n4), .val (.int n5), .val (.ref o), .unset, .unset]) (S' := [.ref o]) rfl ?_
  show Go A B_law D _ 97 [.val (.int xa), .val (.int xb), .val (.int xc), .val (.int xd), .val (.int xe), .val (.int xm), .val (.int n1), .val (.int n2), .val (.int n3), .val (.int n4), .val (.int n5), .val (.ref o), .unset, .unset] [.ref o] [(o, ObjP A "com/example/callweave/callweave/analysis/SparseBits" [("com/example/callweave/callweave/analysis/SparseBits", "indexes", "[I", .ref ti0), ("com/example/callweave/callweave/analysis/SparseBits", "words", "[J", .ref tw0), ("com/example/callweave/callweave/analysis/SparseBits", "count", "I", .int (nI ([] : List (Int32 × Int64)).length))]), (ti0, ArrP A .int (chV (([] : List (Int32 × Int64)).map Prod.fst ++ [0, 0, 0, 0]))), (tw0, ArrP A .long (lV (([] : List (Int32 × Int64)).map Prod.snd ++ [0, 0, 0, 0])))] [] 3 11
  refine Go.callV (B := B_law) td_law 55 (B' := B_crd) (C := "com/example/callweave/callweave/analysis/SparseBits") (a := o) (argsL := []) (rest := []) (W := 0) rfl (crdP_met K (ps := []) (zl := [0, 0, 0, 0]) (by decide) (Or.inl (List.mem_of_getElem? (i := 0) rfl)) (Or.inl (List.mem_of_getElem? (i := 2) rfl))) (Or.inl (List.mem_of_getElem? (i := 0) rfl)) (fun c P => P.1) (w_15 K) (w_16 K) (w_17 K) (w_18 K) (w_18 K) (w_2 K) (w_19 K) (by decide) pd_crd rfl rfl rfl rfl (Nat.le_of_eq rfl) (by decide) (by decide) (by decide) (by decide) ?_
  rintro _ _ _ ⟨rfl, rfl, rfl⟩
  show Go A B_law D _ 100 [.val (.int xa), .val (.int xb), .val (.int xc), .val (.int xd), .val (.int xe), .val (.int xm), .val (.int n1), .val (.int n2), .val (.int n3), .val (.int n4), .val (.int n5), .val (.ref o), .unset, .unset] [.int (nI (cardN (absP [])))] [(o, ObjP A "com/example/callweave/callweave/analysis/SparseBits" [("com/example/callweave/callweave/analysis/SparseBits", "indexes", "[I", .ref ti0), ("com/example/callweave/callweave/analysis/SparseBits", "words", "[J", .ref tw0), ("com/example/callweave/callweave/analysis/SparseBits", "count", "I", .int (nI ([] : List (Int32 × Int64)).length))]), (ti0, ArrP A .int (chV (([] : List (Int32 × Int64)).map Prod.fst ++ [0, 0, 0, 0]))), (tw0, ArrP A .long (lV (([] : List (Int32 × Int64)).map Prod.snd ++ [0, 0, 0, 0])))] [] 3 11
  refine Go.if0 (B := B_law) td_law 56 (pc' := 105) rfl (by decide) rfl (fun _ => ?_) (fun (h : ¬ ((nI (cardN (absP []))) = 0)) => absurd rfl h)
  refine Go.run (B := B_law) td_law 59 2 (pc' := 109) (L' := [.val (.int xa), .val (.int xb), .val (.int xc), .val (.int xd), .val (.int xe), .val (.int xm), .val (.int n1), .val (.int n2), .val (.int n3), .val (.int n4), .val (.int n5), .val (.ref o), .unset, .unset]) (S' := [.int n1, .ref o]) rfl ?_
  obtain ⟨ps0, hps0⟩ : ∃ ps0 : List (Int32 × Int64), ps0 = [] := ⟨_, rfl⟩
  obtain ⟨zs0, hzs0⟩ : ∃ zs0 : List Int32, zs0 = [0, 0, 0, 0] := ⟨_, rfl⟩
  obtain ⟨zl0, hzl0⟩ : ∃ zl0 : List Int64, zl0 = [0, 0, 0, 0] := ⟨_, rfl⟩
  have a0 : Asc ps0 := by rw [hps0]; exact ⟨List.Pairwise.nil, fun q hq => by cases hq⟩
  have z0 : zs0.length = zl0.length := by rw [hzs0, hzl0]; rfl
  have l0 : ps0.length = 0 := by rw [hps0]; rfl
  have c0 : ps0.length + zs0.length = 4 := by rw [hps0, hzs0]; rfl
  rw [← hps0, ← hzs0, ← hzl0]
  show Go A B_law D _ 109 [.val (.int xa), .val (.int xb), .val (.int xc), .val (.int xd), .val (.int xe), .val (.int xm), .val (.int n1), .val (.int n2), .val (.int n3), .val (.int n4), .val (.int n5), .val (.ref o), .unset, .unset] [.int n1, .ref o] [(o, ObjP A "com/example/callweave/callweave/analysis/SparseBits" [("com/example/callweave/callweave/analysis/SparseBits", "indexes", "[I", .ref ti0), ("com/example/callweave/callweave/analysis/SparseBits", "words", "[J", .ref tw0), ("com/example/callweave/callweave/analysis/SparseBits", "count", "I", .int (nI ps0.length))]), (ti0, ArrP A .int (chV (ps0.map Prod.fst ++ zs0))), (tw0, ArrP A .long (lV (ps0.map Prod.snd ++ zl0)))] [] 3 11
  refine Go.callV (B := B_law) td_law 61 (B' := B_add) (C := "com/example/callweave/callweave/analysis/SparseBits") (a := o) (argsL := [.int n1]) (rest := []) (W := 0) rfl (add_met K (ps := ps0) a0 z0 (by omega)) (Or.inl (List.mem_of_getElem? (i := 0) rfl)) (fun c P => P.1) (w_22 K) (w_23 K) (w_24 K) (w_25 K) (w_25 K) (w_2 K) (w_26 K) (by decide) pd_add rfl rfl rfl rfl (Nat.le_of_eq rfl) (by decide) (by decide) (by decide) (by decide) ?_
  rintro _ _ _ ⟨⟨r1, rfl⟩, ⟨ps1, ti1, tw1, zs1, zl1, a1, m1, z1, c1, l1, rfl⟩, rfl⟩
  show Go A B_law D _ 112 [.val (.int xa), .val (.int xb), .val (.int xc), .val (.int xd), .val (.int xe), .val (.int xm), .val (.int n1), .val (.int n2), .val (.int n3), .val (.int n4), .val (.int n5), .val (.ref o), .unset, .unset] [.int r1] [(o, ObjP A "com/example/callweave/callweave/analysis/SparseBits" [("com/example/callweave/callweave/analysis/SparseBits", "indexes", "[I", .ref ti1), ("com/example/callweave/callweave/analysis/SparseBits", "words", "[J", .ref tw1), ("com/example/callweave/callweave/analysis/SparseBits", "count", "I", .int (nI ps1.length))]), (ti1, ArrP A .int (chV (ps1.map Prod.fst ++ zs1))), (tw1, ArrP A .long (lV (ps1.map Prod.snd ++ zl1)))] [] 5 25
  refine Go.run (B := B_law) td_law 62 3 (pc' := 117) (L' := [.val (.int xa), .val (.int xb), .val (.int xc), .val (.int xd), .val (.int xe), .val (.int xm), .val (.int n1), .val (.int n2), .val (.int n3), .val (.int n4), .val (.int n5), .val (.ref o), .unset, .unset]) (S' := [.int n2, .ref o]) rfl ?_
  refine Go.callV (B := B_law) td_law 65 (B' := B_add) (C := "com/example/callweave/callweave/analysis/SparseBits") (a := o) (argsL := [.int n2]) (rest := []) (W := 0) rfl (add_met K (ps := ps1) a1 z1 (by omega)) (Or.inl (List.mem_of_getElem? (i := 0) rfl)) (fun c P => P.1) (w_22 K) (w_23 K) (w_24 K) (w_25 K) (w_25 K) (w_2 K) (w_26 K) (by decide) pd_add rfl rfl rfl rfl (Nat.le_of_eq rfl) (by decide) (by decide) (by decide) (by decide) ?_
  rintro _ _ _ ⟨⟨r2, rfl⟩, ⟨ps2, ti2, tw2, zs2, zl2, a2, m2, z2, c2, l2, rfl⟩, rfl⟩
  show Go A B_law D _ 120 [.val (.int xa), .val (.int xb), .val (.int xc), .val (.int xd), .val (.int xe), .val (.int xm), .val (.int n1), .val (.int n2), .val (.int n3), .val (.int n4), .val (.int n5), .val (.ref o), .unset, .unset] [.int r2] [(o, ObjP A "com/example/callweave/callweave/analysis/SparseBits" [("com/example/callweave/callweave/analysis/SparseBits", "indexes", "[I", .ref ti2), ("com/example/callweave/callweave/analysis/SparseBits", "words", "[J", .ref tw2), ("com/example/callweave/callweave/analysis/SparseBits", "count", "I", .int (nI ps2.length))]), (ti2, ArrP A .int (chV (ps2.map Prod.fst ++ zs2))), (tw2, ArrP A .long (lV (ps2.map Prod.snd ++ zl2)))] [] 7 39
  refine Go.run (B := B_law) td_law 66 3 (pc' := 125) (L' := [.val (.int xa), .val (.int xb), .val (.int xc), .val (.int xd), .val (.int xe), .val (.int xm), .val (.int n1), .val (.int n2), .val (.int n3), .val (.int n4), .val (.int n5), .val (.ref o), .unset, .unset]) (S' := [.int n3, .ref o]) rfl ?_
  refine Go.callV (B := B_law) td_law 69 (B' := B_add) (C := "com/example/callweave/callweave/analysis/SparseBits") (a := o) (argsL := [.int n3]) (rest := []) (W := 0) rfl (add_met K (ps := ps2) a2 z2 (by omega)) (Or.inl (List.mem_of_getElem? (i := 0) rfl)) (fun c P => P.1) (w_22 K) (w_23 K) (w_24 K) (w_25 K) (w_25 K) (w_2 K) (w_26 K) (by decide) pd_add rfl rfl rfl rfl (Nat.le_of_eq rfl) (by decide) (by decide) (by decide) (by decide) ?_
  rintro _ _ _ ⟨⟨r3, rfl⟩, ⟨ps3, ti3, tw3, zs3, zl3, a3, m3, z3, c3, l3, rfl⟩, rfl⟩
  show Go A B_law D _ 128 [.val (.int xa), .val (.int xb), .val (.int xc), .val (.int xd), .val (.int xe), .val (.int xm), .val (.int n1), .val (.int n2), .val (.int n3), .val (.int n4), .val (.int n5), .val (.ref o), .unset, .unset] [.int r3] [(o, ObjP A "com/example/callweave/callweave/analysis/SparseBits" [("com/example/callweave/callweave/analysis/SparseBits", "indexes", "[I", .ref ti3), ("com/example/callweave/callweave/analysis/SparseBits", "words", "[J", .ref tw3), ("com/example/callweave/callweave/analysis/SparseBits", "count", "I", .int (nI ps3.length))]), (ti3, ArrP A .int (chV (ps3.map Prod.fst ++ zs3))), (tw3, ArrP A .long (lV (ps3.map Prod.snd ++ zl3)))] [] 9 53
  refine Go.run (B := B_law) td_law 70 1 (pc' := 129) (L' := [.val (.int xa), .val (.int xb), .val (.int xc), .val (.int xd), .val (.int xe), .val (.int xm), .val (.int n1), .val (.int n2), .val (.int n3), .val (.int n4), .val (.int n5), .val (.ref o), .unset, .unset]) (S' := []) rfl ?_
  have k3 : cardN (absP ps3) = 1 + (if n2 ≠ n1 then 1 else 0) + (if n3 ≠ n1 ∧ n3 ≠ n2 then 1 else 0) := by
    rw [m3, m2, m1, hps0]
    have q := card3 (a := tw_ n1) (b := tw_ n2) (c := tw_ n3) (tw_lt _) (tw_lt _) (tw_lt _)
    simp only [ne_eq, tw_inj] at q
    exact q
  exact t129 K a3 z3 (by omega) (by omega) m1 m2 m3 hps0 k3
--CUT
theorem own_entry {as' : Array Value} {n : Nat} {L : List Slot} (h : Jvm.Sym.laidSlots as'.toList ++ List.replicate (n - (Jvm.Sym.laidSlots as'.toList).length) .unset = L) (m : MethodId) : entryFrame m as' n = mkF m 0 L.toArray [] := by
  have e : argsToLocals as' n = L.toArray := Array.ext' (by rw [Jvm.Sym.argsToLocals_toList, h])
  show ({ method := m, pc := 0, locals := argsToLocals as' n, stack := [], locked := none } : JFrame) = _
  rw [e]
set_option maxRecDepth 65536 in
set_option maxHeartbeats 4000000 in
theorem law_met {A : Ax} (K : Wd A) (xa xb xc xd xe xm : Int32) : MetW tables_1 A B_law #[.int xa, .int xb, .int xc, .int xd, .int xe, .int xm] [] [] (fun v _ _ => v = some (.int 1)) := by
  refine MetW.of_go pn_law K.ew (L := [.val (.int xa), .val (.int xb), .val (.int xc), .val (.int xd), .val (.int xe), .val (.int xm), .unset, .unset, .unset, .unset, .unset, .unset, .unset, .unset]) (own_entry rfl) ?_
  intro D _
  refine Go.run (B := B_law) td_law 0 5 (pc' := 7) (L' := [.val (.int xa), .val (.int xb), .val (.int xc), .val (.int xd), .val (.int xe), .val (.int xm), .val (.int xa), .unset, .unset, .unset, .unset, .unset, .unset, .unset]) (S' := [.int (xm &&& (1 : Int32))]) rfl ?_
  refine Go.if0 (B := B_law) td_law 5 (pc' := 20) rfl (by decide) rfl ?_ ?_
  · intro (h0 : (xm &&& (1 : Int32)) = 0)
    refine Go.run (B := B_law) td_law 12 1 (pc' := 21) (L' := [.val (.int xa), .val (.int xb), .val (.int xc), .val (.int xd), .val (.int xe), .val (.int xm), .val (.int xa), .unset, .unset, .unset, .unset, .unset, .unset, .unset]) (S' := [.int xb]) rfl ?_
    refine Go.run (B := B_law) td_law 13 4 (pc' := 27) (L' := [.val (.int xa), .val (.int xb), .val (.int xc), .val (.int xd), .val (.int xe), .val (.int xm), .val (.int xa), .val (.int xb), .unset, .unset, .unset, .unset, .unset, .unset]) (S' := [.int (xm &&& (2 : Int32))]) rfl ?_
    refine Go.if0 (B := B_law) td_law 17 (pc' := 40) rfl (by decide) rfl ?_ ?_
    · intro (h1 : (xm &&& (2 : Int32)) = 0)
      refine Go.run (B := B_law) td_law 24 1 (pc' := 41) (L' := [.val (.int xa), .val (.int xb), .val (.int xc), .val (.int xd), .val (.int xe), .val (.int xm), .val (.int xa), .val (.int xb), .unset, .unset, .unset, .unset, .unset, .unset]) (S' := [.int xc]) rfl ?_
      refine Go.run (B := B_law) td_law 25 4 (pc' := 47) (L' := [.val (.int xa), .val (.int xb), .val (.int xc), .val (.int xd), .val (.int xe), .val (.int xm), .val (.int xa), .val (.int xb), .val (.int xc), .unset, .unset, .unset, .unset, .unset]) (S' := [.int (xm &&& (4 : Int32))]) rfl ?_
      refine Go.if0 (B := B_law) td_law 29 (pc' := 60) rfl (by decide) rfl ?_ ?_
      · intro (h2 : (xm &&& (4 : Int32)) = 0)
        refine Go.run (B := B_law) td_law 36 1 (pc' := 61) (L' := [.val (.int xa), .val (.int xb), .val (.int xc), .val (.int xd), .val (.int xe), .val (.int xm), .val (.int xa), .val (.int xb), .val (.int xc), .unset, .unset, .unset, .unset, .unset]) (S' := [.int xd]) rfl ?_
        refine Go.run (B := B_law) td_law 37 4 (pc' := 68) (L' := [.val (.int xa), .val (.int xb), .val (.int xc), .val (.int xd), .val (.int xe), .val (.int xm), .val (.int xa), .val (.int xb), .val (.int xc), .val (.int xd), .unset, .unset, .unset, .unset]) (S' := [.int (xm &&& (8 : Int32))]) rfl ?_
        refine Go.if0 (B := B_law) td_law 41 (pc' := 82) rfl (by decide) rfl ?_ ?_
        · intro (h3 : (xm &&& (8 : Int32)) = 0)
          refine Go.run (B := B_law) td_law 48 1 (pc' := 84) (L' := [.val (.int xa), .val (.int xb), .val (.int xc), .val (.int xd), .val (.int xe), .val (.int xm), .val (.int xa), .val (.int xb), .val (.int xc), .val (.int xd), .unset, .unset, .unset, .unset]) (S' := [.int xe]) rfl ?_
          refine Go.run (B := B_law) td_law 49 1 (pc' := 86) (L' := [.val (.int xa), .val (.int xb), .val (.int xc), .val (.int xd), .val (.int xe), .val (.int xm), .val (.int xa), .val (.int xb), .val (.int xc), .val (.int xd), .val (.int xe), .unset, .unset, .unset]) (S' := []) rfl ?_
          exact t86 K
        · intro (h3 : ¬ ((xm &&& (8 : Int32)) = 0))
          refine Go.run (B := B_law) td_law 42 6 (pc' := 84) (L' := [.val (.int xa), .val (.int xb), .val (.int xc), .val (.int xd), .val (.int xe), .val (.int xm), .val (.int xa), .val (.int xb), .val (.int xc), .val (.int xd), .unset, .unset, .unset, .unset]) (S' := [.int (xc ^^^ (xe &&& (63 : Int32)))]) rfl ?_
          refine Go.run (B := B_law) td_law 49 1 (pc' := 86) (L' := [.val (.int xa), .val (.int xb), .val (.int xc), .val (.int xd), .val (.int xe), .val (.int xm), .val (.int xa), .val (.int xb), .val (.int xc), .val (.int xd), .val (.int (xc ^^^ (xe &&& (63 : Int32)))), .unset, .unset, .unset]) (S' := []) rfl ?_
          exact t86 K
      · intro (h2 : ¬ ((xm &&& (4 : Int32)) = 0))
        refine Go.run (B := B_law) td_law 30 6 (pc' := 61) (L' := [.val (.int xa), .val (.int xb), .val (.int xc), .val (.int xd), .val (.int xe), .val (.int xm), .val (.int xa), .val (.int xb), .val (.int xc), .unset, .unset, .unset, .unset, .unset]) (S' := [.int (xa ^^^ (xd &&& (63 : Int32)))]) rfl ?_
        refine Go.run (B := B_law) td_law 37 4 (pc' := 68) (L' := [.val (.int xa), .val (.int xb), .val (.int xc), .val (.int xd), .val (.int xe), .val (.int xm), .val (.int xa), .val (.int xb), .val (.int xc), .val (.int (xa ^^^ (xd &&& (63 : Int32)))), .unset, .unset, .unset, .unset]) (S' := [.int (xm &&& (8 : Int32))]) rfl ?_
        refine Go.if0 (B := B_law) td_law 41 (pc' := 82) rfl (by decide) rfl ?_ ?_
        · intro (h3 : (xm &&& (8 : Int32)) = 0)
          refine Go.run (B := B_law) td_law 48 1 (pc' := 84) (L' := [.val (.int xa), .val (.int xb), .val (.int xc), .val (.int xd), .val (.int xe), .val (.int xm), .val (.int xa), .val (.int xb), .val (.int xc), .val (.int (xa ^^^ (xd &&& (63 : Int32)))), .unset, .unset, .unset, .unset]) (S' := [.int xe]) rfl ?_
          refine Go.run (B := B_law) td_law 49 1 (pc' := 86) (L' := [.val (.int xa), .val (.int xb), .val (.int xc), .val (.int xd), .val (.int xe), .val (.int xm), .val (.int xa), .val (.int xb), .val (.int xc), .val (.int (xa ^^^ (xd &&& (63 : Int32)))), .val (.int xe), .unset, .unset, .unset]) (S' := []) rfl ?_
          exact t86 K
        · intro (h3 : ¬ ((xm &&& (8 : Int32)) = 0))
          refine Go.run (B := B_law) td_law 42 6 (pc' := 84) (L' := [.val (.int xa), .val (.int xb), .val (.int xc), .val (.int xd), .val (.int xe), .val (.int xm), .val (.int xa), .val (.int xb), .val (.int xc), .val (.int (xa ^^^ (xd &&& (63 : Int32)))), .unset, .unset, .unset, .unset]) (S' := [.int (xc ^^^ (xe &&& (63 : Int32)))]) rfl ?_
          refine Go.run (B := B_law) td_law 49 1 (pc' := 86) (L' := [.val (.int xa), .val (.int xb), .val (.int xc), .val (.int xd), .val (.int xe), .val (.int xm), .val (.int xa), .val (.int xb), .val (.int xc), .val (.int (xa ^^^ (xd &&& (63 : Int32)))), .val (.int (xc ^^^ (xe &&& (63 : Int32)))), .unset, .unset, .unset]) (S' := []) rfl ?_
          exact t86 K
    · intro (h1 : ¬ ((xm &&& (2 : Int32)) = 0))
      refine Go.run (B := B_law) td_law 18 6 (pc' := 41) (L' := [.val (.int xa), .val (.int xb), .val (.int xc), .val (.int xd), .val (.int xe), .val (.int xm), .val (.int xa), .val (.int xb), .unset, .unset, .unset, .unset, .unset, .unset]) (S' := [.int (xb ^^^ (xc &&& (63 : Int32)))]) rfl ?_
      refine Go.run (B := B_law) td_law 25 4 (pc' := 47) (L' := [.val (.int xa), .val (.int xb), .val (.int xc), .val (.int xd), .val (.int xe), .val (.int xm), .val (.int xa), .val (.int xb), .val (.int (xb ^^^ (xc &&& (63 : Int32)))), .unset, .unset, .unset, .unset, .unset]) (S' := [.int (xm &&& (4 : Int32))]) rfl ?_
      refine Go.if0 (B := B_law) td_law 29 (pc' := 60) rfl (by decide) rfl ?_ ?_
      · intro (h2 : (xm &&& (4 : Int32)) = 0)
        refine Go.run (B := B_law) td_law 36 1 (pc' := 61) (L' := [.val (.int xa), .val (.int xb), .val (.int xc), .val (.int xd), .val (.int xe), .val (.int xm), .val (.int xa), .val (.int xb), .val (.int (xb ^^^ (xc &&& (63 : Int32)))), .unset, .unset, .unset, .unset, .unset]) (S' := [.int xd]) rfl ?_
        refine Go.run (B := B_law) td_law 37 4 (pc' := 68) (L' := [.val (.int xa), .val (.int xb), .val (.int xc), .val (.int xd), .val (.int xe), .val (.int xm), .val (.int xa), .val (.int xb), .val (.int (xb ^^^ (xc &&& (63 : Int32)))), .val (.int xd), .unset, .unset, .unset, .unset]) (S' := [.int (xm &&& (8 : Int32))]) rfl ?_
        refine Go.if0 (B := B_law) td_law 41 (pc' := 82) rfl (by decide) rfl ?_ ?_
        · intro (h3 : (xm &&& (8 : Int32)) = 0)
          refine Go.run (B := B_law) td_law 48 1 (pc' := 84) (L' := [.val (.int xa), .val (.int xb), .val (.int xc), .val (.int xd), .val (.int xe), .val (.int xm), .val (.int xa), .val (.int xb), .val (.int (xb ^^^ (xc &&& (63 : Int32)))), .val (.int xd), .unset, .unset, .unset, .unset]) (S' := [.int xe]) rfl ?_
          refine Go.run (B := B_law) td_law 49 1 (pc' := 86) (L' := [.val (.int xa), .val (.int xb), .val (.int xc), .val (.int xd), .val (.int xe), .val (.int xm), .val (.int xa), .val (.int xb), .val (.int (xb ^^^ (xc &&& (63 : Int32)))), .val (.int xd), .val (.int xe), .unset, .unset, .unset]) (S' := []) rfl ?_
          exact t86 K
        · intro (h3 : ¬ ((xm &&& (8 : Int32)) = 0))
          refine Go.run (B := B_law) td_law 42 6 (pc' := 84) (L' := [.val (.int xa), .val (.int xb), .val (.int xc), .val (.int xd), .val (.int xe), .val (.int xm), .val (.int xa), .val (.int xb), .val (.int (xb ^^^ (xc &&& (63 : Int32)))), .val (.int xd), .unset, .unset, .unset, .unset]) (S' := [.int ((xb ^^^ (xc &&& (63 : Int32))) ^^^ (xe &&& (63 : Int32)))]) rfl ?_
          refine Go.run (B := B_law) td_law 49 1 (pc' := 86) (L' := [.val (.int xa), .val (.int xb), .val (.int xc), .val (.int xd), .val (.int xe), .val (.int xm), .val (.int xa), .val (.int xb), .val (.int (xb ^^^ (xc &&& (63 : Int32)))), .val (.int xd), .val (.int ((xb ^^^ (xc &&& (63 : Int32))) ^^^ (xe &&& (63 : Int32)))), .unset, .unset, .unset]) (S' := []) rfl ?_
          exact t86 K
      · intro (h2 : ¬ ((xm &&& (4 : Int32)) = 0))
        refine Go.run (B := B_law) td_law 30 6 (pc' := 61) (L' := [.val (.int xa), .val (.int xb), .val (.int xc), .val (.int xd), .val (.int xe), .val (.int xm), .val (.int xa), .val (.int xb), .val (.int (xb ^^^ (xc &&& (63 : Int32)))), .unset, .unset, .unset, .unset, .unset]) (S' := [.int (xa ^^^ (xd &&& (63 : Int32)))]) rfl ?_
        refine Go.run (B := B_law) td_law 37 4 (pc' := 68) (L' := [.val (.int xa), .val (.int xb), .val (.int xc), .val (.int xd), .val (.int xe), .val (.int xm), .val (.int xa), .val (.int xb), .val (.int (xb ^^^ (xc &&& (63 : Int32)))), .val (.int (xa ^^^ (xd &&& (63 : Int32)))), .unset, .unset, .unset, .unset]) (S' := [.int (xm &&& (8 : Int32))]) rfl ?_
        refine Go.if0 (B := B_law) td_law 41 (pc' := 82) rfl (by decide) rfl ?_ ?_
        · intro (h3 : (xm &&& (8 : Int32)) = 0)
          refine Go.run (B := B_law) td_law 48 1 (pc' := 84) (L' := [.val (.int xa), .val (.int xb), .val (.int xc), .val (.int xd), .val (.int xe), .val (.int xm), .val (.int xa), .val (.int xb), .val (.int (xb ^^^ (xc &&& (63 : Int32)))), .val (.int (xa ^^^ (xd &&& (63 : Int32)))), .unset, .unset, .unset, .unset]) (S' := [.int xe]) rfl ?_
          refine Go.run (B := B_law) td_law 49 1 (pc' := 86) (L' := [.val (.int xa), .val (.int xb), .val (.int xc), .val (.int xd), .val (.int xe), .val (.int xm), .val (.int xa), .val (.int xb), .val (.int (xb ^^^ (xc &&& (63 : Int32)))), .val (.int (xa ^^^ (xd &&& (63 : Int32)))), .val (.int xe), .unset, .unset, .unset]) (S' := []) rfl ?_
          exact t86 K
        · intro (h3 : ¬ ((xm &&& (8 : Int32)) = 0))
          refine Go.run (B := B_law) td_law 42 6 (pc' := 84) (L' := [.val (.int xa), .val (.int xb), .val (.int xc), .val (.int xd), .val (.int xe), .val (.int xm), .val (.int xa), .val (.int xb), .val (.int (xb ^^^ (xc &&& (63 : Int32)))), .val (.int (xa ^^^ (xd &&& (63 : Int32)))), .unset, .unset, .unset, .unset]) (S' := [.int ((xb ^^^ (xc &&& (63 : Int32))) ^^^ (xe &&& (63 : Int32)))]) rfl ?_
          refine Go.run (B := B_law) td_law 49 1 (pc' := 86) (L' := [.val (.int xa), .val (.int xb), .val (.int xc), .val (.int xd), .val (.int xe), .val (.int xm), .val (.int xa), .val (.int xb), .val (.int (xb ^^^ (xc &&& (63 : Int32)))), .val (.int (xa ^^^ (xd &&& (63 : Int32)))), .val (.int ((xb ^^^ (xc &&& (63 : Int32))) ^^^ (xe &&& (63 : Int32)))), .unset, .unset, .unset]) (S' := []) rfl ?_
          exact t86 K
  · intro (h0 : ¬ ((xm &&& (1 : Int32)) = 0))
    refine Go.run (B := B_law) td_law 6 6 (pc' := 21) (L' := [.val (.int xa), .val (.int xb), .val (.int xc), .val (.int xd), .val (.int xe), .val (.int xm), .val (.int xa), .unset, .unset, .unset, .unset, .unset, .unset, .unset]) (S' := [.int (xa ^^^ (xb &&& (63 : Int32)))]) rfl ?_
    refine Go.run (B := B_law) td_law 13 4 (pc' := 27) (L' := [.val (.int xa), .val (.int xb), .val (.int xc), .val (.int xd), .val (.int xe), .val (.int xm), .val (.int xa), .val (.int (xa ^^^ (xb &&& (63 : Int32)))), .unset, .unset, .unset, .unset, .unset, .unset]) (S' := [.int (xm &&& (2 : Int32))]) rfl ?_
    refine Go.if0 (B := B_law) td_law 17 (pc' := 40) rfl (by decide) rfl ?_ ?_
    · intro (h1 : (xm &&& (2 : Int32)) = 0)
      refine Go.run (B := B_law) td_law 24 1 (pc' := 41) (L' := [.val (.int xa), .val (.int xb), .val (.int xc), .val (.int xd), .val (.int xe), .val (.int xm), .val (.int xa), .val (.int (xa ^^^ (xb &&& (63 : Int32)))), .unset, .unset, .unset, .unset, .unset, .unset]) (S' := [.int xc]) rfl ?_
      refine Go.run (B := B_law) td_law 25 4 (pc' := 47) (L' := [.val (.int xa), .val (.int xb), .val (.int xc), .val (.int xd), .val (.int xe), .val (.int xm), .val (.int xa), .val (.int (xa ^^^ (xb &&& (63 : Int32)))), .val (.int xc), .unset, .unset, .unset, .unset, .unset]) (S' := [.int (xm &&& (4 : Int32))]) rfl ?_
      refine Go.if0 (B := B_law) td_law 29 (pc' := 60) rfl (by decide) rfl ?_ ?_
      · intro (h2 : (xm &&& (4 : Int32)) = 0)
        refine Go.run (B := B_law) td_law 36 1 (pc' := 61) (L' := [.val (.int xa), .val (.int xb), .val (.int xc), .val (.int xd), .val (.int xe), .val (.int xm), .val (.int xa), .val (.int (xa ^^^ (xb &&& (63 : Int32)))), .val (.int xc), .unset, .unset, .unset, .unset, .unset]) (S' := [.int xd]) rfl ?_
        refine Go.run (B := B_law) td_law 37 4 (pc' := 68) (L' := [.val (.int xa), .val (.int xb), .val (.int xc), .val (.int xd), .val (.int xe), .val (.int xm), .val (.int xa), .val (.int (xa ^^^ (xb &&& (63 : Int32)))), .val (.int xc), .val (.int xd), .unset, .unset, .unset, .unset]) (S' := [.int (xm &&& (8 : Int32))]) rfl ?_
        refine Go.if0 (B := B_law) td_law 41 (pc' := 82) rfl (by decide) rfl ?_ ?_
        · intro (h3 : (xm &&& (8 : Int32)) = 0)
          refine Go.run (B := B_law) td_law 48 1 (pc' := 84) (L' := [.val (.int xa), .val (.int xb), .val (.int xc), .val (.int xd), .val (.int xe), .val (.int xm), .val (.int xa), .val (.int (xa ^^^ (xb &&& (63 : Int32)))), .val (.int xc), .val (.int xd), .unset, .unset, .unset, .unset]) (S' := [.int xe]) rfl ?_
          refine Go.run (B := B_law) td_law 49 1 (pc' := 86) (L' := [.val (.int xa), .val (.int xb), .val (.int xc), .val (.int xd), .val (.int xe), .val (.int xm), .val (.int xa), .val (.int (xa ^^^ (xb &&& (63 : Int32)))), .val (.int xc), .val (.int xd), .val (.int xe), .unset, .unset, .unset]) (S' := []) rfl ?_
          exact t86 K
        · intro (h3 : ¬ ((xm &&& (8 : Int32)) = 0))
          refine Go.run (B := B_law) td_law 42 6 (pc' := 84) (L' := [.val (.int xa), .val (.int xb), .val (.int xc), .val (.int xd), .val (.int xe), .val (.int xm), .val (.int xa), .val (.int (xa ^^^ (xb &&& (63 : Int32)))), .val (.int xc), .val (.int xd), .unset, .unset, .unset, .unset]) (S' := [.int (xc ^^^ (xe &&& (63 : Int32)))]) rfl ?_
          refine Go.run (B := B_law) td_law 49 1 (pc' := 86) (L' := [.val (.int xa), .val (.int xb), .val (.int xc), .val (.int xd), .val (.int xe), .val (.int xm), .val (.int xa), .val (.int (xa ^^^ (xb &&& (63 : Int32)))), .val (.int xc), .val (.int xd), .val (.int (xc ^^^ (xe &&& (63 : Int32)))), .unset, .unset, .unset]) (S' := []) rfl ?_
          exact t86 K
      · intro (h2 : ¬ ((xm &&& (4 : Int32)) = 0))
        refine Go.run (B := B_law) td_law 30 6 (pc' := 61) (L' := [.val (.int xa), .val (.int xb), .val (.int xc), .val (.int xd), .val (.int xe), .val (.int xm), .val (.int xa), .val (.int (xa ^^^ (xb &&& (63 : Int32)))), .val (.int xc), .unset, .unset, .unset, .unset, .unset]) (S' := [.int (xa ^^^ (xd &&& (63 : Int32)))]) rfl ?_
        refine Go.run (B := B_law) td_law 37 4 (pc' := 68) (L' := [.val (.int xa), .val (.int xb), .val (.int xc), .val (.int xd), .val (.int xe), .val (.int xm), .val (.int xa), .val (.int (xa ^^^ (xb &&& (63 : Int32)))), .val (.int xc), .val (.int (xa ^^^ (xd &&& (63 : Int32)))), .unset, .unset, .unset, .unset]) (S' := [.int (xm &&& (8 : Int32))]) rfl ?_
        refine Go.if0 (B := B_law) td_law 41 (pc' := 82) rfl (by decide) rfl ?_ ?_
        · intro (h3 : (xm &&& (8 : Int32)) = 0)
          refine Go.run (B := B_law) td_law 48 1 (pc' := 84) (L' := [.val (.int xa), .val (.int xb), .val (.int xc), .val (.int xd), .val (.int xe), .val (.int xm), .val (.int xa), .val (.int (xa ^^^ (xb &&& (63 : Int32)))), .val (.int xc), .val (.int (xa ^^^ (xd &&& (63 : Int32)))), .unset, .unset, .unset, .unset]) (S' := [.int xe]) rfl ?_
          refine Go.run (B := B_law) td_law 49 1 (pc' := 86) (L' := [.val (.int xa), .val (.int xb), .val (.int xc), .val (.int xd), .val (.int xe), .val (.int xm), .val (.int xa), .val (.int (xa ^^^ (xb &&& (63 : Int32)))), .val (.int xc), .val (.int (xa ^^^ (xd &&& (63 : Int32)))), .val (.int xe), .unset, .unset, .unset]) (S' := []) rfl ?_
          exact t86 K
        · intro (h3 : ¬ ((xm &&& (8 : Int32)) = 0))
          refine Go.run (B := B_law) td_law 42 6 (pc' := 84) (L' := [.val (.int xa), .val (.int xb), .val (.int xc), .val (.int xd), .val (.int xe), .val (.int xm), .val (.int xa), .val (.int (xa ^^^ (xb &&& (63 : Int32)))), .val (.int xc), .val (.int (xa ^^^ (xd &&& (63 : Int32)))), .unset, .unset, .unset, .unset]) (S' := [.int (xc ^^^ (xe &&& (63 : Int32)))]) rfl ?_
          refine Go.run (B := B_law) td_law 49 1 (pc' := 86) (L' := [.val (.int xa), .val (.int xb), .val (.int xc), .val (.int xd), .val (.int xe), .val (.int xm), .val (.int xa), .val (.int (xa ^^^ (xb &&& (63 : Int32)))), .val (.int xc), .val (.int (xa ^^^ (xd &&& (63 : Int32)))), .val (.int (xc ^^^ (xe &&& (63 : Int32)))), .unset, .unset, .unset]) (S' := []) rfl ?_
          exact t86 K
    · intro (h1 : ¬ ((xm &&& (2 : Int32)) = 0))
      refine Go.run (B := B_law) td_law 18 6 (pc' := 41) (L' := [.val (.int xa), .val (.int xb), .val (.int xc), .val (.int xd), .val (.int xe), .val (.int xm), .val (.int xa), .val (.int (xa ^^^ (xb &&& (63 : Int32)))), .unset, .unset, .unset, .unset, .unset, .unset]) (S' := [.int ((xa ^^^ (xb &&& (63 : Int32))) ^^^ (xc &&& (63 : Int32)))]) rfl ?_
      refine Go.run (B := B_law) td_law 25 4 (pc' := 47) (L' := [.val (.int xa), .val (.int xb), .val (.int xc), .val (.int xd), .val (.int xe), .val (.int xm), .val (.int xa), .val (.int (xa ^^^ (xb &&& (63 : Int32)))), .val (.int ((xa ^^^ (xb &&& (63 : Int32))) ^^^ (xc &&& (63 : Int32)))), .unset, .unset, .unset, .unset, .unset]) (S' := [.int (xm &&& (4 : Int32))]) rfl ?_
      refine Go.if0 (B := B_law) td_law 29 (pc' := 60) rfl (by decide) rfl ?_ ?_
      · intro (h2 : (xm &&& (4 : Int32)) = 0)
        refine Go.run (B := B_law) td_law 36 1 (pc' := 61) (L' := [.val (.int xa), .val (.int xb), .val (.int xc), .val (.int xd), .val (.int xe), .val (.int xm), .val (.int xa), .val (.int (xa ^^^ (xb &&& (63 : Int32)))), .val (.int ((xa ^^^ (xb &&& (63 : Int32))) ^^^ (xc &&& (63 : Int32)))), .unset, .unset, .unset, .unset, .unset]) (S' := [.int xd]) rfl ?_
        refine Go.run (B := B_law) td_law 37 4 (pc' := 68) (L' := [.val (.int xa), .val (.int xb), .val (.int xc), .val (.int xd), .val (.int xe), .val (.int xm), .val (.int xa), .val (.int (xa ^^^ (xb &&& (63 : Int32)))), .val (.int ((xa ^^^ (xb &&& (63 : Int32))) ^^^ (xc &&& (63 : Int32)))), .val (.int xd), .unset, .unset, .unset, .unset]) (S' := [.int (xm &&& (8 : Int32))]) rfl ?_
        refine Go.if0 (B := B_law) td_law 41 (pc' := 82) rfl (by decide) rfl ?_ ?_
        · intro (h3 : (xm &&& (8 : Int32)) = 0)
          refine Go.run (B := B_law) td_law 48 1 (pc' := 84) (L' := [.val (.int xa), .val (.int xb), .val (.int xc), .val (.int xd), .val (.int xe), .val (.int xm), .val (.int xa), .val (.int (xa ^^^ (xb &&& (63 : Int32)))), .val (.int ((xa ^^^ (xb &&& (63 : Int32))) ^^^ (xc &&& (63 : Int32)))), .val (.int xd), .unset, .unset, .unset, .unset]) (S' := [.int xe]) rfl ?_
          refine Go.run (B := B_law) td_law 49 1 (pc' := 86) (L' := [.val (.int xa), .val (.int xb), .val (.int xc), .val (.int xd), .val (.int xe), .val (.int xm), .val (.int xa), .val (.int (xa ^^^ (xb &&& (63 : Int32)))), .val (.int ((xa ^^^ (xb &&& (63 : Int32))) ^^^ (xc &&& (63 : Int32)))), .val (.int xd), .val (.int xe), .unset, .unset, .unset]) (S' := []) rfl ?_
          exact t86 K
        · intro (h3 : ¬ ((xm &&& (8 : Int32)) = 0))
          refine Go.run (B := B_law) td_law 42 6 (pc' := 84) (L' := [.val (.int xa), .val (.int xb), .val (.int xc), .val (.int xd), .val (.int xe), .val (.int xm), .val (.int xa), .val (.int (xa ^^^ (xb &&& (63 : Int32)))), .val (.int ((xa ^^^ (xb &&& (63 : Int32))) ^^^ (xc &&& (63 : Int32)))), .val (.int xd), .unset, .unset, .unset, .unset]) (S' := [.int (((xa ^^^ (xb &&& (63 : Int32))) ^^^ (xc &&& (63 : Int32))) ^^^ (xe &&& (63 : Int32)))]) rfl ?_
          refine Go.run (B := B_law) td_law 49 1 (pc' := 86) (L' := [.val (.int xa), .val (.int xb), .val (.int xc), .val (.int xd), .val (.int xe), .val (.int xm), .val (.int xa), .val (.int (xa ^^^ (xb &&& (63 : Int32)))), .val (.int ((xa ^^^ (xb &&& (63 : Int32))) ^^^ (xc &&& (63 : Int32)))), .val (.int xd), .val (.int (((xa ^^^ (xb &&& (63 : Int32))) ^^^ (xc &&& (63 : Int32))) ^^^ (xe &&& (63 : Int32)))), .unset, .unset, .unset]) (S' := []) rfl ?_
          exact t86 K
      · intro (h2 : ¬ ((xm &&& (4 : Int32)) = 0))
        refine Go.run (B := B_law) td_law 30 6 (pc' := 61) (L' := [.val (.int xa), .val (.int xb), .val (.int xc), .val (.int xd), .val (.int xe), .val (.int xm), .val (.int xa), .val (.int (xa ^^^ (xb &&& (63 : Int32)))), .val (.int ((xa ^^^ (xb &&& (63 : Int32))) ^^^ (xc &&& (63 : Int32)))), .unset, .unset, .unset, .unset, .unset]) (S' := [.int (xa ^^^ (xd &&& (63 : Int32)))]) rfl ?_
        refine Go.run (B := B_law) td_law 37 4 (pc' := 68) (L' := [.val (.int xa), .val (.int xb), .val (.int xc), .val (.int xd), .val (.int xe), .val (.int xm), .val (.int xa), .val (.int (xa ^^^ (xb &&& (63 : Int32)))), .val (.int ((xa ^^^ (xb &&& (63 : Int32))) ^^^ (xc &&& (63 : Int32)))), .val (.int (xa ^^^ (xd &&& (63 : Int32)))), .unset, .unset, .unset, .unset]) (S' := [.int (xm &&& (8 : Int32))]) rfl ?_
        refine Go.if0 (B := B_law) td_law 41 (pc' := 82) rfl (by decide) rfl ?_ ?_
        · intro (h3 : (xm &&& (8 : Int32)) = 0)
          refine Go.run (B := B_law) td_law 48 1 (pc' := 84) (L' := [.val (.int xa), .val (.int xb), .val (.int xc), .val (.int xd), .val (.int xe), .val (.int xm), .val (.int xa), .val (.int (xa ^^^ (xb &&& (63 : Int32)))), .val (.int ((xa ^^^ (xb &&& (63 : Int32))) ^^^ (xc &&& (63 : Int32)))), .val (.int (xa ^^^ (xd &&& (63 : Int32)))), .unset, .unset, .unset, .unset]) (S' := [.int xe]) rfl ?_
          refine Go.run (B := B_law) td_law 49 1 (pc' := 86) (L' := [.val (.int xa), .val (.int xb), .val (.int xc), .val (.int xd), .val (.int xe), .val (.int xm), .val (.int xa), .val (.int (xa ^^^ (xb &&& (63 : Int32)))), .val (.int ((xa ^^^ (xb &&& (63 : Int32))) ^^^ (xc &&& (63 : Int32)))), .val (.int (xa ^^^ (xd &&& (63 : Int32)))), .val (.int xe), .unset, .unset, .unset]) (S' := []) rfl ?_
          exact t86 K
        · intro (h3 : ¬ ((xm &&& (8 : Int32)) = 0))
          refine Go.run (B := B_law) td_law 42 6 (pc' := 84) (L' := [.val (.int xa), .val (.int xb), .val (.int xc), .val (.int xd), .val (.int xe), .val (.int xm), .val (.int xa), .val (.int (xa ^^^ (xb &&& (63 : Int32)))), .val (.int ((xa ^^^ (xb &&& (63 : Int32))) ^^^ (xc &&& (63 : Int32)))), .val (.int (xa ^^^ (xd &&& (63 : Int32)))), .unset, .unset, .unset, .unset]) (S' := [.int (((xa ^^^ (xb &&& (63 : Int32))) ^^^ (xc &&& (63 : Int32))) ^^^ (xe &&& (63 : Int32)))]) rfl ?_
          refine Go.run (B := B_law) td_law 49 1 (pc' := 86) (L' := [.val (.int xa), .val (.int xb), .val (.int xc), .val (.int xd), .val (.int xe), .val (.int xm), .val (.int xa), .val (.int (xa ^^^ (xb &&& (63 : Int32)))), .val (.int ((xa ^^^ (xb &&& (63 : Int32))) ^^^ (xc &&& (63 : Int32)))), .val (.int (xa ^^^ (xd &&& (63 : Int32)))), .val (.int (((xa ^^^ (xb &&& (63 : Int32))) ^^^ (xc &&& (63 : Int32))) ^^^ (xe &&& (63 : Int32)))), .unset, .unset, .unset]) (S' := []) rfl ?_
          exact t86 K
--CUT
set_option maxRecDepth 65536 in
set_option maxHeartbeats 4000000 in
theorem comes_1 {Post : Tables → Env → Array Value → State → Outcome → State → Prop} (hpost : ∀ tb e args s v u, (limb_1_1.after args s (.returned v) u = true ∧ limb_1_2.after args s (.returned v) u = true ∧ True) → Framed s (.returned v) u (Jvm.fieldLocs frame_1_writes args s ++ Jvm.arrayLocs frame_1_arrays args s ++ Jvm.staticLocs frame_1_statics s) 24 128 → Post tb e args s (.returned v) u) :
    ArmFor flags0 classFile x code maxLocals ret World_1 tables_1 room_1 Calls_1 rest_1 Pre_1 Post := by
  intro l hfl _ _ p e ha hc hk s m args below hf hA hF happ hP
  obtain ⟨hcalls, hrest, hpre⟩ := hP
  obtain ⟨-, -, -, hnamed, -, -, -, hat⟩ := (Spec.applies_iff hf).mp happ
  obtain ⟨hg, hn⟩ := and_e (Cond.before_iff.mp (show (Jvm.Cond.and given_1 narrow_1).before args s = true from hpre))
  obtain ⟨h1, g0⟩ := and_e hg
  obtain ⟨q0, g1⟩ := and_e g0
  obtain ⟨q1, g2⟩ := and_e g1
  obtain ⟨q2, g3⟩ := and_e g2
  obtain ⟨q3, g4⟩ := and_e g3
  obtain ⟨q4, g5⟩ := and_e g4
  have q5 := g5
  obtain ⟨w0, w1, w2, w3, w4, w5, rfl⟩ : ∃ w0 w1 w2 w3 w4 w5 : Value, args = #[w0, w1, w2, w3, w4, w5] := by
    have hs : args.size = 6 := by simpa [Cond.value, given_1] using h1
    obtain ⟨L⟩ := args
    match L, hs with
    | [w0, w1, w2, w3, w4, w5], _ => exact ⟨w0, w1, w2, w3, w4, w5, rfl⟩
  have hw := fun d (hd : d ∈ tables_1) => atoms_spec (ws := Jvm.Cond.code x code maxLocals ret :: tables_1) hat d (List.mem_cons_of_mem _ hd)
  obtain ⟨i0, e0⟩ := is_v q0
  obtain rfl : w0 = (.int i0) := Option.some.inj e0
  obtain ⟨i1, e1⟩ := is_v q1
  obtain rfl : w1 = (.int i1) := Option.some.inj e1
  obtain ⟨i2, e2⟩ := is_v q2
  obtain rfl : w2 = (.int i2) := Option.some.inj e2
  obtain ⟨i3, e3⟩ := is_v q3
  obtain rfl : w3 = (.int i3) := Option.some.inj e3
  obtain ⟨i4, e4⟩ := is_v q4
  obtain rfl : w4 = (.int i4) := Option.some.inj e4
  obtain ⟨i5, e5⟩ := is_v q5
  obtain rfl : w5 = (.int i5) := Option.some.inj e5
  let A : Ax := (l, s, #[.int i0, .int i1, .int i2, .int i3, .int i4, .int i5], [], false)
  have hEW : EW s A.a0 [] := EW.nil
  have K : Wd A := ⟨hw, hEW, rfl, rfl⟩
  have hC : CHv s [] s.vm s.heap := fun _ q => nomatch q
  have H : Hp s [] s.vm s.heap [] [] := ⟨own_ext_refl _, fun _ q => (nomatch q), fun _ q => (nomatch q), List.nodup_nil, fun _ q => (nomatch q)⟩
  obtain ⟨n, o, h1, h2, h3, v, L, F', G', rfl, rfl, -, hN, -, hq⟩ := law_met K i0 i1 i2 i3 i4 i5 p e ha hc hk s m _ below hf ((Spec.applies_iff_loose hf).mp happ).1 ⟨rfl, State.Warmed39.refl s, hC, H⟩ trivial
  refine ⟨n, _, h1, h2, h3, hpost _ _ _ _ _ _ ⟨Cond.after_iff.mpr rfl, Cond.after_iff.mpr (eq_i res_at (Term.int_eval (1)) rfl), trivial⟩ ⟨hq.1, hN.2 rfl, (hq.2.2.2.sift fun y hy => Or.inr (hN.1 y hy)).mono (by decide) (by decide)⟩⟩
theorem main_1_1 : Claimed_1_1 := comes_1 fun _ _ _ _ _ _ h hF => ⟨h.1, hF⟩
theorem main_1_2 : Claimed_1_2 := comes_1 fun _ _ _ _ _ _ h hF => ⟨h.2.1, hF⟩
end Jvm.Pilot.@@N@@
namespace Jvm.Pilot.@@N@@
open Jvm Jvm.ClassFile Sem Op Lib Jvm.Free Jvm.Stand Jvm.Pilot.@@N@@.Jvm.D
/-! MADE BY PROGRAM (witnessworld.py) out of the Statement's table words and the real class files: 19 classes; the members and pool entries that the words name. The judged class is class 1, her method 1. -/
namespace start1
open Jvm.ClassFile
def u (s : String) : CpInfo := .utf8 (stringToUtf16 s)
/-- a pool by its gaps: so many unusable entries, then the entry; so many at the end -/
def gap : Nat → List CpInfo → List CpInfo
  | 0, r => r
  | n + 1, r => .unusable :: gap n r
def poolList (es : List (Nat × CpInfo)) (last : Nat) : List CpInfo := es.foldr (fun e r => gap e.1 (e.2 :: r)) (gap last [])
def pool (es : List (Nat × CpInfo)) (last : Nat) : Array CpInfo := ⟨poolList es last⟩
def fileOf (pool : Array CpInfo) (this : Nat) (attrs : Array Attribute := #[]) (ms : Array MethodInfo := #[]) (fl : Nat := 33) (sup : Nat := 0) (ifs : Array Nat := #[]) (fds : Array FieldInfo := #[]) : ClassFile where
  minorVersion := 0
  majorVersion := 65
  constantPool := pool
  accessFlags := fl
  thisClass := this
  superClass := sup
  interfaces := ifs
  fields := fds
  methods := ms
  attributes := attrs
def plain (name : String) (sup : Option ClassId) : Class where
  name := name
  kind := .ordinary
  loader := none
  accessFlags := 33
  super := sup
  interfaces := #[]
  cf := none
  fields := #[]
  methods := #[]
  instanceTypes := #[]
  staticTypes := #[]
  resolved := #[]
  callSites := []
  init := .initialized
  statics := none
  mirror := none

def pool0 : Array CpInfo := pool [(5, u "<init>"), (0, u "()V"), (1, .class_ 10), (1, u "java/lang/Object")] 113

def k0c0 : Code := { maxStack := 0, maxLocals := 1, code := object_method_1_code, exceptionTable := #[], attributes := #[] }
def k0m0 : Method := { name := "<init>", desc := "()V", sig := { parameters := [], returnType := none }, accessFlags := 1, code := some k0c0 }
/-- java/lang/Object -/
def k0 : Class := { plain "java/lang/Object" none with
  accessFlags := 33
  interfaces := #[]
  cf := some (fileOf pool0 8 #[] #[{ accessFlags := 1, nameIndex := 5, descriptorIndex := 6, attributes := #[] }] 33 0 #[] #[])
  fields := #[]
  methods := #[k0m0]
  instanceTypes := #[]
  staticTypes := #[]
  resolved := Array.replicate 124 none
  statics := none }

def pool1 : Array CpInfo := pool [(2, .class_ 4), (0, .nameAndType 5 6), (0, u "java/lang/Object"), (0, u "<init>"), (0, u "()V"), (0, .class_ 8), (0, u "com/example/callweave/callweave/analysis/SparseBits"), (0, .methodref 7 3), (0, .methodref 7 11), (0, .nameAndType 12 13), (0, u "cardinality"), (0, u "()I"), (0, .methodref 7 15), (0, .nameAndType 16 17), (0, u "add"), (0, u "(I)Z"), (0, .class_ 19), (0, u "com/example/callweave/callweave/analysis/SparseBitsCardinalityPinLaw"), (2, u "law"), (0, u "(IIIIII)Z")] 3

def k1m0 : Method := { name := "<init>", desc := "()V", sig := { parameters := [], returnType := none }, accessFlags := 2, code := none }
def k1c1 : Code := { maxStack := 3, maxLocals := 14, code := code, exceptionTable := #[], attributes := #[] }
def k1m1 : Method := { name := "law", desc := "(IIIIII)Z", sig := { parameters := [.int, .int, .int, .int, .int, .int], returnType := some .boolean }, accessFlags := 9, code := some k1c1 }
/-- com/example/callweave/callweave/analysis/SparseBitsCardinalityPinLaw -/
def k1 : Class := { plain "com/example/callweave/callweave/analysis/SparseBitsCardinalityPinLaw" (some 0) with
  accessFlags := 49
  interfaces := #[]
  cf := some (fileOf pool1 18 #[] #[{ accessFlags := 2, nameIndex := 5, descriptorIndex := 6, attributes := #[] }, { accessFlags := 9, nameIndex := 22, descriptorIndex := 23, attributes := #[] }] 49 2 #[] #[])
  fields := #[]
  methods := #[k1m0, k1m1]
  instanceTypes := #[]
  staticTypes := #[]
  resolved := Array.replicate 27 none
  statics := none }

def pool2 : Array CpInfo := pool [(1, .methodref 2 3), (0, .class_ 4), (0, .nameAndType 5 6), (0, u "java/lang/Object"), (0, u "<init>"), (0, u "()V"), (0, .fieldref 8 9), (0, .class_ 10), (0, .nameAndType 11 12), (0, u "com/example/callweave/callweave/analysis/SparseBits"), (0, u "indexes"), (0, u "[I"), (0, .fieldref 8 14), (0, .nameAndType 15 16), (0, u "words"), (0, u "[J"), (3, u "add"), (0, u "(I)Z"), (0, .fieldref 8 23), (0, .nameAndType 24 25), (0, u "count"), (0, u "I"), (0, .methodref 8 27), (0, .nameAndType 28 29), (0, u "or"), (0, u "(IJ)J"), (0, .methodref 8 31), (0, .nameAndType 32 33), (0, u "seek"), (0, u "(II)I"), (0, .methodref 8 35), (0, .nameAndType 36 37), (0, u "orAt"), (0, u "(IIJ)J"), (0, .methodref 39 40), (0, .class_ 41), (0, .nameAndType 42 33), (0, u "java/lang/Math"), (0, u "min"), (0, .methodref 44 45), (0, .class_ 46), (0, .nameAndType 47 48), (0, u "java/util/Arrays"), (0, u "binarySearch"), (0, u "([IIII)I"), (0, .methodref 44 50), (0, .nameAndType 51 52), (0, u "copyOf"), (0, u "([II)[I"), (0, .methodref 44 54), (0, .nameAndType 51 55), (0, u "([JI)[J"), (0, .methodref 57 58), (0, .class_ 59), (0, .nameAndType 60 61), (0, u "java/lang/System"), (0, u "arraycopy"), (0, u "(Ljava/lang/Object;ILjava/lang/Object;II)V"), (0, .long 18446744073709551615), (1, .methodref 65 66), (0, .class_ 67), (0, .nameAndType 68 69), (0, u "java/lang/Long"), (0, u "bitCount"), (0, u "(J)I"), (2, u "cardinality"), (0, u "()I")] 17

def k2c0 : Code := { maxStack := 2, maxLocals := 1, code := prog_1_method_1_code, exceptionTable := #[], attributes := #[] }
def k2m0 : Method := { name := "<init>", desc := "()V", sig := { parameters := [], returnType := none }, accessFlags := 0, code := some k2c0 }
def k2c1 : Code := { maxStack := 5, maxLocals := 2, code := prog_1_method_6_code, exceptionTable := #[], attributes := #[] }
def k2m1 : Method := { name := "add", desc := "(I)Z", sig := { parameters := [.int], returnType := some .boolean }, accessFlags := 0, code := some k2c1 }
def k2c2 : Code := { maxStack := 5, maxLocals := 5, code := prog_1_method_7_code, exceptionTable := #[], attributes := #[] }
def k2m2 : Method := { name := "or", desc := "(IJ)J", sig := { parameters := [.int, .long], returnType := some .long }, accessFlags := 0, code := some k2c2 }
def k2c3 : Code := { maxStack := 4, maxLocals := 7, code := prog_1_method_8_code, exceptionTable := #[], attributes := #[] }
def k2m3 : Method := { name := "seek", desc := "(II)I", sig := { parameters := [.int, .int], returnType := some .int }, accessFlags := 0, code := some k2c3 }
def k2c4 : Code := { maxStack := 6, maxLocals := 7, code := prog_1_method_9_code, exceptionTable := #[], attributes := #[] }
def k2m4 : Method := { name := "orAt", desc := "(IIJ)J", sig := { parameters := [.int, .int, .long], returnType := some .long }, accessFlags := 0, code := some k2c4 }
def k2c5 : Code := { maxStack := 3, maxLocals := 3, code := prog_1_method_10_code, exceptionTable := #[], attributes := #[] }
def k2m5 : Method := { name := "cardinality", desc := "()I", sig := { parameters := [], returnType := some .int }, accessFlags := 0, code := some k2c5 }
/-- com/example/callweave/callweave/analysis/SparseBits -/
def k2 : Class := { plain "com/example/callweave/callweave/analysis/SparseBits" (some 0) with
  accessFlags := 48
  interfaces := #[]
  cf := some (fileOf pool2 8 #[] #[{ accessFlags := 0, nameIndex := 5, descriptorIndex := 6, attributes := #[] }, { accessFlags := 0, nameIndex := 20, descriptorIndex := 21, attributes := #[] }, { accessFlags := 0, nameIndex := 28, descriptorIndex := 29, attributes := #[] }, { accessFlags := 0, nameIndex := 32, descriptorIndex := 33, attributes := #[] }, { accessFlags := 0, nameIndex := 36, descriptorIndex := 37, attributes := #[] }, { accessFlags := 0, nameIndex := 72, descriptorIndex := 73, attributes := #[] }] 48 2 #[] #[{ accessFlags := 2, nameIndex := 11, descriptorIndex := 12, attributes := #[] }, { accessFlags := 2, nameIndex := 15, descriptorIndex := 16, attributes := #[] }, { accessFlags := 2, nameIndex := 24, descriptorIndex := 25, attributes := #[] }])
  fields := #[{ name := "indexes", type := (.array .int), accessFlags := 2, slot := 0, constantValue := 0 }, { name := "words", type := (.array .long), accessFlags := 2, slot := 1, constantValue := 0 }, { name := "count", type := .int, accessFlags := 2, slot := 2, constantValue := 0 }]
  methods := #[k2m0, k2m1, k2m2, k2m3, k2m4, k2m5]
  instanceTypes := #[(.array .int), (.array .long), .int]
  staticTypes := #[]
  resolved := Array.replicate 91 none
  statics := none }

def pool3 : Array CpInfo := pool [(1, .class_ 2), (0, u "java/lang/Math"), (1, .class_ 6), (1, u "java/lang/Object"), (0, u "<init>"), (0, u "()V"), (89, .class_ 100), (1, u "java/lang/Math$RandomNumberGeneratorHolder"), (71, u "negativeZeroFloatBits"), (0, u "J"), (2, u "negativeZeroDoubleBits"), (24, u "min"), (43, u "$assertionsDisabled"), (0, u "Z"), (88, u "(II)I"), (2, u "twoToTheDoubleScaleDown"), (0, u "D"), (4, u "twoToTheDoubleScaleUp"), (9, u "E"), (3, u "PI"), (2, u "TAU"), (2, u "DEGREES_TO_RADIANS"), (0, u "RADIANS_TO_DEGREES")] 94

def k3m0 : Method := { name := "<init>", desc := "()V", sig := { parameters := [], returnType := none }, accessFlags := 2, code := none }
def k3c1 : Code := { maxStack := 2, maxLocals := 2, code := jdk_29_method_69_code, exceptionTable := #[], attributes := #[] }
def k3m1 : Method := { name := "min", desc := "(II)I", sig := { parameters := [.int, .int], returnType := some .int }, accessFlags := 9, code := some k3c1 }
/-- java/lang/Math -/
def k3 : Class := { plain "java/lang/Math" (some 0) with
  accessFlags := 49
  interfaces := #[]
  cf := some (fileOf pool3 1 #[.nestMembers #[98]] #[{ accessFlags := 2, nameIndex := 7, descriptorIndex := 8, attributes := #[] }, { accessFlags := 9, nameIndex := 201, descriptorIndex := 335, attributes := #[] }] 49 4 #[] #[{ accessFlags := 25, nameIndex := 354, descriptorIndex := 339, attributes := #[] }, { accessFlags := 25, nameIndex := 358, descriptorIndex := 339, attributes := #[] }, { accessFlags := 25, nameIndex := 361, descriptorIndex := 339, attributes := #[] }, { accessFlags := 26, nameIndex := 364, descriptorIndex := 339, attributes := #[] }, { accessFlags := 26, nameIndex := 365, descriptorIndex := 339, attributes := #[] }, { accessFlags := 26, nameIndex := 172, descriptorIndex := 173, attributes := #[] }, { accessFlags := 26, nameIndex := 176, descriptorIndex := 173, attributes := #[] }, { accessFlags := 8, nameIndex := 344, descriptorIndex := 339, attributes := #[] }, { accessFlags := 8, nameIndex := 338, descriptorIndex := 339, attributes := #[] }, { accessFlags := 4120, nameIndex := 245, descriptorIndex := 246, attributes := #[] }])
  fields := #[{ name := "E", type := .double, accessFlags := 25, slot := 0, constantValue := 0 }, { name := "PI", type := .double, accessFlags := 25, slot := 1, constantValue := 0 }, { name := "TAU", type := .double, accessFlags := 25, slot := 2, constantValue := 0 }, { name := "DEGREES_TO_RADIANS", type := .double, accessFlags := 26, slot := 3, constantValue := 0 }, { name := "RADIANS_TO_DEGREES", type := .double, accessFlags := 26, slot := 4, constantValue := 0 }, { name := "negativeZeroFloatBits", type := .long, accessFlags := 26, slot := 5, constantValue := 0 }, { name := "negativeZeroDoubleBits", type := .long, accessFlags := 26, slot := 6, constantValue := 0 }, { name := "twoToTheDoubleScaleUp", type := .double, accessFlags := 8, slot := 7, constantValue := 0 }, { name := "twoToTheDoubleScaleDown", type := .double, accessFlags := 8, slot := 8, constantValue := 0 }, { name := "$assertionsDisabled", type := .boolean, accessFlags := 4120, slot := 9, constantValue := 0 }]
  methods := #[k3m0, k3m1]
  instanceTypes := #[]
  staticTypes := #[.double, .double, .double, .double, .double, .long, .long, .double, .double, .boolean]
  resolved := Array.replicate 460 none
  statics := none }

def pool4 : Array CpInfo := pool [(2, .class_ 4), (1, u "java/lang/Object"), (0, u "<init>"), (0, u "()V"), (6, .methodref 14 15), (0, .class_ 16), (0, .nameAndType 17 18), (0, u "java/util/Arrays"), (0, u "rangeCheck"), (0, u "(III)V"), (55, .class_ 76), (1, u "java/util/Arrays$NaturalOrder"), (36, .class_ 115), (1, u "java/util/Arrays$LegacyMergeSort"), (1, u "Z"), (32, .methodref 151 152), (0, .class_ 153), (0, .nameAndType 154 155), (0, u "java/lang/System"), (0, u "arraycopy"), (0, u "(Ljava/lang/Object;ILjava/lang/Object;II)V"), (51, u "binarySearch0"), (1, .methodref 14 210), (0, .nameAndType 207 211), (0, u "([IIII)I"), (90, u "copyOf"), (1, .methodref 305 306), (0, .class_ 307), (0, .nameAndType 308 309), (0, u "java/lang/Math"), (0, u "min"), (0, u "(II)I"), (65, .class_ 376), (0, u "java/util/Arrays$ArrayList"), (68, u "$assertionsDisabled"), (269, u "MIN_ARRAY_SORT_GRAN"), (0, u "I"), (2, u "INSERTIONSORT_THRESHOLD"), (74, u "binarySearch"), (76, u "([II)[I"), (0, u "([JI)[J"), (102, .class_ 976), (0, u "java/util/Arrays$ArrayItr")] 52

def k4m0 : Method := { name := "<init>", desc := "()V", sig := { parameters := [], returnType := none }, accessFlags := 2, code := none }
def k4c1 : Code := { maxStack := 4, maxLocals := 3, code := jdk_65_method_30_code, exceptionTable := #[], attributes := #[] }
def k4m1 : Method := { name := "rangeCheck", desc := "(III)V", sig := { parameters := [.int, .int, .int], returnType := none }, accessFlags := 8, code := some k4c1 }
def k4c2 : Code := { maxStack := 4, maxLocals := 4, code := jdk_65_method_58_code, exceptionTable := #[], attributes := #[] }
def k4m2 : Method := { name := "binarySearch", desc := "([IIII)I", sig := { parameters := [(.array .int), .int, .int, .int], returnType := some .int }, accessFlags := 9, code := some k4c2 }
def k4c3 : Code := { maxStack := 2, maxLocals := 8, code := jdk_65_method_59_code, exceptionTable := #[], attributes := #[] }
def k4m3 : Method := { name := "binarySearch0", desc := "([IIII)I", sig := { parameters := [(.array .int), .int, .int, .int], returnType := some .int }, accessFlags := 10, code := some k4c3 }
def k4c4 : Code := { maxStack := 6, maxLocals := 3, code := jdk_65_method_123_code, exceptionTable := #[], attributes := #[] }
def k4m4 : Method := { name := "copyOf", desc := "([II)[I", sig := { parameters := [(.array .int), .int], returnType := some (.array .int) }, accessFlags := 9, code := some k4c4 }
def k4c5 : Code := { maxStack := 6, maxLocals := 3, code := jdk_65_method_124_code, exceptionTable := #[], attributes := #[] }
def k4m5 : Method := { name := "copyOf", desc := "([JI)[J", sig := { parameters := [(.array .long), .int], returnType := some (.array .long) }, accessFlags := 9, code := some k4c5 }
/-- java/util/Arrays -/
def k4 : Class := { plain "java/util/Arrays" (some 0) with
  accessFlags := 49
  interfaces := #[]
  cf := some (fileOf pool4 14 #[.nestMembers #[975, 375, 113, 74]] #[{ accessFlags := 2, nameIndex := 5, descriptorIndex := 6, attributes := #[] }, { accessFlags := 8, nameIndex := 17, descriptorIndex := 18, attributes := #[] }, { accessFlags := 9, nameIndex := 794, descriptorIndex := 211, attributes := #[] }, { accessFlags := 10, nameIndex := 207, descriptorIndex := 211, attributes := #[] }, { accessFlags := 9, nameIndex := 302, descriptorIndex := 871, attributes := #[] }, { accessFlags := 9, nameIndex := 302, descriptorIndex := 872, attributes := #[] }] 49 2 #[] #[{ accessFlags := 26, nameIndex := 715, descriptorIndex := 716, attributes := #[] }, { accessFlags := 26, nameIndex := 719, descriptorIndex := 716, attributes := #[] }, { accessFlags := 4120, nameIndex := 445, descriptorIndex := 117, attributes := #[] }])
  fields := #[{ name := "MIN_ARRAY_SORT_GRAN", type := .int, accessFlags := 26, slot := 0, constantValue := 0 }, { name := "INSERTIONSORT_THRESHOLD", type := .int, accessFlags := 26, slot := 1, constantValue := 0 }, { name := "$assertionsDisabled", type := .boolean, accessFlags := 4120, slot := 2, constantValue := 0 }]
  methods := #[k4m0, k4m1, k4m2, k4m3, k4m4, k4m5]
  instanceTypes := #[]
  staticTypes := #[.int, .int, .boolean]
  resolved := Array.replicate 1029 none
  statics := none }

def pool5 : Array CpInfo := pool [(2, .class_ 4), (1, u "java/lang/Object"), (0, u "<init>"), (0, u "()V"), (1, .class_ 10), (1, u "java/lang/System"), (0, u "allowSecurityManager"), (0, u "I"), (16, u "cons"), (0, u "Ljava/io/Console;"), (77, .class_ 110), (1, u "java/lang/System$CallersHolder"), (43, u "initialErrStream"), (0, u "Ljava/io/PrintStream;"), (19, u "security"), (0, u "Ljava/lang/SecurityManager;"), (31, .class_ 209), (0, u "java/lang/System$1"), (7, u "props"), (0, u "Ljava/util/Properties;"), (2, u "lineSeparator"), (0, u "Ljava/lang/String;"), (96, .class_ 321), (1, u "java/lang/System$LoggerFinder"), (5, .class_ 328), (0, u "java/lang/System$Logger"), (67, u "err"), (2, u "out"), (91, u "notSupportedJnuEncoding"), (15, u "in"), (17, u "initialIn"), (0, u "Ljava/io/InputStream;"), (35, u "bootLayer"), (0, u "Ljava/lang/ModuleLayer;"), (99, .class_ 664), (0, u "java/lang/System$2"), (9, u "NEVER"), (2, u "MAYBE"), (49, u "arraycopy"), (0, u "(Ljava/lang/Object;ILjava/lang/Object;II)V"), (72, .class_ 802), (0, u "java/lang/System$Logger$Level")] 31

def k5m0 : Method := { name := "<init>", desc := "()V", sig := { parameters := [], returnType := none }, accessFlags := 2, code := none }
def k5m1 : Method := { name := "arraycopy", desc := "(Ljava/lang/Object;ILjava/lang/Object;II)V", sig := { parameters := [(.object "java/lang/Object"), .int, (.object "java/lang/Object"), .int, .int], returnType := none }, accessFlags := 265, code := none }
/-- java/lang/System -/
def k5 : Class := { plain "java/lang/System" (some 0) with
  accessFlags := 49
  interfaces := #[]
  cf := some (fileOf pool5 8 #[.nestMembers #[319, 327, 801, 108, 663, 208]] #[{ accessFlags := 2, nameIndex := 5, descriptorIndex := 6, attributes := #[] }, { accessFlags := 265, nameIndex := 727, descriptorIndex := 728, attributes := #[] }] 49 2 #[] #[{ accessFlags := 25, nameIndex := 507, descriptorIndex := 526, attributes := #[] }, { accessFlags := 25, nameIndex := 399, descriptorIndex := 155, attributes := #[] }, { accessFlags := 25, nameIndex := 396, descriptorIndex := 155, attributes := #[] }, { accessFlags := 10, nameIndex := 525, descriptorIndex := 526, attributes := #[] }, { accessFlags := 26, nameIndex := 674, descriptorIndex := 12, attributes := #[] }, { accessFlags := 26, nameIndex := 677, descriptorIndex := 12, attributes := #[] }, { accessFlags := 10, nameIndex := 11, descriptorIndex := 12, attributes := #[] }, { accessFlags := 74, nameIndex := 175, descriptorIndex := 176, attributes := #[] }, { accessFlags := 10, nameIndex := 491, descriptorIndex := 222, attributes := #[] }, { accessFlags := 74, nameIndex := 29, descriptorIndex := 30, attributes := #[] }, { accessFlags := 74, nameIndex := 154, descriptorIndex := 155, attributes := #[] }, { accessFlags := 10, nameIndex := 217, descriptorIndex := 218, attributes := #[] }, { accessFlags := 10, nameIndex := 221, descriptorIndex := 222, attributes := #[] }, { accessFlags := 8, nameIndex := 562, descriptorIndex := 563, attributes := #[] }])
  fields := #[{ name := "in", type := (.object "java/io/InputStream"), accessFlags := 25, slot := 0, constantValue := 0 }, { name := "out", type := (.object "java/io/PrintStream"), accessFlags := 25, slot := 1, constantValue := 0 }, { name := "err", type := (.object "java/io/PrintStream"), accessFlags := 25, slot := 2, constantValue := 0 }, { name := "initialIn", type := (.object "java/io/InputStream"), accessFlags := 10, slot := 3, constantValue := 0 }, { name := "NEVER", type := .int, accessFlags := 26, slot := 4, constantValue := 0 }, { name := "MAYBE", type := .int, accessFlags := 26, slot := 5, constantValue := 0 }, { name := "allowSecurityManager", type := .int, accessFlags := 10, slot := 6, constantValue := 0 }, { name := "security", type := (.object "java/lang/SecurityManager"), accessFlags := 74, slot := 7, constantValue := 0 }, { name := "notSupportedJnuEncoding", type := (.object "java/lang/String"), accessFlags := 10, slot := 8, constantValue := 0 }, { name := "cons", type := (.object "java/io/Console"), accessFlags := 74, slot := 9, constantValue := 0 }, { name := "initialErrStream", type := (.object "java/io/PrintStream"), accessFlags := 74, slot := 10, constantValue := 0 }, { name := "props", type := (.object "java/util/Properties"), accessFlags := 10, slot := 11, constantValue := 0 }, { name := "lineSeparator", type := (.object "java/lang/String"), accessFlags := 10, slot := 12, constantValue := 0 }, { name := "bootLayer", type := (.object "java/lang/ModuleLayer"), accessFlags := 8, slot := 13, constantValue := 0 }]
  methods := #[k5m0, k5m1]
  instanceTypes := #[]
  staticTypes := #[(.object "java/io/InputStream"), (.object "java/io/PrintStream"), (.object "java/io/PrintStream"), (.object "java/io/InputStream"), .int, .int, .int, (.object "java/lang/SecurityManager"), (.object "java/lang/String"), (.object "java/io/Console"), (.object "java/io/PrintStream"), (.object "java/util/Properties"), (.object "java/lang/String"), (.object "java/lang/ModuleLayer")]
  resolved := Array.replicate 834 none
  statics := none }

def pool6 : Array CpInfo := pool [(1, .class_ 2), (0, u "java/io/Serializable"), (0, .class_ 4), (0, u "java/lang/Object")] 2

/-- java/io/Serializable -/
def k6 : Class := { plain "java/io/Serializable" (some 0) with
  accessFlags := 1537
  interfaces := #[]
  cf := some (fileOf pool6 1 #[] #[] 1537 3 #[] #[])
  fields := #[]
  methods := #[]
  instanceTypes := #[]
  staticTypes := #[]
  resolved := Array.replicate 7 none
  statics := none }

def pool7 : Array CpInfo := pool [(2, .class_ 4), (1, u "java/lang/Object"), (0, u "<init>"), (0, u "()V"), (1, .class_ 10), (1, u "java/lang/Number"), (2, .class_ 14), (0, u "java/io/Serializable"), (0, u "serialVersionUID"), (0, u "J")] 20

def k7m0 : Method := { name := "<init>", desc := "()V", sig := { parameters := [], returnType := none }, accessFlags := 1, code := none }
/-- java/lang/Number -/
def k7 : Class := { plain "java/lang/Number" (some 0) with
  accessFlags := 1057
  interfaces := #[6]
  cf := some (fileOf pool7 8 #[] #[{ accessFlags := 1, nameIndex := 5, descriptorIndex := 6, attributes := #[] }] 1057 2 #[13] #[{ accessFlags := 26, nameIndex := 15, descriptorIndex := 16, attributes := #[] }])
  fields := #[{ name := "serialVersionUID", type := .long, accessFlags := 26, slot := 0, constantValue := 0 }]
  methods := #[k7m0]
  instanceTypes := #[]
  staticTypes := #[.long]
  resolved := Array.replicate 37 none
  statics := none }

def pool8 : Array CpInfo := pool [(1, .class_ 2), (0, u "java/lang/Comparable"), (0, .class_ 4), (0, u "java/lang/Object")] 7

/-- java/lang/Comparable -/
def k8 : Class := { plain "java/lang/Comparable" (some 0) with
  accessFlags := 1537
  interfaces := #[]
  cf := some (fileOf pool8 1 #[] #[] 1537 3 #[] #[])
  fields := #[]
  methods := #[]
  instanceTypes := #[]
  staticTypes := #[]
  resolved := Array.replicate 12 none
  statics := none }

def pool9 : Array CpInfo := pool [(1, .class_ 2), (0, u "java/lang/constant/Constable"), (0, .class_ 4), (0, u "java/lang/Object")] 6

/-- java/lang/constant/Constable -/
def k9 : Class := { plain "java/lang/constant/Constable" (some 0) with
  accessFlags := 1537
  interfaces := #[]
  cf := some (fileOf pool9 1 #[] #[] 1537 3 #[] #[])
  fields := #[]
  methods := #[]
  instanceTypes := #[]
  staticTypes := #[]
  resolved := Array.replicate 11 none
  statics := none }

def pool10 : Array CpInfo := pool [(1, .class_ 2), (0, u "java/lang/constant/ConstantDesc"), (0, .class_ 4), (0, u "java/lang/Object")] 32

/-- java/lang/constant/ConstantDesc -/
def k10 : Class := { plain "java/lang/constant/ConstantDesc" (some 0) with
  accessFlags := 1537
  interfaces := #[]
  cf := some (fileOf pool10 1 #[] #[] 1537 3 #[] #[])
  fields := #[]
  methods := #[]
  instanceTypes := #[]
  staticTypes := #[]
  resolved := Array.replicate 37 none
  statics := none }

def pool11 : Array CpInfo := pool [(1, .class_ 2), (0, u "java/lang/Long"), (98, u "(J)I"), (133, .class_ 237), (1, u "java/lang/Long$LongCache"), (33, .class_ 272), (0, u "java/lang/Number"), (2, u "value"), (0, u "J"), (37, .long 6148914691236517205), (1, .long 3689348814741910323), (1, .long 1085102592571150095), (42, u "TYPE"), (0, u "Ljava/lang/Class;"), (0, .class_ 364), (0, u "java/lang/Comparable"), (0, .class_ 366), (0, u "java/lang/constant/Constable"), (0, .class_ 368), (0, u "java/lang/constant/ConstantDesc"), (0, u "MIN_VALUE"), (1, u "MAX_VALUE"), (4, u "SIZE"), (0, u "I"), (1, u "BYTES"), (1, u "serialVersionUID"), (94, u "bitCount")] 47

def k11c0 : Code := { maxStack := 6, maxLocals := 2, code := jdk_35_method_50_code, exceptionTable := #[], attributes := #[] }
def k11m0 : Method := { name := "bitCount", desc := "(J)I", sig := { parameters := [.long], returnType := some .int }, accessFlags := 9, code := some k11c0 }
/-- java/lang/Long -/
def k11 : Class := { plain "java/lang/Long" (some 7) with
  accessFlags := 49
  interfaces := #[8, 9, 10]
  cf := some (fileOf pool11 1 #[.nestMembers #[235]] #[{ accessFlags := 9, nameIndex := 476, descriptorIndex := 101, attributes := #[] }] 49 271 #[363, 365, 367] #[{ accessFlags := 25, nameIndex := 369, descriptorIndex := 276, attributes := #[] }, { accessFlags := 25, nameIndex := 371, descriptorIndex := 276, attributes := #[] }, { accessFlags := 25, nameIndex := 361, descriptorIndex := 362, attributes := #[] }, { accessFlags := 18, nameIndex := 275, descriptorIndex := 276, attributes := #[] }, { accessFlags := 25, nameIndex := 376, descriptorIndex := 377, attributes := #[] }, { accessFlags := 25, nameIndex := 379, descriptorIndex := 377, attributes := #[] }, { accessFlags := 26, nameIndex := 381, descriptorIndex := 276, attributes := #[] }])
  fields := #[{ name := "MIN_VALUE", type := .long, accessFlags := 25, slot := 0, constantValue := 0 }, { name := "MAX_VALUE", type := .long, accessFlags := 25, slot := 1, constantValue := 0 }, { name := "TYPE", type := (.object "java/lang/Class"), accessFlags := 25, slot := 2, constantValue := 0 }, { name := "value", type := .long, accessFlags := 18, slot := 0, constantValue := 0 }, { name := "SIZE", type := .int, accessFlags := 25, slot := 3, constantValue := 0 }, { name := "BYTES", type := .int, accessFlags := 25, slot := 4, constantValue := 0 }, { name := "serialVersionUID", type := .long, accessFlags := 26, slot := 5, constantValue := 0 }]
  methods := #[k11m0]
  instanceTypes := #[.long]
  staticTypes := #[.long, .long, (.object "java/lang/Class"), .int, .int, .long]
  resolved := Array.replicate 524 none
  statics := none }

def pool12 : Array CpInfo := pool [(1, u "java/lang/Cloneable"), (0, .class_ 1), (0, u "java/lang/Object"), (0, .class_ 3)] 3

/-- java/lang/Cloneable -/
def k12 : Class := { plain "java/lang/Cloneable" (some 0) with
  accessFlags := 1537
  interfaces := #[]
  cf := some (fileOf pool12 2 #[] #[] 1537 4 #[] #[])
  fields := #[]
  methods := #[]
  instanceTypes := #[]
  staticTypes := #[]
  resolved := Array.replicate 8 none
  statics := none }

/-- the primitive byte -/
def k13 : Class := { plain "byte" none with kind := .primitive 'B', accessFlags := 0x411 }
/-- [B -/
def k14 : Class := { plain "[B" (some 0) with kind := .array 13 .byte, interfaces := #[12, 6], accessFlags := 1041 }

/-- the primitive int -/
def k15 : Class := { plain "int" none with kind := .primitive 'I', accessFlags := 0x411 }
/-- [I -/
def k16 : Class := { plain "[I" (some 0) with kind := .array 15 .int, interfaces := #[12, 6], accessFlags := 1041 }

/-- the primitive long -/
def k17 : Class := { plain "long" none with kind := .primitive 'J', accessFlags := 0x411 }
/-- [J -/
def k18 : Class := { plain "[J" (some 0) with kind := .array 17 .long, interfaces := #[12, 6], accessFlags := 1041 }

def heap : Heap := #[]
def classes : Array Class := #[k0, k1, k2, k3, k4, k5, k6, k7, k8, k9, k10, k11, k12, k13, k14, k15, k16, k17, k18]
def interned : List (Array UInt16 × Addr) := []
def slotsUsed : Nat := 0
def theMethod : MethodId := ⟨1, 1⟩
def args0 : Array Value := #[.int 5, .int 9, .int 1, .int 2, .int 70, .int 3]
def aboutOver (below : List Frame) : State where
  vm := { classes := classes, interned := interned.toArray }
  heap := heap
  slotsUsed := slotsUsed
  threads := #[{ frames := .invoking theMethod args0 :: below }]
def below0 : List Frame := [.native { method := ⟨0, 0⟩, args := #[] }]
def about1 : State := aboutOver below0
def p0 : Program := .bare "" "" ""
def e0 : Env := launch0.env 0 0 0
theorem w_frames : about1.frames = Frame.invoking theMethod args0 :: below0 := rfl
set_option maxRecDepth 65536 in
theorem w_args : argsFit about1.vm theMethod args0 = true := by decide +kernel
set_option maxRecDepth 65536 in
theorem w_heap : heapFits about1 = true := by decide +kernel
set_option maxRecDepth 65536 in
theorem w_runnable : about1.curStatus? = some .runnable := by decide +kernel
set_option maxRecDepth 65536 in
theorem w_alone : about1.alone = true := by decide +kernel
set_option maxRecDepth 65536 in
theorem w_named : about1.methodNamed? x = some theMethod := by decide +kernel
set_option maxRecDepth 65536 in
theorem w_hears : about1.hears theMethod below0 = true := by decide +kernel
set_option maxRecDepth 65536 in
theorem w_ripe : about1.ripe theMethod args0 below0 = true := by decide +kernel
theorem w_running : about1.status = .running := rfl
set_option maxRecDepth 65536 in
theorem w_room : about1.hasRoom e0.platform room_1 = true :=
  launch0.hasRoom_least _ room_1 (by decide +kernel) (by decide +kernel) (by decide +kernel) (by decide +kernel) (by decide +kernel) (by decide +kernel)
theorem allAtoms_all (ts : List Jvm.Cond) (a : Array Jvm.Value) (st : Jvm.State) : (allAtoms ts).before a st = ts.all (fun c => c.before a st) := by
  induction ts with
  | nil => rfl
  | cons c t ih =>
    show (Jvm.Cond.and c (allAtoms t)).before a st = _
    rw [Jvm.Cond.before_and, ih, List.all_cons]
def words1 : List Jvm.Cond := Jvm.Cond.code x code maxLocals ret :: tables_1
/-- a 'code' word, met by the world's own term for the bytes: nothing is compared byte by byte -/
theorem code_word {y : MethodName} {bytes : ByteArray} {mx : Nat} {rt : Option FieldType} {a : Array Value} {s : State} {m : MethodId} {meth : Method} {c : Code} (h1 : s.methodNamed? y = some m) (h2 : s.vm.method? m = some meth) (h3 : meth.code = some c) (h4 : c.code = bytes)
    (h5 : (c.maxLocals == mx && c.exceptionTable.isEmpty && decide (c.maxStack ≤ mostOperands) && decide (meth.sig.returnType = rt) && !meth.locks && decide (parseMethodDescriptor y.desc = some meth.sig)) = true) : (Jvm.Cond.code y bytes mx rt).before a s = true := by
  simp only [Bool.and_eq_true, beq_iff_eq, Bool.not_eq_true', decide_eq_true_eq] at h5
  obtain ⟨⟨⟨⟨⟨g1, g2⟩, g3⟩, g4⟩, g5⟩, g6⟩ := h5
  simp [Cond.before, Cond.holds, Cond.value, h1, h2, h3, h4, g1, g2, g3, g4, g5, g6]
def isCode : Jvm.Cond → Bool
  | .code _ _ _ _ => true
  | _ => false
theorem all_split {L : List Jvm.Cond} {P : Jvm.Cond → Bool} (h1 : L.all (fun c => isCode c || P c) = true) (h2 : ∀ c ∈ L.filter isCode, P c = true) : L.all P = true := by
  refine List.all_eq_true.mpr fun c hc => ?_
  have h := List.all_eq_true.mp h1 c hc
  rcases Bool.eq_false_or_eq_true (isCode c) with hi | hi
  · exact h2 c (List.mem_filter.mpr ⟨hc, hi⟩)
  · simpa [hi] using h
set_option maxRecDepth 65536 in
theorem w_c0 : (Jvm.Cond.code x code maxLocals ret).before args0 about1 = true := code_word (m := ⟨1, 1⟩) (meth := k1m1) (c := k1c1) (by decide +kernel) rfl rfl rfl (by decide +kernel)
set_option maxRecDepth 65536 in
theorem w_c1 : (Jvm.Cond.code ({ cls := "com/example/callweave/callweave/analysis/SparseBits", name := "<init>", desc := "()V" } : Jvm.MethodName) prog_1_method_1_code (1 : Nat) (Option.none : Option Jvm.ClassFile.FieldType)).before args0 about1 = true := code_word (m := ⟨2, 0⟩) (meth := k2m0) (c := k2c0) (by decide +kernel) rfl rfl rfl (by decide +kernel)
set_option maxRecDepth 65536 in
theorem w_c2 : (Jvm.Cond.code ({ cls := "java/lang/Object", name := "<init>", desc := "()V" } : Jvm.MethodName) object_method_1_code (1 : Nat) (Option.none : Option Jvm.ClassFile.FieldType)).before args0 about1 = true := code_word (m := ⟨0, 0⟩) (meth := k0m0) (c := k0c0) (by decide +kernel) rfl rfl rfl (by decide +kernel)
set_option maxRecDepth 65536 in
theorem w_c3 : (Jvm.Cond.code ({ cls := "com/example/callweave/callweave/analysis/SparseBits", name := "cardinality", desc := "()I" } : Jvm.MethodName) prog_1_method_10_code (3 : Nat) (Option.some Jvm.ClassFile.FieldType.int)).before args0 about1 = true := code_word (m := ⟨2, 5⟩) (meth := k2m5) (c := k2c5) (by decide +kernel) rfl rfl rfl (by decide +kernel)
set_option maxRecDepth 65536 in
theorem w_c4 : (Jvm.Cond.code ({ cls := "com/example/callweave/callweave/analysis/SparseBits", name := "add", desc := "(I)Z" } : Jvm.MethodName) prog_1_method_6_code (2 : Nat) (Option.some Jvm.ClassFile.FieldType.boolean)).before args0 about1 = true := code_word (m := ⟨2, 1⟩) (meth := k2m1) (c := k2c1) (by decide +kernel) rfl rfl rfl (by decide +kernel)
set_option maxRecDepth 65536 in
theorem w_c5 : (Jvm.Cond.code ({ cls := "com/example/callweave/callweave/analysis/SparseBits", name := "or", desc := "(IJ)J" } : Jvm.MethodName) prog_1_method_7_code (5 : Nat) (Option.some Jvm.ClassFile.FieldType.long)).before args0 about1 = true := code_word (m := ⟨2, 2⟩) (meth := k2m2) (c := k2c2) (by decide +kernel) rfl rfl rfl (by decide +kernel)
set_option maxRecDepth 65536 in
theorem w_c6 : (Jvm.Cond.code ({ cls := "com/example/callweave/callweave/analysis/SparseBits", name := "seek", desc := "(II)I" } : Jvm.MethodName) prog_1_method_8_code (7 : Nat) (Option.some Jvm.ClassFile.FieldType.int)).before args0 about1 = true := code_word (m := ⟨2, 3⟩) (meth := k2m3) (c := k2c3) (by decide +kernel) rfl rfl rfl (by decide +kernel)
set_option maxRecDepth 65536 in
theorem w_c7 : (Jvm.Cond.code ({ cls := "java/lang/Math", name := "min", desc := "(II)I" } : Jvm.MethodName) jdk_29_method_69_code (2 : Nat) (Option.some Jvm.ClassFile.FieldType.int)).before args0 about1 = true := code_word (m := ⟨3, 1⟩) (meth := k3m1) (c := k3c1) (by decide +kernel) rfl rfl rfl (by decide +kernel)
set_option maxRecDepth 65536 in
theorem w_c8 : (Jvm.Cond.code ({ cls := "java/util/Arrays", name := "binarySearch", desc := "([IIII)I" } : Jvm.MethodName) jdk_65_method_58_code (4 : Nat) (Option.some Jvm.ClassFile.FieldType.int)).before args0 about1 = true := code_word (m := ⟨4, 2⟩) (meth := k4m2) (c := k4c2) (by decide +kernel) rfl rfl rfl (by decide +kernel)
set_option maxRecDepth 65536 in
theorem w_c9 : (Jvm.Cond.code ({ cls := "java/util/Arrays", name := "rangeCheck", desc := "(III)V" } : Jvm.MethodName) jdk_65_method_30_code (3 : Nat) (Option.none : Option Jvm.ClassFile.FieldType)).before args0 about1 = true := code_word (m := ⟨4, 1⟩) (meth := k4m1) (c := k4c1) (by decide +kernel) rfl rfl rfl (by decide +kernel)
set_option maxRecDepth 65536 in
theorem w_c10 : (Jvm.Cond.code ({ cls := "java/util/Arrays", name := "binarySearch0", desc := "([IIII)I" } : Jvm.MethodName) jdk_65_method_59_code (8 : Nat) (Option.some Jvm.ClassFile.FieldType.int)).before args0 about1 = true := code_word (m := ⟨4, 3⟩) (meth := k4m3) (c := k4c3) (by decide +kernel) rfl rfl rfl (by decide +kernel)
set_option maxRecDepth 65536 in
theorem w_c11 : (Jvm.Cond.code ({ cls := "com/example/callweave/callweave/analysis/SparseBits", name := "orAt", desc := "(IIJ)J" } : Jvm.MethodName) prog_1_method_9_code (7 : Nat) (Option.some Jvm.ClassFile.FieldType.long)).before args0 about1 = true := code_word (m := ⟨2, 4⟩) (meth := k2m4) (c := k2c4) (by decide +kernel) rfl rfl rfl (by decide +kernel)
set_option maxRecDepth 65536 in
theorem w_c12 : (Jvm.Cond.code ({ cls := "java/lang/Long", name := "bitCount", desc := "(J)I" } : Jvm.MethodName) jdk_35_method_50_code (2 : Nat) (Option.some Jvm.ClassFile.FieldType.int)).before args0 about1 = true := code_word (m := ⟨11, 0⟩) (meth := k11m0) (c := k11c0) (by decide +kernel) rfl rfl rfl (by decide +kernel)
set_option maxRecDepth 65536 in
theorem w_c13 : (Jvm.Cond.code ({ cls := "java/util/Arrays", name := "copyOf", desc := "([II)[I" } : Jvm.MethodName) jdk_65_method_123_code (3 : Nat) (Option.some (Jvm.ClassFile.FieldType.array Jvm.ClassFile.FieldType.int))).before args0 about1 = true := code_word (m := ⟨4, 4⟩) (meth := k4m4) (c := k4c4) (by decide +kernel) rfl rfl rfl (by decide +kernel)
set_option maxRecDepth 65536 in
theorem w_c14 : (Jvm.Cond.code ({ cls := "java/util/Arrays", name := "copyOf", desc := "([JI)[J" } : Jvm.MethodName) jdk_65_method_124_code (3 : Nat) (Option.some (Jvm.ClassFile.FieldType.array Jvm.ClassFile.FieldType.long))).before args0 about1 = true := code_word (m := ⟨4, 5⟩) (meth := k4m5) (c := k4c5) (by decide +kernel) rfl rfl rfl (by decide +kernel)
def codes1 : List Jvm.Cond := [Jvm.Cond.code x code maxLocals ret, Jvm.Cond.code ({ cls := "com/example/callweave/callweave/analysis/SparseBits", name := "<init>", desc := "()V" } : Jvm.MethodName) prog_1_method_1_code (1 : Nat) (Option.none : Option Jvm.ClassFile.FieldType), Jvm.Cond.code ({ cls := "java/lang/Object", name := "<init>", desc := "()V" } : Jvm.MethodName) object_method_1_code (1 : Nat) (Option.none : Option Jvm.ClassFile.FieldType), Jvm.Cond.code ({ cls := "com/example/callweave/callweave/analysis/SparseBits", name := "cardinality", desc := "()I" } : Jvm.MethodName) prog_1_method_10_code (3 : Nat) (Option.some Jvm.ClassFile.FieldType.int), Jvm.Cond.code ({ cls := "com/example/callweave/callweave/analysis/SparseBits", name := "add", desc := "(I)Z" } : Jvm.MethodName) prog_1_method_6_code (2 : Nat) (Option.some Jvm.ClassFile.FieldType.boolean), Jvm.Cond.code ({ cls := "com/example/callweave/callweave/analysis/SparseBits", name := "or", desc := "(IJ)J" } : Jvm.MethodName) prog_1_method_7_code (5 : Nat) (Option.some Jvm.ClassFile.FieldType.long), Jvm.Cond.code ({ cls := "com/example/callweave/callweave/analysis/SparseBits", name := "seek", desc := "(II)I" } : Jvm.MethodName) prog_1_method_8_code (7 : Nat) (Option.some Jvm.ClassFile.FieldType.int), Jvm.Cond.code ({ cls := "java/lang/Math", name := "min", desc := "(II)I" } : Jvm.MethodName) jdk_29_method_69_code (2 : Nat) (Option.some Jvm.ClassFile.FieldType.int), Jvm.Cond.code ({ cls := "java/util/Arrays", name := "binarySearch", desc := "([IIII)I" } : Jvm.MethodName) jdk_65_method_58_code (4 : Nat) (Option.some Jvm.ClassFile.FieldType.int), Jvm.Cond.code ({ cls := "java/util/Arrays", name := "rangeCheck", desc := "(III)V" } : Jvm.MethodName) jdk_65_method_30_code (3 : Nat) (Option.none : Option Jvm.ClassFile.FieldType), Jvm.Cond.code ({ cls := "java/util/Arrays", name := "binarySearch0", desc := "([IIII)I" } : Jvm.MethodName) jdk_65_method_59_code (8 : Nat) (Option.some Jvm.ClassFile.FieldType.int), Jvm.Cond.code ({ cls := "com/example/callweave/callweave/analysis/SparseBits", name := "orAt", desc := "(IIJ)J" } : Jvm.MethodName) prog_1_method_9_code (7 : Nat) (Option.some Jvm.ClassFile.FieldType.long), Jvm.Cond.code ({ cls := "java/lang/Long", name := "bitCount", desc := "(J)I" } : Jvm.MethodName) jdk_35_method_50_code (2 : Nat) (Option.some Jvm.ClassFile.FieldType.int), Jvm.Cond.code ({ cls := "java/util/Arrays", name := "copyOf", desc := "([II)[I" } : Jvm.MethodName) jdk_65_method_123_code (3 : Nat) (Option.some (Jvm.ClassFile.FieldType.array Jvm.ClassFile.FieldType.int)), Jvm.Cond.code ({ cls := "java/util/Arrays", name := "copyOf", desc := "([JI)[J" } : Jvm.MethodName) jdk_65_method_124_code (3 : Nat) (Option.some (Jvm.ClassFile.FieldType.array Jvm.ClassFile.FieldType.long))]
set_option maxRecDepth 65536 in
theorem codes_eq : words1.filter isCode = codes1 := rfl
theorem w_codes : ∀ c ∈ words1.filter isCode, c.before args0 about1 = true := by
  rw [codes_eq]
  intro c hc
  simp only [codes1, List.mem_cons, List.not_mem_nil, or_false] at hc
  rcases hc with rfl | rfl | rfl | rfl | rfl | rfl | rfl | rfl | rfl | rfl | rfl | rfl | rfl | rfl | rfl
  · exact w_c0
  · exact w_c1
  · exact w_c2
  · exact w_c3
  · exact w_c4
  · exact w_c5
  · exact w_c6
  · exact w_c7
  · exact w_c8
  · exact w_c9
  · exact w_c10
  · exact w_c11
  · exact w_c12
  · exact w_c13
  · exact w_c14
set_option maxRecDepth 65536 in
theorem w_t1 : (words1.take 24).all (fun c => isCode c || c.before args0 about1) = true := by decide +kernel
set_option maxRecDepth 65536 in
theorem w_t2 : ((words1.drop 24).take 24).all (fun c => isCode c || c.before args0 about1) = true := by decide +kernel
set_option maxRecDepth 65536 in
theorem w_t3 : (((words1.drop 24).drop 24).take 24).all (fun c => isCode c || c.before args0 about1) = true := by decide +kernel
set_option maxRecDepth 65536 in
theorem w_t4 : (((words1.drop 24).drop 24).drop 24).all (fun c => isCode c || c.before args0 about1) = true := by decide +kernel
theorem w_tables : (allAtoms (Jvm.Cond.code x code maxLocals ret :: tables_1)).before args0 about1 = true := by
  rw [allAtoms_all]
  show words1.all (fun c => c.before args0 about1) = true
  refine all_split ?_ w_codes
  rw [← List.take_append_drop 24 words1, List.all_append, w_t1, ← List.take_append_drop 24 (words1.drop 24), List.all_append, w_t2, ← List.take_append_drop 24 ((words1.drop 24).drop 24), List.all_append, w_t3, w_t4]
  rfl
set_option maxRecDepth 65536 in
theorem w_case : (Jvm.Cond.and given_1 narrow_1).before args0 about1 = true := by decide +kernel
theorem w_applies : (headSpec (Jvm.Cond.code x code maxLocals ret :: tables_1) room_1).applies x e0.platform about1 = true :=
  (Spec.applies_iff w_frames).mpr ⟨w_running, w_runnable, w_alone, w_named, w_hears, w_ripe, w_room, w_tables⟩
theorem atStart : AtStart classFile x code maxLocals ret World_1 tables_1 room_1 Calls_1 rest_1 Pre_1 launch0 p0 e0 about1 theMethod args0 below0 :=
  ⟨lists_1, trivial, launch0.admits_env _ _ _, launch0.least_env, fairChoices_fair.cas, fairChoices_fair.clock, w_frames, w_args, w_heap, w_applies, trivial, trivial, w_case⟩
end start1
theorem witness_1 : WitnessClaimed_1 := ⟨start1.p0, start1.e0, start1.about1, start1.theMethod, start1.args0, start1.below0, start1.atStart⟩
end Jvm.Pilot.@@N@@
