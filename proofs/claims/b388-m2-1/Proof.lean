import JvmDerived
import JvmDerived.Pilot.@@N@@Statement
import JvmDerived.Pilot.@@N@@Code
set_option linter.unusedVariables false
set_option linter.unusedSimpArgs false
namespace Jvm.Pilot.@@N@@
open Jvm Jvm.ClassFile Sem Op Lib Jvm.Free Jvm.Stand Jvm.LawKit Jvm.RoadKit Bundle Jvm.Pilot.@@N@@.Jvm.D
/-! own_1: the walk as a goal. The heap is a list F of owned cells and a list G of cells that are only read; Go says: from here the body ends well. -/
abbrev Ent : Type := Addr × (Cell → Prop)
def Hp (Z : State) (EL : List (String × Nat)) (vm : Vm) (h : Heap) (F G : List Ent) : Prop :=
  Ext Z.heap h ∧ (∀ q ∈ F, ∃ c : Cell, h[q.1]? = some c ∧ q.2 c) ∧ (∀ q ∈ G, ∃ c : Cell, h[q.1]? = some c ∧ q.2 c) ∧ (F.map (·.1)).Nodup ∧
    ∀ q ∈ F, Z.heap.size ≤ q.1 ∧ Safe Z EL vm h q.1 ∧ ∀ r ∈ G, r.1 ≠ q.1
/-- what is fixed for a whole proof: the launch, the law's start, the law's arguments, the constants -/
abbrev Ax : Type := Launch × State × Array Value × List (String × Nat) × Bool
abbrev Ax.l (A : Ax) : Launch := A.1
abbrev Ax.Z (A : Ax) : State := A.2.1
abbrev Ax.a0 (A : Ax) : Array Value := A.2.2.1
abbrev Ax.EL (A : Ax) : List (String × Nat) := A.2.2.2.1
/-- may a literal be interned? -/
abbrev Ax.wm (A : Ax) : Bool := A.2.2.2.2
/-- a method: its name, bytes, locals, return type, and the room that its contract asks -/
abbrev Bx : Type := MethodName × ByteArray × Nat × Option FieldType × Room
abbrev Bx.y (B : Bx) : MethodName := B.1
abbrev Bx.bytes (B : Bx) : ByteArray := B.2.1
abbrev Bx.maxL (B : Bx) : Nat := B.2.2.1
abbrev Bx.ret (B : Bx) : Option FieldType := B.2.2.2.1
abbrev Bx.rm (B : Bx) : Room := B.2.2.2.2
/-- one invocation -/
abbrev Dx : Type := Program × Env × State × MethodId × Array Value × List Frame × Method × Code
abbrev Dx.p (D : Dx) : Program := D.1
abbrev Dx.e (D : Dx) : Env := D.2.1
abbrev Dx.s (D : Dx) : State := D.2.2.1
abbrev Dx.m (D : Dx) : MethodId := D.2.2.2.1
abbrev Dx.args (D : Dx) : Array Value := D.2.2.2.2.1
abbrev Dx.below (D : Dx) : List Frame := D.2.2.2.2.2.1
abbrev Dx.meth (D : Dx) : Method := D.2.2.2.2.2.2.1
abbrev Dx.c (D : Dx) : Code := D.2.2.2.2.2.2.2
def St (A : Ax) (B : Bx) (D : Dx) (T : State) (F G : List Ent) (cells slots : Nat) : Prop :=
  ∃ (vm0 : Vm) (k0 : Nat) (locs : List Loc), Stand D.p A.l D.e B.rm (D.s.setVm vm0) D.m D.args D.below D.meth D.c T locs cells slots ∧ A.Z.Warmed39 vm0 ∧ vm0.findClass B.y.cls = some D.m.cls ∧
    D.s.Since vm0 k0 ∧ k0 ≤ T.heap.size ∧ (Fr A.Z.heap.size locs ∧ (A.wm = false → D.s.WarmedH vm0)) ∧ CHr A.Z A.EL D.s.vm D.s.heap vm0 T.heap ∧ Hp A.Z A.EL vm0 T.heap F G
def Bdy (A : Ax) (B : Bx) (D : Dx) : Prop :=
  D.p.tables.exec = Jvm.exec ∧ D.c.code = B.bytes ∧ D.c.maxLocals = B.maxL ∧ D.meth.sig.returnType = B.ret ∧ D.meth.name = B.y.name ∧ D.meth.locks = false ∧ EW A.Z A.a0 A.EL
abbrev Pst : Type := Option Value → List Ent → List Ent → Prop
def Fin (A : Ax) (rm : Room) (below : List Frame) (s : State) (Q : Pst) (o : Outcome) (s₂ : State) : Prop :=
  ∃ (v : Option Value) (L : List Loc) (F' G' : List Ent), o = .returned v ∧ Q v F' G' ∧ Hp A.Z A.EL s₂.vm s₂.heap F' G' ∧ (Fr A.Z.heap.size L ∧ (A.wm = false → s.WarmedH s₂.vm)) ∧ CHr A.Z A.EL s.vm s.heap s₂.vm s₂.heap ∧ ReturnedEndW s o s₂ L rm.cells rm.slots
def Go (A : Ax) (B : Bx) (D : Dx) (Q : Pst) (pc : Nat) (L : List Slot) (S : List Value) (F G : List Ent) (cells slots : Nat) : Prop :=
  Bdy A B D → ∀ T, St A B D T F G cells slots → ∃ s₂ o, Steps D.p.tables D.e D.below (T.setTop (mkF D.m pc L.toArray S)) s₂ ∧ s₂.status = .running ∧ Ended s₂ D.below o ∧ Fin A B.rm D.below D.s Q o s₂
def MetW (ws : List Cond) (A : Ax) (B : Bx) (as' : Array Value) (F G : List Ent) (Q : Pst) : Prop :=
  MetFree A.l B.y (head1 (Cond.code B.y B.bytes B.maxL B.ret :: ws) B.rm) (fun a U => a = as' ∧ A.Z.Warmed39 U.vm ∧ CHv A.Z A.EL U.vm U.heap ∧ Hp A.Z A.EL U.vm U.heap F G) (fun _ _ _ _ _ => True) (fun _ U o U' => Fin A B.rm [] U Q o U')
abbrev Met (A : Ax) (B : Bx) (as' : Array Value) (F G : List Ent) (Q : Pst) : Prop := MetW [] A B as' F G Q
section Own
variable {A : Ax} {B : Bx} {D : Dx} {Q : Pst} {pc pc' : Nat} {L L' : List Slot} {S S' rest : List Value} {F F' G G' : List Ent} {cells slots : Nat}
theorem own_ext_refl (h : Heap) : Ext h h := ⟨Nat.le_refl _, fun _ _ q => q⟩
theorem own_ext_trans {h1 h2 h3 : Heap} (a : Ext h1 h2) (b : Ext h2 h3) : Ext h1 h3 := ⟨Nat.le_trans a.1 b.1, fun x c q => b.2 x c (a.2 x c q)⟩
theorem Hp.lt {Z : State} {EL : List (String × Nat)} {vm : Vm} {h : Heap} (H : Hp Z EL vm h F G) {q : Ent} (m : q ∈ F) : q.1 < h.size := by
  obtain ⟨c, e, -⟩ := H.2.1 q m
  exact (Array.getElem?_eq_some_iff.mp e).1
/-- the tables go on -/
theorem Hp.later {Z : State} {EL : List (String × Nat)} {vm vm1 : Vm} {h h' : Heap} (H : Hp Z EL vm h F G) (C : CHr Z EL vm h vm1 h') (E : Ext h h') : Hp Z EL vm1 h' F G :=
  ⟨own_ext_trans H.1 E, fun q m => by obtain ⟨c, e, p⟩ := H.2.1 q m; exact ⟨c, E.2 _ _ e, p⟩, fun q m => by obtain ⟨c, e, p⟩ := H.2.2.1 q m; exact ⟨c, E.2 _ _ e, p⟩, H.2.2.2.1,
    fun q m => ⟨(H.2.2.2.2 q m).1, C.safe (H.lt m) (H.2.2.2.2 q m).2.1, (H.2.2.2.2 q m).2.2⟩⟩
theorem Hp.perm {Z : State} {EL : List (String × Nat)} {vm : Vm} {h : Heap} (H : Hp Z EL vm h F G) (P : F.Perm F') : Hp Z EL vm h F' G :=
  ⟨H.1, fun q m => H.2.1 q (P.mem_iff.mpr m), H.2.2.1, (P.map _).nodup_iff.mp H.2.2.2.1, fun q m => H.2.2.2.2 q (P.mem_iff.mpr m)⟩
theorem Hp.gsub {Z : State} {EL : List (String × Nat)} {vm : Vm} {h : Heap} (H : Hp Z EL vm h F G) (P : ∀ q ∈ G', q ∈ G) : Hp Z EL vm h F G' :=
  ⟨H.1, H.2.1, fun q m => H.2.2.1 q (P q m), H.2.2.2.1, fun q m => ⟨(H.2.2.2.2 q m).1, (H.2.2.2.2 q m).2.1, fun r k => (H.2.2.2.2 q m).2.2 r (P r k)⟩⟩
/-- an owned cell is only read from here on -/
theorem Hp.freeze {Z : State} {EL : List (String × Nat)} {vm : Vm} {h : Heap} {q : Ent} (H : Hp Z EL vm h (q :: F) G) : Hp Z EL vm h F (q :: G) := by
  obtain ⟨h1, h2, h3, h4, h5⟩ := H
  have hn := List.nodup_cons.mp h4
  refine ⟨h1, fun r m => h2 r (List.mem_cons_of_mem _ m), fun r m => ?_, hn.2, fun r m => ⟨(h5 r (List.mem_cons_of_mem _ m)).1, (h5 r (List.mem_cons_of_mem _ m)).2.1, fun t k => ?_⟩⟩
  · rcases List.mem_cons.mp m with rfl | m
    · exact h2 _ (List.mem_cons_self ..)
    · exact h3 r m
  · rcases List.mem_cons.mp k with rfl | k
    · exact fun z => hn.1 (List.mem_map.mpr ⟨r, m, z.symm⟩)
    · exact (h5 r (List.mem_cons_of_mem _ m)).2.2 t k
theorem Hp.drop {Z : State} {EL : List (String × Nat)} {vm : Vm} {h : Heap} {q : Ent} (H : Hp Z EL vm h (q :: F) G) : Hp Z EL vm h F G := H.freeze.gsub fun _ m => List.mem_cons_of_mem _ m
/-- a new cell -/
theorem Hp.new {Z : State} {EL : List (String × Nat)} {vm : Vm} {h h' : Heap} {P : Cell → Prop} {c : Cell} (H : Hp Z EL vm h F G) (hC : CHv Z EL vm h) (E : Ext h h') (hc : h'[h.size]? = some c) (hp : P c) : Hp Z EL vm h' ((h.size, P) :: F) G := by
  obtain ⟨h1, h2, h3, h4, h5⟩ := H
  have hlt : h.size < h'.size := (Array.getElem?_eq_some_iff.mp hc).1
  have gl : ∀ r ∈ G, r.1 < h.size := fun r m => by obtain ⟨c, e, -⟩ := h3 r m; exact (Array.getElem?_eq_some_iff.mp e).1
  have fl : ∀ r ∈ F, r.1 < h.size := fun r m => by obtain ⟨c, e, -⟩ := h2 r m; exact (Array.getElem?_eq_some_iff.mp e).1
  refine ⟨own_ext_trans h1 E, fun q m => ?_, fun q m => by obtain ⟨c, e, p⟩ := h3 q m; exact ⟨c, E.2 _ _ e, p⟩, ?_, fun q m => ?_⟩
  · rcases List.mem_cons.mp m with rfl | m
    · exact ⟨c, hc, hp⟩
    · obtain ⟨c, e, p⟩ := h2 q m; exact ⟨c, E.2 _ _ e, p⟩
  · refine List.nodup_cons.mpr ⟨fun z => ?_, h4⟩
    obtain ⟨r, m, e⟩ := List.mem_map.mp z
    exact absurd e (Nat.ne_of_lt (fl r m))
  · rcases List.mem_cons.mp m with rfl | m
    · exact ⟨h1.1, Safe.ext E hC (Safe.new (Nat.le_refl _)), fun r k => Nat.ne_of_lt (gl r k)⟩
    · exact ⟨(h5 q m).1, Safe.ext E hC (h5 q m).2.1, (h5 q m).2.2⟩
/-- one owned cell is written -/
theorem Hp.wr {Z : State} {EL : List (String × Nat)} {vm : Vm} {h h' : Heap} {a : Addr} {sl : Nat} {v : Value} {P P' : Cell → Prop} (H : Hp Z EL vm h ((a, P) :: F) G) (hC : CHv Z EL vm h) (W : Wr h h' a sl v) (hp : ∀ c, P c → P' (c.setSlot sl v)) : Hp Z EL vm h' ((a, P') :: F) G := by
  obtain ⟨h1, h2, h3, h4, h5⟩ := H
  have hn := List.nodup_cons.mp h4
  have sa := h5 _ (List.mem_cons_self ..)
  have oth : ∀ (b : Addr) (c : Cell), b ≠ a → h[b]? = some c → h'[b]? = some c := fun b c ne e => by
    obtain ⟨c', e1, -, -, -, e5, -⟩ := wr_at W e
    rw [← e5 ne]; exact e1
  refine ⟨⟨by rw [W.size]; exact h1.1, fun b c e => ?_⟩, fun q m => ?_, fun q m => ?_, h4, fun q m => ?_⟩
  · exact oth b c (Nat.ne_of_lt (Nat.lt_of_lt_of_le (Array.getElem?_eq_some_iff.mp e).1 sa.1)) (h1.2 b c e)
  · rcases List.mem_cons.mp m with rfl | m
    · obtain ⟨c, e, p⟩ := h2 _ (List.mem_cons_self ..)
      obtain ⟨c', e1, -, -, -, -, -, e7⟩ := wr_at W e
      exact ⟨c', e1, by rw [(e7 rfl).1]; exact hp c p⟩
    · obtain ⟨c, e, p⟩ := h2 q (List.mem_cons_of_mem _ m)
      refine ⟨c, oth _ _ (fun z => hn.1 (List.mem_map.mpr ⟨q, m, z⟩)) e, p⟩
  · obtain ⟨c, e, p⟩ := h3 q m
    exact ⟨c, oth _ _ (sa.2.2 q m) e, p⟩
  · have key : ∀ r : Ent, r ∈ (a, P) :: F → Z.heap.size ≤ r.1 ∧ Safe Z EL vm h' r.1 ∧ ∀ t ∈ G, t.1 ≠ r.1 := fun r m => ⟨(h5 r m).1, Safe.wr W sa.2.1 hC (h5 r m).2.1, (h5 r m).2.2⟩
    rcases List.mem_cons.mp m with rfl | m
    · exact key (a, P) (List.mem_cons_self ..)
    · exact key q (List.mem_cons_of_mem _ m)
/-- a cell may be forgotten, or known less well -/
theorem Hp.weak {Z : State} {EL : List (String × Nat)} {vm : Vm} {h : Heap} {a : Addr} {P P' : Cell → Prop} (H : Hp Z EL vm h ((a, P) :: F) G) (hp : ∀ c, P c → P' c) : Hp Z EL vm h ((a, P') :: F) G := by
  obtain ⟨h1, h2, h3, h4, h5⟩ := H
  refine ⟨h1, fun q m => ?_, h3, h4, fun q m => ?_⟩
  · rcases List.mem_cons.mp m with rfl | m
    · obtain ⟨c, e, p⟩ := h2 _ (List.mem_cons_self ..); exact ⟨c, e, hp c p⟩
    · exact h2 q (List.mem_cons_of_mem _ m)
  · rcases List.mem_cons.mp m with rfl | m
    · exact h5 (a, P) (List.mem_cons_self ..)
    · exact h5 q (List.mem_cons_of_mem _ m)
theorem Hp.at {Z : State} {EL : List (String × Nat)} {vm : Vm} {h : Heap} {a : Addr} {P : Cell → Prop} (H : Hp Z EL vm h F G) (m : (a, P) ∈ F ∨ (a, P) ∈ G) : ∃ c : Cell, h[a]? = some c ∧ P c := by
  rcases m with m | m
  · exact H.2.1 _ m
  · exact H.2.2.1 _ m
/-! the laws of Go -/
theorem Go.step (h : Bdy A B D → ∀ (T : State) (target : State), At T D.m D.c D.below → Steps D.p.tables D.e D.below (T.setTop (mkF D.m pc' L'.toArray S')) target → Steps D.p.tables D.e D.below (T.setTop (mkF D.m pc L.toArray S)) target)
    (k : Go A B D Q pc' L' S' F G cells slots) : Go A B D Q pc L S F G cells slots := fun hb T hT => by
  obtain ⟨s₂, o, st, r⟩ := k hb T hT
  obtain ⟨vm0, k0, locs, X, -⟩ := hT
  exact ⟨s₂, o, h hb T s₂ X.here st, r⟩
/-- a step that leaves the heap alone -/
theorem Go.stay (h : Bdy A B D → ∀ (T : State) (vm0 : Vm) (locs : List Loc), Stand D.p A.l D.e B.rm (D.s.setVm vm0) D.m D.args D.below D.meth D.c T locs cells slots → A.Z.Warmed39 vm0 → vm0.findClass B.y.cls = some D.m.cls → Hp A.Z A.EL vm0 T.heap F G →
      ∃ T', Stand D.p A.l D.e B.rm (D.s.setVm vm0) D.m D.args D.below D.meth D.c T' locs cells slots ∧ T'.heap = T.heap ∧ ∀ target, Steps D.p.tables D.e D.below (T'.setTop (mkF D.m pc' L'.toArray S')) target → Steps D.p.tables D.e D.below (T.setTop (mkF D.m pc L.toArray S)) target)
    (k : Go A B D Q pc' L' S' F G cells slots) : Go A B D Q pc L S F G cells slots := fun hb T hT => by
  obtain ⟨vm0, k0, locs, X, hZ, hown, hS, hk, N, C, H⟩ := hT
  obtain ⟨T', X', e, st⟩ := h hb T vm0 locs X hZ hown H
  obtain ⟨s₂, o, st', r⟩ := k hb T' ⟨vm0, k0, locs, X', hZ, hown, hS, e ▸ hk, N, by rw [e]; exact C, by rw [e]; exact H⟩
  exact ⟨s₂, o, st _ st', r⟩
theorem Go.mono {cells' slots' : Nat} (h1 : cells ≤ cells') (h2 : slots ≤ slots') (k : Go A B D Q pc L S F G cells' slots') : Go A B D Q pc L S F G cells slots := fun hb T hT => by
  obtain ⟨vm0, k0, locs, X, r⟩ := hT
  exact k hb T ⟨vm0, k0, locs, X.more h1 h2, r⟩
theorem Go.perm (P : F.Perm F') (k : Go A B D Q pc L S F' G cells slots) : Go A B D Q pc L S F G cells slots := fun hb T hT => by
  obtain ⟨vm0, k0, locs, X, hZ, hown, hS, hk, N, C, H⟩ := hT
  exact k hb T ⟨vm0, k0, locs, X, hZ, hown, hS, hk, N, C, H.perm P⟩
theorem own_front : ∀ (F : List Ent) (i : Nat) (q : Ent), F[i]? = some q → F.Perm (q :: F.eraseIdx i)
  | [], i, q, h => by simp at h
  | a :: r, 0, q, h => by
    have e : a = q := by simpa using h
    rw [e]; exact List.Perm.refl _
  | a :: r, i + 1, q, h => by
    have := own_front r i q (by simpa using h)
    exact (this.cons a).trans (List.Perm.swap q a _)
theorem Go.front (i : Nat) {q : Ent} (h : F[i]? = some q) (h' : q :: F.eraseIdx i = F') (k : Go A B D Q pc L S F' G cells slots) : Go A B D Q pc L S F G cells slots := Go.perm (h' ▸ own_front F i q h) k
theorem Go.freeze {q : Ent} (k : Go A B D Q pc L S F (q :: G) cells slots) : Go A B D Q pc L S (q :: F) G cells slots := fun hb T hT => by
  obtain ⟨vm0, k0, locs, X, hZ, hown, hS, hk, N, C, H⟩ := hT
  exact k hb T ⟨vm0, k0, locs, X, hZ, hown, hS, hk, N, C, H.freeze⟩
theorem Go.drop {q : Ent} (k : Go A B D Q pc L S F G cells slots) : Go A B D Q pc L S (q :: F) G cells slots := fun hb T hT => by
  obtain ⟨vm0, k0, locs, X, hZ, hown, hS, hk, N, C, H⟩ := hT
  exact k hb T ⟨vm0, k0, locs, X, hZ, hown, hS, hk, N, C, H.drop⟩
theorem Go.gsub (P : ∀ q ∈ G', q ∈ G) (k : Go A B D Q pc L S F G' cells slots) : Go A B D Q pc L S F G cells slots := fun hb T hT => by
  obtain ⟨vm0, k0, locs, X, hZ, hown, hS, hk, N, C, H⟩ := hT
  exact k hb T ⟨vm0, k0, locs, X, hZ, hown, hS, hk, N, C, H.gsub P⟩
theorem Go.weak {a : Addr} {P P' : Cell → Prop} (hp : ∀ c, P c → P' c) (k : Go A B D Q pc L S ((a, P') :: F) G cells slots) : Go A B D Q pc L S ((a, P) :: F) G cells slots := fun hb T hT => by
  obtain ⟨vm0, k0, locs, X, hZ, hown, hS, hk, N, C, H⟩ := hT
  exact k hb T ⟨vm0, k0, locs, X, hZ, hown, hS, hk, N, C, H.weak hp⟩
/-- entering a method -/
theorem MetW.of_go {ws : List Cond} {as' : Array Value} (hpl : plainFor B.y = true) (hEL : EW A.Z A.a0 A.EL) (hef : ∀ m, entryFrame m as' B.maxL = mkF m 0 L.toArray []) (h : ∀ D : Dx, D.args = as' → Go A B D Q 0 L [] F G 0 0) : MetW ws A B as' F G Q := by
  refine MetFree.of_bodySF hpl hisR ?_
  intro p e s m args below meth c s₁ Bd hml hP hK
  obtain ⟨rfl, hZ, hC, H⟩ := hP
  have X0 : Stand p A.l e B.rm s m args below meth c s₁ [] 0 0 := Stand.of_body Bd
  have e0 : s₁.heap = s.heap := by rw [Bd.state]; rfl
  obtain ⟨s₂, o, st, r1, r2, v, L', F', G', eo, q, H', N', C', W'⟩ := h (p, e, s, m, args, below, meth, c) rfl ⟨Bd.exec, Bd.bytes, hml, Bd.returns, (name_of_methodNamed Bd.named Bd.method).1, Bd.notSynchronized, hEL⟩ s₁
    ⟨s.vm, s.heap.size, [], X0, hZ, findClass_of_methodNamed Bd.named, State.WarmedH.since (State.WarmedH.refl s) _, by rw [e0]; exact Nat.le_refl _, ⟨Fr.nil _, fun _ => State.WarmedH.refl s⟩, by rw [e0]; exact CHr.refl hC, by rw [e0]; exact H⟩
  exact ⟨s₂, o, castTop (hef m) st, r1, r2, v, L', F', G', eo, q, H', N', C', W'⟩
end Own
/-! own_2: a run of plain steps, by one evaluation -/
/-- what i2c and i2b keep -/
def chr16 (x : Int32) : Int32 := x.toUInt32.toUInt16.toUInt32.toInt32
def byt8 (x : Int32) : Int32 := x.toInt8.toInt32
abbrev In1 : Type := Nat × Instr × Nat
abbrev Pl : Type := Nat × List Slot × List Value
def setL (L : List Slot) (i : Nat) (x : Slot) : Option (List Slot) := if i < L.length then some (L.set i x) else none
def stoSelf (L : List Slot) (i : Nat) (v : Value) : Option (List Slot) :=
  (setL L i (.val v)).bind fun L1 => if v.category = 2 then L1[i + 1]?.bind fun o => match o with
    | .val old => if old.category = 2 then (setL L1 (i + 2) .unset).bind fun L2 => setL L2 (i + 1) .second else setL L1 (i + 1) .second
    | _ => setL L1 (i + 1) .second
  else some L1
def sto (L : List Slot) (i : Nat) (v : Value) : Option (List Slot) :=
  L[i]?.bind fun o => match o with
    | .second => (setL L (i - 1) .unset).bind fun L1 => stoSelf L1 i v
    | .val old => if old.category = 2 then (setL L (i + 1) .unset).bind fun L1 => stoSelf L1 i v else stoSelf L i v
    | .unset => stoSelf L i v
theorem own_setL (L : List Slot) (i : Nat) (x : Slot) : Jvm.setAt L.toArray i x = (setL L i x).map List.toArray := by
  unfold Jvm.setAt setL; by_cases h : i < L.length <;> simp [h]
theorem own_stoSelf (L : List Slot) (i : Nat) (v : Value) : storeSelf L.toArray i v = (stoSelf L i v).map List.toArray := by
  unfold storeSelf stoSelf
  rw [own_setL]
  cases h1 : setL L i (.val v) with
  | none => rfl
  | some L1 =>
    simp only [Option.map_some, Option.bind_eq_bind, Option.bind_some]
    by_cases hv : v.category = 2
    · simp only [hv, if_true, List.getElem?_toArray]
      cases h2 : L1[i + 1]? with
      | none => rfl
      | some o =>
        simp only [Option.bind_some]
        cases o with
        | unset => exact own_setL ..
        | second => exact own_setL ..
        | val old =>
          by_cases hc : old.category = 2
          · simp only [hc, if_true]
            rw [own_setL]
            cases h3 : setL L1 (i + 2) .unset with
            | none => rfl
            | some L2 => exact own_setL ..
          · simp only [hc, if_false]; exact own_setL ..
    · simp only [hv, if_false, Option.map_some]
theorem own_sto (L : List Slot) (i : Nat) (v : Value) : storeLocals L.toArray i v = (sto L i v).map List.toArray := by
  unfold storeLocals sto
  simp only [List.getElem?_toArray, Option.bind_eq_bind]
  cases h2 : L[i]? with
  | none => rfl
  | some o =>
    simp only [Option.bind_some]
    cases o with
    | unset => exact own_stoSelf ..
    | second =>
      rw [own_setL]
      cases h3 : setL L (i - 1) .unset with
      | none => rfl
      | some L2 => exact own_stoSelf ..
    | val old =>
      by_cases hc : old.category = 2
      · simp only [hc, if_true]
        rw [own_setL]
        cases h3 : setL L (i + 1) .unset with
        | none => rfl
        | some L2 => exact own_stoSelf ..
      · simp only [hc, if_false]; exact own_stoSelf ..
theorem own_sto' {L L' : List Slot} {i : Nat} {v : Value} (h : sto L i v = some L') : storeLocals L.toArray i v = some L'.toArray := by rw [own_sto, h]; rfl
def ld (L : List Slot) (k : Nat) : Option Value := match L[k]? with
  | some (.val v) => some v
  | _ => none
theorem own_ld {L : List Slot} {k : Nat} {v : Value} (h : ld L k = some v) : L.toArray[k]? = some (.val v) := by
  unfold ld at h
  rw [List.getElem?_toArray]
  split at h <;> simp_all
def ldI (L : List Slot) (k : Nat) : Option Int32 := match ld L k with
  | some (.int v) => some v
  | _ => none
def ldJ (L : List Slot) (k : Nat) : Option Int64 := match ld L k with
  | some (.long v) => some v
  | _ => none
def ldA (L : List Slot) (k : Nat) : Option Value := match ld L k with
  | some (.ref a) => some (.ref a)
  | some .null => some .null
  | _ => none
theorem own_ldI {L : List Slot} {k : Nat} {v : Int32} (h : ldI L k = some v) : L.toArray[k]? = some (.val (.int v)) := by
  unfold ldI at h; split at h
  · rename_i e; cases h; exact own_ld e
  · cases h
theorem own_ldJ {L : List Slot} {k : Nat} {v : Int64} (h : ldJ L k = some v) : L.toArray[k]? = some (.val (.long v)) := by
  unfold ldJ at h; split at h
  · rename_i e; cases h; exact own_ld e
  · cases h
theorem own_ldA {L : List Slot} {k : Nat} {v : Value} (h : ldA L k = some v) : L.toArray[k]? = some (.val v) ∧ v.isRef = true := by
  unfold ldA at h; split at h
  · rename_i e; cases h; exact ⟨own_ld e, rfl⟩
  · rename_i e; cases h; exact ⟨own_ld e, rfl⟩
  · cases h
def bin (S : List Value) (f : Int32 → Int32 → Int32) : Option (List Value) := match S with
  | .int y :: .int x :: r => some (.int (f x y) :: r)
  | _ => none
def binL (S : List Value) (f : Int64 → Int64 → Value) : Option (List Value) := match S with
  | .long y :: .long x :: r => some (f x y :: r)
  | _ => none
def shfL (S : List Value) (f : Int64 → Int32 → Int64) : Option (List Value) := match S with
  | .int y :: .long x :: r => some (.long (f x y) :: r)
  | _ => none
def un (S : List Value) (f : Int32 → Value) : Option (List Value) := match S with
  | .int x :: r => some (f x :: r)
  | _ => none
def unL (S : List Value) (f : Int64 → Value) : Option (List Value) := match S with
  | .long x :: r => some (f x :: r)
  | _ => none
def stI1 (L : List Slot) (S : List Value) (k : Nat) : Option (List Slot × List Value) := match S with
  | .int x :: r => (sto L k (.int x)).map fun L' => (L', r)
  | _ => none
def stJ1 (L : List Slot) (S : List Value) (k : Nat) : Option (List Slot × List Value) := match S with
  | .long x :: r => (sto L k (.long x)).map fun L' => (L', r)
  | _ => none
def stA1 (L : List Slot) (S : List Value) (k : Nat) : Option (List Slot × List Value) := match S with
  | .ref x :: r => (sto L k (.ref x)).map fun L' => (L', r)
  | .null :: r => (sto L k .null).map fun L' => (L', r)
  | _ => none
def dupV (S : List Value) : Option (List Value) := match S with
  | x :: r => if x.category = 1 then some (x :: x :: r) else none
  | _ => none
def dup1V (S : List Value) : Option (List Value) := match S with
  | x :: y :: r => if x.category = 1 ∧ y.category = 1 then some (x :: y :: x :: r) else none
  | _ => none
def dup2V (S : List Value) : Option (List Value) := match S with
  | x :: y :: r => if x.category = 1 ∧ y.category = 1 then some (x :: y :: x :: y :: r) else none
  | _ => none
def popV (S : List Value) : Option (List Value) := match S with
  | x :: r => if x.category = 1 then some r else none
  | _ => none
def step1 (q : In1) (t : Pl) : Option Pl := match q.2.1, q.2.2 with
  | .iload k, 2 => (ldI t.2.1 k).map fun v => (t.1 + 2, t.2.1, .int v :: t.2.2)
  | .iload_n k, 1 => (ldI t.2.1 k.val).map fun v => (t.1 + 1, t.2.1, .int v :: t.2.2)
  | .lload k, 2 => (ldJ t.2.1 k).map fun v => (t.1 + 2, t.2.1, .long v :: t.2.2)
  | .lload_n k, 1 => (ldJ t.2.1 k.val).map fun v => (t.1 + 1, t.2.1, .long v :: t.2.2)
  | .aload k, 2 => (ldA t.2.1 k).map fun v => (t.1 + 2, t.2.1, v :: t.2.2)
  | .aload_n k, 1 => (ldA t.2.1 k.val).map fun v => (t.1 + 1, t.2.1, v :: t.2.2)
  | .istore k, 2 => (stI1 t.2.1 t.2.2 k).map fun r => (t.1 + 2, r)
  | .istore_n k, 1 => (stI1 t.2.1 t.2.2 k.val).map fun r => (t.1 + 1, r)
  | .lstore k, 2 => (stJ1 t.2.1 t.2.2 k).map fun r => (t.1 + 2, r)
  | .lstore_n k, 1 => (stJ1 t.2.1 t.2.2 k.val).map fun r => (t.1 + 1, r)
  | .astore k, 2 => (stA1 t.2.1 t.2.2 k).map fun r => (t.1 + 2, r)
  | .astore_n k, 1 => (stA1 t.2.1 t.2.2 k.val).map fun r => (t.1 + 1, r)
  | .iconst i, 1 => some (t.1 + 1, t.2.1, .int (Int32.ofInt i) :: t.2.2)
  | .bipush i, 2 => some (t.1 + 2, t.2.1, .int (Int8.ofInt i).toInt32 :: t.2.2)
  | .sipush i, 3 => some (t.1 + 3, t.2.1, .int (Int16.ofInt i).toInt32 :: t.2.2)
  | .lconst k, 1 => some (t.1 + 1, t.2.1, .long (Int64.ofNat k) :: t.2.2)
  | .aconst_null, 1 => some (t.1 + 1, t.2.1, .null :: t.2.2)
  | .iadd, 1 => (bin t.2.2 (· + ·)).map fun r => (t.1 + 1, t.2.1, r)
  | .isub, 1 => (bin t.2.2 (· - ·)).map fun r => (t.1 + 1, t.2.1, r)
  | .imul, 1 => (bin t.2.2 (· * ·)).map fun r => (t.1 + 1, t.2.1, r)
  | .iand, 1 => (bin t.2.2 (· &&& ·)).map fun r => (t.1 + 1, t.2.1, r)
  | .ior, 1 => (bin t.2.2 (· ||| ·)).map fun r => (t.1 + 1, t.2.1, r)
  | .ixor, 1 => (bin t.2.2 (· ^^^ ·)).map fun r => (t.1 + 1, t.2.1, r)
  | .ishl, 1 => (bin t.2.2 fun x y => x <<< (y &&& 31)).map fun r => (t.1 + 1, t.2.1, r)
  | .ishr, 1 => (bin t.2.2 fun x y => x >>> (y &&& 31)).map fun r => (t.1 + 1, t.2.1, r)
  | .iushr, 1 => (bin t.2.2 Jvm.Free.XT.ushr).map fun r => (t.1 + 1, t.2.1, r)
  | .ineg, 1 => (un t.2.2 fun x => .int (-x)).map fun r => (t.1 + 1, t.2.1, r)
  | .ladd, 1 => (binL t.2.2 fun x y => .long (x + y)).map fun r => (t.1 + 1, t.2.1, r)
  | .lsub, 1 => (binL t.2.2 fun x y => .long (x - y)).map fun r => (t.1 + 1, t.2.1, r)
  | .land, 1 => (binL t.2.2 fun x y => .long (x &&& y)).map fun r => (t.1 + 1, t.2.1, r)
  | .lor, 1 => (binL t.2.2 fun x y => .long (x ||| y)).map fun r => (t.1 + 1, t.2.1, r)
  | .lxor, 1 => (binL t.2.2 fun x y => .long (x ^^^ y)).map fun r => (t.1 + 1, t.2.1, r)
  | .lcmp, 1 => (binL t.2.2 fun x y => .int (Jvm.Free.XT.cmpL x y)).map fun r => (t.1 + 1, t.2.1, r)
  | .lshl, 1 => (shfL t.2.2 fun x y => x <<< (y.toInt64 &&& 63)).map fun r => (t.1 + 1, t.2.1, r)
  | .lshr, 1 => (shfL t.2.2 fun x y => x >>> (y.toInt64 &&& 63)).map fun r => (t.1 + 1, t.2.1, r)
  | .lushr, 1 => (shfL t.2.2 Jvm.Free.XT.ushrL).map fun r => (t.1 + 1, t.2.1, r)
  | .i2l, 1 => (un t.2.2 fun x => .long x.toInt64).map fun r => (t.1 + 1, t.2.1, r)
  | .l2i, 1 => (unL t.2.2 fun x => .int x.toInt32).map fun r => (t.1 + 1, t.2.1, r)
  | .i2b, 1 => (un t.2.2 fun x => .int (byt8 x)).map fun r => (t.1 + 1, t.2.1, r)
  | .i2c, 1 => (un t.2.2 fun x => .int (chr16 x)).map fun r => (t.1 + 1, t.2.1, r)
  | .i2s, 1 => (un t.2.2 fun x => .int x.toInt16.toInt32).map fun r => (t.1 + 1, t.2.1, r)
  | .iinc k c, 3 => (ldI t.2.1 k).bind fun v => (sto t.2.1 k (.int (v + Int32.ofInt c))).map fun L' => (t.1 + 3, L', t.2.2)
  | .dup, 1 => (dupV t.2.2).map fun r => (t.1 + 1, t.2.1, r)
  | .dup_x1, 1 => (dup1V t.2.2).map fun r => (t.1 + 1, t.2.1, r)
  | .dup2, 1 => (dup2V t.2.2).map fun r => (t.1 + 1, t.2.1, r)
  | .pop, 1 => (popV t.2.2).map fun r => (t.1 + 1, t.2.1, r)
  | .goto o, 3 => if 0 ≤ (t.1 : Int) + o then some (((t.1 : Int) + o).toNat, t.2.1, t.2.2) else none
  | _, _ => none
def runL : List In1 → Pl → Option Pl
  | [], t => some t
  | q :: r, t => if q.1 = t.1 then (step1 q t).bind (runL r) else none
section Own
variable {A : Ax} {B : Bx} {D : Dx} {Q : Pst} {pc pc' : Nat} {L L' : List Slot} {S S' rest : List Value} {F F' G G' : List Ent} {cells slots : Nat}
set_option maxHeartbeats 4000000 in
theorem own_step1 {q : In1} {t t' : Pl} (hpc : q.1 = t.1) (h : step1 q t = some t') (hd : decode D.c.code q.1 = .ok q.2) (hx : D.p.tables.exec = Jvm.exec) (T target : State) (X : At T D.m D.c D.below)
    (k : Steps D.p.tables D.e D.below (T.setTop (mkF D.m t'.1 t'.2.1.toArray t'.2.2)) target) : Steps D.p.tables D.e D.below (T.setTop (mkF D.m t.1 t.2.1.toArray t.2.2)) target := by
  obtain ⟨qpc, qi, ql⟩ := q
  obtain ⟨pc, L, S⟩ := t
  obtain ⟨pc', L', S'⟩ := t'
  simp only at hpc hd k ⊢
  subst hpc
  unfold step1 at h
  simp only at h
  split at h
  · obtain ⟨v, hv, e⟩ := Option.map_eq_some_iff.mp h; cases e; exact XS.iload X hx rfl hd (own_ldI hv) k
  · obtain ⟨v, hv, e⟩ := Option.map_eq_some_iff.mp h; cases e; exact XS.iloadN X hx rfl hd (own_ldI hv) k
  · obtain ⟨v, hv, e⟩ := Option.map_eq_some_iff.mp h; cases e; exact XT.lload X hx rfl hd (own_ldJ hv) k
  · obtain ⟨v, hv, e⟩ := Option.map_eq_some_iff.mp h; cases e; exact XT.lloadN X hx rfl hd (own_ldJ hv) k
  · obtain ⟨v, hv, e⟩ := Option.map_eq_some_iff.mp h; cases e; exact XS.aload X hx rfl hd (own_ldA hv).1 (own_ldA hv).2 k
  · obtain ⟨v, hv, e⟩ := Option.map_eq_some_iff.mp h; cases e; exact XS.aloadN X hx rfl hd (own_ldA hv).1 (own_ldA hv).2 k
  · obtain ⟨⟨L1, S1⟩, hv, e⟩ := Option.map_eq_some_iff.mp h; cases e; unfold stI1 at hv; split at hv
    · obtain ⟨L2, h2, e⟩ := Option.map_eq_some_iff.mp hv; cases e; exact XS.istore X hx rfl hd rfl (own_sto' h2) k
    · cases hv
  · obtain ⟨⟨L1, S1⟩, hv, e⟩ := Option.map_eq_some_iff.mp h; cases e; unfold stI1 at hv; split at hv
    · obtain ⟨L2, h2, e⟩ := Option.map_eq_some_iff.mp hv; cases e; exact XS.istoreN X hx rfl hd rfl (own_sto' h2) k
    · cases hv
  · obtain ⟨⟨L1, S1⟩, hv, e⟩ := Option.map_eq_some_iff.mp h; cases e; unfold stJ1 at hv; split at hv
    · obtain ⟨L2, h2, e⟩ := Option.map_eq_some_iff.mp hv; cases e; exact XT.lstore X hx rfl hd rfl (own_sto' h2) k
    · cases hv
  · obtain ⟨⟨L1, S1⟩, hv, e⟩ := Option.map_eq_some_iff.mp h; cases e; unfold stJ1 at hv; split at hv
    · obtain ⟨L2, h2, e⟩ := Option.map_eq_some_iff.mp hv; cases e; exact XT.lstoreN X hx rfl hd rfl (own_sto' h2) k
    · cases hv
  · obtain ⟨⟨L1, S1⟩, hv, e⟩ := Option.map_eq_some_iff.mp h; cases e; unfold stA1 at hv; split at hv
    · obtain ⟨L2, h2, e⟩ := Option.map_eq_some_iff.mp hv; cases e; exact XS.astore X hx rfl hd rfl rfl (own_sto' h2) k
    · obtain ⟨L2, h2, e⟩ := Option.map_eq_some_iff.mp hv; cases e; exact XS.astore X hx rfl hd rfl rfl (own_sto' h2) k
    · cases hv
  · obtain ⟨⟨L1, S1⟩, hv, e⟩ := Option.map_eq_some_iff.mp h; cases e; unfold stA1 at hv; split at hv
    · obtain ⟨L2, h2, e⟩ := Option.map_eq_some_iff.mp hv; cases e; exact XS.astoreN X hx rfl hd rfl rfl (own_sto' h2) k
    · obtain ⟨L2, h2, e⟩ := Option.map_eq_some_iff.mp hv; cases e; exact XS.astoreN X hx rfl hd rfl rfl (own_sto' h2) k
    · cases hv
  · cases h; exact XS.iconst X hx rfl hd k
  · cases h; exact XS.bipush X hx rfl hd k
  · cases h; exact XS.sipush X hx rfl hd k
  · cases h; exact XT.lconst X hx rfl hd k
  · cases h; exact XS.aconstNull X hx rfl hd k
  · obtain ⟨S1, hv, e⟩ := Option.map_eq_some_iff.mp h; cases e; unfold bin at hv; split at hv
    · cases hv; exact XS.iadd X hx rfl hd rfl k
    · cases hv
  · obtain ⟨S1, hv, e⟩ := Option.map_eq_some_iff.mp h; cases e; unfold bin at hv; split at hv
    · cases hv; exact XS.isub X hx rfl hd rfl k
    · cases hv
  · obtain ⟨S1, hv, e⟩ := Option.map_eq_some_iff.mp h; cases e; unfold bin at hv; split at hv
    · cases hv; exact XS.imul X hx rfl hd rfl k
    · cases hv
  · obtain ⟨S1, hv, e⟩ := Option.map_eq_some_iff.mp h; cases e; unfold bin at hv; split at hv
    · cases hv; exact XS.iand X hx rfl hd rfl k
    · cases hv
  · obtain ⟨S1, hv, e⟩ := Option.map_eq_some_iff.mp h; cases e; unfold bin at hv; split at hv
    · cases hv; exact XT.ior X hx rfl hd rfl k
    · cases hv
  · obtain ⟨S1, hv, e⟩ := Option.map_eq_some_iff.mp h; cases e; unfold bin at hv; split at hv
    · cases hv; exact XT.ixor X hx rfl hd rfl k
    · cases hv
  · obtain ⟨S1, hv, e⟩ := Option.map_eq_some_iff.mp h; cases e; unfold bin at hv; split at hv
    · cases hv; exact XT.ishl X hx rfl hd rfl k
    · cases hv
  · obtain ⟨S1, hv, e⟩ := Option.map_eq_some_iff.mp h; cases e; unfold bin at hv; split at hv
    · cases hv; exact XT.ishr X hx rfl hd rfl k
    · cases hv
  · obtain ⟨S1, hv, e⟩ := Option.map_eq_some_iff.mp h; cases e; unfold bin at hv; split at hv
    · cases hv; exact XT.iushr X hx rfl hd rfl k
    · cases hv
  · obtain ⟨S1, hv, e⟩ := Option.map_eq_some_iff.mp h; cases e; unfold un at hv; split at hv
    · cases hv; exact XS.ineg X hx rfl hd rfl k
    · cases hv
  · obtain ⟨S1, hv, e⟩ := Option.map_eq_some_iff.mp h; cases e; unfold binL at hv; split at hv
    · cases hv; exact XT.ladd X hx rfl hd rfl k
    · cases hv
  · obtain ⟨S1, hv, e⟩ := Option.map_eq_some_iff.mp h; cases e; unfold binL at hv; split at hv
    · cases hv; exact XT.lsub X hx rfl hd rfl k
    · cases hv
  · obtain ⟨S1, hv, e⟩ := Option.map_eq_some_iff.mp h; cases e; unfold binL at hv; split at hv
    · cases hv; exact XT.land X hx rfl hd rfl k
    · cases hv
  · obtain ⟨S1, hv, e⟩ := Option.map_eq_some_iff.mp h; cases e; unfold binL at hv; split at hv
    · cases hv; exact XT.lor X hx rfl hd rfl k
    · cases hv
  · obtain ⟨S1, hv, e⟩ := Option.map_eq_some_iff.mp h; cases e; unfold binL at hv; split at hv
    · cases hv; exact XT.lxor X hx rfl hd rfl k
    · cases hv
  · obtain ⟨S1, hv, e⟩ := Option.map_eq_some_iff.mp h; cases e; unfold binL at hv; split at hv
    · cases hv; exact XT.lcmp X hx rfl hd rfl k
    · cases hv
  · obtain ⟨S1, hv, e⟩ := Option.map_eq_some_iff.mp h; cases e; unfold shfL at hv; split at hv
    · cases hv; exact XT.lshl X hx rfl hd rfl k
    · cases hv
  · obtain ⟨S1, hv, e⟩ := Option.map_eq_some_iff.mp h; cases e; unfold shfL at hv; split at hv
    · cases hv; exact XT.lshr X hx rfl hd rfl k
    · cases hv
  · obtain ⟨S1, hv, e⟩ := Option.map_eq_some_iff.mp h; cases e; unfold shfL at hv; split at hv
    · cases hv; exact XT.lushr X hx rfl hd rfl k
    · cases hv
  · obtain ⟨S1, hv, e⟩ := Option.map_eq_some_iff.mp h; cases e; unfold un at hv; split at hv
    · cases hv; exact XT.i2l X hx rfl hd rfl k
    · cases hv
  · obtain ⟨S1, hv, e⟩ := Option.map_eq_some_iff.mp h; cases e; unfold unL at hv; split at hv
    · cases hv; exact XT.l2i X hx rfl hd rfl k
    · cases hv
  · obtain ⟨S1, hv, e⟩ := Option.map_eq_some_iff.mp h; cases e; unfold un at hv; split at hv
    · cases hv; exact XT.i2b X hx rfl hd rfl k
    · cases hv
  · obtain ⟨S1, hv, e⟩ := Option.map_eq_some_iff.mp h; cases e; unfold un at hv; split at hv
    · cases hv; exact XT.i2c X hx rfl hd rfl k
    · cases hv
  · obtain ⟨S1, hv, e⟩ := Option.map_eq_some_iff.mp h; cases e; unfold un at hv; split at hv
    · cases hv; exact XT.i2s X hx rfl hd rfl k
    · cases hv
  · obtain ⟨v, hv, e⟩ := Option.bind_eq_some_iff.mp h; obtain ⟨L2, h2, e⟩ := Option.map_eq_some_iff.mp e; cases e; exact XS.iinc X hx rfl hd (own_ldI hv) (own_sto' h2) k
  · obtain ⟨S1, hv, e⟩ := Option.map_eq_some_iff.mp h; cases e; unfold dupV at hv; split at hv
    · split at hv
      · cases hv; exact XS.dup X hx rfl hd rfl (by assumption) k
      · cases hv
    · cases hv
  · obtain ⟨S1, hv, e⟩ := Option.map_eq_some_iff.mp h; cases e; unfold dup1V at hv; split at hv
    · split at hv
      · rename_i hc; cases hv; exact XT.dupX1 X hx rfl hd rfl hc.1 hc.2 k
      · cases hv
    · cases hv
  · obtain ⟨S1, hv, e⟩ := Option.map_eq_some_iff.mp h; cases e; unfold dup2V at hv; split at hv
    · split at hv
      · rename_i hc; cases hv; exact XT.dup2 X hx rfl hd rfl hc.1 hc.2 k
      · cases hv
    · cases hv
  · obtain ⟨S1, hv, e⟩ := Option.map_eq_some_iff.mp h; cases e; unfold popV at hv; split at hv
    · split at hv
      · cases hv; exact XT.pop X hx rfl hd rfl (by assumption) k
      · cases hv
    · cases hv
  · split at h
    · rename_i ho; cases h; exact XS.goto X hx rfl rfl hd ho rfl k
    · cases h
  · cases h
theorem own_runL : ∀ (is : List In1) {t t' : Pl}, runL is t = some t' → (∀ q ∈ is, decode D.c.code q.1 = .ok q.2) → D.p.tables.exec = Jvm.exec → ∀ (T target : State), At T D.m D.c D.below →
    Steps D.p.tables D.e D.below (T.setTop (mkF D.m t'.1 t'.2.1.toArray t'.2.2)) target → Steps D.p.tables D.e D.below (T.setTop (mkF D.m t.1 t.2.1.toArray t.2.2)) target
  | [], t, t', h, _, _, T, target, X, k => by cases h; exact k
  | q :: r, t, t', h, hd, hx, T, target, X, k => by
    simp only [runL] at h
    split at h
    · rename_i hpc
      obtain ⟨t1, h1, h2⟩ := Option.bind_eq_some_iff.mp h
      exact own_step1 hpc h1 (hd q (List.mem_cons_self ..)) hx T target X (own_runL r h2 (fun z m => hd z (List.mem_cons_of_mem _ m)) hx T target X k)
    · cases h
/-- the decode table of a body -/
def Dec (bytes : ByteArray) (tb : List In1) : Prop := ∀ q ∈ tb, decode bytes q.1 = .ok q.2
theorem Go.run {tb : List In1} (hd : Dec B.bytes tb) (i n : Nat) (h : runL ((tb.drop i).take n) (pc, L, S) = some (pc', L', S')) (k : Go A B D Q pc' L' S' F G cells slots) : Go A B D Q pc L S F G cells slots :=
  Go.step (fun hb T target X st => own_runL _ h (fun q m => hb.2.1 ▸ hd q (List.mem_of_mem_drop (List.mem_of_mem_take m))) hb.1 T target X st) k
theorem Dec.at {bytes : ByteArray} {tb : List In1} (hd : Dec bytes tb) (hb : Bdy A B D) (e : B.bytes = bytes) {i : Nat} {q : In1} (h : tb[i]? = some q) : decode D.c.code q.1 = .ok q.2 := by
  rw [hb.2.1, e]; exact hd q (List.mem_of_getElem? h)
end Own
/-! own_3: branches, reads and writes -/
/-- what a condition says -/
def cnd : ClassFile.Cond → Int32 → Int32 → Prop
  | .eq, a, b => a = b
  | .ne, a, b => a ≠ b
  | .lt, a, b => a < b
  | .ge, a, b => b ≤ a
  | .gt, a, b => b < a
  | .le, a, b => a ≤ b
theorem own_cnd (cd : ClassFile.Cond) (a b : Int32) : if_icmp.holds cd a b = true ↔ cnd cd a b := by cases cd <;> simp [if_icmp.holds, cnd]
/-- an object: its class is C; these fields hold these values -/
def FdP (Z : State) (a0 : Array Value) (C : String) (c : Cell) (q : String × String × String × Value) : Prop :=
  Laid Z a0 C q.1 q.2.1 q.2.2.1 ∧ (∃ t, parseFieldDescriptor q.2.2.1 = some t) ∧ c.slots[Jvm.RoadKit.slotOf Z q.1 q.2.1 q.2.2.1]? = some q.2.2.2
def ClP (Z : State) (C : String) (c : Cell) : Prop := ∃ k : Class, Z.vm.findClass C = some c.cls ∧ Z.vm.classes[c.cls]? = some k ∧ c.vm.isStatics = false ∧ c.vm ≠ .unknown ∧ (k.kind = .ordinary → c.slots.size = k.instanceTypes.size)
def ObjP (A : Ax) (C : String) (fs : List (String × String × String × Value)) (c : Cell) : Prop := ClP A.Z C c ∧ ∀ q ∈ fs, FdP A.Z A.a0 C c q
/-- an array: its component type, and its components -/
def ArrP (A : Ax) (ty : FieldType) (vs : List Value) (c : Cell) : Prop := A.Z.isArrayOf c ty ∧ (c.vm ≠ .unknown ∧ (ty = .byte → ClP A.Z "[B" c)) ∧ c.slots.toList = vs
theorem ClP.exa {Z : State} {C : String} {c : Cell} {h : Heap} {a : Addr} (P : ClP Z C c) (e : h[a]? = some c) : Exa Z h a C := by
  obtain ⟨k, h1, h2, h3, -, h5⟩ := P; exact ⟨c, k, e, h1, h2, h3, h5⟩
theorem FdP.fld {Z : State} {a0 : Array Value} {C O n d : String} {v : Value} {c : Cell} {h : Heap} {a : Addr} (P : ClP Z C c) (F : FdP Z a0 C c (O, n, d, v)) (e : h[a]? = some c) : Fld Z h a O n d v := by
  obtain ⟨k, h1, h2, h3, h4, h5⟩ := P
  obtain ⟨L, -, hv⟩ := F
  obtain ⟨c1, k1, cf, kf, i, f, a1, a2, a3, a4, a5, a6, -⟩ := L.spec
  cases h1.symm.trans a1
  have es : Jvm.RoadKit.slotOf Z O n d = f.slot := by simp [Jvm.RoadKit.slotOf, a3]
  exact ⟨c, cf, kf, i, f, e, a3, a4, h4, h3, a5, by rw [← es]; exact hv⟩
theorem ClP.set {Z : State} {C : String} {c : Cell} (P : ClP Z C c) (sl : Nat) (v : Value) : ClP Z C (c.setSlot sl v) := by
  obtain ⟨k, h1, h2, h3, h4, h5⟩ := P; exact ⟨k, h1, h2, h3, h4, fun q => by rw [sz_set]; exact h5 q⟩
theorem ArrP.set {A : Ax} {ty : FieldType} {vs : List Value} {c : Cell} (P : ArrP A ty vs c) (i : Nat) (v : Value) : ArrP A ty (vs.set i v) (c.setSlot i v) := by
  obtain ⟨h1, h2, h3⟩ := P
  refine ⟨h1, ⟨h2.1, fun z => (h2.2 z).set i v⟩, ?_⟩
  show (c.slots.setIfInBounds i v).toList = _
  rw [Array.toList_setIfInBounds, h3]
theorem ArrP.size {A : Ax} {ty : FieldType} {vs : List Value} {c : Cell} (P : ArrP A ty vs c) : c.slots.size = vs.length := by rw [← P.2.2]; simp
theorem ArrP.get {A : Ax} {ty : FieldType} {vs : List Value} {c : Cell} (P : ArrP A ty vs c) (i : Nat) : c.slots[i]? = vs[i]? := by rw [← P.2.2]; simp
theorem ObjP.set {A : Ax} {C O n d : String} {v w : Value} {c : Cell} {fs fs' : List (String × String × String × Value)} (P : ObjP A C fs c) (hm : (O, n, d, w) ∈ fs)
    (hf : ∀ q ∈ fs', q = (O, n, d, v) ∨ (q ∈ fs ∧ q.2.1 ≠ n)) : ObjP A C fs' (c.setSlot (Jvm.RoadKit.slotOf A.Z O n d) v) := by
  obtain ⟨hc, hq⟩ := P
  refine ⟨hc.set _ _, fun q m => ?_⟩
  obtain ⟨L, ⟨t, ht⟩, hv⟩ := hq _ hm
  rcases hf q m with rfl | ⟨m', hn⟩
  · refine ⟨L, ⟨t, ht⟩, ?_⟩
    have hlt := (Array.getElem?_eq_some_iff.mp hv).1
    simp only at hlt
    simp [Cell.setSlot, hlt]
  · obtain ⟨L', ⟨t', ht'⟩, hv'⟩ := hq _ m'
    refine ⟨L', ⟨t', ht'⟩, ?_⟩
    have ne := slot_ne L' L hn ht' ht
    show (c.slots.setIfInBounds _ _)[_]? = _
    rw [Array.getElem?_setIfInBounds_ne (Ne.symm ne)]; exact hv'
theorem ObjP.less {A : Ax} {C : String} {c : Cell} {fs fs' : List (String × String × String × Value)} (P : ObjP A C fs c) (h : ∀ q ∈ fs', q ∈ fs) : ObjP A C fs' c := ⟨P.1, fun q m => P.2 q (h q m)⟩
theorem own_setmem {α : Type} : ∀ (fs : List α) (k : Nat) (p q : α), q ∈ fs.set k p → q = p ∨ q ∈ fs.eraseIdx k
  | [], _, _, _, h => by simp at h
  | a :: r, 0, p, q, h => by simpa using h
  | a :: r, k + 1, p, q, h => by
    simp only [List.set_cons_succ, List.mem_cons] at h
    simp only [List.eraseIdx_cons_succ, List.mem_cons]
    rcases h with h | h
    · exact Or.inr (Or.inl h)
    · exact (own_setmem r k p q h).imp id Or.inr
theorem own_fs {O n d : String} {v : Value} {fs fs' : List (String × String × String × Value)} (k : Nat) {ns : List String} (hns : (fs.eraseIdx k).map (·.2.1) = ns) (hd : ∀ x ∈ ns, x ≠ n) (h : fs.set k (O, n, d, v) = fs') : ∀ q ∈ fs', q = (O, n, d, v) ∨ (q ∈ fs ∧ q.2.1 ≠ n) := fun q m => by
  subst h
  refine (own_setmem _ _ _ _ m).imp id fun z => ⟨List.mem_of_mem_eraseIdx z, hd _ ?_⟩
  rw [← hns]; exact List.mem_map_of_mem z
theorem own_lay0 {A : Ax} {C : String} : ∀ q ∈ ([] : List (String × String × String × Value)), Laid A.Z A.a0 C q.1 q.2.1 q.2.2.1 ∧ ∃ t, parseFieldDescriptor q.2.2.1 = some t ∧ q.2.2.2 = defaultValue t := fun _ m => nomatch m
theorem own_layS {A : Ax} {C O n d : String} {v : Value} {t : FieldType} {fs : List (String × String × String × Value)} (h : Laid A.Z A.a0 C O n d) (ht : parseFieldDescriptor d = some t) (hv : v = defaultValue t) (r : ∀ q ∈ fs, Laid A.Z A.a0 C q.1 q.2.1 q.2.2.1 ∧ ∃ t, parseFieldDescriptor q.2.2.1 = some t ∧ q.2.2.2 = defaultValue t) :
    ∀ q ∈ (O, n, d, v) :: fs, Laid A.Z A.a0 C q.1 q.2.1 q.2.2.1 ∧ ∃ t, parseFieldDescriptor q.2.2.1 = some t ∧ q.2.2.2 = defaultValue t := fun q m => by
  rcases List.mem_cons.mp m with rfl | m
  · exact ⟨h, t, ht, hv⟩
  · exact r q m
def InB (j : Int32) (n : Nat) : Prop := 0 ≤ j.toInt ∧ j.toInt < n
theorem InB.in {j : Int32} {n : Nat} (h : InB j n) : ¬ (j < 0 ∨ n ≤ j.toNatClampNeg) := by
  obtain ⟨h1, h2⟩ := h
  simp only [Int32.lt_iff_toInt_lt, Int32.toNatClampNeg]
  have : (0 : Int32).toInt = 0 := rfl
  omega
section Own
variable {A : Ax} {B : Bx} {D : Dx} {Q : Pst} {pc pc' : Nat} {L L' : List Slot} {S S' rest : List Value} {F F' G G' : List Ent} {cells slots : Nat} {tb : List In1}
theorem own_dec (hd : Dec B.bytes tb) (hb : Bdy A B D) {i p : Nat} {r : Instr × Nat} (h : tb[i]? = some (p, r)) : decode D.c.code p = .ok r := by
  rw [hb.2.1]; exact hd (p, r) (List.mem_of_getElem? h)
theorem Go.icmp (hd : Dec B.bytes tb) (i : Nat) {cd : ClassFile.Cond} {o : Int} {x y : Int32} (hi : tb[i]? = some (pc, .if_icmp cd o, 3)) (ho : 0 ≤ (pc : Int) + o) (hp : ((pc : Int) + o).toNat = pc')
    (k1 : cnd cd x y → Go A B D Q pc' L rest F G cells slots) (k2 : ¬ cnd cd x y → Go A B D Q (pc + 3) L rest F G cells slots) : Go A B D Q pc L (.int y :: .int x :: rest) F G cells slots := by
  cases hc : if_icmp.holds cd x y with
  | true => exact Go.step (fun hb T target X st => XS.icmpYes X hb.1 rfl rfl (own_dec hd hb hi) rfl hc ho hp st) (k1 ((own_cnd ..).mp hc))
  | false => exact Go.step (fun hb T target X st => XS.icmpNo X hb.1 rfl (own_dec hd hb hi) rfl hc st) (k2 fun z => by rw [(own_cnd ..).mpr z] at hc; cases hc)
theorem Go.if0 (hd : Dec B.bytes tb) (i : Nat) {cd : ClassFile.Cond} {o : Int} {x : Int32} (hi : tb[i]? = some (pc, .ifCond cd o, 3)) (ho : 0 ≤ (pc : Int) + o) (hp : ((pc : Int) + o).toNat = pc')
    (k1 : cnd cd x 0 → Go A B D Q pc' L rest F G cells slots) (k2 : ¬ cnd cd x 0 → Go A B D Q (pc + 3) L rest F G cells slots) : Go A B D Q pc L (.int x :: rest) F G cells slots := by
  cases hc : ifCond.holds cd x with
  | true => exact Go.step (fun hb T target X st => XS.ifYes X hb.1 rfl rfl (own_dec hd hb hi) rfl hc ho hp st) (k1 ((own_cnd ..).mp (by rw [← Jvm.RoadKit.if0]; exact hc)))
  | false => exact Go.step (fun hb T target X st => XS.ifNo X hb.1 rfl (own_dec hd hb hi) rfl hc st) (k2 fun z => by rw [Jvm.RoadKit.if0, (own_cnd ..).mpr z] at hc; cases hc)
theorem Go.nonnullYes (hd : Dec B.bytes tb) (i : Nat) {o : Int} {a : Addr} (hi : tb[i]? = some (pc, .ifnonnull o, 3)) (ho : 0 ≤ (pc : Int) + o) (hp : ((pc : Int) + o).toNat = pc') (k : Go A B D Q pc' L rest F G cells slots) : Go A B D Q pc L (.ref a :: rest) F G cells slots :=
  Go.step (fun hb T target X st => XT.ifnonnullYes X hb.1 rfl rfl (own_dec hd hb hi) rfl ho hp st) k
theorem Go.acmp (hd : Dec B.bytes tb) (i : Nat) {cd : ACond} {o : Int} {x y : Value} (hi : tb[i]? = some (pc, .if_acmp cd o, 3)) (hx' : x.isRef = true) (hy' : y.isRef = true) (ho : 0 ≤ (pc : Int) + o) (hp : ((pc : Int) + o).toNat = pc')
    (k1 : XT.acmp cd x y = true → Go A B D Q pc' L rest F G cells slots) (k2 : XT.acmp cd x y = false → Go A B D Q (pc + 3) L rest F G cells slots) : Go A B D Q pc L (y :: x :: rest) F G cells slots := by
  cases hc : XT.acmp cd x y with
  | true => exact Go.step (fun hb T target X st => XT.acmpYes X hb.1 rfl rfl (own_dec hd hb hi) rfl hx' hy' hc ho hp st) (k1 hc)
  | false => exact Go.step (fun hb T target X st => XT.acmpNo X hb.1 rfl (own_dec hd hb hi) rfl hx' hy' hc st) (k2 hc)
theorem Go.irem (hd : Dec B.bytes tb) (i : Nat) {x y : Int32} (hi : tb[i]? = some (pc, .irem, 1)) (hy : y ≠ 0) (k : Go A B D Q (pc + 1) L (.int (x % y) :: rest) F G cells slots) : Go A B D Q pc L (.int y :: .int x :: rest) F G cells slots :=
  Go.step (fun hb T target X st => XS.irem X hb.1 rfl (own_dec hd hb hi) rfl hy (by rw [irem_eq_mod]; exact st)) k
/-! constants of the pool -/
theorem Go.ldcI (hd : Dec B.bytes tb) (i : Nat) {ix : Nat} {v : Int32} (hi : tb[i]? = some (pc, .ldc ix, 2)) (w : (Cond.constant B.y.cls ix v).before A.a0 A.Z = true) (k : Go A B D Q (pc + 2) L (.int v :: S) F G cells slots) : Go A B D Q pc L S F G cells slots :=
  Go.stay (fun hb T vm0 locs X hZ hown H => ⟨T, X, rfl, fun target st => X.ldcI hb.1 hown (mv (s := D.s.setVm vm0) hZ w) rfl (own_dec hd hb hi) st⟩) k
theorem Go.ldc2J (hd : Dec B.bytes tb) (i : Nat) {ix : Nat} {v : Int64} (hi : tb[i]? = some (pc, .ldc2_w ix, 3)) (w : (Cond.constantLong B.y.cls ix v).before A.a0 A.Z = true) (k : Go A B D Q (pc + 3) L (.long v :: S) F G cells slots) : Go A B D Q pc L S F G cells slots :=
  Go.stay (fun hb T vm0 locs X hZ hown H => ⟨T, X, rfl, fun target st => X.ldc2J hb.1 hown (mv (s := D.s.setVm vm0) hZ w) rfl (own_dec hd hb hi) st⟩) k
/-! fields -/
theorem Go.getfield (hd : Dec B.bytes tb) (i : Nat) {ix : Nat} {a : Addr} {C O n d : String} {v : Value} {fs : List (String × String × String × Value)} (hi : tb[i]? = some (pc, .getfield ix, 3)) (w : (Cond.fieldLink B.y.cls ix O n d).before A.a0 A.Z = true)
    (m : (a, ObjP A C fs) ∈ F ∨ (a, ObjP A C fs) ∈ G) (hf : (O, n, d, v) ∈ fs) (k : Go A B D Q (pc + 3) L (v :: rest) F G cells slots) : Go A B D Q pc L (.ref a :: rest) F G cells slots :=
  Go.stay (fun hb T vm0 locs X hZ hown H => by
    obtain ⟨c, e, P⟩ := H.at m
    obtain ⟨T', X', e', st⟩ := getF X hb.1 hZ hown (host := "") (Or.inl w) Via.refl rfl ((P.2 _ hf).fld P.1 e) (g := mkF D.m pc L.toArray (.ref a :: rest)) rfl rfl (own_dec hd hb hi)
    exact ⟨T', X', e', st⟩) k
theorem Go.getfieldVia (hd : Dec B.bytes tb) (i : Nat) {ix : Nat} {a : Addr} {C O R0 n d : String} {v : Value} {fs : List (String × String × String × Value)} (hi : tb[i]? = some (pc, .getfield ix, 3)) (w : (Cond.fieldLink B.y.cls ix R0 n d).before A.a0 A.Z = true) (via : Via A.Z R0 O n d)
    (m : (a, ObjP A C fs) ∈ F ∨ (a, ObjP A C fs) ∈ G) (hf : (O, n, d, v) ∈ fs) (k : Go A B D Q (pc + 3) L (v :: rest) F G cells slots) : Go A B D Q pc L (.ref a :: rest) F G cells slots :=
  Go.stay (fun hb T vm0 locs X hZ hown H => by
    obtain ⟨c, e, P⟩ := H.at m
    obtain ⟨T', X', e', st⟩ := getF X hb.1 hZ hown (host := "") (Or.inl w) via rfl ((P.2 _ hf).fld P.1 e) (g := mkF D.m pc L.toArray (.ref a :: rest)) rfl rfl (own_dec hd hb hi)
    exact ⟨T', X', e', st⟩) k
theorem Go.getstatic (hd : Dec B.bytes tb) (i : Nat) {ix : Nat} {O n d : String} {v : Value} (hi : tb[i]? = some (pc, .getstatic ix, 3)) (w : (Cond.fieldLink B.y.cls ix O n d).before A.a0 A.Z = true) (s : Sta A.Z A.Z.heap O n d v)
    (k : Go A B D Q (pc + 3) L (v :: S) F G cells slots) : Go A B D Q pc L S F G cells slots :=
  Go.stay (fun hb T vm0 locs X hZ hown H => by
    obtain ⟨T', X', e', st⟩ := getS X hb.1 hZ (host := "") hown w Via.refl rfl (s.ext H.1) (g := mkF D.m pc L.toArray S) rfl (own_dec hd hb hi)
    exact ⟨T', X', e', st⟩) k
/-- a step that writes one slot of the first owned cell -/
theorem Go.wrote {a : Addr} {P P' : Cell → Prop} {sl : Nat} {v : Value}
    (h : Bdy A B D → ∀ (T : State) (vm0 : Vm) (locs : List Loc) (c : Cell), Stand D.p A.l D.e B.rm (D.s.setVm vm0) D.m D.args D.below D.meth D.c T locs cells slots → A.Z.Warmed39 vm0 → vm0.findClass B.y.cls = some D.m.cls → T.heap[a]? = some c → P c →
      ∃ T' h', Stand D.p A.l D.e B.rm (D.s.setVm vm0) D.m D.args D.below D.meth D.c T' (locs ++ [⟨a, sl⟩]) cells slots ∧ T'.heap = h' ∧ Wr T.heap h' a sl v ∧ ∀ target, Steps D.p.tables D.e D.below (T'.setTop (mkF D.m pc' L'.toArray S')) target → Steps D.p.tables D.e D.below (T.setTop (mkF D.m pc L.toArray S)) target)
    (hp : ∀ c, P c → P' (c.setSlot sl v)) (k : Go A B D Q pc' L' S' ((a, P') :: F) G cells slots) : Go A B D Q pc L S ((a, P) :: F) G cells slots := fun hb T hT => by
  obtain ⟨vm0, k0, locs, X, hZ, hown, hS, hk, N, C, H⟩ := hT
  obtain ⟨c, e, p⟩ := H.at (a := a) (P := P) (Or.inl (List.mem_cons_self ..))
  obtain ⟨T', h', X', e', W, st⟩ := h hb T vm0 locs c X hZ hown e p
  have sa := H.2.2.2.2 _ (List.mem_cons_self ..)
  obtain ⟨s₂, o, st', r⟩ := k hb T' ⟨vm0, k0, _, X', hZ, hown, hS, by rw [e', W.size]; exact hk, ⟨Fr.snoc X' N.1 sa.1, N.2⟩, by rw [e']; exact C.trans (CHr.wr W sa.2.1 C.1), by rw [e']; exact H.wr C.1 W hp⟩
  exact ⟨s₂, o, st _ st', r⟩
theorem Go.putfield (hd : Dec B.bytes tb) (i : Nat) {ix kk : Nat} {a : Addr} {C O n d : String} {v w0 : Value} {fs fs' : List (String × String × String × Value)} {ty : FieldType} (hi : tb[i]? = some (pc, .putfield ix, 3)) (w : (Cond.fieldLink B.y.cls ix O n d).before A.a0 A.Z = true)
    (hl : (Cond.lays C O n d).before A.a0 A.Z = true ∨ ((Cond.laysFinal C O n d).before A.a0 A.Z = true ∧ B.y.cls = O ∧ B.y.name = "<init>")) (wi : (Cond.instantiable C kk).before A.a0 A.Z = true) (hty : parseFieldDescriptor d = some ty) (hn : narrow ty v = v) (hfi : fits ty v = true)
    (hm : (O, n, d, w0) ∈ fs) (hf : ∀ q ∈ fs', q = (O, n, d, v) ∨ (q ∈ fs ∧ q.2.1 ≠ n)) (k : Go A B D Q (pc + 3) L rest ((a, ObjP A C fs') :: F) G cells slots) : Go A B D Q pc L (v :: .ref a :: rest) ((a, ObjP A C fs) :: F) G cells slots :=
  Go.wrote (fun hb T vm0 locs c X hZ hown e P => by
    obtain ⟨T', h', X', e', W, st⟩ := putF X hb.1 hZ hown (host := "") (Or.inl w) Via.refl rfl ((P.2 _ hm).fld P.1 e) (P.1.exa e) (hl.imp id fun q => ⟨q.1, q.2.1, hb.2.2.2.2.1.trans q.2.2⟩) wi hty hn hfi (g := mkF D.m pc L.toArray (v :: .ref a :: rest)) rfl rfl (own_dec hd hb hi)
    exact ⟨T', h', X', e', W, st⟩) (fun c P => P.set hm hf) k
/-! arrays -/
theorem own_len {n : Nat} {z : Int32} (h : (n : Int) = z.toInt) : n.toInt32 = z := by
  rw [← Int32.toInt_inj]
  have h1 := z.toInt_lt
  rw [Int32.toInt_ofNat_small (by omega)]; exact h
theorem Go.arraylength (hd : Dec B.bytes tb) (i : Nat) {a : Addr} {ty : FieldType} {vs : List Value} {z : Int32} (hi : tb[i]? = some (pc, .arraylength, 1)) (m : (a, ArrP A ty vs) ∈ F ∨ (a, ArrP A ty vs) ∈ G) (hz : (vs.length : Int) = z.toInt)
    (k : Go A B D Q (pc + 1) L (.int z :: rest) F G cells slots) : Go A B D Q pc L (.ref a :: rest) F G cells slots :=
  Go.stay (fun hb T vm0 locs X hZ hown H => by
    obtain ⟨c, e, P⟩ := H.at m
    refine ⟨T, X, rfl, fun target st => X.arraylength hb.1 e (State.isArrayOf_alike (T := D.s.setVm vm0) hZ.alike P.1) (g := mkF D.m pc L.toArray (.ref a :: rest)) rfl rfl (own_dec hd hb hi) target ?_⟩
    rw [P.size, own_len hz]; exact st) k
theorem own_get {A : Ax} {ty : FieldType} {vs : List Value} {c : Cell} {j : Int32} {v : Value} (P : ArrP A ty vs c) (h : InB j vs.length) (hv : vs[j.toInt.toNat]? = some v) : ¬ (j < 0 ∨ c.slots.size ≤ j.toNatClampNeg) ∧ c.slots[j.toNatClampNeg]? = some v :=
  ⟨by rw [P.size]; exact h.in, by rw [P.get]; exact hv⟩
theorem Go.caload (hd : Dec B.bytes tb) (i : Nat) {a : Addr} {vs : List Value} {j : Int32} {v : Value} (hi : tb[i]? = some (pc, .caload, 1)) (m : (a, ArrP A .char vs) ∈ F ∨ (a, ArrP A .char vs) ∈ G) (h : InB j vs.length) (hv : vs[j.toInt.toNat]? = some v)
    (k : Go A B D Q (pc + 1) L (v :: rest) F G cells slots) : Go A B D Q pc L (.int j :: .ref a :: rest) F G cells slots :=
  Go.stay (fun hb T vm0 locs X hZ hown H => by
    obtain ⟨c, e, P⟩ := H.at m
    exact ⟨T, X, rfl, fun target st => X.caload hb.1 e (State.isArrayOf_alike (T := D.s.setVm vm0) hZ.alike P.1) P.2.1.1 (own_get P h hv).1 (own_get P h hv).2 (g := mkF D.m pc L.toArray (.int j :: .ref a :: rest)) rfl rfl (own_dec hd hb hi) target st⟩) k
theorem Go.baload (hd : Dec B.bytes tb) (i : Nat) {a : Addr} {vs : List Value} {j : Int32} {v : Value} (hi : tb[i]? = some (pc, .baload, 1)) (m : (a, ArrP A .byte vs) ∈ F ∨ (a, ArrP A .byte vs) ∈ G) (h : InB j vs.length) (hv : vs[j.toInt.toNat]? = some v)
    (k : Go A B D Q (pc + 1) L (v :: rest) F G cells slots) : Go A B D Q pc L (.int j :: .ref a :: rest) F G cells slots :=
  Go.stay (fun hb T vm0 locs X hZ hown H => by
    obtain ⟨c, e, P⟩ := H.at m
    exact ⟨T, X, rfl, fun target st => X.baloadBytes hb.1 e (State.isArrayOf_alike (T := D.s.setVm vm0) hZ.alike P.1) P.2.1.1 (own_get P h hv).1 (own_get P h hv).2 (g := mkF D.m pc L.toArray (.int j :: .ref a :: rest)) rfl rfl (own_dec hd hb hi) target st⟩) k
theorem Go.zaload (hd : Dec B.bytes tb) (i : Nat) {a : Addr} {vs : List Value} {j : Int32} {v : Value} (hi : tb[i]? = some (pc, .baload, 1)) (m : (a, ArrP A .boolean vs) ∈ F ∨ (a, ArrP A .boolean vs) ∈ G) (h : InB j vs.length) (hv : vs[j.toInt.toNat]? = some v)
    (k : Go A B D Q (pc + 1) L (v :: rest) F G cells slots) : Go A B D Q pc L (.int j :: .ref a :: rest) F G cells slots :=
  Go.stay (fun hb T vm0 locs X hZ hown H => by
    obtain ⟨c, e, P⟩ := H.at m
    exact ⟨T, X, rfl, fun target st => X.baloadBooleans hb.1 e (State.isArrayOf_alike (T := D.s.setVm vm0) hZ.alike P.1) P.2.1.1 (own_get P h hv).1 (own_get P h hv).2 (g := mkF D.m pc L.toArray (.int j :: .ref a :: rest)) rfl rfl (own_dec hd hb hi) target st⟩) k
theorem Go.aaload (hd : Dec B.bytes tb) (i : Nat) {a : Addr} {ty : FieldType} {vs : List Value} {j : Int32} {v : Value} (hi : tb[i]? = some (pc, .aaload, 1)) (ht : ty.isReference = true) (m : (a, ArrP A ty vs) ∈ F ∨ (a, ArrP A ty vs) ∈ G) (h : InB j vs.length) (hv : vs[j.toInt.toNat]? = some v)
    (k : Go A B D Q (pc + 1) L (v :: rest) F G cells slots) : Go A B D Q pc L (.int j :: .ref a :: rest) F G cells slots :=
  Go.stay (fun hb T vm0 locs X hZ hown H => by
    obtain ⟨c, e, P⟩ := H.at m
    exact ⟨T, X, rfl, fun target st => X.aaload hb.1 e (State.isArrayOf_alike (T := D.s.setVm vm0) hZ.alike P.1) ht P.2.1.1 (own_get P h hv).1 (own_get P h hv).2 (g := mkF D.m pc L.toArray (.int j :: .ref a :: rest)) rfl rfl (own_dec hd hb hi) target st⟩) k
theorem Go.castore (hd : Dec B.bytes tb) (i : Nat) {a : Addr} {vs vs' : List Value} {j x : Int32} (hi : tb[i]? = some (pc, .castore, 1)) (h : InB j vs.length) (hv : vs.set j.toInt.toNat (.int (chr16 x)) = vs')
    (k : Go A B D Q (pc + 1) L rest ((a, ArrP A .char vs') :: F) G cells slots) : Go A B D Q pc L (.int x :: .int j :: .ref a :: rest) ((a, ArrP A .char vs) :: F) G cells slots :=
  Go.wrote (fun hb T vm0 locs c X hZ hown e P => by
    obtain ⟨T', h', X', e', W, st⟩ := stC X hb.1 hZ rfl (cl := c) ⟨e, P.1, P.2.1.1⟩ (by rw [P.size]; exact h.in) (g := mkF D.m pc L.toArray (.int x :: .int j :: .ref a :: rest)) rfl rfl (own_dec hd hb hi)
    exact ⟨T', h', X', e', W, st⟩) (fun c P => by rw [← hv]; exact P.set _ _) k
theorem Go.bastore (hd : Dec B.bytes tb) (i : Nat) {a : Addr} {vs vs' : List Value} {j x : Int32} (hi : tb[i]? = some (pc, .bastore, 1)) (h : InB j vs.length) (hv : vs.set j.toInt.toNat (.int (byt8 x)) = vs')
    (k : Go A B D Q (pc + 1) L rest ((a, ArrP A .byte vs') :: F) G cells slots) : Go A B D Q pc L (.int x :: .int j :: .ref a :: rest) ((a, ArrP A .byte vs) :: F) G cells slots :=
  Go.wrote (fun hb T vm0 locs c X hZ hown e P => by
    obtain ⟨T', h', X', e', W, st⟩ := stB X hb.1 hZ rfl (cl := c) ⟨e, P.1, P.2.1.1⟩ (by rw [P.size]; exact h.in) (g := mkF D.m pc L.toArray (.int x :: .int j :: .ref a :: rest)) rfl rfl (own_dec hd hb hi)
    exact ⟨T', h', X', e', W, st⟩) (fun c P => by rw [← hv]; exact P.set _ _) k
theorem Go.zastore (hd : Dec B.bytes tb) (i : Nat) {a : Addr} {vs vs' : List Value} {j x : Int32} (hi : tb[i]? = some (pc, .bastore, 1)) (h : InB j vs.length) (hv : vs.set j.toInt.toNat (.int (x &&& 1)) = vs')
    (k : Go A B D Q (pc + 1) L rest ((a, ArrP A .boolean vs') :: F) G cells slots) : Go A B D Q pc L (.int x :: .int j :: .ref a :: rest) ((a, ArrP A .boolean vs) :: F) G cells slots :=
  Go.wrote (fun hb T vm0 locs c X hZ hown e P => by
    obtain ⟨T', h', X', e', W, st⟩ := stZ X hb.1 hZ rfl (cl := c) ⟨e, P.1, P.2.1.1⟩ (by rw [P.size]; exact h.in) (g := mkF D.m pc L.toArray (.int x :: .int j :: .ref a :: rest)) rfl rfl (own_dec hd hb hi)
    exact ⟨T', h', X', e', W, st⟩) (fun c P => by rw [← hv]; exact P.set _ _) k
end Own
/-! own_4: making cells, constants, calls, returns -/
section Own
variable {A : Ax} {B : Bx} {D : Dx} {Q : Pst} {pc pc' : Nat} {L L' : List Slot} {S S' rest : List Value} {F F' G G' : List Ent} {cells slots : Nat} {tb : List In1}
theorem Go.new (hd : Dec B.bytes tb) (i : Nat) {ix n : Nat} {C : String} {fs : List (String × String × String × Value)} (hi : tb[i]? = some (pc, .new ix, 3)) (w : (Cond.classLink B.y.cls ix C).before A.a0 A.Z = true) (wi : (Cond.instantiable C n).before A.a0 A.Z = true) (wz : (Cond.initialized C).before A.a0 A.Z = true)
    (hf : ∀ q ∈ fs, Laid A.Z A.a0 C q.1 q.2.1 q.2.2.1 ∧ ∃ t, parseFieldDescriptor q.2.2.1 = some t ∧ q.2.2.2 = defaultValue t) (hc : cells + 1 ≤ B.rm.cells) (hl : slots + n ≤ B.rm.slots)
    (k : ∀ a : Addr, Go A B D Q (pc + 3) L (.ref a :: S) ((a, ObjP A C fs) :: F) G (cells + 1) (slots + n)) : Go A B D Q pc L S F G cells slots := fun hb T hT => by
  obtain ⟨vm0, k0, locs, X, hZ, hown, hS, hk, N, Ch, H⟩ := hT
  obtain ⟨T', h', X', e', E, Ex, Df, ⟨cl, hcl, hv, -⟩, st⟩ := newO X hb.1 hZ hown w wi wz rfl (g := mkF D.m pc L.toArray S) rfl (own_dec hd hb hi) hc hl
  have hP : ObjP A C fs cl := by
    obtain ⟨c1, k1, q1, q2, q3, q4, q5⟩ := Ex
    cases hcl.symm.trans q1
    refine ⟨⟨k1, q2, q3, q4, by rw [hv]; simp, q5⟩, fun q m => ?_⟩
    obtain ⟨La, t, ht, hd⟩ := hf q m
    refine ⟨La, ⟨t, ht⟩, ?_⟩
    obtain ⟨c2, cf, kk, ii, f, g1, g2, -, -, -, -, g7⟩ := Df La ht
    cases hcl.symm.trans g1
    rw [hd, show Jvm.RoadKit.slotOf A.Z q.1 q.2.1 q.2.2.1 = f.slot by simp [Jvm.RoadKit.slotOf, g2]]; exact g7
  obtain ⟨s₂, o, st', r⟩ := k T.heap.size hb T' ⟨vm0, k0, _, X', hZ, hown, hS, by rw [e']; exact Nat.le_trans hk E.1, N, by rw [e']; exact Ch.trans (CHr.ext E Ch.1), by rw [e']; exact H.new Ch.1 E hcl hP⟩
  exact ⟨s₂, o, st _ st', r⟩
theorem Go.newarray (hd : Dec B.bytes tb) (i : Nat) {aty : ArrayType} {ty : FieldType} {n : Int32} {cap : Nat} {vs : List Value} (hi : tb[i]? = some (pc, .newarray aty, 2)) (ht : newarray.typeOf aty = ty) (w : (Cond.arrayClass ty).before A.a0 A.Z = true) (hn : 0 ≤ n.toInt) (hcap : n.toInt.toNat ≤ cap) (hb8 : cap * 8 ≤ 536870912)
    (hc : cells + 1 ≤ B.rm.cells) (hl : slots + cap ≤ B.rm.slots) (hv : List.replicate n.toInt.toNat (defaultValue ty) = vs)
    (k : ∀ a : Addr, Go A B D Q (pc + 2) L (.ref a :: rest) ((a, ArrP A ty vs) :: F) G (cells + 1) (slots + cap)) : Go A B D Q pc L (.int n :: rest) F G cells slots := fun hb T hT => by
  subst ht
  obtain ⟨vm0, k0, locs, X, hZ, hown, hS, hk, N, Ch, H⟩ := hT
  obtain ⟨T', h', cA, X', e', E, Ar, Ex, st⟩ := newPE X hb.1 hZ w rfl (g := mkF D.m pc L.toArray (.int n :: rest)) rfl (own_dec hd hb hi) rfl (by rw [Int32.lt_iff_toInt_lt]; have : (0 : Int32).toInt = 0 := rfl; omega) (cap := cap) hcap hb8 hc hl rfl
  have hP : ArrP A (newarray.typeOf aty) vs (newA cA (newarray.typeOf aty) n) := by
    obtain ⟨c1, k1, q1, q2, q3, q4, q5⟩ := Ex
    cases Ar.1.symm.trans q1
    refine ⟨Ar.2.1, ⟨Ar.2.2, fun z => ?_⟩, by rw [← hv]; simp [newA]⟩
    rw [z, show "[" ++ FieldType.byte.toString = "[B" by decide] at q2
    exact ⟨k1, q2, q3, q4, Ar.2.2, q5⟩
  obtain ⟨s₂, o, st', r⟩ := k T.heap.size hb T' ⟨vm0, k0, _, X', hZ, hown, hS, by rw [e']; exact Nat.le_trans hk E.1, N, by rw [e']; exact Ch.trans (CHr.ext E Ch.1), by rw [e']; exact H.new Ch.1 E Ar.1 hP⟩
  exact ⟨s₂, o, st _ st', r⟩
/-- a String's cell, and its bytes' -/
abbrev StrE (A : Ax) (a b : Addr) (cd : Int32) : Ent := (a, ObjP A "java/lang/String" [("java/lang/String", "value", "[B", .ref b), ("java/lang/String", "coder", "B", .int cd)])
abbrev BytE (A : Ax) (b : Addr) (vs : List Value) : Ent := (b, ArrP A .byte vs)
/-- a booked literal's text -/
theorem own_lit {s : State} {vm : Vm} {h : Heap} {own text : String} {ix : Nat} {a : Addr} {vs : List Value} (hZ : A.Z.Warmed39 vm) (hC : CHv A.Z A.EL vm h) (hm : (own, ix) ∈ A.EL) (w : (Cond.stringLink own ix text).before A.a0 A.Z = true) (L : Lit (s.setVm vm) own ix a) (wS : ∀ a ∈ Bundle.stringAtoms, a.before A.a0 A.Z = true)
    (ht : (∀ c ∈ text.toList, c.toNat < 256) ∧ text.toList.map (fun c => Value.int (Jvm.Lit.byteI c.toNat.toUInt16)) = vs) :
    ∃ (b : Addr) (ca cb : Cell), h[a]? = some ca ∧ (StrE A a b 0).2 ca ∧ h[b]? = some cb ∧ (BytE A b vs).2 cb ∧ ∀ x, Safe A.Z A.EL vm h x → x ≠ a ∧ x ≠ b := by
  have w2 : (Cond.stringLink own ix text).before A.a0 (Wst A.Z vm h) = true := mvS (s := { A.Z with heap := h }) hZ w
  have r : ((vm.findClass own).bind fun c => (vm.classes[c]?).bind fun k => (k.resolved[ix]?).join) = some (.string a) := L
  cases h1 : vm.findClass own with
  | none => rw [h1] at r; cases r
  | some c0 =>
    obtain ⟨k0, cf, i, us, hk, hcf, hp, hu, -, htx, -⟩ := Cond.stringLink_spec (s := Wst A.Z vm h) h1 w2
    have hk : vm.classes[c0]? = some k0 := hk
    have hr : k0.resolved[ix]? = some (some (.string a)) := by
      simp only [h1, hk, Option.bind_some] at r
      cases hq : k0.resolved[ix]? with
      | none => rw [hq] at r; cases r
      | some o => rw [hq] at r; cases o with
        | none => cases r
        | some z => simpa using r
    have hB : Booksv vm own ix us a := ⟨c0, k0, cf, i, h1, hk, hcf, hp, hu, Or.inl hr⟩
    obtain ⟨q, rfl, S⟩ := SlB.of (hC _ hm us a hB)
    have far : ∀ x, Safe A.Z A.EL vm h x → x ≠ q.sa ∧ x ≠ q.sd := fun x sx => ⟨fun z => sx ⟨_, hm, us, _, hB, q, rfl, S, Or.inl z⟩, fun z => sx ⟨_, hm, us, _, hB, q, rfl, S, Or.inr z⟩⟩
    obtain ⟨cS, ⟨⟨a1, a2, a3, ⟨v1, v2, v3, v4, -⟩, ⟨d1, d2, d3, d4, -⟩, a6, a7, a8, a9, a10, a11, a12, -⟩, f1, f2⟩, ⟨kS, b1, b2, b3⟩, b4, b5⟩ := S
    have al : A.Z.vm.Alike vm := hZ.alike
    obtain ⟨k5, e4⟩ := ff_back (U := Wst A.Z vm h) al v4
    obtain ⟨k6, e5⟩ := ff_back (U := Wst A.Z vm h) al d4
    have e4 : A.Z.fieldFound? "java/lang/String" "value" "[B" = _ := e4
    have e5 : A.Z.fieldFound? "java/lang/String" "coder" "B" = _ := e5
    have z1 : A.Z.vm.findClass "java/lang/String" = some q.sC.cls := by rw [← al.findClass, f2]; exact f1
    obtain ⟨k7, z2, -⟩ := Vm.findClass_spec z1
    obtain ⟨k8, z3, z4⟩ := al.2.2 _ _ z2
    have z5 : k8 = kS := Option.some.inj (z3.symm.trans (f2 ▸ (show vm.classes[cS]? = some kS from b1)))
    have lay : ∀ nm dd, (Cond.laysFinal "java/lang/String" "java/lang/String" nm dd) ∈ Bundle.stringAtoms → Laid A.Z A.a0 "java/lang/String" "java/lang/String" nm dd := fun nm dd q => Or.inr (wS _ q)
    have y1 : A.Z.vm.findClass "[B" = some q.SA.cls := by rw [← al.findClass]; exact b4
    obtain ⟨k9, y2, -⟩ := Vm.findClass_spec y1
    obtain ⟨k10, y3, y4⟩ := al.2.2 _ _ y2
    obtain ⟨x1, x2, x3, x4, x5⟩ := a11
    have x6 : x2 = k10 := Option.some.inj ((show vm.classes[q.SA.cls]? = some x2 from x3).symm.trans y3)
    refine ⟨q.sd, q.sC, q.SA, a1, ⟨⟨k7, z1, z2, a3, a2, fun _ => by rw [b3, ← z5, z4]⟩, fun p mp => ?_⟩, a10, ⟨⟨x1, k9, y2, x4, by rw [x6, y4] at x5; exact x5⟩, ⟨a12, fun _ => ⟨k9, y1, y2, by cases hv : q.SA.vm <;> first | rfl | exact absurd hv (x1 _), a12, fun z => by rw [x6, y4] at x5; have x7 : k9.kind = _ := x5; rw [x7] at z; cases z⟩⟩, ?_⟩, far⟩
    · rcases List.mem_cons.mp mp with rfl | mp
      · exact ⟨lay "value" "[B" (by simp [Bundle.stringAtoms, Bundle.sN]), ⟨.array .byte, (by decide +kernel : parseFieldDescriptor "[B" = some (.array .byte))⟩, by rw [show Jvm.RoadKit.slotOf A.Z "java/lang/String" "value" "[B" = q.fSV.slot by simp [Jvm.RoadKit.slotOf, e4]]; exact a8⟩
      · rcases List.mem_cons.mp mp with rfl | mp
        · exact ⟨lay "coder" "B" (by simp [Bundle.stringAtoms, Bundle.sN]), ⟨.byte, (by decide +kernel : parseFieldDescriptor "B" = some .byte)⟩, by rw [show Jvm.RoadKit.slotOf A.Z "java/lang/String" "coder" "B" = q.fSC.slot by simp [Jvm.RoadKit.slotOf, e5]]; exact a9⟩
        · cases mp
    · have eu : us.toList.map (fun u => Value.int (Jvm.Lit.byteI u)) = vs := by rw [← ht.2, Jvm.ClassFile.units_of_text htx ht.1, List.map_map]; rfl
      have es : q.SA.slots = us.map fun u => Value.int (Jvm.Lit.byteI u) := by rw [b5, SBG.stringBytes_lat (Jvm.ClassFile.lat_of_text htx ht.1)]; rfl
      rw [es, Array.toList_map]; exact eu
theorem own_litHp {vm : Vm} {h : Heap} {a b : Addr} {ca cb : Cell} {vs : List Value} (H : Hp A.Z A.EL vm h F G) (e1 : h[a]? = some ca) (p1 : (StrE A a b 0).2 ca) (e2 : h[b]? = some cb) (p2 : (BytE A b vs).2 cb) (far : ∀ x, Safe A.Z A.EL vm h x → x ≠ a ∧ x ≠ b) : Hp A.Z A.EL vm h F (StrE A a b 0 :: BytE A b vs :: G) := by
  obtain ⟨h1, h2, h3, h4, h5⟩ := H
  refine ⟨h1, h2, fun q m => ?_, h4, fun q m => ⟨(h5 q m).1, (h5 q m).2.1, fun r kk => ?_⟩⟩
  · rcases List.mem_cons.mp m with rfl | m
    · exact ⟨ca, e1, p1⟩
    · rcases List.mem_cons.mp m with rfl | m
      · exact ⟨cb, e2, p2⟩
      · exact h3 q m
  · have := far q.1 (h5 q m).2.1
    rcases List.mem_cons.mp kk with rfl | kk
    · exact Ne.symm this.1
    · rcases List.mem_cons.mp kk with rfl | kk
      · exact Ne.symm this.2
      · exact (h5 q m).2.2 r kk
theorem Go.ldcS (hd : Dec B.bytes tb) (i : Nat) {ix n : Nat} {text : String} {vs : List Value} (hi : tb[i]? = some (pc, .ldc ix, 2)) (w : (Cond.stringLink B.y.cls ix text).before A.a0 A.Z = true) (wS : ∀ a ∈ Bundle.stringAtoms, a.before A.a0 A.Z = true) (hm : (B.y.cls, ix) ∈ A.EL) (hwm : A.wm = true)
    (ht : (∀ c ∈ text.toList, c.toNat < 256) ∧ text.toList.map (fun c => Value.int (Jvm.Lit.byteI c.toNat.toUInt16)) = vs) (hlen : vs.length < 2 ^ 31) (hn : 4 * text.toList.length ≤ n) (hbig : n ≤ 536870912) (hc : cells + 2 ≤ B.rm.cells) (hl : slots + (n + 4) ≤ B.rm.slots)
    (k : ∀ a b : Addr, Go A B D Q (pc + 2) L (.ref a :: S) F (StrE A a b 0 :: BytE A b vs :: G) (cells + 2) (slots + (n + 4))) : Go A B D Q pc L S F G cells slots := fun hb T hT => by
  obtain ⟨vm0, k0, locs, X, hZ, hown, hS, hk, N, Ch, H⟩ := hT
  obtain ⟨a, T', h', k1, X', e', E, hS', hk', hZ', hown', C', hL, st⟩ := ldcOH X hb.1 hZ hown w wS rfl hS hk hb.2.2.2.2.2.2 Ch.1 (g := mkF D.m pc L.toArray S) rfl (own_dec hd hb hi) hn hbig hc hl
  subst e'
  obtain ⟨b, ca, cb, e1, p1, e2, p2, far⟩ := own_lit hZ' C'.1 hm w hL wS ht
  obtain ⟨s₂, o, st', r⟩ := k a b hb T' ⟨T'.vm, k1, locs, X', hZ', hown', hS', hk', ⟨N.1, fun z => by rw [hwm] at z; cases z⟩, Ch.trans C', own_litHp (H.later C' E) e1 p1 e2 p2 far⟩
  exact ⟨s₂, o, st _ st', r⟩
theorem own_subS {q : Ent} {G0 G1 : List Ent} (h : q ∈ G1) (r : ∀ x ∈ G0, x ∈ G1) : ∀ x ∈ q :: G0, x ∈ G1 := fun x m => by
  rcases List.mem_cons.mp m with rfl | m
  · exact h
  · exact r x m
/-! calls -/
theorem own_back {B' : Bx} {as' : Array Value} {Qc : Pst} {len W : Nat} {vm0 : Vm} {h : Heap} (hM : Met A B' as' F G Qc) (hEL : EW A.Z A.a0 A.EL) (hZ : A.Z.Warmed39 vm0) (C : CHv A.Z A.EL vm0 h) (H : Hp A.Z A.EL vm0 h F G) (wc : (Cond.code B'.y B'.bytes B'.maxL B'.ret).before A.a0 A.Z = true) (wz : (Cond.initialized B'.y.cls).before A.a0 A.Z = true)
    (hf : B'.rm.frames + 1 ≤ B.rm.frames) (hl : W + (B'.maxL + 11) + B'.rm.locals ≤ B.rm.locals) :
    BackS A.l B.rm D.p D.e D.below (D.s.setVm vm0) D.args B'.y len W (fun X a => a = as' ∧ X.U.heap = h ∧ X.cells + B'.rm.cells ≤ B.rm.cells ∧ X.slots + B'.rm.slots ≤ B.rm.slots)
      (fun X _ v Y => ∃ L F' G', Qc v F' G' ∧ Hp A.Z A.EL Y.U.vm Y.U.heap F' G' ∧ (Fr A.Z.heap.size L ∧ (A.wm = false → X.U.WarmedH Y.U.vm)) ∧ Y.locs = X.locs ++ L ∧ Y.cells = X.cells + B'.rm.cells ∧ Y.slots = X.slots + B'.rm.slots ∧ CHr A.Z A.EL vm0 h Y.U.vm Y.U.heap) :=
  BackS.of_freeW (bytes := B'.bytes) (maxL := B'.maxL) (ret := B'.ret)
    (E := fun _ first o t L kc ks => kc = B'.rm.cells ∧ ks = B'.rm.slots ∧ (∃ v F' G', o = .returned v ∧ Qc v F' G' ∧ Hp A.Z A.EL t.vm t.heap F' G') ∧ (Fr A.Z.heap.size L ∧ (A.wm = false → first.WarmedH t.vm)) ∧ CHr A.Z A.EL first.vm first.heap t.vm t.heap) hM hf hl
    (fun m meth c X a Y hp => have hU : A.Z.Warmed39 X.U.vm := wtrans (s := D.s.setVm vm0) hZ Y.warmed
      ⟨by show (Cond.and _ .tt).before a X.U = true; rw [Cond.before_and, mv hU wc]; rfl, mv hU wc, mv hU wz, hp.2.2.1, hp.2.2.2⟩)
    (fun m meth c X a g mk Y hp => have Q1 := CHv.at Y hZ hEL C
      ⟨hp.1, wtrans (s := D.s.setVm vm0) hZ Y.warmed, by show CHv A.Z A.EL X.U.vm X.U.heap; rw [hp.2.1]; exact Q1.1, by show Hp A.Z A.EL X.U.vm X.U.heap F G; rw [hp.2.1]; exact H.later Q1 (own_ext_refl _)⟩)
    (fun _ _ _ _ _ _ _ _ _ => trivial)
    (fun _ _ _ _ ⟨v, L, F', G', h1, h2, h3, h4, h5, h6⟩ => ⟨L, _, _, h6, rfl, rfl, ⟨v, F', G', h1, h2, h3⟩, h4, h5⟩)
    (fun m meth c X a g mk v t L kc ks Y hp _ _ ⟨e1, e2, ⟨v', F', G', e3, e4, e5⟩, e6, e7⟩ => by
      cases e3; subst e1 e2
      refine ⟨L, F', G', e4, e5, e6, rfl, rfl, rfl, (CHv.at Y hZ hEL C).trans ?_⟩
      rw [← hp.2.1]; exact e7)
/-- behind a call -/
theorem own_after {B' : Bx} {Qc : Pst} {U0 : State} {pc1 : Nat} {vm0 : Vm} {k0 : Nat} {locs : List Loc} {T : State} {v : Option Value} {P : Pt} (k : ∀ v F' G', Qc v F' G' → Go A B D Q pc1 L (v.toList ++ rest) F' G' (cells + B'.rm.cells) (slots + B'.rm.slots)) (hb : Bdy A B D) (hZ : A.Z.Warmed39 vm0) (hown : vm0.findClass B.y.cls = some D.m.cls) (hS : D.s.Since vm0 k0) (hk : k0 ≤ T.heap.size) (N : Fr A.Z.heap.size locs ∧ (A.wm = false → D.s.WarmedH vm0)) (hU0 : (D.s.setVm vm0).WarmedH U0.vm) (C : CHr A.Z A.EL D.s.vm D.s.heap vm0 T.heap)
    (X' : Stand D.p A.l D.e B.rm ((D.s.setVm vm0).setVm P.U.vm) D.m D.args D.below D.meth D.c P.U P.locs P.cells P.slots) (hS2 : (D.s.setVm vm0).Since P.U.vm P.U.heap.size) (hg : T.heap.size ≤ P.U.heap.size)
    (hp : ∃ L F' G', Qc v F' G' ∧ Hp A.Z A.EL P.U.vm P.U.heap F' G' ∧ (Fr A.Z.heap.size L ∧ (A.wm = false → U0.WarmedH P.U.vm)) ∧ P.locs = locs ++ L ∧ P.cells = cells + B'.rm.cells ∧ P.slots = slots + B'.rm.slots ∧ CHr A.Z A.EL vm0 T.heap P.U.vm P.U.heap)
    (hsteps : Steps D.p.tables D.e D.below (T.setTop (mkF D.m pc L.toArray S)) (P.U.setTop (mkF D.m pc1 L.toArray (v.toList ++ rest)))) :
    ∃ s₂ o, Steps D.p.tables D.e D.below (T.setTop (mkF D.m pc L.toArray S)) s₂ ∧ s₂.status = .running ∧ Ended s₂ D.below o ∧ Fin A B.rm D.below D.s Q o s₂ := by
  obtain ⟨L1, F', G', hq, H', N1, e1, e2, e3, C1⟩ := hp
  obtain ⟨U, Ls, cc, ss⟩ := P
  dsimp only [Pt.U, Pt.locs, Pt.cells, Pt.slots] at *
  subst e1 e2 e3
  obtain ⟨s₂, o, st', r⟩ := k v F' G' hq hb U ⟨U.vm, U.heap.size, _, X', State.Warmed39.trans (t := D.s.setVm vm0) hZ hS2.1, by rw [hS2.1.alike.findClass]; exact hown, hS.trans hS2 (Nat.le_trans hk hg), Nat.le_refl _, ⟨N.1.app N1.1, fun z => State.WarmedH.trans (t := D.s.setVm vm0) (N.2 z) (State.WarmedH.trans hU0 (N1.2 z))⟩, C.trans C1, H'⟩
  exact ⟨s₂, o, hsteps.trans st', r⟩
theorem Go.callS (hd : Dec B.bytes tb) (i : Nat) {ix W : Nat} {B' : Bx} {argsL : List Value} {as' : Array Value} {Qc : Pst} {ps : List FieldType} {rt : Option FieldType} (hi : tb[i]? = some (pc, .invokestatic ix, 3)) (hM : Met A B' as' F G Qc) (w1 : (Cond.methodLink B.y.cls ix B'.y).before A.a0 A.Z = true) (w2 : (Cond.static B'.y).before A.a0 A.Z = true) (wz : (Cond.initialized B'.y.cls).before A.a0 A.Z = true) (wc : (Cond.code B'.y B'.bytes B'.maxL B'.ret).before A.a0 A.Z = true)
    (hy : B'.y.cls ≠ "java/lang/invoke/MethodHandle" ∧ B'.y.cls ≠ "java/lang/invoke/VarHandle") (hds : parseMethodDescriptor B'.y.desc = some ⟨ps, rt⟩) (has : argsL.toArray = as') (hlen : argsL.length = ps.length) (hstk : S = argsL.reverse ++ rest) (hL : L.length = B.maxL) (hW : (rest.map fun v => v.category).sum ≤ W)
    (hf : B'.rm.frames + 1 ≤ B.rm.frames) (hl : W + (B'.maxL + 11) + B'.rm.locals ≤ B.rm.locals) (hc : cells + B'.rm.cells ≤ B.rm.cells) (hs : slots + B'.rm.slots ≤ B.rm.slots)
    (k : ∀ v F' G', Qc v F' G' → Go A B D Q (pc + 3) L (v.toList ++ rest) F' G' (cells + B'.rm.cells) (slots + B'.rm.slots)) : Go A B D Q pc L S F G cells slots := fun hb T hT => by
  subst hstk
  obtain ⟨vm0, k0, locs, X, hZ, hown, hS, hk, N, Ch, H⟩ := hT
  obtain ⟨v, vm1, P, hU0, X', hS2, hg, hp, hsteps⟩ := callSS X hb.1 hown (mv (s := D.s.setVm vm0) hZ w1) (mv (s := D.s.setVm vm0) hZ w2) (mv (s := D.s.setVm vm0) hZ wz) (mv (s := D.s.setVm vm0) hZ wc) hy (own_back (W := W) hM hb.2.2.2.2.2.2 hZ Ch.1 H wc wz hf hl) (g := mkF D.m pc L.toArray (argsL.reverse ++ rest)) rfl (by rw [hb.2.2.1, ← hL]; simp)
    (lenOf hds hlen) rfl (by show 2 * 0 + _ ≤ _; omega) (own_dec hd hb hi) (fun _ _ => ⟨has, rfl, hc, hs⟩)
  exact own_after (U0 := T.setVm vm1) k hb hZ hown hS hk N hU0 Ch X' hS2 hg hp hsteps
theorem Go.callN (hd : Dec B.bytes tb) (i : Nat) {ix W : Nat} {B' : Bx} {a : Addr} {argsL : List Value} {as' : Array Value} {Qc : Pst} {ps : List FieldType} {rt : Option FieldType} (hi : tb[i]? = some (pc, .invokespecial ix, 3)) (hM : Met A B' as' F G Qc) (hy1 : B'.y.name = "<init>") (hr : B'.ret = none) (w1 : (Cond.methodLink B.y.cls ix B'.y).before A.a0 A.Z = true) (w2 : (Cond.instanceMethod B'.y).before A.a0 A.Z = true) (wz : (Cond.initialized B'.y.cls).before A.a0 A.Z = true) (wc : (Cond.code B'.y B'.bytes B'.maxL B'.ret).before A.a0 A.Z = true)
    (hy : B'.y.cls ≠ "java/lang/invoke/MethodHandle" ∧ B'.y.cls ≠ "java/lang/invoke/VarHandle") (hds : parseMethodDescriptor B'.y.desc = some ⟨ps, rt⟩) (has : (Value.ref a :: argsL).toArray = as') (hlen : argsL.length = ps.length) (hstk : S = argsL.reverse ++ .ref a :: rest) (hL : L.length = B.maxL) (hW : (rest.map fun v => v.category).sum ≤ W)
    (hf : B'.rm.frames + 1 ≤ B.rm.frames) (hl : W + (B'.maxL + 11) + B'.rm.locals ≤ B.rm.locals) (hc : cells + B'.rm.cells ≤ B.rm.cells) (hs : slots + B'.rm.slots ≤ B.rm.slots)
    (k : ∀ v F' G', Qc v F' G' → Go A B D Q (pc + 3) L (v.toList ++ rest) F' G' (cells + B'.rm.cells) (slots + B'.rm.slots)) : Go A B D Q pc L S F G cells slots := fun hb T hT => by
  subst hstk
  obtain ⟨vm0, k0, locs, X, hZ, hown, hS, hk, N, Ch, H⟩ := hT
  obtain ⟨v, vm1, P, hU0, X', hS2, hg, hp, hsteps⟩ := X.specialBackS hb.1 hy1 hown (mv (s := D.s.setVm vm0) hZ w1) (mv (s := D.s.setVm vm0) hZ w2) (bytes := B'.bytes) (maxL := B'.maxL) (by rw [← hr]; exact mv (s := D.s.setVm vm0) hZ wc) hy (own_back (W := W) hM hb.2.2.2.2.2.2 hZ Ch.1 H wc wz hf hl) (g := mkF D.m pc L.toArray (argsL.reverse ++ .ref a :: rest)) rfl (by rw [hb.2.2.1, ← hL]; simp) (Steps.refl _)
    (lenOf hds hlen) rfl (by show 2 * 0 + _ ≤ _; omega) (own_dec hd hb hi) (fun _ _ => ⟨has, rfl, hc, hs⟩)
  exact own_after (U0 := T.setVm vm1) k hb hZ hown hS hk N hU0 Ch X' hS2 hg hp hsteps
theorem ClP.isOf {vm0 : Vm} {T : State} {c : Cell} {a : Addr} {C : String} (hZ : A.Z.Warmed39 vm0) (P : ClP A.Z C c) (e : T.heap[a]? = some c) : ∃ cB kB, (D.s.setVm vm0).vm.findClass C = some cB ∧ (D.s.setVm vm0).vm.classes[cB]? = some kB ∧ IsOf cB T a := Jvm.RoadKit.isOf (s := D.s.setVm vm0) hZ rfl (P.exa e)
theorem Go.callV (hd : Dec B.bytes tb) (i : Nat) {ix W : Nat} {B' : Bx} {y : MethodName} {C : String} {a : Addr} {argsL : List Value} {as' : Array Value} {Qc : Pst} {P : Cell → Prop} {ps : List FieldType} {rt : Option FieldType} (hi : tb[i]? = some (pc, .invokevirtual ix, 3)) (hM : Met A B' as' F G Qc) (m : (a, P) ∈ F ∨ (a, P) ∈ G) (hP : ∀ c, P c → ClP A.Z C c)
    (w1 : (Cond.methodLink B.y.cls ix y).before A.a0 A.Z = true) (w2 : (Cond.declares y).before A.a0 A.Z = true) (w3 : (Cond.instanceMethod B'.y).before A.a0 A.Z = true) (w4 : (Cond.selects C y B'.y).before A.a0 A.Z = true) (w5 : (Cond.selects C y y).before A.a0 A.Z = true) (wz : (Cond.initialized B'.y.cls).before A.a0 A.Z = true) (wc : (Cond.code B'.y B'.bytes B'.maxL B'.ret).before A.a0 A.Z = true)
    (hy : y.cls ≠ "java/lang/invoke/MethodHandle" ∧ y.cls ≠ "java/lang/invoke/VarHandle") (hds : parseMethodDescriptor y.desc = some ⟨ps, rt⟩) (has : (Value.ref a :: argsL).toArray = as') (hlen : argsL.length = ps.length) (hstk : S = argsL.reverse ++ .ref a :: rest) (hL : L.length = B.maxL) (hW : (rest.map fun v => v.category).sum ≤ W)
    (hf : B'.rm.frames + 1 ≤ B.rm.frames) (hl : W + (B'.maxL + 11) + B'.rm.locals ≤ B.rm.locals) (hc : cells + B'.rm.cells ≤ B.rm.cells) (hs : slots + B'.rm.slots ≤ B.rm.slots)
    (k : ∀ v F' G', Qc v F' G' → Go A B D Q (pc + 3) L (v.toList ++ rest) F' G' (cells + B'.rm.cells) (slots + B'.rm.slots)) : Go A B D Q pc L S F G cells slots := fun hb T hT => by
  subst hstk
  obtain ⟨vm0, k0, locs, X, hZ, hown, hS, hk, N, Ch, H⟩ := hT
  obtain ⟨c, e, hp0⟩ := H.at m
  obtain ⟨cB, kB, q1, q2, q3⟩ := (hP c hp0).isOf (A := A) (D := D) hZ e
  obtain ⟨v, vm1, P, hU0, X', hS2, hg, hp, hsteps⟩ := X.virtualBackS hb.1 hown (mv (s := D.s.setVm vm0) hZ w1) (mv (s := D.s.setVm vm0) hZ w2) (notFace_of_selects (args := #[]) (mv (s := D.s.setVm vm0) hZ w5)) (mv (s := D.s.setVm vm0) hZ w4) (mv (s := D.s.setVm vm0) hZ w3) hy (own_back (W := W) hM hb.2.2.2.2.2.2 hZ Ch.1 H wc wz hf hl) q1 q3 (g := mkF D.m pc L.toArray (argsL.reverse ++ .ref a :: rest)) rfl (by rw [hb.2.2.1, ← hL]; simp) (Steps.refl _)
    (lenOf hds hlen) rfl (by show 2 * 0 + _ ≤ _; omega) (own_dec hd hb hi) (fun _ _ => ⟨has, rfl, hc, hs⟩)
  exact own_after (U0 := T.setVm vm1) k hb hZ hown hS hk N hU0 Ch X' hS2 hg hp hsteps
theorem Go.initObject (hd : Dec B.bytes tb) (i : Nat) {ix W : Nat} {a : Addr} (hi : tb[i]? = some (pc, .invokespecial ix, 3)) (w1 : (Cond.methodLink B.y.cls ix Lib.objectInit).before A.a0 A.Z = true) (w2 : (Cond.instanceMethod Lib.objectInit).before A.a0 A.Z = true) (w3 : (Cond.code Lib.objectInit ⟨#[0xb1]⟩ 1 none).before A.a0 A.Z = true)
    (hL : L.length = B.maxL) (hf : 1 ≤ B.rm.frames) (hW : (rest.map fun v => v.category).sum ≤ W) (hl : W + 12 ≤ B.rm.locals) (k : Go A B D Q (pc + 3) L rest F G cells slots) : Go A B D Q pc L (.ref a :: rest) F G cells slots :=
  Go.stay (fun hb T vm0 locs X hZ hown H => by
    obtain ⟨T', X', e', st⟩ := initO X hb.1 hZ hown w1 w2 w3 rfl (g := mkF D.m pc L.toArray (.ref a :: rest)) rfl (by rw [hb.2.2.1, ← hL]; simp) rfl (own_dec hd hb hi) hf (W := W) (by show 2 * 0 + _ ≤ _; omega) hl
    exact ⟨T', X', e', st⟩) k
/-! the end -/
theorem own_leave {T : State} {v : Option Value} (hb : Bdy A B D) (hT : St A B D T F G cells slots) (hv : B.ret = none → v = none) (hq : Q v F G) (hc : cells ≤ B.rm.cells) (hs : slots ≤ B.rm.slots)
    (h : ∀ (vm0 : Vm) (locs : List Loc) (fs : List Frame), Stand D.p A.l D.e B.rm (D.s.setVm vm0) D.m D.args D.below D.meth D.c T locs cells slots → (∀ (f : JFrame) (acts : List Action), f.method = D.m → f.locked = none → f.entered = [] → (doReturn D.e (T.setTop f) acts v).1 = T.setFrames fs) → Steps D.p.tables D.e D.below (T.setTop (mkF D.m pc L.toArray S)) (T.setFrames fs)) :
    ∃ s₂ o, Steps D.p.tables D.e D.below (T.setTop (mkF D.m pc L.toArray S)) s₂ ∧ s₂.status = .running ∧ Ended s₂ D.below o ∧ Fin A B.rm D.below D.s Q o s₂ := by
  obtain ⟨vm0, k0, locs, X, hZ, hown, hS, hk, N, Ch, H⟩ := hT
  have hlk : D.meth.locks = false := hb.2.2.2.2.2.1
  obtain ⟨fs, h1, h2, h3, h4⟩ := (X.more hc hs).leaveW hS hk (v := v) (fun z => hv (hb.2.2.2.1 ▸ z)) hlk
  have C2 := CHv.at X hZ hb.2.2.2.2.2.2 Ch.1
  exact ⟨_, _, h vm0 locs fs X h1, h2, h3, v, locs, F, G, rfl, hq, H.later C2 (own_ext_refl _), ⟨N.1, fun z => State.WarmedH.trans (t := D.s.setVm vm0) (N.2 z) X.warmed⟩, Ch.trans C2, h4⟩
theorem Go.ret (hd : Dec B.bytes tb) (i : Nat) {ins : Instr} {w : Value} {t : FieldType} (hi : tb[i]? = some (pc, ins, 1)) (hr : B.ret = some t) (hn : narrow t w = w)
    (hk : (ins = .ireturn ∧ (t = .int ∨ t = .boolean ∨ t = .byte ∨ t = .char ∨ t = .short) ∧ ∃ z, w = .int z) ∨ (ins = .lreturn ∧ t = .long ∧ ∃ z, w = .long z) ∨ (ins = .dreturn ∧ t = .double ∧ ∃ z, w = .double z) ∨ (ins = .freturn ∧ t = .float ∧ ∃ z, w = .float z) ∨ (ins = .areturn ∧ t.isReference = true ∧ w.isRef = true))
    (hq : Q (some w) F G) (hc : cells ≤ B.rm.cells) (hs : slots ≤ B.rm.slots) : Go A B D Q pc L (w :: rest) F G cells slots := fun hb T hT =>
  own_leave hb hT (fun z => by rw [hr] at z; cases z) hq hc hs fun vm0 locs fs X hl => retOut X hb.1 (hb.2.2.2.1.trans hr) hn hk (own_dec hd hb hi) hl
theorem Go.retI (hd : Dec B.bytes tb) (i : Nat) {z : Int32} (hi : tb[i]? = some (pc, .ireturn, 1)) (hr : B.ret = some .int) (hq : Q (some (.int z)) F G) (hc : cells ≤ B.rm.cells) (hs : slots ≤ B.rm.slots) : Go A B D Q pc L (.int z :: rest) F G cells slots :=
  Go.ret hd i hi hr rfl (Or.inl ⟨rfl, Or.inl rfl, z, rfl⟩) hq hc hs
theorem Go.retZ (hd : Dec B.bytes tb) (i : Nat) {z : Int32} (hi : tb[i]? = some (pc, .ireturn, 1)) (hr : B.ret = some .boolean) (hz : z &&& 1 = z) (hq : Q (some (.int z)) F G) (hc : cells ≤ B.rm.cells) (hs : slots ≤ B.rm.slots) : Go A B D Q pc L (.int z :: rest) F G cells slots :=
  Go.ret hd i hi hr (by show Value.int (z &&& 1) = _; rw [hz]) (Or.inl ⟨rfl, Or.inr (Or.inl rfl), z, rfl⟩) hq hc hs
theorem Go.retC (hd : Dec B.bytes tb) (i : Nat) {z : Int32} (hi : tb[i]? = some (pc, .ireturn, 1)) (hr : B.ret = some .char) (hz : chr16 z = z) (hq : Q (some (.int z)) F G) (hc : cells ≤ B.rm.cells) (hs : slots ≤ B.rm.slots) : Go A B D Q pc L (.int z :: rest) F G cells slots :=
  Go.ret hd i hi hr (by show Value.int (chr16 z) = _; rw [hz]) (Or.inl ⟨rfl, Or.inr (Or.inr (Or.inr (Or.inl rfl))), z, rfl⟩) hq hc hs
theorem Go.retB (hd : Dec B.bytes tb) (i : Nat) {z : Int32} (hi : tb[i]? = some (pc, .ireturn, 1)) (hr : B.ret = some .byte) (hz : byt8 z = z) (hq : Q (some (.int z)) F G) (hc : cells ≤ B.rm.cells) (hs : slots ≤ B.rm.slots) : Go A B D Q pc L (.int z :: rest) F G cells slots :=
  Go.ret hd i hi hr (by show Value.int (byt8 z) = _; rw [hz]) (Or.inl ⟨rfl, Or.inr (Or.inr (Or.inl rfl)), z, rfl⟩) hq hc hs
theorem Go.retA (hd : Dec B.bytes tb) (i : Nat) {w : Value} {t : FieldType} (hi : tb[i]? = some (pc, .areturn, 1)) (hr : B.ret = some t) (ht : t.isReference = true) (hw : w.isRef = true) (hq : Q (some w) F G) (hc : cells ≤ B.rm.cells) (hs : slots ≤ B.rm.slots) : Go A B D Q pc L (w :: rest) F G cells slots :=
  Go.ret hd i hi hr (by cases w <;> cases t <;> first | rfl | (cases hw; done) | (cases ht; done)) (Or.inr (Or.inr (Or.inr (Or.inr ⟨rfl, ht, hw⟩)))) hq hc hs
theorem Go.retV (hd : Dec B.bytes tb) (i : Nat) (hi : tb[i]? = some (pc, .return_, 1)) (hr : B.ret = none) (hq : Q none F G) (hc : cells ≤ B.rm.cells) (hs : slots ≤ B.rm.slots) : Go A B D Q pc L [] F G cells slots := fun hb T hT =>
  own_leave hb hT (fun _ => rfl) hq hc hs fun vm0 locs fs X hl => X.returnOut hb.1 (hb.2.2.2.1.trans hr) (own_dec hd hb hi) hl
end Own
/-- a static whose value the sheet tells -/
theorem own_sta_eq {a0 : Array Value} {s : State} {C n d : String} {k : Int32} (h : (Cond.eq (Term.static C n d) (.int k)).before a0 s = true) (hi : (Cond.initializedFor C n d).before a0 s = true) : Sta s s.heap C n d (.int k) := by
  obtain ⟨x, y, h1, h2, h3, h4⟩ := cmp_v (Or.inl (Cond.before_iff.mp h))
  have e2 : y = .int k := Option.some.inj (h2.symm.trans (Term.int_eval k))
  subst e2
  obtain ⟨z, rfl⟩ := h4
  have := gotT (Cond.eq_ints h1 h2) (Cond.before_iff.mp h)
  subst this
  exact Sta.start h1 (Or.inl hi)
--CUT
/-! own_5: plain facts on ints, bytes and chars -/
abbrev nI (n : Nat) : Int32 := n.toInt32
theorem nI_toInt {n : Nat} (h : n < 2 ^ 31) : (nI n).toInt = n := len_toInt h
theorem nI_succ (n : Nat) : nI (n + 1) = nI n + 1 := by
  show Int32.ofNat (n + 1) = Int32.ofNat n + 1
  rw [Int32.ofNat_add]; rfl
theorem nI_inB {n m : Nat} (h : n < m) (hm : m < 2 ^ 31) : InB (nI n) m := by
  have := nI_toInt (n := n) (by omega)
  exact ⟨by omega, by omega⟩
theorem nI_nat {n : Nat} (h : n < 2 ^ 31) : (nI n).toInt.toNat = n := by rw [nI_toInt h]; rfl
theorem chr16_toInt (x : Int32) : (chr16 x).toInt = x.toInt % 65536 := by
  have h := c_i2c x
  show x.toUInt32.toUInt16.toUInt32.toInt32.toInt = _
  omega
theorem chr16_id {x : Int32} (h : 0 ≤ x.toInt ∧ x.toInt < 65536) : chr16 x = x := by
  rw [← Int32.toInt_inj, chr16_toInt]; omega
theorem byt8_toInt (x : Int32) : ((byt8 x).toInt - x.toInt) % 256 = 0 ∧ -128 ≤ (byt8 x).toInt ∧ (byt8 x).toInt < 128 := c_i2b x
theorem byt8_id {x : Int32} (h : -128 ≤ x.toInt ∧ x.toInt < 128) : byt8 x = x := by
  have := byt8_toInt x
  rw [← Int32.toInt_inj]; omega
theorem byt8_byt8 (x : Int32) : byt8 (byt8 x) = byt8 x := byt8_id (byt8_toInt x).2
theorem and255_toInt (x : Int32) : (x &&& 255).toInt = x.toInt % 256 := c_mask x 255 8 (by decide) (by decide)
theorem byt8_and {c : Int32} (h : 0 ≤ c.toInt ∧ c.toInt < 256) : byt8 c &&& 255 = c := by
  have := byt8_toInt c
  rw [← Int32.toInt_inj, and255_toInt]; omega
/-- the bytes of a Latin-1 text -/
def latB (cs : List Int32) : List Value := cs.map fun c => Value.int (byt8 c)
def zrs (cs : List Int32) : List Value := cs.map fun _ => Value.int 0
def Lat (cs : List Int32) : Prop := ∀ c ∈ cs, 0 ≤ c.toInt ∧ c.toInt < 256
def Chrs (cs : List Int32) : Prop := ∀ c ∈ cs, 0 ≤ c.toInt ∧ c.toInt < 65536
abbrev chV (cs : List Int32) : List Value := cs.map Value.int
theorem latB_len (cs : List Int32) : (latB cs).length = cs.length := by simp [latB]
theorem zrs_rep (cs : List Int32) : List.replicate cs.length (Value.int 0) = zrs cs := by simp [zrs, List.map_const']
theorem own_len_snoc (pre : List Int32) (c : Int32) : nI (pre ++ [c]).length = nI pre.length + 1 := by rw [List.length_append]; exact nI_succ _
theorem own_mid {α : Type} (xs : List α) (y z : α) (zs : List α) (n : Nat) (h : n = xs.length) : (xs ++ y :: zs).set n z = xs ++ z :: zs := by subst h; simp
theorem own_midget {α : Type} (xs : List α) (y : α) (zs : List α) (n : Nat) (h : n = xs.length) : (xs ++ y :: zs)[n]? = some y := by subst h; simp
theorem own_lat_set (pre suf : List Int32) (c : Int32) (h : (pre ++ c :: suf).length < 2 ^ 31) : (latB pre ++ zrs (c :: suf)).set (nI pre.length).toInt.toNat (.int (byt8 (byt8 c))) = latB (pre ++ [c]) ++ zrs suf := by
  have h1 : pre.length < 2 ^ 31 := by simp at h; omega
  rw [nI_nat h1, byt8_byt8]
  show (latB pre ++ .int 0 :: zrs suf).set _ _ = _
  rw [own_mid _ _ _ _ _ (latB_len pre).symm]
  simp [latB]
theorem own_chr_get (pre suf : List Int32) (c : Int32) (h : (pre ++ c :: suf).length < 2 ^ 31) : (chV (pre ++ c :: suf))[(nI pre.length).toInt.toNat]? = some (.int c) := by
  have h1 : pre.length < 2 ^ 31 := by simp at h; omega
  rw [nI_nat h1]
  show (List.map Value.int (pre ++ c :: suf))[_]? = _
  rw [List.map_append, List.map_cons]
  exact own_midget _ _ _ _ (by simp)
theorem own_chr_in (pre suf : List Int32) (c : Int32) (h : (pre ++ c :: suf).length < 2 ^ 31) : InB (nI pre.length) (chV (pre ++ c :: suf)).length := nI_inB (by simp) (by simpa using h)
theorem own_lat_in (pre suf : List Int32) (c : Int32) (h : (pre ++ c :: suf).length < 2 ^ 31) : InB (nI pre.length) (latB pre ++ zrs (c :: suf)).length := by
  refine nI_inB ?_ ?_ <;> simp [latB, zrs] at h ⊢ <;> omega
theorem nI_lt {n m : Nat} (hn : n < 2 ^ 31) (hm : m < 2 ^ 31) : nI n < nI m ↔ n < m := by rw [Int32.lt_iff_toInt_lt, nI_toInt hn, nI_toInt hm]; omega
theorem nI_le {n m : Nat} (hn : n < 2 ^ 31) (hm : m < 2 ^ 31) : nI n ≤ nI m ↔ n ≤ m := by rw [Int32.le_iff_toInt_le, nI_toInt hn, nI_toInt hm]; omega
theorem shr0 (x : Int32) : x >>> ((0 : Int32) &&& 31) = x := by
  rw [← Int32.toInt_inj, c_ishr x 0 0 (by decide)]; simp
theorem i32_lt {x y : Int32} : x < y ↔ x.toInt < y.toInt := Int32.lt_iff_toInt_lt
theorem i32_le {x y : Int32} : x ≤ y ↔ x.toInt ≤ y.toInt := Int32.le_iff_toInt_le
theorem i32_eq {x y : Int32} : x = y ↔ x.toInt = y.toInt := Int32.toInt_inj.symm
theorem own_inB {vs : List Value} {j : Int32} (n : Nat) (hl : vs.length = n) (h : 0 ≤ j.toInt ∧ j.toInt < n) : InB j vs.length := by rw [hl]; exact h
theorem own_le {n m : Nat} (h : Nat.ble n m = true) : n ≤ m := Nat.le_of_ble_eq_true h
/-! own_6: two bytes a char -/
def u2 (c : Int32) : Int32 := byt8 (c >>> ((8 : Int32) &&& 31))
def utfB : List Int32 → List Value
  | [] => []
  | c :: r => .int (byt8 c) :: .int (u2 c) :: utfB r
def zrs2 : List Int32 → List Value
  | [] => []
  | _ :: r => .int 0 :: .int 0 :: zrs2 r
theorem utfB_len : ∀ cs : List Int32, (utfB cs).length = 2 * cs.length
  | [] => rfl
  | c :: r => by simp only [utfB, List.length_cons, utfB_len r]; omega
theorem zrs2_len : ∀ cs : List Int32, (zrs2 cs).length = 2 * cs.length
  | [] => rfl
  | c :: r => by simp only [zrs2, List.length_cons, zrs2_len r]; omega
theorem zrs2_rep : ∀ cs : List Int32, List.replicate (2 * cs.length) (Value.int 0) = zrs2 cs
  | [] => rfl
  | c :: r => by
    rw [show 2 * (c :: r).length = 2 * r.length + 1 + 1 by simp only [List.length_cons]; omega, List.replicate_succ, List.replicate_succ, zrs2_rep r]; rfl
theorem utfB_app : ∀ xs ys : List Int32, utfB (xs ++ ys) = utfB xs ++ utfB ys
  | [], ys => rfl
  | c :: r, ys => by simp only [List.cons_append, utfB, utfB_app r ys]
theorem shl1 {n : Nat} (h : 2 * n < 2 ^ 31) : nI n <<< ((1 : Int32) &&& 31) = nI (2 * n) := by
  have h1 := c_ishl (nI n) 1 1 (by decide)
  rw [i32_eq, nI_toInt h]
  rw [nI_toInt (by omega)] at h1
  have h2 := rng32 (nI n <<< ((1 : Int32) &&& 31))
  omega
theorem shr1 {n : Nat} (h : 2 * n < 2 ^ 31) : nI (2 * n) >>> ((1 : Int32) &&& 31) = nI n := by
  rw [i32_eq, c_ishr (nI (2 * n)) 1 1 (by decide), nI_toInt h, nI_toInt (by omega)]; omega
theorem shl0 (x : Int32) : x <<< ((0 : Int32) &&& 31) = x := by
  have h1 := c_ishl x 0 0 (by decide)
  have h2 := rng32 (x <<< ((0 : Int32) &&& 31))
  have h3 := rng32 x
  rw [i32_eq]; omega
/-- the two bytes make the char again -/
theorem utf_join {c : Int32} (h : 0 ≤ c.toInt ∧ c.toInt < 65536) : chr16 ((byt8 c &&& 255) <<< ((0 : Int32) &&& 31) ||| (u2 c &&& 255) <<< ((8 : Int32) &&& 31)) = c := by
  have e8 := c_ishr c 8 8 (by decide)
  have a1 : (byt8 c &&& 255).toInt = c.toInt % 256 := by
    have := byt8_toInt c
    rw [and255_toInt]; omega
  have a2 : (u2 c &&& 255).toInt = c.toInt / 256 := by
    have := byt8_toInt (c >>> ((8 : Int32) &&& 31))
    rw [and255_toInt]; unfold u2; omega
  have b2 : ((u2 c &&& 255) <<< ((8 : Int32) &&& 31)).toInt = c.toInt / 256 * 256 := by
    have h1 := c_ishl (u2 c &&& 255) 8 8 (by decide)
    have h2 := rng32 ((u2 c &&& 255) <<< ((8 : Int32) &&& 31))
    rw [a2] at h1
    omega
  rw [shl0]
  have o := c_or' (byt8 c &&& 255) ((u2 c &&& 255) <<< ((8 : Int32) &&& 31)) 8 (by decide) 256 (by decide) (by rw [b2]; omega) (by rw [a1]; omega) (by rw [a1]; omega)
  rw [a1, b2] at o
  have r := rng32 ((byt8 c &&& 255) ||| (u2 c &&& 255) <<< ((8 : Int32) &&& 31))
  have q : ((byt8 c &&& 255) ||| (u2 c &&& 255) <<< ((8 : Int32) &&& 31)) = c := by rw [i32_eq]; omega
  rw [q]; exact chr16_id h
theorem lat_split : ∀ {cs : List Int32}, Chrs cs → ¬ Lat cs → ∃ pre c suf, cs = pre ++ c :: suf ∧ Lat pre ∧ 256 ≤ c.toInt
  | [], _, h => absurd (show Lat [] from fun _ m => by cases m) h
  | c :: r, hc, h => by
    by_cases h1 : c.toInt < 256
    · have hn : ¬ Lat r := fun z => h fun x m => by
        rcases List.mem_cons.mp m with rfl | m
        · exact ⟨(hc x (List.mem_cons_self ..)).1, h1⟩
        · exact z x m
      obtain ⟨pre, d, suf, e, hl, hd⟩ := lat_split (fun x m => hc x (List.mem_cons_of_mem _ m)) hn
      refine ⟨c :: pre, d, suf, by rw [e]; rfl, fun x m => ?_, hd⟩
      rcases List.mem_cons.mp m with rfl | m
      · exact ⟨(hc x (List.mem_cons_self ..)).1, h1⟩
      · exact hl x m
    · exact ⟨[], c, r, rfl, (fun _ m => by cases m), by omega⟩
instance (cs : List Int32) : Decidable (Lat cs) := inferInstanceAs (Decidable (∀ c ∈ cs, 0 ≤ c.toInt ∧ c.toInt < 256))
theorem Lat.chrs {cs : List Int32} (h : Lat cs) : Chrs cs := fun c m => ⟨(h c m).1, by have := (h c m).2; omega⟩
theorem own_two {α : Type} (xs : List α) (x y z w : α) (zs : List α) (n : Nat) (h : n = xs.length) : ((xs ++ x :: y :: zs).set n z).set (n + 1) w = xs ++ z :: w :: zs := by
  subst h
  induction xs with
  | nil => rfl
  | cons a r ih => simp only [List.cons_append, List.length_cons, List.set_cons_succ]; rw [ih]
theorem own_two1 {α : Type} (xs : List α) (x y : α) (zs : List α) (n : Nat) (h : n = xs.length) : (xs ++ x :: y :: zs)[n]? = some x ∧ (xs ++ x :: y :: zs)[n + 1]? = some y := by
  subst h
  constructor
  · simp
  · simp
theorem own_cfa {n : Nat} (h0 : 0 < n) (h : 2 * n < 2 ^ 31) : byt8 (Jvm.Free.XT.ushr (nI n - nI (2 * n)) 31) = 1 := by
  have h1 := c_isub (nI n) (nI (2 * n))
  rw [nI_toInt h, nI_toInt (by omega)] at h1
  have h2 := rng32 (nI n - nI (2 * n))
  have h3 := c_iushr (nI n - nI (2 * n)) 31 31 (by decide) (by decide)
  have h4 : (Jvm.Free.XT.ushr (nI n - nI (2 * n)) 31).toInt = 1 := by
    show ((nI n - nI (2 * n)).toUInt32 >>> ((31 : Int32) &&& 31).toUInt32).toInt32.toInt = 1
    rw [h3]; omega
  have h5 : Jvm.Free.XT.ushr (nI n - nI (2 * n)) 31 = 1 := by rw [i32_eq, h4]; rfl
  rw [h5]; rfl
/-! own_7: instanceof, checkcast, one cell known twice -/
section Own
variable {A : Ax} {B : Bx} {D : Dx} {Q : Pst} {pc pc' : Nat} {L L' : List Slot} {S S' rest : List Value} {F F' G G' : List Ent} {cells slots : Nat} {tb : List In1}
theorem Go.castY (hd : Dec B.bytes tb) (i : Nat) {ix : Nat} {a : Addr} {C : String} {P : Cell → Prop} (hi : tb[i]? = some (pc, .checkcast ix, 3)) (w : (Cond.classLink B.y.cls ix C).before A.a0 A.Z = true) (m : (a, P) ∈ F ∨ (a, P) ∈ G) (hP : ∀ c, P c → ClP A.Z C c)
    (k : Go A B D Q (pc + 3) L (.ref a :: rest) F G cells slots) : Go A B D Q pc L (.ref a :: rest) F G cells slots :=
  Go.stay (fun hb T vm0 locs X hZ hown H => by
    obtain ⟨c, e, p⟩ := H.at m
    obtain ⟨T', X', e', st⟩ := Jvm.RoadKit.castY X hb.1 hZ hown w rfl (Ins.self ((hP c p).exa e)) (g := mkF D.m pc L.toArray (.ref a :: rest)) rfl rfl (own_dec hd hb hi)
    exact ⟨T', X', e', st⟩) k
end Own
/-! bytes tell the text -/
/-! own_8: System.arraycopy between arrays of one primitive type -/
def FitsL (ty : FieldType) (vs : List Value) : Prop := ∀ v ∈ vs, fits ty v = true
theorem own_us {vs : List Value} {sp n : Nat} {dv : Value} (h : sp + n ≤ vs.length) : (List.range n).map (fun i => vs.getD (sp + i) dv) = (vs.drop sp).take n := by
  apply List.ext_getElem?
  intro i
  by_cases hi : i < n
  · rw [List.getElem?_map, List.getElem?_range hi, List.getElem?_take_of_lt hi, List.getElem?_drop, Option.map_some, List.getD_eq_getElem?_getD, List.getElem?_eq_getElem (by omega)]; rfl
  · rw [List.getElem?_eq_none (by simp; omega), List.getElem?_eq_none (by simp; omega)]
section Own
variable {A : Ax} {B : Bx} {D : Dx} {Q : Pst} {pc pc' : Nat} {L L' : List Slot} {S S' rest : List Value} {F F' G G' : List Ent} {cells slots : Nat} {tb : List In1}
theorem ArrP.arv {ty : FieldType} {vs : List Value} {c : Cell} {h : Heap} {a : Addr} {dv : Value} (P : ArrP A ty vs c) (e : h[a]? = some c) (hl : vs.length < 2 ^ 31) (hf : FitsL ty vs) : Arv A.Z h a c.cls ty (nI vs.length) vs dv := by
  have en : (nI vs.length).toNatClampNeg = vs.length := nI_nat hl
  refine ⟨c, ⟨e, P.1, P.2.1.1⟩, rfl, by rw [P.size, en], ?_, fun j hj => ?_, fun j hj => ?_⟩
  · rw [i32_lt, nI_toInt hl]; have : (0 : Int32).toInt = 0 := rfl; omega
  · rw [P.size] at hj
    rw [P.get, List.getD_eq_getElem?_getD, List.getElem?_eq_getElem hj]; rfl
  · rw [P.size] at hj
    rw [List.getD_eq_getElem?_getD, List.getElem?_eq_getElem hj]; exact hf _ (List.getElem_mem hj)
theorem ArrP.of_arv {ty : FieldType} {vs : List Value} {h : Heap} {a : Addr} {k : ClassId} {n : Nat} {dv : Value} (hn : n < 2 ^ 31) (hl : vs.length = n) (P : Arv A.Z h a k ty (nI n) vs dv) (hb : ty = .byte → ∀ c : Cell, h[a]? = some c → ClP A.Z "[B" c) : ∃ c : Cell, h[a]? = some c ∧ ArrP A ty vs c := by
  obtain ⟨c, ⟨e, h1, h2⟩, -, sz, -, hh, -⟩ := P
  have en : (nI n).toNatClampNeg = n := nI_nat hn
  rw [en] at sz
  refine ⟨c, e, h1, ⟨h2, fun z => hb z c e⟩, List.ext_getElem? fun j => ?_⟩
  by_cases hj : j < c.slots.size
  · rw [Array.getElem?_toList, hh j hj, List.getD_eq_getElem?_getD, List.getElem?_eq_getElem (by omega)]; rfl
  · rw [Array.getElem?_toList, Array.getElem?_eq_none (by omega), List.getElem?_eq_none (by omega)]
theorem Hp.keep1 {Z : State} {EL : List (String × Nat)} {vm : Vm} {h h' : Heap} {b : Addr} {P P' : Cell → Prop} (H : Hp Z EL vm h ((b, P) :: F) G) (hC : CHv Z EL vm h) (K : Keep h h' [b]) (hp : ∃ c : Cell, h'[b]? = some c ∧ P' c) : Hp Z EL vm h' ((b, P') :: F) G := by
  obtain ⟨h1, h2, h3, h4, h5⟩ := H
  have hn := List.nodup_cons.mp h4
  have sa := h5 _ (List.mem_cons_self ..)
  have sk : ∀ x ∈ [b], Safe Z EL vm h x := fun x hx => by cases List.mem_singleton.mp hx; exact sa.2.1
  have oth : ∀ (x : Addr) (c : Cell), x ≠ b → h[x]? = some c → h'[x]? = some c := fun x c ne e => K.2.1 x c e (by simpa using ne)
  refine ⟨⟨Nat.le_trans h1.1 K.1, fun x c e => oth x c (Nat.ne_of_lt (Nat.lt_of_lt_of_le (Array.getElem?_eq_some_iff.mp e).1 sa.1)) (h1.2 x c e)⟩, fun q m => ?_, fun q m => ?_, h4, fun q m => ?_⟩
  · rcases List.mem_cons.mp m with rfl | m
    · exact hp
    · obtain ⟨c, e, p⟩ := h2 q (List.mem_cons_of_mem _ m)
      exact ⟨c, oth _ _ (fun z => hn.1 (List.mem_map.mpr ⟨q, m, z⟩)) e, p⟩
  · obtain ⟨c, e, p⟩ := h3 q m
    exact ⟨c, oth _ _ (sa.2.2 q m) e, p⟩
  · have key : ∀ r : Ent, r ∈ (b, P) :: F → Z.heap.size ≤ r.1 ∧ Safe Z EL vm h' r.1 ∧ ∀ t ∈ G, t.1 ≠ r.1 := fun r m => ⟨(h5 r m).1, Safe.keep K sk hC (h5 r m).2.1, (h5 r m).2.2⟩
    rcases List.mem_cons.mp m with rfl | m
    · exact key (b, P) (List.mem_cons_self ..)
    · exact key q (List.mem_cons_of_mem _ m)
theorem Go.copy (hd : Dec B.bytes tb) (i : Nat) {ix W : Nat} {a b : Addr} {ty : FieldType} {vs vd vd' : List Value} {sp dp n : Int32} (hi : tb[i]? = some (pc, .invokestatic ix, 3)) (hpr : refKind ty = false)
    (w1 : (Cond.methodLink B.y.cls ix Jvm.Stand.acN).before A.a0 A.Z = true) (w2 : (Cond.native Jvm.Stand.acN).before A.a0 A.Z = true) (w3 : (Cond.static Jvm.Stand.acN).before A.a0 A.Z = true) (w4 : (Cond.initialized "java/lang/System").before A.a0 A.Z = true)
    (m : (a, ArrP A ty vs) ∈ (b, ArrP A ty vd) :: F ∨ (a, ArrP A ty vs) ∈ G) (ls : vs.length < 2 ^ 31) (ld : vd.length < 2 ^ 31) (fs : FitsL ty vs) (fd : FitsL ty vd)
    (h1 : 0 ≤ sp.toInt) (h2 : 0 ≤ dp.toInt) (h3 : 0 ≤ n.toInt) (h4 : sp.toInt + n.toInt ≤ vs.length) (h5 : dp.toInt + n.toInt ≤ vd.length)
    (hv : vd.take dp.toInt.toNat ++ (vs.drop sp.toInt.toNat).take n.toInt.toNat ++ vd.drop (dp.toInt.toNat + n.toInt.toNat) = vd')
    (hL : L.length = B.maxL) (hW : (rest.map fun v => v.category).sum ≤ W) (hf : 1 ≤ B.rm.frames) (hl : W + (nativeFrameWords "java/lang/System" "arraycopy" 5 + 11) ≤ B.rm.locals)
    (k : Go A B D Q (pc + 3) L rest ((b, ArrP A ty vd') :: F) G cells slots) : Go A B D Q pc L (.int n :: .int dp :: .ref b :: .int sp :: .ref a :: rest) ((b, ArrP A ty vd) :: F) G cells slots := fun hb T hT => by
  obtain ⟨vm0, k0, locs, X, hZ, hown, hS, hk, N, Ch, H⟩ := hT
  obtain ⟨c1, e1, P1⟩ := H.at m
  obtain ⟨c2, e2, P2⟩ := H.at (Or.inl (List.mem_cons_self ..))
  have sa := H.2.2.2.2 _ (List.mem_cons_self ..)
  have z0 : (0 : Int32).toInt = 0 := rfl
  have en : ∀ {x : Int32}, x.toNatClampNeg = x.toInt.toNat := rfl
  obtain ⟨T', h', L1, X', e', N', K, Av, st⟩ := cpA X hb.1 hZ hown w1 w2 w3 w4 rfl (P1.arv (dv := .null) e1 ls fs) (P2.arv (dv := .null) e2 ld fd) (us := (vs.drop sp.toInt.toNat).take n.toInt.toNat) (Or.inl ⟨rfl, hpr⟩)
    (by rw [i32_lt]; omega) (by rw [i32_lt]; omega) (by rw [i32_lt]; omega) (by simp only [en]; rw [nI_nat ls]; omega) (by simp only [en]; rw [nI_nat ld]; omega) (by simp only [en]; exact (own_us (by omega)).symm) (by simp only [en]; omega) N.1 sa.1
    (g := mkF D.m pc L.toArray (.int n :: .int dp :: .ref b :: .int sp :: .ref a :: rest)) rfl (by rw [hb.2.2.1, ← hL]; simp) rfl (own_dec hd hb hi) hf (W := W) (by show 2 * 0 + _ ≤ _; omega) hl
  subst e'
  have hp : ∃ c : Cell, T'.heap[b]? = some c ∧ ArrP A ty vd' c := by
    refine ArrP.of_arv ld ?_ (hv ▸ Av) fun z c9 e9 => ?_
    rotate_left
    · obtain ⟨c8, f1, f2, f3, f4⟩ := K.2.2 b c2 e2
      cases e9.symm.trans f1
      obtain ⟨k, g1, g2, g3, g4, g5⟩ := P2.2.1.2 z
      exact ⟨k, by rw [f2]; exact g1, by rw [f2]; exact g2, by rw [f3]; exact g3, by rw [f3]; exact g4, fun q => by rw [f4]; exact g5 q⟩
    rw [← hv]; simp only [List.length_append, List.length_take, List.length_drop]; omega
  obtain ⟨s₂, o, st', r⟩ := k hb T' ⟨vm0, k0, L1, X', hZ, hown, hS, Nat.le_trans hk K.1, ⟨N', N.2⟩, Ch.trans (CHr.keep K (fun x hx => by cases List.mem_singleton.mp hx; exact sa.2.1) Ch.1), H.keep1 Ch.1 K hp⟩
  exact ⟨s₂, o, st _ st', r⟩
end Own
section Own
variable {A : Ax} {B : Bx} {D : Dx} {Q : Pst} {pc pc' : Nat} {L L' : List Slot} {S S' rest : List Value} {F F' G G' : List Ent} {cells slots : Nat} {tb : List In1}
end Own
/-! own_9: reference arrays; checkcast of a subclass and of null; more calls -/
/-- an array whose class's name is known -/
def ArkP (A : Ax) (ty : FieldType) (ad : String) (vs : List Value) (c : Cell) : Prop := ArrP A ty vs c ∧ ClP A.Z ad c
/-- an array of references that may be written -/
def RarP (A : Ax) (C ad : String) (vs : List Value) (c : Cell) : Prop := ArkP A (.object C) ad vs c ∧ Ovr A.Z c.cls C
theorem own_notface {s : State} {C : String} {y y2 : MethodName} (w : (Cond.selects C y2 y2).before #[] s = true) (hc : y2.cls = y.cls) : NotFace s y := fun r0 h0 => by
  obtain ⟨c2, r2, m2, q1, q2, q3, q4, kP, hkP, hkPi⟩ := Cond.selects_spec w
  have e1 := findClass_of_methodNamed q3
  have e2 := findClass_of_methodNamed h0
  rw [hc] at e1
  have e3 : m2.cls = r0.cls := Option.some.inj (e1.symm.trans e2)
  exact ⟨kP, e3 ▸ hkP, hkPi⟩
theorem own_sel0 {a0 : Array Value} {Z : State} {C : String} {y z : MethodName} (w : (Cond.selects C y z).before a0 Z = true) : (Cond.selects C y z).before #[] Z = true := w
section Own
variable {A : Ax} {B : Bx} {D : Dx} {Q : Pst} {pc pc' : Nat} {L L' : List Slot} {S S' rest : List Value} {F F' G G' : List Ent} {cells slots : Nat} {tb : List In1}
theorem RarP.set {C ad : String} {vs : List Value} {c : Cell} (P : RarP A C ad vs c) (i : Nat) (v : Value) : RarP A C ad (vs.set i v) (c.setSlot i v) := ⟨⟨P.1.1.set i v, P.1.2.set i v⟩, P.2⟩
theorem Go.arraylengthP (hd : Dec B.bytes tb) (i : Nat) {a : Addr} {ty : FieldType} {vs : List Value} {z : Int32} {P : Cell → Prop} (hi : tb[i]? = some (pc, .arraylength, 1)) (m : (a, P) ∈ F ∨ (a, P) ∈ G) (hP : ∀ c, P c → ArrP A ty vs c) (hz : (vs.length : Int) = z.toInt)
    (k : Go A B D Q (pc + 1) L (.int z :: rest) F G cells slots) : Go A B D Q pc L (.ref a :: rest) F G cells slots :=
  Go.stay (fun hb T vm0 locs X hZ hown H => by
    obtain ⟨c, e, P0⟩ := H.at m
    have P := hP c P0
    refine ⟨T, X, rfl, fun target st => X.arraylength hb.1 e (State.isArrayOf_alike (T := D.s.setVm vm0) hZ.alike P.1) (g := mkF D.m pc L.toArray (.ref a :: rest)) rfl rfl (own_dec hd hb hi) target ?_⟩
    rw [P.size, own_len hz]; exact st) k
theorem Go.aaloadP (hd : Dec B.bytes tb) (i : Nat) {a : Addr} {ty : FieldType} {vs : List Value} {j : Int32} {v : Value} {P : Cell → Prop} (hi : tb[i]? = some (pc, .aaload, 1)) (ht : ty.isReference = true) (m : (a, P) ∈ F ∨ (a, P) ∈ G) (hP : ∀ c, P c → ArrP A ty vs c) (h : InB j vs.length) (hv : vs[j.toInt.toNat]? = some v)
    (k : Go A B D Q (pc + 1) L (v :: rest) F G cells slots) : Go A B D Q pc L (.int j :: .ref a :: rest) F G cells slots :=
  Go.stay (fun hb T vm0 locs X hZ hown H => by
    obtain ⟨c, e, P0⟩ := H.at m
    have P := hP c P0
    exact ⟨T, X, rfl, fun target st => X.aaload hb.1 e (State.isArrayOf_alike (T := D.s.setVm vm0) hZ.alike P.1) ht P.2.1.1 (own_get P h hv).1 (own_get P h hv).2 (g := mkF D.m pc L.toArray (.int j :: .ref a :: rest)) rfl rfl (own_dec hd hb hi) target st⟩) k
theorem Go.anewarray (hd : Dec B.bytes tb) (i : Nat) {ix : Nat} {C ad : String} {n : Int32} {cap : Nat} {vs : List Value} (hi : tb[i]? = some (pc, .anewarray ix, 3)) (w1 : (Cond.classLink B.y.cls ix C).before A.a0 A.Z = true) (w2 : (Cond.arrayOver (.object C)).before A.a0 A.Z = true) (had : "[" ++ (FieldType.object C).toString = ad) (hn : 0 ≤ n.toInt) (hcap : n.toInt.toNat ≤ cap) (hb8 : cap * 8 ≤ 536870912)
    (hc : cells + 1 ≤ B.rm.cells) (hl : slots + cap ≤ B.rm.slots) (hv : List.replicate n.toInt.toNat Value.null = vs)
    (k : ∀ a : Addr, Go A B D Q (pc + 3) L (.ref a :: rest) ((a, RarP A C ad vs) :: F) G (cells + 1) (slots + cap)) : Go A B D Q pc L (.int n :: rest) F G cells slots := fun hb T hT => by
  obtain ⟨vm0, k0, locs, X, hZ, hown, hS, hk, N, Ch, H⟩ := hT
  obtain ⟨T', h', cA, X', e', E, Ar, Ex, Ov, st⟩ := newRE X hb.1 hZ hown w1 w2 rfl (g := mkF D.m pc L.toArray (.int n :: rest)) rfl (own_dec hd hb hi) rfl (by rw [Int32.lt_iff_toInt_lt]; have : (0 : Int32).toInt = 0 := rfl; omega) (cap := cap) hcap hb8 hc hl had
  have hP : RarP A C ad vs (newA cA (.object C) n) := by
    obtain ⟨c1, k1, q1, q2, q3, q4, q5⟩ := Ex
    cases Ar.1.symm.trans q1
    exact ⟨⟨⟨Ar.2.1, ⟨Ar.2.2, fun z => by cases z⟩, by rw [← hv]; simp [newA, defaultValue]⟩, k1, q2, q3, q4, Ar.2.2, q5⟩, Ov⟩
  obtain ⟨s₂, o, st', r⟩ := k T.heap.size hb T' ⟨vm0, k0, _, X', hZ, hown, hS, by rw [e']; exact Nat.le_trans hk E.1, N, by rw [e']; exact Ch.trans (CHr.ext E Ch.1), by rw [e']; exact H.new Ch.1 E Ar.1 hP⟩
  exact ⟨s₂, o, st _ st', r⟩
theorem Go.aastore (hd : Dec B.bytes tb) (i : Nat) {a y : Addr} {C ad K : String} {vs vs' : List Value} {j : Int32} {P : Cell → Prop} (hi : tb[i]? = some (pc, .aastore, 1)) (h : InB j vs.length) (m : (y, P) ∈ (a, RarP A C ad vs) :: F ∨ (y, P) ∈ G) (hP : ∀ c, P c → ClP A.Z K c) (wc : (Cond.castable K C).before A.a0 A.Z = true) (hv : vs.set j.toInt.toNat (.ref y) = vs')
    (k : Go A B D Q (pc + 1) L rest ((a, RarP A C ad vs') :: F) G cells slots) : Go A B D Q pc L (.ref y :: .int j :: .ref a :: rest) ((a, RarP A C ad vs) :: F) G cells slots := fun hb T hT => by
  obtain ⟨vm0, k0, locs, X, hZ, hown, hS, hk, N, Ch, H⟩ := hT
  obtain ⟨c, e, p⟩ := H.at (a := a) (P := RarP A C ad vs) (Or.inl (List.mem_cons_self ..))
  obtain ⟨cy, ey, py⟩ := H.at m
  obtain ⟨T', h', X', e', W, st⟩ := stR X hb.1 hZ rfl (cl := c) (ty := .object C) ⟨e, p.1.1.1, p.1.1.2.1.1⟩ (j := j) (by rw [p.1.1.size]; exact h.in) rfl (Sto.of ⟨e, p.1.1.1, p.1.1.2.1.1⟩ p.2 (Ins.of_exa ((hP cy py).exa ey) wc)) (g := mkF D.m pc L.toArray (.ref y :: .int j :: .ref a :: rest)) rfl rfl (own_dec hd hb hi)
  have sa := H.2.2.2.2 _ (List.mem_cons_self ..)
  obtain ⟨s₂, o, st', r⟩ := k hb T' ⟨vm0, k0, _, X', hZ, hown, hS, by rw [e', W.size]; exact hk, ⟨Fr.snoc X' N.1 sa.1, N.2⟩, by rw [e']; exact Ch.trans (CHr.wr W sa.2.1 Ch.1), by rw [e']; exact H.wr Ch.1 W (fun c P => by rw [← hv]; exact P.set _ _)⟩
  exact ⟨s₂, o, st _ st', r⟩
theorem Go.clone (hd : Dec B.bytes tb) (i : Nat) {ix W cap : Nat} {a : Addr} {ty : FieldType} {ad : String} {vs : List Value} {P : Cell → Prop} (hi : tb[i]? = some (pc, .invokevirtual ix, 3))
    (w1 : (Cond.methodLink B.y.cls ix ⟨ad, "clone", "()Ljava/lang/Object;"⟩).before A.a0 A.Z = true) (w2 : (Cond.sameMethod ad "java/lang/Object" "clone" "()Ljava/lang/Object;").before A.a0 A.Z = true) (w3 : (Cond.native ⟨"java/lang/Object", "clone", "()Ljava/lang/Object;"⟩).before A.a0 A.Z = true)
    (w4 : (Cond.instanceMethod ⟨"java/lang/Object", "clone", "()Ljava/lang/Object;"⟩).before A.a0 A.Z = true) (w5 : (Cond.selects ad ⟨ad, "clone", "()Ljava/lang/Object;"⟩ ⟨"java/lang/Object", "clone", "()Ljava/lang/Object;"⟩).before A.a0 A.Z = true) (w6 : (Cond.castable ad "java/lang/Cloneable").before A.a0 A.Z = true)
    (m : (a, P) ∈ F ∨ (a, P) ∈ G) (hP : ∀ c, P c → ArkP A ty ad vs c) (hfl : FitsL ty vs) (hL : L.length = B.maxL) (hW : (rest.map fun v => v.category).sum ≤ W) (hf : 1 ≤ B.rm.frames) (hl : W + 14 ≤ B.rm.locals) (hcap : vs.length ≤ cap) (hc : cells + 1 ≤ B.rm.cells) (hs : slots + cap ≤ B.rm.slots)
    (k : ∀ b : Addr, Go A B D Q (pc + 3) L (.ref b :: rest) ((b, ArkP A ty ad vs) :: F) G (cells + 1) (slots + cap)) : Go A B D Q pc L (.ref a :: rest) F G cells slots := fun hb T hT => by
  obtain ⟨vm0, k0, locs, X, hZ, hown, hS, hk, N, Ch, H⟩ := hT
  obtain ⟨c, e, p0⟩ := H.at m
  have p := hP c p0
  have Ar : Arr A.Z T.heap a c ty := ⟨e, p.1.1, p.1.2.1.1⟩
  obtain ⟨T', h', X', e', E, Ar', Ex, st⟩ := cloneA X hb.1 hZ hown w1 w2 w3 w4 w5 w6 rfl Ar (p.2.exa e) (fitC_of Ar fun i hi v hv => hfl v (by rw [← p.1.2.2]; exact List.mem_of_getElem? (by rw [Array.getElem?_toList]; exact hv))) (g := mkF D.m pc L.toArray (.ref a :: rest)) rfl (by rw [hb.2.2.1, ← hL]; simp) rfl (own_dec hd hb hi) hf (W := W) (by show 2 * 0 + _ ≤ _; omega) hl (by rw [p.1.size]; exact hcap) hc hs
  have hP : ArkP A ty ad vs (cloneOf c) := by
    obtain ⟨c1, k1, q1, q2, q3, q4, q5⟩ := Ex
    cases Ar'.1.symm.trans q1
    refine ⟨⟨Ar'.2.1, ⟨Ar'.2.2, fun z => ?_⟩, p.1.2.2⟩, k1, q2, q3, q4, Ar'.2.2, q5⟩
    obtain ⟨k, g1, g2, g3, g4, g5⟩ := p.1.2.1.2 z
    exact ⟨k, g1, g2, q4, Ar'.2.2, g5⟩
  obtain ⟨s₂, o, st', r⟩ := k T.heap.size hb T' ⟨vm0, k0, _, X', hZ, hown, hS, by rw [e']; exact Nat.le_trans hk E.1, N, by rw [e']; exact Ch.trans (CHr.ext E Ch.1), by rw [e']; exact H.new Ch.1 E Ar'.1 hP⟩
  exact ⟨s₂, o, st _ st', r⟩
theorem Go.castUp (hd : Dec B.bytes tb) (i : Nat) {ix : Nat} {a : Addr} {C K : String} {P : Cell → Prop} (hi : tb[i]? = some (pc, .checkcast ix, 3)) (w : (Cond.classLink B.y.cls ix K).before A.a0 A.Z = true) (m : (a, P) ∈ F ∨ (a, P) ∈ G) (hP : ∀ c, P c → ClP A.Z C c) (wc : (Cond.castable C K).before A.a0 A.Z = true)
    (k : Go A B D Q (pc + 3) L (.ref a :: rest) F G cells slots) : Go A B D Q pc L (.ref a :: rest) F G cells slots :=
  Go.stay (fun hb T vm0 locs X hZ hown H => by
    obtain ⟨c, e, p⟩ := H.at m
    obtain ⟨T', X', e', st⟩ := Jvm.RoadKit.castY X hb.1 hZ hown w rfl (Ins.of_exa ((hP c p).exa e) wc) (g := mkF D.m pc L.toArray (.ref a :: rest)) rfl rfl (own_dec hd hb hi)
    exact ⟨T', X', e', st⟩) k
theorem Go.getfieldNest (hd : Dec B.bytes tb) (i : Nat) {ix : Nat} {a : Addr} {C O n d host : String} {v : Value} {fs : List (String × String × String × Value)} (hi : tb[i]? = some (pc, .getfield ix, 3)) (w : (Cond.fieldLinkNest B.y.cls ix O n d host).before A.a0 A.Z = true)
    (m : (a, ObjP A C fs) ∈ F ∨ (a, ObjP A C fs) ∈ G) (hf : (O, n, d, v) ∈ fs) (k : Go A B D Q (pc + 3) L (v :: rest) F G cells slots) : Go A B D Q pc L (.ref a :: rest) F G cells slots :=
  Go.stay (fun hb T vm0 locs X hZ hown H => by
    obtain ⟨c, e, P⟩ := H.at m
    obtain ⟨T', X', e', st⟩ := getF X hb.1 hZ hown (host := host) (Or.inr w) Via.refl rfl ((P.2 _ hf).fld P.1 e) (g := mkF D.m pc L.toArray (.ref a :: rest)) rfl rfl (own_dec hd hb hi)
    exact ⟨T', X', e', st⟩) k
theorem Go.putfieldVia (hd : Dec B.bytes tb) (i : Nat) {ix kk : Nat} {a : Addr} {C O R0 n d : String} {v w0 : Value} {fs fs' : List (String × String × String × Value)} {ty : FieldType} (hi : tb[i]? = some (pc, .putfield ix, 3)) (w : (Cond.fieldLink B.y.cls ix R0 n d).before A.a0 A.Z = true) (via : Via A.Z R0 O n d)
    (hl : (Cond.lays C O n d).before A.a0 A.Z = true) (wi : (Cond.instantiable C kk).before A.a0 A.Z = true) (hty : parseFieldDescriptor d = some ty) (hn : narrow ty v = v) (hfi : fits ty v = true)
    (hm : (O, n, d, w0) ∈ fs) (hf : ∀ q ∈ fs', q = (O, n, d, v) ∨ (q ∈ fs ∧ q.2.1 ≠ n)) (k : Go A B D Q (pc + 3) L rest ((a, ObjP A C fs') :: F) G cells slots) : Go A B D Q pc L (v :: .ref a :: rest) ((a, ObjP A C fs) :: F) G cells slots :=
  Go.wrote (fun hb T vm0 locs c X hZ hown e P => by
    obtain ⟨T', h', X', e', W, st⟩ := putF X hb.1 hZ hown (host := "") (Or.inl w) via rfl ((P.2 _ hm).fld P.1 e) (P.1.exa e) (Or.inl hl) wi hty hn hfi (g := mkF D.m pc L.toArray (v :: .ref a :: rest)) rfl rfl (own_dec hd hb hi)
    exact ⟨T', h', X', e', W, st⟩) (fun c P => P.set hm hf) k
theorem Go.callI (hd : Dec B.bytes tb) (i : Nat) {ix W cnt : Nat} {B' : Bx} {xi : MethodName} {C : String} {a : Addr} {argsL : List Value} {as' : Array Value} {Qc : Pst} {P : Cell → Prop} {ps : List FieldType} {rt : Option FieldType} (hi : tb[i]? = some (pc, .invokeinterface ix cnt, 5)) (hM : Met A B' as' F G Qc) (m : (a, P) ∈ F ∨ (a, P) ∈ G) (hP : ∀ c, P c → ClP A.Z C c)
    (w1 : (Cond.methodLink B.y.cls ix xi).before A.a0 A.Z = true) (w2 : (Cond.declares xi).before A.a0 A.Z = true) (wf : (Cond.interfaceMethod xi.cls xi.cls xi.name xi.desc).before A.a0 A.Z = true) (w4 : (Cond.selects C xi B'.y).before A.a0 A.Z = true) (w3 : (Cond.instanceMethod B'.y).before A.a0 A.Z = true) (wp : (Cond.publicMethod B'.y).before A.a0 A.Z = true) (wu : (Cond.unhidden C xi.name xi.desc).before A.a0 A.Z = true) (wk : (Cond.castable C xi.cls).before A.a0 A.Z = true) (wz : (Cond.initialized B'.y.cls).before A.a0 A.Z = true) (wc : (Cond.code B'.y B'.bytes B'.maxL B'.ret).before A.a0 A.Z = true)
    (hy : xi.cls ≠ "java/lang/invoke/MethodHandle" ∧ xi.cls ≠ "java/lang/invoke/VarHandle") (hds : parseMethodDescriptor xi.desc = some ⟨ps, rt⟩) (has : (Value.ref a :: argsL).toArray = as') (hlen : argsL.length = ps.length) (hstk : S = argsL.reverse ++ .ref a :: rest) (hL : L.length = B.maxL) (hW : (rest.map fun v => v.category).sum ≤ W)
    (hf : B'.rm.frames + 1 ≤ B.rm.frames) (hl : W + (B'.maxL + 11) + B'.rm.locals ≤ B.rm.locals) (hc : cells + B'.rm.cells ≤ B.rm.cells) (hs : slots + B'.rm.slots ≤ B.rm.slots)
    (k : ∀ v F' G', Qc v F' G' → Go A B D Q (pc + 5) L (v.toList ++ rest) F' G' (cells + B'.rm.cells) (slots + B'.rm.slots)) : Go A B D Q pc L S F G cells slots := fun hb T hT => by
  subst hstk
  obtain ⟨vm0, k0, locs, X, hZ, hown, hS, hk, N, Ch, H⟩ := hT
  obtain ⟨c, e, hp0⟩ := H.at m
  obtain ⟨cB, kB, q1, q2, q3⟩ := (hP c hp0).isOf (A := A) (D := D) hZ e
  obtain ⟨v, vm1, P, hU0, X', hS2, hg, hp, hsteps⟩ := X.interfaceBackS hb.1 hown (mv (s := D.s.setVm vm0) hZ w1) (mv (s := D.s.setVm vm0) hZ w2) (mv (s := D.s.setVm vm0) hZ wf (by simp [Cond.onTables, Cond.keepsFace, Cond.keeps, Cond.steady, Cond.faceAtom]; exact hy)) (mv (s := D.s.setVm vm0) hZ w4) (mv (s := D.s.setVm vm0) hZ w3) (mv (s := D.s.setVm vm0) hZ wp) (mv (s := D.s.setVm vm0) hZ wu) (mv (s := D.s.setVm vm0) hZ wk) hy (own_back (W := W) hM hb.2.2.2.2.2.2 hZ Ch.1 H wc wz hf hl) q1 q2 q3 (g := mkF D.m pc L.toArray (argsL.reverse ++ .ref a :: rest)) rfl (by rw [hb.2.2.1, ← hL]; simp) (Steps.refl _)
    (lenOf hds hlen) rfl (by show 2 * 0 + _ ≤ _; omega) (own_dec hd hb hi) (fun _ _ => ⟨has, rfl, hc, hs⟩)
  exact own_after (U0 := T.setVm vm1) k hb hZ hown hS hk N hU0 Ch X' hS2 hg hp hsteps
/-- invokevirtual of y, which selects z -/
theorem Go.callVZ (hd : Dec B.bytes tb) (i : Nat) {ix W : Nat} {B' : Bx} {y y2 : MethodName} {C : String} {a : Addr} {argsL : List Value} {as' : Array Value} {Qc : Pst} {P : Cell → Prop} {ps : List FieldType} {rt : Option FieldType} (hi : tb[i]? = some (pc, .invokevirtual ix, 3)) (hM : Met A B' as' F G Qc) (m : (a, P) ∈ F ∨ (a, P) ∈ G) (hP : ∀ c, P c → ClP A.Z C c)
    (w1 : (Cond.methodLink B.y.cls ix y).before A.a0 A.Z = true) (w2 : (Cond.declares y).before A.a0 A.Z = true) (w3 : (Cond.instanceMethod B'.y).before A.a0 A.Z = true) (w4 : (Cond.selects C y B'.y).before A.a0 A.Z = true) (w5 : (Cond.selects C y2 y2).before A.a0 A.Z = true) (h5 : y2.cls = y.cls) (wz : (Cond.initialized B'.y.cls).before A.a0 A.Z = true) (wc : (Cond.code B'.y B'.bytes B'.maxL B'.ret).before A.a0 A.Z = true)
    (hy : y.cls ≠ "java/lang/invoke/MethodHandle" ∧ y.cls ≠ "java/lang/invoke/VarHandle") (hds : parseMethodDescriptor y.desc = some ⟨ps, rt⟩) (has : (Value.ref a :: argsL).toArray = as') (hlen : argsL.length = ps.length) (hstk : S = argsL.reverse ++ .ref a :: rest) (hL : L.length = B.maxL) (hW : (rest.map fun v => v.category).sum ≤ W)
    (hf : B'.rm.frames + 1 ≤ B.rm.frames) (hl : W + (B'.maxL + 11) + B'.rm.locals ≤ B.rm.locals) (hc : cells + B'.rm.cells ≤ B.rm.cells) (hs : slots + B'.rm.slots ≤ B.rm.slots)
    (k : ∀ v F' G', Qc v F' G' → Go A B D Q (pc + 3) L (v.toList ++ rest) F' G' (cells + B'.rm.cells) (slots + B'.rm.slots)) : Go A B D Q pc L S F G cells slots := fun hb T hT => by
  subst hstk
  obtain ⟨vm0, k0, locs, X, hZ, hown, hS, hk, N, Ch, H⟩ := hT
  obtain ⟨c, e, hp0⟩ := H.at m
  obtain ⟨cB, kB, q1, q2, q3⟩ := (hP c hp0).isOf (A := A) (D := D) hZ e
  obtain ⟨v, vm1, P, hU0, X', hS2, hg, hp, hsteps⟩ := X.virtualBackS hb.1 hown (mv (s := D.s.setVm vm0) hZ w1) (mv (s := D.s.setVm vm0) hZ w2) (own_notface (mv (s := D.s.setVm vm0) (args := #[]) hZ w5) h5) (mv (s := D.s.setVm vm0) hZ w4) (mv (s := D.s.setVm vm0) hZ w3) hy (own_back (W := W) hM hb.2.2.2.2.2.2 hZ Ch.1 H wc wz hf hl) q1 q3 (g := mkF D.m pc L.toArray (argsL.reverse ++ .ref a :: rest)) rfl (by rw [hb.2.2.1, ← hL]; simp) (Steps.refl _)
    (lenOf hds hlen) rfl (by show 2 * 0 + _ ≤ _; omega) (own_dec hd hb hi) (fun _ _ => ⟨has, rfl, hc, hs⟩)
  exact own_after (U0 := T.setVm vm1) k hb hZ hown hS hk N hU0 Ch X' hS2 hg hp hsteps
/-- invokespecial of the superclass's method -/
theorem own_same {a0 : Array Value} {Z : State} {C : String} {y y2 : MethodName} (w3 : (Cond.instanceMethod y).before a0 Z = true) (w5 : (Cond.selects C y2 y2).before #[] Z = true) (h5 : y2.cls = y.cls) (hy : y.cls ≠ "java/lang/invoke/MethodHandle" ∧ y.cls ≠ "java/lang/invoke/VarHandle") : (Cond.sameMethod y.cls y.cls y.name y.desc).before a0 Z = true := by
  obtain ⟨mk, methM, hnamed, hmethM, hstM, habM⟩ := Cond.instanceMethod_spec w3
  obtain ⟨kr, h1, h2⟩ := own_notface (y := y) w5 h5 mk hnamed
  have hc := findClass_of_methodNamed hnamed
  have hf := State.methodFound?_of_named hnamed hy
  have hn : Z.methodNamed? ⟨y.cls, y.name, y.desc⟩ = some mk := hnamed
  simp [Cond.before, Cond.holds, Cond.value, hc, hf, hn, h1, h2]
theorem Go.callSup (hd : Dec B.bytes tb) (i : Nat) {ix W : Nat} {B' : Bx} {K C : String} {y2 : MethodName} {a : Addr} {argsL : List Value} {as' : Array Value} {Qc : Pst} {P : Cell → Prop} {ps : List FieldType} {rt : Option FieldType} (hi : tb[i]? = some (pc, .invokespecial ix, 3)) (hM : Met A B' as' F G Qc) (m : (a, P) ∈ F ∨ (a, P) ∈ G) (hP : ∀ c, P c → ClP A.Z C c)
    (w1 : (Cond.methodLink B.y.cls ix B'.y).before A.a0 A.Z = true) (w3 : (Cond.instanceMethod B'.y).before A.a0 A.Z = true) (w4 : (Cond.superclass B.y.cls B'.y.cls).before A.a0 A.Z = true) (w5 : (Cond.selects K y2 y2).before #[] A.Z = true) (h5 : y2.cls = B'.y.cls) (hn : B'.y.name ≠ "<init>") (wz : (Cond.initialized B'.y.cls).before A.a0 A.Z = true) (wc : (Cond.code B'.y B'.bytes B'.maxL B'.ret).before A.a0 A.Z = true)
    (hy : B'.y.cls ≠ "java/lang/invoke/MethodHandle" ∧ B'.y.cls ≠ "java/lang/invoke/VarHandle") (hds : parseMethodDescriptor B'.y.desc = some ⟨ps, rt⟩) (has : (Value.ref a :: argsL).toArray = as') (hlen : argsL.length = ps.length) (hstk : S = argsL.reverse ++ .ref a :: rest) (hL : L.length = B.maxL) (hW : (rest.map fun v => v.category).sum ≤ W)
    (hf : B'.rm.frames + 1 ≤ B.rm.frames) (hl : W + (B'.maxL + 11) + B'.rm.locals ≤ B.rm.locals) (hc : cells + B'.rm.cells ≤ B.rm.cells) (hs : slots + B'.rm.slots ≤ B.rm.slots)
    (k : ∀ v F' G', Qc v F' G' → Go A B D Q (pc + 3) L (v.toList ++ rest) F' G' (cells + B'.rm.cells) (slots + B'.rm.slots)) : Go A B D Q pc L S F G cells slots := fun hb T hT => by
  subst hstk
  obtain ⟨vm0, k0, locs, X, hZ, hown, hS, hk, N, Ch, H⟩ := hT
  obtain ⟨c, e, hp0⟩ := H.at m
  obtain ⟨v, vm1, P, hU0, X', hS2, hg, hp, hsteps⟩ := superBackS X hb.1 hZ hown w1 (own_same w3 w5 h5 hy) w3 w4 hn (own_back (W := W) hM hb.2.2.2.2.2.2 hZ Ch.1 H wc wz hf hl) rfl (Ins.self ((hP c hp0).exa e)) (g := mkF D.m pc L.toArray (argsL.reverse ++ .ref a :: rest)) rfl (by rw [hb.2.2.1, ← hL]; simp) wc
    (lenOf hds hlen) rfl (by show 2 * 0 + _ ≤ _; omega) (own_dec hd hb hi) (fun _ _ => ⟨has, rfl, hc, hs⟩)
  exact own_after (U0 := T.setVm vm1) k hb hZ hown hS hk N hU0 Ch X' hS2 hg hp hsteps
/-- invokevirtual of a private method; her class is told no interface by a word 'selects' -/
theorem Go.callPS (hd : Dec B.bytes tb) (i : Nat) {ix W : Nat} {y2 : MethodName} {K2 : String} {B' : Bx} {a : Addr} {argsL : List Value} {as' : Array Value} {Qc : Pst} {P : Cell → Prop} {ps : List FieldType} {rt : Option FieldType} (hi : tb[i]? = some (pc, .invokevirtual ix, 3)) (hM : Met A B' as' F G Qc) (m : (a, P) ∈ F ∨ (a, P) ∈ G) {C : String} (hP : ∀ c, P c → ClP A.Z C c)
    (w1 : (Cond.methodLink B.y.cls ix B'.y).before A.a0 A.Z = true) (w3 : (Cond.instanceMethod B'.y).before A.a0 A.Z = true) (w4 : (Cond.privateMethod B'.y).before A.a0 A.Z = true) (w5 : (Cond.selects K2 y2 y2).before A.a0 A.Z = true) (h5 : y2.cls = B'.y.cls) (wz : (Cond.initialized B'.y.cls).before A.a0 A.Z = true) (wc : (Cond.code B'.y B'.bytes B'.maxL B'.ret).before A.a0 A.Z = true)
    (hy : B'.y.cls ≠ "java/lang/invoke/MethodHandle" ∧ B'.y.cls ≠ "java/lang/invoke/VarHandle") (hds : parseMethodDescriptor B'.y.desc = some ⟨ps, rt⟩) (has : (Value.ref a :: argsL).toArray = as') (hlen : argsL.length = ps.length) (hstk : S = argsL.reverse ++ .ref a :: rest) (hL : L.length = B.maxL) (hW : (rest.map fun v => v.category).sum ≤ W)
    (hf : B'.rm.frames + 1 ≤ B.rm.frames) (hl : W + (B'.maxL + 11) + B'.rm.locals ≤ B.rm.locals) (hc : cells + B'.rm.cells ≤ B.rm.cells) (hs : slots + B'.rm.slots ≤ B.rm.slots)
    (k : ∀ v F' G', Qc v F' G' → Go A B D Q (pc + 3) L (v.toList ++ rest) F' G' (cells + B'.rm.cells) (slots + B'.rm.slots)) : Go A B D Q pc L S F G cells slots := fun hb T hT => by
  subst hstk
  obtain ⟨vm0, k0, locs, X, hZ, hown, hS, hk, N, Ch, H⟩ := hT
  obtain ⟨c, e, hp0⟩ := H.at m
  obtain ⟨k9, -, -, hst, -, -⟩ := hP c hp0
  have hB := own_back (B := B) (D := D) (len := 3) (W := W) hM hb.2.2.2.2.2.2 hZ Ch.1 H wc wz hf hl
  obtain ⟨mk, methM, hnamed, hmethM, hstM, habM⟩ := Cond.instanceMethod_spec (mv (s := D.s.setVm vm0) (args := #[]) hZ w3)
  obtain ⟨methM', cM, hmethM', -, -, -, -, -, -, hsigM⟩ := Cond.code_spec hnamed (mv (s := D.s.setVm vm0) (args := #[]) hZ wc)
  cases hmethM.symm.trans hmethM'
  obtain ⟨k7, i2, hni⟩ := own_notface (mv (s := D.s.setVm vm0) (args := #[]) hZ w5) h5 mk hnamed
  have hpriv := Cond.privateMethod_at (mvP (s := D.s.setVm vm0) (args := #[]) hZ w4)
  have hselP : selectMethod D.e.platform (D.s.setVm vm0).vm c.cls mk = .method mk := selectMethod_private hmethM (hpriv mk methM hnamed hmethM)
  obtain ⟨vm₁, X₁, hstep₁⟩ := X.invokevirtual hb.1 hown (mv (s := D.s.setVm vm0) hZ w1) hnamed hmethM hstM i2 hni hy (a := a) (cell := c) e (fun q z => by rw [z] at hst; cases hst) hselP hmethM habM i2 hni (g := mkF D.m pc L.toArray (argsL.reverse ++ .ref a :: rest)) rfl (argsL := argsL) (rest := rest) (lenOf hds hlen _ hsigM) rfl (own_dec hd hb hi)
  have hW₁ : (D.s.setVm vm0).WarmedH vm₁ := X₁.warmed
  obtain ⟨v, P2, X', hS2, hg, hp, hsteps⟩ := hB D.m D.meth D.c ⟨T.setVm vm₁, locs, cells, slots⟩ (mkF D.m pc L.toArray rest) (.invokevirtual ix) mk as' X₁ rfl (by show L.toArray.size = _; rw [hb.2.2.1, ← hL]; simp) (own_dec hd hb hi) (by show 2 * 0 + (rest.map fun v => v.category).sum ≤ W; omega) (X₁.named hnamed) ⟨rfl, rfl, hc, hs⟩
  exact own_after (U0 := T.setVm vm₁) k hb hZ hown hS hk N hW₁ Ch X' hS2 hg hp ((hstep₁ _ fun acts => by rw [doInvoke_state, has]; exact Steps.refl _).trans hsteps)
end Own
/-! own_10: what the sheet tells of the heap at the start -/
def ElemsAt (A : Ax) (t : Term) : Nat → List Value → Prop
  | _, [] => True
  | i, v :: r => (Term.elem t (.int (nI i))).eval A.a0 A.Z none [] A.Z = some v ∧ ElemsAt A t (i + 1) r
theorem ElemsAt.get {A : Ax} {t : Term} {a : Addr} {c : Cell} (ev : t.eval A.a0 A.Z none [] A.Z = some (.ref a)) (hc : A.Z.heap[a]? = some c) : ∀ (vs : List Value) (i : Nat), i + vs.length < 2 ^ 31 → ElemsAt A t i vs → ∀ j, j < vs.length → c.slots[i + j]? = vs[j]?
  | [], _, _, _, _, q => by simp at q
  | v :: r, i, hl, h, 0, _ => by
    have q := (elem_in h.1 ev (Term.int_eval _) hc).2
    have e : (nI i).toNatClampNeg = i := nI_nat (by simp only [List.length_cons] at hl; omega)
    rw [e] at q; simpa using q
  | v :: r, i, hl, h, j + 1, q => by
    have := ElemsAt.get ev hc r (i + 1) (by simp only [List.length_cons] at hl; omega) h.2 j (by simpa using q)
    rw [show i + (j + 1) = i + 1 + j by omega, this]; simp
theorem st_eq {args : Array Value} {s : State} {a b : Term} {y : Value} (h : (Cond.eq a b).value args s none s [] = some true) (hb : b.eval args s none [] s = some y) : a.eval args s none [] s = some y := by
  obtain ⟨z, h1, h2⟩ := Cond.eq_one (Cond.before_iff.mpr h)
  rw [h1]; exact h2.symm.trans hb
theorem arr_start {A : Ax} {t : Term} {a : Addr} {ty : FieldType} {n : Int32} {vs : List Value} (ev : t.eval A.a0 A.Z none [] A.Z = some (.ref a)) (hA : (Cond.arrayOf t ty).value A.a0 A.Z none A.Z [] = some true) (hl : (Cond.eq (.length t) (.int n)).value A.a0 A.Z none A.Z [] = some true) (hn : n = nI vs.length) (hv : vs.length < 2 ^ 31) (H : ElemsAt A t 0 vs) (hnb : ty ≠ .byte := by intro h; cases h) : ∃ c : Cell, A.Z.heap[a]? = some c ∧ ArrP A ty vs c := by
  obtain ⟨c, Ar⟩ := Arr.start ev hA
  have hl' := st_eq hl (Term.int_eval n)
  have ha := Arr.fin (Vm.Alike.refl _) Ar
  have hs : c.slots.size = vs.length := by
    by_cases hb : c.slots.size < 2 ^ 31
    · have := (len_f ev ha hb).symm.trans hl'
      simp only [Option.some.injEq, Value.int.injEq] at this
      have h1 := len_toInt hb
      rw [this, hn, nI_toInt hv] at h1; omega
    · simp [Term.eval, ev, ha, hb] at hl'
  refine ⟨c, Ar.1, Ar.2.1, ⟨Ar.2.2, fun z => absurd z hnb⟩, List.ext_getElem? fun j => ?_⟩
  rw [Array.getElem?_toList]
  by_cases hj : j < vs.length
  · have := ElemsAt.get ev Ar.1 vs 0 (by omega) H j hj
    rw [Nat.zero_add] at this; exact this
  · rw [Array.getElem?_eq_none (by omega), List.getElem?_eq_none (by omega)]
theorem ark_start {A : Ax} {a : Addr} {ty : FieldType} {ad : String} {vs : List Value} (E : Exa A.Z A.Z.heap a ad) (h : ∃ c : Cell, A.Z.heap[a]? = some c ∧ ArrP A ty vs c) : ∃ c : Cell, A.Z.heap[a]? = some c ∧ ArkP A ty ad vs c := by
  obtain ⟨c, e, p⟩ := h
  obtain ⟨c1, k, e1, e2, e3, e4, e5⟩ := E
  cases e.symm.trans e1
  exact ⟨c, e, p, k, e2, e3, e4, p.2.1.1, e5⟩
theorem allG_cons {h : Heap} {q : Ent} {G : List Ent} (h1 : ∃ c : Cell, h[q.1]? = some c ∧ q.2 c) (h2 : ∀ r ∈ G, ∃ c : Cell, h[r.1]? = some c ∧ r.2 c) : ∀ r ∈ q :: G, ∃ c : Cell, h[r.1]? = some c ∧ r.2 c := fun r m => by
  rcases List.mem_cons.mp m with rfl | m
  · exact h1
  · exact h2 r m
theorem allG_nil {h : Heap} : ∀ r ∈ ([] : List Ent), ∃ c : Cell, h[r.1]? = some c ∧ r.2 c := fun _ m => nomatch m
/-! own_11: a literal that is not read; instanceof that says no -/
section Own
variable {A : Ax} {B : Bx} {D : Dx} {Q : Pst} {pc pc' : Nat} {L L' : List Slot} {S S' rest : List Value} {F F' G G' : List Ent} {cells slots : Nat} {tb : List In1}
end Own
/-! own_12: lookupswitch -/
section Own
variable {A : Ax} {B : Bx} {D : Dx} {Q : Pst} {pc pc' : Nat} {L L' : List Slot} {S S' rest : List Value} {F F' G G' : List Ent} {cells slots : Nat} {tb : List In1}
theorem Go.lswHit (hd : Dec B.bytes tb) (i : Nat) {dflt o a : Int} {pairs : Array (Int × Int)} {len : Nat} {x : Int32} (hi : tb[i]? = some (pc, .lookupswitch dflt pairs, len)) (hs : (pairs.toList.zip (pairs.toList.drop 1)).all (fun (a, next) => a.1 < next.1) = true) (hf : pairs.find? (·.1 == x.toInt) = some (a, o))
    (ho : 0 ≤ (pc : Int) + o) (hp : ((pc : Int) + o).toNat = pc') (k : Go A B D Q pc' L rest F G cells slots) : Go A B D Q pc L (.int x :: rest) F G cells slots :=
  Go.stay (fun hb T vm0 locs X hZ hown H => ⟨T, X, rfl, fun target st => X.lookupswitchHit hb.1 (g := mkF D.m pc L.toArray (.int x :: rest)) rfl rfl (own_dec hd hb hi) hs hf ho target (by subst hp; exact st)⟩) k
theorem Go.lswMiss (hd : Dec B.bytes tb) (i : Nat) {dflt : Int} {pairs : Array (Int × Int)} {len : Nat} {x : Int32} (hi : tb[i]? = some (pc, .lookupswitch dflt pairs, len)) (hs : (pairs.toList.zip (pairs.toList.drop 1)).all (fun (a, next) => a.1 < next.1) = true) (hf : pairs.find? (·.1 == x.toInt) = none)
    (ho : 0 ≤ (pc : Int) + dflt) (hp : ((pc : Int) + dflt).toNat = pc') (k : Go A B D Q pc' L rest F G cells slots) : Go A B D Q pc L (.int x :: rest) F G cells slots :=
  Go.stay (fun hb T vm0 locs X hZ hown H => ⟨T, X, rfl, fun target st => X.lookupswitchMiss hb.1 (g := mkF D.m pc L.toArray (.int x :: rest)) rfl rfl (own_dec hd hb hi) hs hf ho target (by subst hp; exact st)⟩) k
end Own
/-! own_13: short forms -/
section Own
variable {A : Ax} {B : Bx} {D : Dx} {Q : Pst} {pc pc' : Nat} {L L' : List Slot} {S S' rest : List Value} {F F' G G' : List Ent} {cells slots : Nat} {tb : List In1}
theorem Go.rn (hd : Dec B.bytes tb) (i n : Nat) (h : runL ((tb.drop i).take n) (pc, L, S) = some (pc', L, S')) (k : Go A B D Q pc' L S' F G cells slots) : Go A B D Q pc L S F G cells slots := Go.run hd i n h k
theorem Go.dropA : ∀ (E : List Ent), Go A B D Q pc L S F G cells slots → Go A B D Q pc L S (E ++ F) G cells slots
  | [], k => k
  | _ :: r, k => Go.drop (Go.dropA r k)
end Own
theorem mi {α : Type} {a : α} {l : List α} (i : Nat) (h : l[i]? = some a) : a ∈ l := List.mem_of_getElem? h
/-- a String of these chars, by either way of storing them -/
def StrR (A : Ax) (G : List Ent) (a : Addr) (cs : List Int32) : Prop := ∃ b, (Lat cs ∧ StrE A a b 0 ∈ G ∧ BytE A b (latB cs) ∈ G) ∨ ((Chrs cs ∧ ¬ Lat cs) ∧ StrE A a b 1 ∈ G ∧ BytE A b (utfB cs) ∈ G)
theorem StrR.sub {A : Ax} {G G' : List Ent} {a : Addr} {cs : List Int32} (h : StrR A G a cs) (s : ∀ q ∈ G, q ∈ G') : StrR A G' a cs := by
  obtain ⟨b, ⟨h1, h2, h3⟩ | ⟨h1, h2, h3⟩⟩ := h
  · exact ⟨b, Or.inl ⟨h1, s _ h2, s _ h3⟩⟩
  · exact ⟨b, Or.inr ⟨h1, s _ h2, s _ h3⟩⟩
theorem StrR.cons {A : Ax} {G : List Ent} {a : Addr} {cs : List Int32} {q : Ent} (h : StrR A G a cs) : StrR A (q :: G) a cs := h.sub fun _ m => List.mem_cons_of_mem _ m
theorem StrR.obj {A : Ax} {G : List Ent} {a : Addr} {cs : List Int32} (h : StrR A G a cs) : ∃ b cd, StrE A a b cd ∈ G := by
  obtain ⟨b, ⟨-, h2, -⟩ | ⟨-, h2, -⟩⟩ := h
  · exact ⟨b, 0, h2⟩
  · exact ⟨b, 1, h2⟩
theorem StrR.chrs {A : Ax} {G : List Ent} {a : Addr} {cs : List Int32} (h : StrR A G a cs) : Chrs cs := by
  obtain ⟨b, ⟨h1, -⟩ | ⟨h1, -⟩⟩ := h
  · exact h1.chrs
  · exact h1.1
theorem MetW.weak {ws : List Cond} {A : Ax} {B : Bx} {as' : Array Value} {F G : List Ent} {Q Q' : Pst} (h : MetW ws A B as' F G Q) (hq : ∀ v F' G', Q v F' G' → Q' v F' G') : MetW ws A B as' F G Q' := fun p e a b c s m args below hf hap hP hK => by
  obtain ⟨n, o, h1, h2, h3, v, L, F', G', r1, r2, r⟩ := h p e a b c s m args below hf hap hP hK
  exact ⟨n, o, h1, h2, h3, v, L, F', G', r1, hq _ _ _ r2, r⟩
--CUT
def Wd (A : Ax) : Prop := (∀ d ∈ tables_1, d.before A.a0 A.Z = true) ∧ (EW A.Z A.a0 A.EL) ∧ (A.EL = consts_1) ∧ (A.wm = true) ∧ (∃ z : Int32, z ≠ 0 ∧ Sta A.Z A.Z.heap "java/lang/String" "COMPACT_STRINGS" "Z" (.int z)) ∧ (∃ v : Value, v.isRef = true ∧ Sta A.Z A.Z.heap "jdk/internal/util/Preconditions" "SIOOBE_FORMATTER" "Ljava/util/function/BiFunction;" v) ∧ (Sta A.Z A.Z.heap "java/lang/StringUTF16" "$assertionsDisabled" "Z" (.int 1)) ∧ (Sta A.Z A.Z.heap "java/lang/StringUTF16" "HI_BYTE_SHIFT" "I" (.int 0)) ∧ (Sta A.Z A.Z.heap "java/lang/StringUTF16" "LO_BYTE_SHIFT" "I" (.int 8))
theorem Wd.tab {A : Ax} (K : Wd A) : ∀ d ∈ tables_1, d.before A.a0 A.Z = true := K.1
theorem Wd.ew {A : Ax} (K : Wd A) : EW A.Z A.a0 A.EL := K.2.1
theorem Wd.el {A : Ax} (K : Wd A) : A.EL = consts_1 := K.2.2.1
theorem Wd.wm {A : Ax} (K : Wd A) : A.wm = true := K.2.2.2.1
theorem Wd.cmpt {A : Ax} (K : Wd A) : ∃ z : Int32, z ≠ 0 ∧ Sta A.Z A.Z.heap "java/lang/String" "COMPACT_STRINGS" "Z" (.int z) := K.2.2.2.2.1
theorem Wd.sio {A : Ax} (K : Wd A) : ∃ v : Value, v.isRef = true ∧ Sta A.Z A.Z.heap "jdk/internal/util/Preconditions" "SIOOBE_FORMATTER" "Ljava/util/function/BiFunction;" v := K.2.2.2.2.2.1
theorem Wd.s_assertionsDisabled {A : Ax} (K : Wd A) : Sta A.Z A.Z.heap "java/lang/StringUTF16" "$assertionsDisabled" "Z" (.int 1) := K.2.2.2.2.2.2.1
theorem Wd.s_HI_BYTE_SHIFT {A : Ax} (K : Wd A) : Sta A.Z A.Z.heap "java/lang/StringUTF16" "HI_BYTE_SHIFT" "I" (.int 0) := K.2.2.2.2.2.2.2.1
theorem Wd.s_LO_BYTE_SHIFT {A : Ax} (K : Wd A) : Sta A.Z A.Z.heap "java/lang/StringUTF16" "LO_BYTE_SHIFT" "I" (.int 8) := K.2.2.2.2.2.2.2.2
theorem w_0 {A : Ax} (K : Wd A) : (Jvm.Cond.constantLong "com/example/attentive_search/attentivesearch/HighlightHtmlPinLaw" (7 : Nat) (524287 : Int64)).before A.a0 A.Z = true   := K.tab _ (mi 0 rfl)
theorem w_1 {A : Ax} (K : Wd A) : (Jvm.Cond.methodLink "com/example/attentive_search/attentivesearch/HighlightHtmlPinLaw" (9 : Nat) ({ cls := "com/example/attentive_search/attentivesearch/HighlightHtmlPinLaw", name := "ch", desc := "(I)C" } : Jvm.MethodName)).before A.a0 A.Z = true   := K.tab _ (mi 1 rfl)
theorem w_2 {A : Ax} (K : Wd A) : (Jvm.Cond.static ({ cls := "com/example/attentive_search/attentivesearch/HighlightHtmlPinLaw", name := "ch", desc := "(I)C" } : Jvm.MethodName)).before A.a0 A.Z = true   := K.tab _ (mi 2 rfl)
theorem w_3 {A : Ax} (K : Wd A) : (Jvm.Cond.initialized "com/example/attentive_search/attentivesearch/HighlightHtmlPinLaw").before A.a0 A.Z = true   := K.tab _ (mi 3 rfl)
theorem w_4 {A : Ax} (K : Wd A) : (Jvm.Cond.code ({ cls := "com/example/attentive_search/attentivesearch/HighlightHtmlPinLaw", name := "ch", desc := "(I)C" } : Jvm.MethodName) method_3_code (2 : Nat) (Option.some Jvm.ClassFile.FieldType.char)).before A.a0 A.Z = true   := K.tab _ (mi 4 rfl)
theorem w_5 {A : Ax} (K : Wd A) : (Jvm.Cond.arrayClass Jvm.ClassFile.FieldType.char).before A.a0 A.Z = true   := K.tab _ (mi 5 rfl)
theorem w_6 {A : Ax} (K : Wd A) : (Jvm.Cond.classLink "com/example/attentive_search/attentivesearch/HighlightHtmlPinLaw" (15 : Nat) "java/lang/String").before A.a0 A.Z = true   := K.tab _ (mi 6 rfl)
theorem w_7 {A : Ax} (K : Wd A) : (Jvm.Cond.instantiable "java/lang/String" (4 : Nat)).before A.a0 A.Z = true   := K.tab _ (mi 7 rfl)
theorem w_8 {A : Ax} (K : Wd A) : (Jvm.Cond.initialized "java/lang/String").before A.a0 A.Z = true   := K.tab _ (mi 8 rfl)
theorem w_9 {A : Ax} (K : Wd A) : (Jvm.Cond.methodLink "com/example/attentive_search/attentivesearch/HighlightHtmlPinLaw" (17 : Nat) ({ cls := "java/lang/String", name := "<init>", desc := "([C)V" } : Jvm.MethodName)).before A.a0 A.Z = true   := K.tab _ (mi 9 rfl)
theorem w_10 {A : Ax} (K : Wd A) : (Jvm.Cond.instanceMethod ({ cls := "java/lang/String", name := "<init>", desc := "([C)V" } : Jvm.MethodName)).before A.a0 A.Z = true   := K.tab _ (mi 10 rfl)
theorem w_11 {A : Ax} (K : Wd A) : (Jvm.Cond.code ({ cls := "java/lang/String", name := "<init>", desc := "([C)V" } : Jvm.MethodName) jdk_42_method_3_code (2 : Nat) (Option.none : Option Jvm.ClassFile.FieldType)).before A.a0 A.Z = true   := K.tab _ (mi 11 rfl)
theorem w_12 {A : Ax} (K : Wd A) : (Jvm.Cond.methodLink "java/lang/String" (27 : Nat) ({ cls := "java/lang/String", name := "<init>", desc := "([CIILjava/lang/Void;)V" } : Jvm.MethodName)).before A.a0 A.Z = true   := K.tab _ (mi 12 rfl)
theorem w_13 {A : Ax} (K : Wd A) : (Jvm.Cond.instanceMethod ({ cls := "java/lang/String", name := "<init>", desc := "([CIILjava/lang/Void;)V" } : Jvm.MethodName)).before A.a0 A.Z = true   := K.tab _ (mi 13 rfl)
theorem w_15 {A : Ax} (K : Wd A) : (Jvm.Cond.code ({ cls := "java/lang/String", name := "<init>", desc := "([CIILjava/lang/Void;)V" } : Jvm.MethodName) jdk_42_method_149_code (6 : Nat) (Option.none : Option Jvm.ClassFile.FieldType)).before A.a0 A.Z = true   := K.tab _ (mi 15 rfl)
theorem w_16 {A : Ax} (K : Wd A) : (Jvm.Cond.methodLink "java/lang/String" (1 : Nat) ({ cls := "java/lang/Object", name := "<init>", desc := "()V" } : Jvm.MethodName)).before A.a0 A.Z = true   := K.tab _ (mi 16 rfl)
theorem w_17 {A : Ax} (K : Wd A) : (Jvm.Cond.instanceMethod ({ cls := "java/lang/Object", name := "<init>", desc := "()V" } : Jvm.MethodName)).before A.a0 A.Z = true   := K.tab _ (mi 17 rfl)
theorem w_18 {A : Ax} (K : Wd A) : (Jvm.Cond.code ({ cls := "java/lang/Object", name := "<init>", desc := "()V" } : Jvm.MethodName) object_method_1_code (1 : Nat) (Option.none : Option Jvm.ClassFile.FieldType)).before A.a0 A.Z = true   := K.tab _ (mi 18 rfl)
theorem w_19 {A : Ax} (K : Wd A) : (Jvm.Cond.fieldLink "java/lang/String" (38 : Nat) "java/lang/String" "COMPACT_STRINGS" "Z").before A.a0 A.Z = true   := K.tab _ (mi 19 rfl)
theorem w_20 {A : Ax} (K : Wd A) : (Jvm.Cond.methodLink "java/lang/String" (177 : Nat) ({ cls := "java/lang/StringUTF16", name := "compress", desc := "([CII)[B" } : Jvm.MethodName)).before A.a0 A.Z = true   := K.tab _ (mi 20 rfl)
theorem w_21 {A : Ax} (K : Wd A) : (Jvm.Cond.static ({ cls := "java/lang/StringUTF16", name := "compress", desc := "([CII)[B" } : Jvm.MethodName)).before A.a0 A.Z = true   := K.tab _ (mi 21 rfl)
theorem w_22 {A : Ax} (K : Wd A) : (Jvm.Cond.initialized "java/lang/StringUTF16").before A.a0 A.Z = true   := K.tab _ (mi 22 rfl)
theorem w_23 {A : Ax} (K : Wd A) : (Jvm.Cond.code ({ cls := "java/lang/StringUTF16", name := "compress", desc := "([CII)[B" } : Jvm.MethodName) jdk_52_method_16_code (6 : Nat) (Option.some (Jvm.ClassFile.FieldType.array Jvm.ClassFile.FieldType.byte))).before A.a0 A.Z = true   := K.tab _ (mi 23 rfl)
theorem w_24 {A : Ax} (K : Wd A) : (Jvm.Cond.arrayClass Jvm.ClassFile.FieldType.byte).before A.a0 A.Z = true   := K.tab _ (mi 24 rfl)
theorem w_25 {A : Ax} (K : Wd A) : (Jvm.Cond.methodLink "java/lang/StringUTF16" (115 : Nat) ({ cls := "java/lang/StringUTF16", name := "compress", desc := "([CI[BII)I" } : Jvm.MethodName)).before A.a0 A.Z = true   := K.tab _ (mi 25 rfl)
theorem w_26 {A : Ax} (K : Wd A) : (Jvm.Cond.static ({ cls := "java/lang/StringUTF16", name := "compress", desc := "([CI[BII)I" } : Jvm.MethodName)).before A.a0 A.Z = true   := K.tab _ (mi 26 rfl)
theorem w_27 {A : Ax} (K : Wd A) : (Jvm.Cond.code ({ cls := "java/lang/StringUTF16", name := "compress", desc := "([CI[BII)I" } : Jvm.MethodName) jdk_52_method_21_code (7 : Nat) (Option.some Jvm.ClassFile.FieldType.int)).before A.a0 A.Z = true   := K.tab _ (mi 27 rfl)
theorem w_28 {A : Ax} (K : Wd A) : (Jvm.Cond.methodLink "java/lang/String" (47 : Nat) ({ cls := "java/lang/StringUTF16", name := "coderFromArrayLen", desc := "([BI)B" } : Jvm.MethodName)).before A.a0 A.Z = true   := K.tab _ (mi 28 rfl)
theorem w_29 {A : Ax} (K : Wd A) : (Jvm.Cond.static ({ cls := "java/lang/StringUTF16", name := "coderFromArrayLen", desc := "([BI)B" } : Jvm.MethodName)).before A.a0 A.Z = true   := K.tab _ (mi 29 rfl)
theorem w_30 {A : Ax} (K : Wd A) : (Jvm.Cond.code ({ cls := "java/lang/StringUTF16", name := "coderFromArrayLen", desc := "([BI)B" } : Jvm.MethodName) jdk_52_method_15_code (2 : Nat) (Option.some Jvm.ClassFile.FieldType.byte)).before A.a0 A.Z = true   := K.tab _ (mi 30 rfl)
theorem w_31 {A : Ax} (K : Wd A) : (Jvm.Cond.fieldLink "java/lang/String" (15 : Nat) "java/lang/String" "coder" "B").before A.a0 A.Z = true   := K.tab _ (mi 31 rfl)
theorem w_32 {A : Ax} (K : Wd A) : (Jvm.Cond.laysFinal "java/lang/String" "java/lang/String" "coder" "B").before A.a0 A.Z = true   := K.tab _ (mi 32 rfl)
theorem w_33 {A : Ax} (K : Wd A) : (Jvm.Cond.fieldLink "java/lang/String" (9 : Nat) "java/lang/String" "value" "[B").before A.a0 A.Z = true   := K.tab _ (mi 33 rfl)
theorem w_34 {A : Ax} (K : Wd A) : (Jvm.Cond.laysFinal "java/lang/String" "java/lang/String" "value" "[B").before A.a0 A.Z = true   := K.tab _ (mi 34 rfl)
theorem w_35 {A : Ax} (K : Wd A) : (Jvm.Cond.arrayClass Jvm.ClassFile.FieldType.boolean).before A.a0 A.Z = true   := K.tab _ (mi 35 rfl)
theorem w_36 {A : Ax} (K : Wd A) : (Jvm.Cond.classLink "com/example/attentive_search/attentivesearch/HighlightHtmlPinLaw" (20 : Nat) "java/util/ArrayList").before A.a0 A.Z = true   := K.tab _ (mi 36 rfl)
theorem w_37 {A : Ax} (K : Wd A) : (Jvm.Cond.instantiable "java/util/ArrayList" (3 : Nat)).before A.a0 A.Z = true   := K.tab _ (mi 37 rfl)
theorem w_38 {A : Ax} (K : Wd A) : (Jvm.Cond.initialized "java/util/ArrayList").before A.a0 A.Z = true   := K.tab _ (mi 38 rfl)
theorem w_39 {A : Ax} (K : Wd A) : (Jvm.Cond.methodLink "com/example/attentive_search/attentivesearch/HighlightHtmlPinLaw" (22 : Nat) ({ cls := "java/util/ArrayList", name := "<init>", desc := "()V" } : Jvm.MethodName)).before A.a0 A.Z = true   := K.tab _ (mi 39 rfl)
theorem w_40 {A : Ax} (K : Wd A) : (Jvm.Cond.instanceMethod ({ cls := "java/util/ArrayList", name := "<init>", desc := "()V" } : Jvm.MethodName)).before A.a0 A.Z = true   := K.tab _ (mi 40 rfl)
theorem w_41 {A : Ax} (K : Wd A) : (Jvm.Cond.code ({ cls := "java/util/ArrayList", name := "<init>", desc := "()V" } : Jvm.MethodName) jdk_38_method_2_code (1 : Nat) (Option.none : Option Jvm.ClassFile.FieldType)).before A.a0 A.Z = true   := K.tab _ (mi 41 rfl)
theorem w_42 {A : Ax} (K : Wd A) : (Jvm.Cond.methodLink "java/util/ArrayList" (1 : Nat) ({ cls := "java/util/AbstractList", name := "<init>", desc := "()V" } : Jvm.MethodName)).before A.a0 A.Z = true   := K.tab _ (mi 42 rfl)
theorem w_43 {A : Ax} (K : Wd A) : (Jvm.Cond.instanceMethod ({ cls := "java/util/AbstractList", name := "<init>", desc := "()V" } : Jvm.MethodName)).before A.a0 A.Z = true   := K.tab _ (mi 43 rfl)
theorem w_46 {A : Ax} (K : Wd A) : (Jvm.Cond.initialized "java/util/AbstractList").before A.a0 A.Z = true   := K.tab _ (mi 46 rfl)
theorem w_47 {A : Ax} (K : Wd A) : (Jvm.Cond.code ({ cls := "java/util/AbstractList", name := "<init>", desc := "()V" } : Jvm.MethodName) jdk_39_method_1_code (1 : Nat) (Option.none : Option Jvm.ClassFile.FieldType)).before A.a0 A.Z = true   := K.tab _ (mi 47 rfl)
theorem w_48 {A : Ax} (K : Wd A) : (Jvm.Cond.methodLink "java/util/AbstractList" (1 : Nat) ({ cls := "java/util/AbstractCollection", name := "<init>", desc := "()V" } : Jvm.MethodName)).before A.a0 A.Z = true   := K.tab _ (mi 48 rfl)
theorem w_49 {A : Ax} (K : Wd A) : (Jvm.Cond.instanceMethod ({ cls := "java/util/AbstractCollection", name := "<init>", desc := "()V" } : Jvm.MethodName)).before A.a0 A.Z = true   := K.tab _ (mi 49 rfl)
theorem w_52 {A : Ax} (K : Wd A) : (Jvm.Cond.initialized "java/util/AbstractCollection").before A.a0 A.Z = true   := K.tab _ (mi 52 rfl)
theorem w_53 {A : Ax} (K : Wd A) : (Jvm.Cond.code ({ cls := "java/util/AbstractCollection", name := "<init>", desc := "()V" } : Jvm.MethodName) jdk_22_method_1_code (1 : Nat) (Option.none : Option Jvm.ClassFile.FieldType)).before A.a0 A.Z = true   := K.tab _ (mi 53 rfl)
theorem w_54 {A : Ax} (K : Wd A) : (Jvm.Cond.methodLink "java/util/AbstractCollection" (1 : Nat) ({ cls := "java/lang/Object", name := "<init>", desc := "()V" } : Jvm.MethodName)).before A.a0 A.Z = true   := K.tab _ (mi 54 rfl)
theorem w_55 {A : Ax} (K : Wd A) : (Jvm.Cond.fieldLink "java/util/AbstractList" (7 : Nat) "java/util/AbstractList" "modCount" "I").before A.a0 A.Z = true   := K.tab _ (mi 55 rfl)
theorem w_56 {A : Ax} (K : Wd A) : (Jvm.Cond.lays "java/util/ArrayList" "java/util/AbstractList" "modCount" "I").before A.a0 A.Z = true   := K.tab _ (mi 56 rfl)
theorem w_57 {A : Ax} (K : Wd A) : (Jvm.Cond.fieldLink "java/util/ArrayList" (39 : Nat) "java/util/ArrayList" "DEFAULTCAPACITY_EMPTY_ELEMENTDATA" "[Ljava/lang/Object;").before A.a0 A.Z = true   := K.tab _ (mi 57 rfl)
theorem w_58 {A : Ax} (K : Wd A) : (Jvm.Cond.fieldLink "java/util/ArrayList" (9 : Nat) "java/util/ArrayList" "elementData" "[Ljava/lang/Object;").before A.a0 A.Z = true   := K.tab _ (mi 58 rfl)
theorem w_59 {A : Ax} (K : Wd A) : (Jvm.Cond.lays "java/util/ArrayList" "java/util/ArrayList" "elementData" "[Ljava/lang/Object;").before A.a0 A.Z = true   := K.tab _ (mi 59 rfl)
theorem w_60 {A : Ax} (K : Wd A) : (Jvm.Cond.methodLink "com/example/attentive_search/attentivesearch/HighlightHtmlPinLaw" (33 : Nat) ({ cls := "com/example/attentive_search/attentivesearch/Highlight", name := "html", desc := "(Ljava/lang/String;Ljava/util/List;)Ljava/lang/String;" } : Jvm.MethodName)).before A.a0 A.Z = true   := K.tab _ (mi 60 rfl)
theorem w_61 {A : Ax} (K : Wd A) : (Jvm.Cond.static ({ cls := "com/example/attentive_search/attentivesearch/Highlight", name := "html", desc := "(Ljava/lang/String;Ljava/util/List;)Ljava/lang/String;" } : Jvm.MethodName)).before A.a0 A.Z = true   := K.tab _ (mi 61 rfl)
theorem w_62 {A : Ax} (K : Wd A) : (Jvm.Cond.initialized "com/example/attentive_search/attentivesearch/Highlight").before A.a0 A.Z = true   := K.tab _ (mi 62 rfl)
theorem w_63 {A : Ax} (K : Wd A) : (Jvm.Cond.code ({ cls := "com/example/attentive_search/attentivesearch/Highlight", name := "html", desc := "(Ljava/lang/String;Ljava/util/List;)Ljava/lang/String;" } : Jvm.MethodName) prog_6_method_4_code (6 : Nat) (Option.some (Jvm.ClassFile.FieldType.object "java/lang/String"))).before A.a0 A.Z = true   := K.tab _ (mi 63 rfl)
theorem w_64 {A : Ax} (K : Wd A) : (Jvm.Cond.classLink "com/example/attentive_search/attentivesearch/Highlight" (79 : Nat) "java/lang/StringBuilder").before A.a0 A.Z = true   := K.tab _ (mi 64 rfl)
theorem w_65 {A : Ax} (K : Wd A) : (Jvm.Cond.instantiable "java/lang/StringBuilder" (4 : Nat)).before A.a0 A.Z = true   := K.tab _ (mi 65 rfl)
theorem w_66 {A : Ax} (K : Wd A) : (Jvm.Cond.initialized "java/lang/StringBuilder").before A.a0 A.Z = true   := K.tab _ (mi 66 rfl)
theorem w_67 {A : Ax} (K : Wd A) : (Jvm.Cond.methodLink "com/example/attentive_search/attentivesearch/Highlight" (65 : Nat) ({ cls := "java/lang/String", name := "length", desc := "()I" } : Jvm.MethodName)).before A.a0 A.Z = true   := K.tab _ (mi 67 rfl)
theorem w_68 {A : Ax} (K : Wd A) : (Jvm.Cond.declares ({ cls := "java/lang/String", name := "length", desc := "()I" } : Jvm.MethodName)).before A.a0 A.Z = true   := K.tab _ (mi 68 rfl)
theorem w_69 {A : Ax} (K : Wd A) : (Jvm.Cond.instanceMethod ({ cls := "java/lang/String", name := "length", desc := "()I" } : Jvm.MethodName)).before A.a0 A.Z = true   := K.tab _ (mi 69 rfl)
theorem w_70 {A : Ax} (K : Wd A) : (Jvm.Cond.selects "java/lang/String" ({ cls := "java/lang/String", name := "length", desc := "()I" } : Jvm.MethodName) ({ cls := "java/lang/String", name := "length", desc := "()I" } : Jvm.MethodName)).before A.a0 A.Z = true   := K.tab _ (mi 70 rfl)
theorem w_71 {A : Ax} (K : Wd A) : (Jvm.Cond.code ({ cls := "java/lang/String", name := "length", desc := "()I" } : Jvm.MethodName) jdk_42_method_54_code (1 : Nat) (Option.some Jvm.ClassFile.FieldType.int)).before A.a0 A.Z = true   := K.tab _ (mi 71 rfl)
theorem w_72 {A : Ax} (K : Wd A) : (Jvm.Cond.methodLink "java/lang/String" (335 : Nat) ({ cls := "java/lang/String", name := "coder", desc := "()B" } : Jvm.MethodName)).before A.a0 A.Z = true   := K.tab _ (mi 72 rfl)
theorem w_73 {A : Ax} (K : Wd A) : (Jvm.Cond.declares ({ cls := "java/lang/String", name := "coder", desc := "()B" } : Jvm.MethodName)).before A.a0 A.Z = true   := K.tab _ (mi 73 rfl)
theorem w_74 {A : Ax} (K : Wd A) : (Jvm.Cond.instanceMethod ({ cls := "java/lang/String", name := "coder", desc := "()B" } : Jvm.MethodName)).before A.a0 A.Z = true   := K.tab _ (mi 74 rfl)
theorem w_75 {A : Ax} (K : Wd A) : (Jvm.Cond.selects "java/lang/String" ({ cls := "java/lang/String", name := "coder", desc := "()B" } : Jvm.MethodName) ({ cls := "java/lang/String", name := "coder", desc := "()B" } : Jvm.MethodName)).before A.a0 A.Z = true   := K.tab _ (mi 75 rfl)
theorem w_76 {A : Ax} (K : Wd A) : (Jvm.Cond.code ({ cls := "java/lang/String", name := "coder", desc := "()B" } : Jvm.MethodName) jdk_42_method_152_code (1 : Nat) (Option.some Jvm.ClassFile.FieldType.byte)).before A.a0 A.Z = true   := K.tab _ (mi 76 rfl)
theorem w_77 {A : Ax} (K : Wd A) : (Jvm.Cond.methodLink "com/example/attentive_search/attentivesearch/Highlight" (81 : Nat) ({ cls := "java/util/List", name := "size", desc := "()I" } : Jvm.MethodName)).before A.a0 A.Z = true   := K.tab _ (mi 77 rfl)
theorem w_78 {A : Ax} (K : Wd A) : (Jvm.Cond.declares ({ cls := "java/util/List", name := "size", desc := "()I" } : Jvm.MethodName)).before A.a0 A.Z = true   := K.tab _ (mi 78 rfl)
theorem w_79 {A : Ax} (K : Wd A) : (Jvm.Cond.interfaceMethod "java/util/List" "java/util/List" "size" "()I").before A.a0 A.Z = true   := K.tab _ (mi 79 rfl)
theorem w_80 {A : Ax} (K : Wd A) : (Jvm.Cond.selects "java/util/ArrayList" ({ cls := "java/util/List", name := "size", desc := "()I" } : Jvm.MethodName) ({ cls := "java/util/ArrayList", name := "size", desc := "()I" } : Jvm.MethodName)).before A.a0 A.Z = true   := K.tab _ (mi 80 rfl)
theorem w_81 {A : Ax} (K : Wd A) : (Jvm.Cond.instanceMethod ({ cls := "java/util/ArrayList", name := "size", desc := "()I" } : Jvm.MethodName)).before A.a0 A.Z = true   := K.tab _ (mi 81 rfl)
theorem w_82 {A : Ax} (K : Wd A) : (Jvm.Cond.publicMethod ({ cls := "java/util/ArrayList", name := "size", desc := "()I" } : Jvm.MethodName)).before A.a0 A.Z = true   := K.tab _ (mi 82 rfl)
theorem w_83 {A : Ax} (K : Wd A) : (Jvm.Cond.unhidden "java/util/ArrayList" "size" "()I").before A.a0 A.Z = true   := K.tab _ (mi 83 rfl)
theorem w_84 {A : Ax} (K : Wd A) : (Jvm.Cond.castable "java/util/ArrayList" "java/util/List").before A.a0 A.Z = true   := K.tab _ (mi 84 rfl)
theorem w_85 {A : Ax} (K : Wd A) : (Jvm.Cond.code ({ cls := "java/util/ArrayList", name := "size", desc := "()I" } : Jvm.MethodName) jdk_38_method_8_code (1 : Nat) (Option.some Jvm.ClassFile.FieldType.int)).before A.a0 A.Z = true   := K.tab _ (mi 85 rfl)
theorem w_86 {A : Ax} (K : Wd A) : (Jvm.Cond.fieldLink "java/util/ArrayList" (48 : Nat) "java/util/ArrayList" "size" "I").before A.a0 A.Z = true   := K.tab _ (mi 86 rfl)
theorem w_87 {A : Ax} (K : Wd A) : (Jvm.Cond.lays "java/util/ArrayList" "java/util/ArrayList" "size" "I").before A.a0 A.Z = true   := K.tab _ (mi 87 rfl)
theorem w_88 {A : Ax} (K : Wd A) : (Jvm.Cond.stringLink "com/example/attentive_search/attentivesearch/Highlight" (84 : Nat) "<b></b>").before A.a0 A.Z = true   := K.tab _ (mi 88 rfl)
theorem w_89 {A : Ax} (K : Wd A) : (Jvm.Cond.soleField "java/lang/String" "value").before A.a0 A.Z = true   := K.tab _ (mi 89 rfl)
theorem w_90 {A : Ax} (K : Wd A) : (Jvm.Cond.soleField "java/lang/String" "coder").before A.a0 A.Z = true   := K.tab _ (mi 90 rfl)
theorem w_91 {A : Ax} (K : Wd A) : (Jvm.Cond.methodLink "com/example/attentive_search/attentivesearch/Highlight" (86 : Nat) ({ cls := "java/lang/StringBuilder", name := "<init>", desc := "(I)V" } : Jvm.MethodName)).before A.a0 A.Z = true   := K.tab _ (mi 91 rfl)
theorem w_92 {A : Ax} (K : Wd A) : (Jvm.Cond.instanceMethod ({ cls := "java/lang/StringBuilder", name := "<init>", desc := "(I)V" } : Jvm.MethodName)).before A.a0 A.Z = true   := K.tab _ (mi 92 rfl)
theorem w_93 {A : Ax} (K : Wd A) : (Jvm.Cond.code ({ cls := "java/lang/StringBuilder", name := "<init>", desc := "(I)V" } : Jvm.MethodName) jdk_67_method_2_code (2 : Nat) (Option.none : Option Jvm.ClassFile.FieldType)).before A.a0 A.Z = true   := K.tab _ (mi 93 rfl)
theorem w_94 {A : Ax} (K : Wd A) : (Jvm.Cond.methodLink "java/lang/StringBuilder" (1 : Nat) ({ cls := "java/lang/AbstractStringBuilder", name := "<init>", desc := "(I)V" } : Jvm.MethodName)).before A.a0 A.Z = true   := K.tab _ (mi 94 rfl)
theorem w_95 {A : Ax} (K : Wd A) : (Jvm.Cond.instanceMethod ({ cls := "java/lang/AbstractStringBuilder", name := "<init>", desc := "(I)V" } : Jvm.MethodName)).before A.a0 A.Z = true   := K.tab _ (mi 95 rfl)
theorem w_98 {A : Ax} (K : Wd A) : (Jvm.Cond.initialized "java/lang/AbstractStringBuilder").before A.a0 A.Z = true   := K.tab _ (mi 98 rfl)
theorem w_99 {A : Ax} (K : Wd A) : (Jvm.Cond.code ({ cls := "java/lang/AbstractStringBuilder", name := "<init>", desc := "(I)V" } : Jvm.MethodName) jdk_68_method_2_code (2 : Nat) (Option.none : Option Jvm.ClassFile.FieldType)).before A.a0 A.Z = true   := K.tab _ (mi 99 rfl)
theorem w_100 {A : Ax} (K : Wd A) : (Jvm.Cond.methodLink "java/lang/AbstractStringBuilder" (3 : Nat) ({ cls := "java/lang/Object", name := "<init>", desc := "()V" } : Jvm.MethodName)).before A.a0 A.Z = true   := K.tab _ (mi 100 rfl)
theorem w_101 {A : Ax} (K : Wd A) : (Jvm.Cond.fieldLink "java/lang/AbstractStringBuilder" (18 : Nat) "java/lang/String" "COMPACT_STRINGS" "Z").before A.a0 A.Z = true   := K.tab _ (mi 101 rfl)
theorem w_102 {A : Ax} (K : Wd A) : (Jvm.Cond.fieldLink "java/lang/AbstractStringBuilder" (15 : Nat) "java/lang/AbstractStringBuilder" "value" "[B").before A.a0 A.Z = true   := K.tab _ (mi 102 rfl)
theorem w_103 {A : Ax} (K : Wd A) : (Jvm.Cond.lays "java/lang/StringBuilder" "java/lang/AbstractStringBuilder" "value" "[B").before A.a0 A.Z = true   := K.tab _ (mi 103 rfl)
theorem w_104 {A : Ax} (K : Wd A) : (Jvm.Cond.fieldLink "java/lang/AbstractStringBuilder" (22 : Nat) "java/lang/AbstractStringBuilder" "coder" "B").before A.a0 A.Z = true   := K.tab _ (mi 104 rfl)
theorem w_105 {A : Ax} (K : Wd A) : (Jvm.Cond.lays "java/lang/StringBuilder" "java/lang/AbstractStringBuilder" "coder" "B").before A.a0 A.Z = true   := K.tab _ (mi 105 rfl)
theorem w_106 {A : Ax} (K : Wd A) : (Jvm.Cond.methodLink "com/example/attentive_search/attentivesearch/Highlight" (42 : Nat) ({ cls := "java/util/List", name := "iterator", desc := "()Ljava/util/Iterator;" } : Jvm.MethodName)).before A.a0 A.Z = true   := K.tab _ (mi 106 rfl)
theorem w_107 {A : Ax} (K : Wd A) : (Jvm.Cond.declares ({ cls := "java/util/List", name := "iterator", desc := "()Ljava/util/Iterator;" } : Jvm.MethodName)).before A.a0 A.Z = true   := K.tab _ (mi 107 rfl)
theorem w_108 {A : Ax} (K : Wd A) : (Jvm.Cond.interfaceMethod "java/util/List" "java/util/List" "iterator" "()Ljava/util/Iterator;").before A.a0 A.Z = true   := K.tab _ (mi 108 rfl)
theorem w_109 {A : Ax} (K : Wd A) : (Jvm.Cond.selects "java/util/ArrayList" ({ cls := "java/util/List", name := "iterator", desc := "()Ljava/util/Iterator;" } : Jvm.MethodName) ({ cls := "java/util/ArrayList", name := "iterator", desc := "()Ljava/util/Iterator;" } : Jvm.MethodName)).before A.a0 A.Z = true   := K.tab _ (mi 109 rfl)
theorem w_110 {A : Ax} (K : Wd A) : (Jvm.Cond.instanceMethod ({ cls := "java/util/ArrayList", name := "iterator", desc := "()Ljava/util/Iterator;" } : Jvm.MethodName)).before A.a0 A.Z = true   := K.tab _ (mi 110 rfl)
theorem w_111 {A : Ax} (K : Wd A) : (Jvm.Cond.publicMethod ({ cls := "java/util/ArrayList", name := "iterator", desc := "()Ljava/util/Iterator;" } : Jvm.MethodName)).before A.a0 A.Z = true   := K.tab _ (mi 111 rfl)
theorem w_112 {A : Ax} (K : Wd A) : (Jvm.Cond.unhidden "java/util/ArrayList" "iterator" "()Ljava/util/Iterator;").before A.a0 A.Z = true   := K.tab _ (mi 112 rfl)
theorem w_113 {A : Ax} (K : Wd A) : (Jvm.Cond.code ({ cls := "java/util/ArrayList", name := "iterator", desc := "()Ljava/util/Iterator;" } : Jvm.MethodName) jdk_38_method_55_code (1 : Nat) (Option.some (Jvm.ClassFile.FieldType.object "java/util/Iterator"))).before A.a0 A.Z = true   := K.tab _ (mi 113 rfl)
theorem w_114 {A : Ax} (K : Wd A) : (Jvm.Cond.classLink "java/util/ArrayList" (267 : Nat) "java/util/ArrayList$Itr").before A.a0 A.Z = true   := K.tab _ (mi 114 rfl)
theorem w_115 {A : Ax} (K : Wd A) : (Jvm.Cond.instantiable "java/util/ArrayList$Itr" (4 : Nat)).before A.a0 A.Z = true   := K.tab _ (mi 115 rfl)
theorem w_116 {A : Ax} (K : Wd A) : (Jvm.Cond.initialized "java/util/ArrayList$Itr").before A.a0 A.Z = true   := K.tab _ (mi 116 rfl)
theorem w_117 {A : Ax} (K : Wd A) : (Jvm.Cond.methodLink "java/util/ArrayList" (269 : Nat) ({ cls := "java/util/ArrayList$Itr", name := "<init>", desc := "(Ljava/util/ArrayList;)V" } : Jvm.MethodName)).before A.a0 A.Z = true   := K.tab _ (mi 117 rfl)
theorem w_118 {A : Ax} (K : Wd A) : (Jvm.Cond.instanceMethod ({ cls := "java/util/ArrayList$Itr", name := "<init>", desc := "(Ljava/util/ArrayList;)V" } : Jvm.MethodName)).before A.a0 A.Z = true   := K.tab _ (mi 118 rfl)
theorem w_120 {A : Ax} (K : Wd A) : (Jvm.Cond.code ({ cls := "java/util/ArrayList$Itr", name := "<init>", desc := "(Ljava/util/ArrayList;)V" } : Jvm.MethodName) jdk_49_method_1_code (2 : Nat) (Option.none : Option Jvm.ClassFile.FieldType)).before A.a0 A.Z = true   := K.tab _ (mi 120 rfl)
theorem w_121 {A : Ax} (K : Wd A) : (Jvm.Cond.fieldLink "java/util/ArrayList$Itr" (1 : Nat) "java/util/ArrayList$Itr" "this$0" "Ljava/util/ArrayList;").before A.a0 A.Z = true   := K.tab _ (mi 121 rfl)
theorem w_122 {A : Ax} (K : Wd A) : (Jvm.Cond.laysFinal "java/util/ArrayList$Itr" "java/util/ArrayList$Itr" "this$0" "Ljava/util/ArrayList;").before A.a0 A.Z = true   := K.tab _ (mi 122 rfl)
theorem w_123 {A : Ax} (K : Wd A) : (Jvm.Cond.methodLink "java/util/ArrayList$Itr" (7 : Nat) ({ cls := "java/lang/Object", name := "<init>", desc := "()V" } : Jvm.MethodName)).before A.a0 A.Z = true   := K.tab _ (mi 123 rfl)
theorem w_124 {A : Ax} (K : Wd A) : (Jvm.Cond.fieldLink "java/util/ArrayList$Itr" (13 : Nat) "java/util/ArrayList$Itr" "lastRet" "I").before A.a0 A.Z = true   := K.tab _ (mi 124 rfl)
theorem w_125 {A : Ax} (K : Wd A) : (Jvm.Cond.lays "java/util/ArrayList$Itr" "java/util/ArrayList$Itr" "lastRet" "I").before A.a0 A.Z = true   := K.tab _ (mi 125 rfl)
theorem w_126 {A : Ax} (K : Wd A) : (Jvm.Cond.fieldLink "java/util/ArrayList$Itr" (17 : Nat) "java/util/ArrayList" "modCount" "I").before A.a0 A.Z = true   := K.tab _ (mi 126 rfl)
theorem w_127 {A : Ax} (K : Wd A) : (Jvm.Cond.sameField "java/util/ArrayList" "java/util/AbstractList" "modCount" "I").before A.a0 A.Z = true   := K.tab _ (mi 127 rfl)
theorem w_128 {A : Ax} (K : Wd A) : (Jvm.Cond.fieldLink "java/util/ArrayList$Itr" (22 : Nat) "java/util/ArrayList$Itr" "expectedModCount" "I").before A.a0 A.Z = true   := K.tab _ (mi 128 rfl)
theorem w_129 {A : Ax} (K : Wd A) : (Jvm.Cond.lays "java/util/ArrayList$Itr" "java/util/ArrayList$Itr" "expectedModCount" "I").before A.a0 A.Z = true   := K.tab _ (mi 129 rfl)
theorem w_130 {A : Ax} (K : Wd A) : (Jvm.Cond.methodLink "com/example/attentive_search/attentivesearch/Highlight" (46 : Nat) ({ cls := "java/util/Iterator", name := "hasNext", desc := "()Z" } : Jvm.MethodName)).before A.a0 A.Z = true   := K.tab _ (mi 130 rfl)
theorem w_131 {A : Ax} (K : Wd A) : (Jvm.Cond.declares ({ cls := "java/util/Iterator", name := "hasNext", desc := "()Z" } : Jvm.MethodName)).before A.a0 A.Z = true   := K.tab _ (mi 131 rfl)
theorem w_132 {A : Ax} (K : Wd A) : (Jvm.Cond.interfaceMethod "java/util/Iterator" "java/util/Iterator" "hasNext" "()Z").before A.a0 A.Z = true   := K.tab _ (mi 132 rfl)
theorem w_133 {A : Ax} (K : Wd A) : (Jvm.Cond.selects "java/util/ArrayList$Itr" ({ cls := "java/util/Iterator", name := "hasNext", desc := "()Z" } : Jvm.MethodName) ({ cls := "java/util/ArrayList$Itr", name := "hasNext", desc := "()Z" } : Jvm.MethodName)).before A.a0 A.Z = true   := K.tab _ (mi 133 rfl)
theorem w_134 {A : Ax} (K : Wd A) : (Jvm.Cond.instanceMethod ({ cls := "java/util/ArrayList$Itr", name := "hasNext", desc := "()Z" } : Jvm.MethodName)).before A.a0 A.Z = true   := K.tab _ (mi 134 rfl)
theorem w_135 {A : Ax} (K : Wd A) : (Jvm.Cond.publicMethod ({ cls := "java/util/ArrayList$Itr", name := "hasNext", desc := "()Z" } : Jvm.MethodName)).before A.a0 A.Z = true   := K.tab _ (mi 135 rfl)
theorem w_136 {A : Ax} (K : Wd A) : (Jvm.Cond.unhidden "java/util/ArrayList$Itr" "hasNext" "()Z").before A.a0 A.Z = true   := K.tab _ (mi 136 rfl)
theorem w_137 {A : Ax} (K : Wd A) : (Jvm.Cond.castable "java/util/ArrayList$Itr" "java/util/Iterator").before A.a0 A.Z = true   := K.tab _ (mi 137 rfl)
theorem w_138 {A : Ax} (K : Wd A) : (Jvm.Cond.code ({ cls := "java/util/ArrayList$Itr", name := "hasNext", desc := "()Z" } : Jvm.MethodName) jdk_49_method_2_code (1 : Nat) (Option.some Jvm.ClassFile.FieldType.boolean)).before A.a0 A.Z = true   := K.tab _ (mi 138 rfl)
theorem w_139 {A : Ax} (K : Wd A) : (Jvm.Cond.fieldLink "java/util/ArrayList$Itr" (25 : Nat) "java/util/ArrayList$Itr" "cursor" "I").before A.a0 A.Z = true   := K.tab _ (mi 139 rfl)
theorem w_140 {A : Ax} (K : Wd A) : (Jvm.Cond.lays "java/util/ArrayList$Itr" "java/util/ArrayList$Itr" "cursor" "I").before A.a0 A.Z = true   := K.tab _ (mi 140 rfl)
theorem w_141 {A : Ax} (K : Wd A) : (Jvm.Cond.fieldLinkNest "java/util/ArrayList$Itr" (28 : Nat) "java/util/ArrayList" "size" "I" "java/util/ArrayList").before A.a0 A.Z = true   := K.tab _ (mi 141 rfl)
theorem w_142 {A : Ax} (K : Wd A) : (Jvm.Cond.methodLink "com/example/attentive_search/attentivesearch/Highlight" (89 : Nat) ({ cls := "com/example/attentive_search/attentivesearch/Highlight", name := "escape", desc := "(Ljava/lang/String;IILjava/lang/StringBuilder;)V" } : Jvm.MethodName)).before A.a0 A.Z = true   := K.tab _ (mi 142 rfl)
theorem w_143 {A : Ax} (K : Wd A) : (Jvm.Cond.static ({ cls := "com/example/attentive_search/attentivesearch/Highlight", name := "escape", desc := "(Ljava/lang/String;IILjava/lang/StringBuilder;)V" } : Jvm.MethodName)).before A.a0 A.Z = true   := K.tab _ (mi 143 rfl)
theorem w_144 {A : Ax} (K : Wd A) : (Jvm.Cond.code ({ cls := "com/example/attentive_search/attentivesearch/Highlight", name := "escape", desc := "(Ljava/lang/String;IILjava/lang/StringBuilder;)V" } : Jvm.MethodName) prog_6_method_5_code (6 : Nat) (Option.none : Option Jvm.ClassFile.FieldType)).before A.a0 A.Z = true   := K.tab _ (mi 144 rfl)
theorem w_145 {A : Ax} (K : Wd A) : (Jvm.Cond.methodLink "com/example/attentive_search/attentivesearch/Highlight" (105 : Nat) ({ cls := "java/lang/String", name := "charAt", desc := "(I)C" } : Jvm.MethodName)).before A.a0 A.Z = true   := K.tab _ (mi 145 rfl)
theorem w_146 {A : Ax} (K : Wd A) : (Jvm.Cond.declares ({ cls := "java/lang/String", name := "charAt", desc := "(I)C" } : Jvm.MethodName)).before A.a0 A.Z = true   := K.tab _ (mi 146 rfl)
theorem w_147 {A : Ax} (K : Wd A) : (Jvm.Cond.instanceMethod ({ cls := "java/lang/String", name := "charAt", desc := "(I)C" } : Jvm.MethodName)).before A.a0 A.Z = true   := K.tab _ (mi 147 rfl)
theorem w_148 {A : Ax} (K : Wd A) : (Jvm.Cond.selects "java/lang/String" ({ cls := "java/lang/String", name := "charAt", desc := "(I)C" } : Jvm.MethodName) ({ cls := "java/lang/String", name := "charAt", desc := "(I)C" } : Jvm.MethodName)).before A.a0 A.Z = true   := K.tab _ (mi 148 rfl)
theorem w_149 {A : Ax} (K : Wd A) : (Jvm.Cond.code ({ cls := "java/lang/String", name := "charAt", desc := "(I)C" } : Jvm.MethodName) jdk_42_method_56_code (2 : Nat) (Option.some Jvm.ClassFile.FieldType.char)).before A.a0 A.Z = true   := K.tab _ (mi 149 rfl)
theorem w_150 {A : Ax} (K : Wd A) : (Jvm.Cond.methodLink "java/lang/String" (492 : Nat) ({ cls := "java/lang/String", name := "isLatin1", desc := "()Z" } : Jvm.MethodName)).before A.a0 A.Z = true   := K.tab _ (mi 150 rfl)
theorem w_151 {A : Ax} (K : Wd A) : (Jvm.Cond.declares ({ cls := "java/lang/String", name := "isLatin1", desc := "()Z" } : Jvm.MethodName)).before A.a0 A.Z = true   := K.tab _ (mi 151 rfl)
theorem w_152 {A : Ax} (K : Wd A) : (Jvm.Cond.instanceMethod ({ cls := "java/lang/String", name := "isLatin1", desc := "()Z" } : Jvm.MethodName)).before A.a0 A.Z = true   := K.tab _ (mi 152 rfl)
theorem w_153 {A : Ax} (K : Wd A) : (Jvm.Cond.selects "java/lang/String" ({ cls := "java/lang/String", name := "isLatin1", desc := "()Z" } : Jvm.MethodName) ({ cls := "java/lang/String", name := "isLatin1", desc := "()Z" } : Jvm.MethodName)).before A.a0 A.Z = true   := K.tab _ (mi 153 rfl)
theorem w_154 {A : Ax} (K : Wd A) : (Jvm.Cond.code ({ cls := "java/lang/String", name := "isLatin1", desc := "()Z" } : Jvm.MethodName) jdk_42_method_154_code (1 : Nat) (Option.some Jvm.ClassFile.FieldType.boolean)).before A.a0 A.Z = true   := K.tab _ (mi 154 rfl)
theorem w_155 {A : Ax} (K : Wd A) : (Jvm.Cond.methodLink "java/lang/String" (495 : Nat) ({ cls := "java/lang/StringLatin1", name := "charAt", desc := "([BI)C" } : Jvm.MethodName)).before A.a0 A.Z = true   := K.tab _ (mi 155 rfl)
theorem w_156 {A : Ax} (K : Wd A) : (Jvm.Cond.static ({ cls := "java/lang/StringLatin1", name := "charAt", desc := "([BI)C" } : Jvm.MethodName)).before A.a0 A.Z = true   := K.tab _ (mi 156 rfl)
theorem w_157 {A : Ax} (K : Wd A) : (Jvm.Cond.initialized "java/lang/StringLatin1").before A.a0 A.Z = true   := K.tab _ (mi 157 rfl)
theorem w_158 {A : Ax} (K : Wd A) : (Jvm.Cond.code ({ cls := "java/lang/StringLatin1", name := "charAt", desc := "([BI)C" } : Jvm.MethodName) jdk_43_method_2_code (2 : Nat) (Option.some Jvm.ClassFile.FieldType.char)).before A.a0 A.Z = true   := K.tab _ (mi 158 rfl)
theorem w_159 {A : Ax} (K : Wd A) : (Jvm.Cond.methodLink "java/lang/StringLatin1" (9 : Nat) ({ cls := "java/lang/String", name := "checkIndex", desc := "(II)V" } : Jvm.MethodName)).before A.a0 A.Z = true   := K.tab _ (mi 159 rfl)
theorem w_160 {A : Ax} (K : Wd A) : (Jvm.Cond.static ({ cls := "java/lang/String", name := "checkIndex", desc := "(II)V" } : Jvm.MethodName)).before A.a0 A.Z = true   := K.tab _ (mi 160 rfl)
theorem w_161 {A : Ax} (K : Wd A) : (Jvm.Cond.code ({ cls := "java/lang/String", name := "checkIndex", desc := "(II)V" } : Jvm.MethodName) jdk_42_method_155_code (2 : Nat) (Option.none : Option Jvm.ClassFile.FieldType)).before A.a0 A.Z = true   := K.tab _ (mi 161 rfl)
theorem w_162 {A : Ax} (K : Wd A) : (Jvm.Cond.fieldLink "java/lang/String" (1053 : Nat) "jdk/internal/util/Preconditions" "SIOOBE_FORMATTER" "Ljava/util/function/BiFunction;").before A.a0 A.Z = true   := K.tab _ (mi 162 rfl)
theorem w_163 {A : Ax} (K : Wd A) : (Jvm.Cond.initialized "jdk/internal/util/Preconditions").before A.a0 A.Z = true   := K.tab _ (mi 163 rfl)
theorem w_164 {A : Ax} (K : Wd A) : (Jvm.Cond.methodLink "java/lang/String" (1059 : Nat) ({ cls := "jdk/internal/util/Preconditions", name := "checkIndex", desc := "(IILjava/util/function/BiFunction;)I" } : Jvm.MethodName)).before A.a0 A.Z = true   := K.tab _ (mi 164 rfl)
theorem w_165 {A : Ax} (K : Wd A) : (Jvm.Cond.static ({ cls := "jdk/internal/util/Preconditions", name := "checkIndex", desc := "(IILjava/util/function/BiFunction;)I" } : Jvm.MethodName)).before A.a0 A.Z = true   := K.tab _ (mi 165 rfl)
theorem w_166 {A : Ax} (K : Wd A) : (Jvm.Cond.code ({ cls := "jdk/internal/util/Preconditions", name := "checkIndex", desc := "(IILjava/util/function/BiFunction;)I" } : Jvm.MethodName) jdk_41_method_11_code (3 : Nat) (Option.some Jvm.ClassFile.FieldType.int)).before A.a0 A.Z = true   := K.tab _ (mi 166 rfl)
theorem w_167 {A : Ax} (K : Wd A) : (Jvm.Cond.stringLink "com/example/attentive_search/attentivesearch/Highlight" (115 : Nat) "&quot;").before A.a0 A.Z = true   := K.tab _ (mi 167 rfl)
theorem w_168 {A : Ax} (K : Wd A) : (Jvm.Cond.methodLink "com/example/attentive_search/attentivesearch/Highlight" (95 : Nat) ({ cls := "java/lang/StringBuilder", name := "append", desc := "(Ljava/lang/String;)Ljava/lang/StringBuilder;" } : Jvm.MethodName)).before A.a0 A.Z = true   := K.tab _ (mi 168 rfl)
theorem w_169 {A : Ax} (K : Wd A) : (Jvm.Cond.declares ({ cls := "java/lang/StringBuilder", name := "append", desc := "(Ljava/lang/String;)Ljava/lang/StringBuilder;" } : Jvm.MethodName)).before A.a0 A.Z = true   := K.tab _ (mi 169 rfl)
theorem w_170 {A : Ax} (K : Wd A) : (Jvm.Cond.instanceMethod ({ cls := "java/lang/StringBuilder", name := "append", desc := "(Ljava/lang/String;)Ljava/lang/StringBuilder;" } : Jvm.MethodName)).before A.a0 A.Z = true   := K.tab _ (mi 170 rfl)
theorem w_171 {A : Ax} (K : Wd A) : (Jvm.Cond.selects "java/lang/StringBuilder" ({ cls := "java/lang/StringBuilder", name := "append", desc := "(Ljava/lang/String;)Ljava/lang/StringBuilder;" } : Jvm.MethodName) ({ cls := "java/lang/StringBuilder", name := "append", desc := "(Ljava/lang/String;)Ljava/lang/StringBuilder;" } : Jvm.MethodName)).before A.a0 A.Z = true   := K.tab _ (mi 171 rfl)
theorem w_172 {A : Ax} (K : Wd A) : (Jvm.Cond.code ({ cls := "java/lang/StringBuilder", name := "append", desc := "(Ljava/lang/String;)Ljava/lang/StringBuilder;" } : Jvm.MethodName) jdk_67_method_7_code (2 : Nat) (Option.some (Jvm.ClassFile.FieldType.object "java/lang/StringBuilder"))).before A.a0 A.Z = true   := K.tab _ (mi 172 rfl)
theorem w_173 {A : Ax} (K : Wd A) : (Jvm.Cond.methodLink "java/lang/StringBuilder" (29 : Nat) ({ cls := "java/lang/AbstractStringBuilder", name := "append", desc := "(Ljava/lang/String;)Ljava/lang/AbstractStringBuilder;" } : Jvm.MethodName)).before A.a0 A.Z = true   := K.tab _ (mi 173 rfl)
theorem w_174 {A : Ax} (K : Wd A) : (Jvm.Cond.instanceMethod ({ cls := "java/lang/AbstractStringBuilder", name := "append", desc := "(Ljava/lang/String;)Ljava/lang/AbstractStringBuilder;" } : Jvm.MethodName)).before A.a0 A.Z = true   := K.tab _ (mi 174 rfl)
theorem w_175 {A : Ax} (K : Wd A) : (Jvm.Cond.superclass "java/lang/StringBuilder" "java/lang/AbstractStringBuilder").before A.a0 A.Z = true   := K.tab _ (mi 175 rfl)
theorem w_177 {A : Ax} (K : Wd A) : (Jvm.Cond.code ({ cls := "java/lang/AbstractStringBuilder", name := "append", desc := "(Ljava/lang/String;)Ljava/lang/AbstractStringBuilder;" } : Jvm.MethodName) jdk_68_method_22_code (3 : Nat) (Option.some (Jvm.ClassFile.FieldType.object "java/lang/AbstractStringBuilder"))).before A.a0 A.Z = true   := K.tab _ (mi 177 rfl)
theorem w_178 {A : Ax} (K : Wd A) : (Jvm.Cond.methodLink "java/lang/AbstractStringBuilder" (32 : Nat) ({ cls := "java/lang/String", name := "length", desc := "()I" } : Jvm.MethodName)).before A.a0 A.Z = true   := K.tab _ (mi 178 rfl)
theorem w_179 {A : Ax} (K : Wd A) : (Jvm.Cond.fieldLink "java/lang/AbstractStringBuilder" (79 : Nat) "java/lang/AbstractStringBuilder" "count" "I").before A.a0 A.Z = true   := K.tab _ (mi 179 rfl)
theorem w_180 {A : Ax} (K : Wd A) : (Jvm.Cond.lays "java/lang/StringBuilder" "java/lang/AbstractStringBuilder" "count" "I").before A.a0 A.Z = true   := K.tab _ (mi 180 rfl)
theorem w_181 {A : Ax} (K : Wd A) : (Jvm.Cond.methodLink "java/lang/AbstractStringBuilder" (100 : Nat) ({ cls := "java/lang/AbstractStringBuilder", name := "ensureCapacityInternal", desc := "(I)V" } : Jvm.MethodName)).before A.a0 A.Z = true   := K.tab _ (mi 181 rfl)
theorem w_182 {A : Ax} (K : Wd A) : (Jvm.Cond.instanceMethod ({ cls := "java/lang/AbstractStringBuilder", name := "ensureCapacityInternal", desc := "(I)V" } : Jvm.MethodName)).before A.a0 A.Z = true   := K.tab _ (mi 182 rfl)
theorem w_183 {A : Ax} (K : Wd A) : (Jvm.Cond.privateMethod ({ cls := "java/lang/AbstractStringBuilder", name := "ensureCapacityInternal", desc := "(I)V" } : Jvm.MethodName)).before A.a0 A.Z = true   := K.tab _ (mi 183 rfl)
theorem w_184 {A : Ax} (K : Wd A) : (Jvm.Cond.selects "java/lang/StringBuilder" ({ cls := "java/lang/AbstractStringBuilder", name := "ensureCapacityInternal", desc := "(I)V" } : Jvm.MethodName) ({ cls := "java/lang/AbstractStringBuilder", name := "ensureCapacityInternal", desc := "(I)V" } : Jvm.MethodName)).before A.a0 A.Z = true   := K.tab _ (mi 184 rfl)
theorem w_185 {A : Ax} (K : Wd A) : (Jvm.Cond.code ({ cls := "java/lang/AbstractStringBuilder", name := "ensureCapacityInternal", desc := "(I)V" } : Jvm.MethodName) jdk_68_method_9_code (3 : Nat) (Option.none : Option Jvm.ClassFile.FieldType)).before A.a0 A.Z = true   := K.tab _ (mi 185 rfl)
theorem w_186 {A : Ax} (K : Wd A) : (Jvm.Cond.methodLink "java/lang/AbstractStringBuilder" (104 : Nat) ({ cls := "java/lang/AbstractStringBuilder", name := "newCapacity", desc := "(I)I" } : Jvm.MethodName)).before A.a0 A.Z = true   := K.tab _ (mi 186 rfl)
theorem w_187 {A : Ax} (K : Wd A) : (Jvm.Cond.instanceMethod ({ cls := "java/lang/AbstractStringBuilder", name := "newCapacity", desc := "(I)I" } : Jvm.MethodName)).before A.a0 A.Z = true   := K.tab _ (mi 187 rfl)
theorem w_188 {A : Ax} (K : Wd A) : (Jvm.Cond.privateMethod ({ cls := "java/lang/AbstractStringBuilder", name := "newCapacity", desc := "(I)I" } : Jvm.MethodName)).before A.a0 A.Z = true   := K.tab _ (mi 188 rfl)
theorem w_189 {A : Ax} (K : Wd A) : (Jvm.Cond.selects "java/lang/StringBuilder" ({ cls := "java/lang/AbstractStringBuilder", name := "newCapacity", desc := "(I)I" } : Jvm.MethodName) ({ cls := "java/lang/AbstractStringBuilder", name := "newCapacity", desc := "(I)I" } : Jvm.MethodName)).before A.a0 A.Z = true   := K.tab _ (mi 189 rfl)
theorem w_190 {A : Ax} (K : Wd A) : (Jvm.Cond.code ({ cls := "java/lang/AbstractStringBuilder", name := "newCapacity", desc := "(I)I" } : Jvm.MethodName) jdk_68_method_10_code (6 : Nat) (Option.some Jvm.ClassFile.FieldType.int)).before A.a0 A.Z = true   := K.tab _ (mi 190 rfl)
theorem w_191 {A : Ax} (K : Wd A) : (Jvm.Cond.methodLink "java/lang/AbstractStringBuilder" (114 : Nat) ({ cls := "jdk/internal/util/ArraysSupport", name := "newLength", desc := "(III)I" } : Jvm.MethodName)).before A.a0 A.Z = true   := K.tab _ (mi 191 rfl)
theorem w_192 {A : Ax} (K : Wd A) : (Jvm.Cond.static ({ cls := "jdk/internal/util/ArraysSupport", name := "newLength", desc := "(III)I" } : Jvm.MethodName)).before A.a0 A.Z = true   := K.tab _ (mi 192 rfl)
theorem w_193 {A : Ax} (K : Wd A) : (Jvm.Cond.initialized "jdk/internal/util/ArraysSupport").before A.a0 A.Z = true   := K.tab _ (mi 193 rfl)
theorem w_194 {A : Ax} (K : Wd A) : (Jvm.Cond.code ({ cls := "jdk/internal/util/ArraysSupport", name := "newLength", desc := "(III)I" } : Jvm.MethodName) jdk_48_method_27_code (4 : Nat) (Option.some Jvm.ClassFile.FieldType.int)).before A.a0 A.Z = true   := K.tab _ (mi 194 rfl)
theorem w_195 {A : Ax} (K : Wd A) : (Jvm.Cond.methodLink "jdk/internal/util/ArraysSupport" (194 : Nat) ({ cls := "java/lang/Math", name := "max", desc := "(II)I" } : Jvm.MethodName)).before A.a0 A.Z = true   := K.tab _ (mi 195 rfl)
theorem w_196 {A : Ax} (K : Wd A) : (Jvm.Cond.static ({ cls := "java/lang/Math", name := "max", desc := "(II)I" } : Jvm.MethodName)).before A.a0 A.Z = true   := K.tab _ (mi 196 rfl)
theorem w_197 {A : Ax} (K : Wd A) : (Jvm.Cond.initialized "java/lang/Math").before A.a0 A.Z = true   := K.tab _ (mi 197 rfl)
theorem w_198 {A : Ax} (K : Wd A) : (Jvm.Cond.code ({ cls := "java/lang/Math", name := "max", desc := "(II)I" } : Jvm.MethodName) jdk_29_method_65_code (2 : Nat) (Option.some Jvm.ClassFile.FieldType.int)).before A.a0 A.Z = true   := K.tab _ (mi 198 rfl)
theorem w_199 {A : Ax} (K : Wd A) : (Jvm.Cond.constant "jdk/internal/util/ArraysSupport" (200 : Nat) (2147483639 : Int32)).before A.a0 A.Z = true   := K.tab _ (mi 199 rfl)
theorem w_200 {A : Ax} (K : Wd A) : (Jvm.Cond.constant "java/lang/AbstractStringBuilder" (39 : Nat) (2147483647 : Int32)).before A.a0 A.Z = true   := K.tab _ (mi 200 rfl)
theorem w_201 {A : Ax} (K : Wd A) : (Jvm.Cond.methodLink "java/lang/AbstractStringBuilder" (108 : Nat) ({ cls := "java/util/Arrays", name := "copyOf", desc := "([BI)[B" } : Jvm.MethodName)).before A.a0 A.Z = true   := K.tab _ (mi 201 rfl)
theorem w_202 {A : Ax} (K : Wd A) : (Jvm.Cond.static ({ cls := "java/util/Arrays", name := "copyOf", desc := "([BI)[B" } : Jvm.MethodName)).before A.a0 A.Z = true   := K.tab _ (mi 202 rfl)
theorem w_203 {A : Ax} (K : Wd A) : (Jvm.Cond.initialized "java/util/Arrays").before A.a0 A.Z = true   := K.tab _ (mi 203 rfl)
theorem w_204 {A : Ax} (K : Wd A) : (Jvm.Cond.code ({ cls := "java/util/Arrays", name := "copyOf", desc := "([BI)[B" } : Jvm.MethodName) jdk_65_method_121_code (3 : Nat) (Option.some (Jvm.ClassFile.FieldType.array Jvm.ClassFile.FieldType.byte))).before A.a0 A.Z = true   := K.tab _ (mi 204 rfl)
theorem w_205 {A : Ax} (K : Wd A) : (Jvm.Cond.methodLink "java/util/Arrays" (304 : Nat) ({ cls := "java/lang/Math", name := "min", desc := "(II)I" } : Jvm.MethodName)).before A.a0 A.Z = true   := K.tab _ (mi 205 rfl)
theorem w_206 {A : Ax} (K : Wd A) : (Jvm.Cond.static ({ cls := "java/lang/Math", name := "min", desc := "(II)I" } : Jvm.MethodName)).before A.a0 A.Z = true   := K.tab _ (mi 206 rfl)
theorem w_207 {A : Ax} (K : Wd A) : (Jvm.Cond.code ({ cls := "java/lang/Math", name := "min", desc := "(II)I" } : Jvm.MethodName) jdk_29_method_69_code (2 : Nat) (Option.some Jvm.ClassFile.FieldType.int)).before A.a0 A.Z = true   := K.tab _ (mi 207 rfl)
theorem w_208 {A : Ax} (K : Wd A) : (Jvm.Cond.methodLink "java/util/Arrays" (150 : Nat) ({ cls := "java/lang/System", name := "arraycopy", desc := "(Ljava/lang/Object;ILjava/lang/Object;II)V" } : Jvm.MethodName)).before A.a0 A.Z = true   := K.tab _ (mi 208 rfl)
theorem w_209 {A : Ax} (K : Wd A) : (Jvm.Cond.static ({ cls := "java/lang/System", name := "arraycopy", desc := "(Ljava/lang/Object;ILjava/lang/Object;II)V" } : Jvm.MethodName)).before A.a0 A.Z = true   := K.tab _ (mi 209 rfl)
theorem w_210 {A : Ax} (K : Wd A) : (Jvm.Cond.initialized "java/lang/System").before A.a0 A.Z = true   := K.tab _ (mi 210 rfl)
theorem w_211 {A : Ax} (K : Wd A) : (Jvm.Cond.native ({ cls := "java/lang/System", name := "arraycopy", desc := "(Ljava/lang/Object;ILjava/lang/Object;II)V" } : Jvm.MethodName)).before A.a0 A.Z = true   := K.tab _ (mi 211 rfl)
theorem w_212 {A : Ax} (K : Wd A) : (Jvm.Cond.methodLink "java/lang/AbstractStringBuilder" (208 : Nat) ({ cls := "java/lang/AbstractStringBuilder", name := "putStringAt", desc := "(ILjava/lang/String;)V" } : Jvm.MethodName)).before A.a0 A.Z = true   := K.tab _ (mi 212 rfl)
theorem w_213 {A : Ax} (K : Wd A) : (Jvm.Cond.instanceMethod ({ cls := "java/lang/AbstractStringBuilder", name := "putStringAt", desc := "(ILjava/lang/String;)V" } : Jvm.MethodName)).before A.a0 A.Z = true   := K.tab _ (mi 213 rfl)
theorem w_214 {A : Ax} (K : Wd A) : (Jvm.Cond.privateMethod ({ cls := "java/lang/AbstractStringBuilder", name := "putStringAt", desc := "(ILjava/lang/String;)V" } : Jvm.MethodName)).before A.a0 A.Z = true   := K.tab _ (mi 214 rfl)
theorem w_215 {A : Ax} (K : Wd A) : (Jvm.Cond.selects "java/lang/StringBuilder" ({ cls := "java/lang/AbstractStringBuilder", name := "putStringAt", desc := "(ILjava/lang/String;)V" } : Jvm.MethodName) ({ cls := "java/lang/AbstractStringBuilder", name := "putStringAt", desc := "(ILjava/lang/String;)V" } : Jvm.MethodName)).before A.a0 A.Z = true   := K.tab _ (mi 215 rfl)
theorem w_216 {A : Ax} (K : Wd A) : (Jvm.Cond.code ({ cls := "java/lang/AbstractStringBuilder", name := "putStringAt", desc := "(ILjava/lang/String;)V" } : Jvm.MethodName) jdk_68_method_73_code (3 : Nat) (Option.none : Option Jvm.ClassFile.FieldType)).before A.a0 A.Z = true   := K.tab _ (mi 216 rfl)
theorem w_217 {A : Ax} (K : Wd A) : (Jvm.Cond.methodLink "java/lang/AbstractStringBuilder" (397 : Nat) ({ cls := "java/lang/AbstractStringBuilder", name := "inflateIfNeededFor", desc := "(Ljava/lang/String;)V" } : Jvm.MethodName)).before A.a0 A.Z = true   := K.tab _ (mi 217 rfl)
theorem w_218 {A : Ax} (K : Wd A) : (Jvm.Cond.instanceMethod ({ cls := "java/lang/AbstractStringBuilder", name := "inflateIfNeededFor", desc := "(Ljava/lang/String;)V" } : Jvm.MethodName)).before A.a0 A.Z = true   := K.tab _ (mi 218 rfl)
theorem w_219 {A : Ax} (K : Wd A) : (Jvm.Cond.privateMethod ({ cls := "java/lang/AbstractStringBuilder", name := "inflateIfNeededFor", desc := "(Ljava/lang/String;)V" } : Jvm.MethodName)).before A.a0 A.Z = true   := K.tab _ (mi 219 rfl)
theorem w_220 {A : Ax} (K : Wd A) : (Jvm.Cond.selects "java/lang/StringBuilder" ({ cls := "java/lang/AbstractStringBuilder", name := "inflateIfNeededFor", desc := "(Ljava/lang/String;)V" } : Jvm.MethodName) ({ cls := "java/lang/AbstractStringBuilder", name := "inflateIfNeededFor", desc := "(Ljava/lang/String;)V" } : Jvm.MethodName)).before A.a0 A.Z = true   := K.tab _ (mi 220 rfl)
theorem w_221 {A : Ax} (K : Wd A) : (Jvm.Cond.code ({ cls := "java/lang/AbstractStringBuilder", name := "inflateIfNeededFor", desc := "(Ljava/lang/String;)V" } : Jvm.MethodName) jdk_68_method_71_code (2 : Nat) (Option.none : Option Jvm.ClassFile.FieldType)).before A.a0 A.Z = true   := K.tab _ (mi 221 rfl)
theorem w_222 {A : Ax} (K : Wd A) : (Jvm.Cond.methodLink "java/lang/AbstractStringBuilder" (40 : Nat) ({ cls := "java/lang/String", name := "coder", desc := "()B" } : Jvm.MethodName)).before A.a0 A.Z = true   := K.tab _ (mi 222 rfl)
theorem w_223 {A : Ax} (K : Wd A) : (Jvm.Cond.methodLink "java/lang/AbstractStringBuilder" (399 : Nat) ({ cls := "java/lang/String", name := "getBytes", desc := "([BIB)V" } : Jvm.MethodName)).before A.a0 A.Z = true   := K.tab _ (mi 223 rfl)
theorem w_224 {A : Ax} (K : Wd A) : (Jvm.Cond.declares ({ cls := "java/lang/String", name := "getBytes", desc := "([BIB)V" } : Jvm.MethodName)).before A.a0 A.Z = true   := K.tab _ (mi 224 rfl)
theorem w_225 {A : Ax} (K : Wd A) : (Jvm.Cond.instanceMethod ({ cls := "java/lang/String", name := "getBytes", desc := "([BIB)V" } : Jvm.MethodName)).before A.a0 A.Z = true   := K.tab _ (mi 225 rfl)
theorem w_226 {A : Ax} (K : Wd A) : (Jvm.Cond.selects "java/lang/String" ({ cls := "java/lang/String", name := "getBytes", desc := "([BIB)V" } : Jvm.MethodName) ({ cls := "java/lang/String", name := "getBytes", desc := "([BIB)V" } : Jvm.MethodName)).before A.a0 A.Z = true   := K.tab _ (mi 226 rfl)
theorem w_227 {A : Ax} (K : Wd A) : (Jvm.Cond.code ({ cls := "java/lang/String", name := "getBytes", desc := "([BIB)V" } : Jvm.MethodName) jdk_42_method_147_code (4 : Nat) (Option.none : Option Jvm.ClassFile.FieldType)).before A.a0 A.Z = true   := K.tab _ (mi 227 rfl)
theorem w_228 {A : Ax} (K : Wd A) : (Jvm.Cond.methodLink "java/lang/String" (212 : Nat) ({ cls := "java/lang/System", name := "arraycopy", desc := "(Ljava/lang/Object;ILjava/lang/Object;II)V" } : Jvm.MethodName)).before A.a0 A.Z = true   := K.tab _ (mi 228 rfl)
theorem w_229 {A : Ax} (K : Wd A) : (Jvm.Cond.stringLink "com/example/attentive_search/attentivesearch/Highlight" (109 : Nat) "&amp;").before A.a0 A.Z = true   := K.tab _ (mi 229 rfl)
theorem w_230 {A : Ax} (K : Wd A) : (Jvm.Cond.methodLink "com/example/attentive_search/attentivesearch/Highlight" (101 : Nat) ({ cls := "java/lang/StringBuilder", name := "toString", desc := "()Ljava/lang/String;" } : Jvm.MethodName)).before A.a0 A.Z = true   := K.tab _ (mi 230 rfl)
theorem w_231 {A : Ax} (K : Wd A) : (Jvm.Cond.declares ({ cls := "java/lang/StringBuilder", name := "toString", desc := "()Ljava/lang/String;" } : Jvm.MethodName)).before A.a0 A.Z = true   := K.tab _ (mi 231 rfl)
theorem w_232 {A : Ax} (K : Wd A) : (Jvm.Cond.instanceMethod ({ cls := "java/lang/StringBuilder", name := "toString", desc := "()Ljava/lang/String;" } : Jvm.MethodName)).before A.a0 A.Z = true   := K.tab _ (mi 232 rfl)
theorem w_233 {A : Ax} (K : Wd A) : (Jvm.Cond.selects "java/lang/StringBuilder" ({ cls := "java/lang/StringBuilder", name := "toString", desc := "()Ljava/lang/String;" } : Jvm.MethodName) ({ cls := "java/lang/StringBuilder", name := "toString", desc := "()Ljava/lang/String;" } : Jvm.MethodName)).before A.a0 A.Z = true   := K.tab _ (mi 233 rfl)
theorem w_234 {A : Ax} (K : Wd A) : (Jvm.Cond.code ({ cls := "java/lang/StringBuilder", name := "toString", desc := "()Ljava/lang/String;" } : Jvm.MethodName) jdk_67_method_42_code (1 : Nat) (Option.some (Jvm.ClassFile.FieldType.object "java/lang/String"))).before A.a0 A.Z = true   := K.tab _ (mi 234 rfl)
theorem w_235 {A : Ax} (K : Wd A) : (Jvm.Cond.classLink "java/lang/StringBuilder" (18 : Nat) "java/lang/String").before A.a0 A.Z = true   := K.tab _ (mi 235 rfl)
theorem w_236 {A : Ax} (K : Wd A) : (Jvm.Cond.methodLink "java/lang/StringBuilder" (137 : Nat) ({ cls := "java/lang/String", name := "<init>", desc := "(Ljava/lang/StringBuilder;)V" } : Jvm.MethodName)).before A.a0 A.Z = true   := K.tab _ (mi 236 rfl)
theorem w_237 {A : Ax} (K : Wd A) : (Jvm.Cond.instanceMethod ({ cls := "java/lang/String", name := "<init>", desc := "(Ljava/lang/StringBuilder;)V" } : Jvm.MethodName)).before A.a0 A.Z = true   := K.tab _ (mi 237 rfl)
theorem w_238 {A : Ax} (K : Wd A) : (Jvm.Cond.code ({ cls := "java/lang/String", name := "<init>", desc := "(Ljava/lang/StringBuilder;)V" } : Jvm.MethodName) jdk_42_method_53_code (2 : Nat) (Option.none : Option Jvm.ClassFile.FieldType)).before A.a0 A.Z = true   := K.tab _ (mi 238 rfl)
theorem w_239 {A : Ax} (K : Wd A) : (Jvm.Cond.methodLink "java/lang/String" (489 : Nat) ({ cls := "java/lang/String", name := "<init>", desc := "(Ljava/lang/AbstractStringBuilder;Ljava/lang/Void;)V" } : Jvm.MethodName)).before A.a0 A.Z = true   := K.tab _ (mi 239 rfl)
theorem w_240 {A : Ax} (K : Wd A) : (Jvm.Cond.instanceMethod ({ cls := "java/lang/String", name := "<init>", desc := "(Ljava/lang/AbstractStringBuilder;Ljava/lang/Void;)V" } : Jvm.MethodName)).before A.a0 A.Z = true   := K.tab _ (mi 240 rfl)
theorem w_241 {A : Ax} (K : Wd A) : (Jvm.Cond.code ({ cls := "java/lang/String", name := "<init>", desc := "(Ljava/lang/AbstractStringBuilder;Ljava/lang/Void;)V" } : Jvm.MethodName) jdk_42_method_150_code (5 : Nat) (Option.none : Option Jvm.ClassFile.FieldType)).before A.a0 A.Z = true   := K.tab _ (mi 241 rfl)
theorem w_242 {A : Ax} (K : Wd A) : (Jvm.Cond.methodLink "java/lang/String" (552 : Nat) ({ cls := "java/lang/AbstractStringBuilder", name := "getValue", desc := "()[B" } : Jvm.MethodName)).before A.a0 A.Z = true   := K.tab _ (mi 242 rfl)
theorem w_243 {A : Ax} (K : Wd A) : (Jvm.Cond.declares ({ cls := "java/lang/AbstractStringBuilder", name := "getValue", desc := "()[B" } : Jvm.MethodName)).before A.a0 A.Z = true   := K.tab _ (mi 243 rfl)
theorem w_244 {A : Ax} (K : Wd A) : (Jvm.Cond.instanceMethod ({ cls := "java/lang/AbstractStringBuilder", name := "getValue", desc := "()[B" } : Jvm.MethodName)).before A.a0 A.Z = true   := K.tab _ (mi 244 rfl)
theorem w_245 {A : Ax} (K : Wd A) : (Jvm.Cond.selects "java/lang/StringBuilder" ({ cls := "java/lang/AbstractStringBuilder", name := "getValue", desc := "()[B" } : Jvm.MethodName) ({ cls := "java/lang/AbstractStringBuilder", name := "getValue", desc := "()[B" } : Jvm.MethodName)).before A.a0 A.Z = true   := K.tab _ (mi 245 rfl)
theorem w_246 {A : Ax} (K : Wd A) : (Jvm.Cond.code ({ cls := "java/lang/AbstractStringBuilder", name := "getValue", desc := "()[B" } : Jvm.MethodName) jdk_68_method_64_code (1 : Nat) (Option.some (Jvm.ClassFile.FieldType.array Jvm.ClassFile.FieldType.byte))).before A.a0 A.Z = true   := K.tab _ (mi 246 rfl)
theorem w_247 {A : Ax} (K : Wd A) : (Jvm.Cond.methodLink "java/lang/String" (549 : Nat) ({ cls := "java/lang/AbstractStringBuilder", name := "length", desc := "()I" } : Jvm.MethodName)).before A.a0 A.Z = true   := K.tab _ (mi 247 rfl)
theorem w_248 {A : Ax} (K : Wd A) : (Jvm.Cond.declares ({ cls := "java/lang/AbstractStringBuilder", name := "length", desc := "()I" } : Jvm.MethodName)).before A.a0 A.Z = true   := K.tab _ (mi 248 rfl)
theorem w_249 {A : Ax} (K : Wd A) : (Jvm.Cond.instanceMethod ({ cls := "java/lang/AbstractStringBuilder", name := "length", desc := "()I" } : Jvm.MethodName)).before A.a0 A.Z = true   := K.tab _ (mi 249 rfl)
theorem w_250 {A : Ax} (K : Wd A) : (Jvm.Cond.selects "java/lang/StringBuilder" ({ cls := "java/lang/AbstractStringBuilder", name := "length", desc := "()I" } : Jvm.MethodName) ({ cls := "java/lang/StringBuilder", name := "length", desc := "()I" } : Jvm.MethodName)).before A.a0 A.Z = true   := K.tab _ (mi 250 rfl)
theorem w_251 {A : Ax} (K : Wd A) : (Jvm.Cond.instanceMethod ({ cls := "java/lang/StringBuilder", name := "length", desc := "()I" } : Jvm.MethodName)).before A.a0 A.Z = true   := K.tab _ (mi 251 rfl)
theorem w_252 {A : Ax} (K : Wd A) : (Jvm.Cond.code ({ cls := "java/lang/StringBuilder", name := "length", desc := "()I" } : Jvm.MethodName) jdk_67_method_93_code (1 : Nat) (Option.some Jvm.ClassFile.FieldType.int)).before A.a0 A.Z = true   := K.tab _ (mi 252 rfl)
theorem w_253 {A : Ax} (K : Wd A) : (Jvm.Cond.methodLink "java/lang/StringBuilder" (343 : Nat) ({ cls := "java/lang/AbstractStringBuilder", name := "length", desc := "()I" } : Jvm.MethodName)).before A.a0 A.Z = true   := K.tab _ (mi 253 rfl)
theorem w_254 {A : Ax} (K : Wd A) : (Jvm.Cond.code ({ cls := "java/lang/AbstractStringBuilder", name := "length", desc := "()I" } : Jvm.MethodName) jdk_68_method_6_code (1 : Nat) (Option.some Jvm.ClassFile.FieldType.int)).before A.a0 A.Z = true   := K.tab _ (mi 254 rfl)
theorem w_255 {A : Ax} (K : Wd A) : (Jvm.Cond.methodLink "java/lang/String" (1047 : Nat) ({ cls := "java/lang/AbstractStringBuilder", name := "isLatin1", desc := "()Z" } : Jvm.MethodName)).before A.a0 A.Z = true   := K.tab _ (mi 255 rfl)
theorem w_256 {A : Ax} (K : Wd A) : (Jvm.Cond.declares ({ cls := "java/lang/AbstractStringBuilder", name := "isLatin1", desc := "()Z" } : Jvm.MethodName)).before A.a0 A.Z = true   := K.tab _ (mi 256 rfl)
theorem w_257 {A : Ax} (K : Wd A) : (Jvm.Cond.instanceMethod ({ cls := "java/lang/AbstractStringBuilder", name := "isLatin1", desc := "()Z" } : Jvm.MethodName)).before A.a0 A.Z = true   := K.tab _ (mi 257 rfl)
theorem w_258 {A : Ax} (K : Wd A) : (Jvm.Cond.selects "java/lang/StringBuilder" ({ cls := "java/lang/AbstractStringBuilder", name := "isLatin1", desc := "()Z" } : Jvm.MethodName) ({ cls := "java/lang/AbstractStringBuilder", name := "isLatin1", desc := "()Z" } : Jvm.MethodName)).before A.a0 A.Z = true   := K.tab _ (mi 258 rfl)
theorem w_259 {A : Ax} (K : Wd A) : (Jvm.Cond.code ({ cls := "java/lang/AbstractStringBuilder", name := "isLatin1", desc := "()Z" } : Jvm.MethodName) jdk_68_method_68_code (1 : Nat) (Option.some Jvm.ClassFile.FieldType.boolean)).before A.a0 A.Z = true   := K.tab _ (mi 259 rfl)
theorem w_260 {A : Ax} (K : Wd A) : (Jvm.Cond.methodLink "java/lang/String" (54 : Nat) ({ cls := "java/util/Arrays", name := "copyOfRange", desc := "([BII)[B" } : Jvm.MethodName)).before A.a0 A.Z = true   := K.tab _ (mi 260 rfl)
theorem w_261 {A : Ax} (K : Wd A) : (Jvm.Cond.static ({ cls := "java/util/Arrays", name := "copyOfRange", desc := "([BII)[B" } : Jvm.MethodName)).before A.a0 A.Z = true   := K.tab _ (mi 261 rfl)
theorem w_262 {A : Ax} (K : Wd A) : (Jvm.Cond.code ({ cls := "java/util/Arrays", name := "copyOfRange", desc := "([BII)[B" } : Jvm.MethodName) jdk_65_method_132_code (3 : Nat) (Option.some (Jvm.ClassFile.FieldType.array Jvm.ClassFile.FieldType.byte))).before A.a0 A.Z = true   := K.tab _ (mi 262 rfl)
theorem w_263 {A : Ax} (K : Wd A) : (Jvm.Cond.methodLink "java/util/Arrays" (339 : Nat) ({ cls := "java/util/Arrays", name := "copyOfRangeByte", desc := "([BII)[B" } : Jvm.MethodName)).before A.a0 A.Z = true   := K.tab _ (mi 263 rfl)
theorem w_264 {A : Ax} (K : Wd A) : (Jvm.Cond.static ({ cls := "java/util/Arrays", name := "copyOfRangeByte", desc := "([BII)[B" } : Jvm.MethodName)).before A.a0 A.Z = true   := K.tab _ (mi 264 rfl)
theorem w_265 {A : Ax} (K : Wd A) : (Jvm.Cond.code ({ cls := "java/util/Arrays", name := "copyOfRangeByte", desc := "([BII)[B" } : Jvm.MethodName) jdk_65_method_133_code (5 : Nat) (Option.some (Jvm.ClassFile.FieldType.array Jvm.ClassFile.FieldType.byte))).before A.a0 A.Z = true   := K.tab _ (mi 265 rfl)
theorem w_266 {A : Ax} (K : Wd A) : (Jvm.Cond.methodLink "java/util/Arrays" (343 : Nat) ({ cls := "java/util/Arrays", name := "checkLength", desc := "(II)V" } : Jvm.MethodName)).before A.a0 A.Z = true   := K.tab _ (mi 266 rfl)
theorem w_267 {A : Ax} (K : Wd A) : (Jvm.Cond.static ({ cls := "java/util/Arrays", name := "checkLength", desc := "(II)V" } : Jvm.MethodName)).before A.a0 A.Z = true   := K.tab _ (mi 267 rfl)
theorem w_268 {A : Ax} (K : Wd A) : (Jvm.Cond.code ({ cls := "java/util/Arrays", name := "checkLength", desc := "(II)V" } : Jvm.MethodName) jdk_65_method_131_code (2 : Nat) (Option.none : Option Jvm.ClassFile.FieldType)).before A.a0 A.Z = true   := K.tab _ (mi 268 rfl)
theorem w_269 {A : Ax} (K : Wd A) : (Jvm.Cond.methodLink "com/example/attentive_search/attentivesearch/HighlightHtmlPinLaw" (39 : Nat) ({ cls := "com/example/attentive_search/attentivesearch/HighlightHtmlPinLaw", name := "step", desc := "(Ljava/lang/String;IZZZC)I" } : Jvm.MethodName)).before A.a0 A.Z = true   := K.tab _ (mi 269 rfl)
theorem w_270 {A : Ax} (K : Wd A) : (Jvm.Cond.static ({ cls := "com/example/attentive_search/attentivesearch/HighlightHtmlPinLaw", name := "step", desc := "(Ljava/lang/String;IZZZC)I" } : Jvm.MethodName)).before A.a0 A.Z = true   := K.tab _ (mi 270 rfl)
theorem w_271 {A : Ax} (K : Wd A) : (Jvm.Cond.code ({ cls := "com/example/attentive_search/attentivesearch/HighlightHtmlPinLaw", name := "step", desc := "(Ljava/lang/String;IZZZC)I" } : Jvm.MethodName) method_5_code (7 : Nat) (Option.some Jvm.ClassFile.FieldType.int)).before A.a0 A.Z = true   := K.tab _ (mi 271 rfl)
theorem w_272 {A : Ax} (K : Wd A) : (Jvm.Cond.methodLink "com/example/attentive_search/attentivesearch/HighlightHtmlPinLaw" (69 : Nat) ({ cls := "com/example/attentive_search/attentivesearch/HighlightHtmlPinLaw", name := "esc", desc := "(C)Ljava/lang/String;" } : Jvm.MethodName)).before A.a0 A.Z = true   := K.tab _ (mi 272 rfl)
theorem w_273 {A : Ax} (K : Wd A) : (Jvm.Cond.static ({ cls := "com/example/attentive_search/attentivesearch/HighlightHtmlPinLaw", name := "esc", desc := "(C)Ljava/lang/String;" } : Jvm.MethodName)).before A.a0 A.Z = true   := K.tab _ (mi 273 rfl)
theorem w_274 {A : Ax} (K : Wd A) : (Jvm.Cond.code ({ cls := "com/example/attentive_search/attentivesearch/HighlightHtmlPinLaw", name := "esc", desc := "(C)Ljava/lang/String;" } : Jvm.MethodName) method_4_code (1 : Nat) (Option.some (Jvm.ClassFile.FieldType.object "java/lang/String"))).before A.a0 A.Z = true   := K.tab _ (mi 274 rfl)
theorem w_275 {A : Ax} (K : Wd A) : (Jvm.Cond.stringLink "com/example/attentive_search/attentivesearch/HighlightHtmlPinLaw" (53 : Nat) "&quot;").before A.a0 A.Z = true   := K.tab _ (mi 275 rfl)
theorem w_276 {A : Ax} (K : Wd A) : (Jvm.Cond.methodLink "com/example/attentive_search/attentivesearch/HighlightHtmlPinLaw" (63 : Nat) ({ cls := "com/example/attentive_search/attentivesearch/HighlightHtmlPinLaw", name := "take", desc := "(Ljava/lang/String;ILjava/lang/String;)I" } : Jvm.MethodName)).before A.a0 A.Z = true   := K.tab _ (mi 276 rfl)
theorem w_277 {A : Ax} (K : Wd A) : (Jvm.Cond.static ({ cls := "com/example/attentive_search/attentivesearch/HighlightHtmlPinLaw", name := "take", desc := "(Ljava/lang/String;ILjava/lang/String;)I" } : Jvm.MethodName)).before A.a0 A.Z = true   := K.tab _ (mi 277 rfl)
theorem w_278 {A : Ax} (K : Wd A) : (Jvm.Cond.code ({ cls := "com/example/attentive_search/attentivesearch/HighlightHtmlPinLaw", name := "take", desc := "(Ljava/lang/String;ILjava/lang/String;)I" } : Jvm.MethodName) method_6_code (4 : Nat) (Option.some Jvm.ClassFile.FieldType.int)).before A.a0 A.Z = true   := K.tab _ (mi 278 rfl)
theorem w_279 {A : Ax} (K : Wd A) : (Jvm.Cond.methodLink "com/example/attentive_search/attentivesearch/HighlightHtmlPinLaw" (43 : Nat) ({ cls := "java/lang/String", name := "length", desc := "()I" } : Jvm.MethodName)).before A.a0 A.Z = true   := K.tab _ (mi 279 rfl)
theorem w_280 {A : Ax} (K : Wd A) : (Jvm.Cond.methodLink "com/example/attentive_search/attentivesearch/HighlightHtmlPinLaw" (72 : Nat) ({ cls := "java/lang/String", name := "charAt", desc := "(I)C" } : Jvm.MethodName)).before A.a0 A.Z = true   := K.tab _ (mi 280 rfl)
theorem w_281 {A : Ax} (K : Wd A) : (Jvm.Cond.stringLink "com/example/attentive_search/attentivesearch/HighlightHtmlPinLaw" (47 : Nat) "&amp;").before A.a0 A.Z = true   := K.tab _ (mi 281 rfl)
theorem w_282 {A : Ax} (K : Wd A) : (Jvm.Cond.constant "com/example/attentive_search/attentivesearch/HighlightHtmlPinLaw" (23 : Nat) (2147483647 : Int32)).before A.a0 A.Z = true   := K.tab _ (mi 282 rfl)
theorem w_283 {A : Ax} (K : Wd A) : (Jvm.Cond.classLink "com/example/attentive_search/attentivesearch/HighlightHtmlPinLaw" (24 : Nat) "com/example/attentive_search/attentivesearch/Highlight$Mark").before A.a0 A.Z = true   := K.tab _ (mi 283 rfl)
theorem w_284 {A : Ax} (K : Wd A) : (Jvm.Cond.instantiable "com/example/attentive_search/attentivesearch/Highlight$Mark" (2 : Nat)).before A.a0 A.Z = true   := K.tab _ (mi 284 rfl)
theorem w_285 {A : Ax} (K : Wd A) : (Jvm.Cond.initialized "com/example/attentive_search/attentivesearch/Highlight$Mark").before A.a0 A.Z = true   := K.tab _ (mi 285 rfl)
theorem w_286 {A : Ax} (K : Wd A) : (Jvm.Cond.methodLink "com/example/attentive_search/attentivesearch/HighlightHtmlPinLaw" (26 : Nat) ({ cls := "com/example/attentive_search/attentivesearch/Highlight$Mark", name := "<init>", desc := "(II)V" } : Jvm.MethodName)).before A.a0 A.Z = true   := K.tab _ (mi 286 rfl)
theorem w_287 {A : Ax} (K : Wd A) : (Jvm.Cond.instanceMethod ({ cls := "com/example/attentive_search/attentivesearch/Highlight$Mark", name := "<init>", desc := "(II)V" } : Jvm.MethodName)).before A.a0 A.Z = true   := K.tab _ (mi 287 rfl)
theorem w_288 {A : Ax} (K : Wd A) : (Jvm.Cond.code ({ cls := "com/example/attentive_search/attentivesearch/Highlight$Mark", name := "<init>", desc := "(II)V" } : Jvm.MethodName) prog_7_method_1_code (3 : Nat) (Option.none : Option Jvm.ClassFile.FieldType)).before A.a0 A.Z = true   := K.tab _ (mi 288 rfl)
theorem w_289 {A : Ax} (K : Wd A) : (Jvm.Cond.methodLink "com/example/attentive_search/attentivesearch/Highlight$Mark" (1 : Nat) ({ cls := "java/lang/Record", name := "<init>", desc := "()V" } : Jvm.MethodName)).before A.a0 A.Z = true   := K.tab _ (mi 289 rfl)
theorem w_290 {A : Ax} (K : Wd A) : (Jvm.Cond.instanceMethod ({ cls := "java/lang/Record", name := "<init>", desc := "()V" } : Jvm.MethodName)).before A.a0 A.Z = true   := K.tab _ (mi 290 rfl)
theorem w_292 {A : Ax} (K : Wd A) : (Jvm.Cond.initialized "java/lang/Record").before A.a0 A.Z = true   := K.tab _ (mi 292 rfl)
theorem w_293 {A : Ax} (K : Wd A) : (Jvm.Cond.code ({ cls := "java/lang/Record", name := "<init>", desc := "()V" } : Jvm.MethodName) jdk_30_method_1_code (1 : Nat) (Option.none : Option Jvm.ClassFile.FieldType)).before A.a0 A.Z = true   := K.tab _ (mi 293 rfl)
theorem w_294 {A : Ax} (K : Wd A) : (Jvm.Cond.methodLink "java/lang/Record" (1 : Nat) ({ cls := "java/lang/Object", name := "<init>", desc := "()V" } : Jvm.MethodName)).before A.a0 A.Z = true   := K.tab _ (mi 294 rfl)
theorem w_295 {A : Ax} (K : Wd A) : (Jvm.Cond.fieldLink "com/example/attentive_search/attentivesearch/Highlight$Mark" (7 : Nat) "com/example/attentive_search/attentivesearch/Highlight$Mark" "start" "I").before A.a0 A.Z = true   := K.tab _ (mi 295 rfl)
theorem w_296 {A : Ax} (K : Wd A) : (Jvm.Cond.laysFinal "com/example/attentive_search/attentivesearch/Highlight$Mark" "com/example/attentive_search/attentivesearch/Highlight$Mark" "start" "I").before A.a0 A.Z = true   := K.tab _ (mi 296 rfl)
theorem w_297 {A : Ax} (K : Wd A) : (Jvm.Cond.fieldLink "com/example/attentive_search/attentivesearch/Highlight$Mark" (13 : Nat) "com/example/attentive_search/attentivesearch/Highlight$Mark" "end" "I").before A.a0 A.Z = true   := K.tab _ (mi 297 rfl)
theorem w_298 {A : Ax} (K : Wd A) : (Jvm.Cond.laysFinal "com/example/attentive_search/attentivesearch/Highlight$Mark" "com/example/attentive_search/attentivesearch/Highlight$Mark" "end" "I").before A.a0 A.Z = true   := K.tab _ (mi 298 rfl)
theorem w_299 {A : Ax} (K : Wd A) : (Jvm.Cond.methodLink "com/example/attentive_search/attentivesearch/HighlightHtmlPinLaw" (29 : Nat) ({ cls := "java/util/ArrayList", name := "add", desc := "(Ljava/lang/Object;)Z" } : Jvm.MethodName)).before A.a0 A.Z = true   := K.tab _ (mi 299 rfl)
theorem w_300 {A : Ax} (K : Wd A) : (Jvm.Cond.declares ({ cls := "java/util/ArrayList", name := "add", desc := "(Ljava/lang/Object;)Z" } : Jvm.MethodName)).before A.a0 A.Z = true   := K.tab _ (mi 300 rfl)
theorem w_301 {A : Ax} (K : Wd A) : (Jvm.Cond.instanceMethod ({ cls := "java/util/ArrayList", name := "add", desc := "(Ljava/lang/Object;)Z" } : Jvm.MethodName)).before A.a0 A.Z = true   := K.tab _ (mi 301 rfl)
theorem w_302 {A : Ax} (K : Wd A) : (Jvm.Cond.selects "java/util/ArrayList" ({ cls := "java/util/ArrayList", name := "add", desc := "(Ljava/lang/Object;)Z" } : Jvm.MethodName) ({ cls := "java/util/ArrayList", name := "add", desc := "(Ljava/lang/Object;)Z" } : Jvm.MethodName)).before A.a0 A.Z = true   := K.tab _ (mi 302 rfl)
theorem w_303 {A : Ax} (K : Wd A) : (Jvm.Cond.code ({ cls := "java/util/ArrayList", name := "add", desc := "(Ljava/lang/Object;)Z" } : Jvm.MethodName) jdk_38_method_25_code (2 : Nat) (Option.some Jvm.ClassFile.FieldType.boolean)).before A.a0 A.Z = true   := K.tab _ (mi 303 rfl)
theorem w_304 {A : Ax} (K : Wd A) : (Jvm.Cond.fieldLink "java/util/ArrayList" (63 : Nat) "java/util/ArrayList" "modCount" "I").before A.a0 A.Z = true   := K.tab _ (mi 304 rfl)
theorem w_305 {A : Ax} (K : Wd A) : (Jvm.Cond.methodLink "java/util/ArrayList" (131 : Nat) ({ cls := "java/util/ArrayList", name := "add", desc := "(Ljava/lang/Object;[Ljava/lang/Object;I)V" } : Jvm.MethodName)).before A.a0 A.Z = true   := K.tab _ (mi 305 rfl)
theorem w_306 {A : Ax} (K : Wd A) : (Jvm.Cond.instanceMethod ({ cls := "java/util/ArrayList", name := "add", desc := "(Ljava/lang/Object;[Ljava/lang/Object;I)V" } : Jvm.MethodName)).before A.a0 A.Z = true   := K.tab _ (mi 306 rfl)
theorem w_307 {A : Ax} (K : Wd A) : (Jvm.Cond.privateMethod ({ cls := "java/util/ArrayList", name := "add", desc := "(Ljava/lang/Object;[Ljava/lang/Object;I)V" } : Jvm.MethodName)).before A.a0 A.Z = true   := K.tab _ (mi 307 rfl)
theorem w_308 {A : Ax} (K : Wd A) : (Jvm.Cond.selects "java/util/ArrayList" ({ cls := "java/util/ArrayList", name := "add", desc := "(Ljava/lang/Object;[Ljava/lang/Object;I)V" } : Jvm.MethodName) ({ cls := "java/util/ArrayList", name := "add", desc := "(Ljava/lang/Object;[Ljava/lang/Object;I)V" } : Jvm.MethodName)).before A.a0 A.Z = true   := K.tab _ (mi 308 rfl)
theorem w_309 {A : Ax} (K : Wd A) : (Jvm.Cond.code ({ cls := "java/util/ArrayList", name := "add", desc := "(Ljava/lang/Object;[Ljava/lang/Object;I)V" } : Jvm.MethodName) jdk_38_method_24_code (4 : Nat) (Option.none : Option Jvm.ClassFile.FieldType)).before A.a0 A.Z = true   := K.tab _ (mi 309 rfl)
theorem w_310 {A : Ax} (K : Wd A) : (Jvm.Cond.methodLink "java/util/ArrayList" (129 : Nat) ({ cls := "java/util/ArrayList", name := "grow", desc := "()[Ljava/lang/Object;" } : Jvm.MethodName)).before A.a0 A.Z = true   := K.tab _ (mi 310 rfl)
theorem w_311 {A : Ax} (K : Wd A) : (Jvm.Cond.instanceMethod ({ cls := "java/util/ArrayList", name := "grow", desc := "()[Ljava/lang/Object;" } : Jvm.MethodName)).before A.a0 A.Z = true   := K.tab _ (mi 311 rfl)
theorem w_312 {A : Ax} (K : Wd A) : (Jvm.Cond.privateMethod ({ cls := "java/util/ArrayList", name := "grow", desc := "()[Ljava/lang/Object;" } : Jvm.MethodName)).before A.a0 A.Z = true   := K.tab _ (mi 312 rfl)
theorem w_313 {A : Ax} (K : Wd A) : (Jvm.Cond.selects "java/util/ArrayList" ({ cls := "java/util/ArrayList", name := "grow", desc := "()[Ljava/lang/Object;" } : Jvm.MethodName) ({ cls := "java/util/ArrayList", name := "grow", desc := "()[Ljava/lang/Object;" } : Jvm.MethodName)).before A.a0 A.Z = true   := K.tab _ (mi 313 rfl)
theorem w_314 {A : Ax} (K : Wd A) : (Jvm.Cond.code ({ cls := "java/util/ArrayList", name := "grow", desc := "()[Ljava/lang/Object;" } : Jvm.MethodName) jdk_38_method_7_code (1 : Nat) (Option.some (Jvm.ClassFile.FieldType.array (Jvm.ClassFile.FieldType.object "java/lang/Object")))).before A.a0 A.Z = true   := K.tab _ (mi 314 rfl)
theorem w_315 {A : Ax} (K : Wd A) : (Jvm.Cond.methodLink "java/util/ArrayList" (69 : Nat) ({ cls := "java/util/ArrayList", name := "grow", desc := "(I)[Ljava/lang/Object;" } : Jvm.MethodName)).before A.a0 A.Z = true   := K.tab _ (mi 315 rfl)
theorem w_316 {A : Ax} (K : Wd A) : (Jvm.Cond.instanceMethod ({ cls := "java/util/ArrayList", name := "grow", desc := "(I)[Ljava/lang/Object;" } : Jvm.MethodName)).before A.a0 A.Z = true   := K.tab _ (mi 316 rfl)
theorem w_317 {A : Ax} (K : Wd A) : (Jvm.Cond.privateMethod ({ cls := "java/util/ArrayList", name := "grow", desc := "(I)[Ljava/lang/Object;" } : Jvm.MethodName)).before A.a0 A.Z = true   := K.tab _ (mi 317 rfl)
theorem w_318 {A : Ax} (K : Wd A) : (Jvm.Cond.selects "java/util/ArrayList" ({ cls := "java/util/ArrayList", name := "grow", desc := "(I)[Ljava/lang/Object;" } : Jvm.MethodName) ({ cls := "java/util/ArrayList", name := "grow", desc := "(I)[Ljava/lang/Object;" } : Jvm.MethodName)).before A.a0 A.Z = true   := K.tab _ (mi 318 rfl)
theorem w_319 {A : Ax} (K : Wd A) : (Jvm.Cond.code ({ cls := "java/util/ArrayList", name := "grow", desc := "(I)[Ljava/lang/Object;" } : Jvm.MethodName) jdk_38_method_6_code (4 : Nat) (Option.some (Jvm.ClassFile.FieldType.array (Jvm.ClassFile.FieldType.object "java/lang/Object")))).before A.a0 A.Z = true   := K.tab _ (mi 319 rfl)
theorem w_320 {A : Ax} (K : Wd A) : (Jvm.Cond.methodLink "java/util/ArrayList" (79 : Nat) ({ cls := "java/lang/Math", name := "max", desc := "(II)I" } : Jvm.MethodName)).before A.a0 A.Z = true   := K.tab _ (mi 320 rfl)
theorem w_321 {A : Ax} (K : Wd A) : (Jvm.Cond.classLink "java/util/ArrayList" (7 : Nat) "java/lang/Object").before A.a0 A.Z = true   := K.tab _ (mi 321 rfl)
theorem w_322 {A : Ax} (K : Wd A) : (Jvm.Cond.arrayOver (Jvm.ClassFile.FieldType.object "java/lang/Object")).before A.a0 A.Z = true   := K.tab _ (mi 322 rfl)
theorem w_323 {A : Ax} (K : Wd A) : (Jvm.Cond.castable "com/example/attentive_search/attentivesearch/Highlight$Mark" "java/lang/Object").before A.a0 A.Z = true   := K.tab _ (mi 323 rfl)
theorem w_324 {A : Ax} (K : Wd A) : (Jvm.Cond.methodLink "com/example/attentive_search/attentivesearch/Highlight" (52 : Nat) ({ cls := "java/util/Iterator", name := "next", desc := "()Ljava/lang/Object;" } : Jvm.MethodName)).before A.a0 A.Z = true   := K.tab _ (mi 324 rfl)
theorem w_325 {A : Ax} (K : Wd A) : (Jvm.Cond.declares ({ cls := "java/util/Iterator", name := "next", desc := "()Ljava/lang/Object;" } : Jvm.MethodName)).before A.a0 A.Z = true   := K.tab _ (mi 325 rfl)
theorem w_326 {A : Ax} (K : Wd A) : (Jvm.Cond.interfaceMethod "java/util/Iterator" "java/util/Iterator" "next" "()Ljava/lang/Object;").before A.a0 A.Z = true   := K.tab _ (mi 326 rfl)
theorem w_327 {A : Ax} (K : Wd A) : (Jvm.Cond.selects "java/util/ArrayList$Itr" ({ cls := "java/util/Iterator", name := "next", desc := "()Ljava/lang/Object;" } : Jvm.MethodName) ({ cls := "java/util/ArrayList$Itr", name := "next", desc := "()Ljava/lang/Object;" } : Jvm.MethodName)).before A.a0 A.Z = true   := K.tab _ (mi 327 rfl)
theorem w_328 {A : Ax} (K : Wd A) : (Jvm.Cond.instanceMethod ({ cls := "java/util/ArrayList$Itr", name := "next", desc := "()Ljava/lang/Object;" } : Jvm.MethodName)).before A.a0 A.Z = true   := K.tab _ (mi 328 rfl)
theorem w_329 {A : Ax} (K : Wd A) : (Jvm.Cond.publicMethod ({ cls := "java/util/ArrayList$Itr", name := "next", desc := "()Ljava/lang/Object;" } : Jvm.MethodName)).before A.a0 A.Z = true   := K.tab _ (mi 329 rfl)
theorem w_330 {A : Ax} (K : Wd A) : (Jvm.Cond.unhidden "java/util/ArrayList$Itr" "next" "()Ljava/lang/Object;").before A.a0 A.Z = true   := K.tab _ (mi 330 rfl)
theorem w_331 {A : Ax} (K : Wd A) : (Jvm.Cond.code ({ cls := "java/util/ArrayList$Itr", name := "next", desc := "()Ljava/lang/Object;" } : Jvm.MethodName) jdk_49_method_3_code (3 : Nat) (Option.some (Jvm.ClassFile.FieldType.object "java/lang/Object"))).before A.a0 A.Z = true   := K.tab _ (mi 331 rfl)
theorem w_332 {A : Ax} (K : Wd A) : (Jvm.Cond.methodLink "java/util/ArrayList$Itr" (31 : Nat) ({ cls := "java/util/ArrayList$Itr", name := "checkForComodification", desc := "()V" } : Jvm.MethodName)).before A.a0 A.Z = true   := K.tab _ (mi 332 rfl)
theorem w_333 {A : Ax} (K : Wd A) : (Jvm.Cond.declares ({ cls := "java/util/ArrayList$Itr", name := "checkForComodification", desc := "()V" } : Jvm.MethodName)).before A.a0 A.Z = true   := K.tab _ (mi 333 rfl)
theorem w_334 {A : Ax} (K : Wd A) : (Jvm.Cond.instanceMethod ({ cls := "java/util/ArrayList$Itr", name := "checkForComodification", desc := "()V" } : Jvm.MethodName)).before A.a0 A.Z = true   := K.tab _ (mi 334 rfl)
theorem w_335 {A : Ax} (K : Wd A) : (Jvm.Cond.selects "java/util/ArrayList$Itr" ({ cls := "java/util/ArrayList$Itr", name := "checkForComodification", desc := "()V" } : Jvm.MethodName) ({ cls := "java/util/ArrayList$Itr", name := "checkForComodification", desc := "()V" } : Jvm.MethodName)).before A.a0 A.Z = true   := K.tab _ (mi 335 rfl)
theorem w_336 {A : Ax} (K : Wd A) : (Jvm.Cond.code ({ cls := "java/util/ArrayList$Itr", name := "checkForComodification", desc := "()V" } : Jvm.MethodName) jdk_49_method_6_code (1 : Nat) (Option.none : Option Jvm.ClassFile.FieldType)).before A.a0 A.Z = true   := K.tab _ (mi 336 rfl)
theorem w_337 {A : Ax} (K : Wd A) : (Jvm.Cond.fieldLink "java/util/ArrayList$Itr" (37 : Nat) "java/util/ArrayList" "elementData" "[Ljava/lang/Object;").before A.a0 A.Z = true   := K.tab _ (mi 337 rfl)
theorem w_338 {A : Ax} (K : Wd A) : (Jvm.Cond.classLink "com/example/attentive_search/attentivesearch/Highlight" (56 : Nat) "com/example/attentive_search/attentivesearch/Highlight$Mark").before A.a0 A.Z = true   := K.tab _ (mi 338 rfl)
theorem w_340 {A : Ax} (K : Wd A) : (Jvm.Cond.methodLink "com/example/attentive_search/attentivesearch/Highlight" (58 : Nat) ({ cls := "com/example/attentive_search/attentivesearch/Highlight$Mark", name := "start", desc := "()I" } : Jvm.MethodName)).before A.a0 A.Z = true   := K.tab _ (mi 340 rfl)
theorem w_341 {A : Ax} (K : Wd A) : (Jvm.Cond.declares ({ cls := "com/example/attentive_search/attentivesearch/Highlight$Mark", name := "start", desc := "()I" } : Jvm.MethodName)).before A.a0 A.Z = true   := K.tab _ (mi 341 rfl)
theorem w_342 {A : Ax} (K : Wd A) : (Jvm.Cond.instanceMethod ({ cls := "com/example/attentive_search/attentivesearch/Highlight$Mark", name := "start", desc := "()I" } : Jvm.MethodName)).before A.a0 A.Z = true   := K.tab _ (mi 342 rfl)
theorem w_343 {A : Ax} (K : Wd A) : (Jvm.Cond.selects "com/example/attentive_search/attentivesearch/Highlight$Mark" ({ cls := "com/example/attentive_search/attentivesearch/Highlight$Mark", name := "start", desc := "()I" } : Jvm.MethodName) ({ cls := "com/example/attentive_search/attentivesearch/Highlight$Mark", name := "start", desc := "()I" } : Jvm.MethodName)).before A.a0 A.Z = true   := K.tab _ (mi 343 rfl)
theorem w_344 {A : Ax} (K : Wd A) : (Jvm.Cond.code ({ cls := "com/example/attentive_search/attentivesearch/Highlight$Mark", name := "start", desc := "()I" } : Jvm.MethodName) prog_7_method_5_code (1 : Nat) (Option.some Jvm.ClassFile.FieldType.int)).before A.a0 A.Z = true   := K.tab _ (mi 344 rfl)
theorem w_345 {A : Ax} (K : Wd A) : (Jvm.Cond.methodLink "com/example/attentive_search/attentivesearch/Highlight" (119 : Nat) ({ cls := "java/lang/StringBuilder", name := "append", desc := "(C)Ljava/lang/StringBuilder;" } : Jvm.MethodName)).before A.a0 A.Z = true   := K.tab _ (mi 345 rfl)
theorem w_346 {A : Ax} (K : Wd A) : (Jvm.Cond.declares ({ cls := "java/lang/StringBuilder", name := "append", desc := "(C)Ljava/lang/StringBuilder;" } : Jvm.MethodName)).before A.a0 A.Z = true   := K.tab _ (mi 346 rfl)
theorem w_347 {A : Ax} (K : Wd A) : (Jvm.Cond.instanceMethod ({ cls := "java/lang/StringBuilder", name := "append", desc := "(C)Ljava/lang/StringBuilder;" } : Jvm.MethodName)).before A.a0 A.Z = true   := K.tab _ (mi 347 rfl)
theorem w_348 {A : Ax} (K : Wd A) : (Jvm.Cond.selects "java/lang/StringBuilder" ({ cls := "java/lang/StringBuilder", name := "append", desc := "(C)Ljava/lang/StringBuilder;" } : Jvm.MethodName) ({ cls := "java/lang/StringBuilder", name := "append", desc := "(C)Ljava/lang/StringBuilder;" } : Jvm.MethodName)).before A.a0 A.Z = true   := K.tab _ (mi 348 rfl)
theorem w_349 {A : Ax} (K : Wd A) : (Jvm.Cond.code ({ cls := "java/lang/StringBuilder", name := "append", desc := "(C)Ljava/lang/StringBuilder;" } : Jvm.MethodName) jdk_67_method_14_code (2 : Nat) (Option.some (Jvm.ClassFile.FieldType.object "java/lang/StringBuilder"))).before A.a0 A.Z = true   := K.tab _ (mi 349 rfl)
theorem w_350 {A : Ax} (K : Wd A) : (Jvm.Cond.methodLink "java/lang/StringBuilder" (50 : Nat) ({ cls := "java/lang/AbstractStringBuilder", name := "append", desc := "(C)Ljava/lang/AbstractStringBuilder;" } : Jvm.MethodName)).before A.a0 A.Z = true   := K.tab _ (mi 350 rfl)
theorem w_351 {A : Ax} (K : Wd A) : (Jvm.Cond.instanceMethod ({ cls := "java/lang/AbstractStringBuilder", name := "append", desc := "(C)Ljava/lang/AbstractStringBuilder;" } : Jvm.MethodName)).before A.a0 A.Z = true   := K.tab _ (mi 351 rfl)
theorem w_353 {A : Ax} (K : Wd A) : (Jvm.Cond.code ({ cls := "java/lang/AbstractStringBuilder", name := "append", desc := "(C)Ljava/lang/AbstractStringBuilder;" } : Jvm.MethodName) jdk_68_method_31_code (2 : Nat) (Option.some (Jvm.ClassFile.FieldType.object "java/lang/AbstractStringBuilder"))).before A.a0 A.Z = true   := K.tab _ (mi 353 rfl)
theorem w_354 {A : Ax} (K : Wd A) : (Jvm.Cond.methodLink "java/lang/AbstractStringBuilder" (83 : Nat) ({ cls := "java/lang/AbstractStringBuilder", name := "isLatin1", desc := "()Z" } : Jvm.MethodName)).before A.a0 A.Z = true   := K.tab _ (mi 354 rfl)
theorem w_355 {A : Ax} (K : Wd A) : (Jvm.Cond.methodLink "java/lang/AbstractStringBuilder" (191 : Nat) ({ cls := "java/lang/StringLatin1", name := "canEncode", desc := "(C)Z" } : Jvm.MethodName)).before A.a0 A.Z = true   := K.tab _ (mi 355 rfl)
theorem w_356 {A : Ax} (K : Wd A) : (Jvm.Cond.static ({ cls := "java/lang/StringLatin1", name := "canEncode", desc := "(C)Z" } : Jvm.MethodName)).before A.a0 A.Z = true   := K.tab _ (mi 356 rfl)
theorem w_357 {A : Ax} (K : Wd A) : (Jvm.Cond.code ({ cls := "java/lang/StringLatin1", name := "canEncode", desc := "(C)Z" } : Jvm.MethodName) jdk_43_method_3_code (1 : Nat) (Option.some Jvm.ClassFile.FieldType.boolean)).before A.a0 A.Z = true   := K.tab _ (mi 357 rfl)
theorem w_358 {A : Ax} (K : Wd A) : (Jvm.Cond.stringLink "com/example/attentive_search/attentivesearch/Highlight" (93 : Nat) "<b>").before A.a0 A.Z = true   := K.tab _ (mi 358 rfl)
theorem w_359 {A : Ax} (K : Wd A) : (Jvm.Cond.methodLink "com/example/attentive_search/attentivesearch/Highlight" (62 : Nat) ({ cls := "com/example/attentive_search/attentivesearch/Highlight$Mark", name := "end", desc := "()I" } : Jvm.MethodName)).before A.a0 A.Z = true   := K.tab _ (mi 359 rfl)
theorem w_360 {A : Ax} (K : Wd A) : (Jvm.Cond.declares ({ cls := "com/example/attentive_search/attentivesearch/Highlight$Mark", name := "end", desc := "()I" } : Jvm.MethodName)).before A.a0 A.Z = true   := K.tab _ (mi 360 rfl)
theorem w_361 {A : Ax} (K : Wd A) : (Jvm.Cond.instanceMethod ({ cls := "com/example/attentive_search/attentivesearch/Highlight$Mark", name := "end", desc := "()I" } : Jvm.MethodName)).before A.a0 A.Z = true   := K.tab _ (mi 361 rfl)
theorem w_362 {A : Ax} (K : Wd A) : (Jvm.Cond.selects "com/example/attentive_search/attentivesearch/Highlight$Mark" ({ cls := "com/example/attentive_search/attentivesearch/Highlight$Mark", name := "end", desc := "()I" } : Jvm.MethodName) ({ cls := "com/example/attentive_search/attentivesearch/Highlight$Mark", name := "end", desc := "()I" } : Jvm.MethodName)).before A.a0 A.Z = true   := K.tab _ (mi 362 rfl)
theorem w_363 {A : Ax} (K : Wd A) : (Jvm.Cond.code ({ cls := "com/example/attentive_search/attentivesearch/Highlight$Mark", name := "end", desc := "()I" } : Jvm.MethodName) prog_7_method_6_code (1 : Nat) (Option.some Jvm.ClassFile.FieldType.int)).before A.a0 A.Z = true   := K.tab _ (mi 363 rfl)
theorem w_364 {A : Ax} (K : Wd A) : (Jvm.Cond.stringLink "com/example/attentive_search/attentivesearch/Highlight" (99 : Nat) "</b>").before A.a0 A.Z = true   := K.tab _ (mi 364 rfl)
theorem w_365 {A : Ax} (K : Wd A) : (Jvm.Cond.methodLink "com/example/attentive_search/attentivesearch/HighlightHtmlPinLaw" (57 : Nat) ({ cls := "java/lang/String", name := "valueOf", desc := "(C)Ljava/lang/String;" } : Jvm.MethodName)).before A.a0 A.Z = true   := K.tab _ (mi 365 rfl)
theorem w_366 {A : Ax} (K : Wd A) : (Jvm.Cond.static ({ cls := "java/lang/String", name := "valueOf", desc := "(C)Ljava/lang/String;" } : Jvm.MethodName)).before A.a0 A.Z = true   := K.tab _ (mi 366 rfl)
theorem w_367 {A : Ax} (K : Wd A) : (Jvm.Cond.code ({ cls := "java/lang/String", name := "valueOf", desc := "(C)Ljava/lang/String;" } : Jvm.MethodName) jdk_42_method_139_code (1 : Nat) (Option.some (Jvm.ClassFile.FieldType.object "java/lang/String"))).before A.a0 A.Z = true   := K.tab _ (mi 367 rfl)
theorem w_368 {A : Ax} (K : Wd A) : (Jvm.Cond.methodLink "java/lang/String" (1015 : Nat) ({ cls := "java/lang/StringLatin1", name := "canEncode", desc := "(C)Z" } : Jvm.MethodName)).before A.a0 A.Z = true   := K.tab _ (mi 368 rfl)
theorem w_369 {A : Ax} (K : Wd A) : (Jvm.Cond.classLink "java/lang/String" (10 : Nat) "java/lang/String").before A.a0 A.Z = true   := K.tab _ (mi 369 rfl)
theorem w_370 {A : Ax} (K : Wd A) : (Jvm.Cond.methodLink "java/lang/String" (1018 : Nat) ({ cls := "java/lang/StringLatin1", name := "toBytes", desc := "(C)[B" } : Jvm.MethodName)).before A.a0 A.Z = true   := K.tab _ (mi 370 rfl)
theorem w_371 {A : Ax} (K : Wd A) : (Jvm.Cond.static ({ cls := "java/lang/StringLatin1", name := "toBytes", desc := "(C)[B" } : Jvm.MethodName)).before A.a0 A.Z = true   := K.tab _ (mi 371 rfl)
theorem w_372 {A : Ax} (K : Wd A) : (Jvm.Cond.code ({ cls := "java/lang/StringLatin1", name := "toBytes", desc := "(C)[B" } : Jvm.MethodName) jdk_43_method_46_code (1 : Nat) (Option.some (Jvm.ClassFile.FieldType.array Jvm.ClassFile.FieldType.byte))).before A.a0 A.Z = true   := K.tab _ (mi 372 rfl)
theorem w_373 {A : Ax} (K : Wd A) : (Jvm.Cond.methodLink "java/lang/String" (209 : Nat) ({ cls := "java/lang/String", name := "<init>", desc := "([BB)V" } : Jvm.MethodName)).before A.a0 A.Z = true   := K.tab _ (mi 373 rfl)
theorem w_374 {A : Ax} (K : Wd A) : (Jvm.Cond.instanceMethod ({ cls := "java/lang/String", name := "<init>", desc := "([BB)V" } : Jvm.MethodName)).before A.a0 A.Z = true   := K.tab _ (mi 374 rfl)
theorem w_375 {A : Ax} (K : Wd A) : (Jvm.Cond.code ({ cls := "java/lang/String", name := "<init>", desc := "([BB)V" } : Jvm.MethodName) jdk_42_method_151_code (3 : Nat) (Option.none : Option Jvm.ClassFile.FieldType)).before A.a0 A.Z = true   := K.tab _ (mi 375 rfl)
theorem w_376 {A : Ax} (K : Wd A) : (Jvm.Cond.stringLink "com/example/attentive_search/attentivesearch/HighlightHtmlPinLaw" (67 : Nat) "<b>").before A.a0 A.Z = true   := K.tab _ (mi 376 rfl)
theorem w_377 {A : Ax} (K : Wd A) : (Jvm.Cond.stringLink "com/example/attentive_search/attentivesearch/HighlightHtmlPinLaw" (61 : Nat) "</b>").before A.a0 A.Z = true   := K.tab _ (mi 377 rfl)
theorem w_378 {A : Ax} (K : Wd A) : (Jvm.Cond.methodLink "java/lang/StringUTF16" (119 : Nat) ({ cls := "java/lang/StringUTF16", name := "toBytes", desc := "([CII)[B" } : Jvm.MethodName)).before A.a0 A.Z = true   := K.tab _ (mi 378 rfl)
theorem w_379 {A : Ax} (K : Wd A) : (Jvm.Cond.static ({ cls := "java/lang/StringUTF16", name := "toBytes", desc := "([CII)[B" } : Jvm.MethodName)).before A.a0 A.Z = true   := K.tab _ (mi 379 rfl)
theorem w_380 {A : Ax} (K : Wd A) : (Jvm.Cond.code ({ cls := "java/lang/StringUTF16", name := "toBytes", desc := "([CII)[B" } : Jvm.MethodName) jdk_52_method_14_code (5 : Nat) (Option.some (Jvm.ClassFile.FieldType.array Jvm.ClassFile.FieldType.byte))).before A.a0 A.Z = true   := K.tab _ (mi 380 rfl)
theorem w_381 {A : Ax} (K : Wd A) : (Jvm.Cond.methodLink "java/lang/StringUTF16" (107 : Nat) ({ cls := "java/lang/StringUTF16", name := "newBytesFor", desc := "(I)[B" } : Jvm.MethodName)).before A.a0 A.Z = true   := K.tab _ (mi 381 rfl)
theorem w_382 {A : Ax} (K : Wd A) : (Jvm.Cond.static ({ cls := "java/lang/StringUTF16", name := "newBytesFor", desc := "(I)[B" } : Jvm.MethodName)).before A.a0 A.Z = true   := K.tab _ (mi 382 rfl)
theorem w_383 {A : Ax} (K : Wd A) : (Jvm.Cond.code ({ cls := "java/lang/StringUTF16", name := "newBytesFor", desc := "(I)[B" } : Jvm.MethodName) jdk_52_method_2_code (1 : Nat) (Option.some (Jvm.ClassFile.FieldType.array Jvm.ClassFile.FieldType.byte))).before A.a0 A.Z = true   := K.tab _ (mi 383 rfl)
theorem w_384 {A : Ax} (K : Wd A) : (Jvm.Cond.methodLink "java/lang/StringUTF16" (11 : Nat) ({ cls := "java/lang/StringUTF16", name := "newBytesLength", desc := "(I)I" } : Jvm.MethodName)).before A.a0 A.Z = true   := K.tab _ (mi 384 rfl)
theorem w_385 {A : Ax} (K : Wd A) : (Jvm.Cond.static ({ cls := "java/lang/StringUTF16", name := "newBytesLength", desc := "(I)I" } : Jvm.MethodName)).before A.a0 A.Z = true   := K.tab _ (mi 385 rfl)
theorem w_386 {A : Ax} (K : Wd A) : (Jvm.Cond.code ({ cls := "java/lang/StringUTF16", name := "newBytesLength", desc := "(I)I" } : Jvm.MethodName) jdk_52_method_3_code (1 : Nat) (Option.some Jvm.ClassFile.FieldType.int)).before A.a0 A.Z = true   := K.tab _ (mi 386 rfl)
theorem w_387 {A : Ax} (K : Wd A) : (Jvm.Cond.constant "java/lang/StringUTF16" (20 : Nat) (1073741823 : Int32)).before A.a0 A.Z = true   := K.tab _ (mi 387 rfl)
theorem w_388 {A : Ax} (K : Wd A) : (Jvm.Cond.methodLink "java/lang/StringUTF16" (111 : Nat) ({ cls := "java/lang/StringUTF16", name := "putChar", desc := "([BII)V" } : Jvm.MethodName)).before A.a0 A.Z = true   := K.tab _ (mi 388 rfl)
theorem w_389 {A : Ax} (K : Wd A) : (Jvm.Cond.static ({ cls := "java/lang/StringUTF16", name := "putChar", desc := "([BII)V" } : Jvm.MethodName)).before A.a0 A.Z = true   := K.tab _ (mi 389 rfl)
theorem w_390 {A : Ax} (K : Wd A) : (Jvm.Cond.code ({ cls := "java/lang/StringUTF16", name := "putChar", desc := "([BII)V" } : Jvm.MethodName) jdk_52_method_4_code (3 : Nat) (Option.none : Option Jvm.ClassFile.FieldType)).before A.a0 A.Z = true   := K.tab _ (mi 390 rfl)
theorem w_391 {A : Ax} (K : Wd A) : (Jvm.Cond.fieldLink "java/lang/StringUTF16" (44 : Nat) "java/lang/StringUTF16" "$assertionsDisabled" "Z").before A.a0 A.Z = true   := K.tab _ (mi 391 rfl)
theorem w_392 {A : Ax} (K : Wd A) : (Jvm.Cond.fieldLink "java/lang/StringUTF16" (59 : Nat) "java/lang/StringUTF16" "HI_BYTE_SHIFT" "I").before A.a0 A.Z = true   := K.tab _ (mi 392 rfl)
theorem w_393 {A : Ax} (K : Wd A) : (Jvm.Cond.fieldLink "java/lang/StringUTF16" (63 : Nat) "java/lang/StringUTF16" "LO_BYTE_SHIFT" "I").before A.a0 A.Z = true   := K.tab _ (mi 393 rfl)
theorem w_394 {A : Ax} (K : Wd A) : (Jvm.Cond.methodLink "java/lang/StringUTF16" (71 : Nat) ({ cls := "java/lang/StringUTF16", name := "getChar", desc := "([BI)C" } : Jvm.MethodName)).before A.a0 A.Z = true   := K.tab _ (mi 394 rfl)
theorem w_395 {A : Ax} (K : Wd A) : (Jvm.Cond.static ({ cls := "java/lang/StringUTF16", name := "getChar", desc := "([BI)C" } : Jvm.MethodName)).before A.a0 A.Z = true   := K.tab _ (mi 395 rfl)
theorem w_396 {A : Ax} (K : Wd A) : (Jvm.Cond.code ({ cls := "java/lang/StringUTF16", name := "getChar", desc := "([BI)C" } : Jvm.MethodName) jdk_52_method_5_code (2 : Nat) (Option.some Jvm.ClassFile.FieldType.char)).before A.a0 A.Z = true   := K.tab _ (mi 396 rfl)
theorem w_397 {A : Ax} (K : Wd A) : (Jvm.Cond.methodLink "java/lang/String" (498 : Nat) ({ cls := "java/lang/StringUTF16", name := "charAt", desc := "([BI)C" } : Jvm.MethodName)).before A.a0 A.Z = true   := K.tab _ (mi 397 rfl)
theorem w_398 {A : Ax} (K : Wd A) : (Jvm.Cond.static ({ cls := "java/lang/StringUTF16", name := "charAt", desc := "([BI)C" } : Jvm.MethodName)).before A.a0 A.Z = true   := K.tab _ (mi 398 rfl)
theorem w_399 {A : Ax} (K : Wd A) : (Jvm.Cond.code ({ cls := "java/lang/StringUTF16", name := "charAt", desc := "([BI)C" } : Jvm.MethodName) jdk_52_method_83_code (2 : Nat) (Option.some Jvm.ClassFile.FieldType.char)).before A.a0 A.Z = true   := K.tab _ (mi 399 rfl)
theorem w_400 {A : Ax} (K : Wd A) : (Jvm.Cond.methodLink "java/lang/StringUTF16" (67 : Nat) ({ cls := "java/lang/StringUTF16", name := "checkIndex", desc := "(I[B)V" } : Jvm.MethodName)).before A.a0 A.Z = true   := K.tab _ (mi 400 rfl)
theorem w_401 {A : Ax} (K : Wd A) : (Jvm.Cond.static ({ cls := "java/lang/StringUTF16", name := "checkIndex", desc := "(I[B)V" } : Jvm.MethodName)).before A.a0 A.Z = true   := K.tab _ (mi 401 rfl)
theorem w_402 {A : Ax} (K : Wd A) : (Jvm.Cond.code ({ cls := "java/lang/StringUTF16", name := "checkIndex", desc := "(I[B)V" } : Jvm.MethodName) jdk_52_method_91_code (2 : Nat) (Option.none : Option Jvm.ClassFile.FieldType)).before A.a0 A.Z = true   := K.tab _ (mi 402 rfl)
theorem w_403 {A : Ax} (K : Wd A) : (Jvm.Cond.methodLink "java/lang/StringUTF16" (48 : Nat) ({ cls := "java/lang/StringUTF16", name := "length", desc := "([B)I" } : Jvm.MethodName)).before A.a0 A.Z = true   := K.tab _ (mi 403 rfl)
theorem w_404 {A : Ax} (K : Wd A) : (Jvm.Cond.static ({ cls := "java/lang/StringUTF16", name := "length", desc := "([B)I" } : Jvm.MethodName)).before A.a0 A.Z = true   := K.tab _ (mi 404 rfl)
theorem w_405 {A : Ax} (K : Wd A) : (Jvm.Cond.code ({ cls := "java/lang/StringUTF16", name := "length", desc := "([B)I" } : Jvm.MethodName) jdk_52_method_6_code (1 : Nat) (Option.some Jvm.ClassFile.FieldType.int)).before A.a0 A.Z = true   := K.tab _ (mi 405 rfl)
theorem w_406 {A : Ax} (K : Wd A) : (Jvm.Cond.methodLink "java/lang/StringUTF16" (414 : Nat) ({ cls := "java/lang/String", name := "checkIndex", desc := "(II)V" } : Jvm.MethodName)).before A.a0 A.Z = true   := K.tab _ (mi 406 rfl)
theorem w_407 {A : Ax} (K : Wd A) : (Jvm.Cond.methodLink "java/lang/AbstractStringBuilder" (195 : Nat) ({ cls := "java/lang/AbstractStringBuilder", name := "inflate", desc := "()V" } : Jvm.MethodName)).before A.a0 A.Z = true   := K.tab _ (mi 407 rfl)
theorem w_408 {A : Ax} (K : Wd A) : (Jvm.Cond.instanceMethod ({ cls := "java/lang/AbstractStringBuilder", name := "inflate", desc := "()V" } : Jvm.MethodName)).before A.a0 A.Z = true   := K.tab _ (mi 408 rfl)
theorem w_409 {A : Ax} (K : Wd A) : (Jvm.Cond.privateMethod ({ cls := "java/lang/AbstractStringBuilder", name := "inflate", desc := "()V" } : Jvm.MethodName)).before A.a0 A.Z = true   := K.tab _ (mi 409 rfl)
theorem w_410 {A : Ax} (K : Wd A) : (Jvm.Cond.selects "java/lang/StringBuilder" ({ cls := "java/lang/AbstractStringBuilder", name := "inflate", desc := "()V" } : Jvm.MethodName) ({ cls := "java/lang/AbstractStringBuilder", name := "inflate", desc := "()V" } : Jvm.MethodName)).before A.a0 A.Z = true   := K.tab _ (mi 410 rfl)
theorem w_411 {A : Ax} (K : Wd A) : (Jvm.Cond.code ({ cls := "java/lang/AbstractStringBuilder", name := "inflate", desc := "()V" } : Jvm.MethodName) jdk_68_method_11_code (2 : Nat) (Option.none : Option Jvm.ClassFile.FieldType)).before A.a0 A.Z = true   := K.tab _ (mi 411 rfl)
theorem w_412 {A : Ax} (K : Wd A) : (Jvm.Cond.methodLink "java/lang/AbstractStringBuilder" (26 : Nat) ({ cls := "java/lang/StringUTF16", name := "newBytesFor", desc := "(I)[B" } : Jvm.MethodName)).before A.a0 A.Z = true   := K.tab _ (mi 412 rfl)
theorem w_413 {A : Ax} (K : Wd A) : (Jvm.Cond.methodLink "java/lang/AbstractStringBuilder" (125 : Nat) ({ cls := "java/lang/StringLatin1", name := "inflate", desc := "([BI[BII)V" } : Jvm.MethodName)).before A.a0 A.Z = true   := K.tab _ (mi 413 rfl)
theorem w_414 {A : Ax} (K : Wd A) : (Jvm.Cond.static ({ cls := "java/lang/StringLatin1", name := "inflate", desc := "([BI[BII)V" } : Jvm.MethodName)).before A.a0 A.Z = true   := K.tab _ (mi 414 rfl)
theorem w_415 {A : Ax} (K : Wd A) : (Jvm.Cond.code ({ cls := "java/lang/StringLatin1", name := "inflate", desc := "([BI[BII)V" } : Jvm.MethodName) jdk_43_method_50_code (5 : Nat) (Option.none : Option Jvm.ClassFile.FieldType)).before A.a0 A.Z = true   := K.tab _ (mi 415 rfl)
theorem w_416 {A : Ax} (K : Wd A) : (Jvm.Cond.methodLink "java/lang/StringLatin1" (240 : Nat) ({ cls := "java/lang/StringUTF16", name := "inflate", desc := "([BI[BII)V" } : Jvm.MethodName)).before A.a0 A.Z = true   := K.tab _ (mi 416 rfl)
theorem w_417 {A : Ax} (K : Wd A) : (Jvm.Cond.static ({ cls := "java/lang/StringUTF16", name := "inflate", desc := "([BI[BII)V" } : Jvm.MethodName)).before A.a0 A.Z = true   := K.tab _ (mi 417 rfl)
theorem w_418 {A : Ax} (K : Wd A) : (Jvm.Cond.code ({ cls := "java/lang/StringUTF16", name := "inflate", desc := "([BI[BII)V" } : Jvm.MethodName) jdk_52_method_86_code (6 : Nat) (Option.none : Option Jvm.ClassFile.FieldType)).before A.a0 A.Z = true   := K.tab _ (mi 418 rfl)
theorem w_419 {A : Ax} (K : Wd A) : (Jvm.Cond.methodLink "java/lang/StringUTF16" (173 : Nat) ({ cls := "java/lang/StringUTF16", name := "checkBoundsOffCount", desc := "(II[B)V" } : Jvm.MethodName)).before A.a0 A.Z = true   := K.tab _ (mi 419 rfl)
theorem w_420 {A : Ax} (K : Wd A) : (Jvm.Cond.static ({ cls := "java/lang/StringUTF16", name := "checkBoundsOffCount", desc := "(II[B)V" } : Jvm.MethodName)).before A.a0 A.Z = true   := K.tab _ (mi 420 rfl)
theorem w_421 {A : Ax} (K : Wd A) : (Jvm.Cond.code ({ cls := "java/lang/StringUTF16", name := "checkBoundsOffCount", desc := "(II[B)V" } : Jvm.MethodName) jdk_52_method_94_code (3 : Nat) (Option.none : Option Jvm.ClassFile.FieldType)).before A.a0 A.Z = true   := K.tab _ (mi 421 rfl)
theorem w_422 {A : Ax} (K : Wd A) : (Jvm.Cond.methodLink "java/lang/StringUTF16" (419 : Nat) ({ cls := "java/lang/String", name := "checkBoundsOffCount", desc := "(III)I" } : Jvm.MethodName)).before A.a0 A.Z = true   := K.tab _ (mi 422 rfl)
theorem w_423 {A : Ax} (K : Wd A) : (Jvm.Cond.static ({ cls := "java/lang/String", name := "checkBoundsOffCount", desc := "(III)I" } : Jvm.MethodName)).before A.a0 A.Z = true   := K.tab _ (mi 423 rfl)
theorem w_424 {A : Ax} (K : Wd A) : (Jvm.Cond.code ({ cls := "java/lang/String", name := "checkBoundsOffCount", desc := "(III)I" } : Jvm.MethodName) jdk_42_method_157_code (3 : Nat) (Option.some Jvm.ClassFile.FieldType.int)).before A.a0 A.Z = true   := K.tab _ (mi 424 rfl)
theorem w_425 {A : Ax} (K : Wd A) : (Jvm.Cond.methodLink "java/lang/String" (1065 : Nat) ({ cls := "jdk/internal/util/Preconditions", name := "checkFromIndexSize", desc := "(IIILjava/util/function/BiFunction;)I" } : Jvm.MethodName)).before A.a0 A.Z = true   := K.tab _ (mi 425 rfl)
theorem w_426 {A : Ax} (K : Wd A) : (Jvm.Cond.static ({ cls := "jdk/internal/util/Preconditions", name := "checkFromIndexSize", desc := "(IIILjava/util/function/BiFunction;)I" } : Jvm.MethodName)).before A.a0 A.Z = true   := K.tab _ (mi 426 rfl)
theorem w_427 {A : Ax} (K : Wd A) : (Jvm.Cond.code ({ cls := "jdk/internal/util/Preconditions", name := "checkFromIndexSize", desc := "(IIILjava/util/function/BiFunction;)I" } : Jvm.MethodName) jdk_41_method_13_code (4 : Nat) (Option.some Jvm.ClassFile.FieldType.int)).before A.a0 A.Z = true   := K.tab _ (mi 427 rfl)
theorem w_428 {A : Ax} (K : Wd A) : (Jvm.Cond.methodLink "java/lang/AbstractStringBuilder" (197 : Nat) ({ cls := "java/lang/StringUTF16", name := "putCharSB", desc := "([BII)V" } : Jvm.MethodName)).before A.a0 A.Z = true   := K.tab _ (mi 428 rfl)
theorem w_429 {A : Ax} (K : Wd A) : (Jvm.Cond.static ({ cls := "java/lang/StringUTF16", name := "putCharSB", desc := "([BII)V" } : Jvm.MethodName)).before A.a0 A.Z = true   := K.tab _ (mi 429 rfl)
theorem w_430 {A : Ax} (K : Wd A) : (Jvm.Cond.code ({ cls := "java/lang/StringUTF16", name := "putCharSB", desc := "([BII)V" } : Jvm.MethodName) jdk_52_method_71_code (3 : Nat) (Option.none : Option Jvm.ClassFile.FieldType)).before A.a0 A.Z = true   := K.tab _ (mi 430 rfl)
theorem w_431 {A : Ax} (K : Wd A) : (Jvm.Cond.methodLink "java/lang/String" (106 : Nat) ({ cls := "java/lang/StringLatin1", name := "inflate", desc := "([BI[BII)V" } : Jvm.MethodName)).before A.a0 A.Z = true   := K.tab _ (mi 431 rfl)
theorem w_432 {A : Ax} (K : Wd A) : (Jvm.Cond.fieldLink "java/lang/String" (1048 : Nat) "java/lang/AbstractStringBuilder" "maybeLatin1" "Z").before A.a0 A.Z = true   := K.tab _ (mi 432 rfl)
theorem w_433 {A : Ax} (K : Wd A) : (Jvm.Cond.lays "java/lang/StringBuilder" "java/lang/AbstractStringBuilder" "maybeLatin1" "Z").before A.a0 A.Z = true   := K.tab _ (mi 433 rfl)
theorem w_434 {A : Ax} (K : Wd A) : (Jvm.Cond.methodLink "java/lang/String" (1021 : Nat) ({ cls := "java/lang/StringUTF16", name := "toBytes", desc := "(C)[B" } : Jvm.MethodName)).before A.a0 A.Z = true   := K.tab _ (mi 434 rfl)
theorem w_435 {A : Ax} (K : Wd A) : (Jvm.Cond.static ({ cls := "java/lang/StringUTF16", name := "toBytes", desc := "(C)[B" } : Jvm.MethodName)).before A.a0 A.Z = true   := K.tab _ (mi 435 rfl)
theorem w_436 {A : Ax} (K : Wd A) : (Jvm.Cond.code ({ cls := "java/lang/StringUTF16", name := "toBytes", desc := "(C)[B" } : Jvm.MethodName) jdk_52_method_24_code (2 : Nat) (Option.some (Jvm.ClassFile.FieldType.array Jvm.ClassFile.FieldType.byte))).before A.a0 A.Z = true   := K.tab _ (mi 436 rfl)
theorem w_437 {A : Ax} (K : Wd A) : (Jvm.Cond.stringLink "java/lang/String" (7 : Nat) "").before A.a0 A.Z = true   := K.tab _ (mi 437 rfl)
theorem w_438 {A : Ax} (K : Wd A) : (Jvm.Cond.methodLink "java/util/Arrays" (310 : Nat) ({ cls := "[B", name := "clone", desc := "()Ljava/lang/Object;" } : Jvm.MethodName)).before A.a0 A.Z = true   := K.tab _ (mi 438 rfl)
theorem w_439 {A : Ax} (K : Wd A) : (Jvm.Cond.sameMethod "[B" "java/lang/Object" "clone" "()Ljava/lang/Object;").before A.a0 A.Z = true   := K.tab _ (mi 439 rfl)
theorem w_441 {A : Ax} (K : Wd A) : (Jvm.Cond.instanceMethod ({ cls := "java/lang/Object", name := "clone", desc := "()Ljava/lang/Object;" } : Jvm.MethodName)).before A.a0 A.Z = true   := K.tab _ (mi 441 rfl)
theorem w_442 {A : Ax} (K : Wd A) : (Jvm.Cond.selects "[B" ({ cls := "[B", name := "clone", desc := "()Ljava/lang/Object;" } : Jvm.MethodName) ({ cls := "java/lang/Object", name := "clone", desc := "()Ljava/lang/Object;" } : Jvm.MethodName)).before A.a0 A.Z = true   := K.tab _ (mi 442 rfl)
theorem w_443 {A : Ax} (K : Wd A) : (Jvm.Cond.native ({ cls := "java/lang/Object", name := "clone", desc := "()Ljava/lang/Object;" } : Jvm.MethodName)).before A.a0 A.Z = true   := K.tab _ (mi 443 rfl)
theorem w_444 {A : Ax} (K : Wd A) : (Jvm.Cond.castable "[B" "java/lang/Cloneable").before A.a0 A.Z = true   := K.tab _ (mi 444 rfl)
theorem w_445 {A : Ax} (K : Wd A) : (Jvm.Cond.classLink "java/util/Arrays" (311 : Nat) "[B").before A.a0 A.Z = true   := K.tab _ (mi 445 rfl)
theorem w_446 {A : Ax} (K : Wd A) : (Jvm.Cond.castable "[B" "[B").before A.a0 A.Z = true   := K.tab _ (mi 446 rfl)
theorem w_447 {A : Ax} (K : Wd A) : (Jvm.Cond.stringLink "com/example/attentive_search/attentivesearch/Highlight" (113 : Nat) "&gt;").before A.a0 A.Z = true   := K.tab _ (mi 447 rfl)
theorem w_448 {A : Ax} (K : Wd A) : (Jvm.Cond.stringLink "com/example/attentive_search/attentivesearch/HighlightHtmlPinLaw" (51 : Nat) "&gt;").before A.a0 A.Z = true   := K.tab _ (mi 448 rfl)
theorem w_449 {A : Ax} (K : Wd A) : (Jvm.Cond.stringLink "com/example/attentive_search/attentivesearch/Highlight" (117 : Nat) "&#39;").before A.a0 A.Z = true   := K.tab _ (mi 449 rfl)
theorem w_450 {A : Ax} (K : Wd A) : (Jvm.Cond.stringLink "com/example/attentive_search/attentivesearch/HighlightHtmlPinLaw" (55 : Nat) "&#39;").before A.a0 A.Z = true   := K.tab _ (mi 450 rfl)
theorem w_451 {A : Ax} (K : Wd A) : (Jvm.Cond.stringLink "com/example/attentive_search/attentivesearch/Highlight" (111 : Nat) "&lt;").before A.a0 A.Z = true   := K.tab _ (mi 451 rfl)
theorem w_452 {A : Ax} (K : Wd A) : (Jvm.Cond.stringLink "com/example/attentive_search/attentivesearch/HighlightHtmlPinLaw" (49 : Nat) "&lt;").before A.a0 A.Z = true   := K.tab _ (mi 452 rfl)
theorem strAtoms {A : Ax} (K : Wd A) : ∀ a ∈ Bundle.stringAtoms, a.before A.a0 A.Z = true := fun a h => by
  simp only [Bundle.stringAtoms, Bundle.sN, List.mem_cons, List.not_mem_nil, or_false] at h
  rcases h with rfl | rfl | rfl | rfl | rfl | rfl | rfl
  · exact (w_8 K)
  · exact (w_7 K)
  · exact (w_24 K)
  · exact (w_34 K)
  · exact (w_32 K)
  · exact (w_89 K)
  · exact (w_90 K)
def tb_cdr : List In1 := [(0, .getstatic 38, 3), (3, .ifCond .eq 10, 3), (6, .aload_n 0, 1), (7, .getfield 15, 3), (10, .goto 4, 3), (13, .iconst 1, 1), (14, .ireturn, 1)]
set_option maxRecDepth 65536 in
theorem td_cdr : Dec jdk_42_method_152_code tb_cdr := by unfold Dec; decide +kernel
theorem pd_cdr : parseMethodDescriptor "()B" = some ⟨[], (some .byte)⟩ := by decide +kernel
theorem pn_cdr : plainFor (⟨"java/lang/String", "coder", "()B"⟩ : MethodName) = true := by decide +kernel
abbrev B_cdr : Bx := ((⟨"java/lang/String", "coder", "()B"⟩ : MethodName), jdk_42_method_152_code, 1, (Option.some Jvm.ClassFile.FieldType.byte), ({ frames := 0, cells := 0, slots := 0, locals := 0 } : Room))
set_option maxRecDepth 65536 in
set_option maxHeartbeats 4000000 in
theorem cdr_met {A : Ax} (K : Wd A) {a b : Addr} {cd : Int32} (hcd : byt8 cd = cd) {F G : List Ent} (m : StrE A a b cd ∈ F ∨ StrE A a b cd ∈ G) : Met A B_cdr #[.ref a] F G (fun v F' G' => v = some (.int cd) ∧ F = F' ∧ G = G') := by
  refine MetW.of_go pn_cdr K.ew (L := [.val (.ref a)]) (fun m => rfl) ?_
  intro D _
  obtain ⟨z, nz, hz⟩ := K.cmpt
  refine Go.getstatic (B := B_cdr) td_cdr 0 rfl (w_19 K) hz ?_
  refine Go.if0 (B := B_cdr) td_cdr 1 (pc' := 13) rfl (by decide) rfl ?_ ?_
  · intro (h : z = 0)
    exact absurd h nz
  · intro (h : ¬ (z = 0))
    refine Go.rn (B := B_cdr) td_cdr 2 1 (pc' := 7) (S' := [.ref a]) rfl ?_
    refine Go.getfield (B := B_cdr) td_cdr 3 rfl (w_31 K) m (mi 1 rfl) ?_
    refine Go.rn (B := B_cdr) td_cdr 4 1 (pc' := 14) (S' := [.int cd]) rfl ?_
    exact Go.retB (B := B_cdr) td_cdr 6 rfl rfl hcd ⟨rfl, rfl, rfl⟩ (by decide) (by decide)
def tb_len : List In1 := [(0, .aload_n 0, 1), (1, .getfield 9, 3), (4, .arraylength, 1), (5, .aload_n 0, 1), (6, .invokevirtual 335, 3), (9, .ishr, 1), (10, .ireturn, 1)]
set_option maxRecDepth 65536 in
theorem td_len : Dec jdk_42_method_54_code tb_len := by unfold Dec; decide +kernel
theorem pd_len : parseMethodDescriptor "()I" = some ⟨[], (some .int)⟩ := by decide +kernel
theorem pn_len : plainFor (⟨"java/lang/String", "length", "()I"⟩ : MethodName) = true := by decide +kernel
abbrev B_len : Bx := ((⟨"java/lang/String", "length", "()I"⟩ : MethodName), jdk_42_method_54_code, 1, (Option.some Jvm.ClassFile.FieldType.int), ({ frames := 1, cells := 0, slots := 0, locals := 13 } : Room))
set_option maxRecDepth 65536 in
set_option maxHeartbeats 4000000 in
theorem len_met {A : Ax} (K : Wd A) {a b : Addr} {cd z r : Int32} {vs : List Value} (hcd : byt8 cd = cd) (hz : (vs.length : Int) = z.toInt) (hr : z >>> (cd &&& 31) = r) {F G : List Ent} (m : StrE A a b cd ∈ F ∨ StrE A a b cd ∈ G) (m' : BytE A b vs ∈ F ∨ BytE A b vs ∈ G) : Met A B_len #[.ref a] F G (fun v F' G' => v = some (.int r) ∧ F = F' ∧ G = G') := by
  refine MetW.of_go pn_len K.ew (L := [.val (.ref a)]) (fun m => rfl) ?_
  intro D _
  refine Go.rn (B := B_len) td_len 0 1 (pc' := 1) (S' := [.ref a]) rfl ?_
  refine Go.getfield (B := B_len) td_len 1 rfl (w_33 K) m (mi 0 rfl) ?_
  refine Go.arraylength (B := B_len) td_len 2 (z := z) rfl m' hz ?_
  refine Go.rn (B := B_len) td_len 3 1 (pc' := 6) (S' := [.ref a, .int z]) rfl ?_
  refine Go.callV (B := B_len) td_len 4 (B' := B_cdr) (C := "java/lang/String") (a := a) (argsL := []) (rest := [.int z]) (W := 1) rfl (cdr_met K hcd m) m (fun c P => P.1) (w_72 K) (w_73 K) (w_74 K) (w_75 K) (w_75 K) (w_8 K) (w_76 K) (by decide) pd_cdr rfl rfl rfl rfl (Nat.le_of_eq rfl) (by decide) (by decide) (by decide) (by decide) ?_
  rintro _ _ _ ⟨rfl, rfl, rfl⟩
  show Go A B_len D _ 9 _ [.int cd, .int z] _ _ 0 0
  refine Go.rn (B := B_len) td_len 5 1 (pc' := 10) (S' := [.int (z >>> (cd &&& 31))]) rfl ?_
  rw [hr]
  exact Go.retI (B := B_len) td_len 6 rfl rfl ⟨rfl, rfl, rfl⟩ (by decide) (by decide)
def tb_isl : List In1 := [(0, .getstatic 38, 3), (3, .ifCond .eq 14, 3), (6, .aload_n 0, 1), (7, .getfield 15, 3), (10, .ifCond .ne 7, 3), (13, .iconst 1, 1), (14, .goto 4, 3), (17, .iconst 0, 1), (18, .ireturn, 1)]
set_option maxRecDepth 65536 in
theorem td_isl : Dec jdk_42_method_154_code tb_isl := by unfold Dec; decide +kernel
theorem pd_isl : parseMethodDescriptor "()Z" = some ⟨[], (some .boolean)⟩ := by decide +kernel
theorem pn_isl : plainFor (⟨"java/lang/String", "isLatin1", "()Z"⟩ : MethodName) = true := by decide +kernel
abbrev B_isl : Bx := ((⟨"java/lang/String", "isLatin1", "()Z"⟩ : MethodName), jdk_42_method_154_code, 1, (Option.some Jvm.ClassFile.FieldType.boolean), ({ frames := 0, cells := 0, slots := 0, locals := 0 } : Room))
set_option maxRecDepth 65536 in
set_option maxHeartbeats 4000000 in
theorem islU_met {A : Ax} (K : Wd A) {a b : Addr} {F G : List Ent} (m : StrE A a b 1 ∈ F ∨ StrE A a b 1 ∈ G) : Met A B_isl #[.ref a] F G (fun v F' G' => v = some (.int 0) ∧ F = F' ∧ G = G') := by
  refine MetW.of_go pn_isl K.ew (L := [.val (.ref a)]) (fun m => rfl) ?_
  intro D _
  obtain ⟨z, nz, hz⟩ := K.cmpt
  refine Go.getstatic (B := B_isl) td_isl 0 rfl (w_19 K) hz ?_
  refine Go.if0 (B := B_isl) td_isl 1 (pc' := 17) rfl (by decide) rfl (fun (h : z = 0) => absurd h nz) (fun _ => ?_)
  refine Go.rn (B := B_isl) td_isl 2 1 (pc' := 7) (S' := [.ref a]) rfl ?_
  refine Go.getfield (B := B_isl) td_isl 3 rfl (w_31 K) m (mi 1 rfl) ?_
  refine Go.if0 (B := B_isl) td_isl 4 (pc' := 17) rfl (by decide) rfl (fun _ => ?_) (fun (h : ¬ ((1 : Int32) ≠ 0)) => absurd (by decide) h)
  refine Go.rn (B := B_isl) td_isl 7 1 (pc' := 18) (S' := [.int (0 : Int32)]) rfl ?_
  exact Go.retZ (B := B_isl) td_isl 8 rfl rfl rfl ⟨rfl, rfl, rfl⟩ (by decide) (by decide)
set_option maxRecDepth 65536 in
set_option maxHeartbeats 4000000 in
theorem isl_met {A : Ax} (K : Wd A) {a b : Addr} {F G : List Ent} (m : StrE A a b 0 ∈ F ∨ StrE A a b 0 ∈ G) : Met A B_isl #[.ref a] F G (fun v F' G' => v = some (.int 1) ∧ F = F' ∧ G = G') := by
  refine MetW.of_go pn_isl K.ew (L := [.val (.ref a)]) (fun m => rfl) ?_
  intro D _
  obtain ⟨z, nz, hz⟩ := K.cmpt
  refine Go.getstatic (B := B_isl) td_isl 0 rfl (w_19 K) hz ?_
  refine Go.if0 (B := B_isl) td_isl 1 (pc' := 17) rfl (by decide) rfl ?_ ?_
  · intro (h : z = 0)
    exact absurd h nz
  · intro (h : ¬ (z = 0))
    refine Go.rn (B := B_isl) td_isl 2 1 (pc' := 7) (S' := [.ref a]) rfl ?_
    refine Go.getfield (B := B_isl) td_isl 3 rfl (w_31 K) m (mi 1 rfl) ?_
    refine Go.if0 (B := B_isl) td_isl 4 (pc' := 17) rfl (by decide) rfl ?_ ?_
    · intro (h2 : (0 : Int32) ≠ 0)
      exact absurd rfl h2
    · intro (h2 : ¬ ((0 : Int32) ≠ 0))
      refine Go.rn (B := B_isl) td_isl 5 2 (pc' := 18) (S' := [.int (1 : Int32)]) rfl ?_
      exact Go.retZ (B := B_isl) td_isl 8 rfl rfl rfl ⟨rfl, rfl, rfl⟩ (by decide) (by decide)
def tb_pck : List In1 := [(0, .iload_n 0, 1), (1, .ifCond .lt 8, 3), (4, .iload_n 0, 1), (5, .iload_n 1, 1), (6, .if_icmp .lt 10, 3), (9, .aload_n 2, 1), (10, .iload_n 0, 1), (11, .iload_n 1, 1), (12, .invokestatic 95, 3), (15, .athrow, 1), (16, .iload_n 0, 1), (17, .ireturn, 1)]
set_option maxRecDepth 65536 in
theorem td_pck : Dec jdk_41_method_11_code tb_pck := by unfold Dec; decide +kernel
theorem pd_pck : parseMethodDescriptor "(IILjava/util/function/BiFunction;)I" = some ⟨[.int, .int, (.object "java/util/function/BiFunction")], (some .int)⟩ := by decide +kernel
theorem pn_pck : plainFor (⟨"jdk/internal/util/Preconditions", "checkIndex", "(IILjava/util/function/BiFunction;)I"⟩ : MethodName) = true := by decide +kernel
abbrev B_pck : Bx := ((⟨"jdk/internal/util/Preconditions", "checkIndex", "(IILjava/util/function/BiFunction;)I"⟩ : MethodName), jdk_41_method_11_code, 3, (Option.some Jvm.ClassFile.FieldType.int), ({ frames := 0, cells := 0, slots := 0, locals := 0 } : Room))
set_option maxRecDepth 65536 in
set_option maxHeartbeats 4000000 in
theorem pckN_met {A : Ax} (K : Wd A) {i n : Int32} (hi : 0 ≤ i.toInt ∧ i.toInt < n.toInt) {F G : List Ent} : Met A B_pck #[.int i, .int n, .null] F G (fun v F' G' => v = some (.int i) ∧ F = F' ∧ G = G') := by
  refine MetW.of_go pn_pck K.ew (L := [.val (.int i), .val (.int n), .val (.null)]) (fun m => rfl) ?_
  intro D _
  refine Go.rn (B := B_pck) td_pck 0 1 (pc' := 1) (S' := [.int i]) rfl ?_
  refine Go.if0 (B := B_pck) td_pck 1 (pc' := 9) rfl (by decide) rfl ?_ ?_
  · intro (h : i < 0)
    exact absurd (i32_lt.mp h) (Int.not_lt.mpr hi.1)
  · intro (h : ¬ (i < 0))
    refine Go.rn (B := B_pck) td_pck 2 2 (pc' := 6) (S' := [.int n, .int i]) rfl ?_
    refine Go.icmp (B := B_pck) td_pck 4 (pc' := 16) rfl (by decide) rfl ?_ ?_
    · intro (h2 : i < n)
      refine Go.rn (B := B_pck) td_pck 10 1 (pc' := 17) (S' := [.int i]) rfl ?_
      exact Go.retI (B := B_pck) td_pck 11 rfl rfl ⟨rfl, rfl, rfl⟩ (by decide) (by decide)
    · intro (h2 : ¬ (i < n))
      exact absurd (i32_lt.mpr hi.2) h2
set_option maxRecDepth 65536 in
set_option maxHeartbeats 4000000 in
theorem pckR_met {A : Ax} (K : Wd A) {r : Addr} {i n : Int32} (hi : 0 ≤ i.toInt ∧ i.toInt < n.toInt) {F G : List Ent} : Met A B_pck #[.int i, .int n, .ref r] F G (fun v F' G' => v = some (.int i) ∧ F = F' ∧ G = G') := by
  refine MetW.of_go pn_pck K.ew (L := [.val (.int i), .val (.int n), .val (.ref r)]) (fun m => rfl) ?_
  intro D _
  refine Go.rn (B := B_pck) td_pck 0 1 (pc' := 1) (S' := [.int i]) rfl ?_
  refine Go.if0 (B := B_pck) td_pck 1 (pc' := 9) rfl (by decide) rfl ?_ ?_
  · intro (h : i < 0)
    exact absurd (i32_lt.mp h) (Int.not_lt.mpr hi.1)
  · intro (h : ¬ (i < 0))
    refine Go.rn (B := B_pck) td_pck 2 2 (pc' := 6) (S' := [.int n, .int i]) rfl ?_
    refine Go.icmp (B := B_pck) td_pck 4 (pc' := 16) rfl (by decide) rfl ?_ ?_
    · intro (h2 : i < n)
      refine Go.rn (B := B_pck) td_pck 10 1 (pc' := 17) (S' := [.int i]) rfl ?_
      exact Go.retI (B := B_pck) td_pck 11 rfl rfl ⟨rfl, rfl, rfl⟩ (by decide) (by decide)
    · intro (h2 : ¬ (i < n))
      exact absurd (i32_lt.mpr hi.2) h2
def tb_sck : List In1 := [(0, .iload_n 0, 1), (1, .iload_n 1, 1), (2, .getstatic 1053, 3), (5, .invokestatic 1059, 3), (8, .pop, 1), (9, .return_, 1)]
set_option maxRecDepth 65536 in
theorem td_sck : Dec jdk_42_method_155_code tb_sck := by unfold Dec; decide +kernel
theorem pd_sck : parseMethodDescriptor "(II)V" = some ⟨[.int, .int], none⟩ := by decide +kernel
theorem pn_sck : plainFor (⟨"java/lang/String", "checkIndex", "(II)V"⟩ : MethodName) = true := by decide +kernel
abbrev B_sck : Bx := ((⟨"java/lang/String", "checkIndex", "(II)V"⟩ : MethodName), jdk_42_method_155_code, 2, (Option.none : Option Jvm.ClassFile.FieldType), ({ frames := 1, cells := 0, slots := 0, locals := 14 } : Room))
set_option maxRecDepth 65536 in
set_option maxHeartbeats 4000000 in
theorem sck_met {A : Ax} (K : Wd A) {i n : Int32} (hi : 0 ≤ i.toInt ∧ i.toInt < n.toInt) {F G : List Ent} : Met A B_sck #[.int i, .int n] F G (fun v F' G' => v = none ∧ F = F' ∧ G = G') := by
  refine MetW.of_go pn_sck K.ew (L := [.val (.int i), .val (.int n)]) (fun m => rfl) ?_
  intro D _
  obtain ⟨v, hv, hs⟩ := K.sio
  rcases ref_cases hv with rfl | ⟨r, rfl⟩
  · refine Go.rn (B := B_sck) td_sck 0 2 (pc' := 2) (S' := [.int n, .int i]) rfl ?_
    refine Go.getstatic (B := B_sck) td_sck 2 rfl (w_162 K) hs ?_
    refine Go.callS (B := B_sck) td_sck 3 (B' := B_pck) (argsL := [.int i, .int n, .null]) (rest := []) (W := 0) rfl (pckN_met K hi) (w_164 K) (w_165 K) (w_163 K) (w_166 K) (by decide) pd_pck rfl rfl rfl rfl (Nat.le_of_eq rfl) (by decide) (by decide) (by decide) (by decide) ?_
    rintro _ _ _ ⟨rfl, rfl, rfl⟩
    show Go A B_sck D _ 8 _ [.int i] _ _ 0 0
    refine Go.rn (B := B_sck) td_sck 4 1 (pc' := 9) (S' := []) rfl ?_
    exact Go.retV (B := B_sck) td_sck 5 rfl rfl ⟨rfl, rfl, rfl⟩ (by decide) (by decide)
  · refine Go.rn (B := B_sck) td_sck 0 2 (pc' := 2) (S' := [.int n, .int i]) rfl ?_
    refine Go.getstatic (B := B_sck) td_sck 2 rfl (w_162 K) hs ?_
    refine Go.callS (B := B_sck) td_sck 3 (B' := B_pck) (argsL := [.int i, .int n, .ref r]) (rest := []) (W := 0) rfl (pckR_met K hi) (w_164 K) (w_165 K) (w_163 K) (w_166 K) (by decide) pd_pck rfl rfl rfl rfl (Nat.le_of_eq rfl) (by decide) (by decide) (by decide) (by decide) ?_
    rintro _ _ _ ⟨rfl, rfl, rfl⟩
    show Go A B_sck D _ 8 _ [.int i] _ _ 0 0
    refine Go.rn (B := B_sck) td_sck 4 1 (pc' := 9) (S' := []) rfl ?_
    exact Go.retV (B := B_sck) td_sck 5 rfl rfl ⟨rfl, rfl, rfl⟩ (by decide) (by decide)
def tb_lca : List In1 := [(0, .iload_n 1, 1), (1, .aload_n 0, 1), (2, .arraylength, 1), (3, .invokestatic 9, 3), (6, .aload_n 0, 1), (7, .iload_n 1, 1), (8, .baload, 1), (9, .sipush 255, 3), (12, .iand, 1), (13, .i2c, 1), (14, .ireturn, 1)]
set_option maxRecDepth 65536 in
theorem td_lca : Dec jdk_43_method_2_code tb_lca := by unfold Dec; decide +kernel
theorem pd_lca : parseMethodDescriptor "([BI)C" = some ⟨[(.array .byte), .int], (some .char)⟩ := by decide +kernel
theorem pn_lca : plainFor (⟨"java/lang/StringLatin1", "charAt", "([BI)C"⟩ : MethodName) = true := by decide +kernel
abbrev B_lca : Bx := ((⟨"java/lang/StringLatin1", "charAt", "([BI)C"⟩ : MethodName), jdk_43_method_2_code, 2, (Option.some Jvm.ClassFile.FieldType.char), ({ frames := 2, cells := 0, slots := 0, locals := 27 } : Room))
set_option maxRecDepth 65536 in
set_option maxHeartbeats 4000000 in
theorem lca_met {A : Ax} (K : Wd A) {b : Addr} {j z x r : Int32} {vs : List Value} (hz : (vs.length : Int) = z.toInt) (hi : InB j vs.length) (hv : vs[j.toInt.toNat]? = some (.int x)) (hr : chr16 (x &&& 255) = r) (hr2 : chr16 r = r) {F G : List Ent} (m' : BytE A b vs ∈ F ∨ BytE A b vs ∈ G) : Met A B_lca #[.ref b, .int j] F G (fun v F' G' => v = some (.int r) ∧ F = F' ∧ G = G') := by
  refine MetW.of_go pn_lca K.ew (L := [.val (.ref b), .val (.int j)]) (fun m => rfl) ?_
  intro D _
  refine Go.rn (B := B_lca) td_lca 0 2 (pc' := 2) (S' := [.ref b, .int j]) rfl ?_
  refine Go.arraylength (B := B_lca) td_lca 2 (z := z) rfl m' hz ?_
  refine Go.callS (B := B_lca) td_lca 3 (B' := B_sck) (argsL := [.int j, .int z]) (rest := []) (W := 0) rfl (sck_met K ⟨hi.1, by have := hi.2; omega⟩) (w_159 K) (w_160 K) (w_8 K) (w_161 K) (by decide) pd_sck rfl rfl rfl rfl (Nat.le_of_eq rfl) (by decide) (by decide) (by decide) (by decide) ?_
  rintro _ _ _ ⟨rfl, rfl, rfl⟩
  show Go A B_lca D _ 6 _ [] _ _ 0 0
  refine Go.rn (B := B_lca) td_lca 4 2 (pc' := 8) (S' := [.int j, .ref b]) rfl ?_
  refine Go.baload (B := B_lca) td_lca 6 (v := .int x) rfl m' hi hv ?_
  refine Go.rn (B := B_lca) td_lca 7 3 (pc' := 14) (S' := [.int (chr16 (x &&& (255 : Int32)))]) rfl ?_
  rw [hr]
  exact Go.retC (B := B_lca) td_lca 10 rfl rfl hr2 ⟨rfl, rfl, rfl⟩ (by decide) (by decide)
def tb_ule : List In1 := [(0, .aload_n 0, 1), (1, .arraylength, 1), (2, .iconst 1, 1), (3, .ishr, 1), (4, .ireturn, 1)]
set_option maxRecDepth 65536 in
theorem td_ule : Dec jdk_52_method_6_code tb_ule := by unfold Dec; decide +kernel
theorem pd_ule : parseMethodDescriptor "([B)I" = some ⟨[(.array .byte)], (some .int)⟩ := by decide +kernel
theorem pn_ule : plainFor (⟨"java/lang/StringUTF16", "length", "([B)I"⟩ : MethodName) = true := by decide +kernel
abbrev B_ule : Bx := ((⟨"java/lang/StringUTF16", "length", "([B)I"⟩ : MethodName), jdk_52_method_6_code, 1, (Option.some Jvm.ClassFile.FieldType.int), ({ frames := 0, cells := 0, slots := 0, locals := 0 } : Room))
set_option maxRecDepth 65536 in
set_option maxHeartbeats 4000000 in
theorem ule_met {A : Ax} (K : Wd A) {b : Addr} {n : Nat} {vs : List Value} (hz : vs.length = 2 * n) (hn : 2 * n < 2 ^ 31) {F G : List Ent} (m' : BytE A b vs ∈ F ∨ BytE A b vs ∈ G) : Met A B_ule #[.ref b] F G (fun v F' G' => v = some (.int (nI n)) ∧ F = F' ∧ G = G') := by
  refine MetW.of_go pn_ule K.ew (L := [.val (.ref b)]) (fun m => rfl) ?_
  intro D _
  refine Go.rn (B := B_ule) td_ule 0 1 (pc' := 1) (S' := [.ref b]) rfl ?_
  refine Go.arraylength (B := B_ule) td_ule 1 (z := (nI (2 * n))) rfl m' (by rw [hz, nI_toInt hn]) ?_
  refine Go.rn (B := B_ule) td_ule 2 2 (pc' := 4) (S' := [.int ((nI (2 * n)) >>> ((1 : Int32) &&& 31))]) rfl ?_
  rw [shr1 hn]
  exact Go.retI (B := B_ule) td_ule 4 rfl rfl ⟨rfl, rfl, rfl⟩ (by decide) (by decide)
def tb_uck : List In1 := [(0, .iload_n 0, 1), (1, .aload_n 1, 1), (2, .invokestatic 48, 3), (5, .invokestatic 414, 3), (8, .return_, 1)]
set_option maxRecDepth 65536 in
theorem td_uck : Dec jdk_52_method_91_code tb_uck := by unfold Dec; decide +kernel
theorem pd_uck : parseMethodDescriptor "(I[B)V" = some ⟨[.int, (.array .byte)], none⟩ := by decide +kernel
theorem pn_uck : plainFor (⟨"java/lang/StringUTF16", "checkIndex", "(I[B)V"⟩ : MethodName) = true := by decide +kernel
abbrev B_uck : Bx := ((⟨"java/lang/StringUTF16", "checkIndex", "(I[B)V"⟩ : MethodName), jdk_52_method_91_code, 2, (Option.none : Option Jvm.ClassFile.FieldType), ({ frames := 2, cells := 0, slots := 0, locals := 27 } : Room))
set_option maxRecDepth 65536 in
set_option maxHeartbeats 4000000 in
theorem uck_met {A : Ax} (K : Wd A) {b : Addr} {j : Int32} {n : Nat} {vs : List Value} (hz : vs.length = 2 * n) (hn : 2 * n < 2 ^ 31) (hj : InB j n) {F G : List Ent} (m' : BytE A b vs ∈ F ∨ BytE A b vs ∈ G) : Met A B_uck #[.int j, .ref b] F G (fun v F' G' => v = none ∧ F = F' ∧ G = G') := by
  refine MetW.of_go pn_uck K.ew (L := [.val (.int j), .val (.ref b)]) (fun m => rfl) ?_
  intro D _
  refine Go.rn (B := B_uck) td_uck 0 2 (pc' := 2) (S' := [.ref b, .int j]) rfl ?_
  refine Go.callS (B := B_uck) td_uck 2 (B' := B_ule) (argsL := [.ref b]) (rest := [.int j]) (W := 1) rfl (ule_met K hz hn m') (w_403 K) (w_404 K) (w_22 K) (w_405 K) (by decide) pd_ule rfl rfl rfl rfl (Nat.le_of_eq rfl) (by decide) (by decide) (by decide) (by decide) ?_
  rintro _ _ _ ⟨rfl, rfl, rfl⟩
  show Go A B_uck D _ 5 _ [.int (nI n), .int j] _ _ 0 0
  refine Go.callS (B := B_uck) td_uck 3 (B' := B_sck) (argsL := [.int j, .int (nI n)]) (rest := []) (W := 0) rfl (sck_met K ⟨hj.1, by rw [nI_toInt (by omega)]; exact hj.2⟩) (w_406 K) (w_160 K) (w_8 K) (w_161 K) (by decide) pd_sck rfl rfl rfl rfl (Nat.le_of_eq rfl) (by decide) (by decide) (by decide) (by decide) ?_
  rintro _ _ _ ⟨rfl, rfl, rfl⟩
  show Go A B_uck D _ 8 _ [] _ _ 0 0
  exact Go.retV (B := B_uck) td_uck 4 rfl rfl ⟨rfl, rfl, rfl⟩ (by decide) (by decide)
def tb_gch : List In1 := [(0, .getstatic 44, 3), (3, .ifCond .ne 25, 3), (6, .iload_n 1, 1), (7, .ifCond .lt 11, 3), (10, .iload_n 1, 1), (11, .aload_n 0, 1), (12, .invokestatic 48, 3), (15, .if_icmp .lt 13, 3), (18, .new 52, 3), (21, .dup, 1), (22, .ldc 54, 2), (24, .invokespecial 56, 3), (27, .athrow, 1), (28, .iload_n 1, 1), (29, .iconst 1, 1), (30, .ishl, 1), (31, .istore_n 1, 1), (32, .aload_n 0, 1), (33, .iload_n 1, 1), (34, .iinc 1 1, 3), (37, .baload, 1), (38, .sipush 255, 3), (41, .iand, 1), (42, .getstatic 59, 3), (45, .ishl, 1), (46, .aload_n 0, 1), (47, .iload_n 1, 1), (48, .baload, 1), (49, .sipush 255, 3), (52, .iand, 1), (53, .getstatic 63, 3), (56, .ishl, 1), (57, .ior, 1), (58, .i2c, 1), (59, .ireturn, 1)]
set_option maxRecDepth 65536 in
theorem td_gch : Dec jdk_52_method_5_code tb_gch := by unfold Dec; decide +kernel
theorem pd_gch : parseMethodDescriptor "([BI)C" = some ⟨[(.array .byte), .int], (some .char)⟩ := by decide +kernel
theorem pn_gch : plainFor (⟨"java/lang/StringUTF16", "getChar", "([BI)C"⟩ : MethodName) = true := by decide +kernel
abbrev B_gch : Bx := ((⟨"java/lang/StringUTF16", "getChar", "([BI)C"⟩ : MethodName), jdk_52_method_5_code, 2, (Option.some Jvm.ClassFile.FieldType.char), ({ frames := 0, cells := 0, slots := 0, locals := 0 } : Room))
set_option maxRecDepth 65536 in
set_option maxHeartbeats 4000000 in
theorem gch_met {A : Ax} (K : Wd A) {b : Addr} {n : Nat} {x y r : Int32} {xs zs : List Value} (hx : xs.length = 2 * n) (hl : (xs ++ Value.int x :: .int y :: zs).length < 2 ^ 31) (hr : chr16 ((x &&& 255) <<< ((0 : Int32) &&& 31) ||| (y &&& 255) <<< ((8 : Int32) &&& 31)) = r) (hr2 : chr16 r = r) {F G : List Ent} (m' : BytE A b (xs ++ .int x :: .int y :: zs) ∈ F ∨ BytE A b (xs ++ .int x :: .int y :: zs) ∈ G) : Met A B_gch #[.ref b, .int (nI n)] F G (fun v F' G' => v = some (.int r) ∧ F = F' ∧ G = G') := by
  refine MetW.of_go pn_gch K.ew (L := [.val (.ref b), .val (.int (nI n))]) (fun m => rfl) ?_
  intro D _
  have e1 := own_two1 xs (Value.int x) (.int y) zs (2 * n) hx.symm
  have l1 : (xs ++ Value.int x :: .int y :: zs).length < 2 ^ 31 := hl
  have l2 : 2 * n + 1 < (xs ++ Value.int x :: .int y :: zs).length := by simp; omega
  refine Go.getstatic (B := B_gch) td_gch 0 rfl (w_391 K) K.s_assertionsDisabled ?_
  refine Go.if0 (B := B_gch) td_gch 1 (pc' := 28) rfl (by decide) rfl (fun _ => ?_) (fun (h : ¬ ((1 : Int32) ≠ 0)) => absurd (by decide) h)
  refine Go.run (B := B_gch) td_gch 13 7 (pc' := 37) (L' := [.val (.ref b), .val (.int (((nI n) <<< ((1 : Int32) &&& 31)) + (1 : Int32)))]) (S' := [.int ((nI n) <<< ((1 : Int32) &&& 31)), .ref b]) rfl ?_
  rw [shl1 (by omega), ← nI_succ]
  show Go A B_gch D _ 37 [.val (.ref b), .val (.int (nI (2 * n + 1)))] [.int (nI (2 * n)), .ref b] F G 0 0
  refine Go.baload (B := B_gch) td_gch 20 (v := .int x) rfl m' (nI_inB (by omega) l1) (by rw [nI_nat (by omega)]; exact e1.1) ?_
  refine Go.rn (B := B_gch) td_gch 21 2 (pc' := 42) (S' := [.int (x &&& (255 : Int32))]) rfl ?_
  refine Go.getstatic (B := B_gch) td_gch 23 rfl (w_392 K) K.s_HI_BYTE_SHIFT ?_
  refine Go.rn (B := B_gch) td_gch 24 3 (pc' := 48) (S' := [.int (nI (2 * n + 1)), .ref b, .int ((x &&& (255 : Int32)) <<< ((0 : Int32) &&& 31))]) rfl ?_
  refine Go.baload (B := B_gch) td_gch 27 (v := .int y) rfl m' (nI_inB l2 l1) (by rw [nI_nat (by omega)]; exact e1.2) ?_
  refine Go.rn (B := B_gch) td_gch 28 2 (pc' := 53) (S' := [.int (y &&& (255 : Int32)), .int ((x &&& (255 : Int32)) <<< ((0 : Int32) &&& 31))]) rfl ?_
  refine Go.getstatic (B := B_gch) td_gch 30 rfl (w_393 K) K.s_LO_BYTE_SHIFT ?_
  refine Go.rn (B := B_gch) td_gch 31 3 (pc' := 59) (S' := [.int (chr16 (((x &&& (255 : Int32)) <<< ((0 : Int32) &&& 31)) ||| ((y &&& (255 : Int32)) <<< ((8 : Int32) &&& 31))))]) rfl ?_
  rw [hr]
  exact Go.retC (B := B_gch) td_gch 34 rfl rfl hr2 ⟨rfl, rfl, rfl⟩ (by decide) (by decide)
def tb_uca : List In1 := [(0, .iload_n 1, 1), (1, .aload_n 0, 1), (2, .invokestatic 67, 3), (5, .aload_n 0, 1), (6, .iload_n 1, 1), (7, .invokestatic 71, 3), (10, .ireturn, 1)]
set_option maxRecDepth 65536 in
theorem td_uca : Dec jdk_52_method_83_code tb_uca := by unfold Dec; decide +kernel
theorem pd_uca : parseMethodDescriptor "([BI)C" = some ⟨[(.array .byte), .int], (some .char)⟩ := by decide +kernel
theorem pn_uca : plainFor (⟨"java/lang/StringUTF16", "charAt", "([BI)C"⟩ : MethodName) = true := by decide +kernel
abbrev B_uca : Bx := ((⟨"java/lang/StringUTF16", "charAt", "([BI)C"⟩ : MethodName), jdk_52_method_83_code, 2, (Option.some Jvm.ClassFile.FieldType.char), ({ frames := 3, cells := 0, slots := 0, locals := 40 } : Room))
set_option maxRecDepth 65536 in
set_option maxHeartbeats 4000000 in
theorem uca_met {A : Ax} (K : Wd A) {b : Addr} {cs pre suf : List Int32} {c : Int32} (hc : cs = pre ++ c :: suf) (hch : Chrs cs) (hn : 2 * cs.length < 2 ^ 31) {F G : List Ent} (m' : BytE A b (utfB cs) ∈ F ∨ BytE A b (utfB cs) ∈ G) : Met A B_uca #[.ref b, .int (nI pre.length)] F G (fun v F' G' => v = some (.int c) ∧ F = F' ∧ G = G') := by
  refine MetW.of_go pn_uca K.ew (L := [.val (.ref b), .val (.int (nI pre.length))]) (fun m => rfl) ?_
  intro D _
  have hb := utfB_len cs
  have hp : pre.length < cs.length := by rw [hc]; simp
  have ec : utfB cs = utfB pre ++ .int (byt8 c) :: .int (u2 c) :: utfB suf := by rw [hc, utfB_app]; rfl
  refine Go.rn (B := B_uca) td_uca 0 2 (pc' := 2) (S' := [.ref b, .int (nI pre.length)]) rfl ?_
  refine Go.callS (B := B_uca) td_uca 2 (B' := B_uck) (argsL := [.int (nI pre.length), .ref b]) (rest := []) (W := 0) rfl (uck_met K hb (by omega) (nI_inB hp (by omega)) m') (w_400 K) (w_401 K) (w_22 K) (w_402 K) (by decide) pd_uck rfl rfl rfl rfl (Nat.le_of_eq rfl) (by decide) (by decide) (by decide) (by decide) ?_
  rintro _ _ _ ⟨rfl, rfl, rfl⟩
  show Go A B_uca D _ 5 _ [] _ _ 0 0
  refine Go.rn (B := B_uca) td_uca 3 2 (pc' := 7) (S' := [.int (nI pre.length), .ref b]) rfl ?_
  refine Go.callS (B := B_uca) td_uca 5 (B' := B_gch) (argsL := [.ref b, .int (nI pre.length)]) (rest := []) (W := 0) rfl (gch_met K (utfB_len pre) (by rw [← ec, hb]; omega) (utf_join (hch c (by rw [hc]; simp))) (chr16_id (hch c (by rw [hc]; simp))) (by rw [← ec]; exact m')) (w_394 K) (w_395 K) (w_22 K) (w_396 K) (by decide) pd_gch rfl rfl rfl rfl (Nat.le_of_eq rfl) (by decide) (by decide) (by decide) (by decide) ?_
  rintro _ _ _ ⟨rfl, rfl, rfl⟩
  show Go A B_uca D _ 10 _ [.int c] _ _ 0 0
  exact Go.retC (B := B_uca) td_uca 6 rfl rfl (chr16_id (hch c (by rw [hc]; simp))) ⟨rfl, rfl, rfl⟩ (by decide) (by decide)
def tb_cha : List In1 := [(0, .aload_n 0, 1), (1, .invokevirtual 492, 3), (4, .ifCond .eq 12, 3), (7, .aload_n 0, 1), (8, .getfield 9, 3), (11, .iload_n 1, 1), (12, .invokestatic 495, 3), (15, .ireturn, 1), (16, .aload_n 0, 1), (17, .getfield 9, 3), (20, .iload_n 1, 1), (21, .invokestatic 498, 3), (24, .ireturn, 1)]
set_option maxRecDepth 65536 in
theorem td_cha : Dec jdk_42_method_56_code tb_cha := by unfold Dec; decide +kernel
theorem pd_cha : parseMethodDescriptor "(I)C" = some ⟨[.int], (some .char)⟩ := by decide +kernel
theorem pn_cha : plainFor (⟨"java/lang/String", "charAt", "(I)C"⟩ : MethodName) = true := by decide +kernel
abbrev B_cha : Bx := ((⟨"java/lang/String", "charAt", "(I)C"⟩ : MethodName), jdk_42_method_56_code, 2, (Option.some Jvm.ClassFile.FieldType.char), ({ frames := 4, cells := 0, slots := 0, locals := 53 } : Room))
set_option maxRecDepth 65536 in
set_option maxHeartbeats 4000000 in
theorem chaU_met {A : Ax} (K : Wd A) {a b : Addr} {cs pre suf : List Int32} {c : Int32} (hc : cs = pre ++ c :: suf) (hch : Chrs cs) (hn : 2 * cs.length < 2 ^ 31) {F G : List Ent} (m : StrE A a b 1 ∈ F ∨ StrE A a b 1 ∈ G) (m' : BytE A b (utfB cs) ∈ F ∨ BytE A b (utfB cs) ∈ G) : Met A B_cha #[.ref a, .int (nI pre.length)] F G (fun v F' G' => v = some (.int c) ∧ F = F' ∧ G = G') := by
  refine MetW.of_go pn_cha K.ew (L := [.val (.ref a), .val (.int (nI pre.length))]) (fun m => rfl) ?_
  intro D _
  refine Go.rn (B := B_cha) td_cha 0 1 (pc' := 1) (S' := [.ref a]) rfl ?_
  refine Go.callV (B := B_cha) td_cha 1 (B' := B_isl) (C := "java/lang/String") (a := a) (argsL := []) (rest := []) (W := 0) rfl (islU_met K m) m (fun c P => P.1) (w_150 K) (w_151 K) (w_152 K) (w_153 K) (w_153 K) (w_8 K) (w_154 K) (by decide) pd_isl rfl rfl rfl rfl (Nat.le_of_eq rfl) (by decide) (by decide) (by decide) (by decide) ?_
  rintro _ _ _ ⟨rfl, rfl, rfl⟩
  show Go A B_cha D _ 4 _ [.int (0 : Int32)] _ _ 0 0
  refine Go.if0 (B := B_cha) td_cha 2 (pc' := 16) rfl (by decide) rfl (fun _ => ?_) (fun (h : ¬ ((0 : Int32) = 0)) => absurd (by decide) h)
  refine Go.rn (B := B_cha) td_cha 8 1 (pc' := 17) (S' := [.ref a]) rfl ?_
  refine Go.getfield (B := B_cha) td_cha 9 rfl (w_33 K) m (mi 0 rfl) ?_
  refine Go.rn (B := B_cha) td_cha 10 1 (pc' := 21) (S' := [.int (nI pre.length), .ref b]) rfl ?_
  refine Go.callS (B := B_cha) td_cha 11 (B' := B_uca) (argsL := [.ref b, .int (nI pre.length)]) (rest := []) (W := 0) rfl (uca_met K hc hch hn m') (w_397 K) (w_398 K) (w_22 K) (w_399 K) (by decide) pd_uca rfl rfl rfl rfl (Nat.le_of_eq rfl) (by decide) (by decide) (by decide) (by decide) ?_
  rintro _ _ _ ⟨rfl, rfl, rfl⟩
  show Go A B_cha D _ 24 _ [.int c] _ _ 0 0
  exact Go.retC (B := B_cha) td_cha 12 rfl rfl (chr16_id (hch c (by rw [hc]; simp))) ⟨rfl, rfl, rfl⟩ (by decide) (by decide)
set_option maxRecDepth 65536 in
set_option maxHeartbeats 4000000 in
theorem cha_met {A : Ax} (K : Wd A) {a b : Addr} {j z x r : Int32} {vs : List Value} (hz : (vs.length : Int) = z.toInt) (hi : InB j vs.length) (hv : vs[j.toInt.toNat]? = some (.int x)) (hr : chr16 (x &&& 255) = r) (hr2 : chr16 r = r) {F G : List Ent} (m : StrE A a b 0 ∈ F ∨ StrE A a b 0 ∈ G) (m' : BytE A b vs ∈ F ∨ BytE A b vs ∈ G) : Met A B_cha #[.ref a, .int j] F G (fun v F' G' => v = some (.int r) ∧ F = F' ∧ G = G') := by
  refine MetW.of_go pn_cha K.ew (L := [.val (.ref a), .val (.int j)]) (fun m => rfl) ?_
  intro D _
  refine Go.rn (B := B_cha) td_cha 0 1 (pc' := 1) (S' := [.ref a]) rfl ?_
  refine Go.callV (B := B_cha) td_cha 1 (B' := B_isl) (C := "java/lang/String") (a := a) (argsL := []) (rest := []) (W := 0) rfl (isl_met K m) m (fun c P => P.1) (w_150 K) (w_151 K) (w_152 K) (w_153 K) (w_153 K) (w_8 K) (w_154 K) (by decide) pd_isl rfl rfl rfl rfl (Nat.le_of_eq rfl) (by decide) (by decide) (by decide) (by decide) ?_
  rintro _ _ _ ⟨rfl, rfl, rfl⟩
  show Go A B_cha D _ 4 _ [.int (1 : Int32)] _ _ 0 0
  refine Go.if0 (B := B_cha) td_cha 2 (pc' := 16) rfl (by decide) rfl ?_ ?_
  · intro (h : (1 : Int32) = 0)
    exact absurd h (by decide)
  · intro (h : ¬ ((1 : Int32) = 0))
    refine Go.rn (B := B_cha) td_cha 3 1 (pc' := 8) (S' := [.ref a]) rfl ?_
    refine Go.getfield (B := B_cha) td_cha 4 rfl (w_33 K) m (mi 0 rfl) ?_
    refine Go.rn (B := B_cha) td_cha 5 1 (pc' := 12) (S' := [.int j, .ref b]) rfl ?_
    refine Go.callS (B := B_cha) td_cha 6 (B' := B_lca) (argsL := [.ref b, .int j]) (rest := []) (W := 0) rfl (lca_met K hz hi hv hr hr2 m') (w_155 K) (w_156 K) (w_157 K) (w_158 K) (by decide) pd_lca rfl rfl rfl rfl (Nat.le_of_eq rfl) (by decide) (by decide) (by decide) (by decide) ?_
    rintro _ _ _ ⟨rfl, rfl, rfl⟩
    show Go A B_cha D _ 15 _ [.int r] _ _ 0 0
    exact Go.retC (B := B_cha) td_cha 7 rfl rfl hr2 ⟨rfl, rfl, rfl⟩ (by decide) (by decide)
def tb_cmp : List In1 := [(0, .iconst 0, 1), (1, .istore 5, 2), (3, .iload 5, 2), (5, .iload 4, 2), (7, .if_icmp .ge 37, 3), (10, .aload_n 0, 1), (11, .iload_n 1, 1), (12, .caload, 1), (13, .istore 6, 2), (15, .iload 6, 2), (17, .sipush 255, 3), (20, .if_icmp .le 6, 3), (23, .iload 5, 2), (25, .ireturn, 1), (26, .aload_n 2, 1), (27, .iload_n 3, 1), (28, .iload 6, 2), (30, .i2b, 1), (31, .bastore, 1), (32, .iinc 1 1, 3), (35, .iinc 3 1, 3), (38, .iinc 5 1, 3), (41, .goto (-38), 3), (44, .iload 4, 2), (46, .ireturn, 1)]
set_option maxRecDepth 65536 in
theorem td_cmp : Dec jdk_52_method_21_code tb_cmp := by unfold Dec; decide +kernel
theorem pd_cmp : parseMethodDescriptor "([CI[BII)I" = some ⟨[(.array .char), .int, (.array .byte), .int, .int], (some .int)⟩ := by decide +kernel
theorem pn_cmp : plainFor (⟨"java/lang/StringUTF16", "compress", "([CI[BII)I"⟩ : MethodName) = true := by decide +kernel
abbrev B_cmp : Bx := ((⟨"java/lang/StringUTF16", "compress", "([CI[BII)I"⟩ : MethodName), jdk_52_method_21_code, 7, (Option.some Jvm.ClassFile.FieldType.int), ({ frames := 0, cells := 0, slots := 0, locals := 0 } : Room))
set_option maxRecDepth 65536 in
set_option maxHeartbeats 4000000 in
theorem cmpU_met {A : Ax} (K : Wd A) {a b : Addr} {cs pre suf : List Int32} {d : Int32} (hcs : cs = pre ++ d :: suf) (hlat : Lat pre) (hd : 256 ≤ d.toInt) (hlen : cs.length < 2 ^ 31) {F G : List Ent} (m : (a, ArrP A .char (chV cs)) ∈ F ∨ (a, ArrP A .char (chV cs)) ∈ G) : Met A B_cmp #[.ref a, .int 0, .ref b, .int 0, .int (nI cs.length)] ((b, ArrP A .byte (List.replicate cs.length (.int 0))) :: F) G (fun v F' G' => v = some (.int (nI pre.length)) ∧ (∃ P, (b, P) :: F = F') ∧ G = G') := by
  refine MetW.of_go pn_cmp K.ew (L := [.val (.ref a), .val (.int 0), .val (.ref b), .val (.int 0), .val (.int (nI cs.length)), .unset, .unset]) (fun m => rfl) ?_
  intro D _
  have loop : ∀ (p2 p1 : List Int32) (o : Slot), cs = p1 ++ (p2 ++ d :: suf) → pre = p1 ++ p2 → (o = .unset ∨ ∃ x, o = .val (.int x)) → Go A B_cmp D (fun v F' G' => v = some (.int (nI pre.length)) ∧ (∃ P, (b, P) :: F = F') ∧ G = G') 3 [.val (.ref a), .val (.int (nI p1.length)), .val (.ref b), .val (.int (nI p1.length)), .val (.int (nI cs.length)), .val (.int (nI p1.length)), o] [] ((b, ArrP A .byte (latB p1 ++ zrs (p2 ++ d :: suf))) :: F) G 0 0 := by
    intro p2
    induction p2 with
    | nil =>
      intro p1 o hc hp ho
      have ep : pre = p1 := by simpa using hp
      have hc0 : cs = p1 ++ d :: suf := hc
      have hl1 : (p1 ++ d :: suf).length < 2 ^ 31 := by rw [← hc0]; exact hlen
      have ml : p1.length < cs.length := by rw [hc0]; simp
      have m2 : (a, ArrP A .char (chV (p1 ++ d :: suf))) ∈ F ∨ (a, ArrP A .char (chV (p1 ++ d :: suf))) ∈ G := by rw [← hc0]; exact m
      rcases ho with rfl | ⟨x6, rfl⟩
      · refine Go.rn (B := B_cmp) td_cmp 2 2 (pc' := 7) (S' := [.int (nI cs.length), .int (nI p1.length)]) rfl ?_
        refine Go.icmp (B := B_cmp) td_cmp 4 (pc' := 44) rfl (by decide) rfl (fun (h : (nI p1.length) ≥ (nI cs.length)) => absurd h (Int32.not_le.mpr ((nI_lt (by omega) hlen).mpr ml))) (fun _ => ?_)
        refine Go.rn (B := B_cmp) td_cmp 5 2 (pc' := 12) (S' := [.int (nI p1.length), .ref a]) rfl ?_
        refine Go.caload (B := B_cmp) td_cmp 7 (v := .int d) rfl (m2.imp (List.mem_cons_of_mem _) id) (own_chr_in _ _ _ hl1) (own_chr_get _ _ _ hl1) ?_
        refine Go.run (B := B_cmp) td_cmp 8 3 (pc' := 20) (L' := [.val (.ref a), .val (.int (nI p1.length)), .val (.ref b), .val (.int (nI p1.length)), .val (.int (nI cs.length)), .val (.int (nI p1.length)), .val (.int d)]) (S' := [.int (255 : Int32), .int d]) rfl ?_
        refine Go.icmp (B := B_cmp) td_cmp 11 (pc' := 26) rfl (by decide) rfl (fun (h : d ≤ (255 : Int32)) => absurd h (fun z => absurd (i32_le.mp z) (by have : (255 : Int32).toInt = 255 := rfl; omega))) (fun _ => ?_)
        refine Go.rn (B := B_cmp) td_cmp 12 1 (pc' := 25) (S' := [.int (nI p1.length)]) rfl ?_
        exact Go.retI (B := B_cmp) td_cmp 13 rfl rfl ⟨by rw [ep], ⟨_, rfl⟩, rfl⟩ (by decide) (by decide)
      · refine Go.rn (B := B_cmp) td_cmp 2 2 (pc' := 7) (S' := [.int (nI cs.length), .int (nI p1.length)]) rfl ?_
        refine Go.icmp (B := B_cmp) td_cmp 4 (pc' := 44) rfl (by decide) rfl (fun (h : (nI p1.length) ≥ (nI cs.length)) => absurd h (Int32.not_le.mpr ((nI_lt (by omega) hlen).mpr ml))) (fun _ => ?_)
        refine Go.rn (B := B_cmp) td_cmp 5 2 (pc' := 12) (S' := [.int (nI p1.length), .ref a]) rfl ?_
        refine Go.caload (B := B_cmp) td_cmp 7 (v := .int d) rfl (m2.imp (List.mem_cons_of_mem _) id) (own_chr_in _ _ _ hl1) (own_chr_get _ _ _ hl1) ?_
        refine Go.run (B := B_cmp) td_cmp 8 3 (pc' := 20) (L' := [.val (.ref a), .val (.int (nI p1.length)), .val (.ref b), .val (.int (nI p1.length)), .val (.int (nI cs.length)), .val (.int (nI p1.length)), .val (.int d)]) (S' := [.int (255 : Int32), .int d]) rfl ?_
        refine Go.icmp (B := B_cmp) td_cmp 11 (pc' := 26) rfl (by decide) rfl (fun (h : d ≤ (255 : Int32)) => absurd h (fun z => absurd (i32_le.mp z) (by have : (255 : Int32).toInt = 255 := rfl; omega))) (fun _ => ?_)
        refine Go.rn (B := B_cmp) td_cmp 12 1 (pc' := 25) (S' := [.int (nI p1.length)]) rfl ?_
        exact Go.retI (B := B_cmp) td_cmp 13 rfl rfl ⟨by rw [ep], ⟨_, rfl⟩, rfl⟩ (by decide) (by decide)
    | cons c p2 ih =>
      intro p1 o hc hp ho
      have hc1 := hlat c (by rw [hp]; simp)
      have hih := ih (p1 ++ [c]) (.val (.int c)) (by simp [hc]) (by simp [hp]) (Or.inr ⟨c, rfl⟩)
      rw [own_len_snoc] at hih
      have hc0 : cs = p1 ++ c :: (p2 ++ d :: suf) := hc
      have hl1 : (p1 ++ c :: (p2 ++ d :: suf)).length < 2 ^ 31 := by rw [← hc0]; exact hlen
      have ml : p1.length < cs.length := by rw [hc0]; simp
      have m2 : (a, ArrP A .char (chV (p1 ++ c :: (p2 ++ d :: suf)))) ∈ F ∨ (a, ArrP A .char (chV (p1 ++ c :: (p2 ++ d :: suf)))) ∈ G := by rw [← hc0]; exact m
      rcases ho with rfl | ⟨x6, rfl⟩
      · refine Go.rn (B := B_cmp) td_cmp 2 2 (pc' := 7) (S' := [.int (nI cs.length), .int (nI p1.length)]) rfl ?_
        refine Go.icmp (B := B_cmp) td_cmp 4 (pc' := 44) rfl (by decide) rfl (fun (h : (nI p1.length) ≥ (nI cs.length)) => absurd h (Int32.not_le.mpr ((nI_lt (by omega) hlen).mpr ml))) (fun _ => ?_)
        refine Go.rn (B := B_cmp) td_cmp 5 2 (pc' := 12) (S' := [.int (nI p1.length), .ref a]) rfl ?_
        refine Go.caload (B := B_cmp) td_cmp 7 (v := .int c) rfl (m2.imp (List.mem_cons_of_mem _) id) (own_chr_in _ _ _ hl1) (own_chr_get _ _ _ hl1) ?_
        refine Go.run (B := B_cmp) td_cmp 8 3 (pc' := 20) (L' := [.val (.ref a), .val (.int (nI p1.length)), .val (.ref b), .val (.int (nI p1.length)), .val (.int (nI cs.length)), .val (.int (nI p1.length)), .val (.int c)]) (S' := [.int (255 : Int32), .int c]) rfl ?_
        refine Go.icmp (B := B_cmp) td_cmp 11 (pc' := 26) rfl (by decide) rfl (fun _ => ?_) (fun (h : ¬ (c ≤ (255 : Int32))) => absurd (i32_le.mpr (Int.le_of_lt_add_one hc1.2)) h)
        refine Go.rn (B := B_cmp) td_cmp 14 4 (pc' := 31) (S' := [.int (byt8 c), .int (nI p1.length), .ref b]) rfl ?_
        refine Go.bastore (B := B_cmp) td_cmp 18 (vs' := (latB (p1 ++ [c]) ++ zrs (p2 ++ d :: suf))) rfl (own_lat_in _ _ _ hl1) (own_lat_set _ _ _ hl1) ?_
        refine Go.run (B := B_cmp) td_cmp 19 4 (pc' := 3) (L' := [.val (.ref a), .val (.int ((nI p1.length) + (1 : Int32))), .val (.ref b), .val (.int ((nI p1.length) + (1 : Int32))), .val (.int (nI cs.length)), .val (.int ((nI p1.length) + (1 : Int32))), .val (.int c)]) (S' := []) rfl ?_
        exact hih
      · refine Go.rn (B := B_cmp) td_cmp 2 2 (pc' := 7) (S' := [.int (nI cs.length), .int (nI p1.length)]) rfl ?_
        refine Go.icmp (B := B_cmp) td_cmp 4 (pc' := 44) rfl (by decide) rfl (fun (h : (nI p1.length) ≥ (nI cs.length)) => absurd h (Int32.not_le.mpr ((nI_lt (by omega) hlen).mpr ml))) (fun _ => ?_)
        refine Go.rn (B := B_cmp) td_cmp 5 2 (pc' := 12) (S' := [.int (nI p1.length), .ref a]) rfl ?_
        refine Go.caload (B := B_cmp) td_cmp 7 (v := .int c) rfl (m2.imp (List.mem_cons_of_mem _) id) (own_chr_in _ _ _ hl1) (own_chr_get _ _ _ hl1) ?_
        refine Go.run (B := B_cmp) td_cmp 8 3 (pc' := 20) (L' := [.val (.ref a), .val (.int (nI p1.length)), .val (.ref b), .val (.int (nI p1.length)), .val (.int (nI cs.length)), .val (.int (nI p1.length)), .val (.int c)]) (S' := [.int (255 : Int32), .int c]) rfl ?_
        refine Go.icmp (B := B_cmp) td_cmp 11 (pc' := 26) rfl (by decide) rfl (fun _ => ?_) (fun (h : ¬ (c ≤ (255 : Int32))) => absurd (i32_le.mpr (Int.le_of_lt_add_one hc1.2)) h)
        refine Go.rn (B := B_cmp) td_cmp 14 4 (pc' := 31) (S' := [.int (byt8 c), .int (nI p1.length), .ref b]) rfl ?_
        refine Go.bastore (B := B_cmp) td_cmp 18 (vs' := (latB (p1 ++ [c]) ++ zrs (p2 ++ d :: suf))) rfl (own_lat_in _ _ _ hl1) (own_lat_set _ _ _ hl1) ?_
        refine Go.run (B := B_cmp) td_cmp 19 4 (pc' := 3) (L' := [.val (.ref a), .val (.int ((nI p1.length) + (1 : Int32))), .val (.ref b), .val (.int ((nI p1.length) + (1 : Int32))), .val (.int (nI cs.length)), .val (.int ((nI p1.length) + (1 : Int32))), .val (.int c)]) (S' := []) rfl ?_
        exact hih
  refine Go.run (B := B_cmp) td_cmp 0 2 (pc' := 3) (L' := [.val (.ref a), .val (.int 0), .val (.ref b), .val (.int 0), .val (.int (nI cs.length)), .val (.int (0 : Int32)), .unset]) (S' := []) rfl ?_
  rw [zrs_rep, hcs]
  rw [hcs] at loop
  exact loop pre [] .unset rfl rfl (Or.inl rfl)
set_option maxRecDepth 65536 in
set_option maxHeartbeats 4000000 in
theorem cmp_met {A : Ax} (K : Wd A) {a b : Addr} {cs : List Int32} (hlat : Lat cs) (hlen : cs.length < 2 ^ 31) {F G : List Ent} (m : (a, ArrP A .char (chV cs)) ∈ F ∨ (a, ArrP A .char (chV cs)) ∈ G) : Met A B_cmp #[.ref a, .int 0, .ref b, .int 0, .int (nI cs.length)] ((b, ArrP A .byte (List.replicate cs.length (.int 0))) :: F) G (fun v F' G' => v = some (.int (nI cs.length)) ∧ (b, ArrP A .byte (latB cs)) :: F = F' ∧ G = G') := by
  refine MetW.of_go pn_cmp K.ew (L := [.val (.ref a), .val (.int 0), .val (.ref b), .val (.int 0), .val (.int (nI cs.length)), .unset, .unset]) (fun m => rfl) ?_
  intro D _
  have loop : ∀ (suf pre : List Int32) (o : Slot), cs = pre ++ suf → (o = .unset ∨ ∃ x, o = .val (.int x)) → Go A B_cmp D (fun v F' G' => v = some (.int (nI cs.length)) ∧ (b, ArrP A .byte (latB cs)) :: F = F' ∧ G = G') 3 [.val (.ref a), .val (.int (nI pre.length)), .val (.ref b), .val (.int (nI pre.length)), .val (.int (nI cs.length)), .val (.int (nI pre.length)), o] [] ((b, ArrP A .byte (latB pre ++ zrs suf)) :: F) G 0 0 := by
    intro suf
    induction suf with
    | nil =>
      intro pre o hc ho
      have e : cs = pre := by simpa using hc
      rcases ho with rfl | ⟨x6, rfl⟩
      · refine Go.rn (B := B_cmp) td_cmp 2 2 (pc' := 7) (S' := [.int (nI cs.length), .int (nI pre.length)]) rfl ?_
        refine Go.icmp (B := B_cmp) td_cmp 4 (pc' := 44) rfl (by decide) rfl ?_ ?_
        · intro (h : (nI pre.length) ≥ (nI cs.length))
          refine Go.rn (B := B_cmp) td_cmp 23 1 (pc' := 46) (S' := [.int (nI cs.length)]) rfl ?_
          exact Go.retI (B := B_cmp) td_cmp 24 rfl rfl ⟨rfl, by rw [e]; simp [zrs], rfl⟩ (by decide) (by decide)
        · intro (h : ¬ ((nI pre.length) ≥ (nI cs.length)))
          exact absurd (by rw [e]; exact Int32.le_refl _) h
      · refine Go.rn (B := B_cmp) td_cmp 2 2 (pc' := 7) (S' := [.int (nI cs.length), .int (nI pre.length)]) rfl ?_
        refine Go.icmp (B := B_cmp) td_cmp 4 (pc' := 44) rfl (by decide) rfl ?_ ?_
        · intro (h : (nI pre.length) ≥ (nI cs.length))
          refine Go.rn (B := B_cmp) td_cmp 23 1 (pc' := 46) (S' := [.int (nI cs.length)]) rfl ?_
          exact Go.retI (B := B_cmp) td_cmp 24 rfl rfl ⟨rfl, by rw [e]; simp [zrs], rfl⟩ (by decide) (by decide)
        · intro (h : ¬ ((nI pre.length) ≥ (nI cs.length)))
          exact absurd (by rw [e]; exact Int32.le_refl _) h
    | cons c suf ih =>
      intro pre o hc ho
      have hc1 := hlat c (by rw [hc]; simp)
      have hl1 : (pre ++ c :: suf).length < 2 ^ 31 := by rw [← hc]; exact hlen
      have ml : pre.length < cs.length := by rw [hc]; simp
      have m2 : (a, ArrP A .char (chV (pre ++ c :: suf))) ∈ F ∨ (a, ArrP A .char (chV (pre ++ c :: suf))) ∈ G := by rw [← hc]; exact m
      have hih := ih (pre ++ [c]) (.val (.int c)) (by simp [hc]) (Or.inr ⟨c, rfl⟩)
      rw [own_len_snoc] at hih
      rcases ho with rfl | ⟨x6, rfl⟩
      · refine Go.rn (B := B_cmp) td_cmp 2 2 (pc' := 7) (S' := [.int (nI cs.length), .int (nI pre.length)]) rfl ?_
        refine Go.icmp (B := B_cmp) td_cmp 4 (pc' := 44) rfl (by decide) rfl ?_ ?_
        · intro (h : (nI pre.length) ≥ (nI cs.length))
          exact absurd ((nI_lt (by omega) hlen).mpr ml) (Int32.not_lt.mpr h)
        · intro (h : ¬ ((nI pre.length) ≥ (nI cs.length)))
          refine Go.rn (B := B_cmp) td_cmp 5 2 (pc' := 12) (S' := [.int (nI pre.length), .ref a]) rfl ?_
          refine Go.caload (B := B_cmp) td_cmp 7 (v := .int c) rfl (m2.imp (List.mem_cons_of_mem _) id) (own_chr_in _ _ _ hl1) (own_chr_get _ _ _ hl1) ?_
          refine Go.run (B := B_cmp) td_cmp 8 3 (pc' := 20) (L' := [.val (.ref a), .val (.int (nI pre.length)), .val (.ref b), .val (.int (nI pre.length)), .val (.int (nI cs.length)), .val (.int (nI pre.length)), .val (.int c)]) (S' := [.int (255 : Int32), .int c]) rfl ?_
          refine Go.icmp (B := B_cmp) td_cmp 11 (pc' := 26) rfl (by decide) rfl ?_ ?_
          · intro (h2 : c ≤ (255 : Int32))
            refine Go.rn (B := B_cmp) td_cmp 14 4 (pc' := 31) (S' := [.int (byt8 c), .int (nI pre.length), .ref b]) rfl ?_
            refine Go.bastore (B := B_cmp) td_cmp 18 (vs' := (latB (pre ++ [c]) ++ zrs suf)) rfl (own_lat_in _ _ _ hl1) (own_lat_set _ _ _ hl1) ?_
            refine Go.run (B := B_cmp) td_cmp 19 4 (pc' := 3) (L' := [.val (.ref a), .val (.int ((nI pre.length) + (1 : Int32))), .val (.ref b), .val (.int ((nI pre.length) + (1 : Int32))), .val (.int (nI cs.length)), .val (.int ((nI pre.length) + (1 : Int32))), .val (.int c)]) (S' := []) rfl ?_
            exact hih
          · intro (h2 : ¬ (c ≤ (255 : Int32)))
            exact absurd (i32_le.mpr (Int.le_of_lt_add_one hc1.2)) h2
      · refine Go.rn (B := B_cmp) td_cmp 2 2 (pc' := 7) (S' := [.int (nI cs.length), .int (nI pre.length)]) rfl ?_
        refine Go.icmp (B := B_cmp) td_cmp 4 (pc' := 44) rfl (by decide) rfl ?_ ?_
        · intro (h : (nI pre.length) ≥ (nI cs.length))
          exact absurd ((nI_lt (by omega) hlen).mpr ml) (Int32.not_lt.mpr h)
        · intro (h : ¬ ((nI pre.length) ≥ (nI cs.length)))
          refine Go.rn (B := B_cmp) td_cmp 5 2 (pc' := 12) (S' := [.int (nI pre.length), .ref a]) rfl ?_
          refine Go.caload (B := B_cmp) td_cmp 7 (v := .int c) rfl (m2.imp (List.mem_cons_of_mem _) id) (own_chr_in _ _ _ hl1) (own_chr_get _ _ _ hl1) ?_
          refine Go.run (B := B_cmp) td_cmp 8 3 (pc' := 20) (L' := [.val (.ref a), .val (.int (nI pre.length)), .val (.ref b), .val (.int (nI pre.length)), .val (.int (nI cs.length)), .val (.int (nI pre.length)), .val (.int c)]) (S' := [.int (255 : Int32), .int c]) rfl ?_
          refine Go.icmp (B := B_cmp) td_cmp 11 (pc' := 26) rfl (by decide) rfl ?_ ?_
          · intro (h2 : c ≤ (255 : Int32))
            refine Go.rn (B := B_cmp) td_cmp 14 4 (pc' := 31) (S' := [.int (byt8 c), .int (nI pre.length), .ref b]) rfl ?_
            refine Go.bastore (B := B_cmp) td_cmp 18 (vs' := (latB (pre ++ [c]) ++ zrs suf)) rfl (own_lat_in _ _ _ hl1) (own_lat_set _ _ _ hl1) ?_
            refine Go.run (B := B_cmp) td_cmp 19 4 (pc' := 3) (L' := [.val (.ref a), .val (.int ((nI pre.length) + (1 : Int32))), .val (.ref b), .val (.int ((nI pre.length) + (1 : Int32))), .val (.int (nI cs.length)), .val (.int ((nI pre.length) + (1 : Int32))), .val (.int c)]) (S' := []) rfl ?_
            exact hih
          · intro (h2 : ¬ (c ≤ (255 : Int32)))
            exact absurd (i32_le.mpr (Int.le_of_lt_add_one hc1.2)) h2
  refine Go.run (B := B_cmp) td_cmp 0 2 (pc' := 3) (L' := [.val (.ref a), .val (.int 0), .val (.ref b), .val (.int 0), .val (.int (nI cs.length)), .val (.int (0 : Int32)), .unset]) (S' := []) rfl ?_
  rw [zrs_rep]
  exact loop cs [] .unset rfl (Or.inl rfl)
def tb_nbl : List In1 := [(0, .iload_n 0, 1), (1, .ifCond .ge 11, 3), (4, .new 17, 3), (7, .dup, 1), (8, .invokespecial 19, 3), (11, .athrow, 1), (12, .iload_n 0, 1), (13, .ldc 20, 2), (15, .if_icmp .lt 40, 3), (18, .new 21, 3), (21, .dup, 1), (22, .new 23, 3), (25, .dup, 1), (26, .invokespecial 25, 3), (29, .ldc 26, 2), (31, .invokevirtual 28, 3), (34, .iload_n 0, 1), (35, .invokevirtual 32, 3), (38, .ldc 35, 2), (40, .invokevirtual 28, 3), (43, .ldc 20, 2), (45, .invokevirtual 32, 3), (48, .invokevirtual 37, 3), (51, .invokespecial 41, 3), (54, .athrow, 1), (55, .iload_n 0, 1), (56, .iconst 1, 1), (57, .ishl, 1), (58, .ireturn, 1)]
set_option maxRecDepth 65536 in
theorem td_nbl : Dec jdk_52_method_3_code tb_nbl := by unfold Dec; decide +kernel
theorem pd_nbl : parseMethodDescriptor "(I)I" = some ⟨[.int], (some .int)⟩ := by decide +kernel
theorem pn_nbl : plainFor (⟨"java/lang/StringUTF16", "newBytesLength", "(I)I"⟩ : MethodName) = true := by decide +kernel
abbrev B_nbl : Bx := ((⟨"java/lang/StringUTF16", "newBytesLength", "(I)I"⟩ : MethodName), jdk_52_method_3_code, 1, (Option.some Jvm.ClassFile.FieldType.int), ({ frames := 0, cells := 0, slots := 0, locals := 0 } : Room))
set_option maxRecDepth 65536 in
set_option maxHeartbeats 4000000 in
theorem nbl_met {A : Ax} (K : Wd A) {n : Nat} (hn : n < 1073741823) {F G : List Ent} : Met A B_nbl #[.int (nI n)] F G (fun v F' G' => v = some (.int (nI (2 * n))) ∧ F = F' ∧ G = G') := by
  refine MetW.of_go pn_nbl K.ew (L := [.val (.int (nI n))]) (fun m => rfl) ?_
  intro D _
  refine Go.rn (B := B_nbl) td_nbl 0 1 (pc' := 1) (S' := [.int (nI n)]) rfl ?_
  refine Go.if0 (B := B_nbl) td_nbl 1 (pc' := 12) rfl (by decide) rfl (fun _ => ?_) (fun (h : ¬ ((nI n) ≥ 0)) => absurd (i32_le.mpr (by rw [nI_toInt (by omega)]; have : (0 : Int32).toInt = 0 := rfl; omega)) h)
  refine Go.rn (B := B_nbl) td_nbl 6 1 (pc' := 13) (S' := [.int (nI n)]) rfl ?_
  refine Go.ldcI (B := B_nbl) td_nbl 7 rfl (w_387 K) ?_
  refine Go.icmp (B := B_nbl) td_nbl 8 (pc' := 55) rfl (by decide) rfl (fun _ => ?_) (fun (h : ¬ ((nI n) < (1073741823 : Int32))) => absurd (i32_lt.mpr (by rw [nI_toInt (by omega)]; have : (1073741823 : Int32).toInt = 1073741823 := (by decide); omega)) h)
  refine Go.rn (B := B_nbl) td_nbl 25 3 (pc' := 58) (S' := [.int ((nI n) <<< ((1 : Int32) &&& 31))]) rfl ?_
  rw [shl1 (by omega)]
  exact Go.retI (B := B_nbl) td_nbl 28 rfl rfl ⟨rfl, rfl, rfl⟩ (by decide) (by decide)
def tb_nbf : List In1 := [(0, .iload_n 0, 1), (1, .invokestatic 11, 3), (4, .newarray .byte, 2), (6, .areturn, 1)]
set_option maxRecDepth 65536 in
theorem td_nbf : Dec jdk_52_method_2_code tb_nbf := by unfold Dec; decide +kernel
theorem pd_nbf : parseMethodDescriptor "(I)[B" = some ⟨[.int], (some (.array .byte))⟩ := by decide +kernel
theorem pn_nbf : plainFor (⟨"java/lang/StringUTF16", "newBytesFor", "(I)[B"⟩ : MethodName) = true := by decide +kernel
abbrev B_nbf : Bx := ((⟨"java/lang/StringUTF16", "newBytesFor", "(I)[B"⟩ : MethodName), jdk_52_method_2_code, 1, (Option.some (Jvm.ClassFile.FieldType.array Jvm.ClassFile.FieldType.byte)), ({ frames := 1, cells := 1, slots := 128, locals := 12 } : Room))
set_option maxRecDepth 65536 in
set_option maxHeartbeats 4000000 in
theorem nbf_met {A : Ax} (K : Wd A) {n : Nat} (hn : n ≤ 64) {F G : List Ent} : Met A B_nbf #[.int (nI n)] F G (fun v F' G' => ∃ b, v = some (.ref b) ∧ (b, ArrP A .byte (List.replicate (2 * n) (.int 0))) :: F = F' ∧ G = G') := by
  refine MetW.of_go pn_nbf K.ew (L := [.val (.int (nI n))]) (fun m => rfl) ?_
  intro D _
  refine Go.rn (B := B_nbf) td_nbf 0 1 (pc' := 1) (S' := [.int (nI n)]) rfl ?_
  refine Go.callS (B := B_nbf) td_nbf 1 (B' := B_nbl) (argsL := [.int (nI n)]) (rest := []) (W := 0) rfl (nbl_met K (by omega)) (w_384 K) (w_385 K) (w_22 K) (w_386 K) (by decide) pd_nbl rfl rfl rfl rfl (Nat.le_of_eq rfl) (by decide) (by decide) (by decide) (by decide) ?_
  rintro _ _ _ ⟨rfl, rfl, rfl⟩
  show Go A B_nbf D _ 4 _ [.int (nI (2 * n))] _ _ 0 0
  refine Go.newarray (B := B_nbf) td_nbf 2 (ty := .byte) (cap := 128) (vs := (List.replicate (2 * n) (.int 0))) rfl rfl (w_24 K) (by rw [nI_toInt (by omega)]; omega) (by rw [nI_nat (by omega)]; omega) (by decide) (by decide) (by decide) (by rw [nI_nat (by omega)]; rfl) ?_
  intro b
  show Go A B_nbf D _ 6 _ [.ref b] _ _ 1 128
  exact Go.retA (B := B_nbf) td_nbf 3 rfl rfl rfl rfl ⟨b, rfl, rfl, rfl⟩ (by decide) (by decide)
def tb_pch : List In1 := [(0, .getstatic 44, 3), (3, .ifCond .ne 25, 3), (6, .iload_n 1, 1), (7, .ifCond .lt 11, 3), (10, .iload_n 1, 1), (11, .aload_n 0, 1), (12, .invokestatic 48, 3), (15, .if_icmp .lt 13, 3), (18, .new 52, 3), (21, .dup, 1), (22, .ldc 54, 2), (24, .invokespecial 56, 3), (27, .athrow, 1), (28, .iload_n 1, 1), (29, .iconst 1, 1), (30, .ishl, 1), (31, .istore_n 1, 1), (32, .aload_n 0, 1), (33, .iload_n 1, 1), (34, .iinc 1 1, 3), (37, .iload_n 2, 1), (38, .getstatic 59, 3), (41, .ishr, 1), (42, .i2b, 1), (43, .bastore, 1), (44, .aload_n 0, 1), (45, .iload_n 1, 1), (46, .iload_n 2, 1), (47, .getstatic 63, 3), (50, .ishr, 1), (51, .i2b, 1), (52, .bastore, 1), (53, .return_, 1)]
set_option maxRecDepth 65536 in
theorem td_pch : Dec jdk_52_method_4_code tb_pch := by unfold Dec; decide +kernel
theorem pd_pch : parseMethodDescriptor "([BII)V" = some ⟨[(.array .byte), .int, .int], none⟩ := by decide +kernel
theorem pn_pch : plainFor (⟨"java/lang/StringUTF16", "putChar", "([BII)V"⟩ : MethodName) = true := by decide +kernel
abbrev B_pch : Bx := ((⟨"java/lang/StringUTF16", "putChar", "([BII)V"⟩ : MethodName), jdk_52_method_4_code, 3, (Option.none : Option Jvm.ClassFile.FieldType), ({ frames := 0, cells := 0, slots := 0, locals := 0 } : Room))
set_option maxRecDepth 65536 in
set_option maxHeartbeats 4000000 in
theorem pch_met {A : Ax} (K : Wd A) {b : Addr} {n : Nat} {c : Int32} {x y : Value} {xs zs : List Value} (hx : xs.length = 2 * n) (hl : (xs ++ x :: y :: zs).length < 2 ^ 31) {F G : List Ent} : Met A B_pch #[.ref b, .int (nI n), .int c] ((b, ArrP A .byte (xs ++ x :: y :: zs)) :: F) G (fun v F' G' => v = none ∧ (b, ArrP A .byte (xs ++ .int (byt8 c) :: .int (u2 c) :: zs)) :: F = F' ∧ G = G') := by
  refine MetW.of_go pn_pch K.ew (L := [.val (.ref b), .val (.int (nI n)), .val (.int c)]) (fun m => rfl) ?_
  intro D _
  have l2 : 2 * n + 1 < (xs ++ x :: y :: zs).length := by simp; omega
  refine Go.getstatic (B := B_pch) td_pch 0 rfl (w_391 K) K.s_assertionsDisabled ?_
  refine Go.if0 (B := B_pch) td_pch 1 (pc' := 28) rfl (by decide) rfl (fun _ => ?_) (fun (h : ¬ ((1 : Int32) ≠ 0)) => absurd (by decide) h)
  refine Go.run (B := B_pch) td_pch 13 8 (pc' := 38) (L' := [.val (.ref b), .val (.int (((nI n) <<< ((1 : Int32) &&& 31)) + (1 : Int32))), .val (.int c)]) (S' := [.int c, .int ((nI n) <<< ((1 : Int32) &&& 31)), .ref b]) rfl ?_
  rw [shl1 (by omega), ← nI_succ]
  show Go A B_pch D _ 38 [.val (.ref b), .val (.int (nI (2 * n + 1))), .val (.int c)] [.int c, .int (nI (2 * n)), .ref b] ((b, ArrP A .byte (xs ++ x :: y :: zs)) :: F) G 0 0
  refine Go.getstatic (B := B_pch) td_pch 21 rfl (w_392 K) K.s_HI_BYTE_SHIFT ?_
  refine Go.rn (B := B_pch) td_pch 22 2 (pc' := 43) (S' := [.int (byt8 (c >>> ((0 : Int32) &&& 31))), .int (nI (2 * n)), .ref b]) rfl ?_
  rw [shr0]
  show Go A B_pch D _ 43 [.val (.ref b), .val (.int (nI (2 * n + 1))), .val (.int c)] [.int (byt8 c), .int (nI (2 * n)), .ref b] ((b, ArrP A .byte (xs ++ x :: y :: zs)) :: F) G 0 0
  refine Go.bastore (B := B_pch) td_pch 24 (vs' := ((xs ++ x :: y :: zs).set (2 * n) (.int (byt8 c)))) rfl (nI_inB (by omega) hl) (by rw [nI_nat (by omega), byt8_byt8]) ?_
  refine Go.rn (B := B_pch) td_pch 25 3 (pc' := 47) (S' := [.int c, .int (nI (2 * n + 1)), .ref b]) rfl ?_
  refine Go.getstatic (B := B_pch) td_pch 28 rfl (w_393 K) K.s_LO_BYTE_SHIFT ?_
  refine Go.rn (B := B_pch) td_pch 29 2 (pc' := 52) (S' := [.int (byt8 (c >>> ((8 : Int32) &&& 31))), .int (nI (2 * n + 1)), .ref b]) rfl ?_
  refine Go.bastore (B := B_pch) td_pch 31 (vs' := (xs ++ .int (byt8 c) :: .int (u2 c) :: zs)) rfl (by rw [List.length_set]; exact nI_inB l2 hl) (by rw [nI_nat (by omega), byt8_byt8]; exact own_two xs x y _ _ zs (2 * n) hx.symm) ?_
  exact Go.retV (B := B_pch) td_pch 32 rfl rfl ⟨rfl, rfl, rfl⟩ (by decide) (by decide)
def tb_tob : List In1 := [(0, .iload_n 2, 1), (1, .invokestatic 107, 3), (4, .astore_n 3, 1), (5, .iconst 0, 1), (6, .istore 4, 2), (8, .iload 4, 2), (10, .iload_n 2, 1), (11, .if_icmp .ge 21, 3), (14, .aload_n 3, 1), (15, .iload 4, 2), (17, .aload_n 0, 1), (18, .iload_n 1, 1), (19, .caload, 1), (20, .invokestatic 111, 3), (23, .iinc 1 1, 3), (26, .iinc 4 1, 3), (29, .goto (-21), 3), (32, .aload_n 3, 1), (33, .areturn, 1)]
set_option maxRecDepth 65536 in
theorem td_tob : Dec jdk_52_method_14_code tb_tob := by unfold Dec; decide +kernel
theorem pd_tob : parseMethodDescriptor "([CII)[B" = some ⟨[(.array .char), .int, .int], (some (.array .byte))⟩ := by decide +kernel
theorem pn_tob : plainFor (⟨"java/lang/StringUTF16", "toBytes", "([CII)[B"⟩ : MethodName) = true := by decide +kernel
abbrev B_tob : Bx := ((⟨"java/lang/StringUTF16", "toBytes", "([CII)[B"⟩ : MethodName), jdk_52_method_14_code, 5, (Option.some (Jvm.ClassFile.FieldType.array Jvm.ClassFile.FieldType.byte)), ({ frames := 2, cells := 1, slots := 128, locals := 24 } : Room))
set_option maxRecDepth 65536 in
set_option maxHeartbeats 4000000 in
theorem tob_met {A : Ax} (K : Wd A) {a : Addr} {cs : List Int32} (hn : cs.length ≤ 64) {F G : List Ent} (m : (a, ArrP A .char (chV cs)) ∈ F ∨ (a, ArrP A .char (chV cs)) ∈ G) : Met A B_tob #[.ref a, .int 0, .int (nI cs.length)] F G (fun v F' G' => ∃ b, v = some (.ref b) ∧ (b, ArrP A .byte (utfB cs)) :: F = F' ∧ G = G') := by
  refine MetW.of_go pn_tob K.ew (L := [.val (.ref a), .val (.int 0), .val (.int (nI cs.length)), .unset, .unset]) (fun m => rfl) ?_
  intro D _
  have loop : ∀ (b : Addr) (suf pre : List Int32), cs = pre ++ suf → Go A B_tob D (fun v F' G' => ∃ b, v = some (.ref b) ∧ (b, ArrP A .byte (utfB cs)) :: F = F' ∧ G = G') 8 [.val (.ref a), .val (.int (nI pre.length)), .val (.int (nI cs.length)), .val (.ref b), .val (.int (nI pre.length))] [] ((b, ArrP A .byte (utfB pre ++ zrs2 suf)) :: F) G 1 128 := by
    intro b suf
    induction suf with
    | nil =>
      intro pre hc
      have e : cs = pre := by simpa using hc
      refine Go.rn (B := B_tob) td_tob 5 2 (pc' := 11) (S' := [.int (nI cs.length), .int (nI pre.length)]) rfl ?_
      refine Go.icmp (B := B_tob) td_tob 7 (pc' := 32) rfl (by decide) rfl (fun _ => ?_) (fun (h : ¬ ((nI pre.length) ≥ (nI cs.length))) => absurd (by rw [e]; exact Int32.le_refl _) h)
      refine Go.rn (B := B_tob) td_tob 17 1 (pc' := 33) (S' := [.ref b]) rfl ?_
      exact Go.retA (B := B_tob) td_tob 18 rfl rfl rfl rfl ⟨b, rfl, by rw [e]; simp [zrs2], rfl⟩ (by decide) (by decide)
    | cons c suf ih =>
      intro pre hc
      have hl1 : (pre ++ c :: suf).length < 2 ^ 31 := by rw [← hc]; omega
      have ml : pre.length < cs.length := by rw [hc]; simp
      have ml2 : cs.length = pre.length + (suf.length + 1) := by rw [hc]; simp
      have m2 : (a, ArrP A .char (chV (pre ++ c :: suf))) ∈ F ∨ (a, ArrP A .char (chV (pre ++ c :: suf))) ∈ G := by rw [← hc]; exact m
      have hih := ih (pre ++ [c]) (by simp [hc])
      rw [own_len_snoc, utfB_app, List.append_assoc] at hih
      refine Go.rn (B := B_tob) td_tob 5 2 (pc' := 11) (S' := [.int (nI cs.length), .int (nI pre.length)]) rfl ?_
      refine Go.icmp (B := B_tob) td_tob 7 (pc' := 32) rfl (by decide) rfl (fun (h : (nI pre.length) ≥ (nI cs.length)) => absurd h (Int32.not_le.mpr ((nI_lt (by omega) (by omega)).mpr ml))) (fun _ => ?_)
      refine Go.rn (B := B_tob) td_tob 8 4 (pc' := 19) (S' := [.int (nI pre.length), .ref a, .int (nI pre.length), .ref b]) rfl ?_
      refine Go.caload (B := B_tob) td_tob 12 (v := .int c) rfl (m2.imp (List.mem_cons_of_mem _) id) (own_chr_in _ _ _ hl1) (own_chr_get _ _ _ hl1) ?_
      refine Go.callS (B := B_tob) td_tob 13 (B' := B_pch) (argsL := [.ref b, .int (nI pre.length), .int c]) (rest := []) (W := 0) rfl (pch_met K (c := c) (x := .int 0) (y := .int 0) (xs := utfB pre) (zs := zrs2 suf) (utfB_len pre) (by simp only [List.length_append, List.length_cons, utfB_len, zrs2_len]; omega)) (w_388 K) (w_389 K) (w_22 K) (w_390 K) (by decide) pd_pch rfl rfl rfl rfl (Nat.le_of_eq rfl) (by decide) (by decide) (by decide) (by decide) ?_
      rintro _ _ _ ⟨rfl, rfl, rfl⟩
      show Go A B_tob D _ 23 _ [] ((b, ArrP A .byte (utfB pre ++ .int (byt8 c) :: .int (u2 c) :: zrs2 suf)) :: F) _ 1 128
      refine Go.run (B := B_tob) td_tob 14 3 (pc' := 8) (L' := [.val (.ref a), .val (.int ((nI pre.length) + (1 : Int32))), .val (.int (nI cs.length)), .val (.ref b), .val (.int ((nI pre.length) + (1 : Int32)))]) (S' := []) rfl ?_
      exact hih
  refine Go.rn (B := B_tob) td_tob 0 1 (pc' := 1) (S' := [.int (nI cs.length)]) rfl ?_
  refine Go.callS (B := B_tob) td_tob 1 (B' := B_nbf) (argsL := [.int (nI cs.length)]) (rest := []) (W := 0) rfl (nbf_met K hn) (w_381 K) (w_382 K) (w_22 K) (w_383 K) (by decide) pd_nbf rfl rfl rfl rfl (Nat.le_of_eq rfl) (by decide) (by decide) (by decide) (by decide) ?_
  rintro _ _ _ ⟨b, rfl, rfl, rfl⟩
  show Go A B_tob D _ 4 _ [.ref b] ((b, ArrP A .byte (List.replicate (2 * cs.length) (.int 0))) :: F) _ 1 128
  refine Go.run (B := B_tob) td_tob 2 3 (pc' := 8) (L' := [.val (.ref a), .val (.int 0), .val (.int (nI cs.length)), .val (.ref b), .val (.int (0 : Int32))]) (S' := []) rfl ?_
  rw [zrs2_rep]
  exact loop b cs [] rfl
def tb_cmb : List In1 := [(0, .iload_n 2, 1), (1, .newarray .byte, 2), (3, .astore_n 3, 1), (4, .aload_n 0, 1), (5, .iload_n 1, 1), (6, .aload_n 3, 1), (7, .iconst 0, 1), (8, .iload_n 2, 1), (9, .invokestatic 115, 3), (12, .istore 4, 2), (14, .iload 4, 2), (16, .iload_n 2, 1), (17, .if_icmp .eq 40, 3), (20, .aload_n 0, 1), (21, .iload_n 1, 1), (22, .iload_n 2, 1), (23, .invokestatic 119, 3), (26, .astore 5, 2), (28, .aload 5, 2), (30, .iload 4, 2), (32, .invokestatic 71, 3), (35, .sipush 255, 3), (38, .if_icmp .gt 16, 3), (41, .aload 5, 2), (43, .iconst 0, 1), (44, .aload_n 3, 1), (45, .iconst 0, 1), (46, .iload_n 2, 1), (47, .invokestatic 123, 3), (50, .iload_n 2, 1), (51, .if_icmp .eq 6, 3), (54, .aload 5, 2), (56, .areturn, 1), (57, .aload_n 3, 1), (58, .areturn, 1)]
set_option maxRecDepth 65536 in
theorem td_cmb : Dec jdk_52_method_16_code tb_cmb := by unfold Dec; decide +kernel
theorem pd_cmb : parseMethodDescriptor "([CII)[B" = some ⟨[(.array .char), .int, .int], (some (.array .byte))⟩ := by decide +kernel
theorem pn_cmb : plainFor (⟨"java/lang/StringUTF16", "compress", "([CII)[B"⟩ : MethodName) = true := by decide +kernel
abbrev B_cmb : Bx := ((⟨"java/lang/StringUTF16", "compress", "([CII)[B"⟩ : MethodName), jdk_52_method_16_code, 6, (Option.some (Jvm.ClassFile.FieldType.array Jvm.ClassFile.FieldType.byte)), ({ frames := 3, cells := 2, slots := 192, locals := 40 } : Room))
set_option maxRecDepth 65536 in
set_option maxHeartbeats 4000000 in
theorem cmbU_met {A : Ax} (K : Wd A) {a : Addr} {cs pre suf : List Int32} {d : Int32} (hcs : cs = pre ++ d :: suf) (hlat : Lat pre) (hd : 256 ≤ d.toInt ∧ d.toInt < 65536) (hcap : cs.length ≤ 64) {F G : List Ent} (m : (a, ArrP A .char (chV cs)) ∈ F ∨ (a, ArrP A .char (chV cs)) ∈ G) : Met A B_cmb #[.ref a, .int 0, .int (nI cs.length)] F G (fun v F' G' => ∃ b, v = some (.ref b) ∧ (b, ArrP A .byte (utfB cs)) :: F = F' ∧ G = G') := by
  refine MetW.of_go pn_cmb K.ew (L := [.val (.ref a), .val (.int 0), .val (.int (nI cs.length)), .unset, .unset, .unset]) (fun m => rfl) ?_
  intro D _
  have hd2 : 0 ≤ d.toInt ∧ d.toInt < 65536 := ⟨by omega, hd.2⟩
  have hp : pre.length < cs.length := by rw [hcs]; simp
  have ec : utfB cs = utfB pre ++ .int (byt8 d) :: .int (u2 d) :: utfB suf := by rw [hcs, utfB_app]; rfl
  refine Go.rn (B := B_cmb) td_cmb 0 1 (pc' := 1) (S' := [.int (nI cs.length)]) rfl ?_
  refine Go.newarray (B := B_cmb) td_cmb 1 (ty := .byte) (cap := 64) (vs := (List.replicate cs.length (.int 0))) rfl rfl (w_24 K) (by rw [nI_toInt (by omega)]; omega) (by rw [nI_nat (by omega)]; exact hcap) (by decide) (by decide) (by decide) (by rw [nI_nat (by omega)]; rfl) ?_
  intro b
  show Go A B_cmb D _ 3 _ [.ref b] _ _ 1 64
  refine Go.run (B := B_cmb) td_cmb 2 6 (pc' := 9) (L' := [.val (.ref a), .val (.int 0), .val (.int (nI cs.length)), .val (.ref b), .unset, .unset]) (S' := [.int (nI cs.length), .int (0 : Int32), .ref b, .int 0, .ref a]) rfl ?_
  refine Go.callS (B := B_cmb) td_cmb 8 (B' := B_cmp) (argsL := [.ref a, .int 0, .ref b, .int (0 : Int32), .int (nI cs.length)]) (rest := []) (W := 0) rfl (cmpU_met K hcs hlat hd.1 (by omega) m) (w_25 K) (w_26 K) (w_22 K) (w_27 K) (by decide) pd_cmp rfl rfl rfl rfl (Nat.le_of_eq rfl) (by decide) (by decide) (by decide) (by decide) ?_
  rintro _ _ _ ⟨rfl, ⟨P, rfl⟩, rfl⟩
  show Go A B_cmb D _ 12 _ [.int (nI pre.length)] ((b, P) :: F) _ 1 64
  refine Go.run (B := B_cmb) td_cmb 9 3 (pc' := 17) (L' := [.val (.ref a), .val (.int 0), .val (.int (nI cs.length)), .val (.ref b), .val (.int (nI pre.length)), .unset]) (S' := [.int (nI cs.length), .int (nI pre.length)]) rfl ?_
  refine Go.icmp (B := B_cmb) td_cmb 12 (pc' := 57) rfl (by decide) rfl (fun (h : (nI pre.length) = (nI cs.length)) => absurd h (fun z => absurd ((nI_lt (by omega) (by omega)).mpr hp) (by rw [z, i32_lt]; omega))) (fun _ => ?_)
  refine Go.rn (B := B_cmb) td_cmb 13 3 (pc' := 23) (S' := [.int (nI cs.length), .int 0, .ref a]) rfl ?_
  refine Go.callS (B := B_cmb) td_cmb 16 (B' := B_tob) (argsL := [.ref a, .int 0, .int (nI cs.length)]) (rest := []) (W := 0) rfl (tob_met K hcap (m.imp (List.mem_cons_of_mem _) id)) (w_378 K) (w_379 K) (w_22 K) (w_380 K) (by decide) pd_tob rfl rfl rfl rfl (Nat.le_of_eq rfl) (by decide) (by decide) (by decide) (by decide) ?_
  rintro _ _ _ ⟨b2, rfl, rfl, rfl⟩
  show Go A B_cmb D _ 26 _ [.ref b2] ((b2, ArrP A .byte (utfB cs)) :: (b, P) :: F) _ 2 192
  refine Go.run (B := B_cmb) td_cmb 17 3 (pc' := 32) (L' := [.val (.ref a), .val (.int 0), .val (.int (nI cs.length)), .val (.ref b), .val (.int (nI pre.length)), .val (.ref b2)]) (S' := [.int (nI pre.length), .ref b2]) rfl ?_
  refine Go.callS (B := B_cmb) td_cmb 20 (B' := B_gch) (argsL := [.ref b2, .int (nI pre.length)]) (rest := []) (W := 0) rfl (gch_met K (utfB_len pre) (by rw [← ec, utfB_len]; omega) (utf_join hd2) (chr16_id hd2) (Or.inl (by rw [← ec]; exact mi 0 rfl))) (w_394 K) (w_395 K) (w_22 K) (w_396 K) (by decide) pd_gch rfl rfl rfl rfl (Nat.le_of_eq rfl) (by decide) (by decide) (by decide) (by decide) ?_
  rintro _ _ _ ⟨rfl, rfl, rfl⟩
  show Go A B_cmb D _ 35 _ [.int d] _ _ 2 192
  refine Go.rn (B := B_cmb) td_cmb 21 1 (pc' := 38) (S' := [.int (255 : Int32), .int d]) rfl ?_
  refine Go.icmp (B := B_cmb) td_cmb 22 (pc' := 54) rfl (by decide) rfl (fun _ => ?_) (fun (h : ¬ (d > (255 : Int32))) => absurd (i32_lt.mpr (by have : (255 : Int32).toInt = 255 := rfl; omega)) h)
  refine Go.rn (B := B_cmb) td_cmb 31 1 (pc' := 56) (S' := [.ref b2]) rfl ?_
  refine Go.front 1 (F' := ((b, P) :: (b2, ArrP A .byte (utfB cs)) :: F)) rfl rfl ?_
  refine Go.drop ?_
  exact Go.retA (B := B_cmb) td_cmb 32 rfl rfl rfl rfl ⟨b2, rfl, rfl, rfl⟩ (by decide) (by decide)
set_option maxRecDepth 65536 in
set_option maxHeartbeats 4000000 in
theorem cmb_met {A : Ax} (K : Wd A) {a : Addr} {cs : List Int32} (hlat : Lat cs) (hcap : cs.length ≤ 64) {F G : List Ent} (m : (a, ArrP A .char (chV cs)) ∈ F ∨ (a, ArrP A .char (chV cs)) ∈ G) : Met A B_cmb #[.ref a, .int 0, .int (nI cs.length)] F G (fun v F' G' => ∃ b, v = some (.ref b) ∧ (b, ArrP A .byte (latB cs)) :: F = F' ∧ G = G') := by
  refine MetW.of_go pn_cmb K.ew (L := [.val (.ref a), .val (.int 0), .val (.int (nI cs.length)), .unset, .unset, .unset]) (fun m => rfl) ?_
  intro D _
  refine Go.rn (B := B_cmb) td_cmb 0 1 (pc' := 1) (S' := [.int (nI cs.length)]) rfl ?_
  refine Go.newarray (B := B_cmb) td_cmb 1 (ty := .byte) (cap := 64) (vs := (List.replicate cs.length (.int 0))) rfl rfl (w_24 K) (by rw [nI_toInt (by omega)]; omega) (by rw [nI_nat (by omega)]; exact hcap) (by decide) (by decide) (by decide) (by rw [nI_nat (by omega)]; rfl) ?_
  intro b
  show Go A B_cmb D _ 3 _ [.ref b] _ _ 1 64
  refine Go.run (B := B_cmb) td_cmb 2 6 (pc' := 9) (L' := [.val (.ref a), .val (.int 0), .val (.int (nI cs.length)), .val (.ref b), .unset, .unset]) (S' := [.int (nI cs.length), .int (0 : Int32), .ref b, .int 0, .ref a]) rfl ?_
  refine Go.callS (B := B_cmb) td_cmb 8 (B' := B_cmp) (argsL := [.ref a, .int 0, .ref b, .int (0 : Int32), .int (nI cs.length)]) (rest := []) (W := 0) rfl (cmp_met K hlat (by omega) m) (w_25 K) (w_26 K) (w_22 K) (w_27 K) (by decide) pd_cmp rfl rfl rfl rfl (Nat.le_of_eq rfl) (by decide) (by decide) (by decide) (by decide) ?_
  rintro _ _ _ ⟨rfl, rfl, rfl⟩
  show Go A B_cmb D _ 12 _ [.int (nI cs.length)] ((b, ArrP A .byte (latB cs)) :: F) _ 1 64
  refine Go.run (B := B_cmb) td_cmb 9 3 (pc' := 17) (L' := [.val (.ref a), .val (.int 0), .val (.int (nI cs.length)), .val (.ref b), .val (.int (nI cs.length)), .unset]) (S' := [.int (nI cs.length), .int (nI cs.length)]) rfl ?_
  refine Go.icmp (B := B_cmb) td_cmb 12 (pc' := 57) rfl (by decide) rfl ?_ ?_
  · intro (h : (nI cs.length) = (nI cs.length))
    refine Go.rn (B := B_cmb) td_cmb 33 1 (pc' := 58) (S' := [.ref b]) rfl ?_
    exact Go.retA (B := B_cmb) td_cmb 34 rfl rfl rfl rfl ⟨b, rfl, rfl, rfl⟩ (by decide) (by decide)
  · intro (h : ¬ ((nI cs.length) = (nI cs.length)))
    exact absurd rfl h
def tb_cfa : List In1 := [(0, .iload_n 1, 1), (1, .aload_n 0, 1), (2, .arraylength, 1), (3, .isub, 1), (4, .bipush 31, 2), (6, .iushr, 1), (7, .i2b, 1), (8, .ireturn, 1)]
set_option maxRecDepth 65536 in
theorem td_cfa : Dec jdk_52_method_15_code tb_cfa := by unfold Dec; decide +kernel
theorem pd_cfa : parseMethodDescriptor "([BI)B" = some ⟨[(.array .byte), .int], (some .byte)⟩ := by decide +kernel
theorem pn_cfa : plainFor (⟨"java/lang/StringUTF16", "coderFromArrayLen", "([BI)B"⟩ : MethodName) = true := by decide +kernel
abbrev B_cfa : Bx := ((⟨"java/lang/StringUTF16", "coderFromArrayLen", "([BI)B"⟩ : MethodName), jdk_52_method_15_code, 2, (Option.some Jvm.ClassFile.FieldType.byte), ({ frames := 0, cells := 0, slots := 0, locals := 0 } : Room))
set_option maxRecDepth 65536 in
set_option maxHeartbeats 4000000 in
theorem cfa_met {A : Ax} (K : Wd A) {b : Addr} {n z r : Int32} {vs : List Value} (hz : (vs.length : Int) = z.toInt) (hr : byt8 (Jvm.Free.XT.ushr (n - z) 31) = r) (hr2 : byt8 r = r) {F G : List Ent} (m' : BytE A b vs ∈ F ∨ BytE A b vs ∈ G) : Met A B_cfa #[.ref b, .int n] F G (fun v F' G' => v = some (.int r) ∧ F = F' ∧ G = G') := by
  refine MetW.of_go pn_cfa K.ew (L := [.val (.ref b), .val (.int n)]) (fun m => rfl) ?_
  intro D _
  refine Go.rn (B := B_cfa) td_cfa 0 2 (pc' := 2) (S' := [.ref b, .int n]) rfl ?_
  refine Go.arraylength (B := B_cfa) td_cfa 2 (z := z) rfl m' hz ?_
  refine Go.rn (B := B_cfa) td_cfa 3 4 (pc' := 8) (S' := [.int (byt8 (Jvm.Free.XT.ushr (n - z) (31 : Int32)))]) rfl ?_
  rw [hr]
  exact Go.retB (B := B_cfa) td_cfa 7 rfl rfl hr2 ⟨rfl, rfl, rfl⟩ (by decide) (by decide)
def tb_sin4 : List In1 := [(0, .aload_n 0, 1), (1, .invokespecial 1, 3), (4, .iload_n 3, 1), (5, .ifCond .ne 22, 3), (8, .aload_n 0, 1), (9, .ldc 7, 2), (11, .getfield 9, 3), (14, .putfield 9, 3), (17, .aload_n 0, 1), (18, .ldc 7, 2), (20, .getfield 15, 3), (23, .putfield 15, 3), (26, .return_, 1), (27, .getstatic 38, 3), (30, .ifCond .eq 28, 3), (33, .aload_n 1, 1), (34, .iload_n 2, 1), (35, .iload_n 3, 1), (36, .invokestatic 177, 3), (39, .astore 5, 2), (41, .aload_n 0, 1), (42, .aload 5, 2), (44, .iload_n 3, 1), (45, .invokestatic 47, 3), (48, .putfield 15, 3), (51, .aload_n 0, 1), (52, .aload 5, 2), (54, .putfield 9, 3), (57, .return_, 1), (58, .aload_n 0, 1), (59, .iconst 1, 1), (60, .putfield 15, 3), (63, .aload_n 0, 1), (64, .aload_n 1, 1), (65, .iload_n 2, 1), (66, .iload_n 3, 1), (67, .invokestatic 180, 3), (70, .putfield 9, 3), (73, .return_, 1)]
set_option maxRecDepth 65536 in
theorem td_sin4 : Dec jdk_42_method_149_code tb_sin4 := by unfold Dec; decide +kernel
theorem pd_sin4 : parseMethodDescriptor "([CIILjava/lang/Void;)V" = some ⟨[(.array .char), .int, .int, (.object "java/lang/Void")], none⟩ := by decide +kernel
theorem pn_sin4 : plainFor (⟨"java/lang/String", "<init>", "([CIILjava/lang/Void;)V"⟩ : MethodName) = true := by decide +kernel
abbrev B_sin4 : Bx := ((⟨"java/lang/String", "<init>", "([CIILjava/lang/Void;)V"⟩ : MethodName), jdk_42_method_149_code, 6, (Option.none : Option Jvm.ClassFile.FieldType), ({ frames := 4, cells := 4, slots := 192, locals := 57 } : Room))
abbrev ob_0 (A : Ax) (v0 v1 : Value) : Cell → Prop := ObjP A "java/lang/String" [("java/lang/String", "value", "[B", v0), ("java/lang/String", "coder", "B", v1)]
set_option maxRecDepth 65536 in
set_option maxHeartbeats 4000000 in
theorem sin4U_met {A : Ax} (K : Wd A) {s a : Addr} {cs pre suf : List Int32} {d : Int32} (hcs : cs = pre ++ d :: suf) (hlat : Lat pre) (hd : 256 ≤ d.toInt ∧ d.toInt < 65536) (hcap : cs.length ≤ 64) {F G : List Ent} (m : (a, ArrP A .char (chV cs)) ∈ F ∨ (a, ArrP A .char (chV cs)) ∈ G) : Met A B_sin4 #[.ref s, .ref a, .int 0, .int (nI cs.length), .null] ((s, ob_0 A .null (.int (0 : Int32))) :: F) G (fun v F' G' => v = none ∧ F = F' ∧ ∃ b, StrE A s b 1 :: BytE A b (utfB cs) :: G = G') := by
  refine MetW.of_go pn_sin4 K.ew (L := [.val (.ref s), .val (.ref a), .val (.int 0), .val (.int (nI cs.length)), .val (.null), .unset]) (fun m => rfl) ?_
  intro D _
  obtain ⟨z, nz, hz⟩ := K.cmpt
  have hp : 0 < cs.length := by rw [hcs, List.length_append, List.length_cons]; omega
  refine Go.rn (B := B_sin4) td_sin4 0 1 (pc' := 1) (S' := [.ref s]) rfl ?_
  refine Go.initObject (B := B_sin4) td_sin4 1 (W := 0) rfl (w_16 K) (w_17 K) (w_18 K) rfl (by decide) (Nat.le_of_eq rfl) (by decide) ?_
  refine Go.rn (B := B_sin4) td_sin4 2 1 (pc' := 5) (S' := [.int (nI cs.length)]) rfl ?_
  refine Go.if0 (B := B_sin4) td_sin4 3 (pc' := 27) rfl (by decide) rfl (fun _ => ?_) (fun (h : ¬ ((nI cs.length) ≠ 0)) => absurd (fun z => by have h1 := nI_toInt (n := cs.length) (by omega); rw [z] at h1; have : (0 : Int32).toInt = 0 := rfl; omega) h)
  refine Go.getstatic (B := B_sin4) td_sin4 13 rfl (w_19 K) hz ?_
  refine Go.if0 (B := B_sin4) td_sin4 14 (pc' := 58) rfl (by decide) rfl (fun (h : z = 0) => absurd h nz) (fun _ => ?_)
  refine Go.rn (B := B_sin4) td_sin4 15 3 (pc' := 36) (S' := [.int (nI cs.length), .int 0, .ref a]) rfl ?_
  refine Go.callS (B := B_sin4) td_sin4 18 (B' := B_cmb) (argsL := [.ref a, .int 0, .int (nI cs.length)]) (rest := []) (W := 0) rfl (cmbU_met K hcs hlat hd hcap (m.imp (List.mem_cons_of_mem _) id)) (w_20 K) (w_21 K) (w_22 K) (w_23 K) (by decide) pd_cmb rfl rfl rfl rfl (Nat.le_of_eq rfl) (by decide) (by decide) (by decide) (by decide) ?_
  rintro _ _ _ ⟨b, rfl, rfl, rfl⟩
  show Go A B_sin4 D _ 39 _ [.ref b] ((b, ArrP A .byte (utfB cs)) :: (s, ob_0 A .null (.int (0 : Int32))) :: F) _ 2 192
  refine Go.run (B := B_sin4) td_sin4 19 4 (pc' := 45) (L' := [.val (.ref s), .val (.ref a), .val (.int 0), .val (.int (nI cs.length)), .val (.null), .val (.ref b)]) (S' := [.int (nI cs.length), .ref b, .ref s]) rfl ?_
  refine Go.callS (B := B_sin4) td_sin4 23 (B' := B_cfa) (argsL := [.ref b, .int (nI cs.length)]) (rest := [.ref s]) (W := 1) rfl (cfa_met K (z := nI (2 * cs.length)) (r := 1) (by rw [utfB_len, nI_toInt (by omega)]) (own_cfa hp (by omega)) rfl (Or.inl (mi 0 rfl))) (w_28 K) (w_29 K) (w_22 K) (w_30 K) (by decide) pd_cfa rfl rfl rfl rfl (Nat.le_of_eq rfl) (by decide) (by decide) (by decide) (by decide) ?_
  rintro _ _ _ ⟨rfl, rfl, rfl⟩
  show Go A B_sin4 D _ 48 _ [.int (1 : Int32), .ref s] _ _ 2 192
  refine Go.front 1 (F' := ((s, ob_0 A .null (.int (0 : Int32))) :: (b, ArrP A .byte (utfB cs)) :: F)) rfl rfl ?_
  refine Go.putfield (B := B_sin4) td_sin4 24 (fs' := [("java/lang/String", "value", "[B", .null), ("java/lang/String", "coder", "B", .int (1 : Int32))]) rfl (w_31 K) (Or.inr ⟨(w_32 K), rfl, rfl⟩) (w_7 K) rfl rfl rfl (mi 1 rfl) (own_fs 1 (ns := ["value"]) rfl (by decide) rfl) ?_
  refine Go.rn (B := B_sin4) td_sin4 25 2 (pc' := 54) (S' := [.ref b, .ref s]) rfl ?_
  refine Go.putfield (B := B_sin4) td_sin4 27 (fs' := [("java/lang/String", "value", "[B", .ref b), ("java/lang/String", "coder", "B", .int (1 : Int32))]) rfl (w_33 K) (Or.inr ⟨(w_34 K), rfl, rfl⟩) (w_7 K) rfl rfl rfl (mi 0 rfl) (own_fs 0 (ns := ["coder"]) rfl (by decide) rfl) ?_
  refine Go.front 1 (F' := ((b, ArrP A .byte (utfB cs)) :: (s, ob_0 A (.ref b) (.int (1 : Int32))) :: F)) rfl rfl ?_
  refine Go.freeze ?_
  refine Go.freeze ?_
  exact Go.retV (B := B_sin4) td_sin4 28 rfl rfl ⟨rfl, rfl, b, rfl⟩ (by decide) (by decide)
set_option maxRecDepth 65536 in
set_option maxHeartbeats 4000000 in
theorem sin4_met {A : Ax} (K : Wd A) {s a : Addr} {cs : List Int32} (hlat : Lat cs) (hcap : cs.length ≤ 64) {F G : List Ent} (m : (a, ArrP A .char (chV cs)) ∈ F ∨ (a, ArrP A .char (chV cs)) ∈ G) : Met A B_sin4 #[.ref s, .ref a, .int 0, .int (nI cs.length), .null] ((s, ob_0 A .null (.int (0 : Int32))) :: F) G (fun v F' G' => v = none ∧ F = F' ∧ ∃ b, StrE A s b 0 :: BytE A b (latB cs) :: G = G') := by
  refine MetW.of_go pn_sin4 K.ew (L := [.val (.ref s), .val (.ref a), .val (.int 0), .val (.int (nI cs.length)), .val (.null), .unset]) (fun m => rfl) ?_
  intro D _
  refine Go.rn (B := B_sin4) td_sin4 0 1 (pc' := 1) (S' := [.ref s]) rfl ?_
  refine Go.initObject (B := B_sin4) td_sin4 1 (W := 0) rfl (w_16 K) (w_17 K) (w_18 K) rfl (by decide) (Nat.le_of_eq rfl) (by decide) ?_
  refine Go.rn (B := B_sin4) td_sin4 2 1 (pc' := 5) (S' := [.int (nI cs.length)]) rfl ?_
  refine Go.if0 (B := B_sin4) td_sin4 3 (pc' := 27) rfl (by decide) rfl ?_ ?_
  · intro (h0 : (nI cs.length) ≠ 0)
    obtain ⟨z, nz, hz⟩ := K.cmpt
    refine Go.getstatic (B := B_sin4) td_sin4 13 rfl (w_19 K) hz ?_
    refine Go.if0 (B := B_sin4) td_sin4 14 (pc' := 58) rfl (by decide) rfl ?_ ?_
    · intro (h : z = 0)
      exact absurd h nz
    · intro (h : ¬ (z = 0))
      refine Go.rn (B := B_sin4) td_sin4 15 3 (pc' := 36) (S' := [.int (nI cs.length), .int 0, .ref a]) rfl ?_
      refine Go.callS (B := B_sin4) td_sin4 18 (B' := B_cmb) (argsL := [.ref a, .int 0, .int (nI cs.length)]) (rest := []) (W := 0) rfl (cmb_met K hlat hcap (m.imp (List.mem_cons_of_mem _) id)) (w_20 K) (w_21 K) (w_22 K) (w_23 K) (by decide) pd_cmb rfl rfl rfl rfl (Nat.le_of_eq rfl) (by decide) (by decide) (by decide) (by decide) ?_
      rintro _ _ _ ⟨b, rfl, rfl, rfl⟩
      show Go A B_sin4 D _ 39 _ [.ref b] ((b, ArrP A .byte (latB cs)) :: (s, ob_0 A .null (.int (0 : Int32))) :: F) _ 2 192
      refine Go.run (B := B_sin4) td_sin4 19 4 (pc' := 45) (L' := [.val (.ref s), .val (.ref a), .val (.int 0), .val (.int (nI cs.length)), .val (.null), .val (.ref b)]) (S' := [.int (nI cs.length), .ref b, .ref s]) rfl ?_
      refine Go.callS (B := B_sin4) td_sin4 23 (B' := B_cfa) (argsL := [.ref b, .int (nI cs.length)]) (rest := [.ref s]) (W := 1) rfl (cfa_met K (z := nI cs.length) (r := 0) (by rw [latB_len, nI_toInt (by omega)]) (by rw [Int32.sub_self]; decide) rfl (Or.inl (mi 0 rfl))) (w_28 K) (w_29 K) (w_22 K) (w_30 K) (by decide) pd_cfa rfl rfl rfl rfl (Nat.le_of_eq rfl) (by decide) (by decide) (by decide) (by decide) ?_
      rintro _ _ _ ⟨rfl, rfl, rfl⟩
      show Go A B_sin4 D _ 48 _ [.int (0 : Int32), .ref s] _ _ 2 192
      refine Go.front 1 (F' := ((s, ob_0 A .null (.int (0 : Int32))) :: (b, ArrP A .byte (latB cs)) :: F)) rfl rfl ?_
      refine Go.putfield (B := B_sin4) td_sin4 24 (fs' := [("java/lang/String", "value", "[B", .null), ("java/lang/String", "coder", "B", .int (0 : Int32))]) rfl (w_31 K) (Or.inr ⟨(w_32 K), rfl, rfl⟩) (w_7 K) rfl rfl rfl (mi 1 rfl) (own_fs 1 (ns := ["value"]) rfl (by decide) rfl) ?_
      refine Go.rn (B := B_sin4) td_sin4 25 2 (pc' := 54) (S' := [.ref b, .ref s]) rfl ?_
      refine Go.putfield (B := B_sin4) td_sin4 27 (fs' := [("java/lang/String", "value", "[B", .ref b), ("java/lang/String", "coder", "B", .int (0 : Int32))]) rfl (w_33 K) (Or.inr ⟨(w_34 K), rfl, rfl⟩) (w_7 K) rfl rfl rfl (mi 0 rfl) (own_fs 0 (ns := ["coder"]) rfl (by decide) rfl) ?_
      refine Go.front 1 (F' := ((b, ArrP A .byte (latB cs)) :: (s, ob_0 A (.ref b) (.int (0 : Int32))) :: F)) rfl rfl ?_
      refine Go.freeze ?_
      refine Go.freeze ?_
      exact Go.retV (B := B_sin4) td_sin4 28 rfl rfl ⟨rfl, rfl, b, rfl⟩ (by decide) (by decide)
  · intro (h0 : ¬ ((nI cs.length) ≠ 0))
    have e0 : cs = [] := by
      have h1 : nI cs.length = 0 := Decidable.not_not.mp h0
      have h2 := nI_toInt (n := cs.length) (by omega)
      rw [h1] at h2
      exact List.length_eq_zero_iff.mp (by have : (0 : Int32).toInt = 0 := rfl; omega)
    refine Go.rn (B := B_sin4) td_sin4 4 1 (pc' := 9) (S' := [.ref s]) rfl ?_
    refine Go.ldcS (B := B_sin4) td_sin4 5 (n := 0) (vs := (latB [])) rfl (w_437 K) (strAtoms K) (by rw [show A.EL = consts_1 from K.el]; decide) K.wm (by decide +kernel) (by decide) (by decide) (by decide) (by decide) (by decide) ?_
    intro a1 b1
    show Go A B_sin4 D _ 11 _ [.ref a1, .ref s] _ _ 2 4
    refine Go.getfield (B := B_sin4) td_sin4 6 rfl (w_33 K) (Or.inr (mi 0 rfl)) (mi 0 rfl) ?_
    refine Go.putfield (B := B_sin4) td_sin4 7 (fs' := [("java/lang/String", "value", "[B", .ref b1), ("java/lang/String", "coder", "B", .int (0 : Int32))]) rfl (w_33 K) (Or.inr ⟨(w_34 K), rfl, rfl⟩) (w_7 K) rfl rfl rfl (mi 0 rfl) (own_fs 0 (ns := ["coder"]) rfl (by decide) rfl) ?_
    refine Go.rn (B := B_sin4) td_sin4 8 1 (pc' := 18) (S' := [.ref s]) rfl ?_
    refine Go.ldcS (B := B_sin4) td_sin4 9 (n := 0) (vs := (latB [])) rfl (w_437 K) (strAtoms K) (by rw [show A.EL = consts_1 from K.el]; decide) K.wm (by decide +kernel) (by decide) (by decide) (by decide) (by decide) (by decide) ?_
    intro a2 b2
    show Go A B_sin4 D _ 20 _ [.ref a2, .ref s] _ _ 4 8
    refine Go.getfield (B := B_sin4) td_sin4 10 rfl (w_31 K) (Or.inr (mi 0 rfl)) (mi 1 rfl) ?_
    refine Go.putfield (B := B_sin4) td_sin4 11 (fs' := [("java/lang/String", "value", "[B", .ref b1), ("java/lang/String", "coder", "B", .int (0 : Int32))]) rfl (w_31 K) (Or.inr ⟨(w_32 K), rfl, rfl⟩) (w_7 K) rfl rfl rfl (mi 1 rfl) (own_fs 1 (ns := ["value"]) rfl (by decide) rfl) ?_
    refine Go.freeze ?_
    refine Go.gsub (G' := (StrE A s b1 0 :: BytE A b1 (latB cs) :: G)) (own_subS (mi 0 rfl) (own_subS (by rw [e0]; exact mi 4 rfl) fun x h => .tail _ (.tail _ (.tail _ (.tail _ (.tail _ h)))))) ?_
    exact Go.retV (B := B_sin4) td_sin4 12 rfl rfl ⟨rfl, rfl, b1, rfl⟩ (by decide) (by decide)
def tb_sin : List In1 := [(0, .aload_n 0, 1), (1, .aload_n 1, 1), (2, .iconst 0, 1), (3, .aload_n 1, 1), (4, .arraylength, 1), (5, .aconst_null, 1), (6, .invokespecial 27, 3), (9, .return_, 1)]
set_option maxRecDepth 65536 in
theorem td_sin : Dec jdk_42_method_3_code tb_sin := by unfold Dec; decide +kernel
theorem pd_sin : parseMethodDescriptor "([C)V" = some ⟨[(.array .char)], none⟩ := by decide +kernel
theorem pn_sin : plainFor (⟨"java/lang/String", "<init>", "([C)V"⟩ : MethodName) = true := by decide +kernel
abbrev B_sin : Bx := ((⟨"java/lang/String", "<init>", "([C)V"⟩ : MethodName), jdk_42_method_3_code, 2, (Option.none : Option Jvm.ClassFile.FieldType), ({ frames := 5, cells := 4, slots := 192, locals := 74 } : Room))
set_option maxRecDepth 65536 in
set_option maxHeartbeats 4000000 in
theorem sinU_met {A : Ax} (K : Wd A) {s a : Addr} {cs pre suf : List Int32} {d : Int32} (hcs : cs = pre ++ d :: suf) (hlat : Lat pre) (hd : 256 ≤ d.toInt ∧ d.toInt < 65536) (hcap : cs.length ≤ 64) {F G : List Ent} (m : (a, ArrP A .char (chV cs)) ∈ F ∨ (a, ArrP A .char (chV cs)) ∈ G) : Met A B_sin #[.ref s, .ref a] ((s, ob_0 A .null (.int (0 : Int32))) :: F) G (fun v F' G' => v = none ∧ F = F' ∧ ∃ b, StrE A s b 1 :: BytE A b (utfB cs) :: G = G') := by
  refine MetW.of_go pn_sin K.ew (L := [.val (.ref s), .val (.ref a)]) (fun m => rfl) ?_
  intro D _
  refine Go.rn (B := B_sin) td_sin 0 4 (pc' := 4) (S' := [.ref a, .int (0 : Int32), .ref a, .ref s]) rfl ?_
  refine Go.arraylength (B := B_sin) td_sin 4 (z := (nI cs.length)) rfl (m.imp (List.mem_cons_of_mem _) id) (by rw [List.length_map, nI_toInt (by omega)]) ?_
  refine Go.rn (B := B_sin) td_sin 5 1 (pc' := 6) (S' := [.null, .int (nI cs.length), .int (0 : Int32), .ref a, .ref s]) rfl ?_
  refine Go.callN (B := B_sin) td_sin 6 (B' := B_sin4) (a := s) (argsL := [.ref a, .int (0 : Int32), .int (nI cs.length), .null]) (rest := []) (W := 0) rfl (sin4U_met K hcs hlat hd hcap m) rfl rfl (w_12 K) (w_13 K) (w_8 K) (w_15 K) (by decide) pd_sin4 rfl rfl rfl rfl (Nat.le_of_eq rfl) (by decide) (by decide) (by decide) (by decide) ?_
  rintro _ _ _ ⟨rfl, rfl, b, rfl⟩
  show Go A B_sin D _ 9 _ [] F (StrE A s b 1 :: (b, ArrP A .byte (utfB cs)) :: G) 4 192
  exact Go.retV (B := B_sin) td_sin 7 rfl rfl ⟨rfl, rfl, b, rfl⟩ (by decide) (by decide)
set_option maxRecDepth 65536 in
set_option maxHeartbeats 4000000 in
theorem sin_met {A : Ax} (K : Wd A) {s a : Addr} {cs : List Int32} (hlat : Lat cs) (hcap : cs.length ≤ 64) {F G : List Ent} (m : (a, ArrP A .char (chV cs)) ∈ F ∨ (a, ArrP A .char (chV cs)) ∈ G) : Met A B_sin #[.ref s, .ref a] ((s, ob_0 A .null (.int (0 : Int32))) :: F) G (fun v F' G' => v = none ∧ F = F' ∧ ∃ b, StrE A s b 0 :: BytE A b (latB cs) :: G = G') := by
  refine MetW.of_go pn_sin K.ew (L := [.val (.ref s), .val (.ref a)]) (fun m => rfl) ?_
  intro D _
  refine Go.rn (B := B_sin) td_sin 0 4 (pc' := 4) (S' := [.ref a, .int (0 : Int32), .ref a, .ref s]) rfl ?_
  refine Go.arraylength (B := B_sin) td_sin 4 (z := (nI cs.length)) rfl (m.imp (List.mem_cons_of_mem _) id) (by rw [List.length_map, nI_toInt (by omega)]) ?_
  refine Go.rn (B := B_sin) td_sin 5 1 (pc' := 6) (S' := [.null, .int (nI cs.length), .int (0 : Int32), .ref a, .ref s]) rfl ?_
  refine Go.callN (B := B_sin) td_sin 6 (B' := B_sin4) (a := s) (argsL := [.ref a, .int (0 : Int32), .int (nI cs.length), .null]) (rest := []) (W := 0) rfl (sin4_met K hlat hcap m) rfl rfl (w_12 K) (w_13 K) (w_8 K) (w_15 K) (by decide) pd_sin4 rfl rfl rfl rfl (Nat.le_of_eq rfl) (by decide) (by decide) (by decide) (by decide) ?_
  rintro _ _ _ ⟨rfl, rfl, b, rfl⟩
  show Go A B_sin D _ 9 _ [] F (StrE A s b 0 :: (b, ArrP A .byte (latB cs)) :: G) 4 192
  exact Go.retV (B := B_sin) td_sin 7 rfl rfl ⟨rfl, rfl, b, rfl⟩ (by decide) (by decide)
theorem lenL_met {A : Ax} (K : Wd A) {a b : Addr} {cs : List Int32} (hlen : cs.length < 2 ^ 31) {F G : List Ent} (m : StrE A a b 0 ∈ F ∨ StrE A a b 0 ∈ G) (m' : BytE A b (latB cs) ∈ F ∨ BytE A b (latB cs) ∈ G) : Met A B_len #[.ref a] F G (fun v F' G' => v = some (.int (nI cs.length)) ∧ F = F' ∧ G = G') :=
  len_met K (z := nI cs.length) rfl (by rw [latB_len, nI_toInt hlen]) (shr0 _) m m'
theorem chaL_met {A : Ax} (K : Wd A) {a b : Addr} {cs pre suf : List Int32} {c j : Int32} (hc : cs = pre ++ c :: suf) (hj : j = nI pre.length) (hlat : Lat cs) (hlen : cs.length < 2 ^ 31) {F G : List Ent} (m : StrE A a b 0 ∈ F ∨ StrE A a b 0 ∈ G) (m' : BytE A b (latB cs) ∈ F ∨ BytE A b (latB cs) ∈ G) : Met A B_cha #[.ref a, .int j] F G (fun v F' G' => v = some (.int c) ∧ F = F' ∧ G = G') := by
  have hc1 := hlat c (by rw [hc]; simp)
  have hp : pre.length < cs.length := by rw [hc]; simp
  refine cha_met K (z := nI cs.length) (x := byt8 c) (by rw [latB_len, nI_toInt hlen]) (by rw [latB_len, hj]; exact nI_inB hp hlen) ?_ ?_ (chr16_id ⟨hc1.1, by omega⟩) m m'
  · rw [hj, nI_nat (by omega), hc]
    simp [latB]
  · rw [byt8_and hc1]; exact chr16_id ⟨hc1.1, by omega⟩
theorem sinR_met {A : Ax} (K : Wd A) {s a : Addr} {cs : List Int32} (hch : Chrs cs) (hcap : cs.length ≤ 64) {F G : List Ent} (m : (a, ArrP A .char (chV cs)) ∈ F ∨ (a, ArrP A .char (chV cs)) ∈ G) :
    Met A B_sin #[.ref s, .ref a] ((s, ob_0 A .null (.int (0 : Int32))) :: F) G (fun v F' G' => v = none ∧ F = F' ∧ ∃ q1 q2, q1 :: q2 :: G = G' ∧ StrR A (q1 :: q2 :: G) s cs) := by
  by_cases hl : Lat cs
  · refine (sin_met K hl hcap m).weak ?_
    rintro _ _ _ ⟨rfl, rfl, b, rfl⟩
    exact ⟨rfl, rfl, _, _, rfl, b, Or.inl ⟨hl, mi 0 rfl, mi 1 rfl⟩⟩
  · obtain ⟨pre, d, suf, hcs, h1, h2⟩ := lat_split hch hl
    refine (sinU_met K hcs h1 ⟨h2, (hch d (by rw [hcs]; simp)).2⟩ hcap m).weak ?_
    rintro _ _ _ ⟨rfl, rfl, b, rfl⟩
    exact ⟨rfl, rfl, _, _, rfl, b, Or.inr ⟨⟨hch, hl⟩, mi 0 rfl, mi 1 rfl⟩⟩
theorem lenR_met {A : Ax} (K : Wd A) {a : Addr} {cs : List Int32} (hlen : 2 * cs.length < 2 ^ 31) {F G : List Ent} (m : StrR A G a cs) : Met A B_len #[.ref a] F G (fun v F' G' => v = some (.int (nI cs.length)) ∧ F = F' ∧ G = G') := by
  obtain ⟨b, ⟨-, h2, h3⟩ | ⟨-, h2, h3⟩⟩ := m
  · exact lenL_met K (by omega) (Or.inr h2) (Or.inr h3)
  · exact len_met K (z := nI (2 * cs.length)) rfl (by rw [utfB_len, nI_toInt hlen]) (shr1 hlen) (Or.inr h2) (Or.inr h3)
theorem chaR_met {A : Ax} (K : Wd A) {a : Addr} {cs pre suf : List Int32} {c j : Int32} (hc : cs = pre ++ c :: suf) (hj : j = nI pre.length) (hlen : 2 * cs.length < 2 ^ 31) {F G : List Ent} (m : StrR A G a cs) : Met A B_cha #[.ref a, .int j] F G (fun v F' G' => v = some (.int c) ∧ F = F' ∧ G = G') := by
  obtain ⟨b, ⟨h1, h2, h3⟩ | ⟨h1, h2, h3⟩⟩ := m
  · exact chaL_met K hc hj h1 (by omega) (Or.inr h2) (Or.inr h3)
  · rw [hj]; exact chaU_met K hc h1.1 hlen (Or.inr h2) (Or.inr h3)
--CUT
theorem nI_add1 (n : Nat) : nI n + 1 = nI (n + 1) := (nI_succ n).symm
theorem nI_sub {a b : Nat} (h : a + b < 2 ^ 31) : nI (a + b) - nI a = nI b := by
  rw [i32_eq]
  have h1 := c_isub (nI (a + b)) (nI a)
  rw [nI_toInt h, nI_toInt (by omega)] at h1
  have h2 := rng32 (nI (a + b) - nI a)
  rw [nI_toInt (by omega)]; omega
theorem nI_addn {a b : Nat} : nI a + nI b = nI (a + b) := by
  show Int32.ofNat a + Int32.ofNat b = Int32.ofNat (a + b)
  rw [Int32.ofNat_add]
theorem Chrs.app {xs ys : List Int32} (h1 : Chrs xs) (h2 : Chrs ys) : Chrs (xs ++ ys) := fun c m => (List.mem_append.mp m).elim (h1 c) (h2 c)
theorem Chrs.drop {xs : List Int32} (h : Chrs xs) (n : Nat) : Chrs (xs.drop n) := fun c m => h c (List.mem_of_mem_drop m)
theorem Chrs.take {xs : List Int32} (h : Chrs xs) (n : Nat) : Chrs (xs.take n) := fun c m => h c (List.mem_of_mem_take m)
theorem Chrs.set {xs : List Int32} (h : Chrs xs) {n : Nat} {c : Int32} (hc : 0 ≤ c.toInt ∧ c.toInt < 65536) : Chrs (xs.set n c) := fun x m => by
  rcases List.mem_or_eq_of_mem_set m with m | m
  · exact h x m
  · rw [m]; exact hc
theorem fits_byt (c : Int32) : fits .byte (.int (byt8 c)) = true := by
  have := byt8_toInt c
  simp only [fits, Bool.and_eq_true, decide_eq_true_eq, i32_le]
  have e1 : (127 : Int32).toInt = 127 := by decide
  have e0 : (-128 : Int32).toInt = -128 := by decide
  omega
theorem fits_lat (cs : List Int32) : FitsL .byte (latB cs) := fun v m => by
  obtain ⟨c, hc, rfl⟩ := List.mem_map.mp m
  exact fits_byt c
theorem fits_utf : ∀ cs : List Int32, FitsL .byte (utfB cs)
  | [], v, m => by cases m
  | c :: r, v, m => by
    rcases List.mem_cons.mp m with rfl | m
    · exact fits_byt c
    · rcases List.mem_cons.mp m with rfl | m
      · exact fits_byt _
      · exact fits_utf r v m
theorem fits_zero (n : Nat) : FitsL .byte (List.replicate n (.int 0)) := fun v m => by rw [List.eq_of_mem_replicate m]; decide
theorem latB_app (xs ys : List Int32) : latB (xs ++ ys) = latB xs ++ latB ys := List.map_append
theorem lat_rep (n : Nat) : List.replicate n (Value.int 0) = latB (List.replicate n 0) := by
  show _ = List.map (fun c => Value.int (byt8 c)) (List.replicate n 0)
  rw [List.map_replicate]; rfl
theorem utf_rep : ∀ n : Nat, List.replicate (2 * n) (Value.int 0) = utfB (List.replicate n 0)
  | 0 => rfl
  | n + 1 => by
    rw [show 2 * (n + 1) = 2 * n + 1 + 1 by omega, List.replicate_succ, List.replicate_succ, utf_rep n, List.replicate_succ]; rfl
theorem lat_pad {xs : List Int32} {m : Nat} : latB xs ++ List.replicate (m - (latB xs).length) (Value.int 0) = latB (xs ++ List.replicate (m - xs.length) 0) := by rw [latB_len, lat_rep, latB_app]
theorem utf_pad {xs : List Int32} {m : Nat} : utfB xs ++ List.replicate (2 * m - (utfB xs).length) (Value.int 0) = utfB (xs ++ List.replicate (m - xs.length) 0) := by rw [utfB_len, show 2 * m - 2 * xs.length = 2 * (m - xs.length) by omega, utf_rep, utfB_app]
theorem max_nI {b p : Nat} (hb : b < 2 ^ 31) (hp : p < 2 ^ 31) : (if nI b < nI p then nI p else nI b) = nI (max b p) := by
  by_cases h : b < p
  · rw [if_pos ((nI_lt hb hp).mpr h), Nat.max_eq_right (by omega)]
  · rw [if_neg (fun z => h ((nI_lt hb hp).mp z)), Nat.max_eq_left (by omega)]
theorem nI_subn {a b : Nat} (h : b ≤ a) (ha : a < 2 ^ 31) : nI a - nI b = nI (a - b) := by
  have := nI_sub (a := b) (b := a - b) (by omega)
  rw [show b + (a - b) = a by omega] at this; exact this
theorem nI_app (xs ys : List Int32) : nI xs.length + nI ys.length = nI (xs ++ ys).length := by rw [List.length_append, nI_addn]
theorem nI_ne {a b : Nat} (ha : a < 2 ^ 31) (hb : b < 2 ^ 31) (h : a ≠ b) : nI a ≠ nI b := fun z => h (by have q := congrArg Int32.toInt z; rw [nI_toInt ha, nI_toInt hb] at q; omega)
def ncap (l k : Nat) : Nat := l + max (k - l) (l + 2)
theorem ncap_lt {l k : Nat} : l < ncap l k ∧ (l ≤ k → k ≤ ncap l k) := by unfold ncap; omega
theorem ncap_le {l k : Nat} (h : l < k) (hk : k ≤ 32) : ncap l k ≤ 64 := by unfold ncap; omega
theorem ncap2 {l k : Nat} (h : l ≤ k) : 2 * l + max (2 * k - 2 * l) (2 * l + 4) = 2 * ncap l k := by unfold ncap; omega
theorem utf_mid (xs ys : List Int32) (c : Int32) : utfB (xs ++ c :: ys) = utfB xs ++ .int (byt8 c) :: .int (u2 c) :: utfB ys := by rw [utfB_app]; rfl
theorem Lat.app {xs ys : List Int32} (h1 : Lat xs) (h2 : Lat ys) : Lat (xs ++ ys) := fun c m => (List.mem_append.mp m).elim (h1 c) (h2 c)
theorem lat_appL {xs ys : List Int32} (h : Lat (xs ++ ys)) : Lat xs := fun c m => h c (List.mem_append_left _ m)
theorem take_all {α : Type} (xs ys : List α) (n : Nat) (h : n = xs.length) : (xs ++ ys).take n = xs := by subst h; simp
def tb_mx : List In1 := [(0, .iload_n 0, 1), (1, .iload_n 1, 1), (2, .if_icmp .lt 7, 3), (5, .iload_n 0, 1), (6, .goto 4, 3), (9, .iload_n 1, 1), (10, .ireturn, 1)]
set_option maxRecDepth 65536 in
theorem td_mx : Dec jdk_29_method_65_code tb_mx := by unfold Dec; decide +kernel
theorem pd_mx : parseMethodDescriptor "(II)I" = some ⟨[.int, .int], (some .int)⟩ := by decide +kernel
theorem pn_mx : plainFor (⟨"java/lang/Math", "max", "(II)I"⟩ : MethodName) = true := by decide +kernel
abbrev B_mx : Bx := ((⟨"java/lang/Math", "max", "(II)I"⟩ : MethodName), jdk_29_method_65_code, 2, (Option.some Jvm.ClassFile.FieldType.int), ({ frames := 0, cells := 0, slots := 0, locals := 0 } : Room))
set_option maxRecDepth 65536 in
set_option maxHeartbeats 4000000 in
theorem mx_met {A : Ax} (K : Wd A) {a b r : Int32} (hr : (if a < b then b else a) = r) {F G : List Ent} : Met A B_mx #[.int a, .int b] F G (fun v F' G' => v = some (.int r) ∧ F = F' ∧ G = G') := by
  refine MetW.of_go pn_mx K.ew (L := [.val (.int a), .val (.int b)]) (fun m => rfl) ?_
  intro D _
  refine Go.rn (B := B_mx) td_mx 0 2 (pc' := 2) (S' := [.int b, .int a]) rfl ?_
  refine Go.icmp (B := B_mx) td_mx 2 (pc' := 9) rfl (by decide) rfl ?_ ?_
  · intro (h : a < b)
    refine Go.rn (B := B_mx) td_mx 5 1 (pc' := 10) (S' := [.int b]) rfl ?_
    exact Go.retI (B := B_mx) td_mx 6 rfl rfl ⟨by rw [← hr, if_pos h], rfl, rfl⟩ (by decide) (by decide)
  · intro (h : ¬ (a < b))
    refine Go.rn (B := B_mx) td_mx 3 2 (pc' := 10) (S' := [.int a]) rfl ?_
    exact Go.retI (B := B_mx) td_mx 6 rfl rfl ⟨by rw [← hr, if_neg h], rfl, rfl⟩ (by decide) (by decide)
def tb_mn : List In1 := [(0, .iload_n 0, 1), (1, .iload_n 1, 1), (2, .if_icmp .gt 7, 3), (5, .iload_n 0, 1), (6, .goto 4, 3), (9, .iload_n 1, 1), (10, .ireturn, 1)]
set_option maxRecDepth 65536 in
theorem td_mn : Dec jdk_29_method_69_code tb_mn := by unfold Dec; decide +kernel
theorem pd_mn : parseMethodDescriptor "(II)I" = some ⟨[.int, .int], (some .int)⟩ := by decide +kernel
theorem pn_mn : plainFor (⟨"java/lang/Math", "min", "(II)I"⟩ : MethodName) = true := by decide +kernel
abbrev B_mn : Bx := ((⟨"java/lang/Math", "min", "(II)I"⟩ : MethodName), jdk_29_method_69_code, 2, (Option.some Jvm.ClassFile.FieldType.int), ({ frames := 0, cells := 0, slots := 0, locals := 0 } : Room))
set_option maxRecDepth 65536 in
set_option maxHeartbeats 4000000 in
theorem mn_met {A : Ax} (K : Wd A) {a b r : Int32} (hr : (if a > b then b else a) = r) {F G : List Ent} : Met A B_mn #[.int a, .int b] F G (fun v F' G' => v = some (.int r) ∧ F = F' ∧ G = G') := by
  refine MetW.of_go pn_mn K.ew (L := [.val (.int a), .val (.int b)]) (fun m => rfl) ?_
  intro D _
  refine Go.rn (B := B_mn) td_mn 0 2 (pc' := 2) (S' := [.int b, .int a]) rfl ?_
  refine Go.icmp (B := B_mn) td_mn 2 (pc' := 9) rfl (by decide) rfl ?_ ?_
  · intro (h : a > b)
    refine Go.rn (B := B_mn) td_mn 5 1 (pc' := 10) (S' := [.int b]) rfl ?_
    exact Go.retI (B := B_mn) td_mn 6 rfl rfl ⟨by rw [← hr, if_pos h], rfl, rfl⟩ (by decide) (by decide)
  · intro (h : ¬ (a > b))
    refine Go.rn (B := B_mn) td_mn 3 2 (pc' := 10) (S' := [.int a]) rfl ?_
    exact Go.retI (B := B_mn) td_mn 6 rfl rfl ⟨by rw [← hr, if_neg h], rfl, rfl⟩ (by decide) (by decide)
def tb_nlt : List In1 := [(0, .iload_n 0, 1), (1, .iload_n 1, 1), (2, .iload_n 2, 1), (3, .invokestatic 194, 3), (6, .iadd, 1), (7, .istore_n 3, 1), (8, .iconst 0, 1), (9, .iload_n 3, 1), (10, .if_icmp .ge 11, 3), (13, .iload_n 3, 1), (14, .ldc 200, 2), (16, .if_icmp .gt 5, 3), (19, .iload_n 3, 1), (20, .ireturn, 1), (21, .iload_n 0, 1), (22, .iload_n 1, 1), (23, .invokestatic 201, 3), (26, .ireturn, 1)]
set_option maxRecDepth 65536 in
theorem td_nlt : Dec jdk_48_method_27_code tb_nlt := by unfold Dec; decide +kernel
theorem pd_nlt : parseMethodDescriptor "(III)I" = some ⟨[.int, .int, .int], (some .int)⟩ := by decide +kernel
theorem pn_nlt : plainFor (⟨"jdk/internal/util/ArraysSupport", "newLength", "(III)I"⟩ : MethodName) = true := by decide +kernel
abbrev B_nlt : Bx := ((⟨"jdk/internal/util/ArraysSupport", "newLength", "(III)I"⟩ : MethodName), jdk_48_method_27_code, 4, (Option.some Jvm.ClassFile.FieldType.int), ({ frames := 1, cells := 0, slots := 0, locals := 14 } : Room))
set_option maxRecDepth 65536 in
set_option maxHeartbeats 4000000 in
theorem nlt_met {A : Ax} (K : Wd A) {a b p : Nat} (h1 : 0 < a + max b p) (h2 : a + max b p ≤ 1000) {F G : List Ent} : Met A B_nlt #[.int (nI a), .int (nI b), .int (nI p)] F G (fun v F' G' => v = some (.int (nI (a + max b p))) ∧ F = F' ∧ G = G') := by
  refine MetW.of_go pn_nlt K.ew (L := [.val (.int (nI a)), .val (.int (nI b)), .val (.int (nI p)), .unset]) (fun m => rfl) ?_
  intro D _
  have z0 : (0 : Int32).toInt = 0 := rfl
  have zm : (2147483639 : Int32).toInt = 2147483639 := by decide
  have hs := nI_toInt (n := a + max b p) (by omega)
  refine Go.rn (B := B_nlt) td_nlt 0 3 (pc' := 3) (S' := [.int (nI p), .int (nI b), .int (nI a)]) rfl ?_
  refine Go.callS (B := B_nlt) td_nlt 3 (B' := B_mx) (argsL := [.int (nI b), .int (nI p)]) (rest := [.int (nI a)]) (W := 1) rfl (mx_met K (max_nI (by omega) (by omega))) (w_195 K) (w_196 K) (w_197 K) (w_198 K) (by decide) pd_mx rfl rfl rfl rfl (Nat.le_of_eq rfl) (by decide) (by decide) (by decide) (by decide) ?_
  rintro _ _ _ ⟨rfl, rfl, rfl⟩
  show Go A B_nlt D _ 6 _ [.int (nI (max b p)), .int (nI a)] _ _ 0 0
  refine Go.rn (B := B_nlt) td_nlt 4 1 (pc' := 7) (S' := [.int ((nI a) + (nI (max b p)))]) rfl ?_
  rw [nI_addn]
  refine Go.run (B := B_nlt) td_nlt 5 3 (pc' := 10) (L' := [.val (.int (nI a)), .val (.int (nI b)), .val (.int (nI p)), .val (.int (nI (a + max b p)))]) (S' := [.int (nI (a + max b p)), .int (0 : Int32)]) rfl ?_
  refine Go.icmp (B := B_nlt) td_nlt 8 (pc' := 21) rfl (by decide) rfl (fun (h : (0 : Int32) ≥ (nI (a + max b p))) => absurd h (fun z => absurd (i32_le.mp z) (by omega))) (fun _ => ?_)
  refine Go.rn (B := B_nlt) td_nlt 9 1 (pc' := 14) (S' := [.int (nI (a + max b p))]) rfl ?_
  refine Go.ldcI (B := B_nlt) td_nlt 10 rfl (w_199 K) ?_
  refine Go.icmp (B := B_nlt) td_nlt 11 (pc' := 21) rfl (by decide) rfl (fun (h : (nI (a + max b p)) > (2147483639 : Int32)) => absurd h (fun z => absurd (i32_lt.mp z) (by omega))) (fun _ => ?_)
  refine Go.rn (B := B_nlt) td_nlt 12 1 (pc' := 20) (S' := [.int (nI (a + max b p))]) rfl ?_
  exact Go.retI (B := B_nlt) td_nlt 13 rfl rfl ⟨rfl, rfl, rfl⟩ (by decide) (by decide)
def tb_nwc : List In1 := [(0, .aload_n 0, 1), (1, .getfield 15, 3), (4, .arraylength, 1), (5, .istore_n 2, 1), (6, .iload_n 1, 1), (7, .aload_n 0, 1), (8, .getfield 22, 3), (11, .ishl, 1), (12, .istore_n 3, 1), (13, .iload_n 3, 1), (14, .iload_n 2, 1), (15, .isub, 1), (16, .istore 4, 2), (18, .iload_n 2, 1), (19, .iload 4, 2), (21, .iload_n 2, 1), (22, .iconst 2, 1), (23, .aload_n 0, 1), (24, .getfield 22, 3), (27, .ishl, 1), (28, .iadd, 1), (29, .invokestatic 114, 3), (32, .istore 5, 2), (34, .iload 5, 2), (36, .ldc 39, 2), (38, .if_icmp .ne 13, 3), (41, .new 120, 3), (44, .dup, 1), (45, .ldc 122, 2), (47, .invokespecial 124, 3), (50, .athrow, 1), (51, .iload 5, 2), (53, .aload_n 0, 1), (54, .getfield 22, 3), (57, .ishr, 1), (58, .ireturn, 1)]
set_option maxRecDepth 65536 in
theorem td_nwc : Dec jdk_68_method_10_code tb_nwc := by unfold Dec; decide +kernel
theorem pd_nwc : parseMethodDescriptor "(I)I" = some ⟨[.int], (some .int)⟩ := by decide +kernel
theorem pn_nwc : plainFor (⟨"java/lang/AbstractStringBuilder", "newCapacity", "(I)I"⟩ : MethodName) = true := by decide +kernel
abbrev B_nwc : Bx := ((⟨"java/lang/AbstractStringBuilder", "newCapacity", "(I)I"⟩ : MethodName), jdk_68_method_10_code, 6, (Option.some Jvm.ClassFile.FieldType.int), ({ frames := 2, cells := 0, slots := 0, locals := 29 } : Room))
abbrev ob_1 (A : Ax) (v0 v1 v2 v3 : Value) : Cell → Prop := ObjP A "java/lang/StringBuilder" [("java/lang/AbstractStringBuilder", "value", "[B", v0), ("java/lang/AbstractStringBuilder", "coder", "B", v1), ("java/lang/AbstractStringBuilder", "maybeLatin1", "Z", v2), ("java/lang/AbstractStringBuilder", "count", "I", v3)]
set_option maxRecDepth 65536 in
set_option maxHeartbeats 4000000 in
theorem nwcL_met {A : Ax} (K : Wd A) {sb t : Addr} {n : Int32} {xs : List Int32} {k : Nat} (h1 : xs.length < k) (h2 : k ≤ 32) {F G : List Ent} : Met A B_nwc #[.ref sb, .int (nI k)] ((sb, ob_1 A (.ref t) (.int (0 : Int32)) (.int (0 : Int32)) (.int n)) :: (t, ArrP A .byte (latB xs)) :: F) G (fun v F' G' => v = some (.int (nI (ncap xs.length k))) ∧ ((sb, ob_1 A (.ref t) (.int (0 : Int32)) (.int (0 : Int32)) (.int n)) :: (t, ArrP A .byte (latB xs)) :: F) = F' ∧ G = G') := by
  refine MetW.of_go pn_nwc K.ew (L := [.val (.ref sb), .val (.int (nI k)), .unset, .unset, .unset, .unset]) (fun m => rfl) ?_
  intro D _
  refine Go.rn (B := B_nwc) td_nwc 0 1 (pc' := 1) (S' := [.ref sb]) rfl ?_
  refine Go.getfield (B := B_nwc) td_nwc 1 rfl (w_102 K) (Or.inl (mi 0 rfl)) (mi 0 rfl) ?_
  refine Go.arraylength (B := B_nwc) td_nwc 2 (z := (nI xs.length)) rfl (Or.inl (mi 1 rfl)) (by rw [latB_len, nI_toInt (by omega)]) ?_
  refine Go.run (B := B_nwc) td_nwc 3 3 (pc' := 8) (L' := [.val (.ref sb), .val (.int (nI k)), .val (.int (nI xs.length)), .unset, .unset, .unset]) (S' := [.ref sb, .int (nI k)]) rfl ?_
  refine Go.getfield (B := B_nwc) td_nwc 6 rfl (w_104 K) (Or.inl (mi 0 rfl)) (mi 1 rfl) ?_
  refine Go.rn (B := B_nwc) td_nwc 7 1 (pc' := 12) (S' := [.int ((nI k) <<< ((0 : Int32) &&& 31))]) rfl ?_
  rw [shl0]
  refine Go.run (B := B_nwc) td_nwc 8 4 (pc' := 16) (L' := [.val (.ref sb), .val (.int (nI k)), .val (.int (nI xs.length)), .val (.int (nI k)), .unset, .unset]) (S' := [.int ((nI k) - (nI xs.length))]) rfl ?_
  rw [nI_subn (by omega) (by omega)]
  refine Go.run (B := B_nwc) td_nwc 12 6 (pc' := 24) (L' := [.val (.ref sb), .val (.int (nI k)), .val (.int (nI xs.length)), .val (.int (nI k)), .val (.int (nI (k - xs.length))), .unset]) (S' := [.ref sb, .int (2 : Int32), .int (nI xs.length), .int (nI (k - xs.length)), .int (nI xs.length)]) rfl ?_
  refine Go.getfield (B := B_nwc) td_nwc 18 rfl (w_104 K) (Or.inl (mi 0 rfl)) (mi 1 rfl) ?_
  refine Go.rn (B := B_nwc) td_nwc 19 1 (pc' := 28) (S' := [.int ((2 : Int32) <<< ((0 : Int32) &&& 31)), .int (nI xs.length), .int (nI (k - xs.length)), .int (nI xs.length)]) rfl ?_
  rw [show (2 : Int32) <<< ((0 : Int32) &&& 31) = nI 2 by decide]
  refine Go.rn (B := B_nwc) td_nwc 20 1 (pc' := 29) (S' := [.int ((nI xs.length) + (nI 2)), .int (nI (k - xs.length)), .int (nI xs.length)]) rfl ?_
  rw [nI_addn]
  refine Go.callS (B := B_nwc) td_nwc 21 (B' := B_nlt) (argsL := [.int (nI xs.length), .int (nI (k - xs.length)), .int (nI (xs.length + 2))]) (rest := []) (W := 0) rfl (nlt_met K (by omega) (by omega)) (w_191 K) (w_192 K) (w_193 K) (w_194 K) (by decide) pd_nlt rfl rfl rfl rfl (Nat.le_of_eq rfl) (by decide) (by decide) (by decide) (by decide) ?_
  rintro _ _ _ ⟨rfl, rfl, rfl⟩
  show Go A B_nwc D _ 32 _ [.int (nI (xs.length + max (k - xs.length) (xs.length + 2)))] _ _ 0 0
  refine Go.run (B := B_nwc) td_nwc 22 2 (pc' := 36) (L' := [.val (.ref sb), .val (.int (nI k)), .val (.int (nI xs.length)), .val (.int (nI k)), .val (.int (nI (k - xs.length))), .val (.int (nI (xs.length + max (k - xs.length) (xs.length + 2))))]) (S' := [.int (nI (xs.length + max (k - xs.length) (xs.length + 2)))]) rfl ?_
  refine Go.ldcI (B := B_nwc) td_nwc 24 rfl (w_200 K) ?_
  refine Go.icmp (B := B_nwc) td_nwc 25 (pc' := 51) rfl (by decide) rfl (fun _ => ?_) (fun (h : ¬ ((nI (xs.length + max (k - xs.length) (xs.length + 2))) ≠ (2147483647 : Int32))) => absurd (fun z => by have q := congrArg Int32.toInt z; rw [nI_toInt (by omega)] at q; have zm : (2147483647 : Int32).toInt = 2147483647 := (by decide); omega) h)
  refine Go.rn (B := B_nwc) td_nwc 31 2 (pc' := 54) (S' := [.ref sb, .int (nI (xs.length + max (k - xs.length) (xs.length + 2)))]) rfl ?_
  refine Go.getfield (B := B_nwc) td_nwc 33 rfl (w_104 K) (Or.inl (mi 0 rfl)) (mi 1 rfl) ?_
  refine Go.rn (B := B_nwc) td_nwc 34 1 (pc' := 58) (S' := [.int ((nI (xs.length + max (k - xs.length) (xs.length + 2))) >>> ((0 : Int32) &&& 31))]) rfl ?_
  rw [shr0]
  exact Go.retI (B := B_nwc) td_nwc 35 rfl rfl ⟨rfl, rfl, rfl⟩ (by decide) (by decide)
set_option maxRecDepth 65536 in
set_option maxHeartbeats 4000000 in
theorem nwcU_met {A : Ax} (K : Wd A) {sb t : Addr} {n : Int32} {xs : List Int32} {k : Nat} (h1 : xs.length < k) (h2 : k ≤ 32) {F G : List Ent} : Met A B_nwc #[.ref sb, .int (nI k)] ((sb, ob_1 A (.ref t) (.int (1 : Int32)) (.int (0 : Int32)) (.int n)) :: (t, ArrP A .byte (utfB xs)) :: F) G (fun v F' G' => v = some (.int (nI (ncap xs.length k))) ∧ ((sb, ob_1 A (.ref t) (.int (1 : Int32)) (.int (0 : Int32)) (.int n)) :: (t, ArrP A .byte (utfB xs)) :: F) = F' ∧ G = G') := by
  refine MetW.of_go pn_nwc K.ew (L := [.val (.ref sb), .val (.int (nI k)), .unset, .unset, .unset, .unset]) (fun m => rfl) ?_
  intro D _
  refine Go.rn (B := B_nwc) td_nwc 0 1 (pc' := 1) (S' := [.ref sb]) rfl ?_
  refine Go.getfield (B := B_nwc) td_nwc 1 rfl (w_102 K) (Or.inl (mi 0 rfl)) (mi 0 rfl) ?_
  refine Go.arraylength (B := B_nwc) td_nwc 2 (z := (nI (2 * xs.length))) rfl (Or.inl (mi 1 rfl)) (by rw [utfB_len, nI_toInt (by omega)]) ?_
  refine Go.run (B := B_nwc) td_nwc 3 3 (pc' := 8) (L' := [.val (.ref sb), .val (.int (nI k)), .val (.int (nI (2 * xs.length))), .unset, .unset, .unset]) (S' := [.ref sb, .int (nI k)]) rfl ?_
  refine Go.getfield (B := B_nwc) td_nwc 6 rfl (w_104 K) (Or.inl (mi 0 rfl)) (mi 1 rfl) ?_
  refine Go.rn (B := B_nwc) td_nwc 7 1 (pc' := 12) (S' := [.int ((nI k) <<< ((1 : Int32) &&& 31))]) rfl ?_
  rw [shl1 (by omega)]
  refine Go.run (B := B_nwc) td_nwc 8 4 (pc' := 16) (L' := [.val (.ref sb), .val (.int (nI k)), .val (.int (nI (2 * xs.length))), .val (.int (nI (2 * k))), .unset, .unset]) (S' := [.int ((nI (2 * k)) - (nI (2 * xs.length)))]) rfl ?_
  rw [nI_subn (by omega) (by omega)]
  refine Go.run (B := B_nwc) td_nwc 12 6 (pc' := 24) (L' := [.val (.ref sb), .val (.int (nI k)), .val (.int (nI (2 * xs.length))), .val (.int (nI (2 * k))), .val (.int (nI (2 * k - 2 * xs.length))), .unset]) (S' := [.ref sb, .int (2 : Int32), .int (nI (2 * xs.length)), .int (nI (2 * k - 2 * xs.length)), .int (nI (2 * xs.length))]) rfl ?_
  refine Go.getfield (B := B_nwc) td_nwc 18 rfl (w_104 K) (Or.inl (mi 0 rfl)) (mi 1 rfl) ?_
  refine Go.rn (B := B_nwc) td_nwc 19 1 (pc' := 28) (S' := [.int ((2 : Int32) <<< ((1 : Int32) &&& 31)), .int (nI (2 * xs.length)), .int (nI (2 * k - 2 * xs.length)), .int (nI (2 * xs.length))]) rfl ?_
  rw [show (2 : Int32) <<< ((1 : Int32) &&& 31) = nI 4 by decide]
  refine Go.rn (B := B_nwc) td_nwc 20 1 (pc' := 29) (S' := [.int ((nI (2 * xs.length)) + (nI 4)), .int (nI (2 * k - 2 * xs.length)), .int (nI (2 * xs.length))]) rfl ?_
  rw [nI_addn]
  refine Go.callS (B := B_nwc) td_nwc 21 (B' := B_nlt) (argsL := [.int (nI (2 * xs.length)), .int (nI (2 * k - 2 * xs.length)), .int (nI (2 * xs.length + 4))]) (rest := []) (W := 0) rfl (nlt_met K (by omega) (by omega)) (w_191 K) (w_192 K) (w_193 K) (w_194 K) (by decide) pd_nlt rfl rfl rfl rfl (Nat.le_of_eq rfl) (by decide) (by decide) (by decide) (by decide) ?_
  rintro _ _ _ ⟨rfl, rfl, rfl⟩
  show Go A B_nwc D _ 32 _ [.int (nI (2 * xs.length + max (2 * k - 2 * xs.length) (2 * xs.length + 4)))] _ _ 0 0
  refine Go.run (B := B_nwc) td_nwc 22 2 (pc' := 36) (L' := [.val (.ref sb), .val (.int (nI k)), .val (.int (nI (2 * xs.length))), .val (.int (nI (2 * k))), .val (.int (nI (2 * k - 2 * xs.length))), .val (.int (nI (2 * xs.length + max (2 * k - 2 * xs.length) (2 * xs.length + 4))))]) (S' := [.int (nI (2 * xs.length + max (2 * k - 2 * xs.length) (2 * xs.length + 4)))]) rfl ?_
  refine Go.ldcI (B := B_nwc) td_nwc 24 rfl (w_200 K) ?_
  refine Go.icmp (B := B_nwc) td_nwc 25 (pc' := 51) rfl (by decide) rfl (fun _ => ?_) (fun (h : ¬ ((nI (2 * xs.length + max (2 * k - 2 * xs.length) (2 * xs.length + 4))) ≠ (2147483647 : Int32))) => absurd (fun z => by have q := congrArg Int32.toInt z; rw [nI_toInt (by omega)] at q; have zm : (2147483647 : Int32).toInt = 2147483647 := (by decide); omega) h)
  refine Go.rn (B := B_nwc) td_nwc 31 2 (pc' := 54) (S' := [.ref sb, .int (nI (2 * xs.length + max (2 * k - 2 * xs.length) (2 * xs.length + 4)))]) rfl ?_
  refine Go.getfield (B := B_nwc) td_nwc 33 rfl (w_104 K) (Or.inl (mi 0 rfl)) (mi 1 rfl) ?_
  refine Go.rn (B := B_nwc) td_nwc 34 1 (pc' := 58) (S' := [.int ((nI (2 * xs.length + max (2 * k - 2 * xs.length) (2 * xs.length + 4))) >>> ((1 : Int32) &&& 31))]) rfl ?_
  rw [ncap2 (by omega)]
  rw [shr1 (by have := ncap_le h1 h2; omega)]
  exact Go.retI (B := B_nwc) td_nwc 35 rfl rfl ⟨rfl, rfl, rfl⟩ (by decide) (by decide)
def tb_cpo : List In1 := [(0, .iload_n 1, 1), (1, .aload_n 0, 1), (2, .arraylength, 1), (3, .if_icmp .ne 11, 3), (6, .aload_n 0, 1), (7, .invokevirtual 310, 3), (10, .checkcast 311, 3), (13, .areturn, 1), (14, .iload_n 1, 1), (15, .newarray .byte, 2), (17, .astore_n 2, 1), (18, .aload_n 0, 1), (19, .iconst 0, 1), (20, .aload_n 2, 1), (21, .iconst 0, 1), (22, .aload_n 0, 1), (23, .arraylength, 1), (24, .iload_n 1, 1), (25, .invokestatic 304, 3), (28, .invokestatic 150, 3), (31, .aload_n 2, 1), (32, .areturn, 1)]
set_option maxRecDepth 65536 in
theorem td_cpo : Dec jdk_65_method_121_code tb_cpo := by unfold Dec; decide +kernel
theorem pd_cpo : parseMethodDescriptor "([BI)[B" = some ⟨[(.array .byte), .int], (some (.array .byte))⟩ := by decide +kernel
theorem pn_cpo : plainFor (⟨"java/util/Arrays", "copyOf", "([BI)[B"⟩ : MethodName) = true := by decide +kernel
abbrev B_cpo : Bx := ((⟨"java/util/Arrays", "copyOf", "([BI)[B"⟩ : MethodName), jdk_65_method_121_code, 3, (Option.some (Jvm.ClassFile.FieldType.array Jvm.ClassFile.FieldType.byte)), ({ frames := 1, cells := 1, slots := 128, locals := 32 } : Room))
set_option maxRecDepth 65536 in
set_option maxHeartbeats 4000000 in
theorem cpo_met {A : Ax} (K : Wd A) {t : Addr} {vs ws : List Value} {m : Nat} (h1 : vs.length < m) (h2 : m ≤ 128) (hf : FitsL .byte vs) (hr : vs ++ List.replicate (m - vs.length) (.int 0) = ws) {F G : List Ent} (mt : (t, ArrP A .byte vs) ∈ F ∨ (t, ArrP A .byte vs) ∈ G) : Met A B_cpo #[.ref t, .int (nI m)] F G (fun v F' G' => ∃ b, v = some (.ref b) ∧ (b, ArrP A .byte ws) :: F = F' ∧ G = G') := by
  refine MetW.of_go pn_cpo K.ew (L := [.val (.ref t), .val (.int (nI m)), .unset]) (fun m => rfl) ?_
  intro D _
  refine Go.rn (B := B_cpo) td_cpo 0 2 (pc' := 2) (S' := [.ref t, .int (nI m)]) rfl ?_
  refine Go.arraylength (B := B_cpo) td_cpo 2 (z := (nI vs.length)) rfl mt (by rw [nI_toInt (by omega)]) ?_
  refine Go.icmp (B := B_cpo) td_cpo 3 (pc' := 14) rfl (by decide) rfl (fun _ => ?_) (fun (h : ¬ ((nI m) ≠ (nI vs.length))) => absurd (nI_ne (by omega) (by omega) (by omega)) h)
  refine Go.rn (B := B_cpo) td_cpo 8 1 (pc' := 15) (S' := [.int (nI m)]) rfl ?_
  refine Go.newarray (B := B_cpo) td_cpo 9 (ty := .byte) (cap := 128) (vs := (List.replicate m (.int 0))) rfl rfl (w_24 K) (by rw [nI_toInt (by omega)]; omega) (by rw [nI_nat (by omega)]; exact h2) (by decide) (by decide) (by decide) (by rw [nI_nat (by omega)]; rfl) ?_
  intro b
  show Go A B_cpo D _ 17 _ [.ref b] _ _ 1 128
  refine Go.run (B := B_cpo) td_cpo 10 6 (pc' := 23) (L' := [.val (.ref t), .val (.int (nI m)), .val (.ref b)]) (S' := [.ref t, .int (0 : Int32), .ref b, .int (0 : Int32), .ref t]) rfl ?_
  refine Go.arraylength (B := B_cpo) td_cpo 16 (z := (nI vs.length)) rfl (mt.imp (List.mem_cons_of_mem _) id) (by rw [nI_toInt (by omega)]) ?_
  refine Go.rn (B := B_cpo) td_cpo 17 1 (pc' := 25) (S' := [.int (nI m), .int (nI vs.length), .int (0 : Int32), .ref b, .int (0 : Int32), .ref t]) rfl ?_
  refine Go.callS (B := B_cpo) td_cpo 18 (B' := B_mn) (argsL := [.int (nI vs.length), .int (nI m)]) (rest := [.int (0 : Int32), .ref b, .int (0 : Int32), .ref t]) (W := 4) rfl (mn_met K (r := nI vs.length) (if_neg (fun z => absurd ((nI_lt (by omega) (by omega)).mp z) (by omega)))) (w_205 K) (w_206 K) (w_197 K) (w_207 K) (by decide) pd_mn rfl rfl rfl rfl (Nat.le_of_eq rfl) (by decide) (by decide) (by decide) (by decide) ?_
  rintro _ _ _ ⟨rfl, rfl, rfl⟩
  show Go A B_cpo D _ 28 _ [.int (nI vs.length), .int (0 : Int32), .ref b, .int (0 : Int32), .ref t] _ _ 1 128
  have e0 : (0 : Int32).toInt.toNat = 0 := by decide
  have ei : (0 : Int32).toInt = 0 := by decide
  have fn : (nI vs.length).toInt.toNat = vs.length := nI_nat (by omega)
  have ft : (nI vs.length).toInt = vs.length := nI_toInt (by omega)
  refine Go.copy (B := B_cpo) td_cpo 19 (vd' := ws) (W := 0) rfl rfl (w_208 K) (w_211 K) (w_209 K) (w_210 K) (mt.imp (List.mem_cons_of_mem _) id) (by omega) (by rw [List.length_replicate]; omega) hf (fits_zero _) (by omega) (by omega) (by omega) (by omega) (by rw [List.length_replicate]; omega) (by rw [← hr, e0, fn, List.drop_zero, List.take_zero, List.nil_append, Nat.zero_add, List.take_length, List.drop_replicate]) rfl (Nat.le_of_eq rfl) (by decide) (by decide) ?_
  refine Go.rn (B := B_cpo) td_cpo 20 1 (pc' := 32) (S' := [.ref b]) rfl ?_
  exact Go.retA (B := B_cpo) td_cpo 21 rfl rfl rfl rfl ⟨b, rfl, rfl, rfl⟩ (by decide) (by decide)
--CUT
def tb_eci : List In1 := [(0, .aload_n 0, 1), (1, .getfield 15, 3), (4, .arraylength, 1), (5, .aload_n 0, 1), (6, .getfield 22, 3), (9, .ishr, 1), (10, .istore_n 2, 1), (11, .iload_n 1, 1), (12, .iload_n 2, 1), (13, .isub, 1), (14, .ifCond .le 24, 3), (17, .aload_n 0, 1), (18, .aload_n 0, 1), (19, .getfield 15, 3), (22, .aload_n 0, 1), (23, .iload_n 1, 1), (24, .invokevirtual 104, 3), (27, .aload_n 0, 1), (28, .getfield 22, 3), (31, .ishl, 1), (32, .invokestatic 108, 3), (35, .putfield 15, 3), (38, .return_, 1)]
set_option maxRecDepth 65536 in
theorem td_eci : Dec jdk_68_method_9_code tb_eci := by unfold Dec; decide +kernel
theorem pd_eci : parseMethodDescriptor "(I)V" = some ⟨[.int], none⟩ := by decide +kernel
theorem pn_eci : plainFor (⟨"java/lang/AbstractStringBuilder", "ensureCapacityInternal", "(I)V"⟩ : MethodName) = true := by decide +kernel
abbrev B_eci : Bx := ((⟨"java/lang/AbstractStringBuilder", "ensureCapacityInternal", "(I)V"⟩ : MethodName), jdk_68_method_9_code, 3, (Option.none : Option Jvm.ClassFile.FieldType), ({ frames := 3, cells := 1, slots := 128, locals := 48 } : Room))
set_option maxRecDepth 65536 in
set_option maxHeartbeats 4000000 in
theorem eciL_met {A : Ax} (K : Wd A) {sb t : Addr} {n : Int32} {cs pad : List Int32} {k : Nat} (hx : cs.length + pad.length ≤ 64) (hk : cs.length + k ≤ 32) {F G : List Ent} : Met A B_eci #[.ref sb, .int (nI (cs.length + k))] ((sb, ob_1 A (.ref t) (.int (0 : Int32)) (.int (0 : Int32)) (.int n)) :: (t, ArrP A .byte (latB (cs ++ pad))) :: F) G (fun v F' G' => v = none ∧ (∃ t2 pad2, k ≤ pad2.length ∧ cs.length + pad2.length ≤ 64 ∧ ((sb, ob_1 A (.ref t2) (.int (0 : Int32)) (.int (0 : Int32)) (.int n)) :: (t2, ArrP A .byte (latB (cs ++ pad2))) :: F) = F') ∧ G = G') := by
  refine MetW.of_go pn_eci K.ew (L := [.val (.ref sb), .val (.int (nI (cs.length + k))), .unset]) (fun m => rfl) ?_
  intro D _
  have hll : (cs ++ pad).length = cs.length + pad.length := List.length_append
  refine Go.rn (B := B_eci) td_eci 0 1 (pc' := 1) (S' := [.ref sb]) rfl ?_
  refine Go.getfield (B := B_eci) td_eci 1 rfl (w_102 K) (Or.inl (mi 0 rfl)) (mi 0 rfl) ?_
  refine Go.arraylength (B := B_eci) td_eci 2 (z := (nI (cs ++ pad).length)) rfl (Or.inl (mi 1 rfl)) (by rw [latB_len, nI_toInt (by omega)]) ?_
  refine Go.rn (B := B_eci) td_eci 3 1 (pc' := 6) (S' := [.ref sb, .int (nI (cs ++ pad).length)]) rfl ?_
  refine Go.getfield (B := B_eci) td_eci 4 rfl (w_104 K) (Or.inl (mi 0 rfl)) (mi 1 rfl) ?_
  refine Go.rn (B := B_eci) td_eci 5 1 (pc' := 10) (S' := [.int ((nI (cs ++ pad).length) >>> ((0 : Int32) &&& 31))]) rfl ?_
  rw [shr0]
  refine Go.run (B := B_eci) td_eci 6 4 (pc' := 14) (L' := [.val (.ref sb), .val (.int (nI (cs.length + k))), .val (.int (nI (cs ++ pad).length))]) (S' := [.int ((nI (cs.length + k)) - (nI (cs ++ pad).length))]) rfl ?_
  have hd1 := c_isub (nI (cs.length + k)) (nI (cs ++ pad).length)
  have hd2 := rng32 (nI (cs.length + k) - nI (cs ++ pad).length)
  rw [nI_toInt (by omega), nI_toInt (by omega)] at hd1
  have z0 : (0 : Int32).toInt = 0 := rfl
  refine Go.if0 (B := B_eci) td_eci 10 (pc' := 38) rfl (by decide) rfl ?_ ?_
  · intro (h : ((nI (cs.length + k)) - (nI (cs ++ pad).length)) ≤ 0)
    exact Go.retV (B := B_eci) td_eci 22 rfl rfl ⟨rfl, ⟨t, pad, by have q := i32_le.mp h; omega, by omega, rfl⟩, rfl⟩ (by decide) (by decide)
  · intro (h : ¬ (((nI (cs.length + k)) - (nI (cs ++ pad).length)) ≤ 0))
    have hgt : (cs ++ pad).length < cs.length + k := by have q : ¬ (nI (cs.length + k) - nI (cs ++ pad).length).toInt ≤ (0 : Int32).toInt := fun z => h (i32_le.mpr z); omega
    have hc1 := ncap_le hgt (by omega)
    have hc2 := ncap_lt (l := (cs ++ pad).length) (k := cs.length + k)
    refine Go.rn (B := B_eci) td_eci 11 2 (pc' := 19) (S' := [.ref sb, .ref sb]) rfl ?_
    refine Go.getfield (B := B_eci) td_eci 13 rfl (w_102 K) (Or.inl (mi 0 rfl)) (mi 0 rfl) ?_
    refine Go.rn (B := B_eci) td_eci 14 2 (pc' := 24) (S' := [.int (nI (cs.length + k)), .ref sb, .ref t, .ref sb]) rfl ?_
    refine Go.callPS (B := B_eci) td_eci 16 (B' := B_nwc) (C := "java/lang/StringBuilder") (a := sb) (argsL := [.int (nI (cs.length + k))]) (rest := [.ref t, .ref sb]) (W := 2) rfl (nwcL_met K hgt (by omega)) (Or.inl (mi 0 rfl)) (fun c P => P.1) (w_186 K) (w_187 K) (w_188 K) (w_189 K) rfl (w_98 K) (w_190 K) (by decide) pd_nwc rfl rfl rfl rfl (Nat.le_of_eq rfl) (by decide) (by decide) (by decide) (by decide) ?_
    rintro _ _ _ ⟨rfl, rfl, rfl⟩
    show Go A B_eci D _ 27 _ [.int (nI (ncap (cs ++ pad).length (cs.length + k))), .ref t, .ref sb] _ _ 0 0
    refine Go.rn (B := B_eci) td_eci 17 1 (pc' := 28) (S' := [.ref sb, .int (nI (ncap (cs ++ pad).length (cs.length + k))), .ref t, .ref sb]) rfl ?_
    refine Go.getfield (B := B_eci) td_eci 18 rfl (w_104 K) (Or.inl (mi 0 rfl)) (mi 1 rfl) ?_
    refine Go.rn (B := B_eci) td_eci 19 1 (pc' := 32) (S' := [.int ((nI (ncap (cs ++ pad).length (cs.length + k))) <<< ((0 : Int32) &&& 31)), .ref t, .ref sb]) rfl ?_
    rw [shl0]
    refine Go.callS (B := B_eci) td_eci 20 (B' := B_cpo) (argsL := [.ref t, .int (nI (ncap (cs ++ pad).length (cs.length + k)))]) (rest := [.ref sb]) (W := 1) rfl (cpo_met K (by rw [latB_len]; omega) (by omega) (fits_lat _) lat_pad (Or.inl (mi 1 rfl))) (w_201 K) (w_202 K) (w_203 K) (w_204 K) (by decide) pd_cpo rfl rfl rfl rfl (Nat.le_of_eq rfl) (by decide) (by decide) (by decide) (by decide) ?_
    rintro _ _ _ ⟨b, rfl, rfl, rfl⟩
    show Go A B_eci D _ 35 _ [.ref b, .ref sb] ((b, ArrP A .byte (latB (cs ++ pad ++ List.replicate (ncap (cs ++ pad).length (cs.length + k) - (cs ++ pad).length) 0))) :: (sb, ob_1 A (.ref t) (.int (0 : Int32)) (.int (0 : Int32)) (.int n)) :: (t, ArrP A .byte (latB (cs ++ pad))) :: F) _ 1 128
    refine Go.front 1 (F' := ((sb, ob_1 A (.ref t) (.int (0 : Int32)) (.int (0 : Int32)) (.int n)) :: (b, ArrP A .byte (latB (cs ++ pad ++ List.replicate (ncap (cs ++ pad).length (cs.length + k) - (cs ++ pad).length) 0))) :: (t, ArrP A .byte (latB (cs ++ pad))) :: F)) rfl rfl ?_
    refine Go.putfield (B := B_eci) td_eci 21 (fs' := [("java/lang/AbstractStringBuilder", "value", "[B", .ref b), ("java/lang/AbstractStringBuilder", "coder", "B", .int (0 : Int32)), ("java/lang/AbstractStringBuilder", "maybeLatin1", "Z", .int (0 : Int32)), ("java/lang/AbstractStringBuilder", "count", "I", .int n)]) rfl (w_102 K) (Or.inl (w_103 K)) (w_65 K) rfl rfl rfl (mi 0 rfl) (own_fs 0 (ns := ["coder", "maybeLatin1", "count"]) rfl (by decide) rfl) ?_
    refine Go.front 2 (F' := ((t, ArrP A .byte (latB (cs ++ pad))) :: (sb, ob_1 A (.ref b) (.int (0 : Int32)) (.int (0 : Int32)) (.int n)) :: (b, ArrP A .byte (latB (cs ++ pad ++ List.replicate (ncap (cs ++ pad).length (cs.length + k) - (cs ++ pad).length) 0))) :: F)) rfl rfl ?_
    refine Go.drop ?_
    exact Go.retV (B := B_eci) td_eci 22 rfl rfl ⟨rfl, ⟨b, pad ++ List.replicate (ncap (cs ++ pad).length (cs.length + k) - (cs ++ pad).length) 0, by rw [List.length_append, List.length_replicate]; omega, by rw [List.length_append, List.length_replicate]; omega, by rw [List.append_assoc]⟩, rfl⟩ (by decide) (by decide)
set_option maxRecDepth 65536 in
set_option maxHeartbeats 4000000 in
theorem eciU_met {A : Ax} (K : Wd A) {sb t : Addr} {n : Int32} {cs pad : List Int32} {k : Nat} (hx : cs.length + pad.length ≤ 64) (hk : cs.length + k ≤ 32) {F G : List Ent} : Met A B_eci #[.ref sb, .int (nI (cs.length + k))] ((sb, ob_1 A (.ref t) (.int (1 : Int32)) (.int (0 : Int32)) (.int n)) :: (t, ArrP A .byte (utfB (cs ++ pad))) :: F) G (fun v F' G' => v = none ∧ (∃ t2 pad2, k ≤ pad2.length ∧ cs.length + pad2.length ≤ 64 ∧ ((sb, ob_1 A (.ref t2) (.int (1 : Int32)) (.int (0 : Int32)) (.int n)) :: (t2, ArrP A .byte (utfB (cs ++ pad2))) :: F) = F') ∧ G = G') := by
  refine MetW.of_go pn_eci K.ew (L := [.val (.ref sb), .val (.int (nI (cs.length + k))), .unset]) (fun m => rfl) ?_
  intro D _
  have hll : (cs ++ pad).length = cs.length + pad.length := List.length_append
  refine Go.rn (B := B_eci) td_eci 0 1 (pc' := 1) (S' := [.ref sb]) rfl ?_
  refine Go.getfield (B := B_eci) td_eci 1 rfl (w_102 K) (Or.inl (mi 0 rfl)) (mi 0 rfl) ?_
  refine Go.arraylength (B := B_eci) td_eci 2 (z := (nI (2 * (cs ++ pad).length))) rfl (Or.inl (mi 1 rfl)) (by rw [utfB_len, nI_toInt (by omega)]) ?_
  refine Go.rn (B := B_eci) td_eci 3 1 (pc' := 6) (S' := [.ref sb, .int (nI (2 * (cs ++ pad).length))]) rfl ?_
  refine Go.getfield (B := B_eci) td_eci 4 rfl (w_104 K) (Or.inl (mi 0 rfl)) (mi 1 rfl) ?_
  refine Go.rn (B := B_eci) td_eci 5 1 (pc' := 10) (S' := [.int ((nI (2 * (cs ++ pad).length)) >>> ((1 : Int32) &&& 31))]) rfl ?_
  rw [shr1 (by omega)]
  refine Go.run (B := B_eci) td_eci 6 4 (pc' := 14) (L' := [.val (.ref sb), .val (.int (nI (cs.length + k))), .val (.int (nI (cs ++ pad).length))]) (S' := [.int ((nI (cs.length + k)) - (nI (cs ++ pad).length))]) rfl ?_
  have hd1 := c_isub (nI (cs.length + k)) (nI (cs ++ pad).length)
  have hd2 := rng32 (nI (cs.length + k) - nI (cs ++ pad).length)
  rw [nI_toInt (by omega), nI_toInt (by omega)] at hd1
  have z0 : (0 : Int32).toInt = 0 := rfl
  refine Go.if0 (B := B_eci) td_eci 10 (pc' := 38) rfl (by decide) rfl ?_ ?_
  · intro (h : ((nI (cs.length + k)) - (nI (cs ++ pad).length)) ≤ 0)
    exact Go.retV (B := B_eci) td_eci 22 rfl rfl ⟨rfl, ⟨t, pad, by have q := i32_le.mp h; omega, by omega, rfl⟩, rfl⟩ (by decide) (by decide)
  · intro (h : ¬ (((nI (cs.length + k)) - (nI (cs ++ pad).length)) ≤ 0))
    have hgt : (cs ++ pad).length < cs.length + k := by have q : ¬ (nI (cs.length + k) - nI (cs ++ pad).length).toInt ≤ (0 : Int32).toInt := fun z => h (i32_le.mpr z); omega
    have hc1 := ncap_le hgt (by omega)
    have hc2 := ncap_lt (l := (cs ++ pad).length) (k := cs.length + k)
    refine Go.rn (B := B_eci) td_eci 11 2 (pc' := 19) (S' := [.ref sb, .ref sb]) rfl ?_
    refine Go.getfield (B := B_eci) td_eci 13 rfl (w_102 K) (Or.inl (mi 0 rfl)) (mi 0 rfl) ?_
    refine Go.rn (B := B_eci) td_eci 14 2 (pc' := 24) (S' := [.int (nI (cs.length + k)), .ref sb, .ref t, .ref sb]) rfl ?_
    refine Go.callPS (B := B_eci) td_eci 16 (B' := B_nwc) (C := "java/lang/StringBuilder") (a := sb) (argsL := [.int (nI (cs.length + k))]) (rest := [.ref t, .ref sb]) (W := 2) rfl (nwcU_met K hgt (by omega)) (Or.inl (mi 0 rfl)) (fun c P => P.1) (w_186 K) (w_187 K) (w_188 K) (w_189 K) rfl (w_98 K) (w_190 K) (by decide) pd_nwc rfl rfl rfl rfl (Nat.le_of_eq rfl) (by decide) (by decide) (by decide) (by decide) ?_
    rintro _ _ _ ⟨rfl, rfl, rfl⟩
    show Go A B_eci D _ 27 _ [.int (nI (ncap (cs ++ pad).length (cs.length + k))), .ref t, .ref sb] _ _ 0 0
    refine Go.rn (B := B_eci) td_eci 17 1 (pc' := 28) (S' := [.ref sb, .int (nI (ncap (cs ++ pad).length (cs.length + k))), .ref t, .ref sb]) rfl ?_
    refine Go.getfield (B := B_eci) td_eci 18 rfl (w_104 K) (Or.inl (mi 0 rfl)) (mi 1 rfl) ?_
    refine Go.rn (B := B_eci) td_eci 19 1 (pc' := 32) (S' := [.int ((nI (ncap (cs ++ pad).length (cs.length + k))) <<< ((1 : Int32) &&& 31)), .ref t, .ref sb]) rfl ?_
    rw [shl1 (by omega)]
    refine Go.callS (B := B_eci) td_eci 20 (B' := B_cpo) (argsL := [.ref t, .int (nI (2 * ncap (cs ++ pad).length (cs.length + k)))]) (rest := [.ref sb]) (W := 1) rfl (cpo_met K (by rw [utfB_len]; omega) (by omega) (fits_utf _) utf_pad (Or.inl (mi 1 rfl))) (w_201 K) (w_202 K) (w_203 K) (w_204 K) (by decide) pd_cpo rfl rfl rfl rfl (Nat.le_of_eq rfl) (by decide) (by decide) (by decide) (by decide) ?_
    rintro _ _ _ ⟨b, rfl, rfl, rfl⟩
    show Go A B_eci D _ 35 _ [.ref b, .ref sb] ((b, ArrP A .byte (utfB (cs ++ pad ++ List.replicate (ncap (cs ++ pad).length (cs.length + k) - (cs ++ pad).length) 0))) :: (sb, ob_1 A (.ref t) (.int (1 : Int32)) (.int (0 : Int32)) (.int n)) :: (t, ArrP A .byte (utfB (cs ++ pad))) :: F) _ 1 128
    refine Go.front 1 (F' := ((sb, ob_1 A (.ref t) (.int (1 : Int32)) (.int (0 : Int32)) (.int n)) :: (b, ArrP A .byte (utfB (cs ++ pad ++ List.replicate (ncap (cs ++ pad).length (cs.length + k) - (cs ++ pad).length) 0))) :: (t, ArrP A .byte (utfB (cs ++ pad))) :: F)) rfl rfl ?_
    refine Go.putfield (B := B_eci) td_eci 21 (fs' := [("java/lang/AbstractStringBuilder", "value", "[B", .ref b), ("java/lang/AbstractStringBuilder", "coder", "B", .int (1 : Int32)), ("java/lang/AbstractStringBuilder", "maybeLatin1", "Z", .int (0 : Int32)), ("java/lang/AbstractStringBuilder", "count", "I", .int n)]) rfl (w_102 K) (Or.inl (w_103 K)) (w_65 K) rfl rfl rfl (mi 0 rfl) (own_fs 0 (ns := ["coder", "maybeLatin1", "count"]) rfl (by decide) rfl) ?_
    refine Go.front 2 (F' := ((t, ArrP A .byte (utfB (cs ++ pad))) :: (sb, ob_1 A (.ref b) (.int (1 : Int32)) (.int (0 : Int32)) (.int n)) :: (b, ArrP A .byte (utfB (cs ++ pad ++ List.replicate (ncap (cs ++ pad).length (cs.length + k) - (cs ++ pad).length) 0))) :: F)) rfl rfl ?_
    refine Go.drop ?_
    exact Go.retV (B := B_eci) td_eci 22 rfl rfl ⟨rfl, ⟨b, pad ++ List.replicate (ncap (cs ++ pad).length (cs.length + k) - (cs ++ pad).length) 0, by rw [List.length_append, List.length_replicate]; omega, by rw [List.length_append, List.length_replicate]; omega, by rw [List.append_assoc]⟩, rfl⟩ (by decide) (by decide)
def tb_as1 : List In1 := [(0, .getstatic 18, 3), (3, .ifCond .eq 14, 3), (6, .aload_n 0, 1), (7, .getfield 22, 3), (10, .ifCond .ne 7, 3), (13, .iconst 1, 1), (14, .goto 4, 3), (17, .iconst 0, 1), (18, .ireturn, 1)]
set_option maxRecDepth 65536 in
theorem td_as1 : Dec jdk_68_method_68_code tb_as1 := by unfold Dec; decide +kernel
theorem pd_as1 : parseMethodDescriptor "()Z" = some ⟨[], (some .boolean)⟩ := by decide +kernel
theorem pn_as1 : plainFor (⟨"java/lang/AbstractStringBuilder", "isLatin1", "()Z"⟩ : MethodName) = true := by decide +kernel
abbrev B_as1 : Bx := ((⟨"java/lang/AbstractStringBuilder", "isLatin1", "()Z"⟩ : MethodName), jdk_68_method_68_code, 1, (Option.some Jvm.ClassFile.FieldType.boolean), ({ frames := 0, cells := 0, slots := 0, locals := 0 } : Room))
set_option maxRecDepth 65536 in
set_option maxHeartbeats 4000000 in
theorem as1L_met {A : Ax} (K : Wd A) {sb t : Addr} {n : Int32} {F G : List Ent} : Met A B_as1 #[.ref sb] ((sb, ob_1 A (.ref t) (.int (0 : Int32)) (.int (0 : Int32)) (.int n)) :: F) G (fun v F' G' => v = some (.int 1) ∧ ((sb, ob_1 A (.ref t) (.int (0 : Int32)) (.int (0 : Int32)) (.int n)) :: F) = F' ∧ G = G') := by
  refine MetW.of_go pn_as1 K.ew (L := [.val (.ref sb)]) (fun m => rfl) ?_
  intro D _
  obtain ⟨z, nz, hz⟩ := K.cmpt
  refine Go.getstatic (B := B_as1) td_as1 0 rfl (w_101 K) hz ?_
  refine Go.if0 (B := B_as1) td_as1 1 (pc' := 17) rfl (by decide) rfl (fun (h : z = 0) => absurd h nz) (fun _ => ?_)
  refine Go.rn (B := B_as1) td_as1 2 1 (pc' := 7) (S' := [.ref sb]) rfl ?_
  refine Go.getfield (B := B_as1) td_as1 3 rfl (w_104 K) (Or.inl (mi 0 rfl)) (mi 1 rfl) ?_
  refine Go.if0 (B := B_as1) td_as1 4 (pc' := 17) rfl (by decide) rfl (fun (h : (0 : Int32) ≠ 0) => absurd h (by decide)) (fun _ => ?_)
  refine Go.rn (B := B_as1) td_as1 5 2 (pc' := 18) (S' := [.int (1 : Int32)]) rfl ?_
  exact Go.retZ (B := B_as1) td_as1 8 rfl rfl rfl ⟨rfl, rfl, rfl⟩ (by decide) (by decide)
set_option maxRecDepth 65536 in
set_option maxHeartbeats 4000000 in
theorem as1U_met {A : Ax} (K : Wd A) {sb t : Addr} {n : Int32} {F G : List Ent} : Met A B_as1 #[.ref sb] ((sb, ob_1 A (.ref t) (.int (1 : Int32)) (.int (0 : Int32)) (.int n)) :: F) G (fun v F' G' => v = some (.int 0) ∧ ((sb, ob_1 A (.ref t) (.int (1 : Int32)) (.int (0 : Int32)) (.int n)) :: F) = F' ∧ G = G') := by
  refine MetW.of_go pn_as1 K.ew (L := [.val (.ref sb)]) (fun m => rfl) ?_
  intro D _
  obtain ⟨z, nz, hz⟩ := K.cmpt
  refine Go.getstatic (B := B_as1) td_as1 0 rfl (w_101 K) hz ?_
  refine Go.if0 (B := B_as1) td_as1 1 (pc' := 17) rfl (by decide) rfl (fun (h : z = 0) => absurd h nz) (fun _ => ?_)
  refine Go.rn (B := B_as1) td_as1 2 1 (pc' := 7) (S' := [.ref sb]) rfl ?_
  refine Go.getfield (B := B_as1) td_as1 3 rfl (w_104 K) (Or.inl (mi 0 rfl)) (mi 1 rfl) ?_
  refine Go.if0 (B := B_as1) td_as1 4 (pc' := 17) rfl (by decide) rfl (fun _ => ?_) (fun (h : ¬ ((1 : Int32) ≠ 0)) => absurd (by decide) h)
  refine Go.rn (B := B_as1) td_as1 7 1 (pc' := 18) (S' := [.int (0 : Int32)]) rfl ?_
  exact Go.retZ (B := B_as1) td_as1 8 rfl rfl rfl ⟨rfl, rfl, rfl⟩ (by decide) (by decide)
def tb_pfs : List In1 := [(0, .iload_n 2, 1), (1, .iload_n 0, 1), (2, .ior, 1), (3, .iload_n 1, 1), (4, .ior, 1), (5, .ifCond .lt 10, 3), (8, .iload_n 1, 1), (9, .iload_n 2, 1), (10, .iload_n 0, 1), (11, .isub, 1), (12, .if_icmp .le 11, 3), (15, .aload_n 3, 1), (16, .iload_n 0, 1), (17, .iload_n 1, 1), (18, .iload_n 2, 1), (19, .invokestatic 103, 3), (22, .athrow, 1), (23, .iload_n 0, 1), (24, .ireturn, 1)]
set_option maxRecDepth 65536 in
theorem td_pfs : Dec jdk_41_method_13_code tb_pfs := by unfold Dec; decide +kernel
theorem pd_pfs : parseMethodDescriptor "(IIILjava/util/function/BiFunction;)I" = some ⟨[.int, .int, .int, (.object "java/util/function/BiFunction")], (some .int)⟩ := by decide +kernel
theorem pn_pfs : plainFor (⟨"jdk/internal/util/Preconditions", "checkFromIndexSize", "(IIILjava/util/function/BiFunction;)I"⟩ : MethodName) = true := by decide +kernel
abbrev B_pfs : Bx := ((⟨"jdk/internal/util/Preconditions", "checkFromIndexSize", "(IIILjava/util/function/BiFunction;)I"⟩ : MethodName), jdk_41_method_13_code, 4, (Option.some Jvm.ClassFile.FieldType.int), ({ frames := 0, cells := 0, slots := 0, locals := 0 } : Room))
set_option maxRecDepth 65536 in
set_option maxHeartbeats 4000000 in
theorem pfsN_met {A : Ax} (K : Wd A) {i j n : Int32} (hi : 0 ≤ i.toInt ∧ 0 ≤ j.toInt ∧ i.toInt + j.toInt ≤ n.toInt) {F G : List Ent} : Met A B_pfs #[.int i, .int j, .int n, .null] F G (fun v F' G' => v = some (.int i) ∧ F = F' ∧ G = G') := by
  refine MetW.of_go pn_pfs K.ew (L := [.val (.int i), .val (.int j), .val (.int n), .val (.null)]) (fun m => rfl) ?_
  intro D _
  have q0 : (0 : Int32).toInt = 0 := rfl
  refine Go.rn (B := B_pfs) td_pfs 0 5 (pc' := 5) (S' := [.int ((n ||| i) ||| j)]) rfl ?_
  refine Go.if0 (B := B_pfs) td_pfs 5 (pc' := 15) rfl (by decide) rfl (fun (h : ((n ||| i) ||| j) < 0) => absurd h (fun z => absurd (i32_lt.mp z) (Int.not_lt.mpr ((c_orS _ _).1 ((c_orS _ _).1 (by omega) hi.1) hi.2.1)))) (fun _ => ?_)
  refine Go.rn (B := B_pfs) td_pfs 6 4 (pc' := 12) (S' := [.int (n - i), .int j]) rfl ?_
  refine Go.icmp (B := B_pfs) td_pfs 10 (pc' := 23) rfl (by decide) rfl (fun _ => ?_) (fun (h : ¬ (j ≤ (n - i))) => absurd (i32_le.mpr (by have h1 := c_isub n i; have h2 := rng32 (n - i); have h3 := rng32 n; omega)) h)
  refine Go.rn (B := B_pfs) td_pfs 17 1 (pc' := 24) (S' := [.int i]) rfl ?_
  exact Go.retI (B := B_pfs) td_pfs 18 rfl rfl ⟨rfl, rfl, rfl⟩ (by decide) (by decide)
set_option maxRecDepth 65536 in
set_option maxHeartbeats 4000000 in
theorem pfsR_met {A : Ax} (K : Wd A) {r : Addr} {i j n : Int32} (hi : 0 ≤ i.toInt ∧ 0 ≤ j.toInt ∧ i.toInt + j.toInt ≤ n.toInt) {F G : List Ent} : Met A B_pfs #[.int i, .int j, .int n, .ref r] F G (fun v F' G' => v = some (.int i) ∧ F = F' ∧ G = G') := by
  refine MetW.of_go pn_pfs K.ew (L := [.val (.int i), .val (.int j), .val (.int n), .val (.ref r)]) (fun m => rfl) ?_
  intro D _
  have q0 : (0 : Int32).toInt = 0 := rfl
  refine Go.rn (B := B_pfs) td_pfs 0 5 (pc' := 5) (S' := [.int ((n ||| i) ||| j)]) rfl ?_
  refine Go.if0 (B := B_pfs) td_pfs 5 (pc' := 15) rfl (by decide) rfl (fun (h : ((n ||| i) ||| j) < 0) => absurd h (fun z => absurd (i32_lt.mp z) (Int.not_lt.mpr ((c_orS _ _).1 ((c_orS _ _).1 (by omega) hi.1) hi.2.1)))) (fun _ => ?_)
  refine Go.rn (B := B_pfs) td_pfs 6 4 (pc' := 12) (S' := [.int (n - i), .int j]) rfl ?_
  refine Go.icmp (B := B_pfs) td_pfs 10 (pc' := 23) rfl (by decide) rfl (fun _ => ?_) (fun (h : ¬ (j ≤ (n - i))) => absurd (i32_le.mpr (by have h1 := c_isub n i; have h2 := rng32 (n - i); have h3 := rng32 n; omega)) h)
  refine Go.rn (B := B_pfs) td_pfs 17 1 (pc' := 24) (S' := [.int i]) rfl ?_
  exact Go.retI (B := B_pfs) td_pfs 18 rfl rfl ⟨rfl, rfl, rfl⟩ (by decide) (by decide)
def tb_soc : List In1 := [(0, .iload_n 0, 1), (1, .iload_n 1, 1), (2, .iload_n 2, 1), (3, .getstatic 1053, 3), (6, .invokestatic 1065, 3), (9, .ireturn, 1)]
set_option maxRecDepth 65536 in
theorem td_soc : Dec jdk_42_method_157_code tb_soc := by unfold Dec; decide +kernel
theorem pd_soc : parseMethodDescriptor "(III)I" = some ⟨[.int, .int, .int], (some .int)⟩ := by decide +kernel
theorem pn_soc : plainFor (⟨"java/lang/String", "checkBoundsOffCount", "(III)I"⟩ : MethodName) = true := by decide +kernel
abbrev B_soc : Bx := ((⟨"java/lang/String", "checkBoundsOffCount", "(III)I"⟩ : MethodName), jdk_42_method_157_code, 3, (Option.some Jvm.ClassFile.FieldType.int), ({ frames := 1, cells := 0, slots := 0, locals := 15 } : Room))
set_option maxRecDepth 65536 in
set_option maxHeartbeats 4000000 in
theorem soc_met {A : Ax} (K : Wd A) {i j n : Int32} (hi : 0 ≤ i.toInt ∧ 0 ≤ j.toInt ∧ i.toInt + j.toInt ≤ n.toInt) {F G : List Ent} : Met A B_soc #[.int i, .int j, .int n] F G (fun v F' G' => v = some (.int i) ∧ F = F' ∧ G = G') := by
  refine MetW.of_go pn_soc K.ew (L := [.val (.int i), .val (.int j), .val (.int n)]) (fun m => rfl) ?_
  intro D _
  obtain ⟨v, hv, hs⟩ := K.sio
  rcases ref_cases hv with rfl | ⟨r, rfl⟩
  · refine Go.rn (B := B_soc) td_soc 0 3 (pc' := 3) (S' := [.int n, .int j, .int i]) rfl ?_
    refine Go.getstatic (B := B_soc) td_soc 3 rfl (w_162 K) hs ?_
    refine Go.callS (B := B_soc) td_soc 4 (B' := B_pfs) (argsL := [.int i, .int j, .int n, .null]) (rest := []) (W := 0) rfl (pfsN_met K hi) (w_425 K) (w_426 K) (w_163 K) (w_427 K) (by decide) pd_pfs rfl rfl rfl rfl (Nat.le_of_eq rfl) (by decide) (by decide) (by decide) (by decide) ?_
    rintro _ _ _ ⟨rfl, rfl, rfl⟩
    show Go A B_soc D _ 9 _ [.int i] _ _ 0 0
    exact Go.retI (B := B_soc) td_soc 5 rfl rfl ⟨rfl, rfl, rfl⟩ (by decide) (by decide)
  · refine Go.rn (B := B_soc) td_soc 0 3 (pc' := 3) (S' := [.int n, .int j, .int i]) rfl ?_
    refine Go.getstatic (B := B_soc) td_soc 3 rfl (w_162 K) hs ?_
    refine Go.callS (B := B_soc) td_soc 4 (B' := B_pfs) (argsL := [.int i, .int j, .int n, .ref r]) (rest := []) (W := 0) rfl (pfsR_met K hi) (w_425 K) (w_426 K) (w_163 K) (w_427 K) (by decide) pd_pfs rfl rfl rfl rfl (Nat.le_of_eq rfl) (by decide) (by decide) (by decide) (by decide) ?_
    rintro _ _ _ ⟨rfl, rfl, rfl⟩
    show Go A B_soc D _ 9 _ [.int i] _ _ 0 0
    exact Go.retI (B := B_soc) td_soc 5 rfl rfl ⟨rfl, rfl, rfl⟩ (by decide) (by decide)
def tb_ubo : List In1 := [(0, .iload_n 0, 1), (1, .iload_n 1, 1), (2, .aload_n 2, 1), (3, .invokestatic 48, 3), (6, .invokestatic 419, 3), (9, .pop, 1), (10, .return_, 1)]
set_option maxRecDepth 65536 in
theorem td_ubo : Dec jdk_52_method_94_code tb_ubo := by unfold Dec; decide +kernel
theorem pd_ubo : parseMethodDescriptor "(II[B)V" = some ⟨[.int, .int, (.array .byte)], none⟩ := by decide +kernel
theorem pn_ubo : plainFor (⟨"java/lang/StringUTF16", "checkBoundsOffCount", "(II[B)V"⟩ : MethodName) = true := by decide +kernel
abbrev B_ubo : Bx := ((⟨"java/lang/StringUTF16", "checkBoundsOffCount", "(II[B)V"⟩ : MethodName), jdk_52_method_94_code, 3, (Option.none : Option Jvm.ClassFile.FieldType), ({ frames := 2, cells := 0, slots := 0, locals := 29 } : Room))
set_option maxRecDepth 65536 in
set_option maxHeartbeats 4000000 in
theorem ubo_met {A : Ax} (K : Wd A) {t : Addr} {p q l : Nat} {vs : List Value} (hz : vs.length = 2 * l) (hl : l ≤ 64) (hp : p + q ≤ l) {F G : List Ent} (m : BytE A t vs ∈ F ∨ BytE A t vs ∈ G) : Met A B_ubo #[.int (nI p), .int (nI q), .ref t] F G (fun v F' G' => v = none ∧ F = F' ∧ G = G') := by
  refine MetW.of_go pn_ubo K.ew (L := [.val (.int (nI p)), .val (.int (nI q)), .val (.ref t)]) (fun m => rfl) ?_
  intro D _
  have hp1 := nI_toInt (n := p) (by omega)
  have hq1 := nI_toInt (n := q) (by omega)
  have hl1 := nI_toInt (n := l) (by omega)
  refine Go.rn (B := B_ubo) td_ubo 0 3 (pc' := 3) (S' := [.ref t, .int (nI q), .int (nI p)]) rfl ?_
  refine Go.callS (B := B_ubo) td_ubo 3 (B' := B_ule) (argsL := [.ref t]) (rest := [.int (nI q), .int (nI p)]) (W := 2) rfl (ule_met K hz (by omega) m) (w_403 K) (w_404 K) (w_22 K) (w_405 K) (by decide) pd_ule rfl rfl rfl rfl (Nat.le_of_eq rfl) (by decide) (by decide) (by decide) (by decide) ?_
  rintro _ _ _ ⟨rfl, rfl, rfl⟩
  show Go A B_ubo D _ 6 _ [.int (nI l), .int (nI q), .int (nI p)] _ _ 0 0
  refine Go.callS (B := B_ubo) td_ubo 4 (B' := B_soc) (argsL := [.int (nI p), .int (nI q), .int (nI l)]) (rest := []) (W := 0) rfl (soc_met K ⟨by omega, by omega, by omega⟩) (w_422 K) (w_423 K) (w_8 K) (w_424 K) (by decide) pd_soc rfl rfl rfl rfl (Nat.le_of_eq rfl) (by decide) (by decide) (by decide) (by decide) ?_
  rintro _ _ _ ⟨rfl, rfl, rfl⟩
  show Go A B_ubo D _ 9 _ [.int (nI p)] _ _ 0 0
  refine Go.rn (B := B_ubo) td_ubo 5 1 (pc' := 10) (S' := []) rfl ?_
  exact Go.retV (B := B_ubo) td_ubo 6 rfl rfl ⟨rfl, rfl, rfl⟩ (by decide) (by decide)
--CUT
def tb_ifl : List In1 := [(0, .iload_n 3, 1), (1, .iload 4, 2), (3, .aload_n 2, 1), (4, .invokestatic 173, 3), (7, .iconst 0, 1), (8, .istore 5, 2), (10, .iload 5, 2), (12, .iload 4, 2), (14, .if_icmp .ge 27, 3), (17, .aload_n 2, 1), (18, .iload_n 3, 1), (19, .iinc 3 1, 3), (22, .aload_n 0, 1), (23, .iload_n 1, 1), (24, .iinc 1 1, 3), (27, .baload, 1), (28, .sipush 255, 3), (31, .iand, 1), (32, .invokestatic 111, 3), (35, .iinc 5 1, 3), (38, .goto (-28), 3), (41, .return_, 1)]
set_option maxRecDepth 65536 in
theorem td_ifl : Dec jdk_52_method_86_code tb_ifl := by unfold Dec; decide +kernel
theorem pd_ifl : parseMethodDescriptor "([BI[BII)V" = some ⟨[(.array .byte), .int, (.array .byte), .int, .int], none⟩ := by decide +kernel
theorem pn_ifl : plainFor (⟨"java/lang/StringUTF16", "inflate", "([BI[BII)V"⟩ : MethodName) = true := by decide +kernel
abbrev B_ifl : Bx := ((⟨"java/lang/StringUTF16", "inflate", "([BI[BII)V"⟩ : MethodName), jdk_52_method_86_code, 6, (Option.none : Option Jvm.ClassFile.FieldType), ({ frames := 3, cells := 0, slots := 0, locals := 43 } : Room))
set_option maxRecDepth 65536 in
set_option maxHeartbeats 4000000 in
theorem ifl_met {A : Ax} (K : Wd A) {b t : Addr} {ds sf P E : List Int32} (hl : Lat ds) (h1 : ds.length + sf.length ≤ 64) (h2 : P.length + E.length ≤ 64) (h3 : ds.length ≤ E.length) {F G : List Ent} (m : BytE A b (latB (ds ++ sf)) ∈ F ∨ BytE A b (latB (ds ++ sf)) ∈ G) : Met A B_ifl #[.ref b, .int (0 : Int32), .ref t, .int (nI P.length), .int (nI ds.length)] ((t, ArrP A .byte (utfB (P ++ E))) :: F) G (fun v F' G' => v = none ∧ ((t, ArrP A .byte (utfB (P ++ (ds ++ E.drop ds.length)))) :: F) = F' ∧ G = G') := by
  refine MetW.of_go pn_ifl K.ew (L := [.val (.ref b), .val (.int (0 : Int32)), .val (.ref t), .val (.int (nI P.length)), .val (.int (nI ds.length)), .unset]) (fun m => rfl) ?_
  intro D _
  have loop : ∀ (d2 d1 E2 : List Int32), ds = d1 ++ d2 → E2 = E.drop d1.length → Go A B_ifl D (fun v F' G' => v = none ∧ ((t, ArrP A .byte (utfB (P ++ (ds ++ E.drop ds.length)))) :: F) = F' ∧ G = G') 10 [.val (.ref b), .val (.int (nI d1.length)), .val (.ref t), .val (.int (nI (P ++ d1).length)), .val (.int (nI ds.length)), .val (.int (nI d1.length))] [] ((t, ArrP A .byte (utfB ((P ++ d1) ++ E2))) :: F) G 0 0 := by
    intro d2
    induction d2 with
    | nil =>
      intro d1 E2 hd hE
      have e : ds = d1 := by simpa using hd
      refine Go.rn (B := B_ifl) td_ifl 6 2 (pc' := 14) (S' := [.int (nI ds.length), .int (nI d1.length)]) rfl ?_
      refine Go.icmp (B := B_ifl) td_ifl 8 (pc' := 41) rfl (by decide) rfl (fun _ => ?_) (fun (h : ¬ ((nI d1.length) ≥ (nI ds.length))) => absurd (by rw [e]; exact Int32.le_refl _) h)
      exact Go.retV (B := B_ifl) td_ifl 21 rfl rfl ⟨rfl, by rw [e, hE, List.append_assoc], rfl⟩ (by decide) (by decide)
    | cons d d2 ih =>
      intro d1 E2 hd hE
      have hdl : ds.length = d1.length + (d2.length + 1) := by rw [hd]; simp
      obtain ⟨e, E3, hE3⟩ : ∃ e E3, E2 = e :: E3 := by
        cases E2 with
        | nil => have := congrArg List.length hE; rw [List.length_drop] at this; simp only [List.length_nil] at this; omega
        | cons e E3 => exact ⟨e, E3, rfl⟩
      have hE4 : E3 = E.drop (d1 ++ [d]).length := by rw [List.length_append, List.length_singleton, ← List.drop_drop, ← hE, hE3]; rfl
      have hld : 0 ≤ d.toInt ∧ d.toInt < 256 := hl d (by rw [hd]; simp)
      have hih := ih (d1 ++ [d]) E3 (by rw [hd]; simp) hE4
      rw [← List.append_assoc P d1 [d], own_len_snoc, own_len_snoc] at hih
      have hE5 := congrArg List.length hE
      rw [hE3, List.length_drop, List.length_cons] at hE5
      have hPl : (P ++ d1).length = P.length + d1.length := List.length_append
      rw [hE3, utf_mid]
      refine Go.rn (B := B_ifl) td_ifl 6 2 (pc' := 14) (S' := [.int (nI ds.length), .int (nI d1.length)]) rfl ?_
      refine Go.icmp (B := B_ifl) td_ifl 8 (pc' := 41) rfl (by decide) rfl (fun (h : (nI d1.length) ≥ (nI ds.length)) => absurd h (Int32.not_le.mpr ((nI_lt (by omega) (by omega)).mpr (by omega)))) (fun _ => ?_)
      refine Go.run (B := B_ifl) td_ifl 9 6 (pc' := 27) (L' := [.val (.ref b), .val (.int ((nI d1.length) + (1 : Int32))), .val (.ref t), .val (.int ((nI (P ++ d1).length) + (1 : Int32))), .val (.int (nI ds.length)), .val (.int (nI d1.length))]) (S' := [.int (nI d1.length), .ref b, .int (nI (P ++ d1).length), .ref t]) rfl ?_
      refine Go.baload (B := B_ifl) td_ifl 15 (v := .int (byt8 d)) rfl (m.imp (List.mem_cons_of_mem _) id) (nI_inB (by rw [latB_len, List.length_append]; omega) (by rw [latB_len, List.length_append]; omega)) (by rw [nI_nat (by omega), hd]; simp [latB]) ?_
      refine Go.rn (B := B_ifl) td_ifl 16 2 (pc' := 32) (S' := [.int ((byt8 d) &&& (255 : Int32)), .int (nI (P ++ d1).length), .ref t]) rfl ?_
      rw [byt8_and hld]
      refine Go.callS (B := B_ifl) td_ifl 18 (B' := B_pch) (argsL := [.ref t, .int (nI (P ++ d1).length), .int d]) (rest := []) (W := 0) rfl (pch_met K (utfB_len (P ++ d1)) (by simp only [List.length_append, List.length_cons, utfB_len]; omega)) (w_388 K) (w_389 K) (w_22 K) (w_390 K) (by decide) pd_pch rfl rfl rfl rfl (Nat.le_of_eq rfl) (by decide) (by decide) (by decide) (by decide) ?_
      rintro _ _ _ ⟨rfl, rfl, rfl⟩
      show Go A B_ifl D _ 35 _ [] ((t, ArrP A .byte (utfB (P ++ d1) ++ .int (byt8 d) :: .int (u2 d) :: utfB E3)) :: F) _ 0 0
      rw [← utf_mid, show (P ++ d1) ++ d :: E3 = (P ++ d1 ++ [d]) ++ E3 by simp]
      refine Go.run (B := B_ifl) td_ifl 19 2 (pc' := 10) (L' := [.val (.ref b), .val (.int ((nI d1.length) + (1 : Int32))), .val (.ref t), .val (.int ((nI (P ++ d1).length) + (1 : Int32))), .val (.int (nI ds.length)), .val (.int ((nI d1.length) + (1 : Int32)))]) (S' := []) rfl ?_
      exact hih
  refine Go.rn (B := B_ifl) td_ifl 0 3 (pc' := 4) (S' := [.ref t, .int (nI ds.length), .int (nI P.length)]) rfl ?_
  refine Go.callS (B := B_ifl) td_ifl 3 (B' := B_ubo) (argsL := [.int (nI P.length), .int (nI ds.length), .ref t]) (rest := []) (W := 0) rfl (ubo_met K (utfB_len (P ++ E)) (by rw [List.length_append]; exact h2) (by rw [List.length_append]; omega) (Or.inl (mi 0 rfl))) (w_419 K) (w_420 K) (w_22 K) (w_421 K) (by decide) pd_ubo rfl rfl rfl rfl (Nat.le_of_eq rfl) (by decide) (by decide) (by decide) (by decide) ?_
  rintro _ _ _ ⟨rfl, rfl, rfl⟩
  show Go A B_ifl D _ 7 _ [] _ _ 0 0
  refine Go.run (B := B_ifl) td_ifl 4 2 (pc' := 10) (L' := [.val (.ref b), .val (.int (0 : Int32)), .val (.ref t), .val (.int (nI P.length)), .val (.int (nI ds.length)), .val (.int (0 : Int32))]) (S' := []) rfl ?_
  have hgo := loop ds [] E rfl rfl
  rw [List.append_nil] at hgo
  exact hgo
def tb_lif : List In1 := [(0, .aload_n 0, 1), (1, .iload_n 1, 1), (2, .aload_n 2, 1), (3, .iload_n 3, 1), (4, .iload 4, 2), (6, .invokestatic 240, 3), (9, .return_, 1)]
set_option maxRecDepth 65536 in
theorem td_lif : Dec jdk_43_method_50_code tb_lif := by unfold Dec; decide +kernel
theorem pd_lif : parseMethodDescriptor "([BI[BII)V" = some ⟨[(.array .byte), .int, (.array .byte), .int, .int], none⟩ := by decide +kernel
theorem pn_lif : plainFor (⟨"java/lang/StringLatin1", "inflate", "([BI[BII)V"⟩ : MethodName) = true := by decide +kernel
abbrev B_lif : Bx := ((⟨"java/lang/StringLatin1", "inflate", "([BI[BII)V"⟩ : MethodName), jdk_43_method_50_code, 5, (Option.none : Option Jvm.ClassFile.FieldType), ({ frames := 4, cells := 0, slots := 0, locals := 60 } : Room))
set_option maxRecDepth 65536 in
set_option maxHeartbeats 4000000 in
theorem lif_met {A : Ax} (K : Wd A) {b t : Addr} {ds sf P E : List Int32} (hl : Lat ds) (h1 : ds.length + sf.length ≤ 64) (h2 : P.length + E.length ≤ 64) (h3 : ds.length ≤ E.length) {F G : List Ent} (m : BytE A b (latB (ds ++ sf)) ∈ F ∨ BytE A b (latB (ds ++ sf)) ∈ G) : Met A B_lif #[.ref b, .int (0 : Int32), .ref t, .int (nI P.length), .int (nI ds.length)] ((t, ArrP A .byte (utfB (P ++ E))) :: F) G (fun v F' G' => v = none ∧ ((t, ArrP A .byte (utfB (P ++ (ds ++ E.drop ds.length)))) :: F) = F' ∧ G = G') := by
  refine MetW.of_go pn_lif K.ew (L := [.val (.ref b), .val (.int (0 : Int32)), .val (.ref t), .val (.int (nI P.length)), .val (.int (nI ds.length))]) (fun m => rfl) ?_
  intro D _
  refine Go.rn (B := B_lif) td_lif 0 5 (pc' := 6) (S' := [.int (nI ds.length), .int (nI P.length), .ref t, .int (0 : Int32), .ref b]) rfl ?_
  refine Go.callS (B := B_lif) td_lif 5 (B' := B_ifl) (argsL := [.ref b, .int (0 : Int32), .ref t, .int (nI P.length), .int (nI ds.length)]) (rest := []) (W := 0) rfl (ifl_met K hl h1 h2 h3 m) (w_416 K) (w_417 K) (w_22 K) (w_418 K) (by decide) pd_ifl rfl rfl rfl rfl (Nat.le_of_eq rfl) (by decide) (by decide) (by decide) (by decide) ?_
  rintro _ _ _ ⟨rfl, rfl, rfl⟩
  show Go A B_lif D _ 9 _ [] ((t, ArrP A .byte (utfB (P ++ (ds ++ E.drop ds.length)))) :: F) _ 0 0
  exact Go.retV (B := B_lif) td_lif 6 rfl rfl ⟨rfl, rfl, rfl⟩ (by decide) (by decide)
def tb_asf : List In1 := [(0, .aload_n 0, 1), (1, .invokevirtual 83, 3), (4, .ifCond .ne 4, 3), (7, .return_, 1), (8, .aload_n 0, 1), (9, .getfield 15, 3), (12, .arraylength, 1), (13, .invokestatic 26, 3), (16, .astore_n 1, 1), (17, .aload_n 0, 1), (18, .getfield 15, 3), (21, .iconst 0, 1), (22, .aload_n 1, 1), (23, .iconst 0, 1), (24, .aload_n 0, 1), (25, .getfield 79, 3), (28, .invokestatic 125, 3), (31, .aload_n 0, 1), (32, .aload_n 1, 1), (33, .putfield 15, 3), (36, .aload_n 0, 1), (37, .iconst 1, 1), (38, .putfield 22, 3), (41, .return_, 1)]
set_option maxRecDepth 65536 in
theorem td_asf : Dec jdk_68_method_11_code tb_asf := by unfold Dec; decide +kernel
theorem pd_asf : parseMethodDescriptor "()V" = some ⟨[], none⟩ := by decide +kernel
theorem pn_asf : plainFor (⟨"java/lang/AbstractStringBuilder", "inflate", "()V"⟩ : MethodName) = true := by decide +kernel
abbrev B_asf : Bx := ((⟨"java/lang/AbstractStringBuilder", "inflate", "()V"⟩ : MethodName), jdk_68_method_11_code, 2, (Option.none : Option Jvm.ClassFile.FieldType), ({ frames := 5, cells := 1, slots := 128, locals := 76 } : Room))
set_option maxRecDepth 65536 in
set_option maxHeartbeats 4000000 in
theorem asfU_met {A : Ax} (K : Wd A) {sb t : Addr} {n : Int32} {F G : List Ent} : Met A B_asf #[.ref sb] ((sb, ob_1 A (.ref t) (.int (1 : Int32)) (.int (0 : Int32)) (.int n)) :: F) G (fun v F' G' => v = none ∧ ((sb, ob_1 A (.ref t) (.int (1 : Int32)) (.int (0 : Int32)) (.int n)) :: F) = F' ∧ G = G') := by
  refine MetW.of_go pn_asf K.ew (L := [.val (.ref sb), .unset]) (fun m => rfl) ?_
  intro D _
  refine Go.rn (B := B_asf) td_asf 0 1 (pc' := 1) (S' := [.ref sb]) rfl ?_
  refine Go.callV (B := B_asf) td_asf 1 (B' := B_as1) (C := "java/lang/StringBuilder") (a := sb) (argsL := []) (rest := []) (W := 0) rfl (as1U_met K) (Or.inl (mi 0 rfl)) (fun c P => P.1) (w_354 K) (w_256 K) (w_257 K) (w_258 K) (w_258 K) (w_98 K) (w_259 K) (by decide) pd_as1 rfl rfl rfl rfl (Nat.le_of_eq rfl) (by decide) (by decide) (by decide) (by decide) ?_
  rintro _ _ _ ⟨rfl, rfl, rfl⟩
  show Go A B_asf D _ 4 _ [.int (0 : Int32)] _ _ 0 0
  refine Go.if0 (B := B_asf) td_asf 2 (pc' := 8) rfl (by decide) rfl (fun (h : (0 : Int32) ≠ 0) => absurd h (fun z => z rfl)) (fun _ => ?_)
  exact Go.retV (B := B_asf) td_asf 3 rfl rfl ⟨rfl, rfl, rfl⟩ (by decide) (by decide)
set_option maxRecDepth 65536 in
set_option maxHeartbeats 4000000 in
theorem asfL_met {A : Ax} (K : Wd A) {sb t : Addr} {cs pad : List Int32} (hl : Lat cs) (hx : cs.length + pad.length ≤ 64) {F G : List Ent} : Met A B_asf #[.ref sb] ((sb, ob_1 A (.ref t) (.int (0 : Int32)) (.int (0 : Int32)) (.int (nI cs.length))) :: (t, ArrP A .byte (latB (cs ++ pad))) :: F) G (fun v F' G' => v = none ∧ (∃ t2 pad2, pad2.length = pad.length ∧ ((sb, ob_1 A (.ref t2) (.int (1 : Int32)) (.int (0 : Int32)) (.int (nI cs.length))) :: (t2, ArrP A .byte (utfB (cs ++ pad2))) :: F) = F') ∧ G = G') := by
  refine MetW.of_go pn_asf K.ew (L := [.val (.ref sb), .unset]) (fun m => rfl) ?_
  intro D _
  have hll : (cs ++ pad).length = cs.length + pad.length := List.length_append
  refine Go.rn (B := B_asf) td_asf 0 1 (pc' := 1) (S' := [.ref sb]) rfl ?_
  refine Go.callV (B := B_asf) td_asf 1 (B' := B_as1) (C := "java/lang/StringBuilder") (a := sb) (argsL := []) (rest := []) (W := 0) rfl (as1L_met K) (Or.inl (mi 0 rfl)) (fun c P => P.1) (w_354 K) (w_256 K) (w_257 K) (w_258 K) (w_258 K) (w_98 K) (w_259 K) (by decide) pd_as1 rfl rfl rfl rfl (Nat.le_of_eq rfl) (by decide) (by decide) (by decide) (by decide) ?_
  rintro _ _ _ ⟨rfl, rfl, rfl⟩
  show Go A B_asf D _ 4 _ [.int (1 : Int32)] _ _ 0 0
  refine Go.if0 (B := B_asf) td_asf 2 (pc' := 8) rfl (by decide) rfl (fun _ => ?_) (fun (h : ¬ ((1 : Int32) ≠ 0)) => absurd (by decide) h)
  refine Go.rn (B := B_asf) td_asf 4 1 (pc' := 9) (S' := [.ref sb]) rfl ?_
  refine Go.getfield (B := B_asf) td_asf 5 rfl (w_102 K) (Or.inl (mi 0 rfl)) (mi 0 rfl) ?_
  refine Go.arraylength (B := B_asf) td_asf 6 (z := (nI (cs ++ pad).length)) rfl (Or.inl (mi 1 rfl)) (by rw [latB_len, nI_toInt (by omega)]) ?_
  refine Go.callS (B := B_asf) td_asf 7 (B' := B_nbf) (argsL := [.int (nI (cs ++ pad).length)]) (rest := []) (W := 0) rfl (nbf_met K (by omega)) (w_412 K) (w_382 K) (w_22 K) (w_383 K) (by decide) pd_nbf rfl rfl rfl rfl (Nat.le_of_eq rfl) (by decide) (by decide) (by decide) (by decide) ?_
  rintro _ _ _ ⟨b, rfl, rfl, rfl⟩
  show Go A B_asf D _ 16 _ [.ref b] ((b, ArrP A .byte (List.replicate (2 * (cs ++ pad).length) (.int 0))) :: (sb, ob_1 A (.ref t) (.int (0 : Int32)) (.int (0 : Int32)) (.int (nI cs.length))) :: (t, ArrP A .byte (latB (cs ++ pad))) :: F) _ 1 128
  rw [utf_rep]
  show Go A B_asf D _ 16 [.val (.ref sb), .unset] [.ref b] ((b, ArrP A .byte (utfB ([] ++ List.replicate (cs ++ pad).length 0))) :: (sb, ob_1 A (.ref t) (.int (0 : Int32)) (.int (0 : Int32)) (.int (nI cs.length))) :: (t, ArrP A .byte (latB (cs ++ pad))) :: F) G 1 128
  refine Go.run (B := B_asf) td_asf 8 2 (pc' := 18) (L' := [.val (.ref sb), .val (.ref b)]) (S' := [.ref sb]) rfl ?_
  refine Go.getfield (B := B_asf) td_asf 10 rfl (w_102 K) (Or.inl (mi 1 rfl)) (mi 0 rfl) ?_
  refine Go.rn (B := B_asf) td_asf 11 4 (pc' := 25) (S' := [.ref sb, .int (0 : Int32), .ref b, .int (0 : Int32), .ref t]) rfl ?_
  refine Go.getfield (B := B_asf) td_asf 15 rfl (w_179 K) (Or.inl (mi 1 rfl)) (mi 3 rfl) ?_
  refine Go.callS (B := B_asf) td_asf 16 (B' := B_lif) (argsL := [.ref t, .int (0 : Int32), .ref b, .int (0 : Int32), .int (nI cs.length)]) (rest := []) (W := 0) rfl (lif_met K (P := []) (E := List.replicate (cs ++ pad).length 0) hl (by omega) (by simp only [List.length_nil, List.length_replicate]; omega) (by rw [List.length_replicate]; omega) (Or.inl (mi 1 rfl))) (w_413 K) (w_414 K) (w_157 K) (w_415 K) (by decide) pd_lif rfl rfl rfl rfl (Nat.le_of_eq rfl) (by decide) (by decide) (by decide) (by decide) ?_
  rintro _ _ _ ⟨rfl, rfl, rfl⟩
  show Go A B_asf D _ 31 _ [] ((b, ArrP A .byte (utfB ([] ++ (cs ++ (List.replicate (cs ++ pad).length 0).drop cs.length)))) :: (sb, ob_1 A (.ref t) (.int (0 : Int32)) (.int (0 : Int32)) (.int (nI cs.length))) :: (t, ArrP A .byte (latB (cs ++ pad))) :: F) _ 1 128
  refine Go.rn (B := B_asf) td_asf 17 2 (pc' := 33) (S' := [.ref b, .ref sb]) rfl ?_
  refine Go.front 1 (F' := ((sb, ob_1 A (.ref t) (.int (0 : Int32)) (.int (0 : Int32)) (.int (nI cs.length))) :: (b, ArrP A .byte (utfB ([] ++ (cs ++ (List.replicate (cs ++ pad).length 0).drop cs.length)))) :: (t, ArrP A .byte (latB (cs ++ pad))) :: F)) rfl rfl ?_
  refine Go.putfield (B := B_asf) td_asf 19 (fs' := [("java/lang/AbstractStringBuilder", "value", "[B", .ref b), ("java/lang/AbstractStringBuilder", "coder", "B", .int (0 : Int32)), ("java/lang/AbstractStringBuilder", "maybeLatin1", "Z", .int (0 : Int32)), ("java/lang/AbstractStringBuilder", "count", "I", .int (nI cs.length))]) rfl (w_102 K) (Or.inl (w_103 K)) (w_65 K) rfl rfl rfl (mi 0 rfl) (own_fs 0 (ns := ["coder", "maybeLatin1", "count"]) rfl (by decide) rfl) ?_
  refine Go.rn (B := B_asf) td_asf 20 2 (pc' := 38) (S' := [.int (1 : Int32), .ref sb]) rfl ?_
  refine Go.putfield (B := B_asf) td_asf 22 (fs' := [("java/lang/AbstractStringBuilder", "value", "[B", .ref b), ("java/lang/AbstractStringBuilder", "coder", "B", .int (1 : Int32)), ("java/lang/AbstractStringBuilder", "maybeLatin1", "Z", .int (0 : Int32)), ("java/lang/AbstractStringBuilder", "count", "I", .int (nI cs.length))]) rfl (w_104 K) (Or.inl (w_105 K)) (w_65 K) rfl rfl rfl (mi 1 rfl) (own_fs 1 (ns := ["value", "maybeLatin1", "count"]) rfl (by decide) rfl) ?_
  refine Go.front 2 (F' := ((t, ArrP A .byte (latB (cs ++ pad))) :: (sb, ob_1 A (.ref b) (.int (1 : Int32)) (.int (0 : Int32)) (.int (nI cs.length))) :: (b, ArrP A .byte (utfB ([] ++ (cs ++ (List.replicate (cs ++ pad).length 0).drop cs.length)))) :: F)) rfl rfl ?_
  refine Go.drop ?_
  exact Go.retV (B := B_asf) td_asf 23 rfl rfl ⟨rfl, ⟨b, (List.replicate (cs ++ pad).length 0).drop cs.length, by rw [List.length_drop, List.length_replicate]; omega, rfl⟩, rfl⟩ (by decide) (by decide)
--CUT
def tb_inf : List In1 := [(0, .getstatic 18, 3), (3, .ifCond .eq 18, 3), (6, .aload_n 0, 1), (7, .getfield 22, 3), (10, .aload_n 1, 1), (11, .invokevirtual 40, 3), (14, .if_icmp .eq 7, 3), (17, .aload_n 0, 1), (18, .invokevirtual 195, 3), (21, .return_, 1)]
set_option maxRecDepth 65536 in
theorem td_inf : Dec jdk_68_method_71_code tb_inf := by unfold Dec; decide +kernel
theorem pd_inf : parseMethodDescriptor "(Ljava/lang/String;)V" = some ⟨[(.object "java/lang/String")], none⟩ := by decide +kernel
theorem pn_inf : plainFor (⟨"java/lang/AbstractStringBuilder", "inflateIfNeededFor", "(Ljava/lang/String;)V"⟩ : MethodName) = true := by decide +kernel
abbrev B_inf : Bx := ((⟨"java/lang/AbstractStringBuilder", "inflateIfNeededFor", "(Ljava/lang/String;)V"⟩ : MethodName), jdk_68_method_71_code, 2, (Option.none : Option Jvm.ClassFile.FieldType), ({ frames := 6, cells := 1, slots := 128, locals := 89 } : Room))
set_option maxRecDepth 65536 in
set_option maxHeartbeats 4000000 in
theorem infL_met {A : Ax} (K : Wd A) {sb t a b : Addr} {n : Int32} {F G : List Ent} (m : StrE A a b 0 ∈ G) : Met A B_inf #[.ref sb, .ref a] ((sb, ob_1 A (.ref t) (.int (0 : Int32)) (.int (0 : Int32)) (.int n)) :: F) G (fun v F' G' => v = none ∧ ((sb, ob_1 A (.ref t) (.int (0 : Int32)) (.int (0 : Int32)) (.int n)) :: F) = F' ∧ G = G') := by
  refine MetW.of_go pn_inf K.ew (L := [.val (.ref sb), .val (.ref a)]) (fun m => rfl) ?_
  intro D _
  obtain ⟨z, nz, hz⟩ := K.cmpt
  refine Go.getstatic (B := B_inf) td_inf 0 rfl (w_101 K) hz ?_
  refine Go.if0 (B := B_inf) td_inf 1 (pc' := 21) rfl (by decide) rfl (fun (h : z = 0) => absurd h nz) (fun _ => ?_)
  refine Go.rn (B := B_inf) td_inf 2 1 (pc' := 7) (S' := [.ref sb]) rfl ?_
  refine Go.getfield (B := B_inf) td_inf 3 rfl (w_104 K) (Or.inl (mi 0 rfl)) (mi 1 rfl) ?_
  refine Go.rn (B := B_inf) td_inf 4 1 (pc' := 11) (S' := [.ref a, .int (0 : Int32)]) rfl ?_
  refine Go.callV (B := B_inf) td_inf 5 (B' := B_cdr) (C := "java/lang/String") (a := a) (argsL := []) (rest := [.int (0 : Int32)]) (W := 1) rfl (cdr_met K (cd := 0) rfl (Or.inr m)) (Or.inr m) (fun c P => P.1) (w_222 K) (w_73 K) (w_74 K) (w_75 K) (w_75 K) (w_8 K) (w_76 K) (by decide) pd_cdr rfl rfl rfl rfl (Nat.le_of_eq rfl) (by decide) (by decide) (by decide) (by decide) ?_
  rintro _ _ _ ⟨rfl, rfl, rfl⟩
  show Go A B_inf D _ 14 _ [.int (0 : Int32), .int (0 : Int32)] _ _ 0 0
  refine Go.icmp (B := B_inf) td_inf 6 (pc' := 21) rfl (by decide) rfl (fun _ => ?_) (fun (h : ¬ ((0 : Int32) = (0 : Int32))) => absurd rfl h)
  exact Go.retV (B := B_inf) td_inf 9 rfl rfl ⟨rfl, rfl, rfl⟩ (by decide) (by decide)
set_option maxRecDepth 65536 in
set_option maxHeartbeats 4000000 in
theorem infU_met {A : Ax} (K : Wd A) {sb t a b : Addr} {n : Int32} {F G : List Ent} (m : StrE A a b 0 ∈ G) : Met A B_inf #[.ref sb, .ref a] ((sb, ob_1 A (.ref t) (.int (1 : Int32)) (.int (0 : Int32)) (.int n)) :: F) G (fun v F' G' => v = none ∧ ((sb, ob_1 A (.ref t) (.int (1 : Int32)) (.int (0 : Int32)) (.int n)) :: F) = F' ∧ G = G') := by
  refine MetW.of_go pn_inf K.ew (L := [.val (.ref sb), .val (.ref a)]) (fun m => rfl) ?_
  intro D _
  obtain ⟨z, nz, hz⟩ := K.cmpt
  refine Go.getstatic (B := B_inf) td_inf 0 rfl (w_101 K) hz ?_
  refine Go.if0 (B := B_inf) td_inf 1 (pc' := 21) rfl (by decide) rfl (fun (h : z = 0) => absurd h nz) (fun _ => ?_)
  refine Go.rn (B := B_inf) td_inf 2 1 (pc' := 7) (S' := [.ref sb]) rfl ?_
  refine Go.getfield (B := B_inf) td_inf 3 rfl (w_104 K) (Or.inl (mi 0 rfl)) (mi 1 rfl) ?_
  refine Go.rn (B := B_inf) td_inf 4 1 (pc' := 11) (S' := [.ref a, .int (1 : Int32)]) rfl ?_
  refine Go.callV (B := B_inf) td_inf 5 (B' := B_cdr) (C := "java/lang/String") (a := a) (argsL := []) (rest := [.int (1 : Int32)]) (W := 1) rfl (cdr_met K (cd := 0) rfl (Or.inr m)) (Or.inr m) (fun c P => P.1) (w_222 K) (w_73 K) (w_74 K) (w_75 K) (w_75 K) (w_8 K) (w_76 K) (by decide) pd_cdr rfl rfl rfl rfl (Nat.le_of_eq rfl) (by decide) (by decide) (by decide) (by decide) ?_
  rintro _ _ _ ⟨rfl, rfl, rfl⟩
  show Go A B_inf D _ 14 _ [.int (0 : Int32), .int (1 : Int32)] _ _ 0 0
  refine Go.icmp (B := B_inf) td_inf 6 (pc' := 21) rfl (by decide) rfl (fun (h : (1 : Int32) = (0 : Int32)) => absurd h (by decide)) (fun _ => ?_)
  refine Go.rn (B := B_inf) td_inf 7 1 (pc' := 18) (S' := [.ref sb]) rfl ?_
  refine Go.callPS (B := B_inf) td_inf 8 (B' := B_asf) (C := "java/lang/StringBuilder") (a := sb) (argsL := []) (rest := []) (W := 0) rfl (asfU_met K) (Or.inl (mi 0 rfl)) (fun c P => P.1) (w_407 K) (w_408 K) (w_409 K) (w_410 K) rfl (w_98 K) (w_411 K) (by decide) pd_asf rfl rfl rfl rfl (Nat.le_of_eq rfl) (by decide) (by decide) (by decide) (by decide) ?_
  rintro _ _ _ ⟨rfl, rfl, rfl⟩
  show Go A B_inf D _ 21 _ [] _ _ 1 128
  exact Go.retV (B := B_inf) td_inf 9 rfl rfl ⟨rfl, rfl, rfl⟩ (by decide) (by decide)
def tb_gbt : List In1 := [(0, .aload_n 0, 1), (1, .invokevirtual 335, 3), (4, .iload_n 3, 1), (5, .if_icmp .ne 23, 3), (8, .aload_n 0, 1), (9, .getfield 9, 3), (12, .iconst 0, 1), (13, .aload_n 1, 1), (14, .iload_n 2, 1), (15, .iload_n 3, 1), (16, .ishl, 1), (17, .aload_n 0, 1), (18, .getfield 9, 3), (21, .arraylength, 1), (22, .invokestatic 212, 3), (25, .goto 18, 3), (28, .aload_n 0, 1), (29, .getfield 9, 3), (32, .iconst 0, 1), (33, .aload_n 1, 1), (34, .iload_n 2, 1), (35, .aload_n 0, 1), (36, .getfield 9, 3), (39, .arraylength, 1), (40, .invokestatic 106, 3), (43, .return_, 1)]
set_option maxRecDepth 65536 in
theorem td_gbt : Dec jdk_42_method_147_code tb_gbt := by unfold Dec; decide +kernel
theorem pd_gbt : parseMethodDescriptor "([BIB)V" = some ⟨[(.array .byte), .int, .byte], none⟩ := by decide +kernel
theorem pn_gbt : plainFor (⟨"java/lang/String", "getBytes", "([BIB)V"⟩ : MethodName) = true := by decide +kernel
abbrev B_gbt : Bx := ((⟨"java/lang/String", "getBytes", "([BIB)V"⟩ : MethodName), jdk_42_method_147_code, 4, (Option.none : Option Jvm.ClassFile.FieldType), ({ frames := 5, cells := 0, slots := 0, locals := 76 } : Room))
theorem lat_put (cs pad ds : List Int32) : (latB (cs ++ pad)).take cs.length ++ ((latB ds).drop 0).take ds.length ++ (latB (cs ++ pad)).drop (cs.length + ds.length) = latB (cs ++ (ds ++ pad.drop ds.length)) := by
  rw [List.drop_zero, List.take_of_length_le (l := latB ds) (i := ds.length) (by rw [latB_len]; exact Nat.le_refl _), latB_app, latB_app, latB_app, take_all _ _ _ (latB_len cs).symm, List.append_assoc, ← List.drop_drop, List.drop_left' (latB_len cs)]
  show _ ++ (_ ++ (List.map _ pad).drop _) = _
  rw [← List.map_drop]; rfl
set_option maxRecDepth 65536 in
set_option maxHeartbeats 4000000 in
theorem gbtL_met {A : Ax} (K : Wd A) {a b t : Addr} {cs pad ds : List Int32} (hl : Lat ds) (hx : cs.length + pad.length ≤ 64) (hd : ds.length ≤ pad.length) {F G : List Ent} (m : StrE A a b 0 ∈ G) (mb : BytE A b (latB ds) ∈ G) : Met A B_gbt #[.ref a, .ref t, .int (nI cs.length), .int (0 : Int32)] ((t, ArrP A .byte (latB (cs ++ pad))) :: F) G (fun v F' G' => v = none ∧ ((t, ArrP A .byte (latB (cs ++ (ds ++ pad.drop ds.length)))) :: F) = F' ∧ G = G') := by
  refine MetW.of_go pn_gbt K.ew (L := [.val (.ref a), .val (.ref t), .val (.int (nI cs.length)), .val (.int (0 : Int32))]) (fun m => rfl) ?_
  intro D _
  refine Go.rn (B := B_gbt) td_gbt 0 1 (pc' := 1) (S' := [.ref a]) rfl ?_
  refine Go.callV (B := B_gbt) td_gbt 1 (B' := B_cdr) (C := "java/lang/String") (a := a) (argsL := []) (rest := []) (W := 0) rfl (cdr_met K (cd := 0) rfl (Or.inr m)) (Or.inr m) (fun c P => P.1) (w_72 K) (w_73 K) (w_74 K) (w_75 K) (w_75 K) (w_8 K) (w_76 K) (by decide) pd_cdr rfl rfl rfl rfl (Nat.le_of_eq rfl) (by decide) (by decide) (by decide) (by decide) ?_
  rintro _ _ _ ⟨rfl, rfl, rfl⟩
  show Go A B_gbt D _ 4 _ [.int (0 : Int32)] _ _ 0 0
  refine Go.rn (B := B_gbt) td_gbt 2 1 (pc' := 5) (S' := [.int (0 : Int32), .int (0 : Int32)]) rfl ?_
  refine Go.icmp (B := B_gbt) td_gbt 3 (pc' := 28) rfl (by decide) rfl (fun (h : (0 : Int32) ≠ (0 : Int32)) => absurd h (fun z => z rfl)) (fun _ => ?_)
  refine Go.rn (B := B_gbt) td_gbt 4 1 (pc' := 9) (S' := [.ref a]) rfl ?_
  refine Go.getfield (B := B_gbt) td_gbt 5 rfl (w_33 K) (Or.inr m) (mi 0 rfl) ?_
  refine Go.rn (B := B_gbt) td_gbt 6 6 (pc' := 18) (S' := [.ref a, .int ((nI cs.length) <<< ((0 : Int32) &&& 31)), .ref t, .int (0 : Int32), .ref b]) rfl ?_
  rw [shl0]
  refine Go.getfield (B := B_gbt) td_gbt 12 rfl (w_33 K) (Or.inr m) (mi 0 rfl) ?_
  refine Go.arraylength (B := B_gbt) td_gbt 13 (z := (nI ds.length)) rfl (Or.inr mb) (by rw [latB_len, nI_toInt (by omega)]) ?_
  have e0 : (0 : Int32).toInt.toNat = 0 := by decide
  have ei : (0 : Int32).toInt = 0 := by decide
  have en : (nI ds.length).toInt.toNat = ds.length := nI_nat (by omega)
  have et : (nI ds.length).toInt = ds.length := nI_toInt (by omega)
  have fn : (nI cs.length).toInt.toNat = cs.length := nI_nat (by omega)
  have ft : (nI cs.length).toInt = cs.length := nI_toInt (by omega)
  have hll : (cs ++ pad).length = cs.length + pad.length := List.length_append
  refine Go.copy (B := B_gbt) td_gbt 14 (vd' := (latB (cs ++ (ds ++ pad.drop ds.length)))) (W := 0) rfl rfl (w_228 K) (w_211 K) (w_209 K) (w_210 K) (Or.inr mb) (by rw [latB_len]; omega) (by rw [latB_len]; omega) (fits_lat _) (fits_lat _) (by omega) (by omega) (by omega) (by rw [ei, et, latB_len]; omega) (by rw [ft, et, latB_len]; omega) (by rw [e0, en, fn]; exact lat_put cs pad ds) rfl (Nat.le_of_eq rfl) (by decide) (by decide) ?_
  refine Go.rn (B := B_gbt) td_gbt 15 1 (pc' := 43) (S' := []) rfl ?_
  exact Go.retV (B := B_gbt) td_gbt 25 rfl rfl ⟨rfl, rfl, rfl⟩ (by decide) (by decide)
set_option maxRecDepth 65536 in
set_option maxHeartbeats 4000000 in
theorem gbtU_met {A : Ax} (K : Wd A) {a b t : Addr} {cs pad ds : List Int32} (hl : Lat ds) (hx : cs.length + pad.length ≤ 64) (hd : ds.length ≤ pad.length) {F G : List Ent} (m : StrE A a b 0 ∈ G) (mb : BytE A b (latB ds) ∈ G) : Met A B_gbt #[.ref a, .ref t, .int (nI cs.length), .int (1 : Int32)] ((t, ArrP A .byte (utfB (cs ++ pad))) :: F) G (fun v F' G' => v = none ∧ ((t, ArrP A .byte (utfB (cs ++ (ds ++ pad.drop ds.length)))) :: F) = F' ∧ G = G') := by
  refine MetW.of_go pn_gbt K.ew (L := [.val (.ref a), .val (.ref t), .val (.int (nI cs.length)), .val (.int (1 : Int32))]) (fun m => rfl) ?_
  intro D _
  refine Go.rn (B := B_gbt) td_gbt 0 1 (pc' := 1) (S' := [.ref a]) rfl ?_
  refine Go.callV (B := B_gbt) td_gbt 1 (B' := B_cdr) (C := "java/lang/String") (a := a) (argsL := []) (rest := []) (W := 0) rfl (cdr_met K (cd := 0) rfl (Or.inr m)) (Or.inr m) (fun c P => P.1) (w_72 K) (w_73 K) (w_74 K) (w_75 K) (w_75 K) (w_8 K) (w_76 K) (by decide) pd_cdr rfl rfl rfl rfl (Nat.le_of_eq rfl) (by decide) (by decide) (by decide) (by decide) ?_
  rintro _ _ _ ⟨rfl, rfl, rfl⟩
  show Go A B_gbt D _ 4 _ [.int (0 : Int32)] _ _ 0 0
  refine Go.rn (B := B_gbt) td_gbt 2 1 (pc' := 5) (S' := [.int (1 : Int32), .int (0 : Int32)]) rfl ?_
  refine Go.icmp (B := B_gbt) td_gbt 3 (pc' := 28) rfl (by decide) rfl (fun _ => ?_) (fun (h : ¬ ((0 : Int32) ≠ (1 : Int32))) => absurd (by decide) h)
  refine Go.rn (B := B_gbt) td_gbt 16 1 (pc' := 29) (S' := [.ref a]) rfl ?_
  refine Go.getfield (B := B_gbt) td_gbt 17 rfl (w_33 K) (Or.inr m) (mi 0 rfl) ?_
  refine Go.rn (B := B_gbt) td_gbt 18 4 (pc' := 36) (S' := [.ref a, .int (nI cs.length), .ref t, .int (0 : Int32), .ref b]) rfl ?_
  refine Go.getfield (B := B_gbt) td_gbt 22 rfl (w_33 K) (Or.inr m) (mi 0 rfl) ?_
  refine Go.arraylength (B := B_gbt) td_gbt 23 (z := (nI ds.length)) rfl (Or.inr mb) (by rw [latB_len, nI_toInt (by omega)]) ?_
  have mb2 : BytE A b (latB (ds ++ [])) ∈ G := by rw [List.append_nil]; exact mb
  refine Go.callS (B := B_gbt) td_gbt 24 (B' := B_lif) (argsL := [.ref b, .int (0 : Int32), .ref t, .int (nI cs.length), .int (nI ds.length)]) (rest := []) (W := 0) rfl (lif_met K (P := cs) (E := pad) (sf := []) hl (by simp only [List.length_nil]; omega) hx hd (Or.inr mb2)) (w_431 K) (w_414 K) (w_157 K) (w_415 K) (by decide) pd_lif rfl rfl rfl rfl (Nat.le_of_eq rfl) (by decide) (by decide) (by decide) (by decide) ?_
  rintro _ _ _ ⟨rfl, rfl, rfl⟩
  show Go A B_gbt D _ 43 _ [] ((t, ArrP A .byte (utfB (cs ++ (ds ++ pad.drop ds.length)))) :: F) _ 0 0
  exact Go.retV (B := B_gbt) td_gbt 25 rfl rfl ⟨rfl, rfl, rfl⟩ (by decide) (by decide)
def tb_psa : List In1 := [(0, .aload_n 0, 1), (1, .aload_n 2, 1), (2, .invokevirtual 397, 3), (5, .aload_n 2, 1), (6, .aload_n 0, 1), (7, .getfield 15, 3), (10, .iload_n 1, 1), (11, .aload_n 0, 1), (12, .getfield 22, 3), (15, .invokevirtual 399, 3), (18, .return_, 1)]
set_option maxRecDepth 65536 in
theorem td_psa : Dec jdk_68_method_73_code tb_psa := by unfold Dec; decide +kernel
theorem pd_psa : parseMethodDescriptor "(ILjava/lang/String;)V" = some ⟨[.int, (.object "java/lang/String")], none⟩ := by decide +kernel
theorem pn_psa : plainFor (⟨"java/lang/AbstractStringBuilder", "putStringAt", "(ILjava/lang/String;)V"⟩ : MethodName) = true := by decide +kernel
abbrev B_psa : Bx := ((⟨"java/lang/AbstractStringBuilder", "putStringAt", "(ILjava/lang/String;)V"⟩ : MethodName), jdk_68_method_73_code, 3, (Option.none : Option Jvm.ClassFile.FieldType), ({ frames := 7, cells := 1, slots := 128, locals := 102 } : Room))
set_option maxRecDepth 65536 in
set_option maxHeartbeats 4000000 in
theorem psaL_met {A : Ax} (K : Wd A) {sb : Addr} {a b t : Addr} {cs pad ds : List Int32} (hl : Lat ds) (hx : cs.length + pad.length ≤ 64) (hd : ds.length ≤ pad.length) {F G : List Ent} (m : StrE A a b 0 ∈ G) (mb : BytE A b (latB ds) ∈ G) : Met A B_psa #[.ref sb, .int (nI cs.length), .ref a] ((sb, ob_1 A (.ref t) (.int (0 : Int32)) (.int (0 : Int32)) (.int (nI cs.length))) :: (t, ArrP A .byte (latB (cs ++ pad))) :: F) G (fun v F' G' => v = none ∧ ((sb, ob_1 A (.ref t) (.int (0 : Int32)) (.int (0 : Int32)) (.int (nI cs.length))) :: (t, ArrP A .byte (latB (cs ++ (ds ++ pad.drop ds.length)))) :: F) = F' ∧ G = G') := by
  refine MetW.of_go pn_psa K.ew (L := [.val (.ref sb), .val (.int (nI cs.length)), .val (.ref a)]) (fun m => rfl) ?_
  intro D _
  refine Go.rn (B := B_psa) td_psa 0 2 (pc' := 2) (S' := [.ref a, .ref sb]) rfl ?_
  refine Go.callPS (B := B_psa) td_psa 2 (B' := B_inf) (C := "java/lang/StringBuilder") (a := sb) (argsL := [.ref a]) (rest := []) (W := 0) rfl (infL_met K m) (Or.inl (mi 0 rfl)) (fun c P => P.1) (w_217 K) (w_218 K) (w_219 K) (w_220 K) rfl (w_98 K) (w_221 K) (by decide) pd_inf rfl rfl rfl rfl (Nat.le_of_eq rfl) (by decide) (by decide) (by decide) (by decide) ?_
  rintro _ _ _ ⟨rfl, rfl, rfl⟩
  show Go A B_psa D _ 5 _ [] _ _ 1 128
  refine Go.rn (B := B_psa) td_psa 3 2 (pc' := 7) (S' := [.ref sb, .ref a]) rfl ?_
  refine Go.getfield (B := B_psa) td_psa 5 rfl (w_102 K) (Or.inl (mi 0 rfl)) (mi 0 rfl) ?_
  refine Go.rn (B := B_psa) td_psa 6 2 (pc' := 12) (S' := [.ref sb, .int (nI cs.length), .ref t, .ref a]) rfl ?_
  refine Go.getfield (B := B_psa) td_psa 8 rfl (w_104 K) (Or.inl (mi 0 rfl)) (mi 1 rfl) ?_
  refine Go.front 1 (F' := ((t, ArrP A .byte (latB (cs ++ pad))) :: (sb, ob_1 A (.ref t) (.int (0 : Int32)) (.int (0 : Int32)) (.int (nI cs.length))) :: F)) rfl rfl ?_
  refine Go.callV (B := B_psa) td_psa 9 (B' := B_gbt) (C := "java/lang/String") (a := a) (argsL := [.ref t, .int (nI cs.length), .int (0 : Int32)]) (rest := []) (W := 0) rfl (gbtL_met K hl hx hd m mb) (Or.inr m) (fun c P => P.1) (w_223 K) (w_224 K) (w_225 K) (w_226 K) (w_226 K) (w_8 K) (w_227 K) (by decide) pd_gbt rfl rfl rfl rfl (Nat.le_of_eq rfl) (by decide) (by decide) (by decide) (by decide) ?_
  rintro _ _ _ ⟨rfl, rfl, rfl⟩
  show Go A B_psa D _ 18 _ [] ((t, ArrP A .byte (latB (cs ++ (ds ++ pad.drop ds.length)))) :: (sb, ob_1 A (.ref t) (.int (0 : Int32)) (.int (0 : Int32)) (.int (nI cs.length))) :: F) _ 1 128
  refine Go.front 1 (F' := ((sb, ob_1 A (.ref t) (.int (0 : Int32)) (.int (0 : Int32)) (.int (nI cs.length))) :: (t, ArrP A .byte (latB (cs ++ (ds ++ pad.drop ds.length)))) :: F)) rfl rfl ?_
  exact Go.retV (B := B_psa) td_psa 10 rfl rfl ⟨rfl, rfl, rfl⟩ (by decide) (by decide)
set_option maxRecDepth 65536 in
set_option maxHeartbeats 4000000 in
theorem psaU_met {A : Ax} (K : Wd A) {sb : Addr} {a b t : Addr} {cs pad ds : List Int32} (hl : Lat ds) (hx : cs.length + pad.length ≤ 64) (hd : ds.length ≤ pad.length) {F G : List Ent} (m : StrE A a b 0 ∈ G) (mb : BytE A b (latB ds) ∈ G) : Met A B_psa #[.ref sb, .int (nI cs.length), .ref a] ((sb, ob_1 A (.ref t) (.int (1 : Int32)) (.int (0 : Int32)) (.int (nI cs.length))) :: (t, ArrP A .byte (utfB (cs ++ pad))) :: F) G (fun v F' G' => v = none ∧ ((sb, ob_1 A (.ref t) (.int (1 : Int32)) (.int (0 : Int32)) (.int (nI cs.length))) :: (t, ArrP A .byte (utfB (cs ++ (ds ++ pad.drop ds.length)))) :: F) = F' ∧ G = G') := by
  refine MetW.of_go pn_psa K.ew (L := [.val (.ref sb), .val (.int (nI cs.length)), .val (.ref a)]) (fun m => rfl) ?_
  intro D _
  refine Go.rn (B := B_psa) td_psa 0 2 (pc' := 2) (S' := [.ref a, .ref sb]) rfl ?_
  refine Go.callPS (B := B_psa) td_psa 2 (B' := B_inf) (C := "java/lang/StringBuilder") (a := sb) (argsL := [.ref a]) (rest := []) (W := 0) rfl (infU_met K m) (Or.inl (mi 0 rfl)) (fun c P => P.1) (w_217 K) (w_218 K) (w_219 K) (w_220 K) rfl (w_98 K) (w_221 K) (by decide) pd_inf rfl rfl rfl rfl (Nat.le_of_eq rfl) (by decide) (by decide) (by decide) (by decide) ?_
  rintro _ _ _ ⟨rfl, rfl, rfl⟩
  show Go A B_psa D _ 5 _ [] _ _ 1 128
  refine Go.rn (B := B_psa) td_psa 3 2 (pc' := 7) (S' := [.ref sb, .ref a]) rfl ?_
  refine Go.getfield (B := B_psa) td_psa 5 rfl (w_102 K) (Or.inl (mi 0 rfl)) (mi 0 rfl) ?_
  refine Go.rn (B := B_psa) td_psa 6 2 (pc' := 12) (S' := [.ref sb, .int (nI cs.length), .ref t, .ref a]) rfl ?_
  refine Go.getfield (B := B_psa) td_psa 8 rfl (w_104 K) (Or.inl (mi 0 rfl)) (mi 1 rfl) ?_
  refine Go.front 1 (F' := ((t, ArrP A .byte (utfB (cs ++ pad))) :: (sb, ob_1 A (.ref t) (.int (1 : Int32)) (.int (0 : Int32)) (.int (nI cs.length))) :: F)) rfl rfl ?_
  refine Go.callV (B := B_psa) td_psa 9 (B' := B_gbt) (C := "java/lang/String") (a := a) (argsL := [.ref t, .int (nI cs.length), .int (1 : Int32)]) (rest := []) (W := 0) rfl (gbtU_met K hl hx hd m mb) (Or.inr m) (fun c P => P.1) (w_223 K) (w_224 K) (w_225 K) (w_226 K) (w_226 K) (w_8 K) (w_227 K) (by decide) pd_gbt rfl rfl rfl rfl (Nat.le_of_eq rfl) (by decide) (by decide) (by decide) (by decide) ?_
  rintro _ _ _ ⟨rfl, rfl, rfl⟩
  show Go A B_psa D _ 18 _ [] ((t, ArrP A .byte (utfB (cs ++ (ds ++ pad.drop ds.length)))) :: (sb, ob_1 A (.ref t) (.int (1 : Int32)) (.int (0 : Int32)) (.int (nI cs.length))) :: F) _ 1 128
  refine Go.front 1 (F' := ((sb, ob_1 A (.ref t) (.int (1 : Int32)) (.int (0 : Int32)) (.int (nI cs.length))) :: (t, ArrP A .byte (utfB (cs ++ (ds ++ pad.drop ds.length)))) :: F)) rfl rfl ?_
  exact Go.retV (B := B_psa) td_psa 10 rfl rfl ⟨rfl, rfl, rfl⟩ (by decide) (by decide)
def tb_asa : List In1 := [(0, .aload_n 1, 1), (1, .ifnonnull 8, 3), (4, .aload_n 0, 1), (5, .invokevirtual 204, 3), (8, .areturn, 1), (9, .aload_n 1, 1), (10, .invokevirtual 32, 3), (13, .istore_n 2, 1), (14, .aload_n 0, 1), (15, .aload_n 0, 1), (16, .getfield 79, 3), (19, .iload_n 2, 1), (20, .iadd, 1), (21, .invokevirtual 100, 3), (24, .aload_n 0, 1), (25, .aload_n 0, 1), (26, .getfield 79, 3), (29, .aload_n 1, 1), (30, .invokevirtual 208, 3), (33, .aload_n 0, 1), (34, .dup, 1), (35, .getfield 79, 3), (38, .iload_n 2, 1), (39, .iadd, 1), (40, .putfield 79, 3), (43, .aload_n 0, 1), (44, .areturn, 1)]
set_option maxRecDepth 65536 in
theorem td_asa : Dec jdk_68_method_22_code tb_asa := by unfold Dec; decide +kernel
theorem pd_asa : parseMethodDescriptor "(Ljava/lang/String;)Ljava/lang/AbstractStringBuilder;" = some ⟨[(.object "java/lang/String")], (some (.object "java/lang/AbstractStringBuilder"))⟩ := by decide +kernel
theorem pn_asa : plainFor (⟨"java/lang/AbstractStringBuilder", "append", "(Ljava/lang/String;)Ljava/lang/AbstractStringBuilder;"⟩ : MethodName) = true := by decide +kernel
abbrev B_asa : Bx := ((⟨"java/lang/AbstractStringBuilder", "append", "(Ljava/lang/String;)Ljava/lang/AbstractStringBuilder;"⟩ : MethodName), jdk_68_method_22_code, 3, (Option.some (Jvm.ClassFile.FieldType.object "java/lang/AbstractStringBuilder")), ({ frames := 8, cells := 2, slots := 256, locals := 116 } : Room))
set_option maxRecDepth 65536 in
set_option maxHeartbeats 4000000 in
theorem asaL_met {A : Ax} (K : Wd A) {sb a b t : Addr} {cs pad ds : List Int32} (hl : Lat ds) (hx : cs.length + pad.length ≤ 64) (hn : cs.length + ds.length ≤ 32) {F G : List Ent} (m : StrE A a b 0 ∈ G) (mb : BytE A b (latB ds) ∈ G) : Met A B_asa #[.ref sb, .ref a] ((sb, ob_1 A (.ref t) (.int (0 : Int32)) (.int (0 : Int32)) (.int (nI cs.length))) :: (t, ArrP A .byte (latB (cs ++ pad))) :: F) G (fun v F' G' => v = some (.ref sb) ∧ (∃ t2 pad2, (cs ++ ds).length + pad2.length ≤ 64 ∧ ((sb, ob_1 A (.ref t2) (.int (0 : Int32)) (.int (0 : Int32)) (.int (nI (cs ++ ds).length))) :: (t2, ArrP A .byte (latB ((cs ++ ds) ++ pad2))) :: F) = F') ∧ G = G') := by
  refine MetW.of_go pn_asa K.ew (L := [.val (.ref sb), .val (.ref a), .unset]) (fun m => rfl) ?_
  intro D _
  have hS : StrR A G a ds := ⟨b, Or.inl ⟨hl, m, mb⟩⟩
  refine Go.rn (B := B_asa) td_asa 0 1 (pc' := 1) (S' := [.ref a]) rfl ?_
  refine Go.nonnullYes (B := B_asa) td_asa 1 (pc' := 9) rfl (by decide) rfl ?_
  refine Go.rn (B := B_asa) td_asa 5 1 (pc' := 10) (S' := [.ref a]) rfl ?_
  refine Go.callV (B := B_asa) td_asa 6 (B' := B_len) (C := "java/lang/String") (a := a) (argsL := []) (rest := []) (W := 0) rfl (lenR_met K (by omega) hS) (Or.inr m) (fun c P => P.1) (w_178 K) (w_68 K) (w_69 K) (w_70 K) (w_70 K) (w_8 K) (w_71 K) (by decide) pd_len rfl rfl rfl rfl (Nat.le_of_eq rfl) (by decide) (by decide) (by decide) (by decide) ?_
  rintro _ _ _ ⟨rfl, rfl, rfl⟩
  show Go A B_asa D _ 13 _ [.int (nI ds.length)] _ _ 0 0
  refine Go.run (B := B_asa) td_asa 7 3 (pc' := 16) (L' := [.val (.ref sb), .val (.ref a), .val (.int (nI ds.length))]) (S' := [.ref sb, .ref sb]) rfl ?_
  refine Go.getfield (B := B_asa) td_asa 10 rfl (w_179 K) (Or.inl (mi 0 rfl)) (mi 3 rfl) ?_
  refine Go.rn (B := B_asa) td_asa 11 2 (pc' := 21) (S' := [.int ((nI cs.length) + (nI ds.length)), .ref sb]) rfl ?_
  rw [nI_addn]
  refine Go.callPS (B := B_asa) td_asa 13 (B' := B_eci) (C := "java/lang/StringBuilder") (a := sb) (argsL := [.int (nI (cs.length + ds.length))]) (rest := []) (W := 0) rfl (eciL_met K hx hn) (Or.inl (mi 0 rfl)) (fun c P => P.1) (w_181 K) (w_182 K) (w_183 K) (w_184 K) rfl (w_98 K) (w_185 K) (by decide) pd_eci rfl rfl rfl rfl (Nat.le_of_eq rfl) (by decide) (by decide) (by decide) (by decide) ?_
  rintro _ _ _ ⟨rfl, ⟨t2, pad2, p1, p2, rfl⟩, rfl⟩
  show Go A B_asa D _ 24 _ [] ((sb, ob_1 A (.ref t2) (.int (0 : Int32)) (.int (0 : Int32)) (.int (nI cs.length))) :: (t2, ArrP A .byte (latB (cs ++ pad2))) :: F) _ 1 128
  refine Go.rn (B := B_asa) td_asa 14 2 (pc' := 26) (S' := [.ref sb, .ref sb]) rfl ?_
  refine Go.getfield (B := B_asa) td_asa 16 rfl (w_179 K) (Or.inl (mi 0 rfl)) (mi 3 rfl) ?_
  refine Go.rn (B := B_asa) td_asa 17 1 (pc' := 30) (S' := [.ref a, .int (nI cs.length), .ref sb]) rfl ?_
  refine Go.callPS (B := B_asa) td_asa 18 (B' := B_psa) (C := "java/lang/StringBuilder") (a := sb) (argsL := [.int (nI cs.length), .ref a]) (rest := []) (W := 0) rfl (psaL_met K hl p2 p1 m mb) (Or.inl (mi 0 rfl)) (fun c P => P.1) (w_212 K) (w_213 K) (w_214 K) (w_215 K) rfl (w_98 K) (w_216 K) (by decide) pd_psa rfl rfl rfl rfl (Nat.le_of_eq rfl) (by decide) (by decide) (by decide) (by decide) ?_
  rintro _ _ _ ⟨rfl, rfl, rfl⟩
  show Go A B_asa D _ 33 _ [] ((sb, ob_1 A (.ref t2) (.int (0 : Int32)) (.int (0 : Int32)) (.int (nI cs.length))) :: (t2, ArrP A .byte (latB (cs ++ (ds ++ pad2.drop ds.length)))) :: F) _ 2 256
  refine Go.rn (B := B_asa) td_asa 19 2 (pc' := 35) (S' := [.ref sb, .ref sb]) rfl ?_
  refine Go.getfield (B := B_asa) td_asa 21 rfl (w_179 K) (Or.inl (mi 0 rfl)) (mi 3 rfl) ?_
  refine Go.rn (B := B_asa) td_asa 22 2 (pc' := 40) (S' := [.int ((nI cs.length) + (nI ds.length)), .ref sb]) rfl ?_
  rw [nI_app]
  refine Go.putfield (B := B_asa) td_asa 24 (fs' := [("java/lang/AbstractStringBuilder", "value", "[B", .ref t2), ("java/lang/AbstractStringBuilder", "coder", "B", .int (0 : Int32)), ("java/lang/AbstractStringBuilder", "maybeLatin1", "Z", .int (0 : Int32)), ("java/lang/AbstractStringBuilder", "count", "I", .int (nI (cs ++ ds).length))]) rfl (w_179 K) (Or.inl (w_180 K)) (w_65 K) rfl rfl rfl (mi 3 rfl) (own_fs 3 (ns := ["value", "coder", "maybeLatin1"]) rfl (by decide) rfl) ?_
  refine Go.rn (B := B_asa) td_asa 25 1 (pc' := 44) (S' := [.ref sb]) rfl ?_
  exact Go.retA (B := B_asa) td_asa 26 rfl rfl rfl rfl ⟨rfl, ⟨t2, pad2.drop ds.length, by rw [List.length_append, List.length_drop]; omega, by rw [List.append_assoc]⟩, rfl⟩ (by decide) (by decide)
set_option maxRecDepth 65536 in
set_option maxHeartbeats 4000000 in
theorem asaU_met {A : Ax} (K : Wd A) {sb a b t : Addr} {cs pad ds : List Int32} (hl : Lat ds) (hx : cs.length + pad.length ≤ 64) (hn : cs.length + ds.length ≤ 32) {F G : List Ent} (m : StrE A a b 0 ∈ G) (mb : BytE A b (latB ds) ∈ G) : Met A B_asa #[.ref sb, .ref a] ((sb, ob_1 A (.ref t) (.int (1 : Int32)) (.int (0 : Int32)) (.int (nI cs.length))) :: (t, ArrP A .byte (utfB (cs ++ pad))) :: F) G (fun v F' G' => v = some (.ref sb) ∧ (∃ t2 pad2, (cs ++ ds).length + pad2.length ≤ 64 ∧ ((sb, ob_1 A (.ref t2) (.int (1 : Int32)) (.int (0 : Int32)) (.int (nI (cs ++ ds).length))) :: (t2, ArrP A .byte (utfB ((cs ++ ds) ++ pad2))) :: F) = F') ∧ G = G') := by
  refine MetW.of_go pn_asa K.ew (L := [.val (.ref sb), .val (.ref a), .unset]) (fun m => rfl) ?_
  intro D _
  have hS : StrR A G a ds := ⟨b, Or.inl ⟨hl, m, mb⟩⟩
  refine Go.rn (B := B_asa) td_asa 0 1 (pc' := 1) (S' := [.ref a]) rfl ?_
  refine Go.nonnullYes (B := B_asa) td_asa 1 (pc' := 9) rfl (by decide) rfl ?_
  refine Go.rn (B := B_asa) td_asa 5 1 (pc' := 10) (S' := [.ref a]) rfl ?_
  refine Go.callV (B := B_asa) td_asa 6 (B' := B_len) (C := "java/lang/String") (a := a) (argsL := []) (rest := []) (W := 0) rfl (lenR_met K (by omega) hS) (Or.inr m) (fun c P => P.1) (w_178 K) (w_68 K) (w_69 K) (w_70 K) (w_70 K) (w_8 K) (w_71 K) (by decide) pd_len rfl rfl rfl rfl (Nat.le_of_eq rfl) (by decide) (by decide) (by decide) (by decide) ?_
  rintro _ _ _ ⟨rfl, rfl, rfl⟩
  show Go A B_asa D _ 13 _ [.int (nI ds.length)] _ _ 0 0
  refine Go.run (B := B_asa) td_asa 7 3 (pc' := 16) (L' := [.val (.ref sb), .val (.ref a), .val (.int (nI ds.length))]) (S' := [.ref sb, .ref sb]) rfl ?_
  refine Go.getfield (B := B_asa) td_asa 10 rfl (w_179 K) (Or.inl (mi 0 rfl)) (mi 3 rfl) ?_
  refine Go.rn (B := B_asa) td_asa 11 2 (pc' := 21) (S' := [.int ((nI cs.length) + (nI ds.length)), .ref sb]) rfl ?_
  rw [nI_addn]
  refine Go.callPS (B := B_asa) td_asa 13 (B' := B_eci) (C := "java/lang/StringBuilder") (a := sb) (argsL := [.int (nI (cs.length + ds.length))]) (rest := []) (W := 0) rfl (eciU_met K hx hn) (Or.inl (mi 0 rfl)) (fun c P => P.1) (w_181 K) (w_182 K) (w_183 K) (w_184 K) rfl (w_98 K) (w_185 K) (by decide) pd_eci rfl rfl rfl rfl (Nat.le_of_eq rfl) (by decide) (by decide) (by decide) (by decide) ?_
  rintro _ _ _ ⟨rfl, ⟨t2, pad2, p1, p2, rfl⟩, rfl⟩
  show Go A B_asa D _ 24 _ [] ((sb, ob_1 A (.ref t2) (.int (1 : Int32)) (.int (0 : Int32)) (.int (nI cs.length))) :: (t2, ArrP A .byte (utfB (cs ++ pad2))) :: F) _ 1 128
  refine Go.rn (B := B_asa) td_asa 14 2 (pc' := 26) (S' := [.ref sb, .ref sb]) rfl ?_
  refine Go.getfield (B := B_asa) td_asa 16 rfl (w_179 K) (Or.inl (mi 0 rfl)) (mi 3 rfl) ?_
  refine Go.rn (B := B_asa) td_asa 17 1 (pc' := 30) (S' := [.ref a, .int (nI cs.length), .ref sb]) rfl ?_
  refine Go.callPS (B := B_asa) td_asa 18 (B' := B_psa) (C := "java/lang/StringBuilder") (a := sb) (argsL := [.int (nI cs.length), .ref a]) (rest := []) (W := 0) rfl (psaU_met K hl p2 p1 m mb) (Or.inl (mi 0 rfl)) (fun c P => P.1) (w_212 K) (w_213 K) (w_214 K) (w_215 K) rfl (w_98 K) (w_216 K) (by decide) pd_psa rfl rfl rfl rfl (Nat.le_of_eq rfl) (by decide) (by decide) (by decide) (by decide) ?_
  rintro _ _ _ ⟨rfl, rfl, rfl⟩
  show Go A B_asa D _ 33 _ [] ((sb, ob_1 A (.ref t2) (.int (1 : Int32)) (.int (0 : Int32)) (.int (nI cs.length))) :: (t2, ArrP A .byte (utfB (cs ++ (ds ++ pad2.drop ds.length)))) :: F) _ 2 256
  refine Go.rn (B := B_asa) td_asa 19 2 (pc' := 35) (S' := [.ref sb, .ref sb]) rfl ?_
  refine Go.getfield (B := B_asa) td_asa 21 rfl (w_179 K) (Or.inl (mi 0 rfl)) (mi 3 rfl) ?_
  refine Go.rn (B := B_asa) td_asa 22 2 (pc' := 40) (S' := [.int ((nI cs.length) + (nI ds.length)), .ref sb]) rfl ?_
  rw [nI_app]
  refine Go.putfield (B := B_asa) td_asa 24 (fs' := [("java/lang/AbstractStringBuilder", "value", "[B", .ref t2), ("java/lang/AbstractStringBuilder", "coder", "B", .int (1 : Int32)), ("java/lang/AbstractStringBuilder", "maybeLatin1", "Z", .int (0 : Int32)), ("java/lang/AbstractStringBuilder", "count", "I", .int (nI (cs ++ ds).length))]) rfl (w_179 K) (Or.inl (w_180 K)) (w_65 K) rfl rfl rfl (mi 3 rfl) (own_fs 3 (ns := ["value", "coder", "maybeLatin1"]) rfl (by decide) rfl) ?_
  refine Go.rn (B := B_asa) td_asa 25 1 (pc' := 44) (S' := [.ref sb]) rfl ?_
  exact Go.retA (B := B_asa) td_asa 26 rfl rfl rfl rfl ⟨rfl, ⟨t2, pad2.drop ds.length, by rw [List.length_append, List.length_drop]; omega, by rw [List.append_assoc]⟩, rfl⟩ (by decide) (by decide)
def tb_sba : List In1 := [(0, .aload_n 0, 1), (1, .aload_n 1, 1), (2, .invokespecial 29, 3), (5, .pop, 1), (6, .aload_n 0, 1), (7, .areturn, 1)]
set_option maxRecDepth 65536 in
theorem td_sba : Dec jdk_67_method_7_code tb_sba := by unfold Dec; decide +kernel
theorem pd_sba : parseMethodDescriptor "(Ljava/lang/String;)Ljava/lang/StringBuilder;" = some ⟨[(.object "java/lang/String")], (some (.object "java/lang/StringBuilder"))⟩ := by decide +kernel
theorem pn_sba : plainFor (⟨"java/lang/StringBuilder", "append", "(Ljava/lang/String;)Ljava/lang/StringBuilder;"⟩ : MethodName) = true := by decide +kernel
abbrev B_sba : Bx := ((⟨"java/lang/StringBuilder", "append", "(Ljava/lang/String;)Ljava/lang/StringBuilder;"⟩ : MethodName), jdk_67_method_7_code, 2, (Option.some (Jvm.ClassFile.FieldType.object "java/lang/StringBuilder")), ({ frames := 9, cells := 2, slots := 256, locals := 130 } : Room))
set_option maxRecDepth 65536 in
set_option maxHeartbeats 4000000 in
theorem sbaL_met {A : Ax} (K : Wd A) {sb a b t : Addr} {cs pad ds : List Int32} (hl : Lat ds) (hx : cs.length + pad.length ≤ 64) (hn : cs.length + ds.length ≤ 32) {F G : List Ent} (m : StrE A a b 0 ∈ G) (mb : BytE A b (latB ds) ∈ G) : Met A B_sba #[.ref sb, .ref a] ((sb, ob_1 A (.ref t) (.int (0 : Int32)) (.int (0 : Int32)) (.int (nI cs.length))) :: (t, ArrP A .byte (latB (cs ++ pad))) :: F) G (fun v F' G' => v = some (.ref sb) ∧ (∃ t2 pad2, (cs ++ ds).length + pad2.length ≤ 64 ∧ ((sb, ob_1 A (.ref t2) (.int (0 : Int32)) (.int (0 : Int32)) (.int (nI (cs ++ ds).length))) :: (t2, ArrP A .byte (latB ((cs ++ ds) ++ pad2))) :: F) = F') ∧ G = G') := by
  refine MetW.of_go pn_sba K.ew (L := [.val (.ref sb), .val (.ref a)]) (fun m => rfl) ?_
  intro D _
  refine Go.rn (B := B_sba) td_sba 0 2 (pc' := 2) (S' := [.ref a, .ref sb]) rfl ?_
  refine Go.callSup (B := B_sba) td_sba 2 (B' := B_asa) (C := "java/lang/StringBuilder") (a := sb) (argsL := [.ref a]) (rest := []) (W := 0) rfl (asaL_met K hl hx hn m mb) (Or.inl (mi 0 rfl)) (fun c P => P.1) (w_173 K) (w_174 K) (w_175 K) (own_sel0 (w_184 K)) rfl (by decide) (w_98 K) (w_177 K) (by decide) pd_asa rfl rfl rfl rfl (Nat.le_of_eq rfl) (by decide) (by decide) (by decide) (by decide) ?_
  rintro _ _ _ ⟨rfl, ⟨t2, pad2, p1, rfl⟩, rfl⟩
  show Go A B_sba D _ 5 _ [.ref sb] ((sb, ob_1 A (.ref t2) (.int (0 : Int32)) (.int (0 : Int32)) (.int (nI (cs ++ ds).length))) :: (t2, ArrP A .byte (latB ((cs ++ ds) ++ pad2))) :: F) _ 2 256
  refine Go.rn (B := B_sba) td_sba 3 2 (pc' := 7) (S' := [.ref sb]) rfl ?_
  exact Go.retA (B := B_sba) td_sba 5 rfl rfl rfl rfl ⟨rfl, ⟨t2, pad2, p1, rfl⟩, rfl⟩ (by decide) (by decide)
set_option maxRecDepth 65536 in
set_option maxHeartbeats 4000000 in
theorem sbaU_met {A : Ax} (K : Wd A) {sb a b t : Addr} {cs pad ds : List Int32} (hl : Lat ds) (hx : cs.length + pad.length ≤ 64) (hn : cs.length + ds.length ≤ 32) {F G : List Ent} (m : StrE A a b 0 ∈ G) (mb : BytE A b (latB ds) ∈ G) : Met A B_sba #[.ref sb, .ref a] ((sb, ob_1 A (.ref t) (.int (1 : Int32)) (.int (0 : Int32)) (.int (nI cs.length))) :: (t, ArrP A .byte (utfB (cs ++ pad))) :: F) G (fun v F' G' => v = some (.ref sb) ∧ (∃ t2 pad2, (cs ++ ds).length + pad2.length ≤ 64 ∧ ((sb, ob_1 A (.ref t2) (.int (1 : Int32)) (.int (0 : Int32)) (.int (nI (cs ++ ds).length))) :: (t2, ArrP A .byte (utfB ((cs ++ ds) ++ pad2))) :: F) = F') ∧ G = G') := by
  refine MetW.of_go pn_sba K.ew (L := [.val (.ref sb), .val (.ref a)]) (fun m => rfl) ?_
  intro D _
  refine Go.rn (B := B_sba) td_sba 0 2 (pc' := 2) (S' := [.ref a, .ref sb]) rfl ?_
  refine Go.callSup (B := B_sba) td_sba 2 (B' := B_asa) (C := "java/lang/StringBuilder") (a := sb) (argsL := [.ref a]) (rest := []) (W := 0) rfl (asaU_met K hl hx hn m mb) (Or.inl (mi 0 rfl)) (fun c P => P.1) (w_173 K) (w_174 K) (w_175 K) (own_sel0 (w_184 K)) rfl (by decide) (w_98 K) (w_177 K) (by decide) pd_asa rfl rfl rfl rfl (Nat.le_of_eq rfl) (by decide) (by decide) (by decide) (by decide) ?_
  rintro _ _ _ ⟨rfl, ⟨t2, pad2, p1, rfl⟩, rfl⟩
  show Go A B_sba D _ 5 _ [.ref sb] ((sb, ob_1 A (.ref t2) (.int (1 : Int32)) (.int (0 : Int32)) (.int (nI (cs ++ ds).length))) :: (t2, ArrP A .byte (utfB ((cs ++ ds) ++ pad2))) :: F) _ 2 256
  refine Go.rn (B := B_sba) td_sba 3 2 (pc' := 7) (S' := [.ref sb]) rfl ?_
  exact Go.retA (B := B_sba) td_sba 5 rfl rfl rfl rfl ⟨rfl, ⟨t2, pad2, p1, rfl⟩, rfl⟩ (by decide) (by decide)
--CUT
def tb_cnc : List In1 := [(0, .iload_n 0, 1), (1, .sipush 255, 3), (4, .if_icmp .gt 7, 3), (7, .iconst 1, 1), (8, .goto 4, 3), (11, .iconst 0, 1), (12, .ireturn, 1)]
set_option maxRecDepth 65536 in
theorem td_cnc : Dec jdk_43_method_3_code tb_cnc := by unfold Dec; decide +kernel
theorem pd_cnc : parseMethodDescriptor "(C)Z" = some ⟨[.char], (some .boolean)⟩ := by decide +kernel
theorem pn_cnc : plainFor (⟨"java/lang/StringLatin1", "canEncode", "(C)Z"⟩ : MethodName) = true := by decide +kernel
abbrev B_cnc : Bx := ((⟨"java/lang/StringLatin1", "canEncode", "(C)Z"⟩ : MethodName), jdk_43_method_3_code, 1, (Option.some Jvm.ClassFile.FieldType.boolean), ({ frames := 0, cells := 0, slots := 0, locals := 0 } : Room))
set_option maxRecDepth 65536 in
set_option maxHeartbeats 4000000 in
theorem cncY_met {A : Ax} (K : Wd A) {c : Int32} (hc : c.toInt < 256) {F G : List Ent} : Met A B_cnc #[.int c] F G (fun v F' G' => v = some (.int 1) ∧ F = F' ∧ G = G') := by
  refine MetW.of_go pn_cnc K.ew (L := [.val (.int c)]) (fun m => rfl) ?_
  intro D _
  have e255 : (255 : Int32).toInt = 255 := rfl
  refine Go.rn (B := B_cnc) td_cnc 0 2 (pc' := 4) (S' := [.int (255 : Int32), .int c]) rfl ?_
  refine Go.icmp (B := B_cnc) td_cnc 2 (pc' := 11) rfl (by decide) rfl (fun (h : c > (255 : Int32)) => absurd h (fun z => absurd (i32_lt.mp z) (by omega))) (fun _ => ?_)
  refine Go.rn (B := B_cnc) td_cnc 3 2 (pc' := 12) (S' := [.int (1 : Int32)]) rfl ?_
  exact Go.retZ (B := B_cnc) td_cnc 6 rfl rfl rfl ⟨rfl, rfl, rfl⟩ (by decide) (by decide)
set_option maxRecDepth 65536 in
set_option maxHeartbeats 4000000 in
theorem cncN_met {A : Ax} (K : Wd A) {c : Int32} (hc : 256 ≤ c.toInt) {F G : List Ent} : Met A B_cnc #[.int c] F G (fun v F' G' => v = some (.int 0) ∧ F = F' ∧ G = G') := by
  refine MetW.of_go pn_cnc K.ew (L := [.val (.int c)]) (fun m => rfl) ?_
  intro D _
  have e255 : (255 : Int32).toInt = 255 := rfl
  refine Go.rn (B := B_cnc) td_cnc 0 2 (pc' := 4) (S' := [.int (255 : Int32), .int c]) rfl ?_
  refine Go.icmp (B := B_cnc) td_cnc 2 (pc' := 11) rfl (by decide) rfl (fun _ => ?_) (fun (h : ¬ (c > (255 : Int32))) => absurd (i32_lt.mpr (by omega)) h)
  refine Go.rn (B := B_cnc) td_cnc 5 1 (pc' := 12) (S' := [.int (0 : Int32)]) rfl ?_
  exact Go.retZ (B := B_cnc) td_cnc 6 rfl rfl rfl ⟨rfl, rfl, rfl⟩ (by decide) (by decide)
def tb_pcs : List In1 := [(0, .iload_n 1, 1), (1, .aload_n 0, 1), (2, .invokestatic 67, 3), (5, .aload_n 0, 1), (6, .iload_n 1, 1), (7, .iload_n 2, 1), (8, .invokestatic 111, 3), (11, .return_, 1)]
set_option maxRecDepth 65536 in
theorem td_pcs : Dec jdk_52_method_71_code tb_pcs := by unfold Dec; decide +kernel
theorem pd_pcs : parseMethodDescriptor "([BII)V" = some ⟨[(.array .byte), .int, .int], none⟩ := by decide +kernel
theorem pn_pcs : plainFor (⟨"java/lang/StringUTF16", "putCharSB", "([BII)V"⟩ : MethodName) = true := by decide +kernel
abbrev B_pcs : Bx := ((⟨"java/lang/StringUTF16", "putCharSB", "([BII)V"⟩ : MethodName), jdk_52_method_71_code, 3, (Option.none : Option Jvm.ClassFile.FieldType), ({ frames := 3, cells := 0, slots := 0, locals := 40 } : Room))
set_option maxRecDepth 65536 in
set_option maxHeartbeats 4000000 in
theorem pcs_met {A : Ax} (K : Wd A) {t : Addr} {cs pad : List Int32} {p c : Int32} (hx : cs.length + pad.length ≤ 64) {F G : List Ent} : Met A B_pcs #[.ref t, .int (nI cs.length), .int c] ((t, ArrP A .byte (utfB (cs ++ p :: pad))) :: F) G (fun v F' G' => v = none ∧ ((t, ArrP A .byte (utfB ((cs ++ [c]) ++ pad))) :: F) = F' ∧ G = G') := by
  refine MetW.of_go pn_pcs K.ew (L := [.val (.ref t), .val (.int (nI cs.length)), .val (.int c)]) (fun m => rfl) ?_
  intro D _
  have hll : (cs ++ p :: pad).length = cs.length + (pad.length + 1) := by simp
  refine Go.rn (B := B_pcs) td_pcs 0 2 (pc' := 2) (S' := [.ref t, .int (nI cs.length)]) rfl ?_
  refine Go.callS (B := B_pcs) td_pcs 2 (B' := B_uck) (argsL := [.int (nI cs.length), .ref t]) (rest := []) (W := 0) rfl (uck_met K (utfB_len (cs ++ p :: pad)) (by omega) (nI_inB (by omega) (by omega)) (Or.inl (mi 0 rfl))) (w_400 K) (w_401 K) (w_22 K) (w_402 K) (by decide) pd_uck rfl rfl rfl rfl (Nat.le_of_eq rfl) (by decide) (by decide) (by decide) (by decide) ?_
  rintro _ _ _ ⟨rfl, rfl, rfl⟩
  show Go A B_pcs D _ 5 _ [] _ _ 0 0
  rw [utf_mid]
  refine Go.rn (B := B_pcs) td_pcs 3 3 (pc' := 8) (S' := [.int c, .int (nI cs.length), .ref t]) rfl ?_
  refine Go.callS (B := B_pcs) td_pcs 6 (B' := B_pch) (argsL := [.ref t, .int (nI cs.length), .int c]) (rest := []) (W := 0) rfl (pch_met K (utfB_len cs) (by simp only [List.length_append, List.length_cons, utfB_len]; omega)) (w_388 K) (w_389 K) (w_22 K) (w_390 K) (by decide) pd_pch rfl rfl rfl rfl (Nat.le_of_eq rfl) (by decide) (by decide) (by decide) (by decide) ?_
  rintro _ _ _ ⟨rfl, rfl, rfl⟩
  show Go A B_pcs D _ 11 _ [] ((t, ArrP A .byte (utfB cs ++ .int (byt8 c) :: .int (u2 c) :: utfB pad)) :: F) _ 0 0
  exact Go.retV (B := B_pcs) td_pcs 7 rfl rfl ⟨rfl, by rw [List.append_assoc, List.singleton_append, utf_mid], rfl⟩ (by decide) (by decide)
def tb_aca : List In1 := [(0, .aload_n 0, 1), (1, .aload_n 0, 1), (2, .getfield 79, 3), (5, .iconst 1, 1), (6, .iadd, 1), (7, .invokevirtual 100, 3), (10, .aload_n 0, 1), (11, .invokevirtual 83, 3), (14, .ifCond .eq 31, 3), (17, .iload_n 1, 1), (18, .invokestatic 191, 3), (21, .ifCond .eq 24, 3), (24, .aload_n 0, 1), (25, .getfield 15, 3), (28, .aload_n 0, 1), (29, .dup, 1), (30, .getfield 79, 3), (33, .dup_x1, 1), (34, .iconst 1, 1), (35, .iadd, 1), (36, .putfield 79, 3), (39, .iload_n 1, 1), (40, .i2b, 1), (41, .bastore, 1), (42, .goto 33, 3), (45, .aload_n 0, 1), (46, .invokevirtual 83, 3), (49, .ifCond .eq 7, 3), (52, .aload_n 0, 1), (53, .invokevirtual 195, 3), (56, .aload_n 0, 1), (57, .getfield 15, 3), (60, .aload_n 0, 1), (61, .dup, 1), (62, .getfield 79, 3), (65, .dup_x1, 1), (66, .iconst 1, 1), (67, .iadd, 1), (68, .putfield 79, 3), (71, .iload_n 1, 1), (72, .invokestatic 197, 3), (75, .aload_n 0, 1), (76, .areturn, 1)]
set_option maxRecDepth 65536 in
theorem td_aca : Dec jdk_68_method_31_code tb_aca := by unfold Dec; decide +kernel
theorem pd_aca : parseMethodDescriptor "(C)Ljava/lang/AbstractStringBuilder;" = some ⟨[.char], (some (.object "java/lang/AbstractStringBuilder"))⟩ := by decide +kernel
theorem pn_aca : plainFor (⟨"java/lang/AbstractStringBuilder", "append", "(C)Ljava/lang/AbstractStringBuilder;"⟩ : MethodName) = true := by decide +kernel
abbrev B_aca : Bx := ((⟨"java/lang/AbstractStringBuilder", "append", "(C)Ljava/lang/AbstractStringBuilder;"⟩ : MethodName), jdk_68_method_31_code, 2, (Option.some (Jvm.ClassFile.FieldType.object "java/lang/AbstractStringBuilder")), ({ frames := 6, cells := 2, slots := 256, locals := 89 } : Room))
theorem lat_set1 (cs pad : List Int32) (p c : Int32) : (latB (cs ++ p :: pad)).set cs.length (.int (byt8 c)) = latB ((cs ++ [c]) ++ pad) := by
  rw [latB_app, show latB (p :: pad) = .int (byt8 p) :: latB pad from rfl, own_mid _ _ _ _ _ (latB_len cs).symm, List.append_assoc, latB_app]; rfl
set_option maxRecDepth 65536 in
set_option maxHeartbeats 4000000 in
theorem acaL_met {A : Ax} (K : Wd A) {sb t : Addr} {cs pad : List Int32} {c : Int32} (hx : cs.length + pad.length ≤ 64) (hn : cs.length + 1 ≤ 32) (hc : c.toInt < 256) {F G : List Ent} : Met A B_aca #[.ref sb, .int c] ((sb, ob_1 A (.ref t) (.int (0 : Int32)) (.int (0 : Int32)) (.int (nI cs.length))) :: (t, ArrP A .byte (latB (cs ++ pad))) :: F) G (fun v F' G' => v = some (.ref sb) ∧ (∃ t2 pad2, (cs ++ [c]).length + pad2.length ≤ 64 ∧ ((sb, ob_1 A (.ref t2) (.int (0 : Int32)) (.int (0 : Int32)) (.int (nI (cs ++ [c]).length))) :: (t2, ArrP A .byte (latB ((cs ++ [c]) ++ pad2))) :: F) = F') ∧ G = G') := by
  refine MetW.of_go pn_aca K.ew (L := [.val (.ref sb), .val (.int c)]) (fun m => rfl) ?_
  intro D _
  refine Go.rn (B := B_aca) td_aca 0 2 (pc' := 2) (S' := [.ref sb, .ref sb]) rfl ?_
  refine Go.getfield (B := B_aca) td_aca 2 rfl (w_179 K) (Or.inl (mi 0 rfl)) (mi 3 rfl) ?_
  refine Go.rn (B := B_aca) td_aca 3 2 (pc' := 7) (S' := [.int ((nI cs.length) + (1 : Int32)), .ref sb]) rfl ?_
  rw [show nI cs.length + (1 : Int32) = nI (cs.length + 1) from nI_add1 _]
  refine Go.callPS (B := B_aca) td_aca 5 (B' := B_eci) (C := "java/lang/StringBuilder") (a := sb) (argsL := [.int (nI (cs.length + 1))]) (rest := []) (W := 0) rfl (eciL_met K hx hn) (Or.inl (mi 0 rfl)) (fun c P => P.1) (w_181 K) (w_182 K) (w_183 K) (w_184 K) rfl (w_98 K) (w_185 K) (by decide) pd_eci rfl rfl rfl rfl (Nat.le_of_eq rfl) (by decide) (by decide) (by decide) (by decide) ?_
  rintro _ _ _ ⟨rfl, ⟨t2, pad2, p1, p2, rfl⟩, rfl⟩
  show Go A B_aca D _ 10 _ [] ((sb, ob_1 A (.ref t2) (.int (0 : Int32)) (.int (0 : Int32)) (.int (nI cs.length))) :: (t2, ArrP A .byte (latB (cs ++ pad2))) :: F) _ 1 128
  refine Go.rn (B := B_aca) td_aca 6 1 (pc' := 11) (S' := [.ref sb]) rfl ?_
  refine Go.callV (B := B_aca) td_aca 7 (B' := B_as1) (C := "java/lang/StringBuilder") (a := sb) (argsL := []) (rest := []) (W := 0) rfl (as1L_met K) (Or.inl (mi 0 rfl)) (fun c P => P.1) (w_354 K) (w_256 K) (w_257 K) (w_258 K) (w_258 K) (w_98 K) (w_259 K) (by decide) pd_as1 rfl rfl rfl rfl (Nat.le_of_eq rfl) (by decide) (by decide) (by decide) (by decide) ?_
  rintro _ _ _ ⟨rfl, rfl, rfl⟩
  show Go A B_aca D _ 14 _ [.int (1 : Int32)] _ _ 1 128
  refine Go.if0 (B := B_aca) td_aca 8 (pc' := 45) rfl (by decide) rfl (fun (h : (1 : Int32) = 0) => absurd h (by decide)) (fun _ => ?_)
  refine Go.rn (B := B_aca) td_aca 9 1 (pc' := 18) (S' := [.int c]) rfl ?_
  refine Go.callS (B := B_aca) td_aca 10 (B' := B_cnc) (argsL := [.int c]) (rest := []) (W := 0) rfl (cncY_met K hc) (w_355 K) (w_356 K) (w_157 K) (w_357 K) (by decide) pd_cnc rfl rfl rfl rfl (Nat.le_of_eq rfl) (by decide) (by decide) (by decide) (by decide) ?_
  rintro _ _ _ ⟨rfl, rfl, rfl⟩
  show Go A B_aca D _ 21 _ [.int (1 : Int32)] _ _ 1 128
  refine Go.if0 (B := B_aca) td_aca 11 (pc' := 45) rfl (by decide) rfl (fun (h : (1 : Int32) = 0) => absurd h (by decide)) (fun _ => ?_)
  refine Go.rn (B := B_aca) td_aca 12 1 (pc' := 25) (S' := [.ref sb]) rfl ?_
  obtain ⟨p, pad3, hp3⟩ : ∃ p r, pad2 = p :: r := by
    cases hq : pad2 with
    | nil => rw [hq] at p1; simp only [List.length_nil] at p1; omega
    | cons p r => exact ⟨p, r, rfl⟩
  have hp4 : pad2.length = pad3.length + 1 := by rw [hp3, List.length_cons]
  rw [hp3]
  show Go A B_aca D _ 25 [.val (.ref sb), .val (.int c)] [.ref sb] ((sb, ob_1 A (.ref t2) (.int (0 : Int32)) (.int (0 : Int32)) (.int (nI cs.length))) :: (t2, ArrP A .byte (latB (cs ++ p :: pad3))) :: F) G 1 128
  have hll : (cs ++ p :: pad3).length = cs.length + (pad3.length + 1) := by simp
  refine Go.getfield (B := B_aca) td_aca 13 rfl (w_102 K) (Or.inl (mi 0 rfl)) (mi 0 rfl) ?_
  refine Go.rn (B := B_aca) td_aca 14 2 (pc' := 30) (S' := [.ref sb, .ref sb, .ref t2]) rfl ?_
  refine Go.getfield (B := B_aca) td_aca 16 rfl (w_179 K) (Or.inl (mi 0 rfl)) (mi 3 rfl) ?_
  refine Go.rn (B := B_aca) td_aca 17 3 (pc' := 36) (S' := [.int ((nI cs.length) + (1 : Int32)), .ref sb, .int (nI cs.length), .ref t2]) rfl ?_
  rw [show nI cs.length + (1 : Int32) = nI (cs ++ [c]).length from (own_len_snoc cs c).symm]
  refine Go.putfield (B := B_aca) td_aca 20 (fs' := [("java/lang/AbstractStringBuilder", "value", "[B", .ref t2), ("java/lang/AbstractStringBuilder", "coder", "B", .int (0 : Int32)), ("java/lang/AbstractStringBuilder", "maybeLatin1", "Z", .int (0 : Int32)), ("java/lang/AbstractStringBuilder", "count", "I", .int (nI (cs ++ [c]).length))]) rfl (w_179 K) (Or.inl (w_180 K)) (w_65 K) rfl rfl rfl (mi 3 rfl) (own_fs 3 (ns := ["value", "coder", "maybeLatin1"]) rfl (by decide) rfl) ?_
  refine Go.rn (B := B_aca) td_aca 21 2 (pc' := 41) (S' := [.int (byt8 c), .int (nI cs.length), .ref t2]) rfl ?_
  refine Go.front 1 (F' := ((t2, ArrP A .byte (latB (cs ++ p :: pad3))) :: (sb, ob_1 A (.ref t2) (.int (0 : Int32)) (.int (0 : Int32)) (.int (nI (cs ++ [c]).length))) :: F)) rfl rfl ?_
  refine Go.bastore (B := B_aca) td_aca 23 (vs' := (latB ((cs ++ [c]) ++ pad3))) rfl (nI_inB (by rw [latB_len]; omega) (by rw [latB_len]; omega)) (by rw [nI_nat (by omega), byt8_byt8]; exact lat_set1 cs pad3 p c) ?_
  refine Go.rn (B := B_aca) td_aca 24 1 (pc' := 75) (S' := []) rfl ?_
  refine Go.rn (B := B_aca) td_aca 41 1 (pc' := 76) (S' := [.ref sb]) rfl ?_
  refine Go.front 1 (F' := ((sb, ob_1 A (.ref t2) (.int (0 : Int32)) (.int (0 : Int32)) (.int (nI (cs ++ [c]).length))) :: (t2, ArrP A .byte (latB ((cs ++ [c]) ++ pad3))) :: F)) rfl rfl ?_
  exact Go.retA (B := B_aca) td_aca 42 rfl rfl rfl rfl ⟨rfl, ⟨t2, pad3, by rw [List.length_append, List.length_singleton]; omega, rfl⟩, rfl⟩ (by decide) (by decide)
set_option maxRecDepth 65536 in
set_option maxHeartbeats 4000000 in
theorem acaN_met {A : Ax} (K : Wd A) {sb t : Addr} {cs pad : List Int32} {c : Int32} (hx : cs.length + pad.length ≤ 64) (hn : cs.length + 1 ≤ 32) (hl : Lat cs) (hc : 256 ≤ c.toInt) {F G : List Ent} : Met A B_aca #[.ref sb, .int c] ((sb, ob_1 A (.ref t) (.int (0 : Int32)) (.int (0 : Int32)) (.int (nI cs.length))) :: (t, ArrP A .byte (latB (cs ++ pad))) :: F) G (fun v F' G' => v = some (.ref sb) ∧ (∃ t2 pad2, (cs ++ [c]).length + pad2.length ≤ 64 ∧ ((sb, ob_1 A (.ref t2) (.int (1 : Int32)) (.int (0 : Int32)) (.int (nI (cs ++ [c]).length))) :: (t2, ArrP A .byte (utfB ((cs ++ [c]) ++ pad2))) :: F) = F') ∧ G = G') := by
  refine MetW.of_go pn_aca K.ew (L := [.val (.ref sb), .val (.int c)]) (fun m => rfl) ?_
  intro D _
  refine Go.rn (B := B_aca) td_aca 0 2 (pc' := 2) (S' := [.ref sb, .ref sb]) rfl ?_
  refine Go.getfield (B := B_aca) td_aca 2 rfl (w_179 K) (Or.inl (mi 0 rfl)) (mi 3 rfl) ?_
  refine Go.rn (B := B_aca) td_aca 3 2 (pc' := 7) (S' := [.int ((nI cs.length) + (1 : Int32)), .ref sb]) rfl ?_
  rw [show nI cs.length + (1 : Int32) = nI (cs.length + 1) from nI_add1 _]
  refine Go.callPS (B := B_aca) td_aca 5 (B' := B_eci) (C := "java/lang/StringBuilder") (a := sb) (argsL := [.int (nI (cs.length + 1))]) (rest := []) (W := 0) rfl (eciL_met K hx hn) (Or.inl (mi 0 rfl)) (fun c P => P.1) (w_181 K) (w_182 K) (w_183 K) (w_184 K) rfl (w_98 K) (w_185 K) (by decide) pd_eci rfl rfl rfl rfl (Nat.le_of_eq rfl) (by decide) (by decide) (by decide) (by decide) ?_
  rintro _ _ _ ⟨rfl, ⟨t2, pad2, p1, p2, rfl⟩, rfl⟩
  show Go A B_aca D _ 10 _ [] ((sb, ob_1 A (.ref t2) (.int (0 : Int32)) (.int (0 : Int32)) (.int (nI cs.length))) :: (t2, ArrP A .byte (latB (cs ++ pad2))) :: F) _ 1 128
  refine Go.rn (B := B_aca) td_aca 6 1 (pc' := 11) (S' := [.ref sb]) rfl ?_
  refine Go.callV (B := B_aca) td_aca 7 (B' := B_as1) (C := "java/lang/StringBuilder") (a := sb) (argsL := []) (rest := []) (W := 0) rfl (as1L_met K) (Or.inl (mi 0 rfl)) (fun c P => P.1) (w_354 K) (w_256 K) (w_257 K) (w_258 K) (w_258 K) (w_98 K) (w_259 K) (by decide) pd_as1 rfl rfl rfl rfl (Nat.le_of_eq rfl) (by decide) (by decide) (by decide) (by decide) ?_
  rintro _ _ _ ⟨rfl, rfl, rfl⟩
  show Go A B_aca D _ 14 _ [.int (1 : Int32)] _ _ 1 128
  refine Go.if0 (B := B_aca) td_aca 8 (pc' := 45) rfl (by decide) rfl (fun (h : (1 : Int32) = 0) => absurd h (by decide)) (fun _ => ?_)
  refine Go.rn (B := B_aca) td_aca 9 1 (pc' := 18) (S' := [.int c]) rfl ?_
  refine Go.callS (B := B_aca) td_aca 10 (B' := B_cnc) (argsL := [.int c]) (rest := []) (W := 0) rfl (cncN_met K hc) (w_355 K) (w_356 K) (w_157 K) (w_357 K) (by decide) pd_cnc rfl rfl rfl rfl (Nat.le_of_eq rfl) (by decide) (by decide) (by decide) (by decide) ?_
  rintro _ _ _ ⟨rfl, rfl, rfl⟩
  show Go A B_aca D _ 21 _ [.int (0 : Int32)] _ _ 1 128
  refine Go.if0 (B := B_aca) td_aca 11 (pc' := 45) rfl (by decide) rfl (fun _ => ?_) (fun (h : ¬ ((0 : Int32) = 0)) => absurd (by decide) h)
  refine Go.rn (B := B_aca) td_aca 25 1 (pc' := 46) (S' := [.ref sb]) rfl ?_
  refine Go.callV (B := B_aca) td_aca 26 (B' := B_as1) (C := "java/lang/StringBuilder") (a := sb) (argsL := []) (rest := []) (W := 0) rfl (as1L_met K) (Or.inl (mi 0 rfl)) (fun c P => P.1) (w_354 K) (w_256 K) (w_257 K) (w_258 K) (w_258 K) (w_98 K) (w_259 K) (by decide) pd_as1 rfl rfl rfl rfl (Nat.le_of_eq rfl) (by decide) (by decide) (by decide) (by decide) ?_
  rintro _ _ _ ⟨rfl, rfl, rfl⟩
  show Go A B_aca D _ 49 _ [.int (1 : Int32)] _ _ 1 128
  refine Go.if0 (B := B_aca) td_aca 27 (pc' := 56) rfl (by decide) rfl (fun (h : (1 : Int32) = 0) => absurd h (by decide)) (fun _ => ?_)
  refine Go.rn (B := B_aca) td_aca 28 1 (pc' := 53) (S' := [.ref sb]) rfl ?_
  refine Go.callPS (B := B_aca) td_aca 29 (B' := B_asf) (C := "java/lang/StringBuilder") (a := sb) (argsL := []) (rest := []) (W := 0) rfl (asfL_met K hl p2) (Or.inl (mi 0 rfl)) (fun c P => P.1) (w_407 K) (w_408 K) (w_409 K) (w_410 K) rfl (w_98 K) (w_411 K) (by decide) pd_asf rfl rfl rfl rfl (Nat.le_of_eq rfl) (by decide) (by decide) (by decide) (by decide) ?_
  rintro _ _ _ ⟨rfl, ⟨t3, pad4, p4, rfl⟩, rfl⟩
  show Go A B_aca D _ 56 _ [] ((sb, ob_1 A (.ref t3) (.int (1 : Int32)) (.int (0 : Int32)) (.int (nI cs.length))) :: (t3, ArrP A .byte (utfB (cs ++ pad4))) :: F) _ 2 256
  rw [← p4] at p1 p2
  obtain ⟨p, pad3, hp3⟩ : ∃ p r, pad4 = p :: r := by
    cases hq : pad4 with
    | nil => rw [hq] at p1; simp only [List.length_nil] at p1; omega
    | cons p r => exact ⟨p, r, rfl⟩
  have hp4 : pad4.length = pad3.length + 1 := by rw [hp3, List.length_cons]
  rw [hp3]
  show Go A B_aca D _ 56 [.val (.ref sb), .val (.int c)] [] ((sb, ob_1 A (.ref t3) (.int (1 : Int32)) (.int (0 : Int32)) (.int (nI cs.length))) :: (t3, ArrP A .byte (utfB (cs ++ p :: pad3))) :: F) G 2 256
  refine Go.rn (B := B_aca) td_aca 30 1 (pc' := 57) (S' := [.ref sb]) rfl ?_
  refine Go.getfield (B := B_aca) td_aca 31 rfl (w_102 K) (Or.inl (mi 0 rfl)) (mi 0 rfl) ?_
  refine Go.rn (B := B_aca) td_aca 32 2 (pc' := 62) (S' := [.ref sb, .ref sb, .ref t3]) rfl ?_
  refine Go.getfield (B := B_aca) td_aca 34 rfl (w_179 K) (Or.inl (mi 0 rfl)) (mi 3 rfl) ?_
  refine Go.rn (B := B_aca) td_aca 35 3 (pc' := 68) (S' := [.int ((nI cs.length) + (1 : Int32)), .ref sb, .int (nI cs.length), .ref t3]) rfl ?_
  rw [show nI cs.length + (1 : Int32) = nI (cs ++ [c]).length from (own_len_snoc cs c).symm]
  refine Go.putfield (B := B_aca) td_aca 38 (fs' := [("java/lang/AbstractStringBuilder", "value", "[B", .ref t3), ("java/lang/AbstractStringBuilder", "coder", "B", .int (1 : Int32)), ("java/lang/AbstractStringBuilder", "maybeLatin1", "Z", .int (0 : Int32)), ("java/lang/AbstractStringBuilder", "count", "I", .int (nI (cs ++ [c]).length))]) rfl (w_179 K) (Or.inl (w_180 K)) (w_65 K) rfl rfl rfl (mi 3 rfl) (own_fs 3 (ns := ["value", "coder", "maybeLatin1"]) rfl (by decide) rfl) ?_
  refine Go.rn (B := B_aca) td_aca 39 1 (pc' := 72) (S' := [.int c, .int (nI cs.length), .ref t3]) rfl ?_
  refine Go.front 1 (F' := ((t3, ArrP A .byte (utfB (cs ++ p :: pad3))) :: (sb, ob_1 A (.ref t3) (.int (1 : Int32)) (.int (0 : Int32)) (.int (nI (cs ++ [c]).length))) :: F)) rfl rfl ?_
  refine Go.callS (B := B_aca) td_aca 40 (B' := B_pcs) (argsL := [.ref t3, .int (nI cs.length), .int c]) (rest := []) (W := 0) rfl (pcs_met K (by omega)) (w_428 K) (w_429 K) (w_22 K) (w_430 K) (by decide) pd_pcs rfl rfl rfl rfl (Nat.le_of_eq rfl) (by decide) (by decide) (by decide) (by decide) ?_
  rintro _ _ _ ⟨rfl, rfl, rfl⟩
  show Go A B_aca D _ 75 _ [] ((t3, ArrP A .byte (utfB ((cs ++ [c]) ++ pad3))) :: (sb, ob_1 A (.ref t3) (.int (1 : Int32)) (.int (0 : Int32)) (.int (nI (cs ++ [c]).length))) :: F) _ 2 256
  refine Go.front 1 (F' := ((sb, ob_1 A (.ref t3) (.int (1 : Int32)) (.int (0 : Int32)) (.int (nI (cs ++ [c]).length))) :: (t3, ArrP A .byte (utfB ((cs ++ [c]) ++ pad3))) :: F)) rfl rfl ?_
  refine Go.rn (B := B_aca) td_aca 41 1 (pc' := 76) (S' := [.ref sb]) rfl ?_
  exact Go.retA (B := B_aca) td_aca 42 rfl rfl rfl rfl ⟨rfl, ⟨_, pad3, by rw [List.length_append, List.length_singleton]; omega, rfl⟩, rfl⟩ (by decide) (by decide)
set_option maxRecDepth 65536 in
set_option maxHeartbeats 4000000 in
theorem acaU_met {A : Ax} (K : Wd A) {sb t : Addr} {cs pad : List Int32} {c : Int32} (hx : cs.length + pad.length ≤ 64) (hn : cs.length + 1 ≤ 32) {F G : List Ent} : Met A B_aca #[.ref sb, .int c] ((sb, ob_1 A (.ref t) (.int (1 : Int32)) (.int (0 : Int32)) (.int (nI cs.length))) :: (t, ArrP A .byte (utfB (cs ++ pad))) :: F) G (fun v F' G' => v = some (.ref sb) ∧ (∃ t2 pad2, (cs ++ [c]).length + pad2.length ≤ 64 ∧ ((sb, ob_1 A (.ref t2) (.int (1 : Int32)) (.int (0 : Int32)) (.int (nI (cs ++ [c]).length))) :: (t2, ArrP A .byte (utfB ((cs ++ [c]) ++ pad2))) :: F) = F') ∧ G = G') := by
  refine MetW.of_go pn_aca K.ew (L := [.val (.ref sb), .val (.int c)]) (fun m => rfl) ?_
  intro D _
  refine Go.rn (B := B_aca) td_aca 0 2 (pc' := 2) (S' := [.ref sb, .ref sb]) rfl ?_
  refine Go.getfield (B := B_aca) td_aca 2 rfl (w_179 K) (Or.inl (mi 0 rfl)) (mi 3 rfl) ?_
  refine Go.rn (B := B_aca) td_aca 3 2 (pc' := 7) (S' := [.int ((nI cs.length) + (1 : Int32)), .ref sb]) rfl ?_
  rw [show nI cs.length + (1 : Int32) = nI (cs.length + 1) from nI_add1 _]
  refine Go.callPS (B := B_aca) td_aca 5 (B' := B_eci) (C := "java/lang/StringBuilder") (a := sb) (argsL := [.int (nI (cs.length + 1))]) (rest := []) (W := 0) rfl (eciU_met K hx hn) (Or.inl (mi 0 rfl)) (fun c P => P.1) (w_181 K) (w_182 K) (w_183 K) (w_184 K) rfl (w_98 K) (w_185 K) (by decide) pd_eci rfl rfl rfl rfl (Nat.le_of_eq rfl) (by decide) (by decide) (by decide) (by decide) ?_
  rintro _ _ _ ⟨rfl, ⟨t2, pad2, p1, p2, rfl⟩, rfl⟩
  show Go A B_aca D _ 10 _ [] ((sb, ob_1 A (.ref t2) (.int (1 : Int32)) (.int (0 : Int32)) (.int (nI cs.length))) :: (t2, ArrP A .byte (utfB (cs ++ pad2))) :: F) _ 1 128
  refine Go.rn (B := B_aca) td_aca 6 1 (pc' := 11) (S' := [.ref sb]) rfl ?_
  refine Go.callV (B := B_aca) td_aca 7 (B' := B_as1) (C := "java/lang/StringBuilder") (a := sb) (argsL := []) (rest := []) (W := 0) rfl (as1U_met K) (Or.inl (mi 0 rfl)) (fun c P => P.1) (w_354 K) (w_256 K) (w_257 K) (w_258 K) (w_258 K) (w_98 K) (w_259 K) (by decide) pd_as1 rfl rfl rfl rfl (Nat.le_of_eq rfl) (by decide) (by decide) (by decide) (by decide) ?_
  rintro _ _ _ ⟨rfl, rfl, rfl⟩
  show Go A B_aca D _ 14 _ [.int (0 : Int32)] _ _ 1 128
  refine Go.if0 (B := B_aca) td_aca 8 (pc' := 45) rfl (by decide) rfl (fun _ => ?_) (fun (h : ¬ ((0 : Int32) = 0)) => absurd (by decide) h)
  refine Go.rn (B := B_aca) td_aca 25 1 (pc' := 46) (S' := [.ref sb]) rfl ?_
  refine Go.callV (B := B_aca) td_aca 26 (B' := B_as1) (C := "java/lang/StringBuilder") (a := sb) (argsL := []) (rest := []) (W := 0) rfl (as1U_met K) (Or.inl (mi 0 rfl)) (fun c P => P.1) (w_354 K) (w_256 K) (w_257 K) (w_258 K) (w_258 K) (w_98 K) (w_259 K) (by decide) pd_as1 rfl rfl rfl rfl (Nat.le_of_eq rfl) (by decide) (by decide) (by decide) (by decide) ?_
  rintro _ _ _ ⟨rfl, rfl, rfl⟩
  show Go A B_aca D _ 49 _ [.int (0 : Int32)] _ _ 1 128
  refine Go.if0 (B := B_aca) td_aca 27 (pc' := 56) rfl (by decide) rfl (fun _ => ?_) (fun (h : ¬ ((0 : Int32) = 0)) => absurd (by decide) h)
  obtain ⟨p, pad3, hp3⟩ : ∃ p r, pad2 = p :: r := by
    cases hq : pad2 with
    | nil => rw [hq] at p1; simp only [List.length_nil] at p1; omega
    | cons p r => exact ⟨p, r, rfl⟩
  have hp4 : pad2.length = pad3.length + 1 := by rw [hp3, List.length_cons]
  rw [hp3]
  show Go A B_aca D _ 56 [.val (.ref sb), .val (.int c)] [] ((sb, ob_1 A (.ref t2) (.int (1 : Int32)) (.int (0 : Int32)) (.int (nI cs.length))) :: (t2, ArrP A .byte (utfB (cs ++ p :: pad3))) :: F) G 1 128
  refine Go.rn (B := B_aca) td_aca 30 1 (pc' := 57) (S' := [.ref sb]) rfl ?_
  refine Go.getfield (B := B_aca) td_aca 31 rfl (w_102 K) (Or.inl (mi 0 rfl)) (mi 0 rfl) ?_
  refine Go.rn (B := B_aca) td_aca 32 2 (pc' := 62) (S' := [.ref sb, .ref sb, .ref t2]) rfl ?_
  refine Go.getfield (B := B_aca) td_aca 34 rfl (w_179 K) (Or.inl (mi 0 rfl)) (mi 3 rfl) ?_
  refine Go.rn (B := B_aca) td_aca 35 3 (pc' := 68) (S' := [.int ((nI cs.length) + (1 : Int32)), .ref sb, .int (nI cs.length), .ref t2]) rfl ?_
  rw [show nI cs.length + (1 : Int32) = nI (cs ++ [c]).length from (own_len_snoc cs c).symm]
  refine Go.putfield (B := B_aca) td_aca 38 (fs' := [("java/lang/AbstractStringBuilder", "value", "[B", .ref t2), ("java/lang/AbstractStringBuilder", "coder", "B", .int (1 : Int32)), ("java/lang/AbstractStringBuilder", "maybeLatin1", "Z", .int (0 : Int32)), ("java/lang/AbstractStringBuilder", "count", "I", .int (nI (cs ++ [c]).length))]) rfl (w_179 K) (Or.inl (w_180 K)) (w_65 K) rfl rfl rfl (mi 3 rfl) (own_fs 3 (ns := ["value", "coder", "maybeLatin1"]) rfl (by decide) rfl) ?_
  refine Go.rn (B := B_aca) td_aca 39 1 (pc' := 72) (S' := [.int c, .int (nI cs.length), .ref t2]) rfl ?_
  refine Go.front 1 (F' := ((t2, ArrP A .byte (utfB (cs ++ p :: pad3))) :: (sb, ob_1 A (.ref t2) (.int (1 : Int32)) (.int (0 : Int32)) (.int (nI (cs ++ [c]).length))) :: F)) rfl rfl ?_
  refine Go.callS (B := B_aca) td_aca 40 (B' := B_pcs) (argsL := [.ref t2, .int (nI cs.length), .int c]) (rest := []) (W := 0) rfl (pcs_met K (by omega)) (w_428 K) (w_429 K) (w_22 K) (w_430 K) (by decide) pd_pcs rfl rfl rfl rfl (Nat.le_of_eq rfl) (by decide) (by decide) (by decide) (by decide) ?_
  rintro _ _ _ ⟨rfl, rfl, rfl⟩
  show Go A B_aca D _ 75 _ [] ((t2, ArrP A .byte (utfB ((cs ++ [c]) ++ pad3))) :: (sb, ob_1 A (.ref t2) (.int (1 : Int32)) (.int (0 : Int32)) (.int (nI (cs ++ [c]).length))) :: F) _ 1 128
  refine Go.front 1 (F' := ((sb, ob_1 A (.ref t2) (.int (1 : Int32)) (.int (0 : Int32)) (.int (nI (cs ++ [c]).length))) :: (t2, ArrP A .byte (utfB ((cs ++ [c]) ++ pad3))) :: F)) rfl rfl ?_
  refine Go.rn (B := B_aca) td_aca 41 1 (pc' := 76) (S' := [.ref sb]) rfl ?_
  exact Go.retA (B := B_aca) td_aca 42 rfl rfl rfl rfl ⟨rfl, ⟨_, pad3, by rw [List.length_append, List.length_singleton]; omega, rfl⟩, rfl⟩ (by decide) (by decide)
def tb_sbc : List In1 := [(0, .aload_n 0, 1), (1, .iload_n 1, 1), (2, .invokespecial 50, 3), (5, .pop, 1), (6, .aload_n 0, 1), (7, .areturn, 1)]
set_option maxRecDepth 65536 in
theorem td_sbc : Dec jdk_67_method_14_code tb_sbc := by unfold Dec; decide +kernel
theorem pd_sbc : parseMethodDescriptor "(C)Ljava/lang/StringBuilder;" = some ⟨[.char], (some (.object "java/lang/StringBuilder"))⟩ := by decide +kernel
theorem pn_sbc : plainFor (⟨"java/lang/StringBuilder", "append", "(C)Ljava/lang/StringBuilder;"⟩ : MethodName) = true := by decide +kernel
abbrev B_sbc : Bx := ((⟨"java/lang/StringBuilder", "append", "(C)Ljava/lang/StringBuilder;"⟩ : MethodName), jdk_67_method_14_code, 2, (Option.some (Jvm.ClassFile.FieldType.object "java/lang/StringBuilder")), ({ frames := 7, cells := 2, slots := 256, locals := 102 } : Room))
set_option maxRecDepth 65536 in
set_option maxHeartbeats 4000000 in
theorem sbcL_met {A : Ax} (K : Wd A) {sb t : Addr} {cs pad : List Int32} {c : Int32} (hx : cs.length + pad.length ≤ 64) (hn : cs.length + 1 ≤ 32) (hc : c.toInt < 256) {F G : List Ent} : Met A B_sbc #[.ref sb, .int c] ((sb, ob_1 A (.ref t) (.int (0 : Int32)) (.int (0 : Int32)) (.int (nI cs.length))) :: (t, ArrP A .byte (latB (cs ++ pad))) :: F) G (fun v F' G' => v = some (.ref sb) ∧ (∃ t2 pad2, (cs ++ [c]).length + pad2.length ≤ 64 ∧ ((sb, ob_1 A (.ref t2) (.int (0 : Int32)) (.int (0 : Int32)) (.int (nI (cs ++ [c]).length))) :: (t2, ArrP A .byte (latB ((cs ++ [c]) ++ pad2))) :: F) = F') ∧ G = G') := by
  refine MetW.of_go pn_sbc K.ew (L := [.val (.ref sb), .val (.int c)]) (fun m => rfl) ?_
  intro D _
  refine Go.rn (B := B_sbc) td_sbc 0 2 (pc' := 2) (S' := [.int c, .ref sb]) rfl ?_
  refine Go.callSup (B := B_sbc) td_sbc 2 (B' := B_aca) (C := "java/lang/StringBuilder") (a := sb) (argsL := [.int c]) (rest := []) (W := 0) rfl (acaL_met K hx hn hc) (Or.inl (mi 0 rfl)) (fun c P => P.1) (w_350 K) (w_351 K) (w_175 K) (own_sel0 (w_184 K)) rfl (by decide) (w_98 K) (w_353 K) (by decide) pd_aca rfl rfl rfl rfl (Nat.le_of_eq rfl) (by decide) (by decide) (by decide) (by decide) ?_
  rintro _ _ _ ⟨rfl, ⟨t2, pad2, p1, rfl⟩, rfl⟩
  show Go A B_sbc D _ 5 _ [.ref sb] ((sb, ob_1 A (.ref t2) (.int (0 : Int32)) (.int (0 : Int32)) (.int (nI (cs ++ [c]).length))) :: (t2, ArrP A .byte (latB ((cs ++ [c]) ++ pad2))) :: F) _ 2 256
  refine Go.rn (B := B_sbc) td_sbc 3 2 (pc' := 7) (S' := [.ref sb]) rfl ?_
  exact Go.retA (B := B_sbc) td_sbc 5 rfl rfl rfl rfl ⟨rfl, ⟨t2, pad2, p1, rfl⟩, rfl⟩ (by decide) (by decide)
set_option maxRecDepth 65536 in
set_option maxHeartbeats 4000000 in
theorem sbcN_met {A : Ax} (K : Wd A) {sb t : Addr} {cs pad : List Int32} {c : Int32} (hx : cs.length + pad.length ≤ 64) (hn : cs.length + 1 ≤ 32) (hl : Lat cs) (hc : 256 ≤ c.toInt) {F G : List Ent} : Met A B_sbc #[.ref sb, .int c] ((sb, ob_1 A (.ref t) (.int (0 : Int32)) (.int (0 : Int32)) (.int (nI cs.length))) :: (t, ArrP A .byte (latB (cs ++ pad))) :: F) G (fun v F' G' => v = some (.ref sb) ∧ (∃ t2 pad2, (cs ++ [c]).length + pad2.length ≤ 64 ∧ ((sb, ob_1 A (.ref t2) (.int (1 : Int32)) (.int (0 : Int32)) (.int (nI (cs ++ [c]).length))) :: (t2, ArrP A .byte (utfB ((cs ++ [c]) ++ pad2))) :: F) = F') ∧ G = G') := by
  refine MetW.of_go pn_sbc K.ew (L := [.val (.ref sb), .val (.int c)]) (fun m => rfl) ?_
  intro D _
  refine Go.rn (B := B_sbc) td_sbc 0 2 (pc' := 2) (S' := [.int c, .ref sb]) rfl ?_
  refine Go.callSup (B := B_sbc) td_sbc 2 (B' := B_aca) (C := "java/lang/StringBuilder") (a := sb) (argsL := [.int c]) (rest := []) (W := 0) rfl (acaN_met K hx hn hl hc) (Or.inl (mi 0 rfl)) (fun c P => P.1) (w_350 K) (w_351 K) (w_175 K) (own_sel0 (w_184 K)) rfl (by decide) (w_98 K) (w_353 K) (by decide) pd_aca rfl rfl rfl rfl (Nat.le_of_eq rfl) (by decide) (by decide) (by decide) (by decide) ?_
  rintro _ _ _ ⟨rfl, ⟨t2, pad2, p1, rfl⟩, rfl⟩
  show Go A B_sbc D _ 5 _ [.ref sb] ((sb, ob_1 A (.ref t2) (.int (1 : Int32)) (.int (0 : Int32)) (.int (nI (cs ++ [c]).length))) :: (t2, ArrP A .byte (utfB ((cs ++ [c]) ++ pad2))) :: F) _ 2 256
  refine Go.rn (B := B_sbc) td_sbc 3 2 (pc' := 7) (S' := [.ref sb]) rfl ?_
  exact Go.retA (B := B_sbc) td_sbc 5 rfl rfl rfl rfl ⟨rfl, ⟨t2, pad2, p1, rfl⟩, rfl⟩ (by decide) (by decide)
set_option maxRecDepth 65536 in
set_option maxHeartbeats 4000000 in
theorem sbcU_met {A : Ax} (K : Wd A) {sb t : Addr} {cs pad : List Int32} {c : Int32} (hx : cs.length + pad.length ≤ 64) (hn : cs.length + 1 ≤ 32) {F G : List Ent} : Met A B_sbc #[.ref sb, .int c] ((sb, ob_1 A (.ref t) (.int (1 : Int32)) (.int (0 : Int32)) (.int (nI cs.length))) :: (t, ArrP A .byte (utfB (cs ++ pad))) :: F) G (fun v F' G' => v = some (.ref sb) ∧ (∃ t2 pad2, (cs ++ [c]).length + pad2.length ≤ 64 ∧ ((sb, ob_1 A (.ref t2) (.int (1 : Int32)) (.int (0 : Int32)) (.int (nI (cs ++ [c]).length))) :: (t2, ArrP A .byte (utfB ((cs ++ [c]) ++ pad2))) :: F) = F') ∧ G = G') := by
  refine MetW.of_go pn_sbc K.ew (L := [.val (.ref sb), .val (.int c)]) (fun m => rfl) ?_
  intro D _
  refine Go.rn (B := B_sbc) td_sbc 0 2 (pc' := 2) (S' := [.int c, .ref sb]) rfl ?_
  refine Go.callSup (B := B_sbc) td_sbc 2 (B' := B_aca) (C := "java/lang/StringBuilder") (a := sb) (argsL := [.int c]) (rest := []) (W := 0) rfl (acaU_met K hx hn ) (Or.inl (mi 0 rfl)) (fun c P => P.1) (w_350 K) (w_351 K) (w_175 K) (own_sel0 (w_184 K)) rfl (by decide) (w_98 K) (w_353 K) (by decide) pd_aca rfl rfl rfl rfl (Nat.le_of_eq rfl) (by decide) (by decide) (by decide) (by decide) ?_
  rintro _ _ _ ⟨rfl, ⟨t2, pad2, p1, rfl⟩, rfl⟩
  show Go A B_sbc D _ 5 _ [.ref sb] ((sb, ob_1 A (.ref t2) (.int (1 : Int32)) (.int (0 : Int32)) (.int (nI (cs ++ [c]).length))) :: (t2, ArrP A .byte (utfB ((cs ++ [c]) ++ pad2))) :: F) _ 2 256
  refine Go.rn (B := B_sbc) td_sbc 3 2 (pc' := 7) (S' := [.ref sb]) rfl ?_
  exact Go.retA (B := B_sbc) td_sbc 5 rfl rfl rfl rfl ⟨rfl, ⟨t2, pad2, p1, rfl⟩, rfl⟩ (by decide) (by decide)
--CUT
def tb_asi : List In1 := [(0, .aload_n 0, 1), (1, .invokespecial 3, 3), (4, .getstatic 18, 3), (7, .ifCond .eq 18, 3), (10, .aload_n 0, 1), (11, .iload_n 1, 1), (12, .newarray .byte, 2), (14, .putfield 15, 3), (17, .aload_n 0, 1), (18, .iconst 0, 1), (19, .putfield 22, 3), (22, .goto 16, 3), (25, .aload_n 0, 1), (26, .iload_n 1, 1), (27, .invokestatic 26, 3), (30, .putfield 15, 3), (33, .aload_n 0, 1), (34, .iconst 1, 1), (35, .putfield 22, 3), (38, .return_, 1)]
set_option maxRecDepth 65536 in
theorem td_asi : Dec jdk_68_method_2_code tb_asi := by unfold Dec; decide +kernel
theorem pd_asi : parseMethodDescriptor "(I)V" = some ⟨[.int], none⟩ := by decide +kernel
theorem pn_asi : plainFor (⟨"java/lang/AbstractStringBuilder", "<init>", "(I)V"⟩ : MethodName) = true := by decide +kernel
abbrev B_asi : Bx := ((⟨"java/lang/AbstractStringBuilder", "<init>", "(I)V"⟩ : MethodName), jdk_68_method_2_code, 2, (Option.none : Option Jvm.ClassFile.FieldType), ({ frames := 1, cells := 1, slots := 64, locals := 12 } : Room))
set_option maxRecDepth 65536 in
set_option maxHeartbeats 4000000 in
theorem asi_met {A : Ax} (K : Wd A) {sb : Addr} {k : Nat} (hk : k ≤ 64) {F G : List Ent} : Met A B_asi #[.ref sb, .int (nI k)] ((sb, ob_1 A .null (.int (0 : Int32)) (.int (0 : Int32)) (.int (0 : Int32))) :: F) G (fun v F' G' => v = none ∧ (∃ t, ((sb, ob_1 A (.ref t) (.int (0 : Int32)) (.int (0 : Int32)) (.int (0 : Int32))) :: (t, ArrP A .byte (latB (List.replicate k 0))) :: F) = F') ∧ G = G') := by
  refine MetW.of_go pn_asi K.ew (L := [.val (.ref sb), .val (.int (nI k))]) (fun m => rfl) ?_
  intro D _
  obtain ⟨z, nz, hz⟩ := K.cmpt
  refine Go.rn (B := B_asi) td_asi 0 1 (pc' := 1) (S' := [.ref sb]) rfl ?_
  refine Go.initObject (B := B_asi) td_asi 1 (W := 0) rfl (w_100 K) (w_17 K) (w_18 K) rfl (by decide) (Nat.le_of_eq rfl) (by decide) ?_
  refine Go.getstatic (B := B_asi) td_asi 2 rfl (w_101 K) hz ?_
  refine Go.if0 (B := B_asi) td_asi 3 (pc' := 25) rfl (by decide) rfl (fun (h : z = 0) => absurd h nz) (fun _ => ?_)
  refine Go.rn (B := B_asi) td_asi 4 2 (pc' := 12) (S' := [.int (nI k), .ref sb]) rfl ?_
  refine Go.newarray (B := B_asi) td_asi 6 (ty := .byte) (cap := 64) (vs := (latB (List.replicate k 0))) rfl rfl (w_24 K) (by rw [nI_toInt (by omega)]; omega) (by rw [nI_nat (by omega)]; exact hk) (by decide) (by decide) (by decide) (by rw [nI_nat (by omega)]; exact lat_rep k) ?_
  intro t
  show Go A B_asi D _ 14 _ [.ref t, .ref sb] _ _ 1 64
  refine Go.front 1 (F' := ((sb, ob_1 A .null (.int (0 : Int32)) (.int (0 : Int32)) (.int (0 : Int32))) :: (t, ArrP A .byte (latB (List.replicate k 0))) :: F)) rfl rfl ?_
  refine Go.putfield (B := B_asi) td_asi 7 (fs' := [("java/lang/AbstractStringBuilder", "value", "[B", .ref t), ("java/lang/AbstractStringBuilder", "coder", "B", .int (0 : Int32)), ("java/lang/AbstractStringBuilder", "maybeLatin1", "Z", .int (0 : Int32)), ("java/lang/AbstractStringBuilder", "count", "I", .int (0 : Int32))]) rfl (w_102 K) (Or.inl (w_103 K)) (w_65 K) rfl rfl rfl (mi 0 rfl) (own_fs 0 (ns := ["coder", "maybeLatin1", "count"]) rfl (by decide) rfl) ?_
  refine Go.rn (B := B_asi) td_asi 8 2 (pc' := 19) (S' := [.int (0 : Int32), .ref sb]) rfl ?_
  refine Go.putfield (B := B_asi) td_asi 10 (fs' := [("java/lang/AbstractStringBuilder", "value", "[B", .ref t), ("java/lang/AbstractStringBuilder", "coder", "B", .int (0 : Int32)), ("java/lang/AbstractStringBuilder", "maybeLatin1", "Z", .int (0 : Int32)), ("java/lang/AbstractStringBuilder", "count", "I", .int (0 : Int32))]) rfl (w_104 K) (Or.inl (w_105 K)) (w_65 K) rfl rfl rfl (mi 1 rfl) (own_fs 1 (ns := ["value", "maybeLatin1", "count"]) rfl (by decide) rfl) ?_
  refine Go.rn (B := B_asi) td_asi 11 1 (pc' := 38) (S' := []) rfl ?_
  exact Go.retV (B := B_asi) td_asi 19 rfl rfl ⟨rfl, ⟨t, rfl⟩, rfl⟩ (by decide) (by decide)
def tb_sbi : List In1 := [(0, .aload_n 0, 1), (1, .iload_n 1, 1), (2, .invokespecial 1, 3), (5, .return_, 1)]
set_option maxRecDepth 65536 in
theorem td_sbi : Dec jdk_67_method_2_code tb_sbi := by unfold Dec; decide +kernel
theorem pd_sbi : parseMethodDescriptor "(I)V" = some ⟨[.int], none⟩ := by decide +kernel
theorem pn_sbi : plainFor (⟨"java/lang/StringBuilder", "<init>", "(I)V"⟩ : MethodName) = true := by decide +kernel
abbrev B_sbi : Bx := ((⟨"java/lang/StringBuilder", "<init>", "(I)V"⟩ : MethodName), jdk_67_method_2_code, 2, (Option.none : Option Jvm.ClassFile.FieldType), ({ frames := 2, cells := 1, slots := 64, locals := 25 } : Room))
set_option maxRecDepth 65536 in
set_option maxHeartbeats 4000000 in
theorem sbi_met {A : Ax} (K : Wd A) {sb : Addr} {k : Nat} (hk : k ≤ 64) {F G : List Ent} : Met A B_sbi #[.ref sb, .int (nI k)] ((sb, ob_1 A .null (.int (0 : Int32)) (.int (0 : Int32)) (.int (0 : Int32))) :: F) G (fun v F' G' => v = none ∧ (∃ t, ((sb, ob_1 A (.ref t) (.int (0 : Int32)) (.int (0 : Int32)) (.int (0 : Int32))) :: (t, ArrP A .byte (latB (List.replicate k 0))) :: F) = F') ∧ G = G') := by
  refine MetW.of_go pn_sbi K.ew (L := [.val (.ref sb), .val (.int (nI k))]) (fun m => rfl) ?_
  intro D _
  refine Go.rn (B := B_sbi) td_sbi 0 2 (pc' := 2) (S' := [.int (nI k), .ref sb]) rfl ?_
  refine Go.callN (B := B_sbi) td_sbi 2 (B' := B_asi) (a := sb) (argsL := [.int (nI k)]) (rest := []) (W := 0) rfl (asi_met K hk) rfl rfl (w_94 K) (w_95 K) (w_98 K) (w_99 K) (by decide) pd_asi rfl rfl rfl rfl (Nat.le_of_eq rfl) (by decide) (by decide) (by decide) (by decide) ?_
  rintro _ _ _ ⟨rfl, ⟨t, rfl⟩, rfl⟩
  show Go A B_sbi D _ 5 _ [] ((sb, ob_1 A (.ref t) (.int (0 : Int32)) (.int (0 : Int32)) (.int (0 : Int32))) :: (t, ArrP A .byte (latB (List.replicate k 0))) :: F) _ 1 64
  exact Go.retV (B := B_sbi) td_sbi 3 rfl rfl ⟨rfl, ⟨t, rfl⟩, rfl⟩ (by decide) (by decide)
def tb_gva : List In1 := [(0, .aload_n 0, 1), (1, .getfield 15, 3), (4, .areturn, 1)]
set_option maxRecDepth 65536 in
theorem td_gva : Dec jdk_68_method_64_code tb_gva := by unfold Dec; decide +kernel
theorem pd_gva : parseMethodDescriptor "()[B" = some ⟨[], (some (.array .byte))⟩ := by decide +kernel
theorem pn_gva : plainFor (⟨"java/lang/AbstractStringBuilder", "getValue", "()[B"⟩ : MethodName) = true := by decide +kernel
abbrev B_gva : Bx := ((⟨"java/lang/AbstractStringBuilder", "getValue", "()[B"⟩ : MethodName), jdk_68_method_64_code, 1, (Option.some (Jvm.ClassFile.FieldType.array Jvm.ClassFile.FieldType.byte)), ({ frames := 0, cells := 0, slots := 0, locals := 0 } : Room))
set_option maxRecDepth 65536 in
set_option maxHeartbeats 4000000 in
theorem gvaL_met {A : Ax} (K : Wd A) {sb t : Addr} {n : Int32} {F G : List Ent} : Met A B_gva #[.ref sb] ((sb, ob_1 A (.ref t) (.int (0 : Int32)) (.int (0 : Int32)) (.int n)) :: F) G (fun v F' G' => v = some (.ref t) ∧ ((sb, ob_1 A (.ref t) (.int (0 : Int32)) (.int (0 : Int32)) (.int n)) :: F) = F' ∧ G = G') := by
  refine MetW.of_go pn_gva K.ew (L := [.val (.ref sb)]) (fun m => rfl) ?_
  intro D _
  refine Go.rn (B := B_gva) td_gva 0 1 (pc' := 1) (S' := [.ref sb]) rfl ?_
  refine Go.getfield (B := B_gva) td_gva 1 rfl (w_102 K) (Or.inl (mi 0 rfl)) (mi 0 rfl) ?_
  exact Go.retA (B := B_gva) td_gva 2 rfl rfl rfl rfl ⟨rfl, rfl, rfl⟩ (by decide) (by decide)
set_option maxRecDepth 65536 in
set_option maxHeartbeats 4000000 in
theorem gvaU_met {A : Ax} (K : Wd A) {sb t : Addr} {n : Int32} {F G : List Ent} : Met A B_gva #[.ref sb] ((sb, ob_1 A (.ref t) (.int (1 : Int32)) (.int (0 : Int32)) (.int n)) :: F) G (fun v F' G' => v = some (.ref t) ∧ ((sb, ob_1 A (.ref t) (.int (1 : Int32)) (.int (0 : Int32)) (.int n)) :: F) = F' ∧ G = G') := by
  refine MetW.of_go pn_gva K.ew (L := [.val (.ref sb)]) (fun m => rfl) ?_
  intro D _
  refine Go.rn (B := B_gva) td_gva 0 1 (pc' := 1) (S' := [.ref sb]) rfl ?_
  refine Go.getfield (B := B_gva) td_gva 1 rfl (w_102 K) (Or.inl (mi 0 rfl)) (mi 0 rfl) ?_
  exact Go.retA (B := B_gva) td_gva 2 rfl rfl rfl rfl ⟨rfl, rfl, rfl⟩ (by decide) (by decide)
def tb_asl : List In1 := [(0, .aload_n 0, 1), (1, .getfield 79, 3), (4, .ireturn, 1)]
set_option maxRecDepth 65536 in
theorem td_asl : Dec jdk_68_method_6_code tb_asl := by unfold Dec; decide +kernel
theorem pd_asl : parseMethodDescriptor "()I" = some ⟨[], (some .int)⟩ := by decide +kernel
theorem pn_asl : plainFor (⟨"java/lang/AbstractStringBuilder", "length", "()I"⟩ : MethodName) = true := by decide +kernel
abbrev B_asl : Bx := ((⟨"java/lang/AbstractStringBuilder", "length", "()I"⟩ : MethodName), jdk_68_method_6_code, 1, (Option.some Jvm.ClassFile.FieldType.int), ({ frames := 0, cells := 0, slots := 0, locals := 0 } : Room))
set_option maxRecDepth 65536 in
set_option maxHeartbeats 4000000 in
theorem aslL_met {A : Ax} (K : Wd A) {sb t : Addr} {n : Int32} {F G : List Ent} : Met A B_asl #[.ref sb] ((sb, ob_1 A (.ref t) (.int (0 : Int32)) (.int (0 : Int32)) (.int n)) :: F) G (fun v F' G' => v = some (.int n) ∧ ((sb, ob_1 A (.ref t) (.int (0 : Int32)) (.int (0 : Int32)) (.int n)) :: F) = F' ∧ G = G') := by
  refine MetW.of_go pn_asl K.ew (L := [.val (.ref sb)]) (fun m => rfl) ?_
  intro D _
  refine Go.rn (B := B_asl) td_asl 0 1 (pc' := 1) (S' := [.ref sb]) rfl ?_
  refine Go.getfield (B := B_asl) td_asl 1 rfl (w_179 K) (Or.inl (mi 0 rfl)) (mi 3 rfl) ?_
  exact Go.retI (B := B_asl) td_asl 2 rfl rfl ⟨rfl, rfl, rfl⟩ (by decide) (by decide)
set_option maxRecDepth 65536 in
set_option maxHeartbeats 4000000 in
theorem aslU_met {A : Ax} (K : Wd A) {sb t : Addr} {n : Int32} {F G : List Ent} : Met A B_asl #[.ref sb] ((sb, ob_1 A (.ref t) (.int (1 : Int32)) (.int (0 : Int32)) (.int n)) :: F) G (fun v F' G' => v = some (.int n) ∧ ((sb, ob_1 A (.ref t) (.int (1 : Int32)) (.int (0 : Int32)) (.int n)) :: F) = F' ∧ G = G') := by
  refine MetW.of_go pn_asl K.ew (L := [.val (.ref sb)]) (fun m => rfl) ?_
  intro D _
  refine Go.rn (B := B_asl) td_asl 0 1 (pc' := 1) (S' := [.ref sb]) rfl ?_
  refine Go.getfield (B := B_asl) td_asl 1 rfl (w_179 K) (Or.inl (mi 0 rfl)) (mi 3 rfl) ?_
  exact Go.retI (B := B_asl) td_asl 2 rfl rfl ⟨rfl, rfl, rfl⟩ (by decide) (by decide)
def tb_sbl : List In1 := [(0, .aload_n 0, 1), (1, .invokespecial 343, 3), (4, .ireturn, 1)]
set_option maxRecDepth 65536 in
theorem td_sbl : Dec jdk_67_method_93_code tb_sbl := by unfold Dec; decide +kernel
theorem pd_sbl : parseMethodDescriptor "()I" = some ⟨[], (some .int)⟩ := by decide +kernel
theorem pn_sbl : plainFor (⟨"java/lang/StringBuilder", "length", "()I"⟩ : MethodName) = true := by decide +kernel
abbrev B_sbl : Bx := ((⟨"java/lang/StringBuilder", "length", "()I"⟩ : MethodName), jdk_67_method_93_code, 1, (Option.some Jvm.ClassFile.FieldType.int), ({ frames := 1, cells := 0, slots := 0, locals := 12 } : Room))
set_option maxRecDepth 65536 in
set_option maxHeartbeats 4000000 in
theorem sblL_met {A : Ax} (K : Wd A) {sb t : Addr} {n : Int32} {F G : List Ent} : Met A B_sbl #[.ref sb] ((sb, ob_1 A (.ref t) (.int (0 : Int32)) (.int (0 : Int32)) (.int n)) :: F) G (fun v F' G' => v = some (.int n) ∧ ((sb, ob_1 A (.ref t) (.int (0 : Int32)) (.int (0 : Int32)) (.int n)) :: F) = F' ∧ G = G') := by
  refine MetW.of_go pn_sbl K.ew (L := [.val (.ref sb)]) (fun m => rfl) ?_
  intro D _
  refine Go.rn (B := B_sbl) td_sbl 0 1 (pc' := 1) (S' := [.ref sb]) rfl ?_
  refine Go.callSup (B := B_sbl) td_sbl 1 (B' := B_asl) (C := "java/lang/StringBuilder") (a := sb) (argsL := []) (rest := []) (W := 0) rfl (aslL_met K) (Or.inl (mi 0 rfl)) (fun c P => P.1) (w_253 K) (w_249 K) (w_175 K) (own_sel0 (w_184 K)) rfl (by decide) (w_98 K) (w_254 K) (by decide) pd_asl rfl rfl rfl rfl (Nat.le_of_eq rfl) (by decide) (by decide) (by decide) (by decide) ?_
  rintro _ _ _ ⟨rfl, rfl, rfl⟩
  show Go A B_sbl D _ 4 _ [.int n] _ _ 0 0
  exact Go.retI (B := B_sbl) td_sbl 2 rfl rfl ⟨rfl, rfl, rfl⟩ (by decide) (by decide)
set_option maxRecDepth 65536 in
set_option maxHeartbeats 4000000 in
theorem sblU_met {A : Ax} (K : Wd A) {sb t : Addr} {n : Int32} {F G : List Ent} : Met A B_sbl #[.ref sb] ((sb, ob_1 A (.ref t) (.int (1 : Int32)) (.int (0 : Int32)) (.int n)) :: F) G (fun v F' G' => v = some (.int n) ∧ ((sb, ob_1 A (.ref t) (.int (1 : Int32)) (.int (0 : Int32)) (.int n)) :: F) = F' ∧ G = G') := by
  refine MetW.of_go pn_sbl K.ew (L := [.val (.ref sb)]) (fun m => rfl) ?_
  intro D _
  refine Go.rn (B := B_sbl) td_sbl 0 1 (pc' := 1) (S' := [.ref sb]) rfl ?_
  refine Go.callSup (B := B_sbl) td_sbl 1 (B' := B_asl) (C := "java/lang/StringBuilder") (a := sb) (argsL := []) (rest := []) (W := 0) rfl (aslU_met K) (Or.inl (mi 0 rfl)) (fun c P => P.1) (w_253 K) (w_249 K) (w_175 K) (own_sel0 (w_184 K)) rfl (by decide) (w_98 K) (w_254 K) (by decide) pd_asl rfl rfl rfl rfl (Nat.le_of_eq rfl) (by decide) (by decide) (by decide) (by decide) ?_
  rintro _ _ _ ⟨rfl, rfl, rfl⟩
  show Go A B_sbl D _ 4 _ [.int n] _ _ 0 0
  exact Go.retI (B := B_sbl) td_sbl 2 rfl rfl ⟨rfl, rfl, rfl⟩ (by decide) (by decide)
def tb_ckl : List In1 := [(0, .iload_n 1, 1), (1, .iload_n 0, 1), (2, .if_icmp .ge 35, 3), (5, .new 43, 3), (8, .dup, 1), (9, .new 45, 3), (12, .dup, 1), (13, .invokespecial 47, 3), (16, .iload_n 0, 1), (17, .invokevirtual 54, 3), (20, .ldc_w 337, 3), (23, .invokevirtual 50, 3), (26, .iload_n 1, 1), (27, .invokevirtual 54, 3), (30, .invokevirtual 61, 3), (33, .invokespecial 65, 3), (36, .athrow, 1), (37, .return_, 1)]
set_option maxRecDepth 65536 in
theorem td_ckl : Dec jdk_65_method_131_code tb_ckl := by unfold Dec; decide +kernel
theorem pd_ckl : parseMethodDescriptor "(II)V" = some ⟨[.int, .int], none⟩ := by decide +kernel
theorem pn_ckl : plainFor (⟨"java/util/Arrays", "checkLength", "(II)V"⟩ : MethodName) = true := by decide +kernel
abbrev B_ckl : Bx := ((⟨"java/util/Arrays", "checkLength", "(II)V"⟩ : MethodName), jdk_65_method_131_code, 2, (Option.none : Option Jvm.ClassFile.FieldType), ({ frames := 0, cells := 0, slots := 0, locals := 0 } : Room))
set_option maxRecDepth 65536 in
set_option maxHeartbeats 4000000 in
theorem ckl_met {A : Ax} (K : Wd A) {n : Nat} (hn : n ≤ 128) {F G : List Ent} : Met A B_ckl #[.int (0 : Int32), .int (nI n)] F G (fun v F' G' => v = none ∧ F = F' ∧ G = G') := by
  refine MetW.of_go pn_ckl K.ew (L := [.val (.int (0 : Int32)), .val (.int (nI n))]) (fun m => rfl) ?_
  intro D _
  refine Go.rn (B := B_ckl) td_ckl 0 2 (pc' := 2) (S' := [.int (0 : Int32), .int (nI n)]) rfl ?_
  refine Go.icmp (B := B_ckl) td_ckl 2 (pc' := 37) rfl (by decide) rfl (fun _ => ?_) (fun (h : ¬ ((nI n) ≥ (0 : Int32))) => absurd (i32_le.mpr (by rw [nI_toInt (by omega)]; have : (0 : Int32).toInt = 0 := rfl; omega)) h)
  exact Go.retV (B := B_ckl) td_ckl 17 rfl rfl ⟨rfl, rfl, rfl⟩ (by decide) (by decide)
def tb_crb : List In1 := [(0, .iload_n 1, 1), (1, .iload_n 2, 1), (2, .invokestatic 343, 3), (5, .iload_n 2, 1), (6, .iload_n 1, 1), (7, .isub, 1), (8, .istore_n 3, 1), (9, .iload_n 3, 1), (10, .newarray .byte, 2), (12, .astore 4, 2), (14, .aload_n 0, 1), (15, .iload_n 1, 1), (16, .aload 4, 2), (18, .iconst 0, 1), (19, .aload_n 0, 1), (20, .arraylength, 1), (21, .iload_n 1, 1), (22, .isub, 1), (23, .iload_n 3, 1), (24, .invokestatic 304, 3), (27, .invokestatic 150, 3), (30, .aload 4, 2), (32, .areturn, 1)]
set_option maxRecDepth 65536 in
theorem td_crb : Dec jdk_65_method_133_code tb_crb := by unfold Dec; decide +kernel
theorem pd_crb : parseMethodDescriptor "([BII)[B" = some ⟨[(.array .byte), .int, .int], (some (.array .byte))⟩ := by decide +kernel
theorem pn_crb : plainFor (⟨"java/util/Arrays", "copyOfRangeByte", "([BII)[B"⟩ : MethodName) = true := by decide +kernel
abbrev B_crb : Bx := ((⟨"java/util/Arrays", "copyOfRangeByte", "([BII)[B"⟩ : MethodName), jdk_65_method_133_code, 5, (Option.some (Jvm.ClassFile.FieldType.array Jvm.ClassFile.FieldType.byte)), ({ frames := 1, cells := 1, slots := 128, locals := 32 } : Room))
set_option maxRecDepth 65536 in
set_option maxHeartbeats 4000000 in
theorem crb_met {A : Ax} (K : Wd A) {t : Addr} {vs : List Value} {n : Nat} (h1 : n ≤ vs.length) (h2 : vs.length ≤ 128) (hf : FitsL .byte vs) {F G : List Ent} (m : (t, ArrP A .byte vs) ∈ F ∨ (t, ArrP A .byte vs) ∈ G) : Met A B_crb #[.ref t, .int (0 : Int32), .int (nI n)] F G (fun v F' G' => ∃ b, v = some (.ref b) ∧ (b, ArrP A .byte (vs.take n)) :: F = F' ∧ G = G') := by
  refine MetW.of_go pn_crb K.ew (L := [.val (.ref t), .val (.int (0 : Int32)), .val (.int (nI n)), .unset, .unset]) (fun m => rfl) ?_
  intro D _
  refine Go.rn (B := B_crb) td_crb 0 2 (pc' := 2) (S' := [.int (nI n), .int (0 : Int32)]) rfl ?_
  refine Go.callS (B := B_crb) td_crb 2 (B' := B_ckl) (argsL := [.int (0 : Int32), .int (nI n)]) (rest := []) (W := 0) rfl (ckl_met K (by omega)) (w_266 K) (w_267 K) (w_203 K) (w_268 K) (by decide) pd_ckl rfl rfl rfl rfl (Nat.le_of_eq rfl) (by decide) (by decide) (by decide) (by decide) ?_
  rintro _ _ _ ⟨rfl, rfl, rfl⟩
  show Go A B_crb D _ 5 _ [] _ _ 0 0
  refine Go.rn (B := B_crb) td_crb 3 3 (pc' := 8) (S' := [.int ((nI n) - (0 : Int32))]) rfl ?_
  rw [Int32.sub_zero]
  refine Go.run (B := B_crb) td_crb 6 2 (pc' := 10) (L' := [.val (.ref t), .val (.int (0 : Int32)), .val (.int (nI n)), .val (.int (nI n)), .unset]) (S' := [.int (nI n)]) rfl ?_
  refine Go.newarray (B := B_crb) td_crb 8 (ty := .byte) (cap := 128) (vs := (List.replicate n (.int 0))) rfl rfl (w_24 K) (by rw [nI_toInt (by omega)]; omega) (by rw [nI_nat (by omega)]; omega) (by decide) (by decide) (by decide) (by rw [nI_nat (by omega)]; rfl) ?_
  intro b
  show Go A B_crb D _ 12 _ [.ref b] _ _ 1 128
  refine Go.run (B := B_crb) td_crb 9 6 (pc' := 20) (L' := [.val (.ref t), .val (.int (0 : Int32)), .val (.int (nI n)), .val (.int (nI n)), .val (.ref b)]) (S' := [.ref t, .int (0 : Int32), .ref b, .int (0 : Int32), .ref t]) rfl ?_
  refine Go.arraylength (B := B_crb) td_crb 15 (z := (nI vs.length)) rfl (m.imp (List.mem_cons_of_mem _) id) (by rw [nI_toInt (by omega)]) ?_
  refine Go.rn (B := B_crb) td_crb 16 2 (pc' := 23) (S' := [.int ((nI vs.length) - (0 : Int32)), .int (0 : Int32), .ref b, .int (0 : Int32), .ref t]) rfl ?_
  rw [Int32.sub_zero]
  refine Go.rn (B := B_crb) td_crb 18 1 (pc' := 24) (S' := [.int (nI n), .int (nI vs.length), .int (0 : Int32), .ref b, .int (0 : Int32), .ref t]) rfl ?_
  by_cases hlt : n < vs.length
  · refine Go.callS (B := B_crb) td_crb 19 (B' := B_mn) (argsL := [.int (nI vs.length), .int (nI n)]) (rest := [.int (0 : Int32), .ref b, .int (0 : Int32), .ref t]) (W := 4) rfl (mn_met K (r := nI n) (if_pos ((nI_lt (by omega) (by omega)).mpr hlt))) (w_205 K) (w_206 K) (w_197 K) (w_207 K) (by decide) pd_mn rfl rfl rfl rfl (Nat.le_of_eq rfl) (by decide) (by decide) (by decide) (by decide) ?_
    rintro _ _ _ ⟨rfl, rfl, rfl⟩
    show Go A B_crb D _ 27 _ [.int (nI n), .int (0 : Int32), .ref b, .int (0 : Int32), .ref t] _ _ 1 128
    have e0 : (0 : Int32).toInt.toNat = 0 := by decide
    have ei : (0 : Int32).toInt = 0 := by decide
    have fn : (nI n).toInt.toNat = n := nI_nat (by omega)
    have ft : (nI n).toInt = n := nI_toInt (by omega)
    refine Go.copy (B := B_crb) td_crb 20 (vd' := (vs.take n)) (W := 0) rfl rfl (w_208 K) (w_211 K) (w_209 K) (w_210 K) (m.imp (List.mem_cons_of_mem _) id) (by omega) (by rw [List.length_replicate]; omega) hf (fits_zero _) (by omega) (by omega) (by omega) (by omega) (by rw [List.length_replicate]; omega) (by rw [e0, fn, List.drop_zero, List.take_zero, List.nil_append, Nat.zero_add, List.drop_replicate, Nat.sub_self, List.replicate_zero, List.append_nil]) rfl (Nat.le_of_eq rfl) (by decide) (by decide) ?_
    refine Go.rn (B := B_crb) td_crb 21 1 (pc' := 32) (S' := [.ref b]) rfl ?_
    exact Go.retA (B := B_crb) td_crb 22 rfl rfl rfl rfl ⟨b, rfl, rfl, rfl⟩ (by decide) (by decide)
  · refine Go.callS (B := B_crb) td_crb 19 (B' := B_mn) (argsL := [.int (nI vs.length), .int (nI n)]) (rest := [.int (0 : Int32), .ref b, .int (0 : Int32), .ref t]) (W := 4) rfl (mn_met K (r := nI n) (by rw [if_neg (fun z => hlt ((nI_lt (by omega) (by omega)).mp z)), show vs.length = n by omega])) (w_205 K) (w_206 K) (w_197 K) (w_207 K) (by decide) pd_mn rfl rfl rfl rfl (Nat.le_of_eq rfl) (by decide) (by decide) (by decide) (by decide) ?_
    rintro _ _ _ ⟨rfl, rfl, rfl⟩
    show Go A B_crb D _ 27 _ [.int (nI n), .int (0 : Int32), .ref b, .int (0 : Int32), .ref t] _ _ 1 128
    have e0 : (0 : Int32).toInt.toNat = 0 := by decide
    have ei : (0 : Int32).toInt = 0 := by decide
    have fn : (nI n).toInt.toNat = n := nI_nat (by omega)
    have ft : (nI n).toInt = n := nI_toInt (by omega)
    refine Go.copy (B := B_crb) td_crb 20 (vd' := (vs.take n)) (W := 0) rfl rfl (w_208 K) (w_211 K) (w_209 K) (w_210 K) (m.imp (List.mem_cons_of_mem _) id) (by omega) (by rw [List.length_replicate]; omega) hf (fits_zero _) (by omega) (by omega) (by omega) (by omega) (by rw [List.length_replicate]; omega) (by rw [e0, fn, List.drop_zero, List.take_zero, List.nil_append, Nat.zero_add, List.drop_replicate, Nat.sub_self, List.replicate_zero, List.append_nil]) rfl (Nat.le_of_eq rfl) (by decide) (by decide) ?_
    refine Go.rn (B := B_crb) td_crb 21 1 (pc' := 32) (S' := [.ref b]) rfl ?_
    exact Go.retA (B := B_crb) td_crb 22 rfl rfl rfl rfl ⟨b, rfl, rfl, rfl⟩ (by decide) (by decide)
def tb_cor : List In1 := [(0, .iload_n 1, 1), (1, .ifCond .ne 9, 3), (4, .iload_n 2, 1), (5, .aload_n 0, 1), (6, .arraylength, 1), (7, .if_icmp .eq 10, 3), (10, .aload_n 0, 1), (11, .iload_n 1, 1), (12, .iload_n 2, 1), (13, .invokestatic 339, 3), (16, .areturn, 1), (17, .aload_n 0, 1), (18, .invokevirtual 310, 3), (21, .checkcast 311, 3), (24, .areturn, 1)]
set_option maxRecDepth 65536 in
theorem td_cor : Dec jdk_65_method_132_code tb_cor := by unfold Dec; decide +kernel
theorem pd_cor : parseMethodDescriptor "([BII)[B" = some ⟨[(.array .byte), .int, .int], (some (.array .byte))⟩ := by decide +kernel
theorem pn_cor : plainFor (⟨"java/util/Arrays", "copyOfRange", "([BII)[B"⟩ : MethodName) = true := by decide +kernel
abbrev B_cor : Bx := ((⟨"java/util/Arrays", "copyOfRange", "([BII)[B"⟩ : MethodName), jdk_65_method_132_code, 3, (Option.some (Jvm.ClassFile.FieldType.array Jvm.ClassFile.FieldType.byte)), ({ frames := 2, cells := 1, slots := 128, locals := 48 } : Room))
set_option maxRecDepth 65536 in
set_option maxHeartbeats 4000000 in
theorem cor_met {A : Ax} (K : Wd A) {t : Addr} {vs : List Value} {n : Nat} (h1 : n ≤ vs.length) (h2 : vs.length ≤ 128) (hf : FitsL .byte vs) {F G : List Ent} (m : (t, ArrP A .byte vs) ∈ F ∨ (t, ArrP A .byte vs) ∈ G) : Met A B_cor #[.ref t, .int (0 : Int32), .int (nI n)] F G (fun v F' G' => ∃ b, v = some (.ref b) ∧ (b, ArrP A .byte (vs.take n)) :: F = F' ∧ G = G') := by
  refine MetW.of_go pn_cor K.ew (L := [.val (.ref t), .val (.int (0 : Int32)), .val (.int (nI n))]) (fun m => rfl) ?_
  intro D _
  refine Go.rn (B := B_cor) td_cor 0 1 (pc' := 1) (S' := [.int (0 : Int32)]) rfl ?_
  refine Go.if0 (B := B_cor) td_cor 1 (pc' := 10) rfl (by decide) rfl (fun (h : (0 : Int32) ≠ 0) => absurd h (fun z => z rfl)) (fun _ => ?_)
  refine Go.rn (B := B_cor) td_cor 2 2 (pc' := 6) (S' := [.ref t, .int (nI n)]) rfl ?_
  refine Go.arraylength (B := B_cor) td_cor 4 (z := (nI vs.length)) rfl m (by rw [nI_toInt (by omega)]) ?_
  by_cases he : n = vs.length
  · refine Go.icmp (B := B_cor) td_cor 5 (pc' := 17) rfl (by decide) rfl (fun _ => ?_) (fun (h : ¬ ((nI n) = (nI vs.length))) => absurd (by rw [he]) h)
    refine Go.rn (B := B_cor) td_cor 11 1 (pc' := 18) (S' := [.ref t]) rfl ?_
    refine Go.clone (B := B_cor) td_cor 12 (W := 0) (cap := 128) rfl (w_438 K) (w_439 K) (w_443 K) (w_441 K) (w_442 K) (w_444 K) m (fun c P => ⟨P, P.2.1.2 rfl⟩) hf rfl (Nat.le_of_eq rfl) (by decide) (by decide) h2 (by decide) (by decide) ?_
    intro b
    show Go A B_cor D _ 21 [.val (.ref t), .val (.int (0 : Int32)), .val (.int (nI n))] [.ref b] ((b, ArkP A .byte "[B" vs) :: F) G 1 128
    refine Go.castUp (B := B_cor) td_cor 13 (C := "[B") rfl (w_445 K) (Or.inl (mi 0 rfl)) (fun c P => P.2) (w_446 K) ?_
    refine Go.weak (fun c P => P.1) ?_
    exact Go.retA (B := B_cor) td_cor 14 rfl rfl rfl rfl ⟨b, rfl, by rw [he, List.take_length], rfl⟩ (by decide) (by decide)
  refine Go.icmp (B := B_cor) td_cor 5 (pc' := 17) rfl (by decide) rfl (fun (h : (nI n) = (nI vs.length)) => absurd h (nI_ne (by omega) (by omega) he)) (fun _ => ?_)
  refine Go.rn (B := B_cor) td_cor 6 3 (pc' := 13) (S' := [.int (nI n), .int (0 : Int32), .ref t]) rfl ?_
  refine Go.callS (B := B_cor) td_cor 9 (B' := B_crb) (argsL := [.ref t, .int (0 : Int32), .int (nI n)]) (rest := []) (W := 0) rfl (crb_met K h1 h2 hf m) (w_263 K) (w_264 K) (w_203 K) (w_265 K) (by decide) pd_crb rfl rfl rfl rfl (Nat.le_of_eq rfl) (by decide) (by decide) (by decide) (by decide) ?_
  rintro _ _ _ ⟨b, rfl, rfl, rfl⟩
  show Go A B_cor D _ 16 _ [.ref b] ((b, ArrP A .byte (vs.take n)) :: F) _ 1 128
  exact Go.retA (B := B_cor) td_cor 10 rfl rfl rfl rfl ⟨b, rfl, rfl, rfl⟩ (by decide) (by decide)
def tb_sia : List In1 := [(0, .aload_n 0, 1), (1, .invokespecial 1, 3), (4, .aload_n 1, 1), (5, .invokevirtual 552, 3), (8, .astore_n 3, 1), (9, .aload_n 1, 1), (10, .invokevirtual 549, 3), (13, .istore 4, 2), (15, .aload_n 1, 1), (16, .invokevirtual 1047, 3), (19, .ifCond .eq 22, 3), (22, .aload_n 0, 1), (23, .iconst 0, 1), (24, .putfield 15, 3), (27, .aload_n 0, 1), (28, .aload_n 3, 1), (29, .iconst 0, 1), (30, .iload 4, 2), (32, .invokestatic 54, 3), (35, .putfield 9, 3), (38, .goto 59, 3), (41, .getstatic 38, 3), (44, .ifCond .eq 35, 3), (47, .aload_n 1, 1), (48, .getfield 1048, 3), (51, .ifCond .eq 28, 3), (54, .aload_n 0, 1), (55, .aload_n 3, 1), (56, .iconst 0, 1), (57, .iload 4, 2), (59, .invokestatic 1051, 3), (62, .putfield 9, 3), (65, .aload_n 0, 1), (66, .aload_n 0, 1), (67, .getfield 9, 3), (70, .iload 4, 2), (72, .invokestatic 47, 3), (75, .putfield 15, 3), (78, .return_, 1), (79, .aload_n 0, 1), (80, .iconst 1, 1), (81, .putfield 15, 3), (84, .aload_n 0, 1), (85, .aload_n 3, 1), (86, .iconst 0, 1), (87, .iload 4, 2), (89, .iconst 1, 1), (90, .ishl, 1), (91, .invokestatic 54, 3), (94, .putfield 9, 3), (97, .return_, 1)]
set_option maxRecDepth 65536 in
theorem td_sia : Dec jdk_42_method_150_code tb_sia := by unfold Dec; decide +kernel
theorem pd_sia : parseMethodDescriptor "(Ljava/lang/AbstractStringBuilder;Ljava/lang/Void;)V" = some ⟨[(.object "java/lang/AbstractStringBuilder"), (.object "java/lang/Void")], none⟩ := by decide +kernel
theorem pn_sia : plainFor (⟨"java/lang/String", "<init>", "(Ljava/lang/AbstractStringBuilder;Ljava/lang/Void;)V"⟩ : MethodName) = true := by decide +kernel
abbrev B_sia : Bx := ((⟨"java/lang/String", "<init>", "(Ljava/lang/AbstractStringBuilder;Ljava/lang/Void;)V"⟩ : MethodName), jdk_42_method_150_code, 5, (Option.none : Option Jvm.ClassFile.FieldType), ({ frames := 3, cells := 1, slots := 128, locals := 63 } : Room))
set_option maxRecDepth 65536 in
set_option maxHeartbeats 4000000 in
theorem siaL_met {A : Ax} (K : Wd A) {s sb t : Addr} {cs pad : List Int32} (hx : cs.length + pad.length ≤ 64) {F G : List Ent} : Met A B_sia #[.ref s, .ref sb, .null] ((s, ob_0 A .null (.int (0 : Int32))) :: (sb, ob_1 A (.ref t) (.int (0 : Int32)) (.int (0 : Int32)) (.int (nI cs.length))) :: (t, ArrP A .byte (latB (cs ++ pad))) :: F) G (fun v F' G' => v = none ∧ ((sb, ob_1 A (.ref t) (.int (0 : Int32)) (.int (0 : Int32)) (.int (nI cs.length))) :: (t, ArrP A .byte (latB (cs ++ pad))) :: F) = F' ∧ ∃ b, StrE A s b 0 :: BytE A b (latB cs) :: G = G') := by
  refine MetW.of_go pn_sia K.ew (L := [.val (.ref s), .val (.ref sb), .val (.null), .unset, .unset]) (fun m => rfl) ?_
  intro D _
  have hll : (cs ++ pad).length = cs.length + pad.length := List.length_append
  refine Go.rn (B := B_sia) td_sia 0 1 (pc' := 1) (S' := [.ref s]) rfl ?_
  refine Go.initObject (B := B_sia) td_sia 1 (W := 0) rfl (w_16 K) (w_17 K) (w_18 K) rfl (by decide) (Nat.le_of_eq rfl) (by decide) ?_
  refine Go.rn (B := B_sia) td_sia 2 1 (pc' := 5) (S' := [.ref sb]) rfl ?_
  refine Go.front 1 (F' := ((sb, ob_1 A (.ref t) (.int (0 : Int32)) (.int (0 : Int32)) (.int (nI cs.length))) :: (s, ob_0 A .null (.int (0 : Int32))) :: (t, ArrP A .byte (latB (cs ++ pad))) :: F)) rfl rfl ?_
  refine Go.perm (F' := ((sb, ob_1 A (.ref t) (.int (0 : Int32)) (.int (0 : Int32)) (.int (nI cs.length))) :: (t, ArrP A .byte (latB (cs ++ pad))) :: (s, ob_0 A .null (.int (0 : Int32))) :: F)) (List.Perm.cons _ (List.Perm.swap _ _ _)) ?_
  refine Go.callV (B := B_sia) td_sia 3 (B' := B_gva) (C := "java/lang/StringBuilder") (a := sb) (argsL := []) (rest := []) (W := 0) rfl (gvaL_met K) (Or.inl (mi 0 rfl)) (fun c P => P.1) (w_242 K) (w_243 K) (w_244 K) (w_245 K) (w_245 K) (w_98 K) (w_246 K) (by decide) pd_gva rfl rfl rfl rfl (Nat.le_of_eq rfl) (by decide) (by decide) (by decide) (by decide) ?_
  rintro _ _ _ ⟨rfl, rfl, rfl⟩
  show Go A B_sia D _ 8 _ [.ref t] _ _ 0 0
  refine Go.run (B := B_sia) td_sia 4 2 (pc' := 10) (L' := [.val (.ref s), .val (.ref sb), .val (.null), .val (.ref t), .unset]) (S' := [.ref sb]) rfl ?_
  refine Go.callVZ (B := B_sia) td_sia 6 (B' := B_sbl) (C := "java/lang/StringBuilder") (a := sb) (argsL := []) (rest := []) (W := 0) rfl (sblL_met K) (Or.inl (mi 0 rfl)) (fun c P => P.1) (w_247 K) (w_248 K) (w_251 K) (w_250 K) (w_184 K) rfl (w_66 K) (w_252 K) (by decide) pd_sbl rfl rfl rfl rfl (Nat.le_of_eq rfl) (by decide) (by decide) (by decide) (by decide) ?_
  rintro _ _ _ ⟨rfl, rfl, rfl⟩
  show Go A B_sia D _ 13 _ [.int (nI cs.length)] _ _ 0 0
  refine Go.run (B := B_sia) td_sia 7 2 (pc' := 16) (L' := [.val (.ref s), .val (.ref sb), .val (.null), .val (.ref t), .val (.int (nI cs.length))]) (S' := [.ref sb]) rfl ?_
  refine Go.callV (B := B_sia) td_sia 9 (B' := B_as1) (C := "java/lang/StringBuilder") (a := sb) (argsL := []) (rest := []) (W := 0) rfl (as1L_met K) (Or.inl (mi 0 rfl)) (fun c P => P.1) (w_255 K) (w_256 K) (w_257 K) (w_258 K) (w_258 K) (w_98 K) (w_259 K) (by decide) pd_as1 rfl rfl rfl rfl (Nat.le_of_eq rfl) (by decide) (by decide) (by decide) (by decide) ?_
  rintro _ _ _ ⟨rfl, rfl, rfl⟩
  show Go A B_sia D _ 19 _ [.int (1 : Int32)] _ _ 0 0
  refine Go.if0 (B := B_sia) td_sia 10 (pc' := 41) rfl (by decide) rfl (fun (h : (1 : Int32) = 0) => absurd h (by decide)) (fun _ => ?_)
  refine Go.rn (B := B_sia) td_sia 11 2 (pc' := 24) (S' := [.int (0 : Int32), .ref s]) rfl ?_
  refine Go.front 2 (F' := ((s, ob_0 A .null (.int (0 : Int32))) :: (sb, ob_1 A (.ref t) (.int (0 : Int32)) (.int (0 : Int32)) (.int (nI cs.length))) :: (t, ArrP A .byte (latB (cs ++ pad))) :: F)) rfl rfl ?_
  refine Go.putfield (B := B_sia) td_sia 13 (fs' := [("java/lang/String", "value", "[B", .null), ("java/lang/String", "coder", "B", .int (0 : Int32))]) rfl (w_31 K) (Or.inr ⟨(w_32 K), rfl, rfl⟩) (w_7 K) rfl rfl rfl (mi 1 rfl) (own_fs 1 (ns := ["value"]) rfl (by decide) rfl) ?_
  refine Go.rn (B := B_sia) td_sia 14 4 (pc' := 32) (S' := [.int (nI cs.length), .int (0 : Int32), .ref t, .ref s]) rfl ?_
  refine Go.callS (B := B_sia) td_sia 18 (B' := B_cor) (argsL := [.ref t, .int (0 : Int32), .int (nI cs.length)]) (rest := [.ref s]) (W := 1) rfl (cor_met K (n := cs.length) (by rw [latB_len]; omega) (by rw [latB_len]; omega) (fits_lat _) (Or.inl (mi 2 rfl))) (w_260 K) (w_261 K) (w_203 K) (w_262 K) (by decide) pd_cor rfl rfl rfl rfl (Nat.le_of_eq rfl) (by decide) (by decide) (by decide) (by decide) ?_
  rintro _ _ _ ⟨b, rfl, rfl, rfl⟩
  show Go A B_sia D _ 35 _ [.ref b, .ref s] ((b, ArrP A .byte ((latB (cs ++ pad)).take cs.length)) :: (s, ob_0 A .null (.int (0 : Int32))) :: (sb, ob_1 A (.ref t) (.int (0 : Int32)) (.int (0 : Int32)) (.int (nI cs.length))) :: (t, ArrP A .byte (latB (cs ++ pad))) :: F) _ 1 128
  rw [latB_app, take_all _ _ _ (latB_len cs).symm]
  show Go A B_sia D _ 35 [.val (.ref s), .val (.ref sb), .val (.null), .val (.ref t), .val (.int (nI cs.length))] [.ref b, .ref s] ((b, ArrP A .byte (latB cs)) :: (s, ob_0 A .null (.int (0 : Int32))) :: (sb, ob_1 A (.ref t) (.int (0 : Int32)) (.int (0 : Int32)) (.int (nI cs.length))) :: (t, ArrP A .byte (latB cs ++ latB pad)) :: F) G 1 128
  refine Go.front 1 (F' := ((s, ob_0 A .null (.int (0 : Int32))) :: (b, ArrP A .byte (latB cs)) :: (sb, ob_1 A (.ref t) (.int (0 : Int32)) (.int (0 : Int32)) (.int (nI cs.length))) :: (t, ArrP A .byte (latB cs ++ latB pad)) :: F)) rfl rfl ?_
  refine Go.putfield (B := B_sia) td_sia 19 (fs' := [("java/lang/String", "value", "[B", .ref b), ("java/lang/String", "coder", "B", .int (0 : Int32))]) rfl (w_33 K) (Or.inr ⟨(w_34 K), rfl, rfl⟩) (w_7 K) rfl rfl rfl (mi 0 rfl) (own_fs 0 (ns := ["coder"]) rfl (by decide) rfl) ?_
  refine Go.rn (B := B_sia) td_sia 20 1 (pc' := 97) (S' := []) rfl ?_
  refine Go.front 1 (F' := ((b, ArrP A .byte (latB cs)) :: (s, ob_0 A (.ref b) (.int (0 : Int32))) :: (sb, ob_1 A (.ref t) (.int (0 : Int32)) (.int (0 : Int32)) (.int (nI cs.length))) :: (t, ArrP A .byte (latB cs ++ latB pad)) :: F)) rfl rfl ?_
  refine Go.freeze ?_
  refine Go.freeze ?_
  exact Go.retV (B := B_sia) td_sia 50 rfl rfl ⟨rfl, rfl, b, rfl⟩ (by decide) (by decide)
set_option maxRecDepth 65536 in
set_option maxHeartbeats 4000000 in
theorem siaU_met {A : Ax} (K : Wd A) {s sb t : Addr} {cs pad : List Int32} (hx : cs.length + pad.length ≤ 64) {F G : List Ent} : Met A B_sia #[.ref s, .ref sb, .null] ((s, ob_0 A .null (.int (0 : Int32))) :: (sb, ob_1 A (.ref t) (.int (1 : Int32)) (.int (0 : Int32)) (.int (nI cs.length))) :: (t, ArrP A .byte (utfB (cs ++ pad))) :: F) G (fun v F' G' => v = none ∧ ((sb, ob_1 A (.ref t) (.int (1 : Int32)) (.int (0 : Int32)) (.int (nI cs.length))) :: (t, ArrP A .byte (utfB (cs ++ pad))) :: F) = F' ∧ ∃ b, StrE A s b 1 :: BytE A b (utfB cs) :: G = G') := by
  refine MetW.of_go pn_sia K.ew (L := [.val (.ref s), .val (.ref sb), .val (.null), .unset, .unset]) (fun m => rfl) ?_
  intro D _
  have hll : (cs ++ pad).length = cs.length + pad.length := List.length_append
  refine Go.rn (B := B_sia) td_sia 0 1 (pc' := 1) (S' := [.ref s]) rfl ?_
  refine Go.initObject (B := B_sia) td_sia 1 (W := 0) rfl (w_16 K) (w_17 K) (w_18 K) rfl (by decide) (Nat.le_of_eq rfl) (by decide) ?_
  refine Go.rn (B := B_sia) td_sia 2 1 (pc' := 5) (S' := [.ref sb]) rfl ?_
  refine Go.front 1 (F' := ((sb, ob_1 A (.ref t) (.int (1 : Int32)) (.int (0 : Int32)) (.int (nI cs.length))) :: (s, ob_0 A .null (.int (0 : Int32))) :: (t, ArrP A .byte (utfB (cs ++ pad))) :: F)) rfl rfl ?_
  refine Go.perm (F' := ((sb, ob_1 A (.ref t) (.int (1 : Int32)) (.int (0 : Int32)) (.int (nI cs.length))) :: (t, ArrP A .byte (utfB (cs ++ pad))) :: (s, ob_0 A .null (.int (0 : Int32))) :: F)) (List.Perm.cons _ (List.Perm.swap _ _ _)) ?_
  refine Go.callV (B := B_sia) td_sia 3 (B' := B_gva) (C := "java/lang/StringBuilder") (a := sb) (argsL := []) (rest := []) (W := 0) rfl (gvaU_met K) (Or.inl (mi 0 rfl)) (fun c P => P.1) (w_242 K) (w_243 K) (w_244 K) (w_245 K) (w_245 K) (w_98 K) (w_246 K) (by decide) pd_gva rfl rfl rfl rfl (Nat.le_of_eq rfl) (by decide) (by decide) (by decide) (by decide) ?_
  rintro _ _ _ ⟨rfl, rfl, rfl⟩
  show Go A B_sia D _ 8 _ [.ref t] _ _ 0 0
  refine Go.run (B := B_sia) td_sia 4 2 (pc' := 10) (L' := [.val (.ref s), .val (.ref sb), .val (.null), .val (.ref t), .unset]) (S' := [.ref sb]) rfl ?_
  refine Go.callVZ (B := B_sia) td_sia 6 (B' := B_sbl) (C := "java/lang/StringBuilder") (a := sb) (argsL := []) (rest := []) (W := 0) rfl (sblU_met K) (Or.inl (mi 0 rfl)) (fun c P => P.1) (w_247 K) (w_248 K) (w_251 K) (w_250 K) (w_184 K) rfl (w_66 K) (w_252 K) (by decide) pd_sbl rfl rfl rfl rfl (Nat.le_of_eq rfl) (by decide) (by decide) (by decide) (by decide) ?_
  rintro _ _ _ ⟨rfl, rfl, rfl⟩
  show Go A B_sia D _ 13 _ [.int (nI cs.length)] _ _ 0 0
  refine Go.run (B := B_sia) td_sia 7 2 (pc' := 16) (L' := [.val (.ref s), .val (.ref sb), .val (.null), .val (.ref t), .val (.int (nI cs.length))]) (S' := [.ref sb]) rfl ?_
  refine Go.callV (B := B_sia) td_sia 9 (B' := B_as1) (C := "java/lang/StringBuilder") (a := sb) (argsL := []) (rest := []) (W := 0) rfl (as1U_met K) (Or.inl (mi 0 rfl)) (fun c P => P.1) (w_255 K) (w_256 K) (w_257 K) (w_258 K) (w_258 K) (w_98 K) (w_259 K) (by decide) pd_as1 rfl rfl rfl rfl (Nat.le_of_eq rfl) (by decide) (by decide) (by decide) (by decide) ?_
  rintro _ _ _ ⟨rfl, rfl, rfl⟩
  show Go A B_sia D _ 19 _ [.int (0 : Int32)] _ _ 0 0
  obtain ⟨z, nz, hz⟩ := K.cmpt
  refine Go.if0 (B := B_sia) td_sia 10 (pc' := 41) rfl (by decide) rfl (fun _ => ?_) (fun (h : ¬ ((0 : Int32) = 0)) => absurd (by decide) h)
  refine Go.getstatic (B := B_sia) td_sia 21 rfl (w_19 K) hz ?_
  refine Go.if0 (B := B_sia) td_sia 22 (pc' := 79) rfl (by decide) rfl (fun (h : z = 0) => absurd h nz) (fun _ => ?_)
  refine Go.rn (B := B_sia) td_sia 23 1 (pc' := 48) (S' := [.ref sb]) rfl ?_
  refine Go.getfield (B := B_sia) td_sia 24 rfl (w_432 K) (Or.inl (mi 0 rfl)) (mi 2 rfl) ?_
  refine Go.if0 (B := B_sia) td_sia 25 (pc' := 79) rfl (by decide) rfl (fun _ => ?_) (fun (h : ¬ ((0 : Int32) = 0)) => absurd (by decide) h)
  refine Go.rn (B := B_sia) td_sia 39 2 (pc' := 81) (S' := [.int (1 : Int32), .ref s]) rfl ?_
  refine Go.front 2 (F' := ((s, ob_0 A .null (.int (0 : Int32))) :: (sb, ob_1 A (.ref t) (.int (1 : Int32)) (.int (0 : Int32)) (.int (nI cs.length))) :: (t, ArrP A .byte (utfB (cs ++ pad))) :: F)) rfl rfl ?_
  refine Go.putfield (B := B_sia) td_sia 41 (fs' := [("java/lang/String", "value", "[B", .null), ("java/lang/String", "coder", "B", .int (1 : Int32))]) rfl (w_31 K) (Or.inr ⟨(w_32 K), rfl, rfl⟩) (w_7 K) rfl rfl rfl (mi 1 rfl) (own_fs 1 (ns := ["value"]) rfl (by decide) rfl) ?_
  refine Go.rn (B := B_sia) td_sia 42 6 (pc' := 91) (S' := [.int ((nI cs.length) <<< ((1 : Int32) &&& 31)), .int (0 : Int32), .ref t, .ref s]) rfl ?_
  rw [shl1 (by omega)]
  refine Go.callS (B := B_sia) td_sia 48 (B' := B_cor) (argsL := [.ref t, .int (0 : Int32), .int (nI (2 * cs.length))]) (rest := [.ref s]) (W := 1) rfl (cor_met K (n := (2 * cs.length)) (by rw [utfB_len]; omega) (by rw [utfB_len]; omega) (fits_utf _) (Or.inl (mi 2 rfl))) (w_260 K) (w_261 K) (w_203 K) (w_262 K) (by decide) pd_cor rfl rfl rfl rfl (Nat.le_of_eq rfl) (by decide) (by decide) (by decide) (by decide) ?_
  rintro _ _ _ ⟨b, rfl, rfl, rfl⟩
  show Go A B_sia D _ 94 _ [.ref b, .ref s] ((b, ArrP A .byte ((utfB (cs ++ pad)).take (2 * cs.length))) :: (s, ob_0 A .null (.int (1 : Int32))) :: (sb, ob_1 A (.ref t) (.int (1 : Int32)) (.int (0 : Int32)) (.int (nI cs.length))) :: (t, ArrP A .byte (utfB (cs ++ pad))) :: F) _ 1 128
  rw [utfB_app, take_all _ _ _ (utfB_len cs).symm]
  show Go A B_sia D _ 94 [.val (.ref s), .val (.ref sb), .val (.null), .val (.ref t), .val (.int (nI cs.length))] [.ref b, .ref s] ((b, ArrP A .byte (utfB cs)) :: (s, ob_0 A .null (.int (1 : Int32))) :: (sb, ob_1 A (.ref t) (.int (1 : Int32)) (.int (0 : Int32)) (.int (nI cs.length))) :: (t, ArrP A .byte (utfB cs ++ utfB pad)) :: F) G 1 128
  refine Go.front 1 (F' := ((s, ob_0 A .null (.int (1 : Int32))) :: (b, ArrP A .byte (utfB cs)) :: (sb, ob_1 A (.ref t) (.int (1 : Int32)) (.int (0 : Int32)) (.int (nI cs.length))) :: (t, ArrP A .byte (utfB cs ++ utfB pad)) :: F)) rfl rfl ?_
  refine Go.putfield (B := B_sia) td_sia 49 (fs' := [("java/lang/String", "value", "[B", .ref b), ("java/lang/String", "coder", "B", .int (1 : Int32))]) rfl (w_33 K) (Or.inr ⟨(w_34 K), rfl, rfl⟩) (w_7 K) rfl rfl rfl (mi 0 rfl) (own_fs 0 (ns := ["coder"]) rfl (by decide) rfl) ?_
  refine Go.front 1 (F' := ((b, ArrP A .byte (utfB cs)) :: (s, ob_0 A (.ref b) (.int (1 : Int32))) :: (sb, ob_1 A (.ref t) (.int (1 : Int32)) (.int (0 : Int32)) (.int (nI cs.length))) :: (t, ArrP A .byte (utfB cs ++ utfB pad)) :: F)) rfl rfl ?_
  refine Go.freeze ?_
  refine Go.freeze ?_
  exact Go.retV (B := B_sia) td_sia 50 rfl rfl ⟨rfl, rfl, b, rfl⟩ (by decide) (by decide)
def tb_sis : List In1 := [(0, .aload_n 0, 1), (1, .aload_n 1, 1), (2, .aconst_null, 1), (3, .invokespecial 489, 3), (6, .return_, 1)]
set_option maxRecDepth 65536 in
theorem td_sis : Dec jdk_42_method_53_code tb_sis := by unfold Dec; decide +kernel
theorem pd_sis : parseMethodDescriptor "(Ljava/lang/StringBuilder;)V" = some ⟨[(.object "java/lang/StringBuilder")], none⟩ := by decide +kernel
theorem pn_sis : plainFor (⟨"java/lang/String", "<init>", "(Ljava/lang/StringBuilder;)V"⟩ : MethodName) = true := by decide +kernel
abbrev B_sis : Bx := ((⟨"java/lang/String", "<init>", "(Ljava/lang/StringBuilder;)V"⟩ : MethodName), jdk_42_method_53_code, 2, (Option.none : Option Jvm.ClassFile.FieldType), ({ frames := 4, cells := 1, slots := 128, locals := 79 } : Room))
set_option maxRecDepth 65536 in
set_option maxHeartbeats 4000000 in
theorem sisL_met {A : Ax} (K : Wd A) {s sb t : Addr} {cs pad : List Int32} (hx : cs.length + pad.length ≤ 64) {F G : List Ent} : Met A B_sis #[.ref s, .ref sb] ((s, ob_0 A .null (.int (0 : Int32))) :: (sb, ob_1 A (.ref t) (.int (0 : Int32)) (.int (0 : Int32)) (.int (nI cs.length))) :: (t, ArrP A .byte (latB (cs ++ pad))) :: F) G (fun v F' G' => v = none ∧ ((sb, ob_1 A (.ref t) (.int (0 : Int32)) (.int (0 : Int32)) (.int (nI cs.length))) :: (t, ArrP A .byte (latB (cs ++ pad))) :: F) = F' ∧ ∃ b, StrE A s b 0 :: BytE A b (latB cs) :: G = G') := by
  refine MetW.of_go pn_sis K.ew (L := [.val (.ref s), .val (.ref sb)]) (fun m => rfl) ?_
  intro D _
  refine Go.rn (B := B_sis) td_sis 0 3 (pc' := 3) (S' := [.null, .ref sb, .ref s]) rfl ?_
  refine Go.callN (B := B_sis) td_sis 3 (B' := B_sia) (a := s) (argsL := [.ref sb, .null]) (rest := []) (W := 0) rfl (siaL_met K hx) rfl rfl (w_239 K) (w_240 K) (w_8 K) (w_241 K) (by decide) pd_sia rfl rfl rfl rfl (Nat.le_of_eq rfl) (by decide) (by decide) (by decide) (by decide) ?_
  rintro _ _ _ ⟨rfl, rfl, b, rfl⟩
  show Go A B_sis D _ 6 _ [] ((sb, ob_1 A (.ref t) (.int (0 : Int32)) (.int (0 : Int32)) (.int (nI cs.length))) :: (t, ArrP A .byte (latB (cs ++ pad))) :: F) (StrE A s b 0 :: (b, ArrP A .byte (latB cs)) :: G) 1 128
  exact Go.retV (B := B_sis) td_sis 4 rfl rfl ⟨rfl, rfl, b, rfl⟩ (by decide) (by decide)
set_option maxRecDepth 65536 in
set_option maxHeartbeats 4000000 in
theorem sisU_met {A : Ax} (K : Wd A) {s sb t : Addr} {cs pad : List Int32} (hx : cs.length + pad.length ≤ 64) {F G : List Ent} : Met A B_sis #[.ref s, .ref sb] ((s, ob_0 A .null (.int (0 : Int32))) :: (sb, ob_1 A (.ref t) (.int (1 : Int32)) (.int (0 : Int32)) (.int (nI cs.length))) :: (t, ArrP A .byte (utfB (cs ++ pad))) :: F) G (fun v F' G' => v = none ∧ ((sb, ob_1 A (.ref t) (.int (1 : Int32)) (.int (0 : Int32)) (.int (nI cs.length))) :: (t, ArrP A .byte (utfB (cs ++ pad))) :: F) = F' ∧ ∃ b, StrE A s b 1 :: BytE A b (utfB cs) :: G = G') := by
  refine MetW.of_go pn_sis K.ew (L := [.val (.ref s), .val (.ref sb)]) (fun m => rfl) ?_
  intro D _
  refine Go.rn (B := B_sis) td_sis 0 3 (pc' := 3) (S' := [.null, .ref sb, .ref s]) rfl ?_
  refine Go.callN (B := B_sis) td_sis 3 (B' := B_sia) (a := s) (argsL := [.ref sb, .null]) (rest := []) (W := 0) rfl (siaU_met K hx) rfl rfl (w_239 K) (w_240 K) (w_8 K) (w_241 K) (by decide) pd_sia rfl rfl rfl rfl (Nat.le_of_eq rfl) (by decide) (by decide) (by decide) (by decide) ?_
  rintro _ _ _ ⟨rfl, rfl, b, rfl⟩
  show Go A B_sis D _ 6 _ [] ((sb, ob_1 A (.ref t) (.int (1 : Int32)) (.int (0 : Int32)) (.int (nI cs.length))) :: (t, ArrP A .byte (utfB (cs ++ pad))) :: F) (StrE A s b 1 :: (b, ArrP A .byte (utfB cs)) :: G) 1 128
  exact Go.retV (B := B_sis) td_sis 4 rfl rfl ⟨rfl, rfl, b, rfl⟩ (by decide) (by decide)
def tb_tos : List In1 := [(0, .new 18, 3), (3, .dup, 1), (4, .aload_n 0, 1), (5, .invokespecial 137, 3), (8, .areturn, 1)]
set_option maxRecDepth 65536 in
theorem td_tos : Dec jdk_67_method_42_code tb_tos := by unfold Dec; decide +kernel
theorem pd_tos : parseMethodDescriptor "()Ljava/lang/String;" = some ⟨[], (some (.object "java/lang/String"))⟩ := by decide +kernel
theorem pn_tos : plainFor (⟨"java/lang/StringBuilder", "toString", "()Ljava/lang/String;"⟩ : MethodName) = true := by decide +kernel
abbrev B_tos : Bx := ((⟨"java/lang/StringBuilder", "toString", "()Ljava/lang/String;"⟩ : MethodName), jdk_67_method_42_code, 1, (Option.some (Jvm.ClassFile.FieldType.object "java/lang/String")), ({ frames := 5, cells := 2, slots := 132, locals := 93 } : Room))
set_option maxRecDepth 65536 in
set_option maxHeartbeats 4000000 in
theorem tosL_met {A : Ax} (K : Wd A) {sb t : Addr} {cs pad : List Int32} (hx : cs.length + pad.length ≤ 64) {F G : List Ent} : Met A B_tos #[.ref sb] ((sb, ob_1 A (.ref t) (.int (0 : Int32)) (.int (0 : Int32)) (.int (nI cs.length))) :: (t, ArrP A .byte (latB (cs ++ pad))) :: F) G (fun v F' G' => ∃ s, v = some (.ref s) ∧ ((sb, ob_1 A (.ref t) (.int (0 : Int32)) (.int (0 : Int32)) (.int (nI cs.length))) :: (t, ArrP A .byte (latB (cs ++ pad))) :: F) = F' ∧ ∃ b, StrE A s b 0 :: BytE A b (latB cs) :: G = G') := by
  refine MetW.of_go pn_tos K.ew (L := [.val (.ref sb)]) (fun m => rfl) ?_
  intro D _
  refine Go.new (B := B_tos) td_tos 0 (fs := [("java/lang/String", "value", "[B", .null), ("java/lang/String", "coder", "B", .int (0 : Int32))]) rfl (w_235 K) (w_7 K) (w_8 K) (own_layS (Or.inr (w_34 K)) rfl rfl (own_layS (Or.inr (w_32 K)) rfl rfl own_lay0)) (by decide) (by decide) ?_
  intro s
  show Go A B_tos D _ 3 _ [.ref s] _ _ 1 4
  refine Go.rn (B := B_tos) td_tos 1 2 (pc' := 5) (S' := [.ref sb, .ref s, .ref s]) rfl ?_
  refine Go.callN (B := B_tos) td_tos 3 (B' := B_sis) (a := s) (argsL := [.ref sb]) (rest := [.ref s]) (W := 1) rfl (sisL_met K hx) rfl rfl (w_236 K) (w_237 K) (w_8 K) (w_238 K) (by decide) pd_sis rfl rfl rfl rfl (Nat.le_of_eq rfl) (by decide) (by decide) (by decide) (by decide) ?_
  rintro _ _ _ ⟨rfl, rfl, b, rfl⟩
  show Go A B_tos D _ 8 _ [.ref s] ((sb, ob_1 A (.ref t) (.int (0 : Int32)) (.int (0 : Int32)) (.int (nI cs.length))) :: (t, ArrP A .byte (latB (cs ++ pad))) :: F) (StrE A s b 0 :: (b, ArrP A .byte (latB cs)) :: G) 2 132
  exact Go.retA (B := B_tos) td_tos 4 rfl rfl rfl rfl ⟨s, rfl, rfl, b, rfl⟩ (by decide) (by decide)
set_option maxRecDepth 65536 in
set_option maxHeartbeats 4000000 in
theorem tosU_met {A : Ax} (K : Wd A) {sb t : Addr} {cs pad : List Int32} (hx : cs.length + pad.length ≤ 64) {F G : List Ent} : Met A B_tos #[.ref sb] ((sb, ob_1 A (.ref t) (.int (1 : Int32)) (.int (0 : Int32)) (.int (nI cs.length))) :: (t, ArrP A .byte (utfB (cs ++ pad))) :: F) G (fun v F' G' => ∃ s, v = some (.ref s) ∧ ((sb, ob_1 A (.ref t) (.int (1 : Int32)) (.int (0 : Int32)) (.int (nI cs.length))) :: (t, ArrP A .byte (utfB (cs ++ pad))) :: F) = F' ∧ ∃ b, StrE A s b 1 :: BytE A b (utfB cs) :: G = G') := by
  refine MetW.of_go pn_tos K.ew (L := [.val (.ref sb)]) (fun m => rfl) ?_
  intro D _
  refine Go.new (B := B_tos) td_tos 0 (fs := [("java/lang/String", "value", "[B", .null), ("java/lang/String", "coder", "B", .int (0 : Int32))]) rfl (w_235 K) (w_7 K) (w_8 K) (own_layS (Or.inr (w_34 K)) rfl rfl (own_layS (Or.inr (w_32 K)) rfl rfl own_lay0)) (by decide) (by decide) ?_
  intro s
  show Go A B_tos D _ 3 _ [.ref s] _ _ 1 4
  refine Go.rn (B := B_tos) td_tos 1 2 (pc' := 5) (S' := [.ref sb, .ref s, .ref s]) rfl ?_
  refine Go.callN (B := B_tos) td_tos 3 (B' := B_sis) (a := s) (argsL := [.ref sb]) (rest := [.ref s]) (W := 1) rfl (sisU_met K hx) rfl rfl (w_236 K) (w_237 K) (w_8 K) (w_238 K) (by decide) pd_sis rfl rfl rfl rfl (Nat.le_of_eq rfl) (by decide) (by decide) (by decide) (by decide) ?_
  rintro _ _ _ ⟨rfl, rfl, b, rfl⟩
  show Go A B_tos D _ 8 _ [.ref s] ((sb, ob_1 A (.ref t) (.int (1 : Int32)) (.int (0 : Int32)) (.int (nI cs.length))) :: (t, ArrP A .byte (utfB (cs ++ pad))) :: F) (StrE A s b 1 :: (b, ArrP A .byte (utfB cs)) :: G) 2 132
  exact Go.retA (B := B_tos) td_tos 4 rfl rfl rfl rfl ⟨s, rfl, rfl, b, rfl⟩ (by decide) (by decide)
/-- a builder that holds these chars -/
def SBs (A : Ax) (sb : Addr) (cs : List Int32) (E : List Ent) : Prop := ∃ t pad, cs.length + pad.length ≤ 64 ∧ ((Lat cs ∧ [(sb, ob_1 A (.ref t) (.int (0 : Int32)) (.int (0 : Int32)) (.int (nI cs.length))), (t, ArrP A .byte (latB (cs ++ pad)))] = E) ∨ ((Chrs cs ∧ ¬ Lat cs) ∧ [(sb, ob_1 A (.ref t) (.int (1 : Int32)) (.int (0 : Int32)) (.int (nI cs.length))), (t, ArrP A .byte (utfB (cs ++ pad)))] = E))
theorem Chrs.app2 {xs ys : List Int32} (h1 : Chrs xs) (h2 : Chrs ys) : Chrs (xs ++ ys) := fun c m => (List.mem_append.mp m).elim (h1 c) (h2 c)
theorem chrs_one {c : Int32} (h : 0 ≤ c.toInt ∧ c.toInt < 65536) : Chrs [c] := fun x m => by cases List.mem_singleton.mp m; exact h
theorem SBs.chrs {A : Ax} {sb : Addr} {cs : List Int32} {E : List Ent} (h : SBs A sb cs E) : Chrs cs := by
  obtain ⟨t, pad, h1, ⟨h2, -⟩ | ⟨h2, -⟩⟩ := h
  · exact h2.chrs
  · exact h2.1
theorem SBs.at {A : Ax} {sb : Addr} {cs : List Int32} {E : List Ent} (h : SBs A sb cs E) : ∃ P : Cell → Prop, (∀ c, P c → ClP A.Z "java/lang/StringBuilder" c) ∧ ∃ r, E = (sb, P) :: r := by
  obtain ⟨t, pad, h1, ⟨h2, rfl⟩ | ⟨h2, rfl⟩⟩ := h
  · exact ⟨_, fun c p => p.1, _, rfl⟩
  · exact ⟨_, fun c p => p.1, _, rfl⟩
theorem sbS_met {A : Ax} (K : Wd A) {sb a b : Addr} {cs ds : List Int32} {E : List Ent} (hs : SBs A sb cs E) (hl : Lat ds) (hn : cs.length + ds.length ≤ 32) {F G : List Ent} (m : StrE A a b 0 ∈ G) (mb : BytE A b (latB ds) ∈ G) :
    Met A B_sba #[.ref sb, .ref a] (E ++ F) G (fun v F' G' => v = some (.ref sb) ∧ (∃ E2, SBs A sb (cs ++ ds) E2 ∧ E2 ++ F = F') ∧ G = G') := by
  obtain ⟨t, pad, h1, ⟨h2, rfl⟩ | ⟨h2, rfl⟩⟩ := hs
  · refine (sbaL_met K hl h1 hn m mb).weak ?_
    rintro _ _ _ ⟨rfl, ⟨t2, pad2, p1, rfl⟩, rfl⟩
    exact ⟨rfl, ⟨_, ⟨t2, pad2, p1, Or.inl ⟨h2.app hl, rfl⟩⟩, rfl⟩, rfl⟩
  · refine (sbaU_met K hl h1 hn m mb).weak ?_
    rintro _ _ _ ⟨rfl, ⟨t2, pad2, p1, rfl⟩, rfl⟩
    exact ⟨rfl, ⟨_, ⟨t2, pad2, p1, Or.inr ⟨⟨h2.1.app2 hl.chrs, fun z => h2.2 (lat_appL z)⟩, rfl⟩⟩, rfl⟩, rfl⟩
theorem sbC_met {A : Ax} (K : Wd A) {sb : Addr} {cs : List Int32} {c : Int32} {E : List Ent} (hs : SBs A sb cs E) (hc : 0 ≤ c.toInt ∧ c.toInt < 65536) (hn : cs.length + 1 ≤ 32) {F G : List Ent} :
    Met A B_sbc #[.ref sb, .int c] (E ++ F) G (fun v F' G' => v = some (.ref sb) ∧ (∃ E2, SBs A sb (cs ++ [c]) E2 ∧ E2 ++ F = F') ∧ G = G') := by
  obtain ⟨t, pad, h1, ⟨h2, rfl⟩ | ⟨h2, rfl⟩⟩ := hs
  · by_cases hb : c.toInt < 256
    · refine (sbcL_met K h1 hn hb).weak ?_
      rintro _ _ _ ⟨rfl, ⟨t2, pad2, p1, rfl⟩, rfl⟩
      exact ⟨rfl, ⟨_, ⟨t2, pad2, p1, Or.inl ⟨h2.app (fun x m => by cases List.mem_singleton.mp m; exact ⟨hc.1, hb⟩), rfl⟩⟩, rfl⟩, rfl⟩
    · refine (sbcN_met K h1 hn h2 (by omega)).weak ?_
      rintro _ _ _ ⟨rfl, ⟨t2, pad2, p1, rfl⟩, rfl⟩
      exact ⟨rfl, ⟨_, ⟨t2, pad2, p1, Or.inr ⟨⟨h2.chrs.app2 (chrs_one hc), fun z => hb (z c (by simp)).2⟩, rfl⟩⟩, rfl⟩, rfl⟩
  · refine (sbcU_met K h1 hn).weak ?_
    rintro _ _ _ ⟨rfl, ⟨t2, pad2, p1, rfl⟩, rfl⟩
    exact ⟨rfl, ⟨_, ⟨t2, pad2, p1, Or.inr ⟨⟨h2.1.app2 (chrs_one hc), fun z => h2.2 (lat_appL z)⟩, rfl⟩⟩, rfl⟩, rfl⟩
theorem sbT_met {A : Ax} (K : Wd A) {sb : Addr} {cs : List Int32} {E : List Ent} (hs : SBs A sb cs E) {F G : List Ent} :
    Met A B_tos #[.ref sb] (E ++ F) G (fun v F' G' => ∃ s q1 q2, v = some (.ref s) ∧ E ++ F = F' ∧ q1 :: q2 :: G = G' ∧ StrR A (q1 :: q2 :: G) s cs) := by
  obtain ⟨t, pad, h1, ⟨h2, rfl⟩ | ⟨h2, rfl⟩⟩ := hs
  · refine (tosL_met K h1).weak ?_
    rintro _ _ _ ⟨s, rfl, rfl, b, rfl⟩
    exact ⟨s, _, _, rfl, rfl, rfl, b, Or.inl ⟨h2, mi 0 rfl, mi 1 rfl⟩⟩
  · refine (tosU_met K h1).weak ?_
    rintro _ _ _ ⟨s, rfl, rfl, b, rfl⟩
    exact ⟨s, _, _, rfl, rfl, rfl, b, Or.inr ⟨h2, mi 0 rfl, mi 1 rfl⟩⟩
--CUT
def escL (c : Int32) : List Int32 := if c = 38 then [38, 97, 109, 112, 59] else if c = 60 then [38, 108, 116, 59] else if c = 62 then [38, 103, 116, 59] else if c = 34 then [38, 113, 117, 111, 116, 59] else if c = 39 then [38, 35, 51, 57, 59] else [c]
theorem escL_len (c : Int32) : 1 ≤ (escL c).length ∧ (escL c).length ≤ 6 := by
  unfold escL; repeat' split
  all_goals exact ⟨own_le rfl, own_le rfl⟩
def escLs : List Int32 → List Int32
  | [] => []
  | c :: r => escL c ++ escLs r
theorem lsw_none {c : Int32} (h1 : ¬ c = 38) (h2 : ¬ c = 60) (h3 : ¬ c = 62) (h4 : ¬ c = 34) (h5 : ¬ c = 39) : (#[(34, 79), (38, 49), (39, 89), (60, 59), (62, 69)] : Array (Int × Int)).find? (·.1 == c.toInt) = none := by
  rw [i32_eq] at h1 h2 h3 h4 h5
  have e1 : (38 : Int32).toInt = 38 := by decide
  have e2 : (60 : Int32).toInt = 60 := by decide
  have e3 : (62 : Int32).toInt = 62 := by decide
  have e4 : (34 : Int32).toInt = 34 := by decide
  have e5 : (39 : Int32).toInt = 39 := by decide
  rw [e1] at h1; rw [e2] at h2; rw [e3] at h3; rw [e4] at h4; rw [e5] at h5
  rw [Array.find?_eq_none]
  intro p hp
  simp only [Array.mem_def, List.mem_cons, List.not_mem_nil, or_false] at hp
  rcases hp with rfl | rfl | rfl | rfl | rfl <;> simp only [beq_iff_eq] <;> omega
theorem escLs_len : ∀ ds : List Int32, (escLs ds).length ≤ 6 * ds.length
  | [] => Nat.le_refl _
  | d :: ds => by
    have h1 := escL_len d; have h2 := escLs_len ds
    show (escL d ++ escLs ds).length ≤ 6 * (d :: ds).length
    rw [List.length_append, List.length_cons]; omega
def tb_es : List In1 := [(0, .iload_n 1, 1), (1, .istore 4, 2), (3, .iload 4, 2), (5, .iload_n 2, 1), (6, .if_icmp .ge 125, 3), (9, .aload_n 0, 1), (10, .iload 4, 2), (12, .invokevirtual 105, 3), (15, .istore 5, 2), (17, .iload 5, 2), (19, .lookupswitch 99 #[(34, 79), (38, 49), (39, 89), (60, 59), (62, 69)], 49), (68, .aload_n 3, 1), (69, .ldc 109, 2), (71, .invokevirtual 95, 3), (74, .pop, 1), (75, .goto 50, 3), (78, .aload_n 3, 1), (79, .ldc 111, 2), (81, .invokevirtual 95, 3), (84, .pop, 1), (85, .goto 40, 3), (88, .aload_n 3, 1), (89, .ldc 113, 2), (91, .invokevirtual 95, 3), (94, .pop, 1), (95, .goto 30, 3), (98, .aload_n 3, 1), (99, .ldc 115, 2), (101, .invokevirtual 95, 3), (104, .pop, 1), (105, .goto 20, 3), (108, .aload_n 3, 1), (109, .ldc 117, 2), (111, .invokevirtual 95, 3), (114, .pop, 1), (115, .goto 10, 3), (118, .aload_n 3, 1), (119, .iload 5, 2), (121, .invokevirtual 119, 3), (124, .pop, 1), (125, .iinc 4 1, 3), (128, .goto (-125), 3), (131, .return_, 1)]
set_option maxRecDepth 65536 in
theorem td_es : Dec prog_6_method_5_code tb_es := by unfold Dec; decide +kernel
theorem pd_es : parseMethodDescriptor "(Ljava/lang/String;IILjava/lang/StringBuilder;)V" = some ⟨[(.object "java/lang/String"), .int, .int, (.object "java/lang/StringBuilder")], none⟩ := by decide +kernel
theorem pn_es : plainFor (⟨"com/example/attentive_search/attentivesearch/Highlight", "escape", "(Ljava/lang/String;IILjava/lang/StringBuilder;)V"⟩ : MethodName) = true := by decide +kernel
abbrev B_es (n : Nat) : Bx := ((⟨"com/example/attentive_search/attentivesearch/Highlight", "escape", "(Ljava/lang/String;IILjava/lang/StringBuilder;)V"⟩ : MethodName), prog_6_method_5_code, 6, (Option.none : Option Jvm.ClassFile.FieldType), ({ frames := 10, cells := 4 * n, slots := 284 * n, locals := 143 } : Room))
set_option maxRecDepth 65536 in
set_option maxHeartbeats 4000000 in
theorem esg {A : Ax} (K : Wd A) {D : Dx} {tx sb : Addr} {ts tot : List Int32} {n : Nat} {a1 : Int32} {F G : List Ent} (hlen : ts.length ≤ 3) (hch : Chrs ts) (mS : StrR A G tx ts) : ∀ (ds pre suf cs : List Int32) (E : List Ent) (x5 : Slot) (c s : Nat), (x5 = .unset ∨ ∃ v, x5 = .val (.int v)) → ts = pre ++ (ds ++ suf) → SBs A sb cs E → cs.length + 6 * ds.length ≤ 32 → c + 4 * ds.length ≤ 4 * n → s + 284 * ds.length ≤ 284 * n → cs ++ escLs ds = tot → Go A (B_es n) D (fun v F' G' => v = none ∧ (∃ E2, SBs A sb tot E2 ∧ E2 ++ F = F') ∧ G = G') 3 [.val (.ref tx), .val (.int a1), .val (.int (nI (pre.length + ds.length))), .val (.ref sb), .val (.int (nI pre.length)), x5] [] (E ++ F) G c s := by
  intro ds
  induction ds with
  | nil =>
    intro pre suf cs E x5 c s hx5 ht hs hn hc hz hq
    simp only [List.length_nil] at hc hz
    have e : cs = tot := by rw [← hq]; simp [escLs]
    refine Go.rn (B := (B_es n)) td_es 2 2 (pc' := 6) (S' := [.int (nI (pre.length + ([] : List Int32).length)), .int (nI pre.length)]) rfl ?_
    refine Go.icmp (B := (B_es n)) td_es 4 (pc' := 131) rfl (by decide) rfl (fun _ => ?_) (fun (h : ¬ ((nI pre.length) ≥ (nI (pre.length + ([] : List Int32).length)))) => absurd (Int32.le_refl _) h)
    exact Go.retV (B := (B_es n)) td_es 42 rfl rfl ⟨rfl, ⟨E, e ▸ hs, rfl⟩, rfl⟩ (by show c ≤ 4 * n; omega) (by show s ≤ 284 * n; omega)
  | cons d ds ih =>
    intro pre suf cs E x5 c s hx5 ht hs hn hc hz hq
    simp only [List.length_cons] at hc hz hn
    have e2 : nI (pre.length + (d :: ds).length) = nI ((pre ++ [d]).length + ds.length) := congrArg nI (by simp only [List.length_append, List.length_cons, List.length_nil]; omega)
    rw [e2]
    have hpd : (pre ++ [d]).length = pre.length + 1 := by simp
    have hpl : pre.length + (ds.length + 1) ≤ 3 := by rw [ht] at hlen; simp only [List.length_append, List.length_cons] at hlen; omega
    obtain ⟨bS, cdS, hm⟩ := mS.obj
    have hd : 0 ≤ d.toInt ∧ d.toInt < 65536 := hch d (by rw [ht]; simp)
    refine Go.rn (B := (B_es n)) td_es 2 2 (pc' := 6) (S' := [.int (nI ((pre ++ [d]).length + ds.length)), .int (nI pre.length)]) rfl ?_
    refine Go.icmp (B := (B_es n)) td_es 4 (pc' := 131) rfl (by decide) rfl (fun (h : (nI pre.length) ≥ (nI ((pre ++ [d]).length + ds.length))) => absurd h (Int32.not_le.mpr ((nI_lt (by omega) (by omega)).mpr (by omega)))) (fun _ => ?_)
    refine Go.rn (B := (B_es n)) td_es 5 2 (pc' := 12) (S' := [.int (nI pre.length), .ref tx]) rfl ?_
    refine Go.callV (B := (B_es n)) td_es 7 (B' := B_cha) (C := "java/lang/String") (a := tx) (argsL := [.int (nI pre.length)]) (rest := []) (W := 0) rfl (chaR_met K (pre := pre) (suf := ds ++ suf) ht rfl (by omega) mS) (Or.inr hm) (fun c P => P.1) (w_145 K) (w_146 K) (w_147 K) (w_148 K) (w_148 K) (w_8 K) (w_149 K) (by decide) pd_cha rfl rfl rfl rfl (Nat.le_of_eq rfl) (own_le rfl) (own_le rfl) (by show c + 0 ≤ 4 * n; omega) (by show s + 0 ≤ 284 * n; omega) ?_
    rintro _ _ _ ⟨rfl, rfl, rfl⟩
    show Go A (B_es n) D _ 15 _ [.int d] _ _ (c + 0) (s + 0)
    have st : Go A (B_es n) D (fun v F' G' => v = none ∧ (∃ E2, SBs A sb tot E2 ∧ E2 ++ F = F') ∧ G = G') 19 [.val (.ref tx), .val (.int a1), .val (.int (nI ((pre ++ [d]).length + ds.length))), .val (.ref sb), .val (.int (nI pre.length)), .val (.int d)] [.int d] (E ++ F) G (c + 0) (s + 0) := by
      by_cases h0 : d = 38
      · have hL : escL d = ([38, 97, 109, 112, 59] : List Int32) := by rw [h0]; decide
        refine Go.lswHit (B := (B_es n)) td_es 10 (a := 38) (o := 49) (pc' := 68) rfl (by decide) (by rw [h0]; decide) (by decide) rfl ?_
        refine Go.rn (B := (B_es n)) td_es 11 1 (pc' := 69) (S' := [.ref sb]) rfl ?_
        refine Go.ldcS (B := (B_es n)) td_es 12 (n := 20) (vs := (latB [38, 97, 109, 112, 59])) rfl (w_229 K) (strAtoms K) (by rw [show A.EL = consts_1 from K.el]; show ("com/example/attentive_search/attentivesearch/Highlight", 109) ∈ consts_1; decide) K.wm (by decide +kernel) (by decide) (by decide) (by decide) (by show (c + 0) + 2 ≤ 4 * n; omega) (by show (s + 0) + (20 + 4) ≤ 284 * n; omega) ?_
        intro a2 b2
        show Go A (B_es n) D _ 71 _ [.ref a2, .ref sb] _ _ ((c + 0) + 2) ((s + 0) + (20 + 4))
        obtain ⟨P_, hP_, r_, hr_⟩ := hs.at
        refine Go.callV (B := (B_es n)) td_es 13 (B' := B_sba) (C := "java/lang/StringBuilder") (a := sb) (argsL := [.ref a2]) (rest := []) (W := 0) rfl (sbS_met K (ds := ([38, 97, 109, 112, 59] : List Int32)) hs (by unfold Lat; decide) (by simp only [List.length_cons, List.length_nil]; omega) (mi 0 rfl) (mi 1 rfl)) (Or.inl (List.mem_append_left _ (by rw [hr_]; exact List.mem_cons_self ..))) hP_ (w_168 K) (w_169 K) (w_170 K) (w_171 K) (w_171 K) (w_66 K) (w_172 K) (by decide) pd_sba rfl rfl rfl rfl (Nat.le_of_eq rfl) (own_le rfl) (own_le rfl) (by show ((c + 0) + 2) + 2 ≤ 4 * n; omega) (by show ((s + 0) + (20 + 4)) + 256 ≤ 284 * n; omega) ?_
        rintro _ _ _ ⟨rfl, ⟨E2, hs2, rfl⟩, rfl⟩
        show Go A (B_es n) D _ 74 _ [.ref sb] (E2 ++ F) _ (((c + 0) + 2) + 2) (((s + 0) + (20 + 4)) + 256)
        refine Go.gsub (G' := G) (fun x h => .tail _ (.tail _ h)) ?_
        refine Go.rn (B := (B_es n)) td_es 14 2 (pc' := 125) (S' := []) rfl ?_
        refine Go.run (B := (B_es n)) td_es 40 2 (pc' := 3) (L' := [.val (.ref tx), .val (.int a1), .val (.int (nI ((pre ++ [d]).length + ds.length))), .val (.ref sb), .val (.int ((nI pre.length) + (1 : Int32))), .val (.int d)]) (S' := []) rfl ?_
        rw [← own_len_snoc pre d]
        refine Go.mono (cells' := c + 4) (slots' := s + 284) (by show (((c + 0) + 2) + 2) ≤ _; omega) (by show (((s + 0) + (20 + 4)) + 256) ≤ _; omega) ?_
        exact ih (pre ++ [d]) suf (cs ++ ([38, 97, 109, 112, 59] : List Int32)) E2 _ (c + 4) (s + 284) (Or.inr ⟨_, rfl⟩) (by rw [ht]; simp) hs2 (by simp only [List.length_append, List.length_cons, List.length_nil]; omega) (by omega) (by omega) (by rw [← hq, List.append_assoc, ← hL]; rfl)
      by_cases h1 : d = 60
      · have hL : escL d = ([38, 108, 116, 59] : List Int32) := by rw [h1]; decide
        refine Go.lswHit (B := (B_es n)) td_es 10 (a := 60) (o := 59) (pc' := 78) rfl (by decide) (by rw [h1]; decide) (by decide) rfl ?_
        refine Go.rn (B := (B_es n)) td_es 16 1 (pc' := 79) (S' := [.ref sb]) rfl ?_
        refine Go.ldcS (B := (B_es n)) td_es 17 (n := 16) (vs := (latB [38, 108, 116, 59])) rfl (w_451 K) (strAtoms K) (by rw [show A.EL = consts_1 from K.el]; show ("com/example/attentive_search/attentivesearch/Highlight", 111) ∈ consts_1; decide) K.wm (by decide +kernel) (by decide) (by decide) (by decide) (by show (c + 0) + 2 ≤ 4 * n; omega) (by show (s + 0) + (16 + 4) ≤ 284 * n; omega) ?_
        intro a2 b2
        show Go A (B_es n) D _ 81 _ [.ref a2, .ref sb] _ _ ((c + 0) + 2) ((s + 0) + (16 + 4))
        obtain ⟨P_, hP_, r_, hr_⟩ := hs.at
        refine Go.callV (B := (B_es n)) td_es 18 (B' := B_sba) (C := "java/lang/StringBuilder") (a := sb) (argsL := [.ref a2]) (rest := []) (W := 0) rfl (sbS_met K (ds := ([38, 108, 116, 59] : List Int32)) hs (by unfold Lat; decide) (by simp only [List.length_cons, List.length_nil]; omega) (mi 0 rfl) (mi 1 rfl)) (Or.inl (List.mem_append_left _ (by rw [hr_]; exact List.mem_cons_self ..))) hP_ (w_168 K) (w_169 K) (w_170 K) (w_171 K) (w_171 K) (w_66 K) (w_172 K) (by decide) pd_sba rfl rfl rfl rfl (Nat.le_of_eq rfl) (own_le rfl) (own_le rfl) (by show ((c + 0) + 2) + 2 ≤ 4 * n; omega) (by show ((s + 0) + (16 + 4)) + 256 ≤ 284 * n; omega) ?_
        rintro _ _ _ ⟨rfl, ⟨E2, hs2, rfl⟩, rfl⟩
        show Go A (B_es n) D _ 84 _ [.ref sb] (E2 ++ F) _ (((c + 0) + 2) + 2) (((s + 0) + (16 + 4)) + 256)
        refine Go.gsub (G' := G) (fun x h => .tail _ (.tail _ h)) ?_
        refine Go.rn (B := (B_es n)) td_es 19 2 (pc' := 125) (S' := []) rfl ?_
        refine Go.run (B := (B_es n)) td_es 40 2 (pc' := 3) (L' := [.val (.ref tx), .val (.int a1), .val (.int (nI ((pre ++ [d]).length + ds.length))), .val (.ref sb), .val (.int ((nI pre.length) + (1 : Int32))), .val (.int d)]) (S' := []) rfl ?_
        rw [← own_len_snoc pre d]
        refine Go.mono (cells' := c + 4) (slots' := s + 284) (by show (((c + 0) + 2) + 2) ≤ _; omega) (by show (((s + 0) + (16 + 4)) + 256) ≤ _; omega) ?_
        exact ih (pre ++ [d]) suf (cs ++ ([38, 108, 116, 59] : List Int32)) E2 _ (c + 4) (s + 284) (Or.inr ⟨_, rfl⟩) (by rw [ht]; simp) hs2 (by simp only [List.length_append, List.length_cons, List.length_nil]; omega) (by omega) (by omega) (by rw [← hq, List.append_assoc, ← hL]; rfl)
      by_cases h2 : d = 62
      · have hL : escL d = ([38, 103, 116, 59] : List Int32) := by rw [h2]; decide
        refine Go.lswHit (B := (B_es n)) td_es 10 (a := 62) (o := 69) (pc' := 88) rfl (by decide) (by rw [h2]; decide) (by decide) rfl ?_
        refine Go.rn (B := (B_es n)) td_es 21 1 (pc' := 89) (S' := [.ref sb]) rfl ?_
        refine Go.ldcS (B := (B_es n)) td_es 22 (n := 16) (vs := (latB [38, 103, 116, 59])) rfl (w_447 K) (strAtoms K) (by rw [show A.EL = consts_1 from K.el]; show ("com/example/attentive_search/attentivesearch/Highlight", 113) ∈ consts_1; decide) K.wm (by decide +kernel) (by decide) (by decide) (by decide) (by show (c + 0) + 2 ≤ 4 * n; omega) (by show (s + 0) + (16 + 4) ≤ 284 * n; omega) ?_
        intro a2 b2
        show Go A (B_es n) D _ 91 _ [.ref a2, .ref sb] _ _ ((c + 0) + 2) ((s + 0) + (16 + 4))
        obtain ⟨P_, hP_, r_, hr_⟩ := hs.at
        refine Go.callV (B := (B_es n)) td_es 23 (B' := B_sba) (C := "java/lang/StringBuilder") (a := sb) (argsL := [.ref a2]) (rest := []) (W := 0) rfl (sbS_met K (ds := ([38, 103, 116, 59] : List Int32)) hs (by unfold Lat; decide) (by simp only [List.length_cons, List.length_nil]; omega) (mi 0 rfl) (mi 1 rfl)) (Or.inl (List.mem_append_left _ (by rw [hr_]; exact List.mem_cons_self ..))) hP_ (w_168 K) (w_169 K) (w_170 K) (w_171 K) (w_171 K) (w_66 K) (w_172 K) (by decide) pd_sba rfl rfl rfl rfl (Nat.le_of_eq rfl) (own_le rfl) (own_le rfl) (by show ((c + 0) + 2) + 2 ≤ 4 * n; omega) (by show ((s + 0) + (16 + 4)) + 256 ≤ 284 * n; omega) ?_
        rintro _ _ _ ⟨rfl, ⟨E2, hs2, rfl⟩, rfl⟩
        show Go A (B_es n) D _ 94 _ [.ref sb] (E2 ++ F) _ (((c + 0) + 2) + 2) (((s + 0) + (16 + 4)) + 256)
        refine Go.gsub (G' := G) (fun x h => .tail _ (.tail _ h)) ?_
        refine Go.rn (B := (B_es n)) td_es 24 2 (pc' := 125) (S' := []) rfl ?_
        refine Go.run (B := (B_es n)) td_es 40 2 (pc' := 3) (L' := [.val (.ref tx), .val (.int a1), .val (.int (nI ((pre ++ [d]).length + ds.length))), .val (.ref sb), .val (.int ((nI pre.length) + (1 : Int32))), .val (.int d)]) (S' := []) rfl ?_
        rw [← own_len_snoc pre d]
        refine Go.mono (cells' := c + 4) (slots' := s + 284) (by show (((c + 0) + 2) + 2) ≤ _; omega) (by show (((s + 0) + (16 + 4)) + 256) ≤ _; omega) ?_
        exact ih (pre ++ [d]) suf (cs ++ ([38, 103, 116, 59] : List Int32)) E2 _ (c + 4) (s + 284) (Or.inr ⟨_, rfl⟩) (by rw [ht]; simp) hs2 (by simp only [List.length_append, List.length_cons, List.length_nil]; omega) (by omega) (by omega) (by rw [← hq, List.append_assoc, ← hL]; rfl)
      by_cases h3 : d = 34
      · have hL : escL d = ([38, 113, 117, 111, 116, 59] : List Int32) := by rw [h3]; decide
        refine Go.lswHit (B := (B_es n)) td_es 10 (a := 34) (o := 79) (pc' := 98) rfl (by decide) (by rw [h3]; decide) (by decide) rfl ?_
        refine Go.rn (B := (B_es n)) td_es 26 1 (pc' := 99) (S' := [.ref sb]) rfl ?_
        refine Go.ldcS (B := (B_es n)) td_es 27 (n := 24) (vs := (latB [38, 113, 117, 111, 116, 59])) rfl (w_167 K) (strAtoms K) (by rw [show A.EL = consts_1 from K.el]; show ("com/example/attentive_search/attentivesearch/Highlight", 115) ∈ consts_1; decide) K.wm (by decide +kernel) (by decide) (by decide) (by decide) (by show (c + 0) + 2 ≤ 4 * n; omega) (by show (s + 0) + (24 + 4) ≤ 284 * n; omega) ?_
        intro a2 b2
        show Go A (B_es n) D _ 101 _ [.ref a2, .ref sb] _ _ ((c + 0) + 2) ((s + 0) + (24 + 4))
        obtain ⟨P_, hP_, r_, hr_⟩ := hs.at
        refine Go.callV (B := (B_es n)) td_es 28 (B' := B_sba) (C := "java/lang/StringBuilder") (a := sb) (argsL := [.ref a2]) (rest := []) (W := 0) rfl (sbS_met K (ds := ([38, 113, 117, 111, 116, 59] : List Int32)) hs (by unfold Lat; decide) (by simp only [List.length_cons, List.length_nil]; omega) (mi 0 rfl) (mi 1 rfl)) (Or.inl (List.mem_append_left _ (by rw [hr_]; exact List.mem_cons_self ..))) hP_ (w_168 K) (w_169 K) (w_170 K) (w_171 K) (w_171 K) (w_66 K) (w_172 K) (by decide) pd_sba rfl rfl rfl rfl (Nat.le_of_eq rfl) (own_le rfl) (own_le rfl) (by show ((c + 0) + 2) + 2 ≤ 4 * n; omega) (by show ((s + 0) + (24 + 4)) + 256 ≤ 284 * n; omega) ?_
        rintro _ _ _ ⟨rfl, ⟨E2, hs2, rfl⟩, rfl⟩
        show Go A (B_es n) D _ 104 _ [.ref sb] (E2 ++ F) _ (((c + 0) + 2) + 2) (((s + 0) + (24 + 4)) + 256)
        refine Go.gsub (G' := G) (fun x h => .tail _ (.tail _ h)) ?_
        refine Go.rn (B := (B_es n)) td_es 29 2 (pc' := 125) (S' := []) rfl ?_
        refine Go.run (B := (B_es n)) td_es 40 2 (pc' := 3) (L' := [.val (.ref tx), .val (.int a1), .val (.int (nI ((pre ++ [d]).length + ds.length))), .val (.ref sb), .val (.int ((nI pre.length) + (1 : Int32))), .val (.int d)]) (S' := []) rfl ?_
        rw [← own_len_snoc pre d]
        refine Go.mono (cells' := c + 4) (slots' := s + 284) (by show (((c + 0) + 2) + 2) ≤ _; omega) (by show (((s + 0) + (24 + 4)) + 256) ≤ _; omega) ?_
        exact ih (pre ++ [d]) suf (cs ++ ([38, 113, 117, 111, 116, 59] : List Int32)) E2 _ (c + 4) (s + 284) (Or.inr ⟨_, rfl⟩) (by rw [ht]; simp) hs2 (by simp only [List.length_append, List.length_cons, List.length_nil]; omega) (by omega) (by omega) (by rw [← hq, List.append_assoc, ← hL]; rfl)
      by_cases h4 : d = 39
      · have hL : escL d = ([38, 35, 51, 57, 59] : List Int32) := by rw [h4]; decide
        refine Go.lswHit (B := (B_es n)) td_es 10 (a := 39) (o := 89) (pc' := 108) rfl (by decide) (by rw [h4]; decide) (by decide) rfl ?_
        refine Go.rn (B := (B_es n)) td_es 31 1 (pc' := 109) (S' := [.ref sb]) rfl ?_
        refine Go.ldcS (B := (B_es n)) td_es 32 (n := 20) (vs := (latB [38, 35, 51, 57, 59])) rfl (w_449 K) (strAtoms K) (by rw [show A.EL = consts_1 from K.el]; show ("com/example/attentive_search/attentivesearch/Highlight", 117) ∈ consts_1; decide) K.wm (by decide +kernel) (by decide) (by decide) (by decide) (by show (c + 0) + 2 ≤ 4 * n; omega) (by show (s + 0) + (20 + 4) ≤ 284 * n; omega) ?_
        intro a2 b2
        show Go A (B_es n) D _ 111 _ [.ref a2, .ref sb] _ _ ((c + 0) + 2) ((s + 0) + (20 + 4))
        obtain ⟨P_, hP_, r_, hr_⟩ := hs.at
        refine Go.callV (B := (B_es n)) td_es 33 (B' := B_sba) (C := "java/lang/StringBuilder") (a := sb) (argsL := [.ref a2]) (rest := []) (W := 0) rfl (sbS_met K (ds := ([38, 35, 51, 57, 59] : List Int32)) hs (by unfold Lat; decide) (by simp only [List.length_cons, List.length_nil]; omega) (mi 0 rfl) (mi 1 rfl)) (Or.inl (List.mem_append_left _ (by rw [hr_]; exact List.mem_cons_self ..))) hP_ (w_168 K) (w_169 K) (w_170 K) (w_171 K) (w_171 K) (w_66 K) (w_172 K) (by decide) pd_sba rfl rfl rfl rfl (Nat.le_of_eq rfl) (own_le rfl) (own_le rfl) (by show ((c + 0) + 2) + 2 ≤ 4 * n; omega) (by show ((s + 0) + (20 + 4)) + 256 ≤ 284 * n; omega) ?_
        rintro _ _ _ ⟨rfl, ⟨E2, hs2, rfl⟩, rfl⟩
        show Go A (B_es n) D _ 114 _ [.ref sb] (E2 ++ F) _ (((c + 0) + 2) + 2) (((s + 0) + (20 + 4)) + 256)
        refine Go.gsub (G' := G) (fun x h => .tail _ (.tail _ h)) ?_
        refine Go.rn (B := (B_es n)) td_es 34 2 (pc' := 125) (S' := []) rfl ?_
        refine Go.run (B := (B_es n)) td_es 40 2 (pc' := 3) (L' := [.val (.ref tx), .val (.int a1), .val (.int (nI ((pre ++ [d]).length + ds.length))), .val (.ref sb), .val (.int ((nI pre.length) + (1 : Int32))), .val (.int d)]) (S' := []) rfl ?_
        rw [← own_len_snoc pre d]
        refine Go.mono (cells' := c + 4) (slots' := s + 284) (by show (((c + 0) + 2) + 2) ≤ _; omega) (by show (((s + 0) + (20 + 4)) + 256) ≤ _; omega) ?_
        exact ih (pre ++ [d]) suf (cs ++ ([38, 35, 51, 57, 59] : List Int32)) E2 _ (c + 4) (s + 284) (Or.inr ⟨_, rfl⟩) (by rw [ht]; simp) hs2 (by simp only [List.length_append, List.length_cons, List.length_nil]; omega) (by omega) (by omega) (by rw [← hq, List.append_assoc, ← hL]; rfl)
      have hL : escL d = [d] := by unfold escL; rw [if_neg h0, if_neg h1, if_neg h2, if_neg h3, if_neg h4]
      refine Go.lswMiss (B := (B_es n)) td_es 10 (pc' := 118) rfl (by decide) (lsw_none h0 h1 h2 h3 h4) (by decide) rfl ?_
      refine Go.rn (B := (B_es n)) td_es 36 2 (pc' := 121) (S' := [.int d, .ref sb]) rfl ?_
      obtain ⟨P_, hP_, r_, hr_⟩ := hs.at
      refine Go.callV (B := (B_es n)) td_es 38 (B' := B_sbc) (C := "java/lang/StringBuilder") (a := sb) (argsL := [.int d]) (rest := []) (W := 0) rfl (sbC_met K hs hd (by omega)) (Or.inl (List.mem_append_left _ (by rw [hr_]; exact List.mem_cons_self ..))) hP_ (w_345 K) (w_346 K) (w_347 K) (w_348 K) (w_348 K) (w_66 K) (w_349 K) (by decide) pd_sbc rfl rfl rfl rfl (Nat.le_of_eq rfl) (own_le rfl) (own_le rfl) (by show (c + 0) + 2 ≤ 4 * n; omega) (by show (s + 0) + 256 ≤ 284 * n; omega) ?_
      rintro _ _ _ ⟨rfl, ⟨E2, hs2, rfl⟩, rfl⟩
      show Go A (B_es n) D _ 124 _ [.ref sb] (E2 ++ F) _ ((c + 0) + 2) ((s + 0) + 256)
      refine Go.run (B := (B_es n)) td_es 39 3 (pc' := 3) (L' := [.val (.ref tx), .val (.int a1), .val (.int (nI ((pre ++ [d]).length + ds.length))), .val (.ref sb), .val (.int ((nI pre.length) + (1 : Int32))), .val (.int d)]) (S' := []) rfl ?_
      rw [← own_len_snoc pre d]
      refine Go.mono (cells' := c + 4) (slots' := s + 284) (by show ((c + 0) + 2) ≤ _; omega) (by show ((s + 0) + 256) ≤ _; omega) ?_
      exact ih (pre ++ [d]) suf (cs ++ [d]) E2 _ (c + 4) (s + 284) (Or.inr ⟨_, rfl⟩) (by rw [ht]; simp) hs2 (by simp only [List.length_append, List.length_cons, List.length_nil]; omega) (by omega) (by omega) (by rw [← hq, List.append_assoc, ← hL]; rfl)
    rcases hx5 with rfl | ⟨v5, rfl⟩
    · refine Go.run (B := (B_es n)) td_es 8 2 (pc' := 19) (L' := [.val (.ref tx), .val (.int a1), .val (.int (nI ((pre ++ [d]).length + ds.length))), .val (.ref sb), .val (.int (nI pre.length)), .val (.int d)]) (S' := [.int d]) rfl ?_
      exact st
    · refine Go.run (B := (B_es n)) td_es 8 2 (pc' := 19) (L' := [.val (.ref tx), .val (.int a1), .val (.int (nI ((pre ++ [d]).length + ds.length))), .val (.ref sb), .val (.int (nI pre.length)), .val (.int d)]) (S' := [.int d]) rfl ?_
      exact st
set_option maxRecDepth 65536 in
set_option maxHeartbeats 4000000 in
theorem es_met {A : Ax} (K : Wd A) {tx sb : Addr} {ds pre suf cs tot ts : List Int32} {a1 a2 : Int32} {E F G : List Ent} (h1 : a1 = nI pre.length) (h2 : a2 = nI (pre.length + ds.length)) (ht : ts = pre ++ (ds ++ suf)) (hlen : ts.length ≤ 3) (hch : Chrs ts) (mS : StrR A G tx ts) (hs : SBs A sb cs E) (hn : cs.length + 6 * ds.length ≤ 32) (hq : cs ++ escLs ds = tot) : Met A (B_es ds.length) #[.ref tx, .int a1, .int a2, .ref sb] (E ++ F) G (fun v F' G' => v = none ∧ (∃ E2, SBs A sb tot E2 ∧ E2 ++ F = F') ∧ G = G') := by
  subst h1 h2
  refine MetW.of_go pn_es K.ew (L := [.val (.ref tx), .val (.int (nI pre.length)), .val (.int (nI (pre.length + ds.length))), .val (.ref sb), .unset, .unset]) (fun m => rfl) ?_
  intro D _
  refine Go.run (B := (B_es ds.length)) td_es 0 2 (pc' := 3) (L' := [.val (.ref tx), .val (.int (nI pre.length)), .val (.int (nI (pre.length + ds.length))), .val (.ref sb), .val (.int (nI pre.length)), .unset]) (S' := []) rfl ?_
  exact esg K hlen hch mS ds pre suf cs E _ 0 0 (Or.inl rfl) ht hs hn (by omega) (by omega) hq
--CUT
def tb_acn : List In1 := [(0, .aload_n 0, 1), (1, .invokespecial 1, 3), (4, .return_, 1)]
set_option maxRecDepth 65536 in
theorem td_acn : Dec jdk_22_method_1_code tb_acn := by unfold Dec; decide +kernel
theorem pd_acn : parseMethodDescriptor "()V" = some ⟨[], none⟩ := by decide +kernel
theorem pn_acn : plainFor (⟨"java/util/AbstractCollection", "<init>", "()V"⟩ : MethodName) = true := by decide +kernel
abbrev B_acn : Bx := ((⟨"java/util/AbstractCollection", "<init>", "()V"⟩ : MethodName), jdk_22_method_1_code, 1, (Option.none : Option Jvm.ClassFile.FieldType), ({ frames := 1, cells := 0, slots := 0, locals := 12 } : Room))
abbrev G0 (A : Ax) (de : Addr) : List Ent := [(de, ArkP A (.object "java/lang/Object") "[Ljava/lang/Object;" [])]
abbrev Ens (A : Ax) (de : Addr) : Prop := Sta A.Z A.Z.heap "java/util/ArrayList" "DEFAULTCAPACITY_EMPTY_ELEMENTDATA" "[Ljava/lang/Object;" (.ref de)
set_option maxRecDepth 65536 in
set_option maxHeartbeats 4000000 in
theorem acn_met {A : Ax} (K : Wd A) {o : Addr} {F G : List Ent} : Met A B_acn #[.ref o] F G (fun v F' G' => v = none ∧ F = F' ∧ G = G') := by
  refine MetW.of_go pn_acn K.ew (L := [.val (.ref o)]) (fun m => rfl) ?_
  intro D _
  refine Go.rn (B := B_acn) td_acn 0 1 (pc' := 1) (S' := [.ref o]) rfl ?_
  refine Go.initObject (B := B_acn) td_acn 1 (W := 0) rfl (w_54 K) (w_17 K) (w_18 K) rfl (by decide) (Nat.le_of_eq rfl) (by decide) ?_
  exact Go.retV (B := B_acn) td_acn 2 rfl rfl ⟨rfl, rfl, rfl⟩ (by decide) (by decide)
def tb_aln : List In1 := [(0, .aload_n 0, 1), (1, .invokespecial 1, 3), (4, .aload_n 0, 1), (5, .iconst 0, 1), (6, .putfield 7, 3), (9, .return_, 1)]
set_option maxRecDepth 65536 in
theorem td_aln : Dec jdk_39_method_1_code tb_aln := by unfold Dec; decide +kernel
theorem pd_aln : parseMethodDescriptor "()V" = some ⟨[], none⟩ := by decide +kernel
theorem pn_aln : plainFor (⟨"java/util/AbstractList", "<init>", "()V"⟩ : MethodName) = true := by decide +kernel
abbrev B_aln : Bx := ((⟨"java/util/AbstractList", "<init>", "()V"⟩ : MethodName), jdk_39_method_1_code, 1, (Option.none : Option Jvm.ClassFile.FieldType), ({ frames := 2, cells := 0, slots := 0, locals := 24 } : Room))
abbrev ob_2 (A : Ax) (v0 v1 v2 : Value) : Cell → Prop := ObjP A "java/util/ArrayList" [("java/util/ArrayList", "elementData", "[Ljava/lang/Object;", v0), ("java/util/ArrayList", "size", "I", v1), ("java/util/AbstractList", "modCount", "I", v2)]
set_option maxRecDepth 65536 in
set_option maxHeartbeats 4000000 in
theorem aln_met {A : Ax} (K : Wd A) {o : Addr} {F G : List Ent} : Met A B_aln #[.ref o] ((o, ob_2 A .null (.int (0 : Int32)) (.int (0 : Int32))) :: F) G (fun v F' G' => v = none ∧ ((o, ob_2 A .null (.int (0 : Int32)) (.int (0 : Int32))) :: F) = F' ∧ G = G') := by
  refine MetW.of_go pn_aln K.ew (L := [.val (.ref o)]) (fun m => rfl) ?_
  intro D _
  refine Go.rn (B := B_aln) td_aln 0 1 (pc' := 1) (S' := [.ref o]) rfl ?_
  refine Go.callN (B := B_aln) td_aln 1 (B' := B_acn) (a := o) (argsL := []) (rest := []) (W := 0) rfl (acn_met K) rfl rfl (w_48 K) (w_49 K) (w_52 K) (w_53 K) (by decide) pd_acn rfl rfl rfl rfl (Nat.le_of_eq rfl) (by decide) (by decide) (by decide) (by decide) ?_
  rintro _ _ _ ⟨rfl, rfl, rfl⟩
  show Go A B_aln D _ 4 _ [] _ _ 0 0
  refine Go.rn (B := B_aln) td_aln 2 2 (pc' := 6) (S' := [.int (0 : Int32), .ref o]) rfl ?_
  refine Go.putfield (B := B_aln) td_aln 4 (fs' := [("java/util/ArrayList", "elementData", "[Ljava/lang/Object;", .null), ("java/util/ArrayList", "size", "I", .int (0 : Int32)), ("java/util/AbstractList", "modCount", "I", .int (0 : Int32))]) rfl (w_55 K) (Or.inl (w_56 K)) (w_37 K) rfl rfl rfl (mi 2 rfl) (own_fs 2 (ns := ["elementData", "size"]) rfl (by decide) rfl) ?_
  exact Go.retV (B := B_aln) td_aln 5 rfl rfl ⟨rfl, rfl, rfl⟩ (by decide) (by decide)
def tb_ali : List In1 := [(0, .aload_n 0, 1), (1, .invokespecial 1, 3), (4, .aload_n 0, 1), (5, .getstatic 39, 3), (8, .putfield 9, 3), (11, .return_, 1)]
set_option maxRecDepth 65536 in
theorem td_ali : Dec jdk_38_method_2_code tb_ali := by unfold Dec; decide +kernel
theorem pd_ali : parseMethodDescriptor "()V" = some ⟨[], none⟩ := by decide +kernel
theorem pn_ali : plainFor (⟨"java/util/ArrayList", "<init>", "()V"⟩ : MethodName) = true := by decide +kernel
abbrev B_ali : Bx := ((⟨"java/util/ArrayList", "<init>", "()V"⟩ : MethodName), jdk_38_method_2_code, 1, (Option.none : Option Jvm.ClassFile.FieldType), ({ frames := 3, cells := 0, slots := 0, locals := 36 } : Room))
set_option maxRecDepth 65536 in
set_option maxHeartbeats 4000000 in
theorem ali_met {A : Ax} (K : Wd A) {de o : Addr} (S : Ens A de) {F G : List Ent} : Met A B_ali #[.ref o] ((o, ob_2 A .null (.int (0 : Int32)) (.int (0 : Int32))) :: F) G (fun v F' G' => v = none ∧ ((o, ob_2 A (.ref de) (.int (0 : Int32)) (.int (0 : Int32))) :: F) = F' ∧ G = G') := by
  refine MetW.of_go pn_ali K.ew (L := [.val (.ref o)]) (fun m => rfl) ?_
  intro D _
  refine Go.rn (B := B_ali) td_ali 0 1 (pc' := 1) (S' := [.ref o]) rfl ?_
  refine Go.callN (B := B_ali) td_ali 1 (B' := B_aln) (a := o) (argsL := []) (rest := []) (W := 0) rfl (aln_met K) rfl rfl (w_42 K) (w_43 K) (w_46 K) (w_47 K) (by decide) pd_aln rfl rfl rfl rfl (Nat.le_of_eq rfl) (by decide) (by decide) (by decide) (by decide) ?_
  rintro _ _ _ ⟨rfl, rfl, rfl⟩
  show Go A B_ali D _ 4 _ [] _ _ 0 0
  refine Go.rn (B := B_ali) td_ali 2 1 (pc' := 5) (S' := [.ref o]) rfl ?_
  refine Go.getstatic (B := B_ali) td_ali 3 rfl (w_57 K) S ?_
  refine Go.putfield (B := B_ali) td_ali 4 (fs' := [("java/util/ArrayList", "elementData", "[Ljava/lang/Object;", .ref de), ("java/util/ArrayList", "size", "I", .int (0 : Int32)), ("java/util/AbstractList", "modCount", "I", .int (0 : Int32))]) rfl (w_58 K) (Or.inl (w_59 K)) (w_37 K) rfl rfl rfl (mi 0 rfl) (own_fs 0 (ns := ["size", "modCount"]) rfl (by decide) rfl) ?_
  exact Go.retV (B := B_ali) td_ali 5 rfl rfl ⟨rfl, rfl, rfl⟩ (by decide) (by decide)
def tb_rci : List In1 := [(0, .aload_n 0, 1), (1, .invokespecial 1, 3), (4, .return_, 1)]
set_option maxRecDepth 65536 in
theorem td_rci : Dec jdk_30_method_1_code tb_rci := by unfold Dec; decide +kernel
theorem pd_rci : parseMethodDescriptor "()V" = some ⟨[], none⟩ := by decide +kernel
theorem pn_rci : plainFor (⟨"java/lang/Record", "<init>", "()V"⟩ : MethodName) = true := by decide +kernel
abbrev B_rci : Bx := ((⟨"java/lang/Record", "<init>", "()V"⟩ : MethodName), jdk_30_method_1_code, 1, (Option.none : Option Jvm.ClassFile.FieldType), ({ frames := 1, cells := 0, slots := 0, locals := 12 } : Room))
set_option maxRecDepth 65536 in
set_option maxHeartbeats 4000000 in
theorem rci_met {A : Ax} (K : Wd A) {o : Addr} {F G : List Ent} : Met A B_rci #[.ref o] F G (fun v F' G' => v = none ∧ F = F' ∧ G = G') := by
  refine MetW.of_go pn_rci K.ew (L := [.val (.ref o)]) (fun m => rfl) ?_
  intro D _
  refine Go.rn (B := B_rci) td_rci 0 1 (pc' := 1) (S' := [.ref o]) rfl ?_
  refine Go.initObject (B := B_rci) td_rci 1 (W := 0) rfl (w_294 K) (w_17 K) (w_18 K) rfl (by decide) (Nat.le_of_eq rfl) (by decide) ?_
  exact Go.retV (B := B_rci) td_rci 2 rfl rfl ⟨rfl, rfl, rfl⟩ (by decide) (by decide)
def tb_mki : List In1 := [(0, .aload_n 0, 1), (1, .invokespecial 1, 3), (4, .aload_n 0, 1), (5, .iload_n 1, 1), (6, .putfield 7, 3), (9, .aload_n 0, 1), (10, .iload_n 2, 1), (11, .putfield 13, 3), (14, .return_, 1)]
set_option maxRecDepth 65536 in
theorem td_mki : Dec prog_7_method_1_code tb_mki := by unfold Dec; decide +kernel
theorem pd_mki : parseMethodDescriptor "(II)V" = some ⟨[.int, .int], none⟩ := by decide +kernel
theorem pn_mki : plainFor (⟨"com/example/attentive_search/attentivesearch/Highlight$Mark", "<init>", "(II)V"⟩ : MethodName) = true := by decide +kernel
abbrev B_mki : Bx := ((⟨"com/example/attentive_search/attentivesearch/Highlight$Mark", "<init>", "(II)V"⟩ : MethodName), prog_7_method_1_code, 3, (Option.none : Option Jvm.ClassFile.FieldType), ({ frames := 2, cells := 0, slots := 0, locals := 24 } : Room))
abbrev ob_3 (A : Ax) (v0 v1 : Value) : Cell → Prop := ObjP A "com/example/attentive_search/attentivesearch/Highlight$Mark" [("com/example/attentive_search/attentivesearch/Highlight$Mark", "start", "I", v0), ("com/example/attentive_search/attentivesearch/Highlight$Mark", "end", "I", v1)]
set_option maxRecDepth 65536 in
set_option maxHeartbeats 4000000 in
theorem mki_met {A : Ax} (K : Wd A) {x : Addr} {s e : Int32} {F G : List Ent} : Met A B_mki #[.ref x, .int s, .int e] ((x, ob_3 A (.int (0 : Int32)) (.int (0 : Int32))) :: F) G (fun v F' G' => v = none ∧ ((x, ob_3 A (.int s) (.int e)) :: F) = F' ∧ G = G') := by
  refine MetW.of_go pn_mki K.ew (L := [.val (.ref x), .val (.int s), .val (.int e)]) (fun m => rfl) ?_
  intro D _
  refine Go.rn (B := B_mki) td_mki 0 1 (pc' := 1) (S' := [.ref x]) rfl ?_
  refine Go.callN (B := B_mki) td_mki 1 (B' := B_rci) (a := x) (argsL := []) (rest := []) (W := 0) rfl (rci_met K) rfl rfl (w_289 K) (w_290 K) (w_292 K) (w_293 K) (by decide) pd_rci rfl rfl rfl rfl (Nat.le_of_eq rfl) (by decide) (by decide) (by decide) (by decide) ?_
  rintro _ _ _ ⟨rfl, rfl, rfl⟩
  show Go A B_mki D _ 4 _ [] _ _ 0 0
  refine Go.rn (B := B_mki) td_mki 2 2 (pc' := 6) (S' := [.int s, .ref x]) rfl ?_
  refine Go.putfield (B := B_mki) td_mki 4 (fs' := [("com/example/attentive_search/attentivesearch/Highlight$Mark", "start", "I", .int s), ("com/example/attentive_search/attentivesearch/Highlight$Mark", "end", "I", .int (0 : Int32))]) rfl (w_295 K) (Or.inr ⟨(w_296 K), rfl, rfl⟩) (w_284 K) rfl rfl rfl (mi 0 rfl) (own_fs 0 (ns := ["end"]) rfl (by decide) rfl) ?_
  refine Go.rn (B := B_mki) td_mki 5 2 (pc' := 11) (S' := [.int e, .ref x]) rfl ?_
  refine Go.putfield (B := B_mki) td_mki 7 (fs' := [("com/example/attentive_search/attentivesearch/Highlight$Mark", "start", "I", .int s), ("com/example/attentive_search/attentivesearch/Highlight$Mark", "end", "I", .int e)]) rfl (w_297 K) (Or.inr ⟨(w_298 K), rfl, rfl⟩) (w_284 K) rfl rfl rfl (mi 1 rfl) (own_fs 1 (ns := ["start"]) rfl (by decide) rfl) ?_
  exact Go.retV (B := B_mki) td_mki 8 rfl rfl ⟨rfl, rfl, rfl⟩ (by decide) (by decide)
def tb_mks : List In1 := [(0, .aload_n 0, 1), (1, .getfield 7, 3), (4, .ireturn, 1)]
set_option maxRecDepth 65536 in
theorem td_mks : Dec prog_7_method_5_code tb_mks := by unfold Dec; decide +kernel
theorem pd_mks : parseMethodDescriptor "()I" = some ⟨[], (some .int)⟩ := by decide +kernel
theorem pn_mks : plainFor (⟨"com/example/attentive_search/attentivesearch/Highlight$Mark", "start", "()I"⟩ : MethodName) = true := by decide +kernel
abbrev B_mks : Bx := ((⟨"com/example/attentive_search/attentivesearch/Highlight$Mark", "start", "()I"⟩ : MethodName), prog_7_method_5_code, 1, (Option.some Jvm.ClassFile.FieldType.int), ({ frames := 0, cells := 0, slots := 0, locals := 0 } : Room))
set_option maxRecDepth 65536 in
set_option maxHeartbeats 4000000 in
theorem mks_met {A : Ax} (K : Wd A) {x : Addr} {s e : Int32} {F G : List Ent} (m : (x, ob_3 A (.int s) (.int e)) ∈ F ∨ (x, ob_3 A (.int s) (.int e)) ∈ G) : Met A B_mks #[.ref x] F G (fun v F' G' => v = some (.int s) ∧ F = F' ∧ G = G') := by
  refine MetW.of_go pn_mks K.ew (L := [.val (.ref x)]) (fun m => rfl) ?_
  intro D _
  refine Go.rn (B := B_mks) td_mks 0 1 (pc' := 1) (S' := [.ref x]) rfl ?_
  refine Go.getfield (B := B_mks) td_mks 1 rfl (w_295 K) m (mi 0 rfl) ?_
  exact Go.retI (B := B_mks) td_mks 2 rfl rfl ⟨rfl, rfl, rfl⟩ (by decide) (by decide)
def tb_mke : List In1 := [(0, .aload_n 0, 1), (1, .getfield 13, 3), (4, .ireturn, 1)]
set_option maxRecDepth 65536 in
theorem td_mke : Dec prog_7_method_6_code tb_mke := by unfold Dec; decide +kernel
theorem pd_mke : parseMethodDescriptor "()I" = some ⟨[], (some .int)⟩ := by decide +kernel
theorem pn_mke : plainFor (⟨"com/example/attentive_search/attentivesearch/Highlight$Mark", "end", "()I"⟩ : MethodName) = true := by decide +kernel
abbrev B_mke : Bx := ((⟨"com/example/attentive_search/attentivesearch/Highlight$Mark", "end", "()I"⟩ : MethodName), prog_7_method_6_code, 1, (Option.some Jvm.ClassFile.FieldType.int), ({ frames := 0, cells := 0, slots := 0, locals := 0 } : Room))
set_option maxRecDepth 65536 in
set_option maxHeartbeats 4000000 in
theorem mke_met {A : Ax} (K : Wd A) {x : Addr} {s e : Int32} {F G : List Ent} (m : (x, ob_3 A (.int s) (.int e)) ∈ F ∨ (x, ob_3 A (.int s) (.int e)) ∈ G) : Met A B_mke #[.ref x] F G (fun v F' G' => v = some (.int e) ∧ F = F' ∧ G = G') := by
  refine MetW.of_go pn_mke K.ew (L := [.val (.ref x)]) (fun m => rfl) ?_
  intro D _
  refine Go.rn (B := B_mke) td_mke 0 1 (pc' := 1) (S' := [.ref x]) rfl ?_
  refine Go.getfield (B := B_mke) td_mke 1 rfl (w_297 K) m (mi 1 rfl) ?_
  exact Go.retI (B := B_mke) td_mke 2 rfl rfl ⟨rfl, rfl, rfl⟩ (by decide) (by decide)
def tb_grI : List In1 := [(0, .aload_n 0, 1), (1, .getfield 9, 3), (4, .arraylength, 1), (5, .istore_n 2, 1), (6, .iload_n 2, 1), (7, .ifCond .gt 13, 3), (10, .aload_n 0, 1), (11, .getfield 9, 3), (14, .getstatic 39, 3), (17, .if_acmp .eq 28, 3), (20, .iload_n 2, 1), (21, .iload_n 1, 1), (22, .iload_n 2, 1), (23, .isub, 1), (24, .iload_n 2, 1), (25, .iconst 1, 1), (26, .ishr, 1), (27, .invokestatic 73, 3), (30, .istore_n 3, 1), (31, .aload_n 0, 1), (32, .aload_n 0, 1), (33, .getfield 9, 3), (36, .iload_n 3, 1), (37, .invokestatic 66, 3), (40, .dup_x1, 1), (41, .putfield 9, 3), (44, .areturn, 1), (45, .aload_n 0, 1), (46, .bipush 10, 2), (48, .iload_n 1, 1), (49, .invokestatic 79, 3), (52, .anewarray 7, 3), (55, .dup_x1, 1), (56, .putfield 9, 3), (59, .areturn, 1)]
set_option maxRecDepth 65536 in
theorem td_grI : Dec jdk_38_method_6_code tb_grI := by unfold Dec; decide +kernel
theorem pd_grI : parseMethodDescriptor "(I)[Ljava/lang/Object;" = some ⟨[.int], (some (.array (.object "java/lang/Object")))⟩ := by decide +kernel
theorem pn_grI : plainFor (⟨"java/util/ArrayList", "grow", "(I)[Ljava/lang/Object;"⟩ : MethodName) = true := by decide +kernel
abbrev B_grI : Bx := ((⟨"java/util/ArrayList", "grow", "(I)[Ljava/lang/Object;"⟩ : MethodName), jdk_38_method_6_code, 4, (Option.some (Jvm.ClassFile.FieldType.array (Jvm.ClassFile.FieldType.object "java/lang/Object"))), ({ frames := 1, cells := 1, slots := 10, locals := 14 } : Room))
set_option maxRecDepth 65536 in
set_option maxHeartbeats 4000000 in
theorem grI_met {A : Ax} (K : Wd A) {de o : Addr} {mc : Int32} (S : Ens A de) {F G : List Ent} (hG : ∀ q ∈ G0 A de, q ∈ G) : Met A B_grI #[.ref o, .int (1 : Int32)] ((o, ob_2 A (.ref de) (.int (0 : Int32)) (.int mc)) :: F) G (fun v F' G' => ∃ t, v = some (.ref t) ∧ ((o, ob_2 A (.ref t) (.int (0 : Int32)) (.int mc)) :: (t, RarP A "java/lang/Object" "[Ljava/lang/Object;" (List.replicate 10 .null)) :: F) = F' ∧ G = G') := by
  refine MetW.of_go pn_grI K.ew (L := [.val (.ref o), .val (.int (1 : Int32)), .unset, .unset]) (fun m => rfl) ?_
  intro D _
  refine Go.rn (B := B_grI) td_grI 0 1 (pc' := 1) (S' := [.ref o]) rfl ?_
  refine Go.getfield (B := B_grI) td_grI 1 rfl (w_58 K) (Or.inl (mi 0 rfl)) (mi 0 rfl) ?_
  refine Go.arraylengthP (B := B_grI) td_grI 2 (z := (0 : Int32)) rfl (Or.inr (hG _ (mi 0 rfl))) (fun c P => P.1) rfl ?_
  refine Go.run (B := B_grI) td_grI 3 2 (pc' := 7) (L' := [.val (.ref o), .val (.int (1 : Int32)), .val (.int (0 : Int32)), .unset]) (S' := [.int (0 : Int32)]) rfl ?_
  refine Go.if0 (B := B_grI) td_grI 5 (pc' := 20) rfl (by decide) rfl (fun (h : (0 : Int32) > 0) => absurd h (by decide)) (fun _ => ?_)
  refine Go.rn (B := B_grI) td_grI 6 1 (pc' := 11) (S' := [.ref o]) rfl ?_
  refine Go.getfield (B := B_grI) td_grI 7 rfl (w_58 K) (Or.inl (mi 0 rfl)) (mi 0 rfl) ?_
  refine Go.getstatic (B := B_grI) td_grI 8 rfl (w_57 K) S ?_
  refine Go.acmp (B := B_grI) td_grI 9 (pc' := 45) rfl rfl rfl (by decide) rfl (fun _ => ?_) (fun h => absurd h (by simp [Jvm.Free.XT.acmp]))
  refine Go.rn (B := B_grI) td_grI 27 3 (pc' := 49) (S' := [.int (1 : Int32), .int (10 : Int32), .ref o]) rfl ?_
  refine Go.callS (B := B_grI) td_grI 30 (B' := B_mx) (argsL := [.int (10 : Int32), .int (1 : Int32)]) (rest := [.ref o]) (W := 1) rfl (mx_met K (r := 10) (by decide)) (w_320 K) (w_196 K) (w_197 K) (w_198 K) (by decide) pd_mx rfl rfl rfl rfl (Nat.le_of_eq rfl) (by decide) (by decide) (by decide) (by decide) ?_
  rintro _ _ _ ⟨rfl, rfl, rfl⟩
  show Go A B_grI D _ 52 _ [.int (10 : Int32), .ref o] _ _ 0 0
  refine Go.anewarray (B := B_grI) td_grI 31 (cap := 10) (vs := (List.replicate 10 .null)) (ad := "[Ljava/lang/Object;") rfl (w_321 K) (w_322 K) (by decide) (by decide) (by decide) (by decide) (by decide) (by decide) rfl ?_
  intro t
  show Go A B_grI D _ 55 [.val (.ref o), .val (.int (1 : Int32)), .val (.int (0 : Int32)), .unset] [.ref t, .ref o] ((t, RarP A "java/lang/Object" "[Ljava/lang/Object;" (List.replicate 10 .null)) :: (o, ob_2 A (.ref de) (.int (0 : Int32)) (.int mc)) :: F) G 1 10
  refine Go.rn (B := B_grI) td_grI 32 1 (pc' := 56) (S' := [.ref t, .ref o, .ref t]) rfl ?_
  refine Go.front 1 (F' := ((o, ob_2 A (.ref de) (.int (0 : Int32)) (.int mc)) :: (t, RarP A "java/lang/Object" "[Ljava/lang/Object;" (List.replicate 10 .null)) :: F)) rfl rfl ?_
  refine Go.putfield (B := B_grI) td_grI 33 (fs' := [("java/util/ArrayList", "elementData", "[Ljava/lang/Object;", .ref t), ("java/util/ArrayList", "size", "I", .int (0 : Int32)), ("java/util/AbstractList", "modCount", "I", .int mc)]) rfl (w_58 K) (Or.inl (w_59 K)) (w_37 K) rfl rfl rfl (mi 0 rfl) (own_fs 0 (ns := ["size", "modCount"]) rfl (by decide) rfl) ?_
  exact Go.retA (B := B_grI) td_grI 34 rfl rfl rfl rfl ⟨t, rfl, rfl, rfl⟩ (by decide) (by decide)
def tb_gr0 : List In1 := [(0, .aload_n 0, 1), (1, .aload_n 0, 1), (2, .getfield 48, 3), (5, .iconst 1, 1), (6, .iadd, 1), (7, .invokevirtual 69, 3), (10, .areturn, 1)]
set_option maxRecDepth 65536 in
theorem td_gr0 : Dec jdk_38_method_7_code tb_gr0 := by unfold Dec; decide +kernel
theorem pd_gr0 : parseMethodDescriptor "()[Ljava/lang/Object;" = some ⟨[], (some (.array (.object "java/lang/Object")))⟩ := by decide +kernel
theorem pn_gr0 : plainFor (⟨"java/util/ArrayList", "grow", "()[Ljava/lang/Object;"⟩ : MethodName) = true := by decide +kernel
abbrev B_gr0 : Bx := ((⟨"java/util/ArrayList", "grow", "()[Ljava/lang/Object;"⟩ : MethodName), jdk_38_method_7_code, 1, (Option.some (Jvm.ClassFile.FieldType.array (Jvm.ClassFile.FieldType.object "java/lang/Object"))), ({ frames := 2, cells := 1, slots := 10, locals := 29 } : Room))
set_option maxRecDepth 65536 in
set_option maxHeartbeats 4000000 in
theorem gr0_met {A : Ax} (K : Wd A) {de o : Addr} {mc : Int32} (S : Ens A de) {F G : List Ent} (hG : ∀ q ∈ G0 A de, q ∈ G) : Met A B_gr0 #[.ref o] ((o, ob_2 A (.ref de) (.int (0 : Int32)) (.int mc)) :: F) G (fun v F' G' => ∃ t, v = some (.ref t) ∧ ((o, ob_2 A (.ref t) (.int (0 : Int32)) (.int mc)) :: (t, RarP A "java/lang/Object" "[Ljava/lang/Object;" (List.replicate 10 .null)) :: F) = F' ∧ G = G') := by
  refine MetW.of_go pn_gr0 K.ew (L := [.val (.ref o)]) (fun m => rfl) ?_
  intro D _
  refine Go.rn (B := B_gr0) td_gr0 0 2 (pc' := 2) (S' := [.ref o, .ref o]) rfl ?_
  refine Go.getfield (B := B_gr0) td_gr0 2 rfl (w_86 K) (Or.inl (mi 0 rfl)) (mi 1 rfl) ?_
  refine Go.rn (B := B_gr0) td_gr0 3 2 (pc' := 7) (S' := [.int ((0 : Int32) + (1 : Int32)), .ref o]) rfl ?_
  rw [show (0 : Int32) + (1 : Int32) = 1 by decide]
  show Go A B_gr0 D _ 7 [.val (.ref o)] [.int (1 : Int32), .ref o] ((o, ob_2 A (.ref de) (.int (0 : Int32)) (.int mc)) :: F) G 0 0
  refine Go.callPS (B := B_gr0) td_gr0 5 (B' := B_grI) (C := "java/util/ArrayList") (a := o) (argsL := [.int (1 : Int32)]) (rest := []) (W := 0) rfl (grI_met K S hG) (Or.inl (mi 0 rfl)) (fun c P => P.1) (w_315 K) (w_316 K) (w_317 K) (w_318 K) rfl (w_38 K) (w_319 K) (by decide) pd_grI rfl rfl rfl rfl (Nat.le_of_eq rfl) (by decide) (by decide) (by decide) (by decide) ?_
  rintro _ _ _ ⟨t, rfl, rfl, rfl⟩
  show Go A B_gr0 D _ 10 _ [.ref t] ((o, ob_2 A (.ref t) (.int (0 : Int32)) (.int mc)) :: (t, RarP A "java/lang/Object" "[Ljava/lang/Object;" (List.replicate 10 .null)) :: F) _ 1 10
  exact Go.retA (B := B_gr0) td_gr0 6 rfl rfl rfl rfl ⟨t, rfl, rfl, rfl⟩ (by decide) (by decide)
def tb_ad3 : List In1 := [(0, .iload_n 3, 1), (1, .aload_n 2, 1), (2, .arraylength, 1), (3, .if_icmp .ne 8, 3), (6, .aload_n 0, 1), (7, .invokevirtual 129, 3), (10, .astore_n 2, 1), (11, .aload_n 2, 1), (12, .iload_n 3, 1), (13, .aload_n 1, 1), (14, .aastore, 1), (15, .aload_n 0, 1), (16, .iload_n 3, 1), (17, .iconst 1, 1), (18, .iadd, 1), (19, .putfield 48, 3), (22, .return_, 1)]
set_option maxRecDepth 65536 in
theorem td_ad3 : Dec jdk_38_method_24_code tb_ad3 := by unfold Dec; decide +kernel
theorem pd_ad3 : parseMethodDescriptor "(Ljava/lang/Object;[Ljava/lang/Object;I)V" = some ⟨[(.object "java/lang/Object"), (.array (.object "java/lang/Object")), .int], none⟩ := by decide +kernel
theorem pn_ad3 : plainFor (⟨"java/util/ArrayList", "add", "(Ljava/lang/Object;[Ljava/lang/Object;I)V"⟩ : MethodName) = true := by decide +kernel
abbrev B_ad3 : Bx := ((⟨"java/util/ArrayList", "add", "(Ljava/lang/Object;[Ljava/lang/Object;I)V"⟩ : MethodName), jdk_38_method_24_code, 4, (Option.none : Option Jvm.ClassFile.FieldType), ({ frames := 3, cells := 1, slots := 10, locals := 41 } : Room))
set_option maxRecDepth 65536 in
set_option maxHeartbeats 4000000 in
theorem ad30_met {A : Ax} (K : Wd A) {de o x : Addr} {mc : Int32} {fx : List (String × String × String × Value)} (S : Ens A de) {F G : List Ent} (hG : ∀ q ∈ G0 A de, q ∈ G) (mx : (x, ObjP A "com/example/attentive_search/attentivesearch/Highlight$Mark" fx) ∈ F ∨ (x, ObjP A "com/example/attentive_search/attentivesearch/Highlight$Mark" fx) ∈ G) : Met A B_ad3 #[.ref o, .ref x, .ref de, .int (0 : Int32)] ((o, ob_2 A (.ref de) (.int (0 : Int32)) (.int mc)) :: F) G (fun v F' G' => v = none ∧ (∃ t, ((o, ob_2 A (.ref t) (.int (1 : Int32)) (.int mc)) :: (t, RarP A "java/lang/Object" "[Ljava/lang/Object;" [.ref x, .null, .null, .null, .null, .null, .null, .null, .null, .null]) :: F) = F') ∧ G = G') := by
  refine MetW.of_go pn_ad3 K.ew (L := [.val (.ref o), .val (.ref x), .val (.ref de), .val (.int (0 : Int32))]) (fun m => rfl) ?_
  intro D _
  refine Go.rn (B := B_ad3) td_ad3 0 2 (pc' := 2) (S' := [.ref de, .int (0 : Int32)]) rfl ?_
  refine Go.arraylengthP (B := B_ad3) td_ad3 2 (z := (0 : Int32)) rfl (Or.inr (hG _ (mi 0 rfl))) (fun c P => P.1) rfl ?_
  refine Go.icmp (B := B_ad3) td_ad3 3 (pc' := 11) rfl (by decide) rfl (fun (h : (0 : Int32) ≠ (0 : Int32)) => absurd h (fun z => z rfl)) (fun _ => ?_)
  refine Go.rn (B := B_ad3) td_ad3 4 1 (pc' := 7) (S' := [.ref o]) rfl ?_
  refine Go.callPS (B := B_ad3) td_ad3 5 (B' := B_gr0) (C := "java/util/ArrayList") (a := o) (argsL := []) (rest := []) (W := 0) rfl (gr0_met K S hG) (Or.inl (mi 0 rfl)) (fun c P => P.1) (w_310 K) (w_311 K) (w_312 K) (w_313 K) rfl (w_38 K) (w_314 K) (by decide) pd_gr0 rfl rfl rfl rfl (Nat.le_of_eq rfl) (by decide) (by decide) (by decide) (by decide) ?_
  rintro _ _ _ ⟨t, rfl, rfl, rfl⟩
  show Go A B_ad3 D _ 10 _ [.ref t] ((o, ob_2 A (.ref t) (.int (0 : Int32)) (.int mc)) :: (t, RarP A "java/lang/Object" "[Ljava/lang/Object;" (List.replicate 10 .null)) :: F) _ 1 10
  refine Go.run (B := B_ad3) td_ad3 6 4 (pc' := 14) (L' := [.val (.ref o), .val (.ref x), .val (.ref t), .val (.int (0 : Int32))]) (S' := [.ref x, .int (0 : Int32), .ref t]) rfl ?_
  refine Go.front 1 (F' := ((t, RarP A "java/lang/Object" "[Ljava/lang/Object;" (List.replicate 10 .null)) :: (o, ob_2 A (.ref t) (.int (0 : Int32)) (.int mc)) :: F)) rfl rfl ?_
  refine Go.aastore (B := B_ad3) td_ad3 10 (vs' := [.ref x, .null, .null, .null, .null, .null, .null, .null, .null, .null]) rfl (own_inB 10 rfl (by decide)) (mx.imp (fun h => .tail _ (.tail _ h)) id) (fun c P => P.1) (w_323 K) rfl ?_
  refine Go.rn (B := B_ad3) td_ad3 11 4 (pc' := 19) (S' := [.int ((0 : Int32) + (1 : Int32)), .ref o]) rfl ?_
  rw [show (0 : Int32) + (1 : Int32) = 1 by decide]
  show Go A B_ad3 D _ 19 [.val (.ref o), .val (.ref x), .val (.ref t), .val (.int (0 : Int32))] [.int (1 : Int32), .ref o] ((t, RarP A "java/lang/Object" "[Ljava/lang/Object;" [.ref x, .null, .null, .null, .null, .null, .null, .null, .null, .null]) :: (o, ob_2 A (.ref t) (.int (0 : Int32)) (.int mc)) :: F) G 1 10
  refine Go.front 1 (F' := ((o, ob_2 A (.ref t) (.int (0 : Int32)) (.int mc)) :: (t, RarP A "java/lang/Object" "[Ljava/lang/Object;" [.ref x, .null, .null, .null, .null, .null, .null, .null, .null, .null]) :: F)) rfl rfl ?_
  refine Go.putfield (B := B_ad3) td_ad3 15 (fs' := [("java/util/ArrayList", "elementData", "[Ljava/lang/Object;", .ref t), ("java/util/ArrayList", "size", "I", .int (1 : Int32)), ("java/util/AbstractList", "modCount", "I", .int mc)]) rfl (w_86 K) (Or.inl (w_87 K)) (w_37 K) rfl rfl rfl (mi 1 rfl) (own_fs 1 (ns := ["elementData", "modCount"]) rfl (by decide) rfl) ?_
  exact Go.retV (B := B_ad3) td_ad3 16 rfl rfl ⟨rfl, ⟨t, rfl⟩, rfl⟩ (by decide) (by decide)
set_option maxRecDepth 65536 in
set_option maxHeartbeats 4000000 in
theorem ad31_met {A : Ax} (K : Wd A) {o t x y : Addr} {mc : Int32} {fx : List (String × String × String × Value)} {F G : List Ent} (mx : (x, ObjP A "com/example/attentive_search/attentivesearch/Highlight$Mark" fx) ∈ F ∨ (x, ObjP A "com/example/attentive_search/attentivesearch/Highlight$Mark" fx) ∈ G) : Met A B_ad3 #[.ref o, .ref x, .ref t, .int (1 : Int32)] ((o, ob_2 A (.ref t) (.int (1 : Int32)) (.int mc)) :: (t, RarP A "java/lang/Object" "[Ljava/lang/Object;" [.ref y, .null, .null, .null, .null, .null, .null, .null, .null, .null]) :: F) G (fun v F' G' => v = none ∧ ((o, ob_2 A (.ref t) (.int (2 : Int32)) (.int mc)) :: (t, RarP A "java/lang/Object" "[Ljava/lang/Object;" [.ref y, .ref x, .null, .null, .null, .null, .null, .null, .null, .null]) :: F) = F' ∧ G = G') := by
  refine MetW.of_go pn_ad3 K.ew (L := [.val (.ref o), .val (.ref x), .val (.ref t), .val (.int (1 : Int32))]) (fun m => rfl) ?_
  intro D _
  refine Go.rn (B := B_ad3) td_ad3 0 2 (pc' := 2) (S' := [.ref t, .int (1 : Int32)]) rfl ?_
  refine Go.arraylengthP (B := B_ad3) td_ad3 2 (z := (10 : Int32)) rfl (Or.inl (mi 1 rfl)) (fun c P => P.1.1) rfl ?_
  refine Go.icmp (B := B_ad3) td_ad3 3 (pc' := 11) rfl (by decide) rfl (fun _ => ?_) (fun (h : ¬ ((1 : Int32) ≠ (10 : Int32))) => absurd (by decide) h)
  refine Go.rn (B := B_ad3) td_ad3 7 3 (pc' := 14) (S' := [.ref x, .int (1 : Int32), .ref t]) rfl ?_
  refine Go.front 1 (F' := ((t, RarP A "java/lang/Object" "[Ljava/lang/Object;" [.ref y, .null, .null, .null, .null, .null, .null, .null, .null, .null]) :: (o, ob_2 A (.ref t) (.int (1 : Int32)) (.int mc)) :: F)) rfl rfl ?_
  refine Go.aastore (B := B_ad3) td_ad3 10 (vs' := [.ref y, .ref x, .null, .null, .null, .null, .null, .null, .null, .null]) rfl (own_inB 10 rfl (by decide)) (mx.imp (fun h => .tail _ (.tail _ h)) id) (fun c P => P.1) (w_323 K) rfl ?_
  refine Go.rn (B := B_ad3) td_ad3 11 4 (pc' := 19) (S' := [.int ((1 : Int32) + (1 : Int32)), .ref o]) rfl ?_
  rw [show (1 : Int32) + (1 : Int32) = 2 by decide]
  show Go A B_ad3 D _ 19 [.val (.ref o), .val (.ref x), .val (.ref t), .val (.int (1 : Int32))] [.int (2 : Int32), .ref o] ((t, RarP A "java/lang/Object" "[Ljava/lang/Object;" [.ref y, .ref x, .null, .null, .null, .null, .null, .null, .null, .null]) :: (o, ob_2 A (.ref t) (.int (1 : Int32)) (.int mc)) :: F) G 0 0
  refine Go.front 1 (F' := ((o, ob_2 A (.ref t) (.int (1 : Int32)) (.int mc)) :: (t, RarP A "java/lang/Object" "[Ljava/lang/Object;" [.ref y, .ref x, .null, .null, .null, .null, .null, .null, .null, .null]) :: F)) rfl rfl ?_
  refine Go.putfield (B := B_ad3) td_ad3 15 (fs' := [("java/util/ArrayList", "elementData", "[Ljava/lang/Object;", .ref t), ("java/util/ArrayList", "size", "I", .int (2 : Int32)), ("java/util/AbstractList", "modCount", "I", .int mc)]) rfl (w_86 K) (Or.inl (w_87 K)) (w_37 K) rfl rfl rfl (mi 1 rfl) (own_fs 1 (ns := ["elementData", "modCount"]) rfl (by decide) rfl) ?_
  exact Go.retV (B := B_ad3) td_ad3 16 rfl rfl ⟨rfl, rfl, rfl⟩ (by decide) (by decide)
def tb_add : List In1 := [(0, .aload_n 0, 1), (1, .dup, 1), (2, .getfield 63, 3), (5, .iconst 1, 1), (6, .iadd, 1), (7, .putfield 63, 3), (10, .aload_n 0, 1), (11, .aload_n 1, 1), (12, .aload_n 0, 1), (13, .getfield 9, 3), (16, .aload_n 0, 1), (17, .getfield 48, 3), (20, .invokevirtual 131, 3), (23, .iconst 1, 1), (24, .ireturn, 1)]
set_option maxRecDepth 65536 in
theorem td_add : Dec jdk_38_method_25_code tb_add := by unfold Dec; decide +kernel
theorem pd_add : parseMethodDescriptor "(Ljava/lang/Object;)Z" = some ⟨[(.object "java/lang/Object")], (some .boolean)⟩ := by decide +kernel
theorem pn_add : plainFor (⟨"java/util/ArrayList", "add", "(Ljava/lang/Object;)Z"⟩ : MethodName) = true := by decide +kernel
abbrev B_add : Bx := ((⟨"java/util/ArrayList", "add", "(Ljava/lang/Object;)Z"⟩ : MethodName), jdk_38_method_25_code, 2, (Option.some Jvm.ClassFile.FieldType.boolean), ({ frames := 4, cells := 1, slots := 10, locals := 56 } : Room))
set_option maxRecDepth 65536 in
set_option maxHeartbeats 4000000 in
theorem add0_met {A : Ax} (K : Wd A) {de o x : Addr} {mc : Int32} {fx : List (String × String × String × Value)} (S : Ens A de) {F G : List Ent} (hG : ∀ q ∈ G0 A de, q ∈ G) (mx : (x, ObjP A "com/example/attentive_search/attentivesearch/Highlight$Mark" fx) ∈ F ∨ (x, ObjP A "com/example/attentive_search/attentivesearch/Highlight$Mark" fx) ∈ G) : Met A B_add #[.ref o, .ref x] ((o, ob_2 A (.ref de) (.int (0 : Int32)) (.int mc)) :: F) G (fun v F' G' => v = some (.int 1) ∧ (∃ t, ((o, ob_2 A (.ref t) (.int (1 : Int32)) (.int (mc + (1 : Int32)))) :: (t, RarP A "java/lang/Object" "[Ljava/lang/Object;" [.ref x, .null, .null, .null, .null, .null, .null, .null, .null, .null]) :: F) = F') ∧ G = G') := by
  refine MetW.of_go pn_add K.ew (L := [.val (.ref o), .val (.ref x)]) (fun m => rfl) ?_
  intro D _
  refine Go.rn (B := B_add) td_add 0 2 (pc' := 2) (S' := [.ref o, .ref o]) rfl ?_
  refine Go.getfieldVia (B := B_add) td_add 2 rfl (w_304 K) (Via.of (w_127 K)) (Or.inl (mi 0 rfl)) (mi 2 rfl) ?_
  refine Go.rn (B := B_add) td_add 3 2 (pc' := 7) (S' := [.int (mc + (1 : Int32)), .ref o]) rfl ?_
  refine Go.putfieldVia (B := B_add) td_add 5 (fs' := [("java/util/ArrayList", "elementData", "[Ljava/lang/Object;", .ref de), ("java/util/ArrayList", "size", "I", .int (0 : Int32)), ("java/util/AbstractList", "modCount", "I", .int (mc + (1 : Int32)))]) rfl (w_304 K) (Via.of (w_127 K)) (w_56 K) (w_37 K) rfl rfl rfl (mi 2 rfl) (own_fs 2 (ns := ["elementData", "size"]) rfl (by decide) rfl) ?_
  refine Go.rn (B := B_add) td_add 6 3 (pc' := 13) (S' := [.ref o, .ref x, .ref o]) rfl ?_
  refine Go.getfield (B := B_add) td_add 9 rfl (w_58 K) (Or.inl (mi 0 rfl)) (mi 0 rfl) ?_
  refine Go.rn (B := B_add) td_add 10 1 (pc' := 17) (S' := [.ref o, .ref de, .ref x, .ref o]) rfl ?_
  refine Go.getfield (B := B_add) td_add 11 rfl (w_86 K) (Or.inl (mi 0 rfl)) (mi 1 rfl) ?_
  refine Go.callPS (B := B_add) td_add 12 (B' := B_ad3) (C := "java/util/ArrayList") (a := o) (argsL := [.ref x, .ref de, .int (0 : Int32)]) (rest := []) (W := 0) rfl (ad30_met K S hG mx) (Or.inl (mi 0 rfl)) (fun c P => P.1) (w_305 K) (w_306 K) (w_307 K) (w_308 K) rfl (w_38 K) (w_309 K) (by decide) pd_ad3 rfl rfl rfl rfl (Nat.le_of_eq rfl) (by decide) (by decide) (by decide) (by decide) ?_
  rintro _ _ _ ⟨rfl, ⟨t, rfl⟩, rfl⟩
  show Go A B_add D _ 23 _ [] ((o, ob_2 A (.ref t) (.int (1 : Int32)) (.int (mc + (1 : Int32)))) :: (t, RarP A "java/lang/Object" "[Ljava/lang/Object;" [.ref x, .null, .null, .null, .null, .null, .null, .null, .null, .null]) :: F) _ 1 10
  refine Go.rn (B := B_add) td_add 13 1 (pc' := 24) (S' := [.int (1 : Int32)]) rfl ?_
  exact Go.retZ (B := B_add) td_add 14 rfl rfl rfl ⟨rfl, ⟨t, rfl⟩, rfl⟩ (by decide) (by decide)
set_option maxRecDepth 65536 in
set_option maxHeartbeats 4000000 in
theorem add1_met {A : Ax} (K : Wd A) {o t x y : Addr} {mc : Int32} {fx : List (String × String × String × Value)} {F G : List Ent} (mx : (x, ObjP A "com/example/attentive_search/attentivesearch/Highlight$Mark" fx) ∈ F ∨ (x, ObjP A "com/example/attentive_search/attentivesearch/Highlight$Mark" fx) ∈ G) : Met A B_add #[.ref o, .ref x] ((o, ob_2 A (.ref t) (.int (1 : Int32)) (.int mc)) :: (t, RarP A "java/lang/Object" "[Ljava/lang/Object;" [.ref y, .null, .null, .null, .null, .null, .null, .null, .null, .null]) :: F) G (fun v F' G' => v = some (.int 1) ∧ ((o, ob_2 A (.ref t) (.int (2 : Int32)) (.int (mc + (1 : Int32)))) :: (t, RarP A "java/lang/Object" "[Ljava/lang/Object;" [.ref y, .ref x, .null, .null, .null, .null, .null, .null, .null, .null]) :: F) = F' ∧ G = G') := by
  refine MetW.of_go pn_add K.ew (L := [.val (.ref o), .val (.ref x)]) (fun m => rfl) ?_
  intro D _
  refine Go.rn (B := B_add) td_add 0 2 (pc' := 2) (S' := [.ref o, .ref o]) rfl ?_
  refine Go.getfieldVia (B := B_add) td_add 2 rfl (w_304 K) (Via.of (w_127 K)) (Or.inl (mi 0 rfl)) (mi 2 rfl) ?_
  refine Go.rn (B := B_add) td_add 3 2 (pc' := 7) (S' := [.int (mc + (1 : Int32)), .ref o]) rfl ?_
  refine Go.putfieldVia (B := B_add) td_add 5 (fs' := [("java/util/ArrayList", "elementData", "[Ljava/lang/Object;", .ref t), ("java/util/ArrayList", "size", "I", .int (1 : Int32)), ("java/util/AbstractList", "modCount", "I", .int (mc + (1 : Int32)))]) rfl (w_304 K) (Via.of (w_127 K)) (w_56 K) (w_37 K) rfl rfl rfl (mi 2 rfl) (own_fs 2 (ns := ["elementData", "size"]) rfl (by decide) rfl) ?_
  refine Go.rn (B := B_add) td_add 6 3 (pc' := 13) (S' := [.ref o, .ref x, .ref o]) rfl ?_
  refine Go.getfield (B := B_add) td_add 9 rfl (w_58 K) (Or.inl (mi 0 rfl)) (mi 0 rfl) ?_
  refine Go.rn (B := B_add) td_add 10 1 (pc' := 17) (S' := [.ref o, .ref t, .ref x, .ref o]) rfl ?_
  refine Go.getfield (B := B_add) td_add 11 rfl (w_86 K) (Or.inl (mi 0 rfl)) (mi 1 rfl) ?_
  refine Go.callPS (B := B_add) td_add 12 (B' := B_ad3) (C := "java/util/ArrayList") (a := o) (argsL := [.ref x, .ref t, .int (1 : Int32)]) (rest := []) (W := 0) rfl (ad31_met K mx) (Or.inl (mi 0 rfl)) (fun c P => P.1) (w_305 K) (w_306 K) (w_307 K) (w_308 K) rfl (w_38 K) (w_309 K) (by decide) pd_ad3 rfl rfl rfl rfl (Nat.le_of_eq rfl) (by decide) (by decide) (by decide) (by decide) ?_
  rintro _ _ _ ⟨rfl, rfl, rfl⟩
  show Go A B_add D _ 23 _ [] ((o, ob_2 A (.ref t) (.int (2 : Int32)) (.int (mc + (1 : Int32)))) :: (t, RarP A "java/lang/Object" "[Ljava/lang/Object;" [.ref y, .ref x, .null, .null, .null, .null, .null, .null, .null, .null]) :: F) _ 1 10
  refine Go.rn (B := B_add) td_add 13 1 (pc' := 24) (S' := [.int (1 : Int32)]) rfl ?_
  exact Go.retZ (B := B_add) td_add 14 rfl rfl rfl ⟨rfl, rfl, rfl⟩ (by decide) (by decide)
--CUT
def tb_iti : List In1 := [(0, .aload_n 0, 1), (1, .aload_n 1, 1), (2, .putfield 1, 3), (5, .aload_n 0, 1), (6, .invokespecial 7, 3), (9, .aload_n 0, 1), (10, .iconst (-1), 1), (11, .putfield 13, 3), (14, .aload_n 0, 1), (15, .aload_n 0, 1), (16, .getfield 1, 3), (19, .getfield 17, 3), (22, .putfield 22, 3), (25, .return_, 1)]
set_option maxRecDepth 65536 in
theorem td_iti : Dec jdk_49_method_1_code tb_iti := by unfold Dec; decide +kernel
theorem pd_iti : parseMethodDescriptor "(Ljava/util/ArrayList;)V" = some ⟨[(.object "java/util/ArrayList")], none⟩ := by decide +kernel
theorem pn_iti : plainFor (⟨"java/util/ArrayList$Itr", "<init>", "(Ljava/util/ArrayList;)V"⟩ : MethodName) = true := by decide +kernel
abbrev B_iti : Bx := ((⟨"java/util/ArrayList$Itr", "<init>", "(Ljava/util/ArrayList;)V"⟩ : MethodName), jdk_49_method_1_code, 2, (Option.none : Option Jvm.ClassFile.FieldType), ({ frames := 1, cells := 0, slots := 0, locals := 12 } : Room))
abbrev ob_4 (A : Ax) (v0 v1 v2 v3 : Value) : Cell → Prop := ObjP A "java/util/ArrayList$Itr" [("java/util/ArrayList$Itr", "this$0", "Ljava/util/ArrayList;", v0), ("java/util/ArrayList$Itr", "lastRet", "I", v1), ("java/util/ArrayList$Itr", "expectedModCount", "I", v2), ("java/util/ArrayList$Itr", "cursor", "I", v3)]
set_option maxRecDepth 65536 in
set_option maxHeartbeats 4000000 in
theorem iti_met {A : Ax} (K : Wd A) {it o ed : Addr} {sz mc : Int32} {F G : List Ent} (m : (o, ob_2 A (.ref ed) (.int sz) (.int mc)) ∈ G) : Met A B_iti #[.ref it, .ref o] ((it, ob_4 A .null (.int (0 : Int32)) (.int (0 : Int32)) (.int (0 : Int32))) :: F) G (fun v F' G' => v = none ∧ ((it, ob_4 A (.ref o) (.int (-1 : Int32)) (.int mc) (.int (0 : Int32))) :: F) = F' ∧ G = G') := by
  refine MetW.of_go pn_iti K.ew (L := [.val (.ref it), .val (.ref o)]) (fun m => rfl) ?_
  intro D _
  refine Go.rn (B := B_iti) td_iti 0 2 (pc' := 2) (S' := [.ref o, .ref it]) rfl ?_
  refine Go.putfield (B := B_iti) td_iti 2 (fs' := [("java/util/ArrayList$Itr", "this$0", "Ljava/util/ArrayList;", .ref o), ("java/util/ArrayList$Itr", "lastRet", "I", .int (0 : Int32)), ("java/util/ArrayList$Itr", "expectedModCount", "I", .int (0 : Int32)), ("java/util/ArrayList$Itr", "cursor", "I", .int (0 : Int32))]) rfl (w_121 K) (Or.inr ⟨(w_122 K), rfl, rfl⟩) (w_115 K) rfl rfl rfl (mi 0 rfl) (own_fs 0 (ns := ["lastRet", "expectedModCount", "cursor"]) rfl (by decide) rfl) ?_
  refine Go.rn (B := B_iti) td_iti 3 1 (pc' := 6) (S' := [.ref it]) rfl ?_
  refine Go.initObject (B := B_iti) td_iti 4 (W := 0) rfl (w_123 K) (w_17 K) (w_18 K) rfl (by decide) (Nat.le_of_eq rfl) (by decide) ?_
  refine Go.rn (B := B_iti) td_iti 5 2 (pc' := 11) (S' := [.int (-1 : Int32), .ref it]) rfl ?_
  refine Go.putfield (B := B_iti) td_iti 7 (fs' := [("java/util/ArrayList$Itr", "this$0", "Ljava/util/ArrayList;", .ref o), ("java/util/ArrayList$Itr", "lastRet", "I", .int (-1 : Int32)), ("java/util/ArrayList$Itr", "expectedModCount", "I", .int (0 : Int32)), ("java/util/ArrayList$Itr", "cursor", "I", .int (0 : Int32))]) rfl (w_124 K) (Or.inl (w_125 K)) (w_115 K) rfl rfl rfl (mi 1 rfl) (own_fs 1 (ns := ["this$0", "expectedModCount", "cursor"]) rfl (by decide) rfl) ?_
  refine Go.rn (B := B_iti) td_iti 8 2 (pc' := 16) (S' := [.ref it, .ref it]) rfl ?_
  refine Go.getfield (B := B_iti) td_iti 10 rfl (w_121 K) (Or.inl (mi 0 rfl)) (mi 0 rfl) ?_
  refine Go.getfieldVia (B := B_iti) td_iti 11 rfl (w_126 K) (Via.of (w_127 K)) (Or.inr m) (mi 2 rfl) ?_
  refine Go.putfield (B := B_iti) td_iti 12 (fs' := [("java/util/ArrayList$Itr", "this$0", "Ljava/util/ArrayList;", .ref o), ("java/util/ArrayList$Itr", "lastRet", "I", .int (-1 : Int32)), ("java/util/ArrayList$Itr", "expectedModCount", "I", .int mc), ("java/util/ArrayList$Itr", "cursor", "I", .int (0 : Int32))]) rfl (w_128 K) (Or.inl (w_129 K)) (w_115 K) rfl rfl rfl (mi 2 rfl) (own_fs 2 (ns := ["this$0", "lastRet", "cursor"]) rfl (by decide) rfl) ?_
  exact Go.retV (B := B_iti) td_iti 13 rfl rfl ⟨rfl, rfl, rfl⟩ (by decide) (by decide)
def tb_itn : List In1 := [(0, .new 267, 3), (3, .dup, 1), (4, .aload_n 0, 1), (5, .invokespecial 269, 3), (8, .areturn, 1)]
set_option maxRecDepth 65536 in
theorem td_itn : Dec jdk_38_method_55_code tb_itn := by unfold Dec; decide +kernel
theorem pd_itn : parseMethodDescriptor "()Ljava/util/Iterator;" = some ⟨[], (some (.object "java/util/Iterator"))⟩ := by decide +kernel
theorem pn_itn : plainFor (⟨"java/util/ArrayList", "iterator", "()Ljava/util/Iterator;"⟩ : MethodName) = true := by decide +kernel
abbrev B_itn : Bx := ((⟨"java/util/ArrayList", "iterator", "()Ljava/util/Iterator;"⟩ : MethodName), jdk_38_method_55_code, 1, (Option.some (Jvm.ClassFile.FieldType.object "java/util/Iterator")), ({ frames := 2, cells := 1, slots := 4, locals := 26 } : Room))
set_option maxRecDepth 65536 in
set_option maxHeartbeats 4000000 in
theorem itn_met {A : Ax} (K : Wd A) {o ed : Addr} {sz mc : Int32} {F G : List Ent} (m : (o, ob_2 A (.ref ed) (.int sz) (.int mc)) ∈ G) : Met A B_itn #[.ref o] F G (fun v F' G' => ∃ it, v = some (.ref it) ∧ ((it, ob_4 A (.ref o) (.int (-1 : Int32)) (.int mc) (.int (0 : Int32))) :: F) = F' ∧ G = G') := by
  refine MetW.of_go pn_itn K.ew (L := [.val (.ref o)]) (fun m => rfl) ?_
  intro D _
  refine Go.new (B := B_itn) td_itn 0 (fs := [("java/util/ArrayList$Itr", "this$0", "Ljava/util/ArrayList;", .null), ("java/util/ArrayList$Itr", "lastRet", "I", .int (0 : Int32)), ("java/util/ArrayList$Itr", "expectedModCount", "I", .int (0 : Int32)), ("java/util/ArrayList$Itr", "cursor", "I", .int (0 : Int32))]) rfl (w_114 K) (w_115 K) (w_116 K) (own_layS (Or.inr (w_122 K)) rfl rfl (own_layS (Or.inl (w_125 K)) rfl rfl (own_layS (Or.inl (w_129 K)) rfl rfl (own_layS (Or.inl (w_140 K)) rfl rfl own_lay0)))) (by decide) (by decide) ?_
  intro it
  show Go A B_itn D _ 3 _ [.ref it] _ _ 1 4
  refine Go.rn (B := B_itn) td_itn 1 2 (pc' := 5) (S' := [.ref o, .ref it, .ref it]) rfl ?_
  refine Go.callN (B := B_itn) td_itn 3 (B' := B_iti) (a := it) (argsL := [.ref o]) (rest := [.ref it]) (W := 1) rfl (iti_met K m) rfl rfl (w_117 K) (w_118 K) (w_116 K) (w_120 K) (by decide) pd_iti rfl rfl rfl rfl (Nat.le_of_eq rfl) (by decide) (by decide) (by decide) (by decide) ?_
  rintro _ _ _ ⟨rfl, rfl, rfl⟩
  show Go A B_itn D _ 8 _ [.ref it] ((it, ob_4 A (.ref o) (.int (-1 : Int32)) (.int mc) (.int (0 : Int32))) :: F) _ 1 4
  exact Go.retA (B := B_itn) td_itn 4 rfl rfl rfl rfl ⟨it, rfl, rfl, rfl⟩ (by decide) (by decide)
def tb_hsn : List In1 := [(0, .aload_n 0, 1), (1, .getfield 25, 3), (4, .aload_n 0, 1), (5, .getfield 1, 3), (8, .getfield 28, 3), (11, .if_icmp .eq 7, 3), (14, .iconst 1, 1), (15, .goto 4, 3), (18, .iconst 0, 1), (19, .ireturn, 1)]
set_option maxRecDepth 65536 in
theorem td_hsn : Dec jdk_49_method_2_code tb_hsn := by unfold Dec; decide +kernel
theorem pd_hsn : parseMethodDescriptor "()Z" = some ⟨[], (some .boolean)⟩ := by decide +kernel
theorem pn_hsn : plainFor (⟨"java/util/ArrayList$Itr", "hasNext", "()Z"⟩ : MethodName) = true := by decide +kernel
abbrev B_hsn : Bx := ((⟨"java/util/ArrayList$Itr", "hasNext", "()Z"⟩ : MethodName), jdk_49_method_2_code, 1, (Option.some Jvm.ClassFile.FieldType.boolean), ({ frames := 0, cells := 0, slots := 0, locals := 0 } : Room))
set_option maxRecDepth 65536 in
set_option maxHeartbeats 4000000 in
theorem hsnY_met {A : Ax} (K : Wd A) {it o ed : Addr} {cu la sz mc : Int32} (hh : ¬ cu = sz) {F G : List Ent} (m : (o, ob_2 A (.ref ed) (.int sz) (.int mc)) ∈ G) : Met A B_hsn #[.ref it] ((it, ob_4 A (.ref o) (.int la) (.int mc) (.int cu)) :: F) G (fun v F' G' => v = some (.int 1) ∧ ((it, ob_4 A (.ref o) (.int la) (.int mc) (.int cu)) :: F) = F' ∧ G = G') := by
  refine MetW.of_go pn_hsn K.ew (L := [.val (.ref it)]) (fun m => rfl) ?_
  intro D _
  refine Go.rn (B := B_hsn) td_hsn 0 1 (pc' := 1) (S' := [.ref it]) rfl ?_
  refine Go.getfield (B := B_hsn) td_hsn 1 rfl (w_139 K) (Or.inl (mi 0 rfl)) (mi 3 rfl) ?_
  refine Go.rn (B := B_hsn) td_hsn 2 1 (pc' := 5) (S' := [.ref it, .int cu]) rfl ?_
  refine Go.getfield (B := B_hsn) td_hsn 3 rfl (w_121 K) (Or.inl (mi 0 rfl)) (mi 0 rfl) ?_
  refine Go.getfieldNest (B := B_hsn) td_hsn 4 rfl (w_141 K) (Or.inr m) (mi 1 rfl) ?_
  refine Go.icmp (B := B_hsn) td_hsn 5 (pc' := 18) rfl (by decide) rfl (fun (h : cu = sz) => absurd h hh) (fun _ => ?_)
  refine Go.rn (B := B_hsn) td_hsn 6 2 (pc' := 19) (S' := [.int (1 : Int32)]) rfl ?_
  exact Go.retZ (B := B_hsn) td_hsn 9 rfl rfl rfl ⟨rfl, rfl, rfl⟩ (by decide) (by decide)
set_option maxRecDepth 65536 in
set_option maxHeartbeats 4000000 in
theorem hsnN_met {A : Ax} (K : Wd A) {it o ed : Addr} {cu la sz mc : Int32} (hh : cu = sz) {F G : List Ent} (m : (o, ob_2 A (.ref ed) (.int sz) (.int mc)) ∈ G) : Met A B_hsn #[.ref it] ((it, ob_4 A (.ref o) (.int la) (.int mc) (.int cu)) :: F) G (fun v F' G' => v = some (.int 0) ∧ ((it, ob_4 A (.ref o) (.int la) (.int mc) (.int cu)) :: F) = F' ∧ G = G') := by
  refine MetW.of_go pn_hsn K.ew (L := [.val (.ref it)]) (fun m => rfl) ?_
  intro D _
  refine Go.rn (B := B_hsn) td_hsn 0 1 (pc' := 1) (S' := [.ref it]) rfl ?_
  refine Go.getfield (B := B_hsn) td_hsn 1 rfl (w_139 K) (Or.inl (mi 0 rfl)) (mi 3 rfl) ?_
  refine Go.rn (B := B_hsn) td_hsn 2 1 (pc' := 5) (S' := [.ref it, .int cu]) rfl ?_
  refine Go.getfield (B := B_hsn) td_hsn 3 rfl (w_121 K) (Or.inl (mi 0 rfl)) (mi 0 rfl) ?_
  refine Go.getfieldNest (B := B_hsn) td_hsn 4 rfl (w_141 K) (Or.inr m) (mi 1 rfl) ?_
  refine Go.icmp (B := B_hsn) td_hsn 5 (pc' := 18) rfl (by decide) rfl (fun _ => ?_) (fun (h : ¬ (cu = sz)) => absurd hh h)
  refine Go.rn (B := B_hsn) td_hsn 8 1 (pc' := 19) (S' := [.int (0 : Int32)]) rfl ?_
  exact Go.retZ (B := B_hsn) td_hsn 9 rfl rfl rfl ⟨rfl, rfl, rfl⟩ (by decide) (by decide)
def tb_cfc : List In1 := [(0, .aload_n 0, 1), (1, .getfield 1, 3), (4, .getfield 17, 3), (7, .aload_n 0, 1), (8, .getfield 22, 3), (11, .if_icmp .eq 11, 3), (14, .new 41, 3), (17, .dup, 1), (18, .invokespecial 43, 3), (21, .athrow, 1), (22, .return_, 1)]
set_option maxRecDepth 65536 in
theorem td_cfc : Dec jdk_49_method_6_code tb_cfc := by unfold Dec; decide +kernel
theorem pd_cfc : parseMethodDescriptor "()V" = some ⟨[], none⟩ := by decide +kernel
theorem pn_cfc : plainFor (⟨"java/util/ArrayList$Itr", "checkForComodification", "()V"⟩ : MethodName) = true := by decide +kernel
abbrev B_cfc : Bx := ((⟨"java/util/ArrayList$Itr", "checkForComodification", "()V"⟩ : MethodName), jdk_49_method_6_code, 1, (Option.none : Option Jvm.ClassFile.FieldType), ({ frames := 0, cells := 0, slots := 0, locals := 0 } : Room))
set_option maxRecDepth 65536 in
set_option maxHeartbeats 4000000 in
theorem cfc_met {A : Ax} (K : Wd A) {it o ed : Addr} {cu la sz mc : Int32} {F G : List Ent} (m : (o, ob_2 A (.ref ed) (.int sz) (.int mc)) ∈ G) : Met A B_cfc #[.ref it] ((it, ob_4 A (.ref o) (.int la) (.int mc) (.int cu)) :: F) G (fun v F' G' => v = none ∧ ((it, ob_4 A (.ref o) (.int la) (.int mc) (.int cu)) :: F) = F' ∧ G = G') := by
  refine MetW.of_go pn_cfc K.ew (L := [.val (.ref it)]) (fun m => rfl) ?_
  intro D _
  refine Go.rn (B := B_cfc) td_cfc 0 1 (pc' := 1) (S' := [.ref it]) rfl ?_
  refine Go.getfield (B := B_cfc) td_cfc 1 rfl (w_121 K) (Or.inl (mi 0 rfl)) (mi 0 rfl) ?_
  refine Go.getfieldVia (B := B_cfc) td_cfc 2 rfl (w_126 K) (Via.of (w_127 K)) (Or.inr m) (mi 2 rfl) ?_
  refine Go.rn (B := B_cfc) td_cfc 3 1 (pc' := 8) (S' := [.ref it, .int mc]) rfl ?_
  refine Go.getfield (B := B_cfc) td_cfc 4 rfl (w_128 K) (Or.inl (mi 0 rfl)) (mi 2 rfl) ?_
  refine Go.icmp (B := B_cfc) td_cfc 5 (pc' := 22) rfl (by decide) rfl (fun _ => ?_) (fun (h : ¬ (mc = mc)) => absurd rfl h)
  exact Go.retV (B := B_cfc) td_cfc 10 rfl rfl ⟨rfl, rfl, rfl⟩ (by decide) (by decide)
def tb_nxt : List In1 := [(0, .aload_n 0, 1), (1, .invokevirtual 31, 3), (4, .aload_n 0, 1), (5, .getfield 25, 3), (8, .istore_n 1, 1), (9, .iload_n 1, 1), (10, .aload_n 0, 1), (11, .getfield 1, 3), (14, .getfield 28, 3), (17, .if_icmp .lt 11, 3), (20, .new 34, 3), (23, .dup, 1), (24, .invokespecial 36, 3), (27, .athrow, 1), (28, .aload_n 0, 1), (29, .getfield 1, 3), (32, .getfield 37, 3), (35, .astore_n 2, 1), (36, .iload_n 1, 1), (37, .aload_n 2, 1), (38, .arraylength, 1), (39, .if_icmp .lt 11, 3), (42, .new 41, 3), (45, .dup, 1), (46, .invokespecial 43, 3), (49, .athrow, 1), (50, .aload_n 0, 1), (51, .iload_n 1, 1), (52, .iconst 1, 1), (53, .iadd, 1), (54, .putfield 25, 3), (57, .aload_n 2, 1), (58, .aload_n 0, 1), (59, .iload_n 1, 1), (60, .dup_x1, 1), (61, .putfield 13, 3), (64, .aaload, 1), (65, .areturn, 1)]
set_option maxRecDepth 65536 in
theorem td_nxt : Dec jdk_49_method_3_code tb_nxt := by unfold Dec; decide +kernel
theorem pd_nxt : parseMethodDescriptor "()Ljava/lang/Object;" = some ⟨[], (some (.object "java/lang/Object"))⟩ := by decide +kernel
theorem pn_nxt : plainFor (⟨"java/util/ArrayList$Itr", "next", "()Ljava/lang/Object;"⟩ : MethodName) = true := by decide +kernel
abbrev B_nxt : Bx := ((⟨"java/util/ArrayList$Itr", "next", "()Ljava/lang/Object;"⟩ : MethodName), jdk_49_method_3_code, 3, (Option.some (Jvm.ClassFile.FieldType.object "java/lang/Object")), ({ frames := 1, cells := 0, slots := 0, locals := 12 } : Room))
set_option maxRecDepth 65536 in
set_option maxHeartbeats 4000000 in
theorem nxt_met {A : Ax} (K : Wd A) {it o ed x : Addr} {cu la sz mc : Int32} {vs : List Value} (hc : cu < sz) (hi : InB cu 10) (hv : vs.length = 10) (hx : vs[cu.toInt.toNat]? = some (.ref x)) {F G : List Ent} (m : (o, ob_2 A (.ref ed) (.int sz) (.int mc)) ∈ G) (mt : (ed, RarP A "java/lang/Object" "[Ljava/lang/Object;" vs) ∈ G) : Met A B_nxt #[.ref it] ((it, ob_4 A (.ref o) (.int la) (.int mc) (.int cu)) :: F) G (fun v F' G' => v = some (.ref x) ∧ ((it, ob_4 A (.ref o) (.int cu) (.int mc) (.int (cu + (1 : Int32)))) :: F) = F' ∧ G = G') := by
  refine MetW.of_go pn_nxt K.ew (L := [.val (.ref it), .unset, .unset]) (fun m => rfl) ?_
  intro D _
  refine Go.rn (B := B_nxt) td_nxt 0 1 (pc' := 1) (S' := [.ref it]) rfl ?_
  refine Go.callV (B := B_nxt) td_nxt 1 (B' := B_cfc) (C := "java/util/ArrayList$Itr") (a := it) (argsL := []) (rest := []) (W := 0) rfl (cfc_met K m) (Or.inl (mi 0 rfl)) (fun c P => P.1) (w_332 K) (w_333 K) (w_334 K) (w_335 K) (w_335 K) (w_116 K) (w_336 K) (by decide) pd_cfc rfl rfl rfl rfl (Nat.le_of_eq rfl) (by decide) (by decide) (by decide) (by decide) ?_
  rintro _ _ _ ⟨rfl, rfl, rfl⟩
  show Go A B_nxt D _ 4 _ [] ((it, ob_4 A (.ref o) (.int la) (.int mc) (.int cu)) :: F) _ 0 0
  refine Go.rn (B := B_nxt) td_nxt 2 1 (pc' := 5) (S' := [.ref it]) rfl ?_
  refine Go.getfield (B := B_nxt) td_nxt 3 rfl (w_139 K) (Or.inl (mi 0 rfl)) (mi 3 rfl) ?_
  refine Go.run (B := B_nxt) td_nxt 4 3 (pc' := 11) (L' := [.val (.ref it), .val (.int cu), .unset]) (S' := [.ref it, .int cu]) rfl ?_
  refine Go.getfield (B := B_nxt) td_nxt 7 rfl (w_121 K) (Or.inl (mi 0 rfl)) (mi 0 rfl) ?_
  refine Go.getfieldNest (B := B_nxt) td_nxt 8 rfl (w_141 K) (Or.inr m) (mi 1 rfl) ?_
  refine Go.icmp (B := B_nxt) td_nxt 9 (pc' := 28) rfl (by decide) rfl (fun _ => ?_) (fun (h : ¬ (cu < sz)) => absurd hc h)
  refine Go.rn (B := B_nxt) td_nxt 14 1 (pc' := 29) (S' := [.ref it]) rfl ?_
  refine Go.getfield (B := B_nxt) td_nxt 15 rfl (w_121 K) (Or.inl (mi 0 rfl)) (mi 0 rfl) ?_
  refine Go.getfield (B := B_nxt) td_nxt 16 rfl (w_337 K) (Or.inr m) (mi 0 rfl) ?_
  refine Go.run (B := B_nxt) td_nxt 17 3 (pc' := 38) (L' := [.val (.ref it), .val (.int cu), .val (.ref ed)]) (S' := [.ref ed, .int cu]) rfl ?_
  refine Go.arraylengthP (B := B_nxt) td_nxt 20 (z := (10 : Int32)) rfl (Or.inr mt) (fun c P => P.1.1) (by rw [hv]; rfl) ?_
  refine Go.icmp (B := B_nxt) td_nxt 21 (pc' := 50) rfl (by decide) rfl (fun _ => ?_) (fun (h : ¬ (cu < (10 : Int32))) => absurd (i32_lt.mpr hi.2) h)
  refine Go.rn (B := B_nxt) td_nxt 26 4 (pc' := 54) (S' := [.int (cu + (1 : Int32)), .ref it]) rfl ?_
  refine Go.putfield (B := B_nxt) td_nxt 30 (fs' := [("java/util/ArrayList$Itr", "this$0", "Ljava/util/ArrayList;", .ref o), ("java/util/ArrayList$Itr", "lastRet", "I", .int la), ("java/util/ArrayList$Itr", "expectedModCount", "I", .int mc), ("java/util/ArrayList$Itr", "cursor", "I", .int (cu + (1 : Int32)))]) rfl (w_139 K) (Or.inl (w_140 K)) (w_115 K) rfl rfl rfl (mi 3 rfl) (own_fs 3 (ns := ["this$0", "lastRet", "expectedModCount"]) rfl (by decide) rfl) ?_
  refine Go.rn (B := B_nxt) td_nxt 31 4 (pc' := 61) (S' := [.int cu, .ref it, .int cu, .ref ed]) rfl ?_
  refine Go.putfield (B := B_nxt) td_nxt 35 (fs' := [("java/util/ArrayList$Itr", "this$0", "Ljava/util/ArrayList;", .ref o), ("java/util/ArrayList$Itr", "lastRet", "I", .int cu), ("java/util/ArrayList$Itr", "expectedModCount", "I", .int mc), ("java/util/ArrayList$Itr", "cursor", "I", .int (cu + (1 : Int32)))]) rfl (w_124 K) (Or.inl (w_125 K)) (w_115 K) rfl rfl rfl (mi 1 rfl) (own_fs 1 (ns := ["this$0", "expectedModCount", "cursor"]) rfl (by decide) rfl) ?_
  refine Go.aaloadP (B := B_nxt) td_nxt 36 (v := .ref x) rfl rfl (Or.inr mt) (fun c P => P.1.1) (by rw [hv]; exact hi) hx ?_
  exact Go.retA (B := B_nxt) td_nxt 37 rfl rfl rfl rfl ⟨rfl, rfl, rfl⟩ (by decide) (by decide)
--CUT
def tb_siz : List In1 := [(0, .aload_n 0, 1), (1, .getfield 48, 3), (4, .ireturn, 1)]
set_option maxRecDepth 65536 in
theorem td_siz : Dec jdk_38_method_8_code tb_siz := by unfold Dec; decide +kernel
theorem pd_siz : parseMethodDescriptor "()I" = some ⟨[], (some .int)⟩ := by decide +kernel
theorem pn_siz : plainFor (⟨"java/util/ArrayList", "size", "()I"⟩ : MethodName) = true := by decide +kernel
abbrev B_siz : Bx := ((⟨"java/util/ArrayList", "size", "()I"⟩ : MethodName), jdk_38_method_8_code, 1, (Option.some Jvm.ClassFile.FieldType.int), ({ frames := 0, cells := 0, slots := 0, locals := 0 } : Room))
set_option maxRecDepth 65536 in
set_option maxHeartbeats 4000000 in
theorem siz_met {A : Ax} (K : Wd A) {o ed : Addr} {sz mc : Int32} {F G : List Ent} (m : (o, ob_2 A (.ref ed) (.int sz) (.int mc)) ∈ G) : Met A B_siz #[.ref o] F G (fun v F' G' => v = some (.int sz) ∧ F = F' ∧ G = G') := by
  refine MetW.of_go pn_siz K.ew (L := [.val (.ref o)]) (fun m => rfl) ?_
  intro D _
  refine Go.rn (B := B_siz) td_siz 0 1 (pc' := 1) (S' := [.ref o]) rfl ?_
  refine Go.getfield (B := B_siz) td_siz 1 rfl (w_86 K) (Or.inr m) (mi 1 rfl) ?_
  exact Go.retI (B := B_siz) td_siz 2 rfl rfl ⟨rfl, rfl, rfl⟩ (by decide) (by decide)
theorem nI_appk {pre ps : List Int32} {k : Nat} (h : ps.length = k) : nI pre.length + nI k = nI (pre ++ ps).length := by rw [nI_addn, List.length_append, h]
theorem own_split : ∀ (ps : List Int32) (k : Nat), k < ps.length → ∃ xs p ys, ps = xs ++ p :: ys ∧ xs.length = k
  | [], _, h => absurd h (Nat.not_lt_zero _)
  | p :: ys, 0, _ => ⟨[], p, ys, rfl, rfl⟩
  | q :: r, k + 1, h => by
    obtain ⟨xs, p, ys, e, l⟩ := own_split r k (Nat.lt_of_succ_lt_succ h)
    exact ⟨q :: xs, p, ys, by rw [e]; rfl, by rw [List.length_cons, l]⟩
def tb_htm : List In1 := [(0, .new 79, 3), (3, .dup, 1), (4, .aload_n 0, 1), (5, .invokevirtual 65, 3), (8, .aload_n 1, 1), (9, .invokeinterface 81 1, 5), (14, .ldc 84, 2), (16, .invokevirtual 65, 3), (19, .imul, 1), (20, .iadd, 1), (21, .invokespecial 86, 3), (24, .astore_n 2, 1), (25, .iconst 0, 1), (26, .istore_n 3, 1), (27, .aload_n 1, 1), (28, .invokeinterface 42 1, 5), (33, .astore 4, 2), (35, .aload 4, 2), (37, .invokeinterface 46 1, 5), (42, .ifCond .eq 64, 3), (45, .aload 4, 2), (47, .invokeinterface 52 1, 5), (52, .checkcast 56, 3), (55, .astore 5, 2), (57, .aload_n 0, 1), (58, .iload_n 3, 1), (59, .aload 5, 2), (61, .invokevirtual 58, 3), (64, .aload_n 2, 1), (65, .invokestatic 89, 3), (68, .aload_n 2, 1), (69, .ldc 93, 2), (71, .invokevirtual 95, 3), (74, .pop, 1), (75, .aload_n 0, 1), (76, .aload 5, 2), (78, .invokevirtual 58, 3), (81, .aload 5, 2), (83, .invokevirtual 62, 3), (86, .aload_n 2, 1), (87, .invokestatic 89, 3), (90, .aload_n 2, 1), (91, .ldc 99, 2), (93, .invokevirtual 95, 3), (96, .pop, 1), (97, .aload 5, 2), (99, .invokevirtual 62, 3), (102, .istore_n 3, 1), (103, .goto (-68), 3), (106, .aload_n 0, 1), (107, .iload_n 3, 1), (108, .aload_n 0, 1), (109, .invokevirtual 65, 3), (112, .aload_n 2, 1), (113, .invokestatic 89, 3), (116, .aload_n 2, 1), (117, .invokevirtual 101, 3), (120, .areturn, 1)]
set_option maxRecDepth 65536 in
theorem td_htm : Dec prog_6_method_4_code tb_htm := by unfold Dec; decide +kernel
theorem pd_htm : parseMethodDescriptor "(Ljava/lang/String;Ljava/util/List;)Ljava/lang/String;" = some ⟨[(.object "java/lang/String"), (.object "java/util/List")], (some (.object "java/lang/String"))⟩ := by decide +kernel
theorem pn_htm : plainFor (⟨"com/example/attentive_search/attentivesearch/Highlight", "html", "(Ljava/lang/String;Ljava/util/List;)Ljava/lang/String;"⟩ : MethodName) = true := by decide +kernel
abbrev B_htm : Bx := ((⟨"com/example/attentive_search/attentivesearch/Highlight", "html", "(Ljava/lang/String;Ljava/util/List;)Ljava/lang/String;"⟩ : MethodName), prog_6_method_4_code, 6, (Option.some (Jvm.ClassFile.FieldType.object "java/lang/String")), ({ frames := 11, cells := 35, slots := 2184, locals := 160 } : Room))
set_option maxRecDepth 65536 in
set_option maxHeartbeats 4000000 in
theorem htp {A : Ax} (K : Wd A) {D : Dx} {tx o ed : Addr} {ts : List Int32} {sz mc : Int32} {N : Nat} {Q : Pst} {F G : List Ent} (hN : nI ts.length + sz * nI 7 = nI N) (hN2 : N ≤ 64) (hlen : ts.length ≤ 3) (mS : StrR A G tx ts) (m : (o, ob_2 A (.ref ed) (.int sz) (.int mc)) ∈ G) (hk : ∀ sb it E, SBs A sb [] E → Go A B_htm D Q 35 [.val (.ref tx), .val (.ref o), .val (.ref sb), .val (.int (0 : Int32)), .val (.ref it), .unset] [] ((it, ob_4 A (.ref o) (.int (-1 : Int32)) (.int mc) (.int (0 : Int32))) :: (E ++ F)) G 5 104) : Go A B_htm D Q 0 [.val (.ref tx), .val (.ref o), .unset, .unset, .unset, .unset] [] F G 0 0 := by
  obtain ⟨bS, cdS, hm⟩ := mS.obj
  refine Go.new (B := B_htm) td_htm 0 (fs := [("java/lang/AbstractStringBuilder", "value", "[B", .null), ("java/lang/AbstractStringBuilder", "coder", "B", .int (0 : Int32)), ("java/lang/AbstractStringBuilder", "maybeLatin1", "Z", .int (0 : Int32)), ("java/lang/AbstractStringBuilder", "count", "I", .int (0 : Int32))]) rfl (w_64 K) (w_65 K) (w_66 K) (own_layS (Or.inl (w_103 K)) rfl rfl (own_layS (Or.inl (w_105 K)) rfl rfl (own_layS (Or.inl (w_433 K)) rfl rfl (own_layS (Or.inl (w_180 K)) rfl rfl own_lay0)))) (by decide) (by decide) ?_
  intro sb
  show Go A B_htm D _ 3 _ [.ref sb] _ _ 1 4
  refine Go.rn (B := B_htm) td_htm 1 2 (pc' := 5) (S' := [.ref tx, .ref sb, .ref sb]) rfl ?_
  refine Go.callV (B := B_htm) td_htm 3 (B' := B_len) (C := "java/lang/String") (a := tx) (argsL := []) (rest := [.ref sb, .ref sb]) (W := 2) rfl (lenR_met K (by omega) mS) (Or.inr hm) (fun c P => P.1) (w_67 K) (w_68 K) (w_69 K) (w_70 K) (w_70 K) (w_8 K) (w_71 K) (by decide) pd_len rfl rfl rfl rfl (Nat.le_of_eq rfl) (by decide) (by decide) (by decide) (by decide) ?_
  rintro _ _ _ ⟨rfl, rfl, rfl⟩
  show Go A B_htm D _ 8 _ [.int (nI ts.length), .ref sb, .ref sb] _ _ 1 4
  refine Go.rn (B := B_htm) td_htm 4 1 (pc' := 9) (S' := [.ref o, .int (nI ts.length), .ref sb, .ref sb]) rfl ?_
  refine Go.callI (B := B_htm) td_htm 5 (B' := B_siz) (C := "java/util/ArrayList") (a := o) (argsL := []) (rest := [.int (nI ts.length), .ref sb, .ref sb]) (W := 3) rfl (siz_met K m) (Or.inr m) (fun c P => P.1) (w_77 K) (w_78 K) (w_79 K) (w_80 K) (w_81 K) (w_82 K) (w_83 K) (w_84 K) (w_38 K) (w_85 K) (by decide) pd_siz rfl rfl rfl rfl (Nat.le_of_eq rfl) (by decide) (by decide) (by decide) (by decide) ?_
  rintro _ _ _ ⟨rfl, rfl, rfl⟩
  show Go A B_htm D _ 14 _ [.int sz, .int (nI ts.length), .ref sb, .ref sb] _ _ 1 4
  refine Go.ldcS (B := B_htm) td_htm 6 (n := 28) (vs := (latB [60, 98, 62, 60, 47, 98, 62])) rfl (w_88 K) (strAtoms K) (by rw [show A.EL = consts_1 from K.el]; decide) K.wm (by decide +kernel) (by decide) (by decide) (by decide) (by decide) (by decide) ?_
  intro a0 b0
  show Go A B_htm D _ 16 _ [.ref a0, .int sz, .int (nI ts.length), .ref sb, .ref sb] _ _ 3 36
  refine Go.callV (B := B_htm) td_htm 7 (B' := B_len) (C := "java/lang/String") (a := a0) (argsL := []) (rest := [.int sz, .int (nI ts.length), .ref sb, .ref sb]) (W := 4) rfl (lenR_met K (cs := ([60, 98, 62, 60, 47, 98, 62] : List Int32)) (by decide) ⟨b0, Or.inl ⟨by unfold Lat; decide, mi 0 rfl, mi 1 rfl⟩⟩) (Or.inr (mi 0 rfl)) (fun c P => P.1) (w_67 K) (w_68 K) (w_69 K) (w_70 K) (w_70 K) (w_8 K) (w_71 K) (by decide) pd_len rfl rfl rfl rfl (Nat.le_of_eq rfl) (by decide) (by decide) (by decide) (by decide) ?_
  rintro _ _ _ ⟨rfl, rfl, rfl⟩
  show Go A B_htm D _ 19 _ [.int (nI 7), .int sz, .int (nI ts.length), .ref sb, .ref sb] _ _ 3 36
  refine Go.gsub (G' := G) (fun x h => .tail _ (.tail _ h)) ?_
  refine Go.rn (B := B_htm) td_htm 8 2 (pc' := 21) (S' := [.int ((nI ts.length) + (sz * (nI 7))), .ref sb, .ref sb]) rfl ?_
  rw [hN]
  refine Go.callN (B := B_htm) td_htm 10 (B' := B_sbi) (a := sb) (argsL := [.int (nI N)]) (rest := [.ref sb]) (W := 1) rfl (sbi_met K (k := N) hN2) rfl rfl (w_91 K) (w_92 K) (w_66 K) (w_93 K) (by decide) pd_sbi rfl rfl rfl rfl (Nat.le_of_eq rfl) (by decide) (by decide) (by decide) (by decide) ?_
  rintro _ _ _ ⟨rfl, ⟨t, rfl⟩, rfl⟩
  show Go A B_htm D _ 24 _ [.ref sb] ((sb, ob_1 A (.ref t) (.int (0 : Int32)) (.int (0 : Int32)) (.int (0 : Int32))) :: (t, ArrP A .byte (latB (List.replicate N 0))) :: F) _ 4 100
  have hs : SBs A sb [] [(sb, ob_1 A (.ref t) (.int (0 : Int32)) (.int (0 : Int32)) (.int (0 : Int32))), (t, ArrP A .byte (latB (List.replicate N 0)))] := ⟨t, List.replicate N 0, by rw [List.length_replicate, List.length_nil]; omega, Or.inl ⟨fun c m => (nomatch m), rfl⟩⟩
  refine Go.run (B := B_htm) td_htm 11 4 (pc' := 28) (L' := [.val (.ref tx), .val (.ref o), .val (.ref sb), .val (.int (0 : Int32)), .unset, .unset]) (S' := [.ref o]) rfl ?_
  refine Go.callI (B := B_htm) td_htm 15 (B' := B_itn) (C := "java/util/ArrayList") (a := o) (argsL := []) (rest := []) (W := 0) rfl (itn_met K m) (Or.inr m) (fun c P => P.1) (w_106 K) (w_107 K) (w_108 K) (w_109 K) (w_110 K) (w_111 K) (w_112 K) (w_84 K) (w_38 K) (w_113 K) (by decide) pd_itn rfl rfl rfl rfl (Nat.le_of_eq rfl) (by decide) (by decide) (by decide) (by decide) ?_
  rintro _ _ _ ⟨it, rfl, rfl, rfl⟩
  show Go A B_htm D _ 33 _ [.ref it] ((it, ob_4 A (.ref o) (.int (-1 : Int32)) (.int mc) (.int (0 : Int32))) :: (sb, ob_1 A (.ref t) (.int (0 : Int32)) (.int (0 : Int32)) (.int (0 : Int32))) :: (t, ArrP A .byte (latB (List.replicate N 0))) :: F) _ 5 104
  refine Go.run (B := B_htm) td_htm 16 1 (pc' := 35) (L' := [.val (.ref tx), .val (.ref o), .val (.ref sb), .val (.int (0 : Int32)), .val (.ref it), .unset]) (S' := []) rfl ?_
  exact hk sb it _ hs
set_option maxRecDepth 65536 in
set_option maxHeartbeats 4000000 in
theorem htt {A : Ax} (K : Wd A) {D : Dx} {tx o ed : Addr} {ts : List Int32} {sz mc : Int32} {it sb x : Addr} {pre d1 d2 suf cs : List Int32} {p3 ms me cu la : Int32} {vs : List Value} {x5 : Slot} {c s : Nat} {Q : Pst} {E F G : List Ent} (ht : ts = pre ++ (d1 ++ (d2 ++ suf))) (h3 : p3 = nI pre.length) (hms : ms = nI (pre ++ d1).length) (hme : me = nI ((pre ++ d1) ++ d2).length) (hlen : ts.length ≤ 3) (hch : Chrs ts) (mS : StrR A G tx ts) (hs : SBs A sb cs E) (hn : cs.length + 6 * (d1.length + d2.length) + 7 ≤ 32) (hx5 : x5 = .unset ∨ ∃ v, x5 = .val (.ref v)) (hne : ¬ cu = sz) (hlt : cu < sz) (hin : InB cu 10) (hv : vs.length = 10) (hx : vs[cu.toInt.toNat]? = some (.ref x)) (m : (o, ob_2 A (.ref ed) (.int sz) (.int mc)) ∈ G) (mt : (ed, RarP A "java/lang/Object" "[Ljava/lang/Object;" vs) ∈ G) (m0 : (x, ob_3 A (.int ms) (.int me)) ∈ G) (hc : c + 4 * (d1.length + d2.length) + 8 ≤ 35) (hz : s + 284 * (d1.length + d2.length) + 548 ≤ 2184) (hk : ∀ E2, SBs A sb ((((cs ++ escLs d1) ++ ([60, 98, 62] : List Int32)) ++ escLs d2) ++ ([60, 47, 98, 62] : List Int32)) E2 → Go A B_htm D Q 35 [.val (.ref tx), .val (.ref o), .val (.ref sb), .val (.int me), .val (.ref it), .val (.ref x)] [] ((it, ob_4 A (.ref o) (.int cu) (.int mc) (.int (cu + (1 : Int32)))) :: (E2 ++ F)) G (c + 4 * (d1.length + d2.length) + 8) (s + 284 * (d1.length + d2.length) + 548)) : Go A B_htm D Q 35 [.val (.ref tx), .val (.ref o), .val (.ref sb), .val (.int p3), .val (.ref it), x5] [] ((it, ob_4 A (.ref o) (.int la) (.int mc) (.int cu)) :: (E ++ F)) G c s := by
  have q1 := escLs_len d1
  have q2 := escLs_len d2
  refine Go.rn (B := B_htm) td_htm 17 1 (pc' := 37) (S' := [.ref it]) rfl ?_
  refine Go.callI (B := B_htm) td_htm 18 (B' := B_hsn) (C := "java/util/ArrayList$Itr") (a := it) (argsL := []) (rest := []) (W := 0) rfl (hsnY_met K hne m) (Or.inl (mi 0 rfl)) (fun c P => P.1) (w_130 K) (w_131 K) (w_132 K) (w_133 K) (w_134 K) (w_135 K) (w_136 K) (w_137 K) (w_116 K) (w_138 K) (by decide) pd_hsn rfl rfl rfl rfl (Nat.le_of_eq rfl) (own_le rfl) (own_le rfl) (by show c + 0 ≤ 35; omega) (by show s + 0 ≤ 2184; omega) ?_
  rintro _ _ _ ⟨rfl, rfl, rfl⟩
  show Go A B_htm D _ 42 _ [.int (1 : Int32)] ((it, ob_4 A (.ref o) (.int la) (.int mc) (.int cu)) :: (E ++ F)) _ (c + 0) (s + 0)
  refine Go.if0 (B := B_htm) td_htm 19 (pc' := 106) rfl (by decide) rfl (fun (h : (1 : Int32) = 0) => absurd h (by decide)) (fun _ => ?_)
  refine Go.rn (B := B_htm) td_htm 20 1 (pc' := 47) (S' := [.ref it]) rfl ?_
  refine Go.callI (B := B_htm) td_htm 21 (B' := B_nxt) (C := "java/util/ArrayList$Itr") (a := it) (argsL := []) (rest := []) (W := 0) rfl (nxt_met K hlt hin hv hx m mt) (Or.inl (mi 0 rfl)) (fun c P => P.1) (w_324 K) (w_325 K) (w_326 K) (w_327 K) (w_328 K) (w_329 K) (w_330 K) (w_137 K) (w_116 K) (w_331 K) (by decide) pd_nxt rfl rfl rfl rfl (Nat.le_of_eq rfl) (own_le rfl) (own_le rfl) (by show (c + 0) + 0 ≤ 35; omega) (by show (s + 0) + 0 ≤ 2184; omega) ?_
  rintro _ _ _ ⟨rfl, rfl, rfl⟩
  show Go A B_htm D _ 52 _ [.ref x] ((it, ob_4 A (.ref o) (.int cu) (.int mc) (.int (cu + (1 : Int32)))) :: (E ++ F)) _ ((c + 0) + 0) ((s + 0) + 0)
  refine Go.castY (B := B_htm) td_htm 22 rfl (w_338 K) (Or.inr m0) (fun c P => P.1) ?_
  have st : Go A B_htm D Q 61 [.val (.ref tx), .val (.ref o), .val (.ref sb), .val (.int p3), .val (.ref it), .val (.ref x)] [.ref x, .int p3, .ref tx] ((it, ob_4 A (.ref o) (.int cu) (.int mc) (.int (cu + (1 : Int32)))) :: (E ++ F)) G ((c + 0) + 0) ((s + 0) + 0) := by
    refine Go.perm (F' := (E ++ ((it, ob_4 A (.ref o) (.int cu) (.int mc) (.int (cu + (1 : Int32)))) :: F))) List.perm_middle.symm ?_
    refine Go.callV (B := B_htm) td_htm 27 (B' := B_mks) (C := "com/example/attentive_search/attentivesearch/Highlight$Mark") (a := x) (argsL := []) (rest := [.int p3, .ref tx]) (W := 2) rfl (mks_met K (Or.inr m0)) (Or.inr m0) (fun c P => P.1) (w_340 K) (w_341 K) (w_342 K) (w_343 K) (w_343 K) (w_285 K) (w_344 K) (by decide) pd_mks rfl rfl rfl rfl (Nat.le_of_eq rfl) (own_le rfl) (own_le rfl) (by show ((c + 0) + 0) + 0 ≤ 35; omega) (by show ((s + 0) + 0) + 0 ≤ 2184; omega) ?_
    rintro _ _ _ ⟨rfl, rfl, rfl⟩
    show Go A B_htm D _ 64 _ [.int ms, .int p3, .ref tx] _ _ (((c + 0) + 0) + 0) (((s + 0) + 0) + 0)
    refine Go.rn (B := B_htm) td_htm 28 1 (pc' := 65) (S' := [.ref sb, .int ms, .int p3, .ref tx]) rfl ?_
    refine Go.callS (B := B_htm) td_htm 29 (B' := B_es d1.length) (argsL := [.ref tx, .int p3, .int ms, .ref sb]) (rest := []) (W := 0) rfl (es_met K (a1 := p3) (a2 := ms) (pre := pre) (ds := d1) (suf := (d2 ++ suf)) (cs := cs) (ts := ts) h3 (by rw [hms, List.length_append]) ht hlen hch mS hs (by skip; omega) rfl) (w_142 K) (w_143 K) (w_62 K) (w_144 K) ⟨by show "com/example/attentive_search/attentivesearch/Highlight" ≠ "java/lang/invoke/MethodHandle"; decide, by show "com/example/attentive_search/attentivesearch/Highlight" ≠ "java/lang/invoke/VarHandle"; decide⟩ pd_es rfl rfl rfl rfl (Nat.le_of_eq rfl) (own_le rfl) (own_le rfl) (by show (((c + 0) + 0) + 0) + 4 * d1.length ≤ 35; omega) (by show (((s + 0) + 0) + 0) + 284 * d1.length ≤ 2184; omega) ?_
    rintro _ _ _ ⟨rfl, ⟨E1, hs1, rfl⟩, rfl⟩
    show Go A B_htm D _ 68 _ [] (E1 ++ ((it, ob_4 A (.ref o) (.int cu) (.int mc) (.int (cu + (1 : Int32)))) :: F)) _ ((((c + 0) + 0) + 0) + 4 * d1.length) ((((s + 0) + 0) + 0) + 284 * d1.length)
    refine Go.rn (B := B_htm) td_htm 30 1 (pc' := 69) (S' := [.ref sb]) rfl ?_
    refine Go.ldcS (B := B_htm) td_htm 31 (n := 12) (vs := (latB [60, 98, 62])) rfl (w_358 K) (strAtoms K) (by rw [show A.EL = consts_1 from K.el]; show ("com/example/attentive_search/attentivesearch/Highlight", 93) ∈ consts_1; decide) K.wm (by decide +kernel) (by decide) (by decide) (by decide) (by show ((((c + 0) + 0) + 0) + 4 * d1.length) + 2 ≤ 35; omega) (by show ((((s + 0) + 0) + 0) + 284 * d1.length) + (12 + 4) ≤ 2184; omega) ?_
    intro a1 b1
    show Go A B_htm D _ 71 _ [.ref a1, .ref sb] _ _ (((((c + 0) + 0) + 0) + 4 * d1.length) + 2) (((((s + 0) + 0) + 0) + 284 * d1.length) + (12 + 4))
    obtain ⟨P_, hP_, r_, hr_⟩ := hs1.at
    refine Go.callV (B := B_htm) td_htm 32 (B' := B_sba) (C := "java/lang/StringBuilder") (a := sb) (argsL := [.ref a1]) (rest := []) (W := 0) rfl (sbS_met K (ds := ([60, 98, 62] : List Int32)) hs1 (by unfold Lat; decide) (by simp only [List.length_append, List.length_cons, List.length_nil]; omega) (mi 0 rfl) (mi 1 rfl)) (Or.inl (List.mem_append_left _ (by rw [hr_]; exact List.mem_cons_self ..))) hP_ (w_168 K) (w_169 K) (w_170 K) (w_171 K) (w_171 K) (w_66 K) (w_172 K) (by decide) pd_sba rfl rfl rfl rfl (Nat.le_of_eq rfl) (own_le rfl) (own_le rfl) (by show (((((c + 0) + 0) + 0) + 4 * d1.length) + 2) + 2 ≤ 35; omega) (by show (((((s + 0) + 0) + 0) + 284 * d1.length) + (12 + 4)) + 256 ≤ 2184; omega) ?_
    rintro _ _ _ ⟨rfl, ⟨E2, hs2, rfl⟩, rfl⟩
    show Go A B_htm D _ 74 _ [.ref sb] (E2 ++ ((it, ob_4 A (.ref o) (.int cu) (.int mc) (.int (cu + (1 : Int32)))) :: F)) _ ((((((c + 0) + 0) + 0) + 4 * d1.length) + 2) + 2) ((((((s + 0) + 0) + 0) + 284 * d1.length) + (12 + 4)) + 256)
    refine Go.gsub (G' := G) (fun x h => .tail _ (.tail _ h)) ?_
    refine Go.rn (B := B_htm) td_htm 33 3 (pc' := 78) (S' := [.ref x, .ref tx]) rfl ?_
    refine Go.callV (B := B_htm) td_htm 36 (B' := B_mks) (C := "com/example/attentive_search/attentivesearch/Highlight$Mark") (a := x) (argsL := []) (rest := [.ref tx]) (W := 1) rfl (mks_met K (Or.inr m0)) (Or.inr m0) (fun c P => P.1) (w_340 K) (w_341 K) (w_342 K) (w_343 K) (w_343 K) (w_285 K) (w_344 K) (by decide) pd_mks rfl rfl rfl rfl (Nat.le_of_eq rfl) (own_le rfl) (own_le rfl) (by show ((((((c + 0) + 0) + 0) + 4 * d1.length) + 2) + 2) + 0 ≤ 35; omega) (by show ((((((s + 0) + 0) + 0) + 284 * d1.length) + (12 + 4)) + 256) + 0 ≤ 2184; omega) ?_
    rintro _ _ _ ⟨rfl, rfl, rfl⟩
    show Go A B_htm D _ 81 _ [.int ms, .ref tx] _ _ (((((((c + 0) + 0) + 0) + 4 * d1.length) + 2) + 2) + 0) (((((((s + 0) + 0) + 0) + 284 * d1.length) + (12 + 4)) + 256) + 0)
    refine Go.rn (B := B_htm) td_htm 37 1 (pc' := 83) (S' := [.ref x, .int ms, .ref tx]) rfl ?_
    refine Go.callV (B := B_htm) td_htm 38 (B' := B_mke) (C := "com/example/attentive_search/attentivesearch/Highlight$Mark") (a := x) (argsL := []) (rest := [.int ms, .ref tx]) (W := 2) rfl (mke_met K (Or.inr m0)) (Or.inr m0) (fun c P => P.1) (w_359 K) (w_360 K) (w_361 K) (w_362 K) (w_362 K) (w_285 K) (w_363 K) (by decide) pd_mke rfl rfl rfl rfl (Nat.le_of_eq rfl) (own_le rfl) (own_le rfl) (by show (((((((c + 0) + 0) + 0) + 4 * d1.length) + 2) + 2) + 0) + 0 ≤ 35; omega) (by show (((((((s + 0) + 0) + 0) + 284 * d1.length) + (12 + 4)) + 256) + 0) + 0 ≤ 2184; omega) ?_
    rintro _ _ _ ⟨rfl, rfl, rfl⟩
    show Go A B_htm D _ 86 _ [.int me, .int ms, .ref tx] _ _ ((((((((c + 0) + 0) + 0) + 4 * d1.length) + 2) + 2) + 0) + 0) ((((((((s + 0) + 0) + 0) + 284 * d1.length) + (12 + 4)) + 256) + 0) + 0)
    refine Go.rn (B := B_htm) td_htm 39 1 (pc' := 87) (S' := [.ref sb, .int me, .int ms, .ref tx]) rfl ?_
    refine Go.callS (B := B_htm) td_htm 40 (B' := B_es d2.length) (argsL := [.ref tx, .int ms, .int me, .ref sb]) (rest := []) (W := 0) rfl (es_met K (a1 := ms) (a2 := me) (pre := (pre ++ d1)) (ds := d2) (suf := suf) (cs := ((cs ++ escLs d1) ++ ([60, 98, 62] : List Int32))) (ts := ts) hms (by rw [hme, List.length_append]) (by rw [ht, List.append_assoc]) hlen hch mS hs2 (by simp only [List.length_append, List.length_cons, List.length_nil]; omega) rfl) (w_142 K) (w_143 K) (w_62 K) (w_144 K) ⟨by show "com/example/attentive_search/attentivesearch/Highlight" ≠ "java/lang/invoke/MethodHandle"; decide, by show "com/example/attentive_search/attentivesearch/Highlight" ≠ "java/lang/invoke/VarHandle"; decide⟩ pd_es rfl rfl rfl rfl (Nat.le_of_eq rfl) (own_le rfl) (own_le rfl) (by show ((((((((c + 0) + 0) + 0) + 4 * d1.length) + 2) + 2) + 0) + 0) + 4 * d2.length ≤ 35; omega) (by show ((((((((s + 0) + 0) + 0) + 284 * d1.length) + (12 + 4)) + 256) + 0) + 0) + 284 * d2.length ≤ 2184; omega) ?_
    rintro _ _ _ ⟨rfl, ⟨E3, hs3, rfl⟩, rfl⟩
    show Go A B_htm D _ 90 _ [] (E3 ++ ((it, ob_4 A (.ref o) (.int cu) (.int mc) (.int (cu + (1 : Int32)))) :: F)) _ (((((((((c + 0) + 0) + 0) + 4 * d1.length) + 2) + 2) + 0) + 0) + 4 * d2.length) (((((((((s + 0) + 0) + 0) + 284 * d1.length) + (12 + 4)) + 256) + 0) + 0) + 284 * d2.length)
    refine Go.rn (B := B_htm) td_htm 41 1 (pc' := 91) (S' := [.ref sb]) rfl ?_
    refine Go.ldcS (B := B_htm) td_htm 42 (n := 16) (vs := (latB [60, 47, 98, 62])) rfl (w_364 K) (strAtoms K) (by rw [show A.EL = consts_1 from K.el]; show ("com/example/attentive_search/attentivesearch/Highlight", 99) ∈ consts_1; decide) K.wm (by decide +kernel) (by decide) (by decide) (by decide) (by show (((((((((c + 0) + 0) + 0) + 4 * d1.length) + 2) + 2) + 0) + 0) + 4 * d2.length) + 2 ≤ 35; omega) (by show (((((((((s + 0) + 0) + 0) + 284 * d1.length) + (12 + 4)) + 256) + 0) + 0) + 284 * d2.length) + (16 + 4) ≤ 2184; omega) ?_
    intro a1 b1
    show Go A B_htm D _ 93 _ [.ref a1, .ref sb] _ _ ((((((((((c + 0) + 0) + 0) + 4 * d1.length) + 2) + 2) + 0) + 0) + 4 * d2.length) + 2) ((((((((((s + 0) + 0) + 0) + 284 * d1.length) + (12 + 4)) + 256) + 0) + 0) + 284 * d2.length) + (16 + 4))
    obtain ⟨P_, hP_, r_, hr_⟩ := hs3.at
    refine Go.callV (B := B_htm) td_htm 43 (B' := B_sba) (C := "java/lang/StringBuilder") (a := sb) (argsL := [.ref a1]) (rest := []) (W := 0) rfl (sbS_met K (ds := ([60, 47, 98, 62] : List Int32)) hs3 (by unfold Lat; decide) (by simp only [List.length_append, List.length_cons, List.length_nil]; omega) (mi 0 rfl) (mi 1 rfl)) (Or.inl (List.mem_append_left _ (by rw [hr_]; exact List.mem_cons_self ..))) hP_ (w_168 K) (w_169 K) (w_170 K) (w_171 K) (w_171 K) (w_66 K) (w_172 K) (by decide) pd_sba rfl rfl rfl rfl (Nat.le_of_eq rfl) (own_le rfl) (own_le rfl) (by show ((((((((((c + 0) + 0) + 0) + 4 * d1.length) + 2) + 2) + 0) + 0) + 4 * d2.length) + 2) + 2 ≤ 35; omega) (by show ((((((((((s + 0) + 0) + 0) + 284 * d1.length) + (12 + 4)) + 256) + 0) + 0) + 284 * d2.length) + (16 + 4)) + 256 ≤ 2184; omega) ?_
    rintro _ _ _ ⟨rfl, ⟨E4, hs4, rfl⟩, rfl⟩
    show Go A B_htm D _ 96 _ [.ref sb] (E4 ++ ((it, ob_4 A (.ref o) (.int cu) (.int mc) (.int (cu + (1 : Int32)))) :: F)) _ (((((((((((c + 0) + 0) + 0) + 4 * d1.length) + 2) + 2) + 0) + 0) + 4 * d2.length) + 2) + 2) (((((((((((s + 0) + 0) + 0) + 284 * d1.length) + (12 + 4)) + 256) + 0) + 0) + 284 * d2.length) + (16 + 4)) + 256)
    refine Go.gsub (G' := G) (fun x h => .tail _ (.tail _ h)) ?_
    refine Go.rn (B := B_htm) td_htm 44 2 (pc' := 99) (S' := [.ref x]) rfl ?_
    refine Go.callV (B := B_htm) td_htm 46 (B' := B_mke) (C := "com/example/attentive_search/attentivesearch/Highlight$Mark") (a := x) (argsL := []) (rest := []) (W := 0) rfl (mke_met K (Or.inr m0)) (Or.inr m0) (fun c P => P.1) (w_359 K) (w_360 K) (w_361 K) (w_362 K) (w_362 K) (w_285 K) (w_363 K) (by decide) pd_mke rfl rfl rfl rfl (Nat.le_of_eq rfl) (own_le rfl) (own_le rfl) (by show (((((((((((c + 0) + 0) + 0) + 4 * d1.length) + 2) + 2) + 0) + 0) + 4 * d2.length) + 2) + 2) + 0 ≤ 35; omega) (by show (((((((((((s + 0) + 0) + 0) + 284 * d1.length) + (12 + 4)) + 256) + 0) + 0) + 284 * d2.length) + (16 + 4)) + 256) + 0 ≤ 2184; omega) ?_
    rintro _ _ _ ⟨rfl, rfl, rfl⟩
    show Go A B_htm D _ 102 _ [.int me] _ _ ((((((((((((c + 0) + 0) + 0) + 4 * d1.length) + 2) + 2) + 0) + 0) + 4 * d2.length) + 2) + 2) + 0) ((((((((((((s + 0) + 0) + 0) + 284 * d1.length) + (12 + 4)) + 256) + 0) + 0) + 284 * d2.length) + (16 + 4)) + 256) + 0)
    refine Go.run (B := B_htm) td_htm 47 2 (pc' := 35) (L' := [.val (.ref tx), .val (.ref o), .val (.ref sb), .val (.int me), .val (.ref it), .val (.ref x)]) (S' := []) rfl ?_
    refine Go.perm (F' := ((it, ob_4 A (.ref o) (.int cu) (.int mc) (.int (cu + (1 : Int32)))) :: (E4 ++ F))) List.perm_middle ?_
    refine Go.mono (cells' := c + 4 * (d1.length + d2.length) + 8) (slots' := s + 284 * (d1.length + d2.length) + 548) (by show ((((((((((((c + 0) + 0) + 0) + 4 * d1.length) + 2) + 2) + 0) + 0) + 4 * d2.length) + 2) + 2) + 0) ≤ _; omega) (by show ((((((((((((s + 0) + 0) + 0) + 284 * d1.length) + (12 + 4)) + 256) + 0) + 0) + 284 * d2.length) + (16 + 4)) + 256) + 0) ≤ _; omega) (hk _ hs4)
  rcases hx5 with rfl | ⟨v5, rfl⟩
  · refine Go.run (B := B_htm) td_htm 23 4 (pc' := 61) (L' := [.val (.ref tx), .val (.ref o), .val (.ref sb), .val (.int p3), .val (.ref it), .val (.ref x)]) (S' := [.ref x, .int p3, .ref tx]) rfl ?_
    exact st
  · refine Go.run (B := B_htm) td_htm 23 4 (pc' := 61) (L' := [.val (.ref tx), .val (.ref o), .val (.ref sb), .val (.int p3), .val (.ref it), .val (.ref x)]) (S' := [.ref x, .int p3, .ref tx]) rfl ?_
    exact st
set_option maxRecDepth 65536 in
set_option maxHeartbeats 4000000 in
theorem htl {A : Ax} (K : Wd A) {D : Dx} {tx o ed : Addr} {ts : List Int32} {sz mc : Int32} {it sb : Addr} {pre ds cs tot : List Int32} {p3 cu la : Int32} {x5 : Slot} {c s : Nat} {E F G : List Ent} (ht : ts = pre ++ ds) (h3 : p3 = nI pre.length) (hlen : ts.length ≤ 3) (hch : Chrs ts) (mS : StrR A G tx ts) (hs : SBs A sb cs E) (hn : cs.length + 6 * ds.length ≤ 32) (hq : cs ++ escLs ds = tot) (hcu : cu = sz) (m : (o, ob_2 A (.ref ed) (.int sz) (.int mc)) ∈ G) (hc : c + 4 * ds.length + 2 ≤ 35) (hz : s + 284 * ds.length + 132 ≤ 2184) : Go A B_htm D (fun v F' G' => ∃ s q1 q2, v = some (.ref s) ∧ F = F' ∧ q1 :: q2 :: G = G' ∧ StrR A (q1 :: q2 :: G) s tot) 35 [.val (.ref tx), .val (.ref o), .val (.ref sb), .val (.int p3), .val (.ref it), x5] [] ((it, ob_4 A (.ref o) (.int la) (.int mc) (.int cu)) :: (E ++ F)) G c s := by
  obtain ⟨bS, cdS, hm⟩ := mS.obj
  refine Go.rn (B := B_htm) td_htm 17 1 (pc' := 37) (S' := [.ref it]) rfl ?_
  refine Go.callI (B := B_htm) td_htm 18 (B' := B_hsn) (C := "java/util/ArrayList$Itr") (a := it) (argsL := []) (rest := []) (W := 0) rfl (hsnN_met K hcu m) (Or.inl (mi 0 rfl)) (fun c P => P.1) (w_130 K) (w_131 K) (w_132 K) (w_133 K) (w_134 K) (w_135 K) (w_136 K) (w_137 K) (w_116 K) (w_138 K) (by decide) pd_hsn rfl rfl rfl rfl (Nat.le_of_eq rfl) (own_le rfl) (own_le rfl) (by show c + 0 ≤ 35; omega) (by show s + 0 ≤ 2184; omega) ?_
  rintro _ _ _ ⟨rfl, rfl, rfl⟩
  show Go A B_htm D _ 42 _ [.int (0 : Int32)] ((it, ob_4 A (.ref o) (.int la) (.int mc) (.int cu)) :: (E ++ F)) _ (c + 0) (s + 0)
  refine Go.if0 (B := B_htm) td_htm 19 (pc' := 106) rfl (by decide) rfl (fun _ => ?_) (fun (h : ¬ ((0 : Int32) = 0)) => absurd (by decide) h)
  refine Go.rn (B := B_htm) td_htm 49 3 (pc' := 109) (S' := [.ref tx, .int p3, .ref tx]) rfl ?_
  refine Go.perm (F' := (E ++ ((it, ob_4 A (.ref o) (.int la) (.int mc) (.int cu)) :: F))) List.perm_middle.symm ?_
  refine Go.callV (B := B_htm) td_htm 52 (B' := B_len) (C := "java/lang/String") (a := tx) (argsL := []) (rest := [.int p3, .ref tx]) (W := 2) rfl (lenR_met K (by omega) mS) (Or.inr hm) (fun c P => P.1) (w_67 K) (w_68 K) (w_69 K) (w_70 K) (w_70 K) (w_8 K) (w_71 K) (by decide) pd_len rfl rfl rfl rfl (Nat.le_of_eq rfl) (own_le rfl) (own_le rfl) (by show (c + 0) + 0 ≤ 35; omega) (by show (s + 0) + 0 ≤ 2184; omega) ?_
  rintro _ _ _ ⟨rfl, rfl, rfl⟩
  show Go A B_htm D _ 112 _ [.int (nI ts.length), .int p3, .ref tx] _ _ ((c + 0) + 0) ((s + 0) + 0)
  refine Go.rn (B := B_htm) td_htm 53 1 (pc' := 113) (S' := [.ref sb, .int (nI ts.length), .int p3, .ref tx]) rfl ?_
  refine Go.callS (B := B_htm) td_htm 54 (B' := B_es ds.length) (argsL := [.ref tx, .int p3, .int (nI ts.length), .ref sb]) (rest := []) (W := 0) rfl (es_met K (a1 := p3) (a2 := nI ts.length) (pre := pre) (ds := ds) (suf := []) (cs := cs) (ts := ts) h3 (by rw [ht, List.length_append]) (by rw [ht, List.append_nil]) hlen hch mS hs hn hq) (w_142 K) (w_143 K) (w_62 K) (w_144 K) ⟨by show "com/example/attentive_search/attentivesearch/Highlight" ≠ "java/lang/invoke/MethodHandle"; decide, by show "com/example/attentive_search/attentivesearch/Highlight" ≠ "java/lang/invoke/VarHandle"; decide⟩ pd_es rfl rfl rfl rfl (Nat.le_of_eq rfl) (own_le rfl) (own_le rfl) (by show ((c + 0) + 0) + 4 * ds.length ≤ 35; omega) (by show ((s + 0) + 0) + 284 * ds.length ≤ 2184; omega) ?_
  rintro _ _ _ ⟨rfl, ⟨E2, hs2, rfl⟩, rfl⟩
  show Go A B_htm D _ 116 _ [] (E2 ++ ((it, ob_4 A (.ref o) (.int la) (.int mc) (.int cu)) :: F)) _ (((c + 0) + 0) + 4 * ds.length) (((s + 0) + 0) + 284 * ds.length)
  refine Go.perm (F' := ((it, ob_4 A (.ref o) (.int la) (.int mc) (.int cu)) :: (E2 ++ F))) List.perm_middle ?_
  refine Go.drop ?_
  refine Go.rn (B := B_htm) td_htm 55 1 (pc' := 117) (S' := [.ref sb]) rfl ?_
  obtain ⟨P_, hP_, r_, hr_⟩ := hs2.at
  refine Go.callV (B := B_htm) td_htm 56 (B' := B_tos) (C := "java/lang/StringBuilder") (a := sb) (argsL := []) (rest := []) (W := 0) rfl (sbT_met K hs2) (Or.inl (List.mem_append_left _ (by rw [hr_]; exact List.mem_cons_self ..))) hP_ (w_230 K) (w_231 K) (w_232 K) (w_233 K) (w_233 K) (w_66 K) (w_234 K) (by decide) pd_tos rfl rfl rfl rfl (Nat.le_of_eq rfl) (own_le rfl) (own_le rfl) (by show (((c + 0) + 0) + 4 * ds.length) + 2 ≤ 35; omega) (by show (((s + 0) + 0) + 284 * ds.length) + 132 ≤ 2184; omega) ?_
  rintro _ _ _ ⟨s1, q1, q2, rfl, rfl, rfl, hO⟩
  show Go A B_htm D _ 120 _ [.ref s1] (E2 ++ F) (q1 :: q2 :: G) ((((c + 0) + 0) + 4 * ds.length) + 2) ((((s + 0) + 0) + 284 * ds.length) + 132)
  refine Go.dropA E2 ?_
  exact Go.retA (B := B_htm) td_htm 57 rfl rfl rfl rfl ⟨s1, q1, q2, rfl, rfl, rfl, hO⟩ (by show ((((c + 0) + 0) + 4 * ds.length) + 2) ≤ 35; omega) (by show ((((s + 0) + 0) + 284 * ds.length) + 132) ≤ 2184; omega)
set_option maxRecDepth 65536 in
set_option maxHeartbeats 4000000 in
theorem htm0_met {A : Ax} (K : Wd A) {mc  : Int32} {tx o ed : Addr} {ts  : List Int32} {F G : List Ent}  (hlen : ts.length ≤ 3) (hch : Chrs ts) (mS : StrR A G tx ts) (m : (o, ob_2 A (.ref ed) (.int (0 : Int32)) (.int mc)) ∈ G) : Met A B_htm #[.ref tx, .ref o] F G (fun v F' G' => ∃ s q1 q2, v = some (.ref s) ∧ F = F' ∧ q1 :: q2 :: G = G' ∧ StrR A (q1 :: q2 :: G) s (escLs ts)) := by
  refine MetW.of_go pn_htm K.ew (L := [.val (.ref tx), .val (.ref o), .unset, .unset, .unset, .unset]) (fun m => rfl) ?_
  intro D _
  refine htp K (N := ts.length + 0) (by rw [show (0 : Int32) * nI 7 = nI 0 by decide, nI_addn]) (by omega) hlen mS m ?_
  intro sb it E hs
  exact htl K (pre := ([] : List Int32)) (ds := ts) (cs := ([] : List Int32)) rfl rfl hlen hch mS hs (by simp only [List.length_append, List.length_cons, List.length_nil]; omega) (by rfl) rfl m (by omega) (by omega)
set_option maxRecDepth 65536 in
set_option maxHeartbeats 4000000 in
theorem htm1_met {A : Ax} (K : Wd A) {mc s0 e0 : Int32} {tx o ed x0 : Addr} {ts g0 k0 g1 : List Int32} {F G : List Ent} (ht : ts = (g0 ++ (k0 ++ g1))) (hlen : ts.length ≤ 3) (hch : Chrs ts) (bs0 : s0 = nI g0.length) (be0 : e0 = nI (g0 ++ k0).length) (mS : StrR A G tx ts) (m : (o, ob_2 A (.ref ed) (.int (1 : Int32)) (.int mc)) ∈ G) (mt : (ed, RarP A "java/lang/Object" "[Ljava/lang/Object;" [.ref x0, .null, .null, .null, .null, .null, .null, .null, .null, .null]) ∈ G) (m0 : (x0, ob_3 A (.int s0) (.int e0)) ∈ G) : Met A B_htm #[.ref tx, .ref o] F G (fun v F' G' => ∃ s q1 q2, v = some (.ref s) ∧ F = F' ∧ q1 :: q2 :: G = G' ∧ StrR A (q1 :: q2 :: G) s (escLs g0 ++ (([60, 98, 62] : List Int32) ++ (escLs k0 ++ (([60, 47, 98, 62] : List Int32) ++ escLs g1))))) := by
  refine MetW.of_go pn_htm K.ew (L := [.val (.ref tx), .val (.ref o), .unset, .unset, .unset, .unset]) (fun m => rfl) ?_
  intro D _
  have hl2 : g0.length + k0.length + g1.length ≤ 3 := by rw [ht] at hlen; simp only [List.length_append] at hlen; omega
  have ug0 := escLs_len g0
  have uk0 := escLs_len k0
  have ug1 := escLs_len g1
  refine htp K (N := ts.length + 7) (by rw [show (1 : Int32) * nI 7 = nI 7 by decide, nI_addn]) (by omega) hlen mS m ?_
  intro sb it E hs
  refine htt K (pre := ([] : List Int32)) (d1 := g0) (d2 := k0) (suf := g1) (cs := ([] : List Int32)) ht rfl (by rw [bs0]; rfl) (by rw [be0]; rfl) hlen hch mS hs (by simp only [List.length_append, List.length_cons, List.length_nil]; omega) (Or.inl rfl) (by decide) (by decide) ⟨by decide, by decide⟩ rfl rfl m mt m0 (by omega) (by omega) ?_
  intro E1 hs1
  exact htl K (pre := (g0 ++ k0)) (ds := g1) (cs := ((((([] : List Int32) ++ escLs g0) ++ ([60, 98, 62] : List Int32)) ++ escLs k0) ++ ([60, 47, 98, 62] : List Int32))) (by rw [ht]; simp only [List.append_assoc]) be0 hlen hch mS hs1 (by simp only [List.length_append, List.length_cons, List.length_nil]; omega) (by simp only [List.append_assoc, List.nil_append, List.append_nil]) (by decide) m (by omega) (by omega)
set_option maxRecDepth 65536 in
set_option maxHeartbeats 4000000 in
theorem htm2_met {A : Ax} (K : Wd A) {mc s0 e0 s1 e1 : Int32} {tx o ed x0 x1 : Addr} {ts g0 k0 g1 k1 g2 : List Int32} {F G : List Ent} (ht : ts = (g0 ++ (k0 ++ (g1 ++ (k1 ++ g2))))) (hlen : ts.length ≤ 3) (hch : Chrs ts) (bs0 : s0 = nI g0.length) (be0 : e0 = nI (g0 ++ k0).length) (bs1 : s1 = nI ((g0 ++ k0) ++ g1).length) (be1 : e1 = nI (((g0 ++ k0) ++ g1) ++ k1).length) (mS : StrR A G tx ts) (m : (o, ob_2 A (.ref ed) (.int (2 : Int32)) (.int mc)) ∈ G) (mt : (ed, RarP A "java/lang/Object" "[Ljava/lang/Object;" [.ref x0, .ref x1, .null, .null, .null, .null, .null, .null, .null, .null]) ∈ G) (m0 : (x0, ob_3 A (.int s0) (.int e0)) ∈ G) (m1 : (x1, ob_3 A (.int s1) (.int e1)) ∈ G) : Met A B_htm #[.ref tx, .ref o] F G (fun v F' G' => ∃ s q1 q2, v = some (.ref s) ∧ F = F' ∧ q1 :: q2 :: G = G' ∧ StrR A (q1 :: q2 :: G) s (escLs g0 ++ (([60, 98, 62] : List Int32) ++ (escLs k0 ++ (([60, 47, 98, 62] : List Int32) ++ (escLs g1 ++ (([60, 98, 62] : List Int32) ++ (escLs k1 ++ (([60, 47, 98, 62] : List Int32) ++ escLs g2))))))))) := by
  refine MetW.of_go pn_htm K.ew (L := [.val (.ref tx), .val (.ref o), .unset, .unset, .unset, .unset]) (fun m => rfl) ?_
  intro D _
  have hl2 : g0.length + k0.length + g1.length + k1.length + g2.length ≤ 3 := by rw [ht] at hlen; simp only [List.length_append] at hlen; omega
  have ug0 := escLs_len g0
  have uk0 := escLs_len k0
  have ug1 := escLs_len g1
  have uk1 := escLs_len k1
  have ug2 := escLs_len g2
  refine htp K (N := ts.length + 14) (by rw [show (2 : Int32) * nI 7 = nI 14 by decide, nI_addn]) (by omega) hlen mS m ?_
  intro sb it E hs
  refine htt K (pre := ([] : List Int32)) (d1 := g0) (d2 := k0) (suf := (g1 ++ (k1 ++ g2))) (cs := ([] : List Int32)) ht rfl (by rw [bs0]; rfl) (by rw [be0]; rfl) hlen hch mS hs (by simp only [List.length_append, List.length_cons, List.length_nil]; omega) (Or.inl rfl) (by decide) (by decide) ⟨by decide, by decide⟩ rfl rfl m mt m0 (by omega) (by omega) ?_
  intro E1 hs1
  refine htt K (pre := (g0 ++ k0)) (d1 := g1) (d2 := k1) (suf := g2) (cs := ((((([] : List Int32) ++ escLs g0) ++ ([60, 98, 62] : List Int32)) ++ escLs k0) ++ ([60, 47, 98, 62] : List Int32))) (by rw [ht]; simp only [List.append_assoc]) be0 bs1 be1 hlen hch mS hs1 (by simp only [List.length_append, List.length_cons, List.length_nil]; omega) (Or.inr ⟨_, rfl⟩) (by decide) (by decide) ⟨by decide, by decide⟩ rfl rfl m mt m1 (by omega) (by omega) ?_
  intro E2 hs2
  exact htl K (pre := (((g0 ++ k0) ++ g1) ++ k1)) (ds := g2) (cs := ((((((((([] : List Int32) ++ escLs g0) ++ ([60, 98, 62] : List Int32)) ++ escLs k0) ++ ([60, 47, 98, 62] : List Int32)) ++ escLs g1) ++ ([60, 98, 62] : List Int32)) ++ escLs k1) ++ ([60, 47, 98, 62] : List Int32))) (by rw [ht]; simp only [List.append_assoc]) be1 hlen hch mS hs2 (by simp only [List.length_append, List.length_cons, List.length_nil]; omega) (by simp only [List.append_assoc, List.nil_append, List.append_nil]) (by decide) m (by omega) (by omega)
--CUT
def tb_chh : List In1 := [(0, .iload_n 0, 1), (1, .bipush 7, 2), (3, .iand, 1), (4, .istore_n 1, 1), (5, .iload_n 1, 1), (6, .ifCond .ne 6, 3), (9, .bipush 38, 2), (11, .ireturn, 1), (12, .iload_n 1, 1), (13, .iconst 1, 1), (14, .if_icmp .ne 6, 3), (17, .bipush 60, 2), (19, .ireturn, 1), (20, .iload_n 1, 1), (21, .iconst 2, 1), (22, .if_icmp .ne 6, 3), (25, .bipush 62, 2), (27, .ireturn, 1), (28, .iload_n 1, 1), (29, .iconst 3, 1), (30, .if_icmp .ne 6, 3), (33, .bipush 34, 2), (35, .ireturn, 1), (36, .iload_n 1, 1), (37, .iconst 4, 1), (38, .if_icmp .ne 6, 3), (41, .bipush 39, 2), (43, .ireturn, 1), (44, .iload_n 0, 1), (45, .iconst 3, 1), (46, .iushr, 1), (47, .i2c, 1), (48, .ireturn, 1)]
set_option maxRecDepth 65536 in
theorem td_chh : Dec method_3_code tb_chh := by unfold Dec; decide +kernel
theorem pd_chh : parseMethodDescriptor "(I)C" = some ⟨[.int], (some .char)⟩ := by decide +kernel
theorem pn_chh : plainFor (⟨"com/example/attentive_search/attentivesearch/HighlightHtmlPinLaw", "ch", "(I)C"⟩ : MethodName) = true := by decide +kernel
abbrev B_chh : Bx := ((⟨"com/example/attentive_search/attentivesearch/HighlightHtmlPinLaw", "ch", "(I)C"⟩ : MethodName), method_3_code, 2, (Option.some Jvm.ClassFile.FieldType.char), ({ frames := 0, cells := 0, slots := 0, locals := 0 } : Room))
theorem chr16_rg (x : Int32) : 0 ≤ (chr16 x).toInt ∧ (chr16 x).toInt < 65536 := by
  have := chr16_toInt x; omega
set_option maxRecDepth 65536 in
set_option maxHeartbeats 4000000 in
theorem chh_met {A : Ax} (K : Wd A) {x : Int32} {F G : List Ent} : Met A B_chh #[.int x] F G (fun v F' G' => ∃ r : Int32, (0 ≤ r.toInt ∧ r.toInt < 65536) ∧ v = some (.int r) ∧ F = F' ∧ G = G') := by
  refine MetW.of_go pn_chh K.ew (L := [.val (.int x), .unset]) (fun m => rfl) ?_
  intro D _
  refine Go.run (B := B_chh) td_chh 0 5 (pc' := 6) (L' := [.val (.int x), .val (.int (x &&& (7 : Int32)))]) (S' := [.int (x &&& (7 : Int32))]) rfl ?_
  refine Go.if0 (B := B_chh) td_chh 5 (pc' := 12) rfl (by decide) rfl ?_ ?_
  · intro (h0 : (x &&& (7 : Int32)) ≠ 0)
    refine Go.rn (B := B_chh) td_chh 8 2 (pc' := 14) (S' := [.int (1 : Int32), .int (x &&& (7 : Int32))]) rfl ?_
    refine Go.icmp (B := B_chh) td_chh 10 (pc' := 20) rfl (by decide) rfl ?_ ?_
    · intro (h1 : (x &&& (7 : Int32)) ≠ (1 : Int32))
      refine Go.rn (B := B_chh) td_chh 13 2 (pc' := 22) (S' := [.int (2 : Int32), .int (x &&& (7 : Int32))]) rfl ?_
      refine Go.icmp (B := B_chh) td_chh 15 (pc' := 28) rfl (by decide) rfl ?_ ?_
      · intro (h2 : (x &&& (7 : Int32)) ≠ (2 : Int32))
        refine Go.rn (B := B_chh) td_chh 18 2 (pc' := 30) (S' := [.int (3 : Int32), .int (x &&& (7 : Int32))]) rfl ?_
        refine Go.icmp (B := B_chh) td_chh 20 (pc' := 36) rfl (by decide) rfl ?_ ?_
        · intro (h3 : (x &&& (7 : Int32)) ≠ (3 : Int32))
          refine Go.rn (B := B_chh) td_chh 23 2 (pc' := 38) (S' := [.int (4 : Int32), .int (x &&& (7 : Int32))]) rfl ?_
          refine Go.icmp (B := B_chh) td_chh 25 (pc' := 44) rfl (by decide) rfl ?_ ?_
          · intro (h4 : (x &&& (7 : Int32)) ≠ (4 : Int32))
            refine Go.rn (B := B_chh) td_chh 28 4 (pc' := 48) (S' := [.int (chr16 (Jvm.Free.XT.ushr x (3 : Int32)))]) rfl ?_
            exact Go.retC (B := B_chh) td_chh 32 rfl rfl (chr16_id (chr16_rg _)) ⟨_, chr16_rg _, rfl, rfl, rfl⟩ (by decide) (by decide)
          · intro (h4 : ¬ ((x &&& (7 : Int32)) ≠ (4 : Int32)))
            refine Go.rn (B := B_chh) td_chh 26 1 (pc' := 43) (S' := [.int (39 : Int32)]) rfl ?_
            exact Go.retC (B := B_chh) td_chh 27 rfl rfl rfl ⟨_, by decide, rfl, rfl, rfl⟩ (by decide) (by decide)
        · intro (h3 : ¬ ((x &&& (7 : Int32)) ≠ (3 : Int32)))
          refine Go.rn (B := B_chh) td_chh 21 1 (pc' := 35) (S' := [.int (34 : Int32)]) rfl ?_
          exact Go.retC (B := B_chh) td_chh 22 rfl rfl rfl ⟨_, by decide, rfl, rfl, rfl⟩ (by decide) (by decide)
      · intro (h2 : ¬ ((x &&& (7 : Int32)) ≠ (2 : Int32)))
        refine Go.rn (B := B_chh) td_chh 16 1 (pc' := 27) (S' := [.int (62 : Int32)]) rfl ?_
        exact Go.retC (B := B_chh) td_chh 17 rfl rfl rfl ⟨_, by decide, rfl, rfl, rfl⟩ (by decide) (by decide)
    · intro (h1 : ¬ ((x &&& (7 : Int32)) ≠ (1 : Int32)))
      refine Go.rn (B := B_chh) td_chh 11 1 (pc' := 19) (S' := [.int (60 : Int32)]) rfl ?_
      exact Go.retC (B := B_chh) td_chh 12 rfl rfl rfl ⟨_, by decide, rfl, rfl, rfl⟩ (by decide) (by decide)
  · intro (h0 : ¬ ((x &&& (7 : Int32)) ≠ 0))
    refine Go.rn (B := B_chh) td_chh 6 1 (pc' := 11) (S' := [.int (38 : Int32)]) rfl ?_
    exact Go.retC (B := B_chh) td_chh 7 rfl rfl rfl ⟨_, by decide, rfl, rfl, rfl⟩ (by decide) (by decide)
def tb_ltb : List In1 := [(0, .iconst 1, 1), (1, .newarray .byte, 2), (3, .dup, 1), (4, .iconst 0, 1), (5, .iload_n 0, 1), (6, .i2b, 1), (7, .bastore, 1), (8, .areturn, 1)]
set_option maxRecDepth 65536 in
theorem td_ltb : Dec jdk_43_method_46_code tb_ltb := by unfold Dec; decide +kernel
theorem pd_ltb : parseMethodDescriptor "(C)[B" = some ⟨[.char], (some (.array .byte))⟩ := by decide +kernel
theorem pn_ltb : plainFor (⟨"java/lang/StringLatin1", "toBytes", "(C)[B"⟩ : MethodName) = true := by decide +kernel
abbrev B_ltb : Bx := ((⟨"java/lang/StringLatin1", "toBytes", "(C)[B"⟩ : MethodName), jdk_43_method_46_code, 1, (Option.some (Jvm.ClassFile.FieldType.array Jvm.ClassFile.FieldType.byte)), ({ frames := 0, cells := 1, slots := 1, locals := 0 } : Room))
set_option maxRecDepth 65536 in
set_option maxHeartbeats 4000000 in
theorem ltb_met {A : Ax} (K : Wd A) {c : Int32} {F G : List Ent} : Met A B_ltb #[.int c] F G (fun v F' G' => ∃ b, v = some (.ref b) ∧ (b, ArrP A .byte (latB [c])) :: F = F' ∧ G = G') := by
  refine MetW.of_go pn_ltb K.ew (L := [.val (.int c)]) (fun m => rfl) ?_
  intro D _
  refine Go.rn (B := B_ltb) td_ltb 0 1 (pc' := 1) (S' := [.int (1 : Int32)]) rfl ?_
  refine Go.newarray (B := B_ltb) td_ltb 1 (ty := .byte) (cap := 1) (vs := [.int 0]) rfl rfl (w_24 K) (by decide) (by decide) (by decide) (by decide) (by decide) rfl ?_
  intro b
  show Go A B_ltb D _ 3 _ [.ref b] _ _ 1 1
  refine Go.rn (B := B_ltb) td_ltb 2 4 (pc' := 7) (S' := [.int (byt8 c), .int (0 : Int32), .ref b, .ref b]) rfl ?_
  refine Go.bastore (B := B_ltb) td_ltb 6 (vs' := (latB [c])) rfl (own_inB 1 rfl (by decide)) (by rw [byt8_byt8]; rfl) ?_
  exact Go.retA (B := B_ltb) td_ltb 7 rfl rfl rfl rfl ⟨b, rfl, rfl, rfl⟩ (by decide) (by decide)
def tb_utb : List In1 := [(0, .iconst 2, 1), (1, .newarray .byte, 2), (3, .astore_n 1, 1), (4, .aload_n 1, 1), (5, .iconst 0, 1), (6, .iload_n 0, 1), (7, .invokestatic 111, 3), (10, .aload_n 1, 1), (11, .areturn, 1)]
set_option maxRecDepth 65536 in
theorem td_utb : Dec jdk_52_method_24_code tb_utb := by unfold Dec; decide +kernel
theorem pd_utb : parseMethodDescriptor "(C)[B" = some ⟨[.char], (some (.array .byte))⟩ := by decide +kernel
theorem pn_utb : plainFor (⟨"java/lang/StringUTF16", "toBytes", "(C)[B"⟩ : MethodName) = true := by decide +kernel
abbrev B_utb : Bx := ((⟨"java/lang/StringUTF16", "toBytes", "(C)[B"⟩ : MethodName), jdk_52_method_24_code, 2, (Option.some (Jvm.ClassFile.FieldType.array Jvm.ClassFile.FieldType.byte)), ({ frames := 1, cells := 1, slots := 2, locals := 14 } : Room))
set_option maxRecDepth 65536 in
set_option maxHeartbeats 4000000 in
theorem utb_met {A : Ax} (K : Wd A) {c : Int32} {F G : List Ent} : Met A B_utb #[.int c] F G (fun v F' G' => ∃ b, v = some (.ref b) ∧ (b, ArrP A .byte (utfB [c])) :: F = F' ∧ G = G') := by
  refine MetW.of_go pn_utb K.ew (L := [.val (.int c), .unset]) (fun m => rfl) ?_
  intro D _
  refine Go.rn (B := B_utb) td_utb 0 1 (pc' := 1) (S' := [.int (2 : Int32)]) rfl ?_
  refine Go.newarray (B := B_utb) td_utb 1 (ty := .byte) (cap := 2) (vs := ([] ++ .int 0 :: .int 0 :: [])) rfl rfl (w_24 K) (by decide) (by decide) (by decide) (by decide) (by decide) rfl ?_
  intro b
  show Go A B_utb D _ 3 _ [.ref b] _ _ 1 2
  refine Go.run (B := B_utb) td_utb 2 4 (pc' := 7) (L' := [.val (.int c), .val (.ref b)]) (S' := [.int c, .int (0 : Int32), .ref b]) rfl ?_
  refine Go.callS (B := B_utb) td_utb 6 (B' := B_pch) (argsL := [.ref b, .int (0 : Int32), .int c]) (rest := []) (W := 0) rfl (pch_met K (n := 0) (c := c) (x := .int 0) (y := .int 0) (xs := []) (zs := []) rfl (by decide)) (w_388 K) (w_389 K) (w_22 K) (w_390 K) (by decide) pd_pch rfl rfl rfl rfl (Nat.le_of_eq rfl) (by decide) (by decide) (by decide) (by decide) ?_
  rintro _ _ _ ⟨rfl, rfl, rfl⟩
  show Go A B_utb D _ 10 _ [] ((b, ArrP A .byte (utfB [c])) :: F) _ 1 2
  refine Go.rn (B := B_utb) td_utb 7 1 (pc' := 11) (S' := [.ref b]) rfl ?_
  exact Go.retA (B := B_utb) td_utb 8 rfl rfl rfl rfl ⟨b, rfl, rfl, rfl⟩ (by decide) (by decide)
def tb_sib : List In1 := [(0, .aload_n 0, 1), (1, .invokespecial 1, 3), (4, .aload_n 0, 1), (5, .aload_n 1, 1), (6, .putfield 9, 3), (9, .aload_n 0, 1), (10, .iload_n 2, 1), (11, .putfield 15, 3), (14, .return_, 1)]
set_option maxRecDepth 65536 in
theorem td_sib : Dec jdk_42_method_151_code tb_sib := by unfold Dec; decide +kernel
theorem pd_sib : parseMethodDescriptor "([BB)V" = some ⟨[(.array .byte), .byte], none⟩ := by decide +kernel
theorem pn_sib : plainFor (⟨"java/lang/String", "<init>", "([BB)V"⟩ : MethodName) = true := by decide +kernel
abbrev B_sib : Bx := ((⟨"java/lang/String", "<init>", "([BB)V"⟩ : MethodName), jdk_42_method_151_code, 3, (Option.none : Option Jvm.ClassFile.FieldType), ({ frames := 1, cells := 0, slots := 0, locals := 12 } : Room))
set_option maxRecDepth 65536 in
set_option maxHeartbeats 4000000 in
theorem sib0_met {A : Ax} (K : Wd A) {s b : Addr} {F G : List Ent} : Met A B_sib #[.ref s, .ref b, .int (0 : Int32)] ((s, ob_0 A .null (.int (0 : Int32))) :: F) G (fun v F' G' => v = none ∧ StrE A s b 0 :: F = F' ∧ G = G') := by
  refine MetW.of_go pn_sib K.ew (L := [.val (.ref s), .val (.ref b), .val (.int (0 : Int32))]) (fun m => rfl) ?_
  intro D _
  refine Go.rn (B := B_sib) td_sib 0 1 (pc' := 1) (S' := [.ref s]) rfl ?_
  refine Go.initObject (B := B_sib) td_sib 1 (W := 0) rfl (w_16 K) (w_17 K) (w_18 K) rfl (by decide) (Nat.le_of_eq rfl) (by decide) ?_
  refine Go.rn (B := B_sib) td_sib 2 2 (pc' := 6) (S' := [.ref b, .ref s]) rfl ?_
  refine Go.putfield (B := B_sib) td_sib 4 (fs' := [("java/lang/String", "value", "[B", .ref b), ("java/lang/String", "coder", "B", .int (0 : Int32))]) rfl (w_33 K) (Or.inr ⟨(w_34 K), rfl, rfl⟩) (w_7 K) rfl rfl rfl (mi 0 rfl) (own_fs 0 (ns := ["coder"]) rfl (by decide) rfl) ?_
  refine Go.rn (B := B_sib) td_sib 5 2 (pc' := 11) (S' := [.int (0 : Int32), .ref s]) rfl ?_
  refine Go.putfield (B := B_sib) td_sib 7 (fs' := [("java/lang/String", "value", "[B", .ref b), ("java/lang/String", "coder", "B", .int (0 : Int32))]) rfl (w_31 K) (Or.inr ⟨(w_32 K), rfl, rfl⟩) (w_7 K) rfl rfl rfl (mi 1 rfl) (own_fs 1 (ns := ["value"]) rfl (by decide) rfl) ?_
  exact Go.retV (B := B_sib) td_sib 8 rfl rfl ⟨rfl, rfl, rfl⟩ (by decide) (by decide)
set_option maxRecDepth 65536 in
set_option maxHeartbeats 4000000 in
theorem sib1_met {A : Ax} (K : Wd A) {s b : Addr} {F G : List Ent} : Met A B_sib #[.ref s, .ref b, .int (1 : Int32)] ((s, ob_0 A .null (.int (0 : Int32))) :: F) G (fun v F' G' => v = none ∧ StrE A s b 1 :: F = F' ∧ G = G') := by
  refine MetW.of_go pn_sib K.ew (L := [.val (.ref s), .val (.ref b), .val (.int (1 : Int32))]) (fun m => rfl) ?_
  intro D _
  refine Go.rn (B := B_sib) td_sib 0 1 (pc' := 1) (S' := [.ref s]) rfl ?_
  refine Go.initObject (B := B_sib) td_sib 1 (W := 0) rfl (w_16 K) (w_17 K) (w_18 K) rfl (by decide) (Nat.le_of_eq rfl) (by decide) ?_
  refine Go.rn (B := B_sib) td_sib 2 2 (pc' := 6) (S' := [.ref b, .ref s]) rfl ?_
  refine Go.putfield (B := B_sib) td_sib 4 (fs' := [("java/lang/String", "value", "[B", .ref b), ("java/lang/String", "coder", "B", .int (0 : Int32))]) rfl (w_33 K) (Or.inr ⟨(w_34 K), rfl, rfl⟩) (w_7 K) rfl rfl rfl (mi 0 rfl) (own_fs 0 (ns := ["coder"]) rfl (by decide) rfl) ?_
  refine Go.rn (B := B_sib) td_sib 5 2 (pc' := 11) (S' := [.int (1 : Int32), .ref s]) rfl ?_
  refine Go.putfield (B := B_sib) td_sib 7 (fs' := [("java/lang/String", "value", "[B", .ref b), ("java/lang/String", "coder", "B", .int (1 : Int32))]) rfl (w_31 K) (Or.inr ⟨(w_32 K), rfl, rfl⟩) (w_7 K) rfl rfl rfl (mi 1 rfl) (own_fs 1 (ns := ["value"]) rfl (by decide) rfl) ?_
  exact Go.retV (B := B_sib) td_sib 8 rfl rfl ⟨rfl, rfl, rfl⟩ (by decide) (by decide)
def tb_vof : List In1 := [(0, .getstatic 38, 3), (3, .ifCond .eq 23, 3), (6, .iload_n 0, 1), (7, .invokestatic 1015, 3), (10, .ifCond .eq 16, 3), (13, .new 10, 3), (16, .dup, 1), (17, .iload_n 0, 1), (18, .invokestatic 1018, 3), (21, .iconst 0, 1), (22, .invokespecial 209, 3), (25, .areturn, 1), (26, .new 10, 3), (29, .dup, 1), (30, .iload_n 0, 1), (31, .invokestatic 1021, 3), (34, .iconst 1, 1), (35, .invokespecial 209, 3), (38, .areturn, 1)]
set_option maxRecDepth 65536 in
theorem td_vof : Dec jdk_42_method_139_code tb_vof := by unfold Dec; decide +kernel
theorem pd_vof : parseMethodDescriptor "(C)Ljava/lang/String;" = some ⟨[.char], (some (.object "java/lang/String"))⟩ := by decide +kernel
theorem pn_vof : plainFor (⟨"java/lang/String", "valueOf", "(C)Ljava/lang/String;"⟩ : MethodName) = true := by decide +kernel
abbrev B_vof : Bx := ((⟨"java/lang/String", "valueOf", "(C)Ljava/lang/String;"⟩ : MethodName), jdk_42_method_139_code, 1, (Option.some (Jvm.ClassFile.FieldType.object "java/lang/String")), ({ frames := 2, cells := 2, slots := 6, locals := 29 } : Room))
set_option maxRecDepth 65536 in
set_option maxHeartbeats 4000000 in
theorem vof_met {A : Ax} (K : Wd A) {c : Int32} (hc : 0 ≤ c.toInt ∧ c.toInt < 65536) {F G : List Ent} : Met A B_vof #[.int c] F G (fun v F' G' => ∃ s q1 q2, v = some (.ref s) ∧ F = F' ∧ q1 :: q2 :: G = G' ∧ StrR A (q1 :: q2 :: G) s [c]) := by
  refine MetW.of_go pn_vof K.ew (L := [.val (.int c)]) (fun m => rfl) ?_
  intro D _
  obtain ⟨z, nz, hz⟩ := K.cmpt
  by_cases hl : c.toInt < 256
  · refine Go.getstatic (B := B_vof) td_vof 0 rfl (w_19 K) hz ?_
    refine Go.if0 (B := B_vof) td_vof 1 (pc' := 26) rfl (by decide) rfl (fun (h : z = 0) => absurd h nz) (fun _ => ?_)
    refine Go.rn (B := B_vof) td_vof 2 1 (pc' := 7) (S' := [.int c]) rfl ?_
    refine Go.callS (B := B_vof) td_vof 3 (B' := B_cnc) (argsL := [.int c]) (rest := []) (W := 0) rfl (cncY_met K hl) (w_368 K) (w_356 K) (w_157 K) (w_357 K) (by decide) pd_cnc rfl rfl rfl rfl (Nat.le_of_eq rfl) (by decide) (by decide) (by decide) (by decide) ?_
    rintro _ _ _ ⟨rfl, rfl, rfl⟩
    show Go A B_vof D _ 10 _ [.int (1 : Int32)] _ _ 0 0
    refine Go.if0 (B := B_vof) td_vof 4 (pc' := 26) rfl (by decide) rfl (fun (h : (1 : Int32) = 0) => absurd h (by decide)) (fun _ => ?_)
    refine Go.new (B := B_vof) td_vof 5 (fs := [("java/lang/String", "value", "[B", .null), ("java/lang/String", "coder", "B", .int (0 : Int32))]) rfl (w_369 K) (w_7 K) (w_8 K) (own_layS (Or.inr (w_34 K)) rfl rfl (own_layS (Or.inr (w_32 K)) rfl rfl own_lay0)) (by decide) (by decide) ?_
    intro s
    show Go A B_vof D _ 16 _ [.ref s] _ _ 1 4
    refine Go.rn (B := B_vof) td_vof 6 2 (pc' := 18) (S' := [.int c, .ref s, .ref s]) rfl ?_
    refine Go.callS (B := B_vof) td_vof 8 (B' := B_ltb) (argsL := [.int c]) (rest := [.ref s, .ref s]) (W := 2) rfl (ltb_met K) (w_370 K) (w_371 K) (w_157 K) (w_372 K) (by decide) pd_ltb rfl rfl rfl rfl (Nat.le_of_eq rfl) (by decide) (by decide) (by decide) (by decide) ?_
    rintro _ _ _ ⟨b, rfl, rfl, rfl⟩
    show Go A B_vof D _ 21 _ [.ref b, .ref s, .ref s] ((b, ArrP A .byte (latB [c])) :: (s, ob_0 A .null (.int (0 : Int32))) :: F) _ 2 5
    refine Go.rn (B := B_vof) td_vof 9 1 (pc' := 22) (S' := [.int (0 : Int32), .ref b, .ref s, .ref s]) rfl ?_
    refine Go.front 1 (F' := ((s, ob_0 A .null (.int (0 : Int32))) :: (b, ArrP A .byte (latB [c])) :: F)) rfl rfl ?_
    refine Go.callN (B := B_vof) td_vof 10 (B' := B_sib) (a := s) (argsL := [.ref b, .int (0 : Int32)]) (rest := [.ref s]) (W := 1) rfl (sib0_met K) rfl rfl (w_373 K) (w_374 K) (w_8 K) (w_375 K) (by decide) pd_sib rfl rfl rfl rfl (Nat.le_of_eq rfl) (by decide) (by decide) (by decide) (by decide) ?_
    rintro _ _ _ ⟨rfl, rfl, rfl⟩
    show Go A B_vof D _ 25 _ [.ref s] (StrE A s b 0 :: (b, ArrP A .byte (latB [c])) :: F) _ 2 5
    refine Go.front 1 (F' := ((b, ArrP A .byte (latB [c])) :: StrE A s b 0 :: F)) rfl rfl ?_
    refine Go.freeze ?_
    refine Go.freeze ?_
    exact Go.retA (B := B_vof) td_vof 11 rfl rfl rfl rfl ⟨s, _, _, rfl, rfl, rfl, b, Or.inl ⟨(fun x h => by cases List.mem_singleton.mp h; exact ⟨hc.1, hl⟩), mi 0 rfl, mi 1 rfl⟩⟩ (by decide) (by decide)
  · refine Go.getstatic (B := B_vof) td_vof 0 rfl (w_19 K) hz ?_
    refine Go.if0 (B := B_vof) td_vof 1 (pc' := 26) rfl (by decide) rfl (fun (h : z = 0) => absurd h nz) (fun _ => ?_)
    refine Go.rn (B := B_vof) td_vof 2 1 (pc' := 7) (S' := [.int c]) rfl ?_
    refine Go.callS (B := B_vof) td_vof 3 (B' := B_cnc) (argsL := [.int c]) (rest := []) (W := 0) rfl (cncN_met K (by omega)) (w_368 K) (w_356 K) (w_157 K) (w_357 K) (by decide) pd_cnc rfl rfl rfl rfl (Nat.le_of_eq rfl) (by decide) (by decide) (by decide) (by decide) ?_
    rintro _ _ _ ⟨rfl, rfl, rfl⟩
    show Go A B_vof D _ 10 _ [.int (0 : Int32)] _ _ 0 0
    refine Go.if0 (B := B_vof) td_vof 4 (pc' := 26) rfl (by decide) rfl (fun _ => ?_) (fun (h : ¬ ((0 : Int32) = 0)) => absurd (by decide) h)
    refine Go.new (B := B_vof) td_vof 12 (fs := [("java/lang/String", "value", "[B", .null), ("java/lang/String", "coder", "B", .int (0 : Int32))]) rfl (w_369 K) (w_7 K) (w_8 K) (own_layS (Or.inr (w_34 K)) rfl rfl (own_layS (Or.inr (w_32 K)) rfl rfl own_lay0)) (by decide) (by decide) ?_
    intro s
    show Go A B_vof D _ 29 _ [.ref s] _ _ 1 4
    refine Go.rn (B := B_vof) td_vof 13 2 (pc' := 31) (S' := [.int c, .ref s, .ref s]) rfl ?_
    refine Go.callS (B := B_vof) td_vof 15 (B' := B_utb) (argsL := [.int c]) (rest := [.ref s, .ref s]) (W := 2) rfl (utb_met K) (w_434 K) (w_435 K) (w_22 K) (w_436 K) (by decide) pd_utb rfl rfl rfl rfl (Nat.le_of_eq rfl) (by decide) (by decide) (by decide) (by decide) ?_
    rintro _ _ _ ⟨b, rfl, rfl, rfl⟩
    show Go A B_vof D _ 34 _ [.ref b, .ref s, .ref s] ((b, ArrP A .byte (utfB [c])) :: (s, ob_0 A .null (.int (0 : Int32))) :: F) _ 2 6
    refine Go.rn (B := B_vof) td_vof 16 1 (pc' := 35) (S' := [.int (1 : Int32), .ref b, .ref s, .ref s]) rfl ?_
    refine Go.front 1 (F' := ((s, ob_0 A .null (.int (0 : Int32))) :: (b, ArrP A .byte (utfB [c])) :: F)) rfl rfl ?_
    refine Go.callN (B := B_vof) td_vof 17 (B' := B_sib) (a := s) (argsL := [.ref b, .int (1 : Int32)]) (rest := [.ref s]) (W := 1) rfl (sib1_met K) rfl rfl (w_373 K) (w_374 K) (w_8 K) (w_375 K) (by decide) pd_sib rfl rfl rfl rfl (Nat.le_of_eq rfl) (by decide) (by decide) (by decide) (by decide) ?_
    rintro _ _ _ ⟨rfl, rfl, rfl⟩
    show Go A B_vof D _ 38 _ [.ref s] (StrE A s b 1 :: (b, ArrP A .byte (utfB [c])) :: F) _ 2 6
    refine Go.front 1 (F' := ((b, ArrP A .byte (utfB [c])) :: StrE A s b 1 :: F)) rfl rfl ?_
    refine Go.freeze ?_
    refine Go.freeze ?_
    exact Go.retA (B := B_vof) td_vof 18 rfl rfl rfl rfl ⟨s, _, _, rfl, rfl, rfl, b, Or.inr ⟨⟨fun x h => by cases List.mem_singleton.mp h; exact hc, fun z => hl (z c (List.mem_singleton.mpr rfl)).2⟩, mi 0 rfl, mi 1 rfl⟩⟩ (by decide) (by decide)
def tb_esc : List In1 := [(0, .iload_n 0, 1), (1, .bipush 38, 2), (3, .if_icmp .ne 6, 3), (6, .ldc 47, 2), (8, .areturn, 1), (9, .iload_n 0, 1), (10, .bipush 60, 2), (12, .if_icmp .ne 6, 3), (15, .ldc 49, 2), (17, .areturn, 1), (18, .iload_n 0, 1), (19, .bipush 62, 2), (21, .if_icmp .ne 6, 3), (24, .ldc 51, 2), (26, .areturn, 1), (27, .iload_n 0, 1), (28, .bipush 34, 2), (30, .if_icmp .ne 6, 3), (33, .ldc 53, 2), (35, .areturn, 1), (36, .iload_n 0, 1), (37, .bipush 39, 2), (39, .if_icmp .ne 6, 3), (42, .ldc 55, 2), (44, .areturn, 1), (45, .iload_n 0, 1), (46, .invokestatic 57, 3), (49, .areturn, 1)]
set_option maxRecDepth 65536 in
theorem td_esc : Dec method_4_code tb_esc := by unfold Dec; decide +kernel
theorem pd_esc : parseMethodDescriptor "(C)Ljava/lang/String;" = some ⟨[.char], (some (.object "java/lang/String"))⟩ := by decide +kernel
theorem pn_esc : plainFor (⟨"com/example/attentive_search/attentivesearch/HighlightHtmlPinLaw", "esc", "(C)Ljava/lang/String;"⟩ : MethodName) = true := by decide +kernel
abbrev B_esc : Bx := ((⟨"com/example/attentive_search/attentivesearch/HighlightHtmlPinLaw", "esc", "(C)Ljava/lang/String;"⟩ : MethodName), method_4_code, 1, (Option.some (Jvm.ClassFile.FieldType.object "java/lang/String")), ({ frames := 3, cells := 2, slots := 28, locals := 41 } : Room))
set_option maxRecDepth 65536 in
set_option maxHeartbeats 4000000 in
theorem esc_met {A : Ax} (K : Wd A) {c : Int32} (hc : 0 ≤ c.toInt ∧ c.toInt < 65536) {F G : List Ent} : Met A B_esc #[.int c] F G (fun v F' G' => ∃ s q1 q2, v = some (.ref s) ∧ F = F' ∧ q1 :: q2 :: G = G' ∧ StrR A (q1 :: q2 :: G) s (escL c)) := by
  refine MetW.of_go pn_esc K.ew (L := [.val (.int c)]) (fun m => rfl) ?_
  intro D _
  refine Go.rn (B := B_esc) td_esc 0 2 (pc' := 3) (S' := [.int (38 : Int32), .int c]) rfl ?_
  by_cases h0 : c = 38
  · refine Go.icmp (B := B_esc) td_esc 2 (pc' := 9) rfl (by decide) rfl (fun (h : c ≠ (38 : Int32)) => absurd h (fun z => z h0)) (fun _ => ?_)
    refine Go.ldcS (B := B_esc) td_esc 3 (n := 20) (vs := (latB [38, 97, 109, 112, 59])) rfl (w_281 K) (strAtoms K) (by rw [show A.EL = consts_1 from K.el]; decide) K.wm (by decide +kernel) (by decide) (by decide) (by decide) (by decide) (by decide) ?_
    intro a1 b1
    show Go A B_esc D _ 8 _ [.ref a1] _ _ 2 24
    have hL : escL c = ([38, 97, 109, 112, 59] : List Int32) := by rw [h0]; decide
    exact Go.retA (B := B_esc) td_esc 4 rfl rfl rfl rfl ⟨a1, _, _, rfl, rfl, rfl, by rw [hL]; exact ⟨b1, Or.inl ⟨by unfold Lat; decide, mi 0 rfl, mi 1 rfl⟩⟩⟩ (by decide) (by decide)
  refine Go.icmp (B := B_esc) td_esc 2 (pc' := 9) rfl (by decide) rfl (fun _ => ?_) (fun (h : ¬ (c ≠ (38 : Int32))) => absurd h0 h)
  refine Go.rn (B := B_esc) td_esc 5 2 (pc' := 12) (S' := [.int (60 : Int32), .int c]) rfl ?_
  by_cases h1 : c = 60
  · refine Go.icmp (B := B_esc) td_esc 7 (pc' := 18) rfl (by decide) rfl (fun (h : c ≠ (60 : Int32)) => absurd h (fun z => z h1)) (fun _ => ?_)
    refine Go.ldcS (B := B_esc) td_esc 8 (n := 16) (vs := (latB [38, 108, 116, 59])) rfl (w_452 K) (strAtoms K) (by rw [show A.EL = consts_1 from K.el]; decide) K.wm (by decide +kernel) (by decide) (by decide) (by decide) (by decide) (by decide) ?_
    intro a1 b1
    show Go A B_esc D _ 17 _ [.ref a1] _ _ 2 20
    have hL : escL c = ([38, 108, 116, 59] : List Int32) := by rw [h1]; decide
    exact Go.retA (B := B_esc) td_esc 9 rfl rfl rfl rfl ⟨a1, _, _, rfl, rfl, rfl, by rw [hL]; exact ⟨b1, Or.inl ⟨by unfold Lat; decide, mi 0 rfl, mi 1 rfl⟩⟩⟩ (by decide) (by decide)
  refine Go.icmp (B := B_esc) td_esc 7 (pc' := 18) rfl (by decide) rfl (fun _ => ?_) (fun (h : ¬ (c ≠ (60 : Int32))) => absurd h1 h)
  refine Go.rn (B := B_esc) td_esc 10 2 (pc' := 21) (S' := [.int (62 : Int32), .int c]) rfl ?_
  by_cases h2 : c = 62
  · refine Go.icmp (B := B_esc) td_esc 12 (pc' := 27) rfl (by decide) rfl (fun (h : c ≠ (62 : Int32)) => absurd h (fun z => z h2)) (fun _ => ?_)
    refine Go.ldcS (B := B_esc) td_esc 13 (n := 16) (vs := (latB [38, 103, 116, 59])) rfl (w_448 K) (strAtoms K) (by rw [show A.EL = consts_1 from K.el]; decide) K.wm (by decide +kernel) (by decide) (by decide) (by decide) (by decide) (by decide) ?_
    intro a1 b1
    show Go A B_esc D _ 26 _ [.ref a1] _ _ 2 20
    have hL : escL c = ([38, 103, 116, 59] : List Int32) := by rw [h2]; decide
    exact Go.retA (B := B_esc) td_esc 14 rfl rfl rfl rfl ⟨a1, _, _, rfl, rfl, rfl, by rw [hL]; exact ⟨b1, Or.inl ⟨by unfold Lat; decide, mi 0 rfl, mi 1 rfl⟩⟩⟩ (by decide) (by decide)
  refine Go.icmp (B := B_esc) td_esc 12 (pc' := 27) rfl (by decide) rfl (fun _ => ?_) (fun (h : ¬ (c ≠ (62 : Int32))) => absurd h2 h)
  refine Go.rn (B := B_esc) td_esc 15 2 (pc' := 30) (S' := [.int (34 : Int32), .int c]) rfl ?_
  by_cases h3 : c = 34
  · refine Go.icmp (B := B_esc) td_esc 17 (pc' := 36) rfl (by decide) rfl (fun (h : c ≠ (34 : Int32)) => absurd h (fun z => z h3)) (fun _ => ?_)
    refine Go.ldcS (B := B_esc) td_esc 18 (n := 24) (vs := (latB [38, 113, 117, 111, 116, 59])) rfl (w_275 K) (strAtoms K) (by rw [show A.EL = consts_1 from K.el]; decide) K.wm (by decide +kernel) (by decide) (by decide) (by decide) (by decide) (by decide) ?_
    intro a1 b1
    show Go A B_esc D _ 35 _ [.ref a1] _ _ 2 28
    have hL : escL c = ([38, 113, 117, 111, 116, 59] : List Int32) := by rw [h3]; decide
    exact Go.retA (B := B_esc) td_esc 19 rfl rfl rfl rfl ⟨a1, _, _, rfl, rfl, rfl, by rw [hL]; exact ⟨b1, Or.inl ⟨by unfold Lat; decide, mi 0 rfl, mi 1 rfl⟩⟩⟩ (by decide) (by decide)
  refine Go.icmp (B := B_esc) td_esc 17 (pc' := 36) rfl (by decide) rfl (fun _ => ?_) (fun (h : ¬ (c ≠ (34 : Int32))) => absurd h3 h)
  refine Go.rn (B := B_esc) td_esc 20 2 (pc' := 39) (S' := [.int (39 : Int32), .int c]) rfl ?_
  by_cases h4 : c = 39
  · refine Go.icmp (B := B_esc) td_esc 22 (pc' := 45) rfl (by decide) rfl (fun (h : c ≠ (39 : Int32)) => absurd h (fun z => z h4)) (fun _ => ?_)
    refine Go.ldcS (B := B_esc) td_esc 23 (n := 20) (vs := (latB [38, 35, 51, 57, 59])) rfl (w_450 K) (strAtoms K) (by rw [show A.EL = consts_1 from K.el]; decide) K.wm (by decide +kernel) (by decide) (by decide) (by decide) (by decide) (by decide) ?_
    intro a1 b1
    show Go A B_esc D _ 44 _ [.ref a1] _ _ 2 24
    have hL : escL c = ([38, 35, 51, 57, 59] : List Int32) := by rw [h4]; decide
    exact Go.retA (B := B_esc) td_esc 24 rfl rfl rfl rfl ⟨a1, _, _, rfl, rfl, rfl, by rw [hL]; exact ⟨b1, Or.inl ⟨by unfold Lat; decide, mi 0 rfl, mi 1 rfl⟩⟩⟩ (by decide) (by decide)
  refine Go.icmp (B := B_esc) td_esc 22 (pc' := 45) rfl (by decide) rfl (fun _ => ?_) (fun (h : ¬ (c ≠ (39 : Int32))) => absurd h4 h)
  have hL : escL c = [c] := by unfold escL; rw [if_neg h0, if_neg h1, if_neg h2, if_neg h3, if_neg h4]
  refine Go.rn (B := B_esc) td_esc 25 1 (pc' := 46) (S' := [.int c]) rfl ?_
  refine Go.callS (B := B_esc) td_esc 26 (B' := B_vof) (argsL := [.int c]) (rest := []) (W := 0) rfl (vof_met K hc) (w_365 K) (w_366 K) (w_8 K) (w_367 K) (by decide) pd_vof rfl rfl rfl rfl (Nat.le_of_eq rfl) (by decide) (by decide) (by decide) (by decide) ?_
  rintro _ _ _ ⟨s, q1, q2, rfl, rfl, rfl, hS⟩
  show Go A B_esc D _ 49 _ [.ref s] _ (q1 :: q2 :: G) 2 6
  exact Go.retA (B := B_esc) td_esc 27 rfl rfl rfl rfl ⟨s, q1, q2, rfl, rfl, rfl, by rw [hL]; exact hS⟩ (by decide) (by decide)
def tb_tak : List In1 := [(0, .iload_n 1, 1), (1, .ifCond .ge 5, 3), (4, .iconst (-1), 1), (5, .ireturn, 1), (6, .aload_n 2, 1), (7, .invokevirtual 43, 3), (10, .istore_n 3, 1), (11, .iload_n 3, 1), (12, .bipush 6, 2), (14, .if_icmp .gt 13, 3), (17, .iload_n 1, 1), (18, .aload_n 0, 1), (19, .invokevirtual 43, 3), (22, .iload_n 3, 1), (23, .isub, 1), (24, .if_icmp .le 5, 3), (27, .iconst (-1), 1), (28, .ireturn, 1), (29, .iload_n 3, 1), (30, .ifCond .le 18, 3), (33, .aload_n 0, 1), (34, .iload_n 1, 1), (35, .invokevirtual 72, 3), (38, .aload_n 2, 1), (39, .iconst 0, 1), (40, .invokevirtual 72, 3), (43, .if_icmp .eq 5, 3), (46, .iconst (-1), 1), (47, .ireturn, 1), (48, .iload_n 3, 1), (49, .iconst 1, 1), (50, .if_icmp .le 20, 3), (53, .aload_n 0, 1), (54, .iload_n 1, 1), (55, .iconst 1, 1), (56, .iadd, 1), (57, .invokevirtual 72, 3), (60, .aload_n 2, 1), (61, .iconst 1, 1), (62, .invokevirtual 72, 3), (65, .if_icmp .eq 5, 3), (68, .iconst (-1), 1), (69, .ireturn, 1), (70, .iload_n 3, 1), (71, .iconst 2, 1), (72, .if_icmp .le 20, 3), (75, .aload_n 0, 1), (76, .iload_n 1, 1), (77, .iconst 2, 1), (78, .iadd, 1), (79, .invokevirtual 72, 3), (82, .aload_n 2, 1), (83, .iconst 2, 1), (84, .invokevirtual 72, 3), (87, .if_icmp .eq 5, 3), (90, .iconst (-1), 1), (91, .ireturn, 1), (92, .iload_n 3, 1), (93, .iconst 3, 1), (94, .if_icmp .le 20, 3), (97, .aload_n 0, 1), (98, .iload_n 1, 1), (99, .iconst 3, 1), (100, .iadd, 1), (101, .invokevirtual 72, 3), (104, .aload_n 2, 1), (105, .iconst 3, 1), (106, .invokevirtual 72, 3), (109, .if_icmp .eq 5, 3), (112, .iconst (-1), 1), (113, .ireturn, 1), (114, .iload_n 3, 1), (115, .iconst 4, 1), (116, .if_icmp .le 20, 3), (119, .aload_n 0, 1), (120, .iload_n 1, 1), (121, .iconst 4, 1), (122, .iadd, 1), (123, .invokevirtual 72, 3), (126, .aload_n 2, 1), (127, .iconst 4, 1), (128, .invokevirtual 72, 3), (131, .if_icmp .eq 5, 3), (134, .iconst (-1), 1), (135, .ireturn, 1), (136, .iload_n 3, 1), (137, .iconst 5, 1), (138, .if_icmp .le 20, 3), (141, .aload_n 0, 1), (142, .iload_n 1, 1), (143, .iconst 5, 1), (144, .iadd, 1), (145, .invokevirtual 72, 3), (148, .aload_n 2, 1), (149, .iconst 5, 1), (150, .invokevirtual 72, 3), (153, .if_icmp .eq 5, 3), (156, .iconst (-1), 1), (157, .ireturn, 1), (158, .iload_n 1, 1), (159, .iload_n 3, 1), (160, .iadd, 1), (161, .ireturn, 1)]
set_option maxRecDepth 65536 in
theorem td_tak : Dec method_6_code tb_tak := by unfold Dec; decide +kernel
theorem pd_tak : parseMethodDescriptor "(Ljava/lang/String;ILjava/lang/String;)I" = some ⟨[(.object "java/lang/String"), .int, (.object "java/lang/String")], (some .int)⟩ := by decide +kernel
theorem pn_tak : plainFor (⟨"com/example/attentive_search/attentivesearch/HighlightHtmlPinLaw", "take", "(Ljava/lang/String;ILjava/lang/String;)I"⟩ : MethodName) = true := by decide +kernel
abbrev B_tak : Bx := ((⟨"com/example/attentive_search/attentivesearch/HighlightHtmlPinLaw", "take", "(Ljava/lang/String;ILjava/lang/String;)I"⟩ : MethodName), method_6_code, 4, (Option.some Jvm.ClassFile.FieldType.int), ({ frames := 5, cells := 0, slots := 0, locals := 67 } : Room))
set_option maxRecDepth 65536 in
set_option maxHeartbeats 4000000 in
theorem tk_6 {A : Ax} (K : Wd A) {D : Dx} {out pc : Addr} {os pre ps suf : List Int32} {F G : List Ent} (ho : os = pre ++ (ps ++ suf)) (hl : os.length ≤ 64) (mO : StrR A G out os) (mP : StrR A G pc ps) : Go A B_tak D (fun v F' G' => v = some (.int (nI (pre ++ ps).length)) ∧ F = F' ∧ G = G') 158 [.val (.ref out), .val (.int (nI pre.length)), .val (.ref pc), .val (.int (nI ps.length))] [] F G 0 0 := by
  refine Go.rn (B := B_tak) td_tak 99 3 (pc' := 161) (S' := [.int ((nI pre.length) + (nI ps.length))]) rfl ?_
  exact Go.retI (B := B_tak) td_tak 102 rfl rfl ⟨congrArg (fun z => some (Value.int z)) (by rw [nI_addn, List.length_append]), rfl, rfl⟩ (by decide) (by decide)
set_option maxRecDepth 65536 in
set_option maxHeartbeats 4000000 in
theorem tk_5 {A : Ax} (K : Wd A) {D : Dx} {out pc : Addr} {os pre ps suf : List Int32} {F G : List Ent} (ho : os = pre ++ (ps ++ suf)) (hl : os.length ≤ 64) (mO : StrR A G out os) (mP : StrR A G pc ps) : Go A B_tak D (fun v F' G' => v = some (.int (nI (pre ++ ps).length)) ∧ F = F' ∧ G = G') 136 [.val (.ref out), .val (.int (nI pre.length)), .val (.ref pc), .val (.int (nI ps.length))] [] F G 0 0 := by
  obtain ⟨bO, cdO, hmO⟩ := mO.obj
  obtain ⟨bP, cdP, hmP⟩ := mP.obj
  have hpl : pre.length + ps.length ≤ os.length := by rw [ho]; simp only [List.length_append]; omega
  have hpn : (nI ps.length).toInt = ps.length := nI_toInt (by omega)
  have ek : (5 : Int32).toInt = 5 := by decide
  refine Go.rn (B := B_tak) td_tak 85 2 (pc' := 138) (S' := [.int (5 : Int32), .int (nI ps.length)]) rfl ?_
  by_cases hk : 5 < ps.length
  · obtain ⟨xs, p, ys, hp, hx⟩ := own_split ps 5 hk
    refine Go.icmp (B := B_tak) td_tak 87 (pc' := 158) rfl (by decide) rfl (fun (h : (nI ps.length) ≤ (5 : Int32)) => absurd h (fun z => absurd (i32_le.mp z) (by omega))) (fun _ => ?_)
    refine Go.rn (B := B_tak) td_tak 88 4 (pc' := 145) (S' := [.int ((nI pre.length) + (5 : Int32)), .ref out]) rfl ?_
    refine Go.callV (B := B_tak) td_tak 92 (B' := B_cha) (C := "java/lang/String") (a := out) (argsL := [.int ((nI pre.length) + (5 : Int32))]) (rest := []) (W := 0) rfl (chaR_met K (c := p) (pre := pre ++ xs) (suf := ys ++ suf) (by rw [ho, hp]; simp) (nI_appk (k := 5) hx) (by omega) mO) (Or.inr hmO) (fun c P => P.1) (w_280 K) (w_146 K) (w_147 K) (w_148 K) (w_148 K) (w_8 K) (w_149 K) (by decide) pd_cha rfl rfl rfl rfl (Nat.le_of_eq rfl) (by decide) (by decide) (by decide) (by decide) ?_
    rintro _ _ _ ⟨rfl, rfl, rfl⟩
    show Go A B_tak D _ 148 _ [.int p] _ _ 0 0
    refine Go.rn (B := B_tak) td_tak 93 2 (pc' := 150) (S' := [.int (5 : Int32), .ref pc, .int p]) rfl ?_
    refine Go.callV (B := B_tak) td_tak 95 (B' := B_cha) (C := "java/lang/String") (a := pc) (argsL := [.int (5 : Int32)]) (rest := [.int p]) (W := 1) rfl (chaR_met K (pre := xs) (suf := ys) hp (by rw [hx]; rfl) (by omega) mP) (Or.inr hmP) (fun c P => P.1) (w_280 K) (w_146 K) (w_147 K) (w_148 K) (w_148 K) (w_8 K) (w_149 K) (by decide) pd_cha rfl rfl rfl rfl (Nat.le_of_eq rfl) (by decide) (by decide) (by decide) (by decide) ?_
    rintro _ _ _ ⟨rfl, rfl, rfl⟩
    show Go A B_tak D _ 153 _ [.int p, .int p] _ _ 0 0
    refine Go.icmp (B := B_tak) td_tak 96 (pc' := 158) rfl (by decide) rfl (fun _ => ?_) (fun (h : ¬ (p = p)) => absurd rfl h)
    exact tk_6 K ho hl mO mP
  refine Go.icmp (B := B_tak) td_tak 87 (pc' := 158) rfl (by decide) rfl (fun _ => ?_) (fun (h : ¬ ((nI ps.length) ≤ (5 : Int32))) => absurd (i32_le.mpr (by omega)) h)
  exact tk_6 K ho hl mO mP
set_option maxRecDepth 65536 in
set_option maxHeartbeats 4000000 in
theorem tk_4 {A : Ax} (K : Wd A) {D : Dx} {out pc : Addr} {os pre ps suf : List Int32} {F G : List Ent} (ho : os = pre ++ (ps ++ suf)) (hl : os.length ≤ 64) (mO : StrR A G out os) (mP : StrR A G pc ps) : Go A B_tak D (fun v F' G' => v = some (.int (nI (pre ++ ps).length)) ∧ F = F' ∧ G = G') 114 [.val (.ref out), .val (.int (nI pre.length)), .val (.ref pc), .val (.int (nI ps.length))] [] F G 0 0 := by
  obtain ⟨bO, cdO, hmO⟩ := mO.obj
  obtain ⟨bP, cdP, hmP⟩ := mP.obj
  have hpl : pre.length + ps.length ≤ os.length := by rw [ho]; simp only [List.length_append]; omega
  have hpn : (nI ps.length).toInt = ps.length := nI_toInt (by omega)
  have ek : (4 : Int32).toInt = 4 := by decide
  refine Go.rn (B := B_tak) td_tak 71 2 (pc' := 116) (S' := [.int (4 : Int32), .int (nI ps.length)]) rfl ?_
  by_cases hk : 4 < ps.length
  · obtain ⟨xs, p, ys, hp, hx⟩ := own_split ps 4 hk
    refine Go.icmp (B := B_tak) td_tak 73 (pc' := 136) rfl (by decide) rfl (fun (h : (nI ps.length) ≤ (4 : Int32)) => absurd h (fun z => absurd (i32_le.mp z) (by omega))) (fun _ => ?_)
    refine Go.rn (B := B_tak) td_tak 74 4 (pc' := 123) (S' := [.int ((nI pre.length) + (4 : Int32)), .ref out]) rfl ?_
    refine Go.callV (B := B_tak) td_tak 78 (B' := B_cha) (C := "java/lang/String") (a := out) (argsL := [.int ((nI pre.length) + (4 : Int32))]) (rest := []) (W := 0) rfl (chaR_met K (c := p) (pre := pre ++ xs) (suf := ys ++ suf) (by rw [ho, hp]; simp) (nI_appk (k := 4) hx) (by omega) mO) (Or.inr hmO) (fun c P => P.1) (w_280 K) (w_146 K) (w_147 K) (w_148 K) (w_148 K) (w_8 K) (w_149 K) (by decide) pd_cha rfl rfl rfl rfl (Nat.le_of_eq rfl) (by decide) (by decide) (by decide) (by decide) ?_
    rintro _ _ _ ⟨rfl, rfl, rfl⟩
    show Go A B_tak D _ 126 _ [.int p] _ _ 0 0
    refine Go.rn (B := B_tak) td_tak 79 2 (pc' := 128) (S' := [.int (4 : Int32), .ref pc, .int p]) rfl ?_
    refine Go.callV (B := B_tak) td_tak 81 (B' := B_cha) (C := "java/lang/String") (a := pc) (argsL := [.int (4 : Int32)]) (rest := [.int p]) (W := 1) rfl (chaR_met K (pre := xs) (suf := ys) hp (by rw [hx]; rfl) (by omega) mP) (Or.inr hmP) (fun c P => P.1) (w_280 K) (w_146 K) (w_147 K) (w_148 K) (w_148 K) (w_8 K) (w_149 K) (by decide) pd_cha rfl rfl rfl rfl (Nat.le_of_eq rfl) (by decide) (by decide) (by decide) (by decide) ?_
    rintro _ _ _ ⟨rfl, rfl, rfl⟩
    show Go A B_tak D _ 131 _ [.int p, .int p] _ _ 0 0
    refine Go.icmp (B := B_tak) td_tak 82 (pc' := 136) rfl (by decide) rfl (fun _ => ?_) (fun (h : ¬ (p = p)) => absurd rfl h)
    exact tk_5 K ho hl mO mP
  refine Go.icmp (B := B_tak) td_tak 73 (pc' := 136) rfl (by decide) rfl (fun _ => ?_) (fun (h : ¬ ((nI ps.length) ≤ (4 : Int32))) => absurd (i32_le.mpr (by omega)) h)
  exact tk_5 K ho hl mO mP
set_option maxRecDepth 65536 in
set_option maxHeartbeats 4000000 in
theorem tk_3 {A : Ax} (K : Wd A) {D : Dx} {out pc : Addr} {os pre ps suf : List Int32} {F G : List Ent} (ho : os = pre ++ (ps ++ suf)) (hl : os.length ≤ 64) (mO : StrR A G out os) (mP : StrR A G pc ps) : Go A B_tak D (fun v F' G' => v = some (.int (nI (pre ++ ps).length)) ∧ F = F' ∧ G = G') 92 [.val (.ref out), .val (.int (nI pre.length)), .val (.ref pc), .val (.int (nI ps.length))] [] F G 0 0 := by
  obtain ⟨bO, cdO, hmO⟩ := mO.obj
  obtain ⟨bP, cdP, hmP⟩ := mP.obj
  have hpl : pre.length + ps.length ≤ os.length := by rw [ho]; simp only [List.length_append]; omega
  have hpn : (nI ps.length).toInt = ps.length := nI_toInt (by omega)
  have ek : (3 : Int32).toInt = 3 := by decide
  refine Go.rn (B := B_tak) td_tak 57 2 (pc' := 94) (S' := [.int (3 : Int32), .int (nI ps.length)]) rfl ?_
  by_cases hk : 3 < ps.length
  · obtain ⟨xs, p, ys, hp, hx⟩ := own_split ps 3 hk
    refine Go.icmp (B := B_tak) td_tak 59 (pc' := 114) rfl (by decide) rfl (fun (h : (nI ps.length) ≤ (3 : Int32)) => absurd h (fun z => absurd (i32_le.mp z) (by omega))) (fun _ => ?_)
    refine Go.rn (B := B_tak) td_tak 60 4 (pc' := 101) (S' := [.int ((nI pre.length) + (3 : Int32)), .ref out]) rfl ?_
    refine Go.callV (B := B_tak) td_tak 64 (B' := B_cha) (C := "java/lang/String") (a := out) (argsL := [.int ((nI pre.length) + (3 : Int32))]) (rest := []) (W := 0) rfl (chaR_met K (c := p) (pre := pre ++ xs) (suf := ys ++ suf) (by rw [ho, hp]; simp) (nI_appk (k := 3) hx) (by omega) mO) (Or.inr hmO) (fun c P => P.1) (w_280 K) (w_146 K) (w_147 K) (w_148 K) (w_148 K) (w_8 K) (w_149 K) (by decide) pd_cha rfl rfl rfl rfl (Nat.le_of_eq rfl) (by decide) (by decide) (by decide) (by decide) ?_
    rintro _ _ _ ⟨rfl, rfl, rfl⟩
    show Go A B_tak D _ 104 _ [.int p] _ _ 0 0
    refine Go.rn (B := B_tak) td_tak 65 2 (pc' := 106) (S' := [.int (3 : Int32), .ref pc, .int p]) rfl ?_
    refine Go.callV (B := B_tak) td_tak 67 (B' := B_cha) (C := "java/lang/String") (a := pc) (argsL := [.int (3 : Int32)]) (rest := [.int p]) (W := 1) rfl (chaR_met K (pre := xs) (suf := ys) hp (by rw [hx]; rfl) (by omega) mP) (Or.inr hmP) (fun c P => P.1) (w_280 K) (w_146 K) (w_147 K) (w_148 K) (w_148 K) (w_8 K) (w_149 K) (by decide) pd_cha rfl rfl rfl rfl (Nat.le_of_eq rfl) (by decide) (by decide) (by decide) (by decide) ?_
    rintro _ _ _ ⟨rfl, rfl, rfl⟩
    show Go A B_tak D _ 109 _ [.int p, .int p] _ _ 0 0
    refine Go.icmp (B := B_tak) td_tak 68 (pc' := 114) rfl (by decide) rfl (fun _ => ?_) (fun (h : ¬ (p = p)) => absurd rfl h)
    exact tk_4 K ho hl mO mP
  refine Go.icmp (B := B_tak) td_tak 59 (pc' := 114) rfl (by decide) rfl (fun _ => ?_) (fun (h : ¬ ((nI ps.length) ≤ (3 : Int32))) => absurd (i32_le.mpr (by omega)) h)
  exact tk_4 K ho hl mO mP
set_option maxRecDepth 65536 in
set_option maxHeartbeats 4000000 in
theorem tk_2 {A : Ax} (K : Wd A) {D : Dx} {out pc : Addr} {os pre ps suf : List Int32} {F G : List Ent} (ho : os = pre ++ (ps ++ suf)) (hl : os.length ≤ 64) (mO : StrR A G out os) (mP : StrR A G pc ps) : Go A B_tak D (fun v F' G' => v = some (.int (nI (pre ++ ps).length)) ∧ F = F' ∧ G = G') 70 [.val (.ref out), .val (.int (nI pre.length)), .val (.ref pc), .val (.int (nI ps.length))] [] F G 0 0 := by
  obtain ⟨bO, cdO, hmO⟩ := mO.obj
  obtain ⟨bP, cdP, hmP⟩ := mP.obj
  have hpl : pre.length + ps.length ≤ os.length := by rw [ho]; simp only [List.length_append]; omega
  have hpn : (nI ps.length).toInt = ps.length := nI_toInt (by omega)
  have ek : (2 : Int32).toInt = 2 := by decide
  refine Go.rn (B := B_tak) td_tak 43 2 (pc' := 72) (S' := [.int (2 : Int32), .int (nI ps.length)]) rfl ?_
  by_cases hk : 2 < ps.length
  · obtain ⟨xs, p, ys, hp, hx⟩ := own_split ps 2 hk
    refine Go.icmp (B := B_tak) td_tak 45 (pc' := 92) rfl (by decide) rfl (fun (h : (nI ps.length) ≤ (2 : Int32)) => absurd h (fun z => absurd (i32_le.mp z) (by omega))) (fun _ => ?_)
    refine Go.rn (B := B_tak) td_tak 46 4 (pc' := 79) (S' := [.int ((nI pre.length) + (2 : Int32)), .ref out]) rfl ?_
    refine Go.callV (B := B_tak) td_tak 50 (B' := B_cha) (C := "java/lang/String") (a := out) (argsL := [.int ((nI pre.length) + (2 : Int32))]) (rest := []) (W := 0) rfl (chaR_met K (c := p) (pre := pre ++ xs) (suf := ys ++ suf) (by rw [ho, hp]; simp) (nI_appk (k := 2) hx) (by omega) mO) (Or.inr hmO) (fun c P => P.1) (w_280 K) (w_146 K) (w_147 K) (w_148 K) (w_148 K) (w_8 K) (w_149 K) (by decide) pd_cha rfl rfl rfl rfl (Nat.le_of_eq rfl) (by decide) (by decide) (by decide) (by decide) ?_
    rintro _ _ _ ⟨rfl, rfl, rfl⟩
    show Go A B_tak D _ 82 _ [.int p] _ _ 0 0
    refine Go.rn (B := B_tak) td_tak 51 2 (pc' := 84) (S' := [.int (2 : Int32), .ref pc, .int p]) rfl ?_
    refine Go.callV (B := B_tak) td_tak 53 (B' := B_cha) (C := "java/lang/String") (a := pc) (argsL := [.int (2 : Int32)]) (rest := [.int p]) (W := 1) rfl (chaR_met K (pre := xs) (suf := ys) hp (by rw [hx]; rfl) (by omega) mP) (Or.inr hmP) (fun c P => P.1) (w_280 K) (w_146 K) (w_147 K) (w_148 K) (w_148 K) (w_8 K) (w_149 K) (by decide) pd_cha rfl rfl rfl rfl (Nat.le_of_eq rfl) (by decide) (by decide) (by decide) (by decide) ?_
    rintro _ _ _ ⟨rfl, rfl, rfl⟩
    show Go A B_tak D _ 87 _ [.int p, .int p] _ _ 0 0
    refine Go.icmp (B := B_tak) td_tak 54 (pc' := 92) rfl (by decide) rfl (fun _ => ?_) (fun (h : ¬ (p = p)) => absurd rfl h)
    exact tk_3 K ho hl mO mP
  refine Go.icmp (B := B_tak) td_tak 45 (pc' := 92) rfl (by decide) rfl (fun _ => ?_) (fun (h : ¬ ((nI ps.length) ≤ (2 : Int32))) => absurd (i32_le.mpr (by omega)) h)
  exact tk_3 K ho hl mO mP
set_option maxRecDepth 65536 in
set_option maxHeartbeats 4000000 in
theorem tk_1 {A : Ax} (K : Wd A) {D : Dx} {out pc : Addr} {os pre ps suf : List Int32} {F G : List Ent} (ho : os = pre ++ (ps ++ suf)) (hl : os.length ≤ 64) (mO : StrR A G out os) (mP : StrR A G pc ps) : Go A B_tak D (fun v F' G' => v = some (.int (nI (pre ++ ps).length)) ∧ F = F' ∧ G = G') 48 [.val (.ref out), .val (.int (nI pre.length)), .val (.ref pc), .val (.int (nI ps.length))] [] F G 0 0 := by
  obtain ⟨bO, cdO, hmO⟩ := mO.obj
  obtain ⟨bP, cdP, hmP⟩ := mP.obj
  have hpl : pre.length + ps.length ≤ os.length := by rw [ho]; simp only [List.length_append]; omega
  have hpn : (nI ps.length).toInt = ps.length := nI_toInt (by omega)
  have ek : (1 : Int32).toInt = 1 := by decide
  refine Go.rn (B := B_tak) td_tak 29 2 (pc' := 50) (S' := [.int (1 : Int32), .int (nI ps.length)]) rfl ?_
  by_cases hk : 1 < ps.length
  · obtain ⟨xs, p, ys, hp, hx⟩ := own_split ps 1 hk
    refine Go.icmp (B := B_tak) td_tak 31 (pc' := 70) rfl (by decide) rfl (fun (h : (nI ps.length) ≤ (1 : Int32)) => absurd h (fun z => absurd (i32_le.mp z) (by omega))) (fun _ => ?_)
    refine Go.rn (B := B_tak) td_tak 32 4 (pc' := 57) (S' := [.int ((nI pre.length) + (1 : Int32)), .ref out]) rfl ?_
    refine Go.callV (B := B_tak) td_tak 36 (B' := B_cha) (C := "java/lang/String") (a := out) (argsL := [.int ((nI pre.length) + (1 : Int32))]) (rest := []) (W := 0) rfl (chaR_met K (c := p) (pre := pre ++ xs) (suf := ys ++ suf) (by rw [ho, hp]; simp) (nI_appk (k := 1) hx) (by omega) mO) (Or.inr hmO) (fun c P => P.1) (w_280 K) (w_146 K) (w_147 K) (w_148 K) (w_148 K) (w_8 K) (w_149 K) (by decide) pd_cha rfl rfl rfl rfl (Nat.le_of_eq rfl) (by decide) (by decide) (by decide) (by decide) ?_
    rintro _ _ _ ⟨rfl, rfl, rfl⟩
    show Go A B_tak D _ 60 _ [.int p] _ _ 0 0
    refine Go.rn (B := B_tak) td_tak 37 2 (pc' := 62) (S' := [.int (1 : Int32), .ref pc, .int p]) rfl ?_
    refine Go.callV (B := B_tak) td_tak 39 (B' := B_cha) (C := "java/lang/String") (a := pc) (argsL := [.int (1 : Int32)]) (rest := [.int p]) (W := 1) rfl (chaR_met K (pre := xs) (suf := ys) hp (by rw [hx]; rfl) (by omega) mP) (Or.inr hmP) (fun c P => P.1) (w_280 K) (w_146 K) (w_147 K) (w_148 K) (w_148 K) (w_8 K) (w_149 K) (by decide) pd_cha rfl rfl rfl rfl (Nat.le_of_eq rfl) (by decide) (by decide) (by decide) (by decide) ?_
    rintro _ _ _ ⟨rfl, rfl, rfl⟩
    show Go A B_tak D _ 65 _ [.int p, .int p] _ _ 0 0
    refine Go.icmp (B := B_tak) td_tak 40 (pc' := 70) rfl (by decide) rfl (fun _ => ?_) (fun (h : ¬ (p = p)) => absurd rfl h)
    exact tk_2 K ho hl mO mP
  refine Go.icmp (B := B_tak) td_tak 31 (pc' := 70) rfl (by decide) rfl (fun _ => ?_) (fun (h : ¬ ((nI ps.length) ≤ (1 : Int32))) => absurd (i32_le.mpr (by omega)) h)
  exact tk_2 K ho hl mO mP
set_option maxRecDepth 65536 in
set_option maxHeartbeats 4000000 in
theorem tk_0 {A : Ax} (K : Wd A) {D : Dx} {out pc : Addr} {os pre ps suf : List Int32} {F G : List Ent} (ho : os = pre ++ (ps ++ suf)) (hl : os.length ≤ 64) (mO : StrR A G out os) (mP : StrR A G pc ps) : Go A B_tak D (fun v F' G' => v = some (.int (nI (pre ++ ps).length)) ∧ F = F' ∧ G = G') 29 [.val (.ref out), .val (.int (nI pre.length)), .val (.ref pc), .val (.int (nI ps.length))] [] F G 0 0 := by
  obtain ⟨bO, cdO, hmO⟩ := mO.obj
  obtain ⟨bP, cdP, hmP⟩ := mP.obj
  have hpl : pre.length + ps.length ≤ os.length := by rw [ho]; simp only [List.length_append]; omega
  have hpn : (nI ps.length).toInt = ps.length := nI_toInt (by omega)
  have ek : (0 : Int32).toInt = 0 := by decide
  refine Go.rn (B := B_tak) td_tak 18 1 (pc' := 30) (S' := [.int (nI ps.length)]) rfl ?_
  by_cases hk : 0 < ps.length
  · obtain ⟨xs, p, ys, hp, hx⟩ := own_split ps 0 hk
    refine Go.if0 (B := B_tak) td_tak 19 (pc' := 48) rfl (by decide) rfl (fun (h : (nI ps.length) ≤ 0) => absurd h (fun z => absurd (i32_le.mp z) (by omega))) (fun _ => ?_)
    refine Go.rn (B := B_tak) td_tak 20 2 (pc' := 35) (S' := [.int (nI pre.length), .ref out]) rfl ?_
    refine Go.callV (B := B_tak) td_tak 22 (B' := B_cha) (C := "java/lang/String") (a := out) (argsL := [.int (nI pre.length)]) (rest := []) (W := 0) rfl (chaR_met K (c := p) (pre := pre ++ xs) (suf := ys ++ suf) (by rw [ho, hp]; simp) (by rw [List.length_append, hx]; rfl) (by omega) mO) (Or.inr hmO) (fun c P => P.1) (w_280 K) (w_146 K) (w_147 K) (w_148 K) (w_148 K) (w_8 K) (w_149 K) (by decide) pd_cha rfl rfl rfl rfl (Nat.le_of_eq rfl) (by decide) (by decide) (by decide) (by decide) ?_
    rintro _ _ _ ⟨rfl, rfl, rfl⟩
    show Go A B_tak D _ 38 _ [.int p] _ _ 0 0
    refine Go.rn (B := B_tak) td_tak 23 2 (pc' := 40) (S' := [.int (0 : Int32), .ref pc, .int p]) rfl ?_
    refine Go.callV (B := B_tak) td_tak 25 (B' := B_cha) (C := "java/lang/String") (a := pc) (argsL := [.int (0 : Int32)]) (rest := [.int p]) (W := 1) rfl (chaR_met K (pre := xs) (suf := ys) hp (by rw [hx]; rfl) (by omega) mP) (Or.inr hmP) (fun c P => P.1) (w_280 K) (w_146 K) (w_147 K) (w_148 K) (w_148 K) (w_8 K) (w_149 K) (by decide) pd_cha rfl rfl rfl rfl (Nat.le_of_eq rfl) (by decide) (by decide) (by decide) (by decide) ?_
    rintro _ _ _ ⟨rfl, rfl, rfl⟩
    show Go A B_tak D _ 43 _ [.int p, .int p] _ _ 0 0
    refine Go.icmp (B := B_tak) td_tak 26 (pc' := 48) rfl (by decide) rfl (fun _ => ?_) (fun (h : ¬ (p = p)) => absurd rfl h)
    exact tk_1 K ho hl mO mP
  refine Go.if0 (B := B_tak) td_tak 19 (pc' := 48) rfl (by decide) rfl (fun _ => ?_) (fun (h : ¬ ((nI ps.length) ≤ 0)) => absurd (i32_le.mpr (by omega)) h)
  exact tk_1 K ho hl mO mP
set_option maxRecDepth 65536 in
set_option maxHeartbeats 4000000 in
theorem tak_met {A : Ax} (K : Wd A) {out pc : Addr} {os pre ps suf : List Int32} {F G : List Ent} (ho : os = pre ++ (ps ++ suf)) (hps : ps.length ≤ 6) (hl : os.length ≤ 64) (mO : StrR A G out os) (mP : StrR A G pc ps) : Met A B_tak #[.ref out, .int (nI pre.length), .ref pc] F G (fun v F' G' => v = some (.int (nI (pre ++ ps).length)) ∧ F = F' ∧ G = G') := by
  refine MetW.of_go pn_tak K.ew (L := [.val (.ref out), .val (.int (nI pre.length)), .val (.ref pc), .unset]) (fun m => rfl) ?_
  intro D _
  obtain ⟨bO, cdO, hmO⟩ := mO.obj
  obtain ⟨bP, cdP, hmP⟩ := mP.obj
  have hpl : pre.length + ps.length ≤ os.length := by rw [ho]; simp only [List.length_append]; omega
  have hpn : (nI ps.length).toInt = ps.length := nI_toInt (by omega)
  have z0 : (0 : Int32).toInt = 0 := rfl
  have e6 : (6 : Int32).toInt = 6 := by decide
  refine Go.rn (B := B_tak) td_tak 0 1 (pc' := 1) (S' := [.int (nI pre.length)]) rfl ?_
  refine Go.if0 (B := B_tak) td_tak 1 (pc' := 6) rfl (by decide) rfl (fun _ => ?_) (fun (h : ¬ ((nI pre.length) ≥ 0)) => absurd (i32_le.mpr (by rw [nI_toInt (by omega)]; omega)) h)
  refine Go.rn (B := B_tak) td_tak 4 1 (pc' := 7) (S' := [.ref pc]) rfl ?_
  refine Go.callV (B := B_tak) td_tak 5 (B' := B_len) (C := "java/lang/String") (a := pc) (argsL := []) (rest := []) (W := 0) rfl (lenR_met K (by omega) mP) (Or.inr hmP) (fun c P => P.1) (w_279 K) (w_68 K) (w_69 K) (w_70 K) (w_70 K) (w_8 K) (w_71 K) (by decide) pd_len rfl rfl rfl rfl (Nat.le_of_eq rfl) (by decide) (by decide) (by decide) (by decide) ?_
  rintro _ _ _ ⟨rfl, rfl, rfl⟩
  show Go A B_tak D _ 10 _ [.int (nI ps.length)] _ _ 0 0
  refine Go.run (B := B_tak) td_tak 6 3 (pc' := 14) (L' := [.val (.ref out), .val (.int (nI pre.length)), .val (.ref pc), .val (.int (nI ps.length))]) (S' := [.int (6 : Int32), .int (nI ps.length)]) rfl ?_
  refine Go.icmp (B := B_tak) td_tak 9 (pc' := 27) rfl (by decide) rfl (fun (h : (nI ps.length) > (6 : Int32)) => absurd h (fun z => absurd (i32_lt.mp z) (by omega))) (fun _ => ?_)
  refine Go.rn (B := B_tak) td_tak 10 2 (pc' := 19) (S' := [.ref out, .int (nI pre.length)]) rfl ?_
  refine Go.callV (B := B_tak) td_tak 12 (B' := B_len) (C := "java/lang/String") (a := out) (argsL := []) (rest := [.int (nI pre.length)]) (W := 1) rfl (lenR_met K (by omega) mO) (Or.inr hmO) (fun c P => P.1) (w_279 K) (w_68 K) (w_69 K) (w_70 K) (w_70 K) (w_8 K) (w_71 K) (by decide) pd_len rfl rfl rfl rfl (Nat.le_of_eq rfl) (by decide) (by decide) (by decide) (by decide) ?_
  rintro _ _ _ ⟨rfl, rfl, rfl⟩
  show Go A B_tak D _ 22 _ [.int (nI os.length), .int (nI pre.length)] _ _ 0 0
  refine Go.rn (B := B_tak) td_tak 13 2 (pc' := 24) (S' := [.int ((nI os.length) - (nI ps.length)), .int (nI pre.length)]) rfl ?_
  rw [nI_subn (by omega) (by omega)]
  refine Go.icmp (B := B_tak) td_tak 15 (pc' := 29) rfl (by decide) rfl (fun _ => ?_) (fun (h : ¬ ((nI pre.length) ≤ (nI (os.length - ps.length)))) => absurd ((nI_le (by omega) (by omega)).mpr (by omega)) h)
  exact tk_0 K ho hl mO mP
--CUT
def sel (f : Int32) (l : List Int32) : List Int32 := if f = 0 then [] else l
theorem sel0 (l : List Int32) : sel 0 l = [] := if_pos rfl
theorem sel1 (l : List Int32) : sel 1 l = l := if_neg (by decide)
def pcs (k o h c : Int32) : List Int32 := sel k ([60, 47, 98, 62] : List Int32) ++ (sel o ([60, 98, 62] : List Int32) ++ sel h (escL c))
def fl (n j : Int32) : Int32 := if n ≤ j then 0 else 1
theorem fl_0_0 : fl (nI 0) 0 = 0 := by decide
theorem fl_0_1 : fl (nI 0) 1 = 0 := by decide
theorem fl_0_2 : fl (nI 0) 2 = 0 := by decide
theorem fl_1_0 : fl (nI 1) 0 = 1 := by decide
theorem fl_1_1 : fl (nI 1) 1 = 0 := by decide
theorem fl_1_2 : fl (nI 1) 2 = 0 := by decide
theorem fl_2_0 : fl (nI 2) 0 = 1 := by decide
theorem fl_2_1 : fl (nI 2) 1 = 1 := by decide
theorem fl_2_2 : fl (nI 2) 2 = 0 := by decide
theorem fl_3_0 : fl (nI 3) 0 = 1 := by decide
theorem fl_3_1 : fl (nI 3) 1 = 1 := by decide
theorem fl_3_2 : fl (nI 3) 2 = 1 := by decide
def tb_stp : List In1 := [(0, .iload_n 1, 1), (1, .istore 6, 2), (3, .iload_n 2, 1), (4, .ifCond .eq 13, 3), (7, .aload_n 0, 1), (8, .iload 6, 2), (10, .ldc 61, 2), (12, .invokestatic 63, 3), (15, .istore 6, 2), (17, .iload_n 3, 1), (18, .ifCond .eq 13, 3), (21, .aload_n 0, 1), (22, .iload 6, 2), (24, .ldc 67, 2), (26, .invokestatic 63, 3), (29, .istore 6, 2), (31, .iload 4, 2), (33, .ifCond .eq 16, 3), (36, .aload_n 0, 1), (37, .iload 6, 2), (39, .iload 5, 2), (41, .invokestatic 69, 3), (44, .invokestatic 63, 3), (47, .istore 6, 2), (49, .iload 6, 2), (51, .ireturn, 1)]
set_option maxRecDepth 65536 in
theorem td_stp : Dec method_5_code tb_stp := by unfold Dec; decide +kernel
theorem pd_stp : parseMethodDescriptor "(Ljava/lang/String;IZZZC)I" = some ⟨[(.object "java/lang/String"), .int, .boolean, .boolean, .boolean, .char], (some .int)⟩ := by decide +kernel
theorem pn_stp : plainFor (⟨"com/example/attentive_search/attentivesearch/HighlightHtmlPinLaw", "step", "(Ljava/lang/String;IZZZC)I"⟩ : MethodName) = true := by decide +kernel
abbrev B_stp : Bx := ((⟨"com/example/attentive_search/attentivesearch/HighlightHtmlPinLaw", "step", "(Ljava/lang/String;IZZZC)I"⟩ : MethodName), method_5_code, 7, (Option.some Jvm.ClassFile.FieldType.int), ({ frames := 6, cells := 6, slots := 64, locals := 82 } : Room))
set_option maxRecDepth 65536 in
set_option maxHeartbeats 4000000 in
theorem st_31 {A : Ax} (K : Wd A) {D : Dx} {out : Addr} {os pre suf tot : List Int32} {p1 k o h c : Int32} {F G : List Ent} (hc : 0 ≤ c.toInt ∧ c.toInt < 65536) (ho : os = pre ++ (sel h (escL c) ++ suf)) (htot : pre ++ sel h (escL c) = tot) (hl : os.length ≤ 64) (mO : StrR A G out os) : Go A B_stp D (fun v F' G' => v = some (.int (nI tot.length)) ∧ F = F' ∧ G = G') 31 [.val (.ref out), .val (.int p1), .val (.int k), .val (.int o), .val (.int h), .val (.int c), .val (.int (nI pre.length))] [] F G 4 36 := by
  refine Go.rn (B := B_stp) td_stp 16 1 (pc' := 33) (S' := [.int h]) rfl ?_
  by_cases hh : h = 0
  · refine Go.if0 (B := B_stp) td_stp 17 (pc' := 49) rfl (by decide) rfl (fun _ => ?_) (fun (h : ¬ (h = 0)) => absurd hh h)
    refine Go.rn (B := B_stp) td_stp 24 1 (pc' := 51) (S' := [.int (nI pre.length)]) rfl ?_
    exact Go.retI (B := B_stp) td_stp 25 rfl rfl ⟨by rw [← htot, hh, sel0, List.append_nil], rfl, rfl⟩ (by decide) (by decide)
  have he : sel h (escL c) = escL c := if_neg hh
  rw [he] at ho htot
  refine Go.if0 (B := B_stp) td_stp 17 (pc' := 49) rfl (by decide) rfl (fun (h : h = 0) => absurd h hh) (fun _ => ?_)
  refine Go.rn (B := B_stp) td_stp 18 3 (pc' := 41) (S' := [.int c, .int (nI pre.length), .ref out]) rfl ?_
  refine Go.callS (B := B_stp) td_stp 21 (B' := B_esc) (argsL := [.int c]) (rest := [.int (nI pre.length), .ref out]) (W := 2) rfl (esc_met K hc) (w_272 K) (w_273 K) (w_3 K) (w_274 K) (by decide) pd_esc rfl rfl rfl rfl (Nat.le_of_eq rfl) (by decide) (by decide) (by decide) (by decide) ?_
  rintro _ _ _ ⟨s1, q1, q2, rfl, rfl, rfl, hS⟩
  show Go A B_stp D _ 44 _ [.ref s1, .int (nI pre.length), .ref out] _ (q1 :: q2 :: G) 6 64
  refine Go.callS (B := B_stp) td_stp 22 (B' := B_tak) (argsL := [.ref out, .int (nI pre.length), .ref s1]) (rest := []) (W := 0) rfl (tak_met K (pre := pre) (ps := escL c) (suf := suf) ho (escL_len c).2 hl mO.cons.cons hS) (w_276 K) (w_277 K) (w_3 K) (w_278 K) (by decide) pd_tak rfl rfl rfl rfl (Nat.le_of_eq rfl) (by decide) (by decide) (by decide) (by decide) ?_
  rintro _ _ _ ⟨rfl, rfl, rfl⟩
  show Go A B_stp D _ 47 _ [.int (nI (pre ++ escL c).length)] _ _ 6 64
  refine Go.gsub (G' := G) (fun x h => .tail _ (.tail _ h)) ?_
  refine Go.run (B := B_stp) td_stp 23 2 (pc' := 51) (L' := [.val (.ref out), .val (.int p1), .val (.int k), .val (.int o), .val (.int h), .val (.int c), .val (.int (nI (pre ++ escL c).length))]) (S' := [.int (nI (pre ++ escL c).length)]) rfl ?_
  exact Go.retI (B := B_stp) td_stp 25 rfl rfl ⟨by rw [htot], rfl, rfl⟩ (by decide) (by decide)
set_option maxRecDepth 65536 in
set_option maxHeartbeats 4000000 in
theorem st_17 {A : Ax} (K : Wd A) {D : Dx} {out : Addr} {os pre suf tot : List Int32} {p1 k o h c : Int32} {F G : List Ent} (hc : 0 ≤ c.toInt ∧ c.toInt < 65536) (ho : os = pre ++ ((sel o ([60, 98, 62] : List Int32) ++ sel h (escL c)) ++ suf)) (htot : pre ++ (sel o ([60, 98, 62] : List Int32) ++ sel h (escL c)) = tot) (hl : os.length ≤ 64) (mO : StrR A G out os) : Go A B_stp D (fun v F' G' => v = some (.int (nI tot.length)) ∧ F = F' ∧ G = G') 17 [.val (.ref out), .val (.int p1), .val (.int k), .val (.int o), .val (.int h), .val (.int c), .val (.int (nI pre.length))] [] F G 2 20 := by
  refine Go.rn (B := B_stp) td_stp 9 1 (pc' := 18) (S' := [.int o]) rfl ?_
  by_cases hh : o = 0
  · have he : sel o ([60, 98, 62] : List Int32) = [] := if_pos hh
    rw [he, List.nil_append] at ho htot
    refine Go.if0 (B := B_stp) td_stp 10 (pc' := 31) rfl (by decide) rfl (fun _ => ?_) (fun (h : ¬ (o = 0)) => absurd hh h)
    refine Go.mono (cells' := 4) (slots' := 36) (by decide) (by decide) ?_
    exact st_31 K hc ho htot hl mO
  have he : sel o ([60, 98, 62] : List Int32) = ([60, 98, 62] : List Int32) := if_neg hh
  rw [he] at ho htot
  refine Go.if0 (B := B_stp) td_stp 10 (pc' := 31) rfl (by decide) rfl (fun (h : o = 0) => absurd h hh) (fun _ => ?_)
  refine Go.rn (B := B_stp) td_stp 11 2 (pc' := 24) (S' := [.int (nI pre.length), .ref out]) rfl ?_
  refine Go.ldcS (B := B_stp) td_stp 13 (n := 12) (vs := (latB [60, 98, 62])) rfl (w_376 K) (strAtoms K) (by rw [show A.EL = consts_1 from K.el]; decide) K.wm (by decide +kernel) (by decide) (by decide) (by decide) (by decide) (by decide) ?_
  intro a1 b1
  show Go A B_stp D _ 26 _ [.ref a1, .int (nI pre.length), .ref out] _ _ 4 36
  refine Go.callS (B := B_stp) td_stp 14 (B' := B_tak) (argsL := [.ref out, .int (nI pre.length), .ref a1]) (rest := []) (W := 0) rfl (tak_met K (pre := pre) (ps := ([60, 98, 62] : List Int32)) (suf := sel h (escL c) ++ suf) (by rw [ho]; simp only [List.append_assoc]) (by decide) hl mO.cons.cons ⟨b1, Or.inl ⟨by unfold Lat; decide, mi 0 rfl, mi 1 rfl⟩⟩) (w_276 K) (w_277 K) (w_3 K) (w_278 K) (by decide) pd_tak rfl rfl rfl rfl (Nat.le_of_eq rfl) (by decide) (by decide) (by decide) (by decide) ?_
  rintro _ _ _ ⟨rfl, rfl, rfl⟩
  show Go A B_stp D _ 29 _ [.int (nI (pre ++ ([60, 98, 62] : List Int32)).length)] _ _ 4 36
  refine Go.gsub (G' := G) (fun x h => .tail _ (.tail _ h)) ?_
  refine Go.run (B := B_stp) td_stp 15 1 (pc' := 31) (L' := [.val (.ref out), .val (.int p1), .val (.int k), .val (.int o), .val (.int h), .val (.int c), .val (.int (nI (pre ++ ([60, 98, 62] : List Int32)).length))]) (S' := []) rfl ?_
  exact st_31 K (pre := pre ++ ([60, 98, 62] : List Int32)) (suf := suf) hc (by rw [ho]; simp only [List.append_assoc]) (by rw [← htot]; simp only [List.append_assoc]) hl mO
set_option maxRecDepth 65536 in
set_option maxHeartbeats 4000000 in
theorem st_3 {A : Ax} (K : Wd A) {D : Dx} {out : Addr} {os pre suf tot : List Int32} {p1 k o h c : Int32} {F G : List Ent} (hc : 0 ≤ c.toInt ∧ c.toInt < 65536) (ho : os = pre ++ ((sel k ([60, 47, 98, 62] : List Int32) ++ (sel o ([60, 98, 62] : List Int32) ++ sel h (escL c))) ++ suf)) (htot : pre ++ (sel k ([60, 47, 98, 62] : List Int32) ++ (sel o ([60, 98, 62] : List Int32) ++ sel h (escL c))) = tot) (hl : os.length ≤ 64) (mO : StrR A G out os) : Go A B_stp D (fun v F' G' => v = some (.int (nI tot.length)) ∧ F = F' ∧ G = G') 3 [.val (.ref out), .val (.int p1), .val (.int k), .val (.int o), .val (.int h), .val (.int c), .val (.int (nI pre.length))] [] F G 0 0 := by
  refine Go.rn (B := B_stp) td_stp 2 1 (pc' := 4) (S' := [.int k]) rfl ?_
  by_cases hh : k = 0
  · have he : sel k ([60, 47, 98, 62] : List Int32) = [] := if_pos hh
    rw [he, List.nil_append] at ho htot
    refine Go.if0 (B := B_stp) td_stp 3 (pc' := 17) rfl (by decide) rfl (fun _ => ?_) (fun (h : ¬ (k = 0)) => absurd hh h)
    refine Go.mono (cells' := 2) (slots' := 20) (by decide) (by decide) ?_
    exact st_17 K hc ho htot hl mO
  have he : sel k ([60, 47, 98, 62] : List Int32) = ([60, 47, 98, 62] : List Int32) := if_neg hh
  rw [he] at ho htot
  refine Go.if0 (B := B_stp) td_stp 3 (pc' := 17) rfl (by decide) rfl (fun (h : k = 0) => absurd h hh) (fun _ => ?_)
  refine Go.rn (B := B_stp) td_stp 4 2 (pc' := 10) (S' := [.int (nI pre.length), .ref out]) rfl ?_
  refine Go.ldcS (B := B_stp) td_stp 6 (n := 16) (vs := (latB [60, 47, 98, 62])) rfl (w_377 K) (strAtoms K) (by rw [show A.EL = consts_1 from K.el]; decide) K.wm (by decide +kernel) (by decide) (by decide) (by decide) (by decide) (by decide) ?_
  intro a1 b1
  show Go A B_stp D _ 12 _ [.ref a1, .int (nI pre.length), .ref out] _ _ 2 20
  refine Go.callS (B := B_stp) td_stp 7 (B' := B_tak) (argsL := [.ref out, .int (nI pre.length), .ref a1]) (rest := []) (W := 0) rfl (tak_met K (pre := pre) (ps := ([60, 47, 98, 62] : List Int32)) (suf := (sel o ([60, 98, 62] : List Int32) ++ sel h (escL c)) ++ suf) (by rw [ho]; simp only [List.append_assoc]) (by decide) hl mO.cons.cons ⟨b1, Or.inl ⟨by unfold Lat; decide, mi 0 rfl, mi 1 rfl⟩⟩) (w_276 K) (w_277 K) (w_3 K) (w_278 K) (by decide) pd_tak rfl rfl rfl rfl (Nat.le_of_eq rfl) (by decide) (by decide) (by decide) (by decide) ?_
  rintro _ _ _ ⟨rfl, rfl, rfl⟩
  show Go A B_stp D _ 15 _ [.int (nI (pre ++ ([60, 47, 98, 62] : List Int32)).length)] _ _ 2 20
  refine Go.gsub (G' := G) (fun x h => .tail _ (.tail _ h)) ?_
  refine Go.run (B := B_stp) td_stp 8 1 (pc' := 17) (L' := [.val (.ref out), .val (.int p1), .val (.int k), .val (.int o), .val (.int h), .val (.int c), .val (.int (nI (pre ++ ([60, 47, 98, 62] : List Int32)).length))]) (S' := []) rfl ?_
  exact st_17 K (pre := pre ++ ([60, 47, 98, 62] : List Int32)) (suf := suf) hc (by rw [ho]; simp only [List.append_assoc]) (by rw [← htot]; simp only [List.append_assoc]) hl mO
set_option maxRecDepth 65536 in
set_option maxHeartbeats 4000000 in
theorem stp_met {A : Ax} (K : Wd A) {out : Addr} {os pre suf : List Int32} {k o h c : Int32} {F G : List Ent} (hc : 0 ≤ c.toInt ∧ c.toInt < 65536) (ho : os = pre ++ (pcs k o h c ++ suf)) (hl : os.length ≤ 64) (mO : StrR A G out os) : Met A B_stp #[.ref out, .int (nI pre.length), .int k, .int o, .int h, .int c] F G (fun v F' G' => v = some (.int (nI (pre ++ pcs k o h c).length)) ∧ F = F' ∧ G = G') := by
  refine MetW.of_go pn_stp K.ew (L := [.val (.ref out), .val (.int (nI pre.length)), .val (.int k), .val (.int o), .val (.int h), .val (.int c), .unset]) (fun m => rfl) ?_
  intro D _
  refine Go.run (B := B_stp) td_stp 0 2 (pc' := 3) (L' := [.val (.ref out), .val (.int (nI pre.length)), .val (.int k), .val (.int o), .val (.int h), .val (.int c), .val (.int (nI pre.length))]) (S' := []) rfl ?_
  exact st_3 K hc ho rfl hl mO
--CUT
def tb_law : List In1 := [(0, .lload_n 0, 1), (1, .ldc2_w 7, 3), (4, .land, 1), (5, .l2i, 1), (6, .invokestatic 9, 3), (9, .istore 7, 2), (11, .lload_n 0, 1), (12, .bipush 19, 2), (14, .lushr, 1), (15, .ldc2_w 7, 3), (18, .land, 1), (19, .l2i, 1), (20, .invokestatic 9, 3), (23, .istore 8, 2), (25, .lload_n 0, 1), (26, .bipush 38, 2), (28, .lushr, 1), (29, .ldc2_w 7, 3), (32, .land, 1), (33, .l2i, 1), (34, .invokestatic 9, 3), (37, .istore 9, 2), (39, .iload_n 2, 1), (40, .iconst 3, 1), (41, .iand, 1), (42, .istore 10, 2), (44, .iload 10, 2), (46, .ifCond .ne 7, 3), (49, .iconst 0, 1), (50, .goto 8, 3), (53, .iload_n 2, 1), (54, .iconst 2, 1), (55, .iushr, 1), (56, .iconst 3, 1), (57, .irem, 1), (58, .istore 11, 2), (60, .iload 10, 2), (62, .ifCond .ne 9, 3), (65, .iconst 0, 1), (66, .newarray .char, 2), (68, .goto 60, 3), (71, .iload 10, 2), (73, .iconst 1, 1), (74, .if_icmp .ne 14, 3), (77, .iconst 1, 1), (78, .newarray .char, 2), (80, .dup, 1), (81, .iconst 0, 1), (82, .iload 7, 2), (84, .castore, 1), (85, .goto 43, 3), (88, .iload 10, 2), (90, .iconst 2, 1), (91, .if_icmp .ne 19, 3), (94, .iconst 2, 1), (95, .newarray .char, 2), (97, .dup, 1), (98, .iconst 0, 1), (99, .iload 7, 2), (101, .castore, 1), (102, .dup, 1), (103, .iconst 1, 1), (104, .iload 8, 2), (106, .castore, 1), (107, .goto 21, 3), (110, .iconst 3, 1), (111, .newarray .char, 2), (113, .dup, 1), (114, .iconst 0, 1), (115, .iload 7, 2), (117, .castore, 1), (118, .dup, 1), (119, .iconst 1, 1), (120, .iload 8, 2), (122, .castore, 1), (123, .dup, 1), (124, .iconst 2, 1), (125, .iload 9, 2), (127, .castore, 1), (128, .astore 12, 2), (130, .new 15, 3), (133, .dup, 1), (134, .aload 12, 2), (136, .invokespecial 17, 3), (139, .astore 13, 2), (141, .iconst 4, 1), (142, .newarray .boolean, 2), (144, .astore 14, 2), (146, .iconst 4, 1), (147, .newarray .boolean, 2), (149, .astore 15, 2), (151, .new 20, 3), (154, .dup, 1), (155, .invokespecial 22, 3), (158, .astore 16, 2), (160, .iload 11, 2), (162, .iconst 1, 1), (163, .if_icmp .lt 135, 3), (166, .iload_n 3, 1), (167, .ldc 23, 2), (169, .iand, 1), (170, .iload 10, 2), (172, .irem, 1), (173, .istore 17, 2), (175, .iload 17, 2), (177, .iconst 1, 1), (178, .iadd, 1), (179, .iload 4, 2), (181, .ldc 23, 2), (183, .iand, 1), (184, .iload 10, 2), (186, .iload 17, 2), (188, .isub, 1), (189, .irem, 1), (190, .iadd, 1), (191, .istore 18, 2), (193, .aload 16, 2), (195, .new 24, 3), (198, .dup, 1), (199, .iload 17, 2), (201, .iload 18, 2), (203, .invokespecial 26, 3), (206, .invokevirtual 29, 3), (209, .pop, 1), (210, .aload 14, 2), (212, .iload 17, 2), (214, .iconst 1, 1), (215, .bastore, 1), (216, .aload 15, 2), (218, .iload 18, 2), (220, .iconst 1, 1), (221, .bastore, 1), (222, .iload 11, 2), (224, .iconst 2, 1), (225, .if_icmp .ne 73, 3), (228, .iload 18, 2), (230, .iload 10, 2), (232, .if_icmp .ge 66, 3), (235, .iload 18, 2), (237, .iload 5, 2), (239, .ldc 23, 2), (241, .iand, 1), (242, .iload 10, 2), (244, .iload 18, 2), (246, .isub, 1), (247, .irem, 1), (248, .iadd, 1), (249, .istore 19, 2), (251, .iload 19, 2), (253, .iconst 1, 1), (254, .iadd, 1), (255, .iload 6, 2), (257, .ldc 23, 2), (259, .iand, 1), (260, .iload 10, 2), (262, .iload 19, 2), (264, .isub, 1), (265, .irem, 1), (266, .iadd, 1), (267, .istore 20, 2), (269, .aload 16, 2), (271, .new 24, 3), (274, .dup, 1), (275, .iload 19, 2), (277, .iload 20, 2), (279, .invokespecial 26, 3), (282, .invokevirtual 29, 3), (285, .pop, 1), (286, .aload 14, 2), (288, .iload 19, 2), (290, .iconst 1, 1), (291, .bastore, 1), (292, .aload 15, 2), (294, .iload 20, 2), (296, .iconst 1, 1), (297, .bastore, 1), (298, .aload 13, 2), (300, .aload 16, 2), (302, .invokestatic 33, 3), (305, .astore 17, 2), (307, .iconst 0, 1), (308, .istore 18, 2), (310, .aload 17, 2), (312, .iload 18, 2), (314, .aload 15, 2), (316, .iconst 0, 1), (317, .baload, 1), (318, .aload 14, 2), (320, .iconst 0, 1), (321, .baload, 1), (322, .iload 10, 2), (324, .ifCond .le 7, 3), (327, .iconst 1, 1), (328, .goto 4, 3), (331, .iconst 0, 1), (332, .iload 7, 2), (334, .invokestatic 39, 3), (337, .istore 18, 2), (339, .aload 17, 2), (341, .iload 18, 2), (343, .aload 15, 2), (345, .iconst 1, 1), (346, .baload, 1), (347, .aload 14, 2), (349, .iconst 1, 1), (350, .baload, 1), (351, .iload 10, 2), (353, .iconst 1, 1), (354, .if_icmp .le 7, 3), (357, .iconst 1, 1), (358, .goto 4, 3), (361, .iconst 0, 1), (362, .iload 8, 2), (364, .invokestatic 39, 3), (367, .istore 18, 2), (369, .aload 17, 2), (371, .iload 18, 2), (373, .aload 15, 2), (375, .iconst 2, 1), (376, .baload, 1), (377, .aload 14, 2), (379, .iconst 2, 1), (380, .baload, 1), (381, .iload 10, 2), (383, .iconst 2, 1), (384, .if_icmp .le 7, 3), (387, .iconst 1, 1), (388, .goto 4, 3), (391, .iconst 0, 1), (392, .iload 9, 2), (394, .invokestatic 39, 3), (397, .istore 18, 2), (399, .aload 17, 2), (401, .iload 18, 2), (403, .aload 15, 2), (405, .iconst 3, 1), (406, .baload, 1), (407, .aload 14, 2), (409, .iconst 3, 1), (410, .baload, 1), (411, .iconst 0, 1), (412, .iload 9, 2), (414, .invokestatic 39, 3), (417, .istore 18, 2), (419, .iload 18, 2), (421, .ifCond .lt 17, 3), (424, .iload 18, 2), (426, .aload 17, 2), (428, .invokevirtual 43, 3), (431, .if_icmp .ne 7, 3), (434, .iconst 1, 1), (435, .goto 4, 3), (438, .iconst 0, 1), (439, .ireturn, 1)]
set_option maxRecDepth 65536 in
theorem td_law : Dec code tb_law := by unfold Dec; decide +kernel
theorem pn_law : plainFor (⟨"com/example/attentive_search/attentivesearch/HighlightHtmlPinLaw", "law", "(JIIIII)Z"⟩ : MethodName) = true := by decide +kernel
abbrev B_law : Bx := (x, code, maxLocals, ret, room_1)
set_option maxRecDepth 65536 in
set_option maxHeartbeats 4000000 in
theorem q_4 {A : Ax} (K : Wd A) {D : Dx} {x0 : Int64} {x1 x2 x3 x4 x5 c0 c1 c2 n m : Int32} {ar tx op cl : Addr} {out o : Addr} {l19 l20 : Slot} {os pre : List Int32} {o0 o1 o2 o3 k0 k1 k2 k3 : Int32} (r0 : 0 ≤ c0.toInt ∧ c0.toInt < 65536) (r1 : 0 ≤ c1.toInt ∧ c1.toInt < 65536) (r2 : 0 ≤ c2.toInt ∧ c2.toInt < 65536) {G : List Ent} (hO : StrR A G out os) (hol : os.length ≤ 64) (mo : (op, ArrP A .boolean [.int o0, .int o1, .int o2, .int o3]) ∈ G) (mc_ : (cl, ArrP A .boolean [.int k0, .int k1, .int k2, .int k3]) ∈ G) (ho : os = pre ++ []) : Go A B_law D (fun v _ _ => v = some (.int 1)) 419 [.val (.long x0), .second, .val (.int x1), .val (.int x2), .val (.int x3), .val (.int x4), .val (.int x5), .val (.int c0), .val (.int c1), .val (.int c2), .val (.int n), .val (.int m), .val (.ref ar), .val (.ref tx), .val (.ref op), .val (.ref cl), .val (.ref o), .val (.ref out), .val (.int (nI pre.length)), l19, l20] [] [] G 74 2860 := by
  obtain ⟨bO, cdO, hmO⟩ := hO.obj
  have z0 : (0 : Int32).toInt = 0 := rfl
  rw [List.append_nil] at ho
  have hpz : (nI pre.length).toInt = pre.length := nI_toInt (by rw [← ho]; omega)
  refine Go.rn (B := B_law) td_law 244 1 (pc' := 421) (S' := [.int (nI pre.length)]) rfl ?_
  refine Go.if0 (B := B_law) td_law 245 (pc' := 438) rfl (by decide) rfl (fun (h : (nI pre.length) < 0) => absurd h (fun z => absurd (i32_lt.mp z) (by omega))) (fun _ => ?_)
  refine Go.rn (B := B_law) td_law 246 2 (pc' := 428) (S' := [.ref out, .int (nI pre.length)]) rfl ?_
  refine Go.callV (B := B_law) td_law 248 (B' := B_len) (C := "java/lang/String") (a := out) (argsL := []) (rest := [.int (nI pre.length)]) (W := 1) rfl (lenR_met K (by omega) hO) (Or.inr hmO) (fun c P => P.1) (w_279 K) (w_68 K) (w_69 K) (w_70 K) (w_70 K) (w_8 K) (w_71 K) (by decide) pd_len rfl rfl rfl rfl (Nat.le_of_eq rfl) (by decide) (by decide) (by decide) (by decide) ?_
  rintro _ _ _ ⟨rfl, rfl, rfl⟩
  show Go A B_law D _ 431 _ [.int (nI os.length), .int (nI pre.length)] _ _ 74 2860
  refine Go.icmp (B := B_law) td_law 249 (pc' := 438) rfl (by decide) rfl (fun (h : (nI pre.length) ≠ (nI os.length)) => absurd h (fun z => z (by rw [ho]))) (fun _ => ?_)
  refine Go.rn (B := B_law) td_law 250 2 (pc' := 439) (S' := [.int (1 : Int32)]) rfl ?_
  exact Go.retZ (B := B_law) td_law 253 rfl rfl rfl rfl (by decide) (by decide)
set_option maxRecDepth 65536 in
set_option maxHeartbeats 4000000 in
theorem q_3 {A : Ax} (K : Wd A) {D : Dx} {x0 : Int64} {x1 x2 x3 x4 x5 c0 c1 c2 n m : Int32} {ar tx op cl : Addr} {out o : Addr} {l19 l20 : Slot} {os pre : List Int32} {o0 o1 o2 o3 k0 k1 k2 k3 : Int32} (r0 : 0 ≤ c0.toInt ∧ c0.toInt < 65536) (r1 : 0 ≤ c1.toInt ∧ c1.toInt < 65536) (r2 : 0 ≤ c2.toInt ∧ c2.toInt < 65536) {G : List Ent} (hO : StrR A G out os) (hol : os.length ≤ 64) (mo : (op, ArrP A .boolean [.int o0, .int o1, .int o2, .int o3]) ∈ G) (mc_ : (cl, ArrP A .boolean [.int k0, .int k1, .int k2, .int k3]) ∈ G) (ho : os = pre ++ (pcs k3 o3 0 c2 ++ ([] : List Int32))) : Go A B_law D (fun v _ _ => v = some (.int 1)) 399 [.val (.long x0), .second, .val (.int x1), .val (.int x2), .val (.int x3), .val (.int x4), .val (.int x5), .val (.int c0), .val (.int c1), .val (.int c2), .val (.int n), .val (.int m), .val (.ref ar), .val (.ref tx), .val (.ref op), .val (.ref cl), .val (.ref o), .val (.ref out), .val (.int (nI pre.length)), l19, l20] [] [] G 68 2796 := by
  refine Go.rn (B := B_law) td_law 232 4 (pc' := 406) (S' := [.int (3 : Int32), .ref cl, .int (nI pre.length), .ref out]) rfl ?_
  refine Go.zaload (B := B_law) td_law 236 (v := .int k3) rfl (Or.inr mc_) (own_inB 4 rfl (by decide)) rfl ?_
  refine Go.rn (B := B_law) td_law 237 2 (pc' := 410) (S' := [.int (3 : Int32), .ref op, .int k3, .int (nI pre.length), .ref out]) rfl ?_
  refine Go.zaload (B := B_law) td_law 239 (v := .int o3) rfl (Or.inr mo) (own_inB 4 rfl (by decide)) rfl ?_
  refine Go.rn (B := B_law) td_law 240 2 (pc' := 414) (S' := [.int c2, .int (0 : Int32), .int o3, .int k3, .int (nI pre.length), .ref out]) rfl ?_
  refine Go.callS (B := B_law) td_law 242 (B' := B_stp) (argsL := [.ref out, .int (nI pre.length), .int k3, .int o3, .int (0 : Int32), .int c2]) (rest := []) (W := 0) rfl (stp_met K (pre := pre) (suf := ([] : List Int32)) r2 ho hol hO) (w_269 K) (w_270 K) (w_3 K) (w_271 K) (by decide) pd_stp rfl rfl rfl rfl (Nat.le_of_eq rfl) (by decide) (by decide) (by decide) (by decide) ?_
  rintro _ _ _ ⟨rfl, rfl, rfl⟩
  show Go A B_law D _ 417 _ [.int (nI (pre ++ pcs k3 o3 0 c2).length)] _ _ 74 2860
  refine Go.run (B := B_law) td_law 243 1 (pc' := 419) (L' := [.val (.long x0), .second, .val (.int x1), .val (.int x2), .val (.int x3), .val (.int x4), .val (.int x5), .val (.int c0), .val (.int c1), .val (.int c2), .val (.int n), .val (.int m), .val (.ref ar), .val (.ref tx), .val (.ref op), .val (.ref cl), .val (.ref o), .val (.ref out), .val (.int (nI (pre ++ pcs k3 o3 0 c2).length)), l19, l20]) (S' := []) rfl ?_
  exact q_4 K (pre := pre ++ pcs k3 o3 0 c2) r0 r1 r2 hO hol mo mc_ (by rw [ho, List.append_assoc])
set_option maxRecDepth 65536 in
set_option maxHeartbeats 4000000 in
theorem q_2 {A : Ax} (K : Wd A) {D : Dx} {x0 : Int64} {x1 x2 x3 x4 x5 c0 c1 c2 n m : Int32} {ar tx op cl : Addr} {out o : Addr} {l19 l20 : Slot} {os pre : List Int32} {o0 o1 o2 o3 k0 k1 k2 k3 : Int32} (r0 : 0 ≤ c0.toInt ∧ c0.toInt < 65536) (r1 : 0 ≤ c1.toInt ∧ c1.toInt < 65536) (r2 : 0 ≤ c2.toInt ∧ c2.toInt < 65536) {G : List Ent} (hO : StrR A G out os) (hol : os.length ≤ 64) (mo : (op, ArrP A .boolean [.int o0, .int o1, .int o2, .int o3]) ∈ G) (mc_ : (cl, ArrP A .boolean [.int k0, .int k1, .int k2, .int k3]) ∈ G) (ho : os = pre ++ (pcs k2 o2 (fl n 2) c2 ++ (pcs k3 o3 0 c2 ++ ([] : List Int32)))) : Go A B_law D (fun v _ _ => v = some (.int 1)) 369 [.val (.long x0), .second, .val (.int x1), .val (.int x2), .val (.int x3), .val (.int x4), .val (.int x5), .val (.int c0), .val (.int c1), .val (.int c2), .val (.int n), .val (.int m), .val (.ref ar), .val (.ref tx), .val (.ref op), .val (.ref cl), .val (.ref o), .val (.ref out), .val (.int (nI pre.length)), l19, l20] [] [] G 62 2732 := by
  refine Go.rn (B := B_law) td_law 215 4 (pc' := 376) (S' := [.int (2 : Int32), .ref cl, .int (nI pre.length), .ref out]) rfl ?_
  refine Go.zaload (B := B_law) td_law 219 (v := .int k2) rfl (Or.inr mc_) (own_inB 4 rfl (by decide)) rfl ?_
  refine Go.rn (B := B_law) td_law 220 2 (pc' := 380) (S' := [.int (2 : Int32), .ref op, .int k2, .int (nI pre.length), .ref out]) rfl ?_
  refine Go.zaload (B := B_law) td_law 222 (v := .int o2) rfl (Or.inr mo) (own_inB 4 rfl (by decide)) rfl ?_
  refine Go.rn (B := B_law) td_law 223 2 (pc' := 384) (S' := [.int (2 : Int32), .int n, .int o2, .int k2, .int (nI pre.length), .ref out]) rfl ?_
  by_cases hj : n ≤ 2
  · have hf : fl n 2 = 0 := if_pos hj
    refine Go.icmp (B := B_law) td_law 225 (pc' := 391) rfl (by decide) rfl (fun _ => ?_) (fun (h : ¬ (n ≤ (2 : Int32))) => absurd hj h)
    refine Go.rn (B := B_law) td_law 228 2 (pc' := 394) (S' := [.int c2, .int (0 : Int32), .int o2, .int k2, .int (nI pre.length), .ref out]) rfl ?_
    refine Go.callS (B := B_law) td_law 230 (B' := B_stp) (argsL := [.ref out, .int (nI pre.length), .int k2, .int o2, .int (0 : Int32), .int c2]) (rest := []) (W := 0) rfl (stp_met K (pre := pre) (suf := (pcs k3 o3 0 c2 ++ ([] : List Int32))) r2 (by rw [ho, hf]) hol hO) (w_269 K) (w_270 K) (w_3 K) (w_271 K) (by decide) pd_stp rfl rfl rfl rfl (Nat.le_of_eq rfl) (by decide) (by decide) (by decide) (by decide) ?_
    rintro _ _ _ ⟨rfl, rfl, rfl⟩
    show Go A B_law D _ 397 _ [.int (nI (pre ++ pcs k2 o2 0 c2).length)] _ _ 68 2796
    refine Go.run (B := B_law) td_law 231 1 (pc' := 399) (L' := [.val (.long x0), .second, .val (.int x1), .val (.int x2), .val (.int x3), .val (.int x4), .val (.int x5), .val (.int c0), .val (.int c1), .val (.int c2), .val (.int n), .val (.int m), .val (.ref ar), .val (.ref tx), .val (.ref op), .val (.ref cl), .val (.ref o), .val (.ref out), .val (.int (nI (pre ++ pcs k2 o2 0 c2).length)), l19, l20]) (S' := []) rfl ?_
    exact q_3 K (pre := pre ++ pcs k2 o2 0 c2) r0 r1 r2 hO hol mo mc_ (by rw [ho, hf, List.append_assoc])
  have hf : fl n 2 = 1 := if_neg hj
  refine Go.icmp (B := B_law) td_law 225 (pc' := 391) rfl (by decide) rfl (fun (h : n ≤ (2 : Int32)) => absurd h hj) (fun _ => ?_)
  refine Go.rn (B := B_law) td_law 226 2 (pc' := 392) (S' := [.int (1 : Int32), .int o2, .int k2, .int (nI pre.length), .ref out]) rfl ?_
  refine Go.rn (B := B_law) td_law 229 1 (pc' := 394) (S' := [.int c2, .int (1 : Int32), .int o2, .int k2, .int (nI pre.length), .ref out]) rfl ?_
  refine Go.callS (B := B_law) td_law 230 (B' := B_stp) (argsL := [.ref out, .int (nI pre.length), .int k2, .int o2, .int (1 : Int32), .int c2]) (rest := []) (W := 0) rfl (stp_met K (pre := pre) (suf := (pcs k3 o3 0 c2 ++ ([] : List Int32))) r2 (by rw [ho, hf]) hol hO) (w_269 K) (w_270 K) (w_3 K) (w_271 K) (by decide) pd_stp rfl rfl rfl rfl (Nat.le_of_eq rfl) (by decide) (by decide) (by decide) (by decide) ?_
  rintro _ _ _ ⟨rfl, rfl, rfl⟩
  show Go A B_law D _ 397 _ [.int (nI (pre ++ pcs k2 o2 1 c2).length)] _ _ 68 2796
  refine Go.run (B := B_law) td_law 231 1 (pc' := 399) (L' := [.val (.long x0), .second, .val (.int x1), .val (.int x2), .val (.int x3), .val (.int x4), .val (.int x5), .val (.int c0), .val (.int c1), .val (.int c2), .val (.int n), .val (.int m), .val (.ref ar), .val (.ref tx), .val (.ref op), .val (.ref cl), .val (.ref o), .val (.ref out), .val (.int (nI (pre ++ pcs k2 o2 1 c2).length)), l19, l20]) (S' := []) rfl ?_
  exact q_3 K (pre := pre ++ pcs k2 o2 1 c2) r0 r1 r2 hO hol mo mc_ (by rw [ho, hf, List.append_assoc])
set_option maxRecDepth 65536 in
set_option maxHeartbeats 4000000 in
theorem q_1 {A : Ax} (K : Wd A) {D : Dx} {x0 : Int64} {x1 x2 x3 x4 x5 c0 c1 c2 n m : Int32} {ar tx op cl : Addr} {out o : Addr} {l19 l20 : Slot} {os pre : List Int32} {o0 o1 o2 o3 k0 k1 k2 k3 : Int32} (r0 : 0 ≤ c0.toInt ∧ c0.toInt < 65536) (r1 : 0 ≤ c1.toInt ∧ c1.toInt < 65536) (r2 : 0 ≤ c2.toInt ∧ c2.toInt < 65536) {G : List Ent} (hO : StrR A G out os) (hol : os.length ≤ 64) (mo : (op, ArrP A .boolean [.int o0, .int o1, .int o2, .int o3]) ∈ G) (mc_ : (cl, ArrP A .boolean [.int k0, .int k1, .int k2, .int k3]) ∈ G) (ho : os = pre ++ (pcs k1 o1 (fl n 1) c1 ++ (pcs k2 o2 (fl n 2) c2 ++ (pcs k3 o3 0 c2 ++ ([] : List Int32))))) : Go A B_law D (fun v _ _ => v = some (.int 1)) 339 [.val (.long x0), .second, .val (.int x1), .val (.int x2), .val (.int x3), .val (.int x4), .val (.int x5), .val (.int c0), .val (.int c1), .val (.int c2), .val (.int n), .val (.int m), .val (.ref ar), .val (.ref tx), .val (.ref op), .val (.ref cl), .val (.ref o), .val (.ref out), .val (.int (nI pre.length)), l19, l20] [] [] G 56 2668 := by
  refine Go.rn (B := B_law) td_law 198 4 (pc' := 346) (S' := [.int (1 : Int32), .ref cl, .int (nI pre.length), .ref out]) rfl ?_
  refine Go.zaload (B := B_law) td_law 202 (v := .int k1) rfl (Or.inr mc_) (own_inB 4 rfl (by decide)) rfl ?_
  refine Go.rn (B := B_law) td_law 203 2 (pc' := 350) (S' := [.int (1 : Int32), .ref op, .int k1, .int (nI pre.length), .ref out]) rfl ?_
  refine Go.zaload (B := B_law) td_law 205 (v := .int o1) rfl (Or.inr mo) (own_inB 4 rfl (by decide)) rfl ?_
  refine Go.rn (B := B_law) td_law 206 2 (pc' := 354) (S' := [.int (1 : Int32), .int n, .int o1, .int k1, .int (nI pre.length), .ref out]) rfl ?_
  by_cases hj : n ≤ 1
  · have hf : fl n 1 = 0 := if_pos hj
    refine Go.icmp (B := B_law) td_law 208 (pc' := 361) rfl (by decide) rfl (fun _ => ?_) (fun (h : ¬ (n ≤ (1 : Int32))) => absurd hj h)
    refine Go.rn (B := B_law) td_law 211 2 (pc' := 364) (S' := [.int c1, .int (0 : Int32), .int o1, .int k1, .int (nI pre.length), .ref out]) rfl ?_
    refine Go.callS (B := B_law) td_law 213 (B' := B_stp) (argsL := [.ref out, .int (nI pre.length), .int k1, .int o1, .int (0 : Int32), .int c1]) (rest := []) (W := 0) rfl (stp_met K (pre := pre) (suf := (pcs k2 o2 (fl n 2) c2 ++ (pcs k3 o3 0 c2 ++ ([] : List Int32)))) r1 (by rw [ho, hf]) hol hO) (w_269 K) (w_270 K) (w_3 K) (w_271 K) (by decide) pd_stp rfl rfl rfl rfl (Nat.le_of_eq rfl) (by decide) (by decide) (by decide) (by decide) ?_
    rintro _ _ _ ⟨rfl, rfl, rfl⟩
    show Go A B_law D _ 367 _ [.int (nI (pre ++ pcs k1 o1 0 c1).length)] _ _ 62 2732
    refine Go.run (B := B_law) td_law 214 1 (pc' := 369) (L' := [.val (.long x0), .second, .val (.int x1), .val (.int x2), .val (.int x3), .val (.int x4), .val (.int x5), .val (.int c0), .val (.int c1), .val (.int c2), .val (.int n), .val (.int m), .val (.ref ar), .val (.ref tx), .val (.ref op), .val (.ref cl), .val (.ref o), .val (.ref out), .val (.int (nI (pre ++ pcs k1 o1 0 c1).length)), l19, l20]) (S' := []) rfl ?_
    exact q_2 K (pre := pre ++ pcs k1 o1 0 c1) r0 r1 r2 hO hol mo mc_ (by rw [ho, hf, List.append_assoc])
  have hf : fl n 1 = 1 := if_neg hj
  refine Go.icmp (B := B_law) td_law 208 (pc' := 361) rfl (by decide) rfl (fun (h : n ≤ (1 : Int32)) => absurd h hj) (fun _ => ?_)
  refine Go.rn (B := B_law) td_law 209 2 (pc' := 362) (S' := [.int (1 : Int32), .int o1, .int k1, .int (nI pre.length), .ref out]) rfl ?_
  refine Go.rn (B := B_law) td_law 212 1 (pc' := 364) (S' := [.int c1, .int (1 : Int32), .int o1, .int k1, .int (nI pre.length), .ref out]) rfl ?_
  refine Go.callS (B := B_law) td_law 213 (B' := B_stp) (argsL := [.ref out, .int (nI pre.length), .int k1, .int o1, .int (1 : Int32), .int c1]) (rest := []) (W := 0) rfl (stp_met K (pre := pre) (suf := (pcs k2 o2 (fl n 2) c2 ++ (pcs k3 o3 0 c2 ++ ([] : List Int32)))) r1 (by rw [ho, hf]) hol hO) (w_269 K) (w_270 K) (w_3 K) (w_271 K) (by decide) pd_stp rfl rfl rfl rfl (Nat.le_of_eq rfl) (by decide) (by decide) (by decide) (by decide) ?_
  rintro _ _ _ ⟨rfl, rfl, rfl⟩
  show Go A B_law D _ 367 _ [.int (nI (pre ++ pcs k1 o1 1 c1).length)] _ _ 62 2732
  refine Go.run (B := B_law) td_law 214 1 (pc' := 369) (L' := [.val (.long x0), .second, .val (.int x1), .val (.int x2), .val (.int x3), .val (.int x4), .val (.int x5), .val (.int c0), .val (.int c1), .val (.int c2), .val (.int n), .val (.int m), .val (.ref ar), .val (.ref tx), .val (.ref op), .val (.ref cl), .val (.ref o), .val (.ref out), .val (.int (nI (pre ++ pcs k1 o1 1 c1).length)), l19, l20]) (S' := []) rfl ?_
  exact q_2 K (pre := pre ++ pcs k1 o1 1 c1) r0 r1 r2 hO hol mo mc_ (by rw [ho, hf, List.append_assoc])
set_option maxRecDepth 65536 in
set_option maxHeartbeats 4000000 in
theorem q_0 {A : Ax} (K : Wd A) {D : Dx} {x0 : Int64} {x1 x2 x3 x4 x5 c0 c1 c2 n m : Int32} {ar tx op cl : Addr} {out o : Addr} {l19 l20 : Slot} {os pre : List Int32} {o0 o1 o2 o3 k0 k1 k2 k3 : Int32} (r0 : 0 ≤ c0.toInt ∧ c0.toInt < 65536) (r1 : 0 ≤ c1.toInt ∧ c1.toInt < 65536) (r2 : 0 ≤ c2.toInt ∧ c2.toInt < 65536) {G : List Ent} (hO : StrR A G out os) (hol : os.length ≤ 64) (mo : (op, ArrP A .boolean [.int o0, .int o1, .int o2, .int o3]) ∈ G) (mc_ : (cl, ArrP A .boolean [.int k0, .int k1, .int k2, .int k3]) ∈ G) (ho : os = pre ++ (pcs k0 o0 (fl n 0) c0 ++ (pcs k1 o1 (fl n 1) c1 ++ (pcs k2 o2 (fl n 2) c2 ++ (pcs k3 o3 0 c2 ++ ([] : List Int32)))))) : Go A B_law D (fun v _ _ => v = some (.int 1)) 310 [.val (.long x0), .second, .val (.int x1), .val (.int x2), .val (.int x3), .val (.int x4), .val (.int x5), .val (.int c0), .val (.int c1), .val (.int c2), .val (.int n), .val (.int m), .val (.ref ar), .val (.ref tx), .val (.ref op), .val (.ref cl), .val (.ref o), .val (.ref out), .val (.int (nI pre.length)), l19, l20] [] [] G 50 2604 := by
  refine Go.rn (B := B_law) td_law 182 4 (pc' := 317) (S' := [.int (0 : Int32), .ref cl, .int (nI pre.length), .ref out]) rfl ?_
  refine Go.zaload (B := B_law) td_law 186 (v := .int k0) rfl (Or.inr mc_) (own_inB 4 rfl (by decide)) rfl ?_
  refine Go.rn (B := B_law) td_law 187 2 (pc' := 321) (S' := [.int (0 : Int32), .ref op, .int k0, .int (nI pre.length), .ref out]) rfl ?_
  refine Go.zaload (B := B_law) td_law 189 (v := .int o0) rfl (Or.inr mo) (own_inB 4 rfl (by decide)) rfl ?_
  refine Go.rn (B := B_law) td_law 190 1 (pc' := 324) (S' := [.int n, .int o0, .int k0, .int (nI pre.length), .ref out]) rfl ?_
  by_cases hj : n ≤ 0
  · have hf : fl n 0 = 0 := if_pos hj
    refine Go.if0 (B := B_law) td_law 191 (pc' := 331) rfl (by decide) rfl (fun _ => ?_) (fun (h : ¬ (n ≤ 0)) => absurd hj h)
    refine Go.rn (B := B_law) td_law 194 2 (pc' := 334) (S' := [.int c0, .int (0 : Int32), .int o0, .int k0, .int (nI pre.length), .ref out]) rfl ?_
    refine Go.callS (B := B_law) td_law 196 (B' := B_stp) (argsL := [.ref out, .int (nI pre.length), .int k0, .int o0, .int (0 : Int32), .int c0]) (rest := []) (W := 0) rfl (stp_met K (pre := pre) (suf := (pcs k1 o1 (fl n 1) c1 ++ (pcs k2 o2 (fl n 2) c2 ++ (pcs k3 o3 0 c2 ++ ([] : List Int32))))) r0 (by rw [ho, hf]) hol hO) (w_269 K) (w_270 K) (w_3 K) (w_271 K) (by decide) pd_stp rfl rfl rfl rfl (Nat.le_of_eq rfl) (by decide) (by decide) (by decide) (by decide) ?_
    rintro _ _ _ ⟨rfl, rfl, rfl⟩
    show Go A B_law D _ 337 _ [.int (nI (pre ++ pcs k0 o0 0 c0).length)] _ _ 56 2668
    refine Go.run (B := B_law) td_law 197 1 (pc' := 339) (L' := [.val (.long x0), .second, .val (.int x1), .val (.int x2), .val (.int x3), .val (.int x4), .val (.int x5), .val (.int c0), .val (.int c1), .val (.int c2), .val (.int n), .val (.int m), .val (.ref ar), .val (.ref tx), .val (.ref op), .val (.ref cl), .val (.ref o), .val (.ref out), .val (.int (nI (pre ++ pcs k0 o0 0 c0).length)), l19, l20]) (S' := []) rfl ?_
    exact q_1 K (pre := pre ++ pcs k0 o0 0 c0) r0 r1 r2 hO hol mo mc_ (by rw [ho, hf, List.append_assoc])
  have hf : fl n 0 = 1 := if_neg hj
  refine Go.if0 (B := B_law) td_law 191 (pc' := 331) rfl (by decide) rfl (fun (h : n ≤ 0) => absurd h hj) (fun _ => ?_)
  refine Go.rn (B := B_law) td_law 192 2 (pc' := 332) (S' := [.int (1 : Int32), .int o0, .int k0, .int (nI pre.length), .ref out]) rfl ?_
  refine Go.rn (B := B_law) td_law 195 1 (pc' := 334) (S' := [.int c0, .int (1 : Int32), .int o0, .int k0, .int (nI pre.length), .ref out]) rfl ?_
  refine Go.callS (B := B_law) td_law 196 (B' := B_stp) (argsL := [.ref out, .int (nI pre.length), .int k0, .int o0, .int (1 : Int32), .int c0]) (rest := []) (W := 0) rfl (stp_met K (pre := pre) (suf := (pcs k1 o1 (fl n 1) c1 ++ (pcs k2 o2 (fl n 2) c2 ++ (pcs k3 o3 0 c2 ++ ([] : List Int32))))) r0 (by rw [ho, hf]) hol hO) (w_269 K) (w_270 K) (w_3 K) (w_271 K) (by decide) pd_stp rfl rfl rfl rfl (Nat.le_of_eq rfl) (by decide) (by decide) (by decide) (by decide) ?_
  rintro _ _ _ ⟨rfl, rfl, rfl⟩
  show Go A B_law D _ 337 _ [.int (nI (pre ++ pcs k0 o0 1 c0).length)] _ _ 56 2668
  refine Go.run (B := B_law) td_law 197 1 (pc' := 339) (L' := [.val (.long x0), .second, .val (.int x1), .val (.int x2), .val (.int x3), .val (.int x4), .val (.int x5), .val (.int c0), .val (.int c1), .val (.int c2), .val (.int n), .val (.int m), .val (.ref ar), .val (.ref tx), .val (.ref op), .val (.ref cl), .val (.ref o), .val (.ref out), .val (.int (nI (pre ++ pcs k0 o0 1 c0).length)), l19, l20]) (S' := []) rfl ?_
  exact q_1 K (pre := pre ++ pcs k0 o0 1 c0) r0 r1 r2 hO hol mo mc_ (by rw [ho, hf, List.append_assoc])
--CUT
set_option maxRecDepth 65536 in
set_option maxHeartbeats 4000000 in
theorem s298_0 {A : Ax} (K : Wd A) {D : Dx} {x0 : Int64} {x1 x2 x3 x4 x5 c0 c1 c2 n m : Int32} {ar op cl : Addr} {o0 o1 o2 o3 k0 k1 k2 k3 : Int32} (r0 : 0 ≤ c0.toInt ∧ c0.toInt < 65536) (r1 : 0 ≤ c1.toInt ∧ c1.toInt < 65536) (r2 : 0 ≤ c2.toInt ∧ c2.toInt < 65536) {mc  : Int32} {tx o ed : Addr} {ts  : List Int32} {G : List Ent} (hlen : ts.length ≤ 3) (hch : Chrs ts) (mS : StrR A G tx ts) (m_ : (o, ob_2 A (.ref ed) (.int (0 : Int32)) (.int mc)) ∈ G) (mo : (op, ArrP A .boolean [.int o0, .int o1, .int o2, .int o3]) ∈ G) (mc_ : (cl, ArrP A .boolean [.int k0, .int k1, .int k2, .int k3]) ∈ G) (hos : (escLs ts) = (pcs k0 o0 (fl n 0) c0 ++ (pcs k1 o1 (fl n 1) c1 ++ (pcs k2 o2 (fl n 2) c2 ++ (pcs k3 o3 0 c2 ++ ([] : List Int32)))))) : Go A B_law D (fun v _ _ => v = some (.int 1)) 298 [.val (.long x0), .second, .val (.int x1), .val (.int x2), .val (.int x3), .val (.int x4), .val (.int x5), .val (.int c0), .val (.int c1), .val (.int c2), .val (.int n), .val (.int m), .val (.ref ar), .val (.ref tx), .val (.ref op), .val (.ref cl), .val (.ref o), .unset, .unset, .unset, .unset] [] [] G 15 420 := by
  have uts := escLs_len ts
  have hol : (escLs ts).length ≤ 64 := by skip; omega
  refine Go.rn (B := B_law) td_law 176 2 (pc' := 302) (S' := [.ref o, .ref tx]) rfl ?_
  refine Go.callS (B := B_law) td_law 178 (B' := B_htm) (argsL := [.ref tx, .ref o]) (rest := []) (W := 0) rfl (htm0_met K hlen hch mS m_) (w_60 K) (w_61 K) (w_62 K) (w_63 K) (by decide) pd_htm rfl rfl rfl rfl (Nat.le_of_eq rfl) (by decide) (by decide) (by decide) (by decide) ?_
  rintro _ _ _ ⟨out, q1, q2, rfl, rfl, rfl, hO⟩
  show Go A B_law D _ 305 _ [.ref out] _ (q1 :: q2 :: G) 50 2604
  refine Go.run (B := B_law) td_law 179 3 (pc' := 310) (L' := [.val (.long x0), .second, .val (.int x1), .val (.int x2), .val (.int x3), .val (.int x4), .val (.int x5), .val (.int c0), .val (.int c1), .val (.int c2), .val (.int n), .val (.int m), .val (.ref ar), .val (.ref tx), .val (.ref op), .val (.ref cl), .val (.ref o), .val (.ref out), .val (.int (0 : Int32)), .unset, .unset]) (S' := []) rfl ?_
  exact q_0 K (pre := []) r0 r1 r2 hO hol (.tail _ (.tail _ mo)) (.tail _ (.tail _ mc_)) (by rw [List.nil_append]; exact hos)
set_option maxRecDepth 65536 in
set_option maxHeartbeats 4000000 in
theorem s298_1 {A : Ax} (K : Wd A) {D : Dx} {x0 : Int64} {x1 x2 x3 x4 x5 c0 c1 c2 n m : Int32} {ar op cl : Addr} {v17 v18 : Int32} {l19 l20 : Slot} {o0 o1 o2 o3 b0 b1 b2 b3 : Int32} (r0 : 0 ≤ c0.toInt ∧ c0.toInt < 65536) (r1 : 0 ≤ c1.toInt ∧ c1.toInt < 65536) (r2 : 0 ≤ c2.toInt ∧ c2.toInt < 65536) {mc s0 e0 : Int32} {tx o ed y0 : Addr} {ts g0 k0 g1 : List Int32} {G : List Ent} (ht : ts = (g0 ++ (k0 ++ g1))) (hlen : ts.length ≤ 3) (hch : Chrs ts) (bs0 : s0 = nI g0.length) (be0 : e0 = nI (g0 ++ k0).length) (mS : StrR A G tx ts) (m_ : (o, ob_2 A (.ref ed) (.int (1 : Int32)) (.int mc)) ∈ G) (mt : (ed, RarP A "java/lang/Object" "[Ljava/lang/Object;" [.ref y0, .null, .null, .null, .null, .null, .null, .null, .null, .null]) ∈ G) (m0 : (y0, ob_3 A (.int s0) (.int e0)) ∈ G) (mo : (op, ArrP A .boolean [.int o0, .int o1, .int o2, .int o3]) ∈ G) (mc_ : (cl, ArrP A .boolean [.int b0, .int b1, .int b2, .int b3]) ∈ G) (hos : (escLs g0 ++ (([60, 98, 62] : List Int32) ++ (escLs k0 ++ (([60, 47, 98, 62] : List Int32) ++ escLs g1)))) = (pcs b0 o0 (fl n 0) c0 ++ (pcs b1 o1 (fl n 1) c1 ++ (pcs b2 o2 (fl n 2) c2 ++ (pcs b3 o3 0 c2 ++ ([] : List Int32)))))) : Go A B_law D (fun v _ _ => v = some (.int 1)) 298 [.val (.long x0), .second, .val (.int x1), .val (.int x2), .val (.int x3), .val (.int x4), .val (.int x5), .val (.int c0), .val (.int c1), .val (.int c2), .val (.int n), .val (.int m), .val (.ref ar), .val (.ref tx), .val (.ref op), .val (.ref cl), .val (.ref o), .val (.int v17), .val (.int v18), l19, l20] [] [] G 15 420 := by
  have hl2 : g0.length + k0.length + g1.length ≤ 3 := by rw [ht] at hlen; simp only [List.length_append] at hlen; omega
  have ug0 := escLs_len g0
  have uk0 := escLs_len k0
  have ug1 := escLs_len g1
  have hol : (escLs g0 ++ (([60, 98, 62] : List Int32) ++ (escLs k0 ++ (([60, 47, 98, 62] : List Int32) ++ escLs g1)))).length ≤ 64 := by simp only [List.length_append, List.length_cons, List.length_nil]; omega
  refine Go.rn (B := B_law) td_law 176 2 (pc' := 302) (S' := [.ref o, .ref tx]) rfl ?_
  refine Go.callS (B := B_law) td_law 178 (B' := B_htm) (argsL := [.ref tx, .ref o]) (rest := []) (W := 0) rfl (htm1_met K ht hlen hch bs0 be0 mS m_ mt m0) (w_60 K) (w_61 K) (w_62 K) (w_63 K) (by decide) pd_htm rfl rfl rfl rfl (Nat.le_of_eq rfl) (by decide) (by decide) (by decide) (by decide) ?_
  rintro _ _ _ ⟨out, q1, q2, rfl, rfl, rfl, hO⟩
  show Go A B_law D _ 305 _ [.ref out] _ (q1 :: q2 :: G) 50 2604
  refine Go.run (B := B_law) td_law 179 3 (pc' := 310) (L' := [.val (.long x0), .second, .val (.int x1), .val (.int x2), .val (.int x3), .val (.int x4), .val (.int x5), .val (.int c0), .val (.int c1), .val (.int c2), .val (.int n), .val (.int m), .val (.ref ar), .val (.ref tx), .val (.ref op), .val (.ref cl), .val (.ref o), .val (.ref out), .val (.int (0 : Int32)), l19, l20]) (S' := []) rfl ?_
  exact q_0 K (pre := []) r0 r1 r2 hO hol (.tail _ (.tail _ mo)) (.tail _ (.tail _ mc_)) (by rw [List.nil_append]; exact hos)
set_option maxRecDepth 65536 in
set_option maxHeartbeats 4000000 in
theorem s298_2 {A : Ax} (K : Wd A) {D : Dx} {x0 : Int64} {x1 x2 x3 x4 x5 c0 c1 c2 n m : Int32} {ar op cl : Addr} {v17 v18 : Int32} {l19 l20 : Slot} {o0 o1 o2 o3 b0 b1 b2 b3 : Int32} (r0 : 0 ≤ c0.toInt ∧ c0.toInt < 65536) (r1 : 0 ≤ c1.toInt ∧ c1.toInt < 65536) (r2 : 0 ≤ c2.toInt ∧ c2.toInt < 65536) {mc s0 e0 s1 e1 : Int32} {tx o ed y0 y1 : Addr} {ts g0 k0 g1 k1 g2 : List Int32} {G : List Ent} (ht : ts = (g0 ++ (k0 ++ (g1 ++ (k1 ++ g2))))) (hlen : ts.length ≤ 3) (hch : Chrs ts) (bs0 : s0 = nI g0.length) (be0 : e0 = nI (g0 ++ k0).length) (bs1 : s1 = nI ((g0 ++ k0) ++ g1).length) (be1 : e1 = nI (((g0 ++ k0) ++ g1) ++ k1).length) (mS : StrR A G tx ts) (m_ : (o, ob_2 A (.ref ed) (.int (2 : Int32)) (.int mc)) ∈ G) (mt : (ed, RarP A "java/lang/Object" "[Ljava/lang/Object;" [.ref y0, .ref y1, .null, .null, .null, .null, .null, .null, .null, .null]) ∈ G) (m0 : (y0, ob_3 A (.int s0) (.int e0)) ∈ G) (m1 : (y1, ob_3 A (.int s1) (.int e1)) ∈ G) (mo : (op, ArrP A .boolean [.int o0, .int o1, .int o2, .int o3]) ∈ G) (mc_ : (cl, ArrP A .boolean [.int b0, .int b1, .int b2, .int b3]) ∈ G) (hos : (escLs g0 ++ (([60, 98, 62] : List Int32) ++ (escLs k0 ++ (([60, 47, 98, 62] : List Int32) ++ (escLs g1 ++ (([60, 98, 62] : List Int32) ++ (escLs k1 ++ (([60, 47, 98, 62] : List Int32) ++ escLs g2)))))))) = (pcs b0 o0 (fl n 0) c0 ++ (pcs b1 o1 (fl n 1) c1 ++ (pcs b2 o2 (fl n 2) c2 ++ (pcs b3 o3 0 c2 ++ ([] : List Int32)))))) : Go A B_law D (fun v _ _ => v = some (.int 1)) 298 [.val (.long x0), .second, .val (.int x1), .val (.int x2), .val (.int x3), .val (.int x4), .val (.int x5), .val (.int c0), .val (.int c1), .val (.int c2), .val (.int n), .val (.int m), .val (.ref ar), .val (.ref tx), .val (.ref op), .val (.ref cl), .val (.ref o), .val (.int v17), .val (.int v18), l19, l20] [] [] G 15 420 := by
  have hl2 : g0.length + k0.length + g1.length + k1.length + g2.length ≤ 3 := by rw [ht] at hlen; simp only [List.length_append] at hlen; omega
  have ug0 := escLs_len g0
  have uk0 := escLs_len k0
  have ug1 := escLs_len g1
  have uk1 := escLs_len k1
  have ug2 := escLs_len g2
  have hol : (escLs g0 ++ (([60, 98, 62] : List Int32) ++ (escLs k0 ++ (([60, 47, 98, 62] : List Int32) ++ (escLs g1 ++ (([60, 98, 62] : List Int32) ++ (escLs k1 ++ (([60, 47, 98, 62] : List Int32) ++ escLs g2)))))))).length ≤ 64 := by simp only [List.length_append, List.length_cons, List.length_nil]; omega
  refine Go.rn (B := B_law) td_law 176 2 (pc' := 302) (S' := [.ref o, .ref tx]) rfl ?_
  refine Go.callS (B := B_law) td_law 178 (B' := B_htm) (argsL := [.ref tx, .ref o]) (rest := []) (W := 0) rfl (htm2_met K ht hlen hch bs0 be0 bs1 be1 mS m_ mt m0 m1) (w_60 K) (w_61 K) (w_62 K) (w_63 K) (by decide) pd_htm rfl rfl rfl rfl (Nat.le_of_eq rfl) (by decide) (by decide) (by decide) (by decide) ?_
  rintro _ _ _ ⟨out, q1, q2, rfl, rfl, rfl, hO⟩
  show Go A B_law D _ 305 _ [.ref out] _ (q1 :: q2 :: G) 50 2604
  refine Go.run (B := B_law) td_law 179 3 (pc' := 310) (L' := [.val (.long x0), .second, .val (.int x1), .val (.int x2), .val (.int x3), .val (.int x4), .val (.int x5), .val (.int c0), .val (.int c1), .val (.int c2), .val (.int n), .val (.int m), .val (.ref ar), .val (.ref tx), .val (.ref op), .val (.ref cl), .val (.ref o), .val (.ref out), .val (.int (0 : Int32)), l19, l20]) (S' := []) rfl ?_
  exact q_0 K (pre := []) r0 r1 r2 hO hol (.tail _ (.tail _ mo)) (.tail _ (.tail _ mc_)) (by rw [List.nil_append]; exact hos)
theorem own_four {a : Int32} (h : 0 ≤ a.toInt ∧ a.toInt ≤ 3) : a = nI 0 ∨ a = nI 1 ∨ a = nI 2 ∨ a = nI 3 := by
  simp only [i32_eq]
  have e0 : (nI 0).toInt = 0 := by decide
  have e1 : (nI 1).toInt = 1 := by decide
  have e2 : (nI 2).toInt = 2 := by decide
  have e3 : (nI 3).toInt = 3 := by decide
  rw [e0, e1, e2, e3]; omega
theorem own_ts {n m c0 c1 c2 : Int32} {ts : List Int32} (r0 : 0 ≤ c0.toInt ∧ c0.toInt < 65536) (r1 : 0 ≤ c1.toInt ∧ c1.toInt < 65536) (r2 : 0 ≤ c2.toInt ∧ c2.toInt < 65536) (hn : (n = nI 0 ∧ ts = [] ∧ m < 1) ∨ (n = nI 1 ∧ ts = [c0]) ∨ (n = nI 2 ∧ ts = [c0, c1]) ∨ (n = nI 3 ∧ ts = [c0, c1, c2])) : ts.length ≤ 3 ∧ Chrs ts := by
  rcases hn with ⟨-, rfl, -⟩ | ⟨-, rfl⟩ | ⟨-, rfl⟩ | ⟨-, rfl⟩
  · exact ⟨by decide, fun x h => nomatch h⟩
  · exact ⟨by show 1 ≤ 3; decide, fun x h => by
      simp only [List.mem_cons, List.not_mem_nil, or_false] at h
      rcases h with rfl
      · exact r0⟩
  · exact ⟨by show 2 ≤ 3; decide, fun x h => by
      simp only [List.mem_cons, List.not_mem_nil, or_false] at h
      rcases h with rfl | rfl
      · exact r0
      · exact r1⟩
  · exact ⟨by show 3 ≤ 3; decide, fun x h => by
      simp only [List.mem_cons, List.not_mem_nil, or_false] at h
      rcases h with rfl | rfl | rfl
      · exact r0
      · exact r1
      · exact r2⟩
set_option maxRecDepth 65536 in
set_option maxHeartbeats 4000000 in
theorem j0 {A : Ax} (K : Wd A) {D : Dx} {x0 : Int64} {x1 x2 x3 x4 x5 c0 c1 c2 n m : Int32} {ar tx op cl : Addr} {o ed : Addr} {mc : Int32} {ts : List Int32} (r0 : 0 ≤ c0.toInt ∧ c0.toInt < 65536) (r1 : 0 ≤ c1.toInt ∧ c1.toInt < 65536) (r2 : 0 ≤ c2.toInt ∧ c2.toInt < 65536) (hn : (n = nI 0 ∧ ts = [] ∧ m < 1) ∨ (n = nI 1 ∧ ts = [c0]) ∨ (n = nI 2 ∧ ts = [c0, c1]) ∨ (n = nI 3 ∧ ts = [c0, c1, c2])) {G : List Ent} (mS : StrR A G tx ts) (m_ : (o, ob_2 A (.ref ed) (.int (0 : Int32)) (.int mc)) ∈ G) (mo : (op, ArrP A .boolean [.int 0, .int 0, .int 0, .int 0]) ∈ G) (mc_ : (cl, ArrP A .boolean [.int 0, .int 0, .int 0, .int 0]) ∈ G) : Go A B_law D (fun v _ _ => v = some (.int 1)) 298 [.val (.long x0), .second, .val (.int x1), .val (.int x2), .val (.int x3), .val (.int x4), .val (.int x5), .val (.int c0), .val (.int c1), .val (.int c2), .val (.int n), .val (.int m), .val (.ref ar), .val (.ref tx), .val (.ref op), .val (.ref cl), .val (.ref o), .unset, .unset, .unset, .unset] [] [] G 15 420 := by
  obtain ⟨hlen, hch⟩ := own_ts r0 r1 r2 hn
  rcases hn with ⟨rfl, rfl, -⟩ | ⟨rfl, rfl⟩ | ⟨rfl, rfl⟩ | ⟨rfl, rfl⟩
  · exact s298_0 K (o0 := 0) (o1 := 0) (o2 := 0) (o3 := 0) (k0 := 0) (k1 := 0) (k2 := 0) (k3 := 0) r0 r1 r2 hlen hch mS m_ mo mc_ (by simp only [pcs, sel0, sel1, fl_0_0, fl_0_1, fl_0_2, fl_1_0, fl_1_1, fl_1_2, fl_2_0, fl_2_1, fl_2_2, fl_3_0, fl_3_1, fl_3_2, escLs, List.append_assoc, List.nil_append, List.append_nil])
  · exact s298_0 K (o0 := 0) (o1 := 0) (o2 := 0) (o3 := 0) (k0 := 0) (k1 := 0) (k2 := 0) (k3 := 0) r0 r1 r2 hlen hch mS m_ mo mc_ (by simp only [pcs, sel0, sel1, fl_0_0, fl_0_1, fl_0_2, fl_1_0, fl_1_1, fl_1_2, fl_2_0, fl_2_1, fl_2_2, fl_3_0, fl_3_1, fl_3_2, escLs, List.append_assoc, List.nil_append, List.append_nil])
  · exact s298_0 K (o0 := 0) (o1 := 0) (o2 := 0) (o3 := 0) (k0 := 0) (k1 := 0) (k2 := 0) (k3 := 0) r0 r1 r2 hlen hch mS m_ mo mc_ (by simp only [pcs, sel0, sel1, fl_0_0, fl_0_1, fl_0_2, fl_1_0, fl_1_1, fl_1_2, fl_2_0, fl_2_1, fl_2_2, fl_3_0, fl_3_1, fl_3_2, escLs, List.append_assoc, List.nil_append, List.append_nil])
  · exact s298_0 K (o0 := 0) (o1 := 0) (o2 := 0) (o3 := 0) (k0 := 0) (k1 := 0) (k2 := 0) (k3 := 0) r0 r1 r2 hlen hch mS m_ mo mc_ (by simp only [pcs, sel0, sel1, fl_0_0, fl_0_1, fl_0_2, fl_1_0, fl_1_1, fl_1_2, fl_2_0, fl_2_1, fl_2_2, fl_3_0, fl_3_1, fl_3_2, escLs, List.append_assoc, List.nil_append, List.append_nil])
set_option maxRecDepth 65536 in
set_option maxHeartbeats 4000000 in
theorem j1 {A : Ax} (K : Wd A) {D : Dx} {a b : Int32} {v17 v18 : Int32} {l19 l20 : Slot} {x0 : Int64} {x1 x2 x3 x4 x5 c0 c1 c2 n m : Int32} {ar tx op cl : Addr} {o ed y0 : Addr} {mc : Int32} {ts : List Int32} (r0 : 0 ≤ c0.toInt ∧ c0.toInt < 65536) (r1 : 0 ≤ c1.toInt ∧ c1.toInt < 65536) (r2 : 0 ≤ c2.toInt ∧ c2.toInt < 65536) (hn : (n = nI 0 ∧ ts = [] ∧ m < 1) ∨ (n = nI 1 ∧ ts = [c0]) ∨ (n = nI 2 ∧ ts = [c0, c1]) ∨ (n = nI 3 ∧ ts = [c0, c1, c2])) {G : List Ent} (mS : StrR A G tx ts) (ha : 0 ≤ a.toInt ∧ a.toInt < n.toInt) (hb : a.toInt < b.toInt ∧ b.toInt ≤ n.toInt) (hm1 : ¬ m < 1) (m_ : (o, ob_2 A (.ref ed) (.int (1 : Int32)) (.int mc)) ∈ G) (mt : (ed, RarP A "java/lang/Object" "[Ljava/lang/Object;" [.ref y0, .null, .null, .null, .null, .null, .null, .null, .null, .null]) ∈ G) (m0 : (y0, ob_3 A (.int a) (.int b)) ∈ G) (mo : (op, ArrP A .boolean ([.int 0, .int 0, .int 0, .int 0].set a.toInt.toNat (.int 1))) ∈ G) (mc_ : (cl, ArrP A .boolean ([.int 0, .int 0, .int 0, .int 0].set b.toInt.toNat (.int 1))) ∈ G) : Go A B_law D (fun v _ _ => v = some (.int 1)) 298 [.val (.long x0), .second, .val (.int x1), .val (.int x2), .val (.int x3), .val (.int x4), .val (.int x5), .val (.int c0), .val (.int c1), .val (.int c2), .val (.int n), .val (.int m), .val (.ref ar), .val (.ref tx), .val (.ref op), .val (.ref cl), .val (.ref o), .val (.int v17), .val (.int v18), l19, l20] [] [] G 15 420 := by
  obtain ⟨hlen, hch⟩ := own_ts r0 r1 r2 hn
  have e0 : (nI 0).toInt = 0 := by decide
  have e1 : (nI 1).toInt = 1 := by decide
  have e2 : (nI 2).toInt = 2 := by decide
  have e3 : (nI 3).toInt = 3 := by decide
  rcases hn with ⟨rfl, rfl, hm⟩ | ⟨rfl, rfl⟩ | ⟨rfl, rfl⟩ | ⟨rfl, rfl⟩
  · omega
  · rcases own_four (a := a) ⟨by omega, by omega⟩ with rfl | rfl | rfl | rfl
    · rcases own_four (a := b) ⟨by omega, by omega⟩ with rfl | rfl | rfl | rfl
      · omega
      · exact s298_1 K (o0 := 1) (o1 := 0) (o2 := 0) (o3 := 0) (b0 := 0) (b1 := 1) (b2 := 0) (b3 := 0) (g0 := ([] : List Int32)) (k0 := ([c0] : List Int32)) (g1 := ([] : List Int32)) r0 r1 r2 rfl hlen hch rfl rfl mS m_ mt m0 mo mc_ (by simp only [pcs, sel0, sel1, fl_0_0, fl_0_1, fl_0_2, fl_1_0, fl_1_1, fl_1_2, fl_2_0, fl_2_1, fl_2_2, fl_3_0, fl_3_1, fl_3_2, escLs, List.append_assoc, List.nil_append, List.append_nil])
      · omega
      · omega
    · omega
    · omega
    · omega
  · rcases own_four (a := a) ⟨by omega, by omega⟩ with rfl | rfl | rfl | rfl
    · rcases own_four (a := b) ⟨by omega, by omega⟩ with rfl | rfl | rfl | rfl
      · omega
      · exact s298_1 K (o0 := 1) (o1 := 0) (o2 := 0) (o3 := 0) (b0 := 0) (b1 := 1) (b2 := 0) (b3 := 0) (g0 := ([] : List Int32)) (k0 := ([c0] : List Int32)) (g1 := ([c1] : List Int32)) r0 r1 r2 rfl hlen hch rfl rfl mS m_ mt m0 mo mc_ (by simp only [pcs, sel0, sel1, fl_0_0, fl_0_1, fl_0_2, fl_1_0, fl_1_1, fl_1_2, fl_2_0, fl_2_1, fl_2_2, fl_3_0, fl_3_1, fl_3_2, escLs, List.append_assoc, List.nil_append, List.append_nil])
      · exact s298_1 K (o0 := 1) (o1 := 0) (o2 := 0) (o3 := 0) (b0 := 0) (b1 := 0) (b2 := 1) (b3 := 0) (g0 := ([] : List Int32)) (k0 := ([c0, c1] : List Int32)) (g1 := ([] : List Int32)) r0 r1 r2 rfl hlen hch rfl rfl mS m_ mt m0 mo mc_ (by simp only [pcs, sel0, sel1, fl_0_0, fl_0_1, fl_0_2, fl_1_0, fl_1_1, fl_1_2, fl_2_0, fl_2_1, fl_2_2, fl_3_0, fl_3_1, fl_3_2, escLs, List.append_assoc, List.nil_append, List.append_nil])
      · omega
    · rcases own_four (a := b) ⟨by omega, by omega⟩ with rfl | rfl | rfl | rfl
      · omega
      · omega
      · exact s298_1 K (o0 := 0) (o1 := 1) (o2 := 0) (o3 := 0) (b0 := 0) (b1 := 0) (b2 := 1) (b3 := 0) (g0 := ([c0] : List Int32)) (k0 := ([c1] : List Int32)) (g1 := ([] : List Int32)) r0 r1 r2 rfl hlen hch rfl rfl mS m_ mt m0 mo mc_ (by simp only [pcs, sel0, sel1, fl_0_0, fl_0_1, fl_0_2, fl_1_0, fl_1_1, fl_1_2, fl_2_0, fl_2_1, fl_2_2, fl_3_0, fl_3_1, fl_3_2, escLs, List.append_assoc, List.nil_append, List.append_nil])
      · omega
    · omega
    · omega
  · rcases own_four (a := a) ⟨by omega, by omega⟩ with rfl | rfl | rfl | rfl
    · rcases own_four (a := b) ⟨by omega, by omega⟩ with rfl | rfl | rfl | rfl
      · omega
      · exact s298_1 K (o0 := 1) (o1 := 0) (o2 := 0) (o3 := 0) (b0 := 0) (b1 := 1) (b2 := 0) (b3 := 0) (g0 := ([] : List Int32)) (k0 := ([c0] : List Int32)) (g1 := ([c1, c2] : List Int32)) r0 r1 r2 rfl hlen hch rfl rfl mS m_ mt m0 mo mc_ (by simp only [pcs, sel0, sel1, fl_0_0, fl_0_1, fl_0_2, fl_1_0, fl_1_1, fl_1_2, fl_2_0, fl_2_1, fl_2_2, fl_3_0, fl_3_1, fl_3_2, escLs, List.append_assoc, List.nil_append, List.append_nil])
      · exact s298_1 K (o0 := 1) (o1 := 0) (o2 := 0) (o3 := 0) (b0 := 0) (b1 := 0) (b2 := 1) (b3 := 0) (g0 := ([] : List Int32)) (k0 := ([c0, c1] : List Int32)) (g1 := ([c2] : List Int32)) r0 r1 r2 rfl hlen hch rfl rfl mS m_ mt m0 mo mc_ (by simp only [pcs, sel0, sel1, fl_0_0, fl_0_1, fl_0_2, fl_1_0, fl_1_1, fl_1_2, fl_2_0, fl_2_1, fl_2_2, fl_3_0, fl_3_1, fl_3_2, escLs, List.append_assoc, List.nil_append, List.append_nil])
      · exact s298_1 K (o0 := 1) (o1 := 0) (o2 := 0) (o3 := 0) (b0 := 0) (b1 := 0) (b2 := 0) (b3 := 1) (g0 := ([] : List Int32)) (k0 := ([c0, c1, c2] : List Int32)) (g1 := ([] : List Int32)) r0 r1 r2 rfl hlen hch rfl rfl mS m_ mt m0 mo mc_ (by simp only [pcs, sel0, sel1, fl_0_0, fl_0_1, fl_0_2, fl_1_0, fl_1_1, fl_1_2, fl_2_0, fl_2_1, fl_2_2, fl_3_0, fl_3_1, fl_3_2, escLs, List.append_assoc, List.nil_append, List.append_nil])
    · rcases own_four (a := b) ⟨by omega, by omega⟩ with rfl | rfl | rfl | rfl
      · omega
      · omega
      · exact s298_1 K (o0 := 0) (o1 := 1) (o2 := 0) (o3 := 0) (b0 := 0) (b1 := 0) (b2 := 1) (b3 := 0) (g0 := ([c0] : List Int32)) (k0 := ([c1] : List Int32)) (g1 := ([c2] : List Int32)) r0 r1 r2 rfl hlen hch rfl rfl mS m_ mt m0 mo mc_ (by simp only [pcs, sel0, sel1, fl_0_0, fl_0_1, fl_0_2, fl_1_0, fl_1_1, fl_1_2, fl_2_0, fl_2_1, fl_2_2, fl_3_0, fl_3_1, fl_3_2, escLs, List.append_assoc, List.nil_append, List.append_nil])
      · exact s298_1 K (o0 := 0) (o1 := 1) (o2 := 0) (o3 := 0) (b0 := 0) (b1 := 0) (b2 := 0) (b3 := 1) (g0 := ([c0] : List Int32)) (k0 := ([c1, c2] : List Int32)) (g1 := ([] : List Int32)) r0 r1 r2 rfl hlen hch rfl rfl mS m_ mt m0 mo mc_ (by simp only [pcs, sel0, sel1, fl_0_0, fl_0_1, fl_0_2, fl_1_0, fl_1_1, fl_1_2, fl_2_0, fl_2_1, fl_2_2, fl_3_0, fl_3_1, fl_3_2, escLs, List.append_assoc, List.nil_append, List.append_nil])
    · rcases own_four (a := b) ⟨by omega, by omega⟩ with rfl | rfl | rfl | rfl
      · omega
      · omega
      · omega
      · exact s298_1 K (o0 := 0) (o1 := 0) (o2 := 1) (o3 := 0) (b0 := 0) (b1 := 0) (b2 := 0) (b3 := 1) (g0 := ([c0, c1] : List Int32)) (k0 := ([c2] : List Int32)) (g1 := ([] : List Int32)) r0 r1 r2 rfl hlen hch rfl rfl mS m_ mt m0 mo mc_ (by simp only [pcs, sel0, sel1, fl_0_0, fl_0_1, fl_0_2, fl_1_0, fl_1_1, fl_1_2, fl_2_0, fl_2_1, fl_2_2, fl_3_0, fl_3_1, fl_3_2, escLs, List.append_assoc, List.nil_append, List.append_nil])
    · omega
set_option maxRecDepth 65536 in
set_option maxHeartbeats 4000000 in
theorem j2 {A : Ax} (K : Wd A) {D : Dx} {a b c d : Int32} {v17 v18 : Int32} {l19 l20 : Slot} {x0 : Int64} {x1 x2 x3 x4 x5 c0 c1 c2 n m : Int32} {ar tx op cl : Addr} {o ed y0 y1 : Addr} {mc : Int32} {ts : List Int32} (r0 : 0 ≤ c0.toInt ∧ c0.toInt < 65536) (r1 : 0 ≤ c1.toInt ∧ c1.toInt < 65536) (r2 : 0 ≤ c2.toInt ∧ c2.toInt < 65536) (hn : (n = nI 0 ∧ ts = [] ∧ m < 1) ∨ (n = nI 1 ∧ ts = [c0]) ∨ (n = nI 2 ∧ ts = [c0, c1]) ∨ (n = nI 3 ∧ ts = [c0, c1, c2])) {G : List Ent} (mS : StrR A G tx ts) (ha : 0 ≤ a.toInt ∧ a.toInt < n.toInt) (hb : a.toInt < b.toInt ∧ b.toInt ≤ n.toInt) (hc : b.toInt ≤ c.toInt ∧ c.toInt < n.toInt) (hd : c.toInt < d.toInt ∧ d.toInt ≤ n.toInt) (hm1 : ¬ m < 1) (m_ : (o, ob_2 A (.ref ed) (.int (2 : Int32)) (.int mc)) ∈ G) (mt : (ed, RarP A "java/lang/Object" "[Ljava/lang/Object;" [.ref y0, .ref y1, .null, .null, .null, .null, .null, .null, .null, .null]) ∈ G) (m0 : (y0, ob_3 A (.int a) (.int b)) ∈ G) (m1 : (y1, ob_3 A (.int c) (.int d)) ∈ G) (mo : (op, ArrP A .boolean (([.int 0, .int 0, .int 0, .int 0].set a.toInt.toNat (.int 1)).set c.toInt.toNat (.int 1))) ∈ G) (mc_ : (cl, ArrP A .boolean (([.int 0, .int 0, .int 0, .int 0].set b.toInt.toNat (.int 1)).set d.toInt.toNat (.int 1))) ∈ G) : Go A B_law D (fun v _ _ => v = some (.int 1)) 298 [.val (.long x0), .second, .val (.int x1), .val (.int x2), .val (.int x3), .val (.int x4), .val (.int x5), .val (.int c0), .val (.int c1), .val (.int c2), .val (.int n), .val (.int m), .val (.ref ar), .val (.ref tx), .val (.ref op), .val (.ref cl), .val (.ref o), .val (.int v17), .val (.int v18), l19, l20] [] [] G 15 420 := by
  obtain ⟨hlen, hch⟩ := own_ts r0 r1 r2 hn
  have e0 : (nI 0).toInt = 0 := by decide
  have e1 : (nI 1).toInt = 1 := by decide
  have e2 : (nI 2).toInt = 2 := by decide
  have e3 : (nI 3).toInt = 3 := by decide
  rcases hn with ⟨rfl, rfl, hm⟩ | ⟨rfl, rfl⟩ | ⟨rfl, rfl⟩ | ⟨rfl, rfl⟩
  · omega
  · omega
  · rcases own_four (a := a) ⟨by omega, by omega⟩ with rfl | rfl | rfl | rfl
    · rcases own_four (a := b) ⟨by omega, by omega⟩ with rfl | rfl | rfl | rfl
      · omega
      · rcases own_four (a := c) ⟨by omega, by omega⟩ with rfl | rfl | rfl | rfl
        · omega
        · rcases own_four (a := d) ⟨by omega, by omega⟩ with rfl | rfl | rfl | rfl
          · omega
          · omega
          · exact s298_2 K (o0 := 1) (o1 := 1) (o2 := 0) (o3 := 0) (b0 := 0) (b1 := 1) (b2 := 1) (b3 := 0) (g0 := ([] : List Int32)) (k0 := ([c0] : List Int32)) (g1 := ([] : List Int32)) (k1 := ([c1] : List Int32)) (g2 := ([] : List Int32)) r0 r1 r2 rfl hlen hch rfl rfl rfl rfl mS m_ mt m0 m1 mo mc_ (by simp only [pcs, sel0, sel1, fl_0_0, fl_0_1, fl_0_2, fl_1_0, fl_1_1, fl_1_2, fl_2_0, fl_2_1, fl_2_2, fl_3_0, fl_3_1, fl_3_2, escLs, List.append_assoc, List.nil_append, List.append_nil])
          · omega
        · omega
        · omega
      · rcases own_four (a := c) ⟨by omega, by omega⟩ with rfl | rfl | rfl | rfl
        · omega
        · omega
        · omega
        · omega
      · omega
    · rcases own_four (a := b) ⟨by omega, by omega⟩ with rfl | rfl | rfl | rfl
      · omega
      · omega
      · rcases own_four (a := c) ⟨by omega, by omega⟩ with rfl | rfl | rfl | rfl
        · omega
        · omega
        · omega
        · omega
      · omega
    · omega
    · omega
  · rcases own_four (a := a) ⟨by omega, by omega⟩ with rfl | rfl | rfl | rfl
    · rcases own_four (a := b) ⟨by omega, by omega⟩ with rfl | rfl | rfl | rfl
      · omega
      · rcases own_four (a := c) ⟨by omega, by omega⟩ with rfl | rfl | rfl | rfl
        · omega
        · rcases own_four (a := d) ⟨by omega, by omega⟩ with rfl | rfl | rfl | rfl
          · omega
          · omega
          · exact s298_2 K (o0 := 1) (o1 := 1) (o2 := 0) (o3 := 0) (b0 := 0) (b1 := 1) (b2 := 1) (b3 := 0) (g0 := ([] : List Int32)) (k0 := ([c0] : List Int32)) (g1 := ([] : List Int32)) (k1 := ([c1] : List Int32)) (g2 := ([c2] : List Int32)) r0 r1 r2 rfl hlen hch rfl rfl rfl rfl mS m_ mt m0 m1 mo mc_ (by simp only [pcs, sel0, sel1, fl_0_0, fl_0_1, fl_0_2, fl_1_0, fl_1_1, fl_1_2, fl_2_0, fl_2_1, fl_2_2, fl_3_0, fl_3_1, fl_3_2, escLs, List.append_assoc, List.nil_append, List.append_nil])
          · exact s298_2 K (o0 := 1) (o1 := 1) (o2 := 0) (o3 := 0) (b0 := 0) (b1 := 1) (b2 := 0) (b3 := 1) (g0 := ([] : List Int32)) (k0 := ([c0] : List Int32)) (g1 := ([] : List Int32)) (k1 := ([c1, c2] : List Int32)) (g2 := ([] : List Int32)) r0 r1 r2 rfl hlen hch rfl rfl rfl rfl mS m_ mt m0 m1 mo mc_ (by simp only [pcs, sel0, sel1, fl_0_0, fl_0_1, fl_0_2, fl_1_0, fl_1_1, fl_1_2, fl_2_0, fl_2_1, fl_2_2, fl_3_0, fl_3_1, fl_3_2, escLs, List.append_assoc, List.nil_append, List.append_nil])
        · rcases own_four (a := d) ⟨by omega, by omega⟩ with rfl | rfl | rfl | rfl
          · omega
          · omega
          · omega
          · exact s298_2 K (o0 := 1) (o1 := 0) (o2 := 1) (o3 := 0) (b0 := 0) (b1 := 1) (b2 := 0) (b3 := 1) (g0 := ([] : List Int32)) (k0 := ([c0] : List Int32)) (g1 := ([c1] : List Int32)) (k1 := ([c2] : List Int32)) (g2 := ([] : List Int32)) r0 r1 r2 rfl hlen hch rfl rfl rfl rfl mS m_ mt m0 m1 mo mc_ (by simp only [pcs, sel0, sel1, fl_0_0, fl_0_1, fl_0_2, fl_1_0, fl_1_1, fl_1_2, fl_2_0, fl_2_1, fl_2_2, fl_3_0, fl_3_1, fl_3_2, escLs, List.append_assoc, List.nil_append, List.append_nil])
        · omega
      · rcases own_four (a := c) ⟨by omega, by omega⟩ with rfl | rfl | rfl | rfl
        · omega
        · omega
        · rcases own_four (a := d) ⟨by omega, by omega⟩ with rfl | rfl | rfl | rfl
          · omega
          · omega
          · omega
          · exact s298_2 K (o0 := 1) (o1 := 0) (o2 := 1) (o3 := 0) (b0 := 0) (b1 := 0) (b2 := 1) (b3 := 1) (g0 := ([] : List Int32)) (k0 := ([c0, c1] : List Int32)) (g1 := ([] : List Int32)) (k1 := ([c2] : List Int32)) (g2 := ([] : List Int32)) r0 r1 r2 rfl hlen hch rfl rfl rfl rfl mS m_ mt m0 m1 mo mc_ (by simp only [pcs, sel0, sel1, fl_0_0, fl_0_1, fl_0_2, fl_1_0, fl_1_1, fl_1_2, fl_2_0, fl_2_1, fl_2_2, fl_3_0, fl_3_1, fl_3_2, escLs, List.append_assoc, List.nil_append, List.append_nil])
        · omega
      · rcases own_four (a := c) ⟨by omega, by omega⟩ with rfl | rfl | rfl | rfl
        · omega
        · omega
        · omega
        · omega
    · rcases own_four (a := b) ⟨by omega, by omega⟩ with rfl | rfl | rfl | rfl
      · omega
      · omega
      · rcases own_four (a := c) ⟨by omega, by omega⟩ with rfl | rfl | rfl | rfl
        · omega
        · omega
        · rcases own_four (a := d) ⟨by omega, by omega⟩ with rfl | rfl | rfl | rfl
          · omega
          · omega
          · omega
          · exact s298_2 K (o0 := 0) (o1 := 1) (o2 := 1) (o3 := 0) (b0 := 0) (b1 := 0) (b2 := 1) (b3 := 1) (g0 := ([c0] : List Int32)) (k0 := ([c1] : List Int32)) (g1 := ([] : List Int32)) (k1 := ([c2] : List Int32)) (g2 := ([] : List Int32)) r0 r1 r2 rfl hlen hch rfl rfl rfl rfl mS m_ mt m0 m1 mo mc_ (by simp only [pcs, sel0, sel1, fl_0_0, fl_0_1, fl_0_2, fl_1_0, fl_1_1, fl_1_2, fl_2_0, fl_2_1, fl_2_2, fl_3_0, fl_3_1, fl_3_2, escLs, List.append_assoc, List.nil_append, List.append_nil])
        · omega
      · rcases own_four (a := c) ⟨by omega, by omega⟩ with rfl | rfl | rfl | rfl
        · omega
        · omega
        · omega
        · omega
    · rcases own_four (a := b) ⟨by omega, by omega⟩ with rfl | rfl | rfl | rfl
      · omega
      · omega
      · omega
      · rcases own_four (a := c) ⟨by omega, by omega⟩ with rfl | rfl | rfl | rfl
        · omega
        · omega
        · omega
        · omega
    · omega
--CUT
set_option maxRecDepth 65536 in
set_option maxHeartbeats 4000000 in
theorem s160 {A : Ax} (K : Wd A) {D : Dx} {x0 : Int64} {x1 x2 x3 x4 x5 c0 c1 c2 n m : Int32} {ar tx op cl : Addr} {de o : Addr} {ts : List Int32} (S : Ens A de) (r0 : 0 ≤ c0.toInt ∧ c0.toInt < 65536) (r1 : 0 ≤ c1.toInt ∧ c1.toInt < 65536) (r2 : 0 ≤ c2.toInt ∧ c2.toInt < 65536) (hn : (n = nI 0 ∧ ts = [] ∧ m < 1) ∨ (n = nI 1 ∧ ts = [c0]) ∨ (n = nI 2 ∧ ts = [c0, c1]) ∨ (n = nI 3 ∧ ts = [c0, c1, c2])) {G : List Ent} (hG : ∀ q ∈ G0 A de, q ∈ G) (hS : StrR A G tx ts) : Go A B_law D (fun v _ _ => v = some (.int 1)) 160 [.val (.long x0), .second, .val (.int x1), .val (.int x2), .val (.int x3), .val (.int x4), .val (.int x5), .val (.int c0), .val (.int c1), .val (.int c2), .val (.int n), .val (.int m), .val (.ref ar), .val (.ref tx), .val (.ref op), .val (.ref cl), .val (.ref o), .unset, .unset, .unset, .unset] [] [(o, ob_2 A (.ref de) (.int (0 : Int32)) (.int (0 : Int32))), (cl, ArrP A .boolean [.int 0, .int 0, .int 0, .int 0]), (op, ArrP A .boolean [.int 0, .int 0, .int 0, .int 0])] G 9 210 := by
  have z0 : (0 : Int32).toInt = 0 := rfl
  have z1 : (1 : Int32).toInt = 1 := rfl
  refine Go.rn (B := B_law) td_law 95 2 (pc' := 163) (S' := [.int (1 : Int32), .int m]) rfl ?_
  refine Go.icmp (B := B_law) td_law 97 (pc' := 298) rfl (by decide) rfl ?_ ?_
  · intro (hm1 : m < (1 : Int32))
    refine Go.freeze ?_
    refine Go.freeze ?_
    refine Go.freeze ?_
    refine Go.mono (cells' := 15) (slots' := 420) (by decide) (by decide) ?_
    exact j0 K r0 r1 r2 hn (hS.sub (fun _ h => .tail _ (.tail _ (.tail _ (h))))) (mi 2 rfl) (mi 0 rfl) (mi 1 rfl)
  · intro (hm1 : ¬ (m < (1 : Int32)))
    have hnr : 1 ≤ n.toInt ∧ n.toInt ≤ 3 := by
      rcases hn with ⟨-, -, h⟩ | ⟨rfl, -⟩ | ⟨rfl, -⟩ | ⟨rfl, -⟩
      · exact absurd h hm1
      · decide
      · decide
      · decide
    refine Go.rn (B := B_law) td_law 98 1 (pc' := 167) (S' := [.int x2]) rfl ?_
    refine Go.ldcI (B := B_law) td_law 99 rfl (w_282 K) ?_
    refine Go.rn (B := B_law) td_law 100 2 (pc' := 172) (S' := [.int n, .int (x2 &&& (2147483647 : Int32))]) rfl ?_
    refine Go.irem (B := B_law) td_law 102 rfl (fun z => by have := congrArg Int32.toInt z; omega) ?_
    obtain ⟨a, hva⟩ : ∃ z, z = ((x2 &&& (2147483647 : Int32)) % n) := ⟨_, rfl⟩
    have qa := c_and x2 (2147483647 : Int32) (by decide)
    have ha := (c_iremV (x2 &&& (2147483647 : Int32)) n).1 qa.1 (by omega)
    rw [← hva] at ha
    rw [← hva]
    refine Go.run (B := B_law) td_law 103 5 (pc' := 181) (L' := [.val (.long x0), .second, .val (.int x1), .val (.int x2), .val (.int x3), .val (.int x4), .val (.int x5), .val (.int c0), .val (.int c1), .val (.int c2), .val (.int n), .val (.int m), .val (.ref ar), .val (.ref tx), .val (.ref op), .val (.ref cl), .val (.ref o), .val (.int a), .unset, .unset, .unset]) (S' := [.int x3, .int (a + (1 : Int32))]) rfl ?_
    refine Go.ldcI (B := B_law) td_law 108 rfl (w_282 K) ?_
    refine Go.rn (B := B_law) td_law 109 4 (pc' := 189) (S' := [.int (n - a), .int (x3 &&& (2147483647 : Int32)), .int (a + (1 : Int32))]) rfl ?_
    have ha1 := c_isub n a
    have ha2 := rng32 (n - a)
    refine Go.irem (B := B_law) td_law 113 rfl (fun z => by have := congrArg Int32.toInt z; omega) ?_
    obtain ⟨u, hvu⟩ : ∃ z, z = ((x3 &&& (2147483647 : Int32)) % (n - a)) := ⟨_, rfl⟩
    have qu := c_and x3 (2147483647 : Int32) (by decide)
    have hu := (c_iremV (x3 &&& (2147483647 : Int32)) (n - a)).1 qu.1 (by omega)
    rw [← hvu] at hu
    rw [← hvu]
    refine Go.rn (B := B_law) td_law 114 1 (pc' := 191) (S' := [.int ((a + (1 : Int32)) + u)]) rfl ?_
    obtain ⟨b, hvb⟩ : ∃ z, z = ((a + (1 : Int32)) + u) := ⟨_, rfl⟩
    have hb1 := c_iadd a (1 : Int32)
    have hb2 := rng32 (a + (1 : Int32))
    have hb3 := c_iadd (a + (1 : Int32)) u
    have hb4 := rng32 ((a + (1 : Int32)) + u)
    rw [← hvb] at hb3 hb4
    rw [← hvb]
    refine Go.run (B := B_law) td_law 115 2 (pc' := 195) (L' := [.val (.long x0), .second, .val (.int x1), .val (.int x2), .val (.int x3), .val (.int x4), .val (.int x5), .val (.int c0), .val (.int c1), .val (.int c2), .val (.int n), .val (.int m), .val (.ref ar), .val (.ref tx), .val (.ref op), .val (.ref cl), .val (.ref o), .val (.int a), .val (.int b), .unset, .unset]) (S' := [.ref o]) rfl ?_
    have hA : 0 ≤ a.toInt ∧ a.toInt < n.toInt := ⟨by omega, by omega⟩
    have hB : a.toInt < b.toInt ∧ b.toInt ≤ n.toInt := ⟨by omega, by omega⟩
    refine Go.new (B := B_law) td_law 117 (fs := [("com/example/attentive_search/attentivesearch/Highlight$Mark", "start", "I", .int (0 : Int32)), ("com/example/attentive_search/attentivesearch/Highlight$Mark", "end", "I", .int (0 : Int32))]) rfl (w_283 K) (w_284 K) (w_285 K) (own_layS (Or.inr (w_296 K)) rfl rfl (own_layS (Or.inr (w_298 K)) rfl rfl own_lay0)) (by decide) (by decide) ?_
    intro y0
    show Go A B_law D _ 198 _ [.ref y0, .ref o] _ _ 10 212
    refine Go.rn (B := B_law) td_law 118 3 (pc' := 203) (S' := [.int b, .int a, .ref y0, .ref y0, .ref o]) rfl ?_
    refine Go.callN (B := B_law) td_law 121 (B' := B_mki) (a := y0) (argsL := [.int a, .int b]) (rest := [.ref y0, .ref o]) (W := 2) rfl (mki_met K) rfl rfl (w_286 K) (w_287 K) (w_285 K) (w_288 K) (by decide) pd_mki rfl rfl rfl rfl (Nat.le_of_eq rfl) (by decide) (by decide) (by decide) (by decide) ?_
    rintro _ _ _ ⟨rfl, rfl, rfl⟩
    show Go A B_law D _ 206 _ [.ref y0, .ref o] [(y0, ob_3 A (.int a) (.int b)), (o, ob_2 A (.ref de) (.int (0 : Int32)) (.int (0 : Int32))), (cl, ArrP A .boolean [.int 0, .int 0, .int 0, .int 0]), (op, ArrP A .boolean [.int 0, .int 0, .int 0, .int 0])] _ 10 212
    refine Go.front 1 (F' := [(o, ob_2 A (.ref de) (.int (0 : Int32)) (.int (0 : Int32))), (y0, ob_3 A (.int a) (.int b)), (cl, ArrP A .boolean [.int 0, .int 0, .int 0, .int 0]), (op, ArrP A .boolean [.int 0, .int 0, .int 0, .int 0])]) rfl rfl ?_
    refine Go.callV (B := B_law) td_law 122 (B' := B_add) (C := "java/util/ArrayList") (a := o) (argsL := [.ref y0]) (rest := []) (W := 0) rfl (add0_met K S hG (Or.inl (mi 0 rfl))) (Or.inl (mi 0 rfl)) (fun c P => P.1) (w_299 K) (w_300 K) (w_301 K) (w_302 K) (w_302 K) (w_38 K) (w_303 K) (by decide) pd_add rfl rfl rfl rfl (Nat.le_of_eq rfl) (by decide) (by decide) (by decide) (by decide) ?_
    rintro _ _ _ ⟨rfl, ⟨t, rfl⟩, rfl⟩
    show Go A B_law D _ 209 _ [.int (1 : Int32)] [(o, ob_2 A (.ref t) (.int (1 : Int32)) (.int ((0 : Int32) + (1 : Int32)))), (t, RarP A "java/lang/Object" "[Ljava/lang/Object;" [.ref y0, .null, .null, .null, .null, .null, .null, .null, .null, .null]), (y0, ob_3 A (.int a) (.int b)), (cl, ArrP A .boolean [.int 0, .int 0, .int 0, .int 0]), (op, ArrP A .boolean [.int 0, .int 0, .int 0, .int 0])] _ 11 222
    refine Go.rn (B := B_law) td_law 123 4 (pc' := 215) (S' := [.int (1 : Int32), .int a, .ref op]) rfl ?_
    refine Go.front 4 (F' := [(op, ArrP A .boolean [.int 0, .int 0, .int 0, .int 0]), (o, ob_2 A (.ref t) (.int (1 : Int32)) (.int ((0 : Int32) + (1 : Int32)))), (t, RarP A "java/lang/Object" "[Ljava/lang/Object;" [.ref y0, .null, .null, .null, .null, .null, .null, .null, .null, .null]), (y0, ob_3 A (.int a) (.int b)), (cl, ArrP A .boolean [.int 0, .int 0, .int 0, .int 0])]) rfl rfl ?_
    refine Go.zastore (B := B_law) td_law 127 (vs' := ([.int 0, .int 0, .int 0, .int 0].set a.toInt.toNat (.int 1))) rfl (own_inB 4 rfl ⟨by omega, by omega⟩) rfl ?_
    refine Go.rn (B := B_law) td_law 128 3 (pc' := 221) (S' := [.int (1 : Int32), .int b, .ref cl]) rfl ?_
    refine Go.front 4 (F' := [(cl, ArrP A .boolean [.int 0, .int 0, .int 0, .int 0]), (op, ArrP A .boolean ([.int 0, .int 0, .int 0, .int 0].set a.toInt.toNat (.int 1))), (o, ob_2 A (.ref t) (.int (1 : Int32)) (.int ((0 : Int32) + (1 : Int32)))), (t, RarP A "java/lang/Object" "[Ljava/lang/Object;" [.ref y0, .null, .null, .null, .null, .null, .null, .null, .null, .null]), (y0, ob_3 A (.int a) (.int b))]) rfl rfl ?_
    refine Go.zastore (B := B_law) td_law 131 (vs' := ([.int 0, .int 0, .int 0, .int 0].set b.toInt.toNat (.int 1))) rfl (own_inB 4 rfl ⟨by omega, by omega⟩) rfl ?_
    refine Go.rn (B := B_law) td_law 132 2 (pc' := 225) (S' := [.int (2 : Int32), .int m]) rfl ?_
    refine Go.icmp (B := B_law) td_law 134 (pc' := 298) rfl (by decide) rfl ?_ ?_
    · intro (h2 : m ≠ (2 : Int32))
      refine Go.freeze ?_
      refine Go.freeze ?_
      refine Go.freeze ?_
      refine Go.freeze ?_
      refine Go.freeze ?_
      refine Go.mono (cells' := 15) (slots' := 420) (by decide) (by decide) ?_
      exact j1 K r0 r1 r2 hn (hS.sub (fun _ h => .tail _ (.tail _ (.tail _ (.tail _ (.tail _ (h))))))) hA hB hm1 (mi 2 rfl) (mi 1 rfl) (mi 0 rfl) (mi 3 rfl) (mi 4 rfl)
    · intro (h2 : ¬ (m ≠ (2 : Int32)))
      refine Go.rn (B := B_law) td_law 135 2 (pc' := 232) (S' := [.int n, .int b]) rfl ?_
      refine Go.icmp (B := B_law) td_law 137 (pc' := 298) rfl (by decide) rfl ?_ ?_
      · intro (h3 : b ≥ n)
        refine Go.freeze ?_
        refine Go.freeze ?_
        refine Go.freeze ?_
        refine Go.freeze ?_
        refine Go.freeze ?_
        refine Go.mono (cells' := 15) (slots' := 420) (by decide) (by decide) ?_
        exact j1 K r0 r1 r2 hn (hS.sub (fun _ h => .tail _ (.tail _ (.tail _ (.tail _ (.tail _ (h))))))) hA hB hm1 (mi 2 rfl) (mi 1 rfl) (mi 0 rfl) (mi 3 rfl) (mi 4 rfl)
      · intro (h3 : ¬ (b ≥ n))
        have hbn : b.toInt < n.toInt := by have q : ¬ n.toInt ≤ b.toInt := fun z => h3 (i32_le.mpr z); omega
        refine Go.rn (B := B_law) td_law 138 2 (pc' := 239) (S' := [.int x4, .int b]) rfl ?_
        refine Go.ldcI (B := B_law) td_law 140 rfl (w_282 K) ?_
        refine Go.rn (B := B_law) td_law 141 4 (pc' := 247) (S' := [.int (n - b), .int (x4 &&& (2147483647 : Int32)), .int b]) rfl ?_
        have hc1 := c_isub n b
        have hc2 := rng32 (n - b)
        refine Go.irem (B := B_law) td_law 145 rfl (fun z => by have := congrArg Int32.toInt z; omega) ?_
        obtain ⟨v, hvv⟩ : ∃ z, z = ((x4 &&& (2147483647 : Int32)) % (n - b)) := ⟨_, rfl⟩
        have qv := c_and x4 (2147483647 : Int32) (by decide)
        have hv := (c_iremV (x4 &&& (2147483647 : Int32)) (n - b)).1 qv.1 (by omega)
        rw [← hvv] at hv
        rw [← hvv]
        refine Go.rn (B := B_law) td_law 146 1 (pc' := 249) (S' := [.int (b + v)]) rfl ?_
        obtain ⟨c, hvc⟩ : ∃ z, z = (b + v) := ⟨_, rfl⟩
        have hc3 := c_iadd b v
        have hc4 := rng32 (b + v)
        rw [← hvc] at hc3 hc4
        rw [← hvc]
        refine Go.run (B := B_law) td_law 147 5 (pc' := 257) (L' := [.val (.long x0), .second, .val (.int x1), .val (.int x2), .val (.int x3), .val (.int x4), .val (.int x5), .val (.int c0), .val (.int c1), .val (.int c2), .val (.int n), .val (.int m), .val (.ref ar), .val (.ref tx), .val (.ref op), .val (.ref cl), .val (.ref o), .val (.int a), .val (.int b), .val (.int c), .unset]) (S' := [.int x5, .int (c + (1 : Int32))]) rfl ?_
        refine Go.ldcI (B := B_law) td_law 152 rfl (w_282 K) ?_
        refine Go.rn (B := B_law) td_law 153 4 (pc' := 265) (S' := [.int (n - c), .int (x5 &&& (2147483647 : Int32)), .int (c + (1 : Int32))]) rfl ?_
        have hd1 := c_isub n c
        have hd2 := rng32 (n - c)
        refine Go.irem (B := B_law) td_law 157 rfl (fun z => by have := congrArg Int32.toInt z; omega) ?_
        obtain ⟨r, hvr⟩ : ∃ z, z = ((x5 &&& (2147483647 : Int32)) % (n - c)) := ⟨_, rfl⟩
        have qr := c_and x5 (2147483647 : Int32) (by decide)
        have hr := (c_iremV (x5 &&& (2147483647 : Int32)) (n - c)).1 qr.1 (by omega)
        rw [← hvr] at hr
        rw [← hvr]
        refine Go.rn (B := B_law) td_law 158 1 (pc' := 267) (S' := [.int ((c + (1 : Int32)) + r)]) rfl ?_
        obtain ⟨d, hvd⟩ : ∃ z, z = ((c + (1 : Int32)) + r) := ⟨_, rfl⟩
        have hd3 := c_iadd c (1 : Int32)
        have hd4 := rng32 (c + (1 : Int32))
        have hd5 := c_iadd (c + (1 : Int32)) r
        have hd6 := rng32 ((c + (1 : Int32)) + r)
        rw [← hvd] at hd5 hd6
        rw [← hvd]
        refine Go.run (B := B_law) td_law 159 2 (pc' := 271) (L' := [.val (.long x0), .second, .val (.int x1), .val (.int x2), .val (.int x3), .val (.int x4), .val (.int x5), .val (.int c0), .val (.int c1), .val (.int c2), .val (.int n), .val (.int m), .val (.ref ar), .val (.ref tx), .val (.ref op), .val (.ref cl), .val (.ref o), .val (.int a), .val (.int b), .val (.int c), .val (.int d)]) (S' := [.ref o]) rfl ?_
        have hC : b.toInt ≤ c.toInt ∧ c.toInt < n.toInt := ⟨by omega, by omega⟩
        have hD : c.toInt < d.toInt ∧ d.toInt ≤ n.toInt := ⟨by omega, by omega⟩
        refine Go.new (B := B_law) td_law 161 (fs := [("com/example/attentive_search/attentivesearch/Highlight$Mark", "start", "I", .int (0 : Int32)), ("com/example/attentive_search/attentivesearch/Highlight$Mark", "end", "I", .int (0 : Int32))]) rfl (w_283 K) (w_284 K) (w_285 K) (own_layS (Or.inr (w_296 K)) rfl rfl (own_layS (Or.inr (w_298 K)) rfl rfl own_lay0)) (by decide) (by decide) ?_
        intro y1
        show Go A B_law D _ 274 _ [.ref y1, .ref o] _ _ 12 224
        refine Go.rn (B := B_law) td_law 162 3 (pc' := 279) (S' := [.int d, .int c, .ref y1, .ref y1, .ref o]) rfl ?_
        refine Go.callN (B := B_law) td_law 165 (B' := B_mki) (a := y1) (argsL := [.int c, .int d]) (rest := [.ref y1, .ref o]) (W := 2) rfl (mki_met K) rfl rfl (w_286 K) (w_287 K) (w_285 K) (w_288 K) (by decide) pd_mki rfl rfl rfl rfl (Nat.le_of_eq rfl) (by decide) (by decide) (by decide) (by decide) ?_
        rintro _ _ _ ⟨rfl, rfl, rfl⟩
        show Go A B_law D _ 282 _ [.ref y1, .ref o] [(y1, ob_3 A (.int c) (.int d)), (cl, ArrP A .boolean ([.int 0, .int 0, .int 0, .int 0].set b.toInt.toNat (.int 1))), (op, ArrP A .boolean ([.int 0, .int 0, .int 0, .int 0].set a.toInt.toNat (.int 1))), (o, ob_2 A (.ref t) (.int (1 : Int32)) (.int ((0 : Int32) + (1 : Int32)))), (t, RarP A "java/lang/Object" "[Ljava/lang/Object;" [.ref y0, .null, .null, .null, .null, .null, .null, .null, .null, .null]), (y0, ob_3 A (.int a) (.int b))] _ 12 224
        refine Go.front 3 (F' := [(o, ob_2 A (.ref t) (.int (1 : Int32)) (.int ((0 : Int32) + (1 : Int32)))), (y1, ob_3 A (.int c) (.int d)), (cl, ArrP A .boolean ([.int 0, .int 0, .int 0, .int 0].set b.toInt.toNat (.int 1))), (op, ArrP A .boolean ([.int 0, .int 0, .int 0, .int 0].set a.toInt.toNat (.int 1))), (t, RarP A "java/lang/Object" "[Ljava/lang/Object;" [.ref y0, .null, .null, .null, .null, .null, .null, .null, .null, .null]), (y0, ob_3 A (.int a) (.int b))]) rfl rfl ?_
        refine Go.front 4 (F' := [(t, RarP A "java/lang/Object" "[Ljava/lang/Object;" [.ref y0, .null, .null, .null, .null, .null, .null, .null, .null, .null]), (o, ob_2 A (.ref t) (.int (1 : Int32)) (.int ((0 : Int32) + (1 : Int32)))), (y1, ob_3 A (.int c) (.int d)), (cl, ArrP A .boolean ([.int 0, .int 0, .int 0, .int 0].set b.toInt.toNat (.int 1))), (op, ArrP A .boolean ([.int 0, .int 0, .int 0, .int 0].set a.toInt.toNat (.int 1))), (y0, ob_3 A (.int a) (.int b))]) rfl rfl ?_
        refine Go.front 1 (F' := [(o, ob_2 A (.ref t) (.int (1 : Int32)) (.int ((0 : Int32) + (1 : Int32)))), (t, RarP A "java/lang/Object" "[Ljava/lang/Object;" [.ref y0, .null, .null, .null, .null, .null, .null, .null, .null, .null]), (y1, ob_3 A (.int c) (.int d)), (cl, ArrP A .boolean ([.int 0, .int 0, .int 0, .int 0].set b.toInt.toNat (.int 1))), (op, ArrP A .boolean ([.int 0, .int 0, .int 0, .int 0].set a.toInt.toNat (.int 1))), (y0, ob_3 A (.int a) (.int b))]) rfl rfl ?_
        refine Go.callV (B := B_law) td_law 166 (B' := B_add) (C := "java/util/ArrayList") (a := o) (argsL := [.ref y1]) (rest := []) (W := 0) rfl (add1_met K (Or.inl (mi 0 rfl))) (Or.inl (mi 0 rfl)) (fun c P => P.1) (w_299 K) (w_300 K) (w_301 K) (w_302 K) (w_302 K) (w_38 K) (w_303 K) (by decide) pd_add rfl rfl rfl rfl (Nat.le_of_eq rfl) (by decide) (by decide) (by decide) (by decide) ?_
        rintro _ _ _ ⟨rfl, rfl, rfl⟩
        show Go A B_law D _ 285 _ [.int (1 : Int32)] [(o, ob_2 A (.ref t) (.int (2 : Int32)) (.int ((0 : Int32) + (1 : Int32) + (1 : Int32)))), (t, RarP A "java/lang/Object" "[Ljava/lang/Object;" [.ref y0, .ref y1, .null, .null, .null, .null, .null, .null, .null, .null]), (y1, ob_3 A (.int c) (.int d)), (cl, ArrP A .boolean ([.int 0, .int 0, .int 0, .int 0].set b.toInt.toNat (.int 1))), (op, ArrP A .boolean ([.int 0, .int 0, .int 0, .int 0].set a.toInt.toNat (.int 1))), (y0, ob_3 A (.int a) (.int b))] _ 13 234
        refine Go.rn (B := B_law) td_law 167 4 (pc' := 291) (S' := [.int (1 : Int32), .int c, .ref op]) rfl ?_
        refine Go.front 4 (F' := [(op, ArrP A .boolean ([.int 0, .int 0, .int 0, .int 0].set a.toInt.toNat (.int 1))), (o, ob_2 A (.ref t) (.int (2 : Int32)) (.int ((0 : Int32) + (1 : Int32) + (1 : Int32)))), (t, RarP A "java/lang/Object" "[Ljava/lang/Object;" [.ref y0, .ref y1, .null, .null, .null, .null, .null, .null, .null, .null]), (y1, ob_3 A (.int c) (.int d)), (cl, ArrP A .boolean ([.int 0, .int 0, .int 0, .int 0].set b.toInt.toNat (.int 1))), (y0, ob_3 A (.int a) (.int b))]) rfl rfl ?_
        refine Go.zastore (B := B_law) td_law 171 (vs' := (([.int 0, .int 0, .int 0, .int 0].set a.toInt.toNat (.int 1)).set c.toInt.toNat (.int 1))) rfl (own_inB 4 (by rw [List.length_set]; rfl) ⟨by omega, by omega⟩) rfl ?_
        refine Go.rn (B := B_law) td_law 172 3 (pc' := 297) (S' := [.int (1 : Int32), .int d, .ref cl]) rfl ?_
        refine Go.front 4 (F' := [(cl, ArrP A .boolean ([.int 0, .int 0, .int 0, .int 0].set b.toInt.toNat (.int 1))), (op, ArrP A .boolean (([.int 0, .int 0, .int 0, .int 0].set a.toInt.toNat (.int 1)).set c.toInt.toNat (.int 1))), (o, ob_2 A (.ref t) (.int (2 : Int32)) (.int ((0 : Int32) + (1 : Int32) + (1 : Int32)))), (t, RarP A "java/lang/Object" "[Ljava/lang/Object;" [.ref y0, .ref y1, .null, .null, .null, .null, .null, .null, .null, .null]), (y1, ob_3 A (.int c) (.int d)), (y0, ob_3 A (.int a) (.int b))]) rfl rfl ?_
        refine Go.zastore (B := B_law) td_law 175 (vs' := (([.int 0, .int 0, .int 0, .int 0].set b.toInt.toNat (.int 1)).set d.toInt.toNat (.int 1))) rfl (own_inB 4 (by rw [List.length_set]; rfl) ⟨by omega, by omega⟩) rfl ?_
        refine Go.freeze ?_
        refine Go.freeze ?_
        refine Go.freeze ?_
        refine Go.freeze ?_
        refine Go.freeze ?_
        refine Go.freeze ?_
        refine Go.mono (cells' := 15) (slots' := 420) (by decide) (by decide) ?_
        exact j2 K r0 r1 r2 hn (hS.sub (fun _ h => .tail _ (.tail _ (.tail _ (.tail _ (.tail _ (.tail _ (h)))))))) hA hB hC hD hm1 (mi 3 rfl) (mi 2 rfl) (mi 0 rfl) (mi 1 rfl) (mi 4 rfl) (mi 5 rfl)
set_option maxRecDepth 65536 in
set_option maxHeartbeats 4000000 in
theorem s141 {A : Ax} (K : Wd A) {D : Dx} {x0 : Int64} {x1 x2 x3 x4 x5 c0 c1 c2 n m : Int32} {ar tx : Addr} {de : Addr} {ts : List Int32} (S : Ens A de) (r0 : 0 ≤ c0.toInt ∧ c0.toInt < 65536) (r1 : 0 ≤ c1.toInt ∧ c1.toInt < 65536) (r2 : 0 ≤ c2.toInt ∧ c2.toInt < 65536) (hn : (n = nI 0 ∧ ts = [] ∧ m < 1) ∨ (n = nI 1 ∧ ts = [c0]) ∨ (n = nI 2 ∧ ts = [c0, c1]) ∨ (n = nI 3 ∧ ts = [c0, c1, c2])) {G : List Ent} (hG : ∀ q ∈ G0 A de, q ∈ G) (hS : StrR A G tx ts) : Go A B_law D (fun v _ _ => v = some (.int 1)) 141 [.val (.long x0), .second, .val (.int x1), .val (.int x2), .val (.int x3), .val (.int x4), .val (.int x5), .val (.int c0), .val (.int c1), .val (.int c2), .val (.int n), .val (.int m), .val (.ref ar), .val (.ref tx), .unset, .unset, .unset, .unset, .unset, .unset, .unset] [] [] G 6 199 := by
  refine Go.rn (B := B_law) td_law 85 1 (pc' := 142) (S' := [.int (4 : Int32)]) rfl ?_
  refine Go.newarray (B := B_law) td_law 86 (ty := .boolean) (cap := 4) (vs := [.int 0, .int 0, .int 0, .int 0]) rfl rfl (w_35 K) (by decide) (by decide) (by decide) (by decide) (by decide) rfl ?_
  intro op
  show Go A B_law D _ 144 _ [.ref op] _ _ 7 203
  refine Go.run (B := B_law) td_law 87 2 (pc' := 147) (L' := [.val (.long x0), .second, .val (.int x1), .val (.int x2), .val (.int x3), .val (.int x4), .val (.int x5), .val (.int c0), .val (.int c1), .val (.int c2), .val (.int n), .val (.int m), .val (.ref ar), .val (.ref tx), .val (.ref op), .unset, .unset, .unset, .unset, .unset, .unset]) (S' := [.int (4 : Int32)]) rfl ?_
  refine Go.newarray (B := B_law) td_law 89 (ty := .boolean) (cap := 4) (vs := [.int 0, .int 0, .int 0, .int 0]) rfl rfl (w_35 K) (by decide) (by decide) (by decide) (by decide) (by decide) rfl ?_
  intro cl
  show Go A B_law D _ 149 _ [.ref cl] _ _ 8 207
  refine Go.run (B := B_law) td_law 90 1 (pc' := 151) (L' := [.val (.long x0), .second, .val (.int x1), .val (.int x2), .val (.int x3), .val (.int x4), .val (.int x5), .val (.int c0), .val (.int c1), .val (.int c2), .val (.int n), .val (.int m), .val (.ref ar), .val (.ref tx), .val (.ref op), .val (.ref cl), .unset, .unset, .unset, .unset, .unset]) (S' := []) rfl ?_
  refine Go.new (B := B_law) td_law 91 (fs := [("java/util/ArrayList", "elementData", "[Ljava/lang/Object;", .null), ("java/util/ArrayList", "size", "I", .int (0 : Int32)), ("java/util/AbstractList", "modCount", "I", .int (0 : Int32))]) rfl (w_36 K) (w_37 K) (w_38 K) (own_layS (Or.inl (w_59 K)) rfl rfl (own_layS (Or.inl (w_87 K)) rfl rfl (own_layS (Or.inl (w_56 K)) rfl rfl own_lay0))) (by decide) (by decide) ?_
  intro o
  show Go A B_law D _ 154 _ [.ref o] _ _ 9 210
  refine Go.rn (B := B_law) td_law 92 1 (pc' := 155) (S' := [.ref o, .ref o]) rfl ?_
  refine Go.callN (B := B_law) td_law 93 (B' := B_ali) (a := o) (argsL := []) (rest := [.ref o]) (W := 1) rfl (ali_met K S) rfl rfl (w_39 K) (w_40 K) (w_38 K) (w_41 K) (by decide) pd_ali rfl rfl rfl rfl (Nat.le_of_eq rfl) (by decide) (by decide) (by decide) (by decide) ?_
  rintro _ _ _ ⟨rfl, rfl, rfl⟩
  show Go A B_law D _ 158 _ [.ref o] [(o, ob_2 A (.ref de) (.int (0 : Int32)) (.int (0 : Int32))), (cl, ArrP A .boolean [.int 0, .int 0, .int 0, .int 0]), (op, ArrP A .boolean [.int 0, .int 0, .int 0, .int 0])] _ 9 210
  refine Go.run (B := B_law) td_law 94 1 (pc' := 160) (L' := [.val (.long x0), .second, .val (.int x1), .val (.int x2), .val (.int x3), .val (.int x4), .val (.int x5), .val (.int c0), .val (.int c1), .val (.int c2), .val (.int n), .val (.int m), .val (.ref ar), .val (.ref tx), .val (.ref op), .val (.ref cl), .val (.ref o), .unset, .unset, .unset, .unset]) (S' := []) rfl ?_
  refine Go.mono (cells' := 9) (slots' := 210) (by decide) (by decide) ?_
  exact s160 K S r0 r1 r2 hn hG hS
theorem and3 (x : Int32) : x &&& 3 = nI 0 ∨ x &&& 3 = nI 1 ∨ x &&& 3 = nI 2 ∨ x &&& 3 = nI 3 := by
  have h1 := c_and x 3 (by decide)
  have e3 : (3 : Int32).toInt = 3 := by decide
  exact own_four ⟨by omega, by omega⟩
theorem own_entry {as' : Array Value} {n : Nat} {L : List Slot} (h : Jvm.Sym.laidSlots as'.toList ++ List.replicate (n - (Jvm.Sym.laidSlots as'.toList).length) .unset = L) (m : MethodId) : entryFrame m as' n = mkF m 0 L.toArray [] := by
  have e : argsToLocals as' n = L.toArray := Array.ext' (by rw [Jvm.Sym.argsToLocals_toList, h])
  show ({ method := m, pc := 0, locals := argsToLocals as' n, stack := [], locked := none } : JFrame) = _
  rw [e]
set_option maxRecDepth 65536 in
set_option maxHeartbeats 4000000 in
theorem law_met {A : Ax} (K : Wd A) (x0 : Int64) (x1 x2 x3 x4 x5 : Int32) {de : Addr} (S : Ens A de) : MetW tables_1 A B_law #[.long x0, .int x1, .int x2, .int x3, .int x4, .int x5] [] (G0 A de) (fun v _ _ => v = some (.int 1)) := by
  refine MetW.of_go pn_law K.ew (L := [.val (.long x0), .second, .val (.int x1), .val (.int x2), .val (.int x3), .val (.int x4), .val (.int x5), .unset, .unset, .unset, .unset, .unset, .unset, .unset, .unset, .unset, .unset, .unset, .unset, .unset, .unset]) (own_entry rfl) ?_
  intro D _
  refine Go.rn (B := B_law) td_law 0 1 (pc' := 1) (S' := [.long x0]) rfl ?_
  refine Go.ldc2J (B := B_law) td_law 1 rfl (w_0 K) ?_
  refine Go.rn (B := B_law) td_law 2 2 (pc' := 6) (S' := [.int ((x0 &&& (524287 : Int64)).toInt32)]) rfl ?_
  refine Go.callS (B := B_law) td_law 4 (B' := B_chh) (argsL := [.int ((x0 &&& (524287 : Int64)).toInt32)]) (rest := []) (W := 0) rfl (chh_met K) (w_1 K) (w_2 K) (w_3 K) (w_4 K) (by decide) pd_chh rfl rfl rfl rfl (Nat.le_of_eq rfl) (by decide) (by decide) (by decide) (by decide) ?_
  rintro _ _ _ ⟨c0, r0, rfl, rfl, rfl⟩
  show Go A B_law D _ 9 _ [.int c0] _ _ 0 0
  refine Go.run (B := B_law) td_law 5 4 (pc' := 15) (L' := [.val (.long x0), .second, .val (.int x1), .val (.int x2), .val (.int x3), .val (.int x4), .val (.int x5), .val (.int c0), .unset, .unset, .unset, .unset, .unset, .unset, .unset, .unset, .unset, .unset, .unset, .unset, .unset]) (S' := [.long (Jvm.Free.XT.ushrL x0 (19 : Int32))]) rfl ?_
  refine Go.ldc2J (B := B_law) td_law 9 rfl (w_0 K) ?_
  refine Go.rn (B := B_law) td_law 10 2 (pc' := 20) (S' := [.int (((Jvm.Free.XT.ushrL x0 (19 : Int32)) &&& (524287 : Int64)).toInt32)]) rfl ?_
  refine Go.callS (B := B_law) td_law 12 (B' := B_chh) (argsL := [.int (((Jvm.Free.XT.ushrL x0 (19 : Int32)) &&& (524287 : Int64)).toInt32)]) (rest := []) (W := 0) rfl (chh_met K) (w_1 K) (w_2 K) (w_3 K) (w_4 K) (by decide) pd_chh rfl rfl rfl rfl (Nat.le_of_eq rfl) (by decide) (by decide) (by decide) (by decide) ?_
  rintro _ _ _ ⟨c1, r1, rfl, rfl, rfl⟩
  show Go A B_law D _ 23 _ [.int c1] _ _ 0 0
  refine Go.run (B := B_law) td_law 13 4 (pc' := 29) (L' := [.val (.long x0), .second, .val (.int x1), .val (.int x2), .val (.int x3), .val (.int x4), .val (.int x5), .val (.int c0), .val (.int c1), .unset, .unset, .unset, .unset, .unset, .unset, .unset, .unset, .unset, .unset, .unset, .unset]) (S' := [.long (Jvm.Free.XT.ushrL x0 (38 : Int32))]) rfl ?_
  refine Go.ldc2J (B := B_law) td_law 17 rfl (w_0 K) ?_
  refine Go.rn (B := B_law) td_law 18 2 (pc' := 34) (S' := [.int (((Jvm.Free.XT.ushrL x0 (38 : Int32)) &&& (524287 : Int64)).toInt32)]) rfl ?_
  refine Go.callS (B := B_law) td_law 20 (B' := B_chh) (argsL := [.int (((Jvm.Free.XT.ushrL x0 (38 : Int32)) &&& (524287 : Int64)).toInt32)]) (rest := []) (W := 0) rfl (chh_met K) (w_1 K) (w_2 K) (w_3 K) (w_4 K) (by decide) pd_chh rfl rfl rfl rfl (Nat.le_of_eq rfl) (by decide) (by decide) (by decide) (by decide) ?_
  rintro _ _ _ ⟨c2, r2, rfl, rfl, rfl⟩
  show Go A B_law D _ 37 _ [.int c2] _ _ 0 0
  refine Go.run (B := B_law) td_law 21 6 (pc' := 46) (L' := [.val (.long x0), .second, .val (.int x1), .val (.int x2), .val (.int x3), .val (.int x4), .val (.int x5), .val (.int c0), .val (.int c1), .val (.int c2), .val (.int (x1 &&& (3 : Int32))), .unset, .unset, .unset, .unset, .unset, .unset, .unset, .unset, .unset, .unset]) (S' := [.int (x1 &&& (3 : Int32))]) rfl ?_
  rcases and3 x1 with hn | hn | hn | hn
  · rw [hn]
    refine Go.if0 (B := B_law) td_law 27 (pc' := 53) rfl (by decide) rfl (fun (h : (nI 0) ≠ 0) => absurd h (by decide)) (fun _ => ?_)
    refine Go.rn (B := B_law) td_law 28 2 (pc' := 58) (S' := [.int (0 : Int32)]) rfl ?_
    refine Go.run (B := B_law) td_law 35 2 (pc' := 62) (L' := [.val (.long x0), .second, .val (.int x1), .val (.int x2), .val (.int x3), .val (.int x4), .val (.int x5), .val (.int c0), .val (.int c1), .val (.int c2), .val (.int (nI 0)), .val (.int (0 : Int32)), .unset, .unset, .unset, .unset, .unset, .unset, .unset, .unset, .unset]) (S' := [.int (nI 0)]) rfl ?_
    refine Go.if0 (B := B_law) td_law 37 (pc' := 71) rfl (by decide) rfl (fun (h : (nI 0) ≠ 0) => absurd h (by decide)) (fun _ => ?_)
    refine Go.rn (B := B_law) td_law 38 1 (pc' := 66) (S' := [.int (0 : Int32)]) rfl ?_
    refine Go.newarray (B := B_law) td_law 39 (ty := .char) (cap := 3) (vs := (chV [])) rfl rfl (w_5 K) (by decide) (by decide) (by decide) (by decide) (by decide) rfl ?_
    intro ar
    show Go A B_law D _ 68 _ [.ref ar] _ _ 1 3
    refine Go.rn (B := B_law) td_law 40 1 (pc' := 128) (S' := [.ref ar]) rfl ?_
    refine Go.run (B := B_law) td_law 79 1 (pc' := 130) (L' := [.val (.long x0), .second, .val (.int x1), .val (.int x2), .val (.int x3), .val (.int x4), .val (.int x5), .val (.int c0), .val (.int c1), .val (.int c2), .val (.int (nI 0)), .val (.int (0 : Int32)), .val (.ref ar), .unset, .unset, .unset, .unset, .unset, .unset, .unset, .unset]) (S' := []) rfl ?_
    refine Go.new (B := B_law) td_law 80 (fs := [("java/lang/String", "value", "[B", .null), ("java/lang/String", "coder", "B", .int (0 : Int32))]) rfl (w_6 K) (w_7 K) (w_8 K) (own_layS (Or.inr (w_34 K)) rfl rfl (own_layS (Or.inr (w_32 K)) rfl rfl own_lay0)) (by decide) (by decide) ?_
    intro tx
    show Go A B_law D _ 133 _ [.ref tx] _ _ 2 7
    refine Go.rn (B := B_law) td_law 81 2 (pc' := 136) (S' := [.ref ar, .ref tx, .ref tx]) rfl ?_
    have hn2 : (nI 0 = nI 0 ∧ ([] : List Int32) = [] ∧ (0 : Int32) < 1) ∨ (nI 0 = nI 1 ∧ ([] : List Int32) = [c0]) ∨ (nI 0 = nI 2 ∧ ([] : List Int32) = [c0, c1]) ∨ (nI 0 = nI 3 ∧ ([] : List Int32) = [c0, c1, c2]) := Or.inl ⟨rfl, rfl, (by decide : (0 : Int32) < 1)⟩
    obtain ⟨hlen, hch⟩ := own_ts r0 r1 r2 hn2
    refine Go.callN (B := B_law) td_law 83 (B' := B_sin) (a := tx) (argsL := [.ref ar]) (rest := [.ref tx]) (W := 1) rfl (sinR_met K hch (by omega) (Or.inl (mi 0 rfl))) rfl rfl (w_9 K) (w_10 K) (w_8 K) (w_11 K) (by decide) pd_sin rfl rfl rfl rfl (Nat.le_of_eq rfl) (by decide) (by decide) (by decide) (by decide) ?_
    rintro _ _ _ ⟨rfl, rfl, q1, q2, rfl, hS⟩
    show Go A B_law D _ 139 _ [.ref tx] [(ar, ArrP A .char (chV []))] (q1 :: q2 :: (G0 A de)) 6 199
    refine Go.drop ?_
    refine Go.run (B := B_law) td_law 84 1 (pc' := 141) (L' := [.val (.long x0), .second, .val (.int x1), .val (.int x2), .val (.int x3), .val (.int x4), .val (.int x5), .val (.int c0), .val (.int c1), .val (.int c2), .val (.int (nI 0)), .val (.int (0 : Int32)), .val (.ref ar), .val (.ref tx), .unset, .unset, .unset, .unset, .unset, .unset, .unset]) (S' := []) rfl ?_
    exact s141 K S r0 r1 r2 hn2 (fun q h => .tail _ (.tail _ h)) hS
  · rw [hn]
    refine Go.if0 (B := B_law) td_law 27 (pc' := 53) rfl (by decide) rfl (fun _ => ?_) (fun (h : ¬ ((nI 1) ≠ 0)) => absurd (by decide) h)
    refine Go.rn (B := B_law) td_law 30 4 (pc' := 57) (S' := [.int (3 : Int32), .int (Jvm.Free.XT.ushr x1 (2 : Int32))]) rfl ?_
    refine Go.irem (B := B_law) td_law 34 rfl (by decide) ?_
    refine Go.run (B := B_law) td_law 35 2 (pc' := 62) (L' := [.val (.long x0), .second, .val (.int x1), .val (.int x2), .val (.int x3), .val (.int x4), .val (.int x5), .val (.int c0), .val (.int c1), .val (.int c2), .val (.int (nI 1)), .val (.int ((Jvm.Free.XT.ushr x1 (2 : Int32)) % (3 : Int32))), .unset, .unset, .unset, .unset, .unset, .unset, .unset, .unset, .unset]) (S' := [.int (nI 1)]) rfl ?_
    refine Go.if0 (B := B_law) td_law 37 (pc' := 71) rfl (by decide) rfl (fun _ => ?_) (fun (h : ¬ ((nI 1) ≠ 0)) => absurd (by decide) h)
    refine Go.rn (B := B_law) td_law 41 2 (pc' := 74) (S' := [.int (1 : Int32), .int (nI 1)]) rfl ?_
    refine Go.icmp (B := B_law) td_law 43 (pc' := 88) rfl (by decide) rfl (fun (h : (nI 1) ≠ (1 : Int32)) => absurd h (by decide)) (fun _ => ?_)
    refine Go.rn (B := B_law) td_law 44 1 (pc' := 78) (S' := [.int (1 : Int32)]) rfl ?_
    refine Go.newarray (B := B_law) td_law 45 (ty := .char) (cap := 3) (vs := (chV (List.replicate 1 0))) rfl rfl (w_5 K) (by decide) (by decide) (by decide) (by decide) (by decide) rfl ?_
    intro ar
    show Go A B_law D _ 80 _ [.ref ar] _ _ 1 3
    refine Go.rn (B := B_law) td_law 46 3 (pc' := 84) (S' := [.int c0, .int (0 : Int32), .ref ar, .ref ar]) rfl ?_
    refine Go.castore (B := B_law) td_law 49 (vs' := (chV ([c0] : List Int32))) rfl (own_inB 1 rfl (by decide)) (by rw [chr16_id r0]; rfl) ?_
    refine Go.rn (B := B_law) td_law 50 1 (pc' := 128) (S' := [.ref ar]) rfl ?_
    refine Go.run (B := B_law) td_law 79 1 (pc' := 130) (L' := [.val (.long x0), .second, .val (.int x1), .val (.int x2), .val (.int x3), .val (.int x4), .val (.int x5), .val (.int c0), .val (.int c1), .val (.int c2), .val (.int (nI 1)), .val (.int ((Jvm.Free.XT.ushr x1 (2 : Int32)) % (3 : Int32))), .val (.ref ar), .unset, .unset, .unset, .unset, .unset, .unset, .unset, .unset]) (S' := []) rfl ?_
    refine Go.new (B := B_law) td_law 80 (fs := [("java/lang/String", "value", "[B", .null), ("java/lang/String", "coder", "B", .int (0 : Int32))]) rfl (w_6 K) (w_7 K) (w_8 K) (own_layS (Or.inr (w_34 K)) rfl rfl (own_layS (Or.inr (w_32 K)) rfl rfl own_lay0)) (by decide) (by decide) ?_
    intro tx
    show Go A B_law D _ 133 _ [.ref tx] _ _ 2 7
    refine Go.rn (B := B_law) td_law 81 2 (pc' := 136) (S' := [.ref ar, .ref tx, .ref tx]) rfl ?_
    have hn2 : (nI 1 = nI 0 ∧ ([c0] : List Int32) = [] ∧ ((Jvm.Free.XT.ushr x1 (2 : Int32)) % (3 : Int32)) < 1) ∨ (nI 1 = nI 1 ∧ ([c0] : List Int32) = [c0]) ∨ (nI 1 = nI 2 ∧ ([c0] : List Int32) = [c0, c1]) ∨ (nI 1 = nI 3 ∧ ([c0] : List Int32) = [c0, c1, c2]) := Or.inr (Or.inl ⟨rfl, rfl⟩)
    obtain ⟨hlen, hch⟩ := own_ts r0 r1 r2 hn2
    refine Go.callN (B := B_law) td_law 83 (B' := B_sin) (a := tx) (argsL := [.ref ar]) (rest := [.ref tx]) (W := 1) rfl (sinR_met K hch (by omega) (Or.inl (mi 0 rfl))) rfl rfl (w_9 K) (w_10 K) (w_8 K) (w_11 K) (by decide) pd_sin rfl rfl rfl rfl (Nat.le_of_eq rfl) (by decide) (by decide) (by decide) (by decide) ?_
    rintro _ _ _ ⟨rfl, rfl, q1, q2, rfl, hS⟩
    show Go A B_law D _ 139 _ [.ref tx] [(ar, ArrP A .char (chV ([c0] : List Int32)))] (q1 :: q2 :: (G0 A de)) 6 199
    refine Go.drop ?_
    refine Go.run (B := B_law) td_law 84 1 (pc' := 141) (L' := [.val (.long x0), .second, .val (.int x1), .val (.int x2), .val (.int x3), .val (.int x4), .val (.int x5), .val (.int c0), .val (.int c1), .val (.int c2), .val (.int (nI 1)), .val (.int ((Jvm.Free.XT.ushr x1 (2 : Int32)) % (3 : Int32))), .val (.ref ar), .val (.ref tx), .unset, .unset, .unset, .unset, .unset, .unset, .unset]) (S' := []) rfl ?_
    exact s141 K S r0 r1 r2 hn2 (fun q h => .tail _ (.tail _ h)) hS
  · rw [hn]
    refine Go.if0 (B := B_law) td_law 27 (pc' := 53) rfl (by decide) rfl (fun _ => ?_) (fun (h : ¬ ((nI 2) ≠ 0)) => absurd (by decide) h)
    refine Go.rn (B := B_law) td_law 30 4 (pc' := 57) (S' := [.int (3 : Int32), .int (Jvm.Free.XT.ushr x1 (2 : Int32))]) rfl ?_
    refine Go.irem (B := B_law) td_law 34 rfl (by decide) ?_
    refine Go.run (B := B_law) td_law 35 2 (pc' := 62) (L' := [.val (.long x0), .second, .val (.int x1), .val (.int x2), .val (.int x3), .val (.int x4), .val (.int x5), .val (.int c0), .val (.int c1), .val (.int c2), .val (.int (nI 2)), .val (.int ((Jvm.Free.XT.ushr x1 (2 : Int32)) % (3 : Int32))), .unset, .unset, .unset, .unset, .unset, .unset, .unset, .unset, .unset]) (S' := [.int (nI 2)]) rfl ?_
    refine Go.if0 (B := B_law) td_law 37 (pc' := 71) rfl (by decide) rfl (fun _ => ?_) (fun (h : ¬ ((nI 2) ≠ 0)) => absurd (by decide) h)
    refine Go.rn (B := B_law) td_law 41 2 (pc' := 74) (S' := [.int (1 : Int32), .int (nI 2)]) rfl ?_
    refine Go.icmp (B := B_law) td_law 43 (pc' := 88) rfl (by decide) rfl (fun _ => ?_) (fun (h : ¬ ((nI 2) ≠ (1 : Int32))) => absurd (by decide) h)
    refine Go.rn (B := B_law) td_law 51 2 (pc' := 91) (S' := [.int (2 : Int32), .int (nI 2)]) rfl ?_
    refine Go.icmp (B := B_law) td_law 53 (pc' := 110) rfl (by decide) rfl (fun (h : (nI 2) ≠ (2 : Int32)) => absurd h (by decide)) (fun _ => ?_)
    refine Go.rn (B := B_law) td_law 54 1 (pc' := 95) (S' := [.int (2 : Int32)]) rfl ?_
    refine Go.newarray (B := B_law) td_law 55 (ty := .char) (cap := 3) (vs := (chV (List.replicate 2 0))) rfl rfl (w_5 K) (by decide) (by decide) (by decide) (by decide) (by decide) rfl ?_
    intro ar
    show Go A B_law D _ 97 _ [.ref ar] _ _ 1 3
    refine Go.rn (B := B_law) td_law 56 3 (pc' := 101) (S' := [.int c0, .int (0 : Int32), .ref ar, .ref ar]) rfl ?_
    refine Go.castore (B := B_law) td_law 59 (vs' := (chV ([c0, 0] : List Int32))) rfl (own_inB 2 rfl (by decide)) (by rw [chr16_id r0]; rfl) ?_
    refine Go.rn (B := B_law) td_law 60 3 (pc' := 106) (S' := [.int c1, .int (1 : Int32), .ref ar, .ref ar]) rfl ?_
    refine Go.castore (B := B_law) td_law 63 (vs' := (chV ([c0, c1] : List Int32))) rfl (own_inB 2 rfl (by decide)) (by rw [chr16_id r1]; rfl) ?_
    refine Go.rn (B := B_law) td_law 64 1 (pc' := 128) (S' := [.ref ar]) rfl ?_
    refine Go.run (B := B_law) td_law 79 1 (pc' := 130) (L' := [.val (.long x0), .second, .val (.int x1), .val (.int x2), .val (.int x3), .val (.int x4), .val (.int x5), .val (.int c0), .val (.int c1), .val (.int c2), .val (.int (nI 2)), .val (.int ((Jvm.Free.XT.ushr x1 (2 : Int32)) % (3 : Int32))), .val (.ref ar), .unset, .unset, .unset, .unset, .unset, .unset, .unset, .unset]) (S' := []) rfl ?_
    refine Go.new (B := B_law) td_law 80 (fs := [("java/lang/String", "value", "[B", .null), ("java/lang/String", "coder", "B", .int (0 : Int32))]) rfl (w_6 K) (w_7 K) (w_8 K) (own_layS (Or.inr (w_34 K)) rfl rfl (own_layS (Or.inr (w_32 K)) rfl rfl own_lay0)) (by decide) (by decide) ?_
    intro tx
    show Go A B_law D _ 133 _ [.ref tx] _ _ 2 7
    refine Go.rn (B := B_law) td_law 81 2 (pc' := 136) (S' := [.ref ar, .ref tx, .ref tx]) rfl ?_
    have hn2 : (nI 2 = nI 0 ∧ ([c0, c1] : List Int32) = [] ∧ ((Jvm.Free.XT.ushr x1 (2 : Int32)) % (3 : Int32)) < 1) ∨ (nI 2 = nI 1 ∧ ([c0, c1] : List Int32) = [c0]) ∨ (nI 2 = nI 2 ∧ ([c0, c1] : List Int32) = [c0, c1]) ∨ (nI 2 = nI 3 ∧ ([c0, c1] : List Int32) = [c0, c1, c2]) := Or.inr (Or.inr (Or.inl ⟨rfl, rfl⟩))
    obtain ⟨hlen, hch⟩ := own_ts r0 r1 r2 hn2
    refine Go.callN (B := B_law) td_law 83 (B' := B_sin) (a := tx) (argsL := [.ref ar]) (rest := [.ref tx]) (W := 1) rfl (sinR_met K hch (by omega) (Or.inl (mi 0 rfl))) rfl rfl (w_9 K) (w_10 K) (w_8 K) (w_11 K) (by decide) pd_sin rfl rfl rfl rfl (Nat.le_of_eq rfl) (by decide) (by decide) (by decide) (by decide) ?_
    rintro _ _ _ ⟨rfl, rfl, q1, q2, rfl, hS⟩
    show Go A B_law D _ 139 _ [.ref tx] [(ar, ArrP A .char (chV ([c0, c1] : List Int32)))] (q1 :: q2 :: (G0 A de)) 6 199
    refine Go.drop ?_
    refine Go.run (B := B_law) td_law 84 1 (pc' := 141) (L' := [.val (.long x0), .second, .val (.int x1), .val (.int x2), .val (.int x3), .val (.int x4), .val (.int x5), .val (.int c0), .val (.int c1), .val (.int c2), .val (.int (nI 2)), .val (.int ((Jvm.Free.XT.ushr x1 (2 : Int32)) % (3 : Int32))), .val (.ref ar), .val (.ref tx), .unset, .unset, .unset, .unset, .unset, .unset, .unset]) (S' := []) rfl ?_
    exact s141 K S r0 r1 r2 hn2 (fun q h => .tail _ (.tail _ h)) hS
  · rw [hn]
    refine Go.if0 (B := B_law) td_law 27 (pc' := 53) rfl (by decide) rfl (fun _ => ?_) (fun (h : ¬ ((nI 3) ≠ 0)) => absurd (by decide) h)
    refine Go.rn (B := B_law) td_law 30 4 (pc' := 57) (S' := [.int (3 : Int32), .int (Jvm.Free.XT.ushr x1 (2 : Int32))]) rfl ?_
    refine Go.irem (B := B_law) td_law 34 rfl (by decide) ?_
    refine Go.run (B := B_law) td_law 35 2 (pc' := 62) (L' := [.val (.long x0), .second, .val (.int x1), .val (.int x2), .val (.int x3), .val (.int x4), .val (.int x5), .val (.int c0), .val (.int c1), .val (.int c2), .val (.int (nI 3)), .val (.int ((Jvm.Free.XT.ushr x1 (2 : Int32)) % (3 : Int32))), .unset, .unset, .unset, .unset, .unset, .unset, .unset, .unset, .unset]) (S' := [.int (nI 3)]) rfl ?_
    refine Go.if0 (B := B_law) td_law 37 (pc' := 71) rfl (by decide) rfl (fun _ => ?_) (fun (h : ¬ ((nI 3) ≠ 0)) => absurd (by decide) h)
    refine Go.rn (B := B_law) td_law 41 2 (pc' := 74) (S' := [.int (1 : Int32), .int (nI 3)]) rfl ?_
    refine Go.icmp (B := B_law) td_law 43 (pc' := 88) rfl (by decide) rfl (fun _ => ?_) (fun (h : ¬ ((nI 3) ≠ (1 : Int32))) => absurd (by decide) h)
    refine Go.rn (B := B_law) td_law 51 2 (pc' := 91) (S' := [.int (2 : Int32), .int (nI 3)]) rfl ?_
    refine Go.icmp (B := B_law) td_law 53 (pc' := 110) rfl (by decide) rfl (fun _ => ?_) (fun (h : ¬ ((nI 3) ≠ (2 : Int32))) => absurd (by decide) h)
    refine Go.rn (B := B_law) td_law 65 1 (pc' := 111) (S' := [.int (3 : Int32)]) rfl ?_
    refine Go.newarray (B := B_law) td_law 66 (ty := .char) (cap := 3) (vs := (chV (List.replicate 3 0))) rfl rfl (w_5 K) (by decide) (by decide) (by decide) (by decide) (by decide) rfl ?_
    intro ar
    show Go A B_law D _ 113 _ [.ref ar] _ _ 1 3
    refine Go.rn (B := B_law) td_law 67 3 (pc' := 117) (S' := [.int c0, .int (0 : Int32), .ref ar, .ref ar]) rfl ?_
    refine Go.castore (B := B_law) td_law 70 (vs' := (chV ([c0, 0, 0] : List Int32))) rfl (own_inB 3 rfl (by decide)) (by rw [chr16_id r0]; rfl) ?_
    refine Go.rn (B := B_law) td_law 71 3 (pc' := 122) (S' := [.int c1, .int (1 : Int32), .ref ar, .ref ar]) rfl ?_
    refine Go.castore (B := B_law) td_law 74 (vs' := (chV ([c0, c1, 0] : List Int32))) rfl (own_inB 3 rfl (by decide)) (by rw [chr16_id r1]; rfl) ?_
    refine Go.rn (B := B_law) td_law 75 3 (pc' := 127) (S' := [.int c2, .int (2 : Int32), .ref ar, .ref ar]) rfl ?_
    refine Go.castore (B := B_law) td_law 78 (vs' := (chV ([c0, c1, c2] : List Int32))) rfl (own_inB 3 rfl (by decide)) (by rw [chr16_id r2]; rfl) ?_
    refine Go.run (B := B_law) td_law 79 1 (pc' := 130) (L' := [.val (.long x0), .second, .val (.int x1), .val (.int x2), .val (.int x3), .val (.int x4), .val (.int x5), .val (.int c0), .val (.int c1), .val (.int c2), .val (.int (nI 3)), .val (.int ((Jvm.Free.XT.ushr x1 (2 : Int32)) % (3 : Int32))), .val (.ref ar), .unset, .unset, .unset, .unset, .unset, .unset, .unset, .unset]) (S' := []) rfl ?_
    refine Go.new (B := B_law) td_law 80 (fs := [("java/lang/String", "value", "[B", .null), ("java/lang/String", "coder", "B", .int (0 : Int32))]) rfl (w_6 K) (w_7 K) (w_8 K) (own_layS (Or.inr (w_34 K)) rfl rfl (own_layS (Or.inr (w_32 K)) rfl rfl own_lay0)) (by decide) (by decide) ?_
    intro tx
    show Go A B_law D _ 133 _ [.ref tx] _ _ 2 7
    refine Go.rn (B := B_law) td_law 81 2 (pc' := 136) (S' := [.ref ar, .ref tx, .ref tx]) rfl ?_
    have hn2 : (nI 3 = nI 0 ∧ ([c0, c1, c2] : List Int32) = [] ∧ ((Jvm.Free.XT.ushr x1 (2 : Int32)) % (3 : Int32)) < 1) ∨ (nI 3 = nI 1 ∧ ([c0, c1, c2] : List Int32) = [c0]) ∨ (nI 3 = nI 2 ∧ ([c0, c1, c2] : List Int32) = [c0, c1]) ∨ (nI 3 = nI 3 ∧ ([c0, c1, c2] : List Int32) = [c0, c1, c2]) := Or.inr (Or.inr (Or.inr ⟨rfl, rfl⟩))
    obtain ⟨hlen, hch⟩ := own_ts r0 r1 r2 hn2
    refine Go.callN (B := B_law) td_law 83 (B' := B_sin) (a := tx) (argsL := [.ref ar]) (rest := [.ref tx]) (W := 1) rfl (sinR_met K hch (by omega) (Or.inl (mi 0 rfl))) rfl rfl (w_9 K) (w_10 K) (w_8 K) (w_11 K) (by decide) pd_sin rfl rfl rfl rfl (Nat.le_of_eq rfl) (by decide) (by decide) (by decide) (by decide) ?_
    rintro _ _ _ ⟨rfl, rfl, q1, q2, rfl, hS⟩
    show Go A B_law D _ 139 _ [.ref tx] [(ar, ArrP A .char (chV ([c0, c1, c2] : List Int32)))] (q1 :: q2 :: (G0 A de)) 6 199
    refine Go.drop ?_
    refine Go.run (B := B_law) td_law 84 1 (pc' := 141) (L' := [.val (.long x0), .second, .val (.int x1), .val (.int x2), .val (.int x3), .val (.int x4), .val (.int x5), .val (.int c0), .val (.int c1), .val (.int c2), .val (.int (nI 3)), .val (.int ((Jvm.Free.XT.ushr x1 (2 : Int32)) % (3 : Int32))), .val (.ref ar), .val (.ref tx), .unset, .unset, .unset, .unset, .unset, .unset, .unset]) (S' := []) rfl ?_
    exact s141 K S r0 r1 r2 hn2 (fun q h => .tail _ (.tail _ h)) hS
--CUT
set_option maxRecDepth 65536 in
set_option maxHeartbeats 4000000 in
theorem comes_1 {Post : Tables → Env → Array Value → State → Outcome → State → Prop} (hpost : ∀ tb e args s v u, (limb_1_1.after args s (.returned v) u = true ∧ limb_1_2.after args s (.returned v) u = true ∧ True) → FramedW s (.returned v) u (Jvm.fieldLocs frame_1_writes args s ++ Jvm.arrayLocs frame_1_arrays args s ++ Jvm.staticLocs frame_1_statics s) 88 17024 → Post tb e args s (.returned v) u) :
    ArmFor flags0 classFile x code maxLocals ret World_1 tables_1 room_1 Calls_1 rest_1 Pre_1 Post := by
  intro l hfl _ _ p e ha hc hk s m args below hf hA hF happ hP
  obtain ⟨hcalls, hrest, hpre⟩ := hP
  obtain ⟨-, -, -, hnamed, -, -, -, hat⟩ := (Spec.applies_iff hf).mp happ
  obtain ⟨hg, hn⟩ := and_e (Cond.before_iff.mp (show (Jvm.Cond.and given_1 narrow_1).before args s = true from hpre))
  obtain ⟨h1, g0⟩ := and_e hg
  obtain ⟨q0, g1⟩ := and_e g0
  obtain ⟨q1, g2⟩ := and_e g1
  obtain ⟨q2, g3⟩ := and_e g2
  obtain ⟨q3, g4⟩ := and_e g3
  obtain ⟨q4, g5⟩ := and_e g4
  have q5 := g5
  obtain ⟨w0, w1, w2, w3, w4, w5, rfl⟩ : ∃ w0 w1 w2 w3 w4 w5 : Value, args = #[w0, w1, w2, w3, w4, w5] := by
    have hs : args.size = 6 := by simpa [Cond.value, given_1] using h1
    obtain ⟨L⟩ := args
    match L, hs with
    | [w0, w1, w2, w3, w4, w5], _ => exact ⟨w0, w1, w2, w3, w4, w5, rfl⟩
  have hw := fun d (hd : d ∈ tables_1) => atoms_spec (ws := Jvm.Cond.code x code maxLocals ret :: tables_1) hat d (List.mem_cons_of_mem _ hd)
  obtain ⟨i0, e0⟩ := isL_v q0
  obtain rfl : w0 = (.long i0) := Option.some.inj e0
  obtain ⟨i1, e1⟩ := is_v q1
  obtain rfl : w1 = (.int i1) := Option.some.inj e1
  obtain ⟨i2, e2⟩ := is_v q2
  obtain rfl : w2 = (.int i2) := Option.some.inj e2
  obtain ⟨i3, e3⟩ := is_v q3
  obtain rfl : w3 = (.int i3) := Option.some.inj e3
  obtain ⟨i4, e4⟩ := is_v q4
  obtain rfl : w4 = (.int i4) := Option.some.inj e4
  obtain ⟨i5, e5⟩ := is_v q5
  obtain rfl : w5 = (.int i5) := Option.some.inj e5
  let A : Ax := (l, s, #[.long i0, .int i1, .int i2, .int i3, .int i4, .int i5], consts_1, true)
  obtain ⟨hsets, hown0⟩ := atoms_of _ (rest_1_c_eq ▸ (show rest_1_c.before _ s = true from hrest))
  have n5 := not_v (Cond.before_iff.mp (hsets _ (mi 2 rfl)))
  obtain ⟨zc, ec⟩ := is_v (Cond.before_iff.mp (hsets _ (mi 1 rfl)))
  have Sc : Sta s s.heap "java/lang/String" "COMPACT_STRINGS" "Z" (.int zc) := Sta.start ec (Or.inl (hsets _ (mi 0 rfl)))
  have nc : ¬ (zc = (0 : Int32)) := gotF (Cond.eq_ints ec (Term.int_eval (0))) n5
  obtain ⟨vf, ef, rf⟩ := isR_v (Cond.before_iff.mp (hsets _ (mi 8 rfl)))
  have Sf : Sta s s.heap "jdk/internal/util/Preconditions" "SIOOBE_FORMATTER" "Ljava/util/function/BiFunction;" vf := Sta.start ef (Or.inl (hsets _ (mi 7 rfl)))
  have S_assertionsDisabled := own_sta_eq (hsets _ (mi 21 rfl)) (hsets _ (mi 20 rfl))
  have S_HI_BYTE_SHIFT := own_sta_eq (hsets _ (mi 24 rfl)) (hsets _ (mi 23 rfl))
  have S_LO_BYTE_SHIFT := own_sta_eq (hsets _ (mi 27 rfl)) (hsets _ (mi 26 rfl))
  have hEW : EW s A.a0 consts_1 := (EW.cons (hw _ (mi 88 rfl)) (by decide) (EW.cons (hw _ (mi 358 rfl)) (by decide) (EW.cons (hw _ (mi 364 rfl)) (by decide) (EW.cons (hw _ (mi 229 rfl)) (by decide) (EW.cons (hw _ (mi 451 rfl)) (by decide) (EW.cons (hw _ (mi 447 rfl)) (by decide) (EW.cons (hw _ (mi 167 rfl)) (by decide) (EW.cons (hw _ (mi 449 rfl)) (by decide) (EW.cons (hw _ (mi 281 rfl)) (by decide) (EW.cons (hw _ (mi 452 rfl)) (by decide) (EW.cons (hw _ (mi 448 rfl)) (by decide) (EW.cons (hw _ (mi 275 rfl)) (by decide) (EW.cons (hw _ (mi 450 rfl)) (by decide) (EW.cons (hw _ (mi 377 rfl)) (by decide) (EW.cons (hw _ (mi 376 rfl)) (by decide) (EW.cons (hw _ (mi 437 rfl)) (by decide) EW.nil))))))))))))))))
  have nE := (Cond.before_iff.mp (hsets _ (mi 16 rfl)))
  obtain ⟨de, vde⟩ := exa_v nE
  have ode := ark_start (A := A) (ad := "[Ljava/lang/Object;") (Exa.start vde nE) (arr_start (A := A) (ty := .object "java/lang/Object") (vs := []) vde (Cond.before_iff.mp (hsets _ (mi 15 rfl))) (Cond.before_iff.mp (hsets _ (mi 17 rfl))) rfl (by decide) trivial)
  have S : Ens A de := Sta.start vde (Or.inr ⟨hw _ (mi 38 rfl), hsets _ (mi 11 rfl)⟩)
  have hG0 : ∀ r ∈ G0 A de, ∃ c : Cell, s.heap[r.1]? = some c ∧ r.2 c := allG_cons ode allG_nil
  have K : Wd A := ⟨hw, hEW, rfl, rfl, ⟨zc, nc, Sc⟩, ⟨vf, rf, Sf⟩, S_assertionsDisabled, S_HI_BYTE_SHIFT, S_LO_BYTE_SHIFT⟩
  have hC : CHv s consts_1 s.vm s.heap := CHv.start hEW hcalls.1 (hsets _ (mi 2 rfl)) (hw _ (mi 24 rfl)) (hw _ (mi 7 rfl))
  have H : Hp s consts_1 s.vm s.heap [] (G0 A de) := ⟨own_ext_refl _, fun _ q => (nomatch q), hG0, List.nodup_nil, fun _ q => (nomatch q)⟩
  obtain ⟨n, o, h1, h2, h3, v, L, F', G', rfl, rfl, -, hN, -, hq⟩ := law_met K i0 i1 i2 i3 i4 i5 S p e ha hc hk s m _ below hf ((Spec.applies_iff_loose hf).mp happ).1 ⟨rfl, State.Warmed39.refl s, hC, H⟩ trivial
  refine ⟨n, _, h1, h2, h3, hpost _ _ _ _ _ _ ⟨Cond.after_iff.mpr rfl, Cond.after_iff.mpr (eq_i res_at (Term.int_eval (1)) rfl), trivial⟩ ⟨hq.1, hq.2.1, hq.2.2.1, (hq.2.2.2.sift fun y hy => Or.inr (hN.1 y hy)).mono (by decide) (by decide)⟩⟩
theorem main_1_1 : Claimed_1_1 := comes_1 fun _ _ _ _ _ _ h hF => ⟨h.1, hF⟩
theorem main_1_2 : Claimed_1_2 := comes_1 fun _ _ _ _ _ _ h hF => ⟨h.2.1, hF⟩
end Jvm.Pilot.@@N@@
namespace Jvm.Pilot.@@N@@
open Jvm Jvm.ClassFile Sem Op Lib Jvm.Free Jvm.Stand Jvm.Pilot.@@N@@.Jvm.D
/-! MADE BY PROGRAM (witnessworld.py) out of the Statement's table words and the real class files: 41 classes; the members and pool entries that the words name. The judged class is class 1, her method 1. -/
namespace start1
open Jvm.ClassFile
def u (s : String) : CpInfo := .utf8 (stringToUtf16 s)
/-- a pool by its gaps: so many unusable entries, then the entry; so many at the end -/
def gap : Nat → List CpInfo → List CpInfo
  | 0, r => r
  | n + 1, r => .unusable :: gap n r
def poolList (es : List (Nat × CpInfo)) (last : Nat) : List CpInfo := es.foldr (fun e r => gap e.1 (e.2 :: r)) (gap last [])
def pool (es : List (Nat × CpInfo)) (last : Nat) : Array CpInfo := ⟨poolList es last⟩
def fileOf (pool : Array CpInfo) (this : Nat) (attrs : Array Attribute := #[]) (ms : Array MethodInfo := #[]) (fl : Nat := 33) (sup : Nat := 0) (ifs : Array Nat := #[]) (fds : Array FieldInfo := #[]) : ClassFile where
  minorVersion := 0
  majorVersion := 65
  constantPool := pool
  accessFlags := fl
  thisClass := this
  superClass := sup
  interfaces := ifs
  fields := fds
  methods := ms
  attributes := attrs
def plain (name : String) (sup : Option ClassId) : Class where
  name := name
  kind := .ordinary
  loader := none
  accessFlags := 33
  super := sup
  interfaces := #[]
  cf := none
  fields := #[]
  methods := #[]
  instanceTypes := #[]
  staticTypes := #[]
  resolved := #[]
  callSites := []
  init := .initialized
  statics := none
  mirror := none

def pool0 : Array CpInfo := pool [(5, u "<init>"), (0, u "()V"), (1, .class_ 10), (1, u "java/lang/Object"), (85, u "clone"), (0, u "()Ljava/lang/Object;")] 26

def k0c0 : Code := { maxStack := 0, maxLocals := 1, code := object_method_1_code, exceptionTable := #[], attributes := #[] }
def k0m0 : Method := { name := "<init>", desc := "()V", sig := { parameters := [], returnType := none }, accessFlags := 1, code := some k0c0 }
def k0m1 : Method := { name := "clone", desc := "()Ljava/lang/Object;", sig := { parameters := [], returnType := some (.object "java/lang/Object") }, accessFlags := 260, code := none }
/-- java/lang/Object -/
def k0 : Class := { plain "java/lang/Object" none with
  accessFlags := 33
  interfaces := #[]
  cf := some (fileOf pool0 8 #[] #[{ accessFlags := 1, nameIndex := 5, descriptorIndex := 6, attributes := #[] }, { accessFlags := 260, nameIndex := 96, descriptorIndex := 97, attributes := #[] }] 33 0 #[] #[])
  fields := #[]
  methods := #[k0m0, k0m1]
  instanceTypes := #[]
  staticTypes := #[]
  resolved := Array.replicate 124 none
  statics := none }

def pool1 : Array CpInfo := pool [(2, .class_ 4), (0, .nameAndType 5 6), (0, u "java/lang/Object"), (0, u "<init>"), (0, u "()V"), (0, .long 524287), (1, .methodref 10 11), (0, .class_ 12), (0, .nameAndType 13 14), (0, u "com/example/attentive_search/attentivesearch/HighlightHtmlPinLaw"), (0, u "ch"), (0, u "(I)C"), (0, .class_ 16), (0, u "java/lang/String"), (0, .methodref 15 18), (0, .nameAndType 5 19), (0, u "([C)V"), (0, .class_ 21), (0, u "java/util/ArrayList"), (0, .methodref 20 3), (0, .integer 2147483647), (0, .class_ 25), (0, u "com/example/attentive_search/attentivesearch/Highlight$Mark"), (0, .methodref 24 27), (0, .nameAndType 5 28), (0, u "(II)V"), (0, .methodref 20 30), (0, .nameAndType 31 32), (0, u "add"), (0, u "(Ljava/lang/Object;)Z"), (0, .methodref 34 35), (0, .class_ 36), (0, .nameAndType 37 38), (0, u "com/example/attentive_search/attentivesearch/Highlight"), (0, u "html"), (0, u "(Ljava/lang/String;Ljava/util/List;)Ljava/lang/String;"), (0, .methodref 10 40), (0, .nameAndType 41 42), (0, u "step"), (0, u "(Ljava/lang/String;IZZZC)I"), (0, .methodref 15 44), (0, .nameAndType 45 46), (0, u "length"), (0, u "()I"), (0, .string 48), (0, u "&amp;"), (0, .string 50), (0, u "&lt;"), (0, .string 52), (0, u "&gt;"), (0, .string 54), (0, u "&quot;"), (0, .string 56), (0, u "&#39;"), (0, .methodref 15 58), (0, .nameAndType 59 60), (0, u "valueOf"), (0, u "(C)Ljava/lang/String;"), (0, .string 62), (0, u "</b>"), (0, .methodref 10 64), (0, .nameAndType 65 66), (0, u "take"), (0, u "(Ljava/lang/String;ILjava/lang/String;)I"), (0, .string 68), (0, u "<b>"), (0, .methodref 10 70), (0, .nameAndType 71 60), (0, u "esc"), (0, .methodref 15 73), (0, .nameAndType 74 14), (0, u "charAt"), (2, u "law"), (0, u "(JIIIII)Z")] 9

def k1m0 : Method := { name := "<init>", desc := "()V", sig := { parameters := [], returnType := none }, accessFlags := 1, code := none }
def k1c1 : Code := { maxStack := 6, maxLocals := 21, code := code, exceptionTable := #[], attributes := #[] }
def k1m1 : Method := { name := "law", desc := "(JIIIII)Z", sig := { parameters := [.long, .int, .int, .int, .int, .int], returnType := some .boolean }, accessFlags := 9, code := some k1c1 }
def k1c2 : Code := { maxStack := 2, maxLocals := 2, code := method_3_code, exceptionTable := #[], attributes := #[] }
def k1m2 : Method := { name := "ch", desc := "(I)C", sig := { parameters := [.int], returnType := some .char }, accessFlags := 10, code := some k1c2 }
def k1c3 : Code := { maxStack := 2, maxLocals := 1, code := method_4_code, exceptionTable := #[], attributes := #[] }
def k1m3 : Method := { name := "esc", desc := "(C)Ljava/lang/String;", sig := { parameters := [.char], returnType := some (.object "java/lang/String") }, accessFlags := 10, code := some k1c3 }
def k1c4 : Code := { maxStack := 3, maxLocals := 7, code := method_5_code, exceptionTable := #[], attributes := #[] }
def k1m4 : Method := { name := "step", desc := "(Ljava/lang/String;IZZZC)I", sig := { parameters := [(.object "java/lang/String"), .int, .boolean, .boolean, .boolean, .char], returnType := some .int }, accessFlags := 10, code := some k1c4 }
def k1c5 : Code := { maxStack := 3, maxLocals := 4, code := method_6_code, exceptionTable := #[], attributes := #[] }
def k1m5 : Method := { name := "take", desc := "(Ljava/lang/String;ILjava/lang/String;)I", sig := { parameters := [(.object "java/lang/String"), .int, (.object "java/lang/String")], returnType := some .int }, accessFlags := 10, code := some k1c5 }
/-- com/example/attentive_search/attentivesearch/HighlightHtmlPinLaw -/
def k1 : Class := { plain "com/example/attentive_search/attentivesearch/HighlightHtmlPinLaw" (some 0) with
  accessFlags := 49
  interfaces := #[]
  cf := some (fileOf pool1 10 #[] #[{ accessFlags := 1, nameIndex := 5, descriptorIndex := 6, attributes := #[] }, { accessFlags := 9, nameIndex := 77, descriptorIndex := 78, attributes := #[] }, { accessFlags := 10, nameIndex := 13, descriptorIndex := 14, attributes := #[] }, { accessFlags := 10, nameIndex := 71, descriptorIndex := 60, attributes := #[] }, { accessFlags := 10, nameIndex := 41, descriptorIndex := 42, attributes := #[] }, { accessFlags := 10, nameIndex := 65, descriptorIndex := 66, attributes := #[] }] 49 2 #[] #[])
  fields := #[]
  methods := #[k1m0, k1m1, k1m2, k1m3, k1m4, k1m5]
  instanceTypes := #[]
  staticTypes := #[]
  resolved := Array.replicate 88 none
  statics := none }

def pool2 : Array CpInfo := pool [(1, .class_ 2), (0, u "java/io/Serializable"), (0, .class_ 4), (0, u "java/lang/Object")] 2

/-- java/io/Serializable -/
def k2 : Class := { plain "java/io/Serializable" (some 0) with
  accessFlags := 1537
  interfaces := #[]
  cf := some (fileOf pool2 1 #[] #[] 1537 3 #[] #[])
  fields := #[]
  methods := #[]
  instanceTypes := #[]
  staticTypes := #[]
  resolved := Array.replicate 7 none
  statics := none }

def pool3 : Array CpInfo := pool [(1, .class_ 2), (0, u "java/lang/Comparable"), (0, .class_ 4), (0, u "java/lang/Object")] 7

/-- java/lang/Comparable -/
def k3 : Class := { plain "java/lang/Comparable" (some 0) with
  accessFlags := 1537
  interfaces := #[]
  cf := some (fileOf pool3 1 #[] #[] 1537 3 #[] #[])
  fields := #[]
  methods := #[]
  instanceTypes := #[]
  staticTypes := #[]
  resolved := Array.replicate 12 none
  statics := none }

def pool4 : Array CpInfo := pool [(2, .class_ 4), (1, u "java/lang/CharSequence"), (42, .class_ 48), (0, u "java/lang/CharSequence$1CodePointIterator"), (10, .class_ 60), (0, u "java/lang/CharSequence$1CharIterator"), (5, .class_ 67), (0, u "java/lang/Object")] 63

/-- java/lang/CharSequence -/
def k4 : Class := { plain "java/lang/CharSequence" (some 0) with
  accessFlags := 1537
  interfaces := #[]
  cf := some (fileOf pool4 2 #[.nestMembers #[47, 59]] #[] 1537 66 #[] #[])
  fields := #[]
  methods := #[]
  instanceTypes := #[]
  staticTypes := #[]
  resolved := Array.replicate 131 none
  statics := none }

def pool5 : Array CpInfo := pool [(1, .class_ 2), (0, u "java/lang/constant/Constable"), (0, .class_ 4), (0, u "java/lang/Object")] 6

/-- java/lang/constant/Constable -/
def k5 : Class := { plain "java/lang/constant/Constable" (some 0) with
  accessFlags := 1537
  interfaces := #[]
  cf := some (fileOf pool5 1 #[] #[] 1537 3 #[] #[])
  fields := #[]
  methods := #[]
  instanceTypes := #[]
  staticTypes := #[]
  resolved := Array.replicate 11 none
  statics := none }

def pool6 : Array CpInfo := pool [(1, .class_ 2), (0, u "java/lang/constant/ConstantDesc"), (0, .class_ 4), (0, u "java/lang/Object")] 32

/-- java/lang/constant/ConstantDesc -/
def k6 : Class := { plain "java/lang/constant/ConstantDesc" (some 0) with
  accessFlags := 1537
  interfaces := #[]
  cf := some (fileOf pool6 1 #[] #[] 1537 3 #[] #[])
  fields := #[]
  methods := #[]
  instanceTypes := #[]
  staticTypes := #[]
  resolved := Array.replicate 37 none
  statics := none }

def pool7 : Array CpInfo := pool [(1, .methodref 2 3), (0, .class_ 4), (0, .nameAndType 5 6), (0, u "java/lang/Object"), (0, u "<init>"), (0, u "()V"), (0, .string 8), (0, u ""), (0, .fieldref 10 11), (0, .class_ 12), (0, .nameAndType 13 14), (0, u "java/lang/String"), (0, u "value"), (0, u "[B"), (0, .fieldref 10 16), (0, .nameAndType 17 18), (0, u "coder"), (0, u "B"), (2, u "hash"), (0, u "I"), (2, u "hashIsZero"), (0, u "Z"), (0, .methodref 10 28), (0, .nameAndType 5 29), (0, u "([CIILjava/lang/Void;)V"), (6, u "checkBoundsOffCount"), (0, u "(III)I"), (0, .fieldref 10 39), (0, .nameAndType 40 26), (0, u "COMPACT_STRINGS"), (1, .class_ 44), (1, u "java/lang/StringUTF16"), (0, u "compress"), (1, .methodref 42 48), (0, .nameAndType 49 50), (0, u "coderFromArrayLen"), (0, u "([BI)B"), (2, u "toBytes"), (0, .methodref 55 56), (0, .class_ 57), (0, .nameAndType 58 59), (0, u "java/util/Arrays"), (0, u "copyOfRange"), (0, u "([BII)[B"), (46, .methodref 107 108), (0, .class_ 109), (0, .nameAndType 110 111), (0, u "java/lang/StringLatin1"), (0, u "inflate"), (0, u "([BI[BII)V"), (30, u "()Z"), (34, .methodref 42 178), (0, .nameAndType 45 179), (0, u "([CII)[B"), (13, .class_ 195), (1, u "java/lang/System"), (13, .methodref 10 210), (0, .nameAndType 5 211), (0, u "([BB)V"), (0, .methodref 193 213), (0, .nameAndType 214 215), (0, u "arraycopy"), (0, u "(Ljava/lang/Object;ILjava/lang/Object;II)V"), (118, u "()I"), (0, .methodref 10 336), (0, .nameAndType 17 337), (0, u "()B"), (2, u "()[B"), (22, u "([BI)C"), (5, u "(C)Z"), (21, u "(II)V"), (35, u "(I)C"), (61, .methodref 10 490), (0, .nameAndType 5 491), (0, u "(Ljava/lang/AbstractStringBuilder;Ljava/lang/Void;)V"), (0, .methodref 10 493), (0, .nameAndType 494 142), (0, u "isLatin1"), (0, .methodref 107 496), (0, .nameAndType 497 363), (0, u "charAt"), (0, .methodref 42 496), (2, u "checkIndex"), (4, .nameAndType 507 334), (0, u "length"), (24, u "getBytes"), (16, .methodref 550 506), (0, .class_ 551), (0, u "java/lang/AbstractStringBuilder"), (0, .methodref 550 553), (0, .nameAndType 554 340), (0, u "getValue"), (20, .class_ 576), (0, u "java/lang/CharSequence"), (22, u "CASE_INSENSITIVE_ORDER"), (0, u "Ljava/util/Comparator;"), (181, u "valueOf"), (0, u "(C)Ljava/lang/String;"), (37, u "([BIB)V"), (188, u "([C)V"), (4, .methodref 107 1016), (0, .nameAndType 1017 369), (0, u "canEncode"), (0, .methodref 107 1019), (0, .nameAndType 53 1020), (0, u "(C)[B"), (0, .methodref 42 1019), (25, .methodref 550 493), (0, .fieldref 550 1049), (0, .nameAndType 1050 26), (0, u "maybeLatin1"), (2, .fieldref 1054 1055), (0, .class_ 1056), (0, .nameAndType 1057 1058), (0, u "jdk/internal/util/Preconditions"), (0, u "SIOOBE_FORMATTER"), (0, u "Ljava/util/function/BiFunction;"), (0, .methodref 1054 1060), (0, .nameAndType 501 1061), (0, u "(IILjava/util/function/BiFunction;)I"), (2, u "(IIILjava/util/function/BiFunction;)I"), (0, .methodref 1054 1066), (0, .nameAndType 1067 1064), (0, u "checkFromIndexSize"), (33, u "serialPersistentFields"), (0, u "[Ljava/io/ObjectStreamField;"), (0, .class_ 1104), (0, u "java/lang/String$CaseInsensitiveComparator"), (1, .class_ 1107), (0, u "java/io/Serializable"), (0, .class_ 1109), (0, u "java/lang/Comparable"), (0, .class_ 1111), (0, u "java/lang/constant/Constable"), (0, .class_ 1113), (0, u "java/lang/constant/ConstantDesc"), (2, u "serialVersionUID"), (0, u "J"), (3, u "REPL"), (0, u "C"), (2, u "LATIN1"), (1, u "UTF16"), (105, u "(Ljava/lang/StringBuilder;)V")] 217

def k7m0 : Method := { name := "<init>", desc := "()V", sig := { parameters := [], returnType := none }, accessFlags := 1, code := none }
def k7c1 : Code := { maxStack := 5, maxLocals := 2, code := jdk_42_method_3_code, exceptionTable := #[], attributes := #[] }
def k7m1 : Method := { name := "<init>", desc := "([C)V", sig := { parameters := [(.array .char)], returnType := none }, accessFlags := 1, code := some k7c1 }
def k7c2 : Code := { maxStack := 3, maxLocals := 2, code := jdk_42_method_53_code, exceptionTable := #[], attributes := #[] }
def k7m2 : Method := { name := "<init>", desc := "(Ljava/lang/StringBuilder;)V", sig := { parameters := [(.object "java/lang/StringBuilder")], returnType := none }, accessFlags := 1, code := some k7c2 }
def k7c3 : Code := { maxStack := 2, maxLocals := 1, code := jdk_42_method_54_code, exceptionTable := #[], attributes := #[] }
def k7m3 : Method := { name := "length", desc := "()I", sig := { parameters := [], returnType := some .int }, accessFlags := 1, code := some k7c3 }
def k7c4 : Code := { maxStack := 2, maxLocals := 2, code := jdk_42_method_56_code, exceptionTable := #[], attributes := #[] }
def k7m4 : Method := { name := "charAt", desc := "(I)C", sig := { parameters := [.int], returnType := some .char }, accessFlags := 1, code := some k7c4 }
def k7c5 : Code := { maxStack := 4, maxLocals := 1, code := jdk_42_method_139_code, exceptionTable := #[], attributes := #[] }
def k7m5 : Method := { name := "valueOf", desc := "(C)Ljava/lang/String;", sig := { parameters := [.char], returnType := some (.object "java/lang/String") }, accessFlags := 9, code := some k7c5 }
def k7c6 : Code := { maxStack := 5, maxLocals := 4, code := jdk_42_method_147_code, exceptionTable := #[], attributes := #[] }
def k7m6 : Method := { name := "getBytes", desc := "([BIB)V", sig := { parameters := [(.array .byte), .int, .byte], returnType := none }, accessFlags := 0, code := some k7c6 }
def k7c7 : Code := { maxStack := 4, maxLocals := 6, code := jdk_42_method_149_code, exceptionTable := #[], attributes := #[] }
def k7m7 : Method := { name := "<init>", desc := "([CIILjava/lang/Void;)V", sig := { parameters := [(.array .char), .int, .int, (.object "java/lang/Void")], returnType := none }, accessFlags := 2, code := some k7c7 }
def k7c8 : Code := { maxStack := 5, maxLocals := 5, code := jdk_42_method_150_code, exceptionTable := #[], attributes := #[] }
def k7m8 : Method := { name := "<init>", desc := "(Ljava/lang/AbstractStringBuilder;Ljava/lang/Void;)V", sig := { parameters := [(.object "java/lang/AbstractStringBuilder"), (.object "java/lang/Void")], returnType := none }, accessFlags := 0, code := some k7c8 }
def k7c9 : Code := { maxStack := 2, maxLocals := 3, code := jdk_42_method_151_code, exceptionTable := #[], attributes := #[] }
def k7m9 : Method := { name := "<init>", desc := "([BB)V", sig := { parameters := [(.array .byte), .byte], returnType := none }, accessFlags := 0, code := some k7c9 }
def k7c10 : Code := { maxStack := 1, maxLocals := 1, code := jdk_42_method_152_code, exceptionTable := #[], attributes := #[] }
def k7m10 : Method := { name := "coder", desc := "()B", sig := { parameters := [], returnType := some .byte }, accessFlags := 0, code := some k7c10 }
def k7c11 : Code := { maxStack := 1, maxLocals := 1, code := jdk_42_method_154_code, exceptionTable := #[], attributes := #[] }
def k7m11 : Method := { name := "isLatin1", desc := "()Z", sig := { parameters := [], returnType := some .boolean }, accessFlags := 0, code := some k7c11 }
def k7c12 : Code := { maxStack := 3, maxLocals := 2, code := jdk_42_method_155_code, exceptionTable := #[], attributes := #[] }
def k7m12 : Method := { name := "checkIndex", desc := "(II)V", sig := { parameters := [.int, .int], returnType := none }, accessFlags := 8, code := some k7c12 }
def k7c13 : Code := { maxStack := 4, maxLocals := 3, code := jdk_42_method_157_code, exceptionTable := #[], attributes := #[] }
def k7m13 : Method := { name := "checkBoundsOffCount", desc := "(III)I", sig := { parameters := [.int, .int, .int], returnType := some .int }, accessFlags := 8, code := some k7c13 }
/-- java/lang/String -/
def k7 : Class := { plain "java/lang/String" (some 0) with
  accessFlags := 49
  interfaces := #[2, 3, 4, 5, 6]
  cf := some (fileOf pool7 10 #[.nestMembers #[1103]] #[{ accessFlags := 1, nameIndex := 5, descriptorIndex := 6, attributes := #[] }, { accessFlags := 1, nameIndex := 5, descriptorIndex := 1010, attributes := #[] }, { accessFlags := 1, nameIndex := 5, descriptorIndex := 1233, attributes := #[] }, { accessFlags := 1, nameIndex := 507, descriptorIndex := 334, attributes := #[] }, { accessFlags := 1, nameIndex := 497, descriptorIndex := 427, attributes := #[] }, { accessFlags := 9, nameIndex := 782, descriptorIndex := 783, attributes := #[] }, { accessFlags := 0, nameIndex := 532, descriptorIndex := 821, attributes := #[] }, { accessFlags := 2, nameIndex := 5, descriptorIndex := 29, attributes := #[] }, { accessFlags := 0, nameIndex := 5, descriptorIndex := 491, attributes := #[] }, { accessFlags := 0, nameIndex := 5, descriptorIndex := 211, attributes := #[] }, { accessFlags := 0, nameIndex := 17, descriptorIndex := 337, attributes := #[] }, { accessFlags := 0, nameIndex := 494, descriptorIndex := 142, attributes := #[] }, { accessFlags := 8, nameIndex := 501, descriptorIndex := 391, attributes := #[] }, { accessFlags := 8, nameIndex := 36, descriptorIndex := 37, attributes := #[] }] 49 2 #[1106, 1108, 575, 1110, 1112] #[{ accessFlags := 18, nameIndex := 13, descriptorIndex := 14, attributes := #[] }, { accessFlags := 18, nameIndex := 17, descriptorIndex := 18, attributes := #[] }, { accessFlags := 2, nameIndex := 21, descriptorIndex := 22, attributes := #[] }, { accessFlags := 2, nameIndex := 25, descriptorIndex := 26, attributes := #[] }, { accessFlags := 26, nameIndex := 1116, descriptorIndex := 1117, attributes := #[] }, { accessFlags := 24, nameIndex := 40, descriptorIndex := 26, attributes := #[] }, { accessFlags := 26, nameIndex := 1101, descriptorIndex := 1102, attributes := #[] }, { accessFlags := 26, nameIndex := 1121, descriptorIndex := 1122, attributes := #[] }, { accessFlags := 25, nameIndex := 599, descriptorIndex := 600, attributes := #[] }, { accessFlags := 24, nameIndex := 1125, descriptorIndex := 18, attributes := #[] }, { accessFlags := 24, nameIndex := 1127, descriptorIndex := 18, attributes := #[] }])
  fields := #[{ name := "value", type := (.array .byte), accessFlags := 18, slot := 0, constantValue := 0 }, { name := "coder", type := .byte, accessFlags := 18, slot := 1, constantValue := 0 }, { name := "hash", type := .int, accessFlags := 2, slot := 2, constantValue := 0 }, { name := "hashIsZero", type := .boolean, accessFlags := 2, slot := 3, constantValue := 0 }, { name := "serialVersionUID", type := .long, accessFlags := 26, slot := 0, constantValue := 0 }, { name := "COMPACT_STRINGS", type := .boolean, accessFlags := 24, slot := 1, constantValue := 0 }, { name := "serialPersistentFields", type := (.array (.object "java/io/ObjectStreamField")), accessFlags := 26, slot := 2, constantValue := 0 }, { name := "REPL", type := .char, accessFlags := 26, slot := 3, constantValue := 0 }, { name := "CASE_INSENSITIVE_ORDER", type := (.object "java/util/Comparator"), accessFlags := 25, slot := 4, constantValue := 0 }, { name := "LATIN1", type := .byte, accessFlags := 24, slot := 5, constantValue := 0 }, { name := "UTF16", type := .byte, accessFlags := 24, slot := 6, constantValue := 0 }]
  methods := #[k7m0, k7m1, k7m2, k7m3, k7m4, k7m5, k7m6, k7m7, k7m8, k7m9, k7m10, k7m11, k7m12, k7m13]
  instanceTypes := #[(.array .byte), .byte, .int, .boolean]
  staticTypes := #[.long, .boolean, (.array (.object "java/io/ObjectStreamField")), .char, (.object "java/util/Comparator"), .byte, .byte]
  resolved := Array.replicate 1451 none
  statics := some 0 }

def pool8 : Array CpInfo := pool [(3, .class_ 4), (0, u "java/lang/String"), (1, .class_ 8), (1, u "java/lang/Object"), (0, u "<init>"), (0, u "()V"), (0, .methodref 12 13), (0, .class_ 14), (0, .nameAndType 15 16), (0, u "java/lang/StringUTF16"), (0, u "newBytesLength"), (0, u "(I)I"), (3, .integer 1073741823), (23, .fieldref 12 45), (0, .nameAndType 46 47), (0, u "$assertionsDisabled"), (0, u "Z"), (0, .methodref 12 49), (0, .nameAndType 50 51), (0, u "length"), (0, u "([B)I"), (7, .fieldref 12 60), (0, .nameAndType 61 62), (0, u "HI_BYTE_SHIFT"), (0, u "I"), (0, .fieldref 12 64), (0, .nameAndType 65 62), (0, u "LO_BYTE_SHIFT"), (1, .methodref 12 68), (0, .nameAndType 69 70), (0, u "checkIndex"), (0, u "(I[B)V"), (0, .methodref 12 72), (0, .nameAndType 73 74), (0, u "getChar"), (0, u "([BI)C"), (24, u "(II[B)V"), (7, .methodref 12 108), (0, .nameAndType 109 110), (0, u "newBytesFor"), (0, u "(I)[B"), (0, .methodref 12 112), (0, .nameAndType 113 114), (0, u "putChar"), (0, u "([BII)V"), (0, .methodref 12 116), (0, .nameAndType 117 118), (0, u "compress"), (0, u "([CI[BII)I"), (0, .methodref 12 120), (0, .nameAndType 121 122), (0, u "toBytes"), (0, u "([CII)[B"), (17, u "inflate"), (0, u "([BI[BII)V"), (31, .methodref 12 174), (0, .nameAndType 175 99), (0, u "checkBoundsOffCount"), (85, u "coderFromArrayLen"), (0, u "([BI)B"), (18, u "(III)I"), (87, .class_ 371), (1, u "java/lang/StringUTF16$LinesSpliterator"), (20, u "charAt"), (21, .methodref 3 415), (0, .nameAndType 69 416), (0, u "(II)V"), (2, .methodref 3 420), (0, .nameAndType 175 281), (9, u "MAX_LENGTH"), (44, u "(C)[B"), (110, u "putCharSB"), (40, .class_ 628), (0, u "java/lang/StringUTF16$CodePointsSpliterator"), (0, .class_ 630), (0, u "java/lang/StringUTF16$CharsSpliterator")] 4

def k8m0 : Method := { name := "<init>", desc := "()V", sig := { parameters := [], returnType := none }, accessFlags := 0, code := none }
def k8c1 : Code := { maxStack := 1, maxLocals := 1, code := jdk_52_method_2_code, exceptionTable := #[], attributes := #[] }
def k8m1 : Method := { name := "newBytesFor", desc := "(I)[B", sig := { parameters := [.int], returnType := some (.array .byte) }, accessFlags := 9, code := some k8c1 }
def k8c2 : Code := { maxStack := 4, maxLocals := 1, code := jdk_52_method_3_code, exceptionTable := #[], attributes := #[] }
def k8m2 : Method := { name := "newBytesLength", desc := "(I)I", sig := { parameters := [.int], returnType := some .int }, accessFlags := 9, code := some k8c2 }
def k8c3 : Code := { maxStack := 4, maxLocals := 3, code := jdk_52_method_4_code, exceptionTable := #[], attributes := #[] }
def k8m3 : Method := { name := "putChar", desc := "([BII)V", sig := { parameters := [(.array .byte), .int, .int], returnType := none }, accessFlags := 8, code := some k8c3 }
def k8c4 : Code := { maxStack := 3, maxLocals := 2, code := jdk_52_method_5_code, exceptionTable := #[], attributes := #[] }
def k8m4 : Method := { name := "getChar", desc := "([BI)C", sig := { parameters := [(.array .byte), .int], returnType := some .char }, accessFlags := 8, code := some k8c4 }
def k8c5 : Code := { maxStack := 2, maxLocals := 1, code := jdk_52_method_6_code, exceptionTable := #[], attributes := #[] }
def k8m5 : Method := { name := "length", desc := "([B)I", sig := { parameters := [(.array .byte)], returnType := some .int }, accessFlags := 9, code := some k8c5 }
def k8c6 : Code := { maxStack := 4, maxLocals := 5, code := jdk_52_method_14_code, exceptionTable := #[], attributes := #[] }
def k8m6 : Method := { name := "toBytes", desc := "([CII)[B", sig := { parameters := [(.array .char), .int, .int], returnType := some (.array .byte) }, accessFlags := 9, code := some k8c6 }
def k8c7 : Code := { maxStack := 2, maxLocals := 2, code := jdk_52_method_15_code, exceptionTable := #[], attributes := #[] }
def k8m7 : Method := { name := "coderFromArrayLen", desc := "([BI)B", sig := { parameters := [(.array .byte), .int], returnType := some .byte }, accessFlags := 8, code := some k8c7 }
def k8c8 : Code := { maxStack := 5, maxLocals := 6, code := jdk_52_method_16_code, exceptionTable := #[], attributes := #[] }
def k8m8 : Method := { name := "compress", desc := "([CII)[B", sig := { parameters := [(.array .char), .int, .int], returnType := some (.array .byte) }, accessFlags := 9, code := some k8c8 }
def k8c9 : Code := { maxStack := 3, maxLocals := 7, code := jdk_52_method_21_code, exceptionTable := #[], attributes := #[] }
def k8m9 : Method := { name := "compress", desc := "([CI[BII)I", sig := { parameters := [(.array .char), .int, (.array .byte), .int, .int], returnType := some .int }, accessFlags := 9, code := some k8c9 }
def k8c10 : Code := { maxStack := 3, maxLocals := 2, code := jdk_52_method_24_code, exceptionTable := #[], attributes := #[] }
def k8m10 : Method := { name := "toBytes", desc := "(C)[B", sig := { parameters := [.char], returnType := some (.array .byte) }, accessFlags := 9, code := some k8c10 }
def k8c11 : Code := { maxStack := 3, maxLocals := 3, code := jdk_52_method_71_code, exceptionTable := #[], attributes := #[] }
def k8m11 : Method := { name := "putCharSB", desc := "([BII)V", sig := { parameters := [(.array .byte), .int, .int], returnType := none }, accessFlags := 9, code := some k8c11 }
def k8c12 : Code := { maxStack := 2, maxLocals := 2, code := jdk_52_method_83_code, exceptionTable := #[], attributes := #[] }
def k8m12 : Method := { name := "charAt", desc := "([BI)C", sig := { parameters := [(.array .byte), .int], returnType := some .char }, accessFlags := 9, code := some k8c12 }
def k8c13 : Code := { maxStack := 4, maxLocals := 6, code := jdk_52_method_86_code, exceptionTable := #[], attributes := #[] }
def k8m13 : Method := { name := "inflate", desc := "([BI[BII)V", sig := { parameters := [(.array .byte), .int, (.array .byte), .int, .int], returnType := none }, accessFlags := 9, code := some k8c13 }
def k8c14 : Code := { maxStack := 2, maxLocals := 2, code := jdk_52_method_91_code, exceptionTable := #[], attributes := #[] }
def k8m14 : Method := { name := "checkIndex", desc := "(I[B)V", sig := { parameters := [.int, (.array .byte)], returnType := none }, accessFlags := 9, code := some k8c14 }
def k8c15 : Code := { maxStack := 3, maxLocals := 3, code := jdk_52_method_94_code, exceptionTable := #[], attributes := #[] }
def k8m15 : Method := { name := "checkBoundsOffCount", desc := "(II[B)V", sig := { parameters := [.int, .int, (.array .byte)], returnType := none }, accessFlags := 9, code := some k8c15 }
/-- java/lang/StringUTF16 -/
def k8 : Class := { plain "java/lang/StringUTF16" (some 0) with
  accessFlags := 48
  interfaces := #[]
  cf := some (fileOf pool8 12 #[.nestMembers #[627, 629, 369]] #[{ accessFlags := 0, nameIndex := 9, descriptorIndex := 10, attributes := #[] }, { accessFlags := 9, nameIndex := 109, descriptorIndex := 110, attributes := #[] }, { accessFlags := 9, nameIndex := 15, descriptorIndex := 16, attributes := #[] }, { accessFlags := 8, nameIndex := 113, descriptorIndex := 114, attributes := #[] }, { accessFlags := 8, nameIndex := 73, descriptorIndex := 74, attributes := #[] }, { accessFlags := 9, nameIndex := 50, descriptorIndex := 51, attributes := #[] }, { accessFlags := 9, nameIndex := 121, descriptorIndex := 122, attributes := #[] }, { accessFlags := 8, nameIndex := 261, descriptorIndex := 262, attributes := #[] }, { accessFlags := 9, nameIndex := 117, descriptorIndex := 122, attributes := #[] }, { accessFlags := 9, nameIndex := 117, descriptorIndex := 118, attributes := #[] }, { accessFlags := 9, nameIndex := 121, descriptorIndex := 475, attributes := #[] }, { accessFlags := 9, nameIndex := 586, descriptorIndex := 114, attributes := #[] }, { accessFlags := 9, nameIndex := 392, descriptorIndex := 74, attributes := #[] }, { accessFlags := 9, nameIndex := 140, descriptorIndex := 141, attributes := #[] }, { accessFlags := 9, nameIndex := 69, descriptorIndex := 70, attributes := #[] }, { accessFlags := 9, nameIndex := 175, descriptorIndex := 99, attributes := #[] }] 48 6 #[] #[{ accessFlags := 26, nameIndex := 61, descriptorIndex := 62, attributes := #[] }, { accessFlags := 26, nameIndex := 65, descriptorIndex := 62, attributes := #[] }, { accessFlags := 24, nameIndex := 430, descriptorIndex := 62, attributes := #[] }, { accessFlags := 4120, nameIndex := 46, descriptorIndex := 47, attributes := #[] }])
  fields := #[{ name := "HI_BYTE_SHIFT", type := .int, accessFlags := 26, slot := 0, constantValue := 0 }, { name := "LO_BYTE_SHIFT", type := .int, accessFlags := 26, slot := 1, constantValue := 0 }, { name := "MAX_LENGTH", type := .int, accessFlags := 24, slot := 2, constantValue := 0 }, { name := "$assertionsDisabled", type := .boolean, accessFlags := 4120, slot := 3, constantValue := 0 }]
  methods := #[k8m0, k8m1, k8m2, k8m3, k8m4, k8m5, k8m6, k8m7, k8m8, k8m9, k8m10, k8m11, k8m12, k8m13, k8m14, k8m15]
  instanceTypes := #[]
  staticTypes := #[.int, .int, .int, .boolean]
  resolved := Array.replicate 635 none
  statics := some 1 }

def pool9 : Array CpInfo := pool [(8, .class_ 10), (1, u "java/lang/Iterable"), (24, .class_ 36), (0, u "java/lang/Object")] 25

/-- java/lang/Iterable -/
def k9 : Class := { plain "java/lang/Iterable" (some 0) with
  accessFlags := 1537
  interfaces := #[]
  cf := some (fileOf pool9 8 #[] #[] 1537 35 #[] #[])
  fields := #[]
  methods := #[]
  instanceTypes := #[]
  staticTypes := #[]
  resolved := Array.replicate 62 none
  statics := none }

def pool10 : Array CpInfo := pool [(10, .class_ 12), (1, u "java/util/Collection"), (47, .class_ 61), (0, u "java/lang/Object"), (0, .class_ 63), (0, u "java/lang/Iterable")] 51

/-- java/util/Collection -/
def k10 : Class := { plain "java/util/Collection" (some 0) with
  accessFlags := 1537
  interfaces := #[9]
  cf := some (fileOf pool10 10 #[] #[] 1537 60 #[62] #[])
  fields := #[]
  methods := #[]
  instanceTypes := #[]
  staticTypes := #[]
  resolved := Array.replicate 115 none
  statics := none }

def pool11 : Array CpInfo := pool [(1, .methodref 2 3), (0, .class_ 4), (0, .nameAndType 5 6), (0, u "java/lang/Object"), (0, u "<init>"), (0, u "()V"), (1, .class_ 10), (1, u "java/util/AbstractCollection"), (66, .class_ 78), (0, u "java/util/Collection")] 81

def k11c0 : Code := { maxStack := 1, maxLocals := 1, code := jdk_22_method_1_code, exceptionTable := #[], attributes := #[] }
def k11m0 : Method := { name := "<init>", desc := "()V", sig := { parameters := [], returnType := none }, accessFlags := 4, code := some k11c0 }
/-- java/util/AbstractCollection -/
def k11 : Class := { plain "java/util/AbstractCollection" (some 0) with
  accessFlags := 1057
  interfaces := #[10]
  cf := some (fileOf pool11 8 #[] #[{ accessFlags := 4, nameIndex := 5, descriptorIndex := 6, attributes := #[] }] 1057 2 #[77] #[])
  fields := #[]
  methods := #[k11m0]
  instanceTypes := #[]
  staticTypes := #[]
  resolved := Array.replicate 160 none
  statics := none }

def pool12 : Array CpInfo := pool [(8, .class_ 10), (1, u "java/util/SequencedCollection"), (15, .class_ 27), (0, u "java/lang/Object"), (0, .class_ 29), (0, u "java/util/Collection")] 27

/-- java/util/SequencedCollection -/
def k12 : Class := { plain "java/util/SequencedCollection" (some 0) with
  accessFlags := 1537
  interfaces := #[10]
  cf := some (fileOf pool12 8 #[] #[] 1537 26 #[28] #[])
  fields := #[]
  methods := #[]
  instanceTypes := #[]
  staticTypes := #[]
  resolved := Array.replicate 57 none
  statics := none }

def pool13 : Array CpInfo := pool [(8, .class_ 10), (1, u "java/util/List"), (68, u "size"), (0, u "()I"), (22, .class_ 104), (0, u "java/lang/Object"), (15, .class_ 121), (0, u "java/util/SequencedCollection"), (1, u "iterator"), (0, u "()Ljava/util/Iterator;")] 126

def k13m0 : Method := { name := "size", desc := "()I", sig := { parameters := [], returnType := some .int }, accessFlags := 1025, code := none }
def k13m1 : Method := { name := "iterator", desc := "()Ljava/util/Iterator;", sig := { parameters := [], returnType := some (.object "java/util/Iterator") }, accessFlags := 1025, code := none }
/-- java/util/List -/
def k13 : Class := { plain "java/util/List" (some 0) with
  accessFlags := 1537
  interfaces := #[12]
  cf := some (fileOf pool13 8 #[] #[{ accessFlags := 1025, nameIndex := 79, descriptorIndex := 80, attributes := #[] }, { accessFlags := 1025, nameIndex := 123, descriptorIndex := 124, attributes := #[] }] 1537 103 #[120] #[])
  fields := #[]
  methods := #[k13m0, k13m1]
  instanceTypes := #[]
  staticTypes := #[]
  resolved := Array.replicate 251 none
  statics := none }

def pool14 : Array CpInfo := pool [(1, .methodref 2 3), (0, .class_ 4), (0, .nameAndType 5 6), (0, u "java/util/AbstractCollection"), (0, u "<init>"), (0, u "()V"), (0, .fieldref 8 9), (0, .class_ 10), (0, .nameAndType 11 12), (0, u "java/util/AbstractList"), (0, u "modCount"), (0, u "I"), (64, .class_ 78), (0, u "java/util/AbstractList$Itr"), (3, .class_ 83), (0, u "java/util/AbstractList$ListItr"), (9, .class_ 94), (0, u "java/util/AbstractList$RandomAccessSubList"), (3, .class_ 99), (0, u "java/util/AbstractList$SubList"), (33, .class_ 134), (0, u "java/util/List"), (73, .class_ 209), (0, u "java/util/AbstractList$SubList$1"), (0, .class_ 211), (0, u "java/util/AbstractList$RandomAccessSpliterator")] 6

def k14c0 : Code := { maxStack := 2, maxLocals := 1, code := jdk_39_method_1_code, exceptionTable := #[], attributes := #[] }
def k14m0 : Method := { name := "<init>", desc := "()V", sig := { parameters := [], returnType := none }, accessFlags := 4, code := some k14c0 }
/-- java/util/AbstractList -/
def k14 : Class := { plain "java/util/AbstractList" (some 11) with
  accessFlags := 1057
  interfaces := #[13]
  cf := some (fileOf pool14 8 #[.nestMembers #[93, 98, 208, 210, 82, 77]] #[{ accessFlags := 4, nameIndex := 5, descriptorIndex := 6, attributes := #[] }] 1057 2 #[133] #[{ accessFlags := 132, nameIndex := 11, descriptorIndex := 12, attributes := #[] }])
  fields := #[{ name := "modCount", type := .int, accessFlags := 132, slot := 0, constantValue := 0 }]
  methods := #[k14m0]
  instanceTypes := #[.int]
  staticTypes := #[]
  resolved := Array.replicate 218 none
  statics := none }

def pool15 : Array CpInfo := pool [(1, .class_ 2), (0, u "java/util/RandomAccess"), (0, .class_ 4), (0, u "java/lang/Object")] 2

/-- java/util/RandomAccess -/
def k15 : Class := { plain "java/util/RandomAccess" (some 0) with
  accessFlags := 1537
  interfaces := #[]
  cf := some (fileOf pool15 1 #[] #[] 1537 3 #[] #[])
  fields := #[]
  methods := #[]
  instanceTypes := #[]
  staticTypes := #[]
  resolved := Array.replicate 7 none
  statics := none }

def pool16 : Array CpInfo := pool [(1, .class_ 2), (0, u "java/lang/Cloneable"), (0, .class_ 4), (0, u "java/lang/Object")] 2

/-- java/lang/Cloneable -/
def k16 : Class := { plain "java/lang/Cloneable" (some 0) with
  accessFlags := 1537
  interfaces := #[]
  cf := some (fileOf pool16 1 #[] #[] 1537 3 #[] #[])
  fields := #[]
  methods := #[]
  instanceTypes := #[]
  staticTypes := #[]
  resolved := Array.replicate 7 none
  statics := none }

def pool17 : Array CpInfo := pool [(1, .methodref 2 3), (0, .class_ 4), (0, .nameAndType 5 6), (0, u "java/util/AbstractList"), (0, u "<init>"), (0, u "()V"), (0, .class_ 8), (0, u "java/lang/Object"), (0, .fieldref 10 11), (0, .class_ 12), (0, .nameAndType 13 14), (0, u "java/util/ArrayList"), (0, u "elementData"), (0, u "[Ljava/lang/Object;"), (2, u "EMPTY_ELEMENTDATA"), (21, .fieldref 10 40), (0, .nameAndType 41 14), (0, u "DEFAULTCAPACITY_EMPTY_ELEMENTDATA"), (5, u "()[Ljava/lang/Object;"), (0, .fieldref 10 49), (0, .nameAndType 50 51), (0, u "size"), (0, u "I"), (11, .fieldref 10 64), (0, .nameAndType 65 51), (0, u "modCount"), (3, .methodref 10 70), (0, .nameAndType 71 72), (0, u "grow"), (0, u "(I)[Ljava/lang/Object;"), (6, .methodref 80 81), (0, .class_ 82), (0, .nameAndType 83 84), (0, u "java/lang/Math"), (0, u "max"), (0, u "(II)I"), (11, u "(Ljava/lang/Object;)Z"), (32, .methodref 10 130), (0, .nameAndType 71 47), (0, .methodref 10 132), (0, .nameAndType 133 134), (0, u "add"), (0, u "(Ljava/lang/Object;[Ljava/lang/Object;I)V"), (13, .class_ 149), (0, u "java/util/List"), (16, u "iterator"), (0, u "()Ljava/util/Iterator;"), (18, u "()I"), (75, .class_ 263), (0, u "java/util/ArrayList$ListItr"), (3, .class_ 268), (0, u "java/util/ArrayList$Itr"), (0, .methodref 267 270), (0, .nameAndType 5 271), (0, u "(Ljava/util/ArrayList;)V"), (4, .class_ 277), (0, u "java/util/ArrayList$SubList"), (12, .class_ 291), (0, u "java/util/ArrayList$ArrayListSpliterator"), (37, .class_ 330), (0, u "java/util/RandomAccess"), (0, .class_ 332), (0, u "java/lang/Cloneable"), (0, .class_ 334), (0, u "java/io/Serializable"), (0, u "serialVersionUID"), (0, u "J"), (3, u "DEFAULT_CAPACITY"), (159, .class_ 501), (0, u "java/util/ArrayList$SubList$2"), (0, .class_ 503), (0, u "java/util/ArrayList$SubList$1")] 5

def k17c0 : Code := { maxStack := 2, maxLocals := 1, code := jdk_38_method_2_code, exceptionTable := #[], attributes := #[] }
def k17m0 : Method := { name := "<init>", desc := "()V", sig := { parameters := [], returnType := none }, accessFlags := 1, code := some k17c0 }
def k17c1 : Code := { maxStack := 4, maxLocals := 4, code := jdk_38_method_6_code, exceptionTable := #[], attributes := #[] }
def k17m1 : Method := { name := "grow", desc := "(I)[Ljava/lang/Object;", sig := { parameters := [.int], returnType := some (.array (.object "java/lang/Object")) }, accessFlags := 2, code := some k17c1 }
def k17c2 : Code := { maxStack := 3, maxLocals := 1, code := jdk_38_method_7_code, exceptionTable := #[], attributes := #[] }
def k17m2 : Method := { name := "grow", desc := "()[Ljava/lang/Object;", sig := { parameters := [], returnType := some (.array (.object "java/lang/Object")) }, accessFlags := 2, code := some k17c2 }
def k17c3 : Code := { maxStack := 1, maxLocals := 1, code := jdk_38_method_8_code, exceptionTable := #[], attributes := #[] }
def k17m3 : Method := { name := "size", desc := "()I", sig := { parameters := [], returnType := some .int }, accessFlags := 1, code := some k17c3 }
def k17c4 : Code := { maxStack := 3, maxLocals := 4, code := jdk_38_method_24_code, exceptionTable := #[], attributes := #[] }
def k17m4 : Method := { name := "add", desc := "(Ljava/lang/Object;[Ljava/lang/Object;I)V", sig := { parameters := [(.object "java/lang/Object"), (.array (.object "java/lang/Object")), .int], returnType := none }, accessFlags := 2, code := some k17c4 }
def k17c5 : Code := { maxStack := 4, maxLocals := 2, code := jdk_38_method_25_code, exceptionTable := #[], attributes := #[] }
def k17m5 : Method := { name := "add", desc := "(Ljava/lang/Object;)Z", sig := { parameters := [(.object "java/lang/Object")], returnType := some .boolean }, accessFlags := 1, code := some k17c5 }
def k17c6 : Code := { maxStack := 3, maxLocals := 1, code := jdk_38_method_55_code, exceptionTable := #[], attributes := #[] }
def k17m6 : Method := { name := "iterator", desc := "()Ljava/util/Iterator;", sig := { parameters := [], returnType := some (.object "java/util/Iterator") }, accessFlags := 1, code := some k17c6 }
/-- java/util/ArrayList -/
def k17 : Class := { plain "java/util/ArrayList" (some 14) with
  accessFlags := 33
  interfaces := #[13, 15, 16, 2]
  cf := some (fileOf pool17 10 #[.nestMembers #[290, 276, 500, 502, 262, 267]] #[{ accessFlags := 1, nameIndex := 5, descriptorIndex := 6, attributes := #[] }, { accessFlags := 2, nameIndex := 71, descriptorIndex := 72, attributes := #[] }, { accessFlags := 2, nameIndex := 71, descriptorIndex := 47, attributes := #[] }, { accessFlags := 1, nameIndex := 50, descriptorIndex := 186, attributes := #[] }, { accessFlags := 2, nameIndex := 133, descriptorIndex := 134, attributes := #[] }, { accessFlags := 1, nameIndex := 133, descriptorIndex := 96, attributes := #[] }, { accessFlags := 1, nameIndex := 166, descriptorIndex := 167, attributes := #[] }] 33 2 #[148, 329, 331, 333] #[{ accessFlags := 26, nameIndex := 335, descriptorIndex := 336, attributes := #[] }, { accessFlags := 26, nameIndex := 340, descriptorIndex := 51, attributes := #[] }, { accessFlags := 26, nameIndex := 17, descriptorIndex := 14, attributes := #[] }, { accessFlags := 26, nameIndex := 41, descriptorIndex := 14, attributes := #[] }, { accessFlags := 128, nameIndex := 13, descriptorIndex := 14, attributes := #[] }, { accessFlags := 2, nameIndex := 50, descriptorIndex := 51, attributes := #[] }])
  fields := #[{ name := "serialVersionUID", type := .long, accessFlags := 26, slot := 0, constantValue := 0 }, { name := "DEFAULT_CAPACITY", type := .int, accessFlags := 26, slot := 1, constantValue := 0 }, { name := "EMPTY_ELEMENTDATA", type := (.array (.object "java/lang/Object")), accessFlags := 26, slot := 2, constantValue := 0 }, { name := "DEFAULTCAPACITY_EMPTY_ELEMENTDATA", type := (.array (.object "java/lang/Object")), accessFlags := 26, slot := 3, constantValue := 0 }, { name := "elementData", type := (.array (.object "java/lang/Object")), accessFlags := 128, slot := 1, constantValue := 0 }, { name := "size", type := .int, accessFlags := 2, slot := 2, constantValue := 0 }]
  methods := #[k17m0, k17m1, k17m2, k17m3, k17m4, k17m5, k17m6]
  instanceTypes := #[.int, (.array (.object "java/lang/Object")), .int]
  staticTypes := #[.long, .int, (.array (.object "java/lang/Object")), (.array (.object "java/lang/Object"))]
  resolved := Array.replicate 509 none
  statics := some 2 }

def pool18 : Array CpInfo := pool [(1, .methodref 2 3), (0, .class_ 4), (0, .nameAndType 5 6), (0, u "java/lang/Object"), (0, u "<init>"), (0, u "()V"), (0, .class_ 8), (0, u "java/lang/Record")] 13

def k18c0 : Code := { maxStack := 1, maxLocals := 1, code := jdk_30_method_1_code, exceptionTable := #[], attributes := #[] }
def k18m0 : Method := { name := "<init>", desc := "()V", sig := { parameters := [], returnType := none }, accessFlags := 4, code := some k18c0 }
/-- java/lang/Record -/
def k18 : Class := { plain "java/lang/Record" (some 0) with
  accessFlags := 1057
  interfaces := #[]
  cf := some (fileOf pool18 7 #[] #[{ accessFlags := 4, nameIndex := 5, descriptorIndex := 6, attributes := #[] }] 1057 2 #[] #[])
  fields := #[]
  methods := #[k18m0]
  instanceTypes := #[]
  staticTypes := #[]
  resolved := Array.replicate 22 none
  statics := none }

def pool19 : Array CpInfo := pool [(2, .class_ 4), (1, u "java/lang/Record"), (0, u "<init>"), (2, u "text"), (7, .class_ 18), (1, u "java/util/List"), (3, .class_ 24), (1, u "com/example/attentive_search/attentivesearch/Highlight"), (4, u "Ljava/lang/String;"), (2, u "marks"), (0, u "Ljava/util/List;"), (2, u "matches"), (0, u "Z"), (2, u "html"), (0, u "(Ljava/lang/String;Ljava/util/List;)Ljava/lang/String;"), (0, .interfaceMethodref 16 43), (0, .nameAndType 44 45), (0, u "iterator"), (0, u "()Ljava/util/Iterator;"), (0, .interfaceMethodref 47 48), (0, .class_ 49), (0, .nameAndType 50 51), (0, u "java/util/Iterator"), (0, u "hasNext"), (0, u "()Z"), (0, .interfaceMethodref 47 53), (0, .nameAndType 54 55), (0, u "next"), (0, u "()Ljava/lang/Object;"), (0, .class_ 57), (0, u "com/example/attentive_search/attentivesearch/Highlight$Mark"), (0, .methodref 56 59), (0, .nameAndType 60 61), (0, u "start"), (0, u "()I"), (0, .methodref 56 63), (0, .nameAndType 64 61), (0, u "end"), (0, .methodref 66 67), (0, .class_ 68), (0, .nameAndType 69 61), (0, u "java/lang/String"), (0, u "length"), (9, .class_ 80), (0, u "java/lang/StringBuilder"), (0, .interfaceMethodref 16 82), (0, .nameAndType 83 61), (0, u "size"), (0, .string 85), (0, u "<b></b>"), (0, .methodref 79 87), (0, .nameAndType 5 88), (0, u "(I)V"), (0, .methodref 22 90), (0, .nameAndType 91 92), (0, u "escape"), (0, u "(Ljava/lang/String;IILjava/lang/StringBuilder;)V"), (0, .string 94), (0, u "<b>"), (0, .methodref 79 96), (0, .nameAndType 97 98), (0, u "append"), (0, u "(Ljava/lang/String;)Ljava/lang/StringBuilder;"), (0, .string 100), (0, u "</b>"), (0, .methodref 79 102), (0, .nameAndType 103 104), (0, u "toString"), (0, u "()Ljava/lang/String;"), (0, .methodref 66 106), (0, .nameAndType 107 108), (0, u "charAt"), (0, u "(I)C"), (0, .string 110), (0, u "&amp;"), (0, .string 112), (0, u "&lt;"), (0, .string 114), (0, u "&gt;"), (0, .string 116), (0, u "&quot;"), (0, .string 118), (0, u "&#39;"), (0, .methodref 79 120), (0, .nameAndType 97 121), (0, u "(C)Ljava/lang/StringBuilder;")] 56

def k19c0 : Code := { maxStack := 5, maxLocals := 6, code := prog_6_method_4_code, exceptionTable := #[], attributes := #[] }
def k19m0 : Method := { name := "html", desc := "(Ljava/lang/String;Ljava/util/List;)Ljava/lang/String;", sig := { parameters := [(.object "java/lang/String"), (.object "java/util/List")], returnType := some (.object "java/lang/String") }, accessFlags := 8, code := some k19c0 }
def k19c1 : Code := { maxStack := 2, maxLocals := 6, code := prog_6_method_5_code, exceptionTable := #[], attributes := #[] }
def k19m1 : Method := { name := "escape", desc := "(Ljava/lang/String;IILjava/lang/StringBuilder;)V", sig := { parameters := [(.object "java/lang/String"), .int, .int, (.object "java/lang/StringBuilder")], returnType := none }, accessFlags := 10, code := some k19c1 }
/-- com/example/attentive_search/attentivesearch/Highlight -/
def k19 : Class := { plain "com/example/attentive_search/attentivesearch/Highlight" (some 18) with
  accessFlags := 49
  interfaces := #[]
  cf := some (fileOf pool19 22 #[.nestMembers #[56]] #[{ accessFlags := 8, nameIndex := 40, descriptorIndex := 41, attributes := #[] }, { accessFlags := 10, nameIndex := 91, descriptorIndex := 92, attributes := #[] }] 49 2 #[] #[{ accessFlags := 18, nameIndex := 8, descriptorIndex := 29, attributes := #[] }, { accessFlags := 18, nameIndex := 32, descriptorIndex := 33, attributes := #[] }, { accessFlags := 18, nameIndex := 36, descriptorIndex := 37, attributes := #[] }])
  fields := #[{ name := "text", type := (.object "java/lang/String"), accessFlags := 18, slot := 0, constantValue := 0 }, { name := "marks", type := (.object "java/util/List"), accessFlags := 18, slot := 1, constantValue := 0 }, { name := "matches", type := .boolean, accessFlags := 18, slot := 2, constantValue := 0 }]
  methods := #[k19m0, k19m1]
  instanceTypes := #[(.object "java/lang/String"), (.object "java/util/List"), .boolean]
  staticTypes := #[]
  resolved := Array.replicate 178 none
  statics := none }

def pool20 : Array CpInfo := pool [(1, .class_ 2), (0, u "java/lang/Appendable"), (0, .class_ 4), (0, u "java/lang/Object")] 9

/-- java/lang/Appendable -/
def k20 : Class := { plain "java/lang/Appendable" (some 0) with
  accessFlags := 1537
  interfaces := #[]
  cf := some (fileOf pool20 1 #[] #[] 1537 3 #[] #[])
  fields := #[]
  methods := #[]
  instanceTypes := #[]
  staticTypes := #[]
  resolved := Array.replicate 14 none
  statics := none }

def pool21 : Array CpInfo := pool [(1, .class_ 2), (0, u "java/lang/String"), (0, .methodref 4 5), (0, .class_ 6), (0, .nameAndType 7 8), (0, u "java/lang/Object"), (0, u "<init>"), (0, u "()V"), (1, .class_ 12), (1, u "java/lang/AbstractStringBuilder"), (0, u "EMPTYVALUE"), (0, u "[B"), (0, .fieldref 10 16), (0, .nameAndType 17 14), (0, u "value"), (0, .fieldref 1 19), (0, .nameAndType 20 21), (0, u "COMPACT_STRINGS"), (0, u "Z"), (0, .fieldref 10 23), (0, .nameAndType 24 25), (0, u "coder"), (0, u "B"), (0, .methodref 27 28), (0, .class_ 29), (0, .nameAndType 30 31), (0, u "java/lang/StringUTF16"), (0, u "newBytesFor"), (0, u "(I)[B"), (0, .methodref 1 33), (0, .nameAndType 34 35), (0, u "length"), (0, u "()I"), (3, .integer 2147483647), (0, .methodref 1 41), (0, .nameAndType 24 42), (0, u "()B"), (2, u "append"), (0, u "(Ljava/lang/String;)Ljava/lang/AbstractStringBuilder;"), (1, .class_ 49), (0, u "java/lang/CharSequence"), (19, u "(Ljava/lang/String;)V"), (5, u "maybeLatin1"), (3, .fieldref 10 80), (0, .nameAndType 81 82), (0, u "count"), (0, u "I"), (0, .methodref 10 84), (0, .nameAndType 85 86), (0, u "isLatin1"), (0, u "()Z"), (1, .class_ 90), (1, u "java/lang/StringLatin1"), (9, .methodref 10 101), (0, .nameAndType 102 103), (0, u "ensureCapacityInternal"), (0, u "(I)V"), (0, .methodref 10 105), (0, .nameAndType 106 107), (0, u "newCapacity"), (0, u "(I)I"), (0, .methodref 109 110), (0, .class_ 111), (0, .nameAndType 112 113), (0, u "java/util/Arrays"), (0, u "copyOf"), (0, u "([BI)[B"), (0, .methodref 115 116), (0, .class_ 117), (0, .nameAndType 118 119), (0, u "jdk/internal/util/ArraysSupport"), (0, u "newLength"), (0, u "(III)I"), (5, .methodref 88 126), (0, .nameAndType 127 128), (0, u "inflate"), (0, u "([BI[BII)V"), (7, u "([BII)V"), (54, .methodref 88 192), (0, .nameAndType 193 194), (0, u "canEncode"), (0, u "(C)Z"), (0, .methodref 10 196), (0, .nameAndType 127 8), (0, .methodref 27 198), (0, .nameAndType 199 136), (0, u "putCharSB"), (8, .methodref 10 209), (0, .nameAndType 210 211), (0, u "putStringAt"), (0, u "(ILjava/lang/String;)V"), (5, u "inflateIfNeededFor"), (2, .nameAndType 221 222), (0, u "getBytes"), (0, u "([BIB)V"), (69, u "(C)Ljava/lang/AbstractStringBuilder;"), (104, .methodref 10 398), (0, .nameAndType 217 69), (0, .methodref 1 220), (3, u "()[B"), (40, .class_ 445), (0, u "java/lang/Appendable"), (106, u "getValue")] 56

def k21m0 : Method := { name := "<init>", desc := "()V", sig := { parameters := [], returnType := none }, accessFlags := 0, code := none }
def k21c1 : Code := { maxStack := 2, maxLocals := 2, code := jdk_68_method_2_code, exceptionTable := #[], attributes := #[] }
def k21m1 : Method := { name := "<init>", desc := "(I)V", sig := { parameters := [.int], returnType := none }, accessFlags := 0, code := some k21c1 }
def k21c2 : Code := { maxStack := 1, maxLocals := 1, code := jdk_68_method_6_code, exceptionTable := #[], attributes := #[] }
def k21m2 : Method := { name := "length", desc := "()I", sig := { parameters := [], returnType := some .int }, accessFlags := 1, code := some k21c2 }
def k21c3 : Code := { maxStack := 4, maxLocals := 3, code := jdk_68_method_9_code, exceptionTable := #[], attributes := #[] }
def k21m3 : Method := { name := "ensureCapacityInternal", desc := "(I)V", sig := { parameters := [.int], returnType := none }, accessFlags := 2, code := some k21c3 }
def k21c4 : Code := { maxStack := 5, maxLocals := 6, code := jdk_68_method_10_code, exceptionTable := #[], attributes := #[] }
def k21m4 : Method := { name := "newCapacity", desc := "(I)I", sig := { parameters := [.int], returnType := some .int }, accessFlags := 2, code := some k21c4 }
def k21c5 : Code := { maxStack := 5, maxLocals := 2, code := jdk_68_method_11_code, exceptionTable := #[], attributes := #[] }
def k21m5 : Method := { name := "inflate", desc := "()V", sig := { parameters := [], returnType := none }, accessFlags := 2, code := some k21c5 }
def k21c6 : Code := { maxStack := 3, maxLocals := 3, code := jdk_68_method_22_code, exceptionTable := #[], attributes := #[] }
def k21m6 : Method := { name := "append", desc := "(Ljava/lang/String;)Ljava/lang/AbstractStringBuilder;", sig := { parameters := [(.object "java/lang/String")], returnType := some (.object "java/lang/AbstractStringBuilder") }, accessFlags := 1, code := some k21c6 }
def k21c7 : Code := { maxStack := 5, maxLocals := 2, code := jdk_68_method_31_code, exceptionTable := #[], attributes := #[] }
def k21m7 : Method := { name := "append", desc := "(C)Ljava/lang/AbstractStringBuilder;", sig := { parameters := [.char], returnType := some (.object "java/lang/AbstractStringBuilder") }, accessFlags := 1, code := some k21c7 }
def k21c8 : Code := { maxStack := 1, maxLocals := 1, code := jdk_68_method_64_code, exceptionTable := #[], attributes := #[] }
def k21m8 : Method := { name := "getValue", desc := "()[B", sig := { parameters := [], returnType := some (.array .byte) }, accessFlags := 16, code := some k21c8 }
def k21c9 : Code := { maxStack := 1, maxLocals := 1, code := jdk_68_method_68_code, exceptionTable := #[], attributes := #[] }
def k21m9 : Method := { name := "isLatin1", desc := "()Z", sig := { parameters := [], returnType := some .boolean }, accessFlags := 16, code := some k21c9 }
def k21c10 : Code := { maxStack := 2, maxLocals := 2, code := jdk_68_method_71_code, exceptionTable := #[], attributes := #[] }
def k21m10 : Method := { name := "inflateIfNeededFor", desc := "(Ljava/lang/String;)V", sig := { parameters := [(.object "java/lang/String")], returnType := none }, accessFlags := 2, code := some k21c10 }
def k21c11 : Code := { maxStack := 4, maxLocals := 3, code := jdk_68_method_73_code, exceptionTable := #[], attributes := #[] }
def k21m11 : Method := { name := "putStringAt", desc := "(ILjava/lang/String;)V", sig := { parameters := [.int, (.object "java/lang/String")], returnType := none }, accessFlags := 2, code := some k21c11 }
/-- java/lang/AbstractStringBuilder -/
def k21 : Class := { plain "java/lang/AbstractStringBuilder" (some 0) with
  accessFlags := 1056
  interfaces := #[20, 4]
  cf := some (fileOf pool21 10 #[] #[{ accessFlags := 0, nameIndex := 7, descriptorIndex := 8, attributes := #[] }, { accessFlags := 0, nameIndex := 7, descriptorIndex := 103, attributes := #[] }, { accessFlags := 1, nameIndex := 34, descriptorIndex := 35, attributes := #[] }, { accessFlags := 2, nameIndex := 102, descriptorIndex := 103, attributes := #[] }, { accessFlags := 2, nameIndex := 106, descriptorIndex := 107, attributes := #[] }, { accessFlags := 2, nameIndex := 127, descriptorIndex := 8, attributes := #[] }, { accessFlags := 1, nameIndex := 45, descriptorIndex := 46, attributes := #[] }, { accessFlags := 1, nameIndex := 45, descriptorIndex := 292, attributes := #[] }, { accessFlags := 16, nameIndex := 552, descriptorIndex := 403, attributes := #[] }, { accessFlags := 16, nameIndex := 85, descriptorIndex := 86, attributes := #[] }, { accessFlags := 2, nameIndex := 217, descriptorIndex := 69, attributes := #[] }, { accessFlags := 2, nameIndex := 210, descriptorIndex := 211, attributes := #[] }] 1056 4 #[444, 48] #[{ accessFlags := 0, nameIndex := 17, descriptorIndex := 14, attributes := #[] }, { accessFlags := 0, nameIndex := 24, descriptorIndex := 25, attributes := #[] }, { accessFlags := 0, nameIndex := 75, descriptorIndex := 21, attributes := #[] }, { accessFlags := 0, nameIndex := 81, descriptorIndex := 82, attributes := #[] }, { accessFlags := 26, nameIndex := 13, descriptorIndex := 14, attributes := #[] }])
  fields := #[{ name := "value", type := (.array .byte), accessFlags := 0, slot := 0, constantValue := 0 }, { name := "coder", type := .byte, accessFlags := 0, slot := 1, constantValue := 0 }, { name := "maybeLatin1", type := .boolean, accessFlags := 0, slot := 2, constantValue := 0 }, { name := "count", type := .int, accessFlags := 0, slot := 3, constantValue := 0 }, { name := "EMPTYVALUE", type := (.array .byte), accessFlags := 26, slot := 0, constantValue := 0 }]
  methods := #[k21m0, k21m1, k21m2, k21m3, k21m4, k21m5, k21m6, k21m7, k21m8, k21m9, k21m10, k21m11]
  instanceTypes := #[(.array .byte), .byte, .boolean, .int]
  staticTypes := #[(.array .byte)]
  resolved := Array.replicate 609 none
  statics := none }

def pool22 : Array CpInfo := pool [(1, .methodref 2 3), (0, .class_ 4), (0, .nameAndType 5 6), (0, u "java/lang/AbstractStringBuilder"), (0, u "<init>"), (0, u "(I)V"), (11, .class_ 20), (1, u "java/lang/String"), (3, .class_ 26), (1, u "java/lang/StringBuilder"), (0, u "append"), (0, u "(Ljava/lang/String;)Ljava/lang/StringBuilder;"), (0, .methodref 2 30), (0, .nameAndType 27 31), (0, u "(Ljava/lang/String;)Ljava/lang/AbstractStringBuilder;"), (18, .methodref 2 51), (0, .nameAndType 27 52), (0, u "(C)Ljava/lang/AbstractStringBuilder;"), (84, .methodref 18 138), (0, .nameAndType 5 139), (0, u "(Ljava/lang/StringBuilder;)V"), (5, u "()V"), (10, u "()I"), (129, u "(C)Ljava/lang/StringBuilder;"), (56, .methodref 2 344), (0, .nameAndType 345 156), (0, u "length"), (3, .class_ 350), (0, u "java/lang/Appendable"), (0, .class_ 352), (0, u "java/io/Serializable"), (0, .class_ 354), (0, u "java/lang/Comparable"), (0, .class_ 356), (0, u "java/lang/CharSequence"), (0, u "serialVersionUID"), (0, u "J"), (40, u "toString"), (0, u "()Ljava/lang/String;")] 21

def k22m0 : Method := { name := "<init>", desc := "()V", sig := { parameters := [], returnType := none }, accessFlags := 1, code := none }
def k22c1 : Code := { maxStack := 2, maxLocals := 2, code := jdk_67_method_2_code, exceptionTable := #[], attributes := #[] }
def k22m1 : Method := { name := "<init>", desc := "(I)V", sig := { parameters := [.int], returnType := none }, accessFlags := 1, code := some k22c1 }
def k22c2 : Code := { maxStack := 2, maxLocals := 2, code := jdk_67_method_7_code, exceptionTable := #[], attributes := #[] }
def k22m2 : Method := { name := "append", desc := "(Ljava/lang/String;)Ljava/lang/StringBuilder;", sig := { parameters := [(.object "java/lang/String")], returnType := some (.object "java/lang/StringBuilder") }, accessFlags := 1, code := some k22c2 }
def k22c3 : Code := { maxStack := 2, maxLocals := 2, code := jdk_67_method_14_code, exceptionTable := #[], attributes := #[] }
def k22m3 : Method := { name := "append", desc := "(C)Ljava/lang/StringBuilder;", sig := { parameters := [.char], returnType := some (.object "java/lang/StringBuilder") }, accessFlags := 1, code := some k22c3 }
def k22c4 : Code := { maxStack := 3, maxLocals := 1, code := jdk_67_method_42_code, exceptionTable := #[], attributes := #[] }
def k22m4 : Method := { name := "toString", desc := "()Ljava/lang/String;", sig := { parameters := [], returnType := some (.object "java/lang/String") }, accessFlags := 1, code := some k22c4 }
def k22c5 : Code := { maxStack := 1, maxLocals := 1, code := jdk_67_method_93_code, exceptionTable := #[], attributes := #[] }
def k22m5 : Method := { name := "length", desc := "()I", sig := { parameters := [], returnType := some .int }, accessFlags := 4161, code := some k22c5 }
/-- java/lang/StringBuilder -/
def k22 : Class := { plain "java/lang/StringBuilder" (some 21) with
  accessFlags := 49
  interfaces := #[20, 2, 3, 4]
  cf := some (fileOf pool22 24 #[] #[{ accessFlags := 1, nameIndex := 5, descriptorIndex := 145, attributes := #[] }, { accessFlags := 1, nameIndex := 5, descriptorIndex := 6, attributes := #[] }, { accessFlags := 1, nameIndex := 27, descriptorIndex := 28, attributes := #[] }, { accessFlags := 1, nameIndex := 27, descriptorIndex := 286, attributes := #[] }, { accessFlags := 1, nameIndex := 399, descriptorIndex := 400, attributes := #[] }, { accessFlags := 4161, nameIndex := 345, descriptorIndex := 156, attributes := #[] }] 49 2 #[349, 351, 353, 355] #[{ accessFlags := 24, nameIndex := 357, descriptorIndex := 358, attributes := #[] }])
  fields := #[{ name := "serialVersionUID", type := .long, accessFlags := 24, slot := 0, constantValue := 0 }]
  methods := #[k22m0, k22m1, k22m2, k22m3, k22m4, k22m5]
  instanceTypes := #[(.array .byte), .byte, .boolean, .int]
  staticTypes := #[.long]
  resolved := Array.replicate 422 none
  statics := none }

def pool23 : Array CpInfo := pool [(16, .class_ 18), (1, u "java/util/Iterator"), (0, u "hasNext"), (0, u "()Z"), (2, u "next"), (0, u "()Ljava/lang/Object;"), (6, .class_ 32), (0, u "java/lang/Object")] 20

def k23m0 : Method := { name := "hasNext", desc := "()Z", sig := { parameters := [], returnType := some .boolean }, accessFlags := 1025, code := none }
def k23m1 : Method := { name := "next", desc := "()Ljava/lang/Object;", sig := { parameters := [], returnType := some (.object "java/lang/Object") }, accessFlags := 1025, code := none }
/-- java/util/Iterator -/
def k23 : Class := { plain "java/util/Iterator" (some 0) with
  accessFlags := 1537
  interfaces := #[]
  cf := some (fileOf pool23 16 #[] #[{ accessFlags := 1025, nameIndex := 19, descriptorIndex := 20, attributes := #[] }, { accessFlags := 1025, nameIndex := 23, descriptorIndex := 24, attributes := #[] }] 1537 31 #[] #[])
  fields := #[]
  methods := #[k23m0, k23m1]
  instanceTypes := #[]
  staticTypes := #[]
  resolved := Array.replicate 53 none
  statics := none }

def pool24 : Array CpInfo := pool [(1, .fieldref 2 3), (0, .class_ 4), (0, .nameAndType 5 6), (0, u "java/util/ArrayList$Itr"), (0, u "this$0"), (0, u "Ljava/util/ArrayList;"), (0, .methodref 8 9), (0, .class_ 10), (0, .nameAndType 11 12), (0, u "java/lang/Object"), (0, u "<init>"), (0, u "()V"), (0, .fieldref 2 14), (0, .nameAndType 15 16), (0, u "lastRet"), (0, u "I"), (0, .fieldref 18 19), (0, .class_ 20), (0, .nameAndType 21 16), (0, u "java/util/ArrayList"), (0, u "modCount"), (0, .fieldref 2 23), (0, .nameAndType 24 16), (0, u "expectedModCount"), (0, .fieldref 2 26), (0, .nameAndType 27 16), (0, u "cursor"), (0, .fieldref 18 29), (0, .nameAndType 30 16), (0, u "size"), (0, .methodref 2 32), (0, .nameAndType 33 12), (0, u "checkForComodification"), (3, .fieldref 18 38), (0, .nameAndType 39 40), (0, u "elementData"), (0, u "[Ljava/lang/Object;"), (28, .class_ 70), (0, u "java/util/Iterator"), (0, u "(Ljava/util/ArrayList;)V"), (8, u "hasNext"), (0, u "()Z"), (1, u "next"), (0, u "()Ljava/lang/Object;")] 19

def k24c0 : Code := { maxStack := 2, maxLocals := 2, code := jdk_49_method_1_code, exceptionTable := #[], attributes := #[] }
def k24m0 : Method := { name := "<init>", desc := "(Ljava/util/ArrayList;)V", sig := { parameters := [(.object "java/util/ArrayList")], returnType := none }, accessFlags := 0, code := some k24c0 }
def k24c1 : Code := { maxStack := 2, maxLocals := 1, code := jdk_49_method_2_code, exceptionTable := #[], attributes := #[] }
def k24m1 : Method := { name := "hasNext", desc := "()Z", sig := { parameters := [], returnType := some .boolean }, accessFlags := 1, code := some k24c1 }
def k24c2 : Code := { maxStack := 4, maxLocals := 3, code := jdk_49_method_3_code, exceptionTable := #[], attributes := #[] }
def k24m2 : Method := { name := "next", desc := "()Ljava/lang/Object;", sig := { parameters := [], returnType := some (.object "java/lang/Object") }, accessFlags := 1, code := some k24c2 }
def k24c3 : Code := { maxStack := 2, maxLocals := 1, code := jdk_49_method_6_code, exceptionTable := #[], attributes := #[] }
def k24m3 : Method := { name := "checkForComodification", desc := "()V", sig := { parameters := [], returnType := none }, accessFlags := 16, code := some k24c3 }
/-- java/util/ArrayList$Itr -/
def k24 : Class := { plain "java/util/ArrayList$Itr" (some 0) with
  accessFlags := 32
  interfaces := #[23]
  cf := some (fileOf pool24 2 #[.nestHost 18] #[{ accessFlags := 0, nameIndex := 11, descriptorIndex := 71, attributes := #[] }, { accessFlags := 1, nameIndex := 80, descriptorIndex := 81, attributes := #[] }, { accessFlags := 1, nameIndex := 83, descriptorIndex := 84, attributes := #[] }, { accessFlags := 16, nameIndex := 33, descriptorIndex := 12, attributes := #[] }] 32 8 #[69] #[{ accessFlags := 0, nameIndex := 27, descriptorIndex := 16, attributes := #[] }, { accessFlags := 0, nameIndex := 15, descriptorIndex := 16, attributes := #[] }, { accessFlags := 0, nameIndex := 24, descriptorIndex := 16, attributes := #[] }, { accessFlags := 4112, nameIndex := 5, descriptorIndex := 6, attributes := #[] }])
  fields := #[{ name := "cursor", type := .int, accessFlags := 0, slot := 0, constantValue := 0 }, { name := "lastRet", type := .int, accessFlags := 0, slot := 1, constantValue := 0 }, { name := "expectedModCount", type := .int, accessFlags := 0, slot := 2, constantValue := 0 }, { name := "this$0", type := (.object "java/util/ArrayList"), accessFlags := 4112, slot := 3, constantValue := 0 }]
  methods := #[k24m0, k24m1, k24m2, k24m3]
  instanceTypes := #[.int, .int, .int, (.object "java/util/ArrayList")]
  staticTypes := #[]
  resolved := Array.replicate 104 none
  statics := none }

def pool25 : Array CpInfo := pool [(1, .class_ 2), (0, u "java/lang/String"), (1, .class_ 6), (1, u "java/lang/Object"), (0, u "<init>"), (0, u "()V"), (0, .methodref 1 10), (0, .nameAndType 11 12), (0, u "checkIndex"), (0, u "(II)V"), (1, .class_ 16), (1, u "java/lang/StringLatin1"), (0, u "inflate"), (2, .class_ 22), (1, u "java/lang/StringUTF16"), (3, .nameAndType 17 27), (0, u "([BI[BII)V"), (25, u "([BI)C"), (36, u "canEncode"), (14, u "(C)Z"), (15, u "$assertionsDisabled"), (0, u "Z"), (98, .class_ 223), (1, u "java/lang/StringLatin1$LinesSpliterator"), (16, .methodref 20 26), (11, u "charAt"), (127, u "toBytes"), (1, u "(C)[B"), (7, .class_ 391), (0, u "java/lang/StringLatin1$CharsSpliterator")] 3

def k25m0 : Method := { name := "<init>", desc := "()V", sig := { parameters := [], returnType := none }, accessFlags := 0, code := none }
def k25c1 : Code := { maxStack := 2, maxLocals := 2, code := jdk_43_method_2_code, exceptionTable := #[], attributes := #[] }
def k25m1 : Method := { name := "charAt", desc := "([BI)C", sig := { parameters := [(.array .byte), .int], returnType := some .char }, accessFlags := 9, code := some k25c1 }
def k25c2 : Code := { maxStack := 2, maxLocals := 1, code := jdk_43_method_3_code, exceptionTable := #[], attributes := #[] }
def k25m2 : Method := { name := "canEncode", desc := "(C)Z", sig := { parameters := [.char], returnType := some .boolean }, accessFlags := 9, code := some k25c2 }
def k25c3 : Code := { maxStack := 4, maxLocals := 1, code := jdk_43_method_46_code, exceptionTable := #[], attributes := #[] }
def k25m3 : Method := { name := "toBytes", desc := "(C)[B", sig := { parameters := [.char], returnType := some (.array .byte) }, accessFlags := 9, code := some k25c3 }
def k25c4 : Code := { maxStack := 5, maxLocals := 5, code := jdk_43_method_50_code, exceptionTable := #[], attributes := #[] }
def k25m4 : Method := { name := "inflate", desc := "([BI[BII)V", sig := { parameters := [(.array .byte), .int, (.array .byte), .int, .int], returnType := none }, accessFlags := 9, code := some k25c4 }
/-- java/lang/StringLatin1 -/
def k25 : Class := { plain "java/lang/StringLatin1" (some 0) with
  accessFlags := 48
  interfaces := #[]
  cf := some (fileOf pool25 14 #[.nestMembers #[390, 221]] #[{ accessFlags := 0, nameIndex := 7, descriptorIndex := 8, attributes := #[] }, { accessFlags := 9, nameIndex := 252, descriptorIndex := 53, attributes := #[] }, { accessFlags := 9, nameIndex := 90, descriptorIndex := 105, attributes := #[] }, { accessFlags := 9, nameIndex := 380, descriptorIndex := 382, attributes := #[] }, { accessFlags := 9, nameIndex := 17, descriptorIndex := 27, attributes := #[] }] 48 4 #[] #[{ accessFlags := 4120, nameIndex := 121, descriptorIndex := 122, attributes := #[] }])
  fields := #[{ name := "$assertionsDisabled", type := .boolean, accessFlags := 4120, slot := 0, constantValue := 0 }]
  methods := #[k25m0, k25m1, k25m2, k25m3, k25m4]
  instanceTypes := #[]
  staticTypes := #[.boolean]
  resolved := Array.replicate 395 none
  statics := none }

def pool26 : Array CpInfo := pool [(2, .class_ 4), (1, u "java/lang/Object"), (0, u "<init>"), (0, u "()V"), (17, .class_ 26), (1, u "jdk/internal/util/Preconditions"), (6, u "checkIndex"), (15, u "checkFromIndexSize"), (5, .class_ 56), (0, u "jdk/internal/util/Preconditions$4"), (57, .class_ 115), (0, u "jdk/internal/util/Preconditions$1"), (7, u "SIOOBE_FORMATTER"), (0, u "Ljava/util/function/BiFunction;"), (0, .class_ 126), (0, u "jdk/internal/util/Preconditions$2"), (3, u "AIOOBE_FORMATTER"), (0, .class_ 132), (0, u "jdk/internal/util/Preconditions$3"), (3, u "IOOBE_FORMATTER"), (41, u "(IILjava/util/function/BiFunction;)I"), (4, u "(IIILjava/util/function/BiFunction;)I")] 10

def k26m0 : Method := { name := "<init>", desc := "()V", sig := { parameters := [], returnType := none }, accessFlags := 1, code := none }
def k26c1 : Code := { maxStack := 3, maxLocals := 3, code := jdk_41_method_11_code, exceptionTable := #[], attributes := #[] }
def k26m1 : Method := { name := "checkIndex", desc := "(IILjava/util/function/BiFunction;)I", sig := { parameters := [.int, .int, (.object "java/util/function/BiFunction")], returnType := some .int }, accessFlags := 9, code := some k26c1 }
def k26c2 : Code := { maxStack := 4, maxLocals := 4, code := jdk_41_method_13_code, exceptionTable := #[], attributes := #[] }
def k26m2 : Method := { name := "checkFromIndexSize", desc := "(IIILjava/util/function/BiFunction;)I", sig := { parameters := [.int, .int, .int, (.object "java/util/function/BiFunction")], returnType := some .int }, accessFlags := 9, code := some k26c2 }
/-- jdk/internal/util/Preconditions -/
def k26 : Class := { plain "jdk/internal/util/Preconditions" (some 0) with
  accessFlags := 33
  interfaces := #[]
  cf := some (fileOf pool26 24 #[.nestMembers #[55, 131, 125, 114]] #[{ accessFlags := 1, nameIndex := 5, descriptorIndex := 6, attributes := #[] }, { accessFlags := 9, nameIndex := 33, descriptorIndex := 178, attributes := #[] }, { accessFlags := 9, nameIndex := 49, descriptorIndex := 183, attributes := #[] }] 33 2 #[] #[{ accessFlags := 25, nameIndex := 123, descriptorIndex := 124, attributes := #[] }, { accessFlags := 25, nameIndex := 130, descriptorIndex := 124, attributes := #[] }, { accessFlags := 25, nameIndex := 136, descriptorIndex := 124, attributes := #[] }])
  fields := #[{ name := "SIOOBE_FORMATTER", type := (.object "java/util/function/BiFunction"), accessFlags := 25, slot := 0, constantValue := 0 }, { name := "AIOOBE_FORMATTER", type := (.object "java/util/function/BiFunction"), accessFlags := 25, slot := 1, constantValue := 0 }, { name := "IOOBE_FORMATTER", type := (.object "java/util/function/BiFunction"), accessFlags := 25, slot := 2, constantValue := 0 }]
  methods := #[k26m0, k26m1, k26m2]
  instanceTypes := #[]
  staticTypes := #[(.object "java/util/function/BiFunction"), (.object "java/util/function/BiFunction"), (.object "java/util/function/BiFunction")]
  resolved := Array.replicate 194 none
  statics := some 3 }

def pool27 : Array CpInfo := pool [(9, u "<init>"), (6, .class_ 18), (1, u "java/lang/Object"), (0, u "()V"), (1, .class_ 23), (1, u "jdk/internal/util/ArraysSupport"), (0, u "LOG2_ARRAY_LONG_INDEX_SCALE"), (0, u "I"), (2, u "U"), (0, u "Ljdk/internal/misc/Unsafe;"), (8, u "BIG_ENDIAN"), (0, u "Z"), (8, u "LOG2_BYTE_BIT_SIZE"), (4, u "LOG2_ARRAY_INT_INDEX_SCALE"), (54, u "JLA"), (0, u "Ljdk/internal/access/JavaLangAccess;"), (11, u "LOG2_ARRAY_BOOLEAN_INDEX_SCALE"), (9, u "LOG2_ARRAY_BYTE_INDEX_SCALE"), (5, u "LOG2_ARRAY_CHAR_INDEX_SCALE"), (5, u "LOG2_ARRAY_SHORT_INDEX_SCALE"), (18, u "LOG2_ARRAY_FLOAT_INDEX_SCALE"), (24, u "LOG2_ARRAY_DOUBLE_INDEX_SCALE"), (6, .methodref 195 196), (0, .class_ 197), (0, .nameAndType 198 199), (0, u "java/lang/Math"), (0, u "max"), (0, u "(II)I"), (0, .integer 2147483639), (76, u "T_BOOLEAN"), (2, u "T_CHAR"), (1, u "T_FLOAT"), (1, u "T_DOUBLE"), (1, u "T_BYTE"), (1, u "T_SHORT"), (1, u "T_INT"), (1, u "T_LONG"), (1, u "SOFT_MAX_ARRAY_LENGTH"), (56, u "newLength"), (0, u "(III)I")] 25

def k27m0 : Method := { name := "<init>", desc := "()V", sig := { parameters := [], returnType := none }, accessFlags := 2, code := none }
def k27c1 : Code := { maxStack := 3, maxLocals := 4, code := jdk_48_method_27_code, exceptionTable := #[], attributes := #[] }
def k27m1 : Method := { name := "newLength", desc := "(III)I", sig := { parameters := [.int, .int, .int], returnType := some .int }, accessFlags := 9, code := some k27c1 }
/-- jdk/internal/util/ArraysSupport -/
def k27 : Class := { plain "jdk/internal/util/ArraysSupport" (some 0) with
  accessFlags := 33
  interfaces := #[]
  cf := some (fileOf pool27 21 #[] #[{ accessFlags := 2, nameIndex := 9, descriptorIndex := 19, attributes := #[] }, { accessFlags := 9, nameIndex := 351, descriptorIndex := 352, attributes := #[] }] 33 16 #[] #[{ accessFlags := 24, nameIndex := 28, descriptorIndex := 29, attributes := #[] }, { accessFlags := 26, nameIndex := 38, descriptorIndex := 39, attributes := #[] }, { accessFlags := 25, nameIndex := 121, descriptorIndex := 25, attributes := #[] }, { accessFlags := 25, nameIndex := 131, descriptorIndex := 25, attributes := #[] }, { accessFlags := 25, nameIndex := 137, descriptorIndex := 25, attributes := #[] }, { accessFlags := 25, nameIndex := 143, descriptorIndex := 25, attributes := #[] }, { accessFlags := 25, nameIndex := 53, descriptorIndex := 25, attributes := #[] }, { accessFlags := 25, nameIndex := 24, descriptorIndex := 25, attributes := #[] }, { accessFlags := 25, nameIndex := 162, descriptorIndex := 25, attributes := #[] }, { accessFlags := 25, nameIndex := 187, descriptorIndex := 25, attributes := #[] }, { accessFlags := 26, nameIndex := 48, descriptorIndex := 25, attributes := #[] }, { accessFlags := 25, nameIndex := 277, descriptorIndex := 25, attributes := #[] }, { accessFlags := 25, nameIndex := 280, descriptorIndex := 25, attributes := #[] }, { accessFlags := 25, nameIndex := 282, descriptorIndex := 25, attributes := #[] }, { accessFlags := 25, nameIndex := 284, descriptorIndex := 25, attributes := #[] }, { accessFlags := 25, nameIndex := 286, descriptorIndex := 25, attributes := #[] }, { accessFlags := 25, nameIndex := 288, descriptorIndex := 25, attributes := #[] }, { accessFlags := 25, nameIndex := 290, descriptorIndex := 25, attributes := #[] }, { accessFlags := 25, nameIndex := 292, descriptorIndex := 25, attributes := #[] }, { accessFlags := 26, nameIndex := 108, descriptorIndex := 109, attributes := #[] }, { accessFlags := 25, nameIndex := 294, descriptorIndex := 25, attributes := #[] }])
  fields := #[{ name := "U", type := (.object "jdk/internal/misc/Unsafe"), accessFlags := 24, slot := 0, constantValue := 0 }, { name := "BIG_ENDIAN", type := .boolean, accessFlags := 26, slot := 1, constantValue := 0 }, { name := "LOG2_ARRAY_BOOLEAN_INDEX_SCALE", type := .int, accessFlags := 25, slot := 2, constantValue := 0 }, { name := "LOG2_ARRAY_BYTE_INDEX_SCALE", type := .int, accessFlags := 25, slot := 3, constantValue := 0 }, { name := "LOG2_ARRAY_CHAR_INDEX_SCALE", type := .int, accessFlags := 25, slot := 4, constantValue := 0 }, { name := "LOG2_ARRAY_SHORT_INDEX_SCALE", type := .int, accessFlags := 25, slot := 5, constantValue := 0 }, { name := "LOG2_ARRAY_INT_INDEX_SCALE", type := .int, accessFlags := 25, slot := 6, constantValue := 0 }, { name := "LOG2_ARRAY_LONG_INDEX_SCALE", type := .int, accessFlags := 25, slot := 7, constantValue := 0 }, { name := "LOG2_ARRAY_FLOAT_INDEX_SCALE", type := .int, accessFlags := 25, slot := 8, constantValue := 0 }, { name := "LOG2_ARRAY_DOUBLE_INDEX_SCALE", type := .int, accessFlags := 25, slot := 9, constantValue := 0 }, { name := "LOG2_BYTE_BIT_SIZE", type := .int, accessFlags := 26, slot := 10, constantValue := 0 }, { name := "T_BOOLEAN", type := .int, accessFlags := 25, slot := 11, constantValue := 0 }, { name := "T_CHAR", type := .int, accessFlags := 25, slot := 12, constantValue := 0 }, { name := "T_FLOAT", type := .int, accessFlags := 25, slot := 13, constantValue := 0 }, { name := "T_DOUBLE", type := .int, accessFlags := 25, slot := 14, constantValue := 0 }, { name := "T_BYTE", type := .int, accessFlags := 25, slot := 15, constantValue := 0 }, { name := "T_SHORT", type := .int, accessFlags := 25, slot := 16, constantValue := 0 }, { name := "T_INT", type := .int, accessFlags := 25, slot := 17, constantValue := 0 }, { name := "T_LONG", type := .int, accessFlags := 25, slot := 18, constantValue := 0 }, { name := "JLA", type := (.object "jdk/internal/access/JavaLangAccess"), accessFlags := 26, slot := 19, constantValue := 0 }, { name := "SOFT_MAX_ARRAY_LENGTH", type := .int, accessFlags := 25, slot := 20, constantValue := 0 }]
  methods := #[k27m0, k27m1]
  instanceTypes := #[]
  staticTypes := #[(.object "jdk/internal/misc/Unsafe"), .boolean, .int, .int, .int, .int, .int, .int, .int, .int, .int, .int, .int, .int, .int, .int, .int, .int, .int, (.object "jdk/internal/access/JavaLangAccess"), .int]
  resolved := Array.replicate 378 none
  statics := none }

def pool28 : Array CpInfo := pool [(1, .class_ 2), (0, u "java/lang/Math"), (1, .class_ 6), (1, u "java/lang/Object"), (0, u "<init>"), (0, u "()V"), (89, .class_ 100), (1, u "java/lang/Math$RandomNumberGeneratorHolder"), (71, u "negativeZeroFloatBits"), (0, u "J"), (2, u "negativeZeroDoubleBits"), (21, u "max"), (2, u "min"), (43, u "$assertionsDisabled"), (0, u "Z"), (88, u "(II)I"), (2, u "twoToTheDoubleScaleDown"), (0, u "D"), (4, u "twoToTheDoubleScaleUp"), (9, u "E"), (3, u "PI"), (2, u "TAU"), (2, u "DEGREES_TO_RADIANS"), (0, u "RADIANS_TO_DEGREES")] 94

def k28m0 : Method := { name := "<init>", desc := "()V", sig := { parameters := [], returnType := none }, accessFlags := 2, code := none }
def k28c1 : Code := { maxStack := 2, maxLocals := 2, code := jdk_29_method_65_code, exceptionTable := #[], attributes := #[] }
def k28m1 : Method := { name := "max", desc := "(II)I", sig := { parameters := [.int, .int], returnType := some .int }, accessFlags := 9, code := some k28c1 }
def k28c2 : Code := { maxStack := 2, maxLocals := 2, code := jdk_29_method_69_code, exceptionTable := #[], attributes := #[] }
def k28m2 : Method := { name := "min", desc := "(II)I", sig := { parameters := [.int, .int], returnType := some .int }, accessFlags := 9, code := some k28c2 }
/-- java/lang/Math -/
def k28 : Class := { plain "java/lang/Math" (some 0) with
  accessFlags := 49
  interfaces := #[]
  cf := some (fileOf pool28 1 #[.nestMembers #[98]] #[{ accessFlags := 2, nameIndex := 7, descriptorIndex := 8, attributes := #[] }, { accessFlags := 9, nameIndex := 198, descriptorIndex := 335, attributes := #[] }, { accessFlags := 9, nameIndex := 201, descriptorIndex := 335, attributes := #[] }] 49 4 #[] #[{ accessFlags := 25, nameIndex := 354, descriptorIndex := 339, attributes := #[] }, { accessFlags := 25, nameIndex := 358, descriptorIndex := 339, attributes := #[] }, { accessFlags := 25, nameIndex := 361, descriptorIndex := 339, attributes := #[] }, { accessFlags := 26, nameIndex := 364, descriptorIndex := 339, attributes := #[] }, { accessFlags := 26, nameIndex := 365, descriptorIndex := 339, attributes := #[] }, { accessFlags := 26, nameIndex := 172, descriptorIndex := 173, attributes := #[] }, { accessFlags := 26, nameIndex := 176, descriptorIndex := 173, attributes := #[] }, { accessFlags := 8, nameIndex := 344, descriptorIndex := 339, attributes := #[] }, { accessFlags := 8, nameIndex := 338, descriptorIndex := 339, attributes := #[] }, { accessFlags := 4120, nameIndex := 245, descriptorIndex := 246, attributes := #[] }])
  fields := #[{ name := "E", type := .double, accessFlags := 25, slot := 0, constantValue := 0 }, { name := "PI", type := .double, accessFlags := 25, slot := 1, constantValue := 0 }, { name := "TAU", type := .double, accessFlags := 25, slot := 2, constantValue := 0 }, { name := "DEGREES_TO_RADIANS", type := .double, accessFlags := 26, slot := 3, constantValue := 0 }, { name := "RADIANS_TO_DEGREES", type := .double, accessFlags := 26, slot := 4, constantValue := 0 }, { name := "negativeZeroFloatBits", type := .long, accessFlags := 26, slot := 5, constantValue := 0 }, { name := "negativeZeroDoubleBits", type := .long, accessFlags := 26, slot := 6, constantValue := 0 }, { name := "twoToTheDoubleScaleUp", type := .double, accessFlags := 8, slot := 7, constantValue := 0 }, { name := "twoToTheDoubleScaleDown", type := .double, accessFlags := 8, slot := 8, constantValue := 0 }, { name := "$assertionsDisabled", type := .boolean, accessFlags := 4120, slot := 9, constantValue := 0 }]
  methods := #[k28m0, k28m1, k28m2]
  instanceTypes := #[]
  staticTypes := #[.double, .double, .double, .double, .double, .long, .long, .double, .double, .boolean]
  resolved := Array.replicate 460 none
  statics := none }

def pool29 : Array CpInfo := pool [(2, .class_ 4), (1, u "java/lang/Object"), (0, u "<init>"), (0, u "()V"), (7, .class_ 16), (1, u "java/util/Arrays"), (57, .class_ 76), (1, u "java/util/Arrays$NaturalOrder"), (32, u "()Ljava/lang/Object;"), (3, .class_ 115), (1, u "java/util/Arrays$LegacyMergeSort"), (1, u "Z"), (10, .nameAndType 129 109), (0, u "clone"), (9, u "copyOfRange"), (10, .methodref 151 152), (0, .class_ 153), (0, .nameAndType 154 155), (0, u "java/lang/System"), (0, u "arraycopy"), (0, u "(Ljava/lang/Object;ILjava/lang/Object;II)V"), (146, u "copyOf"), (1, .methodref 305 306), (0, .class_ 307), (0, .nameAndType 308 309), (0, u "java/lang/Math"), (0, u "min"), (0, u "(II)I"), (0, .methodref 311 128), (0, .class_ 312), (0, u "[B"), (26, .methodref 14 340), (0, .nameAndType 341 342), (0, u "copyOfRangeByte"), (0, u "([BII)[B"), (0, .methodref 14 344), (0, .nameAndType 345 346), (0, u "checkLength"), (0, u "(II)V"), (28, .class_ 376), (0, u "java/util/Arrays$ArrayList"), (68, u "$assertionsDisabled"), (269, u "MIN_ARRAY_SORT_GRAN"), (0, u "I"), (2, u "INSERTIONSORT_THRESHOLD"), (149, u "([BI)[B"), (105, .class_ 976), (0, u "java/util/Arrays$ArrayItr")] 52

def k29m0 : Method := { name := "<init>", desc := "()V", sig := { parameters := [], returnType := none }, accessFlags := 2, code := none }
def k29c1 : Code := { maxStack := 6, maxLocals := 3, code := jdk_65_method_121_code, exceptionTable := #[], attributes := #[] }
def k29m1 : Method := { name := "copyOf", desc := "([BI)[B", sig := { parameters := [(.array .byte), .int], returnType := some (.array .byte) }, accessFlags := 9, code := some k29c1 }
def k29c2 : Code := { maxStack := 4, maxLocals := 2, code := jdk_65_method_131_code, exceptionTable := #[], attributes := #[] }
def k29m2 : Method := { name := "checkLength", desc := "(II)V", sig := { parameters := [.int, .int], returnType := none }, accessFlags := 10, code := some k29c2 }
def k29c3 : Code := { maxStack := 3, maxLocals := 3, code := jdk_65_method_132_code, exceptionTable := #[], attributes := #[] }
def k29m3 : Method := { name := "copyOfRange", desc := "([BII)[B", sig := { parameters := [(.array .byte), .int, .int], returnType := some (.array .byte) }, accessFlags := 9, code := some k29c3 }
def k29c4 : Code := { maxStack := 6, maxLocals := 5, code := jdk_65_method_133_code, exceptionTable := #[], attributes := #[] }
def k29m4 : Method := { name := "copyOfRangeByte", desc := "([BII)[B", sig := { parameters := [(.array .byte), .int, .int], returnType := some (.array .byte) }, accessFlags := 10, code := some k29c4 }
/-- java/util/Arrays -/
def k29 : Class := { plain "java/util/Arrays" (some 0) with
  accessFlags := 49
  interfaces := #[]
  cf := some (fileOf pool29 14 #[.nestMembers #[975, 375, 113, 74]] #[{ accessFlags := 2, nameIndex := 5, descriptorIndex := 6, attributes := #[] }, { accessFlags := 9, nameIndex := 302, descriptorIndex := 869, attributes := #[] }, { accessFlags := 10, nameIndex := 345, descriptorIndex := 346, attributes := #[] }, { accessFlags := 9, nameIndex := 139, descriptorIndex := 342, attributes := #[] }, { accessFlags := 10, nameIndex := 341, descriptorIndex := 342, attributes := #[] }] 49 2 #[] #[{ accessFlags := 26, nameIndex := 715, descriptorIndex := 716, attributes := #[] }, { accessFlags := 26, nameIndex := 719, descriptorIndex := 716, attributes := #[] }, { accessFlags := 4120, nameIndex := 445, descriptorIndex := 117, attributes := #[] }])
  fields := #[{ name := "MIN_ARRAY_SORT_GRAN", type := .int, accessFlags := 26, slot := 0, constantValue := 0 }, { name := "INSERTIONSORT_THRESHOLD", type := .int, accessFlags := 26, slot := 1, constantValue := 0 }, { name := "$assertionsDisabled", type := .boolean, accessFlags := 4120, slot := 2, constantValue := 0 }]
  methods := #[k29m0, k29m1, k29m2, k29m3, k29m4]
  instanceTypes := #[]
  staticTypes := #[.int, .int, .boolean]
  resolved := Array.replicate 1029 none
  statics := none }

def pool30 : Array CpInfo := pool [(2, .class_ 4), (1, u "java/lang/Object"), (0, u "<init>"), (0, u "()V"), (1, .class_ 10), (1, u "java/lang/System"), (0, u "allowSecurityManager"), (0, u "I"), (16, u "cons"), (0, u "Ljava/io/Console;"), (77, .class_ 110), (1, u "java/lang/System$CallersHolder"), (43, u "initialErrStream"), (0, u "Ljava/io/PrintStream;"), (19, u "security"), (0, u "Ljava/lang/SecurityManager;"), (31, .class_ 209), (0, u "java/lang/System$1"), (7, u "props"), (0, u "Ljava/util/Properties;"), (2, u "lineSeparator"), (0, u "Ljava/lang/String;"), (96, .class_ 321), (1, u "java/lang/System$LoggerFinder"), (5, .class_ 328), (0, u "java/lang/System$Logger"), (67, u "err"), (2, u "out"), (91, u "notSupportedJnuEncoding"), (15, u "in"), (17, u "initialIn"), (0, u "Ljava/io/InputStream;"), (35, u "bootLayer"), (0, u "Ljava/lang/ModuleLayer;"), (99, .class_ 664), (0, u "java/lang/System$2"), (9, u "NEVER"), (2, u "MAYBE"), (49, u "arraycopy"), (0, u "(Ljava/lang/Object;ILjava/lang/Object;II)V"), (72, .class_ 802), (0, u "java/lang/System$Logger$Level")] 31

def k30m0 : Method := { name := "<init>", desc := "()V", sig := { parameters := [], returnType := none }, accessFlags := 2, code := none }
def k30m1 : Method := { name := "arraycopy", desc := "(Ljava/lang/Object;ILjava/lang/Object;II)V", sig := { parameters := [(.object "java/lang/Object"), .int, (.object "java/lang/Object"), .int, .int], returnType := none }, accessFlags := 265, code := none }
/-- java/lang/System -/
def k30 : Class := { plain "java/lang/System" (some 0) with
  accessFlags := 49
  interfaces := #[]
  cf := some (fileOf pool30 8 #[.nestMembers #[319, 327, 801, 108, 663, 208]] #[{ accessFlags := 2, nameIndex := 5, descriptorIndex := 6, attributes := #[] }, { accessFlags := 265, nameIndex := 727, descriptorIndex := 728, attributes := #[] }] 49 2 #[] #[{ accessFlags := 25, nameIndex := 507, descriptorIndex := 526, attributes := #[] }, { accessFlags := 25, nameIndex := 399, descriptorIndex := 155, attributes := #[] }, { accessFlags := 25, nameIndex := 396, descriptorIndex := 155, attributes := #[] }, { accessFlags := 10, nameIndex := 525, descriptorIndex := 526, attributes := #[] }, { accessFlags := 26, nameIndex := 674, descriptorIndex := 12, attributes := #[] }, { accessFlags := 26, nameIndex := 677, descriptorIndex := 12, attributes := #[] }, { accessFlags := 10, nameIndex := 11, descriptorIndex := 12, attributes := #[] }, { accessFlags := 74, nameIndex := 175, descriptorIndex := 176, attributes := #[] }, { accessFlags := 10, nameIndex := 491, descriptorIndex := 222, attributes := #[] }, { accessFlags := 74, nameIndex := 29, descriptorIndex := 30, attributes := #[] }, { accessFlags := 74, nameIndex := 154, descriptorIndex := 155, attributes := #[] }, { accessFlags := 10, nameIndex := 217, descriptorIndex := 218, attributes := #[] }, { accessFlags := 10, nameIndex := 221, descriptorIndex := 222, attributes := #[] }, { accessFlags := 8, nameIndex := 562, descriptorIndex := 563, attributes := #[] }])
  fields := #[{ name := "in", type := (.object "java/io/InputStream"), accessFlags := 25, slot := 0, constantValue := 0 }, { name := "out", type := (.object "java/io/PrintStream"), accessFlags := 25, slot := 1, constantValue := 0 }, { name := "err", type := (.object "java/io/PrintStream"), accessFlags := 25, slot := 2, constantValue := 0 }, { name := "initialIn", type := (.object "java/io/InputStream"), accessFlags := 10, slot := 3, constantValue := 0 }, { name := "NEVER", type := .int, accessFlags := 26, slot := 4, constantValue := 0 }, { name := "MAYBE", type := .int, accessFlags := 26, slot := 5, constantValue := 0 }, { name := "allowSecurityManager", type := .int, accessFlags := 10, slot := 6, constantValue := 0 }, { name := "security", type := (.object "java/lang/SecurityManager"), accessFlags := 74, slot := 7, constantValue := 0 }, { name := "notSupportedJnuEncoding", type := (.object "java/lang/String"), accessFlags := 10, slot := 8, constantValue := 0 }, { name := "cons", type := (.object "java/io/Console"), accessFlags := 74, slot := 9, constantValue := 0 }, { name := "initialErrStream", type := (.object "java/io/PrintStream"), accessFlags := 74, slot := 10, constantValue := 0 }, { name := "props", type := (.object "java/util/Properties"), accessFlags := 10, slot := 11, constantValue := 0 }, { name := "lineSeparator", type := (.object "java/lang/String"), accessFlags := 10, slot := 12, constantValue := 0 }, { name := "bootLayer", type := (.object "java/lang/ModuleLayer"), accessFlags := 8, slot := 13, constantValue := 0 }]
  methods := #[k30m0, k30m1]
  instanceTypes := #[]
  staticTypes := #[(.object "java/io/InputStream"), (.object "java/io/PrintStream"), (.object "java/io/PrintStream"), (.object "java/io/InputStream"), .int, .int, .int, (.object "java/lang/SecurityManager"), (.object "java/lang/String"), (.object "java/io/Console"), (.object "java/io/PrintStream"), (.object "java/util/Properties"), (.object "java/lang/String"), (.object "java/lang/ModuleLayer")]
  resolved := Array.replicate 834 none
  statics := none }

def pool31 : Array CpInfo := pool [(1, .methodref 2 3), (0, .class_ 4), (0, .nameAndType 5 6), (0, u "java/lang/Record"), (0, u "<init>"), (0, u "()V"), (0, .fieldref 8 9), (0, .class_ 10), (0, .nameAndType 11 12), (0, u "com/example/attentive_search/attentivesearch/Highlight$Mark"), (0, u "start"), (0, u "I"), (0, .fieldref 8 14), (0, .nameAndType 15 12), (0, u "end"), (12, u "(II)V"), (4, u "()I"), (4, .class_ 39), (0, u "com/example/attentive_search/attentivesearch/Highlight")] 20

def k31c0 : Code := { maxStack := 2, maxLocals := 3, code := prog_7_method_1_code, exceptionTable := #[], attributes := #[] }
def k31m0 : Method := { name := "<init>", desc := "(II)V", sig := { parameters := [.int, .int], returnType := none }, accessFlags := 1, code := some k31c0 }
def k31c1 : Code := { maxStack := 1, maxLocals := 1, code := prog_7_method_5_code, exceptionTable := #[], attributes := #[] }
def k31m1 : Method := { name := "start", desc := "()I", sig := { parameters := [], returnType := some .int }, accessFlags := 1, code := some k31c1 }
def k31c2 : Code := { maxStack := 1, maxLocals := 1, code := prog_7_method_6_code, exceptionTable := #[], attributes := #[] }
def k31m2 : Method := { name := "end", desc := "()I", sig := { parameters := [], returnType := some .int }, accessFlags := 1, code := some k31c2 }
/-- com/example/attentive_search/attentivesearch/Highlight$Mark -/
def k31 : Class := { plain "com/example/attentive_search/attentivesearch/Highlight$Mark" (some 18) with
  accessFlags := 49
  interfaces := #[]
  cf := some (fileOf pool31 8 #[.nestHost 38] #[{ accessFlags := 1, nameIndex := 5, descriptorIndex := 28, attributes := #[] }, { accessFlags := 1, nameIndex := 11, descriptorIndex := 33, attributes := #[] }, { accessFlags := 1, nameIndex := 15, descriptorIndex := 33, attributes := #[] }] 49 2 #[] #[{ accessFlags := 18, nameIndex := 11, descriptorIndex := 12, attributes := #[] }, { accessFlags := 18, nameIndex := 15, descriptorIndex := 12, attributes := #[] }])
  fields := #[{ name := "start", type := .int, accessFlags := 18, slot := 0, constantValue := 0 }, { name := "end", type := .int, accessFlags := 18, slot := 1, constantValue := 0 }]
  methods := #[k31m0, k31m1, k31m2]
  instanceTypes := #[.int, .int]
  staticTypes := #[]
  resolved := Array.replicate 60 none
  statics := none }

/-- the primitive boolean -/
def k32 : Class := { plain "boolean" none with kind := .primitive 'Z', accessFlags := 0x411 }
/-- [Z -/
def k33 : Class := { plain "[Z" (some 0) with kind := .array 32 .boolean, interfaces := #[16, 2], accessFlags := 1041 }

/-- the primitive byte -/
def k34 : Class := { plain "byte" none with kind := .primitive 'B', accessFlags := 0x411 }
/-- [B -/
def k35 : Class := { plain "[B" (some 0) with kind := .array 34 .byte, interfaces := #[16, 2], accessFlags := 1041 }

/-- the primitive char -/
def k36 : Class := { plain "char" none with kind := .primitive 'C', accessFlags := 0x411 }
/-- [C -/
def k37 : Class := { plain "[C" (some 0) with kind := .array 36 .char, interfaces := #[16, 2], accessFlags := 1041 }

/-- the primitive int -/
def k38 : Class := { plain "int" none with kind := .primitive 'I', accessFlags := 0x411 }
/-- [I -/
def k39 : Class := { plain "[I" (some 0) with kind := .array 38 .int, interfaces := #[16, 2], accessFlags := 1041 }

/-- [Ljava/lang/Object; -/
def k40 : Class := { plain "[Ljava/lang/Object;" (some 0) with kind := .array 0 (.object "java/lang/Object"), interfaces := #[16, 2], accessFlags := 1041 }

def heap : Heap := #[{ cls := 7, slots := #[.long 0, .int 1, .null, .int 0, .null, .int 0, .int 0], vm := .statics 7 },
  { cls := 8, slots := #[.int 0, .int 8, .int 0, .int 1], vm := .statics 8 },
  { cls := 17, slots := #[.long 0, .int 0, .ref 4, .ref 5], vm := .statics 17 },
  { cls := 26, slots := #[.null, .null, .null], vm := .statics 26 },
  { cls := 40, slots := #[], vm := .none },
  { cls := 40, slots := #[], vm := .none }]
def classes : Array Class := #[k0, k1, k2, k3, k4, k5, k6, k7, k8, k9, k10, k11, k12, k13, k14, k15, k16, k17, k18, k19, k20, k21, k22, k23, k24, k25, k26, k27, k28, k29, k30, k31, k32, k33, k34, k35, k36, k37, k38, k39, k40]
def interned : List (Array UInt16 × Addr) := []
def slotsUsed : Nat := 18
def theMethod : MethodId := ⟨1, 1⟩
def args0 : Array Value := #[.long 0, .int 1, .int 0, .int 0, .int 0, .int 0]
def aboutOver (below : List Frame) : State where
  vm := { classes := classes, interned := interned.toArray }
  heap := heap
  slotsUsed := slotsUsed
  threads := #[{ frames := .invoking theMethod args0 :: below }]
def below0 : List Frame := [.native { method := ⟨0, 0⟩, args := #[] }]
def about1 : State := aboutOver below0
def p0 : Program := .bare "" "" ""
def e0 : Env := launch0.env 0 0 0
theorem w_frames : about1.frames = Frame.invoking theMethod args0 :: below0 := rfl
set_option maxRecDepth 65536 in
theorem w_args : argsFit about1.vm theMethod args0 = true := by decide +kernel
set_option maxRecDepth 65536 in
theorem w_heap : heapFits about1 = true := by decide +kernel
set_option maxRecDepth 65536 in
theorem w_runnable : about1.curStatus? = some .runnable := by decide +kernel
set_option maxRecDepth 65536 in
theorem w_alone : about1.alone = true := by decide +kernel
set_option maxRecDepth 65536 in
theorem w_named : about1.methodNamed? x = some theMethod := by decide +kernel
set_option maxRecDepth 65536 in
theorem w_hears : about1.hears theMethod below0 = true := by decide +kernel
set_option maxRecDepth 65536 in
theorem w_ripe : about1.ripe theMethod args0 below0 = true := by decide +kernel
theorem w_running : about1.status = .running := rfl
set_option maxRecDepth 65536 in
theorem w_room : about1.hasRoom e0.platform room_1 = true :=
  launch0.hasRoom_least _ room_1 (by decide +kernel) (by decide +kernel) (by decide +kernel) (by decide +kernel) (by decide +kernel) (by decide +kernel)
theorem allAtoms_all (ts : List Jvm.Cond) (a : Array Jvm.Value) (st : Jvm.State) : (allAtoms ts).before a st = ts.all (fun c => c.before a st) := by
  induction ts with
  | nil => rfl
  | cons c t ih =>
    show (Jvm.Cond.and c (allAtoms t)).before a st = _
    rw [Jvm.Cond.before_and, ih, List.all_cons]
def words1 : List Jvm.Cond := Jvm.Cond.code x code maxLocals ret :: tables_1
/-- a 'code' word, met by the world's own term for the bytes: nothing is compared byte by byte -/
theorem code_word {y : MethodName} {bytes : ByteArray} {mx : Nat} {rt : Option FieldType} {a : Array Value} {s : State} {m : MethodId} {meth : Method} {c : Code} (h1 : s.methodNamed? y = some m) (h2 : s.vm.method? m = some meth) (h3 : meth.code = some c) (h4 : c.code = bytes)
    (h5 : (c.maxLocals == mx && c.exceptionTable.isEmpty && decide (c.maxStack ≤ mostOperands) && decide (meth.sig.returnType = rt) && !meth.locks && decide (parseMethodDescriptor y.desc = some meth.sig)) = true) : (Jvm.Cond.code y bytes mx rt).before a s = true := by
  simp only [Bool.and_eq_true, beq_iff_eq, Bool.not_eq_true', decide_eq_true_eq] at h5
  obtain ⟨⟨⟨⟨⟨g1, g2⟩, g3⟩, g4⟩, g5⟩, g6⟩ := h5
  simp [Cond.before, Cond.holds, Cond.value, h1, h2, h3, h4, g1, g2, g3, g4, g5, g6]
def isCode : Jvm.Cond → Bool
  | .code _ _ _ _ => true
  | _ => false
theorem all_split {L : List Jvm.Cond} {P : Jvm.Cond → Bool} (h1 : L.all (fun c => isCode c || P c) = true) (h2 : ∀ c ∈ L.filter isCode, P c = true) : L.all P = true := by
  refine List.all_eq_true.mpr fun c hc => ?_
  have h := List.all_eq_true.mp h1 c hc
  rcases Bool.eq_false_or_eq_true (isCode c) with hi | hi
  · exact h2 c (List.mem_filter.mpr ⟨hc, hi⟩)
  · simpa [hi] using h
set_option maxRecDepth 65536 in
theorem w_c0 : (Jvm.Cond.code x code maxLocals ret).before args0 about1 = true := code_word (m := ⟨1, 1⟩) (meth := k1m1) (c := k1c1) (by decide +kernel) rfl rfl rfl (by decide +kernel)
set_option maxRecDepth 65536 in
theorem w_c1 : (Jvm.Cond.code ({ cls := "com/example/attentive_search/attentivesearch/HighlightHtmlPinLaw", name := "ch", desc := "(I)C" } : Jvm.MethodName) method_3_code (2 : Nat) (Option.some Jvm.ClassFile.FieldType.char)).before args0 about1 = true := code_word (m := ⟨1, 2⟩) (meth := k1m2) (c := k1c2) (by decide +kernel) rfl rfl rfl (by decide +kernel)
set_option maxRecDepth 65536 in
theorem w_c2 : (Jvm.Cond.code ({ cls := "java/lang/String", name := "<init>", desc := "([C)V" } : Jvm.MethodName) jdk_42_method_3_code (2 : Nat) (Option.none : Option Jvm.ClassFile.FieldType)).before args0 about1 = true := code_word (m := ⟨7, 1⟩) (meth := k7m1) (c := k7c1) (by decide +kernel) rfl rfl rfl (by decide +kernel)
set_option maxRecDepth 65536 in
theorem w_c3 : (Jvm.Cond.code ({ cls := "java/lang/String", name := "<init>", desc := "([CIILjava/lang/Void;)V" } : Jvm.MethodName) jdk_42_method_149_code (6 : Nat) (Option.none : Option Jvm.ClassFile.FieldType)).before args0 about1 = true := code_word (m := ⟨7, 7⟩) (meth := k7m7) (c := k7c7) (by decide +kernel) rfl rfl rfl (by decide +kernel)
set_option maxRecDepth 65536 in
theorem w_c4 : (Jvm.Cond.code ({ cls := "java/lang/Object", name := "<init>", desc := "()V" } : Jvm.MethodName) object_method_1_code (1 : Nat) (Option.none : Option Jvm.ClassFile.FieldType)).before args0 about1 = true := code_word (m := ⟨0, 0⟩) (meth := k0m0) (c := k0c0) (by decide +kernel) rfl rfl rfl (by decide +kernel)
set_option maxRecDepth 65536 in
theorem w_c5 : (Jvm.Cond.code ({ cls := "java/lang/StringUTF16", name := "compress", desc := "([CII)[B" } : Jvm.MethodName) jdk_52_method_16_code (6 : Nat) (Option.some (Jvm.ClassFile.FieldType.array Jvm.ClassFile.FieldType.byte))).before args0 about1 = true := code_word (m := ⟨8, 8⟩) (meth := k8m8) (c := k8c8) (by decide +kernel) rfl rfl rfl (by decide +kernel)
set_option maxRecDepth 65536 in
theorem w_c6 : (Jvm.Cond.code ({ cls := "java/lang/StringUTF16", name := "compress", desc := "([CI[BII)I" } : Jvm.MethodName) jdk_52_method_21_code (7 : Nat) (Option.some Jvm.ClassFile.FieldType.int)).before args0 about1 = true := code_word (m := ⟨8, 9⟩) (meth := k8m9) (c := k8c9) (by decide +kernel) rfl rfl rfl (by decide +kernel)
set_option maxRecDepth 65536 in
theorem w_c7 : (Jvm.Cond.code ({ cls := "java/lang/StringUTF16", name := "coderFromArrayLen", desc := "([BI)B" } : Jvm.MethodName) jdk_52_method_15_code (2 : Nat) (Option.some Jvm.ClassFile.FieldType.byte)).before args0 about1 = true := code_word (m := ⟨8, 7⟩) (meth := k8m7) (c := k8c7) (by decide +kernel) rfl rfl rfl (by decide +kernel)
set_option maxRecDepth 65536 in
theorem w_c8 : (Jvm.Cond.code ({ cls := "java/util/ArrayList", name := "<init>", desc := "()V" } : Jvm.MethodName) jdk_38_method_2_code (1 : Nat) (Option.none : Option Jvm.ClassFile.FieldType)).before args0 about1 = true := code_word (m := ⟨17, 0⟩) (meth := k17m0) (c := k17c0) (by decide +kernel) rfl rfl rfl (by decide +kernel)
set_option maxRecDepth 65536 in
theorem w_c9 : (Jvm.Cond.code ({ cls := "java/util/AbstractList", name := "<init>", desc := "()V" } : Jvm.MethodName) jdk_39_method_1_code (1 : Nat) (Option.none : Option Jvm.ClassFile.FieldType)).before args0 about1 = true := code_word (m := ⟨14, 0⟩) (meth := k14m0) (c := k14c0) (by decide +kernel) rfl rfl rfl (by decide +kernel)
set_option maxRecDepth 65536 in
theorem w_c10 : (Jvm.Cond.code ({ cls := "java/util/AbstractCollection", name := "<init>", desc := "()V" } : Jvm.MethodName) jdk_22_method_1_code (1 : Nat) (Option.none : Option Jvm.ClassFile.FieldType)).before args0 about1 = true := code_word (m := ⟨11, 0⟩) (meth := k11m0) (c := k11c0) (by decide +kernel) rfl rfl rfl (by decide +kernel)
set_option maxRecDepth 65536 in
theorem w_c11 : (Jvm.Cond.code ({ cls := "com/example/attentive_search/attentivesearch/Highlight", name := "html", desc := "(Ljava/lang/String;Ljava/util/List;)Ljava/lang/String;" } : Jvm.MethodName) prog_6_method_4_code (6 : Nat) (Option.some (Jvm.ClassFile.FieldType.object "java/lang/String"))).before args0 about1 = true := code_word (m := ⟨19, 0⟩) (meth := k19m0) (c := k19c0) (by decide +kernel) rfl rfl rfl (by decide +kernel)
set_option maxRecDepth 65536 in
theorem w_c12 : (Jvm.Cond.code ({ cls := "java/lang/String", name := "length", desc := "()I" } : Jvm.MethodName) jdk_42_method_54_code (1 : Nat) (Option.some Jvm.ClassFile.FieldType.int)).before args0 about1 = true := code_word (m := ⟨7, 3⟩) (meth := k7m3) (c := k7c3) (by decide +kernel) rfl rfl rfl (by decide +kernel)
set_option maxRecDepth 65536 in
theorem w_c13 : (Jvm.Cond.code ({ cls := "java/lang/String", name := "coder", desc := "()B" } : Jvm.MethodName) jdk_42_method_152_code (1 : Nat) (Option.some Jvm.ClassFile.FieldType.byte)).before args0 about1 = true := code_word (m := ⟨7, 10⟩) (meth := k7m10) (c := k7c10) (by decide +kernel) rfl rfl rfl (by decide +kernel)
set_option maxRecDepth 65536 in
theorem w_c14 : (Jvm.Cond.code ({ cls := "java/util/ArrayList", name := "size", desc := "()I" } : Jvm.MethodName) jdk_38_method_8_code (1 : Nat) (Option.some Jvm.ClassFile.FieldType.int)).before args0 about1 = true := code_word (m := ⟨17, 3⟩) (meth := k17m3) (c := k17c3) (by decide +kernel) rfl rfl rfl (by decide +kernel)
set_option maxRecDepth 65536 in
theorem w_c15 : (Jvm.Cond.code ({ cls := "java/lang/StringBuilder", name := "<init>", desc := "(I)V" } : Jvm.MethodName) jdk_67_method_2_code (2 : Nat) (Option.none : Option Jvm.ClassFile.FieldType)).before args0 about1 = true := code_word (m := ⟨22, 1⟩) (meth := k22m1) (c := k22c1) (by decide +kernel) rfl rfl rfl (by decide +kernel)
set_option maxRecDepth 65536 in
theorem w_c16 : (Jvm.Cond.code ({ cls := "java/lang/AbstractStringBuilder", name := "<init>", desc := "(I)V" } : Jvm.MethodName) jdk_68_method_2_code (2 : Nat) (Option.none : Option Jvm.ClassFile.FieldType)).before args0 about1 = true := code_word (m := ⟨21, 1⟩) (meth := k21m1) (c := k21c1) (by decide +kernel) rfl rfl rfl (by decide +kernel)
set_option maxRecDepth 65536 in
theorem w_c17 : (Jvm.Cond.code ({ cls := "java/util/ArrayList", name := "iterator", desc := "()Ljava/util/Iterator;" } : Jvm.MethodName) jdk_38_method_55_code (1 : Nat) (Option.some (Jvm.ClassFile.FieldType.object "java/util/Iterator"))).before args0 about1 = true := code_word (m := ⟨17, 6⟩) (meth := k17m6) (c := k17c6) (by decide +kernel) rfl rfl rfl (by decide +kernel)
set_option maxRecDepth 65536 in
theorem w_c18 : (Jvm.Cond.code ({ cls := "java/util/ArrayList$Itr", name := "<init>", desc := "(Ljava/util/ArrayList;)V" } : Jvm.MethodName) jdk_49_method_1_code (2 : Nat) (Option.none : Option Jvm.ClassFile.FieldType)).before args0 about1 = true := code_word (m := ⟨24, 0⟩) (meth := k24m0) (c := k24c0) (by decide +kernel) rfl rfl rfl (by decide +kernel)
set_option maxRecDepth 65536 in
theorem w_c19 : (Jvm.Cond.code ({ cls := "java/util/ArrayList$Itr", name := "hasNext", desc := "()Z" } : Jvm.MethodName) jdk_49_method_2_code (1 : Nat) (Option.some Jvm.ClassFile.FieldType.boolean)).before args0 about1 = true := code_word (m := ⟨24, 1⟩) (meth := k24m1) (c := k24c1) (by decide +kernel) rfl rfl rfl (by decide +kernel)
set_option maxRecDepth 65536 in
theorem w_c20 : (Jvm.Cond.code ({ cls := "com/example/attentive_search/attentivesearch/Highlight", name := "escape", desc := "(Ljava/lang/String;IILjava/lang/StringBuilder;)V" } : Jvm.MethodName) prog_6_method_5_code (6 : Nat) (Option.none : Option Jvm.ClassFile.FieldType)).before args0 about1 = true := code_word (m := ⟨19, 1⟩) (meth := k19m1) (c := k19c1) (by decide +kernel) rfl rfl rfl (by decide +kernel)
set_option maxRecDepth 65536 in
theorem w_c21 : (Jvm.Cond.code ({ cls := "java/lang/String", name := "charAt", desc := "(I)C" } : Jvm.MethodName) jdk_42_method_56_code (2 : Nat) (Option.some Jvm.ClassFile.FieldType.char)).before args0 about1 = true := code_word (m := ⟨7, 4⟩) (meth := k7m4) (c := k7c4) (by decide +kernel) rfl rfl rfl (by decide +kernel)
set_option maxRecDepth 65536 in
theorem w_c22 : (Jvm.Cond.code ({ cls := "java/lang/String", name := "isLatin1", desc := "()Z" } : Jvm.MethodName) jdk_42_method_154_code (1 : Nat) (Option.some Jvm.ClassFile.FieldType.boolean)).before args0 about1 = true := code_word (m := ⟨7, 11⟩) (meth := k7m11) (c := k7c11) (by decide +kernel) rfl rfl rfl (by decide +kernel)
set_option maxRecDepth 65536 in
theorem w_c23 : (Jvm.Cond.code ({ cls := "java/lang/StringLatin1", name := "charAt", desc := "([BI)C" } : Jvm.MethodName) jdk_43_method_2_code (2 : Nat) (Option.some Jvm.ClassFile.FieldType.char)).before args0 about1 = true := code_word (m := ⟨25, 1⟩) (meth := k25m1) (c := k25c1) (by decide +kernel) rfl rfl rfl (by decide +kernel)
set_option maxRecDepth 65536 in
theorem w_c24 : (Jvm.Cond.code ({ cls := "java/lang/String", name := "checkIndex", desc := "(II)V" } : Jvm.MethodName) jdk_42_method_155_code (2 : Nat) (Option.none : Option Jvm.ClassFile.FieldType)).before args0 about1 = true := code_word (m := ⟨7, 12⟩) (meth := k7m12) (c := k7c12) (by decide +kernel) rfl rfl rfl (by decide +kernel)
set_option maxRecDepth 65536 in
theorem w_c25 : (Jvm.Cond.code ({ cls := "jdk/internal/util/Preconditions", name := "checkIndex", desc := "(IILjava/util/function/BiFunction;)I" } : Jvm.MethodName) jdk_41_method_11_code (3 : Nat) (Option.some Jvm.ClassFile.FieldType.int)).before args0 about1 = true := code_word (m := ⟨26, 1⟩) (meth := k26m1) (c := k26c1) (by decide +kernel) rfl rfl rfl (by decide +kernel)
set_option maxRecDepth 65536 in
theorem w_c26 : (Jvm.Cond.code ({ cls := "java/lang/StringBuilder", name := "append", desc := "(Ljava/lang/String;)Ljava/lang/StringBuilder;" } : Jvm.MethodName) jdk_67_method_7_code (2 : Nat) (Option.some (Jvm.ClassFile.FieldType.object "java/lang/StringBuilder"))).before args0 about1 = true := code_word (m := ⟨22, 2⟩) (meth := k22m2) (c := k22c2) (by decide +kernel) rfl rfl rfl (by decide +kernel)
set_option maxRecDepth 65536 in
theorem w_c27 : (Jvm.Cond.code ({ cls := "java/lang/AbstractStringBuilder", name := "append", desc := "(Ljava/lang/String;)Ljava/lang/AbstractStringBuilder;" } : Jvm.MethodName) jdk_68_method_22_code (3 : Nat) (Option.some (Jvm.ClassFile.FieldType.object "java/lang/AbstractStringBuilder"))).before args0 about1 = true := code_word (m := ⟨21, 6⟩) (meth := k21m6) (c := k21c6) (by decide +kernel) rfl rfl rfl (by decide +kernel)
set_option maxRecDepth 65536 in
theorem w_c28 : (Jvm.Cond.code ({ cls := "java/lang/AbstractStringBuilder", name := "ensureCapacityInternal", desc := "(I)V" } : Jvm.MethodName) jdk_68_method_9_code (3 : Nat) (Option.none : Option Jvm.ClassFile.FieldType)).before args0 about1 = true := code_word (m := ⟨21, 3⟩) (meth := k21m3) (c := k21c3) (by decide +kernel) rfl rfl rfl (by decide +kernel)
set_option maxRecDepth 65536 in
theorem w_c29 : (Jvm.Cond.code ({ cls := "java/lang/AbstractStringBuilder", name := "newCapacity", desc := "(I)I" } : Jvm.MethodName) jdk_68_method_10_code (6 : Nat) (Option.some Jvm.ClassFile.FieldType.int)).before args0 about1 = true := code_word (m := ⟨21, 4⟩) (meth := k21m4) (c := k21c4) (by decide +kernel) rfl rfl rfl (by decide +kernel)
set_option maxRecDepth 65536 in
theorem w_c30 : (Jvm.Cond.code ({ cls := "jdk/internal/util/ArraysSupport", name := "newLength", desc := "(III)I" } : Jvm.MethodName) jdk_48_method_27_code (4 : Nat) (Option.some Jvm.ClassFile.FieldType.int)).before args0 about1 = true := code_word (m := ⟨27, 1⟩) (meth := k27m1) (c := k27c1) (by decide +kernel) rfl rfl rfl (by decide +kernel)
set_option maxRecDepth 65536 in
theorem w_c31 : (Jvm.Cond.code ({ cls := "java/lang/Math", name := "max", desc := "(II)I" } : Jvm.MethodName) jdk_29_method_65_code (2 : Nat) (Option.some Jvm.ClassFile.FieldType.int)).before args0 about1 = true := code_word (m := ⟨28, 1⟩) (meth := k28m1) (c := k28c1) (by decide +kernel) rfl rfl rfl (by decide +kernel)
set_option maxRecDepth 65536 in
theorem w_c32 : (Jvm.Cond.code ({ cls := "java/util/Arrays", name := "copyOf", desc := "([BI)[B" } : Jvm.MethodName) jdk_65_method_121_code (3 : Nat) (Option.some (Jvm.ClassFile.FieldType.array Jvm.ClassFile.FieldType.byte))).before args0 about1 = true := code_word (m := ⟨29, 1⟩) (meth := k29m1) (c := k29c1) (by decide +kernel) rfl rfl rfl (by decide +kernel)
set_option maxRecDepth 65536 in
theorem w_c33 : (Jvm.Cond.code ({ cls := "java/lang/Math", name := "min", desc := "(II)I" } : Jvm.MethodName) jdk_29_method_69_code (2 : Nat) (Option.some Jvm.ClassFile.FieldType.int)).before args0 about1 = true := code_word (m := ⟨28, 2⟩) (meth := k28m2) (c := k28c2) (by decide +kernel) rfl rfl rfl (by decide +kernel)
set_option maxRecDepth 65536 in
theorem w_c34 : (Jvm.Cond.code ({ cls := "java/lang/AbstractStringBuilder", name := "putStringAt", desc := "(ILjava/lang/String;)V" } : Jvm.MethodName) jdk_68_method_73_code (3 : Nat) (Option.none : Option Jvm.ClassFile.FieldType)).before args0 about1 = true := code_word (m := ⟨21, 11⟩) (meth := k21m11) (c := k21c11) (by decide +kernel) rfl rfl rfl (by decide +kernel)
set_option maxRecDepth 65536 in
theorem w_c35 : (Jvm.Cond.code ({ cls := "java/lang/AbstractStringBuilder", name := "inflateIfNeededFor", desc := "(Ljava/lang/String;)V" } : Jvm.MethodName) jdk_68_method_71_code (2 : Nat) (Option.none : Option Jvm.ClassFile.FieldType)).before args0 about1 = true := code_word (m := ⟨21, 10⟩) (meth := k21m10) (c := k21c10) (by decide +kernel) rfl rfl rfl (by decide +kernel)
set_option maxRecDepth 65536 in
theorem w_c36 : (Jvm.Cond.code ({ cls := "java/lang/String", name := "getBytes", desc := "([BIB)V" } : Jvm.MethodName) jdk_42_method_147_code (4 : Nat) (Option.none : Option Jvm.ClassFile.FieldType)).before args0 about1 = true := code_word (m := ⟨7, 6⟩) (meth := k7m6) (c := k7c6) (by decide +kernel) rfl rfl rfl (by decide +kernel)
set_option maxRecDepth 65536 in
theorem w_c37 : (Jvm.Cond.code ({ cls := "java/lang/StringBuilder", name := "toString", desc := "()Ljava/lang/String;" } : Jvm.MethodName) jdk_67_method_42_code (1 : Nat) (Option.some (Jvm.ClassFile.FieldType.object "java/lang/String"))).before args0 about1 = true := code_word (m := ⟨22, 4⟩) (meth := k22m4) (c := k22c4) (by decide +kernel) rfl rfl rfl (by decide +kernel)
set_option maxRecDepth 65536 in
theorem w_c38 : (Jvm.Cond.code ({ cls := "java/lang/String", name := "<init>", desc := "(Ljava/lang/StringBuilder;)V" } : Jvm.MethodName) jdk_42_method_53_code (2 : Nat) (Option.none : Option Jvm.ClassFile.FieldType)).before args0 about1 = true := code_word (m := ⟨7, 2⟩) (meth := k7m2) (c := k7c2) (by decide +kernel) rfl rfl rfl (by decide +kernel)
set_option maxRecDepth 65536 in
theorem w_c39 : (Jvm.Cond.code ({ cls := "java/lang/String", name := "<init>", desc := "(Ljava/lang/AbstractStringBuilder;Ljava/lang/Void;)V" } : Jvm.MethodName) jdk_42_method_150_code (5 : Nat) (Option.none : Option Jvm.ClassFile.FieldType)).before args0 about1 = true := code_word (m := ⟨7, 8⟩) (meth := k7m8) (c := k7c8) (by decide +kernel) rfl rfl rfl (by decide +kernel)
set_option maxRecDepth 65536 in
theorem w_c40 : (Jvm.Cond.code ({ cls := "java/lang/AbstractStringBuilder", name := "getValue", desc := "()[B" } : Jvm.MethodName) jdk_68_method_64_code (1 : Nat) (Option.some (Jvm.ClassFile.FieldType.array Jvm.ClassFile.FieldType.byte))).before args0 about1 = true := code_word (m := ⟨21, 8⟩) (meth := k21m8) (c := k21c8) (by decide +kernel) rfl rfl rfl (by decide +kernel)
set_option maxRecDepth 65536 in
theorem w_c41 : (Jvm.Cond.code ({ cls := "java/lang/StringBuilder", name := "length", desc := "()I" } : Jvm.MethodName) jdk_67_method_93_code (1 : Nat) (Option.some Jvm.ClassFile.FieldType.int)).before args0 about1 = true := code_word (m := ⟨22, 5⟩) (meth := k22m5) (c := k22c5) (by decide +kernel) rfl rfl rfl (by decide +kernel)
set_option maxRecDepth 65536 in
theorem w_c42 : (Jvm.Cond.code ({ cls := "java/lang/AbstractStringBuilder", name := "length", desc := "()I" } : Jvm.MethodName) jdk_68_method_6_code (1 : Nat) (Option.some Jvm.ClassFile.FieldType.int)).before args0 about1 = true := code_word (m := ⟨21, 2⟩) (meth := k21m2) (c := k21c2) (by decide +kernel) rfl rfl rfl (by decide +kernel)
set_option maxRecDepth 65536 in
theorem w_c43 : (Jvm.Cond.code ({ cls := "java/lang/AbstractStringBuilder", name := "isLatin1", desc := "()Z" } : Jvm.MethodName) jdk_68_method_68_code (1 : Nat) (Option.some Jvm.ClassFile.FieldType.boolean)).before args0 about1 = true := code_word (m := ⟨21, 9⟩) (meth := k21m9) (c := k21c9) (by decide +kernel) rfl rfl rfl (by decide +kernel)
set_option maxRecDepth 65536 in
theorem w_c44 : (Jvm.Cond.code ({ cls := "java/util/Arrays", name := "copyOfRange", desc := "([BII)[B" } : Jvm.MethodName) jdk_65_method_132_code (3 : Nat) (Option.some (Jvm.ClassFile.FieldType.array Jvm.ClassFile.FieldType.byte))).before args0 about1 = true := code_word (m := ⟨29, 3⟩) (meth := k29m3) (c := k29c3) (by decide +kernel) rfl rfl rfl (by decide +kernel)
set_option maxRecDepth 65536 in
theorem w_c45 : (Jvm.Cond.code ({ cls := "java/util/Arrays", name := "copyOfRangeByte", desc := "([BII)[B" } : Jvm.MethodName) jdk_65_method_133_code (5 : Nat) (Option.some (Jvm.ClassFile.FieldType.array Jvm.ClassFile.FieldType.byte))).before args0 about1 = true := code_word (m := ⟨29, 4⟩) (meth := k29m4) (c := k29c4) (by decide +kernel) rfl rfl rfl (by decide +kernel)
set_option maxRecDepth 65536 in
theorem w_c46 : (Jvm.Cond.code ({ cls := "java/util/Arrays", name := "checkLength", desc := "(II)V" } : Jvm.MethodName) jdk_65_method_131_code (2 : Nat) (Option.none : Option Jvm.ClassFile.FieldType)).before args0 about1 = true := code_word (m := ⟨29, 2⟩) (meth := k29m2) (c := k29c2) (by decide +kernel) rfl rfl rfl (by decide +kernel)
set_option maxRecDepth 65536 in
theorem w_c47 : (Jvm.Cond.code ({ cls := "com/example/attentive_search/attentivesearch/HighlightHtmlPinLaw", name := "step", desc := "(Ljava/lang/String;IZZZC)I" } : Jvm.MethodName) method_5_code (7 : Nat) (Option.some Jvm.ClassFile.FieldType.int)).before args0 about1 = true := code_word (m := ⟨1, 4⟩) (meth := k1m4) (c := k1c4) (by decide +kernel) rfl rfl rfl (by decide +kernel)
set_option maxRecDepth 65536 in
theorem w_c48 : (Jvm.Cond.code ({ cls := "com/example/attentive_search/attentivesearch/HighlightHtmlPinLaw", name := "esc", desc := "(C)Ljava/lang/String;" } : Jvm.MethodName) method_4_code (1 : Nat) (Option.some (Jvm.ClassFile.FieldType.object "java/lang/String"))).before args0 about1 = true := code_word (m := ⟨1, 3⟩) (meth := k1m3) (c := k1c3) (by decide +kernel) rfl rfl rfl (by decide +kernel)
set_option maxRecDepth 65536 in
theorem w_c49 : (Jvm.Cond.code ({ cls := "com/example/attentive_search/attentivesearch/HighlightHtmlPinLaw", name := "take", desc := "(Ljava/lang/String;ILjava/lang/String;)I" } : Jvm.MethodName) method_6_code (4 : Nat) (Option.some Jvm.ClassFile.FieldType.int)).before args0 about1 = true := code_word (m := ⟨1, 5⟩) (meth := k1m5) (c := k1c5) (by decide +kernel) rfl rfl rfl (by decide +kernel)
set_option maxRecDepth 65536 in
theorem w_c50 : (Jvm.Cond.code ({ cls := "com/example/attentive_search/attentivesearch/Highlight$Mark", name := "<init>", desc := "(II)V" } : Jvm.MethodName) prog_7_method_1_code (3 : Nat) (Option.none : Option Jvm.ClassFile.FieldType)).before args0 about1 = true := code_word (m := ⟨31, 0⟩) (meth := k31m0) (c := k31c0) (by decide +kernel) rfl rfl rfl (by decide +kernel)
set_option maxRecDepth 65536 in
theorem w_c51 : (Jvm.Cond.code ({ cls := "java/lang/Record", name := "<init>", desc := "()V" } : Jvm.MethodName) jdk_30_method_1_code (1 : Nat) (Option.none : Option Jvm.ClassFile.FieldType)).before args0 about1 = true := code_word (m := ⟨18, 0⟩) (meth := k18m0) (c := k18c0) (by decide +kernel) rfl rfl rfl (by decide +kernel)
set_option maxRecDepth 65536 in
theorem w_c52 : (Jvm.Cond.code ({ cls := "java/util/ArrayList", name := "add", desc := "(Ljava/lang/Object;)Z" } : Jvm.MethodName) jdk_38_method_25_code (2 : Nat) (Option.some Jvm.ClassFile.FieldType.boolean)).before args0 about1 = true := code_word (m := ⟨17, 5⟩) (meth := k17m5) (c := k17c5) (by decide +kernel) rfl rfl rfl (by decide +kernel)
set_option maxRecDepth 65536 in
theorem w_c53 : (Jvm.Cond.code ({ cls := "java/util/ArrayList", name := "add", desc := "(Ljava/lang/Object;[Ljava/lang/Object;I)V" } : Jvm.MethodName) jdk_38_method_24_code (4 : Nat) (Option.none : Option Jvm.ClassFile.FieldType)).before args0 about1 = true := code_word (m := ⟨17, 4⟩) (meth := k17m4) (c := k17c4) (by decide +kernel) rfl rfl rfl (by decide +kernel)
set_option maxRecDepth 65536 in
theorem w_c54 : (Jvm.Cond.code ({ cls := "java/util/ArrayList", name := "grow", desc := "()[Ljava/lang/Object;" } : Jvm.MethodName) jdk_38_method_7_code (1 : Nat) (Option.some (Jvm.ClassFile.FieldType.array (Jvm.ClassFile.FieldType.object "java/lang/Object")))).before args0 about1 = true := code_word (m := ⟨17, 2⟩) (meth := k17m2) (c := k17c2) (by decide +kernel) rfl rfl rfl (by decide +kernel)
set_option maxRecDepth 65536 in
theorem w_c55 : (Jvm.Cond.code ({ cls := "java/util/ArrayList", name := "grow", desc := "(I)[Ljava/lang/Object;" } : Jvm.MethodName) jdk_38_method_6_code (4 : Nat) (Option.some (Jvm.ClassFile.FieldType.array (Jvm.ClassFile.FieldType.object "java/lang/Object")))).before args0 about1 = true := code_word (m := ⟨17, 1⟩) (meth := k17m1) (c := k17c1) (by decide +kernel) rfl rfl rfl (by decide +kernel)
set_option maxRecDepth 65536 in
theorem w_c56 : (Jvm.Cond.code ({ cls := "java/util/ArrayList$Itr", name := "next", desc := "()Ljava/lang/Object;" } : Jvm.MethodName) jdk_49_method_3_code (3 : Nat) (Option.some (Jvm.ClassFile.FieldType.object "java/lang/Object"))).before args0 about1 = true := code_word (m := ⟨24, 2⟩) (meth := k24m2) (c := k24c2) (by decide +kernel) rfl rfl rfl (by decide +kernel)
set_option maxRecDepth 65536 in
theorem w_c57 : (Jvm.Cond.code ({ cls := "java/util/ArrayList$Itr", name := "checkForComodification", desc := "()V" } : Jvm.MethodName) jdk_49_method_6_code (1 : Nat) (Option.none : Option Jvm.ClassFile.FieldType)).before args0 about1 = true := code_word (m := ⟨24, 3⟩) (meth := k24m3) (c := k24c3) (by decide +kernel) rfl rfl rfl (by decide +kernel)
set_option maxRecDepth 65536 in
theorem w_c58 : (Jvm.Cond.code ({ cls := "com/example/attentive_search/attentivesearch/Highlight$Mark", name := "start", desc := "()I" } : Jvm.MethodName) prog_7_method_5_code (1 : Nat) (Option.some Jvm.ClassFile.FieldType.int)).before args0 about1 = true := code_word (m := ⟨31, 1⟩) (meth := k31m1) (c := k31c1) (by decide +kernel) rfl rfl rfl (by decide +kernel)
set_option maxRecDepth 65536 in
theorem w_c59 : (Jvm.Cond.code ({ cls := "java/lang/StringBuilder", name := "append", desc := "(C)Ljava/lang/StringBuilder;" } : Jvm.MethodName) jdk_67_method_14_code (2 : Nat) (Option.some (Jvm.ClassFile.FieldType.object "java/lang/StringBuilder"))).before args0 about1 = true := code_word (m := ⟨22, 3⟩) (meth := k22m3) (c := k22c3) (by decide +kernel) rfl rfl rfl (by decide +kernel)
set_option maxRecDepth 65536 in
theorem w_c60 : (Jvm.Cond.code ({ cls := "java/lang/AbstractStringBuilder", name := "append", desc := "(C)Ljava/lang/AbstractStringBuilder;" } : Jvm.MethodName) jdk_68_method_31_code (2 : Nat) (Option.some (Jvm.ClassFile.FieldType.object "java/lang/AbstractStringBuilder"))).before args0 about1 = true := code_word (m := ⟨21, 7⟩) (meth := k21m7) (c := k21c7) (by decide +kernel) rfl rfl rfl (by decide +kernel)
set_option maxRecDepth 65536 in
theorem w_c61 : (Jvm.Cond.code ({ cls := "java/lang/StringLatin1", name := "canEncode", desc := "(C)Z" } : Jvm.MethodName) jdk_43_method_3_code (1 : Nat) (Option.some Jvm.ClassFile.FieldType.boolean)).before args0 about1 = true := code_word (m := ⟨25, 2⟩) (meth := k25m2) (c := k25c2) (by decide +kernel) rfl rfl rfl (by decide +kernel)
set_option maxRecDepth 65536 in
theorem w_c62 : (Jvm.Cond.code ({ cls := "com/example/attentive_search/attentivesearch/Highlight$Mark", name := "end", desc := "()I" } : Jvm.MethodName) prog_7_method_6_code (1 : Nat) (Option.some Jvm.ClassFile.FieldType.int)).before args0 about1 = true := code_word (m := ⟨31, 2⟩) (meth := k31m2) (c := k31c2) (by decide +kernel) rfl rfl rfl (by decide +kernel)
set_option maxRecDepth 65536 in
theorem w_c63 : (Jvm.Cond.code ({ cls := "java/lang/String", name := "valueOf", desc := "(C)Ljava/lang/String;" } : Jvm.MethodName) jdk_42_method_139_code (1 : Nat) (Option.some (Jvm.ClassFile.FieldType.object "java/lang/String"))).before args0 about1 = true := code_word (m := ⟨7, 5⟩) (meth := k7m5) (c := k7c5) (by decide +kernel) rfl rfl rfl (by decide +kernel)
set_option maxRecDepth 65536 in
theorem w_c64 : (Jvm.Cond.code ({ cls := "java/lang/StringLatin1", name := "toBytes", desc := "(C)[B" } : Jvm.MethodName) jdk_43_method_46_code (1 : Nat) (Option.some (Jvm.ClassFile.FieldType.array Jvm.ClassFile.FieldType.byte))).before args0 about1 = true := code_word (m := ⟨25, 3⟩) (meth := k25m3) (c := k25c3) (by decide +kernel) rfl rfl rfl (by decide +kernel)
set_option maxRecDepth 65536 in
theorem w_c65 : (Jvm.Cond.code ({ cls := "java/lang/String", name := "<init>", desc := "([BB)V" } : Jvm.MethodName) jdk_42_method_151_code (3 : Nat) (Option.none : Option Jvm.ClassFile.FieldType)).before args0 about1 = true := code_word (m := ⟨7, 9⟩) (meth := k7m9) (c := k7c9) (by decide +kernel) rfl rfl rfl (by decide +kernel)
set_option maxRecDepth 65536 in
theorem w_c66 : (Jvm.Cond.code ({ cls := "java/lang/StringUTF16", name := "toBytes", desc := "([CII)[B" } : Jvm.MethodName) jdk_52_method_14_code (5 : Nat) (Option.some (Jvm.ClassFile.FieldType.array Jvm.ClassFile.FieldType.byte))).before args0 about1 = true := code_word (m := ⟨8, 6⟩) (meth := k8m6) (c := k8c6) (by decide +kernel) rfl rfl rfl (by decide +kernel)
set_option maxRecDepth 65536 in
theorem w_c67 : (Jvm.Cond.code ({ cls := "java/lang/StringUTF16", name := "newBytesFor", desc := "(I)[B" } : Jvm.MethodName) jdk_52_method_2_code (1 : Nat) (Option.some (Jvm.ClassFile.FieldType.array Jvm.ClassFile.FieldType.byte))).before args0 about1 = true := code_word (m := ⟨8, 1⟩) (meth := k8m1) (c := k8c1) (by decide +kernel) rfl rfl rfl (by decide +kernel)
set_option maxRecDepth 65536 in
theorem w_c68 : (Jvm.Cond.code ({ cls := "java/lang/StringUTF16", name := "newBytesLength", desc := "(I)I" } : Jvm.MethodName) jdk_52_method_3_code (1 : Nat) (Option.some Jvm.ClassFile.FieldType.int)).before args0 about1 = true := code_word (m := ⟨8, 2⟩) (meth := k8m2) (c := k8c2) (by decide +kernel) rfl rfl rfl (by decide +kernel)
set_option maxRecDepth 65536 in
theorem w_c69 : (Jvm.Cond.code ({ cls := "java/lang/StringUTF16", name := "putChar", desc := "([BII)V" } : Jvm.MethodName) jdk_52_method_4_code (3 : Nat) (Option.none : Option Jvm.ClassFile.FieldType)).before args0 about1 = true := code_word (m := ⟨8, 3⟩) (meth := k8m3) (c := k8c3) (by decide +kernel) rfl rfl rfl (by decide +kernel)
set_option maxRecDepth 65536 in
theorem w_c70 : (Jvm.Cond.code ({ cls := "java/lang/StringUTF16", name := "getChar", desc := "([BI)C" } : Jvm.MethodName) jdk_52_method_5_code (2 : Nat) (Option.some Jvm.ClassFile.FieldType.char)).before args0 about1 = true := code_word (m := ⟨8, 4⟩) (meth := k8m4) (c := k8c4) (by decide +kernel) rfl rfl rfl (by decide +kernel)
set_option maxRecDepth 65536 in
theorem w_c71 : (Jvm.Cond.code ({ cls := "java/lang/StringUTF16", name := "charAt", desc := "([BI)C" } : Jvm.MethodName) jdk_52_method_83_code (2 : Nat) (Option.some Jvm.ClassFile.FieldType.char)).before args0 about1 = true := code_word (m := ⟨8, 12⟩) (meth := k8m12) (c := k8c12) (by decide +kernel) rfl rfl rfl (by decide +kernel)
set_option maxRecDepth 65536 in
theorem w_c72 : (Jvm.Cond.code ({ cls := "java/lang/StringUTF16", name := "checkIndex", desc := "(I[B)V" } : Jvm.MethodName) jdk_52_method_91_code (2 : Nat) (Option.none : Option Jvm.ClassFile.FieldType)).before args0 about1 = true := code_word (m := ⟨8, 14⟩) (meth := k8m14) (c := k8c14) (by decide +kernel) rfl rfl rfl (by decide +kernel)
set_option maxRecDepth 65536 in
theorem w_c73 : (Jvm.Cond.code ({ cls := "java/lang/StringUTF16", name := "length", desc := "([B)I" } : Jvm.MethodName) jdk_52_method_6_code (1 : Nat) (Option.some Jvm.ClassFile.FieldType.int)).before args0 about1 = true := code_word (m := ⟨8, 5⟩) (meth := k8m5) (c := k8c5) (by decide +kernel) rfl rfl rfl (by decide +kernel)
set_option maxRecDepth 65536 in
theorem w_c74 : (Jvm.Cond.code ({ cls := "java/lang/AbstractStringBuilder", name := "inflate", desc := "()V" } : Jvm.MethodName) jdk_68_method_11_code (2 : Nat) (Option.none : Option Jvm.ClassFile.FieldType)).before args0 about1 = true := code_word (m := ⟨21, 5⟩) (meth := k21m5) (c := k21c5) (by decide +kernel) rfl rfl rfl (by decide +kernel)
set_option maxRecDepth 65536 in
theorem w_c75 : (Jvm.Cond.code ({ cls := "java/lang/StringLatin1", name := "inflate", desc := "([BI[BII)V" } : Jvm.MethodName) jdk_43_method_50_code (5 : Nat) (Option.none : Option Jvm.ClassFile.FieldType)).before args0 about1 = true := code_word (m := ⟨25, 4⟩) (meth := k25m4) (c := k25c4) (by decide +kernel) rfl rfl rfl (by decide +kernel)
set_option maxRecDepth 65536 in
theorem w_c76 : (Jvm.Cond.code ({ cls := "java/lang/StringUTF16", name := "inflate", desc := "([BI[BII)V" } : Jvm.MethodName) jdk_52_method_86_code (6 : Nat) (Option.none : Option Jvm.ClassFile.FieldType)).before args0 about1 = true := code_word (m := ⟨8, 13⟩) (meth := k8m13) (c := k8c13) (by decide +kernel) rfl rfl rfl (by decide +kernel)
set_option maxRecDepth 65536 in
theorem w_c77 : (Jvm.Cond.code ({ cls := "java/lang/StringUTF16", name := "checkBoundsOffCount", desc := "(II[B)V" } : Jvm.MethodName) jdk_52_method_94_code (3 : Nat) (Option.none : Option Jvm.ClassFile.FieldType)).before args0 about1 = true := code_word (m := ⟨8, 15⟩) (meth := k8m15) (c := k8c15) (by decide +kernel) rfl rfl rfl (by decide +kernel)
set_option maxRecDepth 65536 in
theorem w_c78 : (Jvm.Cond.code ({ cls := "java/lang/String", name := "checkBoundsOffCount", desc := "(III)I" } : Jvm.MethodName) jdk_42_method_157_code (3 : Nat) (Option.some Jvm.ClassFile.FieldType.int)).before args0 about1 = true := code_word (m := ⟨7, 13⟩) (meth := k7m13) (c := k7c13) (by decide +kernel) rfl rfl rfl (by decide +kernel)
set_option maxRecDepth 65536 in
theorem w_c79 : (Jvm.Cond.code ({ cls := "jdk/internal/util/Preconditions", name := "checkFromIndexSize", desc := "(IIILjava/util/function/BiFunction;)I" } : Jvm.MethodName) jdk_41_method_13_code (4 : Nat) (Option.some Jvm.ClassFile.FieldType.int)).before args0 about1 = true := code_word (m := ⟨26, 2⟩) (meth := k26m2) (c := k26c2) (by decide +kernel) rfl rfl rfl (by decide +kernel)
set_option maxRecDepth 65536 in
theorem w_c80 : (Jvm.Cond.code ({ cls := "java/lang/StringUTF16", name := "putCharSB", desc := "([BII)V" } : Jvm.MethodName) jdk_52_method_71_code (3 : Nat) (Option.none : Option Jvm.ClassFile.FieldType)).before args0 about1 = true := code_word (m := ⟨8, 11⟩) (meth := k8m11) (c := k8c11) (by decide +kernel) rfl rfl rfl (by decide +kernel)
set_option maxRecDepth 65536 in
theorem w_c81 : (Jvm.Cond.code ({ cls := "java/lang/StringUTF16", name := "toBytes", desc := "(C)[B" } : Jvm.MethodName) jdk_52_method_24_code (2 : Nat) (Option.some (Jvm.ClassFile.FieldType.array Jvm.ClassFile.FieldType.byte))).before args0 about1 = true := code_word (m := ⟨8, 10⟩) (meth := k8m10) (c := k8c10) (by decide +kernel) rfl rfl rfl (by decide +kernel)
def codes1 : List Jvm.Cond := [Jvm.Cond.code x code maxLocals ret, Jvm.Cond.code ({ cls := "com/example/attentive_search/attentivesearch/HighlightHtmlPinLaw", name := "ch", desc := "(I)C" } : Jvm.MethodName) method_3_code (2 : Nat) (Option.some Jvm.ClassFile.FieldType.char), Jvm.Cond.code ({ cls := "java/lang/String", name := "<init>", desc := "([C)V" } : Jvm.MethodName) jdk_42_method_3_code (2 : Nat) (Option.none : Option Jvm.ClassFile.FieldType), Jvm.Cond.code ({ cls := "java/lang/String", name := "<init>", desc := "([CIILjava/lang/Void;)V" } : Jvm.MethodName) jdk_42_method_149_code (6 : Nat) (Option.none : Option Jvm.ClassFile.FieldType), Jvm.Cond.code ({ cls := "java/lang/Object", name := "<init>", desc := "()V" } : Jvm.MethodName) object_method_1_code (1 : Nat) (Option.none : Option Jvm.ClassFile.FieldType), Jvm.Cond.code ({ cls := "java/lang/StringUTF16", name := "compress", desc := "([CII)[B" } : Jvm.MethodName) jdk_52_method_16_code (6 : Nat) (Option.some (Jvm.ClassFile.FieldType.array Jvm.ClassFile.FieldType.byte)), Jvm.Cond.code ({ cls := "java/lang/StringUTF16", name := "compress", desc := "([CI[BII)I" } : Jvm.MethodName) jdk_52_method_21_code (7 : Nat) (Option.some Jvm.ClassFile.FieldType.int), Jvm.Cond.code ({ cls := "java/lang/StringUTF16", name := "coderFromArrayLen", desc := "([BI)B" } : Jvm.MethodName) jdk_52_method_15_code (2 : Nat) (Option.some Jvm.ClassFile.FieldType.byte), Jvm.Cond.code ({ cls := "java/util/ArrayList", name := "<init>", desc := "()V" } : Jvm.MethodName) jdk_38_method_2_code (1 : Nat) (Option.none : Option Jvm.ClassFile.FieldType), Jvm.Cond.code ({ cls := "java/util/AbstractList", name := "<init>", desc := "()V" } : Jvm.MethodName) jdk_39_method_1_code (1 : Nat) (Option.none : Option Jvm.ClassFile.FieldType), Jvm.Cond.code ({ cls := "java/util/AbstractCollection", name := "<init>", desc := "()V" } : Jvm.MethodName) jdk_22_method_1_code (1 : Nat) (Option.none : Option Jvm.ClassFile.FieldType), Jvm.Cond.code ({ cls := "com/example/attentive_search/attentivesearch/Highlight", name := "html", desc := "(Ljava/lang/String;Ljava/util/List;)Ljava/lang/String;" } : Jvm.MethodName) prog_6_method_4_code (6 : Nat) (Option.some (Jvm.ClassFile.FieldType.object "java/lang/String")), Jvm.Cond.code ({ cls := "java/lang/String", name := "length", desc := "()I" } : Jvm.MethodName) jdk_42_method_54_code (1 : Nat) (Option.some Jvm.ClassFile.FieldType.int), Jvm.Cond.code ({ cls := "java/lang/String", name := "coder", desc := "()B" } : Jvm.MethodName) jdk_42_method_152_code (1 : Nat) (Option.some Jvm.ClassFile.FieldType.byte), Jvm.Cond.code ({ cls := "java/util/ArrayList", name := "size", desc := "()I" } : Jvm.MethodName) jdk_38_method_8_code (1 : Nat) (Option.some Jvm.ClassFile.FieldType.int), Jvm.Cond.code ({ cls := "java/lang/StringBuilder", name := "<init>", desc := "(I)V" } : Jvm.MethodName) jdk_67_method_2_code (2 : Nat) (Option.none : Option Jvm.ClassFile.FieldType), Jvm.Cond.code ({ cls := "java/lang/AbstractStringBuilder", name := "<init>", desc := "(I)V" } : Jvm.MethodName) jdk_68_method_2_code (2 : Nat) (Option.none : Option Jvm.ClassFile.FieldType), Jvm.Cond.code ({ cls := "java/util/ArrayList", name := "iterator", desc := "()Ljava/util/Iterator;" } : Jvm.MethodName) jdk_38_method_55_code (1 : Nat) (Option.some (Jvm.ClassFile.FieldType.object "java/util/Iterator")), Jvm.Cond.code ({ cls := "java/util/ArrayList$Itr", name := "<init>", desc := "(Ljava/util/ArrayList;)V" } : Jvm.MethodName) jdk_49_method_1_code (2 : Nat) (Option.none : Option Jvm.ClassFile.FieldType), Jvm.Cond.code ({ cls := "java/util/ArrayList$Itr", name := "hasNext", desc := "()Z" } : Jvm.MethodName) jdk_49_method_2_code (1 : Nat) (Option.some Jvm.ClassFile.FieldType.boolean), Jvm.Cond.code ({ cls := "com/example/attentive_search/attentivesearch/Highlight", name := "escape", desc := "(Ljava/lang/String;IILjava/lang/StringBuilder;)V" } : Jvm.MethodName) prog_6_method_5_code (6 : Nat) (Option.none : Option Jvm.ClassFile.FieldType), Jvm.Cond.code ({ cls := "java/lang/String", name := "charAt", desc := "(I)C" } : Jvm.MethodName) jdk_42_method_56_code (2 : Nat) (Option.some Jvm.ClassFile.FieldType.char), Jvm.Cond.code ({ cls := "java/lang/String", name := "isLatin1", desc := "()Z" } : Jvm.MethodName) jdk_42_method_154_code (1 : Nat) (Option.some Jvm.ClassFile.FieldType.boolean), Jvm.Cond.code ({ cls := "java/lang/StringLatin1", name := "charAt", desc := "([BI)C" } : Jvm.MethodName) jdk_43_method_2_code (2 : Nat) (Option.some Jvm.ClassFile.FieldType.char), Jvm.Cond.code ({ cls := "java/lang/String", name := "checkIndex", desc := "(II)V" } : Jvm.MethodName) jdk_42_method_155_code (2 : Nat) (Option.none : Option Jvm.ClassFile.FieldType), Jvm.Cond.code ({ cls := "jdk/internal/util/Preconditions", name := "checkIndex", desc := "(IILjava/util/function/BiFunction;)I" } : Jvm.MethodName) jdk_41_method_11_code (3 : Nat) (Option.some Jvm.ClassFile.FieldType.int), Jvm.Cond.code ({ cls := "java/lang/StringBuilder", name := "append", desc := "(Ljava/lang/String;)Ljava/lang/StringBuilder;" } : Jvm.MethodName) jdk_67_method_7_code (2 : Nat) (Option.some (Jvm.ClassFile.FieldType.object "java/lang/StringBuilder")), Jvm.Cond.code ({ cls := "java/lang/AbstractStringBuilder", name := "append", desc := "(Ljava/lang/String;)Ljava/lang/AbstractStringBuilder;" } : Jvm.MethodName) jdk_68_method_22_code (3 : Nat) (Option.some (Jvm.ClassFile.FieldType.object "java/lang/AbstractStringBuilder")), Jvm.Cond.code ({ cls := "java/lang/AbstractStringBuilder", name := "ensureCapacityInternal", desc := "(I)V" } : Jvm.MethodName) jdk_68_method_9_code (3 : Nat) (Option.none : Option Jvm.ClassFile.FieldType), Jvm.Cond.code ({ cls := "java/lang/AbstractStringBuilder", name := "newCapacity", desc := "(I)I" } : Jvm.MethodName) jdk_68_method_10_code (6 : Nat) (Option.some Jvm.ClassFile.FieldType.int), Jvm.Cond.code ({ cls := "jdk/internal/util/ArraysSupport", name := "newLength", desc := "(III)I" } : Jvm.MethodName) jdk_48_method_27_code (4 : Nat) (Option.some Jvm.ClassFile.FieldType.int), Jvm.Cond.code ({ cls := "java/lang/Math", name := "max", desc := "(II)I" } : Jvm.MethodName) jdk_29_method_65_code (2 : Nat) (Option.some Jvm.ClassFile.FieldType.int), Jvm.Cond.code ({ cls := "java/util/Arrays", name := "copyOf", desc := "([BI)[B" } : Jvm.MethodName) jdk_65_method_121_code (3 : Nat) (Option.some (Jvm.ClassFile.FieldType.array Jvm.ClassFile.FieldType.byte)), Jvm.Cond.code ({ cls := "java/lang/Math", name := "min", desc := "(II)I" } : Jvm.MethodName) jdk_29_method_69_code (2 : Nat) (Option.some Jvm.ClassFile.FieldType.int), Jvm.Cond.code ({ cls := "java/lang/AbstractStringBuilder", name := "putStringAt", desc := "(ILjava/lang/String;)V" } : Jvm.MethodName) jdk_68_method_73_code (3 : Nat) (Option.none : Option Jvm.ClassFile.FieldType), Jvm.Cond.code ({ cls := "java/lang/AbstractStringBuilder", name := "inflateIfNeededFor", desc := "(Ljava/lang/String;)V" } : Jvm.MethodName) jdk_68_method_71_code (2 : Nat) (Option.none : Option Jvm.ClassFile.FieldType), Jvm.Cond.code ({ cls := "java/lang/String", name := "getBytes", desc := "([BIB)V" } : Jvm.MethodName) jdk_42_method_147_code (4 : Nat) (Option.none : Option Jvm.ClassFile.FieldType), Jvm.Cond.code ({ cls := "java/lang/StringBuilder", name := "toString", desc := "()Ljava/lang/String;" } : Jvm.MethodName) jdk_67_method_42_code (1 : Nat) (Option.some (Jvm.ClassFile.FieldType.object "java/lang/String")), Jvm.Cond.code ({ cls := "java/lang/String", name := "<init>", desc := "(Ljava/lang/StringBuilder;)V" } : Jvm.MethodName) jdk_42_method_53_code (2 : Nat) (Option.none : Option Jvm.ClassFile.FieldType), Jvm.Cond.code ({ cls := "java/lang/String", name := "<init>", desc := "(Ljava/lang/AbstractStringBuilder;Ljava/lang/Void;)V" } : Jvm.MethodName) jdk_42_method_150_code (5 : Nat) (Option.none : Option Jvm.ClassFile.FieldType), Jvm.Cond.code ({ cls := "java/lang/AbstractStringBuilder", name := "getValue", desc := "()[B" } : Jvm.MethodName) jdk_68_method_64_code (1 : Nat) (Option.some (Jvm.ClassFile.FieldType.array Jvm.ClassFile.FieldType.byte)), Jvm.Cond.code ({ cls := "java/lang/StringBuilder", name := "length", desc := "()I" } : Jvm.MethodName) jdk_67_method_93_code (1 : Nat) (Option.some Jvm.ClassFile.FieldType.int), Jvm.Cond.code ({ cls := "java/lang/AbstractStringBuilder", name := "length", desc := "()I" } : Jvm.MethodName) jdk_68_method_6_code (1 : Nat) (Option.some Jvm.ClassFile.FieldType.int), Jvm.Cond.code ({ cls := "java/lang/AbstractStringBuilder", name := "isLatin1", desc := "()Z" } : Jvm.MethodName) jdk_68_method_68_code (1 : Nat) (Option.some Jvm.ClassFile.FieldType.boolean), Jvm.Cond.code ({ cls := "java/util/Arrays", name := "copyOfRange", desc := "([BII)[B" } : Jvm.MethodName) jdk_65_method_132_code (3 : Nat) (Option.some (Jvm.ClassFile.FieldType.array Jvm.ClassFile.FieldType.byte)), Jvm.Cond.code ({ cls := "java/util/Arrays", name := "copyOfRangeByte", desc := "([BII)[B" } : Jvm.MethodName) jdk_65_method_133_code (5 : Nat) (Option.some (Jvm.ClassFile.FieldType.array Jvm.ClassFile.FieldType.byte)), Jvm.Cond.code ({ cls := "java/util/Arrays", name := "checkLength", desc := "(II)V" } : Jvm.MethodName) jdk_65_method_131_code (2 : Nat) (Option.none : Option Jvm.ClassFile.FieldType), Jvm.Cond.code ({ cls := "com/example/attentive_search/attentivesearch/HighlightHtmlPinLaw", name := "step", desc := "(Ljava/lang/String;IZZZC)I" } : Jvm.MethodName) method_5_code (7 : Nat) (Option.some Jvm.ClassFile.FieldType.int), Jvm.Cond.code ({ cls := "com/example/attentive_search/attentivesearch/HighlightHtmlPinLaw", name := "esc", desc := "(C)Ljava/lang/String;" } : Jvm.MethodName) method_4_code (1 : Nat) (Option.some (Jvm.ClassFile.FieldType.object "java/lang/String")), Jvm.Cond.code ({ cls := "com/example/attentive_search/attentivesearch/HighlightHtmlPinLaw", name := "take", desc := "(Ljava/lang/String;ILjava/lang/String;)I" } : Jvm.MethodName) method_6_code (4 : Nat) (Option.some Jvm.ClassFile.FieldType.int), Jvm.Cond.code ({ cls := "com/example/attentive_search/attentivesearch/Highlight$Mark", name := "<init>", desc := "(II)V" } : Jvm.MethodName) prog_7_method_1_code (3 : Nat) (Option.none : Option Jvm.ClassFile.FieldType), Jvm.Cond.code ({ cls := "java/lang/Record", name := "<init>", desc := "()V" } : Jvm.MethodName) jdk_30_method_1_code (1 : Nat) (Option.none : Option Jvm.ClassFile.FieldType), Jvm.Cond.code ({ cls := "java/util/ArrayList", name := "add", desc := "(Ljava/lang/Object;)Z" } : Jvm.MethodName) jdk_38_method_25_code (2 : Nat) (Option.some Jvm.ClassFile.FieldType.boolean), Jvm.Cond.code ({ cls := "java/util/ArrayList", name := "add", desc := "(Ljava/lang/Object;[Ljava/lang/Object;I)V" } : Jvm.MethodName) jdk_38_method_24_code (4 : Nat) (Option.none : Option Jvm.ClassFile.FieldType), Jvm.Cond.code ({ cls := "java/util/ArrayList", name := "grow", desc := "()[Ljava/lang/Object;" } : Jvm.MethodName) jdk_38_method_7_code (1 : Nat) (Option.some (Jvm.ClassFile.FieldType.array (Jvm.ClassFile.FieldType.object "java/lang/Object"))), Jvm.Cond.code ({ cls := "java/util/ArrayList", name := "grow", desc := "(I)[Ljava/lang/Object;" } : Jvm.MethodName) jdk_38_method_6_code (4 : Nat) (Option.some (Jvm.ClassFile.FieldType.array (Jvm.ClassFile.FieldType.object "java/lang/Object"))), Jvm.Cond.code ({ cls := "java/util/ArrayList$Itr", name := "next", desc := "()Ljava/lang/Object;" } : Jvm.MethodName) jdk_49_method_3_code (3 : Nat) (Option.some (Jvm.ClassFile.FieldType.object "java/lang/Object")), Jvm.Cond.code ({ cls := "java/util/ArrayList$Itr", name := "checkForComodification", desc := "()V" } : Jvm.MethodName) jdk_49_method_6_code (1 : Nat) (Option.none : Option Jvm.ClassFile.FieldType), Jvm.Cond.code ({ cls := "com/example/attentive_search/attentivesearch/Highlight$Mark", name := "start", desc := "()I" } : Jvm.MethodName) prog_7_method_5_code (1 : Nat) (Option.some Jvm.ClassFile.FieldType.int), Jvm.Cond.code ({ cls := "java/lang/StringBuilder", name := "append", desc := "(C)Ljava/lang/StringBuilder;" } : Jvm.MethodName) jdk_67_method_14_code (2 : Nat) (Option.some (Jvm.ClassFile.FieldType.object "java/lang/StringBuilder")), Jvm.Cond.code ({ cls := "java/lang/AbstractStringBuilder", name := "append", desc := "(C)Ljava/lang/AbstractStringBuilder;" } : Jvm.MethodName) jdk_68_method_31_code (2 : Nat) (Option.some (Jvm.ClassFile.FieldType.object "java/lang/AbstractStringBuilder")), Jvm.Cond.code ({ cls := "java/lang/StringLatin1", name := "canEncode", desc := "(C)Z" } : Jvm.MethodName) jdk_43_method_3_code (1 : Nat) (Option.some Jvm.ClassFile.FieldType.boolean), Jvm.Cond.code ({ cls := "com/example/attentive_search/attentivesearch/Highlight$Mark", name := "end", desc := "()I" } : Jvm.MethodName) prog_7_method_6_code (1 : Nat) (Option.some Jvm.ClassFile.FieldType.int), Jvm.Cond.code ({ cls := "java/lang/String", name := "valueOf", desc := "(C)Ljava/lang/String;" } : Jvm.MethodName) jdk_42_method_139_code (1 : Nat) (Option.some (Jvm.ClassFile.FieldType.object "java/lang/String")), Jvm.Cond.code ({ cls := "java/lang/StringLatin1", name := "toBytes", desc := "(C)[B" } : Jvm.MethodName) jdk_43_method_46_code (1 : Nat) (Option.some (Jvm.ClassFile.FieldType.array Jvm.ClassFile.FieldType.byte)), Jvm.Cond.code ({ cls := "java/lang/String", name := "<init>", desc := "([BB)V" } : Jvm.MethodName) jdk_42_method_151_code (3 : Nat) (Option.none : Option Jvm.ClassFile.FieldType), Jvm.Cond.code ({ cls := "java/lang/StringUTF16", name := "toBytes", desc := "([CII)[B" } : Jvm.MethodName) jdk_52_method_14_code (5 : Nat) (Option.some (Jvm.ClassFile.FieldType.array Jvm.ClassFile.FieldType.byte)), Jvm.Cond.code ({ cls := "java/lang/StringUTF16", name := "newBytesFor", desc := "(I)[B" } : Jvm.MethodName) jdk_52_method_2_code (1 : Nat) (Option.some (Jvm.ClassFile.FieldType.array Jvm.ClassFile.FieldType.byte)), Jvm.Cond.code ({ cls := "java/lang/StringUTF16", name := "newBytesLength", desc := "(I)I" } : Jvm.MethodName) jdk_52_method_3_code (1 : Nat) (Option.some Jvm.ClassFile.FieldType.int), Jvm.Cond.code ({ cls := "java/lang/StringUTF16", name := "putChar", desc := "([BII)V" } : Jvm.MethodName) jdk_52_method_4_code (3 : Nat) (Option.none : Option Jvm.ClassFile.FieldType), Jvm.Cond.code ({ cls := "java/lang/StringUTF16", name := "getChar", desc := "([BI)C" } : Jvm.MethodName) jdk_52_method_5_code (2 : Nat) (Option.some Jvm.ClassFile.FieldType.char), Jvm.Cond.code ({ cls := "java/lang/StringUTF16", name := "charAt", desc := "([BI)C" } : Jvm.MethodName) jdk_52_method_83_code (2 : Nat) (Option.some Jvm.ClassFile.FieldType.char), Jvm.Cond.code ({ cls := "java/lang/StringUTF16", name := "checkIndex", desc := "(I[B)V" } : Jvm.MethodName) jdk_52_method_91_code (2 : Nat) (Option.none : Option Jvm.ClassFile.FieldType), Jvm.Cond.code ({ cls := "java/lang/StringUTF16", name := "length", desc := "([B)I" } : Jvm.MethodName) jdk_52_method_6_code (1 : Nat) (Option.some Jvm.ClassFile.FieldType.int), Jvm.Cond.code ({ cls := "java/lang/AbstractStringBuilder", name := "inflate", desc := "()V" } : Jvm.MethodName) jdk_68_method_11_code (2 : Nat) (Option.none : Option Jvm.ClassFile.FieldType), Jvm.Cond.code ({ cls := "java/lang/StringLatin1", name := "inflate", desc := "([BI[BII)V" } : Jvm.MethodName) jdk_43_method_50_code (5 : Nat) (Option.none : Option Jvm.ClassFile.FieldType), Jvm.Cond.code ({ cls := "java/lang/StringUTF16", name := "inflate", desc := "([BI[BII)V" } : Jvm.MethodName) jdk_52_method_86_code (6 : Nat) (Option.none : Option Jvm.ClassFile.FieldType), Jvm.Cond.code ({ cls := "java/lang/StringUTF16", name := "checkBoundsOffCount", desc := "(II[B)V" } : Jvm.MethodName) jdk_52_method_94_code (3 : Nat) (Option.none : Option Jvm.ClassFile.FieldType), Jvm.Cond.code ({ cls := "java/lang/String", name := "checkBoundsOffCount", desc := "(III)I" } : Jvm.MethodName) jdk_42_method_157_code (3 : Nat) (Option.some Jvm.ClassFile.FieldType.int), Jvm.Cond.code ({ cls := "jdk/internal/util/Preconditions", name := "checkFromIndexSize", desc := "(IIILjava/util/function/BiFunction;)I" } : Jvm.MethodName) jdk_41_method_13_code (4 : Nat) (Option.some Jvm.ClassFile.FieldType.int), Jvm.Cond.code ({ cls := "java/lang/StringUTF16", name := "putCharSB", desc := "([BII)V" } : Jvm.MethodName) jdk_52_method_71_code (3 : Nat) (Option.none : Option Jvm.ClassFile.FieldType), Jvm.Cond.code ({ cls := "java/lang/StringUTF16", name := "toBytes", desc := "(C)[B" } : Jvm.MethodName) jdk_52_method_24_code (2 : Nat) (Option.some (Jvm.ClassFile.FieldType.array Jvm.ClassFile.FieldType.byte))]
set_option maxRecDepth 65536 in
theorem codes_eq : words1.filter isCode = codes1 := rfl
theorem w_codes : ∀ c ∈ words1.filter isCode, c.before args0 about1 = true := by
  rw [codes_eq]
  intro c hc
  simp only [codes1, List.mem_cons, List.not_mem_nil, or_false] at hc
  rcases hc with rfl | rfl | rfl | rfl | rfl | rfl | rfl | rfl | rfl | rfl | rfl | rfl | rfl | rfl | rfl | rfl | rfl | rfl | rfl | rfl | rfl | rfl | rfl | rfl | rfl | rfl | rfl | rfl | rfl | rfl | rfl | rfl | rfl | rfl | rfl | rfl | rfl | rfl | rfl | rfl | rfl | rfl | rfl | rfl | rfl | rfl | rfl | rfl | rfl | rfl | rfl | rfl | rfl | rfl | rfl | rfl | rfl | rfl | rfl | rfl | rfl | rfl | rfl | rfl | rfl | rfl | rfl | rfl | rfl | rfl | rfl | rfl | rfl | rfl | rfl | rfl | rfl | rfl | rfl | rfl | rfl | rfl
  · exact w_c0
  · exact w_c1
  · exact w_c2
  · exact w_c3
  · exact w_c4
  · exact w_c5
  · exact w_c6
  · exact w_c7
  · exact w_c8
  · exact w_c9
  · exact w_c10
  · exact w_c11
  · exact w_c12
  · exact w_c13
  · exact w_c14
  · exact w_c15
  · exact w_c16
  · exact w_c17
  · exact w_c18
  · exact w_c19
  · exact w_c20
  · exact w_c21
  · exact w_c22
  · exact w_c23
  · exact w_c24
  · exact w_c25
  · exact w_c26
  · exact w_c27
  · exact w_c28
  · exact w_c29
  · exact w_c30
  · exact w_c31
  · exact w_c32
  · exact w_c33
  · exact w_c34
  · exact w_c35
  · exact w_c36
  · exact w_c37
  · exact w_c38
  · exact w_c39
  · exact w_c40
  · exact w_c41
  · exact w_c42
  · exact w_c43
  · exact w_c44
  · exact w_c45
  · exact w_c46
  · exact w_c47
  · exact w_c48
  · exact w_c49
  · exact w_c50
  · exact w_c51
  · exact w_c52
  · exact w_c53
  · exact w_c54
  · exact w_c55
  · exact w_c56
  · exact w_c57
  · exact w_c58
  · exact w_c59
  · exact w_c60
  · exact w_c61
  · exact w_c62
  · exact w_c63
  · exact w_c64
  · exact w_c65
  · exact w_c66
  · exact w_c67
  · exact w_c68
  · exact w_c69
  · exact w_c70
  · exact w_c71
  · exact w_c72
  · exact w_c73
  · exact w_c74
  · exact w_c75
  · exact w_c76
  · exact w_c77
  · exact w_c78
  · exact w_c79
  · exact w_c80
  · exact w_c81
set_option maxRecDepth 65536 in
theorem w_t1 : (words1.take 24).all (fun c => isCode c || c.before args0 about1) = true := by decide +kernel
set_option maxRecDepth 65536 in
theorem w_t2 : ((words1.drop 24).take 24).all (fun c => isCode c || c.before args0 about1) = true := by decide +kernel
set_option maxRecDepth 65536 in
theorem w_t3 : (((words1.drop 24).drop 24).take 24).all (fun c => isCode c || c.before args0 about1) = true := by decide +kernel
set_option maxRecDepth 65536 in
theorem w_t4 : ((((words1.drop 24).drop 24).drop 24).take 24).all (fun c => isCode c || c.before args0 about1) = true := by decide +kernel
set_option maxRecDepth 65536 in
theorem w_t5 : (((((words1.drop 24).drop 24).drop 24).drop 24).take 24).all (fun c => isCode c || c.before args0 about1) = true := by decide +kernel
set_option maxRecDepth 65536 in
theorem w_t6 : ((((((words1.drop 24).drop 24).drop 24).drop 24).drop 24).take 24).all (fun c => isCode c || c.before args0 about1) = true := by decide +kernel
set_option maxRecDepth 65536 in
theorem w_t7 : (((((((words1.drop 24).drop 24).drop 24).drop 24).drop 24).drop 24).take 24).all (fun c => isCode c || c.before args0 about1) = true := by decide +kernel
set_option maxRecDepth 65536 in
theorem w_t8 : ((((((((words1.drop 24).drop 24).drop 24).drop 24).drop 24).drop 24).drop 24).take 24).all (fun c => isCode c || c.before args0 about1) = true := by decide +kernel
set_option maxRecDepth 65536 in
theorem w_t9 : (((((((((words1.drop 24).drop 24).drop 24).drop 24).drop 24).drop 24).drop 24).drop 24).take 24).all (fun c => isCode c || c.before args0 about1) = true := by decide +kernel
set_option maxRecDepth 65536 in
theorem w_t10 : ((((((((((words1.drop 24).drop 24).drop 24).drop 24).drop 24).drop 24).drop 24).drop 24).drop 24).take 24).all (fun c => isCode c || c.before args0 about1) = true := by decide +kernel
set_option maxRecDepth 65536 in
theorem w_t11 : (((((((((((words1.drop 24).drop 24).drop 24).drop 24).drop 24).drop 24).drop 24).drop 24).drop 24).drop 24).take 24).all (fun c => isCode c || c.before args0 about1) = true := by decide +kernel
set_option maxRecDepth 65536 in
theorem w_t12 : ((((((((((((words1.drop 24).drop 24).drop 24).drop 24).drop 24).drop 24).drop 24).drop 24).drop 24).drop 24).drop 24).take 24).all (fun c => isCode c || c.before args0 about1) = true := by decide +kernel
set_option maxRecDepth 65536 in
theorem w_t13 : (((((((((((((words1.drop 24).drop 24).drop 24).drop 24).drop 24).drop 24).drop 24).drop 24).drop 24).drop 24).drop 24).drop 24).take 24).all (fun c => isCode c || c.before args0 about1) = true := by decide +kernel
set_option maxRecDepth 65536 in
theorem w_t14 : ((((((((((((((words1.drop 24).drop 24).drop 24).drop 24).drop 24).drop 24).drop 24).drop 24).drop 24).drop 24).drop 24).drop 24).drop 24).take 24).all (fun c => isCode c || c.before args0 about1) = true := by decide +kernel
set_option maxRecDepth 65536 in
theorem w_t15 : (((((((((((((((words1.drop 24).drop 24).drop 24).drop 24).drop 24).drop 24).drop 24).drop 24).drop 24).drop 24).drop 24).drop 24).drop 24).drop 24).take 24).all (fun c => isCode c || c.before args0 about1) = true := by decide +kernel
set_option maxRecDepth 65536 in
theorem w_t16 : ((((((((((((((((words1.drop 24).drop 24).drop 24).drop 24).drop 24).drop 24).drop 24).drop 24).drop 24).drop 24).drop 24).drop 24).drop 24).drop 24).drop 24).take 24).all (fun c => isCode c || c.before args0 about1) = true := by decide +kernel
set_option maxRecDepth 65536 in
theorem w_t17 : (((((((((((((((((words1.drop 24).drop 24).drop 24).drop 24).drop 24).drop 24).drop 24).drop 24).drop 24).drop 24).drop 24).drop 24).drop 24).drop 24).drop 24).drop 24).take 24).all (fun c => isCode c || c.before args0 about1) = true := by decide +kernel
set_option maxRecDepth 65536 in
theorem w_t18 : ((((((((((((((((((words1.drop 24).drop 24).drop 24).drop 24).drop 24).drop 24).drop 24).drop 24).drop 24).drop 24).drop 24).drop 24).drop 24).drop 24).drop 24).drop 24).drop 24).take 24).all (fun c => isCode c || c.before args0 about1) = true := by decide +kernel
set_option maxRecDepth 65536 in
theorem w_t19 : ((((((((((((((((((words1.drop 24).drop 24).drop 24).drop 24).drop 24).drop 24).drop 24).drop 24).drop 24).drop 24).drop 24).drop 24).drop 24).drop 24).drop 24).drop 24).drop 24).drop 24).all (fun c => isCode c || c.before args0 about1) = true := by decide +kernel
theorem w_tables : (allAtoms (Jvm.Cond.code x code maxLocals ret :: tables_1)).before args0 about1 = true := by
  rw [allAtoms_all]
  show words1.all (fun c => c.before args0 about1) = true
  refine all_split ?_ w_codes
  rw [← List.take_append_drop 24 words1, List.all_append, w_t1, ← List.take_append_drop 24 (words1.drop 24), List.all_append, w_t2, ← List.take_append_drop 24 ((words1.drop 24).drop 24), List.all_append, w_t3, ← List.take_append_drop 24 (((words1.drop 24).drop 24).drop 24), List.all_append, w_t4, ← List.take_append_drop 24 ((((words1.drop 24).drop 24).drop 24).drop 24), List.all_append, w_t5, ← List.take_append_drop 24 (((((words1.drop 24).drop 24).drop 24).drop 24).drop 24), List.all_append, w_t6, ← List.take_append_drop 24 ((((((words1.drop 24).drop 24).drop 24).drop 24).drop 24).drop 24), List.all_append, w_t7, ← List.take_append_drop 24 (((((((words1.drop 24).drop 24).drop 24).drop 24).drop 24).drop 24).drop 24), List.all_append, w_t8, ← List.take_append_drop 24 ((((((((words1.drop 24).drop 24).drop 24).drop 24).drop 24).drop 24).drop 24).drop 24), List.all_append, w_t9, ← List.take_append_drop 24 (((((((((words1.drop 24).drop 24).drop 24).drop 24).drop 24).drop 24).drop 24).drop 24).drop 24), List.all_append, w_t10, ← List.take_append_drop 24 ((((((((((words1.drop 24).drop 24).drop 24).drop 24).drop 24).drop 24).drop 24).drop 24).drop 24).drop 24), List.all_append, w_t11, ← List.take_append_drop 24 (((((((((((words1.drop 24).drop 24).drop 24).drop 24).drop 24).drop 24).drop 24).drop 24).drop 24).drop 24).drop 24), List.all_append, w_t12, ← List.take_append_drop 24 ((((((((((((words1.drop 24).drop 24).drop 24).drop 24).drop 24).drop 24).drop 24).drop 24).drop 24).drop 24).drop 24).drop 24), List.all_append, w_t13, ← List.take_append_drop 24 (((((((((((((words1.drop 24).drop 24).drop 24).drop 24).drop 24).drop 24).drop 24).drop 24).drop 24).drop 24).drop 24).drop 24).drop 24), List.all_append, w_t14, ← List.take_append_drop 24 ((((((((((((((words1.drop 24).drop 24).drop 24).drop 24).drop 24).drop 24).drop 24).drop 24).drop 24).drop 24).drop 24).drop 24).drop 24).drop 24), List.all_append, w_t15, ← List.take_append_drop 24 (((((((((((((((words1.drop 24).drop 24).drop 24).drop 24).drop 24).drop 24).drop 24).drop 24).drop 24).drop 24).drop 24).drop 24).drop 24).drop 24).drop 24), List.all_append, w_t16, ← List.take_append_drop 24 ((((((((((((((((words1.drop 24).drop 24).drop 24).drop 24).drop 24).drop 24).drop 24).drop 24).drop 24).drop 24).drop 24).drop 24).drop 24).drop 24).drop 24).drop 24), List.all_append, w_t17, ← List.take_append_drop 24 (((((((((((((((((words1.drop 24).drop 24).drop 24).drop 24).drop 24).drop 24).drop 24).drop 24).drop 24).drop 24).drop 24).drop 24).drop 24).drop 24).drop 24).drop 24).drop 24), List.all_append, w_t18, w_t19]
  rfl
set_option maxRecDepth 65536 in
theorem w_rest : rest_1_c.before args0 about1 = true := by decide +kernel
set_option maxRecDepth 65536 in
theorem w_case : (Jvm.Cond.and given_1 narrow_1).before args0 about1 = true := by decide +kernel
set_option maxRecDepth 65536 in
theorem w_consts : constsHeld consts_1 about1 := Jvm.Lit.constsHeldB_iff.mp (by decide +kernel)
theorem w_applies : (headSpec (Jvm.Cond.code x code maxLocals ret :: tables_1) room_1).applies x e0.platform about1 = true :=
  (Spec.applies_iff w_frames).mpr ⟨w_running, w_runnable, w_alone, w_named, w_hears, w_ripe, w_room, w_tables⟩
theorem atStart : AtStart classFile x code maxLocals ret World_1 tables_1 room_1 Calls_1 rest_1 Pre_1 launch0 p0 e0 about1 theMethod args0 below0 :=
  ⟨lists_1, trivial, launch0.admits_env _ _ _, launch0.least_env, fairChoices_fair.cas, fairChoices_fair.clock, w_frames, w_args, w_heap, w_applies, ⟨w_consts, trivial⟩, w_rest, w_case⟩
end start1
theorem witness_1 : WitnessClaimed_1 := ⟨start1.p0, start1.e0, start1.about1, start1.theMethod, start1.args0, start1.below0, start1.atStart⟩
end Jvm.Pilot.@@N@@
