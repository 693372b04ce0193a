import JvmDerived
import JvmDerived.Pilot.@@N@@Statement
import JvmDerived.Pilot.@@N@@Code
set_option linter.unusedVariables false
set_option linter.unusedSimpArgs false
namespace Jvm.Pilot.@@N@@
open Jvm Jvm.ClassFile Sem Op Lib Jvm.Free Jvm.Stand Jvm.LawKit Jvm.RoadKit Bundle Jvm.Pilot.@@N@@.Jvm.D
def own_LL : List (String × Nat) := [("com/example/hedgewire/hedgewire/CommandSyntaxIsVersionPinLaw", 31), ("com/example/hedgewire/hedgewire/CommandSyntaxIsVersionPinLaw", 41)]
/-! own_p: literals booked once -/
def own_u (vm : Vm) (p : String × Nat) : Nat := match ((vm.findClass p.1).bind fun c => (vm.classes[c]?).bind fun k => (k.resolved[p.2]?).join) with
  | some (.string _) => 0
  | _ => 2
def own_Ul (vm : Vm) (l : List (String × Nat)) : Nat := (l.map (own_u vm)).sum
def own_U (vm : Vm) : Nat := own_Ul vm own_LL
theorem own_u_le (vm : Vm) (p : String × Nat) : own_u vm p ≤ 2 := by unfold own_u; split <;> omega
theorem own_res {s : State} {vm : Vm} {own : String} {ix : Nat} : (s.setVm vm).resolvedAt? own ix = ((vm.findClass own).bind fun c => (vm.classes[c]?).bind fun k => (k.resolved[ix]?).join) := rfl
theorem own_u_lit {s : State} {vm : Vm} {p : String × Nat} {a : Addr} (L : Lit (s.setVm vm) p.1 p.2 a) : own_u vm p = 0 := by
  have h : ((vm.findClass p.1).bind fun c => (vm.classes[c]?).bind fun k => (k.resolved[p.2]?).join) = some (.string a) := own_res (s := s) ▸ L
  unfold own_u; rw [h]
theorem own_u_or (s : State) (vm : Vm) (p : String × Nat) : own_u vm p = 2 ∨ ∃ a, Lit (s.setVm vm) p.1 p.2 a := by
  unfold own_u
  split
  · rename_i a h; exact Or.inr ⟨a, (own_res (s := s)).trans h⟩
  · exact Or.inl rfl
theorem own_u_mono {s : State} {vm vm1 : Vm} (hW : (s.setVm vm).Warmed39 vm1) (p : String × Nat) : own_u vm1 p ≤ own_u vm p := by
  rcases own_u_or s vm p with h | ⟨a, h⟩
  · rw [h]; exact own_u_le _ _
  · rw [own_u_lit (s := s) (vm := vm1) (Lit.stays h hW)]; exact Nat.zero_le _
theorem own_Ul_mono {s : State} {vm vm1 : Vm} (hW : (s.setVm vm).Warmed39 vm1) : ∀ l : List (String × Nat), own_Ul vm1 l ≤ own_Ul vm l
  | [] => Nat.le_refl _
  | p :: l => by
    have h1 := own_u_mono hW p
    have h2 := own_Ul_mono hW l
    simp only [own_Ul, List.map_cons, List.sum_cons] at h2 ⊢; omega
theorem own_Ul_drop {s : State} {vm vm1 : Vm} (hW : (s.setVm vm).Warmed39 vm1) {q : String × Nat} (h0 : own_u vm q = 2) (h1 : own_u vm1 q = 0) : ∀ l : List (String × Nat), q ∈ l → own_Ul vm1 l + 2 ≤ own_Ul vm l
  | [], m => by cases m
  | p :: l, m => by
    have h2 := own_u_mono hW p
    have h3 := own_Ul_mono hW l
    simp only [own_Ul, List.map_cons, List.sum_cons] at h3 ⊢
    rcases List.mem_cons.mp m with rfl | m
    · rw [h0, h1]; omega
    · have h4 := own_Ul_drop hW h0 h1 l m
      simp only [own_Ul] at h4; omega
theorem own_Ul_le (vm : Vm) : ∀ l : List (String × Nat), own_Ul vm l ≤ 2 * l.length
  | [] => Nat.le_refl _
  | p :: l => by
    have h1 := own_u_le vm p
    have h2 := own_Ul_le vm l
    simp only [own_Ul, List.map_cons, List.sum_cons, List.length_cons] at h2 ⊢; omega
theorem own_U_mono {s : State} {vm vm1 : Vm} (hW : (s.setVm vm).Warmed39 vm1) : own_U vm1 ≤ own_U vm := own_Ul_mono hW _
theorem own_U_le (vm : Vm) : own_U vm ≤ 2 * own_LL.length := own_Ul_le _ _
/-- what a method with this flag books at its entry -/
def pbk : Bool → Nat
  | true => 2 * own_LL.length
  | false => 0
/-- what the caller gets back behind a call -/
def pgive : Bool → Bool → Nat
  | true, true => 2 * own_LL.length
  | _, _ => 0
def Pot (f : Bool) (cells : Nat) (vm : Vm) (h : Heap) (vm1 : Vm) (h1 : Heap) : Prop := h1.size + own_U vm1 + pbk f ≤ h.size + own_U vm + cells
/-- the book of the cells told as it is -/
theorem own_true {p : Program} {l : Launch} {e : Env} {R : Room} {s : State} {m : MethodId} {args : Array Value} {below : List Frame} {meth : Method} {c : Code} {T : State} {locs : List Loc} {cells slots : Nat} (X : Stand p l e R s m args below meth c T locs cells slots) : Stand p l e R s m args below meth c T locs (T.heap.size - s.heap.size) slots :=
  { X with same := ⟨X.same.1, X.same.2.1, by have h := X.same.2.1; show T.heap.size ≤ s.heap.size + (T.heap.size - s.heap.size); omega, X.same.2.2.2⟩ }
theorem own_grow {p : Program} {l : Launch} {e : Env} {R : Room} {s : State} {m : MethodId} {args : Array Value} {below : List Frame} {meth : Method} {c : Code} {T : State} {locs : List Loc} {cells slots : Nat} (X : Stand p l e R s m args below meth c T locs cells slots) : s.heap.size ≤ T.heap.size ∧ T.heap.size ≤ s.heap.size + cells := ⟨X.same.2.1, X.heapSize⟩
theorem own_growV {p : Program} {l : Launch} {e : Env} {R : Room} {s : State} {vm0 : Vm} {m : MethodId} {args : Array Value} {below : List Frame} {meth : Method} {c : Code} {T : State} {locs : List Loc} {cells slots : Nat} (X : Stand p l e R (s.setVm vm0) m args below meth c T locs cells slots) : s.heap.size ≤ T.heap.size ∧ T.heap.size ≤ s.heap.size + cells := own_grow (s := s.setVm vm0) X
theorem own_growW {p : Program} {l : Launch} {e : Env} {R : Room} {s : State} {vm0 vm1 : Vm} {m : MethodId} {args : Array Value} {below : List Frame} {meth : Method} {c : Code} {T : State} {locs : List Loc} {cells slots : Nat} (X : Stand p l e R ((s.setVm vm0).setVm vm1) m args below meth c T locs cells slots) : s.heap.size ≤ T.heap.size ∧ T.heap.size ≤ s.heap.size + cells := own_grow (s := (s.setVm vm0).setVm vm1) X
/-! own_1: the walk as a goal. The heap is a list F of owned cells and a list G of cells that are only read; Go says: from here the body ends well. -/
abbrev Ent : Type := Addr × (Cell → Prop)
def Hp (Z : State) (EL : List (String × Nat)) (vm : Vm) (h : Heap) (F G : List Ent) : Prop :=
  Ext Z.heap h ∧ (∀ q ∈ F, ∃ c : Cell, h[q.1]? = some c ∧ q.2 c) ∧ (∀ q ∈ G, ∃ c : Cell, h[q.1]? = some c ∧ q.2 c) ∧ (F.map (·.1)).Nodup ∧
    ∀ q ∈ F, Z.heap.size ≤ q.1 ∧ Safe Z EL vm h q.1 ∧ ∀ r ∈ G, r.1 ≠ q.1
/-- what is fixed for a whole proof: the launch, the law's start, the law's arguments, the constants -/
abbrev Ax : Type := Launch × State × Array Value × List (String × Nat) × Bool
abbrev Ax.l (A : Ax) : Launch := A.1
abbrev Ax.Z (A : Ax) : State := A.2.1
abbrev Ax.a0 (A : Ax) : Array Value := A.2.2.1
abbrev Ax.EL (A : Ax) : List (String × Nat) := A.2.2.2.1
/-- may a literal be interned? -/
abbrev Ax.wm (A : Ax) : Bool := A.2.2.2.2
/-- a method: its name, bytes, locals, return type, and the room that its contract asks -/
abbrev Bx : Type := MethodName × ByteArray × Nat × Option FieldType × Room × Bool
abbrev Bx.y (B : Bx) : MethodName := B.1
abbrev Bx.bytes (B : Bx) : ByteArray := B.2.1
abbrev Bx.maxL (B : Bx) : Nat := B.2.2.1
abbrev Bx.ret (B : Bx) : Option FieldType := B.2.2.2.1
abbrev Bx.rm (B : Bx) : Room := B.2.2.2.2.1
abbrev Bx.fl (B : Bx) : Bool := B.2.2.2.2.2
/-- one invocation -/
abbrev Dx : Type := Program × Env × State × MethodId × Array Value × List Frame × Method × Code
abbrev Dx.p (D : Dx) : Program := D.1
abbrev Dx.e (D : Dx) : Env := D.2.1
abbrev Dx.s (D : Dx) : State := D.2.2.1
abbrev Dx.m (D : Dx) : MethodId := D.2.2.2.1
abbrev Dx.args (D : Dx) : Array Value := D.2.2.2.2.1
abbrev Dx.below (D : Dx) : List Frame := D.2.2.2.2.2.1
abbrev Dx.meth (D : Dx) : Method := D.2.2.2.2.2.2.1
abbrev Dx.c (D : Dx) : Code := D.2.2.2.2.2.2.2
def St (A : Ax) (B : Bx) (D : Dx) (T : State) (F G : List Ent) (cells slots : Nat) : Prop :=
  ∃ (vm0 : Vm) (k0 : Nat) (locs : List Loc), Stand D.p A.l D.e B.rm (D.s.setVm vm0) D.m D.args D.below D.meth D.c T locs cells slots ∧ A.Z.Warmed39 vm0 ∧ vm0.findClass B.y.cls = some D.m.cls ∧
    D.s.Since vm0 k0 ∧ k0 ≤ T.heap.size ∧ (Fr A.Z.heap.size locs ∧ (A.wm = false → D.s.WarmedH vm0)) ∧ (CHr A.Z A.EL D.s.vm D.s.heap vm0 T.heap ∧ Pot B.fl cells D.s.vm D.s.heap vm0 T.heap) ∧ Hp A.Z A.EL vm0 T.heap F G
def Bdy (A : Ax) (B : Bx) (D : Dx) : Prop :=
  D.p.tables.exec = Jvm.exec ∧ D.c.code = B.bytes ∧ D.c.maxLocals = B.maxL ∧ D.meth.sig.returnType = B.ret ∧ D.meth.name = B.y.name ∧ D.meth.locks = false ∧ EW A.Z A.a0 A.EL
abbrev Pst : Type := Option Value → List Ent → List Ent → Prop
def Fin (A : Ax) (B : Bx) (below : List Frame) (s : State) (Q : Pst) (o : Outcome) (s₂ : State) : Prop :=
  ∃ (v : Option Value) (L : List Loc) (F' G' : List Ent), o = .returned v ∧ Q v F' G' ∧ Hp A.Z A.EL s₂.vm s₂.heap F' G' ∧ (Fr A.Z.heap.size L ∧ (A.wm = false → s.WarmedH s₂.vm)) ∧ (CHr A.Z A.EL s.vm s.heap s₂.vm s₂.heap ∧ Pot B.fl B.rm.cells s.vm s.heap s₂.vm s₂.heap) ∧ ReturnedEndW s o s₂ L B.rm.cells B.rm.slots
def Go (A : Ax) (B : Bx) (D : Dx) (Q : Pst) (pc : Nat) (L : List Slot) (S : List Value) (F G : List Ent) (cells slots : Nat) : Prop :=
  Bdy A B D → ∀ T, St A B D T F G cells slots → ∃ s₂ o, Steps D.p.tables D.e D.below (T.setTop (mkF D.m pc L.toArray S)) s₂ ∧ s₂.status = .running ∧ Ended s₂ D.below o ∧ Fin A B D.below D.s Q o s₂
def MetW (ws : List Cond) (A : Ax) (B : Bx) (as' : Array Value) (F G : List Ent) (Q : Pst) : Prop :=
  MetFree A.l B.y (head1 (Cond.code B.y B.bytes B.maxL B.ret :: ws) B.rm) (fun a U => a = as' ∧ A.Z.Warmed39 U.vm ∧ CHv A.Z A.EL U.vm U.heap ∧ Hp A.Z A.EL U.vm U.heap F G) (fun _ _ _ _ _ => True) (fun _ U o U' => Fin A B [] U Q o U')
abbrev Met (A : Ax) (B : Bx) (as' : Array Value) (F G : List Ent) (Q : Pst) : Prop := MetW [] A B as' F G Q
section Own
variable {A : Ax} {B : Bx} {D : Dx} {Q : Pst} {pc pc' : Nat} {L L' : List Slot} {S S' rest : List Value} {F F' G G' : List Ent} {cells slots : Nat}
theorem own_ext_refl (h : Heap) : Ext h h := ⟨Nat.le_refl _, fun _ _ q => q⟩
theorem own_ext_trans {h1 h2 h3 : Heap} (a : Ext h1 h2) (b : Ext h2 h3) : Ext h1 h3 := ⟨Nat.le_trans a.1 b.1, fun x c q => b.2 x c (a.2 x c q)⟩
theorem Hp.lt {Z : State} {EL : List (String × Nat)} {vm : Vm} {h : Heap} (H : Hp Z EL vm h F G) {q : Ent} (m : q ∈ F) : q.1 < h.size := by
  obtain ⟨c, e, -⟩ := H.2.1 q m
  exact (Array.getElem?_eq_some_iff.mp e).1
/-- the tables go on -/
theorem Hp.later {Z : State} {EL : List (String × Nat)} {vm vm1 : Vm} {h h' : Heap} (H : Hp Z EL vm h F G) (C : CHr Z EL vm h vm1 h') (E : Ext h h') : Hp Z EL vm1 h' F G :=
  ⟨own_ext_trans H.1 E, fun q m => by obtain ⟨c, e, p⟩ := H.2.1 q m; exact ⟨c, E.2 _ _ e, p⟩, fun q m => by obtain ⟨c, e, p⟩ := H.2.2.1 q m; exact ⟨c, E.2 _ _ e, p⟩, H.2.2.2.1,
    fun q m => ⟨(H.2.2.2.2 q m).1, C.safe (H.lt m) (H.2.2.2.2 q m).2.1, (H.2.2.2.2 q m).2.2⟩⟩
theorem Hp.perm {Z : State} {EL : List (String × Nat)} {vm : Vm} {h : Heap} (H : Hp Z EL vm h F G) (P : F.Perm F') : Hp Z EL vm h F' G :=
  ⟨H.1, fun q m => H.2.1 q (P.mem_iff.mpr m), H.2.2.1, (P.map _).nodup_iff.mp H.2.2.2.1, fun q m => H.2.2.2.2 q (P.mem_iff.mpr m)⟩
theorem Hp.gsub {Z : State} {EL : List (String × Nat)} {vm : Vm} {h : Heap} (H : Hp Z EL vm h F G) (P : ∀ q ∈ G', q ∈ G) : Hp Z EL vm h F G' :=
  ⟨H.1, H.2.1, fun q m => H.2.2.1 q (P q m), H.2.2.2.1, fun q m => ⟨(H.2.2.2.2 q m).1, (H.2.2.2.2 q m).2.1, fun r k => (H.2.2.2.2 q m).2.2 r (P r k)⟩⟩
/-- an owned cell is only read from here on -/
theorem Hp.freeze {Z : State} {EL : List (String × Nat)} {vm : Vm} {h : Heap} {q : Ent} (H : Hp Z EL vm h (q :: F) G) : Hp Z EL vm h F (q :: G) := by
  obtain ⟨h1, h2, h3, h4, h5⟩ := H
  have hn := List.nodup_cons.mp h4
  refine ⟨h1, fun r m => h2 r (List.mem_cons_of_mem _ m), fun r m => ?_, hn.2, fun r m => ⟨(h5 r (List.mem_cons_of_mem _ m)).1, (h5 r (List.mem_cons_of_mem _ m)).2.1, fun t k => ?_⟩⟩
  · rcases List.mem_cons.mp m with rfl | m
    · exact h2 _ (List.mem_cons_self ..)
    · exact h3 r m
  · rcases List.mem_cons.mp k with rfl | k
    · exact fun z => hn.1 (List.mem_map.mpr ⟨r, m, z.symm⟩)
    · exact (h5 r (List.mem_cons_of_mem _ m)).2.2 t k
theorem Hp.drop {Z : State} {EL : List (String × Nat)} {vm : Vm} {h : Heap} {q : Ent} (H : Hp Z EL vm h (q :: F) G) : Hp Z EL vm h F G := H.freeze.gsub fun _ m => List.mem_cons_of_mem _ m
/-- a new cell -/
theorem Hp.new {Z : State} {EL : List (String × Nat)} {vm : Vm} {h h' : Heap} {P : Cell → Prop} {c : Cell} (H : Hp Z EL vm h F G) (hC : CHv Z EL vm h) (E : Ext h h') (hc : h'[h.size]? = some c) (hp : P c) : Hp Z EL vm h' ((h.size, P) :: F) G := by
  obtain ⟨h1, h2, h3, h4, h5⟩ := H
  have hlt : h.size < h'.size := (Array.getElem?_eq_some_iff.mp hc).1
  have gl : ∀ r ∈ G, r.1 < h.size := fun r m => by obtain ⟨c, e, -⟩ := h3 r m; exact (Array.getElem?_eq_some_iff.mp e).1
  have fl : ∀ r ∈ F, r.1 < h.size := fun r m => by obtain ⟨c, e, -⟩ := h2 r m; exact (Array.getElem?_eq_some_iff.mp e).1
  refine ⟨own_ext_trans h1 E, fun q m => ?_, fun q m => by obtain ⟨c, e, p⟩ := h3 q m; exact ⟨c, E.2 _ _ e, p⟩, ?_, fun q m => ?_⟩
  · rcases List.mem_cons.mp m with rfl | m
    · exact ⟨c, hc, hp⟩
    · obtain ⟨c, e, p⟩ := h2 q m; exact ⟨c, E.2 _ _ e, p⟩
  · refine List.nodup_cons.mpr ⟨fun z => ?_, h4⟩
    obtain ⟨r, m, e⟩ := List.mem_map.mp z
    exact absurd e (Nat.ne_of_lt (fl r m))
  · rcases List.mem_cons.mp m with rfl | m
    · exact ⟨h1.1, Safe.ext E hC (Safe.new (Nat.le_refl _)), fun r k => Nat.ne_of_lt (gl r k)⟩
    · exact ⟨(h5 q m).1, Safe.ext E hC (h5 q m).2.1, (h5 q m).2.2⟩
/-- one owned cell is written -/
theorem Hp.wr {Z : State} {EL : List (String × Nat)} {vm : Vm} {h h' : Heap} {a : Addr} {sl : Nat} {v : Value} {P P' : Cell → Prop} (H : Hp Z EL vm h ((a, P) :: F) G) (hC : CHv Z EL vm h) (W : Wr h h' a sl v) (hp : ∀ c, P c → P' (c.setSlot sl v)) : Hp Z EL vm h' ((a, P') :: F) G := by
  obtain ⟨h1, h2, h3, h4, h5⟩ := H
  have hn := List.nodup_cons.mp h4
  have sa := h5 _ (List.mem_cons_self ..)
  have oth : ∀ (b : Addr) (c : Cell), b ≠ a → h[b]? = some c → h'[b]? = some c := fun b c ne e => by
    obtain ⟨c', e1, -, -, -, e5, -⟩ := wr_at W e
    rw [← e5 ne]; exact e1
  refine ⟨⟨by rw [W.size]; exact h1.1, fun b c e => ?_⟩, fun q m => ?_, fun q m => ?_, h4, fun q m => ?_⟩
  · exact oth b c (Nat.ne_of_lt (Nat.lt_of_lt_of_le (Array.getElem?_eq_some_iff.mp e).1 sa.1)) (h1.2 b c e)
  · rcases List.mem_cons.mp m with rfl | m
    · obtain ⟨c, e, p⟩ := h2 _ (List.mem_cons_self ..)
      obtain ⟨c', e1, -, -, -, -, -, e7⟩ := wr_at W e
      exact ⟨c', e1, by rw [(e7 rfl).1]; exact hp c p⟩
    · obtain ⟨c, e, p⟩ := h2 q (List.mem_cons_of_mem _ m)
      refine ⟨c, oth _ _ (fun z => hn.1 (List.mem_map.mpr ⟨q, m, z⟩)) e, p⟩
  · obtain ⟨c, e, p⟩ := h3 q m
    exact ⟨c, oth _ _ (sa.2.2 q m) e, p⟩
  · have key : ∀ r : Ent, r ∈ (a, P) :: F → Z.heap.size ≤ r.1 ∧ Safe Z EL vm h' r.1 ∧ ∀ t ∈ G, t.1 ≠ r.1 := fun r m => ⟨(h5 r m).1, Safe.wr W sa.2.1 hC (h5 r m).2.1, (h5 r m).2.2⟩
    rcases List.mem_cons.mp m with rfl | m
    · exact key (a, P) (List.mem_cons_self ..)
    · exact key q (List.mem_cons_of_mem _ m)
/-- a cell may be forgotten, or known less well -/
theorem Hp.weak {Z : State} {EL : List (String × Nat)} {vm : Vm} {h : Heap} {a : Addr} {P P' : Cell → Prop} (H : Hp Z EL vm h ((a, P) :: F) G) (hp : ∀ c, P c → P' c) : Hp Z EL vm h ((a, P') :: F) G := by
  obtain ⟨h1, h2, h3, h4, h5⟩ := H
  refine ⟨h1, fun q m => ?_, h3, h4, fun q m => ?_⟩
  · rcases List.mem_cons.mp m with rfl | m
    · obtain ⟨c, e, p⟩ := h2 _ (List.mem_cons_self ..); exact ⟨c, e, hp c p⟩
    · exact h2 q (List.mem_cons_of_mem _ m)
  · rcases List.mem_cons.mp m with rfl | m
    · exact h5 (a, P) (List.mem_cons_self ..)
    · exact h5 q (List.mem_cons_of_mem _ m)
theorem Hp.at {Z : State} {EL : List (String × Nat)} {vm : Vm} {h : Heap} {a : Addr} {P : Cell → Prop} (H : Hp Z EL vm h F G) (m : (a, P) ∈ F ∨ (a, P) ∈ G) : ∃ c : Cell, h[a]? = some c ∧ P c := by
  rcases m with m | m
  · exact H.2.1 _ m
  · exact H.2.2.1 _ m
/-! the laws of Go -/
theorem Go.step (h : Bdy A B D → ∀ (T : State) (target : State), At T D.m D.c D.below → Steps D.p.tables D.e D.below (T.setTop (mkF D.m pc' L'.toArray S')) target → Steps D.p.tables D.e D.below (T.setTop (mkF D.m pc L.toArray S)) target)
    (k : Go A B D Q pc' L' S' F G cells slots) : Go A B D Q pc L S F G cells slots := fun hb T hT => by
  obtain ⟨s₂, o, st, r⟩ := k hb T hT
  obtain ⟨vm0, k0, locs, X, -⟩ := hT
  exact ⟨s₂, o, h hb T s₂ X.here st, r⟩
/-- a step that leaves the heap alone -/
theorem Go.stay (h : Bdy A B D → ∀ (T : State) (vm0 : Vm) (locs : List Loc), Stand D.p A.l D.e B.rm (D.s.setVm vm0) D.m D.args D.below D.meth D.c T locs cells slots → A.Z.Warmed39 vm0 → vm0.findClass B.y.cls = some D.m.cls → Hp A.Z A.EL vm0 T.heap F G →
      ∃ T', Stand D.p A.l D.e B.rm (D.s.setVm vm0) D.m D.args D.below D.meth D.c T' locs cells slots ∧ T'.heap = T.heap ∧ ∀ target, Steps D.p.tables D.e D.below (T'.setTop (mkF D.m pc' L'.toArray S')) target → Steps D.p.tables D.e D.below (T.setTop (mkF D.m pc L.toArray S)) target)
    (k : Go A B D Q pc' L' S' F G cells slots) : Go A B D Q pc L S F G cells slots := fun hb T hT => by
  obtain ⟨vm0, k0, locs, X, hZ, hown, hS, hk, N, C, H⟩ := hT
  obtain ⟨T', X', e, st⟩ := h hb T vm0 locs X hZ hown H
  obtain ⟨s₂, o, st', r⟩ := k hb T' ⟨vm0, k0, locs, X', hZ, hown, hS, e ▸ hk, N, by rw [e]; exact C, by rw [e]; exact H⟩
  exact ⟨s₂, o, st _ st', r⟩
theorem Go.mono {cells' slots' : Nat} (h1 : cells ≤ cells') (h2 : slots ≤ slots') (k : Go A B D Q pc L S F G cells' slots') : Go A B D Q pc L S F G cells slots := fun hb T hT => by
  obtain ⟨vm0, k0, locs, X, r1, r2, r3, r4, r5, r6, r7⟩ := hT
  exact k hb T ⟨vm0, k0, locs, X.more h1 h2, r1, r2, r3, r4, r5, ⟨r6.1, Nat.le_trans r6.2 (Nat.add_le_add_left h1 _)⟩, r7⟩
theorem Go.perm (P : F.Perm F') (k : Go A B D Q pc L S F' G cells slots) : Go A B D Q pc L S F G cells slots := fun hb T hT => by
  obtain ⟨vm0, k0, locs, X, hZ, hown, hS, hk, N, C, H⟩ := hT
  exact k hb T ⟨vm0, k0, locs, X, hZ, hown, hS, hk, N, C, H.perm P⟩
theorem own_front : ∀ (F : List Ent) (i : Nat) (q : Ent), F[i]? = some q → F.Perm (q :: F.eraseIdx i)
  | [], i, q, h => by simp at h
  | a :: r, 0, q, h => by
    have e : a = q := by simpa using h
    rw [e]; exact List.Perm.refl _
  | a :: r, i + 1, q, h => by
    have := own_front r i q (by simpa using h)
    exact (this.cons a).trans (List.Perm.swap q a _)
theorem Go.front (i : Nat) {q : Ent} (h : F[i]? = some q) (h' : q :: F.eraseIdx i = F') (k : Go A B D Q pc L S F' G cells slots) : Go A B D Q pc L S F G cells slots := Go.perm (h' ▸ own_front F i q h) k
theorem Go.freeze {q : Ent} (k : Go A B D Q pc L S F (q :: G) cells slots) : Go A B D Q pc L S (q :: F) G cells slots := fun hb T hT => by
  obtain ⟨vm0, k0, locs, X, hZ, hown, hS, hk, N, C, H⟩ := hT
  exact k hb T ⟨vm0, k0, locs, X, hZ, hown, hS, hk, N, C, H.freeze⟩
theorem Go.drop {q : Ent} (k : Go A B D Q pc L S F G cells slots) : Go A B D Q pc L S (q :: F) G cells slots := fun hb T hT => by
  obtain ⟨vm0, k0, locs, X, hZ, hown, hS, hk, N, C, H⟩ := hT
  exact k hb T ⟨vm0, k0, locs, X, hZ, hown, hS, hk, N, C, H.drop⟩
theorem Go.gsub (P : ∀ q ∈ G', q ∈ G) (k : Go A B D Q pc L S F G' cells slots) : Go A B D Q pc L S F G cells slots := fun hb T hT => by
  obtain ⟨vm0, k0, locs, X, hZ, hown, hS, hk, N, C, H⟩ := hT
  exact k hb T ⟨vm0, k0, locs, X, hZ, hown, hS, hk, N, C, H.gsub P⟩
theorem Go.weak {a : Addr} {P P' : Cell → Prop} (hp : ∀ c, P c → P' c) (k : Go A B D Q pc L S ((a, P') :: F) G cells slots) : Go A B D Q pc L S ((a, P) :: F) G cells slots := fun hb T hT => by
  obtain ⟨vm0, k0, locs, X, hZ, hown, hS, hk, N, C, H⟩ := hT
  exact k hb T ⟨vm0, k0, locs, X, hZ, hown, hS, hk, N, C, H.weak hp⟩
theorem Go.post {Q' : Pst} (h : ∀ v F G, Q' v F G → Q v F G) (k : Go A B D Q' pc L S F G cells slots) : Go A B D Q pc L S F G cells slots := fun hb T hT => by
  obtain ⟨s₂, o, st, r1, r2, v, L, F', G', e, q, r⟩ := k hb T hT
  exact ⟨s₂, o, st, r1, r2, v, L, F', G', e, h _ _ _ q, r⟩
/-- what is known of an owned or read cell, as a fact in Lean -/
theorem Go.know {a : Addr} {P : Cell → Prop} {R : Prop} (m : (a, P) ∈ F ∨ (a, P) ∈ G) (hr : ∀ c, P c → R) (k : R → Go A B D Q pc L S F G cells slots) : Go A B D Q pc L S F G cells slots := fun hb T hT => by
  obtain ⟨vm0, k0, locs, X, hZ, hown, hS, hk, N, C, H⟩ := hT
  obtain ⟨c, -, p⟩ := H.at m
  exact k (hr c p) hb T ⟨vm0, k0, locs, X, hZ, hown, hS, hk, N, C, H⟩
/-- two owned cells are not one; an owned one and a read one are not one -/
theorem Go.apart {a b : Addr} {P P' : Cell → Prop} (m : (a, P) ∈ F) (m' : (b, P') ∈ G) (k : b ≠ a → Go A B D Q pc L S F G cells slots) : Go A B D Q pc L S F G cells slots := fun hb T hT => by
  obtain ⟨vm0, k0, locs, X, hZ, hown, hS, hk, N, C, H⟩ := hT
  exact k ((H.2.2.2.2 _ m).2.2 _ m') hb T ⟨vm0, k0, locs, X, hZ, hown, hS, hk, N, C, H⟩
theorem Go.apartF {a b : Addr} {P P' : Cell → Prop} (m : (b, P') ∈ F) (k : b ≠ a → Go A B D Q pc L S ((a, P) :: F) G cells slots) : Go A B D Q pc L S ((a, P) :: F) G cells slots := fun hb T hT => by
  obtain ⟨vm0, k0, locs, X, hZ, hown, hS, hk, N, C, H⟩ := hT
  exact k (fun z => (List.nodup_cons.mp H.2.2.2.1).1 (List.mem_map.mpr ⟨_, m, z⟩)) hb T ⟨vm0, k0, locs, X, hZ, hown, hS, hk, N, C, H⟩
/-- entering a method -/
theorem MetW.of_go {ws : List Cond} {as' : Array Value} (hpl : plainFor B.y = true) (hEL : EW A.Z A.a0 A.EL) (hef : ∀ m, entryFrame m as' B.maxL = mkF m 0 L.toArray []) (h : ∀ D : Dx, D.args = as' → Go A B D Q 0 L [] F G (pbk B.fl) 0) : MetW ws A B as' F G Q := by
  refine MetFree.of_bodySF hpl hisR ?_
  intro p e s m args below meth c s₁ Bd hml hP hK
  obtain ⟨rfl, hZ, hC, H⟩ := hP
  have X0 : Stand p A.l e B.rm s m args below meth c s₁ [] 0 0 := Stand.of_body Bd
  have e0 : s₁.heap = s.heap := by rw [Bd.state]; rfl
  obtain ⟨s₂, o, st, r1, r2, v, L', F', G', eo, q, H', N', C', W'⟩ := h (p, e, s, m, args, below, meth, c) rfl ⟨Bd.exec, Bd.bytes, hml, Bd.returns, (name_of_methodNamed Bd.named Bd.method).1, Bd.notSynchronized, hEL⟩ s₁
    ⟨s.vm, s.heap.size, [], X0.more (Nat.zero_le _) (Nat.le_refl _), hZ, findClass_of_methodNamed Bd.named, State.WarmedH.since (State.WarmedH.refl s) _, by rw [e0]; exact Nat.le_refl _, ⟨Fr.nil _, fun _ => State.WarmedH.refl s⟩, by rw [e0]; exact ⟨CHr.refl hC, Nat.le_refl _⟩, by rw [e0]; exact H⟩
  exact ⟨s₂, o, castTop (hef m) st, r1, r2, v, L', F', G', eo, q, H', N', C', W'⟩
end Own

--CUT
/-! own_2: a run of plain steps, by one evaluation -/
/-- what i2c and i2b keep -/
def chr16 (x : Int32) : Int32 := x.toUInt32.toUInt16.toUInt32.toInt32
def byt8 (x : Int32) : Int32 := x.toInt8.toInt32
abbrev In1 : Type := Nat × Instr × Nat
abbrev Pl : Type := Nat × List Slot × List Value
def setL (L : List Slot) (i : Nat) (x : Slot) : Option (List Slot) := if i < L.length then some (L.set i x) else none
def stoSelf (L : List Slot) (i : Nat) (v : Value) : Option (List Slot) :=
  (setL L i (.val v)).bind fun L1 => if v.category = 2 then L1[i + 1]?.bind fun o => match o with
    | .val old => if old.category = 2 then (setL L1 (i + 2) .unset).bind fun L2 => setL L2 (i + 1) .second else setL L1 (i + 1) .second
    | _ => setL L1 (i + 1) .second
  else some L1
def sto (L : List Slot) (i : Nat) (v : Value) : Option (List Slot) :=
  L[i]?.bind fun o => match o with
    | .second => (setL L (i - 1) .unset).bind fun L1 => stoSelf L1 i v
    | .val old => if old.category = 2 then (setL L (i + 1) .unset).bind fun L1 => stoSelf L1 i v else stoSelf L i v
    | .unset => stoSelf L i v
theorem own_setL (L : List Slot) (i : Nat) (x : Slot) : Jvm.setAt L.toArray i x = (setL L i x).map List.toArray := by
  unfold Jvm.setAt setL; by_cases h : i < L.length <;> simp [h]
theorem own_stoSelf (L : List Slot) (i : Nat) (v : Value) : storeSelf L.toArray i v = (stoSelf L i v).map List.toArray := by
  unfold storeSelf stoSelf
  rw [own_setL]
  cases h1 : setL L i (.val v) with
  | none => rfl
  | some L1 =>
    simp only [Option.map_some, Option.bind_eq_bind, Option.bind_some]
    by_cases hv : v.category = 2
    · simp only [hv, if_true, List.getElem?_toArray]
      cases h2 : L1[i + 1]? with
      | none => rfl
      | some o =>
        simp only [Option.bind_some]
        cases o with
        | unset => exact own_setL ..
        | second => exact own_setL ..
        | val old =>
          by_cases hc : old.category = 2
          · simp only [hc, if_true]
            rw [own_setL]
            cases h3 : setL L1 (i + 2) .unset with
            | none => rfl
            | some L2 => exact own_setL ..
          · simp only [hc, if_false]; exact own_setL ..
    · simp only [hv, if_false, Option.map_some]
theorem own_sto (L : List Slot) (i : Nat) (v : Value) : storeLocals L.toArray i v = (sto L i v).map List.toArray := by
  unfold storeLocals sto
  simp only [List.getElem?_toArray, Option.bind_eq_bind]
  cases h2 : L[i]? with
  | none => rfl
  | some o =>
    simp only [Option.bind_some]
    cases o with
    | unset => exact own_stoSelf ..
    | second =>
      rw [own_setL]
      cases h3 : setL L (i - 1) .unset with
      | none => rfl
      | some L2 => exact own_stoSelf ..
    | val old =>
      by_cases hc : old.category = 2
      · simp only [hc, if_true]
        rw [own_setL]
        cases h3 : setL L (i + 1) .unset with
        | none => rfl
        | some L2 => exact own_stoSelf ..
      · simp only [hc, if_false]; exact own_stoSelf ..
theorem own_sto' {L L' : List Slot} {i : Nat} {v : Value} (h : sto L i v = some L') : storeLocals L.toArray i v = some L'.toArray := by rw [own_sto, h]; rfl
def ld (L : List Slot) (k : Nat) : Option Value := match L[k]? with
  | some (.val v) => some v
  | _ => none
theorem own_ld {L : List Slot} {k : Nat} {v : Value} (h : ld L k = some v) : L.toArray[k]? = some (.val v) := by
  unfold ld at h
  rw [List.getElem?_toArray]
  split at h <;> simp_all
def ldI (L : List Slot) (k : Nat) : Option Int32 := match ld L k with
  | some (.int v) => some v
  | _ => none
def ldJ (L : List Slot) (k : Nat) : Option Int64 := match ld L k with
  | some (.long v) => some v
  | _ => none
def ldA (L : List Slot) (k : Nat) : Option Value := match ld L k with
  | some (.ref a) => some (.ref a)
  | some .null => some .null
  | _ => none
theorem own_ldI {L : List Slot} {k : Nat} {v : Int32} (h : ldI L k = some v) : L.toArray[k]? = some (.val (.int v)) := by
  unfold ldI at h; split at h
  · rename_i e; cases h; exact own_ld e
  · cases h
theorem own_ldJ {L : List Slot} {k : Nat} {v : Int64} (h : ldJ L k = some v) : L.toArray[k]? = some (.val (.long v)) := by
  unfold ldJ at h; split at h
  · rename_i e; cases h; exact own_ld e
  · cases h
theorem own_ldA {L : List Slot} {k : Nat} {v : Value} (h : ldA L k = some v) : L.toArray[k]? = some (.val v) ∧ v.isRef = true := by
  unfold ldA at h; split at h
  · rename_i e; cases h; exact ⟨own_ld e, rfl⟩
  · rename_i e; cases h; exact ⟨own_ld e, rfl⟩
  · cases h
def bin (S : List Value) (f : Int32 → Int32 → Int32) : Option (List Value) := match S with
  | .int y :: .int x :: r => some (.int (f x y) :: r)
  | _ => none
def binL (S : List Value) (f : Int64 → Int64 → Value) : Option (List Value) := match S with
  | .long y :: .long x :: r => some (f x y :: r)
  | _ => none
def shfL (S : List Value) (f : Int64 → Int32 → Int64) : Option (List Value) := match S with
  | .int y :: .long x :: r => some (.long (f x y) :: r)
  | _ => none
def un (S : List Value) (f : Int32 → Value) : Option (List Value) := match S with
  | .int x :: r => some (f x :: r)
  | _ => none
def unL (S : List Value) (f : Int64 → Value) : Option (List Value) := match S with
  | .long x :: r => some (f x :: r)
  | _ => none
def stI1 (L : List Slot) (S : List Value) (k : Nat) : Option (List Slot × List Value) := match S with
  | .int x :: r => (sto L k (.int x)).map fun L' => (L', r)
  | _ => none
def stJ1 (L : List Slot) (S : List Value) (k : Nat) : Option (List Slot × List Value) := match S with
  | .long x :: r => (sto L k (.long x)).map fun L' => (L', r)
  | _ => none
def stA1 (L : List Slot) (S : List Value) (k : Nat) : Option (List Slot × List Value) := match S with
  | .ref x :: r => (sto L k (.ref x)).map fun L' => (L', r)
  | .null :: r => (sto L k .null).map fun L' => (L', r)
  | _ => none
def dupV (S : List Value) : Option (List Value) := match S with
  | x :: r => if x.category = 1 then some (x :: x :: r) else none
  | _ => none
def dup1V (S : List Value) : Option (List Value) := match S with
  | x :: y :: r => if x.category = 1 ∧ y.category = 1 then some (x :: y :: x :: r) else none
  | _ => none
def dup2V (S : List Value) : Option (List Value) := match S with
  | x :: y :: r => if x.category = 1 ∧ y.category = 1 then some (x :: y :: x :: y :: r) else none
  | _ => none
def popV (S : List Value) : Option (List Value) := match S with
  | x :: r => if x.category = 1 then some r else none
  | _ => none
def step1 (q : In1) (t : Pl) : Option Pl := match q.2.1, q.2.2 with
  | .iload k, 2 => (ldI t.2.1 k).map fun v => (t.1 + 2, t.2.1, .int v :: t.2.2)
  | .iload_n k, 1 => (ldI t.2.1 k.val).map fun v => (t.1 + 1, t.2.1, .int v :: t.2.2)
  | .lload k, 2 => (ldJ t.2.1 k).map fun v => (t.1 + 2, t.2.1, .long v :: t.2.2)
  | .lload_n k, 1 => (ldJ t.2.1 k.val).map fun v => (t.1 + 1, t.2.1, .long v :: t.2.2)
  | .aload k, 2 => (ldA t.2.1 k).map fun v => (t.1 + 2, t.2.1, v :: t.2.2)
  | .aload_n k, 1 => (ldA t.2.1 k.val).map fun v => (t.1 + 1, t.2.1, v :: t.2.2)
  | .istore k, 2 => (stI1 t.2.1 t.2.2 k).map fun r => (t.1 + 2, r)
  | .istore_n k, 1 => (stI1 t.2.1 t.2.2 k.val).map fun r => (t.1 + 1, r)
  | .lstore k, 2 => (stJ1 t.2.1 t.2.2 k).map fun r => (t.1 + 2, r)
  | .lstore_n k, 1 => (stJ1 t.2.1 t.2.2 k.val).map fun r => (t.1 + 1, r)
  | .astore k, 2 => (stA1 t.2.1 t.2.2 k).map fun r => (t.1 + 2, r)
  | .astore_n k, 1 => (stA1 t.2.1 t.2.2 k.val).map fun r => (t.1 + 1, r)
  | .iconst i, 1 => some (t.1 + 1, t.2.1, .int (Int32.ofInt i) :: t.2.2)
  | .bipush i, 2 => some (t.1 + 2, t.2.1, .int (Int8.ofInt i).toInt32 :: t.2.2)
  | .sipush i, 3 => some (t.1 + 3, t.2.1, .int (Int16.ofInt i).toInt32 :: t.2.2)
  | .lconst k, 1 => some (t.1 + 1, t.2.1, .long (Int64.ofNat k) :: t.2.2)
  | .aconst_null, 1 => some (t.1 + 1, t.2.1, .null :: t.2.2)
  | .iadd, 1 => (bin t.2.2 (· + ·)).map fun r => (t.1 + 1, t.2.1, r)
  | .isub, 1 => (bin t.2.2 (· - ·)).map fun r => (t.1 + 1, t.2.1, r)
  | .imul, 1 => (bin t.2.2 (· * ·)).map fun r => (t.1 + 1, t.2.1, r)
  | .iand, 1 => (bin t.2.2 (· &&& ·)).map fun r => (t.1 + 1, t.2.1, r)
  | .ior, 1 => (bin t.2.2 (· ||| ·)).map fun r => (t.1 + 1, t.2.1, r)
  | .ixor, 1 => (bin t.2.2 (· ^^^ ·)).map fun r => (t.1 + 1, t.2.1, r)
  | .ishl, 1 => (bin t.2.2 fun x y => x <<< (y &&& 31)).map fun r => (t.1 + 1, t.2.1, r)
  | .ishr, 1 => (bin t.2.2 fun x y => x >>> (y &&& 31)).map fun r => (t.1 + 1, t.2.1, r)
  | .iushr, 1 => (bin t.2.2 Jvm.Free.XT.ushr).map fun r => (t.1 + 1, t.2.1, r)
  | .ineg, 1 => (un t.2.2 fun x => .int (-x)).map fun r => (t.1 + 1, t.2.1, r)
  | .ladd, 1 => (binL t.2.2 fun x y => .long (x + y)).map fun r => (t.1 + 1, t.2.1, r)
  | .lsub, 1 => (binL t.2.2 fun x y => .long (x - y)).map fun r => (t.1 + 1, t.2.1, r)
  | .land, 1 => (binL t.2.2 fun x y => .long (x &&& y)).map fun r => (t.1 + 1, t.2.1, r)
  | .lor, 1 => (binL t.2.2 fun x y => .long (x ||| y)).map fun r => (t.1 + 1, t.2.1, r)
  | .lxor, 1 => (binL t.2.2 fun x y => .long (x ^^^ y)).map fun r => (t.1 + 1, t.2.1, r)
  | .lcmp, 1 => (binL t.2.2 fun x y => .int (Jvm.Free.XT.cmpL x y)).map fun r => (t.1 + 1, t.2.1, r)
  | .lshl, 1 => (shfL t.2.2 fun x y => x <<< (y.toInt64 &&& 63)).map fun r => (t.1 + 1, t.2.1, r)
  | .lshr, 1 => (shfL t.2.2 fun x y => x >>> (y.toInt64 &&& 63)).map fun r => (t.1 + 1, t.2.1, r)
  | .lushr, 1 => (shfL t.2.2 Jvm.Free.XT.ushrL).map fun r => (t.1 + 1, t.2.1, r)
  | .i2l, 1 => (un t.2.2 fun x => .long x.toInt64).map fun r => (t.1 + 1, t.2.1, r)
  | .l2i, 1 => (unL t.2.2 fun x => .int x.toInt32).map fun r => (t.1 + 1, t.2.1, r)
  | .i2b, 1 => (un t.2.2 fun x => .int (byt8 x)).map fun r => (t.1 + 1, t.2.1, r)
  | .i2c, 1 => (un t.2.2 fun x => .int (chr16 x)).map fun r => (t.1 + 1, t.2.1, r)
  | .i2s, 1 => (un t.2.2 fun x => .int x.toInt16.toInt32).map fun r => (t.1 + 1, t.2.1, r)
  | .iinc k c, 3 => (ldI t.2.1 k).bind fun v => (sto t.2.1 k (.int (v + Int32.ofInt c))).map fun L' => (t.1 + 3, L', t.2.2)
  | .dup, 1 => (dupV t.2.2).map fun r => (t.1 + 1, t.2.1, r)
  | .dup_x1, 1 => (dup1V t.2.2).map fun r => (t.1 + 1, t.2.1, r)
  | .dup2, 1 => (dup2V t.2.2).map fun r => (t.1 + 1, t.2.1, r)
  | .pop, 1 => (popV t.2.2).map fun r => (t.1 + 1, t.2.1, r)
  | .goto o, 3 => if 0 ≤ (t.1 : Int) + o then some (((t.1 : Int) + o).toNat, t.2.1, t.2.2) else none
  | _, _ => none
def runL : List In1 → Pl → Option Pl
  | [], t => some t
  | q :: r, t => if q.1 = t.1 then (step1 q t).bind (runL r) else none
section Own
variable {A : Ax} {B : Bx} {D : Dx} {Q : Pst} {pc pc' : Nat} {L L' : List Slot} {S S' rest : List Value} {F F' G G' : List Ent} {cells slots : Nat}
set_option maxHeartbeats 4000000 in
theorem own_step1 {q : In1} {t t' : Pl} (hpc : q.1 = t.1) (h : step1 q t = some t') (hd : decode D.c.code q.1 = .ok q.2) (hx : D.p.tables.exec = Jvm.exec) (T target : State) (X : At T D.m D.c D.below)
    (k : Steps D.p.tables D.e D.below (T.setTop (mkF D.m t'.1 t'.2.1.toArray t'.2.2)) target) : Steps D.p.tables D.e D.below (T.setTop (mkF D.m t.1 t.2.1.toArray t.2.2)) target := by
  obtain ⟨qpc, qi, ql⟩ := q
  obtain ⟨pc, L, S⟩ := t
  obtain ⟨pc', L', S'⟩ := t'
  simp only at hpc hd k ⊢
  subst hpc
  unfold step1 at h
  simp only at h
  split at h
  · obtain ⟨v, hv, e⟩ := Option.map_eq_some_iff.mp h; cases e; exact XS.iload X hx rfl hd (own_ldI hv) k
  · obtain ⟨v, hv, e⟩ := Option.map_eq_some_iff.mp h; cases e; exact XS.iloadN X hx rfl hd (own_ldI hv) k
  · obtain ⟨v, hv, e⟩ := Option.map_eq_some_iff.mp h; cases e; exact XT.lload X hx rfl hd (own_ldJ hv) k
  · obtain ⟨v, hv, e⟩ := Option.map_eq_some_iff.mp h; cases e; exact XT.lloadN X hx rfl hd (own_ldJ hv) k
  · obtain ⟨v, hv, e⟩ := Option.map_eq_some_iff.mp h; cases e; exact XS.aload X hx rfl hd (own_ldA hv).1 (own_ldA hv).2 k
  · obtain ⟨v, hv, e⟩ := Option.map_eq_some_iff.mp h; cases e; exact XS.aloadN X hx rfl hd (own_ldA hv).1 (own_ldA hv).2 k
  · obtain ⟨⟨L1, S1⟩, hv, e⟩ := Option.map_eq_some_iff.mp h; cases e; unfold stI1 at hv; split at hv
    · obtain ⟨L2, h2, e⟩ := Option.map_eq_some_iff.mp hv; cases e; exact XS.istore X hx rfl hd rfl (own_sto' h2) k
    · cases hv
  · obtain ⟨⟨L1, S1⟩, hv, e⟩ := Option.map_eq_some_iff.mp h; cases e; unfold stI1 at hv; split at hv
    · obtain ⟨L2, h2, e⟩ := Option.map_eq_some_iff.mp hv; cases e; exact XS.istoreN X hx rfl hd rfl (own_sto' h2) k
    · cases hv
  · obtain ⟨⟨L1, S1⟩, hv, e⟩ := Option.map_eq_some_iff.mp h; cases e; unfold stJ1 at hv; split at hv
    · obtain ⟨L2, h2, e⟩ := Option.map_eq_some_iff.mp hv; cases e; exact XT.lstore X hx rfl hd rfl (own_sto' h2) k
    · cases hv
  · obtain ⟨⟨L1, S1⟩, hv, e⟩ := Option.map_eq_some_iff.mp h; cases e; unfold stJ1 at hv; split at hv
    · obtain ⟨L2, h2, e⟩ := Option.map_eq_some_iff.mp hv; cases e; exact XT.lstoreN X hx rfl hd rfl (own_sto' h2) k
    · cases hv
  · obtain ⟨⟨L1, S1⟩, hv, e⟩ := Option.map_eq_some_iff.mp h; cases e; unfold stA1 at hv; split at hv
    · obtain ⟨L2, h2, e⟩ := Option.map_eq_some_iff.mp hv; cases e; exact XS.astore X hx rfl hd rfl rfl (own_sto' h2) k
    · obtain ⟨L2, h2, e⟩ := Option.map_eq_some_iff.mp hv; cases e; exact XS.astore X hx rfl hd rfl rfl (own_sto' h2) k
    · cases hv
  · obtain ⟨⟨L1, S1⟩, hv, e⟩ := Option.map_eq_some_iff.mp h; cases e; unfold stA1 at hv; split at hv
    · obtain ⟨L2, h2, e⟩ := Option.map_eq_some_iff.mp hv; cases e; exact XS.astoreN X hx rfl hd rfl rfl (own_sto' h2) k
    · obtain ⟨L2, h2, e⟩ := Option.map_eq_some_iff.mp hv; cases e; exact XS.astoreN X hx rfl hd rfl rfl (own_sto' h2) k
    · cases hv
  · cases h; exact XS.iconst X hx rfl hd k
  · cases h; exact XS.bipush X hx rfl hd k
  · cases h; exact XS.sipush X hx rfl hd k
  · cases h; exact XT.lconst X hx rfl hd k
  · cases h; exact XS.aconstNull X hx rfl hd k
  · obtain ⟨S1, hv, e⟩ := Option.map_eq_some_iff.mp h; cases e; unfold bin at hv; split at hv
    · cases hv; exact XS.iadd X hx rfl hd rfl k
    · cases hv
  · obtain ⟨S1, hv, e⟩ := Option.map_eq_some_iff.mp h; cases e; unfold bin at hv; split at hv
    · cases hv; exact XS.isub X hx rfl hd rfl k
    · cases hv
  · obtain ⟨S1, hv, e⟩ := Option.map_eq_some_iff.mp h; cases e; unfold bin at hv; split at hv
    · cases hv; exact XS.imul X hx rfl hd rfl k
    · cases hv
  · obtain ⟨S1, hv, e⟩ := Option.map_eq_some_iff.mp h; cases e; unfold bin at hv; split at hv
    · cases hv; exact XS.iand X hx rfl hd rfl k
    · cases hv
  · obtain ⟨S1, hv, e⟩ := Option.map_eq_some_iff.mp h; cases e; unfold bin at hv; split at hv
    · cases hv; exact XT.ior X hx rfl hd rfl k
    · cases hv
  · obtain ⟨S1, hv, e⟩ := Option.map_eq_some_iff.mp h; cases e; unfold bin at hv; split at hv
    · cases hv; exact XT.ixor X hx rfl hd rfl k
    · cases hv
  · obtain ⟨S1, hv, e⟩ := Option.map_eq_some_iff.mp h; cases e; unfold bin at hv; split at hv
    · cases hv; exact XT.ishl X hx rfl hd rfl k
    · cases hv
  · obtain ⟨S1, hv, e⟩ := Option.map_eq_some_iff.mp h; cases e; unfold bin at hv; split at hv
    · cases hv; exact XT.ishr X hx rfl hd rfl k
    · cases hv
  · obtain ⟨S1, hv, e⟩ := Option.map_eq_some_iff.mp h; cases e; unfold bin at hv; split at hv
    · cases hv; exact XT.iushr X hx rfl hd rfl k
    · cases hv
  · obtain ⟨S1, hv, e⟩ := Option.map_eq_some_iff.mp h; cases e; unfold un at hv; split at hv
    · cases hv; exact XS.ineg X hx rfl hd rfl k
    · cases hv
  · obtain ⟨S1, hv, e⟩ := Option.map_eq_some_iff.mp h; cases e; unfold binL at hv; split at hv
    · cases hv; exact XT.ladd X hx rfl hd rfl k
    · cases hv
  · obtain ⟨S1, hv, e⟩ := Option.map_eq_some_iff.mp h; cases e; unfold binL at hv; split at hv
    · cases hv; exact XT.lsub X hx rfl hd rfl k
    · cases hv
  · obtain ⟨S1, hv, e⟩ := Option.map_eq_some_iff.mp h; cases e; unfold binL at hv; split at hv
    · cases hv; exact XT.land X hx rfl hd rfl k
    · cases hv
  · obtain ⟨S1, hv, e⟩ := Option.map_eq_some_iff.mp h; cases e; unfold binL at hv; split at hv
    · cases hv; exact XT.lor X hx rfl hd rfl k
    · cases hv
  · obtain ⟨S1, hv, e⟩ := Option.map_eq_some_iff.mp h; cases e; unfold binL at hv; split at hv
    · cases hv; exact XT.lxor X hx rfl hd rfl k
    · cases hv
  · obtain ⟨S1, hv, e⟩ := Option.map_eq_some_iff.mp h; cases e; unfold binL at hv; split at hv
    · cases hv; exact XT.lcmp X hx rfl hd rfl k
    · cases hv
  · obtain ⟨S1, hv, e⟩ := Option.map_eq_some_iff.mp h; cases e; unfold shfL at hv; split at hv
    · cases hv; exact XT.lshl X hx rfl hd rfl k
    · cases hv
  · obtain ⟨S1, hv, e⟩ := Option.map_eq_some_iff.mp h; cases e; unfold shfL at hv; split at hv
    · cases hv; exact XT.lshr X hx rfl hd rfl k
    · cases hv
  · obtain ⟨S1, hv, e⟩ := Option.map_eq_some_iff.mp h; cases e; unfold shfL at hv; split at hv
    · cases hv; exact XT.lushr X hx rfl hd rfl k
    · cases hv
  · obtain ⟨S1, hv, e⟩ := Option.map_eq_some_iff.mp h; cases e; unfold un at hv; split at hv
    · cases hv; exact XT.i2l X hx rfl hd rfl k
    · cases hv
  · obtain ⟨S1, hv, e⟩ := Option.map_eq_some_iff.mp h; cases e; unfold unL at hv; split at hv
    · cases hv; exact XT.l2i X hx rfl hd rfl k
    · cases hv
  · obtain ⟨S1, hv, e⟩ := Option.map_eq_some_iff.mp h; cases e; unfold un at hv; split at hv
    · cases hv; exact XT.i2b X hx rfl hd rfl k
    · cases hv
  · obtain ⟨S1, hv, e⟩ := Option.map_eq_some_iff.mp h; cases e; unfold un at hv; split at hv
    · cases hv; exact XT.i2c X hx rfl hd rfl k
    · cases hv
  · obtain ⟨S1, hv, e⟩ := Option.map_eq_some_iff.mp h; cases e; unfold un at hv; split at hv
    · cases hv; exact XT.i2s X hx rfl hd rfl k
    · cases hv
  · obtain ⟨v, hv, e⟩ := Option.bind_eq_some_iff.mp h; obtain ⟨L2, h2, e⟩ := Option.map_eq_some_iff.mp e; cases e; exact XS.iinc X hx rfl hd (own_ldI hv) (own_sto' h2) k
  · obtain ⟨S1, hv, e⟩ := Option.map_eq_some_iff.mp h; cases e; unfold dupV at hv; split at hv
    · split at hv
      · cases hv; exact XS.dup X hx rfl hd rfl (by assumption) k
      · cases hv
    · cases hv
  · obtain ⟨S1, hv, e⟩ := Option.map_eq_some_iff.mp h; cases e; unfold dup1V at hv; split at hv
    · split at hv
      · rename_i hc; cases hv; exact XT.dupX1 X hx rfl hd rfl hc.1 hc.2 k
      · cases hv
    · cases hv
  · obtain ⟨S1, hv, e⟩ := Option.map_eq_some_iff.mp h; cases e; unfold dup2V at hv; split at hv
    · split at hv
      · rename_i hc; cases hv; exact XT.dup2 X hx rfl hd rfl hc.1 hc.2 k
      · cases hv
    · cases hv
  · obtain ⟨S1, hv, e⟩ := Option.map_eq_some_iff.mp h; cases e; unfold popV at hv; split at hv
    · split at hv
      · cases hv; exact XT.pop X hx rfl hd rfl (by assumption) k
      · cases hv
    · cases hv
  · split at h
    · rename_i ho; cases h; exact XS.goto X hx rfl rfl hd ho rfl k
    · cases h
  · cases h
theorem own_runL : ∀ (is : List In1) {t t' : Pl}, runL is t = some t' → (∀ q ∈ is, decode D.c.code q.1 = .ok q.2) → D.p.tables.exec = Jvm.exec → ∀ (T target : State), At T D.m D.c D.below →
    Steps D.p.tables D.e D.below (T.setTop (mkF D.m t'.1 t'.2.1.toArray t'.2.2)) target → Steps D.p.tables D.e D.below (T.setTop (mkF D.m t.1 t.2.1.toArray t.2.2)) target
  | [], t, t', h, _, _, T, target, X, k => by cases h; exact k
  | q :: r, t, t', h, hd, hx, T, target, X, k => by
    simp only [runL] at h
    split at h
    · rename_i hpc
      obtain ⟨t1, h1, h2⟩ := Option.bind_eq_some_iff.mp h
      exact own_step1 hpc h1 (hd q (List.mem_cons_self ..)) hx T target X (own_runL r h2 (fun z m => hd z (List.mem_cons_of_mem _ m)) hx T target X k)
    · cases h
/-- the decode table of a body -/
def Dec (bytes : ByteArray) (tb : List In1) : Prop := ∀ q ∈ tb, decode bytes q.1 = .ok q.2
theorem Go.run {tb : List In1} (hd : Dec B.bytes tb) (i n : Nat) (h : runL ((tb.drop i).take n) (pc, L, S) = some (pc', L', S')) (k : Go A B D Q pc' L' S' F G cells slots) : Go A B D Q pc L S F G cells slots :=
  Go.step (fun hb T target X st => own_runL _ h (fun q m => hb.2.1 ▸ hd q (List.mem_of_mem_drop (List.mem_of_mem_take m))) hb.1 T target X st) k
theorem Dec.at {bytes : ByteArray} {tb : List In1} (hd : Dec bytes tb) (hb : Bdy A B D) (e : B.bytes = bytes) {i : Nat} {q : In1} (h : tb[i]? = some q) : decode D.c.code q.1 = .ok q.2 := by
  rw [hb.2.1, e]; exact hd q (List.mem_of_getElem? h)
end Own
/-! own_3: branches, reads and writes -/
/-- what a condition says -/
def cnd : ClassFile.Cond → Int32 → Int32 → Prop
  | .eq, a, b => a = b
  | .ne, a, b => a ≠ b
  | .lt, a, b => a < b
  | .ge, a, b => b ≤ a
  | .gt, a, b => b < a
  | .le, a, b => a ≤ b
theorem own_cnd (cd : ClassFile.Cond) (a b : Int32) : if_icmp.holds cd a b = true ↔ cnd cd a b := by cases cd <;> simp [if_icmp.holds, cnd]
/-- an object: its class is C; these fields hold these values -/
def FdP (Z : State) (a0 : Array Value) (C : String) (c : Cell) (q : String × String × String × Value) : Prop :=
  Laid Z a0 C q.1 q.2.1 q.2.2.1 ∧ (∃ t, parseFieldDescriptor q.2.2.1 = some t) ∧ c.slots[Jvm.RoadKit.slotOf Z q.1 q.2.1 q.2.2.1]? = some q.2.2.2
def ClP (Z : State) (C : String) (c : Cell) : Prop := ∃ k : Class, Z.vm.findClass C = some c.cls ∧ Z.vm.classes[c.cls]? = some k ∧ c.vm.isStatics = false ∧ c.vm ≠ .unknown ∧ (k.kind = .ordinary → c.slots.size = k.instanceTypes.size)
def ObjP (A : Ax) (C : String) (fs : List (String × String × String × Value)) (c : Cell) : Prop := ClP A.Z C c ∧ ∀ q ∈ fs, FdP A.Z A.a0 C c q
/-- an array: its component type, and its components -/
def ArrP (A : Ax) (ty : FieldType) (vs : List Value) (c : Cell) : Prop := A.Z.isArrayOf c ty ∧ c.vm ≠ .unknown ∧ c.slots.toList = vs
theorem ClP.exa {Z : State} {C : String} {c : Cell} {h : Heap} {a : Addr} (P : ClP Z C c) (e : h[a]? = some c) : Exa Z h a C := by
  obtain ⟨k, h1, h2, h3, -, h5⟩ := P; exact ⟨c, k, e, h1, h2, h3, h5⟩
theorem FdP.fld {Z : State} {a0 : Array Value} {C O n d : String} {v : Value} {c : Cell} {h : Heap} {a : Addr} (P : ClP Z C c) (F : FdP Z a0 C c (O, n, d, v)) (e : h[a]? = some c) : Fld Z h a O n d v := by
  obtain ⟨k, h1, h2, h3, h4, h5⟩ := P
  obtain ⟨L, -, hv⟩ := F
  obtain ⟨c1, k1, cf, kf, i, f, a1, a2, a3, a4, a5, a6, -⟩ := L.spec
  cases h1.symm.trans a1
  have es : Jvm.RoadKit.slotOf Z O n d = f.slot := by simp [Jvm.RoadKit.slotOf, a3]
  exact ⟨c, cf, kf, i, f, e, a3, a4, h4, h3, a5, by rw [← es]; exact hv⟩
theorem ClP.set {Z : State} {C : String} {c : Cell} (P : ClP Z C c) (sl : Nat) (v : Value) : ClP Z C (c.setSlot sl v) := by
  obtain ⟨k, h1, h2, h3, h4, h5⟩ := P; exact ⟨k, h1, h2, h3, h4, fun q => by rw [sz_set]; exact h5 q⟩
theorem ArrP.set {A : Ax} {ty : FieldType} {vs : List Value} {c : Cell} (P : ArrP A ty vs c) (i : Nat) (v : Value) : ArrP A ty (vs.set i v) (c.setSlot i v) := by
  obtain ⟨h1, h2, h3⟩ := P
  refine ⟨h1, h2, ?_⟩
  show (c.slots.setIfInBounds i v).toList = _
  rw [Array.toList_setIfInBounds, h3]
theorem ArrP.size {A : Ax} {ty : FieldType} {vs : List Value} {c : Cell} (P : ArrP A ty vs c) : c.slots.size = vs.length := by rw [← P.2.2]; simp
theorem ArrP.get {A : Ax} {ty : FieldType} {vs : List Value} {c : Cell} (P : ArrP A ty vs c) (i : Nat) : c.slots[i]? = vs[i]? := by rw [← P.2.2]; simp
theorem ObjP.set {A : Ax} {C O n d : String} {v w : Value} {c : Cell} {fs fs' : List (String × String × String × Value)} (P : ObjP A C fs c) (hm : (O, n, d, w) ∈ fs)
    (hf : ∀ q ∈ fs', q = (O, n, d, v) ∨ (q ∈ fs ∧ q.2.1 ≠ n)) : ObjP A C fs' (c.setSlot (Jvm.RoadKit.slotOf A.Z O n d) v) := by
  obtain ⟨hc, hq⟩ := P
  refine ⟨hc.set _ _, fun q m => ?_⟩
  obtain ⟨L, ⟨t, ht⟩, hv⟩ := hq _ hm
  rcases hf q m with rfl | ⟨m', hn⟩
  · refine ⟨L, ⟨t, ht⟩, ?_⟩
    have hlt := (Array.getElem?_eq_some_iff.mp hv).1
    simp only at hlt
    simp [Cell.setSlot, hlt]
  · obtain ⟨L', ⟨t', ht'⟩, hv'⟩ := hq _ m'
    refine ⟨L', ⟨t', ht'⟩, ?_⟩
    have ne := slot_ne L' L hn ht' ht
    show (c.slots.setIfInBounds _ _)[_]? = _
    rw [Array.getElem?_setIfInBounds_ne (Ne.symm ne)]; exact hv'
theorem ObjP.less {A : Ax} {C : String} {c : Cell} {fs fs' : List (String × String × String × Value)} (P : ObjP A C fs c) (h : ∀ q ∈ fs', q ∈ fs) : ObjP A C fs' c := ⟨P.1, fun q m => P.2 q (h q m)⟩
theorem own_setmem {α : Type} : ∀ (fs : List α) (k : Nat) (p q : α), q ∈ fs.set k p → q = p ∨ q ∈ fs.eraseIdx k
  | [], _, _, _, h => by simp at h
  | a :: r, 0, p, q, h => by simpa using h
  | a :: r, k + 1, p, q, h => by
    simp only [List.set_cons_succ, List.mem_cons] at h
    simp only [List.eraseIdx_cons_succ, List.mem_cons]
    rcases h with h | h
    · exact Or.inr (Or.inl h)
    · exact (own_setmem r k p q h).imp id Or.inr
theorem own_fs {O n d : String} {v : Value} {fs fs' : List (String × String × String × Value)} (k : Nat) {ns : List String} (hns : (fs.eraseIdx k).map (·.2.1) = ns) (hd : ∀ x ∈ ns, x ≠ n) (h : fs.set k (O, n, d, v) = fs') : ∀ q ∈ fs', q = (O, n, d, v) ∨ (q ∈ fs ∧ q.2.1 ≠ n) := fun q m => by
  subst h
  refine (own_setmem _ _ _ _ m).imp id fun z => ⟨List.mem_of_mem_eraseIdx z, hd _ ?_⟩
  rw [← hns]; exact List.mem_map_of_mem z
theorem own_lay0 {A : Ax} {C : String} : ∀ q ∈ ([] : List (String × String × String × Value)), Laid A.Z A.a0 C q.1 q.2.1 q.2.2.1 ∧ ∃ t, parseFieldDescriptor q.2.2.1 = some t ∧ q.2.2.2 = defaultValue t := fun _ m => nomatch m
theorem own_layS {A : Ax} {C O n d : String} {v : Value} {t : FieldType} {fs : List (String × String × String × Value)} (h : Laid A.Z A.a0 C O n d) (ht : parseFieldDescriptor d = some t) (hv : v = defaultValue t) (r : ∀ q ∈ fs, Laid A.Z A.a0 C q.1 q.2.1 q.2.2.1 ∧ ∃ t, parseFieldDescriptor q.2.2.1 = some t ∧ q.2.2.2 = defaultValue t) :
    ∀ q ∈ (O, n, d, v) :: fs, Laid A.Z A.a0 C q.1 q.2.1 q.2.2.1 ∧ ∃ t, parseFieldDescriptor q.2.2.1 = some t ∧ q.2.2.2 = defaultValue t := fun q m => by
  rcases List.mem_cons.mp m with rfl | m
  · exact ⟨h, t, ht, hv⟩
  · exact r q m
def InB (j : Int32) (n : Nat) : Prop := 0 ≤ j.toInt ∧ j.toInt < n
theorem InB.in {j : Int32} {n : Nat} (h : InB j n) : ¬ (j < 0 ∨ n ≤ j.toNatClampNeg) := by
  obtain ⟨h1, h2⟩ := h
  simp only [Int32.lt_iff_toInt_lt, Int32.toNatClampNeg]
  have : (0 : Int32).toInt = 0 := rfl
  omega
section Own
variable {A : Ax} {B : Bx} {D : Dx} {Q : Pst} {pc pc' : Nat} {L L' : List Slot} {S S' rest : List Value} {F F' G G' : List Ent} {cells slots : Nat} {tb : List In1}
theorem own_dec (hd : Dec B.bytes tb) (hb : Bdy A B D) {i p : Nat} {r : Instr × Nat} (h : tb[i]? = some (p, r)) : decode D.c.code p = .ok r := by
  rw [hb.2.1]; exact hd (p, r) (List.mem_of_getElem? h)
theorem Go.icmp (hd : Dec B.bytes tb) (i : Nat) {cd : ClassFile.Cond} {o : Int} {x y : Int32} (hi : tb[i]? = some (pc, .if_icmp cd o, 3)) (ho : 0 ≤ (pc : Int) + o) (hp : ((pc : Int) + o).toNat = pc')
    (k1 : cnd cd x y → Go A B D Q pc' L rest F G cells slots) (k2 : ¬ cnd cd x y → Go A B D Q (pc + 3) L rest F G cells slots) : Go A B D Q pc L (.int y :: .int x :: rest) F G cells slots := by
  cases hc : if_icmp.holds cd x y with
  | true => exact Go.step (fun hb T target X st => XS.icmpYes X hb.1 rfl rfl (own_dec hd hb hi) rfl hc ho hp st) (k1 ((own_cnd ..).mp hc))
  | false => exact Go.step (fun hb T target X st => XS.icmpNo X hb.1 rfl (own_dec hd hb hi) rfl hc st) (k2 fun z => by rw [(own_cnd ..).mpr z] at hc; cases hc)
theorem Go.if0 (hd : Dec B.bytes tb) (i : Nat) {cd : ClassFile.Cond} {o : Int} {x : Int32} (hi : tb[i]? = some (pc, .ifCond cd o, 3)) (ho : 0 ≤ (pc : Int) + o) (hp : ((pc : Int) + o).toNat = pc')
    (k1 : cnd cd x 0 → Go A B D Q pc' L rest F G cells slots) (k2 : ¬ cnd cd x 0 → Go A B D Q (pc + 3) L rest F G cells slots) : Go A B D Q pc L (.int x :: rest) F G cells slots := by
  cases hc : ifCond.holds cd x with
  | true => exact Go.step (fun hb T target X st => XS.ifYes X hb.1 rfl rfl (own_dec hd hb hi) rfl hc ho hp st) (k1 ((own_cnd ..).mp (by rw [← Jvm.RoadKit.if0]; exact hc)))
  | false => exact Go.step (fun hb T target X st => XS.ifNo X hb.1 rfl (own_dec hd hb hi) rfl hc st) (k2 fun z => by rw [Jvm.RoadKit.if0, (own_cnd ..).mpr z] at hc; cases hc)
theorem Go.nullYes (hd : Dec B.bytes tb) (i : Nat) {o : Int} (hi : tb[i]? = some (pc, .ifnull o, 3)) (ho : 0 ≤ (pc : Int) + o) (hp : ((pc : Int) + o).toNat = pc') (k : Go A B D Q pc' L rest F G cells slots) : Go A B D Q pc L (.null :: rest) F G cells slots :=
  Go.step (fun hb T target X st => XS.ifnullYes X hb.1 rfl rfl (own_dec hd hb hi) rfl ho hp st) k
theorem Go.nullNo (hd : Dec B.bytes tb) (i : Nat) {o : Int} {a : Addr} (hi : tb[i]? = some (pc, .ifnull o, 3)) (k : Go A B D Q (pc + 3) L rest F G cells slots) : Go A B D Q pc L (.ref a :: rest) F G cells slots :=
  Go.step (fun hb T target X st => XS.ifnullNo X hb.1 rfl (own_dec hd hb hi) rfl st) k
theorem Go.nonnullYes (hd : Dec B.bytes tb) (i : Nat) {o : Int} {a : Addr} (hi : tb[i]? = some (pc, .ifnonnull o, 3)) (ho : 0 ≤ (pc : Int) + o) (hp : ((pc : Int) + o).toNat = pc') (k : Go A B D Q pc' L rest F G cells slots) : Go A B D Q pc L (.ref a :: rest) F G cells slots :=
  Go.step (fun hb T target X st => XT.ifnonnullYes X hb.1 rfl rfl (own_dec hd hb hi) rfl ho hp st) k
theorem Go.nonnullNo (hd : Dec B.bytes tb) (i : Nat) {o : Int} (hi : tb[i]? = some (pc, .ifnonnull o, 3)) (k : Go A B D Q (pc + 3) L rest F G cells slots) : Go A B D Q pc L (.null :: rest) F G cells slots :=
  Go.step (fun hb T target X st => XT.ifnonnullNo X hb.1 rfl (own_dec hd hb hi) rfl st) k
theorem Go.acmp (hd : Dec B.bytes tb) (i : Nat) {cd : ACond} {o : Int} {x y : Value} (hi : tb[i]? = some (pc, .if_acmp cd o, 3)) (hx' : x.isRef = true) (hy' : y.isRef = true) (ho : 0 ≤ (pc : Int) + o) (hp : ((pc : Int) + o).toNat = pc')
    (k1 : XT.acmp cd x y = true → Go A B D Q pc' L rest F G cells slots) (k2 : XT.acmp cd x y = false → Go A B D Q (pc + 3) L rest F G cells slots) : Go A B D Q pc L (y :: x :: rest) F G cells slots := by
  cases hc : XT.acmp cd x y with
  | true => exact Go.step (fun hb T target X st => XT.acmpYes X hb.1 rfl rfl (own_dec hd hb hi) rfl hx' hy' hc ho hp st) (k1 hc)
  | false => exact Go.step (fun hb T target X st => XT.acmpNo X hb.1 rfl (own_dec hd hb hi) rfl hx' hy' hc st) (k2 hc)
theorem Go.irem (hd : Dec B.bytes tb) (i : Nat) {x y : Int32} (hi : tb[i]? = some (pc, .irem, 1)) (hy : y ≠ 0) (k : Go A B D Q (pc + 1) L (.int (x % y) :: rest) F G cells slots) : Go A B D Q pc L (.int y :: .int x :: rest) F G cells slots :=
  Go.step (fun hb T target X st => XS.irem X hb.1 rfl (own_dec hd hb hi) rfl hy (by rw [irem_eq_mod]; exact st)) k
theorem Go.idiv (hd : Dec B.bytes tb) (i : Nat) {x y : Int32} (hi : tb[i]? = some (pc, .idiv, 1)) (hy : y ≠ 0) (k : Go A B D Q (pc + 1) L (.int (x / y) :: rest) F G cells slots) : Go A B D Q pc L (.int y :: .int x :: rest) F G cells slots :=
  Go.step (fun hb T target X st => XS.idiv X hb.1 rfl (own_dec hd hb hi) rfl hy st) k
theorem Go.tswIn (hd : Dec B.bytes tb) (i : Nat) {dflt low high o : Int} {offs : Array Int} {len : Nat} {x : Int32} (hi : tb[i]? = some (pc, .tableswitch dflt low high offs, len)) (hin : ¬ (x.toInt < low ∨ x.toInt > high)) (hoff : offs[(x.toInt - low).toNat]? = some o)
    (ho : 0 ≤ (pc : Int) + o) (hp : ((pc : Int) + o).toNat = pc') (k : Go A B D Q pc' L rest F G cells slots) : Go A B D Q pc L (.int x :: rest) F G cells slots :=
  Go.step (fun hb T target X st => XS.tswIn X hb.1 rfl rfl (own_dec hd hb hi) rfl hin hoff ho hp st) k
theorem Go.tswOut (hd : Dec B.bytes tb) (i : Nat) {dflt low high : Int} {offs : Array Int} {len : Nat} {x : Int32} (hi : tb[i]? = some (pc, .tableswitch dflt low high offs, len)) (hout : x.toInt < low ∨ x.toInt > high)
    (ho : 0 ≤ (pc : Int) + dflt) (hp : ((pc : Int) + dflt).toNat = pc') (k : Go A B D Q pc' L rest F G cells slots) : Go A B D Q pc L (.int x :: rest) F G cells slots :=
  Go.step (fun hb T target X st => XS.tswOut X hb.1 rfl rfl (own_dec hd hb hi) rfl hout ho hp st) k
/-! constants of the pool -/
theorem Go.ldcI (hd : Dec B.bytes tb) (i : Nat) {ix : Nat} {v : Int32} (hi : tb[i]? = some (pc, .ldc ix, 2)) (w : (Cond.constant B.y.cls ix v).before A.a0 A.Z = true) (k : Go A B D Q (pc + 2) L (.int v :: S) F G cells slots) : Go A B D Q pc L S F G cells slots :=
  Go.stay (fun hb T vm0 locs X hZ hown H => ⟨T, X, rfl, fun target st => X.ldcI hb.1 hown (mv (s := D.s.setVm vm0) hZ w) rfl (own_dec hd hb hi) st⟩) k
theorem Go.ldc2J (hd : Dec B.bytes tb) (i : Nat) {ix : Nat} {v : Int64} (hi : tb[i]? = some (pc, .ldc2_w ix, 3)) (w : (Cond.constantLong B.y.cls ix v).before A.a0 A.Z = true) (k : Go A B D Q (pc + 3) L (.long v :: S) F G cells slots) : Go A B D Q pc L S F G cells slots :=
  Go.stay (fun hb T vm0 locs X hZ hown H => ⟨T, X, rfl, fun target st => X.ldc2J hb.1 hown (mv (s := D.s.setVm vm0) hZ w) rfl (own_dec hd hb hi) st⟩) k
/-! fields -/
theorem Go.getfield (hd : Dec B.bytes tb) (i : Nat) {ix : Nat} {a : Addr} {C O n d : String} {v : Value} {fs : List (String × String × String × Value)} (hi : tb[i]? = some (pc, .getfield ix, 3)) (w : (Cond.fieldLink B.y.cls ix O n d).before A.a0 A.Z = true)
    (m : (a, ObjP A C fs) ∈ F ∨ (a, ObjP A C fs) ∈ G) (hf : (O, n, d, v) ∈ fs) (k : Go A B D Q (pc + 3) L (v :: rest) F G cells slots) : Go A B D Q pc L (.ref a :: rest) F G cells slots :=
  Go.stay (fun hb T vm0 locs X hZ hown H => by
    obtain ⟨c, e, P⟩ := H.at m
    obtain ⟨T', X', e', st⟩ := getF X hb.1 hZ hown (host := "") (Or.inl w) Via.refl rfl ((P.2 _ hf).fld P.1 e) (g := mkF D.m pc L.toArray (.ref a :: rest)) rfl rfl (own_dec hd hb hi)
    exact ⟨T', X', e', st⟩) k
theorem Go.getfieldVia (hd : Dec B.bytes tb) (i : Nat) {ix : Nat} {a : Addr} {C O R0 n d : String} {v : Value} {fs : List (String × String × String × Value)} (hi : tb[i]? = some (pc, .getfield ix, 3)) (w : (Cond.fieldLink B.y.cls ix R0 n d).before A.a0 A.Z = true) (via : Via A.Z R0 O n d)
    (m : (a, ObjP A C fs) ∈ F ∨ (a, ObjP A C fs) ∈ G) (hf : (O, n, d, v) ∈ fs) (k : Go A B D Q (pc + 3) L (v :: rest) F G cells slots) : Go A B D Q pc L (.ref a :: rest) F G cells slots :=
  Go.stay (fun hb T vm0 locs X hZ hown H => by
    obtain ⟨c, e, P⟩ := H.at m
    obtain ⟨T', X', e', st⟩ := getF X hb.1 hZ hown (host := "") (Or.inl w) via rfl ((P.2 _ hf).fld P.1 e) (g := mkF D.m pc L.toArray (.ref a :: rest)) rfl rfl (own_dec hd hb hi)
    exact ⟨T', X', e', st⟩) k
theorem Go.getstatic (hd : Dec B.bytes tb) (i : Nat) {ix : Nat} {O n d : String} {v : Value} (hi : tb[i]? = some (pc, .getstatic ix, 3)) (w : (Cond.fieldLink B.y.cls ix O n d).before A.a0 A.Z = true) (s : Sta A.Z A.Z.heap O n d v)
    (k : Go A B D Q (pc + 3) L (v :: S) F G cells slots) : Go A B D Q pc L S F G cells slots :=
  Go.stay (fun hb T vm0 locs X hZ hown H => by
    obtain ⟨T', X', e', st⟩ := getS X hb.1 hZ (host := "") hown w Via.refl rfl (s.ext H.1) (g := mkF D.m pc L.toArray S) rfl (own_dec hd hb hi)
    exact ⟨T', X', e', st⟩) k
/-- a step that writes one slot of the first owned cell -/
theorem Go.wrote {a : Addr} {P P' : Cell → Prop} {sl : Nat} {v : Value}
    (h : Bdy A B D → ∀ (T : State) (vm0 : Vm) (locs : List Loc) (c : Cell), Stand D.p A.l D.e B.rm (D.s.setVm vm0) D.m D.args D.below D.meth D.c T locs cells slots → A.Z.Warmed39 vm0 → vm0.findClass B.y.cls = some D.m.cls → T.heap[a]? = some c → P c →
      ∃ T' h', Stand D.p A.l D.e B.rm (D.s.setVm vm0) D.m D.args D.below D.meth D.c T' (locs ++ [⟨a, sl⟩]) cells slots ∧ T'.heap = h' ∧ Wr T.heap h' a sl v ∧ ∀ target, Steps D.p.tables D.e D.below (T'.setTop (mkF D.m pc' L'.toArray S')) target → Steps D.p.tables D.e D.below (T.setTop (mkF D.m pc L.toArray S)) target)
    (hp : ∀ c, P c → P' (c.setSlot sl v)) (k : Go A B D Q pc' L' S' ((a, P') :: F) G cells slots) : Go A B D Q pc L S ((a, P) :: F) G cells slots := fun hb T hT => by
  obtain ⟨vm0, k0, locs, X, hZ, hown, hS, hk, N, C, H⟩ := hT
  obtain ⟨c, e, p⟩ := H.at (a := a) (P := P) (Or.inl (List.mem_cons_self ..))
  obtain ⟨T', h', X', e', W, st⟩ := h hb T vm0 locs c X hZ hown e p
  have sa := H.2.2.2.2 _ (List.mem_cons_self ..)
  obtain ⟨s₂, o, st', r⟩ := k hb T' ⟨vm0, k0, _, X', hZ, hown, hS, by rw [e', W.size]; exact hk, ⟨Fr.snoc X' N.1 sa.1, N.2⟩, by rw [e']; exact ⟨C.1.trans (CHr.wr W sa.2.1 C.1.1), by unfold Pot; rw [W.size]; exact C.2⟩, by rw [e']; exact H.wr C.1.1 W hp⟩
  exact ⟨s₂, o, st _ st', r⟩
theorem Go.putfield (hd : Dec B.bytes tb) (i : Nat) {ix kk : Nat} {a : Addr} {C O n d : String} {v w0 : Value} {fs fs' : List (String × String × String × Value)} {ty : FieldType} (hi : tb[i]? = some (pc, .putfield ix, 3)) (w : (Cond.fieldLink B.y.cls ix O n d).before A.a0 A.Z = true)
    (hl : (Cond.lays C O n d).before A.a0 A.Z = true ∨ ((Cond.laysFinal C O n d).before A.a0 A.Z = true ∧ B.y.cls = O ∧ B.y.name = "<init>")) (wi : (Cond.instantiable C kk).before A.a0 A.Z = true) (hty : parseFieldDescriptor d = some ty) (hn : narrow ty v = v) (hfi : fits ty v = true)
    (hm : (O, n, d, w0) ∈ fs) (hf : ∀ q ∈ fs', q = (O, n, d, v) ∨ (q ∈ fs ∧ q.2.1 ≠ n)) (k : Go A B D Q (pc + 3) L rest ((a, ObjP A C fs') :: F) G cells slots) : Go A B D Q pc L (v :: .ref a :: rest) ((a, ObjP A C fs) :: F) G cells slots :=
  Go.wrote (fun hb T vm0 locs c X hZ hown e P => by
    obtain ⟨T', h', X', e', W, st⟩ := putF X hb.1 hZ hown (host := "") (Or.inl w) Via.refl rfl ((P.2 _ hm).fld P.1 e) (P.1.exa e) (hl.imp id fun q => ⟨q.1, q.2.1, hb.2.2.2.2.1.trans q.2.2⟩) wi hty hn hfi (g := mkF D.m pc L.toArray (v :: .ref a :: rest)) rfl rfl (own_dec hd hb hi)
    exact ⟨T', h', X', e', W, st⟩) (fun c P => P.set hm hf) k
/-! arrays -/
theorem own_len {n : Nat} {z : Int32} (h : (n : Int) = z.toInt) : n.toInt32 = z := by
  rw [← Int32.toInt_inj]
  have h1 := z.toInt_lt
  rw [Int32.toInt_ofNat_small (by omega)]; exact h
theorem Go.arraylength (hd : Dec B.bytes tb) (i : Nat) {a : Addr} {ty : FieldType} {vs : List Value} {z : Int32} (hi : tb[i]? = some (pc, .arraylength, 1)) (m : (a, ArrP A ty vs) ∈ F ∨ (a, ArrP A ty vs) ∈ G) (hz : (vs.length : Int) = z.toInt)
    (k : Go A B D Q (pc + 1) L (.int z :: rest) F G cells slots) : Go A B D Q pc L (.ref a :: rest) F G cells slots :=
  Go.stay (fun hb T vm0 locs X hZ hown H => by
    obtain ⟨c, e, P⟩ := H.at m
    refine ⟨T, X, rfl, fun target st => X.arraylength hb.1 e (State.isArrayOf_alike (T := D.s.setVm vm0) hZ.alike P.1) (g := mkF D.m pc L.toArray (.ref a :: rest)) rfl rfl (own_dec hd hb hi) target ?_⟩
    rw [P.size, own_len hz]; exact st) k
theorem own_get {A : Ax} {ty : FieldType} {vs : List Value} {c : Cell} {j : Int32} {v : Value} (P : ArrP A ty vs c) (h : InB j vs.length) (hv : vs[j.toInt.toNat]? = some v) : ¬ (j < 0 ∨ c.slots.size ≤ j.toNatClampNeg) ∧ c.slots[j.toNatClampNeg]? = some v :=
  ⟨by rw [P.size]; exact h.in, by rw [P.get]; exact hv⟩
theorem Go.caload (hd : Dec B.bytes tb) (i : Nat) {a : Addr} {vs : List Value} {j : Int32} {v : Value} (hi : tb[i]? = some (pc, .caload, 1)) (m : (a, ArrP A .char vs) ∈ F ∨ (a, ArrP A .char vs) ∈ G) (h : InB j vs.length) (hv : vs[j.toInt.toNat]? = some v)
    (k : Go A B D Q (pc + 1) L (v :: rest) F G cells slots) : Go A B D Q pc L (.int j :: .ref a :: rest) F G cells slots :=
  Go.stay (fun hb T vm0 locs X hZ hown H => by
    obtain ⟨c, e, P⟩ := H.at m
    exact ⟨T, X, rfl, fun target st => X.caload hb.1 e (State.isArrayOf_alike (T := D.s.setVm vm0) hZ.alike P.1) P.2.1 (own_get P h hv).1 (own_get P h hv).2 (g := mkF D.m pc L.toArray (.int j :: .ref a :: rest)) rfl rfl (own_dec hd hb hi) target st⟩) k
theorem Go.iaload (hd : Dec B.bytes tb) (i : Nat) {a : Addr} {vs : List Value} {j : Int32} {v : Value} (hi : tb[i]? = some (pc, .iaload, 1)) (m : (a, ArrP A .int vs) ∈ F ∨ (a, ArrP A .int vs) ∈ G) (h : InB j vs.length) (hv : vs[j.toInt.toNat]? = some v)
    (k : Go A B D Q (pc + 1) L (v :: rest) F G cells slots) : Go A B D Q pc L (.int j :: .ref a :: rest) F G cells slots :=
  Go.stay (fun hb T vm0 locs X hZ hown H => by
    obtain ⟨c, e, P⟩ := H.at m
    exact ⟨T, X, rfl, fun target st => X.iaload hb.1 e (State.isArrayOf_alike (T := D.s.setVm vm0) hZ.alike P.1) P.2.1 (own_get P h hv).1 (own_get P h hv).2 (g := mkF D.m pc L.toArray (.int j :: .ref a :: rest)) rfl rfl (own_dec hd hb hi) target st⟩) k
theorem Go.laload (hd : Dec B.bytes tb) (i : Nat) {a : Addr} {vs : List Value} {j : Int32} {v : Value} (hi : tb[i]? = some (pc, .laload, 1)) (m : (a, ArrP A .long vs) ∈ F ∨ (a, ArrP A .long vs) ∈ G) (h : InB j vs.length) (hv : vs[j.toInt.toNat]? = some v)
    (k : Go A B D Q (pc + 1) L (v :: rest) F G cells slots) : Go A B D Q pc L (.int j :: .ref a :: rest) F G cells slots :=
  Go.stay (fun hb T vm0 locs X hZ hown H => by
    obtain ⟨c, e, P⟩ := H.at m
    exact ⟨T, X, rfl, fun target st => X.laload hb.1 e (State.isArrayOf_alike (T := D.s.setVm vm0) hZ.alike P.1) P.2.1 (own_get P h hv).1 (own_get P h hv).2 (g := mkF D.m pc L.toArray (.int j :: .ref a :: rest)) rfl rfl (own_dec hd hb hi) target st⟩) k
theorem Go.baload (hd : Dec B.bytes tb) (i : Nat) {a : Addr} {vs : List Value} {j : Int32} {v : Value} (hi : tb[i]? = some (pc, .baload, 1)) (m : (a, ArrP A .byte vs) ∈ F ∨ (a, ArrP A .byte vs) ∈ G) (h : InB j vs.length) (hv : vs[j.toInt.toNat]? = some v)
    (k : Go A B D Q (pc + 1) L (v :: rest) F G cells slots) : Go A B D Q pc L (.int j :: .ref a :: rest) F G cells slots :=
  Go.stay (fun hb T vm0 locs X hZ hown H => by
    obtain ⟨c, e, P⟩ := H.at m
    exact ⟨T, X, rfl, fun target st => X.baloadBytes hb.1 e (State.isArrayOf_alike (T := D.s.setVm vm0) hZ.alike P.1) P.2.1 (own_get P h hv).1 (own_get P h hv).2 (g := mkF D.m pc L.toArray (.int j :: .ref a :: rest)) rfl rfl (own_dec hd hb hi) target st⟩) k
theorem Go.zaload (hd : Dec B.bytes tb) (i : Nat) {a : Addr} {vs : List Value} {j : Int32} {v : Value} (hi : tb[i]? = some (pc, .baload, 1)) (m : (a, ArrP A .boolean vs) ∈ F ∨ (a, ArrP A .boolean vs) ∈ G) (h : InB j vs.length) (hv : vs[j.toInt.toNat]? = some v)
    (k : Go A B D Q (pc + 1) L (v :: rest) F G cells slots) : Go A B D Q pc L (.int j :: .ref a :: rest) F G cells slots :=
  Go.stay (fun hb T vm0 locs X hZ hown H => by
    obtain ⟨c, e, P⟩ := H.at m
    exact ⟨T, X, rfl, fun target st => X.baloadBooleans hb.1 e (State.isArrayOf_alike (T := D.s.setVm vm0) hZ.alike P.1) P.2.1 (own_get P h hv).1 (own_get P h hv).2 (g := mkF D.m pc L.toArray (.int j :: .ref a :: rest)) rfl rfl (own_dec hd hb hi) target st⟩) k
theorem Go.aaload (hd : Dec B.bytes tb) (i : Nat) {a : Addr} {ty : FieldType} {vs : List Value} {j : Int32} {v : Value} (hi : tb[i]? = some (pc, .aaload, 1)) (ht : ty.isReference = true) (m : (a, ArrP A ty vs) ∈ F ∨ (a, ArrP A ty vs) ∈ G) (h : InB j vs.length) (hv : vs[j.toInt.toNat]? = some v)
    (k : Go A B D Q (pc + 1) L (v :: rest) F G cells slots) : Go A B D Q pc L (.int j :: .ref a :: rest) F G cells slots :=
  Go.stay (fun hb T vm0 locs X hZ hown H => by
    obtain ⟨c, e, P⟩ := H.at m
    exact ⟨T, X, rfl, fun target st => X.aaload hb.1 e (State.isArrayOf_alike (T := D.s.setVm vm0) hZ.alike P.1) ht P.2.1 (own_get P h hv).1 (own_get P h hv).2 (g := mkF D.m pc L.toArray (.int j :: .ref a :: rest)) rfl rfl (own_dec hd hb hi) target st⟩) k
theorem Go.castore (hd : Dec B.bytes tb) (i : Nat) {a : Addr} {vs vs' : List Value} {j x : Int32} (hi : tb[i]? = some (pc, .castore, 1)) (h : InB j vs.length) (hv : vs.set j.toInt.toNat (.int (chr16 x)) = vs')
    (k : Go A B D Q (pc + 1) L rest ((a, ArrP A .char vs') :: F) G cells slots) : Go A B D Q pc L (.int x :: .int j :: .ref a :: rest) ((a, ArrP A .char vs) :: F) G cells slots :=
  Go.wrote (fun hb T vm0 locs c X hZ hown e P => by
    obtain ⟨T', h', X', e', W, st⟩ := stC X hb.1 hZ rfl (cl := c) ⟨e, P.1, P.2.1⟩ (by rw [P.size]; exact h.in) (g := mkF D.m pc L.toArray (.int x :: .int j :: .ref a :: rest)) rfl rfl (own_dec hd hb hi)
    exact ⟨T', h', X', e', W, st⟩) (fun c P => by rw [← hv]; exact P.set _ _) k
theorem Go.bastore (hd : Dec B.bytes tb) (i : Nat) {a : Addr} {vs vs' : List Value} {j x : Int32} (hi : tb[i]? = some (pc, .bastore, 1)) (h : InB j vs.length) (hv : vs.set j.toInt.toNat (.int (byt8 x)) = vs')
    (k : Go A B D Q (pc + 1) L rest ((a, ArrP A .byte vs') :: F) G cells slots) : Go A B D Q pc L (.int x :: .int j :: .ref a :: rest) ((a, ArrP A .byte vs) :: F) G cells slots :=
  Go.wrote (fun hb T vm0 locs c X hZ hown e P => by
    obtain ⟨T', h', X', e', W, st⟩ := stB X hb.1 hZ rfl (cl := c) ⟨e, P.1, P.2.1⟩ (by rw [P.size]; exact h.in) (g := mkF D.m pc L.toArray (.int x :: .int j :: .ref a :: rest)) rfl rfl (own_dec hd hb hi)
    exact ⟨T', h', X', e', W, st⟩) (fun c P => by rw [← hv]; exact P.set _ _) k
theorem Go.zastore (hd : Dec B.bytes tb) (i : Nat) {a : Addr} {vs vs' : List Value} {j x : Int32} (hi : tb[i]? = some (pc, .bastore, 1)) (h : InB j vs.length) (hv : vs.set j.toInt.toNat (.int (x &&& 1)) = vs')
    (k : Go A B D Q (pc + 1) L rest ((a, ArrP A .boolean vs') :: F) G cells slots) : Go A B D Q pc L (.int x :: .int j :: .ref a :: rest) ((a, ArrP A .boolean vs) :: F) G cells slots :=
  Go.wrote (fun hb T vm0 locs c X hZ hown e P => by
    obtain ⟨T', h', X', e', W, st⟩ := stZ X hb.1 hZ rfl (cl := c) ⟨e, P.1, P.2.1⟩ (by rw [P.size]; exact h.in) (g := mkF D.m pc L.toArray (.int x :: .int j :: .ref a :: rest)) rfl rfl (own_dec hd hb hi)
    exact ⟨T', h', X', e', W, st⟩) (fun c P => by rw [← hv]; exact P.set _ _) k
theorem Go.iastore (hd : Dec B.bytes tb) (i : Nat) {a : Addr} {vs vs' : List Value} {j x : Int32} (hi : tb[i]? = some (pc, .iastore, 1)) (h : InB j vs.length) (hv : vs.set j.toInt.toNat (.int x) = vs')
    (k : Go A B D Q (pc + 1) L rest ((a, ArrP A .int vs') :: F) G cells slots) : Go A B D Q pc L (.int x :: .int j :: .ref a :: rest) ((a, ArrP A .int vs) :: F) G cells slots :=
  Go.wrote (fun hb T vm0 locs c X hZ hown e P => by
    obtain ⟨T', h', X', e', W, st⟩ := stI X hb.1 hZ rfl (cl := c) ⟨e, P.1, P.2.1⟩ (by rw [P.size]; exact h.in) (g := mkF D.m pc L.toArray (.int x :: .int j :: .ref a :: rest)) rfl rfl (own_dec hd hb hi)
    exact ⟨T', h', X', e', W, st⟩) (fun c P => by rw [← hv]; exact P.set _ _) k
theorem Go.lastore (hd : Dec B.bytes tb) (i : Nat) {a : Addr} {vs vs' : List Value} {j : Int32} {x : Int64} (hi : tb[i]? = some (pc, .lastore, 1)) (h : InB j vs.length) (hv : vs.set j.toInt.toNat (.long x) = vs')
    (k : Go A B D Q (pc + 1) L rest ((a, ArrP A .long vs') :: F) G cells slots) : Go A B D Q pc L (.long x :: .int j :: .ref a :: rest) ((a, ArrP A .long vs) :: F) G cells slots :=
  Go.wrote (fun hb T vm0 locs c X hZ hown e P => by
    obtain ⟨T', h', X', e', W, st⟩ := stJ X hb.1 hZ rfl (cl := c) ⟨e, P.1, P.2.1⟩ (by rw [P.size]; exact h.in) (g := mkF D.m pc L.toArray (.long x :: .int j :: .ref a :: rest)) rfl rfl (own_dec hd hb hi)
    exact ⟨T', h', X', e', W, st⟩) (fun c P => by rw [← hv]; exact P.set _ _) k
end Own

--CUT
/-! own_4: making cells, constants, calls, returns -/
section Own
variable {A : Ax} {B : Bx} {D : Dx} {Q : Pst} {pc pc' : Nat} {L L' : List Slot} {S S' rest : List Value} {F F' G G' : List Ent} {cells slots : Nat} {tb : List In1}
theorem Go.new (hd : Dec B.bytes tb) (i : Nat) {ix n : Nat} {C : String} {fs : List (String × String × String × Value)} (hi : tb[i]? = some (pc, .new ix, 3)) (w : (Cond.classLink B.y.cls ix C).before A.a0 A.Z = true) (wi : (Cond.instantiable C n).before A.a0 A.Z = true) (wz : (Cond.initialized C).before A.a0 A.Z = true)
    (hf : ∀ q ∈ fs, Laid A.Z A.a0 C q.1 q.2.1 q.2.2.1 ∧ ∃ t, parseFieldDescriptor q.2.2.1 = some t ∧ q.2.2.2 = defaultValue t) (hc : cells + 1 ≤ B.rm.cells) (hl : slots + n ≤ B.rm.slots)
    (k : ∀ a : Addr, Go A B D Q (pc + 3) L (.ref a :: S) ((a, ObjP A C fs) :: F) G (cells + 1) (slots + n)) : Go A B D Q pc L S F G cells slots := fun hb T hT => by
  obtain ⟨vm0, k0, locs, X, hZ, hown, hS, hk, N, Ch, H⟩ := hT
  obtain ⟨T', h', X', e', E, Ex, Df, ⟨cl, hcl, hv, -⟩, st⟩ := newO (own_true X) hb.1 hZ hown w wi wz rfl (g := mkF D.m pc L.toArray S) rfl (own_dec hd hb hi) (by have g0 : D.s.heap.size ≤ T.heap.size ∧ T.heap.size ≤ D.s.heap.size + cells := own_growV X; show T.heap.size - D.s.heap.size + 1 ≤ _; omega) hl
  have hP : ObjP A C fs cl := by
    obtain ⟨c1, k1, q1, q2, q3, q4, q5⟩ := Ex
    cases hcl.symm.trans q1
    refine ⟨⟨k1, q2, q3, q4, by rw [hv]; simp, q5⟩, fun q m => ?_⟩
    obtain ⟨La, t, ht, hd⟩ := hf q m
    refine ⟨La, ⟨t, ht⟩, ?_⟩
    obtain ⟨c2, cf, kk, ii, f, g1, g2, -, -, -, -, g7⟩ := Df La ht
    cases hcl.symm.trans g1
    rw [hd, show Jvm.RoadKit.slotOf A.Z q.1 q.2.1 q.2.2.1 = f.slot by simp [Jvm.RoadKit.slotOf, g2]]; exact g7
  have g0 : D.s.heap.size ≤ T.heap.size ∧ T.heap.size ≤ D.s.heap.size + cells := own_growV X
  have g1 : T'.heap.size ≤ D.s.heap.size + (T.heap.size - D.s.heap.size + 1) := (own_growV X').2
  have g2 := Ch.2
  unfold Pot at g2
  obtain ⟨s₂, o, st', r⟩ := k T.heap.size hb T' ⟨vm0, k0, _, X'.more (by show T.heap.size - D.s.heap.size + 1 ≤ _; omega) (Nat.le_refl _), hZ, hown, hS, by rw [e']; exact Nat.le_trans hk E.1, N, ⟨by rw [e']; exact Ch.1.trans (CHr.ext E Ch.1.1), by unfold Pot; omega⟩, by rw [e']; exact H.new Ch.1.1 E hcl hP⟩
  exact ⟨s₂, o, st _ st', r⟩
theorem Go.newarray (hd : Dec B.bytes tb) (i : Nat) {aty : ArrayType} {ty : FieldType} {n : Int32} {cap : Nat} {vs : List Value} (hi : tb[i]? = some (pc, .newarray aty, 2)) (ht : newarray.typeOf aty = ty) (w : (Cond.arrayClass ty).before A.a0 A.Z = true) (hn : 0 ≤ n.toInt) (hcap : n.toInt.toNat ≤ cap) (hb8 : cap * 8 ≤ 536870912)
    (hc : cells + 1 ≤ B.rm.cells) (hl : slots + cap ≤ B.rm.slots) (hv : List.replicate n.toInt.toNat (defaultValue ty) = vs)
    (k : ∀ a : Addr, Go A B D Q (pc + 2) L (.ref a :: rest) ((a, ArrP A ty vs) :: F) G (cells + 1) (slots + cap)) : Go A B D Q pc L (.int n :: rest) F G cells slots := fun hb T hT => by
  subst ht
  obtain ⟨vm0, k0, locs, X, hZ, hown, hS, hk, N, Ch, H⟩ := hT
  obtain ⟨T', h', cA, X', e', E, Ar, st⟩ := newP (own_true X) hb.1 hZ w rfl (g := mkF D.m pc L.toArray (.int n :: rest)) rfl (own_dec hd hb hi) rfl (by rw [Int32.lt_iff_toInt_lt]; have : (0 : Int32).toInt = 0 := rfl; omega) (cap := cap) hcap hb8 (by have g0 : D.s.heap.size ≤ T.heap.size ∧ T.heap.size ≤ D.s.heap.size + cells := own_growV X; show T.heap.size - D.s.heap.size + 1 ≤ _; omega) hl
  have hP : ArrP A (newarray.typeOf aty) vs (newA cA (newarray.typeOf aty) n) := ⟨Ar.2.1, Ar.2.2, by rw [← hv]; simp [newA]⟩
  have g0 : D.s.heap.size ≤ T.heap.size ∧ T.heap.size ≤ D.s.heap.size + cells := own_growV X
  have g1 : T'.heap.size ≤ D.s.heap.size + (T.heap.size - D.s.heap.size + 1) := (own_growV X').2
  have g2 := Ch.2
  unfold Pot at g2
  obtain ⟨s₂, o, st', r⟩ := k T.heap.size hb T' ⟨vm0, k0, _, X'.more (by show T.heap.size - D.s.heap.size + 1 ≤ _; omega) (Nat.le_refl _), hZ, hown, hS, by rw [e']; exact Nat.le_trans hk E.1, N, ⟨by rw [e']; exact Ch.1.trans (CHr.ext E Ch.1.1), by unfold Pot; omega⟩, by rw [e']; exact H.new Ch.1.1 E Ar.1 hP⟩
  exact ⟨s₂, o, st _ st', r⟩
/-- a String's cell, and its bytes' -/
abbrev StrE (A : Ax) (a b : Addr) (cd : Int32) : Ent := (a, ObjP A "java/lang/String" [("java/lang/String", "value", "[B", .ref b), ("java/lang/String", "coder", "B", .int cd)])
abbrev BytE (A : Ax) (b : Addr) (vs : List Value) : Ent := (b, ArrP A .byte vs)
/-- a booked literal's text -/
theorem own_lit {s : State} {vm : Vm} {h : Heap} {own text : String} {ix : Nat} {a : Addr} {vs : List Value} (hZ : A.Z.Warmed39 vm) (hC : CHv A.Z A.EL vm h) (hm : (own, ix) ∈ A.EL) (w : (Cond.stringLink own ix text).before A.a0 A.Z = true) (L : Lit (s.setVm vm) own ix a) (wS : ∀ a ∈ Bundle.stringAtoms, a.before A.a0 A.Z = true)
    (ht : (∀ c ∈ text.toList, c.toNat < 256) ∧ text.toList.map (fun c => Value.int (Jvm.Lit.byteI c.toNat.toUInt16)) = vs) :
    ∃ (b : Addr) (ca cb : Cell), h[a]? = some ca ∧ (StrE A a b 0).2 ca ∧ h[b]? = some cb ∧ (BytE A b vs).2 cb ∧ ∀ x, Safe A.Z A.EL vm h x → x ≠ a ∧ x ≠ b := by
  have w2 : (Cond.stringLink own ix text).before A.a0 (Wst A.Z vm h) = true := mvS (s := { A.Z with heap := h }) hZ w
  have r : ((vm.findClass own).bind fun c => (vm.classes[c]?).bind fun k => (k.resolved[ix]?).join) = some (.string a) := own_res (s := s) ▸ L
  cases h1 : vm.findClass own with
  | none => rw [h1] at r; cases r
  | some c0 =>
    obtain ⟨k0, cf, i, us, hk, hcf, hp, hu, -, htx, -⟩ := Cond.stringLink_spec (s := Wst A.Z vm h) h1 w2
    have hk : vm.classes[c0]? = some k0 := hk
    have hr : k0.resolved[ix]? = some (some (.string a)) := by
      simp only [h1, hk, Option.bind_some] at r
      cases hq : k0.resolved[ix]? with
      | none => rw [hq] at r; cases r
      | some o => rw [hq] at r; cases o with
        | none => cases r
        | some z => simpa using r
    have hB : Booksv vm own ix us a := ⟨c0, k0, cf, i, h1, hk, hcf, hp, hu, Or.inl hr⟩
    obtain ⟨q, rfl, S⟩ := SlB.of (hC _ hm us a hB)
    have far : ∀ x, Safe A.Z A.EL vm h x → x ≠ q.sa ∧ x ≠ q.sd := fun x sx => ⟨fun z => sx ⟨_, hm, us, _, hB, q, rfl, S, Or.inl z⟩, fun z => sx ⟨_, hm, us, _, hB, q, rfl, S, Or.inr z⟩⟩
    obtain ⟨cS, ⟨⟨a1, a2, a3, ⟨v1, v2, v3, v4, -⟩, ⟨d1, d2, d3, d4, -⟩, a6, a7, a8, a9, a10, a11, a12, -⟩, f1, f2⟩, ⟨kS, b1, b2, b3⟩, b4, b5⟩ := S
    have al : A.Z.vm.Alike vm := hZ.alike
    obtain ⟨k5, e4⟩ := ff_back (U := Wst A.Z vm h) al v4
    obtain ⟨k6, e5⟩ := ff_back (U := Wst A.Z vm h) al d4
    have e4 : A.Z.fieldFound? "java/lang/String" "value" "[B" = _ := e4
    have e5 : A.Z.fieldFound? "java/lang/String" "coder" "B" = _ := e5
    have z1 : A.Z.vm.findClass "java/lang/String" = some q.sC.cls := by rw [← al.findClass, f2]; exact f1
    obtain ⟨k7, z2, -⟩ := Vm.findClass_spec z1
    obtain ⟨k8, z3, z4⟩ := al.2.2 _ _ z2
    have z5 : k8 = kS := Option.some.inj (z3.symm.trans (f2 ▸ (show vm.classes[cS]? = some kS from b1)))
    have lay : ∀ nm dd, (Cond.laysFinal "java/lang/String" "java/lang/String" nm dd) ∈ Bundle.stringAtoms → Laid A.Z A.a0 "java/lang/String" "java/lang/String" nm dd := fun nm dd q => Or.inr (wS _ q)
    have y1 : A.Z.vm.findClass "[B" = some q.SA.cls := by rw [← al.findClass]; exact b4
    obtain ⟨k9, y2, -⟩ := Vm.findClass_spec y1
    obtain ⟨k10, y3, y4⟩ := al.2.2 _ _ y2
    obtain ⟨x1, x2, x3, x4, x5⟩ := a11
    have x6 : x2 = k10 := Option.some.inj ((show vm.classes[q.SA.cls]? = some x2 from x3).symm.trans y3)
    refine ⟨q.sd, q.sC, q.SA, a1, ⟨⟨k7, z1, z2, a3, a2, fun _ => by rw [b3, ← z5, z4]⟩, fun p mp => ?_⟩, a10, ⟨⟨x1, k9, y2, x4, by rw [x6, y4] at x5; exact x5⟩, a12, ?_⟩, far⟩
    · rcases List.mem_cons.mp mp with rfl | mp
      · exact ⟨lay "value" "[B" (by simp [Bundle.stringAtoms, Bundle.sN]), ⟨.array .byte, (by decide +kernel : parseFieldDescriptor "[B" = some (.array .byte))⟩, by rw [show Jvm.RoadKit.slotOf A.Z "java/lang/String" "value" "[B" = q.fSV.slot by simp [Jvm.RoadKit.slotOf, e4]]; exact a8⟩
      · rcases List.mem_cons.mp mp with rfl | mp
        · exact ⟨lay "coder" "B" (by simp [Bundle.stringAtoms, Bundle.sN]), ⟨.byte, (by decide +kernel : parseFieldDescriptor "B" = some .byte)⟩, by rw [show Jvm.RoadKit.slotOf A.Z "java/lang/String" "coder" "B" = q.fSC.slot by simp [Jvm.RoadKit.slotOf, e5]]; exact a9⟩
        · cases mp
    · have eu : us.toList.map (fun u => Value.int (Jvm.Lit.byteI u)) = vs := by rw [← ht.2, Jvm.ClassFile.units_of_text htx ht.1, List.map_map]; rfl
      have es : q.SA.slots = us.map fun u => Value.int (Jvm.Lit.byteI u) := by rw [b5, SBG.stringBytes_lat (Jvm.ClassFile.lat_of_text htx ht.1)]; rfl
      rw [es, Array.toList_map]; exact eu
theorem own_wS {s : State} {vm0 : Vm} {a1 : Array Value} (hZ : A.Z.Warmed39 vm0) (wS : ∀ a ∈ Bundle.stringAtoms, a.before A.a0 A.Z = true) : ∀ d ∈ Bundle.stringAtoms, d.before a1 (s.setVm vm0) = true := fun d hd => by
  have q := wS d hd
  simp only [Bundle.stringAtoms, List.mem_cons, List.not_mem_nil, or_false] at hd
  rcases hd with rfl | rfl | rfl | rfl | rfl | rfl | rfl
  · exact mv (s := s.setVm vm0) hZ q
  · exact mv (s := s.setVm vm0) hZ q
  · exact mvA (s := s.setVm vm0) hZ q
  · exact mv (s := s.setVm vm0) hZ q
  · exact mv (s := s.setVm vm0) hZ q
  · exact mv (s := s.setVm vm0) hZ q
  · exact mv (s := s.setVm vm0) hZ q
/-- ldc of a constant that may be open -/
theorem own_ldc (hd : Dec B.bytes tb) (i : Nat) {ix n : Nat} {text : String} (hi : tb[i]? = some (pc, .ldc ix, 2)) (w : (Cond.stringLink B.y.cls ix text).before A.a0 A.Z = true) (wS : ∀ a ∈ Bundle.stringAtoms, a.before A.a0 A.Z = true) (hb : Bdy A B D) {T : State} {vm0 : Vm} {k0 : Nat} {locs : List Loc} (X : Stand D.p A.l D.e B.rm (D.s.setVm vm0) D.m D.args D.below D.meth D.c T locs cells slots) (hZ : A.Z.Warmed39 vm0) (hown : vm0.findClass B.y.cls = some D.m.cls) (hS : D.s.Since vm0 k0) (hk : k0 ≤ T.heap.size) (Ch : CHv A.Z A.EL vm0 T.heap)
    (hn : 4 * text.toList.length ≤ n) (hbig : n ≤ 536870912) (hc : T.heap.size - D.s.heap.size + 2 ≤ B.rm.cells) (hl : slots + (n + 4) ≤ B.rm.slots) :
    ∃ (a : Addr) (T' : State) (k1 : Nat), Stand D.p A.l D.e B.rm (D.s.setVm T'.vm) D.m D.args D.below D.meth D.c T' locs (T.heap.size - D.s.heap.size + 2) (slots + (n + 4)) ∧ Ext T.heap T'.heap ∧ D.s.Since T'.vm k1 ∧ k1 ≤ T'.heap.size ∧ A.Z.Warmed39 T'.vm ∧ (A.Z.setVm vm0).Warmed39 T'.vm ∧ T'.vm.findClass B.y.cls = some D.m.cls ∧ CHr A.Z A.EL vm0 T.heap T'.vm T'.heap ∧ Lit (D.s.setVm T'.vm) B.y.cls ix a ∧
      ∀ target, Steps D.p.tables D.e D.below (T'.setTop (mkF D.m (pc + 2) L.toArray (.ref a :: S))) target → Steps D.p.tables D.e D.below (T.setTop (mkF D.m pc L.toArray S)) target := by
  have hEL : EW (A.Z.setVm vm0) A.a0 A.EL := fun p m => by
    obtain ⟨t, h1, h2⟩ := hb.2.2.2.2.2.2 p m
    exact ⟨t, mvS (s := A.Z.setVm vm0) hZ h1, h2⟩
  obtain ⟨a, T', h', k1, X', e', E, hS', hk', hZ', hown', C', hL, st⟩ := ldcOH (Z := A.Z.setVm vm0) (a0 := A.a0) (EL := A.EL) (own_true X) hb.1 (State.Warmed39.refl _) hown (mvS (s := A.Z.setVm vm0) hZ w) (own_wS hZ wS) rfl hS hk hEL Ch (g := mkF D.m pc L.toArray S) rfl (own_dec hd hb hi) hn hbig hc hl
  subst e'
  exact ⟨a, T', k1, X', E, hS', hk', State.Warmed39.trans (t := A.Z.setVm vm0) hZ hZ', hZ', hown', C', hL, st⟩
theorem own_litHp {vm : Vm} {h : Heap} {a b : Addr} {ca cb : Cell} {vs : List Value} (H : Hp A.Z A.EL vm h F G) (e1 : h[a]? = some ca) (p1 : (StrE A a b 0).2 ca) (e2 : h[b]? = some cb) (p2 : (BytE A b vs).2 cb) (far : ∀ x, Safe A.Z A.EL vm h x → x ≠ a ∧ x ≠ b) : Hp A.Z A.EL vm h F (StrE A a b 0 :: BytE A b vs :: G) := by
  obtain ⟨h1, h2, h3, h4, h5⟩ := H
  refine ⟨h1, h2, fun q m => ?_, h4, fun q m => ⟨(h5 q m).1, (h5 q m).2.1, fun r kk => ?_⟩⟩
  · rcases List.mem_cons.mp m with rfl | m
    · exact ⟨ca, e1, p1⟩
    · rcases List.mem_cons.mp m with rfl | m
      · exact ⟨cb, e2, p2⟩
      · exact h3 q m
  · have := far q.1 (h5 q m).2.1
    rcases List.mem_cons.mp kk with rfl | kk
    · exact Ne.symm this.1
    · rcases List.mem_cons.mp kk with rfl | kk
      · exact Ne.symm this.2
      · exact (h5 q m).2.2 r kk
theorem Go.ldcS (hd : Dec B.bytes tb) (i : Nat) {ix n : Nat} {text : String} {vs : List Value} (hi : tb[i]? = some (pc, .ldc ix, 2)) (w : (Cond.stringLink B.y.cls ix text).before A.a0 A.Z = true) (wS : ∀ a ∈ Bundle.stringAtoms, a.before A.a0 A.Z = true) (hm : (B.y.cls, ix) ∈ A.EL) (hwm : A.wm = true)
    (ht : (∀ c ∈ text.toList, c.toNat < 256) ∧ text.toList.map (fun c => Value.int (Jvm.Lit.byteI c.toNat.toUInt16)) = vs) (hlen : vs.length < 2 ^ 31) (hn : 4 * text.toList.length ≤ n) (hbig : n ≤ 536870912) (hc : cells + 2 ≤ B.rm.cells) (hl : slots + (n + 4) ≤ B.rm.slots)
    (k : ∀ a b : Addr, Go A B D Q (pc + 2) L (.ref a :: S) F (StrE A a b 0 :: BytE A b vs :: G) (cells + 2) (slots + (n + 4))) : Go A B D Q pc L S F G cells slots := fun hb T hT => by
  obtain ⟨vm0, k0, locs, X, hZ, hown, hS, hk, N, Ch, H⟩ := hT
  have g0 : D.s.heap.size ≤ T.heap.size ∧ T.heap.size ≤ D.s.heap.size + cells := own_growV X
  obtain ⟨a, T', k1, X', E, hS', hk', hZ', hW, hown', C', hL, st⟩ := own_ldc (L := L) (S := S) hd i hi w wS hb X hZ hown hS hk Ch.1.1 hn hbig (by omega) hl
  obtain ⟨b, ca, cb, e1, p1, e2, p2, far⟩ := own_lit hZ' C'.1 hm w hL wS ht
  have g1 : T'.heap.size ≤ D.s.heap.size + (T.heap.size - D.s.heap.size + 2) := (own_growV X').2
  have hU := own_U_mono hW
  have hP := Ch.2
  obtain ⟨s₂, o, st', r⟩ := k a b hb T' ⟨T'.vm, k1, locs, X'.more (by omega) (Nat.le_refl _), hZ', hown', hS', hk', ⟨N.1, fun z => by rw [hwm] at z; cases z⟩, ⟨Ch.1.trans C', by unfold Pot at hP ⊢; omega⟩, own_litHp (H.later C' E) e1 p1 e2 p2 far⟩
  exact ⟨s₂, o, st _ st', r⟩
/-- a literal that is booked already -/
theorem Go.ldcP (hd : Dec B.bytes tb) (i : Nat) {ix n : Nat} {text : String} {vs : List Value} (hi : tb[i]? = some (pc, .ldc ix, 2)) (w : (Cond.stringLink B.y.cls ix text).before A.a0 A.Z = true) (wS : ∀ a ∈ Bundle.stringAtoms, a.before A.a0 A.Z = true) (hm : (B.y.cls, ix) ∈ A.EL) (hwm : A.wm = true) (hfl : B.fl = true) (hLL : (B.y.cls, ix) ∈ own_LL)
    (ht : (∀ c ∈ text.toList, c.toNat < 256) ∧ text.toList.map (fun c => Value.int (Jvm.Lit.byteI c.toNat.toUInt16)) = vs) (hn : 4 * text.toList.length ≤ n) (hbig : n ≤ 536870912) (hc : cells ≤ B.rm.cells) (hl : slots + (n + 4) ≤ B.rm.slots)
    (k : ∀ a b : Addr, Go A B D Q (pc + 2) L (.ref a :: S) F (StrE A a b 0 :: BytE A b vs :: G) cells (slots + (n + 4))) : Go A B D Q pc L S F G cells slots := fun hb T hT => by
  obtain ⟨vm0, k0, locs, X, hZ, hown, hS, hk, N, Ch, H⟩ := hT
  have hP := Ch.2
  unfold Pot at hP
  rw [hfl] at hP
  have hU0 := own_U_le D.s.vm
  simp only [pbk] at hP
  rcases own_u_or D.s vm0 (B.y.cls, ix) with hu | ⟨a, hL⟩
  · have g0 : D.s.heap.size ≤ T.heap.size ∧ T.heap.size ≤ D.s.heap.size + cells := own_growV X
    have hV : 2 ≤ own_U vm0 := by
      have : ∀ l : List (String × Nat), (B.y.cls, ix) ∈ l → 2 ≤ own_Ul vm0 l := fun l => by
        induction l with
        | nil => intro m; cases m
        | cons p l ih =>
          intro m
          simp only [own_Ul, List.map_cons, List.sum_cons] at ih ⊢
          rcases List.mem_cons.mp m with rfl | m
          · rw [hu]; omega
          · have := ih m; omega
      exact this _ hLL
    obtain ⟨a, T', k1, X', E, hS', hk', hZ', hW, hown', C', hL, st⟩ := own_ldc (L := L) (S := S) hd i hi w wS hb X hZ hown hS hk Ch.1.1 hn hbig (by omega) hl
    obtain ⟨b, ca, cb, e1, p1, e2, p2, far⟩ := own_lit hZ' C'.1 hm w hL wS ht
    have g1 : T'.heap.size ≤ D.s.heap.size + (T.heap.size - D.s.heap.size + 2) := (own_growV X').2
    have hU : own_U T'.vm + 2 ≤ own_U vm0 := own_Ul_drop hW hu (own_u_lit (s := D.s) hL) _ hLL
    obtain ⟨s₂, o, st', r⟩ := k a b hb T' ⟨T'.vm, k1, locs, X'.more (by omega) (Nat.le_refl _), hZ', hown', hS', hk', ⟨N.1, fun z => by rw [hwm] at z; cases z⟩, ⟨Ch.1.trans C', by unfold Pot; rw [hfl]; simp only [pbk]; omega⟩, own_litHp (H.later C' E) e1 p1 e2 p2 far⟩
    exact ⟨s₂, o, st _ st', r⟩
  · have st := ldcAgain X hb.1 hZ hown w hL (g := mkF D.m pc L.toArray S) rfl (own_dec hd hb hi)
    obtain ⟨b, ca, cb, e1, p1, e2, p2, far⟩ := own_lit hZ Ch.1.1 hm w hL wS ht
    obtain ⟨s₂, o, st', r⟩ := k a b hb T ⟨vm0, k0, locs, X.more (Nat.le_refl _) (Nat.le_add_right _ _), hZ, hown, hS, hk, N, Ch, own_litHp H e1 p1 e2 p2 far⟩
    exact ⟨s₂, o, st _ st', r⟩
theorem own_subS {q : Ent} {G0 G1 : List Ent} (h : q ∈ G1) (r : ∀ x ∈ G0, x ∈ G1) : ∀ x ∈ q :: G0, x ∈ G1 := fun x m => by
  rcases List.mem_cons.mp m with rfl | m
  · exact h
  · exact r x m
/-! calls -/
theorem own_back {B' : Bx} {as' : Array Value} {Qc : Pst} {len W : Nat} {vm0 : Vm} {h : Heap} (hM : Met A B' as' F G Qc) (hEL : EW A.Z A.a0 A.EL) (hZ : A.Z.Warmed39 vm0) (C : CHv A.Z A.EL vm0 h) (H : Hp A.Z A.EL vm0 h F G) (wc : (Cond.code B'.y B'.bytes B'.maxL B'.ret).before A.a0 A.Z = true) (wz : (Cond.initialized B'.y.cls).before A.a0 A.Z = true)
    (hf : B'.rm.frames + 1 ≤ B.rm.frames) (hl : W + (B'.maxL + 11) + B'.rm.locals ≤ B.rm.locals) :
    BackS A.l B.rm D.p D.e D.below (D.s.setVm vm0) D.args B'.y len W (fun X a => a = as' ∧ X.U.heap = h ∧ X.cells + B'.rm.cells ≤ B.rm.cells ∧ X.slots + B'.rm.slots ≤ B.rm.slots)
      (fun X _ v Y => ∃ L F' G', Qc v F' G' ∧ Hp A.Z A.EL Y.U.vm Y.U.heap F' G' ∧ (Fr A.Z.heap.size L ∧ (A.wm = false → X.U.WarmedH Y.U.vm)) ∧ Y.locs = X.locs ++ L ∧ Y.cells = X.cells + B'.rm.cells ∧ Y.slots = X.slots + B'.rm.slots ∧ CHr A.Z A.EL vm0 h Y.U.vm Y.U.heap ∧ Pot B'.fl B'.rm.cells vm0 h Y.U.vm Y.U.heap) :=
  BackS.of_freeW (bytes := B'.bytes) (maxL := B'.maxL) (ret := B'.ret)
    (E := fun _ first o t L kc ks => kc = B'.rm.cells ∧ ks = B'.rm.slots ∧ (∃ v F' G', o = .returned v ∧ Qc v F' G' ∧ Hp A.Z A.EL t.vm t.heap F' G') ∧ (Fr A.Z.heap.size L ∧ (A.wm = false → first.WarmedH t.vm)) ∧ CHr A.Z A.EL first.vm first.heap t.vm t.heap ∧ Pot B'.fl B'.rm.cells first.vm first.heap t.vm t.heap) hM hf hl
    (fun m meth c X a Y hp => have hU : A.Z.Warmed39 X.U.vm := wtrans (s := D.s.setVm vm0) hZ Y.warmed
      ⟨by show (Cond.and _ .tt).before a X.U = true; rw [Cond.before_and, mv hU wc]; rfl, mv hU wc, mv hU wz, hp.2.2.1, hp.2.2.2⟩)
    (fun m meth c X a g mk Y hp => have Q1 := CHv.at Y hZ hEL C
      ⟨hp.1, wtrans (s := D.s.setVm vm0) hZ Y.warmed, by show CHv A.Z A.EL X.U.vm X.U.heap; rw [hp.2.1]; exact Q1.1, by show Hp A.Z A.EL X.U.vm X.U.heap F G; rw [hp.2.1]; exact H.later Q1 (own_ext_refl _)⟩)
    (fun _ _ _ _ _ _ _ _ _ => trivial)
    (fun _ _ _ _ ⟨v, L, F', G', h1, h2, h3, h4, h5, h6⟩ => ⟨L, _, _, h6, rfl, rfl, ⟨v, F', G', h1, h2, h3⟩, h4, h5⟩)
    (fun m meth c X a g mk v t L kc ks Y hp _ _ ⟨e1, e2, ⟨v', F', G', e3, e4, e5⟩, e6, e7⟩ => by
      cases e3; subst e1 e2
      refine ⟨L, F', G', e4, e5, e6, rfl, rfl, rfl, (CHv.at Y hZ hEL C).trans ?_, ?_⟩
      · rw [← hp.2.1]; exact e7.1
      · have q := e7.2
        have u : own_U X.U.vm ≤ own_U vm0 := own_U_mono (s := D.s) Y.warmed.wide
        unfold Pot at q ⊢
        have hh : X.U.heap.size = h.size := by rw [hp.2.1]
        have q : t.heap.size + own_U t.vm + pbk B'.fl ≤ X.U.heap.size + own_U X.U.vm + B'.rm.cells := q
        show t.heap.size + own_U t.vm + pbk B'.fl ≤ h.size + own_U vm0 + B'.rm.cells
        omega)
/-- behind a call -/
theorem own_after {B' : Bx} {Qc : Pst} {U0 : State} {pc1 : Nat} {vm0 : Vm} {k0 : Nat} {locs : List Loc} {T : State} {v : Option Value} {P : Pt} (k : ∀ v F' G', Qc v F' G' → Go A B D Q pc1 L (v.toList ++ rest) F' G' (cells + (B'.rm.cells - pgive B.fl B'.fl)) (slots + B'.rm.slots)) (hb : Bdy A B D) (hZ : A.Z.Warmed39 vm0) (hown : vm0.findClass B.y.cls = some D.m.cls) (hS : D.s.Since vm0 k0) (hk : k0 ≤ T.heap.size) (N : Fr A.Z.heap.size locs ∧ (A.wm = false → D.s.WarmedH vm0)) (hU0 : (D.s.setVm vm0).WarmedH U0.vm) (C : CHr A.Z A.EL D.s.vm D.s.heap vm0 T.heap ∧ Pot B.fl cells D.s.vm D.s.heap vm0 T.heap)
    (X' : Stand D.p A.l D.e B.rm ((D.s.setVm vm0).setVm P.U.vm) D.m D.args D.below D.meth D.c P.U P.locs P.cells P.slots) (hS2 : (D.s.setVm vm0).Since P.U.vm P.U.heap.size) (hg : T.heap.size ≤ P.U.heap.size)
    (hp : ∃ L F' G', Qc v F' G' ∧ Hp A.Z A.EL P.U.vm P.U.heap F' G' ∧ (Fr A.Z.heap.size L ∧ (A.wm = false → U0.WarmedH P.U.vm)) ∧ P.locs = locs ++ L ∧ P.cells = cells + B'.rm.cells ∧ P.slots = slots + B'.rm.slots ∧ CHr A.Z A.EL vm0 T.heap P.U.vm P.U.heap ∧ Pot B'.fl B'.rm.cells vm0 T.heap P.U.vm P.U.heap)
    (hsteps : Steps D.p.tables D.e D.below (T.setTop (mkF D.m pc L.toArray S)) (P.U.setTop (mkF D.m pc1 L.toArray (v.toList ++ rest)))) :
    ∃ s₂ o, Steps D.p.tables D.e D.below (T.setTop (mkF D.m pc L.toArray S)) s₂ ∧ s₂.status = .running ∧ Ended s₂ D.below o ∧ Fin A B D.below D.s Q o s₂ := by
  obtain ⟨L1, F', G', hq, H', N1, e1, e2, e3, C1, C2⟩ := hp
  obtain ⟨U, Ls, cc, ss⟩ := P
  dsimp only [Pt.U, Pt.locs, Pt.cells, Pt.slots] at *
  subst e1 e2 e3
  have key : Stand D.p A.l D.e B.rm ((D.s.setVm vm0).setVm U.vm) D.m D.args D.below D.meth D.c U (locs ++ L1) (cells + (B'.rm.cells - pgive B.fl B'.fl)) (slots + B'.rm.slots) ∧ Pot B.fl (cells + (B'.rm.cells - pgive B.fl B'.fl)) D.s.vm D.s.heap U.vm U.heap := by
    have c1 := C.2
    have u0 := own_U_le D.s.vm
    have g1 : D.s.heap.size ≤ U.heap.size ∧ U.heap.size ≤ D.s.heap.size + (cells + B'.rm.cells) := own_growW X'
    unfold Pot at c1 C2 ⊢
    generalize B'.fl = f' at *
    generalize B.fl = f at *
    cases f <;> cases f' <;> simp only [pbk, pgive] at *
    · exact ⟨X'.more (by omega) (Nat.le_refl _), by omega⟩
    · exact ⟨X'.more (by omega) (Nat.le_refl _), by omega⟩
    · exact ⟨X'.more (by omega) (Nat.le_refl _), by omega⟩
    · exact ⟨(own_true X').more (by show U.heap.size - D.s.heap.size ≤ _; omega) (Nat.le_refl _), by omega⟩
  obtain ⟨s₂, o, st', r⟩ := k v F' G' hq hb U ⟨U.vm, U.heap.size, _, key.1, State.Warmed39.trans (t := D.s.setVm vm0) hZ hS2.1, by rw [hS2.1.alike.findClass]; exact hown, hS.trans hS2 (Nat.le_trans hk hg), Nat.le_refl _, ⟨N.1.app N1.1, fun z => State.WarmedH.trans (t := D.s.setVm vm0) (N.2 z) (State.WarmedH.trans hU0 (N1.2 z))⟩, ⟨C.1.trans C1, key.2⟩, H'⟩
  exact ⟨s₂, o, hsteps.trans st', r⟩
theorem Go.callS (hd : Dec B.bytes tb) (i : Nat) {ix W : Nat} {B' : Bx} {argsL : List Value} {as' : Array Value} {Qc : Pst} {ps : List FieldType} {rt : Option FieldType} (hi : tb[i]? = some (pc, .invokestatic ix, 3)) (hM : Met A B' as' F G Qc) (w1 : (Cond.methodLink B.y.cls ix B'.y).before A.a0 A.Z = true) (w2 : (Cond.static B'.y).before A.a0 A.Z = true) (wz : (Cond.initialized B'.y.cls).before A.a0 A.Z = true) (wc : (Cond.code B'.y B'.bytes B'.maxL B'.ret).before A.a0 A.Z = true)
    (hy : B'.y.cls ≠ "java/lang/invoke/MethodHandle" ∧ B'.y.cls ≠ "java/lang/invoke/VarHandle") (hds : parseMethodDescriptor B'.y.desc = some ⟨ps, rt⟩) (has : argsL.toArray = as') (hlen : argsL.length = ps.length) (hstk : S = argsL.reverse ++ rest) (hL : L.length = B.maxL) (hW : (rest.map fun v => v.category).sum ≤ W)
    (hf : B'.rm.frames + 1 ≤ B.rm.frames) (hl : W + (B'.maxL + 11) + B'.rm.locals ≤ B.rm.locals) (hc : cells + B'.rm.cells ≤ B.rm.cells) (hs : slots + B'.rm.slots ≤ B.rm.slots)
    (k : ∀ v F' G', Qc v F' G' → Go A B D Q (pc + 3) L (v.toList ++ rest) F' G' (cells + (B'.rm.cells - pgive B.fl B'.fl)) (slots + B'.rm.slots)) : Go A B D Q pc L S F G cells slots := fun hb T hT => by
  subst hstk
  obtain ⟨vm0, k0, locs, X, hZ, hown, hS, hk, N, Ch, H⟩ := hT
  obtain ⟨v, vm1, P, hU0, X', hS2, hg, hp, hsteps⟩ := callSS X hb.1 hown (mv (s := D.s.setVm vm0) hZ w1) (mv (s := D.s.setVm vm0) hZ w2) (mv (s := D.s.setVm vm0) hZ wz) (mv (s := D.s.setVm vm0) hZ wc) hy (own_back (W := W) hM hb.2.2.2.2.2.2 hZ Ch.1.1 H wc wz hf hl) (g := mkF D.m pc L.toArray (argsL.reverse ++ rest)) rfl (by rw [hb.2.2.1, ← hL]; simp)
    (lenOf hds hlen) rfl (by show 2 * 0 + _ ≤ _; omega) (own_dec hd hb hi) (fun _ _ => ⟨has, rfl, hc, hs⟩)
  exact own_after (U0 := T.setVm vm1) k hb hZ hown hS hk N hU0 Ch X' hS2 hg hp hsteps
theorem Go.callN (hd : Dec B.bytes tb) (i : Nat) {ix W : Nat} {B' : Bx} {a : Addr} {argsL : List Value} {as' : Array Value} {Qc : Pst} {ps : List FieldType} {rt : Option FieldType} (hi : tb[i]? = some (pc, .invokespecial ix, 3)) (hM : Met A B' as' F G Qc) (hy1 : B'.y.name = "<init>") (hr : B'.ret = none) (w1 : (Cond.methodLink B.y.cls ix B'.y).before A.a0 A.Z = true) (w2 : (Cond.instanceMethod B'.y).before A.a0 A.Z = true) (wz : (Cond.initialized B'.y.cls).before A.a0 A.Z = true) (wc : (Cond.code B'.y B'.bytes B'.maxL B'.ret).before A.a0 A.Z = true)
    (hy : B'.y.cls ≠ "java/lang/invoke/MethodHandle" ∧ B'.y.cls ≠ "java/lang/invoke/VarHandle") (hds : parseMethodDescriptor B'.y.desc = some ⟨ps, rt⟩) (has : (Value.ref a :: argsL).toArray = as') (hlen : argsL.length = ps.length) (hstk : S = argsL.reverse ++ .ref a :: rest) (hL : L.length = B.maxL) (hW : (rest.map fun v => v.category).sum ≤ W)
    (hf : B'.rm.frames + 1 ≤ B.rm.frames) (hl : W + (B'.maxL + 11) + B'.rm.locals ≤ B.rm.locals) (hc : cells + B'.rm.cells ≤ B.rm.cells) (hs : slots + B'.rm.slots ≤ B.rm.slots)
    (k : ∀ v F' G', Qc v F' G' → Go A B D Q (pc + 3) L (v.toList ++ rest) F' G' (cells + (B'.rm.cells - pgive B.fl B'.fl)) (slots + B'.rm.slots)) : Go A B D Q pc L S F G cells slots := fun hb T hT => by
  subst hstk
  obtain ⟨vm0, k0, locs, X, hZ, hown, hS, hk, N, Ch, H⟩ := hT
  obtain ⟨v, vm1, P, hU0, X', hS2, hg, hp, hsteps⟩ := X.specialBackS hb.1 hy1 hown (mv (s := D.s.setVm vm0) hZ w1) (mv (s := D.s.setVm vm0) hZ w2) (bytes := B'.bytes) (maxL := B'.maxL) (by rw [← hr]; exact mv (s := D.s.setVm vm0) hZ wc) hy (own_back (W := W) hM hb.2.2.2.2.2.2 hZ Ch.1.1 H wc wz hf hl) (g := mkF D.m pc L.toArray (argsL.reverse ++ .ref a :: rest)) rfl (by rw [hb.2.2.1, ← hL]; simp) (Steps.refl _)
    (lenOf hds hlen) rfl (by show 2 * 0 + _ ≤ _; omega) (own_dec hd hb hi) (fun _ _ => ⟨has, rfl, hc, hs⟩)
  exact own_after (U0 := T.setVm vm1) k hb hZ hown hS hk N hU0 Ch X' hS2 hg hp hsteps
theorem ClP.isOf {vm0 : Vm} {T : State} {c : Cell} {a : Addr} {C : String} (hZ : A.Z.Warmed39 vm0) (P : ClP A.Z C c) (e : T.heap[a]? = some c) : ∃ cB kB, (D.s.setVm vm0).vm.findClass C = some cB ∧ (D.s.setVm vm0).vm.classes[cB]? = some kB ∧ IsOf cB T a := Jvm.RoadKit.isOf (s := D.s.setVm vm0) hZ rfl (P.exa e)
theorem Go.callV (hd : Dec B.bytes tb) (i : Nat) {ix W : Nat} {B' : Bx} {y : MethodName} {C : String} {a : Addr} {argsL : List Value} {as' : Array Value} {Qc : Pst} {P : Cell → Prop} {ps : List FieldType} {rt : Option FieldType} (hi : tb[i]? = some (pc, .invokevirtual ix, 3)) (hM : Met A B' as' F G Qc) (m : (a, P) ∈ F ∨ (a, P) ∈ G) (hP : ∀ c, P c → ClP A.Z C c)
    (w1 : (Cond.methodLink B.y.cls ix y).before A.a0 A.Z = true) (w2 : (Cond.declares y).before A.a0 A.Z = true) (w3 : (Cond.instanceMethod B'.y).before A.a0 A.Z = true) (w4 : (Cond.selects C y B'.y).before A.a0 A.Z = true) (w5 : (Cond.selects C y y).before A.a0 A.Z = true) (wz : (Cond.initialized B'.y.cls).before A.a0 A.Z = true) (wc : (Cond.code B'.y B'.bytes B'.maxL B'.ret).before A.a0 A.Z = true)
    (hy : y.cls ≠ "java/lang/invoke/MethodHandle" ∧ y.cls ≠ "java/lang/invoke/VarHandle") (hds : parseMethodDescriptor y.desc = some ⟨ps, rt⟩) (has : (Value.ref a :: argsL).toArray = as') (hlen : argsL.length = ps.length) (hstk : S = argsL.reverse ++ .ref a :: rest) (hL : L.length = B.maxL) (hW : (rest.map fun v => v.category).sum ≤ W)
    (hf : B'.rm.frames + 1 ≤ B.rm.frames) (hl : W + (B'.maxL + 11) + B'.rm.locals ≤ B.rm.locals) (hc : cells + B'.rm.cells ≤ B.rm.cells) (hs : slots + B'.rm.slots ≤ B.rm.slots)
    (k : ∀ v F' G', Qc v F' G' → Go A B D Q (pc + 3) L (v.toList ++ rest) F' G' (cells + (B'.rm.cells - pgive B.fl B'.fl)) (slots + B'.rm.slots)) : Go A B D Q pc L S F G cells slots := fun hb T hT => by
  subst hstk
  obtain ⟨vm0, k0, locs, X, hZ, hown, hS, hk, N, Ch, H⟩ := hT
  obtain ⟨c, e, hp0⟩ := H.at m
  obtain ⟨cB, kB, q1, q2, q3⟩ := (hP c hp0).isOf (A := A) (D := D) hZ e
  obtain ⟨v, vm1, P, hU0, X', hS2, hg, hp, hsteps⟩ := X.virtualBackS hb.1 hown (mv (s := D.s.setVm vm0) hZ w1) (mv (s := D.s.setVm vm0) hZ w2) (notFace_of_selects (args := #[]) (mv (s := D.s.setVm vm0) hZ w5)) (mv (s := D.s.setVm vm0) hZ w4) (mv (s := D.s.setVm vm0) hZ w3) hy (own_back (W := W) hM hb.2.2.2.2.2.2 hZ Ch.1.1 H wc wz hf hl) q1 q3 (g := mkF D.m pc L.toArray (argsL.reverse ++ .ref a :: rest)) rfl (by rw [hb.2.2.1, ← hL]; simp) (Steps.refl _)
    (lenOf hds hlen) rfl (by show 2 * 0 + _ ≤ _; omega) (own_dec hd hb hi) (fun _ _ => ⟨has, rfl, hc, hs⟩)
  exact own_after (U0 := T.setVm vm1) k hb hZ hown hS hk N hU0 Ch X' hS2 hg hp hsteps
theorem Go.initObject (hd : Dec B.bytes tb) (i : Nat) {ix W : Nat} {a : Addr} (hi : tb[i]? = some (pc, .invokespecial ix, 3)) (w1 : (Cond.methodLink B.y.cls ix Lib.objectInit).before A.a0 A.Z = true) (w2 : (Cond.instanceMethod Lib.objectInit).before A.a0 A.Z = true) (w3 : (Cond.code Lib.objectInit ⟨#[0xb1]⟩ 1 none).before A.a0 A.Z = true)
    (hL : L.length = B.maxL) (hf : 1 ≤ B.rm.frames) (hW : (rest.map fun v => v.category).sum ≤ W) (hl : W + 12 ≤ B.rm.locals) (k : Go A B D Q (pc + 3) L rest F G cells slots) : Go A B D Q pc L (.ref a :: rest) F G cells slots :=
  Go.stay (fun hb T vm0 locs X hZ hown H => by
    obtain ⟨T', X', e', st⟩ := initO X hb.1 hZ hown w1 w2 w3 rfl (g := mkF D.m pc L.toArray (.ref a :: rest)) rfl (by rw [hb.2.2.1, ← hL]; simp) rfl (own_dec hd hb hi) hf (W := W) (by show 2 * 0 + _ ≤ _; omega) hl
    exact ⟨T', X', e', st⟩) k
/-! the end -/
theorem own_leave {T : State} {v : Option Value} (hb : Bdy A B D) (hT : St A B D T F G cells slots) (hv : B.ret = none → v = none) (hq : Q v F G) (hc : cells ≤ B.rm.cells) (hs : slots ≤ B.rm.slots)
    (h : ∀ (vm0 : Vm) (locs : List Loc) (fs : List Frame), Stand D.p A.l D.e B.rm (D.s.setVm vm0) D.m D.args D.below D.meth D.c T locs cells slots → (∀ (f : JFrame) (acts : List Action), f.method = D.m → f.locked = none → f.entered = [] → (doReturn D.e (T.setTop f) acts v).1 = T.setFrames fs) → Steps D.p.tables D.e D.below (T.setTop (mkF D.m pc L.toArray S)) (T.setFrames fs)) :
    ∃ s₂ o, Steps D.p.tables D.e D.below (T.setTop (mkF D.m pc L.toArray S)) s₂ ∧ s₂.status = .running ∧ Ended s₂ D.below o ∧ Fin A B D.below D.s Q o s₂ := by
  obtain ⟨vm0, k0, locs, X, hZ, hown, hS, hk, N, Ch, H⟩ := hT
  have hlk : D.meth.locks = false := hb.2.2.2.2.2.1
  obtain ⟨fs, h1, h2, h3, h4⟩ := (X.more hc hs).leaveW hS hk (v := v) (fun z => hv (hb.2.2.2.1 ▸ z)) hlk
  have C2 := CHv.at X hZ hb.2.2.2.2.2.2 Ch.1.1
  have u2 : own_U T.vm ≤ own_U vm0 := own_U_mono (s := D.s) X.warmed.wide
  have c1 := Ch.2
  unfold Pot at c1
  exact ⟨_, _, h vm0 locs fs X h1, h2, h3, v, locs, F, G, rfl, hq, H.later C2 (own_ext_refl _), ⟨N.1, fun z => State.WarmedH.trans (t := D.s.setVm vm0) (N.2 z) X.warmed⟩, ⟨Ch.1.trans C2, by unfold Pot; show T.heap.size + own_U T.vm + pbk B.fl ≤ D.s.heap.size + own_U D.s.vm + B.rm.cells; omega⟩, h4⟩
theorem Go.ret (hd : Dec B.bytes tb) (i : Nat) {ins : Instr} {w : Value} {t : FieldType} (hi : tb[i]? = some (pc, ins, 1)) (hr : B.ret = some t) (hn : narrow t w = w)
    (hk : (ins = .ireturn ∧ (t = .int ∨ t = .boolean ∨ t = .byte ∨ t = .char ∨ t = .short) ∧ ∃ z, w = .int z) ∨ (ins = .lreturn ∧ t = .long ∧ ∃ z, w = .long z) ∨ (ins = .dreturn ∧ t = .double ∧ ∃ z, w = .double z) ∨ (ins = .freturn ∧ t = .float ∧ ∃ z, w = .float z) ∨ (ins = .areturn ∧ t.isReference = true ∧ w.isRef = true))
    (hq : Q (some w) F G) (hc : cells ≤ B.rm.cells) (hs : slots ≤ B.rm.slots) : Go A B D Q pc L (w :: rest) F G cells slots := fun hb T hT =>
  own_leave hb hT (fun z => by rw [hr] at z; cases z) hq hc hs fun vm0 locs fs X hl => retOut X hb.1 (hb.2.2.2.1.trans hr) hn hk (own_dec hd hb hi) hl
theorem Go.retI (hd : Dec B.bytes tb) (i : Nat) {z : Int32} (hi : tb[i]? = some (pc, .ireturn, 1)) (hr : B.ret = some .int) (hq : Q (some (.int z)) F G) (hc : cells ≤ B.rm.cells) (hs : slots ≤ B.rm.slots) : Go A B D Q pc L (.int z :: rest) F G cells slots :=
  Go.ret hd i hi hr rfl (Or.inl ⟨rfl, Or.inl rfl, z, rfl⟩) hq hc hs
theorem Go.retZ (hd : Dec B.bytes tb) (i : Nat) {z : Int32} (hi : tb[i]? = some (pc, .ireturn, 1)) (hr : B.ret = some .boolean) (hz : z &&& 1 = z) (hq : Q (some (.int z)) F G) (hc : cells ≤ B.rm.cells) (hs : slots ≤ B.rm.slots) : Go A B D Q pc L (.int z :: rest) F G cells slots :=
  Go.ret hd i hi hr (by show Value.int (z &&& 1) = _; rw [hz]) (Or.inl ⟨rfl, Or.inr (Or.inl rfl), z, rfl⟩) hq hc hs
theorem Go.retC (hd : Dec B.bytes tb) (i : Nat) {z : Int32} (hi : tb[i]? = some (pc, .ireturn, 1)) (hr : B.ret = some .char) (hz : chr16 z = z) (hq : Q (some (.int z)) F G) (hc : cells ≤ B.rm.cells) (hs : slots ≤ B.rm.slots) : Go A B D Q pc L (.int z :: rest) F G cells slots :=
  Go.ret hd i hi hr (by show Value.int (chr16 z) = _; rw [hz]) (Or.inl ⟨rfl, Or.inr (Or.inr (Or.inr (Or.inl rfl))), z, rfl⟩) hq hc hs
theorem Go.retB (hd : Dec B.bytes tb) (i : Nat) {z : Int32} (hi : tb[i]? = some (pc, .ireturn, 1)) (hr : B.ret = some .byte) (hz : byt8 z = z) (hq : Q (some (.int z)) F G) (hc : cells ≤ B.rm.cells) (hs : slots ≤ B.rm.slots) : Go A B D Q pc L (.int z :: rest) F G cells slots :=
  Go.ret hd i hi hr (by show Value.int (byt8 z) = _; rw [hz]) (Or.inl ⟨rfl, Or.inr (Or.inr (Or.inl rfl)), z, rfl⟩) hq hc hs
theorem Go.retJ (hd : Dec B.bytes tb) (i : Nat) {z : Int64} (hi : tb[i]? = some (pc, .lreturn, 1)) (hr : B.ret = some .long) (hq : Q (some (.long z)) F G) (hc : cells ≤ B.rm.cells) (hs : slots ≤ B.rm.slots) : Go A B D Q pc L (.long z :: rest) F G cells slots :=
  Go.ret hd i hi hr rfl (Or.inr (Or.inl ⟨rfl, rfl, z, rfl⟩)) hq hc hs
theorem Go.retA (hd : Dec B.bytes tb) (i : Nat) {w : Value} {t : FieldType} (hi : tb[i]? = some (pc, .areturn, 1)) (hr : B.ret = some t) (ht : t.isReference = true) (hw : w.isRef = true) (hq : Q (some w) F G) (hc : cells ≤ B.rm.cells) (hs : slots ≤ B.rm.slots) : Go A B D Q pc L (w :: rest) F G cells slots :=
  Go.ret hd i hi hr (by cases w <;> cases t <;> first | rfl | (cases hw; done) | (cases ht; done)) (Or.inr (Or.inr (Or.inr (Or.inr ⟨rfl, ht, hw⟩)))) hq hc hs
theorem Go.retV (hd : Dec B.bytes tb) (i : Nat) (hi : tb[i]? = some (pc, .return_, 1)) (hr : B.ret = none) (hq : Q none F G) (hc : cells ≤ B.rm.cells) (hs : slots ≤ B.rm.slots) : Go A B D Q pc L [] F G cells slots := fun hb T hT =>
  own_leave hb hT (fun _ => rfl) hq hc hs fun vm0 locs fs X hl => X.returnOut hb.1 (hb.2.2.2.1.trans hr) (own_dec hd hb hi) hl
end Own
/-- a static whose value the sheet tells -/
theorem own_sta_eq {a0 : Array Value} {s : State} {C n d : String} {k : Int32} (h : (Cond.eq (Term.static C n d) (.int k)).before a0 s = true) (hi : (Cond.initializedFor C n d).before a0 s = true) : Sta s s.heap C n d (.int k) := by
  obtain ⟨x, y, h1, h2, h3, h4⟩ := cmp_v (Or.inl (Cond.before_iff.mp h))
  have e2 : y = .int k := Option.some.inj (h2.symm.trans (Term.int_eval k))
  subst e2
  obtain ⟨z, rfl⟩ := h4
  have := gotT (Cond.eq_ints h1 h2) (Cond.before_iff.mp h)
  subst this
  exact Sta.start h1 (Or.inl hi)
/-! own_5: plain facts on ints, bytes and chars -/
abbrev nI (n : Nat) : Int32 := n.toInt32
theorem nI_toInt {n : Nat} (h : n < 2 ^ 31) : (nI n).toInt = n := len_toInt h
theorem nI_succ (n : Nat) : nI (n + 1) = nI n + 1 := by
  show Int32.ofNat (n + 1) = Int32.ofNat n + 1
  rw [Int32.ofNat_add]; rfl
theorem nI_inB {n m : Nat} (h : n < m) (hm : m < 2 ^ 31) : InB (nI n) m := by
  have := nI_toInt (n := n) (by omega)
  exact ⟨by omega, by omega⟩
theorem nI_nat {n : Nat} (h : n < 2 ^ 31) : (nI n).toInt.toNat = n := by rw [nI_toInt h]; rfl
theorem chr16_toInt (x : Int32) : (chr16 x).toInt = x.toInt % 65536 := by
  have h := c_i2c x
  show x.toUInt32.toUInt16.toUInt32.toInt32.toInt = _
  omega
theorem chr16_id {x : Int32} (h : 0 ≤ x.toInt ∧ x.toInt < 65536) : chr16 x = x := by
  rw [← Int32.toInt_inj, chr16_toInt]; omega
theorem chr16_chr16 (x : Int32) : chr16 (chr16 x) = chr16 x := chr16_id (by rw [chr16_toInt]; omega)
theorem byt8_toInt (x : Int32) : ((byt8 x).toInt - x.toInt) % 256 = 0 ∧ -128 ≤ (byt8 x).toInt ∧ (byt8 x).toInt < 128 := c_i2b x
theorem byt8_id {x : Int32} (h : -128 ≤ x.toInt ∧ x.toInt < 128) : byt8 x = x := by
  have := byt8_toInt x
  rw [← Int32.toInt_inj]; omega
theorem byt8_byt8 (x : Int32) : byt8 (byt8 x) = byt8 x := byt8_id (byt8_toInt x).2
theorem and255_toInt (x : Int32) : (x &&& 255).toInt = x.toInt % 256 := c_mask x 255 8 (by decide) (by decide)
theorem byt8_and {c : Int32} (h : 0 ≤ c.toInt ∧ c.toInt < 256) : byt8 c &&& 255 = c := by
  have := byt8_toInt c
  rw [← Int32.toInt_inj, and255_toInt]; omega
/-- the bytes of a Latin-1 text -/
def latB (cs : List Int32) : List Value := cs.map fun c => Value.int (byt8 c)
def zrs (cs : List Int32) : List Value := cs.map fun _ => Value.int 0
def Lat (cs : List Int32) : Prop := ∀ c ∈ cs, 0 ≤ c.toInt ∧ c.toInt < 256
def Chrs (cs : List Int32) : Prop := ∀ c ∈ cs, 0 ≤ c.toInt ∧ c.toInt < 65536
abbrev chV (cs : List Int32) : List Value := cs.map Value.int
theorem latB_len (cs : List Int32) : (latB cs).length = cs.length := by simp [latB]
theorem zrs_len (cs : List Int32) : (zrs cs).length = cs.length := by simp [zrs]
theorem zrs_rep (cs : List Int32) : List.replicate cs.length (Value.int 0) = zrs cs := by simp [zrs, List.map_const']
theorem own_len_snoc (pre : List Int32) (c : Int32) : nI (pre ++ [c]).length = nI pre.length + 1 := by rw [List.length_append]; exact nI_succ _
theorem own_mid {α : Type} (xs : List α) (y z : α) (zs : List α) (n : Nat) (h : n = xs.length) : (xs ++ y :: zs).set n z = xs ++ z :: zs := by subst h; simp
theorem own_midget {α : Type} (xs : List α) (y : α) (zs : List α) (n : Nat) (h : n = xs.length) : (xs ++ y :: zs)[n]? = some y := by subst h; simp
theorem own_lat_set (pre suf : List Int32) (c : Int32) (h : (pre ++ c :: suf).length < 2 ^ 31) : (latB pre ++ zrs (c :: suf)).set (nI pre.length).toInt.toNat (.int (byt8 (byt8 c))) = latB (pre ++ [c]) ++ zrs suf := by
  have h1 : pre.length < 2 ^ 31 := by simp at h; omega
  rw [nI_nat h1, byt8_byt8]
  show (latB pre ++ .int 0 :: zrs suf).set _ _ = _
  rw [own_mid _ _ _ _ _ (latB_len pre).symm]
  simp [latB]
theorem own_chr_get (pre suf : List Int32) (c : Int32) (h : (pre ++ c :: suf).length < 2 ^ 31) : (chV (pre ++ c :: suf))[(nI pre.length).toInt.toNat]? = some (.int c) := by
  have h1 : pre.length < 2 ^ 31 := by simp at h; omega
  rw [nI_nat h1]
  show (List.map Value.int (pre ++ c :: suf))[_]? = _
  rw [List.map_append, List.map_cons]
  exact own_midget _ _ _ _ (by simp)
theorem own_chr_in (pre suf : List Int32) (c : Int32) (h : (pre ++ c :: suf).length < 2 ^ 31) : InB (nI pre.length) (chV (pre ++ c :: suf)).length := nI_inB (by simp) (by simpa using h)
theorem own_lat_in (pre suf : List Int32) (c : Int32) (h : (pre ++ c :: suf).length < 2 ^ 31) : InB (nI pre.length) (latB pre ++ zrs (c :: suf)).length := by
  refine nI_inB ?_ ?_ <;> simp [latB, zrs] at h ⊢ <;> omega
theorem nI_lt {n m : Nat} (hn : n < 2 ^ 31) (hm : m < 2 ^ 31) : nI n < nI m ↔ n < m := by rw [Int32.lt_iff_toInt_lt, nI_toInt hn, nI_toInt hm]; omega
theorem nI_le {n m : Nat} (hn : n < 2 ^ 31) (hm : m < 2 ^ 31) : nI n ≤ nI m ↔ n ≤ m := by rw [Int32.le_iff_toInt_le, nI_toInt hn, nI_toInt hm]; omega
theorem shr0 (x : Int32) : x >>> ((0 : Int32) &&& 31) = x := by
  rw [← Int32.toInt_inj, c_ishr x 0 0 (by decide)]; simp
theorem i32_lt {x y : Int32} : x < y ↔ x.toInt < y.toInt := Int32.lt_iff_toInt_lt
theorem i32_le {x y : Int32} : x ≤ y ↔ x.toInt ≤ y.toInt := Int32.le_iff_toInt_le
theorem i32_eq {x y : Int32} : x = y ↔ x.toInt = y.toInt := Int32.toInt_inj.symm
theorem own_inB {vs : List Value} {j : Int32} (n : Nat) (hl : vs.length = n) (h : 0 ≤ j.toInt ∧ j.toInt < n) : InB j vs.length := by rw [hl]; exact h
theorem own_le {n m : Nat} (h : Nat.ble n m = true) : n ≤ m := Nat.le_of_ble_eq_true h
/-! own_6: two bytes a char -/
def u2 (c : Int32) : Int32 := byt8 (c >>> ((8 : Int32) &&& 31))
def utfB : List Int32 → List Value
  | [] => []
  | c :: r => .int (byt8 c) :: .int (u2 c) :: utfB r
def zrs2 : List Int32 → List Value
  | [] => []
  | _ :: r => .int 0 :: .int 0 :: zrs2 r
theorem utfB_len : ∀ cs : List Int32, (utfB cs).length = 2 * cs.length
  | [] => rfl
  | c :: r => by simp only [utfB, List.length_cons, utfB_len r]; omega
theorem zrs2_len : ∀ cs : List Int32, (zrs2 cs).length = 2 * cs.length
  | [] => rfl
  | c :: r => by simp only [zrs2, List.length_cons, zrs2_len r]; omega
theorem zrs2_rep : ∀ cs : List Int32, List.replicate (2 * cs.length) (Value.int 0) = zrs2 cs
  | [] => rfl
  | c :: r => by
    rw [show 2 * (c :: r).length = 2 * r.length + 1 + 1 by simp only [List.length_cons]; omega, List.replicate_succ, List.replicate_succ, zrs2_rep r]; rfl
theorem utfB_app : ∀ xs ys : List Int32, utfB (xs ++ ys) = utfB xs ++ utfB ys
  | [], ys => rfl
  | c :: r, ys => by simp only [List.cons_append, utfB, utfB_app r ys]
theorem shl1 {n : Nat} (h : 2 * n < 2 ^ 31) : nI n <<< ((1 : Int32) &&& 31) = nI (2 * n) := by
  have h1 := c_ishl (nI n) 1 1 (by decide)
  rw [i32_eq, nI_toInt h]
  rw [nI_toInt (by omega)] at h1
  have h2 := rng32 (nI n <<< ((1 : Int32) &&& 31))
  omega
theorem shr1 {n : Nat} (h : 2 * n < 2 ^ 31) : nI (2 * n) >>> ((1 : Int32) &&& 31) = nI n := by
  rw [i32_eq, c_ishr (nI (2 * n)) 1 1 (by decide), nI_toInt h, nI_toInt (by omega)]; omega
theorem shl0 (x : Int32) : x <<< ((0 : Int32) &&& 31) = x := by
  have h1 := c_ishl x 0 0 (by decide)
  have h2 := rng32 (x <<< ((0 : Int32) &&& 31))
  have h3 := rng32 x
  rw [i32_eq]; omega
/-- the two bytes make the char again -/
theorem utf_join {c : Int32} (h : 0 ≤ c.toInt ∧ c.toInt < 65536) : chr16 ((byt8 c &&& 255) <<< ((0 : Int32) &&& 31) ||| (u2 c &&& 255) <<< ((8 : Int32) &&& 31)) = c := by
  have e8 := c_ishr c 8 8 (by decide)
  have a1 : (byt8 c &&& 255).toInt = c.toInt % 256 := by
    have := byt8_toInt c
    rw [and255_toInt]; omega
  have a2 : (u2 c &&& 255).toInt = c.toInt / 256 := by
    have := byt8_toInt (c >>> ((8 : Int32) &&& 31))
    rw [and255_toInt]; unfold u2; omega
  have b2 : ((u2 c &&& 255) <<< ((8 : Int32) &&& 31)).toInt = c.toInt / 256 * 256 := by
    have h1 := c_ishl (u2 c &&& 255) 8 8 (by decide)
    have h2 := rng32 ((u2 c &&& 255) <<< ((8 : Int32) &&& 31))
    rw [a2] at h1
    omega
  rw [shl0]
  have o := c_or' (byt8 c &&& 255) ((u2 c &&& 255) <<< ((8 : Int32) &&& 31)) 8 (by decide) 256 (by decide) (by rw [b2]; omega) (by rw [a1]; omega) (by rw [a1]; omega)
  rw [a1, b2] at o
  have r := rng32 ((byt8 c &&& 255) ||| (u2 c &&& 255) <<< ((8 : Int32) &&& 31))
  have q : ((byt8 c &&& 255) ||| (u2 c &&& 255) <<< ((8 : Int32) &&& 31)) = c := by rw [i32_eq]; omega
  rw [q]; exact chr16_id h
theorem lat_split : ∀ {cs : List Int32}, Chrs cs → ¬ Lat cs → ∃ pre c suf, cs = pre ++ c :: suf ∧ Lat pre ∧ 256 ≤ c.toInt
  | [], _, h => absurd (show Lat [] from fun _ m => by cases m) h
  | c :: r, hc, h => by
    by_cases h1 : c.toInt < 256
    · have hn : ¬ Lat r := fun z => h fun x m => by
        rcases List.mem_cons.mp m with rfl | m
        · exact ⟨(hc x (List.mem_cons_self ..)).1, h1⟩
        · exact z x m
      obtain ⟨pre, d, suf, e, hl, hd⟩ := lat_split (fun x m => hc x (List.mem_cons_of_mem _ m)) hn
      refine ⟨c :: pre, d, suf, by rw [e]; rfl, fun x m => ?_, hd⟩
      rcases List.mem_cons.mp m with rfl | m
      · exact ⟨(hc x (List.mem_cons_self ..)).1, h1⟩
      · exact hl x m
    · exact ⟨[], c, r, rfl, (fun _ m => by cases m), by omega⟩
instance (cs : List Int32) : Decidable (Lat cs) := inferInstanceAs (Decidable (∀ c ∈ cs, 0 ≤ c.toInt ∧ c.toInt < 256))
theorem Lat.chrs {cs : List Int32} (h : Lat cs) : Chrs cs := fun c m => ⟨(h c m).1, by have := (h c m).2; omega⟩
theorem own_two {α : Type} (xs : List α) (x y z w : α) (zs : List α) (n : Nat) (h : n = xs.length) : ((xs ++ x :: y :: zs).set n z).set (n + 1) w = xs ++ z :: w :: zs := by
  subst h
  induction xs with
  | nil => rfl
  | cons a r ih => simp only [List.cons_append, List.length_cons, List.set_cons_succ]; rw [ih]
theorem own_two1 {α : Type} (xs : List α) (x y : α) (zs : List α) (n : Nat) (h : n = xs.length) : (xs ++ x :: y :: zs)[n]? = some x ∧ (xs ++ x :: y :: zs)[n + 1]? = some y := by
  subst h
  constructor
  · simp
  · simp
theorem own_cfa {n : Nat} (h0 : 0 < n) (h : 2 * n < 2 ^ 31) : byt8 (Jvm.Free.XT.ushr (nI n - nI (2 * n)) 31) = 1 := by
  have h1 := c_isub (nI n) (nI (2 * n))
  rw [nI_toInt h, nI_toInt (by omega)] at h1
  have h2 := rng32 (nI n - nI (2 * n))
  have h3 := c_iushr (nI n - nI (2 * n)) 31 31 (by decide) (by decide)
  have h4 : (Jvm.Free.XT.ushr (nI n - nI (2 * n)) 31).toInt = 1 := by
    show ((nI n - nI (2 * n)).toUInt32 >>> ((31 : Int32) &&& 31).toUInt32).toInt32.toInt = 1
    rw [h3]; omega
  have h5 : Jvm.Free.XT.ushr (nI n - nI (2 * n)) 31 = 1 := by rw [i32_eq, h4]; rfl
  rw [h5]; rfl
/-! own_7: instanceof, checkcast, one cell known twice -/
section Own
variable {A : Ax} {B : Bx} {D : Dx} {Q : Pst} {pc pc' : Nat} {L L' : List Slot} {S S' rest : List Value} {F F' G G' : List Ent} {cells slots : Nat} {tb : List In1}
theorem Go.instY (hd : Dec B.bytes tb) (i : Nat) {ix : Nat} {a : Addr} {C : String} {P : Cell → Prop} (hi : tb[i]? = some (pc, .instanceof ix, 3)) (w : (Cond.classLink B.y.cls ix C).before A.a0 A.Z = true) (m : (a, P) ∈ F ∨ (a, P) ∈ G) (hP : ∀ c, P c → ClP A.Z C c)
    (k : Go A B D Q (pc + 3) L (.int 1 :: rest) F G cells slots) : Go A B D Q pc L (.ref a :: rest) F G cells slots :=
  Go.stay (fun hb T vm0 locs X hZ hown H => by
    obtain ⟨c, e, p⟩ := H.at m
    obtain ⟨T', X', e', st⟩ := Jvm.RoadKit.instY X hb.1 hZ hown w rfl (Ins.self ((hP c p).exa e)) (g := mkF D.m pc L.toArray (.ref a :: rest)) rfl rfl (own_dec hd hb hi)
    exact ⟨T', X', e', st⟩) k
theorem Go.castY (hd : Dec B.bytes tb) (i : Nat) {ix : Nat} {a : Addr} {C : String} {P : Cell → Prop} (hi : tb[i]? = some (pc, .checkcast ix, 3)) (w : (Cond.classLink B.y.cls ix C).before A.a0 A.Z = true) (m : (a, P) ∈ F ∨ (a, P) ∈ G) (hP : ∀ c, P c → ClP A.Z C c)
    (k : Go A B D Q (pc + 3) L (.ref a :: rest) F G cells slots) : Go A B D Q pc L (.ref a :: rest) F G cells slots :=
  Go.stay (fun hb T vm0 locs X hZ hown H => by
    obtain ⟨c, e, p⟩ := H.at m
    obtain ⟨T', X', e', st⟩ := Jvm.RoadKit.castY X hb.1 hZ hown w rfl (Ins.self ((hP c p).exa e)) (g := mkF D.m pc L.toArray (.ref a :: rest)) rfl rfl (own_dec hd hb hi)
    exact ⟨T', X', e', st⟩) k
/-- one cell known twice -/
theorem Go.both {a : Addr} {P P' : Cell → Prop} {R : Prop} (m : (a, P) ∈ F ∨ (a, P) ∈ G) (m' : (a, P') ∈ F ∨ (a, P') ∈ G) (hr : ∀ c, P c → P' c → R) (k : R → Go A B D Q pc L S F G cells slots) : Go A B D Q pc L S F G cells slots := fun hb T hT => by
  obtain ⟨vm0, k0, locs, X, hZ, hown, hS, hk, N, C, H⟩ := hT
  obtain ⟨c, e, p⟩ := H.at m
  obtain ⟨c', e', p'⟩ := H.at m'
  cases e.symm.trans e'
  exact k (hr c p p') hb T ⟨vm0, k0, locs, X, hZ, hown, hS, hk, N, C, H⟩
theorem str_same {a b b' : Addr} {cd cd' : Int32} {c : Cell} (h : (StrE A a b cd).2 c) (h' : (StrE A a b' cd').2 c) : b = b' ∧ cd = cd' := by
  have v1 := (h.2 _ (List.mem_cons_self ..)).2.2
  have v2 := (h'.2 _ (List.mem_cons_self ..)).2.2
  have w1 := (h.2 _ (List.mem_cons_of_mem _ (List.mem_cons_self ..))).2.2
  have w2 := (h'.2 _ (List.mem_cons_of_mem _ (List.mem_cons_self ..))).2.2
  have e1 := v1.symm.trans v2
  have e2 := w1.symm.trans w2
  simp only [Option.some.injEq, Value.ref.injEq] at e1
  simp only [Option.some.injEq, Value.int.injEq] at e2
  exact ⟨e1, e2⟩
theorem arr_same {b : Addr} {ty ty' : FieldType} {vs vs' : List Value} {c : Cell} (h : ArrP A ty vs c) (h' : ArrP A ty' vs' c) : vs = vs' := h.2.2.symm.trans h'.2.2
end Own
/-! bytes tell the text -/
theorem latB_chV (cs : List Int32) : latB cs = chV (cs.map byt8) := by simp [latB]
theorem chV_inj {xs ys : List Int32} (h : chV xs = chV ys) : xs = ys := by
  induction xs generalizing ys with
  | nil => cases ys with
    | nil => rfl
    | cons y r => cases h
  | cons x r ih => cases ys with
    | nil => cases h
    | cons y s =>
      simp only [List.map_cons, List.cons.injEq, Value.int.injEq] at h
      rw [h.1, ih h.2]
theorem byt8_inj {x y : Int32} (hx : 0 ≤ x.toInt ∧ x.toInt < 256) (hy : 0 ≤ y.toInt ∧ y.toInt < 256) (h : byt8 x = byt8 y) : x = y := by
  rw [← byt8_and hx, ← byt8_and hy, h]
theorem lat_inj : ∀ {xs ys : List Int32}, Lat xs → Lat ys → xs.map byt8 = ys.map byt8 → xs = ys
  | [], [], _, _, _ => rfl
  | [], y :: s, _, _, h => by cases h
  | x :: r, [], _, _, h => by cases h
  | x :: r, y :: s, hx, hy, h => by
    simp only [List.map_cons, List.cons.injEq] at h
    rw [byt8_inj (hx x (List.mem_cons_self ..)) (hy y (List.mem_cons_self ..)) h.1, lat_inj (fun z m => hx z (List.mem_cons_of_mem _ m)) (fun z m => hy z (List.mem_cons_of_mem _ m)) h.2]
/-- the bytes of a text in two bytes a char, as ints -/
def utfI : List Int32 → List Int32
  | [] => []
  | c :: r => byt8 c :: u2 c :: utfI r
theorem utfB_chV : ∀ cs : List Int32, utfB cs = chV (utfI cs)
  | [] => rfl
  | c :: r => by simp only [utfB, utfI, List.map_cons, utfB_chV r]
theorem utf_inj : ∀ {xs ys : List Int32}, Chrs xs → Chrs ys → utfI xs = utfI ys → xs = ys
  | [], [], _, _, _ => rfl
  | [], y :: s, _, _, h => by cases h
  | x :: r, [], _, _, h => by cases h
  | x :: r, y :: s, hx, hy, h => by
    simp only [utfI, List.cons.injEq] at h
    have e : x = y := by rw [← utf_join (hx x (List.mem_cons_self ..)), ← utf_join (hy y (List.mem_cons_self ..)), h.1, h.2.1]
    rw [e, utf_inj (fun z m => hx z (List.mem_cons_of_mem _ m)) (fun z m => hy z (List.mem_cons_of_mem _ m)) h.2.2]
theorem utfI_len : ∀ cs : List Int32, (utfI cs).length = 2 * cs.length
  | [] => rfl
  | c :: r => by simp only [utfI, List.length_cons, utfI_len r]; omega
/-- a String of these chars, by either way of storing them -/
def StrR (A : Ax) (G : List Ent) (a : Addr) (cs : List Int32) : Prop := ∃ b, (Lat cs ∧ StrE A a b 0 ∈ G ∧ BytE A b (latB cs) ∈ G) ∨ ((Chrs cs ∧ ¬ Lat cs) ∧ StrE A a b 1 ∈ G ∧ BytE A b (utfB cs) ∈ G)
theorem StrR.sub {A : Ax} {G G' : List Ent} {a : Addr} {cs : List Int32} (h : StrR A G a cs) (s : ∀ q ∈ G, q ∈ G') : StrR A G' a cs := by
  obtain ⟨b, ⟨h1, h2, h3⟩ | ⟨h1, h2, h3⟩⟩ := h
  · exact ⟨b, Or.inl ⟨h1, s _ h2, s _ h3⟩⟩
  · exact ⟨b, Or.inr ⟨h1, s _ h2, s _ h3⟩⟩
theorem StrR.cons {A : Ax} {G : List Ent} {a : Addr} {cs : List Int32} {q : Ent} (h : StrR A G a cs) : StrR A (q :: G) a cs := h.sub fun _ m => List.mem_cons_of_mem _ m
theorem StrR.obj {A : Ax} {G : List Ent} {a : Addr} {cs : List Int32} (h : StrR A G a cs) : ∃ b cd, StrE A a b cd ∈ G := by
  obtain ⟨b, ⟨-, h2, -⟩ | ⟨-, h2, -⟩⟩ := h
  · exact ⟨b, 0, h2⟩
  · exact ⟨b, 1, h2⟩
theorem StrR.chrs {A : Ax} {G : List Ent} {a : Addr} {cs : List Int32} (h : StrR A G a cs) : Chrs cs := by
  obtain ⟨b, ⟨h1, -⟩ | ⟨h1, -⟩⟩ := h
  · exact h1.chrs
  · exact h1.1
theorem MetW.weak {ws : List Cond} {A : Ax} {B : Bx} {as' : Array Value} {F G : List Ent} {Q Q' : Pst} (h : MetW ws A B as' F G Q) (hq : ∀ v F' G', Q v F' G' → Q' v F' G') : MetW ws A B as' F G Q' := fun p e a b c s m args below hf hap hP hK => by
  obtain ⟨n, o, h1, h2, h3, v, L, F', G', r1, r2, r⟩ := h p e a b c s m args below hf hap hP hK
  exact ⟨n, o, h1, h2, h3, v, L, F', G', r1, hq _ _ _ r2, r⟩

--CUT
def Wd (A : Ax) : Prop := (∀ d ∈ tables_1, d.before A.a0 A.Z = true) ∧ (EW A.Z A.a0 A.EL) ∧ (A.EL = consts_1) ∧ (A.wm = true) ∧ (∃ z : Int32, z ≠ 0 ∧ Sta A.Z A.Z.heap "java/lang/String" "COMPACT_STRINGS" "Z" (.int z)) ∧ (∃ v : Value, v.isRef = true ∧ Sta A.Z A.Z.heap "jdk/internal/util/Preconditions" "SIOOBE_FORMATTER" "Ljava/util/function/BiFunction;" v)
theorem Wd.tab {A : Ax} (K : Wd A) : ∀ d ∈ tables_1, d.before A.a0 A.Z = true := K.1
theorem Wd.ew {A : Ax} (K : Wd A) : EW A.Z A.a0 A.EL := K.2.1
theorem Wd.el {A : Ax} (K : Wd A) : A.EL = consts_1 := K.2.2.1
theorem Wd.wm {A : Ax} (K : Wd A) : A.wm = true := K.2.2.2.1
theorem Wd.cmpt {A : Ax} (K : Wd A) : ∃ z : Int32, z ≠ 0 ∧ Sta A.Z A.Z.heap "java/lang/String" "COMPACT_STRINGS" "Z" (.int z) := K.2.2.2.2.1
theorem Wd.sio {A : Ax} (K : Wd A) : ∃ v : Value, v.isRef = true ∧ Sta A.Z A.Z.heap "jdk/internal/util/Preconditions" "SIOOBE_FORMATTER" "Ljava/util/function/BiFunction;" v := K.2.2.2.2.2
theorem w_0 {A : Ax} (K : Wd A) : (Jvm.Cond.constant "com/example/hedgewire/hedgewire/CommandSyntaxIsVersionPinLaw" (7 : Nat) (2147483647 : Int32)).before A.a0 A.Z = true   := K.tab _ (List.mem_of_getElem? (i := 0) rfl)
theorem w_1 {A : Ax} (K : Wd A) : (Jvm.Cond.arrayClass Jvm.ClassFile.FieldType.char).before A.a0 A.Z = true   := K.tab _ (List.mem_of_getElem? (i := 1) rfl)
theorem w_2 {A : Ax} (K : Wd A) : (Jvm.Cond.methodLink "com/example/hedgewire/hedgewire/CommandSyntaxIsVersionPinLaw" (8 : Nat) ({ cls := "com/example/hedgewire/hedgewire/CommandSyntaxIsVersionPinLaw", name := "pick", desc := "(JIIZI)C" } : Jvm.MethodName)).before A.a0 A.Z = true   := K.tab _ (List.mem_of_getElem? (i := 2) rfl)
theorem w_3 {A : Ax} (K : Wd A) : (Jvm.Cond.static ({ cls := "com/example/hedgewire/hedgewire/CommandSyntaxIsVersionPinLaw", name := "pick", desc := "(JIIZI)C" } : Jvm.MethodName)).before A.a0 A.Z = true   := K.tab _ (List.mem_of_getElem? (i := 3) rfl)
theorem w_4 {A : Ax} (K : Wd A) : (Jvm.Cond.initialized "com/example/hedgewire/hedgewire/CommandSyntaxIsVersionPinLaw").before A.a0 A.Z = true   := K.tab _ (List.mem_of_getElem? (i := 4) rfl)
theorem w_5 {A : Ax} (K : Wd A) : (Jvm.Cond.code ({ cls := "com/example/hedgewire/hedgewire/CommandSyntaxIsVersionPinLaw", name := "pick", desc := "(JIIZI)C" } : Jvm.MethodName) method_5_code (7 : Nat) (Option.some Jvm.ClassFile.FieldType.char)).before A.a0 A.Z = true   := K.tab _ (List.mem_of_getElem? (i := 5) rfl)
theorem w_6 {A : Ax} (K : Wd A) : (Jvm.Cond.constantLong "com/example/hedgewire/hedgewire/CommandSyntaxIsVersionPinLaw" (39 : Nat) (15 : Int64)).before A.a0 A.Z = true   := K.tab _ (List.mem_of_getElem? (i := 6) rfl)
theorem w_7 {A : Ax} (K : Wd A) : (Jvm.Cond.stringLink "com/example/hedgewire/hedgewire/CommandSyntaxIsVersionPinLaw" (41 : Nat) "-hVversionH=-hV").before A.a0 A.Z = true   := K.tab _ (List.mem_of_getElem? (i := 7) rfl)
theorem w_8 {A : Ax} (K : Wd A) : (Jvm.Cond.initialized "java/lang/String").before A.a0 A.Z = true   := K.tab _ (List.mem_of_getElem? (i := 8) rfl)
theorem w_9 {A : Ax} (K : Wd A) : (Jvm.Cond.instantiable "java/lang/String" (4 : Nat)).before A.a0 A.Z = true   := K.tab _ (List.mem_of_getElem? (i := 9) rfl)
theorem w_10 {A : Ax} (K : Wd A) : (Jvm.Cond.arrayClass Jvm.ClassFile.FieldType.byte).before A.a0 A.Z = true   := K.tab _ (List.mem_of_getElem? (i := 10) rfl)
theorem w_11 {A : Ax} (K : Wd A) : (Jvm.Cond.laysFinal "java/lang/String" "java/lang/String" "value" "[B").before A.a0 A.Z = true   := K.tab _ (List.mem_of_getElem? (i := 11) rfl)
theorem w_12 {A : Ax} (K : Wd A) : (Jvm.Cond.laysFinal "java/lang/String" "java/lang/String" "coder" "B").before A.a0 A.Z = true   := K.tab _ (List.mem_of_getElem? (i := 12) rfl)
theorem w_13 {A : Ax} (K : Wd A) : (Jvm.Cond.soleField "java/lang/String" "value").before A.a0 A.Z = true   := K.tab _ (List.mem_of_getElem? (i := 13) rfl)
theorem w_14 {A : Ax} (K : Wd A) : (Jvm.Cond.soleField "java/lang/String" "coder").before A.a0 A.Z = true   := K.tab _ (List.mem_of_getElem? (i := 14) rfl)
theorem w_15 {A : Ax} (K : Wd A) : (Jvm.Cond.methodLink "com/example/hedgewire/hedgewire/CommandSyntaxIsVersionPinLaw" (33 : Nat) ({ cls := "java/lang/String", name := "charAt", desc := "(I)C" } : Jvm.MethodName)).before A.a0 A.Z = true   := K.tab _ (List.mem_of_getElem? (i := 15) rfl)
theorem w_16 {A : Ax} (K : Wd A) : (Jvm.Cond.declares ({ cls := "java/lang/String", name := "charAt", desc := "(I)C" } : Jvm.MethodName)).before A.a0 A.Z = true   := K.tab _ (List.mem_of_getElem? (i := 16) rfl)
theorem w_17 {A : Ax} (K : Wd A) : (Jvm.Cond.instanceMethod ({ cls := "java/lang/String", name := "charAt", desc := "(I)C" } : Jvm.MethodName)).before A.a0 A.Z = true   := K.tab _ (List.mem_of_getElem? (i := 17) rfl)
theorem w_18 {A : Ax} (K : Wd A) : (Jvm.Cond.selects "java/lang/String" ({ cls := "java/lang/String", name := "charAt", desc := "(I)C" } : Jvm.MethodName) ({ cls := "java/lang/String", name := "charAt", desc := "(I)C" } : Jvm.MethodName)).before A.a0 A.Z = true   := K.tab _ (List.mem_of_getElem? (i := 18) rfl)
theorem w_19 {A : Ax} (K : Wd A) : (Jvm.Cond.code ({ cls := "java/lang/String", name := "charAt", desc := "(I)C" } : Jvm.MethodName) jdk_42_method_56_code (2 : Nat) (Option.some Jvm.ClassFile.FieldType.char)).before A.a0 A.Z = true   := K.tab _ (List.mem_of_getElem? (i := 19) rfl)
theorem w_20 {A : Ax} (K : Wd A) : (Jvm.Cond.methodLink "java/lang/String" (492 : Nat) ({ cls := "java/lang/String", name := "isLatin1", desc := "()Z" } : Jvm.MethodName)).before A.a0 A.Z = true   := K.tab _ (List.mem_of_getElem? (i := 20) rfl)
theorem w_21 {A : Ax} (K : Wd A) : (Jvm.Cond.declares ({ cls := "java/lang/String", name := "isLatin1", desc := "()Z" } : Jvm.MethodName)).before A.a0 A.Z = true   := K.tab _ (List.mem_of_getElem? (i := 21) rfl)
theorem w_22 {A : Ax} (K : Wd A) : (Jvm.Cond.instanceMethod ({ cls := "java/lang/String", name := "isLatin1", desc := "()Z" } : Jvm.MethodName)).before A.a0 A.Z = true   := K.tab _ (List.mem_of_getElem? (i := 22) rfl)
theorem w_23 {A : Ax} (K : Wd A) : (Jvm.Cond.selects "java/lang/String" ({ cls := "java/lang/String", name := "isLatin1", desc := "()Z" } : Jvm.MethodName) ({ cls := "java/lang/String", name := "isLatin1", desc := "()Z" } : Jvm.MethodName)).before A.a0 A.Z = true   := K.tab _ (List.mem_of_getElem? (i := 23) rfl)
theorem w_24 {A : Ax} (K : Wd A) : (Jvm.Cond.code ({ cls := "java/lang/String", name := "isLatin1", desc := "()Z" } : Jvm.MethodName) jdk_42_method_154_code (1 : Nat) (Option.some Jvm.ClassFile.FieldType.boolean)).before A.a0 A.Z = true   := K.tab _ (List.mem_of_getElem? (i := 24) rfl)
theorem w_25 {A : Ax} (K : Wd A) : (Jvm.Cond.fieldLink "java/lang/String" (38 : Nat) "java/lang/String" "COMPACT_STRINGS" "Z").before A.a0 A.Z = true   := K.tab _ (List.mem_of_getElem? (i := 25) rfl)
theorem w_26 {A : Ax} (K : Wd A) : (Jvm.Cond.fieldLink "java/lang/String" (15 : Nat) "java/lang/String" "coder" "B").before A.a0 A.Z = true   := K.tab _ (List.mem_of_getElem? (i := 26) rfl)
theorem w_27 {A : Ax} (K : Wd A) : (Jvm.Cond.fieldLink "java/lang/String" (9 : Nat) "java/lang/String" "value" "[B").before A.a0 A.Z = true   := K.tab _ (List.mem_of_getElem? (i := 27) rfl)
theorem w_28 {A : Ax} (K : Wd A) : (Jvm.Cond.methodLink "java/lang/String" (495 : Nat) ({ cls := "java/lang/StringLatin1", name := "charAt", desc := "([BI)C" } : Jvm.MethodName)).before A.a0 A.Z = true   := K.tab _ (List.mem_of_getElem? (i := 28) rfl)
theorem w_29 {A : Ax} (K : Wd A) : (Jvm.Cond.static ({ cls := "java/lang/StringLatin1", name := "charAt", desc := "([BI)C" } : Jvm.MethodName)).before A.a0 A.Z = true   := K.tab _ (List.mem_of_getElem? (i := 29) rfl)
theorem w_30 {A : Ax} (K : Wd A) : (Jvm.Cond.initialized "java/lang/StringLatin1").before A.a0 A.Z = true   := K.tab _ (List.mem_of_getElem? (i := 30) rfl)
theorem w_31 {A : Ax} (K : Wd A) : (Jvm.Cond.code ({ cls := "java/lang/StringLatin1", name := "charAt", desc := "([BI)C" } : Jvm.MethodName) jdk_43_method_2_code (2 : Nat) (Option.some Jvm.ClassFile.FieldType.char)).before A.a0 A.Z = true   := K.tab _ (List.mem_of_getElem? (i := 31) rfl)
theorem w_32 {A : Ax} (K : Wd A) : (Jvm.Cond.methodLink "java/lang/StringLatin1" (9 : Nat) ({ cls := "java/lang/String", name := "checkIndex", desc := "(II)V" } : Jvm.MethodName)).before A.a0 A.Z = true   := K.tab _ (List.mem_of_getElem? (i := 32) rfl)
theorem w_33 {A : Ax} (K : Wd A) : (Jvm.Cond.static ({ cls := "java/lang/String", name := "checkIndex", desc := "(II)V" } : Jvm.MethodName)).before A.a0 A.Z = true   := K.tab _ (List.mem_of_getElem? (i := 33) rfl)
theorem w_34 {A : Ax} (K : Wd A) : (Jvm.Cond.code ({ cls := "java/lang/String", name := "checkIndex", desc := "(II)V" } : Jvm.MethodName) jdk_42_method_155_code (2 : Nat) (Option.none : Option Jvm.ClassFile.FieldType)).before A.a0 A.Z = true   := K.tab _ (List.mem_of_getElem? (i := 34) rfl)
theorem w_35 {A : Ax} (K : Wd A) : (Jvm.Cond.fieldLink "java/lang/String" (1053 : Nat) "jdk/internal/util/Preconditions" "SIOOBE_FORMATTER" "Ljava/util/function/BiFunction;").before A.a0 A.Z = true   := K.tab _ (List.mem_of_getElem? (i := 35) rfl)
theorem w_36 {A : Ax} (K : Wd A) : (Jvm.Cond.initialized "jdk/internal/util/Preconditions").before A.a0 A.Z = true   := K.tab _ (List.mem_of_getElem? (i := 36) rfl)
theorem w_37 {A : Ax} (K : Wd A) : (Jvm.Cond.methodLink "java/lang/String" (1059 : Nat) ({ cls := "jdk/internal/util/Preconditions", name := "checkIndex", desc := "(IILjava/util/function/BiFunction;)I" } : Jvm.MethodName)).before A.a0 A.Z = true   := K.tab _ (List.mem_of_getElem? (i := 37) rfl)
theorem w_38 {A : Ax} (K : Wd A) : (Jvm.Cond.static ({ cls := "jdk/internal/util/Preconditions", name := "checkIndex", desc := "(IILjava/util/function/BiFunction;)I" } : Jvm.MethodName)).before A.a0 A.Z = true   := K.tab _ (List.mem_of_getElem? (i := 38) rfl)
theorem w_39 {A : Ax} (K : Wd A) : (Jvm.Cond.code ({ cls := "jdk/internal/util/Preconditions", name := "checkIndex", desc := "(IILjava/util/function/BiFunction;)I" } : Jvm.MethodName) jdk_41_method_11_code (3 : Nat) (Option.some Jvm.ClassFile.FieldType.int)).before A.a0 A.Z = true   := K.tab _ (List.mem_of_getElem? (i := 39) rfl)
theorem w_40 {A : Ax} (K : Wd A) : (Jvm.Cond.methodLink "com/example/hedgewire/hedgewire/CommandSyntaxIsVersionPinLaw" (14 : Nat) ({ cls := "com/example/hedgewire/hedgewire/CommandSyntaxIsVersionPinLaw", name := "make", desc := "([CI)Ljava/lang/String;" } : Jvm.MethodName)).before A.a0 A.Z = true   := K.tab _ (List.mem_of_getElem? (i := 40) rfl)
theorem w_41 {A : Ax} (K : Wd A) : (Jvm.Cond.static ({ cls := "com/example/hedgewire/hedgewire/CommandSyntaxIsVersionPinLaw", name := "make", desc := "([CI)Ljava/lang/String;" } : Jvm.MethodName)).before A.a0 A.Z = true   := K.tab _ (List.mem_of_getElem? (i := 41) rfl)
theorem w_42 {A : Ax} (K : Wd A) : (Jvm.Cond.code ({ cls := "com/example/hedgewire/hedgewire/CommandSyntaxIsVersionPinLaw", name := "make", desc := "([CI)Ljava/lang/String;" } : Jvm.MethodName) method_6_code (2 : Nat) (Option.some (Jvm.ClassFile.FieldType.object "java/lang/String"))).before A.a0 A.Z = true   := K.tab _ (List.mem_of_getElem? (i := 42) rfl)
theorem w_43 {A : Ax} (K : Wd A) : (Jvm.Cond.classLink "com/example/hedgewire/hedgewire/CommandSyntaxIsVersionPinLaw" (34 : Nat) "java/lang/String").before A.a0 A.Z = true   := K.tab _ (List.mem_of_getElem? (i := 43) rfl)
theorem w_44 {A : Ax} (K : Wd A) : (Jvm.Cond.methodLink "com/example/hedgewire/hedgewire/CommandSyntaxIsVersionPinLaw" (43 : Nat) ({ cls := "java/lang/String", name := "<init>", desc := "([C)V" } : Jvm.MethodName)).before A.a0 A.Z = true   := K.tab _ (List.mem_of_getElem? (i := 44) rfl)
theorem w_45 {A : Ax} (K : Wd A) : (Jvm.Cond.instanceMethod ({ cls := "java/lang/String", name := "<init>", desc := "([C)V" } : Jvm.MethodName)).before A.a0 A.Z = true   := K.tab _ (List.mem_of_getElem? (i := 45) rfl)
theorem w_46 {A : Ax} (K : Wd A) : (Jvm.Cond.code ({ cls := "java/lang/String", name := "<init>", desc := "([C)V" } : Jvm.MethodName) jdk_42_method_3_code (2 : Nat) (Option.none : Option Jvm.ClassFile.FieldType)).before A.a0 A.Z = true   := K.tab _ (List.mem_of_getElem? (i := 46) rfl)
theorem w_47 {A : Ax} (K : Wd A) : (Jvm.Cond.methodLink "java/lang/String" (27 : Nat) ({ cls := "java/lang/String", name := "<init>", desc := "([CIILjava/lang/Void;)V" } : Jvm.MethodName)).before A.a0 A.Z = true   := K.tab _ (List.mem_of_getElem? (i := 47) rfl)
theorem w_48 {A : Ax} (K : Wd A) : (Jvm.Cond.instanceMethod ({ cls := "java/lang/String", name := "<init>", desc := "([CIILjava/lang/Void;)V" } : Jvm.MethodName)).before A.a0 A.Z = true   := K.tab _ (List.mem_of_getElem? (i := 48) rfl)
theorem w_50 {A : Ax} (K : Wd A) : (Jvm.Cond.code ({ cls := "java/lang/String", name := "<init>", desc := "([CIILjava/lang/Void;)V" } : Jvm.MethodName) jdk_42_method_149_code (6 : Nat) (Option.none : Option Jvm.ClassFile.FieldType)).before A.a0 A.Z = true   := K.tab _ (List.mem_of_getElem? (i := 50) rfl)
theorem w_51 {A : Ax} (K : Wd A) : (Jvm.Cond.methodLink "java/lang/String" (1 : Nat) ({ cls := "java/lang/Object", name := "<init>", desc := "()V" } : Jvm.MethodName)).before A.a0 A.Z = true   := K.tab _ (List.mem_of_getElem? (i := 51) rfl)
theorem w_52 {A : Ax} (K : Wd A) : (Jvm.Cond.instanceMethod ({ cls := "java/lang/Object", name := "<init>", desc := "()V" } : Jvm.MethodName)).before A.a0 A.Z = true   := K.tab _ (List.mem_of_getElem? (i := 52) rfl)
theorem w_53 {A : Ax} (K : Wd A) : (Jvm.Cond.code ({ cls := "java/lang/Object", name := "<init>", desc := "()V" } : Jvm.MethodName) object_method_1_code (1 : Nat) (Option.none : Option Jvm.ClassFile.FieldType)).before A.a0 A.Z = true   := K.tab _ (List.mem_of_getElem? (i := 53) rfl)
theorem w_54 {A : Ax} (K : Wd A) : (Jvm.Cond.methodLink "java/lang/String" (177 : Nat) ({ cls := "java/lang/StringUTF16", name := "compress", desc := "([CII)[B" } : Jvm.MethodName)).before A.a0 A.Z = true   := K.tab _ (List.mem_of_getElem? (i := 54) rfl)
theorem w_55 {A : Ax} (K : Wd A) : (Jvm.Cond.static ({ cls := "java/lang/StringUTF16", name := "compress", desc := "([CII)[B" } : Jvm.MethodName)).before A.a0 A.Z = true   := K.tab _ (List.mem_of_getElem? (i := 55) rfl)
theorem w_56 {A : Ax} (K : Wd A) : (Jvm.Cond.initialized "java/lang/StringUTF16").before A.a0 A.Z = true   := K.tab _ (List.mem_of_getElem? (i := 56) rfl)
theorem w_57 {A : Ax} (K : Wd A) : (Jvm.Cond.code ({ cls := "java/lang/StringUTF16", name := "compress", desc := "([CII)[B" } : Jvm.MethodName) jdk_52_method_16_code (6 : Nat) (Option.some (Jvm.ClassFile.FieldType.array Jvm.ClassFile.FieldType.byte))).before A.a0 A.Z = true   := K.tab _ (List.mem_of_getElem? (i := 57) rfl)
theorem w_58 {A : Ax} (K : Wd A) : (Jvm.Cond.methodLink "java/lang/StringUTF16" (115 : Nat) ({ cls := "java/lang/StringUTF16", name := "compress", desc := "([CI[BII)I" } : Jvm.MethodName)).before A.a0 A.Z = true   := K.tab _ (List.mem_of_getElem? (i := 58) rfl)
theorem w_59 {A : Ax} (K : Wd A) : (Jvm.Cond.static ({ cls := "java/lang/StringUTF16", name := "compress", desc := "([CI[BII)I" } : Jvm.MethodName)).before A.a0 A.Z = true   := K.tab _ (List.mem_of_getElem? (i := 59) rfl)
theorem w_60 {A : Ax} (K : Wd A) : (Jvm.Cond.code ({ cls := "java/lang/StringUTF16", name := "compress", desc := "([CI[BII)I" } : Jvm.MethodName) jdk_52_method_21_code (7 : Nat) (Option.some Jvm.ClassFile.FieldType.int)).before A.a0 A.Z = true   := K.tab _ (List.mem_of_getElem? (i := 60) rfl)
theorem w_61 {A : Ax} (K : Wd A) : (Jvm.Cond.methodLink "java/lang/String" (47 : Nat) ({ cls := "java/lang/StringUTF16", name := "coderFromArrayLen", desc := "([BI)B" } : Jvm.MethodName)).before A.a0 A.Z = true   := K.tab _ (List.mem_of_getElem? (i := 61) rfl)
theorem w_62 {A : Ax} (K : Wd A) : (Jvm.Cond.static ({ cls := "java/lang/StringUTF16", name := "coderFromArrayLen", desc := "([BI)B" } : Jvm.MethodName)).before A.a0 A.Z = true   := K.tab _ (List.mem_of_getElem? (i := 62) rfl)
theorem w_63 {A : Ax} (K : Wd A) : (Jvm.Cond.code ({ cls := "java/lang/StringUTF16", name := "coderFromArrayLen", desc := "([BI)B" } : Jvm.MethodName) jdk_52_method_15_code (2 : Nat) (Option.some Jvm.ClassFile.FieldType.byte)).before A.a0 A.Z = true   := K.tab _ (List.mem_of_getElem? (i := 63) rfl)
theorem w_64 {A : Ax} (K : Wd A) : (Jvm.Cond.methodLink "com/example/hedgewire/hedgewire/CommandSyntaxIsVersionPinLaw" (22 : Nat) ({ cls := "com/example/hedgewire/hedgewire/CommandSyntaxIsVersionPinLaw", name := "v", desc := "([CII)Z" } : Jvm.MethodName)).before A.a0 A.Z = true   := K.tab _ (List.mem_of_getElem? (i := 64) rfl)
theorem w_65 {A : Ax} (K : Wd A) : (Jvm.Cond.static ({ cls := "com/example/hedgewire/hedgewire/CommandSyntaxIsVersionPinLaw", name := "v", desc := "([CII)Z" } : Jvm.MethodName)).before A.a0 A.Z = true   := K.tab _ (List.mem_of_getElem? (i := 65) rfl)
theorem w_66 {A : Ax} (K : Wd A) : (Jvm.Cond.code ({ cls := "com/example/hedgewire/hedgewire/CommandSyntaxIsVersionPinLaw", name := "v", desc := "([CII)Z" } : Jvm.MethodName) method_4_code (3 : Nat) (Option.some Jvm.ClassFile.FieldType.boolean)).before A.a0 A.Z = true   := K.tab _ (List.mem_of_getElem? (i := 66) rfl)
theorem w_67 {A : Ax} (K : Wd A) : (Jvm.Cond.methodLink "com/example/hedgewire/hedgewire/CommandSyntaxIsVersionPinLaw" (25 : Nat) ({ cls := "com/example/hedgewire/hedgewire/CommandSyntax", name := "isVersion", desc := "(Ljava/lang/String;)Z" } : Jvm.MethodName)).before A.a0 A.Z = true   := K.tab _ (List.mem_of_getElem? (i := 67) rfl)
theorem w_68 {A : Ax} (K : Wd A) : (Jvm.Cond.static ({ cls := "com/example/hedgewire/hedgewire/CommandSyntax", name := "isVersion", desc := "(Ljava/lang/String;)Z" } : Jvm.MethodName)).before A.a0 A.Z = true   := K.tab _ (List.mem_of_getElem? (i := 68) rfl)
theorem w_69 {A : Ax} (K : Wd A) : (Jvm.Cond.initialized "com/example/hedgewire/hedgewire/CommandSyntax").before A.a0 A.Z = true   := K.tab _ (List.mem_of_getElem? (i := 69) rfl)
theorem w_70 {A : Ax} (K : Wd A) : (Jvm.Cond.code ({ cls := "com/example/hedgewire/hedgewire/CommandSyntax", name := "isVersion", desc := "(Ljava/lang/String;)Z" } : Jvm.MethodName) prog_2_method_8_code (1 : Nat) (Option.some Jvm.ClassFile.FieldType.boolean)).before A.a0 A.Z = true   := K.tab _ (List.mem_of_getElem? (i := 70) rfl)
theorem w_71 {A : Ax} (K : Wd A) : (Jvm.Cond.stringLink "com/example/hedgewire/hedgewire/CommandSyntax" (51 : Nat) "--version").before A.a0 A.Z = true   := K.tab _ (List.mem_of_getElem? (i := 71) rfl)
theorem w_72 {A : Ax} (K : Wd A) : (Jvm.Cond.methodLink "com/example/hedgewire/hedgewire/CommandSyntax" (42 : Nat) ({ cls := "java/lang/String", name := "equals", desc := "(Ljava/lang/Object;)Z" } : Jvm.MethodName)).before A.a0 A.Z = true   := K.tab _ (List.mem_of_getElem? (i := 72) rfl)
theorem w_73 {A : Ax} (K : Wd A) : (Jvm.Cond.declares ({ cls := "java/lang/String", name := "equals", desc := "(Ljava/lang/Object;)Z" } : Jvm.MethodName)).before A.a0 A.Z = true   := K.tab _ (List.mem_of_getElem? (i := 73) rfl)
theorem w_74 {A : Ax} (K : Wd A) : (Jvm.Cond.instanceMethod ({ cls := "java/lang/String", name := "equals", desc := "(Ljava/lang/Object;)Z" } : Jvm.MethodName)).before A.a0 A.Z = true   := K.tab _ (List.mem_of_getElem? (i := 74) rfl)
theorem w_75 {A : Ax} (K : Wd A) : (Jvm.Cond.selects "java/lang/String" ({ cls := "java/lang/String", name := "equals", desc := "(Ljava/lang/Object;)Z" } : Jvm.MethodName) ({ cls := "java/lang/String", name := "equals", desc := "(Ljava/lang/Object;)Z" } : Jvm.MethodName)).before A.a0 A.Z = true   := K.tab _ (List.mem_of_getElem? (i := 75) rfl)
theorem w_76 {A : Ax} (K : Wd A) : (Jvm.Cond.code ({ cls := "java/lang/String", name := "equals", desc := "(Ljava/lang/Object;)Z" } : Jvm.MethodName) jdk_42_method_66_code (3 : Nat) (Option.some Jvm.ClassFile.FieldType.boolean)).before A.a0 A.Z = true   := K.tab _ (List.mem_of_getElem? (i := 76) rfl)
theorem w_77 {A : Ax} (K : Wd A) : (Jvm.Cond.classLink "java/lang/String" (10 : Nat) "java/lang/String").before A.a0 A.Z = true   := K.tab _ (List.mem_of_getElem? (i := 77) rfl)
theorem w_78 {A : Ax} (K : Wd A) : (Jvm.Cond.methodLink "java/lang/String" (541 : Nat) ({ cls := "java/lang/StringLatin1", name := "equals", desc := "([B[B)Z" } : Jvm.MethodName)).before A.a0 A.Z = true   := K.tab _ (List.mem_of_getElem? (i := 78) rfl)
theorem w_79 {A : Ax} (K : Wd A) : (Jvm.Cond.static ({ cls := "java/lang/StringLatin1", name := "equals", desc := "([B[B)Z" } : Jvm.MethodName)).before A.a0 A.Z = true   := K.tab _ (List.mem_of_getElem? (i := 79) rfl)
theorem w_80 {A : Ax} (K : Wd A) : (Jvm.Cond.code ({ cls := "java/lang/StringLatin1", name := "equals", desc := "([B[B)Z" } : Jvm.MethodName) jdk_43_method_13_code (3 : Nat) (Option.some Jvm.ClassFile.FieldType.boolean)).before A.a0 A.Z = true   := K.tab _ (List.mem_of_getElem? (i := 80) rfl)
theorem w_81 {A : Ax} (K : Wd A) : (Jvm.Cond.methodLink "com/example/hedgewire/hedgewire/CommandSyntax" (47 : Nat) ({ cls := "com/example/hedgewire/hedgewire/CommandSyntax", name := "isShortFlags", desc := "(Ljava/lang/String;C)Z" } : Jvm.MethodName)).before A.a0 A.Z = true   := K.tab _ (List.mem_of_getElem? (i := 81) rfl)
theorem w_82 {A : Ax} (K : Wd A) : (Jvm.Cond.static ({ cls := "com/example/hedgewire/hedgewire/CommandSyntax", name := "isShortFlags", desc := "(Ljava/lang/String;C)Z" } : Jvm.MethodName)).before A.a0 A.Z = true   := K.tab _ (List.mem_of_getElem? (i := 82) rfl)
theorem w_83 {A : Ax} (K : Wd A) : (Jvm.Cond.code ({ cls := "com/example/hedgewire/hedgewire/CommandSyntax", name := "isShortFlags", desc := "(Ljava/lang/String;C)Z" } : Jvm.MethodName) prog_2_method_9_code (4 : Nat) (Option.some Jvm.ClassFile.FieldType.boolean)).before A.a0 A.Z = true   := K.tab _ (List.mem_of_getElem? (i := 83) rfl)
theorem w_84 {A : Ax} (K : Wd A) : (Jvm.Cond.methodLink "com/example/hedgewire/hedgewire/CommandSyntax" (53 : Nat) ({ cls := "java/lang/String", name := "length", desc := "()I" } : Jvm.MethodName)).before A.a0 A.Z = true   := K.tab _ (List.mem_of_getElem? (i := 84) rfl)
theorem w_85 {A : Ax} (K : Wd A) : (Jvm.Cond.declares ({ cls := "java/lang/String", name := "length", desc := "()I" } : Jvm.MethodName)).before A.a0 A.Z = true   := K.tab _ (List.mem_of_getElem? (i := 85) rfl)
theorem w_86 {A : Ax} (K : Wd A) : (Jvm.Cond.instanceMethod ({ cls := "java/lang/String", name := "length", desc := "()I" } : Jvm.MethodName)).before A.a0 A.Z = true   := K.tab _ (List.mem_of_getElem? (i := 86) rfl)
theorem w_87 {A : Ax} (K : Wd A) : (Jvm.Cond.selects "java/lang/String" ({ cls := "java/lang/String", name := "length", desc := "()I" } : Jvm.MethodName) ({ cls := "java/lang/String", name := "length", desc := "()I" } : Jvm.MethodName)).before A.a0 A.Z = true   := K.tab _ (List.mem_of_getElem? (i := 87) rfl)
theorem w_88 {A : Ax} (K : Wd A) : (Jvm.Cond.code ({ cls := "java/lang/String", name := "length", desc := "()I" } : Jvm.MethodName) jdk_42_method_54_code (1 : Nat) (Option.some Jvm.ClassFile.FieldType.int)).before A.a0 A.Z = true   := K.tab _ (List.mem_of_getElem? (i := 88) rfl)
theorem w_89 {A : Ax} (K : Wd A) : (Jvm.Cond.methodLink "java/lang/String" (335 : Nat) ({ cls := "java/lang/String", name := "coder", desc := "()B" } : Jvm.MethodName)).before A.a0 A.Z = true   := K.tab _ (List.mem_of_getElem? (i := 89) rfl)
theorem w_90 {A : Ax} (K : Wd A) : (Jvm.Cond.declares ({ cls := "java/lang/String", name := "coder", desc := "()B" } : Jvm.MethodName)).before A.a0 A.Z = true   := K.tab _ (List.mem_of_getElem? (i := 90) rfl)
theorem w_91 {A : Ax} (K : Wd A) : (Jvm.Cond.instanceMethod ({ cls := "java/lang/String", name := "coder", desc := "()B" } : Jvm.MethodName)).before A.a0 A.Z = true   := K.tab _ (List.mem_of_getElem? (i := 91) rfl)
theorem w_92 {A : Ax} (K : Wd A) : (Jvm.Cond.selects "java/lang/String" ({ cls := "java/lang/String", name := "coder", desc := "()B" } : Jvm.MethodName) ({ cls := "java/lang/String", name := "coder", desc := "()B" } : Jvm.MethodName)).before A.a0 A.Z = true   := K.tab _ (List.mem_of_getElem? (i := 92) rfl)
theorem w_93 {A : Ax} (K : Wd A) : (Jvm.Cond.code ({ cls := "java/lang/String", name := "coder", desc := "()B" } : Jvm.MethodName) jdk_42_method_152_code (1 : Nat) (Option.some Jvm.ClassFile.FieldType.byte)).before A.a0 A.Z = true   := K.tab _ (List.mem_of_getElem? (i := 93) rfl)
theorem w_94 {A : Ax} (K : Wd A) : (Jvm.Cond.methodLink "com/example/hedgewire/hedgewire/CommandSyntax" (57 : Nat) ({ cls := "java/lang/String", name := "charAt", desc := "(I)C" } : Jvm.MethodName)).before A.a0 A.Z = true   := K.tab _ (List.mem_of_getElem? (i := 94) rfl)
theorem w_95 {A : Ax} (K : Wd A) : (Jvm.Cond.stringLink "java/lang/String" (7 : Nat) "").before A.a0 A.Z = true   := K.tab _ (List.mem_of_getElem? (i := 95) rfl)
theorem w_96 {A : Ax} (K : Wd A) : (Jvm.Cond.methodLink "com/example/hedgewire/hedgewire/CommandSyntaxIsVersionPinLaw" (18 : Nat) ({ cls := "com/example/hedgewire/hedgewire/CommandSyntaxIsVersionPinLaw", name := "f", desc := "([CII)Z" } : Jvm.MethodName)).before A.a0 A.Z = true   := K.tab _ (List.mem_of_getElem? (i := 96) rfl)
theorem w_97 {A : Ax} (K : Wd A) : (Jvm.Cond.static ({ cls := "com/example/hedgewire/hedgewire/CommandSyntaxIsVersionPinLaw", name := "f", desc := "([CII)Z" } : Jvm.MethodName)).before A.a0 A.Z = true   := K.tab _ (List.mem_of_getElem? (i := 97) rfl)
theorem w_98 {A : Ax} (K : Wd A) : (Jvm.Cond.code ({ cls := "com/example/hedgewire/hedgewire/CommandSyntaxIsVersionPinLaw", name := "f", desc := "([CII)Z" } : Jvm.MethodName) method_3_code (3 : Nat) (Option.some Jvm.ClassFile.FieldType.boolean)).before A.a0 A.Z = true   := K.tab _ (List.mem_of_getElem? (i := 98) rfl)
theorem w_99 {A : Ax} (K : Wd A) : (Jvm.Cond.stringLink "com/example/hedgewire/hedgewire/CommandSyntaxIsVersionPinLaw" (31 : Nat) "--version").before A.a0 A.Z = true   := K.tab _ (List.mem_of_getElem? (i := 99) rfl)
theorem w_100 {A : Ax} (K : Wd A) : (Jvm.Cond.methodLink "com/example/hedgewire/hedgewire/CommandSyntax" (61 : Nat) ({ cls := "java/lang/String", name := "indexOf", desc := "(I)I" } : Jvm.MethodName)).before A.a0 A.Z = true   := K.tab _ (List.mem_of_getElem? (i := 100) rfl)
theorem w_101 {A : Ax} (K : Wd A) : (Jvm.Cond.declares ({ cls := "java/lang/String", name := "indexOf", desc := "(I)I" } : Jvm.MethodName)).before A.a0 A.Z = true   := K.tab _ (List.mem_of_getElem? (i := 101) rfl)
theorem w_102 {A : Ax} (K : Wd A) : (Jvm.Cond.instanceMethod ({ cls := "java/lang/String", name := "indexOf", desc := "(I)I" } : Jvm.MethodName)).before A.a0 A.Z = true   := K.tab _ (List.mem_of_getElem? (i := 102) rfl)
theorem w_103 {A : Ax} (K : Wd A) : (Jvm.Cond.selects "java/lang/String" ({ cls := "java/lang/String", name := "indexOf", desc := "(I)I" } : Jvm.MethodName) ({ cls := "java/lang/String", name := "indexOf", desc := "(I)I" } : Jvm.MethodName)).before A.a0 A.Z = true   := K.tab _ (List.mem_of_getElem? (i := 103) rfl)
theorem w_104 {A : Ax} (K : Wd A) : (Jvm.Cond.code ({ cls := "java/lang/String", name := "indexOf", desc := "(I)I" } : Jvm.MethodName) jdk_42_method_79_code (2 : Nat) (Option.some Jvm.ClassFile.FieldType.int)).before A.a0 A.Z = true   := K.tab _ (List.mem_of_getElem? (i := 104) rfl)
theorem w_105 {A : Ax} (K : Wd A) : (Jvm.Cond.methodLink "java/lang/String" (633 : Nat) ({ cls := "java/lang/String", name := "indexOf", desc := "(II)I" } : Jvm.MethodName)).before A.a0 A.Z = true   := K.tab _ (List.mem_of_getElem? (i := 105) rfl)
theorem w_106 {A : Ax} (K : Wd A) : (Jvm.Cond.declares ({ cls := "java/lang/String", name := "indexOf", desc := "(II)I" } : Jvm.MethodName)).before A.a0 A.Z = true   := K.tab _ (List.mem_of_getElem? (i := 106) rfl)
theorem w_107 {A : Ax} (K : Wd A) : (Jvm.Cond.instanceMethod ({ cls := "java/lang/String", name := "indexOf", desc := "(II)I" } : Jvm.MethodName)).before A.a0 A.Z = true   := K.tab _ (List.mem_of_getElem? (i := 107) rfl)
theorem w_108 {A : Ax} (K : Wd A) : (Jvm.Cond.selects "java/lang/String" ({ cls := "java/lang/String", name := "indexOf", desc := "(II)I" } : Jvm.MethodName) ({ cls := "java/lang/String", name := "indexOf", desc := "(II)I" } : Jvm.MethodName)).before A.a0 A.Z = true   := K.tab _ (List.mem_of_getElem? (i := 108) rfl)
theorem w_109 {A : Ax} (K : Wd A) : (Jvm.Cond.code ({ cls := "java/lang/String", name := "indexOf", desc := "(II)I" } : Jvm.MethodName) jdk_42_method_80_code (3 : Nat) (Option.some Jvm.ClassFile.FieldType.int)).before A.a0 A.Z = true   := K.tab _ (List.mem_of_getElem? (i := 109) rfl)
theorem w_110 {A : Ax} (K : Wd A) : (Jvm.Cond.methodLink "java/lang/String" (505 : Nat) ({ cls := "java/lang/String", name := "length", desc := "()I" } : Jvm.MethodName)).before A.a0 A.Z = true   := K.tab _ (List.mem_of_getElem? (i := 110) rfl)
theorem w_111 {A : Ax} (K : Wd A) : (Jvm.Cond.methodLink "java/lang/String" (637 : Nat) ({ cls := "java/lang/StringLatin1", name := "indexOf", desc := "([BIII)I" } : Jvm.MethodName)).before A.a0 A.Z = true   := K.tab _ (List.mem_of_getElem? (i := 111) rfl)
theorem w_112 {A : Ax} (K : Wd A) : (Jvm.Cond.static ({ cls := "java/lang/StringLatin1", name := "indexOf", desc := "([BIII)I" } : Jvm.MethodName)).before A.a0 A.Z = true   := K.tab _ (List.mem_of_getElem? (i := 112) rfl)
theorem w_113 {A : Ax} (K : Wd A) : (Jvm.Cond.code ({ cls := "java/lang/StringLatin1", name := "indexOf", desc := "([BIII)I" } : Jvm.MethodName) jdk_43_method_22_code (4 : Nat) (Option.some Jvm.ClassFile.FieldType.int)).before A.a0 A.Z = true   := K.tab _ (List.mem_of_getElem? (i := 113) rfl)
theorem w_114 {A : Ax} (K : Wd A) : (Jvm.Cond.methodLink "java/lang/StringLatin1" (88 : Nat) ({ cls := "java/lang/StringLatin1", name := "canEncode", desc := "(I)Z" } : Jvm.MethodName)).before A.a0 A.Z = true   := K.tab _ (List.mem_of_getElem? (i := 114) rfl)
theorem w_115 {A : Ax} (K : Wd A) : (Jvm.Cond.static ({ cls := "java/lang/StringLatin1", name := "canEncode", desc := "(I)Z" } : Jvm.MethodName)).before A.a0 A.Z = true   := K.tab _ (List.mem_of_getElem? (i := 115) rfl)
theorem w_116 {A : Ax} (K : Wd A) : (Jvm.Cond.code ({ cls := "java/lang/StringLatin1", name := "canEncode", desc := "(I)Z" } : Jvm.MethodName) jdk_43_method_4_code (1 : Nat) (Option.some Jvm.ClassFile.FieldType.boolean)).before A.a0 A.Z = true   := K.tab _ (List.mem_of_getElem? (i := 116) rfl)
theorem w_117 {A : Ax} (K : Wd A) : (Jvm.Cond.methodLink "java/lang/StringLatin1" (92 : Nat) ({ cls := "java/lang/Math", name := "max", desc := "(II)I" } : Jvm.MethodName)).before A.a0 A.Z = true   := K.tab _ (List.mem_of_getElem? (i := 117) rfl)
theorem w_118 {A : Ax} (K : Wd A) : (Jvm.Cond.static ({ cls := "java/lang/Math", name := "max", desc := "(II)I" } : Jvm.MethodName)).before A.a0 A.Z = true   := K.tab _ (List.mem_of_getElem? (i := 118) rfl)
theorem w_119 {A : Ax} (K : Wd A) : (Jvm.Cond.initialized "java/lang/Math").before A.a0 A.Z = true   := K.tab _ (List.mem_of_getElem? (i := 119) rfl)
theorem w_120 {A : Ax} (K : Wd A) : (Jvm.Cond.code ({ cls := "java/lang/Math", name := "max", desc := "(II)I" } : Jvm.MethodName) jdk_29_method_65_code (2 : Nat) (Option.some Jvm.ClassFile.FieldType.int)).before A.a0 A.Z = true   := K.tab _ (List.mem_of_getElem? (i := 120) rfl)
theorem w_121 {A : Ax} (K : Wd A) : (Jvm.Cond.methodLink "java/lang/StringLatin1" (38 : Nat) ({ cls := "java/lang/Math", name := "min", desc := "(II)I" } : Jvm.MethodName)).before A.a0 A.Z = true   := K.tab _ (List.mem_of_getElem? (i := 121) rfl)
theorem w_122 {A : Ax} (K : Wd A) : (Jvm.Cond.static ({ cls := "java/lang/Math", name := "min", desc := "(II)I" } : Jvm.MethodName)).before A.a0 A.Z = true   := K.tab _ (List.mem_of_getElem? (i := 122) rfl)
theorem w_123 {A : Ax} (K : Wd A) : (Jvm.Cond.code ({ cls := "java/lang/Math", name := "min", desc := "(II)I" } : Jvm.MethodName) jdk_29_method_69_code (2 : Nat) (Option.some Jvm.ClassFile.FieldType.int)).before A.a0 A.Z = true   := K.tab _ (List.mem_of_getElem? (i := 123) rfl)
theorem w_124 {A : Ax} (K : Wd A) : (Jvm.Cond.methodLink "java/lang/StringLatin1" (95 : Nat) ({ cls := "java/lang/StringLatin1", name := "indexOfChar", desc := "([BIII)I" } : Jvm.MethodName)).before A.a0 A.Z = true   := K.tab _ (List.mem_of_getElem? (i := 124) rfl)
theorem w_125 {A : Ax} (K : Wd A) : (Jvm.Cond.static ({ cls := "java/lang/StringLatin1", name := "indexOfChar", desc := "([BIII)I" } : Jvm.MethodName)).before A.a0 A.Z = true   := K.tab _ (List.mem_of_getElem? (i := 125) rfl)
theorem w_126 {A : Ax} (K : Wd A) : (Jvm.Cond.code ({ cls := "java/lang/StringLatin1", name := "indexOfChar", desc := "([BIII)I" } : Jvm.MethodName) jdk_43_method_23_code (6 : Nat) (Option.some Jvm.ClassFile.FieldType.int)).before A.a0 A.Z = true   := K.tab _ (List.mem_of_getElem? (i := 126) rfl)
theorem strAtoms {A : Ax} (K : Wd A) : ∀ a ∈ Bundle.stringAtoms, a.before A.a0 A.Z = true := fun a h => by
  simp only [Bundle.stringAtoms, Bundle.sN, List.mem_cons, List.not_mem_nil, or_false] at h
  rcases h with rfl | rfl | rfl | rfl | rfl | rfl | rfl
  · exact (w_8 K)
  · exact (w_9 K)
  · exact (w_10 K)
  · exact (w_11 K)
  · exact (w_12 K)
  · exact (w_13 K)
  · exact (w_14 K)
def tb_cdr : List In1 := [(0, .getstatic 38, 3), (3, .ifCond .eq 10, 3), (6, .aload_n 0, 1), (7, .getfield 15, 3), (10, .goto 4, 3), (13, .iconst 1, 1), (14, .ireturn, 1)]
set_option maxRecDepth 65536 in
theorem td_cdr : Dec jdk_42_method_152_code tb_cdr := by unfold Dec; decide +kernel
theorem pd_cdr : parseMethodDescriptor "()B" = some ⟨[], (some .byte)⟩ := by decide +kernel
theorem pn_cdr : plainFor (⟨"java/lang/String", "coder", "()B"⟩ : MethodName) = true := by decide +kernel
abbrev B_cdr : Bx := ((⟨"java/lang/String", "coder", "()B"⟩ : MethodName), jdk_42_method_152_code, 1, (Option.some Jvm.ClassFile.FieldType.byte), ({ frames := 0, cells := 0, slots := 0, locals := 0 } : Room), false)
set_option maxRecDepth 65536 in
set_option maxHeartbeats 4000000 in
theorem cdr_met {A : Ax} (K : Wd A) {a b : Addr} {cd : Int32} (hcd : byt8 cd = cd) {F G : List Ent} (m : StrE A a b cd ∈ F ∨ StrE A a b cd ∈ G) : Met A B_cdr #[.ref a] F G (fun v F' G' => v = some (.int cd) ∧ F = F' ∧ G = G') := by
  refine MetW.of_go pn_cdr K.ew (L := [.val (.ref a)]) (fun m => rfl) ?_
  intro D _
  obtain ⟨z, nz, hz⟩ := K.cmpt
  refine Go.getstatic (B := B_cdr) td_cdr 0 rfl (w_25 K) hz ?_
  refine Go.if0 (B := B_cdr) td_cdr 1 (pc' := 13) rfl (by decide) rfl ?_ ?_
  · intro (h : z = 0)
    exact absurd h nz
  · intro (h : ¬ (z = 0))
    refine Go.run (B := B_cdr) td_cdr 2 1 (pc' := 7) (L' := [.val (.ref a)]) (S' := [.ref a]) rfl ?_
    refine Go.getfield (B := B_cdr) td_cdr 3 rfl (w_26 K) m (List.mem_of_getElem? (i := 1) rfl) ?_
    refine Go.run (B := B_cdr) td_cdr 4 1 (pc' := 14) (L' := [.val (.ref a)]) (S' := [.int cd]) rfl ?_
    exact Go.retB (B := B_cdr) td_cdr 6 rfl rfl hcd ⟨rfl, rfl, rfl⟩ (by decide) (by decide)
def tb_len : List In1 := [(0, .aload_n 0, 1), (1, .getfield 9, 3), (4, .arraylength, 1), (5, .aload_n 0, 1), (6, .invokevirtual 335, 3), (9, .ishr, 1), (10, .ireturn, 1)]
set_option maxRecDepth 65536 in
theorem td_len : Dec jdk_42_method_54_code tb_len := by unfold Dec; decide +kernel
theorem pd_len : parseMethodDescriptor "()I" = some ⟨[], (some .int)⟩ := by decide +kernel
theorem pn_len : plainFor (⟨"java/lang/String", "length", "()I"⟩ : MethodName) = true := by decide +kernel
abbrev B_len : Bx := ((⟨"java/lang/String", "length", "()I"⟩ : MethodName), jdk_42_method_54_code, 1, (Option.some Jvm.ClassFile.FieldType.int), ({ frames := 1, cells := 0, slots := 0, locals := 13 } : Room), false)
set_option maxRecDepth 65536 in
set_option maxHeartbeats 4000000 in
theorem len_met {A : Ax} (K : Wd A) {a b : Addr} {cd z r : Int32} {vs : List Value} (hcd : byt8 cd = cd) (hz : (vs.length : Int) = z.toInt) (hr : z >>> (cd &&& 31) = r) {F G : List Ent} (m : StrE A a b cd ∈ F ∨ StrE A a b cd ∈ G) (m' : BytE A b vs ∈ F ∨ BytE A b vs ∈ G) : Met A B_len #[.ref a] F G (fun v F' G' => v = some (.int r) ∧ F = F' ∧ G = G') := by
  refine MetW.of_go pn_len K.ew (L := [.val (.ref a)]) (fun m => rfl) ?_
  intro D _
  refine Go.run (B := B_len) td_len 0 1 (pc' := 1) (L' := [.val (.ref a)]) (S' := [.ref a]) rfl ?_
  refine Go.getfield (B := B_len) td_len 1 rfl (w_27 K) m (List.mem_of_getElem? (i := 0) rfl) ?_
  refine Go.arraylength (B := B_len) td_len 2 (z := z) rfl m' hz ?_
  refine Go.run (B := B_len) td_len 3 1 (pc' := 6) (L' := [.val (.ref a)]) (S' := [.ref a, .int z]) rfl ?_
  refine Go.callV (B := B_len) td_len 4 (B' := B_cdr) (C := "java/lang/String") (a := a) (argsL := []) (rest := [.int z]) (W := 1) rfl (cdr_met K hcd m) m (fun c P => P.1) (w_89 K) (w_90 K) (w_91 K) (w_92 K) (w_92 K) (w_8 K) (w_93 K) (by decide) pd_cdr rfl rfl rfl rfl (Nat.le_of_eq rfl) (by decide) (by decide) (by decide) (by decide) ?_
  rintro _ _ _ ⟨rfl, rfl, rfl⟩
  show Go A B_len D _ 9 [.val (.ref a)] [.int cd, .int z] F G 0 0
  refine Go.run (B := B_len) td_len 5 1 (pc' := 10) (L' := [.val (.ref a)]) (S' := [.int (z >>> (cd &&& 31))]) rfl ?_
  rw [hr]
  exact Go.retI (B := B_len) td_len 6 rfl rfl ⟨rfl, rfl, rfl⟩ (by decide) (by decide)
def tb_isl : List In1 := [(0, .getstatic 38, 3), (3, .ifCond .eq 14, 3), (6, .aload_n 0, 1), (7, .getfield 15, 3), (10, .ifCond .ne 7, 3), (13, .iconst 1, 1), (14, .goto 4, 3), (17, .iconst 0, 1), (18, .ireturn, 1)]
set_option maxRecDepth 65536 in
theorem td_isl : Dec jdk_42_method_154_code tb_isl := by unfold Dec; decide +kernel
theorem pd_isl : parseMethodDescriptor "()Z" = some ⟨[], (some .boolean)⟩ := by decide +kernel
theorem pn_isl : plainFor (⟨"java/lang/String", "isLatin1", "()Z"⟩ : MethodName) = true := by decide +kernel
abbrev B_isl : Bx := ((⟨"java/lang/String", "isLatin1", "()Z"⟩ : MethodName), jdk_42_method_154_code, 1, (Option.some Jvm.ClassFile.FieldType.boolean), ({ frames := 0, cells := 0, slots := 0, locals := 0 } : Room), false)
set_option maxRecDepth 65536 in
set_option maxHeartbeats 4000000 in
theorem isl_met {A : Ax} (K : Wd A) {a b : Addr} {F G : List Ent} (m : StrE A a b 0 ∈ F ∨ StrE A a b 0 ∈ G) : Met A B_isl #[.ref a] F G (fun v F' G' => v = some (.int 1) ∧ F = F' ∧ G = G') := by
  refine MetW.of_go pn_isl K.ew (L := [.val (.ref a)]) (fun m => rfl) ?_
  intro D _
  obtain ⟨z, nz, hz⟩ := K.cmpt
  refine Go.getstatic (B := B_isl) td_isl 0 rfl (w_25 K) hz ?_
  refine Go.if0 (B := B_isl) td_isl 1 (pc' := 17) rfl (by decide) rfl ?_ ?_
  · intro (h : z = 0)
    exact absurd h nz
  · intro (h : ¬ (z = 0))
    refine Go.run (B := B_isl) td_isl 2 1 (pc' := 7) (L' := [.val (.ref a)]) (S' := [.ref a]) rfl ?_
    refine Go.getfield (B := B_isl) td_isl 3 rfl (w_26 K) m (List.mem_of_getElem? (i := 1) rfl) ?_
    refine Go.if0 (B := B_isl) td_isl 4 (pc' := 17) rfl (by decide) rfl ?_ ?_
    · intro (h2 : (0 : Int32) ≠ 0)
      exact absurd rfl h2
    · intro (h2 : ¬ ((0 : Int32) ≠ 0))
      refine Go.run (B := B_isl) td_isl 5 2 (pc' := 18) (L' := [.val (.ref a)]) (S' := [.int (1 : Int32)]) rfl ?_
      exact Go.retZ (B := B_isl) td_isl 8 rfl rfl rfl ⟨rfl, rfl, rfl⟩ (by decide) (by decide)
def tb_pck : List In1 := [(0, .iload_n 0, 1), (1, .ifCond .lt 8, 3), (4, .iload_n 0, 1), (5, .iload_n 1, 1), (6, .if_icmp .lt 10, 3), (9, .aload_n 2, 1), (10, .iload_n 0, 1), (11, .iload_n 1, 1), (12, .invokestatic 95, 3), (15, .athrow, 1), (16, .iload_n 0, 1), (17, .ireturn, 1)]
set_option maxRecDepth 65536 in
theorem td_pck : Dec jdk_41_method_11_code tb_pck := by unfold Dec; decide +kernel
theorem pd_pck : parseMethodDescriptor "(IILjava/util/function/BiFunction;)I" = some ⟨[.int, .int, (.object "java/util/function/BiFunction")], (some .int)⟩ := by decide +kernel
theorem pn_pck : plainFor (⟨"jdk/internal/util/Preconditions", "checkIndex", "(IILjava/util/function/BiFunction;)I"⟩ : MethodName) = true := by decide +kernel
abbrev B_pck : Bx := ((⟨"jdk/internal/util/Preconditions", "checkIndex", "(IILjava/util/function/BiFunction;)I"⟩ : MethodName), jdk_41_method_11_code, 3, (Option.some Jvm.ClassFile.FieldType.int), ({ frames := 0, cells := 0, slots := 0, locals := 0 } : Room), false)
set_option maxRecDepth 65536 in
set_option maxHeartbeats 4000000 in
theorem pckN_met {A : Ax} (K : Wd A) {i n : Int32} (hi : 0 ≤ i.toInt ∧ i.toInt < n.toInt) {F G : List Ent} : Met A B_pck #[.int i, .int n, .null] F G (fun v F' G' => v = some (.int i) ∧ F = F' ∧ G = G') := by
  refine MetW.of_go pn_pck K.ew (L := [.val (.int i), .val (.int n), .val (.null)]) (fun m => rfl) ?_
  intro D _
  refine Go.run (B := B_pck) td_pck 0 1 (pc' := 1) (L' := [.val (.int i), .val (.int n), .val (.null)]) (S' := [.int i]) rfl ?_
  refine Go.if0 (B := B_pck) td_pck 1 (pc' := 9) rfl (by decide) rfl ?_ ?_
  · intro (h : i < 0)
    exact absurd (i32_lt.mp h) (Int.not_lt.mpr hi.1)
  · intro (h : ¬ (i < 0))
    refine Go.run (B := B_pck) td_pck 2 2 (pc' := 6) (L' := [.val (.int i), .val (.int n), .val (.null)]) (S' := [.int n, .int i]) rfl ?_
    refine Go.icmp (B := B_pck) td_pck 4 (pc' := 16) rfl (by decide) rfl ?_ ?_
    · intro (h2 : i < n)
      refine Go.run (B := B_pck) td_pck 10 1 (pc' := 17) (L' := [.val (.int i), .val (.int n), .val (.null)]) (S' := [.int i]) rfl ?_
      exact Go.retI (B := B_pck) td_pck 11 rfl rfl ⟨rfl, rfl, rfl⟩ (by decide) (by decide)
    · intro (h2 : ¬ (i < n))
      exact absurd (i32_lt.mpr hi.2) h2
set_option maxRecDepth 65536 in
set_option maxHeartbeats 4000000 in
theorem pckR_met {A : Ax} (K : Wd A) {r : Addr} {i n : Int32} (hi : 0 ≤ i.toInt ∧ i.toInt < n.toInt) {F G : List Ent} : Met A B_pck #[.int i, .int n, .ref r] F G (fun v F' G' => v = some (.int i) ∧ F = F' ∧ G = G') := by
  refine MetW.of_go pn_pck K.ew (L := [.val (.int i), .val (.int n), .val (.ref r)]) (fun m => rfl) ?_
  intro D _
  refine Go.run (B := B_pck) td_pck 0 1 (pc' := 1) (L' := [.val (.int i), .val (.int n), .val (.ref r)]) (S' := [.int i]) rfl ?_
  refine Go.if0 (B := B_pck) td_pck 1 (pc' := 9) rfl (by decide) rfl ?_ ?_
  · intro (h : i < 0)
    exact absurd (i32_lt.mp h) (Int.not_lt.mpr hi.1)
  · intro (h : ¬ (i < 0))
    refine Go.run (B := B_pck) td_pck 2 2 (pc' := 6) (L' := [.val (.int i), .val (.int n), .val (.ref r)]) (S' := [.int n, .int i]) rfl ?_
    refine Go.icmp (B := B_pck) td_pck 4 (pc' := 16) rfl (by decide) rfl ?_ ?_
    · intro (h2 : i < n)
      refine Go.run (B := B_pck) td_pck 10 1 (pc' := 17) (L' := [.val (.int i), .val (.int n), .val (.ref r)]) (S' := [.int i]) rfl ?_
      exact Go.retI (B := B_pck) td_pck 11 rfl rfl ⟨rfl, rfl, rfl⟩ (by decide) (by decide)
    · intro (h2 : ¬ (i < n))
      exact absurd (i32_lt.mpr hi.2) h2
def tb_sck : List In1 := [(0, .iload_n 0, 1), (1, .iload_n 1, 1), (2, .getstatic 1053, 3), (5, .invokestatic 1059, 3), (8, .pop, 1), (9, .return_, 1)]
set_option maxRecDepth 65536 in
theorem td_sck : Dec jdk_42_method_155_code tb_sck := by unfold Dec; decide +kernel
theorem pd_sck : parseMethodDescriptor "(II)V" = some ⟨[.int, .int], none⟩ := by decide +kernel
theorem pn_sck : plainFor (⟨"java/lang/String", "checkIndex", "(II)V"⟩ : MethodName) = true := by decide +kernel
abbrev B_sck : Bx := ((⟨"java/lang/String", "checkIndex", "(II)V"⟩ : MethodName), jdk_42_method_155_code, 2, (Option.none : Option Jvm.ClassFile.FieldType), ({ frames := 1, cells := 0, slots := 0, locals := 14 } : Room), false)
set_option maxRecDepth 65536 in
set_option maxHeartbeats 4000000 in
theorem sck_met {A : Ax} (K : Wd A) {i n : Int32} (hi : 0 ≤ i.toInt ∧ i.toInt < n.toInt) {F G : List Ent} : Met A B_sck #[.int i, .int n] F G (fun v F' G' => v = none ∧ F = F' ∧ G = G') := by
  refine MetW.of_go pn_sck K.ew (L := [.val (.int i), .val (.int n)]) (fun m => rfl) ?_
  intro D _
  obtain ⟨v, hv, hs⟩ := K.sio
  rcases ref_cases hv with rfl | ⟨r, rfl⟩
  · refine Go.run (B := B_sck) td_sck 0 2 (pc' := 2) (L' := [.val (.int i), .val (.int n)]) (S' := [.int n, .int i]) rfl ?_
    refine Go.getstatic (B := B_sck) td_sck 2 rfl (w_35 K) hs ?_
    refine Go.callS (B := B_sck) td_sck 3 (B' := B_pck) (argsL := [.int i, .int n, .null]) (rest := []) (W := 0) rfl (pckN_met K hi) (w_37 K) (w_38 K) (w_36 K) (w_39 K) (by decide) pd_pck rfl rfl rfl rfl (Nat.le_of_eq rfl) (by decide) (by decide) (by decide) (by decide) ?_
    rintro _ _ _ ⟨rfl, rfl, rfl⟩
    show Go A B_sck D _ 8 [.val (.int i), .val (.int n)] [.int i] F G 0 0
    refine Go.run (B := B_sck) td_sck 4 1 (pc' := 9) (L' := [.val (.int i), .val (.int n)]) (S' := []) rfl ?_
    exact Go.retV (B := B_sck) td_sck 5 rfl rfl ⟨rfl, rfl, rfl⟩ (by decide) (by decide)
  · refine Go.run (B := B_sck) td_sck 0 2 (pc' := 2) (L' := [.val (.int i), .val (.int n)]) (S' := [.int n, .int i]) rfl ?_
    refine Go.getstatic (B := B_sck) td_sck 2 rfl (w_35 K) hs ?_
    refine Go.callS (B := B_sck) td_sck 3 (B' := B_pck) (argsL := [.int i, .int n, .ref r]) (rest := []) (W := 0) rfl (pckR_met K hi) (w_37 K) (w_38 K) (w_36 K) (w_39 K) (by decide) pd_pck rfl rfl rfl rfl (Nat.le_of_eq rfl) (by decide) (by decide) (by decide) (by decide) ?_
    rintro _ _ _ ⟨rfl, rfl, rfl⟩
    show Go A B_sck D _ 8 [.val (.int i), .val (.int n)] [.int i] F G 0 0
    refine Go.run (B := B_sck) td_sck 4 1 (pc' := 9) (L' := [.val (.int i), .val (.int n)]) (S' := []) rfl ?_
    exact Go.retV (B := B_sck) td_sck 5 rfl rfl ⟨rfl, rfl, rfl⟩ (by decide) (by decide)
def tb_lca : List In1 := [(0, .iload_n 1, 1), (1, .aload_n 0, 1), (2, .arraylength, 1), (3, .invokestatic 9, 3), (6, .aload_n 0, 1), (7, .iload_n 1, 1), (8, .baload, 1), (9, .sipush 255, 3), (12, .iand, 1), (13, .i2c, 1), (14, .ireturn, 1)]
set_option maxRecDepth 65536 in
theorem td_lca : Dec jdk_43_method_2_code tb_lca := by unfold Dec; decide +kernel
theorem pd_lca : parseMethodDescriptor "([BI)C" = some ⟨[(.array .byte), .int], (some .char)⟩ := by decide +kernel
theorem pn_lca : plainFor (⟨"java/lang/StringLatin1", "charAt", "([BI)C"⟩ : MethodName) = true := by decide +kernel
abbrev B_lca : Bx := ((⟨"java/lang/StringLatin1", "charAt", "([BI)C"⟩ : MethodName), jdk_43_method_2_code, 2, (Option.some Jvm.ClassFile.FieldType.char), ({ frames := 2, cells := 0, slots := 0, locals := 27 } : Room), false)
set_option maxRecDepth 65536 in
set_option maxHeartbeats 4000000 in
theorem lca_met {A : Ax} (K : Wd A) {b : Addr} {j z x r : Int32} {vs : List Value} (hz : (vs.length : Int) = z.toInt) (hi : InB j vs.length) (hv : vs[j.toInt.toNat]? = some (.int x)) (hr : chr16 (x &&& 255) = r) (hr2 : chr16 r = r) {F G : List Ent} (m' : BytE A b vs ∈ F ∨ BytE A b vs ∈ G) : Met A B_lca #[.ref b, .int j] F G (fun v F' G' => v = some (.int r) ∧ F = F' ∧ G = G') := by
  refine MetW.of_go pn_lca K.ew (L := [.val (.ref b), .val (.int j)]) (fun m => rfl) ?_
  intro D _
  refine Go.run (B := B_lca) td_lca 0 2 (pc' := 2) (L' := [.val (.ref b), .val (.int j)]) (S' := [.ref b, .int j]) rfl ?_
  refine Go.arraylength (B := B_lca) td_lca 2 (z := z) rfl m' hz ?_
  refine Go.callS (B := B_lca) td_lca 3 (B' := B_sck) (argsL := [.int j, .int z]) (rest := []) (W := 0) rfl (sck_met K ⟨hi.1, by have := hi.2; omega⟩) (w_32 K) (w_33 K) (w_8 K) (w_34 K) (by decide) pd_sck rfl rfl rfl rfl (Nat.le_of_eq rfl) (by decide) (by decide) (by decide) (by decide) ?_
  rintro _ _ _ ⟨rfl, rfl, rfl⟩
  show Go A B_lca D _ 6 [.val (.ref b), .val (.int j)] [] F G 0 0
  refine Go.run (B := B_lca) td_lca 4 2 (pc' := 8) (L' := [.val (.ref b), .val (.int j)]) (S' := [.int j, .ref b]) rfl ?_
  refine Go.baload (B := B_lca) td_lca 6 (v := .int x) rfl m' hi hv ?_
  refine Go.run (B := B_lca) td_lca 7 3 (pc' := 14) (L' := [.val (.ref b), .val (.int j)]) (S' := [.int (chr16 (x &&& (255 : Int32)))]) rfl ?_
  rw [hr]
  exact Go.retC (B := B_lca) td_lca 10 rfl rfl hr2 ⟨rfl, rfl, rfl⟩ (by decide) (by decide)
def tb_cha : List In1 := [(0, .aload_n 0, 1), (1, .invokevirtual 492, 3), (4, .ifCond .eq 12, 3), (7, .aload_n 0, 1), (8, .getfield 9, 3), (11, .iload_n 1, 1), (12, .invokestatic 495, 3), (15, .ireturn, 1), (16, .aload_n 0, 1), (17, .getfield 9, 3), (20, .iload_n 1, 1), (21, .invokestatic 498, 3), (24, .ireturn, 1)]
set_option maxRecDepth 65536 in
theorem td_cha : Dec jdk_42_method_56_code tb_cha := by unfold Dec; decide +kernel
theorem pd_cha : parseMethodDescriptor "(I)C" = some ⟨[.int], (some .char)⟩ := by decide +kernel
theorem pn_cha : plainFor (⟨"java/lang/String", "charAt", "(I)C"⟩ : MethodName) = true := by decide +kernel
abbrev B_cha : Bx := ((⟨"java/lang/String", "charAt", "(I)C"⟩ : MethodName), jdk_42_method_56_code, 2, (Option.some Jvm.ClassFile.FieldType.char), ({ frames := 3, cells := 0, slots := 0, locals := 40 } : Room), false)
set_option maxRecDepth 65536 in
set_option maxHeartbeats 4000000 in
theorem cha_met {A : Ax} (K : Wd A) {a b : Addr} {j z x r : Int32} {vs : List Value} (hz : (vs.length : Int) = z.toInt) (hi : InB j vs.length) (hv : vs[j.toInt.toNat]? = some (.int x)) (hr : chr16 (x &&& 255) = r) (hr2 : chr16 r = r) {F G : List Ent} (m : StrE A a b 0 ∈ F ∨ StrE A a b 0 ∈ G) (m' : BytE A b vs ∈ F ∨ BytE A b vs ∈ G) : Met A B_cha #[.ref a, .int j] F G (fun v F' G' => v = some (.int r) ∧ F = F' ∧ G = G') := by
  refine MetW.of_go pn_cha K.ew (L := [.val (.ref a), .val (.int j)]) (fun m => rfl) ?_
  intro D _
  refine Go.run (B := B_cha) td_cha 0 1 (pc' := 1) (L' := [.val (.ref a), .val (.int j)]) (S' := [.ref a]) rfl ?_
  refine Go.callV (B := B_cha) td_cha 1 (B' := B_isl) (C := "java/lang/String") (a := a) (argsL := []) (rest := []) (W := 0) rfl (isl_met K m) m (fun c P => P.1) (w_20 K) (w_21 K) (w_22 K) (w_23 K) (w_23 K) (w_8 K) (w_24 K) (by decide) pd_isl rfl rfl rfl rfl (Nat.le_of_eq rfl) (by decide) (by decide) (by decide) (by decide) ?_
  rintro _ _ _ ⟨rfl, rfl, rfl⟩
  show Go A B_cha D _ 4 [.val (.ref a), .val (.int j)] [.int (1 : Int32)] F G 0 0
  refine Go.if0 (B := B_cha) td_cha 2 (pc' := 16) rfl (by decide) rfl ?_ ?_
  · intro (h : (1 : Int32) = 0)
    exact absurd h (by decide)
  · intro (h : ¬ ((1 : Int32) = 0))
    refine Go.run (B := B_cha) td_cha 3 1 (pc' := 8) (L' := [.val (.ref a), .val (.int j)]) (S' := [.ref a]) rfl ?_
    refine Go.getfield (B := B_cha) td_cha 4 rfl (w_27 K) m (List.mem_of_getElem? (i := 0) rfl) ?_
    refine Go.run (B := B_cha) td_cha 5 1 (pc' := 12) (L' := [.val (.ref a), .val (.int j)]) (S' := [.int j, .ref b]) rfl ?_
    refine Go.callS (B := B_cha) td_cha 6 (B' := B_lca) (argsL := [.ref b, .int j]) (rest := []) (W := 0) rfl (lca_met K hz hi hv hr hr2 m') (w_28 K) (w_29 K) (w_30 K) (w_31 K) (by decide) pd_lca rfl rfl rfl rfl (Nat.le_of_eq rfl) (by decide) (by decide) (by decide) (by decide) ?_
    rintro _ _ _ ⟨rfl, rfl, rfl⟩
    show Go A B_cha D _ 15 [.val (.ref a), .val (.int j)] [.int r] F G 0 0
    exact Go.retC (B := B_cha) td_cha 7 rfl rfl hr2 ⟨rfl, rfl, rfl⟩ (by decide) (by decide)
def tb_cmp : List In1 := [(0, .iconst 0, 1), (1, .istore 5, 2), (3, .iload 5, 2), (5, .iload 4, 2), (7, .if_icmp .ge 37, 3), (10, .aload_n 0, 1), (11, .iload_n 1, 1), (12, .caload, 1), (13, .istore 6, 2), (15, .iload 6, 2), (17, .sipush 255, 3), (20, .if_icmp .le 6, 3), (23, .iload 5, 2), (25, .ireturn, 1), (26, .aload_n 2, 1), (27, .iload_n 3, 1), (28, .iload 6, 2), (30, .i2b, 1), (31, .bastore, 1), (32, .iinc 1 1, 3), (35, .iinc 3 1, 3), (38, .iinc 5 1, 3), (41, .goto (-38), 3), (44, .iload 4, 2), (46, .ireturn, 1)]
set_option maxRecDepth 65536 in
theorem td_cmp : Dec jdk_52_method_21_code tb_cmp := by unfold Dec; decide +kernel
theorem pd_cmp : parseMethodDescriptor "([CI[BII)I" = some ⟨[(.array .char), .int, (.array .byte), .int, .int], (some .int)⟩ := by decide +kernel
theorem pn_cmp : plainFor (⟨"java/lang/StringUTF16", "compress", "([CI[BII)I"⟩ : MethodName) = true := by decide +kernel
abbrev B_cmp : Bx := ((⟨"java/lang/StringUTF16", "compress", "([CI[BII)I"⟩ : MethodName), jdk_52_method_21_code, 7, (Option.some Jvm.ClassFile.FieldType.int), ({ frames := 0, cells := 0, slots := 0, locals := 0 } : Room), false)
set_option maxRecDepth 65536 in
set_option maxHeartbeats 4000000 in
theorem cmp_met {A : Ax} (K : Wd A) {a b : Addr} {cs : List Int32} (hlat : Lat cs) (hlen : cs.length < 2 ^ 31) {F G : List Ent} (m : (a, ArrP A .char (chV cs)) ∈ F ∨ (a, ArrP A .char (chV cs)) ∈ G) : Met A B_cmp #[.ref a, .int 0, .ref b, .int 0, .int (nI cs.length)] ((b, ArrP A .byte (List.replicate cs.length (.int 0))) :: F) G (fun v F' G' => v = some (.int (nI cs.length)) ∧ (b, ArrP A .byte (latB cs)) :: F = F' ∧ G = G') := by
  refine MetW.of_go pn_cmp K.ew (L := [.val (.ref a), .val (.int 0), .val (.ref b), .val (.int 0), .val (.int (nI cs.length)), .unset, .unset]) (fun m => rfl) ?_
  intro D _
  have loop : ∀ (suf pre : List Int32) (o : Slot), cs = pre ++ suf → (o = .unset ∨ ∃ x, o = .val (.int x)) → Go A B_cmp D (fun v F' G' => v = some (.int (nI cs.length)) ∧ (b, ArrP A .byte (latB cs)) :: F = F' ∧ G = G') 3 [.val (.ref a), .val (.int (nI pre.length)), .val (.ref b), .val (.int (nI pre.length)), .val (.int (nI cs.length)), .val (.int (nI pre.length)), o] [] ((b, ArrP A .byte (latB pre ++ zrs suf)) :: F) G 0 0 := by
    intro suf
    induction suf with
    | nil =>
      intro pre o hc ho
      have e : cs = pre := by simpa using hc
      rcases ho with rfl | ⟨x6, rfl⟩
      · refine Go.run (B := B_cmp) td_cmp 2 2 (pc' := 7) (L' := [.val (.ref a), .val (.int (nI pre.length)), .val (.ref b), .val (.int (nI pre.length)), .val (.int (nI cs.length)), .val (.int (nI pre.length)), .unset]) (S' := [.int (nI cs.length), .int (nI pre.length)]) rfl ?_
        refine Go.icmp (B := B_cmp) td_cmp 4 (pc' := 44) rfl (by decide) rfl ?_ ?_
        · intro (h : (nI pre.length) ≥ (nI cs.length))
          refine Go.run (B := B_cmp) td_cmp 23 1 (pc' := 46) (L' := [.val (.ref a), .val (.int (nI pre.length)), .val (.ref b), .val (.int (nI pre.length)), .val (.int (nI cs.length)), .val (.int (nI pre.length)), .unset]) (S' := [.int (nI cs.length)]) rfl ?_
          exact Go.retI (B := B_cmp) td_cmp 24 rfl rfl ⟨rfl, by rw [e]; simp [zrs], rfl⟩ (by decide) (by decide)
        · intro (h : ¬ ((nI pre.length) ≥ (nI cs.length)))
          exact absurd (by rw [e]; exact Int32.le_refl _) h
      · refine Go.run (B := B_cmp) td_cmp 2 2 (pc' := 7) (L' := [.val (.ref a), .val (.int (nI pre.length)), .val (.ref b), .val (.int (nI pre.length)), .val (.int (nI cs.length)), .val (.int (nI pre.length)), .val (.int x6)]) (S' := [.int (nI cs.length), .int (nI pre.length)]) rfl ?_
        refine Go.icmp (B := B_cmp) td_cmp 4 (pc' := 44) rfl (by decide) rfl ?_ ?_
        · intro (h : (nI pre.length) ≥ (nI cs.length))
          refine Go.run (B := B_cmp) td_cmp 23 1 (pc' := 46) (L' := [.val (.ref a), .val (.int (nI pre.length)), .val (.ref b), .val (.int (nI pre.length)), .val (.int (nI cs.length)), .val (.int (nI pre.length)), .val (.int x6)]) (S' := [.int (nI cs.length)]) rfl ?_
          exact Go.retI (B := B_cmp) td_cmp 24 rfl rfl ⟨rfl, by rw [e]; simp [zrs], rfl⟩ (by decide) (by decide)
        · intro (h : ¬ ((nI pre.length) ≥ (nI cs.length)))
          exact absurd (by rw [e]; exact Int32.le_refl _) h
    | cons c suf ih =>
      intro pre o hc ho
      have hc1 := hlat c (by rw [hc]; simp)
      have hl1 : (pre ++ c :: suf).length < 2 ^ 31 := by rw [← hc]; exact hlen
      have ml : pre.length < cs.length := by rw [hc]; simp
      have m2 : (a, ArrP A .char (chV (pre ++ c :: suf))) ∈ F ∨ (a, ArrP A .char (chV (pre ++ c :: suf))) ∈ G := by rw [← hc]; exact m
      have hih := ih (pre ++ [c]) (.val (.int c)) (by simp [hc]) (Or.inr ⟨c, rfl⟩)
      rw [own_len_snoc] at hih
      rcases ho with rfl | ⟨x6, rfl⟩
      · refine Go.run (B := B_cmp) td_cmp 2 2 (pc' := 7) (L' := [.val (.ref a), .val (.int (nI pre.length)), .val (.ref b), .val (.int (nI pre.length)), .val (.int (nI cs.length)), .val (.int (nI pre.length)), .unset]) (S' := [.int (nI cs.length), .int (nI pre.length)]) rfl ?_
        refine Go.icmp (B := B_cmp) td_cmp 4 (pc' := 44) rfl (by decide) rfl ?_ ?_
        · intro (h : (nI pre.length) ≥ (nI cs.length))
          exact absurd ((nI_lt (by omega) hlen).mpr ml) (Int32.not_lt.mpr h)
        · intro (h : ¬ ((nI pre.length) ≥ (nI cs.length)))
          refine Go.run (B := B_cmp) td_cmp 5 2 (pc' := 12) (L' := [.val (.ref a), .val (.int (nI pre.length)), .val (.ref b), .val (.int (nI pre.length)), .val (.int (nI cs.length)), .val (.int (nI pre.length)), .unset]) (S' := [.int (nI pre.length), .ref a]) rfl ?_
          refine Go.caload (B := B_cmp) td_cmp 7 (v := .int c) rfl (m2.imp (List.mem_cons_of_mem _) id) (own_chr_in _ _ _ hl1) (own_chr_get _ _ _ hl1) ?_
          refine Go.run (B := B_cmp) td_cmp 8 3 (pc' := 20) (L' := [.val (.ref a), .val (.int (nI pre.length)), .val (.ref b), .val (.int (nI pre.length)), .val (.int (nI cs.length)), .val (.int (nI pre.length)), .val (.int c)]) (S' := [.int (255 : Int32), .int c]) rfl ?_
          refine Go.icmp (B := B_cmp) td_cmp 11 (pc' := 26) rfl (by decide) rfl ?_ ?_
          · intro (h2 : c ≤ (255 : Int32))
            refine Go.run (B := B_cmp) td_cmp 14 4 (pc' := 31) (L' := [.val (.ref a), .val (.int (nI pre.length)), .val (.ref b), .val (.int (nI pre.length)), .val (.int (nI cs.length)), .val (.int (nI pre.length)), .val (.int c)]) (S' := [.int (byt8 c), .int (nI pre.length), .ref b]) rfl ?_
            refine Go.bastore (B := B_cmp) td_cmp 18 (vs' := (latB (pre ++ [c]) ++ zrs suf)) rfl (own_lat_in _ _ _ hl1) (own_lat_set _ _ _ hl1) ?_
            refine Go.run (B := B_cmp) td_cmp 19 4 (pc' := 3) (L' := [.val (.ref a), .val (.int ((nI pre.length) + (1 : Int32))), .val (.ref b), .val (.int ((nI pre.length) + (1 : Int32))), .val (.int (nI cs.length)), .val (.int ((nI pre.length) + (1 : Int32))), .val (.int c)]) (S' := []) rfl ?_
            exact hih
          · intro (h2 : ¬ (c ≤ (255 : Int32)))
            exact absurd (i32_le.mpr (Int.le_of_lt_add_one hc1.2)) h2
      · refine Go.run (B := B_cmp) td_cmp 2 2 (pc' := 7) (L' := [.val (.ref a), .val (.int (nI pre.length)), .val (.ref b), .val (.int (nI pre.length)), .val (.int (nI cs.length)), .val (.int (nI pre.length)), .val (.int x6)]) (S' := [.int (nI cs.length), .int (nI pre.length)]) rfl ?_
        refine Go.icmp (B := B_cmp) td_cmp 4 (pc' := 44) rfl (by decide) rfl ?_ ?_
        · intro (h : (nI pre.length) ≥ (nI cs.length))
          exact absurd ((nI_lt (by omega) hlen).mpr ml) (Int32.not_lt.mpr h)
        · intro (h : ¬ ((nI pre.length) ≥ (nI cs.length)))
          refine Go.run (B := B_cmp) td_cmp 5 2 (pc' := 12) (L' := [.val (.ref a), .val (.int (nI pre.length)), .val (.ref b), .val (.int (nI pre.length)), .val (.int (nI cs.length)), .val (.int (nI pre.length)), .val (.int x6)]) (S' := [.int (nI pre.length), .ref a]) rfl ?_
          refine Go.caload (B := B_cmp) td_cmp 7 (v := .int c) rfl (m2.imp (List.mem_cons_of_mem _) id) (own_chr_in _ _ _ hl1) (own_chr_get _ _ _ hl1) ?_
          refine Go.run (B := B_cmp) td_cmp 8 3 (pc' := 20) (L' := [.val (.ref a), .val (.int (nI pre.length)), .val (.ref b), .val (.int (nI pre.length)), .val (.int (nI cs.length)), .val (.int (nI pre.length)), .val (.int c)]) (S' := [.int (255 : Int32), .int c]) rfl ?_
          refine Go.icmp (B := B_cmp) td_cmp 11 (pc' := 26) rfl (by decide) rfl ?_ ?_
          · intro (h2 : c ≤ (255 : Int32))
            refine Go.run (B := B_cmp) td_cmp 14 4 (pc' := 31) (L' := [.val (.ref a), .val (.int (nI pre.length)), .val (.ref b), .val (.int (nI pre.length)), .val (.int (nI cs.length)), .val (.int (nI pre.length)), .val (.int c)]) (S' := [.int (byt8 c), .int (nI pre.length), .ref b]) rfl ?_
            refine Go.bastore (B := B_cmp) td_cmp 18 (vs' := (latB (pre ++ [c]) ++ zrs suf)) rfl (own_lat_in _ _ _ hl1) (own_lat_set _ _ _ hl1) ?_
            refine Go.run (B := B_cmp) td_cmp 19 4 (pc' := 3) (L' := [.val (.ref a), .val (.int ((nI pre.length) + (1 : Int32))), .val (.ref b), .val (.int ((nI pre.length) + (1 : Int32))), .val (.int (nI cs.length)), .val (.int ((nI pre.length) + (1 : Int32))), .val (.int c)]) (S' := []) rfl ?_
            exact hih
          · intro (h2 : ¬ (c ≤ (255 : Int32)))
            exact absurd (i32_le.mpr (Int.le_of_lt_add_one hc1.2)) h2
  refine Go.run (B := B_cmp) td_cmp 0 2 (pc' := 3) (L' := [.val (.ref a), .val (.int 0), .val (.ref b), .val (.int 0), .val (.int (nI cs.length)), .val (.int (0 : Int32)), .unset]) (S' := []) rfl ?_
  rw [zrs_rep]
  exact loop cs [] .unset rfl (Or.inl rfl)
def tb_cmb : List In1 := [(0, .iload_n 2, 1), (1, .newarray .byte, 2), (3, .astore_n 3, 1), (4, .aload_n 0, 1), (5, .iload_n 1, 1), (6, .aload_n 3, 1), (7, .iconst 0, 1), (8, .iload_n 2, 1), (9, .invokestatic 115, 3), (12, .istore 4, 2), (14, .iload 4, 2), (16, .iload_n 2, 1), (17, .if_icmp .eq 40, 3), (20, .aload_n 0, 1), (21, .iload_n 1, 1), (22, .iload_n 2, 1), (23, .invokestatic 119, 3), (26, .astore 5, 2), (28, .aload 5, 2), (30, .iload 4, 2), (32, .invokestatic 71, 3), (35, .sipush 255, 3), (38, .if_icmp .gt 16, 3), (41, .aload 5, 2), (43, .iconst 0, 1), (44, .aload_n 3, 1), (45, .iconst 0, 1), (46, .iload_n 2, 1), (47, .invokestatic 123, 3), (50, .iload_n 2, 1), (51, .if_icmp .eq 6, 3), (54, .aload 5, 2), (56, .areturn, 1), (57, .aload_n 3, 1), (58, .areturn, 1)]
set_option maxRecDepth 65536 in
theorem td_cmb : Dec jdk_52_method_16_code tb_cmb := by unfold Dec; decide +kernel
theorem pd_cmb : parseMethodDescriptor "([CII)[B" = some ⟨[(.array .char), .int, .int], (some (.array .byte))⟩ := by decide +kernel
theorem pn_cmb : plainFor (⟨"java/lang/StringUTF16", "compress", "([CII)[B"⟩ : MethodName) = true := by decide +kernel
abbrev B_cmb : Bx := ((⟨"java/lang/StringUTF16", "compress", "([CII)[B"⟩ : MethodName), jdk_52_method_16_code, 6, (Option.some (Jvm.ClassFile.FieldType.array Jvm.ClassFile.FieldType.byte)), ({ frames := 1, cells := 1, slots := 12, locals := 18 } : Room), false)
set_option maxRecDepth 65536 in
set_option maxHeartbeats 4000000 in
theorem cmb_met {A : Ax} (K : Wd A) {a : Addr} {cs : List Int32} (hlat : Lat cs) (hcap : cs.length ≤ 12) {F G : List Ent} (m : (a, ArrP A .char (chV cs)) ∈ F ∨ (a, ArrP A .char (chV cs)) ∈ G) : Met A B_cmb #[.ref a, .int 0, .int (nI cs.length)] F G (fun v F' G' => ∃ b, v = some (.ref b) ∧ (b, ArrP A .byte (latB cs)) :: F = F' ∧ G = G') := by
  refine MetW.of_go pn_cmb K.ew (L := [.val (.ref a), .val (.int 0), .val (.int (nI cs.length)), .unset, .unset, .unset]) (fun m => rfl) ?_
  intro D _
  refine Go.run (B := B_cmb) td_cmb 0 1 (pc' := 1) (L' := [.val (.ref a), .val (.int 0), .val (.int (nI cs.length)), .unset, .unset, .unset]) (S' := [.int (nI cs.length)]) rfl ?_
  refine Go.newarray (B := B_cmb) td_cmb 1 (ty := .byte) (cap := 12) (vs := (List.replicate cs.length (.int 0))) rfl rfl (w_10 K) (by rw [nI_toInt (by omega)]; omega) (by rw [nI_nat (by omega)]; exact hcap) (by decide) (by decide) (by decide) (by rw [nI_nat (by omega)]; rfl) ?_
  intro b
  show Go A B_cmb D _ 3 [.val (.ref a), .val (.int 0), .val (.int (nI cs.length)), .unset, .unset, .unset] [.ref b] ((b, ArrP A .byte (List.replicate cs.length (.int 0))) :: F) G 1 12
  refine Go.run (B := B_cmb) td_cmb 2 6 (pc' := 9) (L' := [.val (.ref a), .val (.int 0), .val (.int (nI cs.length)), .val (.ref b), .unset, .unset]) (S' := [.int (nI cs.length), .int (0 : Int32), .ref b, .int 0, .ref a]) rfl ?_
  refine Go.callS (B := B_cmb) td_cmb 8 (B' := B_cmp) (argsL := [.ref a, .int 0, .ref b, .int (0 : Int32), .int (nI cs.length)]) (rest := []) (W := 0) rfl (cmp_met K hlat (by omega) m) (w_58 K) (w_59 K) (w_56 K) (w_60 K) (by decide) pd_cmp rfl rfl rfl rfl (Nat.le_of_eq rfl) (by decide) (by decide) (by decide) (by decide) ?_
  rintro _ _ _ ⟨rfl, rfl, rfl⟩
  show Go A B_cmb D _ 12 [.val (.ref a), .val (.int 0), .val (.int (nI cs.length)), .val (.ref b), .unset, .unset] [.int (nI cs.length)] ((b, ArrP A .byte (latB cs)) :: F) G 1 12
  refine Go.run (B := B_cmb) td_cmb 9 3 (pc' := 17) (L' := [.val (.ref a), .val (.int 0), .val (.int (nI cs.length)), .val (.ref b), .val (.int (nI cs.length)), .unset]) (S' := [.int (nI cs.length), .int (nI cs.length)]) rfl ?_
  refine Go.icmp (B := B_cmb) td_cmb 12 (pc' := 57) rfl (by decide) rfl ?_ ?_
  · intro (h : (nI cs.length) = (nI cs.length))
    refine Go.run (B := B_cmb) td_cmb 33 1 (pc' := 58) (L' := [.val (.ref a), .val (.int 0), .val (.int (nI cs.length)), .val (.ref b), .val (.int (nI cs.length)), .unset]) (S' := [.ref b]) rfl ?_
    exact Go.retA (B := B_cmb) td_cmb 34 rfl rfl rfl rfl ⟨b, rfl, rfl, rfl⟩ (by decide) (by decide)
  · intro (h : ¬ ((nI cs.length) = (nI cs.length)))
    exact absurd rfl h
def tb_cfa : List In1 := [(0, .iload_n 1, 1), (1, .aload_n 0, 1), (2, .arraylength, 1), (3, .isub, 1), (4, .bipush 31, 2), (6, .iushr, 1), (7, .i2b, 1), (8, .ireturn, 1)]
set_option maxRecDepth 65536 in
theorem td_cfa : Dec jdk_52_method_15_code tb_cfa := by unfold Dec; decide +kernel
theorem pd_cfa : parseMethodDescriptor "([BI)B" = some ⟨[(.array .byte), .int], (some .byte)⟩ := by decide +kernel
theorem pn_cfa : plainFor (⟨"java/lang/StringUTF16", "coderFromArrayLen", "([BI)B"⟩ : MethodName) = true := by decide +kernel
abbrev B_cfa : Bx := ((⟨"java/lang/StringUTF16", "coderFromArrayLen", "([BI)B"⟩ : MethodName), jdk_52_method_15_code, 2, (Option.some Jvm.ClassFile.FieldType.byte), ({ frames := 0, cells := 0, slots := 0, locals := 0 } : Room), false)
set_option maxRecDepth 65536 in
set_option maxHeartbeats 4000000 in
theorem cfa_met {A : Ax} (K : Wd A) {b : Addr} {n z r : Int32} {vs : List Value} (hz : (vs.length : Int) = z.toInt) (hr : byt8 (Jvm.Free.XT.ushr (n - z) 31) = r) (hr2 : byt8 r = r) {F G : List Ent} (m' : BytE A b vs ∈ F ∨ BytE A b vs ∈ G) : Met A B_cfa #[.ref b, .int n] F G (fun v F' G' => v = some (.int r) ∧ F = F' ∧ G = G') := by
  refine MetW.of_go pn_cfa K.ew (L := [.val (.ref b), .val (.int n)]) (fun m => rfl) ?_
  intro D _
  refine Go.run (B := B_cfa) td_cfa 0 2 (pc' := 2) (L' := [.val (.ref b), .val (.int n)]) (S' := [.ref b, .int n]) rfl ?_
  refine Go.arraylength (B := B_cfa) td_cfa 2 (z := z) rfl m' hz ?_
  refine Go.run (B := B_cfa) td_cfa 3 4 (pc' := 8) (L' := [.val (.ref b), .val (.int n)]) (S' := [.int (byt8 (Jvm.Free.XT.ushr (n - z) (31 : Int32)))]) rfl ?_
  rw [hr]
  exact Go.retB (B := B_cfa) td_cfa 7 rfl rfl hr2 ⟨rfl, rfl, rfl⟩ (by decide) (by decide)
def tb_sin4 : List In1 := [(0, .aload_n 0, 1), (1, .invokespecial 1, 3), (4, .iload_n 3, 1), (5, .ifCond .ne 22, 3), (8, .aload_n 0, 1), (9, .ldc 7, 2), (11, .getfield 9, 3), (14, .putfield 9, 3), (17, .aload_n 0, 1), (18, .ldc 7, 2), (20, .getfield 15, 3), (23, .putfield 15, 3), (26, .return_, 1), (27, .getstatic 38, 3), (30, .ifCond .eq 28, 3), (33, .aload_n 1, 1), (34, .iload_n 2, 1), (35, .iload_n 3, 1), (36, .invokestatic 177, 3), (39, .astore 5, 2), (41, .aload_n 0, 1), (42, .aload 5, 2), (44, .iload_n 3, 1), (45, .invokestatic 47, 3), (48, .putfield 15, 3), (51, .aload_n 0, 1), (52, .aload 5, 2), (54, .putfield 9, 3), (57, .return_, 1), (58, .aload_n 0, 1), (59, .iconst 1, 1), (60, .putfield 15, 3), (63, .aload_n 0, 1), (64, .aload_n 1, 1), (65, .iload_n 2, 1), (66, .iload_n 3, 1), (67, .invokestatic 180, 3), (70, .putfield 9, 3), (73, .return_, 1)]
set_option maxRecDepth 65536 in
theorem td_sin4 : Dec jdk_42_method_149_code tb_sin4 := by unfold Dec; decide +kernel
theorem pd_sin4 : parseMethodDescriptor "([CIILjava/lang/Void;)V" = some ⟨[(.array .char), .int, .int, (.object "java/lang/Void")], none⟩ := by decide +kernel
theorem pn_sin4 : plainFor (⟨"java/lang/String", "<init>", "([CIILjava/lang/Void;)V"⟩ : MethodName) = true := by decide +kernel
abbrev B_sin4 : Bx := ((⟨"java/lang/String", "<init>", "([CIILjava/lang/Void;)V"⟩ : MethodName), jdk_42_method_149_code, 6, (Option.none : Option Jvm.ClassFile.FieldType), ({ frames := 2, cells := 4, slots := 12, locals := 35 } : Room), false)
set_option maxRecDepth 65536 in
set_option maxHeartbeats 4000000 in
theorem sin4_met {A : Ax} (K : Wd A) {s a : Addr} {cs : List Int32} (hlat : Lat cs) (hcap : cs.length ≤ 12) {F G : List Ent} (m : (a, ArrP A .char (chV cs)) ∈ F ∨ (a, ArrP A .char (chV cs)) ∈ G) : Met A B_sin4 #[.ref s, .ref a, .int 0, .int (nI cs.length), .null] ((s, ObjP A "java/lang/String" [("java/lang/String", "value", "[B", .null), ("java/lang/String", "coder", "B", .int (0 : Int32))]) :: F) G (fun v F' G' => v = none ∧ F = F' ∧ ∃ b, StrE A s b 0 :: BytE A b (latB cs) :: G = G') := by
  refine MetW.of_go pn_sin4 K.ew (L := [.val (.ref s), .val (.ref a), .val (.int 0), .val (.int (nI cs.length)), .val (.null), .unset]) (fun m => rfl) ?_
  intro D _
  refine Go.run (B := B_sin4) td_sin4 0 1 (pc' := 1) (L' := [.val (.ref s), .val (.ref a), .val (.int 0), .val (.int (nI cs.length)), .val (.null), .unset]) (S' := [.ref s]) rfl ?_
  refine Go.initObject (B := B_sin4) td_sin4 1 (W := 0) rfl (w_51 K) (w_52 K) (w_53 K) rfl (by decide) (Nat.le_of_eq rfl) (by decide) ?_
  refine Go.run (B := B_sin4) td_sin4 2 1 (pc' := 5) (L' := [.val (.ref s), .val (.ref a), .val (.int 0), .val (.int (nI cs.length)), .val (.null), .unset]) (S' := [.int (nI cs.length)]) rfl ?_
  refine Go.if0 (B := B_sin4) td_sin4 3 (pc' := 27) rfl (by decide) rfl ?_ ?_
  · intro (h0 : (nI cs.length) ≠ 0)
    obtain ⟨z, nz, hz⟩ := K.cmpt
    refine Go.getstatic (B := B_sin4) td_sin4 13 rfl (w_25 K) hz ?_
    refine Go.if0 (B := B_sin4) td_sin4 14 (pc' := 58) rfl (by decide) rfl ?_ ?_
    · intro (h : z = 0)
      exact absurd h nz
    · intro (h : ¬ (z = 0))
      refine Go.run (B := B_sin4) td_sin4 15 3 (pc' := 36) (L' := [.val (.ref s), .val (.ref a), .val (.int 0), .val (.int (nI cs.length)), .val (.null), .unset]) (S' := [.int (nI cs.length), .int 0, .ref a]) rfl ?_
      refine Go.callS (B := B_sin4) td_sin4 18 (B' := B_cmb) (argsL := [.ref a, .int 0, .int (nI cs.length)]) (rest := []) (W := 0) rfl (cmb_met K hlat hcap (m.imp (List.mem_cons_of_mem _) id)) (w_54 K) (w_55 K) (w_56 K) (w_57 K) (by decide) pd_cmb rfl rfl rfl rfl (Nat.le_of_eq rfl) (by decide) (by decide) (by decide) (by decide) ?_
      rintro _ _ _ ⟨b, rfl, rfl, rfl⟩
      show Go A B_sin4 D _ 39 [.val (.ref s), .val (.ref a), .val (.int 0), .val (.int (nI cs.length)), .val (.null), .unset] [.ref b] ((b, ArrP A .byte (latB cs)) :: (s, ObjP A "java/lang/String" [("java/lang/String", "value", "[B", .null), ("java/lang/String", "coder", "B", .int (0 : Int32))]) :: F) G 1 12
      refine Go.run (B := B_sin4) td_sin4 19 4 (pc' := 45) (L' := [.val (.ref s), .val (.ref a), .val (.int 0), .val (.int (nI cs.length)), .val (.null), .val (.ref b)]) (S' := [.int (nI cs.length), .ref b, .ref s]) rfl ?_
      refine Go.callS (B := B_sin4) td_sin4 23 (B' := B_cfa) (argsL := [.ref b, .int (nI cs.length)]) (rest := [.ref s]) (W := 1) rfl (cfa_met K (z := nI cs.length) (r := 0) (by rw [latB_len, nI_toInt (by omega)]) (by rw [Int32.sub_self]; decide) rfl (Or.inl (List.mem_of_getElem? (i := 0) rfl))) (w_61 K) (w_62 K) (w_56 K) (w_63 K) (by decide) pd_cfa rfl rfl rfl rfl (Nat.le_of_eq rfl) (by decide) (by decide) (by decide) (by decide) ?_
      rintro _ _ _ ⟨rfl, rfl, rfl⟩
      show Go A B_sin4 D _ 48 [.val (.ref s), .val (.ref a), .val (.int 0), .val (.int (nI cs.length)), .val (.null), .val (.ref b)] [.int (0 : Int32), .ref s] ((b, ArrP A .byte (latB cs)) :: (s, ObjP A "java/lang/String" [("java/lang/String", "value", "[B", .null), ("java/lang/String", "coder", "B", .int (0 : Int32))]) :: F) G 1 12
      refine Go.front 1 (F' := ((s, ObjP A "java/lang/String" [("java/lang/String", "value", "[B", .null), ("java/lang/String", "coder", "B", .int (0 : Int32))]) :: (b, ArrP A .byte (latB cs)) :: F)) rfl rfl ?_
      refine Go.putfield (B := B_sin4) td_sin4 24 (fs' := [("java/lang/String", "value", "[B", .null), ("java/lang/String", "coder", "B", .int (0 : Int32))]) rfl (w_26 K) (Or.inr ⟨(w_12 K), rfl, rfl⟩) (w_9 K) rfl rfl rfl (List.mem_of_getElem? (i := 1) rfl) (own_fs 1 (ns := ["value"]) rfl (by decide) rfl) ?_
      refine Go.run (B := B_sin4) td_sin4 25 2 (pc' := 54) (L' := [.val (.ref s), .val (.ref a), .val (.int 0), .val (.int (nI cs.length)), .val (.null), .val (.ref b)]) (S' := [.ref b, .ref s]) rfl ?_
      refine Go.putfield (B := B_sin4) td_sin4 27 (fs' := [("java/lang/String", "value", "[B", .ref b), ("java/lang/String", "coder", "B", .int (0 : Int32))]) rfl (w_27 K) (Or.inr ⟨(w_11 K), rfl, rfl⟩) (w_9 K) rfl rfl rfl (List.mem_of_getElem? (i := 0) rfl) (own_fs 0 (ns := ["coder"]) rfl (by decide) rfl) ?_
      refine Go.front 1 (F' := ((b, ArrP A .byte (latB cs)) :: (s, ObjP A "java/lang/String" [("java/lang/String", "value", "[B", .ref b), ("java/lang/String", "coder", "B", .int (0 : Int32))]) :: F)) rfl rfl ?_
      refine Go.freeze ?_
      refine Go.freeze ?_
      exact Go.retV (B := B_sin4) td_sin4 28 rfl rfl ⟨rfl, rfl, b, rfl⟩ (by decide) (by decide)
  · intro (h0 : ¬ ((nI cs.length) ≠ 0))
    have e0 : cs = [] := by
      have h1 : nI cs.length = 0 := Decidable.not_not.mp h0
      have h2 := nI_toInt (n := cs.length) (by omega)
      rw [h1] at h2
      exact List.length_eq_zero_iff.mp (by have : (0 : Int32).toInt = 0 := rfl; omega)
    refine Go.run (B := B_sin4) td_sin4 4 1 (pc' := 9) (L' := [.val (.ref s), .val (.ref a), .val (.int 0), .val (.int (nI cs.length)), .val (.null), .unset]) (S' := [.ref s]) rfl ?_
    refine Go.ldcS (B := B_sin4) td_sin4 5 (n := 0) (vs := (latB [])) rfl (w_95 K) (strAtoms K) (by rw [show A.EL = consts_1 from K.el]; decide) K.wm (by decide +kernel) (by decide) (by decide) (by decide) (by decide) (by decide) ?_
    intro a1 b1
    show Go A B_sin4 D _ 11 [.val (.ref s), .val (.ref a), .val (.int 0), .val (.int (nI cs.length)), .val (.null), .unset] [.ref a1, .ref s] ((s, ObjP A "java/lang/String" [("java/lang/String", "value", "[B", .null), ("java/lang/String", "coder", "B", .int (0 : Int32))]) :: F) (StrE A a1 b1 0 :: (b1, ArrP A .byte (latB [])) :: G) 2 4
    refine Go.getfield (B := B_sin4) td_sin4 6 rfl (w_27 K) (Or.inr (List.mem_of_getElem? (i := 0) rfl)) (List.mem_of_getElem? (i := 0) rfl) ?_
    refine Go.putfield (B := B_sin4) td_sin4 7 (fs' := [("java/lang/String", "value", "[B", .ref b1), ("java/lang/String", "coder", "B", .int (0 : Int32))]) rfl (w_27 K) (Or.inr ⟨(w_11 K), rfl, rfl⟩) (w_9 K) rfl rfl rfl (List.mem_of_getElem? (i := 0) rfl) (own_fs 0 (ns := ["coder"]) rfl (by decide) rfl) ?_
    refine Go.run (B := B_sin4) td_sin4 8 1 (pc' := 18) (L' := [.val (.ref s), .val (.ref a), .val (.int 0), .val (.int (nI cs.length)), .val (.null), .unset]) (S' := [.ref s]) rfl ?_
    refine Go.ldcS (B := B_sin4) td_sin4 9 (n := 0) (vs := (latB [])) rfl (w_95 K) (strAtoms K) (by rw [show A.EL = consts_1 from K.el]; decide) K.wm (by decide +kernel) (by decide) (by decide) (by decide) (by decide) (by decide) ?_
    intro a2 b2
    show Go A B_sin4 D _ 20 [.val (.ref s), .val (.ref a), .val (.int 0), .val (.int (nI cs.length)), .val (.null), .unset] [.ref a2, .ref s] ((s, ObjP A "java/lang/String" [("java/lang/String", "value", "[B", .ref b1), ("java/lang/String", "coder", "B", .int (0 : Int32))]) :: F) (StrE A a2 b2 0 :: (b2, ArrP A .byte (latB [])) :: StrE A a1 b1 0 :: (b1, ArrP A .byte (latB [])) :: G) 4 8
    refine Go.getfield (B := B_sin4) td_sin4 10 rfl (w_26 K) (Or.inr (List.mem_of_getElem? (i := 0) rfl)) (List.mem_of_getElem? (i := 1) rfl) ?_
    refine Go.putfield (B := B_sin4) td_sin4 11 (fs' := [("java/lang/String", "value", "[B", .ref b1), ("java/lang/String", "coder", "B", .int (0 : Int32))]) rfl (w_26 K) (Or.inr ⟨(w_12 K), rfl, rfl⟩) (w_9 K) rfl rfl rfl (List.mem_of_getElem? (i := 1) rfl) (own_fs 1 (ns := ["value"]) rfl (by decide) rfl) ?_
    refine Go.freeze ?_
    refine Go.gsub (G' := (StrE A s b1 0 :: BytE A b1 (latB cs) :: G)) (own_subS (List.mem_of_getElem? (i := 0) rfl) (own_subS (by rw [e0]; exact List.mem_of_getElem? (i := 4) rfl) fun x h => .tail _ (.tail _ (.tail _ (.tail _ (.tail _ h)))))) ?_
    exact Go.retV (B := B_sin4) td_sin4 12 rfl rfl ⟨rfl, rfl, b1, rfl⟩ (by decide) (by decide)
def tb_sin : List In1 := [(0, .aload_n 0, 1), (1, .aload_n 1, 1), (2, .iconst 0, 1), (3, .aload_n 1, 1), (4, .arraylength, 1), (5, .aconst_null, 1), (6, .invokespecial 27, 3), (9, .return_, 1)]
set_option maxRecDepth 65536 in
theorem td_sin : Dec jdk_42_method_3_code tb_sin := by unfold Dec; decide +kernel
theorem pd_sin : parseMethodDescriptor "([C)V" = some ⟨[(.array .char)], none⟩ := by decide +kernel
theorem pn_sin : plainFor (⟨"java/lang/String", "<init>", "([C)V"⟩ : MethodName) = true := by decide +kernel
abbrev B_sin : Bx := ((⟨"java/lang/String", "<init>", "([C)V"⟩ : MethodName), jdk_42_method_3_code, 2, (Option.none : Option Jvm.ClassFile.FieldType), ({ frames := 3, cells := 4, slots := 12, locals := 52 } : Room), false)
set_option maxRecDepth 65536 in
set_option maxHeartbeats 4000000 in
theorem sin_met {A : Ax} (K : Wd A) {s a : Addr} {cs : List Int32} (hlat : Lat cs) (hcap : cs.length ≤ 12) {F G : List Ent} (m : (a, ArrP A .char (chV cs)) ∈ F ∨ (a, ArrP A .char (chV cs)) ∈ G) : Met A B_sin #[.ref s, .ref a] ((s, ObjP A "java/lang/String" [("java/lang/String", "value", "[B", .null), ("java/lang/String", "coder", "B", .int (0 : Int32))]) :: F) G (fun v F' G' => v = none ∧ F = F' ∧ ∃ b, StrE A s b 0 :: BytE A b (latB cs) :: G = G') := by
  refine MetW.of_go pn_sin K.ew (L := [.val (.ref s), .val (.ref a)]) (fun m => rfl) ?_
  intro D _
  refine Go.run (B := B_sin) td_sin 0 4 (pc' := 4) (L' := [.val (.ref s), .val (.ref a)]) (S' := [.ref a, .int (0 : Int32), .ref a, .ref s]) rfl ?_
  refine Go.arraylength (B := B_sin) td_sin 4 (z := (nI cs.length)) rfl (m.imp (List.mem_cons_of_mem _) id) (by rw [List.length_map, nI_toInt (by omega)]) ?_
  refine Go.run (B := B_sin) td_sin 5 1 (pc' := 6) (L' := [.val (.ref s), .val (.ref a)]) (S' := [.null, .int (nI cs.length), .int (0 : Int32), .ref a, .ref s]) rfl ?_
  refine Go.callN (B := B_sin) td_sin 6 (B' := B_sin4) (a := s) (argsL := [.ref a, .int (0 : Int32), .int (nI cs.length), .null]) (rest := []) (W := 0) rfl (sin4_met K hlat hcap m) rfl rfl (w_47 K) (w_48 K) (w_8 K) (w_50 K) (by decide) pd_sin4 rfl rfl rfl rfl (Nat.le_of_eq rfl) (by decide) (by decide) (by decide) (by decide) ?_
  rintro _ _ _ ⟨rfl, rfl, b, rfl⟩
  show Go A B_sin D _ 9 [.val (.ref s), .val (.ref a)] [] F (StrE A s b 0 :: (b, ArrP A .byte (latB cs)) :: G) 4 12
  exact Go.retV (B := B_sin) td_sin 7 rfl rfl ⟨rfl, rfl, b, rfl⟩ (by decide) (by decide)
/-- a Latin-1 String of these chars -/
def StrL (A : Ax) (G : List Ent) (a : Addr) (cs : List Int32) : Prop := ∃ b, (Lat cs ∧ StrE A a b 0 ∈ G ∧ BytE A b (latB cs) ∈ G) ∨ ((False ∧ ¬ Lat cs) ∧ True ∧ True)
theorem StrL.sub {A : Ax} {G G' : List Ent} {a : Addr} {cs : List Int32} (h : StrL A G a cs) (s : ∀ q ∈ G, q ∈ G') : StrL A G' a cs := by
  obtain ⟨b, ⟨h1, h2, h3⟩ | ⟨h1, -, -⟩⟩ := h
  · exact ⟨b, Or.inl ⟨h1, s _ h2, s _ h3⟩⟩
  · exact h1.1.elim
theorem StrL.cons {A : Ax} {G : List Ent} {a : Addr} {cs : List Int32} {q : Ent} (h : StrL A G a cs) : StrL A (q :: G) a cs := h.sub fun _ m => List.mem_cons_of_mem _ m
theorem StrL.obj {A : Ax} {G : List Ent} {a : Addr} {cs : List Int32} (h : StrL A G a cs) : ∃ b cd, StrE A a b cd ∈ G := by
  obtain ⟨b, ⟨-, h2, -⟩ | ⟨h1, -, -⟩⟩ := h
  · exact ⟨b, 0, h2⟩
  · exact h1.1.elim
theorem StrL.lat {A : Ax} {G : List Ent} {a : Addr} {cs : List Int32} (h : StrL A G a cs) : Lat cs := by
  obtain ⟨b, ⟨h1, -, -⟩ | ⟨h1, -, -⟩⟩ := h
  · exact h1
  · exact h1.1.elim
theorem StrL.of {A : Ax} {G : List Ent} {a b : Addr} {cs : List Int32} (h1 : Lat cs) (h2 : StrE A a b 0 ∈ G) (h3 : BytE A b (latB cs) ∈ G) : StrL A G a cs := ⟨b, Or.inl ⟨h1, h2, h3⟩⟩
theorem sinL_met {A : Ax} (K : Wd A) {s a : Addr} {cs : List Int32} (hl : Lat cs) (hcap : cs.length ≤ 12) {F G : List Ent} (m : (a, ArrP A .char (chV cs)) ∈ F ∨ (a, ArrP A .char (chV cs)) ∈ G) :
    Met A B_sin #[.ref s, .ref a] ((s, ObjP A "java/lang/String" [("java/lang/String", "value", "[B", .null), ("java/lang/String", "coder", "B", .int (0 : Int32))]) :: F) G (fun v F' G' => v = none ∧ F = F' ∧ ∃ q1 q2, q1 :: q2 :: G = G' ∧ StrL A (q1 :: q2 :: G) s cs) := by
  refine (sin_met K hl hcap m).weak ?_
  rintro _ _ _ ⟨rfl, rfl, b, rfl⟩
  exact ⟨rfl, rfl, _, _, rfl, b, Or.inl ⟨hl, List.mem_of_getElem? (i := 0) rfl, List.mem_of_getElem? (i := 1) rfl⟩⟩
theorem lenL_met {A : Ax} (K : Wd A) {a b : Addr} {cs : List Int32} (hlen : cs.length < 2 ^ 31) {F G : List Ent} (m : StrE A a b 0 ∈ F ∨ StrE A a b 0 ∈ G) (m' : BytE A b (latB cs) ∈ F ∨ BytE A b (latB cs) ∈ G) : Met A B_len #[.ref a] F G (fun v F' G' => v = some (.int (nI cs.length)) ∧ F = F' ∧ G = G') :=
  len_met K (z := nI cs.length) rfl (by rw [latB_len, nI_toInt hlen]) (shr0 _) m m'

theorem lenR_met {A : Ax} (K : Wd A) {a : Addr} {cs : List Int32} (hlen : 2 * cs.length < 2 ^ 31) {F G : List Ent} (m : StrL A G a cs) : Met A B_len #[.ref a] F G (fun v F' G' => v = some (.int (nI cs.length)) ∧ F = F' ∧ G = G') := by
  obtain ⟨b, ⟨-, h2, h3⟩ | ⟨h1, -, -⟩⟩ := m
  · exact lenL_met K (by omega) (Or.inr h2) (Or.inr h3)
  · exact h1.1.elim

theorem chaL_met {A : Ax} (K : Wd A) {a b : Addr} {cs pre suf : List Int32} {c j : Int32} (hc : cs = pre ++ c :: suf) (hj : j = nI pre.length) (hlat : Lat cs) (hlen : cs.length < 2 ^ 31) {F G : List Ent} (m : StrE A a b 0 ∈ F ∨ StrE A a b 0 ∈ G) (m' : BytE A b (latB cs) ∈ F ∨ BytE A b (latB cs) ∈ G) : Met A B_cha #[.ref a, .int j] F G (fun v F' G' => v = some (.int c) ∧ F = F' ∧ G = G') := by
  have hc1 := hlat c (by rw [hc]; simp)
  have hp : pre.length < cs.length := by rw [hc]; simp
  refine cha_met K (z := nI cs.length) (x := byt8 c) (by rw [latB_len, nI_toInt hlen]) (by rw [latB_len, hj]; exact nI_inB hp hlen) ?_ ?_ (chr16_id ⟨hc1.1, by omega⟩) m m'
  · rw [hj, nI_nat (by omega), hc]
    simp [latB]
  · rw [byt8_and hc1]; exact chr16_id ⟨hc1.1, by omega⟩

theorem chaR_met {A : Ax} (K : Wd A) {a : Addr} {cs pre suf : List Int32} {c j : Int32} (hc : cs = pre ++ c :: suf) (hj : j = nI pre.length) (hlen : 2 * cs.length < 2 ^ 31) {F G : List Ent} (m : StrL A G a cs) : Met A B_cha #[.ref a, .int j] F G (fun v F' G' => v = some (.int c) ∧ F = F' ∧ G = G') := by
  obtain ⟨b, ⟨h1, h2, h3⟩ | ⟨h1, -, -⟩⟩ := m
  · exact chaL_met K hc hj h1 (by omega) (Or.inr h2) (Or.inr h3)
  · exact h1.1.elim
--CUT
def tb_leq : List In1 := [(0, .aload_n 0, 1), (1, .arraylength, 1), (2, .aload_n 1, 1), (3, .arraylength, 1), (4, .if_icmp .ne 30, 3), (7, .iconst 0, 1), (8, .istore_n 2, 1), (9, .iload_n 2, 1), (10, .aload_n 0, 1), (11, .arraylength, 1), (12, .if_icmp .ge 20, 3), (15, .aload_n 0, 1), (16, .iload_n 2, 1), (17, .baload, 1), (18, .aload_n 1, 1), (19, .iload_n 2, 1), (20, .baload, 1), (21, .if_icmp .eq 5, 3), (24, .iconst 0, 1), (25, .ireturn, 1), (26, .iinc 2 1, 3), (29, .goto (-20), 3), (32, .iconst 1, 1), (33, .ireturn, 1), (34, .iconst 0, 1), (35, .ireturn, 1)]
set_option maxRecDepth 65536 in
theorem td_leq : Dec jdk_43_method_13_code tb_leq := by unfold Dec; decide +kernel
theorem pd_leq : parseMethodDescriptor "([B[B)Z" = some ⟨[(.array .byte), (.array .byte)], (some .boolean)⟩ := by decide +kernel
theorem pn_leq : plainFor (⟨"java/lang/StringLatin1", "equals", "([B[B)Z"⟩ : MethodName) = true := by decide +kernel
abbrev B_leq : Bx := ((⟨"java/lang/StringLatin1", "equals", "([B[B)Z"⟩ : MethodName), jdk_43_method_13_code, 3, (Option.some Jvm.ClassFile.FieldType.boolean), ({ frames := 0, cells := 0, slots := 0, locals := 0 } : Room), false)
set_option maxRecDepth 65536 in
set_option maxHeartbeats 4000000 in
theorem leq_met {A : Ax} (K : Wd A) {b1 b2 : Addr} {xs ys : List Int32} {r : Int32} (h1 : xs.length < 2 ^ 31) (h2 : ys.length < 2 ^ 31) (hr : (if xs = ys then (1 : Int32) else 0) = r) {F G : List Ent} (m1 : BytE A b1 (chV xs) ∈ F ∨ BytE A b1 (chV xs) ∈ G) (m2 : BytE A b2 (chV ys) ∈ F ∨ BytE A b2 (chV ys) ∈ G) : Met A B_leq #[.ref b1, .ref b2] F G (fun v F' G' => v = some (.int r) ∧ F = F' ∧ G = G') := by
  refine MetW.of_go pn_leq K.ew (L := [.val (.ref b1), .val (.ref b2), .unset]) (fun m => rfl) ?_
  intro D _
  have loop : ∀ (s1 s2 p : List Int32), xs = p ++ s1 → ys = p ++ s2 → s1.length = s2.length → Go A B_leq D (fun v F' G' => v = some (.int r) ∧ F = F' ∧ G = G') 9 [.val (.ref b1), .val (.ref b2), .val (.int (nI p.length))] [] F G 0 0 := by
    intro s1
    induction s1 with
    | nil =>
      intro s2 p e1 e2 e3
      have e4 : s2 = [] := List.length_eq_zero_iff.mp e3.symm
      have e5 : xs = p := by simpa using e1
      refine Go.run (B := B_leq) td_leq 7 2 (pc' := 11) (L' := [.val (.ref b1), .val (.ref b2), .val (.int (nI p.length))]) (S' := [.ref b1, .int (nI p.length)]) rfl ?_
      refine Go.arraylength (B := B_leq) td_leq 9 (z := (nI xs.length)) rfl m1 (by rw [List.length_map, nI_toInt h1]) ?_
      refine Go.icmp (B := B_leq) td_leq 10 (pc' := 32) rfl (by decide) rfl (fun _ => ?_) (fun (h : ¬ ((nI p.length) ≥ (nI xs.length))) => absurd (by rw [e5]; exact Int32.le_refl _) h)
      refine Go.run (B := B_leq) td_leq 22 1 (pc' := 33) (L' := [.val (.ref b1), .val (.ref b2), .val (.int (nI p.length))]) (S' := [.int (1 : Int32)]) rfl ?_
      exact Go.retZ (B := B_leq) td_leq 23 rfl rfl rfl ⟨by rw [← hr, if_pos (by rw [e1, e2, e4])], rfl, rfl⟩ (by decide) (by decide)
    | cons x s1 ih =>
      intro s2 p e1 e2 e3
      cases s2 with
      | nil => cases e3
      | cons y s2 =>
        have hp : p.length < xs.length := by rw [e1]; simp
        have hp2 : p.length < ys.length := by rw [e2]; simp
        refine Go.run (B := B_leq) td_leq 7 2 (pc' := 11) (L' := [.val (.ref b1), .val (.ref b2), .val (.int (nI p.length))]) (S' := [.ref b1, .int (nI p.length)]) rfl ?_
        refine Go.arraylength (B := B_leq) td_leq 9 (z := (nI xs.length)) rfl m1 (by rw [List.length_map, nI_toInt h1]) ?_
        refine Go.icmp (B := B_leq) td_leq 10 (pc' := 32) rfl (by decide) rfl (fun (h : (nI p.length) ≥ (nI xs.length)) => absurd h (Int32.not_le.mpr ((nI_lt (by omega) h1).mpr hp))) (fun _ => ?_)
        refine Go.run (B := B_leq) td_leq 11 2 (pc' := 17) (L' := [.val (.ref b1), .val (.ref b2), .val (.int (nI p.length))]) (S' := [.int (nI p.length), .ref b1]) rfl ?_
        refine Go.baload (B := B_leq) td_leq 13 (v := .int x) rfl m1 (nI_inB (by rw [List.length_map]; exact hp) (by rw [List.length_map]; exact h1)) (by rw [e1] at h1 ⊢; exact own_chr_get _ _ _ h1) ?_
        refine Go.run (B := B_leq) td_leq 14 2 (pc' := 20) (L' := [.val (.ref b1), .val (.ref b2), .val (.int (nI p.length))]) (S' := [.int (nI p.length), .ref b2, .int x]) rfl ?_
        refine Go.baload (B := B_leq) td_leq 16 (v := .int y) rfl m2 (nI_inB (by rw [List.length_map]; exact hp2) (by rw [List.length_map]; exact h2)) (by rw [e2] at h2 ⊢; exact own_chr_get _ _ _ h2) ?_
        refine Go.icmp (B := B_leq) td_leq 17 (pc' := 26) rfl (by decide) rfl ?_ ?_
        · intro (h : x = y)
          refine Go.run (B := B_leq) td_leq 20 2 (pc' := 9) (L' := [.val (.ref b1), .val (.ref b2), .val (.int ((nI p.length) + (1 : Int32)))]) (S' := []) rfl ?_
          have hih := ih s2 (p ++ [x]) (by simp [e1]) (by simp [e2, h]) (by simpa using e3)
          rw [own_len_snoc] at hih
          exact hih
        · intro (h : ¬ (x = y))
          refine Go.run (B := B_leq) td_leq 18 1 (pc' := 25) (L' := [.val (.ref b1), .val (.ref b2), .val (.int (nI p.length))]) (S' := [.int (0 : Int32)]) rfl ?_
          exact Go.retZ (B := B_leq) td_leq 19 rfl rfl rfl ⟨by rw [← hr, if_neg (fun z => h (by rw [e1, e2] at z; exact (List.cons.inj (List.append_cancel_left z)).1))], rfl, rfl⟩ (by decide) (by decide)
  refine Go.run (B := B_leq) td_leq 0 1 (pc' := 1) (L' := [.val (.ref b1), .val (.ref b2), .unset]) (S' := [.ref b1]) rfl ?_
  refine Go.arraylength (B := B_leq) td_leq 1 (z := (nI xs.length)) rfl m1 (by rw [List.length_map, nI_toInt h1]) ?_
  refine Go.run (B := B_leq) td_leq 2 1 (pc' := 3) (L' := [.val (.ref b1), .val (.ref b2), .unset]) (S' := [.ref b2, .int (nI xs.length)]) rfl ?_
  refine Go.arraylength (B := B_leq) td_leq 3 (z := (nI ys.length)) rfl m2 (by rw [List.length_map, nI_toInt h2]) ?_
  refine Go.icmp (B := B_leq) td_leq 4 (pc' := 34) rfl (by decide) rfl ?_ ?_
  · intro (h : (nI xs.length) ≠ (nI ys.length))
    refine Go.run (B := B_leq) td_leq 24 1 (pc' := 35) (L' := [.val (.ref b1), .val (.ref b2), .unset]) (S' := [.int (0 : Int32)]) rfl ?_
    exact Go.retZ (B := B_leq) td_leq 25 rfl rfl rfl ⟨by rw [← hr, if_neg (fun z => h (by rw [z]))], rfl, rfl⟩ (by decide) (by decide)
  · intro (h : ¬ ((nI xs.length) ≠ (nI ys.length)))
    refine Go.run (B := B_leq) td_leq 5 2 (pc' := 9) (L' := [.val (.ref b1), .val (.ref b2), .val (.int (0 : Int32))]) (S' := []) rfl ?_
    have hl : xs.length = ys.length := by
      have q := congrArg Int32.toInt (Decidable.not_not.mp h)
      rw [nI_toInt h1, nI_toInt h2] at q; omega
    exact loop xs ys [] rfl rfl hl
def tb_seq : List In1 := [(0, .aload_n 0, 1), (1, .aload_n 1, 1), (2, .if_acmp .ne 5, 3), (5, .iconst 1, 1), (6, .ireturn, 1), (7, .aload_n 1, 1), (8, .instanceof 10, 3), (11, .ifCond .eq 43, 3), (14, .aload_n 1, 1), (15, .checkcast 10, 3), (18, .astore_n 2, 1), (19, .getstatic 38, 3), (22, .ifCond .eq 14, 3), (25, .aload_n 0, 1), (26, .getfield 15, 3), (29, .aload_n 2, 1), (30, .getfield 15, 3), (33, .if_icmp .ne 21, 3), (36, .aload_n 0, 1), (37, .getfield 9, 3), (40, .aload_n 2, 1), (41, .getfield 9, 3), (44, .invokestatic 541, 3), (47, .ifCond .eq 7, 3), (50, .iconst 1, 1), (51, .goto 4, 3), (54, .iconst 0, 1), (55, .ireturn, 1)]
set_option maxRecDepth 65536 in
theorem td_seq : Dec jdk_42_method_66_code tb_seq := by unfold Dec; decide +kernel
theorem pd_seq : parseMethodDescriptor "(Ljava/lang/Object;)Z" = some ⟨[(.object "java/lang/Object")], (some .boolean)⟩ := by decide +kernel
theorem pn_seq : plainFor (⟨"java/lang/String", "equals", "(Ljava/lang/Object;)Z"⟩ : MethodName) = true := by decide +kernel
abbrev B_seq : Bx := ((⟨"java/lang/String", "equals", "(Ljava/lang/Object;)Z"⟩ : MethodName), jdk_42_method_66_code, 3, (Option.some Jvm.ClassFile.FieldType.boolean), ({ frames := 1, cells := 0, slots := 0, locals := 14 } : Room), false)
set_option maxRecDepth 65536 in
set_option maxHeartbeats 4000000 in
theorem seq_met {A : Ax} (K : Wd A) {a1 a2 b1 b2 : Addr} {cd1 cd2 r : Int32} {xs ys : List Int32} (h1 : xs.length < 2 ^ 31) (hy : ys.length < 2 ^ 31) (hr : (if cd1 = cd2 ∧ xs = ys then (1 : Int32) else 0) = r) {F G : List Ent} (m1 : StrE A a1 b1 cd1 ∈ G) (m2 : StrE A a2 b2 cd2 ∈ G) (n1 : BytE A b1 (chV xs) ∈ G) (n2 : BytE A b2 (chV ys) ∈ G) : Met A B_seq #[.ref a1, .ref a2] F G (fun v F' G' => v = some (.int r) ∧ F = F' ∧ G = G') := by
  refine MetW.of_go pn_seq K.ew (L := [.val (.ref a1), .val (.ref a2), .unset]) (fun m => rfl) ?_
  intro D _
  obtain ⟨z, nz, hz⟩ := K.cmpt
  refine Go.run (B := B_seq) td_seq 0 2 (pc' := 2) (L' := [.val (.ref a1), .val (.ref a2), .unset]) (S' := [.ref a2, .ref a1]) rfl ?_
  refine Go.acmp (B := B_seq) td_seq 2 (pc' := 7) rfl rfl rfl (by decide) rfl ?_ ?_
  · intro h
    refine Go.run (B := B_seq) td_seq 5 1 (pc' := 8) (L' := [.val (.ref a1), .val (.ref a2), .unset]) (S' := [.ref a2]) rfl ?_
    refine Go.instY (B := B_seq) td_seq 6 rfl (w_77 K) (Or.inr m2) (fun c P => P.1) ?_
    refine Go.if0 (B := B_seq) td_seq 7 (pc' := 54) rfl (by decide) rfl (fun (h : (1 : Int32) = 0) => absurd h (by decide)) (fun _ => ?_)
    refine Go.run (B := B_seq) td_seq 8 1 (pc' := 15) (L' := [.val (.ref a1), .val (.ref a2), .unset]) (S' := [.ref a2]) rfl ?_
    refine Go.castY (B := B_seq) td_seq 9 rfl (w_77 K) (Or.inr m2) (fun c P => P.1) ?_
    refine Go.run (B := B_seq) td_seq 10 1 (pc' := 19) (L' := [.val (.ref a1), .val (.ref a2), .val (.ref a2)]) (S' := []) rfl ?_
    refine Go.getstatic (B := B_seq) td_seq 11 rfl (w_25 K) hz ?_
    refine Go.if0 (B := B_seq) td_seq 12 (pc' := 36) rfl (by decide) rfl (fun (h : z = 0) => absurd h nz) (fun _ => ?_)
    refine Go.run (B := B_seq) td_seq 13 1 (pc' := 26) (L' := [.val (.ref a1), .val (.ref a2), .val (.ref a2)]) (S' := [.ref a1]) rfl ?_
    refine Go.getfield (B := B_seq) td_seq 14 rfl (w_26 K) (Or.inr m1) (List.mem_of_getElem? (i := 1) rfl) ?_
    refine Go.run (B := B_seq) td_seq 15 1 (pc' := 30) (L' := [.val (.ref a1), .val (.ref a2), .val (.ref a2)]) (S' := [.ref a2, .int cd1]) rfl ?_
    refine Go.getfield (B := B_seq) td_seq 16 rfl (w_26 K) (Or.inr m2) (List.mem_of_getElem? (i := 1) rfl) ?_
    refine Go.icmp (B := B_seq) td_seq 17 (pc' := 54) rfl (by decide) rfl ?_ ?_
    · intro (h2 : cd1 ≠ cd2)
      refine Go.run (B := B_seq) td_seq 26 1 (pc' := 55) (L' := [.val (.ref a1), .val (.ref a2), .val (.ref a2)]) (S' := [.int (0 : Int32)]) rfl ?_
      exact Go.retZ (B := B_seq) td_seq 27 rfl rfl rfl ⟨by rw [← hr, if_neg (fun z => h2 z.1)], rfl, rfl⟩ (by decide) (by decide)
    · intro (h2 : ¬ (cd1 ≠ cd2))
      have e2 : cd1 = cd2 := Decidable.not_not.mp h2
      refine Go.run (B := B_seq) td_seq 18 1 (pc' := 37) (L' := [.val (.ref a1), .val (.ref a2), .val (.ref a2)]) (S' := [.ref a1]) rfl ?_
      refine Go.getfield (B := B_seq) td_seq 19 rfl (w_27 K) (Or.inr m1) (List.mem_of_getElem? (i := 0) rfl) ?_
      refine Go.run (B := B_seq) td_seq 20 1 (pc' := 41) (L' := [.val (.ref a1), .val (.ref a2), .val (.ref a2)]) (S' := [.ref a2, .ref b1]) rfl ?_
      refine Go.getfield (B := B_seq) td_seq 21 rfl (w_27 K) (Or.inr m2) (List.mem_of_getElem? (i := 0) rfl) ?_
      refine Go.callS (B := B_seq) td_seq 22 (B' := B_leq) (argsL := [.ref b1, .ref b2]) (rest := []) (W := 0) rfl (leq_met K h1 hy rfl (Or.inr n1) (Or.inr n2)) (w_78 K) (w_79 K) (w_30 K) (w_80 K) (by decide) pd_leq rfl rfl rfl rfl (Nat.le_of_eq rfl) (by decide) (by decide) (by decide) (by decide) ?_
      rintro _ _ _ ⟨rfl, rfl, rfl⟩
      show Go A B_seq D _ 47 [.val (.ref a1), .val (.ref a2), .val (.ref a2)] [.int (if xs = ys then (1 : Int32) else 0)] F G 0 0
      refine Go.if0 (B := B_seq) td_seq 23 (pc' := 54) rfl (by decide) rfl ?_ ?_
      · intro (h3 : (if xs = ys then (1 : Int32) else 0) = 0)
        refine Go.run (B := B_seq) td_seq 26 1 (pc' := 55) (L' := [.val (.ref a1), .val (.ref a2), .val (.ref a2)]) (S' := [.int (0 : Int32)]) rfl ?_
        exact Go.retZ (B := B_seq) td_seq 27 rfl rfl rfl ⟨by rw [← hr, if_neg (fun z => by rw [if_pos z.2] at h3; exact absurd h3 (by decide))], rfl, rfl⟩ (by decide) (by decide)
      · intro (h3 : ¬ ((if xs = ys then (1 : Int32) else 0) = 0))
        refine Go.run (B := B_seq) td_seq 24 2 (pc' := 55) (L' := [.val (.ref a1), .val (.ref a2), .val (.ref a2)]) (S' := [.int (1 : Int32)]) rfl ?_
        exact Go.retZ (B := B_seq) td_seq 27 rfl rfl rfl ⟨by rw [← hr, if_pos ⟨e2, Decidable.byContradiction fun z => h3 (if_neg z)⟩], rfl, rfl⟩ (by decide) (by decide)
  · intro h
    have e0 : a1 = a2 := by simpa [Jvm.Free.XT.acmp] using h
    subst e0
    refine Go.both (Or.inr m1) (Or.inr m2) (R := b1 = b2 ∧ cd1 = cd2) (fun c p q => str_same (a := a1) p q) ?_
    rintro ⟨rfl, ec⟩
    refine Go.both (Or.inr n1) (Or.inr n2) (R := chV xs = chV ys) (fun c p q => arr_same (b := b1) p q) ?_
    intro ev
    refine Go.run (B := B_seq) td_seq 3 1 (pc' := 6) (L' := [.val (.ref a1), .val (.ref a1), .unset]) (S' := [.int (1 : Int32)]) rfl ?_
    exact Go.retZ (B := B_seq) td_seq 4 rfl rfl rfl ⟨by rw [← hr, if_pos ⟨ec, chV_inj ev⟩], rfl, rfl⟩ (by decide) (by decide)
theorem eqR_met {A : Ax} (K : Wd A) {a1 a2 : Addr} {cs ds : List Int32} {r : Int32} (h1 : 2 * cs.length < 2 ^ 31) (h2 : 2 * ds.length < 2 ^ 31) (hr : (if cs = ds then (1 : Int32) else 0) = r) {F G : List Ent} (m1 : StrR A G a1 cs) (m2 : StrR A G a2 ds) : Met A B_seq #[.ref a1, .ref a2] F G (fun v F' G' => v = some (.int r) ∧ F = F' ∧ G = G') := by
  obtain ⟨b1, ⟨p1, p2, p3⟩ | ⟨p1, p2, p3⟩⟩ := m1 <;> obtain ⟨b2, ⟨q1, q2, q3⟩ | ⟨q1, q2, q3⟩⟩ := m2
  · rw [latB_chV] at p3 q3
    refine seq_met K (by simp; omega) (by simp; omega) ?_ p2 q2 p3 q3
    rw [← hr]
    by_cases e : cs = ds
    · rw [if_pos e, if_pos ⟨rfl, by rw [e]⟩]
    · rw [if_neg e, if_neg fun z => e (lat_inj p1 q1 z.2)]
  · rw [latB_chV] at p3; rw [utfB_chV] at q3
    refine seq_met K (by simp; omega) (by rw [utfI_len]; exact h2) ?_ p2 q2 p3 q3
    rw [← hr, if_neg (fun z => absurd z.1 (by decide)), if_neg (fun z : cs = ds => q1.2 (by rw [← z]; exact p1))]
  · rw [utfB_chV] at p3; rw [latB_chV] at q3
    refine seq_met K (by rw [utfI_len]; exact h1) (by simp; omega) ?_ p2 q2 p3 q3
    rw [← hr, if_neg (fun z => absurd z.1 (by decide)), if_neg (fun z : cs = ds => p1.2 (by rw [z]; exact q1))]
  · rw [utfB_chV] at p3 q3
    refine seq_met K (by rw [utfI_len]; exact h1) (by rw [utfI_len]; exact h2) ?_ p2 q2 p3 q3
    rw [← hr]
    by_cases e : cs = ds
    · rw [if_pos e, if_pos ⟨rfl, by rw [e]⟩]
    · rw [if_neg e, if_neg fun z => e (utf_inj p1.1 q1.1 z.2)]
theorem eqL_met {A : Ax} (K : Wd A) {a1 a2 : Addr} {cs ds : List Int32} {r : Int32} (h1 : 2 * cs.length < 2 ^ 31) (h2 : 2 * ds.length < 2 ^ 31) (hr : (if cs = ds then (1 : Int32) else 0) = r) {F G : List Ent} (m1 : StrL A G a1 cs) (m2 : StrL A G a2 ds) : Met A B_seq #[.ref a1, .ref a2] F G (fun v F' G' => v = some (.int r) ∧ F = F' ∧ G = G') := by
  obtain ⟨b1, ⟨p1, p2, p3⟩ | ⟨p1, -, -⟩⟩ := m1
  · obtain ⟨b2, ⟨q1, q2, q3⟩ | ⟨q1, -, -⟩⟩ := m2
    · rw [latB_chV] at p3 q3
      refine seq_met K (by simp; omega) (by simp; omega) ?_ p2 q2 p3 q3
      rw [← hr]
      by_cases e : cs = ds
      · rw [if_pos e, if_pos ⟨rfl, by rw [e]⟩]
      · rw [if_neg e, if_neg fun z => e (lat_inj p1 q1 z.2)]
    · exact q1.1.elim
  · exact p1.1.elim
def tb_mx : List In1 := [(0, .iload_n 0, 1), (1, .iload_n 1, 1), (2, .if_icmp .lt 7, 3), (5, .iload_n 0, 1), (6, .goto 4, 3), (9, .iload_n 1, 1), (10, .ireturn, 1)]
set_option maxRecDepth 65536 in
theorem td_mx : Dec jdk_29_method_65_code tb_mx := by unfold Dec; decide +kernel
theorem pd_mx : parseMethodDescriptor "(II)I" = some ⟨[.int, .int], (some .int)⟩ := by decide +kernel
theorem pn_mx : plainFor (⟨"java/lang/Math", "max", "(II)I"⟩ : MethodName) = true := by decide +kernel
abbrev B_mx : Bx := ((⟨"java/lang/Math", "max", "(II)I"⟩ : MethodName), jdk_29_method_65_code, 2, (Option.some Jvm.ClassFile.FieldType.int), ({ frames := 0, cells := 0, slots := 0, locals := 0 } : Room), false)
set_option maxRecDepth 65536 in
set_option maxHeartbeats 4000000 in
theorem mx_met {A : Ax} (K : Wd A) {a b r : Int32} (hr : (if a < b then b else a) = r) {F G : List Ent} : Met A B_mx #[.int a, .int b] F G (fun v F' G' => v = some (.int r) ∧ F = F' ∧ G = G') := by
  refine MetW.of_go pn_mx K.ew (L := [.val (.int a), .val (.int b)]) (fun m => rfl) ?_
  intro D _
  refine Go.run (B := B_mx) td_mx 0 2 (pc' := 2) (L' := [.val (.int a), .val (.int b)]) (S' := [.int b, .int a]) rfl ?_
  refine Go.icmp (B := B_mx) td_mx 2 (pc' := 9) rfl (by decide) rfl ?_ ?_
  · intro (h : a < b)
    refine Go.run (B := B_mx) td_mx 5 1 (pc' := 10) (L' := [.val (.int a), .val (.int b)]) (S' := [.int b]) rfl ?_
    exact Go.retI (B := B_mx) td_mx 6 rfl rfl ⟨by rw [← hr, if_pos h], rfl, rfl⟩ (by decide) (by decide)
  · intro (h : ¬ (a < b))
    refine Go.run (B := B_mx) td_mx 3 2 (pc' := 10) (L' := [.val (.int a), .val (.int b)]) (S' := [.int a]) rfl ?_
    exact Go.retI (B := B_mx) td_mx 6 rfl rfl ⟨by rw [← hr, if_neg h], rfl, rfl⟩ (by decide) (by decide)
def tb_mn : List In1 := [(0, .iload_n 0, 1), (1, .iload_n 1, 1), (2, .if_icmp .gt 7, 3), (5, .iload_n 0, 1), (6, .goto 4, 3), (9, .iload_n 1, 1), (10, .ireturn, 1)]
set_option maxRecDepth 65536 in
theorem td_mn : Dec jdk_29_method_69_code tb_mn := by unfold Dec; decide +kernel
theorem pd_mn : parseMethodDescriptor "(II)I" = some ⟨[.int, .int], (some .int)⟩ := by decide +kernel
theorem pn_mn : plainFor (⟨"java/lang/Math", "min", "(II)I"⟩ : MethodName) = true := by decide +kernel
abbrev B_mn : Bx := ((⟨"java/lang/Math", "min", "(II)I"⟩ : MethodName), jdk_29_method_69_code, 2, (Option.some Jvm.ClassFile.FieldType.int), ({ frames := 0, cells := 0, slots := 0, locals := 0 } : Room), false)
set_option maxRecDepth 65536 in
set_option maxHeartbeats 4000000 in
theorem mn_met {A : Ax} (K : Wd A) {a b r : Int32} (hr : (if a > b then b else a) = r) {F G : List Ent} : Met A B_mn #[.int a, .int b] F G (fun v F' G' => v = some (.int r) ∧ F = F' ∧ G = G') := by
  refine MetW.of_go pn_mn K.ew (L := [.val (.int a), .val (.int b)]) (fun m => rfl) ?_
  intro D _
  refine Go.run (B := B_mn) td_mn 0 2 (pc' := 2) (L' := [.val (.int a), .val (.int b)]) (S' := [.int b, .int a]) rfl ?_
  refine Go.icmp (B := B_mn) td_mn 2 (pc' := 9) rfl (by decide) rfl ?_ ?_
  · intro (h : a > b)
    refine Go.run (B := B_mn) td_mn 5 1 (pc' := 10) (L' := [.val (.int a), .val (.int b)]) (S' := [.int b]) rfl ?_
    exact Go.retI (B := B_mn) td_mn 6 rfl rfl ⟨by rw [← hr, if_pos h], rfl, rfl⟩ (by decide) (by decide)
  · intro (h : ¬ (a > b))
    refine Go.run (B := B_mn) td_mn 3 2 (pc' := 10) (L' := [.val (.int a), .val (.int b)]) (S' := [.int a]) rfl ?_
    exact Go.retI (B := B_mn) td_mn 6 rfl rfl ⟨by rw [← hr, if_neg h], rfl, rfl⟩ (by decide) (by decide)
def tb_can : List In1 := [(0, .iload_n 0, 1), (1, .ifCond .lt 14, 3), (4, .iload_n 0, 1), (5, .sipush 255, 3), (8, .if_icmp .gt 7, 3), (11, .iconst 1, 1), (12, .goto 4, 3), (15, .iconst 0, 1), (16, .ireturn, 1)]
set_option maxRecDepth 65536 in
theorem td_can : Dec jdk_43_method_4_code tb_can := by unfold Dec; decide +kernel
theorem pd_can : parseMethodDescriptor "(I)Z" = some ⟨[.int], (some .boolean)⟩ := by decide +kernel
theorem pn_can : plainFor (⟨"java/lang/StringLatin1", "canEncode", "(I)Z"⟩ : MethodName) = true := by decide +kernel
abbrev B_can : Bx := ((⟨"java/lang/StringLatin1", "canEncode", "(I)Z"⟩ : MethodName), jdk_43_method_4_code, 1, (Option.some Jvm.ClassFile.FieldType.boolean), ({ frames := 0, cells := 0, slots := 0, locals := 0 } : Room), false)
def ixO (ch : Int32) : List Int32 → Nat → Int32
  | [], _ => -1
  | c :: r, k => if c = ch then nI k else ixO ch r (k + 1)
set_option maxRecDepth 65536 in
set_option maxHeartbeats 4000000 in
theorem can_met {A : Ax} (K : Wd A) {a : Int32} (ha : 0 ≤ a.toInt ∧ a.toInt < 256) {F G : List Ent} : Met A B_can #[.int a] F G (fun v F' G' => v = some (.int 1) ∧ F = F' ∧ G = G') := by
  refine MetW.of_go pn_can K.ew (L := [.val (.int a)]) (fun m => rfl) ?_
  intro D _
  refine Go.run (B := B_can) td_can 0 1 (pc' := 1) (L' := [.val (.int a)]) (S' := [.int a]) rfl ?_
  refine Go.if0 (B := B_can) td_can 1 (pc' := 15) rfl (by decide) rfl (fun (h : a < 0) => absurd h (fun z => absurd (i32_lt.mp z) (Int.not_lt.mpr ha.1))) (fun _ => ?_)
  refine Go.run (B := B_can) td_can 2 2 (pc' := 8) (L' := [.val (.int a)]) (S' := [.int (255 : Int32), .int a]) rfl ?_
  refine Go.icmp (B := B_can) td_can 4 (pc' := 15) rfl (by decide) rfl (fun (h : a > (255 : Int32)) => absurd h (fun z => absurd (i32_lt.mp z) (by have : (255 : Int32).toInt = 255 := rfl; omega))) (fun _ => ?_)
  refine Go.run (B := B_can) td_can 5 2 (pc' := 16) (L' := [.val (.int a)]) (S' := [.int (1 : Int32)]) rfl ?_
  exact Go.retZ (B := B_can) td_can 8 rfl rfl rfl ⟨rfl, rfl, rfl⟩ (by decide) (by decide)
def tb_ixc : List In1 := [(0, .iload_n 1, 1), (1, .i2b, 1), (2, .istore 4, 2), (4, .iload_n 2, 1), (5, .istore 5, 2), (7, .iload 5, 2), (9, .iload_n 3, 1), (10, .if_icmp .ge 21, 3), (13, .aload_n 0, 1), (14, .iload 5, 2), (16, .baload, 1), (17, .iload 4, 2), (19, .if_icmp .ne 6, 3), (22, .iload 5, 2), (24, .ireturn, 1), (25, .iinc 5 1, 3), (28, .goto (-21), 3), (31, .iconst (-1), 1), (32, .ireturn, 1)]
set_option maxRecDepth 65536 in
theorem td_ixc : Dec jdk_43_method_23_code tb_ixc := by unfold Dec; decide +kernel
theorem pd_ixc : parseMethodDescriptor "([BIII)I" = some ⟨[(.array .byte), .int, .int, .int], (some .int)⟩ := by decide +kernel
theorem pn_ixc : plainFor (⟨"java/lang/StringLatin1", "indexOfChar", "([BIII)I"⟩ : MethodName) = true := by decide +kernel
abbrev B_ixc : Bx := ((⟨"java/lang/StringLatin1", "indexOfChar", "([BIII)I"⟩ : MethodName), jdk_43_method_23_code, 6, (Option.some Jvm.ClassFile.FieldType.int), ({ frames := 0, cells := 0, slots := 0, locals := 0 } : Room), false)
set_option maxRecDepth 65536 in
set_option maxHeartbeats 4000000 in
theorem ixc_met {A : Ax} (K : Wd A) {b : Addr} {cs : List Int32} {ch r : Int32} (hlat : Lat cs) (hch : 0 ≤ ch.toInt ∧ ch.toInt < 256) (hlen : cs.length < 2 ^ 31) (hr : ixO ch cs 0 = r) {F G : List Ent} (m' : BytE A b (latB cs) ∈ F ∨ BytE A b (latB cs) ∈ G) : Met A B_ixc #[.ref b, .int ch, .int 0, .int (nI cs.length)] F G (fun v F' G' => v = some (.int r) ∧ F = F' ∧ G = G') := by
  refine MetW.of_go pn_ixc K.ew (L := [.val (.ref b), .val (.int ch), .val (.int 0), .val (.int (nI cs.length)), .unset, .unset]) (fun m => rfl) ?_
  intro D _
  have loop : ∀ (suf pre : List Int32), cs = pre ++ suf → ixO ch suf pre.length = r → Go A B_ixc D (fun v F' G' => v = some (.int r) ∧ F = F' ∧ G = G') 7 [.val (.ref b), .val (.int ch), .val (.int (0 : Int32)), .val (.int (nI cs.length)), .val (.int (byt8 ch)), .val (.int (nI pre.length))] [] F G 0 0 := by
    intro suf
    induction suf with
    | nil =>
      intro pre hc hr
      have e : cs = pre := by simpa using hc
      refine Go.run (B := B_ixc) td_ixc 5 2 (pc' := 10) (L' := [.val (.ref b), .val (.int ch), .val (.int (0 : Int32)), .val (.int (nI cs.length)), .val (.int (byt8 ch)), .val (.int (nI pre.length))]) (S' := [.int (nI cs.length), .int (nI pre.length)]) rfl ?_
      refine Go.icmp (B := B_ixc) td_ixc 7 (pc' := 31) rfl (by decide) rfl (fun _ => ?_) (fun (h : ¬ ((nI pre.length) ≥ (nI cs.length))) => absurd (by rw [e]; exact Int32.le_refl _) h)
      refine Go.run (B := B_ixc) td_ixc 17 1 (pc' := 32) (L' := [.val (.ref b), .val (.int ch), .val (.int (0 : Int32)), .val (.int (nI cs.length)), .val (.int (byt8 ch)), .val (.int (nI pre.length))]) (S' := [.int (-1 : Int32)]) rfl ?_
      exact Go.retI (B := B_ixc) td_ixc 18 rfl rfl ⟨by rw [← hr]; rfl, rfl, rfl⟩ (by decide) (by decide)
    | cons c suf ih =>
      intro pre hc hr
      have ml : pre.length < cs.length := by rw [hc]; simp
      have hc1 := hlat c (by rw [hc]; simp)
      refine Go.run (B := B_ixc) td_ixc 5 2 (pc' := 10) (L' := [.val (.ref b), .val (.int ch), .val (.int (0 : Int32)), .val (.int (nI cs.length)), .val (.int (byt8 ch)), .val (.int (nI pre.length))]) (S' := [.int (nI cs.length), .int (nI pre.length)]) rfl ?_
      refine Go.icmp (B := B_ixc) td_ixc 7 (pc' := 31) rfl (by decide) rfl (fun (h : (nI pre.length) ≥ (nI cs.length)) => absurd h (Int32.not_le.mpr ((nI_lt (by omega) hlen).mpr ml))) (fun _ => ?_)
      refine Go.run (B := B_ixc) td_ixc 8 2 (pc' := 16) (L' := [.val (.ref b), .val (.int ch), .val (.int (0 : Int32)), .val (.int (nI cs.length)), .val (.int (byt8 ch)), .val (.int (nI pre.length))]) (S' := [.int (nI pre.length), .ref b]) rfl ?_
      refine Go.baload (B := B_ixc) td_ixc 10 (v := .int (byt8 c)) rfl m' (by rw [latB_len]; exact nI_inB ml hlen) (by rw [nI_nat (by omega), hc]; simp [latB]) ?_
      refine Go.run (B := B_ixc) td_ixc 11 1 (pc' := 19) (L' := [.val (.ref b), .val (.int ch), .val (.int (0 : Int32)), .val (.int (nI cs.length)), .val (.int (byt8 ch)), .val (.int (nI pre.length))]) (S' := [.int (byt8 ch), .int (byt8 c)]) rfl ?_
      refine Go.icmp (B := B_ixc) td_ixc 12 (pc' := 25) rfl (by decide) rfl ?_ ?_
      · intro (h : (byt8 c) ≠ (byt8 ch))
        refine Go.run (B := B_ixc) td_ixc 15 2 (pc' := 7) (L' := [.val (.ref b), .val (.int ch), .val (.int (0 : Int32)), .val (.int (nI cs.length)), .val (.int (byt8 ch)), .val (.int ((nI pre.length) + (1 : Int32)))]) (S' := []) rfl ?_
        have hih := ih (pre ++ [c]) (by simp [hc]) (by rw [← hr, List.length_append, List.length_singleton]; simp only [ixO, if_neg (fun z : c = ch => h (by rw [z]))])
        rw [own_len_snoc] at hih
        exact hih
      · intro (h : ¬ ((byt8 c) ≠ (byt8 ch)))
        refine Go.run (B := B_ixc) td_ixc 13 1 (pc' := 24) (L' := [.val (.ref b), .val (.int ch), .val (.int (0 : Int32)), .val (.int (nI cs.length)), .val (.int (byt8 ch)), .val (.int (nI pre.length))]) (S' := [.int (nI pre.length)]) rfl ?_
        exact Go.retI (B := B_ixc) td_ixc 14 rfl rfl ⟨by rw [← hr]; simp only [ixO, if_pos (byt8_inj hc1 hch (Decidable.not_not.mp h))], rfl, rfl⟩ (by decide) (by decide)
  refine Go.run (B := B_ixc) td_ixc 0 5 (pc' := 7) (L' := [.val (.ref b), .val (.int ch), .val (.int 0), .val (.int (nI cs.length)), .val (.int (byt8 ch)), .val (.int 0)]) (S' := []) rfl ?_
  exact loop cs [] rfl hr
def tb_lix : List In1 := [(0, .iload_n 1, 1), (1, .invokestatic 88, 3), (4, .ifCond .ne 5, 3), (7, .iconst (-1), 1), (8, .ireturn, 1), (9, .iload_n 2, 1), (10, .iconst 0, 1), (11, .invokestatic 92, 3), (14, .istore_n 2, 1), (15, .iload_n 3, 1), (16, .aload_n 0, 1), (17, .arraylength, 1), (18, .invokestatic 38, 3), (21, .istore_n 3, 1), (22, .iload_n 2, 1), (23, .iload_n 3, 1), (24, .if_icmp .lt 5, 3), (27, .iconst (-1), 1), (28, .ireturn, 1), (29, .aload_n 0, 1), (30, .iload_n 1, 1), (31, .iload_n 2, 1), (32, .iload_n 3, 1), (33, .invokestatic 95, 3), (36, .ireturn, 1)]
set_option maxRecDepth 65536 in
theorem td_lix : Dec jdk_43_method_22_code tb_lix := by unfold Dec; decide +kernel
theorem pd_lix : parseMethodDescriptor "([BIII)I" = some ⟨[(.array .byte), .int, .int, .int], (some .int)⟩ := by decide +kernel
theorem pn_lix : plainFor (⟨"java/lang/StringLatin1", "indexOf", "([BIII)I"⟩ : MethodName) = true := by decide +kernel
abbrev B_lix : Bx := ((⟨"java/lang/StringLatin1", "indexOf", "([BIII)I"⟩ : MethodName), jdk_43_method_22_code, 4, (Option.some Jvm.ClassFile.FieldType.int), ({ frames := 1, cells := 0, slots := 0, locals := 17 } : Room), false)
set_option maxRecDepth 65536 in
set_option maxHeartbeats 4000000 in
theorem lix_met {A : Ax} (K : Wd A) {b : Addr} {cs : List Int32} {ch r : Int32} (hlat : Lat cs) (hch : 0 ≤ ch.toInt ∧ ch.toInt < 256) (hlen : cs.length < 2 ^ 31) (hr : ixO ch cs 0 = r) {F G : List Ent} (m' : BytE A b (latB cs) ∈ F ∨ BytE A b (latB cs) ∈ G) : Met A B_lix #[.ref b, .int ch, .int 0, .int (nI cs.length)] F G (fun v F' G' => v = some (.int r) ∧ F = F' ∧ G = G') := by
  refine MetW.of_go pn_lix K.ew (L := [.val (.ref b), .val (.int ch), .val (.int 0), .val (.int (nI cs.length))]) (fun m => rfl) ?_
  intro D _
  have q0 : (0 : Int32).toInt = 0 := rfl
  refine Go.run (B := B_lix) td_lix 0 1 (pc' := 1) (L' := [.val (.ref b), .val (.int ch), .val (.int 0), .val (.int (nI cs.length))]) (S' := [.int ch]) rfl ?_
  refine Go.callS (B := B_lix) td_lix 1 (B' := B_can) (argsL := [.int ch]) (rest := []) (W := 0) rfl (can_met K hch) (w_114 K) (w_115 K) (w_30 K) (w_116 K) (by decide) pd_can rfl rfl rfl rfl (Nat.le_of_eq rfl) (by decide) (by decide) (by decide) (by decide) ?_
  rintro _ _ _ ⟨rfl, rfl, rfl⟩
  show Go A B_lix D _ 4 [.val (.ref b), .val (.int ch), .val (.int 0), .val (.int (nI cs.length))] [.int (1 : Int32)] F G 0 0
  refine Go.if0 (B := B_lix) td_lix 2 (pc' := 9) rfl (by decide) rfl (fun _ => ?_) (fun (h : ¬ ((1 : Int32) ≠ 0)) => absurd (by decide) h)
  refine Go.run (B := B_lix) td_lix 5 2 (pc' := 11) (L' := [.val (.ref b), .val (.int ch), .val (.int 0), .val (.int (nI cs.length))]) (S' := [.int (0 : Int32), .int 0]) rfl ?_
  refine Go.callS (B := B_lix) td_lix 7 (B' := B_mx) (argsL := [.int 0, .int (0 : Int32)]) (rest := []) (W := 0) rfl (mx_met K (r := 0) (by decide)) (w_117 K) (w_118 K) (w_119 K) (w_120 K) (by decide) pd_mx rfl rfl rfl rfl (Nat.le_of_eq rfl) (by decide) (by decide) (by decide) (by decide) ?_
  rintro _ _ _ ⟨rfl, rfl, rfl⟩
  show Go A B_lix D _ 14 [.val (.ref b), .val (.int ch), .val (.int 0), .val (.int (nI cs.length))] [.int (0 : Int32)] F G 0 0
  refine Go.run (B := B_lix) td_lix 8 3 (pc' := 17) (L' := [.val (.ref b), .val (.int ch), .val (.int (0 : Int32)), .val (.int (nI cs.length))]) (S' := [.ref b, .int (nI cs.length)]) rfl ?_
  refine Go.arraylength (B := B_lix) td_lix 11 (z := (nI cs.length)) rfl m' (by rw [latB_len, nI_toInt hlen]) ?_
  refine Go.callS (B := B_lix) td_lix 12 (B' := B_mn) (argsL := [.int (nI cs.length), .int (nI cs.length)]) (rest := []) (W := 0) rfl (mn_met K (r := nI cs.length) (by split <;> rfl)) (w_121 K) (w_122 K) (w_119 K) (w_123 K) (by decide) pd_mn rfl rfl rfl rfl (Nat.le_of_eq rfl) (by decide) (by decide) (by decide) (by decide) ?_
  rintro _ _ _ ⟨rfl, rfl, rfl⟩
  show Go A B_lix D _ 21 [.val (.ref b), .val (.int ch), .val (.int (0 : Int32)), .val (.int (nI cs.length))] [.int (nI cs.length)] F G 0 0
  refine Go.run (B := B_lix) td_lix 13 3 (pc' := 24) (L' := [.val (.ref b), .val (.int ch), .val (.int (0 : Int32)), .val (.int (nI cs.length))]) (S' := [.int (nI cs.length), .int (0 : Int32)]) rfl ?_
  refine Go.icmp (B := B_lix) td_lix 16 (pc' := 29) rfl (by decide) rfl ?_ ?_
  · intro (h : (0 : Int32) < (nI cs.length))
    refine Go.run (B := B_lix) td_lix 19 4 (pc' := 33) (L' := [.val (.ref b), .val (.int ch), .val (.int (0 : Int32)), .val (.int (nI cs.length))]) (S' := [.int (nI cs.length), .int (0 : Int32), .int ch, .ref b]) rfl ?_
    refine Go.callS (B := B_lix) td_lix 23 (B' := B_ixc) (argsL := [.ref b, .int ch, .int (0 : Int32), .int (nI cs.length)]) (rest := []) (W := 0) rfl (ixc_met K hlat hch hlen hr m') (w_124 K) (w_125 K) (w_30 K) (w_126 K) (by decide) pd_ixc rfl rfl rfl rfl (Nat.le_of_eq rfl) (by decide) (by decide) (by decide) (by decide) ?_
    rintro _ _ _ ⟨rfl, rfl, rfl⟩
    show Go A B_lix D _ 36 [.val (.ref b), .val (.int ch), .val (.int (0 : Int32)), .val (.int (nI cs.length))] [.int r] F G 0 0
    exact Go.retI (B := B_lix) td_lix 24 rfl rfl ⟨rfl, rfl, rfl⟩ (by decide) (by decide)
  · intro (h : ¬ ((0 : Int32) < (nI cs.length)))
    have e : cs = [] := by
      have h1 : ¬ (0 : Int32) < nI cs.length := h
      rw [i32_lt, nI_toInt hlen, q0] at h1
      exact List.length_eq_zero_iff.mp (by omega)
    refine Go.run (B := B_lix) td_lix 17 1 (pc' := 28) (L' := [.val (.ref b), .val (.int ch), .val (.int (0 : Int32)), .val (.int (nI cs.length))]) (S' := [.int (-1 : Int32)]) rfl ?_
    exact Go.retI (B := B_lix) td_lix 18 rfl rfl ⟨by rw [← hr, e]; rfl, rfl, rfl⟩ (by decide) (by decide)
def tb_six2 : List In1 := [(0, .aload_n 0, 1), (1, .invokevirtual 492, 3), (4, .ifCond .eq 19, 3), (7, .aload_n 0, 1), (8, .getfield 9, 3), (11, .iload_n 1, 1), (12, .iload_n 2, 1), (13, .aload_n 0, 1), (14, .invokevirtual 505, 3), (17, .invokestatic 637, 3), (20, .goto 16, 3), (23, .aload_n 0, 1), (24, .getfield 9, 3), (27, .iload_n 1, 1), (28, .iload_n 2, 1), (29, .aload_n 0, 1), (30, .invokevirtual 505, 3), (33, .invokestatic 640, 3), (36, .ireturn, 1)]
set_option maxRecDepth 65536 in
theorem td_six2 : Dec jdk_42_method_80_code tb_six2 := by unfold Dec; decide +kernel
theorem pd_six2 : parseMethodDescriptor "(II)I" = some ⟨[.int, .int], (some .int)⟩ := by decide +kernel
theorem pn_six2 : plainFor (⟨"java/lang/String", "indexOf", "(II)I"⟩ : MethodName) = true := by decide +kernel
abbrev B_six2 : Bx := ((⟨"java/lang/String", "indexOf", "(II)I"⟩ : MethodName), jdk_42_method_80_code, 3, (Option.some Jvm.ClassFile.FieldType.int), ({ frames := 2, cells := 0, slots := 0, locals := 32 } : Room), false)
set_option maxRecDepth 65536 in
set_option maxHeartbeats 4000000 in
theorem six2_met {A : Ax} (K : Wd A) {a b : Addr} {cs : List Int32} {ch r : Int32} (hlat : Lat cs) (hch : 0 ≤ ch.toInt ∧ ch.toInt < 256) (hlen : cs.length < 2 ^ 31) (hr : ixO ch cs 0 = r) {F G : List Ent} (m : StrE A a b 0 ∈ F ∨ StrE A a b 0 ∈ G) (m' : BytE A b (latB cs) ∈ F ∨ BytE A b (latB cs) ∈ G) : Met A B_six2 #[.ref a, .int ch, .int 0] F G (fun v F' G' => v = some (.int r) ∧ F = F' ∧ G = G') := by
  refine MetW.of_go pn_six2 K.ew (L := [.val (.ref a), .val (.int ch), .val (.int 0)]) (fun m => rfl) ?_
  intro D _
  refine Go.run (B := B_six2) td_six2 0 1 (pc' := 1) (L' := [.val (.ref a), .val (.int ch), .val (.int 0)]) (S' := [.ref a]) rfl ?_
  refine Go.callV (B := B_six2) td_six2 1 (B' := B_isl) (C := "java/lang/String") (a := a) (argsL := []) (rest := []) (W := 0) rfl (isl_met K m) m (fun c P => P.1) (w_20 K) (w_21 K) (w_22 K) (w_23 K) (w_23 K) (w_8 K) (w_24 K) (by decide) pd_isl rfl rfl rfl rfl (Nat.le_of_eq rfl) (by decide) (by decide) (by decide) (by decide) ?_
  rintro _ _ _ ⟨rfl, rfl, rfl⟩
  show Go A B_six2 D _ 4 [.val (.ref a), .val (.int ch), .val (.int 0)] [.int (1 : Int32)] F G 0 0
  refine Go.if0 (B := B_six2) td_six2 2 (pc' := 23) rfl (by decide) rfl (fun (h : (1 : Int32) = 0) => absurd h (by decide)) (fun _ => ?_)
  refine Go.run (B := B_six2) td_six2 3 1 (pc' := 8) (L' := [.val (.ref a), .val (.int ch), .val (.int 0)]) (S' := [.ref a]) rfl ?_
  refine Go.getfield (B := B_six2) td_six2 4 rfl (w_27 K) m (List.mem_of_getElem? (i := 0) rfl) ?_
  refine Go.run (B := B_six2) td_six2 5 3 (pc' := 14) (L' := [.val (.ref a), .val (.int ch), .val (.int 0)]) (S' := [.ref a, .int 0, .int ch, .ref b]) rfl ?_
  refine Go.callV (B := B_six2) td_six2 8 (B' := B_len) (C := "java/lang/String") (a := a) (argsL := []) (rest := [.int 0, .int ch, .ref b]) (W := 3) rfl (lenL_met K hlen m m') m (fun c P => P.1) (w_110 K) (w_85 K) (w_86 K) (w_87 K) (w_87 K) (w_8 K) (w_88 K) (by decide) pd_len rfl rfl rfl rfl (Nat.le_of_eq rfl) (by decide) (by decide) (by decide) (by decide) ?_
  rintro _ _ _ ⟨rfl, rfl, rfl⟩
  show Go A B_six2 D _ 17 [.val (.ref a), .val (.int ch), .val (.int 0)] [.int (nI cs.length), .int 0, .int ch, .ref b] F G 0 0
  refine Go.callS (B := B_six2) td_six2 9 (B' := B_lix) (argsL := [.ref b, .int ch, .int 0, .int (nI cs.length)]) (rest := []) (W := 0) rfl (lix_met K hlat hch hlen hr m') (w_111 K) (w_112 K) (w_30 K) (w_113 K) (by decide) pd_lix rfl rfl rfl rfl (Nat.le_of_eq rfl) (by decide) (by decide) (by decide) (by decide) ?_
  rintro _ _ _ ⟨rfl, rfl, rfl⟩
  show Go A B_six2 D _ 20 [.val (.ref a), .val (.int ch), .val (.int 0)] [.int r] F G 0 0
  refine Go.run (B := B_six2) td_six2 10 1 (pc' := 36) (L' := [.val (.ref a), .val (.int ch), .val (.int 0)]) (S' := [.int r]) rfl ?_
  exact Go.retI (B := B_six2) td_six2 18 rfl rfl ⟨rfl, rfl, rfl⟩ (by decide) (by decide)
def tb_six : List In1 := [(0, .aload_n 0, 1), (1, .iload_n 1, 1), (2, .iconst 0, 1), (3, .invokevirtual 633, 3), (6, .ireturn, 1)]
set_option maxRecDepth 65536 in
theorem td_six : Dec jdk_42_method_79_code tb_six := by unfold Dec; decide +kernel
theorem pd_six : parseMethodDescriptor "(I)I" = some ⟨[.int], (some .int)⟩ := by decide +kernel
theorem pn_six : plainFor (⟨"java/lang/String", "indexOf", "(I)I"⟩ : MethodName) = true := by decide +kernel
abbrev B_six : Bx := ((⟨"java/lang/String", "indexOf", "(I)I"⟩ : MethodName), jdk_42_method_79_code, 2, (Option.some Jvm.ClassFile.FieldType.int), ({ frames := 3, cells := 0, slots := 0, locals := 46 } : Room), false)
set_option maxRecDepth 65536 in
set_option maxHeartbeats 4000000 in
theorem six_met {A : Ax} (K : Wd A) {a b : Addr} {cs : List Int32} {ch r : Int32} (hlat : Lat cs) (hch : 0 ≤ ch.toInt ∧ ch.toInt < 256) (hlen : cs.length < 2 ^ 31) (hr : ixO ch cs 0 = r) {F G : List Ent} (m : StrE A a b 0 ∈ F ∨ StrE A a b 0 ∈ G) (m' : BytE A b (latB cs) ∈ F ∨ BytE A b (latB cs) ∈ G) : Met A B_six #[.ref a, .int ch] F G (fun v F' G' => v = some (.int r) ∧ F = F' ∧ G = G') := by
  refine MetW.of_go pn_six K.ew (L := [.val (.ref a), .val (.int ch)]) (fun m => rfl) ?_
  intro D _
  refine Go.run (B := B_six) td_six 0 3 (pc' := 3) (L' := [.val (.ref a), .val (.int ch)]) (S' := [.int (0 : Int32), .int ch, .ref a]) rfl ?_
  refine Go.callV (B := B_six) td_six 3 (B' := B_six2) (C := "java/lang/String") (a := a) (argsL := [.int ch, .int (0 : Int32)]) (rest := []) (W := 0) rfl (six2_met K hlat hch hlen hr m m') m (fun c P => P.1) (w_105 K) (w_106 K) (w_107 K) (w_108 K) (w_108 K) (w_8 K) (w_109 K) (by decide) pd_six2 rfl rfl rfl rfl (Nat.le_of_eq rfl) (by decide) (by decide) (by decide) (by decide) ?_
  rintro _ _ _ ⟨rfl, rfl, rfl⟩
  show Go A B_six D _ 6 [.val (.ref a), .val (.int ch)] [.int r] F G 0 0
  exact Go.retI (B := B_six) td_six 4 rfl rfl ⟨rfl, rfl, rfl⟩ (by decide) (by decide)
--CUT
def tb_shf : List In1 := [(0, .aload_n 0, 1), (1, .invokevirtual 53, 3), (4, .iconst 1, 1), (5, .if_icmp .le 17, 3), (8, .aload_n 0, 1), (9, .iconst 0, 1), (10, .invokevirtual 57, 3), (13, .bipush 45, 2), (15, .if_icmp .ne 7, 3), (18, .iconst 1, 1), (19, .goto 4, 3), (22, .iconst 0, 1), (23, .istore_n 2, 1), (24, .iconst 1, 1), (25, .istore_n 3, 1), (26, .iload_n 3, 1), (27, .aload_n 0, 1), (28, .invokevirtual 53, 3), (31, .if_icmp .ge 39, 3), (34, .iload_n 2, 1), (35, .ifCond .eq 35, 3), (38, .aload_n 0, 1), (39, .iload_n 3, 1), (40, .invokevirtual 57, 3), (43, .bipush 104, 2), (45, .if_icmp .eq 13, 3), (48, .aload_n 0, 1), (49, .iload_n 3, 1), (50, .invokevirtual 57, 3), (53, .bipush 86, 2), (55, .if_icmp .ne 7, 3), (58, .iconst 1, 1), (59, .goto 4, 3), (62, .iconst 0, 1), (63, .istore_n 2, 1), (64, .iinc 3 1, 3), (67, .goto (-41), 3), (70, .iload_n 2, 1), (71, .ifCond .eq 15, 3), (74, .aload_n 0, 1), (75, .iload_n 1, 1), (76, .invokevirtual 61, 3), (79, .ifCond .le 7, 3), (82, .iconst 1, 1), (83, .goto 4, 3), (86, .iconst 0, 1), (87, .ireturn, 1)]
set_option maxRecDepth 65536 in
theorem td_shf : Dec prog_2_method_9_code tb_shf := by unfold Dec; decide +kernel
theorem pd_shf : parseMethodDescriptor "(Ljava/lang/String;C)Z" = some ⟨[(.object "java/lang/String"), .char], (some .boolean)⟩ := by decide +kernel
theorem pn_shf : plainFor (⟨"com/example/hedgewire/hedgewire/CommandSyntax", "isShortFlags", "(Ljava/lang/String;C)Z"⟩ : MethodName) = true := by decide +kernel
abbrev B_shf : Bx := ((⟨"com/example/hedgewire/hedgewire/CommandSyntax", "isShortFlags", "(Ljava/lang/String;C)Z"⟩ : MethodName), prog_2_method_9_code, 4, (Option.some Jvm.ClassFile.FieldType.boolean), ({ frames := 4, cells := 0, slots := 0, locals := 59 } : Room), false)
/-- a truth told as an int -/
def Is (g : Int32) (P : Prop) : Prop := (P → g = 1) ∧ (¬ P → g = 0)
theorem Is.cg {g : Int32} {P Q : Prop} (h : Is g P) (e : P ↔ Q) : Is g Q := ⟨fun q => h.1 (e.mpr q), fun q => h.2 fun p => q (e.mp p)⟩
theorem Is.t {P : Prop} (h : P) : Is 1 P := ⟨fun _ => rfl, fun n => absurd h n⟩
theorem Is.f {P : Prop} (h : ¬ P) : Is 0 P := ⟨fun p => absurd p h, fun _ => rfl⟩
theorem sT {H : Prop} (h : H) : H ↔ (1 : Int32) ≠ 0 := ⟨fun _ => by decide, fun _ => h⟩
theorem sF {H : Prop} (h : ¬ H) : H ↔ (0 : Int32) ≠ 0 := ⟨fun x => absurd x h, fun x => absurd rfl x⟩
def Okf (c : Int32) : Prop := c = 104 ∨ c = 86
instance (c : Int32) : Decidable (Okf c) := inferInstanceAs (Decidable (_ ∨ _))
def Short : List Int32 → Prop
  | c :: d :: r => c = 45 ∧ ∀ x ∈ d :: r, Okf x
  | _ => False
theorem ixO_pos {ch : Int32} : ∀ {r : List Int32} {k : Nat}, 1 ≤ k → k + r.length < 2 ^ 31 → (0 < ixO ch r k ↔ ch ∈ r)
  | [], k, _, _ => by simp only [ixO, List.not_mem_nil, iff_false]; decide
  | c :: r, k, hk, hl => by
    simp only [ixO, List.mem_cons, List.length_cons] at hl ⊢
    split
    · rename_i e
      have : (0 : Int32) < nI k := by rw [i32_lt, nI_toInt (by omega)]; have : (0 : Int32).toInt = 0 := rfl; omega
      simp [this, e]
    · rename_i e
      rw [ixO_pos (by omega) (by omega)]
      exact ⟨Or.inr, fun h => h.elim (fun z => absurd z.symm e) id⟩
theorem short_len : ∀ {cs : List Int32}, Short cs → 1 < cs.length
  | [], h => h.elim
  | [_], h => h.elim
  | _ :: _ :: _, _ => by simp
theorem short_in : ∀ {cs : List Int32}, Short cs → ∀ x ∈ cs.tail, Okf x
  | [], h => h.elim
  | [_], h => h.elim
  | _ :: _ :: _, h => h.2
theorem short_of : ∀ {cs : List Int32}, 1 < cs.length → cs.head? = some 45 → (∀ x ∈ cs.tail, Okf x) → Short cs
  | [], h, _, _ => by simp at h
  | [_], h, _, _ => by simp at h
  | _ :: _ :: _, _, h1, h2 => ⟨by simpa using h1, h2⟩
theorem short_ix {f : Int32} (hf : f ≠ 45) : ∀ {cs : List Int32}, Short cs → cs.length < 2 ^ 31 → (0 < ixO f cs 0 ↔ f ∈ cs.tail)
  | [], h, _ => h.elim
  | [_], h, _ => h.elim
  | p0 :: p1 :: r, h, hl => by
    have e0 : ¬ p0 = f := fun z => hf (by rw [← z, h.1])
    have := ixO_pos (ch := f) (r := p1 :: r) (k := 1) (by omega) (by simp only [List.length_cons] at hl ⊢; omega)
    rw [show ixO f (p0 :: p1 :: r) 0 = ixO f (p1 :: r) 1 from if_neg e0]; exact this
theorem two_of : ∀ {cs : List Int32}, ¬ cs.length ≤ 1 → ∃ c0 c1 r, cs = c0 :: c1 :: r
  | [], h => absurd (by simp) h
  | [_], h => absurd (by simp) h
  | c0 :: c1 :: r, _ => ⟨c0, c1, r, rfl⟩
theorem head_snoc {c x : Int32} : ∀ {pre : List Int32}, pre.head? = some x → (pre ++ [c]).head? = some x
  | [], h => by cases h
  | _ :: _, h => h
theorem tail_snoc {c : Int32} (hc : Okf c) : ∀ {pre : List Int32}, 1 ≤ pre.length → (∀ x ∈ pre.tail, Okf x) → ∀ x ∈ (pre ++ [c]).tail, Okf x
  | [], h, _, _, _ => by simp at h
  | _ :: r, _, h, x, hx => by
    simp only [List.cons_append, List.tail_cons, List.mem_append, List.mem_singleton] at hx
    rcases hx with hx | hx
    · exact h x hx
    · rw [hx]; exact hc
theorem in_tail {c : Int32} {suf : List Int32} : ∀ {pre : List Int32}, 1 ≤ pre.length → c ∈ (pre ++ c :: suf).tail
  | [], h => by simp at h
  | _ :: _, _ => by simp
theorem okf_lat {c : Int32} (h : Okf c) : 0 ≤ c.toInt ∧ c.toInt < 256 := by rcases h with rfl | rfl <;> decide
set_option maxRecDepth 65536 in
set_option maxHeartbeats 4000000 in
theorem shf_met {A : Ax} (K : Wd A) {a : Addr} {cs : List Int32} {f : Int32} (hlen : 2 * cs.length < 2 ^ 31) (hf : 0 ≤ f.toInt ∧ f.toInt < 256) (hf45 : f ≠ 45) {F G : List Ent} (m : StrL A G a cs) : Met A B_shf #[.ref a, .int f] F G (fun v F' G' => ∃ r, v = some (.int r) ∧ Is r (Short cs ∧ f ∈ cs.tail) ∧ F = F' ∧ G = G') := by
  refine MetW.of_go pn_shf K.ew (L := [.val (.ref a), .val (.int f), .unset, .unset]) (fun m => rfl) ?_
  intro D _
  obtain ⟨bS, cdS, hm⟩ := m.obj
  have q1 : (1 : Int32) = nI 1 := rfl
  have z0 : ¬ (Short cs ∧ f ∈ cs.tail) → ∀ i : Int32, Go A B_shf D (fun v F' G' => ∃ r, v = some (.int r) ∧ Is r (Short cs ∧ f ∈ cs.tail) ∧ F = F' ∧ G = G') 26 [.val (.ref a), .val (.int f), .val (.int (0 : Int32)), .val (.int i)] [] F G 0 0 := by
    intro hn i
    refine Go.run (B := B_shf) td_shf 15 2 (pc' := 28) (L' := [.val (.ref a), .val (.int f), .val (.int (0 : Int32)), .val (.int i)]) (S' := [.ref a, .int i]) rfl ?_
    refine Go.callV (B := B_shf) td_shf 17 (B' := B_len) (C := "java/lang/String") (a := a) (argsL := []) (rest := [.int i]) (W := 1) rfl (lenR_met K hlen m) (Or.inr hm) (fun c P => P.1) (w_84 K) (w_85 K) (w_86 K) (w_87 K) (w_87 K) (w_8 K) (w_88 K) (by decide) pd_len rfl rfl rfl rfl (Nat.le_of_eq rfl) (by decide) (by decide) (by decide) (by decide) ?_
    rintro _ _ _ ⟨rfl, rfl, rfl⟩
    show Go A B_shf D _ 31 [.val (.ref a), .val (.int f), .val (.int (0 : Int32)), .val (.int i)] [.int (nI cs.length), .int i] F G 0 0
    refine Go.icmp (B := B_shf) td_shf 18 (pc' := 70) rfl (by decide) rfl ?_ ?_
    · intro (h : i ≥ (nI cs.length))
      refine Go.run (B := B_shf) td_shf 37 1 (pc' := 71) (L' := [.val (.ref a), .val (.int f), .val (.int (0 : Int32)), .val (.int i)]) (S' := [.int (0 : Int32)]) rfl ?_
      refine Go.if0 (B := B_shf) td_shf 38 (pc' := 86) rfl (by decide) rfl (fun _ => ?_) (fun (h : ¬ ((0 : Int32) = 0)) => absurd (by decide) h)
      refine Go.run (B := B_shf) td_shf 45 1 (pc' := 87) (L' := [.val (.ref a), .val (.int f), .val (.int (0 : Int32)), .val (.int i)]) (S' := [.int (0 : Int32)]) rfl ?_
      exact Go.retZ (B := B_shf) td_shf 46 rfl rfl rfl ⟨0, rfl, Is.f hn, rfl, rfl⟩ (by decide) (by decide)
    · intro (h : ¬ (i ≥ (nI cs.length)))
      refine Go.run (B := B_shf) td_shf 19 1 (pc' := 35) (L' := [.val (.ref a), .val (.int f), .val (.int (0 : Int32)), .val (.int i)]) (S' := [.int (0 : Int32)]) rfl ?_
      refine Go.if0 (B := B_shf) td_shf 20 (pc' := 70) rfl (by decide) rfl (fun _ => ?_) (fun (h : ¬ ((0 : Int32) = 0)) => absurd (by decide) h)
      refine Go.run (B := B_shf) td_shf 37 1 (pc' := 71) (L' := [.val (.ref a), .val (.int f), .val (.int (0 : Int32)), .val (.int i)]) (S' := [.int (0 : Int32)]) rfl ?_
      refine Go.if0 (B := B_shf) td_shf 38 (pc' := 86) rfl (by decide) rfl (fun _ => ?_) (fun (h : ¬ ((0 : Int32) = 0)) => absurd (by decide) h)
      refine Go.run (B := B_shf) td_shf 45 1 (pc' := 87) (L' := [.val (.ref a), .val (.int f), .val (.int (0 : Int32)), .val (.int i)]) (S' := [.int (0 : Int32)]) rfl ?_
      exact Go.retZ (B := B_shf) td_shf 46 rfl rfl rfl ⟨0, rfl, Is.f hn, rfl, rfl⟩ (by decide) (by decide)
  have loop : ∀ (suf pre : List Int32), cs = pre ++ suf → Lat pre → 1 ≤ pre.length → pre.head? = some 45 → (∀ x ∈ pre.tail, Okf x) → (pre.length = 1 → suf ≠ []) → Go A B_shf D (fun v F' G' => ∃ r, v = some (.int r) ∧ Is r (Short cs ∧ f ∈ cs.tail) ∧ F = F' ∧ G = G') 26 [.val (.ref a), .val (.int f), .val (.int (1 : Int32)), .val (.int (nI pre.length))] [] F G 0 0 := by
    intro suf
    induction suf with
    | nil =>
      intro pre hc hl hp hh ht hne
      have e : cs = pre := by simpa using hc
      have hp2 : 1 < pre.length := Nat.lt_of_le_of_ne hp fun z => hne z.symm rfl
      have hS : Short cs := by rw [e]; exact short_of hp2 hh ht
      have hix := short_ix hf45 hS (by omega)
      refine Go.run (B := B_shf) td_shf 15 2 (pc' := 28) (L' := [.val (.ref a), .val (.int f), .val (.int (1 : Int32)), .val (.int (nI pre.length))]) (S' := [.ref a, .int (nI pre.length)]) rfl ?_
      refine Go.callV (B := B_shf) td_shf 17 (B' := B_len) (C := "java/lang/String") (a := a) (argsL := []) (rest := [.int (nI pre.length)]) (W := 1) rfl (lenR_met K hlen m) (Or.inr hm) (fun c P => P.1) (w_84 K) (w_85 K) (w_86 K) (w_87 K) (w_87 K) (w_8 K) (w_88 K) (by decide) pd_len rfl rfl rfl rfl (Nat.le_of_eq rfl) (by decide) (by decide) (by decide) (by decide) ?_
      rintro _ _ _ ⟨rfl, rfl, rfl⟩
      show Go A B_shf D _ 31 [.val (.ref a), .val (.int f), .val (.int (1 : Int32)), .val (.int (nI pre.length))] [.int (nI cs.length), .int (nI pre.length)] F G 0 0
      refine Go.icmp (B := B_shf) td_shf 18 (pc' := 70) rfl (by decide) rfl (fun _ => ?_) (fun (h : ¬ ((nI pre.length) ≥ (nI cs.length))) => absurd (by rw [e]; exact Int32.le_refl _) h)
      refine Go.run (B := B_shf) td_shf 37 1 (pc' := 71) (L' := [.val (.ref a), .val (.int f), .val (.int (1 : Int32)), .val (.int (nI pre.length))]) (S' := [.int (1 : Int32)]) rfl ?_
      refine Go.if0 (B := B_shf) td_shf 38 (pc' := 86) rfl (by decide) rfl (fun (h : (1 : Int32) = 0) => absurd h (by decide)) (fun _ => ?_)
      refine Go.run (B := B_shf) td_shf 39 2 (pc' := 76) (L' := [.val (.ref a), .val (.int f), .val (.int (1 : Int32)), .val (.int (nI pre.length))]) (S' := [.int f, .ref a]) rfl ?_
      obtain ⟨b, ⟨l1, l2, l3⟩ | ⟨l1, -, -⟩⟩ := m
      · refine Go.callV (B := B_shf) td_shf 41 (B' := B_six) (C := "java/lang/String") (a := a) (argsL := [.int f]) (rest := []) (W := 0) rfl (six_met K l1 hf (by omega) rfl (Or.inr l2) (Or.inr l3)) (Or.inr hm) (fun c P => P.1) (w_100 K) (w_101 K) (w_102 K) (w_103 K) (w_103 K) (w_8 K) (w_104 K) (by decide) pd_six rfl rfl rfl rfl (Nat.le_of_eq rfl) (by decide) (by decide) (by decide) (by decide) ?_
        rintro _ _ _ ⟨rfl, rfl, rfl⟩
        show Go A B_shf D _ 79 [.val (.ref a), .val (.int f), .val (.int (1 : Int32)), .val (.int (nI pre.length))] [.int (ixO f cs 0)] F G 0 0
        refine Go.if0 (B := B_shf) td_shf 42 (pc' := 86) rfl (by decide) rfl ?_ ?_
        · intro (h3 : (ixO f cs 0) ≤ 0)
          refine Go.run (B := B_shf) td_shf 45 1 (pc' := 87) (L' := [.val (.ref a), .val (.int f), .val (.int (1 : Int32)), .val (.int (nI pre.length))]) (S' := [.int (0 : Int32)]) rfl ?_
          exact Go.retZ (B := B_shf) td_shf 46 rfl rfl rfl ⟨0, rfl, Is.f (fun z => absurd (hix.mpr z.2) (Int32.not_lt.mpr h3)), rfl, rfl⟩ (by decide) (by decide)
        · intro (h3 : ¬ ((ixO f cs 0) ≤ 0))
          refine Go.run (B := B_shf) td_shf 43 2 (pc' := 87) (L' := [.val (.ref a), .val (.int f), .val (.int (1 : Int32)), .val (.int (nI pre.length))]) (S' := [.int (1 : Int32)]) rfl ?_
          exact Go.retZ (B := B_shf) td_shf 46 rfl rfl rfl ⟨1, rfl, Is.t ⟨hS, hix.mp (Int32.not_le.mp h3)⟩, rfl, rfl⟩ (by decide) (by decide)
      · exact absurd (by rw [e]; exact hl) l1.2
    | cons c suf ih =>
      intro pre hc hl hp hh ht hne
      have ml : pre.length < cs.length := by rw [hc]; simp
      have hcons : ¬ Okf c → ¬ (Short cs ∧ f ∈ cs.tail) := fun hb hz => hb (short_in hz.1 c (by rw [hc]; exact in_tail hp))
      refine Go.run (B := B_shf) td_shf 15 2 (pc' := 28) (L' := [.val (.ref a), .val (.int f), .val (.int (1 : Int32)), .val (.int (nI pre.length))]) (S' := [.ref a, .int (nI pre.length)]) rfl ?_
      refine Go.callV (B := B_shf) td_shf 17 (B' := B_len) (C := "java/lang/String") (a := a) (argsL := []) (rest := [.int (nI pre.length)]) (W := 1) rfl (lenR_met K hlen m) (Or.inr hm) (fun c P => P.1) (w_84 K) (w_85 K) (w_86 K) (w_87 K) (w_87 K) (w_8 K) (w_88 K) (by decide) pd_len rfl rfl rfl rfl (Nat.le_of_eq rfl) (by decide) (by decide) (by decide) (by decide) ?_
      rintro _ _ _ ⟨rfl, rfl, rfl⟩
      show Go A B_shf D _ 31 [.val (.ref a), .val (.int f), .val (.int (1 : Int32)), .val (.int (nI pre.length))] [.int (nI cs.length), .int (nI pre.length)] F G 0 0
      refine Go.icmp (B := B_shf) td_shf 18 (pc' := 70) rfl (by decide) rfl (fun (h : (nI pre.length) ≥ (nI cs.length)) => absurd h (Int32.not_le.mpr ((nI_lt (by omega) (by omega)).mpr ml))) (fun _ => ?_)
      refine Go.run (B := B_shf) td_shf 19 1 (pc' := 35) (L' := [.val (.ref a), .val (.int f), .val (.int (1 : Int32)), .val (.int (nI pre.length))]) (S' := [.int (1 : Int32)]) rfl ?_
      refine Go.if0 (B := B_shf) td_shf 20 (pc' := 70) rfl (by decide) rfl (fun (h : (1 : Int32) = 0) => absurd h (by decide)) (fun _ => ?_)
      refine Go.run (B := B_shf) td_shf 21 2 (pc' := 40) (L' := [.val (.ref a), .val (.int f), .val (.int (1 : Int32)), .val (.int (nI pre.length))]) (S' := [.int (nI pre.length), .ref a]) rfl ?_
      refine Go.callV (B := B_shf) td_shf 23 (B' := B_cha) (C := "java/lang/String") (a := a) (argsL := [.int (nI pre.length)]) (rest := []) (W := 0) rfl (chaR_met K hc rfl hlen m) (Or.inr hm) (fun c P => P.1) (w_94 K) (w_16 K) (w_17 K) (w_18 K) (w_18 K) (w_8 K) (w_19 K) (by decide) pd_cha rfl rfl rfl rfl (Nat.le_of_eq rfl) (by decide) (by decide) (by decide) (by decide) ?_
      rintro _ _ _ ⟨rfl, rfl, rfl⟩
      show Go A B_shf D _ 43 [.val (.ref a), .val (.int f), .val (.int (1 : Int32)), .val (.int (nI pre.length))] [.int c] F G 0 0
      refine Go.run (B := B_shf) td_shf 24 1 (pc' := 45) (L' := [.val (.ref a), .val (.int f), .val (.int (1 : Int32)), .val (.int (nI pre.length))]) (S' := [.int (104 : Int32), .int c]) rfl ?_
      refine Go.icmp (B := B_shf) td_shf 25 (pc' := 58) rfl (by decide) rfl ?_ ?_
      · intro (h1 : c = (104 : Int32))
        have hok : Okf c := Or.inl h1
        refine Go.run (B := B_shf) td_shf 31 2 (pc' := 63) (L' := [.val (.ref a), .val (.int f), .val (.int (1 : Int32)), .val (.int (nI pre.length))]) (S' := [.int (1 : Int32)]) rfl ?_
        refine Go.run (B := B_shf) td_shf 34 3 (pc' := 26) (L' := [.val (.ref a), .val (.int f), .val (.int (1 : Int32)), .val (.int ((nI pre.length) + (1 : Int32)))]) (S' := []) rfl ?_
        have hih := ih (pre ++ [c]) (by simp [hc]) (fun x hx => by rcases List.mem_append.mp hx with h | h; exact hl x h; cases List.mem_singleton.mp h; exact okf_lat hok) (by simp only [List.length_append, List.length_singleton]; omega) (head_snoc hh) (tail_snoc hok hp ht) (fun z => absurd z (by simp only [List.length_append, List.length_singleton]; omega))
        rw [own_len_snoc] at hih
        exact hih
      · intro (h1 : ¬ (c = (104 : Int32)))
        refine Go.run (B := B_shf) td_shf 26 2 (pc' := 50) (L' := [.val (.ref a), .val (.int f), .val (.int (1 : Int32)), .val (.int (nI pre.length))]) (S' := [.int (nI pre.length), .ref a]) rfl ?_
        refine Go.callV (B := B_shf) td_shf 28 (B' := B_cha) (C := "java/lang/String") (a := a) (argsL := [.int (nI pre.length)]) (rest := []) (W := 0) rfl (chaR_met K hc rfl hlen m) (Or.inr hm) (fun c P => P.1) (w_94 K) (w_16 K) (w_17 K) (w_18 K) (w_18 K) (w_8 K) (w_19 K) (by decide) pd_cha rfl rfl rfl rfl (Nat.le_of_eq rfl) (by decide) (by decide) (by decide) (by decide) ?_
        rintro _ _ _ ⟨rfl, rfl, rfl⟩
        show Go A B_shf D _ 53 [.val (.ref a), .val (.int f), .val (.int (1 : Int32)), .val (.int (nI pre.length))] [.int c] F G 0 0
        refine Go.run (B := B_shf) td_shf 29 1 (pc' := 55) (L' := [.val (.ref a), .val (.int f), .val (.int (1 : Int32)), .val (.int (nI pre.length))]) (S' := [.int (86 : Int32), .int c]) rfl ?_
        refine Go.icmp (B := B_shf) td_shf 30 (pc' := 62) rfl (by decide) rfl ?_ ?_
        · intro (h2 : c ≠ (86 : Int32))
          refine Go.run (B := B_shf) td_shf 33 4 (pc' := 26) (L' := [.val (.ref a), .val (.int f), .val (.int (0 : Int32)), .val (.int ((nI pre.length) + (1 : Int32)))]) (S' := []) rfl ?_
          exact z0 (hcons fun z => z.elim h1 h2) _
        · intro (h2 : ¬ (c ≠ (86 : Int32)))
          have hok : Okf c := Or.inr (Decidable.not_not.mp h2)
          refine Go.run (B := B_shf) td_shf 31 2 (pc' := 63) (L' := [.val (.ref a), .val (.int f), .val (.int (1 : Int32)), .val (.int (nI pre.length))]) (S' := [.int (1 : Int32)]) rfl ?_
          refine Go.run (B := B_shf) td_shf 34 3 (pc' := 26) (L' := [.val (.ref a), .val (.int f), .val (.int (1 : Int32)), .val (.int ((nI pre.length) + (1 : Int32)))]) (S' := []) rfl ?_
          have hih := ih (pre ++ [c]) (by simp [hc]) (fun x hx => by rcases List.mem_append.mp hx with h | h; exact hl x h; cases List.mem_singleton.mp h; exact okf_lat hok) (by simp only [List.length_append, List.length_singleton]; omega) (head_snoc hh) (tail_snoc hok hp ht) (fun z => absurd z (by simp only [List.length_append, List.length_singleton]; omega))
          rw [own_len_snoc] at hih
          exact hih
  refine Go.run (B := B_shf) td_shf 0 1 (pc' := 1) (L' := [.val (.ref a), .val (.int f), .unset, .unset]) (S' := [.ref a]) rfl ?_
  refine Go.callV (B := B_shf) td_shf 1 (B' := B_len) (C := "java/lang/String") (a := a) (argsL := []) (rest := []) (W := 0) rfl (lenR_met K hlen m) (Or.inr hm) (fun c P => P.1) (w_84 K) (w_85 K) (w_86 K) (w_87 K) (w_87 K) (w_8 K) (w_88 K) (by decide) pd_len rfl rfl rfl rfl (Nat.le_of_eq rfl) (by decide) (by decide) (by decide) (by decide) ?_
  rintro _ _ _ ⟨rfl, rfl, rfl⟩
  show Go A B_shf D _ 4 [.val (.ref a), .val (.int f), .unset, .unset] [.int (nI cs.length)] F G 0 0
  refine Go.run (B := B_shf) td_shf 2 1 (pc' := 5) (L' := [.val (.ref a), .val (.int f), .unset, .unset]) (S' := [.int (1 : Int32), .int (nI cs.length)]) rfl ?_
  refine Go.icmp (B := B_shf) td_shf 3 (pc' := 22) rfl (by decide) rfl ?_ ?_
  · intro (h : (nI cs.length) ≤ (1 : Int32))
    refine Go.run (B := B_shf) td_shf 11 4 (pc' := 26) (L' := [.val (.ref a), .val (.int f), .val (.int (0 : Int32)), .val (.int (1 : Int32))]) (S' := []) rfl ?_
    have h5 : nI cs.length ≤ nI 1 := h
    rw [nI_le (by omega) (by omega)] at h5
    exact z0 (fun z => absurd (short_len z.1) (by omega)) _
  · intro (h : ¬ ((nI cs.length) ≤ (1 : Int32)))
    have h5 : ¬ nI cs.length ≤ nI 1 := h
    rw [nI_le (by omega) (by omega)] at h5
    obtain ⟨c0, c1, r, hcs⟩ := two_of h5
    refine Go.run (B := B_shf) td_shf 4 2 (pc' := 10) (L' := [.val (.ref a), .val (.int f), .unset, .unset]) (S' := [.int (0 : Int32), .ref a]) rfl ?_
    refine Go.callV (B := B_shf) td_shf 6 (B' := B_cha) (C := "java/lang/String") (a := a) (argsL := [.int (0 : Int32)]) (rest := []) (W := 0) rfl (chaR_met K (pre := []) (suf := c1 :: r) (c := c0) hcs rfl hlen m) (Or.inr hm) (fun c P => P.1) (w_94 K) (w_16 K) (w_17 K) (w_18 K) (w_18 K) (w_8 K) (w_19 K) (by decide) pd_cha rfl rfl rfl rfl (Nat.le_of_eq rfl) (by decide) (by decide) (by decide) (by decide) ?_
    rintro _ _ _ ⟨rfl, rfl, rfl⟩
    show Go A B_shf D _ 13 [.val (.ref a), .val (.int f), .unset, .unset] [.int c0] F G 0 0
    refine Go.run (B := B_shf) td_shf 7 1 (pc' := 15) (L' := [.val (.ref a), .val (.int f), .unset, .unset]) (S' := [.int (45 : Int32), .int c0]) rfl ?_
    refine Go.icmp (B := B_shf) td_shf 8 (pc' := 22) rfl (by decide) rfl ?_ ?_
    · intro (h2 : c0 ≠ (45 : Int32))
      refine Go.run (B := B_shf) td_shf 11 4 (pc' := 26) (L' := [.val (.ref a), .val (.int f), .val (.int (0 : Int32)), .val (.int (1 : Int32))]) (S' := []) rfl ?_
      exact z0 (fun z => by rw [hcs] at z; exact h2 z.1.1) _
    · intro (h2 : ¬ (c0 ≠ (45 : Int32)))
      have e45 : c0 = 45 := Decidable.not_not.mp h2
      refine Go.run (B := B_shf) td_shf 9 2 (pc' := 23) (L' := [.val (.ref a), .val (.int f), .unset, .unset]) (S' := [.int (1 : Int32)]) rfl ?_
      refine Go.run (B := B_shf) td_shf 12 3 (pc' := 26) (L' := [.val (.ref a), .val (.int f), .val (.int (1 : Int32)), .val (.int (1 : Int32))]) (S' := []) rfl ?_
      exact loop (c1 :: r) [c0] hcs (fun x hx => by cases List.mem_singleton.mp hx; rw [e45]; decide) (by simp) (by simp [e45]) (fun x hx => by cases hx) (fun _ => by simp)
def tb_isv : List In1 := [(0, .aload_n 0, 1), (1, .ldc 51, 2), (3, .invokevirtual 42, 3), (6, .ifCond .ne 12, 3), (9, .aload_n 0, 1), (10, .bipush 86, 2), (12, .invokestatic 47, 3), (15, .ifCond .eq 7, 3), (18, .iconst 1, 1), (19, .goto 4, 3), (22, .iconst 0, 1), (23, .ireturn, 1)]
set_option maxRecDepth 65536 in
theorem td_isv : Dec prog_2_method_8_code tb_isv := by unfold Dec; decide +kernel
theorem pd_isv : parseMethodDescriptor "(Ljava/lang/String;)Z" = some ⟨[(.object "java/lang/String")], (some .boolean)⟩ := by decide +kernel
theorem pn_isv : plainFor (⟨"com/example/hedgewire/hedgewire/CommandSyntax", "isVersion", "(Ljava/lang/String;)Z"⟩ : MethodName) = true := by decide +kernel
abbrev B_isv : Bx := ((⟨"com/example/hedgewire/hedgewire/CommandSyntax", "isVersion", "(Ljava/lang/String;)Z"⟩ : MethodName), prog_2_method_8_code, 1, (Option.some Jvm.ClassFile.FieldType.boolean), ({ frames := 5, cells := 2, slots := 40, locals := 74 } : Room), false)
set_option maxRecDepth 65536 in
set_option maxHeartbeats 4000000 in
theorem isv_met {A : Ax} (K : Wd A) {a : Addr} {cs : List Int32} (hlen : 2 * cs.length < 2 ^ 31) {F G : List Ent} (m : StrL A G a cs) : Met A B_isv #[.ref a] F G (fun v F' G' => ∃ r, v = some (.int r) ∧ Is r (cs = [45, 45, 118, 101, 114, 115, 105, 111, 110] ∨ (Short cs ∧ 86 ∈ cs.tail)) ∧ F = F' ∧ G = G') := by
  refine MetW.of_go pn_isv K.ew (L := [.val (.ref a)]) (fun m => rfl) ?_
  intro D _
  obtain ⟨bS, cdS, hm⟩ := m.obj
  refine Go.run (B := B_isv) td_isv 0 1 (pc' := 1) (L' := [.val (.ref a)]) (S' := [.ref a]) rfl ?_
  refine Go.ldcS (B := B_isv) td_isv 1 (n := 36) (vs := (latB [45, 45, 118, 101, 114, 115, 105, 111, 110])) rfl (w_71 K) (strAtoms K) (by rw [show A.EL = consts_1 from K.el]; decide) K.wm (by decide +kernel) (by decide) (by decide) (by decide) (by decide) (by decide) ?_
  intro a1 b1
  show Go A B_isv D _ 3 [.val (.ref a)] [.ref a1, .ref a] F (StrE A a1 b1 0 :: (b1, ArrP A .byte (latB [45, 45, 118, 101, 114, 115, 105, 111, 110])) :: G) 2 40
  have hL : StrL A (StrE A a1 b1 0 :: BytE A b1 (latB [45, 45, 118, 101, 114, 115, 105, 111, 110]) :: G) a1 [45, 45, 118, 101, 114, 115, 105, 111, 110] := ⟨b1, Or.inl ⟨by decide, List.mem_of_getElem? (i := 0) rfl, List.mem_of_getElem? (i := 1) rfl⟩⟩
  refine Go.callV (B := B_isv) td_isv 2 (B' := B_seq) (C := "java/lang/String") (a := a) (argsL := [.ref a1]) (rest := []) (W := 0) rfl (eqL_met K hlen (by decide) rfl m.cons.cons hL) (Or.inr (.tail _ (.tail _ hm))) (fun c P => P.1) (w_72 K) (w_73 K) (w_74 K) (w_75 K) (w_75 K) (w_8 K) (w_76 K) (by decide) pd_seq rfl rfl rfl rfl (Nat.le_of_eq rfl) (by decide) (by decide) (by decide) (by decide) ?_
  rintro _ _ _ ⟨rfl, rfl, rfl⟩
  show Go A B_isv D _ 6 [.val (.ref a)] [.int (if cs = [45, 45, 118, 101, 114, 115, 105, 111, 110] then (1 : Int32) else 0)] F (StrE A a1 b1 0 :: (b1, ArrP A .byte (latB [45, 45, 118, 101, 114, 115, 105, 111, 110])) :: G) 2 40
  refine Go.if0 (B := B_isv) td_isv 3 (pc' := 18) rfl (by decide) rfl ?_ ?_
  · intro (h : (if cs = [45, 45, 118, 101, 114, 115, 105, 111, 110] then (1 : Int32) else 0) ≠ 0)
    refine Go.run (B := B_isv) td_isv 8 2 (pc' := 23) (L' := [.val (.ref a)]) (S' := [.int (1 : Int32)]) rfl ?_
    refine Go.gsub (G' := G) (fun x h => .tail _ (.tail _ h)) ?_
    exact Go.retZ (B := B_isv) td_isv 11 rfl rfl rfl ⟨1, rfl, Is.t (Or.inl (Decidable.byContradiction fun z => h (if_neg z))), rfl, rfl⟩ (by decide) (by decide)
  · intro (h : ¬ ((if cs = [45, 45, 118, 101, 114, 115, 105, 111, 110] then (1 : Int32) else 0) ≠ 0))
    have hne : ¬ cs = [45, 45, 118, 101, 114, 115, 105, 111, 110] := fun z => by rw [if_pos z] at h; exact h (by decide)
    refine Go.run (B := B_isv) td_isv 4 2 (pc' := 12) (L' := [.val (.ref a)]) (S' := [.int (86 : Int32), .ref a]) rfl ?_
    refine Go.callS (B := B_isv) td_isv 6 (B' := B_shf) (argsL := [.ref a, .int (86 : Int32)]) (rest := []) (W := 0) rfl (shf_met K hlen (by decide) (by decide) m.cons.cons) (w_81 K) (w_82 K) (w_69 K) (w_83 K) (by decide) pd_shf rfl rfl rfl rfl (Nat.le_of_eq rfl) (by decide) (by decide) (by decide) (by decide) ?_
    rintro _ _ _ ⟨r, rfl, hI, rfl, rfl⟩
    show Go A B_isv D _ 15 [.val (.ref a)] [.int r] F (StrE A a1 b1 0 :: (b1, ArrP A .byte (latB [45, 45, 118, 101, 114, 115, 105, 111, 110])) :: G) 2 40
    refine Go.if0 (B := B_isv) td_isv 7 (pc' := 22) rfl (by decide) rfl ?_ ?_
    · intro (h2 : r = 0)
      refine Go.run (B := B_isv) td_isv 10 1 (pc' := 23) (L' := [.val (.ref a)]) (S' := [.int (0 : Int32)]) rfl ?_
      refine Go.gsub (G' := G) (fun x h => .tail _ (.tail _ h)) ?_
      exact Go.retZ (B := B_isv) td_isv 11 rfl rfl rfl ⟨0, rfl, Is.f (fun q => q.elim hne fun q => by rw [hI.1 q] at h2; exact absurd h2 (by decide)), rfl, rfl⟩ (by decide) (by decide)
    · intro (h2 : ¬ (r = 0))
      refine Go.run (B := B_isv) td_isv 8 2 (pc' := 23) (L' := [.val (.ref a)]) (S' := [.int (1 : Int32)]) rfl ?_
      refine Go.gsub (G' := G) (fun x h => .tail _ (.tail _ h)) ?_
      exact Go.retZ (B := B_isv) td_isv 11 rfl rfl rfl ⟨1, rfl, Is.t (Or.inr (Classical.byContradiction fun q => h2 (hI.2 q))), rfl, rfl⟩ (by decide) (by decide)
--CUT
def tb_pki : List In1 := [(0, .iload 4, 2), (2, .ifCond .eq 22, 3), (5, .iload_n 2, 1), (6, .bipush 9, 2), (8, .if_icmp .ge 16, 3), (11, .iload_n 2, 1), (12, .iload 5, 2), (14, .if_icmp .eq 10, 3), (17, .ldc 31, 2), (19, .iload_n 2, 1), (20, .invokevirtual 33, 3), (23, .ireturn, 1), (24, .lload_n 0, 1), (25, .iconst 4, 1), (26, .iload_n 2, 1), (27, .imul, 1), (28, .lushr, 1), (29, .ldc2_w 39, 3), (32, .land, 1), (33, .l2i, 1), (34, .istore 6, 2), (36, .iload 6, 2), (38, .bipush 15, 2), (40, .if_icmp .ne 12, 3), (43, .iload_n 3, 1), (44, .iload_n 2, 1), (45, .iushr, 1), (46, .sipush 255, 3), (49, .iand, 1), (50, .i2c, 1), (51, .ireturn, 1), (52, .ldc 41, 2), (54, .iload 6, 2), (56, .invokevirtual 33, 3), (59, .ireturn, 1)]
set_option maxRecDepth 65536 in
theorem td_pki : Dec method_5_code tb_pki := by unfold Dec; decide +kernel
theorem pd_pki : parseMethodDescriptor "(JIIZI)C" = some ⟨[.long, .int, .int, .boolean, .int], (some .char)⟩ := by decide +kernel
theorem pn_pki : plainFor (⟨"com/example/hedgewire/hedgewire/CommandSyntaxIsVersionPinLaw", "pick", "(JIIZI)C"⟩ : MethodName) = true := by decide +kernel
abbrev B_pki : Bx := ((⟨"com/example/hedgewire/hedgewire/CommandSyntaxIsVersionPinLaw", "pick", "(JIIZI)C"⟩ : MethodName), method_5_code, 7, (Option.some Jvm.ClassFile.FieldType.char), ({ frames := 4, cells := 4, slots := 64, locals := 53 } : Room), true)
def Lc (c : Int32) : Prop := 0 ≤ c.toInt ∧ c.toInt < 256
theorem lc_ch {c : Int32} (h : Lc c) : 0 ≤ c.toInt ∧ c.toInt < 65536 := ⟨h.1, by have := h.2; omega⟩
theorem nib15 (x : Int64) : 0 ≤ (x &&& 15).toInt32.toInt ∧ (x &&& 15).toInt32.toInt < 16 := by
  have h1 := c_maskL x 15 4 (by decide) (by decide)
  have h2 := c_l2i (x &&& 15)
  have h3 := Int32.toInt_lt (x &&& 15).toInt32
  have h4 := Int32.le_toInt (x &&& 15).toInt32
  omega
theorem lc_and (x : Int32) : Lc (chr16 (x &&& 255)) := by
  have := and255_toInt x
  constructor <;> rw [chr16_toInt] <;> omega
theorem lit_at {l : List Int32} {i : Int32} (h0 : 0 ≤ i.toInt) (h1 : i.toInt < l.length) (hl : l.length < 2 ^ 31) : ∃ pre d suf, l = pre ++ d :: suf ∧ i = nI pre.length ∧ d ∈ l := by
  have hp : i.toInt.toNat < l.length := by omega
  refine ⟨l.take i.toInt.toNat, l[i.toInt.toNat], l.drop (i.toInt.toNat + 1), by simp, ?_, List.getElem_mem _⟩
  rw [i32_eq, nI_toInt (by rw [List.length_take]; omega), List.length_take]; omega
theorem is_eq {r g : Int32} {P : Prop} (h1 : Is r P) (h2 : Is g P) : r = g := by
  by_cases h : P
  · rw [h1.1 h, h2.1 h]
  · rw [h1.2 h, h2.2 h]
set_option maxRecDepth 65536 in
set_option maxHeartbeats 4000000 in
theorem pki_met {A : Ax} (K : Wd A) {nib : Int64} {i wi fw p : Int32} (hi0 : 0 ≤ i.toInt) {F G : List Ent} : Met A B_pki #[.long nib, .int i, .int wi, .int fw, .int p] F G (fun v F' G' => ∃ r, v = some (.int r) ∧ Lc r ∧ F = F' ∧ G = G') := by
  refine MetW.of_go pn_pki K.ew (L := [.val (.long nib), .second, .val (.int i), .val (.int wi), .val (.int fw), .val (.int p), .unset]) (fun m => rfl) ?_
  intro D _
  refine Go.run (B := B_pki) td_pki 0 1 (pc' := 2) (L' := [.val (.long nib), .second, .val (.int i), .val (.int wi), .val (.int fw), .val (.int p), .unset]) (S' := [.int fw]) rfl ?_
  have rst : Go A B_pki D (fun v F' G' => ∃ r, v = some (.int r) ∧ Lc r ∧ F = F' ∧ G = G') 24 [.val (.long nib), .second, .val (.int i), .val (.int wi), .val (.int fw), .val (.int p), .unset] [] F G 4 0 := by
    refine Go.run (B := B_pki) td_pki 12 5 (pc' := 29) (L' := [.val (.long nib), .second, .val (.int i), .val (.int wi), .val (.int fw), .val (.int p), .unset]) (S' := [.long (Jvm.Free.XT.ushrL nib ((4 : Int32) * i))]) rfl ?_
    refine Go.ldc2J (B := B_pki) td_pki 17 rfl (w_6 K) ?_
    refine Go.run (B := B_pki) td_pki 18 5 (pc' := 40) (L' := [.val (.long nib), .second, .val (.int i), .val (.int wi), .val (.int fw), .val (.int p), .val (.int (((Jvm.Free.XT.ushrL nib ((4 : Int32) * i)) &&& (15 : Int64)).toInt32))]) (S' := [.int (15 : Int32), .int (((Jvm.Free.XT.ushrL nib ((4 : Int32) * i)) &&& (15 : Int64)).toInt32)]) rfl ?_
    refine Go.icmp (B := B_pki) td_pki 23 (pc' := 52) rfl (by decide) rfl ?_ ?_
    · intro (h : (((Jvm.Free.XT.ushrL nib ((4 : Int32) * i)) &&& (15 : Int64)).toInt32) ≠ (15 : Int32))
      have hr : 0 ≤ (((Jvm.Free.XT.ushrL nib ((4 : Int32) * i)) &&& (15 : Int64)).toInt32).toInt ∧ (((Jvm.Free.XT.ushrL nib ((4 : Int32) * i)) &&& (15 : Int64)).toInt32).toInt < 16 := nib15 _
      have hz : ¬ ((((Jvm.Free.XT.ushrL nib ((4 : Int32) * i)) &&& (15 : Int64)).toInt32).toInt = (15 : Int32).toInt) := fun z => h (i32_eq.mpr z)
      have e15 : (15 : Int32).toInt = 15 := rfl
      have h15 : (((Jvm.Free.XT.ushrL nib ((4 : Int32) * i)) &&& (15 : Int64)).toInt32).toInt < (15 : Int) := by omega
      refine Go.ldcP (B := B_pki) td_pki 31 (n := 60) (vs := (latB [45, 104, 86, 118, 101, 114, 115, 105, 111, 110, 72, 61, 45, 104, 86])) rfl (w_7 K) (strAtoms K) (by rw [show A.EL = consts_1 from K.el]; decide) K.wm rfl (by decide) (by decide +kernel) (by decide) (by decide) (by decide) (by decide) ?_
      intro a1 b1
      show Go A B_pki D _ 54 [.val (.long nib), .second, .val (.int i), .val (.int wi), .val (.int fw), .val (.int p), .val (.int (((Jvm.Free.XT.ushrL nib ((4 : Int32) * i)) &&& (15 : Int64)).toInt32))] [.ref a1] F (StrE A a1 b1 0 :: (b1, ArrP A .byte (latB [45, 104, 86, 118, 101, 114, 115, 105, 111, 110, 72, 61, 45, 104, 86])) :: G) 4 64
      have hA : ∀ d ∈ ([45, 104, 86, 118, 101, 114, 115, 105, 111, 110, 72, 61, 45, 104, 86] : List Int32), Lc d := by unfold Lc; decide
      obtain ⟨pre, d, suf, hs, hi, hd⟩ := lit_at (l := ([45, 104, 86, 118, 101, 114, 115, 105, 111, 110, 72, 61, 45, 104, 86] : List Int32)) (i := (((Jvm.Free.XT.ushrL nib ((4 : Int32) * i)) &&& (15 : Int64)).toInt32)) hr.1 h15 (by decide)
      have hL : StrL A (StrE A a1 b1 0 :: BytE A b1 (latB ([45, 104, 86, 118, 101, 114, 115, 105, 111, 110, 72, 61, 45, 104, 86] : List Int32)) :: G) a1 ([45, 104, 86, 118, 101, 114, 115, 105, 111, 110, 72, 61, 45, 104, 86] : List Int32) := ⟨b1, Or.inl ⟨by decide, List.mem_of_getElem? (i := 0) rfl, List.mem_of_getElem? (i := 1) rfl⟩⟩
      refine Go.run (B := B_pki) td_pki 32 1 (pc' := 56) (L' := [.val (.long nib), .second, .val (.int i), .val (.int wi), .val (.int fw), .val (.int p), .val (.int (((Jvm.Free.XT.ushrL nib ((4 : Int32) * i)) &&& (15 : Int64)).toInt32))]) (S' := [.int (((Jvm.Free.XT.ushrL nib ((4 : Int32) * i)) &&& (15 : Int64)).toInt32), .ref a1]) rfl ?_
      refine Go.callV (B := B_pki) td_pki 33 (B' := B_cha) (C := "java/lang/String") (a := a1) (argsL := [.int (((Jvm.Free.XT.ushrL nib ((4 : Int32) * i)) &&& (15 : Int64)).toInt32)]) (rest := []) (W := 0) rfl (chaR_met K hs hi (by decide) hL) (Or.inr (List.mem_of_getElem? (i := 0) rfl)) (fun c P => P.1) (w_15 K) (w_16 K) (w_17 K) (w_18 K) (w_18 K) (w_8 K) (w_19 K) (by decide) pd_cha rfl rfl rfl rfl (Nat.le_of_eq rfl) (by decide) (by decide) (by decide) (by decide) ?_
      rintro _ _ _ ⟨rfl, rfl, rfl⟩
      show Go A B_pki D _ 59 [.val (.long nib), .second, .val (.int i), .val (.int wi), .val (.int fw), .val (.int p), .val (.int (((Jvm.Free.XT.ushrL nib ((4 : Int32) * i)) &&& (15 : Int64)).toInt32))] [.int d] F (StrE A a1 b1 0 :: (b1, ArrP A .byte (latB [45, 104, 86, 118, 101, 114, 115, 105, 111, 110, 72, 61, 45, 104, 86])) :: G) 4 64
      refine Go.gsub (G' := G) (fun x h => .tail _ (.tail _ h)) ?_
      exact Go.retC (B := B_pki) td_pki 34 rfl rfl (chr16_id (lc_ch (hA d hd))) ⟨d, rfl, hA d hd, rfl, rfl⟩ (by decide) (by decide)
    · intro (h : ¬ ((((Jvm.Free.XT.ushrL nib ((4 : Int32) * i)) &&& (15 : Int64)).toInt32) ≠ (15 : Int32)))
      refine Go.run (B := B_pki) td_pki 24 6 (pc' := 51) (L' := [.val (.long nib), .second, .val (.int i), .val (.int wi), .val (.int fw), .val (.int p), .val (.int (((Jvm.Free.XT.ushrL nib ((4 : Int32) * i)) &&& (15 : Int64)).toInt32))]) (S' := [.int (chr16 ((Jvm.Free.XT.ushr wi i) &&& (255 : Int32)))]) rfl ?_
      exact Go.retC (B := B_pki) td_pki 30 rfl rfl (chr16_chr16 _) ⟨_, rfl, lc_and _, rfl, rfl⟩ (by decide) (by decide)
  refine Go.if0 (B := B_pki) td_pki 1 (pc' := 24) rfl (by decide) rfl ?_ ?_
  · intro (h0 : fw = 0)
    exact rst
  · intro (h0 : ¬ (fw = 0))
    refine Go.run (B := B_pki) td_pki 2 2 (pc' := 8) (L' := [.val (.long nib), .second, .val (.int i), .val (.int wi), .val (.int fw), .val (.int p), .unset]) (S' := [.int (9 : Int32), .int i]) rfl ?_
    refine Go.icmp (B := B_pki) td_pki 4 (pc' := 24) rfl (by decide) rfl ?_ ?_
    · intro (h1 : i ≥ (9 : Int32))
      exact rst
    · intro (h1 : ¬ (i ≥ (9 : Int32)))
      refine Go.run (B := B_pki) td_pki 5 2 (pc' := 14) (L' := [.val (.long nib), .second, .val (.int i), .val (.int wi), .val (.int fw), .val (.int p), .unset]) (S' := [.int p, .int i]) rfl ?_
      refine Go.icmp (B := B_pki) td_pki 7 (pc' := 24) rfl (by decide) rfl ?_ ?_
      · intro (h2 : i = p)
        exact rst
      · intro (h2 : ¬ (i = p))
        have h9 : i.toInt < 9 := i32_lt.mp (Int32.not_le.mp h1)
        refine Go.ldcP (B := B_pki) td_pki 8 (n := 36) (vs := (latB [45, 45, 118, 101, 114, 115, 105, 111, 110])) rfl (w_99 K) (strAtoms K) (by rw [show A.EL = consts_1 from K.el]; decide) K.wm rfl (by decide) (by decide +kernel) (by decide) (by decide) (by decide) (by decide) ?_
        intro a1 b1
        show Go A B_pki D _ 19 [.val (.long nib), .second, .val (.int i), .val (.int wi), .val (.int fw), .val (.int p), .unset] [.ref a1] F (StrE A a1 b1 0 :: (b1, ArrP A .byte (latB [45, 45, 118, 101, 114, 115, 105, 111, 110])) :: G) 4 40
        have hA : ∀ d ∈ ([45, 45, 118, 101, 114, 115, 105, 111, 110] : List Int32), Lc d := by unfold Lc; decide
        obtain ⟨pre, d, suf, hs, hi, hd⟩ := lit_at (l := ([45, 45, 118, 101, 114, 115, 105, 111, 110] : List Int32)) (i := i) hi0 h9 (by decide)
        have hL : StrL A (StrE A a1 b1 0 :: BytE A b1 (latB ([45, 45, 118, 101, 114, 115, 105, 111, 110] : List Int32)) :: G) a1 ([45, 45, 118, 101, 114, 115, 105, 111, 110] : List Int32) := ⟨b1, Or.inl ⟨by decide, List.mem_of_getElem? (i := 0) rfl, List.mem_of_getElem? (i := 1) rfl⟩⟩
        refine Go.run (B := B_pki) td_pki 9 1 (pc' := 20) (L' := [.val (.long nib), .second, .val (.int i), .val (.int wi), .val (.int fw), .val (.int p), .unset]) (S' := [.int i, .ref a1]) rfl ?_
        refine Go.callV (B := B_pki) td_pki 10 (B' := B_cha) (C := "java/lang/String") (a := a1) (argsL := [.int i]) (rest := []) (W := 0) rfl (chaR_met K hs hi (by decide) hL) (Or.inr (List.mem_of_getElem? (i := 0) rfl)) (fun c P => P.1) (w_15 K) (w_16 K) (w_17 K) (w_18 K) (w_18 K) (w_8 K) (w_19 K) (by decide) pd_cha rfl rfl rfl rfl (Nat.le_of_eq rfl) (by decide) (by decide) (by decide) (by decide) ?_
        rintro _ _ _ ⟨rfl, rfl, rfl⟩
        show Go A B_pki D _ 23 [.val (.long nib), .second, .val (.int i), .val (.int wi), .val (.int fw), .val (.int p), .unset] [.int d] F (StrE A a1 b1 0 :: (b1, ArrP A .byte (latB [45, 45, 118, 101, 114, 115, 105, 111, 110])) :: G) 4 40
        refine Go.gsub (G' := G) (fun x h => .tail _ (.tail _ h)) ?_
        exact Go.retC (B := B_pki) td_pki 11 rfl rfl (chr16_id (lc_ch (hA d hd))) ⟨d, rfl, hA d hd, rfl, rfl⟩ (by decide) (by decide)
def tb_ff : List In1 := [(0, .iload_n 1, 1), (1, .iload_n 2, 1), (2, .if_icmp .ge 19, 3), (5, .aload_n 0, 1), (6, .iload_n 1, 1), (7, .caload, 1), (8, .bipush 104, 2), (10, .if_icmp .eq 11, 3), (13, .aload_n 0, 1), (14, .iload_n 1, 1), (15, .caload, 1), (16, .bipush 86, 2), (18, .if_icmp .ne 7, 3), (21, .iconst 1, 1), (22, .goto 4, 3), (25, .iconst 0, 1), (26, .ireturn, 1)]
set_option maxRecDepth 65536 in
theorem td_ff : Dec method_3_code tb_ff := by unfold Dec; decide +kernel
theorem pd_ff : parseMethodDescriptor "([CII)Z" = some ⟨[(.array .char), .int, .int], (some .boolean)⟩ := by decide +kernel
theorem pn_ff : plainFor (⟨"com/example/hedgewire/hedgewire/CommandSyntaxIsVersionPinLaw", "f", "([CII)Z"⟩ : MethodName) = true := by decide +kernel
abbrev B_ff : Bx := ((⟨"com/example/hedgewire/hedgewire/CommandSyntaxIsVersionPinLaw", "f", "([CII)Z"⟩ : MethodName), method_3_code, 3, (Option.some Jvm.ClassFile.FieldType.boolean), ({ frames := 0, cells := 0, slots := 0, locals := 0 } : Room), false)
set_option maxRecDepth 65536 in
set_option maxHeartbeats 4000000 in
theorem ff_met {A : Ax} (K : Wd A) {ar : Addr} {i n c : Int32} {vs : List Value} (hj : InB i vs.length) (hc : vs[i.toInt.toNat]? = some (.int c)) {F G : List Ent} (m : (ar, ArrP A .char vs) ∈ F ∨ (ar, ArrP A .char vs) ∈ G) : Met A B_ff #[.ref ar, .int i, .int n] F G (fun v F' G' => ∃ r, v = some (.int r) ∧ Is r (i ≥ n ∨ c = 104 ∨ c = 86) ∧ F = F' ∧ G = G') := by
  refine MetW.of_go pn_ff K.ew (L := [.val (.ref ar), .val (.int i), .val (.int n)]) (fun m => rfl) ?_
  intro D _
  refine Go.run (B := B_ff) td_ff 0 2 (pc' := 2) (L' := [.val (.ref ar), .val (.int i), .val (.int n)]) (S' := [.int n, .int i]) rfl ?_
  refine Go.icmp (B := B_ff) td_ff 2 (pc' := 21) rfl (by decide) rfl ?_ ?_
  · intro (h1 : i ≥ n)
    refine Go.run (B := B_ff) td_ff 13 2 (pc' := 26) (L' := [.val (.ref ar), .val (.int i), .val (.int n)]) (S' := [.int (1 : Int32)]) rfl ?_
    exact Go.retZ (B := B_ff) td_ff 16 rfl rfl rfl ⟨1, rfl, Is.t (Or.inl h1), rfl, rfl⟩ (by decide) (by decide)
  · intro (h1 : ¬ (i ≥ n))
    refine Go.run (B := B_ff) td_ff 3 2 (pc' := 7) (L' := [.val (.ref ar), .val (.int i), .val (.int n)]) (S' := [.int i, .ref ar]) rfl ?_
    refine Go.caload (B := B_ff) td_ff 5 (v := .int c) rfl m hj hc ?_
    refine Go.run (B := B_ff) td_ff 6 1 (pc' := 10) (L' := [.val (.ref ar), .val (.int i), .val (.int n)]) (S' := [.int (104 : Int32), .int c]) rfl ?_
    refine Go.icmp (B := B_ff) td_ff 7 (pc' := 21) rfl (by decide) rfl ?_ ?_
    · intro (h2 : c = (104 : Int32))
      refine Go.run (B := B_ff) td_ff 13 2 (pc' := 26) (L' := [.val (.ref ar), .val (.int i), .val (.int n)]) (S' := [.int (1 : Int32)]) rfl ?_
      exact Go.retZ (B := B_ff) td_ff 16 rfl rfl rfl ⟨1, rfl, Is.t (Or.inr (Or.inl h2)), rfl, rfl⟩ (by decide) (by decide)
    · intro (h2 : ¬ (c = (104 : Int32)))
      refine Go.run (B := B_ff) td_ff 8 2 (pc' := 15) (L' := [.val (.ref ar), .val (.int i), .val (.int n)]) (S' := [.int i, .ref ar]) rfl ?_
      refine Go.caload (B := B_ff) td_ff 10 (v := .int c) rfl m hj hc ?_
      refine Go.run (B := B_ff) td_ff 11 1 (pc' := 18) (L' := [.val (.ref ar), .val (.int i), .val (.int n)]) (S' := [.int (86 : Int32), .int c]) rfl ?_
      refine Go.icmp (B := B_ff) td_ff 12 (pc' := 25) rfl (by decide) rfl ?_ ?_
      · intro (h3 : c ≠ (86 : Int32))
        refine Go.run (B := B_ff) td_ff 15 1 (pc' := 26) (L' := [.val (.ref ar), .val (.int i), .val (.int n)]) (S' := [.int (0 : Int32)]) rfl ?_
        exact Go.retZ (B := B_ff) td_ff 16 rfl rfl rfl ⟨0, rfl, Is.f (fun z => z.elim h1 fun z => z.elim h2 h3), rfl, rfl⟩ (by decide) (by decide)
      · intro (h3 : ¬ (c ≠ (86 : Int32)))
        refine Go.run (B := B_ff) td_ff 13 2 (pc' := 26) (L' := [.val (.ref ar), .val (.int i), .val (.int n)]) (S' := [.int (1 : Int32)]) rfl ?_
        exact Go.retZ (B := B_ff) td_ff 16 rfl rfl rfl ⟨1, rfl, Is.t (Or.inr (Or.inr (Decidable.not_not.mp h3))), rfl, rfl⟩ (by decide) (by decide)
def tb_vv : List In1 := [(0, .iload_n 1, 1), (1, .iload_n 2, 1), (2, .if_icmp .ge 15, 3), (5, .aload_n 0, 1), (6, .iload_n 1, 1), (7, .caload, 1), (8, .bipush 86, 2), (10, .if_icmp .ne 7, 3), (13, .iconst 1, 1), (14, .goto 4, 3), (17, .iconst 0, 1), (18, .ireturn, 1)]
set_option maxRecDepth 65536 in
theorem td_vv : Dec method_4_code tb_vv := by unfold Dec; decide +kernel
theorem pd_vv : parseMethodDescriptor "([CII)Z" = some ⟨[(.array .char), .int, .int], (some .boolean)⟩ := by decide +kernel
theorem pn_vv : plainFor (⟨"com/example/hedgewire/hedgewire/CommandSyntaxIsVersionPinLaw", "v", "([CII)Z"⟩ : MethodName) = true := by decide +kernel
abbrev B_vv : Bx := ((⟨"com/example/hedgewire/hedgewire/CommandSyntaxIsVersionPinLaw", "v", "([CII)Z"⟩ : MethodName), method_4_code, 3, (Option.some Jvm.ClassFile.FieldType.boolean), ({ frames := 0, cells := 0, slots := 0, locals := 0 } : Room), false)
set_option maxRecDepth 65536 in
set_option maxHeartbeats 4000000 in
theorem vv_met {A : Ax} (K : Wd A) {ar : Addr} {i n c : Int32} {vs : List Value} (hj : InB i vs.length) (hc : vs[i.toInt.toNat]? = some (.int c)) {F G : List Ent} (m : (ar, ArrP A .char vs) ∈ F ∨ (ar, ArrP A .char vs) ∈ G) : Met A B_vv #[.ref ar, .int i, .int n] F G (fun v F' G' => ∃ r, v = some (.int r) ∧ Is r (i < n ∧ c = 86) ∧ F = F' ∧ G = G') := by
  refine MetW.of_go pn_vv K.ew (L := [.val (.ref ar), .val (.int i), .val (.int n)]) (fun m => rfl) ?_
  intro D _
  refine Go.run (B := B_vv) td_vv 0 2 (pc' := 2) (L' := [.val (.ref ar), .val (.int i), .val (.int n)]) (S' := [.int n, .int i]) rfl ?_
  refine Go.icmp (B := B_vv) td_vv 2 (pc' := 17) rfl (by decide) rfl ?_ ?_
  · intro (h1 : i ≥ n)
    refine Go.run (B := B_vv) td_vv 10 1 (pc' := 18) (L' := [.val (.ref ar), .val (.int i), .val (.int n)]) (S' := [.int (0 : Int32)]) rfl ?_
    exact Go.retZ (B := B_vv) td_vv 11 rfl rfl rfl ⟨0, rfl, Is.f (fun z => absurd h1 (Int32.not_le.mpr z.1)), rfl, rfl⟩ (by decide) (by decide)
  · intro (h1 : ¬ (i ≥ n))
    refine Go.run (B := B_vv) td_vv 3 2 (pc' := 7) (L' := [.val (.ref ar), .val (.int i), .val (.int n)]) (S' := [.int i, .ref ar]) rfl ?_
    refine Go.caload (B := B_vv) td_vv 5 (v := .int c) rfl m hj hc ?_
    refine Go.run (B := B_vv) td_vv 6 1 (pc' := 10) (L' := [.val (.ref ar), .val (.int i), .val (.int n)]) (S' := [.int (86 : Int32), .int c]) rfl ?_
    refine Go.icmp (B := B_vv) td_vv 7 (pc' := 17) rfl (by decide) rfl ?_ ?_
    · intro (h2 : c ≠ (86 : Int32))
      refine Go.run (B := B_vv) td_vv 10 1 (pc' := 18) (L' := [.val (.ref ar), .val (.int i), .val (.int n)]) (S' := [.int (0 : Int32)]) rfl ?_
      exact Go.retZ (B := B_vv) td_vv 11 rfl rfl rfl ⟨0, rfl, Is.f (fun z => h2 z.2), rfl, rfl⟩ (by decide) (by decide)
    · intro (h2 : ¬ (c ≠ (86 : Int32)))
      refine Go.run (B := B_vv) td_vv 8 2 (pc' := 18) (L' := [.val (.ref ar), .val (.int i), .val (.int n)]) (S' := [.int (1 : Int32)]) rfl ?_
      exact Go.retZ (B := B_vv) td_vv 11 rfl rfl rfl ⟨1, rfl, Is.t ⟨Int32.not_le.mp h1, Decidable.not_not.mp h2⟩, rfl, rfl⟩ (by decide) (by decide)
--CUT
def tb_mak : List In1 := [(0, .iload_n 1, 1), (1, .tableswitch 627 0 11 #[63, 74, 91, 114, 143, 178, 219, 267, 323, 387, 459, 539], 63), (64, .new 34, 3), (67, .dup, 1), (68, .iconst 0, 1), (69, .newarray .char, 2), (71, .invokespecial 43, 3), (74, .areturn, 1), (75, .new 34, 3), (78, .dup, 1), (79, .iconst 1, 1), (80, .newarray .char, 2), (82, .dup, 1), (83, .iconst 0, 1), (84, .aload_n 0, 1), (85, .iconst 0, 1), (86, .caload, 1), (87, .castore, 1), (88, .invokespecial 43, 3), (91, .areturn, 1), (92, .new 34, 3), (95, .dup, 1), (96, .iconst 2, 1), (97, .newarray .char, 2), (99, .dup, 1), (100, .iconst 0, 1), (101, .aload_n 0, 1), (102, .iconst 0, 1), (103, .caload, 1), (104, .castore, 1), (105, .dup, 1), (106, .iconst 1, 1), (107, .aload_n 0, 1), (108, .iconst 1, 1), (109, .caload, 1), (110, .castore, 1), (111, .invokespecial 43, 3), (114, .areturn, 1), (115, .new 34, 3), (118, .dup, 1), (119, .iconst 3, 1), (120, .newarray .char, 2), (122, .dup, 1), (123, .iconst 0, 1), (124, .aload_n 0, 1), (125, .iconst 0, 1), (126, .caload, 1), (127, .castore, 1), (128, .dup, 1), (129, .iconst 1, 1), (130, .aload_n 0, 1), (131, .iconst 1, 1), (132, .caload, 1), (133, .castore, 1), (134, .dup, 1), (135, .iconst 2, 1), (136, .aload_n 0, 1), (137, .iconst 2, 1), (138, .caload, 1), (139, .castore, 1), (140, .invokespecial 43, 3), (143, .areturn, 1), (144, .new 34, 3), (147, .dup, 1), (148, .iconst 4, 1), (149, .newarray .char, 2), (151, .dup, 1), (152, .iconst 0, 1), (153, .aload_n 0, 1), (154, .iconst 0, 1), (155, .caload, 1), (156, .castore, 1), (157, .dup, 1), (158, .iconst 1, 1), (159, .aload_n 0, 1), (160, .iconst 1, 1), (161, .caload, 1), (162, .castore, 1), (163, .dup, 1), (164, .iconst 2, 1), (165, .aload_n 0, 1), (166, .iconst 2, 1), (167, .caload, 1), (168, .castore, 1), (169, .dup, 1), (170, .iconst 3, 1), (171, .aload_n 0, 1), (172, .iconst 3, 1), (173, .caload, 1), (174, .castore, 1), (175, .invokespecial 43, 3), (178, .areturn, 1), (179, .new 34, 3), (182, .dup, 1), (183, .iconst 5, 1), (184, .newarray .char, 2), (186, .dup, 1), (187, .iconst 0, 1), (188, .aload_n 0, 1), (189, .iconst 0, 1), (190, .caload, 1), (191, .castore, 1), (192, .dup, 1), (193, .iconst 1, 1), (194, .aload_n 0, 1), (195, .iconst 1, 1), (196, .caload, 1), (197, .castore, 1), (198, .dup, 1), (199, .iconst 2, 1), (200, .aload_n 0, 1), (201, .iconst 2, 1), (202, .caload, 1), (203, .castore, 1), (204, .dup, 1), (205, .iconst 3, 1), (206, .aload_n 0, 1), (207, .iconst 3, 1), (208, .caload, 1), (209, .castore, 1), (210, .dup, 1), (211, .iconst 4, 1), (212, .aload_n 0, 1), (213, .iconst 4, 1), (214, .caload, 1), (215, .castore, 1), (216, .invokespecial 43, 3), (219, .areturn, 1), (220, .new 34, 3), (223, .dup, 1), (224, .bipush 6, 2), (226, .newarray .char, 2), (228, .dup, 1), (229, .iconst 0, 1), (230, .aload_n 0, 1), (231, .iconst 0, 1), (232, .caload, 1), (233, .castore, 1), (234, .dup, 1), (235, .iconst 1, 1), (236, .aload_n 0, 1), (237, .iconst 1, 1), (238, .caload, 1), (239, .castore, 1), (240, .dup, 1), (241, .iconst 2, 1), (242, .aload_n 0, 1), (243, .iconst 2, 1), (244, .caload, 1), (245, .castore, 1), (246, .dup, 1), (247, .iconst 3, 1), (248, .aload_n 0, 1), (249, .iconst 3, 1), (250, .caload, 1), (251, .castore, 1), (252, .dup, 1), (253, .iconst 4, 1), (254, .aload_n 0, 1), (255, .iconst 4, 1), (256, .caload, 1), (257, .castore, 1), (258, .dup, 1), (259, .iconst 5, 1), (260, .aload_n 0, 1), (261, .iconst 5, 1), (262, .caload, 1), (263, .castore, 1), (264, .invokespecial 43, 3), (267, .areturn, 1), (268, .new 34, 3), (271, .dup, 1), (272, .bipush 7, 2), (274, .newarray .char, 2), (276, .dup, 1), (277, .iconst 0, 1), (278, .aload_n 0, 1), (279, .iconst 0, 1), (280, .caload, 1), (281, .castore, 1), (282, .dup, 1), (283, .iconst 1, 1), (284, .aload_n 0, 1), (285, .iconst 1, 1), (286, .caload, 1), (287, .castore, 1), (288, .dup, 1), (289, .iconst 2, 1), (290, .aload_n 0, 1), (291, .iconst 2, 1), (292, .caload, 1), (293, .castore, 1), (294, .dup, 1), (295, .iconst 3, 1), (296, .aload_n 0, 1), (297, .iconst 3, 1), (298, .caload, 1), (299, .castore, 1), (300, .dup, 1), (301, .iconst 4, 1), (302, .aload_n 0, 1), (303, .iconst 4, 1), (304, .caload, 1), (305, .castore, 1), (306, .dup, 1), (307, .iconst 5, 1), (308, .aload_n 0, 1), (309, .iconst 5, 1), (310, .caload, 1), (311, .castore, 1), (312, .dup, 1), (313, .bipush 6, 2), (315, .aload_n 0, 1), (316, .bipush 6, 2), (318, .caload, 1), (319, .castore, 1), (320, .invokespecial 43, 3), (323, .areturn, 1), (324, .new 34, 3), (327, .dup, 1), (328, .bipush 8, 2), (330, .newarray .char, 2), (332, .dup, 1), (333, .iconst 0, 1), (334, .aload_n 0, 1), (335, .iconst 0, 1), (336, .caload, 1), (337, .castore, 1), (338, .dup, 1), (339, .iconst 1, 1), (340, .aload_n 0, 1), (341, .iconst 1, 1), (342, .caload, 1), (343, .castore, 1), (344, .dup, 1), (345, .iconst 2, 1), (346, .aload_n 0, 1), (347, .iconst 2, 1), (348, .caload, 1), (349, .castore, 1), (350, .dup, 1), (351, .iconst 3, 1), (352, .aload_n 0, 1), (353, .iconst 3, 1), (354, .caload, 1), (355, .castore, 1), (356, .dup, 1), (357, .iconst 4, 1), (358, .aload_n 0, 1), (359, .iconst 4, 1), (360, .caload, 1), (361, .castore, 1), (362, .dup, 1), (363, .iconst 5, 1), (364, .aload_n 0, 1), (365, .iconst 5, 1), (366, .caload, 1), (367, .castore, 1), (368, .dup, 1), (369, .bipush 6, 2), (371, .aload_n 0, 1), (372, .bipush 6, 2), (374, .caload, 1), (375, .castore, 1), (376, .dup, 1), (377, .bipush 7, 2), (379, .aload_n 0, 1), (380, .bipush 7, 2), (382, .caload, 1), (383, .castore, 1), (384, .invokespecial 43, 3), (387, .areturn, 1), (388, .new 34, 3), (391, .dup, 1), (392, .bipush 9, 2), (394, .newarray .char, 2), (396, .dup, 1), (397, .iconst 0, 1), (398, .aload_n 0, 1), (399, .iconst 0, 1), (400, .caload, 1), (401, .castore, 1), (402, .dup, 1), (403, .iconst 1, 1), (404, .aload_n 0, 1), (405, .iconst 1, 1), (406, .caload, 1), (407, .castore, 1), (408, .dup, 1), (409, .iconst 2, 1), (410, .aload_n 0, 1), (411, .iconst 2, 1), (412, .caload, 1), (413, .castore, 1), (414, .dup, 1), (415, .iconst 3, 1), (416, .aload_n 0, 1), (417, .iconst 3, 1), (418, .caload, 1), (419, .castore, 1), (420, .dup, 1), (421, .iconst 4, 1), (422, .aload_n 0, 1), (423, .iconst 4, 1), (424, .caload, 1), (425, .castore, 1), (426, .dup, 1), (427, .iconst 5, 1), (428, .aload_n 0, 1), (429, .iconst 5, 1), (430, .caload, 1), (431, .castore, 1), (432, .dup, 1), (433, .bipush 6, 2), (435, .aload_n 0, 1), (436, .bipush 6, 2), (438, .caload, 1), (439, .castore, 1), (440, .dup, 1), (441, .bipush 7, 2), (443, .aload_n 0, 1), (444, .bipush 7, 2), (446, .caload, 1), (447, .castore, 1), (448, .dup, 1), (449, .bipush 8, 2), (451, .aload_n 0, 1), (452, .bipush 8, 2), (454, .caload, 1), (455, .castore, 1), (456, .invokespecial 43, 3), (459, .areturn, 1), (460, .new 34, 3), (463, .dup, 1), (464, .bipush 10, 2), (466, .newarray .char, 2), (468, .dup, 1), (469, .iconst 0, 1), (470, .aload_n 0, 1), (471, .iconst 0, 1), (472, .caload, 1), (473, .castore, 1), (474, .dup, 1), (475, .iconst 1, 1), (476, .aload_n 0, 1), (477, .iconst 1, 1), (478, .caload, 1), (479, .castore, 1), (480, .dup, 1), (481, .iconst 2, 1), (482, .aload_n 0, 1), (483, .iconst 2, 1), (484, .caload, 1), (485, .castore, 1), (486, .dup, 1), (487, .iconst 3, 1), (488, .aload_n 0, 1), (489, .iconst 3, 1), (490, .caload, 1), (491, .castore, 1), (492, .dup, 1), (493, .iconst 4, 1), (494, .aload_n 0, 1), (495, .iconst 4, 1), (496, .caload, 1), (497, .castore, 1), (498, .dup, 1), (499, .iconst 5, 1), (500, .aload_n 0, 1), (501, .iconst 5, 1), (502, .caload, 1), (503, .castore, 1), (504, .dup, 1), (505, .bipush 6, 2), (507, .aload_n 0, 1), (508, .bipush 6, 2), (510, .caload, 1), (511, .castore, 1), (512, .dup, 1), (513, .bipush 7, 2), (515, .aload_n 0, 1), (516, .bipush 7, 2), (518, .caload, 1), (519, .castore, 1), (520, .dup, 1), (521, .bipush 8, 2), (523, .aload_n 0, 1), (524, .bipush 8, 2), (526, .caload, 1), (527, .castore, 1), (528, .dup, 1), (529, .bipush 9, 2), (531, .aload_n 0, 1), (532, .bipush 9, 2), (534, .caload, 1), (535, .castore, 1), (536, .invokespecial 43, 3), (539, .areturn, 1), (540, .new 34, 3), (543, .dup, 1), (544, .bipush 11, 2), (546, .newarray .char, 2), (548, .dup, 1), (549, .iconst 0, 1), (550, .aload_n 0, 1), (551, .iconst 0, 1), (552, .caload, 1), (553, .castore, 1), (554, .dup, 1), (555, .iconst 1, 1), (556, .aload_n 0, 1), (557, .iconst 1, 1), (558, .caload, 1), (559, .castore, 1), (560, .dup, 1), (561, .iconst 2, 1), (562, .aload_n 0, 1), (563, .iconst 2, 1), (564, .caload, 1), (565, .castore, 1), (566, .dup, 1), (567, .iconst 3, 1), (568, .aload_n 0, 1), (569, .iconst 3, 1), (570, .caload, 1), (571, .castore, 1), (572, .dup, 1), (573, .iconst 4, 1), (574, .aload_n 0, 1), (575, .iconst 4, 1), (576, .caload, 1), (577, .castore, 1), (578, .dup, 1), (579, .iconst 5, 1), (580, .aload_n 0, 1), (581, .iconst 5, 1), (582, .caload, 1), (583, .castore, 1), (584, .dup, 1), (585, .bipush 6, 2), (587, .aload_n 0, 1), (588, .bipush 6, 2), (590, .caload, 1), (591, .castore, 1), (592, .dup, 1), (593, .bipush 7, 2), (595, .aload_n 0, 1), (596, .bipush 7, 2), (598, .caload, 1), (599, .castore, 1), (600, .dup, 1), (601, .bipush 8, 2), (603, .aload_n 0, 1), (604, .bipush 8, 2), (606, .caload, 1), (607, .castore, 1), (608, .dup, 1), (609, .bipush 9, 2), (611, .aload_n 0, 1), (612, .bipush 9, 2), (614, .caload, 1), (615, .castore, 1), (616, .dup, 1), (617, .bipush 10, 2), (619, .aload_n 0, 1), (620, .bipush 10, 2), (622, .caload, 1), (623, .castore, 1), (624, .invokespecial 43, 3), (627, .areturn, 1), (628, .new 34, 3), (631, .dup, 1), (632, .bipush 12, 2), (634, .newarray .char, 2), (636, .dup, 1), (637, .iconst 0, 1), (638, .aload_n 0, 1), (639, .iconst 0, 1), (640, .caload, 1), (641, .castore, 1), (642, .dup, 1), (643, .iconst 1, 1), (644, .aload_n 0, 1), (645, .iconst 1, 1), (646, .caload, 1), (647, .castore, 1), (648, .dup, 1), (649, .iconst 2, 1), (650, .aload_n 0, 1), (651, .iconst 2, 1), (652, .caload, 1), (653, .castore, 1), (654, .dup, 1), (655, .iconst 3, 1), (656, .aload_n 0, 1), (657, .iconst 3, 1), (658, .caload, 1), (659, .castore, 1), (660, .dup, 1), (661, .iconst 4, 1), (662, .aload_n 0, 1), (663, .iconst 4, 1), (664, .caload, 1), (665, .castore, 1), (666, .dup, 1), (667, .iconst 5, 1), (668, .aload_n 0, 1), (669, .iconst 5, 1), (670, .caload, 1), (671, .castore, 1), (672, .dup, 1), (673, .bipush 6, 2), (675, .aload_n 0, 1), (676, .bipush 6, 2), (678, .caload, 1), (679, .castore, 1), (680, .dup, 1), (681, .bipush 7, 2), (683, .aload_n 0, 1), (684, .bipush 7, 2), (686, .caload, 1), (687, .castore, 1), (688, .dup, 1), (689, .bipush 8, 2), (691, .aload_n 0, 1), (692, .bipush 8, 2), (694, .caload, 1), (695, .castore, 1), (696, .dup, 1), (697, .bipush 9, 2), (699, .aload_n 0, 1), (700, .bipush 9, 2), (702, .caload, 1), (703, .castore, 1), (704, .dup, 1), (705, .bipush 10, 2), (707, .aload_n 0, 1), (708, .bipush 10, 2), (710, .caload, 1), (711, .castore, 1), (712, .dup, 1), (713, .bipush 11, 2), (715, .aload_n 0, 1), (716, .bipush 11, 2), (718, .caload, 1), (719, .castore, 1), (720, .invokespecial 43, 3), (723, .areturn, 1)]
set_option maxRecDepth 65536 in
theorem td_mak : Dec method_6_code tb_mak := by unfold Dec; decide +kernel
theorem pd_mak : parseMethodDescriptor "([CI)Ljava/lang/String;" = some ⟨[(.array .char), .int], (some (.object "java/lang/String"))⟩ := by decide +kernel
theorem pn_mak : plainFor (⟨"com/example/hedgewire/hedgewire/CommandSyntaxIsVersionPinLaw", "make", "([CI)Ljava/lang/String;"⟩ : MethodName) = true := by decide +kernel
abbrev B_mak : Bx := ((⟨"com/example/hedgewire/hedgewire/CommandSyntaxIsVersionPinLaw", "make", "([CI)Ljava/lang/String;"⟩ : MethodName), method_6_code, 2, (Option.some (Jvm.ClassFile.FieldType.object "java/lang/String")), ({ frames := 4, cells := 6, slots := 28, locals := 66 } : Room), false)
set_option maxRecDepth 65536 in
set_option maxHeartbeats 4000000 in
theorem mak0_met {A : Ax} (K : Wd A) {ar : Addr} {c0 c1 c2 c3 c4 c5 c6 c7 c8 c9 c10 c11 : Int32} (r0 : Lc c0) (r1 : Lc c1) (r2 : Lc c2) (r3 : Lc c3) (r4 : Lc c4) (r5 : Lc c5) (r6 : Lc c6) (r7 : Lc c7) (r8 : Lc c8) (r9 : Lc c9) (r10 : Lc c10) (r11 : Lc c11) {G : List Ent} : Met A B_mak #[.ref ar, .int (0 : Int32)] [(ar, ArrP A .char [.int c0, .int c1, .int c2, .int c3, .int c4, .int c5, .int c6, .int c7, .int c8, .int c9, .int c10, .int c11])] G (fun v F' G' => ∃ s q1 q2, v = some (.ref s) ∧ [(ar, ArrP A .char [.int c0, .int c1, .int c2, .int c3, .int c4, .int c5, .int c6, .int c7, .int c8, .int c9, .int c10, .int c11])] = F' ∧ q1 :: q2 :: G = G' ∧ StrL A (q1 :: q2 :: G) s []) := by
  refine MetW.of_go pn_mak K.ew (L := [.val (.ref ar), .val (.int (0 : Int32))]) (fun m => rfl) ?_
  intro D _
  refine Go.run (B := B_mak) td_mak 0 1 (pc' := 1) (L' := [.val (.ref ar), .val (.int (0 : Int32))]) (S' := [.int (0 : Int32)]) rfl ?_
  refine Go.tswIn (B := B_mak) td_mak 1 (o := 63) (pc' := 64) rfl (by decide) rfl (by decide) rfl ?_
  refine Go.new (B := B_mak) td_mak 2 (fs := [("java/lang/String", "value", "[B", .null), ("java/lang/String", "coder", "B", .int (0 : Int32))]) rfl (w_43 K) (w_9 K) (w_8 K) (own_layS (Or.inr (w_11 K)) rfl rfl (own_layS (Or.inr (w_12 K)) rfl rfl own_lay0)) (by decide) (by decide) ?_
  intro s
  show Go A B_mak D _ 67 [.val (.ref ar), .val (.int (0 : Int32))] [.ref s] [(s, ObjP A "java/lang/String" [("java/lang/String", "value", "[B", .null), ("java/lang/String", "coder", "B", .int (0 : Int32))]), (ar, ArrP A .char [.int c0, .int c1, .int c2, .int c3, .int c4, .int c5, .int c6, .int c7, .int c8, .int c9, .int c10, .int c11])] G 1 4
  refine Go.run (B := B_mak) td_mak 3 2 (pc' := 69) (L' := [.val (.ref ar), .val (.int (0 : Int32))]) (S' := [.int (0 : Int32), .ref s, .ref s]) rfl ?_
  refine Go.newarray (B := B_mak) td_mak 5 (ty := .char) (cap := 12) (vs := []) rfl rfl (w_1 K) (by decide) (by decide) (by decide) (by decide) (by decide) rfl ?_
  intro b
  show Go A B_mak D _ 71 [.val (.ref ar), .val (.int (0 : Int32))] [.ref b, .ref s, .ref s] [(b, ArrP A .char []), (s, ObjP A "java/lang/String" [("java/lang/String", "value", "[B", .null), ("java/lang/String", "coder", "B", .int (0 : Int32))]), (ar, ArrP A .char [.int c0, .int c1, .int c2, .int c3, .int c4, .int c5, .int c6, .int c7, .int c8, .int c9, .int c10, .int c11])] G 2 16
  refine Go.front 1 (F' := [(s, ObjP A "java/lang/String" [("java/lang/String", "value", "[B", .null), ("java/lang/String", "coder", "B", .int (0 : Int32))]), (b, ArrP A .char []), (ar, ArrP A .char [.int c0, .int c1, .int c2, .int c3, .int c4, .int c5, .int c6, .int c7, .int c8, .int c9, .int c10, .int c11])]) rfl rfl ?_
  have hl : Lat [] := by
    intro c h
    cases h
  refine Go.callN (B := B_mak) td_mak 6 (B' := B_sin) (a := s) (argsL := [.ref b]) (rest := [.ref s]) (W := 1) rfl (sinL_met K hl (own_le rfl) (Or.inl (List.mem_of_getElem? (i := 0) rfl))) rfl rfl (w_44 K) (w_45 K) (w_8 K) (w_46 K) (by decide) pd_sin rfl rfl rfl rfl (Nat.le_of_eq rfl) (by decide) (by decide) (by decide) (by decide) ?_
  rintro _ _ _ ⟨rfl, rfl, q1, q2, rfl, hS⟩
  show Go A B_mak D _ 74 [.val (.ref ar), .val (.int (0 : Int32))] [.ref s] [(b, ArrP A .char []), (ar, ArrP A .char [.int c0, .int c1, .int c2, .int c3, .int c4, .int c5, .int c6, .int c7, .int c8, .int c9, .int c10, .int c11])] (q1 :: q2 :: G) 6 28
  refine Go.drop ?_
  exact Go.retA (B := B_mak) td_mak 7 rfl rfl rfl rfl ⟨_, _, _, rfl, rfl, rfl, hS⟩ (by decide) (by decide)
set_option maxRecDepth 65536 in
set_option maxHeartbeats 4000000 in
theorem mak1_met {A : Ax} (K : Wd A) {ar : Addr} {c0 c1 c2 c3 c4 c5 c6 c7 c8 c9 c10 c11 : Int32} (r0 : Lc c0) (r1 : Lc c1) (r2 : Lc c2) (r3 : Lc c3) (r4 : Lc c4) (r5 : Lc c5) (r6 : Lc c6) (r7 : Lc c7) (r8 : Lc c8) (r9 : Lc c9) (r10 : Lc c10) (r11 : Lc c11) {G : List Ent} : Met A B_mak #[.ref ar, .int (1 : Int32)] [(ar, ArrP A .char [.int c0, .int c1, .int c2, .int c3, .int c4, .int c5, .int c6, .int c7, .int c8, .int c9, .int c10, .int c11])] G (fun v F' G' => ∃ s q1 q2, v = some (.ref s) ∧ [(ar, ArrP A .char [.int c0, .int c1, .int c2, .int c3, .int c4, .int c5, .int c6, .int c7, .int c8, .int c9, .int c10, .int c11])] = F' ∧ q1 :: q2 :: G = G' ∧ StrL A (q1 :: q2 :: G) s [c0]) := by
  refine MetW.of_go pn_mak K.ew (L := [.val (.ref ar), .val (.int (1 : Int32))]) (fun m => rfl) ?_
  intro D _
  refine Go.run (B := B_mak) td_mak 0 1 (pc' := 1) (L' := [.val (.ref ar), .val (.int (1 : Int32))]) (S' := [.int (1 : Int32)]) rfl ?_
  refine Go.tswIn (B := B_mak) td_mak 1 (o := 74) (pc' := 75) rfl (by decide) rfl (by decide) rfl ?_
  refine Go.new (B := B_mak) td_mak 8 (fs := [("java/lang/String", "value", "[B", .null), ("java/lang/String", "coder", "B", .int (0 : Int32))]) rfl (w_43 K) (w_9 K) (w_8 K) (own_layS (Or.inr (w_11 K)) rfl rfl (own_layS (Or.inr (w_12 K)) rfl rfl own_lay0)) (by decide) (by decide) ?_
  intro s
  show Go A B_mak D _ 78 [.val (.ref ar), .val (.int (1 : Int32))] [.ref s] [(s, ObjP A "java/lang/String" [("java/lang/String", "value", "[B", .null), ("java/lang/String", "coder", "B", .int (0 : Int32))]), (ar, ArrP A .char [.int c0, .int c1, .int c2, .int c3, .int c4, .int c5, .int c6, .int c7, .int c8, .int c9, .int c10, .int c11])] G 1 4
  refine Go.run (B := B_mak) td_mak 9 2 (pc' := 80) (L' := [.val (.ref ar), .val (.int (1 : Int32))]) (S' := [.int (1 : Int32), .ref s, .ref s]) rfl ?_
  refine Go.newarray (B := B_mak) td_mak 11 (ty := .char) (cap := 12) (vs := [.int 0]) rfl rfl (w_1 K) (by decide) (by decide) (by decide) (by decide) (by decide) rfl ?_
  intro b
  show Go A B_mak D _ 82 [.val (.ref ar), .val (.int (1 : Int32))] [.ref b, .ref s, .ref s] [(b, ArrP A .char [.int 0]), (s, ObjP A "java/lang/String" [("java/lang/String", "value", "[B", .null), ("java/lang/String", "coder", "B", .int (0 : Int32))]), (ar, ArrP A .char [.int c0, .int c1, .int c2, .int c3, .int c4, .int c5, .int c6, .int c7, .int c8, .int c9, .int c10, .int c11])] G 2 16
  refine Go.run (B := B_mak) td_mak 12 4 (pc' := 86) (L' := [.val (.ref ar), .val (.int (1 : Int32))]) (S' := [.int (0 : Int32), .ref ar, .int (0 : Int32), .ref b, .ref b, .ref s, .ref s]) rfl ?_
  refine Go.caload (B := B_mak) td_mak 16 (v := .int c0) rfl (Or.inl (List.mem_of_getElem? (i := 2) rfl)) (own_inB 12 rfl (by decide)) rfl ?_
  refine Go.castore (B := B_mak) td_mak 17 (vs' := [.int c0]) rfl (own_inB 1 rfl (by decide)) (by rw [chr16_id (lc_ch r0)]; rfl) ?_
  refine Go.front 1 (F' := [(s, ObjP A "java/lang/String" [("java/lang/String", "value", "[B", .null), ("java/lang/String", "coder", "B", .int (0 : Int32))]), (b, ArrP A .char [.int c0]), (ar, ArrP A .char [.int c0, .int c1, .int c2, .int c3, .int c4, .int c5, .int c6, .int c7, .int c8, .int c9, .int c10, .int c11])]) rfl rfl ?_
  have hl : Lat [c0] := by
    intro c h
    simp only [List.mem_cons, List.not_mem_nil, or_false] at h
    rcases h with rfl
    · exact r0
  refine Go.callN (B := B_mak) td_mak 18 (B' := B_sin) (a := s) (argsL := [.ref b]) (rest := [.ref s]) (W := 1) rfl (sinL_met K hl (own_le rfl) (Or.inl (List.mem_of_getElem? (i := 0) rfl))) rfl rfl (w_44 K) (w_45 K) (w_8 K) (w_46 K) (by decide) pd_sin rfl rfl rfl rfl (Nat.le_of_eq rfl) (by decide) (by decide) (by decide) (by decide) ?_
  rintro _ _ _ ⟨rfl, rfl, q1, q2, rfl, hS⟩
  show Go A B_mak D _ 91 [.val (.ref ar), .val (.int (1 : Int32))] [.ref s] [(b, ArrP A .char [.int c0]), (ar, ArrP A .char [.int c0, .int c1, .int c2, .int c3, .int c4, .int c5, .int c6, .int c7, .int c8, .int c9, .int c10, .int c11])] (q1 :: q2 :: G) 6 28
  refine Go.drop ?_
  exact Go.retA (B := B_mak) td_mak 19 rfl rfl rfl rfl ⟨_, _, _, rfl, rfl, rfl, hS⟩ (by decide) (by decide)
set_option maxRecDepth 65536 in
set_option maxHeartbeats 4000000 in
theorem mak2_met {A : Ax} (K : Wd A) {ar : Addr} {c0 c1 c2 c3 c4 c5 c6 c7 c8 c9 c10 c11 : Int32} (r0 : Lc c0) (r1 : Lc c1) (r2 : Lc c2) (r3 : Lc c3) (r4 : Lc c4) (r5 : Lc c5) (r6 : Lc c6) (r7 : Lc c7) (r8 : Lc c8) (r9 : Lc c9) (r10 : Lc c10) (r11 : Lc c11) {G : List Ent} : Met A B_mak #[.ref ar, .int (2 : Int32)] [(ar, ArrP A .char [.int c0, .int c1, .int c2, .int c3, .int c4, .int c5, .int c6, .int c7, .int c8, .int c9, .int c10, .int c11])] G (fun v F' G' => ∃ s q1 q2, v = some (.ref s) ∧ [(ar, ArrP A .char [.int c0, .int c1, .int c2, .int c3, .int c4, .int c5, .int c6, .int c7, .int c8, .int c9, .int c10, .int c11])] = F' ∧ q1 :: q2 :: G = G' ∧ StrL A (q1 :: q2 :: G) s [c0, c1]) := by
  refine MetW.of_go pn_mak K.ew (L := [.val (.ref ar), .val (.int (2 : Int32))]) (fun m => rfl) ?_
  intro D _
  refine Go.run (B := B_mak) td_mak 0 1 (pc' := 1) (L' := [.val (.ref ar), .val (.int (2 : Int32))]) (S' := [.int (2 : Int32)]) rfl ?_
  refine Go.tswIn (B := B_mak) td_mak 1 (o := 91) (pc' := 92) rfl (by decide) rfl (by decide) rfl ?_
  refine Go.new (B := B_mak) td_mak 20 (fs := [("java/lang/String", "value", "[B", .null), ("java/lang/String", "coder", "B", .int (0 : Int32))]) rfl (w_43 K) (w_9 K) (w_8 K) (own_layS (Or.inr (w_11 K)) rfl rfl (own_layS (Or.inr (w_12 K)) rfl rfl own_lay0)) (by decide) (by decide) ?_
  intro s
  show Go A B_mak D _ 95 [.val (.ref ar), .val (.int (2 : Int32))] [.ref s] [(s, ObjP A "java/lang/String" [("java/lang/String", "value", "[B", .null), ("java/lang/String", "coder", "B", .int (0 : Int32))]), (ar, ArrP A .char [.int c0, .int c1, .int c2, .int c3, .int c4, .int c5, .int c6, .int c7, .int c8, .int c9, .int c10, .int c11])] G 1 4
  refine Go.run (B := B_mak) td_mak 21 2 (pc' := 97) (L' := [.val (.ref ar), .val (.int (2 : Int32))]) (S' := [.int (2 : Int32), .ref s, .ref s]) rfl ?_
  refine Go.newarray (B := B_mak) td_mak 23 (ty := .char) (cap := 12) (vs := [.int 0, .int 0]) rfl rfl (w_1 K) (by decide) (by decide) (by decide) (by decide) (by decide) rfl ?_
  intro b
  show Go A B_mak D _ 99 [.val (.ref ar), .val (.int (2 : Int32))] [.ref b, .ref s, .ref s] [(b, ArrP A .char [.int 0, .int 0]), (s, ObjP A "java/lang/String" [("java/lang/String", "value", "[B", .null), ("java/lang/String", "coder", "B", .int (0 : Int32))]), (ar, ArrP A .char [.int c0, .int c1, .int c2, .int c3, .int c4, .int c5, .int c6, .int c7, .int c8, .int c9, .int c10, .int c11])] G 2 16
  refine Go.run (B := B_mak) td_mak 24 4 (pc' := 103) (L' := [.val (.ref ar), .val (.int (2 : Int32))]) (S' := [.int (0 : Int32), .ref ar, .int (0 : Int32), .ref b, .ref b, .ref s, .ref s]) rfl ?_
  refine Go.caload (B := B_mak) td_mak 28 (v := .int c0) rfl (Or.inl (List.mem_of_getElem? (i := 2) rfl)) (own_inB 12 rfl (by decide)) rfl ?_
  refine Go.castore (B := B_mak) td_mak 29 (vs' := [.int c0, .int 0]) rfl (own_inB 2 rfl (by decide)) (by rw [chr16_id (lc_ch r0)]; rfl) ?_
  refine Go.run (B := B_mak) td_mak 30 4 (pc' := 109) (L' := [.val (.ref ar), .val (.int (2 : Int32))]) (S' := [.int (1 : Int32), .ref ar, .int (1 : Int32), .ref b, .ref b, .ref s, .ref s]) rfl ?_
  refine Go.caload (B := B_mak) td_mak 34 (v := .int c1) rfl (Or.inl (List.mem_of_getElem? (i := 2) rfl)) (own_inB 12 rfl (by decide)) rfl ?_
  refine Go.castore (B := B_mak) td_mak 35 (vs' := [.int c0, .int c1]) rfl (own_inB 2 rfl (by decide)) (by rw [chr16_id (lc_ch r1)]; rfl) ?_
  refine Go.front 1 (F' := [(s, ObjP A "java/lang/String" [("java/lang/String", "value", "[B", .null), ("java/lang/String", "coder", "B", .int (0 : Int32))]), (b, ArrP A .char [.int c0, .int c1]), (ar, ArrP A .char [.int c0, .int c1, .int c2, .int c3, .int c4, .int c5, .int c6, .int c7, .int c8, .int c9, .int c10, .int c11])]) rfl rfl ?_
  have hl : Lat [c0, c1] := by
    intro c h
    simp only [List.mem_cons, List.not_mem_nil, or_false] at h
    rcases h with rfl | rfl
    · exact r0
    · exact r1
  refine Go.callN (B := B_mak) td_mak 36 (B' := B_sin) (a := s) (argsL := [.ref b]) (rest := [.ref s]) (W := 1) rfl (sinL_met K hl (own_le rfl) (Or.inl (List.mem_of_getElem? (i := 0) rfl))) rfl rfl (w_44 K) (w_45 K) (w_8 K) (w_46 K) (by decide) pd_sin rfl rfl rfl rfl (Nat.le_of_eq rfl) (by decide) (by decide) (by decide) (by decide) ?_
  rintro _ _ _ ⟨rfl, rfl, q1, q2, rfl, hS⟩
  show Go A B_mak D _ 114 [.val (.ref ar), .val (.int (2 : Int32))] [.ref s] [(b, ArrP A .char [.int c0, .int c1]), (ar, ArrP A .char [.int c0, .int c1, .int c2, .int c3, .int c4, .int c5, .int c6, .int c7, .int c8, .int c9, .int c10, .int c11])] (q1 :: q2 :: G) 6 28
  refine Go.drop ?_
  exact Go.retA (B := B_mak) td_mak 37 rfl rfl rfl rfl ⟨_, _, _, rfl, rfl, rfl, hS⟩ (by decide) (by decide)
set_option maxRecDepth 65536 in
set_option maxHeartbeats 4000000 in
theorem mak3_met {A : Ax} (K : Wd A) {ar : Addr} {c0 c1 c2 c3 c4 c5 c6 c7 c8 c9 c10 c11 : Int32} (r0 : Lc c0) (r1 : Lc c1) (r2 : Lc c2) (r3 : Lc c3) (r4 : Lc c4) (r5 : Lc c5) (r6 : Lc c6) (r7 : Lc c7) (r8 : Lc c8) (r9 : Lc c9) (r10 : Lc c10) (r11 : Lc c11) {G : List Ent} : Met A B_mak #[.ref ar, .int (3 : Int32)] [(ar, ArrP A .char [.int c0, .int c1, .int c2, .int c3, .int c4, .int c5, .int c6, .int c7, .int c8, .int c9, .int c10, .int c11])] G (fun v F' G' => ∃ s q1 q2, v = some (.ref s) ∧ [(ar, ArrP A .char [.int c0, .int c1, .int c2, .int c3, .int c4, .int c5, .int c6, .int c7, .int c8, .int c9, .int c10, .int c11])] = F' ∧ q1 :: q2 :: G = G' ∧ StrL A (q1 :: q2 :: G) s [c0, c1, c2]) := by
  refine MetW.of_go pn_mak K.ew (L := [.val (.ref ar), .val (.int (3 : Int32))]) (fun m => rfl) ?_
  intro D _
  refine Go.run (B := B_mak) td_mak 0 1 (pc' := 1) (L' := [.val (.ref ar), .val (.int (3 : Int32))]) (S' := [.int (3 : Int32)]) rfl ?_
  refine Go.tswIn (B := B_mak) td_mak 1 (o := 114) (pc' := 115) rfl (by decide) rfl (by decide) rfl ?_
  refine Go.new (B := B_mak) td_mak 38 (fs := [("java/lang/String", "value", "[B", .null), ("java/lang/String", "coder", "B", .int (0 : Int32))]) rfl (w_43 K) (w_9 K) (w_8 K) (own_layS (Or.inr (w_11 K)) rfl rfl (own_layS (Or.inr (w_12 K)) rfl rfl own_lay0)) (by decide) (by decide) ?_
  intro s
  show Go A B_mak D _ 118 [.val (.ref ar), .val (.int (3 : Int32))] [.ref s] [(s, ObjP A "java/lang/String" [("java/lang/String", "value", "[B", .null), ("java/lang/String", "coder", "B", .int (0 : Int32))]), (ar, ArrP A .char [.int c0, .int c1, .int c2, .int c3, .int c4, .int c5, .int c6, .int c7, .int c8, .int c9, .int c10, .int c11])] G 1 4
  refine Go.run (B := B_mak) td_mak 39 2 (pc' := 120) (L' := [.val (.ref ar), .val (.int (3 : Int32))]) (S' := [.int (3 : Int32), .ref s, .ref s]) rfl ?_
  refine Go.newarray (B := B_mak) td_mak 41 (ty := .char) (cap := 12) (vs := [.int 0, .int 0, .int 0]) rfl rfl (w_1 K) (by decide) (by decide) (by decide) (by decide) (by decide) rfl ?_
  intro b
  show Go A B_mak D _ 122 [.val (.ref ar), .val (.int (3 : Int32))] [.ref b, .ref s, .ref s] [(b, ArrP A .char [.int 0, .int 0, .int 0]), (s, ObjP A "java/lang/String" [("java/lang/String", "value", "[B", .null), ("java/lang/String", "coder", "B", .int (0 : Int32))]), (ar, ArrP A .char [.int c0, .int c1, .int c2, .int c3, .int c4, .int c5, .int c6, .int c7, .int c8, .int c9, .int c10, .int c11])] G 2 16
  refine Go.run (B := B_mak) td_mak 42 4 (pc' := 126) (L' := [.val (.ref ar), .val (.int (3 : Int32))]) (S' := [.int (0 : Int32), .ref ar, .int (0 : Int32), .ref b, .ref b, .ref s, .ref s]) rfl ?_
  refine Go.caload (B := B_mak) td_mak 46 (v := .int c0) rfl (Or.inl (List.mem_of_getElem? (i := 2) rfl)) (own_inB 12 rfl (by decide)) rfl ?_
  refine Go.castore (B := B_mak) td_mak 47 (vs' := [.int c0, .int 0, .int 0]) rfl (own_inB 3 rfl (by decide)) (by rw [chr16_id (lc_ch r0)]; rfl) ?_
  refine Go.run (B := B_mak) td_mak 48 4 (pc' := 132) (L' := [.val (.ref ar), .val (.int (3 : Int32))]) (S' := [.int (1 : Int32), .ref ar, .int (1 : Int32), .ref b, .ref b, .ref s, .ref s]) rfl ?_
  refine Go.caload (B := B_mak) td_mak 52 (v := .int c1) rfl (Or.inl (List.mem_of_getElem? (i := 2) rfl)) (own_inB 12 rfl (by decide)) rfl ?_
  refine Go.castore (B := B_mak) td_mak 53 (vs' := [.int c0, .int c1, .int 0]) rfl (own_inB 3 rfl (by decide)) (by rw [chr16_id (lc_ch r1)]; rfl) ?_
  refine Go.run (B := B_mak) td_mak 54 4 (pc' := 138) (L' := [.val (.ref ar), .val (.int (3 : Int32))]) (S' := [.int (2 : Int32), .ref ar, .int (2 : Int32), .ref b, .ref b, .ref s, .ref s]) rfl ?_
  refine Go.caload (B := B_mak) td_mak 58 (v := .int c2) rfl (Or.inl (List.mem_of_getElem? (i := 2) rfl)) (own_inB 12 rfl (by decide)) rfl ?_
  refine Go.castore (B := B_mak) td_mak 59 (vs' := [.int c0, .int c1, .int c2]) rfl (own_inB 3 rfl (by decide)) (by rw [chr16_id (lc_ch r2)]; rfl) ?_
  refine Go.front 1 (F' := [(s, ObjP A "java/lang/String" [("java/lang/String", "value", "[B", .null), ("java/lang/String", "coder", "B", .int (0 : Int32))]), (b, ArrP A .char [.int c0, .int c1, .int c2]), (ar, ArrP A .char [.int c0, .int c1, .int c2, .int c3, .int c4, .int c5, .int c6, .int c7, .int c8, .int c9, .int c10, .int c11])]) rfl rfl ?_
  have hl : Lat [c0, c1, c2] := by
    intro c h
    simp only [List.mem_cons, List.not_mem_nil, or_false] at h
    rcases h with rfl | rfl | rfl
    · exact r0
    · exact r1
    · exact r2
  refine Go.callN (B := B_mak) td_mak 60 (B' := B_sin) (a := s) (argsL := [.ref b]) (rest := [.ref s]) (W := 1) rfl (sinL_met K hl (own_le rfl) (Or.inl (List.mem_of_getElem? (i := 0) rfl))) rfl rfl (w_44 K) (w_45 K) (w_8 K) (w_46 K) (by decide) pd_sin rfl rfl rfl rfl (Nat.le_of_eq rfl) (by decide) (by decide) (by decide) (by decide) ?_
  rintro _ _ _ ⟨rfl, rfl, q1, q2, rfl, hS⟩
  show Go A B_mak D _ 143 [.val (.ref ar), .val (.int (3 : Int32))] [.ref s] [(b, ArrP A .char [.int c0, .int c1, .int c2]), (ar, ArrP A .char [.int c0, .int c1, .int c2, .int c3, .int c4, .int c5, .int c6, .int c7, .int c8, .int c9, .int c10, .int c11])] (q1 :: q2 :: G) 6 28
  refine Go.drop ?_
  exact Go.retA (B := B_mak) td_mak 61 rfl rfl rfl rfl ⟨_, _, _, rfl, rfl, rfl, hS⟩ (by decide) (by decide)
set_option maxRecDepth 65536 in
set_option maxHeartbeats 4000000 in
theorem mak4_met {A : Ax} (K : Wd A) {ar : Addr} {c0 c1 c2 c3 c4 c5 c6 c7 c8 c9 c10 c11 : Int32} (r0 : Lc c0) (r1 : Lc c1) (r2 : Lc c2) (r3 : Lc c3) (r4 : Lc c4) (r5 : Lc c5) (r6 : Lc c6) (r7 : Lc c7) (r8 : Lc c8) (r9 : Lc c9) (r10 : Lc c10) (r11 : Lc c11) {G : List Ent} : Met A B_mak #[.ref ar, .int (4 : Int32)] [(ar, ArrP A .char [.int c0, .int c1, .int c2, .int c3, .int c4, .int c5, .int c6, .int c7, .int c8, .int c9, .int c10, .int c11])] G (fun v F' G' => ∃ s q1 q2, v = some (.ref s) ∧ [(ar, ArrP A .char [.int c0, .int c1, .int c2, .int c3, .int c4, .int c5, .int c6, .int c7, .int c8, .int c9, .int c10, .int c11])] = F' ∧ q1 :: q2 :: G = G' ∧ StrL A (q1 :: q2 :: G) s [c0, c1, c2, c3]) := by
  refine MetW.of_go pn_mak K.ew (L := [.val (.ref ar), .val (.int (4 : Int32))]) (fun m => rfl) ?_
  intro D _
  refine Go.run (B := B_mak) td_mak 0 1 (pc' := 1) (L' := [.val (.ref ar), .val (.int (4 : Int32))]) (S' := [.int (4 : Int32)]) rfl ?_
  refine Go.tswIn (B := B_mak) td_mak 1 (o := 143) (pc' := 144) rfl (by decide) rfl (by decide) rfl ?_
  refine Go.new (B := B_mak) td_mak 62 (fs := [("java/lang/String", "value", "[B", .null), ("java/lang/String", "coder", "B", .int (0 : Int32))]) rfl (w_43 K) (w_9 K) (w_8 K) (own_layS (Or.inr (w_11 K)) rfl rfl (own_layS (Or.inr (w_12 K)) rfl rfl own_lay0)) (by decide) (by decide) ?_
  intro s
  show Go A B_mak D _ 147 [.val (.ref ar), .val (.int (4 : Int32))] [.ref s] [(s, ObjP A "java/lang/String" [("java/lang/String", "value", "[B", .null), ("java/lang/String", "coder", "B", .int (0 : Int32))]), (ar, ArrP A .char [.int c0, .int c1, .int c2, .int c3, .int c4, .int c5, .int c6, .int c7, .int c8, .int c9, .int c10, .int c11])] G 1 4
  refine Go.run (B := B_mak) td_mak 63 2 (pc' := 149) (L' := [.val (.ref ar), .val (.int (4 : Int32))]) (S' := [.int (4 : Int32), .ref s, .ref s]) rfl ?_
  refine Go.newarray (B := B_mak) td_mak 65 (ty := .char) (cap := 12) (vs := [.int 0, .int 0, .int 0, .int 0]) rfl rfl (w_1 K) (by decide) (by decide) (by decide) (by decide) (by decide) rfl ?_
  intro b
  show Go A B_mak D _ 151 [.val (.ref ar), .val (.int (4 : Int32))] [.ref b, .ref s, .ref s] [(b, ArrP A .char [.int 0, .int 0, .int 0, .int 0]), (s, ObjP A "java/lang/String" [("java/lang/String", "value", "[B", .null), ("java/lang/String", "coder", "B", .int (0 : Int32))]), (ar, ArrP A .char [.int c0, .int c1, .int c2, .int c3, .int c4, .int c5, .int c6, .int c7, .int c8, .int c9, .int c10, .int c11])] G 2 16
  refine Go.run (B := B_mak) td_mak 66 4 (pc' := 155) (L' := [.val (.ref ar), .val (.int (4 : Int32))]) (S' := [.int (0 : Int32), .ref ar, .int (0 : Int32), .ref b, .ref b, .ref s, .ref s]) rfl ?_
  refine Go.caload (B := B_mak) td_mak 70 (v := .int c0) rfl (Or.inl (List.mem_of_getElem? (i := 2) rfl)) (own_inB 12 rfl (by decide)) rfl ?_
  refine Go.castore (B := B_mak) td_mak 71 (vs' := [.int c0, .int 0, .int 0, .int 0]) rfl (own_inB 4 rfl (by decide)) (by rw [chr16_id (lc_ch r0)]; rfl) ?_
  refine Go.run (B := B_mak) td_mak 72 4 (pc' := 161) (L' := [.val (.ref ar), .val (.int (4 : Int32))]) (S' := [.int (1 : Int32), .ref ar, .int (1 : Int32), .ref b, .ref b, .ref s, .ref s]) rfl ?_
  refine Go.caload (B := B_mak) td_mak 76 (v := .int c1) rfl (Or.inl (List.mem_of_getElem? (i := 2) rfl)) (own_inB 12 rfl (by decide)) rfl ?_
  refine Go.castore (B := B_mak) td_mak 77 (vs' := [.int c0, .int c1, .int 0, .int 0]) rfl (own_inB 4 rfl (by decide)) (by rw [chr16_id (lc_ch r1)]; rfl) ?_
  refine Go.run (B := B_mak) td_mak 78 4 (pc' := 167) (L' := [.val (.ref ar), .val (.int (4 : Int32))]) (S' := [.int (2 : Int32), .ref ar, .int (2 : Int32), .ref b, .ref b, .ref s, .ref s]) rfl ?_
  refine Go.caload (B := B_mak) td_mak 82 (v := .int c2) rfl (Or.inl (List.mem_of_getElem? (i := 2) rfl)) (own_inB 12 rfl (by decide)) rfl ?_
  refine Go.castore (B := B_mak) td_mak 83 (vs' := [.int c0, .int c1, .int c2, .int 0]) rfl (own_inB 4 rfl (by decide)) (by rw [chr16_id (lc_ch r2)]; rfl) ?_
  refine Go.run (B := B_mak) td_mak 84 4 (pc' := 173) (L' := [.val (.ref ar), .val (.int (4 : Int32))]) (S' := [.int (3 : Int32), .ref ar, .int (3 : Int32), .ref b, .ref b, .ref s, .ref s]) rfl ?_
  refine Go.caload (B := B_mak) td_mak 88 (v := .int c3) rfl (Or.inl (List.mem_of_getElem? (i := 2) rfl)) (own_inB 12 rfl (by decide)) rfl ?_
  refine Go.castore (B := B_mak) td_mak 89 (vs' := [.int c0, .int c1, .int c2, .int c3]) rfl (own_inB 4 rfl (by decide)) (by rw [chr16_id (lc_ch r3)]; rfl) ?_
  refine Go.front 1 (F' := [(s, ObjP A "java/lang/String" [("java/lang/String", "value", "[B", .null), ("java/lang/String", "coder", "B", .int (0 : Int32))]), (b, ArrP A .char [.int c0, .int c1, .int c2, .int c3]), (ar, ArrP A .char [.int c0, .int c1, .int c2, .int c3, .int c4, .int c5, .int c6, .int c7, .int c8, .int c9, .int c10, .int c11])]) rfl rfl ?_
  have hl : Lat [c0, c1, c2, c3] := by
    intro c h
    simp only [List.mem_cons, List.not_mem_nil, or_false] at h
    rcases h with rfl | rfl | rfl | rfl
    · exact r0
    · exact r1
    · exact r2
    · exact r3
  refine Go.callN (B := B_mak) td_mak 90 (B' := B_sin) (a := s) (argsL := [.ref b]) (rest := [.ref s]) (W := 1) rfl (sinL_met K hl (own_le rfl) (Or.inl (List.mem_of_getElem? (i := 0) rfl))) rfl rfl (w_44 K) (w_45 K) (w_8 K) (w_46 K) (by decide) pd_sin rfl rfl rfl rfl (Nat.le_of_eq rfl) (by decide) (by decide) (by decide) (by decide) ?_
  rintro _ _ _ ⟨rfl, rfl, q1, q2, rfl, hS⟩
  show Go A B_mak D _ 178 [.val (.ref ar), .val (.int (4 : Int32))] [.ref s] [(b, ArrP A .char [.int c0, .int c1, .int c2, .int c3]), (ar, ArrP A .char [.int c0, .int c1, .int c2, .int c3, .int c4, .int c5, .int c6, .int c7, .int c8, .int c9, .int c10, .int c11])] (q1 :: q2 :: G) 6 28
  refine Go.drop ?_
  exact Go.retA (B := B_mak) td_mak 91 rfl rfl rfl rfl ⟨_, _, _, rfl, rfl, rfl, hS⟩ (by decide) (by decide)
--CUT
set_option maxRecDepth 65536 in
set_option maxHeartbeats 4000000 in
theorem mak5_met {A : Ax} (K : Wd A) {ar : Addr} {c0 c1 c2 c3 c4 c5 c6 c7 c8 c9 c10 c11 : Int32} (r0 : Lc c0) (r1 : Lc c1) (r2 : Lc c2) (r3 : Lc c3) (r4 : Lc c4) (r5 : Lc c5) (r6 : Lc c6) (r7 : Lc c7) (r8 : Lc c8) (r9 : Lc c9) (r10 : Lc c10) (r11 : Lc c11) {G : List Ent} : Met A B_mak #[.ref ar, .int (5 : Int32)] [(ar, ArrP A .char [.int c0, .int c1, .int c2, .int c3, .int c4, .int c5, .int c6, .int c7, .int c8, .int c9, .int c10, .int c11])] G (fun v F' G' => ∃ s q1 q2, v = some (.ref s) ∧ [(ar, ArrP A .char [.int c0, .int c1, .int c2, .int c3, .int c4, .int c5, .int c6, .int c7, .int c8, .int c9, .int c10, .int c11])] = F' ∧ q1 :: q2 :: G = G' ∧ StrL A (q1 :: q2 :: G) s [c0, c1, c2, c3, c4]) := by
  refine MetW.of_go pn_mak K.ew (L := [.val (.ref ar), .val (.int (5 : Int32))]) (fun m => rfl) ?_
  intro D _
  refine Go.run (B := B_mak) td_mak 0 1 (pc' := 1) (L' := [.val (.ref ar), .val (.int (5 : Int32))]) (S' := [.int (5 : Int32)]) rfl ?_
  refine Go.tswIn (B := B_mak) td_mak 1 (o := 178) (pc' := 179) rfl (by decide) rfl (by decide) rfl ?_
  refine Go.new (B := B_mak) td_mak 92 (fs := [("java/lang/String", "value", "[B", .null), ("java/lang/String", "coder", "B", .int (0 : Int32))]) rfl (w_43 K) (w_9 K) (w_8 K) (own_layS (Or.inr (w_11 K)) rfl rfl (own_layS (Or.inr (w_12 K)) rfl rfl own_lay0)) (by decide) (by decide) ?_
  intro s
  show Go A B_mak D _ 182 [.val (.ref ar), .val (.int (5 : Int32))] [.ref s] [(s, ObjP A "java/lang/String" [("java/lang/String", "value", "[B", .null), ("java/lang/String", "coder", "B", .int (0 : Int32))]), (ar, ArrP A .char [.int c0, .int c1, .int c2, .int c3, .int c4, .int c5, .int c6, .int c7, .int c8, .int c9, .int c10, .int c11])] G 1 4
  refine Go.run (B := B_mak) td_mak 93 2 (pc' := 184) (L' := [.val (.ref ar), .val (.int (5 : Int32))]) (S' := [.int (5 : Int32), .ref s, .ref s]) rfl ?_
  refine Go.newarray (B := B_mak) td_mak 95 (ty := .char) (cap := 12) (vs := [.int 0, .int 0, .int 0, .int 0, .int 0]) rfl rfl (w_1 K) (by decide) (by decide) (by decide) (by decide) (by decide) rfl ?_
  intro b
  show Go A B_mak D _ 186 [.val (.ref ar), .val (.int (5 : Int32))] [.ref b, .ref s, .ref s] [(b, ArrP A .char [.int 0, .int 0, .int 0, .int 0, .int 0]), (s, ObjP A "java/lang/String" [("java/lang/String", "value", "[B", .null), ("java/lang/String", "coder", "B", .int (0 : Int32))]), (ar, ArrP A .char [.int c0, .int c1, .int c2, .int c3, .int c4, .int c5, .int c6, .int c7, .int c8, .int c9, .int c10, .int c11])] G 2 16
  refine Go.run (B := B_mak) td_mak 96 4 (pc' := 190) (L' := [.val (.ref ar), .val (.int (5 : Int32))]) (S' := [.int (0 : Int32), .ref ar, .int (0 : Int32), .ref b, .ref b, .ref s, .ref s]) rfl ?_
  refine Go.caload (B := B_mak) td_mak 100 (v := .int c0) rfl (Or.inl (List.mem_of_getElem? (i := 2) rfl)) (own_inB 12 rfl (by decide)) rfl ?_
  refine Go.castore (B := B_mak) td_mak 101 (vs' := [.int c0, .int 0, .int 0, .int 0, .int 0]) rfl (own_inB 5 rfl (by decide)) (by rw [chr16_id (lc_ch r0)]; rfl) ?_
  refine Go.run (B := B_mak) td_mak 102 4 (pc' := 196) (L' := [.val (.ref ar), .val (.int (5 : Int32))]) (S' := [.int (1 : Int32), .ref ar, .int (1 : Int32), .ref b, .ref b, .ref s, .ref s]) rfl ?_
  refine Go.caload (B := B_mak) td_mak 106 (v := .int c1) rfl (Or.inl (List.mem_of_getElem? (i := 2) rfl)) (own_inB 12 rfl (by decide)) rfl ?_
  refine Go.castore (B := B_mak) td_mak 107 (vs' := [.int c0, .int c1, .int 0, .int 0, .int 0]) rfl (own_inB 5 rfl (by decide)) (by rw [chr16_id (lc_ch r1)]; rfl) ?_
  refine Go.run (B := B_mak) td_mak 108 4 (pc' := 202) (L' := [.val (.ref ar), .val (.int (5 : Int32))]) (S' := [.int (2 : Int32), .ref ar, .int (2 : Int32), .ref b, .ref b, .ref s, .ref s]) rfl ?_
  refine Go.caload (B := B_mak) td_mak 112 (v := .int c2) rfl (Or.inl (List.mem_of_getElem? (i := 2) rfl)) (own_inB 12 rfl (by decide)) rfl ?_
  refine Go.castore (B := B_mak) td_mak 113 (vs' := [.int c0, .int c1, .int c2, .int 0, .int 0]) rfl (own_inB 5 rfl (by decide)) (by rw [chr16_id (lc_ch r2)]; rfl) ?_
  refine Go.run (B := B_mak) td_mak 114 4 (pc' := 208) (L' := [.val (.ref ar), .val (.int (5 : Int32))]) (S' := [.int (3 : Int32), .ref ar, .int (3 : Int32), .ref b, .ref b, .ref s, .ref s]) rfl ?_
  refine Go.caload (B := B_mak) td_mak 118 (v := .int c3) rfl (Or.inl (List.mem_of_getElem? (i := 2) rfl)) (own_inB 12 rfl (by decide)) rfl ?_
  refine Go.castore (B := B_mak) td_mak 119 (vs' := [.int c0, .int c1, .int c2, .int c3, .int 0]) rfl (own_inB 5 rfl (by decide)) (by rw [chr16_id (lc_ch r3)]; rfl) ?_
  refine Go.run (B := B_mak) td_mak 120 4 (pc' := 214) (L' := [.val (.ref ar), .val (.int (5 : Int32))]) (S' := [.int (4 : Int32), .ref ar, .int (4 : Int32), .ref b, .ref b, .ref s, .ref s]) rfl ?_
  refine Go.caload (B := B_mak) td_mak 124 (v := .int c4) rfl (Or.inl (List.mem_of_getElem? (i := 2) rfl)) (own_inB 12 rfl (by decide)) rfl ?_
  refine Go.castore (B := B_mak) td_mak 125 (vs' := [.int c0, .int c1, .int c2, .int c3, .int c4]) rfl (own_inB 5 rfl (by decide)) (by rw [chr16_id (lc_ch r4)]; rfl) ?_
  refine Go.front 1 (F' := [(s, ObjP A "java/lang/String" [("java/lang/String", "value", "[B", .null), ("java/lang/String", "coder", "B", .int (0 : Int32))]), (b, ArrP A .char [.int c0, .int c1, .int c2, .int c3, .int c4]), (ar, ArrP A .char [.int c0, .int c1, .int c2, .int c3, .int c4, .int c5, .int c6, .int c7, .int c8, .int c9, .int c10, .int c11])]) rfl rfl ?_
  have hl : Lat [c0, c1, c2, c3, c4] := by
    intro c h
    simp only [List.mem_cons, List.not_mem_nil, or_false] at h
    rcases h with rfl | rfl | rfl | rfl | rfl
    · exact r0
    · exact r1
    · exact r2
    · exact r3
    · exact r4
  refine Go.callN (B := B_mak) td_mak 126 (B' := B_sin) (a := s) (argsL := [.ref b]) (rest := [.ref s]) (W := 1) rfl (sinL_met K hl (own_le rfl) (Or.inl (List.mem_of_getElem? (i := 0) rfl))) rfl rfl (w_44 K) (w_45 K) (w_8 K) (w_46 K) (by decide) pd_sin rfl rfl rfl rfl (Nat.le_of_eq rfl) (by decide) (by decide) (by decide) (by decide) ?_
  rintro _ _ _ ⟨rfl, rfl, q1, q2, rfl, hS⟩
  show Go A B_mak D _ 219 [.val (.ref ar), .val (.int (5 : Int32))] [.ref s] [(b, ArrP A .char [.int c0, .int c1, .int c2, .int c3, .int c4]), (ar, ArrP A .char [.int c0, .int c1, .int c2, .int c3, .int c4, .int c5, .int c6, .int c7, .int c8, .int c9, .int c10, .int c11])] (q1 :: q2 :: G) 6 28
  refine Go.drop ?_
  exact Go.retA (B := B_mak) td_mak 127 rfl rfl rfl rfl ⟨_, _, _, rfl, rfl, rfl, hS⟩ (by decide) (by decide)
set_option maxRecDepth 65536 in
set_option maxHeartbeats 4000000 in
theorem mak6_met {A : Ax} (K : Wd A) {ar : Addr} {c0 c1 c2 c3 c4 c5 c6 c7 c8 c9 c10 c11 : Int32} (r0 : Lc c0) (r1 : Lc c1) (r2 : Lc c2) (r3 : Lc c3) (r4 : Lc c4) (r5 : Lc c5) (r6 : Lc c6) (r7 : Lc c7) (r8 : Lc c8) (r9 : Lc c9) (r10 : Lc c10) (r11 : Lc c11) {G : List Ent} : Met A B_mak #[.ref ar, .int (6 : Int32)] [(ar, ArrP A .char [.int c0, .int c1, .int c2, .int c3, .int c4, .int c5, .int c6, .int c7, .int c8, .int c9, .int c10, .int c11])] G (fun v F' G' => ∃ s q1 q2, v = some (.ref s) ∧ [(ar, ArrP A .char [.int c0, .int c1, .int c2, .int c3, .int c4, .int c5, .int c6, .int c7, .int c8, .int c9, .int c10, .int c11])] = F' ∧ q1 :: q2 :: G = G' ∧ StrL A (q1 :: q2 :: G) s [c0, c1, c2, c3, c4, c5]) := by
  refine MetW.of_go pn_mak K.ew (L := [.val (.ref ar), .val (.int (6 : Int32))]) (fun m => rfl) ?_
  intro D _
  refine Go.run (B := B_mak) td_mak 0 1 (pc' := 1) (L' := [.val (.ref ar), .val (.int (6 : Int32))]) (S' := [.int (6 : Int32)]) rfl ?_
  refine Go.tswIn (B := B_mak) td_mak 1 (o := 219) (pc' := 220) rfl (by decide) rfl (by decide) rfl ?_
  refine Go.new (B := B_mak) td_mak 128 (fs := [("java/lang/String", "value", "[B", .null), ("java/lang/String", "coder", "B", .int (0 : Int32))]) rfl (w_43 K) (w_9 K) (w_8 K) (own_layS (Or.inr (w_11 K)) rfl rfl (own_layS (Or.inr (w_12 K)) rfl rfl own_lay0)) (by decide) (by decide) ?_
  intro s
  show Go A B_mak D _ 223 [.val (.ref ar), .val (.int (6 : Int32))] [.ref s] [(s, ObjP A "java/lang/String" [("java/lang/String", "value", "[B", .null), ("java/lang/String", "coder", "B", .int (0 : Int32))]), (ar, ArrP A .char [.int c0, .int c1, .int c2, .int c3, .int c4, .int c5, .int c6, .int c7, .int c8, .int c9, .int c10, .int c11])] G 1 4
  refine Go.run (B := B_mak) td_mak 129 2 (pc' := 226) (L' := [.val (.ref ar), .val (.int (6 : Int32))]) (S' := [.int (6 : Int32), .ref s, .ref s]) rfl ?_
  refine Go.newarray (B := B_mak) td_mak 131 (ty := .char) (cap := 12) (vs := [.int 0, .int 0, .int 0, .int 0, .int 0, .int 0]) rfl rfl (w_1 K) (by decide) (by decide) (by decide) (by decide) (by decide) rfl ?_
  intro b
  show Go A B_mak D _ 228 [.val (.ref ar), .val (.int (6 : Int32))] [.ref b, .ref s, .ref s] [(b, ArrP A .char [.int 0, .int 0, .int 0, .int 0, .int 0, .int 0]), (s, ObjP A "java/lang/String" [("java/lang/String", "value", "[B", .null), ("java/lang/String", "coder", "B", .int (0 : Int32))]), (ar, ArrP A .char [.int c0, .int c1, .int c2, .int c3, .int c4, .int c5, .int c6, .int c7, .int c8, .int c9, .int c10, .int c11])] G 2 16
  refine Go.run (B := B_mak) td_mak 132 4 (pc' := 232) (L' := [.val (.ref ar), .val (.int (6 : Int32))]) (S' := [.int (0 : Int32), .ref ar, .int (0 : Int32), .ref b, .ref b, .ref s, .ref s]) rfl ?_
  refine Go.caload (B := B_mak) td_mak 136 (v := .int c0) rfl (Or.inl (List.mem_of_getElem? (i := 2) rfl)) (own_inB 12 rfl (by decide)) rfl ?_
  refine Go.castore (B := B_mak) td_mak 137 (vs' := [.int c0, .int 0, .int 0, .int 0, .int 0, .int 0]) rfl (own_inB 6 rfl (by decide)) (by rw [chr16_id (lc_ch r0)]; rfl) ?_
  refine Go.run (B := B_mak) td_mak 138 4 (pc' := 238) (L' := [.val (.ref ar), .val (.int (6 : Int32))]) (S' := [.int (1 : Int32), .ref ar, .int (1 : Int32), .ref b, .ref b, .ref s, .ref s]) rfl ?_
  refine Go.caload (B := B_mak) td_mak 142 (v := .int c1) rfl (Or.inl (List.mem_of_getElem? (i := 2) rfl)) (own_inB 12 rfl (by decide)) rfl ?_
  refine Go.castore (B := B_mak) td_mak 143 (vs' := [.int c0, .int c1, .int 0, .int 0, .int 0, .int 0]) rfl (own_inB 6 rfl (by decide)) (by rw [chr16_id (lc_ch r1)]; rfl) ?_
  refine Go.run (B := B_mak) td_mak 144 4 (pc' := 244) (L' := [.val (.ref ar), .val (.int (6 : Int32))]) (S' := [.int (2 : Int32), .ref ar, .int (2 : Int32), .ref b, .ref b, .ref s, .ref s]) rfl ?_
  refine Go.caload (B := B_mak) td_mak 148 (v := .int c2) rfl (Or.inl (List.mem_of_getElem? (i := 2) rfl)) (own_inB 12 rfl (by decide)) rfl ?_
  refine Go.castore (B := B_mak) td_mak 149 (vs' := [.int c0, .int c1, .int c2, .int 0, .int 0, .int 0]) rfl (own_inB 6 rfl (by decide)) (by rw [chr16_id (lc_ch r2)]; rfl) ?_
  refine Go.run (B := B_mak) td_mak 150 4 (pc' := 250) (L' := [.val (.ref ar), .val (.int (6 : Int32))]) (S' := [.int (3 : Int32), .ref ar, .int (3 : Int32), .ref b, .ref b, .ref s, .ref s]) rfl ?_
  refine Go.caload (B := B_mak) td_mak 154 (v := .int c3) rfl (Or.inl (List.mem_of_getElem? (i := 2) rfl)) (own_inB 12 rfl (by decide)) rfl ?_
  refine Go.castore (B := B_mak) td_mak 155 (vs' := [.int c0, .int c1, .int c2, .int c3, .int 0, .int 0]) rfl (own_inB 6 rfl (by decide)) (by rw [chr16_id (lc_ch r3)]; rfl) ?_
  refine Go.run (B := B_mak) td_mak 156 4 (pc' := 256) (L' := [.val (.ref ar), .val (.int (6 : Int32))]) (S' := [.int (4 : Int32), .ref ar, .int (4 : Int32), .ref b, .ref b, .ref s, .ref s]) rfl ?_
  refine Go.caload (B := B_mak) td_mak 160 (v := .int c4) rfl (Or.inl (List.mem_of_getElem? (i := 2) rfl)) (own_inB 12 rfl (by decide)) rfl ?_
  refine Go.castore (B := B_mak) td_mak 161 (vs' := [.int c0, .int c1, .int c2, .int c3, .int c4, .int 0]) rfl (own_inB 6 rfl (by decide)) (by rw [chr16_id (lc_ch r4)]; rfl) ?_
  refine Go.run (B := B_mak) td_mak 162 4 (pc' := 262) (L' := [.val (.ref ar), .val (.int (6 : Int32))]) (S' := [.int (5 : Int32), .ref ar, .int (5 : Int32), .ref b, .ref b, .ref s, .ref s]) rfl ?_
  refine Go.caload (B := B_mak) td_mak 166 (v := .int c5) rfl (Or.inl (List.mem_of_getElem? (i := 2) rfl)) (own_inB 12 rfl (by decide)) rfl ?_
  refine Go.castore (B := B_mak) td_mak 167 (vs' := [.int c0, .int c1, .int c2, .int c3, .int c4, .int c5]) rfl (own_inB 6 rfl (by decide)) (by rw [chr16_id (lc_ch r5)]; rfl) ?_
  refine Go.front 1 (F' := [(s, ObjP A "java/lang/String" [("java/lang/String", "value", "[B", .null), ("java/lang/String", "coder", "B", .int (0 : Int32))]), (b, ArrP A .char [.int c0, .int c1, .int c2, .int c3, .int c4, .int c5]), (ar, ArrP A .char [.int c0, .int c1, .int c2, .int c3, .int c4, .int c5, .int c6, .int c7, .int c8, .int c9, .int c10, .int c11])]) rfl rfl ?_
  have hl : Lat [c0, c1, c2, c3, c4, c5] := by
    intro c h
    simp only [List.mem_cons, List.not_mem_nil, or_false] at h
    rcases h with rfl | rfl | rfl | rfl | rfl | rfl
    · exact r0
    · exact r1
    · exact r2
    · exact r3
    · exact r4
    · exact r5
  refine Go.callN (B := B_mak) td_mak 168 (B' := B_sin) (a := s) (argsL := [.ref b]) (rest := [.ref s]) (W := 1) rfl (sinL_met K hl (own_le rfl) (Or.inl (List.mem_of_getElem? (i := 0) rfl))) rfl rfl (w_44 K) (w_45 K) (w_8 K) (w_46 K) (by decide) pd_sin rfl rfl rfl rfl (Nat.le_of_eq rfl) (by decide) (by decide) (by decide) (by decide) ?_
  rintro _ _ _ ⟨rfl, rfl, q1, q2, rfl, hS⟩
  show Go A B_mak D _ 267 [.val (.ref ar), .val (.int (6 : Int32))] [.ref s] [(b, ArrP A .char [.int c0, .int c1, .int c2, .int c3, .int c4, .int c5]), (ar, ArrP A .char [.int c0, .int c1, .int c2, .int c3, .int c4, .int c5, .int c6, .int c7, .int c8, .int c9, .int c10, .int c11])] (q1 :: q2 :: G) 6 28
  refine Go.drop ?_
  exact Go.retA (B := B_mak) td_mak 169 rfl rfl rfl rfl ⟨_, _, _, rfl, rfl, rfl, hS⟩ (by decide) (by decide)
set_option maxRecDepth 65536 in
set_option maxHeartbeats 4000000 in
theorem mak7_met {A : Ax} (K : Wd A) {ar : Addr} {c0 c1 c2 c3 c4 c5 c6 c7 c8 c9 c10 c11 : Int32} (r0 : Lc c0) (r1 : Lc c1) (r2 : Lc c2) (r3 : Lc c3) (r4 : Lc c4) (r5 : Lc c5) (r6 : Lc c6) (r7 : Lc c7) (r8 : Lc c8) (r9 : Lc c9) (r10 : Lc c10) (r11 : Lc c11) {G : List Ent} : Met A B_mak #[.ref ar, .int (7 : Int32)] [(ar, ArrP A .char [.int c0, .int c1, .int c2, .int c3, .int c4, .int c5, .int c6, .int c7, .int c8, .int c9, .int c10, .int c11])] G (fun v F' G' => ∃ s q1 q2, v = some (.ref s) ∧ [(ar, ArrP A .char [.int c0, .int c1, .int c2, .int c3, .int c4, .int c5, .int c6, .int c7, .int c8, .int c9, .int c10, .int c11])] = F' ∧ q1 :: q2 :: G = G' ∧ StrL A (q1 :: q2 :: G) s [c0, c1, c2, c3, c4, c5, c6]) := by
  refine MetW.of_go pn_mak K.ew (L := [.val (.ref ar), .val (.int (7 : Int32))]) (fun m => rfl) ?_
  intro D _
  refine Go.run (B := B_mak) td_mak 0 1 (pc' := 1) (L' := [.val (.ref ar), .val (.int (7 : Int32))]) (S' := [.int (7 : Int32)]) rfl ?_
  refine Go.tswIn (B := B_mak) td_mak 1 (o := 267) (pc' := 268) rfl (by decide) rfl (by decide) rfl ?_
  refine Go.new (B := B_mak) td_mak 170 (fs := [("java/lang/String", "value", "[B", .null), ("java/lang/String", "coder", "B", .int (0 : Int32))]) rfl (w_43 K) (w_9 K) (w_8 K) (own_layS (Or.inr (w_11 K)) rfl rfl (own_layS (Or.inr (w_12 K)) rfl rfl own_lay0)) (by decide) (by decide) ?_
  intro s
  show Go A B_mak D _ 271 [.val (.ref ar), .val (.int (7 : Int32))] [.ref s] [(s, ObjP A "java/lang/String" [("java/lang/String", "value", "[B", .null), ("java/lang/String", "coder", "B", .int (0 : Int32))]), (ar, ArrP A .char [.int c0, .int c1, .int c2, .int c3, .int c4, .int c5, .int c6, .int c7, .int c8, .int c9, .int c10, .int c11])] G 1 4
  refine Go.run (B := B_mak) td_mak 171 2 (pc' := 274) (L' := [.val (.ref ar), .val (.int (7 : Int32))]) (S' := [.int (7 : Int32), .ref s, .ref s]) rfl ?_
  refine Go.newarray (B := B_mak) td_mak 173 (ty := .char) (cap := 12) (vs := [.int 0, .int 0, .int 0, .int 0, .int 0, .int 0, .int 0]) rfl rfl (w_1 K) (by decide) (by decide) (by decide) (by decide) (by decide) rfl ?_
  intro b
  show Go A B_mak D _ 276 [.val (.ref ar), .val (.int (7 : Int32))] [.ref b, .ref s, .ref s] [(b, ArrP A .char [.int 0, .int 0, .int 0, .int 0, .int 0, .int 0, .int 0]), (s, ObjP A "java/lang/String" [("java/lang/String", "value", "[B", .null), ("java/lang/String", "coder", "B", .int (0 : Int32))]), (ar, ArrP A .char [.int c0, .int c1, .int c2, .int c3, .int c4, .int c5, .int c6, .int c7, .int c8, .int c9, .int c10, .int c11])] G 2 16
  refine Go.run (B := B_mak) td_mak 174 4 (pc' := 280) (L' := [.val (.ref ar), .val (.int (7 : Int32))]) (S' := [.int (0 : Int32), .ref ar, .int (0 : Int32), .ref b, .ref b, .ref s, .ref s]) rfl ?_
  refine Go.caload (B := B_mak) td_mak 178 (v := .int c0) rfl (Or.inl (List.mem_of_getElem? (i := 2) rfl)) (own_inB 12 rfl (by decide)) rfl ?_
  refine Go.castore (B := B_mak) td_mak 179 (vs' := [.int c0, .int 0, .int 0, .int 0, .int 0, .int 0, .int 0]) rfl (own_inB 7 rfl (by decide)) (by rw [chr16_id (lc_ch r0)]; rfl) ?_
  refine Go.run (B := B_mak) td_mak 180 4 (pc' := 286) (L' := [.val (.ref ar), .val (.int (7 : Int32))]) (S' := [.int (1 : Int32), .ref ar, .int (1 : Int32), .ref b, .ref b, .ref s, .ref s]) rfl ?_
  refine Go.caload (B := B_mak) td_mak 184 (v := .int c1) rfl (Or.inl (List.mem_of_getElem? (i := 2) rfl)) (own_inB 12 rfl (by decide)) rfl ?_
  refine Go.castore (B := B_mak) td_mak 185 (vs' := [.int c0, .int c1, .int 0, .int 0, .int 0, .int 0, .int 0]) rfl (own_inB 7 rfl (by decide)) (by rw [chr16_id (lc_ch r1)]; rfl) ?_
  refine Go.run (B := B_mak) td_mak 186 4 (pc' := 292) (L' := [.val (.ref ar), .val (.int (7 : Int32))]) (S' := [.int (2 : Int32), .ref ar, .int (2 : Int32), .ref b, .ref b, .ref s, .ref s]) rfl ?_
  refine Go.caload (B := B_mak) td_mak 190 (v := .int c2) rfl (Or.inl (List.mem_of_getElem? (i := 2) rfl)) (own_inB 12 rfl (by decide)) rfl ?_
  refine Go.castore (B := B_mak) td_mak 191 (vs' := [.int c0, .int c1, .int c2, .int 0, .int 0, .int 0, .int 0]) rfl (own_inB 7 rfl (by decide)) (by rw [chr16_id (lc_ch r2)]; rfl) ?_
  refine Go.run (B := B_mak) td_mak 192 4 (pc' := 298) (L' := [.val (.ref ar), .val (.int (7 : Int32))]) (S' := [.int (3 : Int32), .ref ar, .int (3 : Int32), .ref b, .ref b, .ref s, .ref s]) rfl ?_
  refine Go.caload (B := B_mak) td_mak 196 (v := .int c3) rfl (Or.inl (List.mem_of_getElem? (i := 2) rfl)) (own_inB 12 rfl (by decide)) rfl ?_
  refine Go.castore (B := B_mak) td_mak 197 (vs' := [.int c0, .int c1, .int c2, .int c3, .int 0, .int 0, .int 0]) rfl (own_inB 7 rfl (by decide)) (by rw [chr16_id (lc_ch r3)]; rfl) ?_
  refine Go.run (B := B_mak) td_mak 198 4 (pc' := 304) (L' := [.val (.ref ar), .val (.int (7 : Int32))]) (S' := [.int (4 : Int32), .ref ar, .int (4 : Int32), .ref b, .ref b, .ref s, .ref s]) rfl ?_
  refine Go.caload (B := B_mak) td_mak 202 (v := .int c4) rfl (Or.inl (List.mem_of_getElem? (i := 2) rfl)) (own_inB 12 rfl (by decide)) rfl ?_
  refine Go.castore (B := B_mak) td_mak 203 (vs' := [.int c0, .int c1, .int c2, .int c3, .int c4, .int 0, .int 0]) rfl (own_inB 7 rfl (by decide)) (by rw [chr16_id (lc_ch r4)]; rfl) ?_
  refine Go.run (B := B_mak) td_mak 204 4 (pc' := 310) (L' := [.val (.ref ar), .val (.int (7 : Int32))]) (S' := [.int (5 : Int32), .ref ar, .int (5 : Int32), .ref b, .ref b, .ref s, .ref s]) rfl ?_
  refine Go.caload (B := B_mak) td_mak 208 (v := .int c5) rfl (Or.inl (List.mem_of_getElem? (i := 2) rfl)) (own_inB 12 rfl (by decide)) rfl ?_
  refine Go.castore (B := B_mak) td_mak 209 (vs' := [.int c0, .int c1, .int c2, .int c3, .int c4, .int c5, .int 0]) rfl (own_inB 7 rfl (by decide)) (by rw [chr16_id (lc_ch r5)]; rfl) ?_
  refine Go.run (B := B_mak) td_mak 210 4 (pc' := 318) (L' := [.val (.ref ar), .val (.int (7 : Int32))]) (S' := [.int (6 : Int32), .ref ar, .int (6 : Int32), .ref b, .ref b, .ref s, .ref s]) rfl ?_
  refine Go.caload (B := B_mak) td_mak 214 (v := .int c6) rfl (Or.inl (List.mem_of_getElem? (i := 2) rfl)) (own_inB 12 rfl (by decide)) rfl ?_
  refine Go.castore (B := B_mak) td_mak 215 (vs' := [.int c0, .int c1, .int c2, .int c3, .int c4, .int c5, .int c6]) rfl (own_inB 7 rfl (by decide)) (by rw [chr16_id (lc_ch r6)]; rfl) ?_
  refine Go.front 1 (F' := [(s, ObjP A "java/lang/String" [("java/lang/String", "value", "[B", .null), ("java/lang/String", "coder", "B", .int (0 : Int32))]), (b, ArrP A .char [.int c0, .int c1, .int c2, .int c3, .int c4, .int c5, .int c6]), (ar, ArrP A .char [.int c0, .int c1, .int c2, .int c3, .int c4, .int c5, .int c6, .int c7, .int c8, .int c9, .int c10, .int c11])]) rfl rfl ?_
  have hl : Lat [c0, c1, c2, c3, c4, c5, c6] := by
    intro c h
    simp only [List.mem_cons, List.not_mem_nil, or_false] at h
    rcases h with rfl | rfl | rfl | rfl | rfl | rfl | rfl
    · exact r0
    · exact r1
    · exact r2
    · exact r3
    · exact r4
    · exact r5
    · exact r6
  refine Go.callN (B := B_mak) td_mak 216 (B' := B_sin) (a := s) (argsL := [.ref b]) (rest := [.ref s]) (W := 1) rfl (sinL_met K hl (own_le rfl) (Or.inl (List.mem_of_getElem? (i := 0) rfl))) rfl rfl (w_44 K) (w_45 K) (w_8 K) (w_46 K) (by decide) pd_sin rfl rfl rfl rfl (Nat.le_of_eq rfl) (by decide) (by decide) (by decide) (by decide) ?_
  rintro _ _ _ ⟨rfl, rfl, q1, q2, rfl, hS⟩
  show Go A B_mak D _ 323 [.val (.ref ar), .val (.int (7 : Int32))] [.ref s] [(b, ArrP A .char [.int c0, .int c1, .int c2, .int c3, .int c4, .int c5, .int c6]), (ar, ArrP A .char [.int c0, .int c1, .int c2, .int c3, .int c4, .int c5, .int c6, .int c7, .int c8, .int c9, .int c10, .int c11])] (q1 :: q2 :: G) 6 28
  refine Go.drop ?_
  exact Go.retA (B := B_mak) td_mak 217 rfl rfl rfl rfl ⟨_, _, _, rfl, rfl, rfl, hS⟩ (by decide) (by decide)
set_option maxRecDepth 65536 in
set_option maxHeartbeats 4000000 in
theorem mak8_met {A : Ax} (K : Wd A) {ar : Addr} {c0 c1 c2 c3 c4 c5 c6 c7 c8 c9 c10 c11 : Int32} (r0 : Lc c0) (r1 : Lc c1) (r2 : Lc c2) (r3 : Lc c3) (r4 : Lc c4) (r5 : Lc c5) (r6 : Lc c6) (r7 : Lc c7) (r8 : Lc c8) (r9 : Lc c9) (r10 : Lc c10) (r11 : Lc c11) {G : List Ent} : Met A B_mak #[.ref ar, .int (8 : Int32)] [(ar, ArrP A .char [.int c0, .int c1, .int c2, .int c3, .int c4, .int c5, .int c6, .int c7, .int c8, .int c9, .int c10, .int c11])] G (fun v F' G' => ∃ s q1 q2, v = some (.ref s) ∧ [(ar, ArrP A .char [.int c0, .int c1, .int c2, .int c3, .int c4, .int c5, .int c6, .int c7, .int c8, .int c9, .int c10, .int c11])] = F' ∧ q1 :: q2 :: G = G' ∧ StrL A (q1 :: q2 :: G) s [c0, c1, c2, c3, c4, c5, c6, c7]) := by
  refine MetW.of_go pn_mak K.ew (L := [.val (.ref ar), .val (.int (8 : Int32))]) (fun m => rfl) ?_
  intro D _
  refine Go.run (B := B_mak) td_mak 0 1 (pc' := 1) (L' := [.val (.ref ar), .val (.int (8 : Int32))]) (S' := [.int (8 : Int32)]) rfl ?_
  refine Go.tswIn (B := B_mak) td_mak 1 (o := 323) (pc' := 324) rfl (by decide) rfl (by decide) rfl ?_
  refine Go.new (B := B_mak) td_mak 218 (fs := [("java/lang/String", "value", "[B", .null), ("java/lang/String", "coder", "B", .int (0 : Int32))]) rfl (w_43 K) (w_9 K) (w_8 K) (own_layS (Or.inr (w_11 K)) rfl rfl (own_layS (Or.inr (w_12 K)) rfl rfl own_lay0)) (by decide) (by decide) ?_
  intro s
  show Go A B_mak D _ 327 [.val (.ref ar), .val (.int (8 : Int32))] [.ref s] [(s, ObjP A "java/lang/String" [("java/lang/String", "value", "[B", .null), ("java/lang/String", "coder", "B", .int (0 : Int32))]), (ar, ArrP A .char [.int c0, .int c1, .int c2, .int c3, .int c4, .int c5, .int c6, .int c7, .int c8, .int c9, .int c10, .int c11])] G 1 4
  refine Go.run (B := B_mak) td_mak 219 2 (pc' := 330) (L' := [.val (.ref ar), .val (.int (8 : Int32))]) (S' := [.int (8 : Int32), .ref s, .ref s]) rfl ?_
  refine Go.newarray (B := B_mak) td_mak 221 (ty := .char) (cap := 12) (vs := [.int 0, .int 0, .int 0, .int 0, .int 0, .int 0, .int 0, .int 0]) rfl rfl (w_1 K) (by decide) (by decide) (by decide) (by decide) (by decide) rfl ?_
  intro b
  show Go A B_mak D _ 332 [.val (.ref ar), .val (.int (8 : Int32))] [.ref b, .ref s, .ref s] [(b, ArrP A .char [.int 0, .int 0, .int 0, .int 0, .int 0, .int 0, .int 0, .int 0]), (s, ObjP A "java/lang/String" [("java/lang/String", "value", "[B", .null), ("java/lang/String", "coder", "B", .int (0 : Int32))]), (ar, ArrP A .char [.int c0, .int c1, .int c2, .int c3, .int c4, .int c5, .int c6, .int c7, .int c8, .int c9, .int c10, .int c11])] G 2 16
  refine Go.run (B := B_mak) td_mak 222 4 (pc' := 336) (L' := [.val (.ref ar), .val (.int (8 : Int32))]) (S' := [.int (0 : Int32), .ref ar, .int (0 : Int32), .ref b, .ref b, .ref s, .ref s]) rfl ?_
  refine Go.caload (B := B_mak) td_mak 226 (v := .int c0) rfl (Or.inl (List.mem_of_getElem? (i := 2) rfl)) (own_inB 12 rfl (by decide)) rfl ?_
  refine Go.castore (B := B_mak) td_mak 227 (vs' := [.int c0, .int 0, .int 0, .int 0, .int 0, .int 0, .int 0, .int 0]) rfl (own_inB 8 rfl (by decide)) (by rw [chr16_id (lc_ch r0)]; rfl) ?_
  refine Go.run (B := B_mak) td_mak 228 4 (pc' := 342) (L' := [.val (.ref ar), .val (.int (8 : Int32))]) (S' := [.int (1 : Int32), .ref ar, .int (1 : Int32), .ref b, .ref b, .ref s, .ref s]) rfl ?_
  refine Go.caload (B := B_mak) td_mak 232 (v := .int c1) rfl (Or.inl (List.mem_of_getElem? (i := 2) rfl)) (own_inB 12 rfl (by decide)) rfl ?_
  refine Go.castore (B := B_mak) td_mak 233 (vs' := [.int c0, .int c1, .int 0, .int 0, .int 0, .int 0, .int 0, .int 0]) rfl (own_inB 8 rfl (by decide)) (by rw [chr16_id (lc_ch r1)]; rfl) ?_
  refine Go.run (B := B_mak) td_mak 234 4 (pc' := 348) (L' := [.val (.ref ar), .val (.int (8 : Int32))]) (S' := [.int (2 : Int32), .ref ar, .int (2 : Int32), .ref b, .ref b, .ref s, .ref s]) rfl ?_
  refine Go.caload (B := B_mak) td_mak 238 (v := .int c2) rfl (Or.inl (List.mem_of_getElem? (i := 2) rfl)) (own_inB 12 rfl (by decide)) rfl ?_
  refine Go.castore (B := B_mak) td_mak 239 (vs' := [.int c0, .int c1, .int c2, .int 0, .int 0, .int 0, .int 0, .int 0]) rfl (own_inB 8 rfl (by decide)) (by rw [chr16_id (lc_ch r2)]; rfl) ?_
  refine Go.run (B := B_mak) td_mak 240 4 (pc' := 354) (L' := [.val (.ref ar), .val (.int (8 : Int32))]) (S' := [.int (3 : Int32), .ref ar, .int (3 : Int32), .ref b, .ref b, .ref s, .ref s]) rfl ?_
  refine Go.caload (B := B_mak) td_mak 244 (v := .int c3) rfl (Or.inl (List.mem_of_getElem? (i := 2) rfl)) (own_inB 12 rfl (by decide)) rfl ?_
  refine Go.castore (B := B_mak) td_mak 245 (vs' := [.int c0, .int c1, .int c2, .int c3, .int 0, .int 0, .int 0, .int 0]) rfl (own_inB 8 rfl (by decide)) (by rw [chr16_id (lc_ch r3)]; rfl) ?_
  refine Go.run (B := B_mak) td_mak 246 4 (pc' := 360) (L' := [.val (.ref ar), .val (.int (8 : Int32))]) (S' := [.int (4 : Int32), .ref ar, .int (4 : Int32), .ref b, .ref b, .ref s, .ref s]) rfl ?_
  refine Go.caload (B := B_mak) td_mak 250 (v := .int c4) rfl (Or.inl (List.mem_of_getElem? (i := 2) rfl)) (own_inB 12 rfl (by decide)) rfl ?_
  refine Go.castore (B := B_mak) td_mak 251 (vs' := [.int c0, .int c1, .int c2, .int c3, .int c4, .int 0, .int 0, .int 0]) rfl (own_inB 8 rfl (by decide)) (by rw [chr16_id (lc_ch r4)]; rfl) ?_
  refine Go.run (B := B_mak) td_mak 252 4 (pc' := 366) (L' := [.val (.ref ar), .val (.int (8 : Int32))]) (S' := [.int (5 : Int32), .ref ar, .int (5 : Int32), .ref b, .ref b, .ref s, .ref s]) rfl ?_
  refine Go.caload (B := B_mak) td_mak 256 (v := .int c5) rfl (Or.inl (List.mem_of_getElem? (i := 2) rfl)) (own_inB 12 rfl (by decide)) rfl ?_
  refine Go.castore (B := B_mak) td_mak 257 (vs' := [.int c0, .int c1, .int c2, .int c3, .int c4, .int c5, .int 0, .int 0]) rfl (own_inB 8 rfl (by decide)) (by rw [chr16_id (lc_ch r5)]; rfl) ?_
  refine Go.run (B := B_mak) td_mak 258 4 (pc' := 374) (L' := [.val (.ref ar), .val (.int (8 : Int32))]) (S' := [.int (6 : Int32), .ref ar, .int (6 : Int32), .ref b, .ref b, .ref s, .ref s]) rfl ?_
  refine Go.caload (B := B_mak) td_mak 262 (v := .int c6) rfl (Or.inl (List.mem_of_getElem? (i := 2) rfl)) (own_inB 12 rfl (by decide)) rfl ?_
  refine Go.castore (B := B_mak) td_mak 263 (vs' := [.int c0, .int c1, .int c2, .int c3, .int c4, .int c5, .int c6, .int 0]) rfl (own_inB 8 rfl (by decide)) (by rw [chr16_id (lc_ch r6)]; rfl) ?_
  refine Go.run (B := B_mak) td_mak 264 4 (pc' := 382) (L' := [.val (.ref ar), .val (.int (8 : Int32))]) (S' := [.int (7 : Int32), .ref ar, .int (7 : Int32), .ref b, .ref b, .ref s, .ref s]) rfl ?_
  refine Go.caload (B := B_mak) td_mak 268 (v := .int c7) rfl (Or.inl (List.mem_of_getElem? (i := 2) rfl)) (own_inB 12 rfl (by decide)) rfl ?_
  refine Go.castore (B := B_mak) td_mak 269 (vs' := [.int c0, .int c1, .int c2, .int c3, .int c4, .int c5, .int c6, .int c7]) rfl (own_inB 8 rfl (by decide)) (by rw [chr16_id (lc_ch r7)]; rfl) ?_
  refine Go.front 1 (F' := [(s, ObjP A "java/lang/String" [("java/lang/String", "value", "[B", .null), ("java/lang/String", "coder", "B", .int (0 : Int32))]), (b, ArrP A .char [.int c0, .int c1, .int c2, .int c3, .int c4, .int c5, .int c6, .int c7]), (ar, ArrP A .char [.int c0, .int c1, .int c2, .int c3, .int c4, .int c5, .int c6, .int c7, .int c8, .int c9, .int c10, .int c11])]) rfl rfl ?_
  have hl : Lat [c0, c1, c2, c3, c4, c5, c6, c7] := by
    intro c h
    simp only [List.mem_cons, List.not_mem_nil, or_false] at h
    rcases h with rfl | rfl | rfl | rfl | rfl | rfl | rfl | rfl
    · exact r0
    · exact r1
    · exact r2
    · exact r3
    · exact r4
    · exact r5
    · exact r6
    · exact r7
  refine Go.callN (B := B_mak) td_mak 270 (B' := B_sin) (a := s) (argsL := [.ref b]) (rest := [.ref s]) (W := 1) rfl (sinL_met K hl (own_le rfl) (Or.inl (List.mem_of_getElem? (i := 0) rfl))) rfl rfl (w_44 K) (w_45 K) (w_8 K) (w_46 K) (by decide) pd_sin rfl rfl rfl rfl (Nat.le_of_eq rfl) (by decide) (by decide) (by decide) (by decide) ?_
  rintro _ _ _ ⟨rfl, rfl, q1, q2, rfl, hS⟩
  show Go A B_mak D _ 387 [.val (.ref ar), .val (.int (8 : Int32))] [.ref s] [(b, ArrP A .char [.int c0, .int c1, .int c2, .int c3, .int c4, .int c5, .int c6, .int c7]), (ar, ArrP A .char [.int c0, .int c1, .int c2, .int c3, .int c4, .int c5, .int c6, .int c7, .int c8, .int c9, .int c10, .int c11])] (q1 :: q2 :: G) 6 28
  refine Go.drop ?_
  exact Go.retA (B := B_mak) td_mak 271 rfl rfl rfl rfl ⟨_, _, _, rfl, rfl, rfl, hS⟩ (by decide) (by decide)
--CUT
set_option maxRecDepth 65536 in
set_option maxHeartbeats 4000000 in
theorem mak9_met {A : Ax} (K : Wd A) {ar : Addr} {c0 c1 c2 c3 c4 c5 c6 c7 c8 c9 c10 c11 : Int32} (r0 : Lc c0) (r1 : Lc c1) (r2 : Lc c2) (r3 : Lc c3) (r4 : Lc c4) (r5 : Lc c5) (r6 : Lc c6) (r7 : Lc c7) (r8 : Lc c8) (r9 : Lc c9) (r10 : Lc c10) (r11 : Lc c11) {G : List Ent} : Met A B_mak #[.ref ar, .int (9 : Int32)] [(ar, ArrP A .char [.int c0, .int c1, .int c2, .int c3, .int c4, .int c5, .int c6, .int c7, .int c8, .int c9, .int c10, .int c11])] G (fun v F' G' => ∃ s q1 q2, v = some (.ref s) ∧ [(ar, ArrP A .char [.int c0, .int c1, .int c2, .int c3, .int c4, .int c5, .int c6, .int c7, .int c8, .int c9, .int c10, .int c11])] = F' ∧ q1 :: q2 :: G = G' ∧ StrL A (q1 :: q2 :: G) s [c0, c1, c2, c3, c4, c5, c6, c7, c8]) := by
  refine MetW.of_go pn_mak K.ew (L := [.val (.ref ar), .val (.int (9 : Int32))]) (fun m => rfl) ?_
  intro D _
  refine Go.run (B := B_mak) td_mak 0 1 (pc' := 1) (L' := [.val (.ref ar), .val (.int (9 : Int32))]) (S' := [.int (9 : Int32)]) rfl ?_
  refine Go.tswIn (B := B_mak) td_mak 1 (o := 387) (pc' := 388) rfl (by decide) rfl (by decide) rfl ?_
  refine Go.new (B := B_mak) td_mak 272 (fs := [("java/lang/String", "value", "[B", .null), ("java/lang/String", "coder", "B", .int (0 : Int32))]) rfl (w_43 K) (w_9 K) (w_8 K) (own_layS (Or.inr (w_11 K)) rfl rfl (own_layS (Or.inr (w_12 K)) rfl rfl own_lay0)) (by decide) (by decide) ?_
  intro s
  show Go A B_mak D _ 391 [.val (.ref ar), .val (.int (9 : Int32))] [.ref s] [(s, ObjP A "java/lang/String" [("java/lang/String", "value", "[B", .null), ("java/lang/String", "coder", "B", .int (0 : Int32))]), (ar, ArrP A .char [.int c0, .int c1, .int c2, .int c3, .int c4, .int c5, .int c6, .int c7, .int c8, .int c9, .int c10, .int c11])] G 1 4
  refine Go.run (B := B_mak) td_mak 273 2 (pc' := 394) (L' := [.val (.ref ar), .val (.int (9 : Int32))]) (S' := [.int (9 : Int32), .ref s, .ref s]) rfl ?_
  refine Go.newarray (B := B_mak) td_mak 275 (ty := .char) (cap := 12) (vs := [.int 0, .int 0, .int 0, .int 0, .int 0, .int 0, .int 0, .int 0, .int 0]) rfl rfl (w_1 K) (by decide) (by decide) (by decide) (by decide) (by decide) rfl ?_
  intro b
  show Go A B_mak D _ 396 [.val (.ref ar), .val (.int (9 : Int32))] [.ref b, .ref s, .ref s] [(b, ArrP A .char [.int 0, .int 0, .int 0, .int 0, .int 0, .int 0, .int 0, .int 0, .int 0]), (s, ObjP A "java/lang/String" [("java/lang/String", "value", "[B", .null), ("java/lang/String", "coder", "B", .int (0 : Int32))]), (ar, ArrP A .char [.int c0, .int c1, .int c2, .int c3, .int c4, .int c5, .int c6, .int c7, .int c8, .int c9, .int c10, .int c11])] G 2 16
  refine Go.run (B := B_mak) td_mak 276 4 (pc' := 400) (L' := [.val (.ref ar), .val (.int (9 : Int32))]) (S' := [.int (0 : Int32), .ref ar, .int (0 : Int32), .ref b, .ref b, .ref s, .ref s]) rfl ?_
  refine Go.caload (B := B_mak) td_mak 280 (v := .int c0) rfl (Or.inl (List.mem_of_getElem? (i := 2) rfl)) (own_inB 12 rfl (by decide)) rfl ?_
  refine Go.castore (B := B_mak) td_mak 281 (vs' := [.int c0, .int 0, .int 0, .int 0, .int 0, .int 0, .int 0, .int 0, .int 0]) rfl (own_inB 9 rfl (by decide)) (by rw [chr16_id (lc_ch r0)]; rfl) ?_
  refine Go.run (B := B_mak) td_mak 282 4 (pc' := 406) (L' := [.val (.ref ar), .val (.int (9 : Int32))]) (S' := [.int (1 : Int32), .ref ar, .int (1 : Int32), .ref b, .ref b, .ref s, .ref s]) rfl ?_
  refine Go.caload (B := B_mak) td_mak 286 (v := .int c1) rfl (Or.inl (List.mem_of_getElem? (i := 2) rfl)) (own_inB 12 rfl (by decide)) rfl ?_
  refine Go.castore (B := B_mak) td_mak 287 (vs' := [.int c0, .int c1, .int 0, .int 0, .int 0, .int 0, .int 0, .int 0, .int 0]) rfl (own_inB 9 rfl (by decide)) (by rw [chr16_id (lc_ch r1)]; rfl) ?_
  refine Go.run (B := B_mak) td_mak 288 4 (pc' := 412) (L' := [.val (.ref ar), .val (.int (9 : Int32))]) (S' := [.int (2 : Int32), .ref ar, .int (2 : Int32), .ref b, .ref b, .ref s, .ref s]) rfl ?_
  refine Go.caload (B := B_mak) td_mak 292 (v := .int c2) rfl (Or.inl (List.mem_of_getElem? (i := 2) rfl)) (own_inB 12 rfl (by decide)) rfl ?_
  refine Go.castore (B := B_mak) td_mak 293 (vs' := [.int c0, .int c1, .int c2, .int 0, .int 0, .int 0, .int 0, .int 0, .int 0]) rfl (own_inB 9 rfl (by decide)) (by rw [chr16_id (lc_ch r2)]; rfl) ?_
  refine Go.run (B := B_mak) td_mak 294 4 (pc' := 418) (L' := [.val (.ref ar), .val (.int (9 : Int32))]) (S' := [.int (3 : Int32), .ref ar, .int (3 : Int32), .ref b, .ref b, .ref s, .ref s]) rfl ?_
  refine Go.caload (B := B_mak) td_mak 298 (v := .int c3) rfl (Or.inl (List.mem_of_getElem? (i := 2) rfl)) (own_inB 12 rfl (by decide)) rfl ?_
  refine Go.castore (B := B_mak) td_mak 299 (vs' := [.int c0, .int c1, .int c2, .int c3, .int 0, .int 0, .int 0, .int 0, .int 0]) rfl (own_inB 9 rfl (by decide)) (by rw [chr16_id (lc_ch r3)]; rfl) ?_
  refine Go.run (B := B_mak) td_mak 300 4 (pc' := 424) (L' := [.val (.ref ar), .val (.int (9 : Int32))]) (S' := [.int (4 : Int32), .ref ar, .int (4 : Int32), .ref b, .ref b, .ref s, .ref s]) rfl ?_
  refine Go.caload (B := B_mak) td_mak 304 (v := .int c4) rfl (Or.inl (List.mem_of_getElem? (i := 2) rfl)) (own_inB 12 rfl (by decide)) rfl ?_
  refine Go.castore (B := B_mak) td_mak 305 (vs' := [.int c0, .int c1, .int c2, .int c3, .int c4, .int 0, .int 0, .int 0, .int 0]) rfl (own_inB 9 rfl (by decide)) (by rw [chr16_id (lc_ch r4)]; rfl) ?_
  refine Go.run (B := B_mak) td_mak 306 4 (pc' := 430) (L' := [.val (.ref ar), .val (.int (9 : Int32))]) (S' := [.int (5 : Int32), .ref ar, .int (5 : Int32), .ref b, .ref b, .ref s, .ref s]) rfl ?_
  refine Go.caload (B := B_mak) td_mak 310 (v := .int c5) rfl (Or.inl (List.mem_of_getElem? (i := 2) rfl)) (own_inB 12 rfl (by decide)) rfl ?_
  refine Go.castore (B := B_mak) td_mak 311 (vs' := [.int c0, .int c1, .int c2, .int c3, .int c4, .int c5, .int 0, .int 0, .int 0]) rfl (own_inB 9 rfl (by decide)) (by rw [chr16_id (lc_ch r5)]; rfl) ?_
  refine Go.run (B := B_mak) td_mak 312 4 (pc' := 438) (L' := [.val (.ref ar), .val (.int (9 : Int32))]) (S' := [.int (6 : Int32), .ref ar, .int (6 : Int32), .ref b, .ref b, .ref s, .ref s]) rfl ?_
  refine Go.caload (B := B_mak) td_mak 316 (v := .int c6) rfl (Or.inl (List.mem_of_getElem? (i := 2) rfl)) (own_inB 12 rfl (by decide)) rfl ?_
  refine Go.castore (B := B_mak) td_mak 317 (vs' := [.int c0, .int c1, .int c2, .int c3, .int c4, .int c5, .int c6, .int 0, .int 0]) rfl (own_inB 9 rfl (by decide)) (by rw [chr16_id (lc_ch r6)]; rfl) ?_
  refine Go.run (B := B_mak) td_mak 318 4 (pc' := 446) (L' := [.val (.ref ar), .val (.int (9 : Int32))]) (S' := [.int (7 : Int32), .ref ar, .int (7 : Int32), .ref b, .ref b, .ref s, .ref s]) rfl ?_
  refine Go.caload (B := B_mak) td_mak 322 (v := .int c7) rfl (Or.inl (List.mem_of_getElem? (i := 2) rfl)) (own_inB 12 rfl (by decide)) rfl ?_
  refine Go.castore (B := B_mak) td_mak 323 (vs' := [.int c0, .int c1, .int c2, .int c3, .int c4, .int c5, .int c6, .int c7, .int 0]) rfl (own_inB 9 rfl (by decide)) (by rw [chr16_id (lc_ch r7)]; rfl) ?_
  refine Go.run (B := B_mak) td_mak 324 4 (pc' := 454) (L' := [.val (.ref ar), .val (.int (9 : Int32))]) (S' := [.int (8 : Int32), .ref ar, .int (8 : Int32), .ref b, .ref b, .ref s, .ref s]) rfl ?_
  refine Go.caload (B := B_mak) td_mak 328 (v := .int c8) rfl (Or.inl (List.mem_of_getElem? (i := 2) rfl)) (own_inB 12 rfl (by decide)) rfl ?_
  refine Go.castore (B := B_mak) td_mak 329 (vs' := [.int c0, .int c1, .int c2, .int c3, .int c4, .int c5, .int c6, .int c7, .int c8]) rfl (own_inB 9 rfl (by decide)) (by rw [chr16_id (lc_ch r8)]; rfl) ?_
  refine Go.front 1 (F' := [(s, ObjP A "java/lang/String" [("java/lang/String", "value", "[B", .null), ("java/lang/String", "coder", "B", .int (0 : Int32))]), (b, ArrP A .char [.int c0, .int c1, .int c2, .int c3, .int c4, .int c5, .int c6, .int c7, .int c8]), (ar, ArrP A .char [.int c0, .int c1, .int c2, .int c3, .int c4, .int c5, .int c6, .int c7, .int c8, .int c9, .int c10, .int c11])]) rfl rfl ?_
  have hl : Lat [c0, c1, c2, c3, c4, c5, c6, c7, c8] := by
    intro c h
    simp only [List.mem_cons, List.not_mem_nil, or_false] at h
    rcases h with rfl | rfl | rfl | rfl | rfl | rfl | rfl | rfl | rfl
    · exact r0
    · exact r1
    · exact r2
    · exact r3
    · exact r4
    · exact r5
    · exact r6
    · exact r7
    · exact r8
  refine Go.callN (B := B_mak) td_mak 330 (B' := B_sin) (a := s) (argsL := [.ref b]) (rest := [.ref s]) (W := 1) rfl (sinL_met K hl (own_le rfl) (Or.inl (List.mem_of_getElem? (i := 0) rfl))) rfl rfl (w_44 K) (w_45 K) (w_8 K) (w_46 K) (by decide) pd_sin rfl rfl rfl rfl (Nat.le_of_eq rfl) (by decide) (by decide) (by decide) (by decide) ?_
  rintro _ _ _ ⟨rfl, rfl, q1, q2, rfl, hS⟩
  show Go A B_mak D _ 459 [.val (.ref ar), .val (.int (9 : Int32))] [.ref s] [(b, ArrP A .char [.int c0, .int c1, .int c2, .int c3, .int c4, .int c5, .int c6, .int c7, .int c8]), (ar, ArrP A .char [.int c0, .int c1, .int c2, .int c3, .int c4, .int c5, .int c6, .int c7, .int c8, .int c9, .int c10, .int c11])] (q1 :: q2 :: G) 6 28
  refine Go.drop ?_
  exact Go.retA (B := B_mak) td_mak 331 rfl rfl rfl rfl ⟨_, _, _, rfl, rfl, rfl, hS⟩ (by decide) (by decide)
set_option maxRecDepth 65536 in
set_option maxHeartbeats 4000000 in
theorem mak10_met {A : Ax} (K : Wd A) {ar : Addr} {c0 c1 c2 c3 c4 c5 c6 c7 c8 c9 c10 c11 : Int32} (r0 : Lc c0) (r1 : Lc c1) (r2 : Lc c2) (r3 : Lc c3) (r4 : Lc c4) (r5 : Lc c5) (r6 : Lc c6) (r7 : Lc c7) (r8 : Lc c8) (r9 : Lc c9) (r10 : Lc c10) (r11 : Lc c11) {G : List Ent} : Met A B_mak #[.ref ar, .int (10 : Int32)] [(ar, ArrP A .char [.int c0, .int c1, .int c2, .int c3, .int c4, .int c5, .int c6, .int c7, .int c8, .int c9, .int c10, .int c11])] G (fun v F' G' => ∃ s q1 q2, v = some (.ref s) ∧ [(ar, ArrP A .char [.int c0, .int c1, .int c2, .int c3, .int c4, .int c5, .int c6, .int c7, .int c8, .int c9, .int c10, .int c11])] = F' ∧ q1 :: q2 :: G = G' ∧ StrL A (q1 :: q2 :: G) s [c0, c1, c2, c3, c4, c5, c6, c7, c8, c9]) := by
  refine MetW.of_go pn_mak K.ew (L := [.val (.ref ar), .val (.int (10 : Int32))]) (fun m => rfl) ?_
  intro D _
  refine Go.run (B := B_mak) td_mak 0 1 (pc' := 1) (L' := [.val (.ref ar), .val (.int (10 : Int32))]) (S' := [.int (10 : Int32)]) rfl ?_
  refine Go.tswIn (B := B_mak) td_mak 1 (o := 459) (pc' := 460) rfl (by decide) rfl (by decide) rfl ?_
  refine Go.new (B := B_mak) td_mak 332 (fs := [("java/lang/String", "value", "[B", .null), ("java/lang/String", "coder", "B", .int (0 : Int32))]) rfl (w_43 K) (w_9 K) (w_8 K) (own_layS (Or.inr (w_11 K)) rfl rfl (own_layS (Or.inr (w_12 K)) rfl rfl own_lay0)) (by decide) (by decide) ?_
  intro s
  show Go A B_mak D _ 463 [.val (.ref ar), .val (.int (10 : Int32))] [.ref s] [(s, ObjP A "java/lang/String" [("java/lang/String", "value", "[B", .null), ("java/lang/String", "coder", "B", .int (0 : Int32))]), (ar, ArrP A .char [.int c0, .int c1, .int c2, .int c3, .int c4, .int c5, .int c6, .int c7, .int c8, .int c9, .int c10, .int c11])] G 1 4
  refine Go.run (B := B_mak) td_mak 333 2 (pc' := 466) (L' := [.val (.ref ar), .val (.int (10 : Int32))]) (S' := [.int (10 : Int32), .ref s, .ref s]) rfl ?_
  refine Go.newarray (B := B_mak) td_mak 335 (ty := .char) (cap := 12) (vs := [.int 0, .int 0, .int 0, .int 0, .int 0, .int 0, .int 0, .int 0, .int 0, .int 0]) rfl rfl (w_1 K) (by decide) (by decide) (by decide) (by decide) (by decide) rfl ?_
  intro b
  show Go A B_mak D _ 468 [.val (.ref ar), .val (.int (10 : Int32))] [.ref b, .ref s, .ref s] [(b, ArrP A .char [.int 0, .int 0, .int 0, .int 0, .int 0, .int 0, .int 0, .int 0, .int 0, .int 0]), (s, ObjP A "java/lang/String" [("java/lang/String", "value", "[B", .null), ("java/lang/String", "coder", "B", .int (0 : Int32))]), (ar, ArrP A .char [.int c0, .int c1, .int c2, .int c3, .int c4, .int c5, .int c6, .int c7, .int c8, .int c9, .int c10, .int c11])] G 2 16
  refine Go.run (B := B_mak) td_mak 336 4 (pc' := 472) (L' := [.val (.ref ar), .val (.int (10 : Int32))]) (S' := [.int (0 : Int32), .ref ar, .int (0 : Int32), .ref b, .ref b, .ref s, .ref s]) rfl ?_
  refine Go.caload (B := B_mak) td_mak 340 (v := .int c0) rfl (Or.inl (List.mem_of_getElem? (i := 2) rfl)) (own_inB 12 rfl (by decide)) rfl ?_
  refine Go.castore (B := B_mak) td_mak 341 (vs' := [.int c0, .int 0, .int 0, .int 0, .int 0, .int 0, .int 0, .int 0, .int 0, .int 0]) rfl (own_inB 10 rfl (by decide)) (by rw [chr16_id (lc_ch r0)]; rfl) ?_
  refine Go.run (B := B_mak) td_mak 342 4 (pc' := 478) (L' := [.val (.ref ar), .val (.int (10 : Int32))]) (S' := [.int (1 : Int32), .ref ar, .int (1 : Int32), .ref b, .ref b, .ref s, .ref s]) rfl ?_
  refine Go.caload (B := B_mak) td_mak 346 (v := .int c1) rfl (Or.inl (List.mem_of_getElem? (i := 2) rfl)) (own_inB 12 rfl (by decide)) rfl ?_
  refine Go.castore (B := B_mak) td_mak 347 (vs' := [.int c0, .int c1, .int 0, .int 0, .int 0, .int 0, .int 0, .int 0, .int 0, .int 0]) rfl (own_inB 10 rfl (by decide)) (by rw [chr16_id (lc_ch r1)]; rfl) ?_
  refine Go.run (B := B_mak) td_mak 348 4 (pc' := 484) (L' := [.val (.ref ar), .val (.int (10 : Int32))]) (S' := [.int (2 : Int32), .ref ar, .int (2 : Int32), .ref b, .ref b, .ref s, .ref s]) rfl ?_
  refine Go.caload (B := B_mak) td_mak 352 (v := .int c2) rfl (Or.inl (List.mem_of_getElem? (i := 2) rfl)) (own_inB 12 rfl (by decide)) rfl ?_
  refine Go.castore (B := B_mak) td_mak 353 (vs' := [.int c0, .int c1, .int c2, .int 0, .int 0, .int 0, .int 0, .int 0, .int 0, .int 0]) rfl (own_inB 10 rfl (by decide)) (by rw [chr16_id (lc_ch r2)]; rfl) ?_
  refine Go.run (B := B_mak) td_mak 354 4 (pc' := 490) (L' := [.val (.ref ar), .val (.int (10 : Int32))]) (S' := [.int (3 : Int32), .ref ar, .int (3 : Int32), .ref b, .ref b, .ref s, .ref s]) rfl ?_
  refine Go.caload (B := B_mak) td_mak 358 (v := .int c3) rfl (Or.inl (List.mem_of_getElem? (i := 2) rfl)) (own_inB 12 rfl (by decide)) rfl ?_
  refine Go.castore (B := B_mak) td_mak 359 (vs' := [.int c0, .int c1, .int c2, .int c3, .int 0, .int 0, .int 0, .int 0, .int 0, .int 0]) rfl (own_inB 10 rfl (by decide)) (by rw [chr16_id (lc_ch r3)]; rfl) ?_
  refine Go.run (B := B_mak) td_mak 360 4 (pc' := 496) (L' := [.val (.ref ar), .val (.int (10 : Int32))]) (S' := [.int (4 : Int32), .ref ar, .int (4 : Int32), .ref b, .ref b, .ref s, .ref s]) rfl ?_
  refine Go.caload (B := B_mak) td_mak 364 (v := .int c4) rfl (Or.inl (List.mem_of_getElem? (i := 2) rfl)) (own_inB 12 rfl (by decide)) rfl ?_
  refine Go.castore (B := B_mak) td_mak 365 (vs' := [.int c0, .int c1, .int c2, .int c3, .int c4, .int 0, .int 0, .int 0, .int 0, .int 0]) rfl (own_inB 10 rfl (by decide)) (by rw [chr16_id (lc_ch r4)]; rfl) ?_
  refine Go.run (B := B_mak) td_mak 366 4 (pc' := 502) (L' := [.val (.ref ar), .val (.int (10 : Int32))]) (S' := [.int (5 : Int32), .ref ar, .int (5 : Int32), .ref b, .ref b, .ref s, .ref s]) rfl ?_
  refine Go.caload (B := B_mak) td_mak 370 (v := .int c5) rfl (Or.inl (List.mem_of_getElem? (i := 2) rfl)) (own_inB 12 rfl (by decide)) rfl ?_
  refine Go.castore (B := B_mak) td_mak 371 (vs' := [.int c0, .int c1, .int c2, .int c3, .int c4, .int c5, .int 0, .int 0, .int 0, .int 0]) rfl (own_inB 10 rfl (by decide)) (by rw [chr16_id (lc_ch r5)]; rfl) ?_
  refine Go.run (B := B_mak) td_mak 372 4 (pc' := 510) (L' := [.val (.ref ar), .val (.int (10 : Int32))]) (S' := [.int (6 : Int32), .ref ar, .int (6 : Int32), .ref b, .ref b, .ref s, .ref s]) rfl ?_
  refine Go.caload (B := B_mak) td_mak 376 (v := .int c6) rfl (Or.inl (List.mem_of_getElem? (i := 2) rfl)) (own_inB 12 rfl (by decide)) rfl ?_
  refine Go.castore (B := B_mak) td_mak 377 (vs' := [.int c0, .int c1, .int c2, .int c3, .int c4, .int c5, .int c6, .int 0, .int 0, .int 0]) rfl (own_inB 10 rfl (by decide)) (by rw [chr16_id (lc_ch r6)]; rfl) ?_
  refine Go.run (B := B_mak) td_mak 378 4 (pc' := 518) (L' := [.val (.ref ar), .val (.int (10 : Int32))]) (S' := [.int (7 : Int32), .ref ar, .int (7 : Int32), .ref b, .ref b, .ref s, .ref s]) rfl ?_
  refine Go.caload (B := B_mak) td_mak 382 (v := .int c7) rfl (Or.inl (List.mem_of_getElem? (i := 2) rfl)) (own_inB 12 rfl (by decide)) rfl ?_
  refine Go.castore (B := B_mak) td_mak 383 (vs' := [.int c0, .int c1, .int c2, .int c3, .int c4, .int c5, .int c6, .int c7, .int 0, .int 0]) rfl (own_inB 10 rfl (by decide)) (by rw [chr16_id (lc_ch r7)]; rfl) ?_
  refine Go.run (B := B_mak) td_mak 384 4 (pc' := 526) (L' := [.val (.ref ar), .val (.int (10 : Int32))]) (S' := [.int (8 : Int32), .ref ar, .int (8 : Int32), .ref b, .ref b, .ref s, .ref s]) rfl ?_
  refine Go.caload (B := B_mak) td_mak 388 (v := .int c8) rfl (Or.inl (List.mem_of_getElem? (i := 2) rfl)) (own_inB 12 rfl (by decide)) rfl ?_
  refine Go.castore (B := B_mak) td_mak 389 (vs' := [.int c0, .int c1, .int c2, .int c3, .int c4, .int c5, .int c6, .int c7, .int c8, .int 0]) rfl (own_inB 10 rfl (by decide)) (by rw [chr16_id (lc_ch r8)]; rfl) ?_
  refine Go.run (B := B_mak) td_mak 390 4 (pc' := 534) (L' := [.val (.ref ar), .val (.int (10 : Int32))]) (S' := [.int (9 : Int32), .ref ar, .int (9 : Int32), .ref b, .ref b, .ref s, .ref s]) rfl ?_
  refine Go.caload (B := B_mak) td_mak 394 (v := .int c9) rfl (Or.inl (List.mem_of_getElem? (i := 2) rfl)) (own_inB 12 rfl (by decide)) rfl ?_
  refine Go.castore (B := B_mak) td_mak 395 (vs' := [.int c0, .int c1, .int c2, .int c3, .int c4, .int c5, .int c6, .int c7, .int c8, .int c9]) rfl (own_inB 10 rfl (by decide)) (by rw [chr16_id (lc_ch r9)]; rfl) ?_
  refine Go.front 1 (F' := [(s, ObjP A "java/lang/String" [("java/lang/String", "value", "[B", .null), ("java/lang/String", "coder", "B", .int (0 : Int32))]), (b, ArrP A .char [.int c0, .int c1, .int c2, .int c3, .int c4, .int c5, .int c6, .int c7, .int c8, .int c9]), (ar, ArrP A .char [.int c0, .int c1, .int c2, .int c3, .int c4, .int c5, .int c6, .int c7, .int c8, .int c9, .int c10, .int c11])]) rfl rfl ?_
  have hl : Lat [c0, c1, c2, c3, c4, c5, c6, c7, c8, c9] := by
    intro c h
    simp only [List.mem_cons, List.not_mem_nil, or_false] at h
    rcases h with rfl | rfl | rfl | rfl | rfl | rfl | rfl | rfl | rfl | rfl
    · exact r0
    · exact r1
    · exact r2
    · exact r3
    · exact r4
    · exact r5
    · exact r6
    · exact r7
    · exact r8
    · exact r9
  refine Go.callN (B := B_mak) td_mak 396 (B' := B_sin) (a := s) (argsL := [.ref b]) (rest := [.ref s]) (W := 1) rfl (sinL_met K hl (own_le rfl) (Or.inl (List.mem_of_getElem? (i := 0) rfl))) rfl rfl (w_44 K) (w_45 K) (w_8 K) (w_46 K) (by decide) pd_sin rfl rfl rfl rfl (Nat.le_of_eq rfl) (by decide) (by decide) (by decide) (by decide) ?_
  rintro _ _ _ ⟨rfl, rfl, q1, q2, rfl, hS⟩
  show Go A B_mak D _ 539 [.val (.ref ar), .val (.int (10 : Int32))] [.ref s] [(b, ArrP A .char [.int c0, .int c1, .int c2, .int c3, .int c4, .int c5, .int c6, .int c7, .int c8, .int c9]), (ar, ArrP A .char [.int c0, .int c1, .int c2, .int c3, .int c4, .int c5, .int c6, .int c7, .int c8, .int c9, .int c10, .int c11])] (q1 :: q2 :: G) 6 28
  refine Go.drop ?_
  exact Go.retA (B := B_mak) td_mak 397 rfl rfl rfl rfl ⟨_, _, _, rfl, rfl, rfl, hS⟩ (by decide) (by decide)
set_option maxRecDepth 65536 in
set_option maxHeartbeats 4000000 in
theorem mak11_met {A : Ax} (K : Wd A) {ar : Addr} {c0 c1 c2 c3 c4 c5 c6 c7 c8 c9 c10 c11 : Int32} (r0 : Lc c0) (r1 : Lc c1) (r2 : Lc c2) (r3 : Lc c3) (r4 : Lc c4) (r5 : Lc c5) (r6 : Lc c6) (r7 : Lc c7) (r8 : Lc c8) (r9 : Lc c9) (r10 : Lc c10) (r11 : Lc c11) {G : List Ent} : Met A B_mak #[.ref ar, .int (11 : Int32)] [(ar, ArrP A .char [.int c0, .int c1, .int c2, .int c3, .int c4, .int c5, .int c6, .int c7, .int c8, .int c9, .int c10, .int c11])] G (fun v F' G' => ∃ s q1 q2, v = some (.ref s) ∧ [(ar, ArrP A .char [.int c0, .int c1, .int c2, .int c3, .int c4, .int c5, .int c6, .int c7, .int c8, .int c9, .int c10, .int c11])] = F' ∧ q1 :: q2 :: G = G' ∧ StrL A (q1 :: q2 :: G) s [c0, c1, c2, c3, c4, c5, c6, c7, c8, c9, c10]) := by
  refine MetW.of_go pn_mak K.ew (L := [.val (.ref ar), .val (.int (11 : Int32))]) (fun m => rfl) ?_
  intro D _
  refine Go.run (B := B_mak) td_mak 0 1 (pc' := 1) (L' := [.val (.ref ar), .val (.int (11 : Int32))]) (S' := [.int (11 : Int32)]) rfl ?_
  refine Go.tswIn (B := B_mak) td_mak 1 (o := 539) (pc' := 540) rfl (by decide) rfl (by decide) rfl ?_
  refine Go.new (B := B_mak) td_mak 398 (fs := [("java/lang/String", "value", "[B", .null), ("java/lang/String", "coder", "B", .int (0 : Int32))]) rfl (w_43 K) (w_9 K) (w_8 K) (own_layS (Or.inr (w_11 K)) rfl rfl (own_layS (Or.inr (w_12 K)) rfl rfl own_lay0)) (by decide) (by decide) ?_
  intro s
  show Go A B_mak D _ 543 [.val (.ref ar), .val (.int (11 : Int32))] [.ref s] [(s, ObjP A "java/lang/String" [("java/lang/String", "value", "[B", .null), ("java/lang/String", "coder", "B", .int (0 : Int32))]), (ar, ArrP A .char [.int c0, .int c1, .int c2, .int c3, .int c4, .int c5, .int c6, .int c7, .int c8, .int c9, .int c10, .int c11])] G 1 4
  refine Go.run (B := B_mak) td_mak 399 2 (pc' := 546) (L' := [.val (.ref ar), .val (.int (11 : Int32))]) (S' := [.int (11 : Int32), .ref s, .ref s]) rfl ?_
  refine Go.newarray (B := B_mak) td_mak 401 (ty := .char) (cap := 12) (vs := [.int 0, .int 0, .int 0, .int 0, .int 0, .int 0, .int 0, .int 0, .int 0, .int 0, .int 0]) rfl rfl (w_1 K) (by decide) (by decide) (by decide) (by decide) (by decide) rfl ?_
  intro b
  show Go A B_mak D _ 548 [.val (.ref ar), .val (.int (11 : Int32))] [.ref b, .ref s, .ref s] [(b, ArrP A .char [.int 0, .int 0, .int 0, .int 0, .int 0, .int 0, .int 0, .int 0, .int 0, .int 0, .int 0]), (s, ObjP A "java/lang/String" [("java/lang/String", "value", "[B", .null), ("java/lang/String", "coder", "B", .int (0 : Int32))]), (ar, ArrP A .char [.int c0, .int c1, .int c2, .int c3, .int c4, .int c5, .int c6, .int c7, .int c8, .int c9, .int c10, .int c11])] G 2 16
  refine Go.run (B := B_mak) td_mak 402 4 (pc' := 552) (L' := [.val (.ref ar), .val (.int (11 : Int32))]) (S' := [.int (0 : Int32), .ref ar, .int (0 : Int32), .ref b, .ref b, .ref s, .ref s]) rfl ?_
  refine Go.caload (B := B_mak) td_mak 406 (v := .int c0) rfl (Or.inl (List.mem_of_getElem? (i := 2) rfl)) (own_inB 12 rfl (by decide)) rfl ?_
  refine Go.castore (B := B_mak) td_mak 407 (vs' := [.int c0, .int 0, .int 0, .int 0, .int 0, .int 0, .int 0, .int 0, .int 0, .int 0, .int 0]) rfl (own_inB 11 rfl (by decide)) (by rw [chr16_id (lc_ch r0)]; rfl) ?_
  refine Go.run (B := B_mak) td_mak 408 4 (pc' := 558) (L' := [.val (.ref ar), .val (.int (11 : Int32))]) (S' := [.int (1 : Int32), .ref ar, .int (1 : Int32), .ref b, .ref b, .ref s, .ref s]) rfl ?_
  refine Go.caload (B := B_mak) td_mak 412 (v := .int c1) rfl (Or.inl (List.mem_of_getElem? (i := 2) rfl)) (own_inB 12 rfl (by decide)) rfl ?_
  refine Go.castore (B := B_mak) td_mak 413 (vs' := [.int c0, .int c1, .int 0, .int 0, .int 0, .int 0, .int 0, .int 0, .int 0, .int 0, .int 0]) rfl (own_inB 11 rfl (by decide)) (by rw [chr16_id (lc_ch r1)]; rfl) ?_
  refine Go.run (B := B_mak) td_mak 414 4 (pc' := 564) (L' := [.val (.ref ar), .val (.int (11 : Int32))]) (S' := [.int (2 : Int32), .ref ar, .int (2 : Int32), .ref b, .ref b, .ref s, .ref s]) rfl ?_
  refine Go.caload (B := B_mak) td_mak 418 (v := .int c2) rfl (Or.inl (List.mem_of_getElem? (i := 2) rfl)) (own_inB 12 rfl (by decide)) rfl ?_
  refine Go.castore (B := B_mak) td_mak 419 (vs' := [.int c0, .int c1, .int c2, .int 0, .int 0, .int 0, .int 0, .int 0, .int 0, .int 0, .int 0]) rfl (own_inB 11 rfl (by decide)) (by rw [chr16_id (lc_ch r2)]; rfl) ?_
  refine Go.run (B := B_mak) td_mak 420 4 (pc' := 570) (L' := [.val (.ref ar), .val (.int (11 : Int32))]) (S' := [.int (3 : Int32), .ref ar, .int (3 : Int32), .ref b, .ref b, .ref s, .ref s]) rfl ?_
  refine Go.caload (B := B_mak) td_mak 424 (v := .int c3) rfl (Or.inl (List.mem_of_getElem? (i := 2) rfl)) (own_inB 12 rfl (by decide)) rfl ?_
  refine Go.castore (B := B_mak) td_mak 425 (vs' := [.int c0, .int c1, .int c2, .int c3, .int 0, .int 0, .int 0, .int 0, .int 0, .int 0, .int 0]) rfl (own_inB 11 rfl (by decide)) (by rw [chr16_id (lc_ch r3)]; rfl) ?_
  refine Go.run (B := B_mak) td_mak 426 4 (pc' := 576) (L' := [.val (.ref ar), .val (.int (11 : Int32))]) (S' := [.int (4 : Int32), .ref ar, .int (4 : Int32), .ref b, .ref b, .ref s, .ref s]) rfl ?_
  refine Go.caload (B := B_mak) td_mak 430 (v := .int c4) rfl (Or.inl (List.mem_of_getElem? (i := 2) rfl)) (own_inB 12 rfl (by decide)) rfl ?_
  refine Go.castore (B := B_mak) td_mak 431 (vs' := [.int c0, .int c1, .int c2, .int c3, .int c4, .int 0, .int 0, .int 0, .int 0, .int 0, .int 0]) rfl (own_inB 11 rfl (by decide)) (by rw [chr16_id (lc_ch r4)]; rfl) ?_
  refine Go.run (B := B_mak) td_mak 432 4 (pc' := 582) (L' := [.val (.ref ar), .val (.int (11 : Int32))]) (S' := [.int (5 : Int32), .ref ar, .int (5 : Int32), .ref b, .ref b, .ref s, .ref s]) rfl ?_
  refine Go.caload (B := B_mak) td_mak 436 (v := .int c5) rfl (Or.inl (List.mem_of_getElem? (i := 2) rfl)) (own_inB 12 rfl (by decide)) rfl ?_
  refine Go.castore (B := B_mak) td_mak 437 (vs' := [.int c0, .int c1, .int c2, .int c3, .int c4, .int c5, .int 0, .int 0, .int 0, .int 0, .int 0]) rfl (own_inB 11 rfl (by decide)) (by rw [chr16_id (lc_ch r5)]; rfl) ?_
  refine Go.run (B := B_mak) td_mak 438 4 (pc' := 590) (L' := [.val (.ref ar), .val (.int (11 : Int32))]) (S' := [.int (6 : Int32), .ref ar, .int (6 : Int32), .ref b, .ref b, .ref s, .ref s]) rfl ?_
  refine Go.caload (B := B_mak) td_mak 442 (v := .int c6) rfl (Or.inl (List.mem_of_getElem? (i := 2) rfl)) (own_inB 12 rfl (by decide)) rfl ?_
  refine Go.castore (B := B_mak) td_mak 443 (vs' := [.int c0, .int c1, .int c2, .int c3, .int c4, .int c5, .int c6, .int 0, .int 0, .int 0, .int 0]) rfl (own_inB 11 rfl (by decide)) (by rw [chr16_id (lc_ch r6)]; rfl) ?_
  refine Go.run (B := B_mak) td_mak 444 4 (pc' := 598) (L' := [.val (.ref ar), .val (.int (11 : Int32))]) (S' := [.int (7 : Int32), .ref ar, .int (7 : Int32), .ref b, .ref b, .ref s, .ref s]) rfl ?_
  refine Go.caload (B := B_mak) td_mak 448 (v := .int c7) rfl (Or.inl (List.mem_of_getElem? (i := 2) rfl)) (own_inB 12 rfl (by decide)) rfl ?_
  refine Go.castore (B := B_mak) td_mak 449 (vs' := [.int c0, .int c1, .int c2, .int c3, .int c4, .int c5, .int c6, .int c7, .int 0, .int 0, .int 0]) rfl (own_inB 11 rfl (by decide)) (by rw [chr16_id (lc_ch r7)]; rfl) ?_
  refine Go.run (B := B_mak) td_mak 450 4 (pc' := 606) (L' := [.val (.ref ar), .val (.int (11 : Int32))]) (S' := [.int (8 : Int32), .ref ar, .int (8 : Int32), .ref b, .ref b, .ref s, .ref s]) rfl ?_
  refine Go.caload (B := B_mak) td_mak 454 (v := .int c8) rfl (Or.inl (List.mem_of_getElem? (i := 2) rfl)) (own_inB 12 rfl (by decide)) rfl ?_
  refine Go.castore (B := B_mak) td_mak 455 (vs' := [.int c0, .int c1, .int c2, .int c3, .int c4, .int c5, .int c6, .int c7, .int c8, .int 0, .int 0]) rfl (own_inB 11 rfl (by decide)) (by rw [chr16_id (lc_ch r8)]; rfl) ?_
  refine Go.run (B := B_mak) td_mak 456 4 (pc' := 614) (L' := [.val (.ref ar), .val (.int (11 : Int32))]) (S' := [.int (9 : Int32), .ref ar, .int (9 : Int32), .ref b, .ref b, .ref s, .ref s]) rfl ?_
  refine Go.caload (B := B_mak) td_mak 460 (v := .int c9) rfl (Or.inl (List.mem_of_getElem? (i := 2) rfl)) (own_inB 12 rfl (by decide)) rfl ?_
  refine Go.castore (B := B_mak) td_mak 461 (vs' := [.int c0, .int c1, .int c2, .int c3, .int c4, .int c5, .int c6, .int c7, .int c8, .int c9, .int 0]) rfl (own_inB 11 rfl (by decide)) (by rw [chr16_id (lc_ch r9)]; rfl) ?_
  refine Go.run (B := B_mak) td_mak 462 4 (pc' := 622) (L' := [.val (.ref ar), .val (.int (11 : Int32))]) (S' := [.int (10 : Int32), .ref ar, .int (10 : Int32), .ref b, .ref b, .ref s, .ref s]) rfl ?_
  refine Go.caload (B := B_mak) td_mak 466 (v := .int c10) rfl (Or.inl (List.mem_of_getElem? (i := 2) rfl)) (own_inB 12 rfl (by decide)) rfl ?_
  refine Go.castore (B := B_mak) td_mak 467 (vs' := [.int c0, .int c1, .int c2, .int c3, .int c4, .int c5, .int c6, .int c7, .int c8, .int c9, .int c10]) rfl (own_inB 11 rfl (by decide)) (by rw [chr16_id (lc_ch r10)]; rfl) ?_
  refine Go.front 1 (F' := [(s, ObjP A "java/lang/String" [("java/lang/String", "value", "[B", .null), ("java/lang/String", "coder", "B", .int (0 : Int32))]), (b, ArrP A .char [.int c0, .int c1, .int c2, .int c3, .int c4, .int c5, .int c6, .int c7, .int c8, .int c9, .int c10]), (ar, ArrP A .char [.int c0, .int c1, .int c2, .int c3, .int c4, .int c5, .int c6, .int c7, .int c8, .int c9, .int c10, .int c11])]) rfl rfl ?_
  have hl : Lat [c0, c1, c2, c3, c4, c5, c6, c7, c8, c9, c10] := by
    intro c h
    simp only [List.mem_cons, List.not_mem_nil, or_false] at h
    rcases h with rfl | rfl | rfl | rfl | rfl | rfl | rfl | rfl | rfl | rfl | rfl
    · exact r0
    · exact r1
    · exact r2
    · exact r3
    · exact r4
    · exact r5
    · exact r6
    · exact r7
    · exact r8
    · exact r9
    · exact r10
  refine Go.callN (B := B_mak) td_mak 468 (B' := B_sin) (a := s) (argsL := [.ref b]) (rest := [.ref s]) (W := 1) rfl (sinL_met K hl (own_le rfl) (Or.inl (List.mem_of_getElem? (i := 0) rfl))) rfl rfl (w_44 K) (w_45 K) (w_8 K) (w_46 K) (by decide) pd_sin rfl rfl rfl rfl (Nat.le_of_eq rfl) (by decide) (by decide) (by decide) (by decide) ?_
  rintro _ _ _ ⟨rfl, rfl, q1, q2, rfl, hS⟩
  show Go A B_mak D _ 627 [.val (.ref ar), .val (.int (11 : Int32))] [.ref s] [(b, ArrP A .char [.int c0, .int c1, .int c2, .int c3, .int c4, .int c5, .int c6, .int c7, .int c8, .int c9, .int c10]), (ar, ArrP A .char [.int c0, .int c1, .int c2, .int c3, .int c4, .int c5, .int c6, .int c7, .int c8, .int c9, .int c10, .int c11])] (q1 :: q2 :: G) 6 28
  refine Go.drop ?_
  exact Go.retA (B := B_mak) td_mak 469 rfl rfl rfl rfl ⟨_, _, _, rfl, rfl, rfl, hS⟩ (by decide) (by decide)
set_option maxRecDepth 65536 in
set_option maxHeartbeats 4000000 in
theorem mak12_met {A : Ax} (K : Wd A) {ar : Addr} {c0 c1 c2 c3 c4 c5 c6 c7 c8 c9 c10 c11 : Int32} (r0 : Lc c0) (r1 : Lc c1) (r2 : Lc c2) (r3 : Lc c3) (r4 : Lc c4) (r5 : Lc c5) (r6 : Lc c6) (r7 : Lc c7) (r8 : Lc c8) (r9 : Lc c9) (r10 : Lc c10) (r11 : Lc c11) {G : List Ent} : Met A B_mak #[.ref ar, .int (12 : Int32)] [(ar, ArrP A .char [.int c0, .int c1, .int c2, .int c3, .int c4, .int c5, .int c6, .int c7, .int c8, .int c9, .int c10, .int c11])] G (fun v F' G' => ∃ s q1 q2, v = some (.ref s) ∧ [(ar, ArrP A .char [.int c0, .int c1, .int c2, .int c3, .int c4, .int c5, .int c6, .int c7, .int c8, .int c9, .int c10, .int c11])] = F' ∧ q1 :: q2 :: G = G' ∧ StrL A (q1 :: q2 :: G) s [c0, c1, c2, c3, c4, c5, c6, c7, c8, c9, c10, c11]) := by
  refine MetW.of_go pn_mak K.ew (L := [.val (.ref ar), .val (.int (12 : Int32))]) (fun m => rfl) ?_
  intro D _
  refine Go.run (B := B_mak) td_mak 0 1 (pc' := 1) (L' := [.val (.ref ar), .val (.int (12 : Int32))]) (S' := [.int (12 : Int32)]) rfl ?_
  refine Go.tswOut (B := B_mak) td_mak 1 (pc' := 628) rfl (by decide) (by decide) rfl ?_
  refine Go.new (B := B_mak) td_mak 470 (fs := [("java/lang/String", "value", "[B", .null), ("java/lang/String", "coder", "B", .int (0 : Int32))]) rfl (w_43 K) (w_9 K) (w_8 K) (own_layS (Or.inr (w_11 K)) rfl rfl (own_layS (Or.inr (w_12 K)) rfl rfl own_lay0)) (by decide) (by decide) ?_
  intro s
  show Go A B_mak D _ 631 [.val (.ref ar), .val (.int (12 : Int32))] [.ref s] [(s, ObjP A "java/lang/String" [("java/lang/String", "value", "[B", .null), ("java/lang/String", "coder", "B", .int (0 : Int32))]), (ar, ArrP A .char [.int c0, .int c1, .int c2, .int c3, .int c4, .int c5, .int c6, .int c7, .int c8, .int c9, .int c10, .int c11])] G 1 4
  refine Go.run (B := B_mak) td_mak 471 2 (pc' := 634) (L' := [.val (.ref ar), .val (.int (12 : Int32))]) (S' := [.int (12 : Int32), .ref s, .ref s]) rfl ?_
  refine Go.newarray (B := B_mak) td_mak 473 (ty := .char) (cap := 12) (vs := [.int 0, .int 0, .int 0, .int 0, .int 0, .int 0, .int 0, .int 0, .int 0, .int 0, .int 0, .int 0]) rfl rfl (w_1 K) (by decide) (by decide) (by decide) (by decide) (by decide) rfl ?_
  intro b
  show Go A B_mak D _ 636 [.val (.ref ar), .val (.int (12 : Int32))] [.ref b, .ref s, .ref s] [(b, ArrP A .char [.int 0, .int 0, .int 0, .int 0, .int 0, .int 0, .int 0, .int 0, .int 0, .int 0, .int 0, .int 0]), (s, ObjP A "java/lang/String" [("java/lang/String", "value", "[B", .null), ("java/lang/String", "coder", "B", .int (0 : Int32))]), (ar, ArrP A .char [.int c0, .int c1, .int c2, .int c3, .int c4, .int c5, .int c6, .int c7, .int c8, .int c9, .int c10, .int c11])] G 2 16
  refine Go.run (B := B_mak) td_mak 474 4 (pc' := 640) (L' := [.val (.ref ar), .val (.int (12 : Int32))]) (S' := [.int (0 : Int32), .ref ar, .int (0 : Int32), .ref b, .ref b, .ref s, .ref s]) rfl ?_
  refine Go.caload (B := B_mak) td_mak 478 (v := .int c0) rfl (Or.inl (List.mem_of_getElem? (i := 2) rfl)) (own_inB 12 rfl (by decide)) rfl ?_
  refine Go.castore (B := B_mak) td_mak 479 (vs' := [.int c0, .int 0, .int 0, .int 0, .int 0, .int 0, .int 0, .int 0, .int 0, .int 0, .int 0, .int 0]) rfl (own_inB 12 rfl (by decide)) (by rw [chr16_id (lc_ch r0)]; rfl) ?_
  refine Go.run (B := B_mak) td_mak 480 4 (pc' := 646) (L' := [.val (.ref ar), .val (.int (12 : Int32))]) (S' := [.int (1 : Int32), .ref ar, .int (1 : Int32), .ref b, .ref b, .ref s, .ref s]) rfl ?_
  refine Go.caload (B := B_mak) td_mak 484 (v := .int c1) rfl (Or.inl (List.mem_of_getElem? (i := 2) rfl)) (own_inB 12 rfl (by decide)) rfl ?_
  refine Go.castore (B := B_mak) td_mak 485 (vs' := [.int c0, .int c1, .int 0, .int 0, .int 0, .int 0, .int 0, .int 0, .int 0, .int 0, .int 0, .int 0]) rfl (own_inB 12 rfl (by decide)) (by rw [chr16_id (lc_ch r1)]; rfl) ?_
  refine Go.run (B := B_mak) td_mak 486 4 (pc' := 652) (L' := [.val (.ref ar), .val (.int (12 : Int32))]) (S' := [.int (2 : Int32), .ref ar, .int (2 : Int32), .ref b, .ref b, .ref s, .ref s]) rfl ?_
  refine Go.caload (B := B_mak) td_mak 490 (v := .int c2) rfl (Or.inl (List.mem_of_getElem? (i := 2) rfl)) (own_inB 12 rfl (by decide)) rfl ?_
  refine Go.castore (B := B_mak) td_mak 491 (vs' := [.int c0, .int c1, .int c2, .int 0, .int 0, .int 0, .int 0, .int 0, .int 0, .int 0, .int 0, .int 0]) rfl (own_inB 12 rfl (by decide)) (by rw [chr16_id (lc_ch r2)]; rfl) ?_
  refine Go.run (B := B_mak) td_mak 492 4 (pc' := 658) (L' := [.val (.ref ar), .val (.int (12 : Int32))]) (S' := [.int (3 : Int32), .ref ar, .int (3 : Int32), .ref b, .ref b, .ref s, .ref s]) rfl ?_
  refine Go.caload (B := B_mak) td_mak 496 (v := .int c3) rfl (Or.inl (List.mem_of_getElem? (i := 2) rfl)) (own_inB 12 rfl (by decide)) rfl ?_
  refine Go.castore (B := B_mak) td_mak 497 (vs' := [.int c0, .int c1, .int c2, .int c3, .int 0, .int 0, .int 0, .int 0, .int 0, .int 0, .int 0, .int 0]) rfl (own_inB 12 rfl (by decide)) (by rw [chr16_id (lc_ch r3)]; rfl) ?_
  refine Go.run (B := B_mak) td_mak 498 4 (pc' := 664) (L' := [.val (.ref ar), .val (.int (12 : Int32))]) (S' := [.int (4 : Int32), .ref ar, .int (4 : Int32), .ref b, .ref b, .ref s, .ref s]) rfl ?_
  refine Go.caload (B := B_mak) td_mak 502 (v := .int c4) rfl (Or.inl (List.mem_of_getElem? (i := 2) rfl)) (own_inB 12 rfl (by decide)) rfl ?_
  refine Go.castore (B := B_mak) td_mak 503 (vs' := [.int c0, .int c1, .int c2, .int c3, .int c4, .int 0, .int 0, .int 0, .int 0, .int 0, .int 0, .int 0]) rfl (own_inB 12 rfl (by decide)) (by rw [chr16_id (lc_ch r4)]; rfl) ?_
  refine Go.run (B := B_mak) td_mak 504 4 (pc' := 670) (L' := [.val (.ref ar), .val (.int (12 : Int32))]) (S' := [.int (5 : Int32), .ref ar, .int (5 : Int32), .ref b, .ref b, .ref s, .ref s]) rfl ?_
  refine Go.caload (B := B_mak) td_mak 508 (v := .int c5) rfl (Or.inl (List.mem_of_getElem? (i := 2) rfl)) (own_inB 12 rfl (by decide)) rfl ?_
  refine Go.castore (B := B_mak) td_mak 509 (vs' := [.int c0, .int c1, .int c2, .int c3, .int c4, .int c5, .int 0, .int 0, .int 0, .int 0, .int 0, .int 0]) rfl (own_inB 12 rfl (by decide)) (by rw [chr16_id (lc_ch r5)]; rfl) ?_
  refine Go.run (B := B_mak) td_mak 510 4 (pc' := 678) (L' := [.val (.ref ar), .val (.int (12 : Int32))]) (S' := [.int (6 : Int32), .ref ar, .int (6 : Int32), .ref b, .ref b, .ref s, .ref s]) rfl ?_
  refine Go.caload (B := B_mak) td_mak 514 (v := .int c6) rfl (Or.inl (List.mem_of_getElem? (i := 2) rfl)) (own_inB 12 rfl (by decide)) rfl ?_
  refine Go.castore (B := B_mak) td_mak 515 (vs' := [.int c0, .int c1, .int c2, .int c3, .int c4, .int c5, .int c6, .int 0, .int 0, .int 0, .int 0, .int 0]) rfl (own_inB 12 rfl (by decide)) (by rw [chr16_id (lc_ch r6)]; rfl) ?_
  refine Go.run (B := B_mak) td_mak 516 4 (pc' := 686) (L' := [.val (.ref ar), .val (.int (12 : Int32))]) (S' := [.int (7 : Int32), .ref ar, .int (7 : Int32), .ref b, .ref b, .ref s, .ref s]) rfl ?_
  refine Go.caload (B := B_mak) td_mak 520 (v := .int c7) rfl (Or.inl (List.mem_of_getElem? (i := 2) rfl)) (own_inB 12 rfl (by decide)) rfl ?_
  refine Go.castore (B := B_mak) td_mak 521 (vs' := [.int c0, .int c1, .int c2, .int c3, .int c4, .int c5, .int c6, .int c7, .int 0, .int 0, .int 0, .int 0]) rfl (own_inB 12 rfl (by decide)) (by rw [chr16_id (lc_ch r7)]; rfl) ?_
  refine Go.run (B := B_mak) td_mak 522 4 (pc' := 694) (L' := [.val (.ref ar), .val (.int (12 : Int32))]) (S' := [.int (8 : Int32), .ref ar, .int (8 : Int32), .ref b, .ref b, .ref s, .ref s]) rfl ?_
  refine Go.caload (B := B_mak) td_mak 526 (v := .int c8) rfl (Or.inl (List.mem_of_getElem? (i := 2) rfl)) (own_inB 12 rfl (by decide)) rfl ?_
  refine Go.castore (B := B_mak) td_mak 527 (vs' := [.int c0, .int c1, .int c2, .int c3, .int c4, .int c5, .int c6, .int c7, .int c8, .int 0, .int 0, .int 0]) rfl (own_inB 12 rfl (by decide)) (by rw [chr16_id (lc_ch r8)]; rfl) ?_
  refine Go.run (B := B_mak) td_mak 528 4 (pc' := 702) (L' := [.val (.ref ar), .val (.int (12 : Int32))]) (S' := [.int (9 : Int32), .ref ar, .int (9 : Int32), .ref b, .ref b, .ref s, .ref s]) rfl ?_
  refine Go.caload (B := B_mak) td_mak 532 (v := .int c9) rfl (Or.inl (List.mem_of_getElem? (i := 2) rfl)) (own_inB 12 rfl (by decide)) rfl ?_
  refine Go.castore (B := B_mak) td_mak 533 (vs' := [.int c0, .int c1, .int c2, .int c3, .int c4, .int c5, .int c6, .int c7, .int c8, .int c9, .int 0, .int 0]) rfl (own_inB 12 rfl (by decide)) (by rw [chr16_id (lc_ch r9)]; rfl) ?_
  refine Go.run (B := B_mak) td_mak 534 4 (pc' := 710) (L' := [.val (.ref ar), .val (.int (12 : Int32))]) (S' := [.int (10 : Int32), .ref ar, .int (10 : Int32), .ref b, .ref b, .ref s, .ref s]) rfl ?_
  refine Go.caload (B := B_mak) td_mak 538 (v := .int c10) rfl (Or.inl (List.mem_of_getElem? (i := 2) rfl)) (own_inB 12 rfl (by decide)) rfl ?_
  refine Go.castore (B := B_mak) td_mak 539 (vs' := [.int c0, .int c1, .int c2, .int c3, .int c4, .int c5, .int c6, .int c7, .int c8, .int c9, .int c10, .int 0]) rfl (own_inB 12 rfl (by decide)) (by rw [chr16_id (lc_ch r10)]; rfl) ?_
  refine Go.run (B := B_mak) td_mak 540 4 (pc' := 718) (L' := [.val (.ref ar), .val (.int (12 : Int32))]) (S' := [.int (11 : Int32), .ref ar, .int (11 : Int32), .ref b, .ref b, .ref s, .ref s]) rfl ?_
  refine Go.caload (B := B_mak) td_mak 544 (v := .int c11) rfl (Or.inl (List.mem_of_getElem? (i := 2) rfl)) (own_inB 12 rfl (by decide)) rfl ?_
  refine Go.castore (B := B_mak) td_mak 545 (vs' := [.int c0, .int c1, .int c2, .int c3, .int c4, .int c5, .int c6, .int c7, .int c8, .int c9, .int c10, .int c11]) rfl (own_inB 12 rfl (by decide)) (by rw [chr16_id (lc_ch r11)]; rfl) ?_
  refine Go.front 1 (F' := [(s, ObjP A "java/lang/String" [("java/lang/String", "value", "[B", .null), ("java/lang/String", "coder", "B", .int (0 : Int32))]), (b, ArrP A .char [.int c0, .int c1, .int c2, .int c3, .int c4, .int c5, .int c6, .int c7, .int c8, .int c9, .int c10, .int c11]), (ar, ArrP A .char [.int c0, .int c1, .int c2, .int c3, .int c4, .int c5, .int c6, .int c7, .int c8, .int c9, .int c10, .int c11])]) rfl rfl ?_
  have hl : Lat [c0, c1, c2, c3, c4, c5, c6, c7, c8, c9, c10, c11] := by
    intro c h
    simp only [List.mem_cons, List.not_mem_nil, or_false] at h
    rcases h with rfl | rfl | rfl | rfl | rfl | rfl | rfl | rfl | rfl | rfl | rfl | rfl
    · exact r0
    · exact r1
    · exact r2
    · exact r3
    · exact r4
    · exact r5
    · exact r6
    · exact r7
    · exact r8
    · exact r9
    · exact r10
    · exact r11
  refine Go.callN (B := B_mak) td_mak 546 (B' := B_sin) (a := s) (argsL := [.ref b]) (rest := [.ref s]) (W := 1) rfl (sinL_met K hl (own_le rfl) (Or.inl (List.mem_of_getElem? (i := 0) rfl))) rfl rfl (w_44 K) (w_45 K) (w_8 K) (w_46 K) (by decide) pd_sin rfl rfl rfl rfl (Nat.le_of_eq rfl) (by decide) (by decide) (by decide) (by decide) ?_
  rintro _ _ _ ⟨rfl, rfl, q1, q2, rfl, hS⟩
  show Go A B_mak D _ 723 [.val (.ref ar), .val (.int (12 : Int32))] [.ref s] [(b, ArrP A .char [.int c0, .int c1, .int c2, .int c3, .int c4, .int c5, .int c6, .int c7, .int c8, .int c9, .int c10, .int c11]), (ar, ArrP A .char [.int c0, .int c1, .int c2, .int c3, .int c4, .int c5, .int c6, .int c7, .int c8, .int c9, .int c10, .int c11])] (q1 :: q2 :: G) 6 28
  refine Go.drop ?_
  exact Go.retA (B := B_mak) td_mak 547 rfl rfl rfl rfl ⟨_, _, _, rfl, rfl, rfl, hS⟩ (by decide) (by decide)
--CUT
def tb_law : List In1 := [(0, .iload_n 2, 1), (1, .ldc 7, 2), (3, .iand, 1), (4, .bipush 13, 2), (6, .irem, 1), (7, .istore 5, 2), (9, .iload_n 3, 1), (10, .iconst 3, 1), (11, .iand, 1), (12, .ifCond .ne 7, 3), (15, .iconst 1, 1), (16, .goto 4, 3), (19, .iconst 0, 1), (20, .istore 6, 2), (22, .iload_n 3, 1), (23, .iconst 2, 1), (24, .iushr, 1), (25, .ldc 7, 2), (27, .iand, 1), (28, .bipush 13, 2), (30, .irem, 1), (31, .istore 7, 2), (33, .bipush 12, 2), (35, .newarray .char, 2), (37, .astore 8, 2), (39, .aload 8, 2), (41, .iconst 0, 1), (42, .lload_n 0, 1), (43, .iconst 0, 1), (44, .iload 4, 2), (46, .iload 6, 2), (48, .iload 7, 2), (50, .invokestatic 8, 3), (53, .castore, 1), (54, .aload 8, 2), (56, .iconst 1, 1), (57, .lload_n 0, 1), (58, .iconst 1, 1), (59, .iload 4, 2), (61, .iload 6, 2), (63, .iload 7, 2), (65, .invokestatic 8, 3), (68, .castore, 1), (69, .aload 8, 2), (71, .iconst 2, 1), (72, .lload_n 0, 1), (73, .iconst 2, 1), (74, .iload 4, 2), (76, .iload 6, 2), (78, .iload 7, 2), (80, .invokestatic 8, 3), (83, .castore, 1), (84, .aload 8, 2), (86, .iconst 3, 1), (87, .lload_n 0, 1), (88, .iconst 3, 1), (89, .iload 4, 2), (91, .iload 6, 2), (93, .iload 7, 2), (95, .invokestatic 8, 3), (98, .castore, 1), (99, .aload 8, 2), (101, .iconst 4, 1), (102, .lload_n 0, 1), (103, .iconst 4, 1), (104, .iload 4, 2), (106, .iload 6, 2), (108, .iload 7, 2), (110, .invokestatic 8, 3), (113, .castore, 1), (114, .aload 8, 2), (116, .iconst 5, 1), (117, .lload_n 0, 1), (118, .iconst 5, 1), (119, .iload 4, 2), (121, .iload 6, 2), (123, .iload 7, 2), (125, .invokestatic 8, 3), (128, .castore, 1), (129, .aload 8, 2), (131, .bipush 6, 2), (133, .lload_n 0, 1), (134, .bipush 6, 2), (136, .iload 4, 2), (138, .iload 6, 2), (140, .iload 7, 2), (142, .invokestatic 8, 3), (145, .castore, 1), (146, .aload 8, 2), (148, .bipush 7, 2), (150, .lload_n 0, 1), (151, .bipush 7, 2), (153, .iload 4, 2), (155, .iload 6, 2), (157, .iload 7, 2), (159, .invokestatic 8, 3), (162, .castore, 1), (163, .aload 8, 2), (165, .bipush 8, 2), (167, .lload_n 0, 1), (168, .bipush 8, 2), (170, .iload 4, 2), (172, .iload 6, 2), (174, .iload 7, 2), (176, .invokestatic 8, 3), (179, .castore, 1), (180, .aload 8, 2), (182, .bipush 9, 2), (184, .lload_n 0, 1), (185, .bipush 9, 2), (187, .iload 4, 2), (189, .iload 6, 2), (191, .iload 7, 2), (193, .invokestatic 8, 3), (196, .castore, 1), (197, .aload 8, 2), (199, .bipush 10, 2), (201, .lload_n 0, 1), (202, .bipush 10, 2), (204, .iload 4, 2), (206, .iload 6, 2), (208, .iload 7, 2), (210, .invokestatic 8, 3), (213, .castore, 1), (214, .aload 8, 2), (216, .bipush 11, 2), (218, .lload_n 0, 1), (219, .bipush 11, 2), (221, .iload 4, 2), (223, .iload 6, 2), (225, .iload 7, 2), (227, .invokestatic 8, 3), (230, .castore, 1), (231, .aload 8, 2), (233, .iload 5, 2), (235, .invokestatic 14, 3), (238, .astore 9, 2), (240, .iload 5, 2), (242, .bipush 9, 2), (244, .if_icmp .ne 91, 3), (247, .aload 8, 2), (249, .iconst 0, 1), (250, .caload, 1), (251, .bipush 45, 2), (253, .if_icmp .ne 82, 3), (256, .aload 8, 2), (258, .iconst 1, 1), (259, .caload, 1), (260, .bipush 45, 2), (262, .if_icmp .ne 73, 3), (265, .aload 8, 2), (267, .iconst 2, 1), (268, .caload, 1), (269, .bipush 118, 2), (271, .if_icmp .ne 64, 3), (274, .aload 8, 2), (276, .iconst 3, 1), (277, .caload, 1), (278, .bipush 101, 2), (280, .if_icmp .ne 55, 3), (283, .aload 8, 2), (285, .iconst 4, 1), (286, .caload, 1), (287, .bipush 114, 2), (289, .if_icmp .ne 46, 3), (292, .aload 8, 2), (294, .iconst 5, 1), (295, .caload, 1), (296, .bipush 115, 2), (298, .if_icmp .ne 37, 3), (301, .aload 8, 2), (303, .bipush 6, 2), (305, .caload, 1), (306, .bipush 105, 2), (308, .if_icmp .ne 27, 3), (311, .aload 8, 2), (313, .bipush 7, 2), (315, .caload, 1), (316, .bipush 111, 2), (318, .if_icmp .ne 17, 3), (321, .aload 8, 2), (323, .bipush 8, 2), (325, .caload, 1), (326, .bipush 110, 2), (328, .if_icmp .ne 7, 3), (331, .iconst 1, 1), (332, .goto 4, 3), (335, .iconst 0, 1), (336, .istore 10, 2), (338, .iload 5, 2), (340, .iconst 1, 1), (341, .if_icmp .le 143, 3), (344, .aload 8, 2), (346, .iconst 0, 1), (347, .caload, 1), (348, .bipush 45, 2), (350, .if_icmp .ne 134, 3), (353, .aload 8, 2), (355, .iconst 1, 1), (356, .iload 5, 2), (358, .invokestatic 18, 3), (361, .ifCond .eq 123, 3), (364, .aload 8, 2), (366, .iconst 2, 1), (367, .iload 5, 2), (369, .invokestatic 18, 3), (372, .ifCond .eq 112, 3), (375, .aload 8, 2), (377, .iconst 3, 1), (378, .iload 5, 2), (380, .invokestatic 18, 3), (383, .ifCond .eq 101, 3), (386, .aload 8, 2), (388, .iconst 4, 1), (389, .iload 5, 2), (391, .invokestatic 18, 3), (394, .ifCond .eq 90, 3), (397, .aload 8, 2), (399, .iconst 5, 1), (400, .iload 5, 2), (402, .invokestatic 18, 3), (405, .ifCond .eq 79, 3), (408, .aload 8, 2), (410, .bipush 6, 2), (412, .iload 5, 2), (414, .invokestatic 18, 3), (417, .ifCond .eq 67, 3), (420, .aload 8, 2), (422, .bipush 7, 2), (424, .iload 5, 2), (426, .invokestatic 18, 3), (429, .ifCond .eq 55, 3), (432, .aload 8, 2), (434, .bipush 8, 2), (436, .iload 5, 2), (438, .invokestatic 18, 3), (441, .ifCond .eq 43, 3), (444, .aload 8, 2), (446, .bipush 9, 2), (448, .iload 5, 2), (450, .invokestatic 18, 3), (453, .ifCond .eq 31, 3), (456, .aload 8, 2), (458, .bipush 10, 2), (460, .iload 5, 2), (462, .invokestatic 18, 3), (465, .ifCond .eq 19, 3), (468, .aload 8, 2), (470, .bipush 11, 2), (472, .iload 5, 2), (474, .invokestatic 18, 3), (477, .ifCond .eq 7, 3), (480, .iconst 1, 1), (481, .goto 4, 3), (484, .iconst 0, 1), (485, .istore 11, 2), (487, .aload 8, 2), (489, .iconst 1, 1), (490, .iload 5, 2), (492, .invokestatic 22, 3), (495, .ifCond .ne 119, 3), (498, .aload 8, 2), (500, .iconst 2, 1), (501, .iload 5, 2), (503, .invokestatic 22, 3), (506, .ifCond .ne 108, 3), (509, .aload 8, 2), (511, .iconst 3, 1), (512, .iload 5, 2), (514, .invokestatic 22, 3), (517, .ifCond .ne 97, 3), (520, .aload 8, 2), (522, .iconst 4, 1), (523, .iload 5, 2), (525, .invokestatic 22, 3), (528, .ifCond .ne 86, 3), (531, .aload 8, 2), (533, .iconst 5, 1), (534, .iload 5, 2), (536, .invokestatic 22, 3), (539, .ifCond .ne 75, 3), (542, .aload 8, 2), (544, .bipush 6, 2), (546, .iload 5, 2), (548, .invokestatic 22, 3), (551, .ifCond .ne 63, 3), (554, .aload 8, 2), (556, .bipush 7, 2), (558, .iload 5, 2), (560, .invokestatic 22, 3), (563, .ifCond .ne 51, 3), (566, .aload 8, 2), (568, .bipush 8, 2), (570, .iload 5, 2), (572, .invokestatic 22, 3), (575, .ifCond .ne 39, 3), (578, .aload 8, 2), (580, .bipush 9, 2), (582, .iload 5, 2), (584, .invokestatic 22, 3), (587, .ifCond .ne 27, 3), (590, .aload 8, 2), (592, .bipush 10, 2), (594, .iload 5, 2), (596, .invokestatic 22, 3), (599, .ifCond .ne 15, 3), (602, .aload 8, 2), (604, .bipush 11, 2), (606, .iload 5, 2), (608, .invokestatic 22, 3), (611, .ifCond .eq 7, 3), (614, .iconst 1, 1), (615, .goto 4, 3), (618, .iconst 0, 1), (619, .istore 12, 2), (621, .iload 10, 2), (623, .ifCond .ne 13, 3), (626, .iload 11, 2), (628, .ifCond .eq 12, 3), (631, .iload 12, 2), (633, .ifCond .eq 7, 3), (636, .iconst 1, 1), (637, .goto 4, 3), (640, .iconst 0, 1), (641, .istore 13, 2), (643, .aload 9, 2), (645, .invokestatic 25, 3), (648, .iload 13, 2), (650, .if_icmp .ne 7, 3), (653, .iconst 1, 1), (654, .goto 4, 3), (657, .iconst 0, 1), (658, .ireturn, 1)]
set_option maxRecDepth 65536 in
theorem td_law : Dec code tb_law := by unfold Dec; decide +kernel
theorem pd_law : parseMethodDescriptor "(JIII)Z" = some ⟨[.long, .int, .int, .int], (some .boolean)⟩ := by decide +kernel
theorem pn_law : plainFor (⟨"com/example/hedgewire/hedgewire/CommandSyntaxIsVersionPinLaw", "law", "(JIII)Z"⟩ : MethodName) = true := by decide +kernel
abbrev B_law : Bx := (x, code, maxLocals, ret, room_1, true)
set_option maxRecDepth 65536 in
set_option maxHeartbeats 4000000 in
theorem t5 {A : Ax} (K : Wd A) {D : Dx} {nib : Int64} {xl xm xw n fw p c0 c1 c2 c3 c4 c5 c6 c7 c8 c9 c10 c11 z af sh g : Int32} {ar sa : Addr} {G : List Ent} {cs : List Int32} (hlen : 2 * cs.length < 2 ^ 31) (hs : StrL A G sa cs) (hg : Is g (cs = [45, 45, 118, 101, 114, 115, 105, 111, 110] ∨ (Short cs ∧ 86 ∈ cs.tail))) : Go A B_law D (fun v _ _ => v = some (.int 1)) 643 [.val (.long nib), .second, .val (.int xl), .val (.int xm), .val (.int xw), .val (.int n), .val (.int fw), .val (.int p), .val (.ref ar), .val (.ref sa), .val (.int z), .val (.int af), .val (.int sh), .val (.int g)] [] [(ar, ArrP A .char [.int c0, .int c1, .int c2, .int c3, .int c4, .int c5, .int c6, .int c7, .int c8, .int c9, .int c10, .int c11])] G 11 808 := by
  refine Go.run (B := B_law) td_law 325 1 (pc' := 645) (L' := [.val (.long nib), .second, .val (.int xl), .val (.int xm), .val (.int xw), .val (.int n), .val (.int fw), .val (.int p), .val (.ref ar), .val (.ref sa), .val (.int z), .val (.int af), .val (.int sh), .val (.int g)]) (S' := [.ref sa]) rfl ?_
  refine Go.callS (B := B_law) td_law 326 (B' := B_isv) (argsL := [.ref sa]) (rest := []) (W := 0) rfl (isv_met K hlen hs) (w_67 K) (w_68 K) (w_69 K) (w_70 K) (by decide) pd_isv rfl rfl rfl rfl (Nat.le_of_eq rfl) (by decide) (by decide) (by decide) (by decide) ?_
  rintro _ _ _ ⟨r, rfl, hr, rfl, rfl⟩
  show Go A B_law D _ 648 [.val (.long nib), .second, .val (.int xl), .val (.int xm), .val (.int xw), .val (.int n), .val (.int fw), .val (.int p), .val (.ref ar), .val (.ref sa), .val (.int z), .val (.int af), .val (.int sh), .val (.int g)] [.int r] [(ar, ArrP A .char [.int c0, .int c1, .int c2, .int c3, .int c4, .int c5, .int c6, .int c7, .int c8, .int c9, .int c10, .int c11])] G 13 848
  refine Go.run (B := B_law) td_law 327 1 (pc' := 650) (L' := [.val (.long nib), .second, .val (.int xl), .val (.int xm), .val (.int xw), .val (.int n), .val (.int fw), .val (.int p), .val (.ref ar), .val (.ref sa), .val (.int z), .val (.int af), .val (.int sh), .val (.int g)]) (S' := [.int g, .int r]) rfl ?_
  refine Go.icmp (B := B_law) td_law 328 (pc' := 657) rfl (by decide) rfl (fun (h : r ≠ g) => absurd h (fun z => z (is_eq hr hg))) (fun _ => ?_)
  refine Go.run (B := B_law) td_law 329 2 (pc' := 658) (L' := [.val (.long nib), .second, .val (.int xl), .val (.int xm), .val (.int xw), .val (.int n), .val (.int fw), .val (.int p), .val (.ref ar), .val (.ref sa), .val (.int z), .val (.int af), .val (.int sh), .val (.int g)]) (S' := [.int (1 : Int32)]) rfl ?_
  exact Go.retZ (B := B_law) td_law 332 rfl rfl rfl rfl (by decide) (by decide)
set_option maxRecDepth 65536 in
set_option maxHeartbeats 4000000 in
theorem t4 {A : Ax} (K : Wd A) {D : Dx} {nib : Int64} {xl xm xw n fw p c0 c1 c2 c3 c4 c5 c6 c7 c8 c9 c10 c11 z af sh : Int32} {ar sa : Addr} {G : List Ent} {cs : List Int32} (hlen : 2 * cs.length < 2 ^ 31) (hs : StrL A G sa cs) (hh : (z ≠ 0 ∨ (af ≠ 0 ∧ sh ≠ 0)) ↔ (cs = [45, 45, 118, 101, 114, 115, 105, 111, 110] ∨ (Short cs ∧ 86 ∈ cs.tail))) : Go A B_law D (fun v _ _ => v = some (.int 1)) 621 [.val (.long nib), .second, .val (.int xl), .val (.int xm), .val (.int xw), .val (.int n), .val (.int fw), .val (.int p), .val (.ref ar), .val (.ref sa), .val (.int z), .val (.int af), .val (.int sh), .unset] [] [(ar, ArrP A .char [.int c0, .int c1, .int c2, .int c3, .int c4, .int c5, .int c6, .int c7, .int c8, .int c9, .int c10, .int c11])] G 11 808 := by
  refine Go.run (B := B_law) td_law 315 1 (pc' := 623) (L' := [.val (.long nib), .second, .val (.int xl), .val (.int xm), .val (.int xw), .val (.int n), .val (.int fw), .val (.int p), .val (.ref ar), .val (.ref sa), .val (.int z), .val (.int af), .val (.int sh), .unset]) (S' := [.int z]) rfl ?_
  refine Go.if0 (B := B_law) td_law 316 (pc' := 636) rfl (by decide) rfl ?_ ?_
  · intro (h1 : z ≠ 0)
    refine Go.run (B := B_law) td_law 321 2 (pc' := 641) (L' := [.val (.long nib), .second, .val (.int xl), .val (.int xm), .val (.int xw), .val (.int n), .val (.int fw), .val (.int p), .val (.ref ar), .val (.ref sa), .val (.int z), .val (.int af), .val (.int sh), .unset]) (S' := [.int (1 : Int32)]) rfl ?_
    refine Go.run (B := B_law) td_law 324 1 (pc' := 643) (L' := [.val (.long nib), .second, .val (.int xl), .val (.int xm), .val (.int xw), .val (.int n), .val (.int fw), .val (.int p), .val (.ref ar), .val (.ref sa), .val (.int z), .val (.int af), .val (.int sh), .val (.int (1 : Int32))]) (S' := []) rfl ?_
    exact t5 K hlen hs (Is.t (hh.mp (Or.inl h1)))
  · intro (h1 : ¬ (z ≠ 0))
    refine Go.run (B := B_law) td_law 317 1 (pc' := 628) (L' := [.val (.long nib), .second, .val (.int xl), .val (.int xm), .val (.int xw), .val (.int n), .val (.int fw), .val (.int p), .val (.ref ar), .val (.ref sa), .val (.int z), .val (.int af), .val (.int sh), .unset]) (S' := [.int af]) rfl ?_
    refine Go.if0 (B := B_law) td_law 318 (pc' := 640) rfl (by decide) rfl ?_ ?_
    · intro (h2 : af = 0)
      refine Go.run (B := B_law) td_law 323 2 (pc' := 643) (L' := [.val (.long nib), .second, .val (.int xl), .val (.int xm), .val (.int xw), .val (.int n), .val (.int fw), .val (.int p), .val (.ref ar), .val (.ref sa), .val (.int z), .val (.int af), .val (.int sh), .val (.int (0 : Int32))]) (S' := []) rfl ?_
      exact t5 K hlen hs (Is.f (fun q => (hh.mpr q).elim (fun y => y (Decidable.not_not.mp h1)) fun y => y.1 h2))
    · intro (h2 : ¬ (af = 0))
      refine Go.run (B := B_law) td_law 319 1 (pc' := 633) (L' := [.val (.long nib), .second, .val (.int xl), .val (.int xm), .val (.int xw), .val (.int n), .val (.int fw), .val (.int p), .val (.ref ar), .val (.ref sa), .val (.int z), .val (.int af), .val (.int sh), .unset]) (S' := [.int sh]) rfl ?_
      refine Go.if0 (B := B_law) td_law 320 (pc' := 640) rfl (by decide) rfl ?_ ?_
      · intro (h3 : sh = 0)
        refine Go.run (B := B_law) td_law 323 2 (pc' := 643) (L' := [.val (.long nib), .second, .val (.int xl), .val (.int xm), .val (.int xw), .val (.int n), .val (.int fw), .val (.int p), .val (.ref ar), .val (.ref sa), .val (.int z), .val (.int af), .val (.int sh), .val (.int (0 : Int32))]) (S' := []) rfl ?_
        exact t5 K hlen hs (Is.f (fun q => (hh.mpr q).elim (fun y => y (Decidable.not_not.mp h1)) fun y => y.2 h3))
      · intro (h3 : ¬ (sh = 0))
        refine Go.run (B := B_law) td_law 321 2 (pc' := 641) (L' := [.val (.long nib), .second, .val (.int xl), .val (.int xm), .val (.int xw), .val (.int n), .val (.int fw), .val (.int p), .val (.ref ar), .val (.ref sa), .val (.int z), .val (.int af), .val (.int sh), .unset]) (S' := [.int (1 : Int32)]) rfl ?_
        refine Go.run (B := B_law) td_law 324 1 (pc' := 643) (L' := [.val (.long nib), .second, .val (.int xl), .val (.int xm), .val (.int xw), .val (.int n), .val (.int fw), .val (.int p), .val (.ref ar), .val (.ref sa), .val (.int z), .val (.int af), .val (.int sh), .val (.int (1 : Int32))]) (S' := []) rfl ?_
        exact t5 K hlen hs (Is.t (hh.mp (Or.inr ⟨h2, h3⟩)))
set_option maxRecDepth 65536 in
set_option maxHeartbeats 4000000 in
theorem t3 {A : Ax} (K : Wd A) {D : Dx} {nib : Int64} {xl xm xw n fw p c0 c1 c2 c3 c4 c5 c6 c7 c8 c9 c10 c11 z af : Int32} {ar sa : Addr} {G : List Ent} {cs : List Int32} (hlen : 2 * cs.length < 2 ^ 31) (hs : StrL A G sa cs) (hh : (z ≠ 0 ∨ (af ≠ 0 ∧ ((1 < n ∧ c1 = 86) ∨ (2 < n ∧ c2 = 86) ∨ (3 < n ∧ c3 = 86) ∨ (4 < n ∧ c4 = 86) ∨ (5 < n ∧ c5 = 86) ∨ (6 < n ∧ c6 = 86) ∨ (7 < n ∧ c7 = 86) ∨ (8 < n ∧ c8 = 86) ∨ (9 < n ∧ c9 = 86) ∨ (10 < n ∧ c10 = 86) ∨ (11 < n ∧ c11 = 86)))) ↔ (cs = [45, 45, 118, 101, 114, 115, 105, 111, 110] ∨ (Short cs ∧ 86 ∈ cs.tail))) : Go A B_law D (fun v _ _ => v = some (.int 1)) 487 [.val (.long nib), .second, .val (.int xl), .val (.int xm), .val (.int xw), .val (.int n), .val (.int fw), .val (.int p), .val (.ref ar), .val (.ref sa), .val (.int z), .val (.int af), .unset, .unset] [] [(ar, ArrP A .char [.int c0, .int c1, .int c2, .int c3, .int c4, .int c5, .int c6, .int c7, .int c8, .int c9, .int c10, .int c11])] G 11 808 := by
  refine Go.run (B := B_law) td_law 256 3 (pc' := 492) (L' := [.val (.long nib), .second, .val (.int xl), .val (.int xm), .val (.int xw), .val (.int n), .val (.int fw), .val (.int p), .val (.ref ar), .val (.ref sa), .val (.int z), .val (.int af), .unset, .unset]) (S' := [.int n, .int (1 : Int32), .ref ar]) rfl ?_
  refine Go.callS (B := B_law) td_law 259 (B' := B_vv) (argsL := [.ref ar, .int (1 : Int32), .int n]) (rest := []) (W := 0) rfl (vv_met K (own_inB 12 rfl (by decide)) rfl (Or.inl (List.mem_of_getElem? (i := 0) rfl))) (w_64 K) (w_65 K) (w_4 K) (w_66 K) (by decide) pd_vv rfl rfl rfl rfl (Nat.le_of_eq rfl) (by decide) (by decide) (by decide) (by decide) ?_
  rintro _ _ _ ⟨k1, rfl, I1, rfl, rfl⟩
  show Go A B_law D _ 495 [.val (.long nib), .second, .val (.int xl), .val (.int xm), .val (.int xw), .val (.int n), .val (.int fw), .val (.int p), .val (.ref ar), .val (.ref sa), .val (.int z), .val (.int af), .unset, .unset] [.int k1] [(ar, ArrP A .char [.int c0, .int c1, .int c2, .int c3, .int c4, .int c5, .int c6, .int c7, .int c8, .int c9, .int c10, .int c11])] G 11 808
  refine Go.if0 (B := B_law) td_law 260 (pc' := 614) rfl (by decide) rfl ?_ ?_
  · intro (h1 : k1 ≠ 0)
    have q1 : (1 < n ∧ c1 = 86) := Classical.byContradiction fun q => h1 (I1.2 q)
    refine Go.run (B := B_law) td_law 311 2 (pc' := 619) (L' := [.val (.long nib), .second, .val (.int xl), .val (.int xm), .val (.int xw), .val (.int n), .val (.int fw), .val (.int p), .val (.ref ar), .val (.ref sa), .val (.int z), .val (.int af), .unset, .unset]) (S' := [.int (1 : Int32)]) rfl ?_
    refine Go.run (B := B_law) td_law 314 1 (pc' := 621) (L' := [.val (.long nib), .second, .val (.int xl), .val (.int xm), .val (.int xw), .val (.int n), .val (.int fw), .val (.int p), .val (.ref ar), .val (.ref sa), .val (.int z), .val (.int af), .val (.int (1 : Int32)), .unset]) (S' := []) rfl ?_
    exact t4 K hlen hs (Iff.trans (or_congr Iff.rfl (and_congr Iff.rfl (sT (Or.inl q1)).symm)) hh)
  · intro (h1 : ¬ (k1 ≠ 0))
    have q1 : ¬ (1 < n ∧ c1 = 86) := fun q => h1 (by rw [I1.1 q]; decide)
    refine Go.run (B := B_law) td_law 261 3 (pc' := 503) (L' := [.val (.long nib), .second, .val (.int xl), .val (.int xm), .val (.int xw), .val (.int n), .val (.int fw), .val (.int p), .val (.ref ar), .val (.ref sa), .val (.int z), .val (.int af), .unset, .unset]) (S' := [.int n, .int (2 : Int32), .ref ar]) rfl ?_
    refine Go.callS (B := B_law) td_law 264 (B' := B_vv) (argsL := [.ref ar, .int (2 : Int32), .int n]) (rest := []) (W := 0) rfl (vv_met K (own_inB 12 rfl (by decide)) rfl (Or.inl (List.mem_of_getElem? (i := 0) rfl))) (w_64 K) (w_65 K) (w_4 K) (w_66 K) (by decide) pd_vv rfl rfl rfl rfl (Nat.le_of_eq rfl) (by decide) (by decide) (by decide) (by decide) ?_
    rintro _ _ _ ⟨k2, rfl, I2, rfl, rfl⟩
    show Go A B_law D _ 506 [.val (.long nib), .second, .val (.int xl), .val (.int xm), .val (.int xw), .val (.int n), .val (.int fw), .val (.int p), .val (.ref ar), .val (.ref sa), .val (.int z), .val (.int af), .unset, .unset] [.int k2] [(ar, ArrP A .char [.int c0, .int c1, .int c2, .int c3, .int c4, .int c5, .int c6, .int c7, .int c8, .int c9, .int c10, .int c11])] G 11 808
    refine Go.if0 (B := B_law) td_law 265 (pc' := 614) rfl (by decide) rfl ?_ ?_
    · intro (h2 : k2 ≠ 0)
      have q2 : (2 < n ∧ c2 = 86) := Classical.byContradiction fun q => h2 (I2.2 q)
      refine Go.run (B := B_law) td_law 311 2 (pc' := 619) (L' := [.val (.long nib), .second, .val (.int xl), .val (.int xm), .val (.int xw), .val (.int n), .val (.int fw), .val (.int p), .val (.ref ar), .val (.ref sa), .val (.int z), .val (.int af), .unset, .unset]) (S' := [.int (1 : Int32)]) rfl ?_
      refine Go.run (B := B_law) td_law 314 1 (pc' := 621) (L' := [.val (.long nib), .second, .val (.int xl), .val (.int xm), .val (.int xw), .val (.int n), .val (.int fw), .val (.int p), .val (.ref ar), .val (.ref sa), .val (.int z), .val (.int af), .val (.int (1 : Int32)), .unset]) (S' := []) rfl ?_
      exact t4 K hlen hs (Iff.trans (or_congr Iff.rfl (and_congr Iff.rfl (sT (Or.inr (Or.inl q2))).symm)) hh)
    · intro (h2 : ¬ (k2 ≠ 0))
      have q2 : ¬ (2 < n ∧ c2 = 86) := fun q => h2 (by rw [I2.1 q]; decide)
      refine Go.run (B := B_law) td_law 266 3 (pc' := 514) (L' := [.val (.long nib), .second, .val (.int xl), .val (.int xm), .val (.int xw), .val (.int n), .val (.int fw), .val (.int p), .val (.ref ar), .val (.ref sa), .val (.int z), .val (.int af), .unset, .unset]) (S' := [.int n, .int (3 : Int32), .ref ar]) rfl ?_
      refine Go.callS (B := B_law) td_law 269 (B' := B_vv) (argsL := [.ref ar, .int (3 : Int32), .int n]) (rest := []) (W := 0) rfl (vv_met K (own_inB 12 rfl (by decide)) rfl (Or.inl (List.mem_of_getElem? (i := 0) rfl))) (w_64 K) (w_65 K) (w_4 K) (w_66 K) (by decide) pd_vv rfl rfl rfl rfl (Nat.le_of_eq rfl) (by decide) (by decide) (by decide) (by decide) ?_
      rintro _ _ _ ⟨k3, rfl, I3, rfl, rfl⟩
      show Go A B_law D _ 517 [.val (.long nib), .second, .val (.int xl), .val (.int xm), .val (.int xw), .val (.int n), .val (.int fw), .val (.int p), .val (.ref ar), .val (.ref sa), .val (.int z), .val (.int af), .unset, .unset] [.int k3] [(ar, ArrP A .char [.int c0, .int c1, .int c2, .int c3, .int c4, .int c5, .int c6, .int c7, .int c8, .int c9, .int c10, .int c11])] G 11 808
      refine Go.if0 (B := B_law) td_law 270 (pc' := 614) rfl (by decide) rfl ?_ ?_
      · intro (h3 : k3 ≠ 0)
        have q3 : (3 < n ∧ c3 = 86) := Classical.byContradiction fun q => h3 (I3.2 q)
        refine Go.run (B := B_law) td_law 311 2 (pc' := 619) (L' := [.val (.long nib), .second, .val (.int xl), .val (.int xm), .val (.int xw), .val (.int n), .val (.int fw), .val (.int p), .val (.ref ar), .val (.ref sa), .val (.int z), .val (.int af), .unset, .unset]) (S' := [.int (1 : Int32)]) rfl ?_
        refine Go.run (B := B_law) td_law 314 1 (pc' := 621) (L' := [.val (.long nib), .second, .val (.int xl), .val (.int xm), .val (.int xw), .val (.int n), .val (.int fw), .val (.int p), .val (.ref ar), .val (.ref sa), .val (.int z), .val (.int af), .val (.int (1 : Int32)), .unset]) (S' := []) rfl ?_
        exact t4 K hlen hs (Iff.trans (or_congr Iff.rfl (and_congr Iff.rfl (sT (Or.inr (Or.inr (Or.inl q3)))).symm)) hh)
      · intro (h3 : ¬ (k3 ≠ 0))
        have q3 : ¬ (3 < n ∧ c3 = 86) := fun q => h3 (by rw [I3.1 q]; decide)
        refine Go.run (B := B_law) td_law 271 3 (pc' := 525) (L' := [.val (.long nib), .second, .val (.int xl), .val (.int xm), .val (.int xw), .val (.int n), .val (.int fw), .val (.int p), .val (.ref ar), .val (.ref sa), .val (.int z), .val (.int af), .unset, .unset]) (S' := [.int n, .int (4 : Int32), .ref ar]) rfl ?_
        refine Go.callS (B := B_law) td_law 274 (B' := B_vv) (argsL := [.ref ar, .int (4 : Int32), .int n]) (rest := []) (W := 0) rfl (vv_met K (own_inB 12 rfl (by decide)) rfl (Or.inl (List.mem_of_getElem? (i := 0) rfl))) (w_64 K) (w_65 K) (w_4 K) (w_66 K) (by decide) pd_vv rfl rfl rfl rfl (Nat.le_of_eq rfl) (by decide) (by decide) (by decide) (by decide) ?_
        rintro _ _ _ ⟨k4, rfl, I4, rfl, rfl⟩
        show Go A B_law D _ 528 [.val (.long nib), .second, .val (.int xl), .val (.int xm), .val (.int xw), .val (.int n), .val (.int fw), .val (.int p), .val (.ref ar), .val (.ref sa), .val (.int z), .val (.int af), .unset, .unset] [.int k4] [(ar, ArrP A .char [.int c0, .int c1, .int c2, .int c3, .int c4, .int c5, .int c6, .int c7, .int c8, .int c9, .int c10, .int c11])] G 11 808
        refine Go.if0 (B := B_law) td_law 275 (pc' := 614) rfl (by decide) rfl ?_ ?_
        · intro (h4 : k4 ≠ 0)
          have q4 : (4 < n ∧ c4 = 86) := Classical.byContradiction fun q => h4 (I4.2 q)
          refine Go.run (B := B_law) td_law 311 2 (pc' := 619) (L' := [.val (.long nib), .second, .val (.int xl), .val (.int xm), .val (.int xw), .val (.int n), .val (.int fw), .val (.int p), .val (.ref ar), .val (.ref sa), .val (.int z), .val (.int af), .unset, .unset]) (S' := [.int (1 : Int32)]) rfl ?_
          refine Go.run (B := B_law) td_law 314 1 (pc' := 621) (L' := [.val (.long nib), .second, .val (.int xl), .val (.int xm), .val (.int xw), .val (.int n), .val (.int fw), .val (.int p), .val (.ref ar), .val (.ref sa), .val (.int z), .val (.int af), .val (.int (1 : Int32)), .unset]) (S' := []) rfl ?_
          exact t4 K hlen hs (Iff.trans (or_congr Iff.rfl (and_congr Iff.rfl (sT (Or.inr (Or.inr (Or.inr (Or.inl q4))))).symm)) hh)
        · intro (h4 : ¬ (k4 ≠ 0))
          have q4 : ¬ (4 < n ∧ c4 = 86) := fun q => h4 (by rw [I4.1 q]; decide)
          refine Go.run (B := B_law) td_law 276 3 (pc' := 536) (L' := [.val (.long nib), .second, .val (.int xl), .val (.int xm), .val (.int xw), .val (.int n), .val (.int fw), .val (.int p), .val (.ref ar), .val (.ref sa), .val (.int z), .val (.int af), .unset, .unset]) (S' := [.int n, .int (5 : Int32), .ref ar]) rfl ?_
          refine Go.callS (B := B_law) td_law 279 (B' := B_vv) (argsL := [.ref ar, .int (5 : Int32), .int n]) (rest := []) (W := 0) rfl (vv_met K (own_inB 12 rfl (by decide)) rfl (Or.inl (List.mem_of_getElem? (i := 0) rfl))) (w_64 K) (w_65 K) (w_4 K) (w_66 K) (by decide) pd_vv rfl rfl rfl rfl (Nat.le_of_eq rfl) (by decide) (by decide) (by decide) (by decide) ?_
          rintro _ _ _ ⟨k5, rfl, I5, rfl, rfl⟩
          show Go A B_law D _ 539 [.val (.long nib), .second, .val (.int xl), .val (.int xm), .val (.int xw), .val (.int n), .val (.int fw), .val (.int p), .val (.ref ar), .val (.ref sa), .val (.int z), .val (.int af), .unset, .unset] [.int k5] [(ar, ArrP A .char [.int c0, .int c1, .int c2, .int c3, .int c4, .int c5, .int c6, .int c7, .int c8, .int c9, .int c10, .int c11])] G 11 808
          refine Go.if0 (B := B_law) td_law 280 (pc' := 614) rfl (by decide) rfl ?_ ?_
          · intro (h5 : k5 ≠ 0)
            have q5 : (5 < n ∧ c5 = 86) := Classical.byContradiction fun q => h5 (I5.2 q)
            refine Go.run (B := B_law) td_law 311 2 (pc' := 619) (L' := [.val (.long nib), .second, .val (.int xl), .val (.int xm), .val (.int xw), .val (.int n), .val (.int fw), .val (.int p), .val (.ref ar), .val (.ref sa), .val (.int z), .val (.int af), .unset, .unset]) (S' := [.int (1 : Int32)]) rfl ?_
            refine Go.run (B := B_law) td_law 314 1 (pc' := 621) (L' := [.val (.long nib), .second, .val (.int xl), .val (.int xm), .val (.int xw), .val (.int n), .val (.int fw), .val (.int p), .val (.ref ar), .val (.ref sa), .val (.int z), .val (.int af), .val (.int (1 : Int32)), .unset]) (S' := []) rfl ?_
            exact t4 K hlen hs (Iff.trans (or_congr Iff.rfl (and_congr Iff.rfl (sT (Or.inr (Or.inr (Or.inr (Or.inr (Or.inl q5)))))).symm)) hh)
          · intro (h5 : ¬ (k5 ≠ 0))
            have q5 : ¬ (5 < n ∧ c5 = 86) := fun q => h5 (by rw [I5.1 q]; decide)
            refine Go.run (B := B_law) td_law 281 3 (pc' := 548) (L' := [.val (.long nib), .second, .val (.int xl), .val (.int xm), .val (.int xw), .val (.int n), .val (.int fw), .val (.int p), .val (.ref ar), .val (.ref sa), .val (.int z), .val (.int af), .unset, .unset]) (S' := [.int n, .int (6 : Int32), .ref ar]) rfl ?_
            refine Go.callS (B := B_law) td_law 284 (B' := B_vv) (argsL := [.ref ar, .int (6 : Int32), .int n]) (rest := []) (W := 0) rfl (vv_met K (own_inB 12 rfl (by decide)) rfl (Or.inl (List.mem_of_getElem? (i := 0) rfl))) (w_64 K) (w_65 K) (w_4 K) (w_66 K) (by decide) pd_vv rfl rfl rfl rfl (Nat.le_of_eq rfl) (by decide) (by decide) (by decide) (by decide) ?_
            rintro _ _ _ ⟨k6, rfl, I6, rfl, rfl⟩
            show Go A B_law D _ 551 [.val (.long nib), .second, .val (.int xl), .val (.int xm), .val (.int xw), .val (.int n), .val (.int fw), .val (.int p), .val (.ref ar), .val (.ref sa), .val (.int z), .val (.int af), .unset, .unset] [.int k6] [(ar, ArrP A .char [.int c0, .int c1, .int c2, .int c3, .int c4, .int c5, .int c6, .int c7, .int c8, .int c9, .int c10, .int c11])] G 11 808
            refine Go.if0 (B := B_law) td_law 285 (pc' := 614) rfl (by decide) rfl ?_ ?_
            · intro (h6 : k6 ≠ 0)
              have q6 : (6 < n ∧ c6 = 86) := Classical.byContradiction fun q => h6 (I6.2 q)
              refine Go.run (B := B_law) td_law 311 2 (pc' := 619) (L' := [.val (.long nib), .second, .val (.int xl), .val (.int xm), .val (.int xw), .val (.int n), .val (.int fw), .val (.int p), .val (.ref ar), .val (.ref sa), .val (.int z), .val (.int af), .unset, .unset]) (S' := [.int (1 : Int32)]) rfl ?_
              refine Go.run (B := B_law) td_law 314 1 (pc' := 621) (L' := [.val (.long nib), .second, .val (.int xl), .val (.int xm), .val (.int xw), .val (.int n), .val (.int fw), .val (.int p), .val (.ref ar), .val (.ref sa), .val (.int z), .val (.int af), .val (.int (1 : Int32)), .unset]) (S' := []) rfl ?_
              exact t4 K hlen hs (Iff.trans (or_congr Iff.rfl (and_congr Iff.rfl (sT (Or.inr (Or.inr (Or.inr (Or.inr (Or.inr (Or.inl q6))))))).symm)) hh)
            · intro (h6 : ¬ (k6 ≠ 0))
              have q6 : ¬ (6 < n ∧ c6 = 86) := fun q => h6 (by rw [I6.1 q]; decide)
              refine Go.run (B := B_law) td_law 286 3 (pc' := 560) (L' := [.val (.long nib), .second, .val (.int xl), .val (.int xm), .val (.int xw), .val (.int n), .val (.int fw), .val (.int p), .val (.ref ar), .val (.ref sa), .val (.int z), .val (.int af), .unset, .unset]) (S' := [.int n, .int (7 : Int32), .ref ar]) rfl ?_
              refine Go.callS (B := B_law) td_law 289 (B' := B_vv) (argsL := [.ref ar, .int (7 : Int32), .int n]) (rest := []) (W := 0) rfl (vv_met K (own_inB 12 rfl (by decide)) rfl (Or.inl (List.mem_of_getElem? (i := 0) rfl))) (w_64 K) (w_65 K) (w_4 K) (w_66 K) (by decide) pd_vv rfl rfl rfl rfl (Nat.le_of_eq rfl) (by decide) (by decide) (by decide) (by decide) ?_
              rintro _ _ _ ⟨k7, rfl, I7, rfl, rfl⟩
              show Go A B_law D _ 563 [.val (.long nib), .second, .val (.int xl), .val (.int xm), .val (.int xw), .val (.int n), .val (.int fw), .val (.int p), .val (.ref ar), .val (.ref sa), .val (.int z), .val (.int af), .unset, .unset] [.int k7] [(ar, ArrP A .char [.int c0, .int c1, .int c2, .int c3, .int c4, .int c5, .int c6, .int c7, .int c8, .int c9, .int c10, .int c11])] G 11 808
              refine Go.if0 (B := B_law) td_law 290 (pc' := 614) rfl (by decide) rfl ?_ ?_
              · intro (h7 : k7 ≠ 0)
                have q7 : (7 < n ∧ c7 = 86) := Classical.byContradiction fun q => h7 (I7.2 q)
                refine Go.run (B := B_law) td_law 311 2 (pc' := 619) (L' := [.val (.long nib), .second, .val (.int xl), .val (.int xm), .val (.int xw), .val (.int n), .val (.int fw), .val (.int p), .val (.ref ar), .val (.ref sa), .val (.int z), .val (.int af), .unset, .unset]) (S' := [.int (1 : Int32)]) rfl ?_
                refine Go.run (B := B_law) td_law 314 1 (pc' := 621) (L' := [.val (.long nib), .second, .val (.int xl), .val (.int xm), .val (.int xw), .val (.int n), .val (.int fw), .val (.int p), .val (.ref ar), .val (.ref sa), .val (.int z), .val (.int af), .val (.int (1 : Int32)), .unset]) (S' := []) rfl ?_
                exact t4 K hlen hs (Iff.trans (or_congr Iff.rfl (and_congr Iff.rfl (sT (Or.inr (Or.inr (Or.inr (Or.inr (Or.inr (Or.inr (Or.inl q7)))))))).symm)) hh)
              · intro (h7 : ¬ (k7 ≠ 0))
                have q7 : ¬ (7 < n ∧ c7 = 86) := fun q => h7 (by rw [I7.1 q]; decide)
                refine Go.run (B := B_law) td_law 291 3 (pc' := 572) (L' := [.val (.long nib), .second, .val (.int xl), .val (.int xm), .val (.int xw), .val (.int n), .val (.int fw), .val (.int p), .val (.ref ar), .val (.ref sa), .val (.int z), .val (.int af), .unset, .unset]) (S' := [.int n, .int (8 : Int32), .ref ar]) rfl ?_
                refine Go.callS (B := B_law) td_law 294 (B' := B_vv) (argsL := [.ref ar, .int (8 : Int32), .int n]) (rest := []) (W := 0) rfl (vv_met K (own_inB 12 rfl (by decide)) rfl (Or.inl (List.mem_of_getElem? (i := 0) rfl))) (w_64 K) (w_65 K) (w_4 K) (w_66 K) (by decide) pd_vv rfl rfl rfl rfl (Nat.le_of_eq rfl) (by decide) (by decide) (by decide) (by decide) ?_
                rintro _ _ _ ⟨k8, rfl, I8, rfl, rfl⟩
                show Go A B_law D _ 575 [.val (.long nib), .second, .val (.int xl), .val (.int xm), .val (.int xw), .val (.int n), .val (.int fw), .val (.int p), .val (.ref ar), .val (.ref sa), .val (.int z), .val (.int af), .unset, .unset] [.int k8] [(ar, ArrP A .char [.int c0, .int c1, .int c2, .int c3, .int c4, .int c5, .int c6, .int c7, .int c8, .int c9, .int c10, .int c11])] G 11 808
                refine Go.if0 (B := B_law) td_law 295 (pc' := 614) rfl (by decide) rfl ?_ ?_
                · intro (h8 : k8 ≠ 0)
                  have q8 : (8 < n ∧ c8 = 86) := Classical.byContradiction fun q => h8 (I8.2 q)
                  refine Go.run (B := B_law) td_law 311 2 (pc' := 619) (L' := [.val (.long nib), .second, .val (.int xl), .val (.int xm), .val (.int xw), .val (.int n), .val (.int fw), .val (.int p), .val (.ref ar), .val (.ref sa), .val (.int z), .val (.int af), .unset, .unset]) (S' := [.int (1 : Int32)]) rfl ?_
                  refine Go.run (B := B_law) td_law 314 1 (pc' := 621) (L' := [.val (.long nib), .second, .val (.int xl), .val (.int xm), .val (.int xw), .val (.int n), .val (.int fw), .val (.int p), .val (.ref ar), .val (.ref sa), .val (.int z), .val (.int af), .val (.int (1 : Int32)), .unset]) (S' := []) rfl ?_
                  exact t4 K hlen hs (Iff.trans (or_congr Iff.rfl (and_congr Iff.rfl (sT (Or.inr (Or.inr (Or.inr (Or.inr (Or.inr (Or.inr (Or.inr (Or.inl q8))))))))).symm)) hh)
                · intro (h8 : ¬ (k8 ≠ 0))
                  have q8 : ¬ (8 < n ∧ c8 = 86) := fun q => h8 (by rw [I8.1 q]; decide)
                  refine Go.run (B := B_law) td_law 296 3 (pc' := 584) (L' := [.val (.long nib), .second, .val (.int xl), .val (.int xm), .val (.int xw), .val (.int n), .val (.int fw), .val (.int p), .val (.ref ar), .val (.ref sa), .val (.int z), .val (.int af), .unset, .unset]) (S' := [.int n, .int (9 : Int32), .ref ar]) rfl ?_
                  refine Go.callS (B := B_law) td_law 299 (B' := B_vv) (argsL := [.ref ar, .int (9 : Int32), .int n]) (rest := []) (W := 0) rfl (vv_met K (own_inB 12 rfl (by decide)) rfl (Or.inl (List.mem_of_getElem? (i := 0) rfl))) (w_64 K) (w_65 K) (w_4 K) (w_66 K) (by decide) pd_vv rfl rfl rfl rfl (Nat.le_of_eq rfl) (by decide) (by decide) (by decide) (by decide) ?_
                  rintro _ _ _ ⟨k9, rfl, I9, rfl, rfl⟩
                  show Go A B_law D _ 587 [.val (.long nib), .second, .val (.int xl), .val (.int xm), .val (.int xw), .val (.int n), .val (.int fw), .val (.int p), .val (.ref ar), .val (.ref sa), .val (.int z), .val (.int af), .unset, .unset] [.int k9] [(ar, ArrP A .char [.int c0, .int c1, .int c2, .int c3, .int c4, .int c5, .int c6, .int c7, .int c8, .int c9, .int c10, .int c11])] G 11 808
                  refine Go.if0 (B := B_law) td_law 300 (pc' := 614) rfl (by decide) rfl ?_ ?_
                  · intro (h9 : k9 ≠ 0)
                    have q9 : (9 < n ∧ c9 = 86) := Classical.byContradiction fun q => h9 (I9.2 q)
                    refine Go.run (B := B_law) td_law 311 2 (pc' := 619) (L' := [.val (.long nib), .second, .val (.int xl), .val (.int xm), .val (.int xw), .val (.int n), .val (.int fw), .val (.int p), .val (.ref ar), .val (.ref sa), .val (.int z), .val (.int af), .unset, .unset]) (S' := [.int (1 : Int32)]) rfl ?_
                    refine Go.run (B := B_law) td_law 314 1 (pc' := 621) (L' := [.val (.long nib), .second, .val (.int xl), .val (.int xm), .val (.int xw), .val (.int n), .val (.int fw), .val (.int p), .val (.ref ar), .val (.ref sa), .val (.int z), .val (.int af), .val (.int (1 : Int32)), .unset]) (S' := []) rfl ?_
                    exact t4 K hlen hs (Iff.trans (or_congr Iff.rfl (and_congr Iff.rfl (sT (Or.inr (Or.inr (Or.inr (Or.inr (Or.inr (Or.inr (Or.inr (Or.inr (Or.inl q9)))))))))).symm)) hh)
                  · intro (h9 : ¬ (k9 ≠ 0))
                    have q9 : ¬ (9 < n ∧ c9 = 86) := fun q => h9 (by rw [I9.1 q]; decide)
                    refine Go.run (B := B_law) td_law 301 3 (pc' := 596) (L' := [.val (.long nib), .second, .val (.int xl), .val (.int xm), .val (.int xw), .val (.int n), .val (.int fw), .val (.int p), .val (.ref ar), .val (.ref sa), .val (.int z), .val (.int af), .unset, .unset]) (S' := [.int n, .int (10 : Int32), .ref ar]) rfl ?_
                    refine Go.callS (B := B_law) td_law 304 (B' := B_vv) (argsL := [.ref ar, .int (10 : Int32), .int n]) (rest := []) (W := 0) rfl (vv_met K (own_inB 12 rfl (by decide)) rfl (Or.inl (List.mem_of_getElem? (i := 0) rfl))) (w_64 K) (w_65 K) (w_4 K) (w_66 K) (by decide) pd_vv rfl rfl rfl rfl (Nat.le_of_eq rfl) (by decide) (by decide) (by decide) (by decide) ?_
                    rintro _ _ _ ⟨k10, rfl, I10, rfl, rfl⟩
                    show Go A B_law D _ 599 [.val (.long nib), .second, .val (.int xl), .val (.int xm), .val (.int xw), .val (.int n), .val (.int fw), .val (.int p), .val (.ref ar), .val (.ref sa), .val (.int z), .val (.int af), .unset, .unset] [.int k10] [(ar, ArrP A .char [.int c0, .int c1, .int c2, .int c3, .int c4, .int c5, .int c6, .int c7, .int c8, .int c9, .int c10, .int c11])] G 11 808
                    refine Go.if0 (B := B_law) td_law 305 (pc' := 614) rfl (by decide) rfl ?_ ?_
                    · intro (h10 : k10 ≠ 0)
                      have q10 : (10 < n ∧ c10 = 86) := Classical.byContradiction fun q => h10 (I10.2 q)
                      refine Go.run (B := B_law) td_law 311 2 (pc' := 619) (L' := [.val (.long nib), .second, .val (.int xl), .val (.int xm), .val (.int xw), .val (.int n), .val (.int fw), .val (.int p), .val (.ref ar), .val (.ref sa), .val (.int z), .val (.int af), .unset, .unset]) (S' := [.int (1 : Int32)]) rfl ?_
                      refine Go.run (B := B_law) td_law 314 1 (pc' := 621) (L' := [.val (.long nib), .second, .val (.int xl), .val (.int xm), .val (.int xw), .val (.int n), .val (.int fw), .val (.int p), .val (.ref ar), .val (.ref sa), .val (.int z), .val (.int af), .val (.int (1 : Int32)), .unset]) (S' := []) rfl ?_
                      exact t4 K hlen hs (Iff.trans (or_congr Iff.rfl (and_congr Iff.rfl (sT (Or.inr (Or.inr (Or.inr (Or.inr (Or.inr (Or.inr (Or.inr (Or.inr (Or.inr (Or.inl q10))))))))))).symm)) hh)
                    · intro (h10 : ¬ (k10 ≠ 0))
                      have q10 : ¬ (10 < n ∧ c10 = 86) := fun q => h10 (by rw [I10.1 q]; decide)
                      refine Go.run (B := B_law) td_law 306 3 (pc' := 608) (L' := [.val (.long nib), .second, .val (.int xl), .val (.int xm), .val (.int xw), .val (.int n), .val (.int fw), .val (.int p), .val (.ref ar), .val (.ref sa), .val (.int z), .val (.int af), .unset, .unset]) (S' := [.int n, .int (11 : Int32), .ref ar]) rfl ?_
                      refine Go.callS (B := B_law) td_law 309 (B' := B_vv) (argsL := [.ref ar, .int (11 : Int32), .int n]) (rest := []) (W := 0) rfl (vv_met K (own_inB 12 rfl (by decide)) rfl (Or.inl (List.mem_of_getElem? (i := 0) rfl))) (w_64 K) (w_65 K) (w_4 K) (w_66 K) (by decide) pd_vv rfl rfl rfl rfl (Nat.le_of_eq rfl) (by decide) (by decide) (by decide) (by decide) ?_
                      rintro _ _ _ ⟨k11, rfl, I11, rfl, rfl⟩
                      show Go A B_law D _ 611 [.val (.long nib), .second, .val (.int xl), .val (.int xm), .val (.int xw), .val (.int n), .val (.int fw), .val (.int p), .val (.ref ar), .val (.ref sa), .val (.int z), .val (.int af), .unset, .unset] [.int k11] [(ar, ArrP A .char [.int c0, .int c1, .int c2, .int c3, .int c4, .int c5, .int c6, .int c7, .int c8, .int c9, .int c10, .int c11])] G 11 808
                      refine Go.if0 (B := B_law) td_law 310 (pc' := 618) rfl (by decide) rfl ?_ ?_
                      · intro (h11 : k11 = 0)
                        have q11 : ¬ (11 < n ∧ c11 = 86) := fun q => by rw [I11.1 q] at h11; exact absurd h11 (by decide)
                        refine Go.run (B := B_law) td_law 313 2 (pc' := 621) (L' := [.val (.long nib), .second, .val (.int xl), .val (.int xm), .val (.int xw), .val (.int n), .val (.int fw), .val (.int p), .val (.ref ar), .val (.ref sa), .val (.int z), .val (.int af), .val (.int (0 : Int32)), .unset]) (S' := []) rfl ?_
                        exact t4 K hlen hs (Iff.trans (or_congr Iff.rfl (and_congr Iff.rfl (sF (fun q => q.elim q1 fun q => q.elim q2 fun q => q.elim q3 fun q => q.elim q4 fun q => q.elim q5 fun q => q.elim q6 fun q => q.elim q7 fun q => q.elim q8 fun q => q.elim q9 fun q => q.elim q10 fun q => q11 q)).symm)) hh)
                      · intro (h11 : ¬ (k11 = 0))
                        have q11 : (11 < n ∧ c11 = 86) := Classical.byContradiction fun q => h11 (I11.2 q)
                        refine Go.run (B := B_law) td_law 311 2 (pc' := 619) (L' := [.val (.long nib), .second, .val (.int xl), .val (.int xm), .val (.int xw), .val (.int n), .val (.int fw), .val (.int p), .val (.ref ar), .val (.ref sa), .val (.int z), .val (.int af), .unset, .unset]) (S' := [.int (1 : Int32)]) rfl ?_
                        refine Go.run (B := B_law) td_law 314 1 (pc' := 621) (L' := [.val (.long nib), .second, .val (.int xl), .val (.int xm), .val (.int xw), .val (.int n), .val (.int fw), .val (.int p), .val (.ref ar), .val (.ref sa), .val (.int z), .val (.int af), .val (.int (1 : Int32)), .unset]) (S' := []) rfl ?_
                        exact t4 K hlen hs (Iff.trans (or_congr Iff.rfl (and_congr Iff.rfl (sT (Or.inr (Or.inr (Or.inr (Or.inr (Or.inr (Or.inr (Or.inr (Or.inr (Or.inr (Or.inr (q11)))))))))))).symm)) hh)
set_option maxRecDepth 65536 in
set_option maxHeartbeats 4000000 in
theorem t2 {A : Ax} (K : Wd A) {D : Dx} {nib : Int64} {xl xm xw n fw p c0 c1 c2 c3 c4 c5 c6 c7 c8 c9 c10 c11 z : Int32} {ar sa : Addr} {G : List Ent} {cs : List Int32} (hlen : 2 * cs.length < 2 ^ 31) (hs : StrL A G sa cs) (hh : (z ≠ 0 ∨ ((1 < n ∧ c0 = 45 ∧ (1 ≥ n ∨ c1 = 104 ∨ c1 = 86) ∧ (2 ≥ n ∨ c2 = 104 ∨ c2 = 86) ∧ (3 ≥ n ∨ c3 = 104 ∨ c3 = 86) ∧ (4 ≥ n ∨ c4 = 104 ∨ c4 = 86) ∧ (5 ≥ n ∨ c5 = 104 ∨ c5 = 86) ∧ (6 ≥ n ∨ c6 = 104 ∨ c6 = 86) ∧ (7 ≥ n ∨ c7 = 104 ∨ c7 = 86) ∧ (8 ≥ n ∨ c8 = 104 ∨ c8 = 86) ∧ (9 ≥ n ∨ c9 = 104 ∨ c9 = 86) ∧ (10 ≥ n ∨ c10 = 104 ∨ c10 = 86) ∧ (11 ≥ n ∨ c11 = 104 ∨ c11 = 86)) ∧ ((1 < n ∧ c1 = 86) ∨ (2 < n ∧ c2 = 86) ∨ (3 < n ∧ c3 = 86) ∨ (4 < n ∧ c4 = 86) ∨ (5 < n ∧ c5 = 86) ∨ (6 < n ∧ c6 = 86) ∨ (7 < n ∧ c7 = 86) ∨ (8 < n ∧ c8 = 86) ∨ (9 < n ∧ c9 = 86) ∨ (10 < n ∧ c10 = 86) ∨ (11 < n ∧ c11 = 86)))) ↔ (cs = [45, 45, 118, 101, 114, 115, 105, 111, 110] ∨ (Short cs ∧ 86 ∈ cs.tail))) : Go A B_law D (fun v _ _ => v = some (.int 1)) 338 [.val (.long nib), .second, .val (.int xl), .val (.int xm), .val (.int xw), .val (.int n), .val (.int fw), .val (.int p), .val (.ref ar), .val (.ref sa), .val (.int z), .unset, .unset, .unset] [] [(ar, ArrP A .char [.int c0, .int c1, .int c2, .int c3, .int c4, .int c5, .int c6, .int c7, .int c8, .int c9, .int c10, .int c11])] G 11 808 := by
  refine Go.run (B := B_law) td_law 189 2 (pc' := 341) (L' := [.val (.long nib), .second, .val (.int xl), .val (.int xm), .val (.int xw), .val (.int n), .val (.int fw), .val (.int p), .val (.ref ar), .val (.ref sa), .val (.int z), .unset, .unset, .unset]) (S' := [.int (1 : Int32), .int n]) rfl ?_
  refine Go.icmp (B := B_law) td_law 191 (pc' := 484) rfl (by decide) rfl ?_ ?_
  · intro (h1n : n ≤ (1 : Int32))
    refine Go.run (B := B_law) td_law 254 2 (pc' := 487) (L' := [.val (.long nib), .second, .val (.int xl), .val (.int xm), .val (.int xw), .val (.int n), .val (.int fw), .val (.int p), .val (.ref ar), .val (.ref sa), .val (.int z), .val (.int (0 : Int32)), .unset, .unset]) (S' := []) rfl ?_
    exact t3 K hlen hs (Iff.trans (or_congr Iff.rfl (and_congr (sF (fun q => absurd h1n (Int32.not_le.mpr q.1))).symm Iff.rfl)) hh)
  · intro (h1n : ¬ (n ≤ (1 : Int32)))
    have hn1 : 1 < n := Int32.not_le.mp h1n
    refine Go.run (B := B_law) td_law 192 2 (pc' := 347) (L' := [.val (.long nib), .second, .val (.int xl), .val (.int xm), .val (.int xw), .val (.int n), .val (.int fw), .val (.int p), .val (.ref ar), .val (.ref sa), .val (.int z), .unset, .unset, .unset]) (S' := [.int (0 : Int32), .ref ar]) rfl ?_
    refine Go.caload (B := B_law) td_law 194 (v := .int c0) rfl (Or.inl (List.mem_of_getElem? (i := 0) rfl)) (own_inB 12 rfl (by decide)) rfl ?_
    refine Go.run (B := B_law) td_law 195 1 (pc' := 350) (L' := [.val (.long nib), .second, .val (.int xl), .val (.int xm), .val (.int xw), .val (.int n), .val (.int fw), .val (.int p), .val (.ref ar), .val (.ref sa), .val (.int z), .unset, .unset, .unset]) (S' := [.int (45 : Int32), .int c0]) rfl ?_
    refine Go.icmp (B := B_law) td_law 196 (pc' := 484) rfl (by decide) rfl ?_ ?_
    · intro (h0 : c0 ≠ (45 : Int32))
      refine Go.run (B := B_law) td_law 254 2 (pc' := 487) (L' := [.val (.long nib), .second, .val (.int xl), .val (.int xm), .val (.int xw), .val (.int n), .val (.int fw), .val (.int p), .val (.ref ar), .val (.ref sa), .val (.int z), .val (.int (0 : Int32)), .unset, .unset]) (S' := []) rfl ?_
      exact t3 K hlen hs (Iff.trans (or_congr Iff.rfl (and_congr (sF (fun q => h0 q.2.1)).symm Iff.rfl)) hh)
    · intro (h0 : ¬ (c0 ≠ (45 : Int32)))
      have h0e : c0 = 45 := Decidable.not_not.mp h0
      refine Go.run (B := B_law) td_law 197 3 (pc' := 358) (L' := [.val (.long nib), .second, .val (.int xl), .val (.int xm), .val (.int xw), .val (.int n), .val (.int fw), .val (.int p), .val (.ref ar), .val (.ref sa), .val (.int z), .unset, .unset, .unset]) (S' := [.int n, .int (1 : Int32), .ref ar]) rfl ?_
      refine Go.callS (B := B_law) td_law 200 (B' := B_ff) (argsL := [.ref ar, .int (1 : Int32), .int n]) (rest := []) (W := 0) rfl (ff_met K (own_inB 12 rfl (by decide)) rfl (Or.inl (List.mem_of_getElem? (i := 0) rfl))) (w_96 K) (w_97 K) (w_4 K) (w_98 K) (by decide) pd_ff rfl rfl rfl rfl (Nat.le_of_eq rfl) (by decide) (by decide) (by decide) (by decide) ?_
      rintro _ _ _ ⟨k1, rfl, I1, rfl, rfl⟩
      show Go A B_law D _ 361 [.val (.long nib), .second, .val (.int xl), .val (.int xm), .val (.int xw), .val (.int n), .val (.int fw), .val (.int p), .val (.ref ar), .val (.ref sa), .val (.int z), .unset, .unset, .unset] [.int k1] [(ar, ArrP A .char [.int c0, .int c1, .int c2, .int c3, .int c4, .int c5, .int c6, .int c7, .int c8, .int c9, .int c10, .int c11])] G 11 808
      refine Go.if0 (B := B_law) td_law 201 (pc' := 484) rfl (by decide) rfl ?_ ?_
      · intro (h1 : k1 = 0)
        have q1 : ¬ (1 ≥ n ∨ c1 = 104 ∨ c1 = 86) := fun q => by rw [I1.1 q] at h1; exact absurd h1 (by decide)
        refine Go.run (B := B_law) td_law 254 2 (pc' := 487) (L' := [.val (.long nib), .second, .val (.int xl), .val (.int xm), .val (.int xw), .val (.int n), .val (.int fw), .val (.int p), .val (.ref ar), .val (.ref sa), .val (.int z), .val (.int (0 : Int32)), .unset, .unset]) (S' := []) rfl ?_
        exact t3 K hlen hs (Iff.trans (or_congr Iff.rfl (and_congr (sF (fun q => q1 q.2.2.1)).symm Iff.rfl)) hh)
      · intro (h1 : ¬ (k1 = 0))
        have q1 : (1 ≥ n ∨ c1 = 104 ∨ c1 = 86) := Classical.byContradiction fun q => h1 (I1.2 q)
        refine Go.run (B := B_law) td_law 202 3 (pc' := 369) (L' := [.val (.long nib), .second, .val (.int xl), .val (.int xm), .val (.int xw), .val (.int n), .val (.int fw), .val (.int p), .val (.ref ar), .val (.ref sa), .val (.int z), .unset, .unset, .unset]) (S' := [.int n, .int (2 : Int32), .ref ar]) rfl ?_
        refine Go.callS (B := B_law) td_law 205 (B' := B_ff) (argsL := [.ref ar, .int (2 : Int32), .int n]) (rest := []) (W := 0) rfl (ff_met K (own_inB 12 rfl (by decide)) rfl (Or.inl (List.mem_of_getElem? (i := 0) rfl))) (w_96 K) (w_97 K) (w_4 K) (w_98 K) (by decide) pd_ff rfl rfl rfl rfl (Nat.le_of_eq rfl) (by decide) (by decide) (by decide) (by decide) ?_
        rintro _ _ _ ⟨k2, rfl, I2, rfl, rfl⟩
        show Go A B_law D _ 372 [.val (.long nib), .second, .val (.int xl), .val (.int xm), .val (.int xw), .val (.int n), .val (.int fw), .val (.int p), .val (.ref ar), .val (.ref sa), .val (.int z), .unset, .unset, .unset] [.int k2] [(ar, ArrP A .char [.int c0, .int c1, .int c2, .int c3, .int c4, .int c5, .int c6, .int c7, .int c8, .int c9, .int c10, .int c11])] G 11 808
        refine Go.if0 (B := B_law) td_law 206 (pc' := 484) rfl (by decide) rfl ?_ ?_
        · intro (h2 : k2 = 0)
          have q2 : ¬ (2 ≥ n ∨ c2 = 104 ∨ c2 = 86) := fun q => by rw [I2.1 q] at h2; exact absurd h2 (by decide)
          refine Go.run (B := B_law) td_law 254 2 (pc' := 487) (L' := [.val (.long nib), .second, .val (.int xl), .val (.int xm), .val (.int xw), .val (.int n), .val (.int fw), .val (.int p), .val (.ref ar), .val (.ref sa), .val (.int z), .val (.int (0 : Int32)), .unset, .unset]) (S' := []) rfl ?_
          exact t3 K hlen hs (Iff.trans (or_congr Iff.rfl (and_congr (sF (fun q => q2 q.2.2.2.1)).symm Iff.rfl)) hh)
        · intro (h2 : ¬ (k2 = 0))
          have q2 : (2 ≥ n ∨ c2 = 104 ∨ c2 = 86) := Classical.byContradiction fun q => h2 (I2.2 q)
          refine Go.run (B := B_law) td_law 207 3 (pc' := 380) (L' := [.val (.long nib), .second, .val (.int xl), .val (.int xm), .val (.int xw), .val (.int n), .val (.int fw), .val (.int p), .val (.ref ar), .val (.ref sa), .val (.int z), .unset, .unset, .unset]) (S' := [.int n, .int (3 : Int32), .ref ar]) rfl ?_
          refine Go.callS (B := B_law) td_law 210 (B' := B_ff) (argsL := [.ref ar, .int (3 : Int32), .int n]) (rest := []) (W := 0) rfl (ff_met K (own_inB 12 rfl (by decide)) rfl (Or.inl (List.mem_of_getElem? (i := 0) rfl))) (w_96 K) (w_97 K) (w_4 K) (w_98 K) (by decide) pd_ff rfl rfl rfl rfl (Nat.le_of_eq rfl) (by decide) (by decide) (by decide) (by decide) ?_
          rintro _ _ _ ⟨k3, rfl, I3, rfl, rfl⟩
          show Go A B_law D _ 383 [.val (.long nib), .second, .val (.int xl), .val (.int xm), .val (.int xw), .val (.int n), .val (.int fw), .val (.int p), .val (.ref ar), .val (.ref sa), .val (.int z), .unset, .unset, .unset] [.int k3] [(ar, ArrP A .char [.int c0, .int c1, .int c2, .int c3, .int c4, .int c5, .int c6, .int c7, .int c8, .int c9, .int c10, .int c11])] G 11 808
          refine Go.if0 (B := B_law) td_law 211 (pc' := 484) rfl (by decide) rfl ?_ ?_
          · intro (h3 : k3 = 0)
            have q3 : ¬ (3 ≥ n ∨ c3 = 104 ∨ c3 = 86) := fun q => by rw [I3.1 q] at h3; exact absurd h3 (by decide)
            refine Go.run (B := B_law) td_law 254 2 (pc' := 487) (L' := [.val (.long nib), .second, .val (.int xl), .val (.int xm), .val (.int xw), .val (.int n), .val (.int fw), .val (.int p), .val (.ref ar), .val (.ref sa), .val (.int z), .val (.int (0 : Int32)), .unset, .unset]) (S' := []) rfl ?_
            exact t3 K hlen hs (Iff.trans (or_congr Iff.rfl (and_congr (sF (fun q => q3 q.2.2.2.2.1)).symm Iff.rfl)) hh)
          · intro (h3 : ¬ (k3 = 0))
            have q3 : (3 ≥ n ∨ c3 = 104 ∨ c3 = 86) := Classical.byContradiction fun q => h3 (I3.2 q)
            refine Go.run (B := B_law) td_law 212 3 (pc' := 391) (L' := [.val (.long nib), .second, .val (.int xl), .val (.int xm), .val (.int xw), .val (.int n), .val (.int fw), .val (.int p), .val (.ref ar), .val (.ref sa), .val (.int z), .unset, .unset, .unset]) (S' := [.int n, .int (4 : Int32), .ref ar]) rfl ?_
            refine Go.callS (B := B_law) td_law 215 (B' := B_ff) (argsL := [.ref ar, .int (4 : Int32), .int n]) (rest := []) (W := 0) rfl (ff_met K (own_inB 12 rfl (by decide)) rfl (Or.inl (List.mem_of_getElem? (i := 0) rfl))) (w_96 K) (w_97 K) (w_4 K) (w_98 K) (by decide) pd_ff rfl rfl rfl rfl (Nat.le_of_eq rfl) (by decide) (by decide) (by decide) (by decide) ?_
            rintro _ _ _ ⟨k4, rfl, I4, rfl, rfl⟩
            show Go A B_law D _ 394 [.val (.long nib), .second, .val (.int xl), .val (.int xm), .val (.int xw), .val (.int n), .val (.int fw), .val (.int p), .val (.ref ar), .val (.ref sa), .val (.int z), .unset, .unset, .unset] [.int k4] [(ar, ArrP A .char [.int c0, .int c1, .int c2, .int c3, .int c4, .int c5, .int c6, .int c7, .int c8, .int c9, .int c10, .int c11])] G 11 808
            refine Go.if0 (B := B_law) td_law 216 (pc' := 484) rfl (by decide) rfl ?_ ?_
            · intro (h4 : k4 = 0)
              have q4 : ¬ (4 ≥ n ∨ c4 = 104 ∨ c4 = 86) := fun q => by rw [I4.1 q] at h4; exact absurd h4 (by decide)
              refine Go.run (B := B_law) td_law 254 2 (pc' := 487) (L' := [.val (.long nib), .second, .val (.int xl), .val (.int xm), .val (.int xw), .val (.int n), .val (.int fw), .val (.int p), .val (.ref ar), .val (.ref sa), .val (.int z), .val (.int (0 : Int32)), .unset, .unset]) (S' := []) rfl ?_
              exact t3 K hlen hs (Iff.trans (or_congr Iff.rfl (and_congr (sF (fun q => q4 q.2.2.2.2.2.1)).symm Iff.rfl)) hh)
            · intro (h4 : ¬ (k4 = 0))
              have q4 : (4 ≥ n ∨ c4 = 104 ∨ c4 = 86) := Classical.byContradiction fun q => h4 (I4.2 q)
              refine Go.run (B := B_law) td_law 217 3 (pc' := 402) (L' := [.val (.long nib), .second, .val (.int xl), .val (.int xm), .val (.int xw), .val (.int n), .val (.int fw), .val (.int p), .val (.ref ar), .val (.ref sa), .val (.int z), .unset, .unset, .unset]) (S' := [.int n, .int (5 : Int32), .ref ar]) rfl ?_
              refine Go.callS (B := B_law) td_law 220 (B' := B_ff) (argsL := [.ref ar, .int (5 : Int32), .int n]) (rest := []) (W := 0) rfl (ff_met K (own_inB 12 rfl (by decide)) rfl (Or.inl (List.mem_of_getElem? (i := 0) rfl))) (w_96 K) (w_97 K) (w_4 K) (w_98 K) (by decide) pd_ff rfl rfl rfl rfl (Nat.le_of_eq rfl) (by decide) (by decide) (by decide) (by decide) ?_
              rintro _ _ _ ⟨k5, rfl, I5, rfl, rfl⟩
              show Go A B_law D _ 405 [.val (.long nib), .second, .val (.int xl), .val (.int xm), .val (.int xw), .val (.int n), .val (.int fw), .val (.int p), .val (.ref ar), .val (.ref sa), .val (.int z), .unset, .unset, .unset] [.int k5] [(ar, ArrP A .char [.int c0, .int c1, .int c2, .int c3, .int c4, .int c5, .int c6, .int c7, .int c8, .int c9, .int c10, .int c11])] G 11 808
              refine Go.if0 (B := B_law) td_law 221 (pc' := 484) rfl (by decide) rfl ?_ ?_
              · intro (h5 : k5 = 0)
                have q5 : ¬ (5 ≥ n ∨ c5 = 104 ∨ c5 = 86) := fun q => by rw [I5.1 q] at h5; exact absurd h5 (by decide)
                refine Go.run (B := B_law) td_law 254 2 (pc' := 487) (L' := [.val (.long nib), .second, .val (.int xl), .val (.int xm), .val (.int xw), .val (.int n), .val (.int fw), .val (.int p), .val (.ref ar), .val (.ref sa), .val (.int z), .val (.int (0 : Int32)), .unset, .unset]) (S' := []) rfl ?_
                exact t3 K hlen hs (Iff.trans (or_congr Iff.rfl (and_congr (sF (fun q => q5 q.2.2.2.2.2.2.1)).symm Iff.rfl)) hh)
              · intro (h5 : ¬ (k5 = 0))
                have q5 : (5 ≥ n ∨ c5 = 104 ∨ c5 = 86) := Classical.byContradiction fun q => h5 (I5.2 q)
                refine Go.run (B := B_law) td_law 222 3 (pc' := 414) (L' := [.val (.long nib), .second, .val (.int xl), .val (.int xm), .val (.int xw), .val (.int n), .val (.int fw), .val (.int p), .val (.ref ar), .val (.ref sa), .val (.int z), .unset, .unset, .unset]) (S' := [.int n, .int (6 : Int32), .ref ar]) rfl ?_
                refine Go.callS (B := B_law) td_law 225 (B' := B_ff) (argsL := [.ref ar, .int (6 : Int32), .int n]) (rest := []) (W := 0) rfl (ff_met K (own_inB 12 rfl (by decide)) rfl (Or.inl (List.mem_of_getElem? (i := 0) rfl))) (w_96 K) (w_97 K) (w_4 K) (w_98 K) (by decide) pd_ff rfl rfl rfl rfl (Nat.le_of_eq rfl) (by decide) (by decide) (by decide) (by decide) ?_
                rintro _ _ _ ⟨k6, rfl, I6, rfl, rfl⟩
                show Go A B_law D _ 417 [.val (.long nib), .second, .val (.int xl), .val (.int xm), .val (.int xw), .val (.int n), .val (.int fw), .val (.int p), .val (.ref ar), .val (.ref sa), .val (.int z), .unset, .unset, .unset] [.int k6] [(ar, ArrP A .char [.int c0, .int c1, .int c2, .int c3, .int c4, .int c5, .int c6, .int c7, .int c8, .int c9, .int c10, .int c11])] G 11 808
                refine Go.if0 (B := B_law) td_law 226 (pc' := 484) rfl (by decide) rfl ?_ ?_
                · intro (h6 : k6 = 0)
                  have q6 : ¬ (6 ≥ n ∨ c6 = 104 ∨ c6 = 86) := fun q => by rw [I6.1 q] at h6; exact absurd h6 (by decide)
                  refine Go.run (B := B_law) td_law 254 2 (pc' := 487) (L' := [.val (.long nib), .second, .val (.int xl), .val (.int xm), .val (.int xw), .val (.int n), .val (.int fw), .val (.int p), .val (.ref ar), .val (.ref sa), .val (.int z), .val (.int (0 : Int32)), .unset, .unset]) (S' := []) rfl ?_
                  exact t3 K hlen hs (Iff.trans (or_congr Iff.rfl (and_congr (sF (fun q => q6 q.2.2.2.2.2.2.2.1)).symm Iff.rfl)) hh)
                · intro (h6 : ¬ (k6 = 0))
                  have q6 : (6 ≥ n ∨ c6 = 104 ∨ c6 = 86) := Classical.byContradiction fun q => h6 (I6.2 q)
                  refine Go.run (B := B_law) td_law 227 3 (pc' := 426) (L' := [.val (.long nib), .second, .val (.int xl), .val (.int xm), .val (.int xw), .val (.int n), .val (.int fw), .val (.int p), .val (.ref ar), .val (.ref sa), .val (.int z), .unset, .unset, .unset]) (S' := [.int n, .int (7 : Int32), .ref ar]) rfl ?_
                  refine Go.callS (B := B_law) td_law 230 (B' := B_ff) (argsL := [.ref ar, .int (7 : Int32), .int n]) (rest := []) (W := 0) rfl (ff_met K (own_inB 12 rfl (by decide)) rfl (Or.inl (List.mem_of_getElem? (i := 0) rfl))) (w_96 K) (w_97 K) (w_4 K) (w_98 K) (by decide) pd_ff rfl rfl rfl rfl (Nat.le_of_eq rfl) (by decide) (by decide) (by decide) (by decide) ?_
                  rintro _ _ _ ⟨k7, rfl, I7, rfl, rfl⟩
                  show Go A B_law D _ 429 [.val (.long nib), .second, .val (.int xl), .val (.int xm), .val (.int xw), .val (.int n), .val (.int fw), .val (.int p), .val (.ref ar), .val (.ref sa), .val (.int z), .unset, .unset, .unset] [.int k7] [(ar, ArrP A .char [.int c0, .int c1, .int c2, .int c3, .int c4, .int c5, .int c6, .int c7, .int c8, .int c9, .int c10, .int c11])] G 11 808
                  refine Go.if0 (B := B_law) td_law 231 (pc' := 484) rfl (by decide) rfl ?_ ?_
                  · intro (h7 : k7 = 0)
                    have q7 : ¬ (7 ≥ n ∨ c7 = 104 ∨ c7 = 86) := fun q => by rw [I7.1 q] at h7; exact absurd h7 (by decide)
                    refine Go.run (B := B_law) td_law 254 2 (pc' := 487) (L' := [.val (.long nib), .second, .val (.int xl), .val (.int xm), .val (.int xw), .val (.int n), .val (.int fw), .val (.int p), .val (.ref ar), .val (.ref sa), .val (.int z), .val (.int (0 : Int32)), .unset, .unset]) (S' := []) rfl ?_
                    exact t3 K hlen hs (Iff.trans (or_congr Iff.rfl (and_congr (sF (fun q => q7 q.2.2.2.2.2.2.2.2.1)).symm Iff.rfl)) hh)
                  · intro (h7 : ¬ (k7 = 0))
                    have q7 : (7 ≥ n ∨ c7 = 104 ∨ c7 = 86) := Classical.byContradiction fun q => h7 (I7.2 q)
                    refine Go.run (B := B_law) td_law 232 3 (pc' := 438) (L' := [.val (.long nib), .second, .val (.int xl), .val (.int xm), .val (.int xw), .val (.int n), .val (.int fw), .val (.int p), .val (.ref ar), .val (.ref sa), .val (.int z), .unset, .unset, .unset]) (S' := [.int n, .int (8 : Int32), .ref ar]) rfl ?_
                    refine Go.callS (B := B_law) td_law 235 (B' := B_ff) (argsL := [.ref ar, .int (8 : Int32), .int n]) (rest := []) (W := 0) rfl (ff_met K (own_inB 12 rfl (by decide)) rfl (Or.inl (List.mem_of_getElem? (i := 0) rfl))) (w_96 K) (w_97 K) (w_4 K) (w_98 K) (by decide) pd_ff rfl rfl rfl rfl (Nat.le_of_eq rfl) (by decide) (by decide) (by decide) (by decide) ?_
                    rintro _ _ _ ⟨k8, rfl, I8, rfl, rfl⟩
                    show Go A B_law D _ 441 [.val (.long nib), .second, .val (.int xl), .val (.int xm), .val (.int xw), .val (.int n), .val (.int fw), .val (.int p), .val (.ref ar), .val (.ref sa), .val (.int z), .unset, .unset, .unset] [.int k8] [(ar, ArrP A .char [.int c0, .int c1, .int c2, .int c3, .int c4, .int c5, .int c6, .int c7, .int c8, .int c9, .int c10, .int c11])] G 11 808
                    refine Go.if0 (B := B_law) td_law 236 (pc' := 484) rfl (by decide) rfl ?_ ?_
                    · intro (h8 : k8 = 0)
                      have q8 : ¬ (8 ≥ n ∨ c8 = 104 ∨ c8 = 86) := fun q => by rw [I8.1 q] at h8; exact absurd h8 (by decide)
                      refine Go.run (B := B_law) td_law 254 2 (pc' := 487) (L' := [.val (.long nib), .second, .val (.int xl), .val (.int xm), .val (.int xw), .val (.int n), .val (.int fw), .val (.int p), .val (.ref ar), .val (.ref sa), .val (.int z), .val (.int (0 : Int32)), .unset, .unset]) (S' := []) rfl ?_
                      exact t3 K hlen hs (Iff.trans (or_congr Iff.rfl (and_congr (sF (fun q => q8 q.2.2.2.2.2.2.2.2.2.1)).symm Iff.rfl)) hh)
                    · intro (h8 : ¬ (k8 = 0))
                      have q8 : (8 ≥ n ∨ c8 = 104 ∨ c8 = 86) := Classical.byContradiction fun q => h8 (I8.2 q)
                      refine Go.run (B := B_law) td_law 237 3 (pc' := 450) (L' := [.val (.long nib), .second, .val (.int xl), .val (.int xm), .val (.int xw), .val (.int n), .val (.int fw), .val (.int p), .val (.ref ar), .val (.ref sa), .val (.int z), .unset, .unset, .unset]) (S' := [.int n, .int (9 : Int32), .ref ar]) rfl ?_
                      refine Go.callS (B := B_law) td_law 240 (B' := B_ff) (argsL := [.ref ar, .int (9 : Int32), .int n]) (rest := []) (W := 0) rfl (ff_met K (own_inB 12 rfl (by decide)) rfl (Or.inl (List.mem_of_getElem? (i := 0) rfl))) (w_96 K) (w_97 K) (w_4 K) (w_98 K) (by decide) pd_ff rfl rfl rfl rfl (Nat.le_of_eq rfl) (by decide) (by decide) (by decide) (by decide) ?_
                      rintro _ _ _ ⟨k9, rfl, I9, rfl, rfl⟩
                      show Go A B_law D _ 453 [.val (.long nib), .second, .val (.int xl), .val (.int xm), .val (.int xw), .val (.int n), .val (.int fw), .val (.int p), .val (.ref ar), .val (.ref sa), .val (.int z), .unset, .unset, .unset] [.int k9] [(ar, ArrP A .char [.int c0, .int c1, .int c2, .int c3, .int c4, .int c5, .int c6, .int c7, .int c8, .int c9, .int c10, .int c11])] G 11 808
                      refine Go.if0 (B := B_law) td_law 241 (pc' := 484) rfl (by decide) rfl ?_ ?_
                      · intro (h9 : k9 = 0)
                        have q9 : ¬ (9 ≥ n ∨ c9 = 104 ∨ c9 = 86) := fun q => by rw [I9.1 q] at h9; exact absurd h9 (by decide)
                        refine Go.run (B := B_law) td_law 254 2 (pc' := 487) (L' := [.val (.long nib), .second, .val (.int xl), .val (.int xm), .val (.int xw), .val (.int n), .val (.int fw), .val (.int p), .val (.ref ar), .val (.ref sa), .val (.int z), .val (.int (0 : Int32)), .unset, .unset]) (S' := []) rfl ?_
                        exact t3 K hlen hs (Iff.trans (or_congr Iff.rfl (and_congr (sF (fun q => q9 q.2.2.2.2.2.2.2.2.2.2.1)).symm Iff.rfl)) hh)
                      · intro (h9 : ¬ (k9 = 0))
                        have q9 : (9 ≥ n ∨ c9 = 104 ∨ c9 = 86) := Classical.byContradiction fun q => h9 (I9.2 q)
                        refine Go.run (B := B_law) td_law 242 3 (pc' := 462) (L' := [.val (.long nib), .second, .val (.int xl), .val (.int xm), .val (.int xw), .val (.int n), .val (.int fw), .val (.int p), .val (.ref ar), .val (.ref sa), .val (.int z), .unset, .unset, .unset]) (S' := [.int n, .int (10 : Int32), .ref ar]) rfl ?_
                        refine Go.callS (B := B_law) td_law 245 (B' := B_ff) (argsL := [.ref ar, .int (10 : Int32), .int n]) (rest := []) (W := 0) rfl (ff_met K (own_inB 12 rfl (by decide)) rfl (Or.inl (List.mem_of_getElem? (i := 0) rfl))) (w_96 K) (w_97 K) (w_4 K) (w_98 K) (by decide) pd_ff rfl rfl rfl rfl (Nat.le_of_eq rfl) (by decide) (by decide) (by decide) (by decide) ?_
                        rintro _ _ _ ⟨k10, rfl, I10, rfl, rfl⟩
                        show Go A B_law D _ 465 [.val (.long nib), .second, .val (.int xl), .val (.int xm), .val (.int xw), .val (.int n), .val (.int fw), .val (.int p), .val (.ref ar), .val (.ref sa), .val (.int z), .unset, .unset, .unset] [.int k10] [(ar, ArrP A .char [.int c0, .int c1, .int c2, .int c3, .int c4, .int c5, .int c6, .int c7, .int c8, .int c9, .int c10, .int c11])] G 11 808
                        refine Go.if0 (B := B_law) td_law 246 (pc' := 484) rfl (by decide) rfl ?_ ?_
                        · intro (h10 : k10 = 0)
                          have q10 : ¬ (10 ≥ n ∨ c10 = 104 ∨ c10 = 86) := fun q => by rw [I10.1 q] at h10; exact absurd h10 (by decide)
                          refine Go.run (B := B_law) td_law 254 2 (pc' := 487) (L' := [.val (.long nib), .second, .val (.int xl), .val (.int xm), .val (.int xw), .val (.int n), .val (.int fw), .val (.int p), .val (.ref ar), .val (.ref sa), .val (.int z), .val (.int (0 : Int32)), .unset, .unset]) (S' := []) rfl ?_
                          exact t3 K hlen hs (Iff.trans (or_congr Iff.rfl (and_congr (sF (fun q => q10 q.2.2.2.2.2.2.2.2.2.2.2.1)).symm Iff.rfl)) hh)
                        · intro (h10 : ¬ (k10 = 0))
                          have q10 : (10 ≥ n ∨ c10 = 104 ∨ c10 = 86) := Classical.byContradiction fun q => h10 (I10.2 q)
                          refine Go.run (B := B_law) td_law 247 3 (pc' := 474) (L' := [.val (.long nib), .second, .val (.int xl), .val (.int xm), .val (.int xw), .val (.int n), .val (.int fw), .val (.int p), .val (.ref ar), .val (.ref sa), .val (.int z), .unset, .unset, .unset]) (S' := [.int n, .int (11 : Int32), .ref ar]) rfl ?_
                          refine Go.callS (B := B_law) td_law 250 (B' := B_ff) (argsL := [.ref ar, .int (11 : Int32), .int n]) (rest := []) (W := 0) rfl (ff_met K (own_inB 12 rfl (by decide)) rfl (Or.inl (List.mem_of_getElem? (i := 0) rfl))) (w_96 K) (w_97 K) (w_4 K) (w_98 K) (by decide) pd_ff rfl rfl rfl rfl (Nat.le_of_eq rfl) (by decide) (by decide) (by decide) (by decide) ?_
                          rintro _ _ _ ⟨k11, rfl, I11, rfl, rfl⟩
                          show Go A B_law D _ 477 [.val (.long nib), .second, .val (.int xl), .val (.int xm), .val (.int xw), .val (.int n), .val (.int fw), .val (.int p), .val (.ref ar), .val (.ref sa), .val (.int z), .unset, .unset, .unset] [.int k11] [(ar, ArrP A .char [.int c0, .int c1, .int c2, .int c3, .int c4, .int c5, .int c6, .int c7, .int c8, .int c9, .int c10, .int c11])] G 11 808
                          refine Go.if0 (B := B_law) td_law 251 (pc' := 484) rfl (by decide) rfl ?_ ?_
                          · intro (h11 : k11 = 0)
                            have q11 : ¬ (11 ≥ n ∨ c11 = 104 ∨ c11 = 86) := fun q => by rw [I11.1 q] at h11; exact absurd h11 (by decide)
                            refine Go.run (B := B_law) td_law 254 2 (pc' := 487) (L' := [.val (.long nib), .second, .val (.int xl), .val (.int xm), .val (.int xw), .val (.int n), .val (.int fw), .val (.int p), .val (.ref ar), .val (.ref sa), .val (.int z), .val (.int (0 : Int32)), .unset, .unset]) (S' := []) rfl ?_
                            exact t3 K hlen hs (Iff.trans (or_congr Iff.rfl (and_congr (sF (fun q => q11 q.2.2.2.2.2.2.2.2.2.2.2.2)).symm Iff.rfl)) hh)
                          · intro (h11 : ¬ (k11 = 0))
                            have q11 : (11 ≥ n ∨ c11 = 104 ∨ c11 = 86) := Classical.byContradiction fun q => h11 (I11.2 q)
                            refine Go.run (B := B_law) td_law 252 2 (pc' := 485) (L' := [.val (.long nib), .second, .val (.int xl), .val (.int xm), .val (.int xw), .val (.int n), .val (.int fw), .val (.int p), .val (.ref ar), .val (.ref sa), .val (.int z), .unset, .unset, .unset]) (S' := [.int (1 : Int32)]) rfl ?_
                            refine Go.run (B := B_law) td_law 255 1 (pc' := 487) (L' := [.val (.long nib), .second, .val (.int xl), .val (.int xm), .val (.int xw), .val (.int n), .val (.int fw), .val (.int p), .val (.ref ar), .val (.ref sa), .val (.int z), .val (.int (1 : Int32)), .unset, .unset]) (S' := []) rfl ?_
                            exact t3 K hlen hs (Iff.trans (or_congr Iff.rfl (and_congr (sT ⟨hn1, h0e, q1, q2, q3, q4, q5, q6, q7, q8, q9, q10, q11⟩).symm Iff.rfl)) hh)
set_option maxRecDepth 65536 in
set_option maxHeartbeats 4000000 in
theorem t1 {A : Ax} (K : Wd A) {D : Dx} {nib : Int64} {xl xm xw n fw p c0 c1 c2 c3 c4 c5 c6 c7 c8 c9 c10 c11 : Int32} {ar sa : Addr} {G : List Ent} {cs : List Int32} (hlen : 2 * cs.length < 2 ^ 31) (hs : StrL A G sa cs) (hh : ((n = 9 ∧ c0 = 45 ∧ c1 = 45 ∧ c2 = 118 ∧ c3 = 101 ∧ c4 = 114 ∧ c5 = 115 ∧ c6 = 105 ∧ c7 = 111 ∧ c8 = 110) ∨ ((1 < n ∧ c0 = 45 ∧ (1 ≥ n ∨ c1 = 104 ∨ c1 = 86) ∧ (2 ≥ n ∨ c2 = 104 ∨ c2 = 86) ∧ (3 ≥ n ∨ c3 = 104 ∨ c3 = 86) ∧ (4 ≥ n ∨ c4 = 104 ∨ c4 = 86) ∧ (5 ≥ n ∨ c5 = 104 ∨ c5 = 86) ∧ (6 ≥ n ∨ c6 = 104 ∨ c6 = 86) ∧ (7 ≥ n ∨ c7 = 104 ∨ c7 = 86) ∧ (8 ≥ n ∨ c8 = 104 ∨ c8 = 86) ∧ (9 ≥ n ∨ c9 = 104 ∨ c9 = 86) ∧ (10 ≥ n ∨ c10 = 104 ∨ c10 = 86) ∧ (11 ≥ n ∨ c11 = 104 ∨ c11 = 86)) ∧ ((1 < n ∧ c1 = 86) ∨ (2 < n ∧ c2 = 86) ∨ (3 < n ∧ c3 = 86) ∨ (4 < n ∧ c4 = 86) ∨ (5 < n ∧ c5 = 86) ∨ (6 < n ∧ c6 = 86) ∨ (7 < n ∧ c7 = 86) ∨ (8 < n ∧ c8 = 86) ∨ (9 < n ∧ c9 = 86) ∨ (10 < n ∧ c10 = 86) ∨ (11 < n ∧ c11 = 86)))) ↔ (cs = [45, 45, 118, 101, 114, 115, 105, 111, 110] ∨ (Short cs ∧ 86 ∈ cs.tail))) : Go A B_law D (fun v _ _ => v = some (.int 1)) 240 [.val (.long nib), .second, .val (.int xl), .val (.int xm), .val (.int xw), .val (.int n), .val (.int fw), .val (.int p), .val (.ref ar), .val (.ref sa), .unset, .unset, .unset, .unset] [] [(ar, ArrP A .char [.int c0, .int c1, .int c2, .int c3, .int c4, .int c5, .int c6, .int c7, .int c8, .int c9, .int c10, .int c11])] G 11 808 := by
  refine Go.run (B := B_law) td_law 137 2 (pc' := 244) (L' := [.val (.long nib), .second, .val (.int xl), .val (.int xm), .val (.int xw), .val (.int n), .val (.int fw), .val (.int p), .val (.ref ar), .val (.ref sa), .unset, .unset, .unset, .unset]) (S' := [.int (9 : Int32), .int n]) rfl ?_
  refine Go.icmp (B := B_law) td_law 139 (pc' := 335) rfl (by decide) rfl ?_ ?_
  · intro (h0 : n ≠ (9 : Int32))
    refine Go.run (B := B_law) td_law 187 2 (pc' := 338) (L' := [.val (.long nib), .second, .val (.int xl), .val (.int xm), .val (.int xw), .val (.int n), .val (.int fw), .val (.int p), .val (.ref ar), .val (.ref sa), .val (.int (0 : Int32)), .unset, .unset, .unset]) (S' := []) rfl ?_
    exact t2 K hlen hs (Iff.trans (or_congr (sF (fun q => h0 q.1)).symm Iff.rfl) hh)
  · intro (h0 : ¬ (n ≠ (9 : Int32)))
    have q0 := Decidable.not_not.mp h0
    refine Go.run (B := B_law) td_law 140 2 (pc' := 250) (L' := [.val (.long nib), .second, .val (.int xl), .val (.int xm), .val (.int xw), .val (.int n), .val (.int fw), .val (.int p), .val (.ref ar), .val (.ref sa), .unset, .unset, .unset, .unset]) (S' := [.int (0 : Int32), .ref ar]) rfl ?_
    refine Go.caload (B := B_law) td_law 142 (v := .int c0) rfl (Or.inl (List.mem_of_getElem? (i := 0) rfl)) (own_inB 12 rfl (by decide)) rfl ?_
    refine Go.run (B := B_law) td_law 143 1 (pc' := 253) (L' := [.val (.long nib), .second, .val (.int xl), .val (.int xm), .val (.int xw), .val (.int n), .val (.int fw), .val (.int p), .val (.ref ar), .val (.ref sa), .unset, .unset, .unset, .unset]) (S' := [.int (45 : Int32), .int c0]) rfl ?_
    refine Go.icmp (B := B_law) td_law 144 (pc' := 335) rfl (by decide) rfl ?_ ?_
    · intro (h1 : c0 ≠ (45 : Int32))
      refine Go.run (B := B_law) td_law 187 2 (pc' := 338) (L' := [.val (.long nib), .second, .val (.int xl), .val (.int xm), .val (.int xw), .val (.int n), .val (.int fw), .val (.int p), .val (.ref ar), .val (.ref sa), .val (.int (0 : Int32)), .unset, .unset, .unset]) (S' := []) rfl ?_
      exact t2 K hlen hs (Iff.trans (or_congr (sF (fun q => h1 q.2.1)).symm Iff.rfl) hh)
    · intro (h1 : ¬ (c0 ≠ (45 : Int32)))
      have q1 := Decidable.not_not.mp h1
      refine Go.run (B := B_law) td_law 145 2 (pc' := 259) (L' := [.val (.long nib), .second, .val (.int xl), .val (.int xm), .val (.int xw), .val (.int n), .val (.int fw), .val (.int p), .val (.ref ar), .val (.ref sa), .unset, .unset, .unset, .unset]) (S' := [.int (1 : Int32), .ref ar]) rfl ?_
      refine Go.caload (B := B_law) td_law 147 (v := .int c1) rfl (Or.inl (List.mem_of_getElem? (i := 0) rfl)) (own_inB 12 rfl (by decide)) rfl ?_
      refine Go.run (B := B_law) td_law 148 1 (pc' := 262) (L' := [.val (.long nib), .second, .val (.int xl), .val (.int xm), .val (.int xw), .val (.int n), .val (.int fw), .val (.int p), .val (.ref ar), .val (.ref sa), .unset, .unset, .unset, .unset]) (S' := [.int (45 : Int32), .int c1]) rfl ?_
      refine Go.icmp (B := B_law) td_law 149 (pc' := 335) rfl (by decide) rfl ?_ ?_
      · intro (h2 : c1 ≠ (45 : Int32))
        refine Go.run (B := B_law) td_law 187 2 (pc' := 338) (L' := [.val (.long nib), .second, .val (.int xl), .val (.int xm), .val (.int xw), .val (.int n), .val (.int fw), .val (.int p), .val (.ref ar), .val (.ref sa), .val (.int (0 : Int32)), .unset, .unset, .unset]) (S' := []) rfl ?_
        exact t2 K hlen hs (Iff.trans (or_congr (sF (fun q => h2 q.2.2.1)).symm Iff.rfl) hh)
      · intro (h2 : ¬ (c1 ≠ (45 : Int32)))
        have q2 := Decidable.not_not.mp h2
        refine Go.run (B := B_law) td_law 150 2 (pc' := 268) (L' := [.val (.long nib), .second, .val (.int xl), .val (.int xm), .val (.int xw), .val (.int n), .val (.int fw), .val (.int p), .val (.ref ar), .val (.ref sa), .unset, .unset, .unset, .unset]) (S' := [.int (2 : Int32), .ref ar]) rfl ?_
        refine Go.caload (B := B_law) td_law 152 (v := .int c2) rfl (Or.inl (List.mem_of_getElem? (i := 0) rfl)) (own_inB 12 rfl (by decide)) rfl ?_
        refine Go.run (B := B_law) td_law 153 1 (pc' := 271) (L' := [.val (.long nib), .second, .val (.int xl), .val (.int xm), .val (.int xw), .val (.int n), .val (.int fw), .val (.int p), .val (.ref ar), .val (.ref sa), .unset, .unset, .unset, .unset]) (S' := [.int (118 : Int32), .int c2]) rfl ?_
        refine Go.icmp (B := B_law) td_law 154 (pc' := 335) rfl (by decide) rfl ?_ ?_
        · intro (h3 : c2 ≠ (118 : Int32))
          refine Go.run (B := B_law) td_law 187 2 (pc' := 338) (L' := [.val (.long nib), .second, .val (.int xl), .val (.int xm), .val (.int xw), .val (.int n), .val (.int fw), .val (.int p), .val (.ref ar), .val (.ref sa), .val (.int (0 : Int32)), .unset, .unset, .unset]) (S' := []) rfl ?_
          exact t2 K hlen hs (Iff.trans (or_congr (sF (fun q => h3 q.2.2.2.1)).symm Iff.rfl) hh)
        · intro (h3 : ¬ (c2 ≠ (118 : Int32)))
          have q3 := Decidable.not_not.mp h3
          refine Go.run (B := B_law) td_law 155 2 (pc' := 277) (L' := [.val (.long nib), .second, .val (.int xl), .val (.int xm), .val (.int xw), .val (.int n), .val (.int fw), .val (.int p), .val (.ref ar), .val (.ref sa), .unset, .unset, .unset, .unset]) (S' := [.int (3 : Int32), .ref ar]) rfl ?_
          refine Go.caload (B := B_law) td_law 157 (v := .int c3) rfl (Or.inl (List.mem_of_getElem? (i := 0) rfl)) (own_inB 12 rfl (by decide)) rfl ?_
          refine Go.run (B := B_law) td_law 158 1 (pc' := 280) (L' := [.val (.long nib), .second, .val (.int xl), .val (.int xm), .val (.int xw), .val (.int n), .val (.int fw), .val (.int p), .val (.ref ar), .val (.ref sa), .unset, .unset, .unset, .unset]) (S' := [.int (101 : Int32), .int c3]) rfl ?_
          refine Go.icmp (B := B_law) td_law 159 (pc' := 335) rfl (by decide) rfl ?_ ?_
          · intro (h4 : c3 ≠ (101 : Int32))
            refine Go.run (B := B_law) td_law 187 2 (pc' := 338) (L' := [.val (.long nib), .second, .val (.int xl), .val (.int xm), .val (.int xw), .val (.int n), .val (.int fw), .val (.int p), .val (.ref ar), .val (.ref sa), .val (.int (0 : Int32)), .unset, .unset, .unset]) (S' := []) rfl ?_
            exact t2 K hlen hs (Iff.trans (or_congr (sF (fun q => h4 q.2.2.2.2.1)).symm Iff.rfl) hh)
          · intro (h4 : ¬ (c3 ≠ (101 : Int32)))
            have q4 := Decidable.not_not.mp h4
            refine Go.run (B := B_law) td_law 160 2 (pc' := 286) (L' := [.val (.long nib), .second, .val (.int xl), .val (.int xm), .val (.int xw), .val (.int n), .val (.int fw), .val (.int p), .val (.ref ar), .val (.ref sa), .unset, .unset, .unset, .unset]) (S' := [.int (4 : Int32), .ref ar]) rfl ?_
            refine Go.caload (B := B_law) td_law 162 (v := .int c4) rfl (Or.inl (List.mem_of_getElem? (i := 0) rfl)) (own_inB 12 rfl (by decide)) rfl ?_
            refine Go.run (B := B_law) td_law 163 1 (pc' := 289) (L' := [.val (.long nib), .second, .val (.int xl), .val (.int xm), .val (.int xw), .val (.int n), .val (.int fw), .val (.int p), .val (.ref ar), .val (.ref sa), .unset, .unset, .unset, .unset]) (S' := [.int (114 : Int32), .int c4]) rfl ?_
            refine Go.icmp (B := B_law) td_law 164 (pc' := 335) rfl (by decide) rfl ?_ ?_
            · intro (h5 : c4 ≠ (114 : Int32))
              refine Go.run (B := B_law) td_law 187 2 (pc' := 338) (L' := [.val (.long nib), .second, .val (.int xl), .val (.int xm), .val (.int xw), .val (.int n), .val (.int fw), .val (.int p), .val (.ref ar), .val (.ref sa), .val (.int (0 : Int32)), .unset, .unset, .unset]) (S' := []) rfl ?_
              exact t2 K hlen hs (Iff.trans (or_congr (sF (fun q => h5 q.2.2.2.2.2.1)).symm Iff.rfl) hh)
            · intro (h5 : ¬ (c4 ≠ (114 : Int32)))
              have q5 := Decidable.not_not.mp h5
              refine Go.run (B := B_law) td_law 165 2 (pc' := 295) (L' := [.val (.long nib), .second, .val (.int xl), .val (.int xm), .val (.int xw), .val (.int n), .val (.int fw), .val (.int p), .val (.ref ar), .val (.ref sa), .unset, .unset, .unset, .unset]) (S' := [.int (5 : Int32), .ref ar]) rfl ?_
              refine Go.caload (B := B_law) td_law 167 (v := .int c5) rfl (Or.inl (List.mem_of_getElem? (i := 0) rfl)) (own_inB 12 rfl (by decide)) rfl ?_
              refine Go.run (B := B_law) td_law 168 1 (pc' := 298) (L' := [.val (.long nib), .second, .val (.int xl), .val (.int xm), .val (.int xw), .val (.int n), .val (.int fw), .val (.int p), .val (.ref ar), .val (.ref sa), .unset, .unset, .unset, .unset]) (S' := [.int (115 : Int32), .int c5]) rfl ?_
              refine Go.icmp (B := B_law) td_law 169 (pc' := 335) rfl (by decide) rfl ?_ ?_
              · intro (h6 : c5 ≠ (115 : Int32))
                refine Go.run (B := B_law) td_law 187 2 (pc' := 338) (L' := [.val (.long nib), .second, .val (.int xl), .val (.int xm), .val (.int xw), .val (.int n), .val (.int fw), .val (.int p), .val (.ref ar), .val (.ref sa), .val (.int (0 : Int32)), .unset, .unset, .unset]) (S' := []) rfl ?_
                exact t2 K hlen hs (Iff.trans (or_congr (sF (fun q => h6 q.2.2.2.2.2.2.1)).symm Iff.rfl) hh)
              · intro (h6 : ¬ (c5 ≠ (115 : Int32)))
                have q6 := Decidable.not_not.mp h6
                refine Go.run (B := B_law) td_law 170 2 (pc' := 305) (L' := [.val (.long nib), .second, .val (.int xl), .val (.int xm), .val (.int xw), .val (.int n), .val (.int fw), .val (.int p), .val (.ref ar), .val (.ref sa), .unset, .unset, .unset, .unset]) (S' := [.int (6 : Int32), .ref ar]) rfl ?_
                refine Go.caload (B := B_law) td_law 172 (v := .int c6) rfl (Or.inl (List.mem_of_getElem? (i := 0) rfl)) (own_inB 12 rfl (by decide)) rfl ?_
                refine Go.run (B := B_law) td_law 173 1 (pc' := 308) (L' := [.val (.long nib), .second, .val (.int xl), .val (.int xm), .val (.int xw), .val (.int n), .val (.int fw), .val (.int p), .val (.ref ar), .val (.ref sa), .unset, .unset, .unset, .unset]) (S' := [.int (105 : Int32), .int c6]) rfl ?_
                refine Go.icmp (B := B_law) td_law 174 (pc' := 335) rfl (by decide) rfl ?_ ?_
                · intro (h7 : c6 ≠ (105 : Int32))
                  refine Go.run (B := B_law) td_law 187 2 (pc' := 338) (L' := [.val (.long nib), .second, .val (.int xl), .val (.int xm), .val (.int xw), .val (.int n), .val (.int fw), .val (.int p), .val (.ref ar), .val (.ref sa), .val (.int (0 : Int32)), .unset, .unset, .unset]) (S' := []) rfl ?_
                  exact t2 K hlen hs (Iff.trans (or_congr (sF (fun q => h7 q.2.2.2.2.2.2.2.1)).symm Iff.rfl) hh)
                · intro (h7 : ¬ (c6 ≠ (105 : Int32)))
                  have q7 := Decidable.not_not.mp h7
                  refine Go.run (B := B_law) td_law 175 2 (pc' := 315) (L' := [.val (.long nib), .second, .val (.int xl), .val (.int xm), .val (.int xw), .val (.int n), .val (.int fw), .val (.int p), .val (.ref ar), .val (.ref sa), .unset, .unset, .unset, .unset]) (S' := [.int (7 : Int32), .ref ar]) rfl ?_
                  refine Go.caload (B := B_law) td_law 177 (v := .int c7) rfl (Or.inl (List.mem_of_getElem? (i := 0) rfl)) (own_inB 12 rfl (by decide)) rfl ?_
                  refine Go.run (B := B_law) td_law 178 1 (pc' := 318) (L' := [.val (.long nib), .second, .val (.int xl), .val (.int xm), .val (.int xw), .val (.int n), .val (.int fw), .val (.int p), .val (.ref ar), .val (.ref sa), .unset, .unset, .unset, .unset]) (S' := [.int (111 : Int32), .int c7]) rfl ?_
                  refine Go.icmp (B := B_law) td_law 179 (pc' := 335) rfl (by decide) rfl ?_ ?_
                  · intro (h8 : c7 ≠ (111 : Int32))
                    refine Go.run (B := B_law) td_law 187 2 (pc' := 338) (L' := [.val (.long nib), .second, .val (.int xl), .val (.int xm), .val (.int xw), .val (.int n), .val (.int fw), .val (.int p), .val (.ref ar), .val (.ref sa), .val (.int (0 : Int32)), .unset, .unset, .unset]) (S' := []) rfl ?_
                    exact t2 K hlen hs (Iff.trans (or_congr (sF (fun q => h8 q.2.2.2.2.2.2.2.2.1)).symm Iff.rfl) hh)
                  · intro (h8 : ¬ (c7 ≠ (111 : Int32)))
                    have q8 := Decidable.not_not.mp h8
                    refine Go.run (B := B_law) td_law 180 2 (pc' := 325) (L' := [.val (.long nib), .second, .val (.int xl), .val (.int xm), .val (.int xw), .val (.int n), .val (.int fw), .val (.int p), .val (.ref ar), .val (.ref sa), .unset, .unset, .unset, .unset]) (S' := [.int (8 : Int32), .ref ar]) rfl ?_
                    refine Go.caload (B := B_law) td_law 182 (v := .int c8) rfl (Or.inl (List.mem_of_getElem? (i := 0) rfl)) (own_inB 12 rfl (by decide)) rfl ?_
                    refine Go.run (B := B_law) td_law 183 1 (pc' := 328) (L' := [.val (.long nib), .second, .val (.int xl), .val (.int xm), .val (.int xw), .val (.int n), .val (.int fw), .val (.int p), .val (.ref ar), .val (.ref sa), .unset, .unset, .unset, .unset]) (S' := [.int (110 : Int32), .int c8]) rfl ?_
                    refine Go.icmp (B := B_law) td_law 184 (pc' := 335) rfl (by decide) rfl ?_ ?_
                    · intro (h9 : c8 ≠ (110 : Int32))
                      refine Go.run (B := B_law) td_law 187 2 (pc' := 338) (L' := [.val (.long nib), .second, .val (.int xl), .val (.int xm), .val (.int xw), .val (.int n), .val (.int fw), .val (.int p), .val (.ref ar), .val (.ref sa), .val (.int (0 : Int32)), .unset, .unset, .unset]) (S' := []) rfl ?_
                      exact t2 K hlen hs (Iff.trans (or_congr (sF (fun q => h9 q.2.2.2.2.2.2.2.2.2)).symm Iff.rfl) hh)
                    · intro (h9 : ¬ (c8 ≠ (110 : Int32)))
                      have q9 := Decidable.not_not.mp h9
                      refine Go.run (B := B_law) td_law 185 2 (pc' := 336) (L' := [.val (.long nib), .second, .val (.int xl), .val (.int xm), .val (.int xw), .val (.int n), .val (.int fw), .val (.int p), .val (.ref ar), .val (.ref sa), .unset, .unset, .unset, .unset]) (S' := [.int (1 : Int32)]) rfl ?_
                      refine Go.run (B := B_law) td_law 188 1 (pc' := 338) (L' := [.val (.long nib), .second, .val (.int xl), .val (.int xm), .val (.int xw), .val (.int n), .val (.int fw), .val (.int p), .val (.ref ar), .val (.ref sa), .val (.int (1 : Int32)), .unset, .unset, .unset]) (S' := []) rfl ?_
                      exact t2 K hlen hs (Iff.trans (or_congr (sT ⟨q0, q1, q2, q3, q4, q5, q6, q7, q8, q9⟩).symm Iff.rfl) hh)
--CUT
def allOk : List Int32 → Prop
  | [] => True
  | c :: r => Okf c ∧ allOk r
theorem allOk_iff : ∀ l : List Int32, (∀ x ∈ l, Okf x) ↔ allOk l
  | [] => ⟨fun _ => trivial, fun _ _ h => by cases h⟩
  | c :: r => ⟨fun h => ⟨h c (List.mem_cons_self ..), (allOk_iff r).mp fun x m => h x (List.mem_cons_of_mem _ m)⟩, fun h x m => by
    rcases List.mem_cons.mp m with rfl | m
    · exact h.1
    · exact (allOk_iff r).mpr h.2 x m⟩
def memR (k : Int32) : List Int32 → Prop
  | [] => False
  | c :: r => c = k ∨ memR k r
theorem memR_iff (k : Int32) : ∀ l : List Int32, k ∈ l ↔ memR k l
  | [] => ⟨(fun h => by cases h), False.elim⟩
  | c :: r => by rw [List.mem_cons, memR_iff k r]; exact or_congr eq_comm Iff.rfl
theorem short_cons {c d : Int32} {r : List Int32} : Short (c :: d :: r) ↔ c = 45 ∧ allOk (d :: r) := and_congr Iff.rfl (allOk_iff _)
theorem short_nil : Short [] ↔ False := Iff.rfl
theorem short_one {c : Int32} : Short [c] ↔ False := Iff.rfl
theorem iff_0 {c0 c1 c2 c3 c4 c5 c6 c7 c8 c9 c10 c11 : Int32} : (((0 : Int32) = 9 ∧ c0 = 45 ∧ c1 = 45 ∧ c2 = 118 ∧ c3 = 101 ∧ c4 = 114 ∧ c5 = 115 ∧ c6 = 105 ∧ c7 = 111 ∧ c8 = 110) ∨ ((1 < (0 : Int32) ∧ c0 = 45 ∧ (1 ≥ (0 : Int32) ∨ c1 = 104 ∨ c1 = 86) ∧ (2 ≥ (0 : Int32) ∨ c2 = 104 ∨ c2 = 86) ∧ (3 ≥ (0 : Int32) ∨ c3 = 104 ∨ c3 = 86) ∧ (4 ≥ (0 : Int32) ∨ c4 = 104 ∨ c4 = 86) ∧ (5 ≥ (0 : Int32) ∨ c5 = 104 ∨ c5 = 86) ∧ (6 ≥ (0 : Int32) ∨ c6 = 104 ∨ c6 = 86) ∧ (7 ≥ (0 : Int32) ∨ c7 = 104 ∨ c7 = 86) ∧ (8 ≥ (0 : Int32) ∨ c8 = 104 ∨ c8 = 86) ∧ (9 ≥ (0 : Int32) ∨ c9 = 104 ∨ c9 = 86) ∧ (10 ≥ (0 : Int32) ∨ c10 = 104 ∨ c10 = 86) ∧ (11 ≥ (0 : Int32) ∨ c11 = 104 ∨ c11 = 86)) ∧ ((1 < (0 : Int32) ∧ c1 = 86) ∨ (2 < (0 : Int32) ∧ c2 = 86) ∨ (3 < (0 : Int32) ∧ c3 = 86) ∨ (4 < (0 : Int32) ∧ c4 = 86) ∨ (5 < (0 : Int32) ∧ c5 = 86) ∨ (6 < (0 : Int32) ∧ c6 = 86) ∨ (7 < (0 : Int32) ∧ c7 = 86) ∨ (8 < (0 : Int32) ∧ c8 = 86) ∨ (9 < (0 : Int32) ∧ c9 = 86) ∨ (10 < (0 : Int32) ∧ c10 = 86) ∨ (11 < (0 : Int32) ∧ c11 = 86)))) ↔ (([] : List Int32) = [45, 45, 118, 101, 114, 115, 105, 111, 110] ∨ (Short [] ∧ 86 ∈ ([] : List Int32).tail)) := by
  simp only [show ((1 : Int32) ≥ (0 : Int32)) ↔ True from by decide, show ((2 : Int32) ≥ (0 : Int32)) ↔ True from by decide, show ((3 : Int32) ≥ (0 : Int32)) ↔ True from by decide, show ((4 : Int32) ≥ (0 : Int32)) ↔ True from by decide, show ((5 : Int32) ≥ (0 : Int32)) ↔ True from by decide, show ((6 : Int32) ≥ (0 : Int32)) ↔ True from by decide, show ((7 : Int32) ≥ (0 : Int32)) ↔ True from by decide, show ((8 : Int32) ≥ (0 : Int32)) ↔ True from by decide, show ((9 : Int32) ≥ (0 : Int32)) ↔ True from by decide, show ((10 : Int32) ≥ (0 : Int32)) ↔ True from by decide, show ((11 : Int32) ≥ (0 : Int32)) ↔ True from by decide, show ((1 : Int32) < (0 : Int32)) ↔ False from by decide, show ((2 : Int32) < (0 : Int32)) ↔ False from by decide, show ((3 : Int32) < (0 : Int32)) ↔ False from by decide, show ((4 : Int32) < (0 : Int32)) ↔ False from by decide, show ((5 : Int32) < (0 : Int32)) ↔ False from by decide, show ((6 : Int32) < (0 : Int32)) ↔ False from by decide, show ((7 : Int32) < (0 : Int32)) ↔ False from by decide, show ((8 : Int32) < (0 : Int32)) ↔ False from by decide, show ((9 : Int32) < (0 : Int32)) ↔ False from by decide, show ((10 : Int32) < (0 : Int32)) ↔ False from by decide, show ((11 : Int32) < (0 : Int32)) ↔ False from by decide, show ((0 : Int32) = (9 : Int32)) ↔ False from by decide, short_cons, short_nil, short_one, memR_iff, allOk, memR, Okf, List.tail_cons, List.tail_nil, List.cons.injEq, List.nil_eq, List.cons_ne_nil, reduceCtorEq, and_true, true_and, and_false, false_and, or_false, false_or, true_or, or_true, and_assoc]
theorem iff_1 {c0 c1 c2 c3 c4 c5 c6 c7 c8 c9 c10 c11 : Int32} : (((1 : Int32) = 9 ∧ c0 = 45 ∧ c1 = 45 ∧ c2 = 118 ∧ c3 = 101 ∧ c4 = 114 ∧ c5 = 115 ∧ c6 = 105 ∧ c7 = 111 ∧ c8 = 110) ∨ ((1 < (1 : Int32) ∧ c0 = 45 ∧ (1 ≥ (1 : Int32) ∨ c1 = 104 ∨ c1 = 86) ∧ (2 ≥ (1 : Int32) ∨ c2 = 104 ∨ c2 = 86) ∧ (3 ≥ (1 : Int32) ∨ c3 = 104 ∨ c3 = 86) ∧ (4 ≥ (1 : Int32) ∨ c4 = 104 ∨ c4 = 86) ∧ (5 ≥ (1 : Int32) ∨ c5 = 104 ∨ c5 = 86) ∧ (6 ≥ (1 : Int32) ∨ c6 = 104 ∨ c6 = 86) ∧ (7 ≥ (1 : Int32) ∨ c7 = 104 ∨ c7 = 86) ∧ (8 ≥ (1 : Int32) ∨ c8 = 104 ∨ c8 = 86) ∧ (9 ≥ (1 : Int32) ∨ c9 = 104 ∨ c9 = 86) ∧ (10 ≥ (1 : Int32) ∨ c10 = 104 ∨ c10 = 86) ∧ (11 ≥ (1 : Int32) ∨ c11 = 104 ∨ c11 = 86)) ∧ ((1 < (1 : Int32) ∧ c1 = 86) ∨ (2 < (1 : Int32) ∧ c2 = 86) ∨ (3 < (1 : Int32) ∧ c3 = 86) ∨ (4 < (1 : Int32) ∧ c4 = 86) ∨ (5 < (1 : Int32) ∧ c5 = 86) ∨ (6 < (1 : Int32) ∧ c6 = 86) ∨ (7 < (1 : Int32) ∧ c7 = 86) ∨ (8 < (1 : Int32) ∧ c8 = 86) ∨ (9 < (1 : Int32) ∧ c9 = 86) ∨ (10 < (1 : Int32) ∧ c10 = 86) ∨ (11 < (1 : Int32) ∧ c11 = 86)))) ↔ (([c0] : List Int32) = [45, 45, 118, 101, 114, 115, 105, 111, 110] ∨ (Short [c0] ∧ 86 ∈ ([c0] : List Int32).tail)) := by
  simp only [show ((1 : Int32) ≥ (1 : Int32)) ↔ True from by decide, show ((2 : Int32) ≥ (1 : Int32)) ↔ True from by decide, show ((3 : Int32) ≥ (1 : Int32)) ↔ True from by decide, show ((4 : Int32) ≥ (1 : Int32)) ↔ True from by decide, show ((5 : Int32) ≥ (1 : Int32)) ↔ True from by decide, show ((6 : Int32) ≥ (1 : Int32)) ↔ True from by decide, show ((7 : Int32) ≥ (1 : Int32)) ↔ True from by decide, show ((8 : Int32) ≥ (1 : Int32)) ↔ True from by decide, show ((9 : Int32) ≥ (1 : Int32)) ↔ True from by decide, show ((10 : Int32) ≥ (1 : Int32)) ↔ True from by decide, show ((11 : Int32) ≥ (1 : Int32)) ↔ True from by decide, show ((1 : Int32) < (1 : Int32)) ↔ False from by decide, show ((2 : Int32) < (1 : Int32)) ↔ False from by decide, show ((3 : Int32) < (1 : Int32)) ↔ False from by decide, show ((4 : Int32) < (1 : Int32)) ↔ False from by decide, show ((5 : Int32) < (1 : Int32)) ↔ False from by decide, show ((6 : Int32) < (1 : Int32)) ↔ False from by decide, show ((7 : Int32) < (1 : Int32)) ↔ False from by decide, show ((8 : Int32) < (1 : Int32)) ↔ False from by decide, show ((9 : Int32) < (1 : Int32)) ↔ False from by decide, show ((10 : Int32) < (1 : Int32)) ↔ False from by decide, show ((11 : Int32) < (1 : Int32)) ↔ False from by decide, show ((1 : Int32) = (9 : Int32)) ↔ False from by decide, short_cons, short_nil, short_one, memR_iff, allOk, memR, Okf, List.tail_cons, List.tail_nil, List.cons.injEq, List.nil_eq, List.cons_ne_nil, reduceCtorEq, and_true, true_and, and_false, false_and, or_false, false_or, true_or, or_true, and_assoc]
theorem iff_2 {c0 c1 c2 c3 c4 c5 c6 c7 c8 c9 c10 c11 : Int32} : (((2 : Int32) = 9 ∧ c0 = 45 ∧ c1 = 45 ∧ c2 = 118 ∧ c3 = 101 ∧ c4 = 114 ∧ c5 = 115 ∧ c6 = 105 ∧ c7 = 111 ∧ c8 = 110) ∨ ((1 < (2 : Int32) ∧ c0 = 45 ∧ (1 ≥ (2 : Int32) ∨ c1 = 104 ∨ c1 = 86) ∧ (2 ≥ (2 : Int32) ∨ c2 = 104 ∨ c2 = 86) ∧ (3 ≥ (2 : Int32) ∨ c3 = 104 ∨ c3 = 86) ∧ (4 ≥ (2 : Int32) ∨ c4 = 104 ∨ c4 = 86) ∧ (5 ≥ (2 : Int32) ∨ c5 = 104 ∨ c5 = 86) ∧ (6 ≥ (2 : Int32) ∨ c6 = 104 ∨ c6 = 86) ∧ (7 ≥ (2 : Int32) ∨ c7 = 104 ∨ c7 = 86) ∧ (8 ≥ (2 : Int32) ∨ c8 = 104 ∨ c8 = 86) ∧ (9 ≥ (2 : Int32) ∨ c9 = 104 ∨ c9 = 86) ∧ (10 ≥ (2 : Int32) ∨ c10 = 104 ∨ c10 = 86) ∧ (11 ≥ (2 : Int32) ∨ c11 = 104 ∨ c11 = 86)) ∧ ((1 < (2 : Int32) ∧ c1 = 86) ∨ (2 < (2 : Int32) ∧ c2 = 86) ∨ (3 < (2 : Int32) ∧ c3 = 86) ∨ (4 < (2 : Int32) ∧ c4 = 86) ∨ (5 < (2 : Int32) ∧ c5 = 86) ∨ (6 < (2 : Int32) ∧ c6 = 86) ∨ (7 < (2 : Int32) ∧ c7 = 86) ∨ (8 < (2 : Int32) ∧ c8 = 86) ∨ (9 < (2 : Int32) ∧ c9 = 86) ∨ (10 < (2 : Int32) ∧ c10 = 86) ∨ (11 < (2 : Int32) ∧ c11 = 86)))) ↔ (([c0, c1] : List Int32) = [45, 45, 118, 101, 114, 115, 105, 111, 110] ∨ (Short [c0, c1] ∧ 86 ∈ ([c0, c1] : List Int32).tail)) := by
  simp only [show ((1 : Int32) ≥ (2 : Int32)) ↔ False from by decide, show ((2 : Int32) ≥ (2 : Int32)) ↔ True from by decide, show ((3 : Int32) ≥ (2 : Int32)) ↔ True from by decide, show ((4 : Int32) ≥ (2 : Int32)) ↔ True from by decide, show ((5 : Int32) ≥ (2 : Int32)) ↔ True from by decide, show ((6 : Int32) ≥ (2 : Int32)) ↔ True from by decide, show ((7 : Int32) ≥ (2 : Int32)) ↔ True from by decide, show ((8 : Int32) ≥ (2 : Int32)) ↔ True from by decide, show ((9 : Int32) ≥ (2 : Int32)) ↔ True from by decide, show ((10 : Int32) ≥ (2 : Int32)) ↔ True from by decide, show ((11 : Int32) ≥ (2 : Int32)) ↔ True from by decide, show ((1 : Int32) < (2 : Int32)) ↔ True from by decide, show ((2 : Int32) < (2 : Int32)) ↔ False from by decide, show ((3 : Int32) < (2 : Int32)) ↔ False from by decide, show ((4 : Int32) < (2 : Int32)) ↔ False from by decide, show ((5 : Int32) < (2 : Int32)) ↔ False from by decide, show ((6 : Int32) < (2 : Int32)) ↔ False from by decide, show ((7 : Int32) < (2 : Int32)) ↔ False from by decide, show ((8 : Int32) < (2 : Int32)) ↔ False from by decide, show ((9 : Int32) < (2 : Int32)) ↔ False from by decide, show ((10 : Int32) < (2 : Int32)) ↔ False from by decide, show ((11 : Int32) < (2 : Int32)) ↔ False from by decide, show ((2 : Int32) = (9 : Int32)) ↔ False from by decide, short_cons, short_nil, short_one, memR_iff, allOk, memR, Okf, List.tail_cons, List.tail_nil, List.cons.injEq, List.nil_eq, List.cons_ne_nil, reduceCtorEq, and_true, true_and, and_false, false_and, or_false, false_or, true_or, or_true, and_assoc]
theorem iff_3 {c0 c1 c2 c3 c4 c5 c6 c7 c8 c9 c10 c11 : Int32} : (((3 : Int32) = 9 ∧ c0 = 45 ∧ c1 = 45 ∧ c2 = 118 ∧ c3 = 101 ∧ c4 = 114 ∧ c5 = 115 ∧ c6 = 105 ∧ c7 = 111 ∧ c8 = 110) ∨ ((1 < (3 : Int32) ∧ c0 = 45 ∧ (1 ≥ (3 : Int32) ∨ c1 = 104 ∨ c1 = 86) ∧ (2 ≥ (3 : Int32) ∨ c2 = 104 ∨ c2 = 86) ∧ (3 ≥ (3 : Int32) ∨ c3 = 104 ∨ c3 = 86) ∧ (4 ≥ (3 : Int32) ∨ c4 = 104 ∨ c4 = 86) ∧ (5 ≥ (3 : Int32) ∨ c5 = 104 ∨ c5 = 86) ∧ (6 ≥ (3 : Int32) ∨ c6 = 104 ∨ c6 = 86) ∧ (7 ≥ (3 : Int32) ∨ c7 = 104 ∨ c7 = 86) ∧ (8 ≥ (3 : Int32) ∨ c8 = 104 ∨ c8 = 86) ∧ (9 ≥ (3 : Int32) ∨ c9 = 104 ∨ c9 = 86) ∧ (10 ≥ (3 : Int32) ∨ c10 = 104 ∨ c10 = 86) ∧ (11 ≥ (3 : Int32) ∨ c11 = 104 ∨ c11 = 86)) ∧ ((1 < (3 : Int32) ∧ c1 = 86) ∨ (2 < (3 : Int32) ∧ c2 = 86) ∨ (3 < (3 : Int32) ∧ c3 = 86) ∨ (4 < (3 : Int32) ∧ c4 = 86) ∨ (5 < (3 : Int32) ∧ c5 = 86) ∨ (6 < (3 : Int32) ∧ c6 = 86) ∨ (7 < (3 : Int32) ∧ c7 = 86) ∨ (8 < (3 : Int32) ∧ c8 = 86) ∨ (9 < (3 : Int32) ∧ c9 = 86) ∨ (10 < (3 : Int32) ∧ c10 = 86) ∨ (11 < (3 : Int32) ∧ c11 = 86)))) ↔ (([c0, c1, c2] : List Int32) = [45, 45, 118, 101, 114, 115, 105, 111, 110] ∨ (Short [c0, c1, c2] ∧ 86 ∈ ([c0, c1, c2] : List Int32).tail)) := by
  simp only [show ((1 : Int32) ≥ (3 : Int32)) ↔ False from by decide, show ((2 : Int32) ≥ (3 : Int32)) ↔ False from by decide, show ((3 : Int32) ≥ (3 : Int32)) ↔ True from by decide, show ((4 : Int32) ≥ (3 : Int32)) ↔ True from by decide, show ((5 : Int32) ≥ (3 : Int32)) ↔ True from by decide, show ((6 : Int32) ≥ (3 : Int32)) ↔ True from by decide, show ((7 : Int32) ≥ (3 : Int32)) ↔ True from by decide, show ((8 : Int32) ≥ (3 : Int32)) ↔ True from by decide, show ((9 : Int32) ≥ (3 : Int32)) ↔ True from by decide, show ((10 : Int32) ≥ (3 : Int32)) ↔ True from by decide, show ((11 : Int32) ≥ (3 : Int32)) ↔ True from by decide, show ((1 : Int32) < (3 : Int32)) ↔ True from by decide, show ((2 : Int32) < (3 : Int32)) ↔ True from by decide, show ((3 : Int32) < (3 : Int32)) ↔ False from by decide, show ((4 : Int32) < (3 : Int32)) ↔ False from by decide, show ((5 : Int32) < (3 : Int32)) ↔ False from by decide, show ((6 : Int32) < (3 : Int32)) ↔ False from by decide, show ((7 : Int32) < (3 : Int32)) ↔ False from by decide, show ((8 : Int32) < (3 : Int32)) ↔ False from by decide, show ((9 : Int32) < (3 : Int32)) ↔ False from by decide, show ((10 : Int32) < (3 : Int32)) ↔ False from by decide, show ((11 : Int32) < (3 : Int32)) ↔ False from by decide, show ((3 : Int32) = (9 : Int32)) ↔ False from by decide, short_cons, short_nil, short_one, memR_iff, allOk, memR, Okf, List.tail_cons, List.tail_nil, List.cons.injEq, List.nil_eq, List.cons_ne_nil, reduceCtorEq, and_true, true_and, and_false, false_and, or_false, false_or, true_or, or_true, and_assoc]
theorem iff_4 {c0 c1 c2 c3 c4 c5 c6 c7 c8 c9 c10 c11 : Int32} : (((4 : Int32) = 9 ∧ c0 = 45 ∧ c1 = 45 ∧ c2 = 118 ∧ c3 = 101 ∧ c4 = 114 ∧ c5 = 115 ∧ c6 = 105 ∧ c7 = 111 ∧ c8 = 110) ∨ ((1 < (4 : Int32) ∧ c0 = 45 ∧ (1 ≥ (4 : Int32) ∨ c1 = 104 ∨ c1 = 86) ∧ (2 ≥ (4 : Int32) ∨ c2 = 104 ∨ c2 = 86) ∧ (3 ≥ (4 : Int32) ∨ c3 = 104 ∨ c3 = 86) ∧ (4 ≥ (4 : Int32) ∨ c4 = 104 ∨ c4 = 86) ∧ (5 ≥ (4 : Int32) ∨ c5 = 104 ∨ c5 = 86) ∧ (6 ≥ (4 : Int32) ∨ c6 = 104 ∨ c6 = 86) ∧ (7 ≥ (4 : Int32) ∨ c7 = 104 ∨ c7 = 86) ∧ (8 ≥ (4 : Int32) ∨ c8 = 104 ∨ c8 = 86) ∧ (9 ≥ (4 : Int32) ∨ c9 = 104 ∨ c9 = 86) ∧ (10 ≥ (4 : Int32) ∨ c10 = 104 ∨ c10 = 86) ∧ (11 ≥ (4 : Int32) ∨ c11 = 104 ∨ c11 = 86)) ∧ ((1 < (4 : Int32) ∧ c1 = 86) ∨ (2 < (4 : Int32) ∧ c2 = 86) ∨ (3 < (4 : Int32) ∧ c3 = 86) ∨ (4 < (4 : Int32) ∧ c4 = 86) ∨ (5 < (4 : Int32) ∧ c5 = 86) ∨ (6 < (4 : Int32) ∧ c6 = 86) ∨ (7 < (4 : Int32) ∧ c7 = 86) ∨ (8 < (4 : Int32) ∧ c8 = 86) ∨ (9 < (4 : Int32) ∧ c9 = 86) ∨ (10 < (4 : Int32) ∧ c10 = 86) ∨ (11 < (4 : Int32) ∧ c11 = 86)))) ↔ (([c0, c1, c2, c3] : List Int32) = [45, 45, 118, 101, 114, 115, 105, 111, 110] ∨ (Short [c0, c1, c2, c3] ∧ 86 ∈ ([c0, c1, c2, c3] : List Int32).tail)) := by
  simp only [show ((1 : Int32) ≥ (4 : Int32)) ↔ False from by decide, show ((2 : Int32) ≥ (4 : Int32)) ↔ False from by decide, show ((3 : Int32) ≥ (4 : Int32)) ↔ False from by decide, show ((4 : Int32) ≥ (4 : Int32)) ↔ True from by decide, show ((5 : Int32) ≥ (4 : Int32)) ↔ True from by decide, show ((6 : Int32) ≥ (4 : Int32)) ↔ True from by decide, show ((7 : Int32) ≥ (4 : Int32)) ↔ True from by decide, show ((8 : Int32) ≥ (4 : Int32)) ↔ True from by decide, show ((9 : Int32) ≥ (4 : Int32)) ↔ True from by decide, show ((10 : Int32) ≥ (4 : Int32)) ↔ True from by decide, show ((11 : Int32) ≥ (4 : Int32)) ↔ True from by decide, show ((1 : Int32) < (4 : Int32)) ↔ True from by decide, show ((2 : Int32) < (4 : Int32)) ↔ True from by decide, show ((3 : Int32) < (4 : Int32)) ↔ True from by decide, show ((4 : Int32) < (4 : Int32)) ↔ False from by decide, show ((5 : Int32) < (4 : Int32)) ↔ False from by decide, show ((6 : Int32) < (4 : Int32)) ↔ False from by decide, show ((7 : Int32) < (4 : Int32)) ↔ False from by decide, show ((8 : Int32) < (4 : Int32)) ↔ False from by decide, show ((9 : Int32) < (4 : Int32)) ↔ False from by decide, show ((10 : Int32) < (4 : Int32)) ↔ False from by decide, show ((11 : Int32) < (4 : Int32)) ↔ False from by decide, show ((4 : Int32) = (9 : Int32)) ↔ False from by decide, short_cons, short_nil, short_one, memR_iff, allOk, memR, Okf, List.tail_cons, List.tail_nil, List.cons.injEq, List.nil_eq, List.cons_ne_nil, reduceCtorEq, and_true, true_and, and_false, false_and, or_false, false_or, true_or, or_true, and_assoc]
theorem iff_5 {c0 c1 c2 c3 c4 c5 c6 c7 c8 c9 c10 c11 : Int32} : (((5 : Int32) = 9 ∧ c0 = 45 ∧ c1 = 45 ∧ c2 = 118 ∧ c3 = 101 ∧ c4 = 114 ∧ c5 = 115 ∧ c6 = 105 ∧ c7 = 111 ∧ c8 = 110) ∨ ((1 < (5 : Int32) ∧ c0 = 45 ∧ (1 ≥ (5 : Int32) ∨ c1 = 104 ∨ c1 = 86) ∧ (2 ≥ (5 : Int32) ∨ c2 = 104 ∨ c2 = 86) ∧ (3 ≥ (5 : Int32) ∨ c3 = 104 ∨ c3 = 86) ∧ (4 ≥ (5 : Int32) ∨ c4 = 104 ∨ c4 = 86) ∧ (5 ≥ (5 : Int32) ∨ c5 = 104 ∨ c5 = 86) ∧ (6 ≥ (5 : Int32) ∨ c6 = 104 ∨ c6 = 86) ∧ (7 ≥ (5 : Int32) ∨ c7 = 104 ∨ c7 = 86) ∧ (8 ≥ (5 : Int32) ∨ c8 = 104 ∨ c8 = 86) ∧ (9 ≥ (5 : Int32) ∨ c9 = 104 ∨ c9 = 86) ∧ (10 ≥ (5 : Int32) ∨ c10 = 104 ∨ c10 = 86) ∧ (11 ≥ (5 : Int32) ∨ c11 = 104 ∨ c11 = 86)) ∧ ((1 < (5 : Int32) ∧ c1 = 86) ∨ (2 < (5 : Int32) ∧ c2 = 86) ∨ (3 < (5 : Int32) ∧ c3 = 86) ∨ (4 < (5 : Int32) ∧ c4 = 86) ∨ (5 < (5 : Int32) ∧ c5 = 86) ∨ (6 < (5 : Int32) ∧ c6 = 86) ∨ (7 < (5 : Int32) ∧ c7 = 86) ∨ (8 < (5 : Int32) ∧ c8 = 86) ∨ (9 < (5 : Int32) ∧ c9 = 86) ∨ (10 < (5 : Int32) ∧ c10 = 86) ∨ (11 < (5 : Int32) ∧ c11 = 86)))) ↔ (([c0, c1, c2, c3, c4] : List Int32) = [45, 45, 118, 101, 114, 115, 105, 111, 110] ∨ (Short [c0, c1, c2, c3, c4] ∧ 86 ∈ ([c0, c1, c2, c3, c4] : List Int32).tail)) := by
  simp only [show ((1 : Int32) ≥ (5 : Int32)) ↔ False from by decide, show ((2 : Int32) ≥ (5 : Int32)) ↔ False from by decide, show ((3 : Int32) ≥ (5 : Int32)) ↔ False from by decide, show ((4 : Int32) ≥ (5 : Int32)) ↔ False from by decide, show ((5 : Int32) ≥ (5 : Int32)) ↔ True from by decide, show ((6 : Int32) ≥ (5 : Int32)) ↔ True from by decide, show ((7 : Int32) ≥ (5 : Int32)) ↔ True from by decide, show ((8 : Int32) ≥ (5 : Int32)) ↔ True from by decide, show ((9 : Int32) ≥ (5 : Int32)) ↔ True from by decide, show ((10 : Int32) ≥ (5 : Int32)) ↔ True from by decide, show ((11 : Int32) ≥ (5 : Int32)) ↔ True from by decide, show ((1 : Int32) < (5 : Int32)) ↔ True from by decide, show ((2 : Int32) < (5 : Int32)) ↔ True from by decide, show ((3 : Int32) < (5 : Int32)) ↔ True from by decide, show ((4 : Int32) < (5 : Int32)) ↔ True from by decide, show ((5 : Int32) < (5 : Int32)) ↔ False from by decide, show ((6 : Int32) < (5 : Int32)) ↔ False from by decide, show ((7 : Int32) < (5 : Int32)) ↔ False from by decide, show ((8 : Int32) < (5 : Int32)) ↔ False from by decide, show ((9 : Int32) < (5 : Int32)) ↔ False from by decide, show ((10 : Int32) < (5 : Int32)) ↔ False from by decide, show ((11 : Int32) < (5 : Int32)) ↔ False from by decide, show ((5 : Int32) = (9 : Int32)) ↔ False from by decide, short_cons, short_nil, short_one, memR_iff, allOk, memR, Okf, List.tail_cons, List.tail_nil, List.cons.injEq, List.nil_eq, List.cons_ne_nil, reduceCtorEq, and_true, true_and, and_false, false_and, or_false, false_or, true_or, or_true, and_assoc]
theorem iff_6 {c0 c1 c2 c3 c4 c5 c6 c7 c8 c9 c10 c11 : Int32} : (((6 : Int32) = 9 ∧ c0 = 45 ∧ c1 = 45 ∧ c2 = 118 ∧ c3 = 101 ∧ c4 = 114 ∧ c5 = 115 ∧ c6 = 105 ∧ c7 = 111 ∧ c8 = 110) ∨ ((1 < (6 : Int32) ∧ c0 = 45 ∧ (1 ≥ (6 : Int32) ∨ c1 = 104 ∨ c1 = 86) ∧ (2 ≥ (6 : Int32) ∨ c2 = 104 ∨ c2 = 86) ∧ (3 ≥ (6 : Int32) ∨ c3 = 104 ∨ c3 = 86) ∧ (4 ≥ (6 : Int32) ∨ c4 = 104 ∨ c4 = 86) ∧ (5 ≥ (6 : Int32) ∨ c5 = 104 ∨ c5 = 86) ∧ (6 ≥ (6 : Int32) ∨ c6 = 104 ∨ c6 = 86) ∧ (7 ≥ (6 : Int32) ∨ c7 = 104 ∨ c7 = 86) ∧ (8 ≥ (6 : Int32) ∨ c8 = 104 ∨ c8 = 86) ∧ (9 ≥ (6 : Int32) ∨ c9 = 104 ∨ c9 = 86) ∧ (10 ≥ (6 : Int32) ∨ c10 = 104 ∨ c10 = 86) ∧ (11 ≥ (6 : Int32) ∨ c11 = 104 ∨ c11 = 86)) ∧ ((1 < (6 : Int32) ∧ c1 = 86) ∨ (2 < (6 : Int32) ∧ c2 = 86) ∨ (3 < (6 : Int32) ∧ c3 = 86) ∨ (4 < (6 : Int32) ∧ c4 = 86) ∨ (5 < (6 : Int32) ∧ c5 = 86) ∨ (6 < (6 : Int32) ∧ c6 = 86) ∨ (7 < (6 : Int32) ∧ c7 = 86) ∨ (8 < (6 : Int32) ∧ c8 = 86) ∨ (9 < (6 : Int32) ∧ c9 = 86) ∨ (10 < (6 : Int32) ∧ c10 = 86) ∨ (11 < (6 : Int32) ∧ c11 = 86)))) ↔ (([c0, c1, c2, c3, c4, c5] : List Int32) = [45, 45, 118, 101, 114, 115, 105, 111, 110] ∨ (Short [c0, c1, c2, c3, c4, c5] ∧ 86 ∈ ([c0, c1, c2, c3, c4, c5] : List Int32).tail)) := by
  simp only [show ((1 : Int32) ≥ (6 : Int32)) ↔ False from by decide, show ((2 : Int32) ≥ (6 : Int32)) ↔ False from by decide, show ((3 : Int32) ≥ (6 : Int32)) ↔ False from by decide, show ((4 : Int32) ≥ (6 : Int32)) ↔ False from by decide, show ((5 : Int32) ≥ (6 : Int32)) ↔ False from by decide, show ((6 : Int32) ≥ (6 : Int32)) ↔ True from by decide, show ((7 : Int32) ≥ (6 : Int32)) ↔ True from by decide, show ((8 : Int32) ≥ (6 : Int32)) ↔ True from by decide, show ((9 : Int32) ≥ (6 : Int32)) ↔ True from by decide, show ((10 : Int32) ≥ (6 : Int32)) ↔ True from by decide, show ((11 : Int32) ≥ (6 : Int32)) ↔ True from by decide, show ((1 : Int32) < (6 : Int32)) ↔ True from by decide, show ((2 : Int32) < (6 : Int32)) ↔ True from by decide, show ((3 : Int32) < (6 : Int32)) ↔ True from by decide, show ((4 : Int32) < (6 : Int32)) ↔ True from by decide, show ((5 : Int32) < (6 : Int32)) ↔ True from by decide, show ((6 : Int32) < (6 : Int32)) ↔ False from by decide, show ((7 : Int32) < (6 : Int32)) ↔ False from by decide, show ((8 : Int32) < (6 : Int32)) ↔ False from by decide, show ((9 : Int32) < (6 : Int32)) ↔ False from by decide, show ((10 : Int32) < (6 : Int32)) ↔ False from by decide, show ((11 : Int32) < (6 : Int32)) ↔ False from by decide, show ((6 : Int32) = (9 : Int32)) ↔ False from by decide, short_cons, short_nil, short_one, memR_iff, allOk, memR, Okf, List.tail_cons, List.tail_nil, List.cons.injEq, List.nil_eq, List.cons_ne_nil, reduceCtorEq, and_true, true_and, and_false, false_and, or_false, false_or, true_or, or_true, and_assoc]
theorem iff_7 {c0 c1 c2 c3 c4 c5 c6 c7 c8 c9 c10 c11 : Int32} : (((7 : Int32) = 9 ∧ c0 = 45 ∧ c1 = 45 ∧ c2 = 118 ∧ c3 = 101 ∧ c4 = 114 ∧ c5 = 115 ∧ c6 = 105 ∧ c7 = 111 ∧ c8 = 110) ∨ ((1 < (7 : Int32) ∧ c0 = 45 ∧ (1 ≥ (7 : Int32) ∨ c1 = 104 ∨ c1 = 86) ∧ (2 ≥ (7 : Int32) ∨ c2 = 104 ∨ c2 = 86) ∧ (3 ≥ (7 : Int32) ∨ c3 = 104 ∨ c3 = 86) ∧ (4 ≥ (7 : Int32) ∨ c4 = 104 ∨ c4 = 86) ∧ (5 ≥ (7 : Int32) ∨ c5 = 104 ∨ c5 = 86) ∧ (6 ≥ (7 : Int32) ∨ c6 = 104 ∨ c6 = 86) ∧ (7 ≥ (7 : Int32) ∨ c7 = 104 ∨ c7 = 86) ∧ (8 ≥ (7 : Int32) ∨ c8 = 104 ∨ c8 = 86) ∧ (9 ≥ (7 : Int32) ∨ c9 = 104 ∨ c9 = 86) ∧ (10 ≥ (7 : Int32) ∨ c10 = 104 ∨ c10 = 86) ∧ (11 ≥ (7 : Int32) ∨ c11 = 104 ∨ c11 = 86)) ∧ ((1 < (7 : Int32) ∧ c1 = 86) ∨ (2 < (7 : Int32) ∧ c2 = 86) ∨ (3 < (7 : Int32) ∧ c3 = 86) ∨ (4 < (7 : Int32) ∧ c4 = 86) ∨ (5 < (7 : Int32) ∧ c5 = 86) ∨ (6 < (7 : Int32) ∧ c6 = 86) ∨ (7 < (7 : Int32) ∧ c7 = 86) ∨ (8 < (7 : Int32) ∧ c8 = 86) ∨ (9 < (7 : Int32) ∧ c9 = 86) ∨ (10 < (7 : Int32) ∧ c10 = 86) ∨ (11 < (7 : Int32) ∧ c11 = 86)))) ↔ (([c0, c1, c2, c3, c4, c5, c6] : List Int32) = [45, 45, 118, 101, 114, 115, 105, 111, 110] ∨ (Short [c0, c1, c2, c3, c4, c5, c6] ∧ 86 ∈ ([c0, c1, c2, c3, c4, c5, c6] : List Int32).tail)) := by
  simp only [show ((1 : Int32) ≥ (7 : Int32)) ↔ False from by decide, show ((2 : Int32) ≥ (7 : Int32)) ↔ False from by decide, show ((3 : Int32) ≥ (7 : Int32)) ↔ False from by decide, show ((4 : Int32) ≥ (7 : Int32)) ↔ False from by decide, show ((5 : Int32) ≥ (7 : Int32)) ↔ False from by decide, show ((6 : Int32) ≥ (7 : Int32)) ↔ False from by decide, show ((7 : Int32) ≥ (7 : Int32)) ↔ True from by decide, show ((8 : Int32) ≥ (7 : Int32)) ↔ True from by decide, show ((9 : Int32) ≥ (7 : Int32)) ↔ True from by decide, show ((10 : Int32) ≥ (7 : Int32)) ↔ True from by decide, show ((11 : Int32) ≥ (7 : Int32)) ↔ True from by decide, show ((1 : Int32) < (7 : Int32)) ↔ True from by decide, show ((2 : Int32) < (7 : Int32)) ↔ True from by decide, show ((3 : Int32) < (7 : Int32)) ↔ True from by decide, show ((4 : Int32) < (7 : Int32)) ↔ True from by decide, show ((5 : Int32) < (7 : Int32)) ↔ True from by decide, show ((6 : Int32) < (7 : Int32)) ↔ True from by decide, show ((7 : Int32) < (7 : Int32)) ↔ False from by decide, show ((8 : Int32) < (7 : Int32)) ↔ False from by decide, show ((9 : Int32) < (7 : Int32)) ↔ False from by decide, show ((10 : Int32) < (7 : Int32)) ↔ False from by decide, show ((11 : Int32) < (7 : Int32)) ↔ False from by decide, show ((7 : Int32) = (9 : Int32)) ↔ False from by decide, short_cons, short_nil, short_one, memR_iff, allOk, memR, Okf, List.tail_cons, List.tail_nil, List.cons.injEq, List.nil_eq, List.cons_ne_nil, reduceCtorEq, and_true, true_and, and_false, false_and, or_false, false_or, true_or, or_true, and_assoc]
theorem iff_8 {c0 c1 c2 c3 c4 c5 c6 c7 c8 c9 c10 c11 : Int32} : (((8 : Int32) = 9 ∧ c0 = 45 ∧ c1 = 45 ∧ c2 = 118 ∧ c3 = 101 ∧ c4 = 114 ∧ c5 = 115 ∧ c6 = 105 ∧ c7 = 111 ∧ c8 = 110) ∨ ((1 < (8 : Int32) ∧ c0 = 45 ∧ (1 ≥ (8 : Int32) ∨ c1 = 104 ∨ c1 = 86) ∧ (2 ≥ (8 : Int32) ∨ c2 = 104 ∨ c2 = 86) ∧ (3 ≥ (8 : Int32) ∨ c3 = 104 ∨ c3 = 86) ∧ (4 ≥ (8 : Int32) ∨ c4 = 104 ∨ c4 = 86) ∧ (5 ≥ (8 : Int32) ∨ c5 = 104 ∨ c5 = 86) ∧ (6 ≥ (8 : Int32) ∨ c6 = 104 ∨ c6 = 86) ∧ (7 ≥ (8 : Int32) ∨ c7 = 104 ∨ c7 = 86) ∧ (8 ≥ (8 : Int32) ∨ c8 = 104 ∨ c8 = 86) ∧ (9 ≥ (8 : Int32) ∨ c9 = 104 ∨ c9 = 86) ∧ (10 ≥ (8 : Int32) ∨ c10 = 104 ∨ c10 = 86) ∧ (11 ≥ (8 : Int32) ∨ c11 = 104 ∨ c11 = 86)) ∧ ((1 < (8 : Int32) ∧ c1 = 86) ∨ (2 < (8 : Int32) ∧ c2 = 86) ∨ (3 < (8 : Int32) ∧ c3 = 86) ∨ (4 < (8 : Int32) ∧ c4 = 86) ∨ (5 < (8 : Int32) ∧ c5 = 86) ∨ (6 < (8 : Int32) ∧ c6 = 86) ∨ (7 < (8 : Int32) ∧ c7 = 86) ∨ (8 < (8 : Int32) ∧ c8 = 86) ∨ (9 < (8 : Int32) ∧ c9 = 86) ∨ (10 < (8 : Int32) ∧ c10 = 86) ∨ (11 < (8 : Int32) ∧ c11 = 86)))) ↔ (([c0, c1, c2, c3, c4, c5, c6, c7] : List Int32) = [45, 45, 118, 101, 114, 115, 105, 111, 110] ∨ (Short [c0, c1, c2, c3, c4, c5, c6, c7] ∧ 86 ∈ ([c0, c1, c2, c3, c4, c5, c6, c7] : List Int32).tail)) := by
  simp only [show ((1 : Int32) ≥ (8 : Int32)) ↔ False from by decide, show ((2 : Int32) ≥ (8 : Int32)) ↔ False from by decide, show ((3 : Int32) ≥ (8 : Int32)) ↔ False from by decide, show ((4 : Int32) ≥ (8 : Int32)) ↔ False from by decide, show ((5 : Int32) ≥ (8 : Int32)) ↔ False from by decide, show ((6 : Int32) ≥ (8 : Int32)) ↔ False from by decide, show ((7 : Int32) ≥ (8 : Int32)) ↔ False from by decide, show ((8 : Int32) ≥ (8 : Int32)) ↔ True from by decide, show ((9 : Int32) ≥ (8 : Int32)) ↔ True from by decide, show ((10 : Int32) ≥ (8 : Int32)) ↔ True from by decide, show ((11 : Int32) ≥ (8 : Int32)) ↔ True from by decide, show ((1 : Int32) < (8 : Int32)) ↔ True from by decide, show ((2 : Int32) < (8 : Int32)) ↔ True from by decide, show ((3 : Int32) < (8 : Int32)) ↔ True from by decide, show ((4 : Int32) < (8 : Int32)) ↔ True from by decide, show ((5 : Int32) < (8 : Int32)) ↔ True from by decide, show ((6 : Int32) < (8 : Int32)) ↔ True from by decide, show ((7 : Int32) < (8 : Int32)) ↔ True from by decide, show ((8 : Int32) < (8 : Int32)) ↔ False from by decide, show ((9 : Int32) < (8 : Int32)) ↔ False from by decide, show ((10 : Int32) < (8 : Int32)) ↔ False from by decide, show ((11 : Int32) < (8 : Int32)) ↔ False from by decide, show ((8 : Int32) = (9 : Int32)) ↔ False from by decide, short_cons, short_nil, short_one, memR_iff, allOk, memR, Okf, List.tail_cons, List.tail_nil, List.cons.injEq, List.nil_eq, List.cons_ne_nil, reduceCtorEq, and_true, true_and, and_false, false_and, or_false, false_or, true_or, or_true, and_assoc]
theorem iff_9 {c0 c1 c2 c3 c4 c5 c6 c7 c8 c9 c10 c11 : Int32} : (((9 : Int32) = 9 ∧ c0 = 45 ∧ c1 = 45 ∧ c2 = 118 ∧ c3 = 101 ∧ c4 = 114 ∧ c5 = 115 ∧ c6 = 105 ∧ c7 = 111 ∧ c8 = 110) ∨ ((1 < (9 : Int32) ∧ c0 = 45 ∧ (1 ≥ (9 : Int32) ∨ c1 = 104 ∨ c1 = 86) ∧ (2 ≥ (9 : Int32) ∨ c2 = 104 ∨ c2 = 86) ∧ (3 ≥ (9 : Int32) ∨ c3 = 104 ∨ c3 = 86) ∧ (4 ≥ (9 : Int32) ∨ c4 = 104 ∨ c4 = 86) ∧ (5 ≥ (9 : Int32) ∨ c5 = 104 ∨ c5 = 86) ∧ (6 ≥ (9 : Int32) ∨ c6 = 104 ∨ c6 = 86) ∧ (7 ≥ (9 : Int32) ∨ c7 = 104 ∨ c7 = 86) ∧ (8 ≥ (9 : Int32) ∨ c8 = 104 ∨ c8 = 86) ∧ (9 ≥ (9 : Int32) ∨ c9 = 104 ∨ c9 = 86) ∧ (10 ≥ (9 : Int32) ∨ c10 = 104 ∨ c10 = 86) ∧ (11 ≥ (9 : Int32) ∨ c11 = 104 ∨ c11 = 86)) ∧ ((1 < (9 : Int32) ∧ c1 = 86) ∨ (2 < (9 : Int32) ∧ c2 = 86) ∨ (3 < (9 : Int32) ∧ c3 = 86) ∨ (4 < (9 : Int32) ∧ c4 = 86) ∨ (5 < (9 : Int32) ∧ c5 = 86) ∨ (6 < (9 : Int32) ∧ c6 = 86) ∨ (7 < (9 : Int32) ∧ c7 = 86) ∨ (8 < (9 : Int32) ∧ c8 = 86) ∨ (9 < (9 : Int32) ∧ c9 = 86) ∨ (10 < (9 : Int32) ∧ c10 = 86) ∨ (11 < (9 : Int32) ∧ c11 = 86)))) ↔ (([c0, c1, c2, c3, c4, c5, c6, c7, c8] : List Int32) = [45, 45, 118, 101, 114, 115, 105, 111, 110] ∨ (Short [c0, c1, c2, c3, c4, c5, c6, c7, c8] ∧ 86 ∈ ([c0, c1, c2, c3, c4, c5, c6, c7, c8] : List Int32).tail)) := by
  simp only [show ((1 : Int32) ≥ (9 : Int32)) ↔ False from by decide, show ((2 : Int32) ≥ (9 : Int32)) ↔ False from by decide, show ((3 : Int32) ≥ (9 : Int32)) ↔ False from by decide, show ((4 : Int32) ≥ (9 : Int32)) ↔ False from by decide, show ((5 : Int32) ≥ (9 : Int32)) ↔ False from by decide, show ((6 : Int32) ≥ (9 : Int32)) ↔ False from by decide, show ((7 : Int32) ≥ (9 : Int32)) ↔ False from by decide, show ((8 : Int32) ≥ (9 : Int32)) ↔ False from by decide, show ((9 : Int32) ≥ (9 : Int32)) ↔ True from by decide, show ((10 : Int32) ≥ (9 : Int32)) ↔ True from by decide, show ((11 : Int32) ≥ (9 : Int32)) ↔ True from by decide, show ((1 : Int32) < (9 : Int32)) ↔ True from by decide, show ((2 : Int32) < (9 : Int32)) ↔ True from by decide, show ((3 : Int32) < (9 : Int32)) ↔ True from by decide, show ((4 : Int32) < (9 : Int32)) ↔ True from by decide, show ((5 : Int32) < (9 : Int32)) ↔ True from by decide, show ((6 : Int32) < (9 : Int32)) ↔ True from by decide, show ((7 : Int32) < (9 : Int32)) ↔ True from by decide, show ((8 : Int32) < (9 : Int32)) ↔ True from by decide, show ((9 : Int32) < (9 : Int32)) ↔ False from by decide, show ((10 : Int32) < (9 : Int32)) ↔ False from by decide, show ((11 : Int32) < (9 : Int32)) ↔ False from by decide, show ((9 : Int32) = (9 : Int32)) ↔ True from by decide, short_cons, short_nil, short_one, memR_iff, allOk, memR, Okf, List.tail_cons, List.tail_nil, List.cons.injEq, List.nil_eq, List.cons_ne_nil, reduceCtorEq, and_true, true_and, and_false, false_and, or_false, false_or, true_or, or_true, and_assoc]
theorem iff_10 {c0 c1 c2 c3 c4 c5 c6 c7 c8 c9 c10 c11 : Int32} : (((10 : Int32) = 9 ∧ c0 = 45 ∧ c1 = 45 ∧ c2 = 118 ∧ c3 = 101 ∧ c4 = 114 ∧ c5 = 115 ∧ c6 = 105 ∧ c7 = 111 ∧ c8 = 110) ∨ ((1 < (10 : Int32) ∧ c0 = 45 ∧ (1 ≥ (10 : Int32) ∨ c1 = 104 ∨ c1 = 86) ∧ (2 ≥ (10 : Int32) ∨ c2 = 104 ∨ c2 = 86) ∧ (3 ≥ (10 : Int32) ∨ c3 = 104 ∨ c3 = 86) ∧ (4 ≥ (10 : Int32) ∨ c4 = 104 ∨ c4 = 86) ∧ (5 ≥ (10 : Int32) ∨ c5 = 104 ∨ c5 = 86) ∧ (6 ≥ (10 : Int32) ∨ c6 = 104 ∨ c6 = 86) ∧ (7 ≥ (10 : Int32) ∨ c7 = 104 ∨ c7 = 86) ∧ (8 ≥ (10 : Int32) ∨ c8 = 104 ∨ c8 = 86) ∧ (9 ≥ (10 : Int32) ∨ c9 = 104 ∨ c9 = 86) ∧ (10 ≥ (10 : Int32) ∨ c10 = 104 ∨ c10 = 86) ∧ (11 ≥ (10 : Int32) ∨ c11 = 104 ∨ c11 = 86)) ∧ ((1 < (10 : Int32) ∧ c1 = 86) ∨ (2 < (10 : Int32) ∧ c2 = 86) ∨ (3 < (10 : Int32) ∧ c3 = 86) ∨ (4 < (10 : Int32) ∧ c4 = 86) ∨ (5 < (10 : Int32) ∧ c5 = 86) ∨ (6 < (10 : Int32) ∧ c6 = 86) ∨ (7 < (10 : Int32) ∧ c7 = 86) ∨ (8 < (10 : Int32) ∧ c8 = 86) ∨ (9 < (10 : Int32) ∧ c9 = 86) ∨ (10 < (10 : Int32) ∧ c10 = 86) ∨ (11 < (10 : Int32) ∧ c11 = 86)))) ↔ (([c0, c1, c2, c3, c4, c5, c6, c7, c8, c9] : List Int32) = [45, 45, 118, 101, 114, 115, 105, 111, 110] ∨ (Short [c0, c1, c2, c3, c4, c5, c6, c7, c8, c9] ∧ 86 ∈ ([c0, c1, c2, c3, c4, c5, c6, c7, c8, c9] : List Int32).tail)) := by
  simp only [show ((1 : Int32) ≥ (10 : Int32)) ↔ False from by decide, show ((2 : Int32) ≥ (10 : Int32)) ↔ False from by decide, show ((3 : Int32) ≥ (10 : Int32)) ↔ False from by decide, show ((4 : Int32) ≥ (10 : Int32)) ↔ False from by decide, show ((5 : Int32) ≥ (10 : Int32)) ↔ False from by decide, show ((6 : Int32) ≥ (10 : Int32)) ↔ False from by decide, show ((7 : Int32) ≥ (10 : Int32)) ↔ False from by decide, show ((8 : Int32) ≥ (10 : Int32)) ↔ False from by decide, show ((9 : Int32) ≥ (10 : Int32)) ↔ False from by decide, show ((10 : Int32) ≥ (10 : Int32)) ↔ True from by decide, show ((11 : Int32) ≥ (10 : Int32)) ↔ True from by decide, show ((1 : Int32) < (10 : Int32)) ↔ True from by decide, show ((2 : Int32) < (10 : Int32)) ↔ True from by decide, show ((3 : Int32) < (10 : Int32)) ↔ True from by decide, show ((4 : Int32) < (10 : Int32)) ↔ True from by decide, show ((5 : Int32) < (10 : Int32)) ↔ True from by decide, show ((6 : Int32) < (10 : Int32)) ↔ True from by decide, show ((7 : Int32) < (10 : Int32)) ↔ True from by decide, show ((8 : Int32) < (10 : Int32)) ↔ True from by decide, show ((9 : Int32) < (10 : Int32)) ↔ True from by decide, show ((10 : Int32) < (10 : Int32)) ↔ False from by decide, show ((11 : Int32) < (10 : Int32)) ↔ False from by decide, show ((10 : Int32) = (9 : Int32)) ↔ False from by decide, short_cons, short_nil, short_one, memR_iff, allOk, memR, Okf, List.tail_cons, List.tail_nil, List.cons.injEq, List.nil_eq, List.cons_ne_nil, reduceCtorEq, and_true, true_and, and_false, false_and, or_false, false_or, true_or, or_true, and_assoc]
theorem iff_11 {c0 c1 c2 c3 c4 c5 c6 c7 c8 c9 c10 c11 : Int32} : (((11 : Int32) = 9 ∧ c0 = 45 ∧ c1 = 45 ∧ c2 = 118 ∧ c3 = 101 ∧ c4 = 114 ∧ c5 = 115 ∧ c6 = 105 ∧ c7 = 111 ∧ c8 = 110) ∨ ((1 < (11 : Int32) ∧ c0 = 45 ∧ (1 ≥ (11 : Int32) ∨ c1 = 104 ∨ c1 = 86) ∧ (2 ≥ (11 : Int32) ∨ c2 = 104 ∨ c2 = 86) ∧ (3 ≥ (11 : Int32) ∨ c3 = 104 ∨ c3 = 86) ∧ (4 ≥ (11 : Int32) ∨ c4 = 104 ∨ c4 = 86) ∧ (5 ≥ (11 : Int32) ∨ c5 = 104 ∨ c5 = 86) ∧ (6 ≥ (11 : Int32) ∨ c6 = 104 ∨ c6 = 86) ∧ (7 ≥ (11 : Int32) ∨ c7 = 104 ∨ c7 = 86) ∧ (8 ≥ (11 : Int32) ∨ c8 = 104 ∨ c8 = 86) ∧ (9 ≥ (11 : Int32) ∨ c9 = 104 ∨ c9 = 86) ∧ (10 ≥ (11 : Int32) ∨ c10 = 104 ∨ c10 = 86) ∧ (11 ≥ (11 : Int32) ∨ c11 = 104 ∨ c11 = 86)) ∧ ((1 < (11 : Int32) ∧ c1 = 86) ∨ (2 < (11 : Int32) ∧ c2 = 86) ∨ (3 < (11 : Int32) ∧ c3 = 86) ∨ (4 < (11 : Int32) ∧ c4 = 86) ∨ (5 < (11 : Int32) ∧ c5 = 86) ∨ (6 < (11 : Int32) ∧ c6 = 86) ∨ (7 < (11 : Int32) ∧ c7 = 86) ∨ (8 < (11 : Int32) ∧ c8 = 86) ∨ (9 < (11 : Int32) ∧ c9 = 86) ∨ (10 < (11 : Int32) ∧ c10 = 86) ∨ (11 < (11 : Int32) ∧ c11 = 86)))) ↔ (([c0, c1, c2, c3, c4, c5, c6, c7, c8, c9, c10] : List Int32) = [45, 45, 118, 101, 114, 115, 105, 111, 110] ∨ (Short [c0, c1, c2, c3, c4, c5, c6, c7, c8, c9, c10] ∧ 86 ∈ ([c0, c1, c2, c3, c4, c5, c6, c7, c8, c9, c10] : List Int32).tail)) := by
  simp only [show ((1 : Int32) ≥ (11 : Int32)) ↔ False from by decide, show ((2 : Int32) ≥ (11 : Int32)) ↔ False from by decide, show ((3 : Int32) ≥ (11 : Int32)) ↔ False from by decide, show ((4 : Int32) ≥ (11 : Int32)) ↔ False from by decide, show ((5 : Int32) ≥ (11 : Int32)) ↔ False from by decide, show ((6 : Int32) ≥ (11 : Int32)) ↔ False from by decide, show ((7 : Int32) ≥ (11 : Int32)) ↔ False from by decide, show ((8 : Int32) ≥ (11 : Int32)) ↔ False from by decide, show ((9 : Int32) ≥ (11 : Int32)) ↔ False from by decide, show ((10 : Int32) ≥ (11 : Int32)) ↔ False from by decide, show ((11 : Int32) ≥ (11 : Int32)) ↔ True from by decide, show ((1 : Int32) < (11 : Int32)) ↔ True from by decide, show ((2 : Int32) < (11 : Int32)) ↔ True from by decide, show ((3 : Int32) < (11 : Int32)) ↔ True from by decide, show ((4 : Int32) < (11 : Int32)) ↔ True from by decide, show ((5 : Int32) < (11 : Int32)) ↔ True from by decide, show ((6 : Int32) < (11 : Int32)) ↔ True from by decide, show ((7 : Int32) < (11 : Int32)) ↔ True from by decide, show ((8 : Int32) < (11 : Int32)) ↔ True from by decide, show ((9 : Int32) < (11 : Int32)) ↔ True from by decide, show ((10 : Int32) < (11 : Int32)) ↔ True from by decide, show ((11 : Int32) < (11 : Int32)) ↔ False from by decide, show ((11 : Int32) = (9 : Int32)) ↔ False from by decide, short_cons, short_nil, short_one, memR_iff, allOk, memR, Okf, List.tail_cons, List.tail_nil, List.cons.injEq, List.nil_eq, List.cons_ne_nil, reduceCtorEq, and_true, true_and, and_false, false_and, or_false, false_or, true_or, or_true, and_assoc]
theorem iff_12 {c0 c1 c2 c3 c4 c5 c6 c7 c8 c9 c10 c11 : Int32} : (((12 : Int32) = 9 ∧ c0 = 45 ∧ c1 = 45 ∧ c2 = 118 ∧ c3 = 101 ∧ c4 = 114 ∧ c5 = 115 ∧ c6 = 105 ∧ c7 = 111 ∧ c8 = 110) ∨ ((1 < (12 : Int32) ∧ c0 = 45 ∧ (1 ≥ (12 : Int32) ∨ c1 = 104 ∨ c1 = 86) ∧ (2 ≥ (12 : Int32) ∨ c2 = 104 ∨ c2 = 86) ∧ (3 ≥ (12 : Int32) ∨ c3 = 104 ∨ c3 = 86) ∧ (4 ≥ (12 : Int32) ∨ c4 = 104 ∨ c4 = 86) ∧ (5 ≥ (12 : Int32) ∨ c5 = 104 ∨ c5 = 86) ∧ (6 ≥ (12 : Int32) ∨ c6 = 104 ∨ c6 = 86) ∧ (7 ≥ (12 : Int32) ∨ c7 = 104 ∨ c7 = 86) ∧ (8 ≥ (12 : Int32) ∨ c8 = 104 ∨ c8 = 86) ∧ (9 ≥ (12 : Int32) ∨ c9 = 104 ∨ c9 = 86) ∧ (10 ≥ (12 : Int32) ∨ c10 = 104 ∨ c10 = 86) ∧ (11 ≥ (12 : Int32) ∨ c11 = 104 ∨ c11 = 86)) ∧ ((1 < (12 : Int32) ∧ c1 = 86) ∨ (2 < (12 : Int32) ∧ c2 = 86) ∨ (3 < (12 : Int32) ∧ c3 = 86) ∨ (4 < (12 : Int32) ∧ c4 = 86) ∨ (5 < (12 : Int32) ∧ c5 = 86) ∨ (6 < (12 : Int32) ∧ c6 = 86) ∨ (7 < (12 : Int32) ∧ c7 = 86) ∨ (8 < (12 : Int32) ∧ c8 = 86) ∨ (9 < (12 : Int32) ∧ c9 = 86) ∨ (10 < (12 : Int32) ∧ c10 = 86) ∨ (11 < (12 : Int32) ∧ c11 = 86)))) ↔ (([c0, c1, c2, c3, c4, c5, c6, c7, c8, c9, c10, c11] : List Int32) = [45, 45, 118, 101, 114, 115, 105, 111, 110] ∨ (Short [c0, c1, c2, c3, c4, c5, c6, c7, c8, c9, c10, c11] ∧ 86 ∈ ([c0, c1, c2, c3, c4, c5, c6, c7, c8, c9, c10, c11] : List Int32).tail)) := by
  simp only [show ((1 : Int32) ≥ (12 : Int32)) ↔ False from by decide, show ((2 : Int32) ≥ (12 : Int32)) ↔ False from by decide, show ((3 : Int32) ≥ (12 : Int32)) ↔ False from by decide, show ((4 : Int32) ≥ (12 : Int32)) ↔ False from by decide, show ((5 : Int32) ≥ (12 : Int32)) ↔ False from by decide, show ((6 : Int32) ≥ (12 : Int32)) ↔ False from by decide, show ((7 : Int32) ≥ (12 : Int32)) ↔ False from by decide, show ((8 : Int32) ≥ (12 : Int32)) ↔ False from by decide, show ((9 : Int32) ≥ (12 : Int32)) ↔ False from by decide, show ((10 : Int32) ≥ (12 : Int32)) ↔ False from by decide, show ((11 : Int32) ≥ (12 : Int32)) ↔ False from by decide, show ((1 : Int32) < (12 : Int32)) ↔ True from by decide, show ((2 : Int32) < (12 : Int32)) ↔ True from by decide, show ((3 : Int32) < (12 : Int32)) ↔ True from by decide, show ((4 : Int32) < (12 : Int32)) ↔ True from by decide, show ((5 : Int32) < (12 : Int32)) ↔ True from by decide, show ((6 : Int32) < (12 : Int32)) ↔ True from by decide, show ((7 : Int32) < (12 : Int32)) ↔ True from by decide, show ((8 : Int32) < (12 : Int32)) ↔ True from by decide, show ((9 : Int32) < (12 : Int32)) ↔ True from by decide, show ((10 : Int32) < (12 : Int32)) ↔ True from by decide, show ((11 : Int32) < (12 : Int32)) ↔ True from by decide, show ((12 : Int32) = (9 : Int32)) ↔ False from by decide, short_cons, short_nil, short_one, memR_iff, allOk, memR, Okf, List.tail_cons, List.tail_nil, List.cons.injEq, List.nil_eq, List.cons_ne_nil, reduceCtorEq, and_true, true_and, and_false, false_and, or_false, false_or, true_or, or_true, and_assoc]
--CUT
set_option maxRecDepth 65536 in
set_option maxHeartbeats 4000000 in
theorem seg_0 {A : Ax} (K : Wd A) {D : Dx} {nib : Int64} {xl xm xw fw p : Int32} {ar : Addr} {c0 c1 c2 c3 c4 c5 c6 c7 c8 c9 c10 c11 : Int32} (r0 : Lc c0) (r1 : Lc c1) (r2 : Lc c2) (r3 : Lc c3) (r4 : Lc c4) (r5 : Lc c5) (r6 : Lc c6) (r7 : Lc c7) (r8 : Lc c8) (r9 : Lc c9) (r10 : Lc c10) (r11 : Lc c11) : Go A B_law D (fun v _ _ => v = some (.int 1)) 231 [.val (.long nib), .second, .val (.int xl), .val (.int xm), .val (.int xw), .val (.int (0 : Int32)), .val (.int fw), .val (.int p), .val (.ref ar), .unset, .unset, .unset, .unset, .unset] [] [(ar, ArrP A .char [.int c0, .int c1, .int c2, .int c3, .int c4, .int c5, .int c6, .int c7, .int c8, .int c9, .int c10, .int c11])] [] 5 780 := by
  refine Go.run (B := B_law) td_law 133 2 (pc' := 235) (L' := [.val (.long nib), .second, .val (.int xl), .val (.int xm), .val (.int xw), .val (.int (0 : Int32)), .val (.int fw), .val (.int p), .val (.ref ar), .unset, .unset, .unset, .unset, .unset]) (S' := [.int (0 : Int32), .ref ar]) rfl ?_
  refine Go.callS (B := B_law) td_law 135 (B' := B_mak) (argsL := [.ref ar, .int (0 : Int32)]) (rest := []) (W := 0) rfl (mak0_met K r0 r1 r2 r3 r4 r5 r6 r7 r8 r9 r10 r11) (w_40 K) (w_41 K) (w_4 K) (w_42 K) (by decide) pd_mak rfl rfl rfl rfl (Nat.le_of_eq rfl) (by decide) (by decide) (by decide) (by decide) ?_
  rintro _ _ _ ⟨sa, q1, q2, rfl, rfl, rfl, hS⟩
  show Go A B_law D _ 238 [.val (.long nib), .second, .val (.int xl), .val (.int xm), .val (.int xw), .val (.int (0 : Int32)), .val (.int fw), .val (.int p), .val (.ref ar), .unset, .unset, .unset, .unset, .unset] [.ref sa] [(ar, ArrP A .char [.int c0, .int c1, .int c2, .int c3, .int c4, .int c5, .int c6, .int c7, .int c8, .int c9, .int c10, .int c11])] [q1, q2] 11 808
  refine Go.run (B := B_law) td_law 136 1 (pc' := 240) (L' := [.val (.long nib), .second, .val (.int xl), .val (.int xm), .val (.int xw), .val (.int (0 : Int32)), .val (.int fw), .val (.int p), .val (.ref ar), .val (.ref sa), .unset, .unset, .unset, .unset]) (S' := []) rfl ?_
  exact t1 K (own_le rfl) hS iff_0
set_option maxRecDepth 65536 in
set_option maxHeartbeats 4000000 in
theorem seg_1 {A : Ax} (K : Wd A) {D : Dx} {nib : Int64} {xl xm xw fw p : Int32} {ar : Addr} {c0 c1 c2 c3 c4 c5 c6 c7 c8 c9 c10 c11 : Int32} (r0 : Lc c0) (r1 : Lc c1) (r2 : Lc c2) (r3 : Lc c3) (r4 : Lc c4) (r5 : Lc c5) (r6 : Lc c6) (r7 : Lc c7) (r8 : Lc c8) (r9 : Lc c9) (r10 : Lc c10) (r11 : Lc c11) : Go A B_law D (fun v _ _ => v = some (.int 1)) 231 [.val (.long nib), .second, .val (.int xl), .val (.int xm), .val (.int xw), .val (.int (1 : Int32)), .val (.int fw), .val (.int p), .val (.ref ar), .unset, .unset, .unset, .unset, .unset] [] [(ar, ArrP A .char [.int c0, .int c1, .int c2, .int c3, .int c4, .int c5, .int c6, .int c7, .int c8, .int c9, .int c10, .int c11])] [] 5 780 := by
  refine Go.run (B := B_law) td_law 133 2 (pc' := 235) (L' := [.val (.long nib), .second, .val (.int xl), .val (.int xm), .val (.int xw), .val (.int (1 : Int32)), .val (.int fw), .val (.int p), .val (.ref ar), .unset, .unset, .unset, .unset, .unset]) (S' := [.int (1 : Int32), .ref ar]) rfl ?_
  refine Go.callS (B := B_law) td_law 135 (B' := B_mak) (argsL := [.ref ar, .int (1 : Int32)]) (rest := []) (W := 0) rfl (mak1_met K r0 r1 r2 r3 r4 r5 r6 r7 r8 r9 r10 r11) (w_40 K) (w_41 K) (w_4 K) (w_42 K) (by decide) pd_mak rfl rfl rfl rfl (Nat.le_of_eq rfl) (by decide) (by decide) (by decide) (by decide) ?_
  rintro _ _ _ ⟨sa, q1, q2, rfl, rfl, rfl, hS⟩
  show Go A B_law D _ 238 [.val (.long nib), .second, .val (.int xl), .val (.int xm), .val (.int xw), .val (.int (1 : Int32)), .val (.int fw), .val (.int p), .val (.ref ar), .unset, .unset, .unset, .unset, .unset] [.ref sa] [(ar, ArrP A .char [.int c0, .int c1, .int c2, .int c3, .int c4, .int c5, .int c6, .int c7, .int c8, .int c9, .int c10, .int c11])] [q1, q2] 11 808
  refine Go.run (B := B_law) td_law 136 1 (pc' := 240) (L' := [.val (.long nib), .second, .val (.int xl), .val (.int xm), .val (.int xw), .val (.int (1 : Int32)), .val (.int fw), .val (.int p), .val (.ref ar), .val (.ref sa), .unset, .unset, .unset, .unset]) (S' := []) rfl ?_
  exact t1 K (own_le rfl) hS iff_1
set_option maxRecDepth 65536 in
set_option maxHeartbeats 4000000 in
theorem seg_2 {A : Ax} (K : Wd A) {D : Dx} {nib : Int64} {xl xm xw fw p : Int32} {ar : Addr} {c0 c1 c2 c3 c4 c5 c6 c7 c8 c9 c10 c11 : Int32} (r0 : Lc c0) (r1 : Lc c1) (r2 : Lc c2) (r3 : Lc c3) (r4 : Lc c4) (r5 : Lc c5) (r6 : Lc c6) (r7 : Lc c7) (r8 : Lc c8) (r9 : Lc c9) (r10 : Lc c10) (r11 : Lc c11) : Go A B_law D (fun v _ _ => v = some (.int 1)) 231 [.val (.long nib), .second, .val (.int xl), .val (.int xm), .val (.int xw), .val (.int (2 : Int32)), .val (.int fw), .val (.int p), .val (.ref ar), .unset, .unset, .unset, .unset, .unset] [] [(ar, ArrP A .char [.int c0, .int c1, .int c2, .int c3, .int c4, .int c5, .int c6, .int c7, .int c8, .int c9, .int c10, .int c11])] [] 5 780 := by
  refine Go.run (B := B_law) td_law 133 2 (pc' := 235) (L' := [.val (.long nib), .second, .val (.int xl), .val (.int xm), .val (.int xw), .val (.int (2 : Int32)), .val (.int fw), .val (.int p), .val (.ref ar), .unset, .unset, .unset, .unset, .unset]) (S' := [.int (2 : Int32), .ref ar]) rfl ?_
  refine Go.callS (B := B_law) td_law 135 (B' := B_mak) (argsL := [.ref ar, .int (2 : Int32)]) (rest := []) (W := 0) rfl (mak2_met K r0 r1 r2 r3 r4 r5 r6 r7 r8 r9 r10 r11) (w_40 K) (w_41 K) (w_4 K) (w_42 K) (by decide) pd_mak rfl rfl rfl rfl (Nat.le_of_eq rfl) (by decide) (by decide) (by decide) (by decide) ?_
  rintro _ _ _ ⟨sa, q1, q2, rfl, rfl, rfl, hS⟩
  show Go A B_law D _ 238 [.val (.long nib), .second, .val (.int xl), .val (.int xm), .val (.int xw), .val (.int (2 : Int32)), .val (.int fw), .val (.int p), .val (.ref ar), .unset, .unset, .unset, .unset, .unset] [.ref sa] [(ar, ArrP A .char [.int c0, .int c1, .int c2, .int c3, .int c4, .int c5, .int c6, .int c7, .int c8, .int c9, .int c10, .int c11])] [q1, q2] 11 808
  refine Go.run (B := B_law) td_law 136 1 (pc' := 240) (L' := [.val (.long nib), .second, .val (.int xl), .val (.int xm), .val (.int xw), .val (.int (2 : Int32)), .val (.int fw), .val (.int p), .val (.ref ar), .val (.ref sa), .unset, .unset, .unset, .unset]) (S' := []) rfl ?_
  exact t1 K (own_le rfl) hS iff_2
set_option maxRecDepth 65536 in
set_option maxHeartbeats 4000000 in
theorem seg_3 {A : Ax} (K : Wd A) {D : Dx} {nib : Int64} {xl xm xw fw p : Int32} {ar : Addr} {c0 c1 c2 c3 c4 c5 c6 c7 c8 c9 c10 c11 : Int32} (r0 : Lc c0) (r1 : Lc c1) (r2 : Lc c2) (r3 : Lc c3) (r4 : Lc c4) (r5 : Lc c5) (r6 : Lc c6) (r7 : Lc c7) (r8 : Lc c8) (r9 : Lc c9) (r10 : Lc c10) (r11 : Lc c11) : Go A B_law D (fun v _ _ => v = some (.int 1)) 231 [.val (.long nib), .second, .val (.int xl), .val (.int xm), .val (.int xw), .val (.int (3 : Int32)), .val (.int fw), .val (.int p), .val (.ref ar), .unset, .unset, .unset, .unset, .unset] [] [(ar, ArrP A .char [.int c0, .int c1, .int c2, .int c3, .int c4, .int c5, .int c6, .int c7, .int c8, .int c9, .int c10, .int c11])] [] 5 780 := by
  refine Go.run (B := B_law) td_law 133 2 (pc' := 235) (L' := [.val (.long nib), .second, .val (.int xl), .val (.int xm), .val (.int xw), .val (.int (3 : Int32)), .val (.int fw), .val (.int p), .val (.ref ar), .unset, .unset, .unset, .unset, .unset]) (S' := [.int (3 : Int32), .ref ar]) rfl ?_
  refine Go.callS (B := B_law) td_law 135 (B' := B_mak) (argsL := [.ref ar, .int (3 : Int32)]) (rest := []) (W := 0) rfl (mak3_met K r0 r1 r2 r3 r4 r5 r6 r7 r8 r9 r10 r11) (w_40 K) (w_41 K) (w_4 K) (w_42 K) (by decide) pd_mak rfl rfl rfl rfl (Nat.le_of_eq rfl) (by decide) (by decide) (by decide) (by decide) ?_
  rintro _ _ _ ⟨sa, q1, q2, rfl, rfl, rfl, hS⟩
  show Go A B_law D _ 238 [.val (.long nib), .second, .val (.int xl), .val (.int xm), .val (.int xw), .val (.int (3 : Int32)), .val (.int fw), .val (.int p), .val (.ref ar), .unset, .unset, .unset, .unset, .unset] [.ref sa] [(ar, ArrP A .char [.int c0, .int c1, .int c2, .int c3, .int c4, .int c5, .int c6, .int c7, .int c8, .int c9, .int c10, .int c11])] [q1, q2] 11 808
  refine Go.run (B := B_law) td_law 136 1 (pc' := 240) (L' := [.val (.long nib), .second, .val (.int xl), .val (.int xm), .val (.int xw), .val (.int (3 : Int32)), .val (.int fw), .val (.int p), .val (.ref ar), .val (.ref sa), .unset, .unset, .unset, .unset]) (S' := []) rfl ?_
  exact t1 K (own_le rfl) hS iff_3
set_option maxRecDepth 65536 in
set_option maxHeartbeats 4000000 in
theorem seg_4 {A : Ax} (K : Wd A) {D : Dx} {nib : Int64} {xl xm xw fw p : Int32} {ar : Addr} {c0 c1 c2 c3 c4 c5 c6 c7 c8 c9 c10 c11 : Int32} (r0 : Lc c0) (r1 : Lc c1) (r2 : Lc c2) (r3 : Lc c3) (r4 : Lc c4) (r5 : Lc c5) (r6 : Lc c6) (r7 : Lc c7) (r8 : Lc c8) (r9 : Lc c9) (r10 : Lc c10) (r11 : Lc c11) : Go A B_law D (fun v _ _ => v = some (.int 1)) 231 [.val (.long nib), .second, .val (.int xl), .val (.int xm), .val (.int xw), .val (.int (4 : Int32)), .val (.int fw), .val (.int p), .val (.ref ar), .unset, .unset, .unset, .unset, .unset] [] [(ar, ArrP A .char [.int c0, .int c1, .int c2, .int c3, .int c4, .int c5, .int c6, .int c7, .int c8, .int c9, .int c10, .int c11])] [] 5 780 := by
  refine Go.run (B := B_law) td_law 133 2 (pc' := 235) (L' := [.val (.long nib), .second, .val (.int xl), .val (.int xm), .val (.int xw), .val (.int (4 : Int32)), .val (.int fw), .val (.int p), .val (.ref ar), .unset, .unset, .unset, .unset, .unset]) (S' := [.int (4 : Int32), .ref ar]) rfl ?_
  refine Go.callS (B := B_law) td_law 135 (B' := B_mak) (argsL := [.ref ar, .int (4 : Int32)]) (rest := []) (W := 0) rfl (mak4_met K r0 r1 r2 r3 r4 r5 r6 r7 r8 r9 r10 r11) (w_40 K) (w_41 K) (w_4 K) (w_42 K) (by decide) pd_mak rfl rfl rfl rfl (Nat.le_of_eq rfl) (by decide) (by decide) (by decide) (by decide) ?_
  rintro _ _ _ ⟨sa, q1, q2, rfl, rfl, rfl, hS⟩
  show Go A B_law D _ 238 [.val (.long nib), .second, .val (.int xl), .val (.int xm), .val (.int xw), .val (.int (4 : Int32)), .val (.int fw), .val (.int p), .val (.ref ar), .unset, .unset, .unset, .unset, .unset] [.ref sa] [(ar, ArrP A .char [.int c0, .int c1, .int c2, .int c3, .int c4, .int c5, .int c6, .int c7, .int c8, .int c9, .int c10, .int c11])] [q1, q2] 11 808
  refine Go.run (B := B_law) td_law 136 1 (pc' := 240) (L' := [.val (.long nib), .second, .val (.int xl), .val (.int xm), .val (.int xw), .val (.int (4 : Int32)), .val (.int fw), .val (.int p), .val (.ref ar), .val (.ref sa), .unset, .unset, .unset, .unset]) (S' := []) rfl ?_
  exact t1 K (own_le rfl) hS iff_4
set_option maxRecDepth 65536 in
set_option maxHeartbeats 4000000 in
theorem seg_5 {A : Ax} (K : Wd A) {D : Dx} {nib : Int64} {xl xm xw fw p : Int32} {ar : Addr} {c0 c1 c2 c3 c4 c5 c6 c7 c8 c9 c10 c11 : Int32} (r0 : Lc c0) (r1 : Lc c1) (r2 : Lc c2) (r3 : Lc c3) (r4 : Lc c4) (r5 : Lc c5) (r6 : Lc c6) (r7 : Lc c7) (r8 : Lc c8) (r9 : Lc c9) (r10 : Lc c10) (r11 : Lc c11) : Go A B_law D (fun v _ _ => v = some (.int 1)) 231 [.val (.long nib), .second, .val (.int xl), .val (.int xm), .val (.int xw), .val (.int (5 : Int32)), .val (.int fw), .val (.int p), .val (.ref ar), .unset, .unset, .unset, .unset, .unset] [] [(ar, ArrP A .char [.int c0, .int c1, .int c2, .int c3, .int c4, .int c5, .int c6, .int c7, .int c8, .int c9, .int c10, .int c11])] [] 5 780 := by
  refine Go.run (B := B_law) td_law 133 2 (pc' := 235) (L' := [.val (.long nib), .second, .val (.int xl), .val (.int xm), .val (.int xw), .val (.int (5 : Int32)), .val (.int fw), .val (.int p), .val (.ref ar), .unset, .unset, .unset, .unset, .unset]) (S' := [.int (5 : Int32), .ref ar]) rfl ?_
  refine Go.callS (B := B_law) td_law 135 (B' := B_mak) (argsL := [.ref ar, .int (5 : Int32)]) (rest := []) (W := 0) rfl (mak5_met K r0 r1 r2 r3 r4 r5 r6 r7 r8 r9 r10 r11) (w_40 K) (w_41 K) (w_4 K) (w_42 K) (by decide) pd_mak rfl rfl rfl rfl (Nat.le_of_eq rfl) (by decide) (by decide) (by decide) (by decide) ?_
  rintro _ _ _ ⟨sa, q1, q2, rfl, rfl, rfl, hS⟩
  show Go A B_law D _ 238 [.val (.long nib), .second, .val (.int xl), .val (.int xm), .val (.int xw), .val (.int (5 : Int32)), .val (.int fw), .val (.int p), .val (.ref ar), .unset, .unset, .unset, .unset, .unset] [.ref sa] [(ar, ArrP A .char [.int c0, .int c1, .int c2, .int c3, .int c4, .int c5, .int c6, .int c7, .int c8, .int c9, .int c10, .int c11])] [q1, q2] 11 808
  refine Go.run (B := B_law) td_law 136 1 (pc' := 240) (L' := [.val (.long nib), .second, .val (.int xl), .val (.int xm), .val (.int xw), .val (.int (5 : Int32)), .val (.int fw), .val (.int p), .val (.ref ar), .val (.ref sa), .unset, .unset, .unset, .unset]) (S' := []) rfl ?_
  exact t1 K (own_le rfl) hS iff_5
set_option maxRecDepth 65536 in
set_option maxHeartbeats 4000000 in
theorem seg_6 {A : Ax} (K : Wd A) {D : Dx} {nib : Int64} {xl xm xw fw p : Int32} {ar : Addr} {c0 c1 c2 c3 c4 c5 c6 c7 c8 c9 c10 c11 : Int32} (r0 : Lc c0) (r1 : Lc c1) (r2 : Lc c2) (r3 : Lc c3) (r4 : Lc c4) (r5 : Lc c5) (r6 : Lc c6) (r7 : Lc c7) (r8 : Lc c8) (r9 : Lc c9) (r10 : Lc c10) (r11 : Lc c11) : Go A B_law D (fun v _ _ => v = some (.int 1)) 231 [.val (.long nib), .second, .val (.int xl), .val (.int xm), .val (.int xw), .val (.int (6 : Int32)), .val (.int fw), .val (.int p), .val (.ref ar), .unset, .unset, .unset, .unset, .unset] [] [(ar, ArrP A .char [.int c0, .int c1, .int c2, .int c3, .int c4, .int c5, .int c6, .int c7, .int c8, .int c9, .int c10, .int c11])] [] 5 780 := by
  refine Go.run (B := B_law) td_law 133 2 (pc' := 235) (L' := [.val (.long nib), .second, .val (.int xl), .val (.int xm), .val (.int xw), .val (.int (6 : Int32)), .val (.int fw), .val (.int p), .val (.ref ar), .unset, .unset, .unset, .unset, .unset]) (S' := [.int (6 : Int32), .ref ar]) rfl ?_
  refine Go.callS (B := B_law) td_law 135 (B' := B_mak) (argsL := [.ref ar, .int (6 : Int32)]) (rest := []) (W := 0) rfl (mak6_met K r0 r1 r2 r3 r4 r5 r6 r7 r8 r9 r10 r11) (w_40 K) (w_41 K) (w_4 K) (w_42 K) (by decide) pd_mak rfl rfl rfl rfl (Nat.le_of_eq rfl) (by decide) (by decide) (by decide) (by decide) ?_
  rintro _ _ _ ⟨sa, q1, q2, rfl, rfl, rfl, hS⟩
  show Go A B_law D _ 238 [.val (.long nib), .second, .val (.int xl), .val (.int xm), .val (.int xw), .val (.int (6 : Int32)), .val (.int fw), .val (.int p), .val (.ref ar), .unset, .unset, .unset, .unset, .unset] [.ref sa] [(ar, ArrP A .char [.int c0, .int c1, .int c2, .int c3, .int c4, .int c5, .int c6, .int c7, .int c8, .int c9, .int c10, .int c11])] [q1, q2] 11 808
  refine Go.run (B := B_law) td_law 136 1 (pc' := 240) (L' := [.val (.long nib), .second, .val (.int xl), .val (.int xm), .val (.int xw), .val (.int (6 : Int32)), .val (.int fw), .val (.int p), .val (.ref ar), .val (.ref sa), .unset, .unset, .unset, .unset]) (S' := []) rfl ?_
  exact t1 K (own_le rfl) hS iff_6
set_option maxRecDepth 65536 in
set_option maxHeartbeats 4000000 in
theorem seg_7 {A : Ax} (K : Wd A) {D : Dx} {nib : Int64} {xl xm xw fw p : Int32} {ar : Addr} {c0 c1 c2 c3 c4 c5 c6 c7 c8 c9 c10 c11 : Int32} (r0 : Lc c0) (r1 : Lc c1) (r2 : Lc c2) (r3 : Lc c3) (r4 : Lc c4) (r5 : Lc c5) (r6 : Lc c6) (r7 : Lc c7) (r8 : Lc c8) (r9 : Lc c9) (r10 : Lc c10) (r11 : Lc c11) : Go A B_law D (fun v _ _ => v = some (.int 1)) 231 [.val (.long nib), .second, .val (.int xl), .val (.int xm), .val (.int xw), .val (.int (7 : Int32)), .val (.int fw), .val (.int p), .val (.ref ar), .unset, .unset, .unset, .unset, .unset] [] [(ar, ArrP A .char [.int c0, .int c1, .int c2, .int c3, .int c4, .int c5, .int c6, .int c7, .int c8, .int c9, .int c10, .int c11])] [] 5 780 := by
  refine Go.run (B := B_law) td_law 133 2 (pc' := 235) (L' := [.val (.long nib), .second, .val (.int xl), .val (.int xm), .val (.int xw), .val (.int (7 : Int32)), .val (.int fw), .val (.int p), .val (.ref ar), .unset, .unset, .unset, .unset, .unset]) (S' := [.int (7 : Int32), .ref ar]) rfl ?_
  refine Go.callS (B := B_law) td_law 135 (B' := B_mak) (argsL := [.ref ar, .int (7 : Int32)]) (rest := []) (W := 0) rfl (mak7_met K r0 r1 r2 r3 r4 r5 r6 r7 r8 r9 r10 r11) (w_40 K) (w_41 K) (w_4 K) (w_42 K) (by decide) pd_mak rfl rfl rfl rfl (Nat.le_of_eq rfl) (by decide) (by decide) (by decide) (by decide) ?_
  rintro _ _ _ ⟨sa, q1, q2, rfl, rfl, rfl, hS⟩
  show Go A B_law D _ 238 [.val (.long nib), .second, .val (.int xl), .val (.int xm), .val (.int xw), .val (.int (7 : Int32)), .val (.int fw), .val (.int p), .val (.ref ar), .unset, .unset, .unset, .unset, .unset] [.ref sa] [(ar, ArrP A .char [.int c0, .int c1, .int c2, .int c3, .int c4, .int c5, .int c6, .int c7, .int c8, .int c9, .int c10, .int c11])] [q1, q2] 11 808
  refine Go.run (B := B_law) td_law 136 1 (pc' := 240) (L' := [.val (.long nib), .second, .val (.int xl), .val (.int xm), .val (.int xw), .val (.int (7 : Int32)), .val (.int fw), .val (.int p), .val (.ref ar), .val (.ref sa), .unset, .unset, .unset, .unset]) (S' := []) rfl ?_
  exact t1 K (own_le rfl) hS iff_7
set_option maxRecDepth 65536 in
set_option maxHeartbeats 4000000 in
theorem seg_8 {A : Ax} (K : Wd A) {D : Dx} {nib : Int64} {xl xm xw fw p : Int32} {ar : Addr} {c0 c1 c2 c3 c4 c5 c6 c7 c8 c9 c10 c11 : Int32} (r0 : Lc c0) (r1 : Lc c1) (r2 : Lc c2) (r3 : Lc c3) (r4 : Lc c4) (r5 : Lc c5) (r6 : Lc c6) (r7 : Lc c7) (r8 : Lc c8) (r9 : Lc c9) (r10 : Lc c10) (r11 : Lc c11) : Go A B_law D (fun v _ _ => v = some (.int 1)) 231 [.val (.long nib), .second, .val (.int xl), .val (.int xm), .val (.int xw), .val (.int (8 : Int32)), .val (.int fw), .val (.int p), .val (.ref ar), .unset, .unset, .unset, .unset, .unset] [] [(ar, ArrP A .char [.int c0, .int c1, .int c2, .int c3, .int c4, .int c5, .int c6, .int c7, .int c8, .int c9, .int c10, .int c11])] [] 5 780 := by
  refine Go.run (B := B_law) td_law 133 2 (pc' := 235) (L' := [.val (.long nib), .second, .val (.int xl), .val (.int xm), .val (.int xw), .val (.int (8 : Int32)), .val (.int fw), .val (.int p), .val (.ref ar), .unset, .unset, .unset, .unset, .unset]) (S' := [.int (8 : Int32), .ref ar]) rfl ?_
  refine Go.callS (B := B_law) td_law 135 (B' := B_mak) (argsL := [.ref ar, .int (8 : Int32)]) (rest := []) (W := 0) rfl (mak8_met K r0 r1 r2 r3 r4 r5 r6 r7 r8 r9 r10 r11) (w_40 K) (w_41 K) (w_4 K) (w_42 K) (by decide) pd_mak rfl rfl rfl rfl (Nat.le_of_eq rfl) (by decide) (by decide) (by decide) (by decide) ?_
  rintro _ _ _ ⟨sa, q1, q2, rfl, rfl, rfl, hS⟩
  show Go A B_law D _ 238 [.val (.long nib), .second, .val (.int xl), .val (.int xm), .val (.int xw), .val (.int (8 : Int32)), .val (.int fw), .val (.int p), .val (.ref ar), .unset, .unset, .unset, .unset, .unset] [.ref sa] [(ar, ArrP A .char [.int c0, .int c1, .int c2, .int c3, .int c4, .int c5, .int c6, .int c7, .int c8, .int c9, .int c10, .int c11])] [q1, q2] 11 808
  refine Go.run (B := B_law) td_law 136 1 (pc' := 240) (L' := [.val (.long nib), .second, .val (.int xl), .val (.int xm), .val (.int xw), .val (.int (8 : Int32)), .val (.int fw), .val (.int p), .val (.ref ar), .val (.ref sa), .unset, .unset, .unset, .unset]) (S' := []) rfl ?_
  exact t1 K (own_le rfl) hS iff_8
set_option maxRecDepth 65536 in
set_option maxHeartbeats 4000000 in
theorem seg_9 {A : Ax} (K : Wd A) {D : Dx} {nib : Int64} {xl xm xw fw p : Int32} {ar : Addr} {c0 c1 c2 c3 c4 c5 c6 c7 c8 c9 c10 c11 : Int32} (r0 : Lc c0) (r1 : Lc c1) (r2 : Lc c2) (r3 : Lc c3) (r4 : Lc c4) (r5 : Lc c5) (r6 : Lc c6) (r7 : Lc c7) (r8 : Lc c8) (r9 : Lc c9) (r10 : Lc c10) (r11 : Lc c11) : Go A B_law D (fun v _ _ => v = some (.int 1)) 231 [.val (.long nib), .second, .val (.int xl), .val (.int xm), .val (.int xw), .val (.int (9 : Int32)), .val (.int fw), .val (.int p), .val (.ref ar), .unset, .unset, .unset, .unset, .unset] [] [(ar, ArrP A .char [.int c0, .int c1, .int c2, .int c3, .int c4, .int c5, .int c6, .int c7, .int c8, .int c9, .int c10, .int c11])] [] 5 780 := by
  refine Go.run (B := B_law) td_law 133 2 (pc' := 235) (L' := [.val (.long nib), .second, .val (.int xl), .val (.int xm), .val (.int xw), .val (.int (9 : Int32)), .val (.int fw), .val (.int p), .val (.ref ar), .unset, .unset, .unset, .unset, .unset]) (S' := [.int (9 : Int32), .ref ar]) rfl ?_
  refine Go.callS (B := B_law) td_law 135 (B' := B_mak) (argsL := [.ref ar, .int (9 : Int32)]) (rest := []) (W := 0) rfl (mak9_met K r0 r1 r2 r3 r4 r5 r6 r7 r8 r9 r10 r11) (w_40 K) (w_41 K) (w_4 K) (w_42 K) (by decide) pd_mak rfl rfl rfl rfl (Nat.le_of_eq rfl) (by decide) (by decide) (by decide) (by decide) ?_
  rintro _ _ _ ⟨sa, q1, q2, rfl, rfl, rfl, hS⟩
  show Go A B_law D _ 238 [.val (.long nib), .second, .val (.int xl), .val (.int xm), .val (.int xw), .val (.int (9 : Int32)), .val (.int fw), .val (.int p), .val (.ref ar), .unset, .unset, .unset, .unset, .unset] [.ref sa] [(ar, ArrP A .char [.int c0, .int c1, .int c2, .int c3, .int c4, .int c5, .int c6, .int c7, .int c8, .int c9, .int c10, .int c11])] [q1, q2] 11 808
  refine Go.run (B := B_law) td_law 136 1 (pc' := 240) (L' := [.val (.long nib), .second, .val (.int xl), .val (.int xm), .val (.int xw), .val (.int (9 : Int32)), .val (.int fw), .val (.int p), .val (.ref ar), .val (.ref sa), .unset, .unset, .unset, .unset]) (S' := []) rfl ?_
  exact t1 K (own_le rfl) hS iff_9
set_option maxRecDepth 65536 in
set_option maxHeartbeats 4000000 in
theorem seg_10 {A : Ax} (K : Wd A) {D : Dx} {nib : Int64} {xl xm xw fw p : Int32} {ar : Addr} {c0 c1 c2 c3 c4 c5 c6 c7 c8 c9 c10 c11 : Int32} (r0 : Lc c0) (r1 : Lc c1) (r2 : Lc c2) (r3 : Lc c3) (r4 : Lc c4) (r5 : Lc c5) (r6 : Lc c6) (r7 : Lc c7) (r8 : Lc c8) (r9 : Lc c9) (r10 : Lc c10) (r11 : Lc c11) : Go A B_law D (fun v _ _ => v = some (.int 1)) 231 [.val (.long nib), .second, .val (.int xl), .val (.int xm), .val (.int xw), .val (.int (10 : Int32)), .val (.int fw), .val (.int p), .val (.ref ar), .unset, .unset, .unset, .unset, .unset] [] [(ar, ArrP A .char [.int c0, .int c1, .int c2, .int c3, .int c4, .int c5, .int c6, .int c7, .int c8, .int c9, .int c10, .int c11])] [] 5 780 := by
  refine Go.run (B := B_law) td_law 133 2 (pc' := 235) (L' := [.val (.long nib), .second, .val (.int xl), .val (.int xm), .val (.int xw), .val (.int (10 : Int32)), .val (.int fw), .val (.int p), .val (.ref ar), .unset, .unset, .unset, .unset, .unset]) (S' := [.int (10 : Int32), .ref ar]) rfl ?_
  refine Go.callS (B := B_law) td_law 135 (B' := B_mak) (argsL := [.ref ar, .int (10 : Int32)]) (rest := []) (W := 0) rfl (mak10_met K r0 r1 r2 r3 r4 r5 r6 r7 r8 r9 r10 r11) (w_40 K) (w_41 K) (w_4 K) (w_42 K) (by decide) pd_mak rfl rfl rfl rfl (Nat.le_of_eq rfl) (by decide) (by decide) (by decide) (by decide) ?_
  rintro _ _ _ ⟨sa, q1, q2, rfl, rfl, rfl, hS⟩
  show Go A B_law D _ 238 [.val (.long nib), .second, .val (.int xl), .val (.int xm), .val (.int xw), .val (.int (10 : Int32)), .val (.int fw), .val (.int p), .val (.ref ar), .unset, .unset, .unset, .unset, .unset] [.ref sa] [(ar, ArrP A .char [.int c0, .int c1, .int c2, .int c3, .int c4, .int c5, .int c6, .int c7, .int c8, .int c9, .int c10, .int c11])] [q1, q2] 11 808
  refine Go.run (B := B_law) td_law 136 1 (pc' := 240) (L' := [.val (.long nib), .second, .val (.int xl), .val (.int xm), .val (.int xw), .val (.int (10 : Int32)), .val (.int fw), .val (.int p), .val (.ref ar), .val (.ref sa), .unset, .unset, .unset, .unset]) (S' := []) rfl ?_
  exact t1 K (own_le rfl) hS iff_10
set_option maxRecDepth 65536 in
set_option maxHeartbeats 4000000 in
theorem seg_11 {A : Ax} (K : Wd A) {D : Dx} {nib : Int64} {xl xm xw fw p : Int32} {ar : Addr} {c0 c1 c2 c3 c4 c5 c6 c7 c8 c9 c10 c11 : Int32} (r0 : Lc c0) (r1 : Lc c1) (r2 : Lc c2) (r3 : Lc c3) (r4 : Lc c4) (r5 : Lc c5) (r6 : Lc c6) (r7 : Lc c7) (r8 : Lc c8) (r9 : Lc c9) (r10 : Lc c10) (r11 : Lc c11) : Go A B_law D (fun v _ _ => v = some (.int 1)) 231 [.val (.long nib), .second, .val (.int xl), .val (.int xm), .val (.int xw), .val (.int (11 : Int32)), .val (.int fw), .val (.int p), .val (.ref ar), .unset, .unset, .unset, .unset, .unset] [] [(ar, ArrP A .char [.int c0, .int c1, .int c2, .int c3, .int c4, .int c5, .int c6, .int c7, .int c8, .int c9, .int c10, .int c11])] [] 5 780 := by
  refine Go.run (B := B_law) td_law 133 2 (pc' := 235) (L' := [.val (.long nib), .second, .val (.int xl), .val (.int xm), .val (.int xw), .val (.int (11 : Int32)), .val (.int fw), .val (.int p), .val (.ref ar), .unset, .unset, .unset, .unset, .unset]) (S' := [.int (11 : Int32), .ref ar]) rfl ?_
  refine Go.callS (B := B_law) td_law 135 (B' := B_mak) (argsL := [.ref ar, .int (11 : Int32)]) (rest := []) (W := 0) rfl (mak11_met K r0 r1 r2 r3 r4 r5 r6 r7 r8 r9 r10 r11) (w_40 K) (w_41 K) (w_4 K) (w_42 K) (by decide) pd_mak rfl rfl rfl rfl (Nat.le_of_eq rfl) (by decide) (by decide) (by decide) (by decide) ?_
  rintro _ _ _ ⟨sa, q1, q2, rfl, rfl, rfl, hS⟩
  show Go A B_law D _ 238 [.val (.long nib), .second, .val (.int xl), .val (.int xm), .val (.int xw), .val (.int (11 : Int32)), .val (.int fw), .val (.int p), .val (.ref ar), .unset, .unset, .unset, .unset, .unset] [.ref sa] [(ar, ArrP A .char [.int c0, .int c1, .int c2, .int c3, .int c4, .int c5, .int c6, .int c7, .int c8, .int c9, .int c10, .int c11])] [q1, q2] 11 808
  refine Go.run (B := B_law) td_law 136 1 (pc' := 240) (L' := [.val (.long nib), .second, .val (.int xl), .val (.int xm), .val (.int xw), .val (.int (11 : Int32)), .val (.int fw), .val (.int p), .val (.ref ar), .val (.ref sa), .unset, .unset, .unset, .unset]) (S' := []) rfl ?_
  exact t1 K (own_le rfl) hS iff_11
set_option maxRecDepth 65536 in
set_option maxHeartbeats 4000000 in
theorem seg_12 {A : Ax} (K : Wd A) {D : Dx} {nib : Int64} {xl xm xw fw p : Int32} {ar : Addr} {c0 c1 c2 c3 c4 c5 c6 c7 c8 c9 c10 c11 : Int32} (r0 : Lc c0) (r1 : Lc c1) (r2 : Lc c2) (r3 : Lc c3) (r4 : Lc c4) (r5 : Lc c5) (r6 : Lc c6) (r7 : Lc c7) (r8 : Lc c8) (r9 : Lc c9) (r10 : Lc c10) (r11 : Lc c11) : Go A B_law D (fun v _ _ => v = some (.int 1)) 231 [.val (.long nib), .second, .val (.int xl), .val (.int xm), .val (.int xw), .val (.int (12 : Int32)), .val (.int fw), .val (.int p), .val (.ref ar), .unset, .unset, .unset, .unset, .unset] [] [(ar, ArrP A .char [.int c0, .int c1, .int c2, .int c3, .int c4, .int c5, .int c6, .int c7, .int c8, .int c9, .int c10, .int c11])] [] 5 780 := by
  refine Go.run (B := B_law) td_law 133 2 (pc' := 235) (L' := [.val (.long nib), .second, .val (.int xl), .val (.int xm), .val (.int xw), .val (.int (12 : Int32)), .val (.int fw), .val (.int p), .val (.ref ar), .unset, .unset, .unset, .unset, .unset]) (S' := [.int (12 : Int32), .ref ar]) rfl ?_
  refine Go.callS (B := B_law) td_law 135 (B' := B_mak) (argsL := [.ref ar, .int (12 : Int32)]) (rest := []) (W := 0) rfl (mak12_met K r0 r1 r2 r3 r4 r5 r6 r7 r8 r9 r10 r11) (w_40 K) (w_41 K) (w_4 K) (w_42 K) (by decide) pd_mak rfl rfl rfl rfl (Nat.le_of_eq rfl) (by decide) (by decide) (by decide) (by decide) ?_
  rintro _ _ _ ⟨sa, q1, q2, rfl, rfl, rfl, hS⟩
  show Go A B_law D _ 238 [.val (.long nib), .second, .val (.int xl), .val (.int xm), .val (.int xw), .val (.int (12 : Int32)), .val (.int fw), .val (.int p), .val (.ref ar), .unset, .unset, .unset, .unset, .unset] [.ref sa] [(ar, ArrP A .char [.int c0, .int c1, .int c2, .int c3, .int c4, .int c5, .int c6, .int c7, .int c8, .int c9, .int c10, .int c11])] [q1, q2] 11 808
  refine Go.run (B := B_law) td_law 136 1 (pc' := 240) (L' := [.val (.long nib), .second, .val (.int xl), .val (.int xm), .val (.int xw), .val (.int (12 : Int32)), .val (.int fw), .val (.int p), .val (.ref ar), .val (.ref sa), .unset, .unset, .unset, .unset]) (S' := []) rfl ?_
  exact t1 K (own_le rfl) hS iff_12
--CUT
theorem mod13 (x : Int32) : (x &&& 2147483647) % 13 = 0 ∨ (x &&& 2147483647) % 13 = 1 ∨ (x &&& 2147483647) % 13 = 2 ∨ (x &&& 2147483647) % 13 = 3 ∨ (x &&& 2147483647) % 13 = 4 ∨ (x &&& 2147483647) % 13 = 5 ∨ (x &&& 2147483647) % 13 = 6 ∨ (x &&& 2147483647) % 13 = 7 ∨ (x &&& 2147483647) % 13 = 8 ∨ (x &&& 2147483647) % 13 = 9 ∨ (x &&& 2147483647) % 13 = 10 ∨ (x &&& 2147483647) % 13 = 11 ∨ (x &&& 2147483647) % 13 = 12 := by
  have h1 := c_and x 2147483647 (by decide)
  have h2 := (c_irem (x &&& 2147483647) 13 13 (by decide)).1 h1.1
  simp only [i32_eq, h2]
  have e0 : (0 : Int32).toInt = 0 := by decide
  have e1 : (1 : Int32).toInt = 1 := by decide
  have e2 : (2 : Int32).toInt = 2 := by decide
  have e3 : (3 : Int32).toInt = 3 := by decide
  have e4 : (4 : Int32).toInt = 4 := by decide
  have e5 : (5 : Int32).toInt = 5 := by decide
  have e6 : (6 : Int32).toInt = 6 := by decide
  have e7 : (7 : Int32).toInt = 7 := by decide
  have e8 : (8 : Int32).toInt = 8 := by decide
  have e9 : (9 : Int32).toInt = 9 := by decide
  have e10 : (10 : Int32).toInt = 10 := by decide
  have e11 : (11 : Int32).toInt = 11 := by decide
  have e12 : (12 : Int32).toInt = 12 := by decide
  rw [e0, e1, e2, e3, e4, e5, e6, e7, e8, e9, e10, e11, e12]
  omega
set_option maxRecDepth 65536 in
set_option maxHeartbeats 4000000 in
theorem sega {A : Ax} (K : Wd A) {D : Dx} {nib : Int64} {xl xm xw n fw : Int32} (hn : n = 0 ∨ n = 1 ∨ n = 2 ∨ n = 3 ∨ n = 4 ∨ n = 5 ∨ n = 6 ∨ n = 7 ∨ n = 8 ∨ n = 9 ∨ n = 10 ∨ n = 11 ∨ n = 12) : Go A B_law D (fun v _ _ => v = some (.int 1)) 20 [.val (.long nib), .second, .val (.int xl), .val (.int xm), .val (.int xw), .val (.int n), .unset, .unset, .unset, .unset, .unset, .unset, .unset, .unset] [.int fw] [] [] 4 0 := by
  refine Go.run (B := B_law) td_law 13 4 (pc' := 25) (L' := [.val (.long nib), .second, .val (.int xl), .val (.int xm), .val (.int xw), .val (.int n), .val (.int fw), .unset, .unset, .unset, .unset, .unset, .unset, .unset]) (S' := [.int (Jvm.Free.XT.ushr xm (2 : Int32))]) rfl ?_
  refine Go.ldcI (B := B_law) td_law 17 rfl (w_0 K) ?_
  refine Go.run (B := B_law) td_law 18 2 (pc' := 30) (L' := [.val (.long nib), .second, .val (.int xl), .val (.int xm), .val (.int xw), .val (.int n), .val (.int fw), .unset, .unset, .unset, .unset, .unset, .unset, .unset]) (S' := [.int (13 : Int32), .int ((Jvm.Free.XT.ushr xm (2 : Int32)) &&& (2147483647 : Int32))]) rfl ?_
  refine Go.irem (B := B_law) td_law 20 rfl (by decide) ?_
  refine Go.run (B := B_law) td_law 21 2 (pc' := 35) (L' := [.val (.long nib), .second, .val (.int xl), .val (.int xm), .val (.int xw), .val (.int n), .val (.int fw), .val (.int (((Jvm.Free.XT.ushr xm (2 : Int32)) &&& (2147483647 : Int32)) % (13 : Int32))), .unset, .unset, .unset, .unset, .unset, .unset]) (S' := [.int (12 : Int32)]) rfl ?_
  refine Go.newarray (B := B_law) td_law 23 (ty := .char) (cap := 12) (vs := [.int 0, .int 0, .int 0, .int 0, .int 0, .int 0, .int 0, .int 0, .int 0, .int 0, .int 0, .int 0]) rfl rfl (w_1 K) (by decide) (by decide) (by decide) (by decide) (by decide) rfl ?_
  intro ar
  show Go A B_law D _ 37 [.val (.long nib), .second, .val (.int xl), .val (.int xm), .val (.int xw), .val (.int n), .val (.int fw), .val (.int (((Jvm.Free.XT.ushr xm (2 : Int32)) &&& (2147483647 : Int32)) % (13 : Int32))), .unset, .unset, .unset, .unset, .unset, .unset] [.ref ar] [(ar, ArrP A .char [.int 0, .int 0, .int 0, .int 0, .int 0, .int 0, .int 0, .int 0, .int 0, .int 0, .int 0, .int 0])] [] 5 12
  refine Go.run (B := B_law) td_law 24 8 (pc' := 50) (L' := [.val (.long nib), .second, .val (.int xl), .val (.int xm), .val (.int xw), .val (.int n), .val (.int fw), .val (.int (((Jvm.Free.XT.ushr xm (2 : Int32)) &&& (2147483647 : Int32)) % (13 : Int32))), .val (.ref ar), .unset, .unset, .unset, .unset, .unset]) (S' := [.int (((Jvm.Free.XT.ushr xm (2 : Int32)) &&& (2147483647 : Int32)) % (13 : Int32)), .int fw, .int xw, .int (0 : Int32), .long nib, .int (0 : Int32), .ref ar]) rfl ?_
  refine Go.callS (B := B_law) td_law 32 (B' := B_pki) (argsL := [.long nib, .int (0 : Int32), .int xw, .int fw, .int (((Jvm.Free.XT.ushr xm (2 : Int32)) &&& (2147483647 : Int32)) % (13 : Int32))]) (rest := [.int (0 : Int32), .ref ar]) (W := 2) rfl (pki_met K (by decide)) (w_2 K) (w_3 K) (w_4 K) (w_5 K) (by decide) pd_pki rfl rfl rfl rfl (Nat.le_of_eq rfl) (by decide) (by decide) (by decide) (by decide) ?_
  rintro _ _ _ ⟨c0, rfl, r0, rfl, rfl⟩
  show Go A B_law D _ 53 [.val (.long nib), .second, .val (.int xl), .val (.int xm), .val (.int xw), .val (.int n), .val (.int fw), .val (.int (((Jvm.Free.XT.ushr xm (2 : Int32)) &&& (2147483647 : Int32)) % (13 : Int32))), .val (.ref ar), .unset, .unset, .unset, .unset, .unset] [.int c0, .int (0 : Int32), .ref ar] [(ar, ArrP A .char [.int 0, .int 0, .int 0, .int 0, .int 0, .int 0, .int 0, .int 0, .int 0, .int 0, .int 0, .int 0])] [] 5 76
  refine Go.castore (B := B_law) td_law 33 (vs' := [.int c0, .int 0, .int 0, .int 0, .int 0, .int 0, .int 0, .int 0, .int 0, .int 0, .int 0, .int 0]) rfl (own_inB 12 rfl (by decide)) (by rw [chr16_id (lc_ch r0)]; rfl) ?_
  refine Go.run (B := B_law) td_law 34 7 (pc' := 65) (L' := [.val (.long nib), .second, .val (.int xl), .val (.int xm), .val (.int xw), .val (.int n), .val (.int fw), .val (.int (((Jvm.Free.XT.ushr xm (2 : Int32)) &&& (2147483647 : Int32)) % (13 : Int32))), .val (.ref ar), .unset, .unset, .unset, .unset, .unset]) (S' := [.int (((Jvm.Free.XT.ushr xm (2 : Int32)) &&& (2147483647 : Int32)) % (13 : Int32)), .int fw, .int xw, .int (1 : Int32), .long nib, .int (1 : Int32), .ref ar]) rfl ?_
  refine Go.callS (B := B_law) td_law 41 (B' := B_pki) (argsL := [.long nib, .int (1 : Int32), .int xw, .int fw, .int (((Jvm.Free.XT.ushr xm (2 : Int32)) &&& (2147483647 : Int32)) % (13 : Int32))]) (rest := [.int (1 : Int32), .ref ar]) (W := 2) rfl (pki_met K (by decide)) (w_2 K) (w_3 K) (w_4 K) (w_5 K) (by decide) pd_pki rfl rfl rfl rfl (Nat.le_of_eq rfl) (by decide) (by decide) (by decide) (by decide) ?_
  rintro _ _ _ ⟨c1, rfl, r1, rfl, rfl⟩
  show Go A B_law D _ 68 [.val (.long nib), .second, .val (.int xl), .val (.int xm), .val (.int xw), .val (.int n), .val (.int fw), .val (.int (((Jvm.Free.XT.ushr xm (2 : Int32)) &&& (2147483647 : Int32)) % (13 : Int32))), .val (.ref ar), .unset, .unset, .unset, .unset, .unset] [.int c1, .int (1 : Int32), .ref ar] [(ar, ArrP A .char [.int c0, .int 0, .int 0, .int 0, .int 0, .int 0, .int 0, .int 0, .int 0, .int 0, .int 0, .int 0])] [] 5 140
  refine Go.castore (B := B_law) td_law 42 (vs' := [.int c0, .int c1, .int 0, .int 0, .int 0, .int 0, .int 0, .int 0, .int 0, .int 0, .int 0, .int 0]) rfl (own_inB 12 rfl (by decide)) (by rw [chr16_id (lc_ch r1)]; rfl) ?_
  refine Go.run (B := B_law) td_law 43 7 (pc' := 80) (L' := [.val (.long nib), .second, .val (.int xl), .val (.int xm), .val (.int xw), .val (.int n), .val (.int fw), .val (.int (((Jvm.Free.XT.ushr xm (2 : Int32)) &&& (2147483647 : Int32)) % (13 : Int32))), .val (.ref ar), .unset, .unset, .unset, .unset, .unset]) (S' := [.int (((Jvm.Free.XT.ushr xm (2 : Int32)) &&& (2147483647 : Int32)) % (13 : Int32)), .int fw, .int xw, .int (2 : Int32), .long nib, .int (2 : Int32), .ref ar]) rfl ?_
  refine Go.callS (B := B_law) td_law 50 (B' := B_pki) (argsL := [.long nib, .int (2 : Int32), .int xw, .int fw, .int (((Jvm.Free.XT.ushr xm (2 : Int32)) &&& (2147483647 : Int32)) % (13 : Int32))]) (rest := [.int (2 : Int32), .ref ar]) (W := 2) rfl (pki_met K (by decide)) (w_2 K) (w_3 K) (w_4 K) (w_5 K) (by decide) pd_pki rfl rfl rfl rfl (Nat.le_of_eq rfl) (by decide) (by decide) (by decide) (by decide) ?_
  rintro _ _ _ ⟨c2, rfl, r2, rfl, rfl⟩
  show Go A B_law D _ 83 [.val (.long nib), .second, .val (.int xl), .val (.int xm), .val (.int xw), .val (.int n), .val (.int fw), .val (.int (((Jvm.Free.XT.ushr xm (2 : Int32)) &&& (2147483647 : Int32)) % (13 : Int32))), .val (.ref ar), .unset, .unset, .unset, .unset, .unset] [.int c2, .int (2 : Int32), .ref ar] [(ar, ArrP A .char [.int c0, .int c1, .int 0, .int 0, .int 0, .int 0, .int 0, .int 0, .int 0, .int 0, .int 0, .int 0])] [] 5 204
  refine Go.castore (B := B_law) td_law 51 (vs' := [.int c0, .int c1, .int c2, .int 0, .int 0, .int 0, .int 0, .int 0, .int 0, .int 0, .int 0, .int 0]) rfl (own_inB 12 rfl (by decide)) (by rw [chr16_id (lc_ch r2)]; rfl) ?_
  refine Go.run (B := B_law) td_law 52 7 (pc' := 95) (L' := [.val (.long nib), .second, .val (.int xl), .val (.int xm), .val (.int xw), .val (.int n), .val (.int fw), .val (.int (((Jvm.Free.XT.ushr xm (2 : Int32)) &&& (2147483647 : Int32)) % (13 : Int32))), .val (.ref ar), .unset, .unset, .unset, .unset, .unset]) (S' := [.int (((Jvm.Free.XT.ushr xm (2 : Int32)) &&& (2147483647 : Int32)) % (13 : Int32)), .int fw, .int xw, .int (3 : Int32), .long nib, .int (3 : Int32), .ref ar]) rfl ?_
  refine Go.callS (B := B_law) td_law 59 (B' := B_pki) (argsL := [.long nib, .int (3 : Int32), .int xw, .int fw, .int (((Jvm.Free.XT.ushr xm (2 : Int32)) &&& (2147483647 : Int32)) % (13 : Int32))]) (rest := [.int (3 : Int32), .ref ar]) (W := 2) rfl (pki_met K (by decide)) (w_2 K) (w_3 K) (w_4 K) (w_5 K) (by decide) pd_pki rfl rfl rfl rfl (Nat.le_of_eq rfl) (by decide) (by decide) (by decide) (by decide) ?_
  rintro _ _ _ ⟨c3, rfl, r3, rfl, rfl⟩
  show Go A B_law D _ 98 [.val (.long nib), .second, .val (.int xl), .val (.int xm), .val (.int xw), .val (.int n), .val (.int fw), .val (.int (((Jvm.Free.XT.ushr xm (2 : Int32)) &&& (2147483647 : Int32)) % (13 : Int32))), .val (.ref ar), .unset, .unset, .unset, .unset, .unset] [.int c3, .int (3 : Int32), .ref ar] [(ar, ArrP A .char [.int c0, .int c1, .int c2, .int 0, .int 0, .int 0, .int 0, .int 0, .int 0, .int 0, .int 0, .int 0])] [] 5 268
  refine Go.castore (B := B_law) td_law 60 (vs' := [.int c0, .int c1, .int c2, .int c3, .int 0, .int 0, .int 0, .int 0, .int 0, .int 0, .int 0, .int 0]) rfl (own_inB 12 rfl (by decide)) (by rw [chr16_id (lc_ch r3)]; rfl) ?_
  refine Go.run (B := B_law) td_law 61 7 (pc' := 110) (L' := [.val (.long nib), .second, .val (.int xl), .val (.int xm), .val (.int xw), .val (.int n), .val (.int fw), .val (.int (((Jvm.Free.XT.ushr xm (2 : Int32)) &&& (2147483647 : Int32)) % (13 : Int32))), .val (.ref ar), .unset, .unset, .unset, .unset, .unset]) (S' := [.int (((Jvm.Free.XT.ushr xm (2 : Int32)) &&& (2147483647 : Int32)) % (13 : Int32)), .int fw, .int xw, .int (4 : Int32), .long nib, .int (4 : Int32), .ref ar]) rfl ?_
  refine Go.callS (B := B_law) td_law 68 (B' := B_pki) (argsL := [.long nib, .int (4 : Int32), .int xw, .int fw, .int (((Jvm.Free.XT.ushr xm (2 : Int32)) &&& (2147483647 : Int32)) % (13 : Int32))]) (rest := [.int (4 : Int32), .ref ar]) (W := 2) rfl (pki_met K (by decide)) (w_2 K) (w_3 K) (w_4 K) (w_5 K) (by decide) pd_pki rfl rfl rfl rfl (Nat.le_of_eq rfl) (by decide) (by decide) (by decide) (by decide) ?_
  rintro _ _ _ ⟨c4, rfl, r4, rfl, rfl⟩
  show Go A B_law D _ 113 [.val (.long nib), .second, .val (.int xl), .val (.int xm), .val (.int xw), .val (.int n), .val (.int fw), .val (.int (((Jvm.Free.XT.ushr xm (2 : Int32)) &&& (2147483647 : Int32)) % (13 : Int32))), .val (.ref ar), .unset, .unset, .unset, .unset, .unset] [.int c4, .int (4 : Int32), .ref ar] [(ar, ArrP A .char [.int c0, .int c1, .int c2, .int c3, .int 0, .int 0, .int 0, .int 0, .int 0, .int 0, .int 0, .int 0])] [] 5 332
  refine Go.castore (B := B_law) td_law 69 (vs' := [.int c0, .int c1, .int c2, .int c3, .int c4, .int 0, .int 0, .int 0, .int 0, .int 0, .int 0, .int 0]) rfl (own_inB 12 rfl (by decide)) (by rw [chr16_id (lc_ch r4)]; rfl) ?_
  refine Go.run (B := B_law) td_law 70 7 (pc' := 125) (L' := [.val (.long nib), .second, .val (.int xl), .val (.int xm), .val (.int xw), .val (.int n), .val (.int fw), .val (.int (((Jvm.Free.XT.ushr xm (2 : Int32)) &&& (2147483647 : Int32)) % (13 : Int32))), .val (.ref ar), .unset, .unset, .unset, .unset, .unset]) (S' := [.int (((Jvm.Free.XT.ushr xm (2 : Int32)) &&& (2147483647 : Int32)) % (13 : Int32)), .int fw, .int xw, .int (5 : Int32), .long nib, .int (5 : Int32), .ref ar]) rfl ?_
  refine Go.callS (B := B_law) td_law 77 (B' := B_pki) (argsL := [.long nib, .int (5 : Int32), .int xw, .int fw, .int (((Jvm.Free.XT.ushr xm (2 : Int32)) &&& (2147483647 : Int32)) % (13 : Int32))]) (rest := [.int (5 : Int32), .ref ar]) (W := 2) rfl (pki_met K (by decide)) (w_2 K) (w_3 K) (w_4 K) (w_5 K) (by decide) pd_pki rfl rfl rfl rfl (Nat.le_of_eq rfl) (by decide) (by decide) (by decide) (by decide) ?_
  rintro _ _ _ ⟨c5, rfl, r5, rfl, rfl⟩
  show Go A B_law D _ 128 [.val (.long nib), .second, .val (.int xl), .val (.int xm), .val (.int xw), .val (.int n), .val (.int fw), .val (.int (((Jvm.Free.XT.ushr xm (2 : Int32)) &&& (2147483647 : Int32)) % (13 : Int32))), .val (.ref ar), .unset, .unset, .unset, .unset, .unset] [.int c5, .int (5 : Int32), .ref ar] [(ar, ArrP A .char [.int c0, .int c1, .int c2, .int c3, .int c4, .int 0, .int 0, .int 0, .int 0, .int 0, .int 0, .int 0])] [] 5 396
  refine Go.castore (B := B_law) td_law 78 (vs' := [.int c0, .int c1, .int c2, .int c3, .int c4, .int c5, .int 0, .int 0, .int 0, .int 0, .int 0, .int 0]) rfl (own_inB 12 rfl (by decide)) (by rw [chr16_id (lc_ch r5)]; rfl) ?_
  refine Go.run (B := B_law) td_law 79 7 (pc' := 142) (L' := [.val (.long nib), .second, .val (.int xl), .val (.int xm), .val (.int xw), .val (.int n), .val (.int fw), .val (.int (((Jvm.Free.XT.ushr xm (2 : Int32)) &&& (2147483647 : Int32)) % (13 : Int32))), .val (.ref ar), .unset, .unset, .unset, .unset, .unset]) (S' := [.int (((Jvm.Free.XT.ushr xm (2 : Int32)) &&& (2147483647 : Int32)) % (13 : Int32)), .int fw, .int xw, .int (6 : Int32), .long nib, .int (6 : Int32), .ref ar]) rfl ?_
  refine Go.callS (B := B_law) td_law 86 (B' := B_pki) (argsL := [.long nib, .int (6 : Int32), .int xw, .int fw, .int (((Jvm.Free.XT.ushr xm (2 : Int32)) &&& (2147483647 : Int32)) % (13 : Int32))]) (rest := [.int (6 : Int32), .ref ar]) (W := 2) rfl (pki_met K (by decide)) (w_2 K) (w_3 K) (w_4 K) (w_5 K) (by decide) pd_pki rfl rfl rfl rfl (Nat.le_of_eq rfl) (by decide) (by decide) (by decide) (by decide) ?_
  rintro _ _ _ ⟨c6, rfl, r6, rfl, rfl⟩
  show Go A B_law D _ 145 [.val (.long nib), .second, .val (.int xl), .val (.int xm), .val (.int xw), .val (.int n), .val (.int fw), .val (.int (((Jvm.Free.XT.ushr xm (2 : Int32)) &&& (2147483647 : Int32)) % (13 : Int32))), .val (.ref ar), .unset, .unset, .unset, .unset, .unset] [.int c6, .int (6 : Int32), .ref ar] [(ar, ArrP A .char [.int c0, .int c1, .int c2, .int c3, .int c4, .int c5, .int 0, .int 0, .int 0, .int 0, .int 0, .int 0])] [] 5 460
  refine Go.castore (B := B_law) td_law 87 (vs' := [.int c0, .int c1, .int c2, .int c3, .int c4, .int c5, .int c6, .int 0, .int 0, .int 0, .int 0, .int 0]) rfl (own_inB 12 rfl (by decide)) (by rw [chr16_id (lc_ch r6)]; rfl) ?_
  refine Go.run (B := B_law) td_law 88 7 (pc' := 159) (L' := [.val (.long nib), .second, .val (.int xl), .val (.int xm), .val (.int xw), .val (.int n), .val (.int fw), .val (.int (((Jvm.Free.XT.ushr xm (2 : Int32)) &&& (2147483647 : Int32)) % (13 : Int32))), .val (.ref ar), .unset, .unset, .unset, .unset, .unset]) (S' := [.int (((Jvm.Free.XT.ushr xm (2 : Int32)) &&& (2147483647 : Int32)) % (13 : Int32)), .int fw, .int xw, .int (7 : Int32), .long nib, .int (7 : Int32), .ref ar]) rfl ?_
  refine Go.callS (B := B_law) td_law 95 (B' := B_pki) (argsL := [.long nib, .int (7 : Int32), .int xw, .int fw, .int (((Jvm.Free.XT.ushr xm (2 : Int32)) &&& (2147483647 : Int32)) % (13 : Int32))]) (rest := [.int (7 : Int32), .ref ar]) (W := 2) rfl (pki_met K (by decide)) (w_2 K) (w_3 K) (w_4 K) (w_5 K) (by decide) pd_pki rfl rfl rfl rfl (Nat.le_of_eq rfl) (by decide) (by decide) (by decide) (by decide) ?_
  rintro _ _ _ ⟨c7, rfl, r7, rfl, rfl⟩
  show Go A B_law D _ 162 [.val (.long nib), .second, .val (.int xl), .val (.int xm), .val (.int xw), .val (.int n), .val (.int fw), .val (.int (((Jvm.Free.XT.ushr xm (2 : Int32)) &&& (2147483647 : Int32)) % (13 : Int32))), .val (.ref ar), .unset, .unset, .unset, .unset, .unset] [.int c7, .int (7 : Int32), .ref ar] [(ar, ArrP A .char [.int c0, .int c1, .int c2, .int c3, .int c4, .int c5, .int c6, .int 0, .int 0, .int 0, .int 0, .int 0])] [] 5 524
  refine Go.castore (B := B_law) td_law 96 (vs' := [.int c0, .int c1, .int c2, .int c3, .int c4, .int c5, .int c6, .int c7, .int 0, .int 0, .int 0, .int 0]) rfl (own_inB 12 rfl (by decide)) (by rw [chr16_id (lc_ch r7)]; rfl) ?_
  refine Go.run (B := B_law) td_law 97 7 (pc' := 176) (L' := [.val (.long nib), .second, .val (.int xl), .val (.int xm), .val (.int xw), .val (.int n), .val (.int fw), .val (.int (((Jvm.Free.XT.ushr xm (2 : Int32)) &&& (2147483647 : Int32)) % (13 : Int32))), .val (.ref ar), .unset, .unset, .unset, .unset, .unset]) (S' := [.int (((Jvm.Free.XT.ushr xm (2 : Int32)) &&& (2147483647 : Int32)) % (13 : Int32)), .int fw, .int xw, .int (8 : Int32), .long nib, .int (8 : Int32), .ref ar]) rfl ?_
  refine Go.callS (B := B_law) td_law 104 (B' := B_pki) (argsL := [.long nib, .int (8 : Int32), .int xw, .int fw, .int (((Jvm.Free.XT.ushr xm (2 : Int32)) &&& (2147483647 : Int32)) % (13 : Int32))]) (rest := [.int (8 : Int32), .ref ar]) (W := 2) rfl (pki_met K (by decide)) (w_2 K) (w_3 K) (w_4 K) (w_5 K) (by decide) pd_pki rfl rfl rfl rfl (Nat.le_of_eq rfl) (by decide) (by decide) (by decide) (by decide) ?_
  rintro _ _ _ ⟨c8, rfl, r8, rfl, rfl⟩
  show Go A B_law D _ 179 [.val (.long nib), .second, .val (.int xl), .val (.int xm), .val (.int xw), .val (.int n), .val (.int fw), .val (.int (((Jvm.Free.XT.ushr xm (2 : Int32)) &&& (2147483647 : Int32)) % (13 : Int32))), .val (.ref ar), .unset, .unset, .unset, .unset, .unset] [.int c8, .int (8 : Int32), .ref ar] [(ar, ArrP A .char [.int c0, .int c1, .int c2, .int c3, .int c4, .int c5, .int c6, .int c7, .int 0, .int 0, .int 0, .int 0])] [] 5 588
  refine Go.castore (B := B_law) td_law 105 (vs' := [.int c0, .int c1, .int c2, .int c3, .int c4, .int c5, .int c6, .int c7, .int c8, .int 0, .int 0, .int 0]) rfl (own_inB 12 rfl (by decide)) (by rw [chr16_id (lc_ch r8)]; rfl) ?_
  refine Go.run (B := B_law) td_law 106 7 (pc' := 193) (L' := [.val (.long nib), .second, .val (.int xl), .val (.int xm), .val (.int xw), .val (.int n), .val (.int fw), .val (.int (((Jvm.Free.XT.ushr xm (2 : Int32)) &&& (2147483647 : Int32)) % (13 : Int32))), .val (.ref ar), .unset, .unset, .unset, .unset, .unset]) (S' := [.int (((Jvm.Free.XT.ushr xm (2 : Int32)) &&& (2147483647 : Int32)) % (13 : Int32)), .int fw, .int xw, .int (9 : Int32), .long nib, .int (9 : Int32), .ref ar]) rfl ?_
  refine Go.callS (B := B_law) td_law 113 (B' := B_pki) (argsL := [.long nib, .int (9 : Int32), .int xw, .int fw, .int (((Jvm.Free.XT.ushr xm (2 : Int32)) &&& (2147483647 : Int32)) % (13 : Int32))]) (rest := [.int (9 : Int32), .ref ar]) (W := 2) rfl (pki_met K (by decide)) (w_2 K) (w_3 K) (w_4 K) (w_5 K) (by decide) pd_pki rfl rfl rfl rfl (Nat.le_of_eq rfl) (by decide) (by decide) (by decide) (by decide) ?_
  rintro _ _ _ ⟨c9, rfl, r9, rfl, rfl⟩
  show Go A B_law D _ 196 [.val (.long nib), .second, .val (.int xl), .val (.int xm), .val (.int xw), .val (.int n), .val (.int fw), .val (.int (((Jvm.Free.XT.ushr xm (2 : Int32)) &&& (2147483647 : Int32)) % (13 : Int32))), .val (.ref ar), .unset, .unset, .unset, .unset, .unset] [.int c9, .int (9 : Int32), .ref ar] [(ar, ArrP A .char [.int c0, .int c1, .int c2, .int c3, .int c4, .int c5, .int c6, .int c7, .int c8, .int 0, .int 0, .int 0])] [] 5 652
  refine Go.castore (B := B_law) td_law 114 (vs' := [.int c0, .int c1, .int c2, .int c3, .int c4, .int c5, .int c6, .int c7, .int c8, .int c9, .int 0, .int 0]) rfl (own_inB 12 rfl (by decide)) (by rw [chr16_id (lc_ch r9)]; rfl) ?_
  refine Go.run (B := B_law) td_law 115 7 (pc' := 210) (L' := [.val (.long nib), .second, .val (.int xl), .val (.int xm), .val (.int xw), .val (.int n), .val (.int fw), .val (.int (((Jvm.Free.XT.ushr xm (2 : Int32)) &&& (2147483647 : Int32)) % (13 : Int32))), .val (.ref ar), .unset, .unset, .unset, .unset, .unset]) (S' := [.int (((Jvm.Free.XT.ushr xm (2 : Int32)) &&& (2147483647 : Int32)) % (13 : Int32)), .int fw, .int xw, .int (10 : Int32), .long nib, .int (10 : Int32), .ref ar]) rfl ?_
  refine Go.callS (B := B_law) td_law 122 (B' := B_pki) (argsL := [.long nib, .int (10 : Int32), .int xw, .int fw, .int (((Jvm.Free.XT.ushr xm (2 : Int32)) &&& (2147483647 : Int32)) % (13 : Int32))]) (rest := [.int (10 : Int32), .ref ar]) (W := 2) rfl (pki_met K (by decide)) (w_2 K) (w_3 K) (w_4 K) (w_5 K) (by decide) pd_pki rfl rfl rfl rfl (Nat.le_of_eq rfl) (by decide) (by decide) (by decide) (by decide) ?_
  rintro _ _ _ ⟨c10, rfl, r10, rfl, rfl⟩
  show Go A B_law D _ 213 [.val (.long nib), .second, .val (.int xl), .val (.int xm), .val (.int xw), .val (.int n), .val (.int fw), .val (.int (((Jvm.Free.XT.ushr xm (2 : Int32)) &&& (2147483647 : Int32)) % (13 : Int32))), .val (.ref ar), .unset, .unset, .unset, .unset, .unset] [.int c10, .int (10 : Int32), .ref ar] [(ar, ArrP A .char [.int c0, .int c1, .int c2, .int c3, .int c4, .int c5, .int c6, .int c7, .int c8, .int c9, .int 0, .int 0])] [] 5 716
  refine Go.castore (B := B_law) td_law 123 (vs' := [.int c0, .int c1, .int c2, .int c3, .int c4, .int c5, .int c6, .int c7, .int c8, .int c9, .int c10, .int 0]) rfl (own_inB 12 rfl (by decide)) (by rw [chr16_id (lc_ch r10)]; rfl) ?_
  refine Go.run (B := B_law) td_law 124 7 (pc' := 227) (L' := [.val (.long nib), .second, .val (.int xl), .val (.int xm), .val (.int xw), .val (.int n), .val (.int fw), .val (.int (((Jvm.Free.XT.ushr xm (2 : Int32)) &&& (2147483647 : Int32)) % (13 : Int32))), .val (.ref ar), .unset, .unset, .unset, .unset, .unset]) (S' := [.int (((Jvm.Free.XT.ushr xm (2 : Int32)) &&& (2147483647 : Int32)) % (13 : Int32)), .int fw, .int xw, .int (11 : Int32), .long nib, .int (11 : Int32), .ref ar]) rfl ?_
  refine Go.callS (B := B_law) td_law 131 (B' := B_pki) (argsL := [.long nib, .int (11 : Int32), .int xw, .int fw, .int (((Jvm.Free.XT.ushr xm (2 : Int32)) &&& (2147483647 : Int32)) % (13 : Int32))]) (rest := [.int (11 : Int32), .ref ar]) (W := 2) rfl (pki_met K (by decide)) (w_2 K) (w_3 K) (w_4 K) (w_5 K) (by decide) pd_pki rfl rfl rfl rfl (Nat.le_of_eq rfl) (by decide) (by decide) (by decide) (by decide) ?_
  rintro _ _ _ ⟨c11, rfl, r11, rfl, rfl⟩
  show Go A B_law D _ 230 [.val (.long nib), .second, .val (.int xl), .val (.int xm), .val (.int xw), .val (.int n), .val (.int fw), .val (.int (((Jvm.Free.XT.ushr xm (2 : Int32)) &&& (2147483647 : Int32)) % (13 : Int32))), .val (.ref ar), .unset, .unset, .unset, .unset, .unset] [.int c11, .int (11 : Int32), .ref ar] [(ar, ArrP A .char [.int c0, .int c1, .int c2, .int c3, .int c4, .int c5, .int c6, .int c7, .int c8, .int c9, .int c10, .int 0])] [] 5 780
  refine Go.castore (B := B_law) td_law 132 (vs' := [.int c0, .int c1, .int c2, .int c3, .int c4, .int c5, .int c6, .int c7, .int c8, .int c9, .int c10, .int c11]) rfl (own_inB 12 rfl (by decide)) (by rw [chr16_id (lc_ch r11)]; rfl) ?_
  rcases hn with h | h | h | h | h | h | h | h | h | h | h | h | h
  · rw [h]; exact seg_0 K r0 r1 r2 r3 r4 r5 r6 r7 r8 r9 r10 r11
  · rw [h]; exact seg_1 K r0 r1 r2 r3 r4 r5 r6 r7 r8 r9 r10 r11
  · rw [h]; exact seg_2 K r0 r1 r2 r3 r4 r5 r6 r7 r8 r9 r10 r11
  · rw [h]; exact seg_3 K r0 r1 r2 r3 r4 r5 r6 r7 r8 r9 r10 r11
  · rw [h]; exact seg_4 K r0 r1 r2 r3 r4 r5 r6 r7 r8 r9 r10 r11
  · rw [h]; exact seg_5 K r0 r1 r2 r3 r4 r5 r6 r7 r8 r9 r10 r11
  · rw [h]; exact seg_6 K r0 r1 r2 r3 r4 r5 r6 r7 r8 r9 r10 r11
  · rw [h]; exact seg_7 K r0 r1 r2 r3 r4 r5 r6 r7 r8 r9 r10 r11
  · rw [h]; exact seg_8 K r0 r1 r2 r3 r4 r5 r6 r7 r8 r9 r10 r11
  · rw [h]; exact seg_9 K r0 r1 r2 r3 r4 r5 r6 r7 r8 r9 r10 r11
  · rw [h]; exact seg_10 K r0 r1 r2 r3 r4 r5 r6 r7 r8 r9 r10 r11
  · rw [h]; exact seg_11 K r0 r1 r2 r3 r4 r5 r6 r7 r8 r9 r10 r11
  · rw [h]; exact seg_12 K r0 r1 r2 r3 r4 r5 r6 r7 r8 r9 r10 r11
theorem own_entry {as' : Array Value} {n : Nat} {L : List Slot} (h : Jvm.Sym.laidSlots as'.toList ++ List.replicate (n - (Jvm.Sym.laidSlots as'.toList).length) .unset = L) (m : MethodId) : entryFrame m as' n = mkF m 0 L.toArray [] := by
  have e : argsToLocals as' n = L.toArray := Array.ext' (by rw [Jvm.Sym.argsToLocals_toList, h])
  show ({ method := m, pc := 0, locals := argsToLocals as' n, stack := [], locked := none } : JFrame) = _
  rw [e]
set_option maxRecDepth 65536 in
set_option maxHeartbeats 4000000 in
theorem law_met {A : Ax} (K : Wd A) (nib : Int64) (xl xm xw : Int32) : MetW tables_1 A B_law #[.long nib, .int xl, .int xm, .int xw] [] [] (fun v _ _ => v = some (.int 1)) := by
  refine MetW.of_go pn_law K.ew (L := [.val (.long nib), .second, .val (.int xl), .val (.int xm), .val (.int xw), .unset, .unset, .unset, .unset, .unset, .unset, .unset, .unset, .unset]) (own_entry rfl) ?_
  intro D _
  refine Go.run (B := B_law) td_law 0 1 (pc' := 1) (L' := [.val (.long nib), .second, .val (.int xl), .val (.int xm), .val (.int xw), .unset, .unset, .unset, .unset, .unset, .unset, .unset, .unset, .unset]) (S' := [.int xl]) rfl ?_
  refine Go.ldcI (B := B_law) td_law 1 rfl (w_0 K) ?_
  refine Go.run (B := B_law) td_law 2 2 (pc' := 6) (L' := [.val (.long nib), .second, .val (.int xl), .val (.int xm), .val (.int xw), .unset, .unset, .unset, .unset, .unset, .unset, .unset, .unset, .unset]) (S' := [.int (13 : Int32), .int (xl &&& (2147483647 : Int32))]) rfl ?_
  refine Go.irem (B := B_law) td_law 4 rfl (by decide) ?_
  refine Go.run (B := B_law) td_law 5 4 (pc' := 12) (L' := [.val (.long nib), .second, .val (.int xl), .val (.int xm), .val (.int xw), .val (.int ((xl &&& (2147483647 : Int32)) % (13 : Int32))), .unset, .unset, .unset, .unset, .unset, .unset, .unset, .unset]) (S' := [.int (xm &&& (3 : Int32))]) rfl ?_
  refine Go.if0 (B := B_law) td_law 9 (pc' := 19) rfl (by decide) rfl ?_ ?_
  · intro (h : (xm &&& (3 : Int32)) ≠ 0)
    refine Go.run (B := B_law) td_law 12 1 (pc' := 20) (L' := [.val (.long nib), .second, .val (.int xl), .val (.int xm), .val (.int xw), .val (.int ((xl &&& (2147483647 : Int32)) % (13 : Int32))), .unset, .unset, .unset, .unset, .unset, .unset, .unset, .unset]) (S' := [.int (0 : Int32)]) rfl ?_
    exact sega K (mod13 xl)
  · intro (h : ¬ ((xm &&& (3 : Int32)) ≠ 0))
    refine Go.run (B := B_law) td_law 10 2 (pc' := 20) (L' := [.val (.long nib), .second, .val (.int xl), .val (.int xm), .val (.int xw), .val (.int ((xl &&& (2147483647 : Int32)) % (13 : Int32))), .unset, .unset, .unset, .unset, .unset, .unset, .unset, .unset]) (S' := [.int (1 : Int32)]) rfl ?_
    exact sega K (mod13 xl)
--CUT
set_option maxRecDepth 65536 in
set_option maxHeartbeats 4000000 in
theorem comes_1 {Post : Tables → Env → Array Value → State → Outcome → State → Prop} (hpost : ∀ tb e args s v u, (limb_1_1.after args s (.returned v) u = true ∧ limb_1_2.after args s (.returned v) u = true ∧ True) → FramedW s (.returned v) u (Jvm.fieldLocs frame_1_writes args s ++ Jvm.arrayLocs frame_1_arrays args s ++ Jvm.staticLocs frame_1_statics s) 24 4288 → Post tb e args s (.returned v) u) :
    ArmFor flags0 classFile x code maxLocals ret World_1 tables_1 room_1 Calls_1 rest_1 Pre_1 Post := by
  intro l hfl _ _ p e ha hc hk s m args below hf hA hF happ hP
  obtain ⟨hcalls, hrest, hpre⟩ := hP
  obtain ⟨-, -, -, hnamed, -, -, -, hat⟩ := (Spec.applies_iff hf).mp happ
  obtain ⟨hg, hn⟩ := and_e (Cond.before_iff.mp (show (Jvm.Cond.and given_1 narrow_1).before args s = true from hpre))
  obtain ⟨h1, g0⟩ := and_e hg
  obtain ⟨q0, g1⟩ := and_e g0
  obtain ⟨q1, g2⟩ := and_e g1
  obtain ⟨q2, g3⟩ := and_e g2
  have q3 := g3
  obtain ⟨w0, w1, w2, w3, rfl⟩ : ∃ w0 w1 w2 w3 : Value, args = #[w0, w1, w2, w3] := by
    have hs : args.size = 4 := by simpa [Cond.value, given_1] using h1
    obtain ⟨L⟩ := args
    match L, hs with
    | [w0, w1, w2, w3], _ => exact ⟨w0, w1, w2, w3, rfl⟩
  have hw := fun d (hd : d ∈ tables_1) => atoms_spec (ws := Jvm.Cond.code x code maxLocals ret :: tables_1) hat d (List.mem_cons_of_mem _ hd)
  obtain ⟨i0, e0⟩ := isL_v q0
  obtain rfl : w0 = (.long i0) := Option.some.inj e0
  obtain ⟨i1, e1⟩ := is_v q1
  obtain rfl : w1 = (.int i1) := Option.some.inj e1
  obtain ⟨i2, e2⟩ := is_v q2
  obtain rfl : w2 = (.int i2) := Option.some.inj e2
  obtain ⟨i3, e3⟩ := is_v q3
  obtain rfl : w3 = (.int i3) := Option.some.inj e3
  let A : Ax := (l, s, #[.long i0, .int i1, .int i2, .int i3], consts_1, true)
  obtain ⟨hsets, hown0⟩ := atoms_of _ (rest_1_c_eq ▸ (show rest_1_c.before _ s = true from hrest))
  have n5 := not_v (Cond.before_iff.mp (hsets _ (List.mem_of_getElem? (i := 2) rfl)))
  obtain ⟨zc, ec⟩ := is_v (Cond.before_iff.mp (hsets _ (List.mem_of_getElem? (i := 1) rfl)))
  have Sc : Sta s s.heap "java/lang/String" "COMPACT_STRINGS" "Z" (.int zc) := Sta.start ec (Or.inl (hsets _ (List.mem_of_getElem? (i := 0) rfl)))
  have nc : ¬ (zc = (0 : Int32)) := gotF (Cond.eq_ints ec (Term.int_eval (0))) n5
  obtain ⟨vf, ef, rf⟩ := isR_v (Cond.before_iff.mp (hsets _ (List.mem_of_getElem? (i := 8) rfl)))
  have Sf : Sta s s.heap "jdk/internal/util/Preconditions" "SIOOBE_FORMATTER" "Ljava/util/function/BiFunction;" vf := Sta.start ef (Or.inl (hsets _ (List.mem_of_getElem? (i := 7) rfl)))
  have hEW : EW s A.a0 consts_1 := (EW.cons (hw _ (List.mem_of_getElem? (i := 71) rfl)) (by decide) (EW.cons (hw _ (List.mem_of_getElem? (i := 99) rfl)) (by decide) (EW.cons (hw _ (List.mem_of_getElem? (i := 7) rfl)) (by decide) (EW.cons (hw _ (List.mem_of_getElem? (i := 95) rfl)) (by decide) EW.nil))))
  have K : Wd A := ⟨hw, hEW, rfl, rfl, ⟨zc, nc, Sc⟩, ⟨vf, rf, Sf⟩⟩
  have hC : CHv s consts_1 s.vm s.heap := CHv.start hEW hcalls.1 (hsets _ (List.mem_of_getElem? (i := 2) rfl)) (hw _ (List.mem_of_getElem? (i := 10) rfl)) (hw _ (List.mem_of_getElem? (i := 9) rfl))
  have H : Hp s consts_1 s.vm s.heap [] [] := ⟨own_ext_refl _, fun _ q => (nomatch q), fun _ q => (nomatch q), List.nodup_nil, fun _ q => (nomatch q)⟩
  obtain ⟨n, o, h1, h2, h3, v, L, F', G', rfl, rfl, -, hN, -, hq⟩ := law_met K i0 i1 i2 i3 p e ha hc hk s m _ below hf ((Spec.applies_iff_loose hf).mp happ).1 ⟨rfl, State.Warmed39.refl s, hC, H⟩ trivial
  refine ⟨n, _, h1, h2, h3, hpost _ _ _ _ _ _ ⟨Cond.after_iff.mpr rfl, Cond.after_iff.mpr (eq_i res_at (Term.int_eval (1)) rfl), trivial⟩ ⟨hq.1, hq.2.1, hq.2.2.1, (hq.2.2.2.sift fun y hy => Or.inr (hN.1 y hy)).mono (by decide) (by decide)⟩⟩
theorem main_1_1 : Claimed_1_1 := comes_1 fun _ _ _ _ _ _ h hF => ⟨h.1, hF⟩
theorem main_1_2 : Claimed_1_2 := comes_1 fun _ _ _ _ _ _ h hF => ⟨h.2.1, hF⟩
end Jvm.Pilot.@@N@@
namespace Jvm.Pilot.@@N@@
open Jvm Jvm.ClassFile Sem Op Lib Jvm.Free Jvm.Stand Jvm.Pilot.@@N@@.Jvm.D
/-! MADE BY PROGRAM (witnessworld.py) out of the Statement's table words and the real class files: 21 classes; the members and pool entries that the words name. The judged class is class 1, her method 1. -/
namespace start1
open Jvm.ClassFile
def u (s : String) : CpInfo := .utf8 (stringToUtf16 s)
/-- a pool by its gaps: so many unusable entries, then the entry; so many at the end -/
def gap : Nat → List CpInfo → List CpInfo
  | 0, r => r
  | n + 1, r => .unusable :: gap n r
def poolList (es : List (Nat × CpInfo)) (last : Nat) : List CpInfo := es.foldr (fun e r => gap e.1 (e.2 :: r)) (gap last [])
def pool (es : List (Nat × CpInfo)) (last : Nat) : Array CpInfo := ⟨poolList es last⟩
def fileOf (pool : Array CpInfo) (this : Nat) (attrs : Array Attribute := #[]) (ms : Array MethodInfo := #[]) (fl : Nat := 33) (sup : Nat := 0) (ifs : Array Nat := #[]) (fds : Array FieldInfo := #[]) : ClassFile where
  minorVersion := 0
  majorVersion := 65
  constantPool := pool
  accessFlags := fl
  thisClass := this
  superClass := sup
  interfaces := ifs
  fields := fds
  methods := ms
  attributes := attrs
def plain (name : String) (sup : Option ClassId) : Class where
  name := name
  kind := .ordinary
  loader := none
  accessFlags := 33
  super := sup
  interfaces := #[]
  cf := none
  fields := #[]
  methods := #[]
  instanceTypes := #[]
  staticTypes := #[]
  resolved := #[]
  callSites := []
  init := .initialized
  statics := none
  mirror := none

def pool0 : Array CpInfo := pool [(5, u "<init>"), (0, u "()V"), (1, .class_ 10), (1, u "java/lang/Object")] 113

def k0c0 : Code := { maxStack := 0, maxLocals := 1, code := object_method_1_code, exceptionTable := #[], attributes := #[] }
def k0m0 : Method := { name := "<init>", desc := "()V", sig := { parameters := [], returnType := none }, accessFlags := 1, code := some k0c0 }
/-- java/lang/Object -/
def k0 : Class := { plain "java/lang/Object" none with
  accessFlags := 33
  interfaces := #[]
  cf := some (fileOf pool0 8 #[] #[{ accessFlags := 1, nameIndex := 5, descriptorIndex := 6, attributes := #[] }] 33 0 #[] #[])
  fields := #[]
  methods := #[k0m0]
  instanceTypes := #[]
  staticTypes := #[]
  resolved := Array.replicate 124 none
  statics := none }

def pool1 : Array CpInfo := pool [(2, .class_ 4), (1, u "java/lang/Object"), (0, u "<init>"), (0, u "()V"), (0, .integer 2147483647), (0, .methodref 9 10), (0, .class_ 11), (0, .nameAndType 12 13), (0, u "com/example/hedgewire/hedgewire/CommandSyntaxIsVersionPinLaw"), (0, u "pick"), (0, u "(JIIZI)C"), (0, .methodref 9 15), (0, .nameAndType 16 17), (0, u "make"), (0, u "([CI)Ljava/lang/String;"), (0, .methodref 9 19), (0, .nameAndType 20 21), (0, u "f"), (0, u "([CII)Z"), (0, .methodref 9 23), (0, .nameAndType 24 21), (0, u "v"), (0, .methodref 26 27), (0, .class_ 28), (0, .nameAndType 29 30), (0, u "com/example/hedgewire/hedgewire/CommandSyntax"), (0, u "isVersion"), (0, u "(Ljava/lang/String;)Z"), (0, .string 32), (0, u "--version"), (0, .methodref 34 35), (0, .class_ 36), (0, .nameAndType 37 38), (0, u "java/lang/String"), (0, u "charAt"), (0, u "(I)C"), (0, .long 15), (1, .string 42), (0, u "-hVversionH=-hV"), (0, .methodref 34 44), (0, .nameAndType 5 45), (0, u "([C)V"), (2, u "law"), (0, u "(JIII)Z")] 5

def k1m0 : Method := { name := "<init>", desc := "()V", sig := { parameters := [], returnType := none }, accessFlags := 1, code := none }
def k1c1 : Code := { maxStack := 8, maxLocals := 14, code := code, exceptionTable := #[], attributes := #[] }
def k1m1 : Method := { name := "law", desc := "(JIII)Z", sig := { parameters := [.long, .int, .int, .int], returnType := some .boolean }, accessFlags := 9, code := some k1c1 }
def k1c2 : Code := { maxStack := 2, maxLocals := 3, code := method_3_code, exceptionTable := #[], attributes := #[] }
def k1m2 : Method := { name := "f", desc := "([CII)Z", sig := { parameters := [(.array .char), .int, .int], returnType := some .boolean }, accessFlags := 10, code := some k1c2 }
def k1c3 : Code := { maxStack := 2, maxLocals := 3, code := method_4_code, exceptionTable := #[], attributes := #[] }
def k1m3 : Method := { name := "v", desc := "([CII)Z", sig := { parameters := [(.array .char), .int, .int], returnType := some .boolean }, accessFlags := 10, code := some k1c3 }
def k1c4 : Code := { maxStack := 4, maxLocals := 7, code := method_5_code, exceptionTable := #[], attributes := #[] }
def k1m4 : Method := { name := "pick", desc := "(JIIZI)C", sig := { parameters := [.long, .int, .int, .boolean, .int], returnType := some .char }, accessFlags := 10, code := some k1c4 }
def k1c5 : Code := { maxStack := 7, maxLocals := 2, code := method_6_code, exceptionTable := #[], attributes := #[] }
def k1m5 : Method := { name := "make", desc := "([CI)Ljava/lang/String;", sig := { parameters := [(.array .char), .int], returnType := some (.object "java/lang/String") }, accessFlags := 10, code := some k1c5 }
/-- com/example/hedgewire/hedgewire/CommandSyntaxIsVersionPinLaw -/
def k1 : Class := { plain "com/example/hedgewire/hedgewire/CommandSyntaxIsVersionPinLaw" (some 0) with
  accessFlags := 49
  interfaces := #[]
  cf := some (fileOf pool1 9 #[] #[{ accessFlags := 1, nameIndex := 5, descriptorIndex := 6, attributes := #[] }, { accessFlags := 9, nameIndex := 48, descriptorIndex := 49, attributes := #[] }, { accessFlags := 10, nameIndex := 20, descriptorIndex := 21, attributes := #[] }, { accessFlags := 10, nameIndex := 24, descriptorIndex := 21, attributes := #[] }, { accessFlags := 10, nameIndex := 12, descriptorIndex := 13, attributes := #[] }, { accessFlags := 10, nameIndex := 16, descriptorIndex := 17, attributes := #[] }] 49 2 #[] #[])
  fields := #[]
  methods := #[k1m0, k1m1, k1m2, k1m3, k1m4, k1m5]
  instanceTypes := #[]
  staticTypes := #[]
  resolved := Array.replicate 55 none
  statics := none }

def pool2 : Array CpInfo := pool [(1, .class_ 2), (0, u "java/io/Serializable"), (0, .class_ 4), (0, u "java/lang/Object")] 2

/-- java/io/Serializable -/
def k2 : Class := { plain "java/io/Serializable" (some 0) with
  accessFlags := 1537
  interfaces := #[]
  cf := some (fileOf pool2 1 #[] #[] 1537 3 #[] #[])
  fields := #[]
  methods := #[]
  instanceTypes := #[]
  staticTypes := #[]
  resolved := Array.replicate 7 none
  statics := none }

def pool3 : Array CpInfo := pool [(1, .class_ 2), (0, u "java/lang/Comparable"), (0, .class_ 4), (0, u "java/lang/Object")] 7

/-- java/lang/Comparable -/
def k3 : Class := { plain "java/lang/Comparable" (some 0) with
  accessFlags := 1537
  interfaces := #[]
  cf := some (fileOf pool3 1 #[] #[] 1537 3 #[] #[])
  fields := #[]
  methods := #[]
  instanceTypes := #[]
  staticTypes := #[]
  resolved := Array.replicate 12 none
  statics := none }

def pool4 : Array CpInfo := pool [(2, .class_ 4), (1, u "java/lang/CharSequence"), (42, .class_ 48), (0, u "java/lang/CharSequence$1CodePointIterator"), (10, .class_ 60), (0, u "java/lang/CharSequence$1CharIterator"), (5, .class_ 67), (0, u "java/lang/Object")] 63

/-- java/lang/CharSequence -/
def k4 : Class := { plain "java/lang/CharSequence" (some 0) with
  accessFlags := 1537
  interfaces := #[]
  cf := some (fileOf pool4 2 #[.nestMembers #[47, 59]] #[] 1537 66 #[] #[])
  fields := #[]
  methods := #[]
  instanceTypes := #[]
  staticTypes := #[]
  resolved := Array.replicate 131 none
  statics := none }

def pool5 : Array CpInfo := pool [(1, .class_ 2), (0, u "java/lang/constant/Constable"), (0, .class_ 4), (0, u "java/lang/Object")] 6

/-- java/lang/constant/Constable -/
def k5 : Class := { plain "java/lang/constant/Constable" (some 0) with
  accessFlags := 1537
  interfaces := #[]
  cf := some (fileOf pool5 1 #[] #[] 1537 3 #[] #[])
  fields := #[]
  methods := #[]
  instanceTypes := #[]
  staticTypes := #[]
  resolved := Array.replicate 11 none
  statics := none }

def pool6 : Array CpInfo := pool [(1, .class_ 2), (0, u "java/lang/constant/ConstantDesc"), (0, .class_ 4), (0, u "java/lang/Object")] 32

/-- java/lang/constant/ConstantDesc -/
def k6 : Class := { plain "java/lang/constant/ConstantDesc" (some 0) with
  accessFlags := 1537
  interfaces := #[]
  cf := some (fileOf pool6 1 #[] #[] 1537 3 #[] #[])
  fields := #[]
  methods := #[]
  instanceTypes := #[]
  staticTypes := #[]
  resolved := Array.replicate 37 none
  statics := none }

def pool7 : Array CpInfo := pool [(1, .methodref 2 3), (0, .class_ 4), (0, .nameAndType 5 6), (0, u "java/lang/Object"), (0, u "<init>"), (0, u "()V"), (0, .string 8), (0, u ""), (0, .fieldref 10 11), (0, .class_ 12), (0, .nameAndType 13 14), (0, u "java/lang/String"), (0, u "value"), (0, u "[B"), (0, .fieldref 10 16), (0, .nameAndType 17 18), (0, u "coder"), (0, u "B"), (2, u "hash"), (0, u "I"), (2, u "hashIsZero"), (0, u "Z"), (0, .methodref 10 28), (0, .nameAndType 5 29), (0, u "([CIILjava/lang/Void;)V"), (8, .fieldref 10 39), (0, .nameAndType 40 26), (0, u "COMPACT_STRINGS"), (1, .class_ 44), (1, u "java/lang/StringUTF16"), (0, u "compress"), (1, .methodref 42 48), (0, .nameAndType 49 50), (0, u "coderFromArrayLen"), (0, u "([BI)B"), (56, .class_ 109), (1, u "java/lang/StringLatin1"), (32, u "()Z"), (34, .methodref 42 178), (0, .nameAndType 45 179), (0, u "([CII)[B"), (154, u "()I"), (0, .methodref 10 336), (0, .nameAndType 17 337), (0, u "()B"), (25, u "([BI)C"), (27, u "(II)V"), (35, u "(I)C"), (64, .methodref 10 493), (0, .nameAndType 494 142), (0, u "isLatin1"), (0, .methodref 107 496), (0, .nameAndType 497 363), (0, u "charAt"), (3, u "checkIndex"), (3, .methodref 10 506), (0, .nameAndType 507 334), (0, u "length"), (33, .methodref 107 542), (0, .nameAndType 543 544), (0, u "equals"), (0, u "([B[B)Z"), (28, u "(Ljava/lang/Object;)Z"), (1, .class_ 576), (0, u "java/lang/CharSequence"), (22, u "CASE_INSENSITIVE_ORDER"), (0, u "Ljava/util/Comparator;"), (32, .methodref 10 634), (0, .nameAndType 635 636), (0, u "indexOf"), (0, u "(II)I"), (0, .methodref 107 638), (0, .nameAndType 635 639), (0, u "([BIII)I"), (125, u "(I)I"), (244, u "([C)V"), (42, .fieldref 1054 1055), (0, .class_ 1056), (0, .nameAndType 1057 1058), (0, u "jdk/internal/util/Preconditions"), (0, u "SIOOBE_FORMATTER"), (0, u "Ljava/util/function/BiFunction;"), (0, .methodref 1054 1060), (0, .nameAndType 501 1061), (0, u "(IILjava/util/function/BiFunction;)I"), (39, u "serialPersistentFields"), (0, u "[Ljava/io/ObjectStreamField;"), (0, .class_ 1104), (0, u "java/lang/String$CaseInsensitiveComparator"), (1, .class_ 1107), (0, u "java/io/Serializable"), (0, .class_ 1109), (0, u "java/lang/Comparable"), (0, .class_ 1111), (0, u "java/lang/constant/Constable"), (0, .class_ 1113), (0, u "java/lang/constant/ConstantDesc"), (2, u "serialVersionUID"), (0, u "J"), (3, u "REPL"), (0, u "C"), (2, u "LATIN1"), (1, u "UTF16")] 323

def k7m0 : Method := { name := "<init>", desc := "()V", sig := { parameters := [], returnType := none }, accessFlags := 1, code := none }
def k7c1 : Code := { maxStack := 5, maxLocals := 2, code := jdk_42_method_3_code, exceptionTable := #[], attributes := #[] }
def k7m1 : Method := { name := "<init>", desc := "([C)V", sig := { parameters := [(.array .char)], returnType := none }, accessFlags := 1, code := some k7c1 }
def k7c2 : Code := { maxStack := 2, maxLocals := 1, code := jdk_42_method_54_code, exceptionTable := #[], attributes := #[] }
def k7m2 : Method := { name := "length", desc := "()I", sig := { parameters := [], returnType := some .int }, accessFlags := 1, code := some k7c2 }
def k7c3 : Code := { maxStack := 2, maxLocals := 2, code := jdk_42_method_56_code, exceptionTable := #[], attributes := #[] }
def k7m3 : Method := { name := "charAt", desc := "(I)C", sig := { parameters := [.int], returnType := some .char }, accessFlags := 1, code := some k7c3 }
def k7c4 : Code := { maxStack := 2, maxLocals := 3, code := jdk_42_method_66_code, exceptionTable := #[], attributes := #[] }
def k7m4 : Method := { name := "equals", desc := "(Ljava/lang/Object;)Z", sig := { parameters := [(.object "java/lang/Object")], returnType := some .boolean }, accessFlags := 1, code := some k7c4 }
def k7c5 : Code := { maxStack := 3, maxLocals := 2, code := jdk_42_method_79_code, exceptionTable := #[], attributes := #[] }
def k7m5 : Method := { name := "indexOf", desc := "(I)I", sig := { parameters := [.int], returnType := some .int }, accessFlags := 1, code := some k7c5 }
def k7c6 : Code := { maxStack := 4, maxLocals := 3, code := jdk_42_method_80_code, exceptionTable := #[], attributes := #[] }
def k7m6 : Method := { name := "indexOf", desc := "(II)I", sig := { parameters := [.int, .int], returnType := some .int }, accessFlags := 1, code := some k7c6 }
def k7c7 : Code := { maxStack := 4, maxLocals := 6, code := jdk_42_method_149_code, exceptionTable := #[], attributes := #[] }
def k7m7 : Method := { name := "<init>", desc := "([CIILjava/lang/Void;)V", sig := { parameters := [(.array .char), .int, .int, (.object "java/lang/Void")], returnType := none }, accessFlags := 2, code := some k7c7 }
def k7c8 : Code := { maxStack := 1, maxLocals := 1, code := jdk_42_method_152_code, exceptionTable := #[], attributes := #[] }
def k7m8 : Method := { name := "coder", desc := "()B", sig := { parameters := [], returnType := some .byte }, accessFlags := 0, code := some k7c8 }
def k7c9 : Code := { maxStack := 1, maxLocals := 1, code := jdk_42_method_154_code, exceptionTable := #[], attributes := #[] }
def k7m9 : Method := { name := "isLatin1", desc := "()Z", sig := { parameters := [], returnType := some .boolean }, accessFlags := 0, code := some k7c9 }
def k7c10 : Code := { maxStack := 3, maxLocals := 2, code := jdk_42_method_155_code, exceptionTable := #[], attributes := #[] }
def k7m10 : Method := { name := "checkIndex", desc := "(II)V", sig := { parameters := [.int, .int], returnType := none }, accessFlags := 8, code := some k7c10 }
/-- java/lang/String -/
def k7 : Class := { plain "java/lang/String" (some 0) with
  accessFlags := 49
  interfaces := #[2, 3, 4, 5, 6]
  cf := some (fileOf pool7 10 #[.nestMembers #[1103]] #[{ accessFlags := 1, nameIndex := 5, descriptorIndex := 6, attributes := #[] }, { accessFlags := 1, nameIndex := 5, descriptorIndex := 1010, attributes := #[] }, { accessFlags := 1, nameIndex := 507, descriptorIndex := 334, attributes := #[] }, { accessFlags := 1, nameIndex := 497, descriptorIndex := 427, attributes := #[] }, { accessFlags := 1, nameIndex := 543, descriptorIndex := 573, attributes := #[] }, { accessFlags := 1, nameIndex := 635, descriptorIndex := 765, attributes := #[] }, { accessFlags := 1, nameIndex := 635, descriptorIndex := 636, attributes := #[] }, { accessFlags := 2, nameIndex := 5, descriptorIndex := 29, attributes := #[] }, { accessFlags := 0, nameIndex := 17, descriptorIndex := 337, attributes := #[] }, { accessFlags := 0, nameIndex := 494, descriptorIndex := 142, attributes := #[] }, { accessFlags := 8, nameIndex := 501, descriptorIndex := 391, attributes := #[] }] 49 2 #[1106, 1108, 575, 1110, 1112] #[{ accessFlags := 18, nameIndex := 13, descriptorIndex := 14, attributes := #[] }, { accessFlags := 18, nameIndex := 17, descriptorIndex := 18, attributes := #[] }, { accessFlags := 2, nameIndex := 21, descriptorIndex := 22, attributes := #[] }, { accessFlags := 2, nameIndex := 25, descriptorIndex := 26, attributes := #[] }, { accessFlags := 26, nameIndex := 1116, descriptorIndex := 1117, attributes := #[] }, { accessFlags := 24, nameIndex := 40, descriptorIndex := 26, attributes := #[] }, { accessFlags := 26, nameIndex := 1101, descriptorIndex := 1102, attributes := #[] }, { accessFlags := 26, nameIndex := 1121, descriptorIndex := 1122, attributes := #[] }, { accessFlags := 25, nameIndex := 599, descriptorIndex := 600, attributes := #[] }, { accessFlags := 24, nameIndex := 1125, descriptorIndex := 18, attributes := #[] }, { accessFlags := 24, nameIndex := 1127, descriptorIndex := 18, attributes := #[] }])
  fields := #[{ name := "value", type := (.array .byte), accessFlags := 18, slot := 0, constantValue := 0 }, { name := "coder", type := .byte, accessFlags := 18, slot := 1, constantValue := 0 }, { name := "hash", type := .int, accessFlags := 2, slot := 2, constantValue := 0 }, { name := "hashIsZero", type := .boolean, accessFlags := 2, slot := 3, constantValue := 0 }, { name := "serialVersionUID", type := .long, accessFlags := 26, slot := 0, constantValue := 0 }, { name := "COMPACT_STRINGS", type := .boolean, accessFlags := 24, slot := 1, constantValue := 0 }, { name := "serialPersistentFields", type := (.array (.object "java/io/ObjectStreamField")), accessFlags := 26, slot := 2, constantValue := 0 }, { name := "REPL", type := .char, accessFlags := 26, slot := 3, constantValue := 0 }, { name := "CASE_INSENSITIVE_ORDER", type := (.object "java/util/Comparator"), accessFlags := 25, slot := 4, constantValue := 0 }, { name := "LATIN1", type := .byte, accessFlags := 24, slot := 5, constantValue := 0 }, { name := "UTF16", type := .byte, accessFlags := 24, slot := 6, constantValue := 0 }]
  methods := #[k7m0, k7m1, k7m2, k7m3, k7m4, k7m5, k7m6, k7m7, k7m8, k7m9, k7m10]
  instanceTypes := #[(.array .byte), .byte, .int, .boolean]
  staticTypes := #[.long, .boolean, (.array (.object "java/io/ObjectStreamField")), .char, (.object "java/util/Comparator"), .byte, .byte]
  resolved := Array.replicate 1451 none
  statics := some 0 }

def pool8 : Array CpInfo := pool [(1, .class_ 2), (0, u "java/lang/String"), (1, .class_ 6), (1, u "java/lang/Object"), (0, u "<init>"), (0, u "()V"), (0, .methodref 1 10), (0, .nameAndType 11 12), (0, u "checkIndex"), (0, u "(II)V"), (1, .class_ 16), (1, u "java/lang/StringLatin1"), (21, .methodref 39 40), (0, .class_ 41), (0, .nameAndType 42 43), (0, u "java/lang/Math"), (0, u "min"), (0, u "(II)I"), (9, u "([BI)C"), (34, .methodref 14 89), (0, .nameAndType 90 91), (0, u "canEncode"), (0, u "(I)Z"), (0, .methodref 39 93), (0, .nameAndType 94 43), (0, u "max"), (0, .methodref 14 96), (0, .nameAndType 97 98), (0, u "indexOfChar"), (0, u "([BIII)I"), (2, u "indexOf"), (19, u "$assertionsDisabled"), (0, u "Z"), (98, .class_ 223), (1, u "java/lang/StringLatin1$LinesSpliterator"), (28, u "charAt"), (28, u "equals"), (0, u "([B[B)Z"), (107, .class_ 391), (0, u "java/lang/StringLatin1$CharsSpliterator")] 3

def k8m0 : Method := { name := "<init>", desc := "()V", sig := { parameters := [], returnType := none }, accessFlags := 0, code := none }
def k8c1 : Code := { maxStack := 2, maxLocals := 2, code := jdk_43_method_2_code, exceptionTable := #[], attributes := #[] }
def k8m1 : Method := { name := "charAt", desc := "([BI)C", sig := { parameters := [(.array .byte), .int], returnType := some .char }, accessFlags := 9, code := some k8c1 }
def k8c2 : Code := { maxStack := 2, maxLocals := 1, code := jdk_43_method_4_code, exceptionTable := #[], attributes := #[] }
def k8m2 : Method := { name := "canEncode", desc := "(I)Z", sig := { parameters := [.int], returnType := some .boolean }, accessFlags := 9, code := some k8c2 }
def k8c3 : Code := { maxStack := 3, maxLocals := 3, code := jdk_43_method_13_code, exceptionTable := #[], attributes := #[] }
def k8m3 : Method := { name := "equals", desc := "([B[B)Z", sig := { parameters := [(.array .byte), (.array .byte)], returnType := some .boolean }, accessFlags := 9, code := some k8c3 }
def k8c4 : Code := { maxStack := 4, maxLocals := 4, code := jdk_43_method_22_code, exceptionTable := #[], attributes := #[] }
def k8m4 : Method := { name := "indexOf", desc := "([BIII)I", sig := { parameters := [(.array .byte), .int, .int, .int], returnType := some .int }, accessFlags := 9, code := some k8c4 }
def k8c5 : Code := { maxStack := 2, maxLocals := 6, code := jdk_43_method_23_code, exceptionTable := #[], attributes := #[] }
def k8m5 : Method := { name := "indexOfChar", desc := "([BIII)I", sig := { parameters := [(.array .byte), .int, .int, .int], returnType := some .int }, accessFlags := 10, code := some k8c5 }
/-- java/lang/StringLatin1 -/
def k8 : Class := { plain "java/lang/StringLatin1" (some 0) with
  accessFlags := 48
  interfaces := #[]
  cf := some (fileOf pool8 14 #[.nestMembers #[390, 221]] #[{ accessFlags := 0, nameIndex := 7, descriptorIndex := 8, attributes := #[] }, { accessFlags := 9, nameIndex := 252, descriptorIndex := 53, attributes := #[] }, { accessFlags := 9, nameIndex := 90, descriptorIndex := 91, attributes := #[] }, { accessFlags := 9, nameIndex := 281, descriptorIndex := 282, attributes := #[] }, { accessFlags := 9, nameIndex := 101, descriptorIndex := 98, attributes := #[] }, { accessFlags := 10, nameIndex := 97, descriptorIndex := 98, attributes := #[] }] 48 4 #[] #[{ accessFlags := 4120, nameIndex := 121, descriptorIndex := 122, attributes := #[] }])
  fields := #[{ name := "$assertionsDisabled", type := .boolean, accessFlags := 4120, slot := 0, constantValue := 0 }]
  methods := #[k8m0, k8m1, k8m2, k8m3, k8m4, k8m5]
  instanceTypes := #[]
  staticTypes := #[.boolean]
  resolved := Array.replicate 395 none
  statics := none }

def pool9 : Array CpInfo := pool [(2, .class_ 4), (1, u "java/lang/Object"), (0, u "<init>"), (0, u "()V"), (17, .class_ 26), (1, u "jdk/internal/util/Preconditions"), (6, u "checkIndex"), (21, .class_ 56), (0, u "jdk/internal/util/Preconditions$4"), (57, .class_ 115), (0, u "jdk/internal/util/Preconditions$1"), (7, u "SIOOBE_FORMATTER"), (0, u "Ljava/util/function/BiFunction;"), (0, .class_ 126), (0, u "jdk/internal/util/Preconditions$2"), (3, u "AIOOBE_FORMATTER"), (0, .class_ 132), (0, u "jdk/internal/util/Preconditions$3"), (3, u "IOOBE_FORMATTER"), (41, u "(IILjava/util/function/BiFunction;)I")] 15

def k9m0 : Method := { name := "<init>", desc := "()V", sig := { parameters := [], returnType := none }, accessFlags := 1, code := none }
def k9c1 : Code := { maxStack := 3, maxLocals := 3, code := jdk_41_method_11_code, exceptionTable := #[], attributes := #[] }
def k9m1 : Method := { name := "checkIndex", desc := "(IILjava/util/function/BiFunction;)I", sig := { parameters := [.int, .int, (.object "java/util/function/BiFunction")], returnType := some .int }, accessFlags := 9, code := some k9c1 }
/-- jdk/internal/util/Preconditions -/
def k9 : Class := { plain "jdk/internal/util/Preconditions" (some 0) with
  accessFlags := 33
  interfaces := #[]
  cf := some (fileOf pool9 24 #[.nestMembers #[55, 131, 125, 114]] #[{ accessFlags := 1, nameIndex := 5, descriptorIndex := 6, attributes := #[] }, { accessFlags := 9, nameIndex := 33, descriptorIndex := 178, attributes := #[] }] 33 2 #[] #[{ accessFlags := 25, nameIndex := 123, descriptorIndex := 124, attributes := #[] }, { accessFlags := 25, nameIndex := 130, descriptorIndex := 124, attributes := #[] }, { accessFlags := 25, nameIndex := 136, descriptorIndex := 124, attributes := #[] }])
  fields := #[{ name := "SIOOBE_FORMATTER", type := (.object "java/util/function/BiFunction"), accessFlags := 25, slot := 0, constantValue := 0 }, { name := "AIOOBE_FORMATTER", type := (.object "java/util/function/BiFunction"), accessFlags := 25, slot := 1, constantValue := 0 }, { name := "IOOBE_FORMATTER", type := (.object "java/util/function/BiFunction"), accessFlags := 25, slot := 2, constantValue := 0 }]
  methods := #[k9m0, k9m1]
  instanceTypes := #[]
  staticTypes := #[(.object "java/util/function/BiFunction"), (.object "java/util/function/BiFunction"), (.object "java/util/function/BiFunction")]
  resolved := Array.replicate 194 none
  statics := some 1 }

def pool10 : Array CpInfo := pool [(6, .class_ 8), (1, u "java/lang/Object"), (0, u "<init>"), (0, u "()V"), (1, .class_ 14), (1, u "java/lang/StringUTF16"), (31, u "$assertionsDisabled"), (0, u "Z"), (13, u "HI_BYTE_SHIFT"), (0, u "I"), (2, u "LO_BYTE_SHIFT"), (49, .methodref 12 116), (0, .nameAndType 117 118), (0, u "compress"), (0, u "([CI[BII)I"), (3, u "([CII)[B"), (138, u "coderFromArrayLen"), (0, u "([BI)B"), (106, .class_ 371), (1, u "java/lang/StringUTF16$LinesSpliterator"), (58, u "MAX_LENGTH"), (196, .class_ 628), (0, u "java/lang/StringUTF16$CodePointsSpliterator"), (0, .class_ 630), (0, u "java/lang/StringUTF16$CharsSpliterator")] 4

def k10m0 : Method := { name := "<init>", desc := "()V", sig := { parameters := [], returnType := none }, accessFlags := 0, code := none }
def k10c1 : Code := { maxStack := 2, maxLocals := 2, code := jdk_52_method_15_code, exceptionTable := #[], attributes := #[] }
def k10m1 : Method := { name := "coderFromArrayLen", desc := "([BI)B", sig := { parameters := [(.array .byte), .int], returnType := some .byte }, accessFlags := 8, code := some k10c1 }
def k10c2 : Code := { maxStack := 5, maxLocals := 6, code := jdk_52_method_16_code, exceptionTable := #[], attributes := #[] }
def k10m2 : Method := { name := "compress", desc := "([CII)[B", sig := { parameters := [(.array .char), .int, .int], returnType := some (.array .byte) }, accessFlags := 9, code := some k10c2 }
def k10c3 : Code := { maxStack := 3, maxLocals := 7, code := jdk_52_method_21_code, exceptionTable := #[], attributes := #[] }
def k10m3 : Method := { name := "compress", desc := "([CI[BII)I", sig := { parameters := [(.array .char), .int, (.array .byte), .int, .int], returnType := some .int }, accessFlags := 9, code := some k10c3 }
/-- java/lang/StringUTF16 -/
def k10 : Class := { plain "java/lang/StringUTF16" (some 0) with
  accessFlags := 48
  interfaces := #[]
  cf := some (fileOf pool10 12 #[.nestMembers #[627, 629, 369]] #[{ accessFlags := 0, nameIndex := 9, descriptorIndex := 10, attributes := #[] }, { accessFlags := 8, nameIndex := 261, descriptorIndex := 262, attributes := #[] }, { accessFlags := 9, nameIndex := 117, descriptorIndex := 122, attributes := #[] }, { accessFlags := 9, nameIndex := 117, descriptorIndex := 118, attributes := #[] }] 48 6 #[] #[{ accessFlags := 26, nameIndex := 61, descriptorIndex := 62, attributes := #[] }, { accessFlags := 26, nameIndex := 65, descriptorIndex := 62, attributes := #[] }, { accessFlags := 24, nameIndex := 430, descriptorIndex := 62, attributes := #[] }, { accessFlags := 4120, nameIndex := 46, descriptorIndex := 47, attributes := #[] }])
  fields := #[{ name := "HI_BYTE_SHIFT", type := .int, accessFlags := 26, slot := 0, constantValue := 0 }, { name := "LO_BYTE_SHIFT", type := .int, accessFlags := 26, slot := 1, constantValue := 0 }, { name := "MAX_LENGTH", type := .int, accessFlags := 24, slot := 2, constantValue := 0 }, { name := "$assertionsDisabled", type := .boolean, accessFlags := 4120, slot := 3, constantValue := 0 }]
  methods := #[k10m0, k10m1, k10m2, k10m3]
  instanceTypes := #[]
  staticTypes := #[.int, .int, .int, .boolean]
  resolved := Array.replicate 635 none
  statics := none }

def pool11 : Array CpInfo := pool [(2, .class_ 4), (1, u "java/lang/Object"), (6, .class_ 13), (1, u "com/example/hedgewire/hedgewire/CommandSyntax"), (0, u "parameters"), (0, u "Ljava/util/List;"), (2, u "options"), (2, u "oneOf"), (2, u "name"), (0, u "Ljava/lang/String;"), (2, u "description"), (0, .class_ 30), (0, u "com/example/hedgewire/hedgewire/CommandSyntax$Parameter"), (8, u "(Ljava/lang/Object;)Z"), (2, .methodref 43 44), (0, .class_ 45), (0, .nameAndType 46 39), (0, u "java/lang/String"), (0, u "equals"), (0, .methodref 11 48), (0, .nameAndType 49 50), (0, u "isShortFlags"), (0, u "(Ljava/lang/String;C)Z"), (0, .string 52), (0, u "--version"), (0, .methodref 43 54), (0, .nameAndType 55 56), (0, u "length"), (0, u "()I"), (0, .methodref 43 58), (0, .nameAndType 59 60), (0, u "charAt"), (0, u "(I)C"), (0, .methodref 43 62), (0, .nameAndType 63 64), (0, u "indexOf"), (0, u "(I)I"), (9, u "(Ljava/lang/String;)Z"), (2, u "isVersion"), (68, .class_ 147), (0, u "com/example/hedgewire/hedgewire/CommandSyntax$Option"), (18, .class_ 167), (0, u "com/example/hedgewire/hedgewire/CommandSyntax$Given"), (101, u "HELP"), (0, u "Lcom/example/hedgewire/hedgewire/CommandSyntax$Option;"), (2, u "VERSION"), (47, u "WIDTH"), (0, u "I"), (2, u "USAGE_COLUMN")] 91

def k11c0 : Code := { maxStack := 2, maxLocals := 1, code := prog_2_method_8_code, exceptionTable := #[], attributes := #[] }
def k11m0 : Method := { name := "isVersion", desc := "(Ljava/lang/String;)Z", sig := { parameters := [(.object "java/lang/String")], returnType := some .boolean }, accessFlags := 8, code := some k11c0 }
def k11c1 : Code := { maxStack := 2, maxLocals := 4, code := prog_2_method_9_code, exceptionTable := #[], attributes := #[] }
def k11m1 : Method := { name := "isShortFlags", desc := "(Ljava/lang/String;C)Z", sig := { parameters := [(.object "java/lang/String"), .char], returnType := some .boolean }, accessFlags := 10, code := some k11c1 }
/-- com/example/hedgewire/hedgewire/CommandSyntax -/
def k11 : Class := { plain "com/example/hedgewire/hedgewire/CommandSyntax" (some 0) with
  accessFlags := 48
  interfaces := #[]
  cf := some (fileOf pool11 11 #[.nestMembers #[166, 146, 29]] #[{ accessFlags := 8, nameIndex := 77, descriptorIndex := 74, attributes := #[] }, { accessFlags := 10, nameIndex := 49, descriptorIndex := 50, attributes := #[] }] 48 2 #[] #[{ accessFlags := 26, nameIndex := 321, descriptorIndex := 322, attributes := #[] }, { accessFlags := 24, nameIndex := 325, descriptorIndex := 322, attributes := #[] }, { accessFlags := 24, nameIndex := 269, descriptorIndex := 270, attributes := #[] }, { accessFlags := 24, nameIndex := 273, descriptorIndex := 270, attributes := #[] }, { accessFlags := 18, nameIndex := 24, descriptorIndex := 25, attributes := #[] }, { accessFlags := 18, nameIndex := 28, descriptorIndex := 25, attributes := #[] }, { accessFlags := 18, nameIndex := 14, descriptorIndex := 15, attributes := #[] }, { accessFlags := 18, nameIndex := 18, descriptorIndex := 15, attributes := #[] }, { accessFlags := 18, nameIndex := 21, descriptorIndex := 15, attributes := #[] }])
  fields := #[{ name := "WIDTH", type := .int, accessFlags := 26, slot := 0, constantValue := 0 }, { name := "USAGE_COLUMN", type := .int, accessFlags := 24, slot := 1, constantValue := 0 }, { name := "HELP", type := (.object "com/example/hedgewire/hedgewire/CommandSyntax$Option"), accessFlags := 24, slot := 2, constantValue := 0 }, { name := "VERSION", type := (.object "com/example/hedgewire/hedgewire/CommandSyntax$Option"), accessFlags := 24, slot := 3, constantValue := 0 }, { name := "name", type := (.object "java/lang/String"), accessFlags := 18, slot := 0, constantValue := 0 }, { name := "description", type := (.object "java/lang/String"), accessFlags := 18, slot := 1, constantValue := 0 }, { name := "parameters", type := (.object "java/util/List"), accessFlags := 18, slot := 2, constantValue := 0 }, { name := "options", type := (.object "java/util/List"), accessFlags := 18, slot := 3, constantValue := 0 }, { name := "oneOf", type := (.object "java/util/List"), accessFlags := 18, slot := 4, constantValue := 0 }]
  methods := #[k11m0, k11m1]
  instanceTypes := #[(.object "java/lang/String"), (.object "java/lang/String"), (.object "java/util/List"), (.object "java/util/List"), (.object "java/util/List")]
  staticTypes := #[.int, .int, (.object "com/example/hedgewire/hedgewire/CommandSyntax$Option"), (.object "com/example/hedgewire/hedgewire/CommandSyntax$Option")]
  resolved := Array.replicate 417 none
  statics := none }

def pool12 : Array CpInfo := pool [(1, .class_ 2), (0, u "java/lang/Math"), (1, .class_ 6), (1, u "java/lang/Object"), (0, u "<init>"), (0, u "()V"), (89, .class_ 100), (1, u "java/lang/Math$RandomNumberGeneratorHolder"), (71, u "negativeZeroFloatBits"), (0, u "J"), (2, u "negativeZeroDoubleBits"), (21, u "max"), (2, u "min"), (43, u "$assertionsDisabled"), (0, u "Z"), (88, u "(II)I"), (2, u "twoToTheDoubleScaleDown"), (0, u "D"), (4, u "twoToTheDoubleScaleUp"), (9, u "E"), (3, u "PI"), (2, u "TAU"), (2, u "DEGREES_TO_RADIANS"), (0, u "RADIANS_TO_DEGREES")] 94

def k12m0 : Method := { name := "<init>", desc := "()V", sig := { parameters := [], returnType := none }, accessFlags := 2, code := none }
def k12c1 : Code := { maxStack := 2, maxLocals := 2, code := jdk_29_method_65_code, exceptionTable := #[], attributes := #[] }
def k12m1 : Method := { name := "max", desc := "(II)I", sig := { parameters := [.int, .int], returnType := some .int }, accessFlags := 9, code := some k12c1 }
def k12c2 : Code := { maxStack := 2, maxLocals := 2, code := jdk_29_method_69_code, exceptionTable := #[], attributes := #[] }
def k12m2 : Method := { name := "min", desc := "(II)I", sig := { parameters := [.int, .int], returnType := some .int }, accessFlags := 9, code := some k12c2 }
/-- java/lang/Math -/
def k12 : Class := { plain "java/lang/Math" (some 0) with
  accessFlags := 49
  interfaces := #[]
  cf := some (fileOf pool12 1 #[.nestMembers #[98]] #[{ accessFlags := 2, nameIndex := 7, descriptorIndex := 8, attributes := #[] }, { accessFlags := 9, nameIndex := 198, descriptorIndex := 335, attributes := #[] }, { accessFlags := 9, nameIndex := 201, descriptorIndex := 335, attributes := #[] }] 49 4 #[] #[{ accessFlags := 25, nameIndex := 354, descriptorIndex := 339, attributes := #[] }, { accessFlags := 25, nameIndex := 358, descriptorIndex := 339, attributes := #[] }, { accessFlags := 25, nameIndex := 361, descriptorIndex := 339, attributes := #[] }, { accessFlags := 26, nameIndex := 364, descriptorIndex := 339, attributes := #[] }, { accessFlags := 26, nameIndex := 365, descriptorIndex := 339, attributes := #[] }, { accessFlags := 26, nameIndex := 172, descriptorIndex := 173, attributes := #[] }, { accessFlags := 26, nameIndex := 176, descriptorIndex := 173, attributes := #[] }, { accessFlags := 8, nameIndex := 344, descriptorIndex := 339, attributes := #[] }, { accessFlags := 8, nameIndex := 338, descriptorIndex := 339, attributes := #[] }, { accessFlags := 4120, nameIndex := 245, descriptorIndex := 246, attributes := #[] }])
  fields := #[{ name := "E", type := .double, accessFlags := 25, slot := 0, constantValue := 0 }, { name := "PI", type := .double, accessFlags := 25, slot := 1, constantValue := 0 }, { name := "TAU", type := .double, accessFlags := 25, slot := 2, constantValue := 0 }, { name := "DEGREES_TO_RADIANS", type := .double, accessFlags := 26, slot := 3, constantValue := 0 }, { name := "RADIANS_TO_DEGREES", type := .double, accessFlags := 26, slot := 4, constantValue := 0 }, { name := "negativeZeroFloatBits", type := .long, accessFlags := 26, slot := 5, constantValue := 0 }, { name := "negativeZeroDoubleBits", type := .long, accessFlags := 26, slot := 6, constantValue := 0 }, { name := "twoToTheDoubleScaleUp", type := .double, accessFlags := 8, slot := 7, constantValue := 0 }, { name := "twoToTheDoubleScaleDown", type := .double, accessFlags := 8, slot := 8, constantValue := 0 }, { name := "$assertionsDisabled", type := .boolean, accessFlags := 4120, slot := 9, constantValue := 0 }]
  methods := #[k12m0, k12m1, k12m2]
  instanceTypes := #[]
  staticTypes := #[.double, .double, .double, .double, .double, .long, .long, .double, .double, .boolean]
  resolved := Array.replicate 460 none
  statics := none }

def pool13 : Array CpInfo := pool [(9, u "<init>"), (6, .class_ 18), (1, u "java/lang/Object"), (0, u "()V"), (1, .class_ 23), (1, u "jdk/internal/util/ArraysSupport"), (0, u "LOG2_ARRAY_LONG_INDEX_SCALE"), (0, u "I"), (2, u "U"), (0, u "Ljdk/internal/misc/Unsafe;"), (8, u "BIG_ENDIAN"), (0, u "Z"), (8, u "LOG2_BYTE_BIT_SIZE"), (4, u "LOG2_ARRAY_INT_INDEX_SCALE"), (54, u "JLA"), (0, u "Ljdk/internal/access/JavaLangAccess;"), (11, u "LOG2_ARRAY_BOOLEAN_INDEX_SCALE"), (9, u "LOG2_ARRAY_BYTE_INDEX_SCALE"), (5, u "LOG2_ARRAY_CHAR_INDEX_SCALE"), (5, u "LOG2_ARRAY_SHORT_INDEX_SCALE"), (18, u "LOG2_ARRAY_FLOAT_INDEX_SCALE"), (24, u "LOG2_ARRAY_DOUBLE_INDEX_SCALE"), (89, u "T_BOOLEAN"), (2, u "T_CHAR"), (1, u "T_FLOAT"), (1, u "T_DOUBLE"), (1, u "T_BYTE"), (1, u "T_SHORT"), (1, u "T_INT"), (1, u "T_LONG"), (1, u "SOFT_MAX_ARRAY_LENGTH")] 83

def k13m0 : Method := { name := "<init>", desc := "()V", sig := { parameters := [], returnType := none }, accessFlags := 2, code := none }
/-- jdk/internal/util/ArraysSupport -/
def k13 : Class := { plain "jdk/internal/util/ArraysSupport" (some 0) with
  accessFlags := 33
  interfaces := #[]
  cf := some (fileOf pool13 21 #[] #[{ accessFlags := 2, nameIndex := 9, descriptorIndex := 19, attributes := #[] }] 33 16 #[] #[{ accessFlags := 24, nameIndex := 28, descriptorIndex := 29, attributes := #[] }, { accessFlags := 26, nameIndex := 38, descriptorIndex := 39, attributes := #[] }, { accessFlags := 25, nameIndex := 121, descriptorIndex := 25, attributes := #[] }, { accessFlags := 25, nameIndex := 131, descriptorIndex := 25, attributes := #[] }, { accessFlags := 25, nameIndex := 137, descriptorIndex := 25, attributes := #[] }, { accessFlags := 25, nameIndex := 143, descriptorIndex := 25, attributes := #[] }, { accessFlags := 25, nameIndex := 53, descriptorIndex := 25, attributes := #[] }, { accessFlags := 25, nameIndex := 24, descriptorIndex := 25, attributes := #[] }, { accessFlags := 25, nameIndex := 162, descriptorIndex := 25, attributes := #[] }, { accessFlags := 25, nameIndex := 187, descriptorIndex := 25, attributes := #[] }, { accessFlags := 26, nameIndex := 48, descriptorIndex := 25, attributes := #[] }, { accessFlags := 25, nameIndex := 277, descriptorIndex := 25, attributes := #[] }, { accessFlags := 25, nameIndex := 280, descriptorIndex := 25, attributes := #[] }, { accessFlags := 25, nameIndex := 282, descriptorIndex := 25, attributes := #[] }, { accessFlags := 25, nameIndex := 284, descriptorIndex := 25, attributes := #[] }, { accessFlags := 25, nameIndex := 286, descriptorIndex := 25, attributes := #[] }, { accessFlags := 25, nameIndex := 288, descriptorIndex := 25, attributes := #[] }, { accessFlags := 25, nameIndex := 290, descriptorIndex := 25, attributes := #[] }, { accessFlags := 25, nameIndex := 292, descriptorIndex := 25, attributes := #[] }, { accessFlags := 26, nameIndex := 108, descriptorIndex := 109, attributes := #[] }, { accessFlags := 25, nameIndex := 294, descriptorIndex := 25, attributes := #[] }])
  fields := #[{ name := "U", type := (.object "jdk/internal/misc/Unsafe"), accessFlags := 24, slot := 0, constantValue := 0 }, { name := "BIG_ENDIAN", type := .boolean, accessFlags := 26, slot := 1, constantValue := 0 }, { name := "LOG2_ARRAY_BOOLEAN_INDEX_SCALE", type := .int, accessFlags := 25, slot := 2, constantValue := 0 }, { name := "LOG2_ARRAY_BYTE_INDEX_SCALE", type := .int, accessFlags := 25, slot := 3, constantValue := 0 }, { name := "LOG2_ARRAY_CHAR_INDEX_SCALE", type := .int, accessFlags := 25, slot := 4, constantValue := 0 }, { name := "LOG2_ARRAY_SHORT_INDEX_SCALE", type := .int, accessFlags := 25, slot := 5, constantValue := 0 }, { name := "LOG2_ARRAY_INT_INDEX_SCALE", type := .int, accessFlags := 25, slot := 6, constantValue := 0 }, { name := "LOG2_ARRAY_LONG_INDEX_SCALE", type := .int, accessFlags := 25, slot := 7, constantValue := 0 }, { name := "LOG2_ARRAY_FLOAT_INDEX_SCALE", type := .int, accessFlags := 25, slot := 8, constantValue := 0 }, { name := "LOG2_ARRAY_DOUBLE_INDEX_SCALE", type := .int, accessFlags := 25, slot := 9, constantValue := 0 }, { name := "LOG2_BYTE_BIT_SIZE", type := .int, accessFlags := 26, slot := 10, constantValue := 0 }, { name := "T_BOOLEAN", type := .int, accessFlags := 25, slot := 11, constantValue := 0 }, { name := "T_CHAR", type := .int, accessFlags := 25, slot := 12, constantValue := 0 }, { name := "T_FLOAT", type := .int, accessFlags := 25, slot := 13, constantValue := 0 }, { name := "T_DOUBLE", type := .int, accessFlags := 25, slot := 14, constantValue := 0 }, { name := "T_BYTE", type := .int, accessFlags := 25, slot := 15, constantValue := 0 }, { name := "T_SHORT", type := .int, accessFlags := 25, slot := 16, constantValue := 0 }, { name := "T_INT", type := .int, accessFlags := 25, slot := 17, constantValue := 0 }, { name := "T_LONG", type := .int, accessFlags := 25, slot := 18, constantValue := 0 }, { name := "JLA", type := (.object "jdk/internal/access/JavaLangAccess"), accessFlags := 26, slot := 19, constantValue := 0 }, { name := "SOFT_MAX_ARRAY_LENGTH", type := .int, accessFlags := 25, slot := 20, constantValue := 0 }]
  methods := #[k13m0]
  instanceTypes := #[]
  staticTypes := #[(.object "jdk/internal/misc/Unsafe"), .boolean, .int, .int, .int, .int, .int, .int, .int, .int, .int, .int, .int, .int, .int, .int, .int, .int, .int, (.object "jdk/internal/access/JavaLangAccess"), .int]
  resolved := Array.replicate 378 none
  statics := none }

def pool14 : Array CpInfo := pool [(1, u "java/lang/Cloneable"), (0, .class_ 1), (0, u "java/lang/Object"), (0, .class_ 3)] 3

/-- java/lang/Cloneable -/
def k14 : Class := { plain "java/lang/Cloneable" (some 0) with
  accessFlags := 1537
  interfaces := #[]
  cf := some (fileOf pool14 2 #[] #[] 1537 4 #[] #[])
  fields := #[]
  methods := #[]
  instanceTypes := #[]
  staticTypes := #[]
  resolved := Array.replicate 8 none
  statics := none }

/-- the primitive byte -/
def k15 : Class := { plain "byte" none with kind := .primitive 'B', accessFlags := 0x411 }
/-- [B -/
def k16 : Class := { plain "[B" (some 0) with kind := .array 15 .byte, interfaces := #[14, 2], accessFlags := 1041 }

/-- the primitive char -/
def k17 : Class := { plain "char" none with kind := .primitive 'C', accessFlags := 0x411 }
/-- [C -/
def k18 : Class := { plain "[C" (some 0) with kind := .array 17 .char, interfaces := #[14, 2], accessFlags := 1041 }

/-- the primitive int -/
def k19 : Class := { plain "int" none with kind := .primitive 'I', accessFlags := 0x411 }
/-- [I -/
def k20 : Class := { plain "[I" (some 0) with kind := .array 19 .int, interfaces := #[14, 2], accessFlags := 1041 }

def heap : Heap := #[{ cls := 7, slots := #[.long 0, .int 1, .null, .int 0, .null, .int 0, .int 0], vm := .statics 7 },
  { cls := 9, slots := #[.null, .null, .null], vm := .statics 9 }]
def classes : Array Class := #[k0, k1, k2, k3, k4, k5, k6, k7, k8, k9, k10, k11, k12, k13, k14, k15, k16, k17, k18, k19, k20]
def interned : List (Array UInt16 × Addr) := []
def slotsUsed : Nat := 10
def theMethod : MethodId := ⟨1, 1⟩
def args0 : Array Value := #[.long 0, .int 3, .int 1, .int 5]
def aboutOver (below : List Frame) : State where
  vm := { classes := classes, interned := interned.toArray }
  heap := heap
  slotsUsed := slotsUsed
  threads := #[{ frames := .invoking theMethod args0 :: below }]
def below0 : List Frame := [.native { method := ⟨0, 0⟩, args := #[] }]
def about1 : State := aboutOver below0
def p0 : Program := .bare "" "" ""
def e0 : Env := launch0.env 0 0 0
theorem w_frames : about1.frames = Frame.invoking theMethod args0 :: below0 := rfl
set_option maxRecDepth 65536 in
theorem w_args : argsFit about1.vm theMethod args0 = true := by decide +kernel
set_option maxRecDepth 65536 in
theorem w_heap : heapFits about1 = true := by decide +kernel
set_option maxRecDepth 65536 in
theorem w_runnable : about1.curStatus? = some .runnable := by decide +kernel
set_option maxRecDepth 65536 in
theorem w_alone : about1.alone = true := by decide +kernel
set_option maxRecDepth 65536 in
theorem w_named : about1.methodNamed? x = some theMethod := by decide +kernel
set_option maxRecDepth 65536 in
theorem w_hears : about1.hears theMethod below0 = true := by decide +kernel
set_option maxRecDepth 65536 in
theorem w_ripe : about1.ripe theMethod args0 below0 = true := by decide +kernel
theorem w_running : about1.status = .running := rfl
set_option maxRecDepth 65536 in
theorem w_room : about1.hasRoom e0.platform room_1 = true :=
  launch0.hasRoom_least _ room_1 (by decide +kernel) (by decide +kernel) (by decide +kernel) (by decide +kernel) (by decide +kernel) (by decide +kernel)
theorem allAtoms_all (ts : List Jvm.Cond) (a : Array Jvm.Value) (st : Jvm.State) : (allAtoms ts).before a st = ts.all (fun c => c.before a st) := by
  induction ts with
  | nil => rfl
  | cons c t ih =>
    show (Jvm.Cond.and c (allAtoms t)).before a st = _
    rw [Jvm.Cond.before_and, ih, List.all_cons]
def words1 : List Jvm.Cond := Jvm.Cond.code x code maxLocals ret :: tables_1
/-- a 'code' word, met by the world's own term for the bytes: nothing is compared byte by byte -/
theorem code_word {y : MethodName} {bytes : ByteArray} {mx : Nat} {rt : Option FieldType} {a : Array Value} {s : State} {m : MethodId} {meth : Method} {c : Code} (h1 : s.methodNamed? y = some m) (h2 : s.vm.method? m = some meth) (h3 : meth.code = some c) (h4 : c.code = bytes)
    (h5 : (c.maxLocals == mx && c.exceptionTable.isEmpty && decide (c.maxStack ≤ mostOperands) && decide (meth.sig.returnType = rt) && !meth.locks && decide (parseMethodDescriptor y.desc = some meth.sig)) = true) : (Jvm.Cond.code y bytes mx rt).before a s = true := by
  simp only [Bool.and_eq_true, beq_iff_eq, Bool.not_eq_true', decide_eq_true_eq] at h5
  obtain ⟨⟨⟨⟨⟨g1, g2⟩, g3⟩, g4⟩, g5⟩, g6⟩ := h5
  simp [Cond.before, Cond.holds, Cond.value, h1, h2, h3, h4, g1, g2, g3, g4, g5, g6]
def isCode : Jvm.Cond → Bool
  | .code _ _ _ _ => true
  | _ => false
theorem all_split {L : List Jvm.Cond} {P : Jvm.Cond → Bool} (h1 : L.all (fun c => isCode c || P c) = true) (h2 : ∀ c ∈ L.filter isCode, P c = true) : L.all P = true := by
  refine List.all_eq_true.mpr fun c hc => ?_
  have h := List.all_eq_true.mp h1 c hc
  rcases Bool.eq_false_or_eq_true (isCode c) with hi | hi
  · exact h2 c (List.mem_filter.mpr ⟨hc, hi⟩)
  · simpa [hi] using h
set_option maxRecDepth 65536 in
theorem w_c0 : (Jvm.Cond.code x code maxLocals ret).before args0 about1 = true := code_word (m := ⟨1, 1⟩) (meth := k1m1) (c := k1c1) (by decide +kernel) rfl rfl rfl (by decide +kernel)
set_option maxRecDepth 65536 in
theorem w_c1 : (Jvm.Cond.code ({ cls := "com/example/hedgewire/hedgewire/CommandSyntaxIsVersionPinLaw", name := "pick", desc := "(JIIZI)C" } : Jvm.MethodName) method_5_code (7 : Nat) (Option.some Jvm.ClassFile.FieldType.char)).before args0 about1 = true := code_word (m := ⟨1, 4⟩) (meth := k1m4) (c := k1c4) (by decide +kernel) rfl rfl rfl (by decide +kernel)
set_option maxRecDepth 65536 in
theorem w_c2 : (Jvm.Cond.code ({ cls := "java/lang/String", name := "charAt", desc := "(I)C" } : Jvm.MethodName) jdk_42_method_56_code (2 : Nat) (Option.some Jvm.ClassFile.FieldType.char)).before args0 about1 = true := code_word (m := ⟨7, 3⟩) (meth := k7m3) (c := k7c3) (by decide +kernel) rfl rfl rfl (by decide +kernel)
set_option maxRecDepth 65536 in
theorem w_c3 : (Jvm.Cond.code ({ cls := "java/lang/String", name := "isLatin1", desc := "()Z" } : Jvm.MethodName) jdk_42_method_154_code (1 : Nat) (Option.some Jvm.ClassFile.FieldType.boolean)).before args0 about1 = true := code_word (m := ⟨7, 9⟩) (meth := k7m9) (c := k7c9) (by decide +kernel) rfl rfl rfl (by decide +kernel)
set_option maxRecDepth 65536 in
theorem w_c4 : (Jvm.Cond.code ({ cls := "java/lang/StringLatin1", name := "charAt", desc := "([BI)C" } : Jvm.MethodName) jdk_43_method_2_code (2 : Nat) (Option.some Jvm.ClassFile.FieldType.char)).before args0 about1 = true := code_word (m := ⟨8, 1⟩) (meth := k8m1) (c := k8c1) (by decide +kernel) rfl rfl rfl (by decide +kernel)
set_option maxRecDepth 65536 in
theorem w_c5 : (Jvm.Cond.code ({ cls := "java/lang/String", name := "checkIndex", desc := "(II)V" } : Jvm.MethodName) jdk_42_method_155_code (2 : Nat) (Option.none : Option Jvm.ClassFile.FieldType)).before args0 about1 = true := code_word (m := ⟨7, 10⟩) (meth := k7m10) (c := k7c10) (by decide +kernel) rfl rfl rfl (by decide +kernel)
set_option maxRecDepth 65536 in
theorem w_c6 : (Jvm.Cond.code ({ cls := "jdk/internal/util/Preconditions", name := "checkIndex", desc := "(IILjava/util/function/BiFunction;)I" } : Jvm.MethodName) jdk_41_method_11_code (3 : Nat) (Option.some Jvm.ClassFile.FieldType.int)).before args0 about1 = true := code_word (m := ⟨9, 1⟩) (meth := k9m1) (c := k9c1) (by decide +kernel) rfl rfl rfl (by decide +kernel)
set_option maxRecDepth 65536 in
theorem w_c7 : (Jvm.Cond.code ({ cls := "com/example/hedgewire/hedgewire/CommandSyntaxIsVersionPinLaw", name := "make", desc := "([CI)Ljava/lang/String;" } : Jvm.MethodName) method_6_code (2 : Nat) (Option.some (Jvm.ClassFile.FieldType.object "java/lang/String"))).before args0 about1 = true := code_word (m := ⟨1, 5⟩) (meth := k1m5) (c := k1c5) (by decide +kernel) rfl rfl rfl (by decide +kernel)
set_option maxRecDepth 65536 in
theorem w_c8 : (Jvm.Cond.code ({ cls := "java/lang/String", name := "<init>", desc := "([C)V" } : Jvm.MethodName) jdk_42_method_3_code (2 : Nat) (Option.none : Option Jvm.ClassFile.FieldType)).before args0 about1 = true := code_word (m := ⟨7, 1⟩) (meth := k7m1) (c := k7c1) (by decide +kernel) rfl rfl rfl (by decide +kernel)
set_option maxRecDepth 65536 in
theorem w_c9 : (Jvm.Cond.code ({ cls := "java/lang/String", name := "<init>", desc := "([CIILjava/lang/Void;)V" } : Jvm.MethodName) jdk_42_method_149_code (6 : Nat) (Option.none : Option Jvm.ClassFile.FieldType)).before args0 about1 = true := code_word (m := ⟨7, 7⟩) (meth := k7m7) (c := k7c7) (by decide +kernel) rfl rfl rfl (by decide +kernel)
set_option maxRecDepth 65536 in
theorem w_c10 : (Jvm.Cond.code ({ cls := "java/lang/Object", name := "<init>", desc := "()V" } : Jvm.MethodName) object_method_1_code (1 : Nat) (Option.none : Option Jvm.ClassFile.FieldType)).before args0 about1 = true := code_word (m := ⟨0, 0⟩) (meth := k0m0) (c := k0c0) (by decide +kernel) rfl rfl rfl (by decide +kernel)
set_option maxRecDepth 65536 in
theorem w_c11 : (Jvm.Cond.code ({ cls := "java/lang/StringUTF16", name := "compress", desc := "([CII)[B" } : Jvm.MethodName) jdk_52_method_16_code (6 : Nat) (Option.some (Jvm.ClassFile.FieldType.array Jvm.ClassFile.FieldType.byte))).before args0 about1 = true := code_word (m := ⟨10, 2⟩) (meth := k10m2) (c := k10c2) (by decide +kernel) rfl rfl rfl (by decide +kernel)
set_option maxRecDepth 65536 in
theorem w_c12 : (Jvm.Cond.code ({ cls := "java/lang/StringUTF16", name := "compress", desc := "([CI[BII)I" } : Jvm.MethodName) jdk_52_method_21_code (7 : Nat) (Option.some Jvm.ClassFile.FieldType.int)).before args0 about1 = true := code_word (m := ⟨10, 3⟩) (meth := k10m3) (c := k10c3) (by decide +kernel) rfl rfl rfl (by decide +kernel)
set_option maxRecDepth 65536 in
theorem w_c13 : (Jvm.Cond.code ({ cls := "java/lang/StringUTF16", name := "coderFromArrayLen", desc := "([BI)B" } : Jvm.MethodName) jdk_52_method_15_code (2 : Nat) (Option.some Jvm.ClassFile.FieldType.byte)).before args0 about1 = true := code_word (m := ⟨10, 1⟩) (meth := k10m1) (c := k10c1) (by decide +kernel) rfl rfl rfl (by decide +kernel)
set_option maxRecDepth 65536 in
theorem w_c14 : (Jvm.Cond.code ({ cls := "com/example/hedgewire/hedgewire/CommandSyntaxIsVersionPinLaw", name := "v", desc := "([CII)Z" } : Jvm.MethodName) method_4_code (3 : Nat) (Option.some Jvm.ClassFile.FieldType.boolean)).before args0 about1 = true := code_word (m := ⟨1, 3⟩) (meth := k1m3) (c := k1c3) (by decide +kernel) rfl rfl rfl (by decide +kernel)
set_option maxRecDepth 65536 in
theorem w_c15 : (Jvm.Cond.code ({ cls := "com/example/hedgewire/hedgewire/CommandSyntax", name := "isVersion", desc := "(Ljava/lang/String;)Z" } : Jvm.MethodName) prog_2_method_8_code (1 : Nat) (Option.some Jvm.ClassFile.FieldType.boolean)).before args0 about1 = true := code_word (m := ⟨11, 0⟩) (meth := k11m0) (c := k11c0) (by decide +kernel) rfl rfl rfl (by decide +kernel)
set_option maxRecDepth 65536 in
theorem w_c16 : (Jvm.Cond.code ({ cls := "java/lang/String", name := "equals", desc := "(Ljava/lang/Object;)Z" } : Jvm.MethodName) jdk_42_method_66_code (3 : Nat) (Option.some Jvm.ClassFile.FieldType.boolean)).before args0 about1 = true := code_word (m := ⟨7, 4⟩) (meth := k7m4) (c := k7c4) (by decide +kernel) rfl rfl rfl (by decide +kernel)
set_option maxRecDepth 65536 in
theorem w_c17 : (Jvm.Cond.code ({ cls := "java/lang/StringLatin1", name := "equals", desc := "([B[B)Z" } : Jvm.MethodName) jdk_43_method_13_code (3 : Nat) (Option.some Jvm.ClassFile.FieldType.boolean)).before args0 about1 = true := code_word (m := ⟨8, 3⟩) (meth := k8m3) (c := k8c3) (by decide +kernel) rfl rfl rfl (by decide +kernel)
set_option maxRecDepth 65536 in
theorem w_c18 : (Jvm.Cond.code ({ cls := "com/example/hedgewire/hedgewire/CommandSyntax", name := "isShortFlags", desc := "(Ljava/lang/String;C)Z" } : Jvm.MethodName) prog_2_method_9_code (4 : Nat) (Option.some Jvm.ClassFile.FieldType.boolean)).before args0 about1 = true := code_word (m := ⟨11, 1⟩) (meth := k11m1) (c := k11c1) (by decide +kernel) rfl rfl rfl (by decide +kernel)
set_option maxRecDepth 65536 in
theorem w_c19 : (Jvm.Cond.code ({ cls := "java/lang/String", name := "length", desc := "()I" } : Jvm.MethodName) jdk_42_method_54_code (1 : Nat) (Option.some Jvm.ClassFile.FieldType.int)).before args0 about1 = true := code_word (m := ⟨7, 2⟩) (meth := k7m2) (c := k7c2) (by decide +kernel) rfl rfl rfl (by decide +kernel)
set_option maxRecDepth 65536 in
theorem w_c20 : (Jvm.Cond.code ({ cls := "java/lang/String", name := "coder", desc := "()B" } : Jvm.MethodName) jdk_42_method_152_code (1 : Nat) (Option.some Jvm.ClassFile.FieldType.byte)).before args0 about1 = true := code_word (m := ⟨7, 8⟩) (meth := k7m8) (c := k7c8) (by decide +kernel) rfl rfl rfl (by decide +kernel)
set_option maxRecDepth 65536 in
theorem w_c21 : (Jvm.Cond.code ({ cls := "com/example/hedgewire/hedgewire/CommandSyntaxIsVersionPinLaw", name := "f", desc := "([CII)Z" } : Jvm.MethodName) method_3_code (3 : Nat) (Option.some Jvm.ClassFile.FieldType.boolean)).before args0 about1 = true := code_word (m := ⟨1, 2⟩) (meth := k1m2) (c := k1c2) (by decide +kernel) rfl rfl rfl (by decide +kernel)
set_option maxRecDepth 65536 in
theorem w_c22 : (Jvm.Cond.code ({ cls := "java/lang/String", name := "indexOf", desc := "(I)I" } : Jvm.MethodName) jdk_42_method_79_code (2 : Nat) (Option.some Jvm.ClassFile.FieldType.int)).before args0 about1 = true := code_word (m := ⟨7, 5⟩) (meth := k7m5) (c := k7c5) (by decide +kernel) rfl rfl rfl (by decide +kernel)
set_option maxRecDepth 65536 in
theorem w_c23 : (Jvm.Cond.code ({ cls := "java/lang/String", name := "indexOf", desc := "(II)I" } : Jvm.MethodName) jdk_42_method_80_code (3 : Nat) (Option.some Jvm.ClassFile.FieldType.int)).before args0 about1 = true := code_word (m := ⟨7, 6⟩) (meth := k7m6) (c := k7c6) (by decide +kernel) rfl rfl rfl (by decide +kernel)
set_option maxRecDepth 65536 in
theorem w_c24 : (Jvm.Cond.code ({ cls := "java/lang/StringLatin1", name := "indexOf", desc := "([BIII)I" } : Jvm.MethodName) jdk_43_method_22_code (4 : Nat) (Option.some Jvm.ClassFile.FieldType.int)).before args0 about1 = true := code_word (m := ⟨8, 4⟩) (meth := k8m4) (c := k8c4) (by decide +kernel) rfl rfl rfl (by decide +kernel)
set_option maxRecDepth 65536 in
theorem w_c25 : (Jvm.Cond.code ({ cls := "java/lang/StringLatin1", name := "canEncode", desc := "(I)Z" } : Jvm.MethodName) jdk_43_method_4_code (1 : Nat) (Option.some Jvm.ClassFile.FieldType.boolean)).before args0 about1 = true := code_word (m := ⟨8, 2⟩) (meth := k8m2) (c := k8c2) (by decide +kernel) rfl rfl rfl (by decide +kernel)
set_option maxRecDepth 65536 in
theorem w_c26 : (Jvm.Cond.code ({ cls := "java/lang/Math", name := "max", desc := "(II)I" } : Jvm.MethodName) jdk_29_method_65_code (2 : Nat) (Option.some Jvm.ClassFile.FieldType.int)).before args0 about1 = true := code_word (m := ⟨12, 1⟩) (meth := k12m1) (c := k12c1) (by decide +kernel) rfl rfl rfl (by decide +kernel)
set_option maxRecDepth 65536 in
theorem w_c27 : (Jvm.Cond.code ({ cls := "java/lang/Math", name := "min", desc := "(II)I" } : Jvm.MethodName) jdk_29_method_69_code (2 : Nat) (Option.some Jvm.ClassFile.FieldType.int)).before args0 about1 = true := code_word (m := ⟨12, 2⟩) (meth := k12m2) (c := k12c2) (by decide +kernel) rfl rfl rfl (by decide +kernel)
set_option maxRecDepth 65536 in
theorem w_c28 : (Jvm.Cond.code ({ cls := "java/lang/StringLatin1", name := "indexOfChar", desc := "([BIII)I" } : Jvm.MethodName) jdk_43_method_23_code (6 : Nat) (Option.some Jvm.ClassFile.FieldType.int)).before args0 about1 = true := code_word (m := ⟨8, 5⟩) (meth := k8m5) (c := k8c5) (by decide +kernel) rfl rfl rfl (by decide +kernel)
def codes1 : List Jvm.Cond := [Jvm.Cond.code x code maxLocals ret, Jvm.Cond.code ({ cls := "com/example/hedgewire/hedgewire/CommandSyntaxIsVersionPinLaw", name := "pick", desc := "(JIIZI)C" } : Jvm.MethodName) method_5_code (7 : Nat) (Option.some Jvm.ClassFile.FieldType.char), Jvm.Cond.code ({ cls := "java/lang/String", name := "charAt", desc := "(I)C" } : Jvm.MethodName) jdk_42_method_56_code (2 : Nat) (Option.some Jvm.ClassFile.FieldType.char), Jvm.Cond.code ({ cls := "java/lang/String", name := "isLatin1", desc := "()Z" } : Jvm.MethodName) jdk_42_method_154_code (1 : Nat) (Option.some Jvm.ClassFile.FieldType.boolean), Jvm.Cond.code ({ cls := "java/lang/StringLatin1", name := "charAt", desc := "([BI)C" } : Jvm.MethodName) jdk_43_method_2_code (2 : Nat) (Option.some Jvm.ClassFile.FieldType.char), Jvm.Cond.code ({ cls := "java/lang/String", name := "checkIndex", desc := "(II)V" } : Jvm.MethodName) jdk_42_method_155_code (2 : Nat) (Option.none : Option Jvm.ClassFile.FieldType), Jvm.Cond.code ({ cls := "jdk/internal/util/Preconditions", name := "checkIndex", desc := "(IILjava/util/function/BiFunction;)I" } : Jvm.MethodName) jdk_41_method_11_code (3 : Nat) (Option.some Jvm.ClassFile.FieldType.int), Jvm.Cond.code ({ cls := "com/example/hedgewire/hedgewire/CommandSyntaxIsVersionPinLaw", name := "make", desc := "([CI)Ljava/lang/String;" } : Jvm.MethodName) method_6_code (2 : Nat) (Option.some (Jvm.ClassFile.FieldType.object "java/lang/String")), Jvm.Cond.code ({ cls := "java/lang/String", name := "<init>", desc := "([C)V" } : Jvm.MethodName) jdk_42_method_3_code (2 : Nat) (Option.none : Option Jvm.ClassFile.FieldType), Jvm.Cond.code ({ cls := "java/lang/String", name := "<init>", desc := "([CIILjava/lang/Void;)V" } : Jvm.MethodName) jdk_42_method_149_code (6 : Nat) (Option.none : Option Jvm.ClassFile.FieldType), Jvm.Cond.code ({ cls := "java/lang/Object", name := "<init>", desc := "()V" } : Jvm.MethodName) object_method_1_code (1 : Nat) (Option.none : Option Jvm.ClassFile.FieldType), Jvm.Cond.code ({ cls := "java/lang/StringUTF16", name := "compress", desc := "([CII)[B" } : Jvm.MethodName) jdk_52_method_16_code (6 : Nat) (Option.some (Jvm.ClassFile.FieldType.array Jvm.ClassFile.FieldType.byte)), Jvm.Cond.code ({ cls := "java/lang/StringUTF16", name := "compress", desc := "([CI[BII)I" } : Jvm.MethodName) jdk_52_method_21_code (7 : Nat) (Option.some Jvm.ClassFile.FieldType.int), Jvm.Cond.code ({ cls := "java/lang/StringUTF16", name := "coderFromArrayLen", desc := "([BI)B" } : Jvm.MethodName) jdk_52_method_15_code (2 : Nat) (Option.some Jvm.ClassFile.FieldType.byte), Jvm.Cond.code ({ cls := "com/example/hedgewire/hedgewire/CommandSyntaxIsVersionPinLaw", name := "v", desc := "([CII)Z" } : Jvm.MethodName) method_4_code (3 : Nat) (Option.some Jvm.ClassFile.FieldType.boolean), Jvm.Cond.code ({ cls := "com/example/hedgewire/hedgewire/CommandSyntax", name := "isVersion", desc := "(Ljava/lang/String;)Z" } : Jvm.MethodName) prog_2_method_8_code (1 : Nat) (Option.some Jvm.ClassFile.FieldType.boolean), Jvm.Cond.code ({ cls := "java/lang/String", name := "equals", desc := "(Ljava/lang/Object;)Z" } : Jvm.MethodName) jdk_42_method_66_code (3 : Nat) (Option.some Jvm.ClassFile.FieldType.boolean), Jvm.Cond.code ({ cls := "java/lang/StringLatin1", name := "equals", desc := "([B[B)Z" } : Jvm.MethodName) jdk_43_method_13_code (3 : Nat) (Option.some Jvm.ClassFile.FieldType.boolean), Jvm.Cond.code ({ cls := "com/example/hedgewire/hedgewire/CommandSyntax", name := "isShortFlags", desc := "(Ljava/lang/String;C)Z" } : Jvm.MethodName) prog_2_method_9_code (4 : Nat) (Option.some Jvm.ClassFile.FieldType.boolean), Jvm.Cond.code ({ cls := "java/lang/String", name := "length", desc := "()I" } : Jvm.MethodName) jdk_42_method_54_code (1 : Nat) (Option.some Jvm.ClassFile.FieldType.int), Jvm.Cond.code ({ cls := "java/lang/String", name := "coder", desc := "()B" } : Jvm.MethodName) jdk_42_method_152_code (1 : Nat) (Option.some Jvm.ClassFile.FieldType.byte), Jvm.Cond.code ({ cls := "com/example/hedgewire/hedgewire/CommandSyntaxIsVersionPinLaw", name := "f", desc := "([CII)Z" } : Jvm.MethodName) method_3_code (3 : Nat) (Option.some Jvm.ClassFile.FieldType.boolean), Jvm.Cond.code ({ cls := "java/lang/String", name := "indexOf", desc := "(I)I" } : Jvm.MethodName) jdk_42_method_79_code (2 : Nat) (Option.some Jvm.ClassFile.FieldType.int), Jvm.Cond.code ({ cls := "java/lang/String", name := "indexOf", desc := "(II)I" } : Jvm.MethodName) jdk_42_method_80_code (3 : Nat) (Option.some Jvm.ClassFile.FieldType.int), Jvm.Cond.code ({ cls := "java/lang/StringLatin1", name := "indexOf", desc := "([BIII)I" } : Jvm.MethodName) jdk_43_method_22_code (4 : Nat) (Option.some Jvm.ClassFile.FieldType.int), Jvm.Cond.code ({ cls := "java/lang/StringLatin1", name := "canEncode", desc := "(I)Z" } : Jvm.MethodName) jdk_43_method_4_code (1 : Nat) (Option.some Jvm.ClassFile.FieldType.boolean), Jvm.Cond.code ({ cls := "java/lang/Math", name := "max", desc := "(II)I" } : Jvm.MethodName) jdk_29_method_65_code (2 : Nat) (Option.some Jvm.ClassFile.FieldType.int), Jvm.Cond.code ({ cls := "java/lang/Math", name := "min", desc := "(II)I" } : Jvm.MethodName) jdk_29_method_69_code (2 : Nat) (Option.some Jvm.ClassFile.FieldType.int), Jvm.Cond.code ({ cls := "java/lang/StringLatin1", name := "indexOfChar", desc := "([BIII)I" } : Jvm.MethodName) jdk_43_method_23_code (6 : Nat) (Option.some Jvm.ClassFile.FieldType.int)]
set_option maxRecDepth 65536 in
theorem codes_eq : words1.filter isCode = codes1 := rfl
theorem w_codes : ∀ c ∈ words1.filter isCode, c.before args0 about1 = true := by
  rw [codes_eq]
  intro c hc
  simp only [codes1, List.mem_cons, List.not_mem_nil, or_false] at hc
  rcases hc with rfl | rfl | rfl | rfl | rfl | rfl | rfl | rfl | rfl | rfl | rfl | rfl | rfl | rfl | rfl | rfl | rfl | rfl | rfl | rfl | rfl | rfl | rfl | rfl | rfl | rfl | rfl | rfl | rfl
  · exact w_c0
  · exact w_c1
  · exact w_c2
  · exact w_c3
  · exact w_c4
  · exact w_c5
  · exact w_c6
  · exact w_c7
  · exact w_c8
  · exact w_c9
  · exact w_c10
  · exact w_c11
  · exact w_c12
  · exact w_c13
  · exact w_c14
  · exact w_c15
  · exact w_c16
  · exact w_c17
  · exact w_c18
  · exact w_c19
  · exact w_c20
  · exact w_c21
  · exact w_c22
  · exact w_c23
  · exact w_c24
  · exact w_c25
  · exact w_c26
  · exact w_c27
  · exact w_c28
set_option maxRecDepth 65536 in
theorem w_t1 : (words1.take 24).all (fun c => isCode c || c.before args0 about1) = true := by decide +kernel
set_option maxRecDepth 65536 in
theorem w_t2 : ((words1.drop 24).take 24).all (fun c => isCode c || c.before args0 about1) = true := by decide +kernel
set_option maxRecDepth 65536 in
theorem w_t3 : (((words1.drop 24).drop 24).take 24).all (fun c => isCode c || c.before args0 about1) = true := by decide +kernel
set_option maxRecDepth 65536 in
theorem w_t4 : ((((words1.drop 24).drop 24).drop 24).take 24).all (fun c => isCode c || c.before args0 about1) = true := by decide +kernel
set_option maxRecDepth 65536 in
theorem w_t5 : (((((words1.drop 24).drop 24).drop 24).drop 24).take 24).all (fun c => isCode c || c.before args0 about1) = true := by decide +kernel
set_option maxRecDepth 65536 in
theorem w_t6 : (((((words1.drop 24).drop 24).drop 24).drop 24).drop 24).all (fun c => isCode c || c.before args0 about1) = true := by decide +kernel
theorem w_tables : (allAtoms (Jvm.Cond.code x code maxLocals ret :: tables_1)).before args0 about1 = true := by
  rw [allAtoms_all]
  show words1.all (fun c => c.before args0 about1) = true
  refine all_split ?_ w_codes
  rw [← List.take_append_drop 24 words1, List.all_append, w_t1, ← List.take_append_drop 24 (words1.drop 24), List.all_append, w_t2, ← List.take_append_drop 24 ((words1.drop 24).drop 24), List.all_append, w_t3, ← List.take_append_drop 24 (((words1.drop 24).drop 24).drop 24), List.all_append, w_t4, ← List.take_append_drop 24 ((((words1.drop 24).drop 24).drop 24).drop 24), List.all_append, w_t5, w_t6]
  rfl
set_option maxRecDepth 65536 in
theorem w_rest : rest_1_c.before args0 about1 = true := by decide +kernel
set_option maxRecDepth 65536 in
theorem w_case : (Jvm.Cond.and given_1 narrow_1).before args0 about1 = true := by decide +kernel
set_option maxRecDepth 65536 in
theorem w_consts : constsHeld consts_1 about1 := Jvm.Lit.constsHeldB_iff.mp (by decide +kernel)
theorem w_applies : (headSpec (Jvm.Cond.code x code maxLocals ret :: tables_1) room_1).applies x e0.platform about1 = true :=
  (Spec.applies_iff w_frames).mpr ⟨w_running, w_runnable, w_alone, w_named, w_hears, w_ripe, w_room, w_tables⟩
theorem atStart : AtStart classFile x code maxLocals ret World_1 tables_1 room_1 Calls_1 rest_1 Pre_1 launch0 p0 e0 about1 theMethod args0 below0 :=
  ⟨lists_1, trivial, launch0.admits_env _ _ _, launch0.least_env, fairChoices_fair.cas, fairChoices_fair.clock, w_frames, w_args, w_heap, w_applies, ⟨w_consts, trivial⟩, w_rest, w_case⟩
end start1
theorem witness_1 : WitnessClaimed_1 := ⟨start1.p0, start1.e0, start1.about1, start1.theMethod, start1.args0, start1.below0, start1.atStart⟩
end Jvm.Pilot.@@N@@
