import JvmDerived
import JvmDerived.Pilot.@@N@@Statement
import JvmDerived.Pilot.@@N@@Code
set_option linter.unusedVariables false
set_option linter.unusedSimpArgs false
namespace Jvm.Pilot.@@N@@
open Jvm Jvm.ClassFile Sem Op Lib Jvm.Free Jvm.Stand Jvm.LawKit Jvm.RoadKit Bundle Jvm.Pilot.@@N@@.Jvm.D
/-! A small walker over the library's laws (own text): objects made by the law are kept as a list H; the object k lies at the address n0 + k. -/
abbrev GLay : Type := String × List (String × String × String × FieldType)
abbrev GObj : Type := (GLay × List Value) ⊕ (FieldType × List Value)
abbrev GM : Type := MethodName × ByteArray × Nat × Option FieldType
def LayOk (Z : State) (a0 : Array Value) (K : GLay) : Prop :=
  (∃ kk, (Jvm.Cond.instantiable K.1 kk).before a0 Z = true) ∧ (∀ q ∈ K.2, Laid Z a0 K.1 q.1 q.2.1 q.2.2.1 ∧ parseFieldDescriptor q.2.2.1 = some q.2.2.2) ∧ (K.2.map fun q => q.2.1).Nodup
def Ob (Z : State) (a0 : Array Value) (h : Heap) (a : Addr) : GObj → Prop
  | .inl (K, vs) => LayOk Z a0 K ∧ Exa Z h a K.1 ∧ ∀ (i : Nat) (q : String × String × String × FieldType) (v : Value), K.2[i]? = some q → vs[i]? = some v → Fld Z h a q.1 q.2.1 q.2.2.1 v
  | .inr (ty, vs) => ∃ c : Cell, Arr Z h a c ty ∧ c.slots = vs.toArray ∧ (∀ v ∈ vs, fits ty v = true) ∧ Exa Z h a ("[" ++ ty.toString) ∧ ∀ C, ty = .object C → Ovr Z c.cls C
theorem Ob.ext {Z : State} {a0 : Array Value} {h h' : Heap} {a : Addr} {o : GObj} (E : Ext h h') (F : Ob Z a0 h a o) : Ob Z a0 h' a o := by
  rcases o with ⟨K, vs⟩ | ⟨ty, vs⟩
  · exact ⟨F.1, F.2.1.ext E, fun i q v h1 h2 => (F.2.2 i q v h1 h2).ext E⟩
  · obtain ⟨c, h1, h2, h3, h4, h5⟩ := F
    exact ⟨c, h1.ext E, h2, h3, h4.ext E, h5⟩
theorem Ob.other {Z : State} {a0 : Array Value} {h h' : Heap} {a b : Addr} {sl : Nat} {v : Value} {o : GObj} (W : Wr h h' b sl v) (ne : a ≠ b) (F : Ob Z a0 h a o) : Ob Z a0 h' a o := by
  rcases o with ⟨K, vs⟩ | ⟨ty, vs⟩
  · exact ⟨F.1, F.2.1.wr W, fun i q v h1 h2 => (F.2.2 i q v h1 h2).other W (Or.inl ne)⟩
  · obtain ⟨c, h1, h2, h3, h4, h5⟩ := F
    exact ⟨c, h1.other W ne, h2, h3, h4.wr W, h5⟩
def Sat (Z : State) (a0 : Array Value) (n0 : Nat) (h : Heap) (H : List GObj) : Prop :=
  Z.heap.size = n0 ∧ Ext Z.heap h ∧ h.size = n0 + H.length ∧ ∀ (k : Nat) (o : GObj), H[k]? = some o → Ob Z a0 h (n0 + k) o
theorem Sat.push {Z : State} {a0 : Array Value} {n0 : Nat} {h h' : Heap} {H : List GObj} {o : GObj} (S : Sat Z a0 n0 h H) (E : Ext h h') (hs : h'.size = h.size + 1) (F : Ob Z a0 h' h.size o) : Sat Z a0 n0 h' (H ++ [o]) := by
  obtain ⟨s1, s2, s3, s4⟩ := S
  refine ⟨s1, ⟨Nat.le_trans s2.1 E.1, fun a c q => E.2 a c (s2.2 a c q)⟩, by simp [hs, s3]; omega, fun k o' hk => ?_⟩
  rcases Nat.lt_trichotomy k H.length with q | q | q
  · rw [List.getElem?_append_left q] at hk
    exact (s4 k o' hk).ext E
  · subst q
    simp at hk
    subst hk
    rw [← s3]; exact F
  · rw [List.getElem?_eq_none (by simp; omega)] at hk; cases hk
theorem Sat.put {Z : State} {a0 : Array Value} {n0 : Nat} {h h' : Heap} {H : List GObj} {k sl : Nat} {v : Value} {o : GObj} (S : Sat Z a0 n0 h H) (W : Wr h h' (n0 + k) sl v) (F : Ob Z a0 h' (n0 + k) o) : Sat Z a0 n0 h' (H.set k o) := by
  obtain ⟨s1, s2, s3, s4⟩ := S
  refine ⟨s1, ⟨by rw [W.size]; exact s2.1, fun a c q => ?_⟩, by rw [W.size, s3]; simp, fun j o' hj => ?_⟩
  · obtain ⟨c', e1, -, -, -, e5, -⟩ := wr_at W (s2.2 a c q)
    have hlt := (Array.getElem?_eq_some_iff.mp q).1
    rw [← e5 (by intro q; subst q; rw [s1] at hlt; exact absurd hlt (by exact Nat.not_lt.mpr (Nat.le_add_right _ _)))]; exact e1
  · rw [List.getElem?_set] at hj
    split at hj
    · rename_i e
      subst e
      split at hj
      · cases hj; exact F
      · cases hj
    · rename_i ne
      exact (s4 j o' hj).other W (fun q => ne (Nat.add_left_cancel q).symm)
theorem Sat.lt {Z : State} {a0 : Array Value} {n0 : Nat} {h : Heap} {H : List GObj} (S : Sat Z a0 n0 h H) {k : Nat} {o : GObj} (q : H[k]? = some o) : n0 + k < h.size := by
  have := (List.getElem?_eq_some_iff.mp q).1
  have := S.2.2.1
  omega
/-- what a walk's frame stands in -/
def Cx (Z : State) (M : GM) (p : Program) (s : State) (m : MethodId) (meth : Method) (c : Code) : Prop :=
  p.tables.exec = Jvm.exec ∧ Z.Warmed39 s.vm ∧ c.code = M.2.1 ∧ c.maxLocals = M.2.2.1 ∧ meth.sig.returnType = M.2.2.2 ∧ meth.locks = false ∧ s.vm.findClass M.1.cls = some m.cls ∧ meth.name = M.1.name
def End (Z : State) (a0 : Array Value) (n0 : Nat) (R : Room) (Q : Option Value → List GObj → Prop) (p : Program) (e : Env) (s : State) (below : List Frame) (S0 : State) : Prop :=
  ∃ s₂ o, Steps p.tables e below S0 s₂ ∧ s₂.status = .running ∧ Ended s₂ below o ∧ ∃ v L', o = .returned v ∧ (∃ H', Q v H' ∧ Sat Z a0 n0 s₂.heap H' ∧ Fr n0 L') ∧ FrameEnd s o s₂ L' R.cells R.slots
theorem End.back {Z : State} {a0 : Array Value} {n0 : Nat} {R : Room} {Q : Option Value → List GObj → Prop} {p : Program} {e : Env} {s : State} {below : List Frame} {S0 S1 : State} (st : ∀ t, Steps p.tables e below S1 t → Steps p.tables e below S0 t) (h : End Z a0 n0 R Q p e s below S1) : End Z a0 n0 R Q p e s below S0 := by
  obtain ⟨s₂, o, h1, r⟩ := h
  exact ⟨s₂, o, st _ h1, r⟩
/-- from this point the walk comes to its end, and what it leaves meets Q -/
def Go (Z : State) (a0 : Array Value) (n0 : Nat) (M : GM) (R : Room) (Q : Option Value → List GObj → Prop) (pc : Nat) (L : List Slot) (st : List Value) (H : List GObj) (ce sl : Nat) : Prop :=
  ∀ (p : Program) (l : Launch) (e : Env) (s : State) (m : MethodId) (args : Array Value) (below : List Frame) (meth : Method) (c : Code) (T : State) (locs : List Loc),
    Stand p l e R s m args below meth c T locs ce sl → Cx Z M p s m meth c → Sat Z a0 n0 T.heap H → s.heap.size + ce = n0 + H.length → Fr n0 locs → End Z a0 n0 R Q p e s below (T.setTop (mkF m pc L.toArray st))
/-- the instruction at pc, its length, what lies behind -/
def Ins (M : GM) (pc : Nat) (i : Instr) (n pc' : Nat) : Prop := decode M.2.1 pc = .ok (i, n) ∧ pc + n = pc'
section Rules
variable {Z : State} {a0 : Array Value} {n0 : Nat} {M : GM} {R : Room} {Q : Option Value → List GObj → Prop} {pc pc' : Nat} {L : List Slot} {st : List Value} {H : List GObj} {ce sl : Nat}
theorem go_pure {L' : List Slot} {st' : List Value} (hs : ∀ (p : Program) (e : Env) (m : MethodId) (below : List Frame) (c : Code) (T t : State), At T m c below → p.tables.exec = Jvm.exec → c.code = M.2.1 → Steps p.tables e below (T.setTop (mkF m pc' L'.toArray st')) t → Steps p.tables e below (T.setTop (mkF m pc L.toArray st)) t)
    (h : Go Z a0 n0 M R Q pc' L' st' H ce sl) : Go Z a0 n0 M R Q pc L st H ce sl := fun p l e s m args below meth c T locs X C S E F =>
  (h p l e s m args below meth c T locs X C S E F).back fun t k => hs p e m below c T t X.here C.1 C.2.2.1 k
end Rules
section Rules
variable {Z : State} {a0 : Array Value} {n0 : Nat} {M : GM} {R : Room} {Q : Option Value → List GObj → Prop} {pc pc' : Nat} {L : List Slot} {st : List Value} {H : List GObj} {ce sl : Nat}
theorem go_aloadN {k : Fin 4} {v : Addr} (hd : Ins M pc (.aload_n k) 1 pc') (hl : L[k.val]? = some (.val (.ref v))) (h : Go Z a0 n0 M R Q pc' L (.ref v :: st) H ce sl) : Go Z a0 n0 M R Q pc L st H ce sl := by
  obtain ⟨hd, rfl⟩ := hd
  exact go_pure (fun p e m below c T t hA hx hy k => XS.aloadN hA hx rfl (hb hy hd) (by simpa using hl) rfl k) h
theorem go_aload {k : Nat} {v : Addr} (hd : Ins M pc (.aload k) 2 pc') (hl : L[k]? = some (.val (.ref v))) (h : Go Z a0 n0 M R Q pc' L (.ref v :: st) H ce sl) : Go Z a0 n0 M R Q pc L st H ce sl := by
  obtain ⟨hd, rfl⟩ := hd
  exact go_pure (fun p e m below c T t hA hx hy k => XS.aload hA hx rfl (hb hy hd) (by simpa using hl) rfl k) h
theorem go_aloadNull {k : Fin 4} (hd : Ins M pc (.aload_n k) 1 pc') (hl : L[k.val]? = some (.val .null)) (h : Go Z a0 n0 M R Q pc' L (.null :: st) H ce sl) : Go Z a0 n0 M R Q pc L st H ce sl := by
  obtain ⟨hd, rfl⟩ := hd
  exact go_pure (fun p e m below c T t hA hx hy k => XS.aloadN hA hx rfl (hb hy hd) (by simpa using hl) rfl k) h
theorem go_iloadN {k : Fin 4} {v : Int32} (hd : Ins M pc (.iload_n k) 1 pc') (hl : L[k.val]? = some (.val (.int v))) (h : Go Z a0 n0 M R Q pc' L (.int v :: st) H ce sl) : Go Z a0 n0 M R Q pc L st H ce sl := by
  obtain ⟨hd, rfl⟩ := hd
  exact go_pure (fun p e m below c T t hA hx hy k => XS.iloadN hA hx rfl (hb hy hd) (by simpa using hl) k) h
theorem go_iload {k : Nat} {v : Int32} (hd : Ins M pc (.iload k) 2 pc') (hl : L[k]? = some (.val (.int v))) (h : Go Z a0 n0 M R Q pc' L (.int v :: st) H ce sl) : Go Z a0 n0 M R Q pc L st H ce sl := by
  obtain ⟨hd, rfl⟩ := hd
  exact go_pure (fun p e m below c T t hA hx hy k => XS.iload hA hx rfl (hb hy hd) (by simpa using hl) k) h
theorem go_lloadN {k : Fin 4} {v : Int64} (hd : Ins M pc (.lload_n k) 1 pc') (hl : L[k.val]? = some (.val (.long v))) (h : Go Z a0 n0 M R Q pc' L (.long v :: st) H ce sl) : Go Z a0 n0 M R Q pc L st H ce sl := by
  obtain ⟨hd, rfl⟩ := hd
  exact go_pure (fun p e m below c T t hA hx hy k => XT.lloadN hA hx rfl (hb hy hd) (by simpa using hl) k) h
theorem go_lload {k : Nat} {v : Int64} (hd : Ins M pc (.lload k) 2 pc') (hl : L[k]? = some (.val (.long v))) (h : Go Z a0 n0 M R Q pc' L (.long v :: st) H ce sl) : Go Z a0 n0 M R Q pc L st H ce sl := by
  obtain ⟨hd, rfl⟩ := hd
  exact go_pure (fun p e m below c T t hA hx hy k => XT.lload hA hx rfl (hb hy hd) (by simpa using hl) k) h
theorem go_iconst {i : Int} {v : Int32} (hd : Ins M pc (.iconst i) 1 pc') (hv : Int32.ofInt i = v) (h : Go Z a0 n0 M R Q pc' L (.int v :: st) H ce sl) : Go Z a0 n0 M R Q pc L st H ce sl := by
  obtain ⟨hd, rfl⟩ := hd
  exact go_pure (fun p e m below c T t hA hx hy k => XS.iconst hA hx rfl (hb hy hd) (by rw [hv]; exact k)) h
theorem go_bipush {i : Int} {v : Int32} (hd : Ins M pc (.bipush i) 2 pc') (hv : (Int8.ofInt i).toInt32 = v) (h : Go Z a0 n0 M R Q pc' L (.int v :: st) H ce sl) : Go Z a0 n0 M R Q pc L st H ce sl := by
  obtain ⟨hd, rfl⟩ := hd
  exact go_pure (fun p e m below c T t hA hx hy k => XS.bipush hA hx rfl (hb hy hd) (by rw [hv]; exact k)) h
theorem go_sipush {i : Int} {v : Int32} (hd : Ins M pc (.sipush i) 3 pc') (hv : (Int16.ofInt i).toInt32 = v) (h : Go Z a0 n0 M R Q pc' L (.int v :: st) H ce sl) : Go Z a0 n0 M R Q pc L st H ce sl := by
  obtain ⟨hd, rfl⟩ := hd
  exact go_pure (fun p e m below c T t hA hx hy k => XS.sipush hA hx rfl (hb hy hd) (by rw [hv]; exact k)) h
theorem go_lconst {i : Fin 2} {v : Int64} (hd : Ins M pc (.lconst i) 1 pc') (hv : Int64.ofNat i = v) (h : Go Z a0 n0 M R Q pc' L (.long v :: st) H ce sl) : Go Z a0 n0 M R Q pc L st H ce sl := by
  obtain ⟨hd, rfl⟩ := hd
  exact go_pure (fun p e m below c T t hA hx hy k => XT.lconst hA hx rfl (hb hy hd) (by rw [hv]; exact k)) h
theorem go_aconstNull  (hd : Ins M pc (.aconst_null) 1 pc') (h : Go Z a0 n0 M R Q pc' L (.null :: st) H ce sl) : Go Z a0 n0 M R Q pc L st H ce sl := by
  obtain ⟨hd, rfl⟩ := hd
  exact go_pure (fun p e m below c T t hA hx hy k => XS.aconstNull hA hx rfl (hb hy hd) k) h
theorem go_iadd {x y : Int32} (hd : Ins M pc (.iadd) 1 pc') (h : Go Z a0 n0 M R Q pc' L (.int (x + y) :: st) H ce sl) : Go Z a0 n0 M R Q pc L (.int y :: .int x :: st) H ce sl := by
  obtain ⟨hd, rfl⟩ := hd
  exact go_pure (fun p e m below c T t hA hx hy k => XS.iadd hA hx rfl (hb hy hd) rfl k) h
theorem go_isub {x y : Int32} (hd : Ins M pc (.isub) 1 pc') (h : Go Z a0 n0 M R Q pc' L (.int (x - y) :: st) H ce sl) : Go Z a0 n0 M R Q pc L (.int y :: .int x :: st) H ce sl := by
  obtain ⟨hd, rfl⟩ := hd
  exact go_pure (fun p e m below c T t hA hx hy k => XS.isub hA hx rfl (hb hy hd) rfl k) h
theorem go_imul {x y : Int32} (hd : Ins M pc (.imul) 1 pc') (h : Go Z a0 n0 M R Q pc' L (.int (x * y) :: st) H ce sl) : Go Z a0 n0 M R Q pc L (.int y :: .int x :: st) H ce sl := by
  obtain ⟨hd, rfl⟩ := hd
  exact go_pure (fun p e m below c T t hA hx hy k => XS.imul hA hx rfl (hb hy hd) rfl k) h
theorem go_iand {x y : Int32} (hd : Ins M pc (.iand) 1 pc') (h : Go Z a0 n0 M R Q pc' L (.int (x &&& y) :: st) H ce sl) : Go Z a0 n0 M R Q pc L (.int y :: .int x :: st) H ce sl := by
  obtain ⟨hd, rfl⟩ := hd
  exact go_pure (fun p e m below c T t hA hx hy k => XS.iand hA hx rfl (hb hy hd) rfl k) h
theorem go_ior {x y : Int32} (hd : Ins M pc (.ior) 1 pc') (h : Go Z a0 n0 M R Q pc' L (.int (x ||| y) :: st) H ce sl) : Go Z a0 n0 M R Q pc L (.int y :: .int x :: st) H ce sl := by
  obtain ⟨hd, rfl⟩ := hd
  exact go_pure (fun p e m below c T t hA hx hy k => XT.ior hA hx rfl (hb hy hd) rfl k) h
theorem go_ixor {x y : Int32} (hd : Ins M pc (.ixor) 1 pc') (h : Go Z a0 n0 M R Q pc' L (.int (x ^^^ y) :: st) H ce sl) : Go Z a0 n0 M R Q pc L (.int y :: .int x :: st) H ce sl := by
  obtain ⟨hd, rfl⟩ := hd
  exact go_pure (fun p e m below c T t hA hx hy k => XT.ixor hA hx rfl (hb hy hd) rfl k) h
theorem go_ishl {x y : Int32} (hd : Ins M pc (.ishl) 1 pc') (h : Go Z a0 n0 M R Q pc' L (.int (x <<< (y &&& 31)) :: st) H ce sl) : Go Z a0 n0 M R Q pc L (.int y :: .int x :: st) H ce sl := by
  obtain ⟨hd, rfl⟩ := hd
  exact go_pure (fun p e m below c T t hA hx hy k => XT.ishl hA hx rfl (hb hy hd) rfl k) h
theorem go_ishr {x y : Int32} (hd : Ins M pc (.ishr) 1 pc') (h : Go Z a0 n0 M R Q pc' L (.int (x >>> (y &&& 31)) :: st) H ce sl) : Go Z a0 n0 M R Q pc L (.int y :: .int x :: st) H ce sl := by
  obtain ⟨hd, rfl⟩ := hd
  exact go_pure (fun p e m below c T t hA hx hy k => XT.ishr hA hx rfl (hb hy hd) rfl k) h
theorem go_iushr {x y : Int32} (hd : Ins M pc (.iushr) 1 pc') (h : Go Z a0 n0 M R Q pc' L (.int (XT.ushr x y) :: st) H ce sl) : Go Z a0 n0 M R Q pc L (.int y :: .int x :: st) H ce sl := by
  obtain ⟨hd, rfl⟩ := hd
  exact go_pure (fun p e m below c T t hA hx hy k => XT.iushr hA hx rfl (hb hy hd) rfl k) h
theorem go_idiv {x y : Int32} (hd : Ins M pc (.idiv) 1 pc') (hn : y ≠ 0) (h : Go Z a0 n0 M R Q pc' L (.int (x / y) :: st) H ce sl) : Go Z a0 n0 M R Q pc L (.int y :: .int x :: st) H ce sl := by
  obtain ⟨hd, rfl⟩ := hd
  exact go_pure (fun p e m below c T t hA hx hy k => XS.idiv hA hx rfl (hb hy hd) rfl hn k) h
theorem go_irem {x y : Int32} (hd : Ins M pc (.irem) 1 pc') (hn : y ≠ 0) (h : Go Z a0 n0 M R Q pc' L (.int (x % y) :: st) H ce sl) : Go Z a0 n0 M R Q pc L (.int y :: .int x :: st) H ce sl := by
  obtain ⟨hd, rfl⟩ := hd
  exact go_pure (fun p e m below c T t hA hx hy k => XS.irem hA hx rfl (hb hy hd) rfl hn (by rw [irem_eq_mod]; exact k)) h
theorem go_ineg {x : Int32} (hd : Ins M pc (.ineg) 1 pc') (h : Go Z a0 n0 M R Q pc' L (.int (-x) :: st) H ce sl) : Go Z a0 n0 M R Q pc L (.int x :: st) H ce sl := by
  obtain ⟨hd, rfl⟩ := hd
  exact go_pure (fun p e m below c T t hA hx hy k => XS.ineg hA hx rfl (hb hy hd) rfl k) h
theorem go_ladd {x y : Int64} (hd : Ins M pc (.ladd) 1 pc') (h : Go Z a0 n0 M R Q pc' L (.long (x + y) :: st) H ce sl) : Go Z a0 n0 M R Q pc L (.long y :: .long x :: st) H ce sl := by
  obtain ⟨hd, rfl⟩ := hd
  exact go_pure (fun p e m below c T t hA hx hy k => XT.ladd hA hx rfl (hb hy hd) rfl k) h
theorem go_lsub {x y : Int64} (hd : Ins M pc (.lsub) 1 pc') (h : Go Z a0 n0 M R Q pc' L (.long (x - y) :: st) H ce sl) : Go Z a0 n0 M R Q pc L (.long y :: .long x :: st) H ce sl := by
  obtain ⟨hd, rfl⟩ := hd
  exact go_pure (fun p e m below c T t hA hx hy k => XT.lsub hA hx rfl (hb hy hd) rfl k) h
theorem go_lmul {x y : Int64} (hd : Ins M pc (.lmul) 1 pc') (h : Go Z a0 n0 M R Q pc' L (.long (x * y) :: st) H ce sl) : Go Z a0 n0 M R Q pc L (.long y :: .long x :: st) H ce sl := by
  obtain ⟨hd, rfl⟩ := hd
  exact go_pure (fun p e m below c T t hA hx hy k => XT.lmul hA hx rfl (hb hy hd) rfl k) h
theorem go_land {x y : Int64} (hd : Ins M pc (.land) 1 pc') (h : Go Z a0 n0 M R Q pc' L (.long (x &&& y) :: st) H ce sl) : Go Z a0 n0 M R Q pc L (.long y :: .long x :: st) H ce sl := by
  obtain ⟨hd, rfl⟩ := hd
  exact go_pure (fun p e m below c T t hA hx hy k => XT.land hA hx rfl (hb hy hd) rfl k) h
theorem go_lor {x y : Int64} (hd : Ins M pc (.lor) 1 pc') (h : Go Z a0 n0 M R Q pc' L (.long (x ||| y) :: st) H ce sl) : Go Z a0 n0 M R Q pc L (.long y :: .long x :: st) H ce sl := by
  obtain ⟨hd, rfl⟩ := hd
  exact go_pure (fun p e m below c T t hA hx hy k => XT.lor hA hx rfl (hb hy hd) rfl k) h
theorem go_lxor {x y : Int64} (hd : Ins M pc (.lxor) 1 pc') (h : Go Z a0 n0 M R Q pc' L (.long (x ^^^ y) :: st) H ce sl) : Go Z a0 n0 M R Q pc L (.long y :: .long x :: st) H ce sl := by
  obtain ⟨hd, rfl⟩ := hd
  exact go_pure (fun p e m below c T t hA hx hy k => XT.lxor hA hx rfl (hb hy hd) rfl k) h
theorem go_lshl {x : Int64} {y : Int32} (hd : Ins M pc (.lshl) 1 pc') (h : Go Z a0 n0 M R Q pc' L (.long (x <<< (y.toInt64 &&& 63)) :: st) H ce sl) : Go Z a0 n0 M R Q pc L (.int y :: .long x :: st) H ce sl := by
  obtain ⟨hd, rfl⟩ := hd
  exact go_pure (fun p e m below c T t hA hx hy k => XT.lshl hA hx rfl (hb hy hd) rfl k) h
theorem go_lshr {x : Int64} {y : Int32} (hd : Ins M pc (.lshr) 1 pc') (h : Go Z a0 n0 M R Q pc' L (.long (x >>> (y.toInt64 &&& 63)) :: st) H ce sl) : Go Z a0 n0 M R Q pc L (.int y :: .long x :: st) H ce sl := by
  obtain ⟨hd, rfl⟩ := hd
  exact go_pure (fun p e m below c T t hA hx hy k => XT.lshr hA hx rfl (hb hy hd) rfl k) h
theorem go_lushr {x : Int64} {y : Int32} (hd : Ins M pc (.lushr) 1 pc') (h : Go Z a0 n0 M R Q pc' L (.long (XT.ushrL x y) :: st) H ce sl) : Go Z a0 n0 M R Q pc L (.int y :: .long x :: st) H ce sl := by
  obtain ⟨hd, rfl⟩ := hd
  exact go_pure (fun p e m below c T t hA hx hy k => XT.lushr hA hx rfl (hb hy hd) rfl k) h
theorem go_lcmp {x y : Int64} (hd : Ins M pc (.lcmp) 1 pc') (h : Go Z a0 n0 M R Q pc' L (.int (XT.cmpL x y) :: st) H ce sl) : Go Z a0 n0 M R Q pc L (.long y :: .long x :: st) H ce sl := by
  obtain ⟨hd, rfl⟩ := hd
  exact go_pure (fun p e m below c T t hA hx hy k => XT.lcmp hA hx rfl (hb hy hd) rfl k) h
theorem go_lneg {x : Int64} (hd : Ins M pc (.lneg) 1 pc') (h : Go Z a0 n0 M R Q pc' L (.long (-x) :: st) H ce sl) : Go Z a0 n0 M R Q pc L (.long x :: st) H ce sl := by
  obtain ⟨hd, rfl⟩ := hd
  exact go_pure (fun p e m below c T t hA hx hy k => XT.lneg hA hx rfl (hb hy hd) rfl k) h
theorem go_i2l {x : Int32} (hd : Ins M pc (.i2l) 1 pc') (h : Go Z a0 n0 M R Q pc' L (.long x.toInt64 :: st) H ce sl) : Go Z a0 n0 M R Q pc L (.int x :: st) H ce sl := by
  obtain ⟨hd, rfl⟩ := hd
  exact go_pure (fun p e m below c T t hA hx hy k => XT.i2l hA hx rfl (hb hy hd) rfl k) h
theorem go_l2i {x : Int64} (hd : Ins M pc (.l2i) 1 pc') (h : Go Z a0 n0 M R Q pc' L (.int x.toInt32 :: st) H ce sl) : Go Z a0 n0 M R Q pc L (.long x :: st) H ce sl := by
  obtain ⟨hd, rfl⟩ := hd
  exact go_pure (fun p e m below c T t hA hx hy k => XT.l2i hA hx rfl (hb hy hd) rfl k) h
theorem go_i2b {x : Int32} (hd : Ins M pc (.i2b) 1 pc') (h : Go Z a0 n0 M R Q pc' L (.int x.toInt8.toInt32 :: st) H ce sl) : Go Z a0 n0 M R Q pc L (.int x :: st) H ce sl := by
  obtain ⟨hd, rfl⟩ := hd
  exact go_pure (fun p e m below c T t hA hx hy k => XT.i2b hA hx rfl (hb hy hd) rfl k) h
theorem go_i2c {x : Int32} (hd : Ins M pc (.i2c) 1 pc') (h : Go Z a0 n0 M R Q pc' L (.int x.toUInt32.toUInt16.toUInt32.toInt32 :: st) H ce sl) : Go Z a0 n0 M R Q pc L (.int x :: st) H ce sl := by
  obtain ⟨hd, rfl⟩ := hd
  exact go_pure (fun p e m below c T t hA hx hy k => XT.i2c hA hx rfl (hb hy hd) rfl k) h
theorem go_dup {x : Value} (hd : Ins M pc (.dup) 1 pc') (hc : x.category = 1) (h : Go Z a0 n0 M R Q pc' L (x :: x :: st) H ce sl) : Go Z a0 n0 M R Q pc L (x :: st) H ce sl := by
  obtain ⟨hd, rfl⟩ := hd
  exact go_pure (fun p e m below c T t hA hx hy k => XS.dup hA hx rfl (hb hy hd) rfl hc k) h
theorem go_pop {x : Value} (hd : Ins M pc (.pop) 1 pc') (hc : x.category = 1) (h : Go Z a0 n0 M R Q pc' L st H ce sl) : Go Z a0 n0 M R Q pc L (x :: st) H ce sl := by
  obtain ⟨hd, rfl⟩ := hd
  exact go_pure (fun p e m below c T t hA hx hy k => XT.pop hA hx rfl (hb hy hd) rfl hc k) h
theorem go_dupX1 {x y : Value} (hd : Ins M pc (.dup_x1) 1 pc') (hc : x.category = 1) (hc' : y.category = 1) (h : Go Z a0 n0 M R Q pc' L (x :: y :: x :: st) H ce sl) : Go Z a0 n0 M R Q pc L (x :: y :: st) H ce sl := by
  obtain ⟨hd, rfl⟩ := hd
  exact go_pure (fun p e m below c T t hA hx hy k => XT.dupX1 hA hx rfl (hb hy hd) rfl hc hc' k) h
theorem go_dup2 {x y : Value} (hd : Ins M pc (.dup2) 1 pc') (hc : x.category = 1) (hc' : y.category = 1) (h : Go Z a0 n0 M R Q pc' L (x :: y :: x :: y :: st) H ce sl) : Go Z a0 n0 M R Q pc L (x :: y :: st) H ce sl := by
  obtain ⟨hd, rfl⟩ := hd
  exact go_pure (fun p e m below c T t hA hx hy k => XT.dup2 hA hx rfl (hb hy hd) rfl hc hc' k) h
theorem go_goto {o : Int} (t : Nat) (hd : Ins M pc (.goto o) 3 pc') (ht : (pc : Int) + o = (t : Int)) (h : Go Z a0 n0 M R Q t L st H ce sl) : Go Z a0 n0 M R Q pc L st H ce sl := by
  obtain ⟨hd, rfl⟩ := hd
  exact go_pure (fun p e m below c T u hA hx hy k => XS.goto hA hx rfl (pc0 := pc) (pc' := t) rfl (hb hy hd) (by omega) (by omega) k) h
theorem go_if {cd : ClassFile.Cond} {o : Int} {x : Int32} (t : Nat) (hd : Ins M pc (.ifCond cd o) 3 pc') (ht : (pc : Int) + o = (t : Int)) (h1 : ifCond.holds cd x = true → Go Z a0 n0 M R Q t L st H ce sl) (h2 : ifCond.holds cd x = false → Go Z a0 n0 M R Q pc' L st H ce sl) : Go Z a0 n0 M R Q pc L (.int x :: st) H ce sl := by
  obtain ⟨hd, rfl⟩ := hd
  cases hc : ifCond.holds cd x
  · exact go_pure (fun p e m below c T u hA hx hy k => XS.ifNo hA hx rfl (hb hy hd) rfl hc k) (h2 hc)
  · exact go_pure (fun p e m below c T u hA hx hy k => XS.ifYes hA hx rfl (pc0 := pc) (pc' := t) rfl (hb hy hd) rfl hc (by omega) (by omega) k) (h1 hc)
theorem go_icmp {cd : ClassFile.Cond} {o : Int} {x y : Int32} (t : Nat) (hd : Ins M pc (.if_icmp cd o) 3 pc') (ht : (pc : Int) + o = (t : Int)) (h1 : if_icmp.holds cd x y = true → Go Z a0 n0 M R Q t L st H ce sl) (h2 : if_icmp.holds cd x y = false → Go Z a0 n0 M R Q pc' L st H ce sl) : Go Z a0 n0 M R Q pc L (.int y :: .int x :: st) H ce sl := by
  obtain ⟨hd, rfl⟩ := hd
  cases hc : if_icmp.holds cd x y
  · exact go_pure (fun p e m below c T u hA hx hy k => XS.icmpNo hA hx rfl (hb hy hd) rfl hc k) (h2 hc)
  · exact go_pure (fun p e m below c T u hA hx hy k => XS.icmpYes hA hx rfl (pc0 := pc) (pc' := t) rfl (hb hy hd) rfl hc (by omega) (by omega) k) (h1 hc)
theorem go_icmpT {cd : ClassFile.Cond} {o : Int} {x y : Int32} (t : Nat) (hd : Ins M pc (.if_icmp cd o) 3 pc') (ht : (pc : Int) + o = (t : Int)) (hc : if_icmp.holds cd x y = true) (h : Go Z a0 n0 M R Q t L st H ce sl) : Go Z a0 n0 M R Q pc L (.int y :: .int x :: st) H ce sl := go_icmp t hd ht (fun _ => h) (fun q => by rw [hc] at q; cases q)
theorem go_icmpF {cd : ClassFile.Cond} {o : Int} {x y : Int32} (hd : Ins M pc (.if_icmp cd o) 3 pc') (hc : if_icmp.holds cd x y = false) (h : Go Z a0 n0 M R Q pc' L st H ce sl) : Go Z a0 n0 M R Q pc L (.int y :: .int x :: st) H ce sl := by
  obtain ⟨hd, rfl⟩ := hd
  exact go_pure (fun p e m below c T u hA hx hy k => XS.icmpNo hA hx rfl (hb hy hd) rfl hc k) h
theorem go_ifT {cd : ClassFile.Cond} {o : Int} {x : Int32} (t : Nat) (hd : Ins M pc (.ifCond cd o) 3 pc') (ht : (pc : Int) + o = (t : Int)) (hc : ifCond.holds cd x = true) (h : Go Z a0 n0 M R Q t L st H ce sl) : Go Z a0 n0 M R Q pc L (.int x :: st) H ce sl := go_if t hd ht (fun _ => h) (fun q => by rw [hc] at q; cases q)
theorem go_ifF {cd : ClassFile.Cond} {o : Int} {x : Int32} (hd : Ins M pc (.ifCond cd o) 3 pc') (hc : ifCond.holds cd x = false) (h : Go Z a0 n0 M R Q pc' L st H ce sl) : Go Z a0 n0 M R Q pc L (.int x :: st) H ce sl := by
  obtain ⟨hd, rfl⟩ := hd
  exact go_pure (fun p e m below c T u hA hx hy k => XS.ifNo hA hx rfl (hb hy hd) rfl hc k) h
theorem hold_lt (x y : Int32) : (if_icmp.holds .lt x y = true ↔ x < y) ∧ (if_icmp.holds .lt x y = false ↔ ¬ x < y) := by simp [if_icmp.holds, Int32.not_lt, Int32.not_le]
theorem go_icmp_lt {o : Int} {x y : Int32} (t : Nat) (hd : Ins M pc (.if_icmp .lt o) 3 pc') (ht : (pc : Int) + o = (t : Int)) (h1 : x < y → Go Z a0 n0 M R Q t L st H ce sl) (h2 : ¬ x < y → Go Z a0 n0 M R Q pc' L st H ce sl) : Go Z a0 n0 M R Q pc L (.int y :: .int x :: st) H ce sl :=
  go_icmp t hd ht (fun q => h1 ((hold_lt x y).1.mp q)) (fun q => h2 ((hold_lt x y).2.mp q))
theorem go_if_lt {o : Int} {x : Int32} (t : Nat) (hd : Ins M pc (.ifCond .lt o) 3 pc') (ht : (pc : Int) + o = (t : Int)) (h1 : x < 0 → Go Z a0 n0 M R Q t L st H ce sl) (h2 : ¬ x < 0 → Go Z a0 n0 M R Q pc' L st H ce sl) : Go Z a0 n0 M R Q pc L (.int x :: st) H ce sl :=
  go_if t hd ht (fun q => h1 ((hold_lt x 0).1.mp ((if0 _ _).symm.trans q))) (fun q => h2 ((hold_lt x 0).2.mp ((if0 _ _).symm.trans q)))
theorem hold_ge (x y : Int32) : (if_icmp.holds .ge x y = true ↔ ¬ x < y) ∧ (if_icmp.holds .ge x y = false ↔ x < y) := by simp [if_icmp.holds, Int32.not_lt, Int32.not_le]
theorem go_icmp_ge {o : Int} {x y : Int32} (t : Nat) (hd : Ins M pc (.if_icmp .ge o) 3 pc') (ht : (pc : Int) + o = (t : Int)) (h1 : ¬ x < y → Go Z a0 n0 M R Q t L st H ce sl) (h2 : x < y → Go Z a0 n0 M R Q pc' L st H ce sl) : Go Z a0 n0 M R Q pc L (.int y :: .int x :: st) H ce sl :=
  go_icmp t hd ht (fun q => h1 ((hold_ge x y).1.mp q)) (fun q => h2 ((hold_ge x y).2.mp q))
theorem go_if_ge {o : Int} {x : Int32} (t : Nat) (hd : Ins M pc (.ifCond .ge o) 3 pc') (ht : (pc : Int) + o = (t : Int)) (h1 : ¬ x < 0 → Go Z a0 n0 M R Q t L st H ce sl) (h2 : x < 0 → Go Z a0 n0 M R Q pc' L st H ce sl) : Go Z a0 n0 M R Q pc L (.int x :: st) H ce sl :=
  go_if t hd ht (fun q => h1 ((hold_ge x 0).1.mp ((if0 _ _).symm.trans q))) (fun q => h2 ((hold_ge x 0).2.mp ((if0 _ _).symm.trans q)))
theorem hold_gt (x y : Int32) : (if_icmp.holds .gt x y = true ↔ y < x) ∧ (if_icmp.holds .gt x y = false ↔ ¬ y < x) := by simp [if_icmp.holds, Int32.not_lt, Int32.not_le]
theorem go_icmp_gt {o : Int} {x y : Int32} (t : Nat) (hd : Ins M pc (.if_icmp .gt o) 3 pc') (ht : (pc : Int) + o = (t : Int)) (h1 : y < x → Go Z a0 n0 M R Q t L st H ce sl) (h2 : ¬ y < x → Go Z a0 n0 M R Q pc' L st H ce sl) : Go Z a0 n0 M R Q pc L (.int y :: .int x :: st) H ce sl :=
  go_icmp t hd ht (fun q => h1 ((hold_gt x y).1.mp q)) (fun q => h2 ((hold_gt x y).2.mp q))
theorem go_if_gt {o : Int} {x : Int32} (t : Nat) (hd : Ins M pc (.ifCond .gt o) 3 pc') (ht : (pc : Int) + o = (t : Int)) (h1 : 0 < x → Go Z a0 n0 M R Q t L st H ce sl) (h2 : ¬ 0 < x → Go Z a0 n0 M R Q pc' L st H ce sl) : Go Z a0 n0 M R Q pc L (.int x :: st) H ce sl :=
  go_if t hd ht (fun q => h1 ((hold_gt x 0).1.mp ((if0 _ _).symm.trans q))) (fun q => h2 ((hold_gt x 0).2.mp ((if0 _ _).symm.trans q)))
theorem hold_le (x y : Int32) : (if_icmp.holds .le x y = true ↔ ¬ y < x) ∧ (if_icmp.holds .le x y = false ↔ y < x) := by simp [if_icmp.holds, Int32.not_lt, Int32.not_le]
theorem go_icmp_le {o : Int} {x y : Int32} (t : Nat) (hd : Ins M pc (.if_icmp .le o) 3 pc') (ht : (pc : Int) + o = (t : Int)) (h1 : ¬ y < x → Go Z a0 n0 M R Q t L st H ce sl) (h2 : y < x → Go Z a0 n0 M R Q pc' L st H ce sl) : Go Z a0 n0 M R Q pc L (.int y :: .int x :: st) H ce sl :=
  go_icmp t hd ht (fun q => h1 ((hold_le x y).1.mp q)) (fun q => h2 ((hold_le x y).2.mp q))
theorem go_if_le {o : Int} {x : Int32} (t : Nat) (hd : Ins M pc (.ifCond .le o) 3 pc') (ht : (pc : Int) + o = (t : Int)) (h1 : ¬ 0 < x → Go Z a0 n0 M R Q t L st H ce sl) (h2 : 0 < x → Go Z a0 n0 M R Q pc' L st H ce sl) : Go Z a0 n0 M R Q pc L (.int x :: st) H ce sl :=
  go_if t hd ht (fun q => h1 ((hold_le x 0).1.mp ((if0 _ _).symm.trans q))) (fun q => h2 ((hold_le x 0).2.mp ((if0 _ _).symm.trans q)))
theorem hold_eq (x y : Int32) : (if_icmp.holds .eq x y = true ↔ x = y) ∧ (if_icmp.holds .eq x y = false ↔ ¬ x = y) := by simp [if_icmp.holds, Int32.not_lt, Int32.not_le]
theorem go_icmp_eq {o : Int} {x y : Int32} (t : Nat) (hd : Ins M pc (.if_icmp .eq o) 3 pc') (ht : (pc : Int) + o = (t : Int)) (h1 : x = y → Go Z a0 n0 M R Q t L st H ce sl) (h2 : ¬ x = y → Go Z a0 n0 M R Q pc' L st H ce sl) : Go Z a0 n0 M R Q pc L (.int y :: .int x :: st) H ce sl :=
  go_icmp t hd ht (fun q => h1 ((hold_eq x y).1.mp q)) (fun q => h2 ((hold_eq x y).2.mp q))
theorem go_if_eq {o : Int} {x : Int32} (t : Nat) (hd : Ins M pc (.ifCond .eq o) 3 pc') (ht : (pc : Int) + o = (t : Int)) (h1 : x = 0 → Go Z a0 n0 M R Q t L st H ce sl) (h2 : ¬ x = 0 → Go Z a0 n0 M R Q pc' L st H ce sl) : Go Z a0 n0 M R Q pc L (.int x :: st) H ce sl :=
  go_if t hd ht (fun q => h1 ((hold_eq x 0).1.mp ((if0 _ _).symm.trans q))) (fun q => h2 ((hold_eq x 0).2.mp ((if0 _ _).symm.trans q)))
theorem hold_ne (x y : Int32) : (if_icmp.holds .ne x y = true ↔ ¬ x = y) ∧ (if_icmp.holds .ne x y = false ↔ x = y) := by simp [if_icmp.holds, Int32.not_lt, Int32.not_le]
theorem go_icmp_ne {o : Int} {x y : Int32} (t : Nat) (hd : Ins M pc (.if_icmp .ne o) 3 pc') (ht : (pc : Int) + o = (t : Int)) (h1 : ¬ x = y → Go Z a0 n0 M R Q t L st H ce sl) (h2 : x = y → Go Z a0 n0 M R Q pc' L st H ce sl) : Go Z a0 n0 M R Q pc L (.int y :: .int x :: st) H ce sl :=
  go_icmp t hd ht (fun q => h1 ((hold_ne x y).1.mp q)) (fun q => h2 ((hold_ne x y).2.mp q))
theorem go_if_ne {o : Int} {x : Int32} (t : Nat) (hd : Ins M pc (.ifCond .ne o) 3 pc') (ht : (pc : Int) + o = (t : Int)) (h1 : ¬ x = 0 → Go Z a0 n0 M R Q t L st H ce sl) (h2 : x = 0 → Go Z a0 n0 M R Q pc' L st H ce sl) : Go Z a0 n0 M R Q pc L (.int x :: st) H ce sl :=
  go_if t hd ht (fun q => h1 ((hold_ne x 0).1.mp ((if0 _ _).symm.trans q))) (fun q => h2 ((hold_ne x 0).2.mp ((if0 _ _).symm.trans q)))
theorem go_ifnull {o : Int} {b : Addr} (hd : Ins M pc (.ifnull o) 3 pc') (h : Go Z a0 n0 M R Q pc' L st H ce sl) : Go Z a0 n0 M R Q pc L (.ref b :: st) H ce sl := by
  obtain ⟨hd, rfl⟩ := hd
  exact go_pure (fun p e m below c T t hA hx hy k => XS.ifnullNo hA hx rfl (hb hy hd) rfl k) h
theorem go_ifnonnull {o : Int} {b : Addr} (t : Nat) (hd : Ins M pc (.ifnonnull o) 3 pc') (ht : (pc : Int) + o = (t : Int)) (h : Go Z a0 n0 M R Q t L st H ce sl) : Go Z a0 n0 M R Q pc L (.ref b :: st) H ce sl := by
  obtain ⟨hd, rfl⟩ := hd
  exact go_pure (fun p e m below c T u hA hx hy k => XT.ifnonnullYes hA hx rfl (pc0 := pc) (pc' := t) rfl (hb hy hd) rfl (by omega) (by omega) k) h
theorem set_app {α : Type} (A B : List α) (o w : α) {k : Nat} (hA : A.length = k) : (A ++ o :: B).toArray.setIfInBounds k w = (A ++ w :: B).toArray := by
  subst hA; simp
theorem get_app {α : Type} (A B : List α) (o : α) {k : Nat} (hA : A.length = k) : (A ++ o :: B).toArray[k]? = some o := by
  subst hA; simp
theorem sto2 {A B : List Slot} {o1 o2 : Slot} {x : Int64} {k : Nat} (hA : A.length = k) (ho : (One o1 ∧ One o2) ∨ ∃ y : Int64, o1 = .val (.long y) ∧ o2 = .second) : storeLocals (A ++ o1 :: o2 :: B).toArray k (.long x) = some (A ++ .val (.long x) :: .second :: B).toArray := by
  subst hA
  rcases ho with ⟨h1, h2⟩ | ⟨y, rfl, rfl⟩
  · rcases h1 with rfl | ⟨w, rfl, hw⟩ <;> rcases h2 with rfl | ⟨w', rfl, hw'⟩ <;> simp [storeLocals, storeSelf, setAt, *] <;> simp [Value.category]
  · simp [storeLocals, storeSelf, setAt, Value.category]
theorem go_istoreG {k : Nat} {A B : List Slot} {o : Slot} {x : Int32} (hA : A.length = k) (ho : One o) (hd : Ins M pc (.istore k) 2 pc') (h : Go Z a0 n0 M R Q pc' (A ++ .val (.int x) :: B) st H ce sl) : Go Z a0 n0 M R Q pc (A ++ o :: B) (.int x :: st) H ce sl := by
  obtain ⟨hd, rfl⟩ := hd
  exact go_pure (fun p e m below c T t hA' hx hy k => XS.istore hA' hx rfl (hb hy hd) rfl (XS.store1 (get_app A B o hA) ho rfl) (by rw [set_app A B o _ hA]; exact k)) h
theorem go_istoreNG {k : Fin 4} {A B : List Slot} {o : Slot} {x : Int32} (hA : A.length = k.val) (ho : One o) (hd : Ins M pc (.istore_n k) 1 pc') (h : Go Z a0 n0 M R Q pc' (A ++ .val (.int x) :: B) st H ce sl) : Go Z a0 n0 M R Q pc (A ++ o :: B) (.int x :: st) H ce sl := by
  obtain ⟨hd, rfl⟩ := hd
  exact go_pure (fun p e m below c T t hA' hx hy k => XS.istoreN hA' hx rfl (hb hy hd) rfl (XS.store1 (get_app A B o hA) ho rfl) (by rw [set_app A B o _ hA]; exact k)) h
theorem go_astoreG {k : Nat} {A B : List Slot} {o : Slot} {x : Addr} (hA : A.length = k) (ho : One o) (hd : Ins M pc (.astore k) 2 pc') (h : Go Z a0 n0 M R Q pc' (A ++ .val (.ref x) :: B) st H ce sl) : Go Z a0 n0 M R Q pc (A ++ o :: B) (.ref x :: st) H ce sl := by
  obtain ⟨hd, rfl⟩ := hd
  exact go_pure (fun p e m below c T t hA' hx hy k => XS.astore hA' hx rfl (hb hy hd) rfl rfl (XS.store1 (get_app A B o hA) ho rfl) (by rw [set_app A B o _ hA]; exact k)) h
theorem go_astoreNG {k : Fin 4} {A B : List Slot} {o : Slot} {x : Addr} (hA : A.length = k.val) (ho : One o) (hd : Ins M pc (.astore_n k) 1 pc') (h : Go Z a0 n0 M R Q pc' (A ++ .val (.ref x) :: B) st H ce sl) : Go Z a0 n0 M R Q pc (A ++ o :: B) (.ref x :: st) H ce sl := by
  obtain ⟨hd, rfl⟩ := hd
  exact go_pure (fun p e m below c T t hA' hx hy k => XS.astoreN hA' hx rfl (hb hy hd) rfl rfl (XS.store1 (get_app A B o hA) ho rfl) (by rw [set_app A B o _ hA]; exact k)) h
theorem go_lstoreG {k : Nat} {A B : List Slot} {o o' : Slot} {x : Int64} (hA : A.length = k) (ho : (One o ∧ One o') ∨ ∃ y : Int64, o = .val (.long y) ∧ o' = .second) (hd : Ins M pc (.lstore k) 2 pc') (h : Go Z a0 n0 M R Q pc' (A ++ .val (.long x) :: .second :: B) st H ce sl) : Go Z a0 n0 M R Q pc (A ++ o :: o' :: B) (.long x :: st) H ce sl := by
  obtain ⟨hd, rfl⟩ := hd
  exact go_pure (fun p e m below c T t hA' hx hy k => XT.lstore hA' hx rfl (hb hy hd) rfl (sto2 hA ho) k) h
theorem go_lstoreNG {k : Fin 4} {A B : List Slot} {o o' : Slot} {x : Int64} (hA : A.length = k.val) (ho : (One o ∧ One o') ∨ ∃ y : Int64, o = .val (.long y) ∧ o' = .second) (hd : Ins M pc (.lstore_n k) 1 pc') (h : Go Z a0 n0 M R Q pc' (A ++ .val (.long x) :: .second :: B) st H ce sl) : Go Z a0 n0 M R Q pc (A ++ o :: o' :: B) (.long x :: st) H ce sl := by
  obtain ⟨hd, rfl⟩ := hd
  exact go_pure (fun p e m below c T t hA' hx hy k => XT.lstoreN hA' hx rfl (hb hy hd) rfl (sto2 hA ho) k) h
theorem go_iincG {k : Nat} {A B : List Slot} {cst : Int} {x v : Int32} (hA : A.length = k) (hd : Ins M pc (.iinc k cst) 3 pc') (hv : x + Int32.ofInt cst = v) (h : Go Z a0 n0 M R Q pc' (A ++ .val (.int v) :: B) st H ce sl) : Go Z a0 n0 M R Q pc (A ++ .val (.int x) :: B) st H ce sl := by
  obtain ⟨hd, rfl⟩ := hd
  subst hv
  exact go_pure (fun p e m below c T t hA' hx hy k => XS.iinc hA' hx rfl (hb hy hd) (get_app A B (.val (.int x)) hA) (XS.store1 (get_app A B (.val (.int x)) hA) (One.val rfl) rfl) (by rw [set_app A B (.val (.int x)) _ hA]; exact k)) h
theorem go_istore0 {o : Slot} {B : List Slot} {x : Int32} (hd : Ins M pc (.istore_n 0) 1 pc') (ho : One o) (h : Go Z a0 n0 M R Q pc' (.val (.int x) :: B) st H ce sl) : Go Z a0 n0 M R Q pc (o :: B) (.int x :: st) H ce sl := go_istoreNG (A := []) rfl ho hd h
theorem go_astore0 {o : Slot} {B : List Slot} {x : Addr} (hd : Ins M pc (.astore_n 0) 1 pc') (ho : One o) (h : Go Z a0 n0 M R Q pc' (.val (.ref x) :: B) st H ce sl) : Go Z a0 n0 M R Q pc (o :: B) (.ref x :: st) H ce sl := go_astoreNG (A := []) rfl ho hd h
theorem go_lstore0 {o o' : Slot} {B : List Slot} {x : Int64} (hd : Ins M pc (.lstore_n 0) 1 pc') (ho : (One o ∧ One o') ∨ ∃ y : Int64, o = .val (.long y) ∧ o' = .second) (h : Go Z a0 n0 M R Q pc' (.val (.long x) :: .second :: B) st H ce sl) : Go Z a0 n0 M R Q pc (o :: o' :: B) (.long x :: st) H ce sl := go_lstoreNG (A := []) rfl ho hd h
theorem go_iinc0 {B : List Slot} {cst : Int} {x v : Int32} (hd : Ins M pc (.iinc 0 cst) 3 pc') (hv : x + Int32.ofInt cst = v) (h : Go Z a0 n0 M R Q pc' (.val (.int v) :: B) st H ce sl) : Go Z a0 n0 M R Q pc (.val (.int x) :: B) st H ce sl := go_iincG (A := []) rfl hd hv h
theorem go_istore1 {s0 o : Slot} {B : List Slot} {x : Int32} (hd : Ins M pc (.istore_n 1) 1 pc') (ho : One o) (h : Go Z a0 n0 M R Q pc' (s0 :: .val (.int x) :: B) st H ce sl) : Go Z a0 n0 M R Q pc (s0 :: o :: B) (.int x :: st) H ce sl := go_istoreNG (A := [s0]) rfl ho hd h
theorem go_astore1 {s0 o : Slot} {B : List Slot} {x : Addr} (hd : Ins M pc (.astore_n 1) 1 pc') (ho : One o) (h : Go Z a0 n0 M R Q pc' (s0 :: .val (.ref x) :: B) st H ce sl) : Go Z a0 n0 M R Q pc (s0 :: o :: B) (.ref x :: st) H ce sl := go_astoreNG (A := [s0]) rfl ho hd h
theorem go_lstore1 {s0 o o' : Slot} {B : List Slot} {x : Int64} (hd : Ins M pc (.lstore_n 1) 1 pc') (ho : (One o ∧ One o') ∨ ∃ y : Int64, o = .val (.long y) ∧ o' = .second) (h : Go Z a0 n0 M R Q pc' (s0 :: .val (.long x) :: .second :: B) st H ce sl) : Go Z a0 n0 M R Q pc (s0 :: o :: o' :: B) (.long x :: st) H ce sl := go_lstoreNG (A := [s0]) rfl ho hd h
theorem go_iinc1 {s0 : Slot} {B : List Slot} {cst : Int} {x v : Int32} (hd : Ins M pc (.iinc 1 cst) 3 pc') (hv : x + Int32.ofInt cst = v) (h : Go Z a0 n0 M R Q pc' (s0 :: .val (.int v) :: B) st H ce sl) : Go Z a0 n0 M R Q pc (s0 :: .val (.int x) :: B) st H ce sl := go_iincG (A := [s0]) rfl hd hv h
theorem go_istore2 {s0 s1 o : Slot} {B : List Slot} {x : Int32} (hd : Ins M pc (.istore_n 2) 1 pc') (ho : One o) (h : Go Z a0 n0 M R Q pc' (s0 :: s1 :: .val (.int x) :: B) st H ce sl) : Go Z a0 n0 M R Q pc (s0 :: s1 :: o :: B) (.int x :: st) H ce sl := go_istoreNG (A := [s0, s1]) rfl ho hd h
theorem go_astore2 {s0 s1 o : Slot} {B : List Slot} {x : Addr} (hd : Ins M pc (.astore_n 2) 1 pc') (ho : One o) (h : Go Z a0 n0 M R Q pc' (s0 :: s1 :: .val (.ref x) :: B) st H ce sl) : Go Z a0 n0 M R Q pc (s0 :: s1 :: o :: B) (.ref x :: st) H ce sl := go_astoreNG (A := [s0, s1]) rfl ho hd h
theorem go_lstore2 {s0 s1 o o' : Slot} {B : List Slot} {x : Int64} (hd : Ins M pc (.lstore_n 2) 1 pc') (ho : (One o ∧ One o') ∨ ∃ y : Int64, o = .val (.long y) ∧ o' = .second) (h : Go Z a0 n0 M R Q pc' (s0 :: s1 :: .val (.long x) :: .second :: B) st H ce sl) : Go Z a0 n0 M R Q pc (s0 :: s1 :: o :: o' :: B) (.long x :: st) H ce sl := go_lstoreNG (A := [s0, s1]) rfl ho hd h
theorem go_iinc2 {s0 s1 : Slot} {B : List Slot} {cst : Int} {x v : Int32} (hd : Ins M pc (.iinc 2 cst) 3 pc') (hv : x + Int32.ofInt cst = v) (h : Go Z a0 n0 M R Q pc' (s0 :: s1 :: .val (.int v) :: B) st H ce sl) : Go Z a0 n0 M R Q pc (s0 :: s1 :: .val (.int x) :: B) st H ce sl := go_iincG (A := [s0, s1]) rfl hd hv h
theorem go_istore3 {s0 s1 s2 o : Slot} {B : List Slot} {x : Int32} (hd : Ins M pc (.istore_n 3) 1 pc') (ho : One o) (h : Go Z a0 n0 M R Q pc' (s0 :: s1 :: s2 :: .val (.int x) :: B) st H ce sl) : Go Z a0 n0 M R Q pc (s0 :: s1 :: s2 :: o :: B) (.int x :: st) H ce sl := go_istoreNG (A := [s0, s1, s2]) rfl ho hd h
theorem go_astore3 {s0 s1 s2 o : Slot} {B : List Slot} {x : Addr} (hd : Ins M pc (.astore_n 3) 1 pc') (ho : One o) (h : Go Z a0 n0 M R Q pc' (s0 :: s1 :: s2 :: .val (.ref x) :: B) st H ce sl) : Go Z a0 n0 M R Q pc (s0 :: s1 :: s2 :: o :: B) (.ref x :: st) H ce sl := go_astoreNG (A := [s0, s1, s2]) rfl ho hd h
theorem go_lstore3 {s0 s1 s2 o o' : Slot} {B : List Slot} {x : Int64} (hd : Ins M pc (.lstore_n 3) 1 pc') (ho : (One o ∧ One o') ∨ ∃ y : Int64, o = .val (.long y) ∧ o' = .second) (h : Go Z a0 n0 M R Q pc' (s0 :: s1 :: s2 :: .val (.long x) :: .second :: B) st H ce sl) : Go Z a0 n0 M R Q pc (s0 :: s1 :: s2 :: o :: o' :: B) (.long x :: st) H ce sl := go_lstoreNG (A := [s0, s1, s2]) rfl ho hd h
theorem go_iinc3 {s0 s1 s2 : Slot} {B : List Slot} {cst : Int} {x v : Int32} (hd : Ins M pc (.iinc 3 cst) 3 pc') (hv : x + Int32.ofInt cst = v) (h : Go Z a0 n0 M R Q pc' (s0 :: s1 :: s2 :: .val (.int v) :: B) st H ce sl) : Go Z a0 n0 M R Q pc (s0 :: s1 :: s2 :: .val (.int x) :: B) st H ce sl := go_iincG (A := [s0, s1, s2]) rfl hd hv h
theorem go_istore4 {s0 s1 s2 s3 o : Slot} {B : List Slot} {x : Int32} (hd : Ins M pc (.istore 4) 2 pc') (ho : One o) (h : Go Z a0 n0 M R Q pc' (s0 :: s1 :: s2 :: s3 :: .val (.int x) :: B) st H ce sl) : Go Z a0 n0 M R Q pc (s0 :: s1 :: s2 :: s3 :: o :: B) (.int x :: st) H ce sl := go_istoreG (A := [s0, s1, s2, s3]) rfl ho hd h
theorem go_astore4 {s0 s1 s2 s3 o : Slot} {B : List Slot} {x : Addr} (hd : Ins M pc (.astore 4) 2 pc') (ho : One o) (h : Go Z a0 n0 M R Q pc' (s0 :: s1 :: s2 :: s3 :: .val (.ref x) :: B) st H ce sl) : Go Z a0 n0 M R Q pc (s0 :: s1 :: s2 :: s3 :: o :: B) (.ref x :: st) H ce sl := go_astoreG (A := [s0, s1, s2, s3]) rfl ho hd h
theorem go_lstore4 {s0 s1 s2 s3 o o' : Slot} {B : List Slot} {x : Int64} (hd : Ins M pc (.lstore 4) 2 pc') (ho : (One o ∧ One o') ∨ ∃ y : Int64, o = .val (.long y) ∧ o' = .second) (h : Go Z a0 n0 M R Q pc' (s0 :: s1 :: s2 :: s3 :: .val (.long x) :: .second :: B) st H ce sl) : Go Z a0 n0 M R Q pc (s0 :: s1 :: s2 :: s3 :: o :: o' :: B) (.long x :: st) H ce sl := go_lstoreG (A := [s0, s1, s2, s3]) rfl ho hd h
theorem go_iinc4 {s0 s1 s2 s3 : Slot} {B : List Slot} {cst : Int} {x v : Int32} (hd : Ins M pc (.iinc 4 cst) 3 pc') (hv : x + Int32.ofInt cst = v) (h : Go Z a0 n0 M R Q pc' (s0 :: s1 :: s2 :: s3 :: .val (.int v) :: B) st H ce sl) : Go Z a0 n0 M R Q pc (s0 :: s1 :: s2 :: s3 :: .val (.int x) :: B) st H ce sl := go_iincG (A := [s0, s1, s2, s3]) rfl hd hv h
theorem go_istore5 {s0 s1 s2 s3 s4 o : Slot} {B : List Slot} {x : Int32} (hd : Ins M pc (.istore 5) 2 pc') (ho : One o) (h : Go Z a0 n0 M R Q pc' (s0 :: s1 :: s2 :: s3 :: s4 :: .val (.int x) :: B) st H ce sl) : Go Z a0 n0 M R Q pc (s0 :: s1 :: s2 :: s3 :: s4 :: o :: B) (.int x :: st) H ce sl := go_istoreG (A := [s0, s1, s2, s3, s4]) rfl ho hd h
theorem go_astore5 {s0 s1 s2 s3 s4 o : Slot} {B : List Slot} {x : Addr} (hd : Ins M pc (.astore 5) 2 pc') (ho : One o) (h : Go Z a0 n0 M R Q pc' (s0 :: s1 :: s2 :: s3 :: s4 :: .val (.ref x) :: B) st H ce sl) : Go Z a0 n0 M R Q pc (s0 :: s1 :: s2 :: s3 :: s4 :: o :: B) (.ref x :: st) H ce sl := go_astoreG (A := [s0, s1, s2, s3, s4]) rfl ho hd h
theorem go_lstore5 {s0 s1 s2 s3 s4 o o' : Slot} {B : List Slot} {x : Int64} (hd : Ins M pc (.lstore 5) 2 pc') (ho : (One o ∧ One o') ∨ ∃ y : Int64, o = .val (.long y) ∧ o' = .second) (h : Go Z a0 n0 M R Q pc' (s0 :: s1 :: s2 :: s3 :: s4 :: .val (.long x) :: .second :: B) st H ce sl) : Go Z a0 n0 M R Q pc (s0 :: s1 :: s2 :: s3 :: s4 :: o :: o' :: B) (.long x :: st) H ce sl := go_lstoreG (A := [s0, s1, s2, s3, s4]) rfl ho hd h
theorem go_iinc5 {s0 s1 s2 s3 s4 : Slot} {B : List Slot} {cst : Int} {x v : Int32} (hd : Ins M pc (.iinc 5 cst) 3 pc') (hv : x + Int32.ofInt cst = v) (h : Go Z a0 n0 M R Q pc' (s0 :: s1 :: s2 :: s3 :: s4 :: .val (.int v) :: B) st H ce sl) : Go Z a0 n0 M R Q pc (s0 :: s1 :: s2 :: s3 :: s4 :: .val (.int x) :: B) st H ce sl := go_iincG (A := [s0, s1, s2, s3, s4]) rfl hd hv h
theorem go_istore6 {s0 s1 s2 s3 s4 s5 o : Slot} {B : List Slot} {x : Int32} (hd : Ins M pc (.istore 6) 2 pc') (ho : One o) (h : Go Z a0 n0 M R Q pc' (s0 :: s1 :: s2 :: s3 :: s4 :: s5 :: .val (.int x) :: B) st H ce sl) : Go Z a0 n0 M R Q pc (s0 :: s1 :: s2 :: s3 :: s4 :: s5 :: o :: B) (.int x :: st) H ce sl := go_istoreG (A := [s0, s1, s2, s3, s4, s5]) rfl ho hd h
theorem go_astore6 {s0 s1 s2 s3 s4 s5 o : Slot} {B : List Slot} {x : Addr} (hd : Ins M pc (.astore 6) 2 pc') (ho : One o) (h : Go Z a0 n0 M R Q pc' (s0 :: s1 :: s2 :: s3 :: s4 :: s5 :: .val (.ref x) :: B) st H ce sl) : Go Z a0 n0 M R Q pc (s0 :: s1 :: s2 :: s3 :: s4 :: s5 :: o :: B) (.ref x :: st) H ce sl := go_astoreG (A := [s0, s1, s2, s3, s4, s5]) rfl ho hd h
theorem go_lstore6 {s0 s1 s2 s3 s4 s5 o o' : Slot} {B : List Slot} {x : Int64} (hd : Ins M pc (.lstore 6) 2 pc') (ho : (One o ∧ One o') ∨ ∃ y : Int64, o = .val (.long y) ∧ o' = .second) (h : Go Z a0 n0 M R Q pc' (s0 :: s1 :: s2 :: s3 :: s4 :: s5 :: .val (.long x) :: .second :: B) st H ce sl) : Go Z a0 n0 M R Q pc (s0 :: s1 :: s2 :: s3 :: s4 :: s5 :: o :: o' :: B) (.long x :: st) H ce sl := go_lstoreG (A := [s0, s1, s2, s3, s4, s5]) rfl ho hd h
theorem go_iinc6 {s0 s1 s2 s3 s4 s5 : Slot} {B : List Slot} {cst : Int} {x v : Int32} (hd : Ins M pc (.iinc 6 cst) 3 pc') (hv : x + Int32.ofInt cst = v) (h : Go Z a0 n0 M R Q pc' (s0 :: s1 :: s2 :: s3 :: s4 :: s5 :: .val (.int v) :: B) st H ce sl) : Go Z a0 n0 M R Q pc (s0 :: s1 :: s2 :: s3 :: s4 :: s5 :: .val (.int x) :: B) st H ce sl := go_iincG (A := [s0, s1, s2, s3, s4, s5]) rfl hd hv h
theorem go_istore7 {s0 s1 s2 s3 s4 s5 s6 o : Slot} {B : List Slot} {x : Int32} (hd : Ins M pc (.istore 7) 2 pc') (ho : One o) (h : Go Z a0 n0 M R Q pc' (s0 :: s1 :: s2 :: s3 :: s4 :: s5 :: s6 :: .val (.int x) :: B) st H ce sl) : Go Z a0 n0 M R Q pc (s0 :: s1 :: s2 :: s3 :: s4 :: s5 :: s6 :: o :: B) (.int x :: st) H ce sl := go_istoreG (A := [s0, s1, s2, s3, s4, s5, s6]) rfl ho hd h
theorem go_astore7 {s0 s1 s2 s3 s4 s5 s6 o : Slot} {B : List Slot} {x : Addr} (hd : Ins M pc (.astore 7) 2 pc') (ho : One o) (h : Go Z a0 n0 M R Q pc' (s0 :: s1 :: s2 :: s3 :: s4 :: s5 :: s6 :: .val (.ref x) :: B) st H ce sl) : Go Z a0 n0 M R Q pc (s0 :: s1 :: s2 :: s3 :: s4 :: s5 :: s6 :: o :: B) (.ref x :: st) H ce sl := go_astoreG (A := [s0, s1, s2, s3, s4, s5, s6]) rfl ho hd h
theorem go_lstore7 {s0 s1 s2 s3 s4 s5 s6 o o' : Slot} {B : List Slot} {x : Int64} (hd : Ins M pc (.lstore 7) 2 pc') (ho : (One o ∧ One o') ∨ ∃ y : Int64, o = .val (.long y) ∧ o' = .second) (h : Go Z a0 n0 M R Q pc' (s0 :: s1 :: s2 :: s3 :: s4 :: s5 :: s6 :: .val (.long x) :: .second :: B) st H ce sl) : Go Z a0 n0 M R Q pc (s0 :: s1 :: s2 :: s3 :: s4 :: s5 :: s6 :: o :: o' :: B) (.long x :: st) H ce sl := go_lstoreG (A := [s0, s1, s2, s3, s4, s5, s6]) rfl ho hd h
theorem go_iinc7 {s0 s1 s2 s3 s4 s5 s6 : Slot} {B : List Slot} {cst : Int} {x v : Int32} (hd : Ins M pc (.iinc 7 cst) 3 pc') (hv : x + Int32.ofInt cst = v) (h : Go Z a0 n0 M R Q pc' (s0 :: s1 :: s2 :: s3 :: s4 :: s5 :: s6 :: .val (.int v) :: B) st H ce sl) : Go Z a0 n0 M R Q pc (s0 :: s1 :: s2 :: s3 :: s4 :: s5 :: s6 :: .val (.int x) :: B) st H ce sl := go_iincG (A := [s0, s1, s2, s3, s4, s5, s6]) rfl hd hv h
theorem go_istore8 {s0 s1 s2 s3 s4 s5 s6 s7 o : Slot} {B : List Slot} {x : Int32} (hd : Ins M pc (.istore 8) 2 pc') (ho : One o) (h : Go Z a0 n0 M R Q pc' (s0 :: s1 :: s2 :: s3 :: s4 :: s5 :: s6 :: s7 :: .val (.int x) :: B) st H ce sl) : Go Z a0 n0 M R Q pc (s0 :: s1 :: s2 :: s3 :: s4 :: s5 :: s6 :: s7 :: o :: B) (.int x :: st) H ce sl := go_istoreG (A := [s0, s1, s2, s3, s4, s5, s6, s7]) rfl ho hd h
theorem go_astore8 {s0 s1 s2 s3 s4 s5 s6 s7 o : Slot} {B : List Slot} {x : Addr} (hd : Ins M pc (.astore 8) 2 pc') (ho : One o) (h : Go Z a0 n0 M R Q pc' (s0 :: s1 :: s2 :: s3 :: s4 :: s5 :: s6 :: s7 :: .val (.ref x) :: B) st H ce sl) : Go Z a0 n0 M R Q pc (s0 :: s1 :: s2 :: s3 :: s4 :: s5 :: s6 :: s7 :: o :: B) (.ref x :: st) H ce sl := go_astoreG (A := [s0, s1, s2, s3, s4, s5, s6, s7]) rfl ho hd h
theorem go_lstore8 {s0 s1 s2 s3 s4 s5 s6 s7 o o' : Slot} {B : List Slot} {x : Int64} (hd : Ins M pc (.lstore 8) 2 pc') (ho : (One o ∧ One o') ∨ ∃ y : Int64, o = .val (.long y) ∧ o' = .second) (h : Go Z a0 n0 M R Q pc' (s0 :: s1 :: s2 :: s3 :: s4 :: s5 :: s6 :: s7 :: .val (.long x) :: .second :: B) st H ce sl) : Go Z a0 n0 M R Q pc (s0 :: s1 :: s2 :: s3 :: s4 :: s5 :: s6 :: s7 :: o :: o' :: B) (.long x :: st) H ce sl := go_lstoreG (A := [s0, s1, s2, s3, s4, s5, s6, s7]) rfl ho hd h
theorem go_iinc8 {s0 s1 s2 s3 s4 s5 s6 s7 : Slot} {B : List Slot} {cst : Int} {x v : Int32} (hd : Ins M pc (.iinc 8 cst) 3 pc') (hv : x + Int32.ofInt cst = v) (h : Go Z a0 n0 M R Q pc' (s0 :: s1 :: s2 :: s3 :: s4 :: s5 :: s6 :: s7 :: .val (.int v) :: B) st H ce sl) : Go Z a0 n0 M R Q pc (s0 :: s1 :: s2 :: s3 :: s4 :: s5 :: s6 :: s7 :: .val (.int x) :: B) st H ce sl := go_iincG (A := [s0, s1, s2, s3, s4, s5, s6, s7]) rfl hd hv h
theorem go_istore9 {s0 s1 s2 s3 s4 s5 s6 s7 s8 o : Slot} {B : List Slot} {x : Int32} (hd : Ins M pc (.istore 9) 2 pc') (ho : One o) (h : Go Z a0 n0 M R Q pc' (s0 :: s1 :: s2 :: s3 :: s4 :: s5 :: s6 :: s7 :: s8 :: .val (.int x) :: B) st H ce sl) : Go Z a0 n0 M R Q pc (s0 :: s1 :: s2 :: s3 :: s4 :: s5 :: s6 :: s7 :: s8 :: o :: B) (.int x :: st) H ce sl := go_istoreG (A := [s0, s1, s2, s3, s4, s5, s6, s7, s8]) rfl ho hd h
theorem go_astore9 {s0 s1 s2 s3 s4 s5 s6 s7 s8 o : Slot} {B : List Slot} {x : Addr} (hd : Ins M pc (.astore 9) 2 pc') (ho : One o) (h : Go Z a0 n0 M R Q pc' (s0 :: s1 :: s2 :: s3 :: s4 :: s5 :: s6 :: s7 :: s8 :: .val (.ref x) :: B) st H ce sl) : Go Z a0 n0 M R Q pc (s0 :: s1 :: s2 :: s3 :: s4 :: s5 :: s6 :: s7 :: s8 :: o :: B) (.ref x :: st) H ce sl := go_astoreG (A := [s0, s1, s2, s3, s4, s5, s6, s7, s8]) rfl ho hd h
theorem go_lstore9 {s0 s1 s2 s3 s4 s5 s6 s7 s8 o o' : Slot} {B : List Slot} {x : Int64} (hd : Ins M pc (.lstore 9) 2 pc') (ho : (One o ∧ One o') ∨ ∃ y : Int64, o = .val (.long y) ∧ o' = .second) (h : Go Z a0 n0 M R Q pc' (s0 :: s1 :: s2 :: s3 :: s4 :: s5 :: s6 :: s7 :: s8 :: .val (.long x) :: .second :: B) st H ce sl) : Go Z a0 n0 M R Q pc (s0 :: s1 :: s2 :: s3 :: s4 :: s5 :: s6 :: s7 :: s8 :: o :: o' :: B) (.long x :: st) H ce sl := go_lstoreG (A := [s0, s1, s2, s3, s4, s5, s6, s7, s8]) rfl ho hd h
theorem go_iinc9 {s0 s1 s2 s3 s4 s5 s6 s7 s8 : Slot} {B : List Slot} {cst : Int} {x v : Int32} (hd : Ins M pc (.iinc 9 cst) 3 pc') (hv : x + Int32.ofInt cst = v) (h : Go Z a0 n0 M R Q pc' (s0 :: s1 :: s2 :: s3 :: s4 :: s5 :: s6 :: s7 :: s8 :: .val (.int v) :: B) st H ce sl) : Go Z a0 n0 M R Q pc (s0 :: s1 :: s2 :: s3 :: s4 :: s5 :: s6 :: s7 :: s8 :: .val (.int x) :: B) st H ce sl := go_iincG (A := [s0, s1, s2, s3, s4, s5, s6, s7, s8]) rfl hd hv h
theorem go_istore10 {s0 s1 s2 s3 s4 s5 s6 s7 s8 s9 o : Slot} {B : List Slot} {x : Int32} (hd : Ins M pc (.istore 10) 2 pc') (ho : One o) (h : Go Z a0 n0 M R Q pc' (s0 :: s1 :: s2 :: s3 :: s4 :: s5 :: s6 :: s7 :: s8 :: s9 :: .val (.int x) :: B) st H ce sl) : Go Z a0 n0 M R Q pc (s0 :: s1 :: s2 :: s3 :: s4 :: s5 :: s6 :: s7 :: s8 :: s9 :: o :: B) (.int x :: st) H ce sl := go_istoreG (A := [s0, s1, s2, s3, s4, s5, s6, s7, s8, s9]) rfl ho hd h
theorem go_astore10 {s0 s1 s2 s3 s4 s5 s6 s7 s8 s9 o : Slot} {B : List Slot} {x : Addr} (hd : Ins M pc (.astore 10) 2 pc') (ho : One o) (h : Go Z a0 n0 M R Q pc' (s0 :: s1 :: s2 :: s3 :: s4 :: s5 :: s6 :: s7 :: s8 :: s9 :: .val (.ref x) :: B) st H ce sl) : Go Z a0 n0 M R Q pc (s0 :: s1 :: s2 :: s3 :: s4 :: s5 :: s6 :: s7 :: s8 :: s9 :: o :: B) (.ref x :: st) H ce sl := go_astoreG (A := [s0, s1, s2, s3, s4, s5, s6, s7, s8, s9]) rfl ho hd h
theorem go_lstore10 {s0 s1 s2 s3 s4 s5 s6 s7 s8 s9 o o' : Slot} {B : List Slot} {x : Int64} (hd : Ins M pc (.lstore 10) 2 pc') (ho : (One o ∧ One o') ∨ ∃ y : Int64, o = .val (.long y) ∧ o' = .second) (h : Go Z a0 n0 M R Q pc' (s0 :: s1 :: s2 :: s3 :: s4 :: s5 :: s6 :: s7 :: s8 :: s9 :: .val (.long x) :: .second :: B) st H ce sl) : Go Z a0 n0 M R Q pc (s0 :: s1 :: s2 :: s3 :: s4 :: s5 :: s6 :: s7 :: s8 :: s9 :: o :: o' :: B) (.long x :: st) H ce sl := go_lstoreG (A := [s0, s1, s2, s3, s4, s5, s6, s7, s8, s9]) rfl ho hd h
theorem go_iinc10 {s0 s1 s2 s3 s4 s5 s6 s7 s8 s9 : Slot} {B : List Slot} {cst : Int} {x v : Int32} (hd : Ins M pc (.iinc 10 cst) 3 pc') (hv : x + Int32.ofInt cst = v) (h : Go Z a0 n0 M R Q pc' (s0 :: s1 :: s2 :: s3 :: s4 :: s5 :: s6 :: s7 :: s8 :: s9 :: .val (.int v) :: B) st H ce sl) : Go Z a0 n0 M R Q pc (s0 :: s1 :: s2 :: s3 :: s4 :: s5 :: s6 :: s7 :: s8 :: s9 :: .val (.int x) :: B) st H ce sl := go_iincG (A := [s0, s1, s2, s3, s4, s5, s6, s7, s8, s9]) rfl hd hv h
theorem go_istore11 {s0 s1 s2 s3 s4 s5 s6 s7 s8 s9 s10 o : Slot} {B : List Slot} {x : Int32} (hd : Ins M pc (.istore 11) 2 pc') (ho : One o) (h : Go Z a0 n0 M R Q pc' (s0 :: s1 :: s2 :: s3 :: s4 :: s5 :: s6 :: s7 :: s8 :: s9 :: s10 :: .val (.int x) :: B) st H ce sl) : Go Z a0 n0 M R Q pc (s0 :: s1 :: s2 :: s3 :: s4 :: s5 :: s6 :: s7 :: s8 :: s9 :: s10 :: o :: B) (.int x :: st) H ce sl := go_istoreG (A := [s0, s1, s2, s3, s4, s5, s6, s7, s8, s9, s10]) rfl ho hd h
theorem go_astore11 {s0 s1 s2 s3 s4 s5 s6 s7 s8 s9 s10 o : Slot} {B : List Slot} {x : Addr} (hd : Ins M pc (.astore 11) 2 pc') (ho : One o) (h : Go Z a0 n0 M R Q pc' (s0 :: s1 :: s2 :: s3 :: s4 :: s5 :: s6 :: s7 :: s8 :: s9 :: s10 :: .val (.ref x) :: B) st H ce sl) : Go Z a0 n0 M R Q pc (s0 :: s1 :: s2 :: s3 :: s4 :: s5 :: s6 :: s7 :: s8 :: s9 :: s10 :: o :: B) (.ref x :: st) H ce sl := go_astoreG (A := [s0, s1, s2, s3, s4, s5, s6, s7, s8, s9, s10]) rfl ho hd h
theorem go_lstore11 {s0 s1 s2 s3 s4 s5 s6 s7 s8 s9 s10 o o' : Slot} {B : List Slot} {x : Int64} (hd : Ins M pc (.lstore 11) 2 pc') (ho : (One o ∧ One o') ∨ ∃ y : Int64, o = .val (.long y) ∧ o' = .second) (h : Go Z a0 n0 M R Q pc' (s0 :: s1 :: s2 :: s3 :: s4 :: s5 :: s6 :: s7 :: s8 :: s9 :: s10 :: .val (.long x) :: .second :: B) st H ce sl) : Go Z a0 n0 M R Q pc (s0 :: s1 :: s2 :: s3 :: s4 :: s5 :: s6 :: s7 :: s8 :: s9 :: s10 :: o :: o' :: B) (.long x :: st) H ce sl := go_lstoreG (A := [s0, s1, s2, s3, s4, s5, s6, s7, s8, s9, s10]) rfl ho hd h
theorem go_iinc11 {s0 s1 s2 s3 s4 s5 s6 s7 s8 s9 s10 : Slot} {B : List Slot} {cst : Int} {x v : Int32} (hd : Ins M pc (.iinc 11 cst) 3 pc') (hv : x + Int32.ofInt cst = v) (h : Go Z a0 n0 M R Q pc' (s0 :: s1 :: s2 :: s3 :: s4 :: s5 :: s6 :: s7 :: s8 :: s9 :: s10 :: .val (.int v) :: B) st H ce sl) : Go Z a0 n0 M R Q pc (s0 :: s1 :: s2 :: s3 :: s4 :: s5 :: s6 :: s7 :: s8 :: s9 :: s10 :: .val (.int x) :: B) st H ce sl := go_iincG (A := [s0, s1, s2, s3, s4, s5, s6, s7, s8, s9, s10]) rfl hd hv h
theorem go_istore12 {s0 s1 s2 s3 s4 s5 s6 s7 s8 s9 s10 s11 o : Slot} {B : List Slot} {x : Int32} (hd : Ins M pc (.istore 12) 2 pc') (ho : One o) (h : Go Z a0 n0 M R Q pc' (s0 :: s1 :: s2 :: s3 :: s4 :: s5 :: s6 :: s7 :: s8 :: s9 :: s10 :: s11 :: .val (.int x) :: B) st H ce sl) : Go Z a0 n0 M R Q pc (s0 :: s1 :: s2 :: s3 :: s4 :: s5 :: s6 :: s7 :: s8 :: s9 :: s10 :: s11 :: o :: B) (.int x :: st) H ce sl := go_istoreG (A := [s0, s1, s2, s3, s4, s5, s6, s7, s8, s9, s10, s11]) rfl ho hd h
theorem go_astore12 {s0 s1 s2 s3 s4 s5 s6 s7 s8 s9 s10 s11 o : Slot} {B : List Slot} {x : Addr} (hd : Ins M pc (.astore 12) 2 pc') (ho : One o) (h : Go Z a0 n0 M R Q pc' (s0 :: s1 :: s2 :: s3 :: s4 :: s5 :: s6 :: s7 :: s8 :: s9 :: s10 :: s11 :: .val (.ref x) :: B) st H ce sl) : Go Z a0 n0 M R Q pc (s0 :: s1 :: s2 :: s3 :: s4 :: s5 :: s6 :: s7 :: s8 :: s9 :: s10 :: s11 :: o :: B) (.ref x :: st) H ce sl := go_astoreG (A := [s0, s1, s2, s3, s4, s5, s6, s7, s8, s9, s10, s11]) rfl ho hd h
theorem go_lstore12 {s0 s1 s2 s3 s4 s5 s6 s7 s8 s9 s10 s11 o o' : Slot} {B : List Slot} {x : Int64} (hd : Ins M pc (.lstore 12) 2 pc') (ho : (One o ∧ One o') ∨ ∃ y : Int64, o = .val (.long y) ∧ o' = .second) (h : Go Z a0 n0 M R Q pc' (s0 :: s1 :: s2 :: s3 :: s4 :: s5 :: s6 :: s7 :: s8 :: s9 :: s10 :: s11 :: .val (.long x) :: .second :: B) st H ce sl) : Go Z a0 n0 M R Q pc (s0 :: s1 :: s2 :: s3 :: s4 :: s5 :: s6 :: s7 :: s8 :: s9 :: s10 :: s11 :: o :: o' :: B) (.long x :: st) H ce sl := go_lstoreG (A := [s0, s1, s2, s3, s4, s5, s6, s7, s8, s9, s10, s11]) rfl ho hd h
theorem go_iinc12 {s0 s1 s2 s3 s4 s5 s6 s7 s8 s9 s10 s11 : Slot} {B : List Slot} {cst : Int} {x v : Int32} (hd : Ins M pc (.iinc 12 cst) 3 pc') (hv : x + Int32.ofInt cst = v) (h : Go Z a0 n0 M R Q pc' (s0 :: s1 :: s2 :: s3 :: s4 :: s5 :: s6 :: s7 :: s8 :: s9 :: s10 :: s11 :: .val (.int v) :: B) st H ce sl) : Go Z a0 n0 M R Q pc (s0 :: s1 :: s2 :: s3 :: s4 :: s5 :: s6 :: s7 :: s8 :: s9 :: s10 :: s11 :: .val (.int x) :: B) st H ce sl := go_iincG (A := [s0, s1, s2, s3, s4, s5, s6, s7, s8, s9, s10, s11]) rfl hd hv h
theorem go_istore13 {s0 s1 s2 s3 s4 s5 s6 s7 s8 s9 s10 s11 s12 o : Slot} {B : List Slot} {x : Int32} (hd : Ins M pc (.istore 13) 2 pc') (ho : One o) (h : Go Z a0 n0 M R Q pc' (s0 :: s1 :: s2 :: s3 :: s4 :: s5 :: s6 :: s7 :: s8 :: s9 :: s10 :: s11 :: s12 :: .val (.int x) :: B) st H ce sl) : Go Z a0 n0 M R Q pc (s0 :: s1 :: s2 :: s3 :: s4 :: s5 :: s6 :: s7 :: s8 :: s9 :: s10 :: s11 :: s12 :: o :: B) (.int x :: st) H ce sl := go_istoreG (A := [s0, s1, s2, s3, s4, s5, s6, s7, s8, s9, s10, s11, s12]) rfl ho hd h
theorem go_astore13 {s0 s1 s2 s3 s4 s5 s6 s7 s8 s9 s10 s11 s12 o : Slot} {B : List Slot} {x : Addr} (hd : Ins M pc (.astore 13) 2 pc') (ho : One o) (h : Go Z a0 n0 M R Q pc' (s0 :: s1 :: s2 :: s3 :: s4 :: s5 :: s6 :: s7 :: s8 :: s9 :: s10 :: s11 :: s12 :: .val (.ref x) :: B) st H ce sl) : Go Z a0 n0 M R Q pc (s0 :: s1 :: s2 :: s3 :: s4 :: s5 :: s6 :: s7 :: s8 :: s9 :: s10 :: s11 :: s12 :: o :: B) (.ref x :: st) H ce sl := go_astoreG (A := [s0, s1, s2, s3, s4, s5, s6, s7, s8, s9, s10, s11, s12]) rfl ho hd h
theorem go_lstore13 {s0 s1 s2 s3 s4 s5 s6 s7 s8 s9 s10 s11 s12 o o' : Slot} {B : List Slot} {x : Int64} (hd : Ins M pc (.lstore 13) 2 pc') (ho : (One o ∧ One o') ∨ ∃ y : Int64, o = .val (.long y) ∧ o' = .second) (h : Go Z a0 n0 M R Q pc' (s0 :: s1 :: s2 :: s3 :: s4 :: s5 :: s6 :: s7 :: s8 :: s9 :: s10 :: s11 :: s12 :: .val (.long x) :: .second :: B) st H ce sl) : Go Z a0 n0 M R Q pc (s0 :: s1 :: s2 :: s3 :: s4 :: s5 :: s6 :: s7 :: s8 :: s9 :: s10 :: s11 :: s12 :: o :: o' :: B) (.long x :: st) H ce sl := go_lstoreG (A := [s0, s1, s2, s3, s4, s5, s6, s7, s8, s9, s10, s11, s12]) rfl ho hd h
theorem go_iinc13 {s0 s1 s2 s3 s4 s5 s6 s7 s8 s9 s10 s11 s12 : Slot} {B : List Slot} {cst : Int} {x v : Int32} (hd : Ins M pc (.iinc 13 cst) 3 pc') (hv : x + Int32.ofInt cst = v) (h : Go Z a0 n0 M R Q pc' (s0 :: s1 :: s2 :: s3 :: s4 :: s5 :: s6 :: s7 :: s8 :: s9 :: s10 :: s11 :: s12 :: .val (.int v) :: B) st H ce sl) : Go Z a0 n0 M R Q pc (s0 :: s1 :: s2 :: s3 :: s4 :: s5 :: s6 :: s7 :: s8 :: s9 :: s10 :: s11 :: s12 :: .val (.int x) :: B) st H ce sl := go_iincG (A := [s0, s1, s2, s3, s4, s5, s6, s7, s8, s9, s10, s11, s12]) rfl hd hv h
theorem go_istore14 {s0 s1 s2 s3 s4 s5 s6 s7 s8 s9 s10 s11 s12 s13 o : Slot} {B : List Slot} {x : Int32} (hd : Ins M pc (.istore 14) 2 pc') (ho : One o) (h : Go Z a0 n0 M R Q pc' (s0 :: s1 :: s2 :: s3 :: s4 :: s5 :: s6 :: s7 :: s8 :: s9 :: s10 :: s11 :: s12 :: s13 :: .val (.int x) :: B) st H ce sl) : Go Z a0 n0 M R Q pc (s0 :: s1 :: s2 :: s3 :: s4 :: s5 :: s6 :: s7 :: s8 :: s9 :: s10 :: s11 :: s12 :: s13 :: o :: B) (.int x :: st) H ce sl := go_istoreG (A := [s0, s1, s2, s3, s4, s5, s6, s7, s8, s9, s10, s11, s12, s13]) rfl ho hd h
theorem go_astore14 {s0 s1 s2 s3 s4 s5 s6 s7 s8 s9 s10 s11 s12 s13 o : Slot} {B : List Slot} {x : Addr} (hd : Ins M pc (.astore 14) 2 pc') (ho : One o) (h : Go Z a0 n0 M R Q pc' (s0 :: s1 :: s2 :: s3 :: s4 :: s5 :: s6 :: s7 :: s8 :: s9 :: s10 :: s11 :: s12 :: s13 :: .val (.ref x) :: B) st H ce sl) : Go Z a0 n0 M R Q pc (s0 :: s1 :: s2 :: s3 :: s4 :: s5 :: s6 :: s7 :: s8 :: s9 :: s10 :: s11 :: s12 :: s13 :: o :: B) (.ref x :: st) H ce sl := go_astoreG (A := [s0, s1, s2, s3, s4, s5, s6, s7, s8, s9, s10, s11, s12, s13]) rfl ho hd h
theorem go_lstore14 {s0 s1 s2 s3 s4 s5 s6 s7 s8 s9 s10 s11 s12 s13 o o' : Slot} {B : List Slot} {x : Int64} (hd : Ins M pc (.lstore 14) 2 pc') (ho : (One o ∧ One o') ∨ ∃ y : Int64, o = .val (.long y) ∧ o' = .second) (h : Go Z a0 n0 M R Q pc' (s0 :: s1 :: s2 :: s3 :: s4 :: s5 :: s6 :: s7 :: s8 :: s9 :: s10 :: s11 :: s12 :: s13 :: .val (.long x) :: .second :: B) st H ce sl) : Go Z a0 n0 M R Q pc (s0 :: s1 :: s2 :: s3 :: s4 :: s5 :: s6 :: s7 :: s8 :: s9 :: s10 :: s11 :: s12 :: s13 :: o :: o' :: B) (.long x :: st) H ce sl := go_lstoreG (A := [s0, s1, s2, s3, s4, s5, s6, s7, s8, s9, s10, s11, s12, s13]) rfl ho hd h
theorem go_iinc14 {s0 s1 s2 s3 s4 s5 s6 s7 s8 s9 s10 s11 s12 s13 : Slot} {B : List Slot} {cst : Int} {x v : Int32} (hd : Ins M pc (.iinc 14 cst) 3 pc') (hv : x + Int32.ofInt cst = v) (h : Go Z a0 n0 M R Q pc' (s0 :: s1 :: s2 :: s3 :: s4 :: s5 :: s6 :: s7 :: s8 :: s9 :: s10 :: s11 :: s12 :: s13 :: .val (.int v) :: B) st H ce sl) : Go Z a0 n0 M R Q pc (s0 :: s1 :: s2 :: s3 :: s4 :: s5 :: s6 :: s7 :: s8 :: s9 :: s10 :: s11 :: s12 :: s13 :: .val (.int x) :: B) st H ce sl := go_iincG (A := [s0, s1, s2, s3, s4, s5, s6, s7, s8, s9, s10, s11, s12, s13]) rfl hd hv h
theorem go_istore15 {s0 s1 s2 s3 s4 s5 s6 s7 s8 s9 s10 s11 s12 s13 s14 o : Slot} {B : List Slot} {x : Int32} (hd : Ins M pc (.istore 15) 2 pc') (ho : One o) (h : Go Z a0 n0 M R Q pc' (s0 :: s1 :: s2 :: s3 :: s4 :: s5 :: s6 :: s7 :: s8 :: s9 :: s10 :: s11 :: s12 :: s13 :: s14 :: .val (.int x) :: B) st H ce sl) : Go Z a0 n0 M R Q pc (s0 :: s1 :: s2 :: s3 :: s4 :: s5 :: s6 :: s7 :: s8 :: s9 :: s10 :: s11 :: s12 :: s13 :: s14 :: o :: B) (.int x :: st) H ce sl := go_istoreG (A := [s0, s1, s2, s3, s4, s5, s6, s7, s8, s9, s10, s11, s12, s13, s14]) rfl ho hd h
theorem go_astore15 {s0 s1 s2 s3 s4 s5 s6 s7 s8 s9 s10 s11 s12 s13 s14 o : Slot} {B : List Slot} {x : Addr} (hd : Ins M pc (.astore 15) 2 pc') (ho : One o) (h : Go Z a0 n0 M R Q pc' (s0 :: s1 :: s2 :: s3 :: s4 :: s5 :: s6 :: s7 :: s8 :: s9 :: s10 :: s11 :: s12 :: s13 :: s14 :: .val (.ref x) :: B) st H ce sl) : Go Z a0 n0 M R Q pc (s0 :: s1 :: s2 :: s3 :: s4 :: s5 :: s6 :: s7 :: s8 :: s9 :: s10 :: s11 :: s12 :: s13 :: s14 :: o :: B) (.ref x :: st) H ce sl := go_astoreG (A := [s0, s1, s2, s3, s4, s5, s6, s7, s8, s9, s10, s11, s12, s13, s14]) rfl ho hd h
theorem go_lstore15 {s0 s1 s2 s3 s4 s5 s6 s7 s8 s9 s10 s11 s12 s13 s14 o o' : Slot} {B : List Slot} {x : Int64} (hd : Ins M pc (.lstore 15) 2 pc') (ho : (One o ∧ One o') ∨ ∃ y : Int64, o = .val (.long y) ∧ o' = .second) (h : Go Z a0 n0 M R Q pc' (s0 :: s1 :: s2 :: s3 :: s4 :: s5 :: s6 :: s7 :: s8 :: s9 :: s10 :: s11 :: s12 :: s13 :: s14 :: .val (.long x) :: .second :: B) st H ce sl) : Go Z a0 n0 M R Q pc (s0 :: s1 :: s2 :: s3 :: s4 :: s5 :: s6 :: s7 :: s8 :: s9 :: s10 :: s11 :: s12 :: s13 :: s14 :: o :: o' :: B) (.long x :: st) H ce sl := go_lstoreG (A := [s0, s1, s2, s3, s4, s5, s6, s7, s8, s9, s10, s11, s12, s13, s14]) rfl ho hd h
theorem go_iinc15 {s0 s1 s2 s3 s4 s5 s6 s7 s8 s9 s10 s11 s12 s13 s14 : Slot} {B : List Slot} {cst : Int} {x v : Int32} (hd : Ins M pc (.iinc 15 cst) 3 pc') (hv : x + Int32.ofInt cst = v) (h : Go Z a0 n0 M R Q pc' (s0 :: s1 :: s2 :: s3 :: s4 :: s5 :: s6 :: s7 :: s8 :: s9 :: s10 :: s11 :: s12 :: s13 :: s14 :: .val (.int v) :: B) st H ce sl) : Go Z a0 n0 M R Q pc (s0 :: s1 :: s2 :: s3 :: s4 :: s5 :: s6 :: s7 :: s8 :: s9 :: s10 :: s11 :: s12 :: s13 :: s14 :: .val (.int x) :: B) st H ce sl := go_iincG (A := [s0, s1, s2, s3, s4, s5, s6, s7, s8, s9, s10, s11, s12, s13, s14]) rfl hd hv h
theorem go_istore16 {s0 s1 s2 s3 s4 s5 s6 s7 s8 s9 s10 s11 s12 s13 s14 s15 o : Slot} {B : List Slot} {x : Int32} (hd : Ins M pc (.istore 16) 2 pc') (ho : One o) (h : Go Z a0 n0 M R Q pc' (s0 :: s1 :: s2 :: s3 :: s4 :: s5 :: s6 :: s7 :: s8 :: s9 :: s10 :: s11 :: s12 :: s13 :: s14 :: s15 :: .val (.int x) :: B) st H ce sl) : Go Z a0 n0 M R Q pc (s0 :: s1 :: s2 :: s3 :: s4 :: s5 :: s6 :: s7 :: s8 :: s9 :: s10 :: s11 :: s12 :: s13 :: s14 :: s15 :: o :: B) (.int x :: st) H ce sl := go_istoreG (A := [s0, s1, s2, s3, s4, s5, s6, s7, s8, s9, s10, s11, s12, s13, s14, s15]) rfl ho hd h
theorem go_astore16 {s0 s1 s2 s3 s4 s5 s6 s7 s8 s9 s10 s11 s12 s13 s14 s15 o : Slot} {B : List Slot} {x : Addr} (hd : Ins M pc (.astore 16) 2 pc') (ho : One o) (h : Go Z a0 n0 M R Q pc' (s0 :: s1 :: s2 :: s3 :: s4 :: s5 :: s6 :: s7 :: s8 :: s9 :: s10 :: s11 :: s12 :: s13 :: s14 :: s15 :: .val (.ref x) :: B) st H ce sl) : Go Z a0 n0 M R Q pc (s0 :: s1 :: s2 :: s3 :: s4 :: s5 :: s6 :: s7 :: s8 :: s9 :: s10 :: s11 :: s12 :: s13 :: s14 :: s15 :: o :: B) (.ref x :: st) H ce sl := go_astoreG (A := [s0, s1, s2, s3, s4, s5, s6, s7, s8, s9, s10, s11, s12, s13, s14, s15]) rfl ho hd h
theorem go_lstore16 {s0 s1 s2 s3 s4 s5 s6 s7 s8 s9 s10 s11 s12 s13 s14 s15 o o' : Slot} {B : List Slot} {x : Int64} (hd : Ins M pc (.lstore 16) 2 pc') (ho : (One o ∧ One o') ∨ ∃ y : Int64, o = .val (.long y) ∧ o' = .second) (h : Go Z a0 n0 M R Q pc' (s0 :: s1 :: s2 :: s3 :: s4 :: s5 :: s6 :: s7 :: s8 :: s9 :: s10 :: s11 :: s12 :: s13 :: s14 :: s15 :: .val (.long x) :: .second :: B) st H ce sl) : Go Z a0 n0 M R Q pc (s0 :: s1 :: s2 :: s3 :: s4 :: s5 :: s6 :: s7 :: s8 :: s9 :: s10 :: s11 :: s12 :: s13 :: s14 :: s15 :: o :: o' :: B) (.long x :: st) H ce sl := go_lstoreG (A := [s0, s1, s2, s3, s4, s5, s6, s7, s8, s9, s10, s11, s12, s13, s14, s15]) rfl ho hd h
theorem go_iinc16 {s0 s1 s2 s3 s4 s5 s6 s7 s8 s9 s10 s11 s12 s13 s14 s15 : Slot} {B : List Slot} {cst : Int} {x v : Int32} (hd : Ins M pc (.iinc 16 cst) 3 pc') (hv : x + Int32.ofInt cst = v) (h : Go Z a0 n0 M R Q pc' (s0 :: s1 :: s2 :: s3 :: s4 :: s5 :: s6 :: s7 :: s8 :: s9 :: s10 :: s11 :: s12 :: s13 :: s14 :: s15 :: .val (.int v) :: B) st H ce sl) : Go Z a0 n0 M R Q pc (s0 :: s1 :: s2 :: s3 :: s4 :: s5 :: s6 :: s7 :: s8 :: s9 :: s10 :: s11 :: s12 :: s13 :: s14 :: s15 :: .val (.int x) :: B) st H ce sl := go_iincG (A := [s0, s1, s2, s3, s4, s5, s6, s7, s8, s9, s10, s11, s12, s13, s14, s15]) rfl hd hv h
theorem go_istore17 {s0 s1 s2 s3 s4 s5 s6 s7 s8 s9 s10 s11 s12 s13 s14 s15 s16 o : Slot} {B : List Slot} {x : Int32} (hd : Ins M pc (.istore 17) 2 pc') (ho : One o) (h : Go Z a0 n0 M R Q pc' (s0 :: s1 :: s2 :: s3 :: s4 :: s5 :: s6 :: s7 :: s8 :: s9 :: s10 :: s11 :: s12 :: s13 :: s14 :: s15 :: s16 :: .val (.int x) :: B) st H ce sl) : Go Z a0 n0 M R Q pc (s0 :: s1 :: s2 :: s3 :: s4 :: s5 :: s6 :: s7 :: s8 :: s9 :: s10 :: s11 :: s12 :: s13 :: s14 :: s15 :: s16 :: o :: B) (.int x :: st) H ce sl := go_istoreG (A := [s0, s1, s2, s3, s4, s5, s6, s7, s8, s9, s10, s11, s12, s13, s14, s15, s16]) rfl ho hd h
theorem go_astore17 {s0 s1 s2 s3 s4 s5 s6 s7 s8 s9 s10 s11 s12 s13 s14 s15 s16 o : Slot} {B : List Slot} {x : Addr} (hd : Ins M pc (.astore 17) 2 pc') (ho : One o) (h : Go Z a0 n0 M R Q pc' (s0 :: s1 :: s2 :: s3 :: s4 :: s5 :: s6 :: s7 :: s8 :: s9 :: s10 :: s11 :: s12 :: s13 :: s14 :: s15 :: s16 :: .val (.ref x) :: B) st H ce sl) : Go Z a0 n0 M R Q pc (s0 :: s1 :: s2 :: s3 :: s4 :: s5 :: s6 :: s7 :: s8 :: s9 :: s10 :: s11 :: s12 :: s13 :: s14 :: s15 :: s16 :: o :: B) (.ref x :: st) H ce sl := go_astoreG (A := [s0, s1, s2, s3, s4, s5, s6, s7, s8, s9, s10, s11, s12, s13, s14, s15, s16]) rfl ho hd h
theorem go_lstore17 {s0 s1 s2 s3 s4 s5 s6 s7 s8 s9 s10 s11 s12 s13 s14 s15 s16 o o' : Slot} {B : List Slot} {x : Int64} (hd : Ins M pc (.lstore 17) 2 pc') (ho : (One o ∧ One o') ∨ ∃ y : Int64, o = .val (.long y) ∧ o' = .second) (h : Go Z a0 n0 M R Q pc' (s0 :: s1 :: s2 :: s3 :: s4 :: s5 :: s6 :: s7 :: s8 :: s9 :: s10 :: s11 :: s12 :: s13 :: s14 :: s15 :: s16 :: .val (.long x) :: .second :: B) st H ce sl) : Go Z a0 n0 M R Q pc (s0 :: s1 :: s2 :: s3 :: s4 :: s5 :: s6 :: s7 :: s8 :: s9 :: s10 :: s11 :: s12 :: s13 :: s14 :: s15 :: s16 :: o :: o' :: B) (.long x :: st) H ce sl := go_lstoreG (A := [s0, s1, s2, s3, s4, s5, s6, s7, s8, s9, s10, s11, s12, s13, s14, s15, s16]) rfl ho hd h
theorem go_iinc17 {s0 s1 s2 s3 s4 s5 s6 s7 s8 s9 s10 s11 s12 s13 s14 s15 s16 : Slot} {B : List Slot} {cst : Int} {x v : Int32} (hd : Ins M pc (.iinc 17 cst) 3 pc') (hv : x + Int32.ofInt cst = v) (h : Go Z a0 n0 M R Q pc' (s0 :: s1 :: s2 :: s3 :: s4 :: s5 :: s6 :: s7 :: s8 :: s9 :: s10 :: s11 :: s12 :: s13 :: s14 :: s15 :: s16 :: .val (.int v) :: B) st H ce sl) : Go Z a0 n0 M R Q pc (s0 :: s1 :: s2 :: s3 :: s4 :: s5 :: s6 :: s7 :: s8 :: s9 :: s10 :: s11 :: s12 :: s13 :: s14 :: s15 :: s16 :: .val (.int x) :: B) st H ce sl := go_iincG (A := [s0, s1, s2, s3, s4, s5, s6, s7, s8, s9, s10, s11, s12, s13, s14, s15, s16]) rfl hd hv h
theorem go_istore18 {s0 s1 s2 s3 s4 s5 s6 s7 s8 s9 s10 s11 s12 s13 s14 s15 s16 s17 o : Slot} {B : List Slot} {x : Int32} (hd : Ins M pc (.istore 18) 2 pc') (ho : One o) (h : Go Z a0 n0 M R Q pc' (s0 :: s1 :: s2 :: s3 :: s4 :: s5 :: s6 :: s7 :: s8 :: s9 :: s10 :: s11 :: s12 :: s13 :: s14 :: s15 :: s16 :: s17 :: .val (.int x) :: B) st H ce sl) : Go Z a0 n0 M R Q pc (s0 :: s1 :: s2 :: s3 :: s4 :: s5 :: s6 :: s7 :: s8 :: s9 :: s10 :: s11 :: s12 :: s13 :: s14 :: s15 :: s16 :: s17 :: o :: B) (.int x :: st) H ce sl := go_istoreG (A := [s0, s1, s2, s3, s4, s5, s6, s7, s8, s9, s10, s11, s12, s13, s14, s15, s16, s17]) rfl ho hd h
theorem go_astore18 {s0 s1 s2 s3 s4 s5 s6 s7 s8 s9 s10 s11 s12 s13 s14 s15 s16 s17 o : Slot} {B : List Slot} {x : Addr} (hd : Ins M pc (.astore 18) 2 pc') (ho : One o) (h : Go Z a0 n0 M R Q pc' (s0 :: s1 :: s2 :: s3 :: s4 :: s5 :: s6 :: s7 :: s8 :: s9 :: s10 :: s11 :: s12 :: s13 :: s14 :: s15 :: s16 :: s17 :: .val (.ref x) :: B) st H ce sl) : Go Z a0 n0 M R Q pc (s0 :: s1 :: s2 :: s3 :: s4 :: s5 :: s6 :: s7 :: s8 :: s9 :: s10 :: s11 :: s12 :: s13 :: s14 :: s15 :: s16 :: s17 :: o :: B) (.ref x :: st) H ce sl := go_astoreG (A := [s0, s1, s2, s3, s4, s5, s6, s7, s8, s9, s10, s11, s12, s13, s14, s15, s16, s17]) rfl ho hd h
theorem go_lstore18 {s0 s1 s2 s3 s4 s5 s6 s7 s8 s9 s10 s11 s12 s13 s14 s15 s16 s17 o o' : Slot} {B : List Slot} {x : Int64} (hd : Ins M pc (.lstore 18) 2 pc') (ho : (One o ∧ One o') ∨ ∃ y : Int64, o = .val (.long y) ∧ o' = .second) (h : Go Z a0 n0 M R Q pc' (s0 :: s1 :: s2 :: s3 :: s4 :: s5 :: s6 :: s7 :: s8 :: s9 :: s10 :: s11 :: s12 :: s13 :: s14 :: s15 :: s16 :: s17 :: .val (.long x) :: .second :: B) st H ce sl) : Go Z a0 n0 M R Q pc (s0 :: s1 :: s2 :: s3 :: s4 :: s5 :: s6 :: s7 :: s8 :: s9 :: s10 :: s11 :: s12 :: s13 :: s14 :: s15 :: s16 :: s17 :: o :: o' :: B) (.long x :: st) H ce sl := go_lstoreG (A := [s0, s1, s2, s3, s4, s5, s6, s7, s8, s9, s10, s11, s12, s13, s14, s15, s16, s17]) rfl ho hd h
theorem go_iinc18 {s0 s1 s2 s3 s4 s5 s6 s7 s8 s9 s10 s11 s12 s13 s14 s15 s16 s17 : Slot} {B : List Slot} {cst : Int} {x v : Int32} (hd : Ins M pc (.iinc 18 cst) 3 pc') (hv : x + Int32.ofInt cst = v) (h : Go Z a0 n0 M R Q pc' (s0 :: s1 :: s2 :: s3 :: s4 :: s5 :: s6 :: s7 :: s8 :: s9 :: s10 :: s11 :: s12 :: s13 :: s14 :: s15 :: s16 :: s17 :: .val (.int v) :: B) st H ce sl) : Go Z a0 n0 M R Q pc (s0 :: s1 :: s2 :: s3 :: s4 :: s5 :: s6 :: s7 :: s8 :: s9 :: s10 :: s11 :: s12 :: s13 :: s14 :: s15 :: s16 :: s17 :: .val (.int x) :: B) st H ce sl := go_iincG (A := [s0, s1, s2, s3, s4, s5, s6, s7, s8, s9, s10, s11, s12, s13, s14, s15, s16, s17]) rfl hd hv h
theorem go_istore19 {s0 s1 s2 s3 s4 s5 s6 s7 s8 s9 s10 s11 s12 s13 s14 s15 s16 s17 s18 o : Slot} {B : List Slot} {x : Int32} (hd : Ins M pc (.istore 19) 2 pc') (ho : One o) (h : Go Z a0 n0 M R Q pc' (s0 :: s1 :: s2 :: s3 :: s4 :: s5 :: s6 :: s7 :: s8 :: s9 :: s10 :: s11 :: s12 :: s13 :: s14 :: s15 :: s16 :: s17 :: s18 :: .val (.int x) :: B) st H ce sl) : Go Z a0 n0 M R Q pc (s0 :: s1 :: s2 :: s3 :: s4 :: s5 :: s6 :: s7 :: s8 :: s9 :: s10 :: s11 :: s12 :: s13 :: s14 :: s15 :: s16 :: s17 :: s18 :: o :: B) (.int x :: st) H ce sl := go_istoreG (A := [s0, s1, s2, s3, s4, s5, s6, s7, s8, s9, s10, s11, s12, s13, s14, s15, s16, s17, s18]) rfl ho hd h
theorem go_astore19 {s0 s1 s2 s3 s4 s5 s6 s7 s8 s9 s10 s11 s12 s13 s14 s15 s16 s17 s18 o : Slot} {B : List Slot} {x : Addr} (hd : Ins M pc (.astore 19) 2 pc') (ho : One o) (h : Go Z a0 n0 M R Q pc' (s0 :: s1 :: s2 :: s3 :: s4 :: s5 :: s6 :: s7 :: s8 :: s9 :: s10 :: s11 :: s12 :: s13 :: s14 :: s15 :: s16 :: s17 :: s18 :: .val (.ref x) :: B) st H ce sl) : Go Z a0 n0 M R Q pc (s0 :: s1 :: s2 :: s3 :: s4 :: s5 :: s6 :: s7 :: s8 :: s9 :: s10 :: s11 :: s12 :: s13 :: s14 :: s15 :: s16 :: s17 :: s18 :: o :: B) (.ref x :: st) H ce sl := go_astoreG (A := [s0, s1, s2, s3, s4, s5, s6, s7, s8, s9, s10, s11, s12, s13, s14, s15, s16, s17, s18]) rfl ho hd h
theorem go_lstore19 {s0 s1 s2 s3 s4 s5 s6 s7 s8 s9 s10 s11 s12 s13 s14 s15 s16 s17 s18 o o' : Slot} {B : List Slot} {x : Int64} (hd : Ins M pc (.lstore 19) 2 pc') (ho : (One o ∧ One o') ∨ ∃ y : Int64, o = .val (.long y) ∧ o' = .second) (h : Go Z a0 n0 M R Q pc' (s0 :: s1 :: s2 :: s3 :: s4 :: s5 :: s6 :: s7 :: s8 :: s9 :: s10 :: s11 :: s12 :: s13 :: s14 :: s15 :: s16 :: s17 :: s18 :: .val (.long x) :: .second :: B) st H ce sl) : Go Z a0 n0 M R Q pc (s0 :: s1 :: s2 :: s3 :: s4 :: s5 :: s6 :: s7 :: s8 :: s9 :: s10 :: s11 :: s12 :: s13 :: s14 :: s15 :: s16 :: s17 :: s18 :: o :: o' :: B) (.long x :: st) H ce sl := go_lstoreG (A := [s0, s1, s2, s3, s4, s5, s6, s7, s8, s9, s10, s11, s12, s13, s14, s15, s16, s17, s18]) rfl ho hd h
theorem go_iinc19 {s0 s1 s2 s3 s4 s5 s6 s7 s8 s9 s10 s11 s12 s13 s14 s15 s16 s17 s18 : Slot} {B : List Slot} {cst : Int} {x v : Int32} (hd : Ins M pc (.iinc 19 cst) 3 pc') (hv : x + Int32.ofInt cst = v) (h : Go Z a0 n0 M R Q pc' (s0 :: s1 :: s2 :: s3 :: s4 :: s5 :: s6 :: s7 :: s8 :: s9 :: s10 :: s11 :: s12 :: s13 :: s14 :: s15 :: s16 :: s17 :: s18 :: .val (.int v) :: B) st H ce sl) : Go Z a0 n0 M R Q pc (s0 :: s1 :: s2 :: s3 :: s4 :: s5 :: s6 :: s7 :: s8 :: s9 :: s10 :: s11 :: s12 :: s13 :: s14 :: s15 :: s16 :: s17 :: s18 :: .val (.int x) :: B) st H ce sl := go_iincG (A := [s0, s1, s2, s3, s4, s5, s6, s7, s8, s9, s10, s11, s12, s13, s14, s15, s16, s17, s18]) rfl hd hv h
theorem go_istore20 {s0 s1 s2 s3 s4 s5 s6 s7 s8 s9 s10 s11 s12 s13 s14 s15 s16 s17 s18 s19 o : Slot} {B : List Slot} {x : Int32} (hd : Ins M pc (.istore 20) 2 pc') (ho : One o) (h : Go Z a0 n0 M R Q pc' (s0 :: s1 :: s2 :: s3 :: s4 :: s5 :: s6 :: s7 :: s8 :: s9 :: s10 :: s11 :: s12 :: s13 :: s14 :: s15 :: s16 :: s17 :: s18 :: s19 :: .val (.int x) :: B) st H ce sl) : Go Z a0 n0 M R Q pc (s0 :: s1 :: s2 :: s3 :: s4 :: s5 :: s6 :: s7 :: s8 :: s9 :: s10 :: s11 :: s12 :: s13 :: s14 :: s15 :: s16 :: s17 :: s18 :: s19 :: o :: B) (.int x :: st) H ce sl := go_istoreG (A := [s0, s1, s2, s3, s4, s5, s6, s7, s8, s9, s10, s11, s12, s13, s14, s15, s16, s17, s18, s19]) rfl ho hd h
theorem go_astore20 {s0 s1 s2 s3 s4 s5 s6 s7 s8 s9 s10 s11 s12 s13 s14 s15 s16 s17 s18 s19 o : Slot} {B : List Slot} {x : Addr} (hd : Ins M pc (.astore 20) 2 pc') (ho : One o) (h : Go Z a0 n0 M R Q pc' (s0 :: s1 :: s2 :: s3 :: s4 :: s5 :: s6 :: s7 :: s8 :: s9 :: s10 :: s11 :: s12 :: s13 :: s14 :: s15 :: s16 :: s17 :: s18 :: s19 :: .val (.ref x) :: B) st H ce sl) : Go Z a0 n0 M R Q pc (s0 :: s1 :: s2 :: s3 :: s4 :: s5 :: s6 :: s7 :: s8 :: s9 :: s10 :: s11 :: s12 :: s13 :: s14 :: s15 :: s16 :: s17 :: s18 :: s19 :: o :: B) (.ref x :: st) H ce sl := go_astoreG (A := [s0, s1, s2, s3, s4, s5, s6, s7, s8, s9, s10, s11, s12, s13, s14, s15, s16, s17, s18, s19]) rfl ho hd h
theorem go_lstore20 {s0 s1 s2 s3 s4 s5 s6 s7 s8 s9 s10 s11 s12 s13 s14 s15 s16 s17 s18 s19 o o' : Slot} {B : List Slot} {x : Int64} (hd : Ins M pc (.lstore 20) 2 pc') (ho : (One o ∧ One o') ∨ ∃ y : Int64, o = .val (.long y) ∧ o' = .second) (h : Go Z a0 n0 M R Q pc' (s0 :: s1 :: s2 :: s3 :: s4 :: s5 :: s6 :: s7 :: s8 :: s9 :: s10 :: s11 :: s12 :: s13 :: s14 :: s15 :: s16 :: s17 :: s18 :: s19 :: .val (.long x) :: .second :: B) st H ce sl) : Go Z a0 n0 M R Q pc (s0 :: s1 :: s2 :: s3 :: s4 :: s5 :: s6 :: s7 :: s8 :: s9 :: s10 :: s11 :: s12 :: s13 :: s14 :: s15 :: s16 :: s17 :: s18 :: s19 :: o :: o' :: B) (.long x :: st) H ce sl := go_lstoreG (A := [s0, s1, s2, s3, s4, s5, s6, s7, s8, s9, s10, s11, s12, s13, s14, s15, s16, s17, s18, s19]) rfl ho hd h
theorem go_iinc20 {s0 s1 s2 s3 s4 s5 s6 s7 s8 s9 s10 s11 s12 s13 s14 s15 s16 s17 s18 s19 : Slot} {B : List Slot} {cst : Int} {x v : Int32} (hd : Ins M pc (.iinc 20 cst) 3 pc') (hv : x + Int32.ofInt cst = v) (h : Go Z a0 n0 M R Q pc' (s0 :: s1 :: s2 :: s3 :: s4 :: s5 :: s6 :: s7 :: s8 :: s9 :: s10 :: s11 :: s12 :: s13 :: s14 :: s15 :: s16 :: s17 :: s18 :: s19 :: .val (.int v) :: B) st H ce sl) : Go Z a0 n0 M R Q pc (s0 :: s1 :: s2 :: s3 :: s4 :: s5 :: s6 :: s7 :: s8 :: s9 :: s10 :: s11 :: s12 :: s13 :: s14 :: s15 :: s16 :: s17 :: s18 :: s19 :: .val (.int x) :: B) st H ce sl := go_iincG (A := [s0, s1, s2, s3, s4, s5, s6, s7, s8, s9, s10, s11, s12, s13, s14, s15, s16, s17, s18, s19]) rfl hd hv h
end Rules
section Heap
variable {Z : State} {a0 : Array Value} {n0 : Nat} {M : GM} {R : Room} {Q : Option Value → List GObj → Prop} {pc pc' : Nat} {L : List Slot} {st : List Value} {H : List GObj} {ce sl : Nat}
theorem idx_of {j : Int32} {i : Nat} (h : j.toInt = (i : Int)) : ¬ j < 0 ∧ j.toNatClampNeg = i := by
  constructor
  · rw [Int32.lt_iff_toInt_lt]; simp only [Int32.reduceToInt]; omega
  · simp only [Int32.toNatClampNeg]; omega
theorem idx_in' {j : Int32} {i : Nat} {c : Cell} {vs : List Value} {v : Value} (h : j.toInt = (i : Int)) (hc : c.slots = vs.toArray) (hv : vs[i]? = some v) : ¬ (j < 0 ∨ c.slots.size ≤ j.toNatClampNeg) ∧ c.slots[j.toNatClampNeg]? = some v := by
  obtain ⟨h1, h2⟩ := idx_of h
  have := (List.getElem?_eq_some_iff.mp hv).1
  refine ⟨?_, by rw [h2, hc]; simpa using hv⟩
  rintro (q | q)
  · exact h1 q
  · rw [hc, h2] at q; simp at q; omega
theorem go_getfield {idx k : Nat} {K : GLay} {vs : List Value} {O n d : String} {ty : FieldType} {v : Value} (i : Nat) (hd : Ins M pc (.getfield idx) 3 pc') (w : (Jvm.Cond.fieldLink M.1.cls idx O n d).before a0 Z = true) (hH : H[k]? = some (.inl (K, vs))) (hK : K.2[i]? = some (O, n, d, ty)) (hv : vs[i]? = some v)
    (h : Go Z a0 n0 M R Q pc' L (v :: st) H ce sl) : Go Z a0 n0 M R Q pc L (.ref (n0 + k) :: st) H ce sl := by
  obtain ⟨hd, rfl⟩ := hd
  intro p l e s m args below meth c T locs X C S E F
  obtain ⟨hx, hZ, hby, hml, hret, hlk, hown, hnm⟩ := id C
  have F0 := (S.2.2.2 k _ hH).2.2 i _ _ hK hv
  obtain ⟨T', X', e', st'⟩ := getF X hx hZ hown (host := "") (Or.inl w) Via.refl rfl F0 (g := mkF m pc L.toArray (.ref (n0 + k) :: st)) rfl rfl (hb hby hd)
  exact (h p l e s m args below meth c T' locs X' C (by rw [e']; exact S) E F).back st'
theorem nodup_ne {K : GLay} (h : (K.2.map fun q => q.2.1).Nodup) {i j : Nat} {q q' : String × String × String × FieldType} (hi : K.2[i]? = some q) (hj : K.2[j]? = some q') (ne : i ≠ j) : q.2.1 ≠ q'.2.1 := fun e => by
  obtain ⟨h1, e1⟩ := List.getElem?_eq_some_iff.mp hi
  obtain ⟨h2, e2⟩ := List.getElem?_eq_some_iff.mp hj
  refine ne ((List.getElem_inj (xs := K.2.map fun q => q.2.1) (h₀ := by simpa using h1) (h₁ := by simpa using h2) h).mp ?_)
  simpa [e1, e2] using e
theorem go_putfield {idx k : Nat} {K : GLay} {vs : List Value} {O n d : String} {ty : FieldType} {v : Value} (i : Nat) (hd : Ins M pc (.putfield idx) 3 pc') (w : (Jvm.Cond.fieldLink M.1.cls idx O n d).before a0 Z = true) (hH : H[k]? = some (.inl (K, vs))) (hK : K.2[i]? = some (O, n, d, ty)) (hi : (vs[i]?).isSome = true)
    (hL : (Jvm.Cond.lays K.1 O n d).before a0 Z = true ∨ ((Jvm.Cond.laysFinal K.1 O n d).before a0 Z = true ∧ M.1.cls = O ∧ M.1.name = "<init>")) (hn : narrow ty v = v) (hf : fits ty v = true)
    (h : Go Z a0 n0 M R Q pc' L st (H.set k (.inl (K, vs.set i v))) ce sl) : Go Z a0 n0 M R Q pc L (v :: .ref (n0 + k) :: st) H ce sl := by
  obtain ⟨hd, rfl⟩ := hd
  intro p l e s m args below meth c T locs X C S E F
  obtain ⟨hx, hZ, hby, hml, hret, hlk, hown, hnm⟩ := id C
  obtain ⟨LO, EX, FS⟩ := S.2.2.2 k _ hH
  obtain ⟨old, hold⟩ := Option.isSome_iff_exists.mp hi
  have F0 := FS i _ _ hK hold
  obtain ⟨⟨kk, wi⟩, LA, ND⟩ := LO
  have hmem := List.mem_of_getElem? hK
  obtain ⟨T', h', X', e', W, st'⟩ := putF X hx hZ hown (host := "") (Or.inl w) Via.refl rfl F0 EX (hL.imp id fun q => ⟨q.1, q.2.1, hnm.trans q.2.2⟩) wi (LA _ hmem).2 hn hf (g := mkF m pc L.toArray (v :: .ref (n0 + k) :: st)) rfl rfl (hb hby hd)
  have OB : Ob Z a0 h' (n0 + k) (.inl (K, vs.set i v)) := by
    refine ⟨⟨⟨kk, wi⟩, LA, ND⟩, EX.wr W, fun j q u hq hu => ?_⟩
    by_cases ne : j = i
    · subst ne
      cases hK.symm.trans hq
      have : u = v := by
        have hlt := (List.getElem?_eq_some_iff.mp hold).1
        simpa [List.getElem?_set_self hlt] using hu.symm
      subst this
      exact F0.same W
    · rw [List.getElem?_set_ne (Ne.symm ne)] at hu
      exact (FS j q u hq hu).other W (Or.inr (slot_ne (LA _ (List.mem_of_getElem? hq)).1 (LA _ hmem).1 (nodup_ne ND hq hK ne) (LA _ (List.mem_of_getElem? hq)).2 (LA _ hmem).2))
  have S' : Sat Z a0 n0 T'.heap (H.set k (.inl (K, vs.set i v))) := by rw [e']; exact S.put W OB
  exact (h p l e s m args below meth c T' _ X' C S' (by simpa using E) (Fr.snoc X' F (Nat.le_add_right _ _))).back st'
theorem size_one {p : Program} {l : Launch} {e : Env} {s : State} {m : MethodId} {args : Array Value} {below : List Frame} {meth : Method} {c : Code} {T T' : State} {locs : List Loc} {h' : Heap} {sl' : Nat} (X' : Stand p l e R s m args below meth c T' locs (ce + 1) sl') (e' : T'.heap = h') (S : Sat Z a0 n0 T.heap H) (E : s.heap.size + ce = n0 + H.length) {cell : Cell} (hc : h'[T.heap.size]? = some cell) : h'.size = T.heap.size + 1 := by
  have h1 := X'.heapSize
  have h2 := (Array.getElem?_eq_some_iff.mp hc).1
  have h3 := S.2.2.1
  rw [e'] at h1
  omega
theorem go_new {idx n : Nat} (K : GLay) {vs : List Value} (hd : Ins M pc (.new idx) 3 pc') (w : (Jvm.Cond.classLink M.1.cls idx K.1).before a0 Z = true) (wi : (Jvm.Cond.instantiable K.1 n).before a0 Z = true) (wz : (Jvm.Cond.initialized K.1).before a0 Z = true) (hK : LayOk Z a0 K) (hvs : K.2.map (fun q => defaultValue q.2.2.2) = vs) {k : Nat} (hk : H.length = k) (hc : ce + 1 ≤ R.cells) (hs : sl + n ≤ R.slots)
    (h : Go Z a0 n0 M R Q pc' L (.ref (n0 + k) :: st) (H ++ [.inl (K, vs)]) (ce + 1) (sl + n)) : Go Z a0 n0 M R Q pc L st H ce sl := by
  obtain ⟨hd, rfl⟩ := hd
  subst hk
  intro p l e s m args below meth c T locs X C S E F
  obtain ⟨hx, hZ, hby, hml, hret, hlk, hown, hnm⟩ := id C
  obtain ⟨T', h', X', e', EX, A, D, ⟨cell, hcell, -⟩, st'⟩ := newO X hx hZ hown w wi wz rfl (g := mkF m pc L.toArray st) rfl (hb hby hd) hc hs
  have hsz := size_one X' e' S E hcell
  have OB : Ob Z a0 h' T.heap.size (.inl (K, vs)) := by
    refine ⟨hK, A, fun i q v hq hv => ?_⟩
    subst hvs
    rw [List.getElem?_map, hq] at hv
    cases hv
    obtain ⟨h1, h2⟩ := hK.2.1 q (List.mem_of_getElem? hq)
    exact D h1 h2
  have S' : Sat Z a0 n0 T'.heap (H ++ [.inl (K, vs)]) := by rw [e']; exact S.push EX hsz OB
  refine (h p l e s m args below meth c T' _ X' C S' (by simp; omega) F).back ?_
  rw [← S.2.2.1]; exact st'
theorem go_newarray {aty : ArrayType} {ty : FieldType} {n : Int32} {vs : List Value} (cap : Nat) (hd : Ins M pc (.newarray aty) 2 pc') (hty : newarray.typeOf aty = ty) (w : (Jvm.Cond.arrayClass ty).before a0 Z = true) (hn : ¬ n < 0) (hvs : List.replicate n.toNatClampNeg (defaultValue ty) = vs) (hcap : n.toNatClampNeg ≤ cap) (hbb : cap * 8 ≤ 536870912) {k : Nat} (hk : H.length = k) (hc : ce + 1 ≤ R.cells) (hs : sl + cap ≤ R.slots)
    (h : Go Z a0 n0 M R Q pc' L (.ref (n0 + k) :: st) (H ++ [.inr (ty, vs)]) (ce + 1) (sl + cap)) : Go Z a0 n0 M R Q pc L (.int n :: st) H ce sl := by
  obtain ⟨hd, rfl⟩ := hd
  subst hk hty hvs
  intro p l e s m args below meth c T locs X C S E F
  obtain ⟨hx, hZ, hby, hml, hret, hlk, hown, hnm⟩ := id C
  obtain ⟨T', h', cA, X', e', EX, A, EA, st'⟩ := newPE X hx hZ w rfl (g := mkF m pc L.toArray (.int n :: st)) rfl (hb hby hd) rfl hn hcap hbb hc hs rfl
  have hsz := size_one X' e' S E A.1
  have OB : Ob Z a0 h' T.heap.size (.inr (newarray.typeOf aty, List.replicate n.toNatClampNeg (defaultValue (newarray.typeOf aty)))) := by
    refine ⟨_, A, by simp [newA], fun v hv => ?_, EA, fun C hC => ?_⟩
    · obtain rfl := (List.mem_replicate.mp hv).2
      cases aty <;> rfl
    · cases aty <;> cases hC
  have S' := S.push EX hsz OB
  rw [← e'] at S'
  refine (h p l e s m args below meth c T' _ X' C S' (by simp; omega) F).back ?_
  rw [← S.2.2.1]; exact st'
theorem go_anewarray {idx : Nat} {Cn : String} {n : Int32} {vs : List Value} (cap : Nat) (hd : Ins M pc (.anewarray idx) 3 pc') (w1 : (Jvm.Cond.classLink M.1.cls idx Cn).before a0 Z = true) (w : (Jvm.Cond.arrayOver (.object Cn)).before a0 Z = true) (hn : ¬ n < 0) (hvs : List.replicate n.toNatClampNeg Value.null = vs) (hcap : n.toNatClampNeg ≤ cap) (hbb : cap * 8 ≤ 536870912) {k : Nat} (hk : H.length = k) (hc : ce + 1 ≤ R.cells) (hs : sl + cap ≤ R.slots)
    (h : Go Z a0 n0 M R Q pc' L (.ref (n0 + k) :: st) (H ++ [.inr (.object Cn, vs)]) (ce + 1) (sl + cap)) : Go Z a0 n0 M R Q pc L (.int n :: st) H ce sl := by
  obtain ⟨hd, rfl⟩ := hd
  subst hk hvs
  intro p l e s m args below meth c T locs X C S E F
  obtain ⟨hx, hZ, hby, hml, hret, hlk, hown, hnm⟩ := id C
  obtain ⟨T', h', cA, X', e', EX, A, EA, OV, st'⟩ := newRE X hx hZ hown w1 w rfl (g := mkF m pc L.toArray (.int n :: st)) rfl (hb hby hd) rfl hn hcap hbb hc hs rfl
  have hsz := size_one X' e' S E A.1
  have OB : Ob Z a0 h' T.heap.size (.inr (.object Cn, List.replicate n.toNatClampNeg Value.null)) := by
    refine ⟨_, A, by simp [newA, defaultValue], fun v hv => ?_, EA, fun C hC => ?_⟩
    · obtain rfl := (List.mem_replicate.mp hv).2
      rfl
    · cases hC; exact OV
  have S' := S.push EX hsz OB
  rw [← e'] at S'
  refine (h p l e s m args below meth c T' _ X' C S' (by simp; omega) F).back ?_
  rw [← S.2.2.1]; exact st'
theorem go_arraylength {k : Nat} {ty : FieldType} {vs : List Value} {n : Int32} (hd : Ins M pc .arraylength 1 pc') (hH : H[k]? = some (.inr (ty, vs))) (hn : vs.length.toInt32 = n) (h : Go Z a0 n0 M R Q pc' L (.int n :: st) H ce sl) : Go Z a0 n0 M R Q pc L (.ref (n0 + k) :: st) H ce sl := by
  obtain ⟨hd, rfl⟩ := hd
  intro p l e s m args below meth c T locs X C S E F
  obtain ⟨hx, hZ, hby, hml, hret, hlk, hown, hnm⟩ := id C
  obtain ⟨cl, A, hs, -⟩ := S.2.2.2 k _ hH
  have hlen : cl.slots.size.toInt32 = n := by rw [hs]; simpa using hn
  refine (h p l e s m args below meth c T _ X C S E F).back fun t k' => ?_
  exact X.arraylength hx A.1 (State.isArrayOf_alike hZ.alike A.2.1) (g := mkF m pc L.toArray (.ref (n0 + k) :: st)) rfl rfl (hb hby hd) t (by rw [hlen]; exact k')
theorem go_iaload {k i : Nat} {j x : Int32} {vs : List Value} (hd : Ins M pc .iaload 1 pc') (hH : H[k]? = some (.inr (.int, vs))) (hj : j.toInt = (i : Int)) (hv : vs[i]? = some (.int x)) (h : Go Z a0 n0 M R Q pc' L (.int x :: st) H ce sl) : Go Z a0 n0 M R Q pc L (.int j :: .ref (n0 + k) :: st) H ce sl := by
  obtain ⟨hd, rfl⟩ := hd
  intro p l e s m args below meth c T locs X C S E F
  obtain ⟨hx, hZ, hby, hml, hret, hlk, hown, hnm⟩ := id C
  obtain ⟨cl, A, hs, -⟩ := S.2.2.2 k _ hH
  obtain ⟨g1, g2⟩ := idx_in' hj hs hv
  refine (h p l e s m args below meth c T _ X C S E F).back fun t k' => ?_
  exact X.iaload hx A.1 (State.isArrayOf_alike hZ.alike A.2.1) A.2.2 g1 g2 (g := mkF m pc L.toArray (.int j :: .ref (n0 + k) :: st)) rfl rfl (hb hby hd) t k'
theorem go_laload {k i : Nat} {j : Int32} {x : Int64} {vs : List Value} (hd : Ins M pc .laload 1 pc') (hH : H[k]? = some (.inr (.long, vs))) (hj : j.toInt = (i : Int)) (hv : vs[i]? = some (.long x)) (h : Go Z a0 n0 M R Q pc' L (.long x :: st) H ce sl) : Go Z a0 n0 M R Q pc L (.int j :: .ref (n0 + k) :: st) H ce sl := by
  obtain ⟨hd, rfl⟩ := hd
  intro p l e s m args below meth c T locs X C S E F
  obtain ⟨hx, hZ, hby, hml, hret, hlk, hown, hnm⟩ := id C
  obtain ⟨cl, A, hs, -⟩ := S.2.2.2 k _ hH
  obtain ⟨g1, g2⟩ := idx_in' hj hs hv
  refine (h p l e s m args below meth c T _ X C S E F).back fun t k' => ?_
  exact X.laload hx A.1 (State.isArrayOf_alike hZ.alike A.2.1) A.2.2 g1 g2 (g := mkF m pc L.toArray (.int j :: .ref (n0 + k) :: st)) rfl rfl (hb hby hd) t k'
theorem go_baload {k i : Nat} {j x : Int32} {vs : List Value} (hd : Ins M pc .baload 1 pc') (hH : H[k]? = some (.inr (.byte, vs))) (hj : j.toInt = (i : Int)) (hv : vs[i]? = some (.int x)) (h : Go Z a0 n0 M R Q pc' L (.int x :: st) H ce sl) : Go Z a0 n0 M R Q pc L (.int j :: .ref (n0 + k) :: st) H ce sl := by
  obtain ⟨hd, rfl⟩ := hd
  intro p l e s m args below meth c T locs X C S E F
  obtain ⟨hx, hZ, hby, hml, hret, hlk, hown, hnm⟩ := id C
  obtain ⟨cl, A, hs, -⟩ := S.2.2.2 k _ hH
  obtain ⟨g1, g2⟩ := idx_in' hj hs hv
  refine (h p l e s m args below meth c T _ X C S E F).back fun t k' => ?_
  exact X.baloadBytes hx A.1 (State.isArrayOf_alike hZ.alike A.2.1) A.2.2 g1 g2 (g := mkF m pc L.toArray (.int j :: .ref (n0 + k) :: st)) rfl rfl (hb hby hd) t k'
theorem go_aaload {k i : Nat} {j : Int32} {x : Value} {ty : FieldType} {vs : List Value} (hd : Ins M pc .aaload 1 pc') (hH : H[k]? = some (.inr (ty, vs))) (hty : ty.isReference = true) (hj : j.toInt = (i : Int)) (hv : vs[i]? = some x) (h : Go Z a0 n0 M R Q pc' L (x :: st) H ce sl) : Go Z a0 n0 M R Q pc L (.int j :: .ref (n0 + k) :: st) H ce sl := by
  obtain ⟨hd, rfl⟩ := hd
  intro p l e s m args below meth c T locs X C S E F
  obtain ⟨hx, hZ, hby, hml, hret, hlk, hown, hnm⟩ := id C
  obtain ⟨cl, A, hs, -⟩ := S.2.2.2 k _ hH
  obtain ⟨g1, g2⟩ := idx_in' hj hs hv
  refine (h p l e s m args below meth c T _ X C S E F).back fun t k' => ?_
  exact X.aaload hx A.1 (State.isArrayOf_alike hZ.alike A.2.1) hty A.2.2 g1 g2 (g := mkF m pc L.toArray (.int j :: .ref (n0 + k) :: st)) rfl rfl (hb hby hd) t k'
theorem ob_set {h h' : Heap} {a : Addr} {c : Cell} {ty : FieldType} {vs : List Value} {v : Value} {i : Nat} (A : Arr Z h a c ty) (hs : c.slots = vs.toArray) (hf : ∀ v ∈ vs, fits ty v = true) (EA : Exa Z h a ("[" ++ ty.toString)) (OV : ∀ C, ty = .object C → Ovr Z c.cls C) (W : Wr h h' a i v) (hv : fits ty v = true) : Ob Z a0 h' a (.inr (ty, vs.set i v)) :=
  ⟨c.setSlot i v, A.same W, by simp [Cell.setSlot, hs], fun u hu => (List.mem_or_eq_of_mem_set hu).elim (hf u) (fun q => q ▸ hv), EA.wr W, OV⟩
theorem go_iastore {k i : Nat} {j x : Int32} {vs : List Value} (hd : Ins M pc .iastore 1 pc') (hH : H[k]? = some (.inr (.int, vs))) (hj : j.toInt = (i : Int)) (hi : (vs[i]?).isSome = true) (h : Go Z a0 n0 M R Q pc' L st (H.set k (.inr (.int, vs.set i (.int x)))) ce sl) : Go Z a0 n0 M R Q pc L (.int x :: .int j :: .ref (n0 + k) :: st) H ce sl := by
  obtain ⟨hd, rfl⟩ := hd
  intro p l e s m args below meth c T locs X C S E F
  obtain ⟨hx, hZ, hby, hml, hret, hlk, hown, hnm⟩ := id C
  obtain ⟨cl, A, hs, hf, EA, OV⟩ := S.2.2.2 k _ hH
  obtain ⟨old, hold⟩ := Option.isSome_iff_exists.mp hi
  obtain ⟨g1, -⟩ := idx_in' hj hs hold
  obtain ⟨T', h', X', e', W, st'⟩ := stI X hx hZ rfl A g1 (x := x) (g := mkF m pc L.toArray (.int x :: .int j :: .ref (n0 + k) :: st)) rfl rfl (hb hby hd)
  rw [(idx_of hj).2] at W
  have S' := S.put W (ob_set (a0 := a0) A hs hf EA OV W rfl)
  rw [← e'] at S'
  exact (h p l e s m args below meth c T' _ X' C S' (by simpa using E) (Fr.snoc X' F (Nat.le_add_right _ _))).back st'
theorem go_lastore {k i : Nat} {j : Int32} {x : Int64} {vs : List Value} (hd : Ins M pc .lastore 1 pc') (hH : H[k]? = some (.inr (.long, vs))) (hj : j.toInt = (i : Int)) (hi : (vs[i]?).isSome = true) (h : Go Z a0 n0 M R Q pc' L st (H.set k (.inr (.long, vs.set i (.long x)))) ce sl) : Go Z a0 n0 M R Q pc L (.long x :: .int j :: .ref (n0 + k) :: st) H ce sl := by
  obtain ⟨hd, rfl⟩ := hd
  intro p l e s m args below meth c T locs X C S E F
  obtain ⟨hx, hZ, hby, hml, hret, hlk, hown, hnm⟩ := id C
  obtain ⟨cl, A, hs, hf, EA, OV⟩ := S.2.2.2 k _ hH
  obtain ⟨old, hold⟩ := Option.isSome_iff_exists.mp hi
  obtain ⟨g1, -⟩ := idx_in' hj hs hold
  obtain ⟨T', h', X', e', W, st'⟩ := stJ X hx hZ rfl A g1 (x := x) (g := mkF m pc L.toArray (.long x :: .int j :: .ref (n0 + k) :: st)) rfl rfl (hb hby hd)
  rw [(idx_of hj).2] at W
  have S' := S.put W (ob_set (a0 := a0) A hs hf EA OV W rfl)
  rw [← e'] at S'
  exact (h p l e s m args below meth c T' _ X' C S' (by simpa using E) (Fr.snoc X' F (Nat.le_add_right _ _))).back st'
theorem go_bastore {k i : Nat} {j x : Int32} {vs : List Value} (hd : Ins M pc .bastore 1 pc') (hH : H[k]? = some (.inr (.byte, vs))) (hj : j.toInt = (i : Int)) (hi : (vs[i]?).isSome = true) (h : Go Z a0 n0 M R Q pc' L st (H.set k (.inr (.byte, vs.set i (.int x.toInt8.toInt32)))) ce sl) : Go Z a0 n0 M R Q pc L (.int x :: .int j :: .ref (n0 + k) :: st) H ce sl := by
  obtain ⟨hd, rfl⟩ := hd
  intro p l e s m args below meth c T locs X C S E F
  obtain ⟨hx, hZ, hby, hml, hret, hlk, hown, hnm⟩ := id C
  obtain ⟨cl, A, hs, hf, EA, OV⟩ := S.2.2.2 k _ hH
  obtain ⟨old, hold⟩ := Option.isSome_iff_exists.mp hi
  obtain ⟨g1, -⟩ := idx_in' hj hs hold
  obtain ⟨T', h', X', e', W, st'⟩ := stB X hx hZ rfl A g1 (x := x) (g := mkF m pc L.toArray (.int x :: .int j :: .ref (n0 + k) :: st)) rfl rfl (hb hby hd)
  rw [(idx_of hj).2] at W
  have S' := S.put W (ob_set (a0 := a0) A hs hf EA OV W (fits_nar_byte x))
  rw [← e'] at S'
  exact (h p l e s m args below meth c T' _ X' C S' (by simpa using E) (Fr.snoc X' F (Nat.le_add_right _ _))).back st'
theorem go_aastore {k k' i : Nat} {j : Int32} {Cn : String} {vs us : List Value} {K : GLay} (hd : Ins M pc .aastore 1 pc') (hH : H[k]? = some (.inr (.object Cn, vs))) (hH' : H[k']? = some (.inl (K, us))) (hC : K.1 = Cn) (hj : j.toInt = (i : Int)) (hi : (vs[i]?).isSome = true) (h : Go Z a0 n0 M R Q pc' L st (H.set k (.inr (.object Cn, vs.set i (.ref (n0 + k'))))) ce sl) : Go Z a0 n0 M R Q pc L (.ref (n0 + k') :: .int j :: .ref (n0 + k) :: st) H ce sl := by
  obtain ⟨hd, rfl⟩ := hd
  subst hC
  intro p l e s m args below meth c T locs X C S E F
  obtain ⟨hx, hZ, hby, hml, hret, hlk, hown, hnm⟩ := id C
  obtain ⟨cl, A, hs, hf, EA, OV⟩ := S.2.2.2 k _ hH
  obtain ⟨-, EX, -⟩ := S.2.2.2 k' _ hH'
  obtain ⟨old, hold⟩ := Option.isSome_iff_exists.mp hi
  obtain ⟨g1, -⟩ := idx_in' hj hs hold
  obtain ⟨T', h', X', e', W, st'⟩ := stR X hx hZ rfl A g1 rfl (Sto.of A (OV _ rfl) (Ins.self EX)) (g := mkF m pc L.toArray (.ref (n0 + k') :: .int j :: .ref (n0 + k) :: st)) rfl rfl (hb hby hd)
  rw [(idx_of hj).2] at W
  have S' := S.put W (ob_set (a0 := a0) A hs hf EA OV W rfl)
  rw [← e'] at S'
  exact (h p l e s m args below meth c T' _ X' C S' (by simpa using E) (Fr.snoc X' F (Nat.le_add_right _ _))).back st'
theorem go_ldc {idx : Nat} {v : Int32} (hd : Ins M pc (.ldc idx) 2 pc') (w : (Jvm.Cond.constant M.1.cls idx v).before a0 Z = true) (h : Go Z a0 n0 M R Q pc' L (.int v :: st) H ce sl) : Go Z a0 n0 M R Q pc L st H ce sl := by
  obtain ⟨hd, rfl⟩ := hd
  intro p l e s m args below meth c T locs X C S E F
  obtain ⟨hx, hZ, hby, hml, hret, hlk, hown, hnm⟩ := id C
  exact (h p l e s m args below meth c T _ X C S E F).back (X.ldcInt hx hown (mvT hZ w) (g := mkF m pc L.toArray st) rfl (hb hby hd))
theorem go_ldc2 {idx : Nat} {v : Int64} (hd : Ins M pc (.ldc2_w idx) 3 pc') (w : (Jvm.Cond.constantLong M.1.cls idx v).before a0 Z = true) (h : Go Z a0 n0 M R Q pc' L (.long v :: st) H ce sl) : Go Z a0 n0 M R Q pc L st H ce sl := by
  obtain ⟨hd, rfl⟩ := hd
  intro p l e s m args below meth c T locs X C S E F
  obtain ⟨hx, hZ, hby, hml, hret, hlk, hown, hnm⟩ := id C
  exact (h p l e s m args below meth c T _ X C S E F).back (X.ldc2Long hx hown (mvT hZ w) (g := mkF m pc L.toArray st) rfl (hb hby hd))
theorem go_getstatic {idx : Nat} {O n d : String} {v : Value} (hd : Ins M pc (.getstatic idx) 3 pc') (w : (Jvm.Cond.fieldLink M.1.cls idx O n d).before a0 Z = true) (hS : Sta Z Z.heap O n d v) (h : Go Z a0 n0 M R Q pc' L (v :: st) H ce sl) : Go Z a0 n0 M R Q pc L st H ce sl := by
  obtain ⟨hd, rfl⟩ := hd
  intro p l e s m args below meth c T locs X C S E F
  obtain ⟨hx, hZ, hby, hml, hret, hlk, hown, hnm⟩ := id C
  obtain ⟨T', X', e', st'⟩ := getS X hx hZ (host := "") hown w Via.refl rfl (hS.ext S.2.1) (g := mkF m pc L.toArray st) rfl (hb hby hd)
  exact (h p l e s m args below meth c T' _ X' C (by rw [e']; exact S) E F).back st'
theorem go_checkcastArr {idx k : Nat} {Kn : String} {ty : FieldType} {vs : List Value} (hd : Ins M pc (.checkcast idx) 3 pc') (w : (Jvm.Cond.classLink M.1.cls idx Kn).before a0 Z = true) (hH : H[k]? = some (.inr (ty, vs))) (hK : "[" ++ ty.toString = Kn) (h : Go Z a0 n0 M R Q pc' L (.ref (n0 + k) :: st) H ce sl) : Go Z a0 n0 M R Q pc L (.ref (n0 + k) :: st) H ce sl := by
  obtain ⟨hd, rfl⟩ := hd
  subst hK
  intro p l e s m args below meth c T locs X C S E F
  obtain ⟨hx, hZ, hby, hml, hret, hlk, hown, hnm⟩ := id C
  obtain ⟨cl, A, hs, hf, EA, OV⟩ := S.2.2.2 k _ hH
  obtain ⟨T', X', e', st'⟩ := castY X hx hZ hown w rfl (Ins.self EA) (g := mkF m pc L.toArray (.ref (n0 + k) :: st)) rfl rfl (hb hby hd)
  exact (h p l e s m args below meth c T' _ X' C (by rw [e']; exact S) E F).back st'
theorem go_initO {idx : Nat} {a : Addr} (hd : Ins M pc (.invokespecial idx) 3 pc') (w1 : (Jvm.Cond.methodLink M.1.cls idx Lib.objectInit).before a0 Z = true) (w2 : (Jvm.Cond.instanceMethod Lib.objectInit).before a0 Z = true) (w3 : (Jvm.Cond.code Lib.objectInit object_method_1_code 1 none).before a0 Z = true) (hL : L.length = M.2.2.1) (hf : 1 ≤ R.frames) (hl : (st.map fun v => v.category).sum + 12 ≤ R.locals)
    (h : Go Z a0 n0 M R Q pc' L st H ce sl) : Go Z a0 n0 M R Q pc L (.ref a :: st) H ce sl := by
  obtain ⟨hd, rfl⟩ := hd
  intro p l e s m args below meth c T locs X C S E F
  obtain ⟨hx, hZ, hby, hml, hret, hlk, hown, hnm⟩ := id C
  obtain ⟨T', X', e', st'⟩ := initO X hx hZ hown w1 w2 w3 rfl (g := mkF m pc L.toArray (.ref a :: st)) rfl (by simpa [hml] using hL) rfl (hb hby hd) hf (W := (st.map fun v => v.category).sum) (by simp) hl
  exact (h p l e s m args below meth c T' _ X' C (by rw [e']; exact S) E F).back st'
theorem fin_of {p : Program} {l : Launch} {e : Env} {s : State} {m : MethodId} {args : Array Value} {below : List Frame} {meth : Method} {c : Code} {T : State} {locs : List Loc} {v : Option Value} {S0 : State} (X : Stand p l e R s m args below meth c T locs ce sl) (hlk : meth.locks = false) (hv : meth.sig.returnType = none → v = none) (S : Sat Z a0 n0 T.heap H) (F : Fr n0 locs) (hc : ce ≤ R.cells) (hs : sl ≤ R.slots) (hQ : Q v H)
    (st : ∀ fs, (∀ (f : JFrame) (acts : List Action), f.method = m → f.locked = none → f.entered = [] → (doReturn e (T.setTop f) acts v).1 = T.setFrames fs) → Steps p.tables e below S0 (T.setFrames fs)) : End Z a0 n0 R Q p e s below S0 := by
  obtain ⟨fs, hr, hrun, hended, hW, hsame⟩ := X.leave (v := v) hv hlk
  exact ⟨_, _, st fs hr, hrun, hended, v, locs, rfl, ⟨H, hQ, S, F⟩, ⟨v, rfl⟩, hW, hsame.mono hc hs⟩
theorem go_ireturn {x : Int32} {t : FieldType} (hd : Ins M pc .ireturn 1 pc') (hr : M.2.2.2 = some t) (hn : narrow t (.int x) = .int x) (ht : t = .int ∨ t = .boolean ∨ t = .byte ∨ t = .char ∨ t = .short) (hc : ce ≤ R.cells) (hs : sl ≤ R.slots) (hQ : Q (some (.int x)) H) : Go Z a0 n0 M R Q pc L (.int x :: st) H ce sl := by
  obtain ⟨hd, rfl⟩ := hd
  intro p l e s m args below meth c T locs X C S E F
  obtain ⟨hx, hZ, hby, hml, hret, hlk, hown, hnm⟩ := id C
  exact fin_of X hlk (fun q => by rw [hret, hr] at q; cases q) S F hc hs hQ fun fs hl => retOut X hx (hret.trans hr) hn (Or.inl ⟨rfl, ht, x, rfl⟩) (hb hby hd) hl
theorem go_lreturn {x : Int64} (hd : Ins M pc .lreturn 1 pc') (hr : M.2.2.2 = some .long) (hc : ce ≤ R.cells) (hs : sl ≤ R.slots) (hQ : Q (some (.long x)) H) : Go Z a0 n0 M R Q pc L (.long x :: st) H ce sl := by
  obtain ⟨hd, rfl⟩ := hd
  intro p l e s m args below meth c T locs X C S E F
  obtain ⟨hx, hZ, hby, hml, hret, hlk, hown, hnm⟩ := id C
  exact fin_of X hlk (fun q => by rw [hret, hr] at q; cases q) S F hc hs hQ fun fs hl => retOut X hx (hret.trans hr) rfl (Or.inr (Or.inl ⟨rfl, rfl, x, rfl⟩)) (hb hby hd) hl
theorem go_areturn {w : Value} {t : FieldType} (hd : Ins M pc .areturn 1 pc') (hr : M.2.2.2 = some t) (ht : t.isReference = true) (hw : w.isRef = true) (hn : narrow t w = w) (hc : ce ≤ R.cells) (hs : sl ≤ R.slots) (hQ : Q (some w) H) : Go Z a0 n0 M R Q pc L (w :: st) H ce sl := by
  obtain ⟨hd, rfl⟩ := hd
  intro p l e s m args below meth c T locs X C S E F
  obtain ⟨hx, hZ, hby, hml, hret, hlk, hown, hnm⟩ := id C
  exact fin_of X hlk (fun q => by rw [hret, hr] at q; cases q) S F hc hs hQ fun fs hl => retOut X hx (hret.trans hr) hn (Or.inr (Or.inr (Or.inr (Or.inr ⟨rfl, ht, hw⟩)))) (hb hby hd) hl
theorem go_return (hd : Ins M pc .return_ 1 pc') (hr : M.2.2.2 = none) (hc : ce ≤ R.cells) (hs : sl ≤ R.slots) (hQ : Q none H) : Go Z a0 n0 M R Q pc L [] H ce sl := by
  obtain ⟨hd, rfl⟩ := hd
  intro p l e s m args below meth c T locs X C S E F
  obtain ⟨hx, hZ, hby, hml, hret, hlk, hown, hnm⟩ := id C
  exact fin_of X hlk (fun q => rfl) S F hc hs hQ fun fs hl => X.returnOut hx (hret.trans hr) (hb hby hd) hl
end Heap
section More
variable {Z : State} {a0 : Array Value} {n0 : Nat} {M : GM} {R : Room} {Q : Option Value → List GObj → Prop} {pc pc' : Nat} {L : List Slot} {st : List Value} {H : List GObj} {ce sl : Nat}
theorem go_clone {idx k : Nat} {ad : String} {ty : FieldType} {vs : List Value} (cap : Nat) (hd : Ins M pc (.invokevirtual idx) 3 pc') (w1 : (Jvm.Cond.methodLink M.1.cls idx ⟨ad, "clone", "()Ljava/lang/Object;"⟩).before a0 Z = true) (w2 : (Jvm.Cond.sameMethod ad "java/lang/Object" "clone" "()Ljava/lang/Object;").before a0 Z = true) (w3 : (Jvm.Cond.native ⟨"java/lang/Object", "clone", "()Ljava/lang/Object;"⟩).before a0 Z = true)
    (w4 : (Jvm.Cond.instanceMethod ⟨"java/lang/Object", "clone", "()Ljava/lang/Object;"⟩).before a0 Z = true) (w5 : (Jvm.Cond.selects ad ⟨ad, "clone", "()Ljava/lang/Object;"⟩ ⟨"java/lang/Object", "clone", "()Ljava/lang/Object;"⟩).before a0 Z = true) (w6 : (Jvm.Cond.castable ad "java/lang/Cloneable").before a0 Z = true)
    (hH : H[k]? = some (.inr (ty, vs))) (had : "[" ++ ty.toString = ad) (hL : L.length = M.2.2.1) (hf : 1 ≤ R.frames) (hl : (st.map fun v => v.category).sum + 14 ≤ R.locals) (hcap : vs.length ≤ cap) {k' : Nat} (hk : H.length = k') (hc : ce + 1 ≤ R.cells) (hs : sl + cap ≤ R.slots)
    (h : Go Z a0 n0 M R Q pc' L (.ref (n0 + k') :: st) (H ++ [.inr (ty, vs)]) (ce + 1) (sl + cap)) : Go Z a0 n0 M R Q pc L (.ref (n0 + k) :: st) H ce sl := by
  obtain ⟨hd, rfl⟩ := hd
  subst hk had
  intro p l e s m args below meth c T locs X C S E F
  obtain ⟨hx, hZ, hby, hml, hret, hlk, hown, hnm⟩ := id C
  obtain ⟨cl, A, hsl, hfit, EA, OV⟩ := S.2.2.2 k _ hH
  have FC : FitC Z cl := fitC_of A fun i hi v hv => by
    rw [hsl] at hv
    exact hfit v (List.mem_of_getElem? (by simpa using hv))
  obtain ⟨T', h', X', e', EX, A', EA', st'⟩ := cloneA X hx hZ hown w1 w2 w3 w4 w5 w6 rfl A EA FC (g := mkF m pc L.toArray (.ref (n0 + k) :: st)) rfl (by simpa [hml] using hL) rfl (hb hby hd) hf (W := (st.map fun v => v.category).sum) (by simp) hl (cap := cap) (by rw [hsl]; simpa using hcap) hc hs
  have hsz := size_one X' e' S E A'.1
  have S' := S.push EX hsz (show Ob Z a0 h' T.heap.size (.inr (ty, vs)) from ⟨_, A', hsl, hfit, EA', OV⟩)
  rw [← e'] at S'
  refine (h p l e s m args below meth c T' _ X' C S' (by simp; omega) F).back ?_
  rw [← S.2.2.1]; exact st'
theorem go_dconst1 (hd : Ins M pc (.dconst 1) 1 pc') (h : Go Z a0 n0 M R Q pc' L (.double FP.dconst1 :: st) H ce sl) : Go Z a0 n0 M R Q pc L st H ce sl := by
  obtain ⟨hd, rfl⟩ := hd
  refine go_pure (fun p e m below c T t hA hx hy k => ?_) h
  have hd' := hb hy hd
  jvm_step hA [hA.top, hx, hd', dconst.wp_sem]
  exact k
theorem go_dloadN {k : Fin 4} {v : UInt64} (hd : Ins M pc (.dload_n k) 1 pc') (hl : L[k.val]? = some (.val (.double v))) (h : Go Z a0 n0 M R Q pc' L (.double v :: st) H ce sl) : Go Z a0 n0 M R Q pc L st H ce sl := by
  obtain ⟨hd, rfl⟩ := hd
  refine go_pure (fun p e m below c T t hA hx hy k' => ?_) h
  have hd' := hb hy hd
  have hl' : L.toArray[k.val]? = some (.val (.double v)) := by simpa using hl
  jvm_step hA [hA.top, hx, hd', hl']
  exact k'
end More
section Calls
variable {Z : State} {a0 : Array Value} {n0 : Nat} {M : GM} {R : Room} {Q : Option Value → List GObj → Prop} {pc pc' : Nat} {L : List Slot} {st : List Value} {H : List GObj} {ce sl : Nat}
/-- the contract of a body: from these arguments and these objects it comes back, and what it leaves meets Q -/
def MetW (Z : State) (a0 : Array Value) (n0 : Nat) (M : GM) (ws : List Jvm.Cond) (R : Room) (as : List Value) (H : List GObj) (Q : Option Value → List GObj → Prop) : Prop :=
  ∀ (l : Launch) (h : Heap), Sat Z a0 n0 h H → MetFree l M.1 (head1 (Jvm.Cond.code M.1 M.2.1 M.2.2.1 M.2.2.2 :: ws) R) (fun a U => a = as.toArray ∧ Z.Warmed39 U.vm ∧ U.heap = h) (fun _ _ _ _ _ => True)
    (fun _ U o U' => ∃ v L, o = .returned v ∧ (∃ H', Q v H' ∧ Sat Z a0 n0 U'.heap H' ∧ Fr n0 L) ∧ FrameEnd U o U' L R.cells R.slots)
def locsF (as : List Value) : List Slot := as.flatMap fun v => if v.category = 2 then [.val v, .second] else [.val v]
def locsOf (as : List Value) (n : Nat) : List Slot := locsF as ++ List.replicate (n - (locsF as).length) .unset
theorem args_eq (as : List Value) (n : Nat) : argsToLocals as.toArray n = (locsOf as n).toArray := by
  have h : ∀ (as : List Value) (acc : Array Slot), as.foldl (fun acc v => if v.category = 2 then (acc.push (.val v)).push .second else acc.push (.val v)) acc = acc ++ (locsF as).toArray := by
    intro as
    induction as with
    | nil => intro acc; simp [locsF]
    | cons v t ih =>
      intro acc
      rw [List.foldl_cons, ih]
      by_cases c : v.category = 2 <;> simp [locsF, c]
  have h' := h as #[]
  unfold argsToLocals
  simp only [List.foldl_toArray', List.size_toArray]
  rw [h']
  simp [locsOf]
theorem MetW.intro {ws : List Jvm.Cond} {as : List Value} (L : List Slot) (hp : plainFor M.1 = true) (he : locsOf as M.2.2.1 = L) (h : Go Z a0 n0 M R Q 0 L [] H 0 0) : MetW Z a0 n0 M ws R as H Q := by
  intro l h0 S
  refine MetFree.of_bodySF hp hisR ?_
  intro p e s m args below meth c s₁ Bd hml0 hP hK
  obtain ⟨rfl, hZ, hh⟩ := hP
  have X0 : Stand p l e R s m as.toArray below meth c s₁ [] 0 0 := Stand.of_body Bd
  have e0 : s₁.heap = h0 := by rw [← hh, Bd.state]; rfl
  have hown := findClass_of_methodNamed Bd.named
  have hnm := (name_of_methodNamed Bd.named Bd.method).1
  obtain ⟨s₂, o, h1, h2, h3, v, L', h4, h5, h6⟩ := h p l e s m _ below meth c s₁ [] X0 ⟨Bd.exec, hZ, Bd.bytes, hml0, Bd.returns, Bd.notSynchronized, hown, hnm⟩ (by rw [e0]; exact S) (by rw [hh]; exact S.2.2.1) (Fr.nil _)
  have ef : entryFrame m as.toArray M.2.2.1 = mkF m 0 L.toArray [] := by simp only [entryFrame, mkF, args_eq, he]
  exact ⟨s₂, o, castTop ef h1, h2, h3, v, L', h4, h5, h6⟩
abbrev Met (Z : State) (a0 : Array Value) (n0 : Nat) (y : GM) (fr lo k j : Nat) (as : List Value) (H : List GObj) (Q : Option Value → List GObj → Prop) : Prop := MetW Z a0 n0 y [] ({ frames := fr, cells := k, slots := j, locals := lo } : Room) as H Q
theorem Met.mono {y : GM} {fr lo k j : Nat} {as : List Value} {Q Q' : Option Value → List GObj → Prop} (h : Met Z a0 n0 y fr lo k j as H Q) (hq : ∀ v H', Q v H' → Q' v H') : Met Z a0 n0 y fr lo k j as H Q' := by
  intro l h0 S
  exact (h l h0 S).mono (fun _ _ q => q) (fun _ _ _ _ _ q => q) fun _ _ _ _ _ ⟨v, L, h1, ⟨H', h2, h3⟩, h4⟩ => ⟨v, L, h1, ⟨H', hq v H' h2, h3⟩, h4⟩
def pushV : Option Value → List Value → List Value
  | none, r => r
  | some v, r => v :: r
theorem pushV_eq (v : Option Value) (r : List Value) : pushV v r = v.toList ++ r := by cases v <;> rfl
abbrev Eq1 (r : Value) (H1 : List GObj) : Option Value → List GObj → Prop := fun v H' => v = some r ∧ H' = H1
abbrev Eq0 (H1 : List GObj) : Option Value → List GObj → Prop := fun v H' => v = none ∧ H' = H1
theorem retE {r : Value} {H1 : List GObj} {rest : List Value} {k j : Nat} (h1 : H1.length = H.length + k) (h : Go Z a0 n0 M R Q pc' L (r :: rest) H1 (ce + k) (sl + j)) : ∀ v H', Eq1 r H1 v H' → H'.length = H.length + k ∧ Go Z a0 n0 M R Q pc' L (pushV v rest) H' (ce + k) (sl + j) := by
  rintro _ _ ⟨rfl, rfl⟩; exact ⟨h1, h⟩
theorem retV {H1 : List GObj} {rest : List Value} {k j : Nat} (h1 : H1.length = H.length + k) (h : Go Z a0 n0 M R Q pc' L rest H1 (ce + k) (sl + j)) : ∀ v H', Eq0 H1 v H' → H'.length = H.length + k ∧ Go Z a0 n0 M R Q pc' L (pushV v rest) H' (ce + k) (sl + j) := by
  rintro _ _ ⟨rfl, rfl⟩; exact ⟨h1, h⟩
def noHandle (c : String) : Bool := decide (c ≠ "java/lang/invoke/MethodHandle" ∧ c ≠ "java/lang/invoke/VarHandle")
theorem go_static {y : GM} {fr lo k j idx : Nat} {as rest stk : List Value} {ps : List FieldType} {r : Option FieldType} {Q' : Option Value → List GObj → Prop} (hd : Ins M pc (.invokestatic idx) 3 pc') (hm : Met Z a0 n0 y fr lo k j as H Q')
    (w1 : (Jvm.Cond.methodLink M.1.cls idx y.1).before a0 Z = true) (w2 : (Jvm.Cond.static y.1).before a0 Z = true) (w3 : (Jvm.Cond.initialized y.1.cls).before a0 Z = true) (w4 : (Jvm.Cond.code y.1 y.2.1 y.2.2.1 y.2.2.2).before a0 Z = true) (hy : noHandle y.1.cls = true) (hpd : parseMethodDescriptor y.1.desc = some ⟨ps, r⟩) (hlen : as.length = ps.length) (hst : stk = as.reverse ++ rest) (hL : L.length = M.2.2.1)
    (hfr : fr + 1 ≤ R.frames) (hlo : (rest.map fun v => v.category).sum + (y.2.2.1 + 11) + lo ≤ R.locals) (hk : ce + k ≤ R.cells) (hj : sl + j ≤ R.slots)
    (h : ∀ v H', Q' v H' → H'.length = H.length + k ∧ Go Z a0 n0 M R Q pc' L (pushV v rest) H' (ce + k) (sl + j)) : Go Z a0 n0 M R Q pc L stk H ce sl := by
  obtain ⟨hd, rfl⟩ := hd
  subst hst
  intro p l e s m args below meth c T locs X C S E F
  obtain ⟨hx, hZ, hby, hml, hret, hlk, hown, hnm⟩ := id C
  obtain ⟨v, vm1, ⟨T', L', k', n'⟩, -, X', ⟨Lc, hQ', l', y', z'⟩, st'⟩ := Jvm.LawKit.callS X hx (y := y.1) hown (mvT hZ w1) (mvT hZ w2) (mvT hZ w3) (mvT hZ w4) (of_decide_eq_true hy)
    (backOf (W := (rest.map fun v => v.category).sum) (Q := fun v h' L => ∃ H', Q' v H' ∧ Sat Z a0 n0 h' H' ∧ Fr n0 L) (hm l T.heap S) hZ w4 w3 hfr hlo) (g := mkF m pc L.toArray (as.reverse ++ rest)) rfl (by simpa [hml] using hL) (argsL := as) (rest := rest) (lenOf hpd hlen) rfl (by simp) (hb hby hd) (fun _ _ => ⟨rfl, rfl, hk, hj⟩)
  dsimp only [Pt.U, Pt.locs, Pt.cells, Pt.slots] at X' l' y' z' st' hQ'
  subst l' y' z'
  obtain ⟨H', q, S', N⟩ := hQ'
  obtain ⟨hlen', g⟩ := h v H' q
  rw [pushV_eq] at g
  exact (g p l e s m args below meth c T' _ X' C S' (by omega) (Fr.app F N)).back st'
theorem go_special {y : GM} {fr lo k j idx : Nat} {a : Addr} {as rest stk : List Value} {ps : List FieldType} {r : Option FieldType} {Q' : Option Value → List GObj → Prop} (hd : Ins M pc (.invokespecial idx) 3 pc') (hm : Met Z a0 n0 y fr lo k j (.ref a :: as) H Q')
    (w1 : (Jvm.Cond.methodLink M.1.cls idx y.1).before a0 Z = true) (w2 : (Jvm.Cond.instanceMethod y.1).before a0 Z = true) (w3 : (Jvm.Cond.initialized y.1.cls).before a0 Z = true) (w4 : (Jvm.Cond.code y.1 y.2.1 y.2.2.1 none).before a0 Z = true) (hy1 : y.1.name = "<init>") (hr : y.2.2.2 = none) (hy : noHandle y.1.cls = true) (hpd : parseMethodDescriptor y.1.desc = some ⟨ps, r⟩) (hlen : as.length = ps.length) (hst : stk = as.reverse ++ .ref a :: rest) (hL : L.length = M.2.2.1)
    (hfr : fr + 1 ≤ R.frames) (hlo : (rest.map fun v => v.category).sum + (y.2.2.1 + 11) + lo ≤ R.locals) (hk : ce + k ≤ R.cells) (hj : sl + j ≤ R.slots)
    (h : ∀ v H', Q' v H' → H'.length = H.length + k ∧ Go Z a0 n0 M R Q pc' L (pushV v rest) H' (ce + k) (sl + j)) : Go Z a0 n0 M R Q pc L stk H ce sl := by
  obtain ⟨hd, rfl⟩ := hd
  subst hst
  intro p l e s m args below meth c T locs X C S E F
  obtain ⟨hx, hZ, hby, hml, hret, hlk, hown, hnm⟩ := id C
  have w4' : (Jvm.Cond.code y.1 y.2.1 y.2.2.1 y.2.2.2).before a0 Z = true := by rw [hr]; exact w4
  obtain ⟨v, vm1, ⟨T', L', k', n'⟩, -, X', ⟨Lc, hQ', l', y', z'⟩, st'⟩ := X.specialBack hx (y := y.1) hy1 hown (mvT hZ w1) (mvT hZ w2) (mvT hZ w4) (of_decide_eq_true hy)
    (backOf (W := (rest.map fun v => v.category).sum) (Q := fun v h' L => ∃ H', Q' v H' ∧ Sat Z a0 n0 h' H' ∧ Fr n0 L) (hm l T.heap S) hZ w4' w3 hfr hlo) (g := mkF m pc L.toArray (as.reverse ++ .ref a :: rest)) rfl (by simpa [hml] using hL) (Steps.refl _) (a := a) (argsL := as) (rest := rest) (lenOf hpd hlen) rfl (by simp) (hb hby hd) (fun _ _ => ⟨rfl, rfl, hk, hj⟩)
  dsimp only [Pt.U, Pt.locs, Pt.cells, Pt.slots] at X' l' y' z' st' hQ'
  subst l' y' z'
  obtain ⟨H', q, S', N⟩ := hQ'
  obtain ⟨hlen', g⟩ := h v H' q
  rw [pushV_eq] at g
  exact (g p l e s m args below meth c T' _ X' C S' (by omega) (Fr.app F N)).back fun t k => st'.trans k
theorem go_virtual {y : GM} {fr lo k j idx i : Nat} {K : GLay} {vs as rest stk : List Value} {ps : List FieldType} {r : Option FieldType} {Q' : Option Value → List GObj → Prop} (hd : Ins M pc (.invokevirtual idx) 3 pc') (hm : Met Z a0 n0 y fr lo k j (.ref (n0 + i) :: as) H Q') (hH : H[i]? = some (.inl (K, vs)))
    (w1 : (Jvm.Cond.methodLink M.1.cls idx y.1).before a0 Z = true) (w2 : (Jvm.Cond.declares y.1).before a0 Z = true) (w5 : (Jvm.Cond.selects K.1 y.1 y.1).before a0 Z = true) (w6 : (Jvm.Cond.instanceMethod y.1).before a0 Z = true) (w3 : (Jvm.Cond.initialized y.1.cls).before a0 Z = true) (w4 : (Jvm.Cond.code y.1 y.2.1 y.2.2.1 y.2.2.2).before a0 Z = true) (hy : noHandle y.1.cls = true) (hpd : parseMethodDescriptor y.1.desc = some ⟨ps, r⟩) (hlen : as.length = ps.length) (hst : stk = as.reverse ++ .ref (n0 + i) :: rest) (hL : L.length = M.2.2.1)
    (hfr : fr + 1 ≤ R.frames) (hlo : (rest.map fun v => v.category).sum + (y.2.2.1 + 11) + lo ≤ R.locals) (hk : ce + k ≤ R.cells) (hj : sl + j ≤ R.slots)
    (h : ∀ v H', Q' v H' → H'.length = H.length + k ∧ Go Z a0 n0 M R Q pc' L (pushV v rest) H' (ce + k) (sl + j)) : Go Z a0 n0 M R Q pc L stk H ce sl := by
  obtain ⟨hd, rfl⟩ := hd
  subst hst
  intro p l e s m args below meth c T locs X C S E F
  obtain ⟨hx, hZ, hby, hml, hret, hlk, hown, hnm⟩ := id C
  obtain ⟨cq, kq, q1, q2, q3⟩ := isOf (T := T) hZ rfl (S.2.2.2 i _ hH).2.1
  obtain ⟨v, vm1, ⟨T', L', k', n'⟩, -, X', ⟨Lc, hQ', l', y', z'⟩, st'⟩ := X.virtualBack hx (y := y.1) (z := y.1) hown (mvT hZ w1) (mvT hZ w2) (notFace_of_selects (args := #[]) (mvT hZ w5)) (mvT hZ w5) (mvT hZ w6) (of_decide_eq_true hy)
    (backOf (W := (rest.map fun v => v.category).sum) (Q := fun v h' L => ∃ H', Q' v H' ∧ Sat Z a0 n0 h' H' ∧ Fr n0 L) (hm l T.heap S) hZ w4 w3 hfr hlo) q1 q3 (g := mkF m pc L.toArray (as.reverse ++ .ref (n0 + i) :: rest)) rfl (by simpa [hml] using hL) (Steps.refl _) (argsL := as) (rest := rest) (lenOf hpd hlen) rfl (by simp) (hb hby hd) (fun _ _ => ⟨rfl, rfl, hk, hj⟩)
  dsimp only [Pt.U, Pt.locs, Pt.cells, Pt.slots] at X' l' y' z' st' hQ'
  subst l' y' z'
  obtain ⟨H', q, S', N⟩ := hQ'
  obtain ⟨hlen', g⟩ := h v H' q
  rw [pushV_eq] at g
  exact (g p l e s m args below meth c T' _ X' C S' (by omega) (Fr.app F N)).back fun t k => st'.trans k
/-- a private method by invokevirtual: its class is an ordinary one ('instantiable'), so no 'selects' word is wanted -/
theorem go_private {y : GM} {fr lo k j idx i nn : Nat} {o : GObj} {as rest stk : List Value} {ps : List FieldType} {r : Option FieldType} {Q' : Option Value → List GObj → Prop} (hd : Ins M pc (.invokevirtual idx) 3 pc') (hm : Met Z a0 n0 y fr lo k j (.ref (n0 + i) :: as) H Q') (hH : H[i]? = some o)
    (w1 : (Jvm.Cond.methodLink M.1.cls idx y.1).before a0 Z = true) (w5 : (Jvm.Cond.instantiable y.1.cls nn).before a0 Z = true) (w6 : (Jvm.Cond.instanceMethod y.1).before a0 Z = true) (w7 : (Jvm.Cond.privateMethod y.1).before a0 Z = true) (w3 : (Jvm.Cond.initialized y.1.cls).before a0 Z = true) (w4 : (Jvm.Cond.code y.1 y.2.1 y.2.2.1 y.2.2.2).before a0 Z = true) (hy : noHandle y.1.cls = true) (hpd : parseMethodDescriptor y.1.desc = some ⟨ps, r⟩) (hlen : as.length = ps.length) (hst : stk = as.reverse ++ .ref (n0 + i) :: rest) (hL : L.length = M.2.2.1)
    (hfr : fr + 1 ≤ R.frames) (hlo : (rest.map fun v => v.category).sum + (y.2.2.1 + 11) + lo ≤ R.locals) (hk : ce + k ≤ R.cells) (hj : sl + j ≤ R.slots)
    (h : ∀ v H', Q' v H' → H'.length = H.length + k ∧ Go Z a0 n0 M R Q pc' L (pushV v rest) H' (ce + k) (sl + j)) : Go Z a0 n0 M R Q pc L stk H ce sl := by
  obtain ⟨hd, rfl⟩ := hd
  subst hst
  intro p l e s m args below meth c T locs X C S E F
  obtain ⟨hx, hZ, hby, hml, hret, hlk, hown, hnm⟩ := id C
  obtain ⟨cell, hcell, hobj⟩ : ∃ cl : Cell, T.heap[n0 + i]? = some cl ∧ ∀ q, cl.vm ≠ .statics q := by
    have := S.2.2.2 i _ hH
    rcases o with ⟨K, vs⟩ | ⟨ty, vs⟩
    · exact this.2.1.cell
    · obtain ⟨c', A, -, -, EA, -⟩ := this; exact EA.cell
  obtain ⟨mk, methM, hnamed, hmethM, hstM, habM⟩ := Jvm.Cond.instanceMethod_spec (mvT (args := args) hZ w6)
  obtain ⟨methM', cM, hmethM', -, -, -, -, -, -, hsigM⟩ := Jvm.Cond.code_spec hnamed (mvT (args := args) hZ w4)
  cases hmethM.symm.trans hmethM'
  obtain ⟨c5, k5, i1, i2, i3, i4, -⟩ := Jvm.Cond.instantiable_spec (mvT (args := args) hZ w5)
  have hcl := findClass_of_methodNamed hnamed
  cases i1.symm.trans hcl
  have hni : k5.isInterface = false := by simp only [Bool.or_eq_false_iff] at i4; exact i4.1
  have hselP : selectMethod e.platform s.vm cell.cls mk = .method mk := selectMethod_private hmethM (Jvm.Cond.privateMethod_at (mvP hZ w7 (args := #[])) mk methM hnamed hmethM)
  have hK := backOf (p := p) (e := e) (below := below) (args := args) (len := 3) (W := (rest.map fun v => v.category).sum) (Q := fun v h' L => ∃ H', Q' v H' ∧ Sat Z a0 n0 h' H' ∧ Fr n0 L) (hm l T.heap S) hZ w4 w3 hfr hlo
  obtain ⟨vm₁, X₁, hstep₁⟩ := X.invokevirtual hx hown (mvT hZ w1) hnamed hmethM hstM i2 hni (of_decide_eq_true hy) (a := n0 + i) (cell := cell) hcell hobj hselP hmethM habM i2 hni (g := mkF m pc L.toArray (as.reverse ++ .ref (n0 + i) :: rest)) rfl (argsL := as) (rest := rest) (lenOf hpd hlen _ hsigM) rfl (hb hby hd)
  obtain ⟨v, ⟨T', L', k', n'⟩, X', ⟨Lc, hQ', l', y', z'⟩, st'⟩ := hK m meth c ⟨T.setVm vm₁, locs, ce, sl⟩ (mkF m pc L.toArray rest) (.invokevirtual idx) mk (.ref (n0 + i) :: as).toArray X₁ rfl (by simpa [hml] using hL) (hb hby hd) (by simp) (X₁.named hnamed) ⟨rfl, rfl, hk, hj⟩
  dsimp only [Pt.U, Pt.locs, Pt.cells, Pt.slots] at X' l' y' z' st' hQ'
  subst l' y' z'
  obtain ⟨H', q, S', N⟩ := hQ'
  obtain ⟨hlen', g⟩ := h v H' q
  rw [pushV_eq] at g
  refine (g p l e s m args below meth c T' _ X' C S' (by omega) (Fr.app F N)).back fun t k => ?_
  exact hstep₁ _ fun acts => by rw [doInvoke_state]; exact st'.trans k
end Calls
section Floats
variable {Z : State} {a0 : Array Value} {n0 : Nat} {M : GM} {R : Room} {Q : Option Value → List GObj → Prop} {pc pc' : Nat} {L : List Slot} {st : List Value} {H : List GObj} {ce sl : Nat}
theorem go_i2d {x : Int32} (hd : Ins M pc .i2d 1 pc') (h : Go Z a0 n0 M R Q pc' L (.double (FP.i2d x) :: st) H ce sl) : Go Z a0 n0 M R Q pc L (.int x :: st) H ce sl := by
  obtain ⟨hd, rfl⟩ := hd
  refine go_pure (fun p e m below c T t hA hx hy k => ?_) h
  have hd' := hb hy hd
  jvm_step hA [hA.top, hx, hd', i2d.wp_sem]
  exact k
theorem go_ddiv {x y : UInt64} (hd : Ins M pc .ddiv 1 pc') (hr : FP.ddiv x y &&& 0x7fffffffffffffff ≤ 0x7ff0000000000000) (h : Go Z a0 n0 M R Q pc' L (.double (FP.ddiv x y) :: st) H ce sl) : Go Z a0 n0 M R Q pc L (.double y :: .double x :: st) H ce sl := by
  obtain ⟨hd, rfl⟩ := hd
  refine go_pure (fun p e m below c T t hA hx hy k => ?_) h
  have hd' := hb hy hd
  have hr' : FP.Core.ddiv x y &&& 0x7fffffffffffffff ≤ 0x7ff0000000000000 := hr
  jvm_step hA [hA.top, hx, hd', ddiv.sem, anyNaN64, hr']
  exact k
theorem cmp_g (o : Option Ordering) : cmpValue o .g = FP.cmpInt 1 o := by
  rcases o with _ | o
  · rfl
  · cases o <;> rfl
theorem go_dcmpg {x y : UInt64} (hd : Ins M pc (.dcmp .g) 1 pc') (h : Go Z a0 n0 M R Q pc' L (.int (FP.cmpInt 1 (FP.dcmp x y)) :: st) H ce sl) : Go Z a0 n0 M R Q pc L (.double y :: .double x :: st) H ce sl := by
  obtain ⟨hd, rfl⟩ := hd
  rw [← cmp_g] at h
  refine go_pure (fun p e m below c T t hA hx hy k => ?_) h
  have hd' := hb hy hd
  jvm_step hA [hA.top, hx, hd', dcmp.wp_sem]
  exact k
end Floats
def M0 : GM := (x, code, maxLocals, ret)
theorem i0_0 : Ins M0 0 (.iload_n 3) 1 1 := ⟨at_0, rfl⟩
theorem i0_1 : Ins M0 1 (.sipush 1023) 3 4 := ⟨at_1, rfl⟩
theorem i0_4 : Ins M0 4 (.iand) 1 5 := ⟨at_4, rfl⟩
theorem i0_5 : Ins M0 5 (.iconst 1) 1 6 := ⟨at_5, rfl⟩
theorem i0_6 : Ins M0 6 (.iadd) 1 7 := ⟨at_6, rfl⟩
theorem i0_7 : Ins M0 7 (.istore 5) 2 9 := ⟨at_7, rfl⟩
theorem i0_9 : Ins M0 9 (.iload_n 2) 1 10 := ⟨at_9, rfl⟩
theorem i0_10 : Ins M0 10 (.ldc 7) 2 12 := ⟨at_10, rfl⟩
theorem i0_12 : Ins M0 12 (.iand) 1 13 := ⟨at_12, rfl⟩
theorem i0_13 : Ins M0 13 (.iload 5) 2 15 := ⟨at_13, rfl⟩
theorem i0_15 : Ins M0 15 (.iconst 1) 1 16 := ⟨at_15, rfl⟩
theorem i0_16 : Ins M0 16 (.iadd) 1 17 := ⟨at_16, rfl⟩
theorem i0_17 : Ins M0 17 (.irem) 1 18 := ⟨at_17, rfl⟩
theorem i0_18 : Ins M0 18 (.istore 6) 2 20 := ⟨at_18, rfl⟩
theorem i0_20 : Ins M0 20 (.iload 4) 2 22 := ⟨at_20, rfl⟩
theorem i0_22 : Ins M0 22 (.iconst 1) 1 23 := ⟨at_22, rfl⟩
theorem i0_23 : Ins M0 23 (.iand) 1 24 := ⟨at_23, rfl⟩
theorem i0_24 : Ins M0 24 (.ifCond .eq 45) 3 27 := ⟨at_24, rfl⟩
theorem i0_27 : Ins M0 27 (.iload 4) 2 29 := ⟨at_27, rfl⟩
theorem i0_29 : Ins M0 29 (.iconst 1) 1 30 := ⟨at_29, rfl⟩
theorem i0_30 : Ins M0 30 (.iushr) 1 31 := ⟨at_30, rfl⟩
theorem i0_31 : Ins M0 31 (.ldc 8) 2 33 := ⟨at_31, rfl⟩
theorem i0_33 : Ins M0 33 (.iand) 1 34 := ⟨at_33, rfl⟩
theorem i0_34 : Ins M0 34 (.iconst 1) 1 35 := ⟨at_34, rfl⟩
theorem i0_35 : Ins M0 35 (.iadd) 1 36 := ⟨at_35, rfl⟩
theorem i0_36 : Ins M0 36 (.istore 9) 2 38 := ⟨at_36, rfl⟩
theorem i0_38 : Ins M0 38 (.iload 5) 2 40 := ⟨at_38, rfl⟩
theorem i0_40 : Ins M0 40 (.iload 9) 2 42 := ⟨at_40, rfl⟩
theorem i0_42 : Ins M0 42 (.imul) 1 43 := ⟨at_42, rfl⟩
theorem i0_43 : Ins M0 43 (.istore 8) 2 45 := ⟨at_43, rfl⟩
theorem i0_45 : Ins M0 45 (.iconst 0) 1 46 := ⟨at_45, rfl⟩
theorem i0_46 : Ins M0 46 (.iload 6) 2 48 := ⟨at_46, rfl⟩
theorem i0_48 : Ins M0 48 (.iload 9) 2 50 := ⟨at_48, rfl⟩
theorem i0_50 : Ins M0 50 (.imul) 1 51 := ⟨at_50, rfl⟩
theorem i0_51 : Ins M0 51 (.iload 4) 2 53 := ⟨at_51, rfl⟩
theorem i0_53 : Ins M0 53 (.bipush 21) 2 55 := ⟨at_53, rfl⟩
theorem i0_55 : Ins M0 55 (.iushr) 1 56 := ⟨at_55, rfl⟩
theorem i0_56 : Ins M0 56 (.iconst 3) 1 57 := ⟨at_56, rfl⟩
theorem i0_57 : Ins M0 57 (.iand) 1 58 := ⟨at_57, rfl⟩
theorem i0_58 : Ins M0 58 (.iadd) 1 59 := ⟨at_58, rfl⟩
theorem i0_59 : Ins M0 59 (.iconst 1) 1 60 := ⟨at_59, rfl⟩
theorem i0_60 : Ins M0 60 (.isub) 1 61 := ⟨at_60, rfl⟩
theorem i0_61 : Ins M0 61 (.invokestatic 9) 3 64 := ⟨at_61, rfl⟩
theorem i0_64 : Ins M0 64 (.istore 7) 2 66 := ⟨at_64, rfl⟩
theorem i0_66 : Ins M0 66 (.goto 19) 3 69 := ⟨at_66, rfl⟩
theorem i0_69 : Ins M0 69 (.iload_n 0) 1 70 := ⟨at_69, rfl⟩
theorem i0_70 : Ins M0 70 (.ldc 7) 2 72 := ⟨at_70, rfl⟩
theorem i0_72 : Ins M0 72 (.iand) 1 73 := ⟨at_72, rfl⟩
theorem i0_73 : Ins M0 73 (.istore 7) 2 75 := ⟨at_73, rfl⟩
theorem i0_75 : Ins M0 75 (.iconst 1) 1 76 := ⟨at_75, rfl⟩
theorem i0_76 : Ins M0 76 (.iload_n 1) 1 77 := ⟨at_76, rfl⟩
theorem i0_77 : Ins M0 77 (.ldc 7) 2 79 := ⟨at_77, rfl⟩
theorem i0_79 : Ins M0 79 (.iand) 1 80 := ⟨at_79, rfl⟩
theorem i0_80 : Ins M0 80 (.invokestatic 9) 3 83 := ⟨at_80, rfl⟩
theorem i0_83 : Ins M0 83 (.istore 8) 2 85 := ⟨at_83, rfl⟩
theorem i0_85 : Ins M0 85 (.new 15) 3 88 := ⟨at_85, rfl⟩
theorem i0_88 : Ins M0 88 (.dup) 1 89 := ⟨at_88, rfl⟩
theorem i0_89 : Ins M0 89 (.iconst 0) 1 90 := ⟨at_89, rfl⟩
theorem i0_90 : Ins M0 90 (.newarray .int) 2 92 := ⟨at_90, rfl⟩
theorem i0_92 : Ins M0 92 (.iconst 0) 1 93 := ⟨at_92, rfl⟩
theorem i0_93 : Ins M0 93 (.iload 6) 2 95 := ⟨at_93, rfl⟩
theorem i0_95 : Ins M0 95 (.i2d) 1 96 := ⟨at_95, rfl⟩
theorem i0_96 : Ins M0 96 (.iload 5) 2 98 := ⟨at_96, rfl⟩
theorem i0_98 : Ins M0 98 (.i2d) 1 99 := ⟨at_98, rfl⟩
theorem i0_99 : Ins M0 99 (.ddiv) 1 100 := ⟨at_99, rfl⟩
theorem i0_100 : Ins M0 100 (.invokespecial 17) 3 103 := ⟨at_100, rfl⟩
theorem i0_103 : Ins M0 103 (.astore 9) 2 105 := ⟨at_103, rfl⟩
theorem i0_105 : Ins M0 105 (.iload 7) 2 107 := ⟨at_105, rfl⟩
theorem i0_107 : Ins M0 107 (.i2l) 1 108 := ⟨at_107, rfl⟩
theorem i0_108 : Ins M0 108 (.iload 5) 2 110 := ⟨at_108, rfl⟩
theorem i0_110 : Ins M0 110 (.i2l) 1 111 := ⟨at_110, rfl⟩
theorem i0_111 : Ins M0 111 (.lmul) 1 112 := ⟨at_111, rfl⟩
theorem i0_112 : Ins M0 112 (.iload 6) 2 114 := ⟨at_112, rfl⟩
theorem i0_114 : Ins M0 114 (.i2l) 1 115 := ⟨at_114, rfl⟩
theorem i0_115 : Ins M0 115 (.iload 8) 2 117 := ⟨at_115, rfl⟩
theorem i0_117 : Ins M0 117 (.i2l) 1 118 := ⟨at_117, rfl⟩
theorem i0_118 : Ins M0 118 (.lmul) 1 119 := ⟨at_118, rfl⟩
theorem i0_119 : Ins M0 119 (.lcmp) 1 120 := ⟨at_119, rfl⟩
theorem i0_120 : Ins M0 120 (.ifCond .gt 7) 3 123 := ⟨at_120, rfl⟩
theorem i0_123 : Ins M0 123 (.iconst 1) 1 124 := ⟨at_123, rfl⟩
theorem i0_124 : Ins M0 124 (.goto 4) 3 127 := ⟨at_124, rfl⟩
theorem i0_127 : Ins M0 127 (.iconst 0) 1 128 := ⟨at_127, rfl⟩
theorem i0_128 : Ins M0 128 (.istore 10) 2 130 := ⟨at_128, rfl⟩
theorem i0_130 : Ins M0 130 (.aload 9) 2 132 := ⟨at_130, rfl⟩
theorem i0_132 : Ins M0 132 (.iload 7) 2 134 := ⟨at_132, rfl⟩
theorem i0_134 : Ins M0 134 (.iload 8) 2 136 := ⟨at_134, rfl⟩
theorem i0_136 : Ins M0 136 (.invokevirtual 20) 3 139 := ⟨at_136, rfl⟩
theorem i0_139 : Ins M0 139 (.iload 10) 2 141 := ⟨at_139, rfl⟩
theorem i0_141 : Ins M0 141 (.if_icmp .ne 7) 3 144 := ⟨at_141, rfl⟩
theorem i0_144 : Ins M0 144 (.iconst 1) 1 145 := ⟨at_144, rfl⟩
theorem i0_145 : Ins M0 145 (.goto 4) 3 148 := ⟨at_145, rfl⟩
theorem i0_148 : Ins M0 148 (.iconst 0) 1 149 := ⟨at_148, rfl⟩
theorem i0_149 : Ins M0 149 (.ireturn) 1 150 := ⟨at_149, rfl⟩
theorem pn0 : plainFor M0.1 = true := plainFor_of_name (by first | (simp [plainName, overriddenIn, M0, x]; done) | decide +kernel)
theorem pd0 : parseMethodDescriptor M0.1.desc = some ⟨[.int, .int, .int, .int, .int], some (.boolean)⟩ := by decide +kernel
def M1 : GM := (⟨"java/lang/Math", "max", "(II)I"⟩, jdk_29_method_65_code, 2, some (.int))
theorem i1_0 : Ins M1 0 (.iload_n 0) 1 1 := ⟨by decide +kernel, rfl⟩
theorem i1_1 : Ins M1 1 (.iload_n 1) 1 2 := ⟨by decide +kernel, rfl⟩
theorem i1_2 : Ins M1 2 (.if_icmp .lt 7) 3 5 := ⟨by decide +kernel, rfl⟩
theorem i1_5 : Ins M1 5 (.iload_n 0) 1 6 := ⟨by decide +kernel, rfl⟩
theorem i1_6 : Ins M1 6 (.goto 4) 3 9 := ⟨by decide +kernel, rfl⟩
theorem i1_9 : Ins M1 9 (.iload_n 1) 1 10 := ⟨by decide +kernel, rfl⟩
theorem i1_10 : Ins M1 10 (.ireturn) 1 11 := ⟨by decide +kernel, rfl⟩
theorem pn1 : plainFor M1.1 = true := Jvm.Free.JP.mathPlain rfl (by decide +kernel)
theorem pd1 : parseMethodDescriptor M1.1.desc = some ⟨[.int, .int], some (.int)⟩ := by decide +kernel
def M2 : GM := (⟨"com/example/menhaden/menhaden/ShareLimit", "<init>", "([IID)V"⟩, prog_3_method_1_code, 5, none)
theorem i2_0 : Ins M2 0 (.aload_n 0) 1 1 := ⟨by decide +kernel, rfl⟩
theorem i2_1 : Ins M2 1 (.invokespecial 1) 3 4 := ⟨by decide +kernel, rfl⟩
theorem i2_4 : Ins M2 4 (.aload_n 0) 1 5 := ⟨by decide +kernel, rfl⟩
theorem i2_5 : Ins M2 5 (.aload_n 1) 1 6 := ⟨by decide +kernel, rfl⟩
theorem i2_6 : Ins M2 6 (.invokevirtual 7) 3 9 := ⟨by decide +kernel, rfl⟩
theorem i2_9 : Ins M2 9 (.checkcast 8) 3 12 := ⟨by decide +kernel, rfl⟩
theorem i2_12 : Ins M2 12 (.putfield 13) 3 15 := ⟨by decide +kernel, rfl⟩
theorem i2_15 : Ins M2 15 (.aload_n 0) 1 16 := ⟨by decide +kernel, rfl⟩
theorem i2_16 : Ins M2 16 (.iload_n 2) 1 17 := ⟨by decide +kernel, rfl⟩
theorem i2_17 : Ins M2 17 (.putfield 18) 3 20 := ⟨by decide +kernel, rfl⟩
theorem i2_20 : Ins M2 20 (.aload_n 0) 1 21 := ⟨by decide +kernel, rfl⟩
theorem i2_21 : Ins M2 21 (.dload_n 3) 1 22 := ⟨by decide +kernel, rfl⟩
theorem i2_22 : Ins M2 22 (.putfield 22) 3 25 := ⟨by decide +kernel, rfl⟩
theorem i2_25 : Ins M2 25 (.return_) 1 26 := ⟨by decide +kernel, rfl⟩
theorem pn2 : plainFor M2.1 = true := plainFor_of_name (by first | (simp [plainName, overriddenIn, M2, x]; done) | decide +kernel)
theorem pd2 : parseMethodDescriptor M2.1.desc = some ⟨[(.array .int), .int, .double], none⟩ := by decide +kernel
def M4 : GM := (⟨"com/example/menhaden/menhaden/ShareLimit", "allows", "(II)Z"⟩, prog_3_method_8_code, 3, some (.boolean))
theorem i4_0 : Ins M4 0 (.iload_n 1) 1 1 := ⟨by decide +kernel, rfl⟩
theorem i4_1 : Ins M4 1 (.i2d) 1 2 := ⟨by decide +kernel, rfl⟩
theorem i4_2 : Ins M4 2 (.iload_n 2) 1 3 := ⟨by decide +kernel, rfl⟩
theorem i4_3 : Ins M4 3 (.i2d) 1 4 := ⟨by decide +kernel, rfl⟩
theorem i4_4 : Ins M4 4 (.ddiv) 1 5 := ⟨by decide +kernel, rfl⟩
theorem i4_5 : Ins M4 5 (.aload_n 0) 1 6 := ⟨by decide +kernel, rfl⟩
theorem i4_6 : Ins M4 6 (.getfield 22) 3 9 := ⟨by decide +kernel, rfl⟩
theorem i4_9 : Ins M4 9 (.dcmp .g) 1 10 := ⟨by decide +kernel, rfl⟩
theorem i4_10 : Ins M4 10 (.ifCond .gt 7) 3 13 := ⟨by decide +kernel, rfl⟩
theorem i4_13 : Ins M4 13 (.iconst 1) 1 14 := ⟨by decide +kernel, rfl⟩
theorem i4_14 : Ins M4 14 (.goto 4) 3 17 := ⟨by decide +kernel, rfl⟩
theorem i4_17 : Ins M4 17 (.iconst 0) 1 18 := ⟨by decide +kernel, rfl⟩
theorem i4_18 : Ins M4 18 (.ireturn) 1 19 := ⟨by decide +kernel, rfl⟩
theorem pn4 : plainFor M4.1 = true := plainFor_of_name (by first | (simp [plainName, overriddenIn, M4, x]; done) | decide +kernel)
theorem pd4 : parseMethodDescriptor M4.1.desc = some ⟨[.int, .int], some (.boolean)⟩ := by decide +kernel
def KS : GLay := ("com/example/menhaden/menhaden/ShareLimit", [("com/example/menhaden/menhaden/ShareLimit", "codes", "[I", (.array .int)), ("com/example/menhaden/menhaden/ShareLimit", "values", "I", .int), ("com/example/menhaden/menhaden/ShareLimit", "alpha", "D", .double)])
theorem KS_ok {Z : State} {a0 : Array Value} (hw : ∀ d ∈ tables_1, d.before a0 Z = true) : LayOk Z a0 KS := by
  refine ⟨⟨3, (hw _ (List.mem_of_getElem? (i := 6) rfl))⟩, fun q hq => ?_, by decide +kernel⟩
  simp only [KS, List.mem_cons, List.not_mem_nil, or_false] at hq
  rcases hq with rfl | rfl | rfl
  · exact ⟨Or.inr (hw _ (List.mem_of_getElem? (i := 25) rfl)), by decide⟩
  · exact ⟨Or.inr (hw _ (List.mem_of_getElem? (i := 27) rfl)), by decide⟩
  · exact ⟨Or.inr (hw _ (List.mem_of_getElem? (i := 29) rfl)), by decide⟩
theorem own_i2d (a : Int32) : ∃ c q, FP.Core.val64 (FP.Core.i2d a) = .fin (decide (a.toInt < 0)) c q ∧ c * 2 ^ q.toNat = a.toInt.natAbs * 2 ^ (-q).toNat := by
  have h1 := a.toInt_lt
  have h2 := a.le_toInt
  obtain ⟨c, q, hf, hv⟩ := FP.Core.natFit FP.Core.good_b64 FP.Core.wide_b64 (decide (a.toInt < 0)) (n := a.toInt.natAbs) (show _ ≤ 2 ^ 53 by omega)
  refine ⟨c, q, ?_, ?_⟩
  · rw [FP.Core.val64_i2d]
    show FP.Core.roundRatio FP.Core.b64 _ _ 1 0 = _
    exact FP.Core.roundRatio_exact FP.Core.good_b64 (by decide) hf hv
  · rw [show (0 - q).toNat = (-q).toNat by omega, show (q - 0).toNat = q.toNat by omega, Nat.mul_one] at hv
    exact hv.symm
theorem own_cross {c d a b qp qn rp rn u v : Nat} (h1 : c * 2 ^ qp = a * 2 ^ qn) (h2 : d * 2 ^ rp = b * 2 ^ rn) (he : qn + rp + u = v + qp + rn) : c * b * 2 ^ u = a * d * 2 ^ v := by
  refine Nat.eq_of_mul_eq_mul_right (Nat.two_pow_pos (qp + rn)) ?_
  calc c * b * 2 ^ u * 2 ^ (qp + rn) = (c * 2 ^ qp) * (b * 2 ^ rn) * 2 ^ u := by rw [Nat.pow_add]; ac_rfl
    _ = (a * 2 ^ qn) * (d * 2 ^ rp) * 2 ^ u := by rw [h1, h2]
    _ = a * d * 2 ^ (qn + rp + u) := by simp only [Nat.pow_add]; ac_rfl
    _ = a * d * 2 ^ v * 2 ^ (qp + rn) := by rw [he]; simp only [Nat.pow_add]; ac_rfl
theorem own_quo (a b : Int32) (hb : 0 < b.toInt) : FP.Core.val64 (FP.Core.ddiv (FP.Core.i2d a) (FP.Core.i2d b)) = FP.Core.roundRatio FP.Core.b64 (decide (a.toInt < 0)) a.toInt.natAbs b.toInt.natAbs 0 := by
  obtain ⟨c, q, e1, h1⟩ := own_i2d a
  obtain ⟨d, r, e2, h2⟩ := own_i2d b
  have hs : decide (b.toInt < 0) = false := by simp; omega
  have hd : d ≠ 0 := by
    rintro rfl
    rw [Nat.zero_mul] at h2
    have := Nat.mul_eq_zero.mp h2.symm
    have := Nat.two_pow_pos (-r).toNat
    omega
  rw [FP.Core.val64_ddiv, e1, e2]
  simp only [FP.Core.quotient, if_neg hd, hs, Bool.bne_false]
  refine FP.Core.roundRatio_congr (by omega) (by omega) ?_
  exact own_cross h1 h2 (by omega)
theorem own_notinf (s : Bool) (A B : Nat) (hB : 0 < B) (hA : A < 2 ^ 32) : ∃ c q, FP.Core.roundRatio FP.Core.b64 s A B 0 = .fin s c q := by
  have hi := FP.Core.roundRatio_inf FP.Core.good_b64 (s := s) (A := A) (B := B) (e := 0) (e0 := -1075) hB (by decide +kernel) (by decide)
  have e1 : (FP.Core.b64.qmax - 1 - (-1075)).toNat = 2045 := by decide +kernel
  have e3 : ((0 : Int) - (-1075)).toNat = 1075 := by decide
  have e2 : FP.Core.inUnits A 0 (-1075) = A * 2 ^ ((0 : Int) - (-1075)).toNat := rfl
  rw [e1, e2, e3] at hi
  have big : 2 ^ 32 * 2 ^ 1075 ≤ (2 ^ (FP.Core.b64.p + 1) - 1) * 2 ^ 2045 := by decide +kernel
  have no : FP.Core.roundRatio FP.Core.b64 s A B 0 ≠ .inf s := by
    intro q
    have q := hi.mp q
    have h1 : A * 2 ^ 1075 < 2 ^ 32 * 2 ^ 1075 := Nat.mul_lt_mul_of_pos_right hA (Nat.two_pow_pos _)
    have h2 : (2 ^ (FP.Core.b64.p + 1) - 1) * 2 ^ 2045 ≤ (2 ^ (FP.Core.b64.p + 1) - 1) * 2 ^ 2045 * B := Nat.le_mul_of_pos_right _ hB
    exact absurd (Nat.lt_of_lt_of_le h1 (Nat.le_trans big (Nat.le_trans h2 q))) (Nat.lt_irrefl _)
  unfold FP.Core.roundRatio at no ⊢
  split
  · exact ⟨_, _, rfl⟩
  · rename_i hA0
    rw [if_neg hA0] at no
    unfold FP.Core.roundAt FP.Core.settle FP.Core.bound at no ⊢
    split
    · rename_i g
      rw [if_pos g] at no
      split
      · exact ⟨_, _, rfl⟩
      · rename_i g2; rw [if_neg g2] at no; exact absurd rfl no
    · rename_i g
      rw [if_neg g] at no
      split
      · exact ⟨_, _, rfl⟩
      · rename_i g2; rw [if_neg g2] at no; exact absurd rfl no
def own_V (c : Nat) (q : Int) : Nat := FP.Core.inUnits c q (-1074)
theorem own_V_mul (k : Nat) (q : Int) : own_V k q = k * own_V 1 q := by unfold own_V FP.Core.inUnits; rw [Nat.one_mul]
theorem own_V_pos (q : Int) : 0 < own_V 1 q := by unfold own_V FP.Core.inUnits; rw [Nat.one_mul]; exact Nat.two_pow_pos _
theorem own_UW : own_V 1 0 = 2 ^ 52 * own_V 1 (-52) := by
  unfold own_V FP.Core.inUnits
  rw [Nat.one_mul, Nat.one_mul, show ((0 : Int) - (-1074)).toNat = 52 + 1022 by decide, show ((-52 : Int) - (-1074)).toNat = 1022 by decide, Nat.pow_add]
theorem own_near {s t : Bool} {A B c c' : Nat} {q q' : Int} (hB : 0 < B) (h : FP.Core.roundRatio FP.Core.b64 s A B 0 = .fin t c q) (hc : c' < 2 ^ 53) (hq : -1074 ≤ q') :
    (((A * own_V 1 0 : Nat) : Int) - ((own_V c q * B : Nat) : Int)).natAbs ≤ (((A * own_V 1 0 : Nat) : Int) - ((own_V c' q' * B : Nat) : Int)).natAbs := by
  have := FP.Core.roundRatio_nearest FP.Core.good_b64 (e0 := -1074) hB h (c' := c') (q' := q') hc hq (by decide +kernel) (by decide)
  unfold FP.Core.distance at this
  rw [← own_V_mul]
  rw [Int.natCast_mul, Int.natCast_mul]
  exact this
theorem own_fit {s t : Bool} {A B c : Nat} {q : Int} (hB : 0 < B) (h : FP.Core.roundRatio FP.Core.b64 s A B 0 = .fin t c q) : c < 2 ^ 53 ∧ -1074 ≤ q := by
  have := FP.Core.roundRatio_fits FP.Core.good_b64 s A hB 0
  rw [h] at this
  exact ⟨this.1, this.2.1⟩
theorem own_mono {s1 t1 s2 t2 : Bool} {a b c d c1 c2 : Nat} {q1 q2 : Int} (hb : 0 < b) (hd : 0 < d) (h1 : FP.Core.roundRatio FP.Core.b64 s1 a b 0 = .fin t1 c1 q1) (h2 : FP.Core.roundRatio FP.Core.b64 s2 c d 0 = .fin t2 c2 q2) (h : a * d < c * b) : own_V c1 q1 ≤ own_V c2 q2 := by
  rcases Nat.lt_or_ge (own_V c2 q2) (own_V c1 q1) with lt | ge
  · exfalso
    have f1 := own_fit hb h1
    have f2 := own_fit hd h2
    have n1 := own_near hb h1 f2.1 f2.2
    have n2 := own_near hd h2 f1.1 f1.2
    have U := own_V_pos 0
    generalize own_V c1 q1 = V1 at *
    generalize own_V c2 q2 = V2 at *
    generalize own_V 1 0 = u at *
    have l1 : V2 * b < V1 * b := Nat.mul_lt_mul_of_pos_right lt hb
    have l2 : V2 * d < V1 * d := Nat.mul_lt_mul_of_pos_right lt hd
    have k1 : V1 * b + V2 * b ≤ 2 * (a * u) := by omega
    have k2 : 2 * (c * u) ≤ V1 * d + V2 * d := by omega
    rw [← Nat.add_mul] at k1 k2
    have m1 := Nat.mul_le_mul_right d k1
    have m2 := Nat.mul_le_mul_right b k2
    have e1 : (V1 + V2) * b * d = (V1 + V2) * d * b := by ac_rfl
    have m3 : 2 * (c * u) * b ≤ 2 * (a * u) * d := by
      rw [e1] at m1; exact Nat.le_trans m2 m1
    have e2 : 2 * (c * u) * b = (2 * u) * (c * b) := by ac_rfl
    have e3 : 2 * (a * u) * d = (2 * u) * (a * d) := by ac_rfl
    rw [e2, e3] at m3
    have := Nat.le_of_mul_le_mul_left m3 (by omega)
    omega
  · exact ge
theorem own_floor {A B W : Nat} (hB : 0 < B) : (((A * (2 ^ 52 * W) : Nat) : Int) - ((A * 2 ^ 52 / B * W * B : Nat) : Int)).natAbs ≤ W * B := by
  have e1 := Nat.div_add_mod (A * 2 ^ 52) B
  have e2 := Nat.mod_lt (A * 2 ^ 52) hB
  have e3 : A * (2 ^ 52 * W) = (A * 2 ^ 52) * W := by ac_rfl
  have e4 : A * 2 ^ 52 / B * W * B = (B * (A * 2 ^ 52 / B)) * W := by ac_rfl
  rw [e3, e4]
  generalize A * 2 ^ 52 = X at *
  generalize B * (X / B) = Y at *
  have l1 : Y * W ≤ X * W := Nat.mul_le_mul_right _ (by omega)
  have l2 : X * W ≤ (Y + B) * W := Nat.mul_le_mul_right _ (by omega)
  rw [Nat.add_mul] at l2
  have e5 : B * W = W * B := Nat.mul_comm _ _
  omega
theorem own_strict {s1 t1 s2 t2 : Bool} {a b c d c1 c2 : Nat} {q1 q2 : Int} (hb : 0 < b) (hd : 0 < d) (h1 : FP.Core.roundRatio FP.Core.b64 s1 a b 0 = .fin t1 c1 q1) (h2 : FP.Core.roundRatio FP.Core.b64 s2 c d 0 = .fin t2 c2 q2) (h : c * b < a * d) (hcd : c ≤ d) (hd' : d ≤ 2 ^ 10) (hb' : b ≤ 2 ^ 31) : own_V c2 q2 < own_V c1 q1 := by
  refine Nat.lt_of_le_of_ne (own_mono hd hb h2 h1 h) fun eq => ?_
  have u0 := own_UW
  have w0 := own_V_pos (-52)
  have dc : c * 2 ^ 52 / d < 2 ^ 53 := by
    rw [Nat.div_lt_iff_lt_mul hd]
    have := Nat.mul_le_mul_right (2 ^ 52) hcd
    omega
  have ny := own_near hd h2 dc (q' := -52) (by decide)
  rw [own_V_mul (c * 2 ^ 52 / d) (-52), u0] at ny
  have ny := Nat.le_trans ny (own_floor hd)
  rw [← u0] at ny
  by_cases ha : a < 2 * b
  · have da : a * 2 ^ 52 / b < 2 ^ 53 := by
      rw [Nat.div_lt_iff_lt_mul hb]
      omega
    have nx := own_near hb h1 da (q' := -52) (by decide)
    rw [own_V_mul (a * 2 ^ 52 / b) (-52), u0] at nx
    have nx := Nat.le_trans nx (own_floor hb)
    rw [← u0, ← eq] at nx
    generalize own_V c2 q2 = V at *
    generalize own_V 1 (-52) = w at *
    generalize own_V 1 0 = u at *
    have x1 : a * u ≤ V * b + w * b := by omega
    have y1 : V * d ≤ c * u + w * d := by omega
    have x2 := Nat.mul_le_mul_right d x1
    have y2 := Nat.mul_le_mul_right b y1
    have z1 : (c * b + 1) * u ≤ a * d * u := Nat.mul_le_mul_right u h
    rw [Nat.add_mul, Nat.one_mul] at z1
    rw [Nat.add_mul] at x2 y2
    have e1 : a * u * d = a * d * u := by ac_rfl
    have e2 : V * b * d = V * d * b := by ac_rfl
    have e3 : c * u * b = c * b * u := by ac_rfl
    have e4 : w * d * b = w * b * d := by ac_rfl
    rw [e1, e2] at x2
    rw [e3, e4] at y2
    have z2 : u ≤ 2 * (w * b * d) := by omega
    have z3 : b * d ≤ 2 ^ 31 * 2 ^ 10 := Nat.mul_le_mul hb' hd'
    have e5 : w * b * d = w * (b * d) := Nat.mul_assoc _ _ _
    have z4 := Nat.mul_le_mul_left w z3
    rw [e5] at z2
    rw [u0] at z2
    omega
  · have nx := own_near hb h1 (c' := 2) (q' := 0) (by decide) (by decide)
    rw [own_V_mul 2 0, ← eq] at nx
    generalize own_V c2 q2 = V at *
    generalize own_V 1 (-52) = w at *
    generalize own_V 1 0 = u at *
    have g1 : 2 * u * b ≤ a * u := by
      have := Nat.mul_le_mul_right u (Nat.le_of_not_lt ha)
      have e : 2 * u * b = 2 * b * u := by ac_rfl
      omega
    have g2 : 2 * u * b ≤ V * b := by omega
    have g3 := Nat.le_of_mul_le_mul_right g2 hb
    have y1 : V * d ≤ c * u + w * d := by omega
    have g4 : c * u ≤ d * u := Nat.mul_le_mul_right u hcd
    have g5 : V * d ≤ (u + w) * d := by
      rw [Nat.add_mul, Nat.mul_comm u d]; omega
    have g6 := Nat.le_of_mul_le_mul_right g5 hd
    omega
theorem own_order {c1 c2 : Nat} {q1 q2 : Int} (h1 : -1074 ≤ q1) (h2 : -1074 ≤ q2) : FP.Core.order (.fin false c1 q1) (.fin false c2 q2) = some (compare (own_V c1 q1 : Int) (own_V c2 q2 : Int)) := by
  simp only [FP.Core.order, FP.Core.signed]
  unfold own_V
  rw [FP.Core.inUnits_move c1 (r := min q1 q2) (e := -1074) (by omega) (by omega), FP.Core.inUnits_move c2 (r := min q1 q2) (e := -1074) (by omega) (by omega), Int.natCast_mul, Int.natCast_mul, FP.Core.compare_mul_pos _ _ _ (by have := Nat.two_pow_pos (min q1 q2 - (-1074)).toNat; omega)]
  rfl
theorem own_cmp {x y : UInt64} {a b c d : Nat} (hx : FP.Core.val64 x = FP.Core.roundRatio FP.Core.b64 false a b 0) (hy : FP.Core.val64 y = FP.Core.roundRatio FP.Core.b64 false c d 0) (hb : 0 < b) (hd : 0 < d) (ha : a < 2 ^ 32) (hcd : c ≤ d) (hd' : d ≤ 2 ^ 10) (hb' : b ≤ 2 ^ 31) : 0 < FP.cmpInt 1 (FP.dcmp x y) ↔ c * b < a * d := by
  obtain ⟨c1, q1, e1⟩ := own_notinf false a b hb ha
  obtain ⟨c2, q2, e2⟩ := own_notinf false c d hd (by omega)
  have f1 := own_fit hb e1
  have f2 := own_fit hd e2
  have ho : FP.dcmp x y = some (compare (own_V c1 q1 : Int) (own_V c2 q2 : Int)) := by
    show FP.Core.order (FP.Core.val64 x) (FP.Core.val64 y) = _
    rw [hx, hy, e1, e2]
    exact own_order f1.2 f2.2
  rw [ho]
  have key : (compare (own_V c1 q1 : Int) (own_V c2 q2 : Int) = .gt) ↔ own_V c2 q2 < own_V c1 q1 := by
    simp only [compare, compareOfLessAndEq]
    split
    · simp; omega
    · split
      · simp; omega
      · simp; omega
  have key2 : (0 < FP.cmpInt 1 (some (compare (own_V c1 q1 : Int) (own_V c2 q2 : Int)))) ↔ compare (own_V c1 q1 : Int) (own_V c2 q2 : Int) = .gt := by
    cases compare (own_V c1 q1 : Int) (own_V c2 q2 : Int) <;> simp [FP.cmpInt]
  rw [key2, key]
  constructor
  · intro hlt
    rcases Nat.lt_trichotomy (a * d) (c * b) with q | q | q
    · have := own_mono hb hd e1 e2 q; omega
    · have := FP.Core.roundRatio_congr (f := FP.Core.b64) (s := false) (A := a) (B := b) (A' := c) (B' := d) (e := 0) (e' := 0) hb hd (by simpa using q)
      rw [e1, e2] at this
      cases this
      omega
    · exact q
  · intro hlt
    exact own_strict hb hd e1 e2 hlt hcd hd' hb'
theorem own_num {x : UInt64} (h : FP.Core.val64 x ≠ .nan) : x &&& 0x7fffffffffffffff ≤ 0x7ff0000000000000 := by
  have hm : (x &&& 0x7fffffffffffffff).toNat = x.toNat % 2 ^ 63 := by
    rw [UInt64.toNat_and]
    exact Nat.and_two_pow_sub_one_eq_mod x.toNat 63
  rw [UInt64.le_iff_toNat_le, hm]
  show x.toNat % 2 ^ 63 ≤ 9218868437227405312
  have t0 : FP.Core.b64.tails = 4503599627370496 := by decide +kernel
  have x0 : FP.Core.b64.exps = 2048 := by decide +kernel
  unfold FP.Core.val64 FP.Core.decode FP.Core.fieldE FP.Core.fieldT at h
  rw [t0, x0] at h
  by_cases g : x.toNat / 4503599627370496 % 2048 = 2048 - 1
  · rw [if_pos g] at h
    by_cases g2 : x.toNat % 4503599627370496 = 0
    · omega
    · rw [if_neg g2] at h; exact absurd rfl h
  · omega
theorem own_ok {x : UInt64} {s : Bool} {a b : Nat} (hx : FP.Core.val64 x = FP.Core.roundRatio FP.Core.b64 s a b 0) (hb : 0 < b) (ha : a < 2 ^ 32) : x &&& 0x7fffffffffffffff ≤ 0x7ff0000000000000 := by
  obtain ⟨c1, q1, e1⟩ := own_notinf s a b hb ha
  refine own_num ?_
  rw [hx, e1]
  simp
theorem own_quo0 (a b : Int32) (ha : 0 ≤ a.toInt) (hb : 0 < b.toInt) : FP.Core.val64 (FP.Core.ddiv (FP.Core.i2d a) (FP.Core.i2d b)) = FP.Core.roundRatio FP.Core.b64 false a.toInt.natAbs b.toInt.natAbs 0 := by
  have h := own_quo a b hb
  have hs : decide (a.toInt < 0) = false := by simp; omega
  rwa [hs] at h
variable {Z : State} {a0 : Array Value} {n0 : Nat}
theorem cmp_gt (x y : Int64) : 0 < XT.cmpL x y ↔ y.toInt < x.toInt := by
  unfold XT.cmpL
  rw [← Int64.lt_iff_toInt_lt]
  split
  · rename_i h; exact ⟨fun _ => h, fun _ => by decide⟩
  · rename_i h
    refine ⟨fun q => ?_, fun q => absurd q h⟩
    exact absurd q (by split <;> decide)
theorem met1 (hw : ∀ d ∈ tables_1, d.before a0 Z = true) (x y : Int32) (H : List GObj) : Met Z a0 n0 M1 0 0 0 0 [.int x, .int y] H (fun v H' => (∃ r : Int32, v = some (.int r) ∧ r.toInt = max x.toInt y.toInt) ∧ H' = H) := by
  refine MetW.intro [.val (.int x), .val (.int y)] pn1 rfl ?_
  refine go_iloadN i1_0 rfl ?_
  refine go_iloadN i1_1 rfl ?_
  refine go_icmp_lt 9 i1_2 (by decide) (fun h => ?_) (fun h => ?_)
  · rw [Int32.lt_iff_toInt_lt] at h
    refine go_iloadN i1_9 rfl ?_
    refine go_ireturn i1_10 rfl rfl (Or.inl rfl) (by first | decide | exact Nat.le_of_ble_eq_true rfl | (simp only [room_1]; omega)) (by first | decide | exact Nat.le_of_ble_eq_true rfl | (simp only [room_1]; omega)) ?_
    exact ⟨⟨_, rfl, by omega⟩, rfl⟩
  · rw [Int32.lt_iff_toInt_lt] at h
    refine go_iloadN i1_5 rfl ?_
    refine go_goto 10 i1_6 (by decide) ?_
    refine go_ireturn i1_10 rfl rfl (Or.inl rfl) (by first | decide | exact Nat.le_of_ble_eq_true rfl | (simp only [room_1]; omega)) (by first | decide | exact Nat.le_of_ble_eq_true rfl | (simp only [room_1]; omega)) ?_
    exact ⟨⟨_, rfl, by omega⟩, rfl⟩
theorem met2 (hw : ∀ d ∈ tables_1, d.before a0 Z = true) (d : UInt64) : Met Z a0 n0 M2 1 16 1 0 [.ref (n0 + 0), .ref (n0 + 1), .int 0, .double d] [.inl (KS, [.null, .int 0, .double 0]), .inr (.int, [])]
    (Eq0 [.inl (KS, [.ref (n0 + 2), .int 0, .double d]), .inr (.int, []), .inr (.int, [])]) := by
  refine MetW.intro [.val (.ref (n0 + 0)), .val (.ref (n0 + 1)), .val (.int 0), .val (.double d), .second] pn2 rfl ?_
  refine go_aloadN i2_0 rfl ?_
  refine go_initO i2_1 (hw _ (List.mem_of_getElem? (i := 12) rfl)) (hw _ (List.mem_of_getElem? (i := 13) rfl)) (hw _ (List.mem_of_getElem? (i := 14) rfl)) rfl (by decide) (by decide) ?_
  refine go_aloadN i2_4 rfl ?_
  refine go_aloadN i2_5 rfl ?_
  refine go_clone (k' := 2) 0 i2_6 (hw _ (List.mem_of_getElem? (i := 15) rfl)) (hw _ (List.mem_of_getElem? (i := 16) rfl)) (hw _ (List.mem_of_getElem? (i := 20) rfl)) (hw _ (List.mem_of_getElem? (i := 18) rfl)) (hw _ (List.mem_of_getElem? (i := 19) rfl)) (hw _ (List.mem_of_getElem? (i := 21) rfl)) rfl (by decide) rfl (by first | decide | exact Nat.le_of_ble_eq_true rfl | (simp only [room_1]; omega)) (by first | decide | exact Nat.le_of_ble_eq_true rfl | (simp only [room_1]; omega)) (by first | decide | exact Nat.le_of_ble_eq_true rfl | (simp only [room_1]; omega)) rfl (by first | decide | exact Nat.le_of_ble_eq_true rfl | (simp only [room_1]; omega)) (by first | decide | exact Nat.le_of_ble_eq_true rfl | (simp only [room_1]; omega)) ?_
  refine go_checkcastArr i2_9 (hw _ (List.mem_of_getElem? (i := 22) rfl)) rfl (by decide) ?_
  refine go_putfield 0 i2_12 (hw _ (List.mem_of_getElem? (i := 24) rfl)) rfl rfl rfl (Or.inr ⟨(hw _ (List.mem_of_getElem? (i := 25) rfl)), rfl, rfl⟩) rfl rfl ?_
  refine go_aloadN i2_15 rfl ?_
  refine go_iloadN i2_16 rfl ?_
  refine go_putfield 1 i2_17 (hw _ (List.mem_of_getElem? (i := 26) rfl)) rfl rfl rfl (Or.inr ⟨(hw _ (List.mem_of_getElem? (i := 27) rfl)), rfl, rfl⟩) rfl rfl ?_
  refine go_aloadN i2_20 rfl ?_
  refine go_dloadN i2_21 rfl ?_
  refine go_putfield 2 i2_22 (hw _ (List.mem_of_getElem? (i := 28) rfl)) rfl rfl rfl (Or.inr ⟨(hw _ (List.mem_of_getElem? (i := 29) rfl)), rfl, rfl⟩) rfl rfl ?_
  refine go_return i2_25 rfl (by first | decide | exact Nat.le_of_ble_eq_true rfl | (simp only [room_1]; omega)) (by first | decide | exact Nat.le_of_ble_eq_true rfl | (simp only [room_1]; omega)) ?_
  exact ⟨rfl, rfl⟩
theorem met4 (hw : ∀ d ∈ tables_1, d.before a0 Z = true) (H : List GObj) (u v : Value) (al : UInt64) (held size : Int32) (p q : Nat) (hk : H[0]? = some (.inl (KS, [u, v, .double al]))) (hal : FP.Core.val64 al = FP.Core.roundRatio FP.Core.b64 false p q 0) (hq : 0 < q) (hpq : p ≤ q) (hq' : q ≤ 2 ^ 10) (h0 : 0 ≤ held.toInt) (h1 : 0 < size.toInt) :
    Met Z a0 n0 M4 0 0 0 0 [.ref (n0 + 0), .int held, .int size] H (Eq1 (.int (if p * size.toInt.natAbs < held.toInt.natAbs * q then 0 else 1)) H) := by
  refine MetW.intro [.val (.ref (n0 + 0)), .val (.int held), .val (.int size)] pn4 rfl ?_
  have e := own_quo0 held size h0 h1
  have r1 := rng32 held
  have r2 := rng32 size
  have key := own_cmp e hal (by omega) hq (by omega) hpq hq' (by omega)
  refine go_iloadN i4_0 rfl ?_
  refine go_i2d i4_1 ?_
  refine go_iloadN i4_2 rfl ?_
  refine go_i2d i4_3 ?_
  refine go_ddiv i4_4 (own_ok e (by omega) (by omega)) ?_
  refine go_aloadN i4_5 rfl ?_
  refine go_getfield 2 i4_6 (hw _ (List.mem_of_getElem? (i := 28) rfl)) hk rfl rfl ?_
  refine go_dcmpg i4_9 ?_
  refine go_if_gt 17 i4_10 (by decide) (fun g => ?_) (fun g => ?_)
  · refine go_iconst (v := (0 : Int32)) i4_17 (by decide) ?_
    refine go_ireturn i4_18 rfl rfl (Or.inr (Or.inl rfl)) (by first | decide | exact Nat.le_of_ble_eq_true rfl | (simp only [room_1]; omega)) (by first | decide | exact Nat.le_of_ble_eq_true rfl | (simp only [room_1]; omega)) ?_
    exact ⟨by rw [if_pos (key.mp g)], rfl⟩
  · refine go_iconst (v := (1 : Int32)) i4_13 (by decide) ?_
    refine go_goto 18 i4_14 (by decide) ?_
    refine go_ireturn i4_18 rfl rfl (Or.inr (Or.inl rfl)) (by first | decide | exact Nat.le_of_ble_eq_true rfl | (simp only [room_1]; omega)) (by first | decide | exact Nat.le_of_ble_eq_true rfl | (simp only [room_1]; omega)) ?_
    exact ⟨by rw [if_neg (fun z => g (key.mpr z))], rfl⟩
theorem own_lm (x y : Int32) : (x.toInt64 * y.toInt64).toInt = x.toInt * y.toInt := by
  have h1 := c_lmul x.toInt64 y.toInt64
  have h2 := rng64 (x.toInt64 * y.toInt64)
  have h3 := rng32 x
  have h4 := rng32 y
  rw [c_i2l, c_i2l] at h1
  have h5 : (x.toInt * y.toInt).natAbs ≤ 2147483648 * 2147483648 := by
    rw [Int.natAbs_mul]
    exact Nat.mul_le_mul (by omega) (by omega)
  omega
theorem own_nat {x y z w : Int32} (h1 : 0 ≤ x.toInt) (h2 : 0 ≤ y.toInt) (h3 : 0 ≤ z.toInt) (h4 : 0 ≤ w.toInt) : x.toInt * y.toInt < z.toInt * w.toInt ↔ x.toInt.natAbs * y.toInt.natAbs < z.toInt.natAbs * w.toInt.natAbs := by
  rw [← Int.natAbs_mul, ← Int.natAbs_mul]
  have := Int.mul_nonneg h1 h2
  have := Int.mul_nonneg h3 h4
  omega
theorem g85 (hw : ∀ d ∈ tables_1, d.before a0 Z = true) (s0 s1 s2 s3 s4 s9 : Slot) (o9 : One s9) (q p held size : Int32) (q1 : 1 ≤ q.toInt) (q2 : q.toInt ≤ 1024) (p1 : 0 ≤ p.toInt) (p2 : p.toInt ≤ q.toInt) (h0 : 0 ≤ held.toInt) (h1 : 1 ≤ size.toInt) : Go Z a0 n0 M0 room_1 (fun v _ => v = some (.int 1)) 85 [s0, s1, s2, s3, s4, .val (.int q), .val (.int p), .val (.int held), .val (.int size), s9, .unset] [] [] 0 0 := by
  have e := own_quo0 p q p1 (by omega)
  refine go_new (k := 0) KS i0_85 (hw _ (List.mem_of_getElem? (i := 5) rfl)) (hw _ (List.mem_of_getElem? (i := 6) rfl)) (hw _ (List.mem_of_getElem? (i := 7) rfl)) (KS_ok hw) rfl rfl (by decide) (by decide) ?_
  refine go_dup i0_88 rfl ?_
  refine go_iconst (v := (0 : Int32)) i0_89 (by decide) ?_
  refine go_newarray (k := 1) 0 i0_90 rfl (hw _ (List.mem_of_getElem? (i := 8) rfl)) (by decide) (show _ = [] from rfl) (by decide) (by decide) rfl (by first | decide | exact Nat.le_of_ble_eq_true rfl | (simp only [room_1]; omega)) (by first | decide | exact Nat.le_of_ble_eq_true rfl | (simp only [room_1]; omega)) ?_
  refine go_iconst (v := (0 : Int32)) i0_92 (by decide) ?_
  refine go_iload i0_93 rfl ?_
  refine go_i2d i0_95 ?_
  refine go_iload i0_96 rfl ?_
  refine go_i2d i0_98 ?_
  refine go_ddiv i0_99 (own_ok e (by omega) (by omega)) ?_
  refine go_special i0_100 (met2 hw _) (hw _ (List.mem_of_getElem? (i := 9) rfl)) (hw _ (List.mem_of_getElem? (i := 10) rfl)) (hw _ (List.mem_of_getElem? (i := 7) rfl)) (hw _ (List.mem_of_getElem? (i := 11) rfl)) rfl rfl rfl pd2 rfl rfl rfl (by first | decide | exact Nat.le_of_ble_eq_true rfl | (simp only [room_1]; omega)) (by first | decide | exact Nat.le_of_ble_eq_true rfl | (simp only [room_1]; omega)) (by first | decide | exact Nat.le_of_ble_eq_true rfl | (simp only [room_1]; omega)) (by first | decide | exact Nat.le_of_ble_eq_true rfl | (simp only [room_1]; omega)) (retV rfl ?_)
  refine go_astore9 i0_103 o9 ?_
  refine go_iload i0_105 rfl ?_
  refine go_i2l i0_107 ?_
  refine go_iload i0_108 rfl ?_
  refine go_i2l i0_110 ?_
  refine go_lmul i0_111 ?_
  refine go_iload i0_112 rfl ?_
  refine go_i2l i0_114 ?_
  refine go_iload i0_115 rfl ?_
  refine go_i2l i0_117 ?_
  refine go_lmul i0_118 ?_
  refine go_lcmp i0_119 ?_
  have K := own_nat p1 (by omega : 0 ≤ size.toInt) h0 (by omega : 0 ≤ q.toInt)
  refine go_if_gt 127 i0_120 (by decide) (fun g => ?_) (fun g => ?_)
  · rw [cmp_gt, own_lm, own_lm, K] at g
    refine go_iconst (v := (0 : Int32)) i0_127 (by decide) ?_
    refine go_istore10 i0_128 (by first | exact One.u | exact One.val rfl) ?_
    refine go_aload i0_130 rfl ?_
    refine go_iload i0_132 rfl ?_
    refine go_iload i0_134 rfl ?_
    refine go_virtual i0_136 (met4 hw _ _ _ _ held size _ _ rfl e (by omega) (by omega) (by omega) h0 (by omega)) rfl (hw _ (List.mem_of_getElem? (i := 30) rfl)) (hw _ (List.mem_of_getElem? (i := 31) rfl)) (hw _ (List.mem_of_getElem? (i := 33) rfl)) (hw _ (List.mem_of_getElem? (i := 32) rfl)) (hw _ (List.mem_of_getElem? (i := 7) rfl)) (hw _ (List.mem_of_getElem? (i := 34) rfl)) rfl pd4 rfl rfl rfl (by first | decide | exact Nat.le_of_ble_eq_true rfl | (simp only [room_1]; omega)) (by first | decide | exact Nat.le_of_ble_eq_true rfl | (simp only [room_1]; omega)) (by first | decide | exact Nat.le_of_ble_eq_true rfl | (simp only [room_1]; omega)) (by first | decide | exact Nat.le_of_ble_eq_true rfl | (simp only [room_1]; omega)) (retE rfl ?_)
    rw [if_pos g]
    refine go_iload i0_139 rfl ?_
    refine go_icmpF i0_141 (by decide) ?_
    refine go_iconst (v := (1 : Int32)) i0_144 (by decide) ?_
    refine go_goto 149 i0_145 (by decide) ?_
    refine go_ireturn i0_149 rfl rfl (Or.inr (Or.inl rfl)) (by first | decide | exact Nat.le_of_ble_eq_true rfl | (simp only [room_1]; omega)) (by first | decide | exact Nat.le_of_ble_eq_true rfl | (simp only [room_1]; omega)) ?_
    rfl
  · rw [cmp_gt, own_lm, own_lm, K] at g
    refine go_iconst (v := (1 : Int32)) i0_123 (by decide) ?_
    refine go_goto 128 i0_124 (by decide) ?_
    refine go_istore10 i0_128 (by first | exact One.u | exact One.val rfl) ?_
    refine go_aload i0_130 rfl ?_
    refine go_iload i0_132 rfl ?_
    refine go_iload i0_134 rfl ?_
    refine go_virtual i0_136 (met4 hw _ _ _ _ held size _ _ rfl e (by omega) (by omega) (by omega) h0 (by omega)) rfl (hw _ (List.mem_of_getElem? (i := 30) rfl)) (hw _ (List.mem_of_getElem? (i := 31) rfl)) (hw _ (List.mem_of_getElem? (i := 33) rfl)) (hw _ (List.mem_of_getElem? (i := 32) rfl)) (hw _ (List.mem_of_getElem? (i := 7) rfl)) (hw _ (List.mem_of_getElem? (i := 34) rfl)) rfl pd4 rfl rfl rfl (by first | decide | exact Nat.le_of_ble_eq_true rfl | (simp only [room_1]; omega)) (by first | decide | exact Nat.le_of_ble_eq_true rfl | (simp only [room_1]; omega)) (by first | decide | exact Nat.le_of_ble_eq_true rfl | (simp only [room_1]; omega)) (by first | decide | exact Nat.le_of_ble_eq_true rfl | (simp only [room_1]; omega)) (retE rfl ?_)
    rw [if_neg g]
    refine go_iload i0_139 rfl ?_
    refine go_icmpF i0_141 (by decide) ?_
    refine go_iconst (v := (1 : Int32)) i0_144 (by decide) ?_
    refine go_goto 149 i0_145 (by decide) ?_
    refine go_ireturn i0_149 rfl rfl (Or.inr (Or.inl rfl)) (by first | decide | exact Nat.le_of_ble_eq_true rfl | (simp only [room_1]; omega)) (by first | decide | exact Nat.le_of_ble_eq_true rfl | (simp only [room_1]; omega)) ?_
    rfl
theorem own_mulb {x y : Int32} {X Y : Int} (h1 : 0 ≤ x.toInt) (h2 : x.toInt ≤ X) (h3 : 0 ≤ y.toInt) (h4 : y.toInt ≤ Y) (hXY : X * Y ≤ 2147483647) : (x * y).toInt = x.toInt * y.toInt ∧ 0 ≤ x.toInt * y.toInt ∧ x.toInt * y.toInt ≤ X * Y := by
  have c := c_imul x y
  have r := rng32 (x * y)
  have a := Int.mul_nonneg h1 h3
  have b : x.toInt * y.toInt ≤ X * Y := Int.mul_le_mul h2 h4 h3 (by omega)
  generalize x.toInt * y.toInt = w at *
  generalize X * Y = w' at *
  omega
theorem law_met (Z : State) (a0 : Array Value) (n0 : Nat) (hw : ∀ d ∈ tables_1, d.before a0 Z = true) (h s a b c : Int32) : MetW Z a0 n0 M0 tables_1 room_1 [.int h, .int s, .int a, .int b, .int c] [] (fun v _ => v = some (.int 1)) := by
  refine MetW.intro [.val (.int h), .val (.int s), .val (.int a), .val (.int b), .val (.int c), .unset, .unset, .unset, .unset, .unset, .unset] pn0 rfl ?_
  have o1 : (1 : Int32).toInt = 1 := by decide
  have b1 := c_mask b 1023 10 (by decide) (by decide)
  have b2 := c_iadd (b &&& 1023) 1
  have b3 := rng32 ((b &&& 1023) + 1)
  rw [o1] at b2
  have q1 : 1 ≤ ((b &&& 1023) + 1).toInt := by omega
  have q2 : ((b &&& 1023) + 1).toInt ≤ 1024 := by omega
  refine go_iloadN i0_0 rfl ?_
  refine go_sipush (v := (1023 : Int32)) i0_1 (by decide) ?_
  refine go_iand i0_4 ?_
  refine go_iconst (v := (1 : Int32)) i0_5 (by decide) ?_
  refine go_iadd i0_6 ?_
  refine go_istore5 i0_7 (by first | exact One.u | exact One.val rfl) ?_
  generalize (b &&& 1023) + 1 = q at *
  clear b1 b2 b3
  have a1 := c_mask a 2147483647 31 (by decide) (by decide)
  have a2 := c_iadd q 1
  have a3 := rng32 (q + 1)
  rw [o1] at a2
  have a4 : (q + 1).toInt = q.toInt + 1 := by omega
  have a5 := (c_iremV (a &&& 2147483647) (q + 1)).1 (by omega) (by omega)
  have n0' : q + 1 ≠ 0 := by
    intro z
    rw [z] at a4
    have : (0 : Int32).toInt = 0 := by decide
    omega
  refine go_iloadN i0_9 rfl ?_
  refine go_ldc i0_10 (hw _ (List.mem_of_getElem? (i := 0) rfl)) ?_
  refine go_iand i0_12 ?_
  refine go_iload i0_13 rfl ?_
  refine go_iconst (v := (1 : Int32)) i0_15 (by decide) ?_
  refine go_iadd i0_16 ?_
  refine go_irem i0_17 (by exact n0') ?_
  refine go_istore6 i0_18 (by first | exact One.u | exact One.val rfl) ?_
  have p1 : 0 ≤ ((a &&& 2147483647) % (q + 1)).toInt := a5.1
  have p2 : ((a &&& 2147483647) % (q + 1)).toInt ≤ q.toInt := by omega
  generalize (a &&& 2147483647) % (q + 1) = p at *
  clear a1 a2 a3 a4 a5
  refine go_iload i0_20 rfl ?_
  refine go_iconst (v := (1 : Int32)) i0_22 (by decide) ?_
  refine go_iand i0_23 ?_
  refine go_if_eq 69 i0_24 (by decide) (fun g => ?_) (fun g => ?_)
  · have h1 := c_mask h 2147483647 31 (by decide) (by decide)
    refine go_iloadN i0_69 rfl ?_
    refine go_ldc i0_70 (hw _ (List.mem_of_getElem? (i := 0) rfl)) ?_
    refine go_iand i0_72 ?_
    refine go_istore7 i0_73 (by first | exact One.u | exact One.val rfl) ?_
    refine go_iconst (v := (1 : Int32)) i0_75 (by decide) ?_
    refine go_iloadN i0_76 rfl ?_
    refine go_ldc i0_77 (hw _ (List.mem_of_getElem? (i := 0) rfl)) ?_
    refine go_iand i0_79 ?_
    refine go_static i0_80 (met1 hw _ _ _) (hw _ (List.mem_of_getElem? (i := 1) rfl)) (hw _ (List.mem_of_getElem? (i := 2) rfl)) (hw _ (List.mem_of_getElem? (i := 3) rfl)) (hw _ (List.mem_of_getElem? (i := 4) rfl)) rfl pd1 rfl rfl rfl (by first | decide | exact Nat.le_of_ble_eq_true rfl | (simp only [room_1]; omega)) (by first | decide | exact Nat.le_of_ble_eq_true rfl | (simp only [room_1]; omega)) (by first | decide | exact Nat.le_of_ble_eq_true rfl | (simp only [room_1]; omega)) (by first | decide | exact Nat.le_of_ble_eq_true rfl | (simp only [room_1]; omega)) ?_
    rintro _ _ ⟨⟨z, rfl, hz⟩, rfl⟩
    refine ⟨rfl, ?_⟩
    refine go_istore8 i0_83 (by first | exact One.u | exact One.val rfl) ?_
    exact g85 hw _ _ _ _ _ _ One.u q p _ z q1 q2 p1 p2 (by omega) (by omega)
  · have m1 := c_mask (XT.ushr c 1) 1048575 20 (by decide) (by decide)
    have m2 := c_iadd (XT.ushr c 1 &&& 1048575) 1
    have m3 := rng32 ((XT.ushr c 1 &&& 1048575) + 1)
    rw [o1] at m2
    have m4 : 1 ≤ ((XT.ushr c 1 &&& 1048575) + 1).toInt := by omega
    have m5 : ((XT.ushr c 1 &&& 1048575) + 1).toInt ≤ 1048576 := by omega
    have k1 := c_mask (XT.ushr c 21) 3 2 (by decide) (by decide)
    refine go_iload i0_27 rfl ?_
    refine go_iconst (v := (1 : Int32)) i0_29 (by decide) ?_
    refine go_iushr i0_30 ?_
    refine go_ldc i0_31 (hw _ (List.mem_of_getElem? (i := 35) rfl)) ?_
    refine go_iand i0_33 ?_
    refine go_iconst (v := (1 : Int32)) i0_34 (by decide) ?_
    refine go_iadd i0_35 ?_
    generalize (XT.ushr c 1 &&& 1048575) + 1 = m at *
    clear m1 m2 m3
    have w1 := own_mulb (x := q) (y := m) (X := 1024) (Y := 1048576) (by omega) (by omega) (by omega) (by omega) (by decide)
    have w2 := own_mulb (x := p) (y := m) (X := 1024) (Y := 1048576) (by omega) (by omega) (by omega) (by omega) (by decide)
    have w3 : 1 ≤ q.toInt * m.toInt := Int.mul_pos (by omega) (by omega)
    refine go_istore9 i0_36 (by first | exact One.u | exact One.val rfl) ?_
    refine go_iload i0_38 rfl ?_
    refine go_iload i0_40 rfl ?_
    refine go_imul i0_42 ?_
    refine go_istore8 i0_43 (by first | exact One.u | exact One.val rfl) ?_
    refine go_iconst (v := (0 : Int32)) i0_45 (by decide) ?_
    refine go_iload i0_46 rfl ?_
    refine go_iload i0_48 rfl ?_
    refine go_imul i0_50 ?_
    refine go_iload i0_51 rfl ?_
    refine go_bipush (v := (21 : Int32)) i0_53 (by decide) ?_
    refine go_iushr i0_55 ?_
    refine go_iconst (v := (3 : Int32)) i0_56 (by decide) ?_
    refine go_iand i0_57 ?_
    refine go_iadd i0_58 ?_
    refine go_iconst (v := (1 : Int32)) i0_59 (by decide) ?_
    refine go_isub i0_60 ?_
    refine go_static i0_61 (met1 hw _ _ _) (hw _ (List.mem_of_getElem? (i := 1) rfl)) (hw _ (List.mem_of_getElem? (i := 2) rfl)) (hw _ (List.mem_of_getElem? (i := 3) rfl)) (hw _ (List.mem_of_getElem? (i := 4) rfl)) rfl pd1 rfl rfl rfl (by first | decide | exact Nat.le_of_ble_eq_true rfl | (simp only [room_1]; omega)) (by first | decide | exact Nat.le_of_ble_eq_true rfl | (simp only [room_1]; omega)) (by first | decide | exact Nat.le_of_ble_eq_true rfl | (simp only [room_1]; omega)) (by first | decide | exact Nat.le_of_ble_eq_true rfl | (simp only [room_1]; omega)) ?_
    rintro _ _ ⟨⟨z, rfl, hz⟩, rfl⟩
    refine ⟨rfl, ?_⟩
    have z0 : (0 : Int32).toInt = 0 := by decide
    rw [z0] at hz
    refine go_istore7 i0_64 (by first | exact One.u | exact One.val rfl) ?_
    refine go_goto 85 i0_66 (by decide) ?_
    exact g85 hw _ _ _ _ _ _ (One.val rfl) q p z _ q1 q2 p1 p2 (by omega) (by rw [w1.1]; exact w3)
theorem comes_1 {Post : Tables → Env → Array Value → State → Outcome → State → Prop} (hpost : ∀ tb e args s v u, (limb_1_1.after args s (.returned v) u = true ∧ limb_1_2.after args s (.returned v) u = true ∧ True) → FrameEnd s (.returned v) u (Jvm.fieldLocs frame_1_writes args s ++ Jvm.arrayLocs frame_1_arrays args s ++ Jvm.staticLocs frame_1_statics s) 16 128 → Post tb e args s (.returned v) u) :
    ArmFor flags0 classFile x code maxLocals ret World_1 tables_1 room_1 Calls_1 rest_1 Pre_1 Post := by
  intro l hfl _ _ p e ha hc hk s m args below hf hA hF happ hP
  obtain ⟨hcalls, hrest, hpre⟩ := hP
  obtain ⟨-, -, -, hnamed, -, -, -, hat⟩ := (Spec.applies_iff hf).mp happ
  obtain ⟨hg, hn⟩ := and_e (Cond.before_iff.mp (show (Jvm.Cond.and given_1 narrow_1).before args s = true from hpre))
  obtain ⟨g0, gs0⟩ := and_e hg
  obtain ⟨w0, w1, w2, w3, w4, rfl⟩ : ∃ (w0 : Value) (w1 : Value) (w2 : Value) (w3 : Value) (w4 : Value), args = #[w0, w1, w2, w3, w4] := by
    have hs : args.size = 5 := by simpa [Cond.value, given_1] using g0
    obtain ⟨L⟩ := args
    match L, hs with
    | [w0, w1, w2, w3, w4], _ => exact ⟨w0, w1, w2, w3, w4, rfl⟩
  have hw := fun d (hd : d ∈ tables_1) => atoms_spec (ws := Jvm.Cond.code x code maxLocals ret :: tables_1) hat d (List.mem_cons_of_mem _ hd)
  obtain ⟨b0, gs1⟩ := and_e gs0
  obtain ⟨i0, ei0⟩ := is_v b0
  obtain rfl : w0 = (.int i0) := Option.some.inj ei0
  obtain ⟨b1, gs2⟩ := and_e gs1
  obtain ⟨i1, ei1⟩ := is_v b1
  obtain rfl : w1 = (.int i1) := Option.some.inj ei1
  obtain ⟨b2, gs3⟩ := and_e gs2
  obtain ⟨i2, ei2⟩ := is_v b2
  obtain rfl : w2 = (.int i2) := Option.some.inj ei2
  obtain ⟨b3, gs4⟩ := and_e gs3
  obtain ⟨i3, ei3⟩ := is_v b3
  obtain rfl : w3 = (.int i3) := Option.some.inj ei3
  have b4 := gs4
  obtain ⟨i4, ei4⟩ := is_v b4
  obtain rfl : w4 = (.int i4) := Option.some.inj ei4
  obtain ⟨n, o, h1, h2, h3, _, L, rfl, ⟨H', rfl, -, N⟩, hq⟩ := law_met s _ s.heap.size hw i0 i1 i2 i3 i4 l s.heap ⟨rfl, ⟨Nat.le_refl _, fun _ _ q => q⟩, by simp, fun k o q => by simp at q⟩ p e ha hc hk s m _ below hf ((Spec.applies_iff_loose hf).mp happ).1 ⟨rfl, State.Warmed39.refl s, rfl⟩ trivial
  refine ⟨n, _, h1, h2, h3, hpost _ _ _ _ _ _ ⟨Cond.after_iff.mpr rfl, Cond.after_iff.mpr (eq_i res_at (Term.int_eval (1)) rfl), trivial⟩ ⟨hq.1, hq.2.1, (hq.2.2.sift fun y hy => Or.inr (N y hy)).mono (by decide) (by decide)⟩⟩
theorem main_1_1 : Claimed_1_1 := comes_1 fun _ _ _ _ _ _ h hF => ⟨h.1, hF⟩
theorem main_1_2 : Claimed_1_2 := comes_1 fun _ _ _ _ _ _ h hF => ⟨h.2.1, hF⟩
end Jvm.Pilot.@@N@@
namespace Jvm.Pilot.@@N@@
open Jvm Jvm.ClassFile Sem Op Lib Jvm.Free Jvm.Stand Jvm.Pilot.@@N@@.Jvm.D
/-! MADE BY PROGRAM (witnessworld.py) out of the Statement's table words and the real class files: 10 classes; the members and pool entries that the words name. The judged class is class 1, her method 1. -/
namespace start1
open Jvm.ClassFile
def u (s : String) : CpInfo := .utf8 (stringToUtf16 s)
/-- a pool by its gaps: so many unusable entries, then the entry; so many at the end -/
def gap : Nat → List CpInfo → List CpInfo
  | 0, r => r
  | n + 1, r => .unusable :: gap n r
def poolList (es : List (Nat × CpInfo)) (last : Nat) : List CpInfo := es.foldr (fun e r => gap e.1 (e.2 :: r)) (gap last [])
def pool (es : List (Nat × CpInfo)) (last : Nat) : Array CpInfo := ⟨poolList es last⟩
def fileOf (pool : Array CpInfo) (this : Nat) (attrs : Array Attribute := #[]) (ms : Array MethodInfo := #[]) (fl : Nat := 33) (sup : Nat := 0) (ifs : Array Nat := #[]) (fds : Array FieldInfo := #[]) : ClassFile where
  minorVersion := 0
  majorVersion := 65
  constantPool := pool
  accessFlags := fl
  thisClass := this
  superClass := sup
  interfaces := ifs
  fields := fds
  methods := ms
  attributes := attrs
def plain (name : String) (sup : Option ClassId) : Class where
  name := name
  kind := .ordinary
  loader := none
  accessFlags := 33
  super := sup
  interfaces := #[]
  cf := none
  fields := #[]
  methods := #[]
  instanceTypes := #[]
  staticTypes := #[]
  resolved := #[]
  callSites := []
  init := .initialized
  statics := none
  mirror := none

def pool0 : Array CpInfo := pool [(5, u "<init>"), (0, u "()V"), (1, .class_ 10), (1, u "java/lang/Object"), (85, u "clone"), (0, u "()Ljava/lang/Object;")] 26

def k0c0 : Code := { maxStack := 0, maxLocals := 1, code := object_method_1_code, exceptionTable := #[], attributes := #[] }
def k0m0 : Method := { name := "<init>", desc := "()V", sig := { parameters := [], returnType := none }, accessFlags := 1, code := some k0c0 }
def k0m1 : Method := { name := "clone", desc := "()Ljava/lang/Object;", sig := { parameters := [], returnType := some (.object "java/lang/Object") }, accessFlags := 260, code := none }
/-- java/lang/Object -/
def k0 : Class := { plain "java/lang/Object" none with
  accessFlags := 33
  interfaces := #[]
  cf := some (fileOf pool0 8 #[] #[{ accessFlags := 1, nameIndex := 5, descriptorIndex := 6, attributes := #[] }, { accessFlags := 260, nameIndex := 96, descriptorIndex := 97, attributes := #[] }] 33 0 #[] #[])
  fields := #[]
  methods := #[k0m0, k0m1]
  instanceTypes := #[]
  staticTypes := #[]
  resolved := Array.replicate 124 none
  statics := none }

def pool1 : Array CpInfo := pool [(2, .class_ 4), (1, u "java/lang/Object"), (0, u "<init>"), (0, u "()V"), (0, .integer 2147483647), (0, .integer 1048575), (0, .methodref 10 11), (0, .class_ 12), (0, .nameAndType 13 14), (0, u "java/lang/Math"), (0, u "max"), (0, u "(II)I"), (0, .class_ 16), (0, u "com/example/menhaden/menhaden/ShareLimit"), (0, .methodref 15 18), (0, .nameAndType 5 19), (0, u "([IID)V"), (0, .methodref 15 21), (0, .nameAndType 22 23), (0, u "allows"), (0, u "(II)Z"), (0, .class_ 25), (0, u "com/example/menhaden/menhaden/ShareLimitAllowsPinLaw"), (2, u "law"), (0, u "(IIIII)Z")] 3

def k1m0 : Method := { name := "<init>", desc := "()V", sig := { parameters := [], returnType := none }, accessFlags := 1, code := none }
def k1c1 : Code := { maxStack := 8, maxLocals := 11, code := code, exceptionTable := #[], attributes := #[] }
def k1m1 : Method := { name := "law", desc := "(IIIII)Z", sig := { parameters := [.int, .int, .int, .int, .int], returnType := some .boolean }, accessFlags := 9, code := some k1c1 }
/-- com/example/menhaden/menhaden/ShareLimitAllowsPinLaw -/
def k1 : Class := { plain "com/example/menhaden/menhaden/ShareLimitAllowsPinLaw" (some 0) with
  accessFlags := 49
  interfaces := #[]
  cf := some (fileOf pool1 24 #[] #[{ accessFlags := 1, nameIndex := 5, descriptorIndex := 6, attributes := #[] }, { accessFlags := 9, nameIndex := 28, descriptorIndex := 29, attributes := #[] }] 49 2 #[] #[])
  fields := #[]
  methods := #[k1m0, k1m1]
  instanceTypes := #[]
  staticTypes := #[]
  resolved := Array.replicate 33 none
  statics := none }

def pool2 : Array CpInfo := pool [(1, .class_ 2), (0, u "java/lang/Math"), (1, .class_ 6), (1, u "java/lang/Object"), (0, u "<init>"), (0, u "()V"), (89, .class_ 100), (1, u "java/lang/Math$RandomNumberGeneratorHolder"), (71, u "negativeZeroFloatBits"), (0, u "J"), (2, u "negativeZeroDoubleBits"), (21, u "max"), (46, u "$assertionsDisabled"), (0, u "Z"), (88, u "(II)I"), (2, u "twoToTheDoubleScaleDown"), (0, u "D"), (4, u "twoToTheDoubleScaleUp"), (9, u "E"), (3, u "PI"), (2, u "TAU"), (2, u "DEGREES_TO_RADIANS"), (0, u "RADIANS_TO_DEGREES")] 94

def k2m0 : Method := { name := "<init>", desc := "()V", sig := { parameters := [], returnType := none }, accessFlags := 2, code := none }
def k2c1 : Code := { maxStack := 2, maxLocals := 2, code := jdk_29_method_65_code, exceptionTable := #[], attributes := #[] }
def k2m1 : Method := { name := "max", desc := "(II)I", sig := { parameters := [.int, .int], returnType := some .int }, accessFlags := 9, code := some k2c1 }
/-- java/lang/Math -/
def k2 : Class := { plain "java/lang/Math" (some 0) with
  accessFlags := 49
  interfaces := #[]
  cf := some (fileOf pool2 1 #[.nestMembers #[98]] #[{ accessFlags := 2, nameIndex := 7, descriptorIndex := 8, attributes := #[] }, { accessFlags := 9, nameIndex := 198, descriptorIndex := 335, attributes := #[] }] 49 4 #[] #[{ accessFlags := 25, nameIndex := 354, descriptorIndex := 339, attributes := #[] }, { accessFlags := 25, nameIndex := 358, descriptorIndex := 339, attributes := #[] }, { accessFlags := 25, nameIndex := 361, descriptorIndex := 339, attributes := #[] }, { accessFlags := 26, nameIndex := 364, descriptorIndex := 339, attributes := #[] }, { accessFlags := 26, nameIndex := 365, descriptorIndex := 339, attributes := #[] }, { accessFlags := 26, nameIndex := 172, descriptorIndex := 173, attributes := #[] }, { accessFlags := 26, nameIndex := 176, descriptorIndex := 173, attributes := #[] }, { accessFlags := 8, nameIndex := 344, descriptorIndex := 339, attributes := #[] }, { accessFlags := 8, nameIndex := 338, descriptorIndex := 339, attributes := #[] }, { accessFlags := 4120, nameIndex := 245, descriptorIndex := 246, attributes := #[] }])
  fields := #[{ name := "E", type := .double, accessFlags := 25, slot := 0, constantValue := 0 }, { name := "PI", type := .double, accessFlags := 25, slot := 1, constantValue := 0 }, { name := "TAU", type := .double, accessFlags := 25, slot := 2, constantValue := 0 }, { name := "DEGREES_TO_RADIANS", type := .double, accessFlags := 26, slot := 3, constantValue := 0 }, { name := "RADIANS_TO_DEGREES", type := .double, accessFlags := 26, slot := 4, constantValue := 0 }, { name := "negativeZeroFloatBits", type := .long, accessFlags := 26, slot := 5, constantValue := 0 }, { name := "negativeZeroDoubleBits", type := .long, accessFlags := 26, slot := 6, constantValue := 0 }, { name := "twoToTheDoubleScaleUp", type := .double, accessFlags := 8, slot := 7, constantValue := 0 }, { name := "twoToTheDoubleScaleDown", type := .double, accessFlags := 8, slot := 8, constantValue := 0 }, { name := "$assertionsDisabled", type := .boolean, accessFlags := 4120, slot := 9, constantValue := 0 }]
  methods := #[k2m0, k2m1]
  instanceTypes := #[]
  staticTypes := #[.double, .double, .double, .double, .double, .long, .long, .double, .double, .boolean]
  resolved := Array.replicate 460 none
  statics := none }

def pool3 : Array CpInfo := pool [(1, .methodref 2 3), (0, .class_ 4), (0, .nameAndType 5 6), (0, u "java/lang/Object"), (0, u "<init>"), (0, u "()V"), (0, .methodref 8 9), (0, .class_ 10), (0, .nameAndType 11 12), (0, u "[I"), (0, u "clone"), (0, u "()Ljava/lang/Object;"), (0, .fieldref 14 15), (0, .class_ 16), (0, .nameAndType 17 10), (0, u "com/example/menhaden/menhaden/ShareLimit"), (0, u "codes"), (0, .fieldref 14 19), (0, .nameAndType 20 21), (0, u "values"), (0, u "I"), (0, .fieldref 14 23), (0, .nameAndType 24 25), (0, u "alpha"), (0, u "D"), (8, u "([IID)V"), (28, u "allows"), (0, u "(II)Z"), (10, .class_ 76), (0, u "com/example/menhaden/menhaden/ShareLimit$Held"), (7, u "UNPROTECTED")] 49

def k3c0 : Code := { maxStack := 3, maxLocals := 5, code := prog_3_method_1_code, exceptionTable := #[], attributes := #[] }
def k3m0 : Method := { name := "<init>", desc := "([IID)V", sig := { parameters := [(.array .int), .int, .double], returnType := none }, accessFlags := 0, code := some k3c0 }
def k3c1 : Code := { maxStack := 4, maxLocals := 3, code := prog_3_method_8_code, exceptionTable := #[], attributes := #[] }
def k3m1 : Method := { name := "allows", desc := "(II)Z", sig := { parameters := [.int, .int], returnType := some .boolean }, accessFlags := 0, code := some k3c1 }
/-- com/example/menhaden/menhaden/ShareLimit -/
def k3 : Class := { plain "com/example/menhaden/menhaden/ShareLimit" (some 0) with
  accessFlags := 48
  interfaces := #[]
  cf := some (fileOf pool3 14 #[.nestMembers #[75]] #[{ accessFlags := 0, nameIndex := 5, descriptorIndex := 34, attributes := #[] }, { accessFlags := 0, nameIndex := 63, descriptorIndex := 64, attributes := #[] }] 48 2 #[] #[{ accessFlags := 24, nameIndex := 84, descriptorIndex := 21, attributes := #[] }, { accessFlags := 18, nameIndex := 17, descriptorIndex := 10, attributes := #[] }, { accessFlags := 18, nameIndex := 20, descriptorIndex := 21, attributes := #[] }, { accessFlags := 18, nameIndex := 24, descriptorIndex := 25, attributes := #[] }])
  fields := #[{ name := "UNPROTECTED", type := .int, accessFlags := 24, slot := 0, constantValue := 0 }, { name := "codes", type := (.array .int), accessFlags := 18, slot := 0, constantValue := 0 }, { name := "values", type := .int, accessFlags := 18, slot := 1, constantValue := 0 }, { name := "alpha", type := .double, accessFlags := 18, slot := 2, constantValue := 0 }]
  methods := #[k3m0, k3m1]
  instanceTypes := #[(.array .int), .int, .double]
  staticTypes := #[.int]
  resolved := Array.replicate 134 none
  statics := none }

def pool4 : Array CpInfo := pool [(1, .class_ 2), (0, u "java/lang/Cloneable"), (0, .class_ 4), (0, u "java/lang/Object")] 2

/-- java/lang/Cloneable -/
def k4 : Class := { plain "java/lang/Cloneable" (some 0) with
  accessFlags := 1537
  interfaces := #[]
  cf := some (fileOf pool4 1 #[] #[] 1537 3 #[] #[])
  fields := #[]
  methods := #[]
  instanceTypes := #[]
  staticTypes := #[]
  resolved := Array.replicate 7 none
  statics := none }

def pool5 : Array CpInfo := pool [(1, u "java/io/Serializable"), (0, .class_ 1), (0, u "java/lang/Object"), (0, .class_ 3)] 3

/-- java/io/Serializable -/
def k5 : Class := { plain "java/io/Serializable" (some 0) with
  accessFlags := 1537
  interfaces := #[]
  cf := some (fileOf pool5 2 #[] #[] 1537 4 #[] #[])
  fields := #[]
  methods := #[]
  instanceTypes := #[]
  staticTypes := #[]
  resolved := Array.replicate 8 none
  statics := none }

/-- the primitive byte -/
def k6 : Class := { plain "byte" none with kind := .primitive 'B', accessFlags := 0x411 }
/-- [B -/
def k7 : Class := { plain "[B" (some 0) with kind := .array 6 .byte, interfaces := #[4, 5], accessFlags := 1041 }

/-- the primitive int -/
def k8 : Class := { plain "int" none with kind := .primitive 'I', accessFlags := 0x411 }
/-- [I -/
def k9 : Class := { plain "[I" (some 0) with kind := .array 8 .int, interfaces := #[4, 5], accessFlags := 1041 }

def heap : Heap := #[]
def classes : Array Class := #[k0, k1, k2, k3, k4, k5, k6, k7, k8, k9]
def interned : List (Array UInt16 × Addr) := []
def slotsUsed : Nat := 0
def theMethod : MethodId := ⟨1, 1⟩
def args0 : Array Value := #[.int 5, .int 3, .int 7, .int 9, .int 2]
def aboutOver (below : List Frame) : State where
  vm := { classes := classes, interned := interned.toArray }
  heap := heap
  slotsUsed := slotsUsed
  threads := #[{ frames := .invoking theMethod args0 :: below }]
def below0 : List Frame := [.native { method := ⟨0, 0⟩, args := #[] }]
def about1 : State := aboutOver below0
def p0 : Program := .bare "" "" ""
def e0 : Env := launch0.env 0 0 0
theorem w_frames : about1.frames = Frame.invoking theMethod args0 :: below0 := rfl
set_option maxRecDepth 65536 in
theorem w_args : argsFit about1.vm theMethod args0 = true := by decide +kernel
set_option maxRecDepth 65536 in
theorem w_heap : heapFits about1 = true := by decide +kernel
set_option maxRecDepth 65536 in
theorem w_runnable : about1.curStatus? = some .runnable := by decide +kernel
set_option maxRecDepth 65536 in
theorem w_alone : about1.alone = true := by decide +kernel
set_option maxRecDepth 65536 in
theorem w_named : about1.methodNamed? x = some theMethod := by decide +kernel
set_option maxRecDepth 65536 in
theorem w_hears : about1.hears theMethod below0 = true := by decide +kernel
set_option maxRecDepth 65536 in
theorem w_ripe : about1.ripe theMethod args0 below0 = true := by decide +kernel
theorem w_running : about1.status = .running := rfl
set_option maxRecDepth 65536 in
theorem w_room : about1.hasRoom e0.platform room_1 = true :=
  launch0.hasRoom_least _ room_1 (by decide +kernel) (by decide +kernel) (by decide +kernel) (by decide +kernel) (by decide +kernel) (by decide +kernel)
theorem allAtoms_all (ts : List Jvm.Cond) (a : Array Jvm.Value) (st : Jvm.State) : (allAtoms ts).before a st = ts.all (fun c => c.before a st) := by
  induction ts with
  | nil => rfl
  | cons c t ih =>
    show (Jvm.Cond.and c (allAtoms t)).before a st = _
    rw [Jvm.Cond.before_and, ih, List.all_cons]
def words1 : List Jvm.Cond := Jvm.Cond.code x code maxLocals ret :: tables_1
/-- a 'code' word, met by the world's own term for the bytes: nothing is compared byte by byte -/
theorem code_word {y : MethodName} {bytes : ByteArray} {mx : Nat} {rt : Option FieldType} {a : Array Value} {s : State} {m : MethodId} {meth : Method} {c : Code} (h1 : s.methodNamed? y = some m) (h2 : s.vm.method? m = some meth) (h3 : meth.code = some c) (h4 : c.code = bytes)
    (h5 : (c.maxLocals == mx && c.exceptionTable.isEmpty && decide (c.maxStack ≤ mostOperands) && decide (meth.sig.returnType = rt) && !meth.locks && decide (parseMethodDescriptor y.desc = some meth.sig)) = true) : (Jvm.Cond.code y bytes mx rt).before a s = true := by
  simp only [Bool.and_eq_true, beq_iff_eq, Bool.not_eq_true', decide_eq_true_eq] at h5
  obtain ⟨⟨⟨⟨⟨g1, g2⟩, g3⟩, g4⟩, g5⟩, g6⟩ := h5
  simp [Cond.before, Cond.holds, Cond.value, h1, h2, h3, h4, g1, g2, g3, g4, g5, g6]
def isCode : Jvm.Cond → Bool
  | .code _ _ _ _ => true
  | _ => false
theorem all_split {L : List Jvm.Cond} {P : Jvm.Cond → Bool} (h1 : L.all (fun c => isCode c || P c) = true) (h2 : ∀ c ∈ L.filter isCode, P c = true) : L.all P = true := by
  refine List.all_eq_true.mpr fun c hc => ?_
  have h := List.all_eq_true.mp h1 c hc
  rcases Bool.eq_false_or_eq_true (isCode c) with hi | hi
  · exact h2 c (List.mem_filter.mpr ⟨hc, hi⟩)
  · simpa [hi] using h
set_option maxRecDepth 65536 in
theorem w_c0 : (Jvm.Cond.code x code maxLocals ret).before args0 about1 = true := code_word (m := ⟨1, 1⟩) (meth := k1m1) (c := k1c1) (by decide +kernel) rfl rfl rfl (by decide +kernel)
set_option maxRecDepth 65536 in
theorem w_c1 : (Jvm.Cond.code ({ cls := "java/lang/Math", name := "max", desc := "(II)I" } : Jvm.MethodName) jdk_29_method_65_code (2 : Nat) (Option.some Jvm.ClassFile.FieldType.int)).before args0 about1 = true := code_word (m := ⟨2, 1⟩) (meth := k2m1) (c := k2c1) (by decide +kernel) rfl rfl rfl (by decide +kernel)
set_option maxRecDepth 65536 in
theorem w_c2 : (Jvm.Cond.code ({ cls := "com/example/menhaden/menhaden/ShareLimit", name := "<init>", desc := "([IID)V" } : Jvm.MethodName) prog_3_method_1_code (5 : Nat) (Option.none : Option Jvm.ClassFile.FieldType)).before args0 about1 = true := code_word (m := ⟨3, 0⟩) (meth := k3m0) (c := k3c0) (by decide +kernel) rfl rfl rfl (by decide +kernel)
set_option maxRecDepth 65536 in
theorem w_c3 : (Jvm.Cond.code ({ cls := "java/lang/Object", name := "<init>", desc := "()V" } : Jvm.MethodName) object_method_1_code (1 : Nat) (Option.none : Option Jvm.ClassFile.FieldType)).before args0 about1 = true := code_word (m := ⟨0, 0⟩) (meth := k0m0) (c := k0c0) (by decide +kernel) rfl rfl rfl (by decide +kernel)
set_option maxRecDepth 65536 in
theorem w_c4 : (Jvm.Cond.code ({ cls := "com/example/menhaden/menhaden/ShareLimit", name := "allows", desc := "(II)Z" } : Jvm.MethodName) prog_3_method_8_code (3 : Nat) (Option.some Jvm.ClassFile.FieldType.boolean)).before args0 about1 = true := code_word (m := ⟨3, 1⟩) (meth := k3m1) (c := k3c1) (by decide +kernel) rfl rfl rfl (by decide +kernel)
def codes1 : List Jvm.Cond := [Jvm.Cond.code x code maxLocals ret, Jvm.Cond.code ({ cls := "java/lang/Math", name := "max", desc := "(II)I" } : Jvm.MethodName) jdk_29_method_65_code (2 : Nat) (Option.some Jvm.ClassFile.FieldType.int), Jvm.Cond.code ({ cls := "com/example/menhaden/menhaden/ShareLimit", name := "<init>", desc := "([IID)V" } : Jvm.MethodName) prog_3_method_1_code (5 : Nat) (Option.none : Option Jvm.ClassFile.FieldType), Jvm.Cond.code ({ cls := "java/lang/Object", name := "<init>", desc := "()V" } : Jvm.MethodName) object_method_1_code (1 : Nat) (Option.none : Option Jvm.ClassFile.FieldType), Jvm.Cond.code ({ cls := "com/example/menhaden/menhaden/ShareLimit", name := "allows", desc := "(II)Z" } : Jvm.MethodName) prog_3_method_8_code (3 : Nat) (Option.some Jvm.ClassFile.FieldType.boolean)]
set_option maxRecDepth 65536 in
theorem codes_eq : words1.filter isCode = codes1 := rfl
theorem w_codes : ∀ c ∈ words1.filter isCode, c.before args0 about1 = true := by
  rw [codes_eq]
  intro c hc
  simp only [codes1, List.mem_cons, List.not_mem_nil, or_false] at hc
  rcases hc with rfl | rfl | rfl | rfl | rfl
  · exact w_c0
  · exact w_c1
  · exact w_c2
  · exact w_c3
  · exact w_c4
set_option maxRecDepth 65536 in
theorem w_t1 : (words1.take 24).all (fun c => isCode c || c.before args0 about1) = true := by decide +kernel
set_option maxRecDepth 65536 in
theorem w_t2 : (words1.drop 24).all (fun c => isCode c || c.before args0 about1) = true := by decide +kernel
theorem w_tables : (allAtoms (Jvm.Cond.code x code maxLocals ret :: tables_1)).before args0 about1 = true := by
  rw [allAtoms_all]
  show words1.all (fun c => c.before args0 about1) = true
  refine all_split ?_ w_codes
  rw [← List.take_append_drop 24 words1, List.all_append, w_t1, w_t2]
  rfl
set_option maxRecDepth 65536 in
theorem w_case : (Jvm.Cond.and given_1 narrow_1).before args0 about1 = true := by decide +kernel
theorem w_applies : (headSpec (Jvm.Cond.code x code maxLocals ret :: tables_1) room_1).applies x e0.platform about1 = true :=
  (Spec.applies_iff w_frames).mpr ⟨w_running, w_runnable, w_alone, w_named, w_hears, w_ripe, w_room, w_tables⟩
theorem atStart : AtStart classFile x code maxLocals ret World_1 tables_1 room_1 Calls_1 rest_1 Pre_1 launch0 p0 e0 about1 theMethod args0 below0 :=
  ⟨lists_1, trivial, launch0.admits_env _ _ _, launch0.least_env, fairChoices_fair.cas, fairChoices_fair.clock, w_frames, w_args, w_heap, w_applies, trivial, trivial, w_case⟩
end start1
theorem witness_1 : WitnessClaimed_1 := ⟨start1.p0, start1.e0, start1.about1, start1.theMethod, start1.args0, start1.below0, start1.atStart⟩
end Jvm.Pilot.@@N@@
