import JvmDerived
import JvmDerived.Pilot.@@N@@Statement
import JvmDerived.Pilot.@@N@@Code
set_option linter.unusedVariables false
set_option linter.unusedSimpArgs false
namespace Jvm.Pilot.@@N@@
open Jvm Jvm.ClassFile Sem Op Lib Jvm.Free Jvm.Stand Jvm.LawKit Jvm.RoadKit Bundle Jvm.Pilot.@@N@@.Jvm.D
/-! A small walker over the library's laws (own text): objects made by the law are kept as a list H; the object k lies at the address n0 + k. -/
abbrev GLay : Type := String × List (String × String × String × FieldType)
abbrev GObj : Type := (GLay × List Value) ⊕ (FieldType × List Value)
abbrev GM : Type := MethodName × ByteArray × Nat × Option FieldType
def LayOk (Z : State) (a0 : Array Value) (K : GLay) : Prop :=
  (∃ kk, (Jvm.Cond.instantiable K.1 kk).before a0 Z = true) ∧ (∀ q ∈ K.2, Laid Z a0 K.1 q.1 q.2.1 q.2.2.1 ∧ parseFieldDescriptor q.2.2.1 = some q.2.2.2) ∧ (K.2.map fun q => q.2.1).Nodup
def Ob (Z : State) (a0 : Array Value) (h : Heap) (a : Addr) : GObj → Prop
  | .inl (K, vs) => LayOk Z a0 K ∧ Exa Z h a K.1 ∧ ∀ (i : Nat) (q : String × String × String × FieldType) (v : Value), K.2[i]? = some q → vs[i]? = some v → Fld Z h a q.1 q.2.1 q.2.2.1 v
  | .inr (ty, vs) => ∃ c : Cell, Arr Z h a c ty ∧ c.slots = vs.toArray ∧ (∀ v ∈ vs, fits ty v = true) ∧ Exa Z h a ("[" ++ ty.toString) ∧ ∀ C, ty = .object C → Ovr Z c.cls C
theorem Ob.ext {Z : State} {a0 : Array Value} {h h' : Heap} {a : Addr} {o : GObj} (E : Ext h h') (F : Ob Z a0 h a o) : Ob Z a0 h' a o := by
  rcases o with ⟨K, vs⟩ | ⟨ty, vs⟩
  · exact ⟨F.1, F.2.1.ext E, fun i q v h1 h2 => (F.2.2 i q v h1 h2).ext E⟩
  · obtain ⟨c, h1, h2, h3, h4, h5⟩ := F
    exact ⟨c, h1.ext E, h2, h3, h4.ext E, h5⟩
theorem Ob.other {Z : State} {a0 : Array Value} {h h' : Heap} {a b : Addr} {sl : Nat} {v : Value} {o : GObj} (W : Wr h h' b sl v) (ne : a ≠ b) (F : Ob Z a0 h a o) : Ob Z a0 h' a o := by
  rcases o with ⟨K, vs⟩ | ⟨ty, vs⟩
  · exact ⟨F.1, F.2.1.wr W, fun i q v h1 h2 => (F.2.2 i q v h1 h2).other W (Or.inl ne)⟩
  · obtain ⟨c, h1, h2, h3, h4, h5⟩ := F
    exact ⟨c, h1.other W ne, h2, h3, h4.wr W, h5⟩
def Sat (Z : State) (a0 : Array Value) (n0 : Nat) (h : Heap) (H : List GObj) : Prop :=
  Z.heap.size = n0 ∧ Ext Z.heap h ∧ h.size = n0 + H.length ∧ ∀ (k : Nat) (o : GObj), H[k]? = some o → Ob Z a0 h (n0 + k) o
theorem Sat.push {Z : State} {a0 : Array Value} {n0 : Nat} {h h' : Heap} {H : List GObj} {o : GObj} (S : Sat Z a0 n0 h H) (E : Ext h h') (hs : h'.size = h.size + 1) (F : Ob Z a0 h' h.size o) : Sat Z a0 n0 h' (H ++ [o]) := by
  obtain ⟨s1, s2, s3, s4⟩ := S
  refine ⟨s1, ⟨Nat.le_trans s2.1 E.1, fun a c q => E.2 a c (s2.2 a c q)⟩, by simp [hs, s3]; omega, fun k o' hk => ?_⟩
  rcases Nat.lt_trichotomy k H.length with q | q | q
  · rw [List.getElem?_append_left q] at hk
    exact (s4 k o' hk).ext E
  · subst q
    simp at hk
    subst hk
    rw [← s3]; exact F
  · rw [List.getElem?_eq_none (by simp; omega)] at hk; cases hk
theorem Sat.put {Z : State} {a0 : Array Value} {n0 : Nat} {h h' : Heap} {H : List GObj} {k sl : Nat} {v : Value} {o : GObj} (S : Sat Z a0 n0 h H) (W : Wr h h' (n0 + k) sl v) (F : Ob Z a0 h' (n0 + k) o) : Sat Z a0 n0 h' (H.set k o) := by
  obtain ⟨s1, s2, s3, s4⟩ := S
  refine ⟨s1, ⟨by rw [W.size]; exact s2.1, fun a c q => ?_⟩, by rw [W.size, s3]; simp, fun j o' hj => ?_⟩
  · obtain ⟨c', e1, -, -, -, e5, -⟩ := wr_at W (s2.2 a c q)
    have hlt := (Array.getElem?_eq_some_iff.mp q).1
    rw [← e5 (by intro q; subst q; rw [s1] at hlt; exact absurd hlt (by exact Nat.not_lt.mpr (Nat.le_add_right _ _)))]; exact e1
  · rw [List.getElem?_set] at hj
    split at hj
    · rename_i e
      subst e
      split at hj
      · cases hj; exact F
      · cases hj
    · rename_i ne
      exact (s4 j o' hj).other W (fun q => ne (Nat.add_left_cancel q).symm)
theorem Sat.lt {Z : State} {a0 : Array Value} {n0 : Nat} {h : Heap} {H : List GObj} (S : Sat Z a0 n0 h H) {k : Nat} {o : GObj} (q : H[k]? = some o) : n0 + k < h.size := by
  have := (List.getElem?_eq_some_iff.mp q).1
  have := S.2.2.1
  omega
/-- what a walk's frame stands in -/
def Cx (Z : State) (M : GM) (p : Program) (s : State) (m : MethodId) (meth : Method) (c : Code) : Prop :=
  p.tables.exec = Jvm.exec ∧ Z.Warmed39 s.vm ∧ c.code = M.2.1 ∧ c.maxLocals = M.2.2.1 ∧ meth.sig.returnType = M.2.2.2 ∧ meth.locks = false ∧ s.vm.findClass M.1.cls = some m.cls ∧ meth.name = M.1.name
def End (Z : State) (a0 : Array Value) (n0 : Nat) (R : Room) (Q : Option Value → List GObj → Prop) (p : Program) (e : Env) (s : State) (below : List Frame) (S0 : State) : Prop :=
  ∃ s₂ o, Steps p.tables e below S0 s₂ ∧ s₂.status = .running ∧ Ended s₂ below o ∧ ∃ v L', o = .returned v ∧ (∃ H', Q v H' ∧ Sat Z a0 n0 s₂.heap H' ∧ Fr n0 L') ∧ FrameEnd s o s₂ L' R.cells R.slots
theorem End.back {Z : State} {a0 : Array Value} {n0 : Nat} {R : Room} {Q : Option Value → List GObj → Prop} {p : Program} {e : Env} {s : State} {below : List Frame} {S0 S1 : State} (st : ∀ t, Steps p.tables e below S1 t → Steps p.tables e below S0 t) (h : End Z a0 n0 R Q p e s below S1) : End Z a0 n0 R Q p e s below S0 := by
  obtain ⟨s₂, o, h1, r⟩ := h
  exact ⟨s₂, o, st _ h1, r⟩
/-- from this point the walk comes to its end, and what it leaves meets Q -/
def Go (Z : State) (a0 : Array Value) (n0 : Nat) (M : GM) (R : Room) (Q : Option Value → List GObj → Prop) (pc : Nat) (L : List Slot) (st : List Value) (H : List GObj) (ce sl : Nat) : Prop :=
  ∀ (p : Program) (l : Launch) (e : Env) (s : State) (m : MethodId) (args : Array Value) (below : List Frame) (meth : Method) (c : Code) (T : State) (locs : List Loc),
    Stand p l e R s m args below meth c T locs ce sl → Cx Z M p s m meth c → Sat Z a0 n0 T.heap H → s.heap.size + ce = n0 + H.length → Fr n0 locs → End Z a0 n0 R Q p e s below (T.setTop (mkF m pc L.toArray st))
/-- the instruction at pc, its length, what lies behind -/
def Ins (M : GM) (pc : Nat) (i : Instr) (n pc' : Nat) : Prop := decode M.2.1 pc = .ok (i, n) ∧ pc + n = pc'
section Rules
variable {Z : State} {a0 : Array Value} {n0 : Nat} {M : GM} {R : Room} {Q : Option Value → List GObj → Prop} {pc pc' : Nat} {L : List Slot} {st : List Value} {H : List GObj} {ce sl : Nat}
theorem go_pure {L' : List Slot} {st' : List Value} (hs : ∀ (p : Program) (e : Env) (m : MethodId) (below : List Frame) (c : Code) (T t : State), At T m c below → p.tables.exec = Jvm.exec → c.code = M.2.1 → Steps p.tables e below (T.setTop (mkF m pc' L'.toArray st')) t → Steps p.tables e below (T.setTop (mkF m pc L.toArray st)) t)
    (h : Go Z a0 n0 M R Q pc' L' st' H ce sl) : Go Z a0 n0 M R Q pc L st H ce sl := fun p l e s m args below meth c T locs X C S E F =>
  (h p l e s m args below meth c T locs X C S E F).back fun t k => hs p e m below c T t X.here C.1 C.2.2.1 k
end Rules
section Rules
variable {Z : State} {a0 : Array Value} {n0 : Nat} {M : GM} {R : Room} {Q : Option Value → List GObj → Prop} {pc pc' : Nat} {L : List Slot} {st : List Value} {H : List GObj} {ce sl : Nat}
theorem go_aloadN {k : Fin 4} {v : Addr} (hd : Ins M pc (.aload_n k) 1 pc') (hl : L[k.val]? = some (.val (.ref v))) (h : Go Z a0 n0 M R Q pc' L (.ref v :: st) H ce sl) : Go Z a0 n0 M R Q pc L st H ce sl := by
  obtain ⟨hd, rfl⟩ := hd
  exact go_pure (fun p e m below c T t hA hx hy k => XS.aloadN hA hx rfl (hb hy hd) (by simpa using hl) rfl k) h
theorem go_aload {k : Nat} {v : Addr} (hd : Ins M pc (.aload k) 2 pc') (hl : L[k]? = some (.val (.ref v))) (h : Go Z a0 n0 M R Q pc' L (.ref v :: st) H ce sl) : Go Z a0 n0 M R Q pc L st H ce sl := by
  obtain ⟨hd, rfl⟩ := hd
  exact go_pure (fun p e m below c T t hA hx hy k => XS.aload hA hx rfl (hb hy hd) (by simpa using hl) rfl k) h
theorem go_aloadNull {k : Fin 4} (hd : Ins M pc (.aload_n k) 1 pc') (hl : L[k.val]? = some (.val .null)) (h : Go Z a0 n0 M R Q pc' L (.null :: st) H ce sl) : Go Z a0 n0 M R Q pc L st H ce sl := by
  obtain ⟨hd, rfl⟩ := hd
  exact go_pure (fun p e m below c T t hA hx hy k => XS.aloadN hA hx rfl (hb hy hd) (by simpa using hl) rfl k) h
theorem go_iloadN {k : Fin 4} {v : Int32} (hd : Ins M pc (.iload_n k) 1 pc') (hl : L[k.val]? = some (.val (.int v))) (h : Go Z a0 n0 M R Q pc' L (.int v :: st) H ce sl) : Go Z a0 n0 M R Q pc L st H ce sl := by
  obtain ⟨hd, rfl⟩ := hd
  exact go_pure (fun p e m below c T t hA hx hy k => XS.iloadN hA hx rfl (hb hy hd) (by simpa using hl) k) h
theorem go_iload {k : Nat} {v : Int32} (hd : Ins M pc (.iload k) 2 pc') (hl : L[k]? = some (.val (.int v))) (h : Go Z a0 n0 M R Q pc' L (.int v :: st) H ce sl) : Go Z a0 n0 M R Q pc L st H ce sl := by
  obtain ⟨hd, rfl⟩ := hd
  exact go_pure (fun p e m below c T t hA hx hy k => XS.iload hA hx rfl (hb hy hd) (by simpa using hl) k) h
theorem go_lloadN {k : Fin 4} {v : Int64} (hd : Ins M pc (.lload_n k) 1 pc') (hl : L[k.val]? = some (.val (.long v))) (h : Go Z a0 n0 M R Q pc' L (.long v :: st) H ce sl) : Go Z a0 n0 M R Q pc L st H ce sl := by
  obtain ⟨hd, rfl⟩ := hd
  exact go_pure (fun p e m below c T t hA hx hy k => XT.lloadN hA hx rfl (hb hy hd) (by simpa using hl) k) h
theorem go_lload {k : Nat} {v : Int64} (hd : Ins M pc (.lload k) 2 pc') (hl : L[k]? = some (.val (.long v))) (h : Go Z a0 n0 M R Q pc' L (.long v :: st) H ce sl) : Go Z a0 n0 M R Q pc L st H ce sl := by
  obtain ⟨hd, rfl⟩ := hd
  exact go_pure (fun p e m below c T t hA hx hy k => XT.lload hA hx rfl (hb hy hd) (by simpa using hl) k) h
theorem go_iconst {i : Int} {v : Int32} (hd : Ins M pc (.iconst i) 1 pc') (hv : Int32.ofInt i = v) (h : Go Z a0 n0 M R Q pc' L (.int v :: st) H ce sl) : Go Z a0 n0 M R Q pc L st H ce sl := by
  obtain ⟨hd, rfl⟩ := hd
  exact go_pure (fun p e m below c T t hA hx hy k => XS.iconst hA hx rfl (hb hy hd) (by rw [hv]; exact k)) h
theorem go_bipush {i : Int} {v : Int32} (hd : Ins M pc (.bipush i) 2 pc') (hv : (Int8.ofInt i).toInt32 = v) (h : Go Z a0 n0 M R Q pc' L (.int v :: st) H ce sl) : Go Z a0 n0 M R Q pc L st H ce sl := by
  obtain ⟨hd, rfl⟩ := hd
  exact go_pure (fun p e m below c T t hA hx hy k => XS.bipush hA hx rfl (hb hy hd) (by rw [hv]; exact k)) h
theorem go_sipush {i : Int} {v : Int32} (hd : Ins M pc (.sipush i) 3 pc') (hv : (Int16.ofInt i).toInt32 = v) (h : Go Z a0 n0 M R Q pc' L (.int v :: st) H ce sl) : Go Z a0 n0 M R Q pc L st H ce sl := by
  obtain ⟨hd, rfl⟩ := hd
  exact go_pure (fun p e m below c T t hA hx hy k => XS.sipush hA hx rfl (hb hy hd) (by rw [hv]; exact k)) h
theorem go_lconst {i : Fin 2} {v : Int64} (hd : Ins M pc (.lconst i) 1 pc') (hv : Int64.ofNat i = v) (h : Go Z a0 n0 M R Q pc' L (.long v :: st) H ce sl) : Go Z a0 n0 M R Q pc L st H ce sl := by
  obtain ⟨hd, rfl⟩ := hd
  exact go_pure (fun p e m below c T t hA hx hy k => XT.lconst hA hx rfl (hb hy hd) (by rw [hv]; exact k)) h
theorem go_aconstNull  (hd : Ins M pc (.aconst_null) 1 pc') (h : Go Z a0 n0 M R Q pc' L (.null :: st) H ce sl) : Go Z a0 n0 M R Q pc L st H ce sl := by
  obtain ⟨hd, rfl⟩ := hd
  exact go_pure (fun p e m below c T t hA hx hy k => XS.aconstNull hA hx rfl (hb hy hd) k) h
theorem go_iadd {x y : Int32} (hd : Ins M pc (.iadd) 1 pc') (h : Go Z a0 n0 M R Q pc' L (.int (x + y) :: st) H ce sl) : Go Z a0 n0 M R Q pc L (.int y :: .int x :: st) H ce sl := by
  obtain ⟨hd, rfl⟩ := hd
  exact go_pure (fun p e m below c T t hA hx hy k => XS.iadd hA hx rfl (hb hy hd) rfl k) h
theorem go_isub {x y : Int32} (hd : Ins M pc (.isub) 1 pc') (h : Go Z a0 n0 M R Q pc' L (.int (x - y) :: st) H ce sl) : Go Z a0 n0 M R Q pc L (.int y :: .int x :: st) H ce sl := by
  obtain ⟨hd, rfl⟩ := hd
  exact go_pure (fun p e m below c T t hA hx hy k => XS.isub hA hx rfl (hb hy hd) rfl k) h
theorem go_imul {x y : Int32} (hd : Ins M pc (.imul) 1 pc') (h : Go Z a0 n0 M R Q pc' L (.int (x * y) :: st) H ce sl) : Go Z a0 n0 M R Q pc L (.int y :: .int x :: st) H ce sl := by
  obtain ⟨hd, rfl⟩ := hd
  exact go_pure (fun p e m below c T t hA hx hy k => XS.imul hA hx rfl (hb hy hd) rfl k) h
theorem go_iand {x y : Int32} (hd : Ins M pc (.iand) 1 pc') (h : Go Z a0 n0 M R Q pc' L (.int (x &&& y) :: st) H ce sl) : Go Z a0 n0 M R Q pc L (.int y :: .int x :: st) H ce sl := by
  obtain ⟨hd, rfl⟩ := hd
  exact go_pure (fun p e m below c T t hA hx hy k => XS.iand hA hx rfl (hb hy hd) rfl k) h
theorem go_ior {x y : Int32} (hd : Ins M pc (.ior) 1 pc') (h : Go Z a0 n0 M R Q pc' L (.int (x ||| y) :: st) H ce sl) : Go Z a0 n0 M R Q pc L (.int y :: .int x :: st) H ce sl := by
  obtain ⟨hd, rfl⟩ := hd
  exact go_pure (fun p e m below c T t hA hx hy k => XT.ior hA hx rfl (hb hy hd) rfl k) h
theorem go_ixor {x y : Int32} (hd : Ins M pc (.ixor) 1 pc') (h : Go Z a0 n0 M R Q pc' L (.int (x ^^^ y) :: st) H ce sl) : Go Z a0 n0 M R Q pc L (.int y :: .int x :: st) H ce sl := by
  obtain ⟨hd, rfl⟩ := hd
  exact go_pure (fun p e m below c T t hA hx hy k => XT.ixor hA hx rfl (hb hy hd) rfl k) h
theorem go_ishl {x y : Int32} (hd : Ins M pc (.ishl) 1 pc') (h : Go Z a0 n0 M R Q pc' L (.int (x <<< (y &&& 31)) :: st) H ce sl) : Go Z a0 n0 M R Q pc L (.int y :: .int x :: st) H ce sl := by
  obtain ⟨hd, rfl⟩ := hd
  exact go_pure (fun p e m below c T t hA hx hy k => XT.ishl hA hx rfl (hb hy hd) rfl k) h
theorem go_ishr {x y : Int32} (hd : Ins M pc (.ishr) 1 pc') (h : Go Z a0 n0 M R Q pc' L (.int (x >>> (y &&& 31)) :: st) H ce sl) : Go Z a0 n0 M R Q pc L (.int y :: .int x :: st) H ce sl := by
  obtain ⟨hd, rfl⟩ := hd
  exact go_pure (fun p e m below c T t hA hx hy k => XT.ishr hA hx rfl (hb hy hd) rfl k) h
theorem go_iushr {x y : Int32} (hd : Ins M pc (.iushr) 1 pc') (h : Go Z a0 n0 M R Q pc' L (.int (XT.ushr x y) :: st) H ce sl) : Go Z a0 n0 M R Q pc L (.int y :: .int x :: st) H ce sl := by
  obtain ⟨hd, rfl⟩ := hd
  exact go_pure (fun p e m below c T t hA hx hy k => XT.iushr hA hx rfl (hb hy hd) rfl k) h
theorem go_idiv {x y : Int32} (hd : Ins M pc (.idiv) 1 pc') (hn : y ≠ 0) (h : Go Z a0 n0 M R Q pc' L (.int (x / y) :: st) H ce sl) : Go Z a0 n0 M R Q pc L (.int y :: .int x :: st) H ce sl := by
  obtain ⟨hd, rfl⟩ := hd
  exact go_pure (fun p e m below c T t hA hx hy k => XS.idiv hA hx rfl (hb hy hd) rfl hn k) h
theorem go_irem {x y : Int32} (hd : Ins M pc (.irem) 1 pc') (hn : y ≠ 0) (h : Go Z a0 n0 M R Q pc' L (.int (x % y) :: st) H ce sl) : Go Z a0 n0 M R Q pc L (.int y :: .int x :: st) H ce sl := by
  obtain ⟨hd, rfl⟩ := hd
  exact go_pure (fun p e m below c T t hA hx hy k => XS.irem hA hx rfl (hb hy hd) rfl hn (by rw [irem_eq_mod]; exact k)) h
theorem go_ineg {x : Int32} (hd : Ins M pc (.ineg) 1 pc') (h : Go Z a0 n0 M R Q pc' L (.int (-x) :: st) H ce sl) : Go Z a0 n0 M R Q pc L (.int x :: st) H ce sl := by
  obtain ⟨hd, rfl⟩ := hd
  exact go_pure (fun p e m below c T t hA hx hy k => XS.ineg hA hx rfl (hb hy hd) rfl k) h
theorem go_ladd {x y : Int64} (hd : Ins M pc (.ladd) 1 pc') (h : Go Z a0 n0 M R Q pc' L (.long (x + y) :: st) H ce sl) : Go Z a0 n0 M R Q pc L (.long y :: .long x :: st) H ce sl := by
  obtain ⟨hd, rfl⟩ := hd
  exact go_pure (fun p e m below c T t hA hx hy k => XT.ladd hA hx rfl (hb hy hd) rfl k) h
theorem go_lsub {x y : Int64} (hd : Ins M pc (.lsub) 1 pc') (h : Go Z a0 n0 M R Q pc' L (.long (x - y) :: st) H ce sl) : Go Z a0 n0 M R Q pc L (.long y :: .long x :: st) H ce sl := by
  obtain ⟨hd, rfl⟩ := hd
  exact go_pure (fun p e m below c T t hA hx hy k => XT.lsub hA hx rfl (hb hy hd) rfl k) h
theorem go_lmul {x y : Int64} (hd : Ins M pc (.lmul) 1 pc') (h : Go Z a0 n0 M R Q pc' L (.long (x * y) :: st) H ce sl) : Go Z a0 n0 M R Q pc L (.long y :: .long x :: st) H ce sl := by
  obtain ⟨hd, rfl⟩ := hd
  exact go_pure (fun p e m below c T t hA hx hy k => XT.lmul hA hx rfl (hb hy hd) rfl k) h
theorem go_land {x y : Int64} (hd : Ins M pc (.land) 1 pc') (h : Go Z a0 n0 M R Q pc' L (.long (x &&& y) :: st) H ce sl) : Go Z a0 n0 M R Q pc L (.long y :: .long x :: st) H ce sl := by
  obtain ⟨hd, rfl⟩ := hd
  exact go_pure (fun p e m below c T t hA hx hy k => XT.land hA hx rfl (hb hy hd) rfl k) h
theorem go_lor {x y : Int64} (hd : Ins M pc (.lor) 1 pc') (h : Go Z a0 n0 M R Q pc' L (.long (x ||| y) :: st) H ce sl) : Go Z a0 n0 M R Q pc L (.long y :: .long x :: st) H ce sl := by
  obtain ⟨hd, rfl⟩ := hd
  exact go_pure (fun p e m below c T t hA hx hy k => XT.lor hA hx rfl (hb hy hd) rfl k) h
theorem go_lxor {x y : Int64} (hd : Ins M pc (.lxor) 1 pc') (h : Go Z a0 n0 M R Q pc' L (.long (x ^^^ y) :: st) H ce sl) : Go Z a0 n0 M R Q pc L (.long y :: .long x :: st) H ce sl := by
  obtain ⟨hd, rfl⟩ := hd
  exact go_pure (fun p e m below c T t hA hx hy k => XT.lxor hA hx rfl (hb hy hd) rfl k) h
theorem go_lshl {x : Int64} {y : Int32} (hd : Ins M pc (.lshl) 1 pc') (h : Go Z a0 n0 M R Q pc' L (.long (x <<< (y.toInt64 &&& 63)) :: st) H ce sl) : Go Z a0 n0 M R Q pc L (.int y :: .long x :: st) H ce sl := by
  obtain ⟨hd, rfl⟩ := hd
  exact go_pure (fun p e m below c T t hA hx hy k => XT.lshl hA hx rfl (hb hy hd) rfl k) h
theorem go_lshr {x : Int64} {y : Int32} (hd : Ins M pc (.lshr) 1 pc') (h : Go Z a0 n0 M R Q pc' L (.long (x >>> (y.toInt64 &&& 63)) :: st) H ce sl) : Go Z a0 n0 M R Q pc L (.int y :: .long x :: st) H ce sl := by
  obtain ⟨hd, rfl⟩ := hd
  exact go_pure (fun p e m below c T t hA hx hy k => XT.lshr hA hx rfl (hb hy hd) rfl k) h
theorem go_lushr {x : Int64} {y : Int32} (hd : Ins M pc (.lushr) 1 pc') (h : Go Z a0 n0 M R Q pc' L (.long (XT.ushrL x y) :: st) H ce sl) : Go Z a0 n0 M R Q pc L (.int y :: .long x :: st) H ce sl := by
  obtain ⟨hd, rfl⟩ := hd
  exact go_pure (fun p e m below c T t hA hx hy k => XT.lushr hA hx rfl (hb hy hd) rfl k) h
theorem go_lcmp {x y : Int64} (hd : Ins M pc (.lcmp) 1 pc') (h : Go Z a0 n0 M R Q pc' L (.int (XT.cmpL x y) :: st) H ce sl) : Go Z a0 n0 M R Q pc L (.long y :: .long x :: st) H ce sl := by
  obtain ⟨hd, rfl⟩ := hd
  exact go_pure (fun p e m below c T t hA hx hy k => XT.lcmp hA hx rfl (hb hy hd) rfl k) h
theorem go_lneg {x : Int64} (hd : Ins M pc (.lneg) 1 pc') (h : Go Z a0 n0 M R Q pc' L (.long (-x) :: st) H ce sl) : Go Z a0 n0 M R Q pc L (.long x :: st) H ce sl := by
  obtain ⟨hd, rfl⟩ := hd
  exact go_pure (fun p e m below c T t hA hx hy k => XT.lneg hA hx rfl (hb hy hd) rfl k) h
theorem go_i2l {x : Int32} (hd : Ins M pc (.i2l) 1 pc') (h : Go Z a0 n0 M R Q pc' L (.long x.toInt64 :: st) H ce sl) : Go Z a0 n0 M R Q pc L (.int x :: st) H ce sl := by
  obtain ⟨hd, rfl⟩ := hd
  exact go_pure (fun p e m below c T t hA hx hy k => XT.i2l hA hx rfl (hb hy hd) rfl k) h
theorem go_l2i {x : Int64} (hd : Ins M pc (.l2i) 1 pc') (h : Go Z a0 n0 M R Q pc' L (.int x.toInt32 :: st) H ce sl) : Go Z a0 n0 M R Q pc L (.long x :: st) H ce sl := by
  obtain ⟨hd, rfl⟩ := hd
  exact go_pure (fun p e m below c T t hA hx hy k => XT.l2i hA hx rfl (hb hy hd) rfl k) h
theorem go_i2b {x : Int32} (hd : Ins M pc (.i2b) 1 pc') (h : Go Z a0 n0 M R Q pc' L (.int x.toInt8.toInt32 :: st) H ce sl) : Go Z a0 n0 M R Q pc L (.int x :: st) H ce sl := by
  obtain ⟨hd, rfl⟩ := hd
  exact go_pure (fun p e m below c T t hA hx hy k => XT.i2b hA hx rfl (hb hy hd) rfl k) h
theorem go_i2c {x : Int32} (hd : Ins M pc (.i2c) 1 pc') (h : Go Z a0 n0 M R Q pc' L (.int x.toUInt32.toUInt16.toUInt32.toInt32 :: st) H ce sl) : Go Z a0 n0 M R Q pc L (.int x :: st) H ce sl := by
  obtain ⟨hd, rfl⟩ := hd
  exact go_pure (fun p e m below c T t hA hx hy k => XT.i2c hA hx rfl (hb hy hd) rfl k) h
theorem go_dup {x : Value} (hd : Ins M pc (.dup) 1 pc') (hc : x.category = 1) (h : Go Z a0 n0 M R Q pc' L (x :: x :: st) H ce sl) : Go Z a0 n0 M R Q pc L (x :: st) H ce sl := by
  obtain ⟨hd, rfl⟩ := hd
  exact go_pure (fun p e m below c T t hA hx hy k => XS.dup hA hx rfl (hb hy hd) rfl hc k) h
theorem go_pop {x : Value} (hd : Ins M pc (.pop) 1 pc') (hc : x.category = 1) (h : Go Z a0 n0 M R Q pc' L st H ce sl) : Go Z a0 n0 M R Q pc L (x :: st) H ce sl := by
  obtain ⟨hd, rfl⟩ := hd
  exact go_pure (fun p e m below c T t hA hx hy k => XT.pop hA hx rfl (hb hy hd) rfl hc k) h
theorem go_dupX1 {x y : Value} (hd : Ins M pc (.dup_x1) 1 pc') (hc : x.category = 1) (hc' : y.category = 1) (h : Go Z a0 n0 M R Q pc' L (x :: y :: x :: st) H ce sl) : Go Z a0 n0 M R Q pc L (x :: y :: st) H ce sl := by
  obtain ⟨hd, rfl⟩ := hd
  exact go_pure (fun p e m below c T t hA hx hy k => XT.dupX1 hA hx rfl (hb hy hd) rfl hc hc' k) h
theorem go_dup2 {x y : Value} (hd : Ins M pc (.dup2) 1 pc') (hc : x.category = 1) (hc' : y.category = 1) (h : Go Z a0 n0 M R Q pc' L (x :: y :: x :: y :: st) H ce sl) : Go Z a0 n0 M R Q pc L (x :: y :: st) H ce sl := by
  obtain ⟨hd, rfl⟩ := hd
  exact go_pure (fun p e m below c T t hA hx hy k => XT.dup2 hA hx rfl (hb hy hd) rfl hc hc' k) h
theorem go_goto {o : Int} (t : Nat) (hd : Ins M pc (.goto o) 3 pc') (ht : (pc : Int) + o = (t : Int)) (h : Go Z a0 n0 M R Q t L st H ce sl) : Go Z a0 n0 M R Q pc L st H ce sl := by
  obtain ⟨hd, rfl⟩ := hd
  exact go_pure (fun p e m below c T u hA hx hy k => XS.goto hA hx rfl (pc0 := pc) (pc' := t) rfl (hb hy hd) (by omega) (by omega) k) h
theorem go_if {cd : ClassFile.Cond} {o : Int} {x : Int32} (t : Nat) (hd : Ins M pc (.ifCond cd o) 3 pc') (ht : (pc : Int) + o = (t : Int)) (h1 : ifCond.holds cd x = true → Go Z a0 n0 M R Q t L st H ce sl) (h2 : ifCond.holds cd x = false → Go Z a0 n0 M R Q pc' L st H ce sl) : Go Z a0 n0 M R Q pc L (.int x :: st) H ce sl := by
  obtain ⟨hd, rfl⟩ := hd
  cases hc : ifCond.holds cd x
  · exact go_pure (fun p e m below c T u hA hx hy k => XS.ifNo hA hx rfl (hb hy hd) rfl hc k) (h2 hc)
  · exact go_pure (fun p e m below c T u hA hx hy k => XS.ifYes hA hx rfl (pc0 := pc) (pc' := t) rfl (hb hy hd) rfl hc (by omega) (by omega) k) (h1 hc)
theorem go_icmp {cd : ClassFile.Cond} {o : Int} {x y : Int32} (t : Nat) (hd : Ins M pc (.if_icmp cd o) 3 pc') (ht : (pc : Int) + o = (t : Int)) (h1 : if_icmp.holds cd x y = true → Go Z a0 n0 M R Q t L st H ce sl) (h2 : if_icmp.holds cd x y = false → Go Z a0 n0 M R Q pc' L st H ce sl) : Go Z a0 n0 M R Q pc L (.int y :: .int x :: st) H ce sl := by
  obtain ⟨hd, rfl⟩ := hd
  cases hc : if_icmp.holds cd x y
  · exact go_pure (fun p e m below c T u hA hx hy k => XS.icmpNo hA hx rfl (hb hy hd) rfl hc k) (h2 hc)
  · exact go_pure (fun p e m below c T u hA hx hy k => XS.icmpYes hA hx rfl (pc0 := pc) (pc' := t) rfl (hb hy hd) rfl hc (by omega) (by omega) k) (h1 hc)
theorem go_icmpT {cd : ClassFile.Cond} {o : Int} {x y : Int32} (t : Nat) (hd : Ins M pc (.if_icmp cd o) 3 pc') (ht : (pc : Int) + o = (t : Int)) (hc : if_icmp.holds cd x y = true) (h : Go Z a0 n0 M R Q t L st H ce sl) : Go Z a0 n0 M R Q pc L (.int y :: .int x :: st) H ce sl := go_icmp t hd ht (fun _ => h) (fun q => by rw [hc] at q; cases q)
theorem go_icmpF {cd : ClassFile.Cond} {o : Int} {x y : Int32} (hd : Ins M pc (.if_icmp cd o) 3 pc') (hc : if_icmp.holds cd x y = false) (h : Go Z a0 n0 M R Q pc' L st H ce sl) : Go Z a0 n0 M R Q pc L (.int y :: .int x :: st) H ce sl := by
  obtain ⟨hd, rfl⟩ := hd
  exact go_pure (fun p e m below c T u hA hx hy k => XS.icmpNo hA hx rfl (hb hy hd) rfl hc k) h
theorem go_ifT {cd : ClassFile.Cond} {o : Int} {x : Int32} (t : Nat) (hd : Ins M pc (.ifCond cd o) 3 pc') (ht : (pc : Int) + o = (t : Int)) (hc : ifCond.holds cd x = true) (h : Go Z a0 n0 M R Q t L st H ce sl) : Go Z a0 n0 M R Q pc L (.int x :: st) H ce sl := go_if t hd ht (fun _ => h) (fun q => by rw [hc] at q; cases q)
theorem go_ifF {cd : ClassFile.Cond} {o : Int} {x : Int32} (hd : Ins M pc (.ifCond cd o) 3 pc') (hc : ifCond.holds cd x = false) (h : Go Z a0 n0 M R Q pc' L st H ce sl) : Go Z a0 n0 M R Q pc L (.int x :: st) H ce sl := by
  obtain ⟨hd, rfl⟩ := hd
  exact go_pure (fun p e m below c T u hA hx hy k => XS.ifNo hA hx rfl (hb hy hd) rfl hc k) h
theorem hold_lt (x y : Int32) : (if_icmp.holds .lt x y = true ↔ x < y) ∧ (if_icmp.holds .lt x y = false ↔ ¬ x < y) := by simp [if_icmp.holds, Int32.not_lt, Int32.not_le]
theorem go_icmp_lt {o : Int} {x y : Int32} (t : Nat) (hd : Ins M pc (.if_icmp .lt o) 3 pc') (ht : (pc : Int) + o = (t : Int)) (h1 : x < y → Go Z a0 n0 M R Q t L st H ce sl) (h2 : ¬ x < y → Go Z a0 n0 M R Q pc' L st H ce sl) : Go Z a0 n0 M R Q pc L (.int y :: .int x :: st) H ce sl :=
  go_icmp t hd ht (fun q => h1 ((hold_lt x y).1.mp q)) (fun q => h2 ((hold_lt x y).2.mp q))
theorem go_if_lt {o : Int} {x : Int32} (t : Nat) (hd : Ins M pc (.ifCond .lt o) 3 pc') (ht : (pc : Int) + o = (t : Int)) (h1 : x < 0 → Go Z a0 n0 M R Q t L st H ce sl) (h2 : ¬ x < 0 → Go Z a0 n0 M R Q pc' L st H ce sl) : Go Z a0 n0 M R Q pc L (.int x :: st) H ce sl :=
  go_if t hd ht (fun q => h1 ((hold_lt x 0).1.mp ((if0 _ _).symm.trans q))) (fun q => h2 ((hold_lt x 0).2.mp ((if0 _ _).symm.trans q)))
theorem hold_ge (x y : Int32) : (if_icmp.holds .ge x y = true ↔ ¬ x < y) ∧ (if_icmp.holds .ge x y = false ↔ x < y) := by simp [if_icmp.holds, Int32.not_lt, Int32.not_le]
theorem go_icmp_ge {o : Int} {x y : Int32} (t : Nat) (hd : Ins M pc (.if_icmp .ge o) 3 pc') (ht : (pc : Int) + o = (t : Int)) (h1 : ¬ x < y → Go Z a0 n0 M R Q t L st H ce sl) (h2 : x < y → Go Z a0 n0 M R Q pc' L st H ce sl) : Go Z a0 n0 M R Q pc L (.int y :: .int x :: st) H ce sl :=
  go_icmp t hd ht (fun q => h1 ((hold_ge x y).1.mp q)) (fun q => h2 ((hold_ge x y).2.mp q))
theorem go_if_ge {o : Int} {x : Int32} (t : Nat) (hd : Ins M pc (.ifCond .ge o) 3 pc') (ht : (pc : Int) + o = (t : Int)) (h1 : ¬ x < 0 → Go Z a0 n0 M R Q t L st H ce sl) (h2 : x < 0 → Go Z a0 n0 M R Q pc' L st H ce sl) : Go Z a0 n0 M R Q pc L (.int x :: st) H ce sl :=
  go_if t hd ht (fun q => h1 ((hold_ge x 0).1.mp ((if0 _ _).symm.trans q))) (fun q => h2 ((hold_ge x 0).2.mp ((if0 _ _).symm.trans q)))
theorem hold_gt (x y : Int32) : (if_icmp.holds .gt x y = true ↔ y < x) ∧ (if_icmp.holds .gt x y = false ↔ ¬ y < x) := by simp [if_icmp.holds, Int32.not_lt, Int32.not_le]
theorem go_icmp_gt {o : Int} {x y : Int32} (t : Nat) (hd : Ins M pc (.if_icmp .gt o) 3 pc') (ht : (pc : Int) + o = (t : Int)) (h1 : y < x → Go Z a0 n0 M R Q t L st H ce sl) (h2 : ¬ y < x → Go Z a0 n0 M R Q pc' L st H ce sl) : Go Z a0 n0 M R Q pc L (.int y :: .int x :: st) H ce sl :=
  go_icmp t hd ht (fun q => h1 ((hold_gt x y).1.mp q)) (fun q => h2 ((hold_gt x y).2.mp q))
theorem go_if_gt {o : Int} {x : Int32} (t : Nat) (hd : Ins M pc (.ifCond .gt o) 3 pc') (ht : (pc : Int) + o = (t : Int)) (h1 : 0 < x → Go Z a0 n0 M R Q t L st H ce sl) (h2 : ¬ 0 < x → Go Z a0 n0 M R Q pc' L st H ce sl) : Go Z a0 n0 M R Q pc L (.int x :: st) H ce sl :=
  go_if t hd ht (fun q => h1 ((hold_gt x 0).1.mp ((if0 _ _).symm.trans q))) (fun q => h2 ((hold_gt x 0).2.mp ((if0 _ _).symm.trans q)))
theorem hold_le (x y : Int32) : (if_icmp.holds .le x y = true ↔ ¬ y < x) ∧ (if_icmp.holds .le x y = false ↔ y < x) := by simp [if_icmp.holds, Int32.not_lt, Int32.not_le]
theorem go_icmp_le {o : Int} {x y : Int32} (t : Nat) (hd : Ins M pc (.if_icmp .le o) 3 pc') (ht : (pc : Int) + o = (t : Int)) (h1 : ¬ y < x → Go Z a0 n0 M R Q t L st H ce sl) (h2 : y < x → Go Z a0 n0 M R Q pc' L st H ce sl) : Go Z a0 n0 M R Q pc L (.int y :: .int x :: st) H ce sl :=
  go_icmp t hd ht (fun q => h1 ((hold_le x y).1.mp q)) (fun q => h2 ((hold_le x y).2.mp q))
theorem go_if_le {o : Int} {x : Int32} (t : Nat) (hd : Ins M pc (.ifCond .le o) 3 pc') (ht : (pc : Int) + o = (t : Int)) (h1 : ¬ 0 < x → Go Z a0 n0 M R Q t L st H ce sl) (h2 : 0 < x → Go Z a0 n0 M R Q pc' L st H ce sl) : Go Z a0 n0 M R Q pc L (.int x :: st) H ce sl :=
  go_if t hd ht (fun q => h1 ((hold_le x 0).1.mp ((if0 _ _).symm.trans q))) (fun q => h2 ((hold_le x 0).2.mp ((if0 _ _).symm.trans q)))
theorem hold_eq (x y : Int32) : (if_icmp.holds .eq x y = true ↔ x = y) ∧ (if_icmp.holds .eq x y = false ↔ ¬ x = y) := by simp [if_icmp.holds, Int32.not_lt, Int32.not_le]
theorem go_icmp_eq {o : Int} {x y : Int32} (t : Nat) (hd : Ins M pc (.if_icmp .eq o) 3 pc') (ht : (pc : Int) + o = (t : Int)) (h1 : x = y → Go Z a0 n0 M R Q t L st H ce sl) (h2 : ¬ x = y → Go Z a0 n0 M R Q pc' L st H ce sl) : Go Z a0 n0 M R Q pc L (.int y :: .int x :: st) H ce sl :=
  go_icmp t hd ht (fun q => h1 ((hold_eq x y).1.mp q)) (fun q => h2 ((hold_eq x y).2.mp q))
theorem go_if_eq {o : Int} {x : Int32} (t : Nat) (hd : Ins M pc (.ifCond .eq o) 3 pc') (ht : (pc : Int) + o = (t : Int)) (h1 : x = 0 → Go Z a0 n0 M R Q t L st H ce sl) (h2 : ¬ x = 0 → Go Z a0 n0 M R Q pc' L st H ce sl) : Go Z a0 n0 M R Q pc L (.int x :: st) H ce sl :=
  go_if t hd ht (fun q => h1 ((hold_eq x 0).1.mp ((if0 _ _).symm.trans q))) (fun q => h2 ((hold_eq x 0).2.mp ((if0 _ _).symm.trans q)))
theorem hold_ne (x y : Int32) : (if_icmp.holds .ne x y = true ↔ ¬ x = y) ∧ (if_icmp.holds .ne x y = false ↔ x = y) := by simp [if_icmp.holds, Int32.not_lt, Int32.not_le]
theorem go_icmp_ne {o : Int} {x y : Int32} (t : Nat) (hd : Ins M pc (.if_icmp .ne o) 3 pc') (ht : (pc : Int) + o = (t : Int)) (h1 : ¬ x = y → Go Z a0 n0 M R Q t L st H ce sl) (h2 : x = y → Go Z a0 n0 M R Q pc' L st H ce sl) : Go Z a0 n0 M R Q pc L (.int y :: .int x :: st) H ce sl :=
  go_icmp t hd ht (fun q => h1 ((hold_ne x y).1.mp q)) (fun q => h2 ((hold_ne x y).2.mp q))
theorem go_if_ne {o : Int} {x : Int32} (t : Nat) (hd : Ins M pc (.ifCond .ne o) 3 pc') (ht : (pc : Int) + o = (t : Int)) (h1 : ¬ x = 0 → Go Z a0 n0 M R Q t L st H ce sl) (h2 : x = 0 → Go Z a0 n0 M R Q pc' L st H ce sl) : Go Z a0 n0 M R Q pc L (.int x :: st) H ce sl :=
  go_if t hd ht (fun q => h1 ((hold_ne x 0).1.mp ((if0 _ _).symm.trans q))) (fun q => h2 ((hold_ne x 0).2.mp ((if0 _ _).symm.trans q)))
theorem go_ifnull {o : Int} {b : Addr} (hd : Ins M pc (.ifnull o) 3 pc') (h : Go Z a0 n0 M R Q pc' L st H ce sl) : Go Z a0 n0 M R Q pc L (.ref b :: st) H ce sl := by
  obtain ⟨hd, rfl⟩ := hd
  exact go_pure (fun p e m below c T t hA hx hy k => XS.ifnullNo hA hx rfl (hb hy hd) rfl k) h
theorem go_ifnonnull {o : Int} {b : Addr} (t : Nat) (hd : Ins M pc (.ifnonnull o) 3 pc') (ht : (pc : Int) + o = (t : Int)) (h : Go Z a0 n0 M R Q t L st H ce sl) : Go Z a0 n0 M R Q pc L (.ref b :: st) H ce sl := by
  obtain ⟨hd, rfl⟩ := hd
  exact go_pure (fun p e m below c T u hA hx hy k => XT.ifnonnullYes hA hx rfl (pc0 := pc) (pc' := t) rfl (hb hy hd) rfl (by omega) (by omega) k) h
theorem set_app {α : Type} (A B : List α) (o w : α) {k : Nat} (hA : A.length = k) : (A ++ o :: B).toArray.setIfInBounds k w = (A ++ w :: B).toArray := by
  subst hA; simp
theorem get_app {α : Type} (A B : List α) (o : α) {k : Nat} (hA : A.length = k) : (A ++ o :: B).toArray[k]? = some o := by
  subst hA; simp
theorem sto2 {A B : List Slot} {o1 o2 : Slot} {x : Int64} {k : Nat} (hA : A.length = k) (ho : (One o1 ∧ One o2) ∨ ∃ y : Int64, o1 = .val (.long y) ∧ o2 = .second) : storeLocals (A ++ o1 :: o2 :: B).toArray k (.long x) = some (A ++ .val (.long x) :: .second :: B).toArray := by
  subst hA
  rcases ho with ⟨h1, h2⟩ | ⟨y, rfl, rfl⟩
  · rcases h1 with rfl | ⟨w, rfl, hw⟩ <;> rcases h2 with rfl | ⟨w', rfl, hw'⟩ <;> simp [storeLocals, storeSelf, setAt, *] <;> simp [Value.category]
  · simp [storeLocals, storeSelf, setAt, Value.category]
theorem go_istoreG {k : Nat} {A B : List Slot} {o : Slot} {x : Int32} (hA : A.length = k) (ho : One o) (hd : Ins M pc (.istore k) 2 pc') (h : Go Z a0 n0 M R Q pc' (A ++ .val (.int x) :: B) st H ce sl) : Go Z a0 n0 M R Q pc (A ++ o :: B) (.int x :: st) H ce sl := by
  obtain ⟨hd, rfl⟩ := hd
  exact go_pure (fun p e m below c T t hA' hx hy k => XS.istore hA' hx rfl (hb hy hd) rfl (XS.store1 (get_app A B o hA) ho rfl) (by rw [set_app A B o _ hA]; exact k)) h
theorem go_istoreNG {k : Fin 4} {A B : List Slot} {o : Slot} {x : Int32} (hA : A.length = k.val) (ho : One o) (hd : Ins M pc (.istore_n k) 1 pc') (h : Go Z a0 n0 M R Q pc' (A ++ .val (.int x) :: B) st H ce sl) : Go Z a0 n0 M R Q pc (A ++ o :: B) (.int x :: st) H ce sl := by
  obtain ⟨hd, rfl⟩ := hd
  exact go_pure (fun p e m below c T t hA' hx hy k => XS.istoreN hA' hx rfl (hb hy hd) rfl (XS.store1 (get_app A B o hA) ho rfl) (by rw [set_app A B o _ hA]; exact k)) h
theorem go_astoreG {k : Nat} {A B : List Slot} {o : Slot} {x : Addr} (hA : A.length = k) (ho : One o) (hd : Ins M pc (.astore k) 2 pc') (h : Go Z a0 n0 M R Q pc' (A ++ .val (.ref x) :: B) st H ce sl) : Go Z a0 n0 M R Q pc (A ++ o :: B) (.ref x :: st) H ce sl := by
  obtain ⟨hd, rfl⟩ := hd
  exact go_pure (fun p e m below c T t hA' hx hy k => XS.astore hA' hx rfl (hb hy hd) rfl rfl (XS.store1 (get_app A B o hA) ho rfl) (by rw [set_app A B o _ hA]; exact k)) h
theorem go_astoreNG {k : Fin 4} {A B : List Slot} {o : Slot} {x : Addr} (hA : A.length = k.val) (ho : One o) (hd : Ins M pc (.astore_n k) 1 pc') (h : Go Z a0 n0 M R Q pc' (A ++ .val (.ref x) :: B) st H ce sl) : Go Z a0 n0 M R Q pc (A ++ o :: B) (.ref x :: st) H ce sl := by
  obtain ⟨hd, rfl⟩ := hd
  exact go_pure (fun p e m below c T t hA' hx hy k => XS.astoreN hA' hx rfl (hb hy hd) rfl rfl (XS.store1 (get_app A B o hA) ho rfl) (by rw [set_app A B o _ hA]; exact k)) h
theorem go_lstoreG {k : Nat} {A B : List Slot} {o o' : Slot} {x : Int64} (hA : A.length = k) (ho : (One o ∧ One o') ∨ ∃ y : Int64, o = .val (.long y) ∧ o' = .second) (hd : Ins M pc (.lstore k) 2 pc') (h : Go Z a0 n0 M R Q pc' (A ++ .val (.long x) :: .second :: B) st H ce sl) : Go Z a0 n0 M R Q pc (A ++ o :: o' :: B) (.long x :: st) H ce sl := by
  obtain ⟨hd, rfl⟩ := hd
  exact go_pure (fun p e m below c T t hA' hx hy k => XT.lstore hA' hx rfl (hb hy hd) rfl (sto2 hA ho) k) h
theorem go_lstoreNG {k : Fin 4} {A B : List Slot} {o o' : Slot} {x : Int64} (hA : A.length = k.val) (ho : (One o ∧ One o') ∨ ∃ y : Int64, o = .val (.long y) ∧ o' = .second) (hd : Ins M pc (.lstore_n k) 1 pc') (h : Go Z a0 n0 M R Q pc' (A ++ .val (.long x) :: .second :: B) st H ce sl) : Go Z a0 n0 M R Q pc (A ++ o :: o' :: B) (.long x :: st) H ce sl := by
  obtain ⟨hd, rfl⟩ := hd
  exact go_pure (fun p e m below c T t hA' hx hy k => XT.lstoreN hA' hx rfl (hb hy hd) rfl (sto2 hA ho) k) h
theorem go_iincG {k : Nat} {A B : List Slot} {cst : Int} {x v : Int32} (hA : A.length = k) (hd : Ins M pc (.iinc k cst) 3 pc') (hv : x + Int32.ofInt cst = v) (h : Go Z a0 n0 M R Q pc' (A ++ .val (.int v) :: B) st H ce sl) : Go Z a0 n0 M R Q pc (A ++ .val (.int x) :: B) st H ce sl := by
  obtain ⟨hd, rfl⟩ := hd
  subst hv
  exact go_pure (fun p e m below c T t hA' hx hy k => XS.iinc hA' hx rfl (hb hy hd) (get_app A B (.val (.int x)) hA) (XS.store1 (get_app A B (.val (.int x)) hA) (One.val rfl) rfl) (by rw [set_app A B (.val (.int x)) _ hA]; exact k)) h
theorem go_istore0 {o : Slot} {B : List Slot} {x : Int32} (hd : Ins M pc (.istore_n 0) 1 pc') (ho : One o) (h : Go Z a0 n0 M R Q pc' (.val (.int x) :: B) st H ce sl) : Go Z a0 n0 M R Q pc (o :: B) (.int x :: st) H ce sl := go_istoreNG (A := []) rfl ho hd h
theorem go_astore0 {o : Slot} {B : List Slot} {x : Addr} (hd : Ins M pc (.astore_n 0) 1 pc') (ho : One o) (h : Go Z a0 n0 M R Q pc' (.val (.ref x) :: B) st H ce sl) : Go Z a0 n0 M R Q pc (o :: B) (.ref x :: st) H ce sl := go_astoreNG (A := []) rfl ho hd h
theorem go_lstore0 {o o' : Slot} {B : List Slot} {x : Int64} (hd : Ins M pc (.lstore_n 0) 1 pc') (ho : (One o ∧ One o') ∨ ∃ y : Int64, o = .val (.long y) ∧ o' = .second) (h : Go Z a0 n0 M R Q pc' (.val (.long x) :: .second :: B) st H ce sl) : Go Z a0 n0 M R Q pc (o :: o' :: B) (.long x :: st) H ce sl := go_lstoreNG (A := []) rfl ho hd h
theorem go_iinc0 {B : List Slot} {cst : Int} {x v : Int32} (hd : Ins M pc (.iinc 0 cst) 3 pc') (hv : x + Int32.ofInt cst = v) (h : Go Z a0 n0 M R Q pc' (.val (.int v) :: B) st H ce sl) : Go Z a0 n0 M R Q pc (.val (.int x) :: B) st H ce sl := go_iincG (A := []) rfl hd hv h
theorem go_istore1 {s0 o : Slot} {B : List Slot} {x : Int32} (hd : Ins M pc (.istore_n 1) 1 pc') (ho : One o) (h : Go Z a0 n0 M R Q pc' (s0 :: .val (.int x) :: B) st H ce sl) : Go Z a0 n0 M R Q pc (s0 :: o :: B) (.int x :: st) H ce sl := go_istoreNG (A := [s0]) rfl ho hd h
theorem go_astore1 {s0 o : Slot} {B : List Slot} {x : Addr} (hd : Ins M pc (.astore_n 1) 1 pc') (ho : One o) (h : Go Z a0 n0 M R Q pc' (s0 :: .val (.ref x) :: B) st H ce sl) : Go Z a0 n0 M R Q pc (s0 :: o :: B) (.ref x :: st) H ce sl := go_astoreNG (A := [s0]) rfl ho hd h
theorem go_lstore1 {s0 o o' : Slot} {B : List Slot} {x : Int64} (hd : Ins M pc (.lstore_n 1) 1 pc') (ho : (One o ∧ One o') ∨ ∃ y : Int64, o = .val (.long y) ∧ o' = .second) (h : Go Z a0 n0 M R Q pc' (s0 :: .val (.long x) :: .second :: B) st H ce sl) : Go Z a0 n0 M R Q pc (s0 :: o :: o' :: B) (.long x :: st) H ce sl := go_lstoreNG (A := [s0]) rfl ho hd h
theorem go_iinc1 {s0 : Slot} {B : List Slot} {cst : Int} {x v : Int32} (hd : Ins M pc (.iinc 1 cst) 3 pc') (hv : x + Int32.ofInt cst = v) (h : Go Z a0 n0 M R Q pc' (s0 :: .val (.int v) :: B) st H ce sl) : Go Z a0 n0 M R Q pc (s0 :: .val (.int x) :: B) st H ce sl := go_iincG (A := [s0]) rfl hd hv h
theorem go_istore2 {s0 s1 o : Slot} {B : List Slot} {x : Int32} (hd : Ins M pc (.istore_n 2) 1 pc') (ho : One o) (h : Go Z a0 n0 M R Q pc' (s0 :: s1 :: .val (.int x) :: B) st H ce sl) : Go Z a0 n0 M R Q pc (s0 :: s1 :: o :: B) (.int x :: st) H ce sl := go_istoreNG (A := [s0, s1]) rfl ho hd h
theorem go_astore2 {s0 s1 o : Slot} {B : List Slot} {x : Addr} (hd : Ins M pc (.astore_n 2) 1 pc') (ho : One o) (h : Go Z a0 n0 M R Q pc' (s0 :: s1 :: .val (.ref x) :: B) st H ce sl) : Go Z a0 n0 M R Q pc (s0 :: s1 :: o :: B) (.ref x :: st) H ce sl := go_astoreNG (A := [s0, s1]) rfl ho hd h
theorem go_lstore2 {s0 s1 o o' : Slot} {B : List Slot} {x : Int64} (hd : Ins M pc (.lstore_n 2) 1 pc') (ho : (One o ∧ One o') ∨ ∃ y : Int64, o = .val (.long y) ∧ o' = .second) (h : Go Z a0 n0 M R Q pc' (s0 :: s1 :: .val (.long x) :: .second :: B) st H ce sl) : Go Z a0 n0 M R Q pc (s0 :: s1 :: o :: o' :: B) (.long x :: st) H ce sl := go_lstoreNG (A := [s0, s1]) rfl ho hd h
theorem go_iinc2 {s0 s1 : Slot} {B : List Slot} {cst : Int} {x v : Int32} (hd : Ins M pc (.iinc 2 cst) 3 pc') (hv : x + Int32.ofInt cst = v) (h : Go Z a0 n0 M R Q pc' (s0 :: s1 :: .val (.int v) :: B) st H ce sl) : Go Z a0 n0 M R Q pc (s0 :: s1 :: .val (.int x) :: B) st H ce sl := go_iincG (A := [s0, s1]) rfl hd hv h
theorem go_istore3 {s0 s1 s2 o : Slot} {B : List Slot} {x : Int32} (hd : Ins M pc (.istore_n 3) 1 pc') (ho : One o) (h : Go Z a0 n0 M R Q pc' (s0 :: s1 :: s2 :: .val (.int x) :: B) st H ce sl) : Go Z a0 n0 M R Q pc (s0 :: s1 :: s2 :: o :: B) (.int x :: st) H ce sl := go_istoreNG (A := [s0, s1, s2]) rfl ho hd h
theorem go_astore3 {s0 s1 s2 o : Slot} {B : List Slot} {x : Addr} (hd : Ins M pc (.astore_n 3) 1 pc') (ho : One o) (h : Go Z a0 n0 M R Q pc' (s0 :: s1 :: s2 :: .val (.ref x) :: B) st H ce sl) : Go Z a0 n0 M R Q pc (s0 :: s1 :: s2 :: o :: B) (.ref x :: st) H ce sl := go_astoreNG (A := [s0, s1, s2]) rfl ho hd h
theorem go_lstore3 {s0 s1 s2 o o' : Slot} {B : List Slot} {x : Int64} (hd : Ins M pc (.lstore_n 3) 1 pc') (ho : (One o ∧ One o') ∨ ∃ y : Int64, o = .val (.long y) ∧ o' = .second) (h : Go Z a0 n0 M R Q pc' (s0 :: s1 :: s2 :: .val (.long x) :: .second :: B) st H ce sl) : Go Z a0 n0 M R Q pc (s0 :: s1 :: s2 :: o :: o' :: B) (.long x :: st) H ce sl := go_lstoreNG (A := [s0, s1, s2]) rfl ho hd h
theorem go_iinc3 {s0 s1 s2 : Slot} {B : List Slot} {cst : Int} {x v : Int32} (hd : Ins M pc (.iinc 3 cst) 3 pc') (hv : x + Int32.ofInt cst = v) (h : Go Z a0 n0 M R Q pc' (s0 :: s1 :: s2 :: .val (.int v) :: B) st H ce sl) : Go Z a0 n0 M R Q pc (s0 :: s1 :: s2 :: .val (.int x) :: B) st H ce sl := go_iincG (A := [s0, s1, s2]) rfl hd hv h
theorem go_istore4 {s0 s1 s2 s3 o : Slot} {B : List Slot} {x : Int32} (hd : Ins M pc (.istore 4) 2 pc') (ho : One o) (h : Go Z a0 n0 M R Q pc' (s0 :: s1 :: s2 :: s3 :: .val (.int x) :: B) st H ce sl) : Go Z a0 n0 M R Q pc (s0 :: s1 :: s2 :: s3 :: o :: B) (.int x :: st) H ce sl := go_istoreG (A := [s0, s1, s2, s3]) rfl ho hd h
theorem go_astore4 {s0 s1 s2 s3 o : Slot} {B : List Slot} {x : Addr} (hd : Ins M pc (.astore 4) 2 pc') (ho : One o) (h : Go Z a0 n0 M R Q pc' (s0 :: s1 :: s2 :: s3 :: .val (.ref x) :: B) st H ce sl) : Go Z a0 n0 M R Q pc (s0 :: s1 :: s2 :: s3 :: o :: B) (.ref x :: st) H ce sl := go_astoreG (A := [s0, s1, s2, s3]) rfl ho hd h
theorem go_lstore4 {s0 s1 s2 s3 o o' : Slot} {B : List Slot} {x : Int64} (hd : Ins M pc (.lstore 4) 2 pc') (ho : (One o ∧ One o') ∨ ∃ y : Int64, o = .val (.long y) ∧ o' = .second) (h : Go Z a0 n0 M R Q pc' (s0 :: s1 :: s2 :: s3 :: .val (.long x) :: .second :: B) st H ce sl) : Go Z a0 n0 M R Q pc (s0 :: s1 :: s2 :: s3 :: o :: o' :: B) (.long x :: st) H ce sl := go_lstoreG (A := [s0, s1, s2, s3]) rfl ho hd h
theorem go_iinc4 {s0 s1 s2 s3 : Slot} {B : List Slot} {cst : Int} {x v : Int32} (hd : Ins M pc (.iinc 4 cst) 3 pc') (hv : x + Int32.ofInt cst = v) (h : Go Z a0 n0 M R Q pc' (s0 :: s1 :: s2 :: s3 :: .val (.int v) :: B) st H ce sl) : Go Z a0 n0 M R Q pc (s0 :: s1 :: s2 :: s3 :: .val (.int x) :: B) st H ce sl := go_iincG (A := [s0, s1, s2, s3]) rfl hd hv h
theorem go_istore5 {s0 s1 s2 s3 s4 o : Slot} {B : List Slot} {x : Int32} (hd : Ins M pc (.istore 5) 2 pc') (ho : One o) (h : Go Z a0 n0 M R Q pc' (s0 :: s1 :: s2 :: s3 :: s4 :: .val (.int x) :: B) st H ce sl) : Go Z a0 n0 M R Q pc (s0 :: s1 :: s2 :: s3 :: s4 :: o :: B) (.int x :: st) H ce sl := go_istoreG (A := [s0, s1, s2, s3, s4]) rfl ho hd h
theorem go_astore5 {s0 s1 s2 s3 s4 o : Slot} {B : List Slot} {x : Addr} (hd : Ins M pc (.astore 5) 2 pc') (ho : One o) (h : Go Z a0 n0 M R Q pc' (s0 :: s1 :: s2 :: s3 :: s4 :: .val (.ref x) :: B) st H ce sl) : Go Z a0 n0 M R Q pc (s0 :: s1 :: s2 :: s3 :: s4 :: o :: B) (.ref x :: st) H ce sl := go_astoreG (A := [s0, s1, s2, s3, s4]) rfl ho hd h
theorem go_lstore5 {s0 s1 s2 s3 s4 o o' : Slot} {B : List Slot} {x : Int64} (hd : Ins M pc (.lstore 5) 2 pc') (ho : (One o ∧ One o') ∨ ∃ y : Int64, o = .val (.long y) ∧ o' = .second) (h : Go Z a0 n0 M R Q pc' (s0 :: s1 :: s2 :: s3 :: s4 :: .val (.long x) :: .second :: B) st H ce sl) : Go Z a0 n0 M R Q pc (s0 :: s1 :: s2 :: s3 :: s4 :: o :: o' :: B) (.long x :: st) H ce sl := go_lstoreG (A := [s0, s1, s2, s3, s4]) rfl ho hd h
theorem go_iinc5 {s0 s1 s2 s3 s4 : Slot} {B : List Slot} {cst : Int} {x v : Int32} (hd : Ins M pc (.iinc 5 cst) 3 pc') (hv : x + Int32.ofInt cst = v) (h : Go Z a0 n0 M R Q pc' (s0 :: s1 :: s2 :: s3 :: s4 :: .val (.int v) :: B) st H ce sl) : Go Z a0 n0 M R Q pc (s0 :: s1 :: s2 :: s3 :: s4 :: .val (.int x) :: B) st H ce sl := go_iincG (A := [s0, s1, s2, s3, s4]) rfl hd hv h
theorem go_istore6 {s0 s1 s2 s3 s4 s5 o : Slot} {B : List Slot} {x : Int32} (hd : Ins M pc (.istore 6) 2 pc') (ho : One o) (h : Go Z a0 n0 M R Q pc' (s0 :: s1 :: s2 :: s3 :: s4 :: s5 :: .val (.int x) :: B) st H ce sl) : Go Z a0 n0 M R Q pc (s0 :: s1 :: s2 :: s3 :: s4 :: s5 :: o :: B) (.int x :: st) H ce sl := go_istoreG (A := [s0, s1, s2, s3, s4, s5]) rfl ho hd h
theorem go_astore6 {s0 s1 s2 s3 s4 s5 o : Slot} {B : List Slot} {x : Addr} (hd : Ins M pc (.astore 6) 2 pc') (ho : One o) (h : Go Z a0 n0 M R Q pc' (s0 :: s1 :: s2 :: s3 :: s4 :: s5 :: .val (.ref x) :: B) st H ce sl) : Go Z a0 n0 M R Q pc (s0 :: s1 :: s2 :: s3 :: s4 :: s5 :: o :: B) (.ref x :: st) H ce sl := go_astoreG (A := [s0, s1, s2, s3, s4, s5]) rfl ho hd h
theorem go_lstore6 {s0 s1 s2 s3 s4 s5 o o' : Slot} {B : List Slot} {x : Int64} (hd : Ins M pc (.lstore 6) 2 pc') (ho : (One o ∧ One o') ∨ ∃ y : Int64, o = .val (.long y) ∧ o' = .second) (h : Go Z a0 n0 M R Q pc' (s0 :: s1 :: s2 :: s3 :: s4 :: s5 :: .val (.long x) :: .second :: B) st H ce sl) : Go Z a0 n0 M R Q pc (s0 :: s1 :: s2 :: s3 :: s4 :: s5 :: o :: o' :: B) (.long x :: st) H ce sl := go_lstoreG (A := [s0, s1, s2, s3, s4, s5]) rfl ho hd h
theorem go_iinc6 {s0 s1 s2 s3 s4 s5 : Slot} {B : List Slot} {cst : Int} {x v : Int32} (hd : Ins M pc (.iinc 6 cst) 3 pc') (hv : x + Int32.ofInt cst = v) (h : Go Z a0 n0 M R Q pc' (s0 :: s1 :: s2 :: s3 :: s4 :: s5 :: .val (.int v) :: B) st H ce sl) : Go Z a0 n0 M R Q pc (s0 :: s1 :: s2 :: s3 :: s4 :: s5 :: .val (.int x) :: B) st H ce sl := go_iincG (A := [s0, s1, s2, s3, s4, s5]) rfl hd hv h
theorem go_istore7 {s0 s1 s2 s3 s4 s5 s6 o : Slot} {B : List Slot} {x : Int32} (hd : Ins M pc (.istore 7) 2 pc') (ho : One o) (h : Go Z a0 n0 M R Q pc' (s0 :: s1 :: s2 :: s3 :: s4 :: s5 :: s6 :: .val (.int x) :: B) st H ce sl) : Go Z a0 n0 M R Q pc (s0 :: s1 :: s2 :: s3 :: s4 :: s5 :: s6 :: o :: B) (.int x :: st) H ce sl := go_istoreG (A := [s0, s1, s2, s3, s4, s5, s6]) rfl ho hd h
theorem go_astore7 {s0 s1 s2 s3 s4 s5 s6 o : Slot} {B : List Slot} {x : Addr} (hd : Ins M pc (.astore 7) 2 pc') (ho : One o) (h : Go Z a0 n0 M R Q pc' (s0 :: s1 :: s2 :: s3 :: s4 :: s5 :: s6 :: .val (.ref x) :: B) st H ce sl) : Go Z a0 n0 M R Q pc (s0 :: s1 :: s2 :: s3 :: s4 :: s5 :: s6 :: o :: B) (.ref x :: st) H ce sl := go_astoreG (A := [s0, s1, s2, s3, s4, s5, s6]) rfl ho hd h
theorem go_lstore7 {s0 s1 s2 s3 s4 s5 s6 o o' : Slot} {B : List Slot} {x : Int64} (hd : Ins M pc (.lstore 7) 2 pc') (ho : (One o ∧ One o') ∨ ∃ y : Int64, o = .val (.long y) ∧ o' = .second) (h : Go Z a0 n0 M R Q pc' (s0 :: s1 :: s2 :: s3 :: s4 :: s5 :: s6 :: .val (.long x) :: .second :: B) st H ce sl) : Go Z a0 n0 M R Q pc (s0 :: s1 :: s2 :: s3 :: s4 :: s5 :: s6 :: o :: o' :: B) (.long x :: st) H ce sl := go_lstoreG (A := [s0, s1, s2, s3, s4, s5, s6]) rfl ho hd h
theorem go_iinc7 {s0 s1 s2 s3 s4 s5 s6 : Slot} {B : List Slot} {cst : Int} {x v : Int32} (hd : Ins M pc (.iinc 7 cst) 3 pc') (hv : x + Int32.ofInt cst = v) (h : Go Z a0 n0 M R Q pc' (s0 :: s1 :: s2 :: s3 :: s4 :: s5 :: s6 :: .val (.int v) :: B) st H ce sl) : Go Z a0 n0 M R Q pc (s0 :: s1 :: s2 :: s3 :: s4 :: s5 :: s6 :: .val (.int x) :: B) st H ce sl := go_iincG (A := [s0, s1, s2, s3, s4, s5, s6]) rfl hd hv h
theorem go_istore8 {s0 s1 s2 s3 s4 s5 s6 s7 o : Slot} {B : List Slot} {x : Int32} (hd : Ins M pc (.istore 8) 2 pc') (ho : One o) (h : Go Z a0 n0 M R Q pc' (s0 :: s1 :: s2 :: s3 :: s4 :: s5 :: s6 :: s7 :: .val (.int x) :: B) st H ce sl) : Go Z a0 n0 M R Q pc (s0 :: s1 :: s2 :: s3 :: s4 :: s5 :: s6 :: s7 :: o :: B) (.int x :: st) H ce sl := go_istoreG (A := [s0, s1, s2, s3, s4, s5, s6, s7]) rfl ho hd h
theorem go_astore8 {s0 s1 s2 s3 s4 s5 s6 s7 o : Slot} {B : List Slot} {x : Addr} (hd : Ins M pc (.astore 8) 2 pc') (ho : One o) (h : Go Z a0 n0 M R Q pc' (s0 :: s1 :: s2 :: s3 :: s4 :: s5 :: s6 :: s7 :: .val (.ref x) :: B) st H ce sl) : Go Z a0 n0 M R Q pc (s0 :: s1 :: s2 :: s3 :: s4 :: s5 :: s6 :: s7 :: o :: B) (.ref x :: st) H ce sl := go_astoreG (A := [s0, s1, s2, s3, s4, s5, s6, s7]) rfl ho hd h
theorem go_lstore8 {s0 s1 s2 s3 s4 s5 s6 s7 o o' : Slot} {B : List Slot} {x : Int64} (hd : Ins M pc (.lstore 8) 2 pc') (ho : (One o ∧ One o') ∨ ∃ y : Int64, o = .val (.long y) ∧ o' = .second) (h : Go Z a0 n0 M R Q pc' (s0 :: s1 :: s2 :: s3 :: s4 :: s5 :: s6 :: s7 :: .val (.long x) :: .second :: B) st H ce sl) : Go Z a0 n0 M R Q pc (s0 :: s1 :: s2 :: s3 :: s4 :: s5 :: s6 :: s7 :: o :: o' :: B) (.long x :: st) H ce sl := go_lstoreG (A := [s0, s1, s2, s3, s4, s5, s6, s7]) rfl ho hd h
theorem go_iinc8 {s0 s1 s2 s3 s4 s5 s6 s7 : Slot} {B : List Slot} {cst : Int} {x v : Int32} (hd : Ins M pc (.iinc 8 cst) 3 pc') (hv : x + Int32.ofInt cst = v) (h : Go Z a0 n0 M R Q pc' (s0 :: s1 :: s2 :: s3 :: s4 :: s5 :: s6 :: s7 :: .val (.int v) :: B) st H ce sl) : Go Z a0 n0 M R Q pc (s0 :: s1 :: s2 :: s3 :: s4 :: s5 :: s6 :: s7 :: .val (.int x) :: B) st H ce sl := go_iincG (A := [s0, s1, s2, s3, s4, s5, s6, s7]) rfl hd hv h
theorem go_istore9 {s0 s1 s2 s3 s4 s5 s6 s7 s8 o : Slot} {B : List Slot} {x : Int32} (hd : Ins M pc (.istore 9) 2 pc') (ho : One o) (h : Go Z a0 n0 M R Q pc' (s0 :: s1 :: s2 :: s3 :: s4 :: s5 :: s6 :: s7 :: s8 :: .val (.int x) :: B) st H ce sl) : Go Z a0 n0 M R Q pc (s0 :: s1 :: s2 :: s3 :: s4 :: s5 :: s6 :: s7 :: s8 :: o :: B) (.int x :: st) H ce sl := go_istoreG (A := [s0, s1, s2, s3, s4, s5, s6, s7, s8]) rfl ho hd h
theorem go_astore9 {s0 s1 s2 s3 s4 s5 s6 s7 s8 o : Slot} {B : List Slot} {x : Addr} (hd : Ins M pc (.astore 9) 2 pc') (ho : One o) (h : Go Z a0 n0 M R Q pc' (s0 :: s1 :: s2 :: s3 :: s4 :: s5 :: s6 :: s7 :: s8 :: .val (.ref x) :: B) st H ce sl) : Go Z a0 n0 M R Q pc (s0 :: s1 :: s2 :: s3 :: s4 :: s5 :: s6 :: s7 :: s8 :: o :: B) (.ref x :: st) H ce sl := go_astoreG (A := [s0, s1, s2, s3, s4, s5, s6, s7, s8]) rfl ho hd h
theorem go_lstore9 {s0 s1 s2 s3 s4 s5 s6 s7 s8 o o' : Slot} {B : List Slot} {x : Int64} (hd : Ins M pc (.lstore 9) 2 pc') (ho : (One o ∧ One o') ∨ ∃ y : Int64, o = .val (.long y) ∧ o' = .second) (h : Go Z a0 n0 M R Q pc' (s0 :: s1 :: s2 :: s3 :: s4 :: s5 :: s6 :: s7 :: s8 :: .val (.long x) :: .second :: B) st H ce sl) : Go Z a0 n0 M R Q pc (s0 :: s1 :: s2 :: s3 :: s4 :: s5 :: s6 :: s7 :: s8 :: o :: o' :: B) (.long x :: st) H ce sl := go_lstoreG (A := [s0, s1, s2, s3, s4, s5, s6, s7, s8]) rfl ho hd h
theorem go_iinc9 {s0 s1 s2 s3 s4 s5 s6 s7 s8 : Slot} {B : List Slot} {cst : Int} {x v : Int32} (hd : Ins M pc (.iinc 9 cst) 3 pc') (hv : x + Int32.ofInt cst = v) (h : Go Z a0 n0 M R Q pc' (s0 :: s1 :: s2 :: s3 :: s4 :: s5 :: s6 :: s7 :: s8 :: .val (.int v) :: B) st H ce sl) : Go Z a0 n0 M R Q pc (s0 :: s1 :: s2 :: s3 :: s4 :: s5 :: s6 :: s7 :: s8 :: .val (.int x) :: B) st H ce sl := go_iincG (A := [s0, s1, s2, s3, s4, s5, s6, s7, s8]) rfl hd hv h
theorem go_istore10 {s0 s1 s2 s3 s4 s5 s6 s7 s8 s9 o : Slot} {B : List Slot} {x : Int32} (hd : Ins M pc (.istore 10) 2 pc') (ho : One o) (h : Go Z a0 n0 M R Q pc' (s0 :: s1 :: s2 :: s3 :: s4 :: s5 :: s6 :: s7 :: s8 :: s9 :: .val (.int x) :: B) st H ce sl) : Go Z a0 n0 M R Q pc (s0 :: s1 :: s2 :: s3 :: s4 :: s5 :: s6 :: s7 :: s8 :: s9 :: o :: B) (.int x :: st) H ce sl := go_istoreG (A := [s0, s1, s2, s3, s4, s5, s6, s7, s8, s9]) rfl ho hd h
theorem go_astore10 {s0 s1 s2 s3 s4 s5 s6 s7 s8 s9 o : Slot} {B : List Slot} {x : Addr} (hd : Ins M pc (.astore 10) 2 pc') (ho : One o) (h : Go Z a0 n0 M R Q pc' (s0 :: s1 :: s2 :: s3 :: s4 :: s5 :: s6 :: s7 :: s8 :: s9 :: .val (.ref x) :: B) st H ce sl) : Go Z a0 n0 M R Q pc (s0 :: s1 :: s2 :: s3 :: s4 :: s5 :: s6 :: s7 :: s8 :: s9 :: o :: B) (.ref x :: st) H ce sl := go_astoreG (A := [s0, s1, s2, s3, s4, s5, s6, s7, s8, s9]) rfl ho hd h
theorem go_lstore10 {s0 s1 s2 s3 s4 s5 s6 s7 s8 s9 o o' : Slot} {B : List Slot} {x : Int64} (hd : Ins M pc (.lstore 10) 2 pc') (ho : (One o ∧ One o') ∨ ∃ y : Int64, o = .val (.long y) ∧ o' = .second) (h : Go Z a0 n0 M R Q pc' (s0 :: s1 :: s2 :: s3 :: s4 :: s5 :: s6 :: s7 :: s8 :: s9 :: .val (.long x) :: .second :: B) st H ce sl) : Go Z a0 n0 M R Q pc (s0 :: s1 :: s2 :: s3 :: s4 :: s5 :: s6 :: s7 :: s8 :: s9 :: o :: o' :: B) (.long x :: st) H ce sl := go_lstoreG (A := [s0, s1, s2, s3, s4, s5, s6, s7, s8, s9]) rfl ho hd h
theorem go_iinc10 {s0 s1 s2 s3 s4 s5 s6 s7 s8 s9 : Slot} {B : List Slot} {cst : Int} {x v : Int32} (hd : Ins M pc (.iinc 10 cst) 3 pc') (hv : x + Int32.ofInt cst = v) (h : Go Z a0 n0 M R Q pc' (s0 :: s1 :: s2 :: s3 :: s4 :: s5 :: s6 :: s7 :: s8 :: s9 :: .val (.int v) :: B) st H ce sl) : Go Z a0 n0 M R Q pc (s0 :: s1 :: s2 :: s3 :: s4 :: s5 :: s6 :: s7 :: s8 :: s9 :: .val (.int x) :: B) st H ce sl := go_iincG (A := [s0, s1, s2, s3, s4, s5, s6, s7, s8, s9]) rfl hd hv h
theorem go_istore11 {s0 s1 s2 s3 s4 s5 s6 s7 s8 s9 s10 o : Slot} {B : List Slot} {x : Int32} (hd : Ins M pc (.istore 11) 2 pc') (ho : One o) (h : Go Z a0 n0 M R Q pc' (s0 :: s1 :: s2 :: s3 :: s4 :: s5 :: s6 :: s7 :: s8 :: s9 :: s10 :: .val (.int x) :: B) st H ce sl) : Go Z a0 n0 M R Q pc (s0 :: s1 :: s2 :: s3 :: s4 :: s5 :: s6 :: s7 :: s8 :: s9 :: s10 :: o :: B) (.int x :: st) H ce sl := go_istoreG (A := [s0, s1, s2, s3, s4, s5, s6, s7, s8, s9, s10]) rfl ho hd h
theorem go_astore11 {s0 s1 s2 s3 s4 s5 s6 s7 s8 s9 s10 o : Slot} {B : List Slot} {x : Addr} (hd : Ins M pc (.astore 11) 2 pc') (ho : One o) (h : Go Z a0 n0 M R Q pc' (s0 :: s1 :: s2 :: s3 :: s4 :: s5 :: s6 :: s7 :: s8 :: s9 :: s10 :: .val (.ref x) :: B) st H ce sl) : Go Z a0 n0 M R Q pc (s0 :: s1 :: s2 :: s3 :: s4 :: s5 :: s6 :: s7 :: s8 :: s9 :: s10 :: o :: B) (.ref x :: st) H ce sl := go_astoreG (A := [s0, s1, s2, s3, s4, s5, s6, s7, s8, s9, s10]) rfl ho hd h
theorem go_lstore11 {s0 s1 s2 s3 s4 s5 s6 s7 s8 s9 s10 o o' : Slot} {B : List Slot} {x : Int64} (hd : Ins M pc (.lstore 11) 2 pc') (ho : (One o ∧ One o') ∨ ∃ y : Int64, o = .val (.long y) ∧ o' = .second) (h : Go Z a0 n0 M R Q pc' (s0 :: s1 :: s2 :: s3 :: s4 :: s5 :: s6 :: s7 :: s8 :: s9 :: s10 :: .val (.long x) :: .second :: B) st H ce sl) : Go Z a0 n0 M R Q pc (s0 :: s1 :: s2 :: s3 :: s4 :: s5 :: s6 :: s7 :: s8 :: s9 :: s10 :: o :: o' :: B) (.long x :: st) H ce sl := go_lstoreG (A := [s0, s1, s2, s3, s4, s5, s6, s7, s8, s9, s10]) rfl ho hd h
theorem go_iinc11 {s0 s1 s2 s3 s4 s5 s6 s7 s8 s9 s10 : Slot} {B : List Slot} {cst : Int} {x v : Int32} (hd : Ins M pc (.iinc 11 cst) 3 pc') (hv : x + Int32.ofInt cst = v) (h : Go Z a0 n0 M R Q pc' (s0 :: s1 :: s2 :: s3 :: s4 :: s5 :: s6 :: s7 :: s8 :: s9 :: s10 :: .val (.int v) :: B) st H ce sl) : Go Z a0 n0 M R Q pc (s0 :: s1 :: s2 :: s3 :: s4 :: s5 :: s6 :: s7 :: s8 :: s9 :: s10 :: .val (.int x) :: B) st H ce sl := go_iincG (A := [s0, s1, s2, s3, s4, s5, s6, s7, s8, s9, s10]) rfl hd hv h
theorem go_istore12 {s0 s1 s2 s3 s4 s5 s6 s7 s8 s9 s10 s11 o : Slot} {B : List Slot} {x : Int32} (hd : Ins M pc (.istore 12) 2 pc') (ho : One o) (h : Go Z a0 n0 M R Q pc' (s0 :: s1 :: s2 :: s3 :: s4 :: s5 :: s6 :: s7 :: s8 :: s9 :: s10 :: s11 :: .val (.int x) :: B) st H ce sl) : Go Z a0 n0 M R Q pc (s0 :: s1 :: s2 :: s3 :: s4 :: s5 :: s6 :: s7 :: s8 :: s9 :: s10 :: s11 :: o :: B) (.int x :: st) H ce sl := go_istoreG (A := [s0, s1, s2, s3, s4, s5, s6, s7, s8, s9, s10, s11]) rfl ho hd h
theorem go_astore12 {s0 s1 s2 s3 s4 s5 s6 s7 s8 s9 s10 s11 o : Slot} {B : List Slot} {x : Addr} (hd : Ins M pc (.astore 12) 2 pc') (ho : One o) (h : Go Z a0 n0 M R Q pc' (s0 :: s1 :: s2 :: s3 :: s4 :: s5 :: s6 :: s7 :: s8 :: s9 :: s10 :: s11 :: .val (.ref x) :: B) st H ce sl) : Go Z a0 n0 M R Q pc (s0 :: s1 :: s2 :: s3 :: s4 :: s5 :: s6 :: s7 :: s8 :: s9 :: s10 :: s11 :: o :: B) (.ref x :: st) H ce sl := go_astoreG (A := [s0, s1, s2, s3, s4, s5, s6, s7, s8, s9, s10, s11]) rfl ho hd h
theorem go_lstore12 {s0 s1 s2 s3 s4 s5 s6 s7 s8 s9 s10 s11 o o' : Slot} {B : List Slot} {x : Int64} (hd : Ins M pc (.lstore 12) 2 pc') (ho : (One o ∧ One o') ∨ ∃ y : Int64, o = .val (.long y) ∧ o' = .second) (h : Go Z a0 n0 M R Q pc' (s0 :: s1 :: s2 :: s3 :: s4 :: s5 :: s6 :: s7 :: s8 :: s9 :: s10 :: s11 :: .val (.long x) :: .second :: B) st H ce sl) : Go Z a0 n0 M R Q pc (s0 :: s1 :: s2 :: s3 :: s4 :: s5 :: s6 :: s7 :: s8 :: s9 :: s10 :: s11 :: o :: o' :: B) (.long x :: st) H ce sl := go_lstoreG (A := [s0, s1, s2, s3, s4, s5, s6, s7, s8, s9, s10, s11]) rfl ho hd h
theorem go_iinc12 {s0 s1 s2 s3 s4 s5 s6 s7 s8 s9 s10 s11 : Slot} {B : List Slot} {cst : Int} {x v : Int32} (hd : Ins M pc (.iinc 12 cst) 3 pc') (hv : x + Int32.ofInt cst = v) (h : Go Z a0 n0 M R Q pc' (s0 :: s1 :: s2 :: s3 :: s4 :: s5 :: s6 :: s7 :: s8 :: s9 :: s10 :: s11 :: .val (.int v) :: B) st H ce sl) : Go Z a0 n0 M R Q pc (s0 :: s1 :: s2 :: s3 :: s4 :: s5 :: s6 :: s7 :: s8 :: s9 :: s10 :: s11 :: .val (.int x) :: B) st H ce sl := go_iincG (A := [s0, s1, s2, s3, s4, s5, s6, s7, s8, s9, s10, s11]) rfl hd hv h
theorem go_istore13 {s0 s1 s2 s3 s4 s5 s6 s7 s8 s9 s10 s11 s12 o : Slot} {B : List Slot} {x : Int32} (hd : Ins M pc (.istore 13) 2 pc') (ho : One o) (h : Go Z a0 n0 M R Q pc' (s0 :: s1 :: s2 :: s3 :: s4 :: s5 :: s6 :: s7 :: s8 :: s9 :: s10 :: s11 :: s12 :: .val (.int x) :: B) st H ce sl) : Go Z a0 n0 M R Q pc (s0 :: s1 :: s2 :: s3 :: s4 :: s5 :: s6 :: s7 :: s8 :: s9 :: s10 :: s11 :: s12 :: o :: B) (.int x :: st) H ce sl := go_istoreG (A := [s0, s1, s2, s3, s4, s5, s6, s7, s8, s9, s10, s11, s12]) rfl ho hd h
theorem go_astore13 {s0 s1 s2 s3 s4 s5 s6 s7 s8 s9 s10 s11 s12 o : Slot} {B : List Slot} {x : Addr} (hd : Ins M pc (.astore 13) 2 pc') (ho : One o) (h : Go Z a0 n0 M R Q pc' (s0 :: s1 :: s2 :: s3 :: s4 :: s5 :: s6 :: s7 :: s8 :: s9 :: s10 :: s11 :: s12 :: .val (.ref x) :: B) st H ce sl) : Go Z a0 n0 M R Q pc (s0 :: s1 :: s2 :: s3 :: s4 :: s5 :: s6 :: s7 :: s8 :: s9 :: s10 :: s11 :: s12 :: o :: B) (.ref x :: st) H ce sl := go_astoreG (A := [s0, s1, s2, s3, s4, s5, s6, s7, s8, s9, s10, s11, s12]) rfl ho hd h
theorem go_lstore13 {s0 s1 s2 s3 s4 s5 s6 s7 s8 s9 s10 s11 s12 o o' : Slot} {B : List Slot} {x : Int64} (hd : Ins M pc (.lstore 13) 2 pc') (ho : (One o ∧ One o') ∨ ∃ y : Int64, o = .val (.long y) ∧ o' = .second) (h : Go Z a0 n0 M R Q pc' (s0 :: s1 :: s2 :: s3 :: s4 :: s5 :: s6 :: s7 :: s8 :: s9 :: s10 :: s11 :: s12 :: .val (.long x) :: .second :: B) st H ce sl) : Go Z a0 n0 M R Q pc (s0 :: s1 :: s2 :: s3 :: s4 :: s5 :: s6 :: s7 :: s8 :: s9 :: s10 :: s11 :: s12 :: o :: o' :: B) (.long x :: st) H ce sl := go_lstoreG (A := [s0, s1, s2, s3, s4, s5, s6, s7, s8, s9, s10, s11, s12]) rfl ho hd h
theorem go_iinc13 {s0 s1 s2 s3 s4 s5 s6 s7 s8 s9 s10 s11 s12 : Slot} {B : List Slot} {cst : Int} {x v : Int32} (hd : Ins M pc (.iinc 13 cst) 3 pc') (hv : x + Int32.ofInt cst = v) (h : Go Z a0 n0 M R Q pc' (s0 :: s1 :: s2 :: s3 :: s4 :: s5 :: s6 :: s7 :: s8 :: s9 :: s10 :: s11 :: s12 :: .val (.int v) :: B) st H ce sl) : Go Z a0 n0 M R Q pc (s0 :: s1 :: s2 :: s3 :: s4 :: s5 :: s6 :: s7 :: s8 :: s9 :: s10 :: s11 :: s12 :: .val (.int x) :: B) st H ce sl := go_iincG (A := [s0, s1, s2, s3, s4, s5, s6, s7, s8, s9, s10, s11, s12]) rfl hd hv h
theorem go_istore14 {s0 s1 s2 s3 s4 s5 s6 s7 s8 s9 s10 s11 s12 s13 o : Slot} {B : List Slot} {x : Int32} (hd : Ins M pc (.istore 14) 2 pc') (ho : One o) (h : Go Z a0 n0 M R Q pc' (s0 :: s1 :: s2 :: s3 :: s4 :: s5 :: s6 :: s7 :: s8 :: s9 :: s10 :: s11 :: s12 :: s13 :: .val (.int x) :: B) st H ce sl) : Go Z a0 n0 M R Q pc (s0 :: s1 :: s2 :: s3 :: s4 :: s5 :: s6 :: s7 :: s8 :: s9 :: s10 :: s11 :: s12 :: s13 :: o :: B) (.int x :: st) H ce sl := go_istoreG (A := [s0, s1, s2, s3, s4, s5, s6, s7, s8, s9, s10, s11, s12, s13]) rfl ho hd h
theorem go_astore14 {s0 s1 s2 s3 s4 s5 s6 s7 s8 s9 s10 s11 s12 s13 o : Slot} {B : List Slot} {x : Addr} (hd : Ins M pc (.astore 14) 2 pc') (ho : One o) (h : Go Z a0 n0 M R Q pc' (s0 :: s1 :: s2 :: s3 :: s4 :: s5 :: s6 :: s7 :: s8 :: s9 :: s10 :: s11 :: s12 :: s13 :: .val (.ref x) :: B) st H ce sl) : Go Z a0 n0 M R Q pc (s0 :: s1 :: s2 :: s3 :: s4 :: s5 :: s6 :: s7 :: s8 :: s9 :: s10 :: s11 :: s12 :: s13 :: o :: B) (.ref x :: st) H ce sl := go_astoreG (A := [s0, s1, s2, s3, s4, s5, s6, s7, s8, s9, s10, s11, s12, s13]) rfl ho hd h
theorem go_lstore14 {s0 s1 s2 s3 s4 s5 s6 s7 s8 s9 s10 s11 s12 s13 o o' : Slot} {B : List Slot} {x : Int64} (hd : Ins M pc (.lstore 14) 2 pc') (ho : (One o ∧ One o') ∨ ∃ y : Int64, o = .val (.long y) ∧ o' = .second) (h : Go Z a0 n0 M R Q pc' (s0 :: s1 :: s2 :: s3 :: s4 :: s5 :: s6 :: s7 :: s8 :: s9 :: s10 :: s11 :: s12 :: s13 :: .val (.long x) :: .second :: B) st H ce sl) : Go Z a0 n0 M R Q pc (s0 :: s1 :: s2 :: s3 :: s4 :: s5 :: s6 :: s7 :: s8 :: s9 :: s10 :: s11 :: s12 :: s13 :: o :: o' :: B) (.long x :: st) H ce sl := go_lstoreG (A := [s0, s1, s2, s3, s4, s5, s6, s7, s8, s9, s10, s11, s12, s13]) rfl ho hd h
theorem go_iinc14 {s0 s1 s2 s3 s4 s5 s6 s7 s8 s9 s10 s11 s12 s13 : Slot} {B : List Slot} {cst : Int} {x v : Int32} (hd : Ins M pc (.iinc 14 cst) 3 pc') (hv : x + Int32.ofInt cst = v) (h : Go Z a0 n0 M R Q pc' (s0 :: s1 :: s2 :: s3 :: s4 :: s5 :: s6 :: s7 :: s8 :: s9 :: s10 :: s11 :: s12 :: s13 :: .val (.int v) :: B) st H ce sl) : Go Z a0 n0 M R Q pc (s0 :: s1 :: s2 :: s3 :: s4 :: s5 :: s6 :: s7 :: s8 :: s9 :: s10 :: s11 :: s12 :: s13 :: .val (.int x) :: B) st H ce sl := go_iincG (A := [s0, s1, s2, s3, s4, s5, s6, s7, s8, s9, s10, s11, s12, s13]) rfl hd hv h
theorem go_istore15 {s0 s1 s2 s3 s4 s5 s6 s7 s8 s9 s10 s11 s12 s13 s14 o : Slot} {B : List Slot} {x : Int32} (hd : Ins M pc (.istore 15) 2 pc') (ho : One o) (h : Go Z a0 n0 M R Q pc' (s0 :: s1 :: s2 :: s3 :: s4 :: s5 :: s6 :: s7 :: s8 :: s9 :: s10 :: s11 :: s12 :: s13 :: s14 :: .val (.int x) :: B) st H ce sl) : Go Z a0 n0 M R Q pc (s0 :: s1 :: s2 :: s3 :: s4 :: s5 :: s6 :: s7 :: s8 :: s9 :: s10 :: s11 :: s12 :: s13 :: s14 :: o :: B) (.int x :: st) H ce sl := go_istoreG (A := [s0, s1, s2, s3, s4, s5, s6, s7, s8, s9, s10, s11, s12, s13, s14]) rfl ho hd h
theorem go_astore15 {s0 s1 s2 s3 s4 s5 s6 s7 s8 s9 s10 s11 s12 s13 s14 o : Slot} {B : List Slot} {x : Addr} (hd : Ins M pc (.astore 15) 2 pc') (ho : One o) (h : Go Z a0 n0 M R Q pc' (s0 :: s1 :: s2 :: s3 :: s4 :: s5 :: s6 :: s7 :: s8 :: s9 :: s10 :: s11 :: s12 :: s13 :: s14 :: .val (.ref x) :: B) st H ce sl) : Go Z a0 n0 M R Q pc (s0 :: s1 :: s2 :: s3 :: s4 :: s5 :: s6 :: s7 :: s8 :: s9 :: s10 :: s11 :: s12 :: s13 :: s14 :: o :: B) (.ref x :: st) H ce sl := go_astoreG (A := [s0, s1, s2, s3, s4, s5, s6, s7, s8, s9, s10, s11, s12, s13, s14]) rfl ho hd h
theorem go_lstore15 {s0 s1 s2 s3 s4 s5 s6 s7 s8 s9 s10 s11 s12 s13 s14 o o' : Slot} {B : List Slot} {x : Int64} (hd : Ins M pc (.lstore 15) 2 pc') (ho : (One o ∧ One o') ∨ ∃ y : Int64, o = .val (.long y) ∧ o' = .second) (h : Go Z a0 n0 M R Q pc' (s0 :: s1 :: s2 :: s3 :: s4 :: s5 :: s6 :: s7 :: s8 :: s9 :: s10 :: s11 :: s12 :: s13 :: s14 :: .val (.long x) :: .second :: B) st H ce sl) : Go Z a0 n0 M R Q pc (s0 :: s1 :: s2 :: s3 :: s4 :: s5 :: s6 :: s7 :: s8 :: s9 :: s10 :: s11 :: s12 :: s13 :: s14 :: o :: o' :: B) (.long x :: st) H ce sl := go_lstoreG (A := [s0, s1, s2, s3, s4, s5, s6, s7, s8, s9, s10, s11, s12, s13, s14]) rfl ho hd h
theorem go_iinc15 {s0 s1 s2 s3 s4 s5 s6 s7 s8 s9 s10 s11 s12 s13 s14 : Slot} {B : List Slot} {cst : Int} {x v : Int32} (hd : Ins M pc (.iinc 15 cst) 3 pc') (hv : x + Int32.ofInt cst = v) (h : Go Z a0 n0 M R Q pc' (s0 :: s1 :: s2 :: s3 :: s4 :: s5 :: s6 :: s7 :: s8 :: s9 :: s10 :: s11 :: s12 :: s13 :: s14 :: .val (.int v) :: B) st H ce sl) : Go Z a0 n0 M R Q pc (s0 :: s1 :: s2 :: s3 :: s4 :: s5 :: s6 :: s7 :: s8 :: s9 :: s10 :: s11 :: s12 :: s13 :: s14 :: .val (.int x) :: B) st H ce sl := go_iincG (A := [s0, s1, s2, s3, s4, s5, s6, s7, s8, s9, s10, s11, s12, s13, s14]) rfl hd hv h
theorem go_istore16 {s0 s1 s2 s3 s4 s5 s6 s7 s8 s9 s10 s11 s12 s13 s14 s15 o : Slot} {B : List Slot} {x : Int32} (hd : Ins M pc (.istore 16) 2 pc') (ho : One o) (h : Go Z a0 n0 M R Q pc' (s0 :: s1 :: s2 :: s3 :: s4 :: s5 :: s6 :: s7 :: s8 :: s9 :: s10 :: s11 :: s12 :: s13 :: s14 :: s15 :: .val (.int x) :: B) st H ce sl) : Go Z a0 n0 M R Q pc (s0 :: s1 :: s2 :: s3 :: s4 :: s5 :: s6 :: s7 :: s8 :: s9 :: s10 :: s11 :: s12 :: s13 :: s14 :: s15 :: o :: B) (.int x :: st) H ce sl := go_istoreG (A := [s0, s1, s2, s3, s4, s5, s6, s7, s8, s9, s10, s11, s12, s13, s14, s15]) rfl ho hd h
theorem go_astore16 {s0 s1 s2 s3 s4 s5 s6 s7 s8 s9 s10 s11 s12 s13 s14 s15 o : Slot} {B : List Slot} {x : Addr} (hd : Ins M pc (.astore 16) 2 pc') (ho : One o) (h : Go Z a0 n0 M R Q pc' (s0 :: s1 :: s2 :: s3 :: s4 :: s5 :: s6 :: s7 :: s8 :: s9 :: s10 :: s11 :: s12 :: s13 :: s14 :: s15 :: .val (.ref x) :: B) st H ce sl) : Go Z a0 n0 M R Q pc (s0 :: s1 :: s2 :: s3 :: s4 :: s5 :: s6 :: s7 :: s8 :: s9 :: s10 :: s11 :: s12 :: s13 :: s14 :: s15 :: o :: B) (.ref x :: st) H ce sl := go_astoreG (A := [s0, s1, s2, s3, s4, s5, s6, s7, s8, s9, s10, s11, s12, s13, s14, s15]) rfl ho hd h
theorem go_lstore16 {s0 s1 s2 s3 s4 s5 s6 s7 s8 s9 s10 s11 s12 s13 s14 s15 o o' : Slot} {B : List Slot} {x : Int64} (hd : Ins M pc (.lstore 16) 2 pc') (ho : (One o ∧ One o') ∨ ∃ y : Int64, o = .val (.long y) ∧ o' = .second) (h : Go Z a0 n0 M R Q pc' (s0 :: s1 :: s2 :: s3 :: s4 :: s5 :: s6 :: s7 :: s8 :: s9 :: s10 :: s11 :: s12 :: s13 :: s14 :: s15 :: .val (.long x) :: .second :: B) st H ce sl) : Go Z a0 n0 M R Q pc (s0 :: s1 :: s2 :: s3 :: s4 :: s5 :: s6 :: s7 :: s8 :: s9 :: s10 :: s11 :: s12 :: s13 :: s14 :: s15 :: o :: o' :: B) (.long x :: st) H ce sl := go_lstoreG (A := [s0, s1, s2, s3, s4, s5, s6, s7, s8, s9, s10, s11, s12, s13, s14, s15]) rfl ho hd h
theorem go_iinc16 {s0 s1 s2 s3 s4 s5 s6 s7 s8 s9 s10 s11 s12 s13 s14 s15 : Slot} {B : List Slot} {cst : Int} {x v : Int32} (hd : Ins M pc (.iinc 16 cst) 3 pc') (hv : x + Int32.ofInt cst = v) (h : Go Z a0 n0 M R Q pc' (s0 :: s1 :: s2 :: s3 :: s4 :: s5 :: s6 :: s7 :: s8 :: s9 :: s10 :: s11 :: s12 :: s13 :: s14 :: s15 :: .val (.int v) :: B) st H ce sl) : Go Z a0 n0 M R Q pc (s0 :: s1 :: s2 :: s3 :: s4 :: s5 :: s6 :: s7 :: s8 :: s9 :: s10 :: s11 :: s12 :: s13 :: s14 :: s15 :: .val (.int x) :: B) st H ce sl := go_iincG (A := [s0, s1, s2, s3, s4, s5, s6, s7, s8, s9, s10, s11, s12, s13, s14, s15]) rfl hd hv h
theorem go_istore17 {s0 s1 s2 s3 s4 s5 s6 s7 s8 s9 s10 s11 s12 s13 s14 s15 s16 o : Slot} {B : List Slot} {x : Int32} (hd : Ins M pc (.istore 17) 2 pc') (ho : One o) (h : Go Z a0 n0 M R Q pc' (s0 :: s1 :: s2 :: s3 :: s4 :: s5 :: s6 :: s7 :: s8 :: s9 :: s10 :: s11 :: s12 :: s13 :: s14 :: s15 :: s16 :: .val (.int x) :: B) st H ce sl) : Go Z a0 n0 M R Q pc (s0 :: s1 :: s2 :: s3 :: s4 :: s5 :: s6 :: s7 :: s8 :: s9 :: s10 :: s11 :: s12 :: s13 :: s14 :: s15 :: s16 :: o :: B) (.int x :: st) H ce sl := go_istoreG (A := [s0, s1, s2, s3, s4, s5, s6, s7, s8, s9, s10, s11, s12, s13, s14, s15, s16]) rfl ho hd h
theorem go_astore17 {s0 s1 s2 s3 s4 s5 s6 s7 s8 s9 s10 s11 s12 s13 s14 s15 s16 o : Slot} {B : List Slot} {x : Addr} (hd : Ins M pc (.astore 17) 2 pc') (ho : One o) (h : Go Z a0 n0 M R Q pc' (s0 :: s1 :: s2 :: s3 :: s4 :: s5 :: s6 :: s7 :: s8 :: s9 :: s10 :: s11 :: s12 :: s13 :: s14 :: s15 :: s16 :: .val (.ref x) :: B) st H ce sl) : Go Z a0 n0 M R Q pc (s0 :: s1 :: s2 :: s3 :: s4 :: s5 :: s6 :: s7 :: s8 :: s9 :: s10 :: s11 :: s12 :: s13 :: s14 :: s15 :: s16 :: o :: B) (.ref x :: st) H ce sl := go_astoreG (A := [s0, s1, s2, s3, s4, s5, s6, s7, s8, s9, s10, s11, s12, s13, s14, s15, s16]) rfl ho hd h
theorem go_lstore17 {s0 s1 s2 s3 s4 s5 s6 s7 s8 s9 s10 s11 s12 s13 s14 s15 s16 o o' : Slot} {B : List Slot} {x : Int64} (hd : Ins M pc (.lstore 17) 2 pc') (ho : (One o ∧ One o') ∨ ∃ y : Int64, o = .val (.long y) ∧ o' = .second) (h : Go Z a0 n0 M R Q pc' (s0 :: s1 :: s2 :: s3 :: s4 :: s5 :: s6 :: s7 :: s8 :: s9 :: s10 :: s11 :: s12 :: s13 :: s14 :: s15 :: s16 :: .val (.long x) :: .second :: B) st H ce sl) : Go Z a0 n0 M R Q pc (s0 :: s1 :: s2 :: s3 :: s4 :: s5 :: s6 :: s7 :: s8 :: s9 :: s10 :: s11 :: s12 :: s13 :: s14 :: s15 :: s16 :: o :: o' :: B) (.long x :: st) H ce sl := go_lstoreG (A := [s0, s1, s2, s3, s4, s5, s6, s7, s8, s9, s10, s11, s12, s13, s14, s15, s16]) rfl ho hd h
theorem go_iinc17 {s0 s1 s2 s3 s4 s5 s6 s7 s8 s9 s10 s11 s12 s13 s14 s15 s16 : Slot} {B : List Slot} {cst : Int} {x v : Int32} (hd : Ins M pc (.iinc 17 cst) 3 pc') (hv : x + Int32.ofInt cst = v) (h : Go Z a0 n0 M R Q pc' (s0 :: s1 :: s2 :: s3 :: s4 :: s5 :: s6 :: s7 :: s8 :: s9 :: s10 :: s11 :: s12 :: s13 :: s14 :: s15 :: s16 :: .val (.int v) :: B) st H ce sl) : Go Z a0 n0 M R Q pc (s0 :: s1 :: s2 :: s3 :: s4 :: s5 :: s6 :: s7 :: s8 :: s9 :: s10 :: s11 :: s12 :: s13 :: s14 :: s15 :: s16 :: .val (.int x) :: B) st H ce sl := go_iincG (A := [s0, s1, s2, s3, s4, s5, s6, s7, s8, s9, s10, s11, s12, s13, s14, s15, s16]) rfl hd hv h
theorem go_istore18 {s0 s1 s2 s3 s4 s5 s6 s7 s8 s9 s10 s11 s12 s13 s14 s15 s16 s17 o : Slot} {B : List Slot} {x : Int32} (hd : Ins M pc (.istore 18) 2 pc') (ho : One o) (h : Go Z a0 n0 M R Q pc' (s0 :: s1 :: s2 :: s3 :: s4 :: s5 :: s6 :: s7 :: s8 :: s9 :: s10 :: s11 :: s12 :: s13 :: s14 :: s15 :: s16 :: s17 :: .val (.int x) :: B) st H ce sl) : Go Z a0 n0 M R Q pc (s0 :: s1 :: s2 :: s3 :: s4 :: s5 :: s6 :: s7 :: s8 :: s9 :: s10 :: s11 :: s12 :: s13 :: s14 :: s15 :: s16 :: s17 :: o :: B) (.int x :: st) H ce sl := go_istoreG (A := [s0, s1, s2, s3, s4, s5, s6, s7, s8, s9, s10, s11, s12, s13, s14, s15, s16, s17]) rfl ho hd h
theorem go_astore18 {s0 s1 s2 s3 s4 s5 s6 s7 s8 s9 s10 s11 s12 s13 s14 s15 s16 s17 o : Slot} {B : List Slot} {x : Addr} (hd : Ins M pc (.astore 18) 2 pc') (ho : One o) (h : Go Z a0 n0 M R Q pc' (s0 :: s1 :: s2 :: s3 :: s4 :: s5 :: s6 :: s7 :: s8 :: s9 :: s10 :: s11 :: s12 :: s13 :: s14 :: s15 :: s16 :: s17 :: .val (.ref x) :: B) st H ce sl) : Go Z a0 n0 M R Q pc (s0 :: s1 :: s2 :: s3 :: s4 :: s5 :: s6 :: s7 :: s8 :: s9 :: s10 :: s11 :: s12 :: s13 :: s14 :: s15 :: s16 :: s17 :: o :: B) (.ref x :: st) H ce sl := go_astoreG (A := [s0, s1, s2, s3, s4, s5, s6, s7, s8, s9, s10, s11, s12, s13, s14, s15, s16, s17]) rfl ho hd h
theorem go_lstore18 {s0 s1 s2 s3 s4 s5 s6 s7 s8 s9 s10 s11 s12 s13 s14 s15 s16 s17 o o' : Slot} {B : List Slot} {x : Int64} (hd : Ins M pc (.lstore 18) 2 pc') (ho : (One o ∧ One o') ∨ ∃ y : Int64, o = .val (.long y) ∧ o' = .second) (h : Go Z a0 n0 M R Q pc' (s0 :: s1 :: s2 :: s3 :: s4 :: s5 :: s6 :: s7 :: s8 :: s9 :: s10 :: s11 :: s12 :: s13 :: s14 :: s15 :: s16 :: s17 :: .val (.long x) :: .second :: B) st H ce sl) : Go Z a0 n0 M R Q pc (s0 :: s1 :: s2 :: s3 :: s4 :: s5 :: s6 :: s7 :: s8 :: s9 :: s10 :: s11 :: s12 :: s13 :: s14 :: s15 :: s16 :: s17 :: o :: o' :: B) (.long x :: st) H ce sl := go_lstoreG (A := [s0, s1, s2, s3, s4, s5, s6, s7, s8, s9, s10, s11, s12, s13, s14, s15, s16, s17]) rfl ho hd h
theorem go_iinc18 {s0 s1 s2 s3 s4 s5 s6 s7 s8 s9 s10 s11 s12 s13 s14 s15 s16 s17 : Slot} {B : List Slot} {cst : Int} {x v : Int32} (hd : Ins M pc (.iinc 18 cst) 3 pc') (hv : x + Int32.ofInt cst = v) (h : Go Z a0 n0 M R Q pc' (s0 :: s1 :: s2 :: s3 :: s4 :: s5 :: s6 :: s7 :: s8 :: s9 :: s10 :: s11 :: s12 :: s13 :: s14 :: s15 :: s16 :: s17 :: .val (.int v) :: B) st H ce sl) : Go Z a0 n0 M R Q pc (s0 :: s1 :: s2 :: s3 :: s4 :: s5 :: s6 :: s7 :: s8 :: s9 :: s10 :: s11 :: s12 :: s13 :: s14 :: s15 :: s16 :: s17 :: .val (.int x) :: B) st H ce sl := go_iincG (A := [s0, s1, s2, s3, s4, s5, s6, s7, s8, s9, s10, s11, s12, s13, s14, s15, s16, s17]) rfl hd hv h
theorem go_istore19 {s0 s1 s2 s3 s4 s5 s6 s7 s8 s9 s10 s11 s12 s13 s14 s15 s16 s17 s18 o : Slot} {B : List Slot} {x : Int32} (hd : Ins M pc (.istore 19) 2 pc') (ho : One o) (h : Go Z a0 n0 M R Q pc' (s0 :: s1 :: s2 :: s3 :: s4 :: s5 :: s6 :: s7 :: s8 :: s9 :: s10 :: s11 :: s12 :: s13 :: s14 :: s15 :: s16 :: s17 :: s18 :: .val (.int x) :: B) st H ce sl) : Go Z a0 n0 M R Q pc (s0 :: s1 :: s2 :: s3 :: s4 :: s5 :: s6 :: s7 :: s8 :: s9 :: s10 :: s11 :: s12 :: s13 :: s14 :: s15 :: s16 :: s17 :: s18 :: o :: B) (.int x :: st) H ce sl := go_istoreG (A := [s0, s1, s2, s3, s4, s5, s6, s7, s8, s9, s10, s11, s12, s13, s14, s15, s16, s17, s18]) rfl ho hd h
theorem go_astore19 {s0 s1 s2 s3 s4 s5 s6 s7 s8 s9 s10 s11 s12 s13 s14 s15 s16 s17 s18 o : Slot} {B : List Slot} {x : Addr} (hd : Ins M pc (.astore 19) 2 pc') (ho : One o) (h : Go Z a0 n0 M R Q pc' (s0 :: s1 :: s2 :: s3 :: s4 :: s5 :: s6 :: s7 :: s8 :: s9 :: s10 :: s11 :: s12 :: s13 :: s14 :: s15 :: s16 :: s17 :: s18 :: .val (.ref x) :: B) st H ce sl) : Go Z a0 n0 M R Q pc (s0 :: s1 :: s2 :: s3 :: s4 :: s5 :: s6 :: s7 :: s8 :: s9 :: s10 :: s11 :: s12 :: s13 :: s14 :: s15 :: s16 :: s17 :: s18 :: o :: B) (.ref x :: st) H ce sl := go_astoreG (A := [s0, s1, s2, s3, s4, s5, s6, s7, s8, s9, s10, s11, s12, s13, s14, s15, s16, s17, s18]) rfl ho hd h
theorem go_lstore19 {s0 s1 s2 s3 s4 s5 s6 s7 s8 s9 s10 s11 s12 s13 s14 s15 s16 s17 s18 o o' : Slot} {B : List Slot} {x : Int64} (hd : Ins M pc (.lstore 19) 2 pc') (ho : (One o ∧ One o') ∨ ∃ y : Int64, o = .val (.long y) ∧ o' = .second) (h : Go Z a0 n0 M R Q pc' (s0 :: s1 :: s2 :: s3 :: s4 :: s5 :: s6 :: s7 :: s8 :: s9 :: s10 :: s11 :: s12 :: s13 :: s14 :: s15 :: s16 :: s17 :: s18 :: .val (.long x) :: .second :: B) st H ce sl) : Go Z a0 n0 M R Q pc (s0 :: s1 :: s2 :: s3 :: s4 :: s5 :: s6 :: s7 :: s8 :: s9 :: s10 :: s11 :: s12 :: s13 :: s14 :: s15 :: s16 :: s17 :: s18 :: o :: o' :: B) (.long x :: st) H ce sl := go_lstoreG (A := [s0, s1, s2, s3, s4, s5, s6, s7, s8, s9, s10, s11, s12, s13, s14, s15, s16, s17, s18]) rfl ho hd h
theorem go_iinc19 {s0 s1 s2 s3 s4 s5 s6 s7 s8 s9 s10 s11 s12 s13 s14 s15 s16 s17 s18 : Slot} {B : List Slot} {cst : Int} {x v : Int32} (hd : Ins M pc (.iinc 19 cst) 3 pc') (hv : x + Int32.ofInt cst = v) (h : Go Z a0 n0 M R Q pc' (s0 :: s1 :: s2 :: s3 :: s4 :: s5 :: s6 :: s7 :: s8 :: s9 :: s10 :: s11 :: s12 :: s13 :: s14 :: s15 :: s16 :: s17 :: s18 :: .val (.int v) :: B) st H ce sl) : Go Z a0 n0 M R Q pc (s0 :: s1 :: s2 :: s3 :: s4 :: s5 :: s6 :: s7 :: s8 :: s9 :: s10 :: s11 :: s12 :: s13 :: s14 :: s15 :: s16 :: s17 :: s18 :: .val (.int x) :: B) st H ce sl := go_iincG (A := [s0, s1, s2, s3, s4, s5, s6, s7, s8, s9, s10, s11, s12, s13, s14, s15, s16, s17, s18]) rfl hd hv h
theorem go_istore20 {s0 s1 s2 s3 s4 s5 s6 s7 s8 s9 s10 s11 s12 s13 s14 s15 s16 s17 s18 s19 o : Slot} {B : List Slot} {x : Int32} (hd : Ins M pc (.istore 20) 2 pc') (ho : One o) (h : Go Z a0 n0 M R Q pc' (s0 :: s1 :: s2 :: s3 :: s4 :: s5 :: s6 :: s7 :: s8 :: s9 :: s10 :: s11 :: s12 :: s13 :: s14 :: s15 :: s16 :: s17 :: s18 :: s19 :: .val (.int x) :: B) st H ce sl) : Go Z a0 n0 M R Q pc (s0 :: s1 :: s2 :: s3 :: s4 :: s5 :: s6 :: s7 :: s8 :: s9 :: s10 :: s11 :: s12 :: s13 :: s14 :: s15 :: s16 :: s17 :: s18 :: s19 :: o :: B) (.int x :: st) H ce sl := go_istoreG (A := [s0, s1, s2, s3, s4, s5, s6, s7, s8, s9, s10, s11, s12, s13, s14, s15, s16, s17, s18, s19]) rfl ho hd h
theorem go_astore20 {s0 s1 s2 s3 s4 s5 s6 s7 s8 s9 s10 s11 s12 s13 s14 s15 s16 s17 s18 s19 o : Slot} {B : List Slot} {x : Addr} (hd : Ins M pc (.astore 20) 2 pc') (ho : One o) (h : Go Z a0 n0 M R Q pc' (s0 :: s1 :: s2 :: s3 :: s4 :: s5 :: s6 :: s7 :: s8 :: s9 :: s10 :: s11 :: s12 :: s13 :: s14 :: s15 :: s16 :: s17 :: s18 :: s19 :: .val (.ref x) :: B) st H ce sl) : Go Z a0 n0 M R Q pc (s0 :: s1 :: s2 :: s3 :: s4 :: s5 :: s6 :: s7 :: s8 :: s9 :: s10 :: s11 :: s12 :: s13 :: s14 :: s15 :: s16 :: s17 :: s18 :: s19 :: o :: B) (.ref x :: st) H ce sl := go_astoreG (A := [s0, s1, s2, s3, s4, s5, s6, s7, s8, s9, s10, s11, s12, s13, s14, s15, s16, s17, s18, s19]) rfl ho hd h
theorem go_lstore20 {s0 s1 s2 s3 s4 s5 s6 s7 s8 s9 s10 s11 s12 s13 s14 s15 s16 s17 s18 s19 o o' : Slot} {B : List Slot} {x : Int64} (hd : Ins M pc (.lstore 20) 2 pc') (ho : (One o ∧ One o') ∨ ∃ y : Int64, o = .val (.long y) ∧ o' = .second) (h : Go Z a0 n0 M R Q pc' (s0 :: s1 :: s2 :: s3 :: s4 :: s5 :: s6 :: s7 :: s8 :: s9 :: s10 :: s11 :: s12 :: s13 :: s14 :: s15 :: s16 :: s17 :: s18 :: s19 :: .val (.long x) :: .second :: B) st H ce sl) : Go Z a0 n0 M R Q pc (s0 :: s1 :: s2 :: s3 :: s4 :: s5 :: s6 :: s7 :: s8 :: s9 :: s10 :: s11 :: s12 :: s13 :: s14 :: s15 :: s16 :: s17 :: s18 :: s19 :: o :: o' :: B) (.long x :: st) H ce sl := go_lstoreG (A := [s0, s1, s2, s3, s4, s5, s6, s7, s8, s9, s10, s11, s12, s13, s14, s15, s16, s17, s18, s19]) rfl ho hd h
theorem go_iinc20 {s0 s1 s2 s3 s4 s5 s6 s7 s8 s9 s10 s11 s12 s13 s14 s15 s16 s17 s18 s19 : Slot} {B : List Slot} {cst : Int} {x v : Int32} (hd : Ins M pc (.iinc 20 cst) 3 pc') (hv : x + Int32.ofInt cst = v) (h : Go Z a0 n0 M R Q pc' (s0 :: s1 :: s2 :: s3 :: s4 :: s5 :: s6 :: s7 :: s8 :: s9 :: s10 :: s11 :: s12 :: s13 :: s14 :: s15 :: s16 :: s17 :: s18 :: s19 :: .val (.int v) :: B) st H ce sl) : Go Z a0 n0 M R Q pc (s0 :: s1 :: s2 :: s3 :: s4 :: s5 :: s6 :: s7 :: s8 :: s9 :: s10 :: s11 :: s12 :: s13 :: s14 :: s15 :: s16 :: s17 :: s18 :: s19 :: .val (.int x) :: B) st H ce sl := go_iincG (A := [s0, s1, s2, s3, s4, s5, s6, s7, s8, s9, s10, s11, s12, s13, s14, s15, s16, s17, s18, s19]) rfl hd hv h
end Rules
section Heap
variable {Z : State} {a0 : Array Value} {n0 : Nat} {M : GM} {R : Room} {Q : Option Value → List GObj → Prop} {pc pc' : Nat} {L : List Slot} {st : List Value} {H : List GObj} {ce sl : Nat}
theorem idx_of {j : Int32} {i : Nat} (h : j.toInt = (i : Int)) : ¬ j < 0 ∧ j.toNatClampNeg = i := by
  constructor
  · rw [Int32.lt_iff_toInt_lt]; simp only [Int32.reduceToInt]; omega
  · simp only [Int32.toNatClampNeg]; omega
theorem idx_in' {j : Int32} {i : Nat} {c : Cell} {vs : List Value} {v : Value} (h : j.toInt = (i : Int)) (hc : c.slots = vs.toArray) (hv : vs[i]? = some v) : ¬ (j < 0 ∨ c.slots.size ≤ j.toNatClampNeg) ∧ c.slots[j.toNatClampNeg]? = some v := by
  obtain ⟨h1, h2⟩ := idx_of h
  have := (List.getElem?_eq_some_iff.mp hv).1
  refine ⟨?_, by rw [h2, hc]; simpa using hv⟩
  rintro (q | q)
  · exact h1 q
  · rw [hc, h2] at q; simp at q; omega
theorem go_getfield {idx k : Nat} {K : GLay} {vs : List Value} {O n d : String} {ty : FieldType} {v : Value} (i : Nat) (hd : Ins M pc (.getfield idx) 3 pc') (w : (Jvm.Cond.fieldLink M.1.cls idx O n d).before a0 Z = true) (hH : H[k]? = some (.inl (K, vs))) (hK : K.2[i]? = some (O, n, d, ty)) (hv : vs[i]? = some v)
    (h : Go Z a0 n0 M R Q pc' L (v :: st) H ce sl) : Go Z a0 n0 M R Q pc L (.ref (n0 + k) :: st) H ce sl := by
  obtain ⟨hd, rfl⟩ := hd
  intro p l e s m args below meth c T locs X C S E F
  obtain ⟨hx, hZ, hby, hml, hret, hlk, hown, hnm⟩ := id C
  have F0 := (S.2.2.2 k _ hH).2.2 i _ _ hK hv
  obtain ⟨T', X', e', st'⟩ := getF X hx hZ hown (host := "") (Or.inl w) Via.refl rfl F0 (g := mkF m pc L.toArray (.ref (n0 + k) :: st)) rfl rfl (hb hby hd)
  exact (h p l e s m args below meth c T' locs X' C (by rw [e']; exact S) E F).back st'
theorem nodup_ne {K : GLay} (h : (K.2.map fun q => q.2.1).Nodup) {i j : Nat} {q q' : String × String × String × FieldType} (hi : K.2[i]? = some q) (hj : K.2[j]? = some q') (ne : i ≠ j) : q.2.1 ≠ q'.2.1 := fun e => by
  obtain ⟨h1, e1⟩ := List.getElem?_eq_some_iff.mp hi
  obtain ⟨h2, e2⟩ := List.getElem?_eq_some_iff.mp hj
  refine ne ((List.getElem_inj (xs := K.2.map fun q => q.2.1) (h₀ := by simpa using h1) (h₁ := by simpa using h2) h).mp ?_)
  simpa [e1, e2] using e
theorem go_putfield {idx k : Nat} {K : GLay} {vs : List Value} {O n d : String} {ty : FieldType} {v : Value} (i : Nat) (hd : Ins M pc (.putfield idx) 3 pc') (w : (Jvm.Cond.fieldLink M.1.cls idx O n d).before a0 Z = true) (hH : H[k]? = some (.inl (K, vs))) (hK : K.2[i]? = some (O, n, d, ty)) (hi : (vs[i]?).isSome = true)
    (hL : (Jvm.Cond.lays K.1 O n d).before a0 Z = true ∨ ((Jvm.Cond.laysFinal K.1 O n d).before a0 Z = true ∧ M.1.cls = O ∧ M.1.name = "<init>")) (hn : narrow ty v = v) (hf : fits ty v = true)
    (h : Go Z a0 n0 M R Q pc' L st (H.set k (.inl (K, vs.set i v))) ce sl) : Go Z a0 n0 M R Q pc L (v :: .ref (n0 + k) :: st) H ce sl := by
  obtain ⟨hd, rfl⟩ := hd
  intro p l e s m args below meth c T locs X C S E F
  obtain ⟨hx, hZ, hby, hml, hret, hlk, hown, hnm⟩ := id C
  obtain ⟨LO, EX, FS⟩ := S.2.2.2 k _ hH
  obtain ⟨old, hold⟩ := Option.isSome_iff_exists.mp hi
  have F0 := FS i _ _ hK hold
  obtain ⟨⟨kk, wi⟩, LA, ND⟩ := LO
  have hmem := List.mem_of_getElem? hK
  obtain ⟨T', h', X', e', W, st'⟩ := putF X hx hZ hown (host := "") (Or.inl w) Via.refl rfl F0 EX (hL.imp id fun q => ⟨q.1, q.2.1, hnm.trans q.2.2⟩) wi (LA _ hmem).2 hn hf (g := mkF m pc L.toArray (v :: .ref (n0 + k) :: st)) rfl rfl (hb hby hd)
  have OB : Ob Z a0 h' (n0 + k) (.inl (K, vs.set i v)) := by
    refine ⟨⟨⟨kk, wi⟩, LA, ND⟩, EX.wr W, fun j q u hq hu => ?_⟩
    by_cases ne : j = i
    · subst ne
      cases hK.symm.trans hq
      have : u = v := by
        have hlt := (List.getElem?_eq_some_iff.mp hold).1
        simpa [List.getElem?_set_self hlt] using hu.symm
      subst this
      exact F0.same W
    · rw [List.getElem?_set_ne (Ne.symm ne)] at hu
      exact (FS j q u hq hu).other W (Or.inr (slot_ne (LA _ (List.mem_of_getElem? hq)).1 (LA _ hmem).1 (nodup_ne ND hq hK ne) (LA _ (List.mem_of_getElem? hq)).2 (LA _ hmem).2))
  have S' : Sat Z a0 n0 T'.heap (H.set k (.inl (K, vs.set i v))) := by rw [e']; exact S.put W OB
  exact (h p l e s m args below meth c T' _ X' C S' (by simpa using E) (Fr.snoc X' F (Nat.le_add_right _ _))).back st'
theorem size_one {p : Program} {l : Launch} {e : Env} {s : State} {m : MethodId} {args : Array Value} {below : List Frame} {meth : Method} {c : Code} {T T' : State} {locs : List Loc} {h' : Heap} {sl' : Nat} (X' : Stand p l e R s m args below meth c T' locs (ce + 1) sl') (e' : T'.heap = h') (S : Sat Z a0 n0 T.heap H) (E : s.heap.size + ce = n0 + H.length) {cell : Cell} (hc : h'[T.heap.size]? = some cell) : h'.size = T.heap.size + 1 := by
  have h1 := X'.heapSize
  have h2 := (Array.getElem?_eq_some_iff.mp hc).1
  have h3 := S.2.2.1
  rw [e'] at h1
  omega
theorem go_new {idx n : Nat} (K : GLay) {vs : List Value} (hd : Ins M pc (.new idx) 3 pc') (w : (Jvm.Cond.classLink M.1.cls idx K.1).before a0 Z = true) (wi : (Jvm.Cond.instantiable K.1 n).before a0 Z = true) (wz : (Jvm.Cond.initialized K.1).before a0 Z = true) (hK : LayOk Z a0 K) (hvs : K.2.map (fun q => defaultValue q.2.2.2) = vs) {k : Nat} (hk : H.length = k) (hc : ce + 1 ≤ R.cells) (hs : sl + n ≤ R.slots)
    (h : Go Z a0 n0 M R Q pc' L (.ref (n0 + k) :: st) (H ++ [.inl (K, vs)]) (ce + 1) (sl + n)) : Go Z a0 n0 M R Q pc L st H ce sl := by
  obtain ⟨hd, rfl⟩ := hd
  subst hk
  intro p l e s m args below meth c T locs X C S E F
  obtain ⟨hx, hZ, hby, hml, hret, hlk, hown, hnm⟩ := id C
  obtain ⟨T', h', X', e', EX, A, D, ⟨cell, hcell, -⟩, st'⟩ := newO X hx hZ hown w wi wz rfl (g := mkF m pc L.toArray st) rfl (hb hby hd) hc hs
  have hsz := size_one X' e' S E hcell
  have OB : Ob Z a0 h' T.heap.size (.inl (K, vs)) := by
    refine ⟨hK, A, fun i q v hq hv => ?_⟩
    subst hvs
    rw [List.getElem?_map, hq] at hv
    cases hv
    obtain ⟨h1, h2⟩ := hK.2.1 q (List.mem_of_getElem? hq)
    exact D h1 h2
  have S' : Sat Z a0 n0 T'.heap (H ++ [.inl (K, vs)]) := by rw [e']; exact S.push EX hsz OB
  refine (h p l e s m args below meth c T' _ X' C S' (by simp; omega) F).back ?_
  rw [← S.2.2.1]; exact st'
theorem go_newarray {aty : ArrayType} {ty : FieldType} {n : Int32} {vs : List Value} (cap : Nat) (hd : Ins M pc (.newarray aty) 2 pc') (hty : newarray.typeOf aty = ty) (w : (Jvm.Cond.arrayClass ty).before a0 Z = true) (hn : ¬ n < 0) (hvs : List.replicate n.toNatClampNeg (defaultValue ty) = vs) (hcap : n.toNatClampNeg ≤ cap) (hbb : cap * 8 ≤ 536870912) {k : Nat} (hk : H.length = k) (hc : ce + 1 ≤ R.cells) (hs : sl + cap ≤ R.slots)
    (h : Go Z a0 n0 M R Q pc' L (.ref (n0 + k) :: st) (H ++ [.inr (ty, vs)]) (ce + 1) (sl + cap)) : Go Z a0 n0 M R Q pc L (.int n :: st) H ce sl := by
  obtain ⟨hd, rfl⟩ := hd
  subst hk hty hvs
  intro p l e s m args below meth c T locs X C S E F
  obtain ⟨hx, hZ, hby, hml, hret, hlk, hown, hnm⟩ := id C
  obtain ⟨T', h', cA, X', e', EX, A, EA, st'⟩ := newPE X hx hZ w rfl (g := mkF m pc L.toArray (.int n :: st)) rfl (hb hby hd) rfl hn hcap hbb hc hs rfl
  have hsz := size_one X' e' S E A.1
  have OB : Ob Z a0 h' T.heap.size (.inr (newarray.typeOf aty, List.replicate n.toNatClampNeg (defaultValue (newarray.typeOf aty)))) := by
    refine ⟨_, A, by simp [newA], fun v hv => ?_, EA, fun C hC => ?_⟩
    · obtain rfl := (List.mem_replicate.mp hv).2
      cases aty <;> rfl
    · cases aty <;> cases hC
  have S' := S.push EX hsz OB
  rw [← e'] at S'
  refine (h p l e s m args below meth c T' _ X' C S' (by simp; omega) F).back ?_
  rw [← S.2.2.1]; exact st'
theorem go_anewarray {idx : Nat} {Cn : String} {n : Int32} {vs : List Value} (cap : Nat) (hd : Ins M pc (.anewarray idx) 3 pc') (w1 : (Jvm.Cond.classLink M.1.cls idx Cn).before a0 Z = true) (w : (Jvm.Cond.arrayOver (.object Cn)).before a0 Z = true) (hn : ¬ n < 0) (hvs : List.replicate n.toNatClampNeg Value.null = vs) (hcap : n.toNatClampNeg ≤ cap) (hbb : cap * 8 ≤ 536870912) {k : Nat} (hk : H.length = k) (hc : ce + 1 ≤ R.cells) (hs : sl + cap ≤ R.slots)
    (h : Go Z a0 n0 M R Q pc' L (.ref (n0 + k) :: st) (H ++ [.inr (.object Cn, vs)]) (ce + 1) (sl + cap)) : Go Z a0 n0 M R Q pc L (.int n :: st) H ce sl := by
  obtain ⟨hd, rfl⟩ := hd
  subst hk hvs
  intro p l e s m args below meth c T locs X C S E F
  obtain ⟨hx, hZ, hby, hml, hret, hlk, hown, hnm⟩ := id C
  obtain ⟨T', h', cA, X', e', EX, A, EA, OV, st'⟩ := newRE X hx hZ hown w1 w rfl (g := mkF m pc L.toArray (.int n :: st)) rfl (hb hby hd) rfl hn hcap hbb hc hs rfl
  have hsz := size_one X' e' S E A.1
  have OB : Ob Z a0 h' T.heap.size (.inr (.object Cn, List.replicate n.toNatClampNeg Value.null)) := by
    refine ⟨_, A, by simp [newA, defaultValue], fun v hv => ?_, EA, fun C hC => ?_⟩
    · obtain rfl := (List.mem_replicate.mp hv).2
      rfl
    · cases hC; exact OV
  have S' := S.push EX hsz OB
  rw [← e'] at S'
  refine (h p l e s m args below meth c T' _ X' C S' (by simp; omega) F).back ?_
  rw [← S.2.2.1]; exact st'
theorem go_arraylength {k : Nat} {ty : FieldType} {vs : List Value} {n : Int32} (hd : Ins M pc .arraylength 1 pc') (hH : H[k]? = some (.inr (ty, vs))) (hn : vs.length.toInt32 = n) (h : Go Z a0 n0 M R Q pc' L (.int n :: st) H ce sl) : Go Z a0 n0 M R Q pc L (.ref (n0 + k) :: st) H ce sl := by
  obtain ⟨hd, rfl⟩ := hd
  intro p l e s m args below meth c T locs X C S E F
  obtain ⟨hx, hZ, hby, hml, hret, hlk, hown, hnm⟩ := id C
  obtain ⟨cl, A, hs, -⟩ := S.2.2.2 k _ hH
  have hlen : cl.slots.size.toInt32 = n := by rw [hs]; simpa using hn
  refine (h p l e s m args below meth c T _ X C S E F).back fun t k' => ?_
  exact X.arraylength hx A.1 (State.isArrayOf_alike hZ.alike A.2.1) (g := mkF m pc L.toArray (.ref (n0 + k) :: st)) rfl rfl (hb hby hd) t (by rw [hlen]; exact k')
theorem go_iaload {k i : Nat} {j x : Int32} {vs : List Value} (hd : Ins M pc .iaload 1 pc') (hH : H[k]? = some (.inr (.int, vs))) (hj : j.toInt = (i : Int)) (hv : vs[i]? = some (.int x)) (h : Go Z a0 n0 M R Q pc' L (.int x :: st) H ce sl) : Go Z a0 n0 M R Q pc L (.int j :: .ref (n0 + k) :: st) H ce sl := by
  obtain ⟨hd, rfl⟩ := hd
  intro p l e s m args below meth c T locs X C S E F
  obtain ⟨hx, hZ, hby, hml, hret, hlk, hown, hnm⟩ := id C
  obtain ⟨cl, A, hs, -⟩ := S.2.2.2 k _ hH
  obtain ⟨g1, g2⟩ := idx_in' hj hs hv
  refine (h p l e s m args below meth c T _ X C S E F).back fun t k' => ?_
  exact X.iaload hx A.1 (State.isArrayOf_alike hZ.alike A.2.1) A.2.2 g1 g2 (g := mkF m pc L.toArray (.int j :: .ref (n0 + k) :: st)) rfl rfl (hb hby hd) t k'
theorem go_laload {k i : Nat} {j : Int32} {x : Int64} {vs : List Value} (hd : Ins M pc .laload 1 pc') (hH : H[k]? = some (.inr (.long, vs))) (hj : j.toInt = (i : Int)) (hv : vs[i]? = some (.long x)) (h : Go Z a0 n0 M R Q pc' L (.long x :: st) H ce sl) : Go Z a0 n0 M R Q pc L (.int j :: .ref (n0 + k) :: st) H ce sl := by
  obtain ⟨hd, rfl⟩ := hd
  intro p l e s m args below meth c T locs X C S E F
  obtain ⟨hx, hZ, hby, hml, hret, hlk, hown, hnm⟩ := id C
  obtain ⟨cl, A, hs, -⟩ := S.2.2.2 k _ hH
  obtain ⟨g1, g2⟩ := idx_in' hj hs hv
  refine (h p l e s m args below meth c T _ X C S E F).back fun t k' => ?_
  exact X.laload hx A.1 (State.isArrayOf_alike hZ.alike A.2.1) A.2.2 g1 g2 (g := mkF m pc L.toArray (.int j :: .ref (n0 + k) :: st)) rfl rfl (hb hby hd) t k'
theorem go_baload {k i : Nat} {j x : Int32} {vs : List Value} (hd : Ins M pc .baload 1 pc') (hH : H[k]? = some (.inr (.byte, vs))) (hj : j.toInt = (i : Int)) (hv : vs[i]? = some (.int x)) (h : Go Z a0 n0 M R Q pc' L (.int x :: st) H ce sl) : Go Z a0 n0 M R Q pc L (.int j :: .ref (n0 + k) :: st) H ce sl := by
  obtain ⟨hd, rfl⟩ := hd
  intro p l e s m args below meth c T locs X C S E F
  obtain ⟨hx, hZ, hby, hml, hret, hlk, hown, hnm⟩ := id C
  obtain ⟨cl, A, hs, -⟩ := S.2.2.2 k _ hH
  obtain ⟨g1, g2⟩ := idx_in' hj hs hv
  refine (h p l e s m args below meth c T _ X C S E F).back fun t k' => ?_
  exact X.baloadBytes hx A.1 (State.isArrayOf_alike hZ.alike A.2.1) A.2.2 g1 g2 (g := mkF m pc L.toArray (.int j :: .ref (n0 + k) :: st)) rfl rfl (hb hby hd) t k'
theorem go_aaload {k i : Nat} {j : Int32} {x : Value} {ty : FieldType} {vs : List Value} (hd : Ins M pc .aaload 1 pc') (hH : H[k]? = some (.inr (ty, vs))) (hty : ty.isReference = true) (hj : j.toInt = (i : Int)) (hv : vs[i]? = some x) (h : Go Z a0 n0 M R Q pc' L (x :: st) H ce sl) : Go Z a0 n0 M R Q pc L (.int j :: .ref (n0 + k) :: st) H ce sl := by
  obtain ⟨hd, rfl⟩ := hd
  intro p l e s m args below meth c T locs X C S E F
  obtain ⟨hx, hZ, hby, hml, hret, hlk, hown, hnm⟩ := id C
  obtain ⟨cl, A, hs, -⟩ := S.2.2.2 k _ hH
  obtain ⟨g1, g2⟩ := idx_in' hj hs hv
  refine (h p l e s m args below meth c T _ X C S E F).back fun t k' => ?_
  exact X.aaload hx A.1 (State.isArrayOf_alike hZ.alike A.2.1) hty A.2.2 g1 g2 (g := mkF m pc L.toArray (.int j :: .ref (n0 + k) :: st)) rfl rfl (hb hby hd) t k'
theorem ob_set {h h' : Heap} {a : Addr} {c : Cell} {ty : FieldType} {vs : List Value} {v : Value} {i : Nat} (A : Arr Z h a c ty) (hs : c.slots = vs.toArray) (hf : ∀ v ∈ vs, fits ty v = true) (EA : Exa Z h a ("[" ++ ty.toString)) (OV : ∀ C, ty = .object C → Ovr Z c.cls C) (W : Wr h h' a i v) (hv : fits ty v = true) : Ob Z a0 h' a (.inr (ty, vs.set i v)) :=
  ⟨c.setSlot i v, A.same W, by simp [Cell.setSlot, hs], fun u hu => (List.mem_or_eq_of_mem_set hu).elim (hf u) (fun q => q ▸ hv), EA.wr W, OV⟩
theorem go_iastore {k i : Nat} {j x : Int32} {vs : List Value} (hd : Ins M pc .iastore 1 pc') (hH : H[k]? = some (.inr (.int, vs))) (hj : j.toInt = (i : Int)) (hi : (vs[i]?).isSome = true) (h : Go Z a0 n0 M R Q pc' L st (H.set k (.inr (.int, vs.set i (.int x)))) ce sl) : Go Z a0 n0 M R Q pc L (.int x :: .int j :: .ref (n0 + k) :: st) H ce sl := by
  obtain ⟨hd, rfl⟩ := hd
  intro p l e s m args below meth c T locs X C S E F
  obtain ⟨hx, hZ, hby, hml, hret, hlk, hown, hnm⟩ := id C
  obtain ⟨cl, A, hs, hf, EA, OV⟩ := S.2.2.2 k _ hH
  obtain ⟨old, hold⟩ := Option.isSome_iff_exists.mp hi
  obtain ⟨g1, -⟩ := idx_in' hj hs hold
  obtain ⟨T', h', X', e', W, st'⟩ := stI X hx hZ rfl A g1 (x := x) (g := mkF m pc L.toArray (.int x :: .int j :: .ref (n0 + k) :: st)) rfl rfl (hb hby hd)
  rw [(idx_of hj).2] at W
  have S' := S.put W (ob_set (a0 := a0) A hs hf EA OV W rfl)
  rw [← e'] at S'
  exact (h p l e s m args below meth c T' _ X' C S' (by simpa using E) (Fr.snoc X' F (Nat.le_add_right _ _))).back st'
theorem go_lastore {k i : Nat} {j : Int32} {x : Int64} {vs : List Value} (hd : Ins M pc .lastore 1 pc') (hH : H[k]? = some (.inr (.long, vs))) (hj : j.toInt = (i : Int)) (hi : (vs[i]?).isSome = true) (h : Go Z a0 n0 M R Q pc' L st (H.set k (.inr (.long, vs.set i (.long x)))) ce sl) : Go Z a0 n0 M R Q pc L (.long x :: .int j :: .ref (n0 + k) :: st) H ce sl := by
  obtain ⟨hd, rfl⟩ := hd
  intro p l e s m args below meth c T locs X C S E F
  obtain ⟨hx, hZ, hby, hml, hret, hlk, hown, hnm⟩ := id C
  obtain ⟨cl, A, hs, hf, EA, OV⟩ := S.2.2.2 k _ hH
  obtain ⟨old, hold⟩ := Option.isSome_iff_exists.mp hi
  obtain ⟨g1, -⟩ := idx_in' hj hs hold
  obtain ⟨T', h', X', e', W, st'⟩ := stJ X hx hZ rfl A g1 (x := x) (g := mkF m pc L.toArray (.long x :: .int j :: .ref (n0 + k) :: st)) rfl rfl (hb hby hd)
  rw [(idx_of hj).2] at W
  have S' := S.put W (ob_set (a0 := a0) A hs hf EA OV W rfl)
  rw [← e'] at S'
  exact (h p l e s m args below meth c T' _ X' C S' (by simpa using E) (Fr.snoc X' F (Nat.le_add_right _ _))).back st'
theorem go_bastore {k i : Nat} {j x : Int32} {vs : List Value} (hd : Ins M pc .bastore 1 pc') (hH : H[k]? = some (.inr (.byte, vs))) (hj : j.toInt = (i : Int)) (hi : (vs[i]?).isSome = true) (h : Go Z a0 n0 M R Q pc' L st (H.set k (.inr (.byte, vs.set i (.int x.toInt8.toInt32)))) ce sl) : Go Z a0 n0 M R Q pc L (.int x :: .int j :: .ref (n0 + k) :: st) H ce sl := by
  obtain ⟨hd, rfl⟩ := hd
  intro p l e s m args below meth c T locs X C S E F
  obtain ⟨hx, hZ, hby, hml, hret, hlk, hown, hnm⟩ := id C
  obtain ⟨cl, A, hs, hf, EA, OV⟩ := S.2.2.2 k _ hH
  obtain ⟨old, hold⟩ := Option.isSome_iff_exists.mp hi
  obtain ⟨g1, -⟩ := idx_in' hj hs hold
  obtain ⟨T', h', X', e', W, st'⟩ := stB X hx hZ rfl A g1 (x := x) (g := mkF m pc L.toArray (.int x :: .int j :: .ref (n0 + k) :: st)) rfl rfl (hb hby hd)
  rw [(idx_of hj).2] at W
  have S' := S.put W (ob_set (a0 := a0) A hs hf EA OV W (fits_nar_byte x))
  rw [← e'] at S'
  exact (h p l e s m args below meth c T' _ X' C S' (by simpa using E) (Fr.snoc X' F (Nat.le_add_right _ _))).back st'
theorem go_aastore {k k' i : Nat} {j : Int32} {Cn : String} {vs us : List Value} {K : GLay} (hd : Ins M pc .aastore 1 pc') (hH : H[k]? = some (.inr (.object Cn, vs))) (hH' : H[k']? = some (.inl (K, us))) (hC : K.1 = Cn) (hj : j.toInt = (i : Int)) (hi : (vs[i]?).isSome = true) (h : Go Z a0 n0 M R Q pc' L st (H.set k (.inr (.object Cn, vs.set i (.ref (n0 + k'))))) ce sl) : Go Z a0 n0 M R Q pc L (.ref (n0 + k') :: .int j :: .ref (n0 + k) :: st) H ce sl := by
  obtain ⟨hd, rfl⟩ := hd
  subst hC
  intro p l e s m args below meth c T locs X C S E F
  obtain ⟨hx, hZ, hby, hml, hret, hlk, hown, hnm⟩ := id C
  obtain ⟨cl, A, hs, hf, EA, OV⟩ := S.2.2.2 k _ hH
  obtain ⟨-, EX, -⟩ := S.2.2.2 k' _ hH'
  obtain ⟨old, hold⟩ := Option.isSome_iff_exists.mp hi
  obtain ⟨g1, -⟩ := idx_in' hj hs hold
  obtain ⟨T', h', X', e', W, st'⟩ := stR X hx hZ rfl A g1 rfl (Sto.of A (OV _ rfl) (Ins.self EX)) (g := mkF m pc L.toArray (.ref (n0 + k') :: .int j :: .ref (n0 + k) :: st)) rfl rfl (hb hby hd)
  rw [(idx_of hj).2] at W
  have S' := S.put W (ob_set (a0 := a0) A hs hf EA OV W rfl)
  rw [← e'] at S'
  exact (h p l e s m args below meth c T' _ X' C S' (by simpa using E) (Fr.snoc X' F (Nat.le_add_right _ _))).back st'
theorem go_ldc {idx : Nat} {v : Int32} (hd : Ins M pc (.ldc idx) 2 pc') (w : (Jvm.Cond.constant M.1.cls idx v).before a0 Z = true) (h : Go Z a0 n0 M R Q pc' L (.int v :: st) H ce sl) : Go Z a0 n0 M R Q pc L st H ce sl := by
  obtain ⟨hd, rfl⟩ := hd
  intro p l e s m args below meth c T locs X C S E F
  obtain ⟨hx, hZ, hby, hml, hret, hlk, hown, hnm⟩ := id C
  exact (h p l e s m args below meth c T _ X C S E F).back (X.ldcInt hx hown (mvT hZ w) (g := mkF m pc L.toArray st) rfl (hb hby hd))
theorem go_ldc2 {idx : Nat} {v : Int64} (hd : Ins M pc (.ldc2_w idx) 3 pc') (w : (Jvm.Cond.constantLong M.1.cls idx v).before a0 Z = true) (h : Go Z a0 n0 M R Q pc' L (.long v :: st) H ce sl) : Go Z a0 n0 M R Q pc L st H ce sl := by
  obtain ⟨hd, rfl⟩ := hd
  intro p l e s m args below meth c T locs X C S E F
  obtain ⟨hx, hZ, hby, hml, hret, hlk, hown, hnm⟩ := id C
  exact (h p l e s m args below meth c T _ X C S E F).back (X.ldc2Long hx hown (mvT hZ w) (g := mkF m pc L.toArray st) rfl (hb hby hd))
theorem go_getstatic {idx : Nat} {O n d : String} {v : Value} (hd : Ins M pc (.getstatic idx) 3 pc') (w : (Jvm.Cond.fieldLink M.1.cls idx O n d).before a0 Z = true) (hS : Sta Z Z.heap O n d v) (h : Go Z a0 n0 M R Q pc' L (v :: st) H ce sl) : Go Z a0 n0 M R Q pc L st H ce sl := by
  obtain ⟨hd, rfl⟩ := hd
  intro p l e s m args below meth c T locs X C S E F
  obtain ⟨hx, hZ, hby, hml, hret, hlk, hown, hnm⟩ := id C
  obtain ⟨T', X', e', st'⟩ := getS X hx hZ (host := "") hown w Via.refl rfl (hS.ext S.2.1) (g := mkF m pc L.toArray st) rfl (hb hby hd)
  exact (h p l e s m args below meth c T' _ X' C (by rw [e']; exact S) E F).back st'
theorem go_checkcastArr {idx k : Nat} {Kn : String} {ty : FieldType} {vs : List Value} (hd : Ins M pc (.checkcast idx) 3 pc') (w : (Jvm.Cond.classLink M.1.cls idx Kn).before a0 Z = true) (hH : H[k]? = some (.inr (ty, vs))) (hK : "[" ++ ty.toString = Kn) (h : Go Z a0 n0 M R Q pc' L (.ref (n0 + k) :: st) H ce sl) : Go Z a0 n0 M R Q pc L (.ref (n0 + k) :: st) H ce sl := by
  obtain ⟨hd, rfl⟩ := hd
  subst hK
  intro p l e s m args below meth c T locs X C S E F
  obtain ⟨hx, hZ, hby, hml, hret, hlk, hown, hnm⟩ := id C
  obtain ⟨cl, A, hs, hf, EA, OV⟩ := S.2.2.2 k _ hH
  obtain ⟨T', X', e', st'⟩ := castY X hx hZ hown w rfl (Ins.self EA) (g := mkF m pc L.toArray (.ref (n0 + k) :: st)) rfl rfl (hb hby hd)
  exact (h p l e s m args below meth c T' _ X' C (by rw [e']; exact S) E F).back st'
theorem go_initO {idx : Nat} {a : Addr} (hd : Ins M pc (.invokespecial idx) 3 pc') (w1 : (Jvm.Cond.methodLink M.1.cls idx Lib.objectInit).before a0 Z = true) (w2 : (Jvm.Cond.instanceMethod Lib.objectInit).before a0 Z = true) (w3 : (Jvm.Cond.code Lib.objectInit object_method_1_code 1 none).before a0 Z = true) (hL : L.length = M.2.2.1) (hf : 1 ≤ R.frames) (hl : (st.map fun v => v.category).sum + 12 ≤ R.locals)
    (h : Go Z a0 n0 M R Q pc' L st H ce sl) : Go Z a0 n0 M R Q pc L (.ref a :: st) H ce sl := by
  obtain ⟨hd, rfl⟩ := hd
  intro p l e s m args below meth c T locs X C S E F
  obtain ⟨hx, hZ, hby, hml, hret, hlk, hown, hnm⟩ := id C
  obtain ⟨T', X', e', st'⟩ := initO X hx hZ hown w1 w2 w3 rfl (g := mkF m pc L.toArray (.ref a :: st)) rfl (by simpa [hml] using hL) rfl (hb hby hd) hf (W := (st.map fun v => v.category).sum) (by simp) hl
  exact (h p l e s m args below meth c T' _ X' C (by rw [e']; exact S) E F).back st'
theorem fin_of {p : Program} {l : Launch} {e : Env} {s : State} {m : MethodId} {args : Array Value} {below : List Frame} {meth : Method} {c : Code} {T : State} {locs : List Loc} {v : Option Value} {S0 : State} (X : Stand p l e R s m args below meth c T locs ce sl) (hlk : meth.locks = false) (hv : meth.sig.returnType = none → v = none) (S : Sat Z a0 n0 T.heap H) (F : Fr n0 locs) (hc : ce ≤ R.cells) (hs : sl ≤ R.slots) (hQ : Q v H)
    (st : ∀ fs, (∀ (f : JFrame) (acts : List Action), f.method = m → f.locked = none → f.entered = [] → (doReturn e (T.setTop f) acts v).1 = T.setFrames fs) → Steps p.tables e below S0 (T.setFrames fs)) : End Z a0 n0 R Q p e s below S0 := by
  obtain ⟨fs, hr, hrun, hended, hW, hsame⟩ := X.leave (v := v) hv hlk
  exact ⟨_, _, st fs hr, hrun, hended, v, locs, rfl, ⟨H, hQ, S, F⟩, ⟨v, rfl⟩, hW, hsame.mono hc hs⟩
theorem go_ireturn {x : Int32} {t : FieldType} (hd : Ins M pc .ireturn 1 pc') (hr : M.2.2.2 = some t) (hn : narrow t (.int x) = .int x) (ht : t = .int ∨ t = .boolean ∨ t = .byte ∨ t = .char ∨ t = .short) (hc : ce ≤ R.cells) (hs : sl ≤ R.slots) (hQ : Q (some (.int x)) H) : Go Z a0 n0 M R Q pc L (.int x :: st) H ce sl := by
  obtain ⟨hd, rfl⟩ := hd
  intro p l e s m args below meth c T locs X C S E F
  obtain ⟨hx, hZ, hby, hml, hret, hlk, hown, hnm⟩ := id C
  exact fin_of X hlk (fun q => by rw [hret, hr] at q; cases q) S F hc hs hQ fun fs hl => retOut X hx (hret.trans hr) hn (Or.inl ⟨rfl, ht, x, rfl⟩) (hb hby hd) hl
theorem go_lreturn {x : Int64} (hd : Ins M pc .lreturn 1 pc') (hr : M.2.2.2 = some .long) (hc : ce ≤ R.cells) (hs : sl ≤ R.slots) (hQ : Q (some (.long x)) H) : Go Z a0 n0 M R Q pc L (.long x :: st) H ce sl := by
  obtain ⟨hd, rfl⟩ := hd
  intro p l e s m args below meth c T locs X C S E F
  obtain ⟨hx, hZ, hby, hml, hret, hlk, hown, hnm⟩ := id C
  exact fin_of X hlk (fun q => by rw [hret, hr] at q; cases q) S F hc hs hQ fun fs hl => retOut X hx (hret.trans hr) rfl (Or.inr (Or.inl ⟨rfl, rfl, x, rfl⟩)) (hb hby hd) hl
theorem go_areturn {w : Value} {t : FieldType} (hd : Ins M pc .areturn 1 pc') (hr : M.2.2.2 = some t) (ht : t.isReference = true) (hw : w.isRef = true) (hn : narrow t w = w) (hc : ce ≤ R.cells) (hs : sl ≤ R.slots) (hQ : Q (some w) H) : Go Z a0 n0 M R Q pc L (w :: st) H ce sl := by
  obtain ⟨hd, rfl⟩ := hd
  intro p l e s m args below meth c T locs X C S E F
  obtain ⟨hx, hZ, hby, hml, hret, hlk, hown, hnm⟩ := id C
  exact fin_of X hlk (fun q => by rw [hret, hr] at q; cases q) S F hc hs hQ fun fs hl => retOut X hx (hret.trans hr) hn (Or.inr (Or.inr (Or.inr (Or.inr ⟨rfl, ht, hw⟩)))) (hb hby hd) hl
theorem go_return (hd : Ins M pc .return_ 1 pc') (hr : M.2.2.2 = none) (hc : ce ≤ R.cells) (hs : sl ≤ R.slots) (hQ : Q none H) : Go Z a0 n0 M R Q pc L [] H ce sl := by
  obtain ⟨hd, rfl⟩ := hd
  intro p l e s m args below meth c T locs X C S E F
  obtain ⟨hx, hZ, hby, hml, hret, hlk, hown, hnm⟩ := id C
  exact fin_of X hlk (fun q => rfl) S F hc hs hQ fun fs hl => X.returnOut hx (hret.trans hr) (hb hby hd) hl
end Heap
section More
variable {Z : State} {a0 : Array Value} {n0 : Nat} {M : GM} {R : Room} {Q : Option Value → List GObj → Prop} {pc pc' : Nat} {L : List Slot} {st : List Value} {H : List GObj} {ce sl : Nat}
theorem go_clone {idx k : Nat} {ad : String} {ty : FieldType} {vs : List Value} (cap : Nat) (hd : Ins M pc (.invokevirtual idx) 3 pc') (w1 : (Jvm.Cond.methodLink M.1.cls idx ⟨ad, "clone", "()Ljava/lang/Object;"⟩).before a0 Z = true) (w2 : (Jvm.Cond.sameMethod ad "java/lang/Object" "clone" "()Ljava/lang/Object;").before a0 Z = true) (w3 : (Jvm.Cond.native ⟨"java/lang/Object", "clone", "()Ljava/lang/Object;"⟩).before a0 Z = true)
    (w4 : (Jvm.Cond.instanceMethod ⟨"java/lang/Object", "clone", "()Ljava/lang/Object;"⟩).before a0 Z = true) (w5 : (Jvm.Cond.selects ad ⟨ad, "clone", "()Ljava/lang/Object;"⟩ ⟨"java/lang/Object", "clone", "()Ljava/lang/Object;"⟩).before a0 Z = true) (w6 : (Jvm.Cond.castable ad "java/lang/Cloneable").before a0 Z = true)
    (hH : H[k]? = some (.inr (ty, vs))) (had : "[" ++ ty.toString = ad) (hL : L.length = M.2.2.1) (hf : 1 ≤ R.frames) (hl : (st.map fun v => v.category).sum + 14 ≤ R.locals) (hcap : vs.length ≤ cap) {k' : Nat} (hk : H.length = k') (hc : ce + 1 ≤ R.cells) (hs : sl + cap ≤ R.slots)
    (h : Go Z a0 n0 M R Q pc' L (.ref (n0 + k') :: st) (H ++ [.inr (ty, vs)]) (ce + 1) (sl + cap)) : Go Z a0 n0 M R Q pc L (.ref (n0 + k) :: st) H ce sl := by
  obtain ⟨hd, rfl⟩ := hd
  subst hk had
  intro p l e s m args below meth c T locs X C S E F
  obtain ⟨hx, hZ, hby, hml, hret, hlk, hown, hnm⟩ := id C
  obtain ⟨cl, A, hsl, hfit, EA, OV⟩ := S.2.2.2 k _ hH
  have FC : FitC Z cl := fitC_of A fun i hi v hv => by
    rw [hsl] at hv
    exact hfit v (List.mem_of_getElem? (by simpa using hv))
  obtain ⟨T', h', X', e', EX, A', EA', st'⟩ := cloneA X hx hZ hown w1 w2 w3 w4 w5 w6 rfl A EA FC (g := mkF m pc L.toArray (.ref (n0 + k) :: st)) rfl (by simpa [hml] using hL) rfl (hb hby hd) hf (W := (st.map fun v => v.category).sum) (by simp) hl (cap := cap) (by rw [hsl]; simpa using hcap) hc hs
  have hsz := size_one X' e' S E A'.1
  have S' := S.push EX hsz (show Ob Z a0 h' T.heap.size (.inr (ty, vs)) from ⟨_, A', hsl, hfit, EA', OV⟩)
  rw [← e'] at S'
  refine (h p l e s m args below meth c T' _ X' C S' (by simp; omega) F).back ?_
  rw [← S.2.2.1]; exact st'
theorem go_dconst1 (hd : Ins M pc (.dconst 1) 1 pc') (h : Go Z a0 n0 M R Q pc' L (.double FP.dconst1 :: st) H ce sl) : Go Z a0 n0 M R Q pc L st H ce sl := by
  obtain ⟨hd, rfl⟩ := hd
  refine go_pure (fun p e m below c T t hA hx hy k => ?_) h
  have hd' := hb hy hd
  jvm_step hA [hA.top, hx, hd', dconst.wp_sem]
  exact k
theorem go_dloadN {k : Fin 4} {v : UInt64} (hd : Ins M pc (.dload_n k) 1 pc') (hl : L[k.val]? = some (.val (.double v))) (h : Go Z a0 n0 M R Q pc' L (.double v :: st) H ce sl) : Go Z a0 n0 M R Q pc L st H ce sl := by
  obtain ⟨hd, rfl⟩ := hd
  refine go_pure (fun p e m below c T t hA hx hy k' => ?_) h
  have hd' := hb hy hd
  have hl' : L.toArray[k.val]? = some (.val (.double v)) := by simpa using hl
  jvm_step hA [hA.top, hx, hd', hl']
  exact k'
end More
section Calls
variable {Z : State} {a0 : Array Value} {n0 : Nat} {M : GM} {R : Room} {Q : Option Value → List GObj → Prop} {pc pc' : Nat} {L : List Slot} {st : List Value} {H : List GObj} {ce sl : Nat}
/-- the contract of a body: from these arguments and these objects it comes back, and what it leaves meets Q -/
def MetW (Z : State) (a0 : Array Value) (n0 : Nat) (M : GM) (ws : List Jvm.Cond) (R : Room) (as : List Value) (H : List GObj) (Q : Option Value → List GObj → Prop) : Prop :=
  ∀ (l : Launch) (h : Heap), Sat Z a0 n0 h H → MetFree l M.1 (head1 (Jvm.Cond.code M.1 M.2.1 M.2.2.1 M.2.2.2 :: ws) R) (fun a U => a = as.toArray ∧ Z.Warmed39 U.vm ∧ U.heap = h) (fun _ _ _ _ _ => True)
    (fun _ U o U' => ∃ v L, o = .returned v ∧ (∃ H', Q v H' ∧ Sat Z a0 n0 U'.heap H' ∧ Fr n0 L) ∧ FrameEnd U o U' L R.cells R.slots)
def locsF (as : List Value) : List Slot := as.flatMap fun v => if v.category = 2 then [.val v, .second] else [.val v]
def locsOf (as : List Value) (n : Nat) : List Slot := locsF as ++ List.replicate (n - (locsF as).length) .unset
theorem args_eq (as : List Value) (n : Nat) : argsToLocals as.toArray n = (locsOf as n).toArray := by
  have h : ∀ (as : List Value) (acc : Array Slot), as.foldl (fun acc v => if v.category = 2 then (acc.push (.val v)).push .second else acc.push (.val v)) acc = acc ++ (locsF as).toArray := by
    intro as
    induction as with
    | nil => intro acc; simp [locsF]
    | cons v t ih =>
      intro acc
      rw [List.foldl_cons, ih]
      by_cases c : v.category = 2 <;> simp [locsF, c]
  have h' := h as #[]
  unfold argsToLocals
  simp only [List.foldl_toArray', List.size_toArray]
  rw [h']
  simp [locsOf]
theorem MetW.intro {ws : List Jvm.Cond} {as : List Value} (L : List Slot) (hp : plainFor M.1 = true) (he : locsOf as M.2.2.1 = L) (h : Go Z a0 n0 M R Q 0 L [] H 0 0) : MetW Z a0 n0 M ws R as H Q := by
  intro l h0 S
  refine MetFree.of_bodySF hp hisR ?_
  intro p e s m args below meth c s₁ Bd hml0 hP hK
  obtain ⟨rfl, hZ, hh⟩ := hP
  have X0 : Stand p l e R s m as.toArray below meth c s₁ [] 0 0 := Stand.of_body Bd
  have e0 : s₁.heap = h0 := by rw [← hh, Bd.state]; rfl
  have hown := findClass_of_methodNamed Bd.named
  have hnm := (name_of_methodNamed Bd.named Bd.method).1
  obtain ⟨s₂, o, h1, h2, h3, v, L', h4, h5, h6⟩ := h p l e s m _ below meth c s₁ [] X0 ⟨Bd.exec, hZ, Bd.bytes, hml0, Bd.returns, Bd.notSynchronized, hown, hnm⟩ (by rw [e0]; exact S) (by rw [hh]; exact S.2.2.1) (Fr.nil _)
  have ef : entryFrame m as.toArray M.2.2.1 = mkF m 0 L.toArray [] := by simp only [entryFrame, mkF, args_eq, he]
  exact ⟨s₂, o, castTop ef h1, h2, h3, v, L', h4, h5, h6⟩
abbrev Met (Z : State) (a0 : Array Value) (n0 : Nat) (y : GM) (fr lo k j : Nat) (as : List Value) (H : List GObj) (Q : Option Value → List GObj → Prop) : Prop := MetW Z a0 n0 y [] ({ frames := fr, cells := k, slots := j, locals := lo } : Room) as H Q
theorem Met.mono {y : GM} {fr lo k j : Nat} {as : List Value} {Q Q' : Option Value → List GObj → Prop} (h : Met Z a0 n0 y fr lo k j as H Q) (hq : ∀ v H', Q v H' → Q' v H') : Met Z a0 n0 y fr lo k j as H Q' := by
  intro l h0 S
  exact (h l h0 S).mono (fun _ _ q => q) (fun _ _ _ _ _ q => q) fun _ _ _ _ _ ⟨v, L, h1, ⟨H', h2, h3⟩, h4⟩ => ⟨v, L, h1, ⟨H', hq v H' h2, h3⟩, h4⟩
def pushV : Option Value → List Value → List Value
  | none, r => r
  | some v, r => v :: r
theorem pushV_eq (v : Option Value) (r : List Value) : pushV v r = v.toList ++ r := by cases v <;> rfl
abbrev Eq1 (r : Value) (H1 : List GObj) : Option Value → List GObj → Prop := fun v H' => v = some r ∧ H' = H1
abbrev Eq0 (H1 : List GObj) : Option Value → List GObj → Prop := fun v H' => v = none ∧ H' = H1
theorem retE {r : Value} {H1 : List GObj} {rest : List Value} {k j : Nat} (h1 : H1.length = H.length + k) (h : Go Z a0 n0 M R Q pc' L (r :: rest) H1 (ce + k) (sl + j)) : ∀ v H', Eq1 r H1 v H' → H'.length = H.length + k ∧ Go Z a0 n0 M R Q pc' L (pushV v rest) H' (ce + k) (sl + j) := by
  rintro _ _ ⟨rfl, rfl⟩; exact ⟨h1, h⟩
theorem retV {H1 : List GObj} {rest : List Value} {k j : Nat} (h1 : H1.length = H.length + k) (h : Go Z a0 n0 M R Q pc' L rest H1 (ce + k) (sl + j)) : ∀ v H', Eq0 H1 v H' → H'.length = H.length + k ∧ Go Z a0 n0 M R Q pc' L (pushV v rest) H' (ce + k) (sl + j) := by
  rintro _ _ ⟨rfl, rfl⟩; exact ⟨h1, h⟩
def noHandle (c : String) : Bool := decide (c ≠ "java/lang/invoke/MethodHandle" ∧ c ≠ "java/lang/invoke/VarHandle")
theorem go_static {y : GM} {fr lo k j idx : Nat} {as rest stk : List Value} {ps : List FieldType} {r : Option FieldType} {Q' : Option Value → List GObj → Prop} (hd : Ins M pc (.invokestatic idx) 3 pc') (hm : Met Z a0 n0 y fr lo k j as H Q')
    (w1 : (Jvm.Cond.methodLink M.1.cls idx y.1).before a0 Z = true) (w2 : (Jvm.Cond.static y.1).before a0 Z = true) (w3 : (Jvm.Cond.initialized y.1.cls).before a0 Z = true) (w4 : (Jvm.Cond.code y.1 y.2.1 y.2.2.1 y.2.2.2).before a0 Z = true) (hy : noHandle y.1.cls = true) (hpd : parseMethodDescriptor y.1.desc = some ⟨ps, r⟩) (hlen : as.length = ps.length) (hst : stk = as.reverse ++ rest) (hL : L.length = M.2.2.1)
    (hfr : fr + 1 ≤ R.frames) (hlo : (rest.map fun v => v.category).sum + (y.2.2.1 + 11) + lo ≤ R.locals) (hk : ce + k ≤ R.cells) (hj : sl + j ≤ R.slots)
    (h : ∀ v H', Q' v H' → H'.length = H.length + k ∧ Go Z a0 n0 M R Q pc' L (pushV v rest) H' (ce + k) (sl + j)) : Go Z a0 n0 M R Q pc L stk H ce sl := by
  obtain ⟨hd, rfl⟩ := hd
  subst hst
  intro p l e s m args below meth c T locs X C S E F
  obtain ⟨hx, hZ, hby, hml, hret, hlk, hown, hnm⟩ := id C
  obtain ⟨v, vm1, ⟨T', L', k', n'⟩, -, X', ⟨Lc, hQ', l', y', z'⟩, st'⟩ := Jvm.LawKit.callS X hx (y := y.1) hown (mvT hZ w1) (mvT hZ w2) (mvT hZ w3) (mvT hZ w4) (of_decide_eq_true hy)
    (backOf (W := (rest.map fun v => v.category).sum) (Q := fun v h' L => ∃ H', Q' v H' ∧ Sat Z a0 n0 h' H' ∧ Fr n0 L) (hm l T.heap S) hZ w4 w3 hfr hlo) (g := mkF m pc L.toArray (as.reverse ++ rest)) rfl (by simpa [hml] using hL) (argsL := as) (rest := rest) (lenOf hpd hlen) rfl (by simp) (hb hby hd) (fun _ _ => ⟨rfl, rfl, hk, hj⟩)
  dsimp only [Pt.U, Pt.locs, Pt.cells, Pt.slots] at X' l' y' z' st' hQ'
  subst l' y' z'
  obtain ⟨H', q, S', N⟩ := hQ'
  obtain ⟨hlen', g⟩ := h v H' q
  rw [pushV_eq] at g
  exact (g p l e s m args below meth c T' _ X' C S' (by omega) (Fr.app F N)).back st'
theorem go_special {y : GM} {fr lo k j idx : Nat} {a : Addr} {as rest stk : List Value} {ps : List FieldType} {r : Option FieldType} {Q' : Option Value → List GObj → Prop} (hd : Ins M pc (.invokespecial idx) 3 pc') (hm : Met Z a0 n0 y fr lo k j (.ref a :: as) H Q')
    (w1 : (Jvm.Cond.methodLink M.1.cls idx y.1).before a0 Z = true) (w2 : (Jvm.Cond.instanceMethod y.1).before a0 Z = true) (w3 : (Jvm.Cond.initialized y.1.cls).before a0 Z = true) (w4 : (Jvm.Cond.code y.1 y.2.1 y.2.2.1 none).before a0 Z = true) (hy1 : y.1.name = "<init>") (hr : y.2.2.2 = none) (hy : noHandle y.1.cls = true) (hpd : parseMethodDescriptor y.1.desc = some ⟨ps, r⟩) (hlen : as.length = ps.length) (hst : stk = as.reverse ++ .ref a :: rest) (hL : L.length = M.2.2.1)
    (hfr : fr + 1 ≤ R.frames) (hlo : (rest.map fun v => v.category).sum + (y.2.2.1 + 11) + lo ≤ R.locals) (hk : ce + k ≤ R.cells) (hj : sl + j ≤ R.slots)
    (h : ∀ v H', Q' v H' → H'.length = H.length + k ∧ Go Z a0 n0 M R Q pc' L (pushV v rest) H' (ce + k) (sl + j)) : Go Z a0 n0 M R Q pc L stk H ce sl := by
  obtain ⟨hd, rfl⟩ := hd
  subst hst
  intro p l e s m args below meth c T locs X C S E F
  obtain ⟨hx, hZ, hby, hml, hret, hlk, hown, hnm⟩ := id C
  have w4' : (Jvm.Cond.code y.1 y.2.1 y.2.2.1 y.2.2.2).before a0 Z = true := by rw [hr]; exact w4
  obtain ⟨v, vm1, ⟨T', L', k', n'⟩, -, X', ⟨Lc, hQ', l', y', z'⟩, st'⟩ := X.specialBack hx (y := y.1) hy1 hown (mvT hZ w1) (mvT hZ w2) (mvT hZ w4) (of_decide_eq_true hy)
    (backOf (W := (rest.map fun v => v.category).sum) (Q := fun v h' L => ∃ H', Q' v H' ∧ Sat Z a0 n0 h' H' ∧ Fr n0 L) (hm l T.heap S) hZ w4' w3 hfr hlo) (g := mkF m pc L.toArray (as.reverse ++ .ref a :: rest)) rfl (by simpa [hml] using hL) (Steps.refl _) (a := a) (argsL := as) (rest := rest) (lenOf hpd hlen) rfl (by simp) (hb hby hd) (fun _ _ => ⟨rfl, rfl, hk, hj⟩)
  dsimp only [Pt.U, Pt.locs, Pt.cells, Pt.slots] at X' l' y' z' st' hQ'
  subst l' y' z'
  obtain ⟨H', q, S', N⟩ := hQ'
  obtain ⟨hlen', g⟩ := h v H' q
  rw [pushV_eq] at g
  exact (g p l e s m args below meth c T' _ X' C S' (by omega) (Fr.app F N)).back fun t k => st'.trans k
theorem go_virtual {y : GM} {fr lo k j idx i : Nat} {K : GLay} {vs as rest stk : List Value} {ps : List FieldType} {r : Option FieldType} {Q' : Option Value → List GObj → Prop} (hd : Ins M pc (.invokevirtual idx) 3 pc') (hm : Met Z a0 n0 y fr lo k j (.ref (n0 + i) :: as) H Q') (hH : H[i]? = some (.inl (K, vs)))
    (w1 : (Jvm.Cond.methodLink M.1.cls idx y.1).before a0 Z = true) (w2 : (Jvm.Cond.declares y.1).before a0 Z = true) (w5 : (Jvm.Cond.selects K.1 y.1 y.1).before a0 Z = true) (w6 : (Jvm.Cond.instanceMethod y.1).before a0 Z = true) (w3 : (Jvm.Cond.initialized y.1.cls).before a0 Z = true) (w4 : (Jvm.Cond.code y.1 y.2.1 y.2.2.1 y.2.2.2).before a0 Z = true) (hy : noHandle y.1.cls = true) (hpd : parseMethodDescriptor y.1.desc = some ⟨ps, r⟩) (hlen : as.length = ps.length) (hst : stk = as.reverse ++ .ref (n0 + i) :: rest) (hL : L.length = M.2.2.1)
    (hfr : fr + 1 ≤ R.frames) (hlo : (rest.map fun v => v.category).sum + (y.2.2.1 + 11) + lo ≤ R.locals) (hk : ce + k ≤ R.cells) (hj : sl + j ≤ R.slots)
    (h : ∀ v H', Q' v H' → H'.length = H.length + k ∧ Go Z a0 n0 M R Q pc' L (pushV v rest) H' (ce + k) (sl + j)) : Go Z a0 n0 M R Q pc L stk H ce sl := by
  obtain ⟨hd, rfl⟩ := hd
  subst hst
  intro p l e s m args below meth c T locs X C S E F
  obtain ⟨hx, hZ, hby, hml, hret, hlk, hown, hnm⟩ := id C
  obtain ⟨cq, kq, q1, q2, q3⟩ := isOf (T := T) hZ rfl (S.2.2.2 i _ hH).2.1
  obtain ⟨v, vm1, ⟨T', L', k', n'⟩, -, X', ⟨Lc, hQ', l', y', z'⟩, st'⟩ := X.virtualBack hx (y := y.1) (z := y.1) hown (mvT hZ w1) (mvT hZ w2) (notFace_of_selects (args := #[]) (mvT hZ w5)) (mvT hZ w5) (mvT hZ w6) (of_decide_eq_true hy)
    (backOf (W := (rest.map fun v => v.category).sum) (Q := fun v h' L => ∃ H', Q' v H' ∧ Sat Z a0 n0 h' H' ∧ Fr n0 L) (hm l T.heap S) hZ w4 w3 hfr hlo) q1 q3 (g := mkF m pc L.toArray (as.reverse ++ .ref (n0 + i) :: rest)) rfl (by simpa [hml] using hL) (Steps.refl _) (argsL := as) (rest := rest) (lenOf hpd hlen) rfl (by simp) (hb hby hd) (fun _ _ => ⟨rfl, rfl, hk, hj⟩)
  dsimp only [Pt.U, Pt.locs, Pt.cells, Pt.slots] at X' l' y' z' st' hQ'
  subst l' y' z'
  obtain ⟨H', q, S', N⟩ := hQ'
  obtain ⟨hlen', g⟩ := h v H' q
  rw [pushV_eq] at g
  exact (g p l e s m args below meth c T' _ X' C S' (by omega) (Fr.app F N)).back fun t k => st'.trans k
/-- a private method by invokevirtual: its class is an ordinary one ('instantiable'), so no 'selects' word is wanted -/
theorem go_private {y : GM} {fr lo k j idx i nn : Nat} {o : GObj} {as rest stk : List Value} {ps : List FieldType} {r : Option FieldType} {Q' : Option Value → List GObj → Prop} (hd : Ins M pc (.invokevirtual idx) 3 pc') (hm : Met Z a0 n0 y fr lo k j (.ref (n0 + i) :: as) H Q') (hH : H[i]? = some o)
    (w1 : (Jvm.Cond.methodLink M.1.cls idx y.1).before a0 Z = true) (w5 : (Jvm.Cond.instantiable y.1.cls nn).before a0 Z = true) (w6 : (Jvm.Cond.instanceMethod y.1).before a0 Z = true) (w7 : (Jvm.Cond.privateMethod y.1).before a0 Z = true) (w3 : (Jvm.Cond.initialized y.1.cls).before a0 Z = true) (w4 : (Jvm.Cond.code y.1 y.2.1 y.2.2.1 y.2.2.2).before a0 Z = true) (hy : noHandle y.1.cls = true) (hpd : parseMethodDescriptor y.1.desc = some ⟨ps, r⟩) (hlen : as.length = ps.length) (hst : stk = as.reverse ++ .ref (n0 + i) :: rest) (hL : L.length = M.2.2.1)
    (hfr : fr + 1 ≤ R.frames) (hlo : (rest.map fun v => v.category).sum + (y.2.2.1 + 11) + lo ≤ R.locals) (hk : ce + k ≤ R.cells) (hj : sl + j ≤ R.slots)
    (h : ∀ v H', Q' v H' → H'.length = H.length + k ∧ Go Z a0 n0 M R Q pc' L (pushV v rest) H' (ce + k) (sl + j)) : Go Z a0 n0 M R Q pc L stk H ce sl := by
  obtain ⟨hd, rfl⟩ := hd
  subst hst
  intro p l e s m args below meth c T locs X C S E F
  obtain ⟨hx, hZ, hby, hml, hret, hlk, hown, hnm⟩ := id C
  obtain ⟨cell, hcell, hobj⟩ : ∃ cl : Cell, T.heap[n0 + i]? = some cl ∧ ∀ q, cl.vm ≠ .statics q := by
    have := S.2.2.2 i _ hH
    rcases o with ⟨K, vs⟩ | ⟨ty, vs⟩
    · exact this.2.1.cell
    · obtain ⟨c', A, -, -, EA, -⟩ := this; exact EA.cell
  obtain ⟨mk, methM, hnamed, hmethM, hstM, habM⟩ := Jvm.Cond.instanceMethod_spec (mvT (args := args) hZ w6)
  obtain ⟨methM', cM, hmethM', -, -, -, -, -, -, hsigM⟩ := Jvm.Cond.code_spec hnamed (mvT (args := args) hZ w4)
  cases hmethM.symm.trans hmethM'
  obtain ⟨c5, k5, i1, i2, i3, i4, -⟩ := Jvm.Cond.instantiable_spec (mvT (args := args) hZ w5)
  have hcl := findClass_of_methodNamed hnamed
  cases i1.symm.trans hcl
  have hni : k5.isInterface = false := by simp only [Bool.or_eq_false_iff] at i4; exact i4.1
  have hselP : selectMethod e.platform s.vm cell.cls mk = .method mk := selectMethod_private hmethM (Jvm.Cond.privateMethod_at (mvP hZ w7 (args := #[])) mk methM hnamed hmethM)
  have hK := backOf (p := p) (e := e) (below := below) (args := args) (len := 3) (W := (rest.map fun v => v.category).sum) (Q := fun v h' L => ∃ H', Q' v H' ∧ Sat Z a0 n0 h' H' ∧ Fr n0 L) (hm l T.heap S) hZ w4 w3 hfr hlo
  obtain ⟨vm₁, X₁, hstep₁⟩ := X.invokevirtual hx hown (mvT hZ w1) hnamed hmethM hstM i2 hni (of_decide_eq_true hy) (a := n0 + i) (cell := cell) hcell hobj hselP hmethM habM i2 hni (g := mkF m pc L.toArray (as.reverse ++ .ref (n0 + i) :: rest)) rfl (argsL := as) (rest := rest) (lenOf hpd hlen _ hsigM) rfl (hb hby hd)
  obtain ⟨v, ⟨T', L', k', n'⟩, X', ⟨Lc, hQ', l', y', z'⟩, st'⟩ := hK m meth c ⟨T.setVm vm₁, locs, ce, sl⟩ (mkF m pc L.toArray rest) (.invokevirtual idx) mk (.ref (n0 + i) :: as).toArray X₁ rfl (by simpa [hml] using hL) (hb hby hd) (by simp) (X₁.named hnamed) ⟨rfl, rfl, hk, hj⟩
  dsimp only [Pt.U, Pt.locs, Pt.cells, Pt.slots] at X' l' y' z' st' hQ'
  subst l' y' z'
  obtain ⟨H', q, S', N⟩ := hQ'
  obtain ⟨hlen', g⟩ := h v H' q
  rw [pushV_eq] at g
  refine (g p l e s m args below meth c T' _ X' C S' (by omega) (Fr.app F N)).back fun t k => ?_
  exact hstep₁ _ fun acts => by rw [doInvoke_state]; exact st'.trans k
end Calls
section Floats
variable {Z : State} {a0 : Array Value} {n0 : Nat} {M : GM} {R : Room} {Q : Option Value → List GObj → Prop} {pc pc' : Nat} {L : List Slot} {st : List Value} {H : List GObj} {ce sl : Nat}
theorem go_i2d {x : Int32} (hd : Ins M pc .i2d 1 pc') (h : Go Z a0 n0 M R Q pc' L (.double (FP.i2d x) :: st) H ce sl) : Go Z a0 n0 M R Q pc L (.int x :: st) H ce sl := by
  obtain ⟨hd, rfl⟩ := hd
  refine go_pure (fun p e m below c T t hA hx hy k => ?_) h
  have hd' := hb hy hd
  jvm_step hA [hA.top, hx, hd', i2d.wp_sem]
  exact k
theorem go_ddiv {x y : UInt64} (hd : Ins M pc .ddiv 1 pc') (hr : FP.ddiv x y &&& 0x7fffffffffffffff ≤ 0x7ff0000000000000) (h : Go Z a0 n0 M R Q pc' L (.double (FP.ddiv x y) :: st) H ce sl) : Go Z a0 n0 M R Q pc L (.double y :: .double x :: st) H ce sl := by
  obtain ⟨hd, rfl⟩ := hd
  refine go_pure (fun p e m below c T t hA hx hy k => ?_) h
  have hd' := hb hy hd
  have hr' : FP.Core.ddiv x y &&& 0x7fffffffffffffff ≤ 0x7ff0000000000000 := hr
  jvm_step hA [hA.top, hx, hd', ddiv.sem, anyNaN64, hr']
  exact k
theorem cmp_g (o : Option Ordering) : cmpValue o .g = FP.cmpInt 1 o := by
  rcases o with _ | o
  · rfl
  · cases o <;> rfl
theorem go_dcmpg {x y : UInt64} (hd : Ins M pc (.dcmp .g) 1 pc') (h : Go Z a0 n0 M R Q pc' L (.int (FP.cmpInt 1 (FP.dcmp x y)) :: st) H ce sl) : Go Z a0 n0 M R Q pc L (.double y :: .double x :: st) H ce sl := by
  obtain ⟨hd, rfl⟩ := hd
  rw [← cmp_g] at h
  refine go_pure (fun p e m below c T t hA hx hy k => ?_) h
  have hd' := hb hy hd
  jvm_step hA [hA.top, hx, hd', dcmp.wp_sem]
  exact k
end Floats
section RefCall
variable {Z : State} {a0 : Array Value} {n0 : Nat} {M : GM} {R : Room} {Q : Option Value → List GObj → Prop} {pc pc' : Nat} {L : List Slot} {st : List Value} {H : List GObj} {ce sl : Nat}
/-- a constructor by an entry of the pool that the sheet says is resolved (a nest-mate's private one) -/
theorem go_specialRef {y : GM} {fr lo k j idx : Nat} {a : Addr} {as rest stk : List Value} {ps : List FieldType} {r : Option FieldType} {Q' : Option Value → List GObj → Prop} (hd : Ins M pc (.invokespecial idx) 3 pc') (hm : Met Z a0 n0 y fr lo k j (.ref a :: as) H Q')
    (w1 : (Jvm.Cond.methodRef M.1.cls idx y.1).before a0 Z = true) (w2 : (Jvm.Cond.instanceMethod y.1).before a0 Z = true) (w3 : (Jvm.Cond.initialized y.1.cls).before a0 Z = true) (w4 : (Jvm.Cond.code y.1 y.2.1 y.2.2.1 none).before a0 Z = true) (hy1 : y.1.name = "<init>") (hr : y.2.2.2 = none) (hy : noHandle y.1.cls = true) (hpd : parseMethodDescriptor y.1.desc = some ⟨ps, r⟩) (hlen : as.length = ps.length) (hst : stk = as.reverse ++ .ref a :: rest) (hL : L.length = M.2.2.1)
    (hfr : fr + 1 ≤ R.frames) (hlo : (rest.map fun v => v.category).sum + (y.2.2.1 + 11) + lo ≤ R.locals) (hk : ce + k ≤ R.cells) (hj : sl + j ≤ R.slots)
    (h : ∀ v H', Q' v H' → H'.length = H.length + k ∧ Go Z a0 n0 M R Q pc' L (pushV v rest) H' (ce + k) (sl + j)) : Go Z a0 n0 M R Q pc L stk H ce sl := by
  obtain ⟨hd, rfl⟩ := hd
  subst hst
  intro p l e s m args below meth c T locs X C S E F
  obtain ⟨hx, hZ, hby, hml, hret, hlk, hown, hnm⟩ := id C
  have w4' : (Jvm.Cond.code y.1 y.2.1 y.2.2.1 y.2.2.2).before a0 Z = true := by rw [hr]; exact w4
  have sc : SCall p l e R s m args below meth c idx y.1 := SCall.of_ready hx hy1 (mvT hZ w2) (mvT hZ w4) fun U rr hW hn => by
    have hU : Z.Warmed39 U.vm := wtrans hZ hW
    have hnZ : Z.methodNamed? y.1 = some rr := by
      have q := State.methodNamed?_setVm (s := Z) hZ.alike y.1
      have q2 : (Z.setVm s.vm).methodNamed? y.1 = s.methodNamed? y.1 := congrFun (State.methodNamed?_of_vm rfl) _
      rw [← q, q2]; exact hn
    have hp := Jvm.Cond.methodRef_warmed39 hU hnZ (of_decide_eq_true hy) w1
    have hcur : (Z.setVm U.vm).vm.findClass M.1.cls = some m.cls := by
      show U.vm.findClass _ = _
      rw [hW.alike.findClass]; exact hown
    obtain ⟨m', c', f1, f2, f3, f4⟩ := Jvm.Cond.methodRef_named e hcur hp
    have hn' : (Z.setVm U.vm).methodNamed? y.1 = some rr := (State.methodNamed?_setVm (s := Z) hU.alike y.1).trans hnZ
    have f5 := State.methodFound?_of_named hn' (of_decide_eq_true hy)
    cases f5.symm.trans f1
    have hc := findClass_of_methodNamed hn'
    cases hc.symm.trans f3
    exact ⟨f4, f2⟩
  obtain ⟨v, vm1, ⟨T', L', k', n'⟩, -, X', ⟨Lc, hQ', l', y', z'⟩, st'⟩ := sc X
    (backOf (W := (rest.map fun v => v.category).sum) (Q := fun v h' L => ∃ H', Q' v H' ∧ Sat Z a0 n0 h' H' ∧ Fr n0 L) (hm l T.heap S) hZ w4' w3 hfr hlo) (g := mkF m pc L.toArray (as.reverse ++ .ref a :: rest)) rfl (by simpa [hml] using hL) (Steps.refl _) (a := a) (argsL := as) (rest := rest) (lenOf hpd hlen) rfl (by simp) (hb hby hd) (fun _ _ => ⟨rfl, rfl, hk, hj⟩)
  dsimp only [Pt.U, Pt.locs, Pt.cells, Pt.slots] at X' l' y' z' st' hQ'
  subst l' y' z'
  obtain ⟨H', q, S', N⟩ := hQ'
  obtain ⟨hlen', g⟩ := h v H' q
  rw [pushV_eq] at g
  exact (g p l e s m args below meth c T' _ X' C S' (by omega) (Fr.app F N)).back fun t k => st'.trans k
end RefCall
def M0 : GM := (x, code, maxLocals, ret)
theorem i0_0 : Ins M0 0 (.iload_n 0) 1 1 := ⟨at_0, rfl⟩
theorem i0_1 : Ins M0 1 (.bipush 7) 2 3 := ⟨at_1, rfl⟩
theorem i0_3 : Ins M0 3 (.iand) 1 4 := ⟨at_3, rfl⟩
theorem i0_4 : Ins M0 4 (.istore 4) 2 6 := ⟨at_4, rfl⟩
theorem i0_6 : Ins M0 6 (.iconst 1) 1 7 := ⟨at_6, rfl⟩
theorem i0_7 : Ins M0 7 (.iload_n 3) 1 8 := ⟨at_7, rfl⟩
theorem i0_8 : Ins M0 8 (.ldc 7) 2 10 := ⟨at_8, rfl⟩
theorem i0_10 : Ins M0 10 (.iand) 1 11 := ⟨at_10, rfl⟩
theorem i0_11 : Ins M0 11 (.invokestatic 8) 3 14 := ⟨at_11, rfl⟩
theorem i0_14 : Ins M0 14 (.istore 5) 2 16 := ⟨at_14, rfl⟩
theorem i0_16 : Ins M0 16 (.iload 4) 2 18 := ⟨at_16, rfl⟩
theorem i0_18 : Ins M0 18 (.invokestatic 14) 3 21 := ⟨at_18, rfl⟩
theorem i0_21 : Ins M0 21 (.astore 6) 2 23 := ⟨at_21, rfl⟩
theorem i0_23 : Ins M0 23 (.aload 6) 2 25 := ⟨at_23, rfl⟩
theorem i0_25 : Ins M0 25 (.invokevirtual 20) 3 28 := ⟨at_25, rfl⟩
theorem i0_28 : Ins M0 28 (.iload 4) 2 30 := ⟨at_28, rfl⟩
theorem i0_30 : Ins M0 30 (.if_icmp .eq 5) 3 33 := ⟨at_30, rfl⟩
theorem i0_33 : Ins M0 33 (.iconst 0) 1 34 := ⟨at_33, rfl⟩
theorem i0_34 : Ins M0 34 (.ireturn) 1 35 := ⟨at_34, rfl⟩
theorem i0_35 : Ins M0 35 (.aload 6) 2 37 := ⟨at_35, rfl⟩
theorem i0_37 : Ins M0 37 (.invokevirtual 24) 3 40 := ⟨at_37, rfl⟩
theorem i0_40 : Ins M0 40 (.ifCond .eq 5) 3 43 := ⟨at_40, rfl⟩
theorem i0_43 : Ins M0 43 (.iconst 0) 1 44 := ⟨at_43, rfl⟩
theorem i0_44 : Ins M0 44 (.ireturn) 1 45 := ⟨at_44, rfl⟩
theorem i0_45 : Ins M0 45 (.iload 4) 2 47 := ⟨at_45, rfl⟩
theorem i0_47 : Ins M0 47 (.ifCond .le 69) 3 50 := ⟨at_47, rfl⟩
theorem i0_50 : Ins M0 50 (.iload_n 1) 1 51 := ⟨at_50, rfl⟩
theorem i0_51 : Ins M0 51 (.ldc 7) 2 53 := ⟨at_51, rfl⟩
theorem i0_53 : Ins M0 53 (.iand) 1 54 := ⟨at_53, rfl⟩
theorem i0_54 : Ins M0 54 (.iload 4) 2 56 := ⟨at_54, rfl⟩
theorem i0_56 : Ins M0 56 (.irem) 1 57 := ⟨at_56, rfl⟩
theorem i0_57 : Ins M0 57 (.istore 7) 2 59 := ⟨at_57, rfl⟩
theorem i0_59 : Ins M0 59 (.aload 6) 2 61 := ⟨at_59, rfl⟩
theorem i0_61 : Ins M0 61 (.iload 7) 2 63 := ⟨at_61, rfl⟩
theorem i0_63 : Ins M0 63 (.invokevirtual 27) 3 66 := ⟨at_63, rfl⟩
theorem i0_66 : Ins M0 66 (.iconst (-1)) 1 67 := ⟨at_66, rfl⟩
theorem i0_67 : Ins M0 67 (.if_icmp .eq 5) 3 70 := ⟨at_67, rfl⟩
theorem i0_70 : Ins M0 70 (.iconst 0) 1 71 := ⟨at_70, rfl⟩
theorem i0_71 : Ins M0 71 (.ireturn) 1 72 := ⟨at_71, rfl⟩
theorem i0_72 : Ins M0 72 (.aload 6) 2 74 := ⟨at_72, rfl⟩
theorem i0_74 : Ins M0 74 (.iconst 0) 1 75 := ⟨at_74, rfl⟩
theorem i0_75 : Ins M0 75 (.invokevirtual 27) 3 78 := ⟨at_75, rfl⟩
theorem i0_78 : Ins M0 78 (.iconst (-1)) 1 79 := ⟨at_78, rfl⟩
theorem i0_79 : Ins M0 79 (.if_icmp .eq 5) 3 82 := ⟨at_79, rfl⟩
theorem i0_82 : Ins M0 82 (.iconst 0) 1 83 := ⟨at_82, rfl⟩
theorem i0_83 : Ins M0 83 (.ireturn) 1 84 := ⟨at_83, rfl⟩
theorem i0_84 : Ins M0 84 (.aload 6) 2 86 := ⟨at_84, rfl⟩
theorem i0_86 : Ins M0 86 (.iload 4) 2 88 := ⟨at_86, rfl⟩
theorem i0_88 : Ins M0 88 (.iconst 1) 1 89 := ⟨at_88, rfl⟩
theorem i0_89 : Ins M0 89 (.isub) 1 90 := ⟨at_89, rfl⟩
theorem i0_90 : Ins M0 90 (.invokevirtual 27) 3 93 := ⟨at_90, rfl⟩
theorem i0_93 : Ins M0 93 (.iconst (-1)) 1 94 := ⟨at_93, rfl⟩
theorem i0_94 : Ins M0 94 (.if_icmp .eq 5) 3 97 := ⟨at_94, rfl⟩
theorem i0_97 : Ins M0 97 (.iconst 0) 1 98 := ⟨at_97, rfl⟩
theorem i0_98 : Ins M0 98 (.ireturn) 1 99 := ⟨at_98, rfl⟩
theorem i0_99 : Ins M0 99 (.aload 6) 2 101 := ⟨at_99, rfl⟩
theorem i0_101 : Ins M0 101 (.invokevirtual 31) 3 104 := ⟨at_101, rfl⟩
theorem i0_104 : Ins M0 104 (.iload 7) 2 106 := ⟨at_104, rfl⟩
theorem i0_106 : Ins M0 106 (.iload 5) 2 108 := ⟨at_106, rfl⟩
theorem i0_108 : Ins M0 108 (.invokevirtual 35) 3 111 := ⟨at_108, rfl⟩
theorem i0_111 : Ins M0 111 (.ifCond .ne 5) 3 114 := ⟨at_111, rfl⟩
theorem i0_114 : Ins M0 114 (.iconst 0) 1 115 := ⟨at_114, rfl⟩
theorem i0_115 : Ins M0 115 (.ireturn) 1 116 := ⟨at_115, rfl⟩
theorem i0_116 : Ins M0 116 (.iload_n 2) 1 117 := ⟨at_116, rfl⟩
theorem i0_117 : Ins M0 117 (.iload 5) 2 119 := ⟨at_117, rfl⟩
theorem i0_119 : Ins M0 119 (.if_icmp .gt 7) 3 122 := ⟨at_119, rfl⟩
theorem i0_122 : Ins M0 122 (.iconst 1) 1 123 := ⟨at_122, rfl⟩
theorem i0_123 : Ins M0 123 (.goto 4) 3 126 := ⟨at_123, rfl⟩
theorem i0_126 : Ins M0 126 (.iconst 0) 1 127 := ⟨at_126, rfl⟩
theorem i0_127 : Ins M0 127 (.istore 7) 2 129 := ⟨at_127, rfl⟩
theorem i0_129 : Ins M0 129 (.aload 6) 2 131 := ⟨at_129, rfl⟩
theorem i0_131 : Ins M0 131 (.iload_n 2) 1 132 := ⟨at_131, rfl⟩
theorem i0_132 : Ins M0 132 (.iload 5) 2 134 := ⟨at_132, rfl⟩
theorem i0_134 : Ins M0 134 (.invokevirtual 41) 3 137 := ⟨at_134, rfl⟩
theorem i0_137 : Ins M0 137 (.iload 7) 2 139 := ⟨at_137, rfl⟩
theorem i0_139 : Ins M0 139 (.if_icmp .ne 7) 3 142 := ⟨at_139, rfl⟩
theorem i0_142 : Ins M0 142 (.iconst 1) 1 143 := ⟨at_142, rfl⟩
theorem i0_143 : Ins M0 143 (.goto 4) 3 146 := ⟨at_143, rfl⟩
theorem i0_146 : Ins M0 146 (.iconst 0) 1 147 := ⟨at_146, rfl⟩
theorem i0_147 : Ins M0 147 (.ireturn) 1 148 := ⟨at_147, rfl⟩
theorem pn0 : plainFor M0.1 = true := plainFor_of_name (by first | (simp [plainName, overriddenIn, M0, x]; done) | decide +kernel)
theorem pd0 : parseMethodDescriptor M0.1.desc = some ⟨[.int, .int, .int, .int], some (.boolean)⟩ := by decide +kernel
def M1 : GM := (⟨"java/lang/Math", "max", "(II)I"⟩, jdk_29_method_65_code, 2, some (.int))
theorem i1_0 : Ins M1 0 (.iload_n 0) 1 1 := ⟨by decide +kernel, rfl⟩
theorem i1_1 : Ins M1 1 (.iload_n 1) 1 2 := ⟨by decide +kernel, rfl⟩
theorem i1_2 : Ins M1 2 (.if_icmp .lt 7) 3 5 := ⟨by decide +kernel, rfl⟩
theorem i1_5 : Ins M1 5 (.iload_n 0) 1 6 := ⟨by decide +kernel, rfl⟩
theorem i1_6 : Ins M1 6 (.goto 4) 3 9 := ⟨by decide +kernel, rfl⟩
theorem i1_9 : Ins M1 9 (.iload_n 1) 1 10 := ⟨by decide +kernel, rfl⟩
theorem i1_10 : Ins M1 10 (.ireturn) 1 11 := ⟨by decide +kernel, rfl⟩
theorem pn1 : plainFor M1.1 = true := Jvm.Free.JP.mathPlain rfl (by decide +kernel)
theorem pd1 : parseMethodDescriptor M1.1.desc = some ⟨[.int, .int], some (.int)⟩ := by decide +kernel
def M2 : GM := (⟨"com/example/menhaden/menhaden/ShareLimit", "none", "(I)Lcom/example/menhaden/menhaden/ShareLimit;"⟩, prog_3_method_2_code, 2, some ((.object "com/example/menhaden/menhaden/ShareLimit")))
theorem i2_0 : Ins M2 0 (.iload_n 0) 1 1 := ⟨by decide +kernel, rfl⟩
theorem i2_1 : Ins M2 1 (.newarray .int) 2 3 := ⟨by decide +kernel, rfl⟩
theorem i2_3 : Ins M2 3 (.astore_n 1) 1 4 := ⟨by decide +kernel, rfl⟩
theorem i2_4 : Ins M2 4 (.aload_n 1) 1 5 := ⟨by decide +kernel, rfl⟩
theorem i2_5 : Ins M2 5 (.iconst (-1)) 1 6 := ⟨by decide +kernel, rfl⟩
theorem i2_6 : Ins M2 6 (.invokestatic 26) 3 9 := ⟨by decide +kernel, rfl⟩
theorem i2_9 : Ins M2 9 (.new 14) 3 12 := ⟨by decide +kernel, rfl⟩
theorem i2_12 : Ins M2 12 (.dup) 1 13 := ⟨by decide +kernel, rfl⟩
theorem i2_13 : Ins M2 13 (.aload_n 1) 1 14 := ⟨by decide +kernel, rfl⟩
theorem i2_14 : Ins M2 14 (.iconst 0) 1 15 := ⟨by decide +kernel, rfl⟩
theorem i2_15 : Ins M2 15 (.dconst 1) 1 16 := ⟨by decide +kernel, rfl⟩
theorem i2_16 : Ins M2 16 (.invokespecial 32) 3 19 := ⟨by decide +kernel, rfl⟩
theorem i2_19 : Ins M2 19 (.areturn) 1 20 := ⟨by decide +kernel, rfl⟩
theorem pn2 : plainFor M2.1 = true := plainFor_of_name (by first | (simp [plainName, overriddenIn, M2, x]; done) | decide +kernel)
theorem pd2 : parseMethodDescriptor M2.1.desc = some ⟨[.int], some ((.object "com/example/menhaden/menhaden/ShareLimit"))⟩ := by decide +kernel
def M3 : GM := (⟨"java/util/Arrays", "fill", "([II)V"⟩, jdk_65_method_103_code, 4, none)
theorem i3_0 : Ins M3 0 (.iconst 0) 1 1 := ⟨by decide +kernel, rfl⟩
theorem i3_1 : Ins M3 1 (.istore_n 2) 1 2 := ⟨by decide +kernel, rfl⟩
theorem i3_2 : Ins M3 2 (.aload_n 0) 1 3 := ⟨by decide +kernel, rfl⟩
theorem i3_3 : Ins M3 3 (.arraylength) 1 4 := ⟨by decide +kernel, rfl⟩
theorem i3_4 : Ins M3 4 (.istore_n 3) 1 5 := ⟨by decide +kernel, rfl⟩
theorem i3_5 : Ins M3 5 (.iload_n 2) 1 6 := ⟨by decide +kernel, rfl⟩
theorem i3_6 : Ins M3 6 (.iload_n 3) 1 7 := ⟨by decide +kernel, rfl⟩
theorem i3_7 : Ins M3 7 (.if_icmp .ge 13) 3 10 := ⟨by decide +kernel, rfl⟩
theorem i3_10 : Ins M3 10 (.aload_n 0) 1 11 := ⟨by decide +kernel, rfl⟩
theorem i3_11 : Ins M3 11 (.iload_n 2) 1 12 := ⟨by decide +kernel, rfl⟩
theorem i3_12 : Ins M3 12 (.iload_n 1) 1 13 := ⟨by decide +kernel, rfl⟩
theorem i3_13 : Ins M3 13 (.iastore) 1 14 := ⟨by decide +kernel, rfl⟩
theorem i3_14 : Ins M3 14 (.iinc 2 1) 3 17 := ⟨by decide +kernel, rfl⟩
theorem i3_17 : Ins M3 17 (.goto (-12)) 3 20 := ⟨by decide +kernel, rfl⟩
theorem i3_20 : Ins M3 20 (.return_) 1 21 := ⟨by decide +kernel, rfl⟩
theorem pn3 : plainFor M3.1 = true := plainFor_of_name (by first | (simp [plainName, overriddenIn, M3, x]; done) | decide +kernel)
theorem pd3 : parseMethodDescriptor M3.1.desc = some ⟨[(.array .int), .int], none⟩ := by decide +kernel
def M4 : GM := (⟨"com/example/menhaden/menhaden/ShareLimit", "<init>", "([IID)V"⟩, prog_3_method_1_code, 5, none)
theorem i4_0 : Ins M4 0 (.aload_n 0) 1 1 := ⟨by decide +kernel, rfl⟩
theorem i4_1 : Ins M4 1 (.invokespecial 1) 3 4 := ⟨by decide +kernel, rfl⟩
theorem i4_4 : Ins M4 4 (.aload_n 0) 1 5 := ⟨by decide +kernel, rfl⟩
theorem i4_5 : Ins M4 5 (.aload_n 1) 1 6 := ⟨by decide +kernel, rfl⟩
theorem i4_6 : Ins M4 6 (.invokevirtual 7) 3 9 := ⟨by decide +kernel, rfl⟩
theorem i4_9 : Ins M4 9 (.checkcast 8) 3 12 := ⟨by decide +kernel, rfl⟩
theorem i4_12 : Ins M4 12 (.putfield 13) 3 15 := ⟨by decide +kernel, rfl⟩
theorem i4_15 : Ins M4 15 (.aload_n 0) 1 16 := ⟨by decide +kernel, rfl⟩
theorem i4_16 : Ins M4 16 (.iload_n 2) 1 17 := ⟨by decide +kernel, rfl⟩
theorem i4_17 : Ins M4 17 (.putfield 18) 3 20 := ⟨by decide +kernel, rfl⟩
theorem i4_20 : Ins M4 20 (.aload_n 0) 1 21 := ⟨by decide +kernel, rfl⟩
theorem i4_21 : Ins M4 21 (.dload_n 3) 1 22 := ⟨by decide +kernel, rfl⟩
theorem i4_22 : Ins M4 22 (.putfield 22) 3 25 := ⟨by decide +kernel, rfl⟩
theorem i4_25 : Ins M4 25 (.return_) 1 26 := ⟨by decide +kernel, rfl⟩
theorem pn4 : plainFor M4.1 = true := plainFor_of_name (by first | (simp [plainName, overriddenIn, M4, x]; done) | decide +kernel)
theorem pd4 : parseMethodDescriptor M4.1.desc = some ⟨[(.array .int), .int, .double], none⟩ := by decide +kernel
def M6 : GM := (⟨"com/example/menhaden/menhaden/ShareLimit", "rows", "()I"⟩, prog_3_method_4_code, 1, some (.int))
theorem i6_0 : Ins M6 0 (.aload_n 0) 1 1 := ⟨by decide +kernel, rfl⟩
theorem i6_1 : Ins M6 1 (.getfield 13) 3 4 := ⟨by decide +kernel, rfl⟩
theorem i6_4 : Ins M6 4 (.arraylength) 1 5 := ⟨by decide +kernel, rfl⟩
theorem i6_5 : Ins M6 5 (.ireturn) 1 6 := ⟨by decide +kernel, rfl⟩
theorem pn6 : plainFor M6.1 = true := plainFor_of_name (by first | (simp [plainName, overriddenIn, M6, x]; done) | decide +kernel)
theorem pd6 : parseMethodDescriptor M6.1.desc = some ⟨[], some (.int)⟩ := by decide +kernel
def M7 : GM := (⟨"com/example/menhaden/menhaden/ShareLimit", "values", "()I"⟩, prog_3_method_6_code, 1, some (.int))
theorem i7_0 : Ins M7 0 (.aload_n 0) 1 1 := ⟨by decide +kernel, rfl⟩
theorem i7_1 : Ins M7 1 (.getfield 18) 3 4 := ⟨by decide +kernel, rfl⟩
theorem i7_4 : Ins M7 4 (.ireturn) 1 5 := ⟨by decide +kernel, rfl⟩
theorem pn7 : plainFor M7.1 = true := plainFor_of_name (by first | (simp [plainName, overriddenIn, M7, x]; done) | decide +kernel)
theorem pd7 : parseMethodDescriptor M7.1.desc = some ⟨[], some (.int)⟩ := by decide +kernel
def M8 : GM := (⟨"com/example/menhaden/menhaden/ShareLimit", "allows", "(II)Z"⟩, prog_3_method_8_code, 3, some (.boolean))
theorem i8_0 : Ins M8 0 (.iload_n 1) 1 1 := ⟨by decide +kernel, rfl⟩
theorem i8_1 : Ins M8 1 (.i2d) 1 2 := ⟨by decide +kernel, rfl⟩
theorem i8_2 : Ins M8 2 (.iload_n 2) 1 3 := ⟨by decide +kernel, rfl⟩
theorem i8_3 : Ins M8 3 (.i2d) 1 4 := ⟨by decide +kernel, rfl⟩
theorem i8_4 : Ins M8 4 (.ddiv) 1 5 := ⟨by decide +kernel, rfl⟩
theorem i8_5 : Ins M8 5 (.aload_n 0) 1 6 := ⟨by decide +kernel, rfl⟩
theorem i8_6 : Ins M8 6 (.getfield 22) 3 9 := ⟨by decide +kernel, rfl⟩
theorem i8_9 : Ins M8 9 (.dcmp .g) 1 10 := ⟨by decide +kernel, rfl⟩
theorem i8_10 : Ins M8 10 (.ifCond .gt 7) 3 13 := ⟨by decide +kernel, rfl⟩
theorem i8_13 : Ins M8 13 (.iconst 1) 1 14 := ⟨by decide +kernel, rfl⟩
theorem i8_14 : Ins M8 14 (.goto 4) 3 17 := ⟨by decide +kernel, rfl⟩
theorem i8_17 : Ins M8 17 (.iconst 0) 1 18 := ⟨by decide +kernel, rfl⟩
theorem i8_18 : Ins M8 18 (.ireturn) 1 19 := ⟨by decide +kernel, rfl⟩
theorem pn8 : plainFor M8.1 = true := plainFor_of_name (by first | (simp [plainName, overriddenIn, M8, x]; done) | decide +kernel)
theorem pd8 : parseMethodDescriptor M8.1.desc = some ⟨[.int, .int], some (.boolean)⟩ := by decide +kernel
def M9 : GM := (⟨"com/example/menhaden/menhaden/ShareLimit", "code", "(I)I"⟩, prog_3_method_5_code, 2, some (.int))
theorem i9_0 : Ins M9 0 (.aload_n 0) 1 1 := ⟨by decide +kernel, rfl⟩
theorem i9_1 : Ins M9 1 (.getfield 13) 3 4 := ⟨by decide +kernel, rfl⟩
theorem i9_4 : Ins M9 4 (.iload_n 1) 1 5 := ⟨by decide +kernel, rfl⟩
theorem i9_5 : Ins M9 5 (.iaload) 1 6 := ⟨by decide +kernel, rfl⟩
theorem i9_6 : Ins M9 6 (.ireturn) 1 7 := ⟨by decide +kernel, rfl⟩
theorem pn9 : plainFor M9.1 = true := plainFor_of_name (by first | (simp [plainName, overriddenIn, M9, x]; done) | decide +kernel)
theorem pd9 : parseMethodDescriptor M9.1.desc = some ⟨[.int], some (.int)⟩ := by decide +kernel
def M10 : GM := (⟨"com/example/menhaden/menhaden/ShareLimit", "held", "()Lcom/example/menhaden/menhaden/ShareLimit$Held;"⟩, prog_3_method_11_code, 1, some ((.object "com/example/menhaden/menhaden/ShareLimit$Held")))
theorem i10_0 : Ins M10 0 (.new 75) 3 3 := ⟨by decide +kernel, rfl⟩
theorem i10_3 : Ins M10 3 (.dup) 1 4 := ⟨by decide +kernel, rfl⟩
theorem i10_4 : Ins M10 4 (.aload_n 0) 1 5 := ⟨by decide +kernel, rfl⟩
theorem i10_5 : Ins M10 5 (.invokespecial 77) 3 8 := ⟨by decide +kernel, rfl⟩
theorem i10_8 : Ins M10 8 (.areturn) 1 9 := ⟨by decide +kernel, rfl⟩
theorem pn10 : plainFor M10.1 = true := plainFor_of_name (by first | (simp [plainName, overriddenIn, M10, x]; done) | decide +kernel)
theorem pd10 : parseMethodDescriptor M10.1.desc = some ⟨[], some ((.object "com/example/menhaden/menhaden/ShareLimit$Held"))⟩ := by decide +kernel
def M11 : GM := (⟨"com/example/menhaden/menhaden/ShareLimit$Held", "<init>", "(Lcom/example/menhaden/menhaden/ShareLimit;)V"⟩, prog_4_method_1_code, 2, none)
theorem i11_0 : Ins M11 0 (.aload_n 0) 1 1 := ⟨by decide +kernel, rfl⟩
theorem i11_1 : Ins M11 1 (.invokespecial 3) 3 4 := ⟨by decide +kernel, rfl⟩
theorem i11_4 : Ins M11 4 (.aload_n 0) 1 5 := ⟨by decide +kernel, rfl⟩
theorem i11_5 : Ins M11 5 (.iconst 4) 1 6 := ⟨by decide +kernel, rfl⟩
theorem i11_6 : Ins M11 6 (.newarray .int) 2 8 := ⟨by decide +kernel, rfl⟩
theorem i11_8 : Ins M11 8 (.putfield 9) 3 11 := ⟨by decide +kernel, rfl⟩
theorem i11_11 : Ins M11 11 (.aload_n 0) 1 12 := ⟨by decide +kernel, rfl⟩
theorem i11_12 : Ins M11 12 (.iconst 4) 1 13 := ⟨by decide +kernel, rfl⟩
theorem i11_13 : Ins M11 13 (.newarray .int) 2 15 := ⟨by decide +kernel, rfl⟩
theorem i11_15 : Ins M11 15 (.putfield 15) 3 18 := ⟨by decide +kernel, rfl⟩
theorem i11_18 : Ins M11 18 (.aload_n 0) 1 19 := ⟨by decide +kernel, rfl⟩
theorem i11_19 : Ins M11 19 (.iconst 2) 1 20 := ⟨by decide +kernel, rfl⟩
theorem i11_20 : Ins M11 20 (.newarray .int) 2 22 := ⟨by decide +kernel, rfl⟩
theorem i11_22 : Ins M11 22 (.putfield 18) 3 25 := ⟨by decide +kernel, rfl⟩
theorem i11_25 : Ins M11 25 (.aload_n 0) 1 26 := ⟨by decide +kernel, rfl⟩
theorem i11_26 : Ins M11 26 (.iconst 4) 1 27 := ⟨by decide +kernel, rfl⟩
theorem i11_27 : Ins M11 27 (.newarray .int) 2 29 := ⟨by decide +kernel, rfl⟩
theorem i11_29 : Ins M11 29 (.putfield 21) 3 32 := ⟨by decide +kernel, rfl⟩
theorem i11_32 : Ins M11 32 (.aload_n 0) 1 33 := ⟨by decide +kernel, rfl⟩
theorem i11_33 : Ins M11 33 (.aload_n 1) 1 34 := ⟨by decide +kernel, rfl⟩
theorem i11_34 : Ins M11 34 (.putfield 24) 3 37 := ⟨by decide +kernel, rfl⟩
theorem i11_37 : Ins M11 37 (.return_) 1 38 := ⟨by decide +kernel, rfl⟩
theorem pn11 : plainFor M11.1 = true := plainFor_of_name (by first | (simp [plainName, overriddenIn, M11, x]; done) | decide +kernel)
theorem pd11 : parseMethodDescriptor M11.1.desc = some ⟨[(.object "com/example/menhaden/menhaden/ShareLimit")], none⟩ := by decide +kernel
def M12 : GM := (⟨"com/example/menhaden/menhaden/ShareLimit$Held", "takes", "(II)Z"⟩, prog_4_method_10_code, 4, some (.boolean))
theorem i12_0 : Ins M12 0 (.aload_n 0) 1 1 := ⟨by decide +kernel, rfl⟩
theorem i12_1 : Ins M12 1 (.getfield 24) 3 4 := ⟨by decide +kernel, rfl⟩
theorem i12_4 : Ins M12 4 (.iload_n 1) 1 5 := ⟨by decide +kernel, rfl⟩
theorem i12_5 : Ins M12 5 (.invokevirtual 29) 3 8 := ⟨by decide +kernel, rfl⟩
theorem i12_8 : Ins M12 8 (.istore_n 3) 1 9 := ⟨by decide +kernel, rfl⟩
theorem i12_9 : Ins M12 9 (.iload_n 3) 1 10 := ⟨by decide +kernel, rfl⟩
theorem i12_10 : Ins M12 10 (.iconst (-1)) 1 11 := ⟨by decide +kernel, rfl⟩
theorem i12_11 : Ins M12 11 (.if_icmp .eq 21) 3 14 := ⟨by decide +kernel, rfl⟩
theorem i12_14 : Ins M12 14 (.aload_n 0) 1 15 := ⟨by decide +kernel, rfl⟩
theorem i12_15 : Ins M12 15 (.getfield 24) 3 18 := ⟨by decide +kernel, rfl⟩
theorem i12_18 : Ins M12 18 (.aload_n 0) 1 19 := ⟨by decide +kernel, rfl⟩
theorem i12_19 : Ins M12 19 (.iload_n 3) 1 20 := ⟨by decide +kernel, rfl⟩
theorem i12_20 : Ins M12 20 (.invokevirtual 69) 3 23 := ⟨by decide +kernel, rfl⟩
theorem i12_23 : Ins M12 23 (.iconst 1) 1 24 := ⟨by decide +kernel, rfl⟩
theorem i12_24 : Ins M12 24 (.iadd) 1 25 := ⟨by decide +kernel, rfl⟩
theorem i12_25 : Ins M12 25 (.iload_n 2) 1 26 := ⟨by decide +kernel, rfl⟩
theorem i12_26 : Ins M12 26 (.invokevirtual 72) 3 29 := ⟨by decide +kernel, rfl⟩
theorem i12_29 : Ins M12 29 (.ifCond .eq 7) 3 32 := ⟨by decide +kernel, rfl⟩
theorem i12_32 : Ins M12 32 (.iconst 1) 1 33 := ⟨by decide +kernel, rfl⟩
theorem i12_33 : Ins M12 33 (.goto 4) 3 36 := ⟨by decide +kernel, rfl⟩
theorem i12_36 : Ins M12 36 (.iconst 0) 1 37 := ⟨by decide +kernel, rfl⟩
theorem i12_37 : Ins M12 37 (.ireturn) 1 38 := ⟨by decide +kernel, rfl⟩
theorem pn12 : plainFor M12.1 = true := plainFor_of_name (by first | (simp [plainName, overriddenIn, M12, x]; done) | decide +kernel)
theorem pd12 : parseMethodDescriptor M12.1.desc = some ⟨[.int, .int], some (.boolean)⟩ := by decide +kernel
def KS : GLay := ("com/example/menhaden/menhaden/ShareLimit", [("com/example/menhaden/menhaden/ShareLimit", "codes", "[I", (.array .int)), ("com/example/menhaden/menhaden/ShareLimit", "values", "I", .int), ("com/example/menhaden/menhaden/ShareLimit", "alpha", "D", .double)])
theorem KS_ok {Z : State} {a0 : Array Value} (hw : ∀ d ∈ tables_1, d.before a0 Z = true) : LayOk Z a0 KS := by
  refine ⟨⟨3, (hw _ (List.mem_of_getElem? (i := 15) rfl))⟩, fun q hq => ?_, by decide +kernel⟩
  simp only [KS, List.mem_cons, List.not_mem_nil, or_false] at hq
  rcases hq with rfl | rfl | rfl
  · exact ⟨Or.inr (hw _ (List.mem_of_getElem? (i := 32) rfl)), by decide⟩
  · exact ⟨Or.inr (hw _ (List.mem_of_getElem? (i := 34) rfl)), by decide⟩
  · exact ⟨Or.inr (hw _ (List.mem_of_getElem? (i := 36) rfl)), by decide⟩
def KH : GLay := ("com/example/menhaden/menhaden/ShareLimit$Held", [("com/example/menhaden/menhaden/ShareLimit$Held", "slotValues", "[I", (.array .int)), ("com/example/menhaden/menhaden/ShareLimit$Held", "slotCounts", "[I", (.array .int)), ("com/example/menhaden/menhaden/ShareLimit$Held", "filledSlots", "[I", (.array .int)), ("com/example/menhaden/menhaden/ShareLimit$Held", "valuesHeld", "[I", (.array .int)), ("com/example/menhaden/menhaden/ShareLimit$Held", "limit", "Lcom/example/menhaden/menhaden/ShareLimit;", (.object "com/example/menhaden/menhaden/ShareLimit"))])
theorem KH_ok {Z : State} {a0 : Array Value} (hw : ∀ d ∈ tables_1, d.before a0 Z = true) : LayOk Z a0 KH := by
  refine ⟨⟨7, (hw _ (List.mem_of_getElem? (i := 63) rfl))⟩, fun q hq => ?_, by decide +kernel⟩
  simp only [KH, List.mem_cons, List.not_mem_nil, or_false] at hq
  rcases hq with rfl | rfl | rfl | rfl | rfl
  · exact ⟨Or.inl (hw _ (List.mem_of_getElem? (i := 70) rfl)), by decide⟩
  · exact ⟨Or.inl (hw _ (List.mem_of_getElem? (i := 72) rfl)), by decide⟩
  · exact ⟨Or.inl (hw _ (List.mem_of_getElem? (i := 74) rfl)), by decide⟩
  · exact ⟨Or.inl (hw _ (List.mem_of_getElem? (i := 76) rfl)), by decide⟩
  · exact ⟨Or.inr (hw _ (List.mem_of_getElem? (i := 78) rfl)), by decide⟩
theorem own_i2d (a : Int32) : ∃ c q, FP.Core.val64 (FP.Core.i2d a) = .fin (decide (a.toInt < 0)) c q ∧ c * 2 ^ q.toNat = a.toInt.natAbs * 2 ^ (-q).toNat := by
  have h1 := a.toInt_lt
  have h2 := a.le_toInt
  obtain ⟨c, q, hf, hv⟩ := FP.Core.natFit FP.Core.good_b64 FP.Core.wide_b64 (decide (a.toInt < 0)) (n := a.toInt.natAbs) (show _ ≤ 2 ^ 53 by omega)
  refine ⟨c, q, ?_, ?_⟩
  · rw [FP.Core.val64_i2d]
    show FP.Core.roundRatio FP.Core.b64 _ _ 1 0 = _
    exact FP.Core.roundRatio_exact FP.Core.good_b64 (by decide) hf hv
  · rw [show (0 - q).toNat = (-q).toNat by omega, show (q - 0).toNat = q.toNat by omega, Nat.mul_one] at hv
    exact hv.symm
theorem own_cross {c d a b qp qn rp rn u v : Nat} (h1 : c * 2 ^ qp = a * 2 ^ qn) (h2 : d * 2 ^ rp = b * 2 ^ rn) (he : qn + rp + u = v + qp + rn) : c * b * 2 ^ u = a * d * 2 ^ v := by
  refine Nat.eq_of_mul_eq_mul_right (Nat.two_pow_pos (qp + rn)) ?_
  calc c * b * 2 ^ u * 2 ^ (qp + rn) = (c * 2 ^ qp) * (b * 2 ^ rn) * 2 ^ u := by rw [Nat.pow_add]; ac_rfl
    _ = (a * 2 ^ qn) * (d * 2 ^ rp) * 2 ^ u := by rw [h1, h2]
    _ = a * d * 2 ^ (qn + rp + u) := by simp only [Nat.pow_add]; ac_rfl
    _ = a * d * 2 ^ v * 2 ^ (qp + rn) := by rw [he]; simp only [Nat.pow_add]; ac_rfl
theorem own_quo (a b : Int32) (hb : 0 < b.toInt) : FP.Core.val64 (FP.Core.ddiv (FP.Core.i2d a) (FP.Core.i2d b)) = FP.Core.roundRatio FP.Core.b64 (decide (a.toInt < 0)) a.toInt.natAbs b.toInt.natAbs 0 := by
  obtain ⟨c, q, e1, h1⟩ := own_i2d a
  obtain ⟨d, r, e2, h2⟩ := own_i2d b
  have hs : decide (b.toInt < 0) = false := by simp; omega
  have hd : d ≠ 0 := by
    rintro rfl
    rw [Nat.zero_mul] at h2
    have := Nat.mul_eq_zero.mp h2.symm
    have := Nat.two_pow_pos (-r).toNat
    omega
  rw [FP.Core.val64_ddiv, e1, e2]
  simp only [FP.Core.quotient, if_neg hd, hs, Bool.bne_false]
  refine FP.Core.roundRatio_congr (by omega) (by omega) ?_
  exact own_cross h1 h2 (by omega)
theorem own_notinf (s : Bool) (A B : Nat) (hB : 0 < B) (hA : A < 2 ^ 32) : ∃ c q, FP.Core.roundRatio FP.Core.b64 s A B 0 = .fin s c q := by
  have hi := FP.Core.roundRatio_inf FP.Core.good_b64 (s := s) (A := A) (B := B) (e := 0) (e0 := -1075) hB (by decide +kernel) (by decide)
  have e1 : (FP.Core.b64.qmax - 1 - (-1075)).toNat = 2045 := by decide +kernel
  have e3 : ((0 : Int) - (-1075)).toNat = 1075 := by decide
  have e2 : FP.Core.inUnits A 0 (-1075) = A * 2 ^ ((0 : Int) - (-1075)).toNat := rfl
  rw [e1, e2, e3] at hi
  have big : 2 ^ 32 * 2 ^ 1075 ≤ (2 ^ (FP.Core.b64.p + 1) - 1) * 2 ^ 2045 := by decide +kernel
  have no : FP.Core.roundRatio FP.Core.b64 s A B 0 ≠ .inf s := by
    intro q
    have q := hi.mp q
    have h1 : A * 2 ^ 1075 < 2 ^ 32 * 2 ^ 1075 := Nat.mul_lt_mul_of_pos_right hA (Nat.two_pow_pos _)
    have h2 : (2 ^ (FP.Core.b64.p + 1) - 1) * 2 ^ 2045 ≤ (2 ^ (FP.Core.b64.p + 1) - 1) * 2 ^ 2045 * B := Nat.le_mul_of_pos_right _ hB
    exact absurd (Nat.lt_of_lt_of_le h1 (Nat.le_trans big (Nat.le_trans h2 q))) (Nat.lt_irrefl _)
  unfold FP.Core.roundRatio at no ⊢
  split
  · exact ⟨_, _, rfl⟩
  · rename_i hA0
    rw [if_neg hA0] at no
    unfold FP.Core.roundAt FP.Core.settle FP.Core.bound at no ⊢
    split
    · rename_i g
      rw [if_pos g] at no
      split
      · exact ⟨_, _, rfl⟩
      · rename_i g2; rw [if_neg g2] at no; exact absurd rfl no
    · rename_i g
      rw [if_neg g] at no
      split
      · exact ⟨_, _, rfl⟩
      · rename_i g2; rw [if_neg g2] at no; exact absurd rfl no
def own_V (c : Nat) (q : Int) : Nat := FP.Core.inUnits c q (-1074)
theorem own_V_mul (k : Nat) (q : Int) : own_V k q = k * own_V 1 q := by unfold own_V FP.Core.inUnits; rw [Nat.one_mul]
theorem own_V_pos (q : Int) : 0 < own_V 1 q := by unfold own_V FP.Core.inUnits; rw [Nat.one_mul]; exact Nat.two_pow_pos _
theorem own_UW : own_V 1 0 = 2 ^ 52 * own_V 1 (-52) := by
  unfold own_V FP.Core.inUnits
  rw [Nat.one_mul, Nat.one_mul, show ((0 : Int) - (-1074)).toNat = 52 + 1022 by decide, show ((-52 : Int) - (-1074)).toNat = 1022 by decide, Nat.pow_add]
theorem own_near {s t : Bool} {A B c c' : Nat} {q q' : Int} (hB : 0 < B) (h : FP.Core.roundRatio FP.Core.b64 s A B 0 = .fin t c q) (hc : c' < 2 ^ 53) (hq : -1074 ≤ q') :
    (((A * own_V 1 0 : Nat) : Int) - ((own_V c q * B : Nat) : Int)).natAbs ≤ (((A * own_V 1 0 : Nat) : Int) - ((own_V c' q' * B : Nat) : Int)).natAbs := by
  have := FP.Core.roundRatio_nearest FP.Core.good_b64 (e0 := -1074) hB h (c' := c') (q' := q') hc hq (by decide +kernel) (by decide)
  unfold FP.Core.distance at this
  rw [← own_V_mul]
  rw [Int.natCast_mul, Int.natCast_mul]
  exact this
theorem own_fit {s t : Bool} {A B c : Nat} {q : Int} (hB : 0 < B) (h : FP.Core.roundRatio FP.Core.b64 s A B 0 = .fin t c q) : c < 2 ^ 53 ∧ -1074 ≤ q := by
  have := FP.Core.roundRatio_fits FP.Core.good_b64 s A hB 0
  rw [h] at this
  exact ⟨this.1, this.2.1⟩
theorem own_mono {s1 t1 s2 t2 : Bool} {a b c d c1 c2 : Nat} {q1 q2 : Int} (hb : 0 < b) (hd : 0 < d) (h1 : FP.Core.roundRatio FP.Core.b64 s1 a b 0 = .fin t1 c1 q1) (h2 : FP.Core.roundRatio FP.Core.b64 s2 c d 0 = .fin t2 c2 q2) (h : a * d < c * b) : own_V c1 q1 ≤ own_V c2 q2 := by
  rcases Nat.lt_or_ge (own_V c2 q2) (own_V c1 q1) with lt | ge
  · exfalso
    have f1 := own_fit hb h1
    have f2 := own_fit hd h2
    have n1 := own_near hb h1 f2.1 f2.2
    have n2 := own_near hd h2 f1.1 f1.2
    have U := own_V_pos 0
    generalize own_V c1 q1 = V1 at *
    generalize own_V c2 q2 = V2 at *
    generalize own_V 1 0 = u at *
    have l1 : V2 * b < V1 * b := Nat.mul_lt_mul_of_pos_right lt hb
    have l2 : V2 * d < V1 * d := Nat.mul_lt_mul_of_pos_right lt hd
    have k1 : V1 * b + V2 * b ≤ 2 * (a * u) := by omega
    have k2 : 2 * (c * u) ≤ V1 * d + V2 * d := by omega
    rw [← Nat.add_mul] at k1 k2
    have m1 := Nat.mul_le_mul_right d k1
    have m2 := Nat.mul_le_mul_right b k2
    have e1 : (V1 + V2) * b * d = (V1 + V2) * d * b := by ac_rfl
    have m3 : 2 * (c * u) * b ≤ 2 * (a * u) * d := by
      rw [e1] at m1; exact Nat.le_trans m2 m1
    have e2 : 2 * (c * u) * b = (2 * u) * (c * b) := by ac_rfl
    have e3 : 2 * (a * u) * d = (2 * u) * (a * d) := by ac_rfl
    rw [e2, e3] at m3
    have := Nat.le_of_mul_le_mul_left m3 (by omega)
    omega
  · exact ge
theorem own_floor {A B W : Nat} (hB : 0 < B) : (((A * (2 ^ 52 * W) : Nat) : Int) - ((A * 2 ^ 52 / B * W * B : Nat) : Int)).natAbs ≤ W * B := by
  have e1 := Nat.div_add_mod (A * 2 ^ 52) B
  have e2 := Nat.mod_lt (A * 2 ^ 52) hB
  have e3 : A * (2 ^ 52 * W) = (A * 2 ^ 52) * W := by ac_rfl
  have e4 : A * 2 ^ 52 / B * W * B = (B * (A * 2 ^ 52 / B)) * W := by ac_rfl
  rw [e3, e4]
  generalize A * 2 ^ 52 = X at *
  generalize B * (X / B) = Y at *
  have l1 : Y * W ≤ X * W := Nat.mul_le_mul_right _ (by omega)
  have l2 : X * W ≤ (Y + B) * W := Nat.mul_le_mul_right _ (by omega)
  rw [Nat.add_mul] at l2
  have e5 : B * W = W * B := Nat.mul_comm _ _
  omega
theorem own_strict {s1 t1 s2 t2 : Bool} {a b c d c1 c2 : Nat} {q1 q2 : Int} (hb : 0 < b) (hd : 0 < d) (h1 : FP.Core.roundRatio FP.Core.b64 s1 a b 0 = .fin t1 c1 q1) (h2 : FP.Core.roundRatio FP.Core.b64 s2 c d 0 = .fin t2 c2 q2) (h : c * b < a * d) (hcd : c ≤ d) (hd' : d ≤ 2 ^ 10) (hb' : b ≤ 2 ^ 31) : own_V c2 q2 < own_V c1 q1 := by
  refine Nat.lt_of_le_of_ne (own_mono hd hb h2 h1 h) fun eq => ?_
  have u0 := own_UW
  have w0 := own_V_pos (-52)
  have dc : c * 2 ^ 52 / d < 2 ^ 53 := by
    rw [Nat.div_lt_iff_lt_mul hd]
    have := Nat.mul_le_mul_right (2 ^ 52) hcd
    omega
  have ny := own_near hd h2 dc (q' := -52) (by decide)
  rw [own_V_mul (c * 2 ^ 52 / d) (-52), u0] at ny
  have ny := Nat.le_trans ny (own_floor hd)
  rw [← u0] at ny
  by_cases ha : a < 2 * b
  · have da : a * 2 ^ 52 / b < 2 ^ 53 := by
      rw [Nat.div_lt_iff_lt_mul hb]
      omega
    have nx := own_near hb h1 da (q' := -52) (by decide)
    rw [own_V_mul (a * 2 ^ 52 / b) (-52), u0] at nx
    have nx := Nat.le_trans nx (own_floor hb)
    rw [← u0, ← eq] at nx
    generalize own_V c2 q2 = V at *
    generalize own_V 1 (-52) = w at *
    generalize own_V 1 0 = u at *
    have x1 : a * u ≤ V * b + w * b := by omega
    have y1 : V * d ≤ c * u + w * d := by omega
    have x2 := Nat.mul_le_mul_right d x1
    have y2 := Nat.mul_le_mul_right b y1
    have z1 : (c * b + 1) * u ≤ a * d * u := Nat.mul_le_mul_right u h
    rw [Nat.add_mul, Nat.one_mul] at z1
    rw [Nat.add_mul] at x2 y2
    have e1 : a * u * d = a * d * u := by ac_rfl
    have e2 : V * b * d = V * d * b := by ac_rfl
    have e3 : c * u * b = c * b * u := by ac_rfl
    have e4 : w * d * b = w * b * d := by ac_rfl
    rw [e1, e2] at x2
    rw [e3, e4] at y2
    have z2 : u ≤ 2 * (w * b * d) := by omega
    have z3 : b * d ≤ 2 ^ 31 * 2 ^ 10 := Nat.mul_le_mul hb' hd'
    have e5 : w * b * d = w * (b * d) := Nat.mul_assoc _ _ _
    have z4 := Nat.mul_le_mul_left w z3
    rw [e5] at z2
    rw [u0] at z2
    omega
  · have nx := own_near hb h1 (c' := 2) (q' := 0) (by decide) (by decide)
    rw [own_V_mul 2 0, ← eq] at nx
    generalize own_V c2 q2 = V at *
    generalize own_V 1 (-52) = w at *
    generalize own_V 1 0 = u at *
    have g1 : 2 * u * b ≤ a * u := by
      have := Nat.mul_le_mul_right u (Nat.le_of_not_lt ha)
      have e : 2 * u * b = 2 * b * u := by ac_rfl
      omega
    have g2 : 2 * u * b ≤ V * b := by omega
    have g3 := Nat.le_of_mul_le_mul_right g2 hb
    have y1 : V * d ≤ c * u + w * d := by omega
    have g4 : c * u ≤ d * u := Nat.mul_le_mul_right u hcd
    have g5 : V * d ≤ (u + w) * d := by
      rw [Nat.add_mul, Nat.mul_comm u d]; omega
    have g6 := Nat.le_of_mul_le_mul_right g5 hd
    omega
theorem own_order {c1 c2 : Nat} {q1 q2 : Int} (h1 : -1074 ≤ q1) (h2 : -1074 ≤ q2) : FP.Core.order (.fin false c1 q1) (.fin false c2 q2) = some (compare (own_V c1 q1 : Int) (own_V c2 q2 : Int)) := by
  simp only [FP.Core.order, FP.Core.signed]
  unfold own_V
  rw [FP.Core.inUnits_move c1 (r := min q1 q2) (e := -1074) (by omega) (by omega), FP.Core.inUnits_move c2 (r := min q1 q2) (e := -1074) (by omega) (by omega), Int.natCast_mul, Int.natCast_mul, FP.Core.compare_mul_pos _ _ _ (by have := Nat.two_pow_pos (min q1 q2 - (-1074)).toNat; omega)]
  rfl
theorem own_cmp {x y : UInt64} {a b c d : Nat} (hx : FP.Core.val64 x = FP.Core.roundRatio FP.Core.b64 false a b 0) (hy : FP.Core.val64 y = FP.Core.roundRatio FP.Core.b64 false c d 0) (hb : 0 < b) (hd : 0 < d) (ha : a < 2 ^ 32) (hcd : c ≤ d) (hd' : d ≤ 2 ^ 10) (hb' : b ≤ 2 ^ 31) : 0 < FP.cmpInt 1 (FP.dcmp x y) ↔ c * b < a * d := by
  obtain ⟨c1, q1, e1⟩ := own_notinf false a b hb ha
  obtain ⟨c2, q2, e2⟩ := own_notinf false c d hd (by omega)
  have f1 := own_fit hb e1
  have f2 := own_fit hd e2
  have ho : FP.dcmp x y = some (compare (own_V c1 q1 : Int) (own_V c2 q2 : Int)) := by
    show FP.Core.order (FP.Core.val64 x) (FP.Core.val64 y) = _
    rw [hx, hy, e1, e2]
    exact own_order f1.2 f2.2
  rw [ho]
  have key : (compare (own_V c1 q1 : Int) (own_V c2 q2 : Int) = .gt) ↔ own_V c2 q2 < own_V c1 q1 := by
    simp only [compare, compareOfLessAndEq]
    split
    · simp; omega
    · split
      · simp; omega
      · simp; omega
  have key2 : (0 < FP.cmpInt 1 (some (compare (own_V c1 q1 : Int) (own_V c2 q2 : Int)))) ↔ compare (own_V c1 q1 : Int) (own_V c2 q2 : Int) = .gt := by
    cases compare (own_V c1 q1 : Int) (own_V c2 q2 : Int) <;> simp [FP.cmpInt]
  rw [key2, key]
  constructor
  · intro hlt
    rcases Nat.lt_trichotomy (a * d) (c * b) with q | q | q
    · have := own_mono hb hd e1 e2 q; omega
    · have := FP.Core.roundRatio_congr (f := FP.Core.b64) (s := false) (A := a) (B := b) (A' := c) (B' := d) (e := 0) (e' := 0) hb hd (by simpa using q)
      rw [e1, e2] at this
      cases this
      omega
    · exact q
  · intro hlt
    exact own_strict hb hd e1 e2 hlt hcd hd' hb'
theorem own_num {x : UInt64} (h : FP.Core.val64 x ≠ .nan) : x &&& 0x7fffffffffffffff ≤ 0x7ff0000000000000 := by
  have hm : (x &&& 0x7fffffffffffffff).toNat = x.toNat % 2 ^ 63 := by
    rw [UInt64.toNat_and]
    exact Nat.and_two_pow_sub_one_eq_mod x.toNat 63
  rw [UInt64.le_iff_toNat_le, hm]
  show x.toNat % 2 ^ 63 ≤ 9218868437227405312
  have t0 : FP.Core.b64.tails = 4503599627370496 := by decide +kernel
  have x0 : FP.Core.b64.exps = 2048 := by decide +kernel
  unfold FP.Core.val64 FP.Core.decode FP.Core.fieldE FP.Core.fieldT at h
  rw [t0, x0] at h
  by_cases g : x.toNat / 4503599627370496 % 2048 = 2048 - 1
  · rw [if_pos g] at h
    by_cases g2 : x.toNat % 4503599627370496 = 0
    · omega
    · rw [if_neg g2] at h; exact absurd rfl h
  · omega
theorem own_ok {x : UInt64} {s : Bool} {a b : Nat} (hx : FP.Core.val64 x = FP.Core.roundRatio FP.Core.b64 s a b 0) (hb : 0 < b) (ha : a < 2 ^ 32) : x &&& 0x7fffffffffffffff ≤ 0x7ff0000000000000 := by
  obtain ⟨c1, q1, e1⟩ := own_notinf s a b hb ha
  refine own_num ?_
  rw [hx, e1]
  simp
theorem own_quo0 (a b : Int32) (ha : 0 ≤ a.toInt) (hb : 0 < b.toInt) : FP.Core.val64 (FP.Core.ddiv (FP.Core.i2d a) (FP.Core.i2d b)) = FP.Core.roundRatio FP.Core.b64 false a.toInt.natAbs b.toInt.natAbs 0 := by
  have h := own_quo a b hb
  have hs : decide (a.toInt < 0) = false := by simp; omega
  rwa [hs] at h
theorem own_one : FP.Core.val64 FP.dconst1 = FP.Core.roundRatio FP.Core.b64 false 1 1 0 := by
  have h : FP.Core.roundRatio FP.Core.b64 false 1 1 0 = .fin false (2 ^ 52) (-52) := by decide +kernel
  rw [h]; exact FP.Core.val64_dconst1
theorem own_neg {x : UInt64} {a b : Nat} (hx : FP.Core.val64 x = FP.Core.roundRatio FP.Core.b64 true a b 0) (hb : 0 < b) (ha : a < 2 ^ 32) : ¬ 0 < FP.cmpInt 1 (FP.dcmp x FP.dconst1) := by
  obtain ⟨c, q, e⟩ := own_notinf true a b hb ha
  have ho : FP.dcmp x FP.dconst1 = FP.Core.order (.fin true c q) (.fin false (2 ^ 52) (-52)) := by
    show FP.Core.order (FP.Core.val64 x) (FP.Core.val64 FP.dconst1) = _
    have h1 : FP.Core.val64 FP.dconst1 = .fin false (2 ^ 52) (-52) := FP.Core.val64_dconst1
    rw [hx, e, h1]
  rw [ho]
  simp only [FP.Core.order, FP.Core.signed]
  have hp : 0 < FP.Core.inUnits (2 ^ 52) (-52) (min q (-52)) := by
    unfold FP.Core.inUnits
    exact Nat.mul_pos (by decide) (Nat.two_pow_pos _)
  generalize FP.Core.inUnits (2 ^ 52) (-52) (min q (-52)) = u at hp
  generalize FP.Core.inUnits c q (min q (-52)) = v
  have hlt : compare (-(v : Int)) (u : Int) = .lt := by
    simp only [compare, compareOfLessAndEq]
    rw [if_pos (by omega)]
  show ¬ 0 < FP.cmpInt 1 (some (compare (-(v : Int)) (u : Int)))
  rw [hlt]
  decide
variable {Z : State} {a0 : Array Value} {n0 : Nat}
theorem met1 (hw : ∀ d ∈ tables_1, d.before a0 Z = true) (x y : Int32) (H : List GObj) : Met Z a0 n0 M1 0 0 0 0 [.int x, .int y] H (fun v H' => (∃ r : Int32, v = some (.int r) ∧ r.toInt = max x.toInt y.toInt) ∧ H' = H) := by
  refine MetW.intro [.val (.int x), .val (.int y)] pn1 rfl ?_
  refine go_iloadN i1_0 rfl ?_
  refine go_iloadN i1_1 rfl ?_
  refine go_icmp_lt 9 i1_2 (by decide) (fun h => ?_) (fun h => ?_)
  · rw [Int32.lt_iff_toInt_lt] at h
    refine go_iloadN i1_9 rfl ?_
    refine go_ireturn i1_10 rfl rfl (Or.inl rfl) (by first | decide | exact Nat.le_of_ble_eq_true rfl | (simp only [room_1]; omega) | omega) (by first | decide | exact Nat.le_of_ble_eq_true rfl | (simp only [room_1]; omega) | omega) ?_
    exact ⟨⟨_, rfl, by omega⟩, rfl⟩
  · rw [Int32.lt_iff_toInt_lt] at h
    refine go_iloadN i1_5 rfl ?_
    refine go_goto 10 i1_6 (by decide) ?_
    refine go_ireturn i1_10 rfl rfl (Or.inl rfl) (by first | decide | exact Nat.le_of_ble_eq_true rfl | (simp only [room_1]; omega) | omega) (by first | decide | exact Nat.le_of_ble_eq_true rfl | (simp only [room_1]; omega) | omega) ?_
    exact ⟨⟨_, rfl, by omega⟩, rfl⟩
theorem own_len {us : List Value} {n : Int32} {N : Nat} (h : us.length = N) (hn : n.toInt = (N : Int)) : us.length.toInt32 = n := by
  have r := rng32 n
  have q := len_toInt (n := us.length) (by omega)
  rw [← Int32.toInt_inj, q, hn, h]
abbrev own_all (us : List Value) (N : Nat) (x : Int32) : Prop := us.length = N ∧ ∀ j, j < N → us[j]? = some (.int x)
theorem lp3 (hw : ∀ d ∈ tables_1, d.before a0 Z = true) (x n : Int32) (N : Nat) (hn : n.toInt = (N : Int)) (m : Nat) : ∀ (i : Int32) (I : Nat) (vs : List Value), i.toInt = (I : Int) → vs.length = N → I + m = N → (∀ j, j < I → vs[j]? = some (.int x)) →
    Go Z a0 n0 M3 { frames := 0, cells := 0, slots := 0, locals := 0 } (fun v H' => v = none ∧ ∃ us, own_all us N x ∧ H' = [.inr (.int, us)]) 5 [.val (.ref (n0 + 0)), .val (.int x), .val (.int i), .val (.int n)] [] [.inr (.int, vs)] 0 0 := by
  induction m with
  | zero =>
    intro i I vs hi hv hm ha
    refine go_iloadN i3_5 rfl ?_
    refine go_iloadN i3_6 rfl ?_
    refine go_icmpT 20 i3_7 (by decide) ((hold_ge _ _).1.mpr (by rw [Int32.lt_iff_toInt_lt]; omega)) ?_
    refine go_return i3_20 rfl (by first | decide | exact Nat.le_of_ble_eq_true rfl | (simp only [room_1]; omega) | omega) (by first | decide | exact Nat.le_of_ble_eq_true rfl | (simp only [room_1]; omega) | omega) ?_
    exact ⟨rfl, vs, ⟨hv, fun j hj => ha j (by omega)⟩, rfl⟩
  | succ m ih =>
    intro i I vs hi hv hm ha
    have r := rng32 n
    have c1 := c_iadd i 1
    have c2 := rng32 (i + 1)
    have o1 : (1 : Int32).toInt = 1 := by decide
    rw [o1] at c1
    refine go_iloadN i3_5 rfl ?_
    refine go_iloadN i3_6 rfl ?_
    refine go_icmpF i3_7 ((hold_ge _ _).2.mpr (by rw [Int32.lt_iff_toInt_lt]; omega)) ?_
    refine go_aloadN i3_10 rfl ?_
    refine go_iloadN i3_11 rfl ?_
    refine go_iloadN i3_12 rfl ?_
    refine go_iastore i3_13 rfl hi (by simp; omega) ?_
    refine go_iinc2 (v := i + 1) i3_14  rfl ?_
    refine go_goto 5 i3_17 (by decide) ?_
    refine ih (i + 1) (I + 1) _ (by omega) (by simp [hv]) (by omega) (fun j hj => ?_)
    by_cases q : j = I
    · subst q
      rw [List.getElem?_set_self (by omega)]
    · rw [List.getElem?_set_ne (Ne.symm q)]
      exact ha j (by omega)
theorem met3 (hw : ∀ d ∈ tables_1, d.before a0 Z = true) (x n : Int32) (N : Nat) (hn : n.toInt = (N : Int)) (vs : List Value) (hv : vs.length = N) : Met Z a0 n0 M3 0 0 0 0 [.ref (n0 + 0), .int x] [.inr (.int, vs)] (fun v H' => v = none ∧ ∃ us, own_all us N x ∧ H' = [.inr (.int, us)]) := by
  refine MetW.intro [.val (.ref (n0 + 0)), .val (.int x), .unset, .unset] pn3 rfl ?_
  refine go_iconst (v := (0 : Int32)) i3_0 (by decide) ?_
  refine go_istore2 i3_1 (by first | exact One.u | exact One.val rfl) ?_
  refine go_aloadN i3_2 rfl ?_
  refine go_arraylength i3_3 rfl (n := n) (own_len hv hn) ?_
  refine go_istore3 i3_4 (by first | exact One.u | exact One.val rfl) ?_
  exact lp3 hw x n N hn N 0 0 vs (by decide) hv (by omega) (fun j hj => absurd hj (by omega))
theorem met4 (hw : ∀ d ∈ tables_1, d.before a0 Z = true) (us : List Value) (hl : us.length ≤ 7) (d : UInt64) : Met Z a0 n0 M4 1 16 1 7 [.ref (n0 + 1), .ref (n0 + 0), .int 0, .double d] [.inr (.int, us), .inl (KS, [.null, .int 0, .double 0])]
    (Eq0 [.inr (.int, us), .inl (KS, [.ref (n0 + 2), .int 0, .double d]), .inr (.int, us)]) := by
  refine MetW.intro [.val (.ref (n0 + 1)), .val (.ref (n0 + 0)), .val (.int 0), .val (.double d), .second] pn4 rfl ?_
  refine go_aloadN i4_0 rfl ?_
  refine go_initO i4_1 (hw _ (List.mem_of_getElem? (i := 19) rfl)) (hw _ (List.mem_of_getElem? (i := 20) rfl)) (hw _ (List.mem_of_getElem? (i := 21) rfl)) rfl (by decide) (by decide) ?_
  refine go_aloadN i4_4 rfl ?_
  refine go_aloadN i4_5 rfl ?_
  refine go_clone (k' := 2) 7 i4_6 (hw _ (List.mem_of_getElem? (i := 22) rfl)) (hw _ (List.mem_of_getElem? (i := 23) rfl)) (hw _ (List.mem_of_getElem? (i := 27) rfl)) (hw _ (List.mem_of_getElem? (i := 25) rfl)) (hw _ (List.mem_of_getElem? (i := 26) rfl)) (hw _ (List.mem_of_getElem? (i := 28) rfl)) rfl (by decide) rfl (by first | decide | exact Nat.le_of_ble_eq_true rfl | (simp only [room_1]; omega) | omega) (by first | decide | exact Nat.le_of_ble_eq_true rfl | (simp only [room_1]; omega) | omega) (by first | decide | exact Nat.le_of_ble_eq_true rfl | (simp only [room_1]; omega) | omega) rfl (by first | decide | exact Nat.le_of_ble_eq_true rfl | (simp only [room_1]; omega) | omega) (by first | decide | exact Nat.le_of_ble_eq_true rfl | (simp only [room_1]; omega) | omega) ?_
  refine go_checkcastArr i4_9 (hw _ (List.mem_of_getElem? (i := 29) rfl)) rfl (by decide) ?_
  refine go_putfield 0 i4_12 (hw _ (List.mem_of_getElem? (i := 31) rfl)) rfl rfl rfl (Or.inr ⟨(hw _ (List.mem_of_getElem? (i := 32) rfl)), rfl, rfl⟩) rfl rfl ?_
  refine go_aloadN i4_15 rfl ?_
  refine go_iloadN i4_16 rfl ?_
  refine go_putfield 1 i4_17 (hw _ (List.mem_of_getElem? (i := 33) rfl)) rfl rfl rfl (Or.inr ⟨(hw _ (List.mem_of_getElem? (i := 34) rfl)), rfl, rfl⟩) rfl rfl ?_
  refine go_aloadN i4_20 rfl ?_
  refine go_dloadN i4_21 rfl ?_
  refine go_putfield 2 i4_22 (hw _ (List.mem_of_getElem? (i := 35) rfl)) rfl rfl rfl (Or.inr ⟨(hw _ (List.mem_of_getElem? (i := 36) rfl)), rfl, rfl⟩) rfl rfl ?_
  refine go_return i4_25 rfl (by first | decide | exact Nat.le_of_ble_eq_true rfl | (simp only [room_1]; omega) | omega) (by first | decide | exact Nat.le_of_ble_eq_true rfl | (simp only [room_1]; omega) | omega) ?_
  exact ⟨rfl, rfl⟩
abbrev own_H (n0 : Nat) (us : List Value) (t : List GObj) : List GObj := .inr (.int, us) :: .inl (KS, [.ref (n0 + 2), .int 0, .double FP.dconst1]) :: .inr (.int, us) :: t
theorem met2 (hw : ∀ d ∈ tables_1, d.before a0 Z = true) (n : Int32) (N : Nat) (hn : n.toInt = (N : Int)) (hN : N ≤ 7) : Met Z a0 n0 M2 2 33 3 17 [.int n] [] (fun v H' => v = some (.ref (n0 + 1)) ∧ ∃ us, own_all us N (-1) ∧ H' = own_H n0 us []) := by
  refine MetW.intro [.val (.int n), .unset] pn2 rfl ?_
  have hx := idx_of hn
  refine go_iloadN i2_0 rfl ?_
  refine go_newarray (k := 0) 7 i2_1 rfl (hw _ (List.mem_of_getElem? (i := 9) rfl)) hx.1 rfl (by rw [hx.2]; exact hN) (by decide) rfl (by first | decide | exact Nat.le_of_ble_eq_true rfl | (simp only [room_1]; omega) | omega) (by first | decide | exact Nat.le_of_ble_eq_true rfl | (simp only [room_1]; omega) | omega) ?_
  refine go_astore1 i2_3 (by first | exact One.u | exact One.val rfl) ?_
  refine go_aloadN i2_4 rfl ?_
  refine go_iconst (v := (-1 : Int32)) i2_5 (by decide) ?_
  refine go_static i2_6 (met3 hw (-1) n N hn _ (by simp [hx.2])) (hw _ (List.mem_of_getElem? (i := 10) rfl)) (hw _ (List.mem_of_getElem? (i := 11) rfl)) (hw _ (List.mem_of_getElem? (i := 12) rfl)) (hw _ (List.mem_of_getElem? (i := 13) rfl)) rfl pd3 rfl rfl rfl (by first | decide | exact Nat.le_of_ble_eq_true rfl | (simp only [room_1]; omega) | omega) (by first | decide | exact Nat.le_of_ble_eq_true rfl | (simp only [room_1]; omega) | omega) (by first | decide | exact Nat.le_of_ble_eq_true rfl | (simp only [room_1]; omega) | omega) (by first | decide | exact Nat.le_of_ble_eq_true rfl | (simp only [room_1]; omega) | omega) ?_
  rintro _ _ ⟨rfl, us, hus, rfl⟩
  refine ⟨rfl, ?_⟩
  refine go_new (k := 1) KS i2_9 (hw _ (List.mem_of_getElem? (i := 14) rfl)) (hw _ (List.mem_of_getElem? (i := 15) rfl)) (hw _ (List.mem_of_getElem? (i := 7) rfl)) (KS_ok hw) rfl rfl (by decide) (by decide) ?_
  refine go_dup i2_12 rfl ?_
  refine go_aloadN i2_13 rfl ?_
  refine go_iconst (v := (0 : Int32)) i2_14 (by decide) ?_
  refine go_dconst1 i2_15 ?_
  refine go_special i2_16 (met4 hw us (by have := hus.1; omega) _) (hw _ (List.mem_of_getElem? (i := 16) rfl)) (hw _ (List.mem_of_getElem? (i := 17) rfl)) (hw _ (List.mem_of_getElem? (i := 7) rfl)) (hw _ (List.mem_of_getElem? (i := 18) rfl)) rfl rfl rfl pd4 rfl rfl rfl (by first | decide | exact Nat.le_of_ble_eq_true rfl | (simp only [room_1]; omega) | omega) (by first | decide | exact Nat.le_of_ble_eq_true rfl | (simp only [room_1]; omega) | omega) (by first | decide | exact Nat.le_of_ble_eq_true rfl | (simp only [room_1]; omega) | omega) (by first | decide | exact Nat.le_of_ble_eq_true rfl | (simp only [room_1]; omega) | omega) (retV rfl ?_)
  refine go_areturn i2_19 rfl rfl rfl rfl (by first | decide | exact Nat.le_of_ble_eq_true rfl | (simp only [room_1]; omega) | omega) (by first | decide | exact Nat.le_of_ble_eq_true rfl | (simp only [room_1]; omega) | omega) ?_
  exact ⟨rfl, us, hus, rfl⟩
theorem met6 (hw : ∀ d ∈ tables_1, d.before a0 Z = true) (n : Int32) (N : Nat) (hn : n.toInt = (N : Int)) (us : List Value) (hus : own_all us N (-1)) : Met Z a0 n0 M6 0 0 0 0 [.ref (n0 + 1)] (own_H n0 us []) (Eq1 (.int n) (own_H n0 us [])) := by
  refine MetW.intro [.val (.ref (n0 + 1))] pn6 rfl ?_
  refine go_aloadN i6_0 rfl ?_
  refine go_getfield 0 i6_1 (hw _ (List.mem_of_getElem? (i := 31) rfl)) rfl rfl rfl ?_
  refine go_arraylength i6_4 rfl (n := n) (own_len hus.1 hn) ?_
  refine go_ireturn i6_5 rfl rfl (Or.inl rfl) (by first | decide | exact Nat.le_of_ble_eq_true rfl | (simp only [room_1]; omega) | omega) (by first | decide | exact Nat.le_of_ble_eq_true rfl | (simp only [room_1]; omega) | omega) ?_
  exact ⟨rfl, rfl⟩
theorem met7 (hw : ∀ d ∈ tables_1, d.before a0 Z = true) (us : List Value) : Met Z a0 n0 M7 0 0 0 0 [.ref (n0 + 1)] (own_H n0 us []) (Eq1 (.int 0) (own_H n0 us [])) := by
  refine MetW.intro [.val (.ref (n0 + 1))] pn7 rfl ?_
  refine go_aloadN i7_0 rfl ?_
  refine go_getfield 1 i7_1 (hw _ (List.mem_of_getElem? (i := 33) rfl)) rfl rfl rfl ?_
  refine go_ireturn i7_4 rfl rfl (Or.inl rfl) (by first | decide | exact Nat.le_of_ble_eq_true rfl | (simp only [room_1]; omega) | omega) (by first | decide | exact Nat.le_of_ble_eq_true rfl | (simp only [room_1]; omega) | omega) ?_
  exact ⟨rfl, rfl⟩
theorem met9 (hw : ∀ d ∈ tables_1, d.before a0 Z = true) (us : List Value) (N : Nat) (hus : own_all us N (-1)) (t : List GObj) (j : Int32) (J : Nat) (hj : j.toInt = (J : Int)) (hJ : J < N) : Met Z a0 n0 M9 0 0 0 0 [.ref (n0 + 1), .int j] (own_H n0 us t) (Eq1 (.int (-1)) (own_H n0 us t)) := by
  refine MetW.intro [.val (.ref (n0 + 1)), .val (.int j)] pn9 rfl ?_
  refine go_aloadN i9_0 rfl ?_
  refine go_getfield 0 i9_1 (hw _ (List.mem_of_getElem? (i := 31) rfl)) rfl rfl rfl ?_
  refine go_iloadN i9_4 rfl ?_
  refine go_iaload i9_5 rfl hj (hus.2 J hJ) ?_
  refine go_ireturn i9_6 rfl rfl (Or.inl rfl) (by first | decide | exact Nat.le_of_ble_eq_true rfl | (simp only [room_1]; omega) | omega) (by first | decide | exact Nat.le_of_ble_eq_true rfl | (simp only [room_1]; omega) | omega) ?_
  exact ⟨rfl, rfl⟩
abbrev own_T (n0 : Nat) : List GObj := [.inl (KH, [.ref (n0 + 4), .ref (n0 + 5), .ref (n0 + 6), .ref (n0 + 7), .ref (n0 + 1)]), .inr (.int, [.int 0, .int 0, .int 0, .int 0]), .inr (.int, [.int 0, .int 0, .int 0, .int 0]), .inr (.int, [.int 0, .int 0]), .inr (.int, [.int 0, .int 0, .int 0, .int 0])]
theorem met11 (hw : ∀ d ∈ tables_1, d.before a0 Z = true) (us : List Value) : Met Z a0 n0 M11 1 12 4 14 [.ref (n0 + 3), .ref (n0 + 1)] (own_H n0 us [.inl (KH, [.null, .null, .null, .null, .null])]) (Eq0 (own_H n0 us (own_T n0))) := by
  refine MetW.intro [.val (.ref (n0 + 3)), .val (.ref (n0 + 1))] pn11 rfl ?_
  refine go_aloadN i11_0 rfl ?_
  refine go_initO i11_1 (hw _ (List.mem_of_getElem? (i := 68) rfl)) (hw _ (List.mem_of_getElem? (i := 20) rfl)) (hw _ (List.mem_of_getElem? (i := 21) rfl)) rfl (by decide) (by decide) ?_
  refine go_aloadN i11_4 rfl ?_
  refine go_iconst (v := (4 : Int32)) i11_5 (by decide) ?_
  refine go_newarray (k := 4) 4 i11_6 rfl (hw _ (List.mem_of_getElem? (i := 9) rfl)) (by decide) rfl (by decide) (by decide) rfl (by first | decide | exact Nat.le_of_ble_eq_true rfl | (simp only [room_1]; omega) | omega) (by first | decide | exact Nat.le_of_ble_eq_true rfl | (simp only [room_1]; omega) | omega) ?_
  refine go_putfield 0 i11_8 (hw _ (List.mem_of_getElem? (i := 69) rfl)) rfl rfl rfl (Or.inl (hw _ (List.mem_of_getElem? (i := 70) rfl))) rfl rfl ?_
  refine go_aloadN i11_11 rfl ?_
  refine go_iconst (v := (4 : Int32)) i11_12 (by decide) ?_
  refine go_newarray (k := 5) 4 i11_13 rfl (hw _ (List.mem_of_getElem? (i := 9) rfl)) (by decide) rfl (by decide) (by decide) rfl (by first | decide | exact Nat.le_of_ble_eq_true rfl | (simp only [room_1]; omega) | omega) (by first | decide | exact Nat.le_of_ble_eq_true rfl | (simp only [room_1]; omega) | omega) ?_
  refine go_putfield 1 i11_15 (hw _ (List.mem_of_getElem? (i := 71) rfl)) rfl rfl rfl (Or.inl (hw _ (List.mem_of_getElem? (i := 72) rfl))) rfl rfl ?_
  refine go_aloadN i11_18 rfl ?_
  refine go_iconst (v := (2 : Int32)) i11_19 (by decide) ?_
  refine go_newarray (k := 6) 2 i11_20 rfl (hw _ (List.mem_of_getElem? (i := 9) rfl)) (by decide) rfl (by decide) (by decide) rfl (by first | decide | exact Nat.le_of_ble_eq_true rfl | (simp only [room_1]; omega) | omega) (by first | decide | exact Nat.le_of_ble_eq_true rfl | (simp only [room_1]; omega) | omega) ?_
  refine go_putfield 2 i11_22 (hw _ (List.mem_of_getElem? (i := 73) rfl)) rfl rfl rfl (Or.inl (hw _ (List.mem_of_getElem? (i := 74) rfl))) rfl rfl ?_
  refine go_aloadN i11_25 rfl ?_
  refine go_iconst (v := (4 : Int32)) i11_26 (by decide) ?_
  refine go_newarray (k := 7) 4 i11_27 rfl (hw _ (List.mem_of_getElem? (i := 9) rfl)) (by decide) rfl (by decide) (by decide) rfl (by first | decide | exact Nat.le_of_ble_eq_true rfl | (simp only [room_1]; omega) | omega) (by first | decide | exact Nat.le_of_ble_eq_true rfl | (simp only [room_1]; omega) | omega) ?_
  refine go_putfield 3 i11_29 (hw _ (List.mem_of_getElem? (i := 75) rfl)) rfl rfl rfl (Or.inl (hw _ (List.mem_of_getElem? (i := 76) rfl))) rfl rfl ?_
  refine go_aloadN i11_32 rfl ?_
  refine go_aloadN i11_33 rfl ?_
  refine go_putfield 4 i11_34 (hw _ (List.mem_of_getElem? (i := 77) rfl)) rfl rfl rfl (Or.inr ⟨(hw _ (List.mem_of_getElem? (i := 78) rfl)), rfl, rfl⟩) rfl rfl ?_
  refine go_return i11_37 rfl (by first | decide | exact Nat.le_of_ble_eq_true rfl | (simp only [room_1]; omega) | omega) (by first | decide | exact Nat.le_of_ble_eq_true rfl | (simp only [room_1]; omega) | omega) ?_
  exact ⟨rfl, rfl⟩
theorem met10 (hw : ∀ d ∈ tables_1, d.before a0 Z = true) (us : List Value) : Met Z a0 n0 M10 2 26 5 21 [.ref (n0 + 1)] (own_H n0 us []) (Eq1 (.ref (n0 + 3)) (own_H n0 us (own_T n0))) := by
  refine MetW.intro [.val (.ref (n0 + 1))] pn10 rfl ?_
  refine go_new (k := 3) KH i10_0 (hw _ (List.mem_of_getElem? (i := 62) rfl)) (hw _ (List.mem_of_getElem? (i := 63) rfl)) (hw _ (List.mem_of_getElem? (i := 64) rfl)) (KH_ok hw) rfl rfl (by decide) (by decide) ?_
  refine go_dup i10_3 rfl ?_
  refine go_aloadN i10_4 rfl ?_
  refine go_specialRef i10_5 (met11 hw us) (hw _ (List.mem_of_getElem? (i := 65) rfl)) (hw _ (List.mem_of_getElem? (i := 66) rfl)) (hw _ (List.mem_of_getElem? (i := 64) rfl)) (hw _ (List.mem_of_getElem? (i := 67) rfl)) rfl rfl rfl pd11 rfl rfl rfl (by first | decide | exact Nat.le_of_ble_eq_true rfl | (simp only [room_1]; omega) | omega) (by first | decide | exact Nat.le_of_ble_eq_true rfl | (simp only [room_1]; omega) | omega) (by first | decide | exact Nat.le_of_ble_eq_true rfl | (simp only [room_1]; omega) | omega) (by first | decide | exact Nat.le_of_ble_eq_true rfl | (simp only [room_1]; omega) | omega) (retV rfl ?_)
  refine go_areturn i10_8 rfl rfl rfl rfl (by first | decide | exact Nat.le_of_ble_eq_true rfl | (simp only [room_1]; omega) | omega) (by first | decide | exact Nat.le_of_ble_eq_true rfl | (simp only [room_1]; omega) | omega) ?_
  exact ⟨rfl, rfl⟩
theorem met12 (hw : ∀ d ∈ tables_1, d.before a0 Z = true) (us : List Value) (N : Nat) (hus : own_all us N (-1)) (j size : Int32) (J : Nat) (hj : j.toInt = (J : Int)) (hJ : J < N) : Met Z a0 n0 M12 1 13 0 0 [.ref (n0 + 3), .int j, .int size] (own_H n0 us (own_T n0)) (Eq1 (.int 1) (own_H n0 us (own_T n0))) := by
  refine MetW.intro [.val (.ref (n0 + 3)), .val (.int j), .val (.int size), .unset] pn12 rfl ?_
  refine go_aloadN i12_0 rfl ?_
  refine go_getfield 4 i12_1 (hw _ (List.mem_of_getElem? (i := 77) rfl)) rfl rfl rfl ?_
  refine go_iloadN i12_4 rfl ?_
  refine go_virtual i12_5 (met9 hw us N hus (own_T n0) j J hj hJ) rfl (hw _ (List.mem_of_getElem? (i := 84) rfl)) (hw _ (List.mem_of_getElem? (i := 53) rfl)) (hw _ (List.mem_of_getElem? (i := 55) rfl)) (hw _ (List.mem_of_getElem? (i := 54) rfl)) (hw _ (List.mem_of_getElem? (i := 7) rfl)) (hw _ (List.mem_of_getElem? (i := 56) rfl)) rfl pd9 rfl rfl rfl (by first | decide | exact Nat.le_of_ble_eq_true rfl | (simp only [room_1]; omega) | omega) (by first | decide | exact Nat.le_of_ble_eq_true rfl | (simp only [room_1]; omega) | omega) (by first | decide | exact Nat.le_of_ble_eq_true rfl | (simp only [room_1]; omega) | omega) (by first | decide | exact Nat.le_of_ble_eq_true rfl | (simp only [room_1]; omega) | omega) (retE rfl ?_)
  refine go_istore3 i12_8 (by first | exact One.u | exact One.val rfl) ?_
  refine go_iloadN i12_9 rfl ?_
  refine go_iconst (v := (-1 : Int32)) i12_10 (by decide) ?_
  refine go_icmpT 32 i12_11 (by decide) (by decide) ?_
  refine go_iconst (v := (1 : Int32)) i12_32 (by decide) ?_
  refine go_goto 37 i12_33 (by decide) ?_
  refine go_ireturn i12_37 rfl rfl (Or.inr (Or.inl rfl)) (by first | decide | exact Nat.le_of_ble_eq_true rfl | (simp only [room_1]; omega) | omega) (by first | decide | exact Nat.le_of_ble_eq_true rfl | (simp only [room_1]; omega) | omega) ?_
  exact ⟨rfl, rfl⟩
theorem met8 (hw : ∀ d ∈ tables_1, d.before a0 Z = true) (us : List Value) (t : List GObj) (held size : Int32) (h1 : 1 ≤ size.toInt) : Met Z a0 n0 M8 0 0 0 0 [.ref (n0 + 1), .int held, .int size] (own_H n0 us t) (Eq1 (.int (if size < held then 0 else 1)) (own_H n0 us t)) := by
  refine MetW.intro [.val (.ref (n0 + 1)), .val (.int held), .val (.int size)] pn8 rfl ?_
  have r1 := rng32 held
  have r2 := rng32 size
  have e := own_quo held size (by omega)
  have key : 0 < FP.cmpInt 1 (FP.dcmp (FP.ddiv (FP.i2d held) (FP.i2d size)) FP.dconst1) ↔ size < held := by
    have hl : size < held ↔ size.toInt < held.toInt := Int32.lt_iff_toInt_lt
    rw [hl]
    by_cases hh : held.toInt < 0
    · have hs : decide (held.toInt < 0) = true := by simpa using hh
      rw [hs] at e
      exact ⟨fun q => absurd q (own_neg e (by omega) (by omega)), fun q => by omega⟩
    · have e0 := own_quo0 held size (by omega) (by omega)
      rw [own_cmp e0 own_one (by omega) (by decide) (by omega) (by decide) (by decide) (by omega)]
      omega
  refine go_iloadN i8_0 rfl ?_
  refine go_i2d i8_1 ?_
  refine go_iloadN i8_2 rfl ?_
  refine go_i2d i8_3 ?_
  refine go_ddiv i8_4 (own_ok e (by omega) (by omega)) ?_
  refine go_aloadN i8_5 rfl ?_
  refine go_getfield 2 i8_6 (hw _ (List.mem_of_getElem? (i := 35) rfl)) rfl rfl rfl ?_
  refine go_dcmpg i8_9 ?_
  refine go_if_gt 17 i8_10 (by decide) (fun g => ?_) (fun g => ?_)
  · refine go_iconst (v := (0 : Int32)) i8_17 (by decide) ?_
    refine go_ireturn i8_18 rfl rfl (Or.inr (Or.inl rfl)) (by first | decide | exact Nat.le_of_ble_eq_true rfl | (simp only [room_1]; omega) | omega) (by first | decide | exact Nat.le_of_ble_eq_true rfl | (simp only [room_1]; omega) | omega) ?_
    exact ⟨by rw [if_pos (key.mp g)], rfl⟩
  · refine go_iconst (v := (1 : Int32)) i8_13 (by decide) ?_
    refine go_goto 18 i8_14 (by decide) ?_
    refine go_ireturn i8_18 rfl rfl (Or.inr (Or.inl rfl)) (by first | decide | exact Nat.le_of_ble_eq_true rfl | (simp only [room_1]; omega) | omega) (by first | decide | exact Nat.le_of_ble_eq_true rfl | (simp only [room_1]; omega) | omega) ?_
    exact ⟨by rw [if_neg (fun z => g (key.mpr z))], rfl⟩
theorem g116 (hw : ∀ d ∈ tables_1, d.before a0 Z = true) (s0 s1 s3 s4 s7 : Slot) (o7 : One s7) (held size : Int32) (h1 : 1 ≤ size.toInt) (us : List Value) (t : List GObj) (ce sl : Nat) (hce : ce ≤ 20) (hsl : sl ≤ 100) : Go Z a0 n0 M0 room_1 (fun v _ => v = some (.int 1)) 116 [s0, s1, .val (.int held), s3, s4, .val (.int size), .val (.ref (n0 + 1)), s7] [] (own_H n0 us t) ce sl := by
  refine go_iloadN i0_116 rfl ?_
  refine go_iload i0_117 rfl ?_
  refine go_icmp_gt 126 i0_119 (by decide) (fun g => ?_) (fun g => ?_)
  · refine go_iconst (v := (0 : Int32)) i0_126 (by decide) ?_
    refine go_istore7 i0_127 o7 ?_
    refine go_aload i0_129 rfl ?_
    refine go_iloadN i0_131 rfl ?_
    refine go_iload i0_132 rfl ?_
    refine go_virtual i0_134 (met8 hw us t held size h1) rfl (hw _ (List.mem_of_getElem? (i := 47) rfl)) (hw _ (List.mem_of_getElem? (i := 48) rfl)) (hw _ (List.mem_of_getElem? (i := 50) rfl)) (hw _ (List.mem_of_getElem? (i := 49) rfl)) (hw _ (List.mem_of_getElem? (i := 7) rfl)) (hw _ (List.mem_of_getElem? (i := 51) rfl)) rfl pd8 rfl rfl rfl (by first | decide | exact Nat.le_of_ble_eq_true rfl | (simp only [room_1]; omega) | omega) (by first | decide | exact Nat.le_of_ble_eq_true rfl | (simp only [room_1]; omega) | omega) (by first | decide | exact Nat.le_of_ble_eq_true rfl | (simp only [room_1]; omega) | omega) (by first | decide | exact Nat.le_of_ble_eq_true rfl | (simp only [room_1]; omega) | omega) (retE rfl ?_)
    rw [if_pos g]
    refine go_iload i0_137 rfl ?_
    refine go_icmpF i0_139 (by decide) ?_
    refine go_iconst (v := (1 : Int32)) i0_142 (by decide) ?_
    refine go_goto 147 i0_143 (by decide) ?_
    refine go_ireturn i0_147 rfl rfl (Or.inr (Or.inl rfl)) (by first | decide | exact Nat.le_of_ble_eq_true rfl | (simp only [room_1]; omega) | omega) (by first | decide | exact Nat.le_of_ble_eq_true rfl | (simp only [room_1]; omega) | omega) ?_
    rfl
  · refine go_iconst (v := (1 : Int32)) i0_122 (by decide) ?_
    refine go_goto 127 i0_123 (by decide) ?_
    refine go_istore7 i0_127 o7 ?_
    refine go_aload i0_129 rfl ?_
    refine go_iloadN i0_131 rfl ?_
    refine go_iload i0_132 rfl ?_
    refine go_virtual i0_134 (met8 hw us t held size h1) rfl (hw _ (List.mem_of_getElem? (i := 47) rfl)) (hw _ (List.mem_of_getElem? (i := 48) rfl)) (hw _ (List.mem_of_getElem? (i := 50) rfl)) (hw _ (List.mem_of_getElem? (i := 49) rfl)) (hw _ (List.mem_of_getElem? (i := 7) rfl)) (hw _ (List.mem_of_getElem? (i := 51) rfl)) rfl pd8 rfl rfl rfl (by first | decide | exact Nat.le_of_ble_eq_true rfl | (simp only [room_1]; omega) | omega) (by first | decide | exact Nat.le_of_ble_eq_true rfl | (simp only [room_1]; omega) | omega) (by first | decide | exact Nat.le_of_ble_eq_true rfl | (simp only [room_1]; omega) | omega) (by first | decide | exact Nat.le_of_ble_eq_true rfl | (simp only [room_1]; omega) | omega) (retE rfl ?_)
    rw [if_neg g]
    refine go_iload i0_137 rfl ?_
    refine go_icmpF i0_139 (by decide) ?_
    refine go_iconst (v := (1 : Int32)) i0_142 (by decide) ?_
    refine go_goto 147 i0_143 (by decide) ?_
    refine go_ireturn i0_147 rfl rfl (Or.inr (Or.inl rfl)) (by first | decide | exact Nat.le_of_ble_eq_true rfl | (simp only [room_1]; omega) | omega) (by first | decide | exact Nat.le_of_ble_eq_true rfl | (simp only [room_1]; omega) | omega) ?_
    rfl
theorem law_met (Z : State) (a0 : Array Value) (n0 : Nat) (hw : ∀ d ∈ tables_1, d.before a0 Z = true) (r i held s : Int32) : MetW Z a0 n0 M0 tables_1 room_1 [.int r, .int i, .int held, .int s] [] (fun v _ => v = some (.int 1)) := by
  refine MetW.intro [.val (.int r), .val (.int i), .val (.int held), .val (.int s), .unset, .unset, .unset, .unset] pn0 rfl ?_
  have o1 : (1 : Int32).toInt = 1 := by decide
  have z0 : (0 : Int32).toInt = 0 := by decide
  have r1 := c_mask r 7 3 (by decide) (by decide)
  refine go_iloadN i0_0 rfl ?_
  refine go_bipush (v := (7 : Int32)) i0_1 (by decide) ?_
  refine go_iand i0_3 ?_
  refine go_istore4 i0_4 (by first | exact One.u | exact One.val rfl) ?_
  refine go_iconst (v := (1 : Int32)) i0_6 (by decide) ?_
  refine go_iloadN i0_7 rfl ?_
  refine go_ldc i0_8 (hw _ (List.mem_of_getElem? (i := 0) rfl)) ?_
  refine go_iand i0_10 ?_
  obtain ⟨N, hn⟩ : ∃ N : Nat, (r &&& 7).toInt = (N : Int) := ⟨(r &&& 7).toInt.toNat, by omega⟩
  have hN : N ≤ 7 := by omega
  generalize r &&& 7 = n at *
  clear r1
  refine go_static i0_11 (met1 hw _ _ _) (hw _ (List.mem_of_getElem? (i := 1) rfl)) (hw _ (List.mem_of_getElem? (i := 2) rfl)) (hw _ (List.mem_of_getElem? (i := 3) rfl)) (hw _ (List.mem_of_getElem? (i := 4) rfl)) rfl pd1 rfl rfl rfl (by first | decide | exact Nat.le_of_ble_eq_true rfl | (simp only [room_1]; omega) | omega) (by first | decide | exact Nat.le_of_ble_eq_true rfl | (simp only [room_1]; omega) | omega) (by first | decide | exact Nat.le_of_ble_eq_true rfl | (simp only [room_1]; omega) | omega) (by first | decide | exact Nat.le_of_ble_eq_true rfl | (simp only [room_1]; omega) | omega) ?_
  rintro _ _ ⟨⟨size, rfl, hz⟩, rfl⟩
  refine ⟨rfl, ?_⟩
  have h1 : 1 ≤ size.toInt := by omega
  refine go_istore5 i0_14 (by first | exact One.u | exact One.val rfl) ?_
  refine go_iload i0_16 rfl ?_
  refine go_static i0_18 (met2 hw n N hn hN) (hw _ (List.mem_of_getElem? (i := 5) rfl)) (hw _ (List.mem_of_getElem? (i := 6) rfl)) (hw _ (List.mem_of_getElem? (i := 7) rfl)) (hw _ (List.mem_of_getElem? (i := 8) rfl)) rfl pd2 rfl rfl rfl (by first | decide | exact Nat.le_of_ble_eq_true rfl | (simp only [room_1]; omega) | omega) (by first | decide | exact Nat.le_of_ble_eq_true rfl | (simp only [room_1]; omega) | omega) (by first | decide | exact Nat.le_of_ble_eq_true rfl | (simp only [room_1]; omega) | omega) (by first | decide | exact Nat.le_of_ble_eq_true rfl | (simp only [room_1]; omega) | omega) ?_
  rintro _ _ ⟨rfl, us, hus, rfl⟩
  refine ⟨rfl, ?_⟩
  refine go_astore6 i0_21 (by first | exact One.u | exact One.val rfl) ?_
  refine go_aload i0_23 rfl ?_
  refine go_virtual i0_25 (met6 hw n N hn us hus) rfl (hw _ (List.mem_of_getElem? (i := 37) rfl)) (hw _ (List.mem_of_getElem? (i := 38) rfl)) (hw _ (List.mem_of_getElem? (i := 40) rfl)) (hw _ (List.mem_of_getElem? (i := 39) rfl)) (hw _ (List.mem_of_getElem? (i := 7) rfl)) (hw _ (List.mem_of_getElem? (i := 41) rfl)) rfl pd6 rfl rfl rfl (by first | decide | exact Nat.le_of_ble_eq_true rfl | (simp only [room_1]; omega) | omega) (by first | decide | exact Nat.le_of_ble_eq_true rfl | (simp only [room_1]; omega) | omega) (by first | decide | exact Nat.le_of_ble_eq_true rfl | (simp only [room_1]; omega) | omega) (by first | decide | exact Nat.le_of_ble_eq_true rfl | (simp only [room_1]; omega) | omega) (retE rfl ?_)
  refine go_iload i0_28 rfl ?_
  refine go_icmpT 35 i0_30 (by decide) ((hold_eq _ _).1.mpr rfl) ?_
  refine go_aload i0_35 rfl ?_
  refine go_virtual i0_37 (met7 hw us) rfl (hw _ (List.mem_of_getElem? (i := 42) rfl)) (hw _ (List.mem_of_getElem? (i := 43) rfl)) (hw _ (List.mem_of_getElem? (i := 45) rfl)) (hw _ (List.mem_of_getElem? (i := 44) rfl)) (hw _ (List.mem_of_getElem? (i := 7) rfl)) (hw _ (List.mem_of_getElem? (i := 46) rfl)) rfl pd7 rfl rfl rfl (by first | decide | exact Nat.le_of_ble_eq_true rfl | (simp only [room_1]; omega) | omega) (by first | decide | exact Nat.le_of_ble_eq_true rfl | (simp only [room_1]; omega) | omega) (by first | decide | exact Nat.le_of_ble_eq_true rfl | (simp only [room_1]; omega) | omega) (by first | decide | exact Nat.le_of_ble_eq_true rfl | (simp only [room_1]; omega) | omega) (retE rfl ?_)
  refine go_ifT 45 i0_40 (by decide) (by decide) ?_
  refine go_iload i0_45 rfl ?_
  refine go_if_le 116 i0_47 (by decide) (fun g => ?_) (fun g => ?_)
  · exact g116 hw _ _ _ _ _ One.u held size h1 us [] _ _ (by decide) (by decide)
  rw [Int32.lt_iff_toInt_lt, z0] at g
  have i1 := c_mask i 2147483647 31 (by decide) (by decide)
  have i2 := (c_iremV (i &&& 2147483647) n).1 (by omega) g
  obtain ⟨J, hj⟩ : ∃ J : Nat, ((i &&& 2147483647) % n).toInt = (J : Int) := ⟨((i &&& 2147483647) % n).toInt.toNat, by omega⟩
  have hJ : J < N := by omega
  have n00 : n ≠ 0 := by
    intro q
    rw [q, z0] at g
    omega
  refine go_iloadN i0_50 rfl ?_
  refine go_ldc i0_51 (hw _ (List.mem_of_getElem? (i := 0) rfl)) ?_
  refine go_iand i0_53 ?_
  refine go_iload i0_54 rfl ?_
  refine go_irem i0_56 (by exact n00) ?_
  refine go_istore7 i0_57 (by first | exact One.u | exact One.val rfl) ?_
  generalize (i &&& 2147483647) % n = j at *
  refine go_aload i0_59 rfl ?_
  refine go_iload i0_61 rfl ?_
  refine go_virtual i0_63 (met9 hw us N hus [] j J hj hJ) rfl (hw _ (List.mem_of_getElem? (i := 52) rfl)) (hw _ (List.mem_of_getElem? (i := 53) rfl)) (hw _ (List.mem_of_getElem? (i := 55) rfl)) (hw _ (List.mem_of_getElem? (i := 54) rfl)) (hw _ (List.mem_of_getElem? (i := 7) rfl)) (hw _ (List.mem_of_getElem? (i := 56) rfl)) rfl pd9 rfl rfl rfl (by first | decide | exact Nat.le_of_ble_eq_true rfl | (simp only [room_1]; omega) | omega) (by first | decide | exact Nat.le_of_ble_eq_true rfl | (simp only [room_1]; omega) | omega) (by first | decide | exact Nat.le_of_ble_eq_true rfl | (simp only [room_1]; omega) | omega) (by first | decide | exact Nat.le_of_ble_eq_true rfl | (simp only [room_1]; omega) | omega) (retE rfl ?_)
  refine go_iconst (v := (-1 : Int32)) i0_66 (by decide) ?_
  refine go_icmpT 72 i0_67 (by decide) (by decide) ?_
  refine go_aload i0_72 rfl ?_
  refine go_iconst (v := (0 : Int32)) i0_74 (by decide) ?_
  refine go_virtual i0_75 (met9 hw us N hus [] 0 0 (by decide) (by omega)) rfl (hw _ (List.mem_of_getElem? (i := 52) rfl)) (hw _ (List.mem_of_getElem? (i := 53) rfl)) (hw _ (List.mem_of_getElem? (i := 55) rfl)) (hw _ (List.mem_of_getElem? (i := 54) rfl)) (hw _ (List.mem_of_getElem? (i := 7) rfl)) (hw _ (List.mem_of_getElem? (i := 56) rfl)) rfl pd9 rfl rfl rfl (by first | decide | exact Nat.le_of_ble_eq_true rfl | (simp only [room_1]; omega) | omega) (by first | decide | exact Nat.le_of_ble_eq_true rfl | (simp only [room_1]; omega) | omega) (by first | decide | exact Nat.le_of_ble_eq_true rfl | (simp only [room_1]; omega) | omega) (by first | decide | exact Nat.le_of_ble_eq_true rfl | (simp only [room_1]; omega) | omega) (retE rfl ?_)
  refine go_iconst (v := (-1 : Int32)) i0_78 (by decide) ?_
  refine go_icmpT 84 i0_79 (by decide) (by decide) ?_
  have c1 := c_isub n 1
  have c2 := rng32 (n - 1)
  rw [o1] at c1
  refine go_aload i0_84 rfl ?_
  refine go_iload i0_86 rfl ?_
  refine go_iconst (v := (1 : Int32)) i0_88 (by decide) ?_
  refine go_isub i0_89 ?_
  refine go_virtual i0_90 (met9 hw us N hus [] (n - 1) (N - 1) (by omega) (by omega)) rfl (hw _ (List.mem_of_getElem? (i := 52) rfl)) (hw _ (List.mem_of_getElem? (i := 53) rfl)) (hw _ (List.mem_of_getElem? (i := 55) rfl)) (hw _ (List.mem_of_getElem? (i := 54) rfl)) (hw _ (List.mem_of_getElem? (i := 7) rfl)) (hw _ (List.mem_of_getElem? (i := 56) rfl)) rfl pd9 rfl rfl rfl (by first | decide | exact Nat.le_of_ble_eq_true rfl | (simp only [room_1]; omega) | omega) (by first | decide | exact Nat.le_of_ble_eq_true rfl | (simp only [room_1]; omega) | omega) (by first | decide | exact Nat.le_of_ble_eq_true rfl | (simp only [room_1]; omega) | omega) (by first | decide | exact Nat.le_of_ble_eq_true rfl | (simp only [room_1]; omega) | omega) (retE rfl ?_)
  refine go_iconst (v := (-1 : Int32)) i0_93 (by decide) ?_
  refine go_icmpT 99 i0_94 (by decide) (by decide) ?_
  refine go_aload i0_99 rfl ?_
  refine go_virtual i0_101 (met10 hw us) rfl (hw _ (List.mem_of_getElem? (i := 57) rfl)) (hw _ (List.mem_of_getElem? (i := 58) rfl)) (hw _ (List.mem_of_getElem? (i := 60) rfl)) (hw _ (List.mem_of_getElem? (i := 59) rfl)) (hw _ (List.mem_of_getElem? (i := 7) rfl)) (hw _ (List.mem_of_getElem? (i := 61) rfl)) rfl pd10 rfl rfl rfl (by first | decide | exact Nat.le_of_ble_eq_true rfl | (simp only [room_1]; omega) | omega) (by first | decide | exact Nat.le_of_ble_eq_true rfl | (simp only [room_1]; omega) | omega) (by first | decide | exact Nat.le_of_ble_eq_true rfl | (simp only [room_1]; omega) | omega) (by first | decide | exact Nat.le_of_ble_eq_true rfl | (simp only [room_1]; omega) | omega) (retE rfl ?_)
  refine go_iload i0_104 rfl ?_
  refine go_iload i0_106 rfl ?_
  refine go_virtual i0_108 (met12 hw us N hus j size J hj hJ) rfl (hw _ (List.mem_of_getElem? (i := 79) rfl)) (hw _ (List.mem_of_getElem? (i := 80) rfl)) (hw _ (List.mem_of_getElem? (i := 82) rfl)) (hw _ (List.mem_of_getElem? (i := 81) rfl)) (hw _ (List.mem_of_getElem? (i := 64) rfl)) (hw _ (List.mem_of_getElem? (i := 83) rfl)) rfl pd12 rfl rfl rfl (by first | decide | exact Nat.le_of_ble_eq_true rfl | (simp only [room_1]; omega) | omega) (by first | decide | exact Nat.le_of_ble_eq_true rfl | (simp only [room_1]; omega) | omega) (by first | decide | exact Nat.le_of_ble_eq_true rfl | (simp only [room_1]; omega) | omega) (by first | decide | exact Nat.le_of_ble_eq_true rfl | (simp only [room_1]; omega) | omega) (retE rfl ?_)
  refine go_ifT 116 i0_111 (by decide) (by decide) ?_
  exact g116 hw _ _ _ _ _ (One.val rfl) held size h1 us (own_T n0) _ _ (by decide) (by decide)
theorem comes_1 {Post : Tables → Env → Array Value → State → Outcome → State → Prop} (hpost : ∀ tb e args s v u, (limb_1_1.after args s (.returned v) u = true ∧ limb_1_2.after args s (.returned v) u = true ∧ True) → FrameEnd s (.returned v) u (Jvm.fieldLocs frame_1_writes args s ++ Jvm.arrayLocs frame_1_arrays args s ++ Jvm.staticLocs frame_1_statics s) 24 192 → Post tb e args s (.returned v) u) :
    ArmFor flags0 classFile x code maxLocals ret World_1 tables_1 room_1 Calls_1 rest_1 Pre_1 Post := by
  intro l hfl _ _ p e ha hc hk s m args below hf hA hF happ hP
  obtain ⟨hcalls, hrest, hpre⟩ := hP
  obtain ⟨-, -, -, hnamed, -, -, -, hat⟩ := (Spec.applies_iff hf).mp happ
  obtain ⟨hg, hn⟩ := and_e (Cond.before_iff.mp (show (Jvm.Cond.and given_1 narrow_1).before args s = true from hpre))
  obtain ⟨g0, gs0⟩ := and_e hg
  obtain ⟨w0, w1, w2, w3, rfl⟩ : ∃ (w0 : Value) (w1 : Value) (w2 : Value) (w3 : Value), args = #[w0, w1, w2, w3] := by
    have hs : args.size = 4 := by simpa [Cond.value, given_1] using g0
    obtain ⟨L⟩ := args
    match L, hs with
    | [w0, w1, w2, w3], _ => exact ⟨w0, w1, w2, w3, rfl⟩
  have hw := fun d (hd : d ∈ tables_1) => atoms_spec (ws := Jvm.Cond.code x code maxLocals ret :: tables_1) hat d (List.mem_cons_of_mem _ hd)
  obtain ⟨b0, gs1⟩ := and_e gs0
  obtain ⟨i0, ei0⟩ := is_v b0
  obtain rfl : w0 = (.int i0) := Option.some.inj ei0
  obtain ⟨b1, gs2⟩ := and_e gs1
  obtain ⟨i1, ei1⟩ := is_v b1
  obtain rfl : w1 = (.int i1) := Option.some.inj ei1
  obtain ⟨b2, gs3⟩ := and_e gs2
  obtain ⟨i2, ei2⟩ := is_v b2
  obtain rfl : w2 = (.int i2) := Option.some.inj ei2
  have b3 := gs3
  obtain ⟨i3, ei3⟩ := is_v b3
  obtain rfl : w3 = (.int i3) := Option.some.inj ei3
  obtain ⟨n, o, h1, h2, h3, _, L, rfl, ⟨H', rfl, -, N⟩, hq⟩ := law_met s _ s.heap.size hw i0 i1 i2 i3 l s.heap ⟨rfl, ⟨Nat.le_refl _, fun _ _ q => q⟩, by simp, fun k o q => by simp at q⟩ p e ha hc hk s m _ below hf ((Spec.applies_iff_loose hf).mp happ).1 ⟨rfl, State.Warmed39.refl s, rfl⟩ trivial
  refine ⟨n, _, h1, h2, h3, hpost _ _ _ _ _ _ ⟨Cond.after_iff.mpr rfl, Cond.after_iff.mpr (eq_i res_at (Term.int_eval (1)) rfl), trivial⟩ ⟨hq.1, hq.2.1, (hq.2.2.sift fun y hy => Or.inr (N y hy)).mono (by decide) (by decide)⟩⟩
theorem main_1_1 : Claimed_1_1 := comes_1 fun _ _ _ _ _ _ h hF => ⟨h.1, hF⟩
theorem main_1_2 : Claimed_1_2 := comes_1 fun _ _ _ _ _ _ h hF => ⟨h.2.1, hF⟩
end Jvm.Pilot.@@N@@
namespace Jvm.Pilot.@@N@@
open Jvm Jvm.ClassFile Sem Op Lib Jvm.Free Jvm.Stand Jvm.Pilot.@@N@@.Jvm.D
/-! MADE BY PROGRAM (witnessworld.py) out of the Statement's table words and the real class files: 12 classes; the members and pool entries that the words name. The judged class is class 1, her method 1. -/
namespace start1
open Jvm.ClassFile
def u (s : String) : CpInfo := .utf8 (stringToUtf16 s)
/-- a pool by its gaps: so many unusable entries, then the entry; so many at the end -/
def gap : Nat → List CpInfo → List CpInfo
  | 0, r => r
  | n + 1, r => .unusable :: gap n r
def poolList (es : List (Nat × CpInfo)) (last : Nat) : List CpInfo := es.foldr (fun e r => gap e.1 (e.2 :: r)) (gap last [])
def pool (es : List (Nat × CpInfo)) (last : Nat) : Array CpInfo := ⟨poolList es last⟩
def fileOf (pool : Array CpInfo) (this : Nat) (attrs : Array Attribute := #[]) (ms : Array MethodInfo := #[]) (fl : Nat := 33) (sup : Nat := 0) (ifs : Array Nat := #[]) (fds : Array FieldInfo := #[]) : ClassFile where
  minorVersion := 0
  majorVersion := 65
  constantPool := pool
  accessFlags := fl
  thisClass := this
  superClass := sup
  interfaces := ifs
  fields := fds
  methods := ms
  attributes := attrs
def plain (name : String) (sup : Option ClassId) : Class where
  name := name
  kind := .ordinary
  loader := none
  accessFlags := 33
  super := sup
  interfaces := #[]
  cf := none
  fields := #[]
  methods := #[]
  instanceTypes := #[]
  staticTypes := #[]
  resolved := #[]
  callSites := []
  init := .initialized
  statics := none
  mirror := none

def pool0 : Array CpInfo := pool [(5, u "<init>"), (0, u "()V"), (1, .class_ 10), (1, u "java/lang/Object"), (85, u "clone"), (0, u "()Ljava/lang/Object;")] 26

def k0c0 : Code := { maxStack := 0, maxLocals := 1, code := object_method_1_code, exceptionTable := #[], attributes := #[] }
def k0m0 : Method := { name := "<init>", desc := "()V", sig := { parameters := [], returnType := none }, accessFlags := 1, code := some k0c0 }
def k0m1 : Method := { name := "clone", desc := "()Ljava/lang/Object;", sig := { parameters := [], returnType := some (.object "java/lang/Object") }, accessFlags := 260, code := none }
/-- java/lang/Object -/
def k0 : Class := { plain "java/lang/Object" none with
  accessFlags := 33
  interfaces := #[]
  cf := some (fileOf pool0 8 #[] #[{ accessFlags := 1, nameIndex := 5, descriptorIndex := 6, attributes := #[] }, { accessFlags := 260, nameIndex := 96, descriptorIndex := 97, attributes := #[] }] 33 0 #[] #[])
  fields := #[]
  methods := #[k0m0, k0m1]
  instanceTypes := #[]
  staticTypes := #[]
  resolved := Array.replicate 124 none
  statics := none }

def pool1 : Array CpInfo := pool [(2, .class_ 4), (1, u "java/lang/Object"), (0, u "<init>"), (0, u "()V"), (0, .integer 2147483647), (0, .methodref 9 10), (0, .class_ 11), (0, .nameAndType 12 13), (0, u "java/lang/Math"), (0, u "max"), (0, u "(II)I"), (0, .methodref 15 16), (0, .class_ 17), (0, .nameAndType 18 19), (0, u "com/example/menhaden/menhaden/ShareLimit"), (0, u "none"), (0, u "(I)Lcom/example/menhaden/menhaden/ShareLimit;"), (0, .methodref 15 21), (0, .nameAndType 22 23), (0, u "rows"), (0, u "()I"), (0, .methodref 15 25), (0, .nameAndType 26 23), (0, u "values"), (0, .methodref 15 28), (0, .nameAndType 29 30), (0, u "code"), (0, u "(I)I"), (0, .methodref 15 32), (0, .nameAndType 33 34), (0, u "held"), (0, u "()Lcom/example/menhaden/menhaden/ShareLimit$Held;"), (0, .methodref 36 37), (0, .class_ 38), (0, .nameAndType 39 40), (0, u "com/example/menhaden/menhaden/ShareLimit$Held"), (0, u "takes"), (0, u "(II)Z"), (0, .methodref 15 42), (0, .nameAndType 43 40), (0, u "allows"), (0, .class_ 45), (0, u "com/example/menhaden/menhaden/ShareLimitNonePinLaw"), (2, u "law"), (0, u "(IIII)Z")] 5

def k1m0 : Method := { name := "<init>", desc := "()V", sig := { parameters := [], returnType := none }, accessFlags := 1, code := none }
def k1c1 : Code := { maxStack := 3, maxLocals := 8, code := code, exceptionTable := #[], attributes := #[] }
def k1m1 : Method := { name := "law", desc := "(IIII)Z", sig := { parameters := [.int, .int, .int, .int], returnType := some .boolean }, accessFlags := 9, code := some k1c1 }
/-- com/example/menhaden/menhaden/ShareLimitNonePinLaw -/
def k1 : Class := { plain "com/example/menhaden/menhaden/ShareLimitNonePinLaw" (some 0) with
  accessFlags := 49
  interfaces := #[]
  cf := some (fileOf pool1 44 #[] #[{ accessFlags := 1, nameIndex := 5, descriptorIndex := 6, attributes := #[] }, { accessFlags := 9, nameIndex := 48, descriptorIndex := 49, attributes := #[] }] 49 2 #[] #[])
  fields := #[]
  methods := #[k1m0, k1m1]
  instanceTypes := #[]
  staticTypes := #[]
  resolved := Array.replicate 55 none
  statics := none }

def pool2 : Array CpInfo := pool [(1, .class_ 2), (0, u "java/lang/Math"), (1, .class_ 6), (1, u "java/lang/Object"), (0, u "<init>"), (0, u "()V"), (89, .class_ 100), (1, u "java/lang/Math$RandomNumberGeneratorHolder"), (71, u "negativeZeroFloatBits"), (0, u "J"), (2, u "negativeZeroDoubleBits"), (21, u "max"), (46, u "$assertionsDisabled"), (0, u "Z"), (88, u "(II)I"), (2, u "twoToTheDoubleScaleDown"), (0, u "D"), (4, u "twoToTheDoubleScaleUp"), (9, u "E"), (3, u "PI"), (2, u "TAU"), (2, u "DEGREES_TO_RADIANS"), (0, u "RADIANS_TO_DEGREES")] 94

def k2m0 : Method := { name := "<init>", desc := "()V", sig := { parameters := [], returnType := none }, accessFlags := 2, code := none }
def k2c1 : Code := { maxStack := 2, maxLocals := 2, code := jdk_29_method_65_code, exceptionTable := #[], attributes := #[] }
def k2m1 : Method := { name := "max", desc := "(II)I", sig := { parameters := [.int, .int], returnType := some .int }, accessFlags := 9, code := some k2c1 }
/-- java/lang/Math -/
def k2 : Class := { plain "java/lang/Math" (some 0) with
  accessFlags := 49
  interfaces := #[]
  cf := some (fileOf pool2 1 #[.nestMembers #[98]] #[{ accessFlags := 2, nameIndex := 7, descriptorIndex := 8, attributes := #[] }, { accessFlags := 9, nameIndex := 198, descriptorIndex := 335, attributes := #[] }] 49 4 #[] #[{ accessFlags := 25, nameIndex := 354, descriptorIndex := 339, attributes := #[] }, { accessFlags := 25, nameIndex := 358, descriptorIndex := 339, attributes := #[] }, { accessFlags := 25, nameIndex := 361, descriptorIndex := 339, attributes := #[] }, { accessFlags := 26, nameIndex := 364, descriptorIndex := 339, attributes := #[] }, { accessFlags := 26, nameIndex := 365, descriptorIndex := 339, attributes := #[] }, { accessFlags := 26, nameIndex := 172, descriptorIndex := 173, attributes := #[] }, { accessFlags := 26, nameIndex := 176, descriptorIndex := 173, attributes := #[] }, { accessFlags := 8, nameIndex := 344, descriptorIndex := 339, attributes := #[] }, { accessFlags := 8, nameIndex := 338, descriptorIndex := 339, attributes := #[] }, { accessFlags := 4120, nameIndex := 245, descriptorIndex := 246, attributes := #[] }])
  fields := #[{ name := "E", type := .double, accessFlags := 25, slot := 0, constantValue := 0 }, { name := "PI", type := .double, accessFlags := 25, slot := 1, constantValue := 0 }, { name := "TAU", type := .double, accessFlags := 25, slot := 2, constantValue := 0 }, { name := "DEGREES_TO_RADIANS", type := .double, accessFlags := 26, slot := 3, constantValue := 0 }, { name := "RADIANS_TO_DEGREES", type := .double, accessFlags := 26, slot := 4, constantValue := 0 }, { name := "negativeZeroFloatBits", type := .long, accessFlags := 26, slot := 5, constantValue := 0 }, { name := "negativeZeroDoubleBits", type := .long, accessFlags := 26, slot := 6, constantValue := 0 }, { name := "twoToTheDoubleScaleUp", type := .double, accessFlags := 8, slot := 7, constantValue := 0 }, { name := "twoToTheDoubleScaleDown", type := .double, accessFlags := 8, slot := 8, constantValue := 0 }, { name := "$assertionsDisabled", type := .boolean, accessFlags := 4120, slot := 9, constantValue := 0 }]
  methods := #[k2m0, k2m1]
  instanceTypes := #[]
  staticTypes := #[.double, .double, .double, .double, .double, .long, .long, .double, .double, .boolean]
  resolved := Array.replicate 460 none
  statics := none }

def pool3 : Array CpInfo := pool [(1, .methodref 2 3), (0, .class_ 4), (0, .nameAndType 5 6), (0, u "java/lang/Object"), (0, u "<init>"), (0, u "()V"), (0, .methodref 8 9), (0, .class_ 10), (0, .nameAndType 11 12), (0, u "[I"), (0, u "clone"), (0, u "()Ljava/lang/Object;"), (0, .fieldref 14 15), (0, .class_ 16), (0, .nameAndType 17 10), (0, u "com/example/menhaden/menhaden/ShareLimit"), (0, u "codes"), (0, .fieldref 14 19), (0, .nameAndType 20 21), (0, u "values"), (0, u "I"), (0, .fieldref 14 23), (0, .nameAndType 24 25), (0, u "alpha"), (0, u "D"), (0, .methodref 27 28), (0, .class_ 29), (0, .nameAndType 30 31), (0, u "java/util/Arrays"), (0, u "fill"), (0, u "([II)V"), (0, .methodref 14 33), (0, .nameAndType 5 34), (0, u "([IID)V"), (28, u "allows"), (0, u "(II)Z"), (10, .class_ 76), (0, u "com/example/menhaden/menhaden/ShareLimit$Held"), (0, .methodref 75 78), (0, .nameAndType 5 79), (0, u "(Lcom/example/menhaden/menhaden/ShareLimit;)V"), (4, u "UNPROTECTED"), (4, u "none"), (0, u "(I)Lcom/example/menhaden/menhaden/ShareLimit;"), (2, u "rows"), (0, u "()I"), (0, u "code"), (0, u "(I)I"), (5, u "held"), (0, u "()Lcom/example/menhaden/menhaden/ShareLimit$Held;")] 30

def k3c0 : Code := { maxStack := 3, maxLocals := 5, code := prog_3_method_1_code, exceptionTable := #[], attributes := #[] }
def k3m0 : Method := { name := "<init>", desc := "([IID)V", sig := { parameters := [(.array .int), .int, .double], returnType := none }, accessFlags := 0, code := some k3c0 }
def k3c1 : Code := { maxStack := 6, maxLocals := 2, code := prog_3_method_2_code, exceptionTable := #[], attributes := #[] }
def k3m1 : Method := { name := "none", desc := "(I)Lcom/example/menhaden/menhaden/ShareLimit;", sig := { parameters := [.int], returnType := some (.object "com/example/menhaden/menhaden/ShareLimit") }, accessFlags := 8, code := some k3c1 }
def k3c2 : Code := { maxStack := 1, maxLocals := 1, code := prog_3_method_4_code, exceptionTable := #[], attributes := #[] }
def k3m2 : Method := { name := "rows", desc := "()I", sig := { parameters := [], returnType := some .int }, accessFlags := 0, code := some k3c2 }
def k3c3 : Code := { maxStack := 2, maxLocals := 2, code := prog_3_method_5_code, exceptionTable := #[], attributes := #[] }
def k3m3 : Method := { name := "code", desc := "(I)I", sig := { parameters := [.int], returnType := some .int }, accessFlags := 0, code := some k3c3 }
def k3c4 : Code := { maxStack := 1, maxLocals := 1, code := prog_3_method_6_code, exceptionTable := #[], attributes := #[] }
def k3m4 : Method := { name := "values", desc := "()I", sig := { parameters := [], returnType := some .int }, accessFlags := 0, code := some k3c4 }
def k3c5 : Code := { maxStack := 4, maxLocals := 3, code := prog_3_method_8_code, exceptionTable := #[], attributes := #[] }
def k3m5 : Method := { name := "allows", desc := "(II)Z", sig := { parameters := [.int, .int], returnType := some .boolean }, accessFlags := 0, code := some k3c5 }
def k3c6 : Code := { maxStack := 3, maxLocals := 1, code := prog_3_method_11_code, exceptionTable := #[], attributes := #[] }
def k3m6 : Method := { name := "held", desc := "()Lcom/example/menhaden/menhaden/ShareLimit$Held;", sig := { parameters := [], returnType := some (.object "com/example/menhaden/menhaden/ShareLimit$Held") }, accessFlags := 0, code := some k3c6 }
/-- com/example/menhaden/menhaden/ShareLimit -/
def k3 : Class := { plain "com/example/menhaden/menhaden/ShareLimit" (some 0) with
  accessFlags := 48
  interfaces := #[]
  cf := some (fileOf pool3 14 #[.nestMembers #[75]] #[{ accessFlags := 0, nameIndex := 5, descriptorIndex := 34, attributes := #[] }, { accessFlags := 8, nameIndex := 89, descriptorIndex := 90, attributes := #[] }, { accessFlags := 0, nameIndex := 93, descriptorIndex := 94, attributes := #[] }, { accessFlags := 0, nameIndex := 95, descriptorIndex := 96, attributes := #[] }, { accessFlags := 0, nameIndex := 20, descriptorIndex := 94, attributes := #[] }, { accessFlags := 0, nameIndex := 63, descriptorIndex := 64, attributes := #[] }, { accessFlags := 0, nameIndex := 102, descriptorIndex := 103, attributes := #[] }] 48 2 #[] #[{ accessFlags := 24, nameIndex := 84, descriptorIndex := 21, attributes := #[] }, { accessFlags := 18, nameIndex := 17, descriptorIndex := 10, attributes := #[] }, { accessFlags := 18, nameIndex := 20, descriptorIndex := 21, attributes := #[] }, { accessFlags := 18, nameIndex := 24, descriptorIndex := 25, attributes := #[] }])
  fields := #[{ name := "UNPROTECTED", type := .int, accessFlags := 24, slot := 0, constantValue := 0 }, { name := "codes", type := (.array .int), accessFlags := 18, slot := 0, constantValue := 0 }, { name := "values", type := .int, accessFlags := 18, slot := 1, constantValue := 0 }, { name := "alpha", type := .double, accessFlags := 18, slot := 2, constantValue := 0 }]
  methods := #[k3m0, k3m1, k3m2, k3m3, k3m4, k3m5, k3m6]
  instanceTypes := #[(.array .int), .int, .double]
  staticTypes := #[.int]
  resolved := ((Array.replicate 134 none).setIfInBounds 75 (some (.cls 6))).setIfInBounds 77 (some (.method ⟨6, 0⟩))
  statics := none }

def pool4 : Array CpInfo := pool [(2, .class_ 4), (1, u "java/lang/Object"), (0, u "<init>"), (0, u "()V"), (7, .class_ 16), (1, u "java/util/Arrays"), (57, .class_ 76), (1, u "java/util/Arrays$NaturalOrder"), (36, .class_ 115), (1, u "java/util/Arrays$LegacyMergeSort"), (1, u "Z"), (257, .class_ 376), (0, u "java/util/Arrays$ArrayList"), (68, u "$assertionsDisabled"), (269, u "MIN_ARRAY_SORT_GRAN"), (0, u "I"), (2, u "INSERTIONSORT_THRESHOLD"), (120, u "fill"), (4, u "([II)V"), (129, .class_ 976), (0, u "java/util/Arrays$ArrayItr")] 52

def k4m0 : Method := { name := "<init>", desc := "()V", sig := { parameters := [], returnType := none }, accessFlags := 2, code := none }
def k4c1 : Code := { maxStack := 3, maxLocals := 4, code := jdk_65_method_103_code, exceptionTable := #[], attributes := #[] }
def k4m1 : Method := { name := "fill", desc := "([II)V", sig := { parameters := [(.array .int), .int], returnType := none }, accessFlags := 9, code := some k4c1 }
/-- java/util/Arrays -/
def k4 : Class := { plain "java/util/Arrays" (some 0) with
  accessFlags := 49
  interfaces := #[]
  cf := some (fileOf pool4 14 #[.nestMembers #[975, 375, 113, 74]] #[{ accessFlags := 2, nameIndex := 5, descriptorIndex := 6, attributes := #[] }, { accessFlags := 9, nameIndex := 840, descriptorIndex := 845, attributes := #[] }] 49 2 #[] #[{ accessFlags := 26, nameIndex := 715, descriptorIndex := 716, attributes := #[] }, { accessFlags := 26, nameIndex := 719, descriptorIndex := 716, attributes := #[] }, { accessFlags := 4120, nameIndex := 445, descriptorIndex := 117, attributes := #[] }])
  fields := #[{ name := "MIN_ARRAY_SORT_GRAN", type := .int, accessFlags := 26, slot := 0, constantValue := 0 }, { name := "INSERTIONSORT_THRESHOLD", type := .int, accessFlags := 26, slot := 1, constantValue := 0 }, { name := "$assertionsDisabled", type := .boolean, accessFlags := 4120, slot := 2, constantValue := 0 }]
  methods := #[k4m0, k4m1]
  instanceTypes := #[]
  staticTypes := #[.int, .int, .boolean]
  resolved := Array.replicate 1029 none
  statics := none }

def pool5 : Array CpInfo := pool [(1, .class_ 2), (0, u "java/lang/Cloneable"), (0, .class_ 4), (0, u "java/lang/Object")] 2

/-- java/lang/Cloneable -/
def k5 : Class := { plain "java/lang/Cloneable" (some 0) with
  accessFlags := 1537
  interfaces := #[]
  cf := some (fileOf pool5 1 #[] #[] 1537 3 #[] #[])
  fields := #[]
  methods := #[]
  instanceTypes := #[]
  staticTypes := #[]
  resolved := Array.replicate 7 none
  statics := none }

def pool6 : Array CpInfo := pool [(1, .class_ 2), (0, u "com/example/menhaden/menhaden/ShareLimit"), (0, .methodref 4 5), (0, .class_ 6), (0, .nameAndType 7 8), (0, u "java/lang/Object"), (0, u "<init>"), (0, u "()V"), (0, .fieldref 10 11), (0, .class_ 12), (0, .nameAndType 13 14), (0, u "com/example/menhaden/menhaden/ShareLimit$Held"), (0, u "slotValues"), (0, u "[I"), (0, .fieldref 10 16), (0, .nameAndType 17 14), (0, u "slotCounts"), (0, .fieldref 10 19), (0, .nameAndType 20 14), (0, u "filledSlots"), (0, .fieldref 10 22), (0, .nameAndType 23 14), (0, u "valuesHeld"), (0, .fieldref 10 25), (0, .nameAndType 26 27), (0, u "limit"), (0, u "Lcom/example/menhaden/menhaden/ShareLimit;"), (1, .methodref 1 30), (0, .nameAndType 31 32), (0, u "code"), (0, u "(I)I"), (5, u "filled"), (0, u "I"), (11, u "most"), (20, .methodref 1 73), (0, .nameAndType 74 75), (0, u "allows"), (0, u "(II)Z"), (0, u "(Lcom/example/menhaden/menhaden/ShareLimit;)V"), (8, u "takes")] 8

def k6c0 : Code := { maxStack := 2, maxLocals := 2, code := prog_4_method_1_code, exceptionTable := #[], attributes := #[] }
def k6m0 : Method := { name := "<init>", desc := "(Lcom/example/menhaden/menhaden/ShareLimit;)V", sig := { parameters := [(.object "com/example/menhaden/menhaden/ShareLimit")], returnType := none }, accessFlags := 2, code := some k6c0 }
def k6c1 : Code := { maxStack := 3, maxLocals := 4, code := prog_4_method_10_code, exceptionTable := #[], attributes := #[] }
def k6m1 : Method := { name := "takes", desc := "(II)Z", sig := { parameters := [.int, .int], returnType := some .boolean }, accessFlags := 0, code := some k6c1 }
/-- com/example/menhaden/menhaden/ShareLimit$Held -/
def k6 : Class := { plain "com/example/menhaden/menhaden/ShareLimit$Held" (some 0) with
  accessFlags := 48
  interfaces := #[]
  cf := some (fileOf pool6 10 #[.nestHost 1] #[{ accessFlags := 2, nameIndex := 7, descriptorIndex := 76, attributes := #[] }, { accessFlags := 0, nameIndex := 85, descriptorIndex := 75, attributes := #[] }] 48 4 #[] #[{ accessFlags := 18, nameIndex := 26, descriptorIndex := 27, attributes := #[] }, { accessFlags := 2, nameIndex := 13, descriptorIndex := 14, attributes := #[] }, { accessFlags := 2, nameIndex := 17, descriptorIndex := 14, attributes := #[] }, { accessFlags := 2, nameIndex := 20, descriptorIndex := 14, attributes := #[] }, { accessFlags := 2, nameIndex := 38, descriptorIndex := 39, attributes := #[] }, { accessFlags := 2, nameIndex := 23, descriptorIndex := 14, attributes := #[] }, { accessFlags := 2, nameIndex := 51, descriptorIndex := 39, attributes := #[] }])
  fields := #[{ name := "limit", type := (.object "com/example/menhaden/menhaden/ShareLimit"), accessFlags := 18, slot := 0, constantValue := 0 }, { name := "slotValues", type := (.array .int), accessFlags := 2, slot := 1, constantValue := 0 }, { name := "slotCounts", type := (.array .int), accessFlags := 2, slot := 2, constantValue := 0 }, { name := "filledSlots", type := (.array .int), accessFlags := 2, slot := 3, constantValue := 0 }, { name := "filled", type := .int, accessFlags := 2, slot := 4, constantValue := 0 }, { name := "valuesHeld", type := (.array .int), accessFlags := 2, slot := 5, constantValue := 0 }, { name := "most", type := .int, accessFlags := 2, slot := 6, constantValue := 0 }]
  methods := #[k6m0, k6m1]
  instanceTypes := #[(.object "com/example/menhaden/menhaden/ShareLimit"), (.array .int), (.array .int), (.array .int), .int, (.array .int), .int]
  staticTypes := #[]
  resolved := Array.replicate 94 none
  statics := none }

def pool7 : Array CpInfo := pool [(1, u "java/io/Serializable"), (0, .class_ 1), (0, u "java/lang/Object"), (0, .class_ 3)] 3

/-- java/io/Serializable -/
def k7 : Class := { plain "java/io/Serializable" (some 0) with
  accessFlags := 1537
  interfaces := #[]
  cf := some (fileOf pool7 2 #[] #[] 1537 4 #[] #[])
  fields := #[]
  methods := #[]
  instanceTypes := #[]
  staticTypes := #[]
  resolved := Array.replicate 8 none
  statics := none }

/-- the primitive byte -/
def k8 : Class := { plain "byte" none with kind := .primitive 'B', accessFlags := 0x411 }
/-- [B -/
def k9 : Class := { plain "[B" (some 0) with kind := .array 8 .byte, interfaces := #[5, 7], accessFlags := 1041 }

/-- the primitive int -/
def k10 : Class := { plain "int" none with kind := .primitive 'I', accessFlags := 0x411 }
/-- [I -/
def k11 : Class := { plain "[I" (some 0) with kind := .array 10 .int, interfaces := #[5, 7], accessFlags := 1041 }

def heap : Heap := #[]
def classes : Array Class := #[k0, k1, k2, k3, k4, k5, k6, k7, k8, k9, k10, k11]
def interned : List (Array UInt16 × Addr) := []
def slotsUsed : Nat := 0
def theMethod : MethodId := ⟨1, 1⟩
def args0 : Array Value := #[.int 5, .int 3, .int 7, .int 9]
def aboutOver (below : List Frame) : State where
  vm := { classes := classes, interned := interned.toArray }
  heap := heap
  slotsUsed := slotsUsed
  threads := #[{ frames := .invoking theMethod args0 :: below }]
def below0 : List Frame := [.native { method := ⟨0, 0⟩, args := #[] }]
def about1 : State := aboutOver below0
def p0 : Program := .bare "" "" ""
def e0 : Env := launch0.env 0 0 0
theorem w_frames : about1.frames = Frame.invoking theMethod args0 :: below0 := rfl
set_option maxRecDepth 65536 in
theorem w_args : argsFit about1.vm theMethod args0 = true := by decide +kernel
set_option maxRecDepth 65536 in
theorem w_heap : heapFits about1 = true := by decide +kernel
set_option maxRecDepth 65536 in
theorem w_runnable : about1.curStatus? = some .runnable := by decide +kernel
set_option maxRecDepth 65536 in
theorem w_alone : about1.alone = true := by decide +kernel
set_option maxRecDepth 65536 in
theorem w_named : about1.methodNamed? x = some theMethod := by decide +kernel
set_option maxRecDepth 65536 in
theorem w_hears : about1.hears theMethod below0 = true := by decide +kernel
set_option maxRecDepth 65536 in
theorem w_ripe : about1.ripe theMethod args0 below0 = true := by decide +kernel
theorem w_running : about1.status = .running := rfl
set_option maxRecDepth 65536 in
theorem w_room : about1.hasRoom e0.platform room_1 = true :=
  launch0.hasRoom_least _ room_1 (by decide +kernel) (by decide +kernel) (by decide +kernel) (by decide +kernel) (by decide +kernel) (by decide +kernel)
theorem allAtoms_all (ts : List Jvm.Cond) (a : Array Jvm.Value) (st : Jvm.State) : (allAtoms ts).before a st = ts.all (fun c => c.before a st) := by
  induction ts with
  | nil => rfl
  | cons c t ih =>
    show (Jvm.Cond.and c (allAtoms t)).before a st = _
    rw [Jvm.Cond.before_and, ih, List.all_cons]
def words1 : List Jvm.Cond := Jvm.Cond.code x code maxLocals ret :: tables_1
/-- a 'code' word, met by the world's own term for the bytes: nothing is compared byte by byte -/
theorem code_word {y : MethodName} {bytes : ByteArray} {mx : Nat} {rt : Option FieldType} {a : Array Value} {s : State} {m : MethodId} {meth : Method} {c : Code} (h1 : s.methodNamed? y = some m) (h2 : s.vm.method? m = some meth) (h3 : meth.code = some c) (h4 : c.code = bytes)
    (h5 : (c.maxLocals == mx && c.exceptionTable.isEmpty && decide (c.maxStack ≤ mostOperands) && decide (meth.sig.returnType = rt) && !meth.locks && decide (parseMethodDescriptor y.desc = some meth.sig)) = true) : (Jvm.Cond.code y bytes mx rt).before a s = true := by
  simp only [Bool.and_eq_true, beq_iff_eq, Bool.not_eq_true', decide_eq_true_eq] at h5
  obtain ⟨⟨⟨⟨⟨g1, g2⟩, g3⟩, g4⟩, g5⟩, g6⟩ := h5
  simp [Cond.before, Cond.holds, Cond.value, h1, h2, h3, h4, g1, g2, g3, g4, g5, g6]
def isCode : Jvm.Cond → Bool
  | .code _ _ _ _ => true
  | _ => false
theorem all_split {L : List Jvm.Cond} {P : Jvm.Cond → Bool} (h1 : L.all (fun c => isCode c || P c) = true) (h2 : ∀ c ∈ L.filter isCode, P c = true) : L.all P = true := by
  refine List.all_eq_true.mpr fun c hc => ?_
  have h := List.all_eq_true.mp h1 c hc
  rcases Bool.eq_false_or_eq_true (isCode c) with hi | hi
  · exact h2 c (List.mem_filter.mpr ⟨hc, hi⟩)
  · simpa [hi] using h
set_option maxRecDepth 65536 in
theorem w_c0 : (Jvm.Cond.code x code maxLocals ret).before args0 about1 = true := code_word (m := ⟨1, 1⟩) (meth := k1m1) (c := k1c1) (by decide +kernel) rfl rfl rfl (by decide +kernel)
set_option maxRecDepth 65536 in
theorem w_c1 : (Jvm.Cond.code ({ cls := "java/lang/Math", name := "max", desc := "(II)I" } : Jvm.MethodName) jdk_29_method_65_code (2 : Nat) (Option.some Jvm.ClassFile.FieldType.int)).before args0 about1 = true := code_word (m := ⟨2, 1⟩) (meth := k2m1) (c := k2c1) (by decide +kernel) rfl rfl rfl (by decide +kernel)
set_option maxRecDepth 65536 in
theorem w_c2 : (Jvm.Cond.code ({ cls := "com/example/menhaden/menhaden/ShareLimit", name := "none", desc := "(I)Lcom/example/menhaden/menhaden/ShareLimit;" } : Jvm.MethodName) prog_3_method_2_code (2 : Nat) (Option.some (Jvm.ClassFile.FieldType.object "com/example/menhaden/menhaden/ShareLimit"))).before args0 about1 = true := code_word (m := ⟨3, 1⟩) (meth := k3m1) (c := k3c1) (by decide +kernel) rfl rfl rfl (by decide +kernel)
set_option maxRecDepth 65536 in
theorem w_c3 : (Jvm.Cond.code ({ cls := "java/util/Arrays", name := "fill", desc := "([II)V" } : Jvm.MethodName) jdk_65_method_103_code (4 : Nat) (Option.none : Option Jvm.ClassFile.FieldType)).before args0 about1 = true := code_word (m := ⟨4, 1⟩) (meth := k4m1) (c := k4c1) (by decide +kernel) rfl rfl rfl (by decide +kernel)
set_option maxRecDepth 65536 in
theorem w_c4 : (Jvm.Cond.code ({ cls := "com/example/menhaden/menhaden/ShareLimit", name := "<init>", desc := "([IID)V" } : Jvm.MethodName) prog_3_method_1_code (5 : Nat) (Option.none : Option Jvm.ClassFile.FieldType)).before args0 about1 = true := code_word (m := ⟨3, 0⟩) (meth := k3m0) (c := k3c0) (by decide +kernel) rfl rfl rfl (by decide +kernel)
set_option maxRecDepth 65536 in
theorem w_c5 : (Jvm.Cond.code ({ cls := "java/lang/Object", name := "<init>", desc := "()V" } : Jvm.MethodName) object_method_1_code (1 : Nat) (Option.none : Option Jvm.ClassFile.FieldType)).before args0 about1 = true := code_word (m := ⟨0, 0⟩) (meth := k0m0) (c := k0c0) (by decide +kernel) rfl rfl rfl (by decide +kernel)
set_option maxRecDepth 65536 in
theorem w_c6 : (Jvm.Cond.code ({ cls := "com/example/menhaden/menhaden/ShareLimit", name := "rows", desc := "()I" } : Jvm.MethodName) prog_3_method_4_code (1 : Nat) (Option.some Jvm.ClassFile.FieldType.int)).before args0 about1 = true := code_word (m := ⟨3, 2⟩) (meth := k3m2) (c := k3c2) (by decide +kernel) rfl rfl rfl (by decide +kernel)
set_option maxRecDepth 65536 in
theorem w_c7 : (Jvm.Cond.code ({ cls := "com/example/menhaden/menhaden/ShareLimit", name := "values", desc := "()I" } : Jvm.MethodName) prog_3_method_6_code (1 : Nat) (Option.some Jvm.ClassFile.FieldType.int)).before args0 about1 = true := code_word (m := ⟨3, 4⟩) (meth := k3m4) (c := k3c4) (by decide +kernel) rfl rfl rfl (by decide +kernel)
set_option maxRecDepth 65536 in
theorem w_c8 : (Jvm.Cond.code ({ cls := "com/example/menhaden/menhaden/ShareLimit", name := "allows", desc := "(II)Z" } : Jvm.MethodName) prog_3_method_8_code (3 : Nat) (Option.some Jvm.ClassFile.FieldType.boolean)).before args0 about1 = true := code_word (m := ⟨3, 5⟩) (meth := k3m5) (c := k3c5) (by decide +kernel) rfl rfl rfl (by decide +kernel)
set_option maxRecDepth 65536 in
theorem w_c9 : (Jvm.Cond.code ({ cls := "com/example/menhaden/menhaden/ShareLimit", name := "code", desc := "(I)I" } : Jvm.MethodName) prog_3_method_5_code (2 : Nat) (Option.some Jvm.ClassFile.FieldType.int)).before args0 about1 = true := code_word (m := ⟨3, 3⟩) (meth := k3m3) (c := k3c3) (by decide +kernel) rfl rfl rfl (by decide +kernel)
set_option maxRecDepth 65536 in
theorem w_c10 : (Jvm.Cond.code ({ cls := "com/example/menhaden/menhaden/ShareLimit", name := "held", desc := "()Lcom/example/menhaden/menhaden/ShareLimit$Held;" } : Jvm.MethodName) prog_3_method_11_code (1 : Nat) (Option.some (Jvm.ClassFile.FieldType.object "com/example/menhaden/menhaden/ShareLimit$Held"))).before args0 about1 = true := code_word (m := ⟨3, 6⟩) (meth := k3m6) (c := k3c6) (by decide +kernel) rfl rfl rfl (by decide +kernel)
set_option maxRecDepth 65536 in
theorem w_c11 : (Jvm.Cond.code ({ cls := "com/example/menhaden/menhaden/ShareLimit$Held", name := "<init>", desc := "(Lcom/example/menhaden/menhaden/ShareLimit;)V" } : Jvm.MethodName) prog_4_method_1_code (2 : Nat) (Option.none : Option Jvm.ClassFile.FieldType)).before args0 about1 = true := code_word (m := ⟨6, 0⟩) (meth := k6m0) (c := k6c0) (by decide +kernel) rfl rfl rfl (by decide +kernel)
set_option maxRecDepth 65536 in
theorem w_c12 : (Jvm.Cond.code ({ cls := "com/example/menhaden/menhaden/ShareLimit$Held", name := "takes", desc := "(II)Z" } : Jvm.MethodName) prog_4_method_10_code (4 : Nat) (Option.some Jvm.ClassFile.FieldType.boolean)).before args0 about1 = true := code_word (m := ⟨6, 1⟩) (meth := k6m1) (c := k6c1) (by decide +kernel) rfl rfl rfl (by decide +kernel)
def codes1 : List Jvm.Cond := [Jvm.Cond.code x code maxLocals ret, Jvm.Cond.code ({ cls := "java/lang/Math", name := "max", desc := "(II)I" } : Jvm.MethodName) jdk_29_method_65_code (2 : Nat) (Option.some Jvm.ClassFile.FieldType.int), Jvm.Cond.code ({ cls := "com/example/menhaden/menhaden/ShareLimit", name := "none", desc := "(I)Lcom/example/menhaden/menhaden/ShareLimit;" } : Jvm.MethodName) prog_3_method_2_code (2 : Nat) (Option.some (Jvm.ClassFile.FieldType.object "com/example/menhaden/menhaden/ShareLimit")), Jvm.Cond.code ({ cls := "java/util/Arrays", name := "fill", desc := "([II)V" } : Jvm.MethodName) jdk_65_method_103_code (4 : Nat) (Option.none : Option Jvm.ClassFile.FieldType), Jvm.Cond.code ({ cls := "com/example/menhaden/menhaden/ShareLimit", name := "<init>", desc := "([IID)V" } : Jvm.MethodName) prog_3_method_1_code (5 : Nat) (Option.none : Option Jvm.ClassFile.FieldType), Jvm.Cond.code ({ cls := "java/lang/Object", name := "<init>", desc := "()V" } : Jvm.MethodName) object_method_1_code (1 : Nat) (Option.none : Option Jvm.ClassFile.FieldType), Jvm.Cond.code ({ cls := "com/example/menhaden/menhaden/ShareLimit", name := "rows", desc := "()I" } : Jvm.MethodName) prog_3_method_4_code (1 : Nat) (Option.some Jvm.ClassFile.FieldType.int), Jvm.Cond.code ({ cls := "com/example/menhaden/menhaden/ShareLimit", name := "values", desc := "()I" } : Jvm.MethodName) prog_3_method_6_code (1 : Nat) (Option.some Jvm.ClassFile.FieldType.int), Jvm.Cond.code ({ cls := "com/example/menhaden/menhaden/ShareLimit", name := "allows", desc := "(II)Z" } : Jvm.MethodName) prog_3_method_8_code (3 : Nat) (Option.some Jvm.ClassFile.FieldType.boolean), Jvm.Cond.code ({ cls := "com/example/menhaden/menhaden/ShareLimit", name := "code", desc := "(I)I" } : Jvm.MethodName) prog_3_method_5_code (2 : Nat) (Option.some Jvm.ClassFile.FieldType.int), Jvm.Cond.code ({ cls := "com/example/menhaden/menhaden/ShareLimit", name := "held", desc := "()Lcom/example/menhaden/menhaden/ShareLimit$Held;" } : Jvm.MethodName) prog_3_method_11_code (1 : Nat) (Option.some (Jvm.ClassFile.FieldType.object "com/example/menhaden/menhaden/ShareLimit$Held")), Jvm.Cond.code ({ cls := "com/example/menhaden/menhaden/ShareLimit$Held", name := "<init>", desc := "(Lcom/example/menhaden/menhaden/ShareLimit;)V" } : Jvm.MethodName) prog_4_method_1_code (2 : Nat) (Option.none : Option Jvm.ClassFile.FieldType), Jvm.Cond.code ({ cls := "com/example/menhaden/menhaden/ShareLimit$Held", name := "takes", desc := "(II)Z" } : Jvm.MethodName) prog_4_method_10_code (4 : Nat) (Option.some Jvm.ClassFile.FieldType.boolean)]
set_option maxRecDepth 65536 in
theorem codes_eq : words1.filter isCode = codes1 := rfl
theorem w_codes : ∀ c ∈ words1.filter isCode, c.before args0 about1 = true := by
  rw [codes_eq]
  intro c hc
  simp only [codes1, List.mem_cons, List.not_mem_nil, or_false] at hc
  rcases hc with rfl | rfl | rfl | rfl | rfl | rfl | rfl | rfl | rfl | rfl | rfl | rfl | rfl
  · exact w_c0
  · exact w_c1
  · exact w_c2
  · exact w_c3
  · exact w_c4
  · exact w_c5
  · exact w_c6
  · exact w_c7
  · exact w_c8
  · exact w_c9
  · exact w_c10
  · exact w_c11
  · exact w_c12
set_option maxRecDepth 65536 in
theorem w_t1 : (words1.take 24).all (fun c => isCode c || c.before args0 about1) = true := by decide +kernel
set_option maxRecDepth 65536 in
theorem w_t2 : ((words1.drop 24).take 24).all (fun c => isCode c || c.before args0 about1) = true := by decide +kernel
set_option maxRecDepth 65536 in
theorem w_t3 : (((words1.drop 24).drop 24).take 24).all (fun c => isCode c || c.before args0 about1) = true := by decide +kernel
set_option maxRecDepth 65536 in
theorem w_t4 : (((words1.drop 24).drop 24).drop 24).all (fun c => isCode c || c.before args0 about1) = true := by decide +kernel
theorem w_tables : (allAtoms (Jvm.Cond.code x code maxLocals ret :: tables_1)).before args0 about1 = true := by
  rw [allAtoms_all]
  show words1.all (fun c => c.before args0 about1) = true
  refine all_split ?_ w_codes
  rw [← List.take_append_drop 24 words1, List.all_append, w_t1, ← List.take_append_drop 24 (words1.drop 24), List.all_append, w_t2, ← List.take_append_drop 24 ((words1.drop 24).drop 24), List.all_append, w_t3, w_t4]
  rfl
set_option maxRecDepth 65536 in
theorem w_case : (Jvm.Cond.and given_1 narrow_1).before args0 about1 = true := by decide +kernel
theorem w_applies : (headSpec (Jvm.Cond.code x code maxLocals ret :: tables_1) room_1).applies x e0.platform about1 = true :=
  (Spec.applies_iff w_frames).mpr ⟨w_running, w_runnable, w_alone, w_named, w_hears, w_ripe, w_room, w_tables⟩
theorem atStart : AtStart classFile x code maxLocals ret World_1 tables_1 room_1 Calls_1 rest_1 Pre_1 launch0 p0 e0 about1 theMethod args0 below0 :=
  ⟨lists_1, trivial, launch0.admits_env _ _ _, launch0.least_env, fairChoices_fair.cas, fairChoices_fair.clock, w_frames, w_args, w_heap, w_applies, trivial, trivial, w_case⟩
end start1
theorem witness_1 : WitnessClaimed_1 := ⟨start1.p0, start1.e0, start1.about1, start1.theMethod, start1.args0, start1.below0, start1.atStart⟩
end Jvm.Pilot.@@N@@
