import JvmDerived
import JvmDerived.Pilot.@@N@@Statement
import JvmDerived.Pilot.@@N@@Code
set_option linter.unusedVariables false
set_option linter.unusedSimpArgs false
namespace Jvm.Pilot.@@N@@
open Jvm Jvm.ClassFile Sem Op Lib Jvm.Free Jvm.Stand Jvm.LawKit Jvm.RoadKit Bundle Jvm.Pilot.@@N@@.Jvm.D
/-! A small walker over the library's laws (own text): objects made by the law are kept as a list H; the object k lies at the address n0 + k. -/
abbrev GLay : Type := String × List (String × String × String × FieldType)
abbrev GObj : Type := (GLay × List Value) ⊕ (FieldType × List Value)
abbrev GM : Type := MethodName × ByteArray × Nat × Option FieldType
def LayOk (Z : State) (a0 : Array Value) (K : GLay) : Prop :=
  (∃ kk, (Jvm.Cond.instantiable K.1 kk).before a0 Z = true) ∧ (∀ q ∈ K.2, Laid Z a0 K.1 q.1 q.2.1 q.2.2.1 ∧ parseFieldDescriptor q.2.2.1 = some q.2.2.2) ∧ (K.2.map fun q => q.2.1).Nodup
def Ob (Z : State) (a0 : Array Value) (h : Heap) (a : Addr) : GObj → Prop
  | .inl (K, vs) => LayOk Z a0 K ∧ Exa Z h a K.1 ∧ ∀ (i : Nat) (q : String × String × String × FieldType) (v : Value), K.2[i]? = some q → vs[i]? = some v → Fld Z h a q.1 q.2.1 q.2.2.1 v
  | .inr (ty, vs) => ∃ c : Cell, Arr Z h a c ty ∧ c.slots = vs.toArray ∧ (∀ v ∈ vs, fits ty v = true) ∧ Exa Z h a ("[" ++ ty.toString) ∧ ∀ C, ty = .object C → Ovr Z c.cls C
theorem Ob.ext {Z : State} {a0 : Array Value} {h h' : Heap} {a : Addr} {o : GObj} (E : Ext h h') (F : Ob Z a0 h a o) : Ob Z a0 h' a o := by
  rcases o with ⟨K, vs⟩ | ⟨ty, vs⟩
  · exact ⟨F.1, F.2.1.ext E, fun i q v h1 h2 => (F.2.2 i q v h1 h2).ext E⟩
  · obtain ⟨c, h1, h2, h3, h4, h5⟩ := F
    exact ⟨c, h1.ext E, h2, h3, h4.ext E, h5⟩
theorem Ob.other {Z : State} {a0 : Array Value} {h h' : Heap} {a b : Addr} {sl : Nat} {v : Value} {o : GObj} (W : Wr h h' b sl v) (ne : a ≠ b) (F : Ob Z a0 h a o) : Ob Z a0 h' a o := by
  rcases o with ⟨K, vs⟩ | ⟨ty, vs⟩
  · exact ⟨F.1, F.2.1.wr W, fun i q v h1 h2 => (F.2.2 i q v h1 h2).other W (Or.inl ne)⟩
  · obtain ⟨c, h1, h2, h3, h4, h5⟩ := F
    exact ⟨c, h1.other W ne, h2, h3, h4.wr W, h5⟩
def Sat (Z : State) (a0 : Array Value) (n0 : Nat) (h : Heap) (H : List GObj) : Prop :=
  Z.heap.size = n0 ∧ Ext Z.heap h ∧ h.size = n0 + H.length ∧ ∀ (k : Nat) (o : GObj), H[k]? = some o → Ob Z a0 h (n0 + k) o
theorem Sat.push {Z : State} {a0 : Array Value} {n0 : Nat} {h h' : Heap} {H : List GObj} {o : GObj} (S : Sat Z a0 n0 h H) (E : Ext h h') (hs : h'.size = h.size + 1) (F : Ob Z a0 h' h.size o) : Sat Z a0 n0 h' (H ++ [o]) := by
  obtain ⟨s1, s2, s3, s4⟩ := S
  refine ⟨s1, ⟨Nat.le_trans s2.1 E.1, fun a c q => E.2 a c (s2.2 a c q)⟩, by simp [hs, s3]; omega, fun k o' hk => ?_⟩
  rcases Nat.lt_trichotomy k H.length with q | q | q
  · rw [List.getElem?_append_left q] at hk
    exact (s4 k o' hk).ext E
  · subst q
    simp at hk
    subst hk
    rw [← s3]; exact F
  · rw [List.getElem?_eq_none (by simp; omega)] at hk; cases hk
theorem Sat.put {Z : State} {a0 : Array Value} {n0 : Nat} {h h' : Heap} {H : List GObj} {k sl : Nat} {v : Value} {o : GObj} (S : Sat Z a0 n0 h H) (W : Wr h h' (n0 + k) sl v) (F : Ob Z a0 h' (n0 + k) o) : Sat Z a0 n0 h' (H.set k o) := by
  obtain ⟨s1, s2, s3, s4⟩ := S
  refine ⟨s1, ⟨by rw [W.size]; exact s2.1, fun a c q => ?_⟩, by rw [W.size, s3]; simp, fun j o' hj => ?_⟩
  · obtain ⟨c', e1, -, -, -, e5, -⟩ := wr_at W (s2.2 a c q)
    have hlt := (Array.getElem?_eq_some_iff.mp q).1
    rw [← e5 (by intro q; subst q; rw [s1] at hlt; exact absurd hlt (by exact Nat.not_lt.mpr (Nat.le_add_right _ _)))]; exact e1
  · rw [List.getElem?_set] at hj
    split at hj
    · rename_i e
      subst e
      split at hj
      · cases hj; exact F
      · cases hj
    · rename_i ne
      exact (s4 j o' hj).other W (fun q => ne (Nat.add_left_cancel q).symm)
theorem Sat.lt {Z : State} {a0 : Array Value} {n0 : Nat} {h : Heap} {H : List GObj} (S : Sat Z a0 n0 h H) {k : Nat} {o : GObj} (q : H[k]? = some o) : n0 + k < h.size := by
  have := (List.getElem?_eq_some_iff.mp q).1
  have := S.2.2.1
  omega
/-- what a walk's frame stands in -/
def Cx (Z : State) (M : GM) (p : Program) (s : State) (m : MethodId) (meth : Method) (c : Code) : Prop :=
  p.tables.exec = Jvm.exec ∧ Z.Warmed39 s.vm ∧ c.code = M.2.1 ∧ c.maxLocals = M.2.2.1 ∧ meth.sig.returnType = M.2.2.2 ∧ meth.locks = false ∧ s.vm.findClass M.1.cls = some m.cls ∧ meth.name = M.1.name
def End (Z : State) (a0 : Array Value) (n0 : Nat) (R : Room) (Q : Option Value → List GObj → Prop) (p : Program) (e : Env) (s : State) (below : List Frame) (S0 : State) : Prop :=
  ∃ s₂ o, Steps p.tables e below S0 s₂ ∧ s₂.status = .running ∧ Ended s₂ below o ∧ ∃ v L', o = .returned v ∧ (∃ H', Q v H' ∧ Sat Z a0 n0 s₂.heap H' ∧ Fr n0 L') ∧ FrameEnd s o s₂ L' R.cells R.slots
theorem End.back {Z : State} {a0 : Array Value} {n0 : Nat} {R : Room} {Q : Option Value → List GObj → Prop} {p : Program} {e : Env} {s : State} {below : List Frame} {S0 S1 : State} (st : ∀ t, Steps p.tables e below S1 t → Steps p.tables e below S0 t) (h : End Z a0 n0 R Q p e s below S1) : End Z a0 n0 R Q p e s below S0 := by
  obtain ⟨s₂, o, h1, r⟩ := h
  exact ⟨s₂, o, st _ h1, r⟩
/-- from this point the walk comes to its end, and what it leaves meets Q -/
def Go (Z : State) (a0 : Array Value) (n0 : Nat) (M : GM) (R : Room) (Q : Option Value → List GObj → Prop) (pc : Nat) (L : List Slot) (st : List Value) (H : List GObj) (ce sl : Nat) : Prop :=
  ∀ (p : Program) (l : Launch) (e : Env) (s : State) (m : MethodId) (args : Array Value) (below : List Frame) (meth : Method) (c : Code) (T : State) (locs : List Loc),
    Stand p l e R s m args below meth c T locs ce sl → Cx Z M p s m meth c → Sat Z a0 n0 T.heap H → s.heap.size + ce = n0 + H.length → Fr n0 locs → End Z a0 n0 R Q p e s below (T.setTop (mkF m pc L.toArray st))
/-- the instruction at pc, its length, what lies behind -/
def Ins (M : GM) (pc : Nat) (i : Instr) (n pc' : Nat) : Prop := decode M.2.1 pc = .ok (i, n) ∧ pc + n = pc'
section Rules
variable {Z : State} {a0 : Array Value} {n0 : Nat} {M : GM} {R : Room} {Q : Option Value → List GObj → Prop} {pc pc' : Nat} {L : List Slot} {st : List Value} {H : List GObj} {ce sl : Nat}
theorem go_pure {L' : List Slot} {st' : List Value} (hs : ∀ (p : Program) (e : Env) (m : MethodId) (below : List Frame) (c : Code) (T t : State), At T m c below → p.tables.exec = Jvm.exec → c.code = M.2.1 → Steps p.tables e below (T.setTop (mkF m pc' L'.toArray st')) t → Steps p.tables e below (T.setTop (mkF m pc L.toArray st)) t)
    (h : Go Z a0 n0 M R Q pc' L' st' H ce sl) : Go Z a0 n0 M R Q pc L st H ce sl := fun p l e s m args below meth c T locs X C S E F =>
  (h p l e s m args below meth c T locs X C S E F).back fun t k => hs p e m below c T t X.here C.1 C.2.2.1 k
end Rules
section Rules
variable {Z : State} {a0 : Array Value} {n0 : Nat} {M : GM} {R : Room} {Q : Option Value → List GObj → Prop} {pc pc' : Nat} {L : List Slot} {st : List Value} {H : List GObj} {ce sl : Nat}
theorem go_aloadN {k : Fin 4} {v : Addr} (hd : Ins M pc (.aload_n k) 1 pc') (hl : L[k.val]? = some (.val (.ref v))) (h : Go Z a0 n0 M R Q pc' L (.ref v :: st) H ce sl) : Go Z a0 n0 M R Q pc L st H ce sl := by
  obtain ⟨hd, rfl⟩ := hd
  exact go_pure (fun p e m below c T t hA hx hy k => XS.aloadN hA hx rfl (hb hy hd) (by simpa using hl) rfl k) h
theorem go_aload {k : Nat} {v : Addr} (hd : Ins M pc (.aload k) 2 pc') (hl : L[k]? = some (.val (.ref v))) (h : Go Z a0 n0 M R Q pc' L (.ref v :: st) H ce sl) : Go Z a0 n0 M R Q pc L st H ce sl := by
  obtain ⟨hd, rfl⟩ := hd
  exact go_pure (fun p e m below c T t hA hx hy k => XS.aload hA hx rfl (hb hy hd) (by simpa using hl) rfl k) h
theorem go_aloadNull {k : Fin 4} (hd : Ins M pc (.aload_n k) 1 pc') (hl : L[k.val]? = some (.val .null)) (h : Go Z a0 n0 M R Q pc' L (.null :: st) H ce sl) : Go Z a0 n0 M R Q pc L st H ce sl := by
  obtain ⟨hd, rfl⟩ := hd
  exact go_pure (fun p e m below c T t hA hx hy k => XS.aloadN hA hx rfl (hb hy hd) (by simpa using hl) rfl k) h
theorem go_iloadN {k : Fin 4} {v : Int32} (hd : Ins M pc (.iload_n k) 1 pc') (hl : L[k.val]? = some (.val (.int v))) (h : Go Z a0 n0 M R Q pc' L (.int v :: st) H ce sl) : Go Z a0 n0 M R Q pc L st H ce sl := by
  obtain ⟨hd, rfl⟩ := hd
  exact go_pure (fun p e m below c T t hA hx hy k => XS.iloadN hA hx rfl (hb hy hd) (by simpa using hl) k) h
theorem go_iload {k : Nat} {v : Int32} (hd : Ins M pc (.iload k) 2 pc') (hl : L[k]? = some (.val (.int v))) (h : Go Z a0 n0 M R Q pc' L (.int v :: st) H ce sl) : Go Z a0 n0 M R Q pc L st H ce sl := by
  obtain ⟨hd, rfl⟩ := hd
  exact go_pure (fun p e m below c T t hA hx hy k => XS.iload hA hx rfl (hb hy hd) (by simpa using hl) k) h
theorem go_lloadN {k : Fin 4} {v : Int64} (hd : Ins M pc (.lload_n k) 1 pc') (hl : L[k.val]? = some (.val (.long v))) (h : Go Z a0 n0 M R Q pc' L (.long v :: st) H ce sl) : Go Z a0 n0 M R Q pc L st H ce sl := by
  obtain ⟨hd, rfl⟩ := hd
  exact go_pure (fun p e m below c T t hA hx hy k => XT.lloadN hA hx rfl (hb hy hd) (by simpa using hl) k) h
theorem go_lload {k : Nat} {v : Int64} (hd : Ins M pc (.lload k) 2 pc') (hl : L[k]? = some (.val (.long v))) (h : Go Z a0 n0 M R Q pc' L (.long v :: st) H ce sl) : Go Z a0 n0 M R Q pc L st H ce sl := by
  obtain ⟨hd, rfl⟩ := hd
  exact go_pure (fun p e m below c T t hA hx hy k => XT.lload hA hx rfl (hb hy hd) (by simpa using hl) k) h
theorem go_iconst {i : Int} {v : Int32} (hd : Ins M pc (.iconst i) 1 pc') (hv : Int32.ofInt i = v) (h : Go Z a0 n0 M R Q pc' L (.int v :: st) H ce sl) : Go Z a0 n0 M R Q pc L st H ce sl := by
  obtain ⟨hd, rfl⟩ := hd
  exact go_pure (fun p e m below c T t hA hx hy k => XS.iconst hA hx rfl (hb hy hd) (by rw [hv]; exact k)) h
theorem go_bipush {i : Int} {v : Int32} (hd : Ins M pc (.bipush i) 2 pc') (hv : (Int8.ofInt i).toInt32 = v) (h : Go Z a0 n0 M R Q pc' L (.int v :: st) H ce sl) : Go Z a0 n0 M R Q pc L st H ce sl := by
  obtain ⟨hd, rfl⟩ := hd
  exact go_pure (fun p e m below c T t hA hx hy k => XS.bipush hA hx rfl (hb hy hd) (by rw [hv]; exact k)) h
theorem go_sipush {i : Int} {v : Int32} (hd : Ins M pc (.sipush i) 3 pc') (hv : (Int16.ofInt i).toInt32 = v) (h : Go Z a0 n0 M R Q pc' L (.int v :: st) H ce sl) : Go Z a0 n0 M R Q pc L st H ce sl := by
  obtain ⟨hd, rfl⟩ := hd
  exact go_pure (fun p e m below c T t hA hx hy k => XS.sipush hA hx rfl (hb hy hd) (by rw [hv]; exact k)) h
theorem go_lconst {i : Fin 2} {v : Int64} (hd : Ins M pc (.lconst i) 1 pc') (hv : Int64.ofNat i = v) (h : Go Z a0 n0 M R Q pc' L (.long v :: st) H ce sl) : Go Z a0 n0 M R Q pc L st H ce sl := by
  obtain ⟨hd, rfl⟩ := hd
  exact go_pure (fun p e m below c T t hA hx hy k => XT.lconst hA hx rfl (hb hy hd) (by rw [hv]; exact k)) h
theorem go_aconstNull  (hd : Ins M pc (.aconst_null) 1 pc') (h : Go Z a0 n0 M R Q pc' L (.null :: st) H ce sl) : Go Z a0 n0 M R Q pc L st H ce sl := by
  obtain ⟨hd, rfl⟩ := hd
  exact go_pure (fun p e m below c T t hA hx hy k => XS.aconstNull hA hx rfl (hb hy hd) k) h
theorem go_iadd {x y : Int32} (hd : Ins M pc (.iadd) 1 pc') (h : Go Z a0 n0 M R Q pc' L (.int (x + y) :: st) H ce sl) : Go Z a0 n0 M R Q pc L (.int y :: .int x :: st) H ce sl := by
  obtain ⟨hd, rfl⟩ := hd
  exact go_pure (fun p e m below c T t hA hx hy k => XS.iadd hA hx rfl (hb hy hd) rfl k) h
theorem go_isub {x y : Int32} (hd : Ins M pc (.isub) 1 pc') (h : Go Z a0 n0 M R Q pc' L (.int (x - y) :: st) H ce sl) : Go Z a0 n0 M R Q pc L (.int y :: .int x :: st) H ce sl := by
  obtain ⟨hd, rfl⟩ := hd
  exact go_pure (fun p e m below c T t hA hx hy k => XS.isub hA hx rfl (hb hy hd) rfl k) h
theorem go_imul {x y : Int32} (hd : Ins M pc (.imul) 1 pc') (h : Go Z a0 n0 M R Q pc' L (.int (x * y) :: st) H ce sl) : Go Z a0 n0 M R Q pc L (.int y :: .int x :: st) H ce sl := by
  obtain ⟨hd, rfl⟩ := hd
  exact go_pure (fun p e m below c T t hA hx hy k => XS.imul hA hx rfl (hb hy hd) rfl k) h
theorem go_iand {x y : Int32} (hd : Ins M pc (.iand) 1 pc') (h : Go Z a0 n0 M R Q pc' L (.int (x &&& y) :: st) H ce sl) : Go Z a0 n0 M R Q pc L (.int y :: .int x :: st) H ce sl := by
  obtain ⟨hd, rfl⟩ := hd
  exact go_pure (fun p e m below c T t hA hx hy k => XS.iand hA hx rfl (hb hy hd) rfl k) h
theorem go_ior {x y : Int32} (hd : Ins M pc (.ior) 1 pc') (h : Go Z a0 n0 M R Q pc' L (.int (x ||| y) :: st) H ce sl) : Go Z a0 n0 M R Q pc L (.int y :: .int x :: st) H ce sl := by
  obtain ⟨hd, rfl⟩ := hd
  exact go_pure (fun p e m below c T t hA hx hy k => XT.ior hA hx rfl (hb hy hd) rfl k) h
theorem go_ixor {x y : Int32} (hd : Ins M pc (.ixor) 1 pc') (h : Go Z a0 n0 M R Q pc' L (.int (x ^^^ y) :: st) H ce sl) : Go Z a0 n0 M R Q pc L (.int y :: .int x :: st) H ce sl := by
  obtain ⟨hd, rfl⟩ := hd
  exact go_pure (fun p e m below c T t hA hx hy k => XT.ixor hA hx rfl (hb hy hd) rfl k) h
theorem go_ishl {x y : Int32} (hd : Ins M pc (.ishl) 1 pc') (h : Go Z a0 n0 M R Q pc' L (.int (x <<< (y &&& 31)) :: st) H ce sl) : Go Z a0 n0 M R Q pc L (.int y :: .int x :: st) H ce sl := by
  obtain ⟨hd, rfl⟩ := hd
  exact go_pure (fun p e m below c T t hA hx hy k => XT.ishl hA hx rfl (hb hy hd) rfl k) h
theorem go_ishr {x y : Int32} (hd : Ins M pc (.ishr) 1 pc') (h : Go Z a0 n0 M R Q pc' L (.int (x >>> (y &&& 31)) :: st) H ce sl) : Go Z a0 n0 M R Q pc L (.int y :: .int x :: st) H ce sl := by
  obtain ⟨hd, rfl⟩ := hd
  exact go_pure (fun p e m below c T t hA hx hy k => XT.ishr hA hx rfl (hb hy hd) rfl k) h
theorem go_iushr {x y : Int32} (hd : Ins M pc (.iushr) 1 pc') (h : Go Z a0 n0 M R Q pc' L (.int (XT.ushr x y) :: st) H ce sl) : Go Z a0 n0 M R Q pc L (.int y :: .int x :: st) H ce sl := by
  obtain ⟨hd, rfl⟩ := hd
  exact go_pure (fun p e m below c T t hA hx hy k => XT.iushr hA hx rfl (hb hy hd) rfl k) h
theorem go_idiv {x y : Int32} (hd : Ins M pc (.idiv) 1 pc') (hn : y ≠ 0) (h : Go Z a0 n0 M R Q pc' L (.int (x / y) :: st) H ce sl) : Go Z a0 n0 M R Q pc L (.int y :: .int x :: st) H ce sl := by
  obtain ⟨hd, rfl⟩ := hd
  exact go_pure (fun p e m below c T t hA hx hy k => XS.idiv hA hx rfl (hb hy hd) rfl hn k) h
theorem go_irem {x y : Int32} (hd : Ins M pc (.irem) 1 pc') (hn : y ≠ 0) (h : Go Z a0 n0 M R Q pc' L (.int (x % y) :: st) H ce sl) : Go Z a0 n0 M R Q pc L (.int y :: .int x :: st) H ce sl := by
  obtain ⟨hd, rfl⟩ := hd
  exact go_pure (fun p e m below c T t hA hx hy k => XS.irem hA hx rfl (hb hy hd) rfl hn (by rw [irem_eq_mod]; exact k)) h
theorem go_ineg {x : Int32} (hd : Ins M pc (.ineg) 1 pc') (h : Go Z a0 n0 M R Q pc' L (.int (-x) :: st) H ce sl) : Go Z a0 n0 M R Q pc L (.int x :: st) H ce sl := by
  obtain ⟨hd, rfl⟩ := hd
  exact go_pure (fun p e m below c T t hA hx hy k => XS.ineg hA hx rfl (hb hy hd) rfl k) h
theorem go_ladd {x y : Int64} (hd : Ins M pc (.ladd) 1 pc') (h : Go Z a0 n0 M R Q pc' L (.long (x + y) :: st) H ce sl) : Go Z a0 n0 M R Q pc L (.long y :: .long x :: st) H ce sl := by
  obtain ⟨hd, rfl⟩ := hd
  exact go_pure (fun p e m below c T t hA hx hy k => XT.ladd hA hx rfl (hb hy hd) rfl k) h
theorem go_lsub {x y : Int64} (hd : Ins M pc (.lsub) 1 pc') (h : Go Z a0 n0 M R Q pc' L (.long (x - y) :: st) H ce sl) : Go Z a0 n0 M R Q pc L (.long y :: .long x :: st) H ce sl := by
  obtain ⟨hd, rfl⟩ := hd
  exact go_pure (fun p e m below c T t hA hx hy k => XT.lsub hA hx rfl (hb hy hd) rfl k) h
theorem go_lmul {x y : Int64} (hd : Ins M pc (.lmul) 1 pc') (h : Go Z a0 n0 M R Q pc' L (.long (x * y) :: st) H ce sl) : Go Z a0 n0 M R Q pc L (.long y :: .long x :: st) H ce sl := by
  obtain ⟨hd, rfl⟩ := hd
  exact go_pure (fun p e m below c T t hA hx hy k => XT.lmul hA hx rfl (hb hy hd) rfl k) h
theorem go_land {x y : Int64} (hd : Ins M pc (.land) 1 pc') (h : Go Z a0 n0 M R Q pc' L (.long (x &&& y) :: st) H ce sl) : Go Z a0 n0 M R Q pc L (.long y :: .long x :: st) H ce sl := by
  obtain ⟨hd, rfl⟩ := hd
  exact go_pure (fun p e m below c T t hA hx hy k => XT.land hA hx rfl (hb hy hd) rfl k) h
theorem go_lor {x y : Int64} (hd : Ins M pc (.lor) 1 pc') (h : Go Z a0 n0 M R Q pc' L (.long (x ||| y) :: st) H ce sl) : Go Z a0 n0 M R Q pc L (.long y :: .long x :: st) H ce sl := by
  obtain ⟨hd, rfl⟩ := hd
  exact go_pure (fun p e m below c T t hA hx hy k => XT.lor hA hx rfl (hb hy hd) rfl k) h
theorem go_lxor {x y : Int64} (hd : Ins M pc (.lxor) 1 pc') (h : Go Z a0 n0 M R Q pc' L (.long (x ^^^ y) :: st) H ce sl) : Go Z a0 n0 M R Q pc L (.long y :: .long x :: st) H ce sl := by
  obtain ⟨hd, rfl⟩ := hd
  exact go_pure (fun p e m below c T t hA hx hy k => XT.lxor hA hx rfl (hb hy hd) rfl k) h
theorem go_lshl {x : Int64} {y : Int32} (hd : Ins M pc (.lshl) 1 pc') (h : Go Z a0 n0 M R Q pc' L (.long (x <<< (y.toInt64 &&& 63)) :: st) H ce sl) : Go Z a0 n0 M R Q pc L (.int y :: .long x :: st) H ce sl := by
  obtain ⟨hd, rfl⟩ := hd
  exact go_pure (fun p e m below c T t hA hx hy k => XT.lshl hA hx rfl (hb hy hd) rfl k) h
theorem go_lshr {x : Int64} {y : Int32} (hd : Ins M pc (.lshr) 1 pc') (h : Go Z a0 n0 M R Q pc' L (.long (x >>> (y.toInt64 &&& 63)) :: st) H ce sl) : Go Z a0 n0 M R Q pc L (.int y :: .long x :: st) H ce sl := by
  obtain ⟨hd, rfl⟩ := hd
  exact go_pure (fun p e m below c T t hA hx hy k => XT.lshr hA hx rfl (hb hy hd) rfl k) h
theorem go_lushr {x : Int64} {y : Int32} (hd : Ins M pc (.lushr) 1 pc') (h : Go Z a0 n0 M R Q pc' L (.long (XT.ushrL x y) :: st) H ce sl) : Go Z a0 n0 M R Q pc L (.int y :: .long x :: st) H ce sl := by
  obtain ⟨hd, rfl⟩ := hd
  exact go_pure (fun p e m below c T t hA hx hy k => XT.lushr hA hx rfl (hb hy hd) rfl k) h
theorem go_lcmp {x y : Int64} (hd : Ins M pc (.lcmp) 1 pc') (h : Go Z a0 n0 M R Q pc' L (.int (XT.cmpL x y) :: st) H ce sl) : Go Z a0 n0 M R Q pc L (.long y :: .long x :: st) H ce sl := by
  obtain ⟨hd, rfl⟩ := hd
  exact go_pure (fun p e m below c T t hA hx hy k => XT.lcmp hA hx rfl (hb hy hd) rfl k) h
theorem go_lneg {x : Int64} (hd : Ins M pc (.lneg) 1 pc') (h : Go Z a0 n0 M R Q pc' L (.long (-x) :: st) H ce sl) : Go Z a0 n0 M R Q pc L (.long x :: st) H ce sl := by
  obtain ⟨hd, rfl⟩ := hd
  exact go_pure (fun p e m below c T t hA hx hy k => XT.lneg hA hx rfl (hb hy hd) rfl k) h
theorem go_i2l {x : Int32} (hd : Ins M pc (.i2l) 1 pc') (h : Go Z a0 n0 M R Q pc' L (.long x.toInt64 :: st) H ce sl) : Go Z a0 n0 M R Q pc L (.int x :: st) H ce sl := by
  obtain ⟨hd, rfl⟩ := hd
  exact go_pure (fun p e m below c T t hA hx hy k => XT.i2l hA hx rfl (hb hy hd) rfl k) h
theorem go_l2i {x : Int64} (hd : Ins M pc (.l2i) 1 pc') (h : Go Z a0 n0 M R Q pc' L (.int x.toInt32 :: st) H ce sl) : Go Z a0 n0 M R Q pc L (.long x :: st) H ce sl := by
  obtain ⟨hd, rfl⟩ := hd
  exact go_pure (fun p e m below c T t hA hx hy k => XT.l2i hA hx rfl (hb hy hd) rfl k) h
theorem go_i2b {x : Int32} (hd : Ins M pc (.i2b) 1 pc') (h : Go Z a0 n0 M R Q pc' L (.int x.toInt8.toInt32 :: st) H ce sl) : Go Z a0 n0 M R Q pc L (.int x :: st) H ce sl := by
  obtain ⟨hd, rfl⟩ := hd
  exact go_pure (fun p e m below c T t hA hx hy k => XT.i2b hA hx rfl (hb hy hd) rfl k) h
theorem go_i2c {x : Int32} (hd : Ins M pc (.i2c) 1 pc') (h : Go Z a0 n0 M R Q pc' L (.int x.toUInt32.toUInt16.toUInt32.toInt32 :: st) H ce sl) : Go Z a0 n0 M R Q pc L (.int x :: st) H ce sl := by
  obtain ⟨hd, rfl⟩ := hd
  exact go_pure (fun p e m below c T t hA hx hy k => XT.i2c hA hx rfl (hb hy hd) rfl k) h
theorem go_dup {x : Value} (hd : Ins M pc (.dup) 1 pc') (hc : x.category = 1) (h : Go Z a0 n0 M R Q pc' L (x :: x :: st) H ce sl) : Go Z a0 n0 M R Q pc L (x :: st) H ce sl := by
  obtain ⟨hd, rfl⟩ := hd
  exact go_pure (fun p e m below c T t hA hx hy k => XS.dup hA hx rfl (hb hy hd) rfl hc k) h
theorem go_pop {x : Value} (hd : Ins M pc (.pop) 1 pc') (hc : x.category = 1) (h : Go Z a0 n0 M R Q pc' L st H ce sl) : Go Z a0 n0 M R Q pc L (x :: st) H ce sl := by
  obtain ⟨hd, rfl⟩ := hd
  exact go_pure (fun p e m below c T t hA hx hy k => XT.pop hA hx rfl (hb hy hd) rfl hc k) h
theorem go_dupX1 {x y : Value} (hd : Ins M pc (.dup_x1) 1 pc') (hc : x.category = 1) (hc' : y.category = 1) (h : Go Z a0 n0 M R Q pc' L (x :: y :: x :: st) H ce sl) : Go Z a0 n0 M R Q pc L (x :: y :: st) H ce sl := by
  obtain ⟨hd, rfl⟩ := hd
  exact go_pure (fun p e m below c T t hA hx hy k => XT.dupX1 hA hx rfl (hb hy hd) rfl hc hc' k) h
theorem go_dup2 {x y : Value} (hd : Ins M pc (.dup2) 1 pc') (hc : x.category = 1) (hc' : y.category = 1) (h : Go Z a0 n0 M R Q pc' L (x :: y :: x :: y :: st) H ce sl) : Go Z a0 n0 M R Q pc L (x :: y :: st) H ce sl := by
  obtain ⟨hd, rfl⟩ := hd
  exact go_pure (fun p e m below c T t hA hx hy k => XT.dup2 hA hx rfl (hb hy hd) rfl hc hc' k) h
theorem go_goto {o : Int} (t : Nat) (hd : Ins M pc (.goto o) 3 pc') (ht : (pc : Int) + o = (t : Int)) (h : Go Z a0 n0 M R Q t L st H ce sl) : Go Z a0 n0 M R Q pc L st H ce sl := by
  obtain ⟨hd, rfl⟩ := hd
  exact go_pure (fun p e m below c T u hA hx hy k => XS.goto hA hx rfl (pc0 := pc) (pc' := t) rfl (hb hy hd) (by omega) (by omega) k) h
theorem go_if {cd : ClassFile.Cond} {o : Int} {x : Int32} (t : Nat) (hd : Ins M pc (.ifCond cd o) 3 pc') (ht : (pc : Int) + o = (t : Int)) (h1 : ifCond.holds cd x = true → Go Z a0 n0 M R Q t L st H ce sl) (h2 : ifCond.holds cd x = false → Go Z a0 n0 M R Q pc' L st H ce sl) : Go Z a0 n0 M R Q pc L (.int x :: st) H ce sl := by
  obtain ⟨hd, rfl⟩ := hd
  cases hc : ifCond.holds cd x
  · exact go_pure (fun p e m below c T u hA hx hy k => XS.ifNo hA hx rfl (hb hy hd) rfl hc k) (h2 hc)
  · exact go_pure (fun p e m below c T u hA hx hy k => XS.ifYes hA hx rfl (pc0 := pc) (pc' := t) rfl (hb hy hd) rfl hc (by omega) (by omega) k) (h1 hc)
theorem go_icmp {cd : ClassFile.Cond} {o : Int} {x y : Int32} (t : Nat) (hd : Ins M pc (.if_icmp cd o) 3 pc') (ht : (pc : Int) + o = (t : Int)) (h1 : if_icmp.holds cd x y = true → Go Z a0 n0 M R Q t L st H ce sl) (h2 : if_icmp.holds cd x y = false → Go Z a0 n0 M R Q pc' L st H ce sl) : Go Z a0 n0 M R Q pc L (.int y :: .int x :: st) H ce sl := by
  obtain ⟨hd, rfl⟩ := hd
  cases hc : if_icmp.holds cd x y
  · exact go_pure (fun p e m below c T u hA hx hy k => XS.icmpNo hA hx rfl (hb hy hd) rfl hc k) (h2 hc)
  · exact go_pure (fun p e m below c T u hA hx hy k => XS.icmpYes hA hx rfl (pc0 := pc) (pc' := t) rfl (hb hy hd) rfl hc (by omega) (by omega) k) (h1 hc)
theorem go_icmpT {cd : ClassFile.Cond} {o : Int} {x y : Int32} (t : Nat) (hd : Ins M pc (.if_icmp cd o) 3 pc') (ht : (pc : Int) + o = (t : Int)) (hc : if_icmp.holds cd x y = true) (h : Go Z a0 n0 M R Q t L st H ce sl) : Go Z a0 n0 M R Q pc L (.int y :: .int x :: st) H ce sl := go_icmp t hd ht (fun _ => h) (fun q => by rw [hc] at q; cases q)
theorem go_icmpF {cd : ClassFile.Cond} {o : Int} {x y : Int32} (hd : Ins M pc (.if_icmp cd o) 3 pc') (hc : if_icmp.holds cd x y = false) (h : Go Z a0 n0 M R Q pc' L st H ce sl) : Go Z a0 n0 M R Q pc L (.int y :: .int x :: st) H ce sl := by
  obtain ⟨hd, rfl⟩ := hd
  exact go_pure (fun p e m below c T u hA hx hy k => XS.icmpNo hA hx rfl (hb hy hd) rfl hc k) h
theorem go_ifT {cd : ClassFile.Cond} {o : Int} {x : Int32} (t : Nat) (hd : Ins M pc (.ifCond cd o) 3 pc') (ht : (pc : Int) + o = (t : Int)) (hc : ifCond.holds cd x = true) (h : Go Z a0 n0 M R Q t L st H ce sl) : Go Z a0 n0 M R Q pc L (.int x :: st) H ce sl := go_if t hd ht (fun _ => h) (fun q => by rw [hc] at q; cases q)
theorem go_ifF {cd : ClassFile.Cond} {o : Int} {x : Int32} (hd : Ins M pc (.ifCond cd o) 3 pc') (hc : ifCond.holds cd x = false) (h : Go Z a0 n0 M R Q pc' L st H ce sl) : Go Z a0 n0 M R Q pc L (.int x :: st) H ce sl := by
  obtain ⟨hd, rfl⟩ := hd
  exact go_pure (fun p e m below c T u hA hx hy k => XS.ifNo hA hx rfl (hb hy hd) rfl hc k) h
theorem hold_lt (x y : Int32) : (if_icmp.holds .lt x y = true ↔ x < y) ∧ (if_icmp.holds .lt x y = false ↔ ¬ x < y) := by simp [if_icmp.holds, Int32.not_lt, Int32.not_le]
theorem go_icmp_lt {o : Int} {x y : Int32} (t : Nat) (hd : Ins M pc (.if_icmp .lt o) 3 pc') (ht : (pc : Int) + o = (t : Int)) (h1 : x < y → Go Z a0 n0 M R Q t L st H ce sl) (h2 : ¬ x < y → Go Z a0 n0 M R Q pc' L st H ce sl) : Go Z a0 n0 M R Q pc L (.int y :: .int x :: st) H ce sl :=
  go_icmp t hd ht (fun q => h1 ((hold_lt x y).1.mp q)) (fun q => h2 ((hold_lt x y).2.mp q))
theorem go_if_lt {o : Int} {x : Int32} (t : Nat) (hd : Ins M pc (.ifCond .lt o) 3 pc') (ht : (pc : Int) + o = (t : Int)) (h1 : x < 0 → Go Z a0 n0 M R Q t L st H ce sl) (h2 : ¬ x < 0 → Go Z a0 n0 M R Q pc' L st H ce sl) : Go Z a0 n0 M R Q pc L (.int x :: st) H ce sl :=
  go_if t hd ht (fun q => h1 ((hold_lt x 0).1.mp ((if0 _ _).symm.trans q))) (fun q => h2 ((hold_lt x 0).2.mp ((if0 _ _).symm.trans q)))
theorem hold_ge (x y : Int32) : (if_icmp.holds .ge x y = true ↔ ¬ x < y) ∧ (if_icmp.holds .ge x y = false ↔ x < y) := by simp [if_icmp.holds, Int32.not_lt, Int32.not_le]
theorem go_icmp_ge {o : Int} {x y : Int32} (t : Nat) (hd : Ins M pc (.if_icmp .ge o) 3 pc') (ht : (pc : Int) + o = (t : Int)) (h1 : ¬ x < y → Go Z a0 n0 M R Q t L st H ce sl) (h2 : x < y → Go Z a0 n0 M R Q pc' L st H ce sl) : Go Z a0 n0 M R Q pc L (.int y :: .int x :: st) H ce sl :=
  go_icmp t hd ht (fun q => h1 ((hold_ge x y).1.mp q)) (fun q => h2 ((hold_ge x y).2.mp q))
theorem go_if_ge {o : Int} {x : Int32} (t : Nat) (hd : Ins M pc (.ifCond .ge o) 3 pc') (ht : (pc : Int) + o = (t : Int)) (h1 : ¬ x < 0 → Go Z a0 n0 M R Q t L st H ce sl) (h2 : x < 0 → Go Z a0 n0 M R Q pc' L st H ce sl) : Go Z a0 n0 M R Q pc L (.int x :: st) H ce sl :=
  go_if t hd ht (fun q => h1 ((hold_ge x 0).1.mp ((if0 _ _).symm.trans q))) (fun q => h2 ((hold_ge x 0).2.mp ((if0 _ _).symm.trans q)))
theorem hold_gt (x y : Int32) : (if_icmp.holds .gt x y = true ↔ y < x) ∧ (if_icmp.holds .gt x y = false ↔ ¬ y < x) := by simp [if_icmp.holds, Int32.not_lt, Int32.not_le]
theorem go_icmp_gt {o : Int} {x y : Int32} (t : Nat) (hd : Ins M pc (.if_icmp .gt o) 3 pc') (ht : (pc : Int) + o = (t : Int)) (h1 : y < x → Go Z a0 n0 M R Q t L st H ce sl) (h2 : ¬ y < x → Go Z a0 n0 M R Q pc' L st H ce sl) : Go Z a0 n0 M R Q pc L (.int y :: .int x :: st) H ce sl :=
  go_icmp t hd ht (fun q => h1 ((hold_gt x y).1.mp q)) (fun q => h2 ((hold_gt x y).2.mp q))
theorem go_if_gt {o : Int} {x : Int32} (t : Nat) (hd : Ins M pc (.ifCond .gt o) 3 pc') (ht : (pc : Int) + o = (t : Int)) (h1 : 0 < x → Go Z a0 n0 M R Q t L st H ce sl) (h2 : ¬ 0 < x → Go Z a0 n0 M R Q pc' L st H ce sl) : Go Z a0 n0 M R Q pc L (.int x :: st) H ce sl :=
  go_if t hd ht (fun q => h1 ((hold_gt x 0).1.mp ((if0 _ _).symm.trans q))) (fun q => h2 ((hold_gt x 0).2.mp ((if0 _ _).symm.trans q)))
theorem hold_le (x y : Int32) : (if_icmp.holds .le x y = true ↔ ¬ y < x) ∧ (if_icmp.holds .le x y = false ↔ y < x) := by simp [if_icmp.holds, Int32.not_lt, Int32.not_le]
theorem go_icmp_le {o : Int} {x y : Int32} (t : Nat) (hd : Ins M pc (.if_icmp .le o) 3 pc') (ht : (pc : Int) + o = (t : Int)) (h1 : ¬ y < x → Go Z a0 n0 M R Q t L st H ce sl) (h2 : y < x → Go Z a0 n0 M R Q pc' L st H ce sl) : Go Z a0 n0 M R Q pc L (.int y :: .int x :: st) H ce sl :=
  go_icmp t hd ht (fun q => h1 ((hold_le x y).1.mp q)) (fun q => h2 ((hold_le x y).2.mp q))
theorem go_if_le {o : Int} {x : Int32} (t : Nat) (hd : Ins M pc (.ifCond .le o) 3 pc') (ht : (pc : Int) + o = (t : Int)) (h1 : ¬ 0 < x → Go Z a0 n0 M R Q t L st H ce sl) (h2 : 0 < x → Go Z a0 n0 M R Q pc' L st H ce sl) : Go Z a0 n0 M R Q pc L (.int x :: st) H ce sl :=
  go_if t hd ht (fun q => h1 ((hold_le x 0).1.mp ((if0 _ _).symm.trans q))) (fun q => h2 ((hold_le x 0).2.mp ((if0 _ _).symm.trans q)))
theorem hold_eq (x y : Int32) : (if_icmp.holds .eq x y = true ↔ x = y) ∧ (if_icmp.holds .eq x y = false ↔ ¬ x = y) := by simp [if_icmp.holds, Int32.not_lt, Int32.not_le]
theorem go_icmp_eq {o : Int} {x y : Int32} (t : Nat) (hd : Ins M pc (.if_icmp .eq o) 3 pc') (ht : (pc : Int) + o = (t : Int)) (h1 : x = y → Go Z a0 n0 M R Q t L st H ce sl) (h2 : ¬ x = y → Go Z a0 n0 M R Q pc' L st H ce sl) : Go Z a0 n0 M R Q pc L (.int y :: .int x :: st) H ce sl :=
  go_icmp t hd ht (fun q => h1 ((hold_eq x y).1.mp q)) (fun q => h2 ((hold_eq x y).2.mp q))
theorem go_if_eq {o : Int} {x : Int32} (t : Nat) (hd : Ins M pc (.ifCond .eq o) 3 pc') (ht : (pc : Int) + o = (t : Int)) (h1 : x = 0 → Go Z a0 n0 M R Q t L st H ce sl) (h2 : ¬ x = 0 → Go Z a0 n0 M R Q pc' L st H ce sl) : Go Z a0 n0 M R Q pc L (.int x :: st) H ce sl :=
  go_if t hd ht (fun q => h1 ((hold_eq x 0).1.mp ((if0 _ _).symm.trans q))) (fun q => h2 ((hold_eq x 0).2.mp ((if0 _ _).symm.trans q)))
theorem hold_ne (x y : Int32) : (if_icmp.holds .ne x y = true ↔ ¬ x = y) ∧ (if_icmp.holds .ne x y = false ↔ x = y) := by simp [if_icmp.holds, Int32.not_lt, Int32.not_le]
theorem go_icmp_ne {o : Int} {x y : Int32} (t : Nat) (hd : Ins M pc (.if_icmp .ne o) 3 pc') (ht : (pc : Int) + o = (t : Int)) (h1 : ¬ x = y → Go Z a0 n0 M R Q t L st H ce sl) (h2 : x = y → Go Z a0 n0 M R Q pc' L st H ce sl) : Go Z a0 n0 M R Q pc L (.int y :: .int x :: st) H ce sl :=
  go_icmp t hd ht (fun q => h1 ((hold_ne x y).1.mp q)) (fun q => h2 ((hold_ne x y).2.mp q))
theorem go_if_ne {o : Int} {x : Int32} (t : Nat) (hd : Ins M pc (.ifCond .ne o) 3 pc') (ht : (pc : Int) + o = (t : Int)) (h1 : ¬ x = 0 → Go Z a0 n0 M R Q t L st H ce sl) (h2 : x = 0 → Go Z a0 n0 M R Q pc' L st H ce sl) : Go Z a0 n0 M R Q pc L (.int x :: st) H ce sl :=
  go_if t hd ht (fun q => h1 ((hold_ne x 0).1.mp ((if0 _ _).symm.trans q))) (fun q => h2 ((hold_ne x 0).2.mp ((if0 _ _).symm.trans q)))
theorem go_ifnull {o : Int} {b : Addr} (hd : Ins M pc (.ifnull o) 3 pc') (h : Go Z a0 n0 M R Q pc' L st H ce sl) : Go Z a0 n0 M R Q pc L (.ref b :: st) H ce sl := by
  obtain ⟨hd, rfl⟩ := hd
  exact go_pure (fun p e m below c T t hA hx hy k => XS.ifnullNo hA hx rfl (hb hy hd) rfl k) h
theorem go_ifnonnull {o : Int} {b : Addr} (t : Nat) (hd : Ins M pc (.ifnonnull o) 3 pc') (ht : (pc : Int) + o = (t : Int)) (h : Go Z a0 n0 M R Q t L st H ce sl) : Go Z a0 n0 M R Q pc L (.ref b :: st) H ce sl := by
  obtain ⟨hd, rfl⟩ := hd
  exact go_pure (fun p e m below c T u hA hx hy k => XT.ifnonnullYes hA hx rfl (pc0 := pc) (pc' := t) rfl (hb hy hd) rfl (by omega) (by omega) k) h
theorem set_app {α : Type} (A B : List α) (o w : α) {k : Nat} (hA : A.length = k) : (A ++ o :: B).toArray.setIfInBounds k w = (A ++ w :: B).toArray := by
  subst hA; simp
theorem get_app {α : Type} (A B : List α) (o : α) {k : Nat} (hA : A.length = k) : (A ++ o :: B).toArray[k]? = some o := by
  subst hA; simp
theorem sto2 {A B : List Slot} {o1 o2 : Slot} {x : Int64} {k : Nat} (hA : A.length = k) (ho : (One o1 ∧ One o2) ∨ ∃ y : Int64, o1 = .val (.long y) ∧ o2 = .second) : storeLocals (A ++ o1 :: o2 :: B).toArray k (.long x) = some (A ++ .val (.long x) :: .second :: B).toArray := by
  subst hA
  rcases ho with ⟨h1, h2⟩ | ⟨y, rfl, rfl⟩
  · rcases h1 with rfl | ⟨w, rfl, hw⟩ <;> rcases h2 with rfl | ⟨w', rfl, hw'⟩ <;> simp [storeLocals, storeSelf, setAt, *] <;> simp [Value.category]
  · simp [storeLocals, storeSelf, setAt, Value.category]
theorem go_istoreG {k : Nat} {A B : List Slot} {o : Slot} {x : Int32} (hA : A.length = k) (ho : One o) (hd : Ins M pc (.istore k) 2 pc') (h : Go Z a0 n0 M R Q pc' (A ++ .val (.int x) :: B) st H ce sl) : Go Z a0 n0 M R Q pc (A ++ o :: B) (.int x :: st) H ce sl := by
  obtain ⟨hd, rfl⟩ := hd
  exact go_pure (fun p e m below c T t hA' hx hy k => XS.istore hA' hx rfl (hb hy hd) rfl (XS.store1 (get_app A B o hA) ho rfl) (by rw [set_app A B o _ hA]; exact k)) h
theorem go_istoreNG {k : Fin 4} {A B : List Slot} {o : Slot} {x : Int32} (hA : A.length = k.val) (ho : One o) (hd : Ins M pc (.istore_n k) 1 pc') (h : Go Z a0 n0 M R Q pc' (A ++ .val (.int x) :: B) st H ce sl) : Go Z a0 n0 M R Q pc (A ++ o :: B) (.int x :: st) H ce sl := by
  obtain ⟨hd, rfl⟩ := hd
  exact go_pure (fun p e m below c T t hA' hx hy k => XS.istoreN hA' hx rfl (hb hy hd) rfl (XS.store1 (get_app A B o hA) ho rfl) (by rw [set_app A B o _ hA]; exact k)) h
theorem go_astoreG {k : Nat} {A B : List Slot} {o : Slot} {x : Addr} (hA : A.length = k) (ho : One o) (hd : Ins M pc (.astore k) 2 pc') (h : Go Z a0 n0 M R Q pc' (A ++ .val (.ref x) :: B) st H ce sl) : Go Z a0 n0 M R Q pc (A ++ o :: B) (.ref x :: st) H ce sl := by
  obtain ⟨hd, rfl⟩ := hd
  exact go_pure (fun p e m below c T t hA' hx hy k => XS.astore hA' hx rfl (hb hy hd) rfl rfl (XS.store1 (get_app A B o hA) ho rfl) (by rw [set_app A B o _ hA]; exact k)) h
theorem go_astoreNG {k : Fin 4} {A B : List Slot} {o : Slot} {x : Addr} (hA : A.length = k.val) (ho : One o) (hd : Ins M pc (.astore_n k) 1 pc') (h : Go Z a0 n0 M R Q pc' (A ++ .val (.ref x) :: B) st H ce sl) : Go Z a0 n0 M R Q pc (A ++ o :: B) (.ref x :: st) H ce sl := by
  obtain ⟨hd, rfl⟩ := hd
  exact go_pure (fun p e m below c T t hA' hx hy k => XS.astoreN hA' hx rfl (hb hy hd) rfl rfl (XS.store1 (get_app A B o hA) ho rfl) (by rw [set_app A B o _ hA]; exact k)) h
theorem go_lstoreG {k : Nat} {A B : List Slot} {o o' : Slot} {x : Int64} (hA : A.length = k) (ho : (One o ∧ One o') ∨ ∃ y : Int64, o = .val (.long y) ∧ o' = .second) (hd : Ins M pc (.lstore k) 2 pc') (h : Go Z a0 n0 M R Q pc' (A ++ .val (.long x) :: .second :: B) st H ce sl) : Go Z a0 n0 M R Q pc (A ++ o :: o' :: B) (.long x :: st) H ce sl := by
  obtain ⟨hd, rfl⟩ := hd
  exact go_pure (fun p e m below c T t hA' hx hy k => XT.lstore hA' hx rfl (hb hy hd) rfl (sto2 hA ho) k) h
theorem go_lstoreNG {k : Fin 4} {A B : List Slot} {o o' : Slot} {x : Int64} (hA : A.length = k.val) (ho : (One o ∧ One o') ∨ ∃ y : Int64, o = .val (.long y) ∧ o' = .second) (hd : Ins M pc (.lstore_n k) 1 pc') (h : Go Z a0 n0 M R Q pc' (A ++ .val (.long x) :: .second :: B) st H ce sl) : Go Z a0 n0 M R Q pc (A ++ o :: o' :: B) (.long x :: st) H ce sl := by
  obtain ⟨hd, rfl⟩ := hd
  exact go_pure (fun p e m below c T t hA' hx hy k => XT.lstoreN hA' hx rfl (hb hy hd) rfl (sto2 hA ho) k) h
theorem go_iincG {k : Nat} {A B : List Slot} {cst : Int} {x v : Int32} (hA : A.length = k) (hd : Ins M pc (.iinc k cst) 3 pc') (hv : x + Int32.ofInt cst = v) (h : Go Z a0 n0 M R Q pc' (A ++ .val (.int v) :: B) st H ce sl) : Go Z a0 n0 M R Q pc (A ++ .val (.int x) :: B) st H ce sl := by
  obtain ⟨hd, rfl⟩ := hd
  subst hv
  exact go_pure (fun p e m below c T t hA' hx hy k => XS.iinc hA' hx rfl (hb hy hd) (get_app A B (.val (.int x)) hA) (XS.store1 (get_app A B (.val (.int x)) hA) (One.val rfl) rfl) (by rw [set_app A B (.val (.int x)) _ hA]; exact k)) h
theorem go_istore0 {o : Slot} {B : List Slot} {x : Int32} (hd : Ins M pc (.istore_n 0) 1 pc') (ho : One o) (h : Go Z a0 n0 M R Q pc' (.val (.int x) :: B) st H ce sl) : Go Z a0 n0 M R Q pc (o :: B) (.int x :: st) H ce sl := go_istoreNG (A := []) rfl ho hd h
theorem go_astore0 {o : Slot} {B : List Slot} {x : Addr} (hd : Ins M pc (.astore_n 0) 1 pc') (ho : One o) (h : Go Z a0 n0 M R Q pc' (.val (.ref x) :: B) st H ce sl) : Go Z a0 n0 M R Q pc (o :: B) (.ref x :: st) H ce sl := go_astoreNG (A := []) rfl ho hd h
theorem go_lstore0 {o o' : Slot} {B : List Slot} {x : Int64} (hd : Ins M pc (.lstore_n 0) 1 pc') (ho : (One o ∧ One o') ∨ ∃ y : Int64, o = .val (.long y) ∧ o' = .second) (h : Go Z a0 n0 M R Q pc' (.val (.long x) :: .second :: B) st H ce sl) : Go Z a0 n0 M R Q pc (o :: o' :: B) (.long x :: st) H ce sl := go_lstoreNG (A := []) rfl ho hd h
theorem go_iinc0 {B : List Slot} {cst : Int} {x v : Int32} (hd : Ins M pc (.iinc 0 cst) 3 pc') (hv : x + Int32.ofInt cst = v) (h : Go Z a0 n0 M R Q pc' (.val (.int v) :: B) st H ce sl) : Go Z a0 n0 M R Q pc (.val (.int x) :: B) st H ce sl := go_iincG (A := []) rfl hd hv h
theorem go_istore1 {s0 o : Slot} {B : List Slot} {x : Int32} (hd : Ins M pc (.istore_n 1) 1 pc') (ho : One o) (h : Go Z a0 n0 M R Q pc' (s0 :: .val (.int x) :: B) st H ce sl) : Go Z a0 n0 M R Q pc (s0 :: o :: B) (.int x :: st) H ce sl := go_istoreNG (A := [s0]) rfl ho hd h
theorem go_astore1 {s0 o : Slot} {B : List Slot} {x : Addr} (hd : Ins M pc (.astore_n 1) 1 pc') (ho : One o) (h : Go Z a0 n0 M R Q pc' (s0 :: .val (.ref x) :: B) st H ce sl) : Go Z a0 n0 M R Q pc (s0 :: o :: B) (.ref x :: st) H ce sl := go_astoreNG (A := [s0]) rfl ho hd h
theorem go_lstore1 {s0 o o' : Slot} {B : List Slot} {x : Int64} (hd : Ins M pc (.lstore_n 1) 1 pc') (ho : (One o ∧ One o') ∨ ∃ y : Int64, o = .val (.long y) ∧ o' = .second) (h : Go Z a0 n0 M R Q pc' (s0 :: .val (.long x) :: .second :: B) st H ce sl) : Go Z a0 n0 M R Q pc (s0 :: o :: o' :: B) (.long x :: st) H ce sl := go_lstoreNG (A := [s0]) rfl ho hd h
theorem go_iinc1 {s0 : Slot} {B : List Slot} {cst : Int} {x v : Int32} (hd : Ins M pc (.iinc 1 cst) 3 pc') (hv : x + Int32.ofInt cst = v) (h : Go Z a0 n0 M R Q pc' (s0 :: .val (.int v) :: B) st H ce sl) : Go Z a0 n0 M R Q pc (s0 :: .val (.int x) :: B) st H ce sl := go_iincG (A := [s0]) rfl hd hv h
theorem go_istore2 {s0 s1 o : Slot} {B : List Slot} {x : Int32} (hd : Ins M pc (.istore_n 2) 1 pc') (ho : One o) (h : Go Z a0 n0 M R Q pc' (s0 :: s1 :: .val (.int x) :: B) st H ce sl) : Go Z a0 n0 M R Q pc (s0 :: s1 :: o :: B) (.int x :: st) H ce sl := go_istoreNG (A := [s0, s1]) rfl ho hd h
theorem go_astore2 {s0 s1 o : Slot} {B : List Slot} {x : Addr} (hd : Ins M pc (.astore_n 2) 1 pc') (ho : One o) (h : Go Z a0 n0 M R Q pc' (s0 :: s1 :: .val (.ref x) :: B) st H ce sl) : Go Z a0 n0 M R Q pc (s0 :: s1 :: o :: B) (.ref x :: st) H ce sl := go_astoreNG (A := [s0, s1]) rfl ho hd h
theorem go_lstore2 {s0 s1 o o' : Slot} {B : List Slot} {x : Int64} (hd : Ins M pc (.lstore_n 2) 1 pc') (ho : (One o ∧ One o') ∨ ∃ y : Int64, o = .val (.long y) ∧ o' = .second) (h : Go Z a0 n0 M R Q pc' (s0 :: s1 :: .val (.long x) :: .second :: B) st H ce sl) : Go Z a0 n0 M R Q pc (s0 :: s1 :: o :: o' :: B) (.long x :: st) H ce sl := go_lstoreNG (A := [s0, s1]) rfl ho hd h
theorem go_iinc2 {s0 s1 : Slot} {B : List Slot} {cst : Int} {x v : Int32} (hd : Ins M pc (.iinc 2 cst) 3 pc') (hv : x + Int32.ofInt cst = v) (h : Go Z a0 n0 M R Q pc' (s0 :: s1 :: .val (.int v) :: B) st H ce sl) : Go Z a0 n0 M R Q pc (s0 :: s1 :: .val (.int x) :: B) st H ce sl := go_iincG (A := [s0, s1]) rfl hd hv h
theorem go_istore3 {s0 s1 s2 o : Slot} {B : List Slot} {x : Int32} (hd : Ins M pc (.istore_n 3) 1 pc') (ho : One o) (h : Go Z a0 n0 M R Q pc' (s0 :: s1 :: s2 :: .val (.int x) :: B) st H ce sl) : Go Z a0 n0 M R Q pc (s0 :: s1 :: s2 :: o :: B) (.int x :: st) H ce sl := go_istoreNG (A := [s0, s1, s2]) rfl ho hd h
theorem go_astore3 {s0 s1 s2 o : Slot} {B : List Slot} {x : Addr} (hd : Ins M pc (.astore_n 3) 1 pc') (ho : One o) (h : Go Z a0 n0 M R Q pc' (s0 :: s1 :: s2 :: .val (.ref x) :: B) st H ce sl) : Go Z a0 n0 M R Q pc (s0 :: s1 :: s2 :: o :: B) (.ref x :: st) H ce sl := go_astoreNG (A := [s0, s1, s2]) rfl ho hd h
theorem go_lstore3 {s0 s1 s2 o o' : Slot} {B : List Slot} {x : Int64} (hd : Ins M pc (.lstore_n 3) 1 pc') (ho : (One o ∧ One o') ∨ ∃ y : Int64, o = .val (.long y) ∧ o' = .second) (h : Go Z a0 n0 M R Q pc' (s0 :: s1 :: s2 :: .val (.long x) :: .second :: B) st H ce sl) : Go Z a0 n0 M R Q pc (s0 :: s1 :: s2 :: o :: o' :: B) (.long x :: st) H ce sl := go_lstoreNG (A := [s0, s1, s2]) rfl ho hd h
theorem go_iinc3 {s0 s1 s2 : Slot} {B : List Slot} {cst : Int} {x v : Int32} (hd : Ins M pc (.iinc 3 cst) 3 pc') (hv : x + Int32.ofInt cst = v) (h : Go Z a0 n0 M R Q pc' (s0 :: s1 :: s2 :: .val (.int v) :: B) st H ce sl) : Go Z a0 n0 M R Q pc (s0 :: s1 :: s2 :: .val (.int x) :: B) st H ce sl := go_iincG (A := [s0, s1, s2]) rfl hd hv h
theorem go_istore4 {s0 s1 s2 s3 o : Slot} {B : List Slot} {x : Int32} (hd : Ins M pc (.istore 4) 2 pc') (ho : One o) (h : Go Z a0 n0 M R Q pc' (s0 :: s1 :: s2 :: s3 :: .val (.int x) :: B) st H ce sl) : Go Z a0 n0 M R Q pc (s0 :: s1 :: s2 :: s3 :: o :: B) (.int x :: st) H ce sl := go_istoreG (A := [s0, s1, s2, s3]) rfl ho hd h
theorem go_astore4 {s0 s1 s2 s3 o : Slot} {B : List Slot} {x : Addr} (hd : Ins M pc (.astore 4) 2 pc') (ho : One o) (h : Go Z a0 n0 M R Q pc' (s0 :: s1 :: s2 :: s3 :: .val (.ref x) :: B) st H ce sl) : Go Z a0 n0 M R Q pc (s0 :: s1 :: s2 :: s3 :: o :: B) (.ref x :: st) H ce sl := go_astoreG (A := [s0, s1, s2, s3]) rfl ho hd h
theorem go_lstore4 {s0 s1 s2 s3 o o' : Slot} {B : List Slot} {x : Int64} (hd : Ins M pc (.lstore 4) 2 pc') (ho : (One o ∧ One o') ∨ ∃ y : Int64, o = .val (.long y) ∧ o' = .second) (h : Go Z a0 n0 M R Q pc' (s0 :: s1 :: s2 :: s3 :: .val (.long x) :: .second :: B) st H ce sl) : Go Z a0 n0 M R Q pc (s0 :: s1 :: s2 :: s3 :: o :: o' :: B) (.long x :: st) H ce sl := go_lstoreG (A := [s0, s1, s2, s3]) rfl ho hd h
theorem go_iinc4 {s0 s1 s2 s3 : Slot} {B : List Slot} {cst : Int} {x v : Int32} (hd : Ins M pc (.iinc 4 cst) 3 pc') (hv : x + Int32.ofInt cst = v) (h : Go Z a0 n0 M R Q pc' (s0 :: s1 :: s2 :: s3 :: .val (.int v) :: B) st H ce sl) : Go Z a0 n0 M R Q pc (s0 :: s1 :: s2 :: s3 :: .val (.int x) :: B) st H ce sl := go_iincG (A := [s0, s1, s2, s3]) rfl hd hv h
theorem go_istore5 {s0 s1 s2 s3 s4 o : Slot} {B : List Slot} {x : Int32} (hd : Ins M pc (.istore 5) 2 pc') (ho : One o) (h : Go Z a0 n0 M R Q pc' (s0 :: s1 :: s2 :: s3 :: s4 :: .val (.int x) :: B) st H ce sl) : Go Z a0 n0 M R Q pc (s0 :: s1 :: s2 :: s3 :: s4 :: o :: B) (.int x :: st) H ce sl := go_istoreG (A := [s0, s1, s2, s3, s4]) rfl ho hd h
theorem go_astore5 {s0 s1 s2 s3 s4 o : Slot} {B : List Slot} {x : Addr} (hd : Ins M pc (.astore 5) 2 pc') (ho : One o) (h : Go Z a0 n0 M R Q pc' (s0 :: s1 :: s2 :: s3 :: s4 :: .val (.ref x) :: B) st H ce sl) : Go Z a0 n0 M R Q pc (s0 :: s1 :: s2 :: s3 :: s4 :: o :: B) (.ref x :: st) H ce sl := go_astoreG (A := [s0, s1, s2, s3, s4]) rfl ho hd h
theorem go_lstore5 {s0 s1 s2 s3 s4 o o' : Slot} {B : List Slot} {x : Int64} (hd : Ins M pc (.lstore 5) 2 pc') (ho : (One o ∧ One o') ∨ ∃ y : Int64, o = .val (.long y) ∧ o' = .second) (h : Go Z a0 n0 M R Q pc' (s0 :: s1 :: s2 :: s3 :: s4 :: .val (.long x) :: .second :: B) st H ce sl) : Go Z a0 n0 M R Q pc (s0 :: s1 :: s2 :: s3 :: s4 :: o :: o' :: B) (.long x :: st) H ce sl := go_lstoreG (A := [s0, s1, s2, s3, s4]) rfl ho hd h
theorem go_iinc5 {s0 s1 s2 s3 s4 : Slot} {B : List Slot} {cst : Int} {x v : Int32} (hd : Ins M pc (.iinc 5 cst) 3 pc') (hv : x + Int32.ofInt cst = v) (h : Go Z a0 n0 M R Q pc' (s0 :: s1 :: s2 :: s3 :: s4 :: .val (.int v) :: B) st H ce sl) : Go Z a0 n0 M R Q pc (s0 :: s1 :: s2 :: s3 :: s4 :: .val (.int x) :: B) st H ce sl := go_iincG (A := [s0, s1, s2, s3, s4]) rfl hd hv h
theorem go_istore6 {s0 s1 s2 s3 s4 s5 o : Slot} {B : List Slot} {x : Int32} (hd : Ins M pc (.istore 6) 2 pc') (ho : One o) (h : Go Z a0 n0 M R Q pc' (s0 :: s1 :: s2 :: s3 :: s4 :: s5 :: .val (.int x) :: B) st H ce sl) : Go Z a0 n0 M R Q pc (s0 :: s1 :: s2 :: s3 :: s4 :: s5 :: o :: B) (.int x :: st) H ce sl := go_istoreG (A := [s0, s1, s2, s3, s4, s5]) rfl ho hd h
theorem go_astore6 {s0 s1 s2 s3 s4 s5 o : Slot} {B : List Slot} {x : Addr} (hd : Ins M pc (.astore 6) 2 pc') (ho : One o) (h : Go Z a0 n0 M R Q pc' (s0 :: s1 :: s2 :: s3 :: s4 :: s5 :: .val (.ref x) :: B) st H ce sl) : Go Z a0 n0 M R Q pc (s0 :: s1 :: s2 :: s3 :: s4 :: s5 :: o :: B) (.ref x :: st) H ce sl := go_astoreG (A := [s0, s1, s2, s3, s4, s5]) rfl ho hd h
theorem go_lstore6 {s0 s1 s2 s3 s4 s5 o o' : Slot} {B : List Slot} {x : Int64} (hd : Ins M pc (.lstore 6) 2 pc') (ho : (One o ∧ One o') ∨ ∃ y : Int64, o = .val (.long y) ∧ o' = .second) (h : Go Z a0 n0 M R Q pc' (s0 :: s1 :: s2 :: s3 :: s4 :: s5 :: .val (.long x) :: .second :: B) st H ce sl) : Go Z a0 n0 M R Q pc (s0 :: s1 :: s2 :: s3 :: s4 :: s5 :: o :: o' :: B) (.long x :: st) H ce sl := go_lstoreG (A := [s0, s1, s2, s3, s4, s5]) rfl ho hd h
theorem go_iinc6 {s0 s1 s2 s3 s4 s5 : Slot} {B : List Slot} {cst : Int} {x v : Int32} (hd : Ins M pc (.iinc 6 cst) 3 pc') (hv : x + Int32.ofInt cst = v) (h : Go Z a0 n0 M R Q pc' (s0 :: s1 :: s2 :: s3 :: s4 :: s5 :: .val (.int v) :: B) st H ce sl) : Go Z a0 n0 M R Q pc (s0 :: s1 :: s2 :: s3 :: s4 :: s5 :: .val (.int x) :: B) st H ce sl := go_iincG (A := [s0, s1, s2, s3, s4, s5]) rfl hd hv h
theorem go_istore7 {s0 s1 s2 s3 s4 s5 s6 o : Slot} {B : List Slot} {x : Int32} (hd : Ins M pc (.istore 7) 2 pc') (ho : One o) (h : Go Z a0 n0 M R Q pc' (s0 :: s1 :: s2 :: s3 :: s4 :: s5 :: s6 :: .val (.int x) :: B) st H ce sl) : Go Z a0 n0 M R Q pc (s0 :: s1 :: s2 :: s3 :: s4 :: s5 :: s6 :: o :: B) (.int x :: st) H ce sl := go_istoreG (A := [s0, s1, s2, s3, s4, s5, s6]) rfl ho hd h
theorem go_astore7 {s0 s1 s2 s3 s4 s5 s6 o : Slot} {B : List Slot} {x : Addr} (hd : Ins M pc (.astore 7) 2 pc') (ho : One o) (h : Go Z a0 n0 M R Q pc' (s0 :: s1 :: s2 :: s3 :: s4 :: s5 :: s6 :: .val (.ref x) :: B) st H ce sl) : Go Z a0 n0 M R Q pc (s0 :: s1 :: s2 :: s3 :: s4 :: s5 :: s6 :: o :: B) (.ref x :: st) H ce sl := go_astoreG (A := [s0, s1, s2, s3, s4, s5, s6]) rfl ho hd h
theorem go_lstore7 {s0 s1 s2 s3 s4 s5 s6 o o' : Slot} {B : List Slot} {x : Int64} (hd : Ins M pc (.lstore 7) 2 pc') (ho : (One o ∧ One o') ∨ ∃ y : Int64, o = .val (.long y) ∧ o' = .second) (h : Go Z a0 n0 M R Q pc' (s0 :: s1 :: s2 :: s3 :: s4 :: s5 :: s6 :: .val (.long x) :: .second :: B) st H ce sl) : Go Z a0 n0 M R Q pc (s0 :: s1 :: s2 :: s3 :: s4 :: s5 :: s6 :: o :: o' :: B) (.long x :: st) H ce sl := go_lstoreG (A := [s0, s1, s2, s3, s4, s5, s6]) rfl ho hd h
theorem go_iinc7 {s0 s1 s2 s3 s4 s5 s6 : Slot} {B : List Slot} {cst : Int} {x v : Int32} (hd : Ins M pc (.iinc 7 cst) 3 pc') (hv : x + Int32.ofInt cst = v) (h : Go Z a0 n0 M R Q pc' (s0 :: s1 :: s2 :: s3 :: s4 :: s5 :: s6 :: .val (.int v) :: B) st H ce sl) : Go Z a0 n0 M R Q pc (s0 :: s1 :: s2 :: s3 :: s4 :: s5 :: s6 :: .val (.int x) :: B) st H ce sl := go_iincG (A := [s0, s1, s2, s3, s4, s5, s6]) rfl hd hv h
theorem go_istore8 {s0 s1 s2 s3 s4 s5 s6 s7 o : Slot} {B : List Slot} {x : Int32} (hd : Ins M pc (.istore 8) 2 pc') (ho : One o) (h : Go Z a0 n0 M R Q pc' (s0 :: s1 :: s2 :: s3 :: s4 :: s5 :: s6 :: s7 :: .val (.int x) :: B) st H ce sl) : Go Z a0 n0 M R Q pc (s0 :: s1 :: s2 :: s3 :: s4 :: s5 :: s6 :: s7 :: o :: B) (.int x :: st) H ce sl := go_istoreG (A := [s0, s1, s2, s3, s4, s5, s6, s7]) rfl ho hd h
theorem go_astore8 {s0 s1 s2 s3 s4 s5 s6 s7 o : Slot} {B : List Slot} {x : Addr} (hd : Ins M pc (.astore 8) 2 pc') (ho : One o) (h : Go Z a0 n0 M R Q pc' (s0 :: s1 :: s2 :: s3 :: s4 :: s5 :: s6 :: s7 :: .val (.ref x) :: B) st H ce sl) : Go Z a0 n0 M R Q pc (s0 :: s1 :: s2 :: s3 :: s4 :: s5 :: s6 :: s7 :: o :: B) (.ref x :: st) H ce sl := go_astoreG (A := [s0, s1, s2, s3, s4, s5, s6, s7]) rfl ho hd h
theorem go_lstore8 {s0 s1 s2 s3 s4 s5 s6 s7 o o' : Slot} {B : List Slot} {x : Int64} (hd : Ins M pc (.lstore 8) 2 pc') (ho : (One o ∧ One o') ∨ ∃ y : Int64, o = .val (.long y) ∧ o' = .second) (h : Go Z a0 n0 M R Q pc' (s0 :: s1 :: s2 :: s3 :: s4 :: s5 :: s6 :: s7 :: .val (.long x) :: .second :: B) st H ce sl) : Go Z a0 n0 M R Q pc (s0 :: s1 :: s2 :: s3 :: s4 :: s5 :: s6 :: s7 :: o :: o' :: B) (.long x :: st) H ce sl := go_lstoreG (A := [s0, s1, s2, s3, s4, s5, s6, s7]) rfl ho hd h
theorem go_iinc8 {s0 s1 s2 s3 s4 s5 s6 s7 : Slot} {B : List Slot} {cst : Int} {x v : Int32} (hd : Ins M pc (.iinc 8 cst) 3 pc') (hv : x + Int32.ofInt cst = v) (h : Go Z a0 n0 M R Q pc' (s0 :: s1 :: s2 :: s3 :: s4 :: s5 :: s6 :: s7 :: .val (.int v) :: B) st H ce sl) : Go Z a0 n0 M R Q pc (s0 :: s1 :: s2 :: s3 :: s4 :: s5 :: s6 :: s7 :: .val (.int x) :: B) st H ce sl := go_iincG (A := [s0, s1, s2, s3, s4, s5, s6, s7]) rfl hd hv h
theorem go_istore9 {s0 s1 s2 s3 s4 s5 s6 s7 s8 o : Slot} {B : List Slot} {x : Int32} (hd : Ins M pc (.istore 9) 2 pc') (ho : One o) (h : Go Z a0 n0 M R Q pc' (s0 :: s1 :: s2 :: s3 :: s4 :: s5 :: s6 :: s7 :: s8 :: .val (.int x) :: B) st H ce sl) : Go Z a0 n0 M R Q pc (s0 :: s1 :: s2 :: s3 :: s4 :: s5 :: s6 :: s7 :: s8 :: o :: B) (.int x :: st) H ce sl := go_istoreG (A := [s0, s1, s2, s3, s4, s5, s6, s7, s8]) rfl ho hd h
theorem go_astore9 {s0 s1 s2 s3 s4 s5 s6 s7 s8 o : Slot} {B : List Slot} {x : Addr} (hd : Ins M pc (.astore 9) 2 pc') (ho : One o) (h : Go Z a0 n0 M R Q pc' (s0 :: s1 :: s2 :: s3 :: s4 :: s5 :: s6 :: s7 :: s8 :: .val (.ref x) :: B) st H ce sl) : Go Z a0 n0 M R Q pc (s0 :: s1 :: s2 :: s3 :: s4 :: s5 :: s6 :: s7 :: s8 :: o :: B) (.ref x :: st) H ce sl := go_astoreG (A := [s0, s1, s2, s3, s4, s5, s6, s7, s8]) rfl ho hd h
theorem go_lstore9 {s0 s1 s2 s3 s4 s5 s6 s7 s8 o o' : Slot} {B : List Slot} {x : Int64} (hd : Ins M pc (.lstore 9) 2 pc') (ho : (One o ∧ One o') ∨ ∃ y : Int64, o = .val (.long y) ∧ o' = .second) (h : Go Z a0 n0 M R Q pc' (s0 :: s1 :: s2 :: s3 :: s4 :: s5 :: s6 :: s7 :: s8 :: .val (.long x) :: .second :: B) st H ce sl) : Go Z a0 n0 M R Q pc (s0 :: s1 :: s2 :: s3 :: s4 :: s5 :: s6 :: s7 :: s8 :: o :: o' :: B) (.long x :: st) H ce sl := go_lstoreG (A := [s0, s1, s2, s3, s4, s5, s6, s7, s8]) rfl ho hd h
theorem go_iinc9 {s0 s1 s2 s3 s4 s5 s6 s7 s8 : Slot} {B : List Slot} {cst : Int} {x v : Int32} (hd : Ins M pc (.iinc 9 cst) 3 pc') (hv : x + Int32.ofInt cst = v) (h : Go Z a0 n0 M R Q pc' (s0 :: s1 :: s2 :: s3 :: s4 :: s5 :: s6 :: s7 :: s8 :: .val (.int v) :: B) st H ce sl) : Go Z a0 n0 M R Q pc (s0 :: s1 :: s2 :: s3 :: s4 :: s5 :: s6 :: s7 :: s8 :: .val (.int x) :: B) st H ce sl := go_iincG (A := [s0, s1, s2, s3, s4, s5, s6, s7, s8]) rfl hd hv h
theorem go_istore10 {s0 s1 s2 s3 s4 s5 s6 s7 s8 s9 o : Slot} {B : List Slot} {x : Int32} (hd : Ins M pc (.istore 10) 2 pc') (ho : One o) (h : Go Z a0 n0 M R Q pc' (s0 :: s1 :: s2 :: s3 :: s4 :: s5 :: s6 :: s7 :: s8 :: s9 :: .val (.int x) :: B) st H ce sl) : Go Z a0 n0 M R Q pc (s0 :: s1 :: s2 :: s3 :: s4 :: s5 :: s6 :: s7 :: s8 :: s9 :: o :: B) (.int x :: st) H ce sl := go_istoreG (A := [s0, s1, s2, s3, s4, s5, s6, s7, s8, s9]) rfl ho hd h
theorem go_astore10 {s0 s1 s2 s3 s4 s5 s6 s7 s8 s9 o : Slot} {B : List Slot} {x : Addr} (hd : Ins M pc (.astore 10) 2 pc') (ho : One o) (h : Go Z a0 n0 M R Q pc' (s0 :: s1 :: s2 :: s3 :: s4 :: s5 :: s6 :: s7 :: s8 :: s9 :: .val (.ref x) :: B) st H ce sl) : Go Z a0 n0 M R Q pc (s0 :: s1 :: s2 :: s3 :: s4 :: s5 :: s6 :: s7 :: s8 :: s9 :: o :: B) (.ref x :: st) H ce sl := go_astoreG (A := [s0, s1, s2, s3, s4, s5, s6, s7, s8, s9]) rfl ho hd h
theorem go_lstore10 {s0 s1 s2 s3 s4 s5 s6 s7 s8 s9 o o' : Slot} {B : List Slot} {x : Int64} (hd : Ins M pc (.lstore 10) 2 pc') (ho : (One o ∧ One o') ∨ ∃ y : Int64, o = .val (.long y) ∧ o' = .second) (h : Go Z a0 n0 M R Q pc' (s0 :: s1 :: s2 :: s3 :: s4 :: s5 :: s6 :: s7 :: s8 :: s9 :: .val (.long x) :: .second :: B) st H ce sl) : Go Z a0 n0 M R Q pc (s0 :: s1 :: s2 :: s3 :: s4 :: s5 :: s6 :: s7 :: s8 :: s9 :: o :: o' :: B) (.long x :: st) H ce sl := go_lstoreG (A := [s0, s1, s2, s3, s4, s5, s6, s7, s8, s9]) rfl ho hd h
theorem go_iinc10 {s0 s1 s2 s3 s4 s5 s6 s7 s8 s9 : Slot} {B : List Slot} {cst : Int} {x v : Int32} (hd : Ins M pc (.iinc 10 cst) 3 pc') (hv : x + Int32.ofInt cst = v) (h : Go Z a0 n0 M R Q pc' (s0 :: s1 :: s2 :: s3 :: s4 :: s5 :: s6 :: s7 :: s8 :: s9 :: .val (.int v) :: B) st H ce sl) : Go Z a0 n0 M R Q pc (s0 :: s1 :: s2 :: s3 :: s4 :: s5 :: s6 :: s7 :: s8 :: s9 :: .val (.int x) :: B) st H ce sl := go_iincG (A := [s0, s1, s2, s3, s4, s5, s6, s7, s8, s9]) rfl hd hv h
theorem go_istore11 {s0 s1 s2 s3 s4 s5 s6 s7 s8 s9 s10 o : Slot} {B : List Slot} {x : Int32} (hd : Ins M pc (.istore 11) 2 pc') (ho : One o) (h : Go Z a0 n0 M R Q pc' (s0 :: s1 :: s2 :: s3 :: s4 :: s5 :: s6 :: s7 :: s8 :: s9 :: s10 :: .val (.int x) :: B) st H ce sl) : Go Z a0 n0 M R Q pc (s0 :: s1 :: s2 :: s3 :: s4 :: s5 :: s6 :: s7 :: s8 :: s9 :: s10 :: o :: B) (.int x :: st) H ce sl := go_istoreG (A := [s0, s1, s2, s3, s4, s5, s6, s7, s8, s9, s10]) rfl ho hd h
theorem go_astore11 {s0 s1 s2 s3 s4 s5 s6 s7 s8 s9 s10 o : Slot} {B : List Slot} {x : Addr} (hd : Ins M pc (.astore 11) 2 pc') (ho : One o) (h : Go Z a0 n0 M R Q pc' (s0 :: s1 :: s2 :: s3 :: s4 :: s5 :: s6 :: s7 :: s8 :: s9 :: s10 :: .val (.ref x) :: B) st H ce sl) : Go Z a0 n0 M R Q pc (s0 :: s1 :: s2 :: s3 :: s4 :: s5 :: s6 :: s7 :: s8 :: s9 :: s10 :: o :: B) (.ref x :: st) H ce sl := go_astoreG (A := [s0, s1, s2, s3, s4, s5, s6, s7, s8, s9, s10]) rfl ho hd h
theorem go_lstore11 {s0 s1 s2 s3 s4 s5 s6 s7 s8 s9 s10 o o' : Slot} {B : List Slot} {x : Int64} (hd : Ins M pc (.lstore 11) 2 pc') (ho : (One o ∧ One o') ∨ ∃ y : Int64, o = .val (.long y) ∧ o' = .second) (h : Go Z a0 n0 M R Q pc' (s0 :: s1 :: s2 :: s3 :: s4 :: s5 :: s6 :: s7 :: s8 :: s9 :: s10 :: .val (.long x) :: .second :: B) st H ce sl) : Go Z a0 n0 M R Q pc (s0 :: s1 :: s2 :: s3 :: s4 :: s5 :: s6 :: s7 :: s8 :: s9 :: s10 :: o :: o' :: B) (.long x :: st) H ce sl := go_lstoreG (A := [s0, s1, s2, s3, s4, s5, s6, s7, s8, s9, s10]) rfl ho hd h
theorem go_iinc11 {s0 s1 s2 s3 s4 s5 s6 s7 s8 s9 s10 : Slot} {B : List Slot} {cst : Int} {x v : Int32} (hd : Ins M pc (.iinc 11 cst) 3 pc') (hv : x + Int32.ofInt cst = v) (h : Go Z a0 n0 M R Q pc' (s0 :: s1 :: s2 :: s3 :: s4 :: s5 :: s6 :: s7 :: s8 :: s9 :: s10 :: .val (.int v) :: B) st H ce sl) : Go Z a0 n0 M R Q pc (s0 :: s1 :: s2 :: s3 :: s4 :: s5 :: s6 :: s7 :: s8 :: s9 :: s10 :: .val (.int x) :: B) st H ce sl := go_iincG (A := [s0, s1, s2, s3, s4, s5, s6, s7, s8, s9, s10]) rfl hd hv h
theorem go_istore12 {s0 s1 s2 s3 s4 s5 s6 s7 s8 s9 s10 s11 o : Slot} {B : List Slot} {x : Int32} (hd : Ins M pc (.istore 12) 2 pc') (ho : One o) (h : Go Z a0 n0 M R Q pc' (s0 :: s1 :: s2 :: s3 :: s4 :: s5 :: s6 :: s7 :: s8 :: s9 :: s10 :: s11 :: .val (.int x) :: B) st H ce sl) : Go Z a0 n0 M R Q pc (s0 :: s1 :: s2 :: s3 :: s4 :: s5 :: s6 :: s7 :: s8 :: s9 :: s10 :: s11 :: o :: B) (.int x :: st) H ce sl := go_istoreG (A := [s0, s1, s2, s3, s4, s5, s6, s7, s8, s9, s10, s11]) rfl ho hd h
theorem go_astore12 {s0 s1 s2 s3 s4 s5 s6 s7 s8 s9 s10 s11 o : Slot} {B : List Slot} {x : Addr} (hd : Ins M pc (.astore 12) 2 pc') (ho : One o) (h : Go Z a0 n0 M R Q pc' (s0 :: s1 :: s2 :: s3 :: s4 :: s5 :: s6 :: s7 :: s8 :: s9 :: s10 :: s11 :: .val (.ref x) :: B) st H ce sl) : Go Z a0 n0 M R Q pc (s0 :: s1 :: s2 :: s3 :: s4 :: s5 :: s6 :: s7 :: s8 :: s9 :: s10 :: s11 :: o :: B) (.ref x :: st) H ce sl := go_astoreG (A := [s0, s1, s2, s3, s4, s5, s6, s7, s8, s9, s10, s11]) rfl ho hd h
theorem go_lstore12 {s0 s1 s2 s3 s4 s5 s6 s7 s8 s9 s10 s11 o o' : Slot} {B : List Slot} {x : Int64} (hd : Ins M pc (.lstore 12) 2 pc') (ho : (One o ∧ One o') ∨ ∃ y : Int64, o = .val (.long y) ∧ o' = .second) (h : Go Z a0 n0 M R Q pc' (s0 :: s1 :: s2 :: s3 :: s4 :: s5 :: s6 :: s7 :: s8 :: s9 :: s10 :: s11 :: .val (.long x) :: .second :: B) st H ce sl) : Go Z a0 n0 M R Q pc (s0 :: s1 :: s2 :: s3 :: s4 :: s5 :: s6 :: s7 :: s8 :: s9 :: s10 :: s11 :: o :: o' :: B) (.long x :: st) H ce sl := go_lstoreG (A := [s0, s1, s2, s3, s4, s5, s6, s7, s8, s9, s10, s11]) rfl ho hd h
theorem go_iinc12 {s0 s1 s2 s3 s4 s5 s6 s7 s8 s9 s10 s11 : Slot} {B : List Slot} {cst : Int} {x v : Int32} (hd : Ins M pc (.iinc 12 cst) 3 pc') (hv : x + Int32.ofInt cst = v) (h : Go Z a0 n0 M R Q pc' (s0 :: s1 :: s2 :: s3 :: s4 :: s5 :: s6 :: s7 :: s8 :: s9 :: s10 :: s11 :: .val (.int v) :: B) st H ce sl) : Go Z a0 n0 M R Q pc (s0 :: s1 :: s2 :: s3 :: s4 :: s5 :: s6 :: s7 :: s8 :: s9 :: s10 :: s11 :: .val (.int x) :: B) st H ce sl := go_iincG (A := [s0, s1, s2, s3, s4, s5, s6, s7, s8, s9, s10, s11]) rfl hd hv h
theorem go_istore13 {s0 s1 s2 s3 s4 s5 s6 s7 s8 s9 s10 s11 s12 o : Slot} {B : List Slot} {x : Int32} (hd : Ins M pc (.istore 13) 2 pc') (ho : One o) (h : Go Z a0 n0 M R Q pc' (s0 :: s1 :: s2 :: s3 :: s4 :: s5 :: s6 :: s7 :: s8 :: s9 :: s10 :: s11 :: s12 :: .val (.int x) :: B) st H ce sl) : Go Z a0 n0 M R Q pc (s0 :: s1 :: s2 :: s3 :: s4 :: s5 :: s6 :: s7 :: s8 :: s9 :: s10 :: s11 :: s12 :: o :: B) (.int x :: st) H ce sl := go_istoreG (A := [s0, s1, s2, s3, s4, s5, s6, s7, s8, s9, s10, s11, s12]) rfl ho hd h
theorem go_astore13 {s0 s1 s2 s3 s4 s5 s6 s7 s8 s9 s10 s11 s12 o : Slot} {B : List Slot} {x : Addr} (hd : Ins M pc (.astore 13) 2 pc') (ho : One o) (h : Go Z a0 n0 M R Q pc' (s0 :: s1 :: s2 :: s3 :: s4 :: s5 :: s6 :: s7 :: s8 :: s9 :: s10 :: s11 :: s12 :: .val (.ref x) :: B) st H ce sl) : Go Z a0 n0 M R Q pc (s0 :: s1 :: s2 :: s3 :: s4 :: s5 :: s6 :: s7 :: s8 :: s9 :: s10 :: s11 :: s12 :: o :: B) (.ref x :: st) H ce sl := go_astoreG (A := [s0, s1, s2, s3, s4, s5, s6, s7, s8, s9, s10, s11, s12]) rfl ho hd h
theorem go_lstore13 {s0 s1 s2 s3 s4 s5 s6 s7 s8 s9 s10 s11 s12 o o' : Slot} {B : List Slot} {x : Int64} (hd : Ins M pc (.lstore 13) 2 pc') (ho : (One o ∧ One o') ∨ ∃ y : Int64, o = .val (.long y) ∧ o' = .second) (h : Go Z a0 n0 M R Q pc' (s0 :: s1 :: s2 :: s3 :: s4 :: s5 :: s6 :: s7 :: s8 :: s9 :: s10 :: s11 :: s12 :: .val (.long x) :: .second :: B) st H ce sl) : Go Z a0 n0 M R Q pc (s0 :: s1 :: s2 :: s3 :: s4 :: s5 :: s6 :: s7 :: s8 :: s9 :: s10 :: s11 :: s12 :: o :: o' :: B) (.long x :: st) H ce sl := go_lstoreG (A := [s0, s1, s2, s3, s4, s5, s6, s7, s8, s9, s10, s11, s12]) rfl ho hd h
theorem go_iinc13 {s0 s1 s2 s3 s4 s5 s6 s7 s8 s9 s10 s11 s12 : Slot} {B : List Slot} {cst : Int} {x v : Int32} (hd : Ins M pc (.iinc 13 cst) 3 pc') (hv : x + Int32.ofInt cst = v) (h : Go Z a0 n0 M R Q pc' (s0 :: s1 :: s2 :: s3 :: s4 :: s5 :: s6 :: s7 :: s8 :: s9 :: s10 :: s11 :: s12 :: .val (.int v) :: B) st H ce sl) : Go Z a0 n0 M R Q pc (s0 :: s1 :: s2 :: s3 :: s4 :: s5 :: s6 :: s7 :: s8 :: s9 :: s10 :: s11 :: s12 :: .val (.int x) :: B) st H ce sl := go_iincG (A := [s0, s1, s2, s3, s4, s5, s6, s7, s8, s9, s10, s11, s12]) rfl hd hv h
theorem go_istore14 {s0 s1 s2 s3 s4 s5 s6 s7 s8 s9 s10 s11 s12 s13 o : Slot} {B : List Slot} {x : Int32} (hd : Ins M pc (.istore 14) 2 pc') (ho : One o) (h : Go Z a0 n0 M R Q pc' (s0 :: s1 :: s2 :: s3 :: s4 :: s5 :: s6 :: s7 :: s8 :: s9 :: s10 :: s11 :: s12 :: s13 :: .val (.int x) :: B) st H ce sl) : Go Z a0 n0 M R Q pc (s0 :: s1 :: s2 :: s3 :: s4 :: s5 :: s6 :: s7 :: s8 :: s9 :: s10 :: s11 :: s12 :: s13 :: o :: B) (.int x :: st) H ce sl := go_istoreG (A := [s0, s1, s2, s3, s4, s5, s6, s7, s8, s9, s10, s11, s12, s13]) rfl ho hd h
theorem go_astore14 {s0 s1 s2 s3 s4 s5 s6 s7 s8 s9 s10 s11 s12 s13 o : Slot} {B : List Slot} {x : Addr} (hd : Ins M pc (.astore 14) 2 pc') (ho : One o) (h : Go Z a0 n0 M R Q pc' (s0 :: s1 :: s2 :: s3 :: s4 :: s5 :: s6 :: s7 :: s8 :: s9 :: s10 :: s11 :: s12 :: s13 :: .val (.ref x) :: B) st H ce sl) : Go Z a0 n0 M R Q pc (s0 :: s1 :: s2 :: s3 :: s4 :: s5 :: s6 :: s7 :: s8 :: s9 :: s10 :: s11 :: s12 :: s13 :: o :: B) (.ref x :: st) H ce sl := go_astoreG (A := [s0, s1, s2, s3, s4, s5, s6, s7, s8, s9, s10, s11, s12, s13]) rfl ho hd h
theorem go_lstore14 {s0 s1 s2 s3 s4 s5 s6 s7 s8 s9 s10 s11 s12 s13 o o' : Slot} {B : List Slot} {x : Int64} (hd : Ins M pc (.lstore 14) 2 pc') (ho : (One o ∧ One o') ∨ ∃ y : Int64, o = .val (.long y) ∧ o' = .second) (h : Go Z a0 n0 M R Q pc' (s0 :: s1 :: s2 :: s3 :: s4 :: s5 :: s6 :: s7 :: s8 :: s9 :: s10 :: s11 :: s12 :: s13 :: .val (.long x) :: .second :: B) st H ce sl) : Go Z a0 n0 M R Q pc (s0 :: s1 :: s2 :: s3 :: s4 :: s5 :: s6 :: s7 :: s8 :: s9 :: s10 :: s11 :: s12 :: s13 :: o :: o' :: B) (.long x :: st) H ce sl := go_lstoreG (A := [s0, s1, s2, s3, s4, s5, s6, s7, s8, s9, s10, s11, s12, s13]) rfl ho hd h
theorem go_iinc14 {s0 s1 s2 s3 s4 s5 s6 s7 s8 s9 s10 s11 s12 s13 : Slot} {B : List Slot} {cst : Int} {x v : Int32} (hd : Ins M pc (.iinc 14 cst) 3 pc') (hv : x + Int32.ofInt cst = v) (h : Go Z a0 n0 M R Q pc' (s0 :: s1 :: s2 :: s3 :: s4 :: s5 :: s6 :: s7 :: s8 :: s9 :: s10 :: s11 :: s12 :: s13 :: .val (.int v) :: B) st H ce sl) : Go Z a0 n0 M R Q pc (s0 :: s1 :: s2 :: s3 :: s4 :: s5 :: s6 :: s7 :: s8 :: s9 :: s10 :: s11 :: s12 :: s13 :: .val (.int x) :: B) st H ce sl := go_iincG (A := [s0, s1, s2, s3, s4, s5, s6, s7, s8, s9, s10, s11, s12, s13]) rfl hd hv h
theorem go_istore15 {s0 s1 s2 s3 s4 s5 s6 s7 s8 s9 s10 s11 s12 s13 s14 o : Slot} {B : List Slot} {x : Int32} (hd : Ins M pc (.istore 15) 2 pc') (ho : One o) (h : Go Z a0 n0 M R Q pc' (s0 :: s1 :: s2 :: s3 :: s4 :: s5 :: s6 :: s7 :: s8 :: s9 :: s10 :: s11 :: s12 :: s13 :: s14 :: .val (.int x) :: B) st H ce sl) : Go Z a0 n0 M R Q pc (s0 :: s1 :: s2 :: s3 :: s4 :: s5 :: s6 :: s7 :: s8 :: s9 :: s10 :: s11 :: s12 :: s13 :: s14 :: o :: B) (.int x :: st) H ce sl := go_istoreG (A := [s0, s1, s2, s3, s4, s5, s6, s7, s8, s9, s10, s11, s12, s13, s14]) rfl ho hd h
theorem go_astore15 {s0 s1 s2 s3 s4 s5 s6 s7 s8 s9 s10 s11 s12 s13 s14 o : Slot} {B : List Slot} {x : Addr} (hd : Ins M pc (.astore 15) 2 pc') (ho : One o) (h : Go Z a0 n0 M R Q pc' (s0 :: s1 :: s2 :: s3 :: s4 :: s5 :: s6 :: s7 :: s8 :: s9 :: s10 :: s11 :: s12 :: s13 :: s14 :: .val (.ref x) :: B) st H ce sl) : Go Z a0 n0 M R Q pc (s0 :: s1 :: s2 :: s3 :: s4 :: s5 :: s6 :: s7 :: s8 :: s9 :: s10 :: s11 :: s12 :: s13 :: s14 :: o :: B) (.ref x :: st) H ce sl := go_astoreG (A := [s0, s1, s2, s3, s4, s5, s6, s7, s8, s9, s10, s11, s12, s13, s14]) rfl ho hd h
theorem go_lstore15 {s0 s1 s2 s3 s4 s5 s6 s7 s8 s9 s10 s11 s12 s13 s14 o o' : Slot} {B : List Slot} {x : Int64} (hd : Ins M pc (.lstore 15) 2 pc') (ho : (One o ∧ One o') ∨ ∃ y : Int64, o = .val (.long y) ∧ o' = .second) (h : Go Z a0 n0 M R Q pc' (s0 :: s1 :: s2 :: s3 :: s4 :: s5 :: s6 :: s7 :: s8 :: s9 :: s10 :: s11 :: s12 :: s13 :: s14 :: .val (.long x) :: .second :: B) st H ce sl) : Go Z a0 n0 M R Q pc (s0 :: s1 :: s2 :: s3 :: s4 :: s5 :: s6 :: s7 :: s8 :: s9 :: s10 :: s11 :: s12 :: s13 :: s14 :: o :: o' :: B) (.long x :: st) H ce sl := go_lstoreG (A := [s0, s1, s2, s3, s4, s5, s6, s7, s8, s9, s10, s11, s12, s13, s14]) rfl ho hd h
theorem go_iinc15 {s0 s1 s2 s3 s4 s5 s6 s7 s8 s9 s10 s11 s12 s13 s14 : Slot} {B : List Slot} {cst : Int} {x v : Int32} (hd : Ins M pc (.iinc 15 cst) 3 pc') (hv : x + Int32.ofInt cst = v) (h : Go Z a0 n0 M R Q pc' (s0 :: s1 :: s2 :: s3 :: s4 :: s5 :: s6 :: s7 :: s8 :: s9 :: s10 :: s11 :: s12 :: s13 :: s14 :: .val (.int v) :: B) st H ce sl) : Go Z a0 n0 M R Q pc (s0 :: s1 :: s2 :: s3 :: s4 :: s5 :: s6 :: s7 :: s8 :: s9 :: s10 :: s11 :: s12 :: s13 :: s14 :: .val (.int x) :: B) st H ce sl := go_iincG (A := [s0, s1, s2, s3, s4, s5, s6, s7, s8, s9, s10, s11, s12, s13, s14]) rfl hd hv h
theorem go_istore16 {s0 s1 s2 s3 s4 s5 s6 s7 s8 s9 s10 s11 s12 s13 s14 s15 o : Slot} {B : List Slot} {x : Int32} (hd : Ins M pc (.istore 16) 2 pc') (ho : One o) (h : Go Z a0 n0 M R Q pc' (s0 :: s1 :: s2 :: s3 :: s4 :: s5 :: s6 :: s7 :: s8 :: s9 :: s10 :: s11 :: s12 :: s13 :: s14 :: s15 :: .val (.int x) :: B) st H ce sl) : Go Z a0 n0 M R Q pc (s0 :: s1 :: s2 :: s3 :: s4 :: s5 :: s6 :: s7 :: s8 :: s9 :: s10 :: s11 :: s12 :: s13 :: s14 :: s15 :: o :: B) (.int x :: st) H ce sl := go_istoreG (A := [s0, s1, s2, s3, s4, s5, s6, s7, s8, s9, s10, s11, s12, s13, s14, s15]) rfl ho hd h
theorem go_astore16 {s0 s1 s2 s3 s4 s5 s6 s7 s8 s9 s10 s11 s12 s13 s14 s15 o : Slot} {B : List Slot} {x : Addr} (hd : Ins M pc (.astore 16) 2 pc') (ho : One o) (h : Go Z a0 n0 M R Q pc' (s0 :: s1 :: s2 :: s3 :: s4 :: s5 :: s6 :: s7 :: s8 :: s9 :: s10 :: s11 :: s12 :: s13 :: s14 :: s15 :: .val (.ref x) :: B) st H ce sl) : Go Z a0 n0 M R Q pc (s0 :: s1 :: s2 :: s3 :: s4 :: s5 :: s6 :: s7 :: s8 :: s9 :: s10 :: s11 :: s12 :: s13 :: s14 :: s15 :: o :: B) (.ref x :: st) H ce sl := go_astoreG (A := [s0, s1, s2, s3, s4, s5, s6, s7, s8, s9, s10, s11, s12, s13, s14, s15]) rfl ho hd h
theorem go_lstore16 {s0 s1 s2 s3 s4 s5 s6 s7 s8 s9 s10 s11 s12 s13 s14 s15 o o' : Slot} {B : List Slot} {x : Int64} (hd : Ins M pc (.lstore 16) 2 pc') (ho : (One o ∧ One o') ∨ ∃ y : Int64, o = .val (.long y) ∧ o' = .second) (h : Go Z a0 n0 M R Q pc' (s0 :: s1 :: s2 :: s3 :: s4 :: s5 :: s6 :: s7 :: s8 :: s9 :: s10 :: s11 :: s12 :: s13 :: s14 :: s15 :: .val (.long x) :: .second :: B) st H ce sl) : Go Z a0 n0 M R Q pc (s0 :: s1 :: s2 :: s3 :: s4 :: s5 :: s6 :: s7 :: s8 :: s9 :: s10 :: s11 :: s12 :: s13 :: s14 :: s15 :: o :: o' :: B) (.long x :: st) H ce sl := go_lstoreG (A := [s0, s1, s2, s3, s4, s5, s6, s7, s8, s9, s10, s11, s12, s13, s14, s15]) rfl ho hd h
theorem go_iinc16 {s0 s1 s2 s3 s4 s5 s6 s7 s8 s9 s10 s11 s12 s13 s14 s15 : Slot} {B : List Slot} {cst : Int} {x v : Int32} (hd : Ins M pc (.iinc 16 cst) 3 pc') (hv : x + Int32.ofInt cst = v) (h : Go Z a0 n0 M R Q pc' (s0 :: s1 :: s2 :: s3 :: s4 :: s5 :: s6 :: s7 :: s8 :: s9 :: s10 :: s11 :: s12 :: s13 :: s14 :: s15 :: .val (.int v) :: B) st H ce sl) : Go Z a0 n0 M R Q pc (s0 :: s1 :: s2 :: s3 :: s4 :: s5 :: s6 :: s7 :: s8 :: s9 :: s10 :: s11 :: s12 :: s13 :: s14 :: s15 :: .val (.int x) :: B) st H ce sl := go_iincG (A := [s0, s1, s2, s3, s4, s5, s6, s7, s8, s9, s10, s11, s12, s13, s14, s15]) rfl hd hv h
theorem go_istore17 {s0 s1 s2 s3 s4 s5 s6 s7 s8 s9 s10 s11 s12 s13 s14 s15 s16 o : Slot} {B : List Slot} {x : Int32} (hd : Ins M pc (.istore 17) 2 pc') (ho : One o) (h : Go Z a0 n0 M R Q pc' (s0 :: s1 :: s2 :: s3 :: s4 :: s5 :: s6 :: s7 :: s8 :: s9 :: s10 :: s11 :: s12 :: s13 :: s14 :: s15 :: s16 :: .val (.int x) :: B) st H ce sl) : Go Z a0 n0 M R Q pc (s0 :: s1 :: s2 :: s3 :: s4 :: s5 :: s6 :: s7 :: s8 :: s9 :: s10 :: s11 :: s12 :: s13 :: s14 :: s15 :: s16 :: o :: B) (.int x :: st) H ce sl := go_istoreG (A := [s0, s1, s2, s3, s4, s5, s6, s7, s8, s9, s10, s11, s12, s13, s14, s15, s16]) rfl ho hd h
theorem go_astore17 {s0 s1 s2 s3 s4 s5 s6 s7 s8 s9 s10 s11 s12 s13 s14 s15 s16 o : Slot} {B : List Slot} {x : Addr} (hd : Ins M pc (.astore 17) 2 pc') (ho : One o) (h : Go Z a0 n0 M R Q pc' (s0 :: s1 :: s2 :: s3 :: s4 :: s5 :: s6 :: s7 :: s8 :: s9 :: s10 :: s11 :: s12 :: s13 :: s14 :: s15 :: s16 :: .val (.ref x) :: B) st H ce sl) : Go Z a0 n0 M R Q pc (s0 :: s1 :: s2 :: s3 :: s4 :: s5 :: s6 :: s7 :: s8 :: s9 :: s10 :: s11 :: s12 :: s13 :: s14 :: s15 :: s16 :: o :: B) (.ref x :: st) H ce sl := go_astoreG (A := [s0, s1, s2, s3, s4, s5, s6, s7, s8, s9, s10, s11, s12, s13, s14, s15, s16]) rfl ho hd h
theorem go_lstore17 {s0 s1 s2 s3 s4 s5 s6 s7 s8 s9 s10 s11 s12 s13 s14 s15 s16 o o' : Slot} {B : List Slot} {x : Int64} (hd : Ins M pc (.lstore 17) 2 pc') (ho : (One o ∧ One o') ∨ ∃ y : Int64, o = .val (.long y) ∧ o' = .second) (h : Go Z a0 n0 M R Q pc' (s0 :: s1 :: s2 :: s3 :: s4 :: s5 :: s6 :: s7 :: s8 :: s9 :: s10 :: s11 :: s12 :: s13 :: s14 :: s15 :: s16 :: .val (.long x) :: .second :: B) st H ce sl) : Go Z a0 n0 M R Q pc (s0 :: s1 :: s2 :: s3 :: s4 :: s5 :: s6 :: s7 :: s8 :: s9 :: s10 :: s11 :: s12 :: s13 :: s14 :: s15 :: s16 :: o :: o' :: B) (.long x :: st) H ce sl := go_lstoreG (A := [s0, s1, s2, s3, s4, s5, s6, s7, s8, s9, s10, s11, s12, s13, s14, s15, s16]) rfl ho hd h
theorem go_iinc17 {s0 s1 s2 s3 s4 s5 s6 s7 s8 s9 s10 s11 s12 s13 s14 s15 s16 : Slot} {B : List Slot} {cst : Int} {x v : Int32} (hd : Ins M pc (.iinc 17 cst) 3 pc') (hv : x + Int32.ofInt cst = v) (h : Go Z a0 n0 M R Q pc' (s0 :: s1 :: s2 :: s3 :: s4 :: s5 :: s6 :: s7 :: s8 :: s9 :: s10 :: s11 :: s12 :: s13 :: s14 :: s15 :: s16 :: .val (.int v) :: B) st H ce sl) : Go Z a0 n0 M R Q pc (s0 :: s1 :: s2 :: s3 :: s4 :: s5 :: s6 :: s7 :: s8 :: s9 :: s10 :: s11 :: s12 :: s13 :: s14 :: s15 :: s16 :: .val (.int x) :: B) st H ce sl := go_iincG (A := [s0, s1, s2, s3, s4, s5, s6, s7, s8, s9, s10, s11, s12, s13, s14, s15, s16]) rfl hd hv h
theorem go_istore18 {s0 s1 s2 s3 s4 s5 s6 s7 s8 s9 s10 s11 s12 s13 s14 s15 s16 s17 o : Slot} {B : List Slot} {x : Int32} (hd : Ins M pc (.istore 18) 2 pc') (ho : One o) (h : Go Z a0 n0 M R Q pc' (s0 :: s1 :: s2 :: s3 :: s4 :: s5 :: s6 :: s7 :: s8 :: s9 :: s10 :: s11 :: s12 :: s13 :: s14 :: s15 :: s16 :: s17 :: .val (.int x) :: B) st H ce sl) : Go Z a0 n0 M R Q pc (s0 :: s1 :: s2 :: s3 :: s4 :: s5 :: s6 :: s7 :: s8 :: s9 :: s10 :: s11 :: s12 :: s13 :: s14 :: s15 :: s16 :: s17 :: o :: B) (.int x :: st) H ce sl := go_istoreG (A := [s0, s1, s2, s3, s4, s5, s6, s7, s8, s9, s10, s11, s12, s13, s14, s15, s16, s17]) rfl ho hd h
theorem go_astore18 {s0 s1 s2 s3 s4 s5 s6 s7 s8 s9 s10 s11 s12 s13 s14 s15 s16 s17 o : Slot} {B : List Slot} {x : Addr} (hd : Ins M pc (.astore 18) 2 pc') (ho : One o) (h : Go Z a0 n0 M R Q pc' (s0 :: s1 :: s2 :: s3 :: s4 :: s5 :: s6 :: s7 :: s8 :: s9 :: s10 :: s11 :: s12 :: s13 :: s14 :: s15 :: s16 :: s17 :: .val (.ref x) :: B) st H ce sl) : Go Z a0 n0 M R Q pc (s0 :: s1 :: s2 :: s3 :: s4 :: s5 :: s6 :: s7 :: s8 :: s9 :: s10 :: s11 :: s12 :: s13 :: s14 :: s15 :: s16 :: s17 :: o :: B) (.ref x :: st) H ce sl := go_astoreG (A := [s0, s1, s2, s3, s4, s5, s6, s7, s8, s9, s10, s11, s12, s13, s14, s15, s16, s17]) rfl ho hd h
theorem go_lstore18 {s0 s1 s2 s3 s4 s5 s6 s7 s8 s9 s10 s11 s12 s13 s14 s15 s16 s17 o o' : Slot} {B : List Slot} {x : Int64} (hd : Ins M pc (.lstore 18) 2 pc') (ho : (One o ∧ One o') ∨ ∃ y : Int64, o = .val (.long y) ∧ o' = .second) (h : Go Z a0 n0 M R Q pc' (s0 :: s1 :: s2 :: s3 :: s4 :: s5 :: s6 :: s7 :: s8 :: s9 :: s10 :: s11 :: s12 :: s13 :: s14 :: s15 :: s16 :: s17 :: .val (.long x) :: .second :: B) st H ce sl) : Go Z a0 n0 M R Q pc (s0 :: s1 :: s2 :: s3 :: s4 :: s5 :: s6 :: s7 :: s8 :: s9 :: s10 :: s11 :: s12 :: s13 :: s14 :: s15 :: s16 :: s17 :: o :: o' :: B) (.long x :: st) H ce sl := go_lstoreG (A := [s0, s1, s2, s3, s4, s5, s6, s7, s8, s9, s10, s11, s12, s13, s14, s15, s16, s17]) rfl ho hd h
theorem go_iinc18 {s0 s1 s2 s3 s4 s5 s6 s7 s8 s9 s10 s11 s12 s13 s14 s15 s16 s17 : Slot} {B : List Slot} {cst : Int} {x v : Int32} (hd : Ins M pc (.iinc 18 cst) 3 pc') (hv : x + Int32.ofInt cst = v) (h : Go Z a0 n0 M R Q pc' (s0 :: s1 :: s2 :: s3 :: s4 :: s5 :: s6 :: s7 :: s8 :: s9 :: s10 :: s11 :: s12 :: s13 :: s14 :: s15 :: s16 :: s17 :: .val (.int v) :: B) st H ce sl) : Go Z a0 n0 M R Q pc (s0 :: s1 :: s2 :: s3 :: s4 :: s5 :: s6 :: s7 :: s8 :: s9 :: s10 :: s11 :: s12 :: s13 :: s14 :: s15 :: s16 :: s17 :: .val (.int x) :: B) st H ce sl := go_iincG (A := [s0, s1, s2, s3, s4, s5, s6, s7, s8, s9, s10, s11, s12, s13, s14, s15, s16, s17]) rfl hd hv h
theorem go_istore19 {s0 s1 s2 s3 s4 s5 s6 s7 s8 s9 s10 s11 s12 s13 s14 s15 s16 s17 s18 o : Slot} {B : List Slot} {x : Int32} (hd : Ins M pc (.istore 19) 2 pc') (ho : One o) (h : Go Z a0 n0 M R Q pc' (s0 :: s1 :: s2 :: s3 :: s4 :: s5 :: s6 :: s7 :: s8 :: s9 :: s10 :: s11 :: s12 :: s13 :: s14 :: s15 :: s16 :: s17 :: s18 :: .val (.int x) :: B) st H ce sl) : Go Z a0 n0 M R Q pc (s0 :: s1 :: s2 :: s3 :: s4 :: s5 :: s6 :: s7 :: s8 :: s9 :: s10 :: s11 :: s12 :: s13 :: s14 :: s15 :: s16 :: s17 :: s18 :: o :: B) (.int x :: st) H ce sl := go_istoreG (A := [s0, s1, s2, s3, s4, s5, s6, s7, s8, s9, s10, s11, s12, s13, s14, s15, s16, s17, s18]) rfl ho hd h
theorem go_astore19 {s0 s1 s2 s3 s4 s5 s6 s7 s8 s9 s10 s11 s12 s13 s14 s15 s16 s17 s18 o : Slot} {B : List Slot} {x : Addr} (hd : Ins M pc (.astore 19) 2 pc') (ho : One o) (h : Go Z a0 n0 M R Q pc' (s0 :: s1 :: s2 :: s3 :: s4 :: s5 :: s6 :: s7 :: s8 :: s9 :: s10 :: s11 :: s12 :: s13 :: s14 :: s15 :: s16 :: s17 :: s18 :: .val (.ref x) :: B) st H ce sl) : Go Z a0 n0 M R Q pc (s0 :: s1 :: s2 :: s3 :: s4 :: s5 :: s6 :: s7 :: s8 :: s9 :: s10 :: s11 :: s12 :: s13 :: s14 :: s15 :: s16 :: s17 :: s18 :: o :: B) (.ref x :: st) H ce sl := go_astoreG (A := [s0, s1, s2, s3, s4, s5, s6, s7, s8, s9, s10, s11, s12, s13, s14, s15, s16, s17, s18]) rfl ho hd h
theorem go_lstore19 {s0 s1 s2 s3 s4 s5 s6 s7 s8 s9 s10 s11 s12 s13 s14 s15 s16 s17 s18 o o' : Slot} {B : List Slot} {x : Int64} (hd : Ins M pc (.lstore 19) 2 pc') (ho : (One o ∧ One o') ∨ ∃ y : Int64, o = .val (.long y) ∧ o' = .second) (h : Go Z a0 n0 M R Q pc' (s0 :: s1 :: s2 :: s3 :: s4 :: s5 :: s6 :: s7 :: s8 :: s9 :: s10 :: s11 :: s12 :: s13 :: s14 :: s15 :: s16 :: s17 :: s18 :: .val (.long x) :: .second :: B) st H ce sl) : Go Z a0 n0 M R Q pc (s0 :: s1 :: s2 :: s3 :: s4 :: s5 :: s6 :: s7 :: s8 :: s9 :: s10 :: s11 :: s12 :: s13 :: s14 :: s15 :: s16 :: s17 :: s18 :: o :: o' :: B) (.long x :: st) H ce sl := go_lstoreG (A := [s0, s1, s2, s3, s4, s5, s6, s7, s8, s9, s10, s11, s12, s13, s14, s15, s16, s17, s18]) rfl ho hd h
theorem go_iinc19 {s0 s1 s2 s3 s4 s5 s6 s7 s8 s9 s10 s11 s12 s13 s14 s15 s16 s17 s18 : Slot} {B : List Slot} {cst : Int} {x v : Int32} (hd : Ins M pc (.iinc 19 cst) 3 pc') (hv : x + Int32.ofInt cst = v) (h : Go Z a0 n0 M R Q pc' (s0 :: s1 :: s2 :: s3 :: s4 :: s5 :: s6 :: s7 :: s8 :: s9 :: s10 :: s11 :: s12 :: s13 :: s14 :: s15 :: s16 :: s17 :: s18 :: .val (.int v) :: B) st H ce sl) : Go Z a0 n0 M R Q pc (s0 :: s1 :: s2 :: s3 :: s4 :: s5 :: s6 :: s7 :: s8 :: s9 :: s10 :: s11 :: s12 :: s13 :: s14 :: s15 :: s16 :: s17 :: s18 :: .val (.int x) :: B) st H ce sl := go_iincG (A := [s0, s1, s2, s3, s4, s5, s6, s7, s8, s9, s10, s11, s12, s13, s14, s15, s16, s17, s18]) rfl hd hv h
theorem go_istore20 {s0 s1 s2 s3 s4 s5 s6 s7 s8 s9 s10 s11 s12 s13 s14 s15 s16 s17 s18 s19 o : Slot} {B : List Slot} {x : Int32} (hd : Ins M pc (.istore 20) 2 pc') (ho : One o) (h : Go Z a0 n0 M R Q pc' (s0 :: s1 :: s2 :: s3 :: s4 :: s5 :: s6 :: s7 :: s8 :: s9 :: s10 :: s11 :: s12 :: s13 :: s14 :: s15 :: s16 :: s17 :: s18 :: s19 :: .val (.int x) :: B) st H ce sl) : Go Z a0 n0 M R Q pc (s0 :: s1 :: s2 :: s3 :: s4 :: s5 :: s6 :: s7 :: s8 :: s9 :: s10 :: s11 :: s12 :: s13 :: s14 :: s15 :: s16 :: s17 :: s18 :: s19 :: o :: B) (.int x :: st) H ce sl := go_istoreG (A := [s0, s1, s2, s3, s4, s5, s6, s7, s8, s9, s10, s11, s12, s13, s14, s15, s16, s17, s18, s19]) rfl ho hd h
theorem go_astore20 {s0 s1 s2 s3 s4 s5 s6 s7 s8 s9 s10 s11 s12 s13 s14 s15 s16 s17 s18 s19 o : Slot} {B : List Slot} {x : Addr} (hd : Ins M pc (.astore 20) 2 pc') (ho : One o) (h : Go Z a0 n0 M R Q pc' (s0 :: s1 :: s2 :: s3 :: s4 :: s5 :: s6 :: s7 :: s8 :: s9 :: s10 :: s11 :: s12 :: s13 :: s14 :: s15 :: s16 :: s17 :: s18 :: s19 :: .val (.ref x) :: B) st H ce sl) : Go Z a0 n0 M R Q pc (s0 :: s1 :: s2 :: s3 :: s4 :: s5 :: s6 :: s7 :: s8 :: s9 :: s10 :: s11 :: s12 :: s13 :: s14 :: s15 :: s16 :: s17 :: s18 :: s19 :: o :: B) (.ref x :: st) H ce sl := go_astoreG (A := [s0, s1, s2, s3, s4, s5, s6, s7, s8, s9, s10, s11, s12, s13, s14, s15, s16, s17, s18, s19]) rfl ho hd h
theorem go_lstore20 {s0 s1 s2 s3 s4 s5 s6 s7 s8 s9 s10 s11 s12 s13 s14 s15 s16 s17 s18 s19 o o' : Slot} {B : List Slot} {x : Int64} (hd : Ins M pc (.lstore 20) 2 pc') (ho : (One o ∧ One o') ∨ ∃ y : Int64, o = .val (.long y) ∧ o' = .second) (h : Go Z a0 n0 M R Q pc' (s0 :: s1 :: s2 :: s3 :: s4 :: s5 :: s6 :: s7 :: s8 :: s9 :: s10 :: s11 :: s12 :: s13 :: s14 :: s15 :: s16 :: s17 :: s18 :: s19 :: .val (.long x) :: .second :: B) st H ce sl) : Go Z a0 n0 M R Q pc (s0 :: s1 :: s2 :: s3 :: s4 :: s5 :: s6 :: s7 :: s8 :: s9 :: s10 :: s11 :: s12 :: s13 :: s14 :: s15 :: s16 :: s17 :: s18 :: s19 :: o :: o' :: B) (.long x :: st) H ce sl := go_lstoreG (A := [s0, s1, s2, s3, s4, s5, s6, s7, s8, s9, s10, s11, s12, s13, s14, s15, s16, s17, s18, s19]) rfl ho hd h
theorem go_iinc20 {s0 s1 s2 s3 s4 s5 s6 s7 s8 s9 s10 s11 s12 s13 s14 s15 s16 s17 s18 s19 : Slot} {B : List Slot} {cst : Int} {x v : Int32} (hd : Ins M pc (.iinc 20 cst) 3 pc') (hv : x + Int32.ofInt cst = v) (h : Go Z a0 n0 M R Q pc' (s0 :: s1 :: s2 :: s3 :: s4 :: s5 :: s6 :: s7 :: s8 :: s9 :: s10 :: s11 :: s12 :: s13 :: s14 :: s15 :: s16 :: s17 :: s18 :: s19 :: .val (.int v) :: B) st H ce sl) : Go Z a0 n0 M R Q pc (s0 :: s1 :: s2 :: s3 :: s4 :: s5 :: s6 :: s7 :: s8 :: s9 :: s10 :: s11 :: s12 :: s13 :: s14 :: s15 :: s16 :: s17 :: s18 :: s19 :: .val (.int x) :: B) st H ce sl := go_iincG (A := [s0, s1, s2, s3, s4, s5, s6, s7, s8, s9, s10, s11, s12, s13, s14, s15, s16, s17, s18, s19]) rfl hd hv h
end Rules
section Heap
variable {Z : State} {a0 : Array Value} {n0 : Nat} {M : GM} {R : Room} {Q : Option Value → List GObj → Prop} {pc pc' : Nat} {L : List Slot} {st : List Value} {H : List GObj} {ce sl : Nat}
theorem idx_of {j : Int32} {i : Nat} (h : j.toInt = (i : Int)) : ¬ j < 0 ∧ j.toNatClampNeg = i := by
  constructor
  · rw [Int32.lt_iff_toInt_lt]; simp only [Int32.reduceToInt]; omega
  · simp only [Int32.toNatClampNeg]; omega
theorem idx_in' {j : Int32} {i : Nat} {c : Cell} {vs : List Value} {v : Value} (h : j.toInt = (i : Int)) (hc : c.slots = vs.toArray) (hv : vs[i]? = some v) : ¬ (j < 0 ∨ c.slots.size ≤ j.toNatClampNeg) ∧ c.slots[j.toNatClampNeg]? = some v := by
  obtain ⟨h1, h2⟩ := idx_of h
  have := (List.getElem?_eq_some_iff.mp hv).1
  refine ⟨?_, by rw [h2, hc]; simpa using hv⟩
  rintro (q | q)
  · exact h1 q
  · rw [hc, h2] at q; simp at q; omega
theorem go_getfield {idx k : Nat} {K : GLay} {vs : List Value} {O n d : String} {ty : FieldType} {v : Value} (i : Nat) (hd : Ins M pc (.getfield idx) 3 pc') (w : (Jvm.Cond.fieldLink M.1.cls idx O n d).before a0 Z = true) (hH : H[k]? = some (.inl (K, vs))) (hK : K.2[i]? = some (O, n, d, ty)) (hv : vs[i]? = some v)
    (h : Go Z a0 n0 M R Q pc' L (v :: st) H ce sl) : Go Z a0 n0 M R Q pc L (.ref (n0 + k) :: st) H ce sl := by
  obtain ⟨hd, rfl⟩ := hd
  intro p l e s m args below meth c T locs X C S E F
  obtain ⟨hx, hZ, hby, hml, hret, hlk, hown, hnm⟩ := id C
  have F0 := (S.2.2.2 k _ hH).2.2 i _ _ hK hv
  obtain ⟨T', X', e', st'⟩ := getF X hx hZ hown (host := "") (Or.inl w) Via.refl rfl F0 (g := mkF m pc L.toArray (.ref (n0 + k) :: st)) rfl rfl (hb hby hd)
  exact (h p l e s m args below meth c T' locs X' C (by rw [e']; exact S) E F).back st'
theorem nodup_ne {K : GLay} (h : (K.2.map fun q => q.2.1).Nodup) {i j : Nat} {q q' : String × String × String × FieldType} (hi : K.2[i]? = some q) (hj : K.2[j]? = some q') (ne : i ≠ j) : q.2.1 ≠ q'.2.1 := fun e => by
  obtain ⟨h1, e1⟩ := List.getElem?_eq_some_iff.mp hi
  obtain ⟨h2, e2⟩ := List.getElem?_eq_some_iff.mp hj
  refine ne ((List.getElem_inj (xs := K.2.map fun q => q.2.1) (h₀ := by simpa using h1) (h₁ := by simpa using h2) h).mp ?_)
  simpa [e1, e2] using e
theorem go_putfield {idx k : Nat} {K : GLay} {vs : List Value} {O n d : String} {ty : FieldType} {v : Value} (i : Nat) (hd : Ins M pc (.putfield idx) 3 pc') (w : (Jvm.Cond.fieldLink M.1.cls idx O n d).before a0 Z = true) (hH : H[k]? = some (.inl (K, vs))) (hK : K.2[i]? = some (O, n, d, ty)) (hi : (vs[i]?).isSome = true)
    (hL : (Jvm.Cond.lays K.1 O n d).before a0 Z = true ∨ ((Jvm.Cond.laysFinal K.1 O n d).before a0 Z = true ∧ M.1.cls = O ∧ M.1.name = "<init>")) (hn : narrow ty v = v) (hf : fits ty v = true)
    (h : Go Z a0 n0 M R Q pc' L st (H.set k (.inl (K, vs.set i v))) ce sl) : Go Z a0 n0 M R Q pc L (v :: .ref (n0 + k) :: st) H ce sl := by
  obtain ⟨hd, rfl⟩ := hd
  intro p l e s m args below meth c T locs X C S E F
  obtain ⟨hx, hZ, hby, hml, hret, hlk, hown, hnm⟩ := id C
  obtain ⟨LO, EX, FS⟩ := S.2.2.2 k _ hH
  obtain ⟨old, hold⟩ := Option.isSome_iff_exists.mp hi
  have F0 := FS i _ _ hK hold
  obtain ⟨⟨kk, wi⟩, LA, ND⟩ := LO
  have hmem := List.mem_of_getElem? hK
  obtain ⟨T', h', X', e', W, st'⟩ := putF X hx hZ hown (host := "") (Or.inl w) Via.refl rfl F0 EX (hL.imp id fun q => ⟨q.1, q.2.1, hnm.trans q.2.2⟩) wi (LA _ hmem).2 hn hf (g := mkF m pc L.toArray (v :: .ref (n0 + k) :: st)) rfl rfl (hb hby hd)
  have OB : Ob Z a0 h' (n0 + k) (.inl (K, vs.set i v)) := by
    refine ⟨⟨⟨kk, wi⟩, LA, ND⟩, EX.wr W, fun j q u hq hu => ?_⟩
    by_cases ne : j = i
    · subst ne
      cases hK.symm.trans hq
      have : u = v := by
        have hlt := (List.getElem?_eq_some_iff.mp hold).1
        simpa [List.getElem?_set_self hlt] using hu.symm
      subst this
      exact F0.same W
    · rw [List.getElem?_set_ne (Ne.symm ne)] at hu
      exact (FS j q u hq hu).other W (Or.inr (slot_ne (LA _ (List.mem_of_getElem? hq)).1 (LA _ hmem).1 (nodup_ne ND hq hK ne) (LA _ (List.mem_of_getElem? hq)).2 (LA _ hmem).2))
  have S' : Sat Z a0 n0 T'.heap (H.set k (.inl (K, vs.set i v))) := by rw [e']; exact S.put W OB
  exact (h p l e s m args below meth c T' _ X' C S' (by simpa using E) (Fr.snoc X' F (Nat.le_add_right _ _))).back st'
theorem size_one {p : Program} {l : Launch} {e : Env} {s : State} {m : MethodId} {args : Array Value} {below : List Frame} {meth : Method} {c : Code} {T T' : State} {locs : List Loc} {h' : Heap} {sl' : Nat} (X' : Stand p l e R s m args below meth c T' locs (ce + 1) sl') (e' : T'.heap = h') (S : Sat Z a0 n0 T.heap H) (E : s.heap.size + ce = n0 + H.length) {cell : Cell} (hc : h'[T.heap.size]? = some cell) : h'.size = T.heap.size + 1 := by
  have h1 := X'.heapSize
  have h2 := (Array.getElem?_eq_some_iff.mp hc).1
  have h3 := S.2.2.1
  rw [e'] at h1
  omega
theorem go_new {idx n : Nat} (K : GLay) {vs : List Value} (hd : Ins M pc (.new idx) 3 pc') (w : (Jvm.Cond.classLink M.1.cls idx K.1).before a0 Z = true) (wi : (Jvm.Cond.instantiable K.1 n).before a0 Z = true) (wz : (Jvm.Cond.initialized K.1).before a0 Z = true) (hK : LayOk Z a0 K) (hvs : K.2.map (fun q => defaultValue q.2.2.2) = vs) {k : Nat} (hk : H.length = k) (hc : ce + 1 ≤ R.cells) (hs : sl + n ≤ R.slots)
    (h : Go Z a0 n0 M R Q pc' L (.ref (n0 + k) :: st) (H ++ [.inl (K, vs)]) (ce + 1) (sl + n)) : Go Z a0 n0 M R Q pc L st H ce sl := by
  obtain ⟨hd, rfl⟩ := hd
  subst hk
  intro p l e s m args below meth c T locs X C S E F
  obtain ⟨hx, hZ, hby, hml, hret, hlk, hown, hnm⟩ := id C
  obtain ⟨T', h', X', e', EX, A, D, ⟨cell, hcell, -⟩, st'⟩ := newO X hx hZ hown w wi wz rfl (g := mkF m pc L.toArray st) rfl (hb hby hd) hc hs
  have hsz := size_one X' e' S E hcell
  have OB : Ob Z a0 h' T.heap.size (.inl (K, vs)) := by
    refine ⟨hK, A, fun i q v hq hv => ?_⟩
    subst hvs
    rw [List.getElem?_map, hq] at hv
    cases hv
    obtain ⟨h1, h2⟩ := hK.2.1 q (List.mem_of_getElem? hq)
    exact D h1 h2
  have S' : Sat Z a0 n0 T'.heap (H ++ [.inl (K, vs)]) := by rw [e']; exact S.push EX hsz OB
  refine (h p l e s m args below meth c T' _ X' C S' (by simp; omega) F).back ?_
  rw [← S.2.2.1]; exact st'
theorem go_newarray {aty : ArrayType} {ty : FieldType} {n : Int32} {vs : List Value} (cap : Nat) (hd : Ins M pc (.newarray aty) 2 pc') (hty : newarray.typeOf aty = ty) (w : (Jvm.Cond.arrayClass ty).before a0 Z = true) (hn : ¬ n < 0) (hvs : List.replicate n.toNatClampNeg (defaultValue ty) = vs) (hcap : n.toNatClampNeg ≤ cap) (hbb : cap * 8 ≤ 536870912) {k : Nat} (hk : H.length = k) (hc : ce + 1 ≤ R.cells) (hs : sl + cap ≤ R.slots)
    (h : Go Z a0 n0 M R Q pc' L (.ref (n0 + k) :: st) (H ++ [.inr (ty, vs)]) (ce + 1) (sl + cap)) : Go Z a0 n0 M R Q pc L (.int n :: st) H ce sl := by
  obtain ⟨hd, rfl⟩ := hd
  subst hk hty hvs
  intro p l e s m args below meth c T locs X C S E F
  obtain ⟨hx, hZ, hby, hml, hret, hlk, hown, hnm⟩ := id C
  obtain ⟨T', h', cA, X', e', EX, A, EA, st'⟩ := newPE X hx hZ w rfl (g := mkF m pc L.toArray (.int n :: st)) rfl (hb hby hd) rfl hn hcap hbb hc hs rfl
  have hsz := size_one X' e' S E A.1
  have OB : Ob Z a0 h' T.heap.size (.inr (newarray.typeOf aty, List.replicate n.toNatClampNeg (defaultValue (newarray.typeOf aty)))) := by
    refine ⟨_, A, by simp [newA], fun v hv => ?_, EA, fun C hC => ?_⟩
    · obtain rfl := (List.mem_replicate.mp hv).2
      cases aty <;> rfl
    · cases aty <;> cases hC
  have S' := S.push EX hsz OB
  rw [← e'] at S'
  refine (h p l e s m args below meth c T' _ X' C S' (by simp; omega) F).back ?_
  rw [← S.2.2.1]; exact st'
theorem go_anewarray {idx : Nat} {Cn : String} {n : Int32} {vs : List Value} (cap : Nat) (hd : Ins M pc (.anewarray idx) 3 pc') (w1 : (Jvm.Cond.classLink M.1.cls idx Cn).before a0 Z = true) (w : (Jvm.Cond.arrayOver (.object Cn)).before a0 Z = true) (hn : ¬ n < 0) (hvs : List.replicate n.toNatClampNeg Value.null = vs) (hcap : n.toNatClampNeg ≤ cap) (hbb : cap * 8 ≤ 536870912) {k : Nat} (hk : H.length = k) (hc : ce + 1 ≤ R.cells) (hs : sl + cap ≤ R.slots)
    (h : Go Z a0 n0 M R Q pc' L (.ref (n0 + k) :: st) (H ++ [.inr (.object Cn, vs)]) (ce + 1) (sl + cap)) : Go Z a0 n0 M R Q pc L (.int n :: st) H ce sl := by
  obtain ⟨hd, rfl⟩ := hd
  subst hk hvs
  intro p l e s m args below meth c T locs X C S E F
  obtain ⟨hx, hZ, hby, hml, hret, hlk, hown, hnm⟩ := id C
  obtain ⟨T', h', cA, X', e', EX, A, EA, OV, st'⟩ := newRE X hx hZ hown w1 w rfl (g := mkF m pc L.toArray (.int n :: st)) rfl (hb hby hd) rfl hn hcap hbb hc hs rfl
  have hsz := size_one X' e' S E A.1
  have OB : Ob Z a0 h' T.heap.size (.inr (.object Cn, List.replicate n.toNatClampNeg Value.null)) := by
    refine ⟨_, A, by simp [newA, defaultValue], fun v hv => ?_, EA, fun C hC => ?_⟩
    · obtain rfl := (List.mem_replicate.mp hv).2
      rfl
    · cases hC; exact OV
  have S' := S.push EX hsz OB
  rw [← e'] at S'
  refine (h p l e s m args below meth c T' _ X' C S' (by simp; omega) F).back ?_
  rw [← S.2.2.1]; exact st'
theorem go_arraylength {k : Nat} {ty : FieldType} {vs : List Value} {n : Int32} (hd : Ins M pc .arraylength 1 pc') (hH : H[k]? = some (.inr (ty, vs))) (hn : vs.length.toInt32 = n) (h : Go Z a0 n0 M R Q pc' L (.int n :: st) H ce sl) : Go Z a0 n0 M R Q pc L (.ref (n0 + k) :: st) H ce sl := by
  obtain ⟨hd, rfl⟩ := hd
  intro p l e s m args below meth c T locs X C S E F
  obtain ⟨hx, hZ, hby, hml, hret, hlk, hown, hnm⟩ := id C
  obtain ⟨cl, A, hs, -⟩ := S.2.2.2 k _ hH
  have hlen : cl.slots.size.toInt32 = n := by rw [hs]; simpa using hn
  refine (h p l e s m args below meth c T _ X C S E F).back fun t k' => ?_
  exact X.arraylength hx A.1 (State.isArrayOf_alike hZ.alike A.2.1) (g := mkF m pc L.toArray (.ref (n0 + k) :: st)) rfl rfl (hb hby hd) t (by rw [hlen]; exact k')
theorem go_iaload {k i : Nat} {j x : Int32} {vs : List Value} (hd : Ins M pc .iaload 1 pc') (hH : H[k]? = some (.inr (.int, vs))) (hj : j.toInt = (i : Int)) (hv : vs[i]? = some (.int x)) (h : Go Z a0 n0 M R Q pc' L (.int x :: st) H ce sl) : Go Z a0 n0 M R Q pc L (.int j :: .ref (n0 + k) :: st) H ce sl := by
  obtain ⟨hd, rfl⟩ := hd
  intro p l e s m args below meth c T locs X C S E F
  obtain ⟨hx, hZ, hby, hml, hret, hlk, hown, hnm⟩ := id C
  obtain ⟨cl, A, hs, -⟩ := S.2.2.2 k _ hH
  obtain ⟨g1, g2⟩ := idx_in' hj hs hv
  refine (h p l e s m args below meth c T _ X C S E F).back fun t k' => ?_
  exact X.iaload hx A.1 (State.isArrayOf_alike hZ.alike A.2.1) A.2.2 g1 g2 (g := mkF m pc L.toArray (.int j :: .ref (n0 + k) :: st)) rfl rfl (hb hby hd) t k'
theorem go_laload {k i : Nat} {j : Int32} {x : Int64} {vs : List Value} (hd : Ins M pc .laload 1 pc') (hH : H[k]? = some (.inr (.long, vs))) (hj : j.toInt = (i : Int)) (hv : vs[i]? = some (.long x)) (h : Go Z a0 n0 M R Q pc' L (.long x :: st) H ce sl) : Go Z a0 n0 M R Q pc L (.int j :: .ref (n0 + k) :: st) H ce sl := by
  obtain ⟨hd, rfl⟩ := hd
  intro p l e s m args below meth c T locs X C S E F
  obtain ⟨hx, hZ, hby, hml, hret, hlk, hown, hnm⟩ := id C
  obtain ⟨cl, A, hs, -⟩ := S.2.2.2 k _ hH
  obtain ⟨g1, g2⟩ := idx_in' hj hs hv
  refine (h p l e s m args below meth c T _ X C S E F).back fun t k' => ?_
  exact X.laload hx A.1 (State.isArrayOf_alike hZ.alike A.2.1) A.2.2 g1 g2 (g := mkF m pc L.toArray (.int j :: .ref (n0 + k) :: st)) rfl rfl (hb hby hd) t k'
theorem go_baload {k i : Nat} {j x : Int32} {vs : List Value} (hd : Ins M pc .baload 1 pc') (hH : H[k]? = some (.inr (.byte, vs))) (hj : j.toInt = (i : Int)) (hv : vs[i]? = some (.int x)) (h : Go Z a0 n0 M R Q pc' L (.int x :: st) H ce sl) : Go Z a0 n0 M R Q pc L (.int j :: .ref (n0 + k) :: st) H ce sl := by
  obtain ⟨hd, rfl⟩ := hd
  intro p l e s m args below meth c T locs X C S E F
  obtain ⟨hx, hZ, hby, hml, hret, hlk, hown, hnm⟩ := id C
  obtain ⟨cl, A, hs, -⟩ := S.2.2.2 k _ hH
  obtain ⟨g1, g2⟩ := idx_in' hj hs hv
  refine (h p l e s m args below meth c T _ X C S E F).back fun t k' => ?_
  exact X.baloadBytes hx A.1 (State.isArrayOf_alike hZ.alike A.2.1) A.2.2 g1 g2 (g := mkF m pc L.toArray (.int j :: .ref (n0 + k) :: st)) rfl rfl (hb hby hd) t k'
theorem go_aaload {k i : Nat} {j : Int32} {x : Value} {ty : FieldType} {vs : List Value} (hd : Ins M pc .aaload 1 pc') (hH : H[k]? = some (.inr (ty, vs))) (hty : ty.isReference = true) (hj : j.toInt = (i : Int)) (hv : vs[i]? = some x) (h : Go Z a0 n0 M R Q pc' L (x :: st) H ce sl) : Go Z a0 n0 M R Q pc L (.int j :: .ref (n0 + k) :: st) H ce sl := by
  obtain ⟨hd, rfl⟩ := hd
  intro p l e s m args below meth c T locs X C S E F
  obtain ⟨hx, hZ, hby, hml, hret, hlk, hown, hnm⟩ := id C
  obtain ⟨cl, A, hs, -⟩ := S.2.2.2 k _ hH
  obtain ⟨g1, g2⟩ := idx_in' hj hs hv
  refine (h p l e s m args below meth c T _ X C S E F).back fun t k' => ?_
  exact X.aaload hx A.1 (State.isArrayOf_alike hZ.alike A.2.1) hty A.2.2 g1 g2 (g := mkF m pc L.toArray (.int j :: .ref (n0 + k) :: st)) rfl rfl (hb hby hd) t k'
theorem ob_set {h h' : Heap} {a : Addr} {c : Cell} {ty : FieldType} {vs : List Value} {v : Value} {i : Nat} (A : Arr Z h a c ty) (hs : c.slots = vs.toArray) (hf : ∀ v ∈ vs, fits ty v = true) (EA : Exa Z h a ("[" ++ ty.toString)) (OV : ∀ C, ty = .object C → Ovr Z c.cls C) (W : Wr h h' a i v) (hv : fits ty v = true) : Ob Z a0 h' a (.inr (ty, vs.set i v)) :=
  ⟨c.setSlot i v, A.same W, by simp [Cell.setSlot, hs], fun u hu => (List.mem_or_eq_of_mem_set hu).elim (hf u) (fun q => q ▸ hv), EA.wr W, OV⟩
theorem go_iastore {k i : Nat} {j x : Int32} {vs : List Value} (hd : Ins M pc .iastore 1 pc') (hH : H[k]? = some (.inr (.int, vs))) (hj : j.toInt = (i : Int)) (hi : (vs[i]?).isSome = true) (h : Go Z a0 n0 M R Q pc' L st (H.set k (.inr (.int, vs.set i (.int x)))) ce sl) : Go Z a0 n0 M R Q pc L (.int x :: .int j :: .ref (n0 + k) :: st) H ce sl := by
  obtain ⟨hd, rfl⟩ := hd
  intro p l e s m args below meth c T locs X C S E F
  obtain ⟨hx, hZ, hby, hml, hret, hlk, hown, hnm⟩ := id C
  obtain ⟨cl, A, hs, hf, EA, OV⟩ := S.2.2.2 k _ hH
  obtain ⟨old, hold⟩ := Option.isSome_iff_exists.mp hi
  obtain ⟨g1, -⟩ := idx_in' hj hs hold
  obtain ⟨T', h', X', e', W, st'⟩ := stI X hx hZ rfl A g1 (x := x) (g := mkF m pc L.toArray (.int x :: .int j :: .ref (n0 + k) :: st)) rfl rfl (hb hby hd)
  rw [(idx_of hj).2] at W
  have S' := S.put W (ob_set (a0 := a0) A hs hf EA OV W rfl)
  rw [← e'] at S'
  exact (h p l e s m args below meth c T' _ X' C S' (by simpa using E) (Fr.snoc X' F (Nat.le_add_right _ _))).back st'
theorem go_lastore {k i : Nat} {j : Int32} {x : Int64} {vs : List Value} (hd : Ins M pc .lastore 1 pc') (hH : H[k]? = some (.inr (.long, vs))) (hj : j.toInt = (i : Int)) (hi : (vs[i]?).isSome = true) (h : Go Z a0 n0 M R Q pc' L st (H.set k (.inr (.long, vs.set i (.long x)))) ce sl) : Go Z a0 n0 M R Q pc L (.long x :: .int j :: .ref (n0 + k) :: st) H ce sl := by
  obtain ⟨hd, rfl⟩ := hd
  intro p l e s m args below meth c T locs X C S E F
  obtain ⟨hx, hZ, hby, hml, hret, hlk, hown, hnm⟩ := id C
  obtain ⟨cl, A, hs, hf, EA, OV⟩ := S.2.2.2 k _ hH
  obtain ⟨old, hold⟩ := Option.isSome_iff_exists.mp hi
  obtain ⟨g1, -⟩ := idx_in' hj hs hold
  obtain ⟨T', h', X', e', W, st'⟩ := stJ X hx hZ rfl A g1 (x := x) (g := mkF m pc L.toArray (.long x :: .int j :: .ref (n0 + k) :: st)) rfl rfl (hb hby hd)
  rw [(idx_of hj).2] at W
  have S' := S.put W (ob_set (a0 := a0) A hs hf EA OV W rfl)
  rw [← e'] at S'
  exact (h p l e s m args below meth c T' _ X' C S' (by simpa using E) (Fr.snoc X' F (Nat.le_add_right _ _))).back st'
theorem go_bastore {k i : Nat} {j x : Int32} {vs : List Value} (hd : Ins M pc .bastore 1 pc') (hH : H[k]? = some (.inr (.byte, vs))) (hj : j.toInt = (i : Int)) (hi : (vs[i]?).isSome = true) (h : Go Z a0 n0 M R Q pc' L st (H.set k (.inr (.byte, vs.set i (.int x.toInt8.toInt32)))) ce sl) : Go Z a0 n0 M R Q pc L (.int x :: .int j :: .ref (n0 + k) :: st) H ce sl := by
  obtain ⟨hd, rfl⟩ := hd
  intro p l e s m args below meth c T locs X C S E F
  obtain ⟨hx, hZ, hby, hml, hret, hlk, hown, hnm⟩ := id C
  obtain ⟨cl, A, hs, hf, EA, OV⟩ := S.2.2.2 k _ hH
  obtain ⟨old, hold⟩ := Option.isSome_iff_exists.mp hi
  obtain ⟨g1, -⟩ := idx_in' hj hs hold
  obtain ⟨T', h', X', e', W, st'⟩ := stB X hx hZ rfl A g1 (x := x) (g := mkF m pc L.toArray (.int x :: .int j :: .ref (n0 + k) :: st)) rfl rfl (hb hby hd)
  rw [(idx_of hj).2] at W
  have S' := S.put W (ob_set (a0 := a0) A hs hf EA OV W (fits_nar_byte x))
  rw [← e'] at S'
  exact (h p l e s m args below meth c T' _ X' C S' (by simpa using E) (Fr.snoc X' F (Nat.le_add_right _ _))).back st'
theorem go_aastore {k k' i : Nat} {j : Int32} {Cn : String} {vs us : List Value} {K : GLay} (hd : Ins M pc .aastore 1 pc') (hH : H[k]? = some (.inr (.object Cn, vs))) (hH' : H[k']? = some (.inl (K, us))) (hC : K.1 = Cn) (hj : j.toInt = (i : Int)) (hi : (vs[i]?).isSome = true) (h : Go Z a0 n0 M R Q pc' L st (H.set k (.inr (.object Cn, vs.set i (.ref (n0 + k'))))) ce sl) : Go Z a0 n0 M R Q pc L (.ref (n0 + k') :: .int j :: .ref (n0 + k) :: st) H ce sl := by
  obtain ⟨hd, rfl⟩ := hd
  subst hC
  intro p l e s m args below meth c T locs X C S E F
  obtain ⟨hx, hZ, hby, hml, hret, hlk, hown, hnm⟩ := id C
  obtain ⟨cl, A, hs, hf, EA, OV⟩ := S.2.2.2 k _ hH
  obtain ⟨-, EX, -⟩ := S.2.2.2 k' _ hH'
  obtain ⟨old, hold⟩ := Option.isSome_iff_exists.mp hi
  obtain ⟨g1, -⟩ := idx_in' hj hs hold
  obtain ⟨T', h', X', e', W, st'⟩ := stR X hx hZ rfl A g1 rfl (Sto.of A (OV _ rfl) (Ins.self EX)) (g := mkF m pc L.toArray (.ref (n0 + k') :: .int j :: .ref (n0 + k) :: st)) rfl rfl (hb hby hd)
  rw [(idx_of hj).2] at W
  have S' := S.put W (ob_set (a0 := a0) A hs hf EA OV W rfl)
  rw [← e'] at S'
  exact (h p l e s m args below meth c T' _ X' C S' (by simpa using E) (Fr.snoc X' F (Nat.le_add_right _ _))).back st'
theorem go_ldc {idx : Nat} {v : Int32} (hd : Ins M pc (.ldc idx) 2 pc') (w : (Jvm.Cond.constant M.1.cls idx v).before a0 Z = true) (h : Go Z a0 n0 M R Q pc' L (.int v :: st) H ce sl) : Go Z a0 n0 M R Q pc L st H ce sl := by
  obtain ⟨hd, rfl⟩ := hd
  intro p l e s m args below meth c T locs X C S E F
  obtain ⟨hx, hZ, hby, hml, hret, hlk, hown, hnm⟩ := id C
  exact (h p l e s m args below meth c T _ X C S E F).back (X.ldcInt hx hown (mvT hZ w) (g := mkF m pc L.toArray st) rfl (hb hby hd))
theorem go_ldc2 {idx : Nat} {v : Int64} (hd : Ins M pc (.ldc2_w idx) 3 pc') (w : (Jvm.Cond.constantLong M.1.cls idx v).before a0 Z = true) (h : Go Z a0 n0 M R Q pc' L (.long v :: st) H ce sl) : Go Z a0 n0 M R Q pc L st H ce sl := by
  obtain ⟨hd, rfl⟩ := hd
  intro p l e s m args below meth c T locs X C S E F
  obtain ⟨hx, hZ, hby, hml, hret, hlk, hown, hnm⟩ := id C
  exact (h p l e s m args below meth c T _ X C S E F).back (X.ldc2Long hx hown (mvT hZ w) (g := mkF m pc L.toArray st) rfl (hb hby hd))
theorem go_getstatic {idx : Nat} {O n d : String} {v : Value} (hd : Ins M pc (.getstatic idx) 3 pc') (w : (Jvm.Cond.fieldLink M.1.cls idx O n d).before a0 Z = true) (hS : Sta Z Z.heap O n d v) (h : Go Z a0 n0 M R Q pc' L (v :: st) H ce sl) : Go Z a0 n0 M R Q pc L st H ce sl := by
  obtain ⟨hd, rfl⟩ := hd
  intro p l e s m args below meth c T locs X C S E F
  obtain ⟨hx, hZ, hby, hml, hret, hlk, hown, hnm⟩ := id C
  obtain ⟨T', X', e', st'⟩ := getS X hx hZ (host := "") hown w Via.refl rfl (hS.ext S.2.1) (g := mkF m pc L.toArray st) rfl (hb hby hd)
  exact (h p l e s m args below meth c T' _ X' C (by rw [e']; exact S) E F).back st'
theorem go_checkcastArr {idx k : Nat} {Kn : String} {ty : FieldType} {vs : List Value} (hd : Ins M pc (.checkcast idx) 3 pc') (w : (Jvm.Cond.classLink M.1.cls idx Kn).before a0 Z = true) (hH : H[k]? = some (.inr (ty, vs))) (hK : "[" ++ ty.toString = Kn) (h : Go Z a0 n0 M R Q pc' L (.ref (n0 + k) :: st) H ce sl) : Go Z a0 n0 M R Q pc L (.ref (n0 + k) :: st) H ce sl := by
  obtain ⟨hd, rfl⟩ := hd
  subst hK
  intro p l e s m args below meth c T locs X C S E F
  obtain ⟨hx, hZ, hby, hml, hret, hlk, hown, hnm⟩ := id C
  obtain ⟨cl, A, hs, hf, EA, OV⟩ := S.2.2.2 k _ hH
  obtain ⟨T', X', e', st'⟩ := castY X hx hZ hown w rfl (Ins.self EA) (g := mkF m pc L.toArray (.ref (n0 + k) :: st)) rfl rfl (hb hby hd)
  exact (h p l e s m args below meth c T' _ X' C (by rw [e']; exact S) E F).back st'
theorem go_initO {idx : Nat} {a : Addr} (hd : Ins M pc (.invokespecial idx) 3 pc') (w1 : (Jvm.Cond.methodLink M.1.cls idx Lib.objectInit).before a0 Z = true) (w2 : (Jvm.Cond.instanceMethod Lib.objectInit).before a0 Z = true) (w3 : (Jvm.Cond.code Lib.objectInit object_method_1_code 1 none).before a0 Z = true) (hL : L.length = M.2.2.1) (hf : 1 ≤ R.frames) (hl : (st.map fun v => v.category).sum + 12 ≤ R.locals)
    (h : Go Z a0 n0 M R Q pc' L st H ce sl) : Go Z a0 n0 M R Q pc L (.ref a :: st) H ce sl := by
  obtain ⟨hd, rfl⟩ := hd
  intro p l e s m args below meth c T locs X C S E F
  obtain ⟨hx, hZ, hby, hml, hret, hlk, hown, hnm⟩ := id C
  obtain ⟨T', X', e', st'⟩ := initO X hx hZ hown w1 w2 w3 rfl (g := mkF m pc L.toArray (.ref a :: st)) rfl (by simpa [hml] using hL) rfl (hb hby hd) hf (W := (st.map fun v => v.category).sum) (by simp) hl
  exact (h p l e s m args below meth c T' _ X' C (by rw [e']; exact S) E F).back st'
theorem fin_of {p : Program} {l : Launch} {e : Env} {s : State} {m : MethodId} {args : Array Value} {below : List Frame} {meth : Method} {c : Code} {T : State} {locs : List Loc} {v : Option Value} {S0 : State} (X : Stand p l e R s m args below meth c T locs ce sl) (hlk : meth.locks = false) (hv : meth.sig.returnType = none → v = none) (S : Sat Z a0 n0 T.heap H) (F : Fr n0 locs) (hc : ce ≤ R.cells) (hs : sl ≤ R.slots) (hQ : Q v H)
    (st : ∀ fs, (∀ (f : JFrame) (acts : List Action), f.method = m → f.locked = none → f.entered = [] → (doReturn e (T.setTop f) acts v).1 = T.setFrames fs) → Steps p.tables e below S0 (T.setFrames fs)) : End Z a0 n0 R Q p e s below S0 := by
  obtain ⟨fs, hr, hrun, hended, hW, hsame⟩ := X.leave (v := v) hv hlk
  exact ⟨_, _, st fs hr, hrun, hended, v, locs, rfl, ⟨H, hQ, S, F⟩, ⟨v, rfl⟩, hW, hsame.mono hc hs⟩
theorem go_ireturn {x : Int32} {t : FieldType} (hd : Ins M pc .ireturn 1 pc') (hr : M.2.2.2 = some t) (hn : narrow t (.int x) = .int x) (ht : t = .int ∨ t = .boolean ∨ t = .byte ∨ t = .char ∨ t = .short) (hc : ce ≤ R.cells) (hs : sl ≤ R.slots) (hQ : Q (some (.int x)) H) : Go Z a0 n0 M R Q pc L (.int x :: st) H ce sl := by
  obtain ⟨hd, rfl⟩ := hd
  intro p l e s m args below meth c T locs X C S E F
  obtain ⟨hx, hZ, hby, hml, hret, hlk, hown, hnm⟩ := id C
  exact fin_of X hlk (fun q => by rw [hret, hr] at q; cases q) S F hc hs hQ fun fs hl => retOut X hx (hret.trans hr) hn (Or.inl ⟨rfl, ht, x, rfl⟩) (hb hby hd) hl
theorem go_lreturn {x : Int64} (hd : Ins M pc .lreturn 1 pc') (hr : M.2.2.2 = some .long) (hc : ce ≤ R.cells) (hs : sl ≤ R.slots) (hQ : Q (some (.long x)) H) : Go Z a0 n0 M R Q pc L (.long x :: st) H ce sl := by
  obtain ⟨hd, rfl⟩ := hd
  intro p l e s m args below meth c T locs X C S E F
  obtain ⟨hx, hZ, hby, hml, hret, hlk, hown, hnm⟩ := id C
  exact fin_of X hlk (fun q => by rw [hret, hr] at q; cases q) S F hc hs hQ fun fs hl => retOut X hx (hret.trans hr) rfl (Or.inr (Or.inl ⟨rfl, rfl, x, rfl⟩)) (hb hby hd) hl
theorem go_areturn {w : Value} {t : FieldType} (hd : Ins M pc .areturn 1 pc') (hr : M.2.2.2 = some t) (ht : t.isReference = true) (hw : w.isRef = true) (hn : narrow t w = w) (hc : ce ≤ R.cells) (hs : sl ≤ R.slots) (hQ : Q (some w) H) : Go Z a0 n0 M R Q pc L (w :: st) H ce sl := by
  obtain ⟨hd, rfl⟩ := hd
  intro p l e s m args below meth c T locs X C S E F
  obtain ⟨hx, hZ, hby, hml, hret, hlk, hown, hnm⟩ := id C
  exact fin_of X hlk (fun q => by rw [hret, hr] at q; cases q) S F hc hs hQ fun fs hl => retOut X hx (hret.trans hr) hn (Or.inr (Or.inr (Or.inr (Or.inr ⟨rfl, ht, hw⟩)))) (hb hby hd) hl
theorem go_return (hd : Ins M pc .return_ 1 pc') (hr : M.2.2.2 = none) (hc : ce ≤ R.cells) (hs : sl ≤ R.slots) (hQ : Q none H) : Go Z a0 n0 M R Q pc L [] H ce sl := by
  obtain ⟨hd, rfl⟩ := hd
  intro p l e s m args below meth c T locs X C S E F
  obtain ⟨hx, hZ, hby, hml, hret, hlk, hown, hnm⟩ := id C
  exact fin_of X hlk (fun q => rfl) S F hc hs hQ fun fs hl => X.returnOut hx (hret.trans hr) (hb hby hd) hl
end Heap
section More
variable {Z : State} {a0 : Array Value} {n0 : Nat} {M : GM} {R : Room} {Q : Option Value → List GObj → Prop} {pc pc' : Nat} {L : List Slot} {st : List Value} {H : List GObj} {ce sl : Nat}
theorem go_clone {idx k : Nat} {ad : String} {ty : FieldType} {vs : List Value} (cap : Nat) (hd : Ins M pc (.invokevirtual idx) 3 pc') (w1 : (Jvm.Cond.methodLink M.1.cls idx ⟨ad, "clone", "()Ljava/lang/Object;"⟩).before a0 Z = true) (w2 : (Jvm.Cond.sameMethod ad "java/lang/Object" "clone" "()Ljava/lang/Object;").before a0 Z = true) (w3 : (Jvm.Cond.native ⟨"java/lang/Object", "clone", "()Ljava/lang/Object;"⟩).before a0 Z = true)
    (w4 : (Jvm.Cond.instanceMethod ⟨"java/lang/Object", "clone", "()Ljava/lang/Object;"⟩).before a0 Z = true) (w5 : (Jvm.Cond.selects ad ⟨ad, "clone", "()Ljava/lang/Object;"⟩ ⟨"java/lang/Object", "clone", "()Ljava/lang/Object;"⟩).before a0 Z = true) (w6 : (Jvm.Cond.castable ad "java/lang/Cloneable").before a0 Z = true)
    (hH : H[k]? = some (.inr (ty, vs))) (had : "[" ++ ty.toString = ad) (hL : L.length = M.2.2.1) (hf : 1 ≤ R.frames) (hl : (st.map fun v => v.category).sum + 14 ≤ R.locals) (hcap : vs.length ≤ cap) {k' : Nat} (hk : H.length = k') (hc : ce + 1 ≤ R.cells) (hs : sl + cap ≤ R.slots)
    (h : Go Z a0 n0 M R Q pc' L (.ref (n0 + k') :: st) (H ++ [.inr (ty, vs)]) (ce + 1) (sl + cap)) : Go Z a0 n0 M R Q pc L (.ref (n0 + k) :: st) H ce sl := by
  obtain ⟨hd, rfl⟩ := hd
  subst hk had
  intro p l e s m args below meth c T locs X C S E F
  obtain ⟨hx, hZ, hby, hml, hret, hlk, hown, hnm⟩ := id C
  obtain ⟨cl, A, hsl, hfit, EA, OV⟩ := S.2.2.2 k _ hH
  have FC : FitC Z cl := fitC_of A fun i hi v hv => by
    rw [hsl] at hv
    exact hfit v (List.mem_of_getElem? (by simpa using hv))
  obtain ⟨T', h', X', e', EX, A', EA', st'⟩ := cloneA X hx hZ hown w1 w2 w3 w4 w5 w6 rfl A EA FC (g := mkF m pc L.toArray (.ref (n0 + k) :: st)) rfl (by simpa [hml] using hL) rfl (hb hby hd) hf (W := (st.map fun v => v.category).sum) (by simp) hl (cap := cap) (by rw [hsl]; simpa using hcap) hc hs
  have hsz := size_one X' e' S E A'.1
  have S' := S.push EX hsz (show Ob Z a0 h' T.heap.size (.inr (ty, vs)) from ⟨_, A', hsl, hfit, EA', OV⟩)
  rw [← e'] at S'
  refine (h p l e s m args below meth c T' _ X' C S' (by simp; omega) F).back ?_
  rw [← S.2.2.1]; exact st'
theorem go_dconst1 (hd : Ins M pc (.dconst 1) 1 pc') (h : Go Z a0 n0 M R Q pc' L (.double FP.dconst1 :: st) H ce sl) : Go Z a0 n0 M R Q pc L st H ce sl := by
  obtain ⟨hd, rfl⟩ := hd
  refine go_pure (fun p e m below c T t hA hx hy k => ?_) h
  have hd' := hb hy hd
  jvm_step hA [hA.top, hx, hd', dconst.wp_sem]
  exact k
theorem go_dloadN {k : Fin 4} {v : UInt64} (hd : Ins M pc (.dload_n k) 1 pc') (hl : L[k.val]? = some (.val (.double v))) (h : Go Z a0 n0 M R Q pc' L (.double v :: st) H ce sl) : Go Z a0 n0 M R Q pc L st H ce sl := by
  obtain ⟨hd, rfl⟩ := hd
  refine go_pure (fun p e m below c T t hA hx hy k' => ?_) h
  have hd' := hb hy hd
  have hl' : L.toArray[k.val]? = some (.val (.double v)) := by simpa using hl
  jvm_step hA [hA.top, hx, hd', hl']
  exact k'
end More
section Calls
variable {Z : State} {a0 : Array Value} {n0 : Nat} {M : GM} {R : Room} {Q : Option Value → List GObj → Prop} {pc pc' : Nat} {L : List Slot} {st : List Value} {H : List GObj} {ce sl : Nat}
/-- the contract of a body: from these arguments and these objects it comes back, and what it leaves meets Q -/
def MetW (Z : State) (a0 : Array Value) (n0 : Nat) (M : GM) (ws : List Jvm.Cond) (R : Room) (as : List Value) (H : List GObj) (Q : Option Value → List GObj → Prop) : Prop :=
  ∀ (l : Launch) (h : Heap), Sat Z a0 n0 h H → MetFree l M.1 (head1 (Jvm.Cond.code M.1 M.2.1 M.2.2.1 M.2.2.2 :: ws) R) (fun a U => a = as.toArray ∧ Z.Warmed39 U.vm ∧ U.heap = h) (fun _ _ _ _ _ => True)
    (fun _ U o U' => ∃ v L, o = .returned v ∧ (∃ H', Q v H' ∧ Sat Z a0 n0 U'.heap H' ∧ Fr n0 L) ∧ FrameEnd U o U' L R.cells R.slots)
def locsF (as : List Value) : List Slot := as.flatMap fun v => if v.category = 2 then [.val v, .second] else [.val v]
def locsOf (as : List Value) (n : Nat) : List Slot := locsF as ++ List.replicate (n - (locsF as).length) .unset
theorem args_eq (as : List Value) (n : Nat) : argsToLocals as.toArray n = (locsOf as n).toArray := by
  have h : ∀ (as : List Value) (acc : Array Slot), as.foldl (fun acc v => if v.category = 2 then (acc.push (.val v)).push .second else acc.push (.val v)) acc = acc ++ (locsF as).toArray := by
    intro as
    induction as with
    | nil => intro acc; simp [locsF]
    | cons v t ih =>
      intro acc
      rw [List.foldl_cons, ih]
      by_cases c : v.category = 2 <;> simp [locsF, c]
  have h' := h as #[]
  unfold argsToLocals
  simp only [List.foldl_toArray', List.size_toArray]
  rw [h']
  simp [locsOf]
theorem MetW.intro {ws : List Jvm.Cond} {as : List Value} (L : List Slot) (hp : plainFor M.1 = true) (he : locsOf as M.2.2.1 = L) (h : Go Z a0 n0 M R Q 0 L [] H 0 0) : MetW Z a0 n0 M ws R as H Q := by
  intro l h0 S
  refine MetFree.of_bodySF hp hisR ?_
  intro p e s m args below meth c s₁ Bd hml0 hP hK
  obtain ⟨rfl, hZ, hh⟩ := hP
  have X0 : Stand p l e R s m as.toArray below meth c s₁ [] 0 0 := Stand.of_body Bd
  have e0 : s₁.heap = h0 := by rw [← hh, Bd.state]; rfl
  have hown := findClass_of_methodNamed Bd.named
  have hnm := (name_of_methodNamed Bd.named Bd.method).1
  obtain ⟨s₂, o, h1, h2, h3, v, L', h4, h5, h6⟩ := h p l e s m _ below meth c s₁ [] X0 ⟨Bd.exec, hZ, Bd.bytes, hml0, Bd.returns, Bd.notSynchronized, hown, hnm⟩ (by rw [e0]; exact S) (by rw [hh]; exact S.2.2.1) (Fr.nil _)
  have ef : entryFrame m as.toArray M.2.2.1 = mkF m 0 L.toArray [] := by simp only [entryFrame, mkF, args_eq, he]
  exact ⟨s₂, o, castTop ef h1, h2, h3, v, L', h4, h5, h6⟩
abbrev Met (Z : State) (a0 : Array Value) (n0 : Nat) (y : GM) (fr lo k j : Nat) (as : List Value) (H : List GObj) (Q : Option Value → List GObj → Prop) : Prop := MetW Z a0 n0 y [] ({ frames := fr, cells := k, slots := j, locals := lo } : Room) as H Q
theorem Met.mono {y : GM} {fr lo k j : Nat} {as : List Value} {Q Q' : Option Value → List GObj → Prop} (h : Met Z a0 n0 y fr lo k j as H Q) (hq : ∀ v H', Q v H' → Q' v H') : Met Z a0 n0 y fr lo k j as H Q' := by
  intro l h0 S
  exact (h l h0 S).mono (fun _ _ q => q) (fun _ _ _ _ _ q => q) fun _ _ _ _ _ ⟨v, L, h1, ⟨H', h2, h3⟩, h4⟩ => ⟨v, L, h1, ⟨H', hq v H' h2, h3⟩, h4⟩
def pushV : Option Value → List Value → List Value
  | none, r => r
  | some v, r => v :: r
theorem pushV_eq (v : Option Value) (r : List Value) : pushV v r = v.toList ++ r := by cases v <;> rfl
abbrev Eq1 (r : Value) (H1 : List GObj) : Option Value → List GObj → Prop := fun v H' => v = some r ∧ H' = H1
abbrev Eq0 (H1 : List GObj) : Option Value → List GObj → Prop := fun v H' => v = none ∧ H' = H1
theorem retE {r : Value} {H1 : List GObj} {rest : List Value} {k j : Nat} (h1 : H1.length = H.length + k) (h : Go Z a0 n0 M R Q pc' L (r :: rest) H1 (ce + k) (sl + j)) : ∀ v H', Eq1 r H1 v H' → H'.length = H.length + k ∧ Go Z a0 n0 M R Q pc' L (pushV v rest) H' (ce + k) (sl + j) := by
  rintro _ _ ⟨rfl, rfl⟩; exact ⟨h1, h⟩
theorem retV {H1 : List GObj} {rest : List Value} {k j : Nat} (h1 : H1.length = H.length + k) (h : Go Z a0 n0 M R Q pc' L rest H1 (ce + k) (sl + j)) : ∀ v H', Eq0 H1 v H' → H'.length = H.length + k ∧ Go Z a0 n0 M R Q pc' L (pushV v rest) H' (ce + k) (sl + j) := by
  rintro _ _ ⟨rfl, rfl⟩; exact ⟨h1, h⟩
def noHandle (c : String) : Bool := decide (c ≠ "java/lang/invoke/MethodHandle" ∧ c ≠ "java/lang/invoke/VarHandle")
theorem go_static {y : GM} {fr lo k j idx : Nat} {as rest stk : List Value} {ps : List FieldType} {r : Option FieldType} {Q' : Option Value → List GObj → Prop} (hd : Ins M pc (.invokestatic idx) 3 pc') (hm : Met Z a0 n0 y fr lo k j as H Q')
    (w1 : (Jvm.Cond.methodLink M.1.cls idx y.1).before a0 Z = true) (w2 : (Jvm.Cond.static y.1).before a0 Z = true) (w3 : (Jvm.Cond.initialized y.1.cls).before a0 Z = true) (w4 : (Jvm.Cond.code y.1 y.2.1 y.2.2.1 y.2.2.2).before a0 Z = true) (hy : noHandle y.1.cls = true) (hpd : parseMethodDescriptor y.1.desc = some ⟨ps, r⟩) (hlen : as.length = ps.length) (hst : stk = as.reverse ++ rest) (hL : L.length = M.2.2.1)
    (hfr : fr + 1 ≤ R.frames) (hlo : (rest.map fun v => v.category).sum + (y.2.2.1 + 11) + lo ≤ R.locals) (hk : ce + k ≤ R.cells) (hj : sl + j ≤ R.slots)
    (h : ∀ v H', Q' v H' → H'.length = H.length + k ∧ Go Z a0 n0 M R Q pc' L (pushV v rest) H' (ce + k) (sl + j)) : Go Z a0 n0 M R Q pc L stk H ce sl := by
  obtain ⟨hd, rfl⟩ := hd
  subst hst
  intro p l e s m args below meth c T locs X C S E F
  obtain ⟨hx, hZ, hby, hml, hret, hlk, hown, hnm⟩ := id C
  obtain ⟨v, vm1, ⟨T', L', k', n'⟩, -, X', ⟨Lc, hQ', l', y', z'⟩, st'⟩ := Jvm.LawKit.callS X hx (y := y.1) hown (mvT hZ w1) (mvT hZ w2) (mvT hZ w3) (mvT hZ w4) (of_decide_eq_true hy)
    (backOf (W := (rest.map fun v => v.category).sum) (Q := fun v h' L => ∃ H', Q' v H' ∧ Sat Z a0 n0 h' H' ∧ Fr n0 L) (hm l T.heap S) hZ w4 w3 hfr hlo) (g := mkF m pc L.toArray (as.reverse ++ rest)) rfl (by simpa [hml] using hL) (argsL := as) (rest := rest) (lenOf hpd hlen) rfl (by simp) (hb hby hd) (fun _ _ => ⟨rfl, rfl, hk, hj⟩)
  dsimp only [Pt.U, Pt.locs, Pt.cells, Pt.slots] at X' l' y' z' st' hQ'
  subst l' y' z'
  obtain ⟨H', q, S', N⟩ := hQ'
  obtain ⟨hlen', g⟩ := h v H' q
  rw [pushV_eq] at g
  exact (g p l e s m args below meth c T' _ X' C S' (by omega) (Fr.app F N)).back st'
theorem go_special {y : GM} {fr lo k j idx : Nat} {a : Addr} {as rest stk : List Value} {ps : List FieldType} {r : Option FieldType} {Q' : Option Value → List GObj → Prop} (hd : Ins M pc (.invokespecial idx) 3 pc') (hm : Met Z a0 n0 y fr lo k j (.ref a :: as) H Q')
    (w1 : (Jvm.Cond.methodLink M.1.cls idx y.1).before a0 Z = true) (w2 : (Jvm.Cond.instanceMethod y.1).before a0 Z = true) (w3 : (Jvm.Cond.initialized y.1.cls).before a0 Z = true) (w4 : (Jvm.Cond.code y.1 y.2.1 y.2.2.1 none).before a0 Z = true) (hy1 : y.1.name = "<init>") (hr : y.2.2.2 = none) (hy : noHandle y.1.cls = true) (hpd : parseMethodDescriptor y.1.desc = some ⟨ps, r⟩) (hlen : as.length = ps.length) (hst : stk = as.reverse ++ .ref a :: rest) (hL : L.length = M.2.2.1)
    (hfr : fr + 1 ≤ R.frames) (hlo : (rest.map fun v => v.category).sum + (y.2.2.1 + 11) + lo ≤ R.locals) (hk : ce + k ≤ R.cells) (hj : sl + j ≤ R.slots)
    (h : ∀ v H', Q' v H' → H'.length = H.length + k ∧ Go Z a0 n0 M R Q pc' L (pushV v rest) H' (ce + k) (sl + j)) : Go Z a0 n0 M R Q pc L stk H ce sl := by
  obtain ⟨hd, rfl⟩ := hd
  subst hst
  intro p l e s m args below meth c T locs X C S E F
  obtain ⟨hx, hZ, hby, hml, hret, hlk, hown, hnm⟩ := id C
  have w4' : (Jvm.Cond.code y.1 y.2.1 y.2.2.1 y.2.2.2).before a0 Z = true := by rw [hr]; exact w4
  obtain ⟨v, vm1, ⟨T', L', k', n'⟩, -, X', ⟨Lc, hQ', l', y', z'⟩, st'⟩ := X.specialBack hx (y := y.1) hy1 hown (mvT hZ w1) (mvT hZ w2) (mvT hZ w4) (of_decide_eq_true hy)
    (backOf (W := (rest.map fun v => v.category).sum) (Q := fun v h' L => ∃ H', Q' v H' ∧ Sat Z a0 n0 h' H' ∧ Fr n0 L) (hm l T.heap S) hZ w4' w3 hfr hlo) (g := mkF m pc L.toArray (as.reverse ++ .ref a :: rest)) rfl (by simpa [hml] using hL) (Steps.refl _) (a := a) (argsL := as) (rest := rest) (lenOf hpd hlen) rfl (by simp) (hb hby hd) (fun _ _ => ⟨rfl, rfl, hk, hj⟩)
  dsimp only [Pt.U, Pt.locs, Pt.cells, Pt.slots] at X' l' y' z' st' hQ'
  subst l' y' z'
  obtain ⟨H', q, S', N⟩ := hQ'
  obtain ⟨hlen', g⟩ := h v H' q
  rw [pushV_eq] at g
  exact (g p l e s m args below meth c T' _ X' C S' (by omega) (Fr.app F N)).back fun t k => st'.trans k
theorem go_virtual {y : GM} {fr lo k j idx i : Nat} {K : GLay} {vs as rest stk : List Value} {ps : List FieldType} {r : Option FieldType} {Q' : Option Value → List GObj → Prop} (hd : Ins M pc (.invokevirtual idx) 3 pc') (hm : Met Z a0 n0 y fr lo k j (.ref (n0 + i) :: as) H Q') (hH : H[i]? = some (.inl (K, vs)))
    (w1 : (Jvm.Cond.methodLink M.1.cls idx y.1).before a0 Z = true) (w2 : (Jvm.Cond.declares y.1).before a0 Z = true) (w5 : (Jvm.Cond.selects K.1 y.1 y.1).before a0 Z = true) (w6 : (Jvm.Cond.instanceMethod y.1).before a0 Z = true) (w3 : (Jvm.Cond.initialized y.1.cls).before a0 Z = true) (w4 : (Jvm.Cond.code y.1 y.2.1 y.2.2.1 y.2.2.2).before a0 Z = true) (hy : noHandle y.1.cls = true) (hpd : parseMethodDescriptor y.1.desc = some ⟨ps, r⟩) (hlen : as.length = ps.length) (hst : stk = as.reverse ++ .ref (n0 + i) :: rest) (hL : L.length = M.2.2.1)
    (hfr : fr + 1 ≤ R.frames) (hlo : (rest.map fun v => v.category).sum + (y.2.2.1 + 11) + lo ≤ R.locals) (hk : ce + k ≤ R.cells) (hj : sl + j ≤ R.slots)
    (h : ∀ v H', Q' v H' → H'.length = H.length + k ∧ Go Z a0 n0 M R Q pc' L (pushV v rest) H' (ce + k) (sl + j)) : Go Z a0 n0 M R Q pc L stk H ce sl := by
  obtain ⟨hd, rfl⟩ := hd
  subst hst
  intro p l e s m args below meth c T locs X C S E F
  obtain ⟨hx, hZ, hby, hml, hret, hlk, hown, hnm⟩ := id C
  obtain ⟨cq, kq, q1, q2, q3⟩ := isOf (T := T) hZ rfl (S.2.2.2 i _ hH).2.1
  obtain ⟨v, vm1, ⟨T', L', k', n'⟩, -, X', ⟨Lc, hQ', l', y', z'⟩, st'⟩ := X.virtualBack hx (y := y.1) (z := y.1) hown (mvT hZ w1) (mvT hZ w2) (notFace_of_selects (args := #[]) (mvT hZ w5)) (mvT hZ w5) (mvT hZ w6) (of_decide_eq_true hy)
    (backOf (W := (rest.map fun v => v.category).sum) (Q := fun v h' L => ∃ H', Q' v H' ∧ Sat Z a0 n0 h' H' ∧ Fr n0 L) (hm l T.heap S) hZ w4 w3 hfr hlo) q1 q3 (g := mkF m pc L.toArray (as.reverse ++ .ref (n0 + i) :: rest)) rfl (by simpa [hml] using hL) (Steps.refl _) (argsL := as) (rest := rest) (lenOf hpd hlen) rfl (by simp) (hb hby hd) (fun _ _ => ⟨rfl, rfl, hk, hj⟩)
  dsimp only [Pt.U, Pt.locs, Pt.cells, Pt.slots] at X' l' y' z' st' hQ'
  subst l' y' z'
  obtain ⟨H', q, S', N⟩ := hQ'
  obtain ⟨hlen', g⟩ := h v H' q
  rw [pushV_eq] at g
  exact (g p l e s m args below meth c T' _ X' C S' (by omega) (Fr.app F N)).back fun t k => st'.trans k
/-- a private method by invokevirtual: its class is an ordinary one ('instantiable'), so no 'selects' word is wanted -/
theorem go_private {y : GM} {fr lo k j idx i nn : Nat} {o : GObj} {as rest stk : List Value} {ps : List FieldType} {r : Option FieldType} {Q' : Option Value → List GObj → Prop} (hd : Ins M pc (.invokevirtual idx) 3 pc') (hm : Met Z a0 n0 y fr lo k j (.ref (n0 + i) :: as) H Q') (hH : H[i]? = some o)
    (w1 : (Jvm.Cond.methodLink M.1.cls idx y.1).before a0 Z = true) (w5 : (Jvm.Cond.instantiable y.1.cls nn).before a0 Z = true) (w6 : (Jvm.Cond.instanceMethod y.1).before a0 Z = true) (w7 : (Jvm.Cond.privateMethod y.1).before a0 Z = true) (w3 : (Jvm.Cond.initialized y.1.cls).before a0 Z = true) (w4 : (Jvm.Cond.code y.1 y.2.1 y.2.2.1 y.2.2.2).before a0 Z = true) (hy : noHandle y.1.cls = true) (hpd : parseMethodDescriptor y.1.desc = some ⟨ps, r⟩) (hlen : as.length = ps.length) (hst : stk = as.reverse ++ .ref (n0 + i) :: rest) (hL : L.length = M.2.2.1)
    (hfr : fr + 1 ≤ R.frames) (hlo : (rest.map fun v => v.category).sum + (y.2.2.1 + 11) + lo ≤ R.locals) (hk : ce + k ≤ R.cells) (hj : sl + j ≤ R.slots)
    (h : ∀ v H', Q' v H' → H'.length = H.length + k ∧ Go Z a0 n0 M R Q pc' L (pushV v rest) H' (ce + k) (sl + j)) : Go Z a0 n0 M R Q pc L stk H ce sl := by
  obtain ⟨hd, rfl⟩ := hd
  subst hst
  intro p l e s m args below meth c T locs X C S E F
  obtain ⟨hx, hZ, hby, hml, hret, hlk, hown, hnm⟩ := id C
  obtain ⟨cell, hcell, hobj⟩ : ∃ cl : Cell, T.heap[n0 + i]? = some cl ∧ ∀ q, cl.vm ≠ .statics q := by
    have := S.2.2.2 i _ hH
    rcases o with ⟨K, vs⟩ | ⟨ty, vs⟩
    · exact this.2.1.cell
    · obtain ⟨c', A, -, -, EA, -⟩ := this; exact EA.cell
  obtain ⟨mk, methM, hnamed, hmethM, hstM, habM⟩ := Jvm.Cond.instanceMethod_spec (mvT (args := args) hZ w6)
  obtain ⟨methM', cM, hmethM', -, -, -, -, -, -, hsigM⟩ := Jvm.Cond.code_spec hnamed (mvT (args := args) hZ w4)
  cases hmethM.symm.trans hmethM'
  obtain ⟨c5, k5, i1, i2, i3, i4, -⟩ := Jvm.Cond.instantiable_spec (mvT (args := args) hZ w5)
  have hcl := findClass_of_methodNamed hnamed
  cases i1.symm.trans hcl
  have hni : k5.isInterface = false := by simp only [Bool.or_eq_false_iff] at i4; exact i4.1
  have hselP : selectMethod e.platform s.vm cell.cls mk = .method mk := selectMethod_private hmethM (Jvm.Cond.privateMethod_at (mvP hZ w7 (args := #[])) mk methM hnamed hmethM)
  have hK := backOf (p := p) (e := e) (below := below) (args := args) (len := 3) (W := (rest.map fun v => v.category).sum) (Q := fun v h' L => ∃ H', Q' v H' ∧ Sat Z a0 n0 h' H' ∧ Fr n0 L) (hm l T.heap S) hZ w4 w3 hfr hlo
  obtain ⟨vm₁, X₁, hstep₁⟩ := X.invokevirtual hx hown (mvT hZ w1) hnamed hmethM hstM i2 hni (of_decide_eq_true hy) (a := n0 + i) (cell := cell) hcell hobj hselP hmethM habM i2 hni (g := mkF m pc L.toArray (as.reverse ++ .ref (n0 + i) :: rest)) rfl (argsL := as) (rest := rest) (lenOf hpd hlen _ hsigM) rfl (hb hby hd)
  obtain ⟨v, ⟨T', L', k', n'⟩, X', ⟨Lc, hQ', l', y', z'⟩, st'⟩ := hK m meth c ⟨T.setVm vm₁, locs, ce, sl⟩ (mkF m pc L.toArray rest) (.invokevirtual idx) mk (.ref (n0 + i) :: as).toArray X₁ rfl (by simpa [hml] using hL) (hb hby hd) (by simp) (X₁.named hnamed) ⟨rfl, rfl, hk, hj⟩
  dsimp only [Pt.U, Pt.locs, Pt.cells, Pt.slots] at X' l' y' z' st' hQ'
  subst l' y' z'
  obtain ⟨H', q, S', N⟩ := hQ'
  obtain ⟨hlen', g⟩ := h v H' q
  rw [pushV_eq] at g
  refine (g p l e s m args below meth c T' _ X' C S' (by omega) (Fr.app F N)).back fun t k => ?_
  exact hstep₁ _ fun acts => by rw [doInvoke_state]; exact st'.trans k
end Calls
def M0 : GM := (x, code, maxLocals, ret)
theorem i0_0 : Ins M0 0 (.new 7) 3 3 := ⟨at_0, rfl⟩
theorem i0_3 : Ins M0 3 (.dup) 1 4 := ⟨at_3, rfl⟩
theorem i0_4 : Ins M0 4 (.iconst 4) 1 5 := ⟨at_4, rfl⟩
theorem i0_5 : Ins M0 5 (.invokespecial 9) 3 8 := ⟨at_5, rfl⟩
theorem i0_8 : Ins M0 8 (.astore_n 2) 1 9 := ⟨at_8, rfl⟩
theorem i0_9 : Ins M0 9 (.iconst 4) 1 10 := ⟨at_9, rfl⟩
theorem i0_10 : Ins M0 10 (.newarray .int) 2 12 := ⟨at_10, rfl⟩
theorem i0_12 : Ins M0 12 (.dup) 1 13 := ⟨at_12, rfl⟩
theorem i0_13 : Ins M0 13 (.iconst 0) 1 14 := ⟨at_13, rfl⟩
theorem i0_14 : Ins M0 14 (.iconst 1) 1 15 := ⟨at_14, rfl⟩
theorem i0_15 : Ins M0 15 (.iastore) 1 16 := ⟨at_15, rfl⟩
theorem i0_16 : Ins M0 16 (.dup) 1 17 := ⟨at_16, rfl⟩
theorem i0_17 : Ins M0 17 (.iconst 1) 1 18 := ⟨at_17, rfl⟩
theorem i0_18 : Ins M0 18 (.iconst 2) 1 19 := ⟨at_18, rfl⟩
theorem i0_19 : Ins M0 19 (.iastore) 1 20 := ⟨at_19, rfl⟩
theorem i0_20 : Ins M0 20 (.dup) 1 21 := ⟨at_20, rfl⟩
theorem i0_21 : Ins M0 21 (.iconst 2) 1 22 := ⟨at_21, rfl⟩
theorem i0_22 : Ins M0 22 (.iconst 4) 1 23 := ⟨at_22, rfl⟩
theorem i0_23 : Ins M0 23 (.iastore) 1 24 := ⟨at_23, rfl⟩
theorem i0_24 : Ins M0 24 (.dup) 1 25 := ⟨at_24, rfl⟩
theorem i0_25 : Ins M0 25 (.iconst 3) 1 26 := ⟨at_25, rfl⟩
theorem i0_26 : Ins M0 26 (.bipush 8) 2 28 := ⟨at_26, rfl⟩
theorem i0_28 : Ins M0 28 (.iastore) 1 29 := ⟨at_28, rfl⟩
theorem i0_29 : Ins M0 29 (.astore_n 3) 1 30 := ⟨at_29, rfl⟩
theorem i0_30 : Ins M0 30 (.iload_n 1) 1 31 := ⟨at_30, rfl⟩
theorem i0_31 : Ins M0 31 (.iconst 4) 1 32 := ⟨at_31, rfl⟩
theorem i0_32 : Ins M0 32 (.iushr) 1 33 := ⟨at_32, rfl⟩
theorem i0_33 : Ins M0 33 (.iconst 3) 1 34 := ⟨at_33, rfl⟩
theorem i0_34 : Ins M0 34 (.iand) 1 35 := ⟨at_34, rfl⟩
theorem i0_35 : Ins M0 35 (.istore 4) 2 37 := ⟨at_35, rfl⟩
theorem i0_37 : Ins M0 37 (.iload_n 0) 1 38 := ⟨at_37, rfl⟩
theorem i0_38 : Ins M0 38 (.iconst 3) 1 39 := ⟨at_38, rfl⟩
theorem i0_39 : Ins M0 39 (.iand) 1 40 := ⟨at_39, rfl⟩
theorem i0_40 : Ins M0 40 (.istore 5) 2 42 := ⟨at_40, rfl⟩
theorem i0_42 : Ins M0 42 (.iload_n 0) 1 43 := ⟨at_42, rfl⟩
theorem i0_43 : Ins M0 43 (.iconst 2) 1 44 := ⟨at_43, rfl⟩
theorem i0_44 : Ins M0 44 (.iushr) 1 45 := ⟨at_44, rfl⟩
theorem i0_45 : Ins M0 45 (.iconst 3) 1 46 := ⟨at_45, rfl⟩
theorem i0_46 : Ins M0 46 (.iand) 1 47 := ⟨at_46, rfl⟩
theorem i0_47 : Ins M0 47 (.istore 6) 2 49 := ⟨at_47, rfl⟩
theorem i0_49 : Ins M0 49 (.iload_n 0) 1 50 := ⟨at_49, rfl⟩
theorem i0_50 : Ins M0 50 (.iconst 4) 1 51 := ⟨at_50, rfl⟩
theorem i0_51 : Ins M0 51 (.iushr) 1 52 := ⟨at_51, rfl⟩
theorem i0_52 : Ins M0 52 (.iconst 3) 1 53 := ⟨at_52, rfl⟩
theorem i0_53 : Ins M0 53 (.iand) 1 54 := ⟨at_53, rfl⟩
theorem i0_54 : Ins M0 54 (.istore 7) 2 56 := ⟨at_54, rfl⟩
theorem i0_56 : Ins M0 56 (.iload_n 0) 1 57 := ⟨at_56, rfl⟩
theorem i0_57 : Ins M0 57 (.bipush 6) 2 59 := ⟨at_57, rfl⟩
theorem i0_59 : Ins M0 59 (.iushr) 1 60 := ⟨at_59, rfl⟩
theorem i0_60 : Ins M0 60 (.iconst 3) 1 61 := ⟨at_60, rfl⟩
theorem i0_61 : Ins M0 61 (.iand) 1 62 := ⟨at_61, rfl⟩
theorem i0_62 : Ins M0 62 (.istore 8) 2 64 := ⟨at_62, rfl⟩
theorem i0_64 : Ins M0 64 (.iload_n 0) 1 65 := ⟨at_64, rfl⟩
theorem i0_65 : Ins M0 65 (.bipush 8) 2 67 := ⟨at_65, rfl⟩
theorem i0_67 : Ins M0 67 (.iushr) 1 68 := ⟨at_67, rfl⟩
theorem i0_68 : Ins M0 68 (.iconst 3) 1 69 := ⟨at_68, rfl⟩
theorem i0_69 : Ins M0 69 (.iand) 1 70 := ⟨at_69, rfl⟩
theorem i0_70 : Ins M0 70 (.istore 9) 2 72 := ⟨at_70, rfl⟩
theorem i0_72 : Ins M0 72 (.iload_n 0) 1 73 := ⟨at_72, rfl⟩
theorem i0_73 : Ins M0 73 (.bipush 10) 2 75 := ⟨at_73, rfl⟩
theorem i0_75 : Ins M0 75 (.iushr) 1 76 := ⟨at_75, rfl⟩
theorem i0_76 : Ins M0 76 (.iconst 3) 1 77 := ⟨at_76, rfl⟩
theorem i0_77 : Ins M0 77 (.iand) 1 78 := ⟨at_77, rfl⟩
theorem i0_78 : Ins M0 78 (.istore 10) 2 80 := ⟨at_78, rfl⟩
theorem i0_80 : Ins M0 80 (.iload 4) 2 82 := ⟨at_80, rfl⟩
theorem i0_82 : Ins M0 82 (.iconst 1) 1 83 := ⟨at_82, rfl⟩
theorem i0_83 : Ins M0 83 (.if_icmp .lt 20) 3 86 := ⟨at_83, rfl⟩
theorem i0_86 : Ins M0 86 (.aload_n 2) 1 87 := ⟨at_86, rfl⟩
theorem i0_87 : Ins M0 87 (.iload 5) 2 89 := ⟨at_87, rfl⟩
theorem i0_89 : Ins M0 89 (.iload 6) 2 91 := ⟨at_89, rfl⟩
theorem i0_91 : Ins M0 91 (.invokevirtual 12) 3 94 := ⟨at_91, rfl⟩
theorem i0_94 : Ins M0 94 (.pop) 1 95 := ⟨at_94, rfl⟩
theorem i0_95 : Ins M0 95 (.aload_n 3) 1 96 := ⟨at_95, rfl⟩
theorem i0_96 : Ins M0 96 (.iload 5) 2 98 := ⟨at_96, rfl⟩
theorem i0_98 : Ins M0 98 (.iload 6) 2 100 := ⟨at_98, rfl⟩
theorem i0_100 : Ins M0 100 (.invokestatic 16) 3 103 := ⟨at_100, rfl⟩
theorem i0_103 : Ins M0 103 (.iload 4) 2 105 := ⟨at_103, rfl⟩
theorem i0_105 : Ins M0 105 (.iconst 2) 1 106 := ⟨at_105, rfl⟩
theorem i0_106 : Ins M0 106 (.if_icmp .lt 20) 3 109 := ⟨at_106, rfl⟩
theorem i0_109 : Ins M0 109 (.aload_n 2) 1 110 := ⟨at_109, rfl⟩
theorem i0_110 : Ins M0 110 (.iload 7) 2 112 := ⟨at_110, rfl⟩
theorem i0_112 : Ins M0 112 (.iload 8) 2 114 := ⟨at_112, rfl⟩
theorem i0_114 : Ins M0 114 (.invokevirtual 12) 3 117 := ⟨at_114, rfl⟩
theorem i0_117 : Ins M0 117 (.pop) 1 118 := ⟨at_117, rfl⟩
theorem i0_118 : Ins M0 118 (.aload_n 3) 1 119 := ⟨at_118, rfl⟩
theorem i0_119 : Ins M0 119 (.iload 7) 2 121 := ⟨at_119, rfl⟩
theorem i0_121 : Ins M0 121 (.iload 8) 2 123 := ⟨at_121, rfl⟩
theorem i0_123 : Ins M0 123 (.invokestatic 16) 3 126 := ⟨at_123, rfl⟩
theorem i0_126 : Ins M0 126 (.iload 4) 2 128 := ⟨at_126, rfl⟩
theorem i0_128 : Ins M0 128 (.iconst 3) 1 129 := ⟨at_128, rfl⟩
theorem i0_129 : Ins M0 129 (.if_icmp .lt 20) 3 132 := ⟨at_129, rfl⟩
theorem i0_132 : Ins M0 132 (.aload_n 2) 1 133 := ⟨at_132, rfl⟩
theorem i0_133 : Ins M0 133 (.iload 9) 2 135 := ⟨at_133, rfl⟩
theorem i0_135 : Ins M0 135 (.iload 10) 2 137 := ⟨at_135, rfl⟩
theorem i0_137 : Ins M0 137 (.invokevirtual 12) 3 140 := ⟨at_137, rfl⟩
theorem i0_140 : Ins M0 140 (.pop) 1 141 := ⟨at_140, rfl⟩
theorem i0_141 : Ins M0 141 (.aload_n 3) 1 142 := ⟨at_141, rfl⟩
theorem i0_142 : Ins M0 142 (.iload 9) 2 144 := ⟨at_142, rfl⟩
theorem i0_144 : Ins M0 144 (.iload 10) 2 146 := ⟨at_144, rfl⟩
theorem i0_146 : Ins M0 146 (.invokestatic 16) 3 149 := ⟨at_146, rfl⟩
theorem i0_149 : Ins M0 149 (.iload_n 1) 1 150 := ⟨at_149, rfl⟩
theorem i0_150 : Ins M0 150 (.iconst 3) 1 151 := ⟨at_150, rfl⟩
theorem i0_151 : Ins M0 151 (.iand) 1 152 := ⟨at_151, rfl⟩
theorem i0_152 : Ins M0 152 (.istore 11) 2 154 := ⟨at_152, rfl⟩
theorem i0_154 : Ins M0 154 (.iload_n 1) 1 155 := ⟨at_154, rfl⟩
theorem i0_155 : Ins M0 155 (.iconst 2) 1 156 := ⟨at_155, rfl⟩
theorem i0_156 : Ins M0 156 (.iushr) 1 157 := ⟨at_156, rfl⟩
theorem i0_157 : Ins M0 157 (.iconst 3) 1 158 := ⟨at_157, rfl⟩
theorem i0_158 : Ins M0 158 (.iand) 1 159 := ⟨at_158, rfl⟩
theorem i0_159 : Ins M0 159 (.istore 12) 2 161 := ⟨at_159, rfl⟩
theorem i0_161 : Ins M0 161 (.aload_n 2) 1 162 := ⟨at_161, rfl⟩
theorem i0_162 : Ins M0 162 (.iload 11) 2 164 := ⟨at_162, rfl⟩
theorem i0_164 : Ins M0 164 (.invokevirtual 22) 3 167 := ⟨at_164, rfl⟩
theorem i0_167 : Ins M0 167 (.istore 13) 2 169 := ⟨at_167, rfl⟩
theorem i0_169 : Ins M0 169 (.aload_n 2) 1 170 := ⟨at_169, rfl⟩
theorem i0_170 : Ins M0 170 (.iload 12) 2 172 := ⟨at_170, rfl⟩
theorem i0_172 : Ins M0 172 (.invokevirtual 22) 3 175 := ⟨at_172, rfl⟩
theorem i0_175 : Ins M0 175 (.istore 14) 2 177 := ⟨at_175, rfl⟩
theorem i0_177 : Ins M0 177 (.iload 13) 2 179 := ⟨at_177, rfl⟩
theorem i0_179 : Ins M0 179 (.ifCond .lt 20) 3 182 := ⟨at_179, rfl⟩
theorem i0_182 : Ins M0 182 (.iload 13) 2 184 := ⟨at_182, rfl⟩
theorem i0_184 : Ins M0 184 (.iconst 3) 1 185 := ⟨at_184, rfl⟩
theorem i0_185 : Ins M0 185 (.if_icmp .gt 14) 3 188 := ⟨at_185, rfl⟩
theorem i0_188 : Ins M0 188 (.iload 14) 2 190 := ⟨at_188, rfl⟩
theorem i0_190 : Ins M0 190 (.ifCond .lt 9) 3 193 := ⟨at_190, rfl⟩
theorem i0_193 : Ins M0 193 (.iload 14) 2 195 := ⟨at_193, rfl⟩
theorem i0_195 : Ins M0 195 (.iconst 3) 1 196 := ⟨at_195, rfl⟩
theorem i0_196 : Ins M0 196 (.if_icmp .le 5) 3 199 := ⟨at_196, rfl⟩
theorem i0_199 : Ins M0 199 (.iconst 0) 1 200 := ⟨at_199, rfl⟩
theorem i0_200 : Ins M0 200 (.ireturn) 1 201 := ⟨at_200, rfl⟩
theorem i0_201 : Ins M0 201 (.aload_n 2) 1 202 := ⟨at_201, rfl⟩
theorem i0_202 : Ins M0 202 (.iload 13) 2 204 := ⟨at_202, rfl⟩
theorem i0_204 : Ins M0 204 (.invokevirtual 22) 3 207 := ⟨at_204, rfl⟩
theorem i0_207 : Ins M0 207 (.istore 15) 2 209 := ⟨at_207, rfl⟩
theorem i0_209 : Ins M0 209 (.aload_n 2) 1 210 := ⟨at_209, rfl⟩
theorem i0_210 : Ins M0 210 (.iload 11) 2 212 := ⟨at_210, rfl⟩
theorem i0_212 : Ins M0 212 (.invokevirtual 22) 3 215 := ⟨at_212, rfl⟩
theorem i0_215 : Ins M0 215 (.istore 16) 2 217 := ⟨at_215, rfl⟩
theorem i0_217 : Ins M0 217 (.aload_n 3) 1 218 := ⟨at_217, rfl⟩
theorem i0_218 : Ins M0 218 (.iload 11) 2 220 := ⟨at_218, rfl⟩
theorem i0_220 : Ins M0 220 (.iaload) 1 221 := ⟨at_220, rfl⟩
theorem i0_221 : Ins M0 221 (.iload 13) 2 223 := ⟨at_221, rfl⟩
theorem i0_223 : Ins M0 223 (.ishr) 1 224 := ⟨at_223, rfl⟩
theorem i0_224 : Ins M0 224 (.iconst 1) 1 225 := ⟨at_224, rfl⟩
theorem i0_225 : Ins M0 225 (.iand) 1 226 := ⟨at_225, rfl⟩
theorem i0_226 : Ins M0 226 (.iconst 1) 1 227 := ⟨at_226, rfl⟩
theorem i0_227 : Ins M0 227 (.if_icmp .ne 7) 3 230 := ⟨at_227, rfl⟩
theorem i0_230 : Ins M0 230 (.iconst 1) 1 231 := ⟨at_230, rfl⟩
theorem i0_231 : Ins M0 231 (.goto 4) 3 234 := ⟨at_231, rfl⟩
theorem i0_234 : Ins M0 234 (.iconst 0) 1 235 := ⟨at_234, rfl⟩
theorem i0_235 : Ins M0 235 (.istore 17) 2 237 := ⟨at_235, rfl⟩
theorem i0_237 : Ins M0 237 (.aload_n 3) 1 238 := ⟨at_237, rfl⟩
theorem i0_238 : Ins M0 238 (.iload 11) 2 240 := ⟨at_238, rfl⟩
theorem i0_240 : Ins M0 240 (.iaload) 1 241 := ⟨at_240, rfl⟩
theorem i0_241 : Ins M0 241 (.aload_n 3) 1 242 := ⟨at_241, rfl⟩
theorem i0_242 : Ins M0 242 (.iload 12) 2 244 := ⟨at_242, rfl⟩
theorem i0_244 : Ins M0 244 (.iaload) 1 245 := ⟨at_244, rfl⟩
theorem i0_245 : Ins M0 245 (.if_icmp .ne 7) 3 248 := ⟨at_245, rfl⟩
theorem i0_248 : Ins M0 248 (.iconst 1) 1 249 := ⟨at_248, rfl⟩
theorem i0_249 : Ins M0 249 (.goto 4) 3 252 := ⟨at_249, rfl⟩
theorem i0_252 : Ins M0 252 (.iconst 0) 1 253 := ⟨at_252, rfl⟩
theorem i0_253 : Ins M0 253 (.istore 18) 2 255 := ⟨at_253, rfl⟩
theorem i0_255 : Ins M0 255 (.iload 17) 2 257 := ⟨at_255, rfl⟩
theorem i0_257 : Ins M0 257 (.ifCond .eq 38) 3 260 := ⟨at_257, rfl⟩
theorem i0_260 : Ins M0 260 (.iload 15) 2 262 := ⟨at_260, rfl⟩
theorem i0_262 : Ins M0 262 (.iload 13) 2 264 := ⟨at_262, rfl⟩
theorem i0_264 : Ins M0 264 (.if_icmp .ne 31) 3 267 := ⟨at_264, rfl⟩
theorem i0_267 : Ins M0 267 (.iload 16) 2 269 := ⟨at_267, rfl⟩
theorem i0_269 : Ins M0 269 (.iload 13) 2 271 := ⟨at_269, rfl⟩
theorem i0_271 : Ins M0 271 (.if_icmp .ne 24) 3 274 := ⟨at_271, rfl⟩
theorem i0_274 : Ins M0 274 (.iload 13) 2 276 := ⟨at_274, rfl⟩
theorem i0_276 : Ins M0 276 (.iload 14) 2 278 := ⟨at_276, rfl⟩
theorem i0_278 : Ins M0 278 (.if_icmp .ne 7) 3 281 := ⟨at_278, rfl⟩
theorem i0_281 : Ins M0 281 (.iconst 1) 1 282 := ⟨at_281, rfl⟩
theorem i0_282 : Ins M0 282 (.goto 4) 3 285 := ⟨at_282, rfl⟩
theorem i0_285 : Ins M0 285 (.iconst 0) 1 286 := ⟨at_285, rfl⟩
theorem i0_286 : Ins M0 286 (.iload 18) 2 288 := ⟨at_286, rfl⟩
theorem i0_288 : Ins M0 288 (.if_icmp .ne 7) 3 291 := ⟨at_288, rfl⟩
theorem i0_291 : Ins M0 291 (.iconst 1) 1 292 := ⟨at_291, rfl⟩
theorem i0_292 : Ins M0 292 (.goto 4) 3 295 := ⟨at_292, rfl⟩
theorem i0_295 : Ins M0 295 (.iconst 0) 1 296 := ⟨at_295, rfl⟩
theorem i0_296 : Ins M0 296 (.ireturn) 1 297 := ⟨at_296, rfl⟩
theorem pn0 : plainFor M0.1 = true := plainFor_of_name (by first | (simp [plainName, overriddenIn, M0, x]; done) | decide +kernel)
theorem pd0 : parseMethodDescriptor M0.1.desc = some ⟨[.int, .int], some (.boolean)⟩ := by decide +kernel
def M1 : GM := (⟨"com/example/hedgewire/hedgewire/graph/DisjointSets", "<init>", "(I)V"⟩, prog_26_method_1_code, 3, none)
theorem i1_0 : Ins M1 0 (.aload_n 0) 1 1 := ⟨by decide +kernel, rfl⟩
theorem i1_1 : Ins M1 1 (.invokespecial 1) 3 4 := ⟨by decide +kernel, rfl⟩
theorem i1_4 : Ins M1 4 (.aload_n 0) 1 5 := ⟨by decide +kernel, rfl⟩
theorem i1_5 : Ins M1 5 (.iload_n 1) 1 6 := ⟨by decide +kernel, rfl⟩
theorem i1_6 : Ins M1 6 (.newarray .int) 2 8 := ⟨by decide +kernel, rfl⟩
theorem i1_8 : Ins M1 8 (.putfield 7) 3 11 := ⟨by decide +kernel, rfl⟩
theorem i1_11 : Ins M1 11 (.aload_n 0) 1 12 := ⟨by decide +kernel, rfl⟩
theorem i1_12 : Ins M1 12 (.iload_n 1) 1 13 := ⟨by decide +kernel, rfl⟩
theorem i1_13 : Ins M1 13 (.newarray .int) 2 15 := ⟨by decide +kernel, rfl⟩
theorem i1_15 : Ins M1 15 (.putfield 13) 3 18 := ⟨by decide +kernel, rfl⟩
theorem i1_18 : Ins M1 18 (.iconst 0) 1 19 := ⟨by decide +kernel, rfl⟩
theorem i1_19 : Ins M1 19 (.istore_n 2) 1 20 := ⟨by decide +kernel, rfl⟩
theorem i1_20 : Ins M1 20 (.iload_n 2) 1 21 := ⟨by decide +kernel, rfl⟩
theorem i1_21 : Ins M1 21 (.iload_n 1) 1 22 := ⟨by decide +kernel, rfl⟩
theorem i1_22 : Ins M1 22 (.if_icmp .ge 23) 3 25 := ⟨by decide +kernel, rfl⟩
theorem i1_25 : Ins M1 25 (.aload_n 0) 1 26 := ⟨by decide +kernel, rfl⟩
theorem i1_26 : Ins M1 26 (.getfield 7) 3 29 := ⟨by decide +kernel, rfl⟩
theorem i1_29 : Ins M1 29 (.iload_n 2) 1 30 := ⟨by decide +kernel, rfl⟩
theorem i1_30 : Ins M1 30 (.iload_n 2) 1 31 := ⟨by decide +kernel, rfl⟩
theorem i1_31 : Ins M1 31 (.iastore) 1 32 := ⟨by decide +kernel, rfl⟩
theorem i1_32 : Ins M1 32 (.aload_n 0) 1 33 := ⟨by decide +kernel, rfl⟩
theorem i1_33 : Ins M1 33 (.getfield 13) 3 36 := ⟨by decide +kernel, rfl⟩
theorem i1_36 : Ins M1 36 (.iload_n 2) 1 37 := ⟨by decide +kernel, rfl⟩
theorem i1_37 : Ins M1 37 (.iconst 1) 1 38 := ⟨by decide +kernel, rfl⟩
theorem i1_38 : Ins M1 38 (.iastore) 1 39 := ⟨by decide +kernel, rfl⟩
theorem i1_39 : Ins M1 39 (.iinc 2 1) 3 42 := ⟨by decide +kernel, rfl⟩
theorem i1_42 : Ins M1 42 (.goto (-22)) 3 45 := ⟨by decide +kernel, rfl⟩
theorem i1_45 : Ins M1 45 (.return_) 1 46 := ⟨by decide +kernel, rfl⟩
theorem pn1 : plainFor M1.1 = true := plainFor_of_name (by first | (simp [plainName, overriddenIn, M1, x]; done) | decide +kernel)
theorem pd1 : parseMethodDescriptor M1.1.desc = some ⟨[.int], none⟩ := by decide +kernel
def M3 : GM := (⟨"com/example/hedgewire/hedgewire/graph/DisjointSets", "find", "(I)I"⟩, prog_26_method_2_code, 3, some (.int))
theorem i3_0 : Ins M3 0 (.iload_n 1) 1 1 := ⟨by decide +kernel, rfl⟩
theorem i3_1 : Ins M3 1 (.istore_n 2) 1 2 := ⟨by decide +kernel, rfl⟩
theorem i3_2 : Ins M3 2 (.aload_n 0) 1 3 := ⟨by decide +kernel, rfl⟩
theorem i3_3 : Ins M3 3 (.getfield 7) 3 6 := ⟨by decide +kernel, rfl⟩
theorem i3_6 : Ins M3 6 (.iload_n 2) 1 7 := ⟨by decide +kernel, rfl⟩
theorem i3_7 : Ins M3 7 (.iaload) 1 8 := ⟨by decide +kernel, rfl⟩
theorem i3_8 : Ins M3 8 (.iload_n 2) 1 9 := ⟨by decide +kernel, rfl⟩
theorem i3_9 : Ins M3 9 (.if_icmp .eq 30) 3 12 := ⟨by decide +kernel, rfl⟩
theorem i3_12 : Ins M3 12 (.aload_n 0) 1 13 := ⟨by decide +kernel, rfl⟩
theorem i3_13 : Ins M3 13 (.getfield 7) 3 16 := ⟨by decide +kernel, rfl⟩
theorem i3_16 : Ins M3 16 (.iload_n 2) 1 17 := ⟨by decide +kernel, rfl⟩
theorem i3_17 : Ins M3 17 (.aload_n 0) 1 18 := ⟨by decide +kernel, rfl⟩
theorem i3_18 : Ins M3 18 (.getfield 7) 3 21 := ⟨by decide +kernel, rfl⟩
theorem i3_21 : Ins M3 21 (.aload_n 0) 1 22 := ⟨by decide +kernel, rfl⟩
theorem i3_22 : Ins M3 22 (.getfield 7) 3 25 := ⟨by decide +kernel, rfl⟩
theorem i3_25 : Ins M3 25 (.iload_n 2) 1 26 := ⟨by decide +kernel, rfl⟩
theorem i3_26 : Ins M3 26 (.iaload) 1 27 := ⟨by decide +kernel, rfl⟩
theorem i3_27 : Ins M3 27 (.iaload) 1 28 := ⟨by decide +kernel, rfl⟩
theorem i3_28 : Ins M3 28 (.iastore) 1 29 := ⟨by decide +kernel, rfl⟩
theorem i3_29 : Ins M3 29 (.aload_n 0) 1 30 := ⟨by decide +kernel, rfl⟩
theorem i3_30 : Ins M3 30 (.getfield 7) 3 33 := ⟨by decide +kernel, rfl⟩
theorem i3_33 : Ins M3 33 (.iload_n 2) 1 34 := ⟨by decide +kernel, rfl⟩
theorem i3_34 : Ins M3 34 (.iaload) 1 35 := ⟨by decide +kernel, rfl⟩
theorem i3_35 : Ins M3 35 (.istore_n 2) 1 36 := ⟨by decide +kernel, rfl⟩
theorem i3_36 : Ins M3 36 (.goto (-34)) 3 39 := ⟨by decide +kernel, rfl⟩
theorem i3_39 : Ins M3 39 (.iload_n 2) 1 40 := ⟨by decide +kernel, rfl⟩
theorem i3_40 : Ins M3 40 (.ireturn) 1 41 := ⟨by decide +kernel, rfl⟩
theorem pn3 : plainFor M3.1 = true := plainFor_of_name (by first | (simp [plainName, overriddenIn, M3, x]; done) | decide +kernel)
theorem pd3 : parseMethodDescriptor M3.1.desc = some ⟨[.int], some (.int)⟩ := by decide +kernel
def M4 : GM := (⟨"com/example/hedgewire/hedgewire/graph/DisjointSets", "union", "(II)Z"⟩, prog_26_method_3_code, 6, some (.boolean))
theorem i4_0 : Ins M4 0 (.aload_n 0) 1 1 := ⟨by decide +kernel, rfl⟩
theorem i4_1 : Ins M4 1 (.iload_n 1) 1 2 := ⟨by decide +kernel, rfl⟩
theorem i4_2 : Ins M4 2 (.invokevirtual 16) 3 5 := ⟨by decide +kernel, rfl⟩
theorem i4_5 : Ins M4 5 (.istore_n 3) 1 6 := ⟨by decide +kernel, rfl⟩
theorem i4_6 : Ins M4 6 (.aload_n 0) 1 7 := ⟨by decide +kernel, rfl⟩
theorem i4_7 : Ins M4 7 (.iload_n 2) 1 8 := ⟨by decide +kernel, rfl⟩
theorem i4_8 : Ins M4 8 (.invokevirtual 16) 3 11 := ⟨by decide +kernel, rfl⟩
theorem i4_11 : Ins M4 11 (.istore 4) 2 13 := ⟨by decide +kernel, rfl⟩
theorem i4_13 : Ins M4 13 (.iload_n 3) 1 14 := ⟨by decide +kernel, rfl⟩
theorem i4_14 : Ins M4 14 (.iload 4) 2 16 := ⟨by decide +kernel, rfl⟩
theorem i4_16 : Ins M4 16 (.if_icmp .ne 5) 3 19 := ⟨by decide +kernel, rfl⟩
theorem i4_19 : Ins M4 19 (.iconst 0) 1 20 := ⟨by decide +kernel, rfl⟩
theorem i4_20 : Ins M4 20 (.ireturn) 1 21 := ⟨by decide +kernel, rfl⟩
theorem i4_21 : Ins M4 21 (.aload_n 0) 1 22 := ⟨by decide +kernel, rfl⟩
theorem i4_22 : Ins M4 22 (.getfield 13) 3 25 := ⟨by decide +kernel, rfl⟩
theorem i4_25 : Ins M4 25 (.iload_n 3) 1 26 := ⟨by decide +kernel, rfl⟩
theorem i4_26 : Ins M4 26 (.iaload) 1 27 := ⟨by decide +kernel, rfl⟩
theorem i4_27 : Ins M4 27 (.aload_n 0) 1 28 := ⟨by decide +kernel, rfl⟩
theorem i4_28 : Ins M4 28 (.getfield 13) 3 31 := ⟨by decide +kernel, rfl⟩
theorem i4_31 : Ins M4 31 (.iload 4) 2 33 := ⟨by decide +kernel, rfl⟩
theorem i4_33 : Ins M4 33 (.iaload) 1 34 := ⟨by decide +kernel, rfl⟩
theorem i4_34 : Ins M4 34 (.if_icmp .ge 13) 3 37 := ⟨by decide +kernel, rfl⟩
theorem i4_37 : Ins M4 37 (.iload_n 3) 1 38 := ⟨by decide +kernel, rfl⟩
theorem i4_38 : Ins M4 38 (.istore 5) 2 40 := ⟨by decide +kernel, rfl⟩
theorem i4_40 : Ins M4 40 (.iload 4) 2 42 := ⟨by decide +kernel, rfl⟩
theorem i4_42 : Ins M4 42 (.istore_n 3) 1 43 := ⟨by decide +kernel, rfl⟩
theorem i4_43 : Ins M4 43 (.iload 5) 2 45 := ⟨by decide +kernel, rfl⟩
theorem i4_45 : Ins M4 45 (.istore 4) 2 47 := ⟨by decide +kernel, rfl⟩
theorem i4_47 : Ins M4 47 (.aload_n 0) 1 48 := ⟨by decide +kernel, rfl⟩
theorem i4_48 : Ins M4 48 (.getfield 7) 3 51 := ⟨by decide +kernel, rfl⟩
theorem i4_51 : Ins M4 51 (.iload 4) 2 53 := ⟨by decide +kernel, rfl⟩
theorem i4_53 : Ins M4 53 (.iload_n 3) 1 54 := ⟨by decide +kernel, rfl⟩
theorem i4_54 : Ins M4 54 (.iastore) 1 55 := ⟨by decide +kernel, rfl⟩
theorem i4_55 : Ins M4 55 (.aload_n 0) 1 56 := ⟨by decide +kernel, rfl⟩
theorem i4_56 : Ins M4 56 (.getfield 13) 3 59 := ⟨by decide +kernel, rfl⟩
theorem i4_59 : Ins M4 59 (.iload_n 3) 1 60 := ⟨by decide +kernel, rfl⟩
theorem i4_60 : Ins M4 60 (.dup2) 1 61 := ⟨by decide +kernel, rfl⟩
theorem i4_61 : Ins M4 61 (.iaload) 1 62 := ⟨by decide +kernel, rfl⟩
theorem i4_62 : Ins M4 62 (.aload_n 0) 1 63 := ⟨by decide +kernel, rfl⟩
theorem i4_63 : Ins M4 63 (.getfield 13) 3 66 := ⟨by decide +kernel, rfl⟩
theorem i4_66 : Ins M4 66 (.iload 4) 2 68 := ⟨by decide +kernel, rfl⟩
theorem i4_68 : Ins M4 68 (.iaload) 1 69 := ⟨by decide +kernel, rfl⟩
theorem i4_69 : Ins M4 69 (.iadd) 1 70 := ⟨by decide +kernel, rfl⟩
theorem i4_70 : Ins M4 70 (.iastore) 1 71 := ⟨by decide +kernel, rfl⟩
theorem i4_71 : Ins M4 71 (.iconst 1) 1 72 := ⟨by decide +kernel, rfl⟩
theorem i4_72 : Ins M4 72 (.ireturn) 1 73 := ⟨by decide +kernel, rfl⟩
theorem pn4 : plainFor M4.1 = true := plainFor_of_name (by first | (simp [plainName, overriddenIn, M4, x]; done) | decide +kernel)
theorem pd4 : parseMethodDescriptor M4.1.desc = some ⟨[.int, .int], some (.boolean)⟩ := by decide +kernel
def M5 : GM := (⟨"com/example/hedgewire/hedgewire/graph/DisjointSetsFindPinLaw", "merge", "([III)V"⟩, method_2_code, 6, none)
theorem i5_0 : Ins M5 0 (.aload_n 0) 1 1 := ⟨by decide +kernel, rfl⟩
theorem i5_1 : Ins M5 1 (.iload_n 1) 1 2 := ⟨by decide +kernel, rfl⟩
theorem i5_2 : Ins M5 2 (.iaload) 1 3 := ⟨by decide +kernel, rfl⟩
theorem i5_3 : Ins M5 3 (.istore_n 3) 1 4 := ⟨by decide +kernel, rfl⟩
theorem i5_4 : Ins M5 4 (.aload_n 0) 1 5 := ⟨by decide +kernel, rfl⟩
theorem i5_5 : Ins M5 5 (.iload_n 2) 1 6 := ⟨by decide +kernel, rfl⟩
theorem i5_6 : Ins M5 6 (.iaload) 1 7 := ⟨by decide +kernel, rfl⟩
theorem i5_7 : Ins M5 7 (.istore 4) 2 9 := ⟨by decide +kernel, rfl⟩
theorem i5_9 : Ins M5 9 (.iload_n 3) 1 10 := ⟨by decide +kernel, rfl⟩
theorem i5_10 : Ins M5 10 (.iload 4) 2 12 := ⟨by decide +kernel, rfl⟩
theorem i5_12 : Ins M5 12 (.ior) 1 13 := ⟨by decide +kernel, rfl⟩
theorem i5_13 : Ins M5 13 (.istore 5) 2 15 := ⟨by decide +kernel, rfl⟩
theorem i5_15 : Ins M5 15 (.aload_n 0) 1 16 := ⟨by decide +kernel, rfl⟩
theorem i5_16 : Ins M5 16 (.iconst 0) 1 17 := ⟨by decide +kernel, rfl⟩
theorem i5_17 : Ins M5 17 (.iaload) 1 18 := ⟨by decide +kernel, rfl⟩
theorem i5_18 : Ins M5 18 (.iload_n 3) 1 19 := ⟨by decide +kernel, rfl⟩
theorem i5_19 : Ins M5 19 (.if_icmp .eq 11) 3 22 := ⟨by decide +kernel, rfl⟩
theorem i5_22 : Ins M5 22 (.aload_n 0) 1 23 := ⟨by decide +kernel, rfl⟩
theorem i5_23 : Ins M5 23 (.iconst 0) 1 24 := ⟨by decide +kernel, rfl⟩
theorem i5_24 : Ins M5 24 (.iaload) 1 25 := ⟨by decide +kernel, rfl⟩
theorem i5_25 : Ins M5 25 (.iload 4) 2 27 := ⟨by decide +kernel, rfl⟩
theorem i5_27 : Ins M5 27 (.if_icmp .ne 8) 3 30 := ⟨by decide +kernel, rfl⟩
theorem i5_30 : Ins M5 30 (.aload_n 0) 1 31 := ⟨by decide +kernel, rfl⟩
theorem i5_31 : Ins M5 31 (.iconst 0) 1 32 := ⟨by decide +kernel, rfl⟩
theorem i5_32 : Ins M5 32 (.iload 5) 2 34 := ⟨by decide +kernel, rfl⟩
theorem i5_34 : Ins M5 34 (.iastore) 1 35 := ⟨by decide +kernel, rfl⟩
theorem i5_35 : Ins M5 35 (.aload_n 0) 1 36 := ⟨by decide +kernel, rfl⟩
theorem i5_36 : Ins M5 36 (.iconst 1) 1 37 := ⟨by decide +kernel, rfl⟩
theorem i5_37 : Ins M5 37 (.iaload) 1 38 := ⟨by decide +kernel, rfl⟩
theorem i5_38 : Ins M5 38 (.iload_n 3) 1 39 := ⟨by decide +kernel, rfl⟩
theorem i5_39 : Ins M5 39 (.if_icmp .eq 11) 3 42 := ⟨by decide +kernel, rfl⟩
theorem i5_42 : Ins M5 42 (.aload_n 0) 1 43 := ⟨by decide +kernel, rfl⟩
theorem i5_43 : Ins M5 43 (.iconst 1) 1 44 := ⟨by decide +kernel, rfl⟩
theorem i5_44 : Ins M5 44 (.iaload) 1 45 := ⟨by decide +kernel, rfl⟩
theorem i5_45 : Ins M5 45 (.iload 4) 2 47 := ⟨by decide +kernel, rfl⟩
theorem i5_47 : Ins M5 47 (.if_icmp .ne 8) 3 50 := ⟨by decide +kernel, rfl⟩
theorem i5_50 : Ins M5 50 (.aload_n 0) 1 51 := ⟨by decide +kernel, rfl⟩
theorem i5_51 : Ins M5 51 (.iconst 1) 1 52 := ⟨by decide +kernel, rfl⟩
theorem i5_52 : Ins M5 52 (.iload 5) 2 54 := ⟨by decide +kernel, rfl⟩
theorem i5_54 : Ins M5 54 (.iastore) 1 55 := ⟨by decide +kernel, rfl⟩
theorem i5_55 : Ins M5 55 (.aload_n 0) 1 56 := ⟨by decide +kernel, rfl⟩
theorem i5_56 : Ins M5 56 (.iconst 2) 1 57 := ⟨by decide +kernel, rfl⟩
theorem i5_57 : Ins M5 57 (.iaload) 1 58 := ⟨by decide +kernel, rfl⟩
theorem i5_58 : Ins M5 58 (.iload_n 3) 1 59 := ⟨by decide +kernel, rfl⟩
theorem i5_59 : Ins M5 59 (.if_icmp .eq 11) 3 62 := ⟨by decide +kernel, rfl⟩
theorem i5_62 : Ins M5 62 (.aload_n 0) 1 63 := ⟨by decide +kernel, rfl⟩
theorem i5_63 : Ins M5 63 (.iconst 2) 1 64 := ⟨by decide +kernel, rfl⟩
theorem i5_64 : Ins M5 64 (.iaload) 1 65 := ⟨by decide +kernel, rfl⟩
theorem i5_65 : Ins M5 65 (.iload 4) 2 67 := ⟨by decide +kernel, rfl⟩
theorem i5_67 : Ins M5 67 (.if_icmp .ne 8) 3 70 := ⟨by decide +kernel, rfl⟩
theorem i5_70 : Ins M5 70 (.aload_n 0) 1 71 := ⟨by decide +kernel, rfl⟩
theorem i5_71 : Ins M5 71 (.iconst 2) 1 72 := ⟨by decide +kernel, rfl⟩
theorem i5_72 : Ins M5 72 (.iload 5) 2 74 := ⟨by decide +kernel, rfl⟩
theorem i5_74 : Ins M5 74 (.iastore) 1 75 := ⟨by decide +kernel, rfl⟩
theorem i5_75 : Ins M5 75 (.aload_n 0) 1 76 := ⟨by decide +kernel, rfl⟩
theorem i5_76 : Ins M5 76 (.iconst 3) 1 77 := ⟨by decide +kernel, rfl⟩
theorem i5_77 : Ins M5 77 (.iaload) 1 78 := ⟨by decide +kernel, rfl⟩
theorem i5_78 : Ins M5 78 (.iload_n 3) 1 79 := ⟨by decide +kernel, rfl⟩
theorem i5_79 : Ins M5 79 (.if_icmp .eq 11) 3 82 := ⟨by decide +kernel, rfl⟩
theorem i5_82 : Ins M5 82 (.aload_n 0) 1 83 := ⟨by decide +kernel, rfl⟩
theorem i5_83 : Ins M5 83 (.iconst 3) 1 84 := ⟨by decide +kernel, rfl⟩
theorem i5_84 : Ins M5 84 (.iaload) 1 85 := ⟨by decide +kernel, rfl⟩
theorem i5_85 : Ins M5 85 (.iload 4) 2 87 := ⟨by decide +kernel, rfl⟩
theorem i5_87 : Ins M5 87 (.if_icmp .ne 8) 3 90 := ⟨by decide +kernel, rfl⟩
theorem i5_90 : Ins M5 90 (.aload_n 0) 1 91 := ⟨by decide +kernel, rfl⟩
theorem i5_91 : Ins M5 91 (.iconst 3) 1 92 := ⟨by decide +kernel, rfl⟩
theorem i5_92 : Ins M5 92 (.iload 5) 2 94 := ⟨by decide +kernel, rfl⟩
theorem i5_94 : Ins M5 94 (.iastore) 1 95 := ⟨by decide +kernel, rfl⟩
theorem i5_95 : Ins M5 95 (.return_) 1 96 := ⟨by decide +kernel, rfl⟩
theorem pn5 : plainFor M5.1 = true := plainFor_of_name (by first | (simp [plainName, overriddenIn, M5, x]; done) | decide +kernel)
theorem pd5 : parseMethodDescriptor M5.1.desc = some ⟨[(.array .int), .int, .int], none⟩ := by decide +kernel
def KD : GLay := ("com/example/hedgewire/hedgewire/graph/DisjointSets", [("com/example/hedgewire/hedgewire/graph/DisjointSets", "parent", "[I", (.array .int)), ("com/example/hedgewire/hedgewire/graph/DisjointSets", "size", "[I", (.array .int))])
theorem KD_ok {Z : State} {a0 : Array Value} (hw : ∀ d ∈ tables_1, d.before a0 Z = true) : LayOk Z a0 KD := by
  refine ⟨⟨2, (hw _ (List.mem_of_getElem? (i := 1) rfl))⟩, fun q hq => ?_, by decide +kernel⟩
  simp only [KD, List.mem_cons, List.not_mem_nil, or_false] at hq
  rcases hq with rfl | rfl
  · exact ⟨Or.inr (hw _ (List.mem_of_getElem? (i := 11) rfl)), by decide⟩
  · exact ⟨Or.inr (hw _ (List.mem_of_getElem? (i := 13) rfl)), by decide⟩
variable {Z : State} {a0 : Array Value} {n0 : Nat}
def fnd : Nat → List Nat → Nat → Option (Nat × List Nat)
  | 0, _, _ => none
  | f + 1, p, x => if p.getD x 0 = x then some (x, p) else fnd f (p.set x (p.getD (p.getD x 0) 0)) ((p.set x (p.getD (p.getD x 0) 0)).getD x 0)
def fndD (p : List Nat) (x : Nat) : Nat × List Nat := (fnd 4 p x).getD (0, p)
def uniP (ra rb : Nat) (p sz : List Nat) : List Nat := if ra = rb then p else if sz.getD ra 0 < sz.getD rb 0 then p.set ra rb else p.set rb ra
def uniS (ra rb : Nat) (sz : List Nat) : List Nat := if ra = rb then sz else if sz.getD ra 0 < sz.getD rb 0 then sz.set rb (sz.getD rb 0 + sz.getD ra 0) else sz.set ra (sz.getD ra 0 + sz.getD rb 0)
def mrg (lab : List Nat) (a b : Nat) : List Nat := lab.map fun l => if l = lab.getD a 0 ∨ l = lab.getD b 0 then lab.getD a 0 ||| lab.getD b 0 else l
def v4 (p : List Nat) (m : Nat) : Bool := p.length == 4 && p.all (fun x => decide (x < m))
def okF (p : List Nat) (x : Nat) : Bool := (fnd 4 p x).isSome && v4 p 4 && decide ((fndD p x).1 < 4)
def finOK (s : List Nat × List Nat × List Nat) (x y : Nat) : Bool :=
  okF s.1 x && okF (fndD s.1 x).2 y && okF (fndD (fndD s.1 x).2 y).2 (fndD s.1 x).1 && okF (fndD (fndD (fndD s.1 x).2 y).2 (fndD s.1 x).1).2 x && v4 s.2.2 16 &&
  decide ((fndD (fndD (fndD s.1 x).2 y).2 (fndD s.1 x).1).1 = (fndD s.1 x).1) && decide ((fndD (fndD (fndD (fndD s.1 x).2 y).2 (fndD s.1 x).1).2 x).1 = (fndD s.1 x).1) &&
  decide ((s.2.2.getD x 0 >>> (fndD s.1 x).1) &&& 1 = 1) && decide (((fndD s.1 x).1 = (fndD (fndD s.1 x).2 y).1) ↔ (s.2.2.getD x 0 = s.2.2.getD y 0))
def own_R : List (List Nat × List Nat × List Nat) := [([0, 1, 2, 3], [1, 1, 1, 1], [1, 2, 4, 8]), ([0, 0, 2, 3], [2, 1, 1, 1], [3, 3, 4, 8]), ([0, 1, 0, 3], [2, 1, 1, 1], [5, 2, 5, 8]), ([0, 1, 2, 0], [2, 1, 1, 1], [9, 2, 4, 9]), ([1, 1, 2, 3], [1, 2, 1, 1], [3, 3, 4, 8]), ([0, 1, 1, 3], [1, 2, 1, 1], [1, 6, 6, 8]), ([0, 1, 2, 1], [1, 2, 1, 1], [1, 10, 4, 10]), ([2, 1, 2, 3], [1, 1, 2, 1], [5, 2, 5, 8]), ([0, 2, 2, 3], [1, 1, 2, 1], [1, 6, 6, 8]), ([0, 1, 2, 2], [1, 1, 2, 1], [1, 2, 12, 12]), ([3, 1, 2, 3], [1, 1, 1, 2], [9, 2, 4, 9]), ([0, 3, 2, 3], [1, 1, 1, 2], [1, 10, 4, 10]), ([0, 1, 3, 3], [1, 1, 1, 2], [1, 2, 12, 12]), ([0, 0, 3, 3], [2, 1, 1, 2], [3, 3, 12, 12]), ([3, 1, 3, 3], [1, 1, 1, 3], [13, 2, 13, 13]), ([1, 1, 3, 3], [1, 2, 1, 2], [3, 3, 12, 12]), ([0, 3, 3, 3], [1, 1, 1, 3], [1, 14, 14, 14]), ([3, 3, 3, 3], [1, 1, 1, 4], [15, 15, 15, 15]), ([1, 1, 3, 1], [1, 4, 1, 2], [15, 15, 15, 15]), ([1, 3, 3, 3], [1, 2, 1, 4], [15, 15, 15, 15]), ([3, 3, 3, 3], [1, 2, 1, 4], [15, 15, 15, 15]), ([1, 1, 1, 1], [1, 4, 1, 2], [15, 15, 15, 15]), ([0, 0, 3, 0], [4, 1, 1, 2], [15, 15, 15, 15]), ([3, 0, 3, 3], [2, 1, 1, 4], [15, 15, 15, 15]), ([3, 3, 3, 3], [2, 1, 1, 4], [15, 15, 15, 15]), ([0, 0, 0, 0], [4, 1, 1, 2], [15, 15, 15, 15]), ([3, 3, 2, 3], [1, 1, 1, 3], [11, 11, 4, 11]), ([0, 3, 0, 3], [2, 1, 1, 2], [5, 10, 5, 10]), ([2, 3, 2, 3], [1, 1, 2, 2], [5, 10, 5, 10]), ([2, 3, 2, 2], [1, 1, 4, 2], [15, 15, 15, 15]), ([2, 3, 3, 3], [1, 1, 2, 4], [15, 15, 15, 15]), ([3, 3, 3, 3], [1, 1, 2, 4], [15, 15, 15, 15]), ([2, 2, 2, 2], [1, 1, 4, 2], [15, 15, 15, 15]), ([0, 3, 0, 0], [4, 1, 1, 2], [15, 15, 15, 15]), ([3, 3, 0, 3], [2, 1, 1, 4], [15, 15, 15, 15]), ([3, 1, 1, 3], [1, 2, 1, 2], [9, 6, 6, 9]), ([3, 2, 2, 3], [1, 1, 2, 2], [9, 6, 6, 9]), ([3, 2, 3, 3], [1, 1, 2, 4], [15, 15, 15, 15]), ([3, 2, 2, 2], [1, 1, 4, 2], [15, 15, 15, 15]), ([3, 3, 1, 3], [1, 2, 1, 4], [15, 15, 15, 15]), ([3, 1, 1, 1], [1, 4, 1, 2], [15, 15, 15, 15]), ([0, 0, 2, 2], [2, 1, 2, 1], [3, 3, 12, 12]), ([2, 1, 2, 2], [1, 1, 3, 1], [13, 2, 13, 13]), ([1, 1, 2, 2], [1, 2, 2, 1], [3, 3, 12, 12]), ([0, 2, 2, 2], [1, 1, 3, 1], [1, 14, 14, 14]), ([2, 2, 2, 2], [1, 1, 4, 1], [15, 15, 15, 15]), ([1, 1, 1, 2], [1, 4, 2, 1], [15, 15, 15, 15]), ([1, 2, 2, 2], [1, 2, 4, 1], [15, 15, 15, 15]), ([2, 2, 2, 2], [1, 2, 4, 1], [15, 15, 15, 15]), ([1, 1, 1, 1], [1, 4, 2, 1], [15, 15, 15, 15]), ([0, 0, 0, 2], [4, 1, 2, 1], [15, 15, 15, 15]), ([2, 0, 2, 2], [2, 1, 4, 1], [15, 15, 15, 15]), ([2, 2, 2, 2], [2, 1, 4, 1], [15, 15, 15, 15]), ([0, 0, 0, 0], [4, 1, 2, 1], [15, 15, 15, 15]), ([2, 2, 2, 3], [1, 1, 3, 1], [7, 7, 7, 8]), ([0, 2, 2, 0], [2, 1, 2, 1], [9, 6, 6, 9]), ([0, 2, 0, 0], [4, 1, 2, 1], [15, 15, 15, 15]), ([2, 2, 2, 0], [2, 1, 4, 1], [15, 15, 15, 15]), ([2, 1, 2, 1], [1, 2, 2, 1], [5, 10, 5, 10]), ([2, 2, 2, 1], [1, 2, 4, 1], [15, 15, 15, 15]), ([2, 1, 1, 1], [1, 4, 2, 1], [15, 15, 15, 15]), ([1, 1, 2, 1], [1, 3, 1, 1], [11, 11, 4, 11]), ([0, 1, 0, 1], [2, 2, 1, 1], [5, 10, 5, 10]), ([0, 1, 1, 1], [1, 3, 1, 1], [1, 14, 14, 14]), ([1, 1, 1, 1], [1, 4, 1, 1], [15, 15, 15, 15]), ([0, 0, 0, 1], [4, 2, 1, 1], [15, 15, 15, 15]), ([1, 1, 0, 1], [2, 4, 1, 1], [15, 15, 15, 15]), ([1, 1, 1, 1], [2, 4, 1, 1], [15, 15, 15, 15]), ([0, 0, 0, 0], [4, 2, 1, 1], [15, 15, 15, 15]), ([1, 1, 1, 3], [1, 3, 1, 1], [7, 7, 7, 8]), ([0, 1, 1, 0], [2, 2, 1, 1], [9, 6, 6, 9]), ([0, 0, 1, 0], [4, 2, 1, 1], [15, 15, 15, 15]), ([1, 1, 1, 0], [2, 4, 1, 1], [15, 15, 15, 15]), ([0, 0, 2, 0], [3, 1, 1, 1], [11, 11, 4, 11]), ([0, 1, 0, 0], [3, 1, 1, 1], [13, 2, 13, 13]), ([0, 0, 0, 0], [4, 1, 1, 1], [15, 15, 15, 15]), ([0, 0, 0, 3], [3, 1, 1, 1], [7, 7, 7, 8])]
def stepOK (s : List Nat × List Nat × List Nat) (a b : Nat) : Bool :=
  okF s.1 a && okF (fndD s.1 a).2 b && v4 (fndD (fndD s.1 a).2 b).2 4 && v4 s.2.1 16 && v4 s.2.2 16 &&
  own_R.contains (uniP (fndD s.1 a).1 (fndD (fndD s.1 a).2 b).1 (fndD (fndD s.1 a).2 b).2 s.2.1, uniS (fndD s.1 a).1 (fndD (fndD s.1 a).2 b).1 s.2.1, mrg s.2.2 a b)
theorem all_fin : (own_R.all fun s => (List.range 4).all fun x => (List.range 4).all fun y => finOK s x y) = true := by decide +kernel
theorem all_step : (own_R.all fun s => (List.range 4).all fun x => (List.range 4).all fun y => stepOK s x y) = true := by decide +kernel
theorem own_ofNat (i : Nat) (h : i ≤ 1000) : (Int32.ofNat i).toInt = (i : Int) := len_toInt (by omega)
theorem own_inj {a b : Nat} (ha : a ≤ 1000) (hb : b ≤ 1000) : Int32.ofNat a = Int32.ofNat b ↔ a = b := by
  rw [← Int32.toInt_inj, own_ofNat a ha, own_ofNat b hb]; omega
theorem own_lt {a b : Nat} (ha : a ≤ 1000) (hb : b ≤ 1000) : Int32.ofNat a < Int32.ofNat b ↔ a < b := by
  rw [Int32.lt_iff_toInt_lt, own_ofNat a ha, own_ofNat b hb]; omega
theorem own_add {a b : Nat} (ha : a ≤ 400) (hb : b ≤ 400) : Int32.ofNat a + Int32.ofNat b = Int32.ofNat (a + b) := by
  apply Int32.toInt_inj.mp
  have h1 := c_iadd (Int32.ofNat a) (Int32.ofNat b)
  have h2 := rng32 (Int32.ofNat a + Int32.ofNat b)
  rw [own_ofNat a (by omega), own_ofNat b (by omega)] at h1
  rw [own_ofNat (a + b) (by omega)]
  omega
def enc (l : List Nat) : List Value := l.map fun n => Value.int (Int32.ofNat n)
theorem enc_get {l : List Nat} {i : Nat} (h : i < l.length) : (enc l)[i]? = some (.int (Int32.ofNat (l.getD i 0))) := by
  simp [enc, h]
theorem enc_set (l : List Nat) (i v : Nat) : (enc l).set i (.int (Int32.ofNat v)) = enc (l.set i v) := by
  simp [enc, List.map_set]
theorem v4_spec {p : List Nat} {m : Nat} (h : v4 p m = true) : p.length = 4 ∧ ∀ i, i < 4 → p.getD i 0 < m := by
  simp only [v4, Bool.and_eq_true, beq_iff_eq, List.all_eq_true, decide_eq_true_eq] at h
  refine ⟨h.1, fun i hi => ?_⟩
  rw [List.getD_eq_getElem?_getD, List.getElem?_eq_getElem (by omega)]
  exact h.2 _ (List.getElem_mem _)
theorem v4_set {p : List Nat} {m i v : Nat} (h : v4 p m = true) (hv : v < m) : v4 (p.set i v) m = true := by
  simp only [v4, Bool.and_eq_true, beq_iff_eq, List.all_eq_true, decide_eq_true_eq] at h ⊢
  refine ⟨by simp [h.1], fun x hx => ?_⟩
  rcases List.mem_or_eq_of_mem_set hx with q | q
  · exact h.2 x q
  · omega
abbrev HD (n0 : Nat) (p sz lab : List Nat) : List GObj := [.inl (KD, [.ref (n0 + 1), .ref (n0 + 2)]), .inr (.int, enc p), .inr (.int, enc sz), .inr (.int, enc lab)]
abbrev own_R0 : Room := { frames := 0, cells := 0, slots := 0, locals := 0 }
/-! find -/
theorem g2 (hw : ∀ d ∈ tables_1, d.before a0 Z = true) (sz lab : List Nat) (y r : Nat) (p' : List Nat) (f : Nat) : ∀ (p : List Nat) (x : Nat), v4 p 4 = true → x < 4 → fnd f p x = some (r, p') →
    Go Z a0 n0 M3 own_R0 (Eq1 (.int (Int32.ofNat r)) (HD n0 p' sz lab)) 2 [.val (.ref (n0 + 0)), .val (.int (Int32.ofNat y)), .val (.int (Int32.ofNat x))] [] (HD n0 p sz lab) 0 0 := by
  induction f with
  | zero => intro p x _ _ h; simp [fnd] at h
  | succ f ih =>
    intro p x hv hx h
    obtain ⟨hl, hb⟩ := v4_spec hv
    have hpx := hb x hx
    have i1 := own_ofNat x (by omega)
    have i2 := own_ofNat (p.getD x 0) (by omega)
    refine go_aloadN i3_2 rfl ?_
    refine go_getfield 0 i3_3 (hw _ (List.mem_of_getElem? (i := 10) rfl)) rfl rfl rfl ?_
    refine go_iloadN i3_6 rfl ?_
    refine go_iaload i3_7 rfl i1 (enc_get (by omega)) ?_
    refine go_iloadN i3_8 rfl ?_
    by_cases e : p.getD x 0 = x
    · rw [fnd, if_pos e] at h
      obtain ⟨rfl, rfl⟩ : x = r ∧ p = p' := by simpa using h
      refine go_icmpT 39 i3_9 (by decide) ((hold_eq _ _).1.mpr ((own_inj (by omega) (by omega)).mpr e)) ?_
      refine go_iloadN i3_39 rfl ?_
      refine go_ireturn i3_40 rfl rfl (Or.inl rfl) (by first | decide | exact Nat.le_of_ble_eq_true rfl | (simp only [room_1]; omega)) (by first | decide | exact Nat.le_of_ble_eq_true rfl | (simp only [room_1]; omega)) ?_
      exact ⟨rfl, rfl⟩
    · rw [fnd, if_neg e] at h
      refine go_icmpF i3_9 ((hold_eq _ _).2.mpr (fun q => e ((own_inj (by omega) (by omega)).mp q))) ?_
      refine go_aloadN i3_12 rfl ?_
      refine go_getfield 0 i3_13 (hw _ (List.mem_of_getElem? (i := 10) rfl)) rfl rfl rfl ?_
      refine go_iloadN i3_16 rfl ?_
      refine go_aloadN i3_17 rfl ?_
      refine go_getfield 0 i3_18 (hw _ (List.mem_of_getElem? (i := 10) rfl)) rfl rfl rfl ?_
      refine go_aloadN i3_21 rfl ?_
      refine go_getfield 0 i3_22 (hw _ (List.mem_of_getElem? (i := 10) rfl)) rfl rfl rfl ?_
      refine go_iloadN i3_25 rfl ?_
      refine go_iaload i3_26 rfl i1 (enc_get (by omega)) ?_
      refine go_iaload i3_27 rfl i2 (enc_get (by omega)) ?_
      refine go_iastore i3_28 rfl i1 (by rw [enc_get (by omega)]; rfl) ?_
      have hv' := v4_set (i := x) hv (hb _ hpx)
      rw [enc_set]
      change Go Z a0 n0 M3 own_R0 _ 29 _ _ (HD n0 (p.set x (p.getD (p.getD x 0) 0)) sz lab) _ _
      generalize p.set x (p.getD (p.getD x 0) 0) = p1 at *
      obtain ⟨hl1, hb1⟩ := v4_spec hv'
      refine go_aloadN i3_29 rfl ?_
      refine go_getfield 0 i3_30 (hw _ (List.mem_of_getElem? (i := 10) rfl)) rfl rfl rfl ?_
      refine go_iloadN i3_33 rfl ?_
      refine go_iaload i3_34 rfl i1 (enc_get (by omega)) ?_
      refine go_istore2 i3_35 (by first | exact One.u | exact One.val rfl) ?_
      refine go_goto 2 i3_36 (by decide) ?_
      exact ih p1 _ hv' (hb1 x hx) h
theorem met3 (hw : ∀ d ∈ tables_1, d.before a0 Z = true) (p sz lab : List Nat) (x r : Nat) (p' : List Nat) (hv : v4 p 4 = true) (hx : x < 4) (h : fnd 4 p x = some (r, p')) : Met Z a0 n0 M3 0 0 0 0 [.ref (n0 + 0), .int (Int32.ofNat x)] (HD n0 p sz lab) (Eq1 (.int (Int32.ofNat r)) (HD n0 p' sz lab)) := by
  refine MetW.intro [.val (.ref (n0 + 0)), .val (.int (Int32.ofNat x)), .unset] pn3 rfl ?_
  refine go_iloadN i3_0 rfl ?_
  refine go_istore2 i3_1 (by first | exact One.u | exact One.val rfl) ?_
  exact g2 hw sz lab x r p' 4 p x hv hx h
/-! union -/
theorem met4 (hw : ∀ d ∈ tables_1, d.before a0 Z = true) (p p1 p2 sz lab : List Nat) (a b ra rb : Nat) (ha : a < 4) (hb : b < 4) (h1 : fnd 4 p a = some (ra, p1)) (h2 : fnd 4 p1 b = some (rb, p2)) (v0 : v4 p 4 = true) (v1 : v4 p1 4 = true) (v2 : v4 p2 4 = true) (vs : v4 sz 16 = true) (hra : ra < 4) (hrb : rb < 4) :
    Met Z a0 n0 M4 1 14 0 0 [.ref (n0 + 0), .int (Int32.ofNat a), .int (Int32.ofNat b)] (HD n0 p sz lab) (fun v H' => (∃ r : Int32, v = some (.int r)) ∧ H' = HD n0 (uniP ra rb p2 sz) (uniS ra rb sz) lab) := by
  refine MetW.intro [.val (.ref (n0 + 0)), .val (.int (Int32.ofNat a)), .val (.int (Int32.ofNat b)), .unset, .unset, .unset] pn4 rfl ?_
  obtain ⟨l2, b2⟩ := v4_spec v2
  obtain ⟨ls, bs⟩ := v4_spec vs
  have ia := own_ofNat ra (by omega)
  have ib := own_ofNat rb (by omega)
  have ba := bs ra hra
  have bb := bs rb hrb
  refine go_aloadN i4_0 rfl ?_
  refine go_iloadN i4_1 rfl ?_
  refine go_virtual i4_2 (met3 hw p sz lab a ra p1 v0 ha h1) rfl (hw _ (List.mem_of_getElem? (i := 24) rfl)) (hw _ (List.mem_of_getElem? (i := 15) rfl)) (hw _ (List.mem_of_getElem? (i := 17) rfl)) (hw _ (List.mem_of_getElem? (i := 16) rfl)) (hw _ (List.mem_of_getElem? (i := 2) rfl)) (hw _ (List.mem_of_getElem? (i := 18) rfl)) rfl pd3 rfl rfl rfl (by first | decide | exact Nat.le_of_ble_eq_true rfl | (simp only [room_1]; omega)) (by first | decide | exact Nat.le_of_ble_eq_true rfl | (simp only [room_1]; omega)) (by first | decide | exact Nat.le_of_ble_eq_true rfl | (simp only [room_1]; omega)) (by first | decide | exact Nat.le_of_ble_eq_true rfl | (simp only [room_1]; omega)) (retE rfl ?_)
  refine go_istore3 i4_5 (by first | exact One.u | exact One.val rfl) ?_
  refine go_aloadN i4_6 rfl ?_
  refine go_iloadN i4_7 rfl ?_
  refine go_virtual i4_8 (met3 hw p1 sz lab b rb p2 v1 hb h2) rfl (hw _ (List.mem_of_getElem? (i := 24) rfl)) (hw _ (List.mem_of_getElem? (i := 15) rfl)) (hw _ (List.mem_of_getElem? (i := 17) rfl)) (hw _ (List.mem_of_getElem? (i := 16) rfl)) (hw _ (List.mem_of_getElem? (i := 2) rfl)) (hw _ (List.mem_of_getElem? (i := 18) rfl)) rfl pd3 rfl rfl rfl (by first | decide | exact Nat.le_of_ble_eq_true rfl | (simp only [room_1]; omega)) (by first | decide | exact Nat.le_of_ble_eq_true rfl | (simp only [room_1]; omega)) (by first | decide | exact Nat.le_of_ble_eq_true rfl | (simp only [room_1]; omega)) (by first | decide | exact Nat.le_of_ble_eq_true rfl | (simp only [room_1]; omega)) (retE rfl ?_)
  refine go_istore4 i4_11 (by first | exact One.u | exact One.val rfl) ?_
  refine go_iloadN i4_13 rfl ?_
  refine go_iload i4_14 rfl ?_
  by_cases e : ra = rb
  · refine go_icmpF i4_16 ((hold_ne _ _).2.mpr (by rw [e])) ?_
    refine go_iconst (v := (0 : Int32)) i4_19 (by decide) ?_
    refine go_ireturn i4_20 rfl rfl (Or.inr (Or.inl rfl)) (by first | decide | exact Nat.le_of_ble_eq_true rfl | (simp only [room_1]; omega)) (by first | decide | exact Nat.le_of_ble_eq_true rfl | (simp only [room_1]; omega)) ?_
    exact ⟨⟨_, rfl⟩, by rw [uniP, uniS, if_pos e, if_pos e]⟩
  refine go_icmpT 21 i4_16 (by decide) ((hold_ne _ _).1.mpr (fun q => e ((own_inj (by omega) (by omega)).mp q))) ?_
  refine go_aloadN i4_21 rfl ?_
  refine go_getfield 1 i4_22 (hw _ (List.mem_of_getElem? (i := 12) rfl)) rfl rfl rfl ?_
  refine go_iloadN i4_25 rfl ?_
  refine go_iaload i4_26 rfl ia (enc_get (by omega)) ?_
  refine go_aloadN i4_27 rfl ?_
  refine go_getfield 1 i4_28 (hw _ (List.mem_of_getElem? (i := 12) rfl)) rfl rfl rfl ?_
  refine go_iload i4_31 rfl ?_
  refine go_iaload i4_33 rfl ib (enc_get (by omega)) ?_
  by_cases c : sz.getD ra 0 < sz.getD rb 0
  · refine go_icmpF i4_34 ((hold_ge _ _).2.mpr ((own_lt (by omega) (by omega)).mpr c)) ?_
    refine go_iloadN i4_37 rfl ?_
    refine go_istore5 i4_38 (by first | exact One.u | exact One.val rfl) ?_
    refine go_iload i4_40 rfl ?_
    refine go_istore3 i4_42 (by first | exact One.u | exact One.val rfl) ?_
    refine go_iload i4_43 rfl ?_
    refine go_istore4 i4_45 (by first | exact One.u | exact One.val rfl) ?_
    refine go_aloadN i4_47 rfl ?_
    refine go_getfield 0 i4_48 (hw _ (List.mem_of_getElem? (i := 10) rfl)) rfl rfl rfl ?_
    refine go_iload i4_51 rfl ?_
    refine go_iloadN i4_53 rfl ?_
    refine go_iastore i4_54 rfl ia (by rw [enc_get (by omega)]; rfl) ?_
    rw [enc_set]
    refine go_aloadN i4_55 rfl ?_
    refine go_getfield 1 i4_56 (hw _ (List.mem_of_getElem? (i := 12) rfl)) rfl rfl rfl ?_
    refine go_iloadN i4_59 rfl ?_
    refine go_dup2 i4_60 rfl rfl ?_
    refine go_iaload i4_61 rfl ib (enc_get (by omega)) ?_
    refine go_aloadN i4_62 rfl ?_
    refine go_getfield 1 i4_63 (hw _ (List.mem_of_getElem? (i := 12) rfl)) rfl rfl rfl ?_
    refine go_iload i4_66 rfl ?_
    refine go_iaload i4_68 rfl ia (enc_get (by omega)) ?_
    refine go_iadd i4_69 ?_
    rw [own_add (by omega) (by omega)]
    refine go_iastore i4_70 rfl ib (by rw [enc_get (by omega)]; rfl) ?_
    refine go_iconst (v := (1 : Int32)) i4_71 (by decide) ?_
    refine go_ireturn i4_72 rfl rfl (Or.inr (Or.inl rfl)) (by first | decide | exact Nat.le_of_ble_eq_true rfl | (simp only [room_1]; omega)) (by first | decide | exact Nat.le_of_ble_eq_true rfl | (simp only [room_1]; omega)) ?_
    refine ⟨⟨_, rfl⟩, ?_⟩
    rw [uniP, uniS, if_neg e, if_neg e, if_pos c, if_pos c, enc_set]
    rfl
  · refine go_icmpT 47 i4_34 (by decide) ((hold_ge _ _).1.mpr (fun q => c ((own_lt (by omega) (by omega)).mp q))) ?_
    refine go_aloadN i4_47 rfl ?_
    refine go_getfield 0 i4_48 (hw _ (List.mem_of_getElem? (i := 10) rfl)) rfl rfl rfl ?_
    refine go_iload i4_51 rfl ?_
    refine go_iloadN i4_53 rfl ?_
    refine go_iastore i4_54 rfl ib (by rw [enc_get (by omega)]; rfl) ?_
    rw [enc_set]
    refine go_aloadN i4_55 rfl ?_
    refine go_getfield 1 i4_56 (hw _ (List.mem_of_getElem? (i := 12) rfl)) rfl rfl rfl ?_
    refine go_iloadN i4_59 rfl ?_
    refine go_dup2 i4_60 rfl rfl ?_
    refine go_iaload i4_61 rfl ia (enc_get (by omega)) ?_
    refine go_aloadN i4_62 rfl ?_
    refine go_getfield 1 i4_63 (hw _ (List.mem_of_getElem? (i := 12) rfl)) rfl rfl rfl ?_
    refine go_iload i4_66 rfl ?_
    refine go_iaload i4_68 rfl ib (enc_get (by omega)) ?_
    refine go_iadd i4_69 ?_
    rw [own_add (by omega) (by omega)]
    refine go_iastore i4_70 rfl ia (by rw [enc_get (by omega)]; rfl) ?_
    refine go_iconst (v := (1 : Int32)) i4_71 (by decide) ?_
    refine go_ireturn i4_72 rfl rfl (Or.inr (Or.inl rfl)) (by first | decide | exact Nat.le_of_ble_eq_true rfl | (simp only [room_1]; omega)) (by first | decide | exact Nat.le_of_ble_eq_true rfl | (simp only [room_1]; omega)) ?_
    refine ⟨⟨_, rfl⟩, ?_⟩
    rw [uniP, uniS, if_neg e, if_neg e, if_neg c, if_neg c, enc_set]
    rfl
/-! merge -/
theorem own_or : ∀ a b : Fin 16, Int32.ofNat a.val ||| Int32.ofNat b.val = Int32.ofNat (a.val ||| b.val) := by decide +kernel
theorem own_or16 : ∀ a b : Fin 16, a.val ||| b.val < 16 := by decide +kernel
abbrev own_u (l oa ob : Nat) : Nat := if l = oa ∨ l = ob then oa ||| ob else l
theorem met5 (hw : ∀ d ∈ tables_1, d.before a0 Z = true) (p sz : List Nat) (l0 l1 l2 l3 a b : Nat) (ha : a < 4) (hb : b < 4) (k0 : l0 < 16) (k1 : l1 < 16) (k2 : l2 < 16) (k3 : l3 < 16) : Met Z a0 n0 M5 0 0 0 0 [.ref (n0 + 3), .int (Int32.ofNat a), .int (Int32.ofNat b)] (HD n0 p sz [l0, l1, l2, l3]) (Eq0 (HD n0 p sz (mrg [l0, l1, l2, l3] a b))) := by
  refine MetW.intro [.val (.ref (n0 + 3)), .val (.int (Int32.ofNat a)), .val (.int (Int32.ofNat b)), .unset, .unset, .unset] pn5 rfl ?_
  obtain ⟨oa, hoa, koa⟩ : ∃ oa, [l0, l1, l2, l3].getD a 0 = oa ∧ oa < 16 := by
    refine ⟨_, rfl, ?_⟩
    rcases (by omega : a = 0 ∨ a = 1 ∨ a = 2 ∨ a = 3) with rfl | rfl | rfl | rfl <;> assumption
  obtain ⟨ob, hob, kob⟩ : ∃ ob, [l0, l1, l2, l3].getD b 0 = ob ∧ ob < 16 := by
    refine ⟨_, rfl, ?_⟩
    rcases (by omega : b = 0 ∨ b = 1 ∨ b = 2 ∨ b = 3) with rfl | rfl | rfl | rfl <;> assumption
  have ga : (enc [l0, l1, l2, l3])[a]? = some (.int (Int32.ofNat oa)) := by rw [enc_get (by simpa using ha), hoa]
  have gb : (enc [l0, l1, l2, l3])[b]? = some (.int (Int32.ofNat ob)) := by rw [enc_get (by simpa using hb), hob]
  have hm : mrg [l0, l1, l2, l3] a b = [own_u l0 oa ob, own_u l1 oa ob, own_u l2 oa ob, own_u l3 oa ob] := by simp only [mrg, hoa, hob, List.map_cons, List.map_nil]
  rw [hm]
  refine go_aloadN i5_0 rfl ?_
  refine go_iloadN i5_1 rfl ?_
  refine go_iaload i5_2 rfl (own_ofNat a (by omega)) ga ?_
  refine go_istore3 i5_3 (by first | exact One.u | exact One.val rfl) ?_
  refine go_aloadN i5_4 rfl ?_
  refine go_iloadN i5_5 rfl ?_
  refine go_iaload i5_6 rfl (own_ofNat b (by omega)) gb ?_
  refine go_istore4 i5_7 (by first | exact One.u | exact One.val rfl) ?_
  refine go_iloadN i5_9 rfl ?_
  refine go_iload i5_10 rfl ?_
  refine go_ior i5_12 ?_
  rw [own_or ⟨oa, koa⟩ ⟨ob, kob⟩]
  have ij : ∀ {x y : Nat}, x < 16 → y < 16 → (Int32.ofNat x = Int32.ofNat y ↔ x = y) := fun h1 h2 => own_inj (by omega) (by omega)
  refine go_istore5 i5_13 (by first | exact One.u | exact One.val rfl) ?_
  suffices h35 : Go Z a0 n0 M5 own_R0 (Eq0 (HD n0 p sz [own_u l0 oa ob, own_u l1 oa ob, own_u l2 oa ob, own_u l3 oa ob])) 35 [.val (.ref (n0 + 3)), .val (.int (Int32.ofNat a)), .val (.int (Int32.ofNat b)), .val (.int (Int32.ofNat oa)), .val (.int (Int32.ofNat ob)), .val (.int (Int32.ofNat (oa ||| ob)))] [] (HD n0 p sz [own_u l0 oa ob, l1, l2, l3]) 0 0 by
    refine go_aloadN i5_15 rfl ?_
    refine go_iconst (v := (0 : Int32)) i5_16 (by decide) ?_
    refine go_iaload (i := 0) i5_17 rfl (by decide) rfl ?_
    refine go_iloadN i5_18 rfl ?_
    refine go_icmp_eq 30 i5_19 (by decide) (fun h1 => ?_) (fun h1 => ?_)
    · rw [ij k0 koa] at h1
      rw [show own_u l0 oa ob = oa ||| ob from if_pos (Or.inl h1)] at h35 ⊢
      refine go_aloadN i5_30 rfl ?_
      refine go_iconst (v := (0 : Int32)) i5_31 (by decide) ?_
      refine go_iload i5_32 rfl ?_
      refine go_iastore (i := 0) i5_34 rfl (by decide) rfl ?_
      exact h35
    rw [ij k0 koa] at h1
    refine go_aloadN i5_22 rfl ?_
    refine go_iconst (v := (0 : Int32)) i5_23 (by decide) ?_
    refine go_iaload (i := 0) i5_24 rfl (by decide) rfl ?_
    refine go_iload i5_25 rfl ?_
    refine go_icmp_ne 35 i5_27 (by decide) (fun h2 => ?_) (fun h2 => ?_)
    · rw [ij k0 kob] at h2
      rw [show own_u l0 oa ob = l0 from if_neg (fun q => q.elim h1 h2)] at h35 ⊢
      exact h35
    · rw [ij k0 kob] at h2
      rw [show own_u l0 oa ob = oa ||| ob from if_pos (Or.inr h2)] at h35 ⊢
      refine go_aloadN i5_30 rfl ?_
      refine go_iconst (v := (0 : Int32)) i5_31 (by decide) ?_
      refine go_iload i5_32 rfl ?_
      refine go_iastore (i := 0) i5_34 rfl (by decide) rfl ?_
      exact h35
  suffices h55 : Go Z a0 n0 M5 own_R0 (Eq0 (HD n0 p sz [own_u l0 oa ob, own_u l1 oa ob, own_u l2 oa ob, own_u l3 oa ob])) 55 [.val (.ref (n0 + 3)), .val (.int (Int32.ofNat a)), .val (.int (Int32.ofNat b)), .val (.int (Int32.ofNat oa)), .val (.int (Int32.ofNat ob)), .val (.int (Int32.ofNat (oa ||| ob)))] [] (HD n0 p sz [own_u l0 oa ob, own_u l1 oa ob, l2, l3]) 0 0 by
    generalize own_u l0 oa ob = w0 at *
    refine go_aloadN i5_35 rfl ?_
    refine go_iconst (v := (1 : Int32)) i5_36 (by decide) ?_
    refine go_iaload (i := 1) i5_37 rfl (by decide) rfl ?_
    refine go_iloadN i5_38 rfl ?_
    refine go_icmp_eq 50 i5_39 (by decide) (fun h1 => ?_) (fun h1 => ?_)
    · rw [ij k1 koa] at h1
      rw [show own_u l1 oa ob = oa ||| ob from if_pos (Or.inl h1)] at h55 ⊢
      refine go_aloadN i5_50 rfl ?_
      refine go_iconst (v := (1 : Int32)) i5_51 (by decide) ?_
      refine go_iload i5_52 rfl ?_
      refine go_iastore (i := 1) i5_54 rfl (by decide) rfl ?_
      exact h55
    rw [ij k1 koa] at h1
    refine go_aloadN i5_42 rfl ?_
    refine go_iconst (v := (1 : Int32)) i5_43 (by decide) ?_
    refine go_iaload (i := 1) i5_44 rfl (by decide) rfl ?_
    refine go_iload i5_45 rfl ?_
    refine go_icmp_ne 55 i5_47 (by decide) (fun h2 => ?_) (fun h2 => ?_)
    · rw [ij k1 kob] at h2
      rw [show own_u l1 oa ob = l1 from if_neg (fun q => q.elim h1 h2)] at h55 ⊢
      exact h55
    · rw [ij k1 kob] at h2
      rw [show own_u l1 oa ob = oa ||| ob from if_pos (Or.inr h2)] at h55 ⊢
      refine go_aloadN i5_50 rfl ?_
      refine go_iconst (v := (1 : Int32)) i5_51 (by decide) ?_
      refine go_iload i5_52 rfl ?_
      refine go_iastore (i := 1) i5_54 rfl (by decide) rfl ?_
      exact h55
  suffices h75 : Go Z a0 n0 M5 own_R0 (Eq0 (HD n0 p sz [own_u l0 oa ob, own_u l1 oa ob, own_u l2 oa ob, own_u l3 oa ob])) 75 [.val (.ref (n0 + 3)), .val (.int (Int32.ofNat a)), .val (.int (Int32.ofNat b)), .val (.int (Int32.ofNat oa)), .val (.int (Int32.ofNat ob)), .val (.int (Int32.ofNat (oa ||| ob)))] [] (HD n0 p sz [own_u l0 oa ob, own_u l1 oa ob, own_u l2 oa ob, l3]) 0 0 by
    generalize own_u l0 oa ob = w0 at *
    generalize own_u l1 oa ob = w1 at *
    refine go_aloadN i5_55 rfl ?_
    refine go_iconst (v := (2 : Int32)) i5_56 (by decide) ?_
    refine go_iaload (i := 2) i5_57 rfl (by decide) rfl ?_
    refine go_iloadN i5_58 rfl ?_
    refine go_icmp_eq 70 i5_59 (by decide) (fun h1 => ?_) (fun h1 => ?_)
    · rw [ij k2 koa] at h1
      rw [show own_u l2 oa ob = oa ||| ob from if_pos (Or.inl h1)] at h75 ⊢
      refine go_aloadN i5_70 rfl ?_
      refine go_iconst (v := (2 : Int32)) i5_71 (by decide) ?_
      refine go_iload i5_72 rfl ?_
      refine go_iastore (i := 2) i5_74 rfl (by decide) rfl ?_
      exact h75
    rw [ij k2 koa] at h1
    refine go_aloadN i5_62 rfl ?_
    refine go_iconst (v := (2 : Int32)) i5_63 (by decide) ?_
    refine go_iaload (i := 2) i5_64 rfl (by decide) rfl ?_
    refine go_iload i5_65 rfl ?_
    refine go_icmp_ne 75 i5_67 (by decide) (fun h2 => ?_) (fun h2 => ?_)
    · rw [ij k2 kob] at h2
      rw [show own_u l2 oa ob = l2 from if_neg (fun q => q.elim h1 h2)] at h75 ⊢
      exact h75
    · rw [ij k2 kob] at h2
      rw [show own_u l2 oa ob = oa ||| ob from if_pos (Or.inr h2)] at h75 ⊢
      refine go_aloadN i5_70 rfl ?_
      refine go_iconst (v := (2 : Int32)) i5_71 (by decide) ?_
      refine go_iload i5_72 rfl ?_
      refine go_iastore (i := 2) i5_74 rfl (by decide) rfl ?_
      exact h75
  generalize own_u l0 oa ob = w0 at *
  generalize own_u l1 oa ob = w1 at *
  generalize own_u l2 oa ob = w2 at *
  refine go_aloadN i5_75 rfl ?_
  refine go_iconst (v := (3 : Int32)) i5_76 (by decide) ?_
  refine go_iaload (i := 3) i5_77 rfl (by decide) rfl ?_
  refine go_iloadN i5_78 rfl ?_
  refine go_icmp_eq 90 i5_79 (by decide) (fun h1 => ?_) (fun h1 => ?_)
  · rw [ij k3 koa] at h1
    rw [show own_u l3 oa ob = oa ||| ob from if_pos (Or.inl h1)]
    refine go_aloadN i5_90 rfl ?_
    refine go_iconst (v := (3 : Int32)) i5_91 (by decide) ?_
    refine go_iload i5_92 rfl ?_
    refine go_iastore (i := 3) i5_94 rfl (by decide) rfl ?_
    refine go_return i5_95 rfl (by first | decide | exact Nat.le_of_ble_eq_true rfl | (simp only [room_1]; omega)) (by first | decide | exact Nat.le_of_ble_eq_true rfl | (simp only [room_1]; omega)) ?_
    exact ⟨rfl, rfl⟩
  rw [ij k3 koa] at h1
  refine go_aloadN i5_82 rfl ?_
  refine go_iconst (v := (3 : Int32)) i5_83 (by decide) ?_
  refine go_iaload (i := 3) i5_84 rfl (by decide) rfl ?_
  refine go_iload i5_85 rfl ?_
  refine go_icmp_ne 95 i5_87 (by decide) (fun h2 => ?_) (fun h2 => ?_)
  · rw [ij k3 kob] at h2
    rw [show own_u l3 oa ob = l3 from if_neg (fun q => q.elim h1 h2)]
    refine go_return i5_95 rfl (by first | decide | exact Nat.le_of_ble_eq_true rfl | (simp only [room_1]; omega)) (by first | decide | exact Nat.le_of_ble_eq_true rfl | (simp only [room_1]; omega)) ?_
    exact ⟨rfl, rfl⟩
  · rw [ij k3 kob] at h2
    rw [show own_u l3 oa ob = oa ||| ob from if_pos (Or.inr h2)]
    refine go_aloadN i5_90 rfl ?_
    refine go_iconst (v := (3 : Int32)) i5_91 (by decide) ?_
    refine go_iload i5_92 rfl ?_
    refine go_iastore (i := 3) i5_94 rfl (by decide) rfl ?_
    refine go_return i5_95 rfl (by first | decide | exact Nat.le_of_ble_eq_true rfl | (simp only [room_1]; omega)) (by first | decide | exact Nat.le_of_ble_eq_true rfl | (simp only [room_1]; omega)) ?_
    exact ⟨rfl, rfl⟩
/-! the constructor -/
theorem met1 (hw : ∀ d ∈ tables_1, d.before a0 Z = true) : Met Z a0 n0 M1 1 12 2 8 [.ref (n0 + 0), .int 4] [.inl (KD, [.null, .null])] (Eq0 [.inl (KD, [.ref (n0 + 1), .ref (n0 + 2)]), .inr (.int, enc [0, 1, 2, 3]), .inr (.int, enc [1, 1, 1, 1])]) := by
  refine MetW.intro [.val (.ref (n0 + 0)), .val (.int 4), .unset] pn1 rfl ?_
  refine go_aloadN i1_0 rfl ?_
  refine go_initO i1_1 (hw _ (List.mem_of_getElem? (i := 6) rfl)) (hw _ (List.mem_of_getElem? (i := 7) rfl)) (hw _ (List.mem_of_getElem? (i := 8) rfl)) rfl (by decide) (by decide) ?_
  refine go_aloadN i1_4 rfl ?_
  refine go_iloadN i1_5 rfl ?_
  refine go_newarray (k := 1) 4 i1_6 rfl (hw _ (List.mem_of_getElem? (i := 9) rfl)) (by decide) rfl (by decide) (by decide) rfl (by first | decide | exact Nat.le_of_ble_eq_true rfl | (simp only [room_1]; omega)) (by first | decide | exact Nat.le_of_ble_eq_true rfl | (simp only [room_1]; omega)) ?_
  refine go_putfield 0 i1_8 (hw _ (List.mem_of_getElem? (i := 10) rfl)) rfl rfl rfl (Or.inr ⟨(hw _ (List.mem_of_getElem? (i := 11) rfl)), rfl, rfl⟩) rfl rfl ?_
  refine go_aloadN i1_11 rfl ?_
  refine go_iloadN i1_12 rfl ?_
  refine go_newarray (k := 2) 4 i1_13 rfl (hw _ (List.mem_of_getElem? (i := 9) rfl)) (by decide) rfl (by decide) (by decide) rfl (by first | decide | exact Nat.le_of_ble_eq_true rfl | (simp only [room_1]; omega)) (by first | decide | exact Nat.le_of_ble_eq_true rfl | (simp only [room_1]; omega)) ?_
  refine go_putfield 1 i1_15 (hw _ (List.mem_of_getElem? (i := 12) rfl)) rfl rfl rfl (Or.inr ⟨(hw _ (List.mem_of_getElem? (i := 13) rfl)), rfl, rfl⟩) rfl rfl ?_
  refine go_iconst (v := (0 : Int32)) i1_18 (by decide) ?_
  refine go_istore2 i1_19 (by first | exact One.u | exact One.val rfl) ?_
  refine go_iloadN i1_20 rfl ?_
  refine go_iloadN i1_21 rfl ?_
  refine go_icmpF i1_22 (by decide) ?_
  refine go_aloadN i1_25 rfl ?_
  refine go_getfield 0 i1_26 (hw _ (List.mem_of_getElem? (i := 10) rfl)) rfl rfl rfl ?_
  refine go_iloadN i1_29 rfl ?_
  refine go_iloadN i1_30 rfl ?_
  refine go_iastore i1_31 rfl (i := 0) (by decide) rfl ?_
  refine go_aloadN i1_32 rfl ?_
  refine go_getfield 1 i1_33 (hw _ (List.mem_of_getElem? (i := 12) rfl)) rfl rfl rfl ?_
  refine go_iloadN i1_36 rfl ?_
  refine go_iconst (v := (1 : Int32)) i1_37 (by decide) ?_
  refine go_iastore i1_38 rfl (i := 0) (by decide) rfl ?_
  refine go_iinc2 (v := 1) i1_39  (by decide) ?_
  refine go_goto 20 i1_42 (by decide) ?_
  refine go_iloadN i1_20 rfl ?_
  refine go_iloadN i1_21 rfl ?_
  refine go_icmpF i1_22 (by decide) ?_
  refine go_aloadN i1_25 rfl ?_
  refine go_getfield 0 i1_26 (hw _ (List.mem_of_getElem? (i := 10) rfl)) rfl rfl rfl ?_
  refine go_iloadN i1_29 rfl ?_
  refine go_iloadN i1_30 rfl ?_
  refine go_iastore i1_31 rfl (i := 1) (by decide) rfl ?_
  refine go_aloadN i1_32 rfl ?_
  refine go_getfield 1 i1_33 (hw _ (List.mem_of_getElem? (i := 12) rfl)) rfl rfl rfl ?_
  refine go_iloadN i1_36 rfl ?_
  refine go_iconst (v := (1 : Int32)) i1_37 (by decide) ?_
  refine go_iastore i1_38 rfl (i := 1) (by decide) rfl ?_
  refine go_iinc2 (v := 2) i1_39  (by decide) ?_
  refine go_goto 20 i1_42 (by decide) ?_
  refine go_iloadN i1_20 rfl ?_
  refine go_iloadN i1_21 rfl ?_
  refine go_icmpF i1_22 (by decide) ?_
  refine go_aloadN i1_25 rfl ?_
  refine go_getfield 0 i1_26 (hw _ (List.mem_of_getElem? (i := 10) rfl)) rfl rfl rfl ?_
  refine go_iloadN i1_29 rfl ?_
  refine go_iloadN i1_30 rfl ?_
  refine go_iastore i1_31 rfl (i := 2) (by decide) rfl ?_
  refine go_aloadN i1_32 rfl ?_
  refine go_getfield 1 i1_33 (hw _ (List.mem_of_getElem? (i := 12) rfl)) rfl rfl rfl ?_
  refine go_iloadN i1_36 rfl ?_
  refine go_iconst (v := (1 : Int32)) i1_37 (by decide) ?_
  refine go_iastore i1_38 rfl (i := 2) (by decide) rfl ?_
  refine go_iinc2 (v := 3) i1_39  (by decide) ?_
  refine go_goto 20 i1_42 (by decide) ?_
  refine go_iloadN i1_20 rfl ?_
  refine go_iloadN i1_21 rfl ?_
  refine go_icmpF i1_22 (by decide) ?_
  refine go_aloadN i1_25 rfl ?_
  refine go_getfield 0 i1_26 (hw _ (List.mem_of_getElem? (i := 10) rfl)) rfl rfl rfl ?_
  refine go_iloadN i1_29 rfl ?_
  refine go_iloadN i1_30 rfl ?_
  refine go_iastore i1_31 rfl (i := 3) (by decide) rfl ?_
  refine go_aloadN i1_32 rfl ?_
  refine go_getfield 1 i1_33 (hw _ (List.mem_of_getElem? (i := 12) rfl)) rfl rfl rfl ?_
  refine go_iloadN i1_36 rfl ?_
  refine go_iconst (v := (1 : Int32)) i1_37 (by decide) ?_
  refine go_iastore i1_38 rfl (i := 3) (by decide) rfl ?_
  refine go_iinc2 (v := 4) i1_39  (by decide) ?_
  refine go_goto 20 i1_42 (by decide) ?_
  refine go_iloadN i1_20 rfl ?_
  refine go_iloadN i1_21 rfl ?_
  refine go_icmpT 45 i1_22 (by decide) (by decide) ?_
  refine go_return i1_45 rfl (by first | decide | exact Nat.le_of_ble_eq_true rfl | (simp only [room_1]; omega)) (by first | decide | exact Nat.le_of_ble_eq_true rfl | (simp only [room_1]; omega)) ?_
  exact ⟨rfl, rfl⟩
/-! the law -/
theorem okF_spec {p : List Nat} {x : Nat} (h : okF p x = true) : fnd 4 p x = some ((fndD p x).1, (fndD p x).2) ∧ v4 p 4 = true ∧ (fndD p x).1 < 4 := by
  simp only [okF, Bool.and_eq_true, decide_eq_true_eq] at h
  obtain ⟨z, hz⟩ := Option.isSome_iff_exists.mp h.1.1
  refine ⟨by rw [fndD, hz]; rfl, h.1.2, h.2⟩
theorem own_sh : ∀ (l : Fin 16) (r : Fin 4), (Int32.ofNat l.val >>> (Int32.ofNat r.val &&& 31)) &&& 1 = Int32.ofNat ((l.val >>> r.val) &&& 1) := by decide +kernel
abbrev own_G (Z : State) (a0 : Array Value) (n0 : Nat) := Go Z a0 n0 M0 room_1 (fun v _ => v = some (.int 1))
theorem own_and3 (z : Int32) : ∃ A : Nat, A < 4 ∧ z &&& 3 = Int32.ofNat A := by
  have h := c_mask z 3 2 (by decide) (by decide)
  refine ⟨(z &&& 3).toInt.toNat, by omega, Int32.toInt_inj.mp ?_⟩
  rw [own_ofNat _ (by omega)]; omega
theorem g149 (hw : ∀ d ∈ tables_1, d.before a0 Z = true) (s0 s4 s5 s6 s7 s8 s9 s10 : Slot) (q : Int32) (s : List Nat × List Nat × List Nat) (hs : s ∈ own_R) : own_G Z a0 n0 149 [s0, .val (.int q), .val (.ref (n0 + 0)), .val (.ref (n0 + 3)), s4, s5, s6, s7, s8, s9, s10, .unset, .unset, .unset, .unset, .unset, .unset, .unset, .unset] [] (HD n0 s.1 s.2.1 s.2.2) 4 14 := by
  refine go_iloadN i0_149 rfl ?_
  refine go_iconst (v := (3 : Int32)) i0_150 (by decide) ?_
  refine go_iand i0_151 ?_
  obtain ⟨x, hx, ex⟩ := own_and3 q
  rw [ex]
  refine go_istore11 i0_152 (by first | exact One.u | exact One.val rfl) ?_
  refine go_iloadN i0_154 rfl ?_
  refine go_iconst (v := (2 : Int32)) i0_155 (by decide) ?_
  refine go_iushr i0_156 ?_
  refine go_iconst (v := (3 : Int32)) i0_157 (by decide) ?_
  refine go_iand i0_158 ?_
  obtain ⟨y, hy, ey⟩ := own_and3 (XT.ushr q 2)
  rw [ey]
  have hall := List.all_eq_true.mp (List.all_eq_true.mp (List.all_eq_true.mp all_fin s hs) x (List.mem_range.mpr hx)) y (List.mem_range.mpr hy)
  simp only [finOK, Bool.and_eq_true, decide_eq_true_eq] at hall
  obtain ⟨⟨⟨⟨⟨⟨⟨⟨o1, o2⟩, o3⟩, o4⟩, vl⟩, e3⟩, e4⟩, em⟩, es⟩ := hall
  obtain ⟨f1, v1, b1⟩ := okF_spec o1
  obtain ⟨f2, v2, b2⟩ := okF_spec o2
  obtain ⟨f3, v3, b3⟩ := okF_spec o3
  obtain ⟨f4, v4', b4⟩ := okF_spec o4
  rw [e3] at f3
  rw [e4] at f4
  obtain ⟨ll, bl⟩ := v4_spec vl
  generalize (fndD (fndD (fndD (fndD s.1 x).2 y).2 (fndD s.1 x).1).2 x).2 = p4 at *
  generalize (fndD (fndD (fndD s.1 x).2 y).2 (fndD s.1 x).1).2 = p3 at *
  generalize (fndD (fndD s.1 x).2 y).2 = p2 at *
  generalize (fndD (fndD s.1 x).2 y).1 = ry at *
  generalize (fndD s.1 x).2 = p1 at *
  generalize (fndD s.1 x).1 = r1 at *
  refine go_istore12 i0_159 (by first | exact One.u | exact One.val rfl) ?_
  refine go_aloadN i0_161 rfl ?_
  refine go_iload i0_162 rfl ?_
  refine go_virtual i0_164 (met3 hw s.1 s.2.1 s.2.2 x r1 p1 v1 hx f1) rfl (hw _ (List.mem_of_getElem? (i := 14) rfl)) (hw _ (List.mem_of_getElem? (i := 15) rfl)) (hw _ (List.mem_of_getElem? (i := 17) rfl)) (hw _ (List.mem_of_getElem? (i := 16) rfl)) (hw _ (List.mem_of_getElem? (i := 2) rfl)) (hw _ (List.mem_of_getElem? (i := 18) rfl)) rfl pd3 rfl rfl rfl (by first | decide | exact Nat.le_of_ble_eq_true rfl | (simp only [room_1]; omega)) (by first | decide | exact Nat.le_of_ble_eq_true rfl | (simp only [room_1]; omega)) (by first | decide | exact Nat.le_of_ble_eq_true rfl | (simp only [room_1]; omega)) (by first | decide | exact Nat.le_of_ble_eq_true rfl | (simp only [room_1]; omega)) (retE rfl ?_)
  refine go_istore13 i0_167 (by first | exact One.u | exact One.val rfl) ?_
  refine go_aloadN i0_169 rfl ?_
  refine go_iload i0_170 rfl ?_
  refine go_virtual i0_172 (met3 hw p1 s.2.1 s.2.2 y ry p2 v2 hy f2) rfl (hw _ (List.mem_of_getElem? (i := 14) rfl)) (hw _ (List.mem_of_getElem? (i := 15) rfl)) (hw _ (List.mem_of_getElem? (i := 17) rfl)) (hw _ (List.mem_of_getElem? (i := 16) rfl)) (hw _ (List.mem_of_getElem? (i := 2) rfl)) (hw _ (List.mem_of_getElem? (i := 18) rfl)) rfl pd3 rfl rfl rfl (by first | decide | exact Nat.le_of_ble_eq_true rfl | (simp only [room_1]; omega)) (by first | decide | exact Nat.le_of_ble_eq_true rfl | (simp only [room_1]; omega)) (by first | decide | exact Nat.le_of_ble_eq_true rfl | (simp only [room_1]; omega)) (by first | decide | exact Nat.le_of_ble_eq_true rfl | (simp only [room_1]; omega)) (retE rfl ?_)
  refine go_istore14 i0_175 (by first | exact One.u | exact One.val rfl) ?_
  refine go_iload i0_177 rfl ?_
  have z0 : ∀ r : Nat, r < 4 → ¬ Int32.ofNat r < 0 := fun r hr => by rw [Int32.lt_iff_toInt_lt, own_ofNat r (by omega)]; simp only [Int32.toInt_zero]; omega
  have z3 : ∀ r : Nat, r < 4 → ¬ 3 < Int32.ofNat r := fun r hr => by rw [Int32.lt_iff_toInt_lt, own_ofNat r (by omega), show (3 : Int32).toInt = 3 from by decide]; omega
  refine go_ifF i0_179 ((if0 _ _).trans ((hold_lt _ _).2.mpr (z0 r1 b1))) ?_
  refine go_iload i0_182 rfl ?_
  refine go_iconst (v := (3 : Int32)) i0_184 (by decide) ?_
  refine go_icmpF i0_185 ((hold_gt _ _).2.mpr (z3 r1 b1)) ?_
  refine go_iload i0_188 rfl ?_
  refine go_ifF i0_190 ((if0 _ _).trans ((hold_lt _ _).2.mpr (z0 ry b2))) ?_
  refine go_iload i0_193 rfl ?_
  refine go_iconst (v := (3 : Int32)) i0_195 (by decide) ?_
  refine go_icmpT 201 i0_196 (by decide) ((hold_le _ _).1.mpr (z3 ry b2)) ?_
  refine go_aloadN i0_201 rfl ?_
  refine go_iload i0_202 rfl ?_
  refine go_virtual i0_204 (met3 hw p2 s.2.1 s.2.2 r1 r1 p3 v3 b1 f3) rfl (hw _ (List.mem_of_getElem? (i := 14) rfl)) (hw _ (List.mem_of_getElem? (i := 15) rfl)) (hw _ (List.mem_of_getElem? (i := 17) rfl)) (hw _ (List.mem_of_getElem? (i := 16) rfl)) (hw _ (List.mem_of_getElem? (i := 2) rfl)) (hw _ (List.mem_of_getElem? (i := 18) rfl)) rfl pd3 rfl rfl rfl (by first | decide | exact Nat.le_of_ble_eq_true rfl | (simp only [room_1]; omega)) (by first | decide | exact Nat.le_of_ble_eq_true rfl | (simp only [room_1]; omega)) (by first | decide | exact Nat.le_of_ble_eq_true rfl | (simp only [room_1]; omega)) (by first | decide | exact Nat.le_of_ble_eq_true rfl | (simp only [room_1]; omega)) (retE rfl ?_)
  refine go_istore15 i0_207 (by first | exact One.u | exact One.val rfl) ?_
  refine go_aloadN i0_209 rfl ?_
  refine go_iload i0_210 rfl ?_
  refine go_virtual i0_212 (met3 hw p3 s.2.1 s.2.2 x r1 p4 v4' hx f4) rfl (hw _ (List.mem_of_getElem? (i := 14) rfl)) (hw _ (List.mem_of_getElem? (i := 15) rfl)) (hw _ (List.mem_of_getElem? (i := 17) rfl)) (hw _ (List.mem_of_getElem? (i := 16) rfl)) (hw _ (List.mem_of_getElem? (i := 2) rfl)) (hw _ (List.mem_of_getElem? (i := 18) rfl)) rfl pd3 rfl rfl rfl (by first | decide | exact Nat.le_of_ble_eq_true rfl | (simp only [room_1]; omega)) (by first | decide | exact Nat.le_of_ble_eq_true rfl | (simp only [room_1]; omega)) (by first | decide | exact Nat.le_of_ble_eq_true rfl | (simp only [room_1]; omega)) (by first | decide | exact Nat.le_of_ble_eq_true rfl | (simp only [room_1]; omega)) (retE rfl ?_)
  refine go_istore16 i0_215 (by first | exact One.u | exact One.val rfl) ?_
  refine go_aloadN i0_217 rfl ?_
  refine go_iload i0_218 rfl ?_
  refine go_iaload i0_220 rfl (own_ofNat x (by omega)) (enc_get (by omega)) ?_
  refine go_iload i0_221 rfl ?_
  refine go_ishr i0_223 ?_
  refine go_iconst (v := (1 : Int32)) i0_224 (by decide) ?_
  refine go_iand i0_225 ?_
  rw [own_sh ⟨_, bl x hx⟩ ⟨r1, b1⟩, em]
  refine go_iconst (v := (1 : Int32)) i0_226 (by decide) ?_
  refine go_icmpF i0_227 (by decide) ?_
  refine go_iconst (v := (1 : Int32)) i0_230 (by decide) ?_
  refine go_goto 235 i0_231 (by decide) ?_
  refine go_istore17 i0_235 (by first | exact One.u | exact One.val rfl) ?_
  refine go_aloadN i0_237 rfl ?_
  refine go_iload i0_238 rfl ?_
  refine go_iaload i0_240 rfl (own_ofNat x (by omega)) (enc_get (by omega)) ?_
  refine go_aloadN i0_241 rfl ?_
  refine go_iload i0_242 rfl ?_
  refine go_iaload i0_244 rfl (own_ofNat y (by omega)) (enc_get (by omega)) ?_
  have bx := bl x hx
  have by' := bl y hy
  have fin : ∀ (t : Int32), t = (if r1 = ry then 1 else 0) → own_G Z a0 n0 255 [s0, .val (.int q), .val (.ref (n0 + 0)), .val (.ref (n0 + 3)), s4, s5, s6, s7, s8, s9, s10, .val (.int (Int32.ofNat x)), .val (.int (Int32.ofNat y)), .val (.int (Int32.ofNat r1)), .val (.int (Int32.ofNat ry)), .val (.int (Int32.ofNat r1)), .val (.int (Int32.ofNat r1)), .val (.int 1), .val (.int t)] [] (HD n0 p4 s.2.1 s.2.2) 4 14 := by
    intro t ht
    refine go_iload i0_255 rfl ?_
    refine go_ifF i0_257 (by decide) ?_
    refine go_iload i0_260 rfl ?_
    refine go_iload i0_262 rfl ?_
    refine go_icmpF i0_264 ((hold_ne _ _).2.mpr rfl) ?_
    refine go_iload i0_267 rfl ?_
    refine go_iload i0_269 rfl ?_
    refine go_icmpF i0_271 ((hold_ne _ _).2.mpr rfl) ?_
    refine go_iload i0_274 rfl ?_
    refine go_iload i0_276 rfl ?_
    by_cases e : r1 = ry
    · refine go_icmpF i0_278 ((hold_ne _ _).2.mpr (by rw [e])) ?_
      rw [if_pos e] at ht
      subst ht
      refine go_iconst (v := (1 : Int32)) i0_281 (by decide) ?_
      refine go_goto 286 i0_282 (by decide) ?_
      refine go_iload i0_286 rfl ?_
      refine go_icmpF i0_288 (by decide) ?_
      refine go_iconst (v := (1 : Int32)) i0_291 (by decide) ?_
      refine go_goto 296 i0_292 (by decide) ?_
      refine go_ireturn i0_296 rfl rfl (Or.inr (Or.inl rfl)) (by first | decide | exact Nat.le_of_ble_eq_true rfl | (simp only [room_1]; omega)) (by first | decide | exact Nat.le_of_ble_eq_true rfl | (simp only [room_1]; omega)) ?_
      rfl
    · refine go_icmpT 285 i0_278 (by decide) ((hold_ne _ _).1.mpr (fun q => e ((own_inj (by omega) (by omega)).mp q))) ?_
      rw [if_neg e] at ht
      subst ht
      refine go_iconst (v := (0 : Int32)) i0_285 (by decide) ?_
      refine go_iload i0_286 rfl ?_
      refine go_icmpF i0_288 (by decide) ?_
      refine go_iconst (v := (1 : Int32)) i0_291 (by decide) ?_
      refine go_goto 296 i0_292 (by decide) ?_
      refine go_ireturn i0_296 rfl rfl (Or.inr (Or.inl rfl)) (by first | decide | exact Nat.le_of_ble_eq_true rfl | (simp only [room_1]; omega)) (by first | decide | exact Nat.le_of_ble_eq_true rfl | (simp only [room_1]; omega)) ?_
      rfl
  by_cases e : s.2.2.getD x 0 = s.2.2.getD y 0
  · refine go_icmpF i0_245 ((hold_ne _ _).2.mpr (by rw [e])) ?_
    refine go_iconst (v := (1 : Int32)) i0_248 (by decide) ?_
    refine go_goto 253 i0_249 (by decide) ?_
    refine go_istore18 i0_253 (by first | exact One.u | exact One.val rfl) ?_
    exact fin 1 (by rw [if_pos (es.mpr e)])
  · refine go_icmpT 252 i0_245 (by decide) ((hold_ne _ _).1.mpr (fun q => e ((own_inj (by omega) (by omega)).mp q))) ?_
    refine go_iconst (v := (0 : Int32)) i0_252 (by decide) ?_
    refine go_istore18 i0_253 (by first | exact One.u | exact One.val rfl) ?_
    exact fin 0 (by rw [if_neg (fun q => e (es.mp q))])
theorem own_step (s : List Nat × List Nat × List Nat) (hs : s ∈ own_R) (a b : Nat) (ha : a < 4) (hb : b < 4) : ∃ (ra rb : Nat) (p1 p2 : List Nat), fnd 4 s.1 a = some (ra, p1) ∧ fnd 4 p1 b = some (rb, p2) ∧ v4 s.1 4 = true ∧ v4 p1 4 = true ∧ v4 p2 4 = true ∧ v4 s.2.1 16 = true ∧ v4 s.2.2 16 = true ∧ ra < 4 ∧ rb < 4 ∧ (uniP ra rb p2 s.2.1, uniS ra rb s.2.1, mrg s.2.2 a b) ∈ own_R := by
  have hall := List.all_eq_true.mp (List.all_eq_true.mp (List.all_eq_true.mp all_step s hs) a (List.mem_range.mpr ha)) b (List.mem_range.mpr hb)
  simp only [stepOK, Bool.and_eq_true, decide_eq_true_eq] at hall
  obtain ⟨⟨⟨⟨⟨o1, o2⟩, w2⟩, ws⟩, wl⟩, hm⟩ := hall
  obtain ⟨f1, v1, b1⟩ := okF_spec o1
  obtain ⟨f2, v2, b2⟩ := okF_spec o2
  exact ⟨_, _, _, _, f1, f2, v1, v2, w2, ws, wl, b1, b2, List.contains_iff_mem.mp hm⟩
theorem own_l4 {l : List Nat} (h : v4 l 16 = true) : ∃ l0 l1 l2 l3, l = [l0, l1, l2, l3] ∧ l0 < 16 ∧ l1 < 16 ∧ l2 < 16 ∧ l3 < 16 := by
  obtain ⟨h1, h2⟩ := v4_spec h
  match l, h1 with
  | [l0, l1, l2, l3], _ => exact ⟨l0, l1, l2, l3, rfl, h2 0 (by decide), h2 1 (by decide), h2 2 (by decide), h2 3 (by decide)⟩
theorem g126 (hw : ∀ d ∈ tables_1, d.before a0 Z = true) (s0 s5 s6 s7 s8 : Slot) (q k : Int32) (a b : Nat) (ha : a < 4) (hb : b < 4) (s : List Nat × List Nat × List Nat) (hs : s ∈ own_R) : own_G Z a0 n0 126 [s0, .val (.int q), .val (.ref (n0 + 0)), .val (.ref (n0 + 3)), .val (.int k), s5, s6, s7, s8, .val (.int (Int32.ofNat a)), .val (.int (Int32.ofNat b)), .unset, .unset, .unset, .unset, .unset, .unset, .unset, .unset] [] (HD n0 s.1 s.2.1 s.2.2) 4 14 := by
  refine go_iload i0_126 rfl ?_
  refine go_iconst (v := (3 : Int32)) i0_128 (by decide) ?_
  refine go_icmp_lt 149 i0_129 (by decide) (fun h => ?_) (fun h => ?_)
  · exact g149 hw _ _ _ _ _ _ _ _ q s hs
  obtain ⟨ra, rb, p1, p2, f1, f2, v1, v2, w2, ws, wl, b1, b2, hm⟩ := own_step s hs a b ha hb
  refine go_aloadN i0_132 rfl ?_
  refine go_iload i0_133 rfl ?_
  refine go_iload i0_135 rfl ?_
  refine go_virtual i0_137 (met4 hw s.1 p1 p2 s.2.1 s.2.2 a b ra rb ha hb f1 f2 v1 v2 w2 ws b1 b2) rfl (hw _ (List.mem_of_getElem? (i := 19) rfl)) (hw _ (List.mem_of_getElem? (i := 20) rfl)) (hw _ (List.mem_of_getElem? (i := 22) rfl)) (hw _ (List.mem_of_getElem? (i := 21) rfl)) (hw _ (List.mem_of_getElem? (i := 2) rfl)) (hw _ (List.mem_of_getElem? (i := 23) rfl)) rfl pd4 rfl rfl rfl (by first | decide | exact Nat.le_of_ble_eq_true rfl | (simp only [room_1]; omega)) (by first | decide | exact Nat.le_of_ble_eq_true rfl | (simp only [room_1]; omega)) (by first | decide | exact Nat.le_of_ble_eq_true rfl | (simp only [room_1]; omega)) (by first | decide | exact Nat.le_of_ble_eq_true rfl | (simp only [room_1]; omega)) ?_
  rintro _ _ ⟨⟨r, rfl⟩, rfl⟩
  refine ⟨rfl, ?_⟩
  refine go_pop i0_140 rfl ?_
  refine go_aloadN i0_141 rfl ?_
  refine go_iload i0_142 rfl ?_
  refine go_iload i0_144 rfl ?_
  obtain ⟨l0, l1, l2, l3, el, k0, k1, k2, k3⟩ := own_l4 wl
  rw [el] at hm ⊢
  refine go_static i0_146 (met5 hw _ _ l0 l1 l2 l3 a b ha hb k0 k1 k2 k3) (hw _ (List.mem_of_getElem? (i := 25) rfl)) (hw _ (List.mem_of_getElem? (i := 26) rfl)) (hw _ (List.mem_of_getElem? (i := 27) rfl)) (hw _ (List.mem_of_getElem? (i := 28) rfl)) rfl pd5 rfl rfl rfl (by first | decide | exact Nat.le_of_ble_eq_true rfl | (simp only [room_1]; omega)) (by first | decide | exact Nat.le_of_ble_eq_true rfl | (simp only [room_1]; omega)) (by first | decide | exact Nat.le_of_ble_eq_true rfl | (simp only [room_1]; omega)) (by first | decide | exact Nat.le_of_ble_eq_true rfl | (simp only [room_1]; omega)) (retV rfl ?_)
  exact g149 hw _ _ _ _ _ _ _ _ q _ hm
theorem g103 (hw : ∀ d ∈ tables_1, d.before a0 Z = true) (s0 s5 s6 : Slot) (q k : Int32) (a b c d : Nat) (ha : a < 4) (hb : b < 4) (hc : c < 4) (hd : d < 4) (s : List Nat × List Nat × List Nat) (hs : s ∈ own_R) : own_G Z a0 n0 103 [s0, .val (.int q), .val (.ref (n0 + 0)), .val (.ref (n0 + 3)), .val (.int k), s5, s6, .val (.int (Int32.ofNat c)), .val (.int (Int32.ofNat d)), .val (.int (Int32.ofNat a)), .val (.int (Int32.ofNat b)), .unset, .unset, .unset, .unset, .unset, .unset, .unset, .unset] [] (HD n0 s.1 s.2.1 s.2.2) 4 14 := by
  refine go_iload i0_103 rfl ?_
  refine go_iconst (v := (2 : Int32)) i0_105 (by decide) ?_
  refine go_icmp_lt 126 i0_106 (by decide) (fun h => ?_) (fun h => ?_)
  · exact g126 hw _ _ _ _ _ q k a b ha hb s hs
  obtain ⟨ra, rb, p1, p2, f1, f2, v1, v2, w2, ws, wl, b1, b2, hm⟩ := own_step s hs c d hc hd
  refine go_aloadN i0_109 rfl ?_
  refine go_iload i0_110 rfl ?_
  refine go_iload i0_112 rfl ?_
  refine go_virtual i0_114 (met4 hw s.1 p1 p2 s.2.1 s.2.2 c d ra rb hc hd f1 f2 v1 v2 w2 ws b1 b2) rfl (hw _ (List.mem_of_getElem? (i := 19) rfl)) (hw _ (List.mem_of_getElem? (i := 20) rfl)) (hw _ (List.mem_of_getElem? (i := 22) rfl)) (hw _ (List.mem_of_getElem? (i := 21) rfl)) (hw _ (List.mem_of_getElem? (i := 2) rfl)) (hw _ (List.mem_of_getElem? (i := 23) rfl)) rfl pd4 rfl rfl rfl (by first | decide | exact Nat.le_of_ble_eq_true rfl | (simp only [room_1]; omega)) (by first | decide | exact Nat.le_of_ble_eq_true rfl | (simp only [room_1]; omega)) (by first | decide | exact Nat.le_of_ble_eq_true rfl | (simp only [room_1]; omega)) (by first | decide | exact Nat.le_of_ble_eq_true rfl | (simp only [room_1]; omega)) ?_
  rintro _ _ ⟨⟨r, rfl⟩, rfl⟩
  refine ⟨rfl, ?_⟩
  refine go_pop i0_117 rfl ?_
  refine go_aloadN i0_118 rfl ?_
  refine go_iload i0_119 rfl ?_
  refine go_iload i0_121 rfl ?_
  obtain ⟨l0, l1, l2, l3, el, k0, k1, k2, k3⟩ := own_l4 wl
  rw [el] at hm ⊢
  refine go_static i0_123 (met5 hw _ _ l0 l1 l2 l3 c d hc hd k0 k1 k2 k3) (hw _ (List.mem_of_getElem? (i := 25) rfl)) (hw _ (List.mem_of_getElem? (i := 26) rfl)) (hw _ (List.mem_of_getElem? (i := 27) rfl)) (hw _ (List.mem_of_getElem? (i := 28) rfl)) rfl pd5 rfl rfl rfl (by first | decide | exact Nat.le_of_ble_eq_true rfl | (simp only [room_1]; omega)) (by first | decide | exact Nat.le_of_ble_eq_true rfl | (simp only [room_1]; omega)) (by first | decide | exact Nat.le_of_ble_eq_true rfl | (simp only [room_1]; omega)) (by first | decide | exact Nat.le_of_ble_eq_true rfl | (simp only [room_1]; omega)) (retV rfl ?_)
  exact g126 hw _ _ _ _ _ q k a b ha hb _ hm
theorem law_met (Z : State) (a0 : Array Value) (n0 : Nat) (hw : ∀ d ∈ tables_1, d.before a0 Z = true) (p q : Int32) : MetW Z a0 n0 M0 tables_1 room_1 [.int p, .int q] [] (fun v _ => v = some (.int 1)) := by
  refine MetW.intro [.val (.int p), .val (.int q), .unset, .unset, .unset, .unset, .unset, .unset, .unset, .unset, .unset, .unset, .unset, .unset, .unset, .unset, .unset, .unset, .unset] pn0 rfl ?_
  refine go_new (k := 0) KD i0_0 (hw _ (List.mem_of_getElem? (i := 0) rfl)) (hw _ (List.mem_of_getElem? (i := 1) rfl)) (hw _ (List.mem_of_getElem? (i := 2) rfl)) (KD_ok hw) rfl rfl (by decide) (by decide) ?_
  refine go_dup i0_3 rfl ?_
  refine go_iconst (v := (4 : Int32)) i0_4 (by decide) ?_
  refine go_special i0_5 (met1 hw) (hw _ (List.mem_of_getElem? (i := 3) rfl)) (hw _ (List.mem_of_getElem? (i := 4) rfl)) (hw _ (List.mem_of_getElem? (i := 2) rfl)) (hw _ (List.mem_of_getElem? (i := 5) rfl)) rfl rfl rfl pd1 rfl rfl rfl (by first | decide | exact Nat.le_of_ble_eq_true rfl | (simp only [room_1]; omega)) (by first | decide | exact Nat.le_of_ble_eq_true rfl | (simp only [room_1]; omega)) (by first | decide | exact Nat.le_of_ble_eq_true rfl | (simp only [room_1]; omega)) (by first | decide | exact Nat.le_of_ble_eq_true rfl | (simp only [room_1]; omega)) (retV rfl ?_)
  refine go_astore2 i0_8 (by first | exact One.u | exact One.val rfl) ?_
  refine go_iconst (v := (4 : Int32)) i0_9 (by decide) ?_
  refine go_newarray (k := 3) 4 i0_10 rfl (hw _ (List.mem_of_getElem? (i := 9) rfl)) (by decide) rfl (by decide) (by decide) rfl (by first | decide | exact Nat.le_of_ble_eq_true rfl | (simp only [room_1]; omega)) (by first | decide | exact Nat.le_of_ble_eq_true rfl | (simp only [room_1]; omega)) ?_
  refine go_dup i0_12 rfl ?_
  refine go_iconst (v := (0 : Int32)) i0_13 (by decide) ?_
  refine go_iconst (v := (1 : Int32)) i0_14 (by decide) ?_
  refine go_iastore (i := 0) i0_15 rfl (by decide) rfl ?_
  refine go_dup i0_16 rfl ?_
  refine go_iconst (v := (1 : Int32)) i0_17 (by decide) ?_
  refine go_iconst (v := (2 : Int32)) i0_18 (by decide) ?_
  refine go_iastore (i := 1) i0_19 rfl (by decide) rfl ?_
  refine go_dup i0_20 rfl ?_
  refine go_iconst (v := (2 : Int32)) i0_21 (by decide) ?_
  refine go_iconst (v := (4 : Int32)) i0_22 (by decide) ?_
  refine go_iastore (i := 2) i0_23 rfl (by decide) rfl ?_
  refine go_dup i0_24 rfl ?_
  refine go_iconst (v := (3 : Int32)) i0_25 (by decide) ?_
  refine go_bipush (v := (8 : Int32)) i0_26 (by decide) ?_
  refine go_iastore (i := 3) i0_28 rfl (by decide) rfl ?_
  refine go_astore3 i0_29 (by first | exact One.u | exact One.val rfl) ?_
  refine go_iloadN i0_30 rfl ?_
  refine go_iconst (v := (4 : Int32)) i0_31 (by decide) ?_
  refine go_iushr i0_32 ?_
  refine go_iconst (v := (3 : Int32)) i0_33 (by decide) ?_
  refine go_iand i0_34 ?_
  generalize XT.ushr q 4 &&& 3 = k
  refine go_istore4 i0_35 (by first | exact One.u | exact One.val rfl) ?_
  refine go_iloadN i0_37 rfl ?_
  refine go_iconst (v := (3 : Int32)) i0_38 (by decide) ?_
  refine go_iand i0_39 ?_
  obtain ⟨x1, h1, e⟩ := own_and3 p
  rw [e]
  refine go_istore5 i0_40 (by first | exact One.u | exact One.val rfl) ?_
  refine go_iloadN i0_42 rfl ?_
  refine go_iconst (v := (2 : Int32)) i0_43 (by decide) ?_
  refine go_iushr i0_44 ?_
  refine go_iconst (v := (3 : Int32)) i0_45 (by decide) ?_
  refine go_iand i0_46 ?_
  obtain ⟨x2, h2, e⟩ := own_and3 (XT.ushr p 2)
  rw [e]
  refine go_istore6 i0_47 (by first | exact One.u | exact One.val rfl) ?_
  refine go_iloadN i0_49 rfl ?_
  refine go_iconst (v := (4 : Int32)) i0_50 (by decide) ?_
  refine go_iushr i0_51 ?_
  refine go_iconst (v := (3 : Int32)) i0_52 (by decide) ?_
  refine go_iand i0_53 ?_
  obtain ⟨x3, h3, e⟩ := own_and3 (XT.ushr p 4)
  rw [e]
  refine go_istore7 i0_54 (by first | exact One.u | exact One.val rfl) ?_
  refine go_iloadN i0_56 rfl ?_
  refine go_bipush (v := (6 : Int32)) i0_57 (by decide) ?_
  refine go_iushr i0_59 ?_
  refine go_iconst (v := (3 : Int32)) i0_60 (by decide) ?_
  refine go_iand i0_61 ?_
  obtain ⟨x4, h4, e⟩ := own_and3 (XT.ushr p 6)
  rw [e]
  refine go_istore8 i0_62 (by first | exact One.u | exact One.val rfl) ?_
  refine go_iloadN i0_64 rfl ?_
  refine go_bipush (v := (8 : Int32)) i0_65 (by decide) ?_
  refine go_iushr i0_67 ?_
  refine go_iconst (v := (3 : Int32)) i0_68 (by decide) ?_
  refine go_iand i0_69 ?_
  obtain ⟨x5, h5, e⟩ := own_and3 (XT.ushr p 8)
  rw [e]
  refine go_istore9 i0_70 (by first | exact One.u | exact One.val rfl) ?_
  refine go_iloadN i0_72 rfl ?_
  refine go_bipush (v := (10 : Int32)) i0_73 (by decide) ?_
  refine go_iushr i0_75 ?_
  refine go_iconst (v := (3 : Int32)) i0_76 (by decide) ?_
  refine go_iand i0_77 ?_
  obtain ⟨x6, h6, e⟩ := own_and3 (XT.ushr p 10)
  rw [e]
  refine go_istore10 i0_78 (by first | exact One.u | exact One.val rfl) ?_
  refine go_iload i0_80 rfl ?_
  refine go_iconst (v := (1 : Int32)) i0_82 (by decide) ?_
  have hs : (([0, 1, 2, 3], [1, 1, 1, 1], [1, 2, 4, 8]) : List Nat × List Nat × List Nat) ∈ own_R := by decide +kernel
  refine go_icmp_lt 103 i0_83 (by decide) (fun h => ?_) (fun h => ?_)
  · exact g103 hw _ _ _ q k x5 x6 x3 x4 h5 h6 h3 h4 _ hs
  obtain ⟨ra, rb, p1, p2, f1, f2, v1, v2, w2, ws, wl, b1, b2, hm⟩ := own_step _ hs x1 x2 h1 h2
  refine go_aloadN i0_86 rfl ?_
  refine go_iload i0_87 rfl ?_
  refine go_iload i0_89 rfl ?_
  refine go_virtual i0_91 (met4 hw [0, 1, 2, 3] p1 p2 [1, 1, 1, 1] [1, 2, 4, 8] x1 x2 ra rb h1 h2 f1 f2 v1 v2 w2 ws b1 b2) rfl (hw _ (List.mem_of_getElem? (i := 19) rfl)) (hw _ (List.mem_of_getElem? (i := 20) rfl)) (hw _ (List.mem_of_getElem? (i := 22) rfl)) (hw _ (List.mem_of_getElem? (i := 21) rfl)) (hw _ (List.mem_of_getElem? (i := 2) rfl)) (hw _ (List.mem_of_getElem? (i := 23) rfl)) rfl pd4 rfl rfl rfl (by first | decide | exact Nat.le_of_ble_eq_true rfl | (simp only [room_1]; omega)) (by first | decide | exact Nat.le_of_ble_eq_true rfl | (simp only [room_1]; omega)) (by first | decide | exact Nat.le_of_ble_eq_true rfl | (simp only [room_1]; omega)) (by first | decide | exact Nat.le_of_ble_eq_true rfl | (simp only [room_1]; omega)) ?_
  rintro _ _ ⟨⟨r, rfl⟩, rfl⟩
  refine ⟨rfl, ?_⟩
  refine go_pop i0_94 rfl ?_
  refine go_aloadN i0_95 rfl ?_
  refine go_iload i0_96 rfl ?_
  refine go_iload i0_98 rfl ?_
  refine go_static i0_100 (met5 hw _ _ 1 2 4 8 x1 x2 h1 h2 (by decide) (by decide) (by decide) (by decide)) (hw _ (List.mem_of_getElem? (i := 25) rfl)) (hw _ (List.mem_of_getElem? (i := 26) rfl)) (hw _ (List.mem_of_getElem? (i := 27) rfl)) (hw _ (List.mem_of_getElem? (i := 28) rfl)) rfl pd5 rfl rfl rfl (by first | decide | exact Nat.le_of_ble_eq_true rfl | (simp only [room_1]; omega)) (by first | decide | exact Nat.le_of_ble_eq_true rfl | (simp only [room_1]; omega)) (by first | decide | exact Nat.le_of_ble_eq_true rfl | (simp only [room_1]; omega)) (by first | decide | exact Nat.le_of_ble_eq_true rfl | (simp only [room_1]; omega)) (retV rfl ?_)
  exact g103 hw _ _ _ q k x5 x6 x3 x4 h5 h6 h3 h4 _ hm
theorem comes_1 {Post : Tables → Env → Array Value → State → Outcome → State → Prop} (hpost : ∀ tb e args s v u, (limb_1_1.after args s (.returned v) u = true ∧ limb_1_2.after args s (.returned v) u = true ∧ True) → FrameEnd s (.returned v) u (Jvm.fieldLocs frame_1_writes args s ++ Jvm.arrayLocs frame_1_arrays args s ++ Jvm.staticLocs frame_1_statics s) 16 128 → Post tb e args s (.returned v) u) :
    ArmFor flags0 classFile x code maxLocals ret World_1 tables_1 room_1 Calls_1 rest_1 Pre_1 Post := by
  intro l hfl _ _ p e ha hc hk s m args below hf hA hF happ hP
  obtain ⟨hcalls, hrest, hpre⟩ := hP
  obtain ⟨-, -, -, hnamed, -, -, -, hat⟩ := (Spec.applies_iff hf).mp happ
  obtain ⟨hg, hn⟩ := and_e (Cond.before_iff.mp (show (Jvm.Cond.and given_1 narrow_1).before args s = true from hpre))
  obtain ⟨g0, gs0⟩ := and_e hg
  obtain ⟨w0, w1, rfl⟩ : ∃ (w0 : Value) (w1 : Value), args = #[w0, w1] := by
    have hs : args.size = 2 := by simpa [Cond.value, given_1] using g0
    obtain ⟨L⟩ := args
    match L, hs with
    | [w0, w1], _ => exact ⟨w0, w1, rfl⟩
  have hw := fun d (hd : d ∈ tables_1) => atoms_spec (ws := Jvm.Cond.code x code maxLocals ret :: tables_1) hat d (List.mem_cons_of_mem _ hd)
  obtain ⟨b0, gs1⟩ := and_e gs0
  obtain ⟨i0, ei0⟩ := is_v b0
  obtain rfl : w0 = (.int i0) := Option.some.inj ei0
  have b1 := gs1
  obtain ⟨i1, ei1⟩ := is_v b1
  obtain rfl : w1 = (.int i1) := Option.some.inj ei1
  obtain ⟨n, o, h1, h2, h3, _, L, rfl, ⟨H', rfl, -, N⟩, hq⟩ := law_met s _ s.heap.size hw i0 i1 l s.heap ⟨rfl, ⟨Nat.le_refl _, fun _ _ q => q⟩, by simp, fun k o q => by simp at q⟩ p e ha hc hk s m _ below hf ((Spec.applies_iff_loose hf).mp happ).1 ⟨rfl, State.Warmed39.refl s, rfl⟩ trivial
  refine ⟨n, _, h1, h2, h3, hpost _ _ _ _ _ _ ⟨Cond.after_iff.mpr rfl, Cond.after_iff.mpr (eq_i res_at (Term.int_eval (1)) rfl), trivial⟩ ⟨hq.1, hq.2.1, (hq.2.2.sift fun y hy => Or.inr (N y hy)).mono (by decide) (by decide)⟩⟩
theorem main_1_1 : Claimed_1_1 := comes_1 fun _ _ _ _ _ _ h hF => ⟨h.1, hF⟩
theorem main_1_2 : Claimed_1_2 := comes_1 fun _ _ _ _ _ _ h hF => ⟨h.2.1, hF⟩
end Jvm.Pilot.@@N@@
namespace Jvm.Pilot.@@N@@
open Jvm Jvm.ClassFile Sem Op Lib Jvm.Free Jvm.Stand Jvm.Pilot.@@N@@.Jvm.D
/-! MADE BY PROGRAM (witnessworld.py) out of the Statement's table words and the real class files: 9 classes; the members and pool entries that the words name. The judged class is class 1, her method 2. -/
namespace start1
open Jvm.ClassFile
def u (s : String) : CpInfo := .utf8 (stringToUtf16 s)
/-- a pool by its gaps: so many unusable entries, then the entry; so many at the end -/
def gap : Nat → List CpInfo → List CpInfo
  | 0, r => r
  | n + 1, r => .unusable :: gap n r
def poolList (es : List (Nat × CpInfo)) (last : Nat) : List CpInfo := es.foldr (fun e r => gap e.1 (e.2 :: r)) (gap last [])
def pool (es : List (Nat × CpInfo)) (last : Nat) : Array CpInfo := ⟨poolList es last⟩
def fileOf (pool : Array CpInfo) (this : Nat) (attrs : Array Attribute := #[]) (ms : Array MethodInfo := #[]) (fl : Nat := 33) (sup : Nat := 0) (ifs : Array Nat := #[]) (fds : Array FieldInfo := #[]) : ClassFile where
  minorVersion := 0
  majorVersion := 65
  constantPool := pool
  accessFlags := fl
  thisClass := this
  superClass := sup
  interfaces := ifs
  fields := fds
  methods := ms
  attributes := attrs
def plain (name : String) (sup : Option ClassId) : Class where
  name := name
  kind := .ordinary
  loader := none
  accessFlags := 33
  super := sup
  interfaces := #[]
  cf := none
  fields := #[]
  methods := #[]
  instanceTypes := #[]
  staticTypes := #[]
  resolved := #[]
  callSites := []
  init := .initialized
  statics := none
  mirror := none

def pool0 : Array CpInfo := pool [(5, u "<init>"), (0, u "()V"), (1, .class_ 10), (1, u "java/lang/Object")] 113

def k0c0 : Code := { maxStack := 0, maxLocals := 1, code := object_method_1_code, exceptionTable := #[], attributes := #[] }
def k0m0 : Method := { name := "<init>", desc := "()V", sig := { parameters := [], returnType := none }, accessFlags := 1, code := some k0c0 }
/-- java/lang/Object -/
def k0 : Class := { plain "java/lang/Object" none with
  accessFlags := 33
  interfaces := #[]
  cf := some (fileOf pool0 8 #[] #[{ accessFlags := 1, nameIndex := 5, descriptorIndex := 6, attributes := #[] }] 33 0 #[] #[])
  fields := #[]
  methods := #[k0m0]
  instanceTypes := #[]
  staticTypes := #[]
  resolved := Array.replicate 124 none
  statics := none }

def pool1 : Array CpInfo := pool [(2, .class_ 4), (1, u "java/lang/Object"), (0, u "<init>"), (0, u "()V"), (0, .class_ 8), (0, u "com/example/hedgewire/hedgewire/graph/DisjointSets"), (0, .methodref 7 10), (0, .nameAndType 5 11), (0, u "(I)V"), (0, .methodref 7 13), (0, .nameAndType 14 15), (0, u "union"), (0, u "(II)Z"), (0, .methodref 17 18), (0, .class_ 19), (0, .nameAndType 20 21), (0, u "com/example/hedgewire/hedgewire/graph/DisjointSetsFindPinLaw"), (0, u "merge"), (0, u "([III)V"), (0, .methodref 7 23), (0, .nameAndType 24 25), (0, u "find"), (0, u "(I)I"), (3, u "law")] 4

def k1m0 : Method := { name := "<init>", desc := "()V", sig := { parameters := [], returnType := none }, accessFlags := 1, code := none }
def k1c1 : Code := { maxStack := 3, maxLocals := 6, code := method_2_code, exceptionTable := #[], attributes := #[] }
def k1m1 : Method := { name := "merge", desc := "([III)V", sig := { parameters := [(.array .int), .int, .int], returnType := none }, accessFlags := 10, code := some k1c1 }
def k1c2 : Code := { maxStack := 4, maxLocals := 19, code := code, exceptionTable := #[], attributes := #[] }
def k1m2 : Method := { name := "law", desc := "(II)Z", sig := { parameters := [.int, .int], returnType := some .boolean }, accessFlags := 9, code := some k1c2 }
/-- com/example/hedgewire/hedgewire/graph/DisjointSetsFindPinLaw -/
def k1 : Class := { plain "com/example/hedgewire/hedgewire/graph/DisjointSetsFindPinLaw" (some 0) with
  accessFlags := 49
  interfaces := #[]
  cf := some (fileOf pool1 17 #[] #[{ accessFlags := 1, nameIndex := 5, descriptorIndex := 6, attributes := #[] }, { accessFlags := 10, nameIndex := 20, descriptorIndex := 21, attributes := #[] }, { accessFlags := 9, nameIndex := 29, descriptorIndex := 15, attributes := #[] }] 49 2 #[] #[])
  fields := #[]
  methods := #[k1m0, k1m1, k1m2]
  instanceTypes := #[]
  staticTypes := #[]
  resolved := Array.replicate 34 none
  statics := none }

def pool2 : Array CpInfo := pool [(1, .methodref 2 3), (0, .class_ 4), (0, .nameAndType 5 6), (0, u "java/lang/Object"), (0, u "<init>"), (0, u "()V"), (0, .fieldref 8 9), (0, .class_ 10), (0, .nameAndType 11 12), (0, u "com/example/hedgewire/hedgewire/graph/DisjointSets"), (0, u "parent"), (0, u "[I"), (0, .fieldref 8 14), (0, .nameAndType 15 12), (0, u "size"), (0, .methodref 8 17), (0, .nameAndType 18 19), (0, u "find"), (0, u "(I)I"), (0, u "(I)V"), (3, u "union"), (0, u "(II)Z")] 2

def k2c0 : Code := { maxStack := 3, maxLocals := 3, code := prog_26_method_1_code, exceptionTable := #[], attributes := #[] }
def k2m0 : Method := { name := "<init>", desc := "(I)V", sig := { parameters := [.int], returnType := none }, accessFlags := 1, code := some k2c0 }
def k2c1 : Code := { maxStack := 5, maxLocals := 3, code := prog_26_method_2_code, exceptionTable := #[], attributes := #[] }
def k2m1 : Method := { name := "find", desc := "(I)I", sig := { parameters := [.int], returnType := some .int }, accessFlags := 1, code := some k2c1 }
def k2c2 : Code := { maxStack := 5, maxLocals := 6, code := prog_26_method_3_code, exceptionTable := #[], attributes := #[] }
def k2m2 : Method := { name := "union", desc := "(II)Z", sig := { parameters := [.int, .int], returnType := some .boolean }, accessFlags := 1, code := some k2c2 }
/-- com/example/hedgewire/hedgewire/graph/DisjointSets -/
def k2 : Class := { plain "com/example/hedgewire/hedgewire/graph/DisjointSets" (some 0) with
  accessFlags := 49
  interfaces := #[]
  cf := some (fileOf pool2 8 #[] #[{ accessFlags := 1, nameIndex := 5, descriptorIndex := 20, attributes := #[] }, { accessFlags := 1, nameIndex := 18, descriptorIndex := 19, attributes := #[] }, { accessFlags := 1, nameIndex := 24, descriptorIndex := 25, attributes := #[] }] 49 2 #[] #[{ accessFlags := 18, nameIndex := 11, descriptorIndex := 12, attributes := #[] }, { accessFlags := 18, nameIndex := 15, descriptorIndex := 12, attributes := #[] }])
  fields := #[{ name := "parent", type := (.array .int), accessFlags := 18, slot := 0, constantValue := 0 }, { name := "size", type := (.array .int), accessFlags := 18, slot := 1, constantValue := 0 }]
  methods := #[k2m0, k2m1, k2m2]
  instanceTypes := #[(.array .int), (.array .int)]
  staticTypes := #[]
  resolved := Array.replicate 28 none
  statics := none }

def pool3 : Array CpInfo := pool [(1, u "java/lang/Cloneable"), (0, .class_ 1), (0, u "java/lang/Object"), (0, .class_ 3)] 3

/-- java/lang/Cloneable -/
def k3 : Class := { plain "java/lang/Cloneable" (some 0) with
  accessFlags := 1537
  interfaces := #[]
  cf := some (fileOf pool3 2 #[] #[] 1537 4 #[] #[])
  fields := #[]
  methods := #[]
  instanceTypes := #[]
  staticTypes := #[]
  resolved := Array.replicate 8 none
  statics := none }

def pool4 : Array CpInfo := pool [(1, u "java/io/Serializable"), (0, .class_ 1), (0, u "java/lang/Object"), (0, .class_ 3)] 3

/-- java/io/Serializable -/
def k4 : Class := { plain "java/io/Serializable" (some 0) with
  accessFlags := 1537
  interfaces := #[]
  cf := some (fileOf pool4 2 #[] #[] 1537 4 #[] #[])
  fields := #[]
  methods := #[]
  instanceTypes := #[]
  staticTypes := #[]
  resolved := Array.replicate 8 none
  statics := none }

/-- the primitive byte -/
def k5 : Class := { plain "byte" none with kind := .primitive 'B', accessFlags := 0x411 }
/-- [B -/
def k6 : Class := { plain "[B" (some 0) with kind := .array 5 .byte, interfaces := #[3, 4], accessFlags := 1041 }

/-- the primitive int -/
def k7 : Class := { plain "int" none with kind := .primitive 'I', accessFlags := 0x411 }
/-- [I -/
def k8 : Class := { plain "[I" (some 0) with kind := .array 7 .int, interfaces := #[3, 4], accessFlags := 1041 }

def heap : Heap := #[]
def classes : Array Class := #[k0, k1, k2, k3, k4, k5, k6, k7, k8]
def interned : List (Array UInt16 × Addr) := []
def slotsUsed : Nat := 0
def theMethod : MethodId := ⟨1, 2⟩
def args0 : Array Value := #[.int 5, .int 7]
def aboutOver (below : List Frame) : State where
  vm := { classes := classes, interned := interned.toArray }
  heap := heap
  slotsUsed := slotsUsed
  threads := #[{ frames := .invoking theMethod args0 :: below }]
def below0 : List Frame := [.native { method := ⟨0, 0⟩, args := #[] }]
def about1 : State := aboutOver below0
def p0 : Program := .bare "" "" ""
def e0 : Env := launch0.env 0 0 0
theorem w_frames : about1.frames = Frame.invoking theMethod args0 :: below0 := rfl
set_option maxRecDepth 65536 in
theorem w_args : argsFit about1.vm theMethod args0 = true := by decide +kernel
set_option maxRecDepth 65536 in
theorem w_heap : heapFits about1 = true := by decide +kernel
set_option maxRecDepth 65536 in
theorem w_runnable : about1.curStatus? = some .runnable := by decide +kernel
set_option maxRecDepth 65536 in
theorem w_alone : about1.alone = true := by decide +kernel
set_option maxRecDepth 65536 in
theorem w_named : about1.methodNamed? x = some theMethod := by decide +kernel
set_option maxRecDepth 65536 in
theorem w_hears : about1.hears theMethod below0 = true := by decide +kernel
set_option maxRecDepth 65536 in
theorem w_ripe : about1.ripe theMethod args0 below0 = true := by decide +kernel
theorem w_running : about1.status = .running := rfl
set_option maxRecDepth 65536 in
theorem w_room : about1.hasRoom e0.platform room_1 = true :=
  launch0.hasRoom_least _ room_1 (by decide +kernel) (by decide +kernel) (by decide +kernel) (by decide +kernel) (by decide +kernel) (by decide +kernel)
theorem allAtoms_all (ts : List Jvm.Cond) (a : Array Jvm.Value) (st : Jvm.State) : (allAtoms ts).before a st = ts.all (fun c => c.before a st) := by
  induction ts with
  | nil => rfl
  | cons c t ih =>
    show (Jvm.Cond.and c (allAtoms t)).before a st = _
    rw [Jvm.Cond.before_and, ih, List.all_cons]
def words1 : List Jvm.Cond := Jvm.Cond.code x code maxLocals ret :: tables_1
/-- a 'code' word, met by the world's own term for the bytes: nothing is compared byte by byte -/
theorem code_word {y : MethodName} {bytes : ByteArray} {mx : Nat} {rt : Option FieldType} {a : Array Value} {s : State} {m : MethodId} {meth : Method} {c : Code} (h1 : s.methodNamed? y = some m) (h2 : s.vm.method? m = some meth) (h3 : meth.code = some c) (h4 : c.code = bytes)
    (h5 : (c.maxLocals == mx && c.exceptionTable.isEmpty && decide (c.maxStack ≤ mostOperands) && decide (meth.sig.returnType = rt) && !meth.locks && decide (parseMethodDescriptor y.desc = some meth.sig)) = true) : (Jvm.Cond.code y bytes mx rt).before a s = true := by
  simp only [Bool.and_eq_true, beq_iff_eq, Bool.not_eq_true', decide_eq_true_eq] at h5
  obtain ⟨⟨⟨⟨⟨g1, g2⟩, g3⟩, g4⟩, g5⟩, g6⟩ := h5
  simp [Cond.before, Cond.holds, Cond.value, h1, h2, h3, h4, g1, g2, g3, g4, g5, g6]
def isCode : Jvm.Cond → Bool
  | .code _ _ _ _ => true
  | _ => false
theorem all_split {L : List Jvm.Cond} {P : Jvm.Cond → Bool} (h1 : L.all (fun c => isCode c || P c) = true) (h2 : ∀ c ∈ L.filter isCode, P c = true) : L.all P = true := by
  refine List.all_eq_true.mpr fun c hc => ?_
  have h := List.all_eq_true.mp h1 c hc
  rcases Bool.eq_false_or_eq_true (isCode c) with hi | hi
  · exact h2 c (List.mem_filter.mpr ⟨hc, hi⟩)
  · simpa [hi] using h
set_option maxRecDepth 65536 in
theorem w_c0 : (Jvm.Cond.code x code maxLocals ret).before args0 about1 = true := code_word (m := ⟨1, 2⟩) (meth := k1m2) (c := k1c2) (by decide +kernel) rfl rfl rfl (by decide +kernel)
set_option maxRecDepth 65536 in
theorem w_c1 : (Jvm.Cond.code ({ cls := "com/example/hedgewire/hedgewire/graph/DisjointSets", name := "<init>", desc := "(I)V" } : Jvm.MethodName) prog_26_method_1_code (3 : Nat) (Option.none : Option Jvm.ClassFile.FieldType)).before args0 about1 = true := code_word (m := ⟨2, 0⟩) (meth := k2m0) (c := k2c0) (by decide +kernel) rfl rfl rfl (by decide +kernel)
set_option maxRecDepth 65536 in
theorem w_c2 : (Jvm.Cond.code ({ cls := "java/lang/Object", name := "<init>", desc := "()V" } : Jvm.MethodName) object_method_1_code (1 : Nat) (Option.none : Option Jvm.ClassFile.FieldType)).before args0 about1 = true := code_word (m := ⟨0, 0⟩) (meth := k0m0) (c := k0c0) (by decide +kernel) rfl rfl rfl (by decide +kernel)
set_option maxRecDepth 65536 in
theorem w_c3 : (Jvm.Cond.code ({ cls := "com/example/hedgewire/hedgewire/graph/DisjointSets", name := "find", desc := "(I)I" } : Jvm.MethodName) prog_26_method_2_code (3 : Nat) (Option.some Jvm.ClassFile.FieldType.int)).before args0 about1 = true := code_word (m := ⟨2, 1⟩) (meth := k2m1) (c := k2c1) (by decide +kernel) rfl rfl rfl (by decide +kernel)
set_option maxRecDepth 65536 in
theorem w_c4 : (Jvm.Cond.code ({ cls := "com/example/hedgewire/hedgewire/graph/DisjointSets", name := "union", desc := "(II)Z" } : Jvm.MethodName) prog_26_method_3_code (6 : Nat) (Option.some Jvm.ClassFile.FieldType.boolean)).before args0 about1 = true := code_word (m := ⟨2, 2⟩) (meth := k2m2) (c := k2c2) (by decide +kernel) rfl rfl rfl (by decide +kernel)
set_option maxRecDepth 65536 in
theorem w_c5 : (Jvm.Cond.code ({ cls := "com/example/hedgewire/hedgewire/graph/DisjointSetsFindPinLaw", name := "merge", desc := "([III)V" } : Jvm.MethodName) method_2_code (6 : Nat) (Option.none : Option Jvm.ClassFile.FieldType)).before args0 about1 = true := code_word (m := ⟨1, 1⟩) (meth := k1m1) (c := k1c1) (by decide +kernel) rfl rfl rfl (by decide +kernel)
def codes1 : List Jvm.Cond := [Jvm.Cond.code x code maxLocals ret, Jvm.Cond.code ({ cls := "com/example/hedgewire/hedgewire/graph/DisjointSets", name := "<init>", desc := "(I)V" } : Jvm.MethodName) prog_26_method_1_code (3 : Nat) (Option.none : Option Jvm.ClassFile.FieldType), Jvm.Cond.code ({ cls := "java/lang/Object", name := "<init>", desc := "()V" } : Jvm.MethodName) object_method_1_code (1 : Nat) (Option.none : Option Jvm.ClassFile.FieldType), Jvm.Cond.code ({ cls := "com/example/hedgewire/hedgewire/graph/DisjointSets", name := "find", desc := "(I)I" } : Jvm.MethodName) prog_26_method_2_code (3 : Nat) (Option.some Jvm.ClassFile.FieldType.int), Jvm.Cond.code ({ cls := "com/example/hedgewire/hedgewire/graph/DisjointSets", name := "union", desc := "(II)Z" } : Jvm.MethodName) prog_26_method_3_code (6 : Nat) (Option.some Jvm.ClassFile.FieldType.boolean), Jvm.Cond.code ({ cls := "com/example/hedgewire/hedgewire/graph/DisjointSetsFindPinLaw", name := "merge", desc := "([III)V" } : Jvm.MethodName) method_2_code (6 : Nat) (Option.none : Option Jvm.ClassFile.FieldType)]
set_option maxRecDepth 65536 in
theorem codes_eq : words1.filter isCode = codes1 := rfl
theorem w_codes : ∀ c ∈ words1.filter isCode, c.before args0 about1 = true := by
  rw [codes_eq]
  intro c hc
  simp only [codes1, List.mem_cons, List.not_mem_nil, or_false] at hc
  rcases hc with rfl | rfl | rfl | rfl | rfl | rfl
  · exact w_c0
  · exact w_c1
  · exact w_c2
  · exact w_c3
  · exact w_c4
  · exact w_c5
set_option maxRecDepth 65536 in
theorem w_t1 : (words1.take 24).all (fun c => isCode c || c.before args0 about1) = true := by decide +kernel
set_option maxRecDepth 65536 in
theorem w_t2 : (words1.drop 24).all (fun c => isCode c || c.before args0 about1) = true := by decide +kernel
theorem w_tables : (allAtoms (Jvm.Cond.code x code maxLocals ret :: tables_1)).before args0 about1 = true := by
  rw [allAtoms_all]
  show words1.all (fun c => c.before args0 about1) = true
  refine all_split ?_ w_codes
  rw [← List.take_append_drop 24 words1, List.all_append, w_t1, w_t2]
  rfl
set_option maxRecDepth 65536 in
theorem w_case : (Jvm.Cond.and given_1 narrow_1).before args0 about1 = true := by decide +kernel
theorem w_applies : (headSpec (Jvm.Cond.code x code maxLocals ret :: tables_1) room_1).applies x e0.platform about1 = true :=
  (Spec.applies_iff w_frames).mpr ⟨w_running, w_runnable, w_alone, w_named, w_hears, w_ripe, w_room, w_tables⟩
theorem atStart : AtStart classFile x code maxLocals ret World_1 tables_1 room_1 Calls_1 rest_1 Pre_1 launch0 p0 e0 about1 theMethod args0 below0 :=
  ⟨lists_1, trivial, launch0.admits_env _ _ _, launch0.least_env, fairChoices_fair.cas, fairChoices_fair.clock, w_frames, w_args, w_heap, w_applies, trivial, trivial, w_case⟩
end start1
theorem witness_1 : WitnessClaimed_1 := ⟨start1.p0, start1.e0, start1.about1, start1.theMethod, start1.args0, start1.below0, start1.atStart⟩
end Jvm.Pilot.@@N@@
