import JvmDerived
import JvmDerived.Pilot.@@N@@Statement
import JvmDerived.Pilot.@@N@@Code
set_option linter.unusedVariables false
set_option linter.unusedSimpArgs false
namespace Jvm.Pilot.@@N@@
open Jvm Jvm.ClassFile Sem Op Lib Jvm.Free Jvm.Stand Jvm.LawKit Jvm.RoadKit Bundle Jvm.Pilot.@@N@@.Jvm.D
/-! A small walker over the library's laws (own text): objects made by the law are kept as a list H; the object k lies at the address n0 + k. -/
abbrev GLay : Type := String × List (String × String × String × FieldType)
abbrev GObj : Type := (GLay × List Value) ⊕ (FieldType × List Value)
abbrev GM : Type := MethodName × ByteArray × Nat × Option FieldType
def LayOk (Z : State) (a0 : Array Value) (K : GLay) : Prop :=
  (∃ kk, (Jvm.Cond.instantiable K.1 kk).before a0 Z = true) ∧ (∀ q ∈ K.2, Laid Z a0 K.1 q.1 q.2.1 q.2.2.1 ∧ parseFieldDescriptor q.2.2.1 = some q.2.2.2) ∧ (K.2.map fun q => q.2.1).Nodup
def Ob (Z : State) (a0 : Array Value) (h : Heap) (a : Addr) : GObj → Prop
  | .inl (K, vs) => LayOk Z a0 K ∧ Exa Z h a K.1 ∧ ∀ (i : Nat) (q : String × String × String × FieldType) (v : Value), K.2[i]? = some q → vs[i]? = some v → Fld Z h a q.1 q.2.1 q.2.2.1 v
  | .inr (ty, vs) => ∃ c : Cell, Arr Z h a c ty ∧ c.slots = vs.toArray ∧ (∀ v ∈ vs, fits ty v = true) ∧ Exa Z h a ("[" ++ ty.toString) ∧ ∀ C, ty = .object C → Ovr Z c.cls C
theorem Ob.ext {Z : State} {a0 : Array Value} {h h' : Heap} {a : Addr} {o : GObj} (E : Ext h h') (F : Ob Z a0 h a o) : Ob Z a0 h' a o := by
  rcases o with ⟨K, vs⟩ | ⟨ty, vs⟩
  · exact ⟨F.1, F.2.1.ext E, fun i q v h1 h2 => (F.2.2 i q v h1 h2).ext E⟩
  · obtain ⟨c, h1, h2, h3, h4, h5⟩ := F
    exact ⟨c, h1.ext E, h2, h3, h4.ext E, h5⟩
theorem Ob.other {Z : State} {a0 : Array Value} {h h' : Heap} {a b : Addr} {sl : Nat} {v : Value} {o : GObj} (W : Wr h h' b sl v) (ne : a ≠ b) (F : Ob Z a0 h a o) : Ob Z a0 h' a o := by
  rcases o with ⟨K, vs⟩ | ⟨ty, vs⟩
  · exact ⟨F.1, F.2.1.wr W, fun i q v h1 h2 => (F.2.2 i q v h1 h2).other W (Or.inl ne)⟩
  · obtain ⟨c, h1, h2, h3, h4, h5⟩ := F
    exact ⟨c, h1.other W ne, h2, h3, h4.wr W, h5⟩
def Sat (Z : State) (a0 : Array Value) (n0 : Nat) (h : Heap) (H : List GObj) : Prop :=
  Z.heap.size = n0 ∧ Ext Z.heap h ∧ h.size = n0 + H.length ∧ ∀ (k : Nat) (o : GObj), H[k]? = some o → Ob Z a0 h (n0 + k) o
theorem Sat.push {Z : State} {a0 : Array Value} {n0 : Nat} {h h' : Heap} {H : List GObj} {o : GObj} (S : Sat Z a0 n0 h H) (E : Ext h h') (hs : h'.size = h.size + 1) (F : Ob Z a0 h' h.size o) : Sat Z a0 n0 h' (H ++ [o]) := by
  obtain ⟨s1, s2, s3, s4⟩ := S
  refine ⟨s1, ⟨Nat.le_trans s2.1 E.1, fun a c q => E.2 a c (s2.2 a c q)⟩, by simp [hs, s3]; omega, fun k o' hk => ?_⟩
  rcases Nat.lt_trichotomy k H.length with q | q | q
  · rw [List.getElem?_append_left q] at hk
    exact (s4 k o' hk).ext E
  · subst q
    simp at hk
    subst hk
    rw [← s3]; exact F
  · rw [List.getElem?_eq_none (by simp; omega)] at hk; cases hk
theorem Sat.put {Z : State} {a0 : Array Value} {n0 : Nat} {h h' : Heap} {H : List GObj} {k sl : Nat} {v : Value} {o : GObj} (S : Sat Z a0 n0 h H) (W : Wr h h' (n0 + k) sl v) (F : Ob Z a0 h' (n0 + k) o) : Sat Z a0 n0 h' (H.set k o) := by
  obtain ⟨s1, s2, s3, s4⟩ := S
  refine ⟨s1, ⟨by rw [W.size]; exact s2.1, fun a c q => ?_⟩, by rw [W.size, s3]; simp, fun j o' hj => ?_⟩
  · obtain ⟨c', e1, -, -, -, e5, -⟩ := wr_at W (s2.2 a c q)
    have hlt := (Array.getElem?_eq_some_iff.mp q).1
    rw [← e5 (by intro q; subst q; rw [s1] at hlt; exact absurd hlt (by exact Nat.not_lt.mpr (Nat.le_add_right _ _)))]; exact e1
  · rw [List.getElem?_set] at hj
    split at hj
    · rename_i e
      subst e
      split at hj
      · cases hj; exact F
      · cases hj
    · rename_i ne
      exact (s4 j o' hj).other W (fun q => ne (Nat.add_left_cancel q).symm)
theorem Sat.lt {Z : State} {a0 : Array Value} {n0 : Nat} {h : Heap} {H : List GObj} (S : Sat Z a0 n0 h H) {k : Nat} {o : GObj} (q : H[k]? = some o) : n0 + k < h.size := by
  have := (List.getElem?_eq_some_iff.mp q).1
  have := S.2.2.1
  omega
/-- what a walk's frame stands in -/
def Cx (Z : State) (M : GM) (p : Program) (s : State) (m : MethodId) (meth : Method) (c : Code) : Prop :=
  p.tables.exec = Jvm.exec ∧ Z.Warmed39 s.vm ∧ c.code = M.2.1 ∧ c.maxLocals = M.2.2.1 ∧ meth.sig.returnType = M.2.2.2 ∧ meth.locks = false ∧ s.vm.findClass M.1.cls = some m.cls ∧ meth.name = M.1.name
def End (Z : State) (a0 : Array Value) (n0 : Nat) (R : Room) (Q : Option Value → List GObj → Prop) (p : Program) (e : Env) (s : State) (below : List Frame) (S0 : State) : Prop :=
  ∃ s₂ o, Steps p.tables e below S0 s₂ ∧ s₂.status = .running ∧ Ended s₂ below o ∧ ∃ v L', o = .returned v ∧ (∃ H', Q v H' ∧ Sat Z a0 n0 s₂.heap H' ∧ Fr n0 L') ∧ FrameEnd s o s₂ L' R.cells R.slots
theorem End.back {Z : State} {a0 : Array Value} {n0 : Nat} {R : Room} {Q : Option Value → List GObj → Prop} {p : Program} {e : Env} {s : State} {below : List Frame} {S0 S1 : State} (st : ∀ t, Steps p.tables e below S1 t → Steps p.tables e below S0 t) (h : End Z a0 n0 R Q p e s below S1) : End Z a0 n0 R Q p e s below S0 := by
  obtain ⟨s₂, o, h1, r⟩ := h
  exact ⟨s₂, o, st _ h1, r⟩
/-- from this point the walk comes to its end, and what it leaves meets Q -/
def Go (Z : State) (a0 : Array Value) (n0 : Nat) (M : GM) (R : Room) (Q : Option Value → List GObj → Prop) (pc : Nat) (L : List Slot) (st : List Value) (H : List GObj) (ce sl : Nat) : Prop :=
  ∀ (p : Program) (l : Launch) (e : Env) (s : State) (m : MethodId) (args : Array Value) (below : List Frame) (meth : Method) (c : Code) (T : State) (locs : List Loc),
    Stand p l e R s m args below meth c T locs ce sl → Cx Z M p s m meth c → Sat Z a0 n0 T.heap H → s.heap.size + ce = n0 + H.length → Fr n0 locs → End Z a0 n0 R Q p e s below (T.setTop (mkF m pc L.toArray st))
/-- the instruction at pc, its length, what lies behind -/
def Ins (M : GM) (pc : Nat) (i : Instr) (n pc' : Nat) : Prop := decode M.2.1 pc = .ok (i, n) ∧ pc + n = pc'
section Rules
variable {Z : State} {a0 : Array Value} {n0 : Nat} {M : GM} {R : Room} {Q : Option Value → List GObj → Prop} {pc pc' : Nat} {L : List Slot} {st : List Value} {H : List GObj} {ce sl : Nat}
theorem go_pure {L' : List Slot} {st' : List Value} (hs : ∀ (p : Program) (e : Env) (m : MethodId) (below : List Frame) (c : Code) (T t : State), At T m c below → p.tables.exec = Jvm.exec → c.code = M.2.1 → Steps p.tables e below (T.setTop (mkF m pc' L'.toArray st')) t → Steps p.tables e below (T.setTop (mkF m pc L.toArray st)) t)
    (h : Go Z a0 n0 M R Q pc' L' st' H ce sl) : Go Z a0 n0 M R Q pc L st H ce sl := fun p l e s m args below meth c T locs X C S E F =>
  (h p l e s m args below meth c T locs X C S E F).back fun t k => hs p e m below c T t X.here C.1 C.2.2.1 k
end Rules
section Rules
variable {Z : State} {a0 : Array Value} {n0 : Nat} {M : GM} {R : Room} {Q : Option Value → List GObj → Prop} {pc pc' : Nat} {L : List Slot} {st : List Value} {H : List GObj} {ce sl : Nat}
theorem go_aloadN {k : Fin 4} {v : Addr} (hd : Ins M pc (.aload_n k) 1 pc') (hl : L[k.val]? = some (.val (.ref v))) (h : Go Z a0 n0 M R Q pc' L (.ref v :: st) H ce sl) : Go Z a0 n0 M R Q pc L st H ce sl := by
  obtain ⟨hd, rfl⟩ := hd
  exact go_pure (fun p e m below c T t hA hx hy k => XS.aloadN hA hx rfl (hb hy hd) (by simpa using hl) rfl k) h
theorem go_aload {k : Nat} {v : Addr} (hd : Ins M pc (.aload k) 2 pc') (hl : L[k]? = some (.val (.ref v))) (h : Go Z a0 n0 M R Q pc' L (.ref v :: st) H ce sl) : Go Z a0 n0 M R Q pc L st H ce sl := by
  obtain ⟨hd, rfl⟩ := hd
  exact go_pure (fun p e m below c T t hA hx hy k => XS.aload hA hx rfl (hb hy hd) (by simpa using hl) rfl k) h
theorem go_aloadNull {k : Fin 4} (hd : Ins M pc (.aload_n k) 1 pc') (hl : L[k.val]? = some (.val .null)) (h : Go Z a0 n0 M R Q pc' L (.null :: st) H ce sl) : Go Z a0 n0 M R Q pc L st H ce sl := by
  obtain ⟨hd, rfl⟩ := hd
  exact go_pure (fun p e m below c T t hA hx hy k => XS.aloadN hA hx rfl (hb hy hd) (by simpa using hl) rfl k) h
theorem go_iloadN {k : Fin 4} {v : Int32} (hd : Ins M pc (.iload_n k) 1 pc') (hl : L[k.val]? = some (.val (.int v))) (h : Go Z a0 n0 M R Q pc' L (.int v :: st) H ce sl) : Go Z a0 n0 M R Q pc L st H ce sl := by
  obtain ⟨hd, rfl⟩ := hd
  exact go_pure (fun p e m below c T t hA hx hy k => XS.iloadN hA hx rfl (hb hy hd) (by simpa using hl) k) h
theorem go_iload {k : Nat} {v : Int32} (hd : Ins M pc (.iload k) 2 pc') (hl : L[k]? = some (.val (.int v))) (h : Go Z a0 n0 M R Q pc' L (.int v :: st) H ce sl) : Go Z a0 n0 M R Q pc L st H ce sl := by
  obtain ⟨hd, rfl⟩ := hd
  exact go_pure (fun p e m below c T t hA hx hy k => XS.iload hA hx rfl (hb hy hd) (by simpa using hl) k) h
theorem go_lloadN {k : Fin 4} {v : Int64} (hd : Ins M pc (.lload_n k) 1 pc') (hl : L[k.val]? = some (.val (.long v))) (h : Go Z a0 n0 M R Q pc' L (.long v :: st) H ce sl) : Go Z a0 n0 M R Q pc L st H ce sl := by
  obtain ⟨hd, rfl⟩ := hd
  exact go_pure (fun p e m below c T t hA hx hy k => XT.lloadN hA hx rfl (hb hy hd) (by simpa using hl) k) h
theorem go_lload {k : Nat} {v : Int64} (hd : Ins M pc (.lload k) 2 pc') (hl : L[k]? = some (.val (.long v))) (h : Go Z a0 n0 M R Q pc' L (.long v :: st) H ce sl) : Go Z a0 n0 M R Q pc L st H ce sl := by
  obtain ⟨hd, rfl⟩ := hd
  exact go_pure (fun p e m below c T t hA hx hy k => XT.lload hA hx rfl (hb hy hd) (by simpa using hl) k) h
theorem go_iconst {i : Int} {v : Int32} (hd : Ins M pc (.iconst i) 1 pc') (hv : Int32.ofInt i = v) (h : Go Z a0 n0 M R Q pc' L (.int v :: st) H ce sl) : Go Z a0 n0 M R Q pc L st H ce sl := by
  obtain ⟨hd, rfl⟩ := hd
  exact go_pure (fun p e m below c T t hA hx hy k => XS.iconst hA hx rfl (hb hy hd) (by rw [hv]; exact k)) h
theorem go_bipush {i : Int} {v : Int32} (hd : Ins M pc (.bipush i) 2 pc') (hv : (Int8.ofInt i).toInt32 = v) (h : Go Z a0 n0 M R Q pc' L (.int v :: st) H ce sl) : Go Z a0 n0 M R Q pc L st H ce sl := by
  obtain ⟨hd, rfl⟩ := hd
  exact go_pure (fun p e m below c T t hA hx hy k => XS.bipush hA hx rfl (hb hy hd) (by rw [hv]; exact k)) h
theorem go_sipush {i : Int} {v : Int32} (hd : Ins M pc (.sipush i) 3 pc') (hv : (Int16.ofInt i).toInt32 = v) (h : Go Z a0 n0 M R Q pc' L (.int v :: st) H ce sl) : Go Z a0 n0 M R Q pc L st H ce sl := by
  obtain ⟨hd, rfl⟩ := hd
  exact go_pure (fun p e m below c T t hA hx hy k => XS.sipush hA hx rfl (hb hy hd) (by rw [hv]; exact k)) h
theorem go_lconst {i : Fin 2} {v : Int64} (hd : Ins M pc (.lconst i) 1 pc') (hv : Int64.ofNat i = v) (h : Go Z a0 n0 M R Q pc' L (.long v :: st) H ce sl) : Go Z a0 n0 M R Q pc L st H ce sl := by
  obtain ⟨hd, rfl⟩ := hd
  exact go_pure (fun p e m below c T t hA hx hy k => XT.lconst hA hx rfl (hb hy hd) (by rw [hv]; exact k)) h
theorem go_aconstNull  (hd : Ins M pc (.aconst_null) 1 pc') (h : Go Z a0 n0 M R Q pc' L (.null :: st) H ce sl) : Go Z a0 n0 M R Q pc L st H ce sl := by
  obtain ⟨hd, rfl⟩ := hd
  exact go_pure (fun p e m below c T t hA hx hy k => XS.aconstNull hA hx rfl (hb hy hd) k) h
theorem go_iadd {x y : Int32} (hd : Ins M pc (.iadd) 1 pc') (h : Go Z a0 n0 M R Q pc' L (.int (x + y) :: st) H ce sl) : Go Z a0 n0 M R Q pc L (.int y :: .int x :: st) H ce sl := by
  obtain ⟨hd, rfl⟩ := hd
  exact go_pure (fun p e m below c T t hA hx hy k => XS.iadd hA hx rfl (hb hy hd) rfl k) h
theorem go_isub {x y : Int32} (hd : Ins M pc (.isub) 1 pc') (h : Go Z a0 n0 M R Q pc' L (.int (x - y) :: st) H ce sl) : Go Z a0 n0 M R Q pc L (.int y :: .int x :: st) H ce sl := by
  obtain ⟨hd, rfl⟩ := hd
  exact go_pure (fun p e m below c T t hA hx hy k => XS.isub hA hx rfl (hb hy hd) rfl k) h
theorem go_imul {x y : Int32} (hd : Ins M pc (.imul) 1 pc') (h : Go Z a0 n0 M R Q pc' L (.int (x * y) :: st) H ce sl) : Go Z a0 n0 M R Q pc L (.int y :: .int x :: st) H ce sl := by
  obtain ⟨hd, rfl⟩ := hd
  exact go_pure (fun p e m below c T t hA hx hy k => XS.imul hA hx rfl (hb hy hd) rfl k) h
theorem go_iand {x y : Int32} (hd : Ins M pc (.iand) 1 pc') (h : Go Z a0 n0 M R Q pc' L (.int (x &&& y) :: st) H ce sl) : Go Z a0 n0 M R Q pc L (.int y :: .int x :: st) H ce sl := by
  obtain ⟨hd, rfl⟩ := hd
  exact go_pure (fun p e m below c T t hA hx hy k => XS.iand hA hx rfl (hb hy hd) rfl k) h
theorem go_ior {x y : Int32} (hd : Ins M pc (.ior) 1 pc') (h : Go Z a0 n0 M R Q pc' L (.int (x ||| y) :: st) H ce sl) : Go Z a0 n0 M R Q pc L (.int y :: .int x :: st) H ce sl := by
  obtain ⟨hd, rfl⟩ := hd
  exact go_pure (fun p e m below c T t hA hx hy k => XT.ior hA hx rfl (hb hy hd) rfl k) h
theorem go_ixor {x y : Int32} (hd : Ins M pc (.ixor) 1 pc') (h : Go Z a0 n0 M R Q pc' L (.int (x ^^^ y) :: st) H ce sl) : Go Z a0 n0 M R Q pc L (.int y :: .int x :: st) H ce sl := by
  obtain ⟨hd, rfl⟩ := hd
  exact go_pure (fun p e m below c T t hA hx hy k => XT.ixor hA hx rfl (hb hy hd) rfl k) h
theorem go_ishl {x y : Int32} (hd : Ins M pc (.ishl) 1 pc') (h : Go Z a0 n0 M R Q pc' L (.int (x <<< (y &&& 31)) :: st) H ce sl) : Go Z a0 n0 M R Q pc L (.int y :: .int x :: st) H ce sl := by
  obtain ⟨hd, rfl⟩ := hd
  exact go_pure (fun p e m below c T t hA hx hy k => XT.ishl hA hx rfl (hb hy hd) rfl k) h
theorem go_ishr {x y : Int32} (hd : Ins M pc (.ishr) 1 pc') (h : Go Z a0 n0 M R Q pc' L (.int (x >>> (y &&& 31)) :: st) H ce sl) : Go Z a0 n0 M R Q pc L (.int y :: .int x :: st) H ce sl := by
  obtain ⟨hd, rfl⟩ := hd
  exact go_pure (fun p e m below c T t hA hx hy k => XT.ishr hA hx rfl (hb hy hd) rfl k) h
theorem go_iushr {x y : Int32} (hd : Ins M pc (.iushr) 1 pc') (h : Go Z a0 n0 M R Q pc' L (.int (XT.ushr x y) :: st) H ce sl) : Go Z a0 n0 M R Q pc L (.int y :: .int x :: st) H ce sl := by
  obtain ⟨hd, rfl⟩ := hd
  exact go_pure (fun p e m below c T t hA hx hy k => XT.iushr hA hx rfl (hb hy hd) rfl k) h
theorem go_idiv {x y : Int32} (hd : Ins M pc (.idiv) 1 pc') (hn : y ≠ 0) (h : Go Z a0 n0 M R Q pc' L (.int (x / y) :: st) H ce sl) : Go Z a0 n0 M R Q pc L (.int y :: .int x :: st) H ce sl := by
  obtain ⟨hd, rfl⟩ := hd
  exact go_pure (fun p e m below c T t hA hx hy k => XS.idiv hA hx rfl (hb hy hd) rfl hn k) h
theorem go_irem {x y : Int32} (hd : Ins M pc (.irem) 1 pc') (hn : y ≠ 0) (h : Go Z a0 n0 M R Q pc' L (.int (x % y) :: st) H ce sl) : Go Z a0 n0 M R Q pc L (.int y :: .int x :: st) H ce sl := by
  obtain ⟨hd, rfl⟩ := hd
  exact go_pure (fun p e m below c T t hA hx hy k => XS.irem hA hx rfl (hb hy hd) rfl hn (by rw [irem_eq_mod]; exact k)) h
theorem go_ineg {x : Int32} (hd : Ins M pc (.ineg) 1 pc') (h : Go Z a0 n0 M R Q pc' L (.int (-x) :: st) H ce sl) : Go Z a0 n0 M R Q pc L (.int x :: st) H ce sl := by
  obtain ⟨hd, rfl⟩ := hd
  exact go_pure (fun p e m below c T t hA hx hy k => XS.ineg hA hx rfl (hb hy hd) rfl k) h
theorem go_ladd {x y : Int64} (hd : Ins M pc (.ladd) 1 pc') (h : Go Z a0 n0 M R Q pc' L (.long (x + y) :: st) H ce sl) : Go Z a0 n0 M R Q pc L (.long y :: .long x :: st) H ce sl := by
  obtain ⟨hd, rfl⟩ := hd
  exact go_pure (fun p e m below c T t hA hx hy k => XT.ladd hA hx rfl (hb hy hd) rfl k) h
theorem go_lsub {x y : Int64} (hd : Ins M pc (.lsub) 1 pc') (h : Go Z a0 n0 M R Q pc' L (.long (x - y) :: st) H ce sl) : Go Z a0 n0 M R Q pc L (.long y :: .long x :: st) H ce sl := by
  obtain ⟨hd, rfl⟩ := hd
  exact go_pure (fun p e m below c T t hA hx hy k => XT.lsub hA hx rfl (hb hy hd) rfl k) h
theorem go_lmul {x y : Int64} (hd : Ins M pc (.lmul) 1 pc') (h : Go Z a0 n0 M R Q pc' L (.long (x * y) :: st) H ce sl) : Go Z a0 n0 M R Q pc L (.long y :: .long x :: st) H ce sl := by
  obtain ⟨hd, rfl⟩ := hd
  exact go_pure (fun p e m below c T t hA hx hy k => XT.lmul hA hx rfl (hb hy hd) rfl k) h
theorem go_land {x y : Int64} (hd : Ins M pc (.land) 1 pc') (h : Go Z a0 n0 M R Q pc' L (.long (x &&& y) :: st) H ce sl) : Go Z a0 n0 M R Q pc L (.long y :: .long x :: st) H ce sl := by
  obtain ⟨hd, rfl⟩ := hd
  exact go_pure (fun p e m below c T t hA hx hy k => XT.land hA hx rfl (hb hy hd) rfl k) h
theorem go_lor {x y : Int64} (hd : Ins M pc (.lor) 1 pc') (h : Go Z a0 n0 M R Q pc' L (.long (x ||| y) :: st) H ce sl) : Go Z a0 n0 M R Q pc L (.long y :: .long x :: st) H ce sl := by
  obtain ⟨hd, rfl⟩ := hd
  exact go_pure (fun p e m below c T t hA hx hy k => XT.lor hA hx rfl (hb hy hd) rfl k) h
theorem go_lxor {x y : Int64} (hd : Ins M pc (.lxor) 1 pc') (h : Go Z a0 n0 M R Q pc' L (.long (x ^^^ y) :: st) H ce sl) : Go Z a0 n0 M R Q pc L (.long y :: .long x :: st) H ce sl := by
  obtain ⟨hd, rfl⟩ := hd
  exact go_pure (fun p e m below c T t hA hx hy k => XT.lxor hA hx rfl (hb hy hd) rfl k) h
theorem go_lshl {x : Int64} {y : Int32} (hd : Ins M pc (.lshl) 1 pc') (h : Go Z a0 n0 M R Q pc' L (.long (x <<< (y.toInt64 &&& 63)) :: st) H ce sl) : Go Z a0 n0 M R Q pc L (.int y :: .long x :: st) H ce sl := by
  obtain ⟨hd, rfl⟩ := hd
  exact go_pure (fun p e m below c T t hA hx hy k => XT.lshl hA hx rfl (hb hy hd) rfl k) h
theorem go_lshr {x : Int64} {y : Int32} (hd : Ins M pc (.lshr) 1 pc') (h : Go Z a0 n0 M R Q pc' L (.long (x >>> (y.toInt64 &&& 63)) :: st) H ce sl) : Go Z a0 n0 M R Q pc L (.int y :: .long x :: st) H ce sl := by
  obtain ⟨hd, rfl⟩ := hd
  exact go_pure (fun p e m below c T t hA hx hy k => XT.lshr hA hx rfl (hb hy hd) rfl k) h
theorem go_lushr {x : Int64} {y : Int32} (hd : Ins M pc (.lushr) 1 pc') (h : Go Z a0 n0 M R Q pc' L (.long (XT.ushrL x y) :: st) H ce sl) : Go Z a0 n0 M R Q pc L (.int y :: .long x :: st) H ce sl := by
  obtain ⟨hd, rfl⟩ := hd
  exact go_pure (fun p e m below c T t hA hx hy k => XT.lushr hA hx rfl (hb hy hd) rfl k) h
theorem go_lcmp {x y : Int64} (hd : Ins M pc (.lcmp) 1 pc') (h : Go Z a0 n0 M R Q pc' L (.int (XT.cmpL x y) :: st) H ce sl) : Go Z a0 n0 M R Q pc L (.long y :: .long x :: st) H ce sl := by
  obtain ⟨hd, rfl⟩ := hd
  exact go_pure (fun p e m below c T t hA hx hy k => XT.lcmp hA hx rfl (hb hy hd) rfl k) h
theorem go_lneg {x : Int64} (hd : Ins M pc (.lneg) 1 pc') (h : Go Z a0 n0 M R Q pc' L (.long (-x) :: st) H ce sl) : Go Z a0 n0 M R Q pc L (.long x :: st) H ce sl := by
  obtain ⟨hd, rfl⟩ := hd
  exact go_pure (fun p e m below c T t hA hx hy k => XT.lneg hA hx rfl (hb hy hd) rfl k) h
theorem go_i2l {x : Int32} (hd : Ins M pc (.i2l) 1 pc') (h : Go Z a0 n0 M R Q pc' L (.long x.toInt64 :: st) H ce sl) : Go Z a0 n0 M R Q pc L (.int x :: st) H ce sl := by
  obtain ⟨hd, rfl⟩ := hd
  exact go_pure (fun p e m below c T t hA hx hy k => XT.i2l hA hx rfl (hb hy hd) rfl k) h
theorem go_l2i {x : Int64} (hd : Ins M pc (.l2i) 1 pc') (h : Go Z a0 n0 M R Q pc' L (.int x.toInt32 :: st) H ce sl) : Go Z a0 n0 M R Q pc L (.long x :: st) H ce sl := by
  obtain ⟨hd, rfl⟩ := hd
  exact go_pure (fun p e m below c T t hA hx hy k => XT.l2i hA hx rfl (hb hy hd) rfl k) h
theorem go_i2b {x : Int32} (hd : Ins M pc (.i2b) 1 pc') (h : Go Z a0 n0 M R Q pc' L (.int x.toInt8.toInt32 :: st) H ce sl) : Go Z a0 n0 M R Q pc L (.int x :: st) H ce sl := by
  obtain ⟨hd, rfl⟩ := hd
  exact go_pure (fun p e m below c T t hA hx hy k => XT.i2b hA hx rfl (hb hy hd) rfl k) h
theorem go_i2c {x : Int32} (hd : Ins M pc (.i2c) 1 pc') (h : Go Z a0 n0 M R Q pc' L (.int x.toUInt32.toUInt16.toUInt32.toInt32 :: st) H ce sl) : Go Z a0 n0 M R Q pc L (.int x :: st) H ce sl := by
  obtain ⟨hd, rfl⟩ := hd
  exact go_pure (fun p e m below c T t hA hx hy k => XT.i2c hA hx rfl (hb hy hd) rfl k) h
theorem go_dup {x : Value} (hd : Ins M pc (.dup) 1 pc') (hc : x.category = 1) (h : Go Z a0 n0 M R Q pc' L (x :: x :: st) H ce sl) : Go Z a0 n0 M R Q pc L (x :: st) H ce sl := by
  obtain ⟨hd, rfl⟩ := hd
  exact go_pure (fun p e m below c T t hA hx hy k => XS.dup hA hx rfl (hb hy hd) rfl hc k) h
theorem go_pop {x : Value} (hd : Ins M pc (.pop) 1 pc') (hc : x.category = 1) (h : Go Z a0 n0 M R Q pc' L st H ce sl) : Go Z a0 n0 M R Q pc L (x :: st) H ce sl := by
  obtain ⟨hd, rfl⟩ := hd
  exact go_pure (fun p e m below c T t hA hx hy k => XT.pop hA hx rfl (hb hy hd) rfl hc k) h
theorem go_dupX1 {x y : Value} (hd : Ins M pc (.dup_x1) 1 pc') (hc : x.category = 1) (hc' : y.category = 1) (h : Go Z a0 n0 M R Q pc' L (x :: y :: x :: st) H ce sl) : Go Z a0 n0 M R Q pc L (x :: y :: st) H ce sl := by
  obtain ⟨hd, rfl⟩ := hd
  exact go_pure (fun p e m below c T t hA hx hy k => XT.dupX1 hA hx rfl (hb hy hd) rfl hc hc' k) h
theorem go_dup2 {x y : Value} (hd : Ins M pc (.dup2) 1 pc') (hc : x.category = 1) (hc' : y.category = 1) (h : Go Z a0 n0 M R Q pc' L (x :: y :: x :: y :: st) H ce sl) : Go Z a0 n0 M R Q pc L (x :: y :: st) H ce sl := by
  obtain ⟨hd, rfl⟩ := hd
  exact go_pure (fun p e m below c T t hA hx hy k => XT.dup2 hA hx rfl (hb hy hd) rfl hc hc' k) h
theorem go_goto {o : Int} (t : Nat) (hd : Ins M pc (.goto o) 3 pc') (ht : (pc : Int) + o = (t : Int)) (h : Go Z a0 n0 M R Q t L st H ce sl) : Go Z a0 n0 M R Q pc L st H ce sl := by
  obtain ⟨hd, rfl⟩ := hd
  exact go_pure (fun p e m below c T u hA hx hy k => XS.goto hA hx rfl (pc0 := pc) (pc' := t) rfl (hb hy hd) (by omega) (by omega) k) h
theorem go_if {cd : ClassFile.Cond} {o : Int} {x : Int32} (t : Nat) (hd : Ins M pc (.ifCond cd o) 3 pc') (ht : (pc : Int) + o = (t : Int)) (h1 : ifCond.holds cd x = true → Go Z a0 n0 M R Q t L st H ce sl) (h2 : ifCond.holds cd x = false → Go Z a0 n0 M R Q pc' L st H ce sl) : Go Z a0 n0 M R Q pc L (.int x :: st) H ce sl := by
  obtain ⟨hd, rfl⟩ := hd
  cases hc : ifCond.holds cd x
  · exact go_pure (fun p e m below c T u hA hx hy k => XS.ifNo hA hx rfl (hb hy hd) rfl hc k) (h2 hc)
  · exact go_pure (fun p e m below c T u hA hx hy k => XS.ifYes hA hx rfl (pc0 := pc) (pc' := t) rfl (hb hy hd) rfl hc (by omega) (by omega) k) (h1 hc)
theorem go_icmp {cd : ClassFile.Cond} {o : Int} {x y : Int32} (t : Nat) (hd : Ins M pc (.if_icmp cd o) 3 pc') (ht : (pc : Int) + o = (t : Int)) (h1 : if_icmp.holds cd x y = true → Go Z a0 n0 M R Q t L st H ce sl) (h2 : if_icmp.holds cd x y = false → Go Z a0 n0 M R Q pc' L st H ce sl) : Go Z a0 n0 M R Q pc L (.int y :: .int x :: st) H ce sl := by
  obtain ⟨hd, rfl⟩ := hd
  cases hc : if_icmp.holds cd x y
  · exact go_pure (fun p e m below c T u hA hx hy k => XS.icmpNo hA hx rfl (hb hy hd) rfl hc k) (h2 hc)
  · exact go_pure (fun p e m below c T u hA hx hy k => XS.icmpYes hA hx rfl (pc0 := pc) (pc' := t) rfl (hb hy hd) rfl hc (by omega) (by omega) k) (h1 hc)
theorem go_icmpT {cd : ClassFile.Cond} {o : Int} {x y : Int32} (t : Nat) (hd : Ins M pc (.if_icmp cd o) 3 pc') (ht : (pc : Int) + o = (t : Int)) (hc : if_icmp.holds cd x y = true) (h : Go Z a0 n0 M R Q t L st H ce sl) : Go Z a0 n0 M R Q pc L (.int y :: .int x :: st) H ce sl := go_icmp t hd ht (fun _ => h) (fun q => by rw [hc] at q; cases q)
theorem go_icmpF {cd : ClassFile.Cond} {o : Int} {x y : Int32} (hd : Ins M pc (.if_icmp cd o) 3 pc') (hc : if_icmp.holds cd x y = false) (h : Go Z a0 n0 M R Q pc' L st H ce sl) : Go Z a0 n0 M R Q pc L (.int y :: .int x :: st) H ce sl := by
  obtain ⟨hd, rfl⟩ := hd
  exact go_pure (fun p e m below c T u hA hx hy k => XS.icmpNo hA hx rfl (hb hy hd) rfl hc k) h
theorem go_ifT {cd : ClassFile.Cond} {o : Int} {x : Int32} (t : Nat) (hd : Ins M pc (.ifCond cd o) 3 pc') (ht : (pc : Int) + o = (t : Int)) (hc : ifCond.holds cd x = true) (h : Go Z a0 n0 M R Q t L st H ce sl) : Go Z a0 n0 M R Q pc L (.int x :: st) H ce sl := go_if t hd ht (fun _ => h) (fun q => by rw [hc] at q; cases q)
theorem go_ifF {cd : ClassFile.Cond} {o : Int} {x : Int32} (hd : Ins M pc (.ifCond cd o) 3 pc') (hc : ifCond.holds cd x = false) (h : Go Z a0 n0 M R Q pc' L st H ce sl) : Go Z a0 n0 M R Q pc L (.int x :: st) H ce sl := by
  obtain ⟨hd, rfl⟩ := hd
  exact go_pure (fun p e m below c T u hA hx hy k => XS.ifNo hA hx rfl (hb hy hd) rfl hc k) h
theorem hold_lt (x y : Int32) : (if_icmp.holds .lt x y = true ↔ x < y) ∧ (if_icmp.holds .lt x y = false ↔ ¬ x < y) := by simp [if_icmp.holds, Int32.not_lt, Int32.not_le]
theorem go_icmp_lt {o : Int} {x y : Int32} (t : Nat) (hd : Ins M pc (.if_icmp .lt o) 3 pc') (ht : (pc : Int) + o = (t : Int)) (h1 : x < y → Go Z a0 n0 M R Q t L st H ce sl) (h2 : ¬ x < y → Go Z a0 n0 M R Q pc' L st H ce sl) : Go Z a0 n0 M R Q pc L (.int y :: .int x :: st) H ce sl :=
  go_icmp t hd ht (fun q => h1 ((hold_lt x y).1.mp q)) (fun q => h2 ((hold_lt x y).2.mp q))
theorem go_if_lt {o : Int} {x : Int32} (t : Nat) (hd : Ins M pc (.ifCond .lt o) 3 pc') (ht : (pc : Int) + o = (t : Int)) (h1 : x < 0 → Go Z a0 n0 M R Q t L st H ce sl) (h2 : ¬ x < 0 → Go Z a0 n0 M R Q pc' L st H ce sl) : Go Z a0 n0 M R Q pc L (.int x :: st) H ce sl :=
  go_if t hd ht (fun q => h1 ((hold_lt x 0).1.mp ((if0 _ _).symm.trans q))) (fun q => h2 ((hold_lt x 0).2.mp ((if0 _ _).symm.trans q)))
theorem hold_ge (x y : Int32) : (if_icmp.holds .ge x y = true ↔ ¬ x < y) ∧ (if_icmp.holds .ge x y = false ↔ x < y) := by simp [if_icmp.holds, Int32.not_lt, Int32.not_le]
theorem go_icmp_ge {o : Int} {x y : Int32} (t : Nat) (hd : Ins M pc (.if_icmp .ge o) 3 pc') (ht : (pc : Int) + o = (t : Int)) (h1 : ¬ x < y → Go Z a0 n0 M R Q t L st H ce sl) (h2 : x < y → Go Z a0 n0 M R Q pc' L st H ce sl) : Go Z a0 n0 M R Q pc L (.int y :: .int x :: st) H ce sl :=
  go_icmp t hd ht (fun q => h1 ((hold_ge x y).1.mp q)) (fun q => h2 ((hold_ge x y).2.mp q))
theorem go_if_ge {o : Int} {x : Int32} (t : Nat) (hd : Ins M pc (.ifCond .ge o) 3 pc') (ht : (pc : Int) + o = (t : Int)) (h1 : ¬ x < 0 → Go Z a0 n0 M R Q t L st H ce sl) (h2 : x < 0 → Go Z a0 n0 M R Q pc' L st H ce sl) : Go Z a0 n0 M R Q pc L (.int x :: st) H ce sl :=
  go_if t hd ht (fun q => h1 ((hold_ge x 0).1.mp ((if0 _ _).symm.trans q))) (fun q => h2 ((hold_ge x 0).2.mp ((if0 _ _).symm.trans q)))
theorem hold_gt (x y : Int32) : (if_icmp.holds .gt x y = true ↔ y < x) ∧ (if_icmp.holds .gt x y = false ↔ ¬ y < x) := by simp [if_icmp.holds, Int32.not_lt, Int32.not_le]
theorem go_icmp_gt {o : Int} {x y : Int32} (t : Nat) (hd : Ins M pc (.if_icmp .gt o) 3 pc') (ht : (pc : Int) + o = (t : Int)) (h1 : y < x → Go Z a0 n0 M R Q t L st H ce sl) (h2 : ¬ y < x → Go Z a0 n0 M R Q pc' L st H ce sl) : Go Z a0 n0 M R Q pc L (.int y :: .int x :: st) H ce sl :=
  go_icmp t hd ht (fun q => h1 ((hold_gt x y).1.mp q)) (fun q => h2 ((hold_gt x y).2.mp q))
theorem go_if_gt {o : Int} {x : Int32} (t : Nat) (hd : Ins M pc (.ifCond .gt o) 3 pc') (ht : (pc : Int) + o = (t : Int)) (h1 : 0 < x → Go Z a0 n0 M R Q t L st H ce sl) (h2 : ¬ 0 < x → Go Z a0 n0 M R Q pc' L st H ce sl) : Go Z a0 n0 M R Q pc L (.int x :: st) H ce sl :=
  go_if t hd ht (fun q => h1 ((hold_gt x 0).1.mp ((if0 _ _).symm.trans q))) (fun q => h2 ((hold_gt x 0).2.mp ((if0 _ _).symm.trans q)))
theorem hold_le (x y : Int32) : (if_icmp.holds .le x y = true ↔ ¬ y < x) ∧ (if_icmp.holds .le x y = false ↔ y < x) := by simp [if_icmp.holds, Int32.not_lt, Int32.not_le]
theorem go_icmp_le {o : Int} {x y : Int32} (t : Nat) (hd : Ins M pc (.if_icmp .le o) 3 pc') (ht : (pc : Int) + o = (t : Int)) (h1 : ¬ y < x → Go Z a0 n0 M R Q t L st H ce sl) (h2 : y < x → Go Z a0 n0 M R Q pc' L st H ce sl) : Go Z a0 n0 M R Q pc L (.int y :: .int x :: st) H ce sl :=
  go_icmp t hd ht (fun q => h1 ((hold_le x y).1.mp q)) (fun q => h2 ((hold_le x y).2.mp q))
theorem go_if_le {o : Int} {x : Int32} (t : Nat) (hd : Ins M pc (.ifCond .le o) 3 pc') (ht : (pc : Int) + o = (t : Int)) (h1 : ¬ 0 < x → Go Z a0 n0 M R Q t L st H ce sl) (h2 : 0 < x → Go Z a0 n0 M R Q pc' L st H ce sl) : Go Z a0 n0 M R Q pc L (.int x :: st) H ce sl :=
  go_if t hd ht (fun q => h1 ((hold_le x 0).1.mp ((if0 _ _).symm.trans q))) (fun q => h2 ((hold_le x 0).2.mp ((if0 _ _).symm.trans q)))
theorem hold_eq (x y : Int32) : (if_icmp.holds .eq x y = true ↔ x = y) ∧ (if_icmp.holds .eq x y = false ↔ ¬ x = y) := by simp [if_icmp.holds, Int32.not_lt, Int32.not_le]
theorem go_icmp_eq {o : Int} {x y : Int32} (t : Nat) (hd : Ins M pc (.if_icmp .eq o) 3 pc') (ht : (pc : Int) + o = (t : Int)) (h1 : x = y → Go Z a0 n0 M R Q t L st H ce sl) (h2 : ¬ x = y → Go Z a0 n0 M R Q pc' L st H ce sl) : Go Z a0 n0 M R Q pc L (.int y :: .int x :: st) H ce sl :=
  go_icmp t hd ht (fun q => h1 ((hold_eq x y).1.mp q)) (fun q => h2 ((hold_eq x y).2.mp q))
theorem go_if_eq {o : Int} {x : Int32} (t : Nat) (hd : Ins M pc (.ifCond .eq o) 3 pc') (ht : (pc : Int) + o = (t : Int)) (h1 : x = 0 → Go Z a0 n0 M R Q t L st H ce sl) (h2 : ¬ x = 0 → Go Z a0 n0 M R Q pc' L st H ce sl) : Go Z a0 n0 M R Q pc L (.int x :: st) H ce sl :=
  go_if t hd ht (fun q => h1 ((hold_eq x 0).1.mp ((if0 _ _).symm.trans q))) (fun q => h2 ((hold_eq x 0).2.mp ((if0 _ _).symm.trans q)))
theorem hold_ne (x y : Int32) : (if_icmp.holds .ne x y = true ↔ ¬ x = y) ∧ (if_icmp.holds .ne x y = false ↔ x = y) := by simp [if_icmp.holds, Int32.not_lt, Int32.not_le]
theorem go_icmp_ne {o : Int} {x y : Int32} (t : Nat) (hd : Ins M pc (.if_icmp .ne o) 3 pc') (ht : (pc : Int) + o = (t : Int)) (h1 : ¬ x = y → Go Z a0 n0 M R Q t L st H ce sl) (h2 : x = y → Go Z a0 n0 M R Q pc' L st H ce sl) : Go Z a0 n0 M R Q pc L (.int y :: .int x :: st) H ce sl :=
  go_icmp t hd ht (fun q => h1 ((hold_ne x y).1.mp q)) (fun q => h2 ((hold_ne x y).2.mp q))
theorem go_if_ne {o : Int} {x : Int32} (t : Nat) (hd : Ins M pc (.ifCond .ne o) 3 pc') (ht : (pc : Int) + o = (t : Int)) (h1 : ¬ x = 0 → Go Z a0 n0 M R Q t L st H ce sl) (h2 : x = 0 → Go Z a0 n0 M R Q pc' L st H ce sl) : Go Z a0 n0 M R Q pc L (.int x :: st) H ce sl :=
  go_if t hd ht (fun q => h1 ((hold_ne x 0).1.mp ((if0 _ _).symm.trans q))) (fun q => h2 ((hold_ne x 0).2.mp ((if0 _ _).symm.trans q)))
theorem go_ifnull {o : Int} {b : Addr} (hd : Ins M pc (.ifnull o) 3 pc') (h : Go Z a0 n0 M R Q pc' L st H ce sl) : Go Z a0 n0 M R Q pc L (.ref b :: st) H ce sl := by
  obtain ⟨hd, rfl⟩ := hd
  exact go_pure (fun p e m below c T t hA hx hy k => XS.ifnullNo hA hx rfl (hb hy hd) rfl k) h
theorem go_ifnonnull {o : Int} {b : Addr} (t : Nat) (hd : Ins M pc (.ifnonnull o) 3 pc') (ht : (pc : Int) + o = (t : Int)) (h : Go Z a0 n0 M R Q t L st H ce sl) : Go Z a0 n0 M R Q pc L (.ref b :: st) H ce sl := by
  obtain ⟨hd, rfl⟩ := hd
  exact go_pure (fun p e m below c T u hA hx hy k => XT.ifnonnullYes hA hx rfl (pc0 := pc) (pc' := t) rfl (hb hy hd) rfl (by omega) (by omega) k) h
theorem set_app {α : Type} (A B : List α) (o w : α) {k : Nat} (hA : A.length = k) : (A ++ o :: B).toArray.setIfInBounds k w = (A ++ w :: B).toArray := by
  subst hA; simp
theorem get_app {α : Type} (A B : List α) (o : α) {k : Nat} (hA : A.length = k) : (A ++ o :: B).toArray[k]? = some o := by
  subst hA; simp
theorem sto2 {A B : List Slot} {o1 o2 : Slot} {x : Int64} {k : Nat} (hA : A.length = k) (ho : (One o1 ∧ One o2) ∨ ∃ y : Int64, o1 = .val (.long y) ∧ o2 = .second) : storeLocals (A ++ o1 :: o2 :: B).toArray k (.long x) = some (A ++ .val (.long x) :: .second :: B).toArray := by
  subst hA
  rcases ho with ⟨h1, h2⟩ | ⟨y, rfl, rfl⟩
  · rcases h1 with rfl | ⟨w, rfl, hw⟩ <;> rcases h2 with rfl | ⟨w', rfl, hw'⟩ <;> simp [storeLocals, storeSelf, setAt, *] <;> simp [Value.category]
  · simp [storeLocals, storeSelf, setAt, Value.category]
theorem go_istoreG {k : Nat} {A B : List Slot} {o : Slot} {x : Int32} (hA : A.length = k) (ho : One o) (hd : Ins M pc (.istore k) 2 pc') (h : Go Z a0 n0 M R Q pc' (A ++ .val (.int x) :: B) st H ce sl) : Go Z a0 n0 M R Q pc (A ++ o :: B) (.int x :: st) H ce sl := by
  obtain ⟨hd, rfl⟩ := hd
  exact go_pure (fun p e m below c T t hA' hx hy k => XS.istore hA' hx rfl (hb hy hd) rfl (XS.store1 (get_app A B o hA) ho rfl) (by rw [set_app A B o _ hA]; exact k)) h
theorem go_istoreNG {k : Fin 4} {A B : List Slot} {o : Slot} {x : Int32} (hA : A.length = k.val) (ho : One o) (hd : Ins M pc (.istore_n k) 1 pc') (h : Go Z a0 n0 M R Q pc' (A ++ .val (.int x) :: B) st H ce sl) : Go Z a0 n0 M R Q pc (A ++ o :: B) (.int x :: st) H ce sl := by
  obtain ⟨hd, rfl⟩ := hd
  exact go_pure (fun p e m below c T t hA' hx hy k => XS.istoreN hA' hx rfl (hb hy hd) rfl (XS.store1 (get_app A B o hA) ho rfl) (by rw [set_app A B o _ hA]; exact k)) h
theorem go_astoreG {k : Nat} {A B : List Slot} {o : Slot} {x : Addr} (hA : A.length = k) (ho : One o) (hd : Ins M pc (.astore k) 2 pc') (h : Go Z a0 n0 M R Q pc' (A ++ .val (.ref x) :: B) st H ce sl) : Go Z a0 n0 M R Q pc (A ++ o :: B) (.ref x :: st) H ce sl := by
  obtain ⟨hd, rfl⟩ := hd
  exact go_pure (fun p e m below c T t hA' hx hy k => XS.astore hA' hx rfl (hb hy hd) rfl rfl (XS.store1 (get_app A B o hA) ho rfl) (by rw [set_app A B o _ hA]; exact k)) h
theorem go_astoreNG {k : Fin 4} {A B : List Slot} {o : Slot} {x : Addr} (hA : A.length = k.val) (ho : One o) (hd : Ins M pc (.astore_n k) 1 pc') (h : Go Z a0 n0 M R Q pc' (A ++ .val (.ref x) :: B) st H ce sl) : Go Z a0 n0 M R Q pc (A ++ o :: B) (.ref x :: st) H ce sl := by
  obtain ⟨hd, rfl⟩ := hd
  exact go_pure (fun p e m below c T t hA' hx hy k => XS.astoreN hA' hx rfl (hb hy hd) rfl rfl (XS.store1 (get_app A B o hA) ho rfl) (by rw [set_app A B o _ hA]; exact k)) h
theorem go_lstoreG {k : Nat} {A B : List Slot} {o o' : Slot} {x : Int64} (hA : A.length = k) (ho : (One o ∧ One o') ∨ ∃ y : Int64, o = .val (.long y) ∧ o' = .second) (hd : Ins M pc (.lstore k) 2 pc') (h : Go Z a0 n0 M R Q pc' (A ++ .val (.long x) :: .second :: B) st H ce sl) : Go Z a0 n0 M R Q pc (A ++ o :: o' :: B) (.long x :: st) H ce sl := by
  obtain ⟨hd, rfl⟩ := hd
  exact go_pure (fun p e m below c T t hA' hx hy k => XT.lstore hA' hx rfl (hb hy hd) rfl (sto2 hA ho) k) h
theorem go_lstoreNG {k : Fin 4} {A B : List Slot} {o o' : Slot} {x : Int64} (hA : A.length = k.val) (ho : (One o ∧ One o') ∨ ∃ y : Int64, o = .val (.long y) ∧ o' = .second) (hd : Ins M pc (.lstore_n k) 1 pc') (h : Go Z a0 n0 M R Q pc' (A ++ .val (.long x) :: .second :: B) st H ce sl) : Go Z a0 n0 M R Q pc (A ++ o :: o' :: B) (.long x :: st) H ce sl := by
  obtain ⟨hd, rfl⟩ := hd
  exact go_pure (fun p e m below c T t hA' hx hy k => XT.lstoreN hA' hx rfl (hb hy hd) rfl (sto2 hA ho) k) h
theorem go_iincG {k : Nat} {A B : List Slot} {cst : Int} {x v : Int32} (hA : A.length = k) (hd : Ins M pc (.iinc k cst) 3 pc') (hv : x + Int32.ofInt cst = v) (h : Go Z a0 n0 M R Q pc' (A ++ .val (.int v) :: B) st H ce sl) : Go Z a0 n0 M R Q pc (A ++ .val (.int x) :: B) st H ce sl := by
  obtain ⟨hd, rfl⟩ := hd
  subst hv
  exact go_pure (fun p e m below c T t hA' hx hy k => XS.iinc hA' hx rfl (hb hy hd) (get_app A B (.val (.int x)) hA) (XS.store1 (get_app A B (.val (.int x)) hA) (One.val rfl) rfl) (by rw [set_app A B (.val (.int x)) _ hA]; exact k)) h
theorem go_istore0 {o : Slot} {B : List Slot} {x : Int32} (hd : Ins M pc (.istore_n 0) 1 pc') (ho : One o) (h : Go Z a0 n0 M R Q pc' (.val (.int x) :: B) st H ce sl) : Go Z a0 n0 M R Q pc (o :: B) (.int x :: st) H ce sl := go_istoreNG (A := []) rfl ho hd h
theorem go_astore0 {o : Slot} {B : List Slot} {x : Addr} (hd : Ins M pc (.astore_n 0) 1 pc') (ho : One o) (h : Go Z a0 n0 M R Q pc' (.val (.ref x) :: B) st H ce sl) : Go Z a0 n0 M R Q pc (o :: B) (.ref x :: st) H ce sl := go_astoreNG (A := []) rfl ho hd h
theorem go_lstore0 {o o' : Slot} {B : List Slot} {x : Int64} (hd : Ins M pc (.lstore_n 0) 1 pc') (ho : (One o ∧ One o') ∨ ∃ y : Int64, o = .val (.long y) ∧ o' = .second) (h : Go Z a0 n0 M R Q pc' (.val (.long x) :: .second :: B) st H ce sl) : Go Z a0 n0 M R Q pc (o :: o' :: B) (.long x :: st) H ce sl := go_lstoreNG (A := []) rfl ho hd h
theorem go_iinc0 {B : List Slot} {cst : Int} {x v : Int32} (hd : Ins M pc (.iinc 0 cst) 3 pc') (hv : x + Int32.ofInt cst = v) (h : Go Z a0 n0 M R Q pc' (.val (.int v) :: B) st H ce sl) : Go Z a0 n0 M R Q pc (.val (.int x) :: B) st H ce sl := go_iincG (A := []) rfl hd hv h
theorem go_istore1 {s0 o : Slot} {B : List Slot} {x : Int32} (hd : Ins M pc (.istore_n 1) 1 pc') (ho : One o) (h : Go Z a0 n0 M R Q pc' (s0 :: .val (.int x) :: B) st H ce sl) : Go Z a0 n0 M R Q pc (s0 :: o :: B) (.int x :: st) H ce sl := go_istoreNG (A := [s0]) rfl ho hd h
theorem go_astore1 {s0 o : Slot} {B : List Slot} {x : Addr} (hd : Ins M pc (.astore_n 1) 1 pc') (ho : One o) (h : Go Z a0 n0 M R Q pc' (s0 :: .val (.ref x) :: B) st H ce sl) : Go Z a0 n0 M R Q pc (s0 :: o :: B) (.ref x :: st) H ce sl := go_astoreNG (A := [s0]) rfl ho hd h
theorem go_lstore1 {s0 o o' : Slot} {B : List Slot} {x : Int64} (hd : Ins M pc (.lstore_n 1) 1 pc') (ho : (One o ∧ One o') ∨ ∃ y : Int64, o = .val (.long y) ∧ o' = .second) (h : Go Z a0 n0 M R Q pc' (s0 :: .val (.long x) :: .second :: B) st H ce sl) : Go Z a0 n0 M R Q pc (s0 :: o :: o' :: B) (.long x :: st) H ce sl := go_lstoreNG (A := [s0]) rfl ho hd h
theorem go_iinc1 {s0 : Slot} {B : List Slot} {cst : Int} {x v : Int32} (hd : Ins M pc (.iinc 1 cst) 3 pc') (hv : x + Int32.ofInt cst = v) (h : Go Z a0 n0 M R Q pc' (s0 :: .val (.int v) :: B) st H ce sl) : Go Z a0 n0 M R Q pc (s0 :: .val (.int x) :: B) st H ce sl := go_iincG (A := [s0]) rfl hd hv h
theorem go_istore2 {s0 s1 o : Slot} {B : List Slot} {x : Int32} (hd : Ins M pc (.istore_n 2) 1 pc') (ho : One o) (h : Go Z a0 n0 M R Q pc' (s0 :: s1 :: .val (.int x) :: B) st H ce sl) : Go Z a0 n0 M R Q pc (s0 :: s1 :: o :: B) (.int x :: st) H ce sl := go_istoreNG (A := [s0, s1]) rfl ho hd h
theorem go_astore2 {s0 s1 o : Slot} {B : List Slot} {x : Addr} (hd : Ins M pc (.astore_n 2) 1 pc') (ho : One o) (h : Go Z a0 n0 M R Q pc' (s0 :: s1 :: .val (.ref x) :: B) st H ce sl) : Go Z a0 n0 M R Q pc (s0 :: s1 :: o :: B) (.ref x :: st) H ce sl := go_astoreNG (A := [s0, s1]) rfl ho hd h
theorem go_lstore2 {s0 s1 o o' : Slot} {B : List Slot} {x : Int64} (hd : Ins M pc (.lstore_n 2) 1 pc') (ho : (One o ∧ One o') ∨ ∃ y : Int64, o = .val (.long y) ∧ o' = .second) (h : Go Z a0 n0 M R Q pc' (s0 :: s1 :: .val (.long x) :: .second :: B) st H ce sl) : Go Z a0 n0 M R Q pc (s0 :: s1 :: o :: o' :: B) (.long x :: st) H ce sl := go_lstoreNG (A := [s0, s1]) rfl ho hd h
theorem go_iinc2 {s0 s1 : Slot} {B : List Slot} {cst : Int} {x v : Int32} (hd : Ins M pc (.iinc 2 cst) 3 pc') (hv : x + Int32.ofInt cst = v) (h : Go Z a0 n0 M R Q pc' (s0 :: s1 :: .val (.int v) :: B) st H ce sl) : Go Z a0 n0 M R Q pc (s0 :: s1 :: .val (.int x) :: B) st H ce sl := go_iincG (A := [s0, s1]) rfl hd hv h
theorem go_istore3 {s0 s1 s2 o : Slot} {B : List Slot} {x : Int32} (hd : Ins M pc (.istore_n 3) 1 pc') (ho : One o) (h : Go Z a0 n0 M R Q pc' (s0 :: s1 :: s2 :: .val (.int x) :: B) st H ce sl) : Go Z a0 n0 M R Q pc (s0 :: s1 :: s2 :: o :: B) (.int x :: st) H ce sl := go_istoreNG (A := [s0, s1, s2]) rfl ho hd h
theorem go_astore3 {s0 s1 s2 o : Slot} {B : List Slot} {x : Addr} (hd : Ins M pc (.astore_n 3) 1 pc') (ho : One o) (h : Go Z a0 n0 M R Q pc' (s0 :: s1 :: s2 :: .val (.ref x) :: B) st H ce sl) : Go Z a0 n0 M R Q pc (s0 :: s1 :: s2 :: o :: B) (.ref x :: st) H ce sl := go_astoreNG (A := [s0, s1, s2]) rfl ho hd h
theorem go_lstore3 {s0 s1 s2 o o' : Slot} {B : List Slot} {x : Int64} (hd : Ins M pc (.lstore_n 3) 1 pc') (ho : (One o ∧ One o') ∨ ∃ y : Int64, o = .val (.long y) ∧ o' = .second) (h : Go Z a0 n0 M R Q pc' (s0 :: s1 :: s2 :: .val (.long x) :: .second :: B) st H ce sl) : Go Z a0 n0 M R Q pc (s0 :: s1 :: s2 :: o :: o' :: B) (.long x :: st) H ce sl := go_lstoreNG (A := [s0, s1, s2]) rfl ho hd h
theorem go_iinc3 {s0 s1 s2 : Slot} {B : List Slot} {cst : Int} {x v : Int32} (hd : Ins M pc (.iinc 3 cst) 3 pc') (hv : x + Int32.ofInt cst = v) (h : Go Z a0 n0 M R Q pc' (s0 :: s1 :: s2 :: .val (.int v) :: B) st H ce sl) : Go Z a0 n0 M R Q pc (s0 :: s1 :: s2 :: .val (.int x) :: B) st H ce sl := go_iincG (A := [s0, s1, s2]) rfl hd hv h
theorem go_istore4 {s0 s1 s2 s3 o : Slot} {B : List Slot} {x : Int32} (hd : Ins M pc (.istore 4) 2 pc') (ho : One o) (h : Go Z a0 n0 M R Q pc' (s0 :: s1 :: s2 :: s3 :: .val (.int x) :: B) st H ce sl) : Go Z a0 n0 M R Q pc (s0 :: s1 :: s2 :: s3 :: o :: B) (.int x :: st) H ce sl := go_istoreG (A := [s0, s1, s2, s3]) rfl ho hd h
theorem go_astore4 {s0 s1 s2 s3 o : Slot} {B : List Slot} {x : Addr} (hd : Ins M pc (.astore 4) 2 pc') (ho : One o) (h : Go Z a0 n0 M R Q pc' (s0 :: s1 :: s2 :: s3 :: .val (.ref x) :: B) st H ce sl) : Go Z a0 n0 M R Q pc (s0 :: s1 :: s2 :: s3 :: o :: B) (.ref x :: st) H ce sl := go_astoreG (A := [s0, s1, s2, s3]) rfl ho hd h
theorem go_lstore4 {s0 s1 s2 s3 o o' : Slot} {B : List Slot} {x : Int64} (hd : Ins M pc (.lstore 4) 2 pc') (ho : (One o ∧ One o') ∨ ∃ y : Int64, o = .val (.long y) ∧ o' = .second) (h : Go Z a0 n0 M R Q pc' (s0 :: s1 :: s2 :: s3 :: .val (.long x) :: .second :: B) st H ce sl) : Go Z a0 n0 M R Q pc (s0 :: s1 :: s2 :: s3 :: o :: o' :: B) (.long x :: st) H ce sl := go_lstoreG (A := [s0, s1, s2, s3]) rfl ho hd h
theorem go_iinc4 {s0 s1 s2 s3 : Slot} {B : List Slot} {cst : Int} {x v : Int32} (hd : Ins M pc (.iinc 4 cst) 3 pc') (hv : x + Int32.ofInt cst = v) (h : Go Z a0 n0 M R Q pc' (s0 :: s1 :: s2 :: s3 :: .val (.int v) :: B) st H ce sl) : Go Z a0 n0 M R Q pc (s0 :: s1 :: s2 :: s3 :: .val (.int x) :: B) st H ce sl := go_iincG (A := [s0, s1, s2, s3]) rfl hd hv h
theorem go_istore5 {s0 s1 s2 s3 s4 o : Slot} {B : List Slot} {x : Int32} (hd : Ins M pc (.istore 5) 2 pc') (ho : One o) (h : Go Z a0 n0 M R Q pc' (s0 :: s1 :: s2 :: s3 :: s4 :: .val (.int x) :: B) st H ce sl) : Go Z a0 n0 M R Q pc (s0 :: s1 :: s2 :: s3 :: s4 :: o :: B) (.int x :: st) H ce sl := go_istoreG (A := [s0, s1, s2, s3, s4]) rfl ho hd h
theorem go_astore5 {s0 s1 s2 s3 s4 o : Slot} {B : List Slot} {x : Addr} (hd : Ins M pc (.astore 5) 2 pc') (ho : One o) (h : Go Z a0 n0 M R Q pc' (s0 :: s1 :: s2 :: s3 :: s4 :: .val (.ref x) :: B) st H ce sl) : Go Z a0 n0 M R Q pc (s0 :: s1 :: s2 :: s3 :: s4 :: o :: B) (.ref x :: st) H ce sl := go_astoreG (A := [s0, s1, s2, s3, s4]) rfl ho hd h
theorem go_lstore5 {s0 s1 s2 s3 s4 o o' : Slot} {B : List Slot} {x : Int64} (hd : Ins M pc (.lstore 5) 2 pc') (ho : (One o ∧ One o') ∨ ∃ y : Int64, o = .val (.long y) ∧ o' = .second) (h : Go Z a0 n0 M R Q pc' (s0 :: s1 :: s2 :: s3 :: s4 :: .val (.long x) :: .second :: B) st H ce sl) : Go Z a0 n0 M R Q pc (s0 :: s1 :: s2 :: s3 :: s4 :: o :: o' :: B) (.long x :: st) H ce sl := go_lstoreG (A := [s0, s1, s2, s3, s4]) rfl ho hd h
theorem go_iinc5 {s0 s1 s2 s3 s4 : Slot} {B : List Slot} {cst : Int} {x v : Int32} (hd : Ins M pc (.iinc 5 cst) 3 pc') (hv : x + Int32.ofInt cst = v) (h : Go Z a0 n0 M R Q pc' (s0 :: s1 :: s2 :: s3 :: s4 :: .val (.int v) :: B) st H ce sl) : Go Z a0 n0 M R Q pc (s0 :: s1 :: s2 :: s3 :: s4 :: .val (.int x) :: B) st H ce sl := go_iincG (A := [s0, s1, s2, s3, s4]) rfl hd hv h
theorem go_istore6 {s0 s1 s2 s3 s4 s5 o : Slot} {B : List Slot} {x : Int32} (hd : Ins M pc (.istore 6) 2 pc') (ho : One o) (h : Go Z a0 n0 M R Q pc' (s0 :: s1 :: s2 :: s3 :: s4 :: s5 :: .val (.int x) :: B) st H ce sl) : Go Z a0 n0 M R Q pc (s0 :: s1 :: s2 :: s3 :: s4 :: s5 :: o :: B) (.int x :: st) H ce sl := go_istoreG (A := [s0, s1, s2, s3, s4, s5]) rfl ho hd h
theorem go_astore6 {s0 s1 s2 s3 s4 s5 o : Slot} {B : List Slot} {x : Addr} (hd : Ins M pc (.astore 6) 2 pc') (ho : One o) (h : Go Z a0 n0 M R Q pc' (s0 :: s1 :: s2 :: s3 :: s4 :: s5 :: .val (.ref x) :: B) st H ce sl) : Go Z a0 n0 M R Q pc (s0 :: s1 :: s2 :: s3 :: s4 :: s5 :: o :: B) (.ref x :: st) H ce sl := go_astoreG (A := [s0, s1, s2, s3, s4, s5]) rfl ho hd h
theorem go_lstore6 {s0 s1 s2 s3 s4 s5 o o' : Slot} {B : List Slot} {x : Int64} (hd : Ins M pc (.lstore 6) 2 pc') (ho : (One o ∧ One o') ∨ ∃ y : Int64, o = .val (.long y) ∧ o' = .second) (h : Go Z a0 n0 M R Q pc' (s0 :: s1 :: s2 :: s3 :: s4 :: s5 :: .val (.long x) :: .second :: B) st H ce sl) : Go Z a0 n0 M R Q pc (s0 :: s1 :: s2 :: s3 :: s4 :: s5 :: o :: o' :: B) (.long x :: st) H ce sl := go_lstoreG (A := [s0, s1, s2, s3, s4, s5]) rfl ho hd h
theorem go_iinc6 {s0 s1 s2 s3 s4 s5 : Slot} {B : List Slot} {cst : Int} {x v : Int32} (hd : Ins M pc (.iinc 6 cst) 3 pc') (hv : x + Int32.ofInt cst = v) (h : Go Z a0 n0 M R Q pc' (s0 :: s1 :: s2 :: s3 :: s4 :: s5 :: .val (.int v) :: B) st H ce sl) : Go Z a0 n0 M R Q pc (s0 :: s1 :: s2 :: s3 :: s4 :: s5 :: .val (.int x) :: B) st H ce sl := go_iincG (A := [s0, s1, s2, s3, s4, s5]) rfl hd hv h
theorem go_istore7 {s0 s1 s2 s3 s4 s5 s6 o : Slot} {B : List Slot} {x : Int32} (hd : Ins M pc (.istore 7) 2 pc') (ho : One o) (h : Go Z a0 n0 M R Q pc' (s0 :: s1 :: s2 :: s3 :: s4 :: s5 :: s6 :: .val (.int x) :: B) st H ce sl) : Go Z a0 n0 M R Q pc (s0 :: s1 :: s2 :: s3 :: s4 :: s5 :: s6 :: o :: B) (.int x :: st) H ce sl := go_istoreG (A := [s0, s1, s2, s3, s4, s5, s6]) rfl ho hd h
theorem go_astore7 {s0 s1 s2 s3 s4 s5 s6 o : Slot} {B : List Slot} {x : Addr} (hd : Ins M pc (.astore 7) 2 pc') (ho : One o) (h : Go Z a0 n0 M R Q pc' (s0 :: s1 :: s2 :: s3 :: s4 :: s5 :: s6 :: .val (.ref x) :: B) st H ce sl) : Go Z a0 n0 M R Q pc (s0 :: s1 :: s2 :: s3 :: s4 :: s5 :: s6 :: o :: B) (.ref x :: st) H ce sl := go_astoreG (A := [s0, s1, s2, s3, s4, s5, s6]) rfl ho hd h
theorem go_lstore7 {s0 s1 s2 s3 s4 s5 s6 o o' : Slot} {B : List Slot} {x : Int64} (hd : Ins M pc (.lstore 7) 2 pc') (ho : (One o ∧ One o') ∨ ∃ y : Int64, o = .val (.long y) ∧ o' = .second) (h : Go Z a0 n0 M R Q pc' (s0 :: s1 :: s2 :: s3 :: s4 :: s5 :: s6 :: .val (.long x) :: .second :: B) st H ce sl) : Go Z a0 n0 M R Q pc (s0 :: s1 :: s2 :: s3 :: s4 :: s5 :: s6 :: o :: o' :: B) (.long x :: st) H ce sl := go_lstoreG (A := [s0, s1, s2, s3, s4, s5, s6]) rfl ho hd h
theorem go_iinc7 {s0 s1 s2 s3 s4 s5 s6 : Slot} {B : List Slot} {cst : Int} {x v : Int32} (hd : Ins M pc (.iinc 7 cst) 3 pc') (hv : x + Int32.ofInt cst = v) (h : Go Z a0 n0 M R Q pc' (s0 :: s1 :: s2 :: s3 :: s4 :: s5 :: s6 :: .val (.int v) :: B) st H ce sl) : Go Z a0 n0 M R Q pc (s0 :: s1 :: s2 :: s3 :: s4 :: s5 :: s6 :: .val (.int x) :: B) st H ce sl := go_iincG (A := [s0, s1, s2, s3, s4, s5, s6]) rfl hd hv h
theorem go_istore8 {s0 s1 s2 s3 s4 s5 s6 s7 o : Slot} {B : List Slot} {x : Int32} (hd : Ins M pc (.istore 8) 2 pc') (ho : One o) (h : Go Z a0 n0 M R Q pc' (s0 :: s1 :: s2 :: s3 :: s4 :: s5 :: s6 :: s7 :: .val (.int x) :: B) st H ce sl) : Go Z a0 n0 M R Q pc (s0 :: s1 :: s2 :: s3 :: s4 :: s5 :: s6 :: s7 :: o :: B) (.int x :: st) H ce sl := go_istoreG (A := [s0, s1, s2, s3, s4, s5, s6, s7]) rfl ho hd h
theorem go_astore8 {s0 s1 s2 s3 s4 s5 s6 s7 o : Slot} {B : List Slot} {x : Addr} (hd : Ins M pc (.astore 8) 2 pc') (ho : One o) (h : Go Z a0 n0 M R Q pc' (s0 :: s1 :: s2 :: s3 :: s4 :: s5 :: s6 :: s7 :: .val (.ref x) :: B) st H ce sl) : Go Z a0 n0 M R Q pc (s0 :: s1 :: s2 :: s3 :: s4 :: s5 :: s6 :: s7 :: o :: B) (.ref x :: st) H ce sl := go_astoreG (A := [s0, s1, s2, s3, s4, s5, s6, s7]) rfl ho hd h
theorem go_lstore8 {s0 s1 s2 s3 s4 s5 s6 s7 o o' : Slot} {B : List Slot} {x : Int64} (hd : Ins M pc (.lstore 8) 2 pc') (ho : (One o ∧ One o') ∨ ∃ y : Int64, o = .val (.long y) ∧ o' = .second) (h : Go Z a0 n0 M R Q pc' (s0 :: s1 :: s2 :: s3 :: s4 :: s5 :: s6 :: s7 :: .val (.long x) :: .second :: B) st H ce sl) : Go Z a0 n0 M R Q pc (s0 :: s1 :: s2 :: s3 :: s4 :: s5 :: s6 :: s7 :: o :: o' :: B) (.long x :: st) H ce sl := go_lstoreG (A := [s0, s1, s2, s3, s4, s5, s6, s7]) rfl ho hd h
theorem go_iinc8 {s0 s1 s2 s3 s4 s5 s6 s7 : Slot} {B : List Slot} {cst : Int} {x v : Int32} (hd : Ins M pc (.iinc 8 cst) 3 pc') (hv : x + Int32.ofInt cst = v) (h : Go Z a0 n0 M R Q pc' (s0 :: s1 :: s2 :: s3 :: s4 :: s5 :: s6 :: s7 :: .val (.int v) :: B) st H ce sl) : Go Z a0 n0 M R Q pc (s0 :: s1 :: s2 :: s3 :: s4 :: s5 :: s6 :: s7 :: .val (.int x) :: B) st H ce sl := go_iincG (A := [s0, s1, s2, s3, s4, s5, s6, s7]) rfl hd hv h
theorem go_istore9 {s0 s1 s2 s3 s4 s5 s6 s7 s8 o : Slot} {B : List Slot} {x : Int32} (hd : Ins M pc (.istore 9) 2 pc') (ho : One o) (h : Go Z a0 n0 M R Q pc' (s0 :: s1 :: s2 :: s3 :: s4 :: s5 :: s6 :: s7 :: s8 :: .val (.int x) :: B) st H ce sl) : Go Z a0 n0 M R Q pc (s0 :: s1 :: s2 :: s3 :: s4 :: s5 :: s6 :: s7 :: s8 :: o :: B) (.int x :: st) H ce sl := go_istoreG (A := [s0, s1, s2, s3, s4, s5, s6, s7, s8]) rfl ho hd h
theorem go_astore9 {s0 s1 s2 s3 s4 s5 s6 s7 s8 o : Slot} {B : List Slot} {x : Addr} (hd : Ins M pc (.astore 9) 2 pc') (ho : One o) (h : Go Z a0 n0 M R Q pc' (s0 :: s1 :: s2 :: s3 :: s4 :: s5 :: s6 :: s7 :: s8 :: .val (.ref x) :: B) st H ce sl) : Go Z a0 n0 M R Q pc (s0 :: s1 :: s2 :: s3 :: s4 :: s5 :: s6 :: s7 :: s8 :: o :: B) (.ref x :: st) H ce sl := go_astoreG (A := [s0, s1, s2, s3, s4, s5, s6, s7, s8]) rfl ho hd h
theorem go_lstore9 {s0 s1 s2 s3 s4 s5 s6 s7 s8 o o' : Slot} {B : List Slot} {x : Int64} (hd : Ins M pc (.lstore 9) 2 pc') (ho : (One o ∧ One o') ∨ ∃ y : Int64, o = .val (.long y) ∧ o' = .second) (h : Go Z a0 n0 M R Q pc' (s0 :: s1 :: s2 :: s3 :: s4 :: s5 :: s6 :: s7 :: s8 :: .val (.long x) :: .second :: B) st H ce sl) : Go Z a0 n0 M R Q pc (s0 :: s1 :: s2 :: s3 :: s4 :: s5 :: s6 :: s7 :: s8 :: o :: o' :: B) (.long x :: st) H ce sl := go_lstoreG (A := [s0, s1, s2, s3, s4, s5, s6, s7, s8]) rfl ho hd h
theorem go_iinc9 {s0 s1 s2 s3 s4 s5 s6 s7 s8 : Slot} {B : List Slot} {cst : Int} {x v : Int32} (hd : Ins M pc (.iinc 9 cst) 3 pc') (hv : x + Int32.ofInt cst = v) (h : Go Z a0 n0 M R Q pc' (s0 :: s1 :: s2 :: s3 :: s4 :: s5 :: s6 :: s7 :: s8 :: .val (.int v) :: B) st H ce sl) : Go Z a0 n0 M R Q pc (s0 :: s1 :: s2 :: s3 :: s4 :: s5 :: s6 :: s7 :: s8 :: .val (.int x) :: B) st H ce sl := go_iincG (A := [s0, s1, s2, s3, s4, s5, s6, s7, s8]) rfl hd hv h
theorem go_istore10 {s0 s1 s2 s3 s4 s5 s6 s7 s8 s9 o : Slot} {B : List Slot} {x : Int32} (hd : Ins M pc (.istore 10) 2 pc') (ho : One o) (h : Go Z a0 n0 M R Q pc' (s0 :: s1 :: s2 :: s3 :: s4 :: s5 :: s6 :: s7 :: s8 :: s9 :: .val (.int x) :: B) st H ce sl) : Go Z a0 n0 M R Q pc (s0 :: s1 :: s2 :: s3 :: s4 :: s5 :: s6 :: s7 :: s8 :: s9 :: o :: B) (.int x :: st) H ce sl := go_istoreG (A := [s0, s1, s2, s3, s4, s5, s6, s7, s8, s9]) rfl ho hd h
theorem go_astore10 {s0 s1 s2 s3 s4 s5 s6 s7 s8 s9 o : Slot} {B : List Slot} {x : Addr} (hd : Ins M pc (.astore 10) 2 pc') (ho : One o) (h : Go Z a0 n0 M R Q pc' (s0 :: s1 :: s2 :: s3 :: s4 :: s5 :: s6 :: s7 :: s8 :: s9 :: .val (.ref x) :: B) st H ce sl) : Go Z a0 n0 M R Q pc (s0 :: s1 :: s2 :: s3 :: s4 :: s5 :: s6 :: s7 :: s8 :: s9 :: o :: B) (.ref x :: st) H ce sl := go_astoreG (A := [s0, s1, s2, s3, s4, s5, s6, s7, s8, s9]) rfl ho hd h
theorem go_lstore10 {s0 s1 s2 s3 s4 s5 s6 s7 s8 s9 o o' : Slot} {B : List Slot} {x : Int64} (hd : Ins M pc (.lstore 10) 2 pc') (ho : (One o ∧ One o') ∨ ∃ y : Int64, o = .val (.long y) ∧ o' = .second) (h : Go Z a0 n0 M R Q pc' (s0 :: s1 :: s2 :: s3 :: s4 :: s5 :: s6 :: s7 :: s8 :: s9 :: .val (.long x) :: .second :: B) st H ce sl) : Go Z a0 n0 M R Q pc (s0 :: s1 :: s2 :: s3 :: s4 :: s5 :: s6 :: s7 :: s8 :: s9 :: o :: o' :: B) (.long x :: st) H ce sl := go_lstoreG (A := [s0, s1, s2, s3, s4, s5, s6, s7, s8, s9]) rfl ho hd h
theorem go_iinc10 {s0 s1 s2 s3 s4 s5 s6 s7 s8 s9 : Slot} {B : List Slot} {cst : Int} {x v : Int32} (hd : Ins M pc (.iinc 10 cst) 3 pc') (hv : x + Int32.ofInt cst = v) (h : Go Z a0 n0 M R Q pc' (s0 :: s1 :: s2 :: s3 :: s4 :: s5 :: s6 :: s7 :: s8 :: s9 :: .val (.int v) :: B) st H ce sl) : Go Z a0 n0 M R Q pc (s0 :: s1 :: s2 :: s3 :: s4 :: s5 :: s6 :: s7 :: s8 :: s9 :: .val (.int x) :: B) st H ce sl := go_iincG (A := [s0, s1, s2, s3, s4, s5, s6, s7, s8, s9]) rfl hd hv h
theorem go_istore11 {s0 s1 s2 s3 s4 s5 s6 s7 s8 s9 s10 o : Slot} {B : List Slot} {x : Int32} (hd : Ins M pc (.istore 11) 2 pc') (ho : One o) (h : Go Z a0 n0 M R Q pc' (s0 :: s1 :: s2 :: s3 :: s4 :: s5 :: s6 :: s7 :: s8 :: s9 :: s10 :: .val (.int x) :: B) st H ce sl) : Go Z a0 n0 M R Q pc (s0 :: s1 :: s2 :: s3 :: s4 :: s5 :: s6 :: s7 :: s8 :: s9 :: s10 :: o :: B) (.int x :: st) H ce sl := go_istoreG (A := [s0, s1, s2, s3, s4, s5, s6, s7, s8, s9, s10]) rfl ho hd h
theorem go_astore11 {s0 s1 s2 s3 s4 s5 s6 s7 s8 s9 s10 o : Slot} {B : List Slot} {x : Addr} (hd : Ins M pc (.astore 11) 2 pc') (ho : One o) (h : Go Z a0 n0 M R Q pc' (s0 :: s1 :: s2 :: s3 :: s4 :: s5 :: s6 :: s7 :: s8 :: s9 :: s10 :: .val (.ref x) :: B) st H ce sl) : Go Z a0 n0 M R Q pc (s0 :: s1 :: s2 :: s3 :: s4 :: s5 :: s6 :: s7 :: s8 :: s9 :: s10 :: o :: B) (.ref x :: st) H ce sl := go_astoreG (A := [s0, s1, s2, s3, s4, s5, s6, s7, s8, s9, s10]) rfl ho hd h
theorem go_lstore11 {s0 s1 s2 s3 s4 s5 s6 s7 s8 s9 s10 o o' : Slot} {B : List Slot} {x : Int64} (hd : Ins M pc (.lstore 11) 2 pc') (ho : (One o ∧ One o') ∨ ∃ y : Int64, o = .val (.long y) ∧ o' = .second) (h : Go Z a0 n0 M R Q pc' (s0 :: s1 :: s2 :: s3 :: s4 :: s5 :: s6 :: s7 :: s8 :: s9 :: s10 :: .val (.long x) :: .second :: B) st H ce sl) : Go Z a0 n0 M R Q pc (s0 :: s1 :: s2 :: s3 :: s4 :: s5 :: s6 :: s7 :: s8 :: s9 :: s10 :: o :: o' :: B) (.long x :: st) H ce sl := go_lstoreG (A := [s0, s1, s2, s3, s4, s5, s6, s7, s8, s9, s10]) rfl ho hd h
theorem go_iinc11 {s0 s1 s2 s3 s4 s5 s6 s7 s8 s9 s10 : Slot} {B : List Slot} {cst : Int} {x v : Int32} (hd : Ins M pc (.iinc 11 cst) 3 pc') (hv : x + Int32.ofInt cst = v) (h : Go Z a0 n0 M R Q pc' (s0 :: s1 :: s2 :: s3 :: s4 :: s5 :: s6 :: s7 :: s8 :: s9 :: s10 :: .val (.int v) :: B) st H ce sl) : Go Z a0 n0 M R Q pc (s0 :: s1 :: s2 :: s3 :: s4 :: s5 :: s6 :: s7 :: s8 :: s9 :: s10 :: .val (.int x) :: B) st H ce sl := go_iincG (A := [s0, s1, s2, s3, s4, s5, s6, s7, s8, s9, s10]) rfl hd hv h
theorem go_istore12 {s0 s1 s2 s3 s4 s5 s6 s7 s8 s9 s10 s11 o : Slot} {B : List Slot} {x : Int32} (hd : Ins M pc (.istore 12) 2 pc') (ho : One o) (h : Go Z a0 n0 M R Q pc' (s0 :: s1 :: s2 :: s3 :: s4 :: s5 :: s6 :: s7 :: s8 :: s9 :: s10 :: s11 :: .val (.int x) :: B) st H ce sl) : Go Z a0 n0 M R Q pc (s0 :: s1 :: s2 :: s3 :: s4 :: s5 :: s6 :: s7 :: s8 :: s9 :: s10 :: s11 :: o :: B) (.int x :: st) H ce sl := go_istoreG (A := [s0, s1, s2, s3, s4, s5, s6, s7, s8, s9, s10, s11]) rfl ho hd h
theorem go_astore12 {s0 s1 s2 s3 s4 s5 s6 s7 s8 s9 s10 s11 o : Slot} {B : List Slot} {x : Addr} (hd : Ins M pc (.astore 12) 2 pc') (ho : One o) (h : Go Z a0 n0 M R Q pc' (s0 :: s1 :: s2 :: s3 :: s4 :: s5 :: s6 :: s7 :: s8 :: s9 :: s10 :: s11 :: .val (.ref x) :: B) st H ce sl) : Go Z a0 n0 M R Q pc (s0 :: s1 :: s2 :: s3 :: s4 :: s5 :: s6 :: s7 :: s8 :: s9 :: s10 :: s11 :: o :: B) (.ref x :: st) H ce sl := go_astoreG (A := [s0, s1, s2, s3, s4, s5, s6, s7, s8, s9, s10, s11]) rfl ho hd h
theorem go_lstore12 {s0 s1 s2 s3 s4 s5 s6 s7 s8 s9 s10 s11 o o' : Slot} {B : List Slot} {x : Int64} (hd : Ins M pc (.lstore 12) 2 pc') (ho : (One o ∧ One o') ∨ ∃ y : Int64, o = .val (.long y) ∧ o' = .second) (h : Go Z a0 n0 M R Q pc' (s0 :: s1 :: s2 :: s3 :: s4 :: s5 :: s6 :: s7 :: s8 :: s9 :: s10 :: s11 :: .val (.long x) :: .second :: B) st H ce sl) : Go Z a0 n0 M R Q pc (s0 :: s1 :: s2 :: s3 :: s4 :: s5 :: s6 :: s7 :: s8 :: s9 :: s10 :: s11 :: o :: o' :: B) (.long x :: st) H ce sl := go_lstoreG (A := [s0, s1, s2, s3, s4, s5, s6, s7, s8, s9, s10, s11]) rfl ho hd h
theorem go_iinc12 {s0 s1 s2 s3 s4 s5 s6 s7 s8 s9 s10 s11 : Slot} {B : List Slot} {cst : Int} {x v : Int32} (hd : Ins M pc (.iinc 12 cst) 3 pc') (hv : x + Int32.ofInt cst = v) (h : Go Z a0 n0 M R Q pc' (s0 :: s1 :: s2 :: s3 :: s4 :: s5 :: s6 :: s7 :: s8 :: s9 :: s10 :: s11 :: .val (.int v) :: B) st H ce sl) : Go Z a0 n0 M R Q pc (s0 :: s1 :: s2 :: s3 :: s4 :: s5 :: s6 :: s7 :: s8 :: s9 :: s10 :: s11 :: .val (.int x) :: B) st H ce sl := go_iincG (A := [s0, s1, s2, s3, s4, s5, s6, s7, s8, s9, s10, s11]) rfl hd hv h
theorem go_istore13 {s0 s1 s2 s3 s4 s5 s6 s7 s8 s9 s10 s11 s12 o : Slot} {B : List Slot} {x : Int32} (hd : Ins M pc (.istore 13) 2 pc') (ho : One o) (h : Go Z a0 n0 M R Q pc' (s0 :: s1 :: s2 :: s3 :: s4 :: s5 :: s6 :: s7 :: s8 :: s9 :: s10 :: s11 :: s12 :: .val (.int x) :: B) st H ce sl) : Go Z a0 n0 M R Q pc (s0 :: s1 :: s2 :: s3 :: s4 :: s5 :: s6 :: s7 :: s8 :: s9 :: s10 :: s11 :: s12 :: o :: B) (.int x :: st) H ce sl := go_istoreG (A := [s0, s1, s2, s3, s4, s5, s6, s7, s8, s9, s10, s11, s12]) rfl ho hd h
theorem go_astore13 {s0 s1 s2 s3 s4 s5 s6 s7 s8 s9 s10 s11 s12 o : Slot} {B : List Slot} {x : Addr} (hd : Ins M pc (.astore 13) 2 pc') (ho : One o) (h : Go Z a0 n0 M R Q pc' (s0 :: s1 :: s2 :: s3 :: s4 :: s5 :: s6 :: s7 :: s8 :: s9 :: s10 :: s11 :: s12 :: .val (.ref x) :: B) st H ce sl) : Go Z a0 n0 M R Q pc (s0 :: s1 :: s2 :: s3 :: s4 :: s5 :: s6 :: s7 :: s8 :: s9 :: s10 :: s11 :: s12 :: o :: B) (.ref x :: st) H ce sl := go_astoreG (A := [s0, s1, s2, s3, s4, s5, s6, s7, s8, s9, s10, s11, s12]) rfl ho hd h
theorem go_lstore13 {s0 s1 s2 s3 s4 s5 s6 s7 s8 s9 s10 s11 s12 o o' : Slot} {B : List Slot} {x : Int64} (hd : Ins M pc (.lstore 13) 2 pc') (ho : (One o ∧ One o') ∨ ∃ y : Int64, o = .val (.long y) ∧ o' = .second) (h : Go Z a0 n0 M R Q pc' (s0 :: s1 :: s2 :: s3 :: s4 :: s5 :: s6 :: s7 :: s8 :: s9 :: s10 :: s11 :: s12 :: .val (.long x) :: .second :: B) st H ce sl) : Go Z a0 n0 M R Q pc (s0 :: s1 :: s2 :: s3 :: s4 :: s5 :: s6 :: s7 :: s8 :: s9 :: s10 :: s11 :: s12 :: o :: o' :: B) (.long x :: st) H ce sl := go_lstoreG (A := [s0, s1, s2, s3, s4, s5, s6, s7, s8, s9, s10, s11, s12]) rfl ho hd h
theorem go_iinc13 {s0 s1 s2 s3 s4 s5 s6 s7 s8 s9 s10 s11 s12 : Slot} {B : List Slot} {cst : Int} {x v : Int32} (hd : Ins M pc (.iinc 13 cst) 3 pc') (hv : x + Int32.ofInt cst = v) (h : Go Z a0 n0 M R Q pc' (s0 :: s1 :: s2 :: s3 :: s4 :: s5 :: s6 :: s7 :: s8 :: s9 :: s10 :: s11 :: s12 :: .val (.int v) :: B) st H ce sl) : Go Z a0 n0 M R Q pc (s0 :: s1 :: s2 :: s3 :: s4 :: s5 :: s6 :: s7 :: s8 :: s9 :: s10 :: s11 :: s12 :: .val (.int x) :: B) st H ce sl := go_iincG (A := [s0, s1, s2, s3, s4, s5, s6, s7, s8, s9, s10, s11, s12]) rfl hd hv h
theorem go_istore14 {s0 s1 s2 s3 s4 s5 s6 s7 s8 s9 s10 s11 s12 s13 o : Slot} {B : List Slot} {x : Int32} (hd : Ins M pc (.istore 14) 2 pc') (ho : One o) (h : Go Z a0 n0 M R Q pc' (s0 :: s1 :: s2 :: s3 :: s4 :: s5 :: s6 :: s7 :: s8 :: s9 :: s10 :: s11 :: s12 :: s13 :: .val (.int x) :: B) st H ce sl) : Go Z a0 n0 M R Q pc (s0 :: s1 :: s2 :: s3 :: s4 :: s5 :: s6 :: s7 :: s8 :: s9 :: s10 :: s11 :: s12 :: s13 :: o :: B) (.int x :: st) H ce sl := go_istoreG (A := [s0, s1, s2, s3, s4, s5, s6, s7, s8, s9, s10, s11, s12, s13]) rfl ho hd h
theorem go_astore14 {s0 s1 s2 s3 s4 s5 s6 s7 s8 s9 s10 s11 s12 s13 o : Slot} {B : List Slot} {x : Addr} (hd : Ins M pc (.astore 14) 2 pc') (ho : One o) (h : Go Z a0 n0 M R Q pc' (s0 :: s1 :: s2 :: s3 :: s4 :: s5 :: s6 :: s7 :: s8 :: s9 :: s10 :: s11 :: s12 :: s13 :: .val (.ref x) :: B) st H ce sl) : Go Z a0 n0 M R Q pc (s0 :: s1 :: s2 :: s3 :: s4 :: s5 :: s6 :: s7 :: s8 :: s9 :: s10 :: s11 :: s12 :: s13 :: o :: B) (.ref x :: st) H ce sl := go_astoreG (A := [s0, s1, s2, s3, s4, s5, s6, s7, s8, s9, s10, s11, s12, s13]) rfl ho hd h
theorem go_lstore14 {s0 s1 s2 s3 s4 s5 s6 s7 s8 s9 s10 s11 s12 s13 o o' : Slot} {B : List Slot} {x : Int64} (hd : Ins M pc (.lstore 14) 2 pc') (ho : (One o ∧ One o') ∨ ∃ y : Int64, o = .val (.long y) ∧ o' = .second) (h : Go Z a0 n0 M R Q pc' (s0 :: s1 :: s2 :: s3 :: s4 :: s5 :: s6 :: s7 :: s8 :: s9 :: s10 :: s11 :: s12 :: s13 :: .val (.long x) :: .second :: B) st H ce sl) : Go Z a0 n0 M R Q pc (s0 :: s1 :: s2 :: s3 :: s4 :: s5 :: s6 :: s7 :: s8 :: s9 :: s10 :: s11 :: s12 :: s13 :: o :: o' :: B) (.long x :: st) H ce sl := go_lstoreG (A := [s0, s1, s2, s3, s4, s5, s6, s7, s8, s9, s10, s11, s12, s13]) rfl ho hd h
theorem go_iinc14 {s0 s1 s2 s3 s4 s5 s6 s7 s8 s9 s10 s11 s12 s13 : Slot} {B : List Slot} {cst : Int} {x v : Int32} (hd : Ins M pc (.iinc 14 cst) 3 pc') (hv : x + Int32.ofInt cst = v) (h : Go Z a0 n0 M R Q pc' (s0 :: s1 :: s2 :: s3 :: s4 :: s5 :: s6 :: s7 :: s8 :: s9 :: s10 :: s11 :: s12 :: s13 :: .val (.int v) :: B) st H ce sl) : Go Z a0 n0 M R Q pc (s0 :: s1 :: s2 :: s3 :: s4 :: s5 :: s6 :: s7 :: s8 :: s9 :: s10 :: s11 :: s12 :: s13 :: .val (.int x) :: B) st H ce sl := go_iincG (A := [s0, s1, s2, s3, s4, s5, s6, s7, s8, s9, s10, s11, s12, s13]) rfl hd hv h
theorem go_istore15 {s0 s1 s2 s3 s4 s5 s6 s7 s8 s9 s10 s11 s12 s13 s14 o : Slot} {B : List Slot} {x : Int32} (hd : Ins M pc (.istore 15) 2 pc') (ho : One o) (h : Go Z a0 n0 M R Q pc' (s0 :: s1 :: s2 :: s3 :: s4 :: s5 :: s6 :: s7 :: s8 :: s9 :: s10 :: s11 :: s12 :: s13 :: s14 :: .val (.int x) :: B) st H ce sl) : Go Z a0 n0 M R Q pc (s0 :: s1 :: s2 :: s3 :: s4 :: s5 :: s6 :: s7 :: s8 :: s9 :: s10 :: s11 :: s12 :: s13 :: s14 :: o :: B) (.int x :: st) H ce sl := go_istoreG (A := [s0, s1, s2, s3, s4, s5, s6, s7, s8, s9, s10, s11, s12, s13, s14]) rfl ho hd h
theorem go_astore15 {s0 s1 s2 s3 s4 s5 s6 s7 s8 s9 s10 s11 s12 s13 s14 o : Slot} {B : List Slot} {x : Addr} (hd : Ins M pc (.astore 15) 2 pc') (ho : One o) (h : Go Z a0 n0 M R Q pc' (s0 :: s1 :: s2 :: s3 :: s4 :: s5 :: s6 :: s7 :: s8 :: s9 :: s10 :: s11 :: s12 :: s13 :: s14 :: .val (.ref x) :: B) st H ce sl) : Go Z a0 n0 M R Q pc (s0 :: s1 :: s2 :: s3 :: s4 :: s5 :: s6 :: s7 :: s8 :: s9 :: s10 :: s11 :: s12 :: s13 :: s14 :: o :: B) (.ref x :: st) H ce sl := go_astoreG (A := [s0, s1, s2, s3, s4, s5, s6, s7, s8, s9, s10, s11, s12, s13, s14]) rfl ho hd h
theorem go_lstore15 {s0 s1 s2 s3 s4 s5 s6 s7 s8 s9 s10 s11 s12 s13 s14 o o' : Slot} {B : List Slot} {x : Int64} (hd : Ins M pc (.lstore 15) 2 pc') (ho : (One o ∧ One o') ∨ ∃ y : Int64, o = .val (.long y) ∧ o' = .second) (h : Go Z a0 n0 M R Q pc' (s0 :: s1 :: s2 :: s3 :: s4 :: s5 :: s6 :: s7 :: s8 :: s9 :: s10 :: s11 :: s12 :: s13 :: s14 :: .val (.long x) :: .second :: B) st H ce sl) : Go Z a0 n0 M R Q pc (s0 :: s1 :: s2 :: s3 :: s4 :: s5 :: s6 :: s7 :: s8 :: s9 :: s10 :: s11 :: s12 :: s13 :: s14 :: o :: o' :: B) (.long x :: st) H ce sl := go_lstoreG (A := [s0, s1, s2, s3, s4, s5, s6, s7, s8, s9, s10, s11, s12, s13, s14]) rfl ho hd h
theorem go_iinc15 {s0 s1 s2 s3 s4 s5 s6 s7 s8 s9 s10 s11 s12 s13 s14 : Slot} {B : List Slot} {cst : Int} {x v : Int32} (hd : Ins M pc (.iinc 15 cst) 3 pc') (hv : x + Int32.ofInt cst = v) (h : Go Z a0 n0 M R Q pc' (s0 :: s1 :: s2 :: s3 :: s4 :: s5 :: s6 :: s7 :: s8 :: s9 :: s10 :: s11 :: s12 :: s13 :: s14 :: .val (.int v) :: B) st H ce sl) : Go Z a0 n0 M R Q pc (s0 :: s1 :: s2 :: s3 :: s4 :: s5 :: s6 :: s7 :: s8 :: s9 :: s10 :: s11 :: s12 :: s13 :: s14 :: .val (.int x) :: B) st H ce sl := go_iincG (A := [s0, s1, s2, s3, s4, s5, s6, s7, s8, s9, s10, s11, s12, s13, s14]) rfl hd hv h
theorem go_istore16 {s0 s1 s2 s3 s4 s5 s6 s7 s8 s9 s10 s11 s12 s13 s14 s15 o : Slot} {B : List Slot} {x : Int32} (hd : Ins M pc (.istore 16) 2 pc') (ho : One o) (h : Go Z a0 n0 M R Q pc' (s0 :: s1 :: s2 :: s3 :: s4 :: s5 :: s6 :: s7 :: s8 :: s9 :: s10 :: s11 :: s12 :: s13 :: s14 :: s15 :: .val (.int x) :: B) st H ce sl) : Go Z a0 n0 M R Q pc (s0 :: s1 :: s2 :: s3 :: s4 :: s5 :: s6 :: s7 :: s8 :: s9 :: s10 :: s11 :: s12 :: s13 :: s14 :: s15 :: o :: B) (.int x :: st) H ce sl := go_istoreG (A := [s0, s1, s2, s3, s4, s5, s6, s7, s8, s9, s10, s11, s12, s13, s14, s15]) rfl ho hd h
theorem go_astore16 {s0 s1 s2 s3 s4 s5 s6 s7 s8 s9 s10 s11 s12 s13 s14 s15 o : Slot} {B : List Slot} {x : Addr} (hd : Ins M pc (.astore 16) 2 pc') (ho : One o) (h : Go Z a0 n0 M R Q pc' (s0 :: s1 :: s2 :: s3 :: s4 :: s5 :: s6 :: s7 :: s8 :: s9 :: s10 :: s11 :: s12 :: s13 :: s14 :: s15 :: .val (.ref x) :: B) st H ce sl) : Go Z a0 n0 M R Q pc (s0 :: s1 :: s2 :: s3 :: s4 :: s5 :: s6 :: s7 :: s8 :: s9 :: s10 :: s11 :: s12 :: s13 :: s14 :: s15 :: o :: B) (.ref x :: st) H ce sl := go_astoreG (A := [s0, s1, s2, s3, s4, s5, s6, s7, s8, s9, s10, s11, s12, s13, s14, s15]) rfl ho hd h
theorem go_lstore16 {s0 s1 s2 s3 s4 s5 s6 s7 s8 s9 s10 s11 s12 s13 s14 s15 o o' : Slot} {B : List Slot} {x : Int64} (hd : Ins M pc (.lstore 16) 2 pc') (ho : (One o ∧ One o') ∨ ∃ y : Int64, o = .val (.long y) ∧ o' = .second) (h : Go Z a0 n0 M R Q pc' (s0 :: s1 :: s2 :: s3 :: s4 :: s5 :: s6 :: s7 :: s8 :: s9 :: s10 :: s11 :: s12 :: s13 :: s14 :: s15 :: .val (.long x) :: .second :: B) st H ce sl) : Go Z a0 n0 M R Q pc (s0 :: s1 :: s2 :: s3 :: s4 :: s5 :: s6 :: s7 :: s8 :: s9 :: s10 :: s11 :: s12 :: s13 :: s14 :: s15 :: o :: o' :: B) (.long x :: st) H ce sl := go_lstoreG (A := [s0, s1, s2, s3, s4, s5, s6, s7, s8, s9, s10, s11, s12, s13, s14, s15]) rfl ho hd h
theorem go_iinc16 {s0 s1 s2 s3 s4 s5 s6 s7 s8 s9 s10 s11 s12 s13 s14 s15 : Slot} {B : List Slot} {cst : Int} {x v : Int32} (hd : Ins M pc (.iinc 16 cst) 3 pc') (hv : x + Int32.ofInt cst = v) (h : Go Z a0 n0 M R Q pc' (s0 :: s1 :: s2 :: s3 :: s4 :: s5 :: s6 :: s7 :: s8 :: s9 :: s10 :: s11 :: s12 :: s13 :: s14 :: s15 :: .val (.int v) :: B) st H ce sl) : Go Z a0 n0 M R Q pc (s0 :: s1 :: s2 :: s3 :: s4 :: s5 :: s6 :: s7 :: s8 :: s9 :: s10 :: s11 :: s12 :: s13 :: s14 :: s15 :: .val (.int x) :: B) st H ce sl := go_iincG (A := [s0, s1, s2, s3, s4, s5, s6, s7, s8, s9, s10, s11, s12, s13, s14, s15]) rfl hd hv h
theorem go_istore17 {s0 s1 s2 s3 s4 s5 s6 s7 s8 s9 s10 s11 s12 s13 s14 s15 s16 o : Slot} {B : List Slot} {x : Int32} (hd : Ins M pc (.istore 17) 2 pc') (ho : One o) (h : Go Z a0 n0 M R Q pc' (s0 :: s1 :: s2 :: s3 :: s4 :: s5 :: s6 :: s7 :: s8 :: s9 :: s10 :: s11 :: s12 :: s13 :: s14 :: s15 :: s16 :: .val (.int x) :: B) st H ce sl) : Go Z a0 n0 M R Q pc (s0 :: s1 :: s2 :: s3 :: s4 :: s5 :: s6 :: s7 :: s8 :: s9 :: s10 :: s11 :: s12 :: s13 :: s14 :: s15 :: s16 :: o :: B) (.int x :: st) H ce sl := go_istoreG (A := [s0, s1, s2, s3, s4, s5, s6, s7, s8, s9, s10, s11, s12, s13, s14, s15, s16]) rfl ho hd h
theorem go_astore17 {s0 s1 s2 s3 s4 s5 s6 s7 s8 s9 s10 s11 s12 s13 s14 s15 s16 o : Slot} {B : List Slot} {x : Addr} (hd : Ins M pc (.astore 17) 2 pc') (ho : One o) (h : Go Z a0 n0 M R Q pc' (s0 :: s1 :: s2 :: s3 :: s4 :: s5 :: s6 :: s7 :: s8 :: s9 :: s10 :: s11 :: s12 :: s13 :: s14 :: s15 :: s16 :: .val (.ref x) :: B) st H ce sl) : Go Z a0 n0 M R Q pc (s0 :: s1 :: s2 :: s3 :: s4 :: s5 :: s6 :: s7 :: s8 :: s9 :: s10 :: s11 :: s12 :: s13 :: s14 :: s15 :: s16 :: o :: B) (.ref x :: st) H ce sl := go_astoreG (A := [s0, s1, s2, s3, s4, s5, s6, s7, s8, s9, s10, s11, s12, s13, s14, s15, s16]) rfl ho hd h
theorem go_lstore17 {s0 s1 s2 s3 s4 s5 s6 s7 s8 s9 s10 s11 s12 s13 s14 s15 s16 o o' : Slot} {B : List Slot} {x : Int64} (hd : Ins M pc (.lstore 17) 2 pc') (ho : (One o ∧ One o') ∨ ∃ y : Int64, o = .val (.long y) ∧ o' = .second) (h : Go Z a0 n0 M R Q pc' (s0 :: s1 :: s2 :: s3 :: s4 :: s5 :: s6 :: s7 :: s8 :: s9 :: s10 :: s11 :: s12 :: s13 :: s14 :: s15 :: s16 :: .val (.long x) :: .second :: B) st H ce sl) : Go Z a0 n0 M R Q pc (s0 :: s1 :: s2 :: s3 :: s4 :: s5 :: s6 :: s7 :: s8 :: s9 :: s10 :: s11 :: s12 :: s13 :: s14 :: s15 :: s16 :: o :: o' :: B) (.long x :: st) H ce sl := go_lstoreG (A := [s0, s1, s2, s3, s4, s5, s6, s7, s8, s9, s10, s11, s12, s13, s14, s15, s16]) rfl ho hd h
theorem go_iinc17 {s0 s1 s2 s3 s4 s5 s6 s7 s8 s9 s10 s11 s12 s13 s14 s15 s16 : Slot} {B : List Slot} {cst : Int} {x v : Int32} (hd : Ins M pc (.iinc 17 cst) 3 pc') (hv : x + Int32.ofInt cst = v) (h : Go Z a0 n0 M R Q pc' (s0 :: s1 :: s2 :: s3 :: s4 :: s5 :: s6 :: s7 :: s8 :: s9 :: s10 :: s11 :: s12 :: s13 :: s14 :: s15 :: s16 :: .val (.int v) :: B) st H ce sl) : Go Z a0 n0 M R Q pc (s0 :: s1 :: s2 :: s3 :: s4 :: s5 :: s6 :: s7 :: s8 :: s9 :: s10 :: s11 :: s12 :: s13 :: s14 :: s15 :: s16 :: .val (.int x) :: B) st H ce sl := go_iincG (A := [s0, s1, s2, s3, s4, s5, s6, s7, s8, s9, s10, s11, s12, s13, s14, s15, s16]) rfl hd hv h
theorem go_istore18 {s0 s1 s2 s3 s4 s5 s6 s7 s8 s9 s10 s11 s12 s13 s14 s15 s16 s17 o : Slot} {B : List Slot} {x : Int32} (hd : Ins M pc (.istore 18) 2 pc') (ho : One o) (h : Go Z a0 n0 M R Q pc' (s0 :: s1 :: s2 :: s3 :: s4 :: s5 :: s6 :: s7 :: s8 :: s9 :: s10 :: s11 :: s12 :: s13 :: s14 :: s15 :: s16 :: s17 :: .val (.int x) :: B) st H ce sl) : Go Z a0 n0 M R Q pc (s0 :: s1 :: s2 :: s3 :: s4 :: s5 :: s6 :: s7 :: s8 :: s9 :: s10 :: s11 :: s12 :: s13 :: s14 :: s15 :: s16 :: s17 :: o :: B) (.int x :: st) H ce sl := go_istoreG (A := [s0, s1, s2, s3, s4, s5, s6, s7, s8, s9, s10, s11, s12, s13, s14, s15, s16, s17]) rfl ho hd h
theorem go_astore18 {s0 s1 s2 s3 s4 s5 s6 s7 s8 s9 s10 s11 s12 s13 s14 s15 s16 s17 o : Slot} {B : List Slot} {x : Addr} (hd : Ins M pc (.astore 18) 2 pc') (ho : One o) (h : Go Z a0 n0 M R Q pc' (s0 :: s1 :: s2 :: s3 :: s4 :: s5 :: s6 :: s7 :: s8 :: s9 :: s10 :: s11 :: s12 :: s13 :: s14 :: s15 :: s16 :: s17 :: .val (.ref x) :: B) st H ce sl) : Go Z a0 n0 M R Q pc (s0 :: s1 :: s2 :: s3 :: s4 :: s5 :: s6 :: s7 :: s8 :: s9 :: s10 :: s11 :: s12 :: s13 :: s14 :: s15 :: s16 :: s17 :: o :: B) (.ref x :: st) H ce sl := go_astoreG (A := [s0, s1, s2, s3, s4, s5, s6, s7, s8, s9, s10, s11, s12, s13, s14, s15, s16, s17]) rfl ho hd h
theorem go_lstore18 {s0 s1 s2 s3 s4 s5 s6 s7 s8 s9 s10 s11 s12 s13 s14 s15 s16 s17 o o' : Slot} {B : List Slot} {x : Int64} (hd : Ins M pc (.lstore 18) 2 pc') (ho : (One o ∧ One o') ∨ ∃ y : Int64, o = .val (.long y) ∧ o' = .second) (h : Go Z a0 n0 M R Q pc' (s0 :: s1 :: s2 :: s3 :: s4 :: s5 :: s6 :: s7 :: s8 :: s9 :: s10 :: s11 :: s12 :: s13 :: s14 :: s15 :: s16 :: s17 :: .val (.long x) :: .second :: B) st H ce sl) : Go Z a0 n0 M R Q pc (s0 :: s1 :: s2 :: s3 :: s4 :: s5 :: s6 :: s7 :: s8 :: s9 :: s10 :: s11 :: s12 :: s13 :: s14 :: s15 :: s16 :: s17 :: o :: o' :: B) (.long x :: st) H ce sl := go_lstoreG (A := [s0, s1, s2, s3, s4, s5, s6, s7, s8, s9, s10, s11, s12, s13, s14, s15, s16, s17]) rfl ho hd h
theorem go_iinc18 {s0 s1 s2 s3 s4 s5 s6 s7 s8 s9 s10 s11 s12 s13 s14 s15 s16 s17 : Slot} {B : List Slot} {cst : Int} {x v : Int32} (hd : Ins M pc (.iinc 18 cst) 3 pc') (hv : x + Int32.ofInt cst = v) (h : Go Z a0 n0 M R Q pc' (s0 :: s1 :: s2 :: s3 :: s4 :: s5 :: s6 :: s7 :: s8 :: s9 :: s10 :: s11 :: s12 :: s13 :: s14 :: s15 :: s16 :: s17 :: .val (.int v) :: B) st H ce sl) : Go Z a0 n0 M R Q pc (s0 :: s1 :: s2 :: s3 :: s4 :: s5 :: s6 :: s7 :: s8 :: s9 :: s10 :: s11 :: s12 :: s13 :: s14 :: s15 :: s16 :: s17 :: .val (.int x) :: B) st H ce sl := go_iincG (A := [s0, s1, s2, s3, s4, s5, s6, s7, s8, s9, s10, s11, s12, s13, s14, s15, s16, s17]) rfl hd hv h
theorem go_istore19 {s0 s1 s2 s3 s4 s5 s6 s7 s8 s9 s10 s11 s12 s13 s14 s15 s16 s17 s18 o : Slot} {B : List Slot} {x : Int32} (hd : Ins M pc (.istore 19) 2 pc') (ho : One o) (h : Go Z a0 n0 M R Q pc' (s0 :: s1 :: s2 :: s3 :: s4 :: s5 :: s6 :: s7 :: s8 :: s9 :: s10 :: s11 :: s12 :: s13 :: s14 :: s15 :: s16 :: s17 :: s18 :: .val (.int x) :: B) st H ce sl) : Go Z a0 n0 M R Q pc (s0 :: s1 :: s2 :: s3 :: s4 :: s5 :: s6 :: s7 :: s8 :: s9 :: s10 :: s11 :: s12 :: s13 :: s14 :: s15 :: s16 :: s17 :: s18 :: o :: B) (.int x :: st) H ce sl := go_istoreG (A := [s0, s1, s2, s3, s4, s5, s6, s7, s8, s9, s10, s11, s12, s13, s14, s15, s16, s17, s18]) rfl ho hd h
theorem go_astore19 {s0 s1 s2 s3 s4 s5 s6 s7 s8 s9 s10 s11 s12 s13 s14 s15 s16 s17 s18 o : Slot} {B : List Slot} {x : Addr} (hd : Ins M pc (.astore 19) 2 pc') (ho : One o) (h : Go Z a0 n0 M R Q pc' (s0 :: s1 :: s2 :: s3 :: s4 :: s5 :: s6 :: s7 :: s8 :: s9 :: s10 :: s11 :: s12 :: s13 :: s14 :: s15 :: s16 :: s17 :: s18 :: .val (.ref x) :: B) st H ce sl) : Go Z a0 n0 M R Q pc (s0 :: s1 :: s2 :: s3 :: s4 :: s5 :: s6 :: s7 :: s8 :: s9 :: s10 :: s11 :: s12 :: s13 :: s14 :: s15 :: s16 :: s17 :: s18 :: o :: B) (.ref x :: st) H ce sl := go_astoreG (A := [s0, s1, s2, s3, s4, s5, s6, s7, s8, s9, s10, s11, s12, s13, s14, s15, s16, s17, s18]) rfl ho hd h
theorem go_lstore19 {s0 s1 s2 s3 s4 s5 s6 s7 s8 s9 s10 s11 s12 s13 s14 s15 s16 s17 s18 o o' : Slot} {B : List Slot} {x : Int64} (hd : Ins M pc (.lstore 19) 2 pc') (ho : (One o ∧ One o') ∨ ∃ y : Int64, o = .val (.long y) ∧ o' = .second) (h : Go Z a0 n0 M R Q pc' (s0 :: s1 :: s2 :: s3 :: s4 :: s5 :: s6 :: s7 :: s8 :: s9 :: s10 :: s11 :: s12 :: s13 :: s14 :: s15 :: s16 :: s17 :: s18 :: .val (.long x) :: .second :: B) st H ce sl) : Go Z a0 n0 M R Q pc (s0 :: s1 :: s2 :: s3 :: s4 :: s5 :: s6 :: s7 :: s8 :: s9 :: s10 :: s11 :: s12 :: s13 :: s14 :: s15 :: s16 :: s17 :: s18 :: o :: o' :: B) (.long x :: st) H ce sl := go_lstoreG (A := [s0, s1, s2, s3, s4, s5, s6, s7, s8, s9, s10, s11, s12, s13, s14, s15, s16, s17, s18]) rfl ho hd h
theorem go_iinc19 {s0 s1 s2 s3 s4 s5 s6 s7 s8 s9 s10 s11 s12 s13 s14 s15 s16 s17 s18 : Slot} {B : List Slot} {cst : Int} {x v : Int32} (hd : Ins M pc (.iinc 19 cst) 3 pc') (hv : x + Int32.ofInt cst = v) (h : Go Z a0 n0 M R Q pc' (s0 :: s1 :: s2 :: s3 :: s4 :: s5 :: s6 :: s7 :: s8 :: s9 :: s10 :: s11 :: s12 :: s13 :: s14 :: s15 :: s16 :: s17 :: s18 :: .val (.int v) :: B) st H ce sl) : Go Z a0 n0 M R Q pc (s0 :: s1 :: s2 :: s3 :: s4 :: s5 :: s6 :: s7 :: s8 :: s9 :: s10 :: s11 :: s12 :: s13 :: s14 :: s15 :: s16 :: s17 :: s18 :: .val (.int x) :: B) st H ce sl := go_iincG (A := [s0, s1, s2, s3, s4, s5, s6, s7, s8, s9, s10, s11, s12, s13, s14, s15, s16, s17, s18]) rfl hd hv h
theorem go_istore20 {s0 s1 s2 s3 s4 s5 s6 s7 s8 s9 s10 s11 s12 s13 s14 s15 s16 s17 s18 s19 o : Slot} {B : List Slot} {x : Int32} (hd : Ins M pc (.istore 20) 2 pc') (ho : One o) (h : Go Z a0 n0 M R Q pc' (s0 :: s1 :: s2 :: s3 :: s4 :: s5 :: s6 :: s7 :: s8 :: s9 :: s10 :: s11 :: s12 :: s13 :: s14 :: s15 :: s16 :: s17 :: s18 :: s19 :: .val (.int x) :: B) st H ce sl) : Go Z a0 n0 M R Q pc (s0 :: s1 :: s2 :: s3 :: s4 :: s5 :: s6 :: s7 :: s8 :: s9 :: s10 :: s11 :: s12 :: s13 :: s14 :: s15 :: s16 :: s17 :: s18 :: s19 :: o :: B) (.int x :: st) H ce sl := go_istoreG (A := [s0, s1, s2, s3, s4, s5, s6, s7, s8, s9, s10, s11, s12, s13, s14, s15, s16, s17, s18, s19]) rfl ho hd h
theorem go_astore20 {s0 s1 s2 s3 s4 s5 s6 s7 s8 s9 s10 s11 s12 s13 s14 s15 s16 s17 s18 s19 o : Slot} {B : List Slot} {x : Addr} (hd : Ins M pc (.astore 20) 2 pc') (ho : One o) (h : Go Z a0 n0 M R Q pc' (s0 :: s1 :: s2 :: s3 :: s4 :: s5 :: s6 :: s7 :: s8 :: s9 :: s10 :: s11 :: s12 :: s13 :: s14 :: s15 :: s16 :: s17 :: s18 :: s19 :: .val (.ref x) :: B) st H ce sl) : Go Z a0 n0 M R Q pc (s0 :: s1 :: s2 :: s3 :: s4 :: s5 :: s6 :: s7 :: s8 :: s9 :: s10 :: s11 :: s12 :: s13 :: s14 :: s15 :: s16 :: s17 :: s18 :: s19 :: o :: B) (.ref x :: st) H ce sl := go_astoreG (A := [s0, s1, s2, s3, s4, s5, s6, s7, s8, s9, s10, s11, s12, s13, s14, s15, s16, s17, s18, s19]) rfl ho hd h
theorem go_lstore20 {s0 s1 s2 s3 s4 s5 s6 s7 s8 s9 s10 s11 s12 s13 s14 s15 s16 s17 s18 s19 o o' : Slot} {B : List Slot} {x : Int64} (hd : Ins M pc (.lstore 20) 2 pc') (ho : (One o ∧ One o') ∨ ∃ y : Int64, o = .val (.long y) ∧ o' = .second) (h : Go Z a0 n0 M R Q pc' (s0 :: s1 :: s2 :: s3 :: s4 :: s5 :: s6 :: s7 :: s8 :: s9 :: s10 :: s11 :: s12 :: s13 :: s14 :: s15 :: s16 :: s17 :: s18 :: s19 :: .val (.long x) :: .second :: B) st H ce sl) : Go Z a0 n0 M R Q pc (s0 :: s1 :: s2 :: s3 :: s4 :: s5 :: s6 :: s7 :: s8 :: s9 :: s10 :: s11 :: s12 :: s13 :: s14 :: s15 :: s16 :: s17 :: s18 :: s19 :: o :: o' :: B) (.long x :: st) H ce sl := go_lstoreG (A := [s0, s1, s2, s3, s4, s5, s6, s7, s8, s9, s10, s11, s12, s13, s14, s15, s16, s17, s18, s19]) rfl ho hd h
theorem go_iinc20 {s0 s1 s2 s3 s4 s5 s6 s7 s8 s9 s10 s11 s12 s13 s14 s15 s16 s17 s18 s19 : Slot} {B : List Slot} {cst : Int} {x v : Int32} (hd : Ins M pc (.iinc 20 cst) 3 pc') (hv : x + Int32.ofInt cst = v) (h : Go Z a0 n0 M R Q pc' (s0 :: s1 :: s2 :: s3 :: s4 :: s5 :: s6 :: s7 :: s8 :: s9 :: s10 :: s11 :: s12 :: s13 :: s14 :: s15 :: s16 :: s17 :: s18 :: s19 :: .val (.int v) :: B) st H ce sl) : Go Z a0 n0 M R Q pc (s0 :: s1 :: s2 :: s3 :: s4 :: s5 :: s6 :: s7 :: s8 :: s9 :: s10 :: s11 :: s12 :: s13 :: s14 :: s15 :: s16 :: s17 :: s18 :: s19 :: .val (.int x) :: B) st H ce sl := go_iincG (A := [s0, s1, s2, s3, s4, s5, s6, s7, s8, s9, s10, s11, s12, s13, s14, s15, s16, s17, s18, s19]) rfl hd hv h
end Rules
section Heap
variable {Z : State} {a0 : Array Value} {n0 : Nat} {M : GM} {R : Room} {Q : Option Value → List GObj → Prop} {pc pc' : Nat} {L : List Slot} {st : List Value} {H : List GObj} {ce sl : Nat}
theorem idx_of {j : Int32} {i : Nat} (h : j.toInt = (i : Int)) : ¬ j < 0 ∧ j.toNatClampNeg = i := by
  constructor
  · rw [Int32.lt_iff_toInt_lt]; simp only [Int32.reduceToInt]; omega
  · simp only [Int32.toNatClampNeg]; omega
theorem idx_in' {j : Int32} {i : Nat} {c : Cell} {vs : List Value} {v : Value} (h : j.toInt = (i : Int)) (hc : c.slots = vs.toArray) (hv : vs[i]? = some v) : ¬ (j < 0 ∨ c.slots.size ≤ j.toNatClampNeg) ∧ c.slots[j.toNatClampNeg]? = some v := by
  obtain ⟨h1, h2⟩ := idx_of h
  have := (List.getElem?_eq_some_iff.mp hv).1
  refine ⟨?_, by rw [h2, hc]; simpa using hv⟩
  rintro (q | q)
  · exact h1 q
  · rw [hc, h2] at q; simp at q; omega
theorem go_getfield {idx k : Nat} {K : GLay} {vs : List Value} {O n d : String} {ty : FieldType} {v : Value} (i : Nat) (hd : Ins M pc (.getfield idx) 3 pc') (w : (Jvm.Cond.fieldLink M.1.cls idx O n d).before a0 Z = true) (hH : H[k]? = some (.inl (K, vs))) (hK : K.2[i]? = some (O, n, d, ty)) (hv : vs[i]? = some v)
    (h : Go Z a0 n0 M R Q pc' L (v :: st) H ce sl) : Go Z a0 n0 M R Q pc L (.ref (n0 + k) :: st) H ce sl := by
  obtain ⟨hd, rfl⟩ := hd
  intro p l e s m args below meth c T locs X C S E F
  obtain ⟨hx, hZ, hby, hml, hret, hlk, hown, hnm⟩ := id C
  have F0 := (S.2.2.2 k _ hH).2.2 i _ _ hK hv
  obtain ⟨T', X', e', st'⟩ := getF X hx hZ hown (host := "") (Or.inl w) Via.refl rfl F0 (g := mkF m pc L.toArray (.ref (n0 + k) :: st)) rfl rfl (hb hby hd)
  exact (h p l e s m args below meth c T' locs X' C (by rw [e']; exact S) E F).back st'
theorem nodup_ne {K : GLay} (h : (K.2.map fun q => q.2.1).Nodup) {i j : Nat} {q q' : String × String × String × FieldType} (hi : K.2[i]? = some q) (hj : K.2[j]? = some q') (ne : i ≠ j) : q.2.1 ≠ q'.2.1 := fun e => by
  obtain ⟨h1, e1⟩ := List.getElem?_eq_some_iff.mp hi
  obtain ⟨h2, e2⟩ := List.getElem?_eq_some_iff.mp hj
  refine ne ((List.getElem_inj (xs := K.2.map fun q => q.2.1) (h₀ := by simpa using h1) (h₁ := by simpa using h2) h).mp ?_)
  simpa [e1, e2] using e
theorem go_putfield {idx k : Nat} {K : GLay} {vs : List Value} {O n d : String} {ty : FieldType} {v : Value} (i : Nat) (hd : Ins M pc (.putfield idx) 3 pc') (w : (Jvm.Cond.fieldLink M.1.cls idx O n d).before a0 Z = true) (hH : H[k]? = some (.inl (K, vs))) (hK : K.2[i]? = some (O, n, d, ty)) (hi : (vs[i]?).isSome = true)
    (hL : (Jvm.Cond.lays K.1 O n d).before a0 Z = true ∨ ((Jvm.Cond.laysFinal K.1 O n d).before a0 Z = true ∧ M.1.cls = O ∧ M.1.name = "<init>")) (hn : narrow ty v = v) (hf : fits ty v = true)
    (h : Go Z a0 n0 M R Q pc' L st (H.set k (.inl (K, vs.set i v))) ce sl) : Go Z a0 n0 M R Q pc L (v :: .ref (n0 + k) :: st) H ce sl := by
  obtain ⟨hd, rfl⟩ := hd
  intro p l e s m args below meth c T locs X C S E F
  obtain ⟨hx, hZ, hby, hml, hret, hlk, hown, hnm⟩ := id C
  obtain ⟨LO, EX, FS⟩ := S.2.2.2 k _ hH
  obtain ⟨old, hold⟩ := Option.isSome_iff_exists.mp hi
  have F0 := FS i _ _ hK hold
  obtain ⟨⟨kk, wi⟩, LA, ND⟩ := LO
  have hmem := List.mem_of_getElem? hK
  obtain ⟨T', h', X', e', W, st'⟩ := putF X hx hZ hown (host := "") (Or.inl w) Via.refl rfl F0 EX (hL.imp id fun q => ⟨q.1, q.2.1, hnm.trans q.2.2⟩) wi (LA _ hmem).2 hn hf (g := mkF m pc L.toArray (v :: .ref (n0 + k) :: st)) rfl rfl (hb hby hd)
  have OB : Ob Z a0 h' (n0 + k) (.inl (K, vs.set i v)) := by
    refine ⟨⟨⟨kk, wi⟩, LA, ND⟩, EX.wr W, fun j q u hq hu => ?_⟩
    by_cases ne : j = i
    · subst ne
      cases hK.symm.trans hq
      have : u = v := by
        have hlt := (List.getElem?_eq_some_iff.mp hold).1
        simpa [List.getElem?_set_self hlt] using hu.symm
      subst this
      exact F0.same W
    · rw [List.getElem?_set_ne (Ne.symm ne)] at hu
      exact (FS j q u hq hu).other W (Or.inr (slot_ne (LA _ (List.mem_of_getElem? hq)).1 (LA _ hmem).1 (nodup_ne ND hq hK ne) (LA _ (List.mem_of_getElem? hq)).2 (LA _ hmem).2))
  have S' : Sat Z a0 n0 T'.heap (H.set k (.inl (K, vs.set i v))) := by rw [e']; exact S.put W OB
  exact (h p l e s m args below meth c T' _ X' C S' (by simpa using E) (Fr.snoc X' F (Nat.le_add_right _ _))).back st'
theorem size_one {p : Program} {l : Launch} {e : Env} {s : State} {m : MethodId} {args : Array Value} {below : List Frame} {meth : Method} {c : Code} {T T' : State} {locs : List Loc} {h' : Heap} {sl' : Nat} (X' : Stand p l e R s m args below meth c T' locs (ce + 1) sl') (e' : T'.heap = h') (S : Sat Z a0 n0 T.heap H) (E : s.heap.size + ce = n0 + H.length) {cell : Cell} (hc : h'[T.heap.size]? = some cell) : h'.size = T.heap.size + 1 := by
  have h1 := X'.heapSize
  have h2 := (Array.getElem?_eq_some_iff.mp hc).1
  have h3 := S.2.2.1
  rw [e'] at h1
  omega
theorem go_new {idx n : Nat} (K : GLay) {vs : List Value} (hd : Ins M pc (.new idx) 3 pc') (w : (Jvm.Cond.classLink M.1.cls idx K.1).before a0 Z = true) (wi : (Jvm.Cond.instantiable K.1 n).before a0 Z = true) (wz : (Jvm.Cond.initialized K.1).before a0 Z = true) (hK : LayOk Z a0 K) (hvs : K.2.map (fun q => defaultValue q.2.2.2) = vs) {k : Nat} (hk : H.length = k) (hc : ce + 1 ≤ R.cells) (hs : sl + n ≤ R.slots)
    (h : Go Z a0 n0 M R Q pc' L (.ref (n0 + k) :: st) (H ++ [.inl (K, vs)]) (ce + 1) (sl + n)) : Go Z a0 n0 M R Q pc L st H ce sl := by
  obtain ⟨hd, rfl⟩ := hd
  subst hk
  intro p l e s m args below meth c T locs X C S E F
  obtain ⟨hx, hZ, hby, hml, hret, hlk, hown, hnm⟩ := id C
  obtain ⟨T', h', X', e', EX, A, D, ⟨cell, hcell, -⟩, st'⟩ := newO X hx hZ hown w wi wz rfl (g := mkF m pc L.toArray st) rfl (hb hby hd) hc hs
  have hsz := size_one X' e' S E hcell
  have OB : Ob Z a0 h' T.heap.size (.inl (K, vs)) := by
    refine ⟨hK, A, fun i q v hq hv => ?_⟩
    subst hvs
    rw [List.getElem?_map, hq] at hv
    cases hv
    obtain ⟨h1, h2⟩ := hK.2.1 q (List.mem_of_getElem? hq)
    exact D h1 h2
  have S' : Sat Z a0 n0 T'.heap (H ++ [.inl (K, vs)]) := by rw [e']; exact S.push EX hsz OB
  refine (h p l e s m args below meth c T' _ X' C S' (by simp; omega) F).back ?_
  rw [← S.2.2.1]; exact st'
theorem go_newarray {aty : ArrayType} {ty : FieldType} {n : Int32} {vs : List Value} (cap : Nat) (hd : Ins M pc (.newarray aty) 2 pc') (hty : newarray.typeOf aty = ty) (w : (Jvm.Cond.arrayClass ty).before a0 Z = true) (hn : ¬ n < 0) (hvs : List.replicate n.toNatClampNeg (defaultValue ty) = vs) (hcap : n.toNatClampNeg ≤ cap) (hbb : cap * 8 ≤ 536870912) {k : Nat} (hk : H.length = k) (hc : ce + 1 ≤ R.cells) (hs : sl + cap ≤ R.slots)
    (h : Go Z a0 n0 M R Q pc' L (.ref (n0 + k) :: st) (H ++ [.inr (ty, vs)]) (ce + 1) (sl + cap)) : Go Z a0 n0 M R Q pc L (.int n :: st) H ce sl := by
  obtain ⟨hd, rfl⟩ := hd
  subst hk hty hvs
  intro p l e s m args below meth c T locs X C S E F
  obtain ⟨hx, hZ, hby, hml, hret, hlk, hown, hnm⟩ := id C
  obtain ⟨T', h', cA, X', e', EX, A, EA, st'⟩ := newPE X hx hZ w rfl (g := mkF m pc L.toArray (.int n :: st)) rfl (hb hby hd) rfl hn hcap hbb hc hs rfl
  have hsz := size_one X' e' S E A.1
  have OB : Ob Z a0 h' T.heap.size (.inr (newarray.typeOf aty, List.replicate n.toNatClampNeg (defaultValue (newarray.typeOf aty)))) := by
    refine ⟨_, A, by simp [newA], fun v hv => ?_, EA, fun C hC => ?_⟩
    · obtain rfl := (List.mem_replicate.mp hv).2
      cases aty <;> rfl
    · cases aty <;> cases hC
  have S' := S.push EX hsz OB
  rw [← e'] at S'
  refine (h p l e s m args below meth c T' _ X' C S' (by simp; omega) F).back ?_
  rw [← S.2.2.1]; exact st'
theorem go_anewarray {idx : Nat} {Cn : String} {n : Int32} {vs : List Value} (cap : Nat) (hd : Ins M pc (.anewarray idx) 3 pc') (w1 : (Jvm.Cond.classLink M.1.cls idx Cn).before a0 Z = true) (w : (Jvm.Cond.arrayOver (.object Cn)).before a0 Z = true) (hn : ¬ n < 0) (hvs : List.replicate n.toNatClampNeg Value.null = vs) (hcap : n.toNatClampNeg ≤ cap) (hbb : cap * 8 ≤ 536870912) {k : Nat} (hk : H.length = k) (hc : ce + 1 ≤ R.cells) (hs : sl + cap ≤ R.slots)
    (h : Go Z a0 n0 M R Q pc' L (.ref (n0 + k) :: st) (H ++ [.inr (.object Cn, vs)]) (ce + 1) (sl + cap)) : Go Z a0 n0 M R Q pc L (.int n :: st) H ce sl := by
  obtain ⟨hd, rfl⟩ := hd
  subst hk hvs
  intro p l e s m args below meth c T locs X C S E F
  obtain ⟨hx, hZ, hby, hml, hret, hlk, hown, hnm⟩ := id C
  obtain ⟨T', h', cA, X', e', EX, A, EA, OV, st'⟩ := newRE X hx hZ hown w1 w rfl (g := mkF m pc L.toArray (.int n :: st)) rfl (hb hby hd) rfl hn hcap hbb hc hs rfl
  have hsz := size_one X' e' S E A.1
  have OB : Ob Z a0 h' T.heap.size (.inr (.object Cn, List.replicate n.toNatClampNeg Value.null)) := by
    refine ⟨_, A, by simp [newA, defaultValue], fun v hv => ?_, EA, fun C hC => ?_⟩
    · obtain rfl := (List.mem_replicate.mp hv).2
      rfl
    · cases hC; exact OV
  have S' := S.push EX hsz OB
  rw [← e'] at S'
  refine (h p l e s m args below meth c T' _ X' C S' (by simp; omega) F).back ?_
  rw [← S.2.2.1]; exact st'
theorem go_arraylength {k : Nat} {ty : FieldType} {vs : List Value} {n : Int32} (hd : Ins M pc .arraylength 1 pc') (hH : H[k]? = some (.inr (ty, vs))) (hn : vs.length.toInt32 = n) (h : Go Z a0 n0 M R Q pc' L (.int n :: st) H ce sl) : Go Z a0 n0 M R Q pc L (.ref (n0 + k) :: st) H ce sl := by
  obtain ⟨hd, rfl⟩ := hd
  intro p l e s m args below meth c T locs X C S E F
  obtain ⟨hx, hZ, hby, hml, hret, hlk, hown, hnm⟩ := id C
  obtain ⟨cl, A, hs, -⟩ := S.2.2.2 k _ hH
  have hlen : cl.slots.size.toInt32 = n := by rw [hs]; simpa using hn
  refine (h p l e s m args below meth c T _ X C S E F).back fun t k' => ?_
  exact X.arraylength hx A.1 (State.isArrayOf_alike hZ.alike A.2.1) (g := mkF m pc L.toArray (.ref (n0 + k) :: st)) rfl rfl (hb hby hd) t (by rw [hlen]; exact k')
theorem go_iaload {k i : Nat} {j x : Int32} {vs : List Value} (hd : Ins M pc .iaload 1 pc') (hH : H[k]? = some (.inr (.int, vs))) (hj : j.toInt = (i : Int)) (hv : vs[i]? = some (.int x)) (h : Go Z a0 n0 M R Q pc' L (.int x :: st) H ce sl) : Go Z a0 n0 M R Q pc L (.int j :: .ref (n0 + k) :: st) H ce sl := by
  obtain ⟨hd, rfl⟩ := hd
  intro p l e s m args below meth c T locs X C S E F
  obtain ⟨hx, hZ, hby, hml, hret, hlk, hown, hnm⟩ := id C
  obtain ⟨cl, A, hs, -⟩ := S.2.2.2 k _ hH
  obtain ⟨g1, g2⟩ := idx_in' hj hs hv
  refine (h p l e s m args below meth c T _ X C S E F).back fun t k' => ?_
  exact X.iaload hx A.1 (State.isArrayOf_alike hZ.alike A.2.1) A.2.2 g1 g2 (g := mkF m pc L.toArray (.int j :: .ref (n0 + k) :: st)) rfl rfl (hb hby hd) t k'
theorem go_laload {k i : Nat} {j : Int32} {x : Int64} {vs : List Value} (hd : Ins M pc .laload 1 pc') (hH : H[k]? = some (.inr (.long, vs))) (hj : j.toInt = (i : Int)) (hv : vs[i]? = some (.long x)) (h : Go Z a0 n0 M R Q pc' L (.long x :: st) H ce sl) : Go Z a0 n0 M R Q pc L (.int j :: .ref (n0 + k) :: st) H ce sl := by
  obtain ⟨hd, rfl⟩ := hd
  intro p l e s m args below meth c T locs X C S E F
  obtain ⟨hx, hZ, hby, hml, hret, hlk, hown, hnm⟩ := id C
  obtain ⟨cl, A, hs, -⟩ := S.2.2.2 k _ hH
  obtain ⟨g1, g2⟩ := idx_in' hj hs hv
  refine (h p l e s m args below meth c T _ X C S E F).back fun t k' => ?_
  exact X.laload hx A.1 (State.isArrayOf_alike hZ.alike A.2.1) A.2.2 g1 g2 (g := mkF m pc L.toArray (.int j :: .ref (n0 + k) :: st)) rfl rfl (hb hby hd) t k'
theorem go_baload {k i : Nat} {j x : Int32} {vs : List Value} (hd : Ins M pc .baload 1 pc') (hH : H[k]? = some (.inr (.byte, vs))) (hj : j.toInt = (i : Int)) (hv : vs[i]? = some (.int x)) (h : Go Z a0 n0 M R Q pc' L (.int x :: st) H ce sl) : Go Z a0 n0 M R Q pc L (.int j :: .ref (n0 + k) :: st) H ce sl := by
  obtain ⟨hd, rfl⟩ := hd
  intro p l e s m args below meth c T locs X C S E F
  obtain ⟨hx, hZ, hby, hml, hret, hlk, hown, hnm⟩ := id C
  obtain ⟨cl, A, hs, -⟩ := S.2.2.2 k _ hH
  obtain ⟨g1, g2⟩ := idx_in' hj hs hv
  refine (h p l e s m args below meth c T _ X C S E F).back fun t k' => ?_
  exact X.baloadBytes hx A.1 (State.isArrayOf_alike hZ.alike A.2.1) A.2.2 g1 g2 (g := mkF m pc L.toArray (.int j :: .ref (n0 + k) :: st)) rfl rfl (hb hby hd) t k'
theorem go_aaload {k i : Nat} {j : Int32} {x : Value} {ty : FieldType} {vs : List Value} (hd : Ins M pc .aaload 1 pc') (hH : H[k]? = some (.inr (ty, vs))) (hty : ty.isReference = true) (hj : j.toInt = (i : Int)) (hv : vs[i]? = some x) (h : Go Z a0 n0 M R Q pc' L (x :: st) H ce sl) : Go Z a0 n0 M R Q pc L (.int j :: .ref (n0 + k) :: st) H ce sl := by
  obtain ⟨hd, rfl⟩ := hd
  intro p l e s m args below meth c T locs X C S E F
  obtain ⟨hx, hZ, hby, hml, hret, hlk, hown, hnm⟩ := id C
  obtain ⟨cl, A, hs, -⟩ := S.2.2.2 k _ hH
  obtain ⟨g1, g2⟩ := idx_in' hj hs hv
  refine (h p l e s m args below meth c T _ X C S E F).back fun t k' => ?_
  exact X.aaload hx A.1 (State.isArrayOf_alike hZ.alike A.2.1) hty A.2.2 g1 g2 (g := mkF m pc L.toArray (.int j :: .ref (n0 + k) :: st)) rfl rfl (hb hby hd) t k'
theorem ob_set {h h' : Heap} {a : Addr} {c : Cell} {ty : FieldType} {vs : List Value} {v : Value} {i : Nat} (A : Arr Z h a c ty) (hs : c.slots = vs.toArray) (hf : ∀ v ∈ vs, fits ty v = true) (EA : Exa Z h a ("[" ++ ty.toString)) (OV : ∀ C, ty = .object C → Ovr Z c.cls C) (W : Wr h h' a i v) (hv : fits ty v = true) : Ob Z a0 h' a (.inr (ty, vs.set i v)) :=
  ⟨c.setSlot i v, A.same W, by simp [Cell.setSlot, hs], fun u hu => (List.mem_or_eq_of_mem_set hu).elim (hf u) (fun q => q ▸ hv), EA.wr W, OV⟩
theorem go_iastore {k i : Nat} {j x : Int32} {vs : List Value} (hd : Ins M pc .iastore 1 pc') (hH : H[k]? = some (.inr (.int, vs))) (hj : j.toInt = (i : Int)) (hi : (vs[i]?).isSome = true) (h : Go Z a0 n0 M R Q pc' L st (H.set k (.inr (.int, vs.set i (.int x)))) ce sl) : Go Z a0 n0 M R Q pc L (.int x :: .int j :: .ref (n0 + k) :: st) H ce sl := by
  obtain ⟨hd, rfl⟩ := hd
  intro p l e s m args below meth c T locs X C S E F
  obtain ⟨hx, hZ, hby, hml, hret, hlk, hown, hnm⟩ := id C
  obtain ⟨cl, A, hs, hf, EA, OV⟩ := S.2.2.2 k _ hH
  obtain ⟨old, hold⟩ := Option.isSome_iff_exists.mp hi
  obtain ⟨g1, -⟩ := idx_in' hj hs hold
  obtain ⟨T', h', X', e', W, st'⟩ := stI X hx hZ rfl A g1 (x := x) (g := mkF m pc L.toArray (.int x :: .int j :: .ref (n0 + k) :: st)) rfl rfl (hb hby hd)
  rw [(idx_of hj).2] at W
  have S' := S.put W (ob_set (a0 := a0) A hs hf EA OV W rfl)
  rw [← e'] at S'
  exact (h p l e s m args below meth c T' _ X' C S' (by simpa using E) (Fr.snoc X' F (Nat.le_add_right _ _))).back st'
theorem go_lastore {k i : Nat} {j : Int32} {x : Int64} {vs : List Value} (hd : Ins M pc .lastore 1 pc') (hH : H[k]? = some (.inr (.long, vs))) (hj : j.toInt = (i : Int)) (hi : (vs[i]?).isSome = true) (h : Go Z a0 n0 M R Q pc' L st (H.set k (.inr (.long, vs.set i (.long x)))) ce sl) : Go Z a0 n0 M R Q pc L (.long x :: .int j :: .ref (n0 + k) :: st) H ce sl := by
  obtain ⟨hd, rfl⟩ := hd
  intro p l e s m args below meth c T locs X C S E F
  obtain ⟨hx, hZ, hby, hml, hret, hlk, hown, hnm⟩ := id C
  obtain ⟨cl, A, hs, hf, EA, OV⟩ := S.2.2.2 k _ hH
  obtain ⟨old, hold⟩ := Option.isSome_iff_exists.mp hi
  obtain ⟨g1, -⟩ := idx_in' hj hs hold
  obtain ⟨T', h', X', e', W, st'⟩ := stJ X hx hZ rfl A g1 (x := x) (g := mkF m pc L.toArray (.long x :: .int j :: .ref (n0 + k) :: st)) rfl rfl (hb hby hd)
  rw [(idx_of hj).2] at W
  have S' := S.put W (ob_set (a0 := a0) A hs hf EA OV W rfl)
  rw [← e'] at S'
  exact (h p l e s m args below meth c T' _ X' C S' (by simpa using E) (Fr.snoc X' F (Nat.le_add_right _ _))).back st'
theorem go_bastore {k i : Nat} {j x : Int32} {vs : List Value} (hd : Ins M pc .bastore 1 pc') (hH : H[k]? = some (.inr (.byte, vs))) (hj : j.toInt = (i : Int)) (hi : (vs[i]?).isSome = true) (h : Go Z a0 n0 M R Q pc' L st (H.set k (.inr (.byte, vs.set i (.int x.toInt8.toInt32)))) ce sl) : Go Z a0 n0 M R Q pc L (.int x :: .int j :: .ref (n0 + k) :: st) H ce sl := by
  obtain ⟨hd, rfl⟩ := hd
  intro p l e s m args below meth c T locs X C S E F
  obtain ⟨hx, hZ, hby, hml, hret, hlk, hown, hnm⟩ := id C
  obtain ⟨cl, A, hs, hf, EA, OV⟩ := S.2.2.2 k _ hH
  obtain ⟨old, hold⟩ := Option.isSome_iff_exists.mp hi
  obtain ⟨g1, -⟩ := idx_in' hj hs hold
  obtain ⟨T', h', X', e', W, st'⟩ := stB X hx hZ rfl A g1 (x := x) (g := mkF m pc L.toArray (.int x :: .int j :: .ref (n0 + k) :: st)) rfl rfl (hb hby hd)
  rw [(idx_of hj).2] at W
  have S' := S.put W (ob_set (a0 := a0) A hs hf EA OV W (fits_nar_byte x))
  rw [← e'] at S'
  exact (h p l e s m args below meth c T' _ X' C S' (by simpa using E) (Fr.snoc X' F (Nat.le_add_right _ _))).back st'
theorem go_aastore {k k' i : Nat} {j : Int32} {Cn : String} {vs us : List Value} {K : GLay} (hd : Ins M pc .aastore 1 pc') (hH : H[k]? = some (.inr (.object Cn, vs))) (hH' : H[k']? = some (.inl (K, us))) (hC : K.1 = Cn) (hj : j.toInt = (i : Int)) (hi : (vs[i]?).isSome = true) (h : Go Z a0 n0 M R Q pc' L st (H.set k (.inr (.object Cn, vs.set i (.ref (n0 + k'))))) ce sl) : Go Z a0 n0 M R Q pc L (.ref (n0 + k') :: .int j :: .ref (n0 + k) :: st) H ce sl := by
  obtain ⟨hd, rfl⟩ := hd
  subst hC
  intro p l e s m args below meth c T locs X C S E F
  obtain ⟨hx, hZ, hby, hml, hret, hlk, hown, hnm⟩ := id C
  obtain ⟨cl, A, hs, hf, EA, OV⟩ := S.2.2.2 k _ hH
  obtain ⟨-, EX, -⟩ := S.2.2.2 k' _ hH'
  obtain ⟨old, hold⟩ := Option.isSome_iff_exists.mp hi
  obtain ⟨g1, -⟩ := idx_in' hj hs hold
  obtain ⟨T', h', X', e', W, st'⟩ := stR X hx hZ rfl A g1 rfl (Sto.of A (OV _ rfl) (Ins.self EX)) (g := mkF m pc L.toArray (.ref (n0 + k') :: .int j :: .ref (n0 + k) :: st)) rfl rfl (hb hby hd)
  rw [(idx_of hj).2] at W
  have S' := S.put W (ob_set (a0 := a0) A hs hf EA OV W rfl)
  rw [← e'] at S'
  exact (h p l e s m args below meth c T' _ X' C S' (by simpa using E) (Fr.snoc X' F (Nat.le_add_right _ _))).back st'
theorem go_ldc {idx : Nat} {v : Int32} (hd : Ins M pc (.ldc idx) 2 pc') (w : (Jvm.Cond.constant M.1.cls idx v).before a0 Z = true) (h : Go Z a0 n0 M R Q pc' L (.int v :: st) H ce sl) : Go Z a0 n0 M R Q pc L st H ce sl := by
  obtain ⟨hd, rfl⟩ := hd
  intro p l e s m args below meth c T locs X C S E F
  obtain ⟨hx, hZ, hby, hml, hret, hlk, hown, hnm⟩ := id C
  exact (h p l e s m args below meth c T _ X C S E F).back (X.ldcInt hx hown (mvT hZ w) (g := mkF m pc L.toArray st) rfl (hb hby hd))
theorem go_ldc2 {idx : Nat} {v : Int64} (hd : Ins M pc (.ldc2_w idx) 3 pc') (w : (Jvm.Cond.constantLong M.1.cls idx v).before a0 Z = true) (h : Go Z a0 n0 M R Q pc' L (.long v :: st) H ce sl) : Go Z a0 n0 M R Q pc L st H ce sl := by
  obtain ⟨hd, rfl⟩ := hd
  intro p l e s m args below meth c T locs X C S E F
  obtain ⟨hx, hZ, hby, hml, hret, hlk, hown, hnm⟩ := id C
  exact (h p l e s m args below meth c T _ X C S E F).back (X.ldc2Long hx hown (mvT hZ w) (g := mkF m pc L.toArray st) rfl (hb hby hd))
theorem go_getstatic {idx : Nat} {O n d : String} {v : Value} (hd : Ins M pc (.getstatic idx) 3 pc') (w : (Jvm.Cond.fieldLink M.1.cls idx O n d).before a0 Z = true) (hS : Sta Z Z.heap O n d v) (h : Go Z a0 n0 M R Q pc' L (v :: st) H ce sl) : Go Z a0 n0 M R Q pc L st H ce sl := by
  obtain ⟨hd, rfl⟩ := hd
  intro p l e s m args below meth c T locs X C S E F
  obtain ⟨hx, hZ, hby, hml, hret, hlk, hown, hnm⟩ := id C
  obtain ⟨T', X', e', st'⟩ := getS X hx hZ (host := "") hown w Via.refl rfl (hS.ext S.2.1) (g := mkF m pc L.toArray st) rfl (hb hby hd)
  exact (h p l e s m args below meth c T' _ X' C (by rw [e']; exact S) E F).back st'
theorem go_checkcastArr {idx k : Nat} {Kn : String} {ty : FieldType} {vs : List Value} (hd : Ins M pc (.checkcast idx) 3 pc') (w : (Jvm.Cond.classLink M.1.cls idx Kn).before a0 Z = true) (hH : H[k]? = some (.inr (ty, vs))) (hK : "[" ++ ty.toString = Kn) (h : Go Z a0 n0 M R Q pc' L (.ref (n0 + k) :: st) H ce sl) : Go Z a0 n0 M R Q pc L (.ref (n0 + k) :: st) H ce sl := by
  obtain ⟨hd, rfl⟩ := hd
  subst hK
  intro p l e s m args below meth c T locs X C S E F
  obtain ⟨hx, hZ, hby, hml, hret, hlk, hown, hnm⟩ := id C
  obtain ⟨cl, A, hs, hf, EA, OV⟩ := S.2.2.2 k _ hH
  obtain ⟨T', X', e', st'⟩ := castY X hx hZ hown w rfl (Ins.self EA) (g := mkF m pc L.toArray (.ref (n0 + k) :: st)) rfl rfl (hb hby hd)
  exact (h p l e s m args below meth c T' _ X' C (by rw [e']; exact S) E F).back st'
theorem go_initO {idx : Nat} {a : Addr} (hd : Ins M pc (.invokespecial idx) 3 pc') (w1 : (Jvm.Cond.methodLink M.1.cls idx Lib.objectInit).before a0 Z = true) (w2 : (Jvm.Cond.instanceMethod Lib.objectInit).before a0 Z = true) (w3 : (Jvm.Cond.code Lib.objectInit object_method_1_code 1 none).before a0 Z = true) (hL : L.length = M.2.2.1) (hf : 1 ≤ R.frames) (hl : (st.map fun v => v.category).sum + 12 ≤ R.locals)
    (h : Go Z a0 n0 M R Q pc' L st H ce sl) : Go Z a0 n0 M R Q pc L (.ref a :: st) H ce sl := by
  obtain ⟨hd, rfl⟩ := hd
  intro p l e s m args below meth c T locs X C S E F
  obtain ⟨hx, hZ, hby, hml, hret, hlk, hown, hnm⟩ := id C
  obtain ⟨T', X', e', st'⟩ := initO X hx hZ hown w1 w2 w3 rfl (g := mkF m pc L.toArray (.ref a :: st)) rfl (by simpa [hml] using hL) rfl (hb hby hd) hf (W := (st.map fun v => v.category).sum) (by simp) hl
  exact (h p l e s m args below meth c T' _ X' C (by rw [e']; exact S) E F).back st'
theorem fin_of {p : Program} {l : Launch} {e : Env} {s : State} {m : MethodId} {args : Array Value} {below : List Frame} {meth : Method} {c : Code} {T : State} {locs : List Loc} {v : Option Value} {S0 : State} (X : Stand p l e R s m args below meth c T locs ce sl) (hlk : meth.locks = false) (hv : meth.sig.returnType = none → v = none) (S : Sat Z a0 n0 T.heap H) (F : Fr n0 locs) (hc : ce ≤ R.cells) (hs : sl ≤ R.slots) (hQ : Q v H)
    (st : ∀ fs, (∀ (f : JFrame) (acts : List Action), f.method = m → f.locked = none → f.entered = [] → (doReturn e (T.setTop f) acts v).1 = T.setFrames fs) → Steps p.tables e below S0 (T.setFrames fs)) : End Z a0 n0 R Q p e s below S0 := by
  obtain ⟨fs, hr, hrun, hended, hW, hsame⟩ := X.leave (v := v) hv hlk
  exact ⟨_, _, st fs hr, hrun, hended, v, locs, rfl, ⟨H, hQ, S, F⟩, ⟨v, rfl⟩, hW, hsame.mono hc hs⟩
theorem go_ireturn {x : Int32} {t : FieldType} (hd : Ins M pc .ireturn 1 pc') (hr : M.2.2.2 = some t) (hn : narrow t (.int x) = .int x) (ht : t = .int ∨ t = .boolean ∨ t = .byte ∨ t = .char ∨ t = .short) (hc : ce ≤ R.cells) (hs : sl ≤ R.slots) (hQ : Q (some (.int x)) H) : Go Z a0 n0 M R Q pc L (.int x :: st) H ce sl := by
  obtain ⟨hd, rfl⟩ := hd
  intro p l e s m args below meth c T locs X C S E F
  obtain ⟨hx, hZ, hby, hml, hret, hlk, hown, hnm⟩ := id C
  exact fin_of X hlk (fun q => by rw [hret, hr] at q; cases q) S F hc hs hQ fun fs hl => retOut X hx (hret.trans hr) hn (Or.inl ⟨rfl, ht, x, rfl⟩) (hb hby hd) hl
theorem go_lreturn {x : Int64} (hd : Ins M pc .lreturn 1 pc') (hr : M.2.2.2 = some .long) (hc : ce ≤ R.cells) (hs : sl ≤ R.slots) (hQ : Q (some (.long x)) H) : Go Z a0 n0 M R Q pc L (.long x :: st) H ce sl := by
  obtain ⟨hd, rfl⟩ := hd
  intro p l e s m args below meth c T locs X C S E F
  obtain ⟨hx, hZ, hby, hml, hret, hlk, hown, hnm⟩ := id C
  exact fin_of X hlk (fun q => by rw [hret, hr] at q; cases q) S F hc hs hQ fun fs hl => retOut X hx (hret.trans hr) rfl (Or.inr (Or.inl ⟨rfl, rfl, x, rfl⟩)) (hb hby hd) hl
theorem go_areturn {w : Value} {t : FieldType} (hd : Ins M pc .areturn 1 pc') (hr : M.2.2.2 = some t) (ht : t.isReference = true) (hw : w.isRef = true) (hn : narrow t w = w) (hc : ce ≤ R.cells) (hs : sl ≤ R.slots) (hQ : Q (some w) H) : Go Z a0 n0 M R Q pc L (w :: st) H ce sl := by
  obtain ⟨hd, rfl⟩ := hd
  intro p l e s m args below meth c T locs X C S E F
  obtain ⟨hx, hZ, hby, hml, hret, hlk, hown, hnm⟩ := id C
  exact fin_of X hlk (fun q => by rw [hret, hr] at q; cases q) S F hc hs hQ fun fs hl => retOut X hx (hret.trans hr) hn (Or.inr (Or.inr (Or.inr (Or.inr ⟨rfl, ht, hw⟩)))) (hb hby hd) hl
theorem go_return (hd : Ins M pc .return_ 1 pc') (hr : M.2.2.2 = none) (hc : ce ≤ R.cells) (hs : sl ≤ R.slots) (hQ : Q none H) : Go Z a0 n0 M R Q pc L [] H ce sl := by
  obtain ⟨hd, rfl⟩ := hd
  intro p l e s m args below meth c T locs X C S E F
  obtain ⟨hx, hZ, hby, hml, hret, hlk, hown, hnm⟩ := id C
  exact fin_of X hlk (fun q => rfl) S F hc hs hQ fun fs hl => X.returnOut hx (hret.trans hr) (hb hby hd) hl
end Heap
section More
variable {Z : State} {a0 : Array Value} {n0 : Nat} {M : GM} {R : Room} {Q : Option Value → List GObj → Prop} {pc pc' : Nat} {L : List Slot} {st : List Value} {H : List GObj} {ce sl : Nat}
theorem go_clone {idx k : Nat} {ad : String} {ty : FieldType} {vs : List Value} (cap : Nat) (hd : Ins M pc (.invokevirtual idx) 3 pc') (w1 : (Jvm.Cond.methodLink M.1.cls idx ⟨ad, "clone", "()Ljava/lang/Object;"⟩).before a0 Z = true) (w2 : (Jvm.Cond.sameMethod ad "java/lang/Object" "clone" "()Ljava/lang/Object;").before a0 Z = true) (w3 : (Jvm.Cond.native ⟨"java/lang/Object", "clone", "()Ljava/lang/Object;"⟩).before a0 Z = true)
    (w4 : (Jvm.Cond.instanceMethod ⟨"java/lang/Object", "clone", "()Ljava/lang/Object;"⟩).before a0 Z = true) (w5 : (Jvm.Cond.selects ad ⟨ad, "clone", "()Ljava/lang/Object;"⟩ ⟨"java/lang/Object", "clone", "()Ljava/lang/Object;"⟩).before a0 Z = true) (w6 : (Jvm.Cond.castable ad "java/lang/Cloneable").before a0 Z = true)
    (hH : H[k]? = some (.inr (ty, vs))) (had : "[" ++ ty.toString = ad) (hL : L.length = M.2.2.1) (hf : 1 ≤ R.frames) (hl : (st.map fun v => v.category).sum + 14 ≤ R.locals) (hcap : vs.length ≤ cap) {k' : Nat} (hk : H.length = k') (hc : ce + 1 ≤ R.cells) (hs : sl + cap ≤ R.slots)
    (h : Go Z a0 n0 M R Q pc' L (.ref (n0 + k') :: st) (H ++ [.inr (ty, vs)]) (ce + 1) (sl + cap)) : Go Z a0 n0 M R Q pc L (.ref (n0 + k) :: st) H ce sl := by
  obtain ⟨hd, rfl⟩ := hd
  subst hk had
  intro p l e s m args below meth c T locs X C S E F
  obtain ⟨hx, hZ, hby, hml, hret, hlk, hown, hnm⟩ := id C
  obtain ⟨cl, A, hsl, hfit, EA, OV⟩ := S.2.2.2 k _ hH
  have FC : FitC Z cl := fitC_of A fun i hi v hv => by
    rw [hsl] at hv
    exact hfit v (List.mem_of_getElem? (by simpa using hv))
  obtain ⟨T', h', X', e', EX, A', EA', st'⟩ := cloneA X hx hZ hown w1 w2 w3 w4 w5 w6 rfl A EA FC (g := mkF m pc L.toArray (.ref (n0 + k) :: st)) rfl (by simpa [hml] using hL) rfl (hb hby hd) hf (W := (st.map fun v => v.category).sum) (by simp) hl (cap := cap) (by rw [hsl]; simpa using hcap) hc hs
  have hsz := size_one X' e' S E A'.1
  have S' := S.push EX hsz (show Ob Z a0 h' T.heap.size (.inr (ty, vs)) from ⟨_, A', hsl, hfit, EA', OV⟩)
  rw [← e'] at S'
  refine (h p l e s m args below meth c T' _ X' C S' (by simp; omega) F).back ?_
  rw [← S.2.2.1]; exact st'
theorem go_dconst1 (hd : Ins M pc (.dconst 1) 1 pc') (h : Go Z a0 n0 M R Q pc' L (.double FP.dconst1 :: st) H ce sl) : Go Z a0 n0 M R Q pc L st H ce sl := by
  obtain ⟨hd, rfl⟩ := hd
  refine go_pure (fun p e m below c T t hA hx hy k => ?_) h
  have hd' := hb hy hd
  jvm_step hA [hA.top, hx, hd', dconst.wp_sem]
  exact k
theorem go_dloadN {k : Fin 4} {v : UInt64} (hd : Ins M pc (.dload_n k) 1 pc') (hl : L[k.val]? = some (.val (.double v))) (h : Go Z a0 n0 M R Q pc' L (.double v :: st) H ce sl) : Go Z a0 n0 M R Q pc L st H ce sl := by
  obtain ⟨hd, rfl⟩ := hd
  refine go_pure (fun p e m below c T t hA hx hy k' => ?_) h
  have hd' := hb hy hd
  have hl' : L.toArray[k.val]? = some (.val (.double v)) := by simpa using hl
  jvm_step hA [hA.top, hx, hd', hl']
  exact k'
end More
section Calls
variable {Z : State} {a0 : Array Value} {n0 : Nat} {M : GM} {R : Room} {Q : Option Value → List GObj → Prop} {pc pc' : Nat} {L : List Slot} {st : List Value} {H : List GObj} {ce sl : Nat}
/-- the contract of a body: from these arguments and these objects it comes back, and what it leaves meets Q -/
def MetW (Z : State) (a0 : Array Value) (n0 : Nat) (M : GM) (ws : List Jvm.Cond) (R : Room) (as : List Value) (H : List GObj) (Q : Option Value → List GObj → Prop) : Prop :=
  ∀ (l : Launch) (h : Heap), Sat Z a0 n0 h H → MetFree l M.1 (head1 (Jvm.Cond.code M.1 M.2.1 M.2.2.1 M.2.2.2 :: ws) R) (fun a U => a = as.toArray ∧ Z.Warmed39 U.vm ∧ U.heap = h) (fun _ _ _ _ _ => True)
    (fun _ U o U' => ∃ v L, o = .returned v ∧ (∃ H', Q v H' ∧ Sat Z a0 n0 U'.heap H' ∧ Fr n0 L) ∧ FrameEnd U o U' L R.cells R.slots)
def locsF (as : List Value) : List Slot := as.flatMap fun v => if v.category = 2 then [.val v, .second] else [.val v]
def locsOf (as : List Value) (n : Nat) : List Slot := locsF as ++ List.replicate (n - (locsF as).length) .unset
theorem args_eq (as : List Value) (n : Nat) : argsToLocals as.toArray n = (locsOf as n).toArray := by
  have h : ∀ (as : List Value) (acc : Array Slot), as.foldl (fun acc v => if v.category = 2 then (acc.push (.val v)).push .second else acc.push (.val v)) acc = acc ++ (locsF as).toArray := by
    intro as
    induction as with
    | nil => intro acc; simp [locsF]
    | cons v t ih =>
      intro acc
      rw [List.foldl_cons, ih]
      by_cases c : v.category = 2 <;> simp [locsF, c]
  have h' := h as #[]
  unfold argsToLocals
  simp only [List.foldl_toArray', List.size_toArray]
  rw [h']
  simp [locsOf]
theorem MetW.intro {ws : List Jvm.Cond} {as : List Value} (L : List Slot) (hp : plainFor M.1 = true) (he : locsOf as M.2.2.1 = L) (h : Go Z a0 n0 M R Q 0 L [] H 0 0) : MetW Z a0 n0 M ws R as H Q := by
  intro l h0 S
  refine MetFree.of_bodySF hp hisR ?_
  intro p e s m args below meth c s₁ Bd hml0 hP hK
  obtain ⟨rfl, hZ, hh⟩ := hP
  have X0 : Stand p l e R s m as.toArray below meth c s₁ [] 0 0 := Stand.of_body Bd
  have e0 : s₁.heap = h0 := by rw [← hh, Bd.state]; rfl
  have hown := findClass_of_methodNamed Bd.named
  have hnm := (name_of_methodNamed Bd.named Bd.method).1
  obtain ⟨s₂, o, h1, h2, h3, v, L', h4, h5, h6⟩ := h p l e s m _ below meth c s₁ [] X0 ⟨Bd.exec, hZ, Bd.bytes, hml0, Bd.returns, Bd.notSynchronized, hown, hnm⟩ (by rw [e0]; exact S) (by rw [hh]; exact S.2.2.1) (Fr.nil _)
  have ef : entryFrame m as.toArray M.2.2.1 = mkF m 0 L.toArray [] := by simp only [entryFrame, mkF, args_eq, he]
  exact ⟨s₂, o, castTop ef h1, h2, h3, v, L', h4, h5, h6⟩
abbrev Met (Z : State) (a0 : Array Value) (n0 : Nat) (y : GM) (fr lo k j : Nat) (as : List Value) (H : List GObj) (Q : Option Value → List GObj → Prop) : Prop := MetW Z a0 n0 y [] ({ frames := fr, cells := k, slots := j, locals := lo } : Room) as H Q
theorem Met.mono {y : GM} {fr lo k j : Nat} {as : List Value} {Q Q' : Option Value → List GObj → Prop} (h : Met Z a0 n0 y fr lo k j as H Q) (hq : ∀ v H', Q v H' → Q' v H') : Met Z a0 n0 y fr lo k j as H Q' := by
  intro l h0 S
  exact (h l h0 S).mono (fun _ _ q => q) (fun _ _ _ _ _ q => q) fun _ _ _ _ _ ⟨v, L, h1, ⟨H', h2, h3⟩, h4⟩ => ⟨v, L, h1, ⟨H', hq v H' h2, h3⟩, h4⟩
def pushV : Option Value → List Value → List Value
  | none, r => r
  | some v, r => v :: r
theorem pushV_eq (v : Option Value) (r : List Value) : pushV v r = v.toList ++ r := by cases v <;> rfl
abbrev Eq1 (r : Value) (H1 : List GObj) : Option Value → List GObj → Prop := fun v H' => v = some r ∧ H' = H1
abbrev Eq0 (H1 : List GObj) : Option Value → List GObj → Prop := fun v H' => v = none ∧ H' = H1
theorem retE {r : Value} {H1 : List GObj} {rest : List Value} {k j : Nat} (h1 : H1.length = H.length + k) (h : Go Z a0 n0 M R Q pc' L (r :: rest) H1 (ce + k) (sl + j)) : ∀ v H', Eq1 r H1 v H' → H'.length = H.length + k ∧ Go Z a0 n0 M R Q pc' L (pushV v rest) H' (ce + k) (sl + j) := by
  rintro _ _ ⟨rfl, rfl⟩; exact ⟨h1, h⟩
theorem retV {H1 : List GObj} {rest : List Value} {k j : Nat} (h1 : H1.length = H.length + k) (h : Go Z a0 n0 M R Q pc' L rest H1 (ce + k) (sl + j)) : ∀ v H', Eq0 H1 v H' → H'.length = H.length + k ∧ Go Z a0 n0 M R Q pc' L (pushV v rest) H' (ce + k) (sl + j) := by
  rintro _ _ ⟨rfl, rfl⟩; exact ⟨h1, h⟩
def noHandle (c : String) : Bool := decide (c ≠ "java/lang/invoke/MethodHandle" ∧ c ≠ "java/lang/invoke/VarHandle")
theorem go_static {y : GM} {fr lo k j idx : Nat} {as rest stk : List Value} {ps : List FieldType} {r : Option FieldType} {Q' : Option Value → List GObj → Prop} (hd : Ins M pc (.invokestatic idx) 3 pc') (hm : Met Z a0 n0 y fr lo k j as H Q')
    (w1 : (Jvm.Cond.methodLink M.1.cls idx y.1).before a0 Z = true) (w2 : (Jvm.Cond.static y.1).before a0 Z = true) (w3 : (Jvm.Cond.initialized y.1.cls).before a0 Z = true) (w4 : (Jvm.Cond.code y.1 y.2.1 y.2.2.1 y.2.2.2).before a0 Z = true) (hy : noHandle y.1.cls = true) (hpd : parseMethodDescriptor y.1.desc = some ⟨ps, r⟩) (hlen : as.length = ps.length) (hst : stk = as.reverse ++ rest) (hL : L.length = M.2.2.1)
    (hfr : fr + 1 ≤ R.frames) (hlo : (rest.map fun v => v.category).sum + (y.2.2.1 + 11) + lo ≤ R.locals) (hk : ce + k ≤ R.cells) (hj : sl + j ≤ R.slots)
    (h : ∀ v H', Q' v H' → H'.length = H.length + k ∧ Go Z a0 n0 M R Q pc' L (pushV v rest) H' (ce + k) (sl + j)) : Go Z a0 n0 M R Q pc L stk H ce sl := by
  obtain ⟨hd, rfl⟩ := hd
  subst hst
  intro p l e s m args below meth c T locs X C S E F
  obtain ⟨hx, hZ, hby, hml, hret, hlk, hown, hnm⟩ := id C
  obtain ⟨v, vm1, ⟨T', L', k', n'⟩, -, X', ⟨Lc, hQ', l', y', z'⟩, st'⟩ := Jvm.LawKit.callS X hx (y := y.1) hown (mvT hZ w1) (mvT hZ w2) (mvT hZ w3) (mvT hZ w4) (of_decide_eq_true hy)
    (backOf (W := (rest.map fun v => v.category).sum) (Q := fun v h' L => ∃ H', Q' v H' ∧ Sat Z a0 n0 h' H' ∧ Fr n0 L) (hm l T.heap S) hZ w4 w3 hfr hlo) (g := mkF m pc L.toArray (as.reverse ++ rest)) rfl (by simpa [hml] using hL) (argsL := as) (rest := rest) (lenOf hpd hlen) rfl (by simp) (hb hby hd) (fun _ _ => ⟨rfl, rfl, hk, hj⟩)
  dsimp only [Pt.U, Pt.locs, Pt.cells, Pt.slots] at X' l' y' z' st' hQ'
  subst l' y' z'
  obtain ⟨H', q, S', N⟩ := hQ'
  obtain ⟨hlen', g⟩ := h v H' q
  rw [pushV_eq] at g
  exact (g p l e s m args below meth c T' _ X' C S' (by omega) (Fr.app F N)).back st'
theorem go_special {y : GM} {fr lo k j idx : Nat} {a : Addr} {as rest stk : List Value} {ps : List FieldType} {r : Option FieldType} {Q' : Option Value → List GObj → Prop} (hd : Ins M pc (.invokespecial idx) 3 pc') (hm : Met Z a0 n0 y fr lo k j (.ref a :: as) H Q')
    (w1 : (Jvm.Cond.methodLink M.1.cls idx y.1).before a0 Z = true) (w2 : (Jvm.Cond.instanceMethod y.1).before a0 Z = true) (w3 : (Jvm.Cond.initialized y.1.cls).before a0 Z = true) (w4 : (Jvm.Cond.code y.1 y.2.1 y.2.2.1 none).before a0 Z = true) (hy1 : y.1.name = "<init>") (hr : y.2.2.2 = none) (hy : noHandle y.1.cls = true) (hpd : parseMethodDescriptor y.1.desc = some ⟨ps, r⟩) (hlen : as.length = ps.length) (hst : stk = as.reverse ++ .ref a :: rest) (hL : L.length = M.2.2.1)
    (hfr : fr + 1 ≤ R.frames) (hlo : (rest.map fun v => v.category).sum + (y.2.2.1 + 11) + lo ≤ R.locals) (hk : ce + k ≤ R.cells) (hj : sl + j ≤ R.slots)
    (h : ∀ v H', Q' v H' → H'.length = H.length + k ∧ Go Z a0 n0 M R Q pc' L (pushV v rest) H' (ce + k) (sl + j)) : Go Z a0 n0 M R Q pc L stk H ce sl := by
  obtain ⟨hd, rfl⟩ := hd
  subst hst
  intro p l e s m args below meth c T locs X C S E F
  obtain ⟨hx, hZ, hby, hml, hret, hlk, hown, hnm⟩ := id C
  have w4' : (Jvm.Cond.code y.1 y.2.1 y.2.2.1 y.2.2.2).before a0 Z = true := by rw [hr]; exact w4
  obtain ⟨v, vm1, ⟨T', L', k', n'⟩, -, X', ⟨Lc, hQ', l', y', z'⟩, st'⟩ := X.specialBack hx (y := y.1) hy1 hown (mvT hZ w1) (mvT hZ w2) (mvT hZ w4) (of_decide_eq_true hy)
    (backOf (W := (rest.map fun v => v.category).sum) (Q := fun v h' L => ∃ H', Q' v H' ∧ Sat Z a0 n0 h' H' ∧ Fr n0 L) (hm l T.heap S) hZ w4' w3 hfr hlo) (g := mkF m pc L.toArray (as.reverse ++ .ref a :: rest)) rfl (by simpa [hml] using hL) (Steps.refl _) (a := a) (argsL := as) (rest := rest) (lenOf hpd hlen) rfl (by simp) (hb hby hd) (fun _ _ => ⟨rfl, rfl, hk, hj⟩)
  dsimp only [Pt.U, Pt.locs, Pt.cells, Pt.slots] at X' l' y' z' st' hQ'
  subst l' y' z'
  obtain ⟨H', q, S', N⟩ := hQ'
  obtain ⟨hlen', g⟩ := h v H' q
  rw [pushV_eq] at g
  exact (g p l e s m args below meth c T' _ X' C S' (by omega) (Fr.app F N)).back fun t k => st'.trans k
theorem go_virtual {y : GM} {fr lo k j idx i : Nat} {K : GLay} {vs as rest stk : List Value} {ps : List FieldType} {r : Option FieldType} {Q' : Option Value → List GObj → Prop} (hd : Ins M pc (.invokevirtual idx) 3 pc') (hm : Met Z a0 n0 y fr lo k j (.ref (n0 + i) :: as) H Q') (hH : H[i]? = some (.inl (K, vs)))
    (w1 : (Jvm.Cond.methodLink M.1.cls idx y.1).before a0 Z = true) (w2 : (Jvm.Cond.declares y.1).before a0 Z = true) (w5 : (Jvm.Cond.selects K.1 y.1 y.1).before a0 Z = true) (w6 : (Jvm.Cond.instanceMethod y.1).before a0 Z = true) (w3 : (Jvm.Cond.initialized y.1.cls).before a0 Z = true) (w4 : (Jvm.Cond.code y.1 y.2.1 y.2.2.1 y.2.2.2).before a0 Z = true) (hy : noHandle y.1.cls = true) (hpd : parseMethodDescriptor y.1.desc = some ⟨ps, r⟩) (hlen : as.length = ps.length) (hst : stk = as.reverse ++ .ref (n0 + i) :: rest) (hL : L.length = M.2.2.1)
    (hfr : fr + 1 ≤ R.frames) (hlo : (rest.map fun v => v.category).sum + (y.2.2.1 + 11) + lo ≤ R.locals) (hk : ce + k ≤ R.cells) (hj : sl + j ≤ R.slots)
    (h : ∀ v H', Q' v H' → H'.length = H.length + k ∧ Go Z a0 n0 M R Q pc' L (pushV v rest) H' (ce + k) (sl + j)) : Go Z a0 n0 M R Q pc L stk H ce sl := by
  obtain ⟨hd, rfl⟩ := hd
  subst hst
  intro p l e s m args below meth c T locs X C S E F
  obtain ⟨hx, hZ, hby, hml, hret, hlk, hown, hnm⟩ := id C
  obtain ⟨cq, kq, q1, q2, q3⟩ := isOf (T := T) hZ rfl (S.2.2.2 i _ hH).2.1
  obtain ⟨v, vm1, ⟨T', L', k', n'⟩, -, X', ⟨Lc, hQ', l', y', z'⟩, st'⟩ := X.virtualBack hx (y := y.1) (z := y.1) hown (mvT hZ w1) (mvT hZ w2) (notFace_of_selects (args := #[]) (mvT hZ w5)) (mvT hZ w5) (mvT hZ w6) (of_decide_eq_true hy)
    (backOf (W := (rest.map fun v => v.category).sum) (Q := fun v h' L => ∃ H', Q' v H' ∧ Sat Z a0 n0 h' H' ∧ Fr n0 L) (hm l T.heap S) hZ w4 w3 hfr hlo) q1 q3 (g := mkF m pc L.toArray (as.reverse ++ .ref (n0 + i) :: rest)) rfl (by simpa [hml] using hL) (Steps.refl _) (argsL := as) (rest := rest) (lenOf hpd hlen) rfl (by simp) (hb hby hd) (fun _ _ => ⟨rfl, rfl, hk, hj⟩)
  dsimp only [Pt.U, Pt.locs, Pt.cells, Pt.slots] at X' l' y' z' st' hQ'
  subst l' y' z'
  obtain ⟨H', q, S', N⟩ := hQ'
  obtain ⟨hlen', g⟩ := h v H' q
  rw [pushV_eq] at g
  exact (g p l e s m args below meth c T' _ X' C S' (by omega) (Fr.app F N)).back fun t k => st'.trans k
/-- a private method by invokevirtual: its class is an ordinary one ('instantiable'), so no 'selects' word is wanted -/
theorem go_private {y : GM} {fr lo k j idx i nn : Nat} {o : GObj} {as rest stk : List Value} {ps : List FieldType} {r : Option FieldType} {Q' : Option Value → List GObj → Prop} (hd : Ins M pc (.invokevirtual idx) 3 pc') (hm : Met Z a0 n0 y fr lo k j (.ref (n0 + i) :: as) H Q') (hH : H[i]? = some o)
    (w1 : (Jvm.Cond.methodLink M.1.cls idx y.1).before a0 Z = true) (w5 : (Jvm.Cond.instantiable y.1.cls nn).before a0 Z = true) (w6 : (Jvm.Cond.instanceMethod y.1).before a0 Z = true) (w7 : (Jvm.Cond.privateMethod y.1).before a0 Z = true) (w3 : (Jvm.Cond.initialized y.1.cls).before a0 Z = true) (w4 : (Jvm.Cond.code y.1 y.2.1 y.2.2.1 y.2.2.2).before a0 Z = true) (hy : noHandle y.1.cls = true) (hpd : parseMethodDescriptor y.1.desc = some ⟨ps, r⟩) (hlen : as.length = ps.length) (hst : stk = as.reverse ++ .ref (n0 + i) :: rest) (hL : L.length = M.2.2.1)
    (hfr : fr + 1 ≤ R.frames) (hlo : (rest.map fun v => v.category).sum + (y.2.2.1 + 11) + lo ≤ R.locals) (hk : ce + k ≤ R.cells) (hj : sl + j ≤ R.slots)
    (h : ∀ v H', Q' v H' → H'.length = H.length + k ∧ Go Z a0 n0 M R Q pc' L (pushV v rest) H' (ce + k) (sl + j)) : Go Z a0 n0 M R Q pc L stk H ce sl := by
  obtain ⟨hd, rfl⟩ := hd
  subst hst
  intro p l e s m args below meth c T locs X C S E F
  obtain ⟨hx, hZ, hby, hml, hret, hlk, hown, hnm⟩ := id C
  obtain ⟨cell, hcell, hobj⟩ : ∃ cl : Cell, T.heap[n0 + i]? = some cl ∧ ∀ q, cl.vm ≠ .statics q := by
    have := S.2.2.2 i _ hH
    rcases o with ⟨K, vs⟩ | ⟨ty, vs⟩
    · exact this.2.1.cell
    · obtain ⟨c', A, -, -, EA, -⟩ := this; exact EA.cell
  obtain ⟨mk, methM, hnamed, hmethM, hstM, habM⟩ := Jvm.Cond.instanceMethod_spec (mvT (args := args) hZ w6)
  obtain ⟨methM', cM, hmethM', -, -, -, -, -, -, hsigM⟩ := Jvm.Cond.code_spec hnamed (mvT (args := args) hZ w4)
  cases hmethM.symm.trans hmethM'
  obtain ⟨c5, k5, i1, i2, i3, i4, -⟩ := Jvm.Cond.instantiable_spec (mvT (args := args) hZ w5)
  have hcl := findClass_of_methodNamed hnamed
  cases i1.symm.trans hcl
  have hni : k5.isInterface = false := by simp only [Bool.or_eq_false_iff] at i4; exact i4.1
  have hselP : selectMethod e.platform s.vm cell.cls mk = .method mk := selectMethod_private hmethM (Jvm.Cond.privateMethod_at (mvP hZ w7 (args := #[])) mk methM hnamed hmethM)
  have hK := backOf (p := p) (e := e) (below := below) (args := args) (len := 3) (W := (rest.map fun v => v.category).sum) (Q := fun v h' L => ∃ H', Q' v H' ∧ Sat Z a0 n0 h' H' ∧ Fr n0 L) (hm l T.heap S) hZ w4 w3 hfr hlo
  obtain ⟨vm₁, X₁, hstep₁⟩ := X.invokevirtual hx hown (mvT hZ w1) hnamed hmethM hstM i2 hni (of_decide_eq_true hy) (a := n0 + i) (cell := cell) hcell hobj hselP hmethM habM i2 hni (g := mkF m pc L.toArray (as.reverse ++ .ref (n0 + i) :: rest)) rfl (argsL := as) (rest := rest) (lenOf hpd hlen _ hsigM) rfl (hb hby hd)
  obtain ⟨v, ⟨T', L', k', n'⟩, X', ⟨Lc, hQ', l', y', z'⟩, st'⟩ := hK m meth c ⟨T.setVm vm₁, locs, ce, sl⟩ (mkF m pc L.toArray rest) (.invokevirtual idx) mk (.ref (n0 + i) :: as).toArray X₁ rfl (by simpa [hml] using hL) (hb hby hd) (by simp) (X₁.named hnamed) ⟨rfl, rfl, hk, hj⟩
  dsimp only [Pt.U, Pt.locs, Pt.cells, Pt.slots] at X' l' y' z' st' hQ'
  subst l' y' z'
  obtain ⟨H', q, S', N⟩ := hQ'
  obtain ⟨hlen', g⟩ := h v H' q
  rw [pushV_eq] at g
  refine (g p l e s m args below meth c T' _ X' C S' (by omega) (Fr.app F N)).back fun t k => ?_
  exact hstep₁ _ fun acts => by rw [doInvoke_state]; exact st'.trans k
end Calls
def M0 : GM := (x, code, maxLocals, ret)
theorem i0_0 : Ins M0 0 (.iconst 3) 1 1 := ⟨at_0, rfl⟩
theorem i0_1 : Ins M0 1 (.newarray .long) 2 3 := ⟨at_1, rfl⟩
theorem i0_3 : Ins M0 3 (.dup) 1 4 := ⟨at_3, rfl⟩
theorem i0_4 : Ins M0 4 (.iconst 0) 1 5 := ⟨at_4, rfl⟩
theorem i0_5 : Ins M0 5 (.lload_n 0) 1 6 := ⟨at_5, rfl⟩
theorem i0_6 : Ins M0 6 (.lastore) 1 7 := ⟨at_6, rfl⟩
theorem i0_7 : Ins M0 7 (.dup) 1 8 := ⟨at_7, rfl⟩
theorem i0_8 : Ins M0 8 (.iconst 1) 1 9 := ⟨at_8, rfl⟩
theorem i0_9 : Ins M0 9 (.lload_n 2) 1 10 := ⟨at_9, rfl⟩
theorem i0_10 : Ins M0 10 (.lastore) 1 11 := ⟨at_10, rfl⟩
theorem i0_11 : Ins M0 11 (.dup) 1 12 := ⟨at_11, rfl⟩
theorem i0_12 : Ins M0 12 (.iconst 2) 1 13 := ⟨at_12, rfl⟩
theorem i0_13 : Ins M0 13 (.lload 4) 2 15 := ⟨at_13, rfl⟩
theorem i0_15 : Ins M0 15 (.lastore) 1 16 := ⟨at_15, rfl⟩
theorem i0_16 : Ins M0 16 (.astore 7) 2 18 := ⟨at_16, rfl⟩
theorem i0_18 : Ins M0 18 (.new 7) 3 21 := ⟨at_18, rfl⟩
theorem i0_21 : Ins M0 21 (.dup) 1 22 := ⟨at_21, rfl⟩
theorem i0_22 : Ins M0 22 (.aload 7) 2 24 := ⟨at_22, rfl⟩
theorem i0_24 : Ins M0 24 (.invokespecial 9) 3 27 := ⟨at_24, rfl⟩
theorem i0_27 : Ins M0 27 (.astore 8) 2 29 := ⟨at_27, rfl⟩
theorem i0_29 : Ins M0 29 (.iload 6) 2 31 := ⟨at_29, rfl⟩
theorem i0_31 : Ins M0 31 (.iconst 1) 1 32 := ⟨at_31, rfl⟩
theorem i0_32 : Ins M0 32 (.iand) 1 33 := ⟨at_32, rfl⟩
theorem i0_33 : Ins M0 33 (.ifCond .eq 9) 3 36 := ⟨at_33, rfl⟩
theorem i0_36 : Ins M0 36 (.aload 8) 2 38 := ⟨at_36, rfl⟩
theorem i0_38 : Ins M0 38 (.iconst 0) 1 39 := ⟨at_38, rfl⟩
theorem i0_39 : Ins M0 39 (.invokevirtual 12) 3 42 := ⟨at_39, rfl⟩
theorem i0_42 : Ins M0 42 (.iload 6) 2 44 := ⟨at_42, rfl⟩
theorem i0_44 : Ins M0 44 (.iconst 2) 1 45 := ⟨at_44, rfl⟩
theorem i0_45 : Ins M0 45 (.iand) 1 46 := ⟨at_45, rfl⟩
theorem i0_46 : Ins M0 46 (.ifCond .eq 9) 3 49 := ⟨at_46, rfl⟩
theorem i0_49 : Ins M0 49 (.aload 8) 2 51 := ⟨at_49, rfl⟩
theorem i0_51 : Ins M0 51 (.iconst 1) 1 52 := ⟨at_51, rfl⟩
theorem i0_52 : Ins M0 52 (.invokevirtual 12) 3 55 := ⟨at_52, rfl⟩
theorem i0_55 : Ins M0 55 (.iload 6) 2 57 := ⟨at_55, rfl⟩
theorem i0_57 : Ins M0 57 (.iconst 4) 1 58 := ⟨at_57, rfl⟩
theorem i0_58 : Ins M0 58 (.iand) 1 59 := ⟨at_58, rfl⟩
theorem i0_59 : Ins M0 59 (.ifCond .eq 9) 3 62 := ⟨at_59, rfl⟩
theorem i0_62 : Ins M0 62 (.aload 8) 2 64 := ⟨at_62, rfl⟩
theorem i0_64 : Ins M0 64 (.iconst 2) 1 65 := ⟨at_64, rfl⟩
theorem i0_65 : Ins M0 65 (.invokevirtual 12) 3 68 := ⟨at_65, rfl⟩
theorem i0_68 : Ins M0 68 (.aload 8) 2 70 := ⟨at_68, rfl⟩
theorem i0_70 : Ins M0 70 (.invokevirtual 16) 3 73 := ⟨at_70, rfl⟩
theorem i0_73 : Ins M0 73 (.aload 8) 2 75 := ⟨at_73, rfl⟩
theorem i0_75 : Ins M0 75 (.invokevirtual 19) 3 78 := ⟨at_75, rfl⟩
theorem i0_78 : Ins M0 78 (.ifCond .ne 5) 3 81 := ⟨at_78, rfl⟩
theorem i0_81 : Ins M0 81 (.iconst 0) 1 82 := ⟨at_81, rfl⟩
theorem i0_82 : Ins M0 82 (.ireturn) 1 83 := ⟨at_82, rfl⟩
theorem i0_83 : Ins M0 83 (.iload 6) 2 85 := ⟨at_83, rfl⟩
theorem i0_85 : Ins M0 85 (.iconst 3) 1 86 := ⟨at_85, rfl⟩
theorem i0_86 : Ins M0 86 (.iushr) 1 87 := ⟨at_86, rfl⟩
theorem i0_87 : Ins M0 87 (.ldc 23) 2 89 := ⟨at_87, rfl⟩
theorem i0_89 : Ins M0 89 (.iand) 1 90 := ⟨at_89, rfl⟩
theorem i0_90 : Ins M0 90 (.istore 9) 2 92 := ⟨at_90, rfl⟩
theorem i0_92 : Ins M0 92 (.iload 9) 2 94 := ⟨at_92, rfl⟩
theorem i0_94 : Ins M0 94 (.iconst 3) 1 95 := ⟨at_94, rfl⟩
theorem i0_95 : Ins M0 95 (.irem) 1 96 := ⟨at_95, rfl⟩
theorem i0_96 : Ins M0 96 (.istore 10) 2 98 := ⟨at_96, rfl⟩
theorem i0_98 : Ins M0 98 (.iload 10) 2 100 := ⟨at_98, rfl⟩
theorem i0_100 : Ins M0 100 (.iconst 1) 1 101 := ⟨at_100, rfl⟩
theorem i0_101 : Ins M0 101 (.iadd) 1 102 := ⟨at_101, rfl⟩
theorem i0_102 : Ins M0 102 (.iload 9) 2 104 := ⟨at_102, rfl⟩
theorem i0_104 : Ins M0 104 (.iconst 3) 1 105 := ⟨at_104, rfl⟩
theorem i0_105 : Ins M0 105 (.idiv) 1 106 := ⟨at_105, rfl⟩
theorem i0_106 : Ins M0 106 (.iconst 1) 1 107 := ⟨at_106, rfl⟩
theorem i0_107 : Ins M0 107 (.iand) 1 108 := ⟨at_107, rfl⟩
theorem i0_108 : Ins M0 108 (.iadd) 1 109 := ⟨at_108, rfl⟩
theorem i0_109 : Ins M0 109 (.iconst 3) 1 110 := ⟨at_109, rfl⟩
theorem i0_110 : Ins M0 110 (.irem) 1 111 := ⟨at_110, rfl⟩
theorem i0_111 : Ins M0 111 (.istore 11) 2 113 := ⟨at_111, rfl⟩
theorem i0_113 : Ins M0 113 (.iload 6) 2 115 := ⟨at_113, rfl⟩
theorem i0_115 : Ins M0 115 (.ldc 24) 2 117 := ⟨at_115, rfl⟩
theorem i0_117 : Ins M0 117 (.iand) 1 118 := ⟨at_117, rfl⟩
theorem i0_118 : Ins M0 118 (.ifCond .eq 7) 3 121 := ⟨at_118, rfl⟩
theorem i0_121 : Ins M0 121 (.iconst 1) 1 122 := ⟨at_121, rfl⟩
theorem i0_122 : Ins M0 122 (.goto 4) 3 125 := ⟨at_122, rfl⟩
theorem i0_125 : Ins M0 125 (.iconst 0) 1 126 := ⟨at_125, rfl⟩
theorem i0_126 : Ins M0 126 (.istore 12) 2 128 := ⟨at_126, rfl⟩
theorem i0_128 : Ins M0 128 (.aload 8) 2 130 := ⟨at_128, rfl⟩
theorem i0_130 : Ins M0 130 (.iload 10) 2 132 := ⟨at_130, rfl⟩
theorem i0_132 : Ins M0 132 (.invokevirtual 12) 3 135 := ⟨at_132, rfl⟩
theorem i0_135 : Ins M0 135 (.iload 12) 2 137 := ⟨at_135, rfl⟩
theorem i0_137 : Ins M0 137 (.ifCond .eq 10) 3 140 := ⟨at_137, rfl⟩
theorem i0_140 : Ins M0 140 (.aload 8) 2 142 := ⟨at_140, rfl⟩
theorem i0_142 : Ins M0 142 (.iload 11) 2 144 := ⟨at_142, rfl⟩
theorem i0_144 : Ins M0 144 (.invokevirtual 12) 3 147 := ⟨at_144, rfl⟩
theorem i0_147 : Ins M0 147 (.aload 8) 2 149 := ⟨at_147, rfl⟩
theorem i0_149 : Ins M0 149 (.invokevirtual 19) 3 152 := ⟨at_149, rfl⟩
theorem i0_152 : Ins M0 152 (.ifCond .eq 5) 3 155 := ⟨at_152, rfl⟩
theorem i0_155 : Ins M0 155 (.iconst 0) 1 156 := ⟨at_155, rfl⟩
theorem i0_156 : Ins M0 156 (.ireturn) 1 157 := ⟨at_156, rfl⟩
theorem i0_157 : Ins M0 157 (.aload 8) 2 159 := ⟨at_157, rfl⟩
theorem i0_159 : Ins M0 159 (.invokevirtual 25) 3 162 := ⟨at_159, rfl⟩
theorem i0_162 : Ins M0 162 (.istore 13) 2 164 := ⟨at_162, rfl⟩
theorem i0_164 : Ins M0 164 (.iload 12) 2 166 := ⟨at_164, rfl⟩
theorem i0_166 : Ins M0 166 (.ifCond .eq 78) 3 169 := ⟨at_166, rfl⟩
theorem i0_169 : Ins M0 169 (.aload 7) 2 171 := ⟨at_169, rfl⟩
theorem i0_171 : Ins M0 171 (.iload 10) 2 173 := ⟨at_171, rfl⟩
theorem i0_173 : Ins M0 173 (.iload 11) 2 175 := ⟨at_173, rfl⟩
theorem i0_175 : Ins M0 175 (.invokestatic 29) 3 178 := ⟨at_175, rfl⟩
theorem i0_178 : Ins M0 178 (.ifCond .eq 8) 3 181 := ⟨at_178, rfl⟩
theorem i0_181 : Ins M0 181 (.iload 10) 2 183 := ⟨at_181, rfl⟩
theorem i0_183 : Ins M0 183 (.goto 5) 3 186 := ⟨at_183, rfl⟩
theorem i0_186 : Ins M0 186 (.iload 11) 2 188 := ⟨at_186, rfl⟩
theorem i0_188 : Ins M0 188 (.istore 14) 2 190 := ⟨at_188, rfl⟩
theorem i0_190 : Ins M0 190 (.iload 14) 2 192 := ⟨at_190, rfl⟩
theorem i0_192 : Ins M0 192 (.iload 10) 2 194 := ⟨at_192, rfl⟩
theorem i0_194 : Ins M0 194 (.if_icmp .ne 8) 3 197 := ⟨at_194, rfl⟩
theorem i0_197 : Ins M0 197 (.iload 11) 2 199 := ⟨at_197, rfl⟩
theorem i0_199 : Ins M0 199 (.goto 5) 3 202 := ⟨at_199, rfl⟩
theorem i0_202 : Ins M0 202 (.iload 10) 2 204 := ⟨at_202, rfl⟩
theorem i0_204 : Ins M0 204 (.istore 15) 2 206 := ⟨at_204, rfl⟩
theorem i0_206 : Ins M0 206 (.iload 13) 2 208 := ⟨at_206, rfl⟩
theorem i0_208 : Ins M0 208 (.iload 14) 2 210 := ⟨at_208, rfl⟩
theorem i0_210 : Ins M0 210 (.if_icmp .eq 5) 3 213 := ⟨at_210, rfl⟩
theorem i0_213 : Ins M0 213 (.iconst 0) 1 214 := ⟨at_213, rfl⟩
theorem i0_214 : Ins M0 214 (.ireturn) 1 215 := ⟨at_214, rfl⟩
theorem i0_215 : Ins M0 215 (.aload 8) 2 217 := ⟨at_215, rfl⟩
theorem i0_217 : Ins M0 217 (.invokevirtual 19) 3 220 := ⟨at_217, rfl⟩
theorem i0_220 : Ins M0 220 (.ifCond .eq 5) 3 223 := ⟨at_220, rfl⟩
theorem i0_223 : Ins M0 223 (.iconst 0) 1 224 := ⟨at_223, rfl⟩
theorem i0_224 : Ins M0 224 (.ireturn) 1 225 := ⟨at_224, rfl⟩
theorem i0_225 : Ins M0 225 (.aload 8) 2 227 := ⟨at_225, rfl⟩
theorem i0_227 : Ins M0 227 (.invokevirtual 25) 3 230 := ⟨at_227, rfl⟩
theorem i0_230 : Ins M0 230 (.istore 16) 2 232 := ⟨at_230, rfl⟩
theorem i0_232 : Ins M0 232 (.iload 16) 2 234 := ⟨at_232, rfl⟩
theorem i0_234 : Ins M0 234 (.iload 15) 2 236 := ⟨at_234, rfl⟩
theorem i0_236 : Ins M0 236 (.if_icmp .eq 5) 3 239 := ⟨at_236, rfl⟩
theorem i0_239 : Ins M0 239 (.iconst 0) 1 240 := ⟨at_239, rfl⟩
theorem i0_240 : Ins M0 240 (.ireturn) 1 241 := ⟨at_240, rfl⟩
theorem i0_241 : Ins M0 241 (.goto 12) 3 244 := ⟨at_241, rfl⟩
theorem i0_244 : Ins M0 244 (.iload 13) 2 246 := ⟨at_244, rfl⟩
theorem i0_246 : Ins M0 246 (.iload 10) 2 248 := ⟨at_246, rfl⟩
theorem i0_248 : Ins M0 248 (.if_icmp .eq 5) 3 251 := ⟨at_248, rfl⟩
theorem i0_251 : Ins M0 251 (.iconst 0) 1 252 := ⟨at_251, rfl⟩
theorem i0_252 : Ins M0 252 (.ireturn) 1 253 := ⟨at_252, rfl⟩
theorem i0_253 : Ins M0 253 (.aload 8) 2 255 := ⟨at_253, rfl⟩
theorem i0_255 : Ins M0 255 (.invokevirtual 19) 3 258 := ⟨at_255, rfl⟩
theorem i0_258 : Ins M0 258 (.ireturn) 1 259 := ⟨at_258, rfl⟩
theorem pn0 : plainFor M0.1 = true := plainFor_of_name (by first | (simp [plainName, overriddenIn, M0, x]; done) | decide +kernel)
theorem pd0 : parseMethodDescriptor M0.1.desc = some ⟨[.long, .long, .long, .int], some (.boolean)⟩ := by decide +kernel
def M1 : GM := (⟨"com/example/hedgewire/hedgewire/graph/IndexHeap", "<init>", "([J)V"⟩, prog_29_method_1_code, 2, none)
theorem i1_0 : Ins M1 0 (.aload_n 0) 1 1 := ⟨by decide +kernel, rfl⟩
theorem i1_1 : Ins M1 1 (.invokespecial 1) 3 4 := ⟨by decide +kernel, rfl⟩
theorem i1_4 : Ins M1 4 (.aload_n 0) 1 5 := ⟨by decide +kernel, rfl⟩
theorem i1_5 : Ins M1 5 (.aload_n 1) 1 6 := ⟨by decide +kernel, rfl⟩
theorem i1_6 : Ins M1 6 (.putfield 7) 3 9 := ⟨by decide +kernel, rfl⟩
theorem i1_9 : Ins M1 9 (.aload_n 0) 1 10 := ⟨by decide +kernel, rfl⟩
theorem i1_10 : Ins M1 10 (.aload_n 1) 1 11 := ⟨by decide +kernel, rfl⟩
theorem i1_11 : Ins M1 11 (.arraylength) 1 12 := ⟨by decide +kernel, rfl⟩
theorem i1_12 : Ins M1 12 (.newarray .int) 2 14 := ⟨by decide +kernel, rfl⟩
theorem i1_14 : Ins M1 14 (.putfield 13) 3 17 := ⟨by decide +kernel, rfl⟩
theorem i1_17 : Ins M1 17 (.aload_n 0) 1 18 := ⟨by decide +kernel, rfl⟩
theorem i1_18 : Ins M1 18 (.aload_n 1) 1 19 := ⟨by decide +kernel, rfl⟩
theorem i1_19 : Ins M1 19 (.arraylength) 1 20 := ⟨by decide +kernel, rfl⟩
theorem i1_20 : Ins M1 20 (.newarray .int) 2 22 := ⟨by decide +kernel, rfl⟩
theorem i1_22 : Ins M1 22 (.putfield 17) 3 25 := ⟨by decide +kernel, rfl⟩
theorem i1_25 : Ins M1 25 (.aload_n 0) 1 26 := ⟨by decide +kernel, rfl⟩
theorem i1_26 : Ins M1 26 (.getfield 17) 3 29 := ⟨by decide +kernel, rfl⟩
theorem i1_29 : Ins M1 29 (.iconst (-1)) 1 30 := ⟨by decide +kernel, rfl⟩
theorem i1_30 : Ins M1 30 (.invokestatic 20) 3 33 := ⟨by decide +kernel, rfl⟩
theorem i1_33 : Ins M1 33 (.return_) 1 34 := ⟨by decide +kernel, rfl⟩
theorem pn1 : plainFor M1.1 = true := plainFor_of_name (by first | (simp [plainName, overriddenIn, M1, x]; done) | decide +kernel)
theorem pd1 : parseMethodDescriptor M1.1.desc = some ⟨[(.array .long)], none⟩ := by decide +kernel
def M3 : GM := (⟨"java/util/Arrays", "fill", "([II)V"⟩, jdk_65_method_103_code, 4, none)
theorem i3_0 : Ins M3 0 (.iconst 0) 1 1 := ⟨by decide +kernel, rfl⟩
theorem i3_1 : Ins M3 1 (.istore_n 2) 1 2 := ⟨by decide +kernel, rfl⟩
theorem i3_2 : Ins M3 2 (.aload_n 0) 1 3 := ⟨by decide +kernel, rfl⟩
theorem i3_3 : Ins M3 3 (.arraylength) 1 4 := ⟨by decide +kernel, rfl⟩
theorem i3_4 : Ins M3 4 (.istore_n 3) 1 5 := ⟨by decide +kernel, rfl⟩
theorem i3_5 : Ins M3 5 (.iload_n 2) 1 6 := ⟨by decide +kernel, rfl⟩
theorem i3_6 : Ins M3 6 (.iload_n 3) 1 7 := ⟨by decide +kernel, rfl⟩
theorem i3_7 : Ins M3 7 (.if_icmp .ge 13) 3 10 := ⟨by decide +kernel, rfl⟩
theorem i3_10 : Ins M3 10 (.aload_n 0) 1 11 := ⟨by decide +kernel, rfl⟩
theorem i3_11 : Ins M3 11 (.iload_n 2) 1 12 := ⟨by decide +kernel, rfl⟩
theorem i3_12 : Ins M3 12 (.iload_n 1) 1 13 := ⟨by decide +kernel, rfl⟩
theorem i3_13 : Ins M3 13 (.iastore) 1 14 := ⟨by decide +kernel, rfl⟩
theorem i3_14 : Ins M3 14 (.iinc 2 1) 3 17 := ⟨by decide +kernel, rfl⟩
theorem i3_17 : Ins M3 17 (.goto (-12)) 3 20 := ⟨by decide +kernel, rfl⟩
theorem i3_20 : Ins M3 20 (.return_) 1 21 := ⟨by decide +kernel, rfl⟩
theorem pn3 : plainFor M3.1 = true := plainFor_of_name (by first | (simp [plainName, overriddenIn, M3, x]; done) | decide +kernel)
theorem pd3 : parseMethodDescriptor M3.1.desc = some ⟨[(.array .int), .int], none⟩ := by decide +kernel
def M4 : GM := (⟨"com/example/hedgewire/hedgewire/graph/IndexHeap", "offer", "(I)V"⟩, prog_29_method_3_code, 5, none)
theorem i4_0 : Ins M4 0 (.aload_n 0) 1 1 := ⟨by decide +kernel, rfl⟩
theorem i4_1 : Ins M4 1 (.getfield 17) 3 4 := ⟨by decide +kernel, rfl⟩
theorem i4_4 : Ins M4 4 (.iload_n 1) 1 5 := ⟨by decide +kernel, rfl⟩
theorem i4_5 : Ins M4 5 (.iaload) 1 6 := ⟨by decide +kernel, rfl⟩
theorem i4_6 : Ins M4 6 (.istore_n 2) 1 7 := ⟨by decide +kernel, rfl⟩
theorem i4_7 : Ins M4 7 (.iload_n 2) 1 8 := ⟨by decide +kernel, rfl⟩
theorem i4_8 : Ins M4 8 (.ifCond .ge 15) 3 11 := ⟨by decide +kernel, rfl⟩
theorem i4_11 : Ins M4 11 (.aload_n 0) 1 12 := ⟨by decide +kernel, rfl⟩
theorem i4_12 : Ins M4 12 (.dup) 1 13 := ⟨by decide +kernel, rfl⟩
theorem i4_13 : Ins M4 13 (.getfield 26) 3 16 := ⟨by decide +kernel, rfl⟩
theorem i4_16 : Ins M4 16 (.dup_x1) 1 17 := ⟨by decide +kernel, rfl⟩
theorem i4_17 : Ins M4 17 (.iconst 1) 1 18 := ⟨by decide +kernel, rfl⟩
theorem i4_18 : Ins M4 18 (.iadd) 1 19 := ⟨by decide +kernel, rfl⟩
theorem i4_19 : Ins M4 19 (.putfield 26) 3 22 := ⟨by decide +kernel, rfl⟩
theorem i4_22 : Ins M4 22 (.istore_n 2) 1 23 := ⟨by decide +kernel, rfl⟩
theorem i4_23 : Ins M4 23 (.iload_n 2) 1 24 := ⟨by decide +kernel, rfl⟩
theorem i4_24 : Ins M4 24 (.istore_n 3) 1 25 := ⟨by decide +kernel, rfl⟩
theorem i4_25 : Ins M4 25 (.iload_n 2) 1 26 := ⟨by decide +kernel, rfl⟩
theorem i4_26 : Ins M4 26 (.ifCond .le 46) 3 29 := ⟨by decide +kernel, rfl⟩
theorem i4_29 : Ins M4 29 (.iload_n 2) 1 30 := ⟨by decide +kernel, rfl⟩
theorem i4_30 : Ins M4 30 (.iconst 1) 1 31 := ⟨by decide +kernel, rfl⟩
theorem i4_31 : Ins M4 31 (.isub) 1 32 := ⟨by decide +kernel, rfl⟩
theorem i4_32 : Ins M4 32 (.iconst 2) 1 33 := ⟨by decide +kernel, rfl⟩
theorem i4_33 : Ins M4 33 (.idiv) 1 34 := ⟨by decide +kernel, rfl⟩
theorem i4_34 : Ins M4 34 (.istore 4) 2 36 := ⟨by decide +kernel, rfl⟩
theorem i4_36 : Ins M4 36 (.aload_n 0) 1 37 := ⟨by decide +kernel, rfl⟩
theorem i4_37 : Ins M4 37 (.iload_n 1) 1 38 := ⟨by decide +kernel, rfl⟩
theorem i4_38 : Ins M4 38 (.aload_n 0) 1 39 := ⟨by decide +kernel, rfl⟩
theorem i4_39 : Ins M4 39 (.getfield 13) 3 42 := ⟨by decide +kernel, rfl⟩
theorem i4_42 : Ins M4 42 (.iload 4) 2 44 := ⟨by decide +kernel, rfl⟩
theorem i4_44 : Ins M4 44 (.iaload) 1 45 := ⟨by decide +kernel, rfl⟩
theorem i4_45 : Ins M4 45 (.invokevirtual 30) 3 48 := ⟨by decide +kernel, rfl⟩
theorem i4_48 : Ins M4 48 (.ifCond .ne 6) 3 51 := ⟨by decide +kernel, rfl⟩
theorem i4_51 : Ins M4 51 (.goto 21) 3 54 := ⟨by decide +kernel, rfl⟩
theorem i4_54 : Ins M4 54 (.aload_n 0) 1 55 := ⟨by decide +kernel, rfl⟩
theorem i4_55 : Ins M4 55 (.aload_n 0) 1 56 := ⟨by decide +kernel, rfl⟩
theorem i4_56 : Ins M4 56 (.getfield 13) 3 59 := ⟨by decide +kernel, rfl⟩
theorem i4_59 : Ins M4 59 (.iload 4) 2 61 := ⟨by decide +kernel, rfl⟩
theorem i4_61 : Ins M4 61 (.iaload) 1 62 := ⟨by decide +kernel, rfl⟩
theorem i4_62 : Ins M4 62 (.iload_n 2) 1 63 := ⟨by decide +kernel, rfl⟩
theorem i4_63 : Ins M4 63 (.invokevirtual 34) 3 66 := ⟨by decide +kernel, rfl⟩
theorem i4_66 : Ins M4 66 (.iload 4) 2 68 := ⟨by decide +kernel, rfl⟩
theorem i4_68 : Ins M4 68 (.istore_n 2) 1 69 := ⟨by decide +kernel, rfl⟩
theorem i4_69 : Ins M4 69 (.goto (-44)) 3 72 := ⟨by decide +kernel, rfl⟩
theorem i4_72 : Ins M4 72 (.iload_n 2) 1 73 := ⟨by decide +kernel, rfl⟩
theorem i4_73 : Ins M4 73 (.iload_n 3) 1 74 := ⟨by decide +kernel, rfl⟩
theorem i4_74 : Ins M4 74 (.if_icmp .ne 10) 3 77 := ⟨by decide +kernel, rfl⟩
theorem i4_77 : Ins M4 77 (.aload_n 0) 1 78 := ⟨by decide +kernel, rfl⟩
theorem i4_78 : Ins M4 78 (.iload_n 2) 1 79 := ⟨by decide +kernel, rfl⟩
theorem i4_79 : Ins M4 79 (.iload_n 1) 1 80 := ⟨by decide +kernel, rfl⟩
theorem i4_80 : Ins M4 80 (.invokevirtual 38) 3 83 := ⟨by decide +kernel, rfl⟩
theorem i4_83 : Ins M4 83 (.istore_n 2) 1 84 := ⟨by decide +kernel, rfl⟩
theorem i4_84 : Ins M4 84 (.aload_n 0) 1 85 := ⟨by decide +kernel, rfl⟩
theorem i4_85 : Ins M4 85 (.iload_n 1) 1 86 := ⟨by decide +kernel, rfl⟩
theorem i4_86 : Ins M4 86 (.iload_n 2) 1 87 := ⟨by decide +kernel, rfl⟩
theorem i4_87 : Ins M4 87 (.invokevirtual 34) 3 90 := ⟨by decide +kernel, rfl⟩
theorem i4_90 : Ins M4 90 (.return_) 1 91 := ⟨by decide +kernel, rfl⟩
theorem pn4 : plainFor M4.1 = true := plainFor_of_name (by first | (simp [plainName, overriddenIn, M4, x]; done) | decide +kernel)
theorem pd4 : parseMethodDescriptor M4.1.desc = some ⟨[.int], none⟩ := by decide +kernel
def M5 : GM := (⟨"com/example/hedgewire/hedgewire/graph/IndexHeap", "sinkFrom", "(II)I"⟩, prog_29_method_7_code, 4, some (.int))
theorem i5_0 : Ins M5 0 (.iconst 2) 1 1 := ⟨by decide +kernel, rfl⟩
theorem i5_1 : Ins M5 1 (.iload_n 1) 1 2 := ⟨by decide +kernel, rfl⟩
theorem i5_2 : Ins M5 2 (.imul) 1 3 := ⟨by decide +kernel, rfl⟩
theorem i5_3 : Ins M5 3 (.iconst 1) 1 4 := ⟨by decide +kernel, rfl⟩
theorem i5_4 : Ins M5 4 (.iadd) 1 5 := ⟨by decide +kernel, rfl⟩
theorem i5_5 : Ins M5 5 (.istore_n 3) 1 6 := ⟨by decide +kernel, rfl⟩
theorem i5_6 : Ins M5 6 (.iload_n 3) 1 7 := ⟨by decide +kernel, rfl⟩
theorem i5_7 : Ins M5 7 (.aload_n 0) 1 8 := ⟨by decide +kernel, rfl⟩
theorem i5_8 : Ins M5 8 (.getfield 26) 3 11 := ⟨by decide +kernel, rfl⟩
theorem i5_11 : Ins M5 11 (.if_icmp .lt 5) 3 14 := ⟨by decide +kernel, rfl⟩
theorem i5_14 : Ins M5 14 (.iload_n 1) 1 15 := ⟨by decide +kernel, rfl⟩
theorem i5_15 : Ins M5 15 (.ireturn) 1 16 := ⟨by decide +kernel, rfl⟩
theorem i5_16 : Ins M5 16 (.iload_n 3) 1 17 := ⟨by decide +kernel, rfl⟩
theorem i5_17 : Ins M5 17 (.iconst 1) 1 18 := ⟨by decide +kernel, rfl⟩
theorem i5_18 : Ins M5 18 (.iadd) 1 19 := ⟨by decide +kernel, rfl⟩
theorem i5_19 : Ins M5 19 (.aload_n 0) 1 20 := ⟨by decide +kernel, rfl⟩
theorem i5_20 : Ins M5 20 (.getfield 26) 3 23 := ⟨by decide +kernel, rfl⟩
theorem i5_23 : Ins M5 23 (.if_icmp .ge 27) 3 26 := ⟨by decide +kernel, rfl⟩
theorem i5_26 : Ins M5 26 (.aload_n 0) 1 27 := ⟨by decide +kernel, rfl⟩
theorem i5_27 : Ins M5 27 (.aload_n 0) 1 28 := ⟨by decide +kernel, rfl⟩
theorem i5_28 : Ins M5 28 (.getfield 13) 3 31 := ⟨by decide +kernel, rfl⟩
theorem i5_31 : Ins M5 31 (.iload_n 3) 1 32 := ⟨by decide +kernel, rfl⟩
theorem i5_32 : Ins M5 32 (.iconst 1) 1 33 := ⟨by decide +kernel, rfl⟩
theorem i5_33 : Ins M5 33 (.iadd) 1 34 := ⟨by decide +kernel, rfl⟩
theorem i5_34 : Ins M5 34 (.iaload) 1 35 := ⟨by decide +kernel, rfl⟩
theorem i5_35 : Ins M5 35 (.aload_n 0) 1 36 := ⟨by decide +kernel, rfl⟩
theorem i5_36 : Ins M5 36 (.getfield 13) 3 39 := ⟨by decide +kernel, rfl⟩
theorem i5_39 : Ins M5 39 (.iload_n 3) 1 40 := ⟨by decide +kernel, rfl⟩
theorem i5_40 : Ins M5 40 (.iaload) 1 41 := ⟨by decide +kernel, rfl⟩
theorem i5_41 : Ins M5 41 (.invokevirtual 30) 3 44 := ⟨by decide +kernel, rfl⟩
theorem i5_44 : Ins M5 44 (.ifCond .eq 6) 3 47 := ⟨by decide +kernel, rfl⟩
theorem i5_47 : Ins M5 47 (.iinc 3 1) 3 50 := ⟨by decide +kernel, rfl⟩
theorem i5_50 : Ins M5 50 (.aload_n 0) 1 51 := ⟨by decide +kernel, rfl⟩
theorem i5_51 : Ins M5 51 (.aload_n 0) 1 52 := ⟨by decide +kernel, rfl⟩
theorem i5_52 : Ins M5 52 (.getfield 13) 3 55 := ⟨by decide +kernel, rfl⟩
theorem i5_55 : Ins M5 55 (.iload_n 3) 1 56 := ⟨by decide +kernel, rfl⟩
theorem i5_56 : Ins M5 56 (.iaload) 1 57 := ⟨by decide +kernel, rfl⟩
theorem i5_57 : Ins M5 57 (.iload_n 2) 1 58 := ⟨by decide +kernel, rfl⟩
theorem i5_58 : Ins M5 58 (.invokevirtual 30) 3 61 := ⟨by decide +kernel, rfl⟩
theorem i5_61 : Ins M5 61 (.ifCond .ne 5) 3 64 := ⟨by decide +kernel, rfl⟩
theorem i5_64 : Ins M5 64 (.iload_n 1) 1 65 := ⟨by decide +kernel, rfl⟩
theorem i5_65 : Ins M5 65 (.ireturn) 1 66 := ⟨by decide +kernel, rfl⟩
theorem i5_66 : Ins M5 66 (.aload_n 0) 1 67 := ⟨by decide +kernel, rfl⟩
theorem i5_67 : Ins M5 67 (.aload_n 0) 1 68 := ⟨by decide +kernel, rfl⟩
theorem i5_68 : Ins M5 68 (.getfield 13) 3 71 := ⟨by decide +kernel, rfl⟩
theorem i5_71 : Ins M5 71 (.iload_n 3) 1 72 := ⟨by decide +kernel, rfl⟩
theorem i5_72 : Ins M5 72 (.iaload) 1 73 := ⟨by decide +kernel, rfl⟩
theorem i5_73 : Ins M5 73 (.iload_n 1) 1 74 := ⟨by decide +kernel, rfl⟩
theorem i5_74 : Ins M5 74 (.invokevirtual 34) 3 77 := ⟨by decide +kernel, rfl⟩
theorem i5_77 : Ins M5 77 (.iload_n 3) 1 78 := ⟨by decide +kernel, rfl⟩
theorem i5_78 : Ins M5 78 (.istore_n 1) 1 79 := ⟨by decide +kernel, rfl⟩
theorem i5_79 : Ins M5 79 (.goto (-79)) 3 82 := ⟨by decide +kernel, rfl⟩
theorem pn5 : plainFor M5.1 = true := plainFor_of_name (by first | (simp [plainName, overriddenIn, M5, x]; done) | decide +kernel)
theorem pd5 : parseMethodDescriptor M5.1.desc = some ⟨[.int, .int], some (.int)⟩ := by decide +kernel
def M6 : GM := (⟨"com/example/hedgewire/hedgewire/graph/IndexHeap", "place", "(II)V"⟩, prog_29_method_9_code, 3, none)
theorem i6_0 : Ins M6 0 (.aload_n 0) 1 1 := ⟨by decide +kernel, rfl⟩
theorem i6_1 : Ins M6 1 (.getfield 13) 3 4 := ⟨by decide +kernel, rfl⟩
theorem i6_4 : Ins M6 4 (.iload_n 2) 1 5 := ⟨by decide +kernel, rfl⟩
theorem i6_5 : Ins M6 5 (.iload_n 1) 1 6 := ⟨by decide +kernel, rfl⟩
theorem i6_6 : Ins M6 6 (.iastore) 1 7 := ⟨by decide +kernel, rfl⟩
theorem i6_7 : Ins M6 7 (.aload_n 0) 1 8 := ⟨by decide +kernel, rfl⟩
theorem i6_8 : Ins M6 8 (.getfield 17) 3 11 := ⟨by decide +kernel, rfl⟩
theorem i6_11 : Ins M6 11 (.iload_n 1) 1 12 := ⟨by decide +kernel, rfl⟩
theorem i6_12 : Ins M6 12 (.iload_n 2) 1 13 := ⟨by decide +kernel, rfl⟩
theorem i6_13 : Ins M6 13 (.iastore) 1 14 := ⟨by decide +kernel, rfl⟩
theorem i6_14 : Ins M6 14 (.return_) 1 15 := ⟨by decide +kernel, rfl⟩
theorem pn6 : plainFor M6.1 = true := plainFor_of_name (by first | (simp [plainName, overriddenIn, M6, x]; done) | decide +kernel)
theorem pd6 : parseMethodDescriptor M6.1.desc = some ⟨[.int, .int], none⟩ := by decide +kernel
def M7 : GM := (⟨"com/example/hedgewire/hedgewire/graph/IndexHeap", "clear", "()V"⟩, prog_29_method_4_code, 2, none)
theorem i7_0 : Ins M7 0 (.iconst 0) 1 1 := ⟨by decide +kernel, rfl⟩
theorem i7_1 : Ins M7 1 (.istore_n 1) 1 2 := ⟨by decide +kernel, rfl⟩
theorem i7_2 : Ins M7 2 (.iload_n 1) 1 3 := ⟨by decide +kernel, rfl⟩
theorem i7_3 : Ins M7 3 (.aload_n 0) 1 4 := ⟨by decide +kernel, rfl⟩
theorem i7_4 : Ins M7 4 (.getfield 26) 3 7 := ⟨by decide +kernel, rfl⟩
theorem i7_7 : Ins M7 7 (.if_icmp .ge 21) 3 10 := ⟨by decide +kernel, rfl⟩
theorem i7_10 : Ins M7 10 (.aload_n 0) 1 11 := ⟨by decide +kernel, rfl⟩
theorem i7_11 : Ins M7 11 (.getfield 17) 3 14 := ⟨by decide +kernel, rfl⟩
theorem i7_14 : Ins M7 14 (.aload_n 0) 1 15 := ⟨by decide +kernel, rfl⟩
theorem i7_15 : Ins M7 15 (.getfield 13) 3 18 := ⟨by decide +kernel, rfl⟩
theorem i7_18 : Ins M7 18 (.iload_n 1) 1 19 := ⟨by decide +kernel, rfl⟩
theorem i7_19 : Ins M7 19 (.iaload) 1 20 := ⟨by decide +kernel, rfl⟩
theorem i7_20 : Ins M7 20 (.iconst (-1)) 1 21 := ⟨by decide +kernel, rfl⟩
theorem i7_21 : Ins M7 21 (.iastore) 1 22 := ⟨by decide +kernel, rfl⟩
theorem i7_22 : Ins M7 22 (.iinc 1 1) 3 25 := ⟨by decide +kernel, rfl⟩
theorem i7_25 : Ins M7 25 (.goto (-23)) 3 28 := ⟨by decide +kernel, rfl⟩
theorem i7_28 : Ins M7 28 (.aload_n 0) 1 29 := ⟨by decide +kernel, rfl⟩
theorem i7_29 : Ins M7 29 (.iconst 0) 1 30 := ⟨by decide +kernel, rfl⟩
theorem i7_30 : Ins M7 30 (.putfield 26) 3 33 := ⟨by decide +kernel, rfl⟩
theorem i7_33 : Ins M7 33 (.return_) 1 34 := ⟨by decide +kernel, rfl⟩
theorem pn7 : plainFor M7.1 = true := plainFor_of_name (by first | (simp [plainName, overriddenIn, M7, x]; done) | decide +kernel)
theorem pd7 : parseMethodDescriptor M7.1.desc = some ⟨[], none⟩ := by decide +kernel
def M8 : GM := (⟨"com/example/hedgewire/hedgewire/graph/IndexHeap", "isEmpty", "()Z"⟩, prog_29_method_2_code, 1, some (.boolean))
theorem i8_0 : Ins M8 0 (.aload_n 0) 1 1 := ⟨by decide +kernel, rfl⟩
theorem i8_1 : Ins M8 1 (.getfield 26) 3 4 := ⟨by decide +kernel, rfl⟩
theorem i8_4 : Ins M8 4 (.ifCond .ne 7) 3 7 := ⟨by decide +kernel, rfl⟩
theorem i8_7 : Ins M8 7 (.iconst 1) 1 8 := ⟨by decide +kernel, rfl⟩
theorem i8_8 : Ins M8 8 (.goto 4) 3 11 := ⟨by decide +kernel, rfl⟩
theorem i8_11 : Ins M8 11 (.iconst 0) 1 12 := ⟨by decide +kernel, rfl⟩
theorem i8_12 : Ins M8 12 (.ireturn) 1 13 := ⟨by decide +kernel, rfl⟩
theorem pn8 : plainFor M8.1 = true := plainFor_of_name (by first | (simp [plainName, overriddenIn, M8, x]; done) | decide +kernel)
theorem pd8 : parseMethodDescriptor M8.1.desc = some ⟨[], some (.boolean)⟩ := by decide +kernel
def M9 : GM := (⟨"com/example/hedgewire/hedgewire/graph/IndexHeap", "poll", "()I"⟩, prog_29_method_6_code, 3, some (.int))
theorem i9_0 : Ins M9 0 (.aload_n 0) 1 1 := ⟨by decide +kernel, rfl⟩
theorem i9_1 : Ins M9 1 (.getfield 13) 3 4 := ⟨by decide +kernel, rfl⟩
theorem i9_4 : Ins M9 4 (.iconst 0) 1 5 := ⟨by decide +kernel, rfl⟩
theorem i9_5 : Ins M9 5 (.iaload) 1 6 := ⟨by decide +kernel, rfl⟩
theorem i9_6 : Ins M9 6 (.istore_n 1) 1 7 := ⟨by decide +kernel, rfl⟩
theorem i9_7 : Ins M9 7 (.aload_n 0) 1 8 := ⟨by decide +kernel, rfl⟩
theorem i9_8 : Ins M9 8 (.getfield 17) 3 11 := ⟨by decide +kernel, rfl⟩
theorem i9_11 : Ins M9 11 (.iload_n 1) 1 12 := ⟨by decide +kernel, rfl⟩
theorem i9_12 : Ins M9 12 (.iconst (-1)) 1 13 := ⟨by decide +kernel, rfl⟩
theorem i9_13 : Ins M9 13 (.iastore) 1 14 := ⟨by decide +kernel, rfl⟩
theorem i9_14 : Ins M9 14 (.aload_n 0) 1 15 := ⟨by decide +kernel, rfl⟩
theorem i9_15 : Ins M9 15 (.getfield 13) 3 18 := ⟨by decide +kernel, rfl⟩
theorem i9_18 : Ins M9 18 (.aload_n 0) 1 19 := ⟨by decide +kernel, rfl⟩
theorem i9_19 : Ins M9 19 (.dup) 1 20 := ⟨by decide +kernel, rfl⟩
theorem i9_20 : Ins M9 20 (.getfield 26) 3 23 := ⟨by decide +kernel, rfl⟩
theorem i9_23 : Ins M9 23 (.iconst 1) 1 24 := ⟨by decide +kernel, rfl⟩
theorem i9_24 : Ins M9 24 (.isub) 1 25 := ⟨by decide +kernel, rfl⟩
theorem i9_25 : Ins M9 25 (.dup_x1) 1 26 := ⟨by decide +kernel, rfl⟩
theorem i9_26 : Ins M9 26 (.putfield 26) 3 29 := ⟨by decide +kernel, rfl⟩
theorem i9_29 : Ins M9 29 (.iaload) 1 30 := ⟨by decide +kernel, rfl⟩
theorem i9_30 : Ins M9 30 (.istore_n 2) 1 31 := ⟨by decide +kernel, rfl⟩
theorem i9_31 : Ins M9 31 (.aload_n 0) 1 32 := ⟨by decide +kernel, rfl⟩
theorem i9_32 : Ins M9 32 (.getfield 26) 3 35 := ⟨by decide +kernel, rfl⟩
theorem i9_35 : Ins M9 35 (.ifCond .le 14) 3 38 := ⟨by decide +kernel, rfl⟩
theorem i9_38 : Ins M9 38 (.aload_n 0) 1 39 := ⟨by decide +kernel, rfl⟩
theorem i9_39 : Ins M9 39 (.iload_n 2) 1 40 := ⟨by decide +kernel, rfl⟩
theorem i9_40 : Ins M9 40 (.aload_n 0) 1 41 := ⟨by decide +kernel, rfl⟩
theorem i9_41 : Ins M9 41 (.iconst 0) 1 42 := ⟨by decide +kernel, rfl⟩
theorem i9_42 : Ins M9 42 (.iload_n 2) 1 43 := ⟨by decide +kernel, rfl⟩
theorem i9_43 : Ins M9 43 (.invokevirtual 38) 3 46 := ⟨by decide +kernel, rfl⟩
theorem i9_46 : Ins M9 46 (.invokevirtual 34) 3 49 := ⟨by decide +kernel, rfl⟩
theorem i9_49 : Ins M9 49 (.iload_n 1) 1 50 := ⟨by decide +kernel, rfl⟩
theorem i9_50 : Ins M9 50 (.ireturn) 1 51 := ⟨by decide +kernel, rfl⟩
theorem pn9 : plainFor M9.1 = true := plainFor_of_name (by first | (simp [plainName, overriddenIn, M9, x]; done) | decide +kernel)
theorem pd9 : parseMethodDescriptor M9.1.desc = some ⟨[], some (.int)⟩ := by decide +kernel
def M10 : GM := (⟨"com/example/hedgewire/hedgewire/graph/IndexHeap", "before", "(II)Z"⟩, prog_29_method_8_code, 3, some (.boolean))
theorem i10_0 : Ins M10 0 (.aload_n 0) 1 1 := ⟨by decide +kernel, rfl⟩
theorem i10_1 : Ins M10 1 (.getfield 7) 3 4 := ⟨by decide +kernel, rfl⟩
theorem i10_4 : Ins M10 4 (.iload_n 1) 1 5 := ⟨by decide +kernel, rfl⟩
theorem i10_5 : Ins M10 5 (.laload) 1 6 := ⟨by decide +kernel, rfl⟩
theorem i10_6 : Ins M10 6 (.aload_n 0) 1 7 := ⟨by decide +kernel, rfl⟩
theorem i10_7 : Ins M10 7 (.getfield 7) 3 10 := ⟨by decide +kernel, rfl⟩
theorem i10_10 : Ins M10 10 (.iload_n 2) 1 11 := ⟨by decide +kernel, rfl⟩
theorem i10_11 : Ins M10 11 (.laload) 1 12 := ⟨by decide +kernel, rfl⟩
theorem i10_12 : Ins M10 12 (.lcmp) 1 13 := ⟨by decide +kernel, rfl⟩
theorem i10_13 : Ins M10 13 (.ifCond .lt 24) 3 16 := ⟨by decide +kernel, rfl⟩
theorem i10_16 : Ins M10 16 (.aload_n 0) 1 17 := ⟨by decide +kernel, rfl⟩
theorem i10_17 : Ins M10 17 (.getfield 7) 3 20 := ⟨by decide +kernel, rfl⟩
theorem i10_20 : Ins M10 20 (.iload_n 1) 1 21 := ⟨by decide +kernel, rfl⟩
theorem i10_21 : Ins M10 21 (.laload) 1 22 := ⟨by decide +kernel, rfl⟩
theorem i10_22 : Ins M10 22 (.aload_n 0) 1 23 := ⟨by decide +kernel, rfl⟩
theorem i10_23 : Ins M10 23 (.getfield 7) 3 26 := ⟨by decide +kernel, rfl⟩
theorem i10_26 : Ins M10 26 (.iload_n 2) 1 27 := ⟨by decide +kernel, rfl⟩
theorem i10_27 : Ins M10 27 (.laload) 1 28 := ⟨by decide +kernel, rfl⟩
theorem i10_28 : Ins M10 28 (.lcmp) 1 29 := ⟨by decide +kernel, rfl⟩
theorem i10_29 : Ins M10 29 (.ifCond .ne 12) 3 32 := ⟨by decide +kernel, rfl⟩
theorem i10_32 : Ins M10 32 (.iload_n 1) 1 33 := ⟨by decide +kernel, rfl⟩
theorem i10_33 : Ins M10 33 (.iload_n 2) 1 34 := ⟨by decide +kernel, rfl⟩
theorem i10_34 : Ins M10 34 (.if_icmp .ge 7) 3 37 := ⟨by decide +kernel, rfl⟩
theorem i10_37 : Ins M10 37 (.iconst 1) 1 38 := ⟨by decide +kernel, rfl⟩
theorem i10_38 : Ins M10 38 (.goto 4) 3 41 := ⟨by decide +kernel, rfl⟩
theorem i10_41 : Ins M10 41 (.iconst 0) 1 42 := ⟨by decide +kernel, rfl⟩
theorem i10_42 : Ins M10 42 (.ireturn) 1 43 := ⟨by decide +kernel, rfl⟩
theorem pn10 : plainFor M10.1 = true := plainFor_of_name (by first | (simp [plainName, overriddenIn, M10, x]; done) | decide +kernel)
theorem pd10 : parseMethodDescriptor M10.1.desc = some ⟨[.int, .int], some (.boolean)⟩ := by decide +kernel
def M11 : GM := (⟨"com/example/hedgewire/hedgewire/graph/IndexHeapClearPinLaw", "before", "([JII)Z"⟩, method_2_code, 3, some (.boolean))
theorem i11_0 : Ins M11 0 (.aload_n 0) 1 1 := ⟨by decide +kernel, rfl⟩
theorem i11_1 : Ins M11 1 (.iload_n 1) 1 2 := ⟨by decide +kernel, rfl⟩
theorem i11_2 : Ins M11 2 (.laload) 1 3 := ⟨by decide +kernel, rfl⟩
theorem i11_3 : Ins M11 3 (.aload_n 0) 1 4 := ⟨by decide +kernel, rfl⟩
theorem i11_4 : Ins M11 4 (.iload_n 2) 1 5 := ⟨by decide +kernel, rfl⟩
theorem i11_5 : Ins M11 5 (.laload) 1 6 := ⟨by decide +kernel, rfl⟩
theorem i11_6 : Ins M11 6 (.lcmp) 1 7 := ⟨by decide +kernel, rfl⟩
theorem i11_7 : Ins M11 7 (.ifCond .lt 18) 3 10 := ⟨by decide +kernel, rfl⟩
theorem i11_10 : Ins M11 10 (.aload_n 0) 1 11 := ⟨by decide +kernel, rfl⟩
theorem i11_11 : Ins M11 11 (.iload_n 1) 1 12 := ⟨by decide +kernel, rfl⟩
theorem i11_12 : Ins M11 12 (.laload) 1 13 := ⟨by decide +kernel, rfl⟩
theorem i11_13 : Ins M11 13 (.aload_n 0) 1 14 := ⟨by decide +kernel, rfl⟩
theorem i11_14 : Ins M11 14 (.iload_n 2) 1 15 := ⟨by decide +kernel, rfl⟩
theorem i11_15 : Ins M11 15 (.laload) 1 16 := ⟨by decide +kernel, rfl⟩
theorem i11_16 : Ins M11 16 (.lcmp) 1 17 := ⟨by decide +kernel, rfl⟩
theorem i11_17 : Ins M11 17 (.ifCond .ne 12) 3 20 := ⟨by decide +kernel, rfl⟩
theorem i11_20 : Ins M11 20 (.iload_n 1) 1 21 := ⟨by decide +kernel, rfl⟩
theorem i11_21 : Ins M11 21 (.iload_n 2) 1 22 := ⟨by decide +kernel, rfl⟩
theorem i11_22 : Ins M11 22 (.if_icmp .ge 7) 3 25 := ⟨by decide +kernel, rfl⟩
theorem i11_25 : Ins M11 25 (.iconst 1) 1 26 := ⟨by decide +kernel, rfl⟩
theorem i11_26 : Ins M11 26 (.goto 4) 3 29 := ⟨by decide +kernel, rfl⟩
theorem i11_29 : Ins M11 29 (.iconst 0) 1 30 := ⟨by decide +kernel, rfl⟩
theorem i11_30 : Ins M11 30 (.ireturn) 1 31 := ⟨by decide +kernel, rfl⟩
theorem pn11 : plainFor M11.1 = true := plainFor_of_name (by first | (simp [plainName, overriddenIn, M11, x]; done) | decide +kernel)
theorem pd11 : parseMethodDescriptor M11.1.desc = some ⟨[(.array .long), .int, .int], some (.boolean)⟩ := by decide +kernel
def KH : GLay := ("com/example/hedgewire/hedgewire/graph/IndexHeap", [("com/example/hedgewire/hedgewire/graph/IndexHeap", "keys", "[J", (.array .long)), ("com/example/hedgewire/hedgewire/graph/IndexHeap", "heap", "[I", (.array .int)), ("com/example/hedgewire/hedgewire/graph/IndexHeap", "position", "[I", (.array .int)), ("com/example/hedgewire/hedgewire/graph/IndexHeap", "size", "I", .int)])
theorem KH_ok {Z : State} {a0 : Array Value} (hw : ∀ d ∈ tables_1, d.before a0 Z = true) : LayOk Z a0 KH := by
  refine ⟨⟨4, (hw _ (List.mem_of_getElem? (i := 2) rfl))⟩, fun q hq => ?_, by decide +kernel⟩
  simp only [KH, List.mem_cons, List.not_mem_nil, or_false] at hq
  rcases hq with rfl | rfl | rfl | rfl
  · exact ⟨Or.inr (hw _ (List.mem_of_getElem? (i := 11) rfl)), by decide⟩
  · exact ⟨Or.inr (hw _ (List.mem_of_getElem? (i := 14) rfl)), by decide⟩
  · exact ⟨Or.inr (hw _ (List.mem_of_getElem? (i := 16) rfl)), by decide⟩
  · exact ⟨Or.inl (hw _ (List.mem_of_getElem? (i := 27) rfl)), by decide⟩
variable {Z : State} {a0 : Array Value} {n0 : Nat}
abbrev HH (n0 : Nat) (ks hp ps : List Value) (s : Int32) : List GObj := [.inr (.long, ks), .inl (KH, [.ref (n0 + 0), .ref (n0 + 2), .ref (n0 + 3), .int s]), .inr (.int, hp), .inr (.int, ps)]
abbrev own_bf (a b : Int64) (i j : Int32) : Prop := a < b ∨ (a = b ∧ i < j)
abbrev own_R0 : Room := { frames := 0, cells := 0, slots := 0, locals := 0 }
theorem own_is (us : List Value) (j : Nat) (h : j < us.length) : (us[j]?).isSome = true := by simp [h]
theorem met10 (hw : ∀ d ∈ tables_1, d.before a0 Z = true) (ks hp ps : List Value) (s i j : Int32) (I J : Nat) (a b : Int64) (hi : i.toInt = (I : Int)) (hj : j.toInt = (J : Int)) (ha : ks[I]? = some (.long a)) (hb : ks[J]? = some (.long b)) : Met Z a0 n0 M10 0 0 0 0 [.ref (n0 + 1), .int i, .int j] (HH n0 ks hp ps s) (Eq1 (.int (if own_bf a b i j then 1 else 0)) (HH n0 ks hp ps s)) := by
  refine MetW.intro [.val (.ref (n0 + 1)), .val (.int i), .val (.int j)] pn10 rfl ?_
  refine go_aloadN i10_0 rfl ?_
  refine go_getfield 0 i10_1 (hw _ (List.mem_of_getElem? (i := 10) rfl)) rfl rfl rfl ?_
  refine go_iloadN i10_4 rfl ?_
  refine go_laload i10_5 rfl hi ha ?_
  refine go_aloadN i10_6 rfl ?_
  refine go_getfield 0 i10_7 (hw _ (List.mem_of_getElem? (i := 10) rfl)) rfl rfl rfl ?_
  refine go_iloadN i10_10 rfl ?_
  refine go_laload i10_11 rfl hj hb ?_
  refine go_lcmp i10_12 ?_
  refine go_if_lt 37 i10_13 (by decide) (fun h1 => ?_) (fun h1 => ?_)
  · refine go_iconst (v := (1 : Int32)) i10_37 (by decide) ?_
    refine go_goto 42 i10_38 (by decide) ?_
    refine go_ireturn i10_42 rfl rfl (Or.inr (Or.inl rfl)) (by first | decide | exact Nat.le_of_ble_eq_true rfl | (simp only [room_1]; omega)) (by first | decide | exact Nat.le_of_ble_eq_true rfl | (simp only [room_1]; omega)) ?_
    exact ⟨by rw [if_pos (Or.inl ((lw_lt a b).mp h1))], rfl⟩
  have h1' : ¬ a < b := fun q => h1 ((lw_lt a b).mpr q)
  refine go_aloadN i10_16 rfl ?_
  refine go_getfield 0 i10_17 (hw _ (List.mem_of_getElem? (i := 10) rfl)) rfl rfl rfl ?_
  refine go_iloadN i10_20 rfl ?_
  refine go_laload i10_21 rfl hi ha ?_
  refine go_aloadN i10_22 rfl ?_
  refine go_getfield 0 i10_23 (hw _ (List.mem_of_getElem? (i := 10) rfl)) rfl rfl rfl ?_
  refine go_iloadN i10_26 rfl ?_
  refine go_laload i10_27 rfl hj hb ?_
  refine go_lcmp i10_28 ?_
  refine go_if_ne 41 i10_29 (by decide) (fun h2 => ?_) (fun h2 => ?_)
  · have h2' : ¬ a = b := fun q => h2 ((lw_eq a b).mpr q)
    refine go_iconst (v := (0 : Int32)) i10_41 (by decide) ?_
    refine go_ireturn i10_42 rfl rfl (Or.inr (Or.inl rfl)) (by first | decide | exact Nat.le_of_ble_eq_true rfl | (simp only [room_1]; omega)) (by first | decide | exact Nat.le_of_ble_eq_true rfl | (simp only [room_1]; omega)) ?_
    exact ⟨by rw [if_neg (fun q => q.elim h1' (fun z => h2' z.1))], rfl⟩
  have h2' : a = b := (lw_eq a b).mp h2
  refine go_iloadN i10_32 rfl ?_
  refine go_iloadN i10_33 rfl ?_
  refine go_icmp_ge 41 i10_34 (by decide) (fun h3 => ?_) (fun h3 => ?_)
  · refine go_iconst (v := (0 : Int32)) i10_41 (by decide) ?_
    refine go_ireturn i10_42 rfl rfl (Or.inr (Or.inl rfl)) (by first | decide | exact Nat.le_of_ble_eq_true rfl | (simp only [room_1]; omega)) (by first | decide | exact Nat.le_of_ble_eq_true rfl | (simp only [room_1]; omega)) ?_
    exact ⟨by rw [if_neg (fun q => q.elim h1' (fun z => h3 z.2))], rfl⟩
  · refine go_iconst (v := (1 : Int32)) i10_37 (by decide) ?_
    refine go_goto 42 i10_38 (by decide) ?_
    refine go_ireturn i10_42 rfl rfl (Or.inr (Or.inl rfl)) (by first | decide | exact Nat.le_of_ble_eq_true rfl | (simp only [room_1]; omega)) (by first | decide | exact Nat.le_of_ble_eq_true rfl | (simp only [room_1]; omega)) ?_
    exact ⟨by rw [if_pos (Or.inr ⟨h2', h3⟩)], rfl⟩
theorem met11 (hw : ∀ d ∈ tables_1, d.before a0 Z = true) (ks hp ps : List Value) (s i j : Int32) (I J : Nat) (a b : Int64) (hi : i.toInt = (I : Int)) (hj : j.toInt = (J : Int)) (ha : ks[I]? = some (.long a)) (hb : ks[J]? = some (.long b)) : Met Z a0 n0 M11 0 0 0 0 [.ref (n0 + 0), .int i, .int j] (HH n0 ks hp ps s) (Eq1 (.int (if own_bf a b i j then 1 else 0)) (HH n0 ks hp ps s)) := by
  refine MetW.intro [.val (.ref (n0 + 0)), .val (.int i), .val (.int j)] pn11 rfl ?_
  refine go_aloadN i11_0 rfl ?_
  refine go_iloadN i11_1 rfl ?_
  refine go_laload i11_2 rfl hi ha ?_
  refine go_aloadN i11_3 rfl ?_
  refine go_iloadN i11_4 rfl ?_
  refine go_laload i11_5 rfl hj hb ?_
  refine go_lcmp i11_6 ?_
  refine go_if_lt 25 i11_7 (by decide) (fun h1 => ?_) (fun h1 => ?_)
  · refine go_iconst (v := (1 : Int32)) i11_25 (by decide) ?_
    refine go_goto 30 i11_26 (by decide) ?_
    refine go_ireturn i11_30 rfl rfl (Or.inr (Or.inl rfl)) (by first | decide | exact Nat.le_of_ble_eq_true rfl | (simp only [room_1]; omega)) (by first | decide | exact Nat.le_of_ble_eq_true rfl | (simp only [room_1]; omega)) ?_
    exact ⟨by rw [if_pos (Or.inl ((lw_lt a b).mp h1))], rfl⟩
  have h1' : ¬ a < b := fun q => h1 ((lw_lt a b).mpr q)
  refine go_aloadN i11_10 rfl ?_
  refine go_iloadN i11_11 rfl ?_
  refine go_laload i11_12 rfl hi ha ?_
  refine go_aloadN i11_13 rfl ?_
  refine go_iloadN i11_14 rfl ?_
  refine go_laload i11_15 rfl hj hb ?_
  refine go_lcmp i11_16 ?_
  refine go_if_ne 29 i11_17 (by decide) (fun h2 => ?_) (fun h2 => ?_)
  · have h2' : ¬ a = b := fun q => h2 ((lw_eq a b).mpr q)
    refine go_iconst (v := (0 : Int32)) i11_29 (by decide) ?_
    refine go_ireturn i11_30 rfl rfl (Or.inr (Or.inl rfl)) (by first | decide | exact Nat.le_of_ble_eq_true rfl | (simp only [room_1]; omega)) (by first | decide | exact Nat.le_of_ble_eq_true rfl | (simp only [room_1]; omega)) ?_
    exact ⟨by rw [if_neg (fun q => q.elim h1' (fun z => h2' z.1))], rfl⟩
  have h2' : a = b := (lw_eq a b).mp h2
  refine go_iloadN i11_20 rfl ?_
  refine go_iloadN i11_21 rfl ?_
  refine go_icmp_ge 29 i11_22 (by decide) (fun h3 => ?_) (fun h3 => ?_)
  · refine go_iconst (v := (0 : Int32)) i11_29 (by decide) ?_
    refine go_ireturn i11_30 rfl rfl (Or.inr (Or.inl rfl)) (by first | decide | exact Nat.le_of_ble_eq_true rfl | (simp only [room_1]; omega)) (by first | decide | exact Nat.le_of_ble_eq_true rfl | (simp only [room_1]; omega)) ?_
    exact ⟨by rw [if_neg (fun q => q.elim h1' (fun z => h3 z.2))], rfl⟩
  · refine go_iconst (v := (1 : Int32)) i11_25 (by decide) ?_
    refine go_goto 30 i11_26 (by decide) ?_
    refine go_ireturn i11_30 rfl rfl (Or.inr (Or.inl rfl)) (by first | decide | exact Nat.le_of_ble_eq_true rfl | (simp only [room_1]; omega)) (by first | decide | exact Nat.le_of_ble_eq_true rfl | (simp only [room_1]; omega)) ?_
    exact ⟨by rw [if_pos (Or.inr ⟨h2', h3⟩)], rfl⟩
theorem met6 (hw : ∀ d ∈ tables_1, d.before a0 Z = true) (ks hp ps : List Value) (s x t : Int32) (X T : Nat) (hx : x.toInt = (X : Int)) (ht : t.toInt = (T : Int)) (hT : T < hp.length) (hX : X < ps.length) : Met Z a0 n0 M6 0 0 0 0 [.ref (n0 + 1), .int x, .int t] (HH n0 ks hp ps s) (Eq0 (HH n0 ks (hp.set T (.int x)) (ps.set X (.int t)) s)) := by
  refine MetW.intro [.val (.ref (n0 + 1)), .val (.int x), .val (.int t)] pn6 rfl ?_
  refine go_aloadN i6_0 rfl ?_
  refine go_getfield 1 i6_1 (hw _ (List.mem_of_getElem? (i := 13) rfl)) rfl rfl rfl ?_
  refine go_iloadN i6_4 rfl ?_
  refine go_iloadN i6_5 rfl ?_
  refine go_iastore i6_6 rfl ht (own_is _ _ hT) ?_
  refine go_aloadN i6_7 rfl ?_
  refine go_getfield 2 i6_8 (hw _ (List.mem_of_getElem? (i := 15) rfl)) rfl rfl rfl ?_
  refine go_iloadN i6_11 rfl ?_
  refine go_iloadN i6_12 rfl ?_
  refine go_iastore i6_13 rfl hx (own_is _ _ hX) ?_
  refine go_return i6_14 rfl (by first | decide | exact Nat.le_of_ble_eq_true rfl | (simp only [room_1]; omega)) (by first | decide | exact Nat.le_of_ble_eq_true rfl | (simp only [room_1]; omega)) ?_
  exact ⟨rfl, rfl⟩
theorem met5 (hw : ∀ d ∈ tables_1, d.before a0 Z = true) (ks hp ps : List Value) (s x t : Int32) (h : ¬ 2 * t + 1 < s) : Met Z a0 n0 M5 0 0 0 0 [.ref (n0 + 1), .int t, .int x] (HH n0 ks hp ps s) (Eq1 (.int t) (HH n0 ks hp ps s)) := by
  refine MetW.intro [.val (.ref (n0 + 1)), .val (.int t), .val (.int x), .unset] pn5 rfl ?_
  refine go_iconst (v := (2 : Int32)) i5_0 (by decide) ?_
  refine go_iloadN i5_1 rfl ?_
  refine go_imul i5_2 ?_
  refine go_iconst (v := (1 : Int32)) i5_3 (by decide) ?_
  refine go_iadd i5_4 ?_
  refine go_istore3 i5_5 (by first | exact One.u | exact One.val rfl) ?_
  refine go_iloadN i5_6 rfl ?_
  refine go_aloadN i5_7 rfl ?_
  refine go_getfield 3 i5_8 (hw _ (List.mem_of_getElem? (i := 26) rfl)) rfl rfl rfl ?_
  refine go_icmpF i5_11 ((hold_lt _ _).2.mpr h) ?_
  refine go_iloadN i5_14 rfl ?_
  refine go_ireturn i5_15 rfl rfl (Or.inl rfl) (by first | decide | exact Nat.le_of_ble_eq_true rfl | (simp only [room_1]; omega)) (by first | decide | exact Nat.le_of_ble_eq_true rfl | (simp only [room_1]; omega)) ?_
  exact ⟨rfl, rfl⟩
theorem met4a (hw : ∀ d ∈ tables_1, d.before a0 Z = true) (ks hp ps : List Value) (x : Int32) (X : Nat) (hx : x.toInt = (X : Int)) (hX : ps[X]? = some (.int (-1))) (hh : hp.length = 3) : Met Z a0 n0 M4 1 15 0 0 [.ref (n0 + 1), .int x] (HH n0 ks hp ps 0) (Eq0 (HH n0 ks (hp.set 0 (.int x)) (ps.set X (.int 0)) 1)) := by
  refine MetW.intro [.val (.ref (n0 + 1)), .val (.int x), .unset, .unset, .unset] pn4 rfl ?_
  have hXl := (List.getElem?_eq_some_iff.mp hX).1
  refine go_aloadN i4_0 rfl ?_
  refine go_getfield 2 i4_1 (hw _ (List.mem_of_getElem? (i := 15) rfl)) rfl rfl rfl ?_
  refine go_iloadN i4_4 rfl ?_
  refine go_iaload i4_5 rfl hx hX ?_
  refine go_istore2 i4_6 (by first | exact One.u | exact One.val rfl) ?_
  refine go_iloadN i4_7 rfl ?_
  refine go_ifF i4_8 (by decide) ?_
  refine go_aloadN i4_11 rfl ?_
  refine go_dup i4_12 rfl ?_
  refine go_getfield 3 i4_13 (hw _ (List.mem_of_getElem? (i := 26) rfl)) rfl rfl rfl ?_
  refine go_dupX1 i4_16 rfl rfl ?_
  refine go_iconst (v := (1 : Int32)) i4_17 (by decide) ?_
  refine go_iadd i4_18 ?_
  refine go_putfield 3 i4_19 (hw _ (List.mem_of_getElem? (i := 26) rfl)) rfl rfl rfl (Or.inl (hw _ (List.mem_of_getElem? (i := 27) rfl))) rfl rfl ?_
  refine go_istore2 i4_22 (by first | exact One.u | exact One.val rfl) ?_
  refine go_iloadN i4_23 rfl ?_
  refine go_istore3 i4_24 (by first | exact One.u | exact One.val rfl) ?_
  refine go_iloadN i4_25 rfl ?_
  refine go_ifT 72 i4_26 (by decide) (by decide) ?_
  refine go_iloadN i4_72 rfl ?_
  refine go_iloadN i4_73 rfl ?_
  refine go_icmpF i4_74 (by decide) ?_
  refine go_aloadN i4_77 rfl ?_
  refine go_iloadN i4_78 rfl ?_
  refine go_iloadN i4_79 rfl ?_
  refine go_private i4_80 (met5 hw ks hp ps (0 + 1) x 0 (by decide)) rfl (hw _ (List.mem_of_getElem? (i := 28) rfl)) (hw _ (List.mem_of_getElem? (i := 2) rfl)) (hw _ (List.mem_of_getElem? (i := 29) rfl)) (hw _ (List.mem_of_getElem? (i := 30) rfl)) (hw _ (List.mem_of_getElem? (i := 3) rfl)) (hw _ (List.mem_of_getElem? (i := 31) rfl)) rfl pd5 rfl rfl rfl (by first | decide | exact Nat.le_of_ble_eq_true rfl | (simp only [room_1]; omega)) (by first | decide | exact Nat.le_of_ble_eq_true rfl | (simp only [room_1]; omega)) (by first | decide | exact Nat.le_of_ble_eq_true rfl | (simp only [room_1]; omega)) (by first | decide | exact Nat.le_of_ble_eq_true rfl | (simp only [room_1]; omega)) (retE rfl ?_)
  refine go_istore2 i4_83 (by first | exact One.u | exact One.val rfl) ?_
  refine go_aloadN i4_84 rfl ?_
  refine go_iloadN i4_85 rfl ?_
  refine go_iloadN i4_86 rfl ?_
  refine go_private i4_87 (met6 hw ks hp ps (0 + 1) x 0 X 0 hx (by decide) (by omega) hXl) rfl (hw _ (List.mem_of_getElem? (i := 32) rfl)) (hw _ (List.mem_of_getElem? (i := 2) rfl)) (hw _ (List.mem_of_getElem? (i := 33) rfl)) (hw _ (List.mem_of_getElem? (i := 34) rfl)) (hw _ (List.mem_of_getElem? (i := 3) rfl)) (hw _ (List.mem_of_getElem? (i := 35) rfl)) rfl pd6 rfl rfl rfl (by first | decide | exact Nat.le_of_ble_eq_true rfl | (simp only [room_1]; omega)) (by first | decide | exact Nat.le_of_ble_eq_true rfl | (simp only [room_1]; omega)) (by first | decide | exact Nat.le_of_ble_eq_true rfl | (simp only [room_1]; omega)) (by first | decide | exact Nat.le_of_ble_eq_true rfl | (simp only [room_1]; omega)) (retV rfl ?_)
  refine go_return i4_90 rfl (by first | decide | exact Nat.le_of_ble_eq_true rfl | (simp only [room_1]; omega)) (by first | decide | exact Nat.le_of_ble_eq_true rfl | (simp only [room_1]; omega)) ?_
  exact ⟨rfl, rfl⟩
theorem met4b (hw : ∀ d ∈ tables_1, d.before a0 Z = true) (ks hp ps : List Value) (x r s : Int32) (X S P : Nat) (s' : Int32) (hs : (s = 1 ∧ S = 1 ∧ s' = 2) ∨ (s = 2 ∧ S = 2 ∧ s' = 3)) (hx : x.toInt = (X : Int)) (hr : r.toInt = (P : Int)) (hX : ps[X]? = some (.int (-1))) (hR : hp[0]? = some (.int r)) (hPl : P < ps.length) (hh : hp.length = 3) (a b : Int64) (ha : ks[X]? = some (.long a)) (hb : ks[P]? = some (.long b)) : Met Z a0 n0 M4 1 15 0 0 [.ref (n0 + 1), .int x] (HH n0 ks hp ps s)
    (Eq0 (if own_bf a b x r then HH n0 ks ((hp.set S (.int r)).set 0 (.int x)) ((ps.set P (.int s)).set X (.int 0)) s' else HH n0 ks (hp.set S (.int x)) (ps.set X (.int s)) s')) := by
  refine MetW.intro [.val (.ref (n0 + 1)), .val (.int x), .unset, .unset, .unset] pn4 rfl ?_
  have hXl := (List.getElem?_eq_some_iff.mp hX).1
  rcases hs with ⟨rfl, rfl, rfl⟩ | ⟨rfl, rfl, rfl⟩
  all_goals
    refine go_aloadN i4_0 rfl ?_
    refine go_getfield 2 i4_1 (hw _ (List.mem_of_getElem? (i := 15) rfl)) rfl rfl rfl ?_
    refine go_iloadN i4_4 rfl ?_
    refine go_iaload i4_5 rfl hx hX ?_
    refine go_istore2 i4_6 (by first | exact One.u | exact One.val rfl) ?_
    refine go_iloadN i4_7 rfl ?_
    refine go_ifF i4_8 (by decide) ?_
    refine go_aloadN i4_11 rfl ?_
    refine go_dup i4_12 rfl ?_
    refine go_getfield 3 i4_13 (hw _ (List.mem_of_getElem? (i := 26) rfl)) rfl rfl rfl ?_
    refine go_dupX1 i4_16 rfl rfl ?_
    refine go_iconst (v := (1 : Int32)) i4_17 (by decide) ?_
    refine go_iadd i4_18 ?_
    refine go_putfield 3 i4_19 (hw _ (List.mem_of_getElem? (i := 26) rfl)) rfl rfl rfl (Or.inl (hw _ (List.mem_of_getElem? (i := 27) rfl))) rfl rfl ?_
    refine go_istore2 i4_22 (by first | exact One.u | exact One.val rfl) ?_
    refine go_iloadN i4_23 rfl ?_
    refine go_istore3 i4_24 (by first | exact One.u | exact One.val rfl) ?_
    refine go_iloadN i4_25 rfl ?_
    refine go_ifF i4_26 (by decide) ?_
    refine go_iloadN i4_29 rfl ?_
    refine go_iconst (v := (1 : Int32)) i4_30 (by decide) ?_
    refine go_isub i4_31 ?_
    refine go_iconst (v := (2 : Int32)) i4_32 (by decide) ?_
    refine go_idiv i4_33 (by decide) ?_
    refine go_istore4 i4_34 (by first | exact One.u | exact One.val rfl) ?_
    refine go_aloadN i4_36 rfl ?_
    refine go_iloadN i4_37 rfl ?_
    refine go_aloadN i4_38 rfl ?_
    refine go_getfield 1 i4_39 (hw _ (List.mem_of_getElem? (i := 13) rfl)) rfl rfl rfl ?_
    refine go_iload i4_42 rfl ?_
    refine go_iaload i4_44 rfl (i := 0) (by decide) hR ?_
    refine go_private i4_45 (met10 hw ks hp ps _ x r X P a b hx hr ha hb) rfl (hw _ (List.mem_of_getElem? (i := 53) rfl)) (hw _ (List.mem_of_getElem? (i := 2) rfl)) (hw _ (List.mem_of_getElem? (i := 54) rfl)) (hw _ (List.mem_of_getElem? (i := 55) rfl)) (hw _ (List.mem_of_getElem? (i := 3) rfl)) (hw _ (List.mem_of_getElem? (i := 56) rfl)) rfl pd10 rfl rfl rfl (by first | decide | exact Nat.le_of_ble_eq_true rfl | (simp only [room_1]; omega)) (by first | decide | exact Nat.le_of_ble_eq_true rfl | (simp only [room_1]; omega)) (by first | decide | exact Nat.le_of_ble_eq_true rfl | (simp only [room_1]; omega)) (by first | decide | exact Nat.le_of_ble_eq_true rfl | (simp only [room_1]; omega)) (retE rfl ?_)
    by_cases hq : own_bf a b x r
    · rw [if_pos hq, if_pos hq]
      refine go_ifT 54 i4_48 (by decide) (by decide) ?_
      refine go_aloadN i4_54 rfl ?_
      refine go_aloadN i4_55 rfl ?_
      refine go_getfield 1 i4_56 (hw _ (List.mem_of_getElem? (i := 13) rfl)) rfl rfl rfl ?_
      refine go_iload i4_59 rfl ?_
      refine go_iaload i4_61 rfl (i := 0) (by decide) hR ?_
      refine go_iloadN i4_62 rfl ?_
      first
        | refine go_private i4_63 (met6 hw ks hp ps _ r 1 P 1 hr (by decide) (by omega) hPl) rfl (hw _ (List.mem_of_getElem? (i := 32) rfl)) (hw _ (List.mem_of_getElem? (i := 2) rfl)) (hw _ (List.mem_of_getElem? (i := 33) rfl)) (hw _ (List.mem_of_getElem? (i := 34) rfl)) (hw _ (List.mem_of_getElem? (i := 3) rfl)) (hw _ (List.mem_of_getElem? (i := 35) rfl)) rfl pd6 rfl rfl rfl (by decide) (by decide) (by decide) (by decide) (retV rfl ?_)
        | refine go_private i4_63 (met6 hw ks hp ps _ r 2 P 2 hr (by decide) (by omega) hPl) rfl (hw _ (List.mem_of_getElem? (i := 32) rfl)) (hw _ (List.mem_of_getElem? (i := 2) rfl)) (hw _ (List.mem_of_getElem? (i := 33) rfl)) (hw _ (List.mem_of_getElem? (i := 34) rfl)) (hw _ (List.mem_of_getElem? (i := 3) rfl)) (hw _ (List.mem_of_getElem? (i := 35) rfl)) rfl pd6 rfl rfl rfl (by decide) (by decide) (by decide) (by decide) (retV rfl ?_)
      refine go_iload i4_66 rfl ?_
      refine go_istore2 i4_68 (by first | exact One.u | exact One.val rfl) ?_
      refine go_goto 25 i4_69 (by decide) ?_
      refine go_iloadN i4_25 rfl ?_
      refine go_ifT 72 i4_26 (by decide) (by decide) ?_
      refine go_iloadN i4_72 rfl ?_
      refine go_iloadN i4_73 rfl ?_
      refine go_icmpT 84 i4_74 (by decide) (by decide) ?_
      refine go_aloadN i4_84 rfl ?_
      refine go_iloadN i4_85 rfl ?_
      refine go_iloadN i4_86 rfl ?_
      refine go_private i4_87 (met6 hw ks _ _ _ x _ X 0 hx (by decide) (by simp; omega) (by simp; omega)) rfl (hw _ (List.mem_of_getElem? (i := 32) rfl)) (hw _ (List.mem_of_getElem? (i := 2) rfl)) (hw _ (List.mem_of_getElem? (i := 33) rfl)) (hw _ (List.mem_of_getElem? (i := 34) rfl)) (hw _ (List.mem_of_getElem? (i := 3) rfl)) (hw _ (List.mem_of_getElem? (i := 35) rfl)) rfl pd6 rfl rfl rfl (by first | decide | exact Nat.le_of_ble_eq_true rfl | (simp only [room_1]; omega)) (by first | decide | exact Nat.le_of_ble_eq_true rfl | (simp only [room_1]; omega)) (by first | decide | exact Nat.le_of_ble_eq_true rfl | (simp only [room_1]; omega)) (by first | decide | exact Nat.le_of_ble_eq_true rfl | (simp only [room_1]; omega)) (retV rfl ?_)
      refine go_return i4_90 rfl (by first | decide | exact Nat.le_of_ble_eq_true rfl | (simp only [room_1]; omega)) (by first | decide | exact Nat.le_of_ble_eq_true rfl | (simp only [room_1]; omega)) ?_
      exact ⟨rfl, rfl⟩
    · rw [if_neg hq, if_neg hq]
      refine go_ifF i4_48 (by decide) ?_
      refine go_goto 72 i4_51 (by decide) ?_
      refine go_iloadN i4_72 rfl ?_
      refine go_iloadN i4_73 rfl ?_
      refine go_icmpF i4_74 (by decide) ?_
      refine go_aloadN i4_77 rfl ?_
      refine go_iloadN i4_78 rfl ?_
      refine go_iloadN i4_79 rfl ?_
      refine go_private i4_80 (met5 hw ks hp ps _ x _ (by decide)) rfl (hw _ (List.mem_of_getElem? (i := 28) rfl)) (hw _ (List.mem_of_getElem? (i := 2) rfl)) (hw _ (List.mem_of_getElem? (i := 29) rfl)) (hw _ (List.mem_of_getElem? (i := 30) rfl)) (hw _ (List.mem_of_getElem? (i := 3) rfl)) (hw _ (List.mem_of_getElem? (i := 31) rfl)) rfl pd5 rfl rfl rfl (by first | decide | exact Nat.le_of_ble_eq_true rfl | (simp only [room_1]; omega)) (by first | decide | exact Nat.le_of_ble_eq_true rfl | (simp only [room_1]; omega)) (by first | decide | exact Nat.le_of_ble_eq_true rfl | (simp only [room_1]; omega)) (by first | decide | exact Nat.le_of_ble_eq_true rfl | (simp only [room_1]; omega)) (retE rfl ?_)
      refine go_istore2 i4_83 (by first | exact One.u | exact One.val rfl) ?_
      refine go_aloadN i4_84 rfl ?_
      refine go_iloadN i4_85 rfl ?_
      refine go_iloadN i4_86 rfl ?_
      first
        | refine go_private i4_87 (met6 hw ks hp ps _ x 1 X 1 hx (by decide) (by omega) hXl) rfl (hw _ (List.mem_of_getElem? (i := 32) rfl)) (hw _ (List.mem_of_getElem? (i := 2) rfl)) (hw _ (List.mem_of_getElem? (i := 33) rfl)) (hw _ (List.mem_of_getElem? (i := 34) rfl)) (hw _ (List.mem_of_getElem? (i := 3) rfl)) (hw _ (List.mem_of_getElem? (i := 35) rfl)) rfl pd6 rfl rfl rfl (by decide) (by decide) (by decide) (by decide) (retV rfl ?_)
        | refine go_private i4_87 (met6 hw ks hp ps _ x 2 X 2 hx (by decide) (by omega) hXl) rfl (hw _ (List.mem_of_getElem? (i := 32) rfl)) (hw _ (List.mem_of_getElem? (i := 2) rfl)) (hw _ (List.mem_of_getElem? (i := 33) rfl)) (hw _ (List.mem_of_getElem? (i := 34) rfl)) (hw _ (List.mem_of_getElem? (i := 3) rfl)) (hw _ (List.mem_of_getElem? (i := 35) rfl)) rfl pd6 rfl rfl rfl (by decide) (by decide) (by decide) (by decide) (retV rfl ?_)
      refine go_return i4_90 rfl (by first | decide | exact Nat.le_of_ble_eq_true rfl | (simp only [room_1]; omega)) (by first | decide | exact Nat.le_of_ble_eq_true rfl | (simp only [room_1]; omega)) ?_
      exact ⟨rfl, rfl⟩
def own_clr (S A B C : Nat) (ps : List Value) : List Value := match S with
  | 0 => ps
  | 1 => ps.set A (.int (-1))
  | 2 => (ps.set A (.int (-1))).set B (.int (-1))
  | _ => ((ps.set A (.int (-1))).set B (.int (-1))).set C (.int (-1))
theorem met7 (hw : ∀ d ∈ tables_1, d.before a0 Z = true) (ks ps : List Value) (s a b c : Int32) (S A B C : Nat) (hs : (s = 0 ∧ S = 0) ∨ (s = 1 ∧ S = 1) ∨ (s = 2 ∧ S = 2) ∨ (s = 3 ∧ S = 3)) (ha : a.toInt = (A : Int)) (hb : b.toInt = (B : Int)) (hc : c.toInt = (C : Int)) (hA : A < ps.length) (hB : B < ps.length) (hC : C < ps.length) : Met Z a0 n0 M7 0 0 0 0 [.ref (n0 + 1)] (HH n0 ks [.int a, .int b, .int c] ps s) (Eq0 (HH n0 ks [.int a, .int b, .int c] (own_clr S A B C ps) 0)) := by
  refine MetW.intro [.val (.ref (n0 + 1)), .unset] pn7 rfl ?_
  rcases hs with ⟨rfl, rfl⟩ | ⟨rfl, rfl⟩ | ⟨rfl, rfl⟩ | ⟨rfl, rfl⟩
  · refine go_iconst (v := (0 : Int32)) i7_0 (by decide) ?_
    refine go_istore1 i7_1 (by first | exact One.u | exact One.val rfl) ?_
    refine go_iloadN i7_2 rfl ?_
    refine go_aloadN i7_3 rfl ?_
    refine go_getfield 3 i7_4 (hw _ (List.mem_of_getElem? (i := 26) rfl)) rfl rfl rfl ?_
    refine go_icmpT 28 i7_7 (by decide) (by decide) ?_
    refine go_aloadN i7_28 rfl ?_
    refine go_iconst (v := (0 : Int32)) i7_29 (by decide) ?_
    refine go_putfield 3 i7_30 (hw _ (List.mem_of_getElem? (i := 26) rfl)) rfl rfl rfl (Or.inl (hw _ (List.mem_of_getElem? (i := 27) rfl))) rfl rfl ?_
    refine go_return i7_33 rfl (by first | decide | exact Nat.le_of_ble_eq_true rfl | (simp only [room_1]; omega)) (by first | decide | exact Nat.le_of_ble_eq_true rfl | (simp only [room_1]; omega)) ?_
    exact ⟨rfl, rfl⟩
  · refine go_iconst (v := (0 : Int32)) i7_0 (by decide) ?_
    refine go_istore1 i7_1 (by first | exact One.u | exact One.val rfl) ?_
    refine go_iloadN i7_2 rfl ?_
    refine go_aloadN i7_3 rfl ?_
    refine go_getfield 3 i7_4 (hw _ (List.mem_of_getElem? (i := 26) rfl)) rfl rfl rfl ?_
    refine go_icmpF i7_7 (by decide) ?_
    refine go_aloadN i7_10 rfl ?_
    refine go_getfield 2 i7_11 (hw _ (List.mem_of_getElem? (i := 15) rfl)) rfl rfl rfl ?_
    refine go_aloadN i7_14 rfl ?_
    refine go_getfield 1 i7_15 (hw _ (List.mem_of_getElem? (i := 13) rfl)) rfl rfl rfl ?_
    refine go_iloadN i7_18 rfl ?_
    refine go_iaload i7_19 rfl (i := 0) (by decide) rfl ?_
    refine go_iconst (v := (-1 : Int32)) i7_20 (by decide) ?_
    refine go_iastore i7_21 rfl ha (own_is _ _ hA) ?_
    refine go_iinc1 (v := 1) i7_22  (by decide) ?_
    refine go_goto 2 i7_25 (by decide) ?_
    refine go_iloadN i7_2 rfl ?_
    refine go_aloadN i7_3 rfl ?_
    refine go_getfield 3 i7_4 (hw _ (List.mem_of_getElem? (i := 26) rfl)) rfl rfl rfl ?_
    refine go_icmpT 28 i7_7 (by decide) (by decide) ?_
    refine go_aloadN i7_28 rfl ?_
    refine go_iconst (v := (0 : Int32)) i7_29 (by decide) ?_
    refine go_putfield 3 i7_30 (hw _ (List.mem_of_getElem? (i := 26) rfl)) rfl rfl rfl (Or.inl (hw _ (List.mem_of_getElem? (i := 27) rfl))) rfl rfl ?_
    refine go_return i7_33 rfl (by first | decide | exact Nat.le_of_ble_eq_true rfl | (simp only [room_1]; omega)) (by first | decide | exact Nat.le_of_ble_eq_true rfl | (simp only [room_1]; omega)) ?_
    exact ⟨rfl, rfl⟩
  · refine go_iconst (v := (0 : Int32)) i7_0 (by decide) ?_
    refine go_istore1 i7_1 (by first | exact One.u | exact One.val rfl) ?_
    refine go_iloadN i7_2 rfl ?_
    refine go_aloadN i7_3 rfl ?_
    refine go_getfield 3 i7_4 (hw _ (List.mem_of_getElem? (i := 26) rfl)) rfl rfl rfl ?_
    refine go_icmpF i7_7 (by decide) ?_
    refine go_aloadN i7_10 rfl ?_
    refine go_getfield 2 i7_11 (hw _ (List.mem_of_getElem? (i := 15) rfl)) rfl rfl rfl ?_
    refine go_aloadN i7_14 rfl ?_
    refine go_getfield 1 i7_15 (hw _ (List.mem_of_getElem? (i := 13) rfl)) rfl rfl rfl ?_
    refine go_iloadN i7_18 rfl ?_
    refine go_iaload i7_19 rfl (i := 0) (by decide) rfl ?_
    refine go_iconst (v := (-1 : Int32)) i7_20 (by decide) ?_
    refine go_iastore i7_21 rfl ha (own_is _ _ hA) ?_
    refine go_iinc1 (v := 1) i7_22  (by decide) ?_
    refine go_goto 2 i7_25 (by decide) ?_
    refine go_iloadN i7_2 rfl ?_
    refine go_aloadN i7_3 rfl ?_
    refine go_getfield 3 i7_4 (hw _ (List.mem_of_getElem? (i := 26) rfl)) rfl rfl rfl ?_
    refine go_icmpF i7_7 (by decide) ?_
    refine go_aloadN i7_10 rfl ?_
    refine go_getfield 2 i7_11 (hw _ (List.mem_of_getElem? (i := 15) rfl)) rfl rfl rfl ?_
    refine go_aloadN i7_14 rfl ?_
    refine go_getfield 1 i7_15 (hw _ (List.mem_of_getElem? (i := 13) rfl)) rfl rfl rfl ?_
    refine go_iloadN i7_18 rfl ?_
    refine go_iaload i7_19 rfl (i := 1) (by decide) rfl ?_
    refine go_iconst (v := (-1 : Int32)) i7_20 (by decide) ?_
    refine go_iastore i7_21 rfl hb (own_is _ _ (by simpa using hB)) ?_
    refine go_iinc1 (v := 2) i7_22  (by decide) ?_
    refine go_goto 2 i7_25 (by decide) ?_
    refine go_iloadN i7_2 rfl ?_
    refine go_aloadN i7_3 rfl ?_
    refine go_getfield 3 i7_4 (hw _ (List.mem_of_getElem? (i := 26) rfl)) rfl rfl rfl ?_
    refine go_icmpT 28 i7_7 (by decide) (by decide) ?_
    refine go_aloadN i7_28 rfl ?_
    refine go_iconst (v := (0 : Int32)) i7_29 (by decide) ?_
    refine go_putfield 3 i7_30 (hw _ (List.mem_of_getElem? (i := 26) rfl)) rfl rfl rfl (Or.inl (hw _ (List.mem_of_getElem? (i := 27) rfl))) rfl rfl ?_
    refine go_return i7_33 rfl (by first | decide | exact Nat.le_of_ble_eq_true rfl | (simp only [room_1]; omega)) (by first | decide | exact Nat.le_of_ble_eq_true rfl | (simp only [room_1]; omega)) ?_
    exact ⟨rfl, rfl⟩
  · refine go_iconst (v := (0 : Int32)) i7_0 (by decide) ?_
    refine go_istore1 i7_1 (by first | exact One.u | exact One.val rfl) ?_
    refine go_iloadN i7_2 rfl ?_
    refine go_aloadN i7_3 rfl ?_
    refine go_getfield 3 i7_4 (hw _ (List.mem_of_getElem? (i := 26) rfl)) rfl rfl rfl ?_
    refine go_icmpF i7_7 (by decide) ?_
    refine go_aloadN i7_10 rfl ?_
    refine go_getfield 2 i7_11 (hw _ (List.mem_of_getElem? (i := 15) rfl)) rfl rfl rfl ?_
    refine go_aloadN i7_14 rfl ?_
    refine go_getfield 1 i7_15 (hw _ (List.mem_of_getElem? (i := 13) rfl)) rfl rfl rfl ?_
    refine go_iloadN i7_18 rfl ?_
    refine go_iaload i7_19 rfl (i := 0) (by decide) rfl ?_
    refine go_iconst (v := (-1 : Int32)) i7_20 (by decide) ?_
    refine go_iastore i7_21 rfl ha (own_is _ _ hA) ?_
    refine go_iinc1 (v := 1) i7_22  (by decide) ?_
    refine go_goto 2 i7_25 (by decide) ?_
    refine go_iloadN i7_2 rfl ?_
    refine go_aloadN i7_3 rfl ?_
    refine go_getfield 3 i7_4 (hw _ (List.mem_of_getElem? (i := 26) rfl)) rfl rfl rfl ?_
    refine go_icmpF i7_7 (by decide) ?_
    refine go_aloadN i7_10 rfl ?_
    refine go_getfield 2 i7_11 (hw _ (List.mem_of_getElem? (i := 15) rfl)) rfl rfl rfl ?_
    refine go_aloadN i7_14 rfl ?_
    refine go_getfield 1 i7_15 (hw _ (List.mem_of_getElem? (i := 13) rfl)) rfl rfl rfl ?_
    refine go_iloadN i7_18 rfl ?_
    refine go_iaload i7_19 rfl (i := 1) (by decide) rfl ?_
    refine go_iconst (v := (-1 : Int32)) i7_20 (by decide) ?_
    refine go_iastore i7_21 rfl hb (own_is _ _ (by simpa using hB)) ?_
    refine go_iinc1 (v := 2) i7_22  (by decide) ?_
    refine go_goto 2 i7_25 (by decide) ?_
    refine go_iloadN i7_2 rfl ?_
    refine go_aloadN i7_3 rfl ?_
    refine go_getfield 3 i7_4 (hw _ (List.mem_of_getElem? (i := 26) rfl)) rfl rfl rfl ?_
    refine go_icmpF i7_7 (by decide) ?_
    refine go_aloadN i7_10 rfl ?_
    refine go_getfield 2 i7_11 (hw _ (List.mem_of_getElem? (i := 15) rfl)) rfl rfl rfl ?_
    refine go_aloadN i7_14 rfl ?_
    refine go_getfield 1 i7_15 (hw _ (List.mem_of_getElem? (i := 13) rfl)) rfl rfl rfl ?_
    refine go_iloadN i7_18 rfl ?_
    refine go_iaload i7_19 rfl (i := 2) (by decide) rfl ?_
    refine go_iconst (v := (-1 : Int32)) i7_20 (by decide) ?_
    refine go_iastore i7_21 rfl hc (own_is _ _ (by simpa using hC)) ?_
    refine go_iinc1 (v := 3) i7_22  (by decide) ?_
    refine go_goto 2 i7_25 (by decide) ?_
    refine go_iloadN i7_2 rfl ?_
    refine go_aloadN i7_3 rfl ?_
    refine go_getfield 3 i7_4 (hw _ (List.mem_of_getElem? (i := 26) rfl)) rfl rfl rfl ?_
    refine go_icmpT 28 i7_7 (by decide) (by decide) ?_
    refine go_aloadN i7_28 rfl ?_
    refine go_iconst (v := (0 : Int32)) i7_29 (by decide) ?_
    refine go_putfield 3 i7_30 (hw _ (List.mem_of_getElem? (i := 26) rfl)) rfl rfl rfl (Or.inl (hw _ (List.mem_of_getElem? (i := 27) rfl))) rfl rfl ?_
    refine go_return i7_33 rfl (by first | decide | exact Nat.le_of_ble_eq_true rfl | (simp only [room_1]; omega)) (by first | decide | exact Nat.le_of_ble_eq_true rfl | (simp only [room_1]; omega)) ?_
    exact ⟨rfl, rfl⟩
theorem met8 (hw : ∀ d ∈ tables_1, d.before a0 Z = true) (ks hp ps : List Value) (s : Int32) : Met Z a0 n0 M8 0 0 0 0 [.ref (n0 + 1)] (HH n0 ks hp ps s) (Eq1 (.int (if s = 0 then 1 else 0)) (HH n0 ks hp ps s)) := by
  refine MetW.intro [.val (.ref (n0 + 1))] pn8 rfl ?_
  refine go_aloadN i8_0 rfl ?_
  refine go_getfield 3 i8_1 (hw _ (List.mem_of_getElem? (i := 26) rfl)) rfl rfl rfl ?_
  refine go_if_ne 11 i8_4 (by decide) (fun h => ?_) (fun h => ?_)
  · refine go_iconst (v := (0 : Int32)) i8_11 (by decide) ?_
    refine go_ireturn i8_12 rfl rfl (Or.inr (Or.inl rfl)) (by first | decide | exact Nat.le_of_ble_eq_true rfl | (simp only [room_1]; omega)) (by first | decide | exact Nat.le_of_ble_eq_true rfl | (simp only [room_1]; omega)) ?_
    exact ⟨by rw [if_neg h], rfl⟩
  · refine go_iconst (v := (1 : Int32)) i8_7 (by decide) ?_
    refine go_goto 12 i8_8 (by decide) ?_
    refine go_ireturn i8_12 rfl rfl (Or.inr (Or.inl rfl)) (by first | decide | exact Nat.le_of_ble_eq_true rfl | (simp only [room_1]; omega)) (by first | decide | exact Nat.le_of_ble_eq_true rfl | (simp only [room_1]; omega)) ?_
    exact ⟨by rw [if_pos h], rfl⟩
theorem met9a (hw : ∀ d ∈ tables_1, d.before a0 Z = true) (ks ps : List Value) (x : Int32) (y z : Value) (X : Nat) (hx : x.toInt = (X : Int)) (hX : X < ps.length) : Met Z a0 n0 M9 1 17 0 0 [.ref (n0 + 1)] (HH n0 ks [.int x, y, z] ps 1) (Eq1 (.int x) (HH n0 ks [.int x, y, z] (ps.set X (.int (-1))) 0)) := by
  refine MetW.intro [.val (.ref (n0 + 1)), .unset, .unset] pn9 rfl ?_
  refine go_aloadN i9_0 rfl ?_
  refine go_getfield 1 i9_1 (hw _ (List.mem_of_getElem? (i := 13) rfl)) rfl rfl rfl ?_
  refine go_iconst (v := (0 : Int32)) i9_4 (by decide) ?_
  refine go_iaload (i := 0) i9_5 rfl (by decide) rfl ?_
  refine go_istore1 i9_6 (by first | exact One.u | exact One.val rfl) ?_
  refine go_aloadN i9_7 rfl ?_
  refine go_getfield 2 i9_8 (hw _ (List.mem_of_getElem? (i := 15) rfl)) rfl rfl rfl ?_
  refine go_iloadN i9_11 rfl ?_
  refine go_iconst (v := (-1 : Int32)) i9_12 (by decide) ?_
  refine go_iastore i9_13 rfl hx (own_is _ _ hX) ?_
  refine go_aloadN i9_14 rfl ?_
  refine go_getfield 1 i9_15 (hw _ (List.mem_of_getElem? (i := 13) rfl)) rfl rfl rfl ?_
  refine go_aloadN i9_18 rfl ?_
  refine go_dup i9_19 rfl ?_
  refine go_getfield 3 i9_20 (hw _ (List.mem_of_getElem? (i := 26) rfl)) rfl rfl rfl ?_
  refine go_iconst (v := (1 : Int32)) i9_23 (by decide) ?_
  refine go_isub i9_24 ?_
  refine go_dupX1 i9_25 rfl rfl ?_
  refine go_putfield 3 i9_26 (hw _ (List.mem_of_getElem? (i := 26) rfl)) rfl rfl rfl (Or.inl (hw _ (List.mem_of_getElem? (i := 27) rfl))) rfl rfl ?_
  refine go_iaload i9_29 rfl (i := 0) (by decide) rfl ?_
  refine go_istore2 i9_30 (by first | exact One.u | exact One.val rfl) ?_
  refine go_aloadN i9_31 rfl ?_
  refine go_getfield 3 i9_32 (hw _ (List.mem_of_getElem? (i := 26) rfl)) rfl rfl rfl ?_
  refine go_ifT 49 i9_35 (by decide) (by decide) ?_
  refine go_iloadN i9_49 rfl ?_
  refine go_ireturn i9_50 rfl rfl (Or.inl rfl) (by first | decide | exact Nat.le_of_ble_eq_true rfl | (simp only [room_1]; omega)) (by first | decide | exact Nat.le_of_ble_eq_true rfl | (simp only [room_1]; omega)) ?_
  exact ⟨rfl, rfl⟩
theorem met9b (hw : ∀ d ∈ tables_1, d.before a0 Z = true) (ks ps : List Value) (x y : Int32) (z : Value) (X Y : Nat) (hx : x.toInt = (X : Int)) (hX : X < ps.length) (hy : y.toInt = (Y : Int)) (hY : Y < ps.length) : Met Z a0 n0 M9 1 17 0 0 [.ref (n0 + 1)] (HH n0 ks [.int x, .int y, z] ps 2) (Eq1 (.int x) (HH n0 ks [.int y, .int y, z] ((ps.set X (.int (-1))).set Y (.int 0)) 1)) := by
  refine MetW.intro [.val (.ref (n0 + 1)), .unset, .unset] pn9 rfl ?_
  refine go_aloadN i9_0 rfl ?_
  refine go_getfield 1 i9_1 (hw _ (List.mem_of_getElem? (i := 13) rfl)) rfl rfl rfl ?_
  refine go_iconst (v := (0 : Int32)) i9_4 (by decide) ?_
  refine go_iaload (i := 0) i9_5 rfl (by decide) rfl ?_
  refine go_istore1 i9_6 (by first | exact One.u | exact One.val rfl) ?_
  refine go_aloadN i9_7 rfl ?_
  refine go_getfield 2 i9_8 (hw _ (List.mem_of_getElem? (i := 15) rfl)) rfl rfl rfl ?_
  refine go_iloadN i9_11 rfl ?_
  refine go_iconst (v := (-1 : Int32)) i9_12 (by decide) ?_
  refine go_iastore i9_13 rfl hx (own_is _ _ hX) ?_
  refine go_aloadN i9_14 rfl ?_
  refine go_getfield 1 i9_15 (hw _ (List.mem_of_getElem? (i := 13) rfl)) rfl rfl rfl ?_
  refine go_aloadN i9_18 rfl ?_
  refine go_dup i9_19 rfl ?_
  refine go_getfield 3 i9_20 (hw _ (List.mem_of_getElem? (i := 26) rfl)) rfl rfl rfl ?_
  refine go_iconst (v := (1 : Int32)) i9_23 (by decide) ?_
  refine go_isub i9_24 ?_
  refine go_dupX1 i9_25 rfl rfl ?_
  refine go_putfield 3 i9_26 (hw _ (List.mem_of_getElem? (i := 26) rfl)) rfl rfl rfl (Or.inl (hw _ (List.mem_of_getElem? (i := 27) rfl))) rfl rfl ?_
  refine go_iaload i9_29 rfl (i := 1) (by decide) rfl ?_
  refine go_istore2 i9_30 (by first | exact One.u | exact One.val rfl) ?_
  refine go_aloadN i9_31 rfl ?_
  refine go_getfield 3 i9_32 (hw _ (List.mem_of_getElem? (i := 26) rfl)) rfl rfl rfl ?_
  refine go_ifF i9_35 (by decide) ?_
  refine go_aloadN i9_38 rfl ?_
  refine go_iloadN i9_39 rfl ?_
  refine go_aloadN i9_40 rfl ?_
  refine go_iconst (v := (0 : Int32)) i9_41 (by decide) ?_
  refine go_iloadN i9_42 rfl ?_
  refine go_private i9_43 (met5 hw ks _ _ _ y 0 (by decide)) rfl (hw _ (List.mem_of_getElem? (i := 28) rfl)) (hw _ (List.mem_of_getElem? (i := 2) rfl)) (hw _ (List.mem_of_getElem? (i := 29) rfl)) (hw _ (List.mem_of_getElem? (i := 30) rfl)) (hw _ (List.mem_of_getElem? (i := 3) rfl)) (hw _ (List.mem_of_getElem? (i := 31) rfl)) rfl pd5 rfl rfl rfl (by first | decide | exact Nat.le_of_ble_eq_true rfl | (simp only [room_1]; omega)) (by first | decide | exact Nat.le_of_ble_eq_true rfl | (simp only [room_1]; omega)) (by first | decide | exact Nat.le_of_ble_eq_true rfl | (simp only [room_1]; omega)) (by first | decide | exact Nat.le_of_ble_eq_true rfl | (simp only [room_1]; omega)) (retE rfl ?_)
  refine go_private i9_46 (met6 hw ks _ _ _ y 0 Y 0 hy (by decide) (by simp) (by simpa using hY)) rfl (hw _ (List.mem_of_getElem? (i := 32) rfl)) (hw _ (List.mem_of_getElem? (i := 2) rfl)) (hw _ (List.mem_of_getElem? (i := 33) rfl)) (hw _ (List.mem_of_getElem? (i := 34) rfl)) (hw _ (List.mem_of_getElem? (i := 3) rfl)) (hw _ (List.mem_of_getElem? (i := 35) rfl)) rfl pd6 rfl rfl rfl (by first | decide | exact Nat.le_of_ble_eq_true rfl | (simp only [room_1]; omega)) (by first | decide | exact Nat.le_of_ble_eq_true rfl | (simp only [room_1]; omega)) (by first | decide | exact Nat.le_of_ble_eq_true rfl | (simp only [room_1]; omega)) (by first | decide | exact Nat.le_of_ble_eq_true rfl | (simp only [room_1]; omega)) (retV rfl ?_)
  refine go_iloadN i9_49 rfl ?_
  refine go_ireturn i9_50 rfl rfl (Or.inl rfl) (by first | decide | exact Nat.le_of_ble_eq_true rfl | (simp only [room_1]; omega)) (by first | decide | exact Nat.le_of_ble_eq_true rfl | (simp only [room_1]; omega)) ?_
  exact ⟨rfl, rfl⟩
theorem met3 (hw : ∀ d ∈ tables_1, d.before a0 Z = true) (A B C : GObj) (x y z : Int32) : Met Z a0 n0 M3 0 0 0 0 [.ref (n0 + 3), .int (-1)] [A, B, C, .inr (.int, [.int x, .int y, .int z])] (Eq0 [A, B, C, .inr (.int, [.int (-1), .int (-1), .int (-1)])]) := by
  refine MetW.intro [.val (.ref (n0 + 3)), .val (.int (-1)), .unset, .unset] pn3 rfl ?_
  refine go_iconst (v := (0 : Int32)) i3_0 (by decide) ?_
  refine go_istore2 i3_1 (by first | exact One.u | exact One.val rfl) ?_
  refine go_aloadN i3_2 rfl ?_
  refine go_arraylength i3_3 rfl (n := 3) rfl ?_
  refine go_istore3 i3_4 (by first | exact One.u | exact One.val rfl) ?_
  refine go_iloadN i3_5 rfl ?_
  refine go_iloadN i3_6 rfl ?_
  refine go_icmpF i3_7 (by decide) ?_
  refine go_aloadN i3_10 rfl ?_
  refine go_iloadN i3_11 rfl ?_
  refine go_iloadN i3_12 rfl ?_
  refine go_iastore i3_13 rfl (i := 0) (by decide) rfl ?_
  refine go_iinc2 (v := 1) i3_14  (by decide) ?_
  refine go_goto 5 i3_17 (by decide) ?_
  refine go_iloadN i3_5 rfl ?_
  refine go_iloadN i3_6 rfl ?_
  refine go_icmpF i3_7 (by decide) ?_
  refine go_aloadN i3_10 rfl ?_
  refine go_iloadN i3_11 rfl ?_
  refine go_iloadN i3_12 rfl ?_
  refine go_iastore i3_13 rfl (i := 1) (by decide) rfl ?_
  refine go_iinc2 (v := 2) i3_14  (by decide) ?_
  refine go_goto 5 i3_17 (by decide) ?_
  refine go_iloadN i3_5 rfl ?_
  refine go_iloadN i3_6 rfl ?_
  refine go_icmpF i3_7 (by decide) ?_
  refine go_aloadN i3_10 rfl ?_
  refine go_iloadN i3_11 rfl ?_
  refine go_iloadN i3_12 rfl ?_
  refine go_iastore i3_13 rfl (i := 2) (by decide) rfl ?_
  refine go_iinc2 (v := 3) i3_14  (by decide) ?_
  refine go_goto 5 i3_17 (by decide) ?_
  refine go_iloadN i3_5 rfl ?_
  refine go_iloadN i3_6 rfl ?_
  refine go_icmpT 20 i3_7 (by decide) (by decide) ?_
  refine go_return i3_20 rfl (by first | decide | exact Nat.le_of_ble_eq_true rfl | (simp only [room_1]; omega)) (by first | decide | exact Nat.le_of_ble_eq_true rfl | (simp only [room_1]; omega)) ?_
  exact ⟨rfl, rfl⟩
theorem met1 (hw : ∀ d ∈ tables_1, d.before a0 Z = true) (x y z : Value) : Met Z a0 n0 M1 1 15 2 6 [.ref (n0 + 1), .ref (n0 + 0)] [.inr (.long, [x, y, z]), .inl (KH, [.null, .null, .null, .int 0])] (Eq0 (HH n0 [x, y, z] [.int 0, .int 0, .int 0] [.int (-1), .int (-1), .int (-1)] 0)) := by
  refine MetW.intro [.val (.ref (n0 + 1)), .val (.ref (n0 + 0))] pn1 rfl ?_
  refine go_aloadN i1_0 rfl ?_
  refine go_initO i1_1 (hw _ (List.mem_of_getElem? (i := 7) rfl)) (hw _ (List.mem_of_getElem? (i := 8) rfl)) (hw _ (List.mem_of_getElem? (i := 9) rfl)) rfl (by decide) (by decide) ?_
  refine go_aloadN i1_4 rfl ?_
  refine go_aloadN i1_5 rfl ?_
  refine go_putfield 0 i1_6 (hw _ (List.mem_of_getElem? (i := 10) rfl)) rfl rfl rfl (Or.inr ⟨(hw _ (List.mem_of_getElem? (i := 11) rfl)), rfl, rfl⟩) rfl rfl ?_
  refine go_aloadN i1_9 rfl ?_
  refine go_aloadN i1_10 rfl ?_
  refine go_arraylength i1_11 rfl (n := 3) rfl ?_
  refine go_newarray (k := 2) 3 i1_12 rfl (hw _ (List.mem_of_getElem? (i := 12) rfl)) (by decide) rfl (by decide) (by decide) rfl (by first | decide | exact Nat.le_of_ble_eq_true rfl | (simp only [room_1]; omega)) (by first | decide | exact Nat.le_of_ble_eq_true rfl | (simp only [room_1]; omega)) ?_
  refine go_putfield 1 i1_14 (hw _ (List.mem_of_getElem? (i := 13) rfl)) rfl rfl rfl (Or.inr ⟨(hw _ (List.mem_of_getElem? (i := 14) rfl)), rfl, rfl⟩) rfl rfl ?_
  refine go_aloadN i1_17 rfl ?_
  refine go_aloadN i1_18 rfl ?_
  refine go_arraylength i1_19 rfl (n := 3) rfl ?_
  refine go_newarray (k := 3) 3 i1_20 rfl (hw _ (List.mem_of_getElem? (i := 12) rfl)) (by decide) rfl (by decide) (by decide) rfl (by first | decide | exact Nat.le_of_ble_eq_true rfl | (simp only [room_1]; omega)) (by first | decide | exact Nat.le_of_ble_eq_true rfl | (simp only [room_1]; omega)) ?_
  refine go_putfield 2 i1_22 (hw _ (List.mem_of_getElem? (i := 15) rfl)) rfl rfl rfl (Or.inr ⟨(hw _ (List.mem_of_getElem? (i := 16) rfl)), rfl, rfl⟩) rfl rfl ?_
  refine go_aloadN i1_25 rfl ?_
  refine go_getfield 2 i1_26 (hw _ (List.mem_of_getElem? (i := 15) rfl)) rfl rfl rfl ?_
  refine go_iconst (v := (-1 : Int32)) i1_29 (by decide) ?_
  refine go_static i1_30 (met3 hw _ _ _ 0 0 0) (hw _ (List.mem_of_getElem? (i := 17) rfl)) (hw _ (List.mem_of_getElem? (i := 18) rfl)) (hw _ (List.mem_of_getElem? (i := 19) rfl)) (hw _ (List.mem_of_getElem? (i := 20) rfl)) rfl pd3 rfl rfl rfl (by first | decide | exact Nat.le_of_ble_eq_true rfl | (simp only [room_1]; omega)) (by first | decide | exact Nat.le_of_ble_eq_true rfl | (simp only [room_1]; omega)) (by first | decide | exact Nat.le_of_ble_eq_true rfl | (simp only [room_1]; omega)) (by first | decide | exact Nat.le_of_ble_eq_true rfl | (simp only [room_1]; omega)) (retV rfl ?_)
  refine go_return i1_33 rfl (by first | decide | exact Nat.le_of_ble_eq_true rfl | (simp only [room_1]; omega)) (by first | decide | exact Nat.le_of_ble_eq_true rfl | (simp only [room_1]; omega)) ?_
  exact ⟨rfl, rfl⟩
abbrev own_G (Z : State) (a0 : Array Value) (n0 : Nat) := Go Z a0 n0 M0 room_1 (fun v _ => v = some (.int 1))
abbrev own_K (k0 k1 k2 : Int64) : List Value := [.long k0, .long k1, .long k2]
abbrev own_m : List Value := [.int (-1), .int (-1), .int (-1)]
abbrev own_L (n0 : Nat) (k0 k1 k2 : Int64) (m : Int32) (t : List Slot) : List Slot := .val (.long k0) :: .second :: .val (.long k1) :: .second :: .val (.long k2) :: .second :: .val (.int m) :: .val (.ref (n0 + 0)) :: .val (.ref (n0 + 1)) :: t
abbrev own_U : List Slot := [.unset, .unset, .unset, .unset, .unset, .unset, .unset, .unset]
theorem own_key (k0 k1 k2 : Int64) {A : Nat} (h : A < 3) : ∃ k : Int64, (own_K k0 k1 k2)[A]? = some (.long k) := by
  rcases (by omega : A = 0 ∨ A = 1 ∨ A = 2) with rfl | rfl | rfl
  · exact ⟨_, rfl⟩
  · exact ⟨_, rfl⟩
  · exact ⟨_, rfl⟩
theorem own_m1 {A : Nat} (h : A < 3) : own_m[A]? = some (.int (-1)) := by
  rcases (by omega : A = 0 ∨ A = 1 ∨ A = 2) with rfl | rfl | rfl <;> rfl
theorem own_asym {ka kb : Int64} {a b : Int32} (h : own_bf kb ka b a) : ¬ own_bf ka kb a b := by
  unfold own_bf at *
  rw [Int64.lt_iff_toInt_lt, Int32.lt_iff_toInt_lt, ← Int64.toInt_inj] at *
  omega
theorem own_tot {ka kb : Int64} {a b : Int32} (hne : a.toInt ≠ b.toInt) (h : ¬ own_bf kb ka b a) : own_bf ka kb a b := by
  unfold own_bf at *
  rw [Int64.lt_iff_toInt_lt, Int32.lt_iff_toInt_lt, ← Int64.toInt_inj] at *
  omega
theorem g73 (hw : ∀ d ∈ tables_1, d.before a0 Z = true) (k0 k1 k2 : Int64) (m : Int32) (x y z : Int32) : own_G Z a0 n0 73 (own_L n0 k0 k1 k2 m own_U) [] (HH n0 (own_K k0 k1 k2) [.int x, .int y, .int z] own_m 0) 4 13 := by
  refine go_aload i0_73 rfl ?_
  refine go_virtual i0_75 (met8 hw _ _ _ 0) rfl (hw _ (List.mem_of_getElem? (i := 41) rfl)) (hw _ (List.mem_of_getElem? (i := 42) rfl)) (hw _ (List.mem_of_getElem? (i := 44) rfl)) (hw _ (List.mem_of_getElem? (i := 43) rfl)) (hw _ (List.mem_of_getElem? (i := 3) rfl)) (hw _ (List.mem_of_getElem? (i := 45) rfl)) rfl pd8 rfl rfl rfl (by first | decide | exact Nat.le_of_ble_eq_true rfl | (simp only [room_1]; omega)) (by first | decide | exact Nat.le_of_ble_eq_true rfl | (simp only [room_1]; omega)) (by first | decide | exact Nat.le_of_ble_eq_true rfl | (simp only [room_1]; omega)) (by first | decide | exact Nat.le_of_ble_eq_true rfl | (simp only [room_1]; omega)) (retE rfl ?_)
  rw [if_pos rfl]
  refine go_ifT 83 i0_78 (by decide) (by decide) ?_
  refine go_iload i0_83 rfl ?_
  refine go_iconst (v := (3 : Int32)) i0_85 (by decide) ?_
  refine go_iushr i0_86 ?_
  refine go_ldc i0_87 (hw _ (List.mem_of_getElem? (i := 46) rfl)) ?_
  refine go_iand i0_89 ?_
  have hu := c_mask (XT.ushr m 3) 65535 16 (by decide) (by decide)
  generalize XT.ushr m 3 &&& 65535 = u at *
  refine go_istore9 i0_90 (by first | exact One.u | exact One.val rfl) ?_
  refine go_iload i0_92 rfl ?_
  refine go_iconst (v := (3 : Int32)) i0_94 (by decide) ?_
  refine go_irem i0_95 (by decide) ?_
  have hA0 := (c_irem u 3 3 (by decide)).1 (by omega)
  generalize u % 3 = a at *
  refine go_istore10 i0_96 (by first | exact One.u | exact One.val rfl) ?_
  refine go_iload i0_98 rfl ?_
  refine go_iconst (v := (1 : Int32)) i0_100 (by decide) ?_
  refine go_iadd i0_101 ?_
  refine go_iload i0_102 rfl ?_
  refine go_iconst (v := (3 : Int32)) i0_104 (by decide) ?_
  refine go_idiv i0_105 (by decide) ?_
  refine go_iconst (v := (1 : Int32)) i0_106 (by decide) ?_
  refine go_iand i0_107 ?_
  refine go_iadd i0_108 ?_
  refine go_iconst (v := (3 : Int32)) i0_109 (by decide) ?_
  refine go_irem i0_110 (by decide) ?_
  have hd := c_mask (u / 3) 1 1 (by decide) (by decide)
  have h1 := c_iadd a 1
  have h2 := c_iadd (a + 1) ((u / 3) &&& 1)
  have r1 := rng32 (a + 1)
  have r2 := rng32 (a + 1 + ((u / 3) &&& 1))
  have o1 : (1 : Int32).toInt = 1 := by decide
  rw [o1] at h1
  have q1 : (a + 1).toInt = a.toInt + 1 := by omega
  have q2 : (a + 1 + ((u / 3) &&& 1)).toInt = a.toInt + 1 + ((u / 3) &&& 1).toInt := by omega
  have hB0 := (c_irem (a + 1 + ((u / 3) &&& 1)) 3 3 (by decide)).1 (by omega)
  generalize (a + 1 + ((u / 3) &&& 1)) % 3 = b at *
  obtain ⟨A, hA⟩ : ∃ A : Nat, a.toInt = (A : Int) := ⟨a.toInt.toNat, by omega⟩
  obtain ⟨B, hB⟩ : ∃ B : Nat, b.toInt = (B : Int) := ⟨b.toInt.toNat, by omega⟩
  have hA3 : A < 3 := by omega
  have hB3 : B < 3 := by omega
  have hAB : A ≠ B := by omega
  clear hu hd h1 h2 r1 r2 hB0 hA0
  obtain ⟨ka, hka⟩ := own_key k0 k1 k2 hA3
  obtain ⟨kb, hkb⟩ := own_key k0 k1 k2 hB3
  have l3 : own_m.length = 3 := rfl
  refine go_istore11 i0_111 (by first | exact One.u | exact One.val rfl) ?_
  refine go_iload i0_113 rfl ?_
  refine go_ldc i0_115 (hw _ (List.mem_of_getElem? (i := 47) rfl)) ?_
  refine go_iand i0_117 ?_
  refine go_if_eq 125 i0_118 (by decide) (fun h => ?_) (fun h => ?_)
  · refine go_iconst (v := (0 : Int32)) i0_125 (by decide) ?_
    refine go_istore12 i0_126 (by first | exact One.u | exact One.val rfl) ?_
    refine go_aload i0_128 rfl ?_
    refine go_iload i0_130 rfl ?_
    refine go_virtual i0_132 (met4a hw _ _ _ a A hA (own_m1 hA3) rfl) rfl (hw _ (List.mem_of_getElem? (i := 21) rfl)) (hw _ (List.mem_of_getElem? (i := 22) rfl)) (hw _ (List.mem_of_getElem? (i := 24) rfl)) (hw _ (List.mem_of_getElem? (i := 23) rfl)) (hw _ (List.mem_of_getElem? (i := 3) rfl)) (hw _ (List.mem_of_getElem? (i := 25) rfl)) rfl pd4 rfl rfl rfl (by first | decide | exact Nat.le_of_ble_eq_true rfl | (simp only [room_1]; omega)) (by first | decide | exact Nat.le_of_ble_eq_true rfl | (simp only [room_1]; omega)) (by first | decide | exact Nat.le_of_ble_eq_true rfl | (simp only [room_1]; omega)) (by first | decide | exact Nat.le_of_ble_eq_true rfl | (simp only [room_1]; omega)) (retV rfl ?_)
    refine go_iload i0_135 rfl ?_
    refine go_ifT 147 i0_137 (by decide) (by decide) ?_
    refine go_aload i0_147 rfl ?_
    refine go_virtual i0_149 (met8 hw _ _ _ 1) rfl (hw _ (List.mem_of_getElem? (i := 41) rfl)) (hw _ (List.mem_of_getElem? (i := 42) rfl)) (hw _ (List.mem_of_getElem? (i := 44) rfl)) (hw _ (List.mem_of_getElem? (i := 43) rfl)) (hw _ (List.mem_of_getElem? (i := 3) rfl)) (hw _ (List.mem_of_getElem? (i := 45) rfl)) rfl pd8 rfl rfl rfl (by first | decide | exact Nat.le_of_ble_eq_true rfl | (simp only [room_1]; omega)) (by first | decide | exact Nat.le_of_ble_eq_true rfl | (simp only [room_1]; omega)) (by first | decide | exact Nat.le_of_ble_eq_true rfl | (simp only [room_1]; omega)) (by first | decide | exact Nat.le_of_ble_eq_true rfl | (simp only [room_1]; omega)) (retE rfl ?_)
    rw [if_neg (by decide)]
    refine go_ifT 157 i0_152 (by decide) (by decide) ?_
    refine go_aload i0_157 rfl ?_
    refine go_virtual i0_159 (met9a hw _ (own_m.set A (.int 0)) a (.int y) (.int z) A hA (by simp; omega)) rfl (hw _ (List.mem_of_getElem? (i := 48) rfl)) (hw _ (List.mem_of_getElem? (i := 49) rfl)) (hw _ (List.mem_of_getElem? (i := 51) rfl)) (hw _ (List.mem_of_getElem? (i := 50) rfl)) (hw _ (List.mem_of_getElem? (i := 3) rfl)) (hw _ (List.mem_of_getElem? (i := 52) rfl)) rfl pd9 rfl rfl rfl (by first | decide | exact Nat.le_of_ble_eq_true rfl | (simp only [room_1]; omega)) (by first | decide | exact Nat.le_of_ble_eq_true rfl | (simp only [room_1]; omega)) (by first | decide | exact Nat.le_of_ble_eq_true rfl | (simp only [room_1]; omega)) (by first | decide | exact Nat.le_of_ble_eq_true rfl | (simp only [room_1]; omega)) (retE rfl ?_)
    refine go_istore13 i0_162 (by first | exact One.u | exact One.val rfl) ?_
    refine go_iload i0_164 rfl ?_
    refine go_ifT 244 i0_166 (by decide) (by decide) ?_
    refine go_iload i0_244 rfl ?_
    refine go_iload i0_246 rfl ?_
    refine go_icmpT 253 i0_248 (by decide) ((hold_eq _ _).1.mpr rfl) ?_
    refine go_aload i0_253 rfl ?_
    refine go_virtual i0_255 (met8 hw _ _ _ 0) rfl (hw _ (List.mem_of_getElem? (i := 41) rfl)) (hw _ (List.mem_of_getElem? (i := 42) rfl)) (hw _ (List.mem_of_getElem? (i := 44) rfl)) (hw _ (List.mem_of_getElem? (i := 43) rfl)) (hw _ (List.mem_of_getElem? (i := 3) rfl)) (hw _ (List.mem_of_getElem? (i := 45) rfl)) rfl pd8 rfl rfl rfl (by first | decide | exact Nat.le_of_ble_eq_true rfl | (simp only [room_1]; omega)) (by first | decide | exact Nat.le_of_ble_eq_true rfl | (simp only [room_1]; omega)) (by first | decide | exact Nat.le_of_ble_eq_true rfl | (simp only [room_1]; omega)) (by first | decide | exact Nat.le_of_ble_eq_true rfl | (simp only [room_1]; omega)) (retE rfl ?_)
    rw [if_pos rfl]
    refine go_ireturn i0_258 rfl rfl (Or.inr (Or.inl rfl)) (by first | decide | exact Nat.le_of_ble_eq_true rfl | (simp only [room_1]; omega)) (by first | decide | exact Nat.le_of_ble_eq_true rfl | (simp only [room_1]; omega)) ?_
    rfl
  · refine go_iconst (v := (1 : Int32)) i0_121 (by decide) ?_
    refine go_goto 126 i0_122 (by decide) ?_
    refine go_istore12 i0_126 (by first | exact One.u | exact One.val rfl) ?_
    refine go_aload i0_128 rfl ?_
    refine go_iload i0_130 rfl ?_
    refine go_virtual i0_132 (met4a hw _ _ _ a A hA (own_m1 hA3) rfl) rfl (hw _ (List.mem_of_getElem? (i := 21) rfl)) (hw _ (List.mem_of_getElem? (i := 22) rfl)) (hw _ (List.mem_of_getElem? (i := 24) rfl)) (hw _ (List.mem_of_getElem? (i := 23) rfl)) (hw _ (List.mem_of_getElem? (i := 3) rfl)) (hw _ (List.mem_of_getElem? (i := 25) rfl)) rfl pd4 rfl rfl rfl (by first | decide | exact Nat.le_of_ble_eq_true rfl | (simp only [room_1]; omega)) (by first | decide | exact Nat.le_of_ble_eq_true rfl | (simp only [room_1]; omega)) (by first | decide | exact Nat.le_of_ble_eq_true rfl | (simp only [room_1]; omega)) (by first | decide | exact Nat.le_of_ble_eq_true rfl | (simp only [room_1]; omega)) (retV rfl ?_)
    refine go_iload i0_135 rfl ?_
    refine go_ifF i0_137 (by decide) ?_
    refine go_aload i0_140 rfl ?_
    refine go_iload i0_142 rfl ?_
    refine go_virtual i0_144 (met4b hw _ [.int a, .int y, .int z] (own_m.set A (.int 0)) b a 1 B 1 A 2 (Or.inl ⟨rfl, rfl, rfl⟩) hB hA (by rw [List.getElem?_set_ne hAB]; exact own_m1 hB3) rfl (by simp; omega) rfl kb ka hkb hka) rfl (hw _ (List.mem_of_getElem? (i := 21) rfl)) (hw _ (List.mem_of_getElem? (i := 22) rfl)) (hw _ (List.mem_of_getElem? (i := 24) rfl)) (hw _ (List.mem_of_getElem? (i := 23) rfl)) (hw _ (List.mem_of_getElem? (i := 3) rfl)) (hw _ (List.mem_of_getElem? (i := 25) rfl)) rfl pd4 rfl rfl rfl (by first | decide | exact Nat.le_of_ble_eq_true rfl | (simp only [room_1]; omega)) (by first | decide | exact Nat.le_of_ble_eq_true rfl | (simp only [room_1]; omega)) (by first | decide | exact Nat.le_of_ble_eq_true rfl | (simp only [room_1]; omega)) (by first | decide | exact Nat.le_of_ble_eq_true rfl | (simp only [room_1]; omega)) (retV (by split <;> rfl) ?_)
    by_cases hq : own_bf kb ka b a
    · rw [if_pos hq]
      refine go_aload i0_147 rfl ?_
      refine go_virtual i0_149 (met8 hw _ _ _ 2) rfl (hw _ (List.mem_of_getElem? (i := 41) rfl)) (hw _ (List.mem_of_getElem? (i := 42) rfl)) (hw _ (List.mem_of_getElem? (i := 44) rfl)) (hw _ (List.mem_of_getElem? (i := 43) rfl)) (hw _ (List.mem_of_getElem? (i := 3) rfl)) (hw _ (List.mem_of_getElem? (i := 45) rfl)) rfl pd8 rfl rfl rfl (by first | decide | exact Nat.le_of_ble_eq_true rfl | (simp only [room_1]; omega)) (by first | decide | exact Nat.le_of_ble_eq_true rfl | (simp only [room_1]; omega)) (by first | decide | exact Nat.le_of_ble_eq_true rfl | (simp only [room_1]; omega)) (by first | decide | exact Nat.le_of_ble_eq_true rfl | (simp only [room_1]; omega)) (retE rfl ?_)
      rw [if_neg (by decide)]
      refine go_ifT 157 i0_152 (by decide) (by decide) ?_
      refine go_aload i0_157 rfl ?_
      refine go_virtual i0_159 (met9b hw _ (((own_m.set A (.int 0)).set A (.int 1)).set B (.int 0)) b a (.int z) B A hB (by simp; omega) hA (by simp; omega)) rfl (hw _ (List.mem_of_getElem? (i := 48) rfl)) (hw _ (List.mem_of_getElem? (i := 49) rfl)) (hw _ (List.mem_of_getElem? (i := 51) rfl)) (hw _ (List.mem_of_getElem? (i := 50) rfl)) (hw _ (List.mem_of_getElem? (i := 3) rfl)) (hw _ (List.mem_of_getElem? (i := 52) rfl)) rfl pd9 rfl rfl rfl (by first | decide | exact Nat.le_of_ble_eq_true rfl | (simp only [room_1]; omega)) (by first | decide | exact Nat.le_of_ble_eq_true rfl | (simp only [room_1]; omega)) (by first | decide | exact Nat.le_of_ble_eq_true rfl | (simp only [room_1]; omega)) (by first | decide | exact Nat.le_of_ble_eq_true rfl | (simp only [room_1]; omega)) (retE rfl ?_)
      refine go_istore13 i0_162 (by first | exact One.u | exact One.val rfl) ?_
      refine go_iload i0_164 rfl ?_
      refine go_ifF i0_166 (by decide) ?_
      refine go_aload i0_169 rfl ?_
      refine go_iload i0_171 rfl ?_
      refine go_iload i0_173 rfl ?_
      refine go_static i0_175 (met11 hw _ _ _ _ a b A B ka kb hA hB hka hkb) (hw _ (List.mem_of_getElem? (i := 57) rfl)) (hw _ (List.mem_of_getElem? (i := 58) rfl)) (hw _ (List.mem_of_getElem? (i := 59) rfl)) (hw _ (List.mem_of_getElem? (i := 60) rfl)) rfl pd11 rfl rfl rfl (by first | decide | exact Nat.le_of_ble_eq_true rfl | (simp only [room_1]; omega)) (by first | decide | exact Nat.le_of_ble_eq_true rfl | (simp only [room_1]; omega)) (by first | decide | exact Nat.le_of_ble_eq_true rfl | (simp only [room_1]; omega)) (by first | decide | exact Nat.le_of_ble_eq_true rfl | (simp only [room_1]; omega)) (retE rfl ?_)
      rw [if_neg (own_asym hq)]
      refine go_ifT 186 i0_178 (by decide) (by decide) ?_
      refine go_iload i0_186 rfl ?_
      refine go_istore14 i0_188 (by first | exact One.u | exact One.val rfl) ?_
      refine go_iload i0_190 rfl ?_
      refine go_iload i0_192 rfl ?_
      refine go_icmpT 202 i0_194 (by decide) ((hold_ne _ _).1.mpr (fun q => by rw [q] at hB; omega)) ?_
      refine go_iload i0_202 rfl ?_
      refine go_istore15 i0_204 (by first | exact One.u | exact One.val rfl) ?_
      refine go_iload i0_206 rfl ?_
      refine go_iload i0_208 rfl ?_
      refine go_icmpT 215 i0_210 (by decide) ((hold_eq _ _).1.mpr rfl) ?_
      refine go_aload i0_215 rfl ?_
      refine go_virtual i0_217 (met8 hw _ _ _ 1) rfl (hw _ (List.mem_of_getElem? (i := 41) rfl)) (hw _ (List.mem_of_getElem? (i := 42) rfl)) (hw _ (List.mem_of_getElem? (i := 44) rfl)) (hw _ (List.mem_of_getElem? (i := 43) rfl)) (hw _ (List.mem_of_getElem? (i := 3) rfl)) (hw _ (List.mem_of_getElem? (i := 45) rfl)) rfl pd8 rfl rfl rfl (by first | decide | exact Nat.le_of_ble_eq_true rfl | (simp only [room_1]; omega)) (by first | decide | exact Nat.le_of_ble_eq_true rfl | (simp only [room_1]; omega)) (by first | decide | exact Nat.le_of_ble_eq_true rfl | (simp only [room_1]; omega)) (by first | decide | exact Nat.le_of_ble_eq_true rfl | (simp only [room_1]; omega)) (retE rfl ?_)
      rw [if_neg (by decide)]
      refine go_ifT 225 i0_220 (by decide) (by decide) ?_
      refine go_aload i0_225 rfl ?_
      refine go_virtual i0_227 (met9a hw _ _ a (.int a) (.int z) A hA (by simp; omega)) rfl (hw _ (List.mem_of_getElem? (i := 48) rfl)) (hw _ (List.mem_of_getElem? (i := 49) rfl)) (hw _ (List.mem_of_getElem? (i := 51) rfl)) (hw _ (List.mem_of_getElem? (i := 50) rfl)) (hw _ (List.mem_of_getElem? (i := 3) rfl)) (hw _ (List.mem_of_getElem? (i := 52) rfl)) rfl pd9 rfl rfl rfl (by first | decide | exact Nat.le_of_ble_eq_true rfl | (simp only [room_1]; omega)) (by first | decide | exact Nat.le_of_ble_eq_true rfl | (simp only [room_1]; omega)) (by first | decide | exact Nat.le_of_ble_eq_true rfl | (simp only [room_1]; omega)) (by first | decide | exact Nat.le_of_ble_eq_true rfl | (simp only [room_1]; omega)) (retE rfl ?_)
      refine go_istore16 i0_230 (by first | exact One.u | exact One.val rfl) ?_
      refine go_iload i0_232 rfl ?_
      refine go_iload i0_234 rfl ?_
      refine go_icmpT 241 i0_236 (by decide) ((hold_eq _ _).1.mpr rfl) ?_
      refine go_goto 253 i0_241 (by decide) ?_
      refine go_aload i0_253 rfl ?_
      refine go_virtual i0_255 (met8 hw _ _ _ 0) rfl (hw _ (List.mem_of_getElem? (i := 41) rfl)) (hw _ (List.mem_of_getElem? (i := 42) rfl)) (hw _ (List.mem_of_getElem? (i := 44) rfl)) (hw _ (List.mem_of_getElem? (i := 43) rfl)) (hw _ (List.mem_of_getElem? (i := 3) rfl)) (hw _ (List.mem_of_getElem? (i := 45) rfl)) rfl pd8 rfl rfl rfl (by first | decide | exact Nat.le_of_ble_eq_true rfl | (simp only [room_1]; omega)) (by first | decide | exact Nat.le_of_ble_eq_true rfl | (simp only [room_1]; omega)) (by first | decide | exact Nat.le_of_ble_eq_true rfl | (simp only [room_1]; omega)) (by first | decide | exact Nat.le_of_ble_eq_true rfl | (simp only [room_1]; omega)) (retE rfl ?_)
      rw [if_pos rfl]
      refine go_ireturn i0_258 rfl rfl (Or.inr (Or.inl rfl)) (by first | decide | exact Nat.le_of_ble_eq_true rfl | (simp only [room_1]; omega)) (by first | decide | exact Nat.le_of_ble_eq_true rfl | (simp only [room_1]; omega)) ?_
      rfl
    · rw [if_neg hq]
      refine go_aload i0_147 rfl ?_
      refine go_virtual i0_149 (met8 hw _ _ _ 2) rfl (hw _ (List.mem_of_getElem? (i := 41) rfl)) (hw _ (List.mem_of_getElem? (i := 42) rfl)) (hw _ (List.mem_of_getElem? (i := 44) rfl)) (hw _ (List.mem_of_getElem? (i := 43) rfl)) (hw _ (List.mem_of_getElem? (i := 3) rfl)) (hw _ (List.mem_of_getElem? (i := 45) rfl)) rfl pd8 rfl rfl rfl (by first | decide | exact Nat.le_of_ble_eq_true rfl | (simp only [room_1]; omega)) (by first | decide | exact Nat.le_of_ble_eq_true rfl | (simp only [room_1]; omega)) (by first | decide | exact Nat.le_of_ble_eq_true rfl | (simp only [room_1]; omega)) (by first | decide | exact Nat.le_of_ble_eq_true rfl | (simp only [room_1]; omega)) (retE rfl ?_)
      rw [if_neg (by decide)]
      refine go_ifT 157 i0_152 (by decide) (by decide) ?_
      refine go_aload i0_157 rfl ?_
      refine go_virtual i0_159 (met9b hw _ ((own_m.set A (.int 0)).set B (.int 1)) a b (.int z) A B hA (by simp; omega) hB (by simp; omega)) rfl (hw _ (List.mem_of_getElem? (i := 48) rfl)) (hw _ (List.mem_of_getElem? (i := 49) rfl)) (hw _ (List.mem_of_getElem? (i := 51) rfl)) (hw _ (List.mem_of_getElem? (i := 50) rfl)) (hw _ (List.mem_of_getElem? (i := 3) rfl)) (hw _ (List.mem_of_getElem? (i := 52) rfl)) rfl pd9 rfl rfl rfl (by first | decide | exact Nat.le_of_ble_eq_true rfl | (simp only [room_1]; omega)) (by first | decide | exact Nat.le_of_ble_eq_true rfl | (simp only [room_1]; omega)) (by first | decide | exact Nat.le_of_ble_eq_true rfl | (simp only [room_1]; omega)) (by first | decide | exact Nat.le_of_ble_eq_true rfl | (simp only [room_1]; omega)) (retE rfl ?_)
      refine go_istore13 i0_162 (by first | exact One.u | exact One.val rfl) ?_
      refine go_iload i0_164 rfl ?_
      refine go_ifF i0_166 (by decide) ?_
      refine go_aload i0_169 rfl ?_
      refine go_iload i0_171 rfl ?_
      refine go_iload i0_173 rfl ?_
      refine go_static i0_175 (met11 hw _ _ _ _ a b A B ka kb hA hB hka hkb) (hw _ (List.mem_of_getElem? (i := 57) rfl)) (hw _ (List.mem_of_getElem? (i := 58) rfl)) (hw _ (List.mem_of_getElem? (i := 59) rfl)) (hw _ (List.mem_of_getElem? (i := 60) rfl)) rfl pd11 rfl rfl rfl (by first | decide | exact Nat.le_of_ble_eq_true rfl | (simp only [room_1]; omega)) (by first | decide | exact Nat.le_of_ble_eq_true rfl | (simp only [room_1]; omega)) (by first | decide | exact Nat.le_of_ble_eq_true rfl | (simp only [room_1]; omega)) (by first | decide | exact Nat.le_of_ble_eq_true rfl | (simp only [room_1]; omega)) (retE rfl ?_)
      rw [if_pos (own_tot (by omega) hq)]
      refine go_ifF i0_178 (by decide) ?_
      refine go_iload i0_181 rfl ?_
      refine go_goto 188 i0_183 (by decide) ?_
      refine go_istore14 i0_188 (by first | exact One.u | exact One.val rfl) ?_
      refine go_iload i0_190 rfl ?_
      refine go_iload i0_192 rfl ?_
      refine go_icmpF i0_194 ((hold_ne _ _).2.mpr rfl) ?_
      refine go_iload i0_197 rfl ?_
      refine go_goto 204 i0_199 (by decide) ?_
      refine go_istore15 i0_204 (by first | exact One.u | exact One.val rfl) ?_
      refine go_iload i0_206 rfl ?_
      refine go_iload i0_208 rfl ?_
      refine go_icmpT 215 i0_210 (by decide) ((hold_eq _ _).1.mpr rfl) ?_
      refine go_aload i0_215 rfl ?_
      refine go_virtual i0_217 (met8 hw _ _ _ 1) rfl (hw _ (List.mem_of_getElem? (i := 41) rfl)) (hw _ (List.mem_of_getElem? (i := 42) rfl)) (hw _ (List.mem_of_getElem? (i := 44) rfl)) (hw _ (List.mem_of_getElem? (i := 43) rfl)) (hw _ (List.mem_of_getElem? (i := 3) rfl)) (hw _ (List.mem_of_getElem? (i := 45) rfl)) rfl pd8 rfl rfl rfl (by first | decide | exact Nat.le_of_ble_eq_true rfl | (simp only [room_1]; omega)) (by first | decide | exact Nat.le_of_ble_eq_true rfl | (simp only [room_1]; omega)) (by first | decide | exact Nat.le_of_ble_eq_true rfl | (simp only [room_1]; omega)) (by first | decide | exact Nat.le_of_ble_eq_true rfl | (simp only [room_1]; omega)) (retE rfl ?_)
      rw [if_neg (by decide)]
      refine go_ifT 225 i0_220 (by decide) (by decide) ?_
      refine go_aload i0_225 rfl ?_
      refine go_virtual i0_227 (met9a hw _ _ b (.int b) (.int z) B hB (by simp; omega)) rfl (hw _ (List.mem_of_getElem? (i := 48) rfl)) (hw _ (List.mem_of_getElem? (i := 49) rfl)) (hw _ (List.mem_of_getElem? (i := 51) rfl)) (hw _ (List.mem_of_getElem? (i := 50) rfl)) (hw _ (List.mem_of_getElem? (i := 3) rfl)) (hw _ (List.mem_of_getElem? (i := 52) rfl)) rfl pd9 rfl rfl rfl (by first | decide | exact Nat.le_of_ble_eq_true rfl | (simp only [room_1]; omega)) (by first | decide | exact Nat.le_of_ble_eq_true rfl | (simp only [room_1]; omega)) (by first | decide | exact Nat.le_of_ble_eq_true rfl | (simp only [room_1]; omega)) (by first | decide | exact Nat.le_of_ble_eq_true rfl | (simp only [room_1]; omega)) (retE rfl ?_)
      refine go_istore16 i0_230 (by first | exact One.u | exact One.val rfl) ?_
      refine go_iload i0_232 rfl ?_
      refine go_iload i0_234 rfl ?_
      refine go_icmpT 241 i0_236 (by decide) ((hold_eq _ _).1.mpr rfl) ?_
      refine go_goto 253 i0_241 (by decide) ?_
      refine go_aload i0_253 rfl ?_
      refine go_virtual i0_255 (met8 hw _ _ _ 0) rfl (hw _ (List.mem_of_getElem? (i := 41) rfl)) (hw _ (List.mem_of_getElem? (i := 42) rfl)) (hw _ (List.mem_of_getElem? (i := 44) rfl)) (hw _ (List.mem_of_getElem? (i := 43) rfl)) (hw _ (List.mem_of_getElem? (i := 3) rfl)) (hw _ (List.mem_of_getElem? (i := 45) rfl)) rfl pd8 rfl rfl rfl (by first | decide | exact Nat.le_of_ble_eq_true rfl | (simp only [room_1]; omega)) (by first | decide | exact Nat.le_of_ble_eq_true rfl | (simp only [room_1]; omega)) (by first | decide | exact Nat.le_of_ble_eq_true rfl | (simp only [room_1]; omega)) (by first | decide | exact Nat.le_of_ble_eq_true rfl | (simp only [room_1]; omega)) (retE rfl ?_)
      rw [if_pos rfl]
      refine go_ireturn i0_258 rfl rfl (Or.inr (Or.inl rfl)) (by first | decide | exact Nat.le_of_ble_eq_true rfl | (simp only [room_1]; omega)) (by first | decide | exact Nat.le_of_ble_eq_true rfl | (simp only [room_1]; omega)) ?_
      rfl
theorem g68 (hw : ∀ d ∈ tables_1, d.before a0 Z = true) (k0 k1 k2 : Int64) (m s a b c : Int32) (S A B C : Nat) (ps : List Value) (hs : (s = 0 ∧ S = 0) ∨ (s = 1 ∧ S = 1) ∨ (s = 2 ∧ S = 2) ∨ (s = 3 ∧ S = 3)) (ha : a.toInt = (A : Int)) (hb : b.toInt = (B : Int)) (hc : c.toInt = (C : Int)) (hA : A < ps.length) (hB : B < ps.length) (hC : C < ps.length) (he : own_clr S A B C ps = own_m) : own_G Z a0 n0 68 (own_L n0 k0 k1 k2 m own_U) [] (HH n0 (own_K k0 k1 k2) [.int a, .int b, .int c] ps s) 4 13 := by
  refine go_aload i0_68 rfl ?_
  refine go_virtual i0_70 (met7 hw _ ps s a b c S A B C hs ha hb hc hA hB hC) rfl (hw _ (List.mem_of_getElem? (i := 36) rfl)) (hw _ (List.mem_of_getElem? (i := 37) rfl)) (hw _ (List.mem_of_getElem? (i := 39) rfl)) (hw _ (List.mem_of_getElem? (i := 38) rfl)) (hw _ (List.mem_of_getElem? (i := 3) rfl)) (hw _ (List.mem_of_getElem? (i := 40) rfl)) rfl pd7 rfl rfl rfl (by first | decide | exact Nat.le_of_ble_eq_true rfl | (simp only [room_1]; omega)) (by first | decide | exact Nat.le_of_ble_eq_true rfl | (simp only [room_1]; omega)) (by first | decide | exact Nat.le_of_ble_eq_true rfl | (simp only [room_1]; omega)) (by first | decide | exact Nat.le_of_ble_eq_true rfl | (simp only [room_1]; omega)) (retV rfl ?_)
  rw [he]
  exact g73 hw k0 k1 k2 m a b c
theorem g55_0 (hw : ∀ d ∈ tables_1, d.before a0 Z = true) (k0 k1 k2 : Int64) (m : Int32) : own_G Z a0 n0 55 (own_L n0 k0 k1 k2 m own_U) [] (HH n0 (own_K k0 k1 k2) [.int 0, .int 0, .int 0] own_m 0) 4 13 := by
  refine go_iload i0_55 rfl ?_
  refine go_iconst (v := (4 : Int32)) i0_57 (by decide) ?_
  refine go_iand i0_58 ?_
  refine go_if_eq 68 i0_59 (by decide) (fun h => ?_) (fun h => ?_)
  · exact g68 hw k0 k1 k2 m 0 0 0 0 0 0 0 0 own_m (Or.inl ⟨rfl, rfl⟩) (by decide) (by decide) (by decide) (by decide) (by decide) (by decide) rfl
  · refine go_aload i0_62 rfl ?_
    refine go_iconst (v := (2 : Int32)) i0_64 (by decide) ?_
    refine go_virtual i0_65 (met4a hw _ _ _ 2 2 (by decide) rfl rfl) rfl (hw _ (List.mem_of_getElem? (i := 21) rfl)) (hw _ (List.mem_of_getElem? (i := 22) rfl)) (hw _ (List.mem_of_getElem? (i := 24) rfl)) (hw _ (List.mem_of_getElem? (i := 23) rfl)) (hw _ (List.mem_of_getElem? (i := 3) rfl)) (hw _ (List.mem_of_getElem? (i := 25) rfl)) rfl pd4 rfl rfl rfl (by first | decide | exact Nat.le_of_ble_eq_true rfl | (simp only [room_1]; omega)) (by first | decide | exact Nat.le_of_ble_eq_true rfl | (simp only [room_1]; omega)) (by first | decide | exact Nat.le_of_ble_eq_true rfl | (simp only [room_1]; omega)) (by first | decide | exact Nat.le_of_ble_eq_true rfl | (simp only [room_1]; omega)) (retV rfl ?_)
    exact g68 hw k0 k1 k2 m 1 2 0 0 1 2 0 0 _ (Or.inr (Or.inl ⟨rfl, rfl⟩)) (by decide) (by decide) (by decide) (by decide) (by decide) (by decide) rfl
theorem g55_1 (hw : ∀ d ∈ tables_1, d.before a0 Z = true) (k0 k1 k2 : Int64) (m a : Int32) (A : Nat) (ka : Int64) (ps : List Value) (hl : ps.length = 3) (ha : a.toInt = (A : Int)) (hA : A < 3) (hk : (own_K k0 k1 k2)[A]? = some (.long ka)) (h2 : ps[2]? = some (.int (-1))) (e1 : own_clr 1 A 0 0 ps = own_m) (e2 : own_clr 2 2 A 0 ((ps.set A (.int 1)).set 2 (.int 0)) = own_m) (e3 : own_clr 2 A 2 0 (ps.set 2 (.int 1)) = own_m) : own_G Z a0 n0 55 (own_L n0 k0 k1 k2 m own_U) [] (HH n0 (own_K k0 k1 k2) [.int a, .int 0, .int 0] ps 1) 4 13 := by
  refine go_iload i0_55 rfl ?_
  refine go_iconst (v := (4 : Int32)) i0_57 (by decide) ?_
  refine go_iand i0_58 ?_
  refine go_if_eq 68 i0_59 (by decide) (fun h => ?_) (fun h => ?_)
  · exact g68 hw k0 k1 k2 m 1 a 0 0 1 A 0 0 ps (Or.inr (Or.inl ⟨rfl, rfl⟩)) ha (by decide) (by decide) (by omega) (by omega) (by omega) e1
  · refine go_aload i0_62 rfl ?_
    refine go_iconst (v := (2 : Int32)) i0_64 (by decide) ?_
    refine go_virtual i0_65 (met4b hw _ [.int a, .int 0, .int 0] ps 2 a 1 2 1 A 2 (Or.inl ⟨rfl, rfl, rfl⟩) (by decide) ha h2 rfl (by omega) rfl k2 ka rfl hk) rfl (hw _ (List.mem_of_getElem? (i := 21) rfl)) (hw _ (List.mem_of_getElem? (i := 22) rfl)) (hw _ (List.mem_of_getElem? (i := 24) rfl)) (hw _ (List.mem_of_getElem? (i := 23) rfl)) (hw _ (List.mem_of_getElem? (i := 3) rfl)) (hw _ (List.mem_of_getElem? (i := 25) rfl)) rfl pd4 rfl rfl rfl (by first | decide | exact Nat.le_of_ble_eq_true rfl | (simp only [room_1]; omega)) (by first | decide | exact Nat.le_of_ble_eq_true rfl | (simp only [room_1]; omega)) (by first | decide | exact Nat.le_of_ble_eq_true rfl | (simp only [room_1]; omega)) (by first | decide | exact Nat.le_of_ble_eq_true rfl | (simp only [room_1]; omega)) (retV (by split <;> rfl) ?_)
    by_cases hq : own_bf k2 ka 2 a
    · rw [if_pos hq]
      exact g68 hw k0 k1 k2 m 2 2 a 0 2 2 A 0 _ (Or.inr (Or.inr (Or.inl ⟨rfl, rfl⟩))) (by decide) ha (by decide) (by simp; omega) (by simp; omega) (by simp; omega) e2
    · rw [if_neg hq]
      exact g68 hw k0 k1 k2 m 2 a 2 0 2 A 2 0 _ (Or.inr (Or.inr (Or.inl ⟨rfl, rfl⟩))) ha (by decide) (by decide) (by simp; omega) (by simp; omega) (by simp; omega) e3
theorem g55_2 (hw : ∀ d ∈ tables_1, d.before a0 Z = true) (k0 k1 k2 : Int64) (m a b : Int32) (A B : Nat) (ka : Int64) (ps : List Value) (hl : ps.length = 3) (ha : a.toInt = (A : Int)) (hA : A < 3) (hb : b.toInt = (B : Int)) (hB : B < 3) (hk : (own_K k0 k1 k2)[A]? = some (.long ka)) (h2 : ps[2]? = some (.int (-1))) (e1 : own_clr 2 A B 0 ps = own_m) (e2 : own_clr 3 2 B A ((ps.set A (.int 2)).set 2 (.int 0)) = own_m) (e3 : own_clr 3 A B 2 (ps.set 2 (.int 2)) = own_m) : own_G Z a0 n0 55 (own_L n0 k0 k1 k2 m own_U) [] (HH n0 (own_K k0 k1 k2) [.int a, .int b, .int 0] ps 2) 4 13 := by
  refine go_iload i0_55 rfl ?_
  refine go_iconst (v := (4 : Int32)) i0_57 (by decide) ?_
  refine go_iand i0_58 ?_
  refine go_if_eq 68 i0_59 (by decide) (fun h => ?_) (fun h => ?_)
  · exact g68 hw k0 k1 k2 m 2 a b 0 2 A B 0 ps (Or.inr (Or.inr (Or.inl ⟨rfl, rfl⟩))) ha hb (by decide) (by omega) (by omega) (by omega) e1
  · refine go_aload i0_62 rfl ?_
    refine go_iconst (v := (2 : Int32)) i0_64 (by decide) ?_
    refine go_virtual i0_65 (met4b hw _ [.int a, .int b, .int 0] ps 2 a 2 2 2 A 3 (Or.inr ⟨rfl, rfl, rfl⟩) (by decide) ha h2 rfl (by omega) rfl k2 ka rfl hk) rfl (hw _ (List.mem_of_getElem? (i := 21) rfl)) (hw _ (List.mem_of_getElem? (i := 22) rfl)) (hw _ (List.mem_of_getElem? (i := 24) rfl)) (hw _ (List.mem_of_getElem? (i := 23) rfl)) (hw _ (List.mem_of_getElem? (i := 3) rfl)) (hw _ (List.mem_of_getElem? (i := 25) rfl)) rfl pd4 rfl rfl rfl (by first | decide | exact Nat.le_of_ble_eq_true rfl | (simp only [room_1]; omega)) (by first | decide | exact Nat.le_of_ble_eq_true rfl | (simp only [room_1]; omega)) (by first | decide | exact Nat.le_of_ble_eq_true rfl | (simp only [room_1]; omega)) (by first | decide | exact Nat.le_of_ble_eq_true rfl | (simp only [room_1]; omega)) (retV (by split <;> rfl) ?_)
    by_cases hq : own_bf k2 ka 2 a
    · rw [if_pos hq]
      exact g68 hw k0 k1 k2 m 3 2 b a 3 2 B A _ (Or.inr (Or.inr (Or.inr ⟨rfl, rfl⟩))) (by decide) hb ha (by simp; omega) (by simp; omega) (by simp; omega) e2
    · rw [if_neg hq]
      exact g68 hw k0 k1 k2 m 3 a b 2 3 A B 2 _ (Or.inr (Or.inr (Or.inr ⟨rfl, rfl⟩))) ha hb (by decide) (by simp; omega) (by simp; omega) (by simp; omega) e3
theorem law_met (Z : State) (a0 : Array Value) (n0 : Nat) (hw : ∀ d ∈ tables_1, d.before a0 Z = true) (k0 k1 k2 : Int64) (m : Int32) : MetW Z a0 n0 M0 tables_1 room_1 [.long k0, .long k1, .long k2, .int m] [] (fun v _ => v = some (.int 1)) := by
  refine MetW.intro [.val (.long k0), .second, .val (.long k1), .second, .val (.long k2), .second, .val (.int m), .unset, .unset, .unset, .unset, .unset, .unset, .unset, .unset, .unset, .unset] pn0 rfl ?_
  refine go_iconst (v := (3 : Int32)) i0_0 (by decide) ?_
  refine go_newarray (k := 0) 3 i0_1 rfl (hw _ (List.mem_of_getElem? (i := 0) rfl)) (by decide) rfl (by decide) (by decide) rfl (by first | decide | exact Nat.le_of_ble_eq_true rfl | (simp only [room_1]; omega)) (by first | decide | exact Nat.le_of_ble_eq_true rfl | (simp only [room_1]; omega)) ?_
  refine go_dup i0_3 rfl ?_
  refine go_iconst (v := (0 : Int32)) i0_4 (by decide) ?_
  refine go_lloadN i0_5 rfl ?_
  refine go_lastore (i := 0) i0_6 rfl (by decide) rfl ?_
  refine go_dup i0_7 rfl ?_
  refine go_iconst (v := (1 : Int32)) i0_8 (by decide) ?_
  refine go_lloadN i0_9 rfl ?_
  refine go_lastore (i := 1) i0_10 rfl (by decide) rfl ?_
  refine go_dup i0_11 rfl ?_
  refine go_iconst (v := (2 : Int32)) i0_12 (by decide) ?_
  refine go_lload i0_13 rfl ?_
  refine go_lastore (i := 2) i0_15 rfl (by decide) rfl ?_
  refine go_astore7 i0_16 (by first | exact One.u | exact One.val rfl) ?_
  refine go_new (k := 1) KH i0_18 (hw _ (List.mem_of_getElem? (i := 1) rfl)) (hw _ (List.mem_of_getElem? (i := 2) rfl)) (hw _ (List.mem_of_getElem? (i := 3) rfl)) (KH_ok hw) rfl rfl (by decide) (by decide) ?_
  refine go_dup i0_21 rfl ?_
  refine go_aload i0_22 rfl ?_
  refine go_special i0_24 (met1 hw _ _ _) (hw _ (List.mem_of_getElem? (i := 4) rfl)) (hw _ (List.mem_of_getElem? (i := 5) rfl)) (hw _ (List.mem_of_getElem? (i := 3) rfl)) (hw _ (List.mem_of_getElem? (i := 6) rfl)) rfl rfl rfl pd1 rfl rfl rfl (by first | decide | exact Nat.le_of_ble_eq_true rfl | (simp only [room_1]; omega)) (by first | decide | exact Nat.le_of_ble_eq_true rfl | (simp only [room_1]; omega)) (by first | decide | exact Nat.le_of_ble_eq_true rfl | (simp only [room_1]; omega)) (by first | decide | exact Nat.le_of_ble_eq_true rfl | (simp only [room_1]; omega)) (retV rfl ?_)
  refine go_astore8 i0_27 (by first | exact One.u | exact One.val rfl) ?_
  refine go_iload i0_29 rfl ?_
  refine go_iconst (v := (1 : Int32)) i0_31 (by decide) ?_
  refine go_iand i0_32 ?_
  refine go_if_eq 42 i0_33 (by decide) (fun h0 => ?_) (fun h0 => ?_)
  · refine go_iload i0_42 rfl ?_
    refine go_iconst (v := (2 : Int32)) i0_44 (by decide) ?_
    refine go_iand i0_45 ?_
    refine go_if_eq 55 i0_46 (by decide) (fun h1 => ?_) (fun h1 => ?_)
    · exact g55_0 hw k0 k1 k2 m
    · refine go_aload i0_49 rfl ?_
      refine go_iconst (v := (1 : Int32)) i0_51 (by decide) ?_
      refine go_virtual i0_52 (met4a hw _ _ _ 1 1 (by decide) rfl rfl) rfl (hw _ (List.mem_of_getElem? (i := 21) rfl)) (hw _ (List.mem_of_getElem? (i := 22) rfl)) (hw _ (List.mem_of_getElem? (i := 24) rfl)) (hw _ (List.mem_of_getElem? (i := 23) rfl)) (hw _ (List.mem_of_getElem? (i := 3) rfl)) (hw _ (List.mem_of_getElem? (i := 25) rfl)) rfl pd4 rfl rfl rfl (by first | decide | exact Nat.le_of_ble_eq_true rfl | (simp only [room_1]; omega)) (by first | decide | exact Nat.le_of_ble_eq_true rfl | (simp only [room_1]; omega)) (by first | decide | exact Nat.le_of_ble_eq_true rfl | (simp only [room_1]; omega)) (by first | decide | exact Nat.le_of_ble_eq_true rfl | (simp only [room_1]; omega)) (retV rfl ?_)
      exact g55_1 hw k0 k1 k2 m 1 1 k1 [.int (-1), .int 0, .int (-1)] rfl (by decide) (by decide) rfl rfl rfl rfl rfl
  · refine go_aload i0_36 rfl ?_
    refine go_iconst (v := (0 : Int32)) i0_38 (by decide) ?_
    refine go_virtual i0_39 (met4a hw _ _ _ 0 0 (by decide) rfl rfl) rfl (hw _ (List.mem_of_getElem? (i := 21) rfl)) (hw _ (List.mem_of_getElem? (i := 22) rfl)) (hw _ (List.mem_of_getElem? (i := 24) rfl)) (hw _ (List.mem_of_getElem? (i := 23) rfl)) (hw _ (List.mem_of_getElem? (i := 3) rfl)) (hw _ (List.mem_of_getElem? (i := 25) rfl)) rfl pd4 rfl rfl rfl (by first | decide | exact Nat.le_of_ble_eq_true rfl | (simp only [room_1]; omega)) (by first | decide | exact Nat.le_of_ble_eq_true rfl | (simp only [room_1]; omega)) (by first | decide | exact Nat.le_of_ble_eq_true rfl | (simp only [room_1]; omega)) (by first | decide | exact Nat.le_of_ble_eq_true rfl | (simp only [room_1]; omega)) (retV rfl ?_)
    refine go_iload i0_42 rfl ?_
    refine go_iconst (v := (2 : Int32)) i0_44 (by decide) ?_
    refine go_iand i0_45 ?_
    refine go_if_eq 55 i0_46 (by decide) (fun h1 => ?_) (fun h1 => ?_)
    · exact g55_1 hw k0 k1 k2 m 0 0 k0 [.int 0, .int (-1), .int (-1)] rfl (by decide) (by decide) rfl rfl rfl rfl rfl
    · refine go_aload i0_49 rfl ?_
      refine go_iconst (v := (1 : Int32)) i0_51 (by decide) ?_
      refine go_virtual i0_52 (met4b hw _ [.int 0, .int 0, .int 0] [.int 0, .int (-1), .int (-1)] 1 0 1 1 1 0 2 (Or.inl ⟨rfl, rfl, rfl⟩) (by decide) (by decide) rfl rfl (by decide) rfl k1 k0 rfl rfl) rfl (hw _ (List.mem_of_getElem? (i := 21) rfl)) (hw _ (List.mem_of_getElem? (i := 22) rfl)) (hw _ (List.mem_of_getElem? (i := 24) rfl)) (hw _ (List.mem_of_getElem? (i := 23) rfl)) (hw _ (List.mem_of_getElem? (i := 3) rfl)) (hw _ (List.mem_of_getElem? (i := 25) rfl)) rfl pd4 rfl rfl rfl (by first | decide | exact Nat.le_of_ble_eq_true rfl | (simp only [room_1]; omega)) (by first | decide | exact Nat.le_of_ble_eq_true rfl | (simp only [room_1]; omega)) (by first | decide | exact Nat.le_of_ble_eq_true rfl | (simp only [room_1]; omega)) (by first | decide | exact Nat.le_of_ble_eq_true rfl | (simp only [room_1]; omega)) (retV (by split <;> rfl) ?_)
      by_cases hq : own_bf k1 k0 1 0
      · rw [if_pos hq]
        exact g55_2 hw k0 k1 k2 m 1 0 1 0 k1 [.int 1, .int 0, .int (-1)] rfl (by decide) (by decide) (by decide) (by decide) rfl rfl rfl rfl rfl
      · rw [if_neg hq]
        exact g55_2 hw k0 k1 k2 m 0 1 0 1 k0 [.int 0, .int 1, .int (-1)] rfl (by decide) (by decide) (by decide) (by decide) rfl rfl rfl rfl rfl
theorem comes_1 {Post : Tables → Env → Array Value → State → Outcome → State → Prop} (hpost : ∀ tb e args s v u, (limb_1_1.after args s (.returned v) u = true ∧ limb_1_2.after args s (.returned v) u = true ∧ True) → FrameEnd s (.returned v) u (Jvm.fieldLocs frame_1_writes args s ++ Jvm.arrayLocs frame_1_arrays args s ++ Jvm.staticLocs frame_1_statics s) 16 128 → Post tb e args s (.returned v) u) :
    ArmFor flags0 classFile x code maxLocals ret World_1 tables_1 room_1 Calls_1 rest_1 Pre_1 Post := by
  intro l hfl _ _ p e ha hc hk s m args below hf hA hF happ hP
  obtain ⟨hcalls, hrest, hpre⟩ := hP
  obtain ⟨-, -, -, hnamed, -, -, -, hat⟩ := (Spec.applies_iff hf).mp happ
  obtain ⟨hg, hn⟩ := and_e (Cond.before_iff.mp (show (Jvm.Cond.and given_1 narrow_1).before args s = true from hpre))
  obtain ⟨g0, gs0⟩ := and_e hg
  obtain ⟨w0, w1, w2, w3, rfl⟩ : ∃ (w0 : Value) (w1 : Value) (w2 : Value) (w3 : Value), args = #[w0, w1, w2, w3] := by
    have hs : args.size = 4 := by simpa [Cond.value, given_1] using g0
    obtain ⟨L⟩ := args
    match L, hs with
    | [w0, w1, w2, w3], _ => exact ⟨w0, w1, w2, w3, rfl⟩
  have hw := fun d (hd : d ∈ tables_1) => atoms_spec (ws := Jvm.Cond.code x code maxLocals ret :: tables_1) hat d (List.mem_cons_of_mem _ hd)
  obtain ⟨b0, gs1⟩ := and_e gs0
  obtain ⟨i0, ei0⟩ := isL_v b0
  obtain rfl : w0 = (.long i0) := Option.some.inj ei0
  obtain ⟨b1, gs2⟩ := and_e gs1
  obtain ⟨i1, ei1⟩ := isL_v b1
  obtain rfl : w1 = (.long i1) := Option.some.inj ei1
  obtain ⟨b2, gs3⟩ := and_e gs2
  obtain ⟨i2, ei2⟩ := isL_v b2
  obtain rfl : w2 = (.long i2) := Option.some.inj ei2
  have b3 := gs3
  obtain ⟨i3, ei3⟩ := is_v b3
  obtain rfl : w3 = (.int i3) := Option.some.inj ei3
  obtain ⟨n, o, h1, h2, h3, _, L, rfl, ⟨H', rfl, -, N⟩, hq⟩ := law_met s _ s.heap.size hw i0 i1 i2 i3 l s.heap ⟨rfl, ⟨Nat.le_refl _, fun _ _ q => q⟩, by simp, fun k o q => by simp at q⟩ p e ha hc hk s m _ below hf ((Spec.applies_iff_loose hf).mp happ).1 ⟨rfl, State.Warmed39.refl s, rfl⟩ trivial
  refine ⟨n, _, h1, h2, h3, hpost _ _ _ _ _ _ ⟨Cond.after_iff.mpr rfl, Cond.after_iff.mpr (eq_i res_at (Term.int_eval (1)) rfl), trivial⟩ ⟨hq.1, hq.2.1, (hq.2.2.sift fun y hy => Or.inr (N y hy)).mono (by decide) (by decide)⟩⟩
theorem main_1_1 : Claimed_1_1 := comes_1 fun _ _ _ _ _ _ h hF => ⟨h.1, hF⟩
theorem main_1_2 : Claimed_1_2 := comes_1 fun _ _ _ _ _ _ h hF => ⟨h.2.1, hF⟩
end Jvm.Pilot.@@N@@
namespace Jvm.Pilot.@@N@@
open Jvm Jvm.ClassFile Sem Op Lib Jvm.Free Jvm.Stand Jvm.Pilot.@@N@@.Jvm.D
/-! MADE BY PROGRAM (witnessworld.py) out of the Statement's table words and the real class files: 12 classes; the members and pool entries that the words name. The judged class is class 1, her method 2. -/
namespace start1
open Jvm.ClassFile
def u (s : String) : CpInfo := .utf8 (stringToUtf16 s)
/-- a pool by its gaps: so many unusable entries, then the entry; so many at the end -/
def gap : Nat → List CpInfo → List CpInfo
  | 0, r => r
  | n + 1, r => .unusable :: gap n r
def poolList (es : List (Nat × CpInfo)) (last : Nat) : List CpInfo := es.foldr (fun e r => gap e.1 (e.2 :: r)) (gap last [])
def pool (es : List (Nat × CpInfo)) (last : Nat) : Array CpInfo := ⟨poolList es last⟩
def fileOf (pool : Array CpInfo) (this : Nat) (attrs : Array Attribute := #[]) (ms : Array MethodInfo := #[]) (fl : Nat := 33) (sup : Nat := 0) (ifs : Array Nat := #[]) (fds : Array FieldInfo := #[]) : ClassFile where
  minorVersion := 0
  majorVersion := 65
  constantPool := pool
  accessFlags := fl
  thisClass := this
  superClass := sup
  interfaces := ifs
  fields := fds
  methods := ms
  attributes := attrs
def plain (name : String) (sup : Option ClassId) : Class where
  name := name
  kind := .ordinary
  loader := none
  accessFlags := 33
  super := sup
  interfaces := #[]
  cf := none
  fields := #[]
  methods := #[]
  instanceTypes := #[]
  staticTypes := #[]
  resolved := #[]
  callSites := []
  init := .initialized
  statics := none
  mirror := none

def pool0 : Array CpInfo := pool [(5, u "<init>"), (0, u "()V"), (1, .class_ 10), (1, u "java/lang/Object")] 113

def k0c0 : Code := { maxStack := 0, maxLocals := 1, code := object_method_1_code, exceptionTable := #[], attributes := #[] }
def k0m0 : Method := { name := "<init>", desc := "()V", sig := { parameters := [], returnType := none }, accessFlags := 1, code := some k0c0 }
/-- java/lang/Object -/
def k0 : Class := { plain "java/lang/Object" none with
  accessFlags := 33
  interfaces := #[]
  cf := some (fileOf pool0 8 #[] #[{ accessFlags := 1, nameIndex := 5, descriptorIndex := 6, attributes := #[] }] 33 0 #[] #[])
  fields := #[]
  methods := #[k0m0]
  instanceTypes := #[]
  staticTypes := #[]
  resolved := Array.replicate 124 none
  statics := none }

def pool1 : Array CpInfo := pool [(2, .class_ 4), (1, u "java/lang/Object"), (0, u "<init>"), (0, u "()V"), (0, .class_ 8), (0, u "com/example/hedgewire/hedgewire/graph/IndexHeap"), (0, .methodref 7 10), (0, .nameAndType 5 11), (0, u "([J)V"), (0, .methodref 7 13), (0, .nameAndType 14 15), (0, u "offer"), (0, u "(I)V"), (0, .methodref 7 17), (0, .nameAndType 18 6), (0, u "clear"), (0, .methodref 7 20), (0, .nameAndType 21 22), (0, u "isEmpty"), (0, u "()Z"), (0, .integer 65535), (0, .integer 524288), (0, .methodref 7 26), (0, .nameAndType 27 28), (0, u "poll"), (0, u "()I"), (0, .methodref 30 31), (0, .class_ 32), (0, .nameAndType 33 34), (0, u "com/example/hedgewire/hedgewire/graph/IndexHeapClearPinLaw"), (0, u "before"), (0, u "([JII)Z"), (3, u "law"), (0, u "(JJJI)Z")] 4

def k1m0 : Method := { name := "<init>", desc := "()V", sig := { parameters := [], returnType := none }, accessFlags := 1, code := none }
def k1c1 : Code := { maxStack := 4, maxLocals := 3, code := method_2_code, exceptionTable := #[], attributes := #[] }
def k1m1 : Method := { name := "before", desc := "([JII)Z", sig := { parameters := [(.array .long), .int, .int], returnType := some .boolean }, accessFlags := 10, code := some k1c1 }
def k1c2 : Code := { maxStack := 5, maxLocals := 17, code := code, exceptionTable := #[], attributes := #[] }
def k1m2 : Method := { name := "law", desc := "(JJJI)Z", sig := { parameters := [.long, .long, .long, .int], returnType := some .boolean }, accessFlags := 9, code := some k1c2 }
/-- com/example/hedgewire/hedgewire/graph/IndexHeapClearPinLaw -/
def k1 : Class := { plain "com/example/hedgewire/hedgewire/graph/IndexHeapClearPinLaw" (some 0) with
  accessFlags := 49
  interfaces := #[]
  cf := some (fileOf pool1 30 #[] #[{ accessFlags := 1, nameIndex := 5, descriptorIndex := 6, attributes := #[] }, { accessFlags := 10, nameIndex := 33, descriptorIndex := 34, attributes := #[] }, { accessFlags := 9, nameIndex := 38, descriptorIndex := 39, attributes := #[] }] 49 2 #[] #[])
  fields := #[]
  methods := #[k1m0, k1m1, k1m2]
  instanceTypes := #[]
  staticTypes := #[]
  resolved := Array.replicate 44 none
  statics := none }

def pool2 : Array CpInfo := pool [(1, .methodref 2 3), (0, .class_ 4), (0, .nameAndType 5 6), (0, u "java/lang/Object"), (0, u "<init>"), (0, u "()V"), (0, .fieldref 8 9), (0, .class_ 10), (0, .nameAndType 11 12), (0, u "com/example/hedgewire/hedgewire/graph/IndexHeap"), (0, u "keys"), (0, u "[J"), (0, .fieldref 8 14), (0, .nameAndType 15 16), (0, u "heap"), (0, u "[I"), (0, .fieldref 8 18), (0, .nameAndType 19 16), (0, u "position"), (0, .methodref 21 22), (0, .class_ 23), (0, .nameAndType 24 25), (0, u "java/util/Arrays"), (0, u "fill"), (0, u "([II)V"), (0, .fieldref 8 27), (0, .nameAndType 28 29), (0, u "size"), (0, u "I"), (0, .methodref 8 31), (0, .nameAndType 32 33), (0, u "before"), (0, u "(II)Z"), (0, .methodref 8 35), (0, .nameAndType 36 37), (0, u "place"), (0, u "(II)V"), (0, .methodref 8 39), (0, .nameAndType 40 41), (0, u "sinkFrom"), (0, u "(II)I"), (7, u "([J)V"), (2, u "isEmpty"), (0, u "()Z"), (1, u "offer"), (0, u "(I)V"), (0, u "clear"), (1, u "()I"), (0, u "poll")] 2

def k2c0 : Code := { maxStack := 2, maxLocals := 2, code := prog_29_method_1_code, exceptionTable := #[], attributes := #[] }
def k2m0 : Method := { name := "<init>", desc := "([J)V", sig := { parameters := [(.array .long)], returnType := none }, accessFlags := 1, code := some k2c0 }
def k2c1 : Code := { maxStack := 1, maxLocals := 1, code := prog_29_method_2_code, exceptionTable := #[], attributes := #[] }
def k2m1 : Method := { name := "isEmpty", desc := "()Z", sig := { parameters := [], returnType := some .boolean }, accessFlags := 1, code := some k2c1 }
def k2c2 : Code := { maxStack := 4, maxLocals := 5, code := prog_29_method_3_code, exceptionTable := #[], attributes := #[] }
def k2m2 : Method := { name := "offer", desc := "(I)V", sig := { parameters := [.int], returnType := none }, accessFlags := 1, code := some k2c2 }
def k2c3 : Code := { maxStack := 3, maxLocals := 2, code := prog_29_method_4_code, exceptionTable := #[], attributes := #[] }
def k2m3 : Method := { name := "clear", desc := "()V", sig := { parameters := [], returnType := none }, accessFlags := 1, code := some k2c3 }
def k2c4 : Code := { maxStack := 5, maxLocals := 3, code := prog_29_method_6_code, exceptionTable := #[], attributes := #[] }
def k2m4 : Method := { name := "poll", desc := "()I", sig := { parameters := [], returnType := some .int }, accessFlags := 1, code := some k2c4 }
def k2c5 : Code := { maxStack := 4, maxLocals := 4, code := prog_29_method_7_code, exceptionTable := #[], attributes := #[] }
def k2m5 : Method := { name := "sinkFrom", desc := "(II)I", sig := { parameters := [.int, .int], returnType := some .int }, accessFlags := 2, code := some k2c5 }
def k2c6 : Code := { maxStack := 4, maxLocals := 3, code := prog_29_method_8_code, exceptionTable := #[], attributes := #[] }
def k2m6 : Method := { name := "before", desc := "(II)Z", sig := { parameters := [.int, .int], returnType := some .boolean }, accessFlags := 2, code := some k2c6 }
def k2c7 : Code := { maxStack := 3, maxLocals := 3, code := prog_29_method_9_code, exceptionTable := #[], attributes := #[] }
def k2m7 : Method := { name := "place", desc := "(II)V", sig := { parameters := [.int, .int], returnType := none }, accessFlags := 2, code := some k2c7 }
/-- com/example/hedgewire/hedgewire/graph/IndexHeap -/
def k2 : Class := { plain "com/example/hedgewire/hedgewire/graph/IndexHeap" (some 0) with
  accessFlags := 49
  interfaces := #[]
  cf := some (fileOf pool2 8 #[] #[{ accessFlags := 1, nameIndex := 5, descriptorIndex := 49, attributes := #[] }, { accessFlags := 1, nameIndex := 52, descriptorIndex := 53, attributes := #[] }, { accessFlags := 1, nameIndex := 55, descriptorIndex := 56, attributes := #[] }, { accessFlags := 1, nameIndex := 57, descriptorIndex := 6, attributes := #[] }, { accessFlags := 1, nameIndex := 60, descriptorIndex := 59, attributes := #[] }, { accessFlags := 2, nameIndex := 40, descriptorIndex := 41, attributes := #[] }, { accessFlags := 2, nameIndex := 32, descriptorIndex := 33, attributes := #[] }, { accessFlags := 2, nameIndex := 36, descriptorIndex := 37, attributes := #[] }] 49 2 #[] #[{ accessFlags := 18, nameIndex := 11, descriptorIndex := 12, attributes := #[] }, { accessFlags := 18, nameIndex := 15, descriptorIndex := 16, attributes := #[] }, { accessFlags := 18, nameIndex := 19, descriptorIndex := 16, attributes := #[] }, { accessFlags := 2, nameIndex := 28, descriptorIndex := 29, attributes := #[] }])
  fields := #[{ name := "keys", type := (.array .long), accessFlags := 18, slot := 0, constantValue := 0 }, { name := "heap", type := (.array .int), accessFlags := 18, slot := 1, constantValue := 0 }, { name := "position", type := (.array .int), accessFlags := 18, slot := 2, constantValue := 0 }, { name := "size", type := .int, accessFlags := 2, slot := 3, constantValue := 0 }]
  methods := #[k2m0, k2m1, k2m2, k2m3, k2m4, k2m5, k2m6, k2m7]
  instanceTypes := #[(.array .long), (.array .int), (.array .int), .int]
  staticTypes := #[]
  resolved := Array.replicate 63 none
  statics := none }

def pool3 : Array CpInfo := pool [(2, .class_ 4), (1, u "java/lang/Object"), (0, u "<init>"), (0, u "()V"), (7, .class_ 16), (1, u "java/util/Arrays"), (57, .class_ 76), (1, u "java/util/Arrays$NaturalOrder"), (36, .class_ 115), (1, u "java/util/Arrays$LegacyMergeSort"), (1, u "Z"), (257, .class_ 376), (0, u "java/util/Arrays$ArrayList"), (68, u "$assertionsDisabled"), (269, u "MIN_ARRAY_SORT_GRAN"), (0, u "I"), (2, u "INSERTIONSORT_THRESHOLD"), (120, u "fill"), (4, u "([II)V"), (129, .class_ 976), (0, u "java/util/Arrays$ArrayItr")] 52

def k3m0 : Method := { name := "<init>", desc := "()V", sig := { parameters := [], returnType := none }, accessFlags := 2, code := none }
def k3c1 : Code := { maxStack := 3, maxLocals := 4, code := jdk_65_method_103_code, exceptionTable := #[], attributes := #[] }
def k3m1 : Method := { name := "fill", desc := "([II)V", sig := { parameters := [(.array .int), .int], returnType := none }, accessFlags := 9, code := some k3c1 }
/-- java/util/Arrays -/
def k3 : Class := { plain "java/util/Arrays" (some 0) with
  accessFlags := 49
  interfaces := #[]
  cf := some (fileOf pool3 14 #[.nestMembers #[975, 375, 113, 74]] #[{ accessFlags := 2, nameIndex := 5, descriptorIndex := 6, attributes := #[] }, { accessFlags := 9, nameIndex := 840, descriptorIndex := 845, attributes := #[] }] 49 2 #[] #[{ accessFlags := 26, nameIndex := 715, descriptorIndex := 716, attributes := #[] }, { accessFlags := 26, nameIndex := 719, descriptorIndex := 716, attributes := #[] }, { accessFlags := 4120, nameIndex := 445, descriptorIndex := 117, attributes := #[] }])
  fields := #[{ name := "MIN_ARRAY_SORT_GRAN", type := .int, accessFlags := 26, slot := 0, constantValue := 0 }, { name := "INSERTIONSORT_THRESHOLD", type := .int, accessFlags := 26, slot := 1, constantValue := 0 }, { name := "$assertionsDisabled", type := .boolean, accessFlags := 4120, slot := 2, constantValue := 0 }]
  methods := #[k3m0, k3m1]
  instanceTypes := #[]
  staticTypes := #[.int, .int, .boolean]
  resolved := Array.replicate 1029 none
  statics := none }

def pool4 : Array CpInfo := pool [(1, u "java/lang/Cloneable"), (0, .class_ 1), (0, u "java/lang/Object"), (0, .class_ 3)] 3

/-- java/lang/Cloneable -/
def k4 : Class := { plain "java/lang/Cloneable" (some 0) with
  accessFlags := 1537
  interfaces := #[]
  cf := some (fileOf pool4 2 #[] #[] 1537 4 #[] #[])
  fields := #[]
  methods := #[]
  instanceTypes := #[]
  staticTypes := #[]
  resolved := Array.replicate 8 none
  statics := none }

def pool5 : Array CpInfo := pool [(1, u "java/io/Serializable"), (0, .class_ 1), (0, u "java/lang/Object"), (0, .class_ 3)] 3

/-- java/io/Serializable -/
def k5 : Class := { plain "java/io/Serializable" (some 0) with
  accessFlags := 1537
  interfaces := #[]
  cf := some (fileOf pool5 2 #[] #[] 1537 4 #[] #[])
  fields := #[]
  methods := #[]
  instanceTypes := #[]
  staticTypes := #[]
  resolved := Array.replicate 8 none
  statics := none }

/-- the primitive byte -/
def k6 : Class := { plain "byte" none with kind := .primitive 'B', accessFlags := 0x411 }
/-- [B -/
def k7 : Class := { plain "[B" (some 0) with kind := .array 6 .byte, interfaces := #[4, 5], accessFlags := 1041 }

/-- the primitive int -/
def k8 : Class := { plain "int" none with kind := .primitive 'I', accessFlags := 0x411 }
/-- [I -/
def k9 : Class := { plain "[I" (some 0) with kind := .array 8 .int, interfaces := #[4, 5], accessFlags := 1041 }

/-- the primitive long -/
def k10 : Class := { plain "long" none with kind := .primitive 'J', accessFlags := 0x411 }
/-- [J -/
def k11 : Class := { plain "[J" (some 0) with kind := .array 10 .long, interfaces := #[4, 5], accessFlags := 1041 }

def heap : Heap := #[]
def classes : Array Class := #[k0, k1, k2, k3, k4, k5, k6, k7, k8, k9, k10, k11]
def interned : List (Array UInt16 × Addr) := []
def slotsUsed : Nat := 0
def theMethod : MethodId := ⟨1, 2⟩
def args0 : Array Value := #[.long 5, .long 7, .long 1, .int 2]
def aboutOver (below : List Frame) : State where
  vm := { classes := classes, interned := interned.toArray }
  heap := heap
  slotsUsed := slotsUsed
  threads := #[{ frames := .invoking theMethod args0 :: below }]
def below0 : List Frame := [.native { method := ⟨0, 0⟩, args := #[] }]
def about1 : State := aboutOver below0
def p0 : Program := .bare "" "" ""
def e0 : Env := launch0.env 0 0 0
theorem w_frames : about1.frames = Frame.invoking theMethod args0 :: below0 := rfl
set_option maxRecDepth 65536 in
theorem w_args : argsFit about1.vm theMethod args0 = true := by decide +kernel
set_option maxRecDepth 65536 in
theorem w_heap : heapFits about1 = true := by decide +kernel
set_option maxRecDepth 65536 in
theorem w_runnable : about1.curStatus? = some .runnable := by decide +kernel
set_option maxRecDepth 65536 in
theorem w_alone : about1.alone = true := by decide +kernel
set_option maxRecDepth 65536 in
theorem w_named : about1.methodNamed? x = some theMethod := by decide +kernel
set_option maxRecDepth 65536 in
theorem w_hears : about1.hears theMethod below0 = true := by decide +kernel
set_option maxRecDepth 65536 in
theorem w_ripe : about1.ripe theMethod args0 below0 = true := by decide +kernel
theorem w_running : about1.status = .running := rfl
set_option maxRecDepth 65536 in
theorem w_room : about1.hasRoom e0.platform room_1 = true :=
  launch0.hasRoom_least _ room_1 (by decide +kernel) (by decide +kernel) (by decide +kernel) (by decide +kernel) (by decide +kernel) (by decide +kernel)
theorem allAtoms_all (ts : List Jvm.Cond) (a : Array Jvm.Value) (st : Jvm.State) : (allAtoms ts).before a st = ts.all (fun c => c.before a st) := by
  induction ts with
  | nil => rfl
  | cons c t ih =>
    show (Jvm.Cond.and c (allAtoms t)).before a st = _
    rw [Jvm.Cond.before_and, ih, List.all_cons]
def words1 : List Jvm.Cond := Jvm.Cond.code x code maxLocals ret :: tables_1
/-- a 'code' word, met by the world's own term for the bytes: nothing is compared byte by byte -/
theorem code_word {y : MethodName} {bytes : ByteArray} {mx : Nat} {rt : Option FieldType} {a : Array Value} {s : State} {m : MethodId} {meth : Method} {c : Code} (h1 : s.methodNamed? y = some m) (h2 : s.vm.method? m = some meth) (h3 : meth.code = some c) (h4 : c.code = bytes)
    (h5 : (c.maxLocals == mx && c.exceptionTable.isEmpty && decide (c.maxStack ≤ mostOperands) && decide (meth.sig.returnType = rt) && !meth.locks && decide (parseMethodDescriptor y.desc = some meth.sig)) = true) : (Jvm.Cond.code y bytes mx rt).before a s = true := by
  simp only [Bool.and_eq_true, beq_iff_eq, Bool.not_eq_true', decide_eq_true_eq] at h5
  obtain ⟨⟨⟨⟨⟨g1, g2⟩, g3⟩, g4⟩, g5⟩, g6⟩ := h5
  simp [Cond.before, Cond.holds, Cond.value, h1, h2, h3, h4, g1, g2, g3, g4, g5, g6]
def isCode : Jvm.Cond → Bool
  | .code _ _ _ _ => true
  | _ => false
theorem all_split {L : List Jvm.Cond} {P : Jvm.Cond → Bool} (h1 : L.all (fun c => isCode c || P c) = true) (h2 : ∀ c ∈ L.filter isCode, P c = true) : L.all P = true := by
  refine List.all_eq_true.mpr fun c hc => ?_
  have h := List.all_eq_true.mp h1 c hc
  rcases Bool.eq_false_or_eq_true (isCode c) with hi | hi
  · exact h2 c (List.mem_filter.mpr ⟨hc, hi⟩)
  · simpa [hi] using h
set_option maxRecDepth 65536 in
theorem w_c0 : (Jvm.Cond.code x code maxLocals ret).before args0 about1 = true := code_word (m := ⟨1, 2⟩) (meth := k1m2) (c := k1c2) (by decide +kernel) rfl rfl rfl (by decide +kernel)
set_option maxRecDepth 65536 in
theorem w_c1 : (Jvm.Cond.code ({ cls := "com/example/hedgewire/hedgewire/graph/IndexHeap", name := "<init>", desc := "([J)V" } : Jvm.MethodName) prog_29_method_1_code (2 : Nat) (Option.none : Option Jvm.ClassFile.FieldType)).before args0 about1 = true := code_word (m := ⟨2, 0⟩) (meth := k2m0) (c := k2c0) (by decide +kernel) rfl rfl rfl (by decide +kernel)
set_option maxRecDepth 65536 in
theorem w_c2 : (Jvm.Cond.code ({ cls := "java/lang/Object", name := "<init>", desc := "()V" } : Jvm.MethodName) object_method_1_code (1 : Nat) (Option.none : Option Jvm.ClassFile.FieldType)).before args0 about1 = true := code_word (m := ⟨0, 0⟩) (meth := k0m0) (c := k0c0) (by decide +kernel) rfl rfl rfl (by decide +kernel)
set_option maxRecDepth 65536 in
theorem w_c3 : (Jvm.Cond.code ({ cls := "java/util/Arrays", name := "fill", desc := "([II)V" } : Jvm.MethodName) jdk_65_method_103_code (4 : Nat) (Option.none : Option Jvm.ClassFile.FieldType)).before args0 about1 = true := code_word (m := ⟨3, 1⟩) (meth := k3m1) (c := k3c1) (by decide +kernel) rfl rfl rfl (by decide +kernel)
set_option maxRecDepth 65536 in
theorem w_c4 : (Jvm.Cond.code ({ cls := "com/example/hedgewire/hedgewire/graph/IndexHeap", name := "offer", desc := "(I)V" } : Jvm.MethodName) prog_29_method_3_code (5 : Nat) (Option.none : Option Jvm.ClassFile.FieldType)).before args0 about1 = true := code_word (m := ⟨2, 2⟩) (meth := k2m2) (c := k2c2) (by decide +kernel) rfl rfl rfl (by decide +kernel)
set_option maxRecDepth 65536 in
theorem w_c5 : (Jvm.Cond.code ({ cls := "com/example/hedgewire/hedgewire/graph/IndexHeap", name := "sinkFrom", desc := "(II)I" } : Jvm.MethodName) prog_29_method_7_code (4 : Nat) (Option.some Jvm.ClassFile.FieldType.int)).before args0 about1 = true := code_word (m := ⟨2, 5⟩) (meth := k2m5) (c := k2c5) (by decide +kernel) rfl rfl rfl (by decide +kernel)
set_option maxRecDepth 65536 in
theorem w_c6 : (Jvm.Cond.code ({ cls := "com/example/hedgewire/hedgewire/graph/IndexHeap", name := "place", desc := "(II)V" } : Jvm.MethodName) prog_29_method_9_code (3 : Nat) (Option.none : Option Jvm.ClassFile.FieldType)).before args0 about1 = true := code_word (m := ⟨2, 7⟩) (meth := k2m7) (c := k2c7) (by decide +kernel) rfl rfl rfl (by decide +kernel)
set_option maxRecDepth 65536 in
theorem w_c7 : (Jvm.Cond.code ({ cls := "com/example/hedgewire/hedgewire/graph/IndexHeap", name := "clear", desc := "()V" } : Jvm.MethodName) prog_29_method_4_code (2 : Nat) (Option.none : Option Jvm.ClassFile.FieldType)).before args0 about1 = true := code_word (m := ⟨2, 3⟩) (meth := k2m3) (c := k2c3) (by decide +kernel) rfl rfl rfl (by decide +kernel)
set_option maxRecDepth 65536 in
theorem w_c8 : (Jvm.Cond.code ({ cls := "com/example/hedgewire/hedgewire/graph/IndexHeap", name := "isEmpty", desc := "()Z" } : Jvm.MethodName) prog_29_method_2_code (1 : Nat) (Option.some Jvm.ClassFile.FieldType.boolean)).before args0 about1 = true := code_word (m := ⟨2, 1⟩) (meth := k2m1) (c := k2c1) (by decide +kernel) rfl rfl rfl (by decide +kernel)
set_option maxRecDepth 65536 in
theorem w_c9 : (Jvm.Cond.code ({ cls := "com/example/hedgewire/hedgewire/graph/IndexHeap", name := "poll", desc := "()I" } : Jvm.MethodName) prog_29_method_6_code (3 : Nat) (Option.some Jvm.ClassFile.FieldType.int)).before args0 about1 = true := code_word (m := ⟨2, 4⟩) (meth := k2m4) (c := k2c4) (by decide +kernel) rfl rfl rfl (by decide +kernel)
set_option maxRecDepth 65536 in
theorem w_c10 : (Jvm.Cond.code ({ cls := "com/example/hedgewire/hedgewire/graph/IndexHeap", name := "before", desc := "(II)Z" } : Jvm.MethodName) prog_29_method_8_code (3 : Nat) (Option.some Jvm.ClassFile.FieldType.boolean)).before args0 about1 = true := code_word (m := ⟨2, 6⟩) (meth := k2m6) (c := k2c6) (by decide +kernel) rfl rfl rfl (by decide +kernel)
set_option maxRecDepth 65536 in
theorem w_c11 : (Jvm.Cond.code ({ cls := "com/example/hedgewire/hedgewire/graph/IndexHeapClearPinLaw", name := "before", desc := "([JII)Z" } : Jvm.MethodName) method_2_code (3 : Nat) (Option.some Jvm.ClassFile.FieldType.boolean)).before args0 about1 = true := code_word (m := ⟨1, 1⟩) (meth := k1m1) (c := k1c1) (by decide +kernel) rfl rfl rfl (by decide +kernel)
def codes1 : List Jvm.Cond := [Jvm.Cond.code x code maxLocals ret, Jvm.Cond.code ({ cls := "com/example/hedgewire/hedgewire/graph/IndexHeap", name := "<init>", desc := "([J)V" } : Jvm.MethodName) prog_29_method_1_code (2 : Nat) (Option.none : Option Jvm.ClassFile.FieldType), Jvm.Cond.code ({ cls := "java/lang/Object", name := "<init>", desc := "()V" } : Jvm.MethodName) object_method_1_code (1 : Nat) (Option.none : Option Jvm.ClassFile.FieldType), Jvm.Cond.code ({ cls := "java/util/Arrays", name := "fill", desc := "([II)V" } : Jvm.MethodName) jdk_65_method_103_code (4 : Nat) (Option.none : Option Jvm.ClassFile.FieldType), Jvm.Cond.code ({ cls := "com/example/hedgewire/hedgewire/graph/IndexHeap", name := "offer", desc := "(I)V" } : Jvm.MethodName) prog_29_method_3_code (5 : Nat) (Option.none : Option Jvm.ClassFile.FieldType), Jvm.Cond.code ({ cls := "com/example/hedgewire/hedgewire/graph/IndexHeap", name := "sinkFrom", desc := "(II)I" } : Jvm.MethodName) prog_29_method_7_code (4 : Nat) (Option.some Jvm.ClassFile.FieldType.int), Jvm.Cond.code ({ cls := "com/example/hedgewire/hedgewire/graph/IndexHeap", name := "place", desc := "(II)V" } : Jvm.MethodName) prog_29_method_9_code (3 : Nat) (Option.none : Option Jvm.ClassFile.FieldType), Jvm.Cond.code ({ cls := "com/example/hedgewire/hedgewire/graph/IndexHeap", name := "clear", desc := "()V" } : Jvm.MethodName) prog_29_method_4_code (2 : Nat) (Option.none : Option Jvm.ClassFile.FieldType), Jvm.Cond.code ({ cls := "com/example/hedgewire/hedgewire/graph/IndexHeap", name := "isEmpty", desc := "()Z" } : Jvm.MethodName) prog_29_method_2_code (1 : Nat) (Option.some Jvm.ClassFile.FieldType.boolean), Jvm.Cond.code ({ cls := "com/example/hedgewire/hedgewire/graph/IndexHeap", name := "poll", desc := "()I" } : Jvm.MethodName) prog_29_method_6_code (3 : Nat) (Option.some Jvm.ClassFile.FieldType.int), Jvm.Cond.code ({ cls := "com/example/hedgewire/hedgewire/graph/IndexHeap", name := "before", desc := "(II)Z" } : Jvm.MethodName) prog_29_method_8_code (3 : Nat) (Option.some Jvm.ClassFile.FieldType.boolean), Jvm.Cond.code ({ cls := "com/example/hedgewire/hedgewire/graph/IndexHeapClearPinLaw", name := "before", desc := "([JII)Z" } : Jvm.MethodName) method_2_code (3 : Nat) (Option.some Jvm.ClassFile.FieldType.boolean)]
set_option maxRecDepth 65536 in
theorem codes_eq : words1.filter isCode = codes1 := rfl
theorem w_codes : ∀ c ∈ words1.filter isCode, c.before args0 about1 = true := by
  rw [codes_eq]
  intro c hc
  simp only [codes1, List.mem_cons, List.not_mem_nil, or_false] at hc
  rcases hc with rfl | rfl | rfl | rfl | rfl | rfl | rfl | rfl | rfl | rfl | rfl | rfl
  · exact w_c0
  · exact w_c1
  · exact w_c2
  · exact w_c3
  · exact w_c4
  · exact w_c5
  · exact w_c6
  · exact w_c7
  · exact w_c8
  · exact w_c9
  · exact w_c10
  · exact w_c11
set_option maxRecDepth 65536 in
theorem w_t1 : (words1.take 24).all (fun c => isCode c || c.before args0 about1) = true := by decide +kernel
set_option maxRecDepth 65536 in
theorem w_t2 : ((words1.drop 24).take 24).all (fun c => isCode c || c.before args0 about1) = true := by decide +kernel
set_option maxRecDepth 65536 in
theorem w_t3 : ((words1.drop 24).drop 24).all (fun c => isCode c || c.before args0 about1) = true := by decide +kernel
theorem w_tables : (allAtoms (Jvm.Cond.code x code maxLocals ret :: tables_1)).before args0 about1 = true := by
  rw [allAtoms_all]
  show words1.all (fun c => c.before args0 about1) = true
  refine all_split ?_ w_codes
  rw [← List.take_append_drop 24 words1, List.all_append, w_t1, ← List.take_append_drop 24 (words1.drop 24), List.all_append, w_t2, w_t3]
  rfl
set_option maxRecDepth 65536 in
theorem w_case : (Jvm.Cond.and given_1 narrow_1).before args0 about1 = true := by decide +kernel
theorem w_applies : (headSpec (Jvm.Cond.code x code maxLocals ret :: tables_1) room_1).applies x e0.platform about1 = true :=
  (Spec.applies_iff w_frames).mpr ⟨w_running, w_runnable, w_alone, w_named, w_hears, w_ripe, w_room, w_tables⟩
theorem atStart : AtStart classFile x code maxLocals ret World_1 tables_1 room_1 Calls_1 rest_1 Pre_1 launch0 p0 e0 about1 theMethod args0 below0 :=
  ⟨lists_1, trivial, launch0.admits_env _ _ _, launch0.least_env, fairChoices_fair.cas, fairChoices_fair.clock, w_frames, w_args, w_heap, w_applies, trivial, trivial, w_case⟩
end start1
theorem witness_1 : WitnessClaimed_1 := ⟨start1.p0, start1.e0, start1.about1, start1.theMethod, start1.args0, start1.below0, start1.atStart⟩
end Jvm.Pilot.@@N@@
