import JvmDerived
import JvmDerived.Pilot.@@N@@Statement
import JvmDerived.Pilot.@@N@@Code
set_option linter.unusedVariables false
set_option linter.unusedSimpArgs false
namespace Jvm.Pilot.@@N@@
open Jvm Jvm.ClassFile Sem Op Lib Jvm.Free Jvm.Stand Jvm.LawKit Jvm.RoadKit Bundle Jvm.Pilot.@@N@@.Jvm.D
/-! A small walker over the library's laws (own text): objects made by the law are kept as a list H; the object k lies at the address n0 + k. -/
abbrev GLay : Type := String × List (String × String × String × FieldType)
abbrev GObj : Type := (GLay × List Value) ⊕ (FieldType × List Value)
abbrev GM : Type := MethodName × ByteArray × Nat × Option FieldType
def LayOk (Z : State) (a0 : Array Value) (K : GLay) : Prop :=
  (∃ kk, (Jvm.Cond.instantiable K.1 kk).before a0 Z = true) ∧ (∀ q ∈ K.2, Laid Z a0 K.1 q.1 q.2.1 q.2.2.1 ∧ parseFieldDescriptor q.2.2.1 = some q.2.2.2) ∧ (K.2.map fun q => q.2.1).Nodup
def Ob (Z : State) (a0 : Array Value) (h : Heap) (a : Addr) : GObj → Prop
  | .inl (K, vs) => LayOk Z a0 K ∧ Exa Z h a K.1 ∧ ∀ (i : Nat) (q : String × String × String × FieldType) (v : Value), K.2[i]? = some q → vs[i]? = some v → Fld Z h a q.1 q.2.1 q.2.2.1 v
  | .inr (ty, vs) => ∃ c : Cell, Arr Z h a c ty ∧ c.slots = vs.toArray ∧ (∀ v ∈ vs, fits ty v = true) ∧ Exa Z h a ("[" ++ ty.toString) ∧ ∀ C, ty = .object C → Ovr Z c.cls C
theorem Ob.ext {Z : State} {a0 : Array Value} {h h' : Heap} {a : Addr} {o : GObj} (E : Ext h h') (F : Ob Z a0 h a o) : Ob Z a0 h' a o := by
  rcases o with ⟨K, vs⟩ | ⟨ty, vs⟩
  · exact ⟨F.1, F.2.1.ext E, fun i q v h1 h2 => (F.2.2 i q v h1 h2).ext E⟩
  · obtain ⟨c, h1, h2, h3, h4, h5⟩ := F
    exact ⟨c, h1.ext E, h2, h3, h4.ext E, h5⟩
theorem Ob.other {Z : State} {a0 : Array Value} {h h' : Heap} {a b : Addr} {sl : Nat} {v : Value} {o : GObj} (W : Wr h h' b sl v) (ne : a ≠ b) (F : Ob Z a0 h a o) : Ob Z a0 h' a o := by
  rcases o with ⟨K, vs⟩ | ⟨ty, vs⟩
  · exact ⟨F.1, F.2.1.wr W, fun i q v h1 h2 => (F.2.2 i q v h1 h2).other W (Or.inl ne)⟩
  · obtain ⟨c, h1, h2, h3, h4, h5⟩ := F
    exact ⟨c, h1.other W ne, h2, h3, h4.wr W, h5⟩
def Sat (Z : State) (a0 : Array Value) (n0 : Nat) (h : Heap) (H : List GObj) : Prop :=
  Z.heap.size = n0 ∧ Ext Z.heap h ∧ h.size = n0 + H.length ∧ ∀ (k : Nat) (o : GObj), H[k]? = some o → Ob Z a0 h (n0 + k) o
theorem Sat.push {Z : State} {a0 : Array Value} {n0 : Nat} {h h' : Heap} {H : List GObj} {o : GObj} (S : Sat Z a0 n0 h H) (E : Ext h h') (hs : h'.size = h.size + 1) (F : Ob Z a0 h' h.size o) : Sat Z a0 n0 h' (H ++ [o]) := by
  obtain ⟨s1, s2, s3, s4⟩ := S
  refine ⟨s1, ⟨Nat.le_trans s2.1 E.1, fun a c q => E.2 a c (s2.2 a c q)⟩, by simp [hs, s3]; omega, fun k o' hk => ?_⟩
  rcases Nat.lt_trichotomy k H.length with q | q | q
  · rw [List.getElem?_append_left q] at hk
    exact (s4 k o' hk).ext E
  · subst q
    simp at hk
    subst hk
    rw [← s3]; exact F
  · rw [List.getElem?_eq_none (by simp; omega)] at hk; cases hk
theorem Sat.put {Z : State} {a0 : Array Value} {n0 : Nat} {h h' : Heap} {H : List GObj} {k sl : Nat} {v : Value} {o : GObj} (S : Sat Z a0 n0 h H) (W : Wr h h' (n0 + k) sl v) (F : Ob Z a0 h' (n0 + k) o) : Sat Z a0 n0 h' (H.set k o) := by
  obtain ⟨s1, s2, s3, s4⟩ := S
  refine ⟨s1, ⟨by rw [W.size]; exact s2.1, fun a c q => ?_⟩, by rw [W.size, s3]; simp, fun j o' hj => ?_⟩
  · obtain ⟨c', e1, -, -, -, e5, -⟩ := wr_at W (s2.2 a c q)
    have hlt := (Array.getElem?_eq_some_iff.mp q).1
    rw [← e5 (by intro q; subst q; rw [s1] at hlt; exact absurd hlt (by exact Nat.not_lt.mpr (Nat.le_add_right _ _)))]; exact e1
  · rw [List.getElem?_set] at hj
    split at hj
    · rename_i e
      subst e
      split at hj
      · cases hj; exact F
      · cases hj
    · rename_i ne
      exact (s4 j o' hj).other W (fun q => ne (Nat.add_left_cancel q).symm)
theorem Sat.lt {Z : State} {a0 : Array Value} {n0 : Nat} {h : Heap} {H : List GObj} (S : Sat Z a0 n0 h H) {k : Nat} {o : GObj} (q : H[k]? = some o) : n0 + k < h.size := by
  have := (List.getElem?_eq_some_iff.mp q).1
  have := S.2.2.1
  omega
/-- what a walk's frame stands in -/
def Cx (Z : State) (M : GM) (p : Program) (s : State) (m : MethodId) (meth : Method) (c : Code) : Prop :=
  p.tables.exec = Jvm.exec ∧ Z.Warmed39 s.vm ∧ c.code = M.2.1 ∧ c.maxLocals = M.2.2.1 ∧ meth.sig.returnType = M.2.2.2 ∧ meth.locks = false ∧ s.vm.findClass M.1.cls = some m.cls ∧ meth.name = M.1.name
def End (Z : State) (a0 : Array Value) (n0 : Nat) (R : Room) (Q : Option Value → List GObj → Prop) (p : Program) (e : Env) (s : State) (below : List Frame) (S0 : State) : Prop :=
  ∃ s₂ o, Steps p.tables e below S0 s₂ ∧ s₂.status = .running ∧ Ended s₂ below o ∧ ∃ v L', o = .returned v ∧ (∃ H', Q v H' ∧ Sat Z a0 n0 s₂.heap H' ∧ Fr n0 L') ∧ FrameEnd s o s₂ L' R.cells R.slots
theorem End.back {Z : State} {a0 : Array Value} {n0 : Nat} {R : Room} {Q : Option Value → List GObj → Prop} {p : Program} {e : Env} {s : State} {below : List Frame} {S0 S1 : State} (st : ∀ t, Steps p.tables e below S1 t → Steps p.tables e below S0 t) (h : End Z a0 n0 R Q p e s below S1) : End Z a0 n0 R Q p e s below S0 := by
  obtain ⟨s₂, o, h1, r⟩ := h
  exact ⟨s₂, o, st _ h1, r⟩
/-- from this point the walk comes to its end, and what it leaves meets Q -/
def Go (Z : State) (a0 : Array Value) (n0 : Nat) (M : GM) (R : Room) (Q : Option Value → List GObj → Prop) (pc : Nat) (L : List Slot) (st : List Value) (H : List GObj) (ce sl : Nat) : Prop :=
  ∀ (p : Program) (l : Launch) (e : Env) (s : State) (m : MethodId) (args : Array Value) (below : List Frame) (meth : Method) (c : Code) (T : State) (locs : List Loc),
    Stand p l e R s m args below meth c T locs ce sl → Cx Z M p s m meth c → Sat Z a0 n0 T.heap H → s.heap.size + ce = n0 + H.length → Fr n0 locs → End Z a0 n0 R Q p e s below (T.setTop (mkF m pc L.toArray st))
/-- the instruction at pc, its length, what lies behind -/
def Ins (M : GM) (pc : Nat) (i : Instr) (n pc' : Nat) : Prop := decode M.2.1 pc = .ok (i, n) ∧ pc + n = pc'
section Rules
variable {Z : State} {a0 : Array Value} {n0 : Nat} {M : GM} {R : Room} {Q : Option Value → List GObj → Prop} {pc pc' : Nat} {L : List Slot} {st : List Value} {H : List GObj} {ce sl : Nat}
theorem go_pure {L' : List Slot} {st' : List Value} (hs : ∀ (p : Program) (e : Env) (m : MethodId) (below : List Frame) (c : Code) (T t : State), At T m c below → p.tables.exec = Jvm.exec → c.code = M.2.1 → Steps p.tables e below (T.setTop (mkF m pc' L'.toArray st')) t → Steps p.tables e below (T.setTop (mkF m pc L.toArray st)) t)
    (h : Go Z a0 n0 M R Q pc' L' st' H ce sl) : Go Z a0 n0 M R Q pc L st H ce sl := fun p l e s m args below meth c T locs X C S E F =>
  (h p l e s m args below meth c T locs X C S E F).back fun t k => hs p e m below c T t X.here C.1 C.2.2.1 k
end Rules
section Rules
variable {Z : State} {a0 : Array Value} {n0 : Nat} {M : GM} {R : Room} {Q : Option Value → List GObj → Prop} {pc pc' : Nat} {L : List Slot} {st : List Value} {H : List GObj} {ce sl : Nat}
theorem go_aloadN {k : Fin 4} {v : Addr} (hd : Ins M pc (.aload_n k) 1 pc') (hl : L[k.val]? = some (.val (.ref v))) (h : Go Z a0 n0 M R Q pc' L (.ref v :: st) H ce sl) : Go Z a0 n0 M R Q pc L st H ce sl := by
  obtain ⟨hd, rfl⟩ := hd
  exact go_pure (fun p e m below c T t hA hx hy k => XS.aloadN hA hx rfl (hb hy hd) (by simpa using hl) rfl k) h
theorem go_aload {k : Nat} {v : Addr} (hd : Ins M pc (.aload k) 2 pc') (hl : L[k]? = some (.val (.ref v))) (h : Go Z a0 n0 M R Q pc' L (.ref v :: st) H ce sl) : Go Z a0 n0 M R Q pc L st H ce sl := by
  obtain ⟨hd, rfl⟩ := hd
  exact go_pure (fun p e m below c T t hA hx hy k => XS.aload hA hx rfl (hb hy hd) (by simpa using hl) rfl k) h
theorem go_aloadNull {k : Fin 4} (hd : Ins M pc (.aload_n k) 1 pc') (hl : L[k.val]? = some (.val .null)) (h : Go Z a0 n0 M R Q pc' L (.null :: st) H ce sl) : Go Z a0 n0 M R Q pc L st H ce sl := by
  obtain ⟨hd, rfl⟩ := hd
  exact go_pure (fun p e m below c T t hA hx hy k => XS.aloadN hA hx rfl (hb hy hd) (by simpa using hl) rfl k) h
theorem go_iloadN {k : Fin 4} {v : Int32} (hd : Ins M pc (.iload_n k) 1 pc') (hl : L[k.val]? = some (.val (.int v))) (h : Go Z a0 n0 M R Q pc' L (.int v :: st) H ce sl) : Go Z a0 n0 M R Q pc L st H ce sl := by
  obtain ⟨hd, rfl⟩ := hd
  exact go_pure (fun p e m below c T t hA hx hy k => XS.iloadN hA hx rfl (hb hy hd) (by simpa using hl) k) h
theorem go_iload {k : Nat} {v : Int32} (hd : Ins M pc (.iload k) 2 pc') (hl : L[k]? = some (.val (.int v))) (h : Go Z a0 n0 M R Q pc' L (.int v :: st) H ce sl) : Go Z a0 n0 M R Q pc L st H ce sl := by
  obtain ⟨hd, rfl⟩ := hd
  exact go_pure (fun p e m below c T t hA hx hy k => XS.iload hA hx rfl (hb hy hd) (by simpa using hl) k) h
theorem go_lloadN {k : Fin 4} {v : Int64} (hd : Ins M pc (.lload_n k) 1 pc') (hl : L[k.val]? = some (.val (.long v))) (h : Go Z a0 n0 M R Q pc' L (.long v :: st) H ce sl) : Go Z a0 n0 M R Q pc L st H ce sl := by
  obtain ⟨hd, rfl⟩ := hd
  exact go_pure (fun p e m below c T t hA hx hy k => XT.lloadN hA hx rfl (hb hy hd) (by simpa using hl) k) h
theorem go_lload {k : Nat} {v : Int64} (hd : Ins M pc (.lload k) 2 pc') (hl : L[k]? = some (.val (.long v))) (h : Go Z a0 n0 M R Q pc' L (.long v :: st) H ce sl) : Go Z a0 n0 M R Q pc L st H ce sl := by
  obtain ⟨hd, rfl⟩ := hd
  exact go_pure (fun p e m below c T t hA hx hy k => XT.lload hA hx rfl (hb hy hd) (by simpa using hl) k) h
theorem go_iconst {i : Int} {v : Int32} (hd : Ins M pc (.iconst i) 1 pc') (hv : Int32.ofInt i = v) (h : Go Z a0 n0 M R Q pc' L (.int v :: st) H ce sl) : Go Z a0 n0 M R Q pc L st H ce sl := by
  obtain ⟨hd, rfl⟩ := hd
  exact go_pure (fun p e m below c T t hA hx hy k => XS.iconst hA hx rfl (hb hy hd) (by rw [hv]; exact k)) h
theorem go_bipush {i : Int} {v : Int32} (hd : Ins M pc (.bipush i) 2 pc') (hv : (Int8.ofInt i).toInt32 = v) (h : Go Z a0 n0 M R Q pc' L (.int v :: st) H ce sl) : Go Z a0 n0 M R Q pc L st H ce sl := by
  obtain ⟨hd, rfl⟩ := hd
  exact go_pure (fun p e m below c T t hA hx hy k => XS.bipush hA hx rfl (hb hy hd) (by rw [hv]; exact k)) h
theorem go_sipush {i : Int} {v : Int32} (hd : Ins M pc (.sipush i) 3 pc') (hv : (Int16.ofInt i).toInt32 = v) (h : Go Z a0 n0 M R Q pc' L (.int v :: st) H ce sl) : Go Z a0 n0 M R Q pc L st H ce sl := by
  obtain ⟨hd, rfl⟩ := hd
  exact go_pure (fun p e m below c T t hA hx hy k => XS.sipush hA hx rfl (hb hy hd) (by rw [hv]; exact k)) h
theorem go_lconst {i : Fin 2} {v : Int64} (hd : Ins M pc (.lconst i) 1 pc') (hv : Int64.ofNat i = v) (h : Go Z a0 n0 M R Q pc' L (.long v :: st) H ce sl) : Go Z a0 n0 M R Q pc L st H ce sl := by
  obtain ⟨hd, rfl⟩ := hd
  exact go_pure (fun p e m below c T t hA hx hy k => XT.lconst hA hx rfl (hb hy hd) (by rw [hv]; exact k)) h
theorem go_aconstNull  (hd : Ins M pc (.aconst_null) 1 pc') (h : Go Z a0 n0 M R Q pc' L (.null :: st) H ce sl) : Go Z a0 n0 M R Q pc L st H ce sl := by
  obtain ⟨hd, rfl⟩ := hd
  exact go_pure (fun p e m below c T t hA hx hy k => XS.aconstNull hA hx rfl (hb hy hd) k) h
theorem go_iadd {x y : Int32} (hd : Ins M pc (.iadd) 1 pc') (h : Go Z a0 n0 M R Q pc' L (.int (x + y) :: st) H ce sl) : Go Z a0 n0 M R Q pc L (.int y :: .int x :: st) H ce sl := by
  obtain ⟨hd, rfl⟩ := hd
  exact go_pure (fun p e m below c T t hA hx hy k => XS.iadd hA hx rfl (hb hy hd) rfl k) h
theorem go_isub {x y : Int32} (hd : Ins M pc (.isub) 1 pc') (h : Go Z a0 n0 M R Q pc' L (.int (x - y) :: st) H ce sl) : Go Z a0 n0 M R Q pc L (.int y :: .int x :: st) H ce sl := by
  obtain ⟨hd, rfl⟩ := hd
  exact go_pure (fun p e m below c T t hA hx hy k => XS.isub hA hx rfl (hb hy hd) rfl k) h
theorem go_imul {x y : Int32} (hd : Ins M pc (.imul) 1 pc') (h : Go Z a0 n0 M R Q pc' L (.int (x * y) :: st) H ce sl) : Go Z a0 n0 M R Q pc L (.int y :: .int x :: st) H ce sl := by
  obtain ⟨hd, rfl⟩ := hd
  exact go_pure (fun p e m below c T t hA hx hy k => XS.imul hA hx rfl (hb hy hd) rfl k) h
theorem go_iand {x y : Int32} (hd : Ins M pc (.iand) 1 pc') (h : Go Z a0 n0 M R Q pc' L (.int (x &&& y) :: st) H ce sl) : Go Z a0 n0 M R Q pc L (.int y :: .int x :: st) H ce sl := by
  obtain ⟨hd, rfl⟩ := hd
  exact go_pure (fun p e m below c T t hA hx hy k => XS.iand hA hx rfl (hb hy hd) rfl k) h
theorem go_ior {x y : Int32} (hd : Ins M pc (.ior) 1 pc') (h : Go Z a0 n0 M R Q pc' L (.int (x ||| y) :: st) H ce sl) : Go Z a0 n0 M R Q pc L (.int y :: .int x :: st) H ce sl := by
  obtain ⟨hd, rfl⟩ := hd
  exact go_pure (fun p e m below c T t hA hx hy k => XT.ior hA hx rfl (hb hy hd) rfl k) h
theorem go_ixor {x y : Int32} (hd : Ins M pc (.ixor) 1 pc') (h : Go Z a0 n0 M R Q pc' L (.int (x ^^^ y) :: st) H ce sl) : Go Z a0 n0 M R Q pc L (.int y :: .int x :: st) H ce sl := by
  obtain ⟨hd, rfl⟩ := hd
  exact go_pure (fun p e m below c T t hA hx hy k => XT.ixor hA hx rfl (hb hy hd) rfl k) h
theorem go_ishl {x y : Int32} (hd : Ins M pc (.ishl) 1 pc') (h : Go Z a0 n0 M R Q pc' L (.int (x <<< (y &&& 31)) :: st) H ce sl) : Go Z a0 n0 M R Q pc L (.int y :: .int x :: st) H ce sl := by
  obtain ⟨hd, rfl⟩ := hd
  exact go_pure (fun p e m below c T t hA hx hy k => XT.ishl hA hx rfl (hb hy hd) rfl k) h
theorem go_ishr {x y : Int32} (hd : Ins M pc (.ishr) 1 pc') (h : Go Z a0 n0 M R Q pc' L (.int (x >>> (y &&& 31)) :: st) H ce sl) : Go Z a0 n0 M R Q pc L (.int y :: .int x :: st) H ce sl := by
  obtain ⟨hd, rfl⟩ := hd
  exact go_pure (fun p e m below c T t hA hx hy k => XT.ishr hA hx rfl (hb hy hd) rfl k) h
theorem go_iushr {x y : Int32} (hd : Ins M pc (.iushr) 1 pc') (h : Go Z a0 n0 M R Q pc' L (.int (XT.ushr x y) :: st) H ce sl) : Go Z a0 n0 M R Q pc L (.int y :: .int x :: st) H ce sl := by
  obtain ⟨hd, rfl⟩ := hd
  exact go_pure (fun p e m below c T t hA hx hy k => XT.iushr hA hx rfl (hb hy hd) rfl k) h
theorem go_idiv {x y : Int32} (hd : Ins M pc (.idiv) 1 pc') (hn : y ≠ 0) (h : Go Z a0 n0 M R Q pc' L (.int (x / y) :: st) H ce sl) : Go Z a0 n0 M R Q pc L (.int y :: .int x :: st) H ce sl := by
  obtain ⟨hd, rfl⟩ := hd
  exact go_pure (fun p e m below c T t hA hx hy k => XS.idiv hA hx rfl (hb hy hd) rfl hn k) h
theorem go_irem {x y : Int32} (hd : Ins M pc (.irem) 1 pc') (hn : y ≠ 0) (h : Go Z a0 n0 M R Q pc' L (.int (x % y) :: st) H ce sl) : Go Z a0 n0 M R Q pc L (.int y :: .int x :: st) H ce sl := by
  obtain ⟨hd, rfl⟩ := hd
  exact go_pure (fun p e m below c T t hA hx hy k => XS.irem hA hx rfl (hb hy hd) rfl hn (by rw [irem_eq_mod]; exact k)) h
theorem go_ineg {x : Int32} (hd : Ins M pc (.ineg) 1 pc') (h : Go Z a0 n0 M R Q pc' L (.int (-x) :: st) H ce sl) : Go Z a0 n0 M R Q pc L (.int x :: st) H ce sl := by
  obtain ⟨hd, rfl⟩ := hd
  exact go_pure (fun p e m below c T t hA hx hy k => XS.ineg hA hx rfl (hb hy hd) rfl k) h
theorem go_ladd {x y : Int64} (hd : Ins M pc (.ladd) 1 pc') (h : Go Z a0 n0 M R Q pc' L (.long (x + y) :: st) H ce sl) : Go Z a0 n0 M R Q pc L (.long y :: .long x :: st) H ce sl := by
  obtain ⟨hd, rfl⟩ := hd
  exact go_pure (fun p e m below c T t hA hx hy k => XT.ladd hA hx rfl (hb hy hd) rfl k) h
theorem go_lsub {x y : Int64} (hd : Ins M pc (.lsub) 1 pc') (h : Go Z a0 n0 M R Q pc' L (.long (x - y) :: st) H ce sl) : Go Z a0 n0 M R Q pc L (.long y :: .long x :: st) H ce sl := by
  obtain ⟨hd, rfl⟩ := hd
  exact go_pure (fun p e m below c T t hA hx hy k => XT.lsub hA hx rfl (hb hy hd) rfl k) h
theorem go_lmul {x y : Int64} (hd : Ins M pc (.lmul) 1 pc') (h : Go Z a0 n0 M R Q pc' L (.long (x * y) :: st) H ce sl) : Go Z a0 n0 M R Q pc L (.long y :: .long x :: st) H ce sl := by
  obtain ⟨hd, rfl⟩ := hd
  exact go_pure (fun p e m below c T t hA hx hy k => XT.lmul hA hx rfl (hb hy hd) rfl k) h
theorem go_land {x y : Int64} (hd : Ins M pc (.land) 1 pc') (h : Go Z a0 n0 M R Q pc' L (.long (x &&& y) :: st) H ce sl) : Go Z a0 n0 M R Q pc L (.long y :: .long x :: st) H ce sl := by
  obtain ⟨hd, rfl⟩ := hd
  exact go_pure (fun p e m below c T t hA hx hy k => XT.land hA hx rfl (hb hy hd) rfl k) h
theorem go_lor {x y : Int64} (hd : Ins M pc (.lor) 1 pc') (h : Go Z a0 n0 M R Q pc' L (.long (x ||| y) :: st) H ce sl) : Go Z a0 n0 M R Q pc L (.long y :: .long x :: st) H ce sl := by
  obtain ⟨hd, rfl⟩ := hd
  exact go_pure (fun p e m below c T t hA hx hy k => XT.lor hA hx rfl (hb hy hd) rfl k) h
theorem go_lxor {x y : Int64} (hd : Ins M pc (.lxor) 1 pc') (h : Go Z a0 n0 M R Q pc' L (.long (x ^^^ y) :: st) H ce sl) : Go Z a0 n0 M R Q pc L (.long y :: .long x :: st) H ce sl := by
  obtain ⟨hd, rfl⟩ := hd
  exact go_pure (fun p e m below c T t hA hx hy k => XT.lxor hA hx rfl (hb hy hd) rfl k) h
theorem go_lshl {x : Int64} {y : Int32} (hd : Ins M pc (.lshl) 1 pc') (h : Go Z a0 n0 M R Q pc' L (.long (x <<< (y.toInt64 &&& 63)) :: st) H ce sl) : Go Z a0 n0 M R Q pc L (.int y :: .long x :: st) H ce sl := by
  obtain ⟨hd, rfl⟩ := hd
  exact go_pure (fun p e m below c T t hA hx hy k => XT.lshl hA hx rfl (hb hy hd) rfl k) h
theorem go_lshr {x : Int64} {y : Int32} (hd : Ins M pc (.lshr) 1 pc') (h : Go Z a0 n0 M R Q pc' L (.long (x >>> (y.toInt64 &&& 63)) :: st) H ce sl) : Go Z a0 n0 M R Q pc L (.int y :: .long x :: st) H ce sl := by
  obtain ⟨hd, rfl⟩ := hd
  exact go_pure (fun p e m below c T t hA hx hy k => XT.lshr hA hx rfl (hb hy hd) rfl k) h
theorem go_lushr {x : Int64} {y : Int32} (hd : Ins M pc (.lushr) 1 pc') (h : Go Z a0 n0 M R Q pc' L (.long (XT.ushrL x y) :: st) H ce sl) : Go Z a0 n0 M R Q pc L (.int y :: .long x :: st) H ce sl := by
  obtain ⟨hd, rfl⟩ := hd
  exact go_pure (fun p e m below c T t hA hx hy k => XT.lushr hA hx rfl (hb hy hd) rfl k) h
theorem go_lcmp {x y : Int64} (hd : Ins M pc (.lcmp) 1 pc') (h : Go Z a0 n0 M R Q pc' L (.int (XT.cmpL x y) :: st) H ce sl) : Go Z a0 n0 M R Q pc L (.long y :: .long x :: st) H ce sl := by
  obtain ⟨hd, rfl⟩ := hd
  exact go_pure (fun p e m below c T t hA hx hy k => XT.lcmp hA hx rfl (hb hy hd) rfl k) h
theorem go_lneg {x : Int64} (hd : Ins M pc (.lneg) 1 pc') (h : Go Z a0 n0 M R Q pc' L (.long (-x) :: st) H ce sl) : Go Z a0 n0 M R Q pc L (.long x :: st) H ce sl := by
  obtain ⟨hd, rfl⟩ := hd
  exact go_pure (fun p e m below c T t hA hx hy k => XT.lneg hA hx rfl (hb hy hd) rfl k) h
theorem go_i2l {x : Int32} (hd : Ins M pc (.i2l) 1 pc') (h : Go Z a0 n0 M R Q pc' L (.long x.toInt64 :: st) H ce sl) : Go Z a0 n0 M R Q pc L (.int x :: st) H ce sl := by
  obtain ⟨hd, rfl⟩ := hd
  exact go_pure (fun p e m below c T t hA hx hy k => XT.i2l hA hx rfl (hb hy hd) rfl k) h
theorem go_l2i {x : Int64} (hd : Ins M pc (.l2i) 1 pc') (h : Go Z a0 n0 M R Q pc' L (.int x.toInt32 :: st) H ce sl) : Go Z a0 n0 M R Q pc L (.long x :: st) H ce sl := by
  obtain ⟨hd, rfl⟩ := hd
  exact go_pure (fun p e m below c T t hA hx hy k => XT.l2i hA hx rfl (hb hy hd) rfl k) h
theorem go_i2b {x : Int32} (hd : Ins M pc (.i2b) 1 pc') (h : Go Z a0 n0 M R Q pc' L (.int x.toInt8.toInt32 :: st) H ce sl) : Go Z a0 n0 M R Q pc L (.int x :: st) H ce sl := by
  obtain ⟨hd, rfl⟩ := hd
  exact go_pure (fun p e m below c T t hA hx hy k => XT.i2b hA hx rfl (hb hy hd) rfl k) h
theorem go_i2c {x : Int32} (hd : Ins M pc (.i2c) 1 pc') (h : Go Z a0 n0 M R Q pc' L (.int x.toUInt32.toUInt16.toUInt32.toInt32 :: st) H ce sl) : Go Z a0 n0 M R Q pc L (.int x :: st) H ce sl := by
  obtain ⟨hd, rfl⟩ := hd
  exact go_pure (fun p e m below c T t hA hx hy k => XT.i2c hA hx rfl (hb hy hd) rfl k) h
theorem go_dup {x : Value} (hd : Ins M pc (.dup) 1 pc') (hc : x.category = 1) (h : Go Z a0 n0 M R Q pc' L (x :: x :: st) H ce sl) : Go Z a0 n0 M R Q pc L (x :: st) H ce sl := by
  obtain ⟨hd, rfl⟩ := hd
  exact go_pure (fun p e m below c T t hA hx hy k => XS.dup hA hx rfl (hb hy hd) rfl hc k) h
theorem go_pop {x : Value} (hd : Ins M pc (.pop) 1 pc') (hc : x.category = 1) (h : Go Z a0 n0 M R Q pc' L st H ce sl) : Go Z a0 n0 M R Q pc L (x :: st) H ce sl := by
  obtain ⟨hd, rfl⟩ := hd
  exact go_pure (fun p e m below c T t hA hx hy k => XT.pop hA hx rfl (hb hy hd) rfl hc k) h
theorem go_dupX1 {x y : Value} (hd : Ins M pc (.dup_x1) 1 pc') (hc : x.category = 1) (hc' : y.category = 1) (h : Go Z a0 n0 M R Q pc' L (x :: y :: x :: st) H ce sl) : Go Z a0 n0 M R Q pc L (x :: y :: st) H ce sl := by
  obtain ⟨hd, rfl⟩ := hd
  exact go_pure (fun p e m below c T t hA hx hy k => XT.dupX1 hA hx rfl (hb hy hd) rfl hc hc' k) h
theorem go_dup2 {x y : Value} (hd : Ins M pc (.dup2) 1 pc') (hc : x.category = 1) (hc' : y.category = 1) (h : Go Z a0 n0 M R Q pc' L (x :: y :: x :: y :: st) H ce sl) : Go Z a0 n0 M R Q pc L (x :: y :: st) H ce sl := by
  obtain ⟨hd, rfl⟩ := hd
  exact go_pure (fun p e m below c T t hA hx hy k => XT.dup2 hA hx rfl (hb hy hd) rfl hc hc' k) h
theorem go_goto {o : Int} (t : Nat) (hd : Ins M pc (.goto o) 3 pc') (ht : (pc : Int) + o = (t : Int)) (h : Go Z a0 n0 M R Q t L st H ce sl) : Go Z a0 n0 M R Q pc L st H ce sl := by
  obtain ⟨hd, rfl⟩ := hd
  exact go_pure (fun p e m below c T u hA hx hy k => XS.goto hA hx rfl (pc0 := pc) (pc' := t) rfl (hb hy hd) (by omega) (by omega) k) h
theorem go_if {cd : ClassFile.Cond} {o : Int} {x : Int32} (t : Nat) (hd : Ins M pc (.ifCond cd o) 3 pc') (ht : (pc : Int) + o = (t : Int)) (h1 : ifCond.holds cd x = true → Go Z a0 n0 M R Q t L st H ce sl) (h2 : ifCond.holds cd x = false → Go Z a0 n0 M R Q pc' L st H ce sl) : Go Z a0 n0 M R Q pc L (.int x :: st) H ce sl := by
  obtain ⟨hd, rfl⟩ := hd
  cases hc : ifCond.holds cd x
  · exact go_pure (fun p e m below c T u hA hx hy k => XS.ifNo hA hx rfl (hb hy hd) rfl hc k) (h2 hc)
  · exact go_pure (fun p e m below c T u hA hx hy k => XS.ifYes hA hx rfl (pc0 := pc) (pc' := t) rfl (hb hy hd) rfl hc (by omega) (by omega) k) (h1 hc)
theorem go_icmp {cd : ClassFile.Cond} {o : Int} {x y : Int32} (t : Nat) (hd : Ins M pc (.if_icmp cd o) 3 pc') (ht : (pc : Int) + o = (t : Int)) (h1 : if_icmp.holds cd x y = true → Go Z a0 n0 M R Q t L st H ce sl) (h2 : if_icmp.holds cd x y = false → Go Z a0 n0 M R Q pc' L st H ce sl) : Go Z a0 n0 M R Q pc L (.int y :: .int x :: st) H ce sl := by
  obtain ⟨hd, rfl⟩ := hd
  cases hc : if_icmp.holds cd x y
  · exact go_pure (fun p e m below c T u hA hx hy k => XS.icmpNo hA hx rfl (hb hy hd) rfl hc k) (h2 hc)
  · exact go_pure (fun p e m below c T u hA hx hy k => XS.icmpYes hA hx rfl (pc0 := pc) (pc' := t) rfl (hb hy hd) rfl hc (by omega) (by omega) k) (h1 hc)
theorem go_icmpT {cd : ClassFile.Cond} {o : Int} {x y : Int32} (t : Nat) (hd : Ins M pc (.if_icmp cd o) 3 pc') (ht : (pc : Int) + o = (t : Int)) (hc : if_icmp.holds cd x y = true) (h : Go Z a0 n0 M R Q t L st H ce sl) : Go Z a0 n0 M R Q pc L (.int y :: .int x :: st) H ce sl := go_icmp t hd ht (fun _ => h) (fun q => by rw [hc] at q; cases q)
theorem go_icmpF {cd : ClassFile.Cond} {o : Int} {x y : Int32} (hd : Ins M pc (.if_icmp cd o) 3 pc') (hc : if_icmp.holds cd x y = false) (h : Go Z a0 n0 M R Q pc' L st H ce sl) : Go Z a0 n0 M R Q pc L (.int y :: .int x :: st) H ce sl := by
  obtain ⟨hd, rfl⟩ := hd
  exact go_pure (fun p e m below c T u hA hx hy k => XS.icmpNo hA hx rfl (hb hy hd) rfl hc k) h
theorem go_ifT {cd : ClassFile.Cond} {o : Int} {x : Int32} (t : Nat) (hd : Ins M pc (.ifCond cd o) 3 pc') (ht : (pc : Int) + o = (t : Int)) (hc : ifCond.holds cd x = true) (h : Go Z a0 n0 M R Q t L st H ce sl) : Go Z a0 n0 M R Q pc L (.int x :: st) H ce sl := go_if t hd ht (fun _ => h) (fun q => by rw [hc] at q; cases q)
theorem go_ifF {cd : ClassFile.Cond} {o : Int} {x : Int32} (hd : Ins M pc (.ifCond cd o) 3 pc') (hc : ifCond.holds cd x = false) (h : Go Z a0 n0 M R Q pc' L st H ce sl) : Go Z a0 n0 M R Q pc L (.int x :: st) H ce sl := by
  obtain ⟨hd, rfl⟩ := hd
  exact go_pure (fun p e m below c T u hA hx hy k => XS.ifNo hA hx rfl (hb hy hd) rfl hc k) h
theorem hold_lt (x y : Int32) : (if_icmp.holds .lt x y = true ↔ x < y) ∧ (if_icmp.holds .lt x y = false ↔ ¬ x < y) := by simp [if_icmp.holds, Int32.not_lt, Int32.not_le]
theorem go_icmp_lt {o : Int} {x y : Int32} (t : Nat) (hd : Ins M pc (.if_icmp .lt o) 3 pc') (ht : (pc : Int) + o = (t : Int)) (h1 : x < y → Go Z a0 n0 M R Q t L st H ce sl) (h2 : ¬ x < y → Go Z a0 n0 M R Q pc' L st H ce sl) : Go Z a0 n0 M R Q pc L (.int y :: .int x :: st) H ce sl :=
  go_icmp t hd ht (fun q => h1 ((hold_lt x y).1.mp q)) (fun q => h2 ((hold_lt x y).2.mp q))
theorem go_if_lt {o : Int} {x : Int32} (t : Nat) (hd : Ins M pc (.ifCond .lt o) 3 pc') (ht : (pc : Int) + o = (t : Int)) (h1 : x < 0 → Go Z a0 n0 M R Q t L st H ce sl) (h2 : ¬ x < 0 → Go Z a0 n0 M R Q pc' L st H ce sl) : Go Z a0 n0 M R Q pc L (.int x :: st) H ce sl :=
  go_if t hd ht (fun q => h1 ((hold_lt x 0).1.mp ((if0 _ _).symm.trans q))) (fun q => h2 ((hold_lt x 0).2.mp ((if0 _ _).symm.trans q)))
theorem hold_ge (x y : Int32) : (if_icmp.holds .ge x y = true ↔ ¬ x < y) ∧ (if_icmp.holds .ge x y = false ↔ x < y) := by simp [if_icmp.holds, Int32.not_lt, Int32.not_le]
theorem go_icmp_ge {o : Int} {x y : Int32} (t : Nat) (hd : Ins M pc (.if_icmp .ge o) 3 pc') (ht : (pc : Int) + o = (t : Int)) (h1 : ¬ x < y → Go Z a0 n0 M R Q t L st H ce sl) (h2 : x < y → Go Z a0 n0 M R Q pc' L st H ce sl) : Go Z a0 n0 M R Q pc L (.int y :: .int x :: st) H ce sl :=
  go_icmp t hd ht (fun q => h1 ((hold_ge x y).1.mp q)) (fun q => h2 ((hold_ge x y).2.mp q))
theorem go_if_ge {o : Int} {x : Int32} (t : Nat) (hd : Ins M pc (.ifCond .ge o) 3 pc') (ht : (pc : Int) + o = (t : Int)) (h1 : ¬ x < 0 → Go Z a0 n0 M R Q t L st H ce sl) (h2 : x < 0 → Go Z a0 n0 M R Q pc' L st H ce sl) : Go Z a0 n0 M R Q pc L (.int x :: st) H ce sl :=
  go_if t hd ht (fun q => h1 ((hold_ge x 0).1.mp ((if0 _ _).symm.trans q))) (fun q => h2 ((hold_ge x 0).2.mp ((if0 _ _).symm.trans q)))
theorem hold_gt (x y : Int32) : (if_icmp.holds .gt x y = true ↔ y < x) ∧ (if_icmp.holds .gt x y = false ↔ ¬ y < x) := by simp [if_icmp.holds, Int32.not_lt, Int32.not_le]
theorem go_icmp_gt {o : Int} {x y : Int32} (t : Nat) (hd : Ins M pc (.if_icmp .gt o) 3 pc') (ht : (pc : Int) + o = (t : Int)) (h1 : y < x → Go Z a0 n0 M R Q t L st H ce sl) (h2 : ¬ y < x → Go Z a0 n0 M R Q pc' L st H ce sl) : Go Z a0 n0 M R Q pc L (.int y :: .int x :: st) H ce sl :=
  go_icmp t hd ht (fun q => h1 ((hold_gt x y).1.mp q)) (fun q => h2 ((hold_gt x y).2.mp q))
theorem go_if_gt {o : Int} {x : Int32} (t : Nat) (hd : Ins M pc (.ifCond .gt o) 3 pc') (ht : (pc : Int) + o = (t : Int)) (h1 : 0 < x → Go Z a0 n0 M R Q t L st H ce sl) (h2 : ¬ 0 < x → Go Z a0 n0 M R Q pc' L st H ce sl) : Go Z a0 n0 M R Q pc L (.int x :: st) H ce sl :=
  go_if t hd ht (fun q => h1 ((hold_gt x 0).1.mp ((if0 _ _).symm.trans q))) (fun q => h2 ((hold_gt x 0).2.mp ((if0 _ _).symm.trans q)))
theorem hold_le (x y : Int32) : (if_icmp.holds .le x y = true ↔ ¬ y < x) ∧ (if_icmp.holds .le x y = false ↔ y < x) := by simp [if_icmp.holds, Int32.not_lt, Int32.not_le]
theorem go_icmp_le {o : Int} {x y : Int32} (t : Nat) (hd : Ins M pc (.if_icmp .le o) 3 pc') (ht : (pc : Int) + o = (t : Int)) (h1 : ¬ y < x → Go Z a0 n0 M R Q t L st H ce sl) (h2 : y < x → Go Z a0 n0 M R Q pc' L st H ce sl) : Go Z a0 n0 M R Q pc L (.int y :: .int x :: st) H ce sl :=
  go_icmp t hd ht (fun q => h1 ((hold_le x y).1.mp q)) (fun q => h2 ((hold_le x y).2.mp q))
theorem go_if_le {o : Int} {x : Int32} (t : Nat) (hd : Ins M pc (.ifCond .le o) 3 pc') (ht : (pc : Int) + o = (t : Int)) (h1 : ¬ 0 < x → Go Z a0 n0 M R Q t L st H ce sl) (h2 : 0 < x → Go Z a0 n0 M R Q pc' L st H ce sl) : Go Z a0 n0 M R Q pc L (.int x :: st) H ce sl :=
  go_if t hd ht (fun q => h1 ((hold_le x 0).1.mp ((if0 _ _).symm.trans q))) (fun q => h2 ((hold_le x 0).2.mp ((if0 _ _).symm.trans q)))
theorem hold_eq (x y : Int32) : (if_icmp.holds .eq x y = true ↔ x = y) ∧ (if_icmp.holds .eq x y = false ↔ ¬ x = y) := by simp [if_icmp.holds, Int32.not_lt, Int32.not_le]
theorem go_icmp_eq {o : Int} {x y : Int32} (t : Nat) (hd : Ins M pc (.if_icmp .eq o) 3 pc') (ht : (pc : Int) + o = (t : Int)) (h1 : x = y → Go Z a0 n0 M R Q t L st H ce sl) (h2 : ¬ x = y → Go Z a0 n0 M R Q pc' L st H ce sl) : Go Z a0 n0 M R Q pc L (.int y :: .int x :: st) H ce sl :=
  go_icmp t hd ht (fun q => h1 ((hold_eq x y).1.mp q)) (fun q => h2 ((hold_eq x y).2.mp q))
theorem go_if_eq {o : Int} {x : Int32} (t : Nat) (hd : Ins M pc (.ifCond .eq o) 3 pc') (ht : (pc : Int) + o = (t : Int)) (h1 : x = 0 → Go Z a0 n0 M R Q t L st H ce sl) (h2 : ¬ x = 0 → Go Z a0 n0 M R Q pc' L st H ce sl) : Go Z a0 n0 M R Q pc L (.int x :: st) H ce sl :=
  go_if t hd ht (fun q => h1 ((hold_eq x 0).1.mp ((if0 _ _).symm.trans q))) (fun q => h2 ((hold_eq x 0).2.mp ((if0 _ _).symm.trans q)))
theorem hold_ne (x y : Int32) : (if_icmp.holds .ne x y = true ↔ ¬ x = y) ∧ (if_icmp.holds .ne x y = false ↔ x = y) := by simp [if_icmp.holds, Int32.not_lt, Int32.not_le]
theorem go_icmp_ne {o : Int} {x y : Int32} (t : Nat) (hd : Ins M pc (.if_icmp .ne o) 3 pc') (ht : (pc : Int) + o = (t : Int)) (h1 : ¬ x = y → Go Z a0 n0 M R Q t L st H ce sl) (h2 : x = y → Go Z a0 n0 M R Q pc' L st H ce sl) : Go Z a0 n0 M R Q pc L (.int y :: .int x :: st) H ce sl :=
  go_icmp t hd ht (fun q => h1 ((hold_ne x y).1.mp q)) (fun q => h2 ((hold_ne x y).2.mp q))
theorem go_if_ne {o : Int} {x : Int32} (t : Nat) (hd : Ins M pc (.ifCond .ne o) 3 pc') (ht : (pc : Int) + o = (t : Int)) (h1 : ¬ x = 0 → Go Z a0 n0 M R Q t L st H ce sl) (h2 : x = 0 → Go Z a0 n0 M R Q pc' L st H ce sl) : Go Z a0 n0 M R Q pc L (.int x :: st) H ce sl :=
  go_if t hd ht (fun q => h1 ((hold_ne x 0).1.mp ((if0 _ _).symm.trans q))) (fun q => h2 ((hold_ne x 0).2.mp ((if0 _ _).symm.trans q)))
theorem go_ifnull {o : Int} {b : Addr} (hd : Ins M pc (.ifnull o) 3 pc') (h : Go Z a0 n0 M R Q pc' L st H ce sl) : Go Z a0 n0 M R Q pc L (.ref b :: st) H ce sl := by
  obtain ⟨hd, rfl⟩ := hd
  exact go_pure (fun p e m below c T t hA hx hy k => XS.ifnullNo hA hx rfl (hb hy hd) rfl k) h
theorem go_ifnonnull {o : Int} {b : Addr} (t : Nat) (hd : Ins M pc (.ifnonnull o) 3 pc') (ht : (pc : Int) + o = (t : Int)) (h : Go Z a0 n0 M R Q t L st H ce sl) : Go Z a0 n0 M R Q pc L (.ref b :: st) H ce sl := by
  obtain ⟨hd, rfl⟩ := hd
  exact go_pure (fun p e m below c T u hA hx hy k => XT.ifnonnullYes hA hx rfl (pc0 := pc) (pc' := t) rfl (hb hy hd) rfl (by omega) (by omega) k) h
theorem set_app {α : Type} (A B : List α) (o w : α) {k : Nat} (hA : A.length = k) : (A ++ o :: B).toArray.setIfInBounds k w = (A ++ w :: B).toArray := by
  subst hA; simp
theorem get_app {α : Type} (A B : List α) (o : α) {k : Nat} (hA : A.length = k) : (A ++ o :: B).toArray[k]? = some o := by
  subst hA; simp
theorem sto2 {A B : List Slot} {o1 o2 : Slot} {x : Int64} {k : Nat} (hA : A.length = k) (ho : (One o1 ∧ One o2) ∨ ∃ y : Int64, o1 = .val (.long y) ∧ o2 = .second) : storeLocals (A ++ o1 :: o2 :: B).toArray k (.long x) = some (A ++ .val (.long x) :: .second :: B).toArray := by
  subst hA
  rcases ho with ⟨h1, h2⟩ | ⟨y, rfl, rfl⟩
  · rcases h1 with rfl | ⟨w, rfl, hw⟩ <;> rcases h2 with rfl | ⟨w', rfl, hw'⟩ <;> simp [storeLocals, storeSelf, setAt, *] <;> simp [Value.category]
  · simp [storeLocals, storeSelf, setAt, Value.category]
theorem go_istoreG {k : Nat} {A B : List Slot} {o : Slot} {x : Int32} (hA : A.length = k) (ho : One o) (hd : Ins M pc (.istore k) 2 pc') (h : Go Z a0 n0 M R Q pc' (A ++ .val (.int x) :: B) st H ce sl) : Go Z a0 n0 M R Q pc (A ++ o :: B) (.int x :: st) H ce sl := by
  obtain ⟨hd, rfl⟩ := hd
  exact go_pure (fun p e m below c T t hA' hx hy k => XS.istore hA' hx rfl (hb hy hd) rfl (XS.store1 (get_app A B o hA) ho rfl) (by rw [set_app A B o _ hA]; exact k)) h
theorem go_istoreNG {k : Fin 4} {A B : List Slot} {o : Slot} {x : Int32} (hA : A.length = k.val) (ho : One o) (hd : Ins M pc (.istore_n k) 1 pc') (h : Go Z a0 n0 M R Q pc' (A ++ .val (.int x) :: B) st H ce sl) : Go Z a0 n0 M R Q pc (A ++ o :: B) (.int x :: st) H ce sl := by
  obtain ⟨hd, rfl⟩ := hd
  exact go_pure (fun p e m below c T t hA' hx hy k => XS.istoreN hA' hx rfl (hb hy hd) rfl (XS.store1 (get_app A B o hA) ho rfl) (by rw [set_app A B o _ hA]; exact k)) h
theorem go_astoreG {k : Nat} {A B : List Slot} {o : Slot} {x : Addr} (hA : A.length = k) (ho : One o) (hd : Ins M pc (.astore k) 2 pc') (h : Go Z a0 n0 M R Q pc' (A ++ .val (.ref x) :: B) st H ce sl) : Go Z a0 n0 M R Q pc (A ++ o :: B) (.ref x :: st) H ce sl := by
  obtain ⟨hd, rfl⟩ := hd
  exact go_pure (fun p e m below c T t hA' hx hy k => XS.astore hA' hx rfl (hb hy hd) rfl rfl (XS.store1 (get_app A B o hA) ho rfl) (by rw [set_app A B o _ hA]; exact k)) h
theorem go_astoreNG {k : Fin 4} {A B : List Slot} {o : Slot} {x : Addr} (hA : A.length = k.val) (ho : One o) (hd : Ins M pc (.astore_n k) 1 pc') (h : Go Z a0 n0 M R Q pc' (A ++ .val (.ref x) :: B) st H ce sl) : Go Z a0 n0 M R Q pc (A ++ o :: B) (.ref x :: st) H ce sl := by
  obtain ⟨hd, rfl⟩ := hd
  exact go_pure (fun p e m below c T t hA' hx hy k => XS.astoreN hA' hx rfl (hb hy hd) rfl rfl (XS.store1 (get_app A B o hA) ho rfl) (by rw [set_app A B o _ hA]; exact k)) h
theorem go_lstoreG {k : Nat} {A B : List Slot} {o o' : Slot} {x : Int64} (hA : A.length = k) (ho : (One o ∧ One o') ∨ ∃ y : Int64, o = .val (.long y) ∧ o' = .second) (hd : Ins M pc (.lstore k) 2 pc') (h : Go Z a0 n0 M R Q pc' (A ++ .val (.long x) :: .second :: B) st H ce sl) : Go Z a0 n0 M R Q pc (A ++ o :: o' :: B) (.long x :: st) H ce sl := by
  obtain ⟨hd, rfl⟩ := hd
  exact go_pure (fun p e m below c T t hA' hx hy k => XT.lstore hA' hx rfl (hb hy hd) rfl (sto2 hA ho) k) h
theorem go_lstoreNG {k : Fin 4} {A B : List Slot} {o o' : Slot} {x : Int64} (hA : A.length = k.val) (ho : (One o ∧ One o') ∨ ∃ y : Int64, o = .val (.long y) ∧ o' = .second) (hd : Ins M pc (.lstore_n k) 1 pc') (h : Go Z a0 n0 M R Q pc' (A ++ .val (.long x) :: .second :: B) st H ce sl) : Go Z a0 n0 M R Q pc (A ++ o :: o' :: B) (.long x :: st) H ce sl := by
  obtain ⟨hd, rfl⟩ := hd
  exact go_pure (fun p e m below c T t hA' hx hy k => XT.lstoreN hA' hx rfl (hb hy hd) rfl (sto2 hA ho) k) h
theorem go_iincG {k : Nat} {A B : List Slot} {cst : Int} {x v : Int32} (hA : A.length = k) (hd : Ins M pc (.iinc k cst) 3 pc') (hv : x + Int32.ofInt cst = v) (h : Go Z a0 n0 M R Q pc' (A ++ .val (.int v) :: B) st H ce sl) : Go Z a0 n0 M R Q pc (A ++ .val (.int x) :: B) st H ce sl := by
  obtain ⟨hd, rfl⟩ := hd
  subst hv
  exact go_pure (fun p e m below c T t hA' hx hy k => XS.iinc hA' hx rfl (hb hy hd) (get_app A B (.val (.int x)) hA) (XS.store1 (get_app A B (.val (.int x)) hA) (One.val rfl) rfl) (by rw [set_app A B (.val (.int x)) _ hA]; exact k)) h
theorem go_istore0 {o : Slot} {B : List Slot} {x : Int32} (hd : Ins M pc (.istore_n 0) 1 pc') (ho : One o) (h : Go Z a0 n0 M R Q pc' (.val (.int x) :: B) st H ce sl) : Go Z a0 n0 M R Q pc (o :: B) (.int x :: st) H ce sl := go_istoreNG (A := []) rfl ho hd h
theorem go_astore0 {o : Slot} {B : List Slot} {x : Addr} (hd : Ins M pc (.astore_n 0) 1 pc') (ho : One o) (h : Go Z a0 n0 M R Q pc' (.val (.ref x) :: B) st H ce sl) : Go Z a0 n0 M R Q pc (o :: B) (.ref x :: st) H ce sl := go_astoreNG (A := []) rfl ho hd h
theorem go_lstore0 {o o' : Slot} {B : List Slot} {x : Int64} (hd : Ins M pc (.lstore_n 0) 1 pc') (ho : (One o ∧ One o') ∨ ∃ y : Int64, o = .val (.long y) ∧ o' = .second) (h : Go Z a0 n0 M R Q pc' (.val (.long x) :: .second :: B) st H ce sl) : Go Z a0 n0 M R Q pc (o :: o' :: B) (.long x :: st) H ce sl := go_lstoreNG (A := []) rfl ho hd h
theorem go_iinc0 {B : List Slot} {cst : Int} {x v : Int32} (hd : Ins M pc (.iinc 0 cst) 3 pc') (hv : x + Int32.ofInt cst = v) (h : Go Z a0 n0 M R Q pc' (.val (.int v) :: B) st H ce sl) : Go Z a0 n0 M R Q pc (.val (.int x) :: B) st H ce sl := go_iincG (A := []) rfl hd hv h
theorem go_istore1 {s0 o : Slot} {B : List Slot} {x : Int32} (hd : Ins M pc (.istore_n 1) 1 pc') (ho : One o) (h : Go Z a0 n0 M R Q pc' (s0 :: .val (.int x) :: B) st H ce sl) : Go Z a0 n0 M R Q pc (s0 :: o :: B) (.int x :: st) H ce sl := go_istoreNG (A := [s0]) rfl ho hd h
theorem go_astore1 {s0 o : Slot} {B : List Slot} {x : Addr} (hd : Ins M pc (.astore_n 1) 1 pc') (ho : One o) (h : Go Z a0 n0 M R Q pc' (s0 :: .val (.ref x) :: B) st H ce sl) : Go Z a0 n0 M R Q pc (s0 :: o :: B) (.ref x :: st) H ce sl := go_astoreNG (A := [s0]) rfl ho hd h
theorem go_lstore1 {s0 o o' : Slot} {B : List Slot} {x : Int64} (hd : Ins M pc (.lstore_n 1) 1 pc') (ho : (One o ∧ One o') ∨ ∃ y : Int64, o = .val (.long y) ∧ o' = .second) (h : Go Z a0 n0 M R Q pc' (s0 :: .val (.long x) :: .second :: B) st H ce sl) : Go Z a0 n0 M R Q pc (s0 :: o :: o' :: B) (.long x :: st) H ce sl := go_lstoreNG (A := [s0]) rfl ho hd h
theorem go_iinc1 {s0 : Slot} {B : List Slot} {cst : Int} {x v : Int32} (hd : Ins M pc (.iinc 1 cst) 3 pc') (hv : x + Int32.ofInt cst = v) (h : Go Z a0 n0 M R Q pc' (s0 :: .val (.int v) :: B) st H ce sl) : Go Z a0 n0 M R Q pc (s0 :: .val (.int x) :: B) st H ce sl := go_iincG (A := [s0]) rfl hd hv h
theorem go_istore2 {s0 s1 o : Slot} {B : List Slot} {x : Int32} (hd : Ins M pc (.istore_n 2) 1 pc') (ho : One o) (h : Go Z a0 n0 M R Q pc' (s0 :: s1 :: .val (.int x) :: B) st H ce sl) : Go Z a0 n0 M R Q pc (s0 :: s1 :: o :: B) (.int x :: st) H ce sl := go_istoreNG (A := [s0, s1]) rfl ho hd h
theorem go_astore2 {s0 s1 o : Slot} {B : List Slot} {x : Addr} (hd : Ins M pc (.astore_n 2) 1 pc') (ho : One o) (h : Go Z a0 n0 M R Q pc' (s0 :: s1 :: .val (.ref x) :: B) st H ce sl) : Go Z a0 n0 M R Q pc (s0 :: s1 :: o :: B) (.ref x :: st) H ce sl := go_astoreNG (A := [s0, s1]) rfl ho hd h
theorem go_lstore2 {s0 s1 o o' : Slot} {B : List Slot} {x : Int64} (hd : Ins M pc (.lstore_n 2) 1 pc') (ho : (One o ∧ One o') ∨ ∃ y : Int64, o = .val (.long y) ∧ o' = .second) (h : Go Z a0 n0 M R Q pc' (s0 :: s1 :: .val (.long x) :: .second :: B) st H ce sl) : Go Z a0 n0 M R Q pc (s0 :: s1 :: o :: o' :: B) (.long x :: st) H ce sl := go_lstoreNG (A := [s0, s1]) rfl ho hd h
theorem go_iinc2 {s0 s1 : Slot} {B : List Slot} {cst : Int} {x v : Int32} (hd : Ins M pc (.iinc 2 cst) 3 pc') (hv : x + Int32.ofInt cst = v) (h : Go Z a0 n0 M R Q pc' (s0 :: s1 :: .val (.int v) :: B) st H ce sl) : Go Z a0 n0 M R Q pc (s0 :: s1 :: .val (.int x) :: B) st H ce sl := go_iincG (A := [s0, s1]) rfl hd hv h
theorem go_istore3 {s0 s1 s2 o : Slot} {B : List Slot} {x : Int32} (hd : Ins M pc (.istore_n 3) 1 pc') (ho : One o) (h : Go Z a0 n0 M R Q pc' (s0 :: s1 :: s2 :: .val (.int x) :: B) st H ce sl) : Go Z a0 n0 M R Q pc (s0 :: s1 :: s2 :: o :: B) (.int x :: st) H ce sl := go_istoreNG (A := [s0, s1, s2]) rfl ho hd h
theorem go_astore3 {s0 s1 s2 o : Slot} {B : List Slot} {x : Addr} (hd : Ins M pc (.astore_n 3) 1 pc') (ho : One o) (h : Go Z a0 n0 M R Q pc' (s0 :: s1 :: s2 :: .val (.ref x) :: B) st H ce sl) : Go Z a0 n0 M R Q pc (s0 :: s1 :: s2 :: o :: B) (.ref x :: st) H ce sl := go_astoreNG (A := [s0, s1, s2]) rfl ho hd h
theorem go_lstore3 {s0 s1 s2 o o' : Slot} {B : List Slot} {x : Int64} (hd : Ins M pc (.lstore_n 3) 1 pc') (ho : (One o ∧ One o') ∨ ∃ y : Int64, o = .val (.long y) ∧ o' = .second) (h : Go Z a0 n0 M R Q pc' (s0 :: s1 :: s2 :: .val (.long x) :: .second :: B) st H ce sl) : Go Z a0 n0 M R Q pc (s0 :: s1 :: s2 :: o :: o' :: B) (.long x :: st) H ce sl := go_lstoreNG (A := [s0, s1, s2]) rfl ho hd h
theorem go_iinc3 {s0 s1 s2 : Slot} {B : List Slot} {cst : Int} {x v : Int32} (hd : Ins M pc (.iinc 3 cst) 3 pc') (hv : x + Int32.ofInt cst = v) (h : Go Z a0 n0 M R Q pc' (s0 :: s1 :: s2 :: .val (.int v) :: B) st H ce sl) : Go Z a0 n0 M R Q pc (s0 :: s1 :: s2 :: .val (.int x) :: B) st H ce sl := go_iincG (A := [s0, s1, s2]) rfl hd hv h
theorem go_istore4 {s0 s1 s2 s3 o : Slot} {B : List Slot} {x : Int32} (hd : Ins M pc (.istore 4) 2 pc') (ho : One o) (h : Go Z a0 n0 M R Q pc' (s0 :: s1 :: s2 :: s3 :: .val (.int x) :: B) st H ce sl) : Go Z a0 n0 M R Q pc (s0 :: s1 :: s2 :: s3 :: o :: B) (.int x :: st) H ce sl := go_istoreG (A := [s0, s1, s2, s3]) rfl ho hd h
theorem go_astore4 {s0 s1 s2 s3 o : Slot} {B : List Slot} {x : Addr} (hd : Ins M pc (.astore 4) 2 pc') (ho : One o) (h : Go Z a0 n0 M R Q pc' (s0 :: s1 :: s2 :: s3 :: .val (.ref x) :: B) st H ce sl) : Go Z a0 n0 M R Q pc (s0 :: s1 :: s2 :: s3 :: o :: B) (.ref x :: st) H ce sl := go_astoreG (A := [s0, s1, s2, s3]) rfl ho hd h
theorem go_lstore4 {s0 s1 s2 s3 o o' : Slot} {B : List Slot} {x : Int64} (hd : Ins M pc (.lstore 4) 2 pc') (ho : (One o ∧ One o') ∨ ∃ y : Int64, o = .val (.long y) ∧ o' = .second) (h : Go Z a0 n0 M R Q pc' (s0 :: s1 :: s2 :: s3 :: .val (.long x) :: .second :: B) st H ce sl) : Go Z a0 n0 M R Q pc (s0 :: s1 :: s2 :: s3 :: o :: o' :: B) (.long x :: st) H ce sl := go_lstoreG (A := [s0, s1, s2, s3]) rfl ho hd h
theorem go_iinc4 {s0 s1 s2 s3 : Slot} {B : List Slot} {cst : Int} {x v : Int32} (hd : Ins M pc (.iinc 4 cst) 3 pc') (hv : x + Int32.ofInt cst = v) (h : Go Z a0 n0 M R Q pc' (s0 :: s1 :: s2 :: s3 :: .val (.int v) :: B) st H ce sl) : Go Z a0 n0 M R Q pc (s0 :: s1 :: s2 :: s3 :: .val (.int x) :: B) st H ce sl := go_iincG (A := [s0, s1, s2, s3]) rfl hd hv h
theorem go_istore5 {s0 s1 s2 s3 s4 o : Slot} {B : List Slot} {x : Int32} (hd : Ins M pc (.istore 5) 2 pc') (ho : One o) (h : Go Z a0 n0 M R Q pc' (s0 :: s1 :: s2 :: s3 :: s4 :: .val (.int x) :: B) st H ce sl) : Go Z a0 n0 M R Q pc (s0 :: s1 :: s2 :: s3 :: s4 :: o :: B) (.int x :: st) H ce sl := go_istoreG (A := [s0, s1, s2, s3, s4]) rfl ho hd h
theorem go_astore5 {s0 s1 s2 s3 s4 o : Slot} {B : List Slot} {x : Addr} (hd : Ins M pc (.astore 5) 2 pc') (ho : One o) (h : Go Z a0 n0 M R Q pc' (s0 :: s1 :: s2 :: s3 :: s4 :: .val (.ref x) :: B) st H ce sl) : Go Z a0 n0 M R Q pc (s0 :: s1 :: s2 :: s3 :: s4 :: o :: B) (.ref x :: st) H ce sl := go_astoreG (A := [s0, s1, s2, s3, s4]) rfl ho hd h
theorem go_lstore5 {s0 s1 s2 s3 s4 o o' : Slot} {B : List Slot} {x : Int64} (hd : Ins M pc (.lstore 5) 2 pc') (ho : (One o ∧ One o') ∨ ∃ y : Int64, o = .val (.long y) ∧ o' = .second) (h : Go Z a0 n0 M R Q pc' (s0 :: s1 :: s2 :: s3 :: s4 :: .val (.long x) :: .second :: B) st H ce sl) : Go Z a0 n0 M R Q pc (s0 :: s1 :: s2 :: s3 :: s4 :: o :: o' :: B) (.long x :: st) H ce sl := go_lstoreG (A := [s0, s1, s2, s3, s4]) rfl ho hd h
theorem go_iinc5 {s0 s1 s2 s3 s4 : Slot} {B : List Slot} {cst : Int} {x v : Int32} (hd : Ins M pc (.iinc 5 cst) 3 pc') (hv : x + Int32.ofInt cst = v) (h : Go Z a0 n0 M R Q pc' (s0 :: s1 :: s2 :: s3 :: s4 :: .val (.int v) :: B) st H ce sl) : Go Z a0 n0 M R Q pc (s0 :: s1 :: s2 :: s3 :: s4 :: .val (.int x) :: B) st H ce sl := go_iincG (A := [s0, s1, s2, s3, s4]) rfl hd hv h
theorem go_istore6 {s0 s1 s2 s3 s4 s5 o : Slot} {B : List Slot} {x : Int32} (hd : Ins M pc (.istore 6) 2 pc') (ho : One o) (h : Go Z a0 n0 M R Q pc' (s0 :: s1 :: s2 :: s3 :: s4 :: s5 :: .val (.int x) :: B) st H ce sl) : Go Z a0 n0 M R Q pc (s0 :: s1 :: s2 :: s3 :: s4 :: s5 :: o :: B) (.int x :: st) H ce sl := go_istoreG (A := [s0, s1, s2, s3, s4, s5]) rfl ho hd h
theorem go_astore6 {s0 s1 s2 s3 s4 s5 o : Slot} {B : List Slot} {x : Addr} (hd : Ins M pc (.astore 6) 2 pc') (ho : One o) (h : Go Z a0 n0 M R Q pc' (s0 :: s1 :: s2 :: s3 :: s4 :: s5 :: .val (.ref x) :: B) st H ce sl) : Go Z a0 n0 M R Q pc (s0 :: s1 :: s2 :: s3 :: s4 :: s5 :: o :: B) (.ref x :: st) H ce sl := go_astoreG (A := [s0, s1, s2, s3, s4, s5]) rfl ho hd h
theorem go_lstore6 {s0 s1 s2 s3 s4 s5 o o' : Slot} {B : List Slot} {x : Int64} (hd : Ins M pc (.lstore 6) 2 pc') (ho : (One o ∧ One o') ∨ ∃ y : Int64, o = .val (.long y) ∧ o' = .second) (h : Go Z a0 n0 M R Q pc' (s0 :: s1 :: s2 :: s3 :: s4 :: s5 :: .val (.long x) :: .second :: B) st H ce sl) : Go Z a0 n0 M R Q pc (s0 :: s1 :: s2 :: s3 :: s4 :: s5 :: o :: o' :: B) (.long x :: st) H ce sl := go_lstoreG (A := [s0, s1, s2, s3, s4, s5]) rfl ho hd h
theorem go_iinc6 {s0 s1 s2 s3 s4 s5 : Slot} {B : List Slot} {cst : Int} {x v : Int32} (hd : Ins M pc (.iinc 6 cst) 3 pc') (hv : x + Int32.ofInt cst = v) (h : Go Z a0 n0 M R Q pc' (s0 :: s1 :: s2 :: s3 :: s4 :: s5 :: .val (.int v) :: B) st H ce sl) : Go Z a0 n0 M R Q pc (s0 :: s1 :: s2 :: s3 :: s4 :: s5 :: .val (.int x) :: B) st H ce sl := go_iincG (A := [s0, s1, s2, s3, s4, s5]) rfl hd hv h
theorem go_istore7 {s0 s1 s2 s3 s4 s5 s6 o : Slot} {B : List Slot} {x : Int32} (hd : Ins M pc (.istore 7) 2 pc') (ho : One o) (h : Go Z a0 n0 M R Q pc' (s0 :: s1 :: s2 :: s3 :: s4 :: s5 :: s6 :: .val (.int x) :: B) st H ce sl) : Go Z a0 n0 M R Q pc (s0 :: s1 :: s2 :: s3 :: s4 :: s5 :: s6 :: o :: B) (.int x :: st) H ce sl := go_istoreG (A := [s0, s1, s2, s3, s4, s5, s6]) rfl ho hd h
theorem go_astore7 {s0 s1 s2 s3 s4 s5 s6 o : Slot} {B : List Slot} {x : Addr} (hd : Ins M pc (.astore 7) 2 pc') (ho : One o) (h : Go Z a0 n0 M R Q pc' (s0 :: s1 :: s2 :: s3 :: s4 :: s5 :: s6 :: .val (.ref x) :: B) st H ce sl) : Go Z a0 n0 M R Q pc (s0 :: s1 :: s2 :: s3 :: s4 :: s5 :: s6 :: o :: B) (.ref x :: st) H ce sl := go_astoreG (A := [s0, s1, s2, s3, s4, s5, s6]) rfl ho hd h
theorem go_lstore7 {s0 s1 s2 s3 s4 s5 s6 o o' : Slot} {B : List Slot} {x : Int64} (hd : Ins M pc (.lstore 7) 2 pc') (ho : (One o ∧ One o') ∨ ∃ y : Int64, o = .val (.long y) ∧ o' = .second) (h : Go Z a0 n0 M R Q pc' (s0 :: s1 :: s2 :: s3 :: s4 :: s5 :: s6 :: .val (.long x) :: .second :: B) st H ce sl) : Go Z a0 n0 M R Q pc (s0 :: s1 :: s2 :: s3 :: s4 :: s5 :: s6 :: o :: o' :: B) (.long x :: st) H ce sl := go_lstoreG (A := [s0, s1, s2, s3, s4, s5, s6]) rfl ho hd h
theorem go_iinc7 {s0 s1 s2 s3 s4 s5 s6 : Slot} {B : List Slot} {cst : Int} {x v : Int32} (hd : Ins M pc (.iinc 7 cst) 3 pc') (hv : x + Int32.ofInt cst = v) (h : Go Z a0 n0 M R Q pc' (s0 :: s1 :: s2 :: s3 :: s4 :: s5 :: s6 :: .val (.int v) :: B) st H ce sl) : Go Z a0 n0 M R Q pc (s0 :: s1 :: s2 :: s3 :: s4 :: s5 :: s6 :: .val (.int x) :: B) st H ce sl := go_iincG (A := [s0, s1, s2, s3, s4, s5, s6]) rfl hd hv h
theorem go_istore8 {s0 s1 s2 s3 s4 s5 s6 s7 o : Slot} {B : List Slot} {x : Int32} (hd : Ins M pc (.istore 8) 2 pc') (ho : One o) (h : Go Z a0 n0 M R Q pc' (s0 :: s1 :: s2 :: s3 :: s4 :: s5 :: s6 :: s7 :: .val (.int x) :: B) st H ce sl) : Go Z a0 n0 M R Q pc (s0 :: s1 :: s2 :: s3 :: s4 :: s5 :: s6 :: s7 :: o :: B) (.int x :: st) H ce sl := go_istoreG (A := [s0, s1, s2, s3, s4, s5, s6, s7]) rfl ho hd h
theorem go_astore8 {s0 s1 s2 s3 s4 s5 s6 s7 o : Slot} {B : List Slot} {x : Addr} (hd : Ins M pc (.astore 8) 2 pc') (ho : One o) (h : Go Z a0 n0 M R Q pc' (s0 :: s1 :: s2 :: s3 :: s4 :: s5 :: s6 :: s7 :: .val (.ref x) :: B) st H ce sl) : Go Z a0 n0 M R Q pc (s0 :: s1 :: s2 :: s3 :: s4 :: s5 :: s6 :: s7 :: o :: B) (.ref x :: st) H ce sl := go_astoreG (A := [s0, s1, s2, s3, s4, s5, s6, s7]) rfl ho hd h
theorem go_lstore8 {s0 s1 s2 s3 s4 s5 s6 s7 o o' : Slot} {B : List Slot} {x : Int64} (hd : Ins M pc (.lstore 8) 2 pc') (ho : (One o ∧ One o') ∨ ∃ y : Int64, o = .val (.long y) ∧ o' = .second) (h : Go Z a0 n0 M R Q pc' (s0 :: s1 :: s2 :: s3 :: s4 :: s5 :: s6 :: s7 :: .val (.long x) :: .second :: B) st H ce sl) : Go Z a0 n0 M R Q pc (s0 :: s1 :: s2 :: s3 :: s4 :: s5 :: s6 :: s7 :: o :: o' :: B) (.long x :: st) H ce sl := go_lstoreG (A := [s0, s1, s2, s3, s4, s5, s6, s7]) rfl ho hd h
theorem go_iinc8 {s0 s1 s2 s3 s4 s5 s6 s7 : Slot} {B : List Slot} {cst : Int} {x v : Int32} (hd : Ins M pc (.iinc 8 cst) 3 pc') (hv : x + Int32.ofInt cst = v) (h : Go Z a0 n0 M R Q pc' (s0 :: s1 :: s2 :: s3 :: s4 :: s5 :: s6 :: s7 :: .val (.int v) :: B) st H ce sl) : Go Z a0 n0 M R Q pc (s0 :: s1 :: s2 :: s3 :: s4 :: s5 :: s6 :: s7 :: .val (.int x) :: B) st H ce sl := go_iincG (A := [s0, s1, s2, s3, s4, s5, s6, s7]) rfl hd hv h
theorem go_istore9 {s0 s1 s2 s3 s4 s5 s6 s7 s8 o : Slot} {B : List Slot} {x : Int32} (hd : Ins M pc (.istore 9) 2 pc') (ho : One o) (h : Go Z a0 n0 M R Q pc' (s0 :: s1 :: s2 :: s3 :: s4 :: s5 :: s6 :: s7 :: s8 :: .val (.int x) :: B) st H ce sl) : Go Z a0 n0 M R Q pc (s0 :: s1 :: s2 :: s3 :: s4 :: s5 :: s6 :: s7 :: s8 :: o :: B) (.int x :: st) H ce sl := go_istoreG (A := [s0, s1, s2, s3, s4, s5, s6, s7, s8]) rfl ho hd h
theorem go_astore9 {s0 s1 s2 s3 s4 s5 s6 s7 s8 o : Slot} {B : List Slot} {x : Addr} (hd : Ins M pc (.astore 9) 2 pc') (ho : One o) (h : Go Z a0 n0 M R Q pc' (s0 :: s1 :: s2 :: s3 :: s4 :: s5 :: s6 :: s7 :: s8 :: .val (.ref x) :: B) st H ce sl) : Go Z a0 n0 M R Q pc (s0 :: s1 :: s2 :: s3 :: s4 :: s5 :: s6 :: s7 :: s8 :: o :: B) (.ref x :: st) H ce sl := go_astoreG (A := [s0, s1, s2, s3, s4, s5, s6, s7, s8]) rfl ho hd h
theorem go_lstore9 {s0 s1 s2 s3 s4 s5 s6 s7 s8 o o' : Slot} {B : List Slot} {x : Int64} (hd : Ins M pc (.lstore 9) 2 pc') (ho : (One o ∧ One o') ∨ ∃ y : Int64, o = .val (.long y) ∧ o' = .second) (h : Go Z a0 n0 M R Q pc' (s0 :: s1 :: s2 :: s3 :: s4 :: s5 :: s6 :: s7 :: s8 :: .val (.long x) :: .second :: B) st H ce sl) : Go Z a0 n0 M R Q pc (s0 :: s1 :: s2 :: s3 :: s4 :: s5 :: s6 :: s7 :: s8 :: o :: o' :: B) (.long x :: st) H ce sl := go_lstoreG (A := [s0, s1, s2, s3, s4, s5, s6, s7, s8]) rfl ho hd h
theorem go_iinc9 {s0 s1 s2 s3 s4 s5 s6 s7 s8 : Slot} {B : List Slot} {cst : Int} {x v : Int32} (hd : Ins M pc (.iinc 9 cst) 3 pc') (hv : x + Int32.ofInt cst = v) (h : Go Z a0 n0 M R Q pc' (s0 :: s1 :: s2 :: s3 :: s4 :: s5 :: s6 :: s7 :: s8 :: .val (.int v) :: B) st H ce sl) : Go Z a0 n0 M R Q pc (s0 :: s1 :: s2 :: s3 :: s4 :: s5 :: s6 :: s7 :: s8 :: .val (.int x) :: B) st H ce sl := go_iincG (A := [s0, s1, s2, s3, s4, s5, s6, s7, s8]) rfl hd hv h
theorem go_istore10 {s0 s1 s2 s3 s4 s5 s6 s7 s8 s9 o : Slot} {B : List Slot} {x : Int32} (hd : Ins M pc (.istore 10) 2 pc') (ho : One o) (h : Go Z a0 n0 M R Q pc' (s0 :: s1 :: s2 :: s3 :: s4 :: s5 :: s6 :: s7 :: s8 :: s9 :: .val (.int x) :: B) st H ce sl) : Go Z a0 n0 M R Q pc (s0 :: s1 :: s2 :: s3 :: s4 :: s5 :: s6 :: s7 :: s8 :: s9 :: o :: B) (.int x :: st) H ce sl := go_istoreG (A := [s0, s1, s2, s3, s4, s5, s6, s7, s8, s9]) rfl ho hd h
theorem go_astore10 {s0 s1 s2 s3 s4 s5 s6 s7 s8 s9 o : Slot} {B : List Slot} {x : Addr} (hd : Ins M pc (.astore 10) 2 pc') (ho : One o) (h : Go Z a0 n0 M R Q pc' (s0 :: s1 :: s2 :: s3 :: s4 :: s5 :: s6 :: s7 :: s8 :: s9 :: .val (.ref x) :: B) st H ce sl) : Go Z a0 n0 M R Q pc (s0 :: s1 :: s2 :: s3 :: s4 :: s5 :: s6 :: s7 :: s8 :: s9 :: o :: B) (.ref x :: st) H ce sl := go_astoreG (A := [s0, s1, s2, s3, s4, s5, s6, s7, s8, s9]) rfl ho hd h
theorem go_lstore10 {s0 s1 s2 s3 s4 s5 s6 s7 s8 s9 o o' : Slot} {B : List Slot} {x : Int64} (hd : Ins M pc (.lstore 10) 2 pc') (ho : (One o ∧ One o') ∨ ∃ y : Int64, o = .val (.long y) ∧ o' = .second) (h : Go Z a0 n0 M R Q pc' (s0 :: s1 :: s2 :: s3 :: s4 :: s5 :: s6 :: s7 :: s8 :: s9 :: .val (.long x) :: .second :: B) st H ce sl) : Go Z a0 n0 M R Q pc (s0 :: s1 :: s2 :: s3 :: s4 :: s5 :: s6 :: s7 :: s8 :: s9 :: o :: o' :: B) (.long x :: st) H ce sl := go_lstoreG (A := [s0, s1, s2, s3, s4, s5, s6, s7, s8, s9]) rfl ho hd h
theorem go_iinc10 {s0 s1 s2 s3 s4 s5 s6 s7 s8 s9 : Slot} {B : List Slot} {cst : Int} {x v : Int32} (hd : Ins M pc (.iinc 10 cst) 3 pc') (hv : x + Int32.ofInt cst = v) (h : Go Z a0 n0 M R Q pc' (s0 :: s1 :: s2 :: s3 :: s4 :: s5 :: s6 :: s7 :: s8 :: s9 :: .val (.int v) :: B) st H ce sl) : Go Z a0 n0 M R Q pc (s0 :: s1 :: s2 :: s3 :: s4 :: s5 :: s6 :: s7 :: s8 :: s9 :: .val (.int x) :: B) st H ce sl := go_iincG (A := [s0, s1, s2, s3, s4, s5, s6, s7, s8, s9]) rfl hd hv h
theorem go_istore11 {s0 s1 s2 s3 s4 s5 s6 s7 s8 s9 s10 o : Slot} {B : List Slot} {x : Int32} (hd : Ins M pc (.istore 11) 2 pc') (ho : One o) (h : Go Z a0 n0 M R Q pc' (s0 :: s1 :: s2 :: s3 :: s4 :: s5 :: s6 :: s7 :: s8 :: s9 :: s10 :: .val (.int x) :: B) st H ce sl) : Go Z a0 n0 M R Q pc (s0 :: s1 :: s2 :: s3 :: s4 :: s5 :: s6 :: s7 :: s8 :: s9 :: s10 :: o :: B) (.int x :: st) H ce sl := go_istoreG (A := [s0, s1, s2, s3, s4, s5, s6, s7, s8, s9, s10]) rfl ho hd h
theorem go_astore11 {s0 s1 s2 s3 s4 s5 s6 s7 s8 s9 s10 o : Slot} {B : List Slot} {x : Addr} (hd : Ins M pc (.astore 11) 2 pc') (ho : One o) (h : Go Z a0 n0 M R Q pc' (s0 :: s1 :: s2 :: s3 :: s4 :: s5 :: s6 :: s7 :: s8 :: s9 :: s10 :: .val (.ref x) :: B) st H ce sl) : Go Z a0 n0 M R Q pc (s0 :: s1 :: s2 :: s3 :: s4 :: s5 :: s6 :: s7 :: s8 :: s9 :: s10 :: o :: B) (.ref x :: st) H ce sl := go_astoreG (A := [s0, s1, s2, s3, s4, s5, s6, s7, s8, s9, s10]) rfl ho hd h
theorem go_lstore11 {s0 s1 s2 s3 s4 s5 s6 s7 s8 s9 s10 o o' : Slot} {B : List Slot} {x : Int64} (hd : Ins M pc (.lstore 11) 2 pc') (ho : (One o ∧ One o') ∨ ∃ y : Int64, o = .val (.long y) ∧ o' = .second) (h : Go Z a0 n0 M R Q pc' (s0 :: s1 :: s2 :: s3 :: s4 :: s5 :: s6 :: s7 :: s8 :: s9 :: s10 :: .val (.long x) :: .second :: B) st H ce sl) : Go Z a0 n0 M R Q pc (s0 :: s1 :: s2 :: s3 :: s4 :: s5 :: s6 :: s7 :: s8 :: s9 :: s10 :: o :: o' :: B) (.long x :: st) H ce sl := go_lstoreG (A := [s0, s1, s2, s3, s4, s5, s6, s7, s8, s9, s10]) rfl ho hd h
theorem go_iinc11 {s0 s1 s2 s3 s4 s5 s6 s7 s8 s9 s10 : Slot} {B : List Slot} {cst : Int} {x v : Int32} (hd : Ins M pc (.iinc 11 cst) 3 pc') (hv : x + Int32.ofInt cst = v) (h : Go Z a0 n0 M R Q pc' (s0 :: s1 :: s2 :: s3 :: s4 :: s5 :: s6 :: s7 :: s8 :: s9 :: s10 :: .val (.int v) :: B) st H ce sl) : Go Z a0 n0 M R Q pc (s0 :: s1 :: s2 :: s3 :: s4 :: s5 :: s6 :: s7 :: s8 :: s9 :: s10 :: .val (.int x) :: B) st H ce sl := go_iincG (A := [s0, s1, s2, s3, s4, s5, s6, s7, s8, s9, s10]) rfl hd hv h
theorem go_istore12 {s0 s1 s2 s3 s4 s5 s6 s7 s8 s9 s10 s11 o : Slot} {B : List Slot} {x : Int32} (hd : Ins M pc (.istore 12) 2 pc') (ho : One o) (h : Go Z a0 n0 M R Q pc' (s0 :: s1 :: s2 :: s3 :: s4 :: s5 :: s6 :: s7 :: s8 :: s9 :: s10 :: s11 :: .val (.int x) :: B) st H ce sl) : Go Z a0 n0 M R Q pc (s0 :: s1 :: s2 :: s3 :: s4 :: s5 :: s6 :: s7 :: s8 :: s9 :: s10 :: s11 :: o :: B) (.int x :: st) H ce sl := go_istoreG (A := [s0, s1, s2, s3, s4, s5, s6, s7, s8, s9, s10, s11]) rfl ho hd h
theorem go_astore12 {s0 s1 s2 s3 s4 s5 s6 s7 s8 s9 s10 s11 o : Slot} {B : List Slot} {x : Addr} (hd : Ins M pc (.astore 12) 2 pc') (ho : One o) (h : Go Z a0 n0 M R Q pc' (s0 :: s1 :: s2 :: s3 :: s4 :: s5 :: s6 :: s7 :: s8 :: s9 :: s10 :: s11 :: .val (.ref x) :: B) st H ce sl) : Go Z a0 n0 M R Q pc (s0 :: s1 :: s2 :: s3 :: s4 :: s5 :: s6 :: s7 :: s8 :: s9 :: s10 :: s11 :: o :: B) (.ref x :: st) H ce sl := go_astoreG (A := [s0, s1, s2, s3, s4, s5, s6, s7, s8, s9, s10, s11]) rfl ho hd h
theorem go_lstore12 {s0 s1 s2 s3 s4 s5 s6 s7 s8 s9 s10 s11 o o' : Slot} {B : List Slot} {x : Int64} (hd : Ins M pc (.lstore 12) 2 pc') (ho : (One o ∧ One o') ∨ ∃ y : Int64, o = .val (.long y) ∧ o' = .second) (h : Go Z a0 n0 M R Q pc' (s0 :: s1 :: s2 :: s3 :: s4 :: s5 :: s6 :: s7 :: s8 :: s9 :: s10 :: s11 :: .val (.long x) :: .second :: B) st H ce sl) : Go Z a0 n0 M R Q pc (s0 :: s1 :: s2 :: s3 :: s4 :: s5 :: s6 :: s7 :: s8 :: s9 :: s10 :: s11 :: o :: o' :: B) (.long x :: st) H ce sl := go_lstoreG (A := [s0, s1, s2, s3, s4, s5, s6, s7, s8, s9, s10, s11]) rfl ho hd h
theorem go_iinc12 {s0 s1 s2 s3 s4 s5 s6 s7 s8 s9 s10 s11 : Slot} {B : List Slot} {cst : Int} {x v : Int32} (hd : Ins M pc (.iinc 12 cst) 3 pc') (hv : x + Int32.ofInt cst = v) (h : Go Z a0 n0 M R Q pc' (s0 :: s1 :: s2 :: s3 :: s4 :: s5 :: s6 :: s7 :: s8 :: s9 :: s10 :: s11 :: .val (.int v) :: B) st H ce sl) : Go Z a0 n0 M R Q pc (s0 :: s1 :: s2 :: s3 :: s4 :: s5 :: s6 :: s7 :: s8 :: s9 :: s10 :: s11 :: .val (.int x) :: B) st H ce sl := go_iincG (A := [s0, s1, s2, s3, s4, s5, s6, s7, s8, s9, s10, s11]) rfl hd hv h
theorem go_istore13 {s0 s1 s2 s3 s4 s5 s6 s7 s8 s9 s10 s11 s12 o : Slot} {B : List Slot} {x : Int32} (hd : Ins M pc (.istore 13) 2 pc') (ho : One o) (h : Go Z a0 n0 M R Q pc' (s0 :: s1 :: s2 :: s3 :: s4 :: s5 :: s6 :: s7 :: s8 :: s9 :: s10 :: s11 :: s12 :: .val (.int x) :: B) st H ce sl) : Go Z a0 n0 M R Q pc (s0 :: s1 :: s2 :: s3 :: s4 :: s5 :: s6 :: s7 :: s8 :: s9 :: s10 :: s11 :: s12 :: o :: B) (.int x :: st) H ce sl := go_istoreG (A := [s0, s1, s2, s3, s4, s5, s6, s7, s8, s9, s10, s11, s12]) rfl ho hd h
theorem go_astore13 {s0 s1 s2 s3 s4 s5 s6 s7 s8 s9 s10 s11 s12 o : Slot} {B : List Slot} {x : Addr} (hd : Ins M pc (.astore 13) 2 pc') (ho : One o) (h : Go Z a0 n0 M R Q pc' (s0 :: s1 :: s2 :: s3 :: s4 :: s5 :: s6 :: s7 :: s8 :: s9 :: s10 :: s11 :: s12 :: .val (.ref x) :: B) st H ce sl) : Go Z a0 n0 M R Q pc (s0 :: s1 :: s2 :: s3 :: s4 :: s5 :: s6 :: s7 :: s8 :: s9 :: s10 :: s11 :: s12 :: o :: B) (.ref x :: st) H ce sl := go_astoreG (A := [s0, s1, s2, s3, s4, s5, s6, s7, s8, s9, s10, s11, s12]) rfl ho hd h
theorem go_lstore13 {s0 s1 s2 s3 s4 s5 s6 s7 s8 s9 s10 s11 s12 o o' : Slot} {B : List Slot} {x : Int64} (hd : Ins M pc (.lstore 13) 2 pc') (ho : (One o ∧ One o') ∨ ∃ y : Int64, o = .val (.long y) ∧ o' = .second) (h : Go Z a0 n0 M R Q pc' (s0 :: s1 :: s2 :: s3 :: s4 :: s5 :: s6 :: s7 :: s8 :: s9 :: s10 :: s11 :: s12 :: .val (.long x) :: .second :: B) st H ce sl) : Go Z a0 n0 M R Q pc (s0 :: s1 :: s2 :: s3 :: s4 :: s5 :: s6 :: s7 :: s8 :: s9 :: s10 :: s11 :: s12 :: o :: o' :: B) (.long x :: st) H ce sl := go_lstoreG (A := [s0, s1, s2, s3, s4, s5, s6, s7, s8, s9, s10, s11, s12]) rfl ho hd h
theorem go_iinc13 {s0 s1 s2 s3 s4 s5 s6 s7 s8 s9 s10 s11 s12 : Slot} {B : List Slot} {cst : Int} {x v : Int32} (hd : Ins M pc (.iinc 13 cst) 3 pc') (hv : x + Int32.ofInt cst = v) (h : Go Z a0 n0 M R Q pc' (s0 :: s1 :: s2 :: s3 :: s4 :: s5 :: s6 :: s7 :: s8 :: s9 :: s10 :: s11 :: s12 :: .val (.int v) :: B) st H ce sl) : Go Z a0 n0 M R Q pc (s0 :: s1 :: s2 :: s3 :: s4 :: s5 :: s6 :: s7 :: s8 :: s9 :: s10 :: s11 :: s12 :: .val (.int x) :: B) st H ce sl := go_iincG (A := [s0, s1, s2, s3, s4, s5, s6, s7, s8, s9, s10, s11, s12]) rfl hd hv h
theorem go_istore14 {s0 s1 s2 s3 s4 s5 s6 s7 s8 s9 s10 s11 s12 s13 o : Slot} {B : List Slot} {x : Int32} (hd : Ins M pc (.istore 14) 2 pc') (ho : One o) (h : Go Z a0 n0 M R Q pc' (s0 :: s1 :: s2 :: s3 :: s4 :: s5 :: s6 :: s7 :: s8 :: s9 :: s10 :: s11 :: s12 :: s13 :: .val (.int x) :: B) st H ce sl) : Go Z a0 n0 M R Q pc (s0 :: s1 :: s2 :: s3 :: s4 :: s5 :: s6 :: s7 :: s8 :: s9 :: s10 :: s11 :: s12 :: s13 :: o :: B) (.int x :: st) H ce sl := go_istoreG (A := [s0, s1, s2, s3, s4, s5, s6, s7, s8, s9, s10, s11, s12, s13]) rfl ho hd h
theorem go_astore14 {s0 s1 s2 s3 s4 s5 s6 s7 s8 s9 s10 s11 s12 s13 o : Slot} {B : List Slot} {x : Addr} (hd : Ins M pc (.astore 14) 2 pc') (ho : One o) (h : Go Z a0 n0 M R Q pc' (s0 :: s1 :: s2 :: s3 :: s4 :: s5 :: s6 :: s7 :: s8 :: s9 :: s10 :: s11 :: s12 :: s13 :: .val (.ref x) :: B) st H ce sl) : Go Z a0 n0 M R Q pc (s0 :: s1 :: s2 :: s3 :: s4 :: s5 :: s6 :: s7 :: s8 :: s9 :: s10 :: s11 :: s12 :: s13 :: o :: B) (.ref x :: st) H ce sl := go_astoreG (A := [s0, s1, s2, s3, s4, s5, s6, s7, s8, s9, s10, s11, s12, s13]) rfl ho hd h
theorem go_lstore14 {s0 s1 s2 s3 s4 s5 s6 s7 s8 s9 s10 s11 s12 s13 o o' : Slot} {B : List Slot} {x : Int64} (hd : Ins M pc (.lstore 14) 2 pc') (ho : (One o ∧ One o') ∨ ∃ y : Int64, o = .val (.long y) ∧ o' = .second) (h : Go Z a0 n0 M R Q pc' (s0 :: s1 :: s2 :: s3 :: s4 :: s5 :: s6 :: s7 :: s8 :: s9 :: s10 :: s11 :: s12 :: s13 :: .val (.long x) :: .second :: B) st H ce sl) : Go Z a0 n0 M R Q pc (s0 :: s1 :: s2 :: s3 :: s4 :: s5 :: s6 :: s7 :: s8 :: s9 :: s10 :: s11 :: s12 :: s13 :: o :: o' :: B) (.long x :: st) H ce sl := go_lstoreG (A := [s0, s1, s2, s3, s4, s5, s6, s7, s8, s9, s10, s11, s12, s13]) rfl ho hd h
theorem go_iinc14 {s0 s1 s2 s3 s4 s5 s6 s7 s8 s9 s10 s11 s12 s13 : Slot} {B : List Slot} {cst : Int} {x v : Int32} (hd : Ins M pc (.iinc 14 cst) 3 pc') (hv : x + Int32.ofInt cst = v) (h : Go Z a0 n0 M R Q pc' (s0 :: s1 :: s2 :: s3 :: s4 :: s5 :: s6 :: s7 :: s8 :: s9 :: s10 :: s11 :: s12 :: s13 :: .val (.int v) :: B) st H ce sl) : Go Z a0 n0 M R Q pc (s0 :: s1 :: s2 :: s3 :: s4 :: s5 :: s6 :: s7 :: s8 :: s9 :: s10 :: s11 :: s12 :: s13 :: .val (.int x) :: B) st H ce sl := go_iincG (A := [s0, s1, s2, s3, s4, s5, s6, s7, s8, s9, s10, s11, s12, s13]) rfl hd hv h
theorem go_istore15 {s0 s1 s2 s3 s4 s5 s6 s7 s8 s9 s10 s11 s12 s13 s14 o : Slot} {B : List Slot} {x : Int32} (hd : Ins M pc (.istore 15) 2 pc') (ho : One o) (h : Go Z a0 n0 M R Q pc' (s0 :: s1 :: s2 :: s3 :: s4 :: s5 :: s6 :: s7 :: s8 :: s9 :: s10 :: s11 :: s12 :: s13 :: s14 :: .val (.int x) :: B) st H ce sl) : Go Z a0 n0 M R Q pc (s0 :: s1 :: s2 :: s3 :: s4 :: s5 :: s6 :: s7 :: s8 :: s9 :: s10 :: s11 :: s12 :: s13 :: s14 :: o :: B) (.int x :: st) H ce sl := go_istoreG (A := [s0, s1, s2, s3, s4, s5, s6, s7, s8, s9, s10, s11, s12, s13, s14]) rfl ho hd h
theorem go_astore15 {s0 s1 s2 s3 s4 s5 s6 s7 s8 s9 s10 s11 s12 s13 s14 o : Slot} {B : List Slot} {x : Addr} (hd : Ins M pc (.astore 15) 2 pc') (ho : One o) (h : Go Z a0 n0 M R Q pc' (s0 :: s1 :: s2 :: s3 :: s4 :: s5 :: s6 :: s7 :: s8 :: s9 :: s10 :: s11 :: s12 :: s13 :: s14 :: .val (.ref x) :: B) st H ce sl) : Go Z a0 n0 M R Q pc (s0 :: s1 :: s2 :: s3 :: s4 :: s5 :: s6 :: s7 :: s8 :: s9 :: s10 :: s11 :: s12 :: s13 :: s14 :: o :: B) (.ref x :: st) H ce sl := go_astoreG (A := [s0, s1, s2, s3, s4, s5, s6, s7, s8, s9, s10, s11, s12, s13, s14]) rfl ho hd h
theorem go_lstore15 {s0 s1 s2 s3 s4 s5 s6 s7 s8 s9 s10 s11 s12 s13 s14 o o' : Slot} {B : List Slot} {x : Int64} (hd : Ins M pc (.lstore 15) 2 pc') (ho : (One o ∧ One o') ∨ ∃ y : Int64, o = .val (.long y) ∧ o' = .second) (h : Go Z a0 n0 M R Q pc' (s0 :: s1 :: s2 :: s3 :: s4 :: s5 :: s6 :: s7 :: s8 :: s9 :: s10 :: s11 :: s12 :: s13 :: s14 :: .val (.long x) :: .second :: B) st H ce sl) : Go Z a0 n0 M R Q pc (s0 :: s1 :: s2 :: s3 :: s4 :: s5 :: s6 :: s7 :: s8 :: s9 :: s10 :: s11 :: s12 :: s13 :: s14 :: o :: o' :: B) (.long x :: st) H ce sl := go_lstoreG (A := [s0, s1, s2, s3, s4, s5, s6, s7, s8, s9, s10, s11, s12, s13, s14]) rfl ho hd h
theorem go_iinc15 {s0 s1 s2 s3 s4 s5 s6 s7 s8 s9 s10 s11 s12 s13 s14 : Slot} {B : List Slot} {cst : Int} {x v : Int32} (hd : Ins M pc (.iinc 15 cst) 3 pc') (hv : x + Int32.ofInt cst = v) (h : Go Z a0 n0 M R Q pc' (s0 :: s1 :: s2 :: s3 :: s4 :: s5 :: s6 :: s7 :: s8 :: s9 :: s10 :: s11 :: s12 :: s13 :: s14 :: .val (.int v) :: B) st H ce sl) : Go Z a0 n0 M R Q pc (s0 :: s1 :: s2 :: s3 :: s4 :: s5 :: s6 :: s7 :: s8 :: s9 :: s10 :: s11 :: s12 :: s13 :: s14 :: .val (.int x) :: B) st H ce sl := go_iincG (A := [s0, s1, s2, s3, s4, s5, s6, s7, s8, s9, s10, s11, s12, s13, s14]) rfl hd hv h
theorem go_istore16 {s0 s1 s2 s3 s4 s5 s6 s7 s8 s9 s10 s11 s12 s13 s14 s15 o : Slot} {B : List Slot} {x : Int32} (hd : Ins M pc (.istore 16) 2 pc') (ho : One o) (h : Go Z a0 n0 M R Q pc' (s0 :: s1 :: s2 :: s3 :: s4 :: s5 :: s6 :: s7 :: s8 :: s9 :: s10 :: s11 :: s12 :: s13 :: s14 :: s15 :: .val (.int x) :: B) st H ce sl) : Go Z a0 n0 M R Q pc (s0 :: s1 :: s2 :: s3 :: s4 :: s5 :: s6 :: s7 :: s8 :: s9 :: s10 :: s11 :: s12 :: s13 :: s14 :: s15 :: o :: B) (.int x :: st) H ce sl := go_istoreG (A := [s0, s1, s2, s3, s4, s5, s6, s7, s8, s9, s10, s11, s12, s13, s14, s15]) rfl ho hd h
theorem go_astore16 {s0 s1 s2 s3 s4 s5 s6 s7 s8 s9 s10 s11 s12 s13 s14 s15 o : Slot} {B : List Slot} {x : Addr} (hd : Ins M pc (.astore 16) 2 pc') (ho : One o) (h : Go Z a0 n0 M R Q pc' (s0 :: s1 :: s2 :: s3 :: s4 :: s5 :: s6 :: s7 :: s8 :: s9 :: s10 :: s11 :: s12 :: s13 :: s14 :: s15 :: .val (.ref x) :: B) st H ce sl) : Go Z a0 n0 M R Q pc (s0 :: s1 :: s2 :: s3 :: s4 :: s5 :: s6 :: s7 :: s8 :: s9 :: s10 :: s11 :: s12 :: s13 :: s14 :: s15 :: o :: B) (.ref x :: st) H ce sl := go_astoreG (A := [s0, s1, s2, s3, s4, s5, s6, s7, s8, s9, s10, s11, s12, s13, s14, s15]) rfl ho hd h
theorem go_lstore16 {s0 s1 s2 s3 s4 s5 s6 s7 s8 s9 s10 s11 s12 s13 s14 s15 o o' : Slot} {B : List Slot} {x : Int64} (hd : Ins M pc (.lstore 16) 2 pc') (ho : (One o ∧ One o') ∨ ∃ y : Int64, o = .val (.long y) ∧ o' = .second) (h : Go Z a0 n0 M R Q pc' (s0 :: s1 :: s2 :: s3 :: s4 :: s5 :: s6 :: s7 :: s8 :: s9 :: s10 :: s11 :: s12 :: s13 :: s14 :: s15 :: .val (.long x) :: .second :: B) st H ce sl) : Go Z a0 n0 M R Q pc (s0 :: s1 :: s2 :: s3 :: s4 :: s5 :: s6 :: s7 :: s8 :: s9 :: s10 :: s11 :: s12 :: s13 :: s14 :: s15 :: o :: o' :: B) (.long x :: st) H ce sl := go_lstoreG (A := [s0, s1, s2, s3, s4, s5, s6, s7, s8, s9, s10, s11, s12, s13, s14, s15]) rfl ho hd h
theorem go_iinc16 {s0 s1 s2 s3 s4 s5 s6 s7 s8 s9 s10 s11 s12 s13 s14 s15 : Slot} {B : List Slot} {cst : Int} {x v : Int32} (hd : Ins M pc (.iinc 16 cst) 3 pc') (hv : x + Int32.ofInt cst = v) (h : Go Z a0 n0 M R Q pc' (s0 :: s1 :: s2 :: s3 :: s4 :: s5 :: s6 :: s7 :: s8 :: s9 :: s10 :: s11 :: s12 :: s13 :: s14 :: s15 :: .val (.int v) :: B) st H ce sl) : Go Z a0 n0 M R Q pc (s0 :: s1 :: s2 :: s3 :: s4 :: s5 :: s6 :: s7 :: s8 :: s9 :: s10 :: s11 :: s12 :: s13 :: s14 :: s15 :: .val (.int x) :: B) st H ce sl := go_iincG (A := [s0, s1, s2, s3, s4, s5, s6, s7, s8, s9, s10, s11, s12, s13, s14, s15]) rfl hd hv h
theorem go_istore17 {s0 s1 s2 s3 s4 s5 s6 s7 s8 s9 s10 s11 s12 s13 s14 s15 s16 o : Slot} {B : List Slot} {x : Int32} (hd : Ins M pc (.istore 17) 2 pc') (ho : One o) (h : Go Z a0 n0 M R Q pc' (s0 :: s1 :: s2 :: s3 :: s4 :: s5 :: s6 :: s7 :: s8 :: s9 :: s10 :: s11 :: s12 :: s13 :: s14 :: s15 :: s16 :: .val (.int x) :: B) st H ce sl) : Go Z a0 n0 M R Q pc (s0 :: s1 :: s2 :: s3 :: s4 :: s5 :: s6 :: s7 :: s8 :: s9 :: s10 :: s11 :: s12 :: s13 :: s14 :: s15 :: s16 :: o :: B) (.int x :: st) H ce sl := go_istoreG (A := [s0, s1, s2, s3, s4, s5, s6, s7, s8, s9, s10, s11, s12, s13, s14, s15, s16]) rfl ho hd h
theorem go_astore17 {s0 s1 s2 s3 s4 s5 s6 s7 s8 s9 s10 s11 s12 s13 s14 s15 s16 o : Slot} {B : List Slot} {x : Addr} (hd : Ins M pc (.astore 17) 2 pc') (ho : One o) (h : Go Z a0 n0 M R Q pc' (s0 :: s1 :: s2 :: s3 :: s4 :: s5 :: s6 :: s7 :: s8 :: s9 :: s10 :: s11 :: s12 :: s13 :: s14 :: s15 :: s16 :: .val (.ref x) :: B) st H ce sl) : Go Z a0 n0 M R Q pc (s0 :: s1 :: s2 :: s3 :: s4 :: s5 :: s6 :: s7 :: s8 :: s9 :: s10 :: s11 :: s12 :: s13 :: s14 :: s15 :: s16 :: o :: B) (.ref x :: st) H ce sl := go_astoreG (A := [s0, s1, s2, s3, s4, s5, s6, s7, s8, s9, s10, s11, s12, s13, s14, s15, s16]) rfl ho hd h
theorem go_lstore17 {s0 s1 s2 s3 s4 s5 s6 s7 s8 s9 s10 s11 s12 s13 s14 s15 s16 o o' : Slot} {B : List Slot} {x : Int64} (hd : Ins M pc (.lstore 17) 2 pc') (ho : (One o ∧ One o') ∨ ∃ y : Int64, o = .val (.long y) ∧ o' = .second) (h : Go Z a0 n0 M R Q pc' (s0 :: s1 :: s2 :: s3 :: s4 :: s5 :: s6 :: s7 :: s8 :: s9 :: s10 :: s11 :: s12 :: s13 :: s14 :: s15 :: s16 :: .val (.long x) :: .second :: B) st H ce sl) : Go Z a0 n0 M R Q pc (s0 :: s1 :: s2 :: s3 :: s4 :: s5 :: s6 :: s7 :: s8 :: s9 :: s10 :: s11 :: s12 :: s13 :: s14 :: s15 :: s16 :: o :: o' :: B) (.long x :: st) H ce sl := go_lstoreG (A := [s0, s1, s2, s3, s4, s5, s6, s7, s8, s9, s10, s11, s12, s13, s14, s15, s16]) rfl ho hd h
theorem go_iinc17 {s0 s1 s2 s3 s4 s5 s6 s7 s8 s9 s10 s11 s12 s13 s14 s15 s16 : Slot} {B : List Slot} {cst : Int} {x v : Int32} (hd : Ins M pc (.iinc 17 cst) 3 pc') (hv : x + Int32.ofInt cst = v) (h : Go Z a0 n0 M R Q pc' (s0 :: s1 :: s2 :: s3 :: s4 :: s5 :: s6 :: s7 :: s8 :: s9 :: s10 :: s11 :: s12 :: s13 :: s14 :: s15 :: s16 :: .val (.int v) :: B) st H ce sl) : Go Z a0 n0 M R Q pc (s0 :: s1 :: s2 :: s3 :: s4 :: s5 :: s6 :: s7 :: s8 :: s9 :: s10 :: s11 :: s12 :: s13 :: s14 :: s15 :: s16 :: .val (.int x) :: B) st H ce sl := go_iincG (A := [s0, s1, s2, s3, s4, s5, s6, s7, s8, s9, s10, s11, s12, s13, s14, s15, s16]) rfl hd hv h
theorem go_istore18 {s0 s1 s2 s3 s4 s5 s6 s7 s8 s9 s10 s11 s12 s13 s14 s15 s16 s17 o : Slot} {B : List Slot} {x : Int32} (hd : Ins M pc (.istore 18) 2 pc') (ho : One o) (h : Go Z a0 n0 M R Q pc' (s0 :: s1 :: s2 :: s3 :: s4 :: s5 :: s6 :: s7 :: s8 :: s9 :: s10 :: s11 :: s12 :: s13 :: s14 :: s15 :: s16 :: s17 :: .val (.int x) :: B) st H ce sl) : Go Z a0 n0 M R Q pc (s0 :: s1 :: s2 :: s3 :: s4 :: s5 :: s6 :: s7 :: s8 :: s9 :: s10 :: s11 :: s12 :: s13 :: s14 :: s15 :: s16 :: s17 :: o :: B) (.int x :: st) H ce sl := go_istoreG (A := [s0, s1, s2, s3, s4, s5, s6, s7, s8, s9, s10, s11, s12, s13, s14, s15, s16, s17]) rfl ho hd h
theorem go_astore18 {s0 s1 s2 s3 s4 s5 s6 s7 s8 s9 s10 s11 s12 s13 s14 s15 s16 s17 o : Slot} {B : List Slot} {x : Addr} (hd : Ins M pc (.astore 18) 2 pc') (ho : One o) (h : Go Z a0 n0 M R Q pc' (s0 :: s1 :: s2 :: s3 :: s4 :: s5 :: s6 :: s7 :: s8 :: s9 :: s10 :: s11 :: s12 :: s13 :: s14 :: s15 :: s16 :: s17 :: .val (.ref x) :: B) st H ce sl) : Go Z a0 n0 M R Q pc (s0 :: s1 :: s2 :: s3 :: s4 :: s5 :: s6 :: s7 :: s8 :: s9 :: s10 :: s11 :: s12 :: s13 :: s14 :: s15 :: s16 :: s17 :: o :: B) (.ref x :: st) H ce sl := go_astoreG (A := [s0, s1, s2, s3, s4, s5, s6, s7, s8, s9, s10, s11, s12, s13, s14, s15, s16, s17]) rfl ho hd h
theorem go_lstore18 {s0 s1 s2 s3 s4 s5 s6 s7 s8 s9 s10 s11 s12 s13 s14 s15 s16 s17 o o' : Slot} {B : List Slot} {x : Int64} (hd : Ins M pc (.lstore 18) 2 pc') (ho : (One o ∧ One o') ∨ ∃ y : Int64, o = .val (.long y) ∧ o' = .second) (h : Go Z a0 n0 M R Q pc' (s0 :: s1 :: s2 :: s3 :: s4 :: s5 :: s6 :: s7 :: s8 :: s9 :: s10 :: s11 :: s12 :: s13 :: s14 :: s15 :: s16 :: s17 :: .val (.long x) :: .second :: B) st H ce sl) : Go Z a0 n0 M R Q pc (s0 :: s1 :: s2 :: s3 :: s4 :: s5 :: s6 :: s7 :: s8 :: s9 :: s10 :: s11 :: s12 :: s13 :: s14 :: s15 :: s16 :: s17 :: o :: o' :: B) (.long x :: st) H ce sl := go_lstoreG (A := [s0, s1, s2, s3, s4, s5, s6, s7, s8, s9, s10, s11, s12, s13, s14, s15, s16, s17]) rfl ho hd h
theorem go_iinc18 {s0 s1 s2 s3 s4 s5 s6 s7 s8 s9 s10 s11 s12 s13 s14 s15 s16 s17 : Slot} {B : List Slot} {cst : Int} {x v : Int32} (hd : Ins M pc (.iinc 18 cst) 3 pc') (hv : x + Int32.ofInt cst = v) (h : Go Z a0 n0 M R Q pc' (s0 :: s1 :: s2 :: s3 :: s4 :: s5 :: s6 :: s7 :: s8 :: s9 :: s10 :: s11 :: s12 :: s13 :: s14 :: s15 :: s16 :: s17 :: .val (.int v) :: B) st H ce sl) : Go Z a0 n0 M R Q pc (s0 :: s1 :: s2 :: s3 :: s4 :: s5 :: s6 :: s7 :: s8 :: s9 :: s10 :: s11 :: s12 :: s13 :: s14 :: s15 :: s16 :: s17 :: .val (.int x) :: B) st H ce sl := go_iincG (A := [s0, s1, s2, s3, s4, s5, s6, s7, s8, s9, s10, s11, s12, s13, s14, s15, s16, s17]) rfl hd hv h
theorem go_istore19 {s0 s1 s2 s3 s4 s5 s6 s7 s8 s9 s10 s11 s12 s13 s14 s15 s16 s17 s18 o : Slot} {B : List Slot} {x : Int32} (hd : Ins M pc (.istore 19) 2 pc') (ho : One o) (h : Go Z a0 n0 M R Q pc' (s0 :: s1 :: s2 :: s3 :: s4 :: s5 :: s6 :: s7 :: s8 :: s9 :: s10 :: s11 :: s12 :: s13 :: s14 :: s15 :: s16 :: s17 :: s18 :: .val (.int x) :: B) st H ce sl) : Go Z a0 n0 M R Q pc (s0 :: s1 :: s2 :: s3 :: s4 :: s5 :: s6 :: s7 :: s8 :: s9 :: s10 :: s11 :: s12 :: s13 :: s14 :: s15 :: s16 :: s17 :: s18 :: o :: B) (.int x :: st) H ce sl := go_istoreG (A := [s0, s1, s2, s3, s4, s5, s6, s7, s8, s9, s10, s11, s12, s13, s14, s15, s16, s17, s18]) rfl ho hd h
theorem go_astore19 {s0 s1 s2 s3 s4 s5 s6 s7 s8 s9 s10 s11 s12 s13 s14 s15 s16 s17 s18 o : Slot} {B : List Slot} {x : Addr} (hd : Ins M pc (.astore 19) 2 pc') (ho : One o) (h : Go Z a0 n0 M R Q pc' (s0 :: s1 :: s2 :: s3 :: s4 :: s5 :: s6 :: s7 :: s8 :: s9 :: s10 :: s11 :: s12 :: s13 :: s14 :: s15 :: s16 :: s17 :: s18 :: .val (.ref x) :: B) st H ce sl) : Go Z a0 n0 M R Q pc (s0 :: s1 :: s2 :: s3 :: s4 :: s5 :: s6 :: s7 :: s8 :: s9 :: s10 :: s11 :: s12 :: s13 :: s14 :: s15 :: s16 :: s17 :: s18 :: o :: B) (.ref x :: st) H ce sl := go_astoreG (A := [s0, s1, s2, s3, s4, s5, s6, s7, s8, s9, s10, s11, s12, s13, s14, s15, s16, s17, s18]) rfl ho hd h
theorem go_lstore19 {s0 s1 s2 s3 s4 s5 s6 s7 s8 s9 s10 s11 s12 s13 s14 s15 s16 s17 s18 o o' : Slot} {B : List Slot} {x : Int64} (hd : Ins M pc (.lstore 19) 2 pc') (ho : (One o ∧ One o') ∨ ∃ y : Int64, o = .val (.long y) ∧ o' = .second) (h : Go Z a0 n0 M R Q pc' (s0 :: s1 :: s2 :: s3 :: s4 :: s5 :: s6 :: s7 :: s8 :: s9 :: s10 :: s11 :: s12 :: s13 :: s14 :: s15 :: s16 :: s17 :: s18 :: .val (.long x) :: .second :: B) st H ce sl) : Go Z a0 n0 M R Q pc (s0 :: s1 :: s2 :: s3 :: s4 :: s5 :: s6 :: s7 :: s8 :: s9 :: s10 :: s11 :: s12 :: s13 :: s14 :: s15 :: s16 :: s17 :: s18 :: o :: o' :: B) (.long x :: st) H ce sl := go_lstoreG (A := [s0, s1, s2, s3, s4, s5, s6, s7, s8, s9, s10, s11, s12, s13, s14, s15, s16, s17, s18]) rfl ho hd h
theorem go_iinc19 {s0 s1 s2 s3 s4 s5 s6 s7 s8 s9 s10 s11 s12 s13 s14 s15 s16 s17 s18 : Slot} {B : List Slot} {cst : Int} {x v : Int32} (hd : Ins M pc (.iinc 19 cst) 3 pc') (hv : x + Int32.ofInt cst = v) (h : Go Z a0 n0 M R Q pc' (s0 :: s1 :: s2 :: s3 :: s4 :: s5 :: s6 :: s7 :: s8 :: s9 :: s10 :: s11 :: s12 :: s13 :: s14 :: s15 :: s16 :: s17 :: s18 :: .val (.int v) :: B) st H ce sl) : Go Z a0 n0 M R Q pc (s0 :: s1 :: s2 :: s3 :: s4 :: s5 :: s6 :: s7 :: s8 :: s9 :: s10 :: s11 :: s12 :: s13 :: s14 :: s15 :: s16 :: s17 :: s18 :: .val (.int x) :: B) st H ce sl := go_iincG (A := [s0, s1, s2, s3, s4, s5, s6, s7, s8, s9, s10, s11, s12, s13, s14, s15, s16, s17, s18]) rfl hd hv h
theorem go_istore20 {s0 s1 s2 s3 s4 s5 s6 s7 s8 s9 s10 s11 s12 s13 s14 s15 s16 s17 s18 s19 o : Slot} {B : List Slot} {x : Int32} (hd : Ins M pc (.istore 20) 2 pc') (ho : One o) (h : Go Z a0 n0 M R Q pc' (s0 :: s1 :: s2 :: s3 :: s4 :: s5 :: s6 :: s7 :: s8 :: s9 :: s10 :: s11 :: s12 :: s13 :: s14 :: s15 :: s16 :: s17 :: s18 :: s19 :: .val (.int x) :: B) st H ce sl) : Go Z a0 n0 M R Q pc (s0 :: s1 :: s2 :: s3 :: s4 :: s5 :: s6 :: s7 :: s8 :: s9 :: s10 :: s11 :: s12 :: s13 :: s14 :: s15 :: s16 :: s17 :: s18 :: s19 :: o :: B) (.int x :: st) H ce sl := go_istoreG (A := [s0, s1, s2, s3, s4, s5, s6, s7, s8, s9, s10, s11, s12, s13, s14, s15, s16, s17, s18, s19]) rfl ho hd h
theorem go_astore20 {s0 s1 s2 s3 s4 s5 s6 s7 s8 s9 s10 s11 s12 s13 s14 s15 s16 s17 s18 s19 o : Slot} {B : List Slot} {x : Addr} (hd : Ins M pc (.astore 20) 2 pc') (ho : One o) (h : Go Z a0 n0 M R Q pc' (s0 :: s1 :: s2 :: s3 :: s4 :: s5 :: s6 :: s7 :: s8 :: s9 :: s10 :: s11 :: s12 :: s13 :: s14 :: s15 :: s16 :: s17 :: s18 :: s19 :: .val (.ref x) :: B) st H ce sl) : Go Z a0 n0 M R Q pc (s0 :: s1 :: s2 :: s3 :: s4 :: s5 :: s6 :: s7 :: s8 :: s9 :: s10 :: s11 :: s12 :: s13 :: s14 :: s15 :: s16 :: s17 :: s18 :: s19 :: o :: B) (.ref x :: st) H ce sl := go_astoreG (A := [s0, s1, s2, s3, s4, s5, s6, s7, s8, s9, s10, s11, s12, s13, s14, s15, s16, s17, s18, s19]) rfl ho hd h
theorem go_lstore20 {s0 s1 s2 s3 s4 s5 s6 s7 s8 s9 s10 s11 s12 s13 s14 s15 s16 s17 s18 s19 o o' : Slot} {B : List Slot} {x : Int64} (hd : Ins M pc (.lstore 20) 2 pc') (ho : (One o ∧ One o') ∨ ∃ y : Int64, o = .val (.long y) ∧ o' = .second) (h : Go Z a0 n0 M R Q pc' (s0 :: s1 :: s2 :: s3 :: s4 :: s5 :: s6 :: s7 :: s8 :: s9 :: s10 :: s11 :: s12 :: s13 :: s14 :: s15 :: s16 :: s17 :: s18 :: s19 :: .val (.long x) :: .second :: B) st H ce sl) : Go Z a0 n0 M R Q pc (s0 :: s1 :: s2 :: s3 :: s4 :: s5 :: s6 :: s7 :: s8 :: s9 :: s10 :: s11 :: s12 :: s13 :: s14 :: s15 :: s16 :: s17 :: s18 :: s19 :: o :: o' :: B) (.long x :: st) H ce sl := go_lstoreG (A := [s0, s1, s2, s3, s4, s5, s6, s7, s8, s9, s10, s11, s12, s13, s14, s15, s16, s17, s18, s19]) rfl ho hd h
theorem go_iinc20 {s0 s1 s2 s3 s4 s5 s6 s7 s8 s9 s10 s11 s12 s13 s14 s15 s16 s17 s18 s19 : Slot} {B : List Slot} {cst : Int} {x v : Int32} (hd : Ins M pc (.iinc 20 cst) 3 pc') (hv : x + Int32.ofInt cst = v) (h : Go Z a0 n0 M R Q pc' (s0 :: s1 :: s2 :: s3 :: s4 :: s5 :: s6 :: s7 :: s8 :: s9 :: s10 :: s11 :: s12 :: s13 :: s14 :: s15 :: s16 :: s17 :: s18 :: s19 :: .val (.int v) :: B) st H ce sl) : Go Z a0 n0 M R Q pc (s0 :: s1 :: s2 :: s3 :: s4 :: s5 :: s6 :: s7 :: s8 :: s9 :: s10 :: s11 :: s12 :: s13 :: s14 :: s15 :: s16 :: s17 :: s18 :: s19 :: .val (.int x) :: B) st H ce sl := go_iincG (A := [s0, s1, s2, s3, s4, s5, s6, s7, s8, s9, s10, s11, s12, s13, s14, s15, s16, s17, s18, s19]) rfl hd hv h
theorem go_istore21 {s0 s1 s2 s3 s4 s5 s6 s7 s8 s9 s10 s11 s12 s13 s14 s15 s16 s17 s18 s19 s20 o : Slot} {B : List Slot} {x : Int32} (hd : Ins M pc (.istore 21) 2 pc') (ho : One o) (h : Go Z a0 n0 M R Q pc' (s0 :: s1 :: s2 :: s3 :: s4 :: s5 :: s6 :: s7 :: s8 :: s9 :: s10 :: s11 :: s12 :: s13 :: s14 :: s15 :: s16 :: s17 :: s18 :: s19 :: s20 :: .val (.int x) :: B) st H ce sl) : Go Z a0 n0 M R Q pc (s0 :: s1 :: s2 :: s3 :: s4 :: s5 :: s6 :: s7 :: s8 :: s9 :: s10 :: s11 :: s12 :: s13 :: s14 :: s15 :: s16 :: s17 :: s18 :: s19 :: s20 :: o :: B) (.int x :: st) H ce sl := go_istoreG (A := [s0, s1, s2, s3, s4, s5, s6, s7, s8, s9, s10, s11, s12, s13, s14, s15, s16, s17, s18, s19, s20]) rfl ho hd h
theorem go_astore21 {s0 s1 s2 s3 s4 s5 s6 s7 s8 s9 s10 s11 s12 s13 s14 s15 s16 s17 s18 s19 s20 o : Slot} {B : List Slot} {x : Addr} (hd : Ins M pc (.astore 21) 2 pc') (ho : One o) (h : Go Z a0 n0 M R Q pc' (s0 :: s1 :: s2 :: s3 :: s4 :: s5 :: s6 :: s7 :: s8 :: s9 :: s10 :: s11 :: s12 :: s13 :: s14 :: s15 :: s16 :: s17 :: s18 :: s19 :: s20 :: .val (.ref x) :: B) st H ce sl) : Go Z a0 n0 M R Q pc (s0 :: s1 :: s2 :: s3 :: s4 :: s5 :: s6 :: s7 :: s8 :: s9 :: s10 :: s11 :: s12 :: s13 :: s14 :: s15 :: s16 :: s17 :: s18 :: s19 :: s20 :: o :: B) (.ref x :: st) H ce sl := go_astoreG (A := [s0, s1, s2, s3, s4, s5, s6, s7, s8, s9, s10, s11, s12, s13, s14, s15, s16, s17, s18, s19, s20]) rfl ho hd h
theorem go_lstore21 {s0 s1 s2 s3 s4 s5 s6 s7 s8 s9 s10 s11 s12 s13 s14 s15 s16 s17 s18 s19 s20 o o' : Slot} {B : List Slot} {x : Int64} (hd : Ins M pc (.lstore 21) 2 pc') (ho : (One o ∧ One o') ∨ ∃ y : Int64, o = .val (.long y) ∧ o' = .second) (h : Go Z a0 n0 M R Q pc' (s0 :: s1 :: s2 :: s3 :: s4 :: s5 :: s6 :: s7 :: s8 :: s9 :: s10 :: s11 :: s12 :: s13 :: s14 :: s15 :: s16 :: s17 :: s18 :: s19 :: s20 :: .val (.long x) :: .second :: B) st H ce sl) : Go Z a0 n0 M R Q pc (s0 :: s1 :: s2 :: s3 :: s4 :: s5 :: s6 :: s7 :: s8 :: s9 :: s10 :: s11 :: s12 :: s13 :: s14 :: s15 :: s16 :: s17 :: s18 :: s19 :: s20 :: o :: o' :: B) (.long x :: st) H ce sl := go_lstoreG (A := [s0, s1, s2, s3, s4, s5, s6, s7, s8, s9, s10, s11, s12, s13, s14, s15, s16, s17, s18, s19, s20]) rfl ho hd h
theorem go_iinc21 {s0 s1 s2 s3 s4 s5 s6 s7 s8 s9 s10 s11 s12 s13 s14 s15 s16 s17 s18 s19 s20 : Slot} {B : List Slot} {cst : Int} {x v : Int32} (hd : Ins M pc (.iinc 21 cst) 3 pc') (hv : x + Int32.ofInt cst = v) (h : Go Z a0 n0 M R Q pc' (s0 :: s1 :: s2 :: s3 :: s4 :: s5 :: s6 :: s7 :: s8 :: s9 :: s10 :: s11 :: s12 :: s13 :: s14 :: s15 :: s16 :: s17 :: s18 :: s19 :: s20 :: .val (.int v) :: B) st H ce sl) : Go Z a0 n0 M R Q pc (s0 :: s1 :: s2 :: s3 :: s4 :: s5 :: s6 :: s7 :: s8 :: s9 :: s10 :: s11 :: s12 :: s13 :: s14 :: s15 :: s16 :: s17 :: s18 :: s19 :: s20 :: .val (.int x) :: B) st H ce sl := go_iincG (A := [s0, s1, s2, s3, s4, s5, s6, s7, s8, s9, s10, s11, s12, s13, s14, s15, s16, s17, s18, s19, s20]) rfl hd hv h
theorem go_istore22 {s0 s1 s2 s3 s4 s5 s6 s7 s8 s9 s10 s11 s12 s13 s14 s15 s16 s17 s18 s19 s20 s21 o : Slot} {B : List Slot} {x : Int32} (hd : Ins M pc (.istore 22) 2 pc') (ho : One o) (h : Go Z a0 n0 M R Q pc' (s0 :: s1 :: s2 :: s3 :: s4 :: s5 :: s6 :: s7 :: s8 :: s9 :: s10 :: s11 :: s12 :: s13 :: s14 :: s15 :: s16 :: s17 :: s18 :: s19 :: s20 :: s21 :: .val (.int x) :: B) st H ce sl) : Go Z a0 n0 M R Q pc (s0 :: s1 :: s2 :: s3 :: s4 :: s5 :: s6 :: s7 :: s8 :: s9 :: s10 :: s11 :: s12 :: s13 :: s14 :: s15 :: s16 :: s17 :: s18 :: s19 :: s20 :: s21 :: o :: B) (.int x :: st) H ce sl := go_istoreG (A := [s0, s1, s2, s3, s4, s5, s6, s7, s8, s9, s10, s11, s12, s13, s14, s15, s16, s17, s18, s19, s20, s21]) rfl ho hd h
theorem go_astore22 {s0 s1 s2 s3 s4 s5 s6 s7 s8 s9 s10 s11 s12 s13 s14 s15 s16 s17 s18 s19 s20 s21 o : Slot} {B : List Slot} {x : Addr} (hd : Ins M pc (.astore 22) 2 pc') (ho : One o) (h : Go Z a0 n0 M R Q pc' (s0 :: s1 :: s2 :: s3 :: s4 :: s5 :: s6 :: s7 :: s8 :: s9 :: s10 :: s11 :: s12 :: s13 :: s14 :: s15 :: s16 :: s17 :: s18 :: s19 :: s20 :: s21 :: .val (.ref x) :: B) st H ce sl) : Go Z a0 n0 M R Q pc (s0 :: s1 :: s2 :: s3 :: s4 :: s5 :: s6 :: s7 :: s8 :: s9 :: s10 :: s11 :: s12 :: s13 :: s14 :: s15 :: s16 :: s17 :: s18 :: s19 :: s20 :: s21 :: o :: B) (.ref x :: st) H ce sl := go_astoreG (A := [s0, s1, s2, s3, s4, s5, s6, s7, s8, s9, s10, s11, s12, s13, s14, s15, s16, s17, s18, s19, s20, s21]) rfl ho hd h
theorem go_lstore22 {s0 s1 s2 s3 s4 s5 s6 s7 s8 s9 s10 s11 s12 s13 s14 s15 s16 s17 s18 s19 s20 s21 o o' : Slot} {B : List Slot} {x : Int64} (hd : Ins M pc (.lstore 22) 2 pc') (ho : (One o ∧ One o') ∨ ∃ y : Int64, o = .val (.long y) ∧ o' = .second) (h : Go Z a0 n0 M R Q pc' (s0 :: s1 :: s2 :: s3 :: s4 :: s5 :: s6 :: s7 :: s8 :: s9 :: s10 :: s11 :: s12 :: s13 :: s14 :: s15 :: s16 :: s17 :: s18 :: s19 :: s20 :: s21 :: .val (.long x) :: .second :: B) st H ce sl) : Go Z a0 n0 M R Q pc (s0 :: s1 :: s2 :: s3 :: s4 :: s5 :: s6 :: s7 :: s8 :: s9 :: s10 :: s11 :: s12 :: s13 :: s14 :: s15 :: s16 :: s17 :: s18 :: s19 :: s20 :: s21 :: o :: o' :: B) (.long x :: st) H ce sl := go_lstoreG (A := [s0, s1, s2, s3, s4, s5, s6, s7, s8, s9, s10, s11, s12, s13, s14, s15, s16, s17, s18, s19, s20, s21]) rfl ho hd h
theorem go_iinc22 {s0 s1 s2 s3 s4 s5 s6 s7 s8 s9 s10 s11 s12 s13 s14 s15 s16 s17 s18 s19 s20 s21 : Slot} {B : List Slot} {cst : Int} {x v : Int32} (hd : Ins M pc (.iinc 22 cst) 3 pc') (hv : x + Int32.ofInt cst = v) (h : Go Z a0 n0 M R Q pc' (s0 :: s1 :: s2 :: s3 :: s4 :: s5 :: s6 :: s7 :: s8 :: s9 :: s10 :: s11 :: s12 :: s13 :: s14 :: s15 :: s16 :: s17 :: s18 :: s19 :: s20 :: s21 :: .val (.int v) :: B) st H ce sl) : Go Z a0 n0 M R Q pc (s0 :: s1 :: s2 :: s3 :: s4 :: s5 :: s6 :: s7 :: s8 :: s9 :: s10 :: s11 :: s12 :: s13 :: s14 :: s15 :: s16 :: s17 :: s18 :: s19 :: s20 :: s21 :: .val (.int x) :: B) st H ce sl := go_iincG (A := [s0, s1, s2, s3, s4, s5, s6, s7, s8, s9, s10, s11, s12, s13, s14, s15, s16, s17, s18, s19, s20, s21]) rfl hd hv h
theorem go_istore23 {s0 s1 s2 s3 s4 s5 s6 s7 s8 s9 s10 s11 s12 s13 s14 s15 s16 s17 s18 s19 s20 s21 s22 o : Slot} {B : List Slot} {x : Int32} (hd : Ins M pc (.istore 23) 2 pc') (ho : One o) (h : Go Z a0 n0 M R Q pc' (s0 :: s1 :: s2 :: s3 :: s4 :: s5 :: s6 :: s7 :: s8 :: s9 :: s10 :: s11 :: s12 :: s13 :: s14 :: s15 :: s16 :: s17 :: s18 :: s19 :: s20 :: s21 :: s22 :: .val (.int x) :: B) st H ce sl) : Go Z a0 n0 M R Q pc (s0 :: s1 :: s2 :: s3 :: s4 :: s5 :: s6 :: s7 :: s8 :: s9 :: s10 :: s11 :: s12 :: s13 :: s14 :: s15 :: s16 :: s17 :: s18 :: s19 :: s20 :: s21 :: s22 :: o :: B) (.int x :: st) H ce sl := go_istoreG (A := [s0, s1, s2, s3, s4, s5, s6, s7, s8, s9, s10, s11, s12, s13, s14, s15, s16, s17, s18, s19, s20, s21, s22]) rfl ho hd h
theorem go_astore23 {s0 s1 s2 s3 s4 s5 s6 s7 s8 s9 s10 s11 s12 s13 s14 s15 s16 s17 s18 s19 s20 s21 s22 o : Slot} {B : List Slot} {x : Addr} (hd : Ins M pc (.astore 23) 2 pc') (ho : One o) (h : Go Z a0 n0 M R Q pc' (s0 :: s1 :: s2 :: s3 :: s4 :: s5 :: s6 :: s7 :: s8 :: s9 :: s10 :: s11 :: s12 :: s13 :: s14 :: s15 :: s16 :: s17 :: s18 :: s19 :: s20 :: s21 :: s22 :: .val (.ref x) :: B) st H ce sl) : Go Z a0 n0 M R Q pc (s0 :: s1 :: s2 :: s3 :: s4 :: s5 :: s6 :: s7 :: s8 :: s9 :: s10 :: s11 :: s12 :: s13 :: s14 :: s15 :: s16 :: s17 :: s18 :: s19 :: s20 :: s21 :: s22 :: o :: B) (.ref x :: st) H ce sl := go_astoreG (A := [s0, s1, s2, s3, s4, s5, s6, s7, s8, s9, s10, s11, s12, s13, s14, s15, s16, s17, s18, s19, s20, s21, s22]) rfl ho hd h
theorem go_lstore23 {s0 s1 s2 s3 s4 s5 s6 s7 s8 s9 s10 s11 s12 s13 s14 s15 s16 s17 s18 s19 s20 s21 s22 o o' : Slot} {B : List Slot} {x : Int64} (hd : Ins M pc (.lstore 23) 2 pc') (ho : (One o ∧ One o') ∨ ∃ y : Int64, o = .val (.long y) ∧ o' = .second) (h : Go Z a0 n0 M R Q pc' (s0 :: s1 :: s2 :: s3 :: s4 :: s5 :: s6 :: s7 :: s8 :: s9 :: s10 :: s11 :: s12 :: s13 :: s14 :: s15 :: s16 :: s17 :: s18 :: s19 :: s20 :: s21 :: s22 :: .val (.long x) :: .second :: B) st H ce sl) : Go Z a0 n0 M R Q pc (s0 :: s1 :: s2 :: s3 :: s4 :: s5 :: s6 :: s7 :: s8 :: s9 :: s10 :: s11 :: s12 :: s13 :: s14 :: s15 :: s16 :: s17 :: s18 :: s19 :: s20 :: s21 :: s22 :: o :: o' :: B) (.long x :: st) H ce sl := go_lstoreG (A := [s0, s1, s2, s3, s4, s5, s6, s7, s8, s9, s10, s11, s12, s13, s14, s15, s16, s17, s18, s19, s20, s21, s22]) rfl ho hd h
theorem go_iinc23 {s0 s1 s2 s3 s4 s5 s6 s7 s8 s9 s10 s11 s12 s13 s14 s15 s16 s17 s18 s19 s20 s21 s22 : Slot} {B : List Slot} {cst : Int} {x v : Int32} (hd : Ins M pc (.iinc 23 cst) 3 pc') (hv : x + Int32.ofInt cst = v) (h : Go Z a0 n0 M R Q pc' (s0 :: s1 :: s2 :: s3 :: s4 :: s5 :: s6 :: s7 :: s8 :: s9 :: s10 :: s11 :: s12 :: s13 :: s14 :: s15 :: s16 :: s17 :: s18 :: s19 :: s20 :: s21 :: s22 :: .val (.int v) :: B) st H ce sl) : Go Z a0 n0 M R Q pc (s0 :: s1 :: s2 :: s3 :: s4 :: s5 :: s6 :: s7 :: s8 :: s9 :: s10 :: s11 :: s12 :: s13 :: s14 :: s15 :: s16 :: s17 :: s18 :: s19 :: s20 :: s21 :: s22 :: .val (.int x) :: B) st H ce sl := go_iincG (A := [s0, s1, s2, s3, s4, s5, s6, s7, s8, s9, s10, s11, s12, s13, s14, s15, s16, s17, s18, s19, s20, s21, s22]) rfl hd hv h
theorem go_istore24 {s0 s1 s2 s3 s4 s5 s6 s7 s8 s9 s10 s11 s12 s13 s14 s15 s16 s17 s18 s19 s20 s21 s22 s23 o : Slot} {B : List Slot} {x : Int32} (hd : Ins M pc (.istore 24) 2 pc') (ho : One o) (h : Go Z a0 n0 M R Q pc' (s0 :: s1 :: s2 :: s3 :: s4 :: s5 :: s6 :: s7 :: s8 :: s9 :: s10 :: s11 :: s12 :: s13 :: s14 :: s15 :: s16 :: s17 :: s18 :: s19 :: s20 :: s21 :: s22 :: s23 :: .val (.int x) :: B) st H ce sl) : Go Z a0 n0 M R Q pc (s0 :: s1 :: s2 :: s3 :: s4 :: s5 :: s6 :: s7 :: s8 :: s9 :: s10 :: s11 :: s12 :: s13 :: s14 :: s15 :: s16 :: s17 :: s18 :: s19 :: s20 :: s21 :: s22 :: s23 :: o :: B) (.int x :: st) H ce sl := go_istoreG (A := [s0, s1, s2, s3, s4, s5, s6, s7, s8, s9, s10, s11, s12, s13, s14, s15, s16, s17, s18, s19, s20, s21, s22, s23]) rfl ho hd h
theorem go_astore24 {s0 s1 s2 s3 s4 s5 s6 s7 s8 s9 s10 s11 s12 s13 s14 s15 s16 s17 s18 s19 s20 s21 s22 s23 o : Slot} {B : List Slot} {x : Addr} (hd : Ins M pc (.astore 24) 2 pc') (ho : One o) (h : Go Z a0 n0 M R Q pc' (s0 :: s1 :: s2 :: s3 :: s4 :: s5 :: s6 :: s7 :: s8 :: s9 :: s10 :: s11 :: s12 :: s13 :: s14 :: s15 :: s16 :: s17 :: s18 :: s19 :: s20 :: s21 :: s22 :: s23 :: .val (.ref x) :: B) st H ce sl) : Go Z a0 n0 M R Q pc (s0 :: s1 :: s2 :: s3 :: s4 :: s5 :: s6 :: s7 :: s8 :: s9 :: s10 :: s11 :: s12 :: s13 :: s14 :: s15 :: s16 :: s17 :: s18 :: s19 :: s20 :: s21 :: s22 :: s23 :: o :: B) (.ref x :: st) H ce sl := go_astoreG (A := [s0, s1, s2, s3, s4, s5, s6, s7, s8, s9, s10, s11, s12, s13, s14, s15, s16, s17, s18, s19, s20, s21, s22, s23]) rfl ho hd h
theorem go_lstore24 {s0 s1 s2 s3 s4 s5 s6 s7 s8 s9 s10 s11 s12 s13 s14 s15 s16 s17 s18 s19 s20 s21 s22 s23 o o' : Slot} {B : List Slot} {x : Int64} (hd : Ins M pc (.lstore 24) 2 pc') (ho : (One o ∧ One o') ∨ ∃ y : Int64, o = .val (.long y) ∧ o' = .second) (h : Go Z a0 n0 M R Q pc' (s0 :: s1 :: s2 :: s3 :: s4 :: s5 :: s6 :: s7 :: s8 :: s9 :: s10 :: s11 :: s12 :: s13 :: s14 :: s15 :: s16 :: s17 :: s18 :: s19 :: s20 :: s21 :: s22 :: s23 :: .val (.long x) :: .second :: B) st H ce sl) : Go Z a0 n0 M R Q pc (s0 :: s1 :: s2 :: s3 :: s4 :: s5 :: s6 :: s7 :: s8 :: s9 :: s10 :: s11 :: s12 :: s13 :: s14 :: s15 :: s16 :: s17 :: s18 :: s19 :: s20 :: s21 :: s22 :: s23 :: o :: o' :: B) (.long x :: st) H ce sl := go_lstoreG (A := [s0, s1, s2, s3, s4, s5, s6, s7, s8, s9, s10, s11, s12, s13, s14, s15, s16, s17, s18, s19, s20, s21, s22, s23]) rfl ho hd h
theorem go_iinc24 {s0 s1 s2 s3 s4 s5 s6 s7 s8 s9 s10 s11 s12 s13 s14 s15 s16 s17 s18 s19 s20 s21 s22 s23 : Slot} {B : List Slot} {cst : Int} {x v : Int32} (hd : Ins M pc (.iinc 24 cst) 3 pc') (hv : x + Int32.ofInt cst = v) (h : Go Z a0 n0 M R Q pc' (s0 :: s1 :: s2 :: s3 :: s4 :: s5 :: s6 :: s7 :: s8 :: s9 :: s10 :: s11 :: s12 :: s13 :: s14 :: s15 :: s16 :: s17 :: s18 :: s19 :: s20 :: s21 :: s22 :: s23 :: .val (.int v) :: B) st H ce sl) : Go Z a0 n0 M R Q pc (s0 :: s1 :: s2 :: s3 :: s4 :: s5 :: s6 :: s7 :: s8 :: s9 :: s10 :: s11 :: s12 :: s13 :: s14 :: s15 :: s16 :: s17 :: s18 :: s19 :: s20 :: s21 :: s22 :: s23 :: .val (.int x) :: B) st H ce sl := go_iincG (A := [s0, s1, s2, s3, s4, s5, s6, s7, s8, s9, s10, s11, s12, s13, s14, s15, s16, s17, s18, s19, s20, s21, s22, s23]) rfl hd hv h
theorem go_istore25 {s0 s1 s2 s3 s4 s5 s6 s7 s8 s9 s10 s11 s12 s13 s14 s15 s16 s17 s18 s19 s20 s21 s22 s23 s24 o : Slot} {B : List Slot} {x : Int32} (hd : Ins M pc (.istore 25) 2 pc') (ho : One o) (h : Go Z a0 n0 M R Q pc' (s0 :: s1 :: s2 :: s3 :: s4 :: s5 :: s6 :: s7 :: s8 :: s9 :: s10 :: s11 :: s12 :: s13 :: s14 :: s15 :: s16 :: s17 :: s18 :: s19 :: s20 :: s21 :: s22 :: s23 :: s24 :: .val (.int x) :: B) st H ce sl) : Go Z a0 n0 M R Q pc (s0 :: s1 :: s2 :: s3 :: s4 :: s5 :: s6 :: s7 :: s8 :: s9 :: s10 :: s11 :: s12 :: s13 :: s14 :: s15 :: s16 :: s17 :: s18 :: s19 :: s20 :: s21 :: s22 :: s23 :: s24 :: o :: B) (.int x :: st) H ce sl := go_istoreG (A := [s0, s1, s2, s3, s4, s5, s6, s7, s8, s9, s10, s11, s12, s13, s14, s15, s16, s17, s18, s19, s20, s21, s22, s23, s24]) rfl ho hd h
theorem go_astore25 {s0 s1 s2 s3 s4 s5 s6 s7 s8 s9 s10 s11 s12 s13 s14 s15 s16 s17 s18 s19 s20 s21 s22 s23 s24 o : Slot} {B : List Slot} {x : Addr} (hd : Ins M pc (.astore 25) 2 pc') (ho : One o) (h : Go Z a0 n0 M R Q pc' (s0 :: s1 :: s2 :: s3 :: s4 :: s5 :: s6 :: s7 :: s8 :: s9 :: s10 :: s11 :: s12 :: s13 :: s14 :: s15 :: s16 :: s17 :: s18 :: s19 :: s20 :: s21 :: s22 :: s23 :: s24 :: .val (.ref x) :: B) st H ce sl) : Go Z a0 n0 M R Q pc (s0 :: s1 :: s2 :: s3 :: s4 :: s5 :: s6 :: s7 :: s8 :: s9 :: s10 :: s11 :: s12 :: s13 :: s14 :: s15 :: s16 :: s17 :: s18 :: s19 :: s20 :: s21 :: s22 :: s23 :: s24 :: o :: B) (.ref x :: st) H ce sl := go_astoreG (A := [s0, s1, s2, s3, s4, s5, s6, s7, s8, s9, s10, s11, s12, s13, s14, s15, s16, s17, s18, s19, s20, s21, s22, s23, s24]) rfl ho hd h
theorem go_lstore25 {s0 s1 s2 s3 s4 s5 s6 s7 s8 s9 s10 s11 s12 s13 s14 s15 s16 s17 s18 s19 s20 s21 s22 s23 s24 o o' : Slot} {B : List Slot} {x : Int64} (hd : Ins M pc (.lstore 25) 2 pc') (ho : (One o ∧ One o') ∨ ∃ y : Int64, o = .val (.long y) ∧ o' = .second) (h : Go Z a0 n0 M R Q pc' (s0 :: s1 :: s2 :: s3 :: s4 :: s5 :: s6 :: s7 :: s8 :: s9 :: s10 :: s11 :: s12 :: s13 :: s14 :: s15 :: s16 :: s17 :: s18 :: s19 :: s20 :: s21 :: s22 :: s23 :: s24 :: .val (.long x) :: .second :: B) st H ce sl) : Go Z a0 n0 M R Q pc (s0 :: s1 :: s2 :: s3 :: s4 :: s5 :: s6 :: s7 :: s8 :: s9 :: s10 :: s11 :: s12 :: s13 :: s14 :: s15 :: s16 :: s17 :: s18 :: s19 :: s20 :: s21 :: s22 :: s23 :: s24 :: o :: o' :: B) (.long x :: st) H ce sl := go_lstoreG (A := [s0, s1, s2, s3, s4, s5, s6, s7, s8, s9, s10, s11, s12, s13, s14, s15, s16, s17, s18, s19, s20, s21, s22, s23, s24]) rfl ho hd h
theorem go_iinc25 {s0 s1 s2 s3 s4 s5 s6 s7 s8 s9 s10 s11 s12 s13 s14 s15 s16 s17 s18 s19 s20 s21 s22 s23 s24 : Slot} {B : List Slot} {cst : Int} {x v : Int32} (hd : Ins M pc (.iinc 25 cst) 3 pc') (hv : x + Int32.ofInt cst = v) (h : Go Z a0 n0 M R Q pc' (s0 :: s1 :: s2 :: s3 :: s4 :: s5 :: s6 :: s7 :: s8 :: s9 :: s10 :: s11 :: s12 :: s13 :: s14 :: s15 :: s16 :: s17 :: s18 :: s19 :: s20 :: s21 :: s22 :: s23 :: s24 :: .val (.int v) :: B) st H ce sl) : Go Z a0 n0 M R Q pc (s0 :: s1 :: s2 :: s3 :: s4 :: s5 :: s6 :: s7 :: s8 :: s9 :: s10 :: s11 :: s12 :: s13 :: s14 :: s15 :: s16 :: s17 :: s18 :: s19 :: s20 :: s21 :: s22 :: s23 :: s24 :: .val (.int x) :: B) st H ce sl := go_iincG (A := [s0, s1, s2, s3, s4, s5, s6, s7, s8, s9, s10, s11, s12, s13, s14, s15, s16, s17, s18, s19, s20, s21, s22, s23, s24]) rfl hd hv h
theorem go_istore26 {s0 s1 s2 s3 s4 s5 s6 s7 s8 s9 s10 s11 s12 s13 s14 s15 s16 s17 s18 s19 s20 s21 s22 s23 s24 s25 o : Slot} {B : List Slot} {x : Int32} (hd : Ins M pc (.istore 26) 2 pc') (ho : One o) (h : Go Z a0 n0 M R Q pc' (s0 :: s1 :: s2 :: s3 :: s4 :: s5 :: s6 :: s7 :: s8 :: s9 :: s10 :: s11 :: s12 :: s13 :: s14 :: s15 :: s16 :: s17 :: s18 :: s19 :: s20 :: s21 :: s22 :: s23 :: s24 :: s25 :: .val (.int x) :: B) st H ce sl) : Go Z a0 n0 M R Q pc (s0 :: s1 :: s2 :: s3 :: s4 :: s5 :: s6 :: s7 :: s8 :: s9 :: s10 :: s11 :: s12 :: s13 :: s14 :: s15 :: s16 :: s17 :: s18 :: s19 :: s20 :: s21 :: s22 :: s23 :: s24 :: s25 :: o :: B) (.int x :: st) H ce sl := go_istoreG (A := [s0, s1, s2, s3, s4, s5, s6, s7, s8, s9, s10, s11, s12, s13, s14, s15, s16, s17, s18, s19, s20, s21, s22, s23, s24, s25]) rfl ho hd h
theorem go_astore26 {s0 s1 s2 s3 s4 s5 s6 s7 s8 s9 s10 s11 s12 s13 s14 s15 s16 s17 s18 s19 s20 s21 s22 s23 s24 s25 o : Slot} {B : List Slot} {x : Addr} (hd : Ins M pc (.astore 26) 2 pc') (ho : One o) (h : Go Z a0 n0 M R Q pc' (s0 :: s1 :: s2 :: s3 :: s4 :: s5 :: s6 :: s7 :: s8 :: s9 :: s10 :: s11 :: s12 :: s13 :: s14 :: s15 :: s16 :: s17 :: s18 :: s19 :: s20 :: s21 :: s22 :: s23 :: s24 :: s25 :: .val (.ref x) :: B) st H ce sl) : Go Z a0 n0 M R Q pc (s0 :: s1 :: s2 :: s3 :: s4 :: s5 :: s6 :: s7 :: s8 :: s9 :: s10 :: s11 :: s12 :: s13 :: s14 :: s15 :: s16 :: s17 :: s18 :: s19 :: s20 :: s21 :: s22 :: s23 :: s24 :: s25 :: o :: B) (.ref x :: st) H ce sl := go_astoreG (A := [s0, s1, s2, s3, s4, s5, s6, s7, s8, s9, s10, s11, s12, s13, s14, s15, s16, s17, s18, s19, s20, s21, s22, s23, s24, s25]) rfl ho hd h
theorem go_lstore26 {s0 s1 s2 s3 s4 s5 s6 s7 s8 s9 s10 s11 s12 s13 s14 s15 s16 s17 s18 s19 s20 s21 s22 s23 s24 s25 o o' : Slot} {B : List Slot} {x : Int64} (hd : Ins M pc (.lstore 26) 2 pc') (ho : (One o ∧ One o') ∨ ∃ y : Int64, o = .val (.long y) ∧ o' = .second) (h : Go Z a0 n0 M R Q pc' (s0 :: s1 :: s2 :: s3 :: s4 :: s5 :: s6 :: s7 :: s8 :: s9 :: s10 :: s11 :: s12 :: s13 :: s14 :: s15 :: s16 :: s17 :: s18 :: s19 :: s20 :: s21 :: s22 :: s23 :: s24 :: s25 :: .val (.long x) :: .second :: B) st H ce sl) : Go Z a0 n0 M R Q pc (s0 :: s1 :: s2 :: s3 :: s4 :: s5 :: s6 :: s7 :: s8 :: s9 :: s10 :: s11 :: s12 :: s13 :: s14 :: s15 :: s16 :: s17 :: s18 :: s19 :: s20 :: s21 :: s22 :: s23 :: s24 :: s25 :: o :: o' :: B) (.long x :: st) H ce sl := go_lstoreG (A := [s0, s1, s2, s3, s4, s5, s6, s7, s8, s9, s10, s11, s12, s13, s14, s15, s16, s17, s18, s19, s20, s21, s22, s23, s24, s25]) rfl ho hd h
theorem go_iinc26 {s0 s1 s2 s3 s4 s5 s6 s7 s8 s9 s10 s11 s12 s13 s14 s15 s16 s17 s18 s19 s20 s21 s22 s23 s24 s25 : Slot} {B : List Slot} {cst : Int} {x v : Int32} (hd : Ins M pc (.iinc 26 cst) 3 pc') (hv : x + Int32.ofInt cst = v) (h : Go Z a0 n0 M R Q pc' (s0 :: s1 :: s2 :: s3 :: s4 :: s5 :: s6 :: s7 :: s8 :: s9 :: s10 :: s11 :: s12 :: s13 :: s14 :: s15 :: s16 :: s17 :: s18 :: s19 :: s20 :: s21 :: s22 :: s23 :: s24 :: s25 :: .val (.int v) :: B) st H ce sl) : Go Z a0 n0 M R Q pc (s0 :: s1 :: s2 :: s3 :: s4 :: s5 :: s6 :: s7 :: s8 :: s9 :: s10 :: s11 :: s12 :: s13 :: s14 :: s15 :: s16 :: s17 :: s18 :: s19 :: s20 :: s21 :: s22 :: s23 :: s24 :: s25 :: .val (.int x) :: B) st H ce sl := go_iincG (A := [s0, s1, s2, s3, s4, s5, s6, s7, s8, s9, s10, s11, s12, s13, s14, s15, s16, s17, s18, s19, s20, s21, s22, s23, s24, s25]) rfl hd hv h
theorem go_istore27 {s0 s1 s2 s3 s4 s5 s6 s7 s8 s9 s10 s11 s12 s13 s14 s15 s16 s17 s18 s19 s20 s21 s22 s23 s24 s25 s26 o : Slot} {B : List Slot} {x : Int32} (hd : Ins M pc (.istore 27) 2 pc') (ho : One o) (h : Go Z a0 n0 M R Q pc' (s0 :: s1 :: s2 :: s3 :: s4 :: s5 :: s6 :: s7 :: s8 :: s9 :: s10 :: s11 :: s12 :: s13 :: s14 :: s15 :: s16 :: s17 :: s18 :: s19 :: s20 :: s21 :: s22 :: s23 :: s24 :: s25 :: s26 :: .val (.int x) :: B) st H ce sl) : Go Z a0 n0 M R Q pc (s0 :: s1 :: s2 :: s3 :: s4 :: s5 :: s6 :: s7 :: s8 :: s9 :: s10 :: s11 :: s12 :: s13 :: s14 :: s15 :: s16 :: s17 :: s18 :: s19 :: s20 :: s21 :: s22 :: s23 :: s24 :: s25 :: s26 :: o :: B) (.int x :: st) H ce sl := go_istoreG (A := [s0, s1, s2, s3, s4, s5, s6, s7, s8, s9, s10, s11, s12, s13, s14, s15, s16, s17, s18, s19, s20, s21, s22, s23, s24, s25, s26]) rfl ho hd h
theorem go_astore27 {s0 s1 s2 s3 s4 s5 s6 s7 s8 s9 s10 s11 s12 s13 s14 s15 s16 s17 s18 s19 s20 s21 s22 s23 s24 s25 s26 o : Slot} {B : List Slot} {x : Addr} (hd : Ins M pc (.astore 27) 2 pc') (ho : One o) (h : Go Z a0 n0 M R Q pc' (s0 :: s1 :: s2 :: s3 :: s4 :: s5 :: s6 :: s7 :: s8 :: s9 :: s10 :: s11 :: s12 :: s13 :: s14 :: s15 :: s16 :: s17 :: s18 :: s19 :: s20 :: s21 :: s22 :: s23 :: s24 :: s25 :: s26 :: .val (.ref x) :: B) st H ce sl) : Go Z a0 n0 M R Q pc (s0 :: s1 :: s2 :: s3 :: s4 :: s5 :: s6 :: s7 :: s8 :: s9 :: s10 :: s11 :: s12 :: s13 :: s14 :: s15 :: s16 :: s17 :: s18 :: s19 :: s20 :: s21 :: s22 :: s23 :: s24 :: s25 :: s26 :: o :: B) (.ref x :: st) H ce sl := go_astoreG (A := [s0, s1, s2, s3, s4, s5, s6, s7, s8, s9, s10, s11, s12, s13, s14, s15, s16, s17, s18, s19, s20, s21, s22, s23, s24, s25, s26]) rfl ho hd h
theorem go_lstore27 {s0 s1 s2 s3 s4 s5 s6 s7 s8 s9 s10 s11 s12 s13 s14 s15 s16 s17 s18 s19 s20 s21 s22 s23 s24 s25 s26 o o' : Slot} {B : List Slot} {x : Int64} (hd : Ins M pc (.lstore 27) 2 pc') (ho : (One o ∧ One o') ∨ ∃ y : Int64, o = .val (.long y) ∧ o' = .second) (h : Go Z a0 n0 M R Q pc' (s0 :: s1 :: s2 :: s3 :: s4 :: s5 :: s6 :: s7 :: s8 :: s9 :: s10 :: s11 :: s12 :: s13 :: s14 :: s15 :: s16 :: s17 :: s18 :: s19 :: s20 :: s21 :: s22 :: s23 :: s24 :: s25 :: s26 :: .val (.long x) :: .second :: B) st H ce sl) : Go Z a0 n0 M R Q pc (s0 :: s1 :: s2 :: s3 :: s4 :: s5 :: s6 :: s7 :: s8 :: s9 :: s10 :: s11 :: s12 :: s13 :: s14 :: s15 :: s16 :: s17 :: s18 :: s19 :: s20 :: s21 :: s22 :: s23 :: s24 :: s25 :: s26 :: o :: o' :: B) (.long x :: st) H ce sl := go_lstoreG (A := [s0, s1, s2, s3, s4, s5, s6, s7, s8, s9, s10, s11, s12, s13, s14, s15, s16, s17, s18, s19, s20, s21, s22, s23, s24, s25, s26]) rfl ho hd h
theorem go_iinc27 {s0 s1 s2 s3 s4 s5 s6 s7 s8 s9 s10 s11 s12 s13 s14 s15 s16 s17 s18 s19 s20 s21 s22 s23 s24 s25 s26 : Slot} {B : List Slot} {cst : Int} {x v : Int32} (hd : Ins M pc (.iinc 27 cst) 3 pc') (hv : x + Int32.ofInt cst = v) (h : Go Z a0 n0 M R Q pc' (s0 :: s1 :: s2 :: s3 :: s4 :: s5 :: s6 :: s7 :: s8 :: s9 :: s10 :: s11 :: s12 :: s13 :: s14 :: s15 :: s16 :: s17 :: s18 :: s19 :: s20 :: s21 :: s22 :: s23 :: s24 :: s25 :: s26 :: .val (.int v) :: B) st H ce sl) : Go Z a0 n0 M R Q pc (s0 :: s1 :: s2 :: s3 :: s4 :: s5 :: s6 :: s7 :: s8 :: s9 :: s10 :: s11 :: s12 :: s13 :: s14 :: s15 :: s16 :: s17 :: s18 :: s19 :: s20 :: s21 :: s22 :: s23 :: s24 :: s25 :: s26 :: .val (.int x) :: B) st H ce sl := go_iincG (A := [s0, s1, s2, s3, s4, s5, s6, s7, s8, s9, s10, s11, s12, s13, s14, s15, s16, s17, s18, s19, s20, s21, s22, s23, s24, s25, s26]) rfl hd hv h
theorem go_istore28 {s0 s1 s2 s3 s4 s5 s6 s7 s8 s9 s10 s11 s12 s13 s14 s15 s16 s17 s18 s19 s20 s21 s22 s23 s24 s25 s26 s27 o : Slot} {B : List Slot} {x : Int32} (hd : Ins M pc (.istore 28) 2 pc') (ho : One o) (h : Go Z a0 n0 M R Q pc' (s0 :: s1 :: s2 :: s3 :: s4 :: s5 :: s6 :: s7 :: s8 :: s9 :: s10 :: s11 :: s12 :: s13 :: s14 :: s15 :: s16 :: s17 :: s18 :: s19 :: s20 :: s21 :: s22 :: s23 :: s24 :: s25 :: s26 :: s27 :: .val (.int x) :: B) st H ce sl) : Go Z a0 n0 M R Q pc (s0 :: s1 :: s2 :: s3 :: s4 :: s5 :: s6 :: s7 :: s8 :: s9 :: s10 :: s11 :: s12 :: s13 :: s14 :: s15 :: s16 :: s17 :: s18 :: s19 :: s20 :: s21 :: s22 :: s23 :: s24 :: s25 :: s26 :: s27 :: o :: B) (.int x :: st) H ce sl := go_istoreG (A := [s0, s1, s2, s3, s4, s5, s6, s7, s8, s9, s10, s11, s12, s13, s14, s15, s16, s17, s18, s19, s20, s21, s22, s23, s24, s25, s26, s27]) rfl ho hd h
theorem go_astore28 {s0 s1 s2 s3 s4 s5 s6 s7 s8 s9 s10 s11 s12 s13 s14 s15 s16 s17 s18 s19 s20 s21 s22 s23 s24 s25 s26 s27 o : Slot} {B : List Slot} {x : Addr} (hd : Ins M pc (.astore 28) 2 pc') (ho : One o) (h : Go Z a0 n0 M R Q pc' (s0 :: s1 :: s2 :: s3 :: s4 :: s5 :: s6 :: s7 :: s8 :: s9 :: s10 :: s11 :: s12 :: s13 :: s14 :: s15 :: s16 :: s17 :: s18 :: s19 :: s20 :: s21 :: s22 :: s23 :: s24 :: s25 :: s26 :: s27 :: .val (.ref x) :: B) st H ce sl) : Go Z a0 n0 M R Q pc (s0 :: s1 :: s2 :: s3 :: s4 :: s5 :: s6 :: s7 :: s8 :: s9 :: s10 :: s11 :: s12 :: s13 :: s14 :: s15 :: s16 :: s17 :: s18 :: s19 :: s20 :: s21 :: s22 :: s23 :: s24 :: s25 :: s26 :: s27 :: o :: B) (.ref x :: st) H ce sl := go_astoreG (A := [s0, s1, s2, s3, s4, s5, s6, s7, s8, s9, s10, s11, s12, s13, s14, s15, s16, s17, s18, s19, s20, s21, s22, s23, s24, s25, s26, s27]) rfl ho hd h
theorem go_lstore28 {s0 s1 s2 s3 s4 s5 s6 s7 s8 s9 s10 s11 s12 s13 s14 s15 s16 s17 s18 s19 s20 s21 s22 s23 s24 s25 s26 s27 o o' : Slot} {B : List Slot} {x : Int64} (hd : Ins M pc (.lstore 28) 2 pc') (ho : (One o ∧ One o') ∨ ∃ y : Int64, o = .val (.long y) ∧ o' = .second) (h : Go Z a0 n0 M R Q pc' (s0 :: s1 :: s2 :: s3 :: s4 :: s5 :: s6 :: s7 :: s8 :: s9 :: s10 :: s11 :: s12 :: s13 :: s14 :: s15 :: s16 :: s17 :: s18 :: s19 :: s20 :: s21 :: s22 :: s23 :: s24 :: s25 :: s26 :: s27 :: .val (.long x) :: .second :: B) st H ce sl) : Go Z a0 n0 M R Q pc (s0 :: s1 :: s2 :: s3 :: s4 :: s5 :: s6 :: s7 :: s8 :: s9 :: s10 :: s11 :: s12 :: s13 :: s14 :: s15 :: s16 :: s17 :: s18 :: s19 :: s20 :: s21 :: s22 :: s23 :: s24 :: s25 :: s26 :: s27 :: o :: o' :: B) (.long x :: st) H ce sl := go_lstoreG (A := [s0, s1, s2, s3, s4, s5, s6, s7, s8, s9, s10, s11, s12, s13, s14, s15, s16, s17, s18, s19, s20, s21, s22, s23, s24, s25, s26, s27]) rfl ho hd h
theorem go_iinc28 {s0 s1 s2 s3 s4 s5 s6 s7 s8 s9 s10 s11 s12 s13 s14 s15 s16 s17 s18 s19 s20 s21 s22 s23 s24 s25 s26 s27 : Slot} {B : List Slot} {cst : Int} {x v : Int32} (hd : Ins M pc (.iinc 28 cst) 3 pc') (hv : x + Int32.ofInt cst = v) (h : Go Z a0 n0 M R Q pc' (s0 :: s1 :: s2 :: s3 :: s4 :: s5 :: s6 :: s7 :: s8 :: s9 :: s10 :: s11 :: s12 :: s13 :: s14 :: s15 :: s16 :: s17 :: s18 :: s19 :: s20 :: s21 :: s22 :: s23 :: s24 :: s25 :: s26 :: s27 :: .val (.int v) :: B) st H ce sl) : Go Z a0 n0 M R Q pc (s0 :: s1 :: s2 :: s3 :: s4 :: s5 :: s6 :: s7 :: s8 :: s9 :: s10 :: s11 :: s12 :: s13 :: s14 :: s15 :: s16 :: s17 :: s18 :: s19 :: s20 :: s21 :: s22 :: s23 :: s24 :: s25 :: s26 :: s27 :: .val (.int x) :: B) st H ce sl := go_iincG (A := [s0, s1, s2, s3, s4, s5, s6, s7, s8, s9, s10, s11, s12, s13, s14, s15, s16, s17, s18, s19, s20, s21, s22, s23, s24, s25, s26, s27]) rfl hd hv h
theorem go_istore29 {s0 s1 s2 s3 s4 s5 s6 s7 s8 s9 s10 s11 s12 s13 s14 s15 s16 s17 s18 s19 s20 s21 s22 s23 s24 s25 s26 s27 s28 o : Slot} {B : List Slot} {x : Int32} (hd : Ins M pc (.istore 29) 2 pc') (ho : One o) (h : Go Z a0 n0 M R Q pc' (s0 :: s1 :: s2 :: s3 :: s4 :: s5 :: s6 :: s7 :: s8 :: s9 :: s10 :: s11 :: s12 :: s13 :: s14 :: s15 :: s16 :: s17 :: s18 :: s19 :: s20 :: s21 :: s22 :: s23 :: s24 :: s25 :: s26 :: s27 :: s28 :: .val (.int x) :: B) st H ce sl) : Go Z a0 n0 M R Q pc (s0 :: s1 :: s2 :: s3 :: s4 :: s5 :: s6 :: s7 :: s8 :: s9 :: s10 :: s11 :: s12 :: s13 :: s14 :: s15 :: s16 :: s17 :: s18 :: s19 :: s20 :: s21 :: s22 :: s23 :: s24 :: s25 :: s26 :: s27 :: s28 :: o :: B) (.int x :: st) H ce sl := go_istoreG (A := [s0, s1, s2, s3, s4, s5, s6, s7, s8, s9, s10, s11, s12, s13, s14, s15, s16, s17, s18, s19, s20, s21, s22, s23, s24, s25, s26, s27, s28]) rfl ho hd h
theorem go_astore29 {s0 s1 s2 s3 s4 s5 s6 s7 s8 s9 s10 s11 s12 s13 s14 s15 s16 s17 s18 s19 s20 s21 s22 s23 s24 s25 s26 s27 s28 o : Slot} {B : List Slot} {x : Addr} (hd : Ins M pc (.astore 29) 2 pc') (ho : One o) (h : Go Z a0 n0 M R Q pc' (s0 :: s1 :: s2 :: s3 :: s4 :: s5 :: s6 :: s7 :: s8 :: s9 :: s10 :: s11 :: s12 :: s13 :: s14 :: s15 :: s16 :: s17 :: s18 :: s19 :: s20 :: s21 :: s22 :: s23 :: s24 :: s25 :: s26 :: s27 :: s28 :: .val (.ref x) :: B) st H ce sl) : Go Z a0 n0 M R Q pc (s0 :: s1 :: s2 :: s3 :: s4 :: s5 :: s6 :: s7 :: s8 :: s9 :: s10 :: s11 :: s12 :: s13 :: s14 :: s15 :: s16 :: s17 :: s18 :: s19 :: s20 :: s21 :: s22 :: s23 :: s24 :: s25 :: s26 :: s27 :: s28 :: o :: B) (.ref x :: st) H ce sl := go_astoreG (A := [s0, s1, s2, s3, s4, s5, s6, s7, s8, s9, s10, s11, s12, s13, s14, s15, s16, s17, s18, s19, s20, s21, s22, s23, s24, s25, s26, s27, s28]) rfl ho hd h
theorem go_lstore29 {s0 s1 s2 s3 s4 s5 s6 s7 s8 s9 s10 s11 s12 s13 s14 s15 s16 s17 s18 s19 s20 s21 s22 s23 s24 s25 s26 s27 s28 o o' : Slot} {B : List Slot} {x : Int64} (hd : Ins M pc (.lstore 29) 2 pc') (ho : (One o ∧ One o') ∨ ∃ y : Int64, o = .val (.long y) ∧ o' = .second) (h : Go Z a0 n0 M R Q pc' (s0 :: s1 :: s2 :: s3 :: s4 :: s5 :: s6 :: s7 :: s8 :: s9 :: s10 :: s11 :: s12 :: s13 :: s14 :: s15 :: s16 :: s17 :: s18 :: s19 :: s20 :: s21 :: s22 :: s23 :: s24 :: s25 :: s26 :: s27 :: s28 :: .val (.long x) :: .second :: B) st H ce sl) : Go Z a0 n0 M R Q pc (s0 :: s1 :: s2 :: s3 :: s4 :: s5 :: s6 :: s7 :: s8 :: s9 :: s10 :: s11 :: s12 :: s13 :: s14 :: s15 :: s16 :: s17 :: s18 :: s19 :: s20 :: s21 :: s22 :: s23 :: s24 :: s25 :: s26 :: s27 :: s28 :: o :: o' :: B) (.long x :: st) H ce sl := go_lstoreG (A := [s0, s1, s2, s3, s4, s5, s6, s7, s8, s9, s10, s11, s12, s13, s14, s15, s16, s17, s18, s19, s20, s21, s22, s23, s24, s25, s26, s27, s28]) rfl ho hd h
theorem go_iinc29 {s0 s1 s2 s3 s4 s5 s6 s7 s8 s9 s10 s11 s12 s13 s14 s15 s16 s17 s18 s19 s20 s21 s22 s23 s24 s25 s26 s27 s28 : Slot} {B : List Slot} {cst : Int} {x v : Int32} (hd : Ins M pc (.iinc 29 cst) 3 pc') (hv : x + Int32.ofInt cst = v) (h : Go Z a0 n0 M R Q pc' (s0 :: s1 :: s2 :: s3 :: s4 :: s5 :: s6 :: s7 :: s8 :: s9 :: s10 :: s11 :: s12 :: s13 :: s14 :: s15 :: s16 :: s17 :: s18 :: s19 :: s20 :: s21 :: s22 :: s23 :: s24 :: s25 :: s26 :: s27 :: s28 :: .val (.int v) :: B) st H ce sl) : Go Z a0 n0 M R Q pc (s0 :: s1 :: s2 :: s3 :: s4 :: s5 :: s6 :: s7 :: s8 :: s9 :: s10 :: s11 :: s12 :: s13 :: s14 :: s15 :: s16 :: s17 :: s18 :: s19 :: s20 :: s21 :: s22 :: s23 :: s24 :: s25 :: s26 :: s27 :: s28 :: .val (.int x) :: B) st H ce sl := go_iincG (A := [s0, s1, s2, s3, s4, s5, s6, s7, s8, s9, s10, s11, s12, s13, s14, s15, s16, s17, s18, s19, s20, s21, s22, s23, s24, s25, s26, s27, s28]) rfl hd hv h
end Rules
section Heap
variable {Z : State} {a0 : Array Value} {n0 : Nat} {M : GM} {R : Room} {Q : Option Value → List GObj → Prop} {pc pc' : Nat} {L : List Slot} {st : List Value} {H : List GObj} {ce sl : Nat}
theorem idx_of {j : Int32} {i : Nat} (h : j.toInt = (i : Int)) : ¬ j < 0 ∧ j.toNatClampNeg = i := by
  constructor
  · rw [Int32.lt_iff_toInt_lt]; simp only [Int32.reduceToInt]; omega
  · simp only [Int32.toNatClampNeg]; omega
theorem idx_in' {j : Int32} {i : Nat} {c : Cell} {vs : List Value} {v : Value} (h : j.toInt = (i : Int)) (hc : c.slots = vs.toArray) (hv : vs[i]? = some v) : ¬ (j < 0 ∨ c.slots.size ≤ j.toNatClampNeg) ∧ c.slots[j.toNatClampNeg]? = some v := by
  obtain ⟨h1, h2⟩ := idx_of h
  have := (List.getElem?_eq_some_iff.mp hv).1
  refine ⟨?_, by rw [h2, hc]; simpa using hv⟩
  rintro (q | q)
  · exact h1 q
  · rw [hc, h2] at q; simp at q; omega
theorem go_getfield {idx k : Nat} {K : GLay} {vs : List Value} {O n d : String} {ty : FieldType} {v : Value} (i : Nat) (hd : Ins M pc (.getfield idx) 3 pc') (w : (Jvm.Cond.fieldLink M.1.cls idx O n d).before a0 Z = true) (hH : H[k]? = some (.inl (K, vs))) (hK : K.2[i]? = some (O, n, d, ty)) (hv : vs[i]? = some v)
    (h : Go Z a0 n0 M R Q pc' L (v :: st) H ce sl) : Go Z a0 n0 M R Q pc L (.ref (n0 + k) :: st) H ce sl := by
  obtain ⟨hd, rfl⟩ := hd
  intro p l e s m args below meth c T locs X C S E F
  obtain ⟨hx, hZ, hby, hml, hret, hlk, hown, hnm⟩ := id C
  have F0 := (S.2.2.2 k _ hH).2.2 i _ _ hK hv
  obtain ⟨T', X', e', st'⟩ := getF X hx hZ hown (host := "") (Or.inl w) Via.refl rfl F0 (g := mkF m pc L.toArray (.ref (n0 + k) :: st)) rfl rfl (hb hby hd)
  exact (h p l e s m args below meth c T' locs X' C (by rw [e']; exact S) E F).back st'
theorem nodup_ne {K : GLay} (h : (K.2.map fun q => q.2.1).Nodup) {i j : Nat} {q q' : String × String × String × FieldType} (hi : K.2[i]? = some q) (hj : K.2[j]? = some q') (ne : i ≠ j) : q.2.1 ≠ q'.2.1 := fun e => by
  obtain ⟨h1, e1⟩ := List.getElem?_eq_some_iff.mp hi
  obtain ⟨h2, e2⟩ := List.getElem?_eq_some_iff.mp hj
  refine ne ((List.getElem_inj (xs := K.2.map fun q => q.2.1) (h₀ := by simpa using h1) (h₁ := by simpa using h2) h).mp ?_)
  simpa [e1, e2] using e
theorem go_putfield {idx k : Nat} {K : GLay} {vs : List Value} {O n d : String} {ty : FieldType} {v : Value} (i : Nat) (hd : Ins M pc (.putfield idx) 3 pc') (w : (Jvm.Cond.fieldLink M.1.cls idx O n d).before a0 Z = true) (hH : H[k]? = some (.inl (K, vs))) (hK : K.2[i]? = some (O, n, d, ty)) (hi : (vs[i]?).isSome = true)
    (hL : (Jvm.Cond.lays K.1 O n d).before a0 Z = true ∨ ((Jvm.Cond.laysFinal K.1 O n d).before a0 Z = true ∧ M.1.cls = O ∧ M.1.name = "<init>")) (hn : narrow ty v = v) (hf : fits ty v = true)
    (h : Go Z a0 n0 M R Q pc' L st (H.set k (.inl (K, vs.set i v))) ce sl) : Go Z a0 n0 M R Q pc L (v :: .ref (n0 + k) :: st) H ce sl := by
  obtain ⟨hd, rfl⟩ := hd
  intro p l e s m args below meth c T locs X C S E F
  obtain ⟨hx, hZ, hby, hml, hret, hlk, hown, hnm⟩ := id C
  obtain ⟨LO, EX, FS⟩ := S.2.2.2 k _ hH
  obtain ⟨old, hold⟩ := Option.isSome_iff_exists.mp hi
  have F0 := FS i _ _ hK hold
  obtain ⟨⟨kk, wi⟩, LA, ND⟩ := LO
  have hmem := List.mem_of_getElem? hK
  obtain ⟨T', h', X', e', W, st'⟩ := putF X hx hZ hown (host := "") (Or.inl w) Via.refl rfl F0 EX (hL.imp id fun q => ⟨q.1, q.2.1, hnm.trans q.2.2⟩) wi (LA _ hmem).2 hn hf (g := mkF m pc L.toArray (v :: .ref (n0 + k) :: st)) rfl rfl (hb hby hd)
  have OB : Ob Z a0 h' (n0 + k) (.inl (K, vs.set i v)) := by
    refine ⟨⟨⟨kk, wi⟩, LA, ND⟩, EX.wr W, fun j q u hq hu => ?_⟩
    by_cases ne : j = i
    · subst ne
      cases hK.symm.trans hq
      have : u = v := by
        have hlt := (List.getElem?_eq_some_iff.mp hold).1
        simpa [List.getElem?_set_self hlt] using hu.symm
      subst this
      exact F0.same W
    · rw [List.getElem?_set_ne (Ne.symm ne)] at hu
      exact (FS j q u hq hu).other W (Or.inr (slot_ne (LA _ (List.mem_of_getElem? hq)).1 (LA _ hmem).1 (nodup_ne ND hq hK ne) (LA _ (List.mem_of_getElem? hq)).2 (LA _ hmem).2))
  have S' : Sat Z a0 n0 T'.heap (H.set k (.inl (K, vs.set i v))) := by rw [e']; exact S.put W OB
  exact (h p l e s m args below meth c T' _ X' C S' (by simpa using E) (Fr.snoc X' F (Nat.le_add_right _ _))).back st'
theorem size_one {p : Program} {l : Launch} {e : Env} {s : State} {m : MethodId} {args : Array Value} {below : List Frame} {meth : Method} {c : Code} {T T' : State} {locs : List Loc} {h' : Heap} {sl' : Nat} (X' : Stand p l e R s m args below meth c T' locs (ce + 1) sl') (e' : T'.heap = h') (S : Sat Z a0 n0 T.heap H) (E : s.heap.size + ce = n0 + H.length) {cell : Cell} (hc : h'[T.heap.size]? = some cell) : h'.size = T.heap.size + 1 := by
  have h1 := X'.heapSize
  have h2 := (Array.getElem?_eq_some_iff.mp hc).1
  have h3 := S.2.2.1
  rw [e'] at h1
  omega
theorem go_new {idx n : Nat} (K : GLay) {vs : List Value} (hd : Ins M pc (.new idx) 3 pc') (w : (Jvm.Cond.classLink M.1.cls idx K.1).before a0 Z = true) (wi : (Jvm.Cond.instantiable K.1 n).before a0 Z = true) (wz : (Jvm.Cond.initialized K.1).before a0 Z = true) (hK : LayOk Z a0 K) (hvs : K.2.map (fun q => defaultValue q.2.2.2) = vs) {k : Nat} (hk : H.length = k) (hc : ce + 1 ≤ R.cells) (hs : sl + n ≤ R.slots)
    (h : Go Z a0 n0 M R Q pc' L (.ref (n0 + k) :: st) (H ++ [.inl (K, vs)]) (ce + 1) (sl + n)) : Go Z a0 n0 M R Q pc L st H ce sl := by
  obtain ⟨hd, rfl⟩ := hd
  subst hk
  intro p l e s m args below meth c T locs X C S E F
  obtain ⟨hx, hZ, hby, hml, hret, hlk, hown, hnm⟩ := id C
  obtain ⟨T', h', X', e', EX, A, D, ⟨cell, hcell, -⟩, st'⟩ := newO X hx hZ hown w wi wz rfl (g := mkF m pc L.toArray st) rfl (hb hby hd) hc hs
  have hsz := size_one X' e' S E hcell
  have OB : Ob Z a0 h' T.heap.size (.inl (K, vs)) := by
    refine ⟨hK, A, fun i q v hq hv => ?_⟩
    subst hvs
    rw [List.getElem?_map, hq] at hv
    cases hv
    obtain ⟨h1, h2⟩ := hK.2.1 q (List.mem_of_getElem? hq)
    exact D h1 h2
  have S' : Sat Z a0 n0 T'.heap (H ++ [.inl (K, vs)]) := by rw [e']; exact S.push EX hsz OB
  refine (h p l e s m args below meth c T' _ X' C S' (by simp; omega) F).back ?_
  rw [← S.2.2.1]; exact st'
theorem go_newarray {aty : ArrayType} {ty : FieldType} {n : Int32} {vs : List Value} (cap : Nat) (hd : Ins M pc (.newarray aty) 2 pc') (hty : newarray.typeOf aty = ty) (w : (Jvm.Cond.arrayClass ty).before a0 Z = true) (hn : ¬ n < 0) (hvs : List.replicate n.toNatClampNeg (defaultValue ty) = vs) (hcap : n.toNatClampNeg ≤ cap) (hbb : cap * 8 ≤ 536870912) {k : Nat} (hk : H.length = k) (hc : ce + 1 ≤ R.cells) (hs : sl + cap ≤ R.slots)
    (h : Go Z a0 n0 M R Q pc' L (.ref (n0 + k) :: st) (H ++ [.inr (ty, vs)]) (ce + 1) (sl + cap)) : Go Z a0 n0 M R Q pc L (.int n :: st) H ce sl := by
  obtain ⟨hd, rfl⟩ := hd
  subst hk hty hvs
  intro p l e s m args below meth c T locs X C S E F
  obtain ⟨hx, hZ, hby, hml, hret, hlk, hown, hnm⟩ := id C
  obtain ⟨T', h', cA, X', e', EX, A, EA, st'⟩ := newPE X hx hZ w rfl (g := mkF m pc L.toArray (.int n :: st)) rfl (hb hby hd) rfl hn hcap hbb hc hs rfl
  have hsz := size_one X' e' S E A.1
  have OB : Ob Z a0 h' T.heap.size (.inr (newarray.typeOf aty, List.replicate n.toNatClampNeg (defaultValue (newarray.typeOf aty)))) := by
    refine ⟨_, A, by simp [newA], fun v hv => ?_, EA, fun C hC => ?_⟩
    · obtain rfl := (List.mem_replicate.mp hv).2
      cases aty <;> rfl
    · cases aty <;> cases hC
  have S' := S.push EX hsz OB
  rw [← e'] at S'
  refine (h p l e s m args below meth c T' _ X' C S' (by simp; omega) F).back ?_
  rw [← S.2.2.1]; exact st'
theorem go_anewarray {idx : Nat} {Cn : String} {n : Int32} {vs : List Value} (cap : Nat) (hd : Ins M pc (.anewarray idx) 3 pc') (w1 : (Jvm.Cond.classLink M.1.cls idx Cn).before a0 Z = true) (w : (Jvm.Cond.arrayOver (.object Cn)).before a0 Z = true) (hn : ¬ n < 0) (hvs : List.replicate n.toNatClampNeg Value.null = vs) (hcap : n.toNatClampNeg ≤ cap) (hbb : cap * 8 ≤ 536870912) {k : Nat} (hk : H.length = k) (hc : ce + 1 ≤ R.cells) (hs : sl + cap ≤ R.slots)
    (h : Go Z a0 n0 M R Q pc' L (.ref (n0 + k) :: st) (H ++ [.inr (.object Cn, vs)]) (ce + 1) (sl + cap)) : Go Z a0 n0 M R Q pc L (.int n :: st) H ce sl := by
  obtain ⟨hd, rfl⟩ := hd
  subst hk hvs
  intro p l e s m args below meth c T locs X C S E F
  obtain ⟨hx, hZ, hby, hml, hret, hlk, hown, hnm⟩ := id C
  obtain ⟨T', h', cA, X', e', EX, A, EA, OV, st'⟩ := newRE X hx hZ hown w1 w rfl (g := mkF m pc L.toArray (.int n :: st)) rfl (hb hby hd) rfl hn hcap hbb hc hs rfl
  have hsz := size_one X' e' S E A.1
  have OB : Ob Z a0 h' T.heap.size (.inr (.object Cn, List.replicate n.toNatClampNeg Value.null)) := by
    refine ⟨_, A, by simp [newA, defaultValue], fun v hv => ?_, EA, fun C hC => ?_⟩
    · obtain rfl := (List.mem_replicate.mp hv).2
      rfl
    · cases hC; exact OV
  have S' := S.push EX hsz OB
  rw [← e'] at S'
  refine (h p l e s m args below meth c T' _ X' C S' (by simp; omega) F).back ?_
  rw [← S.2.2.1]; exact st'
theorem go_arraylength {k : Nat} {ty : FieldType} {vs : List Value} {n : Int32} (hd : Ins M pc .arraylength 1 pc') (hH : H[k]? = some (.inr (ty, vs))) (hn : vs.length.toInt32 = n) (h : Go Z a0 n0 M R Q pc' L (.int n :: st) H ce sl) : Go Z a0 n0 M R Q pc L (.ref (n0 + k) :: st) H ce sl := by
  obtain ⟨hd, rfl⟩ := hd
  intro p l e s m args below meth c T locs X C S E F
  obtain ⟨hx, hZ, hby, hml, hret, hlk, hown, hnm⟩ := id C
  obtain ⟨cl, A, hs, -⟩ := S.2.2.2 k _ hH
  have hlen : cl.slots.size.toInt32 = n := by rw [hs]; simpa using hn
  refine (h p l e s m args below meth c T _ X C S E F).back fun t k' => ?_
  exact X.arraylength hx A.1 (State.isArrayOf_alike hZ.alike A.2.1) (g := mkF m pc L.toArray (.ref (n0 + k) :: st)) rfl rfl (hb hby hd) t (by rw [hlen]; exact k')
theorem go_iaload {k i : Nat} {j x : Int32} {vs : List Value} (hd : Ins M pc .iaload 1 pc') (hH : H[k]? = some (.inr (.int, vs))) (hj : j.toInt = (i : Int)) (hv : vs[i]? = some (.int x)) (h : Go Z a0 n0 M R Q pc' L (.int x :: st) H ce sl) : Go Z a0 n0 M R Q pc L (.int j :: .ref (n0 + k) :: st) H ce sl := by
  obtain ⟨hd, rfl⟩ := hd
  intro p l e s m args below meth c T locs X C S E F
  obtain ⟨hx, hZ, hby, hml, hret, hlk, hown, hnm⟩ := id C
  obtain ⟨cl, A, hs, -⟩ := S.2.2.2 k _ hH
  obtain ⟨g1, g2⟩ := idx_in' hj hs hv
  refine (h p l e s m args below meth c T _ X C S E F).back fun t k' => ?_
  exact X.iaload hx A.1 (State.isArrayOf_alike hZ.alike A.2.1) A.2.2 g1 g2 (g := mkF m pc L.toArray (.int j :: .ref (n0 + k) :: st)) rfl rfl (hb hby hd) t k'
theorem go_laload {k i : Nat} {j : Int32} {x : Int64} {vs : List Value} (hd : Ins M pc .laload 1 pc') (hH : H[k]? = some (.inr (.long, vs))) (hj : j.toInt = (i : Int)) (hv : vs[i]? = some (.long x)) (h : Go Z a0 n0 M R Q pc' L (.long x :: st) H ce sl) : Go Z a0 n0 M R Q pc L (.int j :: .ref (n0 + k) :: st) H ce sl := by
  obtain ⟨hd, rfl⟩ := hd
  intro p l e s m args below meth c T locs X C S E F
  obtain ⟨hx, hZ, hby, hml, hret, hlk, hown, hnm⟩ := id C
  obtain ⟨cl, A, hs, -⟩ := S.2.2.2 k _ hH
  obtain ⟨g1, g2⟩ := idx_in' hj hs hv
  refine (h p l e s m args below meth c T _ X C S E F).back fun t k' => ?_
  exact X.laload hx A.1 (State.isArrayOf_alike hZ.alike A.2.1) A.2.2 g1 g2 (g := mkF m pc L.toArray (.int j :: .ref (n0 + k) :: st)) rfl rfl (hb hby hd) t k'
theorem go_baload {k i : Nat} {j x : Int32} {vs : List Value} (hd : Ins M pc .baload 1 pc') (hH : H[k]? = some (.inr (.byte, vs))) (hj : j.toInt = (i : Int)) (hv : vs[i]? = some (.int x)) (h : Go Z a0 n0 M R Q pc' L (.int x :: st) H ce sl) : Go Z a0 n0 M R Q pc L (.int j :: .ref (n0 + k) :: st) H ce sl := by
  obtain ⟨hd, rfl⟩ := hd
  intro p l e s m args below meth c T locs X C S E F
  obtain ⟨hx, hZ, hby, hml, hret, hlk, hown, hnm⟩ := id C
  obtain ⟨cl, A, hs, -⟩ := S.2.2.2 k _ hH
  obtain ⟨g1, g2⟩ := idx_in' hj hs hv
  refine (h p l e s m args below meth c T _ X C S E F).back fun t k' => ?_
  exact X.baloadBytes hx A.1 (State.isArrayOf_alike hZ.alike A.2.1) A.2.2 g1 g2 (g := mkF m pc L.toArray (.int j :: .ref (n0 + k) :: st)) rfl rfl (hb hby hd) t k'
theorem go_aaload {k i : Nat} {j : Int32} {x : Value} {ty : FieldType} {vs : List Value} (hd : Ins M pc .aaload 1 pc') (hH : H[k]? = some (.inr (ty, vs))) (hty : ty.isReference = true) (hj : j.toInt = (i : Int)) (hv : vs[i]? = some x) (h : Go Z a0 n0 M R Q pc' L (x :: st) H ce sl) : Go Z a0 n0 M R Q pc L (.int j :: .ref (n0 + k) :: st) H ce sl := by
  obtain ⟨hd, rfl⟩ := hd
  intro p l e s m args below meth c T locs X C S E F
  obtain ⟨hx, hZ, hby, hml, hret, hlk, hown, hnm⟩ := id C
  obtain ⟨cl, A, hs, -⟩ := S.2.2.2 k _ hH
  obtain ⟨g1, g2⟩ := idx_in' hj hs hv
  refine (h p l e s m args below meth c T _ X C S E F).back fun t k' => ?_
  exact X.aaload hx A.1 (State.isArrayOf_alike hZ.alike A.2.1) hty A.2.2 g1 g2 (g := mkF m pc L.toArray (.int j :: .ref (n0 + k) :: st)) rfl rfl (hb hby hd) t k'
theorem ob_set {h h' : Heap} {a : Addr} {c : Cell} {ty : FieldType} {vs : List Value} {v : Value} {i : Nat} (A : Arr Z h a c ty) (hs : c.slots = vs.toArray) (hf : ∀ v ∈ vs, fits ty v = true) (EA : Exa Z h a ("[" ++ ty.toString)) (OV : ∀ C, ty = .object C → Ovr Z c.cls C) (W : Wr h h' a i v) (hv : fits ty v = true) : Ob Z a0 h' a (.inr (ty, vs.set i v)) :=
  ⟨c.setSlot i v, A.same W, by simp [Cell.setSlot, hs], fun u hu => (List.mem_or_eq_of_mem_set hu).elim (hf u) (fun q => q ▸ hv), EA.wr W, OV⟩
theorem go_iastore {k i : Nat} {j x : Int32} {vs : List Value} (hd : Ins M pc .iastore 1 pc') (hH : H[k]? = some (.inr (.int, vs))) (hj : j.toInt = (i : Int)) (hi : (vs[i]?).isSome = true) (h : Go Z a0 n0 M R Q pc' L st (H.set k (.inr (.int, vs.set i (.int x)))) ce sl) : Go Z a0 n0 M R Q pc L (.int x :: .int j :: .ref (n0 + k) :: st) H ce sl := by
  obtain ⟨hd, rfl⟩ := hd
  intro p l e s m args below meth c T locs X C S E F
  obtain ⟨hx, hZ, hby, hml, hret, hlk, hown, hnm⟩ := id C
  obtain ⟨cl, A, hs, hf, EA, OV⟩ := S.2.2.2 k _ hH
  obtain ⟨old, hold⟩ := Option.isSome_iff_exists.mp hi
  obtain ⟨g1, -⟩ := idx_in' hj hs hold
  obtain ⟨T', h', X', e', W, st'⟩ := stI X hx hZ rfl A g1 (x := x) (g := mkF m pc L.toArray (.int x :: .int j :: .ref (n0 + k) :: st)) rfl rfl (hb hby hd)
  rw [(idx_of hj).2] at W
  have S' := S.put W (ob_set (a0 := a0) A hs hf EA OV W rfl)
  rw [← e'] at S'
  exact (h p l e s m args below meth c T' _ X' C S' (by simpa using E) (Fr.snoc X' F (Nat.le_add_right _ _))).back st'
theorem go_lastore {k i : Nat} {j : Int32} {x : Int64} {vs : List Value} (hd : Ins M pc .lastore 1 pc') (hH : H[k]? = some (.inr (.long, vs))) (hj : j.toInt = (i : Int)) (hi : (vs[i]?).isSome = true) (h : Go Z a0 n0 M R Q pc' L st (H.set k (.inr (.long, vs.set i (.long x)))) ce sl) : Go Z a0 n0 M R Q pc L (.long x :: .int j :: .ref (n0 + k) :: st) H ce sl := by
  obtain ⟨hd, rfl⟩ := hd
  intro p l e s m args below meth c T locs X C S E F
  obtain ⟨hx, hZ, hby, hml, hret, hlk, hown, hnm⟩ := id C
  obtain ⟨cl, A, hs, hf, EA, OV⟩ := S.2.2.2 k _ hH
  obtain ⟨old, hold⟩ := Option.isSome_iff_exists.mp hi
  obtain ⟨g1, -⟩ := idx_in' hj hs hold
  obtain ⟨T', h', X', e', W, st'⟩ := stJ X hx hZ rfl A g1 (x := x) (g := mkF m pc L.toArray (.long x :: .int j :: .ref (n0 + k) :: st)) rfl rfl (hb hby hd)
  rw [(idx_of hj).2] at W
  have S' := S.put W (ob_set (a0 := a0) A hs hf EA OV W rfl)
  rw [← e'] at S'
  exact (h p l e s m args below meth c T' _ X' C S' (by simpa using E) (Fr.snoc X' F (Nat.le_add_right _ _))).back st'
theorem go_bastore {k i : Nat} {j x : Int32} {vs : List Value} (hd : Ins M pc .bastore 1 pc') (hH : H[k]? = some (.inr (.byte, vs))) (hj : j.toInt = (i : Int)) (hi : (vs[i]?).isSome = true) (h : Go Z a0 n0 M R Q pc' L st (H.set k (.inr (.byte, vs.set i (.int x.toInt8.toInt32)))) ce sl) : Go Z a0 n0 M R Q pc L (.int x :: .int j :: .ref (n0 + k) :: st) H ce sl := by
  obtain ⟨hd, rfl⟩ := hd
  intro p l e s m args below meth c T locs X C S E F
  obtain ⟨hx, hZ, hby, hml, hret, hlk, hown, hnm⟩ := id C
  obtain ⟨cl, A, hs, hf, EA, OV⟩ := S.2.2.2 k _ hH
  obtain ⟨old, hold⟩ := Option.isSome_iff_exists.mp hi
  obtain ⟨g1, -⟩ := idx_in' hj hs hold
  obtain ⟨T', h', X', e', W, st'⟩ := stB X hx hZ rfl A g1 (x := x) (g := mkF m pc L.toArray (.int x :: .int j :: .ref (n0 + k) :: st)) rfl rfl (hb hby hd)
  rw [(idx_of hj).2] at W
  have S' := S.put W (ob_set (a0 := a0) A hs hf EA OV W (fits_nar_byte x))
  rw [← e'] at S'
  exact (h p l e s m args below meth c T' _ X' C S' (by simpa using E) (Fr.snoc X' F (Nat.le_add_right _ _))).back st'
theorem go_aastore {k k' i : Nat} {j : Int32} {Cn : String} {vs us : List Value} {K : GLay} (hd : Ins M pc .aastore 1 pc') (hH : H[k]? = some (.inr (.object Cn, vs))) (hH' : H[k']? = some (.inl (K, us))) (hC : K.1 = Cn) (hj : j.toInt = (i : Int)) (hi : (vs[i]?).isSome = true) (h : Go Z a0 n0 M R Q pc' L st (H.set k (.inr (.object Cn, vs.set i (.ref (n0 + k'))))) ce sl) : Go Z a0 n0 M R Q pc L (.ref (n0 + k') :: .int j :: .ref (n0 + k) :: st) H ce sl := by
  obtain ⟨hd, rfl⟩ := hd
  subst hC
  intro p l e s m args below meth c T locs X C S E F
  obtain ⟨hx, hZ, hby, hml, hret, hlk, hown, hnm⟩ := id C
  obtain ⟨cl, A, hs, hf, EA, OV⟩ := S.2.2.2 k _ hH
  obtain ⟨-, EX, -⟩ := S.2.2.2 k' _ hH'
  obtain ⟨old, hold⟩ := Option.isSome_iff_exists.mp hi
  obtain ⟨g1, -⟩ := idx_in' hj hs hold
  obtain ⟨T', h', X', e', W, st'⟩ := stR X hx hZ rfl A g1 rfl (Sto.of A (OV _ rfl) (Ins.self EX)) (g := mkF m pc L.toArray (.ref (n0 + k') :: .int j :: .ref (n0 + k) :: st)) rfl rfl (hb hby hd)
  rw [(idx_of hj).2] at W
  have S' := S.put W (ob_set (a0 := a0) A hs hf EA OV W rfl)
  rw [← e'] at S'
  exact (h p l e s m args below meth c T' _ X' C S' (by simpa using E) (Fr.snoc X' F (Nat.le_add_right _ _))).back st'
theorem go_ldc {idx : Nat} {v : Int32} (hd : Ins M pc (.ldc idx) 2 pc') (w : (Jvm.Cond.constant M.1.cls idx v).before a0 Z = true) (h : Go Z a0 n0 M R Q pc' L (.int v :: st) H ce sl) : Go Z a0 n0 M R Q pc L st H ce sl := by
  obtain ⟨hd, rfl⟩ := hd
  intro p l e s m args below meth c T locs X C S E F
  obtain ⟨hx, hZ, hby, hml, hret, hlk, hown, hnm⟩ := id C
  exact (h p l e s m args below meth c T _ X C S E F).back (X.ldcInt hx hown (mvT hZ w) (g := mkF m pc L.toArray st) rfl (hb hby hd))
theorem go_ldc2 {idx : Nat} {v : Int64} (hd : Ins M pc (.ldc2_w idx) 3 pc') (w : (Jvm.Cond.constantLong M.1.cls idx v).before a0 Z = true) (h : Go Z a0 n0 M R Q pc' L (.long v :: st) H ce sl) : Go Z a0 n0 M R Q pc L st H ce sl := by
  obtain ⟨hd, rfl⟩ := hd
  intro p l e s m args below meth c T locs X C S E F
  obtain ⟨hx, hZ, hby, hml, hret, hlk, hown, hnm⟩ := id C
  exact (h p l e s m args below meth c T _ X C S E F).back (X.ldc2Long hx hown (mvT hZ w) (g := mkF m pc L.toArray st) rfl (hb hby hd))
theorem go_getstatic {idx : Nat} {O n d : String} {v : Value} (hd : Ins M pc (.getstatic idx) 3 pc') (w : (Jvm.Cond.fieldLink M.1.cls idx O n d).before a0 Z = true) (hS : Sta Z Z.heap O n d v) (h : Go Z a0 n0 M R Q pc' L (v :: st) H ce sl) : Go Z a0 n0 M R Q pc L st H ce sl := by
  obtain ⟨hd, rfl⟩ := hd
  intro p l e s m args below meth c T locs X C S E F
  obtain ⟨hx, hZ, hby, hml, hret, hlk, hown, hnm⟩ := id C
  obtain ⟨T', X', e', st'⟩ := getS X hx hZ (host := "") hown w Via.refl rfl (hS.ext S.2.1) (g := mkF m pc L.toArray st) rfl (hb hby hd)
  exact (h p l e s m args below meth c T' _ X' C (by rw [e']; exact S) E F).back st'
theorem go_checkcastArr {idx k : Nat} {Kn : String} {ty : FieldType} {vs : List Value} (hd : Ins M pc (.checkcast idx) 3 pc') (w : (Jvm.Cond.classLink M.1.cls idx Kn).before a0 Z = true) (hH : H[k]? = some (.inr (ty, vs))) (hK : "[" ++ ty.toString = Kn) (h : Go Z a0 n0 M R Q pc' L (.ref (n0 + k) :: st) H ce sl) : Go Z a0 n0 M R Q pc L (.ref (n0 + k) :: st) H ce sl := by
  obtain ⟨hd, rfl⟩ := hd
  subst hK
  intro p l e s m args below meth c T locs X C S E F
  obtain ⟨hx, hZ, hby, hml, hret, hlk, hown, hnm⟩ := id C
  obtain ⟨cl, A, hs, hf, EA, OV⟩ := S.2.2.2 k _ hH
  obtain ⟨T', X', e', st'⟩ := castY X hx hZ hown w rfl (Ins.self EA) (g := mkF m pc L.toArray (.ref (n0 + k) :: st)) rfl rfl (hb hby hd)
  exact (h p l e s m args below meth c T' _ X' C (by rw [e']; exact S) E F).back st'
theorem go_initO {idx : Nat} {a : Addr} (hd : Ins M pc (.invokespecial idx) 3 pc') (w1 : (Jvm.Cond.methodLink M.1.cls idx Lib.objectInit).before a0 Z = true) (w2 : (Jvm.Cond.instanceMethod Lib.objectInit).before a0 Z = true) (w3 : (Jvm.Cond.code Lib.objectInit object_method_1_code 1 none).before a0 Z = true) (hL : L.length = M.2.2.1) (hf : 1 ≤ R.frames) (hl : (st.map fun v => v.category).sum + 12 ≤ R.locals)
    (h : Go Z a0 n0 M R Q pc' L st H ce sl) : Go Z a0 n0 M R Q pc L (.ref a :: st) H ce sl := by
  obtain ⟨hd, rfl⟩ := hd
  intro p l e s m args below meth c T locs X C S E F
  obtain ⟨hx, hZ, hby, hml, hret, hlk, hown, hnm⟩ := id C
  obtain ⟨T', X', e', st'⟩ := initO X hx hZ hown w1 w2 w3 rfl (g := mkF m pc L.toArray (.ref a :: st)) rfl (by simpa [hml] using hL) rfl (hb hby hd) hf (W := (st.map fun v => v.category).sum) (by simp) hl
  exact (h p l e s m args below meth c T' _ X' C (by rw [e']; exact S) E F).back st'
theorem fin_of {p : Program} {l : Launch} {e : Env} {s : State} {m : MethodId} {args : Array Value} {below : List Frame} {meth : Method} {c : Code} {T : State} {locs : List Loc} {v : Option Value} {S0 : State} (X : Stand p l e R s m args below meth c T locs ce sl) (hlk : meth.locks = false) (hv : meth.sig.returnType = none → v = none) (S : Sat Z a0 n0 T.heap H) (F : Fr n0 locs) (hc : ce ≤ R.cells) (hs : sl ≤ R.slots) (hQ : Q v H)
    (st : ∀ fs, (∀ (f : JFrame) (acts : List Action), f.method = m → f.locked = none → f.entered = [] → (doReturn e (T.setTop f) acts v).1 = T.setFrames fs) → Steps p.tables e below S0 (T.setFrames fs)) : End Z a0 n0 R Q p e s below S0 := by
  obtain ⟨fs, hr, hrun, hended, hW, hsame⟩ := X.leave (v := v) hv hlk
  exact ⟨_, _, st fs hr, hrun, hended, v, locs, rfl, ⟨H, hQ, S, F⟩, ⟨v, rfl⟩, hW, hsame.mono hc hs⟩
theorem go_ireturn {x : Int32} {t : FieldType} (hd : Ins M pc .ireturn 1 pc') (hr : M.2.2.2 = some t) (hn : narrow t (.int x) = .int x) (ht : t = .int ∨ t = .boolean ∨ t = .byte ∨ t = .char ∨ t = .short) (hc : ce ≤ R.cells) (hs : sl ≤ R.slots) (hQ : Q (some (.int x)) H) : Go Z a0 n0 M R Q pc L (.int x :: st) H ce sl := by
  obtain ⟨hd, rfl⟩ := hd
  intro p l e s m args below meth c T locs X C S E F
  obtain ⟨hx, hZ, hby, hml, hret, hlk, hown, hnm⟩ := id C
  exact fin_of X hlk (fun q => by rw [hret, hr] at q; cases q) S F hc hs hQ fun fs hl => retOut X hx (hret.trans hr) hn (Or.inl ⟨rfl, ht, x, rfl⟩) (hb hby hd) hl
theorem go_lreturn {x : Int64} (hd : Ins M pc .lreturn 1 pc') (hr : M.2.2.2 = some .long) (hc : ce ≤ R.cells) (hs : sl ≤ R.slots) (hQ : Q (some (.long x)) H) : Go Z a0 n0 M R Q pc L (.long x :: st) H ce sl := by
  obtain ⟨hd, rfl⟩ := hd
  intro p l e s m args below meth c T locs X C S E F
  obtain ⟨hx, hZ, hby, hml, hret, hlk, hown, hnm⟩ := id C
  exact fin_of X hlk (fun q => by rw [hret, hr] at q; cases q) S F hc hs hQ fun fs hl => retOut X hx (hret.trans hr) rfl (Or.inr (Or.inl ⟨rfl, rfl, x, rfl⟩)) (hb hby hd) hl
theorem go_areturn {w : Value} {t : FieldType} (hd : Ins M pc .areturn 1 pc') (hr : M.2.2.2 = some t) (ht : t.isReference = true) (hw : w.isRef = true) (hn : narrow t w = w) (hc : ce ≤ R.cells) (hs : sl ≤ R.slots) (hQ : Q (some w) H) : Go Z a0 n0 M R Q pc L (w :: st) H ce sl := by
  obtain ⟨hd, rfl⟩ := hd
  intro p l e s m args below meth c T locs X C S E F
  obtain ⟨hx, hZ, hby, hml, hret, hlk, hown, hnm⟩ := id C
  exact fin_of X hlk (fun q => by rw [hret, hr] at q; cases q) S F hc hs hQ fun fs hl => retOut X hx (hret.trans hr) hn (Or.inr (Or.inr (Or.inr (Or.inr ⟨rfl, ht, hw⟩)))) (hb hby hd) hl
theorem go_return (hd : Ins M pc .return_ 1 pc') (hr : M.2.2.2 = none) (hc : ce ≤ R.cells) (hs : sl ≤ R.slots) (hQ : Q none H) : Go Z a0 n0 M R Q pc L [] H ce sl := by
  obtain ⟨hd, rfl⟩ := hd
  intro p l e s m args below meth c T locs X C S E F
  obtain ⟨hx, hZ, hby, hml, hret, hlk, hown, hnm⟩ := id C
  exact fin_of X hlk (fun q => rfl) S F hc hs hQ fun fs hl => X.returnOut hx (hret.trans hr) (hb hby hd) hl
end Heap
section More
variable {Z : State} {a0 : Array Value} {n0 : Nat} {M : GM} {R : Room} {Q : Option Value → List GObj → Prop} {pc pc' : Nat} {L : List Slot} {st : List Value} {H : List GObj} {ce sl : Nat}
theorem go_clone {idx k : Nat} {ad : String} {ty : FieldType} {vs : List Value} (cap : Nat) (hd : Ins M pc (.invokevirtual idx) 3 pc') (w1 : (Jvm.Cond.methodLink M.1.cls idx ⟨ad, "clone", "()Ljava/lang/Object;"⟩).before a0 Z = true) (w2 : (Jvm.Cond.sameMethod ad "java/lang/Object" "clone" "()Ljava/lang/Object;").before a0 Z = true) (w3 : (Jvm.Cond.native ⟨"java/lang/Object", "clone", "()Ljava/lang/Object;"⟩).before a0 Z = true)
    (w4 : (Jvm.Cond.instanceMethod ⟨"java/lang/Object", "clone", "()Ljava/lang/Object;"⟩).before a0 Z = true) (w5 : (Jvm.Cond.selects ad ⟨ad, "clone", "()Ljava/lang/Object;"⟩ ⟨"java/lang/Object", "clone", "()Ljava/lang/Object;"⟩).before a0 Z = true) (w6 : (Jvm.Cond.castable ad "java/lang/Cloneable").before a0 Z = true)
    (hH : H[k]? = some (.inr (ty, vs))) (had : "[" ++ ty.toString = ad) (hL : L.length = M.2.2.1) (hf : 1 ≤ R.frames) (hl : (st.map fun v => v.category).sum + 14 ≤ R.locals) (hcap : vs.length ≤ cap) {k' : Nat} (hk : H.length = k') (hc : ce + 1 ≤ R.cells) (hs : sl + cap ≤ R.slots)
    (h : Go Z a0 n0 M R Q pc' L (.ref (n0 + k') :: st) (H ++ [.inr (ty, vs)]) (ce + 1) (sl + cap)) : Go Z a0 n0 M R Q pc L (.ref (n0 + k) :: st) H ce sl := by
  obtain ⟨hd, rfl⟩ := hd
  subst hk had
  intro p l e s m args below meth c T locs X C S E F
  obtain ⟨hx, hZ, hby, hml, hret, hlk, hown, hnm⟩ := id C
  obtain ⟨cl, A, hsl, hfit, EA, OV⟩ := S.2.2.2 k _ hH
  have FC : FitC Z cl := fitC_of A fun i hi v hv => by
    rw [hsl] at hv
    exact hfit v (List.mem_of_getElem? (by simpa using hv))
  obtain ⟨T', h', X', e', EX, A', EA', st'⟩ := cloneA X hx hZ hown w1 w2 w3 w4 w5 w6 rfl A EA FC (g := mkF m pc L.toArray (.ref (n0 + k) :: st)) rfl (by simpa [hml] using hL) rfl (hb hby hd) hf (W := (st.map fun v => v.category).sum) (by simp) hl (cap := cap) (by rw [hsl]; simpa using hcap) hc hs
  have hsz := size_one X' e' S E A'.1
  have S' := S.push EX hsz (show Ob Z a0 h' T.heap.size (.inr (ty, vs)) from ⟨_, A', hsl, hfit, EA', OV⟩)
  rw [← e'] at S'
  refine (h p l e s m args below meth c T' _ X' C S' (by simp; omega) F).back ?_
  rw [← S.2.2.1]; exact st'
theorem go_dconst1 (hd : Ins M pc (.dconst 1) 1 pc') (h : Go Z a0 n0 M R Q pc' L (.double FP.dconst1 :: st) H ce sl) : Go Z a0 n0 M R Q pc L st H ce sl := by
  obtain ⟨hd, rfl⟩ := hd
  refine go_pure (fun p e m below c T t hA hx hy k => ?_) h
  have hd' := hb hy hd
  jvm_step hA [hA.top, hx, hd', dconst.wp_sem]
  exact k
theorem go_dloadN {k : Fin 4} {v : UInt64} (hd : Ins M pc (.dload_n k) 1 pc') (hl : L[k.val]? = some (.val (.double v))) (h : Go Z a0 n0 M R Q pc' L (.double v :: st) H ce sl) : Go Z a0 n0 M R Q pc L st H ce sl := by
  obtain ⟨hd, rfl⟩ := hd
  refine go_pure (fun p e m below c T t hA hx hy k' => ?_) h
  have hd' := hb hy hd
  have hl' : L.toArray[k.val]? = some (.val (.double v)) := by simpa using hl
  jvm_step hA [hA.top, hx, hd', hl']
  exact k'
end More
section Calls
variable {Z : State} {a0 : Array Value} {n0 : Nat} {M : GM} {R : Room} {Q : Option Value → List GObj → Prop} {pc pc' : Nat} {L : List Slot} {st : List Value} {H : List GObj} {ce sl : Nat}
/-- the contract of a body: from these arguments and these objects it comes back, and what it leaves meets Q -/
def MetW (Z : State) (a0 : Array Value) (n0 : Nat) (M : GM) (ws : List Jvm.Cond) (R : Room) (as : List Value) (H : List GObj) (Q : Option Value → List GObj → Prop) : Prop :=
  ∀ (l : Launch) (h : Heap), Sat Z a0 n0 h H → MetFree l M.1 (head1 (Jvm.Cond.code M.1 M.2.1 M.2.2.1 M.2.2.2 :: ws) R) (fun a U => a = as.toArray ∧ Z.Warmed39 U.vm ∧ U.heap = h) (fun _ _ _ _ _ => True)
    (fun _ U o U' => ∃ v L, o = .returned v ∧ (∃ H', Q v H' ∧ Sat Z a0 n0 U'.heap H' ∧ Fr n0 L) ∧ FrameEnd U o U' L R.cells R.slots)
def locsF (as : List Value) : List Slot := as.flatMap fun v => if v.category = 2 then [.val v, .second] else [.val v]
def locsOf (as : List Value) (n : Nat) : List Slot := locsF as ++ List.replicate (n - (locsF as).length) .unset
theorem args_eq (as : List Value) (n : Nat) : argsToLocals as.toArray n = (locsOf as n).toArray := by
  have h : ∀ (as : List Value) (acc : Array Slot), as.foldl (fun acc v => if v.category = 2 then (acc.push (.val v)).push .second else acc.push (.val v)) acc = acc ++ (locsF as).toArray := by
    intro as
    induction as with
    | nil => intro acc; simp [locsF]
    | cons v t ih =>
      intro acc
      rw [List.foldl_cons, ih]
      by_cases c : v.category = 2 <;> simp [locsF, c]
  have h' := h as #[]
  unfold argsToLocals
  simp only [List.foldl_toArray', List.size_toArray]
  rw [h']
  simp [locsOf]
theorem MetW.intro {ws : List Jvm.Cond} {as : List Value} (L : List Slot) (hp : plainFor M.1 = true) (he : locsOf as M.2.2.1 = L) (h : Go Z a0 n0 M R Q 0 L [] H 0 0) : MetW Z a0 n0 M ws R as H Q := by
  intro l h0 S
  refine MetFree.of_bodySF hp hisR ?_
  intro p e s m args below meth c s₁ Bd hml0 hP hK
  obtain ⟨rfl, hZ, hh⟩ := hP
  have X0 : Stand p l e R s m as.toArray below meth c s₁ [] 0 0 := Stand.of_body Bd
  have e0 : s₁.heap = h0 := by rw [← hh, Bd.state]; rfl
  have hown := findClass_of_methodNamed Bd.named
  have hnm := (name_of_methodNamed Bd.named Bd.method).1
  obtain ⟨s₂, o, h1, h2, h3, v, L', h4, h5, h6⟩ := h p l e s m _ below meth c s₁ [] X0 ⟨Bd.exec, hZ, Bd.bytes, hml0, Bd.returns, Bd.notSynchronized, hown, hnm⟩ (by rw [e0]; exact S) (by rw [hh]; exact S.2.2.1) (Fr.nil _)
  have ef : entryFrame m as.toArray M.2.2.1 = mkF m 0 L.toArray [] := by simp only [entryFrame, mkF, args_eq, he]
  exact ⟨s₂, o, castTop ef h1, h2, h3, v, L', h4, h5, h6⟩
abbrev Met (Z : State) (a0 : Array Value) (n0 : Nat) (y : GM) (fr lo k j : Nat) (as : List Value) (H : List GObj) (Q : Option Value → List GObj → Prop) : Prop := MetW Z a0 n0 y [] ({ frames := fr, cells := k, slots := j, locals := lo } : Room) as H Q
theorem Met.mono {y : GM} {fr lo k j : Nat} {as : List Value} {Q Q' : Option Value → List GObj → Prop} (h : Met Z a0 n0 y fr lo k j as H Q) (hq : ∀ v H', Q v H' → Q' v H') : Met Z a0 n0 y fr lo k j as H Q' := by
  intro l h0 S
  exact (h l h0 S).mono (fun _ _ q => q) (fun _ _ _ _ _ q => q) fun _ _ _ _ _ ⟨v, L, h1, ⟨H', h2, h3⟩, h4⟩ => ⟨v, L, h1, ⟨H', hq v H' h2, h3⟩, h4⟩
def pushV : Option Value → List Value → List Value
  | none, r => r
  | some v, r => v :: r
theorem pushV_eq (v : Option Value) (r : List Value) : pushV v r = v.toList ++ r := by cases v <;> rfl
abbrev Eq1 (r : Value) (H1 : List GObj) : Option Value → List GObj → Prop := fun v H' => v = some r ∧ H' = H1
abbrev Eq0 (H1 : List GObj) : Option Value → List GObj → Prop := fun v H' => v = none ∧ H' = H1
theorem retE {r : Value} {H1 : List GObj} {rest : List Value} {k j : Nat} (h1 : H1.length = H.length + k) (h : Go Z a0 n0 M R Q pc' L (r :: rest) H1 (ce + k) (sl + j)) : ∀ v H', Eq1 r H1 v H' → H'.length = H.length + k ∧ Go Z a0 n0 M R Q pc' L (pushV v rest) H' (ce + k) (sl + j) := by
  rintro _ _ ⟨rfl, rfl⟩; exact ⟨h1, h⟩
theorem retV {H1 : List GObj} {rest : List Value} {k j : Nat} (h1 : H1.length = H.length + k) (h : Go Z a0 n0 M R Q pc' L rest H1 (ce + k) (sl + j)) : ∀ v H', Eq0 H1 v H' → H'.length = H.length + k ∧ Go Z a0 n0 M R Q pc' L (pushV v rest) H' (ce + k) (sl + j) := by
  rintro _ _ ⟨rfl, rfl⟩; exact ⟨h1, h⟩
def noHandle (c : String) : Bool := decide (c ≠ "java/lang/invoke/MethodHandle" ∧ c ≠ "java/lang/invoke/VarHandle")
theorem go_static {y : GM} {fr lo k j idx : Nat} {as rest stk : List Value} {ps : List FieldType} {r : Option FieldType} {Q' : Option Value → List GObj → Prop} (hd : Ins M pc (.invokestatic idx) 3 pc') (hm : Met Z a0 n0 y fr lo k j as H Q')
    (w1 : (Jvm.Cond.methodLink M.1.cls idx y.1).before a0 Z = true) (w2 : (Jvm.Cond.static y.1).before a0 Z = true) (w3 : (Jvm.Cond.initialized y.1.cls).before a0 Z = true) (w4 : (Jvm.Cond.code y.1 y.2.1 y.2.2.1 y.2.2.2).before a0 Z = true) (hy : noHandle y.1.cls = true) (hpd : parseMethodDescriptor y.1.desc = some ⟨ps, r⟩) (hlen : as.length = ps.length) (hst : stk = as.reverse ++ rest) (hL : L.length = M.2.2.1)
    (hfr : fr + 1 ≤ R.frames) (hlo : (rest.map fun v => v.category).sum + (y.2.2.1 + 11) + lo ≤ R.locals) (hk : ce + k ≤ R.cells) (hj : sl + j ≤ R.slots)
    (h : ∀ v H', Q' v H' → H'.length = H.length + k ∧ Go Z a0 n0 M R Q pc' L (pushV v rest) H' (ce + k) (sl + j)) : Go Z a0 n0 M R Q pc L stk H ce sl := by
  obtain ⟨hd, rfl⟩ := hd
  subst hst
  intro p l e s m args below meth c T locs X C S E F
  obtain ⟨hx, hZ, hby, hml, hret, hlk, hown, hnm⟩ := id C
  obtain ⟨v, vm1, ⟨T', L', k', n'⟩, -, X', ⟨Lc, hQ', l', y', z'⟩, st'⟩ := Jvm.LawKit.callS X hx (y := y.1) hown (mvT hZ w1) (mvT hZ w2) (mvT hZ w3) (mvT hZ w4) (of_decide_eq_true hy)
    (backOf (W := (rest.map fun v => v.category).sum) (Q := fun v h' L => ∃ H', Q' v H' ∧ Sat Z a0 n0 h' H' ∧ Fr n0 L) (hm l T.heap S) hZ w4 w3 hfr hlo) (g := mkF m pc L.toArray (as.reverse ++ rest)) rfl (by simpa [hml] using hL) (argsL := as) (rest := rest) (lenOf hpd hlen) rfl (by simp) (hb hby hd) (fun _ _ => ⟨rfl, rfl, hk, hj⟩)
  dsimp only [Pt.U, Pt.locs, Pt.cells, Pt.slots] at X' l' y' z' st' hQ'
  subst l' y' z'
  obtain ⟨H', q, S', N⟩ := hQ'
  obtain ⟨hlen', g⟩ := h v H' q
  rw [pushV_eq] at g
  exact (g p l e s m args below meth c T' _ X' C S' (by omega) (Fr.app F N)).back st'
theorem go_special {y : GM} {fr lo k j idx : Nat} {a : Addr} {as rest stk : List Value} {ps : List FieldType} {r : Option FieldType} {Q' : Option Value → List GObj → Prop} (hd : Ins M pc (.invokespecial idx) 3 pc') (hm : Met Z a0 n0 y fr lo k j (.ref a :: as) H Q')
    (w1 : (Jvm.Cond.methodLink M.1.cls idx y.1).before a0 Z = true) (w2 : (Jvm.Cond.instanceMethod y.1).before a0 Z = true) (w3 : (Jvm.Cond.initialized y.1.cls).before a0 Z = true) (w4 : (Jvm.Cond.code y.1 y.2.1 y.2.2.1 none).before a0 Z = true) (hy1 : y.1.name = "<init>") (hr : y.2.2.2 = none) (hy : noHandle y.1.cls = true) (hpd : parseMethodDescriptor y.1.desc = some ⟨ps, r⟩) (hlen : as.length = ps.length) (hst : stk = as.reverse ++ .ref a :: rest) (hL : L.length = M.2.2.1)
    (hfr : fr + 1 ≤ R.frames) (hlo : (rest.map fun v => v.category).sum + (y.2.2.1 + 11) + lo ≤ R.locals) (hk : ce + k ≤ R.cells) (hj : sl + j ≤ R.slots)
    (h : ∀ v H', Q' v H' → H'.length = H.length + k ∧ Go Z a0 n0 M R Q pc' L (pushV v rest) H' (ce + k) (sl + j)) : Go Z a0 n0 M R Q pc L stk H ce sl := by
  obtain ⟨hd, rfl⟩ := hd
  subst hst
  intro p l e s m args below meth c T locs X C S E F
  obtain ⟨hx, hZ, hby, hml, hret, hlk, hown, hnm⟩ := id C
  have w4' : (Jvm.Cond.code y.1 y.2.1 y.2.2.1 y.2.2.2).before a0 Z = true := by rw [hr]; exact w4
  obtain ⟨v, vm1, ⟨T', L', k', n'⟩, -, X', ⟨Lc, hQ', l', y', z'⟩, st'⟩ := X.specialBack hx (y := y.1) hy1 hown (mvT hZ w1) (mvT hZ w2) (mvT hZ w4) (of_decide_eq_true hy)
    (backOf (W := (rest.map fun v => v.category).sum) (Q := fun v h' L => ∃ H', Q' v H' ∧ Sat Z a0 n0 h' H' ∧ Fr n0 L) (hm l T.heap S) hZ w4' w3 hfr hlo) (g := mkF m pc L.toArray (as.reverse ++ .ref a :: rest)) rfl (by simpa [hml] using hL) (Steps.refl _) (a := a) (argsL := as) (rest := rest) (lenOf hpd hlen) rfl (by simp) (hb hby hd) (fun _ _ => ⟨rfl, rfl, hk, hj⟩)
  dsimp only [Pt.U, Pt.locs, Pt.cells, Pt.slots] at X' l' y' z' st' hQ'
  subst l' y' z'
  obtain ⟨H', q, S', N⟩ := hQ'
  obtain ⟨hlen', g⟩ := h v H' q
  rw [pushV_eq] at g
  exact (g p l e s m args below meth c T' _ X' C S' (by omega) (Fr.app F N)).back fun t k => st'.trans k
theorem go_virtual {y : GM} {fr lo k j idx i : Nat} {K : GLay} {vs as rest stk : List Value} {ps : List FieldType} {r : Option FieldType} {Q' : Option Value → List GObj → Prop} (hd : Ins M pc (.invokevirtual idx) 3 pc') (hm : Met Z a0 n0 y fr lo k j (.ref (n0 + i) :: as) H Q') (hH : H[i]? = some (.inl (K, vs)))
    (w1 : (Jvm.Cond.methodLink M.1.cls idx y.1).before a0 Z = true) (w2 : (Jvm.Cond.declares y.1).before a0 Z = true) (w5 : (Jvm.Cond.selects K.1 y.1 y.1).before a0 Z = true) (w6 : (Jvm.Cond.instanceMethod y.1).before a0 Z = true) (w3 : (Jvm.Cond.initialized y.1.cls).before a0 Z = true) (w4 : (Jvm.Cond.code y.1 y.2.1 y.2.2.1 y.2.2.2).before a0 Z = true) (hy : noHandle y.1.cls = true) (hpd : parseMethodDescriptor y.1.desc = some ⟨ps, r⟩) (hlen : as.length = ps.length) (hst : stk = as.reverse ++ .ref (n0 + i) :: rest) (hL : L.length = M.2.2.1)
    (hfr : fr + 1 ≤ R.frames) (hlo : (rest.map fun v => v.category).sum + (y.2.2.1 + 11) + lo ≤ R.locals) (hk : ce + k ≤ R.cells) (hj : sl + j ≤ R.slots)
    (h : ∀ v H', Q' v H' → H'.length = H.length + k ∧ Go Z a0 n0 M R Q pc' L (pushV v rest) H' (ce + k) (sl + j)) : Go Z a0 n0 M R Q pc L stk H ce sl := by
  obtain ⟨hd, rfl⟩ := hd
  subst hst
  intro p l e s m args below meth c T locs X C S E F
  obtain ⟨hx, hZ, hby, hml, hret, hlk, hown, hnm⟩ := id C
  obtain ⟨cq, kq, q1, q2, q3⟩ := isOf (T := T) hZ rfl (S.2.2.2 i _ hH).2.1
  obtain ⟨v, vm1, ⟨T', L', k', n'⟩, -, X', ⟨Lc, hQ', l', y', z'⟩, st'⟩ := X.virtualBack hx (y := y.1) (z := y.1) hown (mvT hZ w1) (mvT hZ w2) (notFace_of_selects (args := #[]) (mvT hZ w5)) (mvT hZ w5) (mvT hZ w6) (of_decide_eq_true hy)
    (backOf (W := (rest.map fun v => v.category).sum) (Q := fun v h' L => ∃ H', Q' v H' ∧ Sat Z a0 n0 h' H' ∧ Fr n0 L) (hm l T.heap S) hZ w4 w3 hfr hlo) q1 q3 (g := mkF m pc L.toArray (as.reverse ++ .ref (n0 + i) :: rest)) rfl (by simpa [hml] using hL) (Steps.refl _) (argsL := as) (rest := rest) (lenOf hpd hlen) rfl (by simp) (hb hby hd) (fun _ _ => ⟨rfl, rfl, hk, hj⟩)
  dsimp only [Pt.U, Pt.locs, Pt.cells, Pt.slots] at X' l' y' z' st' hQ'
  subst l' y' z'
  obtain ⟨H', q, S', N⟩ := hQ'
  obtain ⟨hlen', g⟩ := h v H' q
  rw [pushV_eq] at g
  exact (g p l e s m args below meth c T' _ X' C S' (by omega) (Fr.app F N)).back fun t k => st'.trans k
/-- a private method by invokevirtual: its class is an ordinary one ('instantiable'), so no 'selects' word is wanted -/
theorem go_private {y : GM} {fr lo k j idx i nn : Nat} {o : GObj} {as rest stk : List Value} {ps : List FieldType} {r : Option FieldType} {Q' : Option Value → List GObj → Prop} (hd : Ins M pc (.invokevirtual idx) 3 pc') (hm : Met Z a0 n0 y fr lo k j (.ref (n0 + i) :: as) H Q') (hH : H[i]? = some o)
    (w1 : (Jvm.Cond.methodLink M.1.cls idx y.1).before a0 Z = true) (w5 : (Jvm.Cond.instantiable y.1.cls nn).before a0 Z = true) (w6 : (Jvm.Cond.instanceMethod y.1).before a0 Z = true) (w7 : (Jvm.Cond.privateMethod y.1).before a0 Z = true) (w3 : (Jvm.Cond.initialized y.1.cls).before a0 Z = true) (w4 : (Jvm.Cond.code y.1 y.2.1 y.2.2.1 y.2.2.2).before a0 Z = true) (hy : noHandle y.1.cls = true) (hpd : parseMethodDescriptor y.1.desc = some ⟨ps, r⟩) (hlen : as.length = ps.length) (hst : stk = as.reverse ++ .ref (n0 + i) :: rest) (hL : L.length = M.2.2.1)
    (hfr : fr + 1 ≤ R.frames) (hlo : (rest.map fun v => v.category).sum + (y.2.2.1 + 11) + lo ≤ R.locals) (hk : ce + k ≤ R.cells) (hj : sl + j ≤ R.slots)
    (h : ∀ v H', Q' v H' → H'.length = H.length + k ∧ Go Z a0 n0 M R Q pc' L (pushV v rest) H' (ce + k) (sl + j)) : Go Z a0 n0 M R Q pc L stk H ce sl := by
  obtain ⟨hd, rfl⟩ := hd
  subst hst
  intro p l e s m args below meth c T locs X C S E F
  obtain ⟨hx, hZ, hby, hml, hret, hlk, hown, hnm⟩ := id C
  obtain ⟨cell, hcell, hobj⟩ : ∃ cl : Cell, T.heap[n0 + i]? = some cl ∧ ∀ q, cl.vm ≠ .statics q := by
    have := S.2.2.2 i _ hH
    rcases o with ⟨K, vs⟩ | ⟨ty, vs⟩
    · exact this.2.1.cell
    · obtain ⟨c', A, -, -, EA, -⟩ := this; exact EA.cell
  obtain ⟨mk, methM, hnamed, hmethM, hstM, habM⟩ := Jvm.Cond.instanceMethod_spec (mvT (args := args) hZ w6)
  obtain ⟨methM', cM, hmethM', -, -, -, -, -, -, hsigM⟩ := Jvm.Cond.code_spec hnamed (mvT (args := args) hZ w4)
  cases hmethM.symm.trans hmethM'
  obtain ⟨c5, k5, i1, i2, i3, i4, -⟩ := Jvm.Cond.instantiable_spec (mvT (args := args) hZ w5)
  have hcl := findClass_of_methodNamed hnamed
  cases i1.symm.trans hcl
  have hni : k5.isInterface = false := by simp only [Bool.or_eq_false_iff] at i4; exact i4.1
  have hselP : selectMethod e.platform s.vm cell.cls mk = .method mk := selectMethod_private hmethM (Jvm.Cond.privateMethod_at (mvP hZ w7 (args := #[])) mk methM hnamed hmethM)
  have hK := backOf (p := p) (e := e) (below := below) (args := args) (len := 3) (W := (rest.map fun v => v.category).sum) (Q := fun v h' L => ∃ H', Q' v H' ∧ Sat Z a0 n0 h' H' ∧ Fr n0 L) (hm l T.heap S) hZ w4 w3 hfr hlo
  obtain ⟨vm₁, X₁, hstep₁⟩ := X.invokevirtual hx hown (mvT hZ w1) hnamed hmethM hstM i2 hni (of_decide_eq_true hy) (a := n0 + i) (cell := cell) hcell hobj hselP hmethM habM i2 hni (g := mkF m pc L.toArray (as.reverse ++ .ref (n0 + i) :: rest)) rfl (argsL := as) (rest := rest) (lenOf hpd hlen _ hsigM) rfl (hb hby hd)
  obtain ⟨v, ⟨T', L', k', n'⟩, X', ⟨Lc, hQ', l', y', z'⟩, st'⟩ := hK m meth c ⟨T.setVm vm₁, locs, ce, sl⟩ (mkF m pc L.toArray rest) (.invokevirtual idx) mk (.ref (n0 + i) :: as).toArray X₁ rfl (by simpa [hml] using hL) (hb hby hd) (by simp) (X₁.named hnamed) ⟨rfl, rfl, hk, hj⟩
  dsimp only [Pt.U, Pt.locs, Pt.cells, Pt.slots] at X' l' y' z' st' hQ'
  subst l' y' z'
  obtain ⟨H', q, S', N⟩ := hQ'
  obtain ⟨hlen', g⟩ := h v H' q
  rw [pushV_eq] at g
  refine (g p l e s m args below meth c T' _ X' C S' (by omega) (Fr.app F N)).back fun t k => ?_
  exact hstep₁ _ fun acts => by rw [doInvoke_state]; exact st'.trans k
end Calls
section More2
variable {Z : State} {a0 : Array Value} {n0 : Nat} {M : GM} {R : Room} {Q : Option Value → List GObj → Prop} {pc pc' : Nat} {L : List Slot} {st : List Value} {H : List GObj} {ce sl : Nat}
/-- System.arraycopy of no component, an array onto itself: nothing moves -/
theorem go_copy0 {idx k : Nat} {ty : FieldType} {vs : List Value} {sp dp nn : Int32} {S D : Nat} (hd : Ins M pc (.invokestatic idx) 3 pc') (w1 : (Jvm.Cond.methodLink M.1.cls idx Jvm.Stand.acN).before a0 Z = true) (w2 : (Jvm.Cond.native Jvm.Stand.acN).before a0 Z = true) (w3 : (Jvm.Cond.static Jvm.Stand.acN).before a0 Z = true) (w4 : (Jvm.Cond.initialized "java/lang/System").before a0 Z = true)
    (hH : H[k]? = some (.inr (ty, vs))) (hn : nn = 0) (hsp : sp.toInt = (S : Int)) (hdp : dp.toInt = (D : Int)) (hS : S ≤ vs.length) (hD : D ≤ vs.length) (hlen : vs.length < 2 ^ 31) (hL : L.length = M.2.2.1) (hf : 1 ≤ R.frames) (hl : (st.map fun v => v.category).sum + (nativeFrameWords "java/lang/System" "arraycopy" 5 + 11) ≤ R.locals)
    (h : Go Z a0 n0 M R Q pc' L st H ce sl) : Go Z a0 n0 M R Q pc L (.int nn :: .int dp :: .ref (n0 + k) :: .int sp :: .ref (n0 + k) :: st) H ce sl := by
  obtain ⟨hd, rfl⟩ := hd
  subst hn
  intro p l e s m args below meth c T locs X C S' E F
  obtain ⟨hx, hZ, hby, hml, hret, hlk, hown, hnm⟩ := id C
  obtain ⟨cl, A, hs, hfit, EA, OV⟩ := S'.2.2.2 k _ hH
  have hz := len_toInt hlen
  obtain ⟨z1, z2⟩ := idx_of hz
  have AV : Arv Z T.heap (n0 + k) cl.cls ty vs.length.toInt32 vs .null := by
    refine ⟨cl, A, rfl, by rw [hs, z2]; simp, z1, fun i hi => ?_, fun i hi => ?_⟩
    · rw [hs] at hi ⊢
      have hi' : i < vs.length := by simpa using hi
      simp [hi']
    · rw [hs] at hi
      have hi' : i < vs.length := by simpa using hi
      have : vs.getD i .null = vs[i] := by simp [hi']
      rw [this]; exact hfit _ (List.getElem_mem _)
  obtain ⟨s1, s2⟩ := idx_of hsp
  obtain ⟨d1, d2⟩ := idx_of hdp
  have t0 : (0 : Int32).toNatClampNeg = 0 := by decide
  obtain ⟨T', h', L', X', e', N', K, AV', st'⟩ := cpA X hx hZ hown w1 w2 w3 w4 rfl (us := []) AV AV (by
      by_cases q : refKind ty = true
      · exact Or.inr ⟨q, q, trivial⟩
      · exact Or.inl ⟨rfl, by simpa using q⟩) s1 d1 (by decide : ¬ (0 : Int32) < 0) (by rw [s2, t0, z2]; omega) (by rw [d2, t0, z2]; omega) (by rw [t0]; rfl) (by rw [d2, t0]; omega) F (Nat.le_add_right n0 k) (g := mkF m pc L.toArray (.int 0 :: .int dp :: .ref (n0 + k) :: .int sp :: .ref (n0 + k) :: st)) rfl (by simpa [hml] using hL) rfl (hb hby hd) hf (W := (st.map fun v => v.category).sum) (by simp) hl
  have hsz : h'.size = T.heap.size := by
    have h1 := X'.heapSize
    have h2 := K.1
    have h3 := S'.2.2.1
    rw [e'] at h1
    omega
  have hlist : vs.take dp.toNatClampNeg ++ [] ++ vs.drop (dp.toNatClampNeg + (0 : Int32).toNatClampNeg) = vs := by rw [t0, Nat.add_zero, List.append_nil, List.take_append_drop]
  rw [hlist] at AV'
  obtain ⟨c', A', q1, q2, q3, HA, GA⟩ := AV'
  have hsl : c'.slots = vs.toArray := by
    rw [z2] at q2
    apply Array.ext_getElem?
    intro i
    by_cases hi : i < c'.slots.size
    · rw [HA i hi]
      have hi' : i < vs.length := by omega
      simp [hi']
    · rw [Array.getElem?_eq_none (by omega), Array.getElem?_eq_none (by simp; omega)]
  have SS : Sat Z a0 n0 T'.heap H := by
    rw [e']
    refine ⟨S'.1, ⟨Nat.le_trans S'.2.1.1 K.1, fun a cc q => K.2.1 a cc (S'.2.1.2 a cc q) ?_⟩, by rw [hsz]; exact S'.2.2.1, fun j o hj => ?_⟩
    · have := (Array.getElem?_eq_some_iff.mp q).1
      have := S'.1
      intro z; cases List.mem_singleton.mp z; omega
    · by_cases ej : j = k
      · subst ej
        cases hH.symm.trans hj
        exact ⟨c', A', hsl, hfit, EA.keep K, fun C hC => by rw [q1]; exact OV C hC⟩
      · have ne : n0 + j ∉ [n0 + k] := fun z => ej (by have := List.mem_singleton.mp z; omega)
        have old := S'.2.2.2 j o hj
        rcases o with ⟨KK, us⟩ | ⟨ty2, us⟩
        · exact ⟨old.1, old.2.1.keep K, fun i q v g1 g2 => (old.2.2 i q v g1 g2).keep K ne⟩
        · obtain ⟨c2, A2, b1, b2, b3, b4⟩ := old
          exact ⟨c2, ⟨K.2.1 _ _ A2.1 ne, A2.2⟩, b1, b2, b3.keep K, b4⟩
  exact (h p l e s m args below meth c T' _ X' C SS E N').back st'
theorem go_tswIn {dflt low high : Int} {offs : Array Int} {len : Nat} {o : Int} {i : Int32} (t : Nat) (hd : Ins M pc (.tableswitch dflt low high offs) len pc') (hin : ¬ (i.toInt < low ∨ i.toInt > high)) (hoff : offs[(i.toInt - low).toNat]? = some o) (ht : (pc : Int) + o = (t : Int)) (h : Go Z a0 n0 M R Q t L st H ce sl) : Go Z a0 n0 M R Q pc L (.int i :: st) H ce sl := by
  obtain ⟨hd, rfl⟩ := hd
  exact go_pure (fun p e m below c T u hA hx hy k => XS.tswIn hA hx rfl (pc0 := pc) (pc' := t) rfl (hb hy hd) rfl hin hoff (by omega) (by omega) k) h
theorem go_lswOut {dflt : Int} {pairs : Array (Int × Int)} {len : Nat} {i : Int32} (t : Nat) (hd : Ins M pc (.lookupswitch dflt pairs) len pc') (hsort : ∀ a b a1 b1 : Int, ((a, b), a1, b1) ∈ pairs.toList.zip pairs.toList.tail → a < a1) (hout : lookupswitch.offset pairs.toList dflt i.toInt = dflt) (ht : (pc : Int) + dflt = (t : Int)) (h : Go Z a0 n0 M R Q t L st H ce sl) : Go Z a0 n0 M R Q pc L (.int i :: st) H ce sl := by
  obtain ⟨hd, rfl⟩ := hd
  refine go_pure (fun p e m below c T u hA hx hy k => ?_) h
  have hd' := hb hy hd
  have h0 : 0 ≤ (pc : Int) + dflt := by omega
  have e0 : ((pc : Int) + dflt).toNat = t := by omega
  jvm_step hA [hA.top, hx, hd', lookupswitch.wp_chain, hout, h0]
  rw [e0]; exact ⟨hsort, k⟩
end More2
def M0 : GM := (x, code, maxLocals, ret)
theorem i0_0 : Ins M0 0 (.iconst 1) 1 1 := ⟨at_0, rfl⟩
theorem i0_1 : Ins M0 1 (.iload_n 0) 1 2 := ⟨at_1, rfl⟩
theorem i0_2 : Ins M0 2 (.bipush 15) 2 4 := ⟨at_2, rfl⟩
theorem i0_4 : Ins M0 4 (.iand) 1 5 := ⟨at_4, rfl⟩
theorem i0_5 : Ins M0 5 (.iadd) 1 6 := ⟨at_5, rfl⟩
theorem i0_6 : Ins M0 6 (.istore 5) 2 8 := ⟨at_6, rfl⟩
theorem i0_8 : Ins M0 8 (.iload_n 1) 1 9 := ⟨at_8, rfl⟩
theorem i0_9 : Ins M0 9 (.iconst 3) 1 10 := ⟨at_9, rfl⟩
theorem i0_10 : Ins M0 10 (.iand) 1 11 := ⟨at_10, rfl⟩
theorem i0_11 : Ins M0 11 (.istore 6) 2 13 := ⟨at_11, rfl⟩
theorem i0_13 : Ins M0 13 (.iload_n 1) 1 14 := ⟨at_13, rfl⟩
theorem i0_14 : Ins M0 14 (.iconst 4) 1 15 := ⟨at_14, rfl⟩
theorem i0_15 : Ins M0 15 (.iand) 1 16 := ⟨at_15, rfl⟩
theorem i0_16 : Ins M0 16 (.ifCond .eq 7) 3 19 := ⟨at_16, rfl⟩
theorem i0_19 : Ins M0 19 (.iconst 1) 1 20 := ⟨at_19, rfl⟩
theorem i0_20 : Ins M0 20 (.goto 4) 3 23 := ⟨at_20, rfl⟩
theorem i0_23 : Ins M0 23 (.iconst 0) 1 24 := ⟨at_23, rfl⟩
theorem i0_24 : Ins M0 24 (.istore 7) 2 26 := ⟨at_24, rfl⟩
theorem i0_26 : Ins M0 26 (.iconst 2) 1 27 := ⟨at_26, rfl⟩
theorem i0_27 : Ins M0 27 (.newarray .int) 2 29 := ⟨at_27, rfl⟩
theorem i0_29 : Ins M0 29 (.dup) 1 30 := ⟨at_29, rfl⟩
theorem i0_30 : Ins M0 30 (.iconst 0) 1 31 := ⟨at_30, rfl⟩
theorem i0_31 : Ins M0 31 (.lload_n 2) 1 32 := ⟨at_31, rfl⟩
theorem i0_32 : Ins M0 32 (.iconst 0) 1 33 := ⟨at_32, rfl⟩
theorem i0_33 : Ins M0 33 (.invokestatic 28) 3 36 := ⟨at_33, rfl⟩
theorem i0_36 : Ins M0 36 (.iload 5) 2 38 := ⟨at_36, rfl⟩
theorem i0_38 : Ins M0 38 (.irem) 1 39 := ⟨at_38, rfl⟩
theorem i0_39 : Ins M0 39 (.iastore) 1 40 := ⟨at_39, rfl⟩
theorem i0_40 : Ins M0 40 (.dup) 1 41 := ⟨at_40, rfl⟩
theorem i0_41 : Ins M0 41 (.iconst 1) 1 42 := ⟨at_41, rfl⟩
theorem i0_42 : Ins M0 42 (.lload_n 2) 1 43 := ⟨at_42, rfl⟩
theorem i0_43 : Ins M0 43 (.iconst 4) 1 44 := ⟨at_43, rfl⟩
theorem i0_44 : Ins M0 44 (.invokestatic 28) 3 47 := ⟨at_44, rfl⟩
theorem i0_47 : Ins M0 47 (.iload 5) 2 49 := ⟨at_47, rfl⟩
theorem i0_49 : Ins M0 49 (.irem) 1 50 := ⟨at_49, rfl⟩
theorem i0_50 : Ins M0 50 (.iastore) 1 51 := ⟨at_50, rfl⟩
theorem i0_51 : Ins M0 51 (.astore 8) 2 53 := ⟨at_51, rfl⟩
theorem i0_53 : Ins M0 53 (.iconst 2) 1 54 := ⟨at_53, rfl⟩
theorem i0_54 : Ins M0 54 (.newarray .int) 2 56 := ⟨at_54, rfl⟩
theorem i0_56 : Ins M0 56 (.dup) 1 57 := ⟨at_56, rfl⟩
theorem i0_57 : Ins M0 57 (.iconst 0) 1 58 := ⟨at_57, rfl⟩
theorem i0_58 : Ins M0 58 (.iconst 1) 1 59 := ⟨at_58, rfl⟩
theorem i0_59 : Ins M0 59 (.lload_n 2) 1 60 := ⟨at_59, rfl⟩
theorem i0_60 : Ins M0 60 (.bipush 8) 2 62 := ⟨at_60, rfl⟩
theorem i0_62 : Ins M0 62 (.invokestatic 28) 3 65 := ⟨at_62, rfl⟩
theorem i0_65 : Ins M0 65 (.iload 5) 2 67 := ⟨at_65, rfl⟩
theorem i0_67 : Ins M0 67 (.irem) 1 68 := ⟨at_67, rfl⟩
theorem i0_68 : Ins M0 68 (.iadd) 1 69 := ⟨at_68, rfl⟩
theorem i0_69 : Ins M0 69 (.iastore) 1 70 := ⟨at_69, rfl⟩
theorem i0_70 : Ins M0 70 (.dup) 1 71 := ⟨at_70, rfl⟩
theorem i0_71 : Ins M0 71 (.iconst 1) 1 72 := ⟨at_71, rfl⟩
theorem i0_72 : Ins M0 72 (.iconst 1) 1 73 := ⟨at_72, rfl⟩
theorem i0_73 : Ins M0 73 (.lload_n 2) 1 74 := ⟨at_73, rfl⟩
theorem i0_74 : Ins M0 74 (.bipush 12) 2 76 := ⟨at_74, rfl⟩
theorem i0_76 : Ins M0 76 (.invokestatic 28) 3 79 := ⟨at_76, rfl⟩
theorem i0_79 : Ins M0 79 (.iload 5) 2 81 := ⟨at_79, rfl⟩
theorem i0_81 : Ins M0 81 (.irem) 1 82 := ⟨at_81, rfl⟩
theorem i0_82 : Ins M0 82 (.iadd) 1 83 := ⟨at_82, rfl⟩
theorem i0_83 : Ins M0 83 (.iastore) 1 84 := ⟨at_83, rfl⟩
theorem i0_84 : Ins M0 84 (.astore 9) 2 86 := ⟨at_84, rfl⟩
theorem i0_86 : Ins M0 86 (.iconst 2) 1 87 := ⟨at_86, rfl⟩
theorem i0_87 : Ins M0 87 (.newarray .int) 2 89 := ⟨at_87, rfl⟩
theorem i0_89 : Ins M0 89 (.dup) 1 90 := ⟨at_89, rfl⟩
theorem i0_90 : Ins M0 90 (.iconst 0) 1 91 := ⟨at_90, rfl⟩
theorem i0_91 : Ins M0 91 (.lload_n 2) 1 92 := ⟨at_91, rfl⟩
theorem i0_92 : Ins M0 92 (.bipush 16) 2 94 := ⟨at_92, rfl⟩
theorem i0_94 : Ins M0 94 (.invokestatic 28) 3 97 := ⟨at_94, rfl⟩
theorem i0_97 : Ins M0 97 (.iload 5) 2 99 := ⟨at_97, rfl⟩
theorem i0_99 : Ins M0 99 (.irem) 1 100 := ⟨at_99, rfl⟩
theorem i0_100 : Ins M0 100 (.iastore) 1 101 := ⟨at_100, rfl⟩
theorem i0_101 : Ins M0 101 (.dup) 1 102 := ⟨at_101, rfl⟩
theorem i0_102 : Ins M0 102 (.iconst 1) 1 103 := ⟨at_102, rfl⟩
theorem i0_103 : Ins M0 103 (.lload_n 2) 1 104 := ⟨at_103, rfl⟩
theorem i0_104 : Ins M0 104 (.bipush 20) 2 106 := ⟨at_104, rfl⟩
theorem i0_106 : Ins M0 106 (.invokestatic 28) 3 109 := ⟨at_106, rfl⟩
theorem i0_109 : Ins M0 109 (.iload 5) 2 111 := ⟨at_109, rfl⟩
theorem i0_111 : Ins M0 111 (.irem) 1 112 := ⟨at_111, rfl⟩
theorem i0_112 : Ins M0 112 (.iastore) 1 113 := ⟨at_112, rfl⟩
theorem i0_113 : Ins M0 113 (.astore 10) 2 115 := ⟨at_113, rfl⟩
theorem i0_115 : Ins M0 115 (.iconst 2) 1 116 := ⟨at_115, rfl⟩
theorem i0_116 : Ins M0 116 (.newarray .int) 2 118 := ⟨at_116, rfl⟩
theorem i0_118 : Ins M0 118 (.dup) 1 119 := ⟨at_118, rfl⟩
theorem i0_119 : Ins M0 119 (.iconst 0) 1 120 := ⟨at_119, rfl⟩
theorem i0_120 : Ins M0 120 (.iconst 1) 1 121 := ⟨at_120, rfl⟩
theorem i0_121 : Ins M0 121 (.lload_n 2) 1 122 := ⟨at_121, rfl⟩
theorem i0_122 : Ins M0 122 (.bipush 24) 2 124 := ⟨at_122, rfl⟩
theorem i0_124 : Ins M0 124 (.invokestatic 28) 3 127 := ⟨at_124, rfl⟩
theorem i0_127 : Ins M0 127 (.iload 5) 2 129 := ⟨at_127, rfl⟩
theorem i0_129 : Ins M0 129 (.irem) 1 130 := ⟨at_129, rfl⟩
theorem i0_130 : Ins M0 130 (.iadd) 1 131 := ⟨at_130, rfl⟩
theorem i0_131 : Ins M0 131 (.iastore) 1 132 := ⟨at_131, rfl⟩
theorem i0_132 : Ins M0 132 (.dup) 1 133 := ⟨at_132, rfl⟩
theorem i0_133 : Ins M0 133 (.iconst 1) 1 134 := ⟨at_133, rfl⟩
theorem i0_134 : Ins M0 134 (.iconst 1) 1 135 := ⟨at_134, rfl⟩
theorem i0_135 : Ins M0 135 (.lload_n 2) 1 136 := ⟨at_135, rfl⟩
theorem i0_136 : Ins M0 136 (.bipush 28) 2 138 := ⟨at_136, rfl⟩
theorem i0_138 : Ins M0 138 (.invokestatic 28) 3 141 := ⟨at_138, rfl⟩
theorem i0_141 : Ins M0 141 (.iload 5) 2 143 := ⟨at_141, rfl⟩
theorem i0_143 : Ins M0 143 (.irem) 1 144 := ⟨at_143, rfl⟩
theorem i0_144 : Ins M0 144 (.iadd) 1 145 := ⟨at_144, rfl⟩
theorem i0_145 : Ins M0 145 (.iastore) 1 146 := ⟨at_145, rfl⟩
theorem i0_146 : Ins M0 146 (.astore 11) 2 148 := ⟨at_146, rfl⟩
theorem i0_148 : Ins M0 148 (.iconst 2) 1 149 := ⟨at_148, rfl⟩
theorem i0_149 : Ins M0 149 (.newarray .int) 2 151 := ⟨at_149, rfl⟩
theorem i0_151 : Ins M0 151 (.dup) 1 152 := ⟨at_151, rfl⟩
theorem i0_152 : Ins M0 152 (.iconst 0) 1 153 := ⟨at_152, rfl⟩
theorem i0_153 : Ins M0 153 (.lload_n 2) 1 154 := ⟨at_153, rfl⟩
theorem i0_154 : Ins M0 154 (.bipush 32) 2 156 := ⟨at_154, rfl⟩
theorem i0_156 : Ins M0 156 (.invokestatic 28) 3 159 := ⟨at_156, rfl⟩
theorem i0_159 : Ins M0 159 (.iload 5) 2 161 := ⟨at_159, rfl⟩
theorem i0_161 : Ins M0 161 (.irem) 1 162 := ⟨at_161, rfl⟩
theorem i0_162 : Ins M0 162 (.iastore) 1 163 := ⟨at_162, rfl⟩
theorem i0_163 : Ins M0 163 (.dup) 1 164 := ⟨at_163, rfl⟩
theorem i0_164 : Ins M0 164 (.iconst 1) 1 165 := ⟨at_164, rfl⟩
theorem i0_165 : Ins M0 165 (.lload_n 2) 1 166 := ⟨at_165, rfl⟩
theorem i0_166 : Ins M0 166 (.bipush 36) 2 168 := ⟨at_166, rfl⟩
theorem i0_168 : Ins M0 168 (.invokestatic 28) 3 171 := ⟨at_168, rfl⟩
theorem i0_171 : Ins M0 171 (.iload 5) 2 173 := ⟨at_171, rfl⟩
theorem i0_173 : Ins M0 173 (.irem) 1 174 := ⟨at_173, rfl⟩
theorem i0_174 : Ins M0 174 (.iastore) 1 175 := ⟨at_174, rfl⟩
theorem i0_175 : Ins M0 175 (.astore 12) 2 177 := ⟨at_175, rfl⟩
theorem i0_177 : Ins M0 177 (.iconst 2) 1 178 := ⟨at_177, rfl⟩
theorem i0_178 : Ins M0 178 (.newarray .int) 2 180 := ⟨at_178, rfl⟩
theorem i0_180 : Ins M0 180 (.dup) 1 181 := ⟨at_180, rfl⟩
theorem i0_181 : Ins M0 181 (.iconst 0) 1 182 := ⟨at_181, rfl⟩
theorem i0_182 : Ins M0 182 (.iconst 1) 1 183 := ⟨at_182, rfl⟩
theorem i0_183 : Ins M0 183 (.lload_n 2) 1 184 := ⟨at_183, rfl⟩
theorem i0_184 : Ins M0 184 (.bipush 40) 2 186 := ⟨at_184, rfl⟩
theorem i0_186 : Ins M0 186 (.invokestatic 28) 3 189 := ⟨at_186, rfl⟩
theorem i0_189 : Ins M0 189 (.iload 5) 2 191 := ⟨at_189, rfl⟩
theorem i0_191 : Ins M0 191 (.irem) 1 192 := ⟨at_191, rfl⟩
theorem i0_192 : Ins M0 192 (.iadd) 1 193 := ⟨at_192, rfl⟩
theorem i0_193 : Ins M0 193 (.iastore) 1 194 := ⟨at_193, rfl⟩
theorem i0_194 : Ins M0 194 (.dup) 1 195 := ⟨at_194, rfl⟩
theorem i0_195 : Ins M0 195 (.iconst 1) 1 196 := ⟨at_195, rfl⟩
theorem i0_196 : Ins M0 196 (.iconst 1) 1 197 := ⟨at_196, rfl⟩
theorem i0_197 : Ins M0 197 (.lload_n 2) 1 198 := ⟨at_197, rfl⟩
theorem i0_198 : Ins M0 198 (.bipush 44) 2 200 := ⟨at_198, rfl⟩
theorem i0_200 : Ins M0 200 (.invokestatic 28) 3 203 := ⟨at_200, rfl⟩
theorem i0_203 : Ins M0 203 (.iload 5) 2 205 := ⟨at_203, rfl⟩
theorem i0_205 : Ins M0 205 (.irem) 1 206 := ⟨at_205, rfl⟩
theorem i0_206 : Ins M0 206 (.iadd) 1 207 := ⟨at_206, rfl⟩
theorem i0_207 : Ins M0 207 (.iastore) 1 208 := ⟨at_207, rfl⟩
theorem i0_208 : Ins M0 208 (.astore 13) 2 210 := ⟨at_208, rfl⟩
theorem i0_210 : Ins M0 210 (.iload 4) 2 212 := ⟨at_210, rfl⟩
theorem i0_212 : Ins M0 212 (.i2l) 1 213 := ⟨at_212, rfl⟩
theorem i0_213 : Ins M0 213 (.lstore 14) 2 215 := ⟨at_213, rfl⟩
theorem i0_215 : Ins M0 215 (.iconst 2) 1 216 := ⟨at_215, rfl⟩
theorem i0_216 : Ins M0 216 (.newarray .int) 2 218 := ⟨at_216, rfl⟩
theorem i0_218 : Ins M0 218 (.dup) 1 219 := ⟨at_218, rfl⟩
theorem i0_219 : Ins M0 219 (.iconst 0) 1 220 := ⟨at_219, rfl⟩
theorem i0_220 : Ins M0 220 (.lload 14) 2 222 := ⟨at_220, rfl⟩
theorem i0_222 : Ins M0 222 (.iconst 0) 1 223 := ⟨at_222, rfl⟩
theorem i0_223 : Ins M0 223 (.invokestatic 28) 3 226 := ⟨at_223, rfl⟩
theorem i0_226 : Ins M0 226 (.iload 5) 2 228 := ⟨at_226, rfl⟩
theorem i0_228 : Ins M0 228 (.irem) 1 229 := ⟨at_228, rfl⟩
theorem i0_229 : Ins M0 229 (.iastore) 1 230 := ⟨at_229, rfl⟩
theorem i0_230 : Ins M0 230 (.dup) 1 231 := ⟨at_230, rfl⟩
theorem i0_231 : Ins M0 231 (.iconst 1) 1 232 := ⟨at_231, rfl⟩
theorem i0_232 : Ins M0 232 (.lload 14) 2 234 := ⟨at_232, rfl⟩
theorem i0_234 : Ins M0 234 (.iconst 4) 1 235 := ⟨at_234, rfl⟩
theorem i0_235 : Ins M0 235 (.invokestatic 28) 3 238 := ⟨at_235, rfl⟩
theorem i0_238 : Ins M0 238 (.iload 5) 2 240 := ⟨at_238, rfl⟩
theorem i0_240 : Ins M0 240 (.irem) 1 241 := ⟨at_240, rfl⟩
theorem i0_241 : Ins M0 241 (.iastore) 1 242 := ⟨at_241, rfl⟩
theorem i0_242 : Ins M0 242 (.astore 16) 2 244 := ⟨at_242, rfl⟩
theorem i0_244 : Ins M0 244 (.iconst 2) 1 245 := ⟨at_244, rfl⟩
theorem i0_245 : Ins M0 245 (.newarray .int) 2 247 := ⟨at_245, rfl⟩
theorem i0_247 : Ins M0 247 (.dup) 1 248 := ⟨at_247, rfl⟩
theorem i0_248 : Ins M0 248 (.iconst 0) 1 249 := ⟨at_248, rfl⟩
theorem i0_249 : Ins M0 249 (.iconst 1) 1 250 := ⟨at_249, rfl⟩
theorem i0_250 : Ins M0 250 (.lload 14) 2 252 := ⟨at_250, rfl⟩
theorem i0_252 : Ins M0 252 (.bipush 8) 2 254 := ⟨at_252, rfl⟩
theorem i0_254 : Ins M0 254 (.invokestatic 28) 3 257 := ⟨at_254, rfl⟩
theorem i0_257 : Ins M0 257 (.iload 5) 2 259 := ⟨at_257, rfl⟩
theorem i0_259 : Ins M0 259 (.irem) 1 260 := ⟨at_259, rfl⟩
theorem i0_260 : Ins M0 260 (.iadd) 1 261 := ⟨at_260, rfl⟩
theorem i0_261 : Ins M0 261 (.iastore) 1 262 := ⟨at_261, rfl⟩
theorem i0_262 : Ins M0 262 (.dup) 1 263 := ⟨at_262, rfl⟩
theorem i0_263 : Ins M0 263 (.iconst 1) 1 264 := ⟨at_263, rfl⟩
theorem i0_264 : Ins M0 264 (.iconst 1) 1 265 := ⟨at_264, rfl⟩
theorem i0_265 : Ins M0 265 (.lload 14) 2 267 := ⟨at_265, rfl⟩
theorem i0_267 : Ins M0 267 (.bipush 12) 2 269 := ⟨at_267, rfl⟩
theorem i0_269 : Ins M0 269 (.invokestatic 28) 3 272 := ⟨at_269, rfl⟩
theorem i0_272 : Ins M0 272 (.iload 5) 2 274 := ⟨at_272, rfl⟩
theorem i0_274 : Ins M0 274 (.irem) 1 275 := ⟨at_274, rfl⟩
theorem i0_275 : Ins M0 275 (.iadd) 1 276 := ⟨at_275, rfl⟩
theorem i0_276 : Ins M0 276 (.iastore) 1 277 := ⟨at_276, rfl⟩
theorem i0_277 : Ins M0 277 (.astore 17) 2 279 := ⟨at_277, rfl⟩
theorem i0_279 : Ins M0 279 (.iload 7) 2 281 := ⟨at_279, rfl⟩
theorem i0_281 : Ins M0 281 (.ifCond .eq 17) 3 284 := ⟨at_281, rfl⟩
theorem i0_284 : Ins M0 284 (.iconst 2) 1 285 := ⟨at_284, rfl⟩
theorem i0_285 : Ins M0 285 (.newarray .int) 2 287 := ⟨at_285, rfl⟩
theorem i0_287 : Ins M0 287 (.dup) 1 288 := ⟨at_287, rfl⟩
theorem i0_288 : Ins M0 288 (.iconst 0) 1 289 := ⟨at_288, rfl⟩
theorem i0_289 : Ins M0 289 (.iconst 1) 1 290 := ⟨at_289, rfl⟩
theorem i0_290 : Ins M0 290 (.iastore) 1 291 := ⟨at_290, rfl⟩
theorem i0_291 : Ins M0 291 (.dup) 1 292 := ⟨at_291, rfl⟩
theorem i0_292 : Ins M0 292 (.iconst 1) 1 293 := ⟨at_292, rfl⟩
theorem i0_293 : Ins M0 293 (.iconst 0) 1 294 := ⟨at_293, rfl⟩
theorem i0_294 : Ins M0 294 (.iastore) 1 295 := ⟨at_294, rfl⟩
theorem i0_295 : Ins M0 295 (.goto 14) 3 298 := ⟨at_295, rfl⟩
theorem i0_298 : Ins M0 298 (.iconst 2) 1 299 := ⟨at_298, rfl⟩
theorem i0_299 : Ins M0 299 (.newarray .int) 2 301 := ⟨at_299, rfl⟩
theorem i0_301 : Ins M0 301 (.dup) 1 302 := ⟨at_301, rfl⟩
theorem i0_302 : Ins M0 302 (.iconst 0) 1 303 := ⟨at_302, rfl⟩
theorem i0_303 : Ins M0 303 (.iconst 0) 1 304 := ⟨at_303, rfl⟩
theorem i0_304 : Ins M0 304 (.iastore) 1 305 := ⟨at_304, rfl⟩
theorem i0_305 : Ins M0 305 (.dup) 1 306 := ⟨at_305, rfl⟩
theorem i0_306 : Ins M0 306 (.iconst 1) 1 307 := ⟨at_306, rfl⟩
theorem i0_307 : Ins M0 307 (.iconst 1) 1 308 := ⟨at_307, rfl⟩
theorem i0_308 : Ins M0 308 (.iastore) 1 309 := ⟨at_308, rfl⟩
theorem i0_309 : Ins M0 309 (.astore 18) 2 311 := ⟨at_309, rfl⟩
theorem i0_311 : Ins M0 311 (.new 32) 3 314 := ⟨at_311, rfl⟩
theorem i0_314 : Ins M0 314 (.dup) 1 315 := ⟨at_314, rfl⟩
theorem i0_315 : Ins M0 315 (.iload 5) 2 317 := ⟨at_315, rfl⟩
theorem i0_317 : Ins M0 317 (.iconst 2) 1 318 := ⟨at_317, rfl⟩
theorem i0_318 : Ins M0 318 (.invokespecial 34) 3 321 := ⟨at_318, rfl⟩
theorem i0_321 : Ins M0 321 (.astore 19) 2 323 := ⟨at_321, rfl⟩
theorem i0_323 : Ins M0 323 (.new 37) 3 326 := ⟨at_323, rfl⟩
theorem i0_326 : Ins M0 326 (.dup) 1 327 := ⟨at_326, rfl⟩
theorem i0_327 : Ins M0 327 (.aload 8) 2 329 := ⟨at_327, rfl⟩
theorem i0_329 : Ins M0 329 (.aload 9) 2 331 := ⟨at_329, rfl⟩
theorem i0_331 : Ins M0 331 (.invokespecial 39) 3 334 := ⟨at_331, rfl⟩
theorem i0_334 : Ins M0 334 (.astore 20) 2 336 := ⟨at_334, rfl⟩
theorem i0_336 : Ins M0 336 (.new 37) 3 339 := ⟨at_336, rfl⟩
theorem i0_339 : Ins M0 339 (.dup) 1 340 := ⟨at_339, rfl⟩
theorem i0_340 : Ins M0 340 (.aload 10) 2 342 := ⟨at_340, rfl⟩
theorem i0_342 : Ins M0 342 (.aload 11) 2 344 := ⟨at_342, rfl⟩
theorem i0_344 : Ins M0 344 (.invokespecial 39) 3 347 := ⟨at_344, rfl⟩
theorem i0_347 : Ins M0 347 (.astore 21) 2 349 := ⟨at_347, rfl⟩
theorem i0_349 : Ins M0 349 (.new 37) 3 352 := ⟨at_349, rfl⟩
theorem i0_352 : Ins M0 352 (.dup) 1 353 := ⟨at_352, rfl⟩
theorem i0_353 : Ins M0 353 (.aload 12) 2 355 := ⟨at_353, rfl⟩
theorem i0_355 : Ins M0 355 (.aload 13) 2 357 := ⟨at_355, rfl⟩
theorem i0_357 : Ins M0 357 (.invokespecial 39) 3 360 := ⟨at_357, rfl⟩
theorem i0_360 : Ins M0 360 (.astore 22) 2 362 := ⟨at_360, rfl⟩
theorem i0_362 : Ins M0 362 (.iload 6) 2 364 := ⟨at_362, rfl⟩
theorem i0_364 : Ins M0 364 (.iconst 1) 1 365 := ⟨at_364, rfl⟩
theorem i0_365 : Ins M0 365 (.if_icmp .lt 11) 3 368 := ⟨at_365, rfl⟩
theorem i0_368 : Ins M0 368 (.aload 19) 2 370 := ⟨at_368, rfl⟩
theorem i0_370 : Ins M0 370 (.iconst 0) 1 371 := ⟨at_370, rfl⟩
theorem i0_371 : Ins M0 371 (.aload 20) 2 373 := ⟨at_371, rfl⟩
theorem i0_373 : Ins M0 373 (.invokevirtual 42) 3 376 := ⟨at_373, rfl⟩
theorem i0_376 : Ins M0 376 (.iload 6) 2 378 := ⟨at_376, rfl⟩
theorem i0_378 : Ins M0 378 (.iconst 2) 1 379 := ⟨at_378, rfl⟩
theorem i0_379 : Ins M0 379 (.if_icmp .lt 11) 3 382 := ⟨at_379, rfl⟩
theorem i0_382 : Ins M0 382 (.aload 19) 2 384 := ⟨at_382, rfl⟩
theorem i0_384 : Ins M0 384 (.iconst 1) 1 385 := ⟨at_384, rfl⟩
theorem i0_385 : Ins M0 385 (.aload 21) 2 387 := ⟨at_385, rfl⟩
theorem i0_387 : Ins M0 387 (.invokevirtual 42) 3 390 := ⟨at_387, rfl⟩
theorem i0_390 : Ins M0 390 (.iload 6) 2 392 := ⟨at_390, rfl⟩
theorem i0_392 : Ins M0 392 (.iconst 3) 1 393 := ⟨at_392, rfl⟩
theorem i0_393 : Ins M0 393 (.if_icmp .lt 11) 3 396 := ⟨at_393, rfl⟩
theorem i0_396 : Ins M0 396 (.aload 19) 2 398 := ⟨at_396, rfl⟩
theorem i0_398 : Ins M0 398 (.iconst 2) 1 399 := ⟨at_398, rfl⟩
theorem i0_399 : Ins M0 399 (.aload 22) 2 401 := ⟨at_399, rfl⟩
theorem i0_401 : Ins M0 401 (.invokevirtual 42) 3 404 := ⟨at_401, rfl⟩
theorem i0_404 : Ins M0 404 (.aload 19) 2 406 := ⟨at_404, rfl⟩
theorem i0_406 : Ins M0 406 (.aload 16) 2 408 := ⟨at_406, rfl⟩
theorem i0_408 : Ins M0 408 (.aload 17) 2 410 := ⟨at_408, rfl⟩
theorem i0_410 : Ins M0 410 (.aload 18) 2 412 := ⟨at_410, rfl⟩
theorem i0_412 : Ins M0 412 (.invokevirtual 46) 3 415 := ⟨at_412, rfl⟩
theorem i0_415 : Ins M0 415 (.istore 23) 2 417 := ⟨at_415, rfl⟩
theorem i0_417 : Ins M0 417 (.iload 6) 2 419 := ⟨at_417, rfl⟩
theorem i0_419 : Ins M0 419 (.iconst 1) 1 420 := ⟨at_419, rfl⟩
theorem i0_420 : Ins M0 420 (.if_icmp .lt 23) 3 423 := ⟨at_420, rfl⟩
theorem i0_423 : Ins M0 423 (.iload 5) 2 425 := ⟨at_423, rfl⟩
theorem i0_425 : Ins M0 425 (.aload 8) 2 427 := ⟨at_425, rfl⟩
theorem i0_427 : Ins M0 427 (.aload 9) 2 429 := ⟨at_427, rfl⟩
theorem i0_429 : Ins M0 429 (.aload 16) 2 431 := ⟨at_429, rfl⟩
theorem i0_431 : Ins M0 431 (.aload 17) 2 433 := ⟨at_431, rfl⟩
theorem i0_433 : Ins M0 433 (.invokestatic 50) 3 436 := ⟨at_433, rfl⟩
theorem i0_436 : Ins M0 436 (.ifCond .eq 7) 3 439 := ⟨at_436, rfl⟩
theorem i0_439 : Ins M0 439 (.iconst 1) 1 440 := ⟨at_439, rfl⟩
theorem i0_440 : Ins M0 440 (.goto 4) 3 443 := ⟨at_440, rfl⟩
theorem i0_443 : Ins M0 443 (.iconst 0) 1 444 := ⟨at_443, rfl⟩
theorem i0_444 : Ins M0 444 (.istore 24) 2 446 := ⟨at_444, rfl⟩
theorem i0_446 : Ins M0 446 (.iload 6) 2 448 := ⟨at_446, rfl⟩
theorem i0_448 : Ins M0 448 (.iconst 2) 1 449 := ⟨at_448, rfl⟩
theorem i0_449 : Ins M0 449 (.if_icmp .lt 23) 3 452 := ⟨at_449, rfl⟩
theorem i0_452 : Ins M0 452 (.iload 5) 2 454 := ⟨at_452, rfl⟩
theorem i0_454 : Ins M0 454 (.aload 10) 2 456 := ⟨at_454, rfl⟩
theorem i0_456 : Ins M0 456 (.aload 11) 2 458 := ⟨at_456, rfl⟩
theorem i0_458 : Ins M0 458 (.aload 16) 2 460 := ⟨at_458, rfl⟩
theorem i0_460 : Ins M0 460 (.aload 17) 2 462 := ⟨at_460, rfl⟩
theorem i0_462 : Ins M0 462 (.invokestatic 50) 3 465 := ⟨at_462, rfl⟩
theorem i0_465 : Ins M0 465 (.ifCond .eq 7) 3 468 := ⟨at_465, rfl⟩
theorem i0_468 : Ins M0 468 (.iconst 1) 1 469 := ⟨at_468, rfl⟩
theorem i0_469 : Ins M0 469 (.goto 4) 3 472 := ⟨at_469, rfl⟩
theorem i0_472 : Ins M0 472 (.iconst 0) 1 473 := ⟨at_472, rfl⟩
theorem i0_473 : Ins M0 473 (.istore 25) 2 475 := ⟨at_473, rfl⟩
theorem i0_475 : Ins M0 475 (.iload 6) 2 477 := ⟨at_475, rfl⟩
theorem i0_477 : Ins M0 477 (.iconst 3) 1 478 := ⟨at_477, rfl⟩
theorem i0_478 : Ins M0 478 (.if_icmp .lt 23) 3 481 := ⟨at_478, rfl⟩
theorem i0_481 : Ins M0 481 (.iload 5) 2 483 := ⟨at_481, rfl⟩
theorem i0_483 : Ins M0 483 (.aload 12) 2 485 := ⟨at_483, rfl⟩
theorem i0_485 : Ins M0 485 (.aload 13) 2 487 := ⟨at_485, rfl⟩
theorem i0_487 : Ins M0 487 (.aload 16) 2 489 := ⟨at_487, rfl⟩
theorem i0_489 : Ins M0 489 (.aload 17) 2 491 := ⟨at_489, rfl⟩
theorem i0_491 : Ins M0 491 (.invokestatic 50) 3 494 := ⟨at_491, rfl⟩
theorem i0_494 : Ins M0 494 (.ifCond .eq 7) 3 497 := ⟨at_494, rfl⟩
theorem i0_497 : Ins M0 497 (.iconst 1) 1 498 := ⟨at_497, rfl⟩
theorem i0_498 : Ins M0 498 (.goto 4) 3 501 := ⟨at_498, rfl⟩
theorem i0_501 : Ins M0 501 (.iconst 0) 1 502 := ⟨at_501, rfl⟩
theorem i0_502 : Ins M0 502 (.istore 26) 2 504 := ⟨at_502, rfl⟩
theorem i0_504 : Ins M0 504 (.iload 24) 2 506 := ⟨at_504, rfl⟩
theorem i0_506 : Ins M0 506 (.ifCond .eq 7) 3 509 := ⟨at_506, rfl⟩
theorem i0_509 : Ins M0 509 (.iconst 0) 1 510 := ⟨at_509, rfl⟩
theorem i0_510 : Ins M0 510 (.goto 22) 3 513 := ⟨at_510, rfl⟩
theorem i0_513 : Ins M0 513 (.iload 25) 2 515 := ⟨at_513, rfl⟩
theorem i0_515 : Ins M0 515 (.ifCond .eq 7) 3 518 := ⟨at_515, rfl⟩
theorem i0_518 : Ins M0 518 (.iconst 1) 1 519 := ⟨at_518, rfl⟩
theorem i0_519 : Ins M0 519 (.goto 13) 3 522 := ⟨at_519, rfl⟩
theorem i0_522 : Ins M0 522 (.iload 26) 2 524 := ⟨at_522, rfl⟩
theorem i0_524 : Ins M0 524 (.ifCond .eq 7) 3 527 := ⟨at_524, rfl⟩
theorem i0_527 : Ins M0 527 (.iconst 2) 1 528 := ⟨at_527, rfl⟩
theorem i0_528 : Ins M0 528 (.goto 4) 3 531 := ⟨at_528, rfl⟩
theorem i0_531 : Ins M0 531 (.iconst (-1)) 1 532 := ⟨at_531, rfl⟩
theorem i0_532 : Ins M0 532 (.istore 27) 2 534 := ⟨at_532, rfl⟩
theorem i0_534 : Ins M0 534 (.iload 23) 2 536 := ⟨at_534, rfl⟩
theorem i0_536 : Ins M0 536 (.iload 27) 2 538 := ⟨at_536, rfl⟩
theorem i0_538 : Ins M0 538 (.if_icmp .ne 7) 3 541 := ⟨at_538, rfl⟩
theorem i0_541 : Ins M0 541 (.iconst 1) 1 542 := ⟨at_541, rfl⟩
theorem i0_542 : Ins M0 542 (.goto 4) 3 545 := ⟨at_542, rfl⟩
theorem i0_545 : Ins M0 545 (.iconst 0) 1 546 := ⟨at_545, rfl⟩
theorem i0_546 : Ins M0 546 (.ireturn) 1 547 := ⟨at_546, rfl⟩
theorem pn0 : plainFor M0.1 = true := plainFor_of_name (by first | (simp [plainName, overriddenIn, M0, x]; done) | decide +kernel)
theorem pd0 : parseMethodDescriptor M0.1.desc = some ⟨[.int, .int, .long, .int], some (.boolean)⟩ := by decide +kernel
def M1 : GM := (⟨"com/example/meshwright/meshwright/grid/SubcubeListFirstMeetingPinLaw", "nib", "(JI)I"⟩, method_2_code, 3, some (.int))
theorem i1_0 : Ins M1 0 (.lload_n 0) 1 1 := ⟨by decide +kernel, rfl⟩
theorem i1_1 : Ins M1 1 (.iload_n 2) 1 2 := ⟨by decide +kernel, rfl⟩
theorem i1_2 : Ins M1 2 (.lushr) 1 3 := ⟨by decide +kernel, rfl⟩
theorem i1_3 : Ins M1 3 (.ldc2_w 7) 3 6 := ⟨by decide +kernel, rfl⟩
theorem i1_6 : Ins M1 6 (.land) 1 7 := ⟨by decide +kernel, rfl⟩
theorem i1_7 : Ins M1 7 (.l2i) 1 8 := ⟨by decide +kernel, rfl⟩
theorem i1_8 : Ins M1 8 (.ireturn) 1 9 := ⟨by decide +kernel, rfl⟩
theorem pn1 : plainFor M1.1 = true := plainFor_of_name (by first | (simp [plainName, overriddenIn, M1, x]; done) | decide +kernel)
theorem pd1 : parseMethodDescriptor M1.1.desc = some ⟨[.long, .int], some (.int)⟩ := by decide +kernel
def M2 : GM := (⟨"com/example/meshwright/meshwright/grid/SubcubeList", "<init>", "(II)V"⟩, prog_121_method_1_code, 3, none)
theorem i2_0 : Ins M2 0 (.aload_n 0) 1 1 := ⟨by decide +kernel, rfl⟩
theorem i2_1 : Ins M2 1 (.invokespecial 1) 3 4 := ⟨by decide +kernel, rfl⟩
theorem i2_4 : Ins M2 4 (.aload_n 0) 1 5 := ⟨by decide +kernel, rfl⟩
theorem i2_5 : Ins M2 5 (.bipush 64) 2 7 := ⟨by decide +kernel, rfl⟩
theorem i2_7 : Ins M2 7 (.anewarray 9) 3 10 := ⟨by decide +kernel, rfl⟩
theorem i2_10 : Ins M2 10 (.putfield 11) 3 13 := ⟨by decide +kernel, rfl⟩
theorem i2_13 : Ins M2 13 (.aload_n 0) 1 14 := ⟨by decide +kernel, rfl⟩
theorem i2_14 : Ins M2 14 (.iload_n 1) 1 15 := ⟨by decide +kernel, rfl⟩
theorem i2_15 : Ins M2 15 (.putfield 17) 3 18 := ⟨by decide +kernel, rfl⟩
theorem i2_18 : Ins M2 18 (.aload_n 0) 1 19 := ⟨by decide +kernel, rfl⟩
theorem i2_19 : Ins M2 19 (.iload_n 2) 1 20 := ⟨by decide +kernel, rfl⟩
theorem i2_20 : Ins M2 20 (.putfield 21) 3 23 := ⟨by decide +kernel, rfl⟩
theorem i2_23 : Ins M2 23 (.aload_n 0) 1 24 := ⟨by decide +kernel, rfl⟩
theorem i2_24 : Ins M2 24 (.aload_n 0) 1 25 := ⟨by decide +kernel, rfl⟩
theorem i2_25 : Ins M2 25 (.getfield 11) 3 28 := ⟨by decide +kernel, rfl⟩
theorem i2_28 : Ins M2 28 (.arraylength) 1 29 := ⟨by decide +kernel, rfl⟩
theorem i2_29 : Ins M2 29 (.iconst 2) 1 30 := ⟨by decide +kernel, rfl⟩
theorem i2_30 : Ins M2 30 (.imul) 1 31 := ⟨by decide +kernel, rfl⟩
theorem i2_31 : Ins M2 31 (.iload_n 2) 1 32 := ⟨by decide +kernel, rfl⟩
theorem i2_32 : Ins M2 32 (.imul) 1 33 := ⟨by decide +kernel, rfl⟩
theorem i2_33 : Ins M2 33 (.newarray .int) 2 35 := ⟨by decide +kernel, rfl⟩
theorem i2_35 : Ins M2 35 (.putfield 24) 3 38 := ⟨by decide +kernel, rfl⟩
theorem i2_38 : Ins M2 38 (.return_) 1 39 := ⟨by decide +kernel, rfl⟩
theorem pn2 : plainFor M2.1 = true := plainFor_of_name (by first | (simp [plainName, overriddenIn, M2, x]; done) | decide +kernel)
theorem pd2 : parseMethodDescriptor M2.1.desc = some ⟨[.int, .int], none⟩ := by decide +kernel
def M4 : GM := (⟨"com/example/meshwright/meshwright/grid/Subcube", "<init>", "([I[I)V"⟩, prog_120_method_1_code, 9, none)
theorem i4_0 : Ins M4 0 (.aload_n 0) 1 1 := ⟨by decide +kernel, rfl⟩
theorem i4_1 : Ins M4 1 (.invokespecial 1) 3 4 := ⟨by decide +kernel, rfl⟩
theorem i4_4 : Ins M4 4 (.aload_n 1) 1 5 := ⟨by decide +kernel, rfl⟩
theorem i4_5 : Ins M4 5 (.arraylength) 1 6 := ⟨by decide +kernel, rfl⟩
theorem i4_6 : Ins M4 6 (.ifCond .eq 10) 3 9 := ⟨by decide +kernel, rfl⟩
theorem i4_9 : Ins M4 9 (.aload_n 1) 1 10 := ⟨by decide +kernel, rfl⟩
theorem i4_10 : Ins M4 10 (.arraylength) 1 11 := ⟨by decide +kernel, rfl⟩
theorem i4_11 : Ins M4 11 (.aload_n 2) 1 12 := ⟨by decide +kernel, rfl⟩
theorem i4_12 : Ins M4 12 (.arraylength) 1 13 := ⟨by decide +kernel, rfl⟩
theorem i4_13 : Ins M4 13 (.if_icmp .eq 20) 3 16 := ⟨by decide +kernel, rfl⟩
theorem i4_16 : Ins M4 16 (.new 7) 3 19 := ⟨by decide +kernel, rfl⟩
theorem i4_19 : Ins M4 19 (.dup) 1 20 := ⟨by decide +kernel, rfl⟩
theorem i4_20 : Ins M4 20 (.aload_n 1) 1 21 := ⟨by decide +kernel, rfl⟩
theorem i4_21 : Ins M4 21 (.arraylength) 1 22 := ⟨by decide +kernel, rfl⟩
theorem i4_22 : Ins M4 22 (.aload_n 2) 1 23 := ⟨by decide +kernel, rfl⟩
theorem i4_23 : Ins M4 23 (.arraylength) 1 24 := ⟨by decide +kernel, rfl⟩
theorem i4_24 : Ins M4 24 (.invokedynamic 9) 5 29 := ⟨by decide +kernel, rfl⟩
theorem i4_29 : Ins M4 29 (.invokespecial 13) 3 32 := ⟨by decide +kernel, rfl⟩
theorem i4_32 : Ins M4 32 (.athrow) 1 33 := ⟨by decide +kernel, rfl⟩
theorem i4_33 : Ins M4 33 (.iconst 0) 1 34 := ⟨by decide +kernel, rfl⟩
theorem i4_34 : Ins M4 34 (.istore_n 3) 1 35 := ⟨by decide +kernel, rfl⟩
theorem i4_35 : Ins M4 35 (.iload_n 3) 1 36 := ⟨by decide +kernel, rfl⟩
theorem i4_36 : Ins M4 36 (.aload_n 1) 1 37 := ⟨by decide +kernel, rfl⟩
theorem i4_37 : Ins M4 37 (.arraylength) 1 38 := ⟨by decide +kernel, rfl⟩
theorem i4_38 : Ins M4 38 (.if_icmp .ge 42) 3 41 := ⟨by decide +kernel, rfl⟩
theorem i4_41 : Ins M4 41 (.aload_n 1) 1 42 := ⟨by decide +kernel, rfl⟩
theorem i4_42 : Ins M4 42 (.iload_n 3) 1 43 := ⟨by decide +kernel, rfl⟩
theorem i4_43 : Ins M4 43 (.iaload) 1 44 := ⟨by decide +kernel, rfl⟩
theorem i4_44 : Ins M4 44 (.ifCond .lt 10) 3 47 := ⟨by decide +kernel, rfl⟩
theorem i4_47 : Ins M4 47 (.aload_n 2) 1 48 := ⟨by decide +kernel, rfl⟩
theorem i4_48 : Ins M4 48 (.iload_n 3) 1 49 := ⟨by decide +kernel, rfl⟩
theorem i4_49 : Ins M4 49 (.iaload) 1 50 := ⟨by decide +kernel, rfl⟩
theorem i4_50 : Ins M4 50 (.iconst 1) 1 51 := ⟨by decide +kernel, rfl⟩
theorem i4_51 : Ins M4 51 (.if_icmp .ge 23) 3 54 := ⟨by decide +kernel, rfl⟩
theorem i4_54 : Ins M4 54 (.new 7) 3 57 := ⟨by decide +kernel, rfl⟩
theorem i4_57 : Ins M4 57 (.dup) 1 58 := ⟨by decide +kernel, rfl⟩
theorem i4_58 : Ins M4 58 (.aload_n 1) 1 59 := ⟨by decide +kernel, rfl⟩
theorem i4_59 : Ins M4 59 (.iload_n 3) 1 60 := ⟨by decide +kernel, rfl⟩
theorem i4_60 : Ins M4 60 (.iaload) 1 61 := ⟨by decide +kernel, rfl⟩
theorem i4_61 : Ins M4 61 (.aload_n 2) 1 62 := ⟨by decide +kernel, rfl⟩
theorem i4_62 : Ins M4 62 (.iload_n 3) 1 63 := ⟨by decide +kernel, rfl⟩
theorem i4_63 : Ins M4 63 (.iaload) 1 64 := ⟨by decide +kernel, rfl⟩
theorem i4_64 : Ins M4 64 (.iload_n 3) 1 65 := ⟨by decide +kernel, rfl⟩
theorem i4_65 : Ins M4 65 (.invokedynamic 16) 5 70 := ⟨by decide +kernel, rfl⟩
theorem i4_70 : Ins M4 70 (.invokespecial 13) 3 73 := ⟨by decide +kernel, rfl⟩
theorem i4_73 : Ins M4 73 (.athrow) 1 74 := ⟨by decide +kernel, rfl⟩
theorem i4_74 : Ins M4 74 (.iinc 3 1) 3 77 := ⟨by decide +kernel, rfl⟩
theorem i4_77 : Ins M4 77 (.goto (-42)) 3 80 := ⟨by decide +kernel, rfl⟩
theorem i4_80 : Ins M4 80 (.aload_n 0) 1 81 := ⟨by decide +kernel, rfl⟩
theorem i4_81 : Ins M4 81 (.aload_n 1) 1 82 := ⟨by decide +kernel, rfl⟩
theorem i4_82 : Ins M4 82 (.invokevirtual 19) 3 85 := ⟨by decide +kernel, rfl⟩
theorem i4_85 : Ins M4 85 (.checkcast 20) 3 88 := ⟨by decide +kernel, rfl⟩
theorem i4_88 : Ins M4 88 (.putfield 25) 3 91 := ⟨by decide +kernel, rfl⟩
theorem i4_91 : Ins M4 91 (.aload_n 0) 1 92 := ⟨by decide +kernel, rfl⟩
theorem i4_92 : Ins M4 92 (.aload_n 2) 1 93 := ⟨by decide +kernel, rfl⟩
theorem i4_93 : Ins M4 93 (.invokevirtual 19) 3 96 := ⟨by decide +kernel, rfl⟩
theorem i4_96 : Ins M4 96 (.checkcast 20) 3 99 := ⟨by decide +kernel, rfl⟩
theorem i4_99 : Ins M4 99 (.putfield 30) 3 102 := ⟨by decide +kernel, rfl⟩
theorem i4_102 : Ins M4 102 (.lconst 1) 1 103 := ⟨by decide +kernel, rfl⟩
theorem i4_103 : Ins M4 103 (.lstore_n 3) 1 104 := ⟨by decide +kernel, rfl⟩
theorem i4_104 : Ins M4 104 (.aload_n 2) 1 105 := ⟨by decide +kernel, rfl⟩
theorem i4_105 : Ins M4 105 (.astore 5) 2 107 := ⟨by decide +kernel, rfl⟩
theorem i4_107 : Ins M4 107 (.aload 5) 2 109 := ⟨by decide +kernel, rfl⟩
theorem i4_109 : Ins M4 109 (.arraylength) 1 110 := ⟨by decide +kernel, rfl⟩
theorem i4_110 : Ins M4 110 (.istore 6) 2 112 := ⟨by decide +kernel, rfl⟩
theorem i4_112 : Ins M4 112 (.iconst 0) 1 113 := ⟨by decide +kernel, rfl⟩
theorem i4_113 : Ins M4 113 (.istore 7) 2 115 := ⟨by decide +kernel, rfl⟩
theorem i4_115 : Ins M4 115 (.iload 7) 2 117 := ⟨by decide +kernel, rfl⟩
theorem i4_117 : Ins M4 117 (.iload 6) 2 119 := ⟨by decide +kernel, rfl⟩
theorem i4_119 : Ins M4 119 (.if_icmp .ge 22) 3 122 := ⟨by decide +kernel, rfl⟩
theorem i4_122 : Ins M4 122 (.aload 5) 2 124 := ⟨by decide +kernel, rfl⟩
theorem i4_124 : Ins M4 124 (.iload 7) 2 126 := ⟨by decide +kernel, rfl⟩
theorem i4_126 : Ins M4 126 (.iaload) 1 127 := ⟨by decide +kernel, rfl⟩
theorem i4_127 : Ins M4 127 (.istore 8) 2 129 := ⟨by decide +kernel, rfl⟩
theorem i4_129 : Ins M4 129 (.lload_n 3) 1 130 := ⟨by decide +kernel, rfl⟩
theorem i4_130 : Ins M4 130 (.iload 8) 2 132 := ⟨by decide +kernel, rfl⟩
theorem i4_132 : Ins M4 132 (.i2l) 1 133 := ⟨by decide +kernel, rfl⟩
theorem i4_133 : Ins M4 133 (.lmul) 1 134 := ⟨by decide +kernel, rfl⟩
theorem i4_134 : Ins M4 134 (.lstore_n 3) 1 135 := ⟨by decide +kernel, rfl⟩
theorem i4_135 : Ins M4 135 (.iinc 7 1) 3 138 := ⟨by decide +kernel, rfl⟩
theorem i4_138 : Ins M4 138 (.goto (-23)) 3 141 := ⟨by decide +kernel, rfl⟩
theorem i4_141 : Ins M4 141 (.aload_n 0) 1 142 := ⟨by decide +kernel, rfl⟩
theorem i4_142 : Ins M4 142 (.lload_n 3) 1 143 := ⟨by decide +kernel, rfl⟩
theorem i4_143 : Ins M4 143 (.putfield 33) 3 146 := ⟨by decide +kernel, rfl⟩
theorem i4_146 : Ins M4 146 (.aload_n 0) 1 147 := ⟨by decide +kernel, rfl⟩
theorem i4_147 : Ins M4 147 (.bipush 31) 2 149 := ⟨by decide +kernel, rfl⟩
theorem i4_149 : Ins M4 149 (.aload_n 1) 1 150 := ⟨by decide +kernel, rfl⟩
theorem i4_150 : Ins M4 150 (.invokestatic 37) 3 153 := ⟨by decide +kernel, rfl⟩
theorem i4_153 : Ins M4 153 (.imul) 1 154 := ⟨by decide +kernel, rfl⟩
theorem i4_154 : Ins M4 154 (.aload_n 2) 1 155 := ⟨by decide +kernel, rfl⟩
theorem i4_155 : Ins M4 155 (.invokestatic 37) 3 158 := ⟨by decide +kernel, rfl⟩
theorem i4_158 : Ins M4 158 (.iadd) 1 159 := ⟨by decide +kernel, rfl⟩
theorem i4_159 : Ins M4 159 (.putfield 43) 3 162 := ⟨by decide +kernel, rfl⟩
theorem i4_162 : Ins M4 162 (.return_) 1 163 := ⟨by decide +kernel, rfl⟩
theorem pn4 : plainFor M4.1 = true := plainFor_of_name (by first | (simp [plainName, overriddenIn, M4, x]; done) | decide +kernel)
theorem pd4 : parseMethodDescriptor M4.1.desc = some ⟨[(.array .int), (.array .int)], none⟩ := by decide +kernel
def M5 : GM := (⟨"java/util/Arrays", "hashCode", "([I)I"⟩, jdk_65_method_150_code, 1, some (.int))
theorem i5_0 : Ins M5 0 (.aload_n 0) 1 1 := ⟨by decide +kernel, rfl⟩
theorem i5_1 : Ins M5 1 (.ifnonnull 5) 3 4 := ⟨by decide +kernel, rfl⟩
theorem i5_4 : Ins M5 4 (.iconst 0) 1 5 := ⟨by decide +kernel, rfl⟩
theorem i5_5 : Ins M5 5 (.ireturn) 1 6 := ⟨by decide +kernel, rfl⟩
theorem i5_6 : Ins M5 6 (.aload_n 0) 1 7 := ⟨by decide +kernel, rfl⟩
theorem i5_7 : Ins M5 7 (.arraylength) 1 8 := ⟨by decide +kernel, rfl⟩
theorem i5_8 : Ins M5 8 (.lookupswitch 41 #[(0, 28), (1, 32)]) 28 36 := ⟨by decide +kernel, rfl⟩
theorem i5_36 : Ins M5 36 (.iconst 1) 1 37 := ⟨by decide +kernel, rfl⟩
theorem i5_37 : Ins M5 37 (.goto 22) 3 40 := ⟨by decide +kernel, rfl⟩
theorem i5_40 : Ins M5 40 (.bipush 31) 2 42 := ⟨by decide +kernel, rfl⟩
theorem i5_42 : Ins M5 42 (.aload_n 0) 1 43 := ⟨by decide +kernel, rfl⟩
theorem i5_43 : Ins M5 43 (.iconst 0) 1 44 := ⟨by decide +kernel, rfl⟩
theorem i5_44 : Ins M5 44 (.iaload) 1 45 := ⟨by decide +kernel, rfl⟩
theorem i5_45 : Ins M5 45 (.iadd) 1 46 := ⟨by decide +kernel, rfl⟩
theorem i5_46 : Ins M5 46 (.goto 13) 3 49 := ⟨by decide +kernel, rfl⟩
theorem i5_49 : Ins M5 49 (.aload_n 0) 1 50 := ⟨by decide +kernel, rfl⟩
theorem i5_50 : Ins M5 50 (.iconst 0) 1 51 := ⟨by decide +kernel, rfl⟩
theorem i5_51 : Ins M5 51 (.aload_n 0) 1 52 := ⟨by decide +kernel, rfl⟩
theorem i5_52 : Ins M5 52 (.arraylength) 1 53 := ⟨by decide +kernel, rfl⟩
theorem i5_53 : Ins M5 53 (.iconst 1) 1 54 := ⟨by decide +kernel, rfl⟩
theorem i5_54 : Ins M5 54 (.bipush 10) 2 56 := ⟨by decide +kernel, rfl⟩
theorem i5_56 : Ins M5 56 (.invokestatic 379) 3 59 := ⟨by decide +kernel, rfl⟩
theorem i5_59 : Ins M5 59 (.ireturn) 1 60 := ⟨by decide +kernel, rfl⟩
theorem pn5 : plainFor M5.1 = true := plainFor_of_name (by first | (simp [plainName, overriddenIn, M5, x]; done) | decide +kernel)
theorem pd5 : parseMethodDescriptor M5.1.desc = some ⟨[(.array .int)], some (.int)⟩ := by decide +kernel
def M6 : GM := (⟨"jdk/internal/util/ArraysSupport", "vectorizedHashCode", "(Ljava/lang/Object;IIII)I"⟩, jdk_48_method_4_code, 5, some (.int))
theorem i6_0 : Ins M6 0 (.iload 4) 2 2 := ⟨by decide +kernel, rfl⟩
theorem i6_2 : Ins M6 2 (.tableswitch 127 4 10 #[42, 55, 127, 127, 88, 101, 114]) 42 44 := ⟨by decide +kernel, rfl⟩
theorem i6_44 : Ins M6 44 (.iload_n 3) 1 45 := ⟨by decide +kernel, rfl⟩
theorem i6_45 : Ins M6 45 (.aload_n 0) 1 46 := ⟨by decide +kernel, rfl⟩
theorem i6_46 : Ins M6 46 (.checkcast 60) 3 49 := ⟨by decide +kernel, rfl⟩
theorem i6_49 : Ins M6 49 (.iload_n 1) 1 50 := ⟨by decide +kernel, rfl⟩
theorem i6_50 : Ins M6 50 (.iload_n 2) 1 51 := ⟨by decide +kernel, rfl⟩
theorem i6_51 : Ins M6 51 (.invokestatic 62) 3 54 := ⟨by decide +kernel, rfl⟩
theorem i6_54 : Ins M6 54 (.goto 103) 3 57 := ⟨by decide +kernel, rfl⟩
theorem i6_57 : Ins M6 57 (.aload_n 0) 1 58 := ⟨by decide +kernel, rfl⟩
theorem i6_58 : Ins M6 58 (.instanceof 60) 3 61 := ⟨by decide +kernel, rfl⟩
theorem i6_61 : Ins M6 61 (.ifCond .eq 16) 3 64 := ⟨by decide +kernel, rfl⟩
theorem i6_64 : Ins M6 64 (.iload_n 3) 1 65 := ⟨by decide +kernel, rfl⟩
theorem i6_65 : Ins M6 65 (.aload_n 0) 1 66 := ⟨by decide +kernel, rfl⟩
theorem i6_66 : Ins M6 66 (.checkcast 60) 3 69 := ⟨by decide +kernel, rfl⟩
theorem i6_69 : Ins M6 69 (.iload_n 1) 1 70 := ⟨by decide +kernel, rfl⟩
theorem i6_70 : Ins M6 70 (.iload_n 2) 1 71 := ⟨by decide +kernel, rfl⟩
theorem i6_71 : Ins M6 71 (.invokestatic 66) 3 74 := ⟨by decide +kernel, rfl⟩
theorem i6_74 : Ins M6 74 (.goto 83) 3 77 := ⟨by decide +kernel, rfl⟩
theorem i6_77 : Ins M6 77 (.iload_n 3) 1 78 := ⟨by decide +kernel, rfl⟩
theorem i6_78 : Ins M6 78 (.aload_n 0) 1 79 := ⟨by decide +kernel, rfl⟩
theorem i6_79 : Ins M6 79 (.checkcast 69) 3 82 := ⟨by decide +kernel, rfl⟩
theorem i6_82 : Ins M6 82 (.iload_n 1) 1 83 := ⟨by decide +kernel, rfl⟩
theorem i6_83 : Ins M6 83 (.iload_n 2) 1 84 := ⟨by decide +kernel, rfl⟩
theorem i6_84 : Ins M6 84 (.invokestatic 71) 3 87 := ⟨by decide +kernel, rfl⟩
theorem i6_87 : Ins M6 87 (.goto 70) 3 90 := ⟨by decide +kernel, rfl⟩
theorem i6_90 : Ins M6 90 (.iload_n 3) 1 91 := ⟨by decide +kernel, rfl⟩
theorem i6_91 : Ins M6 91 (.aload_n 0) 1 92 := ⟨by decide +kernel, rfl⟩
theorem i6_92 : Ins M6 92 (.checkcast 60) 3 95 := ⟨by decide +kernel, rfl⟩
theorem i6_95 : Ins M6 95 (.iload_n 1) 1 96 := ⟨by decide +kernel, rfl⟩
theorem i6_96 : Ins M6 96 (.iload_n 2) 1 97 := ⟨by decide +kernel, rfl⟩
theorem i6_97 : Ins M6 97 (.invokestatic 75) 3 100 := ⟨by decide +kernel, rfl⟩
theorem i6_100 : Ins M6 100 (.goto 57) 3 103 := ⟨by decide +kernel, rfl⟩
theorem i6_103 : Ins M6 103 (.iload_n 3) 1 104 := ⟨by decide +kernel, rfl⟩
theorem i6_104 : Ins M6 104 (.aload_n 0) 1 105 := ⟨by decide +kernel, rfl⟩
theorem i6_105 : Ins M6 105 (.checkcast 77) 3 108 := ⟨by decide +kernel, rfl⟩
theorem i6_108 : Ins M6 108 (.iload_n 1) 1 109 := ⟨by decide +kernel, rfl⟩
theorem i6_109 : Ins M6 109 (.iload_n 2) 1 110 := ⟨by decide +kernel, rfl⟩
theorem i6_110 : Ins M6 110 (.invokestatic 79) 3 113 := ⟨by decide +kernel, rfl⟩
theorem i6_113 : Ins M6 113 (.goto 44) 3 116 := ⟨by decide +kernel, rfl⟩
theorem i6_116 : Ins M6 116 (.iload_n 3) 1 117 := ⟨by decide +kernel, rfl⟩
theorem i6_117 : Ins M6 117 (.aload_n 0) 1 118 := ⟨by decide +kernel, rfl⟩
theorem i6_118 : Ins M6 118 (.checkcast 82) 3 121 := ⟨by decide +kernel, rfl⟩
theorem i6_121 : Ins M6 121 (.iload_n 1) 1 122 := ⟨by decide +kernel, rfl⟩
theorem i6_122 : Ins M6 122 (.iload_n 2) 1 123 := ⟨by decide +kernel, rfl⟩
theorem i6_123 : Ins M6 123 (.invokestatic 84) 3 126 := ⟨by decide +kernel, rfl⟩
theorem i6_126 : Ins M6 126 (.goto 31) 3 129 := ⟨by decide +kernel, rfl⟩
theorem i6_129 : Ins M6 129 (.new 87) 3 132 := ⟨by decide +kernel, rfl⟩
theorem i6_132 : Ins M6 132 (.dup) 1 133 := ⟨by decide +kernel, rfl⟩
theorem i6_133 : Ins M6 133 (.new 89) 3 136 := ⟨by decide +kernel, rfl⟩
theorem i6_136 : Ins M6 136 (.dup) 1 137 := ⟨by decide +kernel, rfl⟩
theorem i6_137 : Ins M6 137 (.invokespecial 91) 3 140 := ⟨by decide +kernel, rfl⟩
theorem i6_140 : Ins M6 140 (.ldc 92) 2 142 := ⟨by decide +kernel, rfl⟩
theorem i6_142 : Ins M6 142 (.invokevirtual 94) 3 145 := ⟨by decide +kernel, rfl⟩
theorem i6_145 : Ins M6 145 (.iload 4) 2 147 := ⟨by decide +kernel, rfl⟩
theorem i6_147 : Ins M6 147 (.invokevirtual 98) 3 150 := ⟨by decide +kernel, rfl⟩
theorem i6_150 : Ins M6 150 (.invokevirtual 101) 3 153 := ⟨by decide +kernel, rfl⟩
theorem i6_153 : Ins M6 153 (.invokespecial 105) 3 156 := ⟨by decide +kernel, rfl⟩
theorem i6_156 : Ins M6 156 (.athrow) 1 157 := ⟨by decide +kernel, rfl⟩
theorem i6_157 : Ins M6 157 (.ireturn) 1 158 := ⟨by decide +kernel, rfl⟩
theorem pn6 : plainFor M6.1 = true := plainFor_of_name (by first | (simp [plainName, overriddenIn, M6, x]; done) | decide +kernel)
theorem pd6 : parseMethodDescriptor M6.1.desc = some ⟨[(.object "java/lang/Object"), .int, .int, .int, .int], some (.int)⟩ := by decide +kernel
def M7 : GM := (⟨"jdk/internal/util/ArraysSupport", "hashCode", "(I[III)I"⟩, jdk_48_method_9_code, 6, some (.int))
theorem i7_0 : Ins M7 0 (.iload_n 2) 1 1 := ⟨by decide +kernel, rfl⟩
theorem i7_1 : Ins M7 1 (.iload_n 3) 1 2 := ⟨by decide +kernel, rfl⟩
theorem i7_2 : Ins M7 2 (.iadd) 1 3 := ⟨by decide +kernel, rfl⟩
theorem i7_3 : Ins M7 3 (.istore 4) 2 5 := ⟨by decide +kernel, rfl⟩
theorem i7_5 : Ins M7 5 (.iload_n 2) 1 6 := ⟨by decide +kernel, rfl⟩
theorem i7_6 : Ins M7 6 (.istore 5) 2 8 := ⟨by decide +kernel, rfl⟩
theorem i7_8 : Ins M7 8 (.iload 5) 2 10 := ⟨by decide +kernel, rfl⟩
theorem i7_10 : Ins M7 10 (.iload 4) 2 12 := ⟨by decide +kernel, rfl⟩
theorem i7_12 : Ins M7 12 (.if_icmp .ge 19) 3 15 := ⟨by decide +kernel, rfl⟩
theorem i7_15 : Ins M7 15 (.bipush 31) 2 17 := ⟨by decide +kernel, rfl⟩
theorem i7_17 : Ins M7 17 (.iload_n 0) 1 18 := ⟨by decide +kernel, rfl⟩
theorem i7_18 : Ins M7 18 (.imul) 1 19 := ⟨by decide +kernel, rfl⟩
theorem i7_19 : Ins M7 19 (.aload_n 1) 1 20 := ⟨by decide +kernel, rfl⟩
theorem i7_20 : Ins M7 20 (.iload 5) 2 22 := ⟨by decide +kernel, rfl⟩
theorem i7_22 : Ins M7 22 (.iaload) 1 23 := ⟨by decide +kernel, rfl⟩
theorem i7_23 : Ins M7 23 (.iadd) 1 24 := ⟨by decide +kernel, rfl⟩
theorem i7_24 : Ins M7 24 (.istore_n 0) 1 25 := ⟨by decide +kernel, rfl⟩
theorem i7_25 : Ins M7 25 (.iinc 5 1) 3 28 := ⟨by decide +kernel, rfl⟩
theorem i7_28 : Ins M7 28 (.goto (-20)) 3 31 := ⟨by decide +kernel, rfl⟩
theorem i7_31 : Ins M7 31 (.iload_n 0) 1 32 := ⟨by decide +kernel, rfl⟩
theorem i7_32 : Ins M7 32 (.ireturn) 1 33 := ⟨by decide +kernel, rfl⟩
theorem pn7 : plainFor M7.1 = true := plainFor_of_name (by first | (simp [plainName, overriddenIn, M7, x]; done) | decide +kernel)
theorem pd7 : parseMethodDescriptor M7.1.desc = some ⟨[.int, (.array .int), .int, .int], some (.int)⟩ := by decide +kernel
def M8 : GM := (⟨"com/example/meshwright/meshwright/grid/SubcubeList", "add", "(ILcom/example/meshwright/meshwright/grid/Subcube;)V"⟩, prog_121_method_4_code, 5, none)
theorem i8_0 : Ins M8 0 (.aload_n 0) 1 1 := ⟨by decide +kernel, rfl⟩
theorem i8_1 : Ins M8 1 (.getfield 28) 3 4 := ⟨by decide +kernel, rfl⟩
theorem i8_4 : Ins M8 4 (.aload_n 0) 1 5 := ⟨by decide +kernel, rfl⟩
theorem i8_5 : Ins M8 5 (.getfield 11) 3 8 := ⟨by decide +kernel, rfl⟩
theorem i8_8 : Ins M8 8 (.arraylength) 1 9 := ⟨by decide +kernel, rfl⟩
theorem i8_9 : Ins M8 9 (.if_icmp .ne 41) 3 12 := ⟨by decide +kernel, rfl⟩
theorem i8_12 : Ins M8 12 (.aload_n 0) 1 13 := ⟨by decide +kernel, rfl⟩
theorem i8_13 : Ins M8 13 (.aload_n 0) 1 14 := ⟨by decide +kernel, rfl⟩
theorem i8_14 : Ins M8 14 (.getfield 11) 3 17 := ⟨by decide +kernel, rfl⟩
theorem i8_17 : Ins M8 17 (.iconst 2) 1 18 := ⟨by decide +kernel, rfl⟩
theorem i8_18 : Ins M8 18 (.aload_n 0) 1 19 := ⟨by decide +kernel, rfl⟩
theorem i8_19 : Ins M8 19 (.getfield 28) 3 22 := ⟨by decide +kernel, rfl⟩
theorem i8_22 : Ins M8 22 (.imul) 1 23 := ⟨by decide +kernel, rfl⟩
theorem i8_23 : Ins M8 23 (.invokestatic 36) 3 26 := ⟨by decide +kernel, rfl⟩
theorem i8_26 : Ins M8 26 (.checkcast 42) 3 29 := ⟨by decide +kernel, rfl⟩
theorem i8_29 : Ins M8 29 (.putfield 11) 3 32 := ⟨by decide +kernel, rfl⟩
theorem i8_32 : Ins M8 32 (.aload_n 0) 1 33 := ⟨by decide +kernel, rfl⟩
theorem i8_33 : Ins M8 33 (.aload_n 0) 1 34 := ⟨by decide +kernel, rfl⟩
theorem i8_34 : Ins M8 34 (.getfield 24) 3 37 := ⟨by decide +kernel, rfl⟩
theorem i8_37 : Ins M8 37 (.iconst 2) 1 38 := ⟨by decide +kernel, rfl⟩
theorem i8_38 : Ins M8 38 (.aload_n 0) 1 39 := ⟨by decide +kernel, rfl⟩
theorem i8_39 : Ins M8 39 (.getfield 24) 3 42 := ⟨by decide +kernel, rfl⟩
theorem i8_42 : Ins M8 42 (.arraylength) 1 43 := ⟨by decide +kernel, rfl⟩
theorem i8_43 : Ins M8 43 (.imul) 1 44 := ⟨by decide +kernel, rfl⟩
theorem i8_44 : Ins M8 44 (.invokestatic 43) 3 47 := ⟨by decide +kernel, rfl⟩
theorem i8_47 : Ins M8 47 (.putfield 24) 3 50 := ⟨by decide +kernel, rfl⟩
theorem i8_50 : Ins M8 50 (.iconst 2) 1 51 := ⟨by decide +kernel, rfl⟩
theorem i8_51 : Ins M8 51 (.aload_n 0) 1 52 := ⟨by decide +kernel, rfl⟩
theorem i8_52 : Ins M8 52 (.getfield 21) 3 55 := ⟨by decide +kernel, rfl⟩
theorem i8_55 : Ins M8 55 (.imul) 1 56 := ⟨by decide +kernel, rfl⟩
theorem i8_56 : Ins M8 56 (.istore_n 3) 1 57 := ⟨by decide +kernel, rfl⟩
theorem i8_57 : Ins M8 57 (.aload_n 0) 1 58 := ⟨by decide +kernel, rfl⟩
theorem i8_58 : Ins M8 58 (.getfield 11) 3 61 := ⟨by decide +kernel, rfl⟩
theorem i8_61 : Ins M8 61 (.iload_n 1) 1 62 := ⟨by decide +kernel, rfl⟩
theorem i8_62 : Ins M8 62 (.aload_n 0) 1 63 := ⟨by decide +kernel, rfl⟩
theorem i8_63 : Ins M8 63 (.getfield 11) 3 66 := ⟨by decide +kernel, rfl⟩
theorem i8_66 : Ins M8 66 (.iload_n 1) 1 67 := ⟨by decide +kernel, rfl⟩
theorem i8_67 : Ins M8 67 (.iconst 1) 1 68 := ⟨by decide +kernel, rfl⟩
theorem i8_68 : Ins M8 68 (.iadd) 1 69 := ⟨by decide +kernel, rfl⟩
theorem i8_69 : Ins M8 69 (.aload_n 0) 1 70 := ⟨by decide +kernel, rfl⟩
theorem i8_70 : Ins M8 70 (.getfield 28) 3 73 := ⟨by decide +kernel, rfl⟩
theorem i8_73 : Ins M8 73 (.iload_n 1) 1 74 := ⟨by decide +kernel, rfl⟩
theorem i8_74 : Ins M8 74 (.isub) 1 75 := ⟨by decide +kernel, rfl⟩
theorem i8_75 : Ins M8 75 (.invokestatic 46) 3 78 := ⟨by decide +kernel, rfl⟩
theorem i8_78 : Ins M8 78 (.aload_n 0) 1 79 := ⟨by decide +kernel, rfl⟩
theorem i8_79 : Ins M8 79 (.getfield 24) 3 82 := ⟨by decide +kernel, rfl⟩
theorem i8_82 : Ins M8 82 (.iload_n 1) 1 83 := ⟨by decide +kernel, rfl⟩
theorem i8_83 : Ins M8 83 (.iload_n 3) 1 84 := ⟨by decide +kernel, rfl⟩
theorem i8_84 : Ins M8 84 (.imul) 1 85 := ⟨by decide +kernel, rfl⟩
theorem i8_85 : Ins M8 85 (.aload_n 0) 1 86 := ⟨by decide +kernel, rfl⟩
theorem i8_86 : Ins M8 86 (.getfield 24) 3 89 := ⟨by decide +kernel, rfl⟩
theorem i8_89 : Ins M8 89 (.iload_n 1) 1 90 := ⟨by decide +kernel, rfl⟩
theorem i8_90 : Ins M8 90 (.iconst 1) 1 91 := ⟨by decide +kernel, rfl⟩
theorem i8_91 : Ins M8 91 (.iadd) 1 92 := ⟨by decide +kernel, rfl⟩
theorem i8_92 : Ins M8 92 (.iload_n 3) 1 93 := ⟨by decide +kernel, rfl⟩
theorem i8_93 : Ins M8 93 (.imul) 1 94 := ⟨by decide +kernel, rfl⟩
theorem i8_94 : Ins M8 94 (.aload_n 0) 1 95 := ⟨by decide +kernel, rfl⟩
theorem i8_95 : Ins M8 95 (.getfield 28) 3 98 := ⟨by decide +kernel, rfl⟩
theorem i8_98 : Ins M8 98 (.iload_n 1) 1 99 := ⟨by decide +kernel, rfl⟩
theorem i8_99 : Ins M8 99 (.isub) 1 100 := ⟨by decide +kernel, rfl⟩
theorem i8_100 : Ins M8 100 (.iload_n 3) 1 101 := ⟨by decide +kernel, rfl⟩
theorem i8_101 : Ins M8 101 (.imul) 1 102 := ⟨by decide +kernel, rfl⟩
theorem i8_102 : Ins M8 102 (.invokestatic 46) 3 105 := ⟨by decide +kernel, rfl⟩
theorem i8_105 : Ins M8 105 (.aload_n 0) 1 106 := ⟨by decide +kernel, rfl⟩
theorem i8_106 : Ins M8 106 (.getfield 11) 3 109 := ⟨by decide +kernel, rfl⟩
theorem i8_109 : Ins M8 109 (.iload_n 1) 1 110 := ⟨by decide +kernel, rfl⟩
theorem i8_110 : Ins M8 110 (.aload_n 2) 1 111 := ⟨by decide +kernel, rfl⟩
theorem i8_111 : Ins M8 111 (.aastore) 1 112 := ⟨by decide +kernel, rfl⟩
theorem i8_112 : Ins M8 112 (.iconst 0) 1 113 := ⟨by decide +kernel, rfl⟩
theorem i8_113 : Ins M8 113 (.istore 4) 2 115 := ⟨by decide +kernel, rfl⟩
theorem i8_115 : Ins M8 115 (.iload 4) 2 117 := ⟨by decide +kernel, rfl⟩
theorem i8_117 : Ins M8 117 (.aload_n 0) 1 118 := ⟨by decide +kernel, rfl⟩
theorem i8_118 : Ins M8 118 (.getfield 21) 3 121 := ⟨by decide +kernel, rfl⟩
theorem i8_121 : Ins M8 121 (.if_icmp .ge 49) 3 124 := ⟨by decide +kernel, rfl⟩
theorem i8_124 : Ins M8 124 (.aload_n 0) 1 125 := ⟨by decide +kernel, rfl⟩
theorem i8_125 : Ins M8 125 (.getfield 24) 3 128 := ⟨by decide +kernel, rfl⟩
theorem i8_128 : Ins M8 128 (.iload_n 1) 1 129 := ⟨by decide +kernel, rfl⟩
theorem i8_129 : Ins M8 129 (.iload_n 3) 1 130 := ⟨by decide +kernel, rfl⟩
theorem i8_130 : Ins M8 130 (.imul) 1 131 := ⟨by decide +kernel, rfl⟩
theorem i8_131 : Ins M8 131 (.iconst 2) 1 132 := ⟨by decide +kernel, rfl⟩
theorem i8_132 : Ins M8 132 (.iload 4) 2 134 := ⟨by decide +kernel, rfl⟩
theorem i8_134 : Ins M8 134 (.imul) 1 135 := ⟨by decide +kernel, rfl⟩
theorem i8_135 : Ins M8 135 (.iadd) 1 136 := ⟨by decide +kernel, rfl⟩
theorem i8_136 : Ins M8 136 (.aload_n 2) 1 137 := ⟨by decide +kernel, rfl⟩
theorem i8_137 : Ins M8 137 (.iload 4) 2 139 := ⟨by decide +kernel, rfl⟩
theorem i8_139 : Ins M8 139 (.invokevirtual 52) 3 142 := ⟨by decide +kernel, rfl⟩
theorem i8_142 : Ins M8 142 (.iastore) 1 143 := ⟨by decide +kernel, rfl⟩
theorem i8_143 : Ins M8 143 (.aload_n 0) 1 144 := ⟨by decide +kernel, rfl⟩
theorem i8_144 : Ins M8 144 (.getfield 24) 3 147 := ⟨by decide +kernel, rfl⟩
theorem i8_147 : Ins M8 147 (.iload_n 1) 1 148 := ⟨by decide +kernel, rfl⟩
theorem i8_148 : Ins M8 148 (.iload_n 3) 1 149 := ⟨by decide +kernel, rfl⟩
theorem i8_149 : Ins M8 149 (.imul) 1 150 := ⟨by decide +kernel, rfl⟩
theorem i8_150 : Ins M8 150 (.iconst 2) 1 151 := ⟨by decide +kernel, rfl⟩
theorem i8_151 : Ins M8 151 (.iload 4) 2 153 := ⟨by decide +kernel, rfl⟩
theorem i8_153 : Ins M8 153 (.imul) 1 154 := ⟨by decide +kernel, rfl⟩
theorem i8_154 : Ins M8 154 (.iadd) 1 155 := ⟨by decide +kernel, rfl⟩
theorem i8_155 : Ins M8 155 (.iconst 1) 1 156 := ⟨by decide +kernel, rfl⟩
theorem i8_156 : Ins M8 156 (.iadd) 1 157 := ⟨by decide +kernel, rfl⟩
theorem i8_157 : Ins M8 157 (.aload_n 2) 1 158 := ⟨by decide +kernel, rfl⟩
theorem i8_158 : Ins M8 158 (.iload 4) 2 160 := ⟨by decide +kernel, rfl⟩
theorem i8_160 : Ins M8 160 (.invokevirtual 56) 3 163 := ⟨by decide +kernel, rfl⟩
theorem i8_163 : Ins M8 163 (.iastore) 1 164 := ⟨by decide +kernel, rfl⟩
theorem i8_164 : Ins M8 164 (.iinc 4 1) 3 167 := ⟨by decide +kernel, rfl⟩
theorem i8_167 : Ins M8 167 (.goto (-52)) 3 170 := ⟨by decide +kernel, rfl⟩
theorem i8_170 : Ins M8 170 (.aload_n 0) 1 171 := ⟨by decide +kernel, rfl⟩
theorem i8_171 : Ins M8 171 (.dup) 1 172 := ⟨by decide +kernel, rfl⟩
theorem i8_172 : Ins M8 172 (.getfield 28) 3 175 := ⟨by decide +kernel, rfl⟩
theorem i8_175 : Ins M8 175 (.iconst 1) 1 176 := ⟨by decide +kernel, rfl⟩
theorem i8_176 : Ins M8 176 (.iadd) 1 177 := ⟨by decide +kernel, rfl⟩
theorem i8_177 : Ins M8 177 (.putfield 28) 3 180 := ⟨by decide +kernel, rfl⟩
theorem i8_180 : Ins M8 180 (.return_) 1 181 := ⟨by decide +kernel, rfl⟩
theorem pn8 : plainFor M8.1 = true := plainFor_of_name (by first | (simp [plainName, overriddenIn, M8, x]; done) | decide +kernel)
theorem pd8 : parseMethodDescriptor M8.1.desc = some ⟨[.int, (.object "com/example/meshwright/meshwright/grid/Subcube")], none⟩ := by decide +kernel
def M9 : GM := (⟨"com/example/meshwright/meshwright/grid/Subcube", "start", "(I)I"⟩, prog_120_method_3_code, 2, some (.int))
theorem i9_0 : Ins M9 0 (.aload_n 0) 1 1 := ⟨by decide +kernel, rfl⟩
theorem i9_1 : Ins M9 1 (.getfield 25) 3 4 := ⟨by decide +kernel, rfl⟩
theorem i9_4 : Ins M9 4 (.iload_n 1) 1 5 := ⟨by decide +kernel, rfl⟩
theorem i9_5 : Ins M9 5 (.iaload) 1 6 := ⟨by decide +kernel, rfl⟩
theorem i9_6 : Ins M9 6 (.ireturn) 1 7 := ⟨by decide +kernel, rfl⟩
theorem pn9 : plainFor M9.1 = true := plainFor_of_name (by first | (simp [plainName, overriddenIn, M9, x]; done) | decide +kernel)
theorem pd9 : parseMethodDescriptor M9.1.desc = some ⟨[.int], some (.int)⟩ := by decide +kernel
def M10 : GM := (⟨"com/example/meshwright/meshwright/grid/Subcube", "count", "(I)I"⟩, prog_120_method_4_code, 2, some (.int))
theorem i10_0 : Ins M10 0 (.aload_n 0) 1 1 := ⟨by decide +kernel, rfl⟩
theorem i10_1 : Ins M10 1 (.getfield 30) 3 4 := ⟨by decide +kernel, rfl⟩
theorem i10_4 : Ins M10 4 (.iload_n 1) 1 5 := ⟨by decide +kernel, rfl⟩
theorem i10_5 : Ins M10 5 (.iaload) 1 6 := ⟨by decide +kernel, rfl⟩
theorem i10_6 : Ins M10 6 (.ireturn) 1 7 := ⟨by decide +kernel, rfl⟩
theorem pn10 : plainFor M10.1 = true := plainFor_of_name (by first | (simp [plainName, overriddenIn, M10, x]; done) | decide +kernel)
theorem pd10 : parseMethodDescriptor M10.1.desc = some ⟨[.int], some (.int)⟩ := by decide +kernel
def M11 : GM := (⟨"com/example/meshwright/meshwright/grid/SubcubeList", "firstMeeting", "([I[I[I)I"⟩, prog_121_method_7_code, 14, some (.int))
theorem i11_0 : Ins M11 0 (.iconst 2) 1 1 := ⟨by decide +kernel, rfl⟩
theorem i11_1 : Ins M11 1 (.aload_n 0) 1 2 := ⟨by decide +kernel, rfl⟩
theorem i11_2 : Ins M11 2 (.getfield 21) 3 5 := ⟨by decide +kernel, rfl⟩
theorem i11_5 : Ins M11 5 (.imul) 1 6 := ⟨by decide +kernel, rfl⟩
theorem i11_6 : Ins M11 6 (.istore 4) 2 8 := ⟨by decide +kernel, rfl⟩
theorem i11_8 : Ins M11 8 (.iconst (-1)) 1 9 := ⟨by decide +kernel, rfl⟩
theorem i11_9 : Ins M11 9 (.istore 5) 2 11 := ⟨by decide +kernel, rfl⟩
theorem i11_11 : Ins M11 11 (.iconst 0) 1 12 := ⟨by decide +kernel, rfl⟩
theorem i11_12 : Ins M11 12 (.istore 6) 2 14 := ⟨by decide +kernel, rfl⟩
theorem i11_14 : Ins M11 14 (.iload 6) 2 16 := ⟨by decide +kernel, rfl⟩
theorem i11_16 : Ins M11 16 (.aload_n 0) 1 17 := ⟨by decide +kernel, rfl⟩
theorem i11_17 : Ins M11 17 (.getfield 28) 3 20 := ⟨by decide +kernel, rfl⟩
theorem i11_20 : Ins M11 20 (.if_icmp .ge 157) 3 23 := ⟨by decide +kernel, rfl⟩
theorem i11_23 : Ins M11 23 (.iload 5) 2 25 := ⟨by decide +kernel, rfl⟩
theorem i11_25 : Ins M11 25 (.ifCond .ge 152) 3 28 := ⟨by decide +kernel, rfl⟩
theorem i11_28 : Ins M11 28 (.iload 6) 2 30 := ⟨by decide +kernel, rfl⟩
theorem i11_30 : Ins M11 30 (.iload 4) 2 32 := ⟨by decide +kernel, rfl⟩
theorem i11_32 : Ins M11 32 (.imul) 1 33 := ⟨by decide +kernel, rfl⟩
theorem i11_33 : Ins M11 33 (.istore 7) 2 35 := ⟨by decide +kernel, rfl⟩
theorem i11_35 : Ins M11 35 (.iconst 1) 1 36 := ⟨by decide +kernel, rfl⟩
theorem i11_36 : Ins M11 36 (.istore 8) 2 38 := ⟨by decide +kernel, rfl⟩
theorem i11_38 : Ins M11 38 (.iconst 0) 1 39 := ⟨by decide +kernel, rfl⟩
theorem i11_39 : Ins M11 39 (.istore 9) 2 41 := ⟨by decide +kernel, rfl⟩
theorem i11_41 : Ins M11 41 (.iload 9) 2 43 := ⟨by decide +kernel, rfl⟩
theorem i11_43 : Ins M11 43 (.aload_n 0) 1 44 := ⟨by decide +kernel, rfl⟩
theorem i11_44 : Ins M11 44 (.getfield 21) 3 47 := ⟨by decide +kernel, rfl⟩
theorem i11_47 : Ins M11 47 (.if_icmp .ge 111) 3 50 := ⟨by decide +kernel, rfl⟩
theorem i11_50 : Ins M11 50 (.iload 8) 2 52 := ⟨by decide +kernel, rfl⟩
theorem i11_52 : Ins M11 52 (.ifCond .eq 106) 3 55 := ⟨by decide +kernel, rfl⟩
theorem i11_55 : Ins M11 55 (.aload_n 3) 1 56 := ⟨by decide +kernel, rfl⟩
theorem i11_56 : Ins M11 56 (.iload 9) 2 58 := ⟨by decide +kernel, rfl⟩
theorem i11_58 : Ins M11 58 (.iaload) 1 59 := ⟨by decide +kernel, rfl⟩
theorem i11_59 : Ins M11 59 (.istore 10) 2 61 := ⟨by decide +kernel, rfl⟩
theorem i11_61 : Ins M11 61 (.aload_n 0) 1 62 := ⟨by decide +kernel, rfl⟩
theorem i11_62 : Ins M11 62 (.getfield 24) 3 65 := ⟨by decide +kernel, rfl⟩
theorem i11_65 : Ins M11 65 (.iload 7) 2 67 := ⟨by decide +kernel, rfl⟩
theorem i11_67 : Ins M11 67 (.iconst 2) 1 68 := ⟨by decide +kernel, rfl⟩
theorem i11_68 : Ins M11 68 (.iload 10) 2 70 := ⟨by decide +kernel, rfl⟩
theorem i11_70 : Ins M11 70 (.imul) 1 71 := ⟨by decide +kernel, rfl⟩
theorem i11_71 : Ins M11 71 (.iadd) 1 72 := ⟨by decide +kernel, rfl⟩
theorem i11_72 : Ins M11 72 (.iaload) 1 73 := ⟨by decide +kernel, rfl⟩
theorem i11_73 : Ins M11 73 (.istore 11) 2 75 := ⟨by decide +kernel, rfl⟩
theorem i11_75 : Ins M11 75 (.aload_n 1) 1 76 := ⟨by decide +kernel, rfl⟩
theorem i11_76 : Ins M11 76 (.iload 10) 2 78 := ⟨by decide +kernel, rfl⟩
theorem i11_78 : Ins M11 78 (.iaload) 1 79 := ⟨by decide +kernel, rfl⟩
theorem i11_79 : Ins M11 79 (.iload 11) 2 81 := ⟨by decide +kernel, rfl⟩
theorem i11_81 : Ins M11 81 (.isub) 1 82 := ⟨by decide +kernel, rfl⟩
theorem i11_82 : Ins M11 82 (.istore 12) 2 84 := ⟨by decide +kernel, rfl⟩
theorem i11_84 : Ins M11 84 (.iload 12) 2 86 := ⟨by decide +kernel, rfl⟩
theorem i11_86 : Ins M11 86 (.ifCond .ge 13) 3 89 := ⟨by decide +kernel, rfl⟩
theorem i11_89 : Ins M11 89 (.iload 12) 2 91 := ⟨by decide +kernel, rfl⟩
theorem i11_91 : Ins M11 91 (.aload_n 0) 1 92 := ⟨by decide +kernel, rfl⟩
theorem i11_92 : Ins M11 92 (.getfield 17) 3 95 := ⟨by decide +kernel, rfl⟩
theorem i11_95 : Ins M11 95 (.iadd) 1 96 := ⟨by decide +kernel, rfl⟩
theorem i11_96 : Ins M11 96 (.goto 5) 3 99 := ⟨by decide +kernel, rfl⟩
theorem i11_99 : Ins M11 99 (.iload 12) 2 101 := ⟨by decide +kernel, rfl⟩
theorem i11_101 : Ins M11 101 (.istore 13) 2 103 := ⟨by decide +kernel, rfl⟩
theorem i11_103 : Ins M11 103 (.iload 13) 2 105 := ⟨by decide +kernel, rfl⟩
theorem i11_105 : Ins M11 105 (.aload_n 0) 1 106 := ⟨by decide +kernel, rfl⟩
theorem i11_106 : Ins M11 106 (.getfield 24) 3 109 := ⟨by decide +kernel, rfl⟩
theorem i11_109 : Ins M11 109 (.iload 7) 2 111 := ⟨by decide +kernel, rfl⟩
theorem i11_111 : Ins M11 111 (.iconst 2) 1 112 := ⟨by decide +kernel, rfl⟩
theorem i11_112 : Ins M11 112 (.iload 10) 2 114 := ⟨by decide +kernel, rfl⟩
theorem i11_114 : Ins M11 114 (.imul) 1 115 := ⟨by decide +kernel, rfl⟩
theorem i11_115 : Ins M11 115 (.iadd) 1 116 := ⟨by decide +kernel, rfl⟩
theorem i11_116 : Ins M11 116 (.iconst 1) 1 117 := ⟨by decide +kernel, rfl⟩
theorem i11_117 : Ins M11 117 (.iadd) 1 118 := ⟨by decide +kernel, rfl⟩
theorem i11_118 : Ins M11 118 (.iaload) 1 119 := ⟨by decide +kernel, rfl⟩
theorem i11_119 : Ins M11 119 (.if_icmp .lt 26) 3 122 := ⟨by decide +kernel, rfl⟩
theorem i11_122 : Ins M11 122 (.iload 13) 2 124 := ⟨by decide +kernel, rfl⟩
theorem i11_124 : Ins M11 124 (.ifCond .ne 7) 3 127 := ⟨by decide +kernel, rfl⟩
theorem i11_127 : Ins M11 127 (.iconst 0) 1 128 := ⟨by decide +kernel, rfl⟩
theorem i11_128 : Ins M11 128 (.goto 10) 3 131 := ⟨by decide +kernel, rfl⟩
theorem i11_131 : Ins M11 131 (.aload_n 0) 1 132 := ⟨by decide +kernel, rfl⟩
theorem i11_132 : Ins M11 132 (.getfield 17) 3 135 := ⟨by decide +kernel, rfl⟩
theorem i11_135 : Ins M11 135 (.iload 13) 2 137 := ⟨by decide +kernel, rfl⟩
theorem i11_137 : Ins M11 137 (.isub) 1 138 := ⟨by decide +kernel, rfl⟩
theorem i11_138 : Ins M11 138 (.aload_n 2) 1 139 := ⟨by decide +kernel, rfl⟩
theorem i11_139 : Ins M11 139 (.iload 10) 2 141 := ⟨by decide +kernel, rfl⟩
theorem i11_141 : Ins M11 141 (.iaload) 1 142 := ⟨by decide +kernel, rfl⟩
theorem i11_142 : Ins M11 142 (.if_icmp .ge 7) 3 145 := ⟨by decide +kernel, rfl⟩
theorem i11_145 : Ins M11 145 (.iconst 1) 1 146 := ⟨by decide +kernel, rfl⟩
theorem i11_146 : Ins M11 146 (.goto 4) 3 149 := ⟨by decide +kernel, rfl⟩
theorem i11_149 : Ins M11 149 (.iconst 0) 1 150 := ⟨by decide +kernel, rfl⟩
theorem i11_150 : Ins M11 150 (.istore 8) 2 152 := ⟨by decide +kernel, rfl⟩
theorem i11_152 : Ins M11 152 (.iinc 9 1) 3 155 := ⟨by decide +kernel, rfl⟩
theorem i11_155 : Ins M11 155 (.goto (-114)) 3 158 := ⟨by decide +kernel, rfl⟩
theorem i11_158 : Ins M11 158 (.iload 8) 2 160 := ⟨by decide +kernel, rfl⟩
theorem i11_160 : Ins M11 160 (.ifCond .eq 8) 3 163 := ⟨by decide +kernel, rfl⟩
theorem i11_163 : Ins M11 163 (.iload 6) 2 165 := ⟨by decide +kernel, rfl⟩
theorem i11_165 : Ins M11 165 (.goto 4) 3 168 := ⟨by decide +kernel, rfl⟩
theorem i11_168 : Ins M11 168 (.iconst (-1)) 1 169 := ⟨by decide +kernel, rfl⟩
theorem i11_169 : Ins M11 169 (.istore 5) 2 171 := ⟨by decide +kernel, rfl⟩
theorem i11_171 : Ins M11 171 (.iinc 6 1) 3 174 := ⟨by decide +kernel, rfl⟩
theorem i11_174 : Ins M11 174 (.goto (-160)) 3 177 := ⟨by decide +kernel, rfl⟩
theorem i11_177 : Ins M11 177 (.iload 5) 2 179 := ⟨by decide +kernel, rfl⟩
theorem i11_179 : Ins M11 179 (.ireturn) 1 180 := ⟨by decide +kernel, rfl⟩
theorem pn11 : plainFor M11.1 = true := plainFor_of_name (by first | (simp [plainName, overriddenIn, M11, x]; done) | decide +kernel)
theorem pd11 : parseMethodDescriptor M11.1.desc = some ⟨[(.array .int), (.array .int), (.array .int)], some (.int)⟩ := by decide +kernel
def M12 : GM := (⟨"com/example/meshwright/meshwright/grid/SubcubeListFirstMeetingPinLaw", "meets", "(I[I[I[I[I)Z"⟩, method_5_code, 5, some (.boolean))
theorem i12_0 : Ins M12 0 (.iload_n 0) 1 1 := ⟨by decide +kernel, rfl⟩
theorem i12_1 : Ins M12 1 (.aload_n 1) 1 2 := ⟨by decide +kernel, rfl⟩
theorem i12_2 : Ins M12 2 (.iconst 0) 1 3 := ⟨by decide +kernel, rfl⟩
theorem i12_3 : Ins M12 3 (.iaload) 1 4 := ⟨by decide +kernel, rfl⟩
theorem i12_4 : Ins M12 4 (.aload_n 2) 1 5 := ⟨by decide +kernel, rfl⟩
theorem i12_5 : Ins M12 5 (.iconst 0) 1 6 := ⟨by decide +kernel, rfl⟩
theorem i12_6 : Ins M12 6 (.iaload) 1 7 := ⟨by decide +kernel, rfl⟩
theorem i12_7 : Ins M12 7 (.aload_n 3) 1 8 := ⟨by decide +kernel, rfl⟩
theorem i12_8 : Ins M12 8 (.iconst 0) 1 9 := ⟨by decide +kernel, rfl⟩
theorem i12_9 : Ins M12 9 (.iaload) 1 10 := ⟨by decide +kernel, rfl⟩
theorem i12_10 : Ins M12 10 (.aload 4) 2 12 := ⟨by decide +kernel, rfl⟩
theorem i12_12 : Ins M12 12 (.iconst 0) 1 13 := ⟨by decide +kernel, rfl⟩
theorem i12_13 : Ins M12 13 (.iaload) 1 14 := ⟨by decide +kernel, rfl⟩
theorem i12_14 : Ins M12 14 (.invokestatic 24) 3 17 := ⟨by decide +kernel, rfl⟩
theorem i12_17 : Ins M12 17 (.ifCond .eq 27) 3 20 := ⟨by decide +kernel, rfl⟩
theorem i12_20 : Ins M12 20 (.iload_n 0) 1 21 := ⟨by decide +kernel, rfl⟩
theorem i12_21 : Ins M12 21 (.aload_n 1) 1 22 := ⟨by decide +kernel, rfl⟩
theorem i12_22 : Ins M12 22 (.iconst 1) 1 23 := ⟨by decide +kernel, rfl⟩
theorem i12_23 : Ins M12 23 (.iaload) 1 24 := ⟨by decide +kernel, rfl⟩
theorem i12_24 : Ins M12 24 (.aload_n 2) 1 25 := ⟨by decide +kernel, rfl⟩
theorem i12_25 : Ins M12 25 (.iconst 1) 1 26 := ⟨by decide +kernel, rfl⟩
theorem i12_26 : Ins M12 26 (.iaload) 1 27 := ⟨by decide +kernel, rfl⟩
theorem i12_27 : Ins M12 27 (.aload_n 3) 1 28 := ⟨by decide +kernel, rfl⟩
theorem i12_28 : Ins M12 28 (.iconst 1) 1 29 := ⟨by decide +kernel, rfl⟩
theorem i12_29 : Ins M12 29 (.iaload) 1 30 := ⟨by decide +kernel, rfl⟩
theorem i12_30 : Ins M12 30 (.aload 4) 2 32 := ⟨by decide +kernel, rfl⟩
theorem i12_32 : Ins M12 32 (.iconst 1) 1 33 := ⟨by decide +kernel, rfl⟩
theorem i12_33 : Ins M12 33 (.iaload) 1 34 := ⟨by decide +kernel, rfl⟩
theorem i12_34 : Ins M12 34 (.invokestatic 24) 3 37 := ⟨by decide +kernel, rfl⟩
theorem i12_37 : Ins M12 37 (.ifCond .eq 7) 3 40 := ⟨by decide +kernel, rfl⟩
theorem i12_40 : Ins M12 40 (.iconst 1) 1 41 := ⟨by decide +kernel, rfl⟩
theorem i12_41 : Ins M12 41 (.goto 4) 3 44 := ⟨by decide +kernel, rfl⟩
theorem i12_44 : Ins M12 44 (.iconst 0) 1 45 := ⟨by decide +kernel, rfl⟩
theorem i12_45 : Ins M12 45 (.ireturn) 1 46 := ⟨by decide +kernel, rfl⟩
theorem pn12 : plainFor M12.1 = true := plainFor_of_name (by first | (simp [plainName, overriddenIn, M12, x]; done) | decide +kernel)
theorem pd12 : parseMethodDescriptor M12.1.desc = some ⟨[.int, (.array .int), (.array .int), (.array .int), (.array .int)], some (.boolean)⟩ := by decide +kernel
def M13 : GM := (⟨"com/example/meshwright/meshwright/grid/SubcubeListFirstMeetingPinLaw", "dim", "(IIIII)Z"⟩, method_4_code, 5, some (.boolean))
theorem i13_0 : Ins M13 0 (.iload_n 1) 1 1 := ⟨by decide +kernel, rfl⟩
theorem i13_1 : Ins M13 1 (.iload_n 1) 1 2 := ⟨by decide +kernel, rfl⟩
theorem i13_2 : Ins M13 2 (.iload_n 2) 1 3 := ⟨by decide +kernel, rfl⟩
theorem i13_3 : Ins M13 3 (.iadd) 1 4 := ⟨by decide +kernel, rfl⟩
theorem i13_4 : Ins M13 4 (.iload_n 3) 1 5 := ⟨by decide +kernel, rfl⟩
theorem i13_5 : Ins M13 5 (.iload_n 3) 1 6 := ⟨by decide +kernel, rfl⟩
theorem i13_6 : Ins M13 6 (.iload 4) 2 8 := ⟨by decide +kernel, rfl⟩
theorem i13_8 : Ins M13 8 (.iadd) 1 9 := ⟨by decide +kernel, rfl⟩
theorem i13_9 : Ins M13 9 (.invokestatic 18) 3 12 := ⟨by decide +kernel, rfl⟩
theorem i13_12 : Ins M13 12 (.ifCond .ne 41) 3 15 := ⟨by decide +kernel, rfl⟩
theorem i13_15 : Ins M13 15 (.iload_n 1) 1 16 := ⟨by decide +kernel, rfl⟩
theorem i13_16 : Ins M13 16 (.iload_n 1) 1 17 := ⟨by decide +kernel, rfl⟩
theorem i13_17 : Ins M13 17 (.iload_n 2) 1 18 := ⟨by decide +kernel, rfl⟩
theorem i13_18 : Ins M13 18 (.iadd) 1 19 := ⟨by decide +kernel, rfl⟩
theorem i13_19 : Ins M13 19 (.iload_n 3) 1 20 := ⟨by decide +kernel, rfl⟩
theorem i13_20 : Ins M13 20 (.iload_n 0) 1 21 := ⟨by decide +kernel, rfl⟩
theorem i13_21 : Ins M13 21 (.iadd) 1 22 := ⟨by decide +kernel, rfl⟩
theorem i13_22 : Ins M13 22 (.iload_n 3) 1 23 := ⟨by decide +kernel, rfl⟩
theorem i13_23 : Ins M13 23 (.iload_n 0) 1 24 := ⟨by decide +kernel, rfl⟩
theorem i13_24 : Ins M13 24 (.iadd) 1 25 := ⟨by decide +kernel, rfl⟩
theorem i13_25 : Ins M13 25 (.iload 4) 2 27 := ⟨by decide +kernel, rfl⟩
theorem i13_27 : Ins M13 27 (.iadd) 1 28 := ⟨by decide +kernel, rfl⟩
theorem i13_28 : Ins M13 28 (.invokestatic 18) 3 31 := ⟨by decide +kernel, rfl⟩
theorem i13_31 : Ins M13 31 (.ifCond .ne 22) 3 34 := ⟨by decide +kernel, rfl⟩
theorem i13_34 : Ins M13 34 (.iload_n 1) 1 35 := ⟨by decide +kernel, rfl⟩
theorem i13_35 : Ins M13 35 (.iload_n 1) 1 36 := ⟨by decide +kernel, rfl⟩
theorem i13_36 : Ins M13 36 (.iload_n 2) 1 37 := ⟨by decide +kernel, rfl⟩
theorem i13_37 : Ins M13 37 (.iadd) 1 38 := ⟨by decide +kernel, rfl⟩
theorem i13_38 : Ins M13 38 (.iload_n 3) 1 39 := ⟨by decide +kernel, rfl⟩
theorem i13_39 : Ins M13 39 (.iload_n 0) 1 40 := ⟨by decide +kernel, rfl⟩
theorem i13_40 : Ins M13 40 (.isub) 1 41 := ⟨by decide +kernel, rfl⟩
theorem i13_41 : Ins M13 41 (.iload_n 3) 1 42 := ⟨by decide +kernel, rfl⟩
theorem i13_42 : Ins M13 42 (.iload_n 0) 1 43 := ⟨by decide +kernel, rfl⟩
theorem i13_43 : Ins M13 43 (.isub) 1 44 := ⟨by decide +kernel, rfl⟩
theorem i13_44 : Ins M13 44 (.iload 4) 2 46 := ⟨by decide +kernel, rfl⟩
theorem i13_46 : Ins M13 46 (.iadd) 1 47 := ⟨by decide +kernel, rfl⟩
theorem i13_47 : Ins M13 47 (.invokestatic 18) 3 50 := ⟨by decide +kernel, rfl⟩
theorem i13_50 : Ins M13 50 (.ifCond .eq 7) 3 53 := ⟨by decide +kernel, rfl⟩
theorem i13_53 : Ins M13 53 (.iconst 1) 1 54 := ⟨by decide +kernel, rfl⟩
theorem i13_54 : Ins M13 54 (.goto 4) 3 57 := ⟨by decide +kernel, rfl⟩
theorem i13_57 : Ins M13 57 (.iconst 0) 1 58 := ⟨by decide +kernel, rfl⟩
theorem i13_58 : Ins M13 58 (.ireturn) 1 59 := ⟨by decide +kernel, rfl⟩
theorem pn13 : plainFor M13.1 = true := plainFor_of_name (by first | (simp [plainName, overriddenIn, M13, x]; done) | decide +kernel)
theorem pd13 : parseMethodDescriptor M13.1.desc = some ⟨[.int, .int, .int, .int, .int], some (.boolean)⟩ := by decide +kernel
def M14 : GM := (⟨"com/example/meshwright/meshwright/grid/SubcubeListFirstMeetingPinLaw", "overlap", "(IIII)Z"⟩, method_3_code, 4, some (.boolean))
theorem i14_0 : Ins M14 0 (.iload_n 0) 1 1 := ⟨by decide +kernel, rfl⟩
theorem i14_1 : Ins M14 1 (.iload_n 2) 1 2 := ⟨by decide +kernel, rfl⟩
theorem i14_2 : Ins M14 2 (.invokestatic 9) 3 5 := ⟨by decide +kernel, rfl⟩
theorem i14_5 : Ins M14 5 (.iload_n 1) 1 6 := ⟨by decide +kernel, rfl⟩
theorem i14_6 : Ins M14 6 (.iload_n 3) 1 7 := ⟨by decide +kernel, rfl⟩
theorem i14_7 : Ins M14 7 (.invokestatic 15) 3 10 := ⟨by decide +kernel, rfl⟩
theorem i14_10 : Ins M14 10 (.if_icmp .ge 7) 3 13 := ⟨by decide +kernel, rfl⟩
theorem i14_13 : Ins M14 13 (.iconst 1) 1 14 := ⟨by decide +kernel, rfl⟩
theorem i14_14 : Ins M14 14 (.goto 4) 3 17 := ⟨by decide +kernel, rfl⟩
theorem i14_17 : Ins M14 17 (.iconst 0) 1 18 := ⟨by decide +kernel, rfl⟩
theorem i14_18 : Ins M14 18 (.ireturn) 1 19 := ⟨by decide +kernel, rfl⟩
theorem pn14 : plainFor M14.1 = true := plainFor_of_name (by first | (simp [plainName, overriddenIn, M14, x]; done) | decide +kernel)
theorem pd14 : parseMethodDescriptor M14.1.desc = some ⟨[.int, .int, .int, .int], some (.boolean)⟩ := by decide +kernel
def M15 : GM := (⟨"java/lang/Math", "max", "(II)I"⟩, jdk_29_method_65_code, 2, some (.int))
theorem i15_0 : Ins M15 0 (.iload_n 0) 1 1 := ⟨by decide +kernel, rfl⟩
theorem i15_1 : Ins M15 1 (.iload_n 1) 1 2 := ⟨by decide +kernel, rfl⟩
theorem i15_2 : Ins M15 2 (.if_icmp .lt 7) 3 5 := ⟨by decide +kernel, rfl⟩
theorem i15_5 : Ins M15 5 (.iload_n 0) 1 6 := ⟨by decide +kernel, rfl⟩
theorem i15_6 : Ins M15 6 (.goto 4) 3 9 := ⟨by decide +kernel, rfl⟩
theorem i15_9 : Ins M15 9 (.iload_n 1) 1 10 := ⟨by decide +kernel, rfl⟩
theorem i15_10 : Ins M15 10 (.ireturn) 1 11 := ⟨by decide +kernel, rfl⟩
theorem pn15 : plainFor M15.1 = true := Jvm.Free.JP.mathPlain rfl (by decide +kernel)
theorem pd15 : parseMethodDescriptor M15.1.desc = some ⟨[.int, .int], some (.int)⟩ := by decide +kernel
def M16 : GM := (⟨"java/lang/Math", "min", "(II)I"⟩, jdk_29_method_69_code, 2, some (.int))
theorem i16_0 : Ins M16 0 (.iload_n 0) 1 1 := ⟨by decide +kernel, rfl⟩
theorem i16_1 : Ins M16 1 (.iload_n 1) 1 2 := ⟨by decide +kernel, rfl⟩
theorem i16_2 : Ins M16 2 (.if_icmp .gt 7) 3 5 := ⟨by decide +kernel, rfl⟩
theorem i16_5 : Ins M16 5 (.iload_n 0) 1 6 := ⟨by decide +kernel, rfl⟩
theorem i16_6 : Ins M16 6 (.goto 4) 3 9 := ⟨by decide +kernel, rfl⟩
theorem i16_9 : Ins M16 9 (.iload_n 1) 1 10 := ⟨by decide +kernel, rfl⟩
theorem i16_10 : Ins M16 10 (.ireturn) 1 11 := ⟨by decide +kernel, rfl⟩
theorem pn16 : plainFor M16.1 = true := Jvm.Free.JP.mathPlain rfl (by decide +kernel)
theorem pd16 : parseMethodDescriptor M16.1.desc = some ⟨[.int, .int], some (.int)⟩ := by decide +kernel
def KL : GLay := ("com/example/meshwright/meshwright/grid/SubcubeList", [("com/example/meshwright/meshwright/grid/SubcubeList", "subcubes", "[Lcom/example/meshwright/meshwright/grid/Subcube;", (.array (.object "com/example/meshwright/meshwright/grid/Subcube"))), ("com/example/meshwright/meshwright/grid/SubcubeList", "radix", "I", .int), ("com/example/meshwright/meshwright/grid/SubcubeList", "dimensions", "I", .int), ("com/example/meshwright/meshwright/grid/SubcubeList", "values", "[I", (.array .int)), ("com/example/meshwright/meshwright/grid/SubcubeList", "size", "I", .int)])
theorem KL_ok {Z : State} {a0 : Array Value} (hw : ∀ d ∈ tables_1, d.before a0 Z = true) : LayOk Z a0 KL := by
  refine ⟨⟨5, (hw _ (List.mem_of_getElem? (i := 7) rfl))⟩, fun q hq => ?_, by decide +kernel⟩
  simp only [KL, List.mem_cons, List.not_mem_nil, or_false] at hq
  rcases hq with rfl | rfl | rfl | rfl | rfl
  · exact ⟨Or.inl (hw _ (List.mem_of_getElem? (i := 18) rfl)), by decide⟩
  · exact ⟨Or.inr (hw _ (List.mem_of_getElem? (i := 20) rfl)), by decide⟩
  · exact ⟨Or.inr (hw _ (List.mem_of_getElem? (i := 22) rfl)), by decide⟩
  · exact ⟨Or.inl (hw _ (List.mem_of_getElem? (i := 24) rfl)), by decide⟩
  · exact ⟨Or.inl (hw _ (List.mem_of_getElem? (i := 67) rfl)), by decide⟩
def KS : GLay := ("com/example/meshwright/meshwright/grid/Subcube", [("com/example/meshwright/meshwright/grid/Subcube", "starts", "[I", (.array .int)), ("com/example/meshwright/meshwright/grid/Subcube", "counts", "[I", (.array .int)), ("com/example/meshwright/meshwright/grid/Subcube", "size", "J", .long), ("com/example/meshwright/meshwright/grid/Subcube", "hash", "I", .int)])
theorem KS_ok {Z : State} {a0 : Array Value} (hw : ∀ d ∈ tables_1, d.before a0 Z = true) : LayOk Z a0 KS := by
  refine ⟨⟨4, (hw _ (List.mem_of_getElem? (i := 26) rfl))⟩, fun q hq => ?_, by decide +kernel⟩
  simp only [KS, List.mem_cons, List.not_mem_nil, or_false] at hq
  rcases hq with rfl | rfl | rfl | rfl
  · exact ⟨Or.inr (hw _ (List.mem_of_getElem? (i := 42) rfl)), by decide⟩
  · exact ⟨Or.inr (hw _ (List.mem_of_getElem? (i := 44) rfl)), by decide⟩
  · exact ⟨Or.inr (hw _ (List.mem_of_getElem? (i := 46) rfl)), by decide⟩
  · exact ⟨Or.inr (hw _ (List.mem_of_getElem? (i := 60) rfl)), by decide⟩
variable {Z : State} {a0 : Array Value} {n0 : Nat}
abbrev AnyI (H : List GObj) : Option Value → List GObj → Prop := fun v H' => (∃ r : Int32, v = some (.int r)) ∧ H' = H
theorem own_is (us : List Value) (j : Nat) (h : j < us.length) : (us[j]?).isSome = true := by simp [h]
theorem own_add (x y : Int32) (h1 : -1000 ≤ x.toInt) (h2 : x.toInt ≤ 1000) (h3 : -1000 ≤ y.toInt) (h4 : y.toInt ≤ 1000) : (x + y).toInt = x.toInt + y.toInt := by
  have a := c_iadd x y
  have b := rng32 (x + y)
  omega
theorem own_sub (x y : Int32) (h1 : -1000 ≤ x.toInt) (h2 : x.toInt ≤ 1000) (h3 : -1000 ≤ y.toInt) (h4 : y.toInt ≤ 1000) : (x - y).toInt = x.toInt - y.toInt := by
  have a := c_isub x y
  have b := rng32 (x - y)
  omega
theorem own_at {p : Int32} {P : Nat} (hp : p.toInt = (P : Int)) (hP : P ≤ 100) (k : Int32) (K : Nat) (hk : k.toInt = (K : Int)) (hK : K ≤ 100) : (p + k).toInt = ((P + K : Nat) : Int) := by
  have h1 := c_iadd p k
  have h2 := rng32 (p + k)
  omega
abbrev own_ov (a b c d : Int) : Prop := a < d ∧ c < b ∧ a < b ∧ c < d
abbrev own_dm (K p m q w : Int) : Prop := own_ov p (p + m) q (q + w) ∨ own_ov p (p + m) (q + K) (q + K + w) ∨ own_ov p (p + m) (q - K) (q - K + w)
abbrev own_mt (K p m q w : Int) : Prop := (q < p ∧ (q - p + K < m ∨ p - q < w)) ∨ (p ≤ q ∧ (q - p < m ∨ K - (q - p) < w ∨ q = p))
theorem own_eqv {K p m q w : Int} (h1 : 0 ≤ p) (h2 : p < K) (h3 : 1 ≤ m) (h4 : m ≤ K) (h5 : 0 ≤ q) (h6 : q < K) (h7 : 1 ≤ w) (h8 : w ≤ K) : own_dm K p m q w ↔ own_mt K p m q w := by
  unfold own_dm own_mt own_ov
  omega
abbrev own_bd (K p m : Int32) : Prop := 0 ≤ p.toInt ∧ p.toInt < K.toInt ∧ 1 ≤ m.toInt ∧ m.toInt ≤ K.toInt ∧ K.toInt ≤ 16
abbrev own_m1 (K p m q w : Int32) : Prop := own_mt K.toInt p.toInt m.toInt q.toInt w.toInt
abbrev own_mm (K p0 m0 p1 m1 q0 w0 q1 w1 : Int32) : Prop := own_m1 K p0 m0 q0 w0 ∧ own_m1 K p1 m1 q1 w1
theorem met1 (hw : ∀ d ∈ tables_1, d.before a0 Z = true) (x : Int64) (y : Int32) (H : List GObj) : Met Z a0 n0 M1 0 0 0 0 [.long x, .int y] H (fun v H' => (∃ r : Int32, 0 ≤ r.toInt ∧ r.toInt ≤ 15 ∧ v = some (.int r)) ∧ H' = H) := by
  refine MetW.intro [.val (.long x), .second, .val (.int y)] pn1 rfl ?_
  refine go_lloadN i1_0 rfl ?_
  refine go_iloadN i1_1 rfl ?_
  refine go_lushr i1_2 ?_
  refine go_ldc2 i1_3 (hw _ (List.mem_of_getElem? (i := 5) rfl)) ?_
  refine go_land i1_6 ?_
  refine go_l2i i1_7 ?_
  refine go_ireturn i1_8 rfl rfl (Or.inl rfl) (by first | decide | exact Nat.le_of_ble_eq_true rfl | (simp only [room_1]; omega)) (by first | decide | exact Nat.le_of_ble_eq_true rfl | (simp only [room_1]; omega)) ?_
  have h1 := c_maskL (XT.ushrL x y) 15 4 (by decide) (by decide)
  have h2 := c_l2i (XT.ushrL x y &&& 15)
  have h3 := rng32 (XT.ushrL x y &&& 15).toInt32
  exact ⟨⟨_, by omega, by omega, rfl⟩, rfl⟩
theorem met15 (hw : ∀ d ∈ tables_1, d.before a0 Z = true) (x y : Int32) (H : List GObj) : Met Z a0 n0 M15 0 0 0 0 [.int x, .int y] H (Eq1 (.int (if x < y then y else x)) H) := by
  refine MetW.intro [.val (.int x), .val (.int y)] pn15 rfl ?_
  refine go_iloadN i15_0 rfl ?_
  refine go_iloadN i15_1 rfl ?_
  refine go_icmp_lt 9 i15_2 (by decide) (fun h => ?_) (fun h => ?_)
  · refine go_iloadN i15_9 rfl ?_
    refine go_ireturn i15_10 rfl rfl (Or.inl rfl) (by first | decide | exact Nat.le_of_ble_eq_true rfl | (simp only [room_1]; omega)) (by first | decide | exact Nat.le_of_ble_eq_true rfl | (simp only [room_1]; omega)) ?_
    exact ⟨by rw [if_pos h], rfl⟩
  · refine go_iloadN i15_5 rfl ?_
    refine go_goto 10 i15_6 (by decide) ?_
    refine go_ireturn i15_10 rfl rfl (Or.inl rfl) (by first | decide | exact Nat.le_of_ble_eq_true rfl | (simp only [room_1]; omega)) (by first | decide | exact Nat.le_of_ble_eq_true rfl | (simp only [room_1]; omega)) ?_
    exact ⟨by rw [if_neg h], rfl⟩
theorem met16 (hw : ∀ d ∈ tables_1, d.before a0 Z = true) (x y : Int32) (H : List GObj) : Met Z a0 n0 M16 0 0 0 0 [.int x, .int y] H (Eq1 (.int (if y < x then y else x)) H) := by
  refine MetW.intro [.val (.int x), .val (.int y)] pn16 rfl ?_
  refine go_iloadN i16_0 rfl ?_
  refine go_iloadN i16_1 rfl ?_
  refine go_icmp_gt 9 i16_2 (by decide) (fun h => ?_) (fun h => ?_)
  · refine go_iloadN i16_9 rfl ?_
    refine go_ireturn i16_10 rfl rfl (Or.inl rfl) (by first | decide | exact Nat.le_of_ble_eq_true rfl | (simp only [room_1]; omega)) (by first | decide | exact Nat.le_of_ble_eq_true rfl | (simp only [room_1]; omega)) ?_
    exact ⟨by rw [if_pos h], rfl⟩
  · refine go_iloadN i16_5 rfl ?_
    refine go_goto 10 i16_6 (by decide) ?_
    refine go_ireturn i16_10 rfl rfl (Or.inl rfl) (by first | decide | exact Nat.le_of_ble_eq_true rfl | (simp only [room_1]; omega)) (by first | decide | exact Nat.le_of_ble_eq_true rfl | (simp only [room_1]; omega)) ?_
    exact ⟨by rw [if_neg h], rfl⟩
theorem own_mx {a b c d : Int32} : (if a < c then c else a) < (if d < b then d else b) ↔ own_ov a.toInt b.toInt c.toInt d.toInt := by
  unfold own_ov
  split <;> split <;> rename_i h1 h2 <;> rw [Int32.lt_iff_toInt_lt] at * <;> omega
theorem met14 (hw : ∀ d ∈ tables_1, d.before a0 Z = true) (a b c d : Int32) (H : List GObj) : Met Z a0 n0 M14 1 14 0 0 [.int a, .int b, .int c, .int d] H (Eq1 (.int (if own_ov a.toInt b.toInt c.toInt d.toInt then 1 else 0)) H) := by
  refine MetW.intro [.val (.int a), .val (.int b), .val (.int c), .val (.int d)] pn14 rfl ?_
  refine go_iloadN i14_0 rfl ?_
  refine go_iloadN i14_1 rfl ?_
  refine go_static i14_2 (met15 hw _ _ H) (hw _ (List.mem_of_getElem? (i := 97) rfl)) (hw _ (List.mem_of_getElem? (i := 98) rfl)) (hw _ (List.mem_of_getElem? (i := 99) rfl)) (hw _ (List.mem_of_getElem? (i := 100) rfl)) rfl pd15 rfl rfl rfl (by first | decide | exact Nat.le_of_ble_eq_true rfl | (simp only [room_1]; omega)) (by first | decide | exact Nat.le_of_ble_eq_true rfl | (simp only [room_1]; omega)) (by first | decide | exact Nat.le_of_ble_eq_true rfl | (simp only [room_1]; omega)) (by first | decide | exact Nat.le_of_ble_eq_true rfl | (simp only [room_1]; omega)) (retE rfl ?_)
  refine go_iloadN i14_5 rfl ?_
  refine go_iloadN i14_6 rfl ?_
  refine go_static i14_7 (met16 hw _ _ H) (hw _ (List.mem_of_getElem? (i := 101) rfl)) (hw _ (List.mem_of_getElem? (i := 102) rfl)) (hw _ (List.mem_of_getElem? (i := 99) rfl)) (hw _ (List.mem_of_getElem? (i := 103) rfl)) rfl pd16 rfl rfl rfl (by first | decide | exact Nat.le_of_ble_eq_true rfl | (simp only [room_1]; omega)) (by first | decide | exact Nat.le_of_ble_eq_true rfl | (simp only [room_1]; omega)) (by first | decide | exact Nat.le_of_ble_eq_true rfl | (simp only [room_1]; omega)) (by first | decide | exact Nat.le_of_ble_eq_true rfl | (simp only [room_1]; omega)) (retE rfl ?_)
  refine go_icmp_ge 17 i14_10 (by decide) (fun h => ?_) (fun h => ?_)
  · refine go_iconst (v := (0 : Int32)) i14_17 (by decide) ?_
    refine go_ireturn i14_18 rfl rfl (Or.inr (Or.inl rfl)) (by first | decide | exact Nat.le_of_ble_eq_true rfl | (simp only [room_1]; omega)) (by first | decide | exact Nat.le_of_ble_eq_true rfl | (simp only [room_1]; omega)) ?_
    exact ⟨by rw [if_neg (fun q => h (own_mx.mpr q))], rfl⟩
  · refine go_iconst (v := (1 : Int32)) i14_13 (by decide) ?_
    refine go_goto 18 i14_14 (by decide) ?_
    refine go_ireturn i14_18 rfl rfl (Or.inr (Or.inl rfl)) (by first | decide | exact Nat.le_of_ble_eq_true rfl | (simp only [room_1]; omega)) (by first | decide | exact Nat.le_of_ble_eq_true rfl | (simp only [room_1]; omega)) ?_
    exact ⟨by rw [if_pos (own_mx.mp h)], rfl⟩
theorem met13 (hw : ∀ d ∈ tables_1, d.before a0 Z = true) (K p m q w : Int32) (b1 : own_bd K p m) (b2 : own_bd K q w) (H : List GObj) : Met Z a0 n0 M13 2 29 0 0 [.int K, .int p, .int m, .int q, .int w] H (Eq1 (.int (if own_m1 K p m q w then 1 else 0)) H) := by
  refine MetW.intro [.val (.int K), .val (.int p), .val (.int m), .val (.int q), .val (.int w)] pn13 rfl ?_
  obtain ⟨b11, b12, b13, b14, b15⟩ := b1
  obtain ⟨b21, b22, b23, b24, -⟩ := b2
  have E := own_eqv b11 b12 b13 b14 b21 b22 b23 b24
  have e1 := own_add p m (by omega) (by omega) (by omega) (by omega)
  have e2 := own_add q w (by omega) (by omega) (by omega) (by omega)
  have e3 := own_add q K (by omega) (by omega) (by omega) (by omega)
  have e4 := own_add (q + K) w (by omega) (by omega) (by omega) (by omega)
  have e5 := own_sub q K (by omega) (by omega) (by omega) (by omega)
  have e6 := own_add (q - K) w (by omega) (by omega) (by omega) (by omega)
  rw [e3] at e4
  rw [e5] at e6
  have yes : own_dm K.toInt p.toInt m.toInt q.toInt w.toInt → Go Z a0 n0 M13 { frames := 2, cells := 0, slots := 0, locals := 29 } (Eq1 (.int (if own_m1 K p m q w then 1 else 0)) H) 53 [.val (.int K), .val (.int p), .val (.int m), .val (.int q), .val (.int w)] [] H 0 0 := by
    intro h
    refine go_iconst (v := (1 : Int32)) i13_53 (by decide) ?_
    refine go_goto 58 i13_54 (by decide) ?_
    refine go_ireturn i13_58 rfl rfl (Or.inr (Or.inl rfl)) (by first | decide | exact Nat.le_of_ble_eq_true rfl | (simp only [room_1]; omega)) (by first | decide | exact Nat.le_of_ble_eq_true rfl | (simp only [room_1]; omega)) ?_
    exact ⟨by rw [if_pos (E.mp h)], rfl⟩
  refine go_iloadN i13_0 rfl ?_
  refine go_iloadN i13_1 rfl ?_
  refine go_iloadN i13_2 rfl ?_
  refine go_iadd i13_3 ?_
  refine go_iloadN i13_4 rfl ?_
  refine go_iloadN i13_5 rfl ?_
  refine go_iload i13_6 rfl ?_
  refine go_iadd i13_8 ?_
  refine go_static i13_9 (met14 hw _ _ _ _ H) (hw _ (List.mem_of_getElem? (i := 94) rfl)) (hw _ (List.mem_of_getElem? (i := 95) rfl)) (hw _ (List.mem_of_getElem? (i := 3) rfl)) (hw _ (List.mem_of_getElem? (i := 96) rfl)) rfl pd14 rfl rfl rfl (by first | decide | exact Nat.le_of_ble_eq_true rfl | (simp only [room_1]; omega)) (by first | decide | exact Nat.le_of_ble_eq_true rfl | (simp only [room_1]; omega)) (by first | decide | exact Nat.le_of_ble_eq_true rfl | (simp only [room_1]; omega)) (by first | decide | exact Nat.le_of_ble_eq_true rfl | (simp only [room_1]; omega)) (retE rfl ?_)
  rw [e1, e2]
  by_cases h1 : own_ov p.toInt (p.toInt + m.toInt) q.toInt (q.toInt + w.toInt)
  · rw [if_pos h1]
    refine go_ifT 53 i13_12 (by decide) (by decide) ?_
    exact yes (Or.inl h1)
  rw [if_neg h1]
  refine go_ifF i13_12 (by decide) ?_
  refine go_iloadN i13_15 rfl ?_
  refine go_iloadN i13_16 rfl ?_
  refine go_iloadN i13_17 rfl ?_
  refine go_iadd i13_18 ?_
  refine go_iloadN i13_19 rfl ?_
  refine go_iloadN i13_20 rfl ?_
  refine go_iadd i13_21 ?_
  refine go_iloadN i13_22 rfl ?_
  refine go_iloadN i13_23 rfl ?_
  refine go_iadd i13_24 ?_
  refine go_iload i13_25 rfl ?_
  refine go_iadd i13_27 ?_
  refine go_static i13_28 (met14 hw _ _ _ _ H) (hw _ (List.mem_of_getElem? (i := 94) rfl)) (hw _ (List.mem_of_getElem? (i := 95) rfl)) (hw _ (List.mem_of_getElem? (i := 3) rfl)) (hw _ (List.mem_of_getElem? (i := 96) rfl)) rfl pd14 rfl rfl rfl (by first | decide | exact Nat.le_of_ble_eq_true rfl | (simp only [room_1]; omega)) (by first | decide | exact Nat.le_of_ble_eq_true rfl | (simp only [room_1]; omega)) (by first | decide | exact Nat.le_of_ble_eq_true rfl | (simp only [room_1]; omega)) (by first | decide | exact Nat.le_of_ble_eq_true rfl | (simp only [room_1]; omega)) (retE rfl ?_)
  rw [e1, e3, e4]
  by_cases h2 : own_ov p.toInt (p.toInt + m.toInt) (q.toInt + K.toInt) (q.toInt + K.toInt + w.toInt)
  · rw [if_pos h2]
    refine go_ifT 53 i13_31 (by decide) (by decide) ?_
    exact yes (Or.inr (Or.inl h2))
  rw [if_neg h2]
  refine go_ifF i13_31 (by decide) ?_
  refine go_iloadN i13_34 rfl ?_
  refine go_iloadN i13_35 rfl ?_
  refine go_iloadN i13_36 rfl ?_
  refine go_iadd i13_37 ?_
  refine go_iloadN i13_38 rfl ?_
  refine go_iloadN i13_39 rfl ?_
  refine go_isub i13_40 ?_
  refine go_iloadN i13_41 rfl ?_
  refine go_iloadN i13_42 rfl ?_
  refine go_isub i13_43 ?_
  refine go_iload i13_44 rfl ?_
  refine go_iadd i13_46 ?_
  refine go_static i13_47 (met14 hw _ _ _ _ H) (hw _ (List.mem_of_getElem? (i := 94) rfl)) (hw _ (List.mem_of_getElem? (i := 95) rfl)) (hw _ (List.mem_of_getElem? (i := 3) rfl)) (hw _ (List.mem_of_getElem? (i := 96) rfl)) rfl pd14 rfl rfl rfl (by first | decide | exact Nat.le_of_ble_eq_true rfl | (simp only [room_1]; omega)) (by first | decide | exact Nat.le_of_ble_eq_true rfl | (simp only [room_1]; omega)) (by first | decide | exact Nat.le_of_ble_eq_true rfl | (simp only [room_1]; omega)) (by first | decide | exact Nat.le_of_ble_eq_true rfl | (simp only [room_1]; omega)) (retE rfl ?_)
  rw [e1, e5, e6]
  by_cases h3 : own_ov p.toInt (p.toInt + m.toInt) (q.toInt - K.toInt) (q.toInt - K.toInt + w.toInt)
  · rw [if_pos h3]
    refine go_ifF i13_50 (by decide) ?_
    exact yes (Or.inr (Or.inr h3))
  rw [if_neg h3]
  refine go_ifT 57 i13_50 (by decide) (by decide) ?_
  refine go_iconst (v := (0 : Int32)) i13_57 (by decide) ?_
  refine go_ireturn i13_58 rfl rfl (Or.inr (Or.inl rfl)) (by first | decide | exact Nat.le_of_ble_eq_true rfl | (simp only [room_1]; omega)) (by first | decide | exact Nat.le_of_ble_eq_true rfl | (simp only [room_1]; omega)) ?_
  exact ⟨by rw [if_neg (fun q => (E.mpr q).elim h1 (fun q => q.elim h2 h3))], rfl⟩
theorem met12 (hw : ∀ d ∈ tables_1, d.before a0 Z = true) (K p0 m0 p1 m1 q0 w0 q1 w1 : Int32) (b1 : own_bd K p0 m0) (b2 : own_bd K p1 m1) (b3 : own_bd K q0 w0) (b4 : own_bd K q1 w1) (H : List GObj) (i1 i2 i3 i4 : Nat) (h1 : H[i1]? = some (.inr (.int, [.int p0, .int p1]))) (h2 : H[i2]? = some (.inr (.int, [.int m0, .int m1]))) (h3 : H[i3]? = some (.inr (.int, [.int q0, .int q1]))) (h4 : H[i4]? = some (.inr (.int, [.int w0, .int w1]))) :
    Met Z a0 n0 M12 3 45 0 0 [.int K, .ref (n0 + i1), .ref (n0 + i2), .ref (n0 + i3), .ref (n0 + i4)] H (Eq1 (.int (if own_mm K p0 m0 p1 m1 q0 w0 q1 w1 then 1 else 0)) H) := by
  refine MetW.intro [.val (.int K), .val (.ref (n0 + i1)), .val (.ref (n0 + i2)), .val (.ref (n0 + i3)), .val (.ref (n0 + i4))] pn12 rfl ?_
  have no : ¬ own_mm K p0 m0 p1 m1 q0 w0 q1 w1 → Go Z a0 n0 M12 { frames := 3, cells := 0, slots := 0, locals := 45 } (Eq1 (.int (if own_mm K p0 m0 p1 m1 q0 w0 q1 w1 then 1 else 0)) H) 44 [.val (.int K), .val (.ref (n0 + i1)), .val (.ref (n0 + i2)), .val (.ref (n0 + i3)), .val (.ref (n0 + i4))] [] H 0 0 := by
    intro h
    refine go_iconst (v := (0 : Int32)) i12_44 (by decide) ?_
    refine go_ireturn i12_45 rfl rfl (Or.inr (Or.inl rfl)) (by first | decide | exact Nat.le_of_ble_eq_true rfl | (simp only [room_1]; omega)) (by first | decide | exact Nat.le_of_ble_eq_true rfl | (simp only [room_1]; omega)) ?_
    exact ⟨by rw [if_neg h], rfl⟩
  refine go_iloadN i12_0 rfl ?_
  refine go_aloadN i12_1 rfl ?_
  refine go_iconst (v := (0 : Int32)) i12_2 (by decide) ?_
  refine go_iaload i12_3 h1 (i := 0) (by decide) rfl ?_
  refine go_aloadN i12_4 rfl ?_
  refine go_iconst (v := (0 : Int32)) i12_5 (by decide) ?_
  refine go_iaload i12_6 h2 (i := 0) (by decide) rfl ?_
  refine go_aloadN i12_7 rfl ?_
  refine go_iconst (v := (0 : Int32)) i12_8 (by decide) ?_
  refine go_iaload i12_9 h3 (i := 0) (by decide) rfl ?_
  refine go_aload i12_10 rfl ?_
  refine go_iconst (v := (0 : Int32)) i12_12 (by decide) ?_
  refine go_iaload i12_13 h4 (i := 0) (by decide) rfl ?_
  refine go_static i12_14 (met13 hw K p0 m0 q0 w0 b1 b3 H) (hw _ (List.mem_of_getElem? (i := 91) rfl)) (hw _ (List.mem_of_getElem? (i := 92) rfl)) (hw _ (List.mem_of_getElem? (i := 3) rfl)) (hw _ (List.mem_of_getElem? (i := 93) rfl)) rfl pd13 rfl rfl rfl (by first | decide | exact Nat.le_of_ble_eq_true rfl | (simp only [room_1]; omega)) (by first | decide | exact Nat.le_of_ble_eq_true rfl | (simp only [room_1]; omega)) (by first | decide | exact Nat.le_of_ble_eq_true rfl | (simp only [room_1]; omega)) (by first | decide | exact Nat.le_of_ble_eq_true rfl | (simp only [room_1]; omega)) (retE rfl ?_)
  by_cases g1 : own_m1 K p0 m0 q0 w0
  · rw [if_pos g1]
    refine go_ifF i12_17 (by decide) ?_
    refine go_iloadN i12_20 rfl ?_
    refine go_aloadN i12_21 rfl ?_
    refine go_iconst (v := (1 : Int32)) i12_22 (by decide) ?_
    refine go_iaload i12_23 h1 (i := 1) (by decide) rfl ?_
    refine go_aloadN i12_24 rfl ?_
    refine go_iconst (v := (1 : Int32)) i12_25 (by decide) ?_
    refine go_iaload i12_26 h2 (i := 1) (by decide) rfl ?_
    refine go_aloadN i12_27 rfl ?_
    refine go_iconst (v := (1 : Int32)) i12_28 (by decide) ?_
    refine go_iaload i12_29 h3 (i := 1) (by decide) rfl ?_
    refine go_aload i12_30 rfl ?_
    refine go_iconst (v := (1 : Int32)) i12_32 (by decide) ?_
    refine go_iaload i12_33 h4 (i := 1) (by decide) rfl ?_
    refine go_static i12_34 (met13 hw K p1 m1 q1 w1 b2 b4 H) (hw _ (List.mem_of_getElem? (i := 91) rfl)) (hw _ (List.mem_of_getElem? (i := 92) rfl)) (hw _ (List.mem_of_getElem? (i := 3) rfl)) (hw _ (List.mem_of_getElem? (i := 93) rfl)) rfl pd13 rfl rfl rfl (by first | decide | exact Nat.le_of_ble_eq_true rfl | (simp only [room_1]; omega)) (by first | decide | exact Nat.le_of_ble_eq_true rfl | (simp only [room_1]; omega)) (by first | decide | exact Nat.le_of_ble_eq_true rfl | (simp only [room_1]; omega)) (by first | decide | exact Nat.le_of_ble_eq_true rfl | (simp only [room_1]; omega)) (retE rfl ?_)
    by_cases g2 : own_m1 K p1 m1 q1 w1
    · rw [if_pos g2]
      refine go_ifF i12_37 (by decide) ?_
      refine go_iconst (v := (1 : Int32)) i12_40 (by decide) ?_
      refine go_goto 45 i12_41 (by decide) ?_
      refine go_ireturn i12_45 rfl rfl (Or.inr (Or.inl rfl)) (by first | decide | exact Nat.le_of_ble_eq_true rfl | (simp only [room_1]; omega)) (by first | decide | exact Nat.le_of_ble_eq_true rfl | (simp only [room_1]; omega)) ?_
      exact ⟨by rw [if_pos ⟨g1, g2⟩], rfl⟩
    · rw [if_neg g2]
      refine go_ifT 44 i12_37 (by decide) (by decide) ?_
      exact no (fun q => g2 q.2)
  · rw [if_neg g1]
    refine go_ifT 44 i12_17 (by decide) (by decide) ?_
    exact no (fun q => g1 q.1)
theorem met7 (hw : ∀ d ∈ tables_1, d.before a0 Z = true) (i : Nat) (a b : Int32) (H : List GObj) (hi : H[i]? = some (.inr (.int, [.int a, .int b]))) : Met Z a0 n0 M7 0 0 0 0 [.int 1, .ref (n0 + i), .int 0, .int 2] H (AnyI H) := by
  refine MetW.intro [.val (.int 1), .val (.ref (n0 + i)), .val (.int 0), .val (.int 2), .unset, .unset] pn7 rfl ?_
  refine go_iloadN i7_0 rfl ?_
  refine go_iloadN i7_1 rfl ?_
  refine go_iadd i7_2 ?_
  refine go_istore4 i7_3 (by first | exact One.u | exact One.val rfl) ?_
  refine go_iloadN i7_5 rfl ?_
  refine go_istore5 i7_6 (by first | exact One.u | exact One.val rfl) ?_
  refine go_iload i7_8 rfl ?_
  refine go_iload i7_10 rfl ?_
  refine go_icmpF i7_12 (by decide) ?_
  refine go_bipush (v := (31 : Int32)) i7_15 (by decide) ?_
  refine go_iloadN i7_17 rfl ?_
  refine go_imul i7_18 ?_
  refine go_aloadN i7_19 rfl ?_
  refine go_iload i7_20 rfl ?_
  refine go_iaload i7_22 hi (i := 0) (by decide) rfl ?_
  refine go_iadd i7_23 ?_
  refine go_istore0 i7_24 (by first | exact One.u | exact One.val rfl) ?_
  refine go_iinc5 (v := 1) i7_25  (by decide) ?_
  refine go_goto 8 i7_28 (by decide) ?_
  refine go_iload i7_8 rfl ?_
  refine go_iload i7_10 rfl ?_
  refine go_icmpF i7_12 (by decide) ?_
  refine go_bipush (v := (31 : Int32)) i7_15 (by decide) ?_
  refine go_iloadN i7_17 rfl ?_
  refine go_imul i7_18 ?_
  refine go_aloadN i7_19 rfl ?_
  refine go_iload i7_20 rfl ?_
  refine go_iaload i7_22 hi (i := 1) (by decide) rfl ?_
  refine go_iadd i7_23 ?_
  refine go_istore0 i7_24 (by first | exact One.u | exact One.val rfl) ?_
  refine go_iinc5 (v := 2) i7_25  (by decide) ?_
  refine go_goto 8 i7_28 (by decide) ?_
  refine go_iload i7_8 rfl ?_
  refine go_iload i7_10 rfl ?_
  refine go_icmpT 31 i7_12 (by decide) (by decide) ?_
  refine go_iloadN i7_31 rfl ?_
  refine go_ireturn i7_32 rfl rfl (Or.inl rfl) (by first | decide | exact Nat.le_of_ble_eq_true rfl | (simp only [room_1]; omega)) (by first | decide | exact Nat.le_of_ble_eq_true rfl | (simp only [room_1]; omega)) ?_
  exact ⟨⟨_, rfl⟩, rfl⟩
theorem met6 (hw : ∀ d ∈ tables_1, d.before a0 Z = true) (i : Nat) (a b : Int32) (H : List GObj) (hi : H[i]? = some (.inr (.int, [.int a, .int b]))) : Met Z a0 n0 M6 1 17 0 0 [.ref (n0 + i), .int 0, .int 2, .int 1, .int 10] H (AnyI H) := by
  refine MetW.intro [.val (.ref (n0 + i)), .val (.int 0), .val (.int 2), .val (.int 1), .val (.int 10)] pn6 rfl ?_
  refine go_iload i6_0 rfl ?_
  refine go_tswIn (o := 114) 116 i6_2 (by decide) (by decide) (by decide) ?_
  refine go_iloadN i6_116 rfl ?_
  refine go_aloadN i6_117 rfl ?_
  refine go_checkcastArr i6_118 (hw _ (List.mem_of_getElem? (i := 55) rfl)) hi (by decide) ?_
  refine go_iloadN i6_121 rfl ?_
  refine go_iloadN i6_122 rfl ?_
  refine go_static i6_123 (met7 hw i a b H hi) (hw _ (List.mem_of_getElem? (i := 56) rfl)) (hw _ (List.mem_of_getElem? (i := 57) rfl)) (hw _ (List.mem_of_getElem? (i := 53) rfl)) (hw _ (List.mem_of_getElem? (i := 58) rfl)) rfl pd7 rfl rfl rfl (by first | decide | exact Nat.le_of_ble_eq_true rfl | (simp only [room_1]; omega)) (by first | decide | exact Nat.le_of_ble_eq_true rfl | (simp only [room_1]; omega)) (by first | decide | exact Nat.le_of_ble_eq_true rfl | (simp only [room_1]; omega)) (by first | decide | exact Nat.le_of_ble_eq_true rfl | (simp only [room_1]; omega)) ?_
  rintro _ _ ⟨⟨x1, rfl⟩, rfl⟩
  refine ⟨rfl, ?_⟩
  refine go_goto 157 i6_126 (by decide) ?_
  refine go_ireturn i6_157 rfl rfl (Or.inl rfl) (by first | decide | exact Nat.le_of_ble_eq_true rfl | (simp only [room_1]; omega)) (by first | decide | exact Nat.le_of_ble_eq_true rfl | (simp only [room_1]; omega)) ?_
  exact ⟨⟨_, rfl⟩, rfl⟩
theorem met5 (hw : ∀ d ∈ tables_1, d.before a0 Z = true) (i : Nat) (a b : Int32) (H : List GObj) (hi : H[i]? = some (.inr (.int, [.int a, .int b]))) : Met Z a0 n0 M5 2 33 0 0 [.ref (n0 + i)] H (AnyI H) := by
  refine MetW.intro [.val (.ref (n0 + i))] pn5 rfl ?_
  refine go_aloadN i5_0 rfl ?_
  refine go_ifnonnull 6 i5_1 (by decide) ?_
  refine go_aloadN i5_6 rfl ?_
  refine go_arraylength i5_7 hi (n := 2) rfl ?_
  refine go_lswOut 49 i5_8 (by intro a b a1 b1 h; simp at h; omega) (by decide) (by decide) ?_
  refine go_aloadN i5_49 rfl ?_
  refine go_iconst (v := (0 : Int32)) i5_50 (by decide) ?_
  refine go_aloadN i5_51 rfl ?_
  refine go_arraylength i5_52 hi (n := 2) rfl ?_
  refine go_iconst (v := (1 : Int32)) i5_53 (by decide) ?_
  refine go_bipush (v := (10 : Int32)) i5_54 (by decide) ?_
  refine go_static i5_56 (met6 hw i a b H hi) (hw _ (List.mem_of_getElem? (i := 51) rfl)) (hw _ (List.mem_of_getElem? (i := 52) rfl)) (hw _ (List.mem_of_getElem? (i := 53) rfl)) (hw _ (List.mem_of_getElem? (i := 54) rfl)) rfl pd6 rfl rfl rfl (by first | decide | exact Nat.le_of_ble_eq_true rfl | (simp only [room_1]; omega)) (by first | decide | exact Nat.le_of_ble_eq_true rfl | (simp only [room_1]; omega)) (by first | decide | exact Nat.le_of_ble_eq_true rfl | (simp only [room_1]; omega)) (by first | decide | exact Nat.le_of_ble_eq_true rfl | (simp only [room_1]; omega)) ?_
  rintro _ _ ⟨⟨x1, rfl⟩, rfl⟩
  refine ⟨rfl, ?_⟩
  refine go_ireturn i5_59 rfl rfl (Or.inl rfl) (by first | decide | exact Nat.le_of_ble_eq_true rfl | (simp only [room_1]; omega)) (by first | decide | exact Nat.le_of_ble_eq_true rfl | (simp only [room_1]; omega)) ?_
  exact ⟨⟨_, rfl⟩, rfl⟩
theorem met9 (hw : ∀ d ∈ tables_1, d.before a0 Z = true) (H : List GObj) (k i j : Nat) (a b x : Int32) (u v : Value) (d : Int32) (D : Nat) (hd : d.toInt = (D : Int)) (hk : H[k]? = some (.inl (KS, [.ref (n0 + i), .ref (n0 + j), u, v]))) (hi : H[i]? = some (.inr (.int, [.int a, .int b]))) (hx : ([.int a, .int b] : List Value)[D]? = some (.int x)) : Met Z a0 n0 M9 0 0 0 0 [.ref (n0 + k), .int d] H (Eq1 (.int x) H) := by
  refine MetW.intro [.val (.ref (n0 + k)), .val (.int d)] pn9 rfl ?_
  refine go_aloadN i9_0 rfl ?_
  refine go_getfield 0 i9_1 (hw _ (List.mem_of_getElem? (i := 41) rfl)) hk rfl rfl ?_
  refine go_iloadN i9_4 rfl ?_
  refine go_iaload i9_5 hi hd hx ?_
  refine go_ireturn i9_6 rfl rfl (Or.inl rfl) (by first | decide | exact Nat.le_of_ble_eq_true rfl | (simp only [room_1]; omega)) (by first | decide | exact Nat.le_of_ble_eq_true rfl | (simp only [room_1]; omega)) ?_
  exact ⟨rfl, rfl⟩
theorem met10 (hw : ∀ d ∈ tables_1, d.before a0 Z = true) (H : List GObj) (k i j : Nat) (a b x : Int32) (u v : Value) (d : Int32) (D : Nat) (hd : d.toInt = (D : Int)) (hk : H[k]? = some (.inl (KS, [.ref (n0 + i), .ref (n0 + j), u, v]))) (hi : H[j]? = some (.inr (.int, [.int a, .int b]))) (hx : ([.int a, .int b] : List Value)[D]? = some (.int x)) : Met Z a0 n0 M10 0 0 0 0 [.ref (n0 + k), .int d] H (Eq1 (.int x) H) := by
  refine MetW.intro [.val (.ref (n0 + k)), .val (.int d)] pn10 rfl ?_
  refine go_aloadN i10_0 rfl ?_
  refine go_getfield 1 i10_1 (hw _ (List.mem_of_getElem? (i := 43) rfl)) hk rfl rfl ?_
  refine go_iloadN i10_4 rfl ?_
  refine go_iaload i10_5 hi hd hx ?_
  refine go_ireturn i10_6 rfl rfl (Or.inl rfl) (by first | decide | exact Nat.le_of_ble_eq_true rfl | (simp only [room_1]; omega)) (by first | decide | exact Nat.le_of_ble_eq_true rfl | (simp only [room_1]; omega)) ?_
  exact ⟨rfl, rfl⟩
theorem met2 (hw : ∀ d ∈ tables_1, d.before a0 Z = true) (K : Int32) (o0 o1 o2 o3 o4 o5 o6 o7 o8 : GObj) : Met Z a0 n0 M2 1 13 2 320 [.ref (n0 + 9), .int K, .int 2] [o0, o1, o2, o3, o4, o5, o6, o7, o8, .inl (KL, [.null, .int 0, .int 0, .null, .int 0])] (Eq0 [o0, o1, o2, o3, o4, o5, o6, o7, o8, .inl (KL, [.ref (n0 + 10), .int K, .int 2, .ref (n0 + 11), .int 0]), .inr (.object "com/example/meshwright/meshwright/grid/Subcube", List.replicate 64 .null), .inr (.int, List.replicate 256 (.int 0))]) := by
  refine MetW.intro [.val (.ref (n0 + 9)), .val (.int K), .val (.int 2)] pn2 rfl ?_
  refine go_aloadN i2_0 rfl ?_
  refine go_initO i2_1 (hw _ (List.mem_of_getElem? (i := 12) rfl)) (hw _ (List.mem_of_getElem? (i := 13) rfl)) (hw _ (List.mem_of_getElem? (i := 14) rfl)) rfl (by decide) (by decide) ?_
  refine go_aloadN i2_4 rfl ?_
  refine go_bipush (v := (64 : Int32)) i2_5 (by decide) ?_
  refine go_anewarray (k := 10) 64 i2_7 (hw _ (List.mem_of_getElem? (i := 15) rfl)) (hw _ (List.mem_of_getElem? (i := 16) rfl)) (by decide) rfl (by decide) (by decide) rfl (by decide) (by decide) ?_
  refine go_putfield 0 i2_10 (hw _ (List.mem_of_getElem? (i := 17) rfl)) rfl rfl rfl (Or.inl (hw _ (List.mem_of_getElem? (i := 18) rfl))) rfl rfl ?_
  refine go_aloadN i2_13 rfl ?_
  refine go_iloadN i2_14 rfl ?_
  refine go_putfield 1 i2_15 (hw _ (List.mem_of_getElem? (i := 19) rfl)) rfl rfl rfl (Or.inr ⟨(hw _ (List.mem_of_getElem? (i := 20) rfl)), rfl, rfl⟩) rfl rfl ?_
  refine go_aloadN i2_18 rfl ?_
  refine go_iloadN i2_19 rfl ?_
  refine go_putfield 2 i2_20 (hw _ (List.mem_of_getElem? (i := 21) rfl)) rfl rfl rfl (Or.inr ⟨(hw _ (List.mem_of_getElem? (i := 22) rfl)), rfl, rfl⟩) rfl rfl ?_
  refine go_aloadN i2_23 rfl ?_
  refine go_aloadN i2_24 rfl ?_
  refine go_getfield 0 i2_25 (hw _ (List.mem_of_getElem? (i := 17) rfl)) rfl rfl rfl ?_
  refine go_arraylength i2_28 rfl (n := 64) rfl ?_
  refine go_iconst (v := (2 : Int32)) i2_29 (by decide) ?_
  refine go_imul i2_30 ?_
  refine go_iloadN i2_31 rfl ?_
  refine go_imul i2_32 ?_
  refine go_newarray (k := 11) 256 i2_33 rfl (hw _ (List.mem_of_getElem? (i := 0) rfl)) (by decide) (show _ = List.replicate 256 (.int 0) from rfl) (by decide) (by decide) rfl (by first | decide | exact Nat.le_of_ble_eq_true rfl | (simp only [room_1]; omega)) (by first | decide | exact Nat.le_of_ble_eq_true rfl | (simp only [room_1]; omega)) ?_
  refine go_putfield 3 i2_35 (hw _ (List.mem_of_getElem? (i := 23) rfl)) rfl rfl rfl (Or.inl (hw _ (List.mem_of_getElem? (i := 24) rfl))) rfl rfl ?_
  refine go_return i2_38 rfl (by first | decide | exact Nat.le_of_ble_eq_true rfl | (simp only [room_1]; omega)) (by first | decide | exact Nat.le_of_ble_eq_true rfl | (simp only [room_1]; omega)) ?_
  exact ⟨rfl, rfl⟩
theorem met4_0 (hw : ∀ d ∈ tables_1, d.before a0 Z = true) (a b c d : Int32) (ha : 0 ≤ a.toInt) (hb : 0 ≤ b.toInt) (hc : 1 ≤ c.toInt) (hd : 1 ≤ d.toInt) (o2 o3 o4 o5 o6 o7 o8 o9 o10 o11 : GObj) : Met Z a0 n0 M4 3 47 2 4 [.ref (n0 + 12), .ref (n0 + 0), .ref (n0 + 1)] [.inr (.int, [.int a, .int b]), .inr (.int, [.int c, .int d]), o2, o3, o4, o5, o6, o7, o8, o9, o10, o11, .inl (KS, [.null, .null, .long 0, .int 0])]
    (fun v H' => v = none ∧ ∃ (z : Int64) (h : Int32), H' = [.inr (.int, [.int a, .int b]), .inr (.int, [.int c, .int d]), o2, o3, o4, o5, o6, o7, o8, o9, o10, o11, .inl (KS, [.ref (n0 + 13), .ref (n0 + 14), .long z, .int h]), .inr (.int, [.int a, .int b]), .inr (.int, [.int c, .int d])]) := by
  refine MetW.intro [.val (.ref (n0 + 12)), .val (.ref (n0 + 0)), .val (.ref (n0 + 1)), .unset, .unset, .unset, .unset, .unset, .unset] pn4 rfl ?_
  have z0 : (0 : Int32).toInt = 0 := by decide
  have z1 : (1 : Int32).toInt = 1 := by decide
  refine go_aloadN i4_0 rfl ?_
  refine go_initO i4_1 (hw _ (List.mem_of_getElem? (i := 31) rfl)) (hw _ (List.mem_of_getElem? (i := 13) rfl)) (hw _ (List.mem_of_getElem? (i := 14) rfl)) rfl (by decide) (by decide) ?_
  refine go_aloadN i4_4 rfl ?_
  refine go_arraylength i4_5 rfl (n := 2) rfl ?_
  refine go_ifF i4_6 (by decide) ?_
  refine go_aloadN i4_9 rfl ?_
  refine go_arraylength i4_10 rfl (n := 2) rfl ?_
  refine go_aloadN i4_11 rfl ?_
  refine go_arraylength i4_12 rfl (n := 2) rfl ?_
  refine go_icmpT 33 i4_13 (by decide) (by decide) ?_
  refine go_iconst (v := (0 : Int32)) i4_33 (by decide) ?_
  refine go_istore3 i4_34 (by first | exact One.u | exact One.val rfl) ?_
  refine go_iloadN i4_35 rfl ?_
  refine go_aloadN i4_36 rfl ?_
  refine go_arraylength i4_37 rfl (n := 2) rfl ?_
  refine go_icmpF i4_38 (by decide) ?_
  refine go_aloadN i4_41 rfl ?_
  refine go_iloadN i4_42 rfl ?_
  refine go_iaload i4_43 rfl (i := 0) (by decide) rfl ?_
  refine go_ifF i4_44 ((if0 _ _).trans ((hold_lt _ _).2.mpr (by rw [Int32.lt_iff_toInt_lt, z0]; omega))) ?_
  refine go_aloadN i4_47 rfl ?_
  refine go_iloadN i4_48 rfl ?_
  refine go_iaload i4_49 rfl (i := 0) (by decide) rfl ?_
  refine go_iconst (v := (1 : Int32)) i4_50 (by decide) ?_
  refine go_icmpT 74 i4_51 (by decide) ((hold_ge _ _).1.mpr (by rw [Int32.lt_iff_toInt_lt, z1]; omega)) ?_
  refine go_iinc3 (v := 1) i4_74  (by decide) ?_
  refine go_goto 35 i4_77 (by decide) ?_
  refine go_iloadN i4_35 rfl ?_
  refine go_aloadN i4_36 rfl ?_
  refine go_arraylength i4_37 rfl (n := 2) rfl ?_
  refine go_icmpF i4_38 (by decide) ?_
  refine go_aloadN i4_41 rfl ?_
  refine go_iloadN i4_42 rfl ?_
  refine go_iaload i4_43 rfl (i := 1) (by decide) rfl ?_
  refine go_ifF i4_44 ((if0 _ _).trans ((hold_lt _ _).2.mpr (by rw [Int32.lt_iff_toInt_lt, z0]; omega))) ?_
  refine go_aloadN i4_47 rfl ?_
  refine go_iloadN i4_48 rfl ?_
  refine go_iaload i4_49 rfl (i := 1) (by decide) rfl ?_
  refine go_iconst (v := (1 : Int32)) i4_50 (by decide) ?_
  refine go_icmpT 74 i4_51 (by decide) ((hold_ge _ _).1.mpr (by rw [Int32.lt_iff_toInt_lt, z1]; omega)) ?_
  refine go_iinc3 (v := 2) i4_74  (by decide) ?_
  refine go_goto 35 i4_77 (by decide) ?_
  refine go_iloadN i4_35 rfl ?_
  refine go_aloadN i4_36 rfl ?_
  refine go_arraylength i4_37 rfl (n := 2) rfl ?_
  refine go_icmpT 80 i4_38 (by decide) (by decide) ?_
  refine go_aloadN i4_80 rfl ?_
  refine go_aloadN i4_81 rfl ?_
  refine go_clone (k' := 13) 2 i4_82 (hw _ (List.mem_of_getElem? (i := 32) rfl)) (hw _ (List.mem_of_getElem? (i := 33) rfl)) (hw _ (List.mem_of_getElem? (i := 37) rfl)) (hw _ (List.mem_of_getElem? (i := 35) rfl)) (hw _ (List.mem_of_getElem? (i := 36) rfl)) (hw _ (List.mem_of_getElem? (i := 38) rfl)) rfl (by decide) rfl (by first | decide | exact Nat.le_of_ble_eq_true rfl | (simp only [room_1]; omega)) (by first | decide | exact Nat.le_of_ble_eq_true rfl | (simp only [room_1]; omega)) (by first | decide | exact Nat.le_of_ble_eq_true rfl | (simp only [room_1]; omega)) rfl (by first | decide | exact Nat.le_of_ble_eq_true rfl | (simp only [room_1]; omega)) (by first | decide | exact Nat.le_of_ble_eq_true rfl | (simp only [room_1]; omega)) ?_
  refine go_checkcastArr i4_85 (hw _ (List.mem_of_getElem? (i := 39) rfl)) rfl (by decide) ?_
  refine go_putfield 0 i4_88 (hw _ (List.mem_of_getElem? (i := 41) rfl)) rfl rfl rfl (Or.inr ⟨(hw _ (List.mem_of_getElem? (i := 42) rfl)), rfl, rfl⟩) rfl rfl ?_
  refine go_aloadN i4_91 rfl ?_
  refine go_aloadN i4_92 rfl ?_
  refine go_clone (k' := 14) 2 i4_93 (hw _ (List.mem_of_getElem? (i := 32) rfl)) (hw _ (List.mem_of_getElem? (i := 33) rfl)) (hw _ (List.mem_of_getElem? (i := 37) rfl)) (hw _ (List.mem_of_getElem? (i := 35) rfl)) (hw _ (List.mem_of_getElem? (i := 36) rfl)) (hw _ (List.mem_of_getElem? (i := 38) rfl)) rfl (by decide) rfl (by first | decide | exact Nat.le_of_ble_eq_true rfl | (simp only [room_1]; omega)) (by first | decide | exact Nat.le_of_ble_eq_true rfl | (simp only [room_1]; omega)) (by first | decide | exact Nat.le_of_ble_eq_true rfl | (simp only [room_1]; omega)) rfl (by first | decide | exact Nat.le_of_ble_eq_true rfl | (simp only [room_1]; omega)) (by first | decide | exact Nat.le_of_ble_eq_true rfl | (simp only [room_1]; omega)) ?_
  refine go_checkcastArr i4_96 (hw _ (List.mem_of_getElem? (i := 39) rfl)) rfl (by decide) ?_
  refine go_putfield 1 i4_99 (hw _ (List.mem_of_getElem? (i := 43) rfl)) rfl rfl rfl (Or.inr ⟨(hw _ (List.mem_of_getElem? (i := 44) rfl)), rfl, rfl⟩) rfl rfl ?_
  refine go_lconst (v := (1 : Int64)) i4_102 (by decide) ?_
  refine go_lstore3 i4_103 (by first | exact Or.inl ⟨One.u, One.u⟩ | exact Or.inr ⟨_, rfl, rfl⟩ | exact Or.inl ⟨One.val rfl, One.u⟩ | exact Or.inl ⟨One.u, One.val rfl⟩ | exact Or.inl ⟨One.val rfl, One.val rfl⟩) ?_
  refine go_aloadN i4_104 rfl ?_
  refine go_astore5 i4_105 (by first | exact One.u | exact One.val rfl) ?_
  refine go_aload i4_107 rfl ?_
  refine go_arraylength i4_109 rfl (n := 2) rfl ?_
  refine go_istore6 i4_110 (by first | exact One.u | exact One.val rfl) ?_
  refine go_iconst (v := (0 : Int32)) i4_112 (by decide) ?_
  refine go_istore7 i4_113 (by first | exact One.u | exact One.val rfl) ?_
  refine go_iload i4_115 rfl ?_
  refine go_iload i4_117 rfl ?_
  refine go_icmpF i4_119 (by decide) ?_
  refine go_aload i4_122 rfl ?_
  refine go_iload i4_124 rfl ?_
  refine go_iaload i4_126 rfl (i := 0) (by decide) rfl ?_
  refine go_istore8 i4_127 (by first | exact One.u | exact One.val rfl) ?_
  refine go_lloadN i4_129 rfl ?_
  refine go_iload i4_130 rfl ?_
  refine go_i2l i4_132 ?_
  refine go_lmul i4_133 ?_
  refine go_lstore3 i4_134 (by first | exact Or.inl ⟨One.u, One.u⟩ | exact Or.inr ⟨_, rfl, rfl⟩ | exact Or.inl ⟨One.val rfl, One.u⟩ | exact Or.inl ⟨One.u, One.val rfl⟩ | exact Or.inl ⟨One.val rfl, One.val rfl⟩) ?_
  refine go_iinc7 (v := 1) i4_135  (by decide) ?_
  refine go_goto 115 i4_138 (by decide) ?_
  refine go_iload i4_115 rfl ?_
  refine go_iload i4_117 rfl ?_
  refine go_icmpF i4_119 (by decide) ?_
  refine go_aload i4_122 rfl ?_
  refine go_iload i4_124 rfl ?_
  refine go_iaload i4_126 rfl (i := 1) (by decide) rfl ?_
  refine go_istore8 i4_127 (by first | exact One.u | exact One.val rfl) ?_
  refine go_lloadN i4_129 rfl ?_
  refine go_iload i4_130 rfl ?_
  refine go_i2l i4_132 ?_
  refine go_lmul i4_133 ?_
  refine go_lstore3 i4_134 (by first | exact Or.inl ⟨One.u, One.u⟩ | exact Or.inr ⟨_, rfl, rfl⟩ | exact Or.inl ⟨One.val rfl, One.u⟩ | exact Or.inl ⟨One.u, One.val rfl⟩ | exact Or.inl ⟨One.val rfl, One.val rfl⟩) ?_
  refine go_iinc7 (v := 2) i4_135  (by decide) ?_
  refine go_goto 115 i4_138 (by decide) ?_
  refine go_iload i4_115 rfl ?_
  refine go_iload i4_117 rfl ?_
  refine go_icmpT 141 i4_119 (by decide) (by decide) ?_
  refine go_aloadN i4_141 rfl ?_
  refine go_lloadN i4_142 rfl ?_
  refine go_putfield 2 i4_143 (hw _ (List.mem_of_getElem? (i := 45) rfl)) rfl rfl rfl (Or.inr ⟨(hw _ (List.mem_of_getElem? (i := 46) rfl)), rfl, rfl⟩) rfl rfl ?_
  refine go_aloadN i4_146 rfl ?_
  refine go_bipush (v := (31 : Int32)) i4_147 (by decide) ?_
  refine go_aloadN i4_149 rfl ?_
  refine go_static i4_150 (met5 hw 0 a b _ rfl) (hw _ (List.mem_of_getElem? (i := 47) rfl)) (hw _ (List.mem_of_getElem? (i := 48) rfl)) (hw _ (List.mem_of_getElem? (i := 49) rfl)) (hw _ (List.mem_of_getElem? (i := 50) rfl)) rfl pd5 rfl rfl rfl (by first | decide | exact Nat.le_of_ble_eq_true rfl | (simp only [room_1]; omega)) (by first | decide | exact Nat.le_of_ble_eq_true rfl | (simp only [room_1]; omega)) (by first | decide | exact Nat.le_of_ble_eq_true rfl | (simp only [room_1]; omega)) (by first | decide | exact Nat.le_of_ble_eq_true rfl | (simp only [room_1]; omega)) ?_
  rintro _ _ ⟨⟨x1, rfl⟩, rfl⟩
  refine ⟨rfl, ?_⟩
  refine go_imul i4_153 ?_
  refine go_aloadN i4_154 rfl ?_
  refine go_static i4_155 (met5 hw 1 c d _ rfl) (hw _ (List.mem_of_getElem? (i := 47) rfl)) (hw _ (List.mem_of_getElem? (i := 48) rfl)) (hw _ (List.mem_of_getElem? (i := 49) rfl)) (hw _ (List.mem_of_getElem? (i := 50) rfl)) rfl pd5 rfl rfl rfl (by first | decide | exact Nat.le_of_ble_eq_true rfl | (simp only [room_1]; omega)) (by first | decide | exact Nat.le_of_ble_eq_true rfl | (simp only [room_1]; omega)) (by first | decide | exact Nat.le_of_ble_eq_true rfl | (simp only [room_1]; omega)) (by first | decide | exact Nat.le_of_ble_eq_true rfl | (simp only [room_1]; omega)) ?_
  rintro _ _ ⟨⟨x2, rfl⟩, rfl⟩
  refine ⟨rfl, ?_⟩
  refine go_iadd i4_158 ?_
  refine go_putfield 3 i4_159 (hw _ (List.mem_of_getElem? (i := 59) rfl)) rfl rfl rfl (Or.inr ⟨(hw _ (List.mem_of_getElem? (i := 60) rfl)), rfl, rfl⟩) rfl rfl ?_
  refine go_return i4_162 rfl (by first | decide | exact Nat.le_of_ble_eq_true rfl | (simp only [room_1]; omega)) (by first | decide | exact Nat.le_of_ble_eq_true rfl | (simp only [room_1]; omega)) ?_
  exact ⟨rfl, _, _, rfl⟩
theorem met4_1 (hw : ∀ d ∈ tables_1, d.before a0 Z = true) (a b c d : Int32) (ha : 0 ≤ a.toInt) (hb : 0 ≤ b.toInt) (hc : 1 ≤ c.toInt) (hd : 1 ≤ d.toInt) (o0 o1 o4 o5 o6 o7 o8 o9 o10 o11 o12 o13 o14 : GObj) : Met Z a0 n0 M4 3 47 2 4 [.ref (n0 + 15), .ref (n0 + 2), .ref (n0 + 3)] [o0, o1, .inr (.int, [.int a, .int b]), .inr (.int, [.int c, .int d]), o4, o5, o6, o7, o8, o9, o10, o11, o12, o13, o14, .inl (KS, [.null, .null, .long 0, .int 0])]
    (fun v H' => v = none ∧ ∃ (z : Int64) (h : Int32), H' = [o0, o1, .inr (.int, [.int a, .int b]), .inr (.int, [.int c, .int d]), o4, o5, o6, o7, o8, o9, o10, o11, o12, o13, o14, .inl (KS, [.ref (n0 + 16), .ref (n0 + 17), .long z, .int h]), .inr (.int, [.int a, .int b]), .inr (.int, [.int c, .int d])]) := by
  refine MetW.intro [.val (.ref (n0 + 15)), .val (.ref (n0 + 2)), .val (.ref (n0 + 3)), .unset, .unset, .unset, .unset, .unset, .unset] pn4 rfl ?_
  have z0 : (0 : Int32).toInt = 0 := by decide
  have z1 : (1 : Int32).toInt = 1 := by decide
  refine go_aloadN i4_0 rfl ?_
  refine go_initO i4_1 (hw _ (List.mem_of_getElem? (i := 31) rfl)) (hw _ (List.mem_of_getElem? (i := 13) rfl)) (hw _ (List.mem_of_getElem? (i := 14) rfl)) rfl (by decide) (by decide) ?_
  refine go_aloadN i4_4 rfl ?_
  refine go_arraylength i4_5 rfl (n := 2) rfl ?_
  refine go_ifF i4_6 (by decide) ?_
  refine go_aloadN i4_9 rfl ?_
  refine go_arraylength i4_10 rfl (n := 2) rfl ?_
  refine go_aloadN i4_11 rfl ?_
  refine go_arraylength i4_12 rfl (n := 2) rfl ?_
  refine go_icmpT 33 i4_13 (by decide) (by decide) ?_
  refine go_iconst (v := (0 : Int32)) i4_33 (by decide) ?_
  refine go_istore3 i4_34 (by first | exact One.u | exact One.val rfl) ?_
  refine go_iloadN i4_35 rfl ?_
  refine go_aloadN i4_36 rfl ?_
  refine go_arraylength i4_37 rfl (n := 2) rfl ?_
  refine go_icmpF i4_38 (by decide) ?_
  refine go_aloadN i4_41 rfl ?_
  refine go_iloadN i4_42 rfl ?_
  refine go_iaload i4_43 rfl (i := 0) (by decide) rfl ?_
  refine go_ifF i4_44 ((if0 _ _).trans ((hold_lt _ _).2.mpr (by rw [Int32.lt_iff_toInt_lt, z0]; omega))) ?_
  refine go_aloadN i4_47 rfl ?_
  refine go_iloadN i4_48 rfl ?_
  refine go_iaload i4_49 rfl (i := 0) (by decide) rfl ?_
  refine go_iconst (v := (1 : Int32)) i4_50 (by decide) ?_
  refine go_icmpT 74 i4_51 (by decide) ((hold_ge _ _).1.mpr (by rw [Int32.lt_iff_toInt_lt, z1]; omega)) ?_
  refine go_iinc3 (v := 1) i4_74  (by decide) ?_
  refine go_goto 35 i4_77 (by decide) ?_
  refine go_iloadN i4_35 rfl ?_
  refine go_aloadN i4_36 rfl ?_
  refine go_arraylength i4_37 rfl (n := 2) rfl ?_
  refine go_icmpF i4_38 (by decide) ?_
  refine go_aloadN i4_41 rfl ?_
  refine go_iloadN i4_42 rfl ?_
  refine go_iaload i4_43 rfl (i := 1) (by decide) rfl ?_
  refine go_ifF i4_44 ((if0 _ _).trans ((hold_lt _ _).2.mpr (by rw [Int32.lt_iff_toInt_lt, z0]; omega))) ?_
  refine go_aloadN i4_47 rfl ?_
  refine go_iloadN i4_48 rfl ?_
  refine go_iaload i4_49 rfl (i := 1) (by decide) rfl ?_
  refine go_iconst (v := (1 : Int32)) i4_50 (by decide) ?_
  refine go_icmpT 74 i4_51 (by decide) ((hold_ge _ _).1.mpr (by rw [Int32.lt_iff_toInt_lt, z1]; omega)) ?_
  refine go_iinc3 (v := 2) i4_74  (by decide) ?_
  refine go_goto 35 i4_77 (by decide) ?_
  refine go_iloadN i4_35 rfl ?_
  refine go_aloadN i4_36 rfl ?_
  refine go_arraylength i4_37 rfl (n := 2) rfl ?_
  refine go_icmpT 80 i4_38 (by decide) (by decide) ?_
  refine go_aloadN i4_80 rfl ?_
  refine go_aloadN i4_81 rfl ?_
  refine go_clone (k' := 16) 2 i4_82 (hw _ (List.mem_of_getElem? (i := 32) rfl)) (hw _ (List.mem_of_getElem? (i := 33) rfl)) (hw _ (List.mem_of_getElem? (i := 37) rfl)) (hw _ (List.mem_of_getElem? (i := 35) rfl)) (hw _ (List.mem_of_getElem? (i := 36) rfl)) (hw _ (List.mem_of_getElem? (i := 38) rfl)) rfl (by decide) rfl (by first | decide | exact Nat.le_of_ble_eq_true rfl | (simp only [room_1]; omega)) (by first | decide | exact Nat.le_of_ble_eq_true rfl | (simp only [room_1]; omega)) (by first | decide | exact Nat.le_of_ble_eq_true rfl | (simp only [room_1]; omega)) rfl (by first | decide | exact Nat.le_of_ble_eq_true rfl | (simp only [room_1]; omega)) (by first | decide | exact Nat.le_of_ble_eq_true rfl | (simp only [room_1]; omega)) ?_
  refine go_checkcastArr i4_85 (hw _ (List.mem_of_getElem? (i := 39) rfl)) rfl (by decide) ?_
  refine go_putfield 0 i4_88 (hw _ (List.mem_of_getElem? (i := 41) rfl)) rfl rfl rfl (Or.inr ⟨(hw _ (List.mem_of_getElem? (i := 42) rfl)), rfl, rfl⟩) rfl rfl ?_
  refine go_aloadN i4_91 rfl ?_
  refine go_aloadN i4_92 rfl ?_
  refine go_clone (k' := 17) 2 i4_93 (hw _ (List.mem_of_getElem? (i := 32) rfl)) (hw _ (List.mem_of_getElem? (i := 33) rfl)) (hw _ (List.mem_of_getElem? (i := 37) rfl)) (hw _ (List.mem_of_getElem? (i := 35) rfl)) (hw _ (List.mem_of_getElem? (i := 36) rfl)) (hw _ (List.mem_of_getElem? (i := 38) rfl)) rfl (by decide) rfl (by first | decide | exact Nat.le_of_ble_eq_true rfl | (simp only [room_1]; omega)) (by first | decide | exact Nat.le_of_ble_eq_true rfl | (simp only [room_1]; omega)) (by first | decide | exact Nat.le_of_ble_eq_true rfl | (simp only [room_1]; omega)) rfl (by first | decide | exact Nat.le_of_ble_eq_true rfl | (simp only [room_1]; omega)) (by first | decide | exact Nat.le_of_ble_eq_true rfl | (simp only [room_1]; omega)) ?_
  refine go_checkcastArr i4_96 (hw _ (List.mem_of_getElem? (i := 39) rfl)) rfl (by decide) ?_
  refine go_putfield 1 i4_99 (hw _ (List.mem_of_getElem? (i := 43) rfl)) rfl rfl rfl (Or.inr ⟨(hw _ (List.mem_of_getElem? (i := 44) rfl)), rfl, rfl⟩) rfl rfl ?_
  refine go_lconst (v := (1 : Int64)) i4_102 (by decide) ?_
  refine go_lstore3 i4_103 (by first | exact Or.inl ⟨One.u, One.u⟩ | exact Or.inr ⟨_, rfl, rfl⟩ | exact Or.inl ⟨One.val rfl, One.u⟩ | exact Or.inl ⟨One.u, One.val rfl⟩ | exact Or.inl ⟨One.val rfl, One.val rfl⟩) ?_
  refine go_aloadN i4_104 rfl ?_
  refine go_astore5 i4_105 (by first | exact One.u | exact One.val rfl) ?_
  refine go_aload i4_107 rfl ?_
  refine go_arraylength i4_109 rfl (n := 2) rfl ?_
  refine go_istore6 i4_110 (by first | exact One.u | exact One.val rfl) ?_
  refine go_iconst (v := (0 : Int32)) i4_112 (by decide) ?_
  refine go_istore7 i4_113 (by first | exact One.u | exact One.val rfl) ?_
  refine go_iload i4_115 rfl ?_
  refine go_iload i4_117 rfl ?_
  refine go_icmpF i4_119 (by decide) ?_
  refine go_aload i4_122 rfl ?_
  refine go_iload i4_124 rfl ?_
  refine go_iaload i4_126 rfl (i := 0) (by decide) rfl ?_
  refine go_istore8 i4_127 (by first | exact One.u | exact One.val rfl) ?_
  refine go_lloadN i4_129 rfl ?_
  refine go_iload i4_130 rfl ?_
  refine go_i2l i4_132 ?_
  refine go_lmul i4_133 ?_
  refine go_lstore3 i4_134 (by first | exact Or.inl ⟨One.u, One.u⟩ | exact Or.inr ⟨_, rfl, rfl⟩ | exact Or.inl ⟨One.val rfl, One.u⟩ | exact Or.inl ⟨One.u, One.val rfl⟩ | exact Or.inl ⟨One.val rfl, One.val rfl⟩) ?_
  refine go_iinc7 (v := 1) i4_135  (by decide) ?_
  refine go_goto 115 i4_138 (by decide) ?_
  refine go_iload i4_115 rfl ?_
  refine go_iload i4_117 rfl ?_
  refine go_icmpF i4_119 (by decide) ?_
  refine go_aload i4_122 rfl ?_
  refine go_iload i4_124 rfl ?_
  refine go_iaload i4_126 rfl (i := 1) (by decide) rfl ?_
  refine go_istore8 i4_127 (by first | exact One.u | exact One.val rfl) ?_
  refine go_lloadN i4_129 rfl ?_
  refine go_iload i4_130 rfl ?_
  refine go_i2l i4_132 ?_
  refine go_lmul i4_133 ?_
  refine go_lstore3 i4_134 (by first | exact Or.inl ⟨One.u, One.u⟩ | exact Or.inr ⟨_, rfl, rfl⟩ | exact Or.inl ⟨One.val rfl, One.u⟩ | exact Or.inl ⟨One.u, One.val rfl⟩ | exact Or.inl ⟨One.val rfl, One.val rfl⟩) ?_
  refine go_iinc7 (v := 2) i4_135  (by decide) ?_
  refine go_goto 115 i4_138 (by decide) ?_
  refine go_iload i4_115 rfl ?_
  refine go_iload i4_117 rfl ?_
  refine go_icmpT 141 i4_119 (by decide) (by decide) ?_
  refine go_aloadN i4_141 rfl ?_
  refine go_lloadN i4_142 rfl ?_
  refine go_putfield 2 i4_143 (hw _ (List.mem_of_getElem? (i := 45) rfl)) rfl rfl rfl (Or.inr ⟨(hw _ (List.mem_of_getElem? (i := 46) rfl)), rfl, rfl⟩) rfl rfl ?_
  refine go_aloadN i4_146 rfl ?_
  refine go_bipush (v := (31 : Int32)) i4_147 (by decide) ?_
  refine go_aloadN i4_149 rfl ?_
  refine go_static i4_150 (met5 hw 2 a b _ rfl) (hw _ (List.mem_of_getElem? (i := 47) rfl)) (hw _ (List.mem_of_getElem? (i := 48) rfl)) (hw _ (List.mem_of_getElem? (i := 49) rfl)) (hw _ (List.mem_of_getElem? (i := 50) rfl)) rfl pd5 rfl rfl rfl (by first | decide | exact Nat.le_of_ble_eq_true rfl | (simp only [room_1]; omega)) (by first | decide | exact Nat.le_of_ble_eq_true rfl | (simp only [room_1]; omega)) (by first | decide | exact Nat.le_of_ble_eq_true rfl | (simp only [room_1]; omega)) (by first | decide | exact Nat.le_of_ble_eq_true rfl | (simp only [room_1]; omega)) ?_
  rintro _ _ ⟨⟨x1, rfl⟩, rfl⟩
  refine ⟨rfl, ?_⟩
  refine go_imul i4_153 ?_
  refine go_aloadN i4_154 rfl ?_
  refine go_static i4_155 (met5 hw 3 c d _ rfl) (hw _ (List.mem_of_getElem? (i := 47) rfl)) (hw _ (List.mem_of_getElem? (i := 48) rfl)) (hw _ (List.mem_of_getElem? (i := 49) rfl)) (hw _ (List.mem_of_getElem? (i := 50) rfl)) rfl pd5 rfl rfl rfl (by first | decide | exact Nat.le_of_ble_eq_true rfl | (simp only [room_1]; omega)) (by first | decide | exact Nat.le_of_ble_eq_true rfl | (simp only [room_1]; omega)) (by first | decide | exact Nat.le_of_ble_eq_true rfl | (simp only [room_1]; omega)) (by first | decide | exact Nat.le_of_ble_eq_true rfl | (simp only [room_1]; omega)) ?_
  rintro _ _ ⟨⟨x2, rfl⟩, rfl⟩
  refine ⟨rfl, ?_⟩
  refine go_iadd i4_158 ?_
  refine go_putfield 3 i4_159 (hw _ (List.mem_of_getElem? (i := 59) rfl)) rfl rfl rfl (Or.inr ⟨(hw _ (List.mem_of_getElem? (i := 60) rfl)), rfl, rfl⟩) rfl rfl ?_
  refine go_return i4_162 rfl (by first | decide | exact Nat.le_of_ble_eq_true rfl | (simp only [room_1]; omega)) (by first | decide | exact Nat.le_of_ble_eq_true rfl | (simp only [room_1]; omega)) ?_
  exact ⟨rfl, _, _, rfl⟩
theorem met4_2 (hw : ∀ d ∈ tables_1, d.before a0 Z = true) (a b c d : Int32) (ha : 0 ≤ a.toInt) (hb : 0 ≤ b.toInt) (hc : 1 ≤ c.toInt) (hd : 1 ≤ d.toInt) (o0 o1 o2 o3 o6 o7 o8 o9 o10 o11 o12 o13 o14 o15 o16 o17 : GObj) : Met Z a0 n0 M4 3 47 2 4 [.ref (n0 + 18), .ref (n0 + 4), .ref (n0 + 5)] [o0, o1, o2, o3, .inr (.int, [.int a, .int b]), .inr (.int, [.int c, .int d]), o6, o7, o8, o9, o10, o11, o12, o13, o14, o15, o16, o17, .inl (KS, [.null, .null, .long 0, .int 0])]
    (fun v H' => v = none ∧ ∃ (z : Int64) (h : Int32), H' = [o0, o1, o2, o3, .inr (.int, [.int a, .int b]), .inr (.int, [.int c, .int d]), o6, o7, o8, o9, o10, o11, o12, o13, o14, o15, o16, o17, .inl (KS, [.ref (n0 + 19), .ref (n0 + 20), .long z, .int h]), .inr (.int, [.int a, .int b]), .inr (.int, [.int c, .int d])]) := by
  refine MetW.intro [.val (.ref (n0 + 18)), .val (.ref (n0 + 4)), .val (.ref (n0 + 5)), .unset, .unset, .unset, .unset, .unset, .unset] pn4 rfl ?_
  have z0 : (0 : Int32).toInt = 0 := by decide
  have z1 : (1 : Int32).toInt = 1 := by decide
  refine go_aloadN i4_0 rfl ?_
  refine go_initO i4_1 (hw _ (List.mem_of_getElem? (i := 31) rfl)) (hw _ (List.mem_of_getElem? (i := 13) rfl)) (hw _ (List.mem_of_getElem? (i := 14) rfl)) rfl (by decide) (by decide) ?_
  refine go_aloadN i4_4 rfl ?_
  refine go_arraylength i4_5 rfl (n := 2) rfl ?_
  refine go_ifF i4_6 (by decide) ?_
  refine go_aloadN i4_9 rfl ?_
  refine go_arraylength i4_10 rfl (n := 2) rfl ?_
  refine go_aloadN i4_11 rfl ?_
  refine go_arraylength i4_12 rfl (n := 2) rfl ?_
  refine go_icmpT 33 i4_13 (by decide) (by decide) ?_
  refine go_iconst (v := (0 : Int32)) i4_33 (by decide) ?_
  refine go_istore3 i4_34 (by first | exact One.u | exact One.val rfl) ?_
  refine go_iloadN i4_35 rfl ?_
  refine go_aloadN i4_36 rfl ?_
  refine go_arraylength i4_37 rfl (n := 2) rfl ?_
  refine go_icmpF i4_38 (by decide) ?_
  refine go_aloadN i4_41 rfl ?_
  refine go_iloadN i4_42 rfl ?_
  refine go_iaload i4_43 rfl (i := 0) (by decide) rfl ?_
  refine go_ifF i4_44 ((if0 _ _).trans ((hold_lt _ _).2.mpr (by rw [Int32.lt_iff_toInt_lt, z0]; omega))) ?_
  refine go_aloadN i4_47 rfl ?_
  refine go_iloadN i4_48 rfl ?_
  refine go_iaload i4_49 rfl (i := 0) (by decide) rfl ?_
  refine go_iconst (v := (1 : Int32)) i4_50 (by decide) ?_
  refine go_icmpT 74 i4_51 (by decide) ((hold_ge _ _).1.mpr (by rw [Int32.lt_iff_toInt_lt, z1]; omega)) ?_
  refine go_iinc3 (v := 1) i4_74  (by decide) ?_
  refine go_goto 35 i4_77 (by decide) ?_
  refine go_iloadN i4_35 rfl ?_
  refine go_aloadN i4_36 rfl ?_
  refine go_arraylength i4_37 rfl (n := 2) rfl ?_
  refine go_icmpF i4_38 (by decide) ?_
  refine go_aloadN i4_41 rfl ?_
  refine go_iloadN i4_42 rfl ?_
  refine go_iaload i4_43 rfl (i := 1) (by decide) rfl ?_
  refine go_ifF i4_44 ((if0 _ _).trans ((hold_lt _ _).2.mpr (by rw [Int32.lt_iff_toInt_lt, z0]; omega))) ?_
  refine go_aloadN i4_47 rfl ?_
  refine go_iloadN i4_48 rfl ?_
  refine go_iaload i4_49 rfl (i := 1) (by decide) rfl ?_
  refine go_iconst (v := (1 : Int32)) i4_50 (by decide) ?_
  refine go_icmpT 74 i4_51 (by decide) ((hold_ge _ _).1.mpr (by rw [Int32.lt_iff_toInt_lt, z1]; omega)) ?_
  refine go_iinc3 (v := 2) i4_74  (by decide) ?_
  refine go_goto 35 i4_77 (by decide) ?_
  refine go_iloadN i4_35 rfl ?_
  refine go_aloadN i4_36 rfl ?_
  refine go_arraylength i4_37 rfl (n := 2) rfl ?_
  refine go_icmpT 80 i4_38 (by decide) (by decide) ?_
  refine go_aloadN i4_80 rfl ?_
  refine go_aloadN i4_81 rfl ?_
  refine go_clone (k' := 19) 2 i4_82 (hw _ (List.mem_of_getElem? (i := 32) rfl)) (hw _ (List.mem_of_getElem? (i := 33) rfl)) (hw _ (List.mem_of_getElem? (i := 37) rfl)) (hw _ (List.mem_of_getElem? (i := 35) rfl)) (hw _ (List.mem_of_getElem? (i := 36) rfl)) (hw _ (List.mem_of_getElem? (i := 38) rfl)) rfl (by decide) rfl (by first | decide | exact Nat.le_of_ble_eq_true rfl | (simp only [room_1]; omega)) (by first | decide | exact Nat.le_of_ble_eq_true rfl | (simp only [room_1]; omega)) (by first | decide | exact Nat.le_of_ble_eq_true rfl | (simp only [room_1]; omega)) rfl (by first | decide | exact Nat.le_of_ble_eq_true rfl | (simp only [room_1]; omega)) (by first | decide | exact Nat.le_of_ble_eq_true rfl | (simp only [room_1]; omega)) ?_
  refine go_checkcastArr i4_85 (hw _ (List.mem_of_getElem? (i := 39) rfl)) rfl (by decide) ?_
  refine go_putfield 0 i4_88 (hw _ (List.mem_of_getElem? (i := 41) rfl)) rfl rfl rfl (Or.inr ⟨(hw _ (List.mem_of_getElem? (i := 42) rfl)), rfl, rfl⟩) rfl rfl ?_
  refine go_aloadN i4_91 rfl ?_
  refine go_aloadN i4_92 rfl ?_
  refine go_clone (k' := 20) 2 i4_93 (hw _ (List.mem_of_getElem? (i := 32) rfl)) (hw _ (List.mem_of_getElem? (i := 33) rfl)) (hw _ (List.mem_of_getElem? (i := 37) rfl)) (hw _ (List.mem_of_getElem? (i := 35) rfl)) (hw _ (List.mem_of_getElem? (i := 36) rfl)) (hw _ (List.mem_of_getElem? (i := 38) rfl)) rfl (by decide) rfl (by first | decide | exact Nat.le_of_ble_eq_true rfl | (simp only [room_1]; omega)) (by first | decide | exact Nat.le_of_ble_eq_true rfl | (simp only [room_1]; omega)) (by first | decide | exact Nat.le_of_ble_eq_true rfl | (simp only [room_1]; omega)) rfl (by first | decide | exact Nat.le_of_ble_eq_true rfl | (simp only [room_1]; omega)) (by first | decide | exact Nat.le_of_ble_eq_true rfl | (simp only [room_1]; omega)) ?_
  refine go_checkcastArr i4_96 (hw _ (List.mem_of_getElem? (i := 39) rfl)) rfl (by decide) ?_
  refine go_putfield 1 i4_99 (hw _ (List.mem_of_getElem? (i := 43) rfl)) rfl rfl rfl (Or.inr ⟨(hw _ (List.mem_of_getElem? (i := 44) rfl)), rfl, rfl⟩) rfl rfl ?_
  refine go_lconst (v := (1 : Int64)) i4_102 (by decide) ?_
  refine go_lstore3 i4_103 (by first | exact Or.inl ⟨One.u, One.u⟩ | exact Or.inr ⟨_, rfl, rfl⟩ | exact Or.inl ⟨One.val rfl, One.u⟩ | exact Or.inl ⟨One.u, One.val rfl⟩ | exact Or.inl ⟨One.val rfl, One.val rfl⟩) ?_
  refine go_aloadN i4_104 rfl ?_
  refine go_astore5 i4_105 (by first | exact One.u | exact One.val rfl) ?_
  refine go_aload i4_107 rfl ?_
  refine go_arraylength i4_109 rfl (n := 2) rfl ?_
  refine go_istore6 i4_110 (by first | exact One.u | exact One.val rfl) ?_
  refine go_iconst (v := (0 : Int32)) i4_112 (by decide) ?_
  refine go_istore7 i4_113 (by first | exact One.u | exact One.val rfl) ?_
  refine go_iload i4_115 rfl ?_
  refine go_iload i4_117 rfl ?_
  refine go_icmpF i4_119 (by decide) ?_
  refine go_aload i4_122 rfl ?_
  refine go_iload i4_124 rfl ?_
  refine go_iaload i4_126 rfl (i := 0) (by decide) rfl ?_
  refine go_istore8 i4_127 (by first | exact One.u | exact One.val rfl) ?_
  refine go_lloadN i4_129 rfl ?_
  refine go_iload i4_130 rfl ?_
  refine go_i2l i4_132 ?_
  refine go_lmul i4_133 ?_
  refine go_lstore3 i4_134 (by first | exact Or.inl ⟨One.u, One.u⟩ | exact Or.inr ⟨_, rfl, rfl⟩ | exact Or.inl ⟨One.val rfl, One.u⟩ | exact Or.inl ⟨One.u, One.val rfl⟩ | exact Or.inl ⟨One.val rfl, One.val rfl⟩) ?_
  refine go_iinc7 (v := 1) i4_135  (by decide) ?_
  refine go_goto 115 i4_138 (by decide) ?_
  refine go_iload i4_115 rfl ?_
  refine go_iload i4_117 rfl ?_
  refine go_icmpF i4_119 (by decide) ?_
  refine go_aload i4_122 rfl ?_
  refine go_iload i4_124 rfl ?_
  refine go_iaload i4_126 rfl (i := 1) (by decide) rfl ?_
  refine go_istore8 i4_127 (by first | exact One.u | exact One.val rfl) ?_
  refine go_lloadN i4_129 rfl ?_
  refine go_iload i4_130 rfl ?_
  refine go_i2l i4_132 ?_
  refine go_lmul i4_133 ?_
  refine go_lstore3 i4_134 (by first | exact Or.inl ⟨One.u, One.u⟩ | exact Or.inr ⟨_, rfl, rfl⟩ | exact Or.inl ⟨One.val rfl, One.u⟩ | exact Or.inl ⟨One.u, One.val rfl⟩ | exact Or.inl ⟨One.val rfl, One.val rfl⟩) ?_
  refine go_iinc7 (v := 2) i4_135  (by decide) ?_
  refine go_goto 115 i4_138 (by decide) ?_
  refine go_iload i4_115 rfl ?_
  refine go_iload i4_117 rfl ?_
  refine go_icmpT 141 i4_119 (by decide) (by decide) ?_
  refine go_aloadN i4_141 rfl ?_
  refine go_lloadN i4_142 rfl ?_
  refine go_putfield 2 i4_143 (hw _ (List.mem_of_getElem? (i := 45) rfl)) rfl rfl rfl (Or.inr ⟨(hw _ (List.mem_of_getElem? (i := 46) rfl)), rfl, rfl⟩) rfl rfl ?_
  refine go_aloadN i4_146 rfl ?_
  refine go_bipush (v := (31 : Int32)) i4_147 (by decide) ?_
  refine go_aloadN i4_149 rfl ?_
  refine go_static i4_150 (met5 hw 4 a b _ rfl) (hw _ (List.mem_of_getElem? (i := 47) rfl)) (hw _ (List.mem_of_getElem? (i := 48) rfl)) (hw _ (List.mem_of_getElem? (i := 49) rfl)) (hw _ (List.mem_of_getElem? (i := 50) rfl)) rfl pd5 rfl rfl rfl (by first | decide | exact Nat.le_of_ble_eq_true rfl | (simp only [room_1]; omega)) (by first | decide | exact Nat.le_of_ble_eq_true rfl | (simp only [room_1]; omega)) (by first | decide | exact Nat.le_of_ble_eq_true rfl | (simp only [room_1]; omega)) (by first | decide | exact Nat.le_of_ble_eq_true rfl | (simp only [room_1]; omega)) ?_
  rintro _ _ ⟨⟨x1, rfl⟩, rfl⟩
  refine ⟨rfl, ?_⟩
  refine go_imul i4_153 ?_
  refine go_aloadN i4_154 rfl ?_
  refine go_static i4_155 (met5 hw 5 c d _ rfl) (hw _ (List.mem_of_getElem? (i := 47) rfl)) (hw _ (List.mem_of_getElem? (i := 48) rfl)) (hw _ (List.mem_of_getElem? (i := 49) rfl)) (hw _ (List.mem_of_getElem? (i := 50) rfl)) rfl pd5 rfl rfl rfl (by first | decide | exact Nat.le_of_ble_eq_true rfl | (simp only [room_1]; omega)) (by first | decide | exact Nat.le_of_ble_eq_true rfl | (simp only [room_1]; omega)) (by first | decide | exact Nat.le_of_ble_eq_true rfl | (simp only [room_1]; omega)) (by first | decide | exact Nat.le_of_ble_eq_true rfl | (simp only [room_1]; omega)) ?_
  rintro _ _ ⟨⟨x2, rfl⟩, rfl⟩
  refine ⟨rfl, ?_⟩
  refine go_iadd i4_158 ?_
  refine go_putfield 3 i4_159 (hw _ (List.mem_of_getElem? (i := 59) rfl)) rfl rfl rfl (Or.inr ⟨(hw _ (List.mem_of_getElem? (i := 60) rfl)), rfl, rfl⟩) rfl rfl ?_
  refine go_return i4_162 rfl (by first | decide | exact Nat.le_of_ble_eq_true rfl | (simp only [room_1]; omega)) (by first | decide | exact Nat.le_of_ble_eq_true rfl | (simp only [room_1]; omega)) ?_
  exact ⟨rfl, _, _, rfl⟩
abbrev own_4 (vs : List Value) (A : Nat) (x y z w : Int32) : List Value := (((vs.set A (.int x)).set (A + 1) (.int y)).set (A + 2) (.int z)).set (A + 3) (.int w)
theorem met8_0 (hw : ∀ d ∈ tables_1, d.before a0 Z = true) (K a b c d : Int32) (u v : Value) (us vs : List Value) (hu : us.length = 64) (hv : vs.length = 256) (o0 o1 o2 o3 o4 o5 o6 o7 o8 o15 o16 o17 o18 o19 o20 : GObj) : Met Z a0 n0 M8 1 60 0 0 [.ref (n0 + 9), .int 0, .ref (n0 + 12)] [o0, o1, o2, o3, o4, o5, o6, o7, o8, .inl (KL, [.ref (n0 + 10), .int K, .int 2, .ref (n0 + 11), .int 0]), .inr (.object "com/example/meshwright/meshwright/grid/Subcube", us), .inr (.int, vs), .inl (KS, [.ref (n0 + 13), .ref (n0 + 14), u, v]), .inr (.int, [.int a, .int b]), .inr (.int, [.int c, .int d]), o15, o16, o17, o18, o19, o20] (Eq0 [o0, o1, o2, o3, o4, o5, o6, o7, o8, .inl (KL, [.ref (n0 + 10), .int K, .int 2, .ref (n0 + 11), .int 1]), .inr (.object "com/example/meshwright/meshwright/grid/Subcube", us.set 0 (.ref (n0 + 12))), .inr (.int, own_4 vs 0 a c b d), .inl (KS, [.ref (n0 + 13), .ref (n0 + 14), u, v]), .inr (.int, [.int a, .int b]), .inr (.int, [.int c, .int d]), o15, o16, o17, o18, o19, o20]) := by
  refine MetW.intro [.val (.ref (n0 + 9)), .val (.int 0), .val (.ref (n0 + 12)), .unset, .unset] pn8 rfl ?_
  refine go_aloadN i8_0 rfl ?_
  refine go_getfield 4 i8_1 (hw _ (List.mem_of_getElem? (i := 66) rfl)) rfl rfl rfl ?_
  refine go_aloadN i8_4 rfl ?_
  refine go_getfield 0 i8_5 (hw _ (List.mem_of_getElem? (i := 17) rfl)) rfl rfl rfl ?_
  refine go_arraylength i8_8 rfl (n := 64) (by rw [hu]; rfl) ?_
  refine go_icmpT 50 i8_9 (by decide) (by decide) ?_
  refine go_iconst (v := (2 : Int32)) i8_50 (by decide) ?_
  refine go_aloadN i8_51 rfl ?_
  refine go_getfield 2 i8_52 (hw _ (List.mem_of_getElem? (i := 21) rfl)) rfl rfl rfl ?_
  refine go_imul i8_55 ?_
  refine go_istore3 i8_56 (by first | exact One.u | exact One.val rfl) ?_
  refine go_aloadN i8_57 rfl ?_
  refine go_getfield 0 i8_58 (hw _ (List.mem_of_getElem? (i := 17) rfl)) rfl rfl rfl ?_
  refine go_iloadN i8_61 rfl ?_
  refine go_aloadN i8_62 rfl ?_
  refine go_getfield 0 i8_63 (hw _ (List.mem_of_getElem? (i := 17) rfl)) rfl rfl rfl ?_
  refine go_iloadN i8_66 rfl ?_
  refine go_iconst (v := (1 : Int32)) i8_67 (by decide) ?_
  refine go_iadd i8_68 ?_
  refine go_aloadN i8_69 rfl ?_
  refine go_getfield 4 i8_70 (hw _ (List.mem_of_getElem? (i := 66) rfl)) rfl rfl rfl ?_
  refine go_iloadN i8_73 rfl ?_
  refine go_isub i8_74 ?_
  refine go_copy0 (S := 0) (D := 1) i8_75 (hw _ (List.mem_of_getElem? (i := 68) rfl)) (hw _ (List.mem_of_getElem? (i := 71) rfl)) (hw _ (List.mem_of_getElem? (i := 69) rfl)) (hw _ (List.mem_of_getElem? (i := 70) rfl)) rfl (by decide) (by decide) (by decide) (by omega) (by omega) (by omega) rfl (by first | decide | exact Nat.le_of_ble_eq_true rfl | (simp only [room_1]; omega)) (by first | decide | exact Nat.le_of_ble_eq_true rfl | (simp only [room_1]; omega)) ?_
  refine go_aloadN i8_78 rfl ?_
  refine go_getfield 3 i8_79 (hw _ (List.mem_of_getElem? (i := 23) rfl)) rfl rfl rfl ?_
  refine go_iloadN i8_82 rfl ?_
  refine go_iloadN i8_83 rfl ?_
  refine go_imul i8_84 ?_
  refine go_aloadN i8_85 rfl ?_
  refine go_getfield 3 i8_86 (hw _ (List.mem_of_getElem? (i := 23) rfl)) rfl rfl rfl ?_
  refine go_iloadN i8_89 rfl ?_
  refine go_iconst (v := (1 : Int32)) i8_90 (by decide) ?_
  refine go_iadd i8_91 ?_
  refine go_iloadN i8_92 rfl ?_
  refine go_imul i8_93 ?_
  refine go_aloadN i8_94 rfl ?_
  refine go_getfield 4 i8_95 (hw _ (List.mem_of_getElem? (i := 66) rfl)) rfl rfl rfl ?_
  refine go_iloadN i8_98 rfl ?_
  refine go_isub i8_99 ?_
  refine go_iloadN i8_100 rfl ?_
  refine go_imul i8_101 ?_
  refine go_copy0 (S := 0) (D := 4) i8_102 (hw _ (List.mem_of_getElem? (i := 68) rfl)) (hw _ (List.mem_of_getElem? (i := 71) rfl)) (hw _ (List.mem_of_getElem? (i := 69) rfl)) (hw _ (List.mem_of_getElem? (i := 70) rfl)) rfl (by decide) (by decide) (by decide) (by omega) (by omega) (by omega) rfl (by first | decide | exact Nat.le_of_ble_eq_true rfl | (simp only [room_1]; omega)) (by first | decide | exact Nat.le_of_ble_eq_true rfl | (simp only [room_1]; omega)) ?_
  refine go_aloadN i8_105 rfl ?_
  refine go_getfield 0 i8_106 (hw _ (List.mem_of_getElem? (i := 17) rfl)) rfl rfl rfl ?_
  refine go_iloadN i8_109 rfl ?_
  refine go_aloadN i8_110 rfl ?_
  refine go_aastore i8_111 rfl rfl rfl (i := 0) (by decide) (own_is _ _ (by omega)) ?_
  refine go_iconst (v := (0 : Int32)) i8_112 (by decide) ?_
  refine go_istore4 i8_113 (by first | exact One.u | exact One.val rfl) ?_
  refine go_iload i8_115 rfl ?_
  refine go_aloadN i8_117 rfl ?_
  refine go_getfield 2 i8_118 (hw _ (List.mem_of_getElem? (i := 21) rfl)) rfl rfl rfl ?_
  refine go_icmpF i8_121 (by decide) ?_
  refine go_aloadN i8_124 rfl ?_
  refine go_getfield 3 i8_125 (hw _ (List.mem_of_getElem? (i := 23) rfl)) rfl rfl rfl ?_
  refine go_iloadN i8_128 rfl ?_
  refine go_iloadN i8_129 rfl ?_
  refine go_imul i8_130 ?_
  refine go_iconst (v := (2 : Int32)) i8_131 (by decide) ?_
  refine go_iload i8_132 rfl ?_
  refine go_imul i8_134 ?_
  refine go_iadd i8_135 ?_
  refine go_aloadN i8_136 rfl ?_
  refine go_iload i8_137 rfl ?_
  refine go_virtual i8_139 (met9 hw _ 12 13 14 a b a u v 0 0 (by decide) rfl rfl rfl) rfl (hw _ (List.mem_of_getElem? (i := 73) rfl)) (hw _ (List.mem_of_getElem? (i := 74) rfl)) (hw _ (List.mem_of_getElem? (i := 76) rfl)) (hw _ (List.mem_of_getElem? (i := 75) rfl)) (hw _ (List.mem_of_getElem? (i := 27) rfl)) (hw _ (List.mem_of_getElem? (i := 77) rfl)) rfl pd9 rfl rfl rfl (by first | decide | exact Nat.le_of_ble_eq_true rfl | (simp only [room_1]; omega)) (by first | decide | exact Nat.le_of_ble_eq_true rfl | (simp only [room_1]; omega)) (by first | decide | exact Nat.le_of_ble_eq_true rfl | (simp only [room_1]; omega)) (by first | decide | exact Nat.le_of_ble_eq_true rfl | (simp only [room_1]; omega)) (retE rfl ?_)
  refine go_iastore i8_142 rfl (i := 0) (by decide) (own_is _ _ (by omega)) ?_
  refine go_aloadN i8_143 rfl ?_
  refine go_getfield 3 i8_144 (hw _ (List.mem_of_getElem? (i := 23) rfl)) rfl rfl rfl ?_
  refine go_iloadN i8_147 rfl ?_
  refine go_iloadN i8_148 rfl ?_
  refine go_imul i8_149 ?_
  refine go_iconst (v := (2 : Int32)) i8_150 (by decide) ?_
  refine go_iload i8_151 rfl ?_
  refine go_imul i8_153 ?_
  refine go_iadd i8_154 ?_
  refine go_iconst (v := (1 : Int32)) i8_155 (by decide) ?_
  refine go_iadd i8_156 ?_
  refine go_aloadN i8_157 rfl ?_
  refine go_iload i8_158 rfl ?_
  refine go_virtual i8_160 (met10 hw _ 12 13 14 c d c u v 0 0 (by decide) rfl rfl rfl) rfl (hw _ (List.mem_of_getElem? (i := 78) rfl)) (hw _ (List.mem_of_getElem? (i := 79) rfl)) (hw _ (List.mem_of_getElem? (i := 81) rfl)) (hw _ (List.mem_of_getElem? (i := 80) rfl)) (hw _ (List.mem_of_getElem? (i := 27) rfl)) (hw _ (List.mem_of_getElem? (i := 82) rfl)) rfl pd10 rfl rfl rfl (by first | decide | exact Nat.le_of_ble_eq_true rfl | (simp only [room_1]; omega)) (by first | decide | exact Nat.le_of_ble_eq_true rfl | (simp only [room_1]; omega)) (by first | decide | exact Nat.le_of_ble_eq_true rfl | (simp only [room_1]; omega)) (by first | decide | exact Nat.le_of_ble_eq_true rfl | (simp only [room_1]; omega)) (retE rfl ?_)
  refine go_iastore i8_163 rfl (i := 1) (by decide) (own_is _ _ (by simp; omega)) ?_
  refine go_iinc4 (v := 1) i8_164  (by decide) ?_
  refine go_goto 115 i8_167 (by decide) ?_
  refine go_iload i8_115 rfl ?_
  refine go_aloadN i8_117 rfl ?_
  refine go_getfield 2 i8_118 (hw _ (List.mem_of_getElem? (i := 21) rfl)) rfl rfl rfl ?_
  refine go_icmpF i8_121 (by decide) ?_
  refine go_aloadN i8_124 rfl ?_
  refine go_getfield 3 i8_125 (hw _ (List.mem_of_getElem? (i := 23) rfl)) rfl rfl rfl ?_
  refine go_iloadN i8_128 rfl ?_
  refine go_iloadN i8_129 rfl ?_
  refine go_imul i8_130 ?_
  refine go_iconst (v := (2 : Int32)) i8_131 (by decide) ?_
  refine go_iload i8_132 rfl ?_
  refine go_imul i8_134 ?_
  refine go_iadd i8_135 ?_
  refine go_aloadN i8_136 rfl ?_
  refine go_iload i8_137 rfl ?_
  refine go_virtual i8_139 (met9 hw _ 12 13 14 a b b u v 1 1 (by decide) rfl rfl rfl) rfl (hw _ (List.mem_of_getElem? (i := 73) rfl)) (hw _ (List.mem_of_getElem? (i := 74) rfl)) (hw _ (List.mem_of_getElem? (i := 76) rfl)) (hw _ (List.mem_of_getElem? (i := 75) rfl)) (hw _ (List.mem_of_getElem? (i := 27) rfl)) (hw _ (List.mem_of_getElem? (i := 77) rfl)) rfl pd9 rfl rfl rfl (by first | decide | exact Nat.le_of_ble_eq_true rfl | (simp only [room_1]; omega)) (by first | decide | exact Nat.le_of_ble_eq_true rfl | (simp only [room_1]; omega)) (by first | decide | exact Nat.le_of_ble_eq_true rfl | (simp only [room_1]; omega)) (by first | decide | exact Nat.le_of_ble_eq_true rfl | (simp only [room_1]; omega)) (retE rfl ?_)
  refine go_iastore i8_142 rfl (i := 2) (by decide) (own_is _ _ (by simp; omega)) ?_
  refine go_aloadN i8_143 rfl ?_
  refine go_getfield 3 i8_144 (hw _ (List.mem_of_getElem? (i := 23) rfl)) rfl rfl rfl ?_
  refine go_iloadN i8_147 rfl ?_
  refine go_iloadN i8_148 rfl ?_
  refine go_imul i8_149 ?_
  refine go_iconst (v := (2 : Int32)) i8_150 (by decide) ?_
  refine go_iload i8_151 rfl ?_
  refine go_imul i8_153 ?_
  refine go_iadd i8_154 ?_
  refine go_iconst (v := (1 : Int32)) i8_155 (by decide) ?_
  refine go_iadd i8_156 ?_
  refine go_aloadN i8_157 rfl ?_
  refine go_iload i8_158 rfl ?_
  refine go_virtual i8_160 (met10 hw _ 12 13 14 c d d u v 1 1 (by decide) rfl rfl rfl) rfl (hw _ (List.mem_of_getElem? (i := 78) rfl)) (hw _ (List.mem_of_getElem? (i := 79) rfl)) (hw _ (List.mem_of_getElem? (i := 81) rfl)) (hw _ (List.mem_of_getElem? (i := 80) rfl)) (hw _ (List.mem_of_getElem? (i := 27) rfl)) (hw _ (List.mem_of_getElem? (i := 82) rfl)) rfl pd10 rfl rfl rfl (by first | decide | exact Nat.le_of_ble_eq_true rfl | (simp only [room_1]; omega)) (by first | decide | exact Nat.le_of_ble_eq_true rfl | (simp only [room_1]; omega)) (by first | decide | exact Nat.le_of_ble_eq_true rfl | (simp only [room_1]; omega)) (by first | decide | exact Nat.le_of_ble_eq_true rfl | (simp only [room_1]; omega)) (retE rfl ?_)
  refine go_iastore i8_163 rfl (i := 3) (by decide) (own_is _ _ (by simp; omega)) ?_
  refine go_iinc4 (v := 2) i8_164  (by decide) ?_
  refine go_goto 115 i8_167 (by decide) ?_
  refine go_iload i8_115 rfl ?_
  refine go_aloadN i8_117 rfl ?_
  refine go_getfield 2 i8_118 (hw _ (List.mem_of_getElem? (i := 21) rfl)) rfl rfl rfl ?_
  refine go_icmpT 170 i8_121 (by decide) (by decide) ?_
  refine go_aloadN i8_170 rfl ?_
  refine go_dup i8_171 rfl ?_
  refine go_getfield 4 i8_172 (hw _ (List.mem_of_getElem? (i := 66) rfl)) rfl rfl rfl ?_
  refine go_iconst (v := (1 : Int32)) i8_175 (by decide) ?_
  refine go_iadd i8_176 ?_
  refine go_putfield 4 i8_177 (hw _ (List.mem_of_getElem? (i := 66) rfl)) rfl rfl rfl (Or.inl (hw _ (List.mem_of_getElem? (i := 67) rfl))) rfl rfl ?_
  refine go_return i8_180 rfl (by first | decide | exact Nat.le_of_ble_eq_true rfl | (simp only [room_1]; omega)) (by first | decide | exact Nat.le_of_ble_eq_true rfl | (simp only [room_1]; omega)) ?_
  exact ⟨rfl, rfl⟩
theorem met8_1 (hw : ∀ d ∈ tables_1, d.before a0 Z = true) (K a b c d : Int32) (u v : Value) (us vs : List Value) (hu : us.length = 64) (hv : vs.length = 256) (o0 o1 o2 o3 o4 o5 o6 o7 o8 o12 o13 o14 o18 o19 o20 : GObj) : Met Z a0 n0 M8 1 60 0 0 [.ref (n0 + 9), .int 1, .ref (n0 + 15)] [o0, o1, o2, o3, o4, o5, o6, o7, o8, .inl (KL, [.ref (n0 + 10), .int K, .int 2, .ref (n0 + 11), .int 1]), .inr (.object "com/example/meshwright/meshwright/grid/Subcube", us), .inr (.int, vs), o12, o13, o14, .inl (KS, [.ref (n0 + 16), .ref (n0 + 17), u, v]), .inr (.int, [.int a, .int b]), .inr (.int, [.int c, .int d]), o18, o19, o20] (Eq0 [o0, o1, o2, o3, o4, o5, o6, o7, o8, .inl (KL, [.ref (n0 + 10), .int K, .int 2, .ref (n0 + 11), .int 2]), .inr (.object "com/example/meshwright/meshwright/grid/Subcube", us.set 1 (.ref (n0 + 15))), .inr (.int, own_4 vs 4 a c b d), o12, o13, o14, .inl (KS, [.ref (n0 + 16), .ref (n0 + 17), u, v]), .inr (.int, [.int a, .int b]), .inr (.int, [.int c, .int d]), o18, o19, o20]) := by
  refine MetW.intro [.val (.ref (n0 + 9)), .val (.int 1), .val (.ref (n0 + 15)), .unset, .unset] pn8 rfl ?_
  refine go_aloadN i8_0 rfl ?_
  refine go_getfield 4 i8_1 (hw _ (List.mem_of_getElem? (i := 66) rfl)) rfl rfl rfl ?_
  refine go_aloadN i8_4 rfl ?_
  refine go_getfield 0 i8_5 (hw _ (List.mem_of_getElem? (i := 17) rfl)) rfl rfl rfl ?_
  refine go_arraylength i8_8 rfl (n := 64) (by rw [hu]; rfl) ?_
  refine go_icmpT 50 i8_9 (by decide) (by decide) ?_
  refine go_iconst (v := (2 : Int32)) i8_50 (by decide) ?_
  refine go_aloadN i8_51 rfl ?_
  refine go_getfield 2 i8_52 (hw _ (List.mem_of_getElem? (i := 21) rfl)) rfl rfl rfl ?_
  refine go_imul i8_55 ?_
  refine go_istore3 i8_56 (by first | exact One.u | exact One.val rfl) ?_
  refine go_aloadN i8_57 rfl ?_
  refine go_getfield 0 i8_58 (hw _ (List.mem_of_getElem? (i := 17) rfl)) rfl rfl rfl ?_
  refine go_iloadN i8_61 rfl ?_
  refine go_aloadN i8_62 rfl ?_
  refine go_getfield 0 i8_63 (hw _ (List.mem_of_getElem? (i := 17) rfl)) rfl rfl rfl ?_
  refine go_iloadN i8_66 rfl ?_
  refine go_iconst (v := (1 : Int32)) i8_67 (by decide) ?_
  refine go_iadd i8_68 ?_
  refine go_aloadN i8_69 rfl ?_
  refine go_getfield 4 i8_70 (hw _ (List.mem_of_getElem? (i := 66) rfl)) rfl rfl rfl ?_
  refine go_iloadN i8_73 rfl ?_
  refine go_isub i8_74 ?_
  refine go_copy0 (S := 1) (D := 2) i8_75 (hw _ (List.mem_of_getElem? (i := 68) rfl)) (hw _ (List.mem_of_getElem? (i := 71) rfl)) (hw _ (List.mem_of_getElem? (i := 69) rfl)) (hw _ (List.mem_of_getElem? (i := 70) rfl)) rfl (by decide) (by decide) (by decide) (by omega) (by omega) (by omega) rfl (by first | decide | exact Nat.le_of_ble_eq_true rfl | (simp only [room_1]; omega)) (by first | decide | exact Nat.le_of_ble_eq_true rfl | (simp only [room_1]; omega)) ?_
  refine go_aloadN i8_78 rfl ?_
  refine go_getfield 3 i8_79 (hw _ (List.mem_of_getElem? (i := 23) rfl)) rfl rfl rfl ?_
  refine go_iloadN i8_82 rfl ?_
  refine go_iloadN i8_83 rfl ?_
  refine go_imul i8_84 ?_
  refine go_aloadN i8_85 rfl ?_
  refine go_getfield 3 i8_86 (hw _ (List.mem_of_getElem? (i := 23) rfl)) rfl rfl rfl ?_
  refine go_iloadN i8_89 rfl ?_
  refine go_iconst (v := (1 : Int32)) i8_90 (by decide) ?_
  refine go_iadd i8_91 ?_
  refine go_iloadN i8_92 rfl ?_
  refine go_imul i8_93 ?_
  refine go_aloadN i8_94 rfl ?_
  refine go_getfield 4 i8_95 (hw _ (List.mem_of_getElem? (i := 66) rfl)) rfl rfl rfl ?_
  refine go_iloadN i8_98 rfl ?_
  refine go_isub i8_99 ?_
  refine go_iloadN i8_100 rfl ?_
  refine go_imul i8_101 ?_
  refine go_copy0 (S := 4) (D := 8) i8_102 (hw _ (List.mem_of_getElem? (i := 68) rfl)) (hw _ (List.mem_of_getElem? (i := 71) rfl)) (hw _ (List.mem_of_getElem? (i := 69) rfl)) (hw _ (List.mem_of_getElem? (i := 70) rfl)) rfl (by decide) (by decide) (by decide) (by omega) (by omega) (by omega) rfl (by first | decide | exact Nat.le_of_ble_eq_true rfl | (simp only [room_1]; omega)) (by first | decide | exact Nat.le_of_ble_eq_true rfl | (simp only [room_1]; omega)) ?_
  refine go_aloadN i8_105 rfl ?_
  refine go_getfield 0 i8_106 (hw _ (List.mem_of_getElem? (i := 17) rfl)) rfl rfl rfl ?_
  refine go_iloadN i8_109 rfl ?_
  refine go_aloadN i8_110 rfl ?_
  refine go_aastore i8_111 rfl rfl rfl (i := 1) (by decide) (own_is _ _ (by omega)) ?_
  refine go_iconst (v := (0 : Int32)) i8_112 (by decide) ?_
  refine go_istore4 i8_113 (by first | exact One.u | exact One.val rfl) ?_
  refine go_iload i8_115 rfl ?_
  refine go_aloadN i8_117 rfl ?_
  refine go_getfield 2 i8_118 (hw _ (List.mem_of_getElem? (i := 21) rfl)) rfl rfl rfl ?_
  refine go_icmpF i8_121 (by decide) ?_
  refine go_aloadN i8_124 rfl ?_
  refine go_getfield 3 i8_125 (hw _ (List.mem_of_getElem? (i := 23) rfl)) rfl rfl rfl ?_
  refine go_iloadN i8_128 rfl ?_
  refine go_iloadN i8_129 rfl ?_
  refine go_imul i8_130 ?_
  refine go_iconst (v := (2 : Int32)) i8_131 (by decide) ?_
  refine go_iload i8_132 rfl ?_
  refine go_imul i8_134 ?_
  refine go_iadd i8_135 ?_
  refine go_aloadN i8_136 rfl ?_
  refine go_iload i8_137 rfl ?_
  refine go_virtual i8_139 (met9 hw _ 15 16 17 a b a u v 0 0 (by decide) rfl rfl rfl) rfl (hw _ (List.mem_of_getElem? (i := 73) rfl)) (hw _ (List.mem_of_getElem? (i := 74) rfl)) (hw _ (List.mem_of_getElem? (i := 76) rfl)) (hw _ (List.mem_of_getElem? (i := 75) rfl)) (hw _ (List.mem_of_getElem? (i := 27) rfl)) (hw _ (List.mem_of_getElem? (i := 77) rfl)) rfl pd9 rfl rfl rfl (by first | decide | exact Nat.le_of_ble_eq_true rfl | (simp only [room_1]; omega)) (by first | decide | exact Nat.le_of_ble_eq_true rfl | (simp only [room_1]; omega)) (by first | decide | exact Nat.le_of_ble_eq_true rfl | (simp only [room_1]; omega)) (by first | decide | exact Nat.le_of_ble_eq_true rfl | (simp only [room_1]; omega)) (retE rfl ?_)
  refine go_iastore i8_142 rfl (i := 4) (by decide) (own_is _ _ (by omega)) ?_
  refine go_aloadN i8_143 rfl ?_
  refine go_getfield 3 i8_144 (hw _ (List.mem_of_getElem? (i := 23) rfl)) rfl rfl rfl ?_
  refine go_iloadN i8_147 rfl ?_
  refine go_iloadN i8_148 rfl ?_
  refine go_imul i8_149 ?_
  refine go_iconst (v := (2 : Int32)) i8_150 (by decide) ?_
  refine go_iload i8_151 rfl ?_
  refine go_imul i8_153 ?_
  refine go_iadd i8_154 ?_
  refine go_iconst (v := (1 : Int32)) i8_155 (by decide) ?_
  refine go_iadd i8_156 ?_
  refine go_aloadN i8_157 rfl ?_
  refine go_iload i8_158 rfl ?_
  refine go_virtual i8_160 (met10 hw _ 15 16 17 c d c u v 0 0 (by decide) rfl rfl rfl) rfl (hw _ (List.mem_of_getElem? (i := 78) rfl)) (hw _ (List.mem_of_getElem? (i := 79) rfl)) (hw _ (List.mem_of_getElem? (i := 81) rfl)) (hw _ (List.mem_of_getElem? (i := 80) rfl)) (hw _ (List.mem_of_getElem? (i := 27) rfl)) (hw _ (List.mem_of_getElem? (i := 82) rfl)) rfl pd10 rfl rfl rfl (by first | decide | exact Nat.le_of_ble_eq_true rfl | (simp only [room_1]; omega)) (by first | decide | exact Nat.le_of_ble_eq_true rfl | (simp only [room_1]; omega)) (by first | decide | exact Nat.le_of_ble_eq_true rfl | (simp only [room_1]; omega)) (by first | decide | exact Nat.le_of_ble_eq_true rfl | (simp only [room_1]; omega)) (retE rfl ?_)
  refine go_iastore i8_163 rfl (i := 5) (by decide) (own_is _ _ (by simp; omega)) ?_
  refine go_iinc4 (v := 1) i8_164  (by decide) ?_
  refine go_goto 115 i8_167 (by decide) ?_
  refine go_iload i8_115 rfl ?_
  refine go_aloadN i8_117 rfl ?_
  refine go_getfield 2 i8_118 (hw _ (List.mem_of_getElem? (i := 21) rfl)) rfl rfl rfl ?_
  refine go_icmpF i8_121 (by decide) ?_
  refine go_aloadN i8_124 rfl ?_
  refine go_getfield 3 i8_125 (hw _ (List.mem_of_getElem? (i := 23) rfl)) rfl rfl rfl ?_
  refine go_iloadN i8_128 rfl ?_
  refine go_iloadN i8_129 rfl ?_
  refine go_imul i8_130 ?_
  refine go_iconst (v := (2 : Int32)) i8_131 (by decide) ?_
  refine go_iload i8_132 rfl ?_
  refine go_imul i8_134 ?_
  refine go_iadd i8_135 ?_
  refine go_aloadN i8_136 rfl ?_
  refine go_iload i8_137 rfl ?_
  refine go_virtual i8_139 (met9 hw _ 15 16 17 a b b u v 1 1 (by decide) rfl rfl rfl) rfl (hw _ (List.mem_of_getElem? (i := 73) rfl)) (hw _ (List.mem_of_getElem? (i := 74) rfl)) (hw _ (List.mem_of_getElem? (i := 76) rfl)) (hw _ (List.mem_of_getElem? (i := 75) rfl)) (hw _ (List.mem_of_getElem? (i := 27) rfl)) (hw _ (List.mem_of_getElem? (i := 77) rfl)) rfl pd9 rfl rfl rfl (by first | decide | exact Nat.le_of_ble_eq_true rfl | (simp only [room_1]; omega)) (by first | decide | exact Nat.le_of_ble_eq_true rfl | (simp only [room_1]; omega)) (by first | decide | exact Nat.le_of_ble_eq_true rfl | (simp only [room_1]; omega)) (by first | decide | exact Nat.le_of_ble_eq_true rfl | (simp only [room_1]; omega)) (retE rfl ?_)
  refine go_iastore i8_142 rfl (i := 6) (by decide) (own_is _ _ (by simp; omega)) ?_
  refine go_aloadN i8_143 rfl ?_
  refine go_getfield 3 i8_144 (hw _ (List.mem_of_getElem? (i := 23) rfl)) rfl rfl rfl ?_
  refine go_iloadN i8_147 rfl ?_
  refine go_iloadN i8_148 rfl ?_
  refine go_imul i8_149 ?_
  refine go_iconst (v := (2 : Int32)) i8_150 (by decide) ?_
  refine go_iload i8_151 rfl ?_
  refine go_imul i8_153 ?_
  refine go_iadd i8_154 ?_
  refine go_iconst (v := (1 : Int32)) i8_155 (by decide) ?_
  refine go_iadd i8_156 ?_
  refine go_aloadN i8_157 rfl ?_
  refine go_iload i8_158 rfl ?_
  refine go_virtual i8_160 (met10 hw _ 15 16 17 c d d u v 1 1 (by decide) rfl rfl rfl) rfl (hw _ (List.mem_of_getElem? (i := 78) rfl)) (hw _ (List.mem_of_getElem? (i := 79) rfl)) (hw _ (List.mem_of_getElem? (i := 81) rfl)) (hw _ (List.mem_of_getElem? (i := 80) rfl)) (hw _ (List.mem_of_getElem? (i := 27) rfl)) (hw _ (List.mem_of_getElem? (i := 82) rfl)) rfl pd10 rfl rfl rfl (by first | decide | exact Nat.le_of_ble_eq_true rfl | (simp only [room_1]; omega)) (by first | decide | exact Nat.le_of_ble_eq_true rfl | (simp only [room_1]; omega)) (by first | decide | exact Nat.le_of_ble_eq_true rfl | (simp only [room_1]; omega)) (by first | decide | exact Nat.le_of_ble_eq_true rfl | (simp only [room_1]; omega)) (retE rfl ?_)
  refine go_iastore i8_163 rfl (i := 7) (by decide) (own_is _ _ (by simp; omega)) ?_
  refine go_iinc4 (v := 2) i8_164  (by decide) ?_
  refine go_goto 115 i8_167 (by decide) ?_
  refine go_iload i8_115 rfl ?_
  refine go_aloadN i8_117 rfl ?_
  refine go_getfield 2 i8_118 (hw _ (List.mem_of_getElem? (i := 21) rfl)) rfl rfl rfl ?_
  refine go_icmpT 170 i8_121 (by decide) (by decide) ?_
  refine go_aloadN i8_170 rfl ?_
  refine go_dup i8_171 rfl ?_
  refine go_getfield 4 i8_172 (hw _ (List.mem_of_getElem? (i := 66) rfl)) rfl rfl rfl ?_
  refine go_iconst (v := (1 : Int32)) i8_175 (by decide) ?_
  refine go_iadd i8_176 ?_
  refine go_putfield 4 i8_177 (hw _ (List.mem_of_getElem? (i := 66) rfl)) rfl rfl rfl (Or.inl (hw _ (List.mem_of_getElem? (i := 67) rfl))) rfl rfl ?_
  refine go_return i8_180 rfl (by first | decide | exact Nat.le_of_ble_eq_true rfl | (simp only [room_1]; omega)) (by first | decide | exact Nat.le_of_ble_eq_true rfl | (simp only [room_1]; omega)) ?_
  exact ⟨rfl, rfl⟩
theorem met8_2 (hw : ∀ d ∈ tables_1, d.before a0 Z = true) (K a b c d : Int32) (u v : Value) (us vs : List Value) (hu : us.length = 64) (hv : vs.length = 256) (o0 o1 o2 o3 o4 o5 o6 o7 o8 o12 o13 o14 o15 o16 o17 : GObj) : Met Z a0 n0 M8 1 60 0 0 [.ref (n0 + 9), .int 2, .ref (n0 + 18)] [o0, o1, o2, o3, o4, o5, o6, o7, o8, .inl (KL, [.ref (n0 + 10), .int K, .int 2, .ref (n0 + 11), .int 2]), .inr (.object "com/example/meshwright/meshwright/grid/Subcube", us), .inr (.int, vs), o12, o13, o14, o15, o16, o17, .inl (KS, [.ref (n0 + 19), .ref (n0 + 20), u, v]), .inr (.int, [.int a, .int b]), .inr (.int, [.int c, .int d])] (Eq0 [o0, o1, o2, o3, o4, o5, o6, o7, o8, .inl (KL, [.ref (n0 + 10), .int K, .int 2, .ref (n0 + 11), .int 3]), .inr (.object "com/example/meshwright/meshwright/grid/Subcube", us.set 2 (.ref (n0 + 18))), .inr (.int, own_4 vs 8 a c b d), o12, o13, o14, o15, o16, o17, .inl (KS, [.ref (n0 + 19), .ref (n0 + 20), u, v]), .inr (.int, [.int a, .int b]), .inr (.int, [.int c, .int d])]) := by
  refine MetW.intro [.val (.ref (n0 + 9)), .val (.int 2), .val (.ref (n0 + 18)), .unset, .unset] pn8 rfl ?_
  refine go_aloadN i8_0 rfl ?_
  refine go_getfield 4 i8_1 (hw _ (List.mem_of_getElem? (i := 66) rfl)) rfl rfl rfl ?_
  refine go_aloadN i8_4 rfl ?_
  refine go_getfield 0 i8_5 (hw _ (List.mem_of_getElem? (i := 17) rfl)) rfl rfl rfl ?_
  refine go_arraylength i8_8 rfl (n := 64) (by rw [hu]; rfl) ?_
  refine go_icmpT 50 i8_9 (by decide) (by decide) ?_
  refine go_iconst (v := (2 : Int32)) i8_50 (by decide) ?_
  refine go_aloadN i8_51 rfl ?_
  refine go_getfield 2 i8_52 (hw _ (List.mem_of_getElem? (i := 21) rfl)) rfl rfl rfl ?_
  refine go_imul i8_55 ?_
  refine go_istore3 i8_56 (by first | exact One.u | exact One.val rfl) ?_
  refine go_aloadN i8_57 rfl ?_
  refine go_getfield 0 i8_58 (hw _ (List.mem_of_getElem? (i := 17) rfl)) rfl rfl rfl ?_
  refine go_iloadN i8_61 rfl ?_
  refine go_aloadN i8_62 rfl ?_
  refine go_getfield 0 i8_63 (hw _ (List.mem_of_getElem? (i := 17) rfl)) rfl rfl rfl ?_
  refine go_iloadN i8_66 rfl ?_
  refine go_iconst (v := (1 : Int32)) i8_67 (by decide) ?_
  refine go_iadd i8_68 ?_
  refine go_aloadN i8_69 rfl ?_
  refine go_getfield 4 i8_70 (hw _ (List.mem_of_getElem? (i := 66) rfl)) rfl rfl rfl ?_
  refine go_iloadN i8_73 rfl ?_
  refine go_isub i8_74 ?_
  refine go_copy0 (S := 2) (D := 3) i8_75 (hw _ (List.mem_of_getElem? (i := 68) rfl)) (hw _ (List.mem_of_getElem? (i := 71) rfl)) (hw _ (List.mem_of_getElem? (i := 69) rfl)) (hw _ (List.mem_of_getElem? (i := 70) rfl)) rfl (by decide) (by decide) (by decide) (by omega) (by omega) (by omega) rfl (by first | decide | exact Nat.le_of_ble_eq_true rfl | (simp only [room_1]; omega)) (by first | decide | exact Nat.le_of_ble_eq_true rfl | (simp only [room_1]; omega)) ?_
  refine go_aloadN i8_78 rfl ?_
  refine go_getfield 3 i8_79 (hw _ (List.mem_of_getElem? (i := 23) rfl)) rfl rfl rfl ?_
  refine go_iloadN i8_82 rfl ?_
  refine go_iloadN i8_83 rfl ?_
  refine go_imul i8_84 ?_
  refine go_aloadN i8_85 rfl ?_
  refine go_getfield 3 i8_86 (hw _ (List.mem_of_getElem? (i := 23) rfl)) rfl rfl rfl ?_
  refine go_iloadN i8_89 rfl ?_
  refine go_iconst (v := (1 : Int32)) i8_90 (by decide) ?_
  refine go_iadd i8_91 ?_
  refine go_iloadN i8_92 rfl ?_
  refine go_imul i8_93 ?_
  refine go_aloadN i8_94 rfl ?_
  refine go_getfield 4 i8_95 (hw _ (List.mem_of_getElem? (i := 66) rfl)) rfl rfl rfl ?_
  refine go_iloadN i8_98 rfl ?_
  refine go_isub i8_99 ?_
  refine go_iloadN i8_100 rfl ?_
  refine go_imul i8_101 ?_
  refine go_copy0 (S := 8) (D := 12) i8_102 (hw _ (List.mem_of_getElem? (i := 68) rfl)) (hw _ (List.mem_of_getElem? (i := 71) rfl)) (hw _ (List.mem_of_getElem? (i := 69) rfl)) (hw _ (List.mem_of_getElem? (i := 70) rfl)) rfl (by decide) (by decide) (by decide) (by omega) (by omega) (by omega) rfl (by first | decide | exact Nat.le_of_ble_eq_true rfl | (simp only [room_1]; omega)) (by first | decide | exact Nat.le_of_ble_eq_true rfl | (simp only [room_1]; omega)) ?_
  refine go_aloadN i8_105 rfl ?_
  refine go_getfield 0 i8_106 (hw _ (List.mem_of_getElem? (i := 17) rfl)) rfl rfl rfl ?_
  refine go_iloadN i8_109 rfl ?_
  refine go_aloadN i8_110 rfl ?_
  refine go_aastore i8_111 rfl rfl rfl (i := 2) (by decide) (own_is _ _ (by omega)) ?_
  refine go_iconst (v := (0 : Int32)) i8_112 (by decide) ?_
  refine go_istore4 i8_113 (by first | exact One.u | exact One.val rfl) ?_
  refine go_iload i8_115 rfl ?_
  refine go_aloadN i8_117 rfl ?_
  refine go_getfield 2 i8_118 (hw _ (List.mem_of_getElem? (i := 21) rfl)) rfl rfl rfl ?_
  refine go_icmpF i8_121 (by decide) ?_
  refine go_aloadN i8_124 rfl ?_
  refine go_getfield 3 i8_125 (hw _ (List.mem_of_getElem? (i := 23) rfl)) rfl rfl rfl ?_
  refine go_iloadN i8_128 rfl ?_
  refine go_iloadN i8_129 rfl ?_
  refine go_imul i8_130 ?_
  refine go_iconst (v := (2 : Int32)) i8_131 (by decide) ?_
  refine go_iload i8_132 rfl ?_
  refine go_imul i8_134 ?_
  refine go_iadd i8_135 ?_
  refine go_aloadN i8_136 rfl ?_
  refine go_iload i8_137 rfl ?_
  refine go_virtual i8_139 (met9 hw _ 18 19 20 a b a u v 0 0 (by decide) rfl rfl rfl) rfl (hw _ (List.mem_of_getElem? (i := 73) rfl)) (hw _ (List.mem_of_getElem? (i := 74) rfl)) (hw _ (List.mem_of_getElem? (i := 76) rfl)) (hw _ (List.mem_of_getElem? (i := 75) rfl)) (hw _ (List.mem_of_getElem? (i := 27) rfl)) (hw _ (List.mem_of_getElem? (i := 77) rfl)) rfl pd9 rfl rfl rfl (by first | decide | exact Nat.le_of_ble_eq_true rfl | (simp only [room_1]; omega)) (by first | decide | exact Nat.le_of_ble_eq_true rfl | (simp only [room_1]; omega)) (by first | decide | exact Nat.le_of_ble_eq_true rfl | (simp only [room_1]; omega)) (by first | decide | exact Nat.le_of_ble_eq_true rfl | (simp only [room_1]; omega)) (retE rfl ?_)
  refine go_iastore i8_142 rfl (i := 8) (by decide) (own_is _ _ (by omega)) ?_
  refine go_aloadN i8_143 rfl ?_
  refine go_getfield 3 i8_144 (hw _ (List.mem_of_getElem? (i := 23) rfl)) rfl rfl rfl ?_
  refine go_iloadN i8_147 rfl ?_
  refine go_iloadN i8_148 rfl ?_
  refine go_imul i8_149 ?_
  refine go_iconst (v := (2 : Int32)) i8_150 (by decide) ?_
  refine go_iload i8_151 rfl ?_
  refine go_imul i8_153 ?_
  refine go_iadd i8_154 ?_
  refine go_iconst (v := (1 : Int32)) i8_155 (by decide) ?_
  refine go_iadd i8_156 ?_
  refine go_aloadN i8_157 rfl ?_
  refine go_iload i8_158 rfl ?_
  refine go_virtual i8_160 (met10 hw _ 18 19 20 c d c u v 0 0 (by decide) rfl rfl rfl) rfl (hw _ (List.mem_of_getElem? (i := 78) rfl)) (hw _ (List.mem_of_getElem? (i := 79) rfl)) (hw _ (List.mem_of_getElem? (i := 81) rfl)) (hw _ (List.mem_of_getElem? (i := 80) rfl)) (hw _ (List.mem_of_getElem? (i := 27) rfl)) (hw _ (List.mem_of_getElem? (i := 82) rfl)) rfl pd10 rfl rfl rfl (by first | decide | exact Nat.le_of_ble_eq_true rfl | (simp only [room_1]; omega)) (by first | decide | exact Nat.le_of_ble_eq_true rfl | (simp only [room_1]; omega)) (by first | decide | exact Nat.le_of_ble_eq_true rfl | (simp only [room_1]; omega)) (by first | decide | exact Nat.le_of_ble_eq_true rfl | (simp only [room_1]; omega)) (retE rfl ?_)
  refine go_iastore i8_163 rfl (i := 9) (by decide) (own_is _ _ (by simp; omega)) ?_
  refine go_iinc4 (v := 1) i8_164  (by decide) ?_
  refine go_goto 115 i8_167 (by decide) ?_
  refine go_iload i8_115 rfl ?_
  refine go_aloadN i8_117 rfl ?_
  refine go_getfield 2 i8_118 (hw _ (List.mem_of_getElem? (i := 21) rfl)) rfl rfl rfl ?_
  refine go_icmpF i8_121 (by decide) ?_
  refine go_aloadN i8_124 rfl ?_
  refine go_getfield 3 i8_125 (hw _ (List.mem_of_getElem? (i := 23) rfl)) rfl rfl rfl ?_
  refine go_iloadN i8_128 rfl ?_
  refine go_iloadN i8_129 rfl ?_
  refine go_imul i8_130 ?_
  refine go_iconst (v := (2 : Int32)) i8_131 (by decide) ?_
  refine go_iload i8_132 rfl ?_
  refine go_imul i8_134 ?_
  refine go_iadd i8_135 ?_
  refine go_aloadN i8_136 rfl ?_
  refine go_iload i8_137 rfl ?_
  refine go_virtual i8_139 (met9 hw _ 18 19 20 a b b u v 1 1 (by decide) rfl rfl rfl) rfl (hw _ (List.mem_of_getElem? (i := 73) rfl)) (hw _ (List.mem_of_getElem? (i := 74) rfl)) (hw _ (List.mem_of_getElem? (i := 76) rfl)) (hw _ (List.mem_of_getElem? (i := 75) rfl)) (hw _ (List.mem_of_getElem? (i := 27) rfl)) (hw _ (List.mem_of_getElem? (i := 77) rfl)) rfl pd9 rfl rfl rfl (by first | decide | exact Nat.le_of_ble_eq_true rfl | (simp only [room_1]; omega)) (by first | decide | exact Nat.le_of_ble_eq_true rfl | (simp only [room_1]; omega)) (by first | decide | exact Nat.le_of_ble_eq_true rfl | (simp only [room_1]; omega)) (by first | decide | exact Nat.le_of_ble_eq_true rfl | (simp only [room_1]; omega)) (retE rfl ?_)
  refine go_iastore i8_142 rfl (i := 10) (by decide) (own_is _ _ (by simp; omega)) ?_
  refine go_aloadN i8_143 rfl ?_
  refine go_getfield 3 i8_144 (hw _ (List.mem_of_getElem? (i := 23) rfl)) rfl rfl rfl ?_
  refine go_iloadN i8_147 rfl ?_
  refine go_iloadN i8_148 rfl ?_
  refine go_imul i8_149 ?_
  refine go_iconst (v := (2 : Int32)) i8_150 (by decide) ?_
  refine go_iload i8_151 rfl ?_
  refine go_imul i8_153 ?_
  refine go_iadd i8_154 ?_
  refine go_iconst (v := (1 : Int32)) i8_155 (by decide) ?_
  refine go_iadd i8_156 ?_
  refine go_aloadN i8_157 rfl ?_
  refine go_iload i8_158 rfl ?_
  refine go_virtual i8_160 (met10 hw _ 18 19 20 c d d u v 1 1 (by decide) rfl rfl rfl) rfl (hw _ (List.mem_of_getElem? (i := 78) rfl)) (hw _ (List.mem_of_getElem? (i := 79) rfl)) (hw _ (List.mem_of_getElem? (i := 81) rfl)) (hw _ (List.mem_of_getElem? (i := 80) rfl)) (hw _ (List.mem_of_getElem? (i := 27) rfl)) (hw _ (List.mem_of_getElem? (i := 82) rfl)) rfl pd10 rfl rfl rfl (by first | decide | exact Nat.le_of_ble_eq_true rfl | (simp only [room_1]; omega)) (by first | decide | exact Nat.le_of_ble_eq_true rfl | (simp only [room_1]; omega)) (by first | decide | exact Nat.le_of_ble_eq_true rfl | (simp only [room_1]; omega)) (by first | decide | exact Nat.le_of_ble_eq_true rfl | (simp only [room_1]; omega)) (retE rfl ?_)
  refine go_iastore i8_163 rfl (i := 11) (by decide) (own_is _ _ (by simp; omega)) ?_
  refine go_iinc4 (v := 2) i8_164  (by decide) ?_
  refine go_goto 115 i8_167 (by decide) ?_
  refine go_iload i8_115 rfl ?_
  refine go_aloadN i8_117 rfl ?_
  refine go_getfield 2 i8_118 (hw _ (List.mem_of_getElem? (i := 21) rfl)) rfl rfl rfl ?_
  refine go_icmpT 170 i8_121 (by decide) (by decide) ?_
  refine go_aloadN i8_170 rfl ?_
  refine go_dup i8_171 rfl ?_
  refine go_getfield 4 i8_172 (hw _ (List.mem_of_getElem? (i := 66) rfl)) rfl rfl rfl ?_
  refine go_iconst (v := (1 : Int32)) i8_175 (by decide) ?_
  refine go_iadd i8_176 ?_
  refine go_putfield 4 i8_177 (hw _ (List.mem_of_getElem? (i := 66) rfl)) rfl rfl rfl (Or.inl (hw _ (List.mem_of_getElem? (i := 67) rfl))) rfl rfl ?_
  refine go_return i8_180 rfl (by first | decide | exact Nat.le_of_ble_eq_true rfl | (simp only [room_1]; omega)) (by first | decide | exact Nat.le_of_ble_eq_true rfl | (simp only [room_1]; omega)) ?_
  exact ⟨rfl, rfl⟩
abbrev own_R : Room := { frames := 0, cells := 0, slots := 0, locals := 0 }
abbrev own_L11 (n0 : Nat) (t g i : Int32) (s7 s8 s9 s10 s11 s12 s13 : Slot) : List Slot := [.val (.ref (n0 + 9)), .val (.ref (n0 + 6)), .val (.ref (n0 + 7)), .val (.ref (n0 + 8)), .val (.int t), .val (.int g), .val (.int i), s7, s8, s9, s10, s11, s12, s13]
theorem own_mul2 {r : Int32} {R : Nat} (hr : r.toInt = (R : Int)) (hR : R ≤ 1) : (2 * r).toInt = ((2 * R : Nat) : Int) := by
  have h1 := c_imul 2 r
  have h2 := rng32 (2 * r)
  have e : (2 : Int32).toInt = 2 := by decide
  rw [e] at h1
  omega
theorem own_mul4 {i t : Int32} {J : Nat} (hi : i.toInt = (J : Int)) (hJ : J ≤ 3) (ht : t.toInt = 4) : (i * t).toInt = ((4 * J : Nat) : Int) := by
  have h1 := c_imul i t
  have h2 := rng32 (i * t)
  rw [ht] at h1
  omega
theorem own_atv {p k : Int32} {P K : Nat} (hp : p.toInt = (P : Int)) (hP : P ≤ 100) (hk : k.toInt = (K : Int)) (hK : K ≤ 100) : (p + k).toInt = ((P + K : Nat) : Int) := own_at hp hP k K hk hK
section First
variable (Q : Option Value → List GObj → Prop) (H : List GObj) (K s : Int32) (q0 q1 w0 w1 r0 r1 : Int32) (vs : List Value)
theorem d11b (hw : ∀ d ∈ tables_1, d.before a0 Z = true) (h7 : H[7]? = some (.inr (.int, [.int w0, .int w1]))) (h9 : H[9]? = some (.inl (KL, [.ref (n0 + 10), .int K, .int 2, .ref (n0 + 11), .int s]))) (h11 : H[11]? = some (.inr (.int, vs)))
    (t g i b r p q m w d o : Int32) (J R : Nat) (hb : b.toInt = ((4 * J : Nat) : Int)) (hJ : J ≤ 3) (hr : r.toInt = (R : Int)) (hR : R ≤ 1) (em : vs[4 * J + 2 * R + 1]? = some (.int m)) (ew : ([.int w0, .int w1] : List Value)[R]? = some (.int w)) (b1 : own_bd K p m) (b2 : own_bd K q w)
    (ho : (q.toInt < p.toInt ∧ o.toInt = q.toInt - p.toInt + K.toInt) ∨ (p.toInt ≤ q.toInt ∧ o.toInt = q.toInt - p.toInt)) (s9 s11 s12 s13 : Slot) (e13 : One s13)
    (k1 : own_m1 K p m q w → Go Z a0 n0 M11 own_R Q 152 (own_L11 n0 t g i (.val (.int b)) (.val (.int 1)) s9 (.val (.int r)) s11 s12 (.val (.int o))) [] H 0 0)
    (k0 : ¬ own_m1 K p m q w → Go Z a0 n0 M11 own_R Q 152 (own_L11 n0 t g i (.val (.int b)) (.val (.int 0)) s9 (.val (.int r)) s11 s12 (.val (.int o))) [] H 0 0) :
    Go Z a0 n0 M11 own_R Q 101 (own_L11 n0 t g i (.val (.int b)) (.val (.int d)) s9 (.val (.int r)) s11 s12 s13) [.int o] H 0 0 := by
  obtain ⟨b11, b12, b13, b14, b15⟩ := b1
  obtain ⟨b21, b22, b23, b24, -⟩ := b2
  have hm := own_mul2 hr hR
  have hx := own_atv hb (by omega) hm (by omega)
  have hy := own_at hx (by omega) 1 1 (by decide) (by decide)
  have z0 : (0 : Int32).toInt = 0 := by decide
  have yes : own_m1 K p m q w → Go Z a0 n0 M11 own_R Q 145 (own_L11 n0 t g i (.val (.int b)) (.val (.int d)) s9 (.val (.int r)) s11 s12 (.val (.int o))) [] H 0 0 := by
    intro h
    refine go_iconst (v := (1 : Int32)) i11_145 (by decide) ?_
    refine go_goto 150 i11_146 (by decide) ?_
    refine go_istore8 i11_150 (by first | exact One.u | exact One.val rfl) ?_
    exact k1 h
  have no : ¬ own_m1 K p m q w → Go Z a0 n0 M11 own_R Q 149 (own_L11 n0 t g i (.val (.int b)) (.val (.int d)) s9 (.val (.int r)) s11 s12 (.val (.int o))) [] H 0 0 := by
    intro h
    refine go_iconst (v := (0 : Int32)) i11_149 (by decide) ?_
    refine go_istore8 i11_150 (by first | exact One.u | exact One.val rfl) ?_
    exact k0 h
  refine go_istore13 i11_101 e13 ?_
  refine go_iload i11_103 rfl ?_
  refine go_aloadN i11_105 rfl ?_
  refine go_getfield 3 i11_106 (hw _ (List.mem_of_getElem? (i := 23) rfl)) h9 rfl rfl ?_
  refine go_iload i11_109 rfl ?_
  refine go_iconst (v := (2 : Int32)) i11_111 (by decide) ?_
  refine go_iload i11_112 rfl ?_
  refine go_imul i11_114 ?_
  refine go_iadd i11_115 ?_
  refine go_iconst (v := (1 : Int32)) i11_116 (by decide) ?_
  refine go_iadd i11_117 ?_
  refine go_iaload i11_118 h11 hy em ?_
  refine go_icmp_lt 145 i11_119 (by decide) (fun g1 => ?_) (fun g1 => ?_)
  · rw [Int32.lt_iff_toInt_lt] at g1
    exact yes (by unfold own_m1 own_mt; omega)
  rw [Int32.lt_iff_toInt_lt] at g1
  refine go_iload i11_122 rfl ?_
  refine go_if_ne 131 i11_124 (by decide) (fun g2 => ?_) (fun g2 => ?_)
  · rw [← Int32.toInt_inj, z0] at g2
    have hs := own_sub K o (by omega) (by omega) (by omega) (by omega)
    refine go_aloadN i11_131 rfl ?_
    refine go_getfield 1 i11_132 (hw _ (List.mem_of_getElem? (i := 19) rfl)) h9 rfl rfl ?_
    refine go_iload i11_135 rfl ?_
    refine go_isub i11_137 ?_
    refine go_aloadN i11_138 rfl ?_
    refine go_iload i11_139 rfl ?_
    refine go_iaload i11_141 h7 hr ew ?_
    refine go_icmp_ge 149 i11_142 (by decide) (fun g3 => ?_) (fun g3 => ?_)
    · rw [Int32.lt_iff_toInt_lt, hs] at g3
      exact no (by unfold own_m1 own_mt; omega)
    · rw [Int32.lt_iff_toInt_lt, hs] at g3
      exact yes (by unfold own_m1 own_mt; omega)
  · have g2' : o.toInt = 0 := by rw [g2]; rfl
    exact absurd g1 (by omega)
theorem d11 (hw : ∀ d ∈ tables_1, d.before a0 Z = true) (h6 : H[6]? = some (.inr (.int, [.int q0, .int q1]))) (h7 : H[7]? = some (.inr (.int, [.int w0, .int w1]))) (h8 : H[8]? = some (.inr (.int, [.int r0, .int r1]))) (h9 : H[9]? = some (.inl (KL, [.ref (n0 + 10), .int K, .int 2, .ref (n0 + 11), .int s]))) (h11 : H[11]? = some (.inr (.int, vs)))
    (t g i b r p q m w d dd : Int32) (J R D : Nat) (hb : b.toInt = ((4 * J : Nat) : Int)) (hJ : J ≤ 3) (hd : dd.toInt = (D : Int)) (er : ([.int r0, .int r1] : List Value)[D]? = some (.int r)) (hr : r.toInt = (R : Int)) (hR : R ≤ 1) (ep : vs[4 * J + 2 * R]? = some (.int p)) (em : vs[4 * J + 2 * R + 1]? = some (.int m)) (eq : ([.int q0, .int q1] : List Value)[R]? = some (.int q)) (ew : ([.int w0, .int w1] : List Value)[R]? = some (.int w)) (b1 : own_bd K p m) (b2 : own_bd K q w)
    (s10 s11 s12 s13 : Slot) (e10 : One s10) (e11 : One s11) (e12 : One s12) (e13 : One s13)
    (k1 : own_m1 K p m q w → ∀ x y z : Int32, Go Z a0 n0 M11 own_R Q 152 (own_L11 n0 t g i (.val (.int b)) (.val (.int 1)) (.val (.int dd)) (.val (.int r)) (.val (.int x)) (.val (.int y)) (.val (.int z))) [] H 0 0)
    (k0 : ¬ own_m1 K p m q w → ∀ x y z : Int32, Go Z a0 n0 M11 own_R Q 152 (own_L11 n0 t g i (.val (.int b)) (.val (.int 0)) (.val (.int dd)) (.val (.int r)) (.val (.int x)) (.val (.int y)) (.val (.int z))) [] H 0 0) :
    Go Z a0 n0 M11 own_R Q 55 (own_L11 n0 t g i (.val (.int b)) (.val (.int d)) (.val (.int dd)) s10 s11 s12 s13) [] H 0 0 := by
  have hm := own_mul2 hr hR
  have hx := own_atv hb (by omega) hm (by omega)
  have z0 : (0 : Int32).toInt = 0 := by decide
  obtain ⟨b11, b12, b13, b14, b15⟩ := id b1
  obtain ⟨b21, b22, b23, b24, -⟩ := id b2
  have hs := own_sub q p (by omega) (by omega) (by omega) (by omega)
  have ha := own_add (q - p) K (by omega) (by omega) (by omega) (by omega)
  refine go_aloadN i11_55 rfl ?_
  refine go_iload i11_56 rfl ?_
  refine go_iaload i11_58 h8 hd er ?_
  refine go_istore10 i11_59 e10 ?_
  refine go_aloadN i11_61 rfl ?_
  refine go_getfield 3 i11_62 (hw _ (List.mem_of_getElem? (i := 23) rfl)) h9 rfl rfl ?_
  refine go_iload i11_65 rfl ?_
  refine go_iconst (v := (2 : Int32)) i11_67 (by decide) ?_
  refine go_iload i11_68 rfl ?_
  refine go_imul i11_70 ?_
  refine go_iadd i11_71 ?_
  refine go_iaload i11_72 h11 hx ep ?_
  refine go_istore11 i11_73 e11 ?_
  refine go_aloadN i11_75 rfl ?_
  refine go_iload i11_76 rfl ?_
  refine go_iaload i11_78 h6 hr eq ?_
  refine go_iload i11_79 rfl ?_
  refine go_isub i11_81 ?_
  refine go_istore12 i11_82 e12 ?_
  refine go_iload i11_84 rfl ?_
  refine go_if_ge 99 i11_86 (by decide) (fun g1 => ?_) (fun g1 => ?_)
  · rw [Int32.lt_iff_toInt_lt, hs, z0] at g1
    refine go_iload i11_99 rfl ?_
    exact d11b Q H K s w0 w1 vs hw h7 h9 h11 t g i b r p q m w d _ J R hb hJ hr hR em ew b1 b2 (Or.inr ⟨by omega, hs⟩) _ _ _ _ e13 (fun h => k1 h _ _ _) (fun h => k0 h _ _ _)
  · rw [Int32.lt_iff_toInt_lt, hs, z0] at g1
    refine go_iload i11_89 rfl ?_
    refine go_aloadN i11_91 rfl ?_
    refine go_getfield 1 i11_92 (hw _ (List.mem_of_getElem? (i := 19) rfl)) h9 rfl rfl ?_
    refine go_iadd i11_95 ?_
    refine go_goto 101 i11_96 (by decide) ?_
    exact d11b Q H K s w0 w1 vs hw h7 h9 h11 t g i b r p q m w d _ J R hb hJ hr hR em ew b1 b2 (Or.inl ⟨by omega, by rw [ha, hs]⟩) _ _ _ _ e13 (fun h => k1 h _ _ _) (fun h => k0 h _ _ _)
theorem it11 (hw : ∀ d ∈ tables_1, d.before a0 Z = true) (h6 : H[6]? = some (.inr (.int, [.int q0, .int q1]))) (h7 : H[7]? = some (.inr (.int, [.int w0, .int w1]))) (h8 : H[8]? = some (.inr (.int, [.int r0, .int r1]))) (h9 : H[9]? = some (.inl (KL, [.ref (n0 + 10), .int K, .int 2, .ref (n0 + 11), .int s]))) (h11 : H[11]? = some (.inr (.int, vs)))
    (hord : (r0 = 0 ∧ r1 = 1) ∨ (r0 = 1 ∧ r1 = 0)) (b3 : own_bd K q0 w0) (b4 : own_bd K q1 w1) (t i p0 m0 p1 m1 : Int32) (J N : Nat) (ht : t.toInt = 4) (hi : i.toInt = (J : Int)) (hJ : J ≤ 3) (hs : s.toInt = (N : Int)) (hN : N ≤ 3) (b1 : own_bd K p0 m0) (b2 : own_bd K p1 m1)
    (ev : J < N → vs[4 * J]? = some (.int p0) ∧ vs[4 * J + 1]? = some (.int m0) ∧ vs[4 * J + 2]? = some (.int p1) ∧ vs[4 * J + 3]? = some (.int m1))
    (s7 s8 s9 s10 s11 s12 s13 : Slot) (e7 : One s7) (e8 : One s8) (e9 : One s9) (e10 : One s10) (e11 : One s11) (e12 : One s12) (e13 : One s13)
    (k1 : ¬ J < N → Q (some (.int (-1))) H) (k2 : J < N → own_mm K p0 m0 p1 m1 q0 w0 q1 w1 → Q (some (.int i)) H)
    (k3 : J < N → ¬ own_mm K p0 m0 p1 m1 q0 w0 q1 w1 → ∀ (s7 s8 s9 s10 s11 s12 s13 : Slot) (e7 : One s7) (e8 : One s8) (e9 : One s9) (e10 : One s10) (e11 : One s11) (e12 : One s12) (e13 : One s13), Go Z a0 n0 M11 own_R Q 14 (own_L11 n0 t (-1) (i + 1) s7 s8 s9 s10 s11 s12 s13) [] H 0 0) :
    Go Z a0 n0 M11 own_R Q 14 (own_L11 n0 t (-1) i s7 s8 s9 s10 s11 s12 s13) [] H 0 0 := by
  have hb := own_mul4 hi hJ ht
  have z0 : (0 : Int32).toInt = 0 := by decide
  refine go_iload i11_14 rfl ?_
  refine go_aloadN i11_16 rfl ?_
  refine go_getfield 4 i11_17 (hw _ (List.mem_of_getElem? (i := 66) rfl)) h9 rfl rfl ?_
  refine go_icmp_ge 177 i11_20 (by decide) (fun g1 => ?_) (fun g1 => ?_)
  · rw [Int32.lt_iff_toInt_lt] at g1
    refine go_iload i11_177 rfl ?_
    refine go_ireturn i11_179 rfl rfl (Or.inl rfl) (by first | decide | exact Nat.le_of_ble_eq_true rfl | (simp only [room_1]; omega)) (by first | decide | exact Nat.le_of_ble_eq_true rfl | (simp only [room_1]; omega)) ?_
    exact k1 (by omega)
  rw [Int32.lt_iff_toInt_lt] at g1
  have lt : J < N := by omega
  obtain ⟨v0, v1, v2, v3⟩ := ev lt
  refine go_iload i11_23 rfl ?_
  refine go_ifF i11_25 (by decide) ?_
  refine go_iload i11_28 rfl ?_
  refine go_iload i11_30 rfl ?_
  refine go_imul i11_32 ?_
  refine go_istore7 i11_33 e7 ?_
  refine go_iconst (v := (1 : Int32)) i11_35 (by decide) ?_
  refine go_istore8 i11_36 e8 ?_
  refine go_iconst (v := (0 : Int32)) i11_38 (by decide) ?_
  refine go_istore9 i11_39 e9 ?_
  refine go_iload i11_41 rfl ?_
  refine go_aloadN i11_43 rfl ?_
  refine go_getfield 2 i11_44 (hw _ (List.mem_of_getElem? (i := 21) rfl)) h9 rfl rfl ?_
  refine go_icmpF i11_47 (by decide) ?_
  refine go_iload i11_50 rfl ?_
  refine go_ifF i11_52 (by decide) ?_
  have no : ¬ own_mm K p0 m0 p1 m1 q0 w0 q1 w1 → ∀ (x x10 x11 x12 x13 : Int32), Go Z a0 n0 M11 own_R Q 158 (own_L11 n0 t (-1) i (.val (.int (i * t))) (.val (.int 0)) (.val (.int x)) (.val (.int x10)) (.val (.int x11)) (.val (.int x12)) (.val (.int x13))) [] H 0 0 := by
    intro h x x10 x11 x12 x13
    refine go_iload i11_158 rfl ?_
    refine go_ifT 168 i11_160 (by decide) (by decide) ?_
    refine go_iconst (v := (-1 : Int32)) i11_168 (by decide) ?_
    refine go_istore5 i11_169 (by first | exact One.u | exact One.val rfl) ?_
    refine go_iinc6  i11_171 rfl ?_
    refine go_goto 14 i11_174 (by decide) ?_
    exact k3 lt h _ _ _ _ _ _ _ (One.val rfl) (One.val rfl) (One.val rfl) (One.val rfl) (One.val rfl) (One.val rfl) (One.val rfl)
  have yes : own_mm K p0 m0 p1 m1 q0 w0 q1 w1 → ∀ (x x10 x11 x12 x13 : Int32), Go Z a0 n0 M11 own_R Q 158 (own_L11 n0 t (-1) i (.val (.int (i * t))) (.val (.int 1)) (.val (.int x)) (.val (.int x10)) (.val (.int x11)) (.val (.int x12)) (.val (.int x13))) [] H 0 0 := by
    intro h x x10 x11 x12 x13
    refine go_iload i11_158 rfl ?_
    refine go_ifF i11_160 (by decide) ?_
    refine go_iload i11_163 rfl ?_
    refine go_goto 169 i11_165 (by decide) ?_
    refine go_istore5 i11_169 (by first | exact One.u | exact One.val rfl) ?_
    refine go_iinc6  i11_171 rfl ?_
    refine go_goto 14 i11_174 (by decide) ?_
    refine go_iload i11_14 rfl ?_
    refine go_aloadN i11_16 rfl ?_
    refine go_getfield 4 i11_17 (hw _ (List.mem_of_getElem? (i := 66) rfl)) h9 rfl rfl ?_
    refine go_icmp_ge 177 i11_20 (by decide) (fun g5 => ?_) (fun g5 => ?_)
    · refine go_iload i11_177 rfl ?_
      refine go_ireturn i11_179 rfl rfl (Or.inl rfl) (by first | decide | exact Nat.le_of_ble_eq_true rfl | (simp only [room_1]; omega)) (by first | decide | exact Nat.le_of_ble_eq_true rfl | (simp only [room_1]; omega)) ?_
      exact k2 lt h
    refine go_iload i11_23 rfl ?_
    refine go_ifT 177 i11_25 (by decide) ((if0 _ _).trans ((hold_ge _ _).1.mpr (by rw [Int32.lt_iff_toInt_lt, z0]; omega))) ?_
    refine go_iload i11_177 rfl ?_
    refine go_ireturn i11_179 rfl rfl (Or.inl rfl) (by first | decide | exact Nat.le_of_ble_eq_true rfl | (simp only [room_1]; omega)) (by first | decide | exact Nat.le_of_ble_eq_true rfl | (simp only [room_1]; omega)) ?_
    exact k2 lt h
  rcases hord with ⟨rfl, rfl⟩ | ⟨rfl, rfl⟩
  · refine d11 Q H K s q0 q1 w0 w1 0 1 vs hw h6 h7 h8 h9 h11 t (-1) i _ 0 p0 q0 m0 w0 1 0 J 0 0 hb hJ (by decide) rfl (by decide) (by decide) v0 v1 rfl rfl b1 b3 _ _ _ _ e10 e11 e12 e13 (fun h x y z => ?_) (fun h x y z => ?_)
    · refine go_iinc9 (v := 1) i11_152  (by decide) ?_
      refine go_goto 41 i11_155 (by decide) ?_
      refine go_iload i11_41 rfl ?_
      refine go_aloadN i11_43 rfl ?_
      refine go_getfield 2 i11_44 (hw _ (List.mem_of_getElem? (i := 21) rfl)) h9 rfl rfl ?_
      refine go_icmpF i11_47 (by decide) ?_
      refine go_iload i11_50 rfl ?_
      refine go_ifF i11_52 (by decide) ?_
      refine d11 Q H K s q0 q1 w0 w1 0 1 vs hw h6 h7 h8 h9 h11 t (-1) i _ 1 p1 q1 m1 w1 1 1 J 1 1 hb hJ (by decide) rfl (by decide) (by decide) v2 v3 rfl rfl b2 b4 _ _ _ _ (One.val rfl) (One.val rfl) (One.val rfl) (One.val rfl) (fun h' x y z => ?_) (fun h' x y z => ?_)
      · refine go_iinc9 (v := 2) i11_152  (by decide) ?_
        refine go_goto 41 i11_155 (by decide) ?_
        refine go_iload i11_41 rfl ?_
        refine go_aloadN i11_43 rfl ?_
        refine go_getfield 2 i11_44 (hw _ (List.mem_of_getElem? (i := 21) rfl)) h9 rfl rfl ?_
        refine go_icmpT 158 i11_47 (by decide) (by decide) ?_
        exact yes ⟨h, h'⟩ _ _ _ _ _
      · refine go_iinc9 (v := 2) i11_152  (by decide) ?_
        refine go_goto 41 i11_155 (by decide) ?_
        refine go_iload i11_41 rfl ?_
        refine go_aloadN i11_43 rfl ?_
        refine go_getfield 2 i11_44 (hw _ (List.mem_of_getElem? (i := 21) rfl)) h9 rfl rfl ?_
        refine go_icmpT 158 i11_47 (by decide) (by decide) ?_
        exact no (fun q => h' q.2) _ _ _ _ _
    · refine go_iinc9 (v := 1) i11_152  (by decide) ?_
      refine go_goto 41 i11_155 (by decide) ?_
      refine go_iload i11_41 rfl ?_
      refine go_aloadN i11_43 rfl ?_
      refine go_getfield 2 i11_44 (hw _ (List.mem_of_getElem? (i := 21) rfl)) h9 rfl rfl ?_
      refine go_icmpF i11_47 (by decide) ?_
      refine go_iload i11_50 rfl ?_
      refine go_ifT 158 i11_52 (by decide) (by decide) ?_
      exact no (fun q => h q.1) _ _ _ _ _
  · refine d11 Q H K s q0 q1 w0 w1 1 0 vs hw h6 h7 h8 h9 h11 t (-1) i _ 1 p1 q1 m1 w1 1 0 J 1 0 hb hJ (by decide) rfl (by decide) (by decide) v2 v3 rfl rfl b2 b4 _ _ _ _ e10 e11 e12 e13 (fun h x y z => ?_) (fun h x y z => ?_)
    · refine go_iinc9 (v := 1) i11_152  (by decide) ?_
      refine go_goto 41 i11_155 (by decide) ?_
      refine go_iload i11_41 rfl ?_
      refine go_aloadN i11_43 rfl ?_
      refine go_getfield 2 i11_44 (hw _ (List.mem_of_getElem? (i := 21) rfl)) h9 rfl rfl ?_
      refine go_icmpF i11_47 (by decide) ?_
      refine go_iload i11_50 rfl ?_
      refine go_ifF i11_52 (by decide) ?_
      refine d11 Q H K s q0 q1 w0 w1 1 0 vs hw h6 h7 h8 h9 h11 t (-1) i _ 0 p0 q0 m0 w0 1 1 J 0 1 hb hJ (by decide) rfl (by decide) (by decide) v0 v1 rfl rfl b1 b3 _ _ _ _ (One.val rfl) (One.val rfl) (One.val rfl) (One.val rfl) (fun h' x y z => ?_) (fun h' x y z => ?_)
      · refine go_iinc9 (v := 2) i11_152  (by decide) ?_
        refine go_goto 41 i11_155 (by decide) ?_
        refine go_iload i11_41 rfl ?_
        refine go_aloadN i11_43 rfl ?_
        refine go_getfield 2 i11_44 (hw _ (List.mem_of_getElem? (i := 21) rfl)) h9 rfl rfl ?_
        refine go_icmpT 158 i11_47 (by decide) (by decide) ?_
        exact yes ⟨h', h⟩ _ _ _ _ _
      · refine go_iinc9 (v := 2) i11_152  (by decide) ?_
        refine go_goto 41 i11_155 (by decide) ?_
        refine go_iload i11_41 rfl ?_
        refine go_aloadN i11_43 rfl ?_
        refine go_getfield 2 i11_44 (hw _ (List.mem_of_getElem? (i := 21) rfl)) h9 rfl rfl ?_
        refine go_icmpT 158 i11_47 (by decide) (by decide) ?_
        exact no (fun q => h' q.1) _ _ _ _ _
    · refine go_iinc9 (v := 1) i11_152  (by decide) ?_
      refine go_goto 41 i11_155 (by decide) ?_
      refine go_iload i11_41 rfl ?_
      refine go_aloadN i11_43 rfl ?_
      refine go_getfield 2 i11_44 (hw _ (List.mem_of_getElem? (i := 21) rfl)) h9 rfl rfl ?_
      refine go_icmpF i11_47 (by decide) ?_
      refine go_iload i11_50 rfl ?_
      refine go_ifT 158 i11_52 (by decide) (by decide) ?_
      exact no (fun q => h q.2) _ _ _ _ _
end First
def own_ix (N : Nat) (p0 p1 p2 : Prop) [Decidable p0] [Decidable p1] [Decidable p2] : Int32 := if 0 < N ∧ p0 then 0 else if 1 < N ∧ p1 then 1 else if 2 < N ∧ p2 then 2 else -1
theorem met11 (hw : ∀ d ∈ tables_1, d.before a0 Z = true) (H : List GObj) (K s q0 q1 w0 w1 r0 r1 p00 m00 p01 m01 p10 m10 p11 m11 p20 m20 p21 m21 : Int32) (vs : List Value) (N : Nat) (hs : s.toInt = (N : Int)) (hN : N ≤ 3) (hord : (r0 = 0 ∧ r1 = 1) ∨ (r0 = 1 ∧ r1 = 0)) (b3 : own_bd K q0 w0) (b4 : own_bd K q1 w1) (c00 : own_bd K p00 m00) (c01 : own_bd K p01 m01) (c10 : own_bd K p10 m10) (c11 : own_bd K p11 m11) (c20 : own_bd K p20 m20) (c21 : own_bd K p21 m21) (h6 : H[6]? = some (.inr (.int, [.int q0, .int q1]))) (h7 : H[7]? = some (.inr (.int, [.int w0, .int w1]))) (h8 : H[8]? = some (.inr (.int, [.int r0, .int r1]))) (h9 : H[9]? = some (.inl (KL, [.ref (n0 + 10), .int K, .int 2, .ref (n0 + 11), .int s]))) (h11 : H[11]? = some (.inr (.int, vs))) (ev0 : 0 < N → vs[0]? = some (.int p00) ∧ vs[1]? = some (.int m00) ∧ vs[2]? = some (.int p01) ∧ vs[3]? = some (.int m01)) (ev1 : 1 < N → vs[4]? = some (.int p10) ∧ vs[5]? = some (.int m10) ∧ vs[6]? = some (.int p11) ∧ vs[7]? = some (.int m11)) (ev2 : 2 < N → vs[8]? = some (.int p20) ∧ vs[9]? = some (.int m20) ∧ vs[10]? = some (.int p21) ∧ vs[11]? = some (.int m21)) : Met Z a0 n0 M11 0 0 0 0 [.ref (n0 + 9), .ref (n0 + 6), .ref (n0 + 7), .ref (n0 + 8)] H
    (Eq1 (.int (own_ix N (own_mm K p00 m00 p01 m01 q0 w0 q1 w1) (own_mm K p10 m10 p11 m11 q0 w0 q1 w1) (own_mm K p20 m20 p21 m21 q0 w0 q1 w1))) H) := by
  refine MetW.intro [.val (.ref (n0 + 9)), .val (.ref (n0 + 6)), .val (.ref (n0 + 7)), .val (.ref (n0 + 8)), .unset, .unset, .unset, .unset, .unset, .unset, .unset, .unset, .unset, .unset] pn11 rfl ?_
  refine go_iconst (v := (2 : Int32)) i11_0 (by decide) ?_
  refine go_aloadN i11_1 rfl ?_
  refine go_getfield 2 i11_2 (hw _ (List.mem_of_getElem? (i := 21) rfl)) h9 rfl rfl ?_
  refine go_imul i11_5 ?_
  refine go_istore4 i11_6 (by first | exact One.u | exact One.val rfl) ?_
  refine go_iconst (v := (-1 : Int32)) i11_8 (by decide) ?_
  refine go_istore5 i11_9 (by first | exact One.u | exact One.val rfl) ?_
  refine go_iconst (v := (0 : Int32)) i11_11 (by decide) ?_
  refine go_istore6 i11_12 (by first | exact One.u | exact One.val rfl) ?_
  refine it11 _ H K s q0 q1 w0 w1 r0 r1 vs hw h6 h7 h8 h9 h11 hord b3 b4 _ 0 p00 m00 p01 m01 0 N (by decide) (by decide) (by decide) hs hN c00 c01 ev0 _ _ _ _ _ _ _ One.u One.u One.u One.u One.u One.u One.u (fun h => ⟨?_, rfl⟩) (fun h h' => ⟨?_, rfl⟩) (fun h h' s7 s8 s9 s10 s11 s12 s13 e7 e8 e9 e10 e11 e12 e13 => ?_)
  · rw [own_ix, if_neg (by omega), if_neg (by omega), if_neg (by omega)]
  · rw [own_ix, if_pos ⟨h, h'⟩]
  have k0 : ¬ (0 < N ∧ own_mm K p00 m00 p01 m01 q0 w0 q1 w1) := fun q => h' q.2
  clear h h'
  refine it11 _ H K s q0 q1 w0 w1 r0 r1 vs hw h6 h7 h8 h9 h11 hord b3 b4 _ (0 + 1) p10 m10 p11 m11 1 N (by decide) (by decide) (by decide) hs hN c10 c11 ev1 _ _ _ _ _ _ _ e7 e8 e9 e10 e11 e12 e13 (fun h => ⟨?_, rfl⟩) (fun h h' => ⟨?_, rfl⟩) (fun h h' s7 s8 s9 s10 s11 s12 s13 e7 e8 e9 e10 e11 e12 e13 => ?_)
  · rw [own_ix, if_neg k0, if_neg (by omega), if_neg (by omega)]
  · rw [own_ix, if_neg k0, if_pos ⟨h, h'⟩]; decide
  have k1 : ¬ (1 < N ∧ own_mm K p10 m10 p11 m11 q0 w0 q1 w1) := fun q => h' q.2
  clear h h'
  refine it11 _ H K s q0 q1 w0 w1 r0 r1 vs hw h6 h7 h8 h9 h11 hord b3 b4 _ (0 + 1 + 1) p20 m20 p21 m21 2 N (by decide) (by decide) (by decide) hs hN c20 c21 ev2 _ _ _ _ _ _ _ e7 e8 e9 e10 e11 e12 e13 (fun h => ⟨?_, rfl⟩) (fun h h' => ⟨?_, rfl⟩) (fun h h' s7 s8 s9 s10 s11 s12 s13 e7 e8 e9 e10 e11 e12 e13 => ?_)
  · rw [own_ix, if_neg k0, if_neg k1, if_neg (by omega)]
  · rw [own_ix, if_neg k0, if_neg k1, if_pos ⟨h, h'⟩]; decide
  have k2 : ¬ (2 < N ∧ own_mm K p20 m20 p21 m21 q0 w0 q1 w1) := fun q => h' q.2
  refine it11 _ H K s q0 q1 w0 w1 r0 r1 vs hw h6 h7 h8 h9 h11 hord b3 b4 _ (0 + 1 + 1 + 1) p20 m20 p21 m21 3 N (by decide) (by decide) (by decide) hs hN c20 c21 (fun h => absurd h (by omega)) _ _ _ _ _ _ _ e7 e8 e9 e10 e11 e12 e13 (fun h => ⟨?_, rfl⟩) (fun h h' => absurd h (by omega)) (fun h h' => absurd h (by omega))
  rw [own_ix, if_neg k0, if_neg k1, if_neg k2]
abbrev own_P : Option Value → List GObj → Prop := fun v _ => v = some (.int 1)
abbrev LL (n0 : Nat) (s0 s1 s2 s3 s4 : Slot) (K n : Int32) (s7 s14 s15 : Slot) (t : List Slot) : List Slot := s0 :: s1 :: s2 :: s3 :: s4 :: .val (.int K) :: .val (.int n) :: s7 :: .val (.ref (n0 + 0)) :: .val (.ref (n0 + 1)) :: .val (.ref (n0 + 2)) :: .val (.ref (n0 + 3)) :: .val (.ref (n0 + 4)) :: .val (.ref (n0 + 5)) :: s14 :: s15 :: .val (.ref (n0 + 6)) :: .val (.ref (n0 + 7)) :: t
theorem own_pos {n : Int32} {N : Nat} (hn : n.toInt = (N : Int)) (j : Int32) (J : Nat) (hj : j.toInt = ((J + 1 : Nat) : Int)) : n < j ↔ ¬ J < N := by rw [Int32.lt_iff_toInt_lt]; omega
section Ends
variable (s0 s1 s2 s3 s4 s7 s14 s15 s18 s19 s20 s21 s22 : Slot) (K n got : Int32) (H : List GObj)
abbrev own_G (Z : State) (a0 : Array Value) (n0 : Nat) (pc : Nat) (L : List Slot) (st : List Value) (H : List GObj) : Prop := Go Z a0 n0 M0 room_1 own_P pc L st H 21 367
theorem g504 (hw : ∀ d ∈ tables_1, d.before a0 Z = true) (p0 p1 p2 : Prop) [Decidable p0] [Decidable p1] [Decidable p2] (hg : got = if p0 then 0 else if p1 then 1 else if p2 then 2 else -1) :
    own_G Z a0 n0 504 (LL n0 s0 s1 s2 s3 s4 K n s7 s14 s15 [s18, s19, s20, s21, s22, .val (.int got), .val (.int (if p0 then 1 else 0)), .val (.int (if p1 then 1 else 0)), .val (.int (if p2 then 1 else 0)), .unset]) [] H := by
  have fin : ∀ s24 s25 s26 : Slot, own_G Z a0 n0 534 (LL n0 s0 s1 s2 s3 s4 K n s7 s14 s15 [s18, s19, s20, s21, s22, .val (.int got), s24, s25, s26, .val (.int got)]) [] H := by
    intro s24 s25 s26
    refine go_iload i0_534 rfl ?_
    refine go_iload i0_536 rfl ?_
    refine go_icmpF i0_538 ((hold_ne _ _).2.mpr rfl) ?_
    refine go_iconst (v := (1 : Int32)) i0_541 (by decide) ?_
    refine go_goto 546 i0_542 (by decide) ?_
    refine go_ireturn i0_546 rfl rfl (Or.inr (Or.inl rfl)) (by first | decide | exact Nat.le_of_ble_eq_true rfl | (simp only [room_1]; omega)) (by first | decide | exact Nat.le_of_ble_eq_true rfl | (simp only [room_1]; omega)) ?_
    rfl
  by_cases h0 : p0
  · rw [if_pos h0] at hg ⊢
    subst hg
    refine go_iload i0_504 rfl ?_
    refine go_ifF i0_506 (by decide) ?_
    refine go_iconst (v := (0 : Int32)) i0_509 (by decide) ?_
    refine go_goto 532 i0_510 (by decide) ?_
    refine go_istore27 i0_532 (by first | exact One.u | exact One.val rfl) ?_
    exact fin _ _ _
  rw [if_neg h0] at hg ⊢
  by_cases h1 : p1
  · rw [if_pos h1] at hg ⊢
    subst hg
    refine go_iload i0_504 rfl ?_
    refine go_ifT 513 i0_506 (by decide) (by decide) ?_
    refine go_iload i0_513 rfl ?_
    refine go_ifF i0_515 (by decide) ?_
    refine go_iconst (v := (1 : Int32)) i0_518 (by decide) ?_
    refine go_goto 532 i0_519 (by decide) ?_
    refine go_istore27 i0_532 (by first | exact One.u | exact One.val rfl) ?_
    exact fin _ _ _
  rw [if_neg h1] at hg ⊢
  by_cases h2 : p2
  · rw [if_pos h2] at hg ⊢
    subst hg
    refine go_iload i0_504 rfl ?_
    refine go_ifT 513 i0_506 (by decide) (by decide) ?_
    refine go_iload i0_513 rfl ?_
    refine go_ifT 522 i0_515 (by decide) (by decide) ?_
    refine go_iload i0_522 rfl ?_
    refine go_ifF i0_524 (by decide) ?_
    refine go_iconst (v := (2 : Int32)) i0_527 (by decide) ?_
    refine go_goto 532 i0_528 (by decide) ?_
    refine go_istore27 i0_532 (by first | exact One.u | exact One.val rfl) ?_
    exact fin _ _ _
  rw [if_neg h2] at hg ⊢
  subst hg
  refine go_iload i0_504 rfl ?_
  refine go_ifT 513 i0_506 (by decide) (by decide) ?_
  refine go_iload i0_513 rfl ?_
  refine go_ifT 522 i0_515 (by decide) (by decide) ?_
  refine go_iload i0_522 rfl ?_
  refine go_ifT 531 i0_524 (by decide) (by decide) ?_
  refine go_iconst (v := (-1 : Int32)) i0_531 (by decide) ?_
  refine go_istore27 i0_532 (by first | exact One.u | exact One.val rfl) ?_
  exact fin _ _ _
theorem g417 (hw : ∀ d ∈ tables_1, d.before a0 Z = true)  (N : Nat) (hn : n.toInt = (N : Int)) (p0 m0 p1 m1 q0 w0 q1 w1 : Int32) (b1 : own_bd K p0 m0) (b2 : own_bd K p1 m1) (b3 : own_bd K q0 w0) (b4 : own_bd K q1 w1) (h1 : H[0]? = some (.inr (.int, [.int p0, .int p1]))) (h2 : H[1]? = some (.inr (.int, [.int m0, .int m1]))) (h3 : H[6]? = some (.inr (.int, [.int q0, .int q1]))) (h4 : H[7]? = some (.inr (.int, [.int w0, .int w1])))
    (k : own_G Z a0 n0 446 (LL n0 s0 s1 s2 s3 s4 K n s7 s14 s15 [s18, s19, s20, s21, s22, .val (.int got), .val (.int (if 0 < N ∧ own_mm K p0 m0 p1 m1 q0 w0 q1 w1 then 1 else 0)), .unset, .unset, .unset]) [] H) : own_G Z a0 n0 417 (LL n0 s0 s1 s2 s3 s4 K n s7 s14 s15 [s18, s19, s20, s21, s22, .val (.int got), .unset, .unset, .unset, .unset]) [] H := by
  have hpos := own_pos hn 1 0 (by decide)
  have no : ¬ (0 < N ∧ own_mm K p0 m0 p1 m1 q0 w0 q1 w1) → own_G Z a0 n0 443 (LL n0 s0 s1 s2 s3 s4 K n s7 s14 s15 [s18, s19, s20, s21, s22, .val (.int got), .unset, .unset, .unset, .unset]) [] H := by
    intro h
    rw [if_neg h] at k
    refine go_iconst (v := (0 : Int32)) i0_443 (by decide) ?_
    refine go_istore24 i0_444 (by first | exact One.u | exact One.val rfl) ?_
    exact k
  refine go_iload i0_417 rfl ?_
  refine go_iconst (v := (1 : Int32)) i0_419 (by decide) ?_
  refine go_icmp_lt 443 i0_420 (by decide) (fun g1 => ?_) (fun g1 => ?_)
  · exact no (fun q => hpos.mp g1 q.1)
  have g2 : 0 < N := by
    rcases Decidable.em (0 < N) with q | q
    · exact q
    · exact absurd (hpos.mpr q) g1
  refine go_iload i0_423 rfl ?_
  refine go_aload i0_425 rfl ?_
  refine go_aload i0_427 rfl ?_
  refine go_aload i0_429 rfl ?_
  refine go_aload i0_431 rfl ?_
  refine go_static i0_433 (met12 hw K p0 m0 p1 m1 q0 w0 q1 w1 b1 b2 b3 b4 H 0 1 6 7 h1 h2 h3 h4) (hw _ (List.mem_of_getElem? (i := 88) rfl)) (hw _ (List.mem_of_getElem? (i := 89) rfl)) (hw _ (List.mem_of_getElem? (i := 3) rfl)) (hw _ (List.mem_of_getElem? (i := 90) rfl)) rfl pd12 rfl rfl rfl (by first | decide | exact Nat.le_of_ble_eq_true rfl | (simp only [room_1]; omega)) (by first | decide | exact Nat.le_of_ble_eq_true rfl | (simp only [room_1]; omega)) (by first | decide | exact Nat.le_of_ble_eq_true rfl | (simp only [room_1]; omega)) (by first | decide | exact Nat.le_of_ble_eq_true rfl | (simp only [room_1]; omega)) (retE rfl ?_)
  by_cases g3 : own_mm K p0 m0 p1 m1 q0 w0 q1 w1
  · rw [if_pos g3]
    refine go_ifF i0_436 (by decide) ?_
    rw [if_pos ⟨g2, g3⟩] at k
    refine go_iconst (v := (1 : Int32)) i0_439 (by decide) ?_
    refine go_goto 444 i0_440 (by decide) ?_
    refine go_istore24 i0_444 (by first | exact One.u | exact One.val rfl) ?_
    exact k
  · rw [if_neg g3]
    refine go_ifT 443 i0_436 (by decide) (by decide) ?_
    exact no (fun q => g3 q.2)
theorem g446 (hw : ∀ d ∈ tables_1, d.before a0 Z = true) (x24 : Slot) (N : Nat) (hn : n.toInt = (N : Int)) (p0 m0 p1 m1 q0 w0 q1 w1 : Int32) (b1 : own_bd K p0 m0) (b2 : own_bd K p1 m1) (b3 : own_bd K q0 w0) (b4 : own_bd K q1 w1) (h1 : H[2]? = some (.inr (.int, [.int p0, .int p1]))) (h2 : H[3]? = some (.inr (.int, [.int m0, .int m1]))) (h3 : H[6]? = some (.inr (.int, [.int q0, .int q1]))) (h4 : H[7]? = some (.inr (.int, [.int w0, .int w1])))
    (k : own_G Z a0 n0 475 (LL n0 s0 s1 s2 s3 s4 K n s7 s14 s15 [s18, s19, s20, s21, s22, .val (.int got), x24, .val (.int (if 1 < N ∧ own_mm K p0 m0 p1 m1 q0 w0 q1 w1 then 1 else 0)), .unset, .unset]) [] H) : own_G Z a0 n0 446 (LL n0 s0 s1 s2 s3 s4 K n s7 s14 s15 [s18, s19, s20, s21, s22, .val (.int got), x24, .unset, .unset, .unset]) [] H := by
  have hpos := own_pos hn 2 1 (by decide)
  have no : ¬ (1 < N ∧ own_mm K p0 m0 p1 m1 q0 w0 q1 w1) → own_G Z a0 n0 472 (LL n0 s0 s1 s2 s3 s4 K n s7 s14 s15 [s18, s19, s20, s21, s22, .val (.int got), x24, .unset, .unset, .unset]) [] H := by
    intro h
    rw [if_neg h] at k
    refine go_iconst (v := (0 : Int32)) i0_472 (by decide) ?_
    refine go_istore25 i0_473 (by first | exact One.u | exact One.val rfl) ?_
    exact k
  refine go_iload i0_446 rfl ?_
  refine go_iconst (v := (2 : Int32)) i0_448 (by decide) ?_
  refine go_icmp_lt 472 i0_449 (by decide) (fun g1 => ?_) (fun g1 => ?_)
  · exact no (fun q => hpos.mp g1 q.1)
  have g2 : 1 < N := by
    rcases Decidable.em (1 < N) with q | q
    · exact q
    · exact absurd (hpos.mpr q) g1
  refine go_iload i0_452 rfl ?_
  refine go_aload i0_454 rfl ?_
  refine go_aload i0_456 rfl ?_
  refine go_aload i0_458 rfl ?_
  refine go_aload i0_460 rfl ?_
  refine go_static i0_462 (met12 hw K p0 m0 p1 m1 q0 w0 q1 w1 b1 b2 b3 b4 H 2 3 6 7 h1 h2 h3 h4) (hw _ (List.mem_of_getElem? (i := 88) rfl)) (hw _ (List.mem_of_getElem? (i := 89) rfl)) (hw _ (List.mem_of_getElem? (i := 3) rfl)) (hw _ (List.mem_of_getElem? (i := 90) rfl)) rfl pd12 rfl rfl rfl (by first | decide | exact Nat.le_of_ble_eq_true rfl | (simp only [room_1]; omega)) (by first | decide | exact Nat.le_of_ble_eq_true rfl | (simp only [room_1]; omega)) (by first | decide | exact Nat.le_of_ble_eq_true rfl | (simp only [room_1]; omega)) (by first | decide | exact Nat.le_of_ble_eq_true rfl | (simp only [room_1]; omega)) (retE rfl ?_)
  by_cases g3 : own_mm K p0 m0 p1 m1 q0 w0 q1 w1
  · rw [if_pos g3]
    refine go_ifF i0_465 (by decide) ?_
    rw [if_pos ⟨g2, g3⟩] at k
    refine go_iconst (v := (1 : Int32)) i0_468 (by decide) ?_
    refine go_goto 473 i0_469 (by decide) ?_
    refine go_istore25 i0_473 (by first | exact One.u | exact One.val rfl) ?_
    exact k
  · rw [if_neg g3]
    refine go_ifT 472 i0_465 (by decide) (by decide) ?_
    exact no (fun q => g3 q.2)
theorem g475 (hw : ∀ d ∈ tables_1, d.before a0 Z = true) (x24 x25 : Slot) (N : Nat) (hn : n.toInt = (N : Int)) (p0 m0 p1 m1 q0 w0 q1 w1 : Int32) (b1 : own_bd K p0 m0) (b2 : own_bd K p1 m1) (b3 : own_bd K q0 w0) (b4 : own_bd K q1 w1) (h1 : H[4]? = some (.inr (.int, [.int p0, .int p1]))) (h2 : H[5]? = some (.inr (.int, [.int m0, .int m1]))) (h3 : H[6]? = some (.inr (.int, [.int q0, .int q1]))) (h4 : H[7]? = some (.inr (.int, [.int w0, .int w1])))
    (k : own_G Z a0 n0 504 (LL n0 s0 s1 s2 s3 s4 K n s7 s14 s15 [s18, s19, s20, s21, s22, .val (.int got), x24, x25, .val (.int (if 2 < N ∧ own_mm K p0 m0 p1 m1 q0 w0 q1 w1 then 1 else 0)), .unset]) [] H) : own_G Z a0 n0 475 (LL n0 s0 s1 s2 s3 s4 K n s7 s14 s15 [s18, s19, s20, s21, s22, .val (.int got), x24, x25, .unset, .unset]) [] H := by
  have hpos := own_pos hn 3 2 (by decide)
  have no : ¬ (2 < N ∧ own_mm K p0 m0 p1 m1 q0 w0 q1 w1) → own_G Z a0 n0 501 (LL n0 s0 s1 s2 s3 s4 K n s7 s14 s15 [s18, s19, s20, s21, s22, .val (.int got), x24, x25, .unset, .unset]) [] H := by
    intro h
    rw [if_neg h] at k
    refine go_iconst (v := (0 : Int32)) i0_501 (by decide) ?_
    refine go_istore26 i0_502 (by first | exact One.u | exact One.val rfl) ?_
    exact k
  refine go_iload i0_475 rfl ?_
  refine go_iconst (v := (3 : Int32)) i0_477 (by decide) ?_
  refine go_icmp_lt 501 i0_478 (by decide) (fun g1 => ?_) (fun g1 => ?_)
  · exact no (fun q => hpos.mp g1 q.1)
  have g2 : 2 < N := by
    rcases Decidable.em (2 < N) with q | q
    · exact q
    · exact absurd (hpos.mpr q) g1
  refine go_iload i0_481 rfl ?_
  refine go_aload i0_483 rfl ?_
  refine go_aload i0_485 rfl ?_
  refine go_aload i0_487 rfl ?_
  refine go_aload i0_489 rfl ?_
  refine go_static i0_491 (met12 hw K p0 m0 p1 m1 q0 w0 q1 w1 b1 b2 b3 b4 H 4 5 6 7 h1 h2 h3 h4) (hw _ (List.mem_of_getElem? (i := 88) rfl)) (hw _ (List.mem_of_getElem? (i := 89) rfl)) (hw _ (List.mem_of_getElem? (i := 3) rfl)) (hw _ (List.mem_of_getElem? (i := 90) rfl)) rfl pd12 rfl rfl rfl (by first | decide | exact Nat.le_of_ble_eq_true rfl | (simp only [room_1]; omega)) (by first | decide | exact Nat.le_of_ble_eq_true rfl | (simp only [room_1]; omega)) (by first | decide | exact Nat.le_of_ble_eq_true rfl | (simp only [room_1]; omega)) (by first | decide | exact Nat.le_of_ble_eq_true rfl | (simp only [room_1]; omega)) (retE rfl ?_)
  by_cases g3 : own_mm K p0 m0 p1 m1 q0 w0 q1 w1
  · rw [if_pos g3]
    refine go_ifF i0_494 (by decide) ?_
    rw [if_pos ⟨g2, g3⟩] at k
    refine go_iconst (v := (1 : Int32)) i0_497 (by decide) ?_
    refine go_goto 502 i0_498 (by decide) ?_
    refine go_istore26 i0_502 (by first | exact One.u | exact One.val rfl) ?_
    exact k
  · rw [if_neg g3]
    refine go_ifT 501 i0_494 (by decide) (by decide) ?_
    exact no (fun q => g3 q.2)
end Ends
theorem g404 (hw : ∀ d ∈ tables_1, d.before a0 Z = true) (s0 s1 s2 s3 s4 s7 s14 s15 : Slot) (K n s q0 q1 w0 w1 r0 r1 p00 m00 p01 m01 p10 m10 p11 m11 p20 m20 p21 m21 : Int32) (us vs : List Value) (z0 z1 z2 : Int64) (y0 y1 y2 : Int32) (N : Nat) (hn : n.toInt = (N : Int)) (hs : s.toInt = (N : Int)) (hN : N ≤ 3) (hord : (r0 = 0 ∧ r1 = 1) ∨ (r0 = 1 ∧ r1 = 0)) (b3 : own_bd K q0 w0) (b4 : own_bd K q1 w1) (c00 : own_bd K p00 m00) (c01 : own_bd K p01 m01) (c10 : own_bd K p10 m10) (c11 : own_bd K p11 m11) (c20 : own_bd K p20 m20) (c21 : own_bd K p21 m21) (ev0 : 0 < N → vs[0]? = some (.int p00) ∧ vs[1]? = some (.int m00) ∧ vs[2]? = some (.int p01) ∧ vs[3]? = some (.int m01)) (ev1 : 1 < N → vs[4]? = some (.int p10) ∧ vs[5]? = some (.int m10) ∧ vs[6]? = some (.int p11) ∧ vs[7]? = some (.int m11)) (ev2 : 2 < N → vs[8]? = some (.int p20) ∧ vs[9]? = some (.int m20) ∧ vs[10]? = some (.int p21) ∧ vs[11]? = some (.int m21)) : own_G Z a0 n0 404 (LL n0 s0 s1 s2 s3 s4 K n s7 s14 s15 [.val (.ref (n0 + 8)), .val (.ref (n0 + 9)), .val (.ref (n0 + 12)), .val (.ref (n0 + 15)), .val (.ref (n0 + 18)), .unset, .unset, .unset, .unset, .unset]) [] [.inr (.int, [.int p00, .int p01]), .inr (.int, [.int m00, .int m01]), .inr (.int, [.int p10, .int p11]), .inr (.int, [.int m10, .int m11]), .inr (.int, [.int p20, .int p21]), .inr (.int, [.int m20, .int m21]), .inr (.int, [.int q0, .int q1]), .inr (.int, [.int w0, .int w1]), .inr (.int, [.int r0, .int r1]), .inl (KL, [.ref (n0 + 10), .int K, .int 2, .ref (n0 + 11), .int s]), .inr (.object "com/example/meshwright/meshwright/grid/Subcube", us), .inr (.int, vs), .inl (KS, [.ref (n0 + 13), .ref (n0 + 14), .long z0, .int y0]), .inr (.int, [.int p00, .int p01]), .inr (.int, [.int m00, .int m01]), .inl (KS, [.ref (n0 + 16), .ref (n0 + 17), .long z1, .int y1]), .inr (.int, [.int p10, .int p11]), .inr (.int, [.int m10, .int m11]), .inl (KS, [.ref (n0 + 19), .ref (n0 + 20), .long z2, .int y2]), .inr (.int, [.int p20, .int p21]), .inr (.int, [.int m20, .int m21])] := by
  refine go_aload i0_404 rfl ?_
  refine go_aload i0_406 rfl ?_
  refine go_aload i0_408 rfl ?_
  refine go_aload i0_410 rfl ?_
  refine go_virtual i0_412 (met11 hw _ K s q0 q1 w0 w1 r0 r1 p00 m00 p01 m01 p10 m10 p11 m11 p20 m20 p21 m21 vs N hs hN hord b3 b4 c00 c01 c10 c11 c20 c21 rfl rfl rfl rfl rfl ev0 ev1 ev2) rfl (hw _ (List.mem_of_getElem? (i := 83) rfl)) (hw _ (List.mem_of_getElem? (i := 84) rfl)) (hw _ (List.mem_of_getElem? (i := 86) rfl)) (hw _ (List.mem_of_getElem? (i := 85) rfl)) (hw _ (List.mem_of_getElem? (i := 8) rfl)) (hw _ (List.mem_of_getElem? (i := 87) rfl)) rfl pd11 rfl rfl rfl (by first | decide | exact Nat.le_of_ble_eq_true rfl | (simp only [room_1]; omega)) (by first | decide | exact Nat.le_of_ble_eq_true rfl | (simp only [room_1]; omega)) (by first | decide | exact Nat.le_of_ble_eq_true rfl | (simp only [room_1]; omega)) (by first | decide | exact Nat.le_of_ble_eq_true rfl | (simp only [room_1]; omega)) (retE rfl ?_)
  refine go_istore23 i0_415 (by first | exact One.u | exact One.val rfl) ?_
  refine g417 _ _ _ _ _ _ _ _ _ _ _ _ _ K n _ _ hw N hn p00 m00 p01 m01 q0 w0 q1 w1 c00 c01 b3 b4 rfl rfl rfl rfl ?_
  refine g446 _ _ _ _ _ _ _ _ _ _ _ _ _ K n _ _ hw _ N hn p10 m10 p11 m11 q0 w0 q1 w1 c10 c11 b3 b4 rfl rfl rfl rfl ?_
  refine g475 _ _ _ _ _ _ _ _ _ _ _ _ _ K n _ _ hw _ _ N hn p20 m20 p21 m21 q0 w0 q1 w1 c20 c21 b3 b4 rfl rfl rfl rfl ?_
  exact g504 _ _ _ _ _ _ _ _ _ _ _ _ _ K n _ _ hw _ _ _ rfl
theorem g362 (hw : ∀ d ∈ tables_1, d.before a0 Z = true) (s0 s1 s2 s3 s4 s7 s14 s15 : Slot) (K n q0 q1 w0 w1 r0 r1 p00 m00 p01 m01 p10 m10 p11 m11 p20 m20 p21 m21 : Int32) (z0 z1 z2 : Int64) (y0 y1 y2 : Int32) (hn : n = 0 ∨ n = 1 ∨ n = 2 ∨ n = 3) (hord : (r0 = 0 ∧ r1 = 1) ∨ (r0 = 1 ∧ r1 = 0)) (b3 : own_bd K q0 w0) (b4 : own_bd K q1 w1) (c00 : own_bd K p00 m00) (c01 : own_bd K p01 m01) (c10 : own_bd K p10 m10) (c11 : own_bd K p11 m11) (c20 : own_bd K p20 m20) (c21 : own_bd K p21 m21) : own_G Z a0 n0 362 (LL n0 s0 s1 s2 s3 s4 K n s7 s14 s15 [.val (.ref (n0 + 8)), .val (.ref (n0 + 9)), .val (.ref (n0 + 12)), .val (.ref (n0 + 15)), .val (.ref (n0 + 18)), .unset, .unset, .unset, .unset, .unset]) [] [.inr (.int, [.int p00, .int p01]), .inr (.int, [.int m00, .int m01]), .inr (.int, [.int p10, .int p11]), .inr (.int, [.int m10, .int m11]), .inr (.int, [.int p20, .int p21]), .inr (.int, [.int m20, .int m21]), .inr (.int, [.int q0, .int q1]), .inr (.int, [.int w0, .int w1]), .inr (.int, [.int r0, .int r1]), .inl (KL, [.ref (n0 + 10), .int K, .int 2, .ref (n0 + 11), .int 0]), .inr (.object "com/example/meshwright/meshwright/grid/Subcube", (List.replicate 64 .null)), .inr (.int, (List.replicate 256 (.int 0))), .inl (KS, [.ref (n0 + 13), .ref (n0 + 14), .long z0, .int y0]), .inr (.int, [.int p00, .int p01]), .inr (.int, [.int m00, .int m01]), .inl (KS, [.ref (n0 + 16), .ref (n0 + 17), .long z1, .int y1]), .inr (.int, [.int p10, .int p11]), .inr (.int, [.int m10, .int m11]), .inl (KS, [.ref (n0 + 19), .ref (n0 + 20), .long z2, .int y2]), .inr (.int, [.int p20, .int p21]), .inr (.int, [.int m20, .int m21])] := by
  rcases hn with rfl | rfl | rfl | rfl
  · refine go_iload i0_362 rfl ?_
    refine go_iconst (v := (1 : Int32)) i0_364 (by decide) ?_
    refine go_icmpT 376 i0_365 (by decide) (by decide) ?_
    refine go_iload i0_376 rfl ?_
    refine go_iconst (v := (2 : Int32)) i0_378 (by decide) ?_
    refine go_icmpT 390 i0_379 (by decide) (by decide) ?_
    refine go_iload i0_390 rfl ?_
    refine go_iconst (v := (3 : Int32)) i0_392 (by decide) ?_
    refine go_icmpT 404 i0_393 (by decide) (by decide) ?_
    exact g404 hw s0 s1 s2 s3 s4 s7 s14 s15 K 0 0 q0 q1 w0 w1 r0 r1 p00 m00 p01 m01 p10 m10 p11 m11 p20 m20 p21 m21 _ _ z0 z1 z2 y0 y1 y2 0 (by decide) (by decide) (by decide) hord b3 b4 c00 c01 c10 c11 c20 c21 (fun h => absurd h (by decide)) (fun h => absurd h (by decide)) (fun h => absurd h (by decide))
  · refine go_iload i0_362 rfl ?_
    refine go_iconst (v := (1 : Int32)) i0_364 (by decide) ?_
    refine go_icmpF i0_365 (by decide) ?_
    refine go_aload i0_368 rfl ?_
    refine go_iconst (v := (0 : Int32)) i0_370 (by decide) ?_
    refine go_aload i0_371 rfl ?_
    refine go_virtual i0_373 (met8_0 hw K p00 p01 m00 m01 _ _ _ _ (by simp only [List.length_set, List.length_replicate]) (by simp only [own_4, List.length_set, List.length_replicate]) _ _ _ _ _ _ _ _ _ _ _ _ _ _ _) rfl (hw _ (List.mem_of_getElem? (i := 61) rfl)) (hw _ (List.mem_of_getElem? (i := 62) rfl)) (hw _ (List.mem_of_getElem? (i := 64) rfl)) (hw _ (List.mem_of_getElem? (i := 63) rfl)) (hw _ (List.mem_of_getElem? (i := 8) rfl)) (hw _ (List.mem_of_getElem? (i := 65) rfl)) rfl pd8 rfl rfl rfl (by first | decide | exact Nat.le_of_ble_eq_true rfl | (simp only [room_1]; omega)) (by first | decide | exact Nat.le_of_ble_eq_true rfl | (simp only [room_1]; omega)) (by first | decide | exact Nat.le_of_ble_eq_true rfl | (simp only [room_1]; omega)) (by first | decide | exact Nat.le_of_ble_eq_true rfl | (simp only [room_1]; omega)) (retV rfl ?_)
    refine go_iload i0_376 rfl ?_
    refine go_iconst (v := (2 : Int32)) i0_378 (by decide) ?_
    refine go_icmpT 390 i0_379 (by decide) (by decide) ?_
    refine go_iload i0_390 rfl ?_
    refine go_iconst (v := (3 : Int32)) i0_392 (by decide) ?_
    refine go_icmpT 404 i0_393 (by decide) (by decide) ?_
    exact g404 hw s0 s1 s2 s3 s4 s7 s14 s15 K 1 _ q0 q1 w0 w1 r0 r1 p00 m00 p01 m01 p10 m10 p11 m11 p20 m20 p21 m21 _ _ z0 z1 z2 y0 y1 y2 1 (by decide) (by decide) (by decide) hord b3 b4 c00 c01 c10 c11 c20 c21 (fun h => ⟨rfl, rfl, rfl, rfl⟩) (fun h => absurd h (by decide)) (fun h => absurd h (by decide))
  · refine go_iload i0_362 rfl ?_
    refine go_iconst (v := (1 : Int32)) i0_364 (by decide) ?_
    refine go_icmpF i0_365 (by decide) ?_
    refine go_aload i0_368 rfl ?_
    refine go_iconst (v := (0 : Int32)) i0_370 (by decide) ?_
    refine go_aload i0_371 rfl ?_
    refine go_virtual i0_373 (met8_0 hw K p00 p01 m00 m01 _ _ _ _ (by simp only [List.length_set, List.length_replicate]) (by simp only [own_4, List.length_set, List.length_replicate]) _ _ _ _ _ _ _ _ _ _ _ _ _ _ _) rfl (hw _ (List.mem_of_getElem? (i := 61) rfl)) (hw _ (List.mem_of_getElem? (i := 62) rfl)) (hw _ (List.mem_of_getElem? (i := 64) rfl)) (hw _ (List.mem_of_getElem? (i := 63) rfl)) (hw _ (List.mem_of_getElem? (i := 8) rfl)) (hw _ (List.mem_of_getElem? (i := 65) rfl)) rfl pd8 rfl rfl rfl (by first | decide | exact Nat.le_of_ble_eq_true rfl | (simp only [room_1]; omega)) (by first | decide | exact Nat.le_of_ble_eq_true rfl | (simp only [room_1]; omega)) (by first | decide | exact Nat.le_of_ble_eq_true rfl | (simp only [room_1]; omega)) (by first | decide | exact Nat.le_of_ble_eq_true rfl | (simp only [room_1]; omega)) (retV rfl ?_)
    refine go_iload i0_376 rfl ?_
    refine go_iconst (v := (2 : Int32)) i0_378 (by decide) ?_
    refine go_icmpF i0_379 (by decide) ?_
    refine go_aload i0_382 rfl ?_
    refine go_iconst (v := (1 : Int32)) i0_384 (by decide) ?_
    refine go_aload i0_385 rfl ?_
    refine go_virtual i0_387 (met8_1 hw K p10 p11 m10 m11 _ _ _ _ (by simp only [List.length_set, List.length_replicate]) (by simp only [own_4, List.length_set, List.length_replicate]) _ _ _ _ _ _ _ _ _ _ _ _ _ _ _) rfl (hw _ (List.mem_of_getElem? (i := 61) rfl)) (hw _ (List.mem_of_getElem? (i := 62) rfl)) (hw _ (List.mem_of_getElem? (i := 64) rfl)) (hw _ (List.mem_of_getElem? (i := 63) rfl)) (hw _ (List.mem_of_getElem? (i := 8) rfl)) (hw _ (List.mem_of_getElem? (i := 65) rfl)) rfl pd8 rfl rfl rfl (by first | decide | exact Nat.le_of_ble_eq_true rfl | (simp only [room_1]; omega)) (by first | decide | exact Nat.le_of_ble_eq_true rfl | (simp only [room_1]; omega)) (by first | decide | exact Nat.le_of_ble_eq_true rfl | (simp only [room_1]; omega)) (by first | decide | exact Nat.le_of_ble_eq_true rfl | (simp only [room_1]; omega)) (retV rfl ?_)
    refine go_iload i0_390 rfl ?_
    refine go_iconst (v := (3 : Int32)) i0_392 (by decide) ?_
    refine go_icmpT 404 i0_393 (by decide) (by decide) ?_
    exact g404 hw s0 s1 s2 s3 s4 s7 s14 s15 K 2 _ q0 q1 w0 w1 r0 r1 p00 m00 p01 m01 p10 m10 p11 m11 p20 m20 p21 m21 _ _ z0 z1 z2 y0 y1 y2 2 (by decide) (by decide) (by decide) hord b3 b4 c00 c01 c10 c11 c20 c21 (fun h => ⟨rfl, rfl, rfl, rfl⟩) (fun h => ⟨rfl, rfl, rfl, rfl⟩) (fun h => absurd h (by decide))
  · refine go_iload i0_362 rfl ?_
    refine go_iconst (v := (1 : Int32)) i0_364 (by decide) ?_
    refine go_icmpF i0_365 (by decide) ?_
    refine go_aload i0_368 rfl ?_
    refine go_iconst (v := (0 : Int32)) i0_370 (by decide) ?_
    refine go_aload i0_371 rfl ?_
    refine go_virtual i0_373 (met8_0 hw K p00 p01 m00 m01 _ _ _ _ (by simp only [List.length_set, List.length_replicate]) (by simp only [own_4, List.length_set, List.length_replicate]) _ _ _ _ _ _ _ _ _ _ _ _ _ _ _) rfl (hw _ (List.mem_of_getElem? (i := 61) rfl)) (hw _ (List.mem_of_getElem? (i := 62) rfl)) (hw _ (List.mem_of_getElem? (i := 64) rfl)) (hw _ (List.mem_of_getElem? (i := 63) rfl)) (hw _ (List.mem_of_getElem? (i := 8) rfl)) (hw _ (List.mem_of_getElem? (i := 65) rfl)) rfl pd8 rfl rfl rfl (by first | decide | exact Nat.le_of_ble_eq_true rfl | (simp only [room_1]; omega)) (by first | decide | exact Nat.le_of_ble_eq_true rfl | (simp only [room_1]; omega)) (by first | decide | exact Nat.le_of_ble_eq_true rfl | (simp only [room_1]; omega)) (by first | decide | exact Nat.le_of_ble_eq_true rfl | (simp only [room_1]; omega)) (retV rfl ?_)
    refine go_iload i0_376 rfl ?_
    refine go_iconst (v := (2 : Int32)) i0_378 (by decide) ?_
    refine go_icmpF i0_379 (by decide) ?_
    refine go_aload i0_382 rfl ?_
    refine go_iconst (v := (1 : Int32)) i0_384 (by decide) ?_
    refine go_aload i0_385 rfl ?_
    refine go_virtual i0_387 (met8_1 hw K p10 p11 m10 m11 _ _ _ _ (by simp only [List.length_set, List.length_replicate]) (by simp only [own_4, List.length_set, List.length_replicate]) _ _ _ _ _ _ _ _ _ _ _ _ _ _ _) rfl (hw _ (List.mem_of_getElem? (i := 61) rfl)) (hw _ (List.mem_of_getElem? (i := 62) rfl)) (hw _ (List.mem_of_getElem? (i := 64) rfl)) (hw _ (List.mem_of_getElem? (i := 63) rfl)) (hw _ (List.mem_of_getElem? (i := 8) rfl)) (hw _ (List.mem_of_getElem? (i := 65) rfl)) rfl pd8 rfl rfl rfl (by first | decide | exact Nat.le_of_ble_eq_true rfl | (simp only [room_1]; omega)) (by first | decide | exact Nat.le_of_ble_eq_true rfl | (simp only [room_1]; omega)) (by first | decide | exact Nat.le_of_ble_eq_true rfl | (simp only [room_1]; omega)) (by first | decide | exact Nat.le_of_ble_eq_true rfl | (simp only [room_1]; omega)) (retV rfl ?_)
    refine go_iload i0_390 rfl ?_
    refine go_iconst (v := (3 : Int32)) i0_392 (by decide) ?_
    refine go_icmpF i0_393 (by decide) ?_
    refine go_aload i0_396 rfl ?_
    refine go_iconst (v := (2 : Int32)) i0_398 (by decide) ?_
    refine go_aload i0_399 rfl ?_
    refine go_virtual i0_401 (met8_2 hw K p20 p21 m20 m21 _ _ _ _ (by simp only [List.length_set, List.length_replicate]) (by simp only [own_4, List.length_set, List.length_replicate]) _ _ _ _ _ _ _ _ _ _ _ _ _ _ _) rfl (hw _ (List.mem_of_getElem? (i := 61) rfl)) (hw _ (List.mem_of_getElem? (i := 62) rfl)) (hw _ (List.mem_of_getElem? (i := 64) rfl)) (hw _ (List.mem_of_getElem? (i := 63) rfl)) (hw _ (List.mem_of_getElem? (i := 8) rfl)) (hw _ (List.mem_of_getElem? (i := 65) rfl)) rfl pd8 rfl rfl rfl (by first | decide | exact Nat.le_of_ble_eq_true rfl | (simp only [room_1]; omega)) (by first | decide | exact Nat.le_of_ble_eq_true rfl | (simp only [room_1]; omega)) (by first | decide | exact Nat.le_of_ble_eq_true rfl | (simp only [room_1]; omega)) (by first | decide | exact Nat.le_of_ble_eq_true rfl | (simp only [room_1]; omega)) (retV rfl ?_)
    exact g404 hw s0 s1 s2 s3 s4 s7 s14 s15 K 3 _ q0 q1 w0 w1 r0 r1 p00 m00 p01 m01 p10 m10 p11 m11 p20 m20 p21 m21 _ _ z0 z1 z2 y0 y1 y2 3 (by decide) (by decide) (by decide) hord b3 b4 c00 c01 c10 c11 c20 c21 (fun h => ⟨rfl, rfl, rfl, rfl⟩) (fun h => ⟨rfl, rfl, rfl, rfl⟩) (fun h => ⟨rfl, rfl, rfl, rfl⟩)
theorem g309 (hw : ∀ d ∈ tables_1, d.before a0 Z = true) (s0 s1 s2 s3 s4 s7 s14 s15 : Slot) (K n q0 q1 w0 w1 r0 r1 p00 m00 p01 m01 p10 m10 p11 m11 p20 m20 p21 m21 : Int32) (hn : n = 0 ∨ n = 1 ∨ n = 2 ∨ n = 3) (hord : (r0 = 0 ∧ r1 = 1) ∨ (r0 = 1 ∧ r1 = 0)) (b3 : own_bd K q0 w0) (b4 : own_bd K q1 w1) (c00 : own_bd K p00 m00) (c01 : own_bd K p01 m01) (c10 : own_bd K p10 m10) (c11 : own_bd K p11 m11) (c20 : own_bd K p20 m20) (c21 : own_bd K p21 m21) : Go Z a0 n0 M0 room_1 own_P 309 (LL n0 s0 s1 s2 s3 s4 K n s7 s14 s15 [.unset, .unset, .unset, .unset, .unset, .unset, .unset, .unset, .unset, .unset]) [.ref (n0 + 8)] [.inr (.int, [.int p00, .int p01]), .inr (.int, [.int m00, .int m01]), .inr (.int, [.int p10, .int p11]), .inr (.int, [.int m10, .int m11]), .inr (.int, [.int p20, .int p21]), .inr (.int, [.int m20, .int m21]), .inr (.int, [.int q0, .int q1]), .inr (.int, [.int w0, .int w1]), .inr (.int, [.int r0, .int r1])] 9 18 := by
  refine go_astore18 i0_309 (by first | exact One.u | exact One.val rfl) ?_
  refine go_new (k := 9) KL i0_311 (hw _ (List.mem_of_getElem? (i := 6) rfl)) (hw _ (List.mem_of_getElem? (i := 7) rfl)) (hw _ (List.mem_of_getElem? (i := 8) rfl)) (KL_ok hw) rfl rfl (by decide) (by decide) ?_
  refine go_dup i0_314 rfl ?_
  refine go_iload i0_315 rfl ?_
  refine go_iconst (v := (2 : Int32)) i0_317 (by decide) ?_
  refine go_special i0_318 (met2 hw K _ _ _ _ _ _ _ _ _) (hw _ (List.mem_of_getElem? (i := 9) rfl)) (hw _ (List.mem_of_getElem? (i := 10) rfl)) (hw _ (List.mem_of_getElem? (i := 8) rfl)) (hw _ (List.mem_of_getElem? (i := 11) rfl)) rfl rfl rfl pd2 rfl rfl rfl (by first | decide | exact Nat.le_of_ble_eq_true rfl | (simp only [room_1]; omega)) (by first | decide | exact Nat.le_of_ble_eq_true rfl | (simp only [room_1]; omega)) (by first | decide | exact Nat.le_of_ble_eq_true rfl | (simp only [room_1]; omega)) (by first | decide | exact Nat.le_of_ble_eq_true rfl | (simp only [room_1]; omega)) (retV rfl ?_)
  refine go_astore19 i0_321 (by first | exact One.u | exact One.val rfl) ?_
  refine go_new (k := 12) KS i0_323 (hw _ (List.mem_of_getElem? (i := 25) rfl)) (hw _ (List.mem_of_getElem? (i := 26) rfl)) (hw _ (List.mem_of_getElem? (i := 27) rfl)) (KS_ok hw) rfl rfl (by decide) (by decide) ?_
  refine go_dup i0_326 rfl ?_
  refine go_aload i0_327 rfl ?_
  refine go_aload i0_329 rfl ?_
  refine go_special i0_331 (met4_0 hw p00 p01 m00 m01 c00.1 c01.1 c00.2.2.1 c01.2.2.1 _ _ _ _ _ _ _ _ _ _) (hw _ (List.mem_of_getElem? (i := 28) rfl)) (hw _ (List.mem_of_getElem? (i := 29) rfl)) (hw _ (List.mem_of_getElem? (i := 27) rfl)) (hw _ (List.mem_of_getElem? (i := 30) rfl)) rfl rfl rfl pd4 rfl rfl rfl (by first | decide | exact Nat.le_of_ble_eq_true rfl | (simp only [room_1]; omega)) (by first | decide | exact Nat.le_of_ble_eq_true rfl | (simp only [room_1]; omega)) (by first | decide | exact Nat.le_of_ble_eq_true rfl | (simp only [room_1]; omega)) (by first | decide | exact Nat.le_of_ble_eq_true rfl | (simp only [room_1]; omega)) ?_
  rintro _ _ ⟨rfl, z0, y0, rfl⟩
  refine ⟨rfl, ?_⟩
  refine go_astore20 i0_334 (by first | exact One.u | exact One.val rfl) ?_
  refine go_new (k := 15) KS i0_336 (hw _ (List.mem_of_getElem? (i := 25) rfl)) (hw _ (List.mem_of_getElem? (i := 26) rfl)) (hw _ (List.mem_of_getElem? (i := 27) rfl)) (KS_ok hw) rfl rfl (by decide) (by decide) ?_
  refine go_dup i0_339 rfl ?_
  refine go_aload i0_340 rfl ?_
  refine go_aload i0_342 rfl ?_
  refine go_special i0_344 (met4_1 hw p10 p11 m10 m11 c10.1 c11.1 c10.2.2.1 c11.2.2.1 _ _ _ _ _ _ _ _ _ _ _ _ _) (hw _ (List.mem_of_getElem? (i := 28) rfl)) (hw _ (List.mem_of_getElem? (i := 29) rfl)) (hw _ (List.mem_of_getElem? (i := 27) rfl)) (hw _ (List.mem_of_getElem? (i := 30) rfl)) rfl rfl rfl pd4 rfl rfl rfl (by first | decide | exact Nat.le_of_ble_eq_true rfl | (simp only [room_1]; omega)) (by first | decide | exact Nat.le_of_ble_eq_true rfl | (simp only [room_1]; omega)) (by first | decide | exact Nat.le_of_ble_eq_true rfl | (simp only [room_1]; omega)) (by first | decide | exact Nat.le_of_ble_eq_true rfl | (simp only [room_1]; omega)) ?_
  rintro _ _ ⟨rfl, z1, y1, rfl⟩
  refine ⟨rfl, ?_⟩
  refine go_astore21 i0_347 (by first | exact One.u | exact One.val rfl) ?_
  refine go_new (k := 18) KS i0_349 (hw _ (List.mem_of_getElem? (i := 25) rfl)) (hw _ (List.mem_of_getElem? (i := 26) rfl)) (hw _ (List.mem_of_getElem? (i := 27) rfl)) (KS_ok hw) rfl rfl (by decide) (by decide) ?_
  refine go_dup i0_352 rfl ?_
  refine go_aload i0_353 rfl ?_
  refine go_aload i0_355 rfl ?_
  refine go_special i0_357 (met4_2 hw p20 p21 m20 m21 c20.1 c21.1 c20.2.2.1 c21.2.2.1 _ _ _ _ _ _ _ _ _ _ _ _ _ _ _ _) (hw _ (List.mem_of_getElem? (i := 28) rfl)) (hw _ (List.mem_of_getElem? (i := 29) rfl)) (hw _ (List.mem_of_getElem? (i := 27) rfl)) (hw _ (List.mem_of_getElem? (i := 30) rfl)) rfl rfl rfl pd4 rfl rfl rfl (by first | decide | exact Nat.le_of_ble_eq_true rfl | (simp only [room_1]; omega)) (by first | decide | exact Nat.le_of_ble_eq_true rfl | (simp only [room_1]; omega)) (by first | decide | exact Nat.le_of_ble_eq_true rfl | (simp only [room_1]; omega)) (by first | decide | exact Nat.le_of_ble_eq_true rfl | (simp only [room_1]; omega)) ?_
  rintro _ _ ⟨rfl, z2, y2, rfl⟩
  refine ⟨rfl, ?_⟩
  refine go_astore22 i0_360 (by first | exact One.u | exact One.val rfl) ?_
  exact g362 hw s0 s1 s2 s3 s4 s7 s14 s15 K n q0 q1 w0 w1 r0 r1 p00 m00 p01 m01 p10 m10 p11 m11 p20 m20 p21 m21 z0 z1 z2 y0 y1 y2 hn hord b3 b4 c00 c01 c10 c11 c20 c21
theorem own_rb {r K : Int32} (h : 0 ≤ r.toInt) (hK : 1 ≤ K.toInt) : 0 ≤ (r % K).toInt ∧ (r % K).toInt < K.toInt := by
  have := (c_iremV r K).1 h (by omega)
  exact ⟨this.1, this.2.1⟩
theorem own_bb {x r K : Int32} (hx : 0 ≤ x.toInt) (h : 0 ≤ r.toInt) (hK : 1 ≤ K.toInt) (hK' : K.toInt ≤ 16) : own_bd K (x % K) (1 + r % K) := by
  have h1 := own_rb hx hK
  have h2 := own_rb h hK
  have o1 : (1 : Int32).toInt = 1 := by decide
  have h3 := own_add 1 (r % K) (by omega) (by omega) (by omega) (by omega)
  rw [o1] at h3
  exact ⟨by omega, by omega, by omega, by omega, by omega⟩
theorem g24 (hw : ∀ d ∈ tables_1, d.before a0 Z = true) (a b c : Int32) (j : Int64) (K n f : Int32) (hK : 1 ≤ K.toInt) (hK' : K.toInt ≤ 16) (hn : n = 0 ∨ n = 1 ∨ n = 2 ∨ n = 3) (hf : f = 0 ∨ f = 1) : Go Z a0 n0 M0 room_1 own_P 24 ([.val (.int a), .val (.int b), .val (.long j), .second, .val (.int c), .val (.int K), .val (.int n)] ++ [.unset, .unset, .unset, .unset, .unset, .unset, .unset, .unset, .unset, .unset, .unset, .unset, .unset, .unset, .unset, .unset, .unset, .unset, .unset, .unset, .unset]) [.int f] [] 0 0 := by
  have hK0 : K ≠ 0 := by rintro rfl; revert hK; decide
  refine go_istore7 i0_24 (by first | exact One.u | exact One.val rfl) ?_
  refine go_iconst (v := (2 : Int32)) i0_26 (by decide) ?_
  refine go_newarray (k := 0) 2 i0_27 rfl (hw _ (List.mem_of_getElem? (i := 0) rfl)) (by decide) rfl (by decide) (by decide) rfl (by first | decide | exact Nat.le_of_ble_eq_true rfl | (simp only [room_1]; omega)) (by first | decide | exact Nat.le_of_ble_eq_true rfl | (simp only [room_1]; omega)) ?_
  refine go_dup i0_29 rfl ?_
  refine go_iconst (v := (0 : Int32)) i0_30 (by decide) ?_
  refine go_lloadN i0_31 rfl ?_
  refine go_iconst (v := (0 : Int32)) i0_32 (by decide) ?_
  refine go_static i0_33 (met1 hw _ _ _) (hw _ (List.mem_of_getElem? (i := 1) rfl)) (hw _ (List.mem_of_getElem? (i := 2) rfl)) (hw _ (List.mem_of_getElem? (i := 3) rfl)) (hw _ (List.mem_of_getElem? (i := 4) rfl)) rfl pd1 rfl rfl rfl (by first | decide | exact Nat.le_of_ble_eq_true rfl | (simp only [room_1]; omega)) (by first | decide | exact Nat.le_of_ble_eq_true rfl | (simp only [room_1]; omega)) (by first | decide | exact Nat.le_of_ble_eq_true rfl | (simp only [room_1]; omega)) (by first | decide | exact Nat.le_of_ble_eq_true rfl | (simp only [room_1]; omega)) ?_
  rintro _ _ ⟨⟨u0, l0, -, rfl⟩, rfl⟩
  refine ⟨rfl, ?_⟩
  refine go_iload i0_36 rfl ?_
  refine go_irem i0_38 (by exact hK0) ?_
  refine go_iastore i0_39 rfl (i := 0) (by decide) rfl ?_
  refine go_dup i0_40 rfl ?_
  refine go_iconst (v := (1 : Int32)) i0_41 (by decide) ?_
  refine go_lloadN i0_42 rfl ?_
  refine go_iconst (v := (4 : Int32)) i0_43 (by decide) ?_
  refine go_static i0_44 (met1 hw _ _ _) (hw _ (List.mem_of_getElem? (i := 1) rfl)) (hw _ (List.mem_of_getElem? (i := 2) rfl)) (hw _ (List.mem_of_getElem? (i := 3) rfl)) (hw _ (List.mem_of_getElem? (i := 4) rfl)) rfl pd1 rfl rfl rfl (by first | decide | exact Nat.le_of_ble_eq_true rfl | (simp only [room_1]; omega)) (by first | decide | exact Nat.le_of_ble_eq_true rfl | (simp only [room_1]; omega)) (by first | decide | exact Nat.le_of_ble_eq_true rfl | (simp only [room_1]; omega)) (by first | decide | exact Nat.le_of_ble_eq_true rfl | (simp only [room_1]; omega)) ?_
  rintro _ _ ⟨⟨u1, l1, -, rfl⟩, rfl⟩
  refine ⟨rfl, ?_⟩
  refine go_iload i0_47 rfl ?_
  refine go_irem i0_49 (by exact hK0) ?_
  refine go_iastore i0_50 rfl (i := 1) (by decide) rfl ?_
  change Go Z a0 n0 M0 room_1 own_P 51 _ _ [.inr (.int, [.int (u0 % K), .int (u1 % K)])] 1 2
  refine go_astore8 i0_51 (by first | exact One.u | exact One.val rfl) ?_
  refine go_iconst (v := (2 : Int32)) i0_53 (by decide) ?_
  refine go_newarray (k := 1) 2 i0_54 rfl (hw _ (List.mem_of_getElem? (i := 0) rfl)) (by decide) rfl (by decide) (by decide) rfl (by first | decide | exact Nat.le_of_ble_eq_true rfl | (simp only [room_1]; omega)) (by first | decide | exact Nat.le_of_ble_eq_true rfl | (simp only [room_1]; omega)) ?_
  refine go_dup i0_56 rfl ?_
  refine go_iconst (v := (0 : Int32)) i0_57 (by decide) ?_
  refine go_iconst (v := (1 : Int32)) i0_58 (by decide) ?_
  refine go_lloadN i0_59 rfl ?_
  refine go_bipush (v := (8 : Int32)) i0_60 (by decide) ?_
  refine go_static i0_62 (met1 hw _ _ _) (hw _ (List.mem_of_getElem? (i := 1) rfl)) (hw _ (List.mem_of_getElem? (i := 2) rfl)) (hw _ (List.mem_of_getElem? (i := 3) rfl)) (hw _ (List.mem_of_getElem? (i := 4) rfl)) rfl pd1 rfl rfl rfl (by first | decide | exact Nat.le_of_ble_eq_true rfl | (simp only [room_1]; omega)) (by first | decide | exact Nat.le_of_ble_eq_true rfl | (simp only [room_1]; omega)) (by first | decide | exact Nat.le_of_ble_eq_true rfl | (simp only [room_1]; omega)) (by first | decide | exact Nat.le_of_ble_eq_true rfl | (simp only [room_1]; omega)) ?_
  rintro _ _ ⟨⟨u2, l2, -, rfl⟩, rfl⟩
  refine ⟨rfl, ?_⟩
  refine go_iload i0_65 rfl ?_
  refine go_irem i0_67 (by exact hK0) ?_
  refine go_iadd i0_68 ?_
  refine go_iastore i0_69 rfl (i := 0) (by decide) rfl ?_
  refine go_dup i0_70 rfl ?_
  refine go_iconst (v := (1 : Int32)) i0_71 (by decide) ?_
  refine go_iconst (v := (1 : Int32)) i0_72 (by decide) ?_
  refine go_lloadN i0_73 rfl ?_
  refine go_bipush (v := (12 : Int32)) i0_74 (by decide) ?_
  refine go_static i0_76 (met1 hw _ _ _) (hw _ (List.mem_of_getElem? (i := 1) rfl)) (hw _ (List.mem_of_getElem? (i := 2) rfl)) (hw _ (List.mem_of_getElem? (i := 3) rfl)) (hw _ (List.mem_of_getElem? (i := 4) rfl)) rfl pd1 rfl rfl rfl (by first | decide | exact Nat.le_of_ble_eq_true rfl | (simp only [room_1]; omega)) (by first | decide | exact Nat.le_of_ble_eq_true rfl | (simp only [room_1]; omega)) (by first | decide | exact Nat.le_of_ble_eq_true rfl | (simp only [room_1]; omega)) (by first | decide | exact Nat.le_of_ble_eq_true rfl | (simp only [room_1]; omega)) ?_
  rintro _ _ ⟨⟨u3, l3, -, rfl⟩, rfl⟩
  refine ⟨rfl, ?_⟩
  refine go_iload i0_79 rfl ?_
  refine go_irem i0_81 (by exact hK0) ?_
  refine go_iadd i0_82 ?_
  refine go_iastore i0_83 rfl (i := 1) (by decide) rfl ?_
  change Go Z a0 n0 M0 room_1 own_P 84 _ _ [.inr (.int, [.int (u0 % K), .int (u1 % K)]), .inr (.int, [.int (1 + u2 % K), .int (1 + u3 % K)])] 2 4
  refine go_astore9 i0_84 (by first | exact One.u | exact One.val rfl) ?_
  refine go_iconst (v := (2 : Int32)) i0_86 (by decide) ?_
  refine go_newarray (k := 2) 2 i0_87 rfl (hw _ (List.mem_of_getElem? (i := 0) rfl)) (by decide) rfl (by decide) (by decide) rfl (by first | decide | exact Nat.le_of_ble_eq_true rfl | (simp only [room_1]; omega)) (by first | decide | exact Nat.le_of_ble_eq_true rfl | (simp only [room_1]; omega)) ?_
  refine go_dup i0_89 rfl ?_
  refine go_iconst (v := (0 : Int32)) i0_90 (by decide) ?_
  refine go_lloadN i0_91 rfl ?_
  refine go_bipush (v := (16 : Int32)) i0_92 (by decide) ?_
  refine go_static i0_94 (met1 hw _ _ _) (hw _ (List.mem_of_getElem? (i := 1) rfl)) (hw _ (List.mem_of_getElem? (i := 2) rfl)) (hw _ (List.mem_of_getElem? (i := 3) rfl)) (hw _ (List.mem_of_getElem? (i := 4) rfl)) rfl pd1 rfl rfl rfl (by first | decide | exact Nat.le_of_ble_eq_true rfl | (simp only [room_1]; omega)) (by first | decide | exact Nat.le_of_ble_eq_true rfl | (simp only [room_1]; omega)) (by first | decide | exact Nat.le_of_ble_eq_true rfl | (simp only [room_1]; omega)) (by first | decide | exact Nat.le_of_ble_eq_true rfl | (simp only [room_1]; omega)) ?_
  rintro _ _ ⟨⟨u4, l4, -, rfl⟩, rfl⟩
  refine ⟨rfl, ?_⟩
  refine go_iload i0_97 rfl ?_
  refine go_irem i0_99 (by exact hK0) ?_
  refine go_iastore i0_100 rfl (i := 0) (by decide) rfl ?_
  refine go_dup i0_101 rfl ?_
  refine go_iconst (v := (1 : Int32)) i0_102 (by decide) ?_
  refine go_lloadN i0_103 rfl ?_
  refine go_bipush (v := (20 : Int32)) i0_104 (by decide) ?_
  refine go_static i0_106 (met1 hw _ _ _) (hw _ (List.mem_of_getElem? (i := 1) rfl)) (hw _ (List.mem_of_getElem? (i := 2) rfl)) (hw _ (List.mem_of_getElem? (i := 3) rfl)) (hw _ (List.mem_of_getElem? (i := 4) rfl)) rfl pd1 rfl rfl rfl (by first | decide | exact Nat.le_of_ble_eq_true rfl | (simp only [room_1]; omega)) (by first | decide | exact Nat.le_of_ble_eq_true rfl | (simp only [room_1]; omega)) (by first | decide | exact Nat.le_of_ble_eq_true rfl | (simp only [room_1]; omega)) (by first | decide | exact Nat.le_of_ble_eq_true rfl | (simp only [room_1]; omega)) ?_
  rintro _ _ ⟨⟨u5, l5, -, rfl⟩, rfl⟩
  refine ⟨rfl, ?_⟩
  refine go_iload i0_109 rfl ?_
  refine go_irem i0_111 (by exact hK0) ?_
  refine go_iastore i0_112 rfl (i := 1) (by decide) rfl ?_
  change Go Z a0 n0 M0 room_1 own_P 113 _ _ [.inr (.int, [.int (u0 % K), .int (u1 % K)]), .inr (.int, [.int (1 + u2 % K), .int (1 + u3 % K)]), .inr (.int, [.int (u4 % K), .int (u5 % K)])] 3 6
  refine go_astore10 i0_113 (by first | exact One.u | exact One.val rfl) ?_
  refine go_iconst (v := (2 : Int32)) i0_115 (by decide) ?_
  refine go_newarray (k := 3) 2 i0_116 rfl (hw _ (List.mem_of_getElem? (i := 0) rfl)) (by decide) rfl (by decide) (by decide) rfl (by first | decide | exact Nat.le_of_ble_eq_true rfl | (simp only [room_1]; omega)) (by first | decide | exact Nat.le_of_ble_eq_true rfl | (simp only [room_1]; omega)) ?_
  refine go_dup i0_118 rfl ?_
  refine go_iconst (v := (0 : Int32)) i0_119 (by decide) ?_
  refine go_iconst (v := (1 : Int32)) i0_120 (by decide) ?_
  refine go_lloadN i0_121 rfl ?_
  refine go_bipush (v := (24 : Int32)) i0_122 (by decide) ?_
  refine go_static i0_124 (met1 hw _ _ _) (hw _ (List.mem_of_getElem? (i := 1) rfl)) (hw _ (List.mem_of_getElem? (i := 2) rfl)) (hw _ (List.mem_of_getElem? (i := 3) rfl)) (hw _ (List.mem_of_getElem? (i := 4) rfl)) rfl pd1 rfl rfl rfl (by first | decide | exact Nat.le_of_ble_eq_true rfl | (simp only [room_1]; omega)) (by first | decide | exact Nat.le_of_ble_eq_true rfl | (simp only [room_1]; omega)) (by first | decide | exact Nat.le_of_ble_eq_true rfl | (simp only [room_1]; omega)) (by first | decide | exact Nat.le_of_ble_eq_true rfl | (simp only [room_1]; omega)) ?_
  rintro _ _ ⟨⟨u6, l6, -, rfl⟩, rfl⟩
  refine ⟨rfl, ?_⟩
  refine go_iload i0_127 rfl ?_
  refine go_irem i0_129 (by exact hK0) ?_
  refine go_iadd i0_130 ?_
  refine go_iastore i0_131 rfl (i := 0) (by decide) rfl ?_
  refine go_dup i0_132 rfl ?_
  refine go_iconst (v := (1 : Int32)) i0_133 (by decide) ?_
  refine go_iconst (v := (1 : Int32)) i0_134 (by decide) ?_
  refine go_lloadN i0_135 rfl ?_
  refine go_bipush (v := (28 : Int32)) i0_136 (by decide) ?_
  refine go_static i0_138 (met1 hw _ _ _) (hw _ (List.mem_of_getElem? (i := 1) rfl)) (hw _ (List.mem_of_getElem? (i := 2) rfl)) (hw _ (List.mem_of_getElem? (i := 3) rfl)) (hw _ (List.mem_of_getElem? (i := 4) rfl)) rfl pd1 rfl rfl rfl (by first | decide | exact Nat.le_of_ble_eq_true rfl | (simp only [room_1]; omega)) (by first | decide | exact Nat.le_of_ble_eq_true rfl | (simp only [room_1]; omega)) (by first | decide | exact Nat.le_of_ble_eq_true rfl | (simp only [room_1]; omega)) (by first | decide | exact Nat.le_of_ble_eq_true rfl | (simp only [room_1]; omega)) ?_
  rintro _ _ ⟨⟨u7, l7, -, rfl⟩, rfl⟩
  refine ⟨rfl, ?_⟩
  refine go_iload i0_141 rfl ?_
  refine go_irem i0_143 (by exact hK0) ?_
  refine go_iadd i0_144 ?_
  refine go_iastore i0_145 rfl (i := 1) (by decide) rfl ?_
  change Go Z a0 n0 M0 room_1 own_P 146 _ _ [.inr (.int, [.int (u0 % K), .int (u1 % K)]), .inr (.int, [.int (1 + u2 % K), .int (1 + u3 % K)]), .inr (.int, [.int (u4 % K), .int (u5 % K)]), .inr (.int, [.int (1 + u6 % K), .int (1 + u7 % K)])] 4 8
  refine go_astore11 i0_146 (by first | exact One.u | exact One.val rfl) ?_
  refine go_iconst (v := (2 : Int32)) i0_148 (by decide) ?_
  refine go_newarray (k := 4) 2 i0_149 rfl (hw _ (List.mem_of_getElem? (i := 0) rfl)) (by decide) rfl (by decide) (by decide) rfl (by first | decide | exact Nat.le_of_ble_eq_true rfl | (simp only [room_1]; omega)) (by first | decide | exact Nat.le_of_ble_eq_true rfl | (simp only [room_1]; omega)) ?_
  refine go_dup i0_151 rfl ?_
  refine go_iconst (v := (0 : Int32)) i0_152 (by decide) ?_
  refine go_lloadN i0_153 rfl ?_
  refine go_bipush (v := (32 : Int32)) i0_154 (by decide) ?_
  refine go_static i0_156 (met1 hw _ _ _) (hw _ (List.mem_of_getElem? (i := 1) rfl)) (hw _ (List.mem_of_getElem? (i := 2) rfl)) (hw _ (List.mem_of_getElem? (i := 3) rfl)) (hw _ (List.mem_of_getElem? (i := 4) rfl)) rfl pd1 rfl rfl rfl (by first | decide | exact Nat.le_of_ble_eq_true rfl | (simp only [room_1]; omega)) (by first | decide | exact Nat.le_of_ble_eq_true rfl | (simp only [room_1]; omega)) (by first | decide | exact Nat.le_of_ble_eq_true rfl | (simp only [room_1]; omega)) (by first | decide | exact Nat.le_of_ble_eq_true rfl | (simp only [room_1]; omega)) ?_
  rintro _ _ ⟨⟨u8, l8, -, rfl⟩, rfl⟩
  refine ⟨rfl, ?_⟩
  refine go_iload i0_159 rfl ?_
  refine go_irem i0_161 (by exact hK0) ?_
  refine go_iastore i0_162 rfl (i := 0) (by decide) rfl ?_
  refine go_dup i0_163 rfl ?_
  refine go_iconst (v := (1 : Int32)) i0_164 (by decide) ?_
  refine go_lloadN i0_165 rfl ?_
  refine go_bipush (v := (36 : Int32)) i0_166 (by decide) ?_
  refine go_static i0_168 (met1 hw _ _ _) (hw _ (List.mem_of_getElem? (i := 1) rfl)) (hw _ (List.mem_of_getElem? (i := 2) rfl)) (hw _ (List.mem_of_getElem? (i := 3) rfl)) (hw _ (List.mem_of_getElem? (i := 4) rfl)) rfl pd1 rfl rfl rfl (by first | decide | exact Nat.le_of_ble_eq_true rfl | (simp only [room_1]; omega)) (by first | decide | exact Nat.le_of_ble_eq_true rfl | (simp only [room_1]; omega)) (by first | decide | exact Nat.le_of_ble_eq_true rfl | (simp only [room_1]; omega)) (by first | decide | exact Nat.le_of_ble_eq_true rfl | (simp only [room_1]; omega)) ?_
  rintro _ _ ⟨⟨u9, l9, -, rfl⟩, rfl⟩
  refine ⟨rfl, ?_⟩
  refine go_iload i0_171 rfl ?_
  refine go_irem i0_173 (by exact hK0) ?_
  refine go_iastore i0_174 rfl (i := 1) (by decide) rfl ?_
  change Go Z a0 n0 M0 room_1 own_P 175 _ _ [.inr (.int, [.int (u0 % K), .int (u1 % K)]), .inr (.int, [.int (1 + u2 % K), .int (1 + u3 % K)]), .inr (.int, [.int (u4 % K), .int (u5 % K)]), .inr (.int, [.int (1 + u6 % K), .int (1 + u7 % K)]), .inr (.int, [.int (u8 % K), .int (u9 % K)])] 5 10
  refine go_astore12 i0_175 (by first | exact One.u | exact One.val rfl) ?_
  refine go_iconst (v := (2 : Int32)) i0_177 (by decide) ?_
  refine go_newarray (k := 5) 2 i0_178 rfl (hw _ (List.mem_of_getElem? (i := 0) rfl)) (by decide) rfl (by decide) (by decide) rfl (by first | decide | exact Nat.le_of_ble_eq_true rfl | (simp only [room_1]; omega)) (by first | decide | exact Nat.le_of_ble_eq_true rfl | (simp only [room_1]; omega)) ?_
  refine go_dup i0_180 rfl ?_
  refine go_iconst (v := (0 : Int32)) i0_181 (by decide) ?_
  refine go_iconst (v := (1 : Int32)) i0_182 (by decide) ?_
  refine go_lloadN i0_183 rfl ?_
  refine go_bipush (v := (40 : Int32)) i0_184 (by decide) ?_
  refine go_static i0_186 (met1 hw _ _ _) (hw _ (List.mem_of_getElem? (i := 1) rfl)) (hw _ (List.mem_of_getElem? (i := 2) rfl)) (hw _ (List.mem_of_getElem? (i := 3) rfl)) (hw _ (List.mem_of_getElem? (i := 4) rfl)) rfl pd1 rfl rfl rfl (by first | decide | exact Nat.le_of_ble_eq_true rfl | (simp only [room_1]; omega)) (by first | decide | exact Nat.le_of_ble_eq_true rfl | (simp only [room_1]; omega)) (by first | decide | exact Nat.le_of_ble_eq_true rfl | (simp only [room_1]; omega)) (by first | decide | exact Nat.le_of_ble_eq_true rfl | (simp only [room_1]; omega)) ?_
  rintro _ _ ⟨⟨u10, l10, -, rfl⟩, rfl⟩
  refine ⟨rfl, ?_⟩
  refine go_iload i0_189 rfl ?_
  refine go_irem i0_191 (by exact hK0) ?_
  refine go_iadd i0_192 ?_
  refine go_iastore i0_193 rfl (i := 0) (by decide) rfl ?_
  refine go_dup i0_194 rfl ?_
  refine go_iconst (v := (1 : Int32)) i0_195 (by decide) ?_
  refine go_iconst (v := (1 : Int32)) i0_196 (by decide) ?_
  refine go_lloadN i0_197 rfl ?_
  refine go_bipush (v := (44 : Int32)) i0_198 (by decide) ?_
  refine go_static i0_200 (met1 hw _ _ _) (hw _ (List.mem_of_getElem? (i := 1) rfl)) (hw _ (List.mem_of_getElem? (i := 2) rfl)) (hw _ (List.mem_of_getElem? (i := 3) rfl)) (hw _ (List.mem_of_getElem? (i := 4) rfl)) rfl pd1 rfl rfl rfl (by first | decide | exact Nat.le_of_ble_eq_true rfl | (simp only [room_1]; omega)) (by first | decide | exact Nat.le_of_ble_eq_true rfl | (simp only [room_1]; omega)) (by first | decide | exact Nat.le_of_ble_eq_true rfl | (simp only [room_1]; omega)) (by first | decide | exact Nat.le_of_ble_eq_true rfl | (simp only [room_1]; omega)) ?_
  rintro _ _ ⟨⟨u11, l11, -, rfl⟩, rfl⟩
  refine ⟨rfl, ?_⟩
  refine go_iload i0_203 rfl ?_
  refine go_irem i0_205 (by exact hK0) ?_
  refine go_iadd i0_206 ?_
  refine go_iastore i0_207 rfl (i := 1) (by decide) rfl ?_
  change Go Z a0 n0 M0 room_1 own_P 208 _ _ [.inr (.int, [.int (u0 % K), .int (u1 % K)]), .inr (.int, [.int (1 + u2 % K), .int (1 + u3 % K)]), .inr (.int, [.int (u4 % K), .int (u5 % K)]), .inr (.int, [.int (1 + u6 % K), .int (1 + u7 % K)]), .inr (.int, [.int (u8 % K), .int (u9 % K)]), .inr (.int, [.int (1 + u10 % K), .int (1 + u11 % K)])] 6 12
  refine go_astore13 i0_208 (by first | exact One.u | exact One.val rfl) ?_
  refine go_iload i0_210 rfl ?_
  refine go_i2l i0_212 ?_
  refine go_lstore14 i0_213 (by first | exact Or.inl ⟨One.u, One.u⟩ | exact Or.inr ⟨_, rfl, rfl⟩ | exact Or.inl ⟨One.val rfl, One.u⟩ | exact Or.inl ⟨One.u, One.val rfl⟩ | exact Or.inl ⟨One.val rfl, One.val rfl⟩) ?_
  refine go_iconst (v := (2 : Int32)) i0_215 (by decide) ?_
  refine go_newarray (k := 6) 2 i0_216 rfl (hw _ (List.mem_of_getElem? (i := 0) rfl)) (by decide) rfl (by decide) (by decide) rfl (by first | decide | exact Nat.le_of_ble_eq_true rfl | (simp only [room_1]; omega)) (by first | decide | exact Nat.le_of_ble_eq_true rfl | (simp only [room_1]; omega)) ?_
  refine go_dup i0_218 rfl ?_
  refine go_iconst (v := (0 : Int32)) i0_219 (by decide) ?_
  refine go_lload i0_220 rfl ?_
  refine go_iconst (v := (0 : Int32)) i0_222 (by decide) ?_
  refine go_static i0_223 (met1 hw _ _ _) (hw _ (List.mem_of_getElem? (i := 1) rfl)) (hw _ (List.mem_of_getElem? (i := 2) rfl)) (hw _ (List.mem_of_getElem? (i := 3) rfl)) (hw _ (List.mem_of_getElem? (i := 4) rfl)) rfl pd1 rfl rfl rfl (by first | decide | exact Nat.le_of_ble_eq_true rfl | (simp only [room_1]; omega)) (by first | decide | exact Nat.le_of_ble_eq_true rfl | (simp only [room_1]; omega)) (by first | decide | exact Nat.le_of_ble_eq_true rfl | (simp only [room_1]; omega)) (by first | decide | exact Nat.le_of_ble_eq_true rfl | (simp only [room_1]; omega)) ?_
  rintro _ _ ⟨⟨u12, l12, -, rfl⟩, rfl⟩
  refine ⟨rfl, ?_⟩
  refine go_iload i0_226 rfl ?_
  refine go_irem i0_228 (by exact hK0) ?_
  refine go_iastore i0_229 rfl (i := 0) (by decide) rfl ?_
  refine go_dup i0_230 rfl ?_
  refine go_iconst (v := (1 : Int32)) i0_231 (by decide) ?_
  refine go_lload i0_232 rfl ?_
  refine go_iconst (v := (4 : Int32)) i0_234 (by decide) ?_
  refine go_static i0_235 (met1 hw _ _ _) (hw _ (List.mem_of_getElem? (i := 1) rfl)) (hw _ (List.mem_of_getElem? (i := 2) rfl)) (hw _ (List.mem_of_getElem? (i := 3) rfl)) (hw _ (List.mem_of_getElem? (i := 4) rfl)) rfl pd1 rfl rfl rfl (by first | decide | exact Nat.le_of_ble_eq_true rfl | (simp only [room_1]; omega)) (by first | decide | exact Nat.le_of_ble_eq_true rfl | (simp only [room_1]; omega)) (by first | decide | exact Nat.le_of_ble_eq_true rfl | (simp only [room_1]; omega)) (by first | decide | exact Nat.le_of_ble_eq_true rfl | (simp only [room_1]; omega)) ?_
  rintro _ _ ⟨⟨u13, l13, -, rfl⟩, rfl⟩
  refine ⟨rfl, ?_⟩
  refine go_iload i0_238 rfl ?_
  refine go_irem i0_240 (by exact hK0) ?_
  refine go_iastore i0_241 rfl (i := 1) (by decide) rfl ?_
  change Go Z a0 n0 M0 room_1 own_P 242 _ _ [.inr (.int, [.int (u0 % K), .int (u1 % K)]), .inr (.int, [.int (1 + u2 % K), .int (1 + u3 % K)]), .inr (.int, [.int (u4 % K), .int (u5 % K)]), .inr (.int, [.int (1 + u6 % K), .int (1 + u7 % K)]), .inr (.int, [.int (u8 % K), .int (u9 % K)]), .inr (.int, [.int (1 + u10 % K), .int (1 + u11 % K)]), .inr (.int, [.int (u12 % K), .int (u13 % K)])] 7 14
  refine go_astore16 i0_242 (by first | exact One.u | exact One.val rfl) ?_
  refine go_iconst (v := (2 : Int32)) i0_244 (by decide) ?_
  refine go_newarray (k := 7) 2 i0_245 rfl (hw _ (List.mem_of_getElem? (i := 0) rfl)) (by decide) rfl (by decide) (by decide) rfl (by first | decide | exact Nat.le_of_ble_eq_true rfl | (simp only [room_1]; omega)) (by first | decide | exact Nat.le_of_ble_eq_true rfl | (simp only [room_1]; omega)) ?_
  refine go_dup i0_247 rfl ?_
  refine go_iconst (v := (0 : Int32)) i0_248 (by decide) ?_
  refine go_iconst (v := (1 : Int32)) i0_249 (by decide) ?_
  refine go_lload i0_250 rfl ?_
  refine go_bipush (v := (8 : Int32)) i0_252 (by decide) ?_
  refine go_static i0_254 (met1 hw _ _ _) (hw _ (List.mem_of_getElem? (i := 1) rfl)) (hw _ (List.mem_of_getElem? (i := 2) rfl)) (hw _ (List.mem_of_getElem? (i := 3) rfl)) (hw _ (List.mem_of_getElem? (i := 4) rfl)) rfl pd1 rfl rfl rfl (by first | decide | exact Nat.le_of_ble_eq_true rfl | (simp only [room_1]; omega)) (by first | decide | exact Nat.le_of_ble_eq_true rfl | (simp only [room_1]; omega)) (by first | decide | exact Nat.le_of_ble_eq_true rfl | (simp only [room_1]; omega)) (by first | decide | exact Nat.le_of_ble_eq_true rfl | (simp only [room_1]; omega)) ?_
  rintro _ _ ⟨⟨u14, l14, -, rfl⟩, rfl⟩
  refine ⟨rfl, ?_⟩
  refine go_iload i0_257 rfl ?_
  refine go_irem i0_259 (by exact hK0) ?_
  refine go_iadd i0_260 ?_
  refine go_iastore i0_261 rfl (i := 0) (by decide) rfl ?_
  refine go_dup i0_262 rfl ?_
  refine go_iconst (v := (1 : Int32)) i0_263 (by decide) ?_
  refine go_iconst (v := (1 : Int32)) i0_264 (by decide) ?_
  refine go_lload i0_265 rfl ?_
  refine go_bipush (v := (12 : Int32)) i0_267 (by decide) ?_
  refine go_static i0_269 (met1 hw _ _ _) (hw _ (List.mem_of_getElem? (i := 1) rfl)) (hw _ (List.mem_of_getElem? (i := 2) rfl)) (hw _ (List.mem_of_getElem? (i := 3) rfl)) (hw _ (List.mem_of_getElem? (i := 4) rfl)) rfl pd1 rfl rfl rfl (by first | decide | exact Nat.le_of_ble_eq_true rfl | (simp only [room_1]; omega)) (by first | decide | exact Nat.le_of_ble_eq_true rfl | (simp only [room_1]; omega)) (by first | decide | exact Nat.le_of_ble_eq_true rfl | (simp only [room_1]; omega)) (by first | decide | exact Nat.le_of_ble_eq_true rfl | (simp only [room_1]; omega)) ?_
  rintro _ _ ⟨⟨u15, l15, -, rfl⟩, rfl⟩
  refine ⟨rfl, ?_⟩
  refine go_iload i0_272 rfl ?_
  refine go_irem i0_274 (by exact hK0) ?_
  refine go_iadd i0_275 ?_
  refine go_iastore i0_276 rfl (i := 1) (by decide) rfl ?_
  change Go Z a0 n0 M0 room_1 own_P 277 _ _ [.inr (.int, [.int (u0 % K), .int (u1 % K)]), .inr (.int, [.int (1 + u2 % K), .int (1 + u3 % K)]), .inr (.int, [.int (u4 % K), .int (u5 % K)]), .inr (.int, [.int (1 + u6 % K), .int (1 + u7 % K)]), .inr (.int, [.int (u8 % K), .int (u9 % K)]), .inr (.int, [.int (1 + u10 % K), .int (1 + u11 % K)]), .inr (.int, [.int (u12 % K), .int (u13 % K)]), .inr (.int, [.int (1 + u14 % K), .int (1 + u15 % K)])] 8 16
  refine go_astore17 i0_277 (by first | exact One.u | exact One.val rfl) ?_
  refine go_iload i0_279 rfl ?_
  rcases hf with rfl | rfl
  · refine go_ifT 298 i0_281 (by decide) (by decide) ?_
    refine go_iconst (v := (2 : Int32)) i0_298 (by decide) ?_
    refine go_newarray (k := 8) 2 i0_299 rfl (hw _ (List.mem_of_getElem? (i := 0) rfl)) (by decide) rfl (by decide) (by decide) rfl (by first | decide | exact Nat.le_of_ble_eq_true rfl | (simp only [room_1]; omega)) (by first | decide | exact Nat.le_of_ble_eq_true rfl | (simp only [room_1]; omega)) ?_
    refine go_dup i0_301 rfl ?_
    refine go_iconst (v := (0 : Int32)) i0_302 (by decide) ?_
    refine go_iconst (v := (0 : Int32)) i0_303 (by decide) ?_
    refine go_iastore i0_304 rfl (i := 0) (by decide) rfl ?_
    refine go_dup i0_305 rfl ?_
    refine go_iconst (v := (1 : Int32)) i0_306 (by decide) ?_
    refine go_iconst (v := (1 : Int32)) i0_307 (by decide) ?_
    refine go_iastore i0_308 rfl (i := 1) (by decide) rfl ?_
    change Go Z a0 n0 M0 room_1 own_P 309 _ _ [.inr (.int, [.int (u0 % K), .int (u1 % K)]), .inr (.int, [.int (1 + u2 % K), .int (1 + u3 % K)]), .inr (.int, [.int (u4 % K), .int (u5 % K)]), .inr (.int, [.int (1 + u6 % K), .int (1 + u7 % K)]), .inr (.int, [.int (u8 % K), .int (u9 % K)]), .inr (.int, [.int (1 + u10 % K), .int (1 + u11 % K)]), .inr (.int, [.int (u12 % K), .int (u13 % K)]), .inr (.int, [.int (1 + u14 % K), .int (1 + u15 % K)]), .inr (.int, [.int 0, .int 1])] 9 18
    exact g309 hw _ _ _ _ _ _ _ _ K n _ _ _ _ 0 1 _ _ _ _ _ _ _ _ _ _ _ _ hn (Or.inl ⟨rfl, rfl⟩) (own_bb l12 l14 hK hK') (own_bb l13 l15 hK hK') (own_bb l0 l2 hK hK') (own_bb l1 l3 hK hK') (own_bb l4 l6 hK hK') (own_bb l5 l7 hK hK') (own_bb l8 l10 hK hK') (own_bb l9 l11 hK hK')
  · refine go_ifF i0_281 (by decide) ?_
    refine go_iconst (v := (2 : Int32)) i0_284 (by decide) ?_
    refine go_newarray (k := 8) 2 i0_285 rfl (hw _ (List.mem_of_getElem? (i := 0) rfl)) (by decide) rfl (by decide) (by decide) rfl (by first | decide | exact Nat.le_of_ble_eq_true rfl | (simp only [room_1]; omega)) (by first | decide | exact Nat.le_of_ble_eq_true rfl | (simp only [room_1]; omega)) ?_
    refine go_dup i0_287 rfl ?_
    refine go_iconst (v := (0 : Int32)) i0_288 (by decide) ?_
    refine go_iconst (v := (1 : Int32)) i0_289 (by decide) ?_
    refine go_iastore i0_290 rfl (i := 0) (by decide) rfl ?_
    refine go_dup i0_291 rfl ?_
    refine go_iconst (v := (1 : Int32)) i0_292 (by decide) ?_
    refine go_iconst (v := (0 : Int32)) i0_293 (by decide) ?_
    refine go_iastore i0_294 rfl (i := 1) (by decide) rfl ?_
    refine go_goto 309 i0_295 (by decide) ?_
    change Go Z a0 n0 M0 room_1 own_P 309 _ _ [.inr (.int, [.int (u0 % K), .int (u1 % K)]), .inr (.int, [.int (1 + u2 % K), .int (1 + u3 % K)]), .inr (.int, [.int (u4 % K), .int (u5 % K)]), .inr (.int, [.int (1 + u6 % K), .int (1 + u7 % K)]), .inr (.int, [.int (u8 % K), .int (u9 % K)]), .inr (.int, [.int (1 + u10 % K), .int (1 + u11 % K)]), .inr (.int, [.int (u12 % K), .int (u13 % K)]), .inr (.int, [.int (1 + u14 % K), .int (1 + u15 % K)]), .inr (.int, [.int 1, .int 0])] 9 18
    exact g309 hw _ _ _ _ _ _ _ _ K n _ _ _ _ 1 0 _ _ _ _ _ _ _ _ _ _ _ _ hn (Or.inr ⟨rfl, rfl⟩) (own_bb l12 l14 hK hK') (own_bb l13 l15 hK hK') (own_bb l0 l2 hK hK') (own_bb l1 l3 hK hK') (own_bb l4 l6 hK hK') (own_bb l5 l7 hK hK') (own_bb l8 l10 hK hK') (own_bb l9 l11 hK hK')
theorem law_met (Z : State) (a0 : Array Value) (n0 : Nat) (hw : ∀ d ∈ tables_1, d.before a0 Z = true) (a b : Int32) (j : Int64) (c : Int32) : MetW Z a0 n0 M0 tables_1 room_1 [.int a, .int b, .long j, .int c] [] (fun v _ => v = some (.int 1)) := by
  refine MetW.intro [.val (.int a), .val (.int b), .val (.long j), .second, .val (.int c), .unset, .unset, .unset, .unset, .unset, .unset, .unset, .unset, .unset, .unset, .unset, .unset, .unset, .unset, .unset, .unset, .unset, .unset, .unset, .unset, .unset, .unset, .unset] pn0 rfl ?_
  have h1 := c_mask a 15 4 (by decide) (by decide)
  have h2 := own_add 1 (a &&& 15) (by decide) (by decide) (by omega) (by omega)
  have h3 := c_mask b 3 2 (by decide) (by decide)
  have o1 : (1 : Int32).toInt = 1 := by decide
  rw [o1] at h2
  have hn : b &&& 3 = 0 ∨ b &&& 3 = 1 ∨ b &&& 3 = 2 ∨ b &&& 3 = 3 := by
    rw [← Int32.toInt_inj, ← Int32.toInt_inj, ← Int32.toInt_inj, ← Int32.toInt_inj]
    simp only [Int32.reduceToInt]
    omega
  refine go_iconst (v := (1 : Int32)) i0_0 (by decide) ?_
  refine go_iloadN i0_1 rfl ?_
  refine go_bipush (v := (15 : Int32)) i0_2 (by decide) ?_
  refine go_iand i0_4 ?_
  refine go_iadd i0_5 ?_
  refine go_istore5 i0_6 (by first | exact One.u | exact One.val rfl) ?_
  refine go_iloadN i0_8 rfl ?_
  refine go_iconst (v := (3 : Int32)) i0_9 (by decide) ?_
  refine go_iand i0_10 ?_
  refine go_istore6 i0_11 (by first | exact One.u | exact One.val rfl) ?_
  refine go_iloadN i0_13 rfl ?_
  refine go_iconst (v := (4 : Int32)) i0_14 (by decide) ?_
  refine go_iand i0_15 ?_
  refine go_if_eq 23 i0_16 (by decide) (fun g => ?_) (fun g => ?_)
  · refine go_iconst (v := (0 : Int32)) i0_23 (by decide) ?_
    exact g24 hw a b c j _ _ _ (by omega) (by omega) hn (Or.inl rfl)
  · refine go_iconst (v := (1 : Int32)) i0_19 (by decide) ?_
    refine go_goto 24 i0_20 (by decide) ?_
    exact g24 hw a b c j _ _ _ (by omega) (by omega) hn (Or.inr rfl)
theorem comes_1 {Post : Tables → Env → Array Value → State → Outcome → State → Prop} (hpost : ∀ tb e args s v u, (limb_1_1.after args s (.returned v) u = true ∧ limb_1_2.after args s (.returned v) u = true ∧ True) → FrameEnd s (.returned v) u (Jvm.fieldLocs frame_1_writes args s ++ Jvm.arrayLocs frame_1_arrays args s ++ Jvm.staticLocs frame_1_statics s) 56 832 → Post tb e args s (.returned v) u) :
    ArmFor flags0 classFile x code maxLocals ret World_1 tables_1 room_1 Calls_1 rest_1 Pre_1 Post := by
  intro l hfl _ _ p e ha hc hk s m args below hf hA hF happ hP
  obtain ⟨hcalls, hrest, hpre⟩ := hP
  obtain ⟨-, -, -, hnamed, -, -, -, hat⟩ := (Spec.applies_iff hf).mp happ
  obtain ⟨hg, hn⟩ := and_e (Cond.before_iff.mp (show (Jvm.Cond.and given_1 narrow_1).before args s = true from hpre))
  obtain ⟨g0, gs0⟩ := and_e hg
  obtain ⟨w0, w1, w2, w3, rfl⟩ : ∃ (w0 : Value) (w1 : Value) (w2 : Value) (w3 : Value), args = #[w0, w1, w2, w3] := by
    have hs : args.size = 4 := by simpa [Cond.value, given_1] using g0
    obtain ⟨L⟩ := args
    match L, hs with
    | [w0, w1, w2, w3], _ => exact ⟨w0, w1, w2, w3, rfl⟩
  have hw := fun d (hd : d ∈ tables_1) => atoms_spec (ws := Jvm.Cond.code x code maxLocals ret :: tables_1) hat d (List.mem_cons_of_mem _ hd)
  obtain ⟨b0, gs1⟩ := and_e gs0
  obtain ⟨i0, ei0⟩ := is_v b0
  obtain rfl : w0 = (.int i0) := Option.some.inj ei0
  obtain ⟨b1, gs2⟩ := and_e gs1
  obtain ⟨i1, ei1⟩ := is_v b1
  obtain rfl : w1 = (.int i1) := Option.some.inj ei1
  obtain ⟨b2, gs3⟩ := and_e gs2
  obtain ⟨i2, ei2⟩ := isL_v b2
  obtain rfl : w2 = (.long i2) := Option.some.inj ei2
  have b3 := gs3
  obtain ⟨i3, ei3⟩ := is_v b3
  obtain rfl : w3 = (.int i3) := Option.some.inj ei3
  obtain ⟨n, o, h1, h2, h3, _, L, rfl, ⟨H', rfl, -, N⟩, hq⟩ := law_met s _ s.heap.size hw i0 i1 i2 i3 l s.heap ⟨rfl, ⟨Nat.le_refl _, fun _ _ q => q⟩, by simp, fun k o q => by simp at q⟩ p e ha hc hk s m _ below hf ((Spec.applies_iff_loose hf).mp happ).1 ⟨rfl, State.Warmed39.refl s, rfl⟩ trivial
  refine ⟨n, _, h1, h2, h3, hpost _ _ _ _ _ _ ⟨Cond.after_iff.mpr rfl, Cond.after_iff.mpr (eq_i res_at (Term.int_eval (1)) rfl), trivial⟩ ⟨hq.1, hq.2.1, (hq.2.2.sift fun y hy => Or.inr (N y hy)).mono (by decide) (by decide)⟩⟩
theorem main_1_1 : Claimed_1_1 := comes_1 fun _ _ _ _ _ _ h hF => ⟨h.1, hF⟩
theorem main_1_2 : Claimed_1_2 := comes_1 fun _ _ _ _ _ _ h hF => ⟨h.2.1, hF⟩
end Jvm.Pilot.@@N@@
namespace Jvm.Pilot.@@N@@
open Jvm Jvm.ClassFile Sem Op Lib Jvm.Free Jvm.Stand Jvm.Pilot.@@N@@.Jvm.D
/-! MADE BY PROGRAM (witnessworld.py) out of the Statement's table words and the real class files: 15 classes; the members and pool entries that the words name. The judged class is class 1, her method 5. -/
namespace start1
open Jvm.ClassFile
def u (s : String) : CpInfo := .utf8 (stringToUtf16 s)
/-- a pool by its gaps: so many unusable entries, then the entry; so many at the end -/
def gap : Nat → List CpInfo → List CpInfo
  | 0, r => r
  | n + 1, r => .unusable :: gap n r
def poolList (es : List (Nat × CpInfo)) (last : Nat) : List CpInfo := es.foldr (fun e r => gap e.1 (e.2 :: r)) (gap last [])
def pool (es : List (Nat × CpInfo)) (last : Nat) : Array CpInfo := ⟨poolList es last⟩
def fileOf (pool : Array CpInfo) (this : Nat) (attrs : Array Attribute := #[]) (ms : Array MethodInfo := #[]) (fl : Nat := 33) (sup : Nat := 0) (ifs : Array Nat := #[]) (fds : Array FieldInfo := #[]) : ClassFile where
  minorVersion := 0
  majorVersion := 65
  constantPool := pool
  accessFlags := fl
  thisClass := this
  superClass := sup
  interfaces := ifs
  fields := fds
  methods := ms
  attributes := attrs
def plain (name : String) (sup : Option ClassId) : Class where
  name := name
  kind := .ordinary
  loader := none
  accessFlags := 33
  super := sup
  interfaces := #[]
  cf := none
  fields := #[]
  methods := #[]
  instanceTypes := #[]
  staticTypes := #[]
  resolved := #[]
  callSites := []
  init := .initialized
  statics := none
  mirror := none

def pool0 : Array CpInfo := pool [(5, u "<init>"), (0, u "()V"), (1, .class_ 10), (1, u "java/lang/Object"), (85, u "clone"), (0, u "()Ljava/lang/Object;")] 26

def k0c0 : Code := { maxStack := 0, maxLocals := 1, code := object_method_1_code, exceptionTable := #[], attributes := #[] }
def k0m0 : Method := { name := "<init>", desc := "()V", sig := { parameters := [], returnType := none }, accessFlags := 1, code := some k0c0 }
def k0m1 : Method := { name := "clone", desc := "()Ljava/lang/Object;", sig := { parameters := [], returnType := some (.object "java/lang/Object") }, accessFlags := 260, code := none }
/-- java/lang/Object -/
def k0 : Class := { plain "java/lang/Object" none with
  accessFlags := 33
  interfaces := #[]
  cf := some (fileOf pool0 8 #[] #[{ accessFlags := 1, nameIndex := 5, descriptorIndex := 6, attributes := #[] }, { accessFlags := 260, nameIndex := 96, descriptorIndex := 97, attributes := #[] }] 33 0 #[] #[])
  fields := #[]
  methods := #[k0m0, k0m1]
  instanceTypes := #[]
  staticTypes := #[]
  resolved := Array.replicate 124 none
  statics := none }

def pool1 : Array CpInfo := pool [(2, .class_ 4), (1, u "java/lang/Object"), (0, u "<init>"), (0, u "()V"), (0, .long 15), (1, .methodref 10 11), (0, .class_ 12), (0, .nameAndType 13 14), (0, u "java/lang/Math"), (0, u "max"), (0, u "(II)I"), (0, .methodref 10 16), (0, .nameAndType 17 14), (0, u "min"), (0, .methodref 19 20), (0, .class_ 21), (0, .nameAndType 22 23), (0, u "com/example/meshwright/meshwright/grid/SubcubeListFirstMeetingPinLaw"), (0, u "overlap"), (0, u "(IIII)Z"), (0, .methodref 19 25), (0, .nameAndType 26 27), (0, u "dim"), (0, u "(IIIII)Z"), (0, .methodref 19 29), (0, .nameAndType 30 31), (0, u "nib"), (0, u "(JI)I"), (0, .class_ 33), (0, u "com/example/meshwright/meshwright/grid/SubcubeList"), (0, .methodref 32 35), (0, .nameAndType 5 36), (0, u "(II)V"), (0, .class_ 38), (0, u "com/example/meshwright/meshwright/grid/Subcube"), (0, .methodref 37 40), (0, .nameAndType 5 41), (0, u "([I[I)V"), (0, .methodref 32 43), (0, .nameAndType 44 45), (0, u "add"), (0, u "(ILcom/example/meshwright/meshwright/grid/Subcube;)V"), (0, .methodref 32 47), (0, .nameAndType 48 49), (0, u "firstMeeting"), (0, u "([I[I[I)I"), (0, .methodref 19 51), (0, .nameAndType 52 53), (0, u "meets"), (0, u "(I[I[I[I[I)Z"), (3, u "law"), (0, u "(IIJI)Z")] 4

def k1m0 : Method := { name := "<init>", desc := "()V", sig := { parameters := [], returnType := none }, accessFlags := 1, code := none }
def k1c1 : Code := { maxStack := 4, maxLocals := 3, code := method_2_code, exceptionTable := #[], attributes := #[] }
def k1m1 : Method := { name := "nib", desc := "(JI)I", sig := { parameters := [.long, .int], returnType := some .int }, accessFlags := 10, code := some k1c1 }
def k1c2 : Code := { maxStack := 3, maxLocals := 4, code := method_3_code, exceptionTable := #[], attributes := #[] }
def k1m2 : Method := { name := "overlap", desc := "(IIII)Z", sig := { parameters := [.int, .int, .int, .int], returnType := some .boolean }, accessFlags := 10, code := some k1c2 }
def k1c3 : Code := { maxStack := 5, maxLocals := 5, code := method_4_code, exceptionTable := #[], attributes := #[] }
def k1m3 : Method := { name := "dim", desc := "(IIIII)Z", sig := { parameters := [.int, .int, .int, .int, .int], returnType := some .boolean }, accessFlags := 10, code := some k1c3 }
def k1c4 : Code := { maxStack := 6, maxLocals := 5, code := method_5_code, exceptionTable := #[], attributes := #[] }
def k1m4 : Method := { name := "meets", desc := "(I[I[I[I[I)Z", sig := { parameters := [.int, (.array .int), (.array .int), (.array .int), (.array .int)], returnType := some .boolean }, accessFlags := 10, code := some k1c4 }
def k1c5 : Code := { maxStack := 7, maxLocals := 28, code := code, exceptionTable := #[], attributes := #[] }
def k1m5 : Method := { name := "law", desc := "(IIJI)Z", sig := { parameters := [.int, .int, .long, .int], returnType := some .boolean }, accessFlags := 9, code := some k1c5 }
/-- com/example/meshwright/meshwright/grid/SubcubeListFirstMeetingPinLaw -/
def k1 : Class := { plain "com/example/meshwright/meshwright/grid/SubcubeListFirstMeetingPinLaw" (some 0) with
  accessFlags := 49
  interfaces := #[]
  cf := some (fileOf pool1 19 #[] #[{ accessFlags := 1, nameIndex := 5, descriptorIndex := 6, attributes := #[] }, { accessFlags := 10, nameIndex := 30, descriptorIndex := 31, attributes := #[] }, { accessFlags := 10, nameIndex := 22, descriptorIndex := 23, attributes := #[] }, { accessFlags := 10, nameIndex := 26, descriptorIndex := 27, attributes := #[] }, { accessFlags := 10, nameIndex := 52, descriptorIndex := 53, attributes := #[] }, { accessFlags := 9, nameIndex := 57, descriptorIndex := 58, attributes := #[] }] 49 2 #[] #[])
  fields := #[]
  methods := #[k1m0, k1m1, k1m2, k1m3, k1m4, k1m5]
  instanceTypes := #[]
  staticTypes := #[]
  resolved := Array.replicate 63 none
  statics := none }

def pool2 : Array CpInfo := pool [(1, .methodref 2 3), (0, .class_ 4), (0, .nameAndType 5 6), (0, u "java/lang/Object"), (0, u "<init>"), (0, u "()V"), (2, .class_ 10), (0, u "com/example/meshwright/meshwright/grid/Subcube"), (0, .fieldref 12 13), (0, .class_ 14), (0, .nameAndType 15 16), (0, u "com/example/meshwright/meshwright/grid/SubcubeList"), (0, u "subcubes"), (0, u "[Lcom/example/meshwright/meshwright/grid/Subcube;"), (0, .fieldref 12 18), (0, .nameAndType 19 20), (0, u "radix"), (0, u "I"), (0, .fieldref 12 22), (0, .nameAndType 23 20), (0, u "dimensions"), (0, .fieldref 12 25), (0, .nameAndType 26 27), (0, u "values"), (0, u "[I"), (0, .fieldref 12 29), (0, .nameAndType 30 20), (0, u "size"), (15, .methodref 47 48), (0, .class_ 49), (0, .nameAndType 50 51), (0, u "java/lang/System"), (0, u "arraycopy"), (0, u "(Ljava/lang/Object;ILjava/lang/Object;II)V"), (0, .methodref 9 53), (0, .nameAndType 54 55), (0, u "start"), (0, u "(I)I"), (0, .methodref 9 57), (0, .nameAndType 58 55), (0, u "count"), (4, u "(II)V"), (6, u "add"), (0, u "(ILcom/example/meshwright/meshwright/grid/Subcube;)V"), (5, u "firstMeeting"), (0, u "([I[I[I)I")] 3

def k2c0 : Code := { maxStack := 3, maxLocals := 3, code := prog_121_method_1_code, exceptionTable := #[], attributes := #[] }
def k2m0 : Method := { name := "<init>", desc := "(II)V", sig := { parameters := [.int, .int], returnType := none }, accessFlags := 1, code := some k2c0 }
def k2c1 : Code := { maxStack := 6, maxLocals := 5, code := prog_121_method_4_code, exceptionTable := #[], attributes := #[] }
def k2m1 : Method := { name := "add", desc := "(ILcom/example/meshwright/meshwright/grid/Subcube;)V", sig := { parameters := [.int, (.object "com/example/meshwright/meshwright/grid/Subcube")], returnType := none }, accessFlags := 1, code := some k2c1 }
def k2c2 : Code := { maxStack := 5, maxLocals := 14, code := prog_121_method_7_code, exceptionTable := #[], attributes := #[] }
def k2m2 : Method := { name := "firstMeeting", desc := "([I[I[I)I", sig := { parameters := [(.array .int), (.array .int), (.array .int)], returnType := some .int }, accessFlags := 1, code := some k2c2 }
/-- com/example/meshwright/meshwright/grid/SubcubeList -/
def k2 : Class := { plain "com/example/meshwright/meshwright/grid/SubcubeList" (some 0) with
  accessFlags := 49
  interfaces := #[]
  cf := some (fileOf pool2 12 #[] #[{ accessFlags := 1, nameIndex := 5, descriptorIndex := 63, attributes := #[] }, { accessFlags := 1, nameIndex := 70, descriptorIndex := 71, attributes := #[] }, { accessFlags := 1, nameIndex := 77, descriptorIndex := 78, attributes := #[] }] 49 2 #[] #[{ accessFlags := 18, nameIndex := 19, descriptorIndex := 20, attributes := #[] }, { accessFlags := 18, nameIndex := 23, descriptorIndex := 20, attributes := #[] }, { accessFlags := 2, nameIndex := 15, descriptorIndex := 16, attributes := #[] }, { accessFlags := 2, nameIndex := 26, descriptorIndex := 27, attributes := #[] }, { accessFlags := 2, nameIndex := 30, descriptorIndex := 20, attributes := #[] }])
  fields := #[{ name := "radix", type := .int, accessFlags := 18, slot := 0, constantValue := 0 }, { name := "dimensions", type := .int, accessFlags := 18, slot := 1, constantValue := 0 }, { name := "subcubes", type := (.array (.object "com/example/meshwright/meshwright/grid/Subcube")), accessFlags := 2, slot := 2, constantValue := 0 }, { name := "values", type := (.array .int), accessFlags := 2, slot := 3, constantValue := 0 }, { name := "size", type := .int, accessFlags := 2, slot := 4, constantValue := 0 }]
  methods := #[k2m0, k2m1, k2m2]
  instanceTypes := #[.int, .int, (.array (.object "com/example/meshwright/meshwright/grid/Subcube")), (.array .int), .int]
  staticTypes := #[]
  resolved := Array.replicate 82 none
  statics := none }

def pool3 : Array CpInfo := pool [(1, .methodref 2 3), (0, .class_ 4), (0, .nameAndType 5 6), (0, u "java/lang/Object"), (0, u "<init>"), (0, u "()V"), (12, .methodref 20 21), (0, .class_ 22), (0, .nameAndType 23 24), (0, u "[I"), (0, u "clone"), (0, u "()Ljava/lang/Object;"), (0, .fieldref 26 27), (0, .class_ 28), (0, .nameAndType 29 22), (0, u "com/example/meshwright/meshwright/grid/Subcube"), (0, u "starts"), (0, .fieldref 26 31), (0, .nameAndType 32 22), (0, u "counts"), (0, .fieldref 26 34), (0, .nameAndType 35 36), (0, u "size"), (0, u "J"), (0, .methodref 38 39), (0, .class_ 40), (0, .nameAndType 41 42), (0, u "java/util/Arrays"), (0, u "hashCode"), (0, u "([I)I"), (0, .fieldref 26 44), (0, .nameAndType 45 46), (0, u "hash"), (0, u "I"), (25, u "([I[I)V"), (5, u "start"), (0, u "(I)I"), (0, u "count")] 23

def k3c0 : Code := { maxStack := 5, maxLocals := 9, code := prog_120_method_1_code, exceptionTable := #[], attributes := #[] }
def k3m0 : Method := { name := "<init>", desc := "([I[I)V", sig := { parameters := [(.array .int), (.array .int)], returnType := none }, accessFlags := 1, code := some k3c0 }
def k3c1 : Code := { maxStack := 2, maxLocals := 2, code := prog_120_method_3_code, exceptionTable := #[], attributes := #[] }
def k3m1 : Method := { name := "start", desc := "(I)I", sig := { parameters := [.int], returnType := some .int }, accessFlags := 1, code := some k3c1 }
def k3c2 : Code := { maxStack := 2, maxLocals := 2, code := prog_120_method_4_code, exceptionTable := #[], attributes := #[] }
def k3m2 : Method := { name := "count", desc := "(I)I", sig := { parameters := [.int], returnType := some .int }, accessFlags := 1, code := some k3c2 }
/-- com/example/meshwright/meshwright/grid/Subcube -/
def k3 : Class := { plain "com/example/meshwright/meshwright/grid/Subcube" (some 0) with
  accessFlags := 49
  interfaces := #[]
  cf := some (fileOf pool3 26 #[] #[{ accessFlags := 1, nameIndex := 5, descriptorIndex := 72, attributes := #[] }, { accessFlags := 1, nameIndex := 78, descriptorIndex := 79, attributes := #[] }, { accessFlags := 1, nameIndex := 80, descriptorIndex := 79, attributes := #[] }] 49 2 #[] #[{ accessFlags := 18, nameIndex := 29, descriptorIndex := 22, attributes := #[] }, { accessFlags := 18, nameIndex := 32, descriptorIndex := 22, attributes := #[] }, { accessFlags := 18, nameIndex := 35, descriptorIndex := 36, attributes := #[] }, { accessFlags := 18, nameIndex := 45, descriptorIndex := 46, attributes := #[] }])
  fields := #[{ name := "starts", type := (.array .int), accessFlags := 18, slot := 0, constantValue := 0 }, { name := "counts", type := (.array .int), accessFlags := 18, slot := 1, constantValue := 0 }, { name := "size", type := .long, accessFlags := 18, slot := 2, constantValue := 0 }, { name := "hash", type := .int, accessFlags := 18, slot := 3, constantValue := 0 }]
  methods := #[k3m0, k3m1, k3m2]
  instanceTypes := #[(.array .int), (.array .int), .long, .int]
  staticTypes := #[]
  resolved := Array.replicate 104 none
  statics := none }

def pool4 : Array CpInfo := pool [(1, .class_ 2), (0, u "java/lang/Cloneable"), (0, .class_ 4), (0, u "java/lang/Object")] 2

/-- java/lang/Cloneable -/
def k4 : Class := { plain "java/lang/Cloneable" (some 0) with
  accessFlags := 1537
  interfaces := #[]
  cf := some (fileOf pool4 1 #[] #[] 1537 3 #[] #[])
  fields := #[]
  methods := #[]
  instanceTypes := #[]
  staticTypes := #[]
  resolved := Array.replicate 7 none
  statics := none }

def pool5 : Array CpInfo := pool [(2, .class_ 4), (1, u "java/lang/Object"), (0, u "<init>"), (0, u "()V"), (7, .class_ 16), (1, u "java/util/Arrays"), (57, .class_ 76), (1, u "java/util/Arrays$NaturalOrder"), (36, .class_ 115), (1, u "java/util/Arrays$LegacyMergeSort"), (1, u "Z"), (128, .class_ 248), (1, u "jdk/internal/util/ArraysSupport"), (126, .class_ 376), (0, u "java/util/Arrays$ArrayList"), (2, .methodref 246 380), (0, .nameAndType 381 382), (0, u "vectorizedHashCode"), (0, u "(Ljava/lang/Object;IIII)I"), (2, u "hashCode"), (22, u "([I)I"), (36, u "$assertionsDisabled"), (269, u "MIN_ARRAY_SORT_GRAN"), (0, u "I"), (2, u "INSERTIONSORT_THRESHOLD"), (255, .class_ 976), (0, u "java/util/Arrays$ArrayItr")] 52

def k5m0 : Method := { name := "<init>", desc := "()V", sig := { parameters := [], returnType := none }, accessFlags := 2, code := none }
def k5c1 : Code := { maxStack := 5, maxLocals := 1, code := jdk_65_method_150_code, exceptionTable := #[], attributes := #[] }
def k5m1 : Method := { name := "hashCode", desc := "([I)I", sig := { parameters := [(.array .int)], returnType := some .int }, accessFlags := 9, code := some k5c1 }
/-- java/util/Arrays -/
def k5 : Class := { plain "java/util/Arrays" (some 0) with
  accessFlags := 49
  interfaces := #[]
  cf := some (fileOf pool5 14 #[.nestMembers #[975, 375, 113, 74]] #[{ accessFlags := 2, nameIndex := 5, descriptorIndex := 6, attributes := #[] }, { accessFlags := 9, nameIndex := 385, descriptorIndex := 408, attributes := #[] }] 49 2 #[] #[{ accessFlags := 26, nameIndex := 715, descriptorIndex := 716, attributes := #[] }, { accessFlags := 26, nameIndex := 719, descriptorIndex := 716, attributes := #[] }, { accessFlags := 4120, nameIndex := 445, descriptorIndex := 117, attributes := #[] }])
  fields := #[{ name := "MIN_ARRAY_SORT_GRAN", type := .int, accessFlags := 26, slot := 0, constantValue := 0 }, { name := "INSERTIONSORT_THRESHOLD", type := .int, accessFlags := 26, slot := 1, constantValue := 0 }, { name := "$assertionsDisabled", type := .boolean, accessFlags := 4120, slot := 2, constantValue := 0 }]
  methods := #[k5m0, k5m1]
  instanceTypes := #[]
  staticTypes := #[.int, .int, .boolean]
  resolved := Array.replicate 1029 none
  statics := none }

def pool6 : Array CpInfo := pool [(9, u "<init>"), (6, .class_ 18), (1, u "java/lang/Object"), (0, u "()V"), (1, .class_ 23), (1, u "jdk/internal/util/ArraysSupport"), (0, u "LOG2_ARRAY_LONG_INDEX_SCALE"), (0, u "I"), (2, u "U"), (0, u "Ljdk/internal/misc/Unsafe;"), (8, u "BIG_ENDIAN"), (0, u "Z"), (8, u "LOG2_BYTE_BIT_SIZE"), (4, u "LOG2_ARRAY_INT_INDEX_SCALE"), (19, u "hashCode"), (8, .class_ 83), (0, u "[I"), (0, .methodref 21 85), (0, .nameAndType 73 86), (0, u "(I[III)I"), (21, u "JLA"), (0, u "Ljdk/internal/access/JavaLangAccess;"), (11, u "LOG2_ARRAY_BOOLEAN_INDEX_SCALE"), (9, u "LOG2_ARRAY_BYTE_INDEX_SCALE"), (5, u "LOG2_ARRAY_CHAR_INDEX_SCALE"), (5, u "LOG2_ARRAY_SHORT_INDEX_SCALE"), (18, u "LOG2_ARRAY_FLOAT_INDEX_SCALE"), (24, u "LOG2_ARRAY_DOUBLE_INDEX_SCALE"), (89, u "T_BOOLEAN"), (2, u "T_CHAR"), (1, u "T_FLOAT"), (1, u "T_DOUBLE"), (1, u "T_BYTE"), (1, u "T_SHORT"), (1, u "T_INT"), (1, u "T_LONG"), (1, u "SOFT_MAX_ARRAY_LENGTH"), (26, u "vectorizedHashCode"), (0, u "(Ljava/lang/Object;IIII)I")] 55

def k6m0 : Method := { name := "<init>", desc := "()V", sig := { parameters := [], returnType := none }, accessFlags := 2, code := none }
def k6c1 : Code := { maxStack := 4, maxLocals := 5, code := jdk_48_method_4_code, exceptionTable := #[], attributes := #[] }
def k6m1 : Method := { name := "vectorizedHashCode", desc := "(Ljava/lang/Object;IIII)I", sig := { parameters := [(.object "java/lang/Object"), .int, .int, .int, .int], returnType := some .int }, accessFlags := 9, code := some k6c1 }
def k6c2 : Code := { maxStack := 3, maxLocals := 6, code := jdk_48_method_9_code, exceptionTable := #[], attributes := #[] }
def k6m2 : Method := { name := "hashCode", desc := "(I[III)I", sig := { parameters := [.int, (.array .int), .int, .int], returnType := some .int }, accessFlags := 10, code := some k6c2 }
/-- jdk/internal/util/ArraysSupport -/
def k6 : Class := { plain "jdk/internal/util/ArraysSupport" (some 0) with
  accessFlags := 33
  interfaces := #[]
  cf := some (fileOf pool6 21 #[] #[{ accessFlags := 2, nameIndex := 9, descriptorIndex := 19, attributes := #[] }, { accessFlags := 9, nameIndex := 321, descriptorIndex := 322, attributes := #[] }, { accessFlags := 10, nameIndex := 73, descriptorIndex := 86, attributes := #[] }] 33 16 #[] #[{ accessFlags := 24, nameIndex := 28, descriptorIndex := 29, attributes := #[] }, { accessFlags := 26, nameIndex := 38, descriptorIndex := 39, attributes := #[] }, { accessFlags := 25, nameIndex := 121, descriptorIndex := 25, attributes := #[] }, { accessFlags := 25, nameIndex := 131, descriptorIndex := 25, attributes := #[] }, { accessFlags := 25, nameIndex := 137, descriptorIndex := 25, attributes := #[] }, { accessFlags := 25, nameIndex := 143, descriptorIndex := 25, attributes := #[] }, { accessFlags := 25, nameIndex := 53, descriptorIndex := 25, attributes := #[] }, { accessFlags := 25, nameIndex := 24, descriptorIndex := 25, attributes := #[] }, { accessFlags := 25, nameIndex := 162, descriptorIndex := 25, attributes := #[] }, { accessFlags := 25, nameIndex := 187, descriptorIndex := 25, attributes := #[] }, { accessFlags := 26, nameIndex := 48, descriptorIndex := 25, attributes := #[] }, { accessFlags := 25, nameIndex := 277, descriptorIndex := 25, attributes := #[] }, { accessFlags := 25, nameIndex := 280, descriptorIndex := 25, attributes := #[] }, { accessFlags := 25, nameIndex := 282, descriptorIndex := 25, attributes := #[] }, { accessFlags := 25, nameIndex := 284, descriptorIndex := 25, attributes := #[] }, { accessFlags := 25, nameIndex := 286, descriptorIndex := 25, attributes := #[] }, { accessFlags := 25, nameIndex := 288, descriptorIndex := 25, attributes := #[] }, { accessFlags := 25, nameIndex := 290, descriptorIndex := 25, attributes := #[] }, { accessFlags := 25, nameIndex := 292, descriptorIndex := 25, attributes := #[] }, { accessFlags := 26, nameIndex := 108, descriptorIndex := 109, attributes := #[] }, { accessFlags := 25, nameIndex := 294, descriptorIndex := 25, attributes := #[] }])
  fields := #[{ name := "U", type := (.object "jdk/internal/misc/Unsafe"), accessFlags := 24, slot := 0, constantValue := 0 }, { name := "BIG_ENDIAN", type := .boolean, accessFlags := 26, slot := 1, constantValue := 0 }, { name := "LOG2_ARRAY_BOOLEAN_INDEX_SCALE", type := .int, accessFlags := 25, slot := 2, constantValue := 0 }, { name := "LOG2_ARRAY_BYTE_INDEX_SCALE", type := .int, accessFlags := 25, slot := 3, constantValue := 0 }, { name := "LOG2_ARRAY_CHAR_INDEX_SCALE", type := .int, accessFlags := 25, slot := 4, constantValue := 0 }, { name := "LOG2_ARRAY_SHORT_INDEX_SCALE", type := .int, accessFlags := 25, slot := 5, constantValue := 0 }, { name := "LOG2_ARRAY_INT_INDEX_SCALE", type := .int, accessFlags := 25, slot := 6, constantValue := 0 }, { name := "LOG2_ARRAY_LONG_INDEX_SCALE", type := .int, accessFlags := 25, slot := 7, constantValue := 0 }, { name := "LOG2_ARRAY_FLOAT_INDEX_SCALE", type := .int, accessFlags := 25, slot := 8, constantValue := 0 }, { name := "LOG2_ARRAY_DOUBLE_INDEX_SCALE", type := .int, accessFlags := 25, slot := 9, constantValue := 0 }, { name := "LOG2_BYTE_BIT_SIZE", type := .int, accessFlags := 26, slot := 10, constantValue := 0 }, { name := "T_BOOLEAN", type := .int, accessFlags := 25, slot := 11, constantValue := 0 }, { name := "T_CHAR", type := .int, accessFlags := 25, slot := 12, constantValue := 0 }, { name := "T_FLOAT", type := .int, accessFlags := 25, slot := 13, constantValue := 0 }, { name := "T_DOUBLE", type := .int, accessFlags := 25, slot := 14, constantValue := 0 }, { name := "T_BYTE", type := .int, accessFlags := 25, slot := 15, constantValue := 0 }, { name := "T_SHORT", type := .int, accessFlags := 25, slot := 16, constantValue := 0 }, { name := "T_INT", type := .int, accessFlags := 25, slot := 17, constantValue := 0 }, { name := "T_LONG", type := .int, accessFlags := 25, slot := 18, constantValue := 0 }, { name := "JLA", type := (.object "jdk/internal/access/JavaLangAccess"), accessFlags := 26, slot := 19, constantValue := 0 }, { name := "SOFT_MAX_ARRAY_LENGTH", type := .int, accessFlags := 25, slot := 20, constantValue := 0 }]
  methods := #[k6m0, k6m1, k6m2]
  instanceTypes := #[]
  staticTypes := #[(.object "jdk/internal/misc/Unsafe"), .boolean, .int, .int, .int, .int, .int, .int, .int, .int, .int, .int, .int, .int, .int, .int, .int, .int, .int, (.object "jdk/internal/access/JavaLangAccess"), .int]
  resolved := Array.replicate 378 none
  statics := none }

def pool7 : Array CpInfo := pool [(2, .class_ 4), (1, u "java/lang/Object"), (0, u "<init>"), (0, u "()V"), (1, .class_ 10), (1, u "java/lang/System"), (0, u "allowSecurityManager"), (0, u "I"), (16, u "cons"), (0, u "Ljava/io/Console;"), (77, .class_ 110), (1, u "java/lang/System$CallersHolder"), (43, u "initialErrStream"), (0, u "Ljava/io/PrintStream;"), (19, u "security"), (0, u "Ljava/lang/SecurityManager;"), (31, .class_ 209), (0, u "java/lang/System$1"), (7, u "props"), (0, u "Ljava/util/Properties;"), (2, u "lineSeparator"), (0, u "Ljava/lang/String;"), (96, .class_ 321), (1, u "java/lang/System$LoggerFinder"), (5, .class_ 328), (0, u "java/lang/System$Logger"), (67, u "err"), (2, u "out"), (91, u "notSupportedJnuEncoding"), (15, u "in"), (17, u "initialIn"), (0, u "Ljava/io/InputStream;"), (35, u "bootLayer"), (0, u "Ljava/lang/ModuleLayer;"), (99, .class_ 664), (0, u "java/lang/System$2"), (9, u "NEVER"), (2, u "MAYBE"), (49, u "arraycopy"), (0, u "(Ljava/lang/Object;ILjava/lang/Object;II)V"), (72, .class_ 802), (0, u "java/lang/System$Logger$Level")] 31

def k7m0 : Method := { name := "<init>", desc := "()V", sig := { parameters := [], returnType := none }, accessFlags := 2, code := none }
def k7m1 : Method := { name := "arraycopy", desc := "(Ljava/lang/Object;ILjava/lang/Object;II)V", sig := { parameters := [(.object "java/lang/Object"), .int, (.object "java/lang/Object"), .int, .int], returnType := none }, accessFlags := 265, code := none }
/-- java/lang/System -/
def k7 : Class := { plain "java/lang/System" (some 0) with
  accessFlags := 49
  interfaces := #[]
  cf := some (fileOf pool7 8 #[.nestMembers #[319, 327, 801, 108, 663, 208]] #[{ accessFlags := 2, nameIndex := 5, descriptorIndex := 6, attributes := #[] }, { accessFlags := 265, nameIndex := 727, descriptorIndex := 728, attributes := #[] }] 49 2 #[] #[{ accessFlags := 25, nameIndex := 507, descriptorIndex := 526, attributes := #[] }, { accessFlags := 25, nameIndex := 399, descriptorIndex := 155, attributes := #[] }, { accessFlags := 25, nameIndex := 396, descriptorIndex := 155, attributes := #[] }, { accessFlags := 10, nameIndex := 525, descriptorIndex := 526, attributes := #[] }, { accessFlags := 26, nameIndex := 674, descriptorIndex := 12, attributes := #[] }, { accessFlags := 26, nameIndex := 677, descriptorIndex := 12, attributes := #[] }, { accessFlags := 10, nameIndex := 11, descriptorIndex := 12, attributes := #[] }, { accessFlags := 74, nameIndex := 175, descriptorIndex := 176, attributes := #[] }, { accessFlags := 10, nameIndex := 491, descriptorIndex := 222, attributes := #[] }, { accessFlags := 74, nameIndex := 29, descriptorIndex := 30, attributes := #[] }, { accessFlags := 74, nameIndex := 154, descriptorIndex := 155, attributes := #[] }, { accessFlags := 10, nameIndex := 217, descriptorIndex := 218, attributes := #[] }, { accessFlags := 10, nameIndex := 221, descriptorIndex := 222, attributes := #[] }, { accessFlags := 8, nameIndex := 562, descriptorIndex := 563, attributes := #[] }])
  fields := #[{ name := "in", type := (.object "java/io/InputStream"), accessFlags := 25, slot := 0, constantValue := 0 }, { name := "out", type := (.object "java/io/PrintStream"), accessFlags := 25, slot := 1, constantValue := 0 }, { name := "err", type := (.object "java/io/PrintStream"), accessFlags := 25, slot := 2, constantValue := 0 }, { name := "initialIn", type := (.object "java/io/InputStream"), accessFlags := 10, slot := 3, constantValue := 0 }, { name := "NEVER", type := .int, accessFlags := 26, slot := 4, constantValue := 0 }, { name := "MAYBE", type := .int, accessFlags := 26, slot := 5, constantValue := 0 }, { name := "allowSecurityManager", type := .int, accessFlags := 10, slot := 6, constantValue := 0 }, { name := "security", type := (.object "java/lang/SecurityManager"), accessFlags := 74, slot := 7, constantValue := 0 }, { name := "notSupportedJnuEncoding", type := (.object "java/lang/String"), accessFlags := 10, slot := 8, constantValue := 0 }, { name := "cons", type := (.object "java/io/Console"), accessFlags := 74, slot := 9, constantValue := 0 }, { name := "initialErrStream", type := (.object "java/io/PrintStream"), accessFlags := 74, slot := 10, constantValue := 0 }, { name := "props", type := (.object "java/util/Properties"), accessFlags := 10, slot := 11, constantValue := 0 }, { name := "lineSeparator", type := (.object "java/lang/String"), accessFlags := 10, slot := 12, constantValue := 0 }, { name := "bootLayer", type := (.object "java/lang/ModuleLayer"), accessFlags := 8, slot := 13, constantValue := 0 }]
  methods := #[k7m0, k7m1]
  instanceTypes := #[]
  staticTypes := #[(.object "java/io/InputStream"), (.object "java/io/PrintStream"), (.object "java/io/PrintStream"), (.object "java/io/InputStream"), .int, .int, .int, (.object "java/lang/SecurityManager"), (.object "java/lang/String"), (.object "java/io/Console"), (.object "java/io/PrintStream"), (.object "java/util/Properties"), (.object "java/lang/String"), (.object "java/lang/ModuleLayer")]
  resolved := Array.replicate 834 none
  statics := none }

def pool8 : Array CpInfo := pool [(1, .class_ 2), (0, u "java/lang/Math"), (1, .class_ 6), (1, u "java/lang/Object"), (0, u "<init>"), (0, u "()V"), (89, .class_ 100), (1, u "java/lang/Math$RandomNumberGeneratorHolder"), (71, u "negativeZeroFloatBits"), (0, u "J"), (2, u "negativeZeroDoubleBits"), (21, u "max"), (2, u "min"), (43, u "$assertionsDisabled"), (0, u "Z"), (88, u "(II)I"), (2, u "twoToTheDoubleScaleDown"), (0, u "D"), (4, u "twoToTheDoubleScaleUp"), (9, u "E"), (3, u "PI"), (2, u "TAU"), (2, u "DEGREES_TO_RADIANS"), (0, u "RADIANS_TO_DEGREES")] 94

def k8m0 : Method := { name := "<init>", desc := "()V", sig := { parameters := [], returnType := none }, accessFlags := 2, code := none }
def k8c1 : Code := { maxStack := 2, maxLocals := 2, code := jdk_29_method_65_code, exceptionTable := #[], attributes := #[] }
def k8m1 : Method := { name := "max", desc := "(II)I", sig := { parameters := [.int, .int], returnType := some .int }, accessFlags := 9, code := some k8c1 }
def k8c2 : Code := { maxStack := 2, maxLocals := 2, code := jdk_29_method_69_code, exceptionTable := #[], attributes := #[] }
def k8m2 : Method := { name := "min", desc := "(II)I", sig := { parameters := [.int, .int], returnType := some .int }, accessFlags := 9, code := some k8c2 }
/-- java/lang/Math -/
def k8 : Class := { plain "java/lang/Math" (some 0) with
  accessFlags := 49
  interfaces := #[]
  cf := some (fileOf pool8 1 #[.nestMembers #[98]] #[{ accessFlags := 2, nameIndex := 7, descriptorIndex := 8, attributes := #[] }, { accessFlags := 9, nameIndex := 198, descriptorIndex := 335, attributes := #[] }, { accessFlags := 9, nameIndex := 201, descriptorIndex := 335, attributes := #[] }] 49 4 #[] #[{ accessFlags := 25, nameIndex := 354, descriptorIndex := 339, attributes := #[] }, { accessFlags := 25, nameIndex := 358, descriptorIndex := 339, attributes := #[] }, { accessFlags := 25, nameIndex := 361, descriptorIndex := 339, attributes := #[] }, { accessFlags := 26, nameIndex := 364, descriptorIndex := 339, attributes := #[] }, { accessFlags := 26, nameIndex := 365, descriptorIndex := 339, attributes := #[] }, { accessFlags := 26, nameIndex := 172, descriptorIndex := 173, attributes := #[] }, { accessFlags := 26, nameIndex := 176, descriptorIndex := 173, attributes := #[] }, { accessFlags := 8, nameIndex := 344, descriptorIndex := 339, attributes := #[] }, { accessFlags := 8, nameIndex := 338, descriptorIndex := 339, attributes := #[] }, { accessFlags := 4120, nameIndex := 245, descriptorIndex := 246, attributes := #[] }])
  fields := #[{ name := "E", type := .double, accessFlags := 25, slot := 0, constantValue := 0 }, { name := "PI", type := .double, accessFlags := 25, slot := 1, constantValue := 0 }, { name := "TAU", type := .double, accessFlags := 25, slot := 2, constantValue := 0 }, { name := "DEGREES_TO_RADIANS", type := .double, accessFlags := 26, slot := 3, constantValue := 0 }, { name := "RADIANS_TO_DEGREES", type := .double, accessFlags := 26, slot := 4, constantValue := 0 }, { name := "negativeZeroFloatBits", type := .long, accessFlags := 26, slot := 5, constantValue := 0 }, { name := "negativeZeroDoubleBits", type := .long, accessFlags := 26, slot := 6, constantValue := 0 }, { name := "twoToTheDoubleScaleUp", type := .double, accessFlags := 8, slot := 7, constantValue := 0 }, { name := "twoToTheDoubleScaleDown", type := .double, accessFlags := 8, slot := 8, constantValue := 0 }, { name := "$assertionsDisabled", type := .boolean, accessFlags := 4120, slot := 9, constantValue := 0 }]
  methods := #[k8m0, k8m1, k8m2]
  instanceTypes := #[]
  staticTypes := #[.double, .double, .double, .double, .double, .long, .long, .double, .double, .boolean]
  resolved := Array.replicate 460 none
  statics := none }

def pool9 : Array CpInfo := pool [(1, u "java/io/Serializable"), (0, .class_ 1), (0, u "java/lang/Object"), (0, .class_ 3)] 3

/-- java/io/Serializable -/
def k9 : Class := { plain "java/io/Serializable" (some 0) with
  accessFlags := 1537
  interfaces := #[]
  cf := some (fileOf pool9 2 #[] #[] 1537 4 #[] #[])
  fields := #[]
  methods := #[]
  instanceTypes := #[]
  staticTypes := #[]
  resolved := Array.replicate 8 none
  statics := none }

/-- the primitive byte -/
def k10 : Class := { plain "byte" none with kind := .primitive 'B', accessFlags := 0x411 }
/-- [B -/
def k11 : Class := { plain "[B" (some 0) with kind := .array 10 .byte, interfaces := #[4, 9], accessFlags := 1041 }

/-- the primitive int -/
def k12 : Class := { plain "int" none with kind := .primitive 'I', accessFlags := 0x411 }
/-- [I -/
def k13 : Class := { plain "[I" (some 0) with kind := .array 12 .int, interfaces := #[4, 9], accessFlags := 1041 }

/-- [Lcom/example/meshwright/meshwright/grid/Subcube; -/
def k14 : Class := { plain "[Lcom/example/meshwright/meshwright/grid/Subcube;" (some 0) with kind := .array 3 (.object "com/example/meshwright/meshwright/grid/Subcube"), interfaces := #[4, 9], accessFlags := 1041 }

def heap : Heap := #[]
def classes : Array Class := #[k0, k1, k2, k3, k4, k5, k6, k7, k8, k9, k10, k11, k12, k13, k14]
def interned : List (Array UInt16 × Addr) := []
def slotsUsed : Nat := 0
def theMethod : MethodId := ⟨1, 5⟩
def args0 : Array Value := #[.int 5, .int 3, .long 7, .int 9]
def aboutOver (below : List Frame) : State where
  vm := { classes := classes, interned := interned.toArray }
  heap := heap
  slotsUsed := slotsUsed
  threads := #[{ frames := .invoking theMethod args0 :: below }]
def below0 : List Frame := [.native { method := ⟨0, 0⟩, args := #[] }]
def about1 : State := aboutOver below0
def p0 : Program := .bare "" "" ""
def e0 : Env := launch0.env 0 0 0
theorem w_frames : about1.frames = Frame.invoking theMethod args0 :: below0 := rfl
set_option maxRecDepth 65536 in
theorem w_args : argsFit about1.vm theMethod args0 = true := by decide +kernel
set_option maxRecDepth 65536 in
theorem w_heap : heapFits about1 = true := by decide +kernel
set_option maxRecDepth 65536 in
theorem w_runnable : about1.curStatus? = some .runnable := by decide +kernel
set_option maxRecDepth 65536 in
theorem w_alone : about1.alone = true := by decide +kernel
set_option maxRecDepth 65536 in
theorem w_named : about1.methodNamed? x = some theMethod := by decide +kernel
set_option maxRecDepth 65536 in
theorem w_hears : about1.hears theMethod below0 = true := by decide +kernel
set_option maxRecDepth 65536 in
theorem w_ripe : about1.ripe theMethod args0 below0 = true := by decide +kernel
theorem w_running : about1.status = .running := rfl
set_option maxRecDepth 65536 in
theorem w_room : about1.hasRoom e0.platform room_1 = true :=
  launch0.hasRoom_least _ room_1 (by decide +kernel) (by decide +kernel) (by decide +kernel) (by decide +kernel) (by decide +kernel) (by decide +kernel)
theorem allAtoms_all (ts : List Jvm.Cond) (a : Array Jvm.Value) (st : Jvm.State) : (allAtoms ts).before a st = ts.all (fun c => c.before a st) := by
  induction ts with
  | nil => rfl
  | cons c t ih =>
    show (Jvm.Cond.and c (allAtoms t)).before a st = _
    rw [Jvm.Cond.before_and, ih, List.all_cons]
def words1 : List Jvm.Cond := Jvm.Cond.code x code maxLocals ret :: tables_1
/-- a 'code' word, met by the world's own term for the bytes: nothing is compared byte by byte -/
theorem code_word {y : MethodName} {bytes : ByteArray} {mx : Nat} {rt : Option FieldType} {a : Array Value} {s : State} {m : MethodId} {meth : Method} {c : Code} (h1 : s.methodNamed? y = some m) (h2 : s.vm.method? m = some meth) (h3 : meth.code = some c) (h4 : c.code = bytes)
    (h5 : (c.maxLocals == mx && c.exceptionTable.isEmpty && decide (c.maxStack ≤ mostOperands) && decide (meth.sig.returnType = rt) && !meth.locks && decide (parseMethodDescriptor y.desc = some meth.sig)) = true) : (Jvm.Cond.code y bytes mx rt).before a s = true := by
  simp only [Bool.and_eq_true, beq_iff_eq, Bool.not_eq_true', decide_eq_true_eq] at h5
  obtain ⟨⟨⟨⟨⟨g1, g2⟩, g3⟩, g4⟩, g5⟩, g6⟩ := h5
  simp [Cond.before, Cond.holds, Cond.value, h1, h2, h3, h4, g1, g2, g3, g4, g5, g6]
def isCode : Jvm.Cond → Bool
  | .code _ _ _ _ => true
  | _ => false
theorem all_split {L : List Jvm.Cond} {P : Jvm.Cond → Bool} (h1 : L.all (fun c => isCode c || P c) = true) (h2 : ∀ c ∈ L.filter isCode, P c = true) : L.all P = true := by
  refine List.all_eq_true.mpr fun c hc => ?_
  have h := List.all_eq_true.mp h1 c hc
  rcases Bool.eq_false_or_eq_true (isCode c) with hi | hi
  · exact h2 c (List.mem_filter.mpr ⟨hc, hi⟩)
  · simpa [hi] using h
set_option maxRecDepth 65536 in
theorem w_c0 : (Jvm.Cond.code x code maxLocals ret).before args0 about1 = true := code_word (m := ⟨1, 5⟩) (meth := k1m5) (c := k1c5) (by decide +kernel) rfl rfl rfl (by decide +kernel)
set_option maxRecDepth 65536 in
theorem w_c1 : (Jvm.Cond.code ({ cls := "com/example/meshwright/meshwright/grid/SubcubeListFirstMeetingPinLaw", name := "nib", desc := "(JI)I" } : Jvm.MethodName) method_2_code (3 : Nat) (Option.some Jvm.ClassFile.FieldType.int)).before args0 about1 = true := code_word (m := ⟨1, 1⟩) (meth := k1m1) (c := k1c1) (by decide +kernel) rfl rfl rfl (by decide +kernel)
set_option maxRecDepth 65536 in
theorem w_c2 : (Jvm.Cond.code ({ cls := "com/example/meshwright/meshwright/grid/SubcubeList", name := "<init>", desc := "(II)V" } : Jvm.MethodName) prog_121_method_1_code (3 : Nat) (Option.none : Option Jvm.ClassFile.FieldType)).before args0 about1 = true := code_word (m := ⟨2, 0⟩) (meth := k2m0) (c := k2c0) (by decide +kernel) rfl rfl rfl (by decide +kernel)
set_option maxRecDepth 65536 in
theorem w_c3 : (Jvm.Cond.code ({ cls := "java/lang/Object", name := "<init>", desc := "()V" } : Jvm.MethodName) object_method_1_code (1 : Nat) (Option.none : Option Jvm.ClassFile.FieldType)).before args0 about1 = true := code_word (m := ⟨0, 0⟩) (meth := k0m0) (c := k0c0) (by decide +kernel) rfl rfl rfl (by decide +kernel)
set_option maxRecDepth 65536 in
theorem w_c4 : (Jvm.Cond.code ({ cls := "com/example/meshwright/meshwright/grid/Subcube", name := "<init>", desc := "([I[I)V" } : Jvm.MethodName) prog_120_method_1_code (9 : Nat) (Option.none : Option Jvm.ClassFile.FieldType)).before args0 about1 = true := code_word (m := ⟨3, 0⟩) (meth := k3m0) (c := k3c0) (by decide +kernel) rfl rfl rfl (by decide +kernel)
set_option maxRecDepth 65536 in
theorem w_c5 : (Jvm.Cond.code ({ cls := "java/util/Arrays", name := "hashCode", desc := "([I)I" } : Jvm.MethodName) jdk_65_method_150_code (1 : Nat) (Option.some Jvm.ClassFile.FieldType.int)).before args0 about1 = true := code_word (m := ⟨5, 1⟩) (meth := k5m1) (c := k5c1) (by decide +kernel) rfl rfl rfl (by decide +kernel)
set_option maxRecDepth 65536 in
theorem w_c6 : (Jvm.Cond.code ({ cls := "jdk/internal/util/ArraysSupport", name := "vectorizedHashCode", desc := "(Ljava/lang/Object;IIII)I" } : Jvm.MethodName) jdk_48_method_4_code (5 : Nat) (Option.some Jvm.ClassFile.FieldType.int)).before args0 about1 = true := code_word (m := ⟨6, 1⟩) (meth := k6m1) (c := k6c1) (by decide +kernel) rfl rfl rfl (by decide +kernel)
set_option maxRecDepth 65536 in
theorem w_c7 : (Jvm.Cond.code ({ cls := "jdk/internal/util/ArraysSupport", name := "hashCode", desc := "(I[III)I" } : Jvm.MethodName) jdk_48_method_9_code (6 : Nat) (Option.some Jvm.ClassFile.FieldType.int)).before args0 about1 = true := code_word (m := ⟨6, 2⟩) (meth := k6m2) (c := k6c2) (by decide +kernel) rfl rfl rfl (by decide +kernel)
set_option maxRecDepth 65536 in
theorem w_c8 : (Jvm.Cond.code ({ cls := "com/example/meshwright/meshwright/grid/SubcubeList", name := "add", desc := "(ILcom/example/meshwright/meshwright/grid/Subcube;)V" } : Jvm.MethodName) prog_121_method_4_code (5 : Nat) (Option.none : Option Jvm.ClassFile.FieldType)).before args0 about1 = true := code_word (m := ⟨2, 1⟩) (meth := k2m1) (c := k2c1) (by decide +kernel) rfl rfl rfl (by decide +kernel)
set_option maxRecDepth 65536 in
theorem w_c9 : (Jvm.Cond.code ({ cls := "com/example/meshwright/meshwright/grid/Subcube", name := "start", desc := "(I)I" } : Jvm.MethodName) prog_120_method_3_code (2 : Nat) (Option.some Jvm.ClassFile.FieldType.int)).before args0 about1 = true := code_word (m := ⟨3, 1⟩) (meth := k3m1) (c := k3c1) (by decide +kernel) rfl rfl rfl (by decide +kernel)
set_option maxRecDepth 65536 in
theorem w_c10 : (Jvm.Cond.code ({ cls := "com/example/meshwright/meshwright/grid/Subcube", name := "count", desc := "(I)I" } : Jvm.MethodName) prog_120_method_4_code (2 : Nat) (Option.some Jvm.ClassFile.FieldType.int)).before args0 about1 = true := code_word (m := ⟨3, 2⟩) (meth := k3m2) (c := k3c2) (by decide +kernel) rfl rfl rfl (by decide +kernel)
set_option maxRecDepth 65536 in
theorem w_c11 : (Jvm.Cond.code ({ cls := "com/example/meshwright/meshwright/grid/SubcubeList", name := "firstMeeting", desc := "([I[I[I)I" } : Jvm.MethodName) prog_121_method_7_code (14 : Nat) (Option.some Jvm.ClassFile.FieldType.int)).before args0 about1 = true := code_word (m := ⟨2, 2⟩) (meth := k2m2) (c := k2c2) (by decide +kernel) rfl rfl rfl (by decide +kernel)
set_option maxRecDepth 65536 in
theorem w_c12 : (Jvm.Cond.code ({ cls := "com/example/meshwright/meshwright/grid/SubcubeListFirstMeetingPinLaw", name := "meets", desc := "(I[I[I[I[I)Z" } : Jvm.MethodName) method_5_code (5 : Nat) (Option.some Jvm.ClassFile.FieldType.boolean)).before args0 about1 = true := code_word (m := ⟨1, 4⟩) (meth := k1m4) (c := k1c4) (by decide +kernel) rfl rfl rfl (by decide +kernel)
set_option maxRecDepth 65536 in
theorem w_c13 : (Jvm.Cond.code ({ cls := "com/example/meshwright/meshwright/grid/SubcubeListFirstMeetingPinLaw", name := "dim", desc := "(IIIII)Z" } : Jvm.MethodName) method_4_code (5 : Nat) (Option.some Jvm.ClassFile.FieldType.boolean)).before args0 about1 = true := code_word (m := ⟨1, 3⟩) (meth := k1m3) (c := k1c3) (by decide +kernel) rfl rfl rfl (by decide +kernel)
set_option maxRecDepth 65536 in
theorem w_c14 : (Jvm.Cond.code ({ cls := "com/example/meshwright/meshwright/grid/SubcubeListFirstMeetingPinLaw", name := "overlap", desc := "(IIII)Z" } : Jvm.MethodName) method_3_code (4 : Nat) (Option.some Jvm.ClassFile.FieldType.boolean)).before args0 about1 = true := code_word (m := ⟨1, 2⟩) (meth := k1m2) (c := k1c2) (by decide +kernel) rfl rfl rfl (by decide +kernel)
set_option maxRecDepth 65536 in
theorem w_c15 : (Jvm.Cond.code ({ cls := "java/lang/Math", name := "max", desc := "(II)I" } : Jvm.MethodName) jdk_29_method_65_code (2 : Nat) (Option.some Jvm.ClassFile.FieldType.int)).before args0 about1 = true := code_word (m := ⟨8, 1⟩) (meth := k8m1) (c := k8c1) (by decide +kernel) rfl rfl rfl (by decide +kernel)
set_option maxRecDepth 65536 in
theorem w_c16 : (Jvm.Cond.code ({ cls := "java/lang/Math", name := "min", desc := "(II)I" } : Jvm.MethodName) jdk_29_method_69_code (2 : Nat) (Option.some Jvm.ClassFile.FieldType.int)).before args0 about1 = true := code_word (m := ⟨8, 2⟩) (meth := k8m2) (c := k8c2) (by decide +kernel) rfl rfl rfl (by decide +kernel)
def codes1 : List Jvm.Cond := [Jvm.Cond.code x code maxLocals ret, Jvm.Cond.code ({ cls := "com/example/meshwright/meshwright/grid/SubcubeListFirstMeetingPinLaw", name := "nib", desc := "(JI)I" } : Jvm.MethodName) method_2_code (3 : Nat) (Option.some Jvm.ClassFile.FieldType.int), Jvm.Cond.code ({ cls := "com/example/meshwright/meshwright/grid/SubcubeList", name := "<init>", desc := "(II)V" } : Jvm.MethodName) prog_121_method_1_code (3 : Nat) (Option.none : Option Jvm.ClassFile.FieldType), Jvm.Cond.code ({ cls := "java/lang/Object", name := "<init>", desc := "()V" } : Jvm.MethodName) object_method_1_code (1 : Nat) (Option.none : Option Jvm.ClassFile.FieldType), Jvm.Cond.code ({ cls := "com/example/meshwright/meshwright/grid/Subcube", name := "<init>", desc := "([I[I)V" } : Jvm.MethodName) prog_120_method_1_code (9 : Nat) (Option.none : Option Jvm.ClassFile.FieldType), Jvm.Cond.code ({ cls := "java/util/Arrays", name := "hashCode", desc := "([I)I" } : Jvm.MethodName) jdk_65_method_150_code (1 : Nat) (Option.some Jvm.ClassFile.FieldType.int), Jvm.Cond.code ({ cls := "jdk/internal/util/ArraysSupport", name := "vectorizedHashCode", desc := "(Ljava/lang/Object;IIII)I" } : Jvm.MethodName) jdk_48_method_4_code (5 : Nat) (Option.some Jvm.ClassFile.FieldType.int), Jvm.Cond.code ({ cls := "jdk/internal/util/ArraysSupport", name := "hashCode", desc := "(I[III)I" } : Jvm.MethodName) jdk_48_method_9_code (6 : Nat) (Option.some Jvm.ClassFile.FieldType.int), Jvm.Cond.code ({ cls := "com/example/meshwright/meshwright/grid/SubcubeList", name := "add", desc := "(ILcom/example/meshwright/meshwright/grid/Subcube;)V" } : Jvm.MethodName) prog_121_method_4_code (5 : Nat) (Option.none : Option Jvm.ClassFile.FieldType), Jvm.Cond.code ({ cls := "com/example/meshwright/meshwright/grid/Subcube", name := "start", desc := "(I)I" } : Jvm.MethodName) prog_120_method_3_code (2 : Nat) (Option.some Jvm.ClassFile.FieldType.int), Jvm.Cond.code ({ cls := "com/example/meshwright/meshwright/grid/Subcube", name := "count", desc := "(I)I" } : Jvm.MethodName) prog_120_method_4_code (2 : Nat) (Option.some Jvm.ClassFile.FieldType.int), Jvm.Cond.code ({ cls := "com/example/meshwright/meshwright/grid/SubcubeList", name := "firstMeeting", desc := "([I[I[I)I" } : Jvm.MethodName) prog_121_method_7_code (14 : Nat) (Option.some Jvm.ClassFile.FieldType.int), Jvm.Cond.code ({ cls := "com/example/meshwright/meshwright/grid/SubcubeListFirstMeetingPinLaw", name := "meets", desc := "(I[I[I[I[I)Z" } : Jvm.MethodName) method_5_code (5 : Nat) (Option.some Jvm.ClassFile.FieldType.boolean), Jvm.Cond.code ({ cls := "com/example/meshwright/meshwright/grid/SubcubeListFirstMeetingPinLaw", name := "dim", desc := "(IIIII)Z" } : Jvm.MethodName) method_4_code (5 : Nat) (Option.some Jvm.ClassFile.FieldType.boolean), Jvm.Cond.code ({ cls := "com/example/meshwright/meshwright/grid/SubcubeListFirstMeetingPinLaw", name := "overlap", desc := "(IIII)Z" } : Jvm.MethodName) method_3_code (4 : Nat) (Option.some Jvm.ClassFile.FieldType.boolean), Jvm.Cond.code ({ cls := "java/lang/Math", name := "max", desc := "(II)I" } : Jvm.MethodName) jdk_29_method_65_code (2 : Nat) (Option.some Jvm.ClassFile.FieldType.int), Jvm.Cond.code ({ cls := "java/lang/Math", name := "min", desc := "(II)I" } : Jvm.MethodName) jdk_29_method_69_code (2 : Nat) (Option.some Jvm.ClassFile.FieldType.int)]
set_option maxRecDepth 65536 in
theorem codes_eq : words1.filter isCode = codes1 := rfl
theorem w_codes : ∀ c ∈ words1.filter isCode, c.before args0 about1 = true := by
  rw [codes_eq]
  intro c hc
  simp only [codes1, List.mem_cons, List.not_mem_nil, or_false] at hc
  rcases hc with rfl | rfl | rfl | rfl | rfl | rfl | rfl | rfl | rfl | rfl | rfl | rfl | rfl | rfl | rfl | rfl | rfl
  · exact w_c0
  · exact w_c1
  · exact w_c2
  · exact w_c3
  · exact w_c4
  · exact w_c5
  · exact w_c6
  · exact w_c7
  · exact w_c8
  · exact w_c9
  · exact w_c10
  · exact w_c11
  · exact w_c12
  · exact w_c13
  · exact w_c14
  · exact w_c15
  · exact w_c16
set_option maxRecDepth 65536 in
theorem w_t1 : (words1.take 24).all (fun c => isCode c || c.before args0 about1) = true := by decide +kernel
set_option maxRecDepth 65536 in
theorem w_t2 : ((words1.drop 24).take 24).all (fun c => isCode c || c.before args0 about1) = true := by decide +kernel
set_option maxRecDepth 65536 in
theorem w_t3 : (((words1.drop 24).drop 24).take 24).all (fun c => isCode c || c.before args0 about1) = true := by decide +kernel
set_option maxRecDepth 65536 in
theorem w_t4 : ((((words1.drop 24).drop 24).drop 24).take 24).all (fun c => isCode c || c.before args0 about1) = true := by decide +kernel
set_option maxRecDepth 65536 in
theorem w_t5 : ((((words1.drop 24).drop 24).drop 24).drop 24).all (fun c => isCode c || c.before args0 about1) = true := by decide +kernel
theorem w_tables : (allAtoms (Jvm.Cond.code x code maxLocals ret :: tables_1)).before args0 about1 = true := by
  rw [allAtoms_all]
  show words1.all (fun c => c.before args0 about1) = true
  refine all_split ?_ w_codes
  rw [← List.take_append_drop 24 words1, List.all_append, w_t1, ← List.take_append_drop 24 (words1.drop 24), List.all_append, w_t2, ← List.take_append_drop 24 ((words1.drop 24).drop 24), List.all_append, w_t3, ← List.take_append_drop 24 (((words1.drop 24).drop 24).drop 24), List.all_append, w_t4, w_t5]
  rfl
set_option maxRecDepth 65536 in
theorem w_case : (Jvm.Cond.and given_1 narrow_1).before args0 about1 = true := by decide +kernel
theorem w_applies : (headSpec (Jvm.Cond.code x code maxLocals ret :: tables_1) room_1).applies x e0.platform about1 = true :=
  (Spec.applies_iff w_frames).mpr ⟨w_running, w_runnable, w_alone, w_named, w_hears, w_ripe, w_room, w_tables⟩
theorem atStart : AtStart classFile x code maxLocals ret World_1 tables_1 room_1 Calls_1 rest_1 Pre_1 launch0 p0 e0 about1 theMethod args0 below0 :=
  ⟨lists_1, trivial, launch0.admits_env _ _ _, launch0.least_env, fairChoices_fair.cas, fairChoices_fair.clock, w_frames, w_args, w_heap, w_applies, trivial, trivial, w_case⟩
end start1
theorem witness_1 : WitnessClaimed_1 := ⟨start1.p0, start1.e0, start1.about1, start1.theMethod, start1.args0, start1.below0, start1.atStart⟩
end Jvm.Pilot.@@N@@
