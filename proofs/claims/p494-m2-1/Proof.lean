import JvmDerived
import JvmDerived.Pilot.@@N@@Statement
import JvmDerived.Pilot.@@N@@Code
set_option linter.unusedVariables false
set_option linter.unusedSimpArgs false
namespace Jvm.Pilot.@@N@@
open Jvm Jvm.ClassFile Sem Op Lib Jvm.Free Jvm.Stand Jvm.LawKit Jvm.RoadKit Bundle Jvm.Pilot.@@N@@.Jvm.D
/-! A small walker over the library's laws (own text): objects made by the law are kept as a list H; the object k lies at the address n0 + k. -/
abbrev GLay : Type := String × List (String × String × String × FieldType)
abbrev GObj : Type := (GLay × List Value) ⊕ (FieldType × List Value)
abbrev GM : Type := MethodName × ByteArray × Nat × Option FieldType
def LayOk (Z : State) (a0 : Array Value) (K : GLay) : Prop :=
  (∃ kk, (Jvm.Cond.instantiable K.1 kk).before a0 Z = true) ∧ (∀ q ∈ K.2, Laid Z a0 K.1 q.1 q.2.1 q.2.2.1 ∧ parseFieldDescriptor q.2.2.1 = some q.2.2.2) ∧ (K.2.map fun q => q.2.1).Nodup
def Ob (Z : State) (a0 : Array Value) (h : Heap) (a : Addr) : GObj → Prop
  | .inl (K, vs) => LayOk Z a0 K ∧ Exa Z h a K.1 ∧ ∀ (i : Nat) (q : String × String × String × FieldType) (v : Value), K.2[i]? = some q → vs[i]? = some v → Fld Z h a q.1 q.2.1 q.2.2.1 v
  | .inr (ty, vs) => ∃ c : Cell, Arr Z h a c ty ∧ c.slots = vs.toArray ∧ (∀ v ∈ vs, fits ty v = true) ∧ Exa Z h a ("[" ++ ty.toString) ∧ ∀ C, ty = .object C → Ovr Z c.cls C
theorem Ob.ext {Z : State} {a0 : Array Value} {h h' : Heap} {a : Addr} {o : GObj} (E : Ext h h') (F : Ob Z a0 h a o) : Ob Z a0 h' a o := by
  rcases o with ⟨K, vs⟩ | ⟨ty, vs⟩
  · exact ⟨F.1, F.2.1.ext E, fun i q v h1 h2 => (F.2.2 i q v h1 h2).ext E⟩
  · obtain ⟨c, h1, h2, h3, h4, h5⟩ := F
    exact ⟨c, h1.ext E, h2, h3, h4.ext E, h5⟩
theorem Ob.other {Z : State} {a0 : Array Value} {h h' : Heap} {a b : Addr} {sl : Nat} {v : Value} {o : GObj} (W : Wr h h' b sl v) (ne : a ≠ b) (F : Ob Z a0 h a o) : Ob Z a0 h' a o := by
  rcases o with ⟨K, vs⟩ | ⟨ty, vs⟩
  · exact ⟨F.1, F.2.1.wr W, fun i q v h1 h2 => (F.2.2 i q v h1 h2).other W (Or.inl ne)⟩
  · obtain ⟨c, h1, h2, h3, h4, h5⟩ := F
    exact ⟨c, h1.other W ne, h2, h3, h4.wr W, h5⟩
def Sat (Z : State) (a0 : Array Value) (n0 : Nat) (h : Heap) (H : List GObj) : Prop :=
  Z.heap.size = n0 ∧ Ext Z.heap h ∧ h.size = n0 + H.length ∧ ∀ (k : Nat) (o : GObj), H[k]? = some o → Ob Z a0 h (n0 + k) o
theorem Sat.push {Z : State} {a0 : Array Value} {n0 : Nat} {h h' : Heap} {H : List GObj} {o : GObj} (S : Sat Z a0 n0 h H) (E : Ext h h') (hs : h'.size = h.size + 1) (F : Ob Z a0 h' h.size o) : Sat Z a0 n0 h' (H ++ [o]) := by
  obtain ⟨s1, s2, s3, s4⟩ := S
  refine ⟨s1, ⟨Nat.le_trans s2.1 E.1, fun a c q => E.2 a c (s2.2 a c q)⟩, by simp [hs, s3]; omega, fun k o' hk => ?_⟩
  rcases Nat.lt_trichotomy k H.length with q | q | q
  · rw [List.getElem?_append_left q] at hk
    exact (s4 k o' hk).ext E
  · subst q
    simp at hk
    subst hk
    rw [← s3]; exact F
  · rw [List.getElem?_eq_none (by simp; omega)] at hk; cases hk
theorem Sat.put {Z : State} {a0 : Array Value} {n0 : Nat} {h h' : Heap} {H : List GObj} {k sl : Nat} {v : Value} {o : GObj} (S : Sat Z a0 n0 h H) (W : Wr h h' (n0 + k) sl v) (F : Ob Z a0 h' (n0 + k) o) : Sat Z a0 n0 h' (H.set k o) := by
  obtain ⟨s1, s2, s3, s4⟩ := S
  refine ⟨s1, ⟨by rw [W.size]; exact s2.1, fun a c q => ?_⟩, by rw [W.size, s3]; simp, fun j o' hj => ?_⟩
  · obtain ⟨c', e1, -, -, -, e5, -⟩ := wr_at W (s2.2 a c q)
    have hlt := (Array.getElem?_eq_some_iff.mp q).1
    rw [← e5 (by intro q; subst q; rw [s1] at hlt; exact absurd hlt (by exact Nat.not_lt.mpr (Nat.le_add_right _ _)))]; exact e1
  · rw [List.getElem?_set] at hj
    split at hj
    · rename_i e
      subst e
      split at hj
      · cases hj; exact F
      · cases hj
    · rename_i ne
      exact (s4 j o' hj).other W (fun q => ne (Nat.add_left_cancel q).symm)
theorem Sat.lt {Z : State} {a0 : Array Value} {n0 : Nat} {h : Heap} {H : List GObj} (S : Sat Z a0 n0 h H) {k : Nat} {o : GObj} (q : H[k]? = some o) : n0 + k < h.size := by
  have := (List.getElem?_eq_some_iff.mp q).1
  have := S.2.2.1
  omega
/-- what a walk's frame stands in -/
def Cx (Z : State) (M : GM) (p : Program) (s : State) (m : MethodId) (meth : Method) (c : Code) : Prop :=
  p.tables.exec = Jvm.exec ∧ Z.Warmed39 s.vm ∧ c.code = M.2.1 ∧ c.maxLocals = M.2.2.1 ∧ meth.sig.returnType = M.2.2.2 ∧ meth.locks = false ∧ s.vm.findClass M.1.cls = some m.cls ∧ meth.name = M.1.name
def End (Z : State) (a0 : Array Value) (n0 : Nat) (R : Room) (Q : Option Value → List GObj → Prop) (p : Program) (e : Env) (s : State) (below : List Frame) (S0 : State) : Prop :=
  ∃ s₂ o, Steps p.tables e below S0 s₂ ∧ s₂.status = .running ∧ Ended s₂ below o ∧ ∃ v L', o = .returned v ∧ (∃ H', Q v H' ∧ Sat Z a0 n0 s₂.heap H' ∧ Fr n0 L') ∧ FrameEnd s o s₂ L' R.cells R.slots
theorem End.back {Z : State} {a0 : Array Value} {n0 : Nat} {R : Room} {Q : Option Value → List GObj → Prop} {p : Program} {e : Env} {s : State} {below : List Frame} {S0 S1 : State} (st : ∀ t, Steps p.tables e below S1 t → Steps p.tables e below S0 t) (h : End Z a0 n0 R Q p e s below S1) : End Z a0 n0 R Q p e s below S0 := by
  obtain ⟨s₂, o, h1, r⟩ := h
  exact ⟨s₂, o, st _ h1, r⟩
/-- from this point the walk comes to its end, and what it leaves meets Q -/
def Go (Z : State) (a0 : Array Value) (n0 : Nat) (M : GM) (R : Room) (Q : Option Value → List GObj → Prop) (pc : Nat) (L : List Slot) (st : List Value) (H : List GObj) (ce sl : Nat) : Prop :=
  ∀ (p : Program) (l : Launch) (e : Env) (s : State) (m : MethodId) (args : Array Value) (below : List Frame) (meth : Method) (c : Code) (T : State) (locs : List Loc),
    Stand p l e R s m args below meth c T locs ce sl → Cx Z M p s m meth c → Sat Z a0 n0 T.heap H → s.heap.size + ce = n0 + H.length → Fr n0 locs → End Z a0 n0 R Q p e s below (T.setTop (mkF m pc L.toArray st))
/-- the instruction at pc, its length, what lies behind -/
def Ins (M : GM) (pc : Nat) (i : Instr) (n pc' : Nat) : Prop := decode M.2.1 pc = .ok (i, n) ∧ pc + n = pc'
section Rules
variable {Z : State} {a0 : Array Value} {n0 : Nat} {M : GM} {R : Room} {Q : Option Value → List GObj → Prop} {pc pc' : Nat} {L : List Slot} {st : List Value} {H : List GObj} {ce sl : Nat}
theorem go_pure {L' : List Slot} {st' : List Value} (hs : ∀ (p : Program) (e : Env) (m : MethodId) (below : List Frame) (c : Code) (T t : State), At T m c below → p.tables.exec = Jvm.exec → c.code = M.2.1 → Steps p.tables e below (T.setTop (mkF m pc' L'.toArray st')) t → Steps p.tables e below (T.setTop (mkF m pc L.toArray st)) t)
    (h : Go Z a0 n0 M R Q pc' L' st' H ce sl) : Go Z a0 n0 M R Q pc L st H ce sl := fun p l e s m args below meth c T locs X C S E F =>
  (h p l e s m args below meth c T locs X C S E F).back fun t k => hs p e m below c T t X.here C.1 C.2.2.1 k
end Rules
section Rules
variable {Z : State} {a0 : Array Value} {n0 : Nat} {M : GM} {R : Room} {Q : Option Value → List GObj → Prop} {pc pc' : Nat} {L : List Slot} {st : List Value} {H : List GObj} {ce sl : Nat}
theorem go_aloadN {k : Fin 4} {v : Addr} (hd : Ins M pc (.aload_n k) 1 pc') (hl : L[k.val]? = some (.val (.ref v))) (h : Go Z a0 n0 M R Q pc' L (.ref v :: st) H ce sl) : Go Z a0 n0 M R Q pc L st H ce sl := by
  obtain ⟨hd, rfl⟩ := hd
  exact go_pure (fun p e m below c T t hA hx hy k => XS.aloadN hA hx rfl (hb hy hd) (by simpa using hl) rfl k) h
theorem go_aload {k : Nat} {v : Addr} (hd : Ins M pc (.aload k) 2 pc') (hl : L[k]? = some (.val (.ref v))) (h : Go Z a0 n0 M R Q pc' L (.ref v :: st) H ce sl) : Go Z a0 n0 M R Q pc L st H ce sl := by
  obtain ⟨hd, rfl⟩ := hd
  exact go_pure (fun p e m below c T t hA hx hy k => XS.aload hA hx rfl (hb hy hd) (by simpa using hl) rfl k) h
theorem go_aloadNull {k : Fin 4} (hd : Ins M pc (.aload_n k) 1 pc') (hl : L[k.val]? = some (.val .null)) (h : Go Z a0 n0 M R Q pc' L (.null :: st) H ce sl) : Go Z a0 n0 M R Q pc L st H ce sl := by
  obtain ⟨hd, rfl⟩ := hd
  exact go_pure (fun p e m below c T t hA hx hy k => XS.aloadN hA hx rfl (hb hy hd) (by simpa using hl) rfl k) h
theorem go_iloadN {k : Fin 4} {v : Int32} (hd : Ins M pc (.iload_n k) 1 pc') (hl : L[k.val]? = some (.val (.int v))) (h : Go Z a0 n0 M R Q pc' L (.int v :: st) H ce sl) : Go Z a0 n0 M R Q pc L st H ce sl := by
  obtain ⟨hd, rfl⟩ := hd
  exact go_pure (fun p e m below c T t hA hx hy k => XS.iloadN hA hx rfl (hb hy hd) (by simpa using hl) k) h
theorem go_iload {k : Nat} {v : Int32} (hd : Ins M pc (.iload k) 2 pc') (hl : L[k]? = some (.val (.int v))) (h : Go Z a0 n0 M R Q pc' L (.int v :: st) H ce sl) : Go Z a0 n0 M R Q pc L st H ce sl := by
  obtain ⟨hd, rfl⟩ := hd
  exact go_pure (fun p e m below c T t hA hx hy k => XS.iload hA hx rfl (hb hy hd) (by simpa using hl) k) h
theorem go_lloadN {k : Fin 4} {v : Int64} (hd : Ins M pc (.lload_n k) 1 pc') (hl : L[k.val]? = some (.val (.long v))) (h : Go Z a0 n0 M R Q pc' L (.long v :: st) H ce sl) : Go Z a0 n0 M R Q pc L st H ce sl := by
  obtain ⟨hd, rfl⟩ := hd
  exact go_pure (fun p e m below c T t hA hx hy k => XT.lloadN hA hx rfl (hb hy hd) (by simpa using hl) k) h
theorem go_lload {k : Nat} {v : Int64} (hd : Ins M pc (.lload k) 2 pc') (hl : L[k]? = some (.val (.long v))) (h : Go Z a0 n0 M R Q pc' L (.long v :: st) H ce sl) : Go Z a0 n0 M R Q pc L st H ce sl := by
  obtain ⟨hd, rfl⟩ := hd
  exact go_pure (fun p e m below c T t hA hx hy k => XT.lload hA hx rfl (hb hy hd) (by simpa using hl) k) h
theorem go_iconst {i : Int} {v : Int32} (hd : Ins M pc (.iconst i) 1 pc') (hv : Int32.ofInt i = v) (h : Go Z a0 n0 M R Q pc' L (.int v :: st) H ce sl) : Go Z a0 n0 M R Q pc L st H ce sl := by
  obtain ⟨hd, rfl⟩ := hd
  exact go_pure (fun p e m below c T t hA hx hy k => XS.iconst hA hx rfl (hb hy hd) (by rw [hv]; exact k)) h
theorem go_bipush {i : Int} {v : Int32} (hd : Ins M pc (.bipush i) 2 pc') (hv : (Int8.ofInt i).toInt32 = v) (h : Go Z a0 n0 M R Q pc' L (.int v :: st) H ce sl) : Go Z a0 n0 M R Q pc L st H ce sl := by
  obtain ⟨hd, rfl⟩ := hd
  exact go_pure (fun p e m below c T t hA hx hy k => XS.bipush hA hx rfl (hb hy hd) (by rw [hv]; exact k)) h
theorem go_sipush {i : Int} {v : Int32} (hd : Ins M pc (.sipush i) 3 pc') (hv : (Int16.ofInt i).toInt32 = v) (h : Go Z a0 n0 M R Q pc' L (.int v :: st) H ce sl) : Go Z a0 n0 M R Q pc L st H ce sl := by
  obtain ⟨hd, rfl⟩ := hd
  exact go_pure (fun p e m below c T t hA hx hy k => XS.sipush hA hx rfl (hb hy hd) (by rw [hv]; exact k)) h
theorem go_lconst {i : Fin 2} {v : Int64} (hd : Ins M pc (.lconst i) 1 pc') (hv : Int64.ofNat i = v) (h : Go Z a0 n0 M R Q pc' L (.long v :: st) H ce sl) : Go Z a0 n0 M R Q pc L st H ce sl := by
  obtain ⟨hd, rfl⟩ := hd
  exact go_pure (fun p e m below c T t hA hx hy k => XT.lconst hA hx rfl (hb hy hd) (by rw [hv]; exact k)) h
theorem go_aconstNull  (hd : Ins M pc (.aconst_null) 1 pc') (h : Go Z a0 n0 M R Q pc' L (.null :: st) H ce sl) : Go Z a0 n0 M R Q pc L st H ce sl := by
  obtain ⟨hd, rfl⟩ := hd
  exact go_pure (fun p e m below c T t hA hx hy k => XS.aconstNull hA hx rfl (hb hy hd) k) h
theorem go_iadd {x y : Int32} (hd : Ins M pc (.iadd) 1 pc') (h : Go Z a0 n0 M R Q pc' L (.int (x + y) :: st) H ce sl) : Go Z a0 n0 M R Q pc L (.int y :: .int x :: st) H ce sl := by
  obtain ⟨hd, rfl⟩ := hd
  exact go_pure (fun p e m below c T t hA hx hy k => XS.iadd hA hx rfl (hb hy hd) rfl k) h
theorem go_isub {x y : Int32} (hd : Ins M pc (.isub) 1 pc') (h : Go Z a0 n0 M R Q pc' L (.int (x - y) :: st) H ce sl) : Go Z a0 n0 M R Q pc L (.int y :: .int x :: st) H ce sl := by
  obtain ⟨hd, rfl⟩ := hd
  exact go_pure (fun p e m below c T t hA hx hy k => XS.isub hA hx rfl (hb hy hd) rfl k) h
theorem go_imul {x y : Int32} (hd : Ins M pc (.imul) 1 pc') (h : Go Z a0 n0 M R Q pc' L (.int (x * y) :: st) H ce sl) : Go Z a0 n0 M R Q pc L (.int y :: .int x :: st) H ce sl := by
  obtain ⟨hd, rfl⟩ := hd
  exact go_pure (fun p e m below c T t hA hx hy k => XS.imul hA hx rfl (hb hy hd) rfl k) h
theorem go_iand {x y : Int32} (hd : Ins M pc (.iand) 1 pc') (h : Go Z a0 n0 M R Q pc' L (.int (x &&& y) :: st) H ce sl) : Go Z a0 n0 M R Q pc L (.int y :: .int x :: st) H ce sl := by
  obtain ⟨hd, rfl⟩ := hd
  exact go_pure (fun p e m below c T t hA hx hy k => XS.iand hA hx rfl (hb hy hd) rfl k) h
theorem go_ior {x y : Int32} (hd : Ins M pc (.ior) 1 pc') (h : Go Z a0 n0 M R Q pc' L (.int (x ||| y) :: st) H ce sl) : Go Z a0 n0 M R Q pc L (.int y :: .int x :: st) H ce sl := by
  obtain ⟨hd, rfl⟩ := hd
  exact go_pure (fun p e m below c T t hA hx hy k => XT.ior hA hx rfl (hb hy hd) rfl k) h
theorem go_ixor {x y : Int32} (hd : Ins M pc (.ixor) 1 pc') (h : Go Z a0 n0 M R Q pc' L (.int (x ^^^ y) :: st) H ce sl) : Go Z a0 n0 M R Q pc L (.int y :: .int x :: st) H ce sl := by
  obtain ⟨hd, rfl⟩ := hd
  exact go_pure (fun p e m below c T t hA hx hy k => XT.ixor hA hx rfl (hb hy hd) rfl k) h
theorem go_ishl {x y : Int32} (hd : Ins M pc (.ishl) 1 pc') (h : Go Z a0 n0 M R Q pc' L (.int (x <<< (y &&& 31)) :: st) H ce sl) : Go Z a0 n0 M R Q pc L (.int y :: .int x :: st) H ce sl := by
  obtain ⟨hd, rfl⟩ := hd
  exact go_pure (fun p e m below c T t hA hx hy k => XT.ishl hA hx rfl (hb hy hd) rfl k) h
theorem go_ishr {x y : Int32} (hd : Ins M pc (.ishr) 1 pc') (h : Go Z a0 n0 M R Q pc' L (.int (x >>> (y &&& 31)) :: st) H ce sl) : Go Z a0 n0 M R Q pc L (.int y :: .int x :: st) H ce sl := by
  obtain ⟨hd, rfl⟩ := hd
  exact go_pure (fun p e m below c T t hA hx hy k => XT.ishr hA hx rfl (hb hy hd) rfl k) h
theorem go_iushr {x y : Int32} (hd : Ins M pc (.iushr) 1 pc') (h : Go Z a0 n0 M R Q pc' L (.int (XT.ushr x y) :: st) H ce sl) : Go Z a0 n0 M R Q pc L (.int y :: .int x :: st) H ce sl := by
  obtain ⟨hd, rfl⟩ := hd
  exact go_pure (fun p e m below c T t hA hx hy k => XT.iushr hA hx rfl (hb hy hd) rfl k) h
theorem go_idiv {x y : Int32} (hd : Ins M pc (.idiv) 1 pc') (hn : y ≠ 0) (h : Go Z a0 n0 M R Q pc' L (.int (x / y) :: st) H ce sl) : Go Z a0 n0 M R Q pc L (.int y :: .int x :: st) H ce sl := by
  obtain ⟨hd, rfl⟩ := hd
  exact go_pure (fun p e m below c T t hA hx hy k => XS.idiv hA hx rfl (hb hy hd) rfl hn k) h
theorem go_irem {x y : Int32} (hd : Ins M pc (.irem) 1 pc') (hn : y ≠ 0) (h : Go Z a0 n0 M R Q pc' L (.int (x % y) :: st) H ce sl) : Go Z a0 n0 M R Q pc L (.int y :: .int x :: st) H ce sl := by
  obtain ⟨hd, rfl⟩ := hd
  exact go_pure (fun p e m below c T t hA hx hy k => XS.irem hA hx rfl (hb hy hd) rfl hn (by rw [irem_eq_mod]; exact k)) h
theorem go_ineg {x : Int32} (hd : Ins M pc (.ineg) 1 pc') (h : Go Z a0 n0 M R Q pc' L (.int (-x) :: st) H ce sl) : Go Z a0 n0 M R Q pc L (.int x :: st) H ce sl := by
  obtain ⟨hd, rfl⟩ := hd
  exact go_pure (fun p e m below c T t hA hx hy k => XS.ineg hA hx rfl (hb hy hd) rfl k) h
theorem go_ladd {x y : Int64} (hd : Ins M pc (.ladd) 1 pc') (h : Go Z a0 n0 M R Q pc' L (.long (x + y) :: st) H ce sl) : Go Z a0 n0 M R Q pc L (.long y :: .long x :: st) H ce sl := by
  obtain ⟨hd, rfl⟩ := hd
  exact go_pure (fun p e m below c T t hA hx hy k => XT.ladd hA hx rfl (hb hy hd) rfl k) h
theorem go_lsub {x y : Int64} (hd : Ins M pc (.lsub) 1 pc') (h : Go Z a0 n0 M R Q pc' L (.long (x - y) :: st) H ce sl) : Go Z a0 n0 M R Q pc L (.long y :: .long x :: st) H ce sl := by
  obtain ⟨hd, rfl⟩ := hd
  exact go_pure (fun p e m below c T t hA hx hy k => XT.lsub hA hx rfl (hb hy hd) rfl k) h
theorem go_lmul {x y : Int64} (hd : Ins M pc (.lmul) 1 pc') (h : Go Z a0 n0 M R Q pc' L (.long (x * y) :: st) H ce sl) : Go Z a0 n0 M R Q pc L (.long y :: .long x :: st) H ce sl := by
  obtain ⟨hd, rfl⟩ := hd
  exact go_pure (fun p e m below c T t hA hx hy k => XT.lmul hA hx rfl (hb hy hd) rfl k) h
theorem go_land {x y : Int64} (hd : Ins M pc (.land) 1 pc') (h : Go Z a0 n0 M R Q pc' L (.long (x &&& y) :: st) H ce sl) : Go Z a0 n0 M R Q pc L (.long y :: .long x :: st) H ce sl := by
  obtain ⟨hd, rfl⟩ := hd
  exact go_pure (fun p e m below c T t hA hx hy k => XT.land hA hx rfl (hb hy hd) rfl k) h
theorem go_lor {x y : Int64} (hd : Ins M pc (.lor) 1 pc') (h : Go Z a0 n0 M R Q pc' L (.long (x ||| y) :: st) H ce sl) : Go Z a0 n0 M R Q pc L (.long y :: .long x :: st) H ce sl := by
  obtain ⟨hd, rfl⟩ := hd
  exact go_pure (fun p e m below c T t hA hx hy k => XT.lor hA hx rfl (hb hy hd) rfl k) h
theorem go_lxor {x y : Int64} (hd : Ins M pc (.lxor) 1 pc') (h : Go Z a0 n0 M R Q pc' L (.long (x ^^^ y) :: st) H ce sl) : Go Z a0 n0 M R Q pc L (.long y :: .long x :: st) H ce sl := by
  obtain ⟨hd, rfl⟩ := hd
  exact go_pure (fun p e m below c T t hA hx hy k => XT.lxor hA hx rfl (hb hy hd) rfl k) h
theorem go_lshl {x : Int64} {y : Int32} (hd : Ins M pc (.lshl) 1 pc') (h : Go Z a0 n0 M R Q pc' L (.long (x <<< (y.toInt64 &&& 63)) :: st) H ce sl) : Go Z a0 n0 M R Q pc L (.int y :: .long x :: st) H ce sl := by
  obtain ⟨hd, rfl⟩ := hd
  exact go_pure (fun p e m below c T t hA hx hy k => XT.lshl hA hx rfl (hb hy hd) rfl k) h
theorem go_lshr {x : Int64} {y : Int32} (hd : Ins M pc (.lshr) 1 pc') (h : Go Z a0 n0 M R Q pc' L (.long (x >>> (y.toInt64 &&& 63)) :: st) H ce sl) : Go Z a0 n0 M R Q pc L (.int y :: .long x :: st) H ce sl := by
  obtain ⟨hd, rfl⟩ := hd
  exact go_pure (fun p e m below c T t hA hx hy k => XT.lshr hA hx rfl (hb hy hd) rfl k) h
theorem go_lushr {x : Int64} {y : Int32} (hd : Ins M pc (.lushr) 1 pc') (h : Go Z a0 n0 M R Q pc' L (.long (XT.ushrL x y) :: st) H ce sl) : Go Z a0 n0 M R Q pc L (.int y :: .long x :: st) H ce sl := by
  obtain ⟨hd, rfl⟩ := hd
  exact go_pure (fun p e m below c T t hA hx hy k => XT.lushr hA hx rfl (hb hy hd) rfl k) h
theorem go_lcmp {x y : Int64} (hd : Ins M pc (.lcmp) 1 pc') (h : Go Z a0 n0 M R Q pc' L (.int (XT.cmpL x y) :: st) H ce sl) : Go Z a0 n0 M R Q pc L (.long y :: .long x :: st) H ce sl := by
  obtain ⟨hd, rfl⟩ := hd
  exact go_pure (fun p e m below c T t hA hx hy k => XT.lcmp hA hx rfl (hb hy hd) rfl k) h
theorem go_lneg {x : Int64} (hd : Ins M pc (.lneg) 1 pc') (h : Go Z a0 n0 M R Q pc' L (.long (-x) :: st) H ce sl) : Go Z a0 n0 M R Q pc L (.long x :: st) H ce sl := by
  obtain ⟨hd, rfl⟩ := hd
  exact go_pure (fun p e m below c T t hA hx hy k => XT.lneg hA hx rfl (hb hy hd) rfl k) h
theorem go_i2l {x : Int32} (hd : Ins M pc (.i2l) 1 pc') (h : Go Z a0 n0 M R Q pc' L (.long x.toInt64 :: st) H ce sl) : Go Z a0 n0 M R Q pc L (.int x :: st) H ce sl := by
  obtain ⟨hd, rfl⟩ := hd
  exact go_pure (fun p e m below c T t hA hx hy k => XT.i2l hA hx rfl (hb hy hd) rfl k) h
theorem go_l2i {x : Int64} (hd : Ins M pc (.l2i) 1 pc') (h : Go Z a0 n0 M R Q pc' L (.int x.toInt32 :: st) H ce sl) : Go Z a0 n0 M R Q pc L (.long x :: st) H ce sl := by
  obtain ⟨hd, rfl⟩ := hd
  exact go_pure (fun p e m below c T t hA hx hy k => XT.l2i hA hx rfl (hb hy hd) rfl k) h
theorem go_i2b {x : Int32} (hd : Ins M pc (.i2b) 1 pc') (h : Go Z a0 n0 M R Q pc' L (.int x.toInt8.toInt32 :: st) H ce sl) : Go Z a0 n0 M R Q pc L (.int x :: st) H ce sl := by
  obtain ⟨hd, rfl⟩ := hd
  exact go_pure (fun p e m below c T t hA hx hy k => XT.i2b hA hx rfl (hb hy hd) rfl k) h
theorem go_i2c {x : Int32} (hd : Ins M pc (.i2c) 1 pc') (h : Go Z a0 n0 M R Q pc' L (.int x.toUInt32.toUInt16.toUInt32.toInt32 :: st) H ce sl) : Go Z a0 n0 M R Q pc L (.int x :: st) H ce sl := by
  obtain ⟨hd, rfl⟩ := hd
  exact go_pure (fun p e m below c T t hA hx hy k => XT.i2c hA hx rfl (hb hy hd) rfl k) h
theorem go_dup {x : Value} (hd : Ins M pc (.dup) 1 pc') (hc : x.category = 1) (h : Go Z a0 n0 M R Q pc' L (x :: x :: st) H ce sl) : Go Z a0 n0 M R Q pc L (x :: st) H ce sl := by
  obtain ⟨hd, rfl⟩ := hd
  exact go_pure (fun p e m below c T t hA hx hy k => XS.dup hA hx rfl (hb hy hd) rfl hc k) h
theorem go_pop {x : Value} (hd : Ins M pc (.pop) 1 pc') (hc : x.category = 1) (h : Go Z a0 n0 M R Q pc' L st H ce sl) : Go Z a0 n0 M R Q pc L (x :: st) H ce sl := by
  obtain ⟨hd, rfl⟩ := hd
  exact go_pure (fun p e m below c T t hA hx hy k => XT.pop hA hx rfl (hb hy hd) rfl hc k) h
theorem go_dupX1 {x y : Value} (hd : Ins M pc (.dup_x1) 1 pc') (hc : x.category = 1) (hc' : y.category = 1) (h : Go Z a0 n0 M R Q pc' L (x :: y :: x :: st) H ce sl) : Go Z a0 n0 M R Q pc L (x :: y :: st) H ce sl := by
  obtain ⟨hd, rfl⟩ := hd
  exact go_pure (fun p e m below c T t hA hx hy k => XT.dupX1 hA hx rfl (hb hy hd) rfl hc hc' k) h
theorem go_dup2 {x y : Value} (hd : Ins M pc (.dup2) 1 pc') (hc : x.category = 1) (hc' : y.category = 1) (h : Go Z a0 n0 M R Q pc' L (x :: y :: x :: y :: st) H ce sl) : Go Z a0 n0 M R Q pc L (x :: y :: st) H ce sl := by
  obtain ⟨hd, rfl⟩ := hd
  exact go_pure (fun p e m below c T t hA hx hy k => XT.dup2 hA hx rfl (hb hy hd) rfl hc hc' k) h
theorem go_goto {o : Int} (t : Nat) (hd : Ins M pc (.goto o) 3 pc') (ht : (pc : Int) + o = (t : Int)) (h : Go Z a0 n0 M R Q t L st H ce sl) : Go Z a0 n0 M R Q pc L st H ce sl := by
  obtain ⟨hd, rfl⟩ := hd
  exact go_pure (fun p e m below c T u hA hx hy k => XS.goto hA hx rfl (pc0 := pc) (pc' := t) rfl (hb hy hd) (by omega) (by omega) k) h
theorem go_if {cd : ClassFile.Cond} {o : Int} {x : Int32} (t : Nat) (hd : Ins M pc (.ifCond cd o) 3 pc') (ht : (pc : Int) + o = (t : Int)) (h1 : ifCond.holds cd x = true → Go Z a0 n0 M R Q t L st H ce sl) (h2 : ifCond.holds cd x = false → Go Z a0 n0 M R Q pc' L st H ce sl) : Go Z a0 n0 M R Q pc L (.int x :: st) H ce sl := by
  obtain ⟨hd, rfl⟩ := hd
  cases hc : ifCond.holds cd x
  · exact go_pure (fun p e m below c T u hA hx hy k => XS.ifNo hA hx rfl (hb hy hd) rfl hc k) (h2 hc)
  · exact go_pure (fun p e m below c T u hA hx hy k => XS.ifYes hA hx rfl (pc0 := pc) (pc' := t) rfl (hb hy hd) rfl hc (by omega) (by omega) k) (h1 hc)
theorem go_icmp {cd : ClassFile.Cond} {o : Int} {x y : Int32} (t : Nat) (hd : Ins M pc (.if_icmp cd o) 3 pc') (ht : (pc : Int) + o = (t : Int)) (h1 : if_icmp.holds cd x y = true → Go Z a0 n0 M R Q t L st H ce sl) (h2 : if_icmp.holds cd x y = false → Go Z a0 n0 M R Q pc' L st H ce sl) : Go Z a0 n0 M R Q pc L (.int y :: .int x :: st) H ce sl := by
  obtain ⟨hd, rfl⟩ := hd
  cases hc : if_icmp.holds cd x y
  · exact go_pure (fun p e m below c T u hA hx hy k => XS.icmpNo hA hx rfl (hb hy hd) rfl hc k) (h2 hc)
  · exact go_pure (fun p e m below c T u hA hx hy k => XS.icmpYes hA hx rfl (pc0 := pc) (pc' := t) rfl (hb hy hd) rfl hc (by omega) (by omega) k) (h1 hc)
theorem go_icmpT {cd : ClassFile.Cond} {o : Int} {x y : Int32} (t : Nat) (hd : Ins M pc (.if_icmp cd o) 3 pc') (ht : (pc : Int) + o = (t : Int)) (hc : if_icmp.holds cd x y = true) (h : Go Z a0 n0 M R Q t L st H ce sl) : Go Z a0 n0 M R Q pc L (.int y :: .int x :: st) H ce sl := go_icmp t hd ht (fun _ => h) (fun q => by rw [hc] at q; cases q)
theorem go_icmpF {cd : ClassFile.Cond} {o : Int} {x y : Int32} (hd : Ins M pc (.if_icmp cd o) 3 pc') (hc : if_icmp.holds cd x y = false) (h : Go Z a0 n0 M R Q pc' L st H ce sl) : Go Z a0 n0 M R Q pc L (.int y :: .int x :: st) H ce sl := by
  obtain ⟨hd, rfl⟩ := hd
  exact go_pure (fun p e m below c T u hA hx hy k => XS.icmpNo hA hx rfl (hb hy hd) rfl hc k) h
theorem go_ifT {cd : ClassFile.Cond} {o : Int} {x : Int32} (t : Nat) (hd : Ins M pc (.ifCond cd o) 3 pc') (ht : (pc : Int) + o = (t : Int)) (hc : ifCond.holds cd x = true) (h : Go Z a0 n0 M R Q t L st H ce sl) : Go Z a0 n0 M R Q pc L (.int x :: st) H ce sl := go_if t hd ht (fun _ => h) (fun q => by rw [hc] at q; cases q)
theorem go_ifF {cd : ClassFile.Cond} {o : Int} {x : Int32} (hd : Ins M pc (.ifCond cd o) 3 pc') (hc : ifCond.holds cd x = false) (h : Go Z a0 n0 M R Q pc' L st H ce sl) : Go Z a0 n0 M R Q pc L (.int x :: st) H ce sl := by
  obtain ⟨hd, rfl⟩ := hd
  exact go_pure (fun p e m below c T u hA hx hy k => XS.ifNo hA hx rfl (hb hy hd) rfl hc k) h
theorem hold_lt (x y : Int32) : (if_icmp.holds .lt x y = true ↔ x < y) ∧ (if_icmp.holds .lt x y = false ↔ ¬ x < y) := by simp [if_icmp.holds, Int32.not_lt, Int32.not_le]
theorem go_icmp_lt {o : Int} {x y : Int32} (t : Nat) (hd : Ins M pc (.if_icmp .lt o) 3 pc') (ht : (pc : Int) + o = (t : Int)) (h1 : x < y → Go Z a0 n0 M R Q t L st H ce sl) (h2 : ¬ x < y → Go Z a0 n0 M R Q pc' L st H ce sl) : Go Z a0 n0 M R Q pc L (.int y :: .int x :: st) H ce sl :=
  go_icmp t hd ht (fun q => h1 ((hold_lt x y).1.mp q)) (fun q => h2 ((hold_lt x y).2.mp q))
theorem go_if_lt {o : Int} {x : Int32} (t : Nat) (hd : Ins M pc (.ifCond .lt o) 3 pc') (ht : (pc : Int) + o = (t : Int)) (h1 : x < 0 → Go Z a0 n0 M R Q t L st H ce sl) (h2 : ¬ x < 0 → Go Z a0 n0 M R Q pc' L st H ce sl) : Go Z a0 n0 M R Q pc L (.int x :: st) H ce sl :=
  go_if t hd ht (fun q => h1 ((hold_lt x 0).1.mp ((if0 _ _).symm.trans q))) (fun q => h2 ((hold_lt x 0).2.mp ((if0 _ _).symm.trans q)))
theorem hold_ge (x y : Int32) : (if_icmp.holds .ge x y = true ↔ ¬ x < y) ∧ (if_icmp.holds .ge x y = false ↔ x < y) := by simp [if_icmp.holds, Int32.not_lt, Int32.not_le]
theorem go_icmp_ge {o : Int} {x y : Int32} (t : Nat) (hd : Ins M pc (.if_icmp .ge o) 3 pc') (ht : (pc : Int) + o = (t : Int)) (h1 : ¬ x < y → Go Z a0 n0 M R Q t L st H ce sl) (h2 : x < y → Go Z a0 n0 M R Q pc' L st H ce sl) : Go Z a0 n0 M R Q pc L (.int y :: .int x :: st) H ce sl :=
  go_icmp t hd ht (fun q => h1 ((hold_ge x y).1.mp q)) (fun q => h2 ((hold_ge x y).2.mp q))
theorem go_if_ge {o : Int} {x : Int32} (t : Nat) (hd : Ins M pc (.ifCond .ge o) 3 pc') (ht : (pc : Int) + o = (t : Int)) (h1 : ¬ x < 0 → Go Z a0 n0 M R Q t L st H ce sl) (h2 : x < 0 → Go Z a0 n0 M R Q pc' L st H ce sl) : Go Z a0 n0 M R Q pc L (.int x :: st) H ce sl :=
  go_if t hd ht (fun q => h1 ((hold_ge x 0).1.mp ((if0 _ _).symm.trans q))) (fun q => h2 ((hold_ge x 0).2.mp ((if0 _ _).symm.trans q)))
theorem hold_gt (x y : Int32) : (if_icmp.holds .gt x y = true ↔ y < x) ∧ (if_icmp.holds .gt x y = false ↔ ¬ y < x) := by simp [if_icmp.holds, Int32.not_lt, Int32.not_le]
theorem go_icmp_gt {o : Int} {x y : Int32} (t : Nat) (hd : Ins M pc (.if_icmp .gt o) 3 pc') (ht : (pc : Int) + o = (t : Int)) (h1 : y < x → Go Z a0 n0 M R Q t L st H ce sl) (h2 : ¬ y < x → Go Z a0 n0 M R Q pc' L st H ce sl) : Go Z a0 n0 M R Q pc L (.int y :: .int x :: st) H ce sl :=
  go_icmp t hd ht (fun q => h1 ((hold_gt x y).1.mp q)) (fun q => h2 ((hold_gt x y).2.mp q))
theorem go_if_gt {o : Int} {x : Int32} (t : Nat) (hd : Ins M pc (.ifCond .gt o) 3 pc') (ht : (pc : Int) + o = (t : Int)) (h1 : 0 < x → Go Z a0 n0 M R Q t L st H ce sl) (h2 : ¬ 0 < x → Go Z a0 n0 M R Q pc' L st H ce sl) : Go Z a0 n0 M R Q pc L (.int x :: st) H ce sl :=
  go_if t hd ht (fun q => h1 ((hold_gt x 0).1.mp ((if0 _ _).symm.trans q))) (fun q => h2 ((hold_gt x 0).2.mp ((if0 _ _).symm.trans q)))
theorem hold_le (x y : Int32) : (if_icmp.holds .le x y = true ↔ ¬ y < x) ∧ (if_icmp.holds .le x y = false ↔ y < x) := by simp [if_icmp.holds, Int32.not_lt, Int32.not_le]
theorem go_icmp_le {o : Int} {x y : Int32} (t : Nat) (hd : Ins M pc (.if_icmp .le o) 3 pc') (ht : (pc : Int) + o = (t : Int)) (h1 : ¬ y < x → Go Z a0 n0 M R Q t L st H ce sl) (h2 : y < x → Go Z a0 n0 M R Q pc' L st H ce sl) : Go Z a0 n0 M R Q pc L (.int y :: .int x :: st) H ce sl :=
  go_icmp t hd ht (fun q => h1 ((hold_le x y).1.mp q)) (fun q => h2 ((hold_le x y).2.mp q))
theorem go_if_le {o : Int} {x : Int32} (t : Nat) (hd : Ins M pc (.ifCond .le o) 3 pc') (ht : (pc : Int) + o = (t : Int)) (h1 : ¬ 0 < x → Go Z a0 n0 M R Q t L st H ce sl) (h2 : 0 < x → Go Z a0 n0 M R Q pc' L st H ce sl) : Go Z a0 n0 M R Q pc L (.int x :: st) H ce sl :=
  go_if t hd ht (fun q => h1 ((hold_le x 0).1.mp ((if0 _ _).symm.trans q))) (fun q => h2 ((hold_le x 0).2.mp ((if0 _ _).symm.trans q)))
theorem hold_eq (x y : Int32) : (if_icmp.holds .eq x y = true ↔ x = y) ∧ (if_icmp.holds .eq x y = false ↔ ¬ x = y) := by simp [if_icmp.holds, Int32.not_lt, Int32.not_le]
theorem go_icmp_eq {o : Int} {x y : Int32} (t : Nat) (hd : Ins M pc (.if_icmp .eq o) 3 pc') (ht : (pc : Int) + o = (t : Int)) (h1 : x = y → Go Z a0 n0 M R Q t L st H ce sl) (h2 : ¬ x = y → Go Z a0 n0 M R Q pc' L st H ce sl) : Go Z a0 n0 M R Q pc L (.int y :: .int x :: st) H ce sl :=
  go_icmp t hd ht (fun q => h1 ((hold_eq x y).1.mp q)) (fun q => h2 ((hold_eq x y).2.mp q))
theorem go_if_eq {o : Int} {x : Int32} (t : Nat) (hd : Ins M pc (.ifCond .eq o) 3 pc') (ht : (pc : Int) + o = (t : Int)) (h1 : x = 0 → Go Z a0 n0 M R Q t L st H ce sl) (h2 : ¬ x = 0 → Go Z a0 n0 M R Q pc' L st H ce sl) : Go Z a0 n0 M R Q pc L (.int x :: st) H ce sl :=
  go_if t hd ht (fun q => h1 ((hold_eq x 0).1.mp ((if0 _ _).symm.trans q))) (fun q => h2 ((hold_eq x 0).2.mp ((if0 _ _).symm.trans q)))
theorem hold_ne (x y : Int32) : (if_icmp.holds .ne x y = true ↔ ¬ x = y) ∧ (if_icmp.holds .ne x y = false ↔ x = y) := by simp [if_icmp.holds, Int32.not_lt, Int32.not_le]
theorem go_icmp_ne {o : Int} {x y : Int32} (t : Nat) (hd : Ins M pc (.if_icmp .ne o) 3 pc') (ht : (pc : Int) + o = (t : Int)) (h1 : ¬ x = y → Go Z a0 n0 M R Q t L st H ce sl) (h2 : x = y → Go Z a0 n0 M R Q pc' L st H ce sl) : Go Z a0 n0 M R Q pc L (.int y :: .int x :: st) H ce sl :=
  go_icmp t hd ht (fun q => h1 ((hold_ne x y).1.mp q)) (fun q => h2 ((hold_ne x y).2.mp q))
theorem go_if_ne {o : Int} {x : Int32} (t : Nat) (hd : Ins M pc (.ifCond .ne o) 3 pc') (ht : (pc : Int) + o = (t : Int)) (h1 : ¬ x = 0 → Go Z a0 n0 M R Q t L st H ce sl) (h2 : x = 0 → Go Z a0 n0 M R Q pc' L st H ce sl) : Go Z a0 n0 M R Q pc L (.int x :: st) H ce sl :=
  go_if t hd ht (fun q => h1 ((hold_ne x 0).1.mp ((if0 _ _).symm.trans q))) (fun q => h2 ((hold_ne x 0).2.mp ((if0 _ _).symm.trans q)))
theorem go_ifnull {o : Int} {b : Addr} (hd : Ins M pc (.ifnull o) 3 pc') (h : Go Z a0 n0 M R Q pc' L st H ce sl) : Go Z a0 n0 M R Q pc L (.ref b :: st) H ce sl := by
  obtain ⟨hd, rfl⟩ := hd
  exact go_pure (fun p e m below c T t hA hx hy k => XS.ifnullNo hA hx rfl (hb hy hd) rfl k) h
theorem go_ifnonnull {o : Int} {b : Addr} (t : Nat) (hd : Ins M pc (.ifnonnull o) 3 pc') (ht : (pc : Int) + o = (t : Int)) (h : Go Z a0 n0 M R Q t L st H ce sl) : Go Z a0 n0 M R Q pc L (.ref b :: st) H ce sl := by
  obtain ⟨hd, rfl⟩ := hd
  exact go_pure (fun p e m below c T u hA hx hy k => XT.ifnonnullYes hA hx rfl (pc0 := pc) (pc' := t) rfl (hb hy hd) rfl (by omega) (by omega) k) h
theorem set_app {α : Type} (A B : List α) (o w : α) {k : Nat} (hA : A.length = k) : (A ++ o :: B).toArray.setIfInBounds k w = (A ++ w :: B).toArray := by
  subst hA; simp
theorem get_app {α : Type} (A B : List α) (o : α) {k : Nat} (hA : A.length = k) : (A ++ o :: B).toArray[k]? = some o := by
  subst hA; simp
theorem sto2 {A B : List Slot} {o1 o2 : Slot} {x : Int64} {k : Nat} (hA : A.length = k) (ho : (One o1 ∧ One o2) ∨ ∃ y : Int64, o1 = .val (.long y) ∧ o2 = .second) : storeLocals (A ++ o1 :: o2 :: B).toArray k (.long x) = some (A ++ .val (.long x) :: .second :: B).toArray := by
  subst hA
  rcases ho with ⟨h1, h2⟩ | ⟨y, rfl, rfl⟩
  · rcases h1 with rfl | ⟨w, rfl, hw⟩ <;> rcases h2 with rfl | ⟨w', rfl, hw'⟩ <;> simp [storeLocals, storeSelf, setAt, *] <;> simp [Value.category]
  · simp [storeLocals, storeSelf, setAt, Value.category]
theorem go_istoreG {k : Nat} {A B : List Slot} {o : Slot} {x : Int32} (hA : A.length = k) (ho : One o) (hd : Ins M pc (.istore k) 2 pc') (h : Go Z a0 n0 M R Q pc' (A ++ .val (.int x) :: B) st H ce sl) : Go Z a0 n0 M R Q pc (A ++ o :: B) (.int x :: st) H ce sl := by
  obtain ⟨hd, rfl⟩ := hd
  exact go_pure (fun p e m below c T t hA' hx hy k => XS.istore hA' hx rfl (hb hy hd) rfl (XS.store1 (get_app A B o hA) ho rfl) (by rw [set_app A B o _ hA]; exact k)) h
theorem go_istoreNG {k : Fin 4} {A B : List Slot} {o : Slot} {x : Int32} (hA : A.length = k.val) (ho : One o) (hd : Ins M pc (.istore_n k) 1 pc') (h : Go Z a0 n0 M R Q pc' (A ++ .val (.int x) :: B) st H ce sl) : Go Z a0 n0 M R Q pc (A ++ o :: B) (.int x :: st) H ce sl := by
  obtain ⟨hd, rfl⟩ := hd
  exact go_pure (fun p e m below c T t hA' hx hy k => XS.istoreN hA' hx rfl (hb hy hd) rfl (XS.store1 (get_app A B o hA) ho rfl) (by rw [set_app A B o _ hA]; exact k)) h
theorem go_astoreG {k : Nat} {A B : List Slot} {o : Slot} {x : Addr} (hA : A.length = k) (ho : One o) (hd : Ins M pc (.astore k) 2 pc') (h : Go Z a0 n0 M R Q pc' (A ++ .val (.ref x) :: B) st H ce sl) : Go Z a0 n0 M R Q pc (A ++ o :: B) (.ref x :: st) H ce sl := by
  obtain ⟨hd, rfl⟩ := hd
  exact go_pure (fun p e m below c T t hA' hx hy k => XS.astore hA' hx rfl (hb hy hd) rfl rfl (XS.store1 (get_app A B o hA) ho rfl) (by rw [set_app A B o _ hA]; exact k)) h
theorem go_astoreNG {k : Fin 4} {A B : List Slot} {o : Slot} {x : Addr} (hA : A.length = k.val) (ho : One o) (hd : Ins M pc (.astore_n k) 1 pc') (h : Go Z a0 n0 M R Q pc' (A ++ .val (.ref x) :: B) st H ce sl) : Go Z a0 n0 M R Q pc (A ++ o :: B) (.ref x :: st) H ce sl := by
  obtain ⟨hd, rfl⟩ := hd
  exact go_pure (fun p e m below c T t hA' hx hy k => XS.astoreN hA' hx rfl (hb hy hd) rfl rfl (XS.store1 (get_app A B o hA) ho rfl) (by rw [set_app A B o _ hA]; exact k)) h
theorem go_lstoreG {k : Nat} {A B : List Slot} {o o' : Slot} {x : Int64} (hA : A.length = k) (ho : (One o ∧ One o') ∨ ∃ y : Int64, o = .val (.long y) ∧ o' = .second) (hd : Ins M pc (.lstore k) 2 pc') (h : Go Z a0 n0 M R Q pc' (A ++ .val (.long x) :: .second :: B) st H ce sl) : Go Z a0 n0 M R Q pc (A ++ o :: o' :: B) (.long x :: st) H ce sl := by
  obtain ⟨hd, rfl⟩ := hd
  exact go_pure (fun p e m below c T t hA' hx hy k => XT.lstore hA' hx rfl (hb hy hd) rfl (sto2 hA ho) k) h
theorem go_lstoreNG {k : Fin 4} {A B : List Slot} {o o' : Slot} {x : Int64} (hA : A.length = k.val) (ho : (One o ∧ One o') ∨ ∃ y : Int64, o = .val (.long y) ∧ o' = .second) (hd : Ins M pc (.lstore_n k) 1 pc') (h : Go Z a0 n0 M R Q pc' (A ++ .val (.long x) :: .second :: B) st H ce sl) : Go Z a0 n0 M R Q pc (A ++ o :: o' :: B) (.long x :: st) H ce sl := by
  obtain ⟨hd, rfl⟩ := hd
  exact go_pure (fun p e m below c T t hA' hx hy k => XT.lstoreN hA' hx rfl (hb hy hd) rfl (sto2 hA ho) k) h
theorem go_iincG {k : Nat} {A B : List Slot} {cst : Int} {x v : Int32} (hA : A.length = k) (hd : Ins M pc (.iinc k cst) 3 pc') (hv : x + Int32.ofInt cst = v) (h : Go Z a0 n0 M R Q pc' (A ++ .val (.int v) :: B) st H ce sl) : Go Z a0 n0 M R Q pc (A ++ .val (.int x) :: B) st H ce sl := by
  obtain ⟨hd, rfl⟩ := hd
  subst hv
  exact go_pure (fun p e m below c T t hA' hx hy k => XS.iinc hA' hx rfl (hb hy hd) (get_app A B (.val (.int x)) hA) (XS.store1 (get_app A B (.val (.int x)) hA) (One.val rfl) rfl) (by rw [set_app A B (.val (.int x)) _ hA]; exact k)) h
theorem go_istore0 {o : Slot} {B : List Slot} {x : Int32} (hd : Ins M pc (.istore_n 0) 1 pc') (ho : One o) (h : Go Z a0 n0 M R Q pc' (.val (.int x) :: B) st H ce sl) : Go Z a0 n0 M R Q pc (o :: B) (.int x :: st) H ce sl := go_istoreNG (A := []) rfl ho hd h
theorem go_astore0 {o : Slot} {B : List Slot} {x : Addr} (hd : Ins M pc (.astore_n 0) 1 pc') (ho : One o) (h : Go Z a0 n0 M R Q pc' (.val (.ref x) :: B) st H ce sl) : Go Z a0 n0 M R Q pc (o :: B) (.ref x :: st) H ce sl := go_astoreNG (A := []) rfl ho hd h
theorem go_lstore0 {o o' : Slot} {B : List Slot} {x : Int64} (hd : Ins M pc (.lstore_n 0) 1 pc') (ho : (One o ∧ One o') ∨ ∃ y : Int64, o = .val (.long y) ∧ o' = .second) (h : Go Z a0 n0 M R Q pc' (.val (.long x) :: .second :: B) st H ce sl) : Go Z a0 n0 M R Q pc (o :: o' :: B) (.long x :: st) H ce sl := go_lstoreNG (A := []) rfl ho hd h
theorem go_iinc0 {B : List Slot} {cst : Int} {x v : Int32} (hd : Ins M pc (.iinc 0 cst) 3 pc') (hv : x + Int32.ofInt cst = v) (h : Go Z a0 n0 M R Q pc' (.val (.int v) :: B) st H ce sl) : Go Z a0 n0 M R Q pc (.val (.int x) :: B) st H ce sl := go_iincG (A := []) rfl hd hv h
theorem go_istore1 {s0 o : Slot} {B : List Slot} {x : Int32} (hd : Ins M pc (.istore_n 1) 1 pc') (ho : One o) (h : Go Z a0 n0 M R Q pc' (s0 :: .val (.int x) :: B) st H ce sl) : Go Z a0 n0 M R Q pc (s0 :: o :: B) (.int x :: st) H ce sl := go_istoreNG (A := [s0]) rfl ho hd h
theorem go_astore1 {s0 o : Slot} {B : List Slot} {x : Addr} (hd : Ins M pc (.astore_n 1) 1 pc') (ho : One o) (h : Go Z a0 n0 M R Q pc' (s0 :: .val (.ref x) :: B) st H ce sl) : Go Z a0 n0 M R Q pc (s0 :: o :: B) (.ref x :: st) H ce sl := go_astoreNG (A := [s0]) rfl ho hd h
theorem go_lstore1 {s0 o o' : Slot} {B : List Slot} {x : Int64} (hd : Ins M pc (.lstore_n 1) 1 pc') (ho : (One o ∧ One o') ∨ ∃ y : Int64, o = .val (.long y) ∧ o' = .second) (h : Go Z a0 n0 M R Q pc' (s0 :: .val (.long x) :: .second :: B) st H ce sl) : Go Z a0 n0 M R Q pc (s0 :: o :: o' :: B) (.long x :: st) H ce sl := go_lstoreNG (A := [s0]) rfl ho hd h
theorem go_iinc1 {s0 : Slot} {B : List Slot} {cst : Int} {x v : Int32} (hd : Ins M pc (.iinc 1 cst) 3 pc') (hv : x + Int32.ofInt cst = v) (h : Go Z a0 n0 M R Q pc' (s0 :: .val (.int v) :: B) st H ce sl) : Go Z a0 n0 M R Q pc (s0 :: .val (.int x) :: B) st H ce sl := go_iincG (A := [s0]) rfl hd hv h
theorem go_istore2 {s0 s1 o : Slot} {B : List Slot} {x : Int32} (hd : Ins M pc (.istore_n 2) 1 pc') (ho : One o) (h : Go Z a0 n0 M R Q pc' (s0 :: s1 :: .val (.int x) :: B) st H ce sl) : Go Z a0 n0 M R Q pc (s0 :: s1 :: o :: B) (.int x :: st) H ce sl := go_istoreNG (A := [s0, s1]) rfl ho hd h
theorem go_astore2 {s0 s1 o : Slot} {B : List Slot} {x : Addr} (hd : Ins M pc (.astore_n 2) 1 pc') (ho : One o) (h : Go Z a0 n0 M R Q pc' (s0 :: s1 :: .val (.ref x) :: B) st H ce sl) : Go Z a0 n0 M R Q pc (s0 :: s1 :: o :: B) (.ref x :: st) H ce sl := go_astoreNG (A := [s0, s1]) rfl ho hd h
theorem go_lstore2 {s0 s1 o o' : Slot} {B : List Slot} {x : Int64} (hd : Ins M pc (.lstore_n 2) 1 pc') (ho : (One o ∧ One o') ∨ ∃ y : Int64, o = .val (.long y) ∧ o' = .second) (h : Go Z a0 n0 M R Q pc' (s0 :: s1 :: .val (.long x) :: .second :: B) st H ce sl) : Go Z a0 n0 M R Q pc (s0 :: s1 :: o :: o' :: B) (.long x :: st) H ce sl := go_lstoreNG (A := [s0, s1]) rfl ho hd h
theorem go_iinc2 {s0 s1 : Slot} {B : List Slot} {cst : Int} {x v : Int32} (hd : Ins M pc (.iinc 2 cst) 3 pc') (hv : x + Int32.ofInt cst = v) (h : Go Z a0 n0 M R Q pc' (s0 :: s1 :: .val (.int v) :: B) st H ce sl) : Go Z a0 n0 M R Q pc (s0 :: s1 :: .val (.int x) :: B) st H ce sl := go_iincG (A := [s0, s1]) rfl hd hv h
theorem go_istore3 {s0 s1 s2 o : Slot} {B : List Slot} {x : Int32} (hd : Ins M pc (.istore_n 3) 1 pc') (ho : One o) (h : Go Z a0 n0 M R Q pc' (s0 :: s1 :: s2 :: .val (.int x) :: B) st H ce sl) : Go Z a0 n0 M R Q pc (s0 :: s1 :: s2 :: o :: B) (.int x :: st) H ce sl := go_istoreNG (A := [s0, s1, s2]) rfl ho hd h
theorem go_astore3 {s0 s1 s2 o : Slot} {B : List Slot} {x : Addr} (hd : Ins M pc (.astore_n 3) 1 pc') (ho : One o) (h : Go Z a0 n0 M R Q pc' (s0 :: s1 :: s2 :: .val (.ref x) :: B) st H ce sl) : Go Z a0 n0 M R Q pc (s0 :: s1 :: s2 :: o :: B) (.ref x :: st) H ce sl := go_astoreNG (A := [s0, s1, s2]) rfl ho hd h
theorem go_lstore3 {s0 s1 s2 o o' : Slot} {B : List Slot} {x : Int64} (hd : Ins M pc (.lstore_n 3) 1 pc') (ho : (One o ∧ One o') ∨ ∃ y : Int64, o = .val (.long y) ∧ o' = .second) (h : Go Z a0 n0 M R Q pc' (s0 :: s1 :: s2 :: .val (.long x) :: .second :: B) st H ce sl) : Go Z a0 n0 M R Q pc (s0 :: s1 :: s2 :: o :: o' :: B) (.long x :: st) H ce sl := go_lstoreNG (A := [s0, s1, s2]) rfl ho hd h
theorem go_iinc3 {s0 s1 s2 : Slot} {B : List Slot} {cst : Int} {x v : Int32} (hd : Ins M pc (.iinc 3 cst) 3 pc') (hv : x + Int32.ofInt cst = v) (h : Go Z a0 n0 M R Q pc' (s0 :: s1 :: s2 :: .val (.int v) :: B) st H ce sl) : Go Z a0 n0 M R Q pc (s0 :: s1 :: s2 :: .val (.int x) :: B) st H ce sl := go_iincG (A := [s0, s1, s2]) rfl hd hv h
theorem go_istore4 {s0 s1 s2 s3 o : Slot} {B : List Slot} {x : Int32} (hd : Ins M pc (.istore 4) 2 pc') (ho : One o) (h : Go Z a0 n0 M R Q pc' (s0 :: s1 :: s2 :: s3 :: .val (.int x) :: B) st H ce sl) : Go Z a0 n0 M R Q pc (s0 :: s1 :: s2 :: s3 :: o :: B) (.int x :: st) H ce sl := go_istoreG (A := [s0, s1, s2, s3]) rfl ho hd h
theorem go_astore4 {s0 s1 s2 s3 o : Slot} {B : List Slot} {x : Addr} (hd : Ins M pc (.astore 4) 2 pc') (ho : One o) (h : Go Z a0 n0 M R Q pc' (s0 :: s1 :: s2 :: s3 :: .val (.ref x) :: B) st H ce sl) : Go Z a0 n0 M R Q pc (s0 :: s1 :: s2 :: s3 :: o :: B) (.ref x :: st) H ce sl := go_astoreG (A := [s0, s1, s2, s3]) rfl ho hd h
theorem go_lstore4 {s0 s1 s2 s3 o o' : Slot} {B : List Slot} {x : Int64} (hd : Ins M pc (.lstore 4) 2 pc') (ho : (One o ∧ One o') ∨ ∃ y : Int64, o = .val (.long y) ∧ o' = .second) (h : Go Z a0 n0 M R Q pc' (s0 :: s1 :: s2 :: s3 :: .val (.long x) :: .second :: B) st H ce sl) : Go Z a0 n0 M R Q pc (s0 :: s1 :: s2 :: s3 :: o :: o' :: B) (.long x :: st) H ce sl := go_lstoreG (A := [s0, s1, s2, s3]) rfl ho hd h
theorem go_iinc4 {s0 s1 s2 s3 : Slot} {B : List Slot} {cst : Int} {x v : Int32} (hd : Ins M pc (.iinc 4 cst) 3 pc') (hv : x + Int32.ofInt cst = v) (h : Go Z a0 n0 M R Q pc' (s0 :: s1 :: s2 :: s3 :: .val (.int v) :: B) st H ce sl) : Go Z a0 n0 M R Q pc (s0 :: s1 :: s2 :: s3 :: .val (.int x) :: B) st H ce sl := go_iincG (A := [s0, s1, s2, s3]) rfl hd hv h
theorem go_istore5 {s0 s1 s2 s3 s4 o : Slot} {B : List Slot} {x : Int32} (hd : Ins M pc (.istore 5) 2 pc') (ho : One o) (h : Go Z a0 n0 M R Q pc' (s0 :: s1 :: s2 :: s3 :: s4 :: .val (.int x) :: B) st H ce sl) : Go Z a0 n0 M R Q pc (s0 :: s1 :: s2 :: s3 :: s4 :: o :: B) (.int x :: st) H ce sl := go_istoreG (A := [s0, s1, s2, s3, s4]) rfl ho hd h
theorem go_astore5 {s0 s1 s2 s3 s4 o : Slot} {B : List Slot} {x : Addr} (hd : Ins M pc (.astore 5) 2 pc') (ho : One o) (h : Go Z a0 n0 M R Q pc' (s0 :: s1 :: s2 :: s3 :: s4 :: .val (.ref x) :: B) st H ce sl) : Go Z a0 n0 M R Q pc (s0 :: s1 :: s2 :: s3 :: s4 :: o :: B) (.ref x :: st) H ce sl := go_astoreG (A := [s0, s1, s2, s3, s4]) rfl ho hd h
theorem go_lstore5 {s0 s1 s2 s3 s4 o o' : Slot} {B : List Slot} {x : Int64} (hd : Ins M pc (.lstore 5) 2 pc') (ho : (One o ∧ One o') ∨ ∃ y : Int64, o = .val (.long y) ∧ o' = .second) (h : Go Z a0 n0 M R Q pc' (s0 :: s1 :: s2 :: s3 :: s4 :: .val (.long x) :: .second :: B) st H ce sl) : Go Z a0 n0 M R Q pc (s0 :: s1 :: s2 :: s3 :: s4 :: o :: o' :: B) (.long x :: st) H ce sl := go_lstoreG (A := [s0, s1, s2, s3, s4]) rfl ho hd h
theorem go_iinc5 {s0 s1 s2 s3 s4 : Slot} {B : List Slot} {cst : Int} {x v : Int32} (hd : Ins M pc (.iinc 5 cst) 3 pc') (hv : x + Int32.ofInt cst = v) (h : Go Z a0 n0 M R Q pc' (s0 :: s1 :: s2 :: s3 :: s4 :: .val (.int v) :: B) st H ce sl) : Go Z a0 n0 M R Q pc (s0 :: s1 :: s2 :: s3 :: s4 :: .val (.int x) :: B) st H ce sl := go_iincG (A := [s0, s1, s2, s3, s4]) rfl hd hv h
theorem go_istore6 {s0 s1 s2 s3 s4 s5 o : Slot} {B : List Slot} {x : Int32} (hd : Ins M pc (.istore 6) 2 pc') (ho : One o) (h : Go Z a0 n0 M R Q pc' (s0 :: s1 :: s2 :: s3 :: s4 :: s5 :: .val (.int x) :: B) st H ce sl) : Go Z a0 n0 M R Q pc (s0 :: s1 :: s2 :: s3 :: s4 :: s5 :: o :: B) (.int x :: st) H ce sl := go_istoreG (A := [s0, s1, s2, s3, s4, s5]) rfl ho hd h
theorem go_astore6 {s0 s1 s2 s3 s4 s5 o : Slot} {B : List Slot} {x : Addr} (hd : Ins M pc (.astore 6) 2 pc') (ho : One o) (h : Go Z a0 n0 M R Q pc' (s0 :: s1 :: s2 :: s3 :: s4 :: s5 :: .val (.ref x) :: B) st H ce sl) : Go Z a0 n0 M R Q pc (s0 :: s1 :: s2 :: s3 :: s4 :: s5 :: o :: B) (.ref x :: st) H ce sl := go_astoreG (A := [s0, s1, s2, s3, s4, s5]) rfl ho hd h
theorem go_lstore6 {s0 s1 s2 s3 s4 s5 o o' : Slot} {B : List Slot} {x : Int64} (hd : Ins M pc (.lstore 6) 2 pc') (ho : (One o ∧ One o') ∨ ∃ y : Int64, o = .val (.long y) ∧ o' = .second) (h : Go Z a0 n0 M R Q pc' (s0 :: s1 :: s2 :: s3 :: s4 :: s5 :: .val (.long x) :: .second :: B) st H ce sl) : Go Z a0 n0 M R Q pc (s0 :: s1 :: s2 :: s3 :: s4 :: s5 :: o :: o' :: B) (.long x :: st) H ce sl := go_lstoreG (A := [s0, s1, s2, s3, s4, s5]) rfl ho hd h
theorem go_iinc6 {s0 s1 s2 s3 s4 s5 : Slot} {B : List Slot} {cst : Int} {x v : Int32} (hd : Ins M pc (.iinc 6 cst) 3 pc') (hv : x + Int32.ofInt cst = v) (h : Go Z a0 n0 M R Q pc' (s0 :: s1 :: s2 :: s3 :: s4 :: s5 :: .val (.int v) :: B) st H ce sl) : Go Z a0 n0 M R Q pc (s0 :: s1 :: s2 :: s3 :: s4 :: s5 :: .val (.int x) :: B) st H ce sl := go_iincG (A := [s0, s1, s2, s3, s4, s5]) rfl hd hv h
theorem go_istore7 {s0 s1 s2 s3 s4 s5 s6 o : Slot} {B : List Slot} {x : Int32} (hd : Ins M pc (.istore 7) 2 pc') (ho : One o) (h : Go Z a0 n0 M R Q pc' (s0 :: s1 :: s2 :: s3 :: s4 :: s5 :: s6 :: .val (.int x) :: B) st H ce sl) : Go Z a0 n0 M R Q pc (s0 :: s1 :: s2 :: s3 :: s4 :: s5 :: s6 :: o :: B) (.int x :: st) H ce sl := go_istoreG (A := [s0, s1, s2, s3, s4, s5, s6]) rfl ho hd h
theorem go_astore7 {s0 s1 s2 s3 s4 s5 s6 o : Slot} {B : List Slot} {x : Addr} (hd : Ins M pc (.astore 7) 2 pc') (ho : One o) (h : Go Z a0 n0 M R Q pc' (s0 :: s1 :: s2 :: s3 :: s4 :: s5 :: s6 :: .val (.ref x) :: B) st H ce sl) : Go Z a0 n0 M R Q pc (s0 :: s1 :: s2 :: s3 :: s4 :: s5 :: s6 :: o :: B) (.ref x :: st) H ce sl := go_astoreG (A := [s0, s1, s2, s3, s4, s5, s6]) rfl ho hd h
theorem go_lstore7 {s0 s1 s2 s3 s4 s5 s6 o o' : Slot} {B : List Slot} {x : Int64} (hd : Ins M pc (.lstore 7) 2 pc') (ho : (One o ∧ One o') ∨ ∃ y : Int64, o = .val (.long y) ∧ o' = .second) (h : Go Z a0 n0 M R Q pc' (s0 :: s1 :: s2 :: s3 :: s4 :: s5 :: s6 :: .val (.long x) :: .second :: B) st H ce sl) : Go Z a0 n0 M R Q pc (s0 :: s1 :: s2 :: s3 :: s4 :: s5 :: s6 :: o :: o' :: B) (.long x :: st) H ce sl := go_lstoreG (A := [s0, s1, s2, s3, s4, s5, s6]) rfl ho hd h
theorem go_iinc7 {s0 s1 s2 s3 s4 s5 s6 : Slot} {B : List Slot} {cst : Int} {x v : Int32} (hd : Ins M pc (.iinc 7 cst) 3 pc') (hv : x + Int32.ofInt cst = v) (h : Go Z a0 n0 M R Q pc' (s0 :: s1 :: s2 :: s3 :: s4 :: s5 :: s6 :: .val (.int v) :: B) st H ce sl) : Go Z a0 n0 M R Q pc (s0 :: s1 :: s2 :: s3 :: s4 :: s5 :: s6 :: .val (.int x) :: B) st H ce sl := go_iincG (A := [s0, s1, s2, s3, s4, s5, s6]) rfl hd hv h
theorem go_istore8 {s0 s1 s2 s3 s4 s5 s6 s7 o : Slot} {B : List Slot} {x : Int32} (hd : Ins M pc (.istore 8) 2 pc') (ho : One o) (h : Go Z a0 n0 M R Q pc' (s0 :: s1 :: s2 :: s3 :: s4 :: s5 :: s6 :: s7 :: .val (.int x) :: B) st H ce sl) : Go Z a0 n0 M R Q pc (s0 :: s1 :: s2 :: s3 :: s4 :: s5 :: s6 :: s7 :: o :: B) (.int x :: st) H ce sl := go_istoreG (A := [s0, s1, s2, s3, s4, s5, s6, s7]) rfl ho hd h
theorem go_astore8 {s0 s1 s2 s3 s4 s5 s6 s7 o : Slot} {B : List Slot} {x : Addr} (hd : Ins M pc (.astore 8) 2 pc') (ho : One o) (h : Go Z a0 n0 M R Q pc' (s0 :: s1 :: s2 :: s3 :: s4 :: s5 :: s6 :: s7 :: .val (.ref x) :: B) st H ce sl) : Go Z a0 n0 M R Q pc (s0 :: s1 :: s2 :: s3 :: s4 :: s5 :: s6 :: s7 :: o :: B) (.ref x :: st) H ce sl := go_astoreG (A := [s0, s1, s2, s3, s4, s5, s6, s7]) rfl ho hd h
theorem go_lstore8 {s0 s1 s2 s3 s4 s5 s6 s7 o o' : Slot} {B : List Slot} {x : Int64} (hd : Ins M pc (.lstore 8) 2 pc') (ho : (One o ∧ One o') ∨ ∃ y : Int64, o = .val (.long y) ∧ o' = .second) (h : Go Z a0 n0 M R Q pc' (s0 :: s1 :: s2 :: s3 :: s4 :: s5 :: s6 :: s7 :: .val (.long x) :: .second :: B) st H ce sl) : Go Z a0 n0 M R Q pc (s0 :: s1 :: s2 :: s3 :: s4 :: s5 :: s6 :: s7 :: o :: o' :: B) (.long x :: st) H ce sl := go_lstoreG (A := [s0, s1, s2, s3, s4, s5, s6, s7]) rfl ho hd h
theorem go_iinc8 {s0 s1 s2 s3 s4 s5 s6 s7 : Slot} {B : List Slot} {cst : Int} {x v : Int32} (hd : Ins M pc (.iinc 8 cst) 3 pc') (hv : x + Int32.ofInt cst = v) (h : Go Z a0 n0 M R Q pc' (s0 :: s1 :: s2 :: s3 :: s4 :: s5 :: s6 :: s7 :: .val (.int v) :: B) st H ce sl) : Go Z a0 n0 M R Q pc (s0 :: s1 :: s2 :: s3 :: s4 :: s5 :: s6 :: s7 :: .val (.int x) :: B) st H ce sl := go_iincG (A := [s0, s1, s2, s3, s4, s5, s6, s7]) rfl hd hv h
theorem go_istore9 {s0 s1 s2 s3 s4 s5 s6 s7 s8 o : Slot} {B : List Slot} {x : Int32} (hd : Ins M pc (.istore 9) 2 pc') (ho : One o) (h : Go Z a0 n0 M R Q pc' (s0 :: s1 :: s2 :: s3 :: s4 :: s5 :: s6 :: s7 :: s8 :: .val (.int x) :: B) st H ce sl) : Go Z a0 n0 M R Q pc (s0 :: s1 :: s2 :: s3 :: s4 :: s5 :: s6 :: s7 :: s8 :: o :: B) (.int x :: st) H ce sl := go_istoreG (A := [s0, s1, s2, s3, s4, s5, s6, s7, s8]) rfl ho hd h
theorem go_astore9 {s0 s1 s2 s3 s4 s5 s6 s7 s8 o : Slot} {B : List Slot} {x : Addr} (hd : Ins M pc (.astore 9) 2 pc') (ho : One o) (h : Go Z a0 n0 M R Q pc' (s0 :: s1 :: s2 :: s3 :: s4 :: s5 :: s6 :: s7 :: s8 :: .val (.ref x) :: B) st H ce sl) : Go Z a0 n0 M R Q pc (s0 :: s1 :: s2 :: s3 :: s4 :: s5 :: s6 :: s7 :: s8 :: o :: B) (.ref x :: st) H ce sl := go_astoreG (A := [s0, s1, s2, s3, s4, s5, s6, s7, s8]) rfl ho hd h
theorem go_lstore9 {s0 s1 s2 s3 s4 s5 s6 s7 s8 o o' : Slot} {B : List Slot} {x : Int64} (hd : Ins M pc (.lstore 9) 2 pc') (ho : (One o ∧ One o') ∨ ∃ y : Int64, o = .val (.long y) ∧ o' = .second) (h : Go Z a0 n0 M R Q pc' (s0 :: s1 :: s2 :: s3 :: s4 :: s5 :: s6 :: s7 :: s8 :: .val (.long x) :: .second :: B) st H ce sl) : Go Z a0 n0 M R Q pc (s0 :: s1 :: s2 :: s3 :: s4 :: s5 :: s6 :: s7 :: s8 :: o :: o' :: B) (.long x :: st) H ce sl := go_lstoreG (A := [s0, s1, s2, s3, s4, s5, s6, s7, s8]) rfl ho hd h
theorem go_iinc9 {s0 s1 s2 s3 s4 s5 s6 s7 s8 : Slot} {B : List Slot} {cst : Int} {x v : Int32} (hd : Ins M pc (.iinc 9 cst) 3 pc') (hv : x + Int32.ofInt cst = v) (h : Go Z a0 n0 M R Q pc' (s0 :: s1 :: s2 :: s3 :: s4 :: s5 :: s6 :: s7 :: s8 :: .val (.int v) :: B) st H ce sl) : Go Z a0 n0 M R Q pc (s0 :: s1 :: s2 :: s3 :: s4 :: s5 :: s6 :: s7 :: s8 :: .val (.int x) :: B) st H ce sl := go_iincG (A := [s0, s1, s2, s3, s4, s5, s6, s7, s8]) rfl hd hv h
theorem go_istore10 {s0 s1 s2 s3 s4 s5 s6 s7 s8 s9 o : Slot} {B : List Slot} {x : Int32} (hd : Ins M pc (.istore 10) 2 pc') (ho : One o) (h : Go Z a0 n0 M R Q pc' (s0 :: s1 :: s2 :: s3 :: s4 :: s5 :: s6 :: s7 :: s8 :: s9 :: .val (.int x) :: B) st H ce sl) : Go Z a0 n0 M R Q pc (s0 :: s1 :: s2 :: s3 :: s4 :: s5 :: s6 :: s7 :: s8 :: s9 :: o :: B) (.int x :: st) H ce sl := go_istoreG (A := [s0, s1, s2, s3, s4, s5, s6, s7, s8, s9]) rfl ho hd h
theorem go_astore10 {s0 s1 s2 s3 s4 s5 s6 s7 s8 s9 o : Slot} {B : List Slot} {x : Addr} (hd : Ins M pc (.astore 10) 2 pc') (ho : One o) (h : Go Z a0 n0 M R Q pc' (s0 :: s1 :: s2 :: s3 :: s4 :: s5 :: s6 :: s7 :: s8 :: s9 :: .val (.ref x) :: B) st H ce sl) : Go Z a0 n0 M R Q pc (s0 :: s1 :: s2 :: s3 :: s4 :: s5 :: s6 :: s7 :: s8 :: s9 :: o :: B) (.ref x :: st) H ce sl := go_astoreG (A := [s0, s1, s2, s3, s4, s5, s6, s7, s8, s9]) rfl ho hd h
theorem go_lstore10 {s0 s1 s2 s3 s4 s5 s6 s7 s8 s9 o o' : Slot} {B : List Slot} {x : Int64} (hd : Ins M pc (.lstore 10) 2 pc') (ho : (One o ∧ One o') ∨ ∃ y : Int64, o = .val (.long y) ∧ o' = .second) (h : Go Z a0 n0 M R Q pc' (s0 :: s1 :: s2 :: s3 :: s4 :: s5 :: s6 :: s7 :: s8 :: s9 :: .val (.long x) :: .second :: B) st H ce sl) : Go Z a0 n0 M R Q pc (s0 :: s1 :: s2 :: s3 :: s4 :: s5 :: s6 :: s7 :: s8 :: s9 :: o :: o' :: B) (.long x :: st) H ce sl := go_lstoreG (A := [s0, s1, s2, s3, s4, s5, s6, s7, s8, s9]) rfl ho hd h
theorem go_iinc10 {s0 s1 s2 s3 s4 s5 s6 s7 s8 s9 : Slot} {B : List Slot} {cst : Int} {x v : Int32} (hd : Ins M pc (.iinc 10 cst) 3 pc') (hv : x + Int32.ofInt cst = v) (h : Go Z a0 n0 M R Q pc' (s0 :: s1 :: s2 :: s3 :: s4 :: s5 :: s6 :: s7 :: s8 :: s9 :: .val (.int v) :: B) st H ce sl) : Go Z a0 n0 M R Q pc (s0 :: s1 :: s2 :: s3 :: s4 :: s5 :: s6 :: s7 :: s8 :: s9 :: .val (.int x) :: B) st H ce sl := go_iincG (A := [s0, s1, s2, s3, s4, s5, s6, s7, s8, s9]) rfl hd hv h
theorem go_istore11 {s0 s1 s2 s3 s4 s5 s6 s7 s8 s9 s10 o : Slot} {B : List Slot} {x : Int32} (hd : Ins M pc (.istore 11) 2 pc') (ho : One o) (h : Go Z a0 n0 M R Q pc' (s0 :: s1 :: s2 :: s3 :: s4 :: s5 :: s6 :: s7 :: s8 :: s9 :: s10 :: .val (.int x) :: B) st H ce sl) : Go Z a0 n0 M R Q pc (s0 :: s1 :: s2 :: s3 :: s4 :: s5 :: s6 :: s7 :: s8 :: s9 :: s10 :: o :: B) (.int x :: st) H ce sl := go_istoreG (A := [s0, s1, s2, s3, s4, s5, s6, s7, s8, s9, s10]) rfl ho hd h
theorem go_astore11 {s0 s1 s2 s3 s4 s5 s6 s7 s8 s9 s10 o : Slot} {B : List Slot} {x : Addr} (hd : Ins M pc (.astore 11) 2 pc') (ho : One o) (h : Go Z a0 n0 M R Q pc' (s0 :: s1 :: s2 :: s3 :: s4 :: s5 :: s6 :: s7 :: s8 :: s9 :: s10 :: .val (.ref x) :: B) st H ce sl) : Go Z a0 n0 M R Q pc (s0 :: s1 :: s2 :: s3 :: s4 :: s5 :: s6 :: s7 :: s8 :: s9 :: s10 :: o :: B) (.ref x :: st) H ce sl := go_astoreG (A := [s0, s1, s2, s3, s4, s5, s6, s7, s8, s9, s10]) rfl ho hd h
theorem go_lstore11 {s0 s1 s2 s3 s4 s5 s6 s7 s8 s9 s10 o o' : Slot} {B : List Slot} {x : Int64} (hd : Ins M pc (.lstore 11) 2 pc') (ho : (One o ∧ One o') ∨ ∃ y : Int64, o = .val (.long y) ∧ o' = .second) (h : Go Z a0 n0 M R Q pc' (s0 :: s1 :: s2 :: s3 :: s4 :: s5 :: s6 :: s7 :: s8 :: s9 :: s10 :: .val (.long x) :: .second :: B) st H ce sl) : Go Z a0 n0 M R Q pc (s0 :: s1 :: s2 :: s3 :: s4 :: s5 :: s6 :: s7 :: s8 :: s9 :: s10 :: o :: o' :: B) (.long x :: st) H ce sl := go_lstoreG (A := [s0, s1, s2, s3, s4, s5, s6, s7, s8, s9, s10]) rfl ho hd h
theorem go_iinc11 {s0 s1 s2 s3 s4 s5 s6 s7 s8 s9 s10 : Slot} {B : List Slot} {cst : Int} {x v : Int32} (hd : Ins M pc (.iinc 11 cst) 3 pc') (hv : x + Int32.ofInt cst = v) (h : Go Z a0 n0 M R Q pc' (s0 :: s1 :: s2 :: s3 :: s4 :: s5 :: s6 :: s7 :: s8 :: s9 :: s10 :: .val (.int v) :: B) st H ce sl) : Go Z a0 n0 M R Q pc (s0 :: s1 :: s2 :: s3 :: s4 :: s5 :: s6 :: s7 :: s8 :: s9 :: s10 :: .val (.int x) :: B) st H ce sl := go_iincG (A := [s0, s1, s2, s3, s4, s5, s6, s7, s8, s9, s10]) rfl hd hv h
theorem go_istore12 {s0 s1 s2 s3 s4 s5 s6 s7 s8 s9 s10 s11 o : Slot} {B : List Slot} {x : Int32} (hd : Ins M pc (.istore 12) 2 pc') (ho : One o) (h : Go Z a0 n0 M R Q pc' (s0 :: s1 :: s2 :: s3 :: s4 :: s5 :: s6 :: s7 :: s8 :: s9 :: s10 :: s11 :: .val (.int x) :: B) st H ce sl) : Go Z a0 n0 M R Q pc (s0 :: s1 :: s2 :: s3 :: s4 :: s5 :: s6 :: s7 :: s8 :: s9 :: s10 :: s11 :: o :: B) (.int x :: st) H ce sl := go_istoreG (A := [s0, s1, s2, s3, s4, s5, s6, s7, s8, s9, s10, s11]) rfl ho hd h
theorem go_astore12 {s0 s1 s2 s3 s4 s5 s6 s7 s8 s9 s10 s11 o : Slot} {B : List Slot} {x : Addr} (hd : Ins M pc (.astore 12) 2 pc') (ho : One o) (h : Go Z a0 n0 M R Q pc' (s0 :: s1 :: s2 :: s3 :: s4 :: s5 :: s6 :: s7 :: s8 :: s9 :: s10 :: s11 :: .val (.ref x) :: B) st H ce sl) : Go Z a0 n0 M R Q pc (s0 :: s1 :: s2 :: s3 :: s4 :: s5 :: s6 :: s7 :: s8 :: s9 :: s10 :: s11 :: o :: B) (.ref x :: st) H ce sl := go_astoreG (A := [s0, s1, s2, s3, s4, s5, s6, s7, s8, s9, s10, s11]) rfl ho hd h
theorem go_lstore12 {s0 s1 s2 s3 s4 s5 s6 s7 s8 s9 s10 s11 o o' : Slot} {B : List Slot} {x : Int64} (hd : Ins M pc (.lstore 12) 2 pc') (ho : (One o ∧ One o') ∨ ∃ y : Int64, o = .val (.long y) ∧ o' = .second) (h : Go Z a0 n0 M R Q pc' (s0 :: s1 :: s2 :: s3 :: s4 :: s5 :: s6 :: s7 :: s8 :: s9 :: s10 :: s11 :: .val (.long x) :: .second :: B) st H ce sl) : Go Z a0 n0 M R Q pc (s0 :: s1 :: s2 :: s3 :: s4 :: s5 :: s6 :: s7 :: s8 :: s9 :: s10 :: s11 :: o :: o' :: B) (.long x :: st) H ce sl := go_lstoreG (A := [s0, s1, s2, s3, s4, s5, s6, s7, s8, s9, s10, s11]) rfl ho hd h
theorem go_iinc12 {s0 s1 s2 s3 s4 s5 s6 s7 s8 s9 s10 s11 : Slot} {B : List Slot} {cst : Int} {x v : Int32} (hd : Ins M pc (.iinc 12 cst) 3 pc') (hv : x + Int32.ofInt cst = v) (h : Go Z a0 n0 M R Q pc' (s0 :: s1 :: s2 :: s3 :: s4 :: s5 :: s6 :: s7 :: s8 :: s9 :: s10 :: s11 :: .val (.int v) :: B) st H ce sl) : Go Z a0 n0 M R Q pc (s0 :: s1 :: s2 :: s3 :: s4 :: s5 :: s6 :: s7 :: s8 :: s9 :: s10 :: s11 :: .val (.int x) :: B) st H ce sl := go_iincG (A := [s0, s1, s2, s3, s4, s5, s6, s7, s8, s9, s10, s11]) rfl hd hv h
theorem go_istore13 {s0 s1 s2 s3 s4 s5 s6 s7 s8 s9 s10 s11 s12 o : Slot} {B : List Slot} {x : Int32} (hd : Ins M pc (.istore 13) 2 pc') (ho : One o) (h : Go Z a0 n0 M R Q pc' (s0 :: s1 :: s2 :: s3 :: s4 :: s5 :: s6 :: s7 :: s8 :: s9 :: s10 :: s11 :: s12 :: .val (.int x) :: B) st H ce sl) : Go Z a0 n0 M R Q pc (s0 :: s1 :: s2 :: s3 :: s4 :: s5 :: s6 :: s7 :: s8 :: s9 :: s10 :: s11 :: s12 :: o :: B) (.int x :: st) H ce sl := go_istoreG (A := [s0, s1, s2, s3, s4, s5, s6, s7, s8, s9, s10, s11, s12]) rfl ho hd h
theorem go_astore13 {s0 s1 s2 s3 s4 s5 s6 s7 s8 s9 s10 s11 s12 o : Slot} {B : List Slot} {x : Addr} (hd : Ins M pc (.astore 13) 2 pc') (ho : One o) (h : Go Z a0 n0 M R Q pc' (s0 :: s1 :: s2 :: s3 :: s4 :: s5 :: s6 :: s7 :: s8 :: s9 :: s10 :: s11 :: s12 :: .val (.ref x) :: B) st H ce sl) : Go Z a0 n0 M R Q pc (s0 :: s1 :: s2 :: s3 :: s4 :: s5 :: s6 :: s7 :: s8 :: s9 :: s10 :: s11 :: s12 :: o :: B) (.ref x :: st) H ce sl := go_astoreG (A := [s0, s1, s2, s3, s4, s5, s6, s7, s8, s9, s10, s11, s12]) rfl ho hd h
theorem go_lstore13 {s0 s1 s2 s3 s4 s5 s6 s7 s8 s9 s10 s11 s12 o o' : Slot} {B : List Slot} {x : Int64} (hd : Ins M pc (.lstore 13) 2 pc') (ho : (One o ∧ One o') ∨ ∃ y : Int64, o = .val (.long y) ∧ o' = .second) (h : Go Z a0 n0 M R Q pc' (s0 :: s1 :: s2 :: s3 :: s4 :: s5 :: s6 :: s7 :: s8 :: s9 :: s10 :: s11 :: s12 :: .val (.long x) :: .second :: B) st H ce sl) : Go Z a0 n0 M R Q pc (s0 :: s1 :: s2 :: s3 :: s4 :: s5 :: s6 :: s7 :: s8 :: s9 :: s10 :: s11 :: s12 :: o :: o' :: B) (.long x :: st) H ce sl := go_lstoreG (A := [s0, s1, s2, s3, s4, s5, s6, s7, s8, s9, s10, s11, s12]) rfl ho hd h
theorem go_iinc13 {s0 s1 s2 s3 s4 s5 s6 s7 s8 s9 s10 s11 s12 : Slot} {B : List Slot} {cst : Int} {x v : Int32} (hd : Ins M pc (.iinc 13 cst) 3 pc') (hv : x + Int32.ofInt cst = v) (h : Go Z a0 n0 M R Q pc' (s0 :: s1 :: s2 :: s3 :: s4 :: s5 :: s6 :: s7 :: s8 :: s9 :: s10 :: s11 :: s12 :: .val (.int v) :: B) st H ce sl) : Go Z a0 n0 M R Q pc (s0 :: s1 :: s2 :: s3 :: s4 :: s5 :: s6 :: s7 :: s8 :: s9 :: s10 :: s11 :: s12 :: .val (.int x) :: B) st H ce sl := go_iincG (A := [s0, s1, s2, s3, s4, s5, s6, s7, s8, s9, s10, s11, s12]) rfl hd hv h
theorem go_istore14 {s0 s1 s2 s3 s4 s5 s6 s7 s8 s9 s10 s11 s12 s13 o : Slot} {B : List Slot} {x : Int32} (hd : Ins M pc (.istore 14) 2 pc') (ho : One o) (h : Go Z a0 n0 M R Q pc' (s0 :: s1 :: s2 :: s3 :: s4 :: s5 :: s6 :: s7 :: s8 :: s9 :: s10 :: s11 :: s12 :: s13 :: .val (.int x) :: B) st H ce sl) : Go Z a0 n0 M R Q pc (s0 :: s1 :: s2 :: s3 :: s4 :: s5 :: s6 :: s7 :: s8 :: s9 :: s10 :: s11 :: s12 :: s13 :: o :: B) (.int x :: st) H ce sl := go_istoreG (A := [s0, s1, s2, s3, s4, s5, s6, s7, s8, s9, s10, s11, s12, s13]) rfl ho hd h
theorem go_astore14 {s0 s1 s2 s3 s4 s5 s6 s7 s8 s9 s10 s11 s12 s13 o : Slot} {B : List Slot} {x : Addr} (hd : Ins M pc (.astore 14) 2 pc') (ho : One o) (h : Go Z a0 n0 M R Q pc' (s0 :: s1 :: s2 :: s3 :: s4 :: s5 :: s6 :: s7 :: s8 :: s9 :: s10 :: s11 :: s12 :: s13 :: .val (.ref x) :: B) st H ce sl) : Go Z a0 n0 M R Q pc (s0 :: s1 :: s2 :: s3 :: s4 :: s5 :: s6 :: s7 :: s8 :: s9 :: s10 :: s11 :: s12 :: s13 :: o :: B) (.ref x :: st) H ce sl := go_astoreG (A := [s0, s1, s2, s3, s4, s5, s6, s7, s8, s9, s10, s11, s12, s13]) rfl ho hd h
theorem go_lstore14 {s0 s1 s2 s3 s4 s5 s6 s7 s8 s9 s10 s11 s12 s13 o o' : Slot} {B : List Slot} {x : Int64} (hd : Ins M pc (.lstore 14) 2 pc') (ho : (One o ∧ One o') ∨ ∃ y : Int64, o = .val (.long y) ∧ o' = .second) (h : Go Z a0 n0 M R Q pc' (s0 :: s1 :: s2 :: s3 :: s4 :: s5 :: s6 :: s7 :: s8 :: s9 :: s10 :: s11 :: s12 :: s13 :: .val (.long x) :: .second :: B) st H ce sl) : Go Z a0 n0 M R Q pc (s0 :: s1 :: s2 :: s3 :: s4 :: s5 :: s6 :: s7 :: s8 :: s9 :: s10 :: s11 :: s12 :: s13 :: o :: o' :: B) (.long x :: st) H ce sl := go_lstoreG (A := [s0, s1, s2, s3, s4, s5, s6, s7, s8, s9, s10, s11, s12, s13]) rfl ho hd h
theorem go_iinc14 {s0 s1 s2 s3 s4 s5 s6 s7 s8 s9 s10 s11 s12 s13 : Slot} {B : List Slot} {cst : Int} {x v : Int32} (hd : Ins M pc (.iinc 14 cst) 3 pc') (hv : x + Int32.ofInt cst = v) (h : Go Z a0 n0 M R Q pc' (s0 :: s1 :: s2 :: s3 :: s4 :: s5 :: s6 :: s7 :: s8 :: s9 :: s10 :: s11 :: s12 :: s13 :: .val (.int v) :: B) st H ce sl) : Go Z a0 n0 M R Q pc (s0 :: s1 :: s2 :: s3 :: s4 :: s5 :: s6 :: s7 :: s8 :: s9 :: s10 :: s11 :: s12 :: s13 :: .val (.int x) :: B) st H ce sl := go_iincG (A := [s0, s1, s2, s3, s4, s5, s6, s7, s8, s9, s10, s11, s12, s13]) rfl hd hv h
theorem go_istore15 {s0 s1 s2 s3 s4 s5 s6 s7 s8 s9 s10 s11 s12 s13 s14 o : Slot} {B : List Slot} {x : Int32} (hd : Ins M pc (.istore 15) 2 pc') (ho : One o) (h : Go Z a0 n0 M R Q pc' (s0 :: s1 :: s2 :: s3 :: s4 :: s5 :: s6 :: s7 :: s8 :: s9 :: s10 :: s11 :: s12 :: s13 :: s14 :: .val (.int x) :: B) st H ce sl) : Go Z a0 n0 M R Q pc (s0 :: s1 :: s2 :: s3 :: s4 :: s5 :: s6 :: s7 :: s8 :: s9 :: s10 :: s11 :: s12 :: s13 :: s14 :: o :: B) (.int x :: st) H ce sl := go_istoreG (A := [s0, s1, s2, s3, s4, s5, s6, s7, s8, s9, s10, s11, s12, s13, s14]) rfl ho hd h
theorem go_astore15 {s0 s1 s2 s3 s4 s5 s6 s7 s8 s9 s10 s11 s12 s13 s14 o : Slot} {B : List Slot} {x : Addr} (hd : Ins M pc (.astore 15) 2 pc') (ho : One o) (h : Go Z a0 n0 M R Q pc' (s0 :: s1 :: s2 :: s3 :: s4 :: s5 :: s6 :: s7 :: s8 :: s9 :: s10 :: s11 :: s12 :: s13 :: s14 :: .val (.ref x) :: B) st H ce sl) : Go Z a0 n0 M R Q pc (s0 :: s1 :: s2 :: s3 :: s4 :: s5 :: s6 :: s7 :: s8 :: s9 :: s10 :: s11 :: s12 :: s13 :: s14 :: o :: B) (.ref x :: st) H ce sl := go_astoreG (A := [s0, s1, s2, s3, s4, s5, s6, s7, s8, s9, s10, s11, s12, s13, s14]) rfl ho hd h
theorem go_lstore15 {s0 s1 s2 s3 s4 s5 s6 s7 s8 s9 s10 s11 s12 s13 s14 o o' : Slot} {B : List Slot} {x : Int64} (hd : Ins M pc (.lstore 15) 2 pc') (ho : (One o ∧ One o') ∨ ∃ y : Int64, o = .val (.long y) ∧ o' = .second) (h : Go Z a0 n0 M R Q pc' (s0 :: s1 :: s2 :: s3 :: s4 :: s5 :: s6 :: s7 :: s8 :: s9 :: s10 :: s11 :: s12 :: s13 :: s14 :: .val (.long x) :: .second :: B) st H ce sl) : Go Z a0 n0 M R Q pc (s0 :: s1 :: s2 :: s3 :: s4 :: s5 :: s6 :: s7 :: s8 :: s9 :: s10 :: s11 :: s12 :: s13 :: s14 :: o :: o' :: B) (.long x :: st) H ce sl := go_lstoreG (A := [s0, s1, s2, s3, s4, s5, s6, s7, s8, s9, s10, s11, s12, s13, s14]) rfl ho hd h
theorem go_iinc15 {s0 s1 s2 s3 s4 s5 s6 s7 s8 s9 s10 s11 s12 s13 s14 : Slot} {B : List Slot} {cst : Int} {x v : Int32} (hd : Ins M pc (.iinc 15 cst) 3 pc') (hv : x + Int32.ofInt cst = v) (h : Go Z a0 n0 M R Q pc' (s0 :: s1 :: s2 :: s3 :: s4 :: s5 :: s6 :: s7 :: s8 :: s9 :: s10 :: s11 :: s12 :: s13 :: s14 :: .val (.int v) :: B) st H ce sl) : Go Z a0 n0 M R Q pc (s0 :: s1 :: s2 :: s3 :: s4 :: s5 :: s6 :: s7 :: s8 :: s9 :: s10 :: s11 :: s12 :: s13 :: s14 :: .val (.int x) :: B) st H ce sl := go_iincG (A := [s0, s1, s2, s3, s4, s5, s6, s7, s8, s9, s10, s11, s12, s13, s14]) rfl hd hv h
theorem go_istore16 {s0 s1 s2 s3 s4 s5 s6 s7 s8 s9 s10 s11 s12 s13 s14 s15 o : Slot} {B : List Slot} {x : Int32} (hd : Ins M pc (.istore 16) 2 pc') (ho : One o) (h : Go Z a0 n0 M R Q pc' (s0 :: s1 :: s2 :: s3 :: s4 :: s5 :: s6 :: s7 :: s8 :: s9 :: s10 :: s11 :: s12 :: s13 :: s14 :: s15 :: .val (.int x) :: B) st H ce sl) : Go Z a0 n0 M R Q pc (s0 :: s1 :: s2 :: s3 :: s4 :: s5 :: s6 :: s7 :: s8 :: s9 :: s10 :: s11 :: s12 :: s13 :: s14 :: s15 :: o :: B) (.int x :: st) H ce sl := go_istoreG (A := [s0, s1, s2, s3, s4, s5, s6, s7, s8, s9, s10, s11, s12, s13, s14, s15]) rfl ho hd h
theorem go_astore16 {s0 s1 s2 s3 s4 s5 s6 s7 s8 s9 s10 s11 s12 s13 s14 s15 o : Slot} {B : List Slot} {x : Addr} (hd : Ins M pc (.astore 16) 2 pc') (ho : One o) (h : Go Z a0 n0 M R Q pc' (s0 :: s1 :: s2 :: s3 :: s4 :: s5 :: s6 :: s7 :: s8 :: s9 :: s10 :: s11 :: s12 :: s13 :: s14 :: s15 :: .val (.ref x) :: B) st H ce sl) : Go Z a0 n0 M R Q pc (s0 :: s1 :: s2 :: s3 :: s4 :: s5 :: s6 :: s7 :: s8 :: s9 :: s10 :: s11 :: s12 :: s13 :: s14 :: s15 :: o :: B) (.ref x :: st) H ce sl := go_astoreG (A := [s0, s1, s2, s3, s4, s5, s6, s7, s8, s9, s10, s11, s12, s13, s14, s15]) rfl ho hd h
theorem go_lstore16 {s0 s1 s2 s3 s4 s5 s6 s7 s8 s9 s10 s11 s12 s13 s14 s15 o o' : Slot} {B : List Slot} {x : Int64} (hd : Ins M pc (.lstore 16) 2 pc') (ho : (One o ∧ One o') ∨ ∃ y : Int64, o = .val (.long y) ∧ o' = .second) (h : Go Z a0 n0 M R Q pc' (s0 :: s1 :: s2 :: s3 :: s4 :: s5 :: s6 :: s7 :: s8 :: s9 :: s10 :: s11 :: s12 :: s13 :: s14 :: s15 :: .val (.long x) :: .second :: B) st H ce sl) : Go Z a0 n0 M R Q pc (s0 :: s1 :: s2 :: s3 :: s4 :: s5 :: s6 :: s7 :: s8 :: s9 :: s10 :: s11 :: s12 :: s13 :: s14 :: s15 :: o :: o' :: B) (.long x :: st) H ce sl := go_lstoreG (A := [s0, s1, s2, s3, s4, s5, s6, s7, s8, s9, s10, s11, s12, s13, s14, s15]) rfl ho hd h
theorem go_iinc16 {s0 s1 s2 s3 s4 s5 s6 s7 s8 s9 s10 s11 s12 s13 s14 s15 : Slot} {B : List Slot} {cst : Int} {x v : Int32} (hd : Ins M pc (.iinc 16 cst) 3 pc') (hv : x + Int32.ofInt cst = v) (h : Go Z a0 n0 M R Q pc' (s0 :: s1 :: s2 :: s3 :: s4 :: s5 :: s6 :: s7 :: s8 :: s9 :: s10 :: s11 :: s12 :: s13 :: s14 :: s15 :: .val (.int v) :: B) st H ce sl) : Go Z a0 n0 M R Q pc (s0 :: s1 :: s2 :: s3 :: s4 :: s5 :: s6 :: s7 :: s8 :: s9 :: s10 :: s11 :: s12 :: s13 :: s14 :: s15 :: .val (.int x) :: B) st H ce sl := go_iincG (A := [s0, s1, s2, s3, s4, s5, s6, s7, s8, s9, s10, s11, s12, s13, s14, s15]) rfl hd hv h
theorem go_istore17 {s0 s1 s2 s3 s4 s5 s6 s7 s8 s9 s10 s11 s12 s13 s14 s15 s16 o : Slot} {B : List Slot} {x : Int32} (hd : Ins M pc (.istore 17) 2 pc') (ho : One o) (h : Go Z a0 n0 M R Q pc' (s0 :: s1 :: s2 :: s3 :: s4 :: s5 :: s6 :: s7 :: s8 :: s9 :: s10 :: s11 :: s12 :: s13 :: s14 :: s15 :: s16 :: .val (.int x) :: B) st H ce sl) : Go Z a0 n0 M R Q pc (s0 :: s1 :: s2 :: s3 :: s4 :: s5 :: s6 :: s7 :: s8 :: s9 :: s10 :: s11 :: s12 :: s13 :: s14 :: s15 :: s16 :: o :: B) (.int x :: st) H ce sl := go_istoreG (A := [s0, s1, s2, s3, s4, s5, s6, s7, s8, s9, s10, s11, s12, s13, s14, s15, s16]) rfl ho hd h
theorem go_astore17 {s0 s1 s2 s3 s4 s5 s6 s7 s8 s9 s10 s11 s12 s13 s14 s15 s16 o : Slot} {B : List Slot} {x : Addr} (hd : Ins M pc (.astore 17) 2 pc') (ho : One o) (h : Go Z a0 n0 M R Q pc' (s0 :: s1 :: s2 :: s3 :: s4 :: s5 :: s6 :: s7 :: s8 :: s9 :: s10 :: s11 :: s12 :: s13 :: s14 :: s15 :: s16 :: .val (.ref x) :: B) st H ce sl) : Go Z a0 n0 M R Q pc (s0 :: s1 :: s2 :: s3 :: s4 :: s5 :: s6 :: s7 :: s8 :: s9 :: s10 :: s11 :: s12 :: s13 :: s14 :: s15 :: s16 :: o :: B) (.ref x :: st) H ce sl := go_astoreG (A := [s0, s1, s2, s3, s4, s5, s6, s7, s8, s9, s10, s11, s12, s13, s14, s15, s16]) rfl ho hd h
theorem go_lstore17 {s0 s1 s2 s3 s4 s5 s6 s7 s8 s9 s10 s11 s12 s13 s14 s15 s16 o o' : Slot} {B : List Slot} {x : Int64} (hd : Ins M pc (.lstore 17) 2 pc') (ho : (One o ∧ One o') ∨ ∃ y : Int64, o = .val (.long y) ∧ o' = .second) (h : Go Z a0 n0 M R Q pc' (s0 :: s1 :: s2 :: s3 :: s4 :: s5 :: s6 :: s7 :: s8 :: s9 :: s10 :: s11 :: s12 :: s13 :: s14 :: s15 :: s16 :: .val (.long x) :: .second :: B) st H ce sl) : Go Z a0 n0 M R Q pc (s0 :: s1 :: s2 :: s3 :: s4 :: s5 :: s6 :: s7 :: s8 :: s9 :: s10 :: s11 :: s12 :: s13 :: s14 :: s15 :: s16 :: o :: o' :: B) (.long x :: st) H ce sl := go_lstoreG (A := [s0, s1, s2, s3, s4, s5, s6, s7, s8, s9, s10, s11, s12, s13, s14, s15, s16]) rfl ho hd h
theorem go_iinc17 {s0 s1 s2 s3 s4 s5 s6 s7 s8 s9 s10 s11 s12 s13 s14 s15 s16 : Slot} {B : List Slot} {cst : Int} {x v : Int32} (hd : Ins M pc (.iinc 17 cst) 3 pc') (hv : x + Int32.ofInt cst = v) (h : Go Z a0 n0 M R Q pc' (s0 :: s1 :: s2 :: s3 :: s4 :: s5 :: s6 :: s7 :: s8 :: s9 :: s10 :: s11 :: s12 :: s13 :: s14 :: s15 :: s16 :: .val (.int v) :: B) st H ce sl) : Go Z a0 n0 M R Q pc (s0 :: s1 :: s2 :: s3 :: s4 :: s5 :: s6 :: s7 :: s8 :: s9 :: s10 :: s11 :: s12 :: s13 :: s14 :: s15 :: s16 :: .val (.int x) :: B) st H ce sl := go_iincG (A := [s0, s1, s2, s3, s4, s5, s6, s7, s8, s9, s10, s11, s12, s13, s14, s15, s16]) rfl hd hv h
theorem go_istore18 {s0 s1 s2 s3 s4 s5 s6 s7 s8 s9 s10 s11 s12 s13 s14 s15 s16 s17 o : Slot} {B : List Slot} {x : Int32} (hd : Ins M pc (.istore 18) 2 pc') (ho : One o) (h : Go Z a0 n0 M R Q pc' (s0 :: s1 :: s2 :: s3 :: s4 :: s5 :: s6 :: s7 :: s8 :: s9 :: s10 :: s11 :: s12 :: s13 :: s14 :: s15 :: s16 :: s17 :: .val (.int x) :: B) st H ce sl) : Go Z a0 n0 M R Q pc (s0 :: s1 :: s2 :: s3 :: s4 :: s5 :: s6 :: s7 :: s8 :: s9 :: s10 :: s11 :: s12 :: s13 :: s14 :: s15 :: s16 :: s17 :: o :: B) (.int x :: st) H ce sl := go_istoreG (A := [s0, s1, s2, s3, s4, s5, s6, s7, s8, s9, s10, s11, s12, s13, s14, s15, s16, s17]) rfl ho hd h
theorem go_astore18 {s0 s1 s2 s3 s4 s5 s6 s7 s8 s9 s10 s11 s12 s13 s14 s15 s16 s17 o : Slot} {B : List Slot} {x : Addr} (hd : Ins M pc (.astore 18) 2 pc') (ho : One o) (h : Go Z a0 n0 M R Q pc' (s0 :: s1 :: s2 :: s3 :: s4 :: s5 :: s6 :: s7 :: s8 :: s9 :: s10 :: s11 :: s12 :: s13 :: s14 :: s15 :: s16 :: s17 :: .val (.ref x) :: B) st H ce sl) : Go Z a0 n0 M R Q pc (s0 :: s1 :: s2 :: s3 :: s4 :: s5 :: s6 :: s7 :: s8 :: s9 :: s10 :: s11 :: s12 :: s13 :: s14 :: s15 :: s16 :: s17 :: o :: B) (.ref x :: st) H ce sl := go_astoreG (A := [s0, s1, s2, s3, s4, s5, s6, s7, s8, s9, s10, s11, s12, s13, s14, s15, s16, s17]) rfl ho hd h
theorem go_lstore18 {s0 s1 s2 s3 s4 s5 s6 s7 s8 s9 s10 s11 s12 s13 s14 s15 s16 s17 o o' : Slot} {B : List Slot} {x : Int64} (hd : Ins M pc (.lstore 18) 2 pc') (ho : (One o ∧ One o') ∨ ∃ y : Int64, o = .val (.long y) ∧ o' = .second) (h : Go Z a0 n0 M R Q pc' (s0 :: s1 :: s2 :: s3 :: s4 :: s5 :: s6 :: s7 :: s8 :: s9 :: s10 :: s11 :: s12 :: s13 :: s14 :: s15 :: s16 :: s17 :: .val (.long x) :: .second :: B) st H ce sl) : Go Z a0 n0 M R Q pc (s0 :: s1 :: s2 :: s3 :: s4 :: s5 :: s6 :: s7 :: s8 :: s9 :: s10 :: s11 :: s12 :: s13 :: s14 :: s15 :: s16 :: s17 :: o :: o' :: B) (.long x :: st) H ce sl := go_lstoreG (A := [s0, s1, s2, s3, s4, s5, s6, s7, s8, s9, s10, s11, s12, s13, s14, s15, s16, s17]) rfl ho hd h
theorem go_iinc18 {s0 s1 s2 s3 s4 s5 s6 s7 s8 s9 s10 s11 s12 s13 s14 s15 s16 s17 : Slot} {B : List Slot} {cst : Int} {x v : Int32} (hd : Ins M pc (.iinc 18 cst) 3 pc') (hv : x + Int32.ofInt cst = v) (h : Go Z a0 n0 M R Q pc' (s0 :: s1 :: s2 :: s3 :: s4 :: s5 :: s6 :: s7 :: s8 :: s9 :: s10 :: s11 :: s12 :: s13 :: s14 :: s15 :: s16 :: s17 :: .val (.int v) :: B) st H ce sl) : Go Z a0 n0 M R Q pc (s0 :: s1 :: s2 :: s3 :: s4 :: s5 :: s6 :: s7 :: s8 :: s9 :: s10 :: s11 :: s12 :: s13 :: s14 :: s15 :: s16 :: s17 :: .val (.int x) :: B) st H ce sl := go_iincG (A := [s0, s1, s2, s3, s4, s5, s6, s7, s8, s9, s10, s11, s12, s13, s14, s15, s16, s17]) rfl hd hv h
theorem go_istore19 {s0 s1 s2 s3 s4 s5 s6 s7 s8 s9 s10 s11 s12 s13 s14 s15 s16 s17 s18 o : Slot} {B : List Slot} {x : Int32} (hd : Ins M pc (.istore 19) 2 pc') (ho : One o) (h : Go Z a0 n0 M R Q pc' (s0 :: s1 :: s2 :: s3 :: s4 :: s5 :: s6 :: s7 :: s8 :: s9 :: s10 :: s11 :: s12 :: s13 :: s14 :: s15 :: s16 :: s17 :: s18 :: .val (.int x) :: B) st H ce sl) : Go Z a0 n0 M R Q pc (s0 :: s1 :: s2 :: s3 :: s4 :: s5 :: s6 :: s7 :: s8 :: s9 :: s10 :: s11 :: s12 :: s13 :: s14 :: s15 :: s16 :: s17 :: s18 :: o :: B) (.int x :: st) H ce sl := go_istoreG (A := [s0, s1, s2, s3, s4, s5, s6, s7, s8, s9, s10, s11, s12, s13, s14, s15, s16, s17, s18]) rfl ho hd h
theorem go_astore19 {s0 s1 s2 s3 s4 s5 s6 s7 s8 s9 s10 s11 s12 s13 s14 s15 s16 s17 s18 o : Slot} {B : List Slot} {x : Addr} (hd : Ins M pc (.astore 19) 2 pc') (ho : One o) (h : Go Z a0 n0 M R Q pc' (s0 :: s1 :: s2 :: s3 :: s4 :: s5 :: s6 :: s7 :: s8 :: s9 :: s10 :: s11 :: s12 :: s13 :: s14 :: s15 :: s16 :: s17 :: s18 :: .val (.ref x) :: B) st H ce sl) : Go Z a0 n0 M R Q pc (s0 :: s1 :: s2 :: s3 :: s4 :: s5 :: s6 :: s7 :: s8 :: s9 :: s10 :: s11 :: s12 :: s13 :: s14 :: s15 :: s16 :: s17 :: s18 :: o :: B) (.ref x :: st) H ce sl := go_astoreG (A := [s0, s1, s2, s3, s4, s5, s6, s7, s8, s9, s10, s11, s12, s13, s14, s15, s16, s17, s18]) rfl ho hd h
theorem go_lstore19 {s0 s1 s2 s3 s4 s5 s6 s7 s8 s9 s10 s11 s12 s13 s14 s15 s16 s17 s18 o o' : Slot} {B : List Slot} {x : Int64} (hd : Ins M pc (.lstore 19) 2 pc') (ho : (One o ∧ One o') ∨ ∃ y : Int64, o = .val (.long y) ∧ o' = .second) (h : Go Z a0 n0 M R Q pc' (s0 :: s1 :: s2 :: s3 :: s4 :: s5 :: s6 :: s7 :: s8 :: s9 :: s10 :: s11 :: s12 :: s13 :: s14 :: s15 :: s16 :: s17 :: s18 :: .val (.long x) :: .second :: B) st H ce sl) : Go Z a0 n0 M R Q pc (s0 :: s1 :: s2 :: s3 :: s4 :: s5 :: s6 :: s7 :: s8 :: s9 :: s10 :: s11 :: s12 :: s13 :: s14 :: s15 :: s16 :: s17 :: s18 :: o :: o' :: B) (.long x :: st) H ce sl := go_lstoreG (A := [s0, s1, s2, s3, s4, s5, s6, s7, s8, s9, s10, s11, s12, s13, s14, s15, s16, s17, s18]) rfl ho hd h
theorem go_iinc19 {s0 s1 s2 s3 s4 s5 s6 s7 s8 s9 s10 s11 s12 s13 s14 s15 s16 s17 s18 : Slot} {B : List Slot} {cst : Int} {x v : Int32} (hd : Ins M pc (.iinc 19 cst) 3 pc') (hv : x + Int32.ofInt cst = v) (h : Go Z a0 n0 M R Q pc' (s0 :: s1 :: s2 :: s3 :: s4 :: s5 :: s6 :: s7 :: s8 :: s9 :: s10 :: s11 :: s12 :: s13 :: s14 :: s15 :: s16 :: s17 :: s18 :: .val (.int v) :: B) st H ce sl) : Go Z a0 n0 M R Q pc (s0 :: s1 :: s2 :: s3 :: s4 :: s5 :: s6 :: s7 :: s8 :: s9 :: s10 :: s11 :: s12 :: s13 :: s14 :: s15 :: s16 :: s17 :: s18 :: .val (.int x) :: B) st H ce sl := go_iincG (A := [s0, s1, s2, s3, s4, s5, s6, s7, s8, s9, s10, s11, s12, s13, s14, s15, s16, s17, s18]) rfl hd hv h
theorem go_istore20 {s0 s1 s2 s3 s4 s5 s6 s7 s8 s9 s10 s11 s12 s13 s14 s15 s16 s17 s18 s19 o : Slot} {B : List Slot} {x : Int32} (hd : Ins M pc (.istore 20) 2 pc') (ho : One o) (h : Go Z a0 n0 M R Q pc' (s0 :: s1 :: s2 :: s3 :: s4 :: s5 :: s6 :: s7 :: s8 :: s9 :: s10 :: s11 :: s12 :: s13 :: s14 :: s15 :: s16 :: s17 :: s18 :: s19 :: .val (.int x) :: B) st H ce sl) : Go Z a0 n0 M R Q pc (s0 :: s1 :: s2 :: s3 :: s4 :: s5 :: s6 :: s7 :: s8 :: s9 :: s10 :: s11 :: s12 :: s13 :: s14 :: s15 :: s16 :: s17 :: s18 :: s19 :: o :: B) (.int x :: st) H ce sl := go_istoreG (A := [s0, s1, s2, s3, s4, s5, s6, s7, s8, s9, s10, s11, s12, s13, s14, s15, s16, s17, s18, s19]) rfl ho hd h
theorem go_astore20 {s0 s1 s2 s3 s4 s5 s6 s7 s8 s9 s10 s11 s12 s13 s14 s15 s16 s17 s18 s19 o : Slot} {B : List Slot} {x : Addr} (hd : Ins M pc (.astore 20) 2 pc') (ho : One o) (h : Go Z a0 n0 M R Q pc' (s0 :: s1 :: s2 :: s3 :: s4 :: s5 :: s6 :: s7 :: s8 :: s9 :: s10 :: s11 :: s12 :: s13 :: s14 :: s15 :: s16 :: s17 :: s18 :: s19 :: .val (.ref x) :: B) st H ce sl) : Go Z a0 n0 M R Q pc (s0 :: s1 :: s2 :: s3 :: s4 :: s5 :: s6 :: s7 :: s8 :: s9 :: s10 :: s11 :: s12 :: s13 :: s14 :: s15 :: s16 :: s17 :: s18 :: s19 :: o :: B) (.ref x :: st) H ce sl := go_astoreG (A := [s0, s1, s2, s3, s4, s5, s6, s7, s8, s9, s10, s11, s12, s13, s14, s15, s16, s17, s18, s19]) rfl ho hd h
theorem go_lstore20 {s0 s1 s2 s3 s4 s5 s6 s7 s8 s9 s10 s11 s12 s13 s14 s15 s16 s17 s18 s19 o o' : Slot} {B : List Slot} {x : Int64} (hd : Ins M pc (.lstore 20) 2 pc') (ho : (One o ∧ One o') ∨ ∃ y : Int64, o = .val (.long y) ∧ o' = .second) (h : Go Z a0 n0 M R Q pc' (s0 :: s1 :: s2 :: s3 :: s4 :: s5 :: s6 :: s7 :: s8 :: s9 :: s10 :: s11 :: s12 :: s13 :: s14 :: s15 :: s16 :: s17 :: s18 :: s19 :: .val (.long x) :: .second :: B) st H ce sl) : Go Z a0 n0 M R Q pc (s0 :: s1 :: s2 :: s3 :: s4 :: s5 :: s6 :: s7 :: s8 :: s9 :: s10 :: s11 :: s12 :: s13 :: s14 :: s15 :: s16 :: s17 :: s18 :: s19 :: o :: o' :: B) (.long x :: st) H ce sl := go_lstoreG (A := [s0, s1, s2, s3, s4, s5, s6, s7, s8, s9, s10, s11, s12, s13, s14, s15, s16, s17, s18, s19]) rfl ho hd h
theorem go_iinc20 {s0 s1 s2 s3 s4 s5 s6 s7 s8 s9 s10 s11 s12 s13 s14 s15 s16 s17 s18 s19 : Slot} {B : List Slot} {cst : Int} {x v : Int32} (hd : Ins M pc (.iinc 20 cst) 3 pc') (hv : x + Int32.ofInt cst = v) (h : Go Z a0 n0 M R Q pc' (s0 :: s1 :: s2 :: s3 :: s4 :: s5 :: s6 :: s7 :: s8 :: s9 :: s10 :: s11 :: s12 :: s13 :: s14 :: s15 :: s16 :: s17 :: s18 :: s19 :: .val (.int v) :: B) st H ce sl) : Go Z a0 n0 M R Q pc (s0 :: s1 :: s2 :: s3 :: s4 :: s5 :: s6 :: s7 :: s8 :: s9 :: s10 :: s11 :: s12 :: s13 :: s14 :: s15 :: s16 :: s17 :: s18 :: s19 :: .val (.int x) :: B) st H ce sl := go_iincG (A := [s0, s1, s2, s3, s4, s5, s6, s7, s8, s9, s10, s11, s12, s13, s14, s15, s16, s17, s18, s19]) rfl hd hv h
end Rules
section Heap
variable {Z : State} {a0 : Array Value} {n0 : Nat} {M : GM} {R : Room} {Q : Option Value → List GObj → Prop} {pc pc' : Nat} {L : List Slot} {st : List Value} {H : List GObj} {ce sl : Nat}
theorem idx_of {j : Int32} {i : Nat} (h : j.toInt = (i : Int)) : ¬ j < 0 ∧ j.toNatClampNeg = i := by
  constructor
  · rw [Int32.lt_iff_toInt_lt]; simp only [Int32.reduceToInt]; omega
  · simp only [Int32.toNatClampNeg]; omega
theorem idx_in' {j : Int32} {i : Nat} {c : Cell} {vs : List Value} {v : Value} (h : j.toInt = (i : Int)) (hc : c.slots = vs.toArray) (hv : vs[i]? = some v) : ¬ (j < 0 ∨ c.slots.size ≤ j.toNatClampNeg) ∧ c.slots[j.toNatClampNeg]? = some v := by
  obtain ⟨h1, h2⟩ := idx_of h
  have := (List.getElem?_eq_some_iff.mp hv).1
  refine ⟨?_, by rw [h2, hc]; simpa using hv⟩
  rintro (q | q)
  · exact h1 q
  · rw [hc, h2] at q; simp at q; omega
theorem go_getfield {idx k : Nat} {K : GLay} {vs : List Value} {O n d : String} {ty : FieldType} {v : Value} (i : Nat) (hd : Ins M pc (.getfield idx) 3 pc') (w : (Jvm.Cond.fieldLink M.1.cls idx O n d).before a0 Z = true) (hH : H[k]? = some (.inl (K, vs))) (hK : K.2[i]? = some (O, n, d, ty)) (hv : vs[i]? = some v)
    (h : Go Z a0 n0 M R Q pc' L (v :: st) H ce sl) : Go Z a0 n0 M R Q pc L (.ref (n0 + k) :: st) H ce sl := by
  obtain ⟨hd, rfl⟩ := hd
  intro p l e s m args below meth c T locs X C S E F
  obtain ⟨hx, hZ, hby, hml, hret, hlk, hown, hnm⟩ := id C
  have F0 := (S.2.2.2 k _ hH).2.2 i _ _ hK hv
  obtain ⟨T', X', e', st'⟩ := getF X hx hZ hown (host := "") (Or.inl w) Via.refl rfl F0 (g := mkF m pc L.toArray (.ref (n0 + k) :: st)) rfl rfl (hb hby hd)
  exact (h p l e s m args below meth c T' locs X' C (by rw [e']; exact S) E F).back st'
theorem nodup_ne {K : GLay} (h : (K.2.map fun q => q.2.1).Nodup) {i j : Nat} {q q' : String × String × String × FieldType} (hi : K.2[i]? = some q) (hj : K.2[j]? = some q') (ne : i ≠ j) : q.2.1 ≠ q'.2.1 := fun e => by
  obtain ⟨h1, e1⟩ := List.getElem?_eq_some_iff.mp hi
  obtain ⟨h2, e2⟩ := List.getElem?_eq_some_iff.mp hj
  refine ne ((List.getElem_inj (xs := K.2.map fun q => q.2.1) (h₀ := by simpa using h1) (h₁ := by simpa using h2) h).mp ?_)
  simpa [e1, e2] using e
theorem go_putfield {idx k : Nat} {K : GLay} {vs : List Value} {O n d : String} {ty : FieldType} {v : Value} (i : Nat) (hd : Ins M pc (.putfield idx) 3 pc') (w : (Jvm.Cond.fieldLink M.1.cls idx O n d).before a0 Z = true) (hH : H[k]? = some (.inl (K, vs))) (hK : K.2[i]? = some (O, n, d, ty)) (hi : (vs[i]?).isSome = true)
    (hL : (Jvm.Cond.lays K.1 O n d).before a0 Z = true ∨ ((Jvm.Cond.laysFinal K.1 O n d).before a0 Z = true ∧ M.1.cls = O ∧ M.1.name = "<init>")) (hn : narrow ty v = v) (hf : fits ty v = true)
    (h : Go Z a0 n0 M R Q pc' L st (H.set k (.inl (K, vs.set i v))) ce sl) : Go Z a0 n0 M R Q pc L (v :: .ref (n0 + k) :: st) H ce sl := by
  obtain ⟨hd, rfl⟩ := hd
  intro p l e s m args below meth c T locs X C S E F
  obtain ⟨hx, hZ, hby, hml, hret, hlk, hown, hnm⟩ := id C
  obtain ⟨LO, EX, FS⟩ := S.2.2.2 k _ hH
  obtain ⟨old, hold⟩ := Option.isSome_iff_exists.mp hi
  have F0 := FS i _ _ hK hold
  obtain ⟨⟨kk, wi⟩, LA, ND⟩ := LO
  have hmem := List.mem_of_getElem? hK
  obtain ⟨T', h', X', e', W, st'⟩ := putF X hx hZ hown (host := "") (Or.inl w) Via.refl rfl F0 EX (hL.imp id fun q => ⟨q.1, q.2.1, hnm.trans q.2.2⟩) wi (LA _ hmem).2 hn hf (g := mkF m pc L.toArray (v :: .ref (n0 + k) :: st)) rfl rfl (hb hby hd)
  have OB : Ob Z a0 h' (n0 + k) (.inl (K, vs.set i v)) := by
    refine ⟨⟨⟨kk, wi⟩, LA, ND⟩, EX.wr W, fun j q u hq hu => ?_⟩
    by_cases ne : j = i
    · subst ne
      cases hK.symm.trans hq
      have : u = v := by
        have hlt := (List.getElem?_eq_some_iff.mp hold).1
        simpa [List.getElem?_set_self hlt] using hu.symm
      subst this
      exact F0.same W
    · rw [List.getElem?_set_ne (Ne.symm ne)] at hu
      exact (FS j q u hq hu).other W (Or.inr (slot_ne (LA _ (List.mem_of_getElem? hq)).1 (LA _ hmem).1 (nodup_ne ND hq hK ne) (LA _ (List.mem_of_getElem? hq)).2 (LA _ hmem).2))
  have S' : Sat Z a0 n0 T'.heap (H.set k (.inl (K, vs.set i v))) := by rw [e']; exact S.put W OB
  exact (h p l e s m args below meth c T' _ X' C S' (by simpa using E) (Fr.snoc X' F (Nat.le_add_right _ _))).back st'
theorem size_one {p : Program} {l : Launch} {e : Env} {s : State} {m : MethodId} {args : Array Value} {below : List Frame} {meth : Method} {c : Code} {T T' : State} {locs : List Loc} {h' : Heap} {sl' : Nat} (X' : Stand p l e R s m args below meth c T' locs (ce + 1) sl') (e' : T'.heap = h') (S : Sat Z a0 n0 T.heap H) (E : s.heap.size + ce = n0 + H.length) {cell : Cell} (hc : h'[T.heap.size]? = some cell) : h'.size = T.heap.size + 1 := by
  have h1 := X'.heapSize
  have h2 := (Array.getElem?_eq_some_iff.mp hc).1
  have h3 := S.2.2.1
  rw [e'] at h1
  omega
theorem go_new {idx n : Nat} (K : GLay) {vs : List Value} (hd : Ins M pc (.new idx) 3 pc') (w : (Jvm.Cond.classLink M.1.cls idx K.1).before a0 Z = true) (wi : (Jvm.Cond.instantiable K.1 n).before a0 Z = true) (wz : (Jvm.Cond.initialized K.1).before a0 Z = true) (hK : LayOk Z a0 K) (hvs : K.2.map (fun q => defaultValue q.2.2.2) = vs) {k : Nat} (hk : H.length = k) (hc : ce + 1 ≤ R.cells) (hs : sl + n ≤ R.slots)
    (h : Go Z a0 n0 M R Q pc' L (.ref (n0 + k) :: st) (H ++ [.inl (K, vs)]) (ce + 1) (sl + n)) : Go Z a0 n0 M R Q pc L st H ce sl := by
  obtain ⟨hd, rfl⟩ := hd
  subst hk
  intro p l e s m args below meth c T locs X C S E F
  obtain ⟨hx, hZ, hby, hml, hret, hlk, hown, hnm⟩ := id C
  obtain ⟨T', h', X', e', EX, A, D, ⟨cell, hcell, -⟩, st'⟩ := newO X hx hZ hown w wi wz rfl (g := mkF m pc L.toArray st) rfl (hb hby hd) hc hs
  have hsz := size_one X' e' S E hcell
  have OB : Ob Z a0 h' T.heap.size (.inl (K, vs)) := by
    refine ⟨hK, A, fun i q v hq hv => ?_⟩
    subst hvs
    rw [List.getElem?_map, hq] at hv
    cases hv
    obtain ⟨h1, h2⟩ := hK.2.1 q (List.mem_of_getElem? hq)
    exact D h1 h2
  have S' : Sat Z a0 n0 T'.heap (H ++ [.inl (K, vs)]) := by rw [e']; exact S.push EX hsz OB
  refine (h p l e s m args below meth c T' _ X' C S' (by simp; omega) F).back ?_
  rw [← S.2.2.1]; exact st'
theorem go_newarray {aty : ArrayType} {ty : FieldType} {n : Int32} {vs : List Value} (cap : Nat) (hd : Ins M pc (.newarray aty) 2 pc') (hty : newarray.typeOf aty = ty) (w : (Jvm.Cond.arrayClass ty).before a0 Z = true) (hn : ¬ n < 0) (hvs : List.replicate n.toNatClampNeg (defaultValue ty) = vs) (hcap : n.toNatClampNeg ≤ cap) (hbb : cap * 8 ≤ 536870912) {k : Nat} (hk : H.length = k) (hc : ce + 1 ≤ R.cells) (hs : sl + cap ≤ R.slots)
    (h : Go Z a0 n0 M R Q pc' L (.ref (n0 + k) :: st) (H ++ [.inr (ty, vs)]) (ce + 1) (sl + cap)) : Go Z a0 n0 M R Q pc L (.int n :: st) H ce sl := by
  obtain ⟨hd, rfl⟩ := hd
  subst hk hty hvs
  intro p l e s m args below meth c T locs X C S E F
  obtain ⟨hx, hZ, hby, hml, hret, hlk, hown, hnm⟩ := id C
  obtain ⟨T', h', cA, X', e', EX, A, EA, st'⟩ := newPE X hx hZ w rfl (g := mkF m pc L.toArray (.int n :: st)) rfl (hb hby hd) rfl hn hcap hbb hc hs rfl
  have hsz := size_one X' e' S E A.1
  have OB : Ob Z a0 h' T.heap.size (.inr (newarray.typeOf aty, List.replicate n.toNatClampNeg (defaultValue (newarray.typeOf aty)))) := by
    refine ⟨_, A, by simp [newA], fun v hv => ?_, EA, fun C hC => ?_⟩
    · obtain rfl := (List.mem_replicate.mp hv).2
      cases aty <;> rfl
    · cases aty <;> cases hC
  have S' := S.push EX hsz OB
  rw [← e'] at S'
  refine (h p l e s m args below meth c T' _ X' C S' (by simp; omega) F).back ?_
  rw [← S.2.2.1]; exact st'
theorem go_anewarray {idx : Nat} {Cn : String} {n : Int32} {vs : List Value} (cap : Nat) (hd : Ins M pc (.anewarray idx) 3 pc') (w1 : (Jvm.Cond.classLink M.1.cls idx Cn).before a0 Z = true) (w : (Jvm.Cond.arrayOver (.object Cn)).before a0 Z = true) (hn : ¬ n < 0) (hvs : List.replicate n.toNatClampNeg Value.null = vs) (hcap : n.toNatClampNeg ≤ cap) (hbb : cap * 8 ≤ 536870912) {k : Nat} (hk : H.length = k) (hc : ce + 1 ≤ R.cells) (hs : sl + cap ≤ R.slots)
    (h : Go Z a0 n0 M R Q pc' L (.ref (n0 + k) :: st) (H ++ [.inr (.object Cn, vs)]) (ce + 1) (sl + cap)) : Go Z a0 n0 M R Q pc L (.int n :: st) H ce sl := by
  obtain ⟨hd, rfl⟩ := hd
  subst hk hvs
  intro p l e s m args below meth c T locs X C S E F
  obtain ⟨hx, hZ, hby, hml, hret, hlk, hown, hnm⟩ := id C
  obtain ⟨T', h', cA, X', e', EX, A, EA, OV, st'⟩ := newRE X hx hZ hown w1 w rfl (g := mkF m pc L.toArray (.int n :: st)) rfl (hb hby hd) rfl hn hcap hbb hc hs rfl
  have hsz := size_one X' e' S E A.1
  have OB : Ob Z a0 h' T.heap.size (.inr (.object Cn, List.replicate n.toNatClampNeg Value.null)) := by
    refine ⟨_, A, by simp [newA, defaultValue], fun v hv => ?_, EA, fun C hC => ?_⟩
    · obtain rfl := (List.mem_replicate.mp hv).2
      rfl
    · cases hC; exact OV
  have S' := S.push EX hsz OB
  rw [← e'] at S'
  refine (h p l e s m args below meth c T' _ X' C S' (by simp; omega) F).back ?_
  rw [← S.2.2.1]; exact st'
theorem go_arraylength {k : Nat} {ty : FieldType} {vs : List Value} {n : Int32} (hd : Ins M pc .arraylength 1 pc') (hH : H[k]? = some (.inr (ty, vs))) (hn : vs.length.toInt32 = n) (h : Go Z a0 n0 M R Q pc' L (.int n :: st) H ce sl) : Go Z a0 n0 M R Q pc L (.ref (n0 + k) :: st) H ce sl := by
  obtain ⟨hd, rfl⟩ := hd
  intro p l e s m args below meth c T locs X C S E F
  obtain ⟨hx, hZ, hby, hml, hret, hlk, hown, hnm⟩ := id C
  obtain ⟨cl, A, hs, -⟩ := S.2.2.2 k _ hH
  have hlen : cl.slots.size.toInt32 = n := by rw [hs]; simpa using hn
  refine (h p l e s m args below meth c T _ X C S E F).back fun t k' => ?_
  exact X.arraylength hx A.1 (State.isArrayOf_alike hZ.alike A.2.1) (g := mkF m pc L.toArray (.ref (n0 + k) :: st)) rfl rfl (hb hby hd) t (by rw [hlen]; exact k')
theorem go_iaload {k i : Nat} {j x : Int32} {vs : List Value} (hd : Ins M pc .iaload 1 pc') (hH : H[k]? = some (.inr (.int, vs))) (hj : j.toInt = (i : Int)) (hv : vs[i]? = some (.int x)) (h : Go Z a0 n0 M R Q pc' L (.int x :: st) H ce sl) : Go Z a0 n0 M R Q pc L (.int j :: .ref (n0 + k) :: st) H ce sl := by
  obtain ⟨hd, rfl⟩ := hd
  intro p l e s m args below meth c T locs X C S E F
  obtain ⟨hx, hZ, hby, hml, hret, hlk, hown, hnm⟩ := id C
  obtain ⟨cl, A, hs, -⟩ := S.2.2.2 k _ hH
  obtain ⟨g1, g2⟩ := idx_in' hj hs hv
  refine (h p l e s m args below meth c T _ X C S E F).back fun t k' => ?_
  exact X.iaload hx A.1 (State.isArrayOf_alike hZ.alike A.2.1) A.2.2 g1 g2 (g := mkF m pc L.toArray (.int j :: .ref (n0 + k) :: st)) rfl rfl (hb hby hd) t k'
theorem go_laload {k i : Nat} {j : Int32} {x : Int64} {vs : List Value} (hd : Ins M pc .laload 1 pc') (hH : H[k]? = some (.inr (.long, vs))) (hj : j.toInt = (i : Int)) (hv : vs[i]? = some (.long x)) (h : Go Z a0 n0 M R Q pc' L (.long x :: st) H ce sl) : Go Z a0 n0 M R Q pc L (.int j :: .ref (n0 + k) :: st) H ce sl := by
  obtain ⟨hd, rfl⟩ := hd
  intro p l e s m args below meth c T locs X C S E F
  obtain ⟨hx, hZ, hby, hml, hret, hlk, hown, hnm⟩ := id C
  obtain ⟨cl, A, hs, -⟩ := S.2.2.2 k _ hH
  obtain ⟨g1, g2⟩ := idx_in' hj hs hv
  refine (h p l e s m args below meth c T _ X C S E F).back fun t k' => ?_
  exact X.laload hx A.1 (State.isArrayOf_alike hZ.alike A.2.1) A.2.2 g1 g2 (g := mkF m pc L.toArray (.int j :: .ref (n0 + k) :: st)) rfl rfl (hb hby hd) t k'
theorem go_baload {k i : Nat} {j x : Int32} {vs : List Value} (hd : Ins M pc .baload 1 pc') (hH : H[k]? = some (.inr (.byte, vs))) (hj : j.toInt = (i : Int)) (hv : vs[i]? = some (.int x)) (h : Go Z a0 n0 M R Q pc' L (.int x :: st) H ce sl) : Go Z a0 n0 M R Q pc L (.int j :: .ref (n0 + k) :: st) H ce sl := by
  obtain ⟨hd, rfl⟩ := hd
  intro p l e s m args below meth c T locs X C S E F
  obtain ⟨hx, hZ, hby, hml, hret, hlk, hown, hnm⟩ := id C
  obtain ⟨cl, A, hs, -⟩ := S.2.2.2 k _ hH
  obtain ⟨g1, g2⟩ := idx_in' hj hs hv
  refine (h p l e s m args below meth c T _ X C S E F).back fun t k' => ?_
  exact X.baloadBytes hx A.1 (State.isArrayOf_alike hZ.alike A.2.1) A.2.2 g1 g2 (g := mkF m pc L.toArray (.int j :: .ref (n0 + k) :: st)) rfl rfl (hb hby hd) t k'
theorem go_aaload {k i : Nat} {j : Int32} {x : Value} {ty : FieldType} {vs : List Value} (hd : Ins M pc .aaload 1 pc') (hH : H[k]? = some (.inr (ty, vs))) (hty : ty.isReference = true) (hj : j.toInt = (i : Int)) (hv : vs[i]? = some x) (h : Go Z a0 n0 M R Q pc' L (x :: st) H ce sl) : Go Z a0 n0 M R Q pc L (.int j :: .ref (n0 + k) :: st) H ce sl := by
  obtain ⟨hd, rfl⟩ := hd
  intro p l e s m args below meth c T locs X C S E F
  obtain ⟨hx, hZ, hby, hml, hret, hlk, hown, hnm⟩ := id C
  obtain ⟨cl, A, hs, -⟩ := S.2.2.2 k _ hH
  obtain ⟨g1, g2⟩ := idx_in' hj hs hv
  refine (h p l e s m args below meth c T _ X C S E F).back fun t k' => ?_
  exact X.aaload hx A.1 (State.isArrayOf_alike hZ.alike A.2.1) hty A.2.2 g1 g2 (g := mkF m pc L.toArray (.int j :: .ref (n0 + k) :: st)) rfl rfl (hb hby hd) t k'
theorem ob_set {h h' : Heap} {a : Addr} {c : Cell} {ty : FieldType} {vs : List Value} {v : Value} {i : Nat} (A : Arr Z h a c ty) (hs : c.slots = vs.toArray) (hf : ∀ v ∈ vs, fits ty v = true) (EA : Exa Z h a ("[" ++ ty.toString)) (OV : ∀ C, ty = .object C → Ovr Z c.cls C) (W : Wr h h' a i v) (hv : fits ty v = true) : Ob Z a0 h' a (.inr (ty, vs.set i v)) :=
  ⟨c.setSlot i v, A.same W, by simp [Cell.setSlot, hs], fun u hu => (List.mem_or_eq_of_mem_set hu).elim (hf u) (fun q => q ▸ hv), EA.wr W, OV⟩
theorem go_iastore {k i : Nat} {j x : Int32} {vs : List Value} (hd : Ins M pc .iastore 1 pc') (hH : H[k]? = some (.inr (.int, vs))) (hj : j.toInt = (i : Int)) (hi : (vs[i]?).isSome = true) (h : Go Z a0 n0 M R Q pc' L st (H.set k (.inr (.int, vs.set i (.int x)))) ce sl) : Go Z a0 n0 M R Q pc L (.int x :: .int j :: .ref (n0 + k) :: st) H ce sl := by
  obtain ⟨hd, rfl⟩ := hd
  intro p l e s m args below meth c T locs X C S E F
  obtain ⟨hx, hZ, hby, hml, hret, hlk, hown, hnm⟩ := id C
  obtain ⟨cl, A, hs, hf, EA, OV⟩ := S.2.2.2 k _ hH
  obtain ⟨old, hold⟩ := Option.isSome_iff_exists.mp hi
  obtain ⟨g1, -⟩ := idx_in' hj hs hold
  obtain ⟨T', h', X', e', W, st'⟩ := stI X hx hZ rfl A g1 (x := x) (g := mkF m pc L.toArray (.int x :: .int j :: .ref (n0 + k) :: st)) rfl rfl (hb hby hd)
  rw [(idx_of hj).2] at W
  have S' := S.put W (ob_set (a0 := a0) A hs hf EA OV W rfl)
  rw [← e'] at S'
  exact (h p l e s m args below meth c T' _ X' C S' (by simpa using E) (Fr.snoc X' F (Nat.le_add_right _ _))).back st'
theorem go_lastore {k i : Nat} {j : Int32} {x : Int64} {vs : List Value} (hd : Ins M pc .lastore 1 pc') (hH : H[k]? = some (.inr (.long, vs))) (hj : j.toInt = (i : Int)) (hi : (vs[i]?).isSome = true) (h : Go Z a0 n0 M R Q pc' L st (H.set k (.inr (.long, vs.set i (.long x)))) ce sl) : Go Z a0 n0 M R Q pc L (.long x :: .int j :: .ref (n0 + k) :: st) H ce sl := by
  obtain ⟨hd, rfl⟩ := hd
  intro p l e s m args below meth c T locs X C S E F
  obtain ⟨hx, hZ, hby, hml, hret, hlk, hown, hnm⟩ := id C
  obtain ⟨cl, A, hs, hf, EA, OV⟩ := S.2.2.2 k _ hH
  obtain ⟨old, hold⟩ := Option.isSome_iff_exists.mp hi
  obtain ⟨g1, -⟩ := idx_in' hj hs hold
  obtain ⟨T', h', X', e', W, st'⟩ := stJ X hx hZ rfl A g1 (x := x) (g := mkF m pc L.toArray (.long x :: .int j :: .ref (n0 + k) :: st)) rfl rfl (hb hby hd)
  rw [(idx_of hj).2] at W
  have S' := S.put W (ob_set (a0 := a0) A hs hf EA OV W rfl)
  rw [← e'] at S'
  exact (h p l e s m args below meth c T' _ X' C S' (by simpa using E) (Fr.snoc X' F (Nat.le_add_right _ _))).back st'
theorem go_bastore {k i : Nat} {j x : Int32} {vs : List Value} (hd : Ins M pc .bastore 1 pc') (hH : H[k]? = some (.inr (.byte, vs))) (hj : j.toInt = (i : Int)) (hi : (vs[i]?).isSome = true) (h : Go Z a0 n0 M R Q pc' L st (H.set k (.inr (.byte, vs.set i (.int x.toInt8.toInt32)))) ce sl) : Go Z a0 n0 M R Q pc L (.int x :: .int j :: .ref (n0 + k) :: st) H ce sl := by
  obtain ⟨hd, rfl⟩ := hd
  intro p l e s m args below meth c T locs X C S E F
  obtain ⟨hx, hZ, hby, hml, hret, hlk, hown, hnm⟩ := id C
  obtain ⟨cl, A, hs, hf, EA, OV⟩ := S.2.2.2 k _ hH
  obtain ⟨old, hold⟩ := Option.isSome_iff_exists.mp hi
  obtain ⟨g1, -⟩ := idx_in' hj hs hold
  obtain ⟨T', h', X', e', W, st'⟩ := stB X hx hZ rfl A g1 (x := x) (g := mkF m pc L.toArray (.int x :: .int j :: .ref (n0 + k) :: st)) rfl rfl (hb hby hd)
  rw [(idx_of hj).2] at W
  have S' := S.put W (ob_set (a0 := a0) A hs hf EA OV W (fits_nar_byte x))
  rw [← e'] at S'
  exact (h p l e s m args below meth c T' _ X' C S' (by simpa using E) (Fr.snoc X' F (Nat.le_add_right _ _))).back st'
theorem go_aastore {k k' i : Nat} {j : Int32} {Cn : String} {vs us : List Value} {K : GLay} (hd : Ins M pc .aastore 1 pc') (hH : H[k]? = some (.inr (.object Cn, vs))) (hH' : H[k']? = some (.inl (K, us))) (hC : K.1 = Cn) (hj : j.toInt = (i : Int)) (hi : (vs[i]?).isSome = true) (h : Go Z a0 n0 M R Q pc' L st (H.set k (.inr (.object Cn, vs.set i (.ref (n0 + k'))))) ce sl) : Go Z a0 n0 M R Q pc L (.ref (n0 + k') :: .int j :: .ref (n0 + k) :: st) H ce sl := by
  obtain ⟨hd, rfl⟩ := hd
  subst hC
  intro p l e s m args below meth c T locs X C S E F
  obtain ⟨hx, hZ, hby, hml, hret, hlk, hown, hnm⟩ := id C
  obtain ⟨cl, A, hs, hf, EA, OV⟩ := S.2.2.2 k _ hH
  obtain ⟨-, EX, -⟩ := S.2.2.2 k' _ hH'
  obtain ⟨old, hold⟩ := Option.isSome_iff_exists.mp hi
  obtain ⟨g1, -⟩ := idx_in' hj hs hold
  obtain ⟨T', h', X', e', W, st'⟩ := stR X hx hZ rfl A g1 rfl (Sto.of A (OV _ rfl) (Ins.self EX)) (g := mkF m pc L.toArray (.ref (n0 + k') :: .int j :: .ref (n0 + k) :: st)) rfl rfl (hb hby hd)
  rw [(idx_of hj).2] at W
  have S' := S.put W (ob_set (a0 := a0) A hs hf EA OV W rfl)
  rw [← e'] at S'
  exact (h p l e s m args below meth c T' _ X' C S' (by simpa using E) (Fr.snoc X' F (Nat.le_add_right _ _))).back st'
theorem go_ldc {idx : Nat} {v : Int32} (hd : Ins M pc (.ldc idx) 2 pc') (w : (Jvm.Cond.constant M.1.cls idx v).before a0 Z = true) (h : Go Z a0 n0 M R Q pc' L (.int v :: st) H ce sl) : Go Z a0 n0 M R Q pc L st H ce sl := by
  obtain ⟨hd, rfl⟩ := hd
  intro p l e s m args below meth c T locs X C S E F
  obtain ⟨hx, hZ, hby, hml, hret, hlk, hown, hnm⟩ := id C
  exact (h p l e s m args below meth c T _ X C S E F).back (X.ldcInt hx hown (mvT hZ w) (g := mkF m pc L.toArray st) rfl (hb hby hd))
theorem go_ldc2 {idx : Nat} {v : Int64} (hd : Ins M pc (.ldc2_w idx) 3 pc') (w : (Jvm.Cond.constantLong M.1.cls idx v).before a0 Z = true) (h : Go Z a0 n0 M R Q pc' L (.long v :: st) H ce sl) : Go Z a0 n0 M R Q pc L st H ce sl := by
  obtain ⟨hd, rfl⟩ := hd
  intro p l e s m args below meth c T locs X C S E F
  obtain ⟨hx, hZ, hby, hml, hret, hlk, hown, hnm⟩ := id C
  exact (h p l e s m args below meth c T _ X C S E F).back (X.ldc2Long hx hown (mvT hZ w) (g := mkF m pc L.toArray st) rfl (hb hby hd))
theorem go_getstatic {idx : Nat} {O n d : String} {v : Value} (hd : Ins M pc (.getstatic idx) 3 pc') (w : (Jvm.Cond.fieldLink M.1.cls idx O n d).before a0 Z = true) (hS : Sta Z Z.heap O n d v) (h : Go Z a0 n0 M R Q pc' L (v :: st) H ce sl) : Go Z a0 n0 M R Q pc L st H ce sl := by
  obtain ⟨hd, rfl⟩ := hd
  intro p l e s m args below meth c T locs X C S E F
  obtain ⟨hx, hZ, hby, hml, hret, hlk, hown, hnm⟩ := id C
  obtain ⟨T', X', e', st'⟩ := getS X hx hZ (host := "") hown w Via.refl rfl (hS.ext S.2.1) (g := mkF m pc L.toArray st) rfl (hb hby hd)
  exact (h p l e s m args below meth c T' _ X' C (by rw [e']; exact S) E F).back st'
theorem go_checkcastArr {idx k : Nat} {Kn : String} {ty : FieldType} {vs : List Value} (hd : Ins M pc (.checkcast idx) 3 pc') (w : (Jvm.Cond.classLink M.1.cls idx Kn).before a0 Z = true) (hH : H[k]? = some (.inr (ty, vs))) (hK : "[" ++ ty.toString = Kn) (h : Go Z a0 n0 M R Q pc' L (.ref (n0 + k) :: st) H ce sl) : Go Z a0 n0 M R Q pc L (.ref (n0 + k) :: st) H ce sl := by
  obtain ⟨hd, rfl⟩ := hd
  subst hK
  intro p l e s m args below meth c T locs X C S E F
  obtain ⟨hx, hZ, hby, hml, hret, hlk, hown, hnm⟩ := id C
  obtain ⟨cl, A, hs, hf, EA, OV⟩ := S.2.2.2 k _ hH
  obtain ⟨T', X', e', st'⟩ := castY X hx hZ hown w rfl (Ins.self EA) (g := mkF m pc L.toArray (.ref (n0 + k) :: st)) rfl rfl (hb hby hd)
  exact (h p l e s m args below meth c T' _ X' C (by rw [e']; exact S) E F).back st'
theorem go_initO {idx : Nat} {a : Addr} (hd : Ins M pc (.invokespecial idx) 3 pc') (w1 : (Jvm.Cond.methodLink M.1.cls idx Lib.objectInit).before a0 Z = true) (w2 : (Jvm.Cond.instanceMethod Lib.objectInit).before a0 Z = true) (w3 : (Jvm.Cond.code Lib.objectInit object_method_1_code 1 none).before a0 Z = true) (hL : L.length = M.2.2.1) (hf : 1 ≤ R.frames) (hl : (st.map fun v => v.category).sum + 12 ≤ R.locals)
    (h : Go Z a0 n0 M R Q pc' L st H ce sl) : Go Z a0 n0 M R Q pc L (.ref a :: st) H ce sl := by
  obtain ⟨hd, rfl⟩ := hd
  intro p l e s m args below meth c T locs X C S E F
  obtain ⟨hx, hZ, hby, hml, hret, hlk, hown, hnm⟩ := id C
  obtain ⟨T', X', e', st'⟩ := initO X hx hZ hown w1 w2 w3 rfl (g := mkF m pc L.toArray (.ref a :: st)) rfl (by simpa [hml] using hL) rfl (hb hby hd) hf (W := (st.map fun v => v.category).sum) (by simp) hl
  exact (h p l e s m args below meth c T' _ X' C (by rw [e']; exact S) E F).back st'
theorem fin_of {p : Program} {l : Launch} {e : Env} {s : State} {m : MethodId} {args : Array Value} {below : List Frame} {meth : Method} {c : Code} {T : State} {locs : List Loc} {v : Option Value} {S0 : State} (X : Stand p l e R s m args below meth c T locs ce sl) (hlk : meth.locks = false) (hv : meth.sig.returnType = none → v = none) (S : Sat Z a0 n0 T.heap H) (F : Fr n0 locs) (hc : ce ≤ R.cells) (hs : sl ≤ R.slots) (hQ : Q v H)
    (st : ∀ fs, (∀ (f : JFrame) (acts : List Action), f.method = m → f.locked = none → f.entered = [] → (doReturn e (T.setTop f) acts v).1 = T.setFrames fs) → Steps p.tables e below S0 (T.setFrames fs)) : End Z a0 n0 R Q p e s below S0 := by
  obtain ⟨fs, hr, hrun, hended, hW, hsame⟩ := X.leave (v := v) hv hlk
  exact ⟨_, _, st fs hr, hrun, hended, v, locs, rfl, ⟨H, hQ, S, F⟩, ⟨v, rfl⟩, hW, hsame.mono hc hs⟩
theorem go_ireturn {x : Int32} {t : FieldType} (hd : Ins M pc .ireturn 1 pc') (hr : M.2.2.2 = some t) (hn : narrow t (.int x) = .int x) (ht : t = .int ∨ t = .boolean ∨ t = .byte ∨ t = .char ∨ t = .short) (hc : ce ≤ R.cells) (hs : sl ≤ R.slots) (hQ : Q (some (.int x)) H) : Go Z a0 n0 M R Q pc L (.int x :: st) H ce sl := by
  obtain ⟨hd, rfl⟩ := hd
  intro p l e s m args below meth c T locs X C S E F
  obtain ⟨hx, hZ, hby, hml, hret, hlk, hown, hnm⟩ := id C
  exact fin_of X hlk (fun q => by rw [hret, hr] at q; cases q) S F hc hs hQ fun fs hl => retOut X hx (hret.trans hr) hn (Or.inl ⟨rfl, ht, x, rfl⟩) (hb hby hd) hl
theorem go_lreturn {x : Int64} (hd : Ins M pc .lreturn 1 pc') (hr : M.2.2.2 = some .long) (hc : ce ≤ R.cells) (hs : sl ≤ R.slots) (hQ : Q (some (.long x)) H) : Go Z a0 n0 M R Q pc L (.long x :: st) H ce sl := by
  obtain ⟨hd, rfl⟩ := hd
  intro p l e s m args below meth c T locs X C S E F
  obtain ⟨hx, hZ, hby, hml, hret, hlk, hown, hnm⟩ := id C
  exact fin_of X hlk (fun q => by rw [hret, hr] at q; cases q) S F hc hs hQ fun fs hl => retOut X hx (hret.trans hr) rfl (Or.inr (Or.inl ⟨rfl, rfl, x, rfl⟩)) (hb hby hd) hl
theorem go_areturn {w : Value} {t : FieldType} (hd : Ins M pc .areturn 1 pc') (hr : M.2.2.2 = some t) (ht : t.isReference = true) (hw : w.isRef = true) (hn : narrow t w = w) (hc : ce ≤ R.cells) (hs : sl ≤ R.slots) (hQ : Q (some w) H) : Go Z a0 n0 M R Q pc L (w :: st) H ce sl := by
  obtain ⟨hd, rfl⟩ := hd
  intro p l e s m args below meth c T locs X C S E F
  obtain ⟨hx, hZ, hby, hml, hret, hlk, hown, hnm⟩ := id C
  exact fin_of X hlk (fun q => by rw [hret, hr] at q; cases q) S F hc hs hQ fun fs hl => retOut X hx (hret.trans hr) hn (Or.inr (Or.inr (Or.inr (Or.inr ⟨rfl, ht, hw⟩)))) (hb hby hd) hl
theorem go_return (hd : Ins M pc .return_ 1 pc') (hr : M.2.2.2 = none) (hc : ce ≤ R.cells) (hs : sl ≤ R.slots) (hQ : Q none H) : Go Z a0 n0 M R Q pc L [] H ce sl := by
  obtain ⟨hd, rfl⟩ := hd
  intro p l e s m args below meth c T locs X C S E F
  obtain ⟨hx, hZ, hby, hml, hret, hlk, hown, hnm⟩ := id C
  exact fin_of X hlk (fun q => rfl) S F hc hs hQ fun fs hl => X.returnOut hx (hret.trans hr) (hb hby hd) hl
end Heap
section More
variable {Z : State} {a0 : Array Value} {n0 : Nat} {M : GM} {R : Room} {Q : Option Value → List GObj → Prop} {pc pc' : Nat} {L : List Slot} {st : List Value} {H : List GObj} {ce sl : Nat}
theorem go_clone {idx k : Nat} {ad : String} {ty : FieldType} {vs : List Value} (cap : Nat) (hd : Ins M pc (.invokevirtual idx) 3 pc') (w1 : (Jvm.Cond.methodLink M.1.cls idx ⟨ad, "clone", "()Ljava/lang/Object;"⟩).before a0 Z = true) (w2 : (Jvm.Cond.sameMethod ad "java/lang/Object" "clone" "()Ljava/lang/Object;").before a0 Z = true) (w3 : (Jvm.Cond.native ⟨"java/lang/Object", "clone", "()Ljava/lang/Object;"⟩).before a0 Z = true)
    (w4 : (Jvm.Cond.instanceMethod ⟨"java/lang/Object", "clone", "()Ljava/lang/Object;"⟩).before a0 Z = true) (w5 : (Jvm.Cond.selects ad ⟨ad, "clone", "()Ljava/lang/Object;"⟩ ⟨"java/lang/Object", "clone", "()Ljava/lang/Object;"⟩).before a0 Z = true) (w6 : (Jvm.Cond.castable ad "java/lang/Cloneable").before a0 Z = true)
    (hH : H[k]? = some (.inr (ty, vs))) (had : "[" ++ ty.toString = ad) (hL : L.length = M.2.2.1) (hf : 1 ≤ R.frames) (hl : (st.map fun v => v.category).sum + 14 ≤ R.locals) (hcap : vs.length ≤ cap) {k' : Nat} (hk : H.length = k') (hc : ce + 1 ≤ R.cells) (hs : sl + cap ≤ R.slots)
    (h : Go Z a0 n0 M R Q pc' L (.ref (n0 + k') :: st) (H ++ [.inr (ty, vs)]) (ce + 1) (sl + cap)) : Go Z a0 n0 M R Q pc L (.ref (n0 + k) :: st) H ce sl := by
  obtain ⟨hd, rfl⟩ := hd
  subst hk had
  intro p l e s m args below meth c T locs X C S E F
  obtain ⟨hx, hZ, hby, hml, hret, hlk, hown, hnm⟩ := id C
  obtain ⟨cl, A, hsl, hfit, EA, OV⟩ := S.2.2.2 k _ hH
  have FC : FitC Z cl := fitC_of A fun i hi v hv => by
    rw [hsl] at hv
    exact hfit v (List.mem_of_getElem? (by simpa using hv))
  obtain ⟨T', h', X', e', EX, A', EA', st'⟩ := cloneA X hx hZ hown w1 w2 w3 w4 w5 w6 rfl A EA FC (g := mkF m pc L.toArray (.ref (n0 + k) :: st)) rfl (by simpa [hml] using hL) rfl (hb hby hd) hf (W := (st.map fun v => v.category).sum) (by simp) hl (cap := cap) (by rw [hsl]; simpa using hcap) hc hs
  have hsz := size_one X' e' S E A'.1
  have S' := S.push EX hsz (show Ob Z a0 h' T.heap.size (.inr (ty, vs)) from ⟨_, A', hsl, hfit, EA', OV⟩)
  rw [← e'] at S'
  refine (h p l e s m args below meth c T' _ X' C S' (by simp; omega) F).back ?_
  rw [← S.2.2.1]; exact st'
theorem go_dconst1 (hd : Ins M pc (.dconst 1) 1 pc') (h : Go Z a0 n0 M R Q pc' L (.double FP.dconst1 :: st) H ce sl) : Go Z a0 n0 M R Q pc L st H ce sl := by
  obtain ⟨hd, rfl⟩ := hd
  refine go_pure (fun p e m below c T t hA hx hy k => ?_) h
  have hd' := hb hy hd
  jvm_step hA [hA.top, hx, hd', dconst.wp_sem]
  exact k
theorem go_dloadN {k : Fin 4} {v : UInt64} (hd : Ins M pc (.dload_n k) 1 pc') (hl : L[k.val]? = some (.val (.double v))) (h : Go Z a0 n0 M R Q pc' L (.double v :: st) H ce sl) : Go Z a0 n0 M R Q pc L st H ce sl := by
  obtain ⟨hd, rfl⟩ := hd
  refine go_pure (fun p e m below c T t hA hx hy k' => ?_) h
  have hd' := hb hy hd
  have hl' : L.toArray[k.val]? = some (.val (.double v)) := by simpa using hl
  jvm_step hA [hA.top, hx, hd', hl']
  exact k'
end More
section Calls
variable {Z : State} {a0 : Array Value} {n0 : Nat} {M : GM} {R : Room} {Q : Option Value → List GObj → Prop} {pc pc' : Nat} {L : List Slot} {st : List Value} {H : List GObj} {ce sl : Nat}
/-- the contract of a body: from these arguments and these objects it comes back, and what it leaves meets Q -/
def MetW (Z : State) (a0 : Array Value) (n0 : Nat) (M : GM) (ws : List Jvm.Cond) (R : Room) (as : List Value) (H : List GObj) (Q : Option Value → List GObj → Prop) : Prop :=
  ∀ (l : Launch) (h : Heap), Sat Z a0 n0 h H → MetFree l M.1 (head1 (Jvm.Cond.code M.1 M.2.1 M.2.2.1 M.2.2.2 :: ws) R) (fun a U => a = as.toArray ∧ Z.Warmed39 U.vm ∧ U.heap = h) (fun _ _ _ _ _ => True)
    (fun _ U o U' => ∃ v L, o = .returned v ∧ (∃ H', Q v H' ∧ Sat Z a0 n0 U'.heap H' ∧ Fr n0 L) ∧ FrameEnd U o U' L R.cells R.slots)
def locsF (as : List Value) : List Slot := as.flatMap fun v => if v.category = 2 then [.val v, .second] else [.val v]
def locsOf (as : List Value) (n : Nat) : List Slot := locsF as ++ List.replicate (n - (locsF as).length) .unset
theorem args_eq (as : List Value) (n : Nat) : argsToLocals as.toArray n = (locsOf as n).toArray := by
  have h : ∀ (as : List Value) (acc : Array Slot), as.foldl (fun acc v => if v.category = 2 then (acc.push (.val v)).push .second else acc.push (.val v)) acc = acc ++ (locsF as).toArray := by
    intro as
    induction as with
    | nil => intro acc; simp [locsF]
    | cons v t ih =>
      intro acc
      rw [List.foldl_cons, ih]
      by_cases c : v.category = 2 <;> simp [locsF, c]
  have h' := h as #[]
  unfold argsToLocals
  simp only [List.foldl_toArray', List.size_toArray]
  rw [h']
  simp [locsOf]
theorem MetW.intro {ws : List Jvm.Cond} {as : List Value} (L : List Slot) (hp : plainFor M.1 = true) (he : locsOf as M.2.2.1 = L) (h : Go Z a0 n0 M R Q 0 L [] H 0 0) : MetW Z a0 n0 M ws R as H Q := by
  intro l h0 S
  refine MetFree.of_bodySF hp hisR ?_
  intro p e s m args below meth c s₁ Bd hml0 hP hK
  obtain ⟨rfl, hZ, hh⟩ := hP
  have X0 : Stand p l e R s m as.toArray below meth c s₁ [] 0 0 := Stand.of_body Bd
  have e0 : s₁.heap = h0 := by rw [← hh, Bd.state]; rfl
  have hown := findClass_of_methodNamed Bd.named
  have hnm := (name_of_methodNamed Bd.named Bd.method).1
  obtain ⟨s₂, o, h1, h2, h3, v, L', h4, h5, h6⟩ := h p l e s m _ below meth c s₁ [] X0 ⟨Bd.exec, hZ, Bd.bytes, hml0, Bd.returns, Bd.notSynchronized, hown, hnm⟩ (by rw [e0]; exact S) (by rw [hh]; exact S.2.2.1) (Fr.nil _)
  have ef : entryFrame m as.toArray M.2.2.1 = mkF m 0 L.toArray [] := by simp only [entryFrame, mkF, args_eq, he]
  exact ⟨s₂, o, castTop ef h1, h2, h3, v, L', h4, h5, h6⟩
abbrev Met (Z : State) (a0 : Array Value) (n0 : Nat) (y : GM) (fr lo k j : Nat) (as : List Value) (H : List GObj) (Q : Option Value → List GObj → Prop) : Prop := MetW Z a0 n0 y [] ({ frames := fr, cells := k, slots := j, locals := lo } : Room) as H Q
theorem Met.mono {y : GM} {fr lo k j : Nat} {as : List Value} {Q Q' : Option Value → List GObj → Prop} (h : Met Z a0 n0 y fr lo k j as H Q) (hq : ∀ v H', Q v H' → Q' v H') : Met Z a0 n0 y fr lo k j as H Q' := by
  intro l h0 S
  exact (h l h0 S).mono (fun _ _ q => q) (fun _ _ _ _ _ q => q) fun _ _ _ _ _ ⟨v, L, h1, ⟨H', h2, h3⟩, h4⟩ => ⟨v, L, h1, ⟨H', hq v H' h2, h3⟩, h4⟩
def pushV : Option Value → List Value → List Value
  | none, r => r
  | some v, r => v :: r
theorem pushV_eq (v : Option Value) (r : List Value) : pushV v r = v.toList ++ r := by cases v <;> rfl
abbrev Eq1 (r : Value) (H1 : List GObj) : Option Value → List GObj → Prop := fun v H' => v = some r ∧ H' = H1
abbrev Eq0 (H1 : List GObj) : Option Value → List GObj → Prop := fun v H' => v = none ∧ H' = H1
theorem retE {r : Value} {H1 : List GObj} {rest : List Value} {k j : Nat} (h1 : H1.length = H.length + k) (h : Go Z a0 n0 M R Q pc' L (r :: rest) H1 (ce + k) (sl + j)) : ∀ v H', Eq1 r H1 v H' → H'.length = H.length + k ∧ Go Z a0 n0 M R Q pc' L (pushV v rest) H' (ce + k) (sl + j) := by
  rintro _ _ ⟨rfl, rfl⟩; exact ⟨h1, h⟩
theorem retV {H1 : List GObj} {rest : List Value} {k j : Nat} (h1 : H1.length = H.length + k) (h : Go Z a0 n0 M R Q pc' L rest H1 (ce + k) (sl + j)) : ∀ v H', Eq0 H1 v H' → H'.length = H.length + k ∧ Go Z a0 n0 M R Q pc' L (pushV v rest) H' (ce + k) (sl + j) := by
  rintro _ _ ⟨rfl, rfl⟩; exact ⟨h1, h⟩
def noHandle (c : String) : Bool := decide (c ≠ "java/lang/invoke/MethodHandle" ∧ c ≠ "java/lang/invoke/VarHandle")
theorem go_static {y : GM} {fr lo k j idx : Nat} {as rest stk : List Value} {ps : List FieldType} {r : Option FieldType} {Q' : Option Value → List GObj → Prop} (hd : Ins M pc (.invokestatic idx) 3 pc') (hm : Met Z a0 n0 y fr lo k j as H Q')
    (w1 : (Jvm.Cond.methodLink M.1.cls idx y.1).before a0 Z = true) (w2 : (Jvm.Cond.static y.1).before a0 Z = true) (w3 : (Jvm.Cond.initialized y.1.cls).before a0 Z = true) (w4 : (Jvm.Cond.code y.1 y.2.1 y.2.2.1 y.2.2.2).before a0 Z = true) (hy : noHandle y.1.cls = true) (hpd : parseMethodDescriptor y.1.desc = some ⟨ps, r⟩) (hlen : as.length = ps.length) (hst : stk = as.reverse ++ rest) (hL : L.length = M.2.2.1)
    (hfr : fr + 1 ≤ R.frames) (hlo : (rest.map fun v => v.category).sum + (y.2.2.1 + 11) + lo ≤ R.locals) (hk : ce + k ≤ R.cells) (hj : sl + j ≤ R.slots)
    (h : ∀ v H', Q' v H' → H'.length = H.length + k ∧ Go Z a0 n0 M R Q pc' L (pushV v rest) H' (ce + k) (sl + j)) : Go Z a0 n0 M R Q pc L stk H ce sl := by
  obtain ⟨hd, rfl⟩ := hd
  subst hst
  intro p l e s m args below meth c T locs X C S E F
  obtain ⟨hx, hZ, hby, hml, hret, hlk, hown, hnm⟩ := id C
  obtain ⟨v, vm1, ⟨T', L', k', n'⟩, -, X', ⟨Lc, hQ', l', y', z'⟩, st'⟩ := Jvm.LawKit.callS X hx (y := y.1) hown (mvT hZ w1) (mvT hZ w2) (mvT hZ w3) (mvT hZ w4) (of_decide_eq_true hy)
    (backOf (W := (rest.map fun v => v.category).sum) (Q := fun v h' L => ∃ H', Q' v H' ∧ Sat Z a0 n0 h' H' ∧ Fr n0 L) (hm l T.heap S) hZ w4 w3 hfr hlo) (g := mkF m pc L.toArray (as.reverse ++ rest)) rfl (by simpa [hml] using hL) (argsL := as) (rest := rest) (lenOf hpd hlen) rfl (by simp) (hb hby hd) (fun _ _ => ⟨rfl, rfl, hk, hj⟩)
  dsimp only [Pt.U, Pt.locs, Pt.cells, Pt.slots] at X' l' y' z' st' hQ'
  subst l' y' z'
  obtain ⟨H', q, S', N⟩ := hQ'
  obtain ⟨hlen', g⟩ := h v H' q
  rw [pushV_eq] at g
  exact (g p l e s m args below meth c T' _ X' C S' (by omega) (Fr.app F N)).back st'
theorem go_special {y : GM} {fr lo k j idx : Nat} {a : Addr} {as rest stk : List Value} {ps : List FieldType} {r : Option FieldType} {Q' : Option Value → List GObj → Prop} (hd : Ins M pc (.invokespecial idx) 3 pc') (hm : Met Z a0 n0 y fr lo k j (.ref a :: as) H Q')
    (w1 : (Jvm.Cond.methodLink M.1.cls idx y.1).before a0 Z = true) (w2 : (Jvm.Cond.instanceMethod y.1).before a0 Z = true) (w3 : (Jvm.Cond.initialized y.1.cls).before a0 Z = true) (w4 : (Jvm.Cond.code y.1 y.2.1 y.2.2.1 none).before a0 Z = true) (hy1 : y.1.name = "<init>") (hr : y.2.2.2 = none) (hy : noHandle y.1.cls = true) (hpd : parseMethodDescriptor y.1.desc = some ⟨ps, r⟩) (hlen : as.length = ps.length) (hst : stk = as.reverse ++ .ref a :: rest) (hL : L.length = M.2.2.1)
    (hfr : fr + 1 ≤ R.frames) (hlo : (rest.map fun v => v.category).sum + (y.2.2.1 + 11) + lo ≤ R.locals) (hk : ce + k ≤ R.cells) (hj : sl + j ≤ R.slots)
    (h : ∀ v H', Q' v H' → H'.length = H.length + k ∧ Go Z a0 n0 M R Q pc' L (pushV v rest) H' (ce + k) (sl + j)) : Go Z a0 n0 M R Q pc L stk H ce sl := by
  obtain ⟨hd, rfl⟩ := hd
  subst hst
  intro p l e s m args below meth c T locs X C S E F
  obtain ⟨hx, hZ, hby, hml, hret, hlk, hown, hnm⟩ := id C
  have w4' : (Jvm.Cond.code y.1 y.2.1 y.2.2.1 y.2.2.2).before a0 Z = true := by rw [hr]; exact w4
  obtain ⟨v, vm1, ⟨T', L', k', n'⟩, -, X', ⟨Lc, hQ', l', y', z'⟩, st'⟩ := X.specialBack hx (y := y.1) hy1 hown (mvT hZ w1) (mvT hZ w2) (mvT hZ w4) (of_decide_eq_true hy)
    (backOf (W := (rest.map fun v => v.category).sum) (Q := fun v h' L => ∃ H', Q' v H' ∧ Sat Z a0 n0 h' H' ∧ Fr n0 L) (hm l T.heap S) hZ w4' w3 hfr hlo) (g := mkF m pc L.toArray (as.reverse ++ .ref a :: rest)) rfl (by simpa [hml] using hL) (Steps.refl _) (a := a) (argsL := as) (rest := rest) (lenOf hpd hlen) rfl (by simp) (hb hby hd) (fun _ _ => ⟨rfl, rfl, hk, hj⟩)
  dsimp only [Pt.U, Pt.locs, Pt.cells, Pt.slots] at X' l' y' z' st' hQ'
  subst l' y' z'
  obtain ⟨H', q, S', N⟩ := hQ'
  obtain ⟨hlen', g⟩ := h v H' q
  rw [pushV_eq] at g
  exact (g p l e s m args below meth c T' _ X' C S' (by omega) (Fr.app F N)).back fun t k => st'.trans k
theorem go_virtual {y : GM} {fr lo k j idx i : Nat} {K : GLay} {vs as rest stk : List Value} {ps : List FieldType} {r : Option FieldType} {Q' : Option Value → List GObj → Prop} (hd : Ins M pc (.invokevirtual idx) 3 pc') (hm : Met Z a0 n0 y fr lo k j (.ref (n0 + i) :: as) H Q') (hH : H[i]? = some (.inl (K, vs)))
    (w1 : (Jvm.Cond.methodLink M.1.cls idx y.1).before a0 Z = true) (w2 : (Jvm.Cond.declares y.1).before a0 Z = true) (w5 : (Jvm.Cond.selects K.1 y.1 y.1).before a0 Z = true) (w6 : (Jvm.Cond.instanceMethod y.1).before a0 Z = true) (w3 : (Jvm.Cond.initialized y.1.cls).before a0 Z = true) (w4 : (Jvm.Cond.code y.1 y.2.1 y.2.2.1 y.2.2.2).before a0 Z = true) (hy : noHandle y.1.cls = true) (hpd : parseMethodDescriptor y.1.desc = some ⟨ps, r⟩) (hlen : as.length = ps.length) (hst : stk = as.reverse ++ .ref (n0 + i) :: rest) (hL : L.length = M.2.2.1)
    (hfr : fr + 1 ≤ R.frames) (hlo : (rest.map fun v => v.category).sum + (y.2.2.1 + 11) + lo ≤ R.locals) (hk : ce + k ≤ R.cells) (hj : sl + j ≤ R.slots)
    (h : ∀ v H', Q' v H' → H'.length = H.length + k ∧ Go Z a0 n0 M R Q pc' L (pushV v rest) H' (ce + k) (sl + j)) : Go Z a0 n0 M R Q pc L stk H ce sl := by
  obtain ⟨hd, rfl⟩ := hd
  subst hst
  intro p l e s m args below meth c T locs X C S E F
  obtain ⟨hx, hZ, hby, hml, hret, hlk, hown, hnm⟩ := id C
  obtain ⟨cq, kq, q1, q2, q3⟩ := isOf (T := T) hZ rfl (S.2.2.2 i _ hH).2.1
  obtain ⟨v, vm1, ⟨T', L', k', n'⟩, -, X', ⟨Lc, hQ', l', y', z'⟩, st'⟩ := X.virtualBack hx (y := y.1) (z := y.1) hown (mvT hZ w1) (mvT hZ w2) (notFace_of_selects (args := #[]) (mvT hZ w5)) (mvT hZ w5) (mvT hZ w6) (of_decide_eq_true hy)
    (backOf (W := (rest.map fun v => v.category).sum) (Q := fun v h' L => ∃ H', Q' v H' ∧ Sat Z a0 n0 h' H' ∧ Fr n0 L) (hm l T.heap S) hZ w4 w3 hfr hlo) q1 q3 (g := mkF m pc L.toArray (as.reverse ++ .ref (n0 + i) :: rest)) rfl (by simpa [hml] using hL) (Steps.refl _) (argsL := as) (rest := rest) (lenOf hpd hlen) rfl (by simp) (hb hby hd) (fun _ _ => ⟨rfl, rfl, hk, hj⟩)
  dsimp only [Pt.U, Pt.locs, Pt.cells, Pt.slots] at X' l' y' z' st' hQ'
  subst l' y' z'
  obtain ⟨H', q, S', N⟩ := hQ'
  obtain ⟨hlen', g⟩ := h v H' q
  rw [pushV_eq] at g
  exact (g p l e s m args below meth c T' _ X' C S' (by omega) (Fr.app F N)).back fun t k => st'.trans k
/-- a private method by invokevirtual: its class is an ordinary one ('instantiable'), so no 'selects' word is wanted -/
theorem go_private {y : GM} {fr lo k j idx i nn : Nat} {o : GObj} {as rest stk : List Value} {ps : List FieldType} {r : Option FieldType} {Q' : Option Value → List GObj → Prop} (hd : Ins M pc (.invokevirtual idx) 3 pc') (hm : Met Z a0 n0 y fr lo k j (.ref (n0 + i) :: as) H Q') (hH : H[i]? = some o)
    (w1 : (Jvm.Cond.methodLink M.1.cls idx y.1).before a0 Z = true) (w5 : (Jvm.Cond.instantiable y.1.cls nn).before a0 Z = true) (w6 : (Jvm.Cond.instanceMethod y.1).before a0 Z = true) (w7 : (Jvm.Cond.privateMethod y.1).before a0 Z = true) (w3 : (Jvm.Cond.initialized y.1.cls).before a0 Z = true) (w4 : (Jvm.Cond.code y.1 y.2.1 y.2.2.1 y.2.2.2).before a0 Z = true) (hy : noHandle y.1.cls = true) (hpd : parseMethodDescriptor y.1.desc = some ⟨ps, r⟩) (hlen : as.length = ps.length) (hst : stk = as.reverse ++ .ref (n0 + i) :: rest) (hL : L.length = M.2.2.1)
    (hfr : fr + 1 ≤ R.frames) (hlo : (rest.map fun v => v.category).sum + (y.2.2.1 + 11) + lo ≤ R.locals) (hk : ce + k ≤ R.cells) (hj : sl + j ≤ R.slots)
    (h : ∀ v H', Q' v H' → H'.length = H.length + k ∧ Go Z a0 n0 M R Q pc' L (pushV v rest) H' (ce + k) (sl + j)) : Go Z a0 n0 M R Q pc L stk H ce sl := by
  obtain ⟨hd, rfl⟩ := hd
  subst hst
  intro p l e s m args below meth c T locs X C S E F
  obtain ⟨hx, hZ, hby, hml, hret, hlk, hown, hnm⟩ := id C
  obtain ⟨cell, hcell, hobj⟩ : ∃ cl : Cell, T.heap[n0 + i]? = some cl ∧ ∀ q, cl.vm ≠ .statics q := by
    have := S.2.2.2 i _ hH
    rcases o with ⟨K, vs⟩ | ⟨ty, vs⟩
    · exact this.2.1.cell
    · obtain ⟨c', A, -, -, EA, -⟩ := this; exact EA.cell
  obtain ⟨mk, methM, hnamed, hmethM, hstM, habM⟩ := Jvm.Cond.instanceMethod_spec (mvT (args := args) hZ w6)
  obtain ⟨methM', cM, hmethM', -, -, -, -, -, -, hsigM⟩ := Jvm.Cond.code_spec hnamed (mvT (args := args) hZ w4)
  cases hmethM.symm.trans hmethM'
  obtain ⟨c5, k5, i1, i2, i3, i4, -⟩ := Jvm.Cond.instantiable_spec (mvT (args := args) hZ w5)
  have hcl := findClass_of_methodNamed hnamed
  cases i1.symm.trans hcl
  have hni : k5.isInterface = false := by simp only [Bool.or_eq_false_iff] at i4; exact i4.1
  have hselP : selectMethod e.platform s.vm cell.cls mk = .method mk := selectMethod_private hmethM (Jvm.Cond.privateMethod_at (mvP hZ w7 (args := #[])) mk methM hnamed hmethM)
  have hK := backOf (p := p) (e := e) (below := below) (args := args) (len := 3) (W := (rest.map fun v => v.category).sum) (Q := fun v h' L => ∃ H', Q' v H' ∧ Sat Z a0 n0 h' H' ∧ Fr n0 L) (hm l T.heap S) hZ w4 w3 hfr hlo
  obtain ⟨vm₁, X₁, hstep₁⟩ := X.invokevirtual hx hown (mvT hZ w1) hnamed hmethM hstM i2 hni (of_decide_eq_true hy) (a := n0 + i) (cell := cell) hcell hobj hselP hmethM habM i2 hni (g := mkF m pc L.toArray (as.reverse ++ .ref (n0 + i) :: rest)) rfl (argsL := as) (rest := rest) (lenOf hpd hlen _ hsigM) rfl (hb hby hd)
  obtain ⟨v, ⟨T', L', k', n'⟩, X', ⟨Lc, hQ', l', y', z'⟩, st'⟩ := hK m meth c ⟨T.setVm vm₁, locs, ce, sl⟩ (mkF m pc L.toArray rest) (.invokevirtual idx) mk (.ref (n0 + i) :: as).toArray X₁ rfl (by simpa [hml] using hL) (hb hby hd) (by simp) (X₁.named hnamed) ⟨rfl, rfl, hk, hj⟩
  dsimp only [Pt.U, Pt.locs, Pt.cells, Pt.slots] at X' l' y' z' st' hQ'
  subst l' y' z'
  obtain ⟨H', q, S', N⟩ := hQ'
  obtain ⟨hlen', g⟩ := h v H' q
  rw [pushV_eq] at g
  refine (g p l e s m args below meth c T' _ X' C S' (by omega) (Fr.app F N)).back fun t k => ?_
  exact hstep₁ _ fun acts => by rw [doInvoke_state]; exact st'.trans k
end Calls
def M0 : GM := (x, code, maxLocals, ret)
theorem i0_0 : Ins M0 0 (.iload_n 0) 1 1 := ⟨at_0, rfl⟩
theorem i0_1 : Ins M0 1 (.ldc 19) 2 3 := ⟨at_1, rfl⟩
theorem i0_3 : Ins M0 3 (.iand) 1 4 := ⟨at_3, rfl⟩
theorem i0_4 : Ins M0 4 (.istore 4) 2 6 := ⟨at_4, rfl⟩
theorem i0_6 : Ins M0 6 (.iload_n 1) 1 7 := ⟨at_6, rfl⟩
theorem i0_7 : Ins M0 7 (.ldc 19) 2 9 := ⟨at_7, rfl⟩
theorem i0_9 : Ins M0 9 (.iand) 1 10 := ⟨at_9, rfl⟩
theorem i0_10 : Ins M0 10 (.istore 5) 2 12 := ⟨at_10, rfl⟩
theorem i0_12 : Ins M0 12 (.iload 4) 2 14 := ⟨at_12, rfl⟩
theorem i0_14 : Ins M0 14 (.iload 5) 2 16 := ⟨at_14, rfl⟩
theorem i0_16 : Ins M0 16 (.invokestatic 20) 3 19 := ⟨at_16, rfl⟩
theorem i0_19 : Ins M0 19 (.istore 6) 2 21 := ⟨at_19, rfl⟩
theorem i0_21 : Ins M0 21 (.iload 4) 2 23 := ⟨at_21, rfl⟩
theorem i0_23 : Ins M0 23 (.iload 5) 2 25 := ⟨at_23, rfl⟩
theorem i0_25 : Ins M0 25 (.invokestatic 13) 3 28 := ⟨at_25, rfl⟩
theorem i0_28 : Ins M0 28 (.istore 7) 2 30 := ⟨at_28, rfl⟩
theorem i0_30 : Ins M0 30 (.iload_n 3) 1 31 := ⟨at_30, rfl⟩
theorem i0_31 : Ins M0 31 (.ldc 19) 2 33 := ⟨at_31, rfl⟩
theorem i0_33 : Ins M0 33 (.iand) 1 34 := ⟨at_33, rfl⟩
theorem i0_34 : Ins M0 34 (.iconst 4) 1 35 := ⟨at_34, rfl⟩
theorem i0_35 : Ins M0 35 (.irem) 1 36 := ⟨at_35, rfl⟩
theorem i0_36 : Ins M0 36 (.istore 8) 2 38 := ⟨at_36, rfl⟩
theorem i0_38 : Ins M0 38 (.bipush 12) 2 40 := ⟨at_38, rfl⟩
theorem i0_40 : Ins M0 40 (.newarray .int) 2 42 := ⟨at_40, rfl⟩
theorem i0_42 : Ins M0 42 (.astore 9) 2 44 := ⟨at_42, rfl⟩
theorem i0_44 : Ins M0 44 (.iconst 4) 1 45 := ⟨at_44, rfl⟩
theorem i0_45 : Ins M0 45 (.newarray .int) 2 47 := ⟨at_45, rfl⟩
theorem i0_47 : Ins M0 47 (.astore 10) 2 49 := ⟨at_47, rfl⟩
theorem i0_49 : Ins M0 49 (.aload 9) 2 51 := ⟨at_49, rfl⟩
theorem i0_51 : Ins M0 51 (.iconst 0) 1 52 := ⟨at_51, rfl⟩
theorem i0_52 : Ins M0 52 (.iload_n 2) 1 53 := ⟨at_52, rfl⟩
theorem i0_53 : Ins M0 53 (.iconst 0) 1 54 := ⟨at_53, rfl⟩
theorem i0_54 : Ins M0 54 (.iload 6) 2 56 := ⟨at_54, rfl⟩
theorem i0_56 : Ins M0 56 (.iload 7) 2 58 := ⟨at_56, rfl⟩
theorem i0_58 : Ins M0 58 (.invokestatic 23) 3 61 := ⟨at_58, rfl⟩
theorem i0_61 : Ins M0 61 (.aload 9) 2 63 := ⟨at_61, rfl⟩
theorem i0_63 : Ins M0 63 (.iconst 4) 1 64 := ⟨at_63, rfl⟩
theorem i0_64 : Ins M0 64 (.iload_n 2) 1 65 := ⟨at_64, rfl⟩
theorem i0_65 : Ins M0 65 (.iconst 4) 1 66 := ⟨at_65, rfl⟩
theorem i0_66 : Ins M0 66 (.iload 6) 2 68 := ⟨at_66, rfl⟩
theorem i0_68 : Ins M0 68 (.iload 7) 2 70 := ⟨at_68, rfl⟩
theorem i0_70 : Ins M0 70 (.invokestatic 23) 3 73 := ⟨at_70, rfl⟩
theorem i0_73 : Ins M0 73 (.aload 9) 2 75 := ⟨at_73, rfl⟩
theorem i0_75 : Ins M0 75 (.bipush 8) 2 77 := ⟨at_75, rfl⟩
theorem i0_77 : Ins M0 77 (.iload_n 2) 1 78 := ⟨at_77, rfl⟩
theorem i0_78 : Ins M0 78 (.bipush 8) 2 80 := ⟨at_78, rfl⟩
theorem i0_80 : Ins M0 80 (.iload 6) 2 82 := ⟨at_80, rfl⟩
theorem i0_82 : Ins M0 82 (.iload 7) 2 84 := ⟨at_82, rfl⟩
theorem i0_84 : Ins M0 84 (.invokestatic 23) 3 87 := ⟨at_84, rfl⟩
theorem i0_87 : Ins M0 87 (.aload 10) 2 89 := ⟨at_87, rfl⟩
theorem i0_89 : Ins M0 89 (.iconst 0) 1 90 := ⟨at_89, rfl⟩
theorem i0_90 : Ins M0 90 (.iload_n 2) 1 91 := ⟨at_90, rfl⟩
theorem i0_91 : Ins M0 91 (.bipush 12) 2 93 := ⟨at_91, rfl⟩
theorem i0_93 : Ins M0 93 (.iload 6) 2 95 := ⟨at_93, rfl⟩
theorem i0_95 : Ins M0 95 (.iload 7) 2 97 := ⟨at_95, rfl⟩
theorem i0_97 : Ins M0 97 (.invokestatic 23) 3 100 := ⟨at_97, rfl⟩
theorem i0_100 : Ins M0 100 (.new 27) 3 103 := ⟨at_100, rfl⟩
theorem i0_103 : Ins M0 103 (.dup) 1 104 := ⟨at_103, rfl⟩
theorem i0_104 : Ins M0 104 (.invokespecial 29) 3 107 := ⟨at_104, rfl⟩
theorem i0_107 : Ins M0 107 (.astore 11) 2 109 := ⟨at_107, rfl⟩
theorem i0_109 : Ins M0 109 (.aload 11) 2 111 := ⟨at_109, rfl⟩
theorem i0_111 : Ins M0 111 (.aload 9) 2 113 := ⟨at_111, rfl⟩
theorem i0_113 : Ins M0 113 (.iconst 0) 1 114 := ⟨at_113, rfl⟩
theorem i0_114 : Ins M0 114 (.iaload) 1 115 := ⟨at_114, rfl⟩
theorem i0_115 : Ins M0 115 (.aload 9) 2 117 := ⟨at_115, rfl⟩
theorem i0_117 : Ins M0 117 (.iconst 1) 1 118 := ⟨at_117, rfl⟩
theorem i0_118 : Ins M0 118 (.iaload) 1 119 := ⟨at_118, rfl⟩
theorem i0_119 : Ins M0 119 (.aload 9) 2 121 := ⟨at_119, rfl⟩
theorem i0_121 : Ins M0 121 (.iconst 2) 1 122 := ⟨at_121, rfl⟩
theorem i0_122 : Ins M0 122 (.iaload) 1 123 := ⟨at_122, rfl⟩
theorem i0_123 : Ins M0 123 (.aload 9) 2 125 := ⟨at_123, rfl⟩
theorem i0_125 : Ins M0 125 (.iconst 3) 1 126 := ⟨at_125, rfl⟩
theorem i0_126 : Ins M0 126 (.iaload) 1 127 := ⟨at_126, rfl⟩
theorem i0_127 : Ins M0 127 (.invokevirtual 30) 3 130 := ⟨at_127, rfl⟩
theorem i0_130 : Ins M0 130 (.aload 11) 2 132 := ⟨at_130, rfl⟩
theorem i0_132 : Ins M0 132 (.aload 9) 2 134 := ⟨at_132, rfl⟩
theorem i0_134 : Ins M0 134 (.iconst 4) 1 135 := ⟨at_134, rfl⟩
theorem i0_135 : Ins M0 135 (.iaload) 1 136 := ⟨at_135, rfl⟩
theorem i0_136 : Ins M0 136 (.aload 9) 2 138 := ⟨at_136, rfl⟩
theorem i0_138 : Ins M0 138 (.iconst 5) 1 139 := ⟨at_138, rfl⟩
theorem i0_139 : Ins M0 139 (.iaload) 1 140 := ⟨at_139, rfl⟩
theorem i0_140 : Ins M0 140 (.aload 9) 2 142 := ⟨at_140, rfl⟩
theorem i0_142 : Ins M0 142 (.bipush 6) 2 144 := ⟨at_142, rfl⟩
theorem i0_144 : Ins M0 144 (.iaload) 1 145 := ⟨at_144, rfl⟩
theorem i0_145 : Ins M0 145 (.aload 9) 2 147 := ⟨at_145, rfl⟩
theorem i0_147 : Ins M0 147 (.bipush 7) 2 149 := ⟨at_147, rfl⟩
theorem i0_149 : Ins M0 149 (.iaload) 1 150 := ⟨at_149, rfl⟩
theorem i0_150 : Ins M0 150 (.invokevirtual 30) 3 153 := ⟨at_150, rfl⟩
theorem i0_153 : Ins M0 153 (.aload 11) 2 155 := ⟨at_153, rfl⟩
theorem i0_155 : Ins M0 155 (.aload 9) 2 157 := ⟨at_155, rfl⟩
theorem i0_157 : Ins M0 157 (.bipush 8) 2 159 := ⟨at_157, rfl⟩
theorem i0_159 : Ins M0 159 (.iaload) 1 160 := ⟨at_159, rfl⟩
theorem i0_160 : Ins M0 160 (.aload 9) 2 162 := ⟨at_160, rfl⟩
theorem i0_162 : Ins M0 162 (.bipush 9) 2 164 := ⟨at_162, rfl⟩
theorem i0_164 : Ins M0 164 (.iaload) 1 165 := ⟨at_164, rfl⟩
theorem i0_165 : Ins M0 165 (.aload 9) 2 167 := ⟨at_165, rfl⟩
theorem i0_167 : Ins M0 167 (.bipush 10) 2 169 := ⟨at_167, rfl⟩
theorem i0_169 : Ins M0 169 (.iaload) 1 170 := ⟨at_169, rfl⟩
theorem i0_170 : Ins M0 170 (.aload 9) 2 172 := ⟨at_170, rfl⟩
theorem i0_172 : Ins M0 172 (.bipush 11) 2 174 := ⟨at_172, rfl⟩
theorem i0_174 : Ins M0 174 (.iaload) 1 175 := ⟨at_174, rfl⟩
theorem i0_175 : Ins M0 175 (.invokevirtual 30) 3 178 := ⟨at_175, rfl⟩
theorem i0_178 : Ins M0 178 (.aload 11) 2 180 := ⟨at_178, rfl⟩
theorem i0_180 : Ins M0 180 (.iload 8) 2 182 := ⟨at_180, rfl⟩
theorem i0_182 : Ins M0 182 (.invokevirtual 34) 3 185 := ⟨at_182, rfl⟩
theorem i0_185 : Ins M0 185 (.aload 11) 2 187 := ⟨at_185, rfl⟩
theorem i0_187 : Ins M0 187 (.aload 10) 2 189 := ⟨at_187, rfl⟩
theorem i0_189 : Ins M0 189 (.iconst 0) 1 190 := ⟨at_189, rfl⟩
theorem i0_190 : Ins M0 190 (.iaload) 1 191 := ⟨at_190, rfl⟩
theorem i0_191 : Ins M0 191 (.aload 10) 2 193 := ⟨at_191, rfl⟩
theorem i0_193 : Ins M0 193 (.iconst 1) 1 194 := ⟨at_193, rfl⟩
theorem i0_194 : Ins M0 194 (.iaload) 1 195 := ⟨at_194, rfl⟩
theorem i0_195 : Ins M0 195 (.aload 10) 2 197 := ⟨at_195, rfl⟩
theorem i0_197 : Ins M0 197 (.iconst 2) 1 198 := ⟨at_197, rfl⟩
theorem i0_198 : Ins M0 198 (.iaload) 1 199 := ⟨at_198, rfl⟩
theorem i0_199 : Ins M0 199 (.aload 10) 2 201 := ⟨at_199, rfl⟩
theorem i0_201 : Ins M0 201 (.iconst 3) 1 202 := ⟨at_201, rfl⟩
theorem i0_202 : Ins M0 202 (.iaload) 1 203 := ⟨at_202, rfl⟩
theorem i0_203 : Ins M0 203 (.invokevirtual 38) 3 206 := ⟨at_203, rfl⟩
theorem i0_206 : Ins M0 206 (.istore 12) 2 208 := ⟨at_206, rfl⟩
theorem i0_208 : Ins M0 208 (.iload 8) 2 210 := ⟨at_208, rfl⟩
theorem i0_210 : Ins M0 210 (.ifCond .le 20) 3 213 := ⟨at_210, rfl⟩
theorem i0_213 : Ins M0 213 (.aload 9) 2 215 := ⟨at_213, rfl⟩
theorem i0_215 : Ins M0 215 (.iconst 0) 1 216 := ⟨at_215, rfl⟩
theorem i0_216 : Ins M0 216 (.aload 10) 2 218 := ⟨at_216, rfl⟩
theorem i0_218 : Ins M0 218 (.invokestatic 41) 3 221 := ⟨at_218, rfl⟩
theorem i0_221 : Ins M0 221 (.ifCond .eq 9) 3 224 := ⟨at_221, rfl⟩
theorem i0_224 : Ins M0 224 (.iconst 0) 1 225 := ⟨at_224, rfl⟩
theorem i0_225 : Ins M0 225 (.istore 13) 2 227 := ⟨at_225, rfl⟩
theorem i0_227 : Ins M0 227 (.goto 53) 3 230 := ⟨at_227, rfl⟩
theorem i0_230 : Ins M0 230 (.iload 8) 2 232 := ⟨at_230, rfl⟩
theorem i0_232 : Ins M0 232 (.iconst 1) 1 233 := ⟨at_232, rfl⟩
theorem i0_233 : Ins M0 233 (.if_icmp .le 20) 3 236 := ⟨at_233, rfl⟩
theorem i0_236 : Ins M0 236 (.aload 9) 2 238 := ⟨at_236, rfl⟩
theorem i0_238 : Ins M0 238 (.iconst 4) 1 239 := ⟨at_238, rfl⟩
theorem i0_239 : Ins M0 239 (.aload 10) 2 241 := ⟨at_239, rfl⟩
theorem i0_241 : Ins M0 241 (.invokestatic 41) 3 244 := ⟨at_241, rfl⟩
theorem i0_244 : Ins M0 244 (.ifCond .eq 9) 3 247 := ⟨at_244, rfl⟩
theorem i0_247 : Ins M0 247 (.iconst 1) 1 248 := ⟨at_247, rfl⟩
theorem i0_248 : Ins M0 248 (.istore 13) 2 250 := ⟨at_248, rfl⟩
theorem i0_250 : Ins M0 250 (.goto 30) 3 253 := ⟨at_250, rfl⟩
theorem i0_253 : Ins M0 253 (.iload 8) 2 255 := ⟨at_253, rfl⟩
theorem i0_255 : Ins M0 255 (.iconst 2) 1 256 := ⟨at_255, rfl⟩
theorem i0_256 : Ins M0 256 (.if_icmp .le 21) 3 259 := ⟨at_256, rfl⟩
theorem i0_259 : Ins M0 259 (.aload 9) 2 261 := ⟨at_259, rfl⟩
theorem i0_261 : Ins M0 261 (.bipush 8) 2 263 := ⟨at_261, rfl⟩
theorem i0_263 : Ins M0 263 (.aload 10) 2 265 := ⟨at_263, rfl⟩
theorem i0_265 : Ins M0 265 (.invokestatic 41) 3 268 := ⟨at_265, rfl⟩
theorem i0_268 : Ins M0 268 (.ifCond .eq 9) 3 271 := ⟨at_268, rfl⟩
theorem i0_271 : Ins M0 271 (.iconst 2) 1 272 := ⟨at_271, rfl⟩
theorem i0_272 : Ins M0 272 (.istore 13) 2 274 := ⟨at_272, rfl⟩
theorem i0_274 : Ins M0 274 (.goto 6) 3 277 := ⟨at_274, rfl⟩
theorem i0_277 : Ins M0 277 (.iconst (-1)) 1 278 := ⟨at_277, rfl⟩
theorem i0_278 : Ins M0 278 (.istore 13) 2 280 := ⟨at_278, rfl⟩
theorem i0_280 : Ins M0 280 (.iload 12) 2 282 := ⟨at_280, rfl⟩
theorem i0_282 : Ins M0 282 (.iload 13) 2 284 := ⟨at_282, rfl⟩
theorem i0_284 : Ins M0 284 (.if_icmp .ne 7) 3 287 := ⟨at_284, rfl⟩
theorem i0_287 : Ins M0 287 (.iconst 1) 1 288 := ⟨at_287, rfl⟩
theorem i0_288 : Ins M0 288 (.goto 4) 3 291 := ⟨at_288, rfl⟩
theorem i0_291 : Ins M0 291 (.iconst 0) 1 292 := ⟨at_291, rfl⟩
theorem i0_292 : Ins M0 292 (.ireturn) 1 293 := ⟨at_292, rfl⟩
theorem pn0 : plainFor M0.1 = true := plainFor_of_name (by first | (simp [plainName, overriddenIn, M0, x]; done) | decide +kernel)
theorem pd0 : parseMethodDescriptor M0.1.desc = some ⟨[.int, .int, .int, .int], some (.boolean)⟩ := by decide +kernel
def M1 : GM := (⟨"java/lang/Math", "min", "(II)I"⟩, jdk_29_method_69_code, 2, some (.int))
theorem i1_0 : Ins M1 0 (.iload_n 0) 1 1 := ⟨by decide +kernel, rfl⟩
theorem i1_1 : Ins M1 1 (.iload_n 1) 1 2 := ⟨by decide +kernel, rfl⟩
theorem i1_2 : Ins M1 2 (.if_icmp .gt 7) 3 5 := ⟨by decide +kernel, rfl⟩
theorem i1_5 : Ins M1 5 (.iload_n 0) 1 6 := ⟨by decide +kernel, rfl⟩
theorem i1_6 : Ins M1 6 (.goto 4) 3 9 := ⟨by decide +kernel, rfl⟩
theorem i1_9 : Ins M1 9 (.iload_n 1) 1 10 := ⟨by decide +kernel, rfl⟩
theorem i1_10 : Ins M1 10 (.ireturn) 1 11 := ⟨by decide +kernel, rfl⟩
theorem pn1 : plainFor M1.1 = true := Jvm.Free.JP.mathPlain rfl (by decide +kernel)
theorem pd1 : parseMethodDescriptor M1.1.desc = some ⟨[.int, .int], some (.int)⟩ := by decide +kernel
def M2 : GM := (⟨"java/lang/Math", "max", "(II)I"⟩, jdk_29_method_65_code, 2, some (.int))
theorem i2_0 : Ins M2 0 (.iload_n 0) 1 1 := ⟨by decide +kernel, rfl⟩
theorem i2_1 : Ins M2 1 (.iload_n 1) 1 2 := ⟨by decide +kernel, rfl⟩
theorem i2_2 : Ins M2 2 (.if_icmp .lt 7) 3 5 := ⟨by decide +kernel, rfl⟩
theorem i2_5 : Ins M2 5 (.iload_n 0) 1 6 := ⟨by decide +kernel, rfl⟩
theorem i2_6 : Ins M2 6 (.goto 4) 3 9 := ⟨by decide +kernel, rfl⟩
theorem i2_9 : Ins M2 9 (.iload_n 1) 1 10 := ⟨by decide +kernel, rfl⟩
theorem i2_10 : Ins M2 10 (.ireturn) 1 11 := ⟨by decide +kernel, rfl⟩
theorem pn2 : plainFor M2.1 = true := Jvm.Free.JP.mathPlain rfl (by decide +kernel)
theorem pd2 : parseMethodDescriptor M2.1.desc = some ⟨[.int, .int], some (.int)⟩ := by decide +kernel
def M3 : GM := (⟨"com/example/meshwright/meshwright/grid/BlockListIndexOfPinLaw", "fill", "([IIIIII)V"⟩, method_3_code, 10, none)
theorem i3_0 : Ins M3 0 (.iload_n 2) 1 1 := ⟨by decide +kernel, rfl⟩
theorem i3_1 : Ins M3 1 (.iload_n 3) 1 2 := ⟨by decide +kernel, rfl⟩
theorem i3_2 : Ins M3 2 (.iload 4) 2 4 := ⟨by decide +kernel, rfl⟩
theorem i3_4 : Ins M3 4 (.iload 5) 2 6 := ⟨by decide +kernel, rfl⟩
theorem i3_6 : Ins M3 6 (.invokestatic 7) 3 9 := ⟨by decide +kernel, rfl⟩
theorem i3_9 : Ins M3 9 (.istore 6) 2 11 := ⟨by decide +kernel, rfl⟩
theorem i3_11 : Ins M3 11 (.iload 6) 2 13 := ⟨by decide +kernel, rfl⟩
theorem i3_13 : Ins M3 13 (.iload_n 2) 1 14 := ⟨by decide +kernel, rfl⟩
theorem i3_14 : Ins M3 14 (.iload_n 3) 1 15 := ⟨by decide +kernel, rfl⟩
theorem i3_15 : Ins M3 15 (.iconst 1) 1 16 := ⟨by decide +kernel, rfl⟩
theorem i3_16 : Ins M3 16 (.iadd) 1 17 := ⟨by decide +kernel, rfl⟩
theorem i3_17 : Ins M3 17 (.iload 4) 2 19 := ⟨by decide +kernel, rfl⟩
theorem i3_19 : Ins M3 19 (.iload 5) 2 21 := ⟨by decide +kernel, rfl⟩
theorem i3_21 : Ins M3 21 (.invokestatic 7) 3 24 := ⟨by decide +kernel, rfl⟩
theorem i3_24 : Ins M3 24 (.invokestatic 13) 3 27 := ⟨by decide +kernel, rfl⟩
theorem i3_27 : Ins M3 27 (.istore 7) 2 29 := ⟨by decide +kernel, rfl⟩
theorem i3_29 : Ins M3 29 (.iload_n 2) 1 30 := ⟨by decide +kernel, rfl⟩
theorem i3_30 : Ins M3 30 (.iload_n 3) 1 31 := ⟨by decide +kernel, rfl⟩
theorem i3_31 : Ins M3 31 (.iconst 2) 1 32 := ⟨by decide +kernel, rfl⟩
theorem i3_32 : Ins M3 32 (.iadd) 1 33 := ⟨by decide +kernel, rfl⟩
theorem i3_33 : Ins M3 33 (.iload 4) 2 35 := ⟨by decide +kernel, rfl⟩
theorem i3_35 : Ins M3 35 (.iload 5) 2 37 := ⟨by decide +kernel, rfl⟩
theorem i3_37 : Ins M3 37 (.invokestatic 7) 3 40 := ⟨by decide +kernel, rfl⟩
theorem i3_40 : Ins M3 40 (.istore 8) 2 42 := ⟨by decide +kernel, rfl⟩
theorem i3_42 : Ins M3 42 (.iload 8) 2 44 := ⟨by decide +kernel, rfl⟩
theorem i3_44 : Ins M3 44 (.iload_n 2) 1 45 := ⟨by decide +kernel, rfl⟩
theorem i3_45 : Ins M3 45 (.iload_n 3) 1 46 := ⟨by decide +kernel, rfl⟩
theorem i3_46 : Ins M3 46 (.iconst 3) 1 47 := ⟨by decide +kernel, rfl⟩
theorem i3_47 : Ins M3 47 (.iadd) 1 48 := ⟨by decide +kernel, rfl⟩
theorem i3_48 : Ins M3 48 (.iload 4) 2 50 := ⟨by decide +kernel, rfl⟩
theorem i3_50 : Ins M3 50 (.iload 5) 2 52 := ⟨by decide +kernel, rfl⟩
theorem i3_52 : Ins M3 52 (.invokestatic 7) 3 55 := ⟨by decide +kernel, rfl⟩
theorem i3_55 : Ins M3 55 (.invokestatic 13) 3 58 := ⟨by decide +kernel, rfl⟩
theorem i3_58 : Ins M3 58 (.istore 9) 2 60 := ⟨by decide +kernel, rfl⟩
theorem i3_60 : Ins M3 60 (.aload_n 0) 1 61 := ⟨by decide +kernel, rfl⟩
theorem i3_61 : Ins M3 61 (.iload_n 1) 1 62 := ⟨by decide +kernel, rfl⟩
theorem i3_62 : Ins M3 62 (.iload 6) 2 64 := ⟨by decide +kernel, rfl⟩
theorem i3_64 : Ins M3 64 (.iastore) 1 65 := ⟨by decide +kernel, rfl⟩
theorem i3_65 : Ins M3 65 (.aload_n 0) 1 66 := ⟨by decide +kernel, rfl⟩
theorem i3_66 : Ins M3 66 (.iload_n 1) 1 67 := ⟨by decide +kernel, rfl⟩
theorem i3_67 : Ins M3 67 (.iconst 1) 1 68 := ⟨by decide +kernel, rfl⟩
theorem i3_68 : Ins M3 68 (.iadd) 1 69 := ⟨by decide +kernel, rfl⟩
theorem i3_69 : Ins M3 69 (.iload 8) 2 71 := ⟨by decide +kernel, rfl⟩
theorem i3_71 : Ins M3 71 (.iastore) 1 72 := ⟨by decide +kernel, rfl⟩
theorem i3_72 : Ins M3 72 (.aload_n 0) 1 73 := ⟨by decide +kernel, rfl⟩
theorem i3_73 : Ins M3 73 (.iload_n 1) 1 74 := ⟨by decide +kernel, rfl⟩
theorem i3_74 : Ins M3 74 (.iconst 2) 1 75 := ⟨by decide +kernel, rfl⟩
theorem i3_75 : Ins M3 75 (.iadd) 1 76 := ⟨by decide +kernel, rfl⟩
theorem i3_76 : Ins M3 76 (.iload 7) 2 78 := ⟨by decide +kernel, rfl⟩
theorem i3_78 : Ins M3 78 (.iastore) 1 79 := ⟨by decide +kernel, rfl⟩
theorem i3_79 : Ins M3 79 (.aload_n 0) 1 80 := ⟨by decide +kernel, rfl⟩
theorem i3_80 : Ins M3 80 (.iload_n 1) 1 81 := ⟨by decide +kernel, rfl⟩
theorem i3_81 : Ins M3 81 (.iconst 3) 1 82 := ⟨by decide +kernel, rfl⟩
theorem i3_82 : Ins M3 82 (.iadd) 1 83 := ⟨by decide +kernel, rfl⟩
theorem i3_83 : Ins M3 83 (.iload 9) 2 85 := ⟨by decide +kernel, rfl⟩
theorem i3_85 : Ins M3 85 (.iastore) 1 86 := ⟨by decide +kernel, rfl⟩
theorem i3_86 : Ins M3 86 (.return_) 1 87 := ⟨by decide +kernel, rfl⟩
theorem pn3 : plainFor M3.1 = true := plainFor_of_name (by first | (simp [plainName, overriddenIn, M3, x]; done) | decide +kernel)
theorem pd3 : parseMethodDescriptor M3.1.desc = some ⟨[(.array .int), .int, .int, .int, .int, .int], none⟩ := by decide +kernel
def M4 : GM := (⟨"com/example/meshwright/meshwright/grid/BlockListIndexOfPinLaw", "pick", "(IIII)I"⟩, method_2_code, 4, some (.int))
theorem i4_0 : Ins M4 0 (.iload_n 0) 1 1 := ⟨by decide +kernel, rfl⟩
theorem i4_1 : Ins M4 1 (.iload_n 1) 1 2 := ⟨by decide +kernel, rfl⟩
theorem i4_2 : Ins M4 2 (.iushr) 1 3 := ⟨by decide +kernel, rfl⟩
theorem i4_3 : Ins M4 3 (.iconst 1) 1 4 := ⟨by decide +kernel, rfl⟩
theorem i4_4 : Ins M4 4 (.iand) 1 5 := ⟨by decide +kernel, rfl⟩
theorem i4_5 : Ins M4 5 (.ifCond .ne 7) 3 8 := ⟨by decide +kernel, rfl⟩
theorem i4_8 : Ins M4 8 (.iload_n 2) 1 9 := ⟨by decide +kernel, rfl⟩
theorem i4_9 : Ins M4 9 (.goto 4) 3 12 := ⟨by decide +kernel, rfl⟩
theorem i4_12 : Ins M4 12 (.iload_n 3) 1 13 := ⟨by decide +kernel, rfl⟩
theorem i4_13 : Ins M4 13 (.ireturn) 1 14 := ⟨by decide +kernel, rfl⟩
theorem pn4 : plainFor M4.1 = true := plainFor_of_name (by first | (simp [plainName, overriddenIn, M4, x]; done) | decide +kernel)
theorem pd4 : parseMethodDescriptor M4.1.desc = some ⟨[.int, .int, .int, .int], some (.int)⟩ := by decide +kernel
def M5 : GM := (⟨"com/example/meshwright/meshwright/grid/BlockList", "<init>", "()V"⟩, prog_103_method_1_code, 1, none)
theorem i5_0 : Ins M5 0 (.aload_n 0) 1 1 := ⟨by decide +kernel, rfl⟩
theorem i5_1 : Ins M5 1 (.invokespecial 1) 3 4 := ⟨by decide +kernel, rfl⟩
theorem i5_4 : Ins M5 4 (.aload_n 0) 1 5 := ⟨by decide +kernel, rfl⟩
theorem i5_5 : Ins M5 5 (.bipush 32) 2 7 := ⟨by decide +kernel, rfl⟩
theorem i5_7 : Ins M5 7 (.newarray .int) 2 9 := ⟨by decide +kernel, rfl⟩
theorem i5_9 : Ins M5 9 (.putfield 9) 3 12 := ⟨by decide +kernel, rfl⟩
theorem i5_12 : Ins M5 12 (.aload_n 0) 1 13 := ⟨by decide +kernel, rfl⟩
theorem i5_13 : Ins M5 13 (.bipush 8) 2 15 := ⟨by decide +kernel, rfl⟩
theorem i5_15 : Ins M5 15 (.newarray .long) 2 17 := ⟨by decide +kernel, rfl⟩
theorem i5_17 : Ins M5 17 (.putfield 13) 3 20 := ⟨by decide +kernel, rfl⟩
theorem i5_20 : Ins M5 20 (.return_) 1 21 := ⟨by decide +kernel, rfl⟩
theorem pn5 : plainFor M5.1 = true := plainFor_of_name (by first | (simp [plainName, overriddenIn, M5, x]; done) | decide +kernel)
theorem pd5 : parseMethodDescriptor M5.1.desc = some ⟨[], none⟩ := by decide +kernel
def M7 : GM := (⟨"com/example/meshwright/meshwright/grid/BlockList", "add", "(IIII)V"⟩, prog_103_method_4_code, 5, none)
theorem i7_0 : Ins M7 0 (.aload_n 0) 1 1 := ⟨by decide +kernel, rfl⟩
theorem i7_1 : Ins M7 1 (.iload_n 1) 1 2 := ⟨by decide +kernel, rfl⟩
theorem i7_2 : Ins M7 2 (.iload_n 2) 1 3 := ⟨by decide +kernel, rfl⟩
theorem i7_3 : Ins M7 3 (.iload_n 3) 1 4 := ⟨by decide +kernel, rfl⟩
theorem i7_4 : Ins M7 4 (.iload 4) 2 6 := ⟨by decide +kernel, rfl⟩
theorem i7_6 : Ins M7 6 (.lconst 0) 1 7 := ⟨by decide +kernel, rfl⟩
theorem i7_7 : Ins M7 7 (.invokevirtual 21) 3 10 := ⟨by decide +kernel, rfl⟩
theorem i7_10 : Ins M7 10 (.return_) 1 11 := ⟨by decide +kernel, rfl⟩
theorem pn7 : plainFor M7.1 = true := plainFor_of_name (by first | (simp [plainName, overriddenIn, M7, x]; done) | decide +kernel)
theorem pd7 : parseMethodDescriptor M7.1.desc = some ⟨[.int, .int, .int, .int], none⟩ := by decide +kernel
def M8 : GM := (⟨"com/example/meshwright/meshwright/grid/BlockList", "add", "(IIIIJ)V"⟩, prog_103_method_5_code, 8, none)
theorem i8_0 : Ins M8 0 (.aload_n 0) 1 1 := ⟨by decide +kernel, rfl⟩
theorem i8_1 : Ins M8 1 (.getfield 17) 3 4 := ⟨by decide +kernel, rfl⟩
theorem i8_4 : Ins M8 4 (.aload_n 0) 1 5 := ⟨by decide +kernel, rfl⟩
theorem i8_5 : Ins M8 5 (.getfield 13) 3 8 := ⟨by decide +kernel, rfl⟩
theorem i8_8 : Ins M8 8 (.arraylength) 1 9 := ⟨by decide +kernel, rfl⟩
theorem i8_9 : Ins M8 9 (.if_icmp .ne 39) 3 12 := ⟨by decide +kernel, rfl⟩
theorem i8_12 : Ins M8 12 (.aload_n 0) 1 13 := ⟨by decide +kernel, rfl⟩
theorem i8_13 : Ins M8 13 (.aload_n 0) 1 14 := ⟨by decide +kernel, rfl⟩
theorem i8_14 : Ins M8 14 (.getfield 9) 3 17 := ⟨by decide +kernel, rfl⟩
theorem i8_17 : Ins M8 17 (.iconst 2) 1 18 := ⟨by decide +kernel, rfl⟩
theorem i8_18 : Ins M8 18 (.aload_n 0) 1 19 := ⟨by decide +kernel, rfl⟩
theorem i8_19 : Ins M8 19 (.getfield 9) 3 22 := ⟨by decide +kernel, rfl⟩
theorem i8_22 : Ins M8 22 (.arraylength) 1 23 := ⟨by decide +kernel, rfl⟩
theorem i8_23 : Ins M8 23 (.imul) 1 24 := ⟨by decide +kernel, rfl⟩
theorem i8_24 : Ins M8 24 (.invokestatic 25) 3 27 := ⟨by decide +kernel, rfl⟩
theorem i8_27 : Ins M8 27 (.putfield 9) 3 30 := ⟨by decide +kernel, rfl⟩
theorem i8_30 : Ins M8 30 (.aload_n 0) 1 31 := ⟨by decide +kernel, rfl⟩
theorem i8_31 : Ins M8 31 (.aload_n 0) 1 32 := ⟨by decide +kernel, rfl⟩
theorem i8_32 : Ins M8 32 (.getfield 13) 3 35 := ⟨by decide +kernel, rfl⟩
theorem i8_35 : Ins M8 35 (.iconst 2) 1 36 := ⟨by decide +kernel, rfl⟩
theorem i8_36 : Ins M8 36 (.aload_n 0) 1 37 := ⟨by decide +kernel, rfl⟩
theorem i8_37 : Ins M8 37 (.getfield 13) 3 40 := ⟨by decide +kernel, rfl⟩
theorem i8_40 : Ins M8 40 (.arraylength) 1 41 := ⟨by decide +kernel, rfl⟩
theorem i8_41 : Ins M8 41 (.imul) 1 42 := ⟨by decide +kernel, rfl⟩
theorem i8_42 : Ins M8 42 (.invokestatic 31) 3 45 := ⟨by decide +kernel, rfl⟩
theorem i8_45 : Ins M8 45 (.putfield 13) 3 48 := ⟨by decide +kernel, rfl⟩
theorem i8_48 : Ins M8 48 (.aload_n 0) 1 49 := ⟨by decide +kernel, rfl⟩
theorem i8_49 : Ins M8 49 (.getfield 13) 3 52 := ⟨by decide +kernel, rfl⟩
theorem i8_52 : Ins M8 52 (.aload_n 0) 1 53 := ⟨by decide +kernel, rfl⟩
theorem i8_53 : Ins M8 53 (.getfield 17) 3 56 := ⟨by decide +kernel, rfl⟩
theorem i8_56 : Ins M8 56 (.lload 5) 2 58 := ⟨by decide +kernel, rfl⟩
theorem i8_58 : Ins M8 58 (.lastore) 1 59 := ⟨by decide +kernel, rfl⟩
theorem i8_59 : Ins M8 59 (.iconst 4) 1 60 := ⟨by decide +kernel, rfl⟩
theorem i8_60 : Ins M8 60 (.aload_n 0) 1 61 := ⟨by decide +kernel, rfl⟩
theorem i8_61 : Ins M8 61 (.getfield 17) 3 64 := ⟨by decide +kernel, rfl⟩
theorem i8_64 : Ins M8 64 (.imul) 1 65 := ⟨by decide +kernel, rfl⟩
theorem i8_65 : Ins M8 65 (.istore 7) 2 67 := ⟨by decide +kernel, rfl⟩
theorem i8_67 : Ins M8 67 (.aload_n 0) 1 68 := ⟨by decide +kernel, rfl⟩
theorem i8_68 : Ins M8 68 (.getfield 9) 3 71 := ⟨by decide +kernel, rfl⟩
theorem i8_71 : Ins M8 71 (.iload 7) 2 73 := ⟨by decide +kernel, rfl⟩
theorem i8_73 : Ins M8 73 (.iload_n 1) 1 74 := ⟨by decide +kernel, rfl⟩
theorem i8_74 : Ins M8 74 (.iastore) 1 75 := ⟨by decide +kernel, rfl⟩
theorem i8_75 : Ins M8 75 (.aload_n 0) 1 76 := ⟨by decide +kernel, rfl⟩
theorem i8_76 : Ins M8 76 (.getfield 9) 3 79 := ⟨by decide +kernel, rfl⟩
theorem i8_79 : Ins M8 79 (.iload 7) 2 81 := ⟨by decide +kernel, rfl⟩
theorem i8_81 : Ins M8 81 (.iconst 1) 1 82 := ⟨by decide +kernel, rfl⟩
theorem i8_82 : Ins M8 82 (.iadd) 1 83 := ⟨by decide +kernel, rfl⟩
theorem i8_83 : Ins M8 83 (.iload_n 2) 1 84 := ⟨by decide +kernel, rfl⟩
theorem i8_84 : Ins M8 84 (.iastore) 1 85 := ⟨by decide +kernel, rfl⟩
theorem i8_85 : Ins M8 85 (.aload_n 0) 1 86 := ⟨by decide +kernel, rfl⟩
theorem i8_86 : Ins M8 86 (.getfield 9) 3 89 := ⟨by decide +kernel, rfl⟩
theorem i8_89 : Ins M8 89 (.iload 7) 2 91 := ⟨by decide +kernel, rfl⟩
theorem i8_91 : Ins M8 91 (.iconst 2) 1 92 := ⟨by decide +kernel, rfl⟩
theorem i8_92 : Ins M8 92 (.iadd) 1 93 := ⟨by decide +kernel, rfl⟩
theorem i8_93 : Ins M8 93 (.iload_n 3) 1 94 := ⟨by decide +kernel, rfl⟩
theorem i8_94 : Ins M8 94 (.iastore) 1 95 := ⟨by decide +kernel, rfl⟩
theorem i8_95 : Ins M8 95 (.aload_n 0) 1 96 := ⟨by decide +kernel, rfl⟩
theorem i8_96 : Ins M8 96 (.getfield 9) 3 99 := ⟨by decide +kernel, rfl⟩
theorem i8_99 : Ins M8 99 (.iload 7) 2 101 := ⟨by decide +kernel, rfl⟩
theorem i8_101 : Ins M8 101 (.iconst 3) 1 102 := ⟨by decide +kernel, rfl⟩
theorem i8_102 : Ins M8 102 (.iadd) 1 103 := ⟨by decide +kernel, rfl⟩
theorem i8_103 : Ins M8 103 (.iload 4) 2 105 := ⟨by decide +kernel, rfl⟩
theorem i8_105 : Ins M8 105 (.iastore) 1 106 := ⟨by decide +kernel, rfl⟩
theorem i8_106 : Ins M8 106 (.aload_n 0) 1 107 := ⟨by decide +kernel, rfl⟩
theorem i8_107 : Ins M8 107 (.dup) 1 108 := ⟨by decide +kernel, rfl⟩
theorem i8_108 : Ins M8 108 (.getfield 17) 3 111 := ⟨by decide +kernel, rfl⟩
theorem i8_111 : Ins M8 111 (.iconst 1) 1 112 := ⟨by decide +kernel, rfl⟩
theorem i8_112 : Ins M8 112 (.iadd) 1 113 := ⟨by decide +kernel, rfl⟩
theorem i8_113 : Ins M8 113 (.putfield 17) 3 116 := ⟨by decide +kernel, rfl⟩
theorem i8_116 : Ins M8 116 (.return_) 1 117 := ⟨by decide +kernel, rfl⟩
theorem pn8 : plainFor M8.1 = true := plainFor_of_name (by first | (simp [plainName, overriddenIn, M8, x]; done) | decide +kernel)
theorem pd8 : parseMethodDescriptor M8.1.desc = some ⟨[.int, .int, .int, .int, .long], none⟩ := by decide +kernel
def M9 : GM := (⟨"com/example/meshwright/meshwright/grid/BlockList", "truncate", "(I)V"⟩, prog_103_method_10_code, 2, none)
theorem i9_0 : Ins M9 0 (.aload_n 0) 1 1 := ⟨by decide +kernel, rfl⟩
theorem i9_1 : Ins M9 1 (.iload_n 1) 1 2 := ⟨by decide +kernel, rfl⟩
theorem i9_2 : Ins M9 2 (.aload_n 0) 1 3 := ⟨by decide +kernel, rfl⟩
theorem i9_3 : Ins M9 3 (.getfield 17) 3 6 := ⟨by decide +kernel, rfl⟩
theorem i9_6 : Ins M9 6 (.iconst 1) 1 7 := ⟨by decide +kernel, rfl⟩
theorem i9_7 : Ins M9 7 (.iadd) 1 8 := ⟨by decide +kernel, rfl⟩
theorem i9_8 : Ins M9 8 (.invokestatic 48) 3 11 := ⟨by decide +kernel, rfl⟩
theorem i9_11 : Ins M9 11 (.putfield 17) 3 14 := ⟨by decide +kernel, rfl⟩
theorem i9_14 : Ins M9 14 (.return_) 1 15 := ⟨by decide +kernel, rfl⟩
theorem pn9 : plainFor M9.1 = true := plainFor_of_name (by first | (simp [plainName, overriddenIn, M9, x]; done) | decide +kernel)
theorem pd9 : parseMethodDescriptor M9.1.desc = some ⟨[.int], none⟩ := by decide +kernel
def M10 : GM := (⟨"java/util/Objects", "checkIndex", "(II)I"⟩, jdk_31_method_17_code, 2, some (.int))
theorem i10_0 : Ins M10 0 (.iload_n 0) 1 1 := ⟨by decide +kernel, rfl⟩
theorem i10_1 : Ins M10 1 (.iload_n 1) 1 2 := ⟨by decide +kernel, rfl⟩
theorem i10_2 : Ins M10 2 (.aconst_null) 1 3 := ⟨by decide +kernel, rfl⟩
theorem i10_3 : Ins M10 3 (.invokestatic 105) 3 6 := ⟨by decide +kernel, rfl⟩
theorem i10_6 : Ins M10 6 (.ireturn) 1 7 := ⟨by decide +kernel, rfl⟩
theorem pn10 : plainFor M10.1 = true := plainFor_of_name (by first | (simp [plainName, overriddenIn, M10, x]; done) | decide +kernel)
theorem pd10 : parseMethodDescriptor M10.1.desc = some ⟨[.int, .int], some (.int)⟩ := by decide +kernel
def M11 : GM := (⟨"jdk/internal/util/Preconditions", "checkIndex", "(IILjava/util/function/BiFunction;)I"⟩, jdk_41_method_11_code, 3, some (.int))
theorem i11_0 : Ins M11 0 (.iload_n 0) 1 1 := ⟨by decide +kernel, rfl⟩
theorem i11_1 : Ins M11 1 (.ifCond .lt 8) 3 4 := ⟨by decide +kernel, rfl⟩
theorem i11_4 : Ins M11 4 (.iload_n 0) 1 5 := ⟨by decide +kernel, rfl⟩
theorem i11_5 : Ins M11 5 (.iload_n 1) 1 6 := ⟨by decide +kernel, rfl⟩
theorem i11_6 : Ins M11 6 (.if_icmp .lt 10) 3 9 := ⟨by decide +kernel, rfl⟩
theorem i11_9 : Ins M11 9 (.aload_n 2) 1 10 := ⟨by decide +kernel, rfl⟩
theorem i11_10 : Ins M11 10 (.iload_n 0) 1 11 := ⟨by decide +kernel, rfl⟩
theorem i11_11 : Ins M11 11 (.iload_n 1) 1 12 := ⟨by decide +kernel, rfl⟩
theorem i11_12 : Ins M11 12 (.invokestatic 95) 3 15 := ⟨by decide +kernel, rfl⟩
theorem i11_15 : Ins M11 15 (.athrow) 1 16 := ⟨by decide +kernel, rfl⟩
theorem i11_16 : Ins M11 16 (.iload_n 0) 1 17 := ⟨by decide +kernel, rfl⟩
theorem i11_17 : Ins M11 17 (.ireturn) 1 18 := ⟨by decide +kernel, rfl⟩
theorem pn11 : plainFor M11.1 = true := plainFor_of_name (by first | (simp [plainName, overriddenIn, M11, x]; done) | decide +kernel)
theorem pd11 : parseMethodDescriptor M11.1.desc = some ⟨[.int, .int, (.object "java/util/function/BiFunction")], some (.int)⟩ := by decide +kernel
def M12 : GM := (⟨"com/example/meshwright/meshwright/grid/BlockList", "indexOf", "(IIII)I"⟩, prog_103_method_20_code, 6, some (.int))
theorem i12_0 : Ins M12 0 (.iconst 0) 1 1 := ⟨by decide +kernel, rfl⟩
theorem i12_1 : Ins M12 1 (.istore 5) 2 3 := ⟨by decide +kernel, rfl⟩
theorem i12_3 : Ins M12 3 (.iload 5) 2 5 := ⟨by decide +kernel, rfl⟩
theorem i12_5 : Ins M12 5 (.iconst 4) 1 6 := ⟨by decide +kernel, rfl⟩
theorem i12_6 : Ins M12 6 (.aload_n 0) 1 7 := ⟨by decide +kernel, rfl⟩
theorem i12_7 : Ins M12 7 (.getfield 17) 3 10 := ⟨by decide +kernel, rfl⟩
theorem i12_10 : Ins M12 10 (.imul) 1 11 := ⟨by decide +kernel, rfl⟩
theorem i12_11 : Ins M12 11 (.if_icmp .ge 65) 3 14 := ⟨by decide +kernel, rfl⟩
theorem i12_14 : Ins M12 14 (.aload_n 0) 1 15 := ⟨by decide +kernel, rfl⟩
theorem i12_15 : Ins M12 15 (.getfield 9) 3 18 := ⟨by decide +kernel, rfl⟩
theorem i12_18 : Ins M12 18 (.iload 5) 2 20 := ⟨by decide +kernel, rfl⟩
theorem i12_20 : Ins M12 20 (.iaload) 1 21 := ⟨by decide +kernel, rfl⟩
theorem i12_21 : Ins M12 21 (.iload_n 1) 1 22 := ⟨by decide +kernel, rfl⟩
theorem i12_22 : Ins M12 22 (.if_icmp .ne 48) 3 25 := ⟨by decide +kernel, rfl⟩
theorem i12_25 : Ins M12 25 (.aload_n 0) 1 26 := ⟨by decide +kernel, rfl⟩
theorem i12_26 : Ins M12 26 (.getfield 9) 3 29 := ⟨by decide +kernel, rfl⟩
theorem i12_29 : Ins M12 29 (.iload 5) 2 31 := ⟨by decide +kernel, rfl⟩
theorem i12_31 : Ins M12 31 (.iconst 1) 1 32 := ⟨by decide +kernel, rfl⟩
theorem i12_32 : Ins M12 32 (.iadd) 1 33 := ⟨by decide +kernel, rfl⟩
theorem i12_33 : Ins M12 33 (.iaload) 1 34 := ⟨by decide +kernel, rfl⟩
theorem i12_34 : Ins M12 34 (.iload_n 2) 1 35 := ⟨by decide +kernel, rfl⟩
theorem i12_35 : Ins M12 35 (.if_icmp .ne 35) 3 38 := ⟨by decide +kernel, rfl⟩
theorem i12_38 : Ins M12 38 (.aload_n 0) 1 39 := ⟨by decide +kernel, rfl⟩
theorem i12_39 : Ins M12 39 (.getfield 9) 3 42 := ⟨by decide +kernel, rfl⟩
theorem i12_42 : Ins M12 42 (.iload 5) 2 44 := ⟨by decide +kernel, rfl⟩
theorem i12_44 : Ins M12 44 (.iconst 2) 1 45 := ⟨by decide +kernel, rfl⟩
theorem i12_45 : Ins M12 45 (.iadd) 1 46 := ⟨by decide +kernel, rfl⟩
theorem i12_46 : Ins M12 46 (.iaload) 1 47 := ⟨by decide +kernel, rfl⟩
theorem i12_47 : Ins M12 47 (.iload_n 3) 1 48 := ⟨by decide +kernel, rfl⟩
theorem i12_48 : Ins M12 48 (.if_icmp .ne 22) 3 51 := ⟨by decide +kernel, rfl⟩
theorem i12_51 : Ins M12 51 (.aload_n 0) 1 52 := ⟨by decide +kernel, rfl⟩
theorem i12_52 : Ins M12 52 (.getfield 9) 3 55 := ⟨by decide +kernel, rfl⟩
theorem i12_55 : Ins M12 55 (.iload 5) 2 57 := ⟨by decide +kernel, rfl⟩
theorem i12_57 : Ins M12 57 (.iconst 3) 1 58 := ⟨by decide +kernel, rfl⟩
theorem i12_58 : Ins M12 58 (.iadd) 1 59 := ⟨by decide +kernel, rfl⟩
theorem i12_59 : Ins M12 59 (.iaload) 1 60 := ⟨by decide +kernel, rfl⟩
theorem i12_60 : Ins M12 60 (.iload 4) 2 62 := ⟨by decide +kernel, rfl⟩
theorem i12_62 : Ins M12 62 (.if_icmp .ne 8) 3 65 := ⟨by decide +kernel, rfl⟩
theorem i12_65 : Ins M12 65 (.iload 5) 2 67 := ⟨by decide +kernel, rfl⟩
theorem i12_67 : Ins M12 67 (.iconst 4) 1 68 := ⟨by decide +kernel, rfl⟩
theorem i12_68 : Ins M12 68 (.idiv) 1 69 := ⟨by decide +kernel, rfl⟩
theorem i12_69 : Ins M12 69 (.ireturn) 1 70 := ⟨by decide +kernel, rfl⟩
theorem i12_70 : Ins M12 70 (.iinc 5 4) 3 73 := ⟨by decide +kernel, rfl⟩
theorem i12_73 : Ins M12 73 (.goto (-70)) 3 76 := ⟨by decide +kernel, rfl⟩
theorem i12_76 : Ins M12 76 (.iconst (-1)) 1 77 := ⟨by decide +kernel, rfl⟩
theorem i12_77 : Ins M12 77 (.ireturn) 1 78 := ⟨by decide +kernel, rfl⟩
theorem pn12 : plainFor M12.1 = true := plainFor_of_name (by first | (simp [plainName, overriddenIn, M12, x]; done) | decide +kernel)
theorem pd12 : parseMethodDescriptor M12.1.desc = some ⟨[.int, .int, .int, .int], some (.int)⟩ := by decide +kernel
def M13 : GM := (⟨"com/example/meshwright/meshwright/grid/BlockListIndexOfPinLaw", "same", "([II[I)Z"⟩, method_4_code, 3, some (.boolean))
theorem i13_0 : Ins M13 0 (.aload_n 0) 1 1 := ⟨by decide +kernel, rfl⟩
theorem i13_1 : Ins M13 1 (.iload_n 1) 1 2 := ⟨by decide +kernel, rfl⟩
theorem i13_2 : Ins M13 2 (.iaload) 1 3 := ⟨by decide +kernel, rfl⟩
theorem i13_3 : Ins M13 3 (.aload_n 2) 1 4 := ⟨by decide +kernel, rfl⟩
theorem i13_4 : Ins M13 4 (.iconst 0) 1 5 := ⟨by decide +kernel, rfl⟩
theorem i13_5 : Ins M13 5 (.iaload) 1 6 := ⟨by decide +kernel, rfl⟩
theorem i13_6 : Ins M13 6 (.if_icmp .ne 40) 3 9 := ⟨by decide +kernel, rfl⟩
theorem i13_9 : Ins M13 9 (.aload_n 0) 1 10 := ⟨by decide +kernel, rfl⟩
theorem i13_10 : Ins M13 10 (.iload_n 1) 1 11 := ⟨by decide +kernel, rfl⟩
theorem i13_11 : Ins M13 11 (.iconst 1) 1 12 := ⟨by decide +kernel, rfl⟩
theorem i13_12 : Ins M13 12 (.iadd) 1 13 := ⟨by decide +kernel, rfl⟩
theorem i13_13 : Ins M13 13 (.iaload) 1 14 := ⟨by decide +kernel, rfl⟩
theorem i13_14 : Ins M13 14 (.aload_n 2) 1 15 := ⟨by decide +kernel, rfl⟩
theorem i13_15 : Ins M13 15 (.iconst 1) 1 16 := ⟨by decide +kernel, rfl⟩
theorem i13_16 : Ins M13 16 (.iaload) 1 17 := ⟨by decide +kernel, rfl⟩
theorem i13_17 : Ins M13 17 (.if_icmp .ne 29) 3 20 := ⟨by decide +kernel, rfl⟩
theorem i13_20 : Ins M13 20 (.aload_n 0) 1 21 := ⟨by decide +kernel, rfl⟩
theorem i13_21 : Ins M13 21 (.iload_n 1) 1 22 := ⟨by decide +kernel, rfl⟩
theorem i13_22 : Ins M13 22 (.iconst 2) 1 23 := ⟨by decide +kernel, rfl⟩
theorem i13_23 : Ins M13 23 (.iadd) 1 24 := ⟨by decide +kernel, rfl⟩
theorem i13_24 : Ins M13 24 (.iaload) 1 25 := ⟨by decide +kernel, rfl⟩
theorem i13_25 : Ins M13 25 (.aload_n 2) 1 26 := ⟨by decide +kernel, rfl⟩
theorem i13_26 : Ins M13 26 (.iconst 2) 1 27 := ⟨by decide +kernel, rfl⟩
theorem i13_27 : Ins M13 27 (.iaload) 1 28 := ⟨by decide +kernel, rfl⟩
theorem i13_28 : Ins M13 28 (.if_icmp .ne 18) 3 31 := ⟨by decide +kernel, rfl⟩
theorem i13_31 : Ins M13 31 (.aload_n 0) 1 32 := ⟨by decide +kernel, rfl⟩
theorem i13_32 : Ins M13 32 (.iload_n 1) 1 33 := ⟨by decide +kernel, rfl⟩
theorem i13_33 : Ins M13 33 (.iconst 3) 1 34 := ⟨by decide +kernel, rfl⟩
theorem i13_34 : Ins M13 34 (.iadd) 1 35 := ⟨by decide +kernel, rfl⟩
theorem i13_35 : Ins M13 35 (.iaload) 1 36 := ⟨by decide +kernel, rfl⟩
theorem i13_36 : Ins M13 36 (.aload_n 2) 1 37 := ⟨by decide +kernel, rfl⟩
theorem i13_37 : Ins M13 37 (.iconst 3) 1 38 := ⟨by decide +kernel, rfl⟩
theorem i13_38 : Ins M13 38 (.iaload) 1 39 := ⟨by decide +kernel, rfl⟩
theorem i13_39 : Ins M13 39 (.if_icmp .ne 7) 3 42 := ⟨by decide +kernel, rfl⟩
theorem i13_42 : Ins M13 42 (.iconst 1) 1 43 := ⟨by decide +kernel, rfl⟩
theorem i13_43 : Ins M13 43 (.goto 4) 3 46 := ⟨by decide +kernel, rfl⟩
theorem i13_46 : Ins M13 46 (.iconst 0) 1 47 := ⟨by decide +kernel, rfl⟩
theorem i13_47 : Ins M13 47 (.ireturn) 1 48 := ⟨by decide +kernel, rfl⟩
theorem pn13 : plainFor M13.1 = true := plainFor_of_name (by first | (simp [plainName, overriddenIn, M13, x]; done) | decide +kernel)
theorem pd13 : parseMethodDescriptor M13.1.desc = some ⟨[(.array .int), .int, (.array .int)], some (.boolean)⟩ := by decide +kernel
def KB : GLay := ("com/example/meshwright/meshwright/grid/BlockList", [("com/example/meshwright/meshwright/grid/BlockList", "corners", "[I", (.array .int)), ("com/example/meshwright/meshwright/grid/BlockList", "tags", "[J", (.array .long)), ("com/example/meshwright/meshwright/grid/BlockList", "size", "I", .int)])
theorem KB_ok {Z : State} {a0 : Array Value} (hw : ∀ d ∈ tables_1, d.before a0 Z = true) : LayOk Z a0 KB := by
  refine ⟨⟨3, (hw _ (List.mem_of_getElem? (i := 17) rfl))⟩, fun q hq => ?_, by decide +kernel⟩
  simp only [KB, List.mem_cons, List.not_mem_nil, or_false] at hq
  rcases hq with rfl | rfl | rfl
  · exact ⟨Or.inl (hw _ (List.mem_of_getElem? (i := 26) rfl)), by decide⟩
  · exact ⟨Or.inl (hw _ (List.mem_of_getElem? (i := 29) rfl)), by decide⟩
  · exact ⟨Or.inl (hw _ (List.mem_of_getElem? (i := 41) rfl)), by decide⟩
variable {Z : State} {a0 : Array Value} {n0 : Nat}
abbrev AnyI (H : List GObj) : Option Value → List GObj → Prop := fun v H' => (∃ r : Int32, v = some (.int r)) ∧ H' = H
theorem own_setget {H : List GObj} {k : Nat} {o o' : GObj} (h : H[k]? = some o) : (H.set k o')[k]? = some o' := by
  have := (List.getElem?_eq_some_iff.mp h).1
  simp [this]
theorem met1 (hw : ∀ d ∈ tables_1, d.before a0 Z = true) (x y : Int32) (H : List GObj) : Met Z a0 n0 M1 0 0 0 0 [.int x, .int y] H (AnyI H) := by
  refine MetW.intro [.val (.int x), .val (.int y)] pn1 rfl ?_
  refine go_iloadN i1_0 rfl ?_
  refine go_iloadN i1_1 rfl ?_
  refine go_icmp_gt 9 i1_2 (by decide) (fun h => ?_) (fun h => ?_)
  · refine go_iloadN i1_9 rfl ?_
    refine go_ireturn i1_10 rfl rfl (Or.inl rfl) (by first | decide | exact Nat.le_of_ble_eq_true rfl | (simp only [room_1]; omega)) (by first | decide | exact Nat.le_of_ble_eq_true rfl | (simp only [room_1]; omega)) ?_
    exact ⟨⟨_, rfl⟩, rfl⟩
  · refine go_iloadN i1_5 rfl ?_
    refine go_goto 10 i1_6 (by decide) ?_
    refine go_ireturn i1_10 rfl rfl (Or.inl rfl) (by first | decide | exact Nat.le_of_ble_eq_true rfl | (simp only [room_1]; omega)) (by first | decide | exact Nat.le_of_ble_eq_true rfl | (simp only [room_1]; omega)) ?_
    exact ⟨⟨_, rfl⟩, rfl⟩
theorem met2 (hw : ∀ d ∈ tables_1, d.before a0 Z = true) (x y : Int32) (H : List GObj) : Met Z a0 n0 M2 0 0 0 0 [.int x, .int y] H (AnyI H) := by
  refine MetW.intro [.val (.int x), .val (.int y)] pn2 rfl ?_
  refine go_iloadN i2_0 rfl ?_
  refine go_iloadN i2_1 rfl ?_
  refine go_icmp_lt 9 i2_2 (by decide) (fun h => ?_) (fun h => ?_)
  · refine go_iloadN i2_9 rfl ?_
    refine go_ireturn i2_10 rfl rfl (Or.inl rfl) (by first | decide | exact Nat.le_of_ble_eq_true rfl | (simp only [room_1]; omega)) (by first | decide | exact Nat.le_of_ble_eq_true rfl | (simp only [room_1]; omega)) ?_
    exact ⟨⟨_, rfl⟩, rfl⟩
  · refine go_iloadN i2_5 rfl ?_
    refine go_goto 10 i2_6 (by decide) ?_
    refine go_ireturn i2_10 rfl rfl (Or.inl rfl) (by first | decide | exact Nat.le_of_ble_eq_true rfl | (simp only [room_1]; omega)) (by first | decide | exact Nat.le_of_ble_eq_true rfl | (simp only [room_1]; omega)) ?_
    exact ⟨⟨_, rfl⟩, rfl⟩
theorem met4 (hw : ∀ d ∈ tables_1, d.before a0 Z = true) (s b x y : Int32) (H : List GObj) : Met Z a0 n0 M4 0 0 0 0 [.int s, .int b, .int x, .int y] H (AnyI H) := by
  refine MetW.intro [.val (.int s), .val (.int b), .val (.int x), .val (.int y)] pn4 rfl ?_
  refine go_iloadN i4_0 rfl ?_
  refine go_iloadN i4_1 rfl ?_
  refine go_iushr i4_2 ?_
  refine go_iconst (v := (1 : Int32)) i4_3 (by decide) ?_
  refine go_iand i4_4 ?_
  refine go_if_ne 12 i4_5 (by decide) (fun h => ?_) (fun h => ?_)
  · refine go_iloadN i4_12 rfl ?_
    refine go_ireturn i4_13 rfl rfl (Or.inl rfl) (by first | decide | exact Nat.le_of_ble_eq_true rfl | (simp only [room_1]; omega)) (by first | decide | exact Nat.le_of_ble_eq_true rfl | (simp only [room_1]; omega)) ?_
    exact ⟨⟨_, rfl⟩, rfl⟩
  · refine go_iloadN i4_8 rfl ?_
    refine go_goto 13 i4_9 (by decide) ?_
    refine go_ireturn i4_13 rfl rfl (Or.inl rfl) (by first | decide | exact Nat.le_of_ble_eq_true rfl | (simp only [room_1]; omega)) (by first | decide | exact Nat.le_of_ble_eq_true rfl | (simp only [room_1]; omega)) ?_
    exact ⟨⟨_, rfl⟩, rfl⟩
theorem own_at {p : Int32} {P : Nat} (hp : p.toInt = (P : Int)) (hP : P ≤ 100) (k : Int32) (K : Nat) (hk : k.toInt = (K : Int)) (hK : K ≤ 100) : (p + k).toInt = ((P + K : Nat) : Int) := by
  have h1 := c_iadd p k
  have h2 := rng32 (p + k)
  omega
abbrev own_4 (vs : List Value) (A : Nat) (x y z w : Int32) : List Value := (((vs.set A (.int x)).set (A + 1) (.int y)).set (A + 2) (.int z)).set (A + 3) (.int w)
theorem own_is (us : List Value) (j : Nat) (h : j < us.length) : (us[j]?).isSome = true := by simp [h]
theorem met3 (hw : ∀ d ∈ tables_1, d.before a0 Z = true) (k : Nat) (at' s b lo hi : Int32) (A : Nat) (hA : at'.toInt = (A : Int)) (hA' : A ≤ 8) (vs : List Value) (hl : A + 3 < vs.length) (H : List GObj) (hH : H[k]? = some (.inr (.int, vs))) : Met Z a0 n0 M3 1 40 0 0 [.ref (n0 + k), .int at', .int s, .int b, .int lo, .int hi] H
    (fun v H' => v = none ∧ ∃ x y z w : Int32, H' = H.set k (.inr (.int, own_4 vs A x y z w))) := by
  refine MetW.intro [.val (.ref (n0 + k)), .val (.int at'), .val (.int s), .val (.int b), .val (.int lo), .val (.int hi), .unset, .unset, .unset, .unset] pn3 rfl ?_
  refine go_iloadN i3_0 rfl ?_
  refine go_iloadN i3_1 rfl ?_
  refine go_iload i3_2 rfl ?_
  refine go_iload i3_4 rfl ?_
  refine go_static i3_6 (met4 hw _ _ _ _ H) (hw _ (List.mem_of_getElem? (i := 13) rfl)) (hw _ (List.mem_of_getElem? (i := 14) rfl)) (hw _ (List.mem_of_getElem? (i := 11) rfl)) (hw _ (List.mem_of_getElem? (i := 15) rfl)) rfl pd4 rfl rfl rfl (by first | decide | exact Nat.le_of_ble_eq_true rfl | (simp only [room_1]; omega)) (by first | decide | exact Nat.le_of_ble_eq_true rfl | (simp only [room_1]; omega)) (by first | decide | exact Nat.le_of_ble_eq_true rfl | (simp only [room_1]; omega)) (by first | decide | exact Nat.le_of_ble_eq_true rfl | (simp only [room_1]; omega)) ?_
  rintro _ _ ⟨⟨x1, rfl⟩, rfl⟩
  refine ⟨rfl, ?_⟩
  refine go_istore6 i3_9 (by first | exact One.u | exact One.val rfl) ?_
  refine go_iload i3_11 rfl ?_
  refine go_iloadN i3_13 rfl ?_
  refine go_iloadN i3_14 rfl ?_
  refine go_iconst (v := (1 : Int32)) i3_15 (by decide) ?_
  refine go_iadd i3_16 ?_
  refine go_iload i3_17 rfl ?_
  refine go_iload i3_19 rfl ?_
  refine go_static i3_21 (met4 hw _ _ _ _ _) (hw _ (List.mem_of_getElem? (i := 13) rfl)) (hw _ (List.mem_of_getElem? (i := 14) rfl)) (hw _ (List.mem_of_getElem? (i := 11) rfl)) (hw _ (List.mem_of_getElem? (i := 15) rfl)) rfl pd4 rfl rfl rfl (by first | decide | exact Nat.le_of_ble_eq_true rfl | (simp only [room_1]; omega)) (by first | decide | exact Nat.le_of_ble_eq_true rfl | (simp only [room_1]; omega)) (by first | decide | exact Nat.le_of_ble_eq_true rfl | (simp only [room_1]; omega)) (by first | decide | exact Nat.le_of_ble_eq_true rfl | (simp only [room_1]; omega)) ?_
  rintro _ _ ⟨⟨x2, rfl⟩, rfl⟩
  refine ⟨rfl, ?_⟩
  refine go_static i3_24 (met2 hw _ _ _) (hw _ (List.mem_of_getElem? (i := 5) rfl)) (hw _ (List.mem_of_getElem? (i := 6) rfl)) (hw _ (List.mem_of_getElem? (i := 3) rfl)) (hw _ (List.mem_of_getElem? (i := 7) rfl)) rfl pd2 rfl rfl rfl (by first | decide | exact Nat.le_of_ble_eq_true rfl | (simp only [room_1]; omega)) (by first | decide | exact Nat.le_of_ble_eq_true rfl | (simp only [room_1]; omega)) (by first | decide | exact Nat.le_of_ble_eq_true rfl | (simp only [room_1]; omega)) (by first | decide | exact Nat.le_of_ble_eq_true rfl | (simp only [room_1]; omega)) ?_
  rintro _ _ ⟨⟨x3, rfl⟩, rfl⟩
  refine ⟨rfl, ?_⟩
  refine go_istore7 i3_27 (by first | exact One.u | exact One.val rfl) ?_
  refine go_iloadN i3_29 rfl ?_
  refine go_iloadN i3_30 rfl ?_
  refine go_iconst (v := (2 : Int32)) i3_31 (by decide) ?_
  refine go_iadd i3_32 ?_
  refine go_iload i3_33 rfl ?_
  refine go_iload i3_35 rfl ?_
  refine go_static i3_37 (met4 hw _ _ _ _ _) (hw _ (List.mem_of_getElem? (i := 13) rfl)) (hw _ (List.mem_of_getElem? (i := 14) rfl)) (hw _ (List.mem_of_getElem? (i := 11) rfl)) (hw _ (List.mem_of_getElem? (i := 15) rfl)) rfl pd4 rfl rfl rfl (by first | decide | exact Nat.le_of_ble_eq_true rfl | (simp only [room_1]; omega)) (by first | decide | exact Nat.le_of_ble_eq_true rfl | (simp only [room_1]; omega)) (by first | decide | exact Nat.le_of_ble_eq_true rfl | (simp only [room_1]; omega)) (by first | decide | exact Nat.le_of_ble_eq_true rfl | (simp only [room_1]; omega)) ?_
  rintro _ _ ⟨⟨x4, rfl⟩, rfl⟩
  refine ⟨rfl, ?_⟩
  refine go_istore8 i3_40 (by first | exact One.u | exact One.val rfl) ?_
  refine go_iload i3_42 rfl ?_
  refine go_iloadN i3_44 rfl ?_
  refine go_iloadN i3_45 rfl ?_
  refine go_iconst (v := (3 : Int32)) i3_46 (by decide) ?_
  refine go_iadd i3_47 ?_
  refine go_iload i3_48 rfl ?_
  refine go_iload i3_50 rfl ?_
  refine go_static i3_52 (met4 hw _ _ _ _ _) (hw _ (List.mem_of_getElem? (i := 13) rfl)) (hw _ (List.mem_of_getElem? (i := 14) rfl)) (hw _ (List.mem_of_getElem? (i := 11) rfl)) (hw _ (List.mem_of_getElem? (i := 15) rfl)) rfl pd4 rfl rfl rfl (by first | decide | exact Nat.le_of_ble_eq_true rfl | (simp only [room_1]; omega)) (by first | decide | exact Nat.le_of_ble_eq_true rfl | (simp only [room_1]; omega)) (by first | decide | exact Nat.le_of_ble_eq_true rfl | (simp only [room_1]; omega)) (by first | decide | exact Nat.le_of_ble_eq_true rfl | (simp only [room_1]; omega)) ?_
  rintro _ _ ⟨⟨x5, rfl⟩, rfl⟩
  refine ⟨rfl, ?_⟩
  refine go_static i3_55 (met2 hw _ _ _) (hw _ (List.mem_of_getElem? (i := 5) rfl)) (hw _ (List.mem_of_getElem? (i := 6) rfl)) (hw _ (List.mem_of_getElem? (i := 3) rfl)) (hw _ (List.mem_of_getElem? (i := 7) rfl)) rfl pd2 rfl rfl rfl (by first | decide | exact Nat.le_of_ble_eq_true rfl | (simp only [room_1]; omega)) (by first | decide | exact Nat.le_of_ble_eq_true rfl | (simp only [room_1]; omega)) (by first | decide | exact Nat.le_of_ble_eq_true rfl | (simp only [room_1]; omega)) (by first | decide | exact Nat.le_of_ble_eq_true rfl | (simp only [room_1]; omega)) ?_
  rintro _ _ ⟨⟨x6, rfl⟩, rfl⟩
  refine ⟨rfl, ?_⟩
  refine go_istore9 i3_58 (by first | exact One.u | exact One.val rfl) ?_
  refine go_aloadN i3_60 rfl ?_
  refine go_iloadN i3_61 rfl ?_
  refine go_iload i3_62 rfl ?_
  refine go_iastore i3_64 hH hA (own_is _ _ (by omega)) ?_
  refine go_aloadN i3_65 rfl ?_
  refine go_iloadN i3_66 rfl ?_
  refine go_iconst (v := (1 : Int32)) i3_67 (by decide) ?_
  refine go_iadd i3_68 ?_
  refine go_iload i3_69 rfl ?_
  refine go_iastore i3_71 (own_setget hH) (own_at hA (by omega) 1 1 (by decide) (by decide)) (own_is _ _ (by simp; omega)) ?_
  rw [List.set_set]
  refine go_aloadN i3_72 rfl ?_
  refine go_iloadN i3_73 rfl ?_
  refine go_iconst (v := (2 : Int32)) i3_74 (by decide) ?_
  refine go_iadd i3_75 ?_
  refine go_iload i3_76 rfl ?_
  refine go_iastore i3_78 (own_setget hH) (own_at hA (by omega) 2 2 (by decide) (by decide)) (own_is _ _ (by simp; omega)) ?_
  rw [List.set_set]
  refine go_aloadN i3_79 rfl ?_
  refine go_iloadN i3_80 rfl ?_
  refine go_iconst (v := (3 : Int32)) i3_81 (by decide) ?_
  refine go_iadd i3_82 ?_
  refine go_iload i3_83 rfl ?_
  refine go_iastore i3_85 (own_setget hH) (own_at hA (by omega) 3 3 (by decide) (by decide)) (own_is _ _ (by simp; omega)) ?_
  rw [List.set_set]
  refine go_return i3_86 rfl (by first | decide | exact Nat.le_of_ble_eq_true rfl | (simp only [room_1]; omega)) (by first | decide | exact Nat.le_of_ble_eq_true rfl | (simp only [room_1]; omega)) ?_
  exact ⟨rfl, _, _, _, _, rfl⟩
abbrev own_H (n0 : Nat) (cs qs : List Value) (s : Int32) (vs ts : List Value) : List GObj := [.inr (.int, cs), .inr (.int, qs), .inl (KB, [.ref (n0 + 3), .ref (n0 + 4), .int s]), .inr (.int, vs), .inr (.long, ts)]
theorem met5 (hw : ∀ d ∈ tables_1, d.before a0 Z = true) (cs qs : List Value) : Met Z a0 n0 M5 1 12 2 40 [.ref (n0 + 2)] [.inr (.int, cs), .inr (.int, qs), .inl (KB, [.null, .null, .int 0])] (Eq0 (own_H n0 cs qs 0 (List.replicate 32 (.int 0)) (List.replicate 8 (.long 0)))) := by
  refine MetW.intro [.val (.ref (n0 + 2))] pn5 rfl ?_
  refine go_aloadN i5_0 rfl ?_
  refine go_initO i5_1 (hw _ (List.mem_of_getElem? (i := 22) rfl)) (hw _ (List.mem_of_getElem? (i := 23) rfl)) (hw _ (List.mem_of_getElem? (i := 24) rfl)) rfl (by decide) (by decide) ?_
  refine go_aloadN i5_4 rfl ?_
  refine go_bipush (v := (32 : Int32)) i5_5 (by decide) ?_
  refine go_newarray (k := 3) 32 i5_7 rfl (hw _ (List.mem_of_getElem? (i := 8) rfl)) (by decide) rfl (by decide) (by decide) rfl (by first | decide | exact Nat.le_of_ble_eq_true rfl | (simp only [room_1]; omega)) (by first | decide | exact Nat.le_of_ble_eq_true rfl | (simp only [room_1]; omega)) ?_
  refine go_putfield 0 i5_9 (hw _ (List.mem_of_getElem? (i := 25) rfl)) rfl rfl rfl (Or.inl (hw _ (List.mem_of_getElem? (i := 26) rfl))) rfl rfl ?_
  refine go_aloadN i5_12 rfl ?_
  refine go_bipush (v := (8 : Int32)) i5_13 (by decide) ?_
  refine go_newarray (k := 4) 8 i5_15 rfl (hw _ (List.mem_of_getElem? (i := 27) rfl)) (by decide) rfl (by decide) (by decide) rfl (by first | decide | exact Nat.le_of_ble_eq_true rfl | (simp only [room_1]; omega)) (by first | decide | exact Nat.le_of_ble_eq_true rfl | (simp only [room_1]; omega)) ?_
  refine go_putfield 1 i5_17 (hw _ (List.mem_of_getElem? (i := 28) rfl)) rfl rfl rfl (Or.inl (hw _ (List.mem_of_getElem? (i := 29) rfl))) rfl rfl ?_
  refine go_return i5_20 rfl (by first | decide | exact Nat.le_of_ble_eq_true rfl | (simp only [room_1]; omega)) (by first | decide | exact Nat.le_of_ble_eq_true rfl | (simp only [room_1]; omega)) ?_
  exact ⟨rfl, rfl⟩
theorem own_mul4 {s : Int32} {S : Nat} (hs : s.toInt = (S : Int)) (hS : S ≤ 4) : (4 * s).toInt = ((4 * S : Nat) : Int) := by
  have h1 := c_imul 4 s
  have h2 := rng32 (4 * s)
  have e : (4 : Int32).toInt = 4 := by decide
  rw [e] at h1
  omega
theorem met8 (hw : ∀ d ∈ tables_1, d.before a0 Z = true) (x y z w s : Int32) (S : Nat) (hs : s.toInt = (S : Int)) (hS : S ≤ 2) (cs qs vs ts : List Value) (hv : vs.length = 32) (ht : ts.length = 8) (t : Int64) : Met Z a0 n0 M8 0 0 0 0 [.ref (n0 + 2), .int x, .int y, .int z, .int w, .long t] (own_H n0 cs qs s vs ts) (Eq0 (own_H n0 cs qs (s + 1) (own_4 vs (4 * S) x y z w) (ts.set S (.long t)))) := by
  refine MetW.intro [.val (.ref (n0 + 2)), .val (.int x), .val (.int y), .val (.int z), .val (.int w), .val (.long t), .second, .unset] pn8 rfl ?_
  have hm := own_mul4 hs (by omega)
  refine go_aloadN i8_0 rfl ?_
  refine go_getfield 2 i8_1 (hw _ (List.mem_of_getElem? (i := 40) rfl)) rfl rfl rfl ?_
  refine go_aloadN i8_4 rfl ?_
  refine go_getfield 1 i8_5 (hw _ (List.mem_of_getElem? (i := 28) rfl)) rfl rfl rfl ?_
  refine go_arraylength i8_8 rfl (n := 8) (by rw [ht]; rfl) ?_
  have ne : ¬ s = 8 := by rintro rfl; revert hs; simp only [Int32.reduceToInt]; omega
  refine go_icmpT 48 i8_9 (by decide) ((hold_ne _ _).1.mpr ne) ?_
  refine go_aloadN i8_48 rfl ?_
  refine go_getfield 1 i8_49 (hw _ (List.mem_of_getElem? (i := 28) rfl)) rfl rfl rfl ?_
  refine go_aloadN i8_52 rfl ?_
  refine go_getfield 2 i8_53 (hw _ (List.mem_of_getElem? (i := 40) rfl)) rfl rfl rfl ?_
  refine go_lload i8_56 rfl ?_
  refine go_lastore i8_58 rfl hs (own_is _ _ (by omega)) ?_
  refine go_iconst (v := (4 : Int32)) i8_59 (by decide) ?_
  refine go_aloadN i8_60 rfl ?_
  refine go_getfield 2 i8_61 (hw _ (List.mem_of_getElem? (i := 40) rfl)) rfl rfl rfl ?_
  refine go_imul i8_64 ?_
  refine go_istore7 i8_65 (by first | exact One.u | exact One.val rfl) ?_
  refine go_aloadN i8_67 rfl ?_
  refine go_getfield 0 i8_68 (hw _ (List.mem_of_getElem? (i := 25) rfl)) rfl rfl rfl ?_
  refine go_iload i8_71 rfl ?_
  refine go_iloadN i8_73 rfl ?_
  refine go_iastore i8_74 rfl hm (own_is _ _ (by omega)) ?_
  refine go_aloadN i8_75 rfl ?_
  refine go_getfield 0 i8_76 (hw _ (List.mem_of_getElem? (i := 25) rfl)) rfl rfl rfl ?_
  refine go_iload i8_79 rfl ?_
  refine go_iconst (v := (1 : Int32)) i8_81 (by decide) ?_
  refine go_iadd i8_82 ?_
  refine go_iloadN i8_83 rfl ?_
  refine go_iastore i8_84 rfl (own_at hm (by omega) 1 1 (by decide) (by decide)) (own_is _ _ (by simp; omega)) ?_
  refine go_aloadN i8_85 rfl ?_
  refine go_getfield 0 i8_86 (hw _ (List.mem_of_getElem? (i := 25) rfl)) rfl rfl rfl ?_
  refine go_iload i8_89 rfl ?_
  refine go_iconst (v := (2 : Int32)) i8_91 (by decide) ?_
  refine go_iadd i8_92 ?_
  refine go_iloadN i8_93 rfl ?_
  refine go_iastore i8_94 rfl (own_at hm (by omega) 2 2 (by decide) (by decide)) (own_is _ _ (by simp; omega)) ?_
  refine go_aloadN i8_95 rfl ?_
  refine go_getfield 0 i8_96 (hw _ (List.mem_of_getElem? (i := 25) rfl)) rfl rfl rfl ?_
  refine go_iload i8_99 rfl ?_
  refine go_iconst (v := (3 : Int32)) i8_101 (by decide) ?_
  refine go_iadd i8_102 ?_
  refine go_iload i8_103 rfl ?_
  refine go_iastore i8_105 rfl (own_at hm (by omega) 3 3 (by decide) (by decide)) (own_is _ _ (by simp; omega)) ?_
  refine go_aloadN i8_106 rfl ?_
  refine go_dup i8_107 rfl ?_
  refine go_getfield 2 i8_108 (hw _ (List.mem_of_getElem? (i := 40) rfl)) rfl rfl rfl ?_
  refine go_iconst (v := (1 : Int32)) i8_111 (by decide) ?_
  refine go_iadd i8_112 ?_
  refine go_putfield 2 i8_113 (hw _ (List.mem_of_getElem? (i := 40) rfl)) rfl rfl rfl (Or.inl (hw _ (List.mem_of_getElem? (i := 41) rfl))) rfl rfl ?_
  refine go_return i8_116 rfl (by first | decide | exact Nat.le_of_ble_eq_true rfl | (simp only [room_1]; omega)) (by first | decide | exact Nat.le_of_ble_eq_true rfl | (simp only [room_1]; omega)) ?_
  exact ⟨rfl, rfl⟩
theorem met7 (hw : ∀ d ∈ tables_1, d.before a0 Z = true) (x y z w s : Int32) (S : Nat) (hs : s.toInt = (S : Int)) (hS : S ≤ 2) (cs qs vs ts : List Value) (hv : vs.length = 32) (ht : ts.length = 8) : Met Z a0 n0 M7 1 19 0 0 [.ref (n0 + 2), .int x, .int y, .int z, .int w] (own_H n0 cs qs s vs ts) (Eq0 (own_H n0 cs qs (s + 1) (own_4 vs (4 * S) x y z w) (ts.set S (.long 0)))) := by
  refine MetW.intro [.val (.ref (n0 + 2)), .val (.int x), .val (.int y), .val (.int z), .val (.int w)] pn7 rfl ?_
  refine go_aloadN i7_0 rfl ?_
  refine go_iloadN i7_1 rfl ?_
  refine go_iloadN i7_2 rfl ?_
  refine go_iloadN i7_3 rfl ?_
  refine go_iload i7_4 rfl ?_
  refine go_lconst (v := (0 : Int64)) i7_6 (by decide) ?_
  refine go_virtual i7_7 (met8 hw x y z w s S hs hS cs qs vs ts hv ht 0) rfl (hw _ (List.mem_of_getElem? (i := 35) rfl)) (hw _ (List.mem_of_getElem? (i := 36) rfl)) (hw _ (List.mem_of_getElem? (i := 38) rfl)) (hw _ (List.mem_of_getElem? (i := 37) rfl)) (hw _ (List.mem_of_getElem? (i := 18) rfl)) (hw _ (List.mem_of_getElem? (i := 39) rfl)) rfl pd8 rfl rfl rfl (by first | decide | exact Nat.le_of_ble_eq_true rfl | (simp only [room_1]; omega)) (by first | decide | exact Nat.le_of_ble_eq_true rfl | (simp only [room_1]; omega)) (by first | decide | exact Nat.le_of_ble_eq_true rfl | (simp only [room_1]; omega)) (by first | decide | exact Nat.le_of_ble_eq_true rfl | (simp only [room_1]; omega)) (retV rfl ?_)
  refine go_return i7_10 rfl (by first | decide | exact Nat.le_of_ble_eq_true rfl | (simp only [room_1]; omega)) (by first | decide | exact Nat.le_of_ble_eq_true rfl | (simp only [room_1]; omega)) ?_
  exact ⟨rfl, rfl⟩
theorem met11 (hw : ∀ d ∈ tables_1, d.before a0 Z = true) (i n : Int32) (h0 : ¬ i < 0) (h1 : i < n) (H : List GObj) : Met Z a0 n0 M11 0 0 0 0 [.int i, .int n, .null] H (Eq1 (.int i) H) := by
  refine MetW.intro [.val (.int i), .val (.int n), .val .null] pn11 rfl ?_
  refine go_iloadN i11_0 rfl ?_
  refine go_ifF i11_1 ((if0 _ _).trans ((hold_lt _ _).2.mpr h0)) ?_
  refine go_iloadN i11_4 rfl ?_
  refine go_iloadN i11_5 rfl ?_
  refine go_icmpT 16 i11_6 (by decide) ((hold_lt _ _).1.mpr h1) ?_
  refine go_iloadN i11_16 rfl ?_
  refine go_ireturn i11_17 rfl rfl (Or.inl rfl) (by first | decide | exact Nat.le_of_ble_eq_true rfl | (simp only [room_1]; omega)) (by first | decide | exact Nat.le_of_ble_eq_true rfl | (simp only [room_1]; omega)) ?_
  exact ⟨rfl, rfl⟩
theorem met10 (hw : ∀ d ∈ tables_1, d.before a0 Z = true) (i n : Int32) (h0 : ¬ i < 0) (h1 : i < n) (H : List GObj) : Met Z a0 n0 M10 1 14 0 0 [.int i, .int n] H (Eq1 (.int i) H) := by
  refine MetW.intro [.val (.int i), .val (.int n)] pn10 rfl ?_
  refine go_iloadN i10_0 rfl ?_
  refine go_iloadN i10_1 rfl ?_
  refine go_aconstNull i10_2 ?_
  refine go_static i10_3 (met11 hw i n h0 h1 H) (hw _ (List.mem_of_getElem? (i := 51) rfl)) (hw _ (List.mem_of_getElem? (i := 52) rfl)) (hw _ (List.mem_of_getElem? (i := 53) rfl)) (hw _ (List.mem_of_getElem? (i := 54) rfl)) rfl pd11 rfl rfl rfl (by first | decide | exact Nat.le_of_ble_eq_true rfl | (simp only [room_1]; omega)) (by first | decide | exact Nat.le_of_ble_eq_true rfl | (simp only [room_1]; omega)) (by first | decide | exact Nat.le_of_ble_eq_true rfl | (simp only [room_1]; omega)) (by first | decide | exact Nat.le_of_ble_eq_true rfl | (simp only [room_1]; omega)) (retE rfl ?_)
  refine go_ireturn i10_6 rfl rfl (Or.inl rfl) (by first | decide | exact Nat.le_of_ble_eq_true rfl | (simp only [room_1]; omega)) (by first | decide | exact Nat.le_of_ble_eq_true rfl | (simp only [room_1]; omega)) ?_
  exact ⟨rfl, rfl⟩
theorem met9 (hw : ∀ d ∈ tables_1, d.before a0 Z = true) (n : Int32) (h0 : ¬ n < 0) (h1 : n < 3 + 1) (cs qs vs ts : List Value) : Met Z a0 n0 M9 2 28 0 0 [.ref (n0 + 2), .int n] (own_H n0 cs qs 3 vs ts) (Eq0 (own_H n0 cs qs n vs ts)) := by
  refine MetW.intro [.val (.ref (n0 + 2)), .val (.int n)] pn9 rfl ?_
  refine go_aloadN i9_0 rfl ?_
  refine go_iloadN i9_1 rfl ?_
  refine go_aloadN i9_2 rfl ?_
  refine go_getfield 2 i9_3 (hw _ (List.mem_of_getElem? (i := 40) rfl)) rfl rfl rfl ?_
  refine go_iconst (v := (1 : Int32)) i9_6 (by decide) ?_
  refine go_iadd i9_7 ?_
  refine go_static i9_8 (met10 hw n (3 + 1) h0 h1 _) (hw _ (List.mem_of_getElem? (i := 47) rfl)) (hw _ (List.mem_of_getElem? (i := 48) rfl)) (hw _ (List.mem_of_getElem? (i := 49) rfl)) (hw _ (List.mem_of_getElem? (i := 50) rfl)) rfl pd10 rfl rfl rfl (by first | decide | exact Nat.le_of_ble_eq_true rfl | (simp only [room_1]; omega)) (by first | decide | exact Nat.le_of_ble_eq_true rfl | (simp only [room_1]; omega)) (by first | decide | exact Nat.le_of_ble_eq_true rfl | (simp only [room_1]; omega)) (by first | decide | exact Nat.le_of_ble_eq_true rfl | (simp only [room_1]; omega)) (retE rfl ?_)
  refine go_putfield 2 i9_11 (hw _ (List.mem_of_getElem? (i := 40) rfl)) rfl rfl rfl (Or.inl (hw _ (List.mem_of_getElem? (i := 41) rfl))) rfl rfl ?_
  refine go_return i9_14 rfl (by first | decide | exact Nat.le_of_ble_eq_true rfl | (simp only [room_1]; omega)) (by first | decide | exact Nat.le_of_ble_eq_true rfl | (simp only [room_1]; omega)) ?_
  exact ⟨rfl, rfl⟩
abbrev own_m (a b c d q0 q1 q2 q3 : Int32) : Prop := a = q0 ∧ b = q1 ∧ c = q2 ∧ d = q3
abbrev own_R : Room := { frames := 0, cells := 0, slots := 0, locals := 0 }
theorem it12 (hw : ∀ d ∈ tables_1, d.before a0 Z = true) (Q : Option Value → List GObj → Prop) (cs qs vs ts : List Value) (i n a b c d q0 q1 q2 q3 : Int32) (J N : Nat) (hi : i.toInt = ((4 * J : Nat) : Int)) (hJ : J ≤ 3) (hn : n.toInt = (N : Int)) (hN : N ≤ 3) (e0 : vs[4 * J]? = some (.int a)) (e1 : vs[4 * J + 1]? = some (.int b)) (e2 : vs[4 * J + 2]? = some (.int c)) (e3 : vs[4 * J + 3]? = some (.int d))
    (h1 : ¬ J < N → Q (some (.int (-1))) (own_H n0 cs qs n vs ts)) (h2 : J < N → own_m a b c d q0 q1 q2 q3 → Q (some (.int (i / 4))) (own_H n0 cs qs n vs ts))
    (h3 : J < N → ¬ own_m a b c d q0 q1 q2 q3 → Go Z a0 n0 M12 own_R Q 3 [.val (.ref (n0 + 2)), .val (.int q0), .val (.int q1), .val (.int q2), .val (.int q3), .val (.int (i + Int32.ofInt 4))] [] (own_H n0 cs qs n vs ts) 0 0) :
    Go Z a0 n0 M12 own_R Q 3 [.val (.ref (n0 + 2)), .val (.int q0), .val (.int q1), .val (.int q2), .val (.int q3), .val (.int i)] [] (own_H n0 cs qs n vs ts) 0 0 := by
  have hm := own_mul4 hn (by omega)
  refine go_iload i12_3 rfl ?_
  refine go_iconst (v := (4 : Int32)) i12_5 (by decide) ?_
  refine go_aloadN i12_6 rfl ?_
  refine go_getfield 2 i12_7 (hw _ (List.mem_of_getElem? (i := 40) rfl)) rfl rfl rfl ?_
  refine go_imul i12_10 ?_
  refine go_icmp_ge 76 i12_11 (by decide) (fun g1 => ?_) (fun g1 => ?_)
  · rw [Int32.lt_iff_toInt_lt] at g1
    refine go_iconst (v := (-1 : Int32)) i12_76 (by decide) ?_
    refine go_ireturn i12_77 rfl rfl (Or.inl rfl) (by first | decide | exact Nat.le_of_ble_eq_true rfl | (simp only [room_1]; omega)) (by first | decide | exact Nat.le_of_ble_eq_true rfl | (simp only [room_1]; omega)) ?_
    exact h1 (by omega)
  rw [Int32.lt_iff_toInt_lt] at g1
  have hlt : J < N := by omega
  have nxt : ¬ own_m a b c d q0 q1 q2 q3 → Go Z a0 n0 M12 own_R Q 70 [.val (.ref (n0 + 2)), .val (.int q0), .val (.int q1), .val (.int q2), .val (.int q3), .val (.int i)] [] (own_H n0 cs qs n vs ts) 0 0 := by
    intro hq
    refine go_iinc5  i12_70 rfl ?_
    refine go_goto 3 i12_73 (by decide) ?_
    exact h3 hlt hq
  refine go_aloadN i12_14 rfl ?_
  refine go_getfield 0 i12_15 (hw _ (List.mem_of_getElem? (i := 25) rfl)) rfl rfl rfl ?_
  refine go_iload i12_18 rfl ?_
  refine go_iaload i12_20 rfl hi e0 ?_
  refine go_iloadN i12_21 rfl ?_
  refine go_icmp_ne 70 i12_22 (by decide) (fun g2 => ?_) (fun g2 => ?_)
  · exact nxt (fun q => g2 q.1)
  refine go_aloadN i12_25 rfl ?_
  refine go_getfield 0 i12_26 (hw _ (List.mem_of_getElem? (i := 25) rfl)) rfl rfl rfl ?_
  refine go_iload i12_29 rfl ?_
  refine go_iconst (v := (1 : Int32)) i12_31 (by decide) ?_
  refine go_iadd i12_32 ?_
  refine go_iaload i12_33 rfl (own_at hi (by omega) 1 1 (by decide) (by decide)) e1 ?_
  refine go_iloadN i12_34 rfl ?_
  refine go_icmp_ne 70 i12_35 (by decide) (fun g3 => ?_) (fun g3 => ?_)
  · exact nxt (fun q => g3 q.2.1)
  refine go_aloadN i12_38 rfl ?_
  refine go_getfield 0 i12_39 (hw _ (List.mem_of_getElem? (i := 25) rfl)) rfl rfl rfl ?_
  refine go_iload i12_42 rfl ?_
  refine go_iconst (v := (2 : Int32)) i12_44 (by decide) ?_
  refine go_iadd i12_45 ?_
  refine go_iaload i12_46 rfl (own_at hi (by omega) 2 2 (by decide) (by decide)) e2 ?_
  refine go_iloadN i12_47 rfl ?_
  refine go_icmp_ne 70 i12_48 (by decide) (fun g4 => ?_) (fun g4 => ?_)
  · exact nxt (fun q => g4 q.2.2.1)
  refine go_aloadN i12_51 rfl ?_
  refine go_getfield 0 i12_52 (hw _ (List.mem_of_getElem? (i := 25) rfl)) rfl rfl rfl ?_
  refine go_iload i12_55 rfl ?_
  refine go_iconst (v := (3 : Int32)) i12_57 (by decide) ?_
  refine go_iadd i12_58 ?_
  refine go_iaload i12_59 rfl (own_at hi (by omega) 3 3 (by decide) (by decide)) e3 ?_
  refine go_iload i12_60 rfl ?_
  refine go_icmp_ne 70 i12_62 (by decide) (fun g5 => ?_) (fun g5 => ?_)
  · exact nxt (fun q => g5 q.2.2.2)
  · refine go_iload i12_65 rfl ?_
    refine go_iconst (v := (4 : Int32)) i12_67 (by decide) ?_
    refine go_idiv i12_68 (by decide) ?_
    refine go_ireturn i12_69 rfl rfl (Or.inl rfl) (by first | decide | exact Nat.le_of_ble_eq_true rfl | (simp only [room_1]; omega)) (by first | decide | exact Nat.le_of_ble_eq_true rfl | (simp only [room_1]; omega)) ?_
    exact h2 hlt ⟨g2, g3, g4, g5⟩
def own_ix (N : Nat) (p0 p1 p2 : Prop) [Decidable p0] [Decidable p1] [Decidable p2] : Int32 := if 0 < N ∧ p0 then 0 else if 1 < N ∧ p1 then 1 else if 2 < N ∧ p2 then 2 else -1
theorem met12 (hw : ∀ d ∈ tables_1, d.before a0 Z = true) (cs qs ws ts : List Value) (n c0 c1 c2 c3 c4 c5 c6 c7 c8 c9 c10 c11 q0 q1 q2 q3 z0 z1 z2 z3 : Int32) (N : Nat) (hn : n.toInt = (N : Int)) (hN : N ≤ 3) : Met Z a0 n0 M12 0 0 0 0 [.ref (n0 + 2), .int q0, .int q1, .int q2, .int q3]
    (own_H n0 cs qs n (.int c0 :: .int c1 :: .int c2 :: .int c3 :: .int c4 :: .int c5 :: .int c6 :: .int c7 :: .int c8 :: .int c9 :: .int c10 :: .int c11 :: .int z0 :: .int z1 :: .int z2 :: .int z3 :: ws) ts)
    (Eq1 (.int (own_ix N (own_m c0 c1 c2 c3 q0 q1 q2 q3) (own_m c4 c5 c6 c7 q0 q1 q2 q3) (own_m c8 c9 c10 c11 q0 q1 q2 q3))) (own_H n0 cs qs n (.int c0 :: .int c1 :: .int c2 :: .int c3 :: .int c4 :: .int c5 :: .int c6 :: .int c7 :: .int c8 :: .int c9 :: .int c10 :: .int c11 :: .int z0 :: .int z1 :: .int z2 :: .int z3 :: ws) ts)) := by
  refine MetW.intro [.val (.ref (n0 + 2)), .val (.int q0), .val (.int q1), .val (.int q2), .val (.int q3), .unset] pn12 rfl ?_
  refine go_iconst (v := (0 : Int32)) i12_0 (by decide) ?_
  refine go_istore5 i12_1 (by first | exact One.u | exact One.val rfl) ?_
  refine it12 hw _ cs qs _ ts 0 n c0 c1 c2 c3 q0 q1 q2 q3 0 N (by decide) (by decide) hn hN rfl rfl rfl rfl (fun h => ⟨?_, rfl⟩) (fun h h' => ⟨?_, rfl⟩) (fun h h' => ?_)
  · rw [own_ix, if_neg (by omega), if_neg (by omega), if_neg (by omega)]
  · rw [own_ix, if_pos ⟨h, h'⟩]; decide
  have k0 : ¬ (0 < N ∧ own_m c0 c1 c2 c3 q0 q1 q2 q3) := fun q => h' q.2
  refine it12 hw _ cs qs _ ts _ n c4 c5 c6 c7 q0 q1 q2 q3 1 N (by decide) (by decide) hn hN rfl rfl rfl rfl (fun h => ⟨?_, rfl⟩) (fun h h' => ⟨?_, rfl⟩) (fun h h' => ?_)
  · rw [own_ix, if_neg k0, if_neg (by omega), if_neg (by omega)]
  · rw [own_ix, if_neg k0, if_pos ⟨h, h'⟩]; decide
  have k1 : ¬ (1 < N ∧ own_m c4 c5 c6 c7 q0 q1 q2 q3) := fun q => h' q.2
  refine it12 hw _ cs qs _ ts _ n c8 c9 c10 c11 q0 q1 q2 q3 2 N (by decide) (by decide) hn hN rfl rfl rfl rfl (fun h => ⟨?_, rfl⟩) (fun h h' => ⟨?_, rfl⟩) (fun h h' => ?_)
  · rw [own_ix, if_neg k0, if_neg k1, if_neg (by omega)]
  · rw [own_ix, if_neg k0, if_neg k1, if_pos ⟨h, h'⟩]; decide
  have k2 : ¬ (2 < N ∧ own_m c8 c9 c10 c11 q0 q1 q2 q3) := fun q => h' q.2
  refine it12 hw _ cs qs _ ts _ n z0 z1 z2 z3 q0 q1 q2 q3 3 N (by decide) (by decide) hn hN rfl rfl rfl rfl (fun h => ⟨?_, rfl⟩) (fun h h' => absurd h (by omega)) (fun h h' => absurd h (by omega))
  rw [own_ix, if_neg k0, if_neg k1, if_neg k2]
theorem met13 (hw : ∀ d ∈ tables_1, d.before a0 Z = true) (H : List GObj) (cs : List Value) (at' a b c d q0 q1 q2 q3 : Int32) (A : Nat) (hA : at'.toInt = (A : Int)) (hA' : A ≤ 8) (hc : H[0]? = some (.inr (.int, cs))) (hq : H[1]? = some (.inr (.int, [.int q0, .int q1, .int q2, .int q3]))) (e0 : cs[A]? = some (.int a)) (e1 : cs[A + 1]? = some (.int b)) (e2 : cs[A + 2]? = some (.int c)) (e3 : cs[A + 3]? = some (.int d)) :
    Met Z a0 n0 M13 0 0 0 0 [.ref (n0 + 0), .int at', .ref (n0 + 1)] H (Eq1 (.int (if own_m a b c d q0 q1 q2 q3 then 1 else 0)) H) := by
  refine MetW.intro [.val (.ref (n0 + 0)), .val (.int at'), .val (.ref (n0 + 1))] pn13 rfl ?_
  have no : ¬ own_m a b c d q0 q1 q2 q3 → Go Z a0 n0 M13 own_R (Eq1 (.int (if own_m a b c d q0 q1 q2 q3 then 1 else 0)) H) 46 [.val (.ref (n0 + 0)), .val (.int at'), .val (.ref (n0 + 1))] [] H 0 0 := by
    intro hq
    refine go_iconst (v := (0 : Int32)) i13_46 (by decide) ?_
    refine go_ireturn i13_47 rfl rfl (Or.inr (Or.inl rfl)) (by first | decide | exact Nat.le_of_ble_eq_true rfl | (simp only [room_1]; omega)) (by first | decide | exact Nat.le_of_ble_eq_true rfl | (simp only [room_1]; omega)) ?_
    exact ⟨by rw [if_neg hq], rfl⟩
  refine go_aloadN i13_0 rfl ?_
  refine go_iloadN i13_1 rfl ?_
  refine go_iaload i13_2 hc hA e0 ?_
  refine go_aloadN i13_3 rfl ?_
  refine go_iconst (v := (0 : Int32)) i13_4 (by decide) ?_
  refine go_iaload i13_5 hq (i := 0) (by decide) rfl ?_
  refine go_icmp_ne 46 i13_6 (by decide) (fun g1 => ?_) (fun g1 => ?_)
  · exact no (fun q => g1 q.1)
  refine go_aloadN i13_9 rfl ?_
  refine go_iloadN i13_10 rfl ?_
  refine go_iconst (v := (1 : Int32)) i13_11 (by decide) ?_
  refine go_iadd i13_12 ?_
  refine go_iaload i13_13 hc (own_at hA (by omega) 1 1 (by decide) (by decide)) e1 ?_
  refine go_aloadN i13_14 rfl ?_
  refine go_iconst (v := (1 : Int32)) i13_15 (by decide) ?_
  refine go_iaload i13_16 hq (i := 1) (by decide) rfl ?_
  refine go_icmp_ne 46 i13_17 (by decide) (fun g2 => ?_) (fun g2 => ?_)
  · exact no (fun q => g2 q.2.1)
  refine go_aloadN i13_20 rfl ?_
  refine go_iloadN i13_21 rfl ?_
  refine go_iconst (v := (2 : Int32)) i13_22 (by decide) ?_
  refine go_iadd i13_23 ?_
  refine go_iaload i13_24 hc (own_at hA (by omega) 2 2 (by decide) (by decide)) e2 ?_
  refine go_aloadN i13_25 rfl ?_
  refine go_iconst (v := (2 : Int32)) i13_26 (by decide) ?_
  refine go_iaload i13_27 hq (i := 2) (by decide) rfl ?_
  refine go_icmp_ne 46 i13_28 (by decide) (fun g3 => ?_) (fun g3 => ?_)
  · exact no (fun q => g3 q.2.2.1)
  refine go_aloadN i13_31 rfl ?_
  refine go_iloadN i13_32 rfl ?_
  refine go_iconst (v := (3 : Int32)) i13_33 (by decide) ?_
  refine go_iadd i13_34 ?_
  refine go_iaload i13_35 hc (own_at hA (by omega) 3 3 (by decide) (by decide)) e3 ?_
  refine go_aloadN i13_36 rfl ?_
  refine go_iconst (v := (3 : Int32)) i13_37 (by decide) ?_
  refine go_iaload i13_38 hq (i := 3) (by decide) rfl ?_
  refine go_icmp_ne 46 i13_39 (by decide) (fun g4 => ?_) (fun g4 => ?_)
  · exact no (fun q => g4 q.2.2.2)
  · refine go_iconst (v := (1 : Int32)) i13_42 (by decide) ?_
    refine go_goto 47 i13_43 (by decide) ?_
    refine go_ireturn i13_47 rfl rfl (Or.inr (Or.inl rfl)) (by first | decide | exact Nat.le_of_ble_eq_true rfl | (simp only [room_1]; omega)) (by first | decide | exact Nat.le_of_ble_eq_true rfl | (simp only [room_1]; omega)) ?_
    exact ⟨by rw [if_pos ⟨g1, g2, g3, g4⟩], rfl⟩
section Ends
variable (c0 c1 c2 c3 c4 c5 c6 c7 c8 c9 c10 c11 q0 q1 q2 q3 n got : Int32) (N ce sl : Nat) (s0 s1 s2 s3 s4 s5 s6 s7 s11 s13 : Slot) (o2 o3 o4 : GObj)
abbrev own_P : Option Value → List GObj → Prop := fun v _ => v = some (.int 1)
abbrev own_cs : List Value := [.int c0, .int c1, .int c2, .int c3, .int c4, .int c5, .int c6, .int c7, .int c8, .int c9, .int c10, .int c11]
theorem g280 (hw : ∀ d ∈ tables_1, d.before a0 Z = true) (s8 s9 s10 : Slot) (r : Int32) (H : List GObj) (hce : ce ≤ 24) (hsl : sl ≤ 192) (hr : got = r) : Go Z a0 n0 M0 room_1 own_P 280 [s0, s1, s2, s3, s4, s5, s6, s7, s8, s9, s10, s11, .val (.int got), .val (.int r)] [] H ce sl := by
  subst hr
  refine go_iload i0_280 rfl ?_
  refine go_iload i0_282 rfl ?_
  refine go_icmpF i0_284 (by simp [if_icmp.holds]) ?_
  refine go_iconst (v := (1 : Int32)) i0_287 (by decide) ?_
  refine go_goto 292 i0_288 (by decide) ?_
  refine go_ireturn i0_292 rfl rfl (Or.inr (Or.inl rfl)) (by first | decide | exact Nat.le_of_ble_eq_true rfl | (simp only [room_1]; omega)) (by first | decide | exact Nat.le_of_ble_eq_true rfl | (simp only [room_1]; omega)) ?_
  rfl
theorem own_pos {n : Int32} {N : Nat} (hn : n.toInt = (N : Int)) (j : Int32) (J : Nat) (hj : j.toInt = (J : Int)) : j < n ↔ J < N := by rw [Int32.lt_iff_toInt_lt]; omega
theorem g253 (hw : ∀ d ∈ tables_1, d.before a0 Z = true) (hce : ce ≤ 24) (hsl : sl ≤ 192) (hs : One s13) (hn : n.toInt = (N : Int)) (hg : got = own_ix N (own_m c0 c1 c2 c3 q0 q1 q2 q3) (own_m c4 c5 c6 c7 q0 q1 q2 q3) (own_m c8 c9 c10 c11 q0 q1 q2 q3))
    (k0 : ¬ (0 < N ∧ own_m c0 c1 c2 c3 q0 q1 q2 q3)) (k1 : ¬ (1 < N ∧ own_m c4 c5 c6 c7 q0 q1 q2 q3)) :
    Go Z a0 n0 M0 room_1 own_P 253 [s0, s1, s2, s3, s4, s5, s6, s7, .val (.int n), .val (.ref (n0 + 0)), .val (.ref (n0 + 1)), s11, .val (.int got), s13] [] [.inr (.int, own_cs c0 c1 c2 c3 c4 c5 c6 c7 c8 c9 c10 c11), .inr (.int, [.int q0, .int q1, .int q2, .int q3]), o2, o3, o4] ce sl := by
  have hpos := own_pos hn
  refine go_iload i0_253 rfl ?_
  refine go_iconst (v := (2 : Int32)) i0_255 (by decide) ?_
  refine go_icmp_le 277 i0_256 (by decide) (fun h5 => ?_) (fun h5 => ?_)
  · refine go_iconst (v := (-1 : Int32)) i0_277 (by decide) ?_
    refine go_istore13 i0_278 hs ?_
    exact g280 _ _ _ _ _ _ _ _ _ _ _ _ hw _ _ _ _ _ hce hsl (by rw [hg, own_ix, if_neg k0, if_neg k1, if_neg (fun q => h5 ((hpos 2 2 (by decide)).mpr q.1))])
  · refine go_aload i0_259 rfl ?_
    refine go_bipush (v := (8 : Int32)) i0_261 (by decide) ?_
    refine go_aload i0_263 rfl ?_
    refine go_static i0_265 (met13 hw _ _ 8 c8 c9 c10 c11 q0 q1 q2 q3 8 (by decide) (by decide) rfl rfl rfl rfl rfl rfl) (hw _ (List.mem_of_getElem? (i := 60) rfl)) (hw _ (List.mem_of_getElem? (i := 61) rfl)) (hw _ (List.mem_of_getElem? (i := 11) rfl)) (hw _ (List.mem_of_getElem? (i := 62) rfl)) rfl pd13 rfl rfl rfl (by first | decide | exact Nat.le_of_ble_eq_true rfl | (simp only [room_1]; omega)) (by first | decide | exact Nat.le_of_ble_eq_true rfl | (simp only [room_1]; omega)) (by first | decide | exact Nat.le_of_ble_eq_true rfl | (simp only [room_1]; omega)) (by first | decide | exact Nat.le_of_ble_eq_true rfl | (simp only [room_1]; omega)) (retE rfl ?_)
    by_cases hq : own_m c8 c9 c10 c11 q0 q1 q2 q3
    · rw [if_pos hq]
      refine go_ifF i0_268 (by decide) ?_
      refine go_iconst (v := (2 : Int32)) i0_271 (by decide) ?_
      refine go_istore13 i0_272 hs ?_
      refine go_goto 280 i0_274 (by decide) ?_
      exact g280 _ _ _ _ _ _ _ _ _ _ _ _ hw _ _ _ _ _ hce hsl (by rw [hg, own_ix, if_neg k0, if_neg k1, if_pos ⟨(hpos 2 2 (by decide)).mp h5, hq⟩])
    · rw [if_neg hq]
      refine go_ifT 277 i0_268 (by decide) (by decide) ?_
      refine go_iconst (v := (-1 : Int32)) i0_277 (by decide) ?_
      refine go_istore13 i0_278 hs ?_
      exact g280 _ _ _ _ _ _ _ _ _ _ _ _ hw _ _ _ _ _ hce hsl (by rw [hg, own_ix, if_neg k0, if_neg k1, if_neg (fun q => hq q.2)])
theorem g230 (hw : ∀ d ∈ tables_1, d.before a0 Z = true) (hce : ce ≤ 24) (hsl : sl ≤ 192) (hs : One s13) (hn : n.toInt = (N : Int)) (hg : got = own_ix N (own_m c0 c1 c2 c3 q0 q1 q2 q3) (own_m c4 c5 c6 c7 q0 q1 q2 q3) (own_m c8 c9 c10 c11 q0 q1 q2 q3))
    (k0 : ¬ (0 < N ∧ own_m c0 c1 c2 c3 q0 q1 q2 q3)) :
    Go Z a0 n0 M0 room_1 own_P 230 [s0, s1, s2, s3, s4, s5, s6, s7, .val (.int n), .val (.ref (n0 + 0)), .val (.ref (n0 + 1)), s11, .val (.int got), s13] [] [.inr (.int, own_cs c0 c1 c2 c3 c4 c5 c6 c7 c8 c9 c10 c11), .inr (.int, [.int q0, .int q1, .int q2, .int q3]), o2, o3, o4] ce sl := by
  have hpos := own_pos hn
  refine go_iload i0_230 rfl ?_
  refine go_iconst (v := (1 : Int32)) i0_232 (by decide) ?_
  refine go_icmp_le 253 i0_233 (by decide) (fun h3 => ?_) (fun h3 => ?_)
  · exact g253 _ _ _ _ _ _ _ _ _ _ _ _ _ _ _ _ _ _ _ _ _ _ _ _ _ _ _ _ _ _ _ _ _ _ hw hce hsl hs hn hg k0 (fun q => h3 ((hpos 1 1 (by decide)).mpr q.1))
  · refine go_aload i0_236 rfl ?_
    refine go_iconst (v := (4 : Int32)) i0_238 (by decide) ?_
    refine go_aload i0_239 rfl ?_
    refine go_static i0_241 (met13 hw _ _ 4 c4 c5 c6 c7 q0 q1 q2 q3 4 (by decide) (by decide) rfl rfl rfl rfl rfl rfl) (hw _ (List.mem_of_getElem? (i := 60) rfl)) (hw _ (List.mem_of_getElem? (i := 61) rfl)) (hw _ (List.mem_of_getElem? (i := 11) rfl)) (hw _ (List.mem_of_getElem? (i := 62) rfl)) rfl pd13 rfl rfl rfl (by first | decide | exact Nat.le_of_ble_eq_true rfl | (simp only [room_1]; omega)) (by first | decide | exact Nat.le_of_ble_eq_true rfl | (simp only [room_1]; omega)) (by first | decide | exact Nat.le_of_ble_eq_true rfl | (simp only [room_1]; omega)) (by first | decide | exact Nat.le_of_ble_eq_true rfl | (simp only [room_1]; omega)) (retE rfl ?_)
    by_cases hq : own_m c4 c5 c6 c7 q0 q1 q2 q3
    · rw [if_pos hq]
      refine go_ifF i0_244 (by decide) ?_
      refine go_iconst (v := (1 : Int32)) i0_247 (by decide) ?_
      refine go_istore13 i0_248 hs ?_
      refine go_goto 280 i0_250 (by decide) ?_
      exact g280 _ _ _ _ _ _ _ _ _ _ _ _ hw _ _ _ _ _ hce hsl (by rw [hg, own_ix, if_neg k0, if_pos ⟨(hpos 1 1 (by decide)).mp h3, hq⟩])
    · rw [if_neg hq]
      refine go_ifT 253 i0_244 (by decide) (by decide) ?_
      exact g253 _ _ _ _ _ _ _ _ _ _ _ _ _ _ _ _ _ _ _ _ _ _ _ _ _ _ _ _ _ _ _ _ _ _ hw hce hsl hs hn hg k0 (fun q => hq q.2)
end Ends
theorem law_met (Z : State) (a0 : Array Value) (n0 : Nat) (hw : ∀ d ∈ tables_1, d.before a0 Z = true) (a b sel k : Int32) : MetW Z a0 n0 M0 tables_1 room_1 [.int a, .int b, .int sel, .int k] [] (fun v _ => v = some (.int 1)) := by
  refine MetW.intro [.val (.int a), .val (.int b), .val (.int sel), .val (.int k), .unset, .unset, .unset, .unset, .unset, .unset, .unset, .unset, .unset, .unset] pn0 rfl ?_
  refine go_iloadN i0_0 rfl ?_
  refine go_ldc i0_1 (hw _ (List.mem_of_getElem? (i := 0) rfl)) ?_
  refine go_iand i0_3 ?_
  refine go_istore4 i0_4 (by first | exact One.u | exact One.val rfl) ?_
  refine go_iloadN i0_6 rfl ?_
  refine go_ldc i0_7 (hw _ (List.mem_of_getElem? (i := 0) rfl)) ?_
  refine go_iand i0_9 ?_
  refine go_istore5 i0_10 (by first | exact One.u | exact One.val rfl) ?_
  refine go_iload i0_12 rfl ?_
  refine go_iload i0_14 rfl ?_
  refine go_static i0_16 (met1 hw _ _ _) (hw _ (List.mem_of_getElem? (i := 1) rfl)) (hw _ (List.mem_of_getElem? (i := 2) rfl)) (hw _ (List.mem_of_getElem? (i := 3) rfl)) (hw _ (List.mem_of_getElem? (i := 4) rfl)) rfl pd1 rfl rfl rfl (by first | decide | exact Nat.le_of_ble_eq_true rfl | (simp only [room_1]; omega)) (by first | decide | exact Nat.le_of_ble_eq_true rfl | (simp only [room_1]; omega)) (by first | decide | exact Nat.le_of_ble_eq_true rfl | (simp only [room_1]; omega)) (by first | decide | exact Nat.le_of_ble_eq_true rfl | (simp only [room_1]; omega)) ?_
  rintro _ _ ⟨⟨lo, rfl⟩, rfl⟩
  refine ⟨rfl, ?_⟩
  refine go_istore6 i0_19 (by first | exact One.u | exact One.val rfl) ?_
  refine go_iload i0_21 rfl ?_
  refine go_iload i0_23 rfl ?_
  refine go_static i0_25 (met2 hw _ _ _) (hw _ (List.mem_of_getElem? (i := 5) rfl)) (hw _ (List.mem_of_getElem? (i := 6) rfl)) (hw _ (List.mem_of_getElem? (i := 3) rfl)) (hw _ (List.mem_of_getElem? (i := 7) rfl)) rfl pd2 rfl rfl rfl (by first | decide | exact Nat.le_of_ble_eq_true rfl | (simp only [room_1]; omega)) (by first | decide | exact Nat.le_of_ble_eq_true rfl | (simp only [room_1]; omega)) (by first | decide | exact Nat.le_of_ble_eq_true rfl | (simp only [room_1]; omega)) (by first | decide | exact Nat.le_of_ble_eq_true rfl | (simp only [room_1]; omega)) ?_
  rintro _ _ ⟨⟨hi, rfl⟩, rfl⟩
  refine ⟨rfl, ?_⟩
  refine go_istore7 i0_28 (by first | exact One.u | exact One.val rfl) ?_
  refine go_iloadN i0_30 rfl ?_
  refine go_ldc i0_31 (hw _ (List.mem_of_getElem? (i := 0) rfl)) ?_
  refine go_iand i0_33 ?_
  refine go_iconst (v := (4 : Int32)) i0_34 (by decide) ?_
  refine go_irem i0_35 (by decide) ?_
  have hm := c_mask k 2147483647 31 (by decide) (by decide)
  have hr := (c_irem (k &&& 2147483647) 4 4 (by decide)).1 (by omega)
  generalize (k &&& 2147483647) % 4 = n at *
  obtain ⟨N, hn⟩ : ∃ N : Nat, n.toInt = (N : Int) := ⟨n.toInt.toNat, by omega⟩
  have hN : N ≤ 3 := by omega
  refine go_istore8 i0_36 (by first | exact One.u | exact One.val rfl) ?_
  refine go_bipush (v := (12 : Int32)) i0_38 (by decide) ?_
  refine go_newarray (k := 0) 12 i0_40 rfl (hw _ (List.mem_of_getElem? (i := 8) rfl)) (by decide) rfl (by decide) (by decide) rfl (by first | decide | exact Nat.le_of_ble_eq_true rfl | (simp only [room_1]; omega)) (by first | decide | exact Nat.le_of_ble_eq_true rfl | (simp only [room_1]; omega)) ?_
  refine go_astore9 i0_42 (by first | exact One.u | exact One.val rfl) ?_
  refine go_iconst (v := (4 : Int32)) i0_44 (by decide) ?_
  refine go_newarray (k := 1) 4 i0_45 rfl (hw _ (List.mem_of_getElem? (i := 8) rfl)) (by decide) rfl (by decide) (by decide) rfl (by first | decide | exact Nat.le_of_ble_eq_true rfl | (simp only [room_1]; omega)) (by first | decide | exact Nat.le_of_ble_eq_true rfl | (simp only [room_1]; omega)) ?_
  refine go_astore10 i0_47 (by first | exact One.u | exact One.val rfl) ?_
  refine go_aload i0_49 rfl ?_
  refine go_iconst (v := (0 : Int32)) i0_51 (by decide) ?_
  refine go_iloadN i0_52 rfl ?_
  refine go_iconst (v := (0 : Int32)) i0_53 (by decide) ?_
  refine go_iload i0_54 rfl ?_
  refine go_iload i0_56 rfl ?_
  refine go_static i0_58 (met3 hw 0 0 _ _ _ _ 0 (by decide) (by decide) _ (by decide) _ rfl) (hw _ (List.mem_of_getElem? (i := 9) rfl)) (hw _ (List.mem_of_getElem? (i := 10) rfl)) (hw _ (List.mem_of_getElem? (i := 11) rfl)) (hw _ (List.mem_of_getElem? (i := 12) rfl)) rfl pd3 rfl rfl rfl (by first | decide | exact Nat.le_of_ble_eq_true rfl | (simp only [room_1]; omega)) (by first | decide | exact Nat.le_of_ble_eq_true rfl | (simp only [room_1]; omega)) (by first | decide | exact Nat.le_of_ble_eq_true rfl | (simp only [room_1]; omega)) (by first | decide | exact Nat.le_of_ble_eq_true rfl | (simp only [room_1]; omega)) ?_
  rintro _ _ ⟨rfl, c0, c1, c2, c3, rfl⟩
  refine ⟨rfl, ?_⟩
  refine go_aload i0_61 rfl ?_
  refine go_iconst (v := (4 : Int32)) i0_63 (by decide) ?_
  refine go_iloadN i0_64 rfl ?_
  refine go_iconst (v := (4 : Int32)) i0_65 (by decide) ?_
  refine go_iload i0_66 rfl ?_
  refine go_iload i0_68 rfl ?_
  refine go_static i0_70 (met3 hw 0 4 _ _ _ _ 4 (by decide) (by decide) (own_4 (List.replicate 12 (.int 0)) 0 c0 c1 c2 c3) (by simp) _ rfl) (hw _ (List.mem_of_getElem? (i := 9) rfl)) (hw _ (List.mem_of_getElem? (i := 10) rfl)) (hw _ (List.mem_of_getElem? (i := 11) rfl)) (hw _ (List.mem_of_getElem? (i := 12) rfl)) rfl pd3 rfl rfl rfl (by first | decide | exact Nat.le_of_ble_eq_true rfl | (simp only [room_1]; omega)) (by first | decide | exact Nat.le_of_ble_eq_true rfl | (simp only [room_1]; omega)) (by first | decide | exact Nat.le_of_ble_eq_true rfl | (simp only [room_1]; omega)) (by first | decide | exact Nat.le_of_ble_eq_true rfl | (simp only [room_1]; omega)) ?_
  rintro _ _ ⟨rfl, c4, c5, c6, c7, rfl⟩
  refine ⟨rfl, ?_⟩
  refine go_aload i0_73 rfl ?_
  refine go_bipush (v := (8 : Int32)) i0_75 (by decide) ?_
  refine go_iloadN i0_77 rfl ?_
  refine go_bipush (v := (8 : Int32)) i0_78 (by decide) ?_
  refine go_iload i0_80 rfl ?_
  refine go_iload i0_82 rfl ?_
  refine go_static i0_84 (met3 hw 0 8 _ _ _ _ 8 (by decide) (by decide) (own_4 (own_4 (List.replicate 12 (.int 0)) 0 c0 c1 c2 c3) 4 c4 c5 c6 c7) (by simp) _ rfl) (hw _ (List.mem_of_getElem? (i := 9) rfl)) (hw _ (List.mem_of_getElem? (i := 10) rfl)) (hw _ (List.mem_of_getElem? (i := 11) rfl)) (hw _ (List.mem_of_getElem? (i := 12) rfl)) rfl pd3 rfl rfl rfl (by first | decide | exact Nat.le_of_ble_eq_true rfl | (simp only [room_1]; omega)) (by first | decide | exact Nat.le_of_ble_eq_true rfl | (simp only [room_1]; omega)) (by first | decide | exact Nat.le_of_ble_eq_true rfl | (simp only [room_1]; omega)) (by first | decide | exact Nat.le_of_ble_eq_true rfl | (simp only [room_1]; omega)) ?_
  rintro _ _ ⟨rfl, c8, c9, c10, c11, rfl⟩
  refine ⟨rfl, ?_⟩
  refine go_aload i0_87 rfl ?_
  refine go_iconst (v := (0 : Int32)) i0_89 (by decide) ?_
  refine go_iloadN i0_90 rfl ?_
  refine go_bipush (v := (12 : Int32)) i0_91 (by decide) ?_
  refine go_iload i0_93 rfl ?_
  refine go_iload i0_95 rfl ?_
  refine go_static i0_97 (met3 hw 1 0 _ _ _ _ 0 (by decide) (by decide) _ (by decide) _ rfl) (hw _ (List.mem_of_getElem? (i := 9) rfl)) (hw _ (List.mem_of_getElem? (i := 10) rfl)) (hw _ (List.mem_of_getElem? (i := 11) rfl)) (hw _ (List.mem_of_getElem? (i := 12) rfl)) rfl pd3 rfl rfl rfl (by first | decide | exact Nat.le_of_ble_eq_true rfl | (simp only [room_1]; omega)) (by first | decide | exact Nat.le_of_ble_eq_true rfl | (simp only [room_1]; omega)) (by first | decide | exact Nat.le_of_ble_eq_true rfl | (simp only [room_1]; omega)) (by first | decide | exact Nat.le_of_ble_eq_true rfl | (simp only [room_1]; omega)) ?_
  rintro _ _ ⟨rfl, q0, q1, q2, q3, rfl⟩
  refine ⟨rfl, ?_⟩
  change Go Z a0 n0 M0 room_1 (fun v _ => v = some (.int 1)) 100 _ _ [.inr (.int, [.int c0, .int c1, .int c2, .int c3, .int c4, .int c5, .int c6, .int c7, .int c8, .int c9, .int c10, .int c11]), .inr (.int, [.int q0, .int q1, .int q2, .int q3])] _ _
  refine go_new (k := 2) KB i0_100 (hw _ (List.mem_of_getElem? (i := 16) rfl)) (hw _ (List.mem_of_getElem? (i := 17) rfl)) (hw _ (List.mem_of_getElem? (i := 18) rfl)) (KB_ok hw) rfl rfl (by decide) (by decide) ?_
  refine go_dup i0_103 rfl ?_
  refine go_special i0_104 (met5 hw _ _) (hw _ (List.mem_of_getElem? (i := 19) rfl)) (hw _ (List.mem_of_getElem? (i := 20) rfl)) (hw _ (List.mem_of_getElem? (i := 18) rfl)) (hw _ (List.mem_of_getElem? (i := 21) rfl)) rfl rfl rfl pd5 rfl rfl rfl (by first | decide | exact Nat.le_of_ble_eq_true rfl | (simp only [room_1]; omega)) (by first | decide | exact Nat.le_of_ble_eq_true rfl | (simp only [room_1]; omega)) (by first | decide | exact Nat.le_of_ble_eq_true rfl | (simp only [room_1]; omega)) (by first | decide | exact Nat.le_of_ble_eq_true rfl | (simp only [room_1]; omega)) (retV rfl ?_)
  refine go_astore11 i0_107 (by first | exact One.u | exact One.val rfl) ?_
  refine go_aload i0_109 rfl ?_
  refine go_aload i0_111 rfl ?_
  refine go_iconst (v := (0 : Int32)) i0_113 (by decide) ?_
  refine go_iaload (i := 0) i0_114 rfl (by decide) rfl ?_
  refine go_aload i0_115 rfl ?_
  refine go_iconst (v := (1 : Int32)) i0_117 (by decide) ?_
  refine go_iaload (i := 1) i0_118 rfl (by decide) rfl ?_
  refine go_aload i0_119 rfl ?_
  refine go_iconst (v := (2 : Int32)) i0_121 (by decide) ?_
  refine go_iaload (i := 2) i0_122 rfl (by decide) rfl ?_
  refine go_aload i0_123 rfl ?_
  refine go_iconst (v := (3 : Int32)) i0_125 (by decide) ?_
  refine go_iaload (i := 3) i0_126 rfl (by decide) rfl ?_
  refine go_virtual i0_127 (met7 hw c0 c1 c2 c3 0 0 (by decide) (by decide) _ _ _ _ rfl rfl) rfl (hw _ (List.mem_of_getElem? (i := 30) rfl)) (hw _ (List.mem_of_getElem? (i := 31) rfl)) (hw _ (List.mem_of_getElem? (i := 33) rfl)) (hw _ (List.mem_of_getElem? (i := 32) rfl)) (hw _ (List.mem_of_getElem? (i := 18) rfl)) (hw _ (List.mem_of_getElem? (i := 34) rfl)) rfl pd7 rfl rfl rfl (by first | decide | exact Nat.le_of_ble_eq_true rfl | (simp only [room_1]; omega)) (by first | decide | exact Nat.le_of_ble_eq_true rfl | (simp only [room_1]; omega)) (by first | decide | exact Nat.le_of_ble_eq_true rfl | (simp only [room_1]; omega)) (by first | decide | exact Nat.le_of_ble_eq_true rfl | (simp only [room_1]; omega)) (retV rfl ?_)
  refine go_aload i0_130 rfl ?_
  refine go_aload i0_132 rfl ?_
  refine go_iconst (v := (4 : Int32)) i0_134 (by decide) ?_
  refine go_iaload (i := 4) i0_135 rfl (by decide) rfl ?_
  refine go_aload i0_136 rfl ?_
  refine go_iconst (v := (5 : Int32)) i0_138 (by decide) ?_
  refine go_iaload (i := 5) i0_139 rfl (by decide) rfl ?_
  refine go_aload i0_140 rfl ?_
  refine go_bipush (v := (6 : Int32)) i0_142 (by decide) ?_
  refine go_iaload (i := 6) i0_144 rfl (by decide) rfl ?_
  refine go_aload i0_145 rfl ?_
  refine go_bipush (v := (7 : Int32)) i0_147 (by decide) ?_
  refine go_iaload (i := 7) i0_149 rfl (by decide) rfl ?_
  refine go_virtual i0_150 (met7 hw c4 c5 c6 c7 _ 1 (by decide) (by decide) _ _ _ _ (by simp) (by simp)) rfl (hw _ (List.mem_of_getElem? (i := 30) rfl)) (hw _ (List.mem_of_getElem? (i := 31) rfl)) (hw _ (List.mem_of_getElem? (i := 33) rfl)) (hw _ (List.mem_of_getElem? (i := 32) rfl)) (hw _ (List.mem_of_getElem? (i := 18) rfl)) (hw _ (List.mem_of_getElem? (i := 34) rfl)) rfl pd7 rfl rfl rfl (by first | decide | exact Nat.le_of_ble_eq_true rfl | (simp only [room_1]; omega)) (by first | decide | exact Nat.le_of_ble_eq_true rfl | (simp only [room_1]; omega)) (by first | decide | exact Nat.le_of_ble_eq_true rfl | (simp only [room_1]; omega)) (by first | decide | exact Nat.le_of_ble_eq_true rfl | (simp only [room_1]; omega)) (retV rfl ?_)
  refine go_aload i0_153 rfl ?_
  refine go_aload i0_155 rfl ?_
  refine go_bipush (v := (8 : Int32)) i0_157 (by decide) ?_
  refine go_iaload (i := 8) i0_159 rfl (by decide) rfl ?_
  refine go_aload i0_160 rfl ?_
  refine go_bipush (v := (9 : Int32)) i0_162 (by decide) ?_
  refine go_iaload (i := 9) i0_164 rfl (by decide) rfl ?_
  refine go_aload i0_165 rfl ?_
  refine go_bipush (v := (10 : Int32)) i0_167 (by decide) ?_
  refine go_iaload (i := 10) i0_169 rfl (by decide) rfl ?_
  refine go_aload i0_170 rfl ?_
  refine go_bipush (v := (11 : Int32)) i0_172 (by decide) ?_
  refine go_iaload (i := 11) i0_174 rfl (by decide) rfl ?_
  refine go_virtual i0_175 (met7 hw c8 c9 c10 c11 _ 2 (by decide) (by decide) _ _ _ _ (by simp) (by simp)) rfl (hw _ (List.mem_of_getElem? (i := 30) rfl)) (hw _ (List.mem_of_getElem? (i := 31) rfl)) (hw _ (List.mem_of_getElem? (i := 33) rfl)) (hw _ (List.mem_of_getElem? (i := 32) rfl)) (hw _ (List.mem_of_getElem? (i := 18) rfl)) (hw _ (List.mem_of_getElem? (i := 34) rfl)) rfl pd7 rfl rfl rfl (by first | decide | exact Nat.le_of_ble_eq_true rfl | (simp only [room_1]; omega)) (by first | decide | exact Nat.le_of_ble_eq_true rfl | (simp only [room_1]; omega)) (by first | decide | exact Nat.le_of_ble_eq_true rfl | (simp only [room_1]; omega)) (by first | decide | exact Nat.le_of_ble_eq_true rfl | (simp only [room_1]; omega)) (retV rfl ?_)
  refine go_aload i0_178 rfl ?_
  refine go_iload i0_180 rfl ?_
  have e4 : (4 : Int32).toInt = 4 := by decide
  refine go_virtual i0_182 (met9 hw n (by rw [Int32.lt_iff_toInt_lt]; simp only [Int32.toInt_zero]; omega) (by show n < 4; rw [Int32.lt_iff_toInt_lt, e4]; omega) _ _ _ _) rfl (hw _ (List.mem_of_getElem? (i := 42) rfl)) (hw _ (List.mem_of_getElem? (i := 43) rfl)) (hw _ (List.mem_of_getElem? (i := 45) rfl)) (hw _ (List.mem_of_getElem? (i := 44) rfl)) (hw _ (List.mem_of_getElem? (i := 18) rfl)) (hw _ (List.mem_of_getElem? (i := 46) rfl)) rfl pd9 rfl rfl rfl (by first | decide | exact Nat.le_of_ble_eq_true rfl | (simp only [room_1]; omega)) (by first | decide | exact Nat.le_of_ble_eq_true rfl | (simp only [room_1]; omega)) (by first | decide | exact Nat.le_of_ble_eq_true rfl | (simp only [room_1]; omega)) (by first | decide | exact Nat.le_of_ble_eq_true rfl | (simp only [room_1]; omega)) (retV rfl ?_)
  refine go_aload i0_185 rfl ?_
  refine go_aload i0_187 rfl ?_
  refine go_iconst (v := (0 : Int32)) i0_189 (by decide) ?_
  refine go_iaload (i := 0) i0_190 rfl (by decide) rfl ?_
  refine go_aload i0_191 rfl ?_
  refine go_iconst (v := (1 : Int32)) i0_193 (by decide) ?_
  refine go_iaload (i := 1) i0_194 rfl (by decide) rfl ?_
  refine go_aload i0_195 rfl ?_
  refine go_iconst (v := (2 : Int32)) i0_197 (by decide) ?_
  refine go_iaload (i := 2) i0_198 rfl (by decide) rfl ?_
  refine go_aload i0_199 rfl ?_
  refine go_iconst (v := (3 : Int32)) i0_201 (by decide) ?_
  refine go_iaload (i := 3) i0_202 rfl (by decide) rfl ?_
  refine go_virtual i0_203 (met12 hw _ _ (List.replicate 16 (.int 0)) _ n c0 c1 c2 c3 c4 c5 c6 c7 c8 c9 c10 c11 q0 q1 q2 q3 0 0 0 0 N hn hN) rfl (hw _ (List.mem_of_getElem? (i := 55) rfl)) (hw _ (List.mem_of_getElem? (i := 56) rfl)) (hw _ (List.mem_of_getElem? (i := 58) rfl)) (hw _ (List.mem_of_getElem? (i := 57) rfl)) (hw _ (List.mem_of_getElem? (i := 18) rfl)) (hw _ (List.mem_of_getElem? (i := 59) rfl)) rfl pd12 rfl rfl rfl (by first | decide | exact Nat.le_of_ble_eq_true rfl | (simp only [room_1]; omega)) (by first | decide | exact Nat.le_of_ble_eq_true rfl | (simp only [room_1]; omega)) (by first | decide | exact Nat.le_of_ble_eq_true rfl | (simp only [room_1]; omega)) (by first | decide | exact Nat.le_of_ble_eq_true rfl | (simp only [room_1]; omega)) (retE rfl ?_)
  refine go_istore12 i0_206 (by first | exact One.u | exact One.val rfl) ?_
  refine go_iload i0_208 rfl ?_
  have hpos := own_pos hn
  refine go_if_le 230 i0_210 (by decide) (fun h1 => ?_) (fun h1 => ?_)
  · exact g230 c0 c1 c2 c3 c4 c5 c6 c7 c8 c9 c10 c11 q0 q1 q2 q3 n _ N _ _ _ _ _ _ _ _ _ _ _ _ _ _ _ hw (by decide) (by decide) One.u hn rfl (fun q => h1 ((hpos 0 0 (by decide)).mpr q.1))
  · refine go_aload i0_213 rfl ?_
    refine go_iconst (v := (0 : Int32)) i0_215 (by decide) ?_
    refine go_aload i0_216 rfl ?_
    refine go_static i0_218 (met13 hw _ _ 0 c0 c1 c2 c3 q0 q1 q2 q3 0 (by decide) (by decide) rfl rfl rfl rfl rfl rfl) (hw _ (List.mem_of_getElem? (i := 60) rfl)) (hw _ (List.mem_of_getElem? (i := 61) rfl)) (hw _ (List.mem_of_getElem? (i := 11) rfl)) (hw _ (List.mem_of_getElem? (i := 62) rfl)) rfl pd13 rfl rfl rfl (by first | decide | exact Nat.le_of_ble_eq_true rfl | (simp only [room_1]; omega)) (by first | decide | exact Nat.le_of_ble_eq_true rfl | (simp only [room_1]; omega)) (by first | decide | exact Nat.le_of_ble_eq_true rfl | (simp only [room_1]; omega)) (by first | decide | exact Nat.le_of_ble_eq_true rfl | (simp only [room_1]; omega)) (retE rfl ?_)
    by_cases hq : own_m c0 c1 c2 c3 q0 q1 q2 q3
    · rw [if_pos hq]
      refine go_ifF i0_221 (by decide) ?_
      refine go_iconst (v := (0 : Int32)) i0_224 (by decide) ?_
      refine go_istore13 i0_225 (by first | exact One.u | exact One.val rfl) ?_
      refine go_goto 280 i0_227 (by decide) ?_
      exact g280 _ _ _ _ _ _ _ _ _ _ _ _ hw _ _ _ _ _ (by decide) (by decide) (by rw [own_ix, if_pos ⟨(hpos 0 0 (by decide)).mp h1, hq⟩])
    · rw [if_neg hq]
      refine go_ifT 230 i0_221 (by decide) (by decide) ?_
      exact g230 c0 c1 c2 c3 c4 c5 c6 c7 c8 c9 c10 c11 q0 q1 q2 q3 n _ N _ _ _ _ _ _ _ _ _ _ _ _ _ _ _ hw (by decide) (by decide) One.u hn rfl (fun q => hq q.2)
theorem comes_1 {Post : Tables → Env → Array Value → State → Outcome → State → Prop} (hpost : ∀ tb e args s v u, (limb_1_1.after args s (.returned v) u = true ∧ limb_1_2.after args s (.returned v) u = true ∧ True) → FrameEnd s (.returned v) u (Jvm.fieldLocs frame_1_writes args s ++ Jvm.arrayLocs frame_1_arrays args s ++ Jvm.staticLocs frame_1_statics s) 24 192 → Post tb e args s (.returned v) u) :
    ArmFor flags0 classFile x code maxLocals ret World_1 tables_1 room_1 Calls_1 rest_1 Pre_1 Post := by
  intro l hfl _ _ p e ha hc hk s m args below hf hA hF happ hP
  obtain ⟨hcalls, hrest, hpre⟩ := hP
  obtain ⟨-, -, -, hnamed, -, -, -, hat⟩ := (Spec.applies_iff hf).mp happ
  obtain ⟨hg, hn⟩ := and_e (Cond.before_iff.mp (show (Jvm.Cond.and given_1 narrow_1).before args s = true from hpre))
  obtain ⟨g0, gs0⟩ := and_e hg
  obtain ⟨w0, w1, w2, w3, rfl⟩ : ∃ (w0 : Value) (w1 : Value) (w2 : Value) (w3 : Value), args = #[w0, w1, w2, w3] := by
    have hs : args.size = 4 := by simpa [Cond.value, given_1] using g0
    obtain ⟨L⟩ := args
    match L, hs with
    | [w0, w1, w2, w3], _ => exact ⟨w0, w1, w2, w3, rfl⟩
  have hw := fun d (hd : d ∈ tables_1) => atoms_spec (ws := Jvm.Cond.code x code maxLocals ret :: tables_1) hat d (List.mem_cons_of_mem _ hd)
  obtain ⟨b0, gs1⟩ := and_e gs0
  obtain ⟨i0, ei0⟩ := is_v b0
  obtain rfl : w0 = (.int i0) := Option.some.inj ei0
  obtain ⟨b1, gs2⟩ := and_e gs1
  obtain ⟨i1, ei1⟩ := is_v b1
  obtain rfl : w1 = (.int i1) := Option.some.inj ei1
  obtain ⟨b2, gs3⟩ := and_e gs2
  obtain ⟨i2, ei2⟩ := is_v b2
  obtain rfl : w2 = (.int i2) := Option.some.inj ei2
  have b3 := gs3
  obtain ⟨i3, ei3⟩ := is_v b3
  obtain rfl : w3 = (.int i3) := Option.some.inj ei3
  obtain ⟨n, o, h1, h2, h3, _, L, rfl, ⟨H', rfl, -, N⟩, hq⟩ := law_met s _ s.heap.size hw i0 i1 i2 i3 l s.heap ⟨rfl, ⟨Nat.le_refl _, fun _ _ q => q⟩, by simp, fun k o q => by simp at q⟩ p e ha hc hk s m _ below hf ((Spec.applies_iff_loose hf).mp happ).1 ⟨rfl, State.Warmed39.refl s, rfl⟩ trivial
  refine ⟨n, _, h1, h2, h3, hpost _ _ _ _ _ _ ⟨Cond.after_iff.mpr rfl, Cond.after_iff.mpr (eq_i res_at (Term.int_eval (1)) rfl), trivial⟩ ⟨hq.1, hq.2.1, (hq.2.2.sift fun y hy => Or.inr (N y hy)).mono (by decide) (by decide)⟩⟩
theorem main_1_1 : Claimed_1_1 := comes_1 fun _ _ _ _ _ _ h hF => ⟨h.1, hF⟩
theorem main_1_2 : Claimed_1_2 := comes_1 fun _ _ _ _ _ _ h hF => ⟨h.2.1, hF⟩
end Jvm.Pilot.@@N@@
namespace Jvm.Pilot.@@N@@
open Jvm Jvm.ClassFile Sem Op Lib Jvm.Free Jvm.Stand Jvm.Pilot.@@N@@.Jvm.D
/-! MADE BY PROGRAM (witnessworld.py) out of the Statement's table words and the real class files: 14 classes; the members and pool entries that the words name. The judged class is class 1, her method 4. -/
namespace start1
open Jvm.ClassFile
def u (s : String) : CpInfo := .utf8 (stringToUtf16 s)
/-- a pool by its gaps: so many unusable entries, then the entry; so many at the end -/
def gap : Nat → List CpInfo → List CpInfo
  | 0, r => r
  | n + 1, r => .unusable :: gap n r
def poolList (es : List (Nat × CpInfo)) (last : Nat) : List CpInfo := es.foldr (fun e r => gap e.1 (e.2 :: r)) (gap last [])
def pool (es : List (Nat × CpInfo)) (last : Nat) : Array CpInfo := ⟨poolList es last⟩
def fileOf (pool : Array CpInfo) (this : Nat) (attrs : Array Attribute := #[]) (ms : Array MethodInfo := #[]) (fl : Nat := 33) (sup : Nat := 0) (ifs : Array Nat := #[]) (fds : Array FieldInfo := #[]) : ClassFile where
  minorVersion := 0
  majorVersion := 65
  constantPool := pool
  accessFlags := fl
  thisClass := this
  superClass := sup
  interfaces := ifs
  fields := fds
  methods := ms
  attributes := attrs
def plain (name : String) (sup : Option ClassId) : Class where
  name := name
  kind := .ordinary
  loader := none
  accessFlags := 33
  super := sup
  interfaces := #[]
  cf := none
  fields := #[]
  methods := #[]
  instanceTypes := #[]
  staticTypes := #[]
  resolved := #[]
  callSites := []
  init := .initialized
  statics := none
  mirror := none

def pool0 : Array CpInfo := pool [(5, u "<init>"), (0, u "()V"), (1, .class_ 10), (1, u "java/lang/Object")] 113

def k0c0 : Code := { maxStack := 0, maxLocals := 1, code := object_method_1_code, exceptionTable := #[], attributes := #[] }
def k0m0 : Method := { name := "<init>", desc := "()V", sig := { parameters := [], returnType := none }, accessFlags := 1, code := some k0c0 }
/-- java/lang/Object -/
def k0 : Class := { plain "java/lang/Object" none with
  accessFlags := 33
  interfaces := #[]
  cf := some (fileOf pool0 8 #[] #[{ accessFlags := 1, nameIndex := 5, descriptorIndex := 6, attributes := #[] }] 33 0 #[] #[])
  fields := #[]
  methods := #[k0m0]
  instanceTypes := #[]
  staticTypes := #[]
  resolved := Array.replicate 124 none
  statics := none }

def pool1 : Array CpInfo := pool [(2, .class_ 4), (0, .nameAndType 5 6), (0, u "java/lang/Object"), (0, u "<init>"), (0, u "()V"), (0, .methodref 8 9), (0, .class_ 10), (0, .nameAndType 11 12), (0, u "com/example/meshwright/meshwright/grid/BlockListIndexOfPinLaw"), (0, u "pick"), (0, u "(IIII)I"), (0, .methodref 14 15), (0, .class_ 16), (0, .nameAndType 17 18), (0, u "java/lang/Math"), (0, u "max"), (0, u "(II)I"), (0, .integer 2147483647), (0, .methodref 14 21), (0, .nameAndType 22 18), (0, u "min"), (0, .methodref 8 24), (0, .nameAndType 25 26), (0, u "fill"), (0, u "([IIIIII)V"), (0, .class_ 28), (0, u "com/example/meshwright/meshwright/grid/BlockList"), (0, .methodref 27 3), (0, .methodref 27 31), (0, .nameAndType 32 33), (0, u "add"), (0, u "(IIII)V"), (0, .methodref 27 35), (0, .nameAndType 36 37), (0, u "truncate"), (0, u "(I)V"), (0, .methodref 27 39), (0, .nameAndType 40 12), (0, u "indexOf"), (0, .methodref 8 42), (0, .nameAndType 43 44), (0, u "same"), (0, u "([II[I)Z"), (3, u "law"), (0, u "(IIII)Z")] 4

def k1m0 : Method := { name := "<init>", desc := "()V", sig := { parameters := [], returnType := none }, accessFlags := 1, code := none }
def k1c1 : Code := { maxStack := 2, maxLocals := 4, code := method_2_code, exceptionTable := #[], attributes := #[] }
def k1m1 : Method := { name := "pick", desc := "(IIII)I", sig := { parameters := [.int, .int, .int, .int], returnType := some .int }, accessFlags := 10, code := some k1c1 }
def k1c2 : Code := { maxStack := 5, maxLocals := 10, code := method_3_code, exceptionTable := #[], attributes := #[] }
def k1m2 : Method := { name := "fill", desc := "([IIIIII)V", sig := { parameters := [(.array .int), .int, .int, .int, .int, .int], returnType := none }, accessFlags := 10, code := some k1c2 }
def k1c3 : Code := { maxStack := 3, maxLocals := 3, code := method_4_code, exceptionTable := #[], attributes := #[] }
def k1m3 : Method := { name := "same", desc := "([II[I)Z", sig := { parameters := [(.array .int), .int, (.array .int)], returnType := some .boolean }, accessFlags := 10, code := some k1c3 }
def k1c4 : Code := { maxStack := 6, maxLocals := 14, code := code, exceptionTable := #[], attributes := #[] }
def k1m4 : Method := { name := "law", desc := "(IIII)Z", sig := { parameters := [.int, .int, .int, .int], returnType := some .boolean }, accessFlags := 9, code := some k1c4 }
/-- com/example/meshwright/meshwright/grid/BlockListIndexOfPinLaw -/
def k1 : Class := { plain "com/example/meshwright/meshwright/grid/BlockListIndexOfPinLaw" (some 0) with
  accessFlags := 49
  interfaces := #[]
  cf := some (fileOf pool1 8 #[] #[{ accessFlags := 1, nameIndex := 5, descriptorIndex := 6, attributes := #[] }, { accessFlags := 10, nameIndex := 11, descriptorIndex := 12, attributes := #[] }, { accessFlags := 10, nameIndex := 25, descriptorIndex := 26, attributes := #[] }, { accessFlags := 10, nameIndex := 43, descriptorIndex := 44, attributes := #[] }, { accessFlags := 9, nameIndex := 48, descriptorIndex := 49, attributes := #[] }] 49 2 #[] #[])
  fields := #[]
  methods := #[k1m0, k1m1, k1m2, k1m3, k1m4]
  instanceTypes := #[]
  staticTypes := #[]
  resolved := Array.replicate 54 none
  statics := none }

def pool2 : Array CpInfo := pool [(1, .class_ 2), (0, u "java/lang/Math"), (1, .class_ 6), (1, u "java/lang/Object"), (0, u "<init>"), (0, u "()V"), (89, .class_ 100), (1, u "java/lang/Math$RandomNumberGeneratorHolder"), (71, u "negativeZeroFloatBits"), (0, u "J"), (2, u "negativeZeroDoubleBits"), (21, u "max"), (2, u "min"), (43, u "$assertionsDisabled"), (0, u "Z"), (88, u "(II)I"), (2, u "twoToTheDoubleScaleDown"), (0, u "D"), (4, u "twoToTheDoubleScaleUp"), (9, u "E"), (3, u "PI"), (2, u "TAU"), (2, u "DEGREES_TO_RADIANS"), (0, u "RADIANS_TO_DEGREES")] 94

def k2m0 : Method := { name := "<init>", desc := "()V", sig := { parameters := [], returnType := none }, accessFlags := 2, code := none }
def k2c1 : Code := { maxStack := 2, maxLocals := 2, code := jdk_29_method_65_code, exceptionTable := #[], attributes := #[] }
def k2m1 : Method := { name := "max", desc := "(II)I", sig := { parameters := [.int, .int], returnType := some .int }, accessFlags := 9, code := some k2c1 }
def k2c2 : Code := { maxStack := 2, maxLocals := 2, code := jdk_29_method_69_code, exceptionTable := #[], attributes := #[] }
def k2m2 : Method := { name := "min", desc := "(II)I", sig := { parameters := [.int, .int], returnType := some .int }, accessFlags := 9, code := some k2c2 }
/-- java/lang/Math -/
def k2 : Class := { plain "java/lang/Math" (some 0) with
  accessFlags := 49
  interfaces := #[]
  cf := some (fileOf pool2 1 #[.nestMembers #[98]] #[{ accessFlags := 2, nameIndex := 7, descriptorIndex := 8, attributes := #[] }, { accessFlags := 9, nameIndex := 198, descriptorIndex := 335, attributes := #[] }, { accessFlags := 9, nameIndex := 201, descriptorIndex := 335, attributes := #[] }] 49 4 #[] #[{ accessFlags := 25, nameIndex := 354, descriptorIndex := 339, attributes := #[] }, { accessFlags := 25, nameIndex := 358, descriptorIndex := 339, attributes := #[] }, { accessFlags := 25, nameIndex := 361, descriptorIndex := 339, attributes := #[] }, { accessFlags := 26, nameIndex := 364, descriptorIndex := 339, attributes := #[] }, { accessFlags := 26, nameIndex := 365, descriptorIndex := 339, attributes := #[] }, { accessFlags := 26, nameIndex := 172, descriptorIndex := 173, attributes := #[] }, { accessFlags := 26, nameIndex := 176, descriptorIndex := 173, attributes := #[] }, { accessFlags := 8, nameIndex := 344, descriptorIndex := 339, attributes := #[] }, { accessFlags := 8, nameIndex := 338, descriptorIndex := 339, attributes := #[] }, { accessFlags := 4120, nameIndex := 245, descriptorIndex := 246, attributes := #[] }])
  fields := #[{ name := "E", type := .double, accessFlags := 25, slot := 0, constantValue := 0 }, { name := "PI", type := .double, accessFlags := 25, slot := 1, constantValue := 0 }, { name := "TAU", type := .double, accessFlags := 25, slot := 2, constantValue := 0 }, { name := "DEGREES_TO_RADIANS", type := .double, accessFlags := 26, slot := 3, constantValue := 0 }, { name := "RADIANS_TO_DEGREES", type := .double, accessFlags := 26, slot := 4, constantValue := 0 }, { name := "negativeZeroFloatBits", type := .long, accessFlags := 26, slot := 5, constantValue := 0 }, { name := "negativeZeroDoubleBits", type := .long, accessFlags := 26, slot := 6, constantValue := 0 }, { name := "twoToTheDoubleScaleUp", type := .double, accessFlags := 8, slot := 7, constantValue := 0 }, { name := "twoToTheDoubleScaleDown", type := .double, accessFlags := 8, slot := 8, constantValue := 0 }, { name := "$assertionsDisabled", type := .boolean, accessFlags := 4120, slot := 9, constantValue := 0 }]
  methods := #[k2m0, k2m1, k2m2]
  instanceTypes := #[]
  staticTypes := #[.double, .double, .double, .double, .double, .long, .long, .double, .double, .boolean]
  resolved := Array.replicate 460 none
  statics := none }

def pool3 : Array CpInfo := pool [(1, .methodref 2 3), (0, .class_ 4), (0, .nameAndType 5 6), (0, u "java/lang/Object"), (0, u "<init>"), (0, u "()V"), (0, .class_ 8), (0, u "com/example/meshwright/meshwright/grid/BlockList"), (0, .fieldref 7 10), (0, .nameAndType 11 12), (0, u "corners"), (0, u "[I"), (0, .fieldref 7 14), (0, .nameAndType 15 16), (0, u "tags"), (0, u "[J"), (0, .fieldref 7 18), (0, .nameAndType 19 20), (0, u "size"), (0, u "I"), (0, .methodref 7 22), (0, .nameAndType 23 24), (0, u "add"), (0, u "(IIIIJ)V"), (14, u "(II)I"), (8, .methodref 49 50), (0, .class_ 51), (0, .nameAndType 52 39), (0, u "java/util/Objects"), (0, u "checkIndex"), (17, u "(IIII)V"), (0, u "CORNERS"), (14, u "truncate"), (0, u "(I)V"), (7, u "indexOf"), (0, u "(IIII)I")] 3

def k3c0 : Code := { maxStack := 2, maxLocals := 1, code := prog_103_method_1_code, exceptionTable := #[], attributes := #[] }
def k3m0 : Method := { name := "<init>", desc := "()V", sig := { parameters := [], returnType := none }, accessFlags := 1, code := some k3c0 }
def k3c1 : Code := { maxStack := 7, maxLocals := 5, code := prog_103_method_4_code, exceptionTable := #[], attributes := #[] }
def k3m1 : Method := { name := "add", desc := "(IIII)V", sig := { parameters := [.int, .int, .int, .int], returnType := none }, accessFlags := 1, code := some k3c1 }
def k3c2 : Code := { maxStack := 4, maxLocals := 8, code := prog_103_method_5_code, exceptionTable := #[], attributes := #[] }
def k3m2 : Method := { name := "add", desc := "(IIIIJ)V", sig := { parameters := [.int, .int, .int, .int, .long], returnType := none }, accessFlags := 1, code := some k3c2 }
def k3c3 : Code := { maxStack := 4, maxLocals := 2, code := prog_103_method_10_code, exceptionTable := #[], attributes := #[] }
def k3m3 : Method := { name := "truncate", desc := "(I)V", sig := { parameters := [.int], returnType := none }, accessFlags := 1, code := some k3c3 }
def k3c4 : Code := { maxStack := 3, maxLocals := 6, code := prog_103_method_20_code, exceptionTable := #[], attributes := #[] }
def k3m4 : Method := { name := "indexOf", desc := "(IIII)I", sig := { parameters := [.int, .int, .int, .int], returnType := some .int }, accessFlags := 1, code := some k3c4 }
/-- com/example/meshwright/meshwright/grid/BlockList -/
def k3 : Class := { plain "com/example/meshwright/meshwright/grid/BlockList" (some 0) with
  accessFlags := 49
  interfaces := #[]
  cf := some (fileOf pool3 7 #[] #[{ accessFlags := 1, nameIndex := 5, descriptorIndex := 6, attributes := #[] }, { accessFlags := 1, nameIndex := 23, descriptorIndex := 70, attributes := #[] }, { accessFlags := 1, nameIndex := 23, descriptorIndex := 24, attributes := #[] }, { accessFlags := 1, nameIndex := 86, descriptorIndex := 87, attributes := #[] }, { accessFlags := 1, nameIndex := 95, descriptorIndex := 96, attributes := #[] }] 49 2 #[] #[{ accessFlags := 26, nameIndex := 71, descriptorIndex := 20, attributes := #[] }, { accessFlags := 2, nameIndex := 11, descriptorIndex := 12, attributes := #[] }, { accessFlags := 2, nameIndex := 15, descriptorIndex := 16, attributes := #[] }, { accessFlags := 2, nameIndex := 19, descriptorIndex := 20, attributes := #[] }])
  fields := #[{ name := "CORNERS", type := .int, accessFlags := 26, slot := 0, constantValue := 0 }, { name := "corners", type := (.array .int), accessFlags := 2, slot := 0, constantValue := 0 }, { name := "tags", type := (.array .long), accessFlags := 2, slot := 1, constantValue := 0 }, { name := "size", type := .int, accessFlags := 2, slot := 2, constantValue := 0 }]
  methods := #[k3m0, k3m1, k3m2, k3m3, k3m4]
  instanceTypes := #[(.array .int), (.array .long), .int]
  staticTypes := #[.int]
  resolved := Array.replicate 100 none
  statics := none }

def pool4 : Array CpInfo := pool [(2, .class_ 4), (1, u "java/lang/Object"), (0, u "<init>"), (0, u "()V"), (35, .class_ 44), (1, u "java/util/Objects"), (60, .methodref 106 107), (0, .class_ 108), (0, .nameAndType 109 110), (0, u "jdk/internal/util/Preconditions"), (0, u "checkIndex"), (0, u "(IILjava/util/function/BiFunction;)I"), (60, u "(II)I")] 12

def k4m0 : Method := { name := "<init>", desc := "()V", sig := { parameters := [], returnType := none }, accessFlags := 2, code := none }
def k4c1 : Code := { maxStack := 3, maxLocals := 2, code := jdk_31_method_17_code, exceptionTable := #[], attributes := #[] }
def k4m1 : Method := { name := "checkIndex", desc := "(II)I", sig := { parameters := [.int, .int], returnType := some .int }, accessFlags := 9, code := some k4c1 }
/-- java/util/Objects -/
def k4 : Class := { plain "java/util/Objects" (some 0) with
  accessFlags := 49
  interfaces := #[]
  cf := some (fileOf pool4 42 #[] #[{ accessFlags := 2, nameIndex := 5, descriptorIndex := 6, attributes := #[] }, { accessFlags := 9, nameIndex := 109, descriptorIndex := 171, attributes := #[] }] 49 2 #[] #[])
  fields := #[]
  methods := #[k4m0, k4m1]
  instanceTypes := #[]
  staticTypes := #[]
  resolved := Array.replicate 184 none
  statics := none }

def pool5 : Array CpInfo := pool [(2, .class_ 4), (1, u "java/lang/Object"), (0, u "<init>"), (0, u "()V"), (17, .class_ 26), (1, u "jdk/internal/util/Preconditions"), (6, u "checkIndex"), (21, .class_ 56), (0, u "jdk/internal/util/Preconditions$4"), (57, .class_ 115), (0, u "jdk/internal/util/Preconditions$1"), (7, u "SIOOBE_FORMATTER"), (0, u "Ljava/util/function/BiFunction;"), (0, .class_ 126), (0, u "jdk/internal/util/Preconditions$2"), (3, u "AIOOBE_FORMATTER"), (0, .class_ 132), (0, u "jdk/internal/util/Preconditions$3"), (3, u "IOOBE_FORMATTER"), (41, u "(IILjava/util/function/BiFunction;)I")] 15

def k5m0 : Method := { name := "<init>", desc := "()V", sig := { parameters := [], returnType := none }, accessFlags := 1, code := none }
def k5c1 : Code := { maxStack := 3, maxLocals := 3, code := jdk_41_method_11_code, exceptionTable := #[], attributes := #[] }
def k5m1 : Method := { name := "checkIndex", desc := "(IILjava/util/function/BiFunction;)I", sig := { parameters := [.int, .int, (.object "java/util/function/BiFunction")], returnType := some .int }, accessFlags := 9, code := some k5c1 }
/-- jdk/internal/util/Preconditions -/
def k5 : Class := { plain "jdk/internal/util/Preconditions" (some 0) with
  accessFlags := 33
  interfaces := #[]
  cf := some (fileOf pool5 24 #[.nestMembers #[55, 131, 125, 114]] #[{ accessFlags := 1, nameIndex := 5, descriptorIndex := 6, attributes := #[] }, { accessFlags := 9, nameIndex := 33, descriptorIndex := 178, attributes := #[] }] 33 2 #[] #[{ accessFlags := 25, nameIndex := 123, descriptorIndex := 124, attributes := #[] }, { accessFlags := 25, nameIndex := 130, descriptorIndex := 124, attributes := #[] }, { accessFlags := 25, nameIndex := 136, descriptorIndex := 124, attributes := #[] }])
  fields := #[{ name := "SIOOBE_FORMATTER", type := (.object "java/util/function/BiFunction"), accessFlags := 25, slot := 0, constantValue := 0 }, { name := "AIOOBE_FORMATTER", type := (.object "java/util/function/BiFunction"), accessFlags := 25, slot := 1, constantValue := 0 }, { name := "IOOBE_FORMATTER", type := (.object "java/util/function/BiFunction"), accessFlags := 25, slot := 2, constantValue := 0 }]
  methods := #[k5m0, k5m1]
  instanceTypes := #[]
  staticTypes := #[(.object "java/util/function/BiFunction"), (.object "java/util/function/BiFunction"), (.object "java/util/function/BiFunction")]
  resolved := Array.replicate 194 none
  statics := none }

def pool6 : Array CpInfo := pool [(1, u "java/lang/Cloneable"), (0, .class_ 1), (0, u "java/lang/Object"), (0, .class_ 3)] 3

/-- java/lang/Cloneable -/
def k6 : Class := { plain "java/lang/Cloneable" (some 0) with
  accessFlags := 1537
  interfaces := #[]
  cf := some (fileOf pool6 2 #[] #[] 1537 4 #[] #[])
  fields := #[]
  methods := #[]
  instanceTypes := #[]
  staticTypes := #[]
  resolved := Array.replicate 8 none
  statics := none }

def pool7 : Array CpInfo := pool [(1, u "java/io/Serializable"), (0, .class_ 1), (0, u "java/lang/Object"), (0, .class_ 3)] 3

/-- java/io/Serializable -/
def k7 : Class := { plain "java/io/Serializable" (some 0) with
  accessFlags := 1537
  interfaces := #[]
  cf := some (fileOf pool7 2 #[] #[] 1537 4 #[] #[])
  fields := #[]
  methods := #[]
  instanceTypes := #[]
  staticTypes := #[]
  resolved := Array.replicate 8 none
  statics := none }

/-- the primitive byte -/
def k8 : Class := { plain "byte" none with kind := .primitive 'B', accessFlags := 0x411 }
/-- [B -/
def k9 : Class := { plain "[B" (some 0) with kind := .array 8 .byte, interfaces := #[6, 7], accessFlags := 1041 }

/-- the primitive int -/
def k10 : Class := { plain "int" none with kind := .primitive 'I', accessFlags := 0x411 }
/-- [I -/
def k11 : Class := { plain "[I" (some 0) with kind := .array 10 .int, interfaces := #[6, 7], accessFlags := 1041 }

/-- the primitive long -/
def k12 : Class := { plain "long" none with kind := .primitive 'J', accessFlags := 0x411 }
/-- [J -/
def k13 : Class := { plain "[J" (some 0) with kind := .array 12 .long, interfaces := #[6, 7], accessFlags := 1041 }

def heap : Heap := #[]
def classes : Array Class := #[k0, k1, k2, k3, k4, k5, k6, k7, k8, k9, k10, k11, k12, k13]
def interned : List (Array UInt16 × Addr) := []
def slotsUsed : Nat := 0
def theMethod : MethodId := ⟨1, 4⟩
def args0 : Array Value := #[.int 5, .int 7, .int 1, .int 2]
def aboutOver (below : List Frame) : State where
  vm := { classes := classes, interned := interned.toArray }
  heap := heap
  slotsUsed := slotsUsed
  threads := #[{ frames := .invoking theMethod args0 :: below }]
def below0 : List Frame := [.native { method := ⟨0, 0⟩, args := #[] }]
def about1 : State := aboutOver below0
def p0 : Program := .bare "" "" ""
def e0 : Env := launch0.env 0 0 0
theorem w_frames : about1.frames = Frame.invoking theMethod args0 :: below0 := rfl
set_option maxRecDepth 65536 in
theorem w_args : argsFit about1.vm theMethod args0 = true := by decide +kernel
set_option maxRecDepth 65536 in
theorem w_heap : heapFits about1 = true := by decide +kernel
set_option maxRecDepth 65536 in
theorem w_runnable : about1.curStatus? = some .runnable := by decide +kernel
set_option maxRecDepth 65536 in
theorem w_alone : about1.alone = true := by decide +kernel
set_option maxRecDepth 65536 in
theorem w_named : about1.methodNamed? x = some theMethod := by decide +kernel
set_option maxRecDepth 65536 in
theorem w_hears : about1.hears theMethod below0 = true := by decide +kernel
set_option maxRecDepth 65536 in
theorem w_ripe : about1.ripe theMethod args0 below0 = true := by decide +kernel
theorem w_running : about1.status = .running := rfl
set_option maxRecDepth 65536 in
theorem w_room : about1.hasRoom e0.platform room_1 = true :=
  launch0.hasRoom_least _ room_1 (by decide +kernel) (by decide +kernel) (by decide +kernel) (by decide +kernel) (by decide +kernel) (by decide +kernel)
theorem allAtoms_all (ts : List Jvm.Cond) (a : Array Jvm.Value) (st : Jvm.State) : (allAtoms ts).before a st = ts.all (fun c => c.before a st) := by
  induction ts with
  | nil => rfl
  | cons c t ih =>
    show (Jvm.Cond.and c (allAtoms t)).before a st = _
    rw [Jvm.Cond.before_and, ih, List.all_cons]
def words1 : List Jvm.Cond := Jvm.Cond.code x code maxLocals ret :: tables_1
/-- a 'code' word, met by the world's own term for the bytes: nothing is compared byte by byte -/
theorem code_word {y : MethodName} {bytes : ByteArray} {mx : Nat} {rt : Option FieldType} {a : Array Value} {s : State} {m : MethodId} {meth : Method} {c : Code} (h1 : s.methodNamed? y = some m) (h2 : s.vm.method? m = some meth) (h3 : meth.code = some c) (h4 : c.code = bytes)
    (h5 : (c.maxLocals == mx && c.exceptionTable.isEmpty && decide (c.maxStack ≤ mostOperands) && decide (meth.sig.returnType = rt) && !meth.locks && decide (parseMethodDescriptor y.desc = some meth.sig)) = true) : (Jvm.Cond.code y bytes mx rt).before a s = true := by
  simp only [Bool.and_eq_true, beq_iff_eq, Bool.not_eq_true', decide_eq_true_eq] at h5
  obtain ⟨⟨⟨⟨⟨g1, g2⟩, g3⟩, g4⟩, g5⟩, g6⟩ := h5
  simp [Cond.before, Cond.holds, Cond.value, h1, h2, h3, h4, g1, g2, g3, g4, g5, g6]
def isCode : Jvm.Cond → Bool
  | .code _ _ _ _ => true
  | _ => false
theorem all_split {L : List Jvm.Cond} {P : Jvm.Cond → Bool} (h1 : L.all (fun c => isCode c || P c) = true) (h2 : ∀ c ∈ L.filter isCode, P c = true) : L.all P = true := by
  refine List.all_eq_true.mpr fun c hc => ?_
  have h := List.all_eq_true.mp h1 c hc
  rcases Bool.eq_false_or_eq_true (isCode c) with hi | hi
  · exact h2 c (List.mem_filter.mpr ⟨hc, hi⟩)
  · simpa [hi] using h
set_option maxRecDepth 65536 in
theorem w_c0 : (Jvm.Cond.code x code maxLocals ret).before args0 about1 = true := code_word (m := ⟨1, 4⟩) (meth := k1m4) (c := k1c4) (by decide +kernel) rfl rfl rfl (by decide +kernel)
set_option maxRecDepth 65536 in
theorem w_c1 : (Jvm.Cond.code ({ cls := "java/lang/Math", name := "min", desc := "(II)I" } : Jvm.MethodName) jdk_29_method_69_code (2 : Nat) (Option.some Jvm.ClassFile.FieldType.int)).before args0 about1 = true := code_word (m := ⟨2, 2⟩) (meth := k2m2) (c := k2c2) (by decide +kernel) rfl rfl rfl (by decide +kernel)
set_option maxRecDepth 65536 in
theorem w_c2 : (Jvm.Cond.code ({ cls := "java/lang/Math", name := "max", desc := "(II)I" } : Jvm.MethodName) jdk_29_method_65_code (2 : Nat) (Option.some Jvm.ClassFile.FieldType.int)).before args0 about1 = true := code_word (m := ⟨2, 1⟩) (meth := k2m1) (c := k2c1) (by decide +kernel) rfl rfl rfl (by decide +kernel)
set_option maxRecDepth 65536 in
theorem w_c3 : (Jvm.Cond.code ({ cls := "com/example/meshwright/meshwright/grid/BlockListIndexOfPinLaw", name := "fill", desc := "([IIIIII)V" } : Jvm.MethodName) method_3_code (10 : Nat) (Option.none : Option Jvm.ClassFile.FieldType)).before args0 about1 = true := code_word (m := ⟨1, 2⟩) (meth := k1m2) (c := k1c2) (by decide +kernel) rfl rfl rfl (by decide +kernel)
set_option maxRecDepth 65536 in
theorem w_c4 : (Jvm.Cond.code ({ cls := "com/example/meshwright/meshwright/grid/BlockListIndexOfPinLaw", name := "pick", desc := "(IIII)I" } : Jvm.MethodName) method_2_code (4 : Nat) (Option.some Jvm.ClassFile.FieldType.int)).before args0 about1 = true := code_word (m := ⟨1, 1⟩) (meth := k1m1) (c := k1c1) (by decide +kernel) rfl rfl rfl (by decide +kernel)
set_option maxRecDepth 65536 in
theorem w_c5 : (Jvm.Cond.code ({ cls := "com/example/meshwright/meshwright/grid/BlockList", name := "<init>", desc := "()V" } : Jvm.MethodName) prog_103_method_1_code (1 : Nat) (Option.none : Option Jvm.ClassFile.FieldType)).before args0 about1 = true := code_word (m := ⟨3, 0⟩) (meth := k3m0) (c := k3c0) (by decide +kernel) rfl rfl rfl (by decide +kernel)
set_option maxRecDepth 65536 in
theorem w_c6 : (Jvm.Cond.code ({ cls := "java/lang/Object", name := "<init>", desc := "()V" } : Jvm.MethodName) object_method_1_code (1 : Nat) (Option.none : Option Jvm.ClassFile.FieldType)).before args0 about1 = true := code_word (m := ⟨0, 0⟩) (meth := k0m0) (c := k0c0) (by decide +kernel) rfl rfl rfl (by decide +kernel)
set_option maxRecDepth 65536 in
theorem w_c7 : (Jvm.Cond.code ({ cls := "com/example/meshwright/meshwright/grid/BlockList", name := "add", desc := "(IIII)V" } : Jvm.MethodName) prog_103_method_4_code (5 : Nat) (Option.none : Option Jvm.ClassFile.FieldType)).before args0 about1 = true := code_word (m := ⟨3, 1⟩) (meth := k3m1) (c := k3c1) (by decide +kernel) rfl rfl rfl (by decide +kernel)
set_option maxRecDepth 65536 in
theorem w_c8 : (Jvm.Cond.code ({ cls := "com/example/meshwright/meshwright/grid/BlockList", name := "add", desc := "(IIIIJ)V" } : Jvm.MethodName) prog_103_method_5_code (8 : Nat) (Option.none : Option Jvm.ClassFile.FieldType)).before args0 about1 = true := code_word (m := ⟨3, 2⟩) (meth := k3m2) (c := k3c2) (by decide +kernel) rfl rfl rfl (by decide +kernel)
set_option maxRecDepth 65536 in
theorem w_c9 : (Jvm.Cond.code ({ cls := "com/example/meshwright/meshwright/grid/BlockList", name := "truncate", desc := "(I)V" } : Jvm.MethodName) prog_103_method_10_code (2 : Nat) (Option.none : Option Jvm.ClassFile.FieldType)).before args0 about1 = true := code_word (m := ⟨3, 3⟩) (meth := k3m3) (c := k3c3) (by decide +kernel) rfl rfl rfl (by decide +kernel)
set_option maxRecDepth 65536 in
theorem w_c10 : (Jvm.Cond.code ({ cls := "java/util/Objects", name := "checkIndex", desc := "(II)I" } : Jvm.MethodName) jdk_31_method_17_code (2 : Nat) (Option.some Jvm.ClassFile.FieldType.int)).before args0 about1 = true := code_word (m := ⟨4, 1⟩) (meth := k4m1) (c := k4c1) (by decide +kernel) rfl rfl rfl (by decide +kernel)
set_option maxRecDepth 65536 in
theorem w_c11 : (Jvm.Cond.code ({ cls := "jdk/internal/util/Preconditions", name := "checkIndex", desc := "(IILjava/util/function/BiFunction;)I" } : Jvm.MethodName) jdk_41_method_11_code (3 : Nat) (Option.some Jvm.ClassFile.FieldType.int)).before args0 about1 = true := code_word (m := ⟨5, 1⟩) (meth := k5m1) (c := k5c1) (by decide +kernel) rfl rfl rfl (by decide +kernel)
set_option maxRecDepth 65536 in
theorem w_c12 : (Jvm.Cond.code ({ cls := "com/example/meshwright/meshwright/grid/BlockList", name := "indexOf", desc := "(IIII)I" } : Jvm.MethodName) prog_103_method_20_code (6 : Nat) (Option.some Jvm.ClassFile.FieldType.int)).before args0 about1 = true := code_word (m := ⟨3, 4⟩) (meth := k3m4) (c := k3c4) (by decide +kernel) rfl rfl rfl (by decide +kernel)
set_option maxRecDepth 65536 in
theorem w_c13 : (Jvm.Cond.code ({ cls := "com/example/meshwright/meshwright/grid/BlockListIndexOfPinLaw", name := "same", desc := "([II[I)Z" } : Jvm.MethodName) method_4_code (3 : Nat) (Option.some Jvm.ClassFile.FieldType.boolean)).before args0 about1 = true := code_word (m := ⟨1, 3⟩) (meth := k1m3) (c := k1c3) (by decide +kernel) rfl rfl rfl (by decide +kernel)
def codes1 : List Jvm.Cond := [Jvm.Cond.code x code maxLocals ret, Jvm.Cond.code ({ cls := "java/lang/Math", name := "min", desc := "(II)I" } : Jvm.MethodName) jdk_29_method_69_code (2 : Nat) (Option.some Jvm.ClassFile.FieldType.int), Jvm.Cond.code ({ cls := "java/lang/Math", name := "max", desc := "(II)I" } : Jvm.MethodName) jdk_29_method_65_code (2 : Nat) (Option.some Jvm.ClassFile.FieldType.int), Jvm.Cond.code ({ cls := "com/example/meshwright/meshwright/grid/BlockListIndexOfPinLaw", name := "fill", desc := "([IIIIII)V" } : Jvm.MethodName) method_3_code (10 : Nat) (Option.none : Option Jvm.ClassFile.FieldType), Jvm.Cond.code ({ cls := "com/example/meshwright/meshwright/grid/BlockListIndexOfPinLaw", name := "pick", desc := "(IIII)I" } : Jvm.MethodName) method_2_code (4 : Nat) (Option.some Jvm.ClassFile.FieldType.int), Jvm.Cond.code ({ cls := "com/example/meshwright/meshwright/grid/BlockList", name := "<init>", desc := "()V" } : Jvm.MethodName) prog_103_method_1_code (1 : Nat) (Option.none : Option Jvm.ClassFile.FieldType), Jvm.Cond.code ({ cls := "java/lang/Object", name := "<init>", desc := "()V" } : Jvm.MethodName) object_method_1_code (1 : Nat) (Option.none : Option Jvm.ClassFile.FieldType), Jvm.Cond.code ({ cls := "com/example/meshwright/meshwright/grid/BlockList", name := "add", desc := "(IIII)V" } : Jvm.MethodName) prog_103_method_4_code (5 : Nat) (Option.none : Option Jvm.ClassFile.FieldType), Jvm.Cond.code ({ cls := "com/example/meshwright/meshwright/grid/BlockList", name := "add", desc := "(IIIIJ)V" } : Jvm.MethodName) prog_103_method_5_code (8 : Nat) (Option.none : Option Jvm.ClassFile.FieldType), Jvm.Cond.code ({ cls := "com/example/meshwright/meshwright/grid/BlockList", name := "truncate", desc := "(I)V" } : Jvm.MethodName) prog_103_method_10_code (2 : Nat) (Option.none : Option Jvm.ClassFile.FieldType), Jvm.Cond.code ({ cls := "java/util/Objects", name := "checkIndex", desc := "(II)I" } : Jvm.MethodName) jdk_31_method_17_code (2 : Nat) (Option.some Jvm.ClassFile.FieldType.int), Jvm.Cond.code ({ cls := "jdk/internal/util/Preconditions", name := "checkIndex", desc := "(IILjava/util/function/BiFunction;)I" } : Jvm.MethodName) jdk_41_method_11_code (3 : Nat) (Option.some Jvm.ClassFile.FieldType.int), Jvm.Cond.code ({ cls := "com/example/meshwright/meshwright/grid/BlockList", name := "indexOf", desc := "(IIII)I" } : Jvm.MethodName) prog_103_method_20_code (6 : Nat) (Option.some Jvm.ClassFile.FieldType.int), Jvm.Cond.code ({ cls := "com/example/meshwright/meshwright/grid/BlockListIndexOfPinLaw", name := "same", desc := "([II[I)Z" } : Jvm.MethodName) method_4_code (3 : Nat) (Option.some Jvm.ClassFile.FieldType.boolean)]
set_option maxRecDepth 65536 in
theorem codes_eq : words1.filter isCode = codes1 := rfl
theorem w_codes : ∀ c ∈ words1.filter isCode, c.before args0 about1 = true := by
  rw [codes_eq]
  intro c hc
  simp only [codes1, List.mem_cons, List.not_mem_nil, or_false] at hc
  rcases hc with rfl | rfl | rfl | rfl | rfl | rfl | rfl | rfl | rfl | rfl | rfl | rfl | rfl | rfl
  · exact w_c0
  · exact w_c1
  · exact w_c2
  · exact w_c3
  · exact w_c4
  · exact w_c5
  · exact w_c6
  · exact w_c7
  · exact w_c8
  · exact w_c9
  · exact w_c10
  · exact w_c11
  · exact w_c12
  · exact w_c13
set_option maxRecDepth 65536 in
theorem w_t1 : (words1.take 24).all (fun c => isCode c || c.before args0 about1) = true := by decide +kernel
set_option maxRecDepth 65536 in
theorem w_t2 : ((words1.drop 24).take 24).all (fun c => isCode c || c.before args0 about1) = true := by decide +kernel
set_option maxRecDepth 65536 in
theorem w_t3 : ((words1.drop 24).drop 24).all (fun c => isCode c || c.before args0 about1) = true := by decide +kernel
theorem w_tables : (allAtoms (Jvm.Cond.code x code maxLocals ret :: tables_1)).before args0 about1 = true := by
  rw [allAtoms_all]
  show words1.all (fun c => c.before args0 about1) = true
  refine all_split ?_ w_codes
  rw [← List.take_append_drop 24 words1, List.all_append, w_t1, ← List.take_append_drop 24 (words1.drop 24), List.all_append, w_t2, w_t3]
  rfl
set_option maxRecDepth 65536 in
theorem w_case : (Jvm.Cond.and given_1 narrow_1).before args0 about1 = true := by decide +kernel
theorem w_applies : (headSpec (Jvm.Cond.code x code maxLocals ret :: tables_1) room_1).applies x e0.platform about1 = true :=
  (Spec.applies_iff w_frames).mpr ⟨w_running, w_runnable, w_alone, w_named, w_hears, w_ripe, w_room, w_tables⟩
theorem atStart : AtStart classFile x code maxLocals ret World_1 tables_1 room_1 Calls_1 rest_1 Pre_1 launch0 p0 e0 about1 theMethod args0 below0 :=
  ⟨lists_1, trivial, launch0.admits_env _ _ _, launch0.least_env, fairChoices_fair.cas, fairChoices_fair.clock, w_frames, w_args, w_heap, w_applies, trivial, trivial, w_case⟩
end start1
theorem witness_1 : WitnessClaimed_1 := ⟨start1.p0, start1.e0, start1.about1, start1.theMethod, start1.args0, start1.below0, start1.atStart⟩
end Jvm.Pilot.@@N@@
